import JvmDerived
import JvmDerived.Pilot.@@N@@Statement
import JvmDerived.Pilot.@@N@@Code
set_option linter.unusedVariables false
set_option linter.unusedSimpArgs false
namespace Jvm.RoadKit
open Sem ClassFile Op Lib Jvm.Stand Jvm.Free Jvm.LawKit
section New
variable {p : Program} {l : Launch} {e : Env} {R : Room} {s : State} {m : MethodId} {args : Array Value} {below : List Frame} {meth : Method} {c : Code} {T : State} {locs : List Loc} {cells slots : Nat}
theorem retI (X : Stand p l e R s m args below meth c T locs cells slots) (hx : p.tables.exec = Jvm.exec) {pc : Nat} {Ls : Array Slot} {z : Int32} {rest : List Value} (hret : meth.sig.returnType = some .int) (hd : decode c.code pc = .ok (.ireturn, 1)) {fs : List Frame}
    (hl : ∀ (f : JFrame) (acts : List Action), f.method = m → f.locked = none → f.entered = [] → (doReturn e (T.setTop f) acts (some (.int z))).1 = T.setFrames fs) : Steps p.tables e below (T.setTop (mkF m pc Ls (.int z :: rest))) (T.setFrames fs) := by
  have hm' : T.vm.method? m = some meth := X.method'
  have hn : narrow .int (.int z) = .int z := rfl
  show Steps p.tables e below (T.setTop { method := m, pc := pc, locals := Ls, stack := _ :: rest, locked := none }) _
  jvm_step X.here [X.here.top, hx, hd, hm', hret, hn]
  first | (intro acts; rw [hl _ acts rfl rfl rfl]) | rw [hl _ _ rfl rfl rfl]
  exact Steps.refl _
theorem own_retA (X : Stand p l e R s m args below meth c T locs cells slots) (hx : p.tables.exec = Jvm.exec) {pc : Nat} {Ls : Array Slot} {w : Value} {t : FieldType} {rest : List Value} (hret : meth.sig.returnType = some t) (ht : t.isReference = true) (hw : w.isRef = true) (hd : decode c.code pc = .ok (.areturn, 1)) {fs : List Frame}
    (hl : ∀ (f : JFrame) (acts : List Action), f.method = m → f.locked = none → f.entered = [] → (doReturn e (T.setTop f) acts (some w)).1 = T.setFrames fs) : Steps p.tables e below (T.setTop (mkF m pc Ls (w :: rest))) (T.setFrames fs) := by
  have hm' : T.vm.method? m = some meth := X.method'
  rcases ref_cases hw with rfl | ⟨z, rfl⟩
  all_goals
    show Steps p.tables e below (T.setTop { method := m, pc := pc, locals := Ls, stack := _ :: rest, locked := none }) _
    jvm_step X.here [X.here.top, hx, hd, hm', hret, Value.isRef]
    try (refine ⟨ht, ?_⟩)
    first | (intro acts; rw [hl _ acts rfl rfl rfl]) | rw [hl _ _ rfl rfl rfl]
    exact Steps.refl _
end New
/-- from U the run comes to an end of which P tells -/
def own_Go (tb : Tables) (e : Env) (below : List Frame) (P : Outcome → State → Prop) (U : State) : Prop := ∃ s₂ o, Steps tb e below U s₂ ∧ s₂.status = .running ∧ Ended s₂ below o ∧ P o s₂
theorem own_st {tb : Tables} {e : Env} {below : List Frame} {P : Outcome → State → Prop} {U V : State} (h : ∀ t, Steps tb e below V t → Steps tb e below U t) (g : own_Go tb e below P V) : own_Go tb e below P U := by
  obtain ⟨s₂, o, h1, r⟩ := g
  exact ⟨s₂, o, h _ h1, r⟩
theorem own_tr {tb : Tables} {e : Env} {below : List Frame} {P : Outcome → State → Prop} {U V : State} (h : Steps tb e below U V) (g : own_Go tb e below P V) : own_Go tb e below P U := by
  obtain ⟨s₂, o, h1, r⟩ := g
  exact ⟨s₂, o, h.trans h1, r⟩
theorem own_end {p : Program} {l : Launch} {e : Env} {R : Room} {s : State} {m : MethodId} {args : Array Value} {below : List Frame} {meth : Method} {c : Code} {T : State} {locs : List Loc} {cells slots : Nat} (X : Stand p l e R s m args below meth c T locs cells slots) {h : Heap} (eT : T.heap = h) {v : Option Value} (hv : meth.sig.returnType = none → v = none) (hlk : meth.locks = false) {g : JFrame}
    (hst : ∀ fs, (∀ (f : JFrame) (acts : List Action), f.method = m → f.locked = none → f.entered = [] → (doReturn e (T.setTop f) acts v).1 = T.setFrames fs) → Steps p.tables e below (T.setTop g) (T.setFrames fs))
    {Q : Option Value → Heap → List Loc → Prop} (hQ : Q v h locs) {cc ss : Nat} (hc : cells ≤ cc) (hs : slots ≤ ss) :
    own_Go p.tables e below (fun o U' => ∃ v L, o = .returned v ∧ Q v U'.heap L ∧ FrameEnd s o U' L cc ss) (T.setTop g) := by
  subst eT
  obtain ⟨fs, hr, hrun, hended, hW, hsame⟩ := X.leave (v := v) hv hlk
  exact ⟨_, _, hst fs hr, hrun, hended, _, _, rfl, hQ, ⟨_, rfl⟩, hW, hsame.mono hc hs⟩
section Steps2
variable {p : Program} {l : Launch} {e : Env} {R : Room} {s : State} {m : MethodId} {args : Array Value} {below : List Frame} {meth : Method} {c : Code} {T : State} {locs : List Loc} {cells slots : Nat} {P : Outcome → State → Prop} {pc : Nat} {Ls : Array Slot} {st : List Value}
theorem o_iloadN (X : Stand p l e R s m args below meth c T locs cells slots) (hx : p.tables.exec = Jvm.exec) {k : Fin 4} {v : Int32} (hd : decode c.code pc = .ok (.iload_n k, 1)) (hl : Ls[k.val]? = some (.val (.int v))) (g : own_Go p.tables e below P (T.setTop (mkF m (pc + 1) Ls (.int v :: st)))) : own_Go p.tables e below P (T.setTop (mkF m pc Ls st)) := own_st (fun t k => XS.iloadN X.here hx rfl hd hl k) g
theorem o_iload (X : Stand p l e R s m args below meth c T locs cells slots) (hx : p.tables.exec = Jvm.exec) {k : Nat} {v : Int32} (hd : decode c.code pc = .ok (.iload k, 2)) (hl : Ls[k]? = some (.val (.int v))) (g : own_Go p.tables e below P (T.setTop (mkF m (pc + 2) Ls (.int v :: st)))) : own_Go p.tables e below P (T.setTop (mkF m pc Ls st)) := own_st (fun t k => XS.iload X.here hx rfl hd hl k) g
theorem o_lloadN (X : Stand p l e R s m args below meth c T locs cells slots) (hx : p.tables.exec = Jvm.exec) {k : Fin 4} {v : Int64} (hd : decode c.code pc = .ok (.lload_n k, 1)) (hl : Ls[k.val]? = some (.val (.long v))) (g : own_Go p.tables e below P (T.setTop (mkF m (pc + 1) Ls (.long v :: st)))) : own_Go p.tables e below P (T.setTop (mkF m pc Ls st)) := own_st (fun t k => XS.lloadN X.here hx rfl hd hl k) g
theorem o_lload (X : Stand p l e R s m args below meth c T locs cells slots) (hx : p.tables.exec = Jvm.exec) {k : Nat} {v : Int64} (hd : decode c.code pc = .ok (.lload k, 2)) (hl : Ls[k]? = some (.val (.long v))) (g : own_Go p.tables e below P (T.setTop (mkF m (pc + 2) Ls (.long v :: st)))) : own_Go p.tables e below P (T.setTop (mkF m pc Ls st)) := own_st (fun t k => XS.lload X.here hx rfl hd hl k) g
theorem o_aloadN (X : Stand p l e R s m args below meth c T locs cells slots) (hx : p.tables.exec = Jvm.exec) {k : Fin 4} {v : Value} (hd : decode c.code pc = .ok (.aload_n k, 1)) (hl : Ls[k.val]? = some (.val v)) (hv : v.isRef = true) (g : own_Go p.tables e below P (T.setTop (mkF m (pc + 1) Ls (v :: st)))) : own_Go p.tables e below P (T.setTop (mkF m pc Ls st)) := own_st (fun t k => XS.aloadN X.here hx rfl hd hl hv k) g
theorem o_aload (X : Stand p l e R s m args below meth c T locs cells slots) (hx : p.tables.exec = Jvm.exec) {k : Nat} {v : Value} (hd : decode c.code pc = .ok (.aload k, 2)) (hl : Ls[k]? = some (.val v)) (hv : v.isRef = true) (g : own_Go p.tables e below P (T.setTop (mkF m (pc + 2) Ls (v :: st)))) : own_Go p.tables e below P (T.setTop (mkF m pc Ls st)) := own_st (fun t k => XS.aload X.here hx rfl hd hl hv k) g
theorem o_istoreN (X : Stand p l e R s m args below meth c T locs cells slots) (hx : p.tables.exec = Jvm.exec) {k : Fin 4} {v : Int32} {l' : Array Slot} (hd : decode c.code pc = .ok (.istore_n k, 1)) (hl : storeLocals Ls k.val (.int v) = some l') (g : own_Go p.tables e below P (T.setTop (mkF m (pc + 1) l' st))) : own_Go p.tables e below P (T.setTop (mkF m pc Ls (.int v :: st))) := own_st (fun t k => XS.istoreN X.here hx rfl hd rfl hl k) g
theorem o_istore (X : Stand p l e R s m args below meth c T locs cells slots) (hx : p.tables.exec = Jvm.exec) {k : Nat} {v : Int32} {l' : Array Slot} (hd : decode c.code pc = .ok (.istore k, 2)) (hl : storeLocals Ls k (.int v) = some l') (g : own_Go p.tables e below P (T.setTop (mkF m (pc + 2) l' st))) : own_Go p.tables e below P (T.setTop (mkF m pc Ls (.int v :: st))) := own_st (fun t k => XS.istore X.here hx rfl hd rfl hl k) g
theorem o_lstoreN (X : Stand p l e R s m args below meth c T locs cells slots) (hx : p.tables.exec = Jvm.exec) {k : Fin 4} {v : Int64} {l' : Array Slot} (hd : decode c.code pc = .ok (.lstore_n k, 1)) (hl : storeLocals Ls k.val (.long v) = some l') (g : own_Go p.tables e below P (T.setTop (mkF m (pc + 1) l' st))) : own_Go p.tables e below P (T.setTop (mkF m pc Ls (.long v :: st))) := own_st (fun t k => XS.lstoreN X.here hx rfl hd rfl hl k) g
theorem o_lstore (X : Stand p l e R s m args below meth c T locs cells slots) (hx : p.tables.exec = Jvm.exec) {k : Nat} {v : Int64} {l' : Array Slot} (hd : decode c.code pc = .ok (.lstore k, 2)) (hl : storeLocals Ls k (.long v) = some l') (g : own_Go p.tables e below P (T.setTop (mkF m (pc + 2) l' st))) : own_Go p.tables e below P (T.setTop (mkF m pc Ls (.long v :: st))) := own_st (fun t k => XS.lstore X.here hx rfl hd rfl hl k) g
theorem o_astoreN (X : Stand p l e R s m args below meth c T locs cells slots) (hx : p.tables.exec = Jvm.exec) {k : Fin 4} {v : Value} {l' : Array Slot} (hd : decode c.code pc = .ok (.astore_n k, 1)) (hv : v.isRef = true) (hl : storeLocals Ls k.val v = some l') (g : own_Go p.tables e below P (T.setTop (mkF m (pc + 1) l' st))) : own_Go p.tables e below P (T.setTop (mkF m pc Ls (v :: st))) := own_st (fun t k => XS.astoreN X.here hx rfl hd rfl hv hl k) g
theorem o_astore (X : Stand p l e R s m args below meth c T locs cells slots) (hx : p.tables.exec = Jvm.exec) {k : Nat} {v : Value} {l' : Array Slot} (hd : decode c.code pc = .ok (.astore k, 2)) (hv : v.isRef = true) (hl : storeLocals Ls k v = some l') (g : own_Go p.tables e below P (T.setTop (mkF m (pc + 2) l' st))) : own_Go p.tables e below P (T.setTop (mkF m pc Ls (v :: st))) := own_st (fun t k => XS.astore X.here hx rfl hd rfl hv hl k) g
theorem o_iconst (X : Stand p l e R s m args below meth c T locs cells slots) (hx : p.tables.exec = Jvm.exec) {i : Int} (z : Int32) (hd : decode c.code pc = .ok (.iconst i, 1)) (hz : Int32.ofInt i = z) (g : own_Go p.tables e below P (T.setTop (mkF m (pc + 1) Ls (.int z :: st)))) : own_Go p.tables e below P (T.setTop (mkF m pc Ls st)) := by subst hz; exact own_st (fun t k => XS.iconst X.here hx rfl hd k) g
theorem o_bipush (X : Stand p l e R s m args below meth c T locs cells slots) (hx : p.tables.exec = Jvm.exec) {i : Int} (z : Int32) (hd : decode c.code pc = .ok (.bipush i, 2)) (hz : (Int8.ofInt i).toInt32 = z) (g : own_Go p.tables e below P (T.setTop (mkF m (pc + 2) Ls (.int z :: st)))) : own_Go p.tables e below P (T.setTop (mkF m pc Ls st)) := by subst hz; exact own_st (fun t k => XS.bipush X.here hx rfl hd k) g
theorem o_sipush (X : Stand p l e R s m args below meth c T locs cells slots) (hx : p.tables.exec = Jvm.exec) {i : Int} (z : Int32) (hd : decode c.code pc = .ok (.sipush i, 3)) (hz : (Int16.ofInt i).toInt32 = z) (g : own_Go p.tables e below P (T.setTop (mkF m (pc + 3) Ls (.int z :: st)))) : own_Go p.tables e below P (T.setTop (mkF m pc Ls st)) := by subst hz; exact own_st (fun t k => XS.sipush X.here hx rfl hd k) g
theorem o_lconst (X : Stand p l e R s m args below meth c T locs cells slots) (hx : p.tables.exec = Jvm.exec) {i : Fin 2} (z : Int64) (hd : decode c.code pc = .ok (.lconst i, 1)) (hz : Int64.ofNat i = z) (g : own_Go p.tables e below P (T.setTop (mkF m (pc + 1) Ls (.long z :: st)))) : own_Go p.tables e below P (T.setTop (mkF m pc Ls st)) := by subst hz; exact own_st (fun t k => XS.lconst X.here hx rfl hd k) g
theorem o_aconstNull (X : Stand p l e R s m args below meth c T locs cells slots) (hx : p.tables.exec = Jvm.exec) (hd : decode c.code pc = .ok (.aconst_null, 1)) (g : own_Go p.tables e below P (T.setTop (mkF m (pc + 1) Ls (.null :: st)))) : own_Go p.tables e below P (T.setTop (mkF m pc Ls st)) := own_st (fun t k => XS.aconstNull X.here hx rfl hd k) g
theorem o_iadd (X : Stand p l e R s m args below meth c T locs cells slots) (hx : p.tables.exec = Jvm.exec) {x y : Int32} (hd : decode c.code pc = .ok (.iadd, 1)) (g : own_Go p.tables e below P (T.setTop (mkF m (pc + 1) Ls (.int (x + y) :: st)))) : own_Go p.tables e below P (T.setTop (mkF m pc Ls (.int y :: .int x :: st))) := own_st (fun t k => XS.iadd X.here hx rfl hd rfl k) g
theorem o_ladd (X : Stand p l e R s m args below meth c T locs cells slots) (hx : p.tables.exec = Jvm.exec) {x y : Int64} (hd : decode c.code pc = .ok (.ladd, 1)) (g : own_Go p.tables e below P (T.setTop (mkF m (pc + 1) Ls (.long (x + y) :: st)))) : own_Go p.tables e below P (T.setTop (mkF m pc Ls (.long y :: .long x :: st))) := own_st (fun t k => XS.ladd X.here hx rfl hd rfl k) g
theorem o_isub (X : Stand p l e R s m args below meth c T locs cells slots) (hx : p.tables.exec = Jvm.exec) {x y : Int32} (hd : decode c.code pc = .ok (.isub, 1)) (g : own_Go p.tables e below P (T.setTop (mkF m (pc + 1) Ls (.int (x - y) :: st)))) : own_Go p.tables e below P (T.setTop (mkF m pc Ls (.int y :: .int x :: st))) := own_st (fun t k => XS.isub X.here hx rfl hd rfl k) g
theorem o_lsub (X : Stand p l e R s m args below meth c T locs cells slots) (hx : p.tables.exec = Jvm.exec) {x y : Int64} (hd : decode c.code pc = .ok (.lsub, 1)) (g : own_Go p.tables e below P (T.setTop (mkF m (pc + 1) Ls (.long (x - y) :: st)))) : own_Go p.tables e below P (T.setTop (mkF m pc Ls (.long y :: .long x :: st))) := own_st (fun t k => XS.lsub X.here hx rfl hd rfl k) g
theorem o_imul (X : Stand p l e R s m args below meth c T locs cells slots) (hx : p.tables.exec = Jvm.exec) {x y : Int32} (hd : decode c.code pc = .ok (.imul, 1)) (g : own_Go p.tables e below P (T.setTop (mkF m (pc + 1) Ls (.int (x * y) :: st)))) : own_Go p.tables e below P (T.setTop (mkF m pc Ls (.int y :: .int x :: st))) := own_st (fun t k => XS.imul X.here hx rfl hd rfl k) g
theorem o_lmul (X : Stand p l e R s m args below meth c T locs cells slots) (hx : p.tables.exec = Jvm.exec) {x y : Int64} (hd : decode c.code pc = .ok (.lmul, 1)) (g : own_Go p.tables e below P (T.setTop (mkF m (pc + 1) Ls (.long (x * y) :: st)))) : own_Go p.tables e below P (T.setTop (mkF m pc Ls (.long y :: .long x :: st))) := own_st (fun t k => XS.lmul X.here hx rfl hd rfl k) g
theorem o_iand (X : Stand p l e R s m args below meth c T locs cells slots) (hx : p.tables.exec = Jvm.exec) {x y : Int32} (hd : decode c.code pc = .ok (.iand, 1)) (g : own_Go p.tables e below P (T.setTop (mkF m (pc + 1) Ls (.int (x &&& y) :: st)))) : own_Go p.tables e below P (T.setTop (mkF m pc Ls (.int y :: .int x :: st))) := own_st (fun t k => XS.iand X.here hx rfl hd rfl k) g
theorem o_land (X : Stand p l e R s m args below meth c T locs cells slots) (hx : p.tables.exec = Jvm.exec) {x y : Int64} (hd : decode c.code pc = .ok (.land, 1)) (g : own_Go p.tables e below P (T.setTop (mkF m (pc + 1) Ls (.long (x &&& y) :: st)))) : own_Go p.tables e below P (T.setTop (mkF m pc Ls (.long y :: .long x :: st))) := own_st (fun t k => XS.land X.here hx rfl hd rfl k) g
theorem o_ior (X : Stand p l e R s m args below meth c T locs cells slots) (hx : p.tables.exec = Jvm.exec) {x y : Int32} (hd : decode c.code pc = .ok (.ior, 1)) (g : own_Go p.tables e below P (T.setTop (mkF m (pc + 1) Ls (.int (x ||| y) :: st)))) : own_Go p.tables e below P (T.setTop (mkF m pc Ls (.int y :: .int x :: st))) := own_st (fun t k => XS.ior X.here hx rfl hd rfl k) g
theorem o_lor (X : Stand p l e R s m args below meth c T locs cells slots) (hx : p.tables.exec = Jvm.exec) {x y : Int64} (hd : decode c.code pc = .ok (.lor, 1)) (g : own_Go p.tables e below P (T.setTop (mkF m (pc + 1) Ls (.long (x ||| y) :: st)))) : own_Go p.tables e below P (T.setTop (mkF m pc Ls (.long y :: .long x :: st))) := own_st (fun t k => XS.lor X.here hx rfl hd rfl k) g
theorem o_ixor (X : Stand p l e R s m args below meth c T locs cells slots) (hx : p.tables.exec = Jvm.exec) {x y : Int32} (hd : decode c.code pc = .ok (.ixor, 1)) (g : own_Go p.tables e below P (T.setTop (mkF m (pc + 1) Ls (.int (x ^^^ y) :: st)))) : own_Go p.tables e below P (T.setTop (mkF m pc Ls (.int y :: .int x :: st))) := own_st (fun t k => XS.ixor X.here hx rfl hd rfl k) g
theorem o_lxor (X : Stand p l e R s m args below meth c T locs cells slots) (hx : p.tables.exec = Jvm.exec) {x y : Int64} (hd : decode c.code pc = .ok (.lxor, 1)) (g : own_Go p.tables e below P (T.setTop (mkF m (pc + 1) Ls (.long (x ^^^ y) :: st)))) : own_Go p.tables e below P (T.setTop (mkF m pc Ls (.long y :: .long x :: st))) := own_st (fun t k => XS.lxor X.here hx rfl hd rfl k) g
theorem o_idiv (X : Stand p l e R s m args below meth c T locs cells slots) (hx : p.tables.exec = Jvm.exec) {x y : Int32} (hd : decode c.code pc = .ok (.idiv, 1)) (hy : y ≠ 0) (g : own_Go p.tables e below P (T.setTop (mkF m (pc + 1) Ls (.int (x / y) :: st)))) : own_Go p.tables e below P (T.setTop (mkF m pc Ls (.int y :: .int x :: st))) := own_st (fun t k => XS.idiv X.here hx rfl hd rfl hy k) g
theorem o_irem (X : Stand p l e R s m args below meth c T locs cells slots) (hx : p.tables.exec = Jvm.exec) {x y : Int32} (hd : decode c.code pc = .ok (.irem, 1)) (hy : y ≠ 0) (g : own_Go p.tables e below P (T.setTop (mkF m (pc + 1) Ls (.int (x - x / y * y) :: st)))) : own_Go p.tables e below P (T.setTop (mkF m pc Ls (.int y :: .int x :: st))) := own_st (fun t k => XS.irem X.here hx rfl hd rfl hy k) g
theorem o_ldiv (X : Stand p l e R s m args below meth c T locs cells slots) (hx : p.tables.exec = Jvm.exec) {x y : Int64} (hd : decode c.code pc = .ok (.ldiv, 1)) (hy : y ≠ 0) (g : own_Go p.tables e below P (T.setTop (mkF m (pc + 1) Ls (.long (x / y) :: st)))) : own_Go p.tables e below P (T.setTop (mkF m pc Ls (.long y :: .long x :: st))) := own_st (fun t k => XS.ldiv X.here hx rfl hd rfl hy k) g
theorem o_lrem (X : Stand p l e R s m args below meth c T locs cells slots) (hx : p.tables.exec = Jvm.exec) {x y : Int64} (hd : decode c.code pc = .ok (.lrem, 1)) (hy : y ≠ 0) (g : own_Go p.tables e below P (T.setTop (mkF m (pc + 1) Ls (.long (x - x / y * y) :: st)))) : own_Go p.tables e below P (T.setTop (mkF m pc Ls (.long y :: .long x :: st))) := own_st (fun t k => XS.lrem X.here hx rfl hd rfl hy k) g
theorem o_ineg (X : Stand p l e R s m args below meth c T locs cells slots) (hx : p.tables.exec = Jvm.exec) {x : Int32} (hd : decode c.code pc = .ok (.ineg, 1)) (g : own_Go p.tables e below P (T.setTop (mkF m (pc + 1) Ls (.int ((-x)) :: st)))) : own_Go p.tables e below P (T.setTop (mkF m pc Ls (.int x :: st))) := own_st (fun t k => XS.ineg X.here hx rfl hd rfl k) g
theorem o_lneg (X : Stand p l e R s m args below meth c T locs cells slots) (hx : p.tables.exec = Jvm.exec) {x : Int64} (hd : decode c.code pc = .ok (.lneg, 1)) (g : own_Go p.tables e below P (T.setTop (mkF m (pc + 1) Ls (.long ((-x)) :: st)))) : own_Go p.tables e below P (T.setTop (mkF m pc Ls (.long x :: st))) := own_st (fun t k => XS.lneg X.here hx rfl hd rfl k) g
theorem o_i2l (X : Stand p l e R s m args below meth c T locs cells slots) (hx : p.tables.exec = Jvm.exec) {x : Int32} (hd : decode c.code pc = .ok (.i2l, 1)) (g : own_Go p.tables e below P (T.setTop (mkF m (pc + 1) Ls (.long (x.toInt64) :: st)))) : own_Go p.tables e below P (T.setTop (mkF m pc Ls (.int x :: st))) := own_st (fun t k => XS.i2l X.here hx rfl hd rfl k) g
theorem o_l2i (X : Stand p l e R s m args below meth c T locs cells slots) (hx : p.tables.exec = Jvm.exec) {x : Int64} (hd : decode c.code pc = .ok (.l2i, 1)) (g : own_Go p.tables e below P (T.setTop (mkF m (pc + 1) Ls (.int (x.toInt32) :: st)))) : own_Go p.tables e below P (T.setTop (mkF m pc Ls (.long x :: st))) := own_st (fun t k => XS.l2i X.here hx rfl hd rfl k) g
theorem o_i2b (X : Stand p l e R s m args below meth c T locs cells slots) (hx : p.tables.exec = Jvm.exec) {x : Int32} (hd : decode c.code pc = .ok (.i2b, 1)) (g : own_Go p.tables e below P (T.setTop (mkF m (pc + 1) Ls (.int (x.toInt8.toInt32) :: st)))) : own_Go p.tables e below P (T.setTop (mkF m pc Ls (.int x :: st))) := own_st (fun t k => XS.i2b X.here hx rfl hd rfl k) g
theorem o_i2s (X : Stand p l e R s m args below meth c T locs cells slots) (hx : p.tables.exec = Jvm.exec) {x : Int32} (hd : decode c.code pc = .ok (.i2s, 1)) (g : own_Go p.tables e below P (T.setTop (mkF m (pc + 1) Ls (.int (x.toInt16.toInt32) :: st)))) : own_Go p.tables e below P (T.setTop (mkF m pc Ls (.int x :: st))) := own_st (fun t k => XS.i2s X.here hx rfl hd rfl k) g
theorem o_i2c (X : Stand p l e R s m args below meth c T locs cells slots) (hx : p.tables.exec = Jvm.exec) {x : Int32} (hd : decode c.code pc = .ok (.i2c, 1)) (g : own_Go p.tables e below P (T.setTop (mkF m (pc + 1) Ls (.int (x.toUInt32.toUInt16.toUInt32.toInt32) :: st)))) : own_Go p.tables e below P (T.setTop (mkF m pc Ls (.int x :: st))) := own_st (fun t k => XS.i2c X.here hx rfl hd rfl k) g
theorem o_ishl (X : Stand p l e R s m args below meth c T locs cells slots) (hx : p.tables.exec = Jvm.exec) {x : Int32} {y : Int32} (hd : decode c.code pc = .ok (.ishl, 1)) (g : own_Go p.tables e below P (T.setTop (mkF m (pc + 1) Ls (.int (x <<< (y &&& 31)) :: st)))) : own_Go p.tables e below P (T.setTop (mkF m pc Ls (.int y :: .int x :: st))) := own_st (fun t k => XS.ishl X.here hx rfl hd rfl k) g
theorem o_ishr (X : Stand p l e R s m args below meth c T locs cells slots) (hx : p.tables.exec = Jvm.exec) {x : Int32} {y : Int32} (hd : decode c.code pc = .ok (.ishr, 1)) (g : own_Go p.tables e below P (T.setTop (mkF m (pc + 1) Ls (.int (x >>> (y &&& 31)) :: st)))) : own_Go p.tables e below P (T.setTop (mkF m pc Ls (.int y :: .int x :: st))) := own_st (fun t k => XS.ishr X.here hx rfl hd rfl k) g
theorem o_iushr (X : Stand p l e R s m args below meth c T locs cells slots) (hx : p.tables.exec = Jvm.exec) {x : Int32} {y : Int32} (hd : decode c.code pc = .ok (.iushr, 1)) (g : own_Go p.tables e below P (T.setTop (mkF m (pc + 1) Ls (.int ((x.toUInt32 >>> (y &&& 31).toUInt32).toInt32) :: st)))) : own_Go p.tables e below P (T.setTop (mkF m pc Ls (.int y :: .int x :: st))) := own_st (fun t k => XS.iushr X.here hx rfl hd rfl k) g
theorem o_lshl (X : Stand p l e R s m args below meth c T locs cells slots) (hx : p.tables.exec = Jvm.exec) {x : Int64} {y : Int32} (hd : decode c.code pc = .ok (.lshl, 1)) (g : own_Go p.tables e below P (T.setTop (mkF m (pc + 1) Ls (.long (x <<< (y &&& 0x3f).toInt64) :: st)))) : own_Go p.tables e below P (T.setTop (mkF m pc Ls (.int y :: .long x :: st))) := own_st (fun t k => XS.lshl X.here hx rfl hd rfl k) g
theorem o_lshr (X : Stand p l e R s m args below meth c T locs cells slots) (hx : p.tables.exec = Jvm.exec) {x : Int64} {y : Int32} (hd : decode c.code pc = .ok (.lshr, 1)) (g : own_Go p.tables e below P (T.setTop (mkF m (pc + 1) Ls (.long (x >>> (y &&& 0x3f).toInt64) :: st)))) : own_Go p.tables e below P (T.setTop (mkF m pc Ls (.int y :: .long x :: st))) := own_st (fun t k => XS.lshr X.here hx rfl hd rfl k) g
theorem o_lushr (X : Stand p l e R s m args below meth c T locs cells slots) (hx : p.tables.exec = Jvm.exec) {x : Int64} {y : Int32} (hd : decode c.code pc = .ok (.lushr, 1)) (g : own_Go p.tables e below P (T.setTop (mkF m (pc + 1) Ls (.long ((x.toUInt64 >>> (y &&& 0x3f).toInt64.toUInt64).toInt64) :: st)))) : own_Go p.tables e below P (T.setTop (mkF m pc Ls (.int y :: .long x :: st))) := own_st (fun t k => XS.lushr X.here hx rfl hd rfl k) g
theorem o_lcmp (X : Stand p l e R s m args below meth c T locs cells slots) (hx : p.tables.exec = Jvm.exec) {x y : Int64} (hd : decode c.code pc = .ok (.lcmp, 1)) (g : own_Go p.tables e below P (T.setTop (mkF m (pc + 1) Ls (.int (lcmpW x y) :: st)))) : own_Go p.tables e below P (T.setTop (mkF m pc Ls (.long y :: .long x :: st))) := own_st (fun t k => XS.lcmp X.here hx rfl hd rfl k) g
theorem o_iinc (X : Stand p l e R s m args below meth c T locs cells slots) (hx : p.tables.exec = Jvm.exec) {k : Nat} {cst : Int} {x : Int32} {l' : Array Slot} (hd : decode c.code pc = .ok (.iinc k cst, 3)) (hl : Ls[k]? = some (.val (.int x))) (hl' : storeLocals Ls k (.int (x + Int32.ofInt cst)) = some l') (g : own_Go p.tables e below P (T.setTop (mkF m (pc + 3) l' st))) : own_Go p.tables e below P (T.setTop (mkF m pc Ls st)) := own_st (fun t k => XS.iinc X.here hx rfl hd hl hl' k) g
theorem o_dup (X : Stand p l e R s m args below meth c T locs cells slots) (hx : p.tables.exec = Jvm.exec) {x : Value} (hd : decode c.code pc = .ok (.dup, 1)) (hc : x.category = 1) (g : own_Go p.tables e below P (T.setTop (mkF m (pc + 1) Ls (x :: x :: st)))) : own_Go p.tables e below P (T.setTop (mkF m pc Ls (x :: st))) := own_st (fun t k => XS.dup X.here hx rfl hd rfl hc k) g
theorem o_pop (X : Stand p l e R s m args below meth c T locs cells slots) (hx : p.tables.exec = Jvm.exec) {x : Value} (hd : decode c.code pc = .ok (.pop, 1)) (hc : x.category = 1) (g : own_Go p.tables e below P (T.setTop (mkF m (pc + 1) Ls st))) : own_Go p.tables e below P (T.setTop (mkF m pc Ls (x :: st))) := own_st (fun t k => XS.pop X.here hx rfl hd rfl hc k) g
theorem o_dupX1 (X : Stand p l e R s m args below meth c T locs cells slots) (hx : p.tables.exec = Jvm.exec) {x y : Value} (hd : decode c.code pc = .ok (.dup_x1, 1)) (hc : x.category = 1) (hc' : y.category = 1) (g : own_Go p.tables e below P (T.setTop (mkF m (pc + 1) Ls (x :: y :: x :: st)))) : own_Go p.tables e below P (T.setTop (mkF m pc Ls (x :: y :: st))) := own_st (fun t k => XS.dupX1 X.here hx rfl hd rfl hc hc' k) g
theorem o_dup2 (X : Stand p l e R s m args below meth c T locs cells slots) (hx : p.tables.exec = Jvm.exec) {x y : Value} (hd : decode c.code pc = .ok (.dup2, 1)) (hc : x.category = 1) (hc' : y.category = 1) (g : own_Go p.tables e below P (T.setTop (mkF m (pc + 1) Ls (x :: y :: x :: y :: st)))) : own_Go p.tables e below P (T.setTop (mkF m pc Ls (x :: y :: st))) := own_st (fun t k => Jvm.Free.XT.dup2 X.here hx rfl hd rfl hc hc' k) g
theorem o_goto (X : Stand p l e R s m args below meth c T locs cells slots) (hx : p.tables.exec = Jvm.exec) {o : Int} {pc' : Nat} (hd : decode c.code pc = .ok (.goto o, 3)) (ho : 0 ≤ (pc : Int) + o) (hp : ((pc : Int) + o).toNat = pc') (g : own_Go p.tables e below P (T.setTop (mkF m pc' Ls st))) : own_Go p.tables e below P (T.setTop (mkF m pc Ls st)) := own_st (fun t k => XS.goto X.here hx rfl rfl hd ho hp k) g
theorem o_ifYes (X : Stand p l e R s m args below meth c T locs cells slots) (hx : p.tables.exec = Jvm.exec) {cd : ClassFile.Cond} {x : Int32} {o : Int} {pc' : Nat} (hd : decode c.code pc = .ok (.ifCond cd o, 3)) (hc : if_icmp.holds cd x 0 = true) (ho : 0 ≤ (pc : Int) + o) (hp : ((pc : Int) + o).toNat = pc') (g : own_Go p.tables e below P (T.setTop (mkF m pc' Ls st))) : own_Go p.tables e below P (T.setTop (mkF m pc Ls (.int x :: st))) := own_st (fun t k => XS.ifYes X.here hx rfl rfl hd rfl ((if0 _ _).trans hc) ho hp k) g
theorem o_ifNo (X : Stand p l e R s m args below meth c T locs cells slots) (hx : p.tables.exec = Jvm.exec) {cd : ClassFile.Cond} {x : Int32} {o : Int} (hd : decode c.code pc = .ok (.ifCond cd o, 3)) (hc : if_icmp.holds cd x 0 = false) (g : own_Go p.tables e below P (T.setTop (mkF m (pc + 3) Ls st))) : own_Go p.tables e below P (T.setTop (mkF m pc Ls (.int x :: st))) := own_st (fun t k => XS.ifNo X.here hx rfl hd rfl ((if0 _ _).trans hc) k) g
theorem o_icmpYes (X : Stand p l e R s m args below meth c T locs cells slots) (hx : p.tables.exec = Jvm.exec) {cd : ClassFile.Cond} {x y : Int32} {o : Int} {pc' : Nat} (hd : decode c.code pc = .ok (.if_icmp cd o, 3)) (hc : if_icmp.holds cd x y = true) (ho : 0 ≤ (pc : Int) + o) (hp : ((pc : Int) + o).toNat = pc') (g : own_Go p.tables e below P (T.setTop (mkF m pc' Ls st))) : own_Go p.tables e below P (T.setTop (mkF m pc Ls (.int y :: .int x :: st))) := own_st (fun t k => XS.icmpYes X.here hx rfl rfl hd rfl hc ho hp k) g
theorem o_icmpNo (X : Stand p l e R s m args below meth c T locs cells slots) (hx : p.tables.exec = Jvm.exec) {cd : ClassFile.Cond} {x y : Int32} {o : Int} (hd : decode c.code pc = .ok (.if_icmp cd o, 3)) (hc : if_icmp.holds cd x y = false) (g : own_Go p.tables e below P (T.setTop (mkF m (pc + 3) Ls st))) : own_Go p.tables e below P (T.setTop (mkF m pc Ls (.int y :: .int x :: st))) := own_st (fun t k => XS.icmpNo X.here hx rfl hd rfl hc k) g
theorem o_ifnullYes (X : Stand p l e R s m args below meth c T locs cells slots) (hx : p.tables.exec = Jvm.exec) {o : Int} {pc' : Nat} (hd : decode c.code pc = .ok (.ifnull o, 3)) (ho : 0 ≤ (pc : Int) + o) (hp : ((pc : Int) + o).toNat = pc') (g : own_Go p.tables e below P (T.setTop (mkF m pc' Ls st))) : own_Go p.tables e below P (T.setTop (mkF m pc Ls (.null :: st))) := own_st (fun t k => XS.ifnullYes X.here hx rfl rfl hd rfl ho hp k) g
theorem o_ifnullNo (X : Stand p l e R s m args below meth c T locs cells slots) (hx : p.tables.exec = Jvm.exec) {o : Int} {b : Addr} (hd : decode c.code pc = .ok (.ifnull o, 3)) (g : own_Go p.tables e below P (T.setTop (mkF m (pc + 3) Ls st))) : own_Go p.tables e below P (T.setTop (mkF m pc Ls (.ref b :: st))) := own_st (fun t k => XS.ifnullNo X.here hx rfl hd rfl k) g
theorem o_ifnonnullNo (X : Stand p l e R s m args below meth c T locs cells slots) (hx : p.tables.exec = Jvm.exec) {o : Int} (hd : decode c.code pc = .ok (.ifnonnull o, 3)) (g : own_Go p.tables e below P (T.setTop (mkF m (pc + 3) Ls st))) : own_Go p.tables e below P (T.setTop (mkF m pc Ls (.null :: st))) := own_st (fun t k => XS.ifnonnullNo X.here hx rfl hd rfl k) g
theorem o_ifnonnullYes (X : Stand p l e R s m args below meth c T locs cells slots) (hx : p.tables.exec = Jvm.exec) {o : Int} {b : Addr} {pc' : Nat} (hd : decode c.code pc = .ok (.ifnonnull o, 3)) (ho : 0 ≤ (pc : Int) + o) (hp : ((pc : Int) + o).toNat = pc') (g : own_Go p.tables e below P (T.setTop (mkF m pc' Ls st))) : own_Go p.tables e below P (T.setTop (mkF m pc Ls (.ref b :: st))) := own_st (fun t k => XS.ifnonnullYes X.here hx rfl rfl hd rfl ho hp k) g
theorem o_ldc (X : Stand p l e R s m args below meth c T locs cells slots) (hx : p.tables.exec = Jvm.exec) {own : String} {index : Nat} {v : Int32} (hown : s.vm.findClass own = some m.cls) (hd : decode c.code pc = .ok (.ldc index, 2)) (hk : (Cond.constant own index v).before args s = true) (g : own_Go p.tables e below P (T.setTop (mkF m (pc + 2) Ls (.int v :: st)))) : own_Go p.tables e below P (T.setTop (mkF m pc Ls st)) := own_st (X.ldcInt hx hown hk (g := mkF m pc Ls st) rfl hd) g
theorem o_ldc2 (X : Stand p l e R s m args below meth c T locs cells slots) (hx : p.tables.exec = Jvm.exec) {own : String} {index : Nat} {v : Int64} (hown : s.vm.findClass own = some m.cls) (hd : decode c.code pc = .ok (.ldc2_w index, 3)) (hk : (Cond.constantLong own index v).before args s = true) (g : own_Go p.tables e below P (T.setTop (mkF m (pc + 3) Ls (.long v :: st)))) : own_Go p.tables e below P (T.setTop (mkF m pc Ls st)) := own_st (X.ldc2Long hx hown hk (g := mkF m pc Ls st) rfl hd) g
end Steps2
end Jvm.RoadKit
namespace Jvm.Pilot.@@N@@
open Jvm Jvm.ClassFile Sem Op Lib Jvm.Free Jvm.Stand Jvm.LawKit Jvm.RoadKit Bundle Jvm.Pilot.@@N@@.Jvm.D
def own_LI (g : Nat → Int32) (N : Int32) : List Value := (List.range N.toNatClampNeg).map fun j => .int (g j)
def own_LJ (g : Nat → Int64) (N : Int32) : List Value := (List.range N.toNatClampNeg).map fun j => .long (g j)
def own_up {α : Type} (g : Nat → α) (j : Nat) (v : α) : Nat → α := fun i => if i = j then v else g i
theorem own_tn {j : Int32} (h0 : ¬ j < 0) : (j.toNatClampNeg : Int) = j.toInt := by
  rw [Int32.lt_iff_toInt_lt] at h0
  have e0 : (0 : Int32).toInt = 0 := rfl
  simp only [Int32.toNatClampNeg] at *; omega
theorem own_tlt {j N : Int32} (h0 : ¬ j < 0) (h : j < N) : j.toNatClampNeg < N.toNatClampNeg := by
  rw [Int32.lt_iff_toInt_lt] at h0 h
  have e0 : (0 : Int32).toInt = 0 := rfl
  simp only [Int32.toNatClampNeg] at *; omega
theorem own_LI_len (g : Nat → Int32) (N : Int32) : (own_LI g N).length = N.toNatClampNeg := by simp [own_LI]
theorem own_LJ_len (g : Nat → Int64) (N : Int32) : (own_LJ g N).length = N.toNatClampNeg := by simp [own_LJ]
theorem own_LI_lt {g : Nat → Int32} {j N : Int32} (h0 : ¬ j < 0) (h : j < N) : j.toNatClampNeg < (own_LI g N).length := by rw [own_LI_len]; exact own_tlt h0 h
theorem own_LJ_lt {g : Nat → Int64} {j N : Int32} (h0 : ¬ j < 0) (h : j < N) : j.toNatClampNeg < (own_LJ g N).length := by rw [own_LJ_len]; exact own_tlt h0 h
theorem own_LI_get {g : Nat → Int32} {j N : Int32} {d : Value} (h0 : ¬ j < 0) (h : j < N) : (own_LI g N).getD j.toNatClampNeg d = .int (g j.toNatClampNeg) := by
  have q := own_tlt h0 h
  simp [own_LI, List.getD_eq_getElem?_getD, q]
theorem own_LJ_get {g : Nat → Int64} {j N : Int32} {d : Value} (h0 : ¬ j < 0) (h : j < N) : (own_LJ g N).getD j.toNatClampNeg d = .long (g j.toNatClampNeg) := by
  have q := own_tlt h0 h
  simp [own_LJ, List.getD_eq_getElem?_getD, q]
theorem own_LI_set (g : Nat → Int32) (N : Int32) (j : Nat) (v : Int32) : (own_LI g N).set j (.int v) = own_LI (own_up g j v) N := by
  apply List.ext_getElem
  · simp [own_LI]
  · intro i h1 h2
    simp only [own_LI, List.getElem_set, List.getElem_map, List.getElem_range, own_up]
    by_cases q : j = i
    · subst q; simp
    · rw [if_neg q, if_neg (Ne.symm q)]
theorem own_LJ_set (g : Nat → Int64) (N : Int32) (j : Nat) (v : Int64) : (own_LJ g N).set j (.long v) = own_LJ (own_up g j v) N := by
  apply List.ext_getElem
  · simp [own_LJ]
  · intro i h1 h2
    simp only [own_LJ, List.getElem_set, List.getElem_map, List.getElem_range, own_up]
    by_cases q : j = i
    · subst q; simp
    · rw [if_neg q, if_neg (Ne.symm q)]
theorem own_LI_cg {g g' : Nat → Int32} {N : Int32} (h : ∀ j : Nat, (j : Int) < N.toInt → g j = g' j) : own_LI g N = own_LI g' N := by
  apply List.map_congr_left
  intro a ha
  rw [List.mem_range] at ha
  rw [h a (by simp only [Int32.toNatClampNeg] at ha; omega)]
theorem own_LI_pad (N : Int32) : ∀ i, (own_LI (fun _ => (0 : Int32)) N).getD i (.int (0 : Int32)) = ([] : List Value).getD i (.int (0 : Int32)) := fun i => by
  simp only [own_LI, List.getD_eq_getElem?_getD, List.getElem?_map]
  by_cases q : i < N.toNatClampNeg
  · simp [q]
  · simp [Nat.le_of_not_lt q]
theorem own_LJ_pad (N : Int32) : ∀ i, (own_LJ (fun _ => (0 : Int64)) N).getD i (.long (0 : Int64)) = ([] : List Value).getD i (.long (0 : Int64)) := fun i => by
  simp only [own_LJ, List.getD_eq_getElem?_getD, List.getElem?_map]
  by_cases q : i < N.toNatClampNeg
  · simp [q]
  · simp [Nat.le_of_not_lt q]
theorem own_f0 {i N : Int32} (h1 : ¬ N < i) (hfu : N.toInt - i.toInt < ((0 : Nat) : Int)) : False := by
  rw [Int32.lt_iff_toInt_lt] at h1; omega
theorem own_nx {i N : Int32} (h0 : ¬ i < 0) (h : i < N) : (i + (1 : Int32)).toInt = i.toInt + 1 := by
  have q := c_iadd i (1 : Int32)
  have b1 := (i + (1 : Int32)).toInt_lt; have b2 := (i + (1 : Int32)).le_toInt
  have b3 := N.toInt_lt
  rw [Int32.lt_iff_toInt_lt] at h0 h
  have e0 : (0 : Int32).toInt = 0 := rfl
  have e1 : (1 : Int32).toInt = 1 := rfl
  omega
theorem own_nx0 {i N : Int32} (h0 : ¬ i < 0) (h : i < N) : ¬ (i + (1 : Int32)) < 0 := by
  have q := own_nx h0 h
  rw [Int32.lt_iff_toInt_lt] at h0 ⊢
  have e0 : (0 : Int32).toInt = 0 := rfl
  omega
theorem own_nx1 {i N : Int32} (h0 : ¬ i < 0) (h : i < N) : ¬ N < (i + (1 : Int32)) := by
  have q := own_nx h0 h
  rw [Int32.lt_iff_toInt_lt] at h ⊢
  omega
theorem own_fS {i N : Int32} {fuel : Nat} (h0 : ¬ i < 0) (h : i < N) (hfu : N.toInt - i.toInt < ((fuel + 1 : Nat) : Int)) : N.toInt - (i + (1 : Int32)).toInt < (fuel : Int) := by
  have q := own_nx h0 h
  omega
theorem own_ff {N : Int32} (h0 : ¬ N < 0) : N.toInt - (0 : Int32).toInt < ((N.toNatClampNeg + 1 : Nat) : Int) := by
  have q := own_tn h0
  have e0 : (0 : Int32).toInt = 0 := rfl
  omega
theorem own_all0 {P : Nat → Prop} : ∀ j : Nat, (j : Int) < (0 : Int32).toInt → P j := fun j h => by
  have e0 : (0 : Int32).toInt = 0 := rfl
  omega
theorem own_step {α : Type} {P : Nat → α → Prop} {g : Nat → α} {i N : Int32} {v : α} (h0 : ¬ i < 0) (h : i < N) (H : ∀ j : Nat, (j : Int) < i.toInt → P j (g j)) (hv : P i.toNatClampNeg v) : ∀ j : Nat, (j : Int) < (i + (1 : Int32)).toInt → P j (own_up g i.toNatClampNeg v j) := fun j hj => by
  have q := own_nx h0 h
  have t := own_tn h0
  unfold own_up
  by_cases u : j = i.toNatClampNeg
  · rw [if_pos u]; subst u; exact hv
  · rw [if_neg u]; exact H j (by omega)
theorem own_atN {P : Nat → Prop} {i N : Int32} (h1 : ¬ N < i) (he : ¬ i < N) (H : ∀ j : Nat, (j : Int) < i.toInt → P j) : ∀ j : Nat, (j : Int) < N.toInt → P j := fun j hj => H j (by
  rw [Int32.lt_iff_toInt_lt] at h1 he; omega)
theorem own_jN {i N : Int32} (h0 : ¬ i < 0) (h : i < N) : (i.toNatClampNeg : Int) < N.toInt := by
  rw [own_tn h0]; exact Int32.lt_iff_toInt_lt.mp h
def own_inv (b c i : Int32) : Prop := 64 * b.toInt + c.toInt = i.toInt ∧ 0 ≤ b.toInt ∧ 0 ≤ c.toInt ∧ c.toInt ≤ 64 ∧ (c.toInt = 0 → b.toInt = 0)
theorem own_inv0 : own_inv (0 : Int32) (0 : Int32) (0 : Int32) := by refine ⟨rfl, ?_, ?_, ?_, fun _ => rfl⟩ <;> decide
theorem own_invN {b c i N : Int32} (h0 : ¬ i < 0) (h : i < N) (h2 : ¬ (256 : Int32) < N) (I : own_inv b c i) (hq : ¬ (64 : Int32) < (c + (1 : Int32))) : own_inv b (c + (1 : Int32)) (i + (1 : Int32)) ∧ b.toInt = (i.toNatClampNeg : Int) / 64 ∧ c.toInt = (i.toNatClampNeg : Int) % 64 := by
  obtain ⟨i1, i2, i3, i4, i5⟩ := I
  have q := own_nx h0 h
  rw [own_tn h0]
  have qa := c_iadd c (1 : Int32)
  have b1 := (c + (1 : Int32)).toInt_lt; have b2 := (c + (1 : Int32)).le_toInt
  rw [Int32.lt_iff_toInt_lt] at h0 h h2 hq
  have e1 : (1 : Int32).toInt = 1 := rfl
  have e64 : (64 : Int32).toInt = 64 := rfl
  unfold own_inv
  omega
theorem own_invY {b c i N : Int32} (h0 : ¬ i < 0) (h : i < N) (h2 : ¬ (256 : Int32) < N) (I : own_inv b c i) (hq : (64 : Int32) < (c + (1 : Int32))) : own_inv (b + (1 : Int32)) (1 : Int32) (i + (1 : Int32)) ∧ (b + (1 : Int32)).toInt = (i.toNatClampNeg : Int) / 64 ∧ (0 : Int32).toInt = (i.toNatClampNeg : Int) % 64 := by
  obtain ⟨i1, i2, i3, i4, i5⟩ := I
  have q := own_nx h0 h
  rw [own_tn h0]
  have qa := c_iadd c (1 : Int32)
  have b1 := (c + (1 : Int32)).toInt_lt; have b2 := (c + (1 : Int32)).le_toInt
  have qb := c_iadd b (1 : Int32)
  have b3 := (b + (1 : Int32)).toInt_lt; have b4 := (b + (1 : Int32)).le_toInt
  rw [Int32.lt_iff_toInt_lt] at h0 h h2 hq
  have e0 : (0 : Int32).toInt = 0 := rfl
  have e1 : (1 : Int32).toInt = 1 := rfl
  have e64 : (64 : Int32).toInt = 64 := rfl
  have e256 : (256 : Int32).toInt = 256 := rfl
  unfold own_inv
  omega
def own_nw (N : Int32) (W : Int) : Prop := 64 * (W - 1) < N.toInt ∧ N.toInt ≤ 64 * W
theorem own_b4 {b c i N : Int32} (hN1 : ¬ N < (1 : Int32)) (hN2 : ¬ (256 : Int32) < N) (I : own_inv b c i) (h1 : ¬ N < i) (he : ¬ i < N) : (b = (0 : Int32) ∧ own_nw N 1) ∨ (b = (1 : Int32) ∧ own_nw N 2) ∨ (b = (2 : Int32) ∧ own_nw N 3) ∨ (b = (3 : Int32) ∧ own_nw N 4) := by
  obtain ⟨i1, i2, i3, i4, i5⟩ := I
  rw [Int32.lt_iff_toInt_lt] at hN1 hN2 h1 he
  simp only [← Int32.toInt_inj, own_nw]
  have e0 : (0 : Int32).toInt = 0 := rfl
  have e1 : (1 : Int32).toInt = 1 := rfl
  have e2 : (2 : Int32).toInt = 2 := rfl
  have e3 : (3 : Int32).toInt = 3 := rfl
  have e256 : (256 : Int32).toInt = 256 := rfl
  omega
def own_cl (i K : Int) : Int := if i ≤ 64 * K then 0 else if 64 * K + 64 ≤ i then 64 else i - 64 * K
theorem own_cl0 {K : Int} (h : 0 ≤ K) : (0 : Int32).toInt = own_cl (0 : Int32).toInt K := by
  have e0 : (0 : Int32).toInt = 0 := rfl
  rw [e0]; unfold own_cl; rw [if_pos (by omega)]
theorem own_clS {i N x y : Int32} {K : Int} (h0 : ¬ i < 0) (h : i < N) (hg : x.toInt = (i.toNatClampNeg : Int) / 64) (hk : x.toInt = K) (hy : y.toInt = own_cl i.toInt K) : (y + (1 : Int32)).toInt = own_cl (i + (1 : Int32)).toInt K := by
  have q := own_nx h0 h
  rw [own_tn h0] at hg
  have qa := c_iadd y (1 : Int32)
  have b1 := (y + (1 : Int32)).toInt_lt; have b2 := (y + (1 : Int32)).le_toInt
  have e1 : (1 : Int32).toInt = 1 := rfl
  rw [Int32.lt_iff_toInt_lt] at h0
  have e0 : (0 : Int32).toInt = 0 := rfl
  unfold own_cl at *
  repeat' split at hy
  all_goals repeat' split
  all_goals omega
theorem own_clO {i N x y : Int32} {K K' : Int} (h0 : ¬ i < 0) (h : i < N) (hg : x.toInt = (i.toNatClampNeg : Int) / 64) (hk : x.toInt = K') (hne : K ≠ K') (hy : y.toInt = own_cl i.toInt K) : y.toInt = own_cl (i + (1 : Int32)).toInt K := by
  have q := own_nx h0 h
  rw [own_tn h0] at hg
  rw [Int32.lt_iff_toInt_lt] at h0
  have e0 : (0 : Int32).toInt = 0 := rfl
  rw [hy]; unfold own_cl
  repeat' split
  all_goals omega
theorem own_clN {i N y : Int32} {K : Int} (h1 : ¬ N < i) (he : ¬ i < N) (hy : y.toInt = own_cl i.toInt K) : y.toInt = own_cl N.toInt K := by
  have : i.toInt = N.toInt := by rw [Int32.lt_iff_toInt_lt] at h1 he; omega
  rw [hy, this]
theorem own_clb {n K : Int} : 0 ≤ own_cl n K ∧ own_cl n K ≤ 64 := by
  unfold own_cl; repeat' split
  all_goals omega
theorem own_clnn {y : Int32} {n K : Int} (hy : y.toInt = own_cl n K) : ¬ y < 0 := by
  have b := own_clb (n := n) (K := K)
  rw [Int32.lt_iff_toInt_lt]
  have e0 : (0 : Int32).toInt = 0 := rfl
  omega
theorem own_clcap {y : Int32} {n K : Int} (hy : y.toInt = own_cl n K) : y.toNatClampNeg ≤ 64 := by
  have b := own_clb (n := n) (K := K)
  simp only [Int32.toNatClampNeg]; omega
theorem own_clt {i N x y z : Int32} {K : Int} (h0 : ¬ i < 0) (h : i < N) (hg : x.toInt = (i.toNatClampNeg : Int) / 64) (hk : x.toInt = K) (hy : y.toInt = own_cl i.toInt K) (hz : z.toInt = own_cl N.toInt K) : y < z := by
  rw [own_tn h0] at hg
  rw [Int32.lt_iff_toInt_lt] at h0 h ⊢
  have e0 : (0 : Int32).toInt = 0 := rfl
  rw [hy, hz]; unfold own_cl
  repeat' split
  all_goals omega
theorem own_N0 {N : Int32} (h : ¬ N < (1 : Int32)) : ¬ N < 0 := by
  rw [Int32.lt_iff_toInt_lt] at *
  have e0 : (0 : Int32).toInt = 0 := rfl
  have e1 : (1 : Int32).toInt = 1 := rfl
  omega
theorem own_cap {N : Int32} (h : ¬ (256 : Int32) < N) : N.toNatClampNeg ≤ 256 := by
  rw [Int32.lt_iff_toInt_lt] at h
  have e : (256 : Int32).toInt = 256 := rfl
  simp only [Int32.toNatClampNeg]; omega
theorem own_wk1 {i N x : Int32} (h0 : ¬ i < 0) (h : i < N) (hw : own_nw N 1) (hg : x.toInt = (i.toNatClampNeg : Int) / 64) : x = (0 : Int32) := by
  rw [own_tn h0] at hg
  rw [Int32.lt_iff_toInt_lt] at h0 h
  have e0 : (0 : Int32).toInt = 0 := rfl
  unfold own_nw at hw
  simp only [← Int32.toInt_inj]
  show x.toInt = 0
  omega
theorem own_wk2 {i N x : Int32} (h0 : ¬ i < 0) (h : i < N) (hw : own_nw N 2) (hg : x.toInt = (i.toNatClampNeg : Int) / 64) : x = (0 : Int32) ∨ x = (1 : Int32) := by
  rw [own_tn h0] at hg
  rw [Int32.lt_iff_toInt_lt] at h0 h
  have e0 : (0 : Int32).toInt = 0 := rfl
  unfold own_nw at hw
  simp only [← Int32.toInt_inj]
  show x.toInt = 0 ∨ x.toInt = 1
  omega
theorem own_wk3 {i N x : Int32} (h0 : ¬ i < 0) (h : i < N) (hw : own_nw N 3) (hg : x.toInt = (i.toNatClampNeg : Int) / 64) : x = (0 : Int32) ∨ x = (1 : Int32) ∨ x = (2 : Int32) := by
  rw [own_tn h0] at hg
  rw [Int32.lt_iff_toInt_lt] at h0 h
  have e0 : (0 : Int32).toInt = 0 := rfl
  unfold own_nw at hw
  simp only [← Int32.toInt_inj]
  show x.toInt = 0 ∨ x.toInt = 1 ∨ x.toInt = 2
  omega
theorem own_wk4 {i N x : Int32} (h0 : ¬ i < 0) (h : i < N) (hw : own_nw N 4) (hg : x.toInt = (i.toNatClampNeg : Int) / 64) : x = (0 : Int32) ∨ x = (1 : Int32) ∨ x = (2 : Int32) ∨ x = (3 : Int32) := by
  rw [own_tn h0] at hg
  rw [Int32.lt_iff_toInt_lt] at h0 h
  have e0 : (0 : Int32).toInt = 0 := rfl
  unfold own_nw at hw
  simp only [← Int32.toInt_inj]
  show x.toInt = 0 ∨ x.toInt = 1 ∨ x.toInt = 2 ∨ x.toInt = 3
  omega

theorem o_dupX2 {p : Program} {l : Launch} {e : Env} {R : Room} {s : State} {m : MethodId} {args : Array Value} {below : List Frame} {meth : Method} {c : Code} {T : State} {locs : List Loc} {cells slots : Nat} {P : Outcome → State → Prop} {pc : Nat} {Ls : Array Slot} {st : List Value} (X : Stand p l e R s m args below meth c T locs cells slots) (hx : p.tables.exec = Jvm.exec) {x y z : Value} (hd : decode c.code pc = .ok (.dup_x2, 1)) (hc : x.category = 1) (hc' : y.category = 1) (hc2 : z.category = 1)
    (g : own_Go p.tables e below P (T.setTop (mkF m (pc + 1) Ls (x :: y :: z :: x :: st)))) : own_Go p.tables e below P (T.setTop (mkF m pc Ls (x :: y :: z :: st))) := own_st (fun t k => by
  show Steps p.tables e below (T.setTop { method := m, pc := pc, locals := Ls, stack := _, locked := none }) _
  jvm_step X.here [X.here.top, hx, hd, hc, hc', hc2, Op.dup_x2.wp_sem]
  exact k) g
def Q_rmfill (Z : State) (a0 : Array Value) (a1 : Addr) (p2 : Int32) (k1 : ClassId) (N : Int32) (g : Nat → Int32) (h0 : Heap) (n0 : Nat) (v : Option Value) (h : Heap) (L : List Loc) : Prop := v = none ∧ Fr n0 L ∧ Keep h0 h [a1] ∧ Arv Z h a1 k1 .int N (own_LI (fun _ => p2) N) (.int (0 : Int32))
theorem d3_5 : decode jdk_65_method_103_code 5 = .ok (.iload_n 2, 1) := by decide +kernel
theorem d3_6 : decode jdk_65_method_103_code 6 = .ok (.iload_n 3, 1) := by decide +kernel
theorem d3_7 : decode jdk_65_method_103_code 7 = .ok (.if_icmp .ge 13, 3) := by decide +kernel
theorem d3_10 : decode jdk_65_method_103_code 10 = .ok (.aload_n 0, 1) := by decide +kernel
theorem d3_11 : decode jdk_65_method_103_code 11 = .ok (.iload_n 2, 1) := by decide +kernel
theorem d3_12 : decode jdk_65_method_103_code 12 = .ok (.iload_n 1, 1) := by decide +kernel
theorem d3_13 : decode jdk_65_method_103_code 13 = .ok (.iastore, 1) := by decide +kernel
theorem d3_14 : decode jdk_65_method_103_code 14 = .ok (.iinc 2 1, 3) := by decide +kernel
theorem d3_17 : decode jdk_65_method_103_code 17 = .ok (.goto (-12), 3) := by decide +kernel
theorem d3_20 : decode jdk_65_method_103_code 20 = .ok (.return_, 1) := by decide +kernel
set_option maxRecDepth 65536 in
set_option maxHeartbeats 40000000 in
theorem own_fillL {p : Program} {l : Launch} {e : Env} {s : State} {m : MethodId} {below : List Frame} {meth : Method} {c : Code} {Z : State} {a0 : Array Value} {h0 : Heap} {n0 : Nat} (a1 : Addr) (p2 : Int32) (k1 : ClassId) (N : Int32) (g : Nat → Int32) (hN : ¬ N < 0)
    (hx : p.tables.exec = Jvm.exec) (hZ : Z.Warmed39 s.vm) (hw : ∀ d ∈ tables_1, d.before a0 Z = true) (hby : c.code = jdk_65_method_103_code) (hml : c.maxLocals = 4) (hown : s.vm.findClass "java/util/Arrays" = some m.cls) (hret : meth.sig.returnType = none) (hlk : meth.locks = false) :
    ∀ (fuel : Nat) (T : State) (locs : List Loc) (h : Heap) (i : Int32) (gi : Nat → Int32) (X : Stand p l e ({ frames := 0, cells := 0, slots := 0, locals := 0 } : Room) s m #[(.ref a1), (.int p2)] below meth c T locs 0 0) (eT : T.heap = h) (NF : Fr n0 locs) (Zh : n0 ≤ h.size) (Kh : Keep h0 h [a1]) (V1 : Arv Z h a1 k1 .int N (own_LI gi N) (.int (0 : Int32))) (g1 : n0 ≤ a1) (hi0 : ¬ i < 0) (hi1 : ¬ N < i) (hg : ∀ j : Nat, (j : Int) < i.toInt → gi j = p2) (hfu : N.toInt - i.toInt < (fuel : Int)), own_Go p.tables e below (fun o U' => ∃ v L, o = .returned v ∧ Q_rmfill Z a0 a1 p2 k1 N g h0 n0 v U'.heap L ∧ FrameEnd s o U' L ({ frames := 0, cells := 0, slots := 0, locals := 0 } : Room).cells ({ frames := 0, cells := 0, slots := 0, locals := 0 } : Room).slots) (T.setTop (mkF m 5 #[rv a1, iv p2, iv i, iv N] [])) := by
  intro fuel
  induction fuel with
  | zero => intro T locs h i gi X eT NF Zh Kh V1 g1 hi0 hi1 hg hfu; exact (own_f0 hi1 hfu).elim
  | succ fuel ih =>
    intro T locs h i gi X eT NF Zh Kh V1 g1 hi0 hi1 hg hfu
    refine o_iloadN X hx (hb hby d3_5) rfl ?_
    refine o_iloadN X hx (hb hby d3_6) rfl ?_
    by_cases hc7__1 : i < N
    · refine o_icmpNo X hx (hb hby d3_7) (tlt hc7__1).2.1 ?_
      refine o_aloadN X hx (hb hby d3_10) rfl rfl ?_
      refine o_iloadN X hx (hb hby d3_11) rfl ?_
      refine o_iloadN X hx (hb hby d3_12) rfl ?_
      obtain ⟨cl_2, Ar_2, qk_2, Sz_2, Ng_2, Hs_2, Gs_2⟩ := id V1
      obtain ⟨T_3, h_3, X_3, e_3, W_3, st_3⟩ := stI X hx hZ eT Ar_2 (j := i) (inb_of Sz_2 ⟨hi0, hc7__1⟩) (g := (mkF m 13 #[rv a1, iv p2, iv i, iv N] [(.int p2), (.int i), (.ref a1)])) rfl rfl (hb hby d3_13)
      refine own_st st_3 ?_
      have V_3 : Arv Z h_3 a1 k1 .int N (own_LI (own_up gi i.toNatClampNeg p2) N) (.int (0 : Int32)) := by have q := Arv.set Ar_2 qk_2 Sz_2 Ng_2 Hs_2 Gs_2 rfl W_3 i.toNatClampNeg rfl (own_LI_lt hi0 hc7__1); rw [own_LI_set] at q; exact q
      have N_3 := Fr.snoc X_3 NF g1
      show own_Go _ _ _ _ (T_3.setTop (mkF m 14 #[rv a1, iv p2, iv i, iv N] []))
      refine o_iinc X_3 hx (hb hby d3_14) rfl (l' := #[rv a1, iv p2, iv (i + (1 : Int32)), iv N]) rfl ?_
      refine o_goto X_3 hx (pc' := 5) (hb hby d3_17) (by decide) (by decide) ?_
      have Zs_4 : n0 ≤ h_3.size := (Nat.le_trans Zh (Keep.of_wr W_3).1)
      have Kp_5 : Keep h0 h_3 [a1] := (Kh.wr W_3 (Or.inl (List.mem_of_getElem? (i := 0) rfl)))
      exact ih T_3 _ h_3 (i + (1 : Int32)) (own_up gi i.toNatClampNeg p2) X_3 e_3 N_3 Zs_4 Kp_5 V_3 g1 (own_nx0 hi0 hc7__1) (own_nx1 hi0 hc7__1) (own_step (P := fun _ z => z = p2) hi0 hc7__1 hg rfl) (own_fS hi0 hc7__1 hfu)
    · refine o_icmpYes X hx (pc' := 20) (hb hby d3_7) (flt hc7__1).2.1 (by decide) (by decide) ?_
      exact own_end X eT (v := none) (fun _ => rfl) hlk (fun fs hr => X.returnOut hx hret (hb hby d3_20) hr) (Q := Q_rmfill Z a0 a1 p2 k1 N g h0 n0) ⟨rfl, NF, Kh, (own_LI_cg (own_atN hi1 hc7__1 hg) ▸ V1)⟩ (by decide) (by decide)
theorem pn_3 : plainName "java/util/Arrays" = true := by first | (simp [plainName, overriddenIn]; done) | decide +kernel
theorem d3_0 : decode jdk_65_method_103_code 0 = .ok (.iconst 0, 1) := by decide +kernel
theorem d3_1 : decode jdk_65_method_103_code 1 = .ok (.istore_n 2, 1) := by decide +kernel
theorem d3_2 : decode jdk_65_method_103_code 2 = .ok (.aload_n 0, 1) := by decide +kernel
theorem d3_3 : decode jdk_65_method_103_code 3 = .ok (.arraylength, 1) := by decide +kernel
theorem d3_4 : decode jdk_65_method_103_code 4 = .ok (.istore_n 3, 1) := by decide +kernel
theorem ef_rmfill (m : MethodId) (a1 : Addr) (p2 : Int32) : entryFrame m #[(.ref a1), (.int p2)] 4 = mkF m 0 #[rv a1, iv p2, .unset, .unset] [] := by first | (simp [entryFrame, mkF, argsToLocals, Value.category]; done) | rfl
set_option maxRecDepth 65536 in
set_option maxHeartbeats 40000000 in
theorem rmfill (l : Launch) (Z : State) (a0 : Array Value) (hw : ∀ d ∈ tables_1, d.before a0 Z = true) (ws : List Jvm.Cond) (a1 : Addr) (p2 : Int32) (k1 : ClassId) (N : Int32) (g : Nat → Int32) (h0 : Heap) (n0 : Nat) (Z0 : n0 ≤ h0.size) (V1 : Arv Z h0 a1 k1 .int N (own_LI g N) (.int (0 : Int32))) (g1 : n0 ≤ a1) (hN : ¬ N < 0) :
    MetFree l (⟨"java/util/Arrays", "fill", "([II)V"⟩ : MethodName) (head1 (Jvm.Cond.code (⟨"java/util/Arrays", "fill", "([II)V"⟩ : MethodName) jdk_65_method_103_code 4 none :: ws) ({ frames := 0, cells := 0, slots := 0, locals := 0 } : Room)) (fun a U => a = #[(.ref a1), (.int p2)] ∧ Z.Warmed39 U.vm ∧ U.heap = h0) (fun _ _ _ _ _ => True) (fun _ U o U' => ∃ v L, o = .returned v ∧ Q_rmfill Z a0 a1 p2 k1 N g h0 n0 v U'.heap L ∧ FrameEnd U o U' L ({ frames := 0, cells := 0, slots := 0, locals := 0 } : Room).cells ({ frames := 0, cells := 0, slots := 0, locals := 0 } : Room).slots) := by
  refine MetFree.of_bodySF (plainFor_of_name pn_3) hisR ?_
  intro p e s m args below meth c s₁ Bd hml0 hP hK
  obtain ⟨rfl, hZ, hh⟩ := hP
  have hx := Bd.exec
  have hby := Bd.bytes
  have hml : c.maxLocals = 4 := hml0
  have hown : s.vm.findClass "java/util/Arrays" = some m.cls := findClass_of_methodNamed Bd.named
  have hnm := (name_of_methodNamed Bd.named Bd.method).1
  have hlk : meth.locks = false := BodyLoose.notSynchronized (by assumption)
  have X0 : Stand p l e ({ frames := 0, cells := 0, slots := 0, locals := 0 } : Room) s m #[(.ref a1), (.int p2)] below meth c s₁ [] 0 0 := Stand.of_body Bd
  have e0 : s₁.heap = h0 := by rw [← hh, Bd.state]; rfl
  have N0 := Fr.nil n0
  show own_Go p.tables e below (fun o U' => ∃ v L, o = .returned v ∧ Q_rmfill Z a0 a1 p2 k1 N g h0 n0 v U'.heap L ∧ FrameEnd s o U' L ({ frames := 0, cells := 0, slots := 0, locals := 0 } : Room).cells ({ frames := 0, cells := 0, slots := 0, locals := 0 } : Room).slots) (s₁.setTop (entryFrame m #[(.ref a1), (.int p2)] 4))
  refine own_st (fun t k => castTop (ef_rmfill m a1 p2) k) ?_
  show own_Go _ _ _ _ (s₁.setTop (mkF m 0 #[rv a1, iv p2, .unset, .unset] []))
  refine o_iconst X0 hx 0 (hb hby d3_0) rfl ?_
  refine o_istoreN X0 hx (hb hby d3_1) (l' := #[rv a1, iv p2, iv 0, .unset]) rfl ?_
  refine o_aloadN X0 hx (hb hby d3_2) rfl rfl ?_
  obtain ⟨cl_1, Ar_1, qk_1, Sz_1, Ng_1, Hs_1, Gs_1⟩ := id V1
  refine own_st (X0.arraylength hx (by rw [e0]; exact Ar_1.1) (State.isArrayOf_alike hZ.alike Ar_1.2.1) (g := (mkF m 3 #[rv a1, iv p2, iv 0, .unset] [(.ref a1)])) rfl rfl (hb hby d3_3)) ?_
  rw [len_of Sz_1 Ng_1]
  show own_Go _ _ _ _ (s₁.setTop (mkF m 4 #[rv a1, iv p2, iv 0, .unset] [(.int N)]))
  refine o_istoreN X0 hx (hb hby d3_4) (l' := #[rv a1, iv p2, iv 0, iv N]) rfl ?_
  exact own_fillL a1 p2 k1 N g hN hx hZ hw hby hml hown Bd.returns hlk (N.toNatClampNeg + 1) s₁ _ h0 (0 : Int32) g X0 e0 N0 Z0 (Keep.refl h0 [a1]) V1 g1 (by decide) hN own_all0 (own_ff hN)
theorem pn_5 : plainName "java/lang/Integer" = true := by first | (simp [plainName, overriddenIn]; done) | decide +kernel
theorem d5_0 : decode jdk_33_method_47_code 0 = .ok (.iload_n 0, 1) := by decide +kernel
theorem d5_1 : decode jdk_33_method_47_code 1 = .ok (.ifCond .gt 14, 3) := by decide +kernel
theorem d5_4 : decode jdk_33_method_47_code 4 = .ok (.iload_n 0, 1) := by decide +kernel
theorem d5_5 : decode jdk_33_method_47_code 5 = .ok (.ifCond .ne 8, 3) := by decide +kernel
theorem d5_8 : decode jdk_33_method_47_code 8 = .ok (.bipush 32, 2) := by decide +kernel
theorem d5_10 : decode jdk_33_method_47_code 10 = .ok (.goto 4, 3) := by decide +kernel
theorem d5_14 : decode jdk_33_method_47_code 14 = .ok (.ireturn, 1) := by decide +kernel
theorem ef_rmnlz0 (m : MethodId)  : entryFrame m #[(.int (0 : Int32))] 2 = mkF m 0 #[iv 0, .unset] [] := by first | (simp [entryFrame, mkF, argsToLocals, Value.category]; done) | rfl
def Q_rmnlz0 (Z : State) (a0 : Array Value)   (h0 : Heap) (n0 : Nat) (v : Option Value) (h : Heap) (L : List Loc) : Prop := v = some (.int (32 : Int32)) ∧ Fr n0 L ∧ h = h0
set_option maxRecDepth 65536 in
set_option maxHeartbeats 40000000 in
theorem rmnlz0 (l : Launch) (Z : State) (a0 : Array Value) (hw : ∀ d ∈ tables_1, d.before a0 Z = true) (ws : List Jvm.Cond)   (h0 : Heap) (n0 : Nat) (Z0 : n0 ≤ h0.size) :
    MetFree l (⟨"java/lang/Integer", "numberOfLeadingZeros", "(I)I"⟩ : MethodName) (head1 (Jvm.Cond.code (⟨"java/lang/Integer", "numberOfLeadingZeros", "(I)I"⟩ : MethodName) jdk_33_method_47_code 2 (some .int) :: ws) ({ frames := 0, cells := 0, slots := 0, locals := 0 } : Room)) (fun a U => a = #[(.int (0 : Int32))] ∧ Z.Warmed39 U.vm ∧ U.heap = h0) (fun _ _ _ _ _ => True) (fun _ U o U' => ∃ v L, o = .returned v ∧ Q_rmnlz0 Z a0  h0 n0 v U'.heap L ∧ FrameEnd U o U' L ({ frames := 0, cells := 0, slots := 0, locals := 0 } : Room).cells ({ frames := 0, cells := 0, slots := 0, locals := 0 } : Room).slots) := by
  refine MetFree.of_bodySF (plainFor_of_name pn_5) hisR ?_
  intro p e s m args below meth c s₁ Bd hml0 hP hK
  obtain ⟨rfl, hZ, hh⟩ := hP
  have hx := Bd.exec
  have hby := Bd.bytes
  have hml : c.maxLocals = 2 := hml0
  have hown : s.vm.findClass "java/lang/Integer" = some m.cls := findClass_of_methodNamed Bd.named
  have hnm := (name_of_methodNamed Bd.named Bd.method).1
  have hlk : meth.locks = false := BodyLoose.notSynchronized (by assumption)
  have X0 : Stand p l e ({ frames := 0, cells := 0, slots := 0, locals := 0 } : Room) s m #[(.int (0 : Int32))] below meth c s₁ [] 0 0 := Stand.of_body Bd
  have e0 : s₁.heap = h0 := by rw [← hh, Bd.state]; rfl
  have N0 := Fr.nil n0
  show own_Go p.tables e below (fun o U' => ∃ v L, o = .returned v ∧ Q_rmnlz0 Z a0  h0 n0 v U'.heap L ∧ FrameEnd s o U' L ({ frames := 0, cells := 0, slots := 0, locals := 0 } : Room).cells ({ frames := 0, cells := 0, slots := 0, locals := 0 } : Room).slots) (s₁.setTop (entryFrame m #[(.int (0 : Int32))] 2))
  refine own_st (fun t k => castTop (ef_rmnlz0 m ) k) ?_
  show own_Go _ _ _ _ (s₁.setTop (mkF m 0 #[iv 0, .unset] []))
  refine o_iloadN X0 hx (hb hby d5_0) rfl ?_
  refine o_ifNo X0 hx (hb hby d5_1) (flt (by decide : ¬ ((0 : Int32) < (0 : Int32)))).2.2.1 ?_
  refine o_iloadN X0 hx (hb hby d5_4) rfl ?_
  refine o_ifNo X0 hx (hb hby d5_5) (teq (by decide : (0 : Int32) = (0 : Int32))).2 ?_
  refine o_bipush X0 hx 32 (hb hby d5_8) rfl ?_
  refine o_goto X0 hx (pc' := 14) (hb hby d5_10) (by decide) (by decide) ?_
  exact own_end X0 e0 (v := some (.int (32 : Int32))) (fun h => by rw [Bd.returns] at h; cases h) hlk (fun fs hr => retI X0 hx Bd.returns (hb hby d5_14) hr) (Q := Q_rmnlz0 Z a0  h0 n0) ⟨rfl, N0, rfl⟩ (by decide) (by decide)
theorem d6_0 : decode jdk_29_method_65_code 0 = .ok (.iload_n 0, 1) := by decide +kernel
theorem d6_1 : decode jdk_29_method_65_code 1 = .ok (.iload_n 1, 1) := by decide +kernel
theorem d6_2 : decode jdk_29_method_65_code 2 = .ok (.if_icmp .lt 7, 3) := by decide +kernel
theorem d6_9 : decode jdk_29_method_65_code 9 = .ok (.iload_n 1, 1) := by decide +kernel
theorem d6_10 : decode jdk_29_method_65_code 10 = .ok (.ireturn, 1) := by decide +kernel
theorem ef_rmmax16 (m : MethodId)  : entryFrame m #[(.int (0 : Int32)), (.int (16 : Int32))] 2 = mkF m 0 #[iv 0, iv 16] [] := by first | (simp [entryFrame, mkF, argsToLocals, Value.category]; done) | rfl
def Q_rmmax16 (Z : State) (a0 : Array Value)   (h0 : Heap) (n0 : Nat) (v : Option Value) (h : Heap) (L : List Loc) : Prop := v = some (.int (16 : Int32)) ∧ Fr n0 L ∧ h = h0
set_option maxRecDepth 65536 in
set_option maxHeartbeats 40000000 in
theorem rmmax16 (l : Launch) (Z : State) (a0 : Array Value) (hw : ∀ d ∈ tables_1, d.before a0 Z = true) (ws : List Jvm.Cond)   (h0 : Heap) (n0 : Nat) (Z0 : n0 ≤ h0.size) :
    MetFree l (⟨"java/lang/Math", "max", "(II)I"⟩ : MethodName) (head1 (Jvm.Cond.code (⟨"java/lang/Math", "max", "(II)I"⟩ : MethodName) jdk_29_method_65_code 2 (some .int) :: ws) ({ frames := 0, cells := 0, slots := 0, locals := 0 } : Room)) (fun a U => a = #[(.int (0 : Int32)), (.int (16 : Int32))] ∧ Z.Warmed39 U.vm ∧ U.heap = h0) (fun _ _ _ _ _ => True) (fun _ U o U' => ∃ v L, o = .returned v ∧ Q_rmmax16 Z a0  h0 n0 v U'.heap L ∧ FrameEnd U o U' L ({ frames := 0, cells := 0, slots := 0, locals := 0 } : Room).cells ({ frames := 0, cells := 0, slots := 0, locals := 0 } : Room).slots) := by
  refine MetFree.of_bodySF (Jvm.Free.JP.mathPlain rfl (by decide +kernel)) hisR ?_
  intro p e s m args below meth c s₁ Bd hml0 hP hK
  obtain ⟨rfl, hZ, hh⟩ := hP
  have hx := Bd.exec
  have hby := Bd.bytes
  have hml : c.maxLocals = 2 := hml0
  have hown : s.vm.findClass "java/lang/Math" = some m.cls := findClass_of_methodNamed Bd.named
  have hnm := (name_of_methodNamed Bd.named Bd.method).1
  have hlk : meth.locks = false := BodyLoose.notSynchronized (by assumption)
  have X0 : Stand p l e ({ frames := 0, cells := 0, slots := 0, locals := 0 } : Room) s m #[(.int (0 : Int32)), (.int (16 : Int32))] below meth c s₁ [] 0 0 := Stand.of_body Bd
  have e0 : s₁.heap = h0 := by rw [← hh, Bd.state]; rfl
  have N0 := Fr.nil n0
  show own_Go p.tables e below (fun o U' => ∃ v L, o = .returned v ∧ Q_rmmax16 Z a0  h0 n0 v U'.heap L ∧ FrameEnd s o U' L ({ frames := 0, cells := 0, slots := 0, locals := 0 } : Room).cells ({ frames := 0, cells := 0, slots := 0, locals := 0 } : Room).slots) (s₁.setTop (entryFrame m #[(.int (0 : Int32)), (.int (16 : Int32))] 2))
  refine own_st (fun t k => castTop (ef_rmmax16 m ) k) ?_
  show own_Go _ _ _ _ (s₁.setTop (mkF m 0 #[iv 0, iv 16] []))
  refine o_iloadN X0 hx (hb hby d6_0) rfl ?_
  refine o_iloadN X0 hx (hb hby d6_1) rfl ?_
  refine o_icmpYes X0 hx (pc' := 9) (hb hby d6_2) (tlt (by decide : (0 : Int32) < (16 : Int32))).1 (by decide) (by decide) ?_
  refine o_iloadN X0 hx (hb hby d6_9) rfl ?_
  exact own_end X0 e0 (v := some (.int (16 : Int32))) (fun h => by rw [Bd.returns] at h; cases h) hlk (fun fs hr => retI X0 hx Bd.returns (hb hby d6_10) hr) (Q := Q_rmmax16 Z a0  h0 n0) ⟨rfl, N0, rfl⟩ (by decide) (by decide)
theorem d5_15 : decode jdk_33_method_47_code 15 = .ok (.bipush 31, 2) := by decide +kernel
theorem d5_17 : decode jdk_33_method_47_code 17 = .ok (.istore_n 1, 1) := by decide +kernel
theorem d5_18 : decode jdk_33_method_47_code 18 = .ok (.iload_n 0, 1) := by decide +kernel
theorem d5_19 : decode jdk_33_method_47_code 19 = .ok (.ldc_w 264, 3) := by decide +kernel
theorem d5_22 : decode jdk_33_method_47_code 22 = .ok (.if_icmp .lt 11, 3) := by decide +kernel
theorem d5_33 : decode jdk_33_method_47_code 33 = .ok (.iload_n 0, 1) := by decide +kernel
theorem d5_34 : decode jdk_33_method_47_code 34 = .ok (.sipush 256, 3) := by decide +kernel
theorem d5_37 : decode jdk_33_method_47_code 37 = .ok (.if_icmp .lt 11, 3) := by decide +kernel
theorem d5_48 : decode jdk_33_method_47_code 48 = .ok (.iload_n 0, 1) := by decide +kernel
theorem d5_49 : decode jdk_33_method_47_code 49 = .ok (.bipush 16, 2) := by decide +kernel
theorem d5_51 : decode jdk_33_method_47_code 51 = .ok (.if_icmp .lt 10, 3) := by decide +kernel
theorem d5_61 : decode jdk_33_method_47_code 61 = .ok (.iload_n 0, 1) := by decide +kernel
theorem d5_62 : decode jdk_33_method_47_code 62 = .ok (.iconst 4, 1) := by decide +kernel
theorem d5_63 : decode jdk_33_method_47_code 63 = .ok (.if_icmp .lt 10, 3) := by decide +kernel
theorem d5_73 : decode jdk_33_method_47_code 73 = .ok (.iload_n 1, 1) := by decide +kernel
theorem d5_74 : decode jdk_33_method_47_code 74 = .ok (.iload_n 0, 1) := by decide +kernel
theorem d5_75 : decode jdk_33_method_47_code 75 = .ok (.iconst 1, 1) := by decide +kernel
theorem d5_76 : decode jdk_33_method_47_code 76 = .ok (.iushr, 1) := by decide +kernel
theorem d5_77 : decode jdk_33_method_47_code 77 = .ok (.isub, 1) := by decide +kernel
theorem d5_78 : decode jdk_33_method_47_code 78 = .ok (.ireturn, 1) := by decide +kernel
theorem ef_rmnlz1 (m : MethodId)  : entryFrame m #[(.int (1 : Int32))] 2 = mkF m 0 #[iv 1, .unset] [] := by first | (simp [entryFrame, mkF, argsToLocals, Value.category]; done) | rfl
def Q_rmnlz1 (Z : State) (a0 : Array Value)   (h0 : Heap) (n0 : Nat) (v : Option Value) (h : Heap) (L : List Loc) : Prop := v = some (.int (31 : Int32)) ∧ Fr n0 L ∧ h = h0
set_option maxRecDepth 65536 in
set_option maxHeartbeats 40000000 in
theorem rmnlz1 (l : Launch) (Z : State) (a0 : Array Value) (hw : ∀ d ∈ tables_1, d.before a0 Z = true) (ws : List Jvm.Cond)   (h0 : Heap) (n0 : Nat) (Z0 : n0 ≤ h0.size) :
    MetFree l (⟨"java/lang/Integer", "numberOfLeadingZeros", "(I)I"⟩ : MethodName) (head1 (Jvm.Cond.code (⟨"java/lang/Integer", "numberOfLeadingZeros", "(I)I"⟩ : MethodName) jdk_33_method_47_code 2 (some .int) :: ws) ({ frames := 0, cells := 0, slots := 0, locals := 0 } : Room)) (fun a U => a = #[(.int (1 : Int32))] ∧ Z.Warmed39 U.vm ∧ U.heap = h0) (fun _ _ _ _ _ => True) (fun _ U o U' => ∃ v L, o = .returned v ∧ Q_rmnlz1 Z a0  h0 n0 v U'.heap L ∧ FrameEnd U o U' L ({ frames := 0, cells := 0, slots := 0, locals := 0 } : Room).cells ({ frames := 0, cells := 0, slots := 0, locals := 0 } : Room).slots) := by
  refine MetFree.of_bodySF (plainFor_of_name pn_5) hisR ?_
  intro p e s m args below meth c s₁ Bd hml0 hP hK
  obtain ⟨rfl, hZ, hh⟩ := hP
  have hx := Bd.exec
  have hby := Bd.bytes
  have hml : c.maxLocals = 2 := hml0
  have hown : s.vm.findClass "java/lang/Integer" = some m.cls := findClass_of_methodNamed Bd.named
  have hnm := (name_of_methodNamed Bd.named Bd.method).1
  have hlk : meth.locks = false := BodyLoose.notSynchronized (by assumption)
  have X0 : Stand p l e ({ frames := 0, cells := 0, slots := 0, locals := 0 } : Room) s m #[(.int (1 : Int32))] below meth c s₁ [] 0 0 := Stand.of_body Bd
  have e0 : s₁.heap = h0 := by rw [← hh, Bd.state]; rfl
  have N0 := Fr.nil n0
  show own_Go p.tables e below (fun o U' => ∃ v L, o = .returned v ∧ Q_rmnlz1 Z a0  h0 n0 v U'.heap L ∧ FrameEnd s o U' L ({ frames := 0, cells := 0, slots := 0, locals := 0 } : Room).cells ({ frames := 0, cells := 0, slots := 0, locals := 0 } : Room).slots) (s₁.setTop (entryFrame m #[(.int (1 : Int32))] 2))
  refine own_st (fun t k => castTop (ef_rmnlz1 m ) k) ?_
  show own_Go _ _ _ _ (s₁.setTop (mkF m 0 #[iv 1, .unset] []))
  refine o_iloadN X0 hx (hb hby d5_0) rfl ?_
  refine o_ifYes X0 hx (pc' := 15) (hb hby d5_1) (tlt (by decide : (0 : Int32) < (1 : Int32))).2.2.1 (by decide) (by decide) ?_
  refine o_bipush X0 hx 31 (hb hby d5_15) rfl ?_
  refine o_istoreN X0 hx (hb hby d5_17) (l' := #[iv 1, iv 31]) rfl ?_
  refine o_iloadN X0 hx (hb hby d5_18) rfl ?_
  refine own_st (X0.ldcwInt hx hown (mvT hZ (hw _ (List.mem_of_getElem? (i := 61) rfl))) (g := (mkF m 19 #[iv 1, iv 31] [(.int 1)])) rfl (hb hby d5_19)) ?_
  show own_Go _ _ _ _ (s₁.setTop (mkF m 22 #[iv 1, iv 31] [(.int 65536), (.int 1)]))
  refine o_icmpYes X0 hx (pc' := 33) (hb hby d5_22) (tlt (by decide : (1 : Int32) < (65536 : Int32))).1 (by decide) (by decide) ?_
  refine o_iloadN X0 hx (hb hby d5_33) rfl ?_
  refine o_sipush X0 hx 256 (hb hby d5_34) rfl ?_
  refine o_icmpYes X0 hx (pc' := 48) (hb hby d5_37) (tlt (by decide : (1 : Int32) < (256 : Int32))).1 (by decide) (by decide) ?_
  refine o_iloadN X0 hx (hb hby d5_48) rfl ?_
  refine o_bipush X0 hx 16 (hb hby d5_49) rfl ?_
  refine o_icmpYes X0 hx (pc' := 61) (hb hby d5_51) (tlt (by decide : (1 : Int32) < (16 : Int32))).1 (by decide) (by decide) ?_
  refine o_iloadN X0 hx (hb hby d5_61) rfl ?_
  refine o_iconst X0 hx 4 (hb hby d5_62) rfl ?_
  refine o_icmpYes X0 hx (pc' := 73) (hb hby d5_63) (tlt (by decide : (1 : Int32) < (4 : Int32))).1 (by decide) (by decide) ?_
  refine o_iloadN X0 hx (hb hby d5_73) rfl ?_
  refine o_iloadN X0 hx (hb hby d5_74) rfl ?_
  refine o_iconst X0 hx 1 (hb hby d5_75) rfl ?_
  refine o_iushr X0 hx (hb hby d5_76) ?_
  show own_Go _ _ _ _ (s₁.setTop (mkF m 77 #[iv 1, iv 31] [(.int 0), (.int 31)]))
  refine o_isub X0 hx (hb hby d5_77) ?_
  show own_Go _ _ _ _ (s₁.setTop (mkF m 78 #[iv 1, iv 31] [(.int 31)]))
  exact own_end X0 e0 (v := some (.int (31 : Int32))) (fun h => by rw [Bd.returns] at h; cases h) hlk (fun fs hr => retI X0 hx Bd.returns (hb hby d5_78) hr) (Q := Q_rmnlz1 Z a0  h0 n0) ⟨rfl, N0, rfl⟩ (by decide) (by decide)
theorem ef_rmmax15 (m : MethodId)  : entryFrame m #[(.int (0 : Int32)), (.int (15 : Int32))] 2 = mkF m 0 #[iv 0, iv 15] [] := by first | (simp [entryFrame, mkF, argsToLocals, Value.category]; done) | rfl
def Q_rmmax15 (Z : State) (a0 : Array Value)   (h0 : Heap) (n0 : Nat) (v : Option Value) (h : Heap) (L : List Loc) : Prop := v = some (.int (15 : Int32)) ∧ Fr n0 L ∧ h = h0
set_option maxRecDepth 65536 in
set_option maxHeartbeats 40000000 in
theorem rmmax15 (l : Launch) (Z : State) (a0 : Array Value) (hw : ∀ d ∈ tables_1, d.before a0 Z = true) (ws : List Jvm.Cond)   (h0 : Heap) (n0 : Nat) (Z0 : n0 ≤ h0.size) :
    MetFree l (⟨"java/lang/Math", "max", "(II)I"⟩ : MethodName) (head1 (Jvm.Cond.code (⟨"java/lang/Math", "max", "(II)I"⟩ : MethodName) jdk_29_method_65_code 2 (some .int) :: ws) ({ frames := 0, cells := 0, slots := 0, locals := 0 } : Room)) (fun a U => a = #[(.int (0 : Int32)), (.int (15 : Int32))] ∧ Z.Warmed39 U.vm ∧ U.heap = h0) (fun _ _ _ _ _ => True) (fun _ U o U' => ∃ v L, o = .returned v ∧ Q_rmmax15 Z a0  h0 n0 v U'.heap L ∧ FrameEnd U o U' L ({ frames := 0, cells := 0, slots := 0, locals := 0 } : Room).cells ({ frames := 0, cells := 0, slots := 0, locals := 0 } : Room).slots) := by
  refine MetFree.of_bodySF (Jvm.Free.JP.mathPlain rfl (by decide +kernel)) hisR ?_
  intro p e s m args below meth c s₁ Bd hml0 hP hK
  obtain ⟨rfl, hZ, hh⟩ := hP
  have hx := Bd.exec
  have hby := Bd.bytes
  have hml : c.maxLocals = 2 := hml0
  have hown : s.vm.findClass "java/lang/Math" = some m.cls := findClass_of_methodNamed Bd.named
  have hnm := (name_of_methodNamed Bd.named Bd.method).1
  have hlk : meth.locks = false := BodyLoose.notSynchronized (by assumption)
  have X0 : Stand p l e ({ frames := 0, cells := 0, slots := 0, locals := 0 } : Room) s m #[(.int (0 : Int32)), (.int (15 : Int32))] below meth c s₁ [] 0 0 := Stand.of_body Bd
  have e0 : s₁.heap = h0 := by rw [← hh, Bd.state]; rfl
  have N0 := Fr.nil n0
  show own_Go p.tables e below (fun o U' => ∃ v L, o = .returned v ∧ Q_rmmax15 Z a0  h0 n0 v U'.heap L ∧ FrameEnd s o U' L ({ frames := 0, cells := 0, slots := 0, locals := 0 } : Room).cells ({ frames := 0, cells := 0, slots := 0, locals := 0 } : Room).slots) (s₁.setTop (entryFrame m #[(.int (0 : Int32)), (.int (15 : Int32))] 2))
  refine own_st (fun t k => castTop (ef_rmmax15 m ) k) ?_
  show own_Go _ _ _ _ (s₁.setTop (mkF m 0 #[iv 0, iv 15] []))
  refine o_iloadN X0 hx (hb hby d6_0) rfl ?_
  refine o_iloadN X0 hx (hb hby d6_1) rfl ?_
  refine o_icmpYes X0 hx (pc' := 9) (hb hby d6_2) (tlt (by decide : (0 : Int32) < (15 : Int32))).1 (by decide) (by decide) ?_
  refine o_iloadN X0 hx (hb hby d6_9) rfl ?_
  exact own_end X0 e0 (v := some (.int (15 : Int32))) (fun h => by rw [Bd.returns] at h; cases h) hlk (fun fs hr => retI X0 hx Bd.returns (hb hby d6_10) hr) (Q := Q_rmmax15 Z a0  h0 n0) ⟨rfl, N0, rfl⟩ (by decide) (by decide)
theorem ef_rmnlz2 (m : MethodId)  : entryFrame m #[(.int (2 : Int32))] 2 = mkF m 0 #[iv 2, .unset] [] := by first | (simp [entryFrame, mkF, argsToLocals, Value.category]; done) | rfl
def Q_rmnlz2 (Z : State) (a0 : Array Value)   (h0 : Heap) (n0 : Nat) (v : Option Value) (h : Heap) (L : List Loc) : Prop := v = some (.int (30 : Int32)) ∧ Fr n0 L ∧ h = h0
set_option maxRecDepth 65536 in
set_option maxHeartbeats 40000000 in
theorem rmnlz2 (l : Launch) (Z : State) (a0 : Array Value) (hw : ∀ d ∈ tables_1, d.before a0 Z = true) (ws : List Jvm.Cond)   (h0 : Heap) (n0 : Nat) (Z0 : n0 ≤ h0.size) :
    MetFree l (⟨"java/lang/Integer", "numberOfLeadingZeros", "(I)I"⟩ : MethodName) (head1 (Jvm.Cond.code (⟨"java/lang/Integer", "numberOfLeadingZeros", "(I)I"⟩ : MethodName) jdk_33_method_47_code 2 (some .int) :: ws) ({ frames := 0, cells := 0, slots := 0, locals := 0 } : Room)) (fun a U => a = #[(.int (2 : Int32))] ∧ Z.Warmed39 U.vm ∧ U.heap = h0) (fun _ _ _ _ _ => True) (fun _ U o U' => ∃ v L, o = .returned v ∧ Q_rmnlz2 Z a0  h0 n0 v U'.heap L ∧ FrameEnd U o U' L ({ frames := 0, cells := 0, slots := 0, locals := 0 } : Room).cells ({ frames := 0, cells := 0, slots := 0, locals := 0 } : Room).slots) := by
  refine MetFree.of_bodySF (plainFor_of_name pn_5) hisR ?_
  intro p e s m args below meth c s₁ Bd hml0 hP hK
  obtain ⟨rfl, hZ, hh⟩ := hP
  have hx := Bd.exec
  have hby := Bd.bytes
  have hml : c.maxLocals = 2 := hml0
  have hown : s.vm.findClass "java/lang/Integer" = some m.cls := findClass_of_methodNamed Bd.named
  have hnm := (name_of_methodNamed Bd.named Bd.method).1
  have hlk : meth.locks = false := BodyLoose.notSynchronized (by assumption)
  have X0 : Stand p l e ({ frames := 0, cells := 0, slots := 0, locals := 0 } : Room) s m #[(.int (2 : Int32))] below meth c s₁ [] 0 0 := Stand.of_body Bd
  have e0 : s₁.heap = h0 := by rw [← hh, Bd.state]; rfl
  have N0 := Fr.nil n0
  show own_Go p.tables e below (fun o U' => ∃ v L, o = .returned v ∧ Q_rmnlz2 Z a0  h0 n0 v U'.heap L ∧ FrameEnd s o U' L ({ frames := 0, cells := 0, slots := 0, locals := 0 } : Room).cells ({ frames := 0, cells := 0, slots := 0, locals := 0 } : Room).slots) (s₁.setTop (entryFrame m #[(.int (2 : Int32))] 2))
  refine own_st (fun t k => castTop (ef_rmnlz2 m ) k) ?_
  show own_Go _ _ _ _ (s₁.setTop (mkF m 0 #[iv 2, .unset] []))
  refine o_iloadN X0 hx (hb hby d5_0) rfl ?_
  refine o_ifYes X0 hx (pc' := 15) (hb hby d5_1) (tlt (by decide : (0 : Int32) < (2 : Int32))).2.2.1 (by decide) (by decide) ?_
  refine o_bipush X0 hx 31 (hb hby d5_15) rfl ?_
  refine o_istoreN X0 hx (hb hby d5_17) (l' := #[iv 2, iv 31]) rfl ?_
  refine o_iloadN X0 hx (hb hby d5_18) rfl ?_
  refine own_st (X0.ldcwInt hx hown (mvT hZ (hw _ (List.mem_of_getElem? (i := 61) rfl))) (g := (mkF m 19 #[iv 2, iv 31] [(.int 2)])) rfl (hb hby d5_19)) ?_
  show own_Go _ _ _ _ (s₁.setTop (mkF m 22 #[iv 2, iv 31] [(.int 65536), (.int 2)]))
  refine o_icmpYes X0 hx (pc' := 33) (hb hby d5_22) (tlt (by decide : (2 : Int32) < (65536 : Int32))).1 (by decide) (by decide) ?_
  refine o_iloadN X0 hx (hb hby d5_33) rfl ?_
  refine o_sipush X0 hx 256 (hb hby d5_34) rfl ?_
  refine o_icmpYes X0 hx (pc' := 48) (hb hby d5_37) (tlt (by decide : (2 : Int32) < (256 : Int32))).1 (by decide) (by decide) ?_
  refine o_iloadN X0 hx (hb hby d5_48) rfl ?_
  refine o_bipush X0 hx 16 (hb hby d5_49) rfl ?_
  refine o_icmpYes X0 hx (pc' := 61) (hb hby d5_51) (tlt (by decide : (2 : Int32) < (16 : Int32))).1 (by decide) (by decide) ?_
  refine o_iloadN X0 hx (hb hby d5_61) rfl ?_
  refine o_iconst X0 hx 4 (hb hby d5_62) rfl ?_
  refine o_icmpYes X0 hx (pc' := 73) (hb hby d5_63) (tlt (by decide : (2 : Int32) < (4 : Int32))).1 (by decide) (by decide) ?_
  refine o_iloadN X0 hx (hb hby d5_73) rfl ?_
  refine o_iloadN X0 hx (hb hby d5_74) rfl ?_
  refine o_iconst X0 hx 1 (hb hby d5_75) rfl ?_
  refine o_iushr X0 hx (hb hby d5_76) ?_
  show own_Go _ _ _ _ (s₁.setTop (mkF m 77 #[iv 2, iv 31] [(.int 1), (.int 31)]))
  refine o_isub X0 hx (hb hby d5_77) ?_
  show own_Go _ _ _ _ (s₁.setTop (mkF m 78 #[iv 2, iv 31] [(.int 30)]))
  exact own_end X0 e0 (v := some (.int (30 : Int32))) (fun h => by rw [Bd.returns] at h; cases h) hlk (fun fs hr => retI X0 hx Bd.returns (hb hby d5_78) hr) (Q := Q_rmnlz2 Z a0  h0 n0) ⟨rfl, N0, rfl⟩ (by decide) (by decide)
theorem ef_rmmax14 (m : MethodId)  : entryFrame m #[(.int (0 : Int32)), (.int (14 : Int32))] 2 = mkF m 0 #[iv 0, iv 14] [] := by first | (simp [entryFrame, mkF, argsToLocals, Value.category]; done) | rfl
def Q_rmmax14 (Z : State) (a0 : Array Value)   (h0 : Heap) (n0 : Nat) (v : Option Value) (h : Heap) (L : List Loc) : Prop := v = some (.int (14 : Int32)) ∧ Fr n0 L ∧ h = h0
set_option maxRecDepth 65536 in
set_option maxHeartbeats 40000000 in
theorem rmmax14 (l : Launch) (Z : State) (a0 : Array Value) (hw : ∀ d ∈ tables_1, d.before a0 Z = true) (ws : List Jvm.Cond)   (h0 : Heap) (n0 : Nat) (Z0 : n0 ≤ h0.size) :
    MetFree l (⟨"java/lang/Math", "max", "(II)I"⟩ : MethodName) (head1 (Jvm.Cond.code (⟨"java/lang/Math", "max", "(II)I"⟩ : MethodName) jdk_29_method_65_code 2 (some .int) :: ws) ({ frames := 0, cells := 0, slots := 0, locals := 0 } : Room)) (fun a U => a = #[(.int (0 : Int32)), (.int (14 : Int32))] ∧ Z.Warmed39 U.vm ∧ U.heap = h0) (fun _ _ _ _ _ => True) (fun _ U o U' => ∃ v L, o = .returned v ∧ Q_rmmax14 Z a0  h0 n0 v U'.heap L ∧ FrameEnd U o U' L ({ frames := 0, cells := 0, slots := 0, locals := 0 } : Room).cells ({ frames := 0, cells := 0, slots := 0, locals := 0 } : Room).slots) := by
  refine MetFree.of_bodySF (Jvm.Free.JP.mathPlain rfl (by decide +kernel)) hisR ?_
  intro p e s m args below meth c s₁ Bd hml0 hP hK
  obtain ⟨rfl, hZ, hh⟩ := hP
  have hx := Bd.exec
  have hby := Bd.bytes
  have hml : c.maxLocals = 2 := hml0
  have hown : s.vm.findClass "java/lang/Math" = some m.cls := findClass_of_methodNamed Bd.named
  have hnm := (name_of_methodNamed Bd.named Bd.method).1
  have hlk : meth.locks = false := BodyLoose.notSynchronized (by assumption)
  have X0 : Stand p l e ({ frames := 0, cells := 0, slots := 0, locals := 0 } : Room) s m #[(.int (0 : Int32)), (.int (14 : Int32))] below meth c s₁ [] 0 0 := Stand.of_body Bd
  have e0 : s₁.heap = h0 := by rw [← hh, Bd.state]; rfl
  have N0 := Fr.nil n0
  show own_Go p.tables e below (fun o U' => ∃ v L, o = .returned v ∧ Q_rmmax14 Z a0  h0 n0 v U'.heap L ∧ FrameEnd s o U' L ({ frames := 0, cells := 0, slots := 0, locals := 0 } : Room).cells ({ frames := 0, cells := 0, slots := 0, locals := 0 } : Room).slots) (s₁.setTop (entryFrame m #[(.int (0 : Int32)), (.int (14 : Int32))] 2))
  refine own_st (fun t k => castTop (ef_rmmax14 m ) k) ?_
  show own_Go _ _ _ _ (s₁.setTop (mkF m 0 #[iv 0, iv 14] []))
  refine o_iloadN X0 hx (hb hby d6_0) rfl ?_
  refine o_iloadN X0 hx (hb hby d6_1) rfl ?_
  refine o_icmpYes X0 hx (pc' := 9) (hb hby d6_2) (tlt (by decide : (0 : Int32) < (14 : Int32))).1 (by decide) (by decide) ?_
  refine o_iloadN X0 hx (hb hby d6_9) rfl ?_
  exact own_end X0 e0 (v := some (.int (14 : Int32))) (fun h => by rw [Bd.returns] at h; cases h) hlk (fun fs hr => retI X0 hx Bd.returns (hb hby d6_10) hr) (Q := Q_rmmax14 Z a0  h0 n0) ⟨rfl, N0, rfl⟩ (by decide) (by decide)
theorem ef_rmnlz3 (m : MethodId)  : entryFrame m #[(.int (3 : Int32))] 2 = mkF m 0 #[iv 3, .unset] [] := by first | (simp [entryFrame, mkF, argsToLocals, Value.category]; done) | rfl
def Q_rmnlz3 (Z : State) (a0 : Array Value)   (h0 : Heap) (n0 : Nat) (v : Option Value) (h : Heap) (L : List Loc) : Prop := v = some (.int (30 : Int32)) ∧ Fr n0 L ∧ h = h0
set_option maxRecDepth 65536 in
set_option maxHeartbeats 40000000 in
theorem rmnlz3 (l : Launch) (Z : State) (a0 : Array Value) (hw : ∀ d ∈ tables_1, d.before a0 Z = true) (ws : List Jvm.Cond)   (h0 : Heap) (n0 : Nat) (Z0 : n0 ≤ h0.size) :
    MetFree l (⟨"java/lang/Integer", "numberOfLeadingZeros", "(I)I"⟩ : MethodName) (head1 (Jvm.Cond.code (⟨"java/lang/Integer", "numberOfLeadingZeros", "(I)I"⟩ : MethodName) jdk_33_method_47_code 2 (some .int) :: ws) ({ frames := 0, cells := 0, slots := 0, locals := 0 } : Room)) (fun a U => a = #[(.int (3 : Int32))] ∧ Z.Warmed39 U.vm ∧ U.heap = h0) (fun _ _ _ _ _ => True) (fun _ U o U' => ∃ v L, o = .returned v ∧ Q_rmnlz3 Z a0  h0 n0 v U'.heap L ∧ FrameEnd U o U' L ({ frames := 0, cells := 0, slots := 0, locals := 0 } : Room).cells ({ frames := 0, cells := 0, slots := 0, locals := 0 } : Room).slots) := by
  refine MetFree.of_bodySF (plainFor_of_name pn_5) hisR ?_
  intro p e s m args below meth c s₁ Bd hml0 hP hK
  obtain ⟨rfl, hZ, hh⟩ := hP
  have hx := Bd.exec
  have hby := Bd.bytes
  have hml : c.maxLocals = 2 := hml0
  have hown : s.vm.findClass "java/lang/Integer" = some m.cls := findClass_of_methodNamed Bd.named
  have hnm := (name_of_methodNamed Bd.named Bd.method).1
  have hlk : meth.locks = false := BodyLoose.notSynchronized (by assumption)
  have X0 : Stand p l e ({ frames := 0, cells := 0, slots := 0, locals := 0 } : Room) s m #[(.int (3 : Int32))] below meth c s₁ [] 0 0 := Stand.of_body Bd
  have e0 : s₁.heap = h0 := by rw [← hh, Bd.state]; rfl
  have N0 := Fr.nil n0
  show own_Go p.tables e below (fun o U' => ∃ v L, o = .returned v ∧ Q_rmnlz3 Z a0  h0 n0 v U'.heap L ∧ FrameEnd s o U' L ({ frames := 0, cells := 0, slots := 0, locals := 0 } : Room).cells ({ frames := 0, cells := 0, slots := 0, locals := 0 } : Room).slots) (s₁.setTop (entryFrame m #[(.int (3 : Int32))] 2))
  refine own_st (fun t k => castTop (ef_rmnlz3 m ) k) ?_
  show own_Go _ _ _ _ (s₁.setTop (mkF m 0 #[iv 3, .unset] []))
  refine o_iloadN X0 hx (hb hby d5_0) rfl ?_
  refine o_ifYes X0 hx (pc' := 15) (hb hby d5_1) (tlt (by decide : (0 : Int32) < (3 : Int32))).2.2.1 (by decide) (by decide) ?_
  refine o_bipush X0 hx 31 (hb hby d5_15) rfl ?_
  refine o_istoreN X0 hx (hb hby d5_17) (l' := #[iv 3, iv 31]) rfl ?_
  refine o_iloadN X0 hx (hb hby d5_18) rfl ?_
  refine own_st (X0.ldcwInt hx hown (mvT hZ (hw _ (List.mem_of_getElem? (i := 61) rfl))) (g := (mkF m 19 #[iv 3, iv 31] [(.int 3)])) rfl (hb hby d5_19)) ?_
  show own_Go _ _ _ _ (s₁.setTop (mkF m 22 #[iv 3, iv 31] [(.int 65536), (.int 3)]))
  refine o_icmpYes X0 hx (pc' := 33) (hb hby d5_22) (tlt (by decide : (3 : Int32) < (65536 : Int32))).1 (by decide) (by decide) ?_
  refine o_iloadN X0 hx (hb hby d5_33) rfl ?_
  refine o_sipush X0 hx 256 (hb hby d5_34) rfl ?_
  refine o_icmpYes X0 hx (pc' := 48) (hb hby d5_37) (tlt (by decide : (3 : Int32) < (256 : Int32))).1 (by decide) (by decide) ?_
  refine o_iloadN X0 hx (hb hby d5_48) rfl ?_
  refine o_bipush X0 hx 16 (hb hby d5_49) rfl ?_
  refine o_icmpYes X0 hx (pc' := 61) (hb hby d5_51) (tlt (by decide : (3 : Int32) < (16 : Int32))).1 (by decide) (by decide) ?_
  refine o_iloadN X0 hx (hb hby d5_61) rfl ?_
  refine o_iconst X0 hx 4 (hb hby d5_62) rfl ?_
  refine o_icmpYes X0 hx (pc' := 73) (hb hby d5_63) (tlt (by decide : (3 : Int32) < (4 : Int32))).1 (by decide) (by decide) ?_
  refine o_iloadN X0 hx (hb hby d5_73) rfl ?_
  refine o_iloadN X0 hx (hb hby d5_74) rfl ?_
  refine o_iconst X0 hx 1 (hb hby d5_75) rfl ?_
  refine o_iushr X0 hx (hb hby d5_76) ?_
  show own_Go _ _ _ _ (s₁.setTop (mkF m 77 #[iv 3, iv 31] [(.int 1), (.int 31)]))
  refine o_isub X0 hx (hb hby d5_77) ?_
  show own_Go _ _ _ _ (s₁.setTop (mkF m 78 #[iv 3, iv 31] [(.int 30)]))
  exact own_end X0 e0 (v := some (.int (30 : Int32))) (fun h => by rw [Bd.returns] at h; cases h) hlk (fun fs hr => retI X0 hx Bd.returns (hb hby d5_78) hr) (Q := Q_rmnlz3 Z a0  h0 n0) ⟨rfl, N0, rfl⟩ (by decide) (by decide)
def Q_rmlay (Z : State) (a0 : Array Value) (a1 : Addr) (aw : Addr) (ao : Addr) (asx : Addr) (am : Addr) (kw : ClassId) (ko : ClassId) (ks : ClassId) (km : ClassId) (N : Int32) (fo0 : Nat → Int32) (fs0 : Nat → Int32) (fm0 : Nat → Int64) (h0 : Heap) (n0 : Nat) (v : Option Value) (h : Heap) (L : List Loc) : Prop := ∃ go1 : Nat → Int32, ∃ gs1 : Nat → Int32, ∃ gm1 : Nat → Int64, v = none ∧ Fr n0 L ∧ Keep h0 h [a1, ao, asx, am] ∧ Fld Z h a1 "com/example/causyn/causyn/analysis/MarkingStore" "word" "[I" (.ref ao) ∧ Fld Z h a1 "com/example/causyn/causyn/analysis/MarkingStore" "shift" "[I" (.ref asx) ∧ Fld Z h a1 "com/example/causyn/causyn/analysis/MarkingStore" "mask" "[J" (.ref am) ∧ Arv Z h ao ko .int N (own_LI go1 N) (.int (0 : Int32)) ∧ Arv Z h asx ks .int N (own_LI gs1 N) (.int (0 : Int32)) ∧ Arv Z h am km .long N (own_LJ gm1 N) (.long (0 : Int64)) ∧ (∀ j : Nat, (j : Int) < N.toInt → (go1 j).toInt = (j : Int) / 64) ∧ (∀ j : Nat, (j : Int) < N.toInt → (gs1 j).toInt = (j : Int) % 64) ∧ (∀ j : Nat, (j : Int) < N.toInt → gm1 j = (1 : Int64))
theorem d4_193 : decode prog_3_method_15_code 193 = .ok (.iload 5, 2) := by decide +kernel
theorem d4_195 : decode prog_3_method_15_code 195 = .ok (.aload_n 0, 1) := by decide +kernel
theorem d4_196 : decode prog_3_method_15_code 196 = .ok (.getfield 19, 3) := by decide +kernel
theorem d4_199 : decode prog_3_method_15_code 199 = .ok (.if_icmp .ge 70, 3) := by decide +kernel
theorem d4_202 : decode prog_3_method_15_code 202 = .ok (.aload_n 0, 1) := by decide +kernel
theorem d4_203 : decode prog_3_method_15_code 203 = .ok (.getfield 144, 3) := by decide +kernel
theorem d4_206 : decode prog_3_method_15_code 206 = .ok (.aload_n 0, 1) := by decide +kernel
theorem d4_207 : decode prog_3_method_15_code 207 = .ok (.getfield 26, 3) := by decide +kernel
theorem d4_210 : decode prog_3_method_15_code 210 = .ok (.iload 5, 2) := by decide +kernel
theorem d4_212 : decode prog_3_method_15_code 212 = .ok (.iaload, 1) := by decide +kernel
theorem d4_213 : decode prog_3_method_15_code 213 = .ok (.aaload, 1) := by decide +kernel
theorem d4_214 : decode prog_3_method_15_code 214 = .ok (.aload 4, 2) := by decide +kernel
theorem d4_216 : decode prog_3_method_15_code 216 = .ok (.aload_n 0, 1) := by decide +kernel
theorem d4_217 : decode prog_3_method_15_code 217 = .ok (.getfield 26, 3) := by decide +kernel
theorem d4_220 : decode prog_3_method_15_code 220 = .ok (.iload 5, 2) := by decide +kernel
theorem d4_222 : decode prog_3_method_15_code 222 = .ok (.iaload, 1) := by decide +kernel
theorem d4_223 : decode prog_3_method_15_code 223 = .ok (.dup2, 1) := by decide +kernel
theorem d4_224 : decode prog_3_method_15_code 224 = .ok (.iaload, 1) := by decide +kernel
theorem d4_225 : decode prog_3_method_15_code 225 = .ok (.dup_x2, 1) := by decide +kernel
theorem d4_226 : decode prog_3_method_15_code 226 = .ok (.iconst 1, 1) := by decide +kernel
theorem d4_227 : decode prog_3_method_15_code 227 = .ok (.iadd, 1) := by decide +kernel
theorem d4_228 : decode prog_3_method_15_code 228 = .ok (.iastore, 1) := by decide +kernel
theorem d4_229 : decode prog_3_method_15_code 229 = .ok (.iload 5, 2) := by decide +kernel
theorem d4_231 : decode prog_3_method_15_code 231 = .ok (.iastore, 1) := by decide +kernel
theorem d4_232 : decode prog_3_method_15_code 232 = .ok (.aload_n 0, 1) := by decide +kernel
theorem d4_233 : decode prog_3_method_15_code 233 = .ok (.getfield 140, 3) := by decide +kernel
theorem d4_236 : decode prog_3_method_15_code 236 = .ok (.aload_n 0, 1) := by decide +kernel
theorem d4_237 : decode prog_3_method_15_code 237 = .ok (.getfield 26, 3) := by decide +kernel
theorem d4_240 : decode prog_3_method_15_code 240 = .ok (.iload 5, 2) := by decide +kernel
theorem d4_242 : decode prog_3_method_15_code 242 = .ok (.iaload, 1) := by decide +kernel
theorem d4_243 : decode prog_3_method_15_code 243 = .ok (.dup2, 1) := by decide +kernel
theorem d4_244 : decode prog_3_method_15_code 244 = .ok (.baload, 1) := by decide +kernel
theorem d4_245 : decode prog_3_method_15_code 245 = .ok (.aload_n 0, 1) := by decide +kernel
theorem d4_246 : decode prog_3_method_15_code 246 = .ok (.getfield 23, 3) := by decide +kernel
theorem d4_249 : decode prog_3_method_15_code 249 = .ok (.iload 5, 2) := by decide +kernel
theorem d4_251 : decode prog_3_method_15_code 251 = .ok (.iaload, 1) := by decide +kernel
theorem d4_252 : decode prog_3_method_15_code 252 = .ok (.iconst 1, 1) := by decide +kernel
theorem d4_253 : decode prog_3_method_15_code 253 = .ok (.if_icmp .ne 7, 3) := by decide +kernel
theorem d4_256 : decode prog_3_method_15_code 256 = .ok (.iconst 1, 1) := by decide +kernel
theorem d4_257 : decode prog_3_method_15_code 257 = .ok (.goto 4, 3) := by decide +kernel
theorem d4_261 : decode prog_3_method_15_code 261 = .ok (.iand, 1) := by decide +kernel
theorem d4_262 : decode prog_3_method_15_code 262 = .ok (.bastore, 1) := by decide +kernel
theorem d4_263 : decode prog_3_method_15_code 263 = .ok (.iinc 5 1, 3) := by decide +kernel
theorem d4_266 : decode prog_3_method_15_code 266 = .ok (.goto (-73), 3) := by decide +kernel
theorem d4_269 : decode prog_3_method_15_code 269 = .ok (.bipush 32, 2) := by decide +kernel
theorem d4_271 : decode prog_3_method_15_code 271 = .ok (.aload_n 0, 1) := by decide +kernel
theorem d4_272 : decode prog_3_method_15_code 272 = .ok (.getfield 44, 3) := by decide +kernel
theorem d4_275 : decode prog_3_method_15_code 275 = .ok (.iconst 1, 1) := by decide +kernel
theorem d4_276 : decode prog_3_method_15_code 276 = .ok (.isub, 1) := by decide +kernel
theorem d4_277 : decode prog_3_method_15_code 277 = .ok (.invokestatic 150, 3) := by decide +kernel
theorem pd_1 : parseMethodDescriptor "(I)I" = some ⟨[.int], some .int⟩ := by decide +kernel
theorem d4_280 : decode prog_3_method_15_code 280 = .ok (.isub, 1) := by decide +kernel
theorem d4_281 : decode prog_3_method_15_code 281 = .ok (.istore 5, 2) := by decide +kernel
theorem d4_283 : decode prog_3_method_15_code 283 = .ok (.aload_n 0, 1) := by decide +kernel
theorem d4_284 : decode prog_3_method_15_code 284 = .ok (.iconst 0, 1) := by decide +kernel
theorem d4_285 : decode prog_3_method_15_code 285 = .ok (.bipush 16, 2) := by decide +kernel
theorem d4_287 : decode prog_3_method_15_code 287 = .ok (.iload 5, 2) := by decide +kernel
theorem d4_289 : decode prog_3_method_15_code 289 = .ok (.isub, 1) := by decide +kernel
theorem d4_290 : decode prog_3_method_15_code 290 = .ok (.invokestatic 112, 3) := by decide +kernel
theorem pd_2 : parseMethodDescriptor "(II)I" = some ⟨[.int, .int], some .int⟩ := by decide +kernel
theorem d4_293 : decode prog_3_method_15_code 293 = .ok (.putfield 99, 3) := by decide +kernel
theorem d4_296 : decode prog_3_method_15_code 296 = .ok (.return_, 1) := by decide +kernel
set_option maxRecDepth 65536 in
set_option maxHeartbeats 40000000 in
theorem own_lay4_1 {p : Program} {l : Launch} {e : Env} {s : State} {m : MethodId} {below : List Frame} {meth : Method} {c : Code} {Z : State} {a0 : Array Value} {h0 : Heap} {n0 : Nat} (a1 : Addr) (aw : Addr) (ao : Addr) (asx : Addr) (am : Addr) (kw : ClassId) (ko : ClassId) (ks : ClassId) (km : ClassId) (N : Int32) (fo0 : Nat → Int32) (fs0 : Nat → Int32) (fm0 : Nat → Int64) (n_aw_a1 : aw ≠ a1) (n_ao_a1 : ao ≠ a1) (n_asx_a1 : asx ≠ a1) (n_am_a1 : am ≠ a1) (n_ao_aw : ao ≠ aw) (n_asx_aw : asx ≠ aw) (n_am_aw : am ≠ aw) (n_asx_ao : asx ≠ ao) (n_am_ao : am ≠ ao) (n_am_asx : am ≠ asx) (hN1 : ¬ N < (1 : Int32)) (hN2 : ¬ (256 : Int32) < N)
    (hx : p.tables.exec = Jvm.exec) (hZ : Z.Warmed39 s.vm) (hw : ∀ d ∈ tables_1, d.before a0 Z = true) (hby : c.code = prog_3_method_15_code) (hml : c.maxLocals = 6) (hown : s.vm.findClass "com/example/causyn/causyn/analysis/MarkingStore" = some m.cls) (hret : meth.sig.returnType = none) (hlk : meth.locks = false) :
    ∀ (fuel : Nat) (T : State) (locs : List Loc) (h : Heap) (i : Int32) (c_ : Int32) (ac : Addr) (af : Addr) (ap : Addr) (ab : Addr) (p0_ : Addr) (kf : ClassId) (kq : ClassId) (kb : ClassId) (kp0 : ClassId) (gp0 : Nat → Int32) (x0 : Int32) (y0 : Int32) (go : Nat → Int32) (gs : Nat → Int32) (gm : Nat → Int64) (X : Stand p l e ({ frames := 1, cells := 8, slots := 272, locals := 14 } : Room) s m #[(.ref a1)] below meth c T locs 5 68) (eT : T.heap = h) (NF : Fr n0 locs) (Zh : n0 ≤ h.size) (Kh : Keep h0 h [a1, ao, asx, am]) (E1 : Exa Z h a1 "com/example/causyn/causyn/analysis/MarkingStore") (g1 : n0 ≤ a1) (Fp : Fld Z h a1 "com/example/causyn/causyn/analysis/MarkingStore" "places" "I" (.int N)) (Fw : Fld Z h a1 "com/example/causyn/causyn/analysis/MarkingStore" "width" "[I" (.ref aw)) (Fo : Fld Z h a1 "com/example/causyn/causyn/analysis/MarkingStore" "word" "[I" (.ref ao)) (Fs : Fld Z h a1 "com/example/causyn/causyn/analysis/MarkingStore" "shift" "[I" (.ref asx)) (Fm : Fld Z h a1 "com/example/causyn/causyn/analysis/MarkingStore" "mask" "[J" (.ref am)) (Fn : Fld Z h a1 "com/example/causyn/causyn/analysis/MarkingStore" "words" "I" (.int (1 : Int32))) (Fq : Fld Z h a1 "com/example/causyn/causyn/analysis/MarkingStore" "placesInWord" "[[I" (.ref ap)) (Fb : Fld Z h a1 "com/example/causyn/causyn/analysis/MarkingStore" "bitsOnly" "[Z" (.ref ab)) (Fc : Fld Z h a1 "com/example/causyn/causyn/analysis/MarkingStore" "chunkBits" "I" (.int (0 : Int32))) (Vw : Arv Z h aw kw .int N (own_LI (fun _ => (1 : Int32)) N) (.int (0 : Int32))) (Vo : Arv Z h ao ko .int N (own_LI go N) (.int (0 : Int32))) (Vs : Arv Z h asx ks .int N (own_LI gs N) (.int (0 : Int32))) (Vm : Arv Z h am km .long N (own_LJ gm N) (.long (0 : Int64))) (go_ : n0 ≤ ao) (gs_ : n0 ≤ asx) (gm_ : n0 ≤ am) (Vf : Arv Z h af kf .int (1 : Int32) [(.int y0)] (.int (0 : Int32))) (Vp : Arv Z h ap kq (.array .int) (1 : Int32) [(.ref p0_)] .null) (Vb : Arv Z h ab kb .boolean (1 : Int32) [(.int (1 : Int32))] (.int (0 : Int32))) (Vp0 : Arv Z h p0_ kp0 .int x0 (own_LI gp0 x0) (.int (0 : Int32))) (g_af : n0 ≤ af) (z_af : h0.size ≤ af) (g_ab : n0 ≤ ab) (z_ab : h0.size ≤ ab) (g_p0_ : n0 ≤ p0_) (z_p0_ : h0.size ≤ p0_) (n_a1_af : a1 ≠ af) (n_aw_af : aw ≠ af) (n_ao_af : ao ≠ af) (n_asx_af : asx ≠ af) (n_am_af : am ≠ af) (n_ap_af : ap ≠ af) (n_ab_af : ab ≠ af) (n_p0__af : p0_ ≠ af) (n_a1_ab : a1 ≠ ab) (n_aw_ab : aw ≠ ab) (n_ao_ab : ao ≠ ab) (n_asx_ab : asx ≠ ab) (n_am_ab : am ≠ ab) (n_ap_ab : ap ≠ ab) (n_p0__ab : p0_ ≠ ab) (n_a1_p0_ : a1 ≠ p0_) (n_aw_p0_ : aw ≠ p0_) (n_ao_p0_ : ao ≠ p0_) (n_asx_p0_ : asx ≠ p0_) (n_am_p0_ : am ≠ p0_) (n_ap_p0_ : ap ≠ p0_) (n_ap_a1 : ap ≠ a1) (hi0 : ¬ i < 0) (hi1 : ¬ N < i) (hgo : ∀ j : Nat, (j : Int) < N.toInt → (go j).toInt = (j : Int) / 64) (hgs : ∀ j : Nat, (j : Int) < N.toInt → (gs j).toInt = (j : Int) % 64) (hgm : ∀ j : Nat, (j : Int) < N.toInt → gm j = (1 : Int64)) (hnw : own_nw N 1) (hx0 : x0.toInt = own_cl N.toInt 0) (hy0 : y0.toInt = own_cl i.toInt 0) (hfu : N.toInt - i.toInt < (fuel : Int)), own_Go p.tables e below (fun o U' => ∃ v L, o = .returned v ∧ Q_rmlay Z a0 a1 aw ao asx am kw ko ks km N fo0 fs0 fm0 h0 n0 v U'.heap L ∧ FrameEnd s o U' L ({ frames := 1, cells := 8, slots := 272, locals := 14 } : Room).cells ({ frames := 1, cells := 8, slots := 272, locals := 14 } : Room).slots) (T.setTop (mkF m 193 #[rv a1, iv 0, iv c_, rv ac, rv af, iv i] [])) := by
  intro fuel
  induction fuel with
  | zero => intro T locs h i c_ ac af ap ab p0_ kf kq kb kp0 gp0 x0 y0 go gs gm X eT NF Zh Kh E1 g1 Fp Fw Fo Fs Fm Fn Fq Fb Fc Vw Vo Vs Vm go_ gs_ gm_ Vf Vp Vb Vp0 g_af z_af g_ab z_ab g_p0_ z_p0_ n_a1_af n_aw_af n_ao_af n_asx_af n_am_af n_ap_af n_ab_af n_p0__af n_a1_ab n_aw_ab n_ao_ab n_asx_ab n_am_ab n_ap_ab n_p0__ab n_a1_p0_ n_aw_p0_ n_ao_p0_ n_asx_p0_ n_am_p0_ n_ap_p0_ n_ap_a1 hi0 hi1 hgo hgs hgm hnw hx0 hy0 hfu; exact (own_f0 hi1 hfu).elim
  | succ fuel ih =>
    intro T locs h i c_ ac af ap ab p0_ kf kq kb kp0 gp0 x0 y0 go gs gm X eT NF Zh Kh E1 g1 Fp Fw Fo Fs Fm Fn Fq Fb Fc Vw Vo Vs Vm go_ gs_ gm_ Vf Vp Vb Vp0 g_af z_af g_ab z_ab g_p0_ z_p0_ n_a1_af n_aw_af n_ao_af n_asx_af n_am_af n_ap_af n_ab_af n_p0__af n_a1_ab n_aw_ab n_ao_ab n_asx_ab n_am_ab n_ap_ab n_p0__ab n_a1_p0_ n_aw_p0_ n_ao_p0_ n_asx_p0_ n_am_p0_ n_ap_p0_ n_ap_a1 hi0 hi1 hgo hgs hgm hnw hx0 hy0 hfu
    refine o_iload X hx (hb hby d4_193) rfl ?_
    refine o_aloadN X hx (hb hby d4_195) rfl rfl ?_
    obtain ⟨T_1, X_1, e_1, st_1⟩ := getF X hx hZ hown (host := "") (Or.inl (hw _ (List.mem_of_getElem? (i := 17) rfl))) Via.refl eT Fp (g := (mkF m 196 #[rv a1, iv 0, iv c_, rv ac, rv af, iv i] [(.ref a1), (.int i)])) rfl rfl (hb hby d4_196)
    refine own_st st_1 ?_
    show own_Go _ _ _ _ (T_1.setTop (mkF m 199 #[rv a1, iv 0, iv c_, rv ac, rv af, iv i] [(.int N), (.int i)]))
    by_cases hc199__2 : i < N
    · refine o_icmpNo X_1 hx (hb hby d4_199) (tlt hc199__2).2.1 ?_
      refine o_aloadN X_1 hx (hb hby d4_202) rfl rfl ?_
      obtain ⟨T_3, X_3, e_3, st_3⟩ := getF X_1 hx hZ hown (host := "") (Or.inl (hw _ (List.mem_of_getElem? (i := 40) rfl))) Via.refl e_1 Fq (g := (mkF m 203 #[rv a1, iv 0, iv c_, rv ac, rv af, iv i] [(.ref a1)])) rfl rfl (hb hby d4_203)
      refine own_st st_3 ?_
      show own_Go _ _ _ _ (T_3.setTop (mkF m 206 #[rv a1, iv 0, iv c_, rv ac, rv af, iv i] [(.ref ap)]))
      refine o_aloadN X_3 hx (hb hby d4_206) rfl rfl ?_
      obtain ⟨T_4, X_4, e_4, st_4⟩ := getF X_3 hx hZ hown (host := "") (Or.inl (hw _ (List.mem_of_getElem? (i := 21) rfl))) Via.refl e_3 Fo (g := (mkF m 207 #[rv a1, iv 0, iv c_, rv ac, rv af, iv i] [(.ref a1), (.ref ap)])) rfl rfl (hb hby d4_207)
      refine own_st st_4 ?_
      show own_Go _ _ _ _ (T_4.setTop (mkF m 210 #[rv a1, iv 0, iv c_, rv ac, rv af, iv i] [(.ref ao), (.ref ap)]))
      refine o_iload X_4 hx (hb hby d4_210) rfl ?_
      obtain ⟨cl_5, Ar_5, qk_5, Sz_5, Ng_5, Hs_5, Gs_5⟩ := id Vo
      refine own_st (X_4.iaload hx (j := i) (v := (.int (go i.toNatClampNeg))) (by rw [e_4]; exact Ar_5.1) (State.isArrayOf_alike hZ.alike Ar_5.2.1) Ar_5.2.2 (inb_of Sz_5 ⟨hi0, hc199__2⟩) (Hs_5.at (j := i) (inb_of Sz_5 ⟨hi0, hc199__2⟩) (own_LI_get hi0 hc199__2)) (g := (mkF m 212 #[rv a1, iv 0, iv c_, rv ac, rv af, iv i] [(.int i), (.ref ao), (.ref ap)])) rfl rfl (hb hby d4_212)) ?_
      show own_Go _ _ _ _ (T_4.setTop (mkF m 213 #[rv a1, iv 0, iv c_, rv ac, rv af, iv i] [(.int (go i.toNatClampNeg)), (.ref ap)]))
      have hgi_6 := hgo i.toNatClampNeg (own_jN hi0 hc199__2)
      rcases own_wk1 hi0 hc199__2 hnw hgi_6 with hk_6
      · rw [hk_6]
        show own_Go _ _ _ _ (T_4.setTop (mkF m 213 #[rv a1, iv 0, iv c_, rv ac, rv af, iv i] [(.int 0), (.ref ap)]))
        obtain ⟨cl_7, Ar_7, qk_7, Sz_7, Ng_7, Hs_7, Gs_7⟩ := id Vp
        refine own_st (X_4.aaload hx (j := (0 : Int32)) (v := (.ref p0_)) (by rw [e_4]; exact Ar_7.1) (State.isArrayOf_alike hZ.alike Ar_7.2.1) rfl Ar_7.2.2 (inb_of Sz_7 ⟨by decide, by decide⟩) (Hs_7.at (j := (0 : Int32)) (inb_of Sz_7 ⟨by decide, by decide⟩) rfl) (g := (mkF m 213 #[rv a1, iv 0, iv c_, rv ac, rv af, iv i] [(.int 0), (.ref ap)])) rfl rfl (hb hby d4_213)) ?_
        show own_Go _ _ _ _ (T_4.setTop (mkF m 214 #[rv a1, iv 0, iv c_, rv ac, rv af, iv i] [(.ref p0_)]))
        refine o_aload X_4 hx (hb hby d4_214) rfl rfl ?_
        refine o_aloadN X_4 hx (hb hby d4_216) rfl rfl ?_
        obtain ⟨T_8, X_8, e_8, st_8⟩ := getF X_4 hx hZ hown (host := "") (Or.inl (hw _ (List.mem_of_getElem? (i := 21) rfl))) Via.refl e_4 Fo (g := (mkF m 217 #[rv a1, iv 0, iv c_, rv ac, rv af, iv i] [(.ref a1), (.ref af), (.ref p0_)])) rfl rfl (hb hby d4_217)
        refine own_st st_8 ?_
        show own_Go _ _ _ _ (T_8.setTop (mkF m 220 #[rv a1, iv 0, iv c_, rv ac, rv af, iv i] [(.ref ao), (.ref af), (.ref p0_)]))
        refine o_iload X_8 hx (hb hby d4_220) rfl ?_
        obtain ⟨cl_9, Ar_9, qk_9, Sz_9, Ng_9, Hs_9, Gs_9⟩ := id Vo
        refine own_st (X_8.iaload hx (j := i) (v := (.int (0 : Int32))) (by rw [e_8]; exact Ar_9.1) (State.isArrayOf_alike hZ.alike Ar_9.2.1) Ar_9.2.2 (inb_of Sz_9 ⟨hi0, hc199__2⟩) (Hs_9.at (j := i) (inb_of Sz_9 ⟨hi0, hc199__2⟩) ((own_LI_get hi0 hc199__2).trans (congrArg Value.int hk_6))) (g := (mkF m 222 #[rv a1, iv 0, iv c_, rv ac, rv af, iv i] [(.int i), (.ref ao), (.ref af), (.ref p0_)])) rfl rfl (hb hby d4_222)) ?_
        show own_Go _ _ _ _ (T_8.setTop (mkF m 223 #[rv a1, iv 0, iv c_, rv ac, rv af, iv i] [(.int 0), (.ref af), (.ref p0_)]))
        refine o_dup2 X_8 hx (hb hby d4_223) rfl rfl ?_
        obtain ⟨cl_10, Ar_10, qk_10, Sz_10, Ng_10, Hs_10, Gs_10⟩ := id Vf
        refine own_st (X_8.iaload hx (j := (0 : Int32)) (v := (.int y0)) (by rw [e_8]; exact Ar_10.1) (State.isArrayOf_alike hZ.alike Ar_10.2.1) Ar_10.2.2 (inb_of Sz_10 ⟨by decide, by decide⟩) (Hs_10.at (j := (0 : Int32)) (inb_of Sz_10 ⟨by decide, by decide⟩) rfl) (g := (mkF m 224 #[rv a1, iv 0, iv c_, rv ac, rv af, iv i] [(.int 0), (.ref af), (.int 0), (.ref af), (.ref p0_)])) rfl rfl (hb hby d4_224)) ?_
        show own_Go _ _ _ _ (T_8.setTop (mkF m 225 #[rv a1, iv 0, iv c_, rv ac, rv af, iv i] [(.int y0), (.int 0), (.ref af), (.ref p0_)]))
        refine o_dupX2 X_8 hx (hb hby d4_225) rfl rfl rfl ?_
        refine o_iconst X_8 hx 1 (hb hby d4_226) rfl ?_
        refine o_iadd X_8 hx (hb hby d4_227) ?_
        obtain ⟨cl_11, Ar_11, qk_11, Sz_11, Ng_11, Hs_11, Gs_11⟩ := id Vf
        obtain ⟨T_12, h_12, X_12, e_12, W_12, st_12⟩ := stI X_8 hx hZ e_8 Ar_11 (j := (0 : Int32)) (inb_of Sz_11 ⟨by decide, by decide⟩) (g := (mkF m 228 #[rv a1, iv 0, iv c_, rv ac, rv af, iv i] [(.int (y0 + (1 : Int32))), (.int 0), (.ref af), (.int y0), (.ref p0_)])) rfl rfl (hb hby d4_228)
        refine own_st st_12 ?_
        have V_12 : Arv Z h_12 af kf .int (1 : Int32) [(.int (y0 + (1 : Int32)))] (.int (0 : Int32)) := Arv.set Ar_11 qk_11 Sz_11 Ng_11 Hs_11 Gs_11 rfl W_12 0 rfl (Nat.le_of_ble_eq_true rfl)
        have N_12 := Fr.snoc X_12 NF g_af
        show own_Go _ _ _ _ (T_12.setTop (mkF m 229 #[rv a1, iv 0, iv c_, rv ac, rv af, iv i] [(.int y0), (.ref p0_)]))
        refine o_iload X_12 hx (hb hby d4_229) rfl ?_
        have Fa_13 := (Vp0.other W_12 n_p0__af)
        obtain ⟨cl_14, Ar_14, qk_14, Sz_14, Ng_14, Hs_14, Gs_14⟩ := id Fa_13
        obtain ⟨T_15, h_15, X_15, e_15, W_15, st_15⟩ := stI X_12 hx hZ e_12 Ar_14 (j := y0) (inb_of Sz_14 ⟨(own_clnn hy0), (own_clt hi0 hc199__2 hgi_6 (congrArg Int32.toInt hk_6) hy0 hx0)⟩) (g := (mkF m 231 #[rv a1, iv 0, iv c_, rv ac, rv af, iv i] [(.int i), (.int y0), (.ref p0_)])) rfl rfl (hb hby d4_231)
        refine own_st st_15 ?_
        have V_15 : Arv Z h_15 p0_ kp0 .int x0 (own_LI (own_up gp0 y0.toNatClampNeg i) x0) (.int (0 : Int32)) := by have q := Arv.set Ar_14 qk_14 Sz_14 Ng_14 Hs_14 Gs_14 rfl W_15 y0.toNatClampNeg rfl (own_LI_lt (own_clnn hy0) (own_clt hi0 hc199__2 hgi_6 (congrArg Int32.toInt hk_6) hy0 hx0)); rw [own_LI_set] at q; exact q
        have N_15 := Fr.snoc X_15 N_12 g_p0_
        show own_Go _ _ _ _ (T_15.setTop (mkF m 232 #[rv a1, iv 0, iv c_, rv ac, rv af, iv i] []))
        refine o_aloadN X_15 hx (hb hby d4_232) rfl rfl ?_
        have Fa_16 := ((Fb.other W_12 (Or.inl n_a1_af)).other W_15 (Or.inl n_a1_p0_))
        obtain ⟨T_17, X_17, e_17, st_17⟩ := getF X_15 hx hZ hown (host := "") (Or.inl (hw _ (List.mem_of_getElem? (i := 43) rfl))) Via.refl e_15 Fa_16 (g := (mkF m 233 #[rv a1, iv 0, iv c_, rv ac, rv af, iv i] [(.ref a1)])) rfl rfl (hb hby d4_233)
        refine own_st st_17 ?_
        show own_Go _ _ _ _ (T_17.setTop (mkF m 236 #[rv a1, iv 0, iv c_, rv ac, rv af, iv i] [(.ref ab)]))
        refine o_aloadN X_17 hx (hb hby d4_236) rfl rfl ?_
        have Fa_18 := ((Fo.other W_12 (Or.inl n_a1_af)).other W_15 (Or.inl n_a1_p0_))
        obtain ⟨T_19, X_19, e_19, st_19⟩ := getF X_17 hx hZ hown (host := "") (Or.inl (hw _ (List.mem_of_getElem? (i := 21) rfl))) Via.refl e_17 Fa_18 (g := (mkF m 237 #[rv a1, iv 0, iv c_, rv ac, rv af, iv i] [(.ref a1), (.ref ab)])) rfl rfl (hb hby d4_237)
        refine own_st st_19 ?_
        show own_Go _ _ _ _ (T_19.setTop (mkF m 240 #[rv a1, iv 0, iv c_, rv ac, rv af, iv i] [(.ref ao), (.ref ab)]))
        refine o_iload X_19 hx (hb hby d4_240) rfl ?_
        have Fa_20 := ((Vo.other W_12 n_ao_af).other W_15 n_ao_p0_)
        obtain ⟨cl_21, Ar_21, qk_21, Sz_21, Ng_21, Hs_21, Gs_21⟩ := id Fa_20
        refine own_st (X_19.iaload hx (j := i) (v := (.int (0 : Int32))) (by rw [e_19]; exact Ar_21.1) (State.isArrayOf_alike hZ.alike Ar_21.2.1) Ar_21.2.2 (inb_of Sz_21 ⟨hi0, hc199__2⟩) (Hs_21.at (j := i) (inb_of Sz_21 ⟨hi0, hc199__2⟩) ((own_LI_get hi0 hc199__2).trans (congrArg Value.int hk_6))) (g := (mkF m 242 #[rv a1, iv 0, iv c_, rv ac, rv af, iv i] [(.int i), (.ref ao), (.ref ab)])) rfl rfl (hb hby d4_242)) ?_
        show own_Go _ _ _ _ (T_19.setTop (mkF m 243 #[rv a1, iv 0, iv c_, rv ac, rv af, iv i] [(.int 0), (.ref ab)]))
        refine o_dup2 X_19 hx (hb hby d4_243) rfl rfl ?_
        have Fa_22 := ((Vb.other W_12 n_ab_af).other W_15 (Ne.symm n_p0__ab))
        obtain ⟨cl_23, Ar_23, qk_23, Sz_23, Ng_23, Hs_23, Gs_23⟩ := id Fa_22
        refine own_st (X_19.baloadBooleans hx (j := (0 : Int32)) (v := (.int (1 : Int32))) (by rw [e_19]; exact Ar_23.1) (State.isArrayOf_alike hZ.alike Ar_23.2.1) Ar_23.2.2 (inb_of Sz_23 ⟨by decide, by decide⟩) (Hs_23.at (j := (0 : Int32)) (inb_of Sz_23 ⟨by decide, by decide⟩) rfl) (g := (mkF m 244 #[rv a1, iv 0, iv c_, rv ac, rv af, iv i] [(.int 0), (.ref ab), (.int 0), (.ref ab)])) rfl rfl (hb hby d4_244)) ?_
        show own_Go _ _ _ _ (T_19.setTop (mkF m 245 #[rv a1, iv 0, iv c_, rv ac, rv af, iv i] [(.int 1), (.int 0), (.ref ab)]))
        refine o_aloadN X_19 hx (hb hby d4_245) rfl rfl ?_
        have Fa_24 := ((Fw.other W_12 (Or.inl n_a1_af)).other W_15 (Or.inl n_a1_p0_))
        obtain ⟨T_25, X_25, e_25, st_25⟩ := getF X_19 hx hZ hown (host := "") (Or.inl (hw _ (List.mem_of_getElem? (i := 19) rfl))) Via.refl e_19 Fa_24 (g := (mkF m 246 #[rv a1, iv 0, iv c_, rv ac, rv af, iv i] [(.ref a1), (.int 1), (.int 0), (.ref ab)])) rfl rfl (hb hby d4_246)
        refine own_st st_25 ?_
        show own_Go _ _ _ _ (T_25.setTop (mkF m 249 #[rv a1, iv 0, iv c_, rv ac, rv af, iv i] [(.ref aw), (.int 1), (.int 0), (.ref ab)]))
        refine o_iload X_25 hx (hb hby d4_249) rfl ?_
        have Fa_26 := ((Vw.other W_12 n_aw_af).other W_15 n_aw_p0_)
        obtain ⟨cl_27, Ar_27, qk_27, Sz_27, Ng_27, Hs_27, Gs_27⟩ := id Fa_26
        refine own_st (X_25.iaload hx (j := i) (v := (.int (1 : Int32))) (by rw [e_25]; exact Ar_27.1) (State.isArrayOf_alike hZ.alike Ar_27.2.1) Ar_27.2.2 (inb_of Sz_27 ⟨hi0, hc199__2⟩) (Hs_27.at (j := i) (inb_of Sz_27 ⟨hi0, hc199__2⟩) ((own_LI_get hi0 hc199__2).trans rfl)) (g := (mkF m 251 #[rv a1, iv 0, iv c_, rv ac, rv af, iv i] [(.int i), (.ref aw), (.int 1), (.int 0), (.ref ab)])) rfl rfl (hb hby d4_251)) ?_
        show own_Go _ _ _ _ (T_25.setTop (mkF m 252 #[rv a1, iv 0, iv c_, rv ac, rv af, iv i] [(.int 1), (.int 1), (.int 0), (.ref ab)]))
        refine o_iconst X_25 hx 1 (hb hby d4_252) rfl ?_
        refine o_icmpNo X_25 hx (hb hby d4_253) (teq (by decide : (1 : Int32) = (1 : Int32))).2 ?_
        refine o_iconst X_25 hx 1 (hb hby d4_256) rfl ?_
        refine o_goto X_25 hx (pc' := 261) (hb hby d4_257) (by decide) (by decide) ?_
        refine o_iand X_25 hx (hb hby d4_261) ?_
        show own_Go _ _ _ _ (T_25.setTop (mkF m 262 #[rv a1, iv 0, iv c_, rv ac, rv af, iv i] [(.int 1), (.int 0), (.ref ab)]))
        obtain ⟨cl_28, Ar_28, qk_28, Sz_28, Ng_28, Hs_28, Gs_28⟩ := id Fa_22
        obtain ⟨T_29, h_29, X_29, e_29, W_29, st_29⟩ := stZ X_25 hx hZ e_25 Ar_28 (j := (0 : Int32)) (inb_of Sz_28 ⟨by decide, by decide⟩) (g := (mkF m 262 #[rv a1, iv 0, iv c_, rv ac, rv af, iv i] [(.int 1), (.int 0), (.ref ab)])) rfl rfl (hb hby d4_262)
        refine own_st st_29 ?_
        have V_29 : Arv Z h_29 ab kb .boolean (1 : Int32) [(.int (1 : Int32))] (.int (0 : Int32)) := Arv.set Ar_28 qk_28 Sz_28 Ng_28 Hs_28 Gs_28 (by decide) W_29 0 rfl (Nat.le_of_ble_eq_true rfl)
        have N_29 := Fr.snoc X_29 N_15 g_ab
        show own_Go _ _ _ _ (T_29.setTop (mkF m 263 #[rv a1, iv 0, iv c_, rv ac, rv af, iv i] []))
        refine o_iinc X_29 hx (hb hby d4_263) rfl (l' := #[rv a1, iv 0, iv c_, rv ac, rv af, iv (i + (1 : Int32))]) rfl ?_
        refine o_goto X_29 hx (pc' := 193) (hb hby d4_266) (by decide) (by decide) ?_
        have Zs_30 : n0 ≤ h_29.size := (Nat.le_trans (Nat.le_trans (Nat.le_trans Zh (Keep.of_wr W_12).1) (Keep.of_wr W_15).1) (Keep.of_wr W_29).1)
        have Kp_31 : Keep h0 h_29 [a1, ao, asx, am] := (((Kh.wr W_12 (Or.inr z_af)).wr W_15 (Or.inr z_p0_)).wr W_29 (Or.inr z_ab))
        have Fa_32 := (((E1.wr W_12).wr W_15).wr W_29)
        have Fa_33 := (((Fp.other W_12 (Or.inl n_a1_af)).other W_15 (Or.inl n_a1_p0_)).other W_29 (Or.inl n_a1_ab))
        have Fa_34 := (Fa_24.other W_29 (Or.inl n_a1_ab))
        have Fa_35 := (Fa_18.other W_29 (Or.inl n_a1_ab))
        have Fa_36 := (((Fs.other W_12 (Or.inl n_a1_af)).other W_15 (Or.inl n_a1_p0_)).other W_29 (Or.inl n_a1_ab))
        have Fa_37 := (((Fm.other W_12 (Or.inl n_a1_af)).other W_15 (Or.inl n_a1_p0_)).other W_29 (Or.inl n_a1_ab))
        have Fa_38 := (((Fn.other W_12 (Or.inl n_a1_af)).other W_15 (Or.inl n_a1_p0_)).other W_29 (Or.inl n_a1_ab))
        have Fa_39 := (((Fq.other W_12 (Or.inl n_a1_af)).other W_15 (Or.inl n_a1_p0_)).other W_29 (Or.inl n_a1_ab))
        have Fa_40 := (Fa_16.other W_29 (Or.inl n_a1_ab))
        have Fa_41 := (((Fc.other W_12 (Or.inl n_a1_af)).other W_15 (Or.inl n_a1_p0_)).other W_29 (Or.inl n_a1_ab))
        have Fa_42 := (Fa_26.other W_29 n_aw_ab)
        have Fa_43 := (Fa_20.other W_29 n_ao_ab)
        have Fa_44 := (((Vs.other W_12 n_asx_af).other W_15 n_asx_p0_).other W_29 n_asx_ab)
        have Fa_45 := (((Vm.other W_12 n_am_af).other W_15 n_am_p0_).other W_29 n_am_ab)
        have Fa_46 := ((V_12.other W_15 (Ne.symm n_p0__af)).other W_29 (Ne.symm n_ab_af))
        have Fa_47 := (((Vp.other W_12 n_ap_af).other W_15 n_ap_p0_).other W_29 n_ap_ab)
        have Fa_48 := (V_15.other W_29 n_p0__ab)
        exact ih T_29 _ h_29 (i + (1 : Int32)) c_ ac af ap ab p0_ kf kq kb kp0 (own_up gp0 y0.toNatClampNeg i) x0 (y0 + (1 : Int32)) go gs gm X_29 e_29 N_29 Zs_30 Kp_31 Fa_32 g1 Fa_33 Fa_34 Fa_35 Fa_36 Fa_37 Fa_38 Fa_39 Fa_40 Fa_41 Fa_42 Fa_43 Fa_44 Fa_45 go_ gs_ gm_ Fa_46 Fa_47 V_29 Fa_48 g_af z_af g_ab z_ab g_p0_ z_p0_ n_a1_af n_aw_af n_ao_af n_asx_af n_am_af n_ap_af n_ab_af n_p0__af n_a1_ab n_aw_ab n_ao_ab n_asx_ab n_am_ab n_ap_ab n_p0__ab n_a1_p0_ n_aw_p0_ n_ao_p0_ n_asx_p0_ n_am_p0_ n_ap_p0_ n_ap_a1 (own_nx0 hi0 hc199__2) (own_nx1 hi0 hc199__2) hgo hgs hgm hnw hx0 (own_clS hi0 hc199__2 hgi_6 (congrArg Int32.toInt hk_6) hy0) (own_fS hi0 hc199__2 hfu)
    · refine o_icmpYes X_1 hx (pc' := 269) (hb hby d4_199) (flt hc199__2).2.1 (by decide) (by decide) ?_
      refine o_bipush X_1 hx 32 (hb hby d4_269) rfl ?_
      refine o_aloadN X_1 hx (hb hby d4_271) rfl rfl ?_
      obtain ⟨T_49, X_49, e_49, st_49⟩ := getF X_1 hx hZ hown (host := "") (Or.inl (hw _ (List.mem_of_getElem? (i := 36) rfl))) Via.refl e_1 Fn (g := (mkF m 272 #[rv a1, iv 0, iv c_, rv ac, rv af, iv i] [(.ref a1), (.int 32)])) rfl rfl (hb hby d4_272)
      refine own_st st_49 ?_
      show own_Go _ _ _ _ (T_49.setTop (mkF m 275 #[rv a1, iv 0, iv c_, rv ac, rv af, iv i] [(.int 1), (.int 32)]))
      refine o_iconst X_49 hx 1 (hb hby d4_275) rfl ?_
      refine o_isub X_49 hx (hb hby d4_276) ?_
      show own_Go _ _ _ _ (T_49.setTop (mkF m 277 #[rv a1, iv 0, iv c_, rv ac, rv af, iv i] [(.int 0), (.int 32)]))
      obtain ⟨_, _, ⟨T_50, L_50, k_50, n_50⟩, -, X_50, ⟨Lc_50, hQ_50, l_50, y_50, z_50⟩, st_50⟩ := Jvm.LawKit.callS X_49 hx (y := (⟨"java/lang/Integer", "numberOfLeadingZeros", "(I)I"⟩ : MethodName)) hown (mvT hZ (hw _ (List.mem_of_getElem? (i := 46) rfl))) (mvT hZ (hw _ (List.mem_of_getElem? (i := 47) rfl))) (mvT hZ (hw _ (List.mem_of_getElem? (i := 48) rfl))) (mvT hZ (hw _ (List.mem_of_getElem? (i := 49) rfl))) (by decide) (backOf (W := 1) (rmnlz0 l Z a0 hw []   h n0 Zh) hZ (hw _ (List.mem_of_getElem? (i := 49) rfl)) (hw _ (List.mem_of_getElem? (i := 48) rfl)) (by decide) (by decide)) (g := (mkF m 277 #[rv a1, iv 0, iv c_, rv ac, rv af, iv i] [(.int 0), (.int 32)])) rfl (by rw [hml]; rfl) (argsL := [(.int 0)]) (rest := [(.int 32)]) (lenOf pd_1 rfl) rfl (by show 2 * 0 + _ ≤ _; exact Nat.le_of_eq rfl) (hb hby d4_277) (fun _ _ => ⟨rfl, e_49, (by decide : 5 + 0 ≤ _), (by decide : 68 + 0 ≤ _)⟩)
      dsimp only [Pt.U, Pt.locs, Pt.cells, Pt.slots] at X_50 l_50 y_50 z_50 st_50 hQ_50
      subst l_50 y_50 z_50
      obtain ⟨rfl, Nq_50, e_50⟩ := hQ_50
      have N_50 := Fr.app NF Nq_50
      refine own_st st_50 ?_
      show own_Go _ _ _ _ (T_50.setTop (mkF m 280 #[rv a1, iv 0, iv c_, rv ac, rv af, iv i] [(.int 32), (.int 32)]))
      refine o_isub X_50 hx (hb hby d4_280) ?_
      show own_Go _ _ _ _ (T_50.setTop (mkF m 281 #[rv a1, iv 0, iv c_, rv ac, rv af, iv i] [(.int 0)]))
      refine o_istore X_50 hx (hb hby d4_281) (l' := #[rv a1, iv 0, iv c_, rv ac, rv af, iv 0]) rfl ?_
      refine o_aloadN X_50 hx (hb hby d4_283) rfl rfl ?_
      refine o_iconst X_50 hx 0 (hb hby d4_284) rfl ?_
      refine o_bipush X_50 hx 16 (hb hby d4_285) rfl ?_
      refine o_iload X_50 hx (hb hby d4_287) rfl ?_
      refine o_isub X_50 hx (hb hby d4_289) ?_
      show own_Go _ _ _ _ (T_50.setTop (mkF m 290 #[rv a1, iv 0, iv c_, rv ac, rv af, iv 0] [(.int 16), (.int 0), (.ref a1)]))
      obtain ⟨_, _, ⟨T_51, L_51, k_51, n_51⟩, -, X_51, ⟨Lc_51, hQ_51, l_51, y_51, z_51⟩, st_51⟩ := Jvm.LawKit.callS X_50 hx (y := (⟨"java/lang/Math", "max", "(II)I"⟩ : MethodName)) hown (mvT hZ (hw _ (List.mem_of_getElem? (i := 50) rfl))) (mvT hZ (hw _ (List.mem_of_getElem? (i := 51) rfl))) (mvT hZ (hw _ (List.mem_of_getElem? (i := 52) rfl))) (mvT hZ (hw _ (List.mem_of_getElem? (i := 53) rfl))) (by decide) (backOf (W := 1) (rmmax16 l Z a0 hw []   h n0 Zh) hZ (hw _ (List.mem_of_getElem? (i := 53) rfl)) (hw _ (List.mem_of_getElem? (i := 52) rfl)) (by decide) (by decide)) (g := (mkF m 290 #[rv a1, iv 0, iv c_, rv ac, rv af, iv 0] [(.int 16), (.int 0), (.ref a1)])) rfl (by rw [hml]; rfl) (argsL := [(.int 0), (.int 16)]) (rest := [(.ref a1)]) (lenOf pd_2 rfl) rfl (by show 2 * 0 + _ ≤ _; exact Nat.le_of_eq rfl) (hb hby d4_290) (fun _ _ => ⟨rfl, e_50, (by decide : 5 + 0 ≤ _), (by decide : 68 + 0 ≤ _)⟩)
      dsimp only [Pt.U, Pt.locs, Pt.cells, Pt.slots] at X_51 l_51 y_51 z_51 st_51 hQ_51
      subst l_51 y_51 z_51
      obtain ⟨rfl, Nq_51, e_51⟩ := hQ_51
      have N_51 := Fr.app N_50 Nq_51
      refine own_st st_51 ?_
      show own_Go _ _ _ _ (T_51.setTop (mkF m 293 #[rv a1, iv 0, iv c_, rv ac, rv af, iv 0] [(.int 16), (.ref a1)]))
      obtain ⟨T_52, h_52, X_52, e_52, W_52, st_52⟩ := putF X_51 hx hZ hown (host := "") (Or.inl (hw _ (List.mem_of_getElem? (i := 54) rfl))) Via.refl e_51 Fc E1 (Or.inl (hw _ (List.mem_of_getElem? (i := 55) rfl))) (hw _ (List.mem_of_getElem? (i := 2) rfl)) (ty := .int) (by decide) rfl rfl (g := (mkF m 293 #[rv a1, iv 0, iv c_, rv ac, rv af, iv 0] [(.int 16), (.ref a1)])) rfl rfl (hb hby d4_293)
      refine own_st st_52 ?_
      have N_52 := Fr.snoc X_52 N_51 g1
      show own_Go _ _ _ _ (T_52.setTop (mkF m 296 #[rv a1, iv 0, iv c_, rv ac, rv af, iv 0] []))
      have Kp_53 : Keep h0 h_52 [a1, ao, asx, am] := (Kh.wr W_52 (Or.inl (List.mem_of_getElem? (i := 0) rfl)))
      have Fa_54 := (Fo.other W_52 (Or.inr (slot_ne (Or.inr (hw _ (List.mem_of_getElem? (i := 22) rfl))) (Or.inl (hw _ (List.mem_of_getElem? (i := 55) rfl))) (by decide) (t := (.array .int)) (t' := .int) (by decide) (by decide))))
      have Fa_55 := (Fs.other W_52 (Or.inr (slot_ne (Or.inr (hw _ (List.mem_of_getElem? (i := 24) rfl))) (Or.inl (hw _ (List.mem_of_getElem? (i := 55) rfl))) (by decide) (t := (.array .int)) (t' := .int) (by decide) (by decide))))
      have Fa_56 := (Fm.other W_52 (Or.inr (slot_ne (Or.inr (hw _ (List.mem_of_getElem? (i := 27) rfl))) (Or.inl (hw _ (List.mem_of_getElem? (i := 55) rfl))) (by decide) (t := (.array .long)) (t' := .int) (by decide) (by decide))))
      have Fa_57 := (Vo.other W_52 n_ao_a1)
      have Fa_58 := (Vs.other W_52 n_asx_a1)
      have Fa_59 := (Vm.other W_52 n_am_a1)
      exact own_end X_52 e_52 (v := none) (fun _ => rfl) hlk (fun fs hr => X_52.returnOut hx hret (hb hby d4_296) hr) (Q := Q_rmlay Z a0 a1 aw ao asx am kw ko ks km N fo0 fs0 fm0 h0 n0) ⟨go, gs, gm, rfl, N_52, Kp_53, Fa_54, Fa_55, Fa_56, Fa_57, Fa_58, Fa_59, hgo, hgs, hgm⟩ (by decide) (by decide)
theorem d4_122 : decode prog_3_method_15_code 122 = .ok (.aload_n 0, 1) := by decide +kernel
theorem d4_123 : decode prog_3_method_15_code 123 = .ok (.aload_n 0, 1) := by decide +kernel
theorem d4_124 : decode prog_3_method_15_code 124 = .ok (.getfield 44, 3) := by decide +kernel
theorem d4_127 : decode prog_3_method_15_code 127 = .ok (.anewarray 94, 3) := by decide +kernel
theorem d4_130 : decode prog_3_method_15_code 130 = .ok (.putfield 144, 3) := by decide +kernel
theorem d4_133 : decode prog_3_method_15_code 133 = .ok (.aload_n 0, 1) := by decide +kernel
theorem d4_134 : decode prog_3_method_15_code 134 = .ok (.aload_n 0, 1) := by decide +kernel
theorem d4_135 : decode prog_3_method_15_code 135 = .ok (.getfield 44, 3) := by decide +kernel
theorem d4_138 : decode prog_3_method_15_code 138 = .ok (.newarray .boolean, 2) := by decide +kernel
theorem d4_140 : decode prog_3_method_15_code 140 = .ok (.putfield 140, 3) := by decide +kernel
theorem d4_143 : decode prog_3_method_15_code 143 = .ok (.iconst 0, 1) := by decide +kernel
theorem d4_144 : decode prog_3_method_15_code 144 = .ok (.istore 4, 2) := by decide +kernel
theorem d4_146 : decode prog_3_method_15_code 146 = .ok (.iload 4, 2) := by decide +kernel
theorem d4_148 : decode prog_3_method_15_code 148 = .ok (.aload_n 0, 1) := by decide +kernel
theorem d4_149 : decode prog_3_method_15_code 149 = .ok (.getfield 44, 3) := by decide +kernel
theorem d4_152 : decode prog_3_method_15_code 152 = .ok (.if_icmp .ge 30, 3) := by decide +kernel
theorem d4_155 : decode prog_3_method_15_code 155 = .ok (.aload_n 0, 1) := by decide +kernel
theorem d4_156 : decode prog_3_method_15_code 156 = .ok (.getfield 144, 3) := by decide +kernel
theorem d4_159 : decode prog_3_method_15_code 159 = .ok (.iload 4, 2) := by decide +kernel
theorem d4_161 : decode prog_3_method_15_code 161 = .ok (.aload_n 3, 1) := by decide +kernel
theorem d4_162 : decode prog_3_method_15_code 162 = .ok (.iload 4, 2) := by decide +kernel
theorem d4_164 : decode prog_3_method_15_code 164 = .ok (.iaload, 1) := by decide +kernel
theorem d4_165 : decode prog_3_method_15_code 165 = .ok (.newarray .int, 2) := by decide +kernel
theorem d4_167 : decode prog_3_method_15_code 167 = .ok (.aastore, 1) := by decide +kernel
theorem d4_168 : decode prog_3_method_15_code 168 = .ok (.aload_n 0, 1) := by decide +kernel
theorem d4_169 : decode prog_3_method_15_code 169 = .ok (.getfield 140, 3) := by decide +kernel
theorem d4_172 : decode prog_3_method_15_code 172 = .ok (.iload 4, 2) := by decide +kernel
theorem d4_174 : decode prog_3_method_15_code 174 = .ok (.iconst 1, 1) := by decide +kernel
theorem d4_175 : decode prog_3_method_15_code 175 = .ok (.bastore, 1) := by decide +kernel
theorem d4_176 : decode prog_3_method_15_code 176 = .ok (.iinc 4 1, 3) := by decide +kernel
theorem d4_179 : decode prog_3_method_15_code 179 = .ok (.goto (-33), 3) := by decide +kernel
theorem d4_182 : decode prog_3_method_15_code 182 = .ok (.aload_n 0, 1) := by decide +kernel
theorem d4_183 : decode prog_3_method_15_code 183 = .ok (.getfield 44, 3) := by decide +kernel
theorem d4_186 : decode prog_3_method_15_code 186 = .ok (.newarray .int, 2) := by decide +kernel
theorem d4_188 : decode prog_3_method_15_code 188 = .ok (.astore 4, 2) := by decide +kernel
theorem d4_190 : decode prog_3_method_15_code 190 = .ok (.iconst 0, 1) := by decide +kernel
theorem d4_191 : decode prog_3_method_15_code 191 = .ok (.istore 5, 2) := by decide +kernel
set_option maxRecDepth 65536 in
set_option maxHeartbeats 40000000 in
theorem own_lay122_1 {p : Program} {l : Launch} {e : Env} {s : State} {m : MethodId} {below : List Frame} {meth : Method} {c : Code} {Z : State} {a0 : Array Value} {h0 : Heap} {n0 : Nat} (a1 : Addr) (aw : Addr) (ao : Addr) (asx : Addr) (am : Addr) (kw : ClassId) (ko : ClassId) (ks : ClassId) (km : ClassId) (N : Int32) (fo0 : Nat → Int32) (fs0 : Nat → Int32) (fm0 : Nat → Int64) (n_aw_a1 : aw ≠ a1) (n_ao_a1 : ao ≠ a1) (n_asx_a1 : asx ≠ a1) (n_am_a1 : am ≠ a1) (n_ao_aw : ao ≠ aw) (n_asx_aw : asx ≠ aw) (n_am_aw : am ≠ aw) (n_asx_ao : asx ≠ ao) (n_am_ao : am ≠ ao) (n_am_asx : am ≠ asx) (hN1 : ¬ N < (1 : Int32)) (hN2 : ¬ (256 : Int32) < N)
    (hx : p.tables.exec = Jvm.exec) (hZ : Z.Warmed39 s.vm) (hw : ∀ d ∈ tables_1, d.before a0 Z = true) (hby : c.code = prog_3_method_15_code) (hml : c.maxLocals = 6) (hown : s.vm.findClass "com/example/causyn/causyn/analysis/MarkingStore" = some m.cls) (hret : meth.sig.returnType = none) (hlk : meth.locks = false) :
    ∀ (T : State) (locs : List Loc) (h : Heap) (i : Int32) (c_ : Int32) (ac : Addr) (kc : ClassId) (x0 : Int32) (go : Nat → Int32) (gs : Nat → Int32) (gm : Nat → Int64) (X : Stand p l e ({ frames := 1, cells := 8, slots := 272, locals := 14 } : Room) s m #[(.ref a1)] below meth c T locs 1 1) (eT : T.heap = h) (NF : Fr n0 locs) (Zh : n0 ≤ h.size) (Kh : Keep h0 h [a1, ao, asx, am]) (E1 : Exa Z h a1 "com/example/causyn/causyn/analysis/MarkingStore") (g1 : n0 ≤ a1) (Fp : Fld Z h a1 "com/example/causyn/causyn/analysis/MarkingStore" "places" "I" (.int N)) (Fw : Fld Z h a1 "com/example/causyn/causyn/analysis/MarkingStore" "width" "[I" (.ref aw)) (Fo : Fld Z h a1 "com/example/causyn/causyn/analysis/MarkingStore" "word" "[I" (.ref ao)) (Fs : Fld Z h a1 "com/example/causyn/causyn/analysis/MarkingStore" "shift" "[I" (.ref asx)) (Fm : Fld Z h a1 "com/example/causyn/causyn/analysis/MarkingStore" "mask" "[J" (.ref am)) (Fn : Fld Z h a1 "com/example/causyn/causyn/analysis/MarkingStore" "words" "I" (.int (1 : Int32))) (Fq : Fld Z h a1 "com/example/causyn/causyn/analysis/MarkingStore" "placesInWord" "[[I" .null) (Fb : Fld Z h a1 "com/example/causyn/causyn/analysis/MarkingStore" "bitsOnly" "[Z" .null) (Fc : Fld Z h a1 "com/example/causyn/causyn/analysis/MarkingStore" "chunkBits" "I" (.int (0 : Int32))) (Vw : Arv Z h aw kw .int N (own_LI (fun _ => (1 : Int32)) N) (.int (0 : Int32))) (Vo : Arv Z h ao ko .int N (own_LI go N) (.int (0 : Int32))) (Vs : Arv Z h asx ks .int N (own_LI gs N) (.int (0 : Int32))) (Vm : Arv Z h am km .long N (own_LJ gm N) (.long (0 : Int64))) (go_ : n0 ≤ ao) (gs_ : n0 ≤ asx) (gm_ : n0 ≤ am) (Vc : Arv Z h ac kc .int (1 : Int32) [(.int x0)] (.int (0 : Int32))) (n_a1_ac : a1 ≠ ac) (n_aw_ac : aw ≠ ac) (n_ao_ac : ao ≠ ac) (n_asx_ac : asx ≠ ac) (n_am_ac : am ≠ ac) (hgo : ∀ j : Nat, (j : Int) < N.toInt → (go j).toInt = (j : Int) / 64) (hgs : ∀ j : Nat, (j : Int) < N.toInt → (gs j).toInt = (j : Int) % 64) (hgm : ∀ j : Nat, (j : Int) < N.toInt → gm j = (1 : Int64)) (hnw : own_nw N 1) (hx0 : x0.toInt = own_cl N.toInt 0), own_Go p.tables e below (fun o U' => ∃ v L, o = .returned v ∧ Q_rmlay Z a0 a1 aw ao asx am kw ko ks km N fo0 fs0 fm0 h0 n0 v U'.heap L ∧ FrameEnd s o U' L ({ frames := 1, cells := 8, slots := 272, locals := 14 } : Room).cells ({ frames := 1, cells := 8, slots := 272, locals := 14 } : Room).slots) (T.setTop (mkF m 122 #[rv a1, iv 0, iv c_, rv ac, iv i, .unset] [])) := by
  intro T locs h i c_ ac kc x0 go gs gm X eT NF Zh Kh E1 g1 Fp Fw Fo Fs Fm Fn Fq Fb Fc Vw Vo Vs Vm go_ gs_ gm_ Vc n_a1_ac n_aw_ac n_ao_ac n_asx_ac n_am_ac hgo hgs hgm hnw hx0
  refine o_aloadN X hx (hb hby d4_122) rfl rfl ?_
  refine o_aloadN X hx (hb hby d4_123) rfl rfl ?_
  obtain ⟨T_1, X_1, e_1, st_1⟩ := getF X hx hZ hown (host := "") (Or.inl (hw _ (List.mem_of_getElem? (i := 36) rfl))) Via.refl eT Fn (g := (mkF m 124 #[rv a1, iv 0, iv c_, rv ac, iv i, .unset] [(.ref a1), (.ref a1)])) rfl rfl (hb hby d4_124)
  refine own_st st_1 ?_
  show own_Go _ _ _ _ (T_1.setTop (mkF m 127 #[rv a1, iv 0, iv c_, rv ac, iv i, .unset] [(.int 1), (.ref a1)]))
  obtain ⟨T_2, h_2, k_2, X_2, e_2, E_2, A_2, -, O_2, st_2⟩ := newRA X_1 hx hZ hown (C := "[I") (ty := .int) (by decide +kernel) (hw _ (List.mem_of_getElem? (i := 38) rfl)) (hw _ (List.mem_of_getElem? (i := 39) rfl)) e_1 (g := (mkF m 127 #[rv a1, iv 0, iv c_, rv ac, iv i, .unset] [(.int 1), (.ref a1)])) rfl (hb hby d4_127) rfl (by decide) (cap := 1) (by decide) (by decide) (by decide) (by decide) rfl
  obtain ⟨b_2, g_2⟩ : ∃ z, z = h.size := ⟨_, rfl⟩
  rw [← g_2] at A_2 st_2
  have V_2 : Arv Z h_2 b_2 k_2 (.array .int) (1 : Int32) [.null] .null := (Arv.new A_2 (by decide)).pad (pad_rep [] .null 1)
  have gg_2 : n0 ≤ b_2 := Nat.le_trans Zh (Nat.le_of_eq g_2.symm)
  have sz_2 : h0.size ≤ b_2 := Nat.le_trans Kh.1 (Nat.le_of_eq g_2.symm)
  refine own_st st_2 ?_
  show own_Go _ _ _ _ (T_2.setTop (mkF m 130 #[rv a1, iv 0, iv c_, rv ac, iv i, .unset] [(.ref b_2), (.ref a1)]))
  have Fa_3 := (Fq.ext E_2)
  have Fa_4 := (E1.ext E_2)
  obtain ⟨T_5, h_5, X_5, e_5, W_5, st_5⟩ := putF X_2 hx hZ hown (host := "") (Or.inl (hw _ (List.mem_of_getElem? (i := 40) rfl))) Via.refl e_2 Fa_3 Fa_4 (Or.inl (hw _ (List.mem_of_getElem? (i := 41) rfl))) (hw _ (List.mem_of_getElem? (i := 2) rfl)) (ty := (.array (.array .int))) (by decide) rfl rfl (g := (mkF m 130 #[rv a1, iv 0, iv c_, rv ac, iv i, .unset] [(.ref b_2), (.ref a1)])) rfl rfl (hb hby d4_130)
  refine own_st st_5 ?_
  have N_5 := Fr.snoc X_5 NF g1
  show own_Go _ _ _ _ (T_5.setTop (mkF m 133 #[rv a1, iv 0, iv c_, rv ac, iv i, .unset] []))
  refine o_aloadN X_5 hx (hb hby d4_133) rfl rfl ?_
  refine o_aloadN X_5 hx (hb hby d4_134) rfl rfl ?_
  have Fa_6 := ((Fn.ext E_2).other W_5 (Or.inr (slot_ne (Or.inl (hw _ (List.mem_of_getElem? (i := 37) rfl))) (Or.inl (hw _ (List.mem_of_getElem? (i := 41) rfl))) (by decide) (t := .int) (t' := (.array (.array .int))) (by decide) (by decide))))
  obtain ⟨T_7, X_7, e_7, st_7⟩ := getF X_5 hx hZ hown (host := "") (Or.inl (hw _ (List.mem_of_getElem? (i := 36) rfl))) Via.refl e_5 Fa_6 (g := (mkF m 135 #[rv a1, iv 0, iv c_, rv ac, iv i, .unset] [(.ref a1), (.ref a1)])) rfl rfl (hb hby d4_135)
  refine own_st st_7 ?_
  show own_Go _ _ _ _ (T_7.setTop (mkF m 138 #[rv a1, iv 0, iv c_, rv ac, iv i, .unset] [(.int 1), (.ref a1)]))
  have Zs_8 : n0 ≤ h_5.size := (Nat.le_trans (Nat.le_trans Zh E_2.1) (Keep.of_wr W_5).1)
  have Kp_9 : Keep h0 h_5 [a1, ao, asx, am] := ((Kh.ext E_2).wr W_5 (Or.inl (List.mem_of_getElem? (i := 0) rfl)))
  obtain ⟨T_10, h_10, k_10, X_10, e_10, E_10, A_10, st_10⟩ := newP X_7 hx hZ (hw _ (List.mem_of_getElem? (i := 42) rfl)) e_7 (g := (mkF m 138 #[rv a1, iv 0, iv c_, rv ac, iv i, .unset] [(.int 1), (.ref a1)])) rfl (hb hby d4_138) rfl (by decide) (cap := 1) (by decide) (by decide) (by decide) (by decide)
  obtain ⟨b_10, g_10⟩ : ∃ z, z = h_5.size := ⟨_, rfl⟩
  rw [← g_10] at A_10 st_10
  have V_10 : Arv Z h_10 b_10 k_10 .boolean (1 : Int32) [(.int (0 : Int32))] (.int (0 : Int32)) := (Arv.new A_10 (by decide)).pad (pad_rep [] (.int (0 : Int32)) 1)
  have gg_10 : n0 ≤ b_10 := Nat.le_trans Zs_8 (Nat.le_of_eq g_10.symm)
  have sz_10 : h0.size ≤ b_10 := Nat.le_trans Kp_9.1 (Nat.le_of_eq g_10.symm)
  refine own_st st_10 ?_
  show own_Go _ _ _ _ (T_10.setTop (mkF m 140 #[rv a1, iv 0, iv c_, rv ac, iv i, .unset] [(.ref b_10), (.ref a1)]))
  have Fa_11 := (((Fb.ext E_2).other W_5 (Or.inr (slot_ne (Or.inl (hw _ (List.mem_of_getElem? (i := 44) rfl))) (Or.inl (hw _ (List.mem_of_getElem? (i := 41) rfl))) (by decide) (t := (.array .boolean)) (t' := (.array (.array .int))) (by decide) (by decide)))).ext E_10)
  have Fa_12 := ((Fa_4.wr W_5).ext E_10)
  obtain ⟨T_13, h_13, X_13, e_13, W_13, st_13⟩ := putF X_10 hx hZ hown (host := "") (Or.inl (hw _ (List.mem_of_getElem? (i := 43) rfl))) Via.refl e_10 Fa_11 Fa_12 (Or.inl (hw _ (List.mem_of_getElem? (i := 44) rfl))) (hw _ (List.mem_of_getElem? (i := 2) rfl)) (ty := (.array .boolean)) (by decide) rfl rfl (g := (mkF m 140 #[rv a1, iv 0, iv c_, rv ac, iv i, .unset] [(.ref b_10), (.ref a1)])) rfl rfl (hb hby d4_140)
  refine own_st st_13 ?_
  have N_13 := Fr.snoc X_13 N_5 g1
  show own_Go _ _ _ _ (T_13.setTop (mkF m 143 #[rv a1, iv 0, iv c_, rv ac, iv i, .unset] []))
  refine o_iconst X_13 hx 0 (hb hby d4_143) rfl ?_
  refine o_istore X_13 hx (hb hby d4_144) (l' := #[rv a1, iv 0, iv c_, rv ac, iv 0, .unset]) rfl ?_
  refine o_iload X_13 hx (hb hby d4_146) rfl ?_
  refine o_aloadN X_13 hx (hb hby d4_148) rfl rfl ?_
  have Fa_14 := ((Fa_6.ext E_10).other W_13 (Or.inr (slot_ne (Or.inl (hw _ (List.mem_of_getElem? (i := 37) rfl))) (Or.inl (hw _ (List.mem_of_getElem? (i := 44) rfl))) (by decide) (t := .int) (t' := (.array .boolean)) (by decide) (by decide))))
  obtain ⟨T_15, X_15, e_15, st_15⟩ := getF X_13 hx hZ hown (host := "") (Or.inl (hw _ (List.mem_of_getElem? (i := 36) rfl))) Via.refl e_13 Fa_14 (g := (mkF m 149 #[rv a1, iv 0, iv c_, rv ac, iv 0, .unset] [(.ref a1), (.int 0)])) rfl rfl (hb hby d4_149)
  refine own_st st_15 ?_
  show own_Go _ _ _ _ (T_15.setTop (mkF m 152 #[rv a1, iv 0, iv c_, rv ac, iv 0, .unset] [(.int 1), (.int 0)]))
  refine o_icmpNo X_15 hx (hb hby d4_152) (tlt (by decide : (0 : Int32) < (1 : Int32))).2.1 ?_
  refine o_aloadN X_15 hx (hb hby d4_155) rfl rfl ?_
  have Fa_16 := (((Fa_3.same W_5).ext E_10).other W_13 (Or.inr (slot_ne (Or.inl (hw _ (List.mem_of_getElem? (i := 41) rfl))) (Or.inl (hw _ (List.mem_of_getElem? (i := 44) rfl))) (by decide) (t := (.array (.array .int))) (t' := (.array .boolean)) (by decide) (by decide))))
  obtain ⟨T_17, X_17, e_17, st_17⟩ := getF X_15 hx hZ hown (host := "") (Or.inl (hw _ (List.mem_of_getElem? (i := 40) rfl))) Via.refl e_15 Fa_16 (g := (mkF m 156 #[rv a1, iv 0, iv c_, rv ac, iv 0, .unset] [(.ref a1)])) rfl rfl (hb hby d4_156)
  refine own_st st_17 ?_
  show own_Go _ _ _ _ (T_17.setTop (mkF m 159 #[rv a1, iv 0, iv c_, rv ac, iv 0, .unset] [(.ref b_2)]))
  refine o_iload X_17 hx (hb hby d4_159) rfl ?_
  refine o_aloadN X_17 hx (hb hby d4_161) rfl rfl ?_
  refine o_iload X_17 hx (hb hby d4_162) rfl ?_
  have Fa_18 := ((((Vc.ext E_2).other W_5 (Ne.symm n_a1_ac)).ext E_10).other W_13 (Ne.symm n_a1_ac))
  obtain ⟨cl_19, Ar_19, qk_19, Sz_19, Ng_19, Hs_19, Gs_19⟩ := id Fa_18
  refine own_st (X_17.iaload hx (j := (0 : Int32)) (v := (.int x0)) (by rw [e_17]; exact Ar_19.1) (State.isArrayOf_alike hZ.alike Ar_19.2.1) Ar_19.2.2 (inb_of Sz_19 ⟨by decide, by decide⟩) (Hs_19.at (j := (0 : Int32)) (inb_of Sz_19 ⟨by decide, by decide⟩) rfl) (g := (mkF m 164 #[rv a1, iv 0, iv c_, rv ac, iv 0, .unset] [(.int 0), (.ref ac), (.int 0), (.ref b_2)])) rfl rfl (hb hby d4_164)) ?_
  show own_Go _ _ _ _ (T_17.setTop (mkF m 165 #[rv a1, iv 0, iv c_, rv ac, iv 0, .unset] [(.int x0), (.int 0), (.ref b_2)]))
  have Zs_20 : n0 ≤ h_13.size := (Nat.le_trans (Nat.le_trans Zs_8 E_10.1) (Keep.of_wr W_13).1)
  have Kp_21 : Keep h0 h_13 [a1, ao, asx, am] := ((Kp_9.ext E_10).wr W_13 (Or.inl (List.mem_of_getElem? (i := 0) rfl)))
  obtain ⟨T_22, h_22, k_22, X_22, e_22, E_22, A_22, Ex_22, st_22⟩ := newPE X_17 hx hZ (hw _ (List.mem_of_getElem? (i := 14) rfl)) e_17 (g := (mkF m 165 #[rv a1, iv 0, iv c_, rv ac, iv 0, .unset] [(.int x0), (.int 0), (.ref b_2)])) rfl (hb hby d4_165) rfl (own_clnn hx0) (cap := 64) (own_clcap hx0) (by decide) (by decide) (by decide) (ad := "[I") (by decide +kernel)
  obtain ⟨b_22, g_22⟩ : ∃ z, z = h_13.size := ⟨_, rfl⟩
  rw [← g_22] at A_22 Ex_22 st_22
  have V_22 : Arv Z h_22 b_22 k_22 .int x0 (own_LI (fun _ => (0 : Int32)) x0) (.int (0 : Int32)) := (Arv.new A_22 (own_clnn hx0)).pad (own_LI_pad x0)
  have gg_22 : n0 ≤ b_22 := Nat.le_trans Zs_20 (Nat.le_of_eq g_22.symm)
  have sz_22 : h0.size ≤ b_22 := Nat.le_trans Kp_21.1 (Nat.le_of_eq g_22.symm)
  refine own_st st_22 ?_
  show own_Go _ _ _ _ (T_22.setTop (mkF m 167 #[rv a1, iv 0, iv c_, rv ac, iv 0, .unset] [(.ref b_22), (.int 0), (.ref b_2)]))
  have Fa_23 := ((((V_2.other W_5 (Ne.symm (Nat.ne_of_lt (Nat.lt_of_lt_of_le Fp.lt (Nat.le_of_eq g_2.symm))))).ext E_10).other W_13 (Ne.symm (Nat.ne_of_lt (Nat.lt_of_lt_of_le Fp.lt (Nat.le_of_eq g_2.symm))))).ext E_22)
  obtain ⟨cl_24, Ar_24, qk_24, Sz_24, Ng_24, Hs_24, Gs_24⟩ := id Fa_23
  obtain ⟨T_25, h_25, X_25, e_25, W_25, st_25⟩ := stR X_22 hx hZ e_22 Ar_24 (j := (0 : Int32)) (inb_of Sz_24 ⟨by decide, by decide⟩) rfl (Sto.ofVA Ar_24 qk_24 O_2 (Ins.self Ex_22)) (g := (mkF m 167 #[rv a1, iv 0, iv c_, rv ac, iv 0, .unset] [(.ref b_22), (.int 0), (.ref b_2)])) rfl rfl (hb hby d4_167)
  refine own_st st_25 ?_
  have V_25 : Arv Z h_25 b_2 k_2 (.array .int) (1 : Int32) [(.ref b_22)] .null := Arv.set Ar_24 qk_24 Sz_24 Ng_24 Hs_24 Gs_24 rfl W_25 0 rfl (Nat.le_of_ble_eq_true rfl)
  have N_25 := Fr.snoc X_25 N_13 gg_2
  show own_Go _ _ _ _ (T_25.setTop (mkF m 168 #[rv a1, iv 0, iv c_, rv ac, iv 0, .unset] []))
  refine o_aloadN X_25 hx (hb hby d4_168) rfl rfl ?_
  have Fa_26 := (((Fa_11.same W_13).ext E_22).other W_25 (Or.inl (Nat.ne_of_lt (Nat.lt_of_lt_of_le Fp.lt (Nat.le_of_eq g_2.symm)))))
  obtain ⟨T_27, X_27, e_27, st_27⟩ := getF X_25 hx hZ hown (host := "") (Or.inl (hw _ (List.mem_of_getElem? (i := 43) rfl))) Via.refl e_25 Fa_26 (g := (mkF m 169 #[rv a1, iv 0, iv c_, rv ac, iv 0, .unset] [(.ref a1)])) rfl rfl (hb hby d4_169)
  refine own_st st_27 ?_
  show own_Go _ _ _ _ (T_27.setTop (mkF m 172 #[rv a1, iv 0, iv c_, rv ac, iv 0, .unset] [(.ref b_10)]))
  refine o_iload X_27 hx (hb hby d4_172) rfl ?_
  refine o_iconst X_27 hx 1 (hb hby d4_174) rfl ?_
  have Fa_28 := (((V_10.other W_13 (Ne.symm (Nat.ne_of_lt (Nat.lt_of_lt_of_le Fa_6.lt (Nat.le_of_eq g_10.symm))))).ext E_22).other W_25 (Ne.symm (Nat.ne_of_lt (Nat.lt_of_lt_of_le (V_2.other W_5 (Ne.symm (Nat.ne_of_lt (Nat.lt_of_lt_of_le Fp.lt (Nat.le_of_eq g_2.symm))))).lt (Nat.le_of_eq g_10.symm)))))
  obtain ⟨cl_29, Ar_29, qk_29, Sz_29, Ng_29, Hs_29, Gs_29⟩ := id Fa_28
  obtain ⟨T_30, h_30, X_30, e_30, W_30, st_30⟩ := stZ X_27 hx hZ e_27 Ar_29 (j := (0 : Int32)) (inb_of Sz_29 ⟨by decide, by decide⟩) (g := (mkF m 175 #[rv a1, iv 0, iv c_, rv ac, iv 0, .unset] [(.int 1), (.int 0), (.ref b_10)])) rfl rfl (hb hby d4_175)
  refine own_st st_30 ?_
  have V_30 : Arv Z h_30 b_10 k_10 .boolean (1 : Int32) [(.int (1 : Int32))] (.int (0 : Int32)) := Arv.set Ar_29 qk_29 Sz_29 Ng_29 Hs_29 Gs_29 (by decide) W_30 0 rfl (Nat.le_of_ble_eq_true rfl)
  have N_30 := Fr.snoc X_30 N_25 gg_10
  show own_Go _ _ _ _ (T_30.setTop (mkF m 176 #[rv a1, iv 0, iv c_, rv ac, iv 0, .unset] []))
  refine o_iinc X_30 hx (hb hby d4_176) rfl (l' := #[rv a1, iv 0, iv c_, rv ac, iv 1, .unset]) rfl ?_
  refine o_goto X_30 hx (pc' := 146) (hb hby d4_179) (by decide) (by decide) ?_
  refine o_iload X_30 hx (hb hby d4_146) rfl ?_
  refine o_aloadN X_30 hx (hb hby d4_148) rfl rfl ?_
  have Fa_31 := (((Fa_14.ext E_22).other W_25 (Or.inl (Nat.ne_of_lt (Nat.lt_of_lt_of_le Fp.lt (Nat.le_of_eq g_2.symm))))).other W_30 (Or.inl (Nat.ne_of_lt (Nat.lt_of_lt_of_le Fa_6.lt (Nat.le_of_eq g_10.symm)))))
  obtain ⟨T_32, X_32, e_32, st_32⟩ := getF X_30 hx hZ hown (host := "") (Or.inl (hw _ (List.mem_of_getElem? (i := 36) rfl))) Via.refl e_30 Fa_31 (g := (mkF m 149 #[rv a1, iv 0, iv c_, rv ac, iv 1, .unset] [(.ref a1), (.int 1)])) rfl rfl (hb hby d4_149)
  refine own_st st_32 ?_
  show own_Go _ _ _ _ (T_32.setTop (mkF m 152 #[rv a1, iv 0, iv c_, rv ac, iv 1, .unset] [(.int 1), (.int 1)]))
  refine o_icmpYes X_32 hx (pc' := 182) (hb hby d4_152) (flt (by decide : ¬ ((1 : Int32) < (1 : Int32)))).2.1 (by decide) (by decide) ?_
  refine o_aloadN X_32 hx (hb hby d4_182) rfl rfl ?_
  obtain ⟨T_33, X_33, e_33, st_33⟩ := getF X_32 hx hZ hown (host := "") (Or.inl (hw _ (List.mem_of_getElem? (i := 36) rfl))) Via.refl e_32 Fa_31 (g := (mkF m 183 #[rv a1, iv 0, iv c_, rv ac, iv 1, .unset] [(.ref a1)])) rfl rfl (hb hby d4_183)
  refine own_st st_33 ?_
  show own_Go _ _ _ _ (T_33.setTop (mkF m 186 #[rv a1, iv 0, iv c_, rv ac, iv 1, .unset] [(.int 1)]))
  have Zs_34 : n0 ≤ h_30.size := (Nat.le_trans (Nat.le_trans (Nat.le_trans Zs_20 E_22.1) (Keep.of_wr W_25).1) (Keep.of_wr W_30).1)
  have Kp_35 : Keep h0 h_30 [a1, ao, asx, am] := (((Kp_21.ext E_22).wr W_25 (Or.inr sz_2)).wr W_30 (Or.inr sz_10))
  obtain ⟨T_36, h_36, k_36, X_36, e_36, E_36, A_36, st_36⟩ := newP X_33 hx hZ (hw _ (List.mem_of_getElem? (i := 14) rfl)) e_33 (g := (mkF m 186 #[rv a1, iv 0, iv c_, rv ac, iv 1, .unset] [(.int 1)])) rfl (hb hby d4_186) rfl (by decide) (cap := 1) (by decide) (by decide) (by decide) (by decide)
  obtain ⟨b_36, g_36⟩ : ∃ z, z = h_30.size := ⟨_, rfl⟩
  rw [← g_36] at A_36 st_36
  have V_36 : Arv Z h_36 b_36 k_36 .int (1 : Int32) [(.int (0 : Int32))] (.int (0 : Int32)) := (Arv.new A_36 (by decide)).pad (pad_rep [] (.int (0 : Int32)) 1)
  have gg_36 : n0 ≤ b_36 := Nat.le_trans Zs_34 (Nat.le_of_eq g_36.symm)
  have sz_36 : h0.size ≤ b_36 := Nat.le_trans Kp_35.1 (Nat.le_of_eq g_36.symm)
  refine own_st st_36 ?_
  show own_Go _ _ _ _ (T_36.setTop (mkF m 188 #[rv a1, iv 0, iv c_, rv ac, iv 1, .unset] [(.ref b_36)]))
  refine o_astore X_36 hx (hb hby d4_188) rfl (l' := #[rv a1, iv 0, iv c_, rv ac, rv b_36, .unset]) rfl ?_
  refine o_iconst X_36 hx 0 (hb hby d4_190) rfl ?_
  refine o_istore X_36 hx (hb hby d4_191) (l' := #[rv a1, iv 0, iv c_, rv ac, rv b_36, iv 0]) rfl ?_
  have Zs_37 : n0 ≤ h_36.size := (Nat.le_trans Zs_34 E_36.1)
  have Kp_38 : Keep h0 h_36 [a1, ao, asx, am] := (Kp_35.ext E_36)
  have Fa_39 := (((((Fa_12.wr W_13).ext E_22).wr W_25).wr W_30).ext E_36)
  have Fa_40 := ((((((((Fp.ext E_2).other W_5 (Or.inr (slot_ne (Or.inr (hw _ (List.mem_of_getElem? (i := 18) rfl))) (Or.inl (hw _ (List.mem_of_getElem? (i := 41) rfl))) (by decide) (t := .int) (t' := (.array (.array .int))) (by decide) (by decide)))).ext E_10).other W_13 (Or.inr (slot_ne (Or.inr (hw _ (List.mem_of_getElem? (i := 18) rfl))) (Or.inl (hw _ (List.mem_of_getElem? (i := 44) rfl))) (by decide) (t := .int) (t' := (.array .boolean)) (by decide) (by decide)))).ext E_22).other W_25 (Or.inl (Nat.ne_of_lt (Nat.lt_of_lt_of_le Fp.lt (Nat.le_of_eq g_2.symm))))).other W_30 (Or.inl (Nat.ne_of_lt (Nat.lt_of_lt_of_le Fa_6.lt (Nat.le_of_eq g_10.symm))))).ext E_36)
  have Fa_41 := ((((((((Fw.ext E_2).other W_5 (Or.inr (slot_ne (Or.inr (hw _ (List.mem_of_getElem? (i := 20) rfl))) (Or.inl (hw _ (List.mem_of_getElem? (i := 41) rfl))) (by decide) (t := (.array .int)) (t' := (.array (.array .int))) (by decide) (by decide)))).ext E_10).other W_13 (Or.inr (slot_ne (Or.inr (hw _ (List.mem_of_getElem? (i := 20) rfl))) (Or.inl (hw _ (List.mem_of_getElem? (i := 44) rfl))) (by decide) (t := (.array .int)) (t' := (.array .boolean)) (by decide) (by decide)))).ext E_22).other W_25 (Or.inl (Nat.ne_of_lt (Nat.lt_of_lt_of_le Fw.lt (Nat.le_of_eq g_2.symm))))).other W_30 (Or.inl (Nat.ne_of_lt (Nat.lt_of_lt_of_le Fa_6.lt (Nat.le_of_eq g_10.symm))))).ext E_36)
  have Fa_42 := ((((((((Fo.ext E_2).other W_5 (Or.inr (slot_ne (Or.inr (hw _ (List.mem_of_getElem? (i := 22) rfl))) (Or.inl (hw _ (List.mem_of_getElem? (i := 41) rfl))) (by decide) (t := (.array .int)) (t' := (.array (.array .int))) (by decide) (by decide)))).ext E_10).other W_13 (Or.inr (slot_ne (Or.inr (hw _ (List.mem_of_getElem? (i := 22) rfl))) (Or.inl (hw _ (List.mem_of_getElem? (i := 44) rfl))) (by decide) (t := (.array .int)) (t' := (.array .boolean)) (by decide) (by decide)))).ext E_22).other W_25 (Or.inl (Nat.ne_of_lt (Nat.lt_of_lt_of_le Fo.lt (Nat.le_of_eq g_2.symm))))).other W_30 (Or.inl (Nat.ne_of_lt (Nat.lt_of_lt_of_le Fa_6.lt (Nat.le_of_eq g_10.symm))))).ext E_36)
  have Fa_43 := ((((((((Fs.ext E_2).other W_5 (Or.inr (slot_ne (Or.inr (hw _ (List.mem_of_getElem? (i := 24) rfl))) (Or.inl (hw _ (List.mem_of_getElem? (i := 41) rfl))) (by decide) (t := (.array .int)) (t' := (.array (.array .int))) (by decide) (by decide)))).ext E_10).other W_13 (Or.inr (slot_ne (Or.inr (hw _ (List.mem_of_getElem? (i := 24) rfl))) (Or.inl (hw _ (List.mem_of_getElem? (i := 44) rfl))) (by decide) (t := (.array .int)) (t' := (.array .boolean)) (by decide) (by decide)))).ext E_22).other W_25 (Or.inl (Nat.ne_of_lt (Nat.lt_of_lt_of_le Fs.lt (Nat.le_of_eq g_2.symm))))).other W_30 (Or.inl (Nat.ne_of_lt (Nat.lt_of_lt_of_le Fa_6.lt (Nat.le_of_eq g_10.symm))))).ext E_36)
  have Fa_44 := ((((((((Fm.ext E_2).other W_5 (Or.inr (slot_ne (Or.inr (hw _ (List.mem_of_getElem? (i := 27) rfl))) (Or.inl (hw _ (List.mem_of_getElem? (i := 41) rfl))) (by decide) (t := (.array .long)) (t' := (.array (.array .int))) (by decide) (by decide)))).ext E_10).other W_13 (Or.inr (slot_ne (Or.inr (hw _ (List.mem_of_getElem? (i := 27) rfl))) (Or.inl (hw _ (List.mem_of_getElem? (i := 44) rfl))) (by decide) (t := (.array .long)) (t' := (.array .boolean)) (by decide) (by decide)))).ext E_22).other W_25 (Or.inl (Nat.ne_of_lt (Nat.lt_of_lt_of_le Fm.lt (Nat.le_of_eq g_2.symm))))).other W_30 (Or.inl (Nat.ne_of_lt (Nat.lt_of_lt_of_le Fa_6.lt (Nat.le_of_eq g_10.symm))))).ext E_36)
  have Fa_45 := (Fa_31.ext E_36)
  have Fa_46 := ((((Fa_16.ext E_22).other W_25 (Or.inl (Nat.ne_of_lt (Nat.lt_of_lt_of_le Fc.lt (Nat.le_of_eq g_2.symm))))).other W_30 (Or.inl (Nat.ne_of_lt (Nat.lt_of_lt_of_le Fa_6.lt (Nat.le_of_eq g_10.symm))))).ext E_36)
  have Fa_47 := ((Fa_26.other W_30 (Or.inl (Nat.ne_of_lt (Nat.lt_of_lt_of_le Fa_6.lt (Nat.le_of_eq g_10.symm))))).ext E_36)
  have Fa_48 := ((((((((Fc.ext E_2).other W_5 (Or.inr (slot_ne (Or.inl (hw _ (List.mem_of_getElem? (i := 55) rfl))) (Or.inl (hw _ (List.mem_of_getElem? (i := 41) rfl))) (by decide) (t := .int) (t' := (.array (.array .int))) (by decide) (by decide)))).ext E_10).other W_13 (Or.inr (slot_ne (Or.inl (hw _ (List.mem_of_getElem? (i := 55) rfl))) (Or.inl (hw _ (List.mem_of_getElem? (i := 44) rfl))) (by decide) (t := .int) (t' := (.array .boolean)) (by decide) (by decide)))).ext E_22).other W_25 (Or.inl (Nat.ne_of_lt (Nat.lt_of_lt_of_le Fc.lt (Nat.le_of_eq g_2.symm))))).other W_30 (Or.inl (Nat.ne_of_lt (Nat.lt_of_lt_of_le Fa_6.lt (Nat.le_of_eq g_10.symm))))).ext E_36)
  have Fa_49 := ((((((((Vw.ext E_2).other W_5 n_aw_a1).ext E_10).other W_13 n_aw_a1).ext E_22).other W_25 (Nat.ne_of_lt (Nat.lt_of_lt_of_le Vw.lt (Nat.le_of_eq g_2.symm)))).other W_30 (Nat.ne_of_lt (Nat.lt_of_lt_of_le ((Vw.ext E_2).other W_5 n_aw_a1).lt (Nat.le_of_eq g_10.symm)))).ext E_36)
  have Fa_50 := ((((((((Vo.ext E_2).other W_5 n_ao_a1).ext E_10).other W_13 n_ao_a1).ext E_22).other W_25 (Nat.ne_of_lt (Nat.lt_of_lt_of_le Vo.lt (Nat.le_of_eq g_2.symm)))).other W_30 (Nat.ne_of_lt (Nat.lt_of_lt_of_le ((Vo.ext E_2).other W_5 n_ao_a1).lt (Nat.le_of_eq g_10.symm)))).ext E_36)
  have Fa_51 := ((((((((Vs.ext E_2).other W_5 n_asx_a1).ext E_10).other W_13 n_asx_a1).ext E_22).other W_25 (Nat.ne_of_lt (Nat.lt_of_lt_of_le Vs.lt (Nat.le_of_eq g_2.symm)))).other W_30 (Nat.ne_of_lt (Nat.lt_of_lt_of_le ((Vs.ext E_2).other W_5 n_asx_a1).lt (Nat.le_of_eq g_10.symm)))).ext E_36)
  have Fa_52 := ((((((((Vm.ext E_2).other W_5 n_am_a1).ext E_10).other W_13 n_am_a1).ext E_22).other W_25 (Nat.ne_of_lt (Nat.lt_of_lt_of_le Vm.lt (Nat.le_of_eq g_2.symm)))).other W_30 (Nat.ne_of_lt (Nat.lt_of_lt_of_le ((Vm.ext E_2).other W_5 n_am_a1).lt (Nat.le_of_eq g_10.symm)))).ext E_36)
  have Fa_53 := ((V_25.other W_30 (Nat.ne_of_lt (Nat.lt_of_lt_of_le (V_2.other W_5 (Ne.symm (Nat.ne_of_lt (Nat.lt_of_lt_of_le Fq.lt (Nat.le_of_eq g_2.symm))))).lt (Nat.le_of_eq g_10.symm)))).ext E_36)
  have Fa_54 := (V_30.ext E_36)
  have Fa_55 := (((V_22.other W_25 (Ne.symm (Nat.ne_of_lt (Nat.lt_of_lt_of_le (((V_2.other W_5 (Ne.symm (Nat.ne_of_lt (Nat.lt_of_lt_of_le Fq.lt (Nat.le_of_eq g_2.symm))))).ext E_10).other W_13 (Ne.symm (Nat.ne_of_lt (Nat.lt_of_lt_of_le Fq.lt (Nat.le_of_eq g_2.symm))))).lt (Nat.le_of_eq g_22.symm))))).other W_30 (Ne.symm (Nat.ne_of_lt (Nat.lt_of_lt_of_le (V_10.other W_13 (Ne.symm (Nat.ne_of_lt (Nat.lt_of_lt_of_le Fa_6.lt (Nat.le_of_eq g_10.symm))))).lt (Nat.le_of_eq g_22.symm))))).ext E_36)
  exact own_lay4_1 a1 aw ao asx am kw ko ks km N fo0 fs0 fm0 n_aw_a1 n_ao_a1 n_asx_a1 n_am_a1 n_ao_aw n_asx_aw n_am_aw n_asx_ao n_am_ao n_am_asx hN1 hN2 hx hZ hw hby hml hown hret hlk (N.toNatClampNeg + 1) T_36 _ h_36 (0 : Int32) c_ ac b_36 b_2 b_10 b_22 k_36 k_2 k_10 k_22 (fun _ => (0 : Int32)) x0 (0 : Int32) go gs gm X_36 e_36 N_30 Zs_37 Kp_38 Fa_39 g1 Fa_40 Fa_41 Fa_42 Fa_43 Fa_44 Fa_45 Fa_46 Fa_47 Fa_48 Fa_49 Fa_50 Fa_51 Fa_52 go_ gs_ gm_ V_36 Fa_53 Fa_54 Fa_55 gg_36 sz_36 gg_10 sz_10 gg_22 sz_22 (Nat.ne_of_lt (Nat.lt_of_lt_of_le Fa_31.lt (Nat.le_of_eq g_36.symm))) (Nat.ne_of_lt (Nat.lt_of_lt_of_le (((((((Vw.ext E_2).other W_5 n_aw_a1).ext E_10).other W_13 n_aw_a1).ext E_22).other W_25 (Nat.ne_of_lt (Nat.lt_of_lt_of_le Vw.lt (Nat.le_of_eq g_2.symm)))).other W_30 (Nat.ne_of_lt (Nat.lt_of_lt_of_le ((Vw.ext E_2).other W_5 n_aw_a1).lt (Nat.le_of_eq g_10.symm)))).lt (Nat.le_of_eq g_36.symm))) (Nat.ne_of_lt (Nat.lt_of_lt_of_le (((((((Vo.ext E_2).other W_5 n_ao_a1).ext E_10).other W_13 n_ao_a1).ext E_22).other W_25 (Nat.ne_of_lt (Nat.lt_of_lt_of_le Vo.lt (Nat.le_of_eq g_2.symm)))).other W_30 (Nat.ne_of_lt (Nat.lt_of_lt_of_le ((Vo.ext E_2).other W_5 n_ao_a1).lt (Nat.le_of_eq g_10.symm)))).lt (Nat.le_of_eq g_36.symm))) (Nat.ne_of_lt (Nat.lt_of_lt_of_le (((((((Vs.ext E_2).other W_5 n_asx_a1).ext E_10).other W_13 n_asx_a1).ext E_22).other W_25 (Nat.ne_of_lt (Nat.lt_of_lt_of_le Vs.lt (Nat.le_of_eq g_2.symm)))).other W_30 (Nat.ne_of_lt (Nat.lt_of_lt_of_le ((Vs.ext E_2).other W_5 n_asx_a1).lt (Nat.le_of_eq g_10.symm)))).lt (Nat.le_of_eq g_36.symm))) (Nat.ne_of_lt (Nat.lt_of_lt_of_le (((((((Vm.ext E_2).other W_5 n_am_a1).ext E_10).other W_13 n_am_a1).ext E_22).other W_25 (Nat.ne_of_lt (Nat.lt_of_lt_of_le Vm.lt (Nat.le_of_eq g_2.symm)))).other W_30 (Nat.ne_of_lt (Nat.lt_of_lt_of_le ((Vm.ext E_2).other W_5 n_am_a1).lt (Nat.le_of_eq g_10.symm)))).lt (Nat.le_of_eq g_36.symm))) (Nat.ne_of_lt (Nat.lt_of_lt_of_le (V_25.other W_30 (Nat.ne_of_lt (Nat.lt_of_lt_of_le (V_2.other W_5 (Ne.symm (Nat.ne_of_lt (Nat.lt_of_lt_of_le Fq.lt (Nat.le_of_eq g_2.symm))))).lt (Nat.le_of_eq g_10.symm)))).lt (Nat.le_of_eq g_36.symm))) (Nat.ne_of_lt (Nat.lt_of_lt_of_le V_30.lt (Nat.le_of_eq g_36.symm))) (Nat.ne_of_lt (Nat.lt_of_lt_of_le ((Ex_22.wr W_25).wr W_30).lt (Nat.le_of_eq g_36.symm))) (Nat.ne_of_lt (Nat.lt_of_lt_of_le Fa_6.lt (Nat.le_of_eq g_10.symm))) (Nat.ne_of_lt (Nat.lt_of_lt_of_le ((Vw.ext E_2).other W_5 n_aw_a1).lt (Nat.le_of_eq g_10.symm))) (Nat.ne_of_lt (Nat.lt_of_lt_of_le ((Vo.ext E_2).other W_5 n_ao_a1).lt (Nat.le_of_eq g_10.symm))) (Nat.ne_of_lt (Nat.lt_of_lt_of_le ((Vs.ext E_2).other W_5 n_asx_a1).lt (Nat.le_of_eq g_10.symm))) (Nat.ne_of_lt (Nat.lt_of_lt_of_le ((Vm.ext E_2).other W_5 n_am_a1).lt (Nat.le_of_eq g_10.symm))) (Nat.ne_of_lt (Nat.lt_of_lt_of_le (V_2.other W_5 (Ne.symm (Nat.ne_of_lt (Nat.lt_of_lt_of_le Fq.lt (Nat.le_of_eq g_2.symm))))).lt (Nat.le_of_eq g_10.symm))) (Ne.symm (Nat.ne_of_lt (Nat.lt_of_lt_of_le (V_10.other W_13 (Ne.symm (Nat.ne_of_lt (Nat.lt_of_lt_of_le Fa_6.lt (Nat.le_of_eq g_10.symm))))).lt (Nat.le_of_eq g_22.symm)))) (Nat.ne_of_lt (Nat.lt_of_lt_of_le (Fa_11.same W_13).lt (Nat.le_of_eq g_22.symm))) (Nat.ne_of_lt (Nat.lt_of_lt_of_le ((((Vw.ext E_2).other W_5 n_aw_a1).ext E_10).other W_13 n_aw_a1).lt (Nat.le_of_eq g_22.symm))) (Nat.ne_of_lt (Nat.lt_of_lt_of_le ((((Vo.ext E_2).other W_5 n_ao_a1).ext E_10).other W_13 n_ao_a1).lt (Nat.le_of_eq g_22.symm))) (Nat.ne_of_lt (Nat.lt_of_lt_of_le ((((Vs.ext E_2).other W_5 n_asx_a1).ext E_10).other W_13 n_asx_a1).lt (Nat.le_of_eq g_22.symm))) (Nat.ne_of_lt (Nat.lt_of_lt_of_le ((((Vm.ext E_2).other W_5 n_am_a1).ext E_10).other W_13 n_am_a1).lt (Nat.le_of_eq g_22.symm))) (Nat.ne_of_lt (Nat.lt_of_lt_of_le (((V_2.other W_5 (Ne.symm (Nat.ne_of_lt (Nat.lt_of_lt_of_le Fq.lt (Nat.le_of_eq g_2.symm))))).ext E_10).other W_13 (Ne.symm (Nat.ne_of_lt (Nat.lt_of_lt_of_le Fq.lt (Nat.le_of_eq g_2.symm))))).lt (Nat.le_of_eq g_22.symm))) (Ne.symm (Nat.ne_of_lt (Nat.lt_of_lt_of_le Fq.lt (Nat.le_of_eq g_2.symm)))) (by decide) (own_N0 hN1) hgo hgs hgm hnw hx0 (own_cl0 (by decide)) (own_ff (own_N0 hN1))
theorem d4_94 : decode prog_3_method_15_code 94 = .ok (.iload 4, 2) := by decide +kernel
theorem d4_96 : decode prog_3_method_15_code 96 = .ok (.aload_n 0, 1) := by decide +kernel
theorem d4_97 : decode prog_3_method_15_code 97 = .ok (.getfield 19, 3) := by decide +kernel
theorem d4_100 : decode prog_3_method_15_code 100 = .ok (.if_icmp .ge 22, 3) := by decide +kernel
theorem d4_103 : decode prog_3_method_15_code 103 = .ok (.aload_n 3, 1) := by decide +kernel
theorem d4_104 : decode prog_3_method_15_code 104 = .ok (.aload_n 0, 1) := by decide +kernel
theorem d4_105 : decode prog_3_method_15_code 105 = .ok (.getfield 26, 3) := by decide +kernel
theorem d4_108 : decode prog_3_method_15_code 108 = .ok (.iload 4, 2) := by decide +kernel
theorem d4_110 : decode prog_3_method_15_code 110 = .ok (.iaload, 1) := by decide +kernel
theorem d4_111 : decode prog_3_method_15_code 111 = .ok (.dup2, 1) := by decide +kernel
theorem d4_112 : decode prog_3_method_15_code 112 = .ok (.iaload, 1) := by decide +kernel
theorem d4_113 : decode prog_3_method_15_code 113 = .ok (.iconst 1, 1) := by decide +kernel
theorem d4_114 : decode prog_3_method_15_code 114 = .ok (.iadd, 1) := by decide +kernel
theorem d4_115 : decode prog_3_method_15_code 115 = .ok (.iastore, 1) := by decide +kernel
theorem d4_116 : decode prog_3_method_15_code 116 = .ok (.iinc 4 1, 3) := by decide +kernel
theorem d4_119 : decode prog_3_method_15_code 119 = .ok (.goto (-25), 3) := by decide +kernel
set_option maxRecDepth 65536 in
set_option maxHeartbeats 40000000 in
theorem own_lay2_1 {p : Program} {l : Launch} {e : Env} {s : State} {m : MethodId} {below : List Frame} {meth : Method} {c : Code} {Z : State} {a0 : Array Value} {h0 : Heap} {n0 : Nat} (a1 : Addr) (aw : Addr) (ao : Addr) (asx : Addr) (am : Addr) (kw : ClassId) (ko : ClassId) (ks : ClassId) (km : ClassId) (N : Int32) (fo0 : Nat → Int32) (fs0 : Nat → Int32) (fm0 : Nat → Int64) (n_aw_a1 : aw ≠ a1) (n_ao_a1 : ao ≠ a1) (n_asx_a1 : asx ≠ a1) (n_am_a1 : am ≠ a1) (n_ao_aw : ao ≠ aw) (n_asx_aw : asx ≠ aw) (n_am_aw : am ≠ aw) (n_asx_ao : asx ≠ ao) (n_am_ao : am ≠ ao) (n_am_asx : am ≠ asx) (hN1 : ¬ N < (1 : Int32)) (hN2 : ¬ (256 : Int32) < N)
    (hx : p.tables.exec = Jvm.exec) (hZ : Z.Warmed39 s.vm) (hw : ∀ d ∈ tables_1, d.before a0 Z = true) (hby : c.code = prog_3_method_15_code) (hml : c.maxLocals = 6) (hown : s.vm.findClass "com/example/causyn/causyn/analysis/MarkingStore" = some m.cls) (hret : meth.sig.returnType = none) (hlk : meth.locks = false) :
    ∀ (fuel : Nat) (T : State) (locs : List Loc) (h : Heap) (i : Int32) (c_ : Int32) (ac : Addr) (kc : ClassId) (x0 : Int32) (go : Nat → Int32) (gs : Nat → Int32) (gm : Nat → Int64) (X : Stand p l e ({ frames := 1, cells := 8, slots := 272, locals := 14 } : Room) s m #[(.ref a1)] below meth c T locs 1 1) (eT : T.heap = h) (NF : Fr n0 locs) (Zh : n0 ≤ h.size) (Kh : Keep h0 h [a1, ao, asx, am]) (E1 : Exa Z h a1 "com/example/causyn/causyn/analysis/MarkingStore") (g1 : n0 ≤ a1) (Fp : Fld Z h a1 "com/example/causyn/causyn/analysis/MarkingStore" "places" "I" (.int N)) (Fw : Fld Z h a1 "com/example/causyn/causyn/analysis/MarkingStore" "width" "[I" (.ref aw)) (Fo : Fld Z h a1 "com/example/causyn/causyn/analysis/MarkingStore" "word" "[I" (.ref ao)) (Fs : Fld Z h a1 "com/example/causyn/causyn/analysis/MarkingStore" "shift" "[I" (.ref asx)) (Fm : Fld Z h a1 "com/example/causyn/causyn/analysis/MarkingStore" "mask" "[J" (.ref am)) (Fn : Fld Z h a1 "com/example/causyn/causyn/analysis/MarkingStore" "words" "I" (.int (1 : Int32))) (Fq : Fld Z h a1 "com/example/causyn/causyn/analysis/MarkingStore" "placesInWord" "[[I" .null) (Fb : Fld Z h a1 "com/example/causyn/causyn/analysis/MarkingStore" "bitsOnly" "[Z" .null) (Fc : Fld Z h a1 "com/example/causyn/causyn/analysis/MarkingStore" "chunkBits" "I" (.int (0 : Int32))) (Vw : Arv Z h aw kw .int N (own_LI (fun _ => (1 : Int32)) N) (.int (0 : Int32))) (Vo : Arv Z h ao ko .int N (own_LI go N) (.int (0 : Int32))) (Vs : Arv Z h asx ks .int N (own_LI gs N) (.int (0 : Int32))) (Vm : Arv Z h am km .long N (own_LJ gm N) (.long (0 : Int64))) (go_ : n0 ≤ ao) (gs_ : n0 ≤ asx) (gm_ : n0 ≤ am) (Vc : Arv Z h ac kc .int (1 : Int32) [(.int x0)] (.int (0 : Int32))) (g_ac : n0 ≤ ac) (z_ac : h0.size ≤ ac) (n_a1_ac : a1 ≠ ac) (n_aw_ac : aw ≠ ac) (n_ao_ac : ao ≠ ac) (n_asx_ac : asx ≠ ac) (n_am_ac : am ≠ ac) (hi0 : ¬ i < 0) (hi1 : ¬ N < i) (hgo : ∀ j : Nat, (j : Int) < N.toInt → (go j).toInt = (j : Int) / 64) (hgs : ∀ j : Nat, (j : Int) < N.toInt → (gs j).toInt = (j : Int) % 64) (hgm : ∀ j : Nat, (j : Int) < N.toInt → gm j = (1 : Int64)) (hnw : own_nw N 1) (hx0 : x0.toInt = own_cl i.toInt 0) (hfu : N.toInt - i.toInt < (fuel : Int)), own_Go p.tables e below (fun o U' => ∃ v L, o = .returned v ∧ Q_rmlay Z a0 a1 aw ao asx am kw ko ks km N fo0 fs0 fm0 h0 n0 v U'.heap L ∧ FrameEnd s o U' L ({ frames := 1, cells := 8, slots := 272, locals := 14 } : Room).cells ({ frames := 1, cells := 8, slots := 272, locals := 14 } : Room).slots) (T.setTop (mkF m 94 #[rv a1, iv 0, iv c_, rv ac, iv i, .unset] [])) := by
  intro fuel
  induction fuel with
  | zero => intro T locs h i c_ ac kc x0 go gs gm X eT NF Zh Kh E1 g1 Fp Fw Fo Fs Fm Fn Fq Fb Fc Vw Vo Vs Vm go_ gs_ gm_ Vc g_ac z_ac n_a1_ac n_aw_ac n_ao_ac n_asx_ac n_am_ac hi0 hi1 hgo hgs hgm hnw hx0 hfu; exact (own_f0 hi1 hfu).elim
  | succ fuel ih =>
    intro T locs h i c_ ac kc x0 go gs gm X eT NF Zh Kh E1 g1 Fp Fw Fo Fs Fm Fn Fq Fb Fc Vw Vo Vs Vm go_ gs_ gm_ Vc g_ac z_ac n_a1_ac n_aw_ac n_ao_ac n_asx_ac n_am_ac hi0 hi1 hgo hgs hgm hnw hx0 hfu
    refine o_iload X hx (hb hby d4_94) rfl ?_
    refine o_aloadN X hx (hb hby d4_96) rfl rfl ?_
    obtain ⟨T_1, X_1, e_1, st_1⟩ := getF X hx hZ hown (host := "") (Or.inl (hw _ (List.mem_of_getElem? (i := 17) rfl))) Via.refl eT Fp (g := (mkF m 97 #[rv a1, iv 0, iv c_, rv ac, iv i, .unset] [(.ref a1), (.int i)])) rfl rfl (hb hby d4_97)
    refine own_st st_1 ?_
    show own_Go _ _ _ _ (T_1.setTop (mkF m 100 #[rv a1, iv 0, iv c_, rv ac, iv i, .unset] [(.int N), (.int i)]))
    by_cases hc100__2 : i < N
    · refine o_icmpNo X_1 hx (hb hby d4_100) (tlt hc100__2).2.1 ?_
      refine o_aloadN X_1 hx (hb hby d4_103) rfl rfl ?_
      refine o_aloadN X_1 hx (hb hby d4_104) rfl rfl ?_
      obtain ⟨T_3, X_3, e_3, st_3⟩ := getF X_1 hx hZ hown (host := "") (Or.inl (hw _ (List.mem_of_getElem? (i := 21) rfl))) Via.refl e_1 Fo (g := (mkF m 105 #[rv a1, iv 0, iv c_, rv ac, iv i, .unset] [(.ref a1), (.ref ac)])) rfl rfl (hb hby d4_105)
      refine own_st st_3 ?_
      show own_Go _ _ _ _ (T_3.setTop (mkF m 108 #[rv a1, iv 0, iv c_, rv ac, iv i, .unset] [(.ref ao), (.ref ac)]))
      refine o_iload X_3 hx (hb hby d4_108) rfl ?_
      obtain ⟨cl_4, Ar_4, qk_4, Sz_4, Ng_4, Hs_4, Gs_4⟩ := id Vo
      refine own_st (X_3.iaload hx (j := i) (v := (.int (go i.toNatClampNeg))) (by rw [e_3]; exact Ar_4.1) (State.isArrayOf_alike hZ.alike Ar_4.2.1) Ar_4.2.2 (inb_of Sz_4 ⟨hi0, hc100__2⟩) (Hs_4.at (j := i) (inb_of Sz_4 ⟨hi0, hc100__2⟩) (own_LI_get hi0 hc100__2)) (g := (mkF m 110 #[rv a1, iv 0, iv c_, rv ac, iv i, .unset] [(.int i), (.ref ao), (.ref ac)])) rfl rfl (hb hby d4_110)) ?_
      show own_Go _ _ _ _ (T_3.setTop (mkF m 111 #[rv a1, iv 0, iv c_, rv ac, iv i, .unset] [(.int (go i.toNatClampNeg)), (.ref ac)]))
      have hgi_5 := hgo i.toNatClampNeg (own_jN hi0 hc100__2)
      rcases own_wk1 hi0 hc100__2 hnw hgi_5 with hk_5
      · rw [hk_5]
        show own_Go _ _ _ _ (T_3.setTop (mkF m 111 #[rv a1, iv 0, iv c_, rv ac, iv i, .unset] [(.int 0), (.ref ac)]))
        refine o_dup2 X_3 hx (hb hby d4_111) rfl rfl ?_
        obtain ⟨cl_6, Ar_6, qk_6, Sz_6, Ng_6, Hs_6, Gs_6⟩ := id Vc
        refine own_st (X_3.iaload hx (j := (0 : Int32)) (v := (.int x0)) (by rw [e_3]; exact Ar_6.1) (State.isArrayOf_alike hZ.alike Ar_6.2.1) Ar_6.2.2 (inb_of Sz_6 ⟨by decide, by decide⟩) (Hs_6.at (j := (0 : Int32)) (inb_of Sz_6 ⟨by decide, by decide⟩) rfl) (g := (mkF m 112 #[rv a1, iv 0, iv c_, rv ac, iv i, .unset] [(.int 0), (.ref ac), (.int 0), (.ref ac)])) rfl rfl (hb hby d4_112)) ?_
        show own_Go _ _ _ _ (T_3.setTop (mkF m 113 #[rv a1, iv 0, iv c_, rv ac, iv i, .unset] [(.int x0), (.int 0), (.ref ac)]))
        refine o_iconst X_3 hx 1 (hb hby d4_113) rfl ?_
        refine o_iadd X_3 hx (hb hby d4_114) ?_
        obtain ⟨cl_7, Ar_7, qk_7, Sz_7, Ng_7, Hs_7, Gs_7⟩ := id Vc
        obtain ⟨T_8, h_8, X_8, e_8, W_8, st_8⟩ := stI X_3 hx hZ e_3 Ar_7 (j := (0 : Int32)) (inb_of Sz_7 ⟨by decide, by decide⟩) (g := (mkF m 115 #[rv a1, iv 0, iv c_, rv ac, iv i, .unset] [(.int (x0 + (1 : Int32))), (.int 0), (.ref ac)])) rfl rfl (hb hby d4_115)
        refine own_st st_8 ?_
        have V_8 : Arv Z h_8 ac kc .int (1 : Int32) [(.int (x0 + (1 : Int32)))] (.int (0 : Int32)) := Arv.set Ar_7 qk_7 Sz_7 Ng_7 Hs_7 Gs_7 rfl W_8 0 rfl (Nat.le_of_ble_eq_true rfl)
        have N_8 := Fr.snoc X_8 NF g_ac
        show own_Go _ _ _ _ (T_8.setTop (mkF m 116 #[rv a1, iv 0, iv c_, rv ac, iv i, .unset] []))
        refine o_iinc X_8 hx (hb hby d4_116) rfl (l' := #[rv a1, iv 0, iv c_, rv ac, iv (i + (1 : Int32)), .unset]) rfl ?_
        refine o_goto X_8 hx (pc' := 94) (hb hby d4_119) (by decide) (by decide) ?_
        have Zs_9 : n0 ≤ h_8.size := (Nat.le_trans Zh (Keep.of_wr W_8).1)
        have Kp_10 : Keep h0 h_8 [a1, ao, asx, am] := (Kh.wr W_8 (Or.inr z_ac))
        have Fa_11 := (E1.wr W_8)
        have Fa_12 := (Fp.other W_8 (Or.inl n_a1_ac))
        have Fa_13 := (Fw.other W_8 (Or.inl n_a1_ac))
        have Fa_14 := (Fo.other W_8 (Or.inl n_a1_ac))
        have Fa_15 := (Fs.other W_8 (Or.inl n_a1_ac))
        have Fa_16 := (Fm.other W_8 (Or.inl n_a1_ac))
        have Fa_17 := (Fn.other W_8 (Or.inl n_a1_ac))
        have Fa_18 := (Fq.other W_8 (Or.inl n_a1_ac))
        have Fa_19 := (Fb.other W_8 (Or.inl n_a1_ac))
        have Fa_20 := (Fc.other W_8 (Or.inl n_a1_ac))
        have Fa_21 := (Vw.other W_8 n_aw_ac)
        have Fa_22 := (Vo.other W_8 n_ao_ac)
        have Fa_23 := (Vs.other W_8 n_asx_ac)
        have Fa_24 := (Vm.other W_8 n_am_ac)
        exact ih T_8 _ h_8 (i + (1 : Int32)) c_ ac kc (x0 + (1 : Int32)) go gs gm X_8 e_8 N_8 Zs_9 Kp_10 Fa_11 g1 Fa_12 Fa_13 Fa_14 Fa_15 Fa_16 Fa_17 Fa_18 Fa_19 Fa_20 Fa_21 Fa_22 Fa_23 Fa_24 go_ gs_ gm_ V_8 g_ac z_ac n_a1_ac n_aw_ac n_ao_ac n_asx_ac n_am_ac (own_nx0 hi0 hc100__2) (own_nx1 hi0 hc100__2) hgo hgs hgm hnw (own_clS hi0 hc100__2 hgi_5 (congrArg Int32.toInt hk_5) hx0) (own_fS hi0 hc100__2 hfu)
    · refine o_icmpYes X_1 hx (pc' := 122) (hb hby d4_100) (flt hc100__2).2.1 (by decide) (by decide) ?_
      exact own_lay122_1 a1 aw ao asx am kw ko ks km N fo0 fs0 fm0 n_aw_a1 n_ao_a1 n_asx_a1 n_am_a1 n_ao_aw n_asx_aw n_am_aw n_asx_ao n_am_ao n_am_asx hN1 hN2 hx hZ hw hby hml hown hret hlk T_1 _ h i c_ ac kc x0 go gs gm X_1 e_1 NF Zh Kh E1 g1 Fp Fw Fo Fs Fm Fn Fq Fb Fc Vw Vo Vs Vm go_ gs_ gm_ Vc n_a1_ac n_aw_ac n_ao_ac n_asx_ac n_am_ac hgo hgs hgm hnw (own_clN hi1 hc100__2 hx0)
theorem d4_77 : decode prog_3_method_15_code 77 = .ok (.aload_n 0, 1) := by decide +kernel
theorem d4_78 : decode prog_3_method_15_code 78 = .ok (.iload_n 1, 1) := by decide +kernel
theorem d4_79 : decode prog_3_method_15_code 79 = .ok (.iconst 1, 1) := by decide +kernel
theorem d4_80 : decode prog_3_method_15_code 80 = .ok (.iadd, 1) := by decide +kernel
theorem d4_81 : decode prog_3_method_15_code 81 = .ok (.putfield 44, 3) := by decide +kernel
theorem d4_84 : decode prog_3_method_15_code 84 = .ok (.aload_n 0, 1) := by decide +kernel
theorem d4_85 : decode prog_3_method_15_code 85 = .ok (.getfield 44, 3) := by decide +kernel
theorem d4_88 : decode prog_3_method_15_code 88 = .ok (.newarray .int, 2) := by decide +kernel
theorem d4_90 : decode prog_3_method_15_code 90 = .ok (.astore_n 3, 1) := by decide +kernel
theorem d4_91 : decode prog_3_method_15_code 91 = .ok (.iconst 0, 1) := by decide +kernel
theorem d4_92 : decode prog_3_method_15_code 92 = .ok (.istore 4, 2) := by decide +kernel
set_option maxRecDepth 65536 in
set_option maxHeartbeats 40000000 in
theorem own_lay77_1 {p : Program} {l : Launch} {e : Env} {s : State} {m : MethodId} {below : List Frame} {meth : Method} {c : Code} {Z : State} {a0 : Array Value} {h0 : Heap} {n0 : Nat} (a1 : Addr) (aw : Addr) (ao : Addr) (asx : Addr) (am : Addr) (kw : ClassId) (ko : ClassId) (ks : ClassId) (km : ClassId) (N : Int32) (fo0 : Nat → Int32) (fs0 : Nat → Int32) (fm0 : Nat → Int64) (n_aw_a1 : aw ≠ a1) (n_ao_a1 : ao ≠ a1) (n_asx_a1 : asx ≠ a1) (n_am_a1 : am ≠ a1) (n_ao_aw : ao ≠ aw) (n_asx_aw : asx ≠ aw) (n_am_aw : am ≠ aw) (n_asx_ao : asx ≠ ao) (n_am_ao : am ≠ ao) (n_am_asx : am ≠ asx) (hN1 : ¬ N < (1 : Int32)) (hN2 : ¬ (256 : Int32) < N)
    (hx : p.tables.exec = Jvm.exec) (hZ : Z.Warmed39 s.vm) (hw : ∀ d ∈ tables_1, d.before a0 Z = true) (hby : c.code = prog_3_method_15_code) (hml : c.maxLocals = 6) (hown : s.vm.findClass "com/example/causyn/causyn/analysis/MarkingStore" = some m.cls) (hret : meth.sig.returnType = none) (hlk : meth.locks = false) :
    ∀ (T : State) (locs : List Loc) (h : Heap) (i : Int32) (c_ : Int32) (go : Nat → Int32) (gs : Nat → Int32) (gm : Nat → Int64) (X : Stand p l e ({ frames := 1, cells := 8, slots := 272, locals := 14 } : Room) s m #[(.ref a1)] below meth c T locs 0 0) (eT : T.heap = h) (NF : Fr n0 locs) (Zh : n0 ≤ h.size) (Kh : Keep h0 h [a1, ao, asx, am]) (E1 : Exa Z h a1 "com/example/causyn/causyn/analysis/MarkingStore") (g1 : n0 ≤ a1) (Fp : Fld Z h a1 "com/example/causyn/causyn/analysis/MarkingStore" "places" "I" (.int N)) (Fw : Fld Z h a1 "com/example/causyn/causyn/analysis/MarkingStore" "width" "[I" (.ref aw)) (Fo : Fld Z h a1 "com/example/causyn/causyn/analysis/MarkingStore" "word" "[I" (.ref ao)) (Fs : Fld Z h a1 "com/example/causyn/causyn/analysis/MarkingStore" "shift" "[I" (.ref asx)) (Fm : Fld Z h a1 "com/example/causyn/causyn/analysis/MarkingStore" "mask" "[J" (.ref am)) (Fn : Fld Z h a1 "com/example/causyn/causyn/analysis/MarkingStore" "words" "I" (.int (0 : Int32))) (Fq : Fld Z h a1 "com/example/causyn/causyn/analysis/MarkingStore" "placesInWord" "[[I" .null) (Fb : Fld Z h a1 "com/example/causyn/causyn/analysis/MarkingStore" "bitsOnly" "[Z" .null) (Fc : Fld Z h a1 "com/example/causyn/causyn/analysis/MarkingStore" "chunkBits" "I" (.int (0 : Int32))) (Vw : Arv Z h aw kw .int N (own_LI (fun _ => (1 : Int32)) N) (.int (0 : Int32))) (Vo : Arv Z h ao ko .int N (own_LI go N) (.int (0 : Int32))) (Vs : Arv Z h asx ks .int N (own_LI gs N) (.int (0 : Int32))) (Vm : Arv Z h am km .long N (own_LJ gm N) (.long (0 : Int64))) (go_ : n0 ≤ ao) (gs_ : n0 ≤ asx) (gm_ : n0 ≤ am) (hgo : ∀ j : Nat, (j : Int) < N.toInt → (go j).toInt = (j : Int) / 64) (hgs : ∀ j : Nat, (j : Int) < N.toInt → (gs j).toInt = (j : Int) % 64) (hgm : ∀ j : Nat, (j : Int) < N.toInt → gm j = (1 : Int64)) (hnw : own_nw N 1), own_Go p.tables e below (fun o U' => ∃ v L, o = .returned v ∧ Q_rmlay Z a0 a1 aw ao asx am kw ko ks km N fo0 fs0 fm0 h0 n0 v U'.heap L ∧ FrameEnd s o U' L ({ frames := 1, cells := 8, slots := 272, locals := 14 } : Room).cells ({ frames := 1, cells := 8, slots := 272, locals := 14 } : Room).slots) (T.setTop (mkF m 77 #[rv a1, iv 0, iv c_, iv i, .unset, .unset] [])) := by
  intro T locs h i c_ go gs gm X eT NF Zh Kh E1 g1 Fp Fw Fo Fs Fm Fn Fq Fb Fc Vw Vo Vs Vm go_ gs_ gm_ hgo hgs hgm hnw
  refine o_aloadN X hx (hb hby d4_77) rfl rfl ?_
  refine o_iloadN X hx (hb hby d4_78) rfl ?_
  refine o_iconst X hx 1 (hb hby d4_79) rfl ?_
  refine o_iadd X hx (hb hby d4_80) ?_
  show own_Go _ _ _ _ (T.setTop (mkF m 81 #[rv a1, iv 0, iv c_, iv i, .unset, .unset] [(.int 1), (.ref a1)]))
  obtain ⟨T_1, h_1, X_1, e_1, W_1, st_1⟩ := putF X hx hZ hown (host := "") (Or.inl (hw _ (List.mem_of_getElem? (i := 36) rfl))) Via.refl eT Fn E1 (Or.inl (hw _ (List.mem_of_getElem? (i := 37) rfl))) (hw _ (List.mem_of_getElem? (i := 2) rfl)) (ty := .int) (by decide) rfl rfl (g := (mkF m 81 #[rv a1, iv 0, iv c_, iv i, .unset, .unset] [(.int 1), (.ref a1)])) rfl rfl (hb hby d4_81)
  refine own_st st_1 ?_
  have N_1 := Fr.snoc X_1 NF g1
  show own_Go _ _ _ _ (T_1.setTop (mkF m 84 #[rv a1, iv 0, iv c_, iv i, .unset, .unset] []))
  refine o_aloadN X_1 hx (hb hby d4_84) rfl rfl ?_
  have Fa_2 := (Fn.same W_1)
  obtain ⟨T_3, X_3, e_3, st_3⟩ := getF X_1 hx hZ hown (host := "") (Or.inl (hw _ (List.mem_of_getElem? (i := 36) rfl))) Via.refl e_1 Fa_2 (g := (mkF m 85 #[rv a1, iv 0, iv c_, iv i, .unset, .unset] [(.ref a1)])) rfl rfl (hb hby d4_85)
  refine own_st st_3 ?_
  show own_Go _ _ _ _ (T_3.setTop (mkF m 88 #[rv a1, iv 0, iv c_, iv i, .unset, .unset] [(.int 1)]))
  have Zs_4 : n0 ≤ h_1.size := (Nat.le_trans Zh (Keep.of_wr W_1).1)
  have Kp_5 : Keep h0 h_1 [a1, ao, asx, am] := (Kh.wr W_1 (Or.inl (List.mem_of_getElem? (i := 0) rfl)))
  obtain ⟨T_6, h_6, k_6, X_6, e_6, E_6, A_6, st_6⟩ := newP X_3 hx hZ (hw _ (List.mem_of_getElem? (i := 14) rfl)) e_3 (g := (mkF m 88 #[rv a1, iv 0, iv c_, iv i, .unset, .unset] [(.int 1)])) rfl (hb hby d4_88) rfl (by decide) (cap := 1) (by decide) (by decide) (by decide) (by decide)
  obtain ⟨b_6, g_6⟩ : ∃ z, z = h_1.size := ⟨_, rfl⟩
  rw [← g_6] at A_6 st_6
  have V_6 : Arv Z h_6 b_6 k_6 .int (1 : Int32) [(.int (0 : Int32))] (.int (0 : Int32)) := (Arv.new A_6 (by decide)).pad (pad_rep [] (.int (0 : Int32)) 1)
  have gg_6 : n0 ≤ b_6 := Nat.le_trans Zs_4 (Nat.le_of_eq g_6.symm)
  have sz_6 : h0.size ≤ b_6 := Nat.le_trans Kp_5.1 (Nat.le_of_eq g_6.symm)
  refine own_st st_6 ?_
  show own_Go _ _ _ _ (T_6.setTop (mkF m 90 #[rv a1, iv 0, iv c_, iv i, .unset, .unset] [(.ref b_6)]))
  refine o_astoreN X_6 hx (hb hby d4_90) rfl (l' := #[rv a1, iv 0, iv c_, rv b_6, .unset, .unset]) rfl ?_
  refine o_iconst X_6 hx 0 (hb hby d4_91) rfl ?_
  refine o_istore X_6 hx (hb hby d4_92) (l' := #[rv a1, iv 0, iv c_, rv b_6, iv 0, .unset]) rfl ?_
  have Zs_7 : n0 ≤ h_6.size := (Nat.le_trans Zs_4 E_6.1)
  have Kp_8 : Keep h0 h_6 [a1, ao, asx, am] := (Kp_5.ext E_6)
  have Fa_9 := ((E1.wr W_1).ext E_6)
  have Fa_10 := ((Fp.other W_1 (Or.inr (slot_ne (Or.inr (hw _ (List.mem_of_getElem? (i := 18) rfl))) (Or.inl (hw _ (List.mem_of_getElem? (i := 37) rfl))) (by decide) (t := .int) (t' := .int) (by decide) (by decide)))).ext E_6)
  have Fa_11 := ((Fw.other W_1 (Or.inr (slot_ne (Or.inr (hw _ (List.mem_of_getElem? (i := 20) rfl))) (Or.inl (hw _ (List.mem_of_getElem? (i := 37) rfl))) (by decide) (t := (.array .int)) (t' := .int) (by decide) (by decide)))).ext E_6)
  have Fa_12 := ((Fo.other W_1 (Or.inr (slot_ne (Or.inr (hw _ (List.mem_of_getElem? (i := 22) rfl))) (Or.inl (hw _ (List.mem_of_getElem? (i := 37) rfl))) (by decide) (t := (.array .int)) (t' := .int) (by decide) (by decide)))).ext E_6)
  have Fa_13 := ((Fs.other W_1 (Or.inr (slot_ne (Or.inr (hw _ (List.mem_of_getElem? (i := 24) rfl))) (Or.inl (hw _ (List.mem_of_getElem? (i := 37) rfl))) (by decide) (t := (.array .int)) (t' := .int) (by decide) (by decide)))).ext E_6)
  have Fa_14 := ((Fm.other W_1 (Or.inr (slot_ne (Or.inr (hw _ (List.mem_of_getElem? (i := 27) rfl))) (Or.inl (hw _ (List.mem_of_getElem? (i := 37) rfl))) (by decide) (t := (.array .long)) (t' := .int) (by decide) (by decide)))).ext E_6)
  have Fa_15 := (Fa_2.ext E_6)
  have Fa_16 := ((Fq.other W_1 (Or.inr (slot_ne (Or.inl (hw _ (List.mem_of_getElem? (i := 41) rfl))) (Or.inl (hw _ (List.mem_of_getElem? (i := 37) rfl))) (by decide) (t := (.array (.array .int))) (t' := .int) (by decide) (by decide)))).ext E_6)
  have Fa_17 := ((Fb.other W_1 (Or.inr (slot_ne (Or.inl (hw _ (List.mem_of_getElem? (i := 44) rfl))) (Or.inl (hw _ (List.mem_of_getElem? (i := 37) rfl))) (by decide) (t := (.array .boolean)) (t' := .int) (by decide) (by decide)))).ext E_6)
  have Fa_18 := ((Fc.other W_1 (Or.inr (slot_ne (Or.inl (hw _ (List.mem_of_getElem? (i := 55) rfl))) (Or.inl (hw _ (List.mem_of_getElem? (i := 37) rfl))) (by decide) (t := .int) (t' := .int) (by decide) (by decide)))).ext E_6)
  have Fa_19 := ((Vw.other W_1 n_aw_a1).ext E_6)
  have Fa_20 := ((Vo.other W_1 n_ao_a1).ext E_6)
  have Fa_21 := ((Vs.other W_1 n_asx_a1).ext E_6)
  have Fa_22 := ((Vm.other W_1 n_am_a1).ext E_6)
  exact own_lay2_1 a1 aw ao asx am kw ko ks km N fo0 fs0 fm0 n_aw_a1 n_ao_a1 n_asx_a1 n_am_a1 n_ao_aw n_asx_aw n_am_aw n_asx_ao n_am_ao n_am_asx hN1 hN2 hx hZ hw hby hml hown hret hlk (N.toNatClampNeg + 1) T_6 _ h_6 (0 : Int32) c_ b_6 k_6 (0 : Int32) go gs gm X_6 e_6 N_1 Zs_7 Kp_8 Fa_9 g1 Fa_10 Fa_11 Fa_12 Fa_13 Fa_14 Fa_15 Fa_16 Fa_17 Fa_18 Fa_19 Fa_20 Fa_21 Fa_22 go_ gs_ gm_ V_6 gg_6 sz_6 (Nat.ne_of_lt (Nat.lt_of_lt_of_le (Fn.same W_1).lt (Nat.le_of_eq g_6.symm))) (Nat.ne_of_lt (Nat.lt_of_lt_of_le (Vw.other W_1 n_aw_a1).lt (Nat.le_of_eq g_6.symm))) (Nat.ne_of_lt (Nat.lt_of_lt_of_le (Vo.other W_1 n_ao_a1).lt (Nat.le_of_eq g_6.symm))) (Nat.ne_of_lt (Nat.lt_of_lt_of_le (Vs.other W_1 n_asx_a1).lt (Nat.le_of_eq g_6.symm))) (Nat.ne_of_lt (Nat.lt_of_lt_of_le (Vm.other W_1 n_am_a1).lt (Nat.le_of_eq g_6.symm))) (by decide) (own_N0 hN1) hgo hgs hgm hnw (own_cl0 (by decide)) (own_ff (own_N0 hN1))
set_option maxRecDepth 65536 in
set_option maxHeartbeats 40000000 in
theorem own_lay4_2 {p : Program} {l : Launch} {e : Env} {s : State} {m : MethodId} {below : List Frame} {meth : Method} {c : Code} {Z : State} {a0 : Array Value} {h0 : Heap} {n0 : Nat} (a1 : Addr) (aw : Addr) (ao : Addr) (asx : Addr) (am : Addr) (kw : ClassId) (ko : ClassId) (ks : ClassId) (km : ClassId) (N : Int32) (fo0 : Nat → Int32) (fs0 : Nat → Int32) (fm0 : Nat → Int64) (n_aw_a1 : aw ≠ a1) (n_ao_a1 : ao ≠ a1) (n_asx_a1 : asx ≠ a1) (n_am_a1 : am ≠ a1) (n_ao_aw : ao ≠ aw) (n_asx_aw : asx ≠ aw) (n_am_aw : am ≠ aw) (n_asx_ao : asx ≠ ao) (n_am_ao : am ≠ ao) (n_am_asx : am ≠ asx) (hN1 : ¬ N < (1 : Int32)) (hN2 : ¬ (256 : Int32) < N)
    (hx : p.tables.exec = Jvm.exec) (hZ : Z.Warmed39 s.vm) (hw : ∀ d ∈ tables_1, d.before a0 Z = true) (hby : c.code = prog_3_method_15_code) (hml : c.maxLocals = 6) (hown : s.vm.findClass "com/example/causyn/causyn/analysis/MarkingStore" = some m.cls) (hret : meth.sig.returnType = none) (hlk : meth.locks = false) :
    ∀ (fuel : Nat) (T : State) (locs : List Loc) (h : Heap) (i : Int32) (c_ : Int32) (ac : Addr) (af : Addr) (ap : Addr) (ab : Addr) (p0_ : Addr) (p1_ : Addr) (kf : ClassId) (kq : ClassId) (kb : ClassId) (kp0 : ClassId) (kp1 : ClassId) (gp0 : Nat → Int32) (gp1 : Nat → Int32) (x0 : Int32) (x1 : Int32) (y0 : Int32) (y1 : Int32) (go : Nat → Int32) (gs : Nat → Int32) (gm : Nat → Int64) (X : Stand p l e ({ frames := 1, cells := 8, slots := 272, locals := 14 } : Room) s m #[(.ref a1)] below meth c T locs 6 136) (eT : T.heap = h) (NF : Fr n0 locs) (Zh : n0 ≤ h.size) (Kh : Keep h0 h [a1, ao, asx, am]) (E1 : Exa Z h a1 "com/example/causyn/causyn/analysis/MarkingStore") (g1 : n0 ≤ a1) (Fp : Fld Z h a1 "com/example/causyn/causyn/analysis/MarkingStore" "places" "I" (.int N)) (Fw : Fld Z h a1 "com/example/causyn/causyn/analysis/MarkingStore" "width" "[I" (.ref aw)) (Fo : Fld Z h a1 "com/example/causyn/causyn/analysis/MarkingStore" "word" "[I" (.ref ao)) (Fs : Fld Z h a1 "com/example/causyn/causyn/analysis/MarkingStore" "shift" "[I" (.ref asx)) (Fm : Fld Z h a1 "com/example/causyn/causyn/analysis/MarkingStore" "mask" "[J" (.ref am)) (Fn : Fld Z h a1 "com/example/causyn/causyn/analysis/MarkingStore" "words" "I" (.int (2 : Int32))) (Fq : Fld Z h a1 "com/example/causyn/causyn/analysis/MarkingStore" "placesInWord" "[[I" (.ref ap)) (Fb : Fld Z h a1 "com/example/causyn/causyn/analysis/MarkingStore" "bitsOnly" "[Z" (.ref ab)) (Fc : Fld Z h a1 "com/example/causyn/causyn/analysis/MarkingStore" "chunkBits" "I" (.int (0 : Int32))) (Vw : Arv Z h aw kw .int N (own_LI (fun _ => (1 : Int32)) N) (.int (0 : Int32))) (Vo : Arv Z h ao ko .int N (own_LI go N) (.int (0 : Int32))) (Vs : Arv Z h asx ks .int N (own_LI gs N) (.int (0 : Int32))) (Vm : Arv Z h am km .long N (own_LJ gm N) (.long (0 : Int64))) (go_ : n0 ≤ ao) (gs_ : n0 ≤ asx) (gm_ : n0 ≤ am) (Vf : Arv Z h af kf .int (2 : Int32) [(.int y0), (.int y1)] (.int (0 : Int32))) (Vp : Arv Z h ap kq (.array .int) (2 : Int32) [(.ref p0_), (.ref p1_)] .null) (Vb : Arv Z h ab kb .boolean (2 : Int32) [(.int (1 : Int32)), (.int (1 : Int32))] (.int (0 : Int32))) (Vp0 : Arv Z h p0_ kp0 .int x0 (own_LI gp0 x0) (.int (0 : Int32))) (Vp1 : Arv Z h p1_ kp1 .int x1 (own_LI gp1 x1) (.int (0 : Int32))) (g_af : n0 ≤ af) (z_af : h0.size ≤ af) (g_ab : n0 ≤ ab) (z_ab : h0.size ≤ ab) (g_p0_ : n0 ≤ p0_) (z_p0_ : h0.size ≤ p0_) (g_p1_ : n0 ≤ p1_) (z_p1_ : h0.size ≤ p1_) (n_a1_af : a1 ≠ af) (n_aw_af : aw ≠ af) (n_ao_af : ao ≠ af) (n_asx_af : asx ≠ af) (n_am_af : am ≠ af) (n_ap_af : ap ≠ af) (n_ab_af : ab ≠ af) (n_p0__af : p0_ ≠ af) (n_p1__af : p1_ ≠ af) (n_a1_ab : a1 ≠ ab) (n_aw_ab : aw ≠ ab) (n_ao_ab : ao ≠ ab) (n_asx_ab : asx ≠ ab) (n_am_ab : am ≠ ab) (n_ap_ab : ap ≠ ab) (n_p0__ab : p0_ ≠ ab) (n_p1__ab : p1_ ≠ ab) (n_a1_p0_ : a1 ≠ p0_) (n_aw_p0_ : aw ≠ p0_) (n_ao_p0_ : ao ≠ p0_) (n_asx_p0_ : asx ≠ p0_) (n_am_p0_ : am ≠ p0_) (n_ap_p0_ : ap ≠ p0_) (n_p1__p0_ : p1_ ≠ p0_) (n_a1_p1_ : a1 ≠ p1_) (n_aw_p1_ : aw ≠ p1_) (n_ao_p1_ : ao ≠ p1_) (n_asx_p1_ : asx ≠ p1_) (n_am_p1_ : am ≠ p1_) (n_ap_p1_ : ap ≠ p1_) (n_ap_a1 : ap ≠ a1) (hi0 : ¬ i < 0) (hi1 : ¬ N < i) (hgo : ∀ j : Nat, (j : Int) < N.toInt → (go j).toInt = (j : Int) / 64) (hgs : ∀ j : Nat, (j : Int) < N.toInt → (gs j).toInt = (j : Int) % 64) (hgm : ∀ j : Nat, (j : Int) < N.toInt → gm j = (1 : Int64)) (hnw : own_nw N 2) (hx0 : x0.toInt = own_cl N.toInt 0) (hx1 : x1.toInt = own_cl N.toInt 1) (hy0 : y0.toInt = own_cl i.toInt 0) (hy1 : y1.toInt = own_cl i.toInt 1) (hfu : N.toInt - i.toInt < (fuel : Int)), own_Go p.tables e below (fun o U' => ∃ v L, o = .returned v ∧ Q_rmlay Z a0 a1 aw ao asx am kw ko ks km N fo0 fs0 fm0 h0 n0 v U'.heap L ∧ FrameEnd s o U' L ({ frames := 1, cells := 8, slots := 272, locals := 14 } : Room).cells ({ frames := 1, cells := 8, slots := 272, locals := 14 } : Room).slots) (T.setTop (mkF m 193 #[rv a1, iv 1, iv c_, rv ac, rv af, iv i] [])) := by
  intro fuel
  induction fuel with
  | zero => intro T locs h i c_ ac af ap ab p0_ p1_ kf kq kb kp0 kp1 gp0 gp1 x0 x1 y0 y1 go gs gm X eT NF Zh Kh E1 g1 Fp Fw Fo Fs Fm Fn Fq Fb Fc Vw Vo Vs Vm go_ gs_ gm_ Vf Vp Vb Vp0 Vp1 g_af z_af g_ab z_ab g_p0_ z_p0_ g_p1_ z_p1_ n_a1_af n_aw_af n_ao_af n_asx_af n_am_af n_ap_af n_ab_af n_p0__af n_p1__af n_a1_ab n_aw_ab n_ao_ab n_asx_ab n_am_ab n_ap_ab n_p0__ab n_p1__ab n_a1_p0_ n_aw_p0_ n_ao_p0_ n_asx_p0_ n_am_p0_ n_ap_p0_ n_p1__p0_ n_a1_p1_ n_aw_p1_ n_ao_p1_ n_asx_p1_ n_am_p1_ n_ap_p1_ n_ap_a1 hi0 hi1 hgo hgs hgm hnw hx0 hx1 hy0 hy1 hfu; exact (own_f0 hi1 hfu).elim
  | succ fuel ih =>
    intro T locs h i c_ ac af ap ab p0_ p1_ kf kq kb kp0 kp1 gp0 gp1 x0 x1 y0 y1 go gs gm X eT NF Zh Kh E1 g1 Fp Fw Fo Fs Fm Fn Fq Fb Fc Vw Vo Vs Vm go_ gs_ gm_ Vf Vp Vb Vp0 Vp1 g_af z_af g_ab z_ab g_p0_ z_p0_ g_p1_ z_p1_ n_a1_af n_aw_af n_ao_af n_asx_af n_am_af n_ap_af n_ab_af n_p0__af n_p1__af n_a1_ab n_aw_ab n_ao_ab n_asx_ab n_am_ab n_ap_ab n_p0__ab n_p1__ab n_a1_p0_ n_aw_p0_ n_ao_p0_ n_asx_p0_ n_am_p0_ n_ap_p0_ n_p1__p0_ n_a1_p1_ n_aw_p1_ n_ao_p1_ n_asx_p1_ n_am_p1_ n_ap_p1_ n_ap_a1 hi0 hi1 hgo hgs hgm hnw hx0 hx1 hy0 hy1 hfu
    refine o_iload X hx (hb hby d4_193) rfl ?_
    refine o_aloadN X hx (hb hby d4_195) rfl rfl ?_
    obtain ⟨T_1, X_1, e_1, st_1⟩ := getF X hx hZ hown (host := "") (Or.inl (hw _ (List.mem_of_getElem? (i := 17) rfl))) Via.refl eT Fp (g := (mkF m 196 #[rv a1, iv 1, iv c_, rv ac, rv af, iv i] [(.ref a1), (.int i)])) rfl rfl (hb hby d4_196)
    refine own_st st_1 ?_
    show own_Go _ _ _ _ (T_1.setTop (mkF m 199 #[rv a1, iv 1, iv c_, rv ac, rv af, iv i] [(.int N), (.int i)]))
    by_cases hc199__2 : i < N
    · refine o_icmpNo X_1 hx (hb hby d4_199) (tlt hc199__2).2.1 ?_
      refine o_aloadN X_1 hx (hb hby d4_202) rfl rfl ?_
      obtain ⟨T_3, X_3, e_3, st_3⟩ := getF X_1 hx hZ hown (host := "") (Or.inl (hw _ (List.mem_of_getElem? (i := 40) rfl))) Via.refl e_1 Fq (g := (mkF m 203 #[rv a1, iv 1, iv c_, rv ac, rv af, iv i] [(.ref a1)])) rfl rfl (hb hby d4_203)
      refine own_st st_3 ?_
      show own_Go _ _ _ _ (T_3.setTop (mkF m 206 #[rv a1, iv 1, iv c_, rv ac, rv af, iv i] [(.ref ap)]))
      refine o_aloadN X_3 hx (hb hby d4_206) rfl rfl ?_
      obtain ⟨T_4, X_4, e_4, st_4⟩ := getF X_3 hx hZ hown (host := "") (Or.inl (hw _ (List.mem_of_getElem? (i := 21) rfl))) Via.refl e_3 Fo (g := (mkF m 207 #[rv a1, iv 1, iv c_, rv ac, rv af, iv i] [(.ref a1), (.ref ap)])) rfl rfl (hb hby d4_207)
      refine own_st st_4 ?_
      show own_Go _ _ _ _ (T_4.setTop (mkF m 210 #[rv a1, iv 1, iv c_, rv ac, rv af, iv i] [(.ref ao), (.ref ap)]))
      refine o_iload X_4 hx (hb hby d4_210) rfl ?_
      obtain ⟨cl_5, Ar_5, qk_5, Sz_5, Ng_5, Hs_5, Gs_5⟩ := id Vo
      refine own_st (X_4.iaload hx (j := i) (v := (.int (go i.toNatClampNeg))) (by rw [e_4]; exact Ar_5.1) (State.isArrayOf_alike hZ.alike Ar_5.2.1) Ar_5.2.2 (inb_of Sz_5 ⟨hi0, hc199__2⟩) (Hs_5.at (j := i) (inb_of Sz_5 ⟨hi0, hc199__2⟩) (own_LI_get hi0 hc199__2)) (g := (mkF m 212 #[rv a1, iv 1, iv c_, rv ac, rv af, iv i] [(.int i), (.ref ao), (.ref ap)])) rfl rfl (hb hby d4_212)) ?_
      show own_Go _ _ _ _ (T_4.setTop (mkF m 213 #[rv a1, iv 1, iv c_, rv ac, rv af, iv i] [(.int (go i.toNatClampNeg)), (.ref ap)]))
      have hgi_6 := hgo i.toNatClampNeg (own_jN hi0 hc199__2)
      rcases own_wk2 hi0 hc199__2 hnw hgi_6 with hk_6 | hk_6
      · rw [hk_6]
        show own_Go _ _ _ _ (T_4.setTop (mkF m 213 #[rv a1, iv 1, iv c_, rv ac, rv af, iv i] [(.int 0), (.ref ap)]))
        obtain ⟨cl_7, Ar_7, qk_7, Sz_7, Ng_7, Hs_7, Gs_7⟩ := id Vp
        refine own_st (X_4.aaload hx (j := (0 : Int32)) (v := (.ref p0_)) (by rw [e_4]; exact Ar_7.1) (State.isArrayOf_alike hZ.alike Ar_7.2.1) rfl Ar_7.2.2 (inb_of Sz_7 ⟨by decide, by decide⟩) (Hs_7.at (j := (0 : Int32)) (inb_of Sz_7 ⟨by decide, by decide⟩) rfl) (g := (mkF m 213 #[rv a1, iv 1, iv c_, rv ac, rv af, iv i] [(.int 0), (.ref ap)])) rfl rfl (hb hby d4_213)) ?_
        show own_Go _ _ _ _ (T_4.setTop (mkF m 214 #[rv a1, iv 1, iv c_, rv ac, rv af, iv i] [(.ref p0_)]))
        refine o_aload X_4 hx (hb hby d4_214) rfl rfl ?_
        refine o_aloadN X_4 hx (hb hby d4_216) rfl rfl ?_
        obtain ⟨T_8, X_8, e_8, st_8⟩ := getF X_4 hx hZ hown (host := "") (Or.inl (hw _ (List.mem_of_getElem? (i := 21) rfl))) Via.refl e_4 Fo (g := (mkF m 217 #[rv a1, iv 1, iv c_, rv ac, rv af, iv i] [(.ref a1), (.ref af), (.ref p0_)])) rfl rfl (hb hby d4_217)
        refine own_st st_8 ?_
        show own_Go _ _ _ _ (T_8.setTop (mkF m 220 #[rv a1, iv 1, iv c_, rv ac, rv af, iv i] [(.ref ao), (.ref af), (.ref p0_)]))
        refine o_iload X_8 hx (hb hby d4_220) rfl ?_
        obtain ⟨cl_9, Ar_9, qk_9, Sz_9, Ng_9, Hs_9, Gs_9⟩ := id Vo
        refine own_st (X_8.iaload hx (j := i) (v := (.int (0 : Int32))) (by rw [e_8]; exact Ar_9.1) (State.isArrayOf_alike hZ.alike Ar_9.2.1) Ar_9.2.2 (inb_of Sz_9 ⟨hi0, hc199__2⟩) (Hs_9.at (j := i) (inb_of Sz_9 ⟨hi0, hc199__2⟩) ((own_LI_get hi0 hc199__2).trans (congrArg Value.int hk_6))) (g := (mkF m 222 #[rv a1, iv 1, iv c_, rv ac, rv af, iv i] [(.int i), (.ref ao), (.ref af), (.ref p0_)])) rfl rfl (hb hby d4_222)) ?_
        show own_Go _ _ _ _ (T_8.setTop (mkF m 223 #[rv a1, iv 1, iv c_, rv ac, rv af, iv i] [(.int 0), (.ref af), (.ref p0_)]))
        refine o_dup2 X_8 hx (hb hby d4_223) rfl rfl ?_
        obtain ⟨cl_10, Ar_10, qk_10, Sz_10, Ng_10, Hs_10, Gs_10⟩ := id Vf
        refine own_st (X_8.iaload hx (j := (0 : Int32)) (v := (.int y0)) (by rw [e_8]; exact Ar_10.1) (State.isArrayOf_alike hZ.alike Ar_10.2.1) Ar_10.2.2 (inb_of Sz_10 ⟨by decide, by decide⟩) (Hs_10.at (j := (0 : Int32)) (inb_of Sz_10 ⟨by decide, by decide⟩) rfl) (g := (mkF m 224 #[rv a1, iv 1, iv c_, rv ac, rv af, iv i] [(.int 0), (.ref af), (.int 0), (.ref af), (.ref p0_)])) rfl rfl (hb hby d4_224)) ?_
        show own_Go _ _ _ _ (T_8.setTop (mkF m 225 #[rv a1, iv 1, iv c_, rv ac, rv af, iv i] [(.int y0), (.int 0), (.ref af), (.ref p0_)]))
        refine o_dupX2 X_8 hx (hb hby d4_225) rfl rfl rfl ?_
        refine o_iconst X_8 hx 1 (hb hby d4_226) rfl ?_
        refine o_iadd X_8 hx (hb hby d4_227) ?_
        obtain ⟨cl_11, Ar_11, qk_11, Sz_11, Ng_11, Hs_11, Gs_11⟩ := id Vf
        obtain ⟨T_12, h_12, X_12, e_12, W_12, st_12⟩ := stI X_8 hx hZ e_8 Ar_11 (j := (0 : Int32)) (inb_of Sz_11 ⟨by decide, by decide⟩) (g := (mkF m 228 #[rv a1, iv 1, iv c_, rv ac, rv af, iv i] [(.int (y0 + (1 : Int32))), (.int 0), (.ref af), (.int y0), (.ref p0_)])) rfl rfl (hb hby d4_228)
        refine own_st st_12 ?_
        have V_12 : Arv Z h_12 af kf .int (2 : Int32) [(.int (y0 + (1 : Int32))), (.int y1)] (.int (0 : Int32)) := Arv.set Ar_11 qk_11 Sz_11 Ng_11 Hs_11 Gs_11 rfl W_12 0 rfl (Nat.le_of_ble_eq_true rfl)
        have N_12 := Fr.snoc X_12 NF g_af
        show own_Go _ _ _ _ (T_12.setTop (mkF m 229 #[rv a1, iv 1, iv c_, rv ac, rv af, iv i] [(.int y0), (.ref p0_)]))
        refine o_iload X_12 hx (hb hby d4_229) rfl ?_
        have Fa_13 := (Vp0.other W_12 n_p0__af)
        obtain ⟨cl_14, Ar_14, qk_14, Sz_14, Ng_14, Hs_14, Gs_14⟩ := id Fa_13
        obtain ⟨T_15, h_15, X_15, e_15, W_15, st_15⟩ := stI X_12 hx hZ e_12 Ar_14 (j := y0) (inb_of Sz_14 ⟨(own_clnn hy0), (own_clt hi0 hc199__2 hgi_6 (congrArg Int32.toInt hk_6) hy0 hx0)⟩) (g := (mkF m 231 #[rv a1, iv 1, iv c_, rv ac, rv af, iv i] [(.int i), (.int y0), (.ref p0_)])) rfl rfl (hb hby d4_231)
        refine own_st st_15 ?_
        have V_15 : Arv Z h_15 p0_ kp0 .int x0 (own_LI (own_up gp0 y0.toNatClampNeg i) x0) (.int (0 : Int32)) := by have q := Arv.set Ar_14 qk_14 Sz_14 Ng_14 Hs_14 Gs_14 rfl W_15 y0.toNatClampNeg rfl (own_LI_lt (own_clnn hy0) (own_clt hi0 hc199__2 hgi_6 (congrArg Int32.toInt hk_6) hy0 hx0)); rw [own_LI_set] at q; exact q
        have N_15 := Fr.snoc X_15 N_12 g_p0_
        show own_Go _ _ _ _ (T_15.setTop (mkF m 232 #[rv a1, iv 1, iv c_, rv ac, rv af, iv i] []))
        refine o_aloadN X_15 hx (hb hby d4_232) rfl rfl ?_
        have Fa_16 := ((Fb.other W_12 (Or.inl n_a1_af)).other W_15 (Or.inl n_a1_p0_))
        obtain ⟨T_17, X_17, e_17, st_17⟩ := getF X_15 hx hZ hown (host := "") (Or.inl (hw _ (List.mem_of_getElem? (i := 43) rfl))) Via.refl e_15 Fa_16 (g := (mkF m 233 #[rv a1, iv 1, iv c_, rv ac, rv af, iv i] [(.ref a1)])) rfl rfl (hb hby d4_233)
        refine own_st st_17 ?_
        show own_Go _ _ _ _ (T_17.setTop (mkF m 236 #[rv a1, iv 1, iv c_, rv ac, rv af, iv i] [(.ref ab)]))
        refine o_aloadN X_17 hx (hb hby d4_236) rfl rfl ?_
        have Fa_18 := ((Fo.other W_12 (Or.inl n_a1_af)).other W_15 (Or.inl n_a1_p0_))
        obtain ⟨T_19, X_19, e_19, st_19⟩ := getF X_17 hx hZ hown (host := "") (Or.inl (hw _ (List.mem_of_getElem? (i := 21) rfl))) Via.refl e_17 Fa_18 (g := (mkF m 237 #[rv a1, iv 1, iv c_, rv ac, rv af, iv i] [(.ref a1), (.ref ab)])) rfl rfl (hb hby d4_237)
        refine own_st st_19 ?_
        show own_Go _ _ _ _ (T_19.setTop (mkF m 240 #[rv a1, iv 1, iv c_, rv ac, rv af, iv i] [(.ref ao), (.ref ab)]))
        refine o_iload X_19 hx (hb hby d4_240) rfl ?_
        have Fa_20 := ((Vo.other W_12 n_ao_af).other W_15 n_ao_p0_)
        obtain ⟨cl_21, Ar_21, qk_21, Sz_21, Ng_21, Hs_21, Gs_21⟩ := id Fa_20
        refine own_st (X_19.iaload hx (j := i) (v := (.int (0 : Int32))) (by rw [e_19]; exact Ar_21.1) (State.isArrayOf_alike hZ.alike Ar_21.2.1) Ar_21.2.2 (inb_of Sz_21 ⟨hi0, hc199__2⟩) (Hs_21.at (j := i) (inb_of Sz_21 ⟨hi0, hc199__2⟩) ((own_LI_get hi0 hc199__2).trans (congrArg Value.int hk_6))) (g := (mkF m 242 #[rv a1, iv 1, iv c_, rv ac, rv af, iv i] [(.int i), (.ref ao), (.ref ab)])) rfl rfl (hb hby d4_242)) ?_
        show own_Go _ _ _ _ (T_19.setTop (mkF m 243 #[rv a1, iv 1, iv c_, rv ac, rv af, iv i] [(.int 0), (.ref ab)]))
        refine o_dup2 X_19 hx (hb hby d4_243) rfl rfl ?_
        have Fa_22 := ((Vb.other W_12 n_ab_af).other W_15 (Ne.symm n_p0__ab))
        obtain ⟨cl_23, Ar_23, qk_23, Sz_23, Ng_23, Hs_23, Gs_23⟩ := id Fa_22
        refine own_st (X_19.baloadBooleans hx (j := (0 : Int32)) (v := (.int (1 : Int32))) (by rw [e_19]; exact Ar_23.1) (State.isArrayOf_alike hZ.alike Ar_23.2.1) Ar_23.2.2 (inb_of Sz_23 ⟨by decide, by decide⟩) (Hs_23.at (j := (0 : Int32)) (inb_of Sz_23 ⟨by decide, by decide⟩) rfl) (g := (mkF m 244 #[rv a1, iv 1, iv c_, rv ac, rv af, iv i] [(.int 0), (.ref ab), (.int 0), (.ref ab)])) rfl rfl (hb hby d4_244)) ?_
        show own_Go _ _ _ _ (T_19.setTop (mkF m 245 #[rv a1, iv 1, iv c_, rv ac, rv af, iv i] [(.int 1), (.int 0), (.ref ab)]))
        refine o_aloadN X_19 hx (hb hby d4_245) rfl rfl ?_
        have Fa_24 := ((Fw.other W_12 (Or.inl n_a1_af)).other W_15 (Or.inl n_a1_p0_))
        obtain ⟨T_25, X_25, e_25, st_25⟩ := getF X_19 hx hZ hown (host := "") (Or.inl (hw _ (List.mem_of_getElem? (i := 19) rfl))) Via.refl e_19 Fa_24 (g := (mkF m 246 #[rv a1, iv 1, iv c_, rv ac, rv af, iv i] [(.ref a1), (.int 1), (.int 0), (.ref ab)])) rfl rfl (hb hby d4_246)
        refine own_st st_25 ?_
        show own_Go _ _ _ _ (T_25.setTop (mkF m 249 #[rv a1, iv 1, iv c_, rv ac, rv af, iv i] [(.ref aw), (.int 1), (.int 0), (.ref ab)]))
        refine o_iload X_25 hx (hb hby d4_249) rfl ?_
        have Fa_26 := ((Vw.other W_12 n_aw_af).other W_15 n_aw_p0_)
        obtain ⟨cl_27, Ar_27, qk_27, Sz_27, Ng_27, Hs_27, Gs_27⟩ := id Fa_26
        refine own_st (X_25.iaload hx (j := i) (v := (.int (1 : Int32))) (by rw [e_25]; exact Ar_27.1) (State.isArrayOf_alike hZ.alike Ar_27.2.1) Ar_27.2.2 (inb_of Sz_27 ⟨hi0, hc199__2⟩) (Hs_27.at (j := i) (inb_of Sz_27 ⟨hi0, hc199__2⟩) ((own_LI_get hi0 hc199__2).trans rfl)) (g := (mkF m 251 #[rv a1, iv 1, iv c_, rv ac, rv af, iv i] [(.int i), (.ref aw), (.int 1), (.int 0), (.ref ab)])) rfl rfl (hb hby d4_251)) ?_
        show own_Go _ _ _ _ (T_25.setTop (mkF m 252 #[rv a1, iv 1, iv c_, rv ac, rv af, iv i] [(.int 1), (.int 1), (.int 0), (.ref ab)]))
        refine o_iconst X_25 hx 1 (hb hby d4_252) rfl ?_
        refine o_icmpNo X_25 hx (hb hby d4_253) (teq (by decide : (1 : Int32) = (1 : Int32))).2 ?_
        refine o_iconst X_25 hx 1 (hb hby d4_256) rfl ?_
        refine o_goto X_25 hx (pc' := 261) (hb hby d4_257) (by decide) (by decide) ?_
        refine o_iand X_25 hx (hb hby d4_261) ?_
        show own_Go _ _ _ _ (T_25.setTop (mkF m 262 #[rv a1, iv 1, iv c_, rv ac, rv af, iv i] [(.int 1), (.int 0), (.ref ab)]))
        obtain ⟨cl_28, Ar_28, qk_28, Sz_28, Ng_28, Hs_28, Gs_28⟩ := id Fa_22
        obtain ⟨T_29, h_29, X_29, e_29, W_29, st_29⟩ := stZ X_25 hx hZ e_25 Ar_28 (j := (0 : Int32)) (inb_of Sz_28 ⟨by decide, by decide⟩) (g := (mkF m 262 #[rv a1, iv 1, iv c_, rv ac, rv af, iv i] [(.int 1), (.int 0), (.ref ab)])) rfl rfl (hb hby d4_262)
        refine own_st st_29 ?_
        have V_29 : Arv Z h_29 ab kb .boolean (2 : Int32) [(.int (1 : Int32)), (.int (1 : Int32))] (.int (0 : Int32)) := Arv.set Ar_28 qk_28 Sz_28 Ng_28 Hs_28 Gs_28 (by decide) W_29 0 rfl (Nat.le_of_ble_eq_true rfl)
        have N_29 := Fr.snoc X_29 N_15 g_ab
        show own_Go _ _ _ _ (T_29.setTop (mkF m 263 #[rv a1, iv 1, iv c_, rv ac, rv af, iv i] []))
        refine o_iinc X_29 hx (hb hby d4_263) rfl (l' := #[rv a1, iv 1, iv c_, rv ac, rv af, iv (i + (1 : Int32))]) rfl ?_
        refine o_goto X_29 hx (pc' := 193) (hb hby d4_266) (by decide) (by decide) ?_
        have Zs_30 : n0 ≤ h_29.size := (Nat.le_trans (Nat.le_trans (Nat.le_trans Zh (Keep.of_wr W_12).1) (Keep.of_wr W_15).1) (Keep.of_wr W_29).1)
        have Kp_31 : Keep h0 h_29 [a1, ao, asx, am] := (((Kh.wr W_12 (Or.inr z_af)).wr W_15 (Or.inr z_p0_)).wr W_29 (Or.inr z_ab))
        have Fa_32 := (((E1.wr W_12).wr W_15).wr W_29)
        have Fa_33 := (((Fp.other W_12 (Or.inl n_a1_af)).other W_15 (Or.inl n_a1_p0_)).other W_29 (Or.inl n_a1_ab))
        have Fa_34 := (Fa_24.other W_29 (Or.inl n_a1_ab))
        have Fa_35 := (Fa_18.other W_29 (Or.inl n_a1_ab))
        have Fa_36 := (((Fs.other W_12 (Or.inl n_a1_af)).other W_15 (Or.inl n_a1_p0_)).other W_29 (Or.inl n_a1_ab))
        have Fa_37 := (((Fm.other W_12 (Or.inl n_a1_af)).other W_15 (Or.inl n_a1_p0_)).other W_29 (Or.inl n_a1_ab))
        have Fa_38 := (((Fn.other W_12 (Or.inl n_a1_af)).other W_15 (Or.inl n_a1_p0_)).other W_29 (Or.inl n_a1_ab))
        have Fa_39 := (((Fq.other W_12 (Or.inl n_a1_af)).other W_15 (Or.inl n_a1_p0_)).other W_29 (Or.inl n_a1_ab))
        have Fa_40 := (Fa_16.other W_29 (Or.inl n_a1_ab))
        have Fa_41 := (((Fc.other W_12 (Or.inl n_a1_af)).other W_15 (Or.inl n_a1_p0_)).other W_29 (Or.inl n_a1_ab))
        have Fa_42 := (Fa_26.other W_29 n_aw_ab)
        have Fa_43 := (Fa_20.other W_29 n_ao_ab)
        have Fa_44 := (((Vs.other W_12 n_asx_af).other W_15 n_asx_p0_).other W_29 n_asx_ab)
        have Fa_45 := (((Vm.other W_12 n_am_af).other W_15 n_am_p0_).other W_29 n_am_ab)
        have Fa_46 := ((V_12.other W_15 (Ne.symm n_p0__af)).other W_29 (Ne.symm n_ab_af))
        have Fa_47 := (((Vp.other W_12 n_ap_af).other W_15 n_ap_p0_).other W_29 n_ap_ab)
        have Fa_48 := (V_15.other W_29 n_p0__ab)
        have Fa_49 := (((Vp1.other W_12 n_p1__af).other W_15 n_p1__p0_).other W_29 n_p1__ab)
        exact ih T_29 _ h_29 (i + (1 : Int32)) c_ ac af ap ab p0_ p1_ kf kq kb kp0 kp1 (own_up gp0 y0.toNatClampNeg i) gp1 x0 x1 (y0 + (1 : Int32)) y1 go gs gm X_29 e_29 N_29 Zs_30 Kp_31 Fa_32 g1 Fa_33 Fa_34 Fa_35 Fa_36 Fa_37 Fa_38 Fa_39 Fa_40 Fa_41 Fa_42 Fa_43 Fa_44 Fa_45 go_ gs_ gm_ Fa_46 Fa_47 V_29 Fa_48 Fa_49 g_af z_af g_ab z_ab g_p0_ z_p0_ g_p1_ z_p1_ n_a1_af n_aw_af n_ao_af n_asx_af n_am_af n_ap_af n_ab_af n_p0__af n_p1__af n_a1_ab n_aw_ab n_ao_ab n_asx_ab n_am_ab n_ap_ab n_p0__ab n_p1__ab n_a1_p0_ n_aw_p0_ n_ao_p0_ n_asx_p0_ n_am_p0_ n_ap_p0_ n_p1__p0_ n_a1_p1_ n_aw_p1_ n_ao_p1_ n_asx_p1_ n_am_p1_ n_ap_p1_ n_ap_a1 (own_nx0 hi0 hc199__2) (own_nx1 hi0 hc199__2) hgo hgs hgm hnw hx0 hx1 (own_clS hi0 hc199__2 hgi_6 (congrArg Int32.toInt hk_6) hy0) (own_clO hi0 hc199__2 hgi_6 (congrArg Int32.toInt hk_6) (by decide) hy1) (own_fS hi0 hc199__2 hfu)
      · rw [hk_6]
        show own_Go _ _ _ _ (T_4.setTop (mkF m 213 #[rv a1, iv 1, iv c_, rv ac, rv af, iv i] [(.int 1), (.ref ap)]))
        obtain ⟨cl_50, Ar_50, qk_50, Sz_50, Ng_50, Hs_50, Gs_50⟩ := id Vp
        refine own_st (X_4.aaload hx (j := (1 : Int32)) (v := (.ref p1_)) (by rw [e_4]; exact Ar_50.1) (State.isArrayOf_alike hZ.alike Ar_50.2.1) rfl Ar_50.2.2 (inb_of Sz_50 ⟨by decide, by decide⟩) (Hs_50.at (j := (1 : Int32)) (inb_of Sz_50 ⟨by decide, by decide⟩) rfl) (g := (mkF m 213 #[rv a1, iv 1, iv c_, rv ac, rv af, iv i] [(.int 1), (.ref ap)])) rfl rfl (hb hby d4_213)) ?_
        show own_Go _ _ _ _ (T_4.setTop (mkF m 214 #[rv a1, iv 1, iv c_, rv ac, rv af, iv i] [(.ref p1_)]))
        refine o_aload X_4 hx (hb hby d4_214) rfl rfl ?_
        refine o_aloadN X_4 hx (hb hby d4_216) rfl rfl ?_
        obtain ⟨T_51, X_51, e_51, st_51⟩ := getF X_4 hx hZ hown (host := "") (Or.inl (hw _ (List.mem_of_getElem? (i := 21) rfl))) Via.refl e_4 Fo (g := (mkF m 217 #[rv a1, iv 1, iv c_, rv ac, rv af, iv i] [(.ref a1), (.ref af), (.ref p1_)])) rfl rfl (hb hby d4_217)
        refine own_st st_51 ?_
        show own_Go _ _ _ _ (T_51.setTop (mkF m 220 #[rv a1, iv 1, iv c_, rv ac, rv af, iv i] [(.ref ao), (.ref af), (.ref p1_)]))
        refine o_iload X_51 hx (hb hby d4_220) rfl ?_
        obtain ⟨cl_52, Ar_52, qk_52, Sz_52, Ng_52, Hs_52, Gs_52⟩ := id Vo
        refine own_st (X_51.iaload hx (j := i) (v := (.int (1 : Int32))) (by rw [e_51]; exact Ar_52.1) (State.isArrayOf_alike hZ.alike Ar_52.2.1) Ar_52.2.2 (inb_of Sz_52 ⟨hi0, hc199__2⟩) (Hs_52.at (j := i) (inb_of Sz_52 ⟨hi0, hc199__2⟩) ((own_LI_get hi0 hc199__2).trans (congrArg Value.int hk_6))) (g := (mkF m 222 #[rv a1, iv 1, iv c_, rv ac, rv af, iv i] [(.int i), (.ref ao), (.ref af), (.ref p1_)])) rfl rfl (hb hby d4_222)) ?_
        show own_Go _ _ _ _ (T_51.setTop (mkF m 223 #[rv a1, iv 1, iv c_, rv ac, rv af, iv i] [(.int 1), (.ref af), (.ref p1_)]))
        refine o_dup2 X_51 hx (hb hby d4_223) rfl rfl ?_
        obtain ⟨cl_53, Ar_53, qk_53, Sz_53, Ng_53, Hs_53, Gs_53⟩ := id Vf
        refine own_st (X_51.iaload hx (j := (1 : Int32)) (v := (.int y1)) (by rw [e_51]; exact Ar_53.1) (State.isArrayOf_alike hZ.alike Ar_53.2.1) Ar_53.2.2 (inb_of Sz_53 ⟨by decide, by decide⟩) (Hs_53.at (j := (1 : Int32)) (inb_of Sz_53 ⟨by decide, by decide⟩) rfl) (g := (mkF m 224 #[rv a1, iv 1, iv c_, rv ac, rv af, iv i] [(.int 1), (.ref af), (.int 1), (.ref af), (.ref p1_)])) rfl rfl (hb hby d4_224)) ?_
        show own_Go _ _ _ _ (T_51.setTop (mkF m 225 #[rv a1, iv 1, iv c_, rv ac, rv af, iv i] [(.int y1), (.int 1), (.ref af), (.ref p1_)]))
        refine o_dupX2 X_51 hx (hb hby d4_225) rfl rfl rfl ?_
        refine o_iconst X_51 hx 1 (hb hby d4_226) rfl ?_
        refine o_iadd X_51 hx (hb hby d4_227) ?_
        obtain ⟨cl_54, Ar_54, qk_54, Sz_54, Ng_54, Hs_54, Gs_54⟩ := id Vf
        obtain ⟨T_55, h_55, X_55, e_55, W_55, st_55⟩ := stI X_51 hx hZ e_51 Ar_54 (j := (1 : Int32)) (inb_of Sz_54 ⟨by decide, by decide⟩) (g := (mkF m 228 #[rv a1, iv 1, iv c_, rv ac, rv af, iv i] [(.int (y1 + (1 : Int32))), (.int 1), (.ref af), (.int y1), (.ref p1_)])) rfl rfl (hb hby d4_228)
        refine own_st st_55 ?_
        have V_55 : Arv Z h_55 af kf .int (2 : Int32) [(.int y0), (.int (y1 + (1 : Int32)))] (.int (0 : Int32)) := Arv.set Ar_54 qk_54 Sz_54 Ng_54 Hs_54 Gs_54 rfl W_55 1 rfl (Nat.le_of_ble_eq_true rfl)
        have N_55 := Fr.snoc X_55 NF g_af
        show own_Go _ _ _ _ (T_55.setTop (mkF m 229 #[rv a1, iv 1, iv c_, rv ac, rv af, iv i] [(.int y1), (.ref p1_)]))
        refine o_iload X_55 hx (hb hby d4_229) rfl ?_
        have Fa_56 := (Vp1.other W_55 n_p1__af)
        obtain ⟨cl_57, Ar_57, qk_57, Sz_57, Ng_57, Hs_57, Gs_57⟩ := id Fa_56
        obtain ⟨T_58, h_58, X_58, e_58, W_58, st_58⟩ := stI X_55 hx hZ e_55 Ar_57 (j := y1) (inb_of Sz_57 ⟨(own_clnn hy1), (own_clt hi0 hc199__2 hgi_6 (congrArg Int32.toInt hk_6) hy1 hx1)⟩) (g := (mkF m 231 #[rv a1, iv 1, iv c_, rv ac, rv af, iv i] [(.int i), (.int y1), (.ref p1_)])) rfl rfl (hb hby d4_231)
        refine own_st st_58 ?_
        have V_58 : Arv Z h_58 p1_ kp1 .int x1 (own_LI (own_up gp1 y1.toNatClampNeg i) x1) (.int (0 : Int32)) := by have q := Arv.set Ar_57 qk_57 Sz_57 Ng_57 Hs_57 Gs_57 rfl W_58 y1.toNatClampNeg rfl (own_LI_lt (own_clnn hy1) (own_clt hi0 hc199__2 hgi_6 (congrArg Int32.toInt hk_6) hy1 hx1)); rw [own_LI_set] at q; exact q
        have N_58 := Fr.snoc X_58 N_55 g_p1_
        show own_Go _ _ _ _ (T_58.setTop (mkF m 232 #[rv a1, iv 1, iv c_, rv ac, rv af, iv i] []))
        refine o_aloadN X_58 hx (hb hby d4_232) rfl rfl ?_
        have Fa_59 := ((Fb.other W_55 (Or.inl n_a1_af)).other W_58 (Or.inl n_a1_p1_))
        obtain ⟨T_60, X_60, e_60, st_60⟩ := getF X_58 hx hZ hown (host := "") (Or.inl (hw _ (List.mem_of_getElem? (i := 43) rfl))) Via.refl e_58 Fa_59 (g := (mkF m 233 #[rv a1, iv 1, iv c_, rv ac, rv af, iv i] [(.ref a1)])) rfl rfl (hb hby d4_233)
        refine own_st st_60 ?_
        show own_Go _ _ _ _ (T_60.setTop (mkF m 236 #[rv a1, iv 1, iv c_, rv ac, rv af, iv i] [(.ref ab)]))
        refine o_aloadN X_60 hx (hb hby d4_236) rfl rfl ?_
        have Fa_61 := ((Fo.other W_55 (Or.inl n_a1_af)).other W_58 (Or.inl n_a1_p1_))
        obtain ⟨T_62, X_62, e_62, st_62⟩ := getF X_60 hx hZ hown (host := "") (Or.inl (hw _ (List.mem_of_getElem? (i := 21) rfl))) Via.refl e_60 Fa_61 (g := (mkF m 237 #[rv a1, iv 1, iv c_, rv ac, rv af, iv i] [(.ref a1), (.ref ab)])) rfl rfl (hb hby d4_237)
        refine own_st st_62 ?_
        show own_Go _ _ _ _ (T_62.setTop (mkF m 240 #[rv a1, iv 1, iv c_, rv ac, rv af, iv i] [(.ref ao), (.ref ab)]))
        refine o_iload X_62 hx (hb hby d4_240) rfl ?_
        have Fa_63 := ((Vo.other W_55 n_ao_af).other W_58 n_ao_p1_)
        obtain ⟨cl_64, Ar_64, qk_64, Sz_64, Ng_64, Hs_64, Gs_64⟩ := id Fa_63
        refine own_st (X_62.iaload hx (j := i) (v := (.int (1 : Int32))) (by rw [e_62]; exact Ar_64.1) (State.isArrayOf_alike hZ.alike Ar_64.2.1) Ar_64.2.2 (inb_of Sz_64 ⟨hi0, hc199__2⟩) (Hs_64.at (j := i) (inb_of Sz_64 ⟨hi0, hc199__2⟩) ((own_LI_get hi0 hc199__2).trans (congrArg Value.int hk_6))) (g := (mkF m 242 #[rv a1, iv 1, iv c_, rv ac, rv af, iv i] [(.int i), (.ref ao), (.ref ab)])) rfl rfl (hb hby d4_242)) ?_
        show own_Go _ _ _ _ (T_62.setTop (mkF m 243 #[rv a1, iv 1, iv c_, rv ac, rv af, iv i] [(.int 1), (.ref ab)]))
        refine o_dup2 X_62 hx (hb hby d4_243) rfl rfl ?_
        have Fa_65 := ((Vb.other W_55 n_ab_af).other W_58 (Ne.symm n_p1__ab))
        obtain ⟨cl_66, Ar_66, qk_66, Sz_66, Ng_66, Hs_66, Gs_66⟩ := id Fa_65
        refine own_st (X_62.baloadBooleans hx (j := (1 : Int32)) (v := (.int (1 : Int32))) (by rw [e_62]; exact Ar_66.1) (State.isArrayOf_alike hZ.alike Ar_66.2.1) Ar_66.2.2 (inb_of Sz_66 ⟨by decide, by decide⟩) (Hs_66.at (j := (1 : Int32)) (inb_of Sz_66 ⟨by decide, by decide⟩) rfl) (g := (mkF m 244 #[rv a1, iv 1, iv c_, rv ac, rv af, iv i] [(.int 1), (.ref ab), (.int 1), (.ref ab)])) rfl rfl (hb hby d4_244)) ?_
        show own_Go _ _ _ _ (T_62.setTop (mkF m 245 #[rv a1, iv 1, iv c_, rv ac, rv af, iv i] [(.int 1), (.int 1), (.ref ab)]))
        refine o_aloadN X_62 hx (hb hby d4_245) rfl rfl ?_
        have Fa_67 := ((Fw.other W_55 (Or.inl n_a1_af)).other W_58 (Or.inl n_a1_p1_))
        obtain ⟨T_68, X_68, e_68, st_68⟩ := getF X_62 hx hZ hown (host := "") (Or.inl (hw _ (List.mem_of_getElem? (i := 19) rfl))) Via.refl e_62 Fa_67 (g := (mkF m 246 #[rv a1, iv 1, iv c_, rv ac, rv af, iv i] [(.ref a1), (.int 1), (.int 1), (.ref ab)])) rfl rfl (hb hby d4_246)
        refine own_st st_68 ?_
        show own_Go _ _ _ _ (T_68.setTop (mkF m 249 #[rv a1, iv 1, iv c_, rv ac, rv af, iv i] [(.ref aw), (.int 1), (.int 1), (.ref ab)]))
        refine o_iload X_68 hx (hb hby d4_249) rfl ?_
        have Fa_69 := ((Vw.other W_55 n_aw_af).other W_58 n_aw_p1_)
        obtain ⟨cl_70, Ar_70, qk_70, Sz_70, Ng_70, Hs_70, Gs_70⟩ := id Fa_69
        refine own_st (X_68.iaload hx (j := i) (v := (.int (1 : Int32))) (by rw [e_68]; exact Ar_70.1) (State.isArrayOf_alike hZ.alike Ar_70.2.1) Ar_70.2.2 (inb_of Sz_70 ⟨hi0, hc199__2⟩) (Hs_70.at (j := i) (inb_of Sz_70 ⟨hi0, hc199__2⟩) ((own_LI_get hi0 hc199__2).trans rfl)) (g := (mkF m 251 #[rv a1, iv 1, iv c_, rv ac, rv af, iv i] [(.int i), (.ref aw), (.int 1), (.int 1), (.ref ab)])) rfl rfl (hb hby d4_251)) ?_
        show own_Go _ _ _ _ (T_68.setTop (mkF m 252 #[rv a1, iv 1, iv c_, rv ac, rv af, iv i] [(.int 1), (.int 1), (.int 1), (.ref ab)]))
        refine o_iconst X_68 hx 1 (hb hby d4_252) rfl ?_
        refine o_icmpNo X_68 hx (hb hby d4_253) (teq (by decide : (1 : Int32) = (1 : Int32))).2 ?_
        refine o_iconst X_68 hx 1 (hb hby d4_256) rfl ?_
        refine o_goto X_68 hx (pc' := 261) (hb hby d4_257) (by decide) (by decide) ?_
        refine o_iand X_68 hx (hb hby d4_261) ?_
        show own_Go _ _ _ _ (T_68.setTop (mkF m 262 #[rv a1, iv 1, iv c_, rv ac, rv af, iv i] [(.int 1), (.int 1), (.ref ab)]))
        obtain ⟨cl_71, Ar_71, qk_71, Sz_71, Ng_71, Hs_71, Gs_71⟩ := id Fa_65
        obtain ⟨T_72, h_72, X_72, e_72, W_72, st_72⟩ := stZ X_68 hx hZ e_68 Ar_71 (j := (1 : Int32)) (inb_of Sz_71 ⟨by decide, by decide⟩) (g := (mkF m 262 #[rv a1, iv 1, iv c_, rv ac, rv af, iv i] [(.int 1), (.int 1), (.ref ab)])) rfl rfl (hb hby d4_262)
        refine own_st st_72 ?_
        have V_72 : Arv Z h_72 ab kb .boolean (2 : Int32) [(.int (1 : Int32)), (.int (1 : Int32))] (.int (0 : Int32)) := Arv.set Ar_71 qk_71 Sz_71 Ng_71 Hs_71 Gs_71 (by decide) W_72 1 rfl (Nat.le_of_ble_eq_true rfl)
        have N_72 := Fr.snoc X_72 N_58 g_ab
        show own_Go _ _ _ _ (T_72.setTop (mkF m 263 #[rv a1, iv 1, iv c_, rv ac, rv af, iv i] []))
        refine o_iinc X_72 hx (hb hby d4_263) rfl (l' := #[rv a1, iv 1, iv c_, rv ac, rv af, iv (i + (1 : Int32))]) rfl ?_
        refine o_goto X_72 hx (pc' := 193) (hb hby d4_266) (by decide) (by decide) ?_
        have Zs_73 : n0 ≤ h_72.size := (Nat.le_trans (Nat.le_trans (Nat.le_trans Zh (Keep.of_wr W_55).1) (Keep.of_wr W_58).1) (Keep.of_wr W_72).1)
        have Kp_74 : Keep h0 h_72 [a1, ao, asx, am] := (((Kh.wr W_55 (Or.inr z_af)).wr W_58 (Or.inr z_p1_)).wr W_72 (Or.inr z_ab))
        have Fa_75 := (((E1.wr W_55).wr W_58).wr W_72)
        have Fa_76 := (((Fp.other W_55 (Or.inl n_a1_af)).other W_58 (Or.inl n_a1_p1_)).other W_72 (Or.inl n_a1_ab))
        have Fa_77 := (Fa_67.other W_72 (Or.inl n_a1_ab))
        have Fa_78 := (Fa_61.other W_72 (Or.inl n_a1_ab))
        have Fa_79 := (((Fs.other W_55 (Or.inl n_a1_af)).other W_58 (Or.inl n_a1_p1_)).other W_72 (Or.inl n_a1_ab))
        have Fa_80 := (((Fm.other W_55 (Or.inl n_a1_af)).other W_58 (Or.inl n_a1_p1_)).other W_72 (Or.inl n_a1_ab))
        have Fa_81 := (((Fn.other W_55 (Or.inl n_a1_af)).other W_58 (Or.inl n_a1_p1_)).other W_72 (Or.inl n_a1_ab))
        have Fa_82 := (((Fq.other W_55 (Or.inl n_a1_af)).other W_58 (Or.inl n_a1_p1_)).other W_72 (Or.inl n_a1_ab))
        have Fa_83 := (Fa_59.other W_72 (Or.inl n_a1_ab))
        have Fa_84 := (((Fc.other W_55 (Or.inl n_a1_af)).other W_58 (Or.inl n_a1_p1_)).other W_72 (Or.inl n_a1_ab))
        have Fa_85 := (Fa_69.other W_72 n_aw_ab)
        have Fa_86 := (Fa_63.other W_72 n_ao_ab)
        have Fa_87 := (((Vs.other W_55 n_asx_af).other W_58 n_asx_p1_).other W_72 n_asx_ab)
        have Fa_88 := (((Vm.other W_55 n_am_af).other W_58 n_am_p1_).other W_72 n_am_ab)
        have Fa_89 := ((V_55.other W_58 (Ne.symm n_p1__af)).other W_72 (Ne.symm n_ab_af))
        have Fa_90 := (((Vp.other W_55 n_ap_af).other W_58 n_ap_p1_).other W_72 n_ap_ab)
        have Fa_91 := (((Vp0.other W_55 n_p0__af).other W_58 (Ne.symm n_p1__p0_)).other W_72 n_p0__ab)
        have Fa_92 := (V_58.other W_72 n_p1__ab)
        exact ih T_72 _ h_72 (i + (1 : Int32)) c_ ac af ap ab p0_ p1_ kf kq kb kp0 kp1 gp0 (own_up gp1 y1.toNatClampNeg i) x0 x1 y0 (y1 + (1 : Int32)) go gs gm X_72 e_72 N_72 Zs_73 Kp_74 Fa_75 g1 Fa_76 Fa_77 Fa_78 Fa_79 Fa_80 Fa_81 Fa_82 Fa_83 Fa_84 Fa_85 Fa_86 Fa_87 Fa_88 go_ gs_ gm_ Fa_89 Fa_90 V_72 Fa_91 Fa_92 g_af z_af g_ab z_ab g_p0_ z_p0_ g_p1_ z_p1_ n_a1_af n_aw_af n_ao_af n_asx_af n_am_af n_ap_af n_ab_af n_p0__af n_p1__af n_a1_ab n_aw_ab n_ao_ab n_asx_ab n_am_ab n_ap_ab n_p0__ab n_p1__ab n_a1_p0_ n_aw_p0_ n_ao_p0_ n_asx_p0_ n_am_p0_ n_ap_p0_ n_p1__p0_ n_a1_p1_ n_aw_p1_ n_ao_p1_ n_asx_p1_ n_am_p1_ n_ap_p1_ n_ap_a1 (own_nx0 hi0 hc199__2) (own_nx1 hi0 hc199__2) hgo hgs hgm hnw hx0 hx1 (own_clO hi0 hc199__2 hgi_6 (congrArg Int32.toInt hk_6) (by decide) hy0) (own_clS hi0 hc199__2 hgi_6 (congrArg Int32.toInt hk_6) hy1) (own_fS hi0 hc199__2 hfu)
    · refine o_icmpYes X_1 hx (pc' := 269) (hb hby d4_199) (flt hc199__2).2.1 (by decide) (by decide) ?_
      refine o_bipush X_1 hx 32 (hb hby d4_269) rfl ?_
      refine o_aloadN X_1 hx (hb hby d4_271) rfl rfl ?_
      obtain ⟨T_93, X_93, e_93, st_93⟩ := getF X_1 hx hZ hown (host := "") (Or.inl (hw _ (List.mem_of_getElem? (i := 36) rfl))) Via.refl e_1 Fn (g := (mkF m 272 #[rv a1, iv 1, iv c_, rv ac, rv af, iv i] [(.ref a1), (.int 32)])) rfl rfl (hb hby d4_272)
      refine own_st st_93 ?_
      show own_Go _ _ _ _ (T_93.setTop (mkF m 275 #[rv a1, iv 1, iv c_, rv ac, rv af, iv i] [(.int 2), (.int 32)]))
      refine o_iconst X_93 hx 1 (hb hby d4_275) rfl ?_
      refine o_isub X_93 hx (hb hby d4_276) ?_
      show own_Go _ _ _ _ (T_93.setTop (mkF m 277 #[rv a1, iv 1, iv c_, rv ac, rv af, iv i] [(.int 1), (.int 32)]))
      obtain ⟨_, _, ⟨T_94, L_94, k_94, n_94⟩, -, X_94, ⟨Lc_94, hQ_94, l_94, y_94, z_94⟩, st_94⟩ := Jvm.LawKit.callS X_93 hx (y := (⟨"java/lang/Integer", "numberOfLeadingZeros", "(I)I"⟩ : MethodName)) hown (mvT hZ (hw _ (List.mem_of_getElem? (i := 46) rfl))) (mvT hZ (hw _ (List.mem_of_getElem? (i := 47) rfl))) (mvT hZ (hw _ (List.mem_of_getElem? (i := 48) rfl))) (mvT hZ (hw _ (List.mem_of_getElem? (i := 49) rfl))) (by decide) (backOf (W := 1) (rmnlz1 l Z a0 hw []   h n0 Zh) hZ (hw _ (List.mem_of_getElem? (i := 49) rfl)) (hw _ (List.mem_of_getElem? (i := 48) rfl)) (by decide) (by decide)) (g := (mkF m 277 #[rv a1, iv 1, iv c_, rv ac, rv af, iv i] [(.int 1), (.int 32)])) rfl (by rw [hml]; rfl) (argsL := [(.int 1)]) (rest := [(.int 32)]) (lenOf pd_1 rfl) rfl (by show 2 * 0 + _ ≤ _; exact Nat.le_of_eq rfl) (hb hby d4_277) (fun _ _ => ⟨rfl, e_93, (by decide : 6 + 0 ≤ _), (by decide : 136 + 0 ≤ _)⟩)
      dsimp only [Pt.U, Pt.locs, Pt.cells, Pt.slots] at X_94 l_94 y_94 z_94 st_94 hQ_94
      subst l_94 y_94 z_94
      obtain ⟨rfl, Nq_94, e_94⟩ := hQ_94
      have N_94 := Fr.app NF Nq_94
      refine own_st st_94 ?_
      show own_Go _ _ _ _ (T_94.setTop (mkF m 280 #[rv a1, iv 1, iv c_, rv ac, rv af, iv i] [(.int 31), (.int 32)]))
      refine o_isub X_94 hx (hb hby d4_280) ?_
      show own_Go _ _ _ _ (T_94.setTop (mkF m 281 #[rv a1, iv 1, iv c_, rv ac, rv af, iv i] [(.int 1)]))
      refine o_istore X_94 hx (hb hby d4_281) (l' := #[rv a1, iv 1, iv c_, rv ac, rv af, iv 1]) rfl ?_
      refine o_aloadN X_94 hx (hb hby d4_283) rfl rfl ?_
      refine o_iconst X_94 hx 0 (hb hby d4_284) rfl ?_
      refine o_bipush X_94 hx 16 (hb hby d4_285) rfl ?_
      refine o_iload X_94 hx (hb hby d4_287) rfl ?_
      refine o_isub X_94 hx (hb hby d4_289) ?_
      show own_Go _ _ _ _ (T_94.setTop (mkF m 290 #[rv a1, iv 1, iv c_, rv ac, rv af, iv 1] [(.int 15), (.int 0), (.ref a1)]))
      obtain ⟨_, _, ⟨T_95, L_95, k_95, n_95⟩, -, X_95, ⟨Lc_95, hQ_95, l_95, y_95, z_95⟩, st_95⟩ := Jvm.LawKit.callS X_94 hx (y := (⟨"java/lang/Math", "max", "(II)I"⟩ : MethodName)) hown (mvT hZ (hw _ (List.mem_of_getElem? (i := 50) rfl))) (mvT hZ (hw _ (List.mem_of_getElem? (i := 51) rfl))) (mvT hZ (hw _ (List.mem_of_getElem? (i := 52) rfl))) (mvT hZ (hw _ (List.mem_of_getElem? (i := 53) rfl))) (by decide) (backOf (W := 1) (rmmax15 l Z a0 hw []   h n0 Zh) hZ (hw _ (List.mem_of_getElem? (i := 53) rfl)) (hw _ (List.mem_of_getElem? (i := 52) rfl)) (by decide) (by decide)) (g := (mkF m 290 #[rv a1, iv 1, iv c_, rv ac, rv af, iv 1] [(.int 15), (.int 0), (.ref a1)])) rfl (by rw [hml]; rfl) (argsL := [(.int 0), (.int 15)]) (rest := [(.ref a1)]) (lenOf pd_2 rfl) rfl (by show 2 * 0 + _ ≤ _; exact Nat.le_of_eq rfl) (hb hby d4_290) (fun _ _ => ⟨rfl, e_94, (by decide : 6 + 0 ≤ _), (by decide : 136 + 0 ≤ _)⟩)
      dsimp only [Pt.U, Pt.locs, Pt.cells, Pt.slots] at X_95 l_95 y_95 z_95 st_95 hQ_95
      subst l_95 y_95 z_95
      obtain ⟨rfl, Nq_95, e_95⟩ := hQ_95
      have N_95 := Fr.app N_94 Nq_95
      refine own_st st_95 ?_
      show own_Go _ _ _ _ (T_95.setTop (mkF m 293 #[rv a1, iv 1, iv c_, rv ac, rv af, iv 1] [(.int 15), (.ref a1)]))
      obtain ⟨T_96, h_96, X_96, e_96, W_96, st_96⟩ := putF X_95 hx hZ hown (host := "") (Or.inl (hw _ (List.mem_of_getElem? (i := 54) rfl))) Via.refl e_95 Fc E1 (Or.inl (hw _ (List.mem_of_getElem? (i := 55) rfl))) (hw _ (List.mem_of_getElem? (i := 2) rfl)) (ty := .int) (by decide) rfl rfl (g := (mkF m 293 #[rv a1, iv 1, iv c_, rv ac, rv af, iv 1] [(.int 15), (.ref a1)])) rfl rfl (hb hby d4_293)
      refine own_st st_96 ?_
      have N_96 := Fr.snoc X_96 N_95 g1
      show own_Go _ _ _ _ (T_96.setTop (mkF m 296 #[rv a1, iv 1, iv c_, rv ac, rv af, iv 1] []))
      have Kp_97 : Keep h0 h_96 [a1, ao, asx, am] := (Kh.wr W_96 (Or.inl (List.mem_of_getElem? (i := 0) rfl)))
      have Fa_98 := (Fo.other W_96 (Or.inr (slot_ne (Or.inr (hw _ (List.mem_of_getElem? (i := 22) rfl))) (Or.inl (hw _ (List.mem_of_getElem? (i := 55) rfl))) (by decide) (t := (.array .int)) (t' := .int) (by decide) (by decide))))
      have Fa_99 := (Fs.other W_96 (Or.inr (slot_ne (Or.inr (hw _ (List.mem_of_getElem? (i := 24) rfl))) (Or.inl (hw _ (List.mem_of_getElem? (i := 55) rfl))) (by decide) (t := (.array .int)) (t' := .int) (by decide) (by decide))))
      have Fa_100 := (Fm.other W_96 (Or.inr (slot_ne (Or.inr (hw _ (List.mem_of_getElem? (i := 27) rfl))) (Or.inl (hw _ (List.mem_of_getElem? (i := 55) rfl))) (by decide) (t := (.array .long)) (t' := .int) (by decide) (by decide))))
      have Fa_101 := (Vo.other W_96 n_ao_a1)
      have Fa_102 := (Vs.other W_96 n_asx_a1)
      have Fa_103 := (Vm.other W_96 n_am_a1)
      exact own_end X_96 e_96 (v := none) (fun _ => rfl) hlk (fun fs hr => X_96.returnOut hx hret (hb hby d4_296) hr) (Q := Q_rmlay Z a0 a1 aw ao asx am kw ko ks km N fo0 fs0 fm0 h0 n0) ⟨go, gs, gm, rfl, N_96, Kp_97, Fa_98, Fa_99, Fa_100, Fa_101, Fa_102, Fa_103, hgo, hgs, hgm⟩ (by decide) (by decide)
set_option maxRecDepth 65536 in
set_option maxHeartbeats 40000000 in
theorem own_lay122_2 {p : Program} {l : Launch} {e : Env} {s : State} {m : MethodId} {below : List Frame} {meth : Method} {c : Code} {Z : State} {a0 : Array Value} {h0 : Heap} {n0 : Nat} (a1 : Addr) (aw : Addr) (ao : Addr) (asx : Addr) (am : Addr) (kw : ClassId) (ko : ClassId) (ks : ClassId) (km : ClassId) (N : Int32) (fo0 : Nat → Int32) (fs0 : Nat → Int32) (fm0 : Nat → Int64) (n_aw_a1 : aw ≠ a1) (n_ao_a1 : ao ≠ a1) (n_asx_a1 : asx ≠ a1) (n_am_a1 : am ≠ a1) (n_ao_aw : ao ≠ aw) (n_asx_aw : asx ≠ aw) (n_am_aw : am ≠ aw) (n_asx_ao : asx ≠ ao) (n_am_ao : am ≠ ao) (n_am_asx : am ≠ asx) (hN1 : ¬ N < (1 : Int32)) (hN2 : ¬ (256 : Int32) < N)
    (hx : p.tables.exec = Jvm.exec) (hZ : Z.Warmed39 s.vm) (hw : ∀ d ∈ tables_1, d.before a0 Z = true) (hby : c.code = prog_3_method_15_code) (hml : c.maxLocals = 6) (hown : s.vm.findClass "com/example/causyn/causyn/analysis/MarkingStore" = some m.cls) (hret : meth.sig.returnType = none) (hlk : meth.locks = false) :
    ∀ (T : State) (locs : List Loc) (h : Heap) (i : Int32) (c_ : Int32) (ac : Addr) (kc : ClassId) (x0 : Int32) (x1 : Int32) (go : Nat → Int32) (gs : Nat → Int32) (gm : Nat → Int64) (X : Stand p l e ({ frames := 1, cells := 8, slots := 272, locals := 14 } : Room) s m #[(.ref a1)] below meth c T locs 1 2) (eT : T.heap = h) (NF : Fr n0 locs) (Zh : n0 ≤ h.size) (Kh : Keep h0 h [a1, ao, asx, am]) (E1 : Exa Z h a1 "com/example/causyn/causyn/analysis/MarkingStore") (g1 : n0 ≤ a1) (Fp : Fld Z h a1 "com/example/causyn/causyn/analysis/MarkingStore" "places" "I" (.int N)) (Fw : Fld Z h a1 "com/example/causyn/causyn/analysis/MarkingStore" "width" "[I" (.ref aw)) (Fo : Fld Z h a1 "com/example/causyn/causyn/analysis/MarkingStore" "word" "[I" (.ref ao)) (Fs : Fld Z h a1 "com/example/causyn/causyn/analysis/MarkingStore" "shift" "[I" (.ref asx)) (Fm : Fld Z h a1 "com/example/causyn/causyn/analysis/MarkingStore" "mask" "[J" (.ref am)) (Fn : Fld Z h a1 "com/example/causyn/causyn/analysis/MarkingStore" "words" "I" (.int (2 : Int32))) (Fq : Fld Z h a1 "com/example/causyn/causyn/analysis/MarkingStore" "placesInWord" "[[I" .null) (Fb : Fld Z h a1 "com/example/causyn/causyn/analysis/MarkingStore" "bitsOnly" "[Z" .null) (Fc : Fld Z h a1 "com/example/causyn/causyn/analysis/MarkingStore" "chunkBits" "I" (.int (0 : Int32))) (Vw : Arv Z h aw kw .int N (own_LI (fun _ => (1 : Int32)) N) (.int (0 : Int32))) (Vo : Arv Z h ao ko .int N (own_LI go N) (.int (0 : Int32))) (Vs : Arv Z h asx ks .int N (own_LI gs N) (.int (0 : Int32))) (Vm : Arv Z h am km .long N (own_LJ gm N) (.long (0 : Int64))) (go_ : n0 ≤ ao) (gs_ : n0 ≤ asx) (gm_ : n0 ≤ am) (Vc : Arv Z h ac kc .int (2 : Int32) [(.int x0), (.int x1)] (.int (0 : Int32))) (n_a1_ac : a1 ≠ ac) (n_aw_ac : aw ≠ ac) (n_ao_ac : ao ≠ ac) (n_asx_ac : asx ≠ ac) (n_am_ac : am ≠ ac) (hgo : ∀ j : Nat, (j : Int) < N.toInt → (go j).toInt = (j : Int) / 64) (hgs : ∀ j : Nat, (j : Int) < N.toInt → (gs j).toInt = (j : Int) % 64) (hgm : ∀ j : Nat, (j : Int) < N.toInt → gm j = (1 : Int64)) (hnw : own_nw N 2) (hx0 : x0.toInt = own_cl N.toInt 0) (hx1 : x1.toInt = own_cl N.toInt 1), own_Go p.tables e below (fun o U' => ∃ v L, o = .returned v ∧ Q_rmlay Z a0 a1 aw ao asx am kw ko ks km N fo0 fs0 fm0 h0 n0 v U'.heap L ∧ FrameEnd s o U' L ({ frames := 1, cells := 8, slots := 272, locals := 14 } : Room).cells ({ frames := 1, cells := 8, slots := 272, locals := 14 } : Room).slots) (T.setTop (mkF m 122 #[rv a1, iv 1, iv c_, rv ac, iv i, .unset] [])) := by
  intro T locs h i c_ ac kc x0 x1 go gs gm X eT NF Zh Kh E1 g1 Fp Fw Fo Fs Fm Fn Fq Fb Fc Vw Vo Vs Vm go_ gs_ gm_ Vc n_a1_ac n_aw_ac n_ao_ac n_asx_ac n_am_ac hgo hgs hgm hnw hx0 hx1
  refine o_aloadN X hx (hb hby d4_122) rfl rfl ?_
  refine o_aloadN X hx (hb hby d4_123) rfl rfl ?_
  obtain ⟨T_1, X_1, e_1, st_1⟩ := getF X hx hZ hown (host := "") (Or.inl (hw _ (List.mem_of_getElem? (i := 36) rfl))) Via.refl eT Fn (g := (mkF m 124 #[rv a1, iv 1, iv c_, rv ac, iv i, .unset] [(.ref a1), (.ref a1)])) rfl rfl (hb hby d4_124)
  refine own_st st_1 ?_
  show own_Go _ _ _ _ (T_1.setTop (mkF m 127 #[rv a1, iv 1, iv c_, rv ac, iv i, .unset] [(.int 2), (.ref a1)]))
  obtain ⟨T_2, h_2, k_2, X_2, e_2, E_2, A_2, -, O_2, st_2⟩ := newRA X_1 hx hZ hown (C := "[I") (ty := .int) (by decide +kernel) (hw _ (List.mem_of_getElem? (i := 38) rfl)) (hw _ (List.mem_of_getElem? (i := 39) rfl)) e_1 (g := (mkF m 127 #[rv a1, iv 1, iv c_, rv ac, iv i, .unset] [(.int 2), (.ref a1)])) rfl (hb hby d4_127) rfl (by decide) (cap := 2) (by decide) (by decide) (by decide) (by decide) rfl
  obtain ⟨b_2, g_2⟩ : ∃ z, z = h.size := ⟨_, rfl⟩
  rw [← g_2] at A_2 st_2
  have V_2 : Arv Z h_2 b_2 k_2 (.array .int) (2 : Int32) [.null, .null] .null := (Arv.new A_2 (by decide)).pad (pad_rep [] .null 2)
  have gg_2 : n0 ≤ b_2 := Nat.le_trans Zh (Nat.le_of_eq g_2.symm)
  have sz_2 : h0.size ≤ b_2 := Nat.le_trans Kh.1 (Nat.le_of_eq g_2.symm)
  refine own_st st_2 ?_
  show own_Go _ _ _ _ (T_2.setTop (mkF m 130 #[rv a1, iv 1, iv c_, rv ac, iv i, .unset] [(.ref b_2), (.ref a1)]))
  have Fa_3 := (Fq.ext E_2)
  have Fa_4 := (E1.ext E_2)
  obtain ⟨T_5, h_5, X_5, e_5, W_5, st_5⟩ := putF X_2 hx hZ hown (host := "") (Or.inl (hw _ (List.mem_of_getElem? (i := 40) rfl))) Via.refl e_2 Fa_3 Fa_4 (Or.inl (hw _ (List.mem_of_getElem? (i := 41) rfl))) (hw _ (List.mem_of_getElem? (i := 2) rfl)) (ty := (.array (.array .int))) (by decide) rfl rfl (g := (mkF m 130 #[rv a1, iv 1, iv c_, rv ac, iv i, .unset] [(.ref b_2), (.ref a1)])) rfl rfl (hb hby d4_130)
  refine own_st st_5 ?_
  have N_5 := Fr.snoc X_5 NF g1
  show own_Go _ _ _ _ (T_5.setTop (mkF m 133 #[rv a1, iv 1, iv c_, rv ac, iv i, .unset] []))
  refine o_aloadN X_5 hx (hb hby d4_133) rfl rfl ?_
  refine o_aloadN X_5 hx (hb hby d4_134) rfl rfl ?_
  have Fa_6 := ((Fn.ext E_2).other W_5 (Or.inr (slot_ne (Or.inl (hw _ (List.mem_of_getElem? (i := 37) rfl))) (Or.inl (hw _ (List.mem_of_getElem? (i := 41) rfl))) (by decide) (t := .int) (t' := (.array (.array .int))) (by decide) (by decide))))
  obtain ⟨T_7, X_7, e_7, st_7⟩ := getF X_5 hx hZ hown (host := "") (Or.inl (hw _ (List.mem_of_getElem? (i := 36) rfl))) Via.refl e_5 Fa_6 (g := (mkF m 135 #[rv a1, iv 1, iv c_, rv ac, iv i, .unset] [(.ref a1), (.ref a1)])) rfl rfl (hb hby d4_135)
  refine own_st st_7 ?_
  show own_Go _ _ _ _ (T_7.setTop (mkF m 138 #[rv a1, iv 1, iv c_, rv ac, iv i, .unset] [(.int 2), (.ref a1)]))
  have Zs_8 : n0 ≤ h_5.size := (Nat.le_trans (Nat.le_trans Zh E_2.1) (Keep.of_wr W_5).1)
  have Kp_9 : Keep h0 h_5 [a1, ao, asx, am] := ((Kh.ext E_2).wr W_5 (Or.inl (List.mem_of_getElem? (i := 0) rfl)))
  obtain ⟨T_10, h_10, k_10, X_10, e_10, E_10, A_10, st_10⟩ := newP X_7 hx hZ (hw _ (List.mem_of_getElem? (i := 42) rfl)) e_7 (g := (mkF m 138 #[rv a1, iv 1, iv c_, rv ac, iv i, .unset] [(.int 2), (.ref a1)])) rfl (hb hby d4_138) rfl (by decide) (cap := 2) (by decide) (by decide) (by decide) (by decide)
  obtain ⟨b_10, g_10⟩ : ∃ z, z = h_5.size := ⟨_, rfl⟩
  rw [← g_10] at A_10 st_10
  have V_10 : Arv Z h_10 b_10 k_10 .boolean (2 : Int32) [(.int (0 : Int32)), (.int (0 : Int32))] (.int (0 : Int32)) := (Arv.new A_10 (by decide)).pad (pad_rep [] (.int (0 : Int32)) 2)
  have gg_10 : n0 ≤ b_10 := Nat.le_trans Zs_8 (Nat.le_of_eq g_10.symm)
  have sz_10 : h0.size ≤ b_10 := Nat.le_trans Kp_9.1 (Nat.le_of_eq g_10.symm)
  refine own_st st_10 ?_
  show own_Go _ _ _ _ (T_10.setTop (mkF m 140 #[rv a1, iv 1, iv c_, rv ac, iv i, .unset] [(.ref b_10), (.ref a1)]))
  have Fa_11 := (((Fb.ext E_2).other W_5 (Or.inr (slot_ne (Or.inl (hw _ (List.mem_of_getElem? (i := 44) rfl))) (Or.inl (hw _ (List.mem_of_getElem? (i := 41) rfl))) (by decide) (t := (.array .boolean)) (t' := (.array (.array .int))) (by decide) (by decide)))).ext E_10)
  have Fa_12 := ((Fa_4.wr W_5).ext E_10)
  obtain ⟨T_13, h_13, X_13, e_13, W_13, st_13⟩ := putF X_10 hx hZ hown (host := "") (Or.inl (hw _ (List.mem_of_getElem? (i := 43) rfl))) Via.refl e_10 Fa_11 Fa_12 (Or.inl (hw _ (List.mem_of_getElem? (i := 44) rfl))) (hw _ (List.mem_of_getElem? (i := 2) rfl)) (ty := (.array .boolean)) (by decide) rfl rfl (g := (mkF m 140 #[rv a1, iv 1, iv c_, rv ac, iv i, .unset] [(.ref b_10), (.ref a1)])) rfl rfl (hb hby d4_140)
  refine own_st st_13 ?_
  have N_13 := Fr.snoc X_13 N_5 g1
  show own_Go _ _ _ _ (T_13.setTop (mkF m 143 #[rv a1, iv 1, iv c_, rv ac, iv i, .unset] []))
  refine o_iconst X_13 hx 0 (hb hby d4_143) rfl ?_
  refine o_istore X_13 hx (hb hby d4_144) (l' := #[rv a1, iv 1, iv c_, rv ac, iv 0, .unset]) rfl ?_
  refine o_iload X_13 hx (hb hby d4_146) rfl ?_
  refine o_aloadN X_13 hx (hb hby d4_148) rfl rfl ?_
  have Fa_14 := ((Fa_6.ext E_10).other W_13 (Or.inr (slot_ne (Or.inl (hw _ (List.mem_of_getElem? (i := 37) rfl))) (Or.inl (hw _ (List.mem_of_getElem? (i := 44) rfl))) (by decide) (t := .int) (t' := (.array .boolean)) (by decide) (by decide))))
  obtain ⟨T_15, X_15, e_15, st_15⟩ := getF X_13 hx hZ hown (host := "") (Or.inl (hw _ (List.mem_of_getElem? (i := 36) rfl))) Via.refl e_13 Fa_14 (g := (mkF m 149 #[rv a1, iv 1, iv c_, rv ac, iv 0, .unset] [(.ref a1), (.int 0)])) rfl rfl (hb hby d4_149)
  refine own_st st_15 ?_
  show own_Go _ _ _ _ (T_15.setTop (mkF m 152 #[rv a1, iv 1, iv c_, rv ac, iv 0, .unset] [(.int 2), (.int 0)]))
  refine o_icmpNo X_15 hx (hb hby d4_152) (tlt (by decide : (0 : Int32) < (2 : Int32))).2.1 ?_
  refine o_aloadN X_15 hx (hb hby d4_155) rfl rfl ?_
  have Fa_16 := (((Fa_3.same W_5).ext E_10).other W_13 (Or.inr (slot_ne (Or.inl (hw _ (List.mem_of_getElem? (i := 41) rfl))) (Or.inl (hw _ (List.mem_of_getElem? (i := 44) rfl))) (by decide) (t := (.array (.array .int))) (t' := (.array .boolean)) (by decide) (by decide))))
  obtain ⟨T_17, X_17, e_17, st_17⟩ := getF X_15 hx hZ hown (host := "") (Or.inl (hw _ (List.mem_of_getElem? (i := 40) rfl))) Via.refl e_15 Fa_16 (g := (mkF m 156 #[rv a1, iv 1, iv c_, rv ac, iv 0, .unset] [(.ref a1)])) rfl rfl (hb hby d4_156)
  refine own_st st_17 ?_
  show own_Go _ _ _ _ (T_17.setTop (mkF m 159 #[rv a1, iv 1, iv c_, rv ac, iv 0, .unset] [(.ref b_2)]))
  refine o_iload X_17 hx (hb hby d4_159) rfl ?_
  refine o_aloadN X_17 hx (hb hby d4_161) rfl rfl ?_
  refine o_iload X_17 hx (hb hby d4_162) rfl ?_
  have Fa_18 := ((((Vc.ext E_2).other W_5 (Ne.symm n_a1_ac)).ext E_10).other W_13 (Ne.symm n_a1_ac))
  obtain ⟨cl_19, Ar_19, qk_19, Sz_19, Ng_19, Hs_19, Gs_19⟩ := id Fa_18
  refine own_st (X_17.iaload hx (j := (0 : Int32)) (v := (.int x0)) (by rw [e_17]; exact Ar_19.1) (State.isArrayOf_alike hZ.alike Ar_19.2.1) Ar_19.2.2 (inb_of Sz_19 ⟨by decide, by decide⟩) (Hs_19.at (j := (0 : Int32)) (inb_of Sz_19 ⟨by decide, by decide⟩) rfl) (g := (mkF m 164 #[rv a1, iv 1, iv c_, rv ac, iv 0, .unset] [(.int 0), (.ref ac), (.int 0), (.ref b_2)])) rfl rfl (hb hby d4_164)) ?_
  show own_Go _ _ _ _ (T_17.setTop (mkF m 165 #[rv a1, iv 1, iv c_, rv ac, iv 0, .unset] [(.int x0), (.int 0), (.ref b_2)]))
  have Zs_20 : n0 ≤ h_13.size := (Nat.le_trans (Nat.le_trans Zs_8 E_10.1) (Keep.of_wr W_13).1)
  have Kp_21 : Keep h0 h_13 [a1, ao, asx, am] := ((Kp_9.ext E_10).wr W_13 (Or.inl (List.mem_of_getElem? (i := 0) rfl)))
  obtain ⟨T_22, h_22, k_22, X_22, e_22, E_22, A_22, Ex_22, st_22⟩ := newPE X_17 hx hZ (hw _ (List.mem_of_getElem? (i := 14) rfl)) e_17 (g := (mkF m 165 #[rv a1, iv 1, iv c_, rv ac, iv 0, .unset] [(.int x0), (.int 0), (.ref b_2)])) rfl (hb hby d4_165) rfl (own_clnn hx0) (cap := 64) (own_clcap hx0) (by decide) (by decide) (by decide) (ad := "[I") (by decide +kernel)
  obtain ⟨b_22, g_22⟩ : ∃ z, z = h_13.size := ⟨_, rfl⟩
  rw [← g_22] at A_22 Ex_22 st_22
  have V_22 : Arv Z h_22 b_22 k_22 .int x0 (own_LI (fun _ => (0 : Int32)) x0) (.int (0 : Int32)) := (Arv.new A_22 (own_clnn hx0)).pad (own_LI_pad x0)
  have gg_22 : n0 ≤ b_22 := Nat.le_trans Zs_20 (Nat.le_of_eq g_22.symm)
  have sz_22 : h0.size ≤ b_22 := Nat.le_trans Kp_21.1 (Nat.le_of_eq g_22.symm)
  refine own_st st_22 ?_
  show own_Go _ _ _ _ (T_22.setTop (mkF m 167 #[rv a1, iv 1, iv c_, rv ac, iv 0, .unset] [(.ref b_22), (.int 0), (.ref b_2)]))
  have Fa_23 := ((((V_2.other W_5 (Ne.symm (Nat.ne_of_lt (Nat.lt_of_lt_of_le Fp.lt (Nat.le_of_eq g_2.symm))))).ext E_10).other W_13 (Ne.symm (Nat.ne_of_lt (Nat.lt_of_lt_of_le Fp.lt (Nat.le_of_eq g_2.symm))))).ext E_22)
  obtain ⟨cl_24, Ar_24, qk_24, Sz_24, Ng_24, Hs_24, Gs_24⟩ := id Fa_23
  obtain ⟨T_25, h_25, X_25, e_25, W_25, st_25⟩ := stR X_22 hx hZ e_22 Ar_24 (j := (0 : Int32)) (inb_of Sz_24 ⟨by decide, by decide⟩) rfl (Sto.ofVA Ar_24 qk_24 O_2 (Ins.self Ex_22)) (g := (mkF m 167 #[rv a1, iv 1, iv c_, rv ac, iv 0, .unset] [(.ref b_22), (.int 0), (.ref b_2)])) rfl rfl (hb hby d4_167)
  refine own_st st_25 ?_
  have V_25 : Arv Z h_25 b_2 k_2 (.array .int) (2 : Int32) [(.ref b_22), .null] .null := Arv.set Ar_24 qk_24 Sz_24 Ng_24 Hs_24 Gs_24 rfl W_25 0 rfl (Nat.le_of_ble_eq_true rfl)
  have N_25 := Fr.snoc X_25 N_13 gg_2
  show own_Go _ _ _ _ (T_25.setTop (mkF m 168 #[rv a1, iv 1, iv c_, rv ac, iv 0, .unset] []))
  refine o_aloadN X_25 hx (hb hby d4_168) rfl rfl ?_
  have Fa_26 := (((Fa_11.same W_13).ext E_22).other W_25 (Or.inl (Nat.ne_of_lt (Nat.lt_of_lt_of_le Fp.lt (Nat.le_of_eq g_2.symm)))))
  obtain ⟨T_27, X_27, e_27, st_27⟩ := getF X_25 hx hZ hown (host := "") (Or.inl (hw _ (List.mem_of_getElem? (i := 43) rfl))) Via.refl e_25 Fa_26 (g := (mkF m 169 #[rv a1, iv 1, iv c_, rv ac, iv 0, .unset] [(.ref a1)])) rfl rfl (hb hby d4_169)
  refine own_st st_27 ?_
  show own_Go _ _ _ _ (T_27.setTop (mkF m 172 #[rv a1, iv 1, iv c_, rv ac, iv 0, .unset] [(.ref b_10)]))
  refine o_iload X_27 hx (hb hby d4_172) rfl ?_
  refine o_iconst X_27 hx 1 (hb hby d4_174) rfl ?_
  have Fa_28 := (((V_10.other W_13 (Ne.symm (Nat.ne_of_lt (Nat.lt_of_lt_of_le Fa_6.lt (Nat.le_of_eq g_10.symm))))).ext E_22).other W_25 (Ne.symm (Nat.ne_of_lt (Nat.lt_of_lt_of_le (V_2.other W_5 (Ne.symm (Nat.ne_of_lt (Nat.lt_of_lt_of_le Fp.lt (Nat.le_of_eq g_2.symm))))).lt (Nat.le_of_eq g_10.symm)))))
  obtain ⟨cl_29, Ar_29, qk_29, Sz_29, Ng_29, Hs_29, Gs_29⟩ := id Fa_28
  obtain ⟨T_30, h_30, X_30, e_30, W_30, st_30⟩ := stZ X_27 hx hZ e_27 Ar_29 (j := (0 : Int32)) (inb_of Sz_29 ⟨by decide, by decide⟩) (g := (mkF m 175 #[rv a1, iv 1, iv c_, rv ac, iv 0, .unset] [(.int 1), (.int 0), (.ref b_10)])) rfl rfl (hb hby d4_175)
  refine own_st st_30 ?_
  have V_30 : Arv Z h_30 b_10 k_10 .boolean (2 : Int32) [(.int (1 : Int32)), (.int (0 : Int32))] (.int (0 : Int32)) := Arv.set Ar_29 qk_29 Sz_29 Ng_29 Hs_29 Gs_29 (by decide) W_30 0 rfl (Nat.le_of_ble_eq_true rfl)
  have N_30 := Fr.snoc X_30 N_25 gg_10
  show own_Go _ _ _ _ (T_30.setTop (mkF m 176 #[rv a1, iv 1, iv c_, rv ac, iv 0, .unset] []))
  refine o_iinc X_30 hx (hb hby d4_176) rfl (l' := #[rv a1, iv 1, iv c_, rv ac, iv 1, .unset]) rfl ?_
  refine o_goto X_30 hx (pc' := 146) (hb hby d4_179) (by decide) (by decide) ?_
  refine o_iload X_30 hx (hb hby d4_146) rfl ?_
  refine o_aloadN X_30 hx (hb hby d4_148) rfl rfl ?_
  have Fa_31 := (((Fa_14.ext E_22).other W_25 (Or.inl (Nat.ne_of_lt (Nat.lt_of_lt_of_le Fp.lt (Nat.le_of_eq g_2.symm))))).other W_30 (Or.inl (Nat.ne_of_lt (Nat.lt_of_lt_of_le Fa_6.lt (Nat.le_of_eq g_10.symm)))))
  obtain ⟨T_32, X_32, e_32, st_32⟩ := getF X_30 hx hZ hown (host := "") (Or.inl (hw _ (List.mem_of_getElem? (i := 36) rfl))) Via.refl e_30 Fa_31 (g := (mkF m 149 #[rv a1, iv 1, iv c_, rv ac, iv 1, .unset] [(.ref a1), (.int 1)])) rfl rfl (hb hby d4_149)
  refine own_st st_32 ?_
  show own_Go _ _ _ _ (T_32.setTop (mkF m 152 #[rv a1, iv 1, iv c_, rv ac, iv 1, .unset] [(.int 2), (.int 1)]))
  refine o_icmpNo X_32 hx (hb hby d4_152) (tlt (by decide : (1 : Int32) < (2 : Int32))).2.1 ?_
  refine o_aloadN X_32 hx (hb hby d4_155) rfl rfl ?_
  have Fa_33 := (((Fa_16.ext E_22).other W_25 (Or.inl (Nat.ne_of_lt (Nat.lt_of_lt_of_le Fp.lt (Nat.le_of_eq g_2.symm))))).other W_30 (Or.inl (Nat.ne_of_lt (Nat.lt_of_lt_of_le Fa_6.lt (Nat.le_of_eq g_10.symm)))))
  obtain ⟨T_34, X_34, e_34, st_34⟩ := getF X_32 hx hZ hown (host := "") (Or.inl (hw _ (List.mem_of_getElem? (i := 40) rfl))) Via.refl e_32 Fa_33 (g := (mkF m 156 #[rv a1, iv 1, iv c_, rv ac, iv 1, .unset] [(.ref a1)])) rfl rfl (hb hby d4_156)
  refine own_st st_34 ?_
  show own_Go _ _ _ _ (T_34.setTop (mkF m 159 #[rv a1, iv 1, iv c_, rv ac, iv 1, .unset] [(.ref b_2)]))
  refine o_iload X_34 hx (hb hby d4_159) rfl ?_
  refine o_aloadN X_34 hx (hb hby d4_161) rfl rfl ?_
  refine o_iload X_34 hx (hb hby d4_162) rfl ?_
  have Fa_35 := (((Fa_18.ext E_22).other W_25 (Nat.ne_of_lt (Nat.lt_of_lt_of_le Vc.lt (Nat.le_of_eq g_2.symm)))).other W_30 (Nat.ne_of_lt (Nat.lt_of_lt_of_le ((Vc.ext E_2).other W_5 (Ne.symm n_a1_ac)).lt (Nat.le_of_eq g_10.symm))))
  obtain ⟨cl_36, Ar_36, qk_36, Sz_36, Ng_36, Hs_36, Gs_36⟩ := id Fa_35
  refine own_st (X_34.iaload hx (j := (1 : Int32)) (v := (.int x1)) (by rw [e_34]; exact Ar_36.1) (State.isArrayOf_alike hZ.alike Ar_36.2.1) Ar_36.2.2 (inb_of Sz_36 ⟨by decide, by decide⟩) (Hs_36.at (j := (1 : Int32)) (inb_of Sz_36 ⟨by decide, by decide⟩) rfl) (g := (mkF m 164 #[rv a1, iv 1, iv c_, rv ac, iv 1, .unset] [(.int 1), (.ref ac), (.int 1), (.ref b_2)])) rfl rfl (hb hby d4_164)) ?_
  show own_Go _ _ _ _ (T_34.setTop (mkF m 165 #[rv a1, iv 1, iv c_, rv ac, iv 1, .unset] [(.int x1), (.int 1), (.ref b_2)]))
  have Zs_37 : n0 ≤ h_30.size := (Nat.le_trans (Nat.le_trans (Nat.le_trans Zs_20 E_22.1) (Keep.of_wr W_25).1) (Keep.of_wr W_30).1)
  have Kp_38 : Keep h0 h_30 [a1, ao, asx, am] := (((Kp_21.ext E_22).wr W_25 (Or.inr sz_2)).wr W_30 (Or.inr sz_10))
  obtain ⟨T_39, h_39, k_39, X_39, e_39, E_39, A_39, Ex_39, st_39⟩ := newPE X_34 hx hZ (hw _ (List.mem_of_getElem? (i := 14) rfl)) e_34 (g := (mkF m 165 #[rv a1, iv 1, iv c_, rv ac, iv 1, .unset] [(.int x1), (.int 1), (.ref b_2)])) rfl (hb hby d4_165) rfl (own_clnn hx1) (cap := 64) (own_clcap hx1) (by decide) (by decide) (by decide) (ad := "[I") (by decide +kernel)
  obtain ⟨b_39, g_39⟩ : ∃ z, z = h_30.size := ⟨_, rfl⟩
  rw [← g_39] at A_39 Ex_39 st_39
  have V_39 : Arv Z h_39 b_39 k_39 .int x1 (own_LI (fun _ => (0 : Int32)) x1) (.int (0 : Int32)) := (Arv.new A_39 (own_clnn hx1)).pad (own_LI_pad x1)
  have gg_39 : n0 ≤ b_39 := Nat.le_trans Zs_37 (Nat.le_of_eq g_39.symm)
  have sz_39 : h0.size ≤ b_39 := Nat.le_trans Kp_38.1 (Nat.le_of_eq g_39.symm)
  refine own_st st_39 ?_
  show own_Go _ _ _ _ (T_39.setTop (mkF m 167 #[rv a1, iv 1, iv c_, rv ac, iv 1, .unset] [(.ref b_39), (.int 1), (.ref b_2)]))
  have Fa_40 := ((V_25.other W_30 (Nat.ne_of_lt (Nat.lt_of_lt_of_le (V_2.other W_5 (Ne.symm (Nat.ne_of_lt (Nat.lt_of_lt_of_le Fp.lt (Nat.le_of_eq g_2.symm))))).lt (Nat.le_of_eq g_10.symm)))).ext E_39)
  obtain ⟨cl_41, Ar_41, qk_41, Sz_41, Ng_41, Hs_41, Gs_41⟩ := id Fa_40
  obtain ⟨T_42, h_42, X_42, e_42, W_42, st_42⟩ := stR X_39 hx hZ e_39 Ar_41 (j := (1 : Int32)) (inb_of Sz_41 ⟨by decide, by decide⟩) rfl (Sto.ofVA Ar_41 qk_41 O_2 (Ins.self Ex_39)) (g := (mkF m 167 #[rv a1, iv 1, iv c_, rv ac, iv 1, .unset] [(.ref b_39), (.int 1), (.ref b_2)])) rfl rfl (hb hby d4_167)
  refine own_st st_42 ?_
  have V_42 : Arv Z h_42 b_2 k_2 (.array .int) (2 : Int32) [(.ref b_22), (.ref b_39)] .null := Arv.set Ar_41 qk_41 Sz_41 Ng_41 Hs_41 Gs_41 rfl W_42 1 rfl (Nat.le_of_ble_eq_true rfl)
  have N_42 := Fr.snoc X_42 N_30 gg_2
  show own_Go _ _ _ _ (T_42.setTop (mkF m 168 #[rv a1, iv 1, iv c_, rv ac, iv 1, .unset] []))
  refine o_aloadN X_42 hx (hb hby d4_168) rfl rfl ?_
  have Fa_43 := (((Fa_26.other W_30 (Or.inl (Nat.ne_of_lt (Nat.lt_of_lt_of_le Fa_6.lt (Nat.le_of_eq g_10.symm))))).ext E_39).other W_42 (Or.inl (Nat.ne_of_lt (Nat.lt_of_lt_of_le Fp.lt (Nat.le_of_eq g_2.symm)))))
  obtain ⟨T_44, X_44, e_44, st_44⟩ := getF X_42 hx hZ hown (host := "") (Or.inl (hw _ (List.mem_of_getElem? (i := 43) rfl))) Via.refl e_42 Fa_43 (g := (mkF m 169 #[rv a1, iv 1, iv c_, rv ac, iv 1, .unset] [(.ref a1)])) rfl rfl (hb hby d4_169)
  refine own_st st_44 ?_
  show own_Go _ _ _ _ (T_44.setTop (mkF m 172 #[rv a1, iv 1, iv c_, rv ac, iv 1, .unset] [(.ref b_10)]))
  refine o_iload X_44 hx (hb hby d4_172) rfl ?_
  refine o_iconst X_44 hx 1 (hb hby d4_174) rfl ?_
  have Fa_45 := ((V_30.ext E_39).other W_42 (Ne.symm (Nat.ne_of_lt (Nat.lt_of_lt_of_le (V_2.other W_5 (Ne.symm (Nat.ne_of_lt (Nat.lt_of_lt_of_le Fp.lt (Nat.le_of_eq g_2.symm))))).lt (Nat.le_of_eq g_10.symm)))))
  obtain ⟨cl_46, Ar_46, qk_46, Sz_46, Ng_46, Hs_46, Gs_46⟩ := id Fa_45
  obtain ⟨T_47, h_47, X_47, e_47, W_47, st_47⟩ := stZ X_44 hx hZ e_44 Ar_46 (j := (1 : Int32)) (inb_of Sz_46 ⟨by decide, by decide⟩) (g := (mkF m 175 #[rv a1, iv 1, iv c_, rv ac, iv 1, .unset] [(.int 1), (.int 1), (.ref b_10)])) rfl rfl (hb hby d4_175)
  refine own_st st_47 ?_
  have V_47 : Arv Z h_47 b_10 k_10 .boolean (2 : Int32) [(.int (1 : Int32)), (.int (1 : Int32))] (.int (0 : Int32)) := Arv.set Ar_46 qk_46 Sz_46 Ng_46 Hs_46 Gs_46 (by decide) W_47 1 rfl (Nat.le_of_ble_eq_true rfl)
  have N_47 := Fr.snoc X_47 N_42 gg_10
  show own_Go _ _ _ _ (T_47.setTop (mkF m 176 #[rv a1, iv 1, iv c_, rv ac, iv 1, .unset] []))
  refine o_iinc X_47 hx (hb hby d4_176) rfl (l' := #[rv a1, iv 1, iv c_, rv ac, iv 2, .unset]) rfl ?_
  refine o_goto X_47 hx (pc' := 146) (hb hby d4_179) (by decide) (by decide) ?_
  refine o_iload X_47 hx (hb hby d4_146) rfl ?_
  refine o_aloadN X_47 hx (hb hby d4_148) rfl rfl ?_
  have Fa_48 := (((Fa_31.ext E_39).other W_42 (Or.inl (Nat.ne_of_lt (Nat.lt_of_lt_of_le Fp.lt (Nat.le_of_eq g_2.symm))))).other W_47 (Or.inl (Nat.ne_of_lt (Nat.lt_of_lt_of_le Fa_6.lt (Nat.le_of_eq g_10.symm)))))
  obtain ⟨T_49, X_49, e_49, st_49⟩ := getF X_47 hx hZ hown (host := "") (Or.inl (hw _ (List.mem_of_getElem? (i := 36) rfl))) Via.refl e_47 Fa_48 (g := (mkF m 149 #[rv a1, iv 1, iv c_, rv ac, iv 2, .unset] [(.ref a1), (.int 2)])) rfl rfl (hb hby d4_149)
  refine own_st st_49 ?_
  show own_Go _ _ _ _ (T_49.setTop (mkF m 152 #[rv a1, iv 1, iv c_, rv ac, iv 2, .unset] [(.int 2), (.int 2)]))
  refine o_icmpYes X_49 hx (pc' := 182) (hb hby d4_152) (flt (by decide : ¬ ((2 : Int32) < (2 : Int32)))).2.1 (by decide) (by decide) ?_
  refine o_aloadN X_49 hx (hb hby d4_182) rfl rfl ?_
  obtain ⟨T_50, X_50, e_50, st_50⟩ := getF X_49 hx hZ hown (host := "") (Or.inl (hw _ (List.mem_of_getElem? (i := 36) rfl))) Via.refl e_49 Fa_48 (g := (mkF m 183 #[rv a1, iv 1, iv c_, rv ac, iv 2, .unset] [(.ref a1)])) rfl rfl (hb hby d4_183)
  refine own_st st_50 ?_
  show own_Go _ _ _ _ (T_50.setTop (mkF m 186 #[rv a1, iv 1, iv c_, rv ac, iv 2, .unset] [(.int 2)]))
  have Zs_51 : n0 ≤ h_47.size := (Nat.le_trans (Nat.le_trans (Nat.le_trans Zs_37 E_39.1) (Keep.of_wr W_42).1) (Keep.of_wr W_47).1)
  have Kp_52 : Keep h0 h_47 [a1, ao, asx, am] := (((Kp_38.ext E_39).wr W_42 (Or.inr sz_2)).wr W_47 (Or.inr sz_10))
  obtain ⟨T_53, h_53, k_53, X_53, e_53, E_53, A_53, st_53⟩ := newP X_50 hx hZ (hw _ (List.mem_of_getElem? (i := 14) rfl)) e_50 (g := (mkF m 186 #[rv a1, iv 1, iv c_, rv ac, iv 2, .unset] [(.int 2)])) rfl (hb hby d4_186) rfl (by decide) (cap := 2) (by decide) (by decide) (by decide) (by decide)
  obtain ⟨b_53, g_53⟩ : ∃ z, z = h_47.size := ⟨_, rfl⟩
  rw [← g_53] at A_53 st_53
  have V_53 : Arv Z h_53 b_53 k_53 .int (2 : Int32) [(.int (0 : Int32)), (.int (0 : Int32))] (.int (0 : Int32)) := (Arv.new A_53 (by decide)).pad (pad_rep [] (.int (0 : Int32)) 2)
  have gg_53 : n0 ≤ b_53 := Nat.le_trans Zs_51 (Nat.le_of_eq g_53.symm)
  have sz_53 : h0.size ≤ b_53 := Nat.le_trans Kp_52.1 (Nat.le_of_eq g_53.symm)
  refine own_st st_53 ?_
  show own_Go _ _ _ _ (T_53.setTop (mkF m 188 #[rv a1, iv 1, iv c_, rv ac, iv 2, .unset] [(.ref b_53)]))
  refine o_astore X_53 hx (hb hby d4_188) rfl (l' := #[rv a1, iv 1, iv c_, rv ac, rv b_53, .unset]) rfl ?_
  refine o_iconst X_53 hx 0 (hb hby d4_190) rfl ?_
  refine o_istore X_53 hx (hb hby d4_191) (l' := #[rv a1, iv 1, iv c_, rv ac, rv b_53, iv 0]) rfl ?_
  have Zs_54 : n0 ≤ h_53.size := (Nat.le_trans Zs_51 E_53.1)
  have Kp_55 : Keep h0 h_53 [a1, ao, asx, am] := (Kp_52.ext E_53)
  have Fa_56 := ((((((((Fa_12.wr W_13).ext E_22).wr W_25).wr W_30).ext E_39).wr W_42).wr W_47).ext E_53)
  have Fa_57 := (((((((((((Fp.ext E_2).other W_5 (Or.inr (slot_ne (Or.inr (hw _ (List.mem_of_getElem? (i := 18) rfl))) (Or.inl (hw _ (List.mem_of_getElem? (i := 41) rfl))) (by decide) (t := .int) (t' := (.array (.array .int))) (by decide) (by decide)))).ext E_10).other W_13 (Or.inr (slot_ne (Or.inr (hw _ (List.mem_of_getElem? (i := 18) rfl))) (Or.inl (hw _ (List.mem_of_getElem? (i := 44) rfl))) (by decide) (t := .int) (t' := (.array .boolean)) (by decide) (by decide)))).ext E_22).other W_25 (Or.inl (Nat.ne_of_lt (Nat.lt_of_lt_of_le Fp.lt (Nat.le_of_eq g_2.symm))))).other W_30 (Or.inl (Nat.ne_of_lt (Nat.lt_of_lt_of_le Fa_6.lt (Nat.le_of_eq g_10.symm))))).ext E_39).other W_42 (Or.inl (Nat.ne_of_lt (Nat.lt_of_lt_of_le Fp.lt (Nat.le_of_eq g_2.symm))))).other W_47 (Or.inl (Nat.ne_of_lt (Nat.lt_of_lt_of_le Fa_6.lt (Nat.le_of_eq g_10.symm))))).ext E_53)
  have Fa_58 := (((((((((((Fw.ext E_2).other W_5 (Or.inr (slot_ne (Or.inr (hw _ (List.mem_of_getElem? (i := 20) rfl))) (Or.inl (hw _ (List.mem_of_getElem? (i := 41) rfl))) (by decide) (t := (.array .int)) (t' := (.array (.array .int))) (by decide) (by decide)))).ext E_10).other W_13 (Or.inr (slot_ne (Or.inr (hw _ (List.mem_of_getElem? (i := 20) rfl))) (Or.inl (hw _ (List.mem_of_getElem? (i := 44) rfl))) (by decide) (t := (.array .int)) (t' := (.array .boolean)) (by decide) (by decide)))).ext E_22).other W_25 (Or.inl (Nat.ne_of_lt (Nat.lt_of_lt_of_le Fw.lt (Nat.le_of_eq g_2.symm))))).other W_30 (Or.inl (Nat.ne_of_lt (Nat.lt_of_lt_of_le Fa_6.lt (Nat.le_of_eq g_10.symm))))).ext E_39).other W_42 (Or.inl (Nat.ne_of_lt (Nat.lt_of_lt_of_le Fw.lt (Nat.le_of_eq g_2.symm))))).other W_47 (Or.inl (Nat.ne_of_lt (Nat.lt_of_lt_of_le Fa_6.lt (Nat.le_of_eq g_10.symm))))).ext E_53)
  have Fa_59 := (((((((((((Fo.ext E_2).other W_5 (Or.inr (slot_ne (Or.inr (hw _ (List.mem_of_getElem? (i := 22) rfl))) (Or.inl (hw _ (List.mem_of_getElem? (i := 41) rfl))) (by decide) (t := (.array .int)) (t' := (.array (.array .int))) (by decide) (by decide)))).ext E_10).other W_13 (Or.inr (slot_ne (Or.inr (hw _ (List.mem_of_getElem? (i := 22) rfl))) (Or.inl (hw _ (List.mem_of_getElem? (i := 44) rfl))) (by decide) (t := (.array .int)) (t' := (.array .boolean)) (by decide) (by decide)))).ext E_22).other W_25 (Or.inl (Nat.ne_of_lt (Nat.lt_of_lt_of_le Fo.lt (Nat.le_of_eq g_2.symm))))).other W_30 (Or.inl (Nat.ne_of_lt (Nat.lt_of_lt_of_le Fa_6.lt (Nat.le_of_eq g_10.symm))))).ext E_39).other W_42 (Or.inl (Nat.ne_of_lt (Nat.lt_of_lt_of_le Fo.lt (Nat.le_of_eq g_2.symm))))).other W_47 (Or.inl (Nat.ne_of_lt (Nat.lt_of_lt_of_le Fa_6.lt (Nat.le_of_eq g_10.symm))))).ext E_53)
  have Fa_60 := (((((((((((Fs.ext E_2).other W_5 (Or.inr (slot_ne (Or.inr (hw _ (List.mem_of_getElem? (i := 24) rfl))) (Or.inl (hw _ (List.mem_of_getElem? (i := 41) rfl))) (by decide) (t := (.array .int)) (t' := (.array (.array .int))) (by decide) (by decide)))).ext E_10).other W_13 (Or.inr (slot_ne (Or.inr (hw _ (List.mem_of_getElem? (i := 24) rfl))) (Or.inl (hw _ (List.mem_of_getElem? (i := 44) rfl))) (by decide) (t := (.array .int)) (t' := (.array .boolean)) (by decide) (by decide)))).ext E_22).other W_25 (Or.inl (Nat.ne_of_lt (Nat.lt_of_lt_of_le Fs.lt (Nat.le_of_eq g_2.symm))))).other W_30 (Or.inl (Nat.ne_of_lt (Nat.lt_of_lt_of_le Fa_6.lt (Nat.le_of_eq g_10.symm))))).ext E_39).other W_42 (Or.inl (Nat.ne_of_lt (Nat.lt_of_lt_of_le Fs.lt (Nat.le_of_eq g_2.symm))))).other W_47 (Or.inl (Nat.ne_of_lt (Nat.lt_of_lt_of_le Fa_6.lt (Nat.le_of_eq g_10.symm))))).ext E_53)
  have Fa_61 := (((((((((((Fm.ext E_2).other W_5 (Or.inr (slot_ne (Or.inr (hw _ (List.mem_of_getElem? (i := 27) rfl))) (Or.inl (hw _ (List.mem_of_getElem? (i := 41) rfl))) (by decide) (t := (.array .long)) (t' := (.array (.array .int))) (by decide) (by decide)))).ext E_10).other W_13 (Or.inr (slot_ne (Or.inr (hw _ (List.mem_of_getElem? (i := 27) rfl))) (Or.inl (hw _ (List.mem_of_getElem? (i := 44) rfl))) (by decide) (t := (.array .long)) (t' := (.array .boolean)) (by decide) (by decide)))).ext E_22).other W_25 (Or.inl (Nat.ne_of_lt (Nat.lt_of_lt_of_le Fm.lt (Nat.le_of_eq g_2.symm))))).other W_30 (Or.inl (Nat.ne_of_lt (Nat.lt_of_lt_of_le Fa_6.lt (Nat.le_of_eq g_10.symm))))).ext E_39).other W_42 (Or.inl (Nat.ne_of_lt (Nat.lt_of_lt_of_le Fm.lt (Nat.le_of_eq g_2.symm))))).other W_47 (Or.inl (Nat.ne_of_lt (Nat.lt_of_lt_of_le Fa_6.lt (Nat.le_of_eq g_10.symm))))).ext E_53)
  have Fa_62 := (Fa_48.ext E_53)
  have Fa_63 := ((((Fa_33.ext E_39).other W_42 (Or.inl (Nat.ne_of_lt (Nat.lt_of_lt_of_le Fc.lt (Nat.le_of_eq g_2.symm))))).other W_47 (Or.inl (Nat.ne_of_lt (Nat.lt_of_lt_of_le Fa_6.lt (Nat.le_of_eq g_10.symm))))).ext E_53)
  have Fa_64 := ((Fa_43.other W_47 (Or.inl (Nat.ne_of_lt (Nat.lt_of_lt_of_le Fa_6.lt (Nat.le_of_eq g_10.symm))))).ext E_53)
  have Fa_65 := (((((((((((Fc.ext E_2).other W_5 (Or.inr (slot_ne (Or.inl (hw _ (List.mem_of_getElem? (i := 55) rfl))) (Or.inl (hw _ (List.mem_of_getElem? (i := 41) rfl))) (by decide) (t := .int) (t' := (.array (.array .int))) (by decide) (by decide)))).ext E_10).other W_13 (Or.inr (slot_ne (Or.inl (hw _ (List.mem_of_getElem? (i := 55) rfl))) (Or.inl (hw _ (List.mem_of_getElem? (i := 44) rfl))) (by decide) (t := .int) (t' := (.array .boolean)) (by decide) (by decide)))).ext E_22).other W_25 (Or.inl (Nat.ne_of_lt (Nat.lt_of_lt_of_le Fc.lt (Nat.le_of_eq g_2.symm))))).other W_30 (Or.inl (Nat.ne_of_lt (Nat.lt_of_lt_of_le Fa_6.lt (Nat.le_of_eq g_10.symm))))).ext E_39).other W_42 (Or.inl (Nat.ne_of_lt (Nat.lt_of_lt_of_le Fc.lt (Nat.le_of_eq g_2.symm))))).other W_47 (Or.inl (Nat.ne_of_lt (Nat.lt_of_lt_of_le Fa_6.lt (Nat.le_of_eq g_10.symm))))).ext E_53)
  have Fa_66 := (((((((((((Vw.ext E_2).other W_5 n_aw_a1).ext E_10).other W_13 n_aw_a1).ext E_22).other W_25 (Nat.ne_of_lt (Nat.lt_of_lt_of_le Vw.lt (Nat.le_of_eq g_2.symm)))).other W_30 (Nat.ne_of_lt (Nat.lt_of_lt_of_le ((Vw.ext E_2).other W_5 n_aw_a1).lt (Nat.le_of_eq g_10.symm)))).ext E_39).other W_42 (Nat.ne_of_lt (Nat.lt_of_lt_of_le Vw.lt (Nat.le_of_eq g_2.symm)))).other W_47 (Nat.ne_of_lt (Nat.lt_of_lt_of_le ((Vw.ext E_2).other W_5 n_aw_a1).lt (Nat.le_of_eq g_10.symm)))).ext E_53)
  have Fa_67 := (((((((((((Vo.ext E_2).other W_5 n_ao_a1).ext E_10).other W_13 n_ao_a1).ext E_22).other W_25 (Nat.ne_of_lt (Nat.lt_of_lt_of_le Vo.lt (Nat.le_of_eq g_2.symm)))).other W_30 (Nat.ne_of_lt (Nat.lt_of_lt_of_le ((Vo.ext E_2).other W_5 n_ao_a1).lt (Nat.le_of_eq g_10.symm)))).ext E_39).other W_42 (Nat.ne_of_lt (Nat.lt_of_lt_of_le Vo.lt (Nat.le_of_eq g_2.symm)))).other W_47 (Nat.ne_of_lt (Nat.lt_of_lt_of_le ((Vo.ext E_2).other W_5 n_ao_a1).lt (Nat.le_of_eq g_10.symm)))).ext E_53)
  have Fa_68 := (((((((((((Vs.ext E_2).other W_5 n_asx_a1).ext E_10).other W_13 n_asx_a1).ext E_22).other W_25 (Nat.ne_of_lt (Nat.lt_of_lt_of_le Vs.lt (Nat.le_of_eq g_2.symm)))).other W_30 (Nat.ne_of_lt (Nat.lt_of_lt_of_le ((Vs.ext E_2).other W_5 n_asx_a1).lt (Nat.le_of_eq g_10.symm)))).ext E_39).other W_42 (Nat.ne_of_lt (Nat.lt_of_lt_of_le Vs.lt (Nat.le_of_eq g_2.symm)))).other W_47 (Nat.ne_of_lt (Nat.lt_of_lt_of_le ((Vs.ext E_2).other W_5 n_asx_a1).lt (Nat.le_of_eq g_10.symm)))).ext E_53)
  have Fa_69 := (((((((((((Vm.ext E_2).other W_5 n_am_a1).ext E_10).other W_13 n_am_a1).ext E_22).other W_25 (Nat.ne_of_lt (Nat.lt_of_lt_of_le Vm.lt (Nat.le_of_eq g_2.symm)))).other W_30 (Nat.ne_of_lt (Nat.lt_of_lt_of_le ((Vm.ext E_2).other W_5 n_am_a1).lt (Nat.le_of_eq g_10.symm)))).ext E_39).other W_42 (Nat.ne_of_lt (Nat.lt_of_lt_of_le Vm.lt (Nat.le_of_eq g_2.symm)))).other W_47 (Nat.ne_of_lt (Nat.lt_of_lt_of_le ((Vm.ext E_2).other W_5 n_am_a1).lt (Nat.le_of_eq g_10.symm)))).ext E_53)
  have Fa_70 := ((V_42.other W_47 (Nat.ne_of_lt (Nat.lt_of_lt_of_le (V_2.other W_5 (Ne.symm (Nat.ne_of_lt (Nat.lt_of_lt_of_le Fq.lt (Nat.le_of_eq g_2.symm))))).lt (Nat.le_of_eq g_10.symm)))).ext E_53)
  have Fa_71 := (V_47.ext E_53)
  have Fa_72 := ((((((V_22.other W_25 (Ne.symm (Nat.ne_of_lt (Nat.lt_of_lt_of_le (((V_2.other W_5 (Ne.symm (Nat.ne_of_lt (Nat.lt_of_lt_of_le Fq.lt (Nat.le_of_eq g_2.symm))))).ext E_10).other W_13 (Ne.symm (Nat.ne_of_lt (Nat.lt_of_lt_of_le Fq.lt (Nat.le_of_eq g_2.symm))))).lt (Nat.le_of_eq g_22.symm))))).other W_30 (Ne.symm (Nat.ne_of_lt (Nat.lt_of_lt_of_le (V_10.other W_13 (Ne.symm (Nat.ne_of_lt (Nat.lt_of_lt_of_le Fa_6.lt (Nat.le_of_eq g_10.symm))))).lt (Nat.le_of_eq g_22.symm))))).ext E_39).other W_42 (Ne.symm (Nat.ne_of_lt (Nat.lt_of_lt_of_le (((V_2.other W_5 (Ne.symm (Nat.ne_of_lt (Nat.lt_of_lt_of_le Fq.lt (Nat.le_of_eq g_2.symm))))).ext E_10).other W_13 (Ne.symm (Nat.ne_of_lt (Nat.lt_of_lt_of_le Fq.lt (Nat.le_of_eq g_2.symm))))).lt (Nat.le_of_eq g_22.symm))))).other W_47 (Ne.symm (Nat.ne_of_lt (Nat.lt_of_lt_of_le (V_10.other W_13 (Ne.symm (Nat.ne_of_lt (Nat.lt_of_lt_of_le Fa_6.lt (Nat.le_of_eq g_10.symm))))).lt (Nat.le_of_eq g_22.symm))))).ext E_53)
  have Fa_73 := (((V_39.other W_42 (Ne.symm (Nat.ne_of_lt (Nat.lt_of_lt_of_le (V_25.other W_30 (Nat.ne_of_lt (Nat.lt_of_lt_of_le (V_2.other W_5 (Ne.symm (Nat.ne_of_lt (Nat.lt_of_lt_of_le Fq.lt (Nat.le_of_eq g_2.symm))))).lt (Nat.le_of_eq g_10.symm)))).lt (Nat.le_of_eq g_39.symm))))).other W_47 (Ne.symm (Nat.ne_of_lt (Nat.lt_of_lt_of_le V_30.lt (Nat.le_of_eq g_39.symm))))).ext E_53)
  exact own_lay4_2 a1 aw ao asx am kw ko ks km N fo0 fs0 fm0 n_aw_a1 n_ao_a1 n_asx_a1 n_am_a1 n_ao_aw n_asx_aw n_am_aw n_asx_ao n_am_ao n_am_asx hN1 hN2 hx hZ hw hby hml hown hret hlk (N.toNatClampNeg + 1) T_53 _ h_53 (0 : Int32) c_ ac b_53 b_2 b_10 b_22 b_39 k_53 k_2 k_10 k_22 k_39 (fun _ => (0 : Int32)) (fun _ => (0 : Int32)) x0 x1 (0 : Int32) (0 : Int32) go gs gm X_53 e_53 N_47 Zs_54 Kp_55 Fa_56 g1 Fa_57 Fa_58 Fa_59 Fa_60 Fa_61 Fa_62 Fa_63 Fa_64 Fa_65 Fa_66 Fa_67 Fa_68 Fa_69 go_ gs_ gm_ V_53 Fa_70 Fa_71 Fa_72 Fa_73 gg_53 sz_53 gg_10 sz_10 gg_22 sz_22 gg_39 sz_39 (Nat.ne_of_lt (Nat.lt_of_lt_of_le Fa_48.lt (Nat.le_of_eq g_53.symm))) (Nat.ne_of_lt (Nat.lt_of_lt_of_le ((((((((((Vw.ext E_2).other W_5 n_aw_a1).ext E_10).other W_13 n_aw_a1).ext E_22).other W_25 (Nat.ne_of_lt (Nat.lt_of_lt_of_le Vw.lt (Nat.le_of_eq g_2.symm)))).other W_30 (Nat.ne_of_lt (Nat.lt_of_lt_of_le ((Vw.ext E_2).other W_5 n_aw_a1).lt (Nat.le_of_eq g_10.symm)))).ext E_39).other W_42 (Nat.ne_of_lt (Nat.lt_of_lt_of_le Vw.lt (Nat.le_of_eq g_2.symm)))).other W_47 (Nat.ne_of_lt (Nat.lt_of_lt_of_le ((Vw.ext E_2).other W_5 n_aw_a1).lt (Nat.le_of_eq g_10.symm)))).lt (Nat.le_of_eq g_53.symm))) (Nat.ne_of_lt (Nat.lt_of_lt_of_le ((((((((((Vo.ext E_2).other W_5 n_ao_a1).ext E_10).other W_13 n_ao_a1).ext E_22).other W_25 (Nat.ne_of_lt (Nat.lt_of_lt_of_le Vo.lt (Nat.le_of_eq g_2.symm)))).other W_30 (Nat.ne_of_lt (Nat.lt_of_lt_of_le ((Vo.ext E_2).other W_5 n_ao_a1).lt (Nat.le_of_eq g_10.symm)))).ext E_39).other W_42 (Nat.ne_of_lt (Nat.lt_of_lt_of_le Vo.lt (Nat.le_of_eq g_2.symm)))).other W_47 (Nat.ne_of_lt (Nat.lt_of_lt_of_le ((Vo.ext E_2).other W_5 n_ao_a1).lt (Nat.le_of_eq g_10.symm)))).lt (Nat.le_of_eq g_53.symm))) (Nat.ne_of_lt (Nat.lt_of_lt_of_le ((((((((((Vs.ext E_2).other W_5 n_asx_a1).ext E_10).other W_13 n_asx_a1).ext E_22).other W_25 (Nat.ne_of_lt (Nat.lt_of_lt_of_le Vs.lt (Nat.le_of_eq g_2.symm)))).other W_30 (Nat.ne_of_lt (Nat.lt_of_lt_of_le ((Vs.ext E_2).other W_5 n_asx_a1).lt (Nat.le_of_eq g_10.symm)))).ext E_39).other W_42 (Nat.ne_of_lt (Nat.lt_of_lt_of_le Vs.lt (Nat.le_of_eq g_2.symm)))).other W_47 (Nat.ne_of_lt (Nat.lt_of_lt_of_le ((Vs.ext E_2).other W_5 n_asx_a1).lt (Nat.le_of_eq g_10.symm)))).lt (Nat.le_of_eq g_53.symm))) (Nat.ne_of_lt (Nat.lt_of_lt_of_le ((((((((((Vm.ext E_2).other W_5 n_am_a1).ext E_10).other W_13 n_am_a1).ext E_22).other W_25 (Nat.ne_of_lt (Nat.lt_of_lt_of_le Vm.lt (Nat.le_of_eq g_2.symm)))).other W_30 (Nat.ne_of_lt (Nat.lt_of_lt_of_le ((Vm.ext E_2).other W_5 n_am_a1).lt (Nat.le_of_eq g_10.symm)))).ext E_39).other W_42 (Nat.ne_of_lt (Nat.lt_of_lt_of_le Vm.lt (Nat.le_of_eq g_2.symm)))).other W_47 (Nat.ne_of_lt (Nat.lt_of_lt_of_le ((Vm.ext E_2).other W_5 n_am_a1).lt (Nat.le_of_eq g_10.symm)))).lt (Nat.le_of_eq g_53.symm))) (Nat.ne_of_lt (Nat.lt_of_lt_of_le (V_42.other W_47 (Nat.ne_of_lt (Nat.lt_of_lt_of_le (V_2.other W_5 (Ne.symm (Nat.ne_of_lt (Nat.lt_of_lt_of_le Fq.lt (Nat.le_of_eq g_2.symm))))).lt (Nat.le_of_eq g_10.symm)))).lt (Nat.le_of_eq g_53.symm))) (Nat.ne_of_lt (Nat.lt_of_lt_of_le V_47.lt (Nat.le_of_eq g_53.symm))) (Nat.ne_of_lt (Nat.lt_of_lt_of_le (((((Ex_22.wr W_25).wr W_30).ext E_39).wr W_42).wr W_47).lt (Nat.le_of_eq g_53.symm))) (Nat.ne_of_lt (Nat.lt_of_lt_of_le ((Ex_39.wr W_42).wr W_47).lt (Nat.le_of_eq g_53.symm))) (Nat.ne_of_lt (Nat.lt_of_lt_of_le Fa_6.lt (Nat.le_of_eq g_10.symm))) (Nat.ne_of_lt (Nat.lt_of_lt_of_le ((Vw.ext E_2).other W_5 n_aw_a1).lt (Nat.le_of_eq g_10.symm))) (Nat.ne_of_lt (Nat.lt_of_lt_of_le ((Vo.ext E_2).other W_5 n_ao_a1).lt (Nat.le_of_eq g_10.symm))) (Nat.ne_of_lt (Nat.lt_of_lt_of_le ((Vs.ext E_2).other W_5 n_asx_a1).lt (Nat.le_of_eq g_10.symm))) (Nat.ne_of_lt (Nat.lt_of_lt_of_le ((Vm.ext E_2).other W_5 n_am_a1).lt (Nat.le_of_eq g_10.symm))) (Nat.ne_of_lt (Nat.lt_of_lt_of_le (V_2.other W_5 (Ne.symm (Nat.ne_of_lt (Nat.lt_of_lt_of_le Fq.lt (Nat.le_of_eq g_2.symm))))).lt (Nat.le_of_eq g_10.symm))) (Ne.symm (Nat.ne_of_lt (Nat.lt_of_lt_of_le (V_10.other W_13 (Ne.symm (Nat.ne_of_lt (Nat.lt_of_lt_of_le Fa_6.lt (Nat.le_of_eq g_10.symm))))).lt (Nat.le_of_eq g_22.symm)))) (Ne.symm (Nat.ne_of_lt (Nat.lt_of_lt_of_le V_30.lt (Nat.le_of_eq g_39.symm)))) (Nat.ne_of_lt (Nat.lt_of_lt_of_le (Fa_11.same W_13).lt (Nat.le_of_eq g_22.symm))) (Nat.ne_of_lt (Nat.lt_of_lt_of_le ((((Vw.ext E_2).other W_5 n_aw_a1).ext E_10).other W_13 n_aw_a1).lt (Nat.le_of_eq g_22.symm))) (Nat.ne_of_lt (Nat.lt_of_lt_of_le ((((Vo.ext E_2).other W_5 n_ao_a1).ext E_10).other W_13 n_ao_a1).lt (Nat.le_of_eq g_22.symm))) (Nat.ne_of_lt (Nat.lt_of_lt_of_le ((((Vs.ext E_2).other W_5 n_asx_a1).ext E_10).other W_13 n_asx_a1).lt (Nat.le_of_eq g_22.symm))) (Nat.ne_of_lt (Nat.lt_of_lt_of_le ((((Vm.ext E_2).other W_5 n_am_a1).ext E_10).other W_13 n_am_a1).lt (Nat.le_of_eq g_22.symm))) (Nat.ne_of_lt (Nat.lt_of_lt_of_le (((V_2.other W_5 (Ne.symm (Nat.ne_of_lt (Nat.lt_of_lt_of_le Fq.lt (Nat.le_of_eq g_2.symm))))).ext E_10).other W_13 (Ne.symm (Nat.ne_of_lt (Nat.lt_of_lt_of_le Fq.lt (Nat.le_of_eq g_2.symm))))).lt (Nat.le_of_eq g_22.symm))) (Ne.symm (Nat.ne_of_lt (Nat.lt_of_lt_of_le ((Ex_22.wr W_25).wr W_30).lt (Nat.le_of_eq g_39.symm)))) (Nat.ne_of_lt (Nat.lt_of_lt_of_le Fa_31.lt (Nat.le_of_eq g_39.symm))) (Nat.ne_of_lt (Nat.lt_of_lt_of_le (((((((Vw.ext E_2).other W_5 n_aw_a1).ext E_10).other W_13 n_aw_a1).ext E_22).other W_25 (Nat.ne_of_lt (Nat.lt_of_lt_of_le Vw.lt (Nat.le_of_eq g_2.symm)))).other W_30 (Nat.ne_of_lt (Nat.lt_of_lt_of_le ((Vw.ext E_2).other W_5 n_aw_a1).lt (Nat.le_of_eq g_10.symm)))).lt (Nat.le_of_eq g_39.symm))) (Nat.ne_of_lt (Nat.lt_of_lt_of_le (((((((Vo.ext E_2).other W_5 n_ao_a1).ext E_10).other W_13 n_ao_a1).ext E_22).other W_25 (Nat.ne_of_lt (Nat.lt_of_lt_of_le Vo.lt (Nat.le_of_eq g_2.symm)))).other W_30 (Nat.ne_of_lt (Nat.lt_of_lt_of_le ((Vo.ext E_2).other W_5 n_ao_a1).lt (Nat.le_of_eq g_10.symm)))).lt (Nat.le_of_eq g_39.symm))) (Nat.ne_of_lt (Nat.lt_of_lt_of_le (((((((Vs.ext E_2).other W_5 n_asx_a1).ext E_10).other W_13 n_asx_a1).ext E_22).other W_25 (Nat.ne_of_lt (Nat.lt_of_lt_of_le Vs.lt (Nat.le_of_eq g_2.symm)))).other W_30 (Nat.ne_of_lt (Nat.lt_of_lt_of_le ((Vs.ext E_2).other W_5 n_asx_a1).lt (Nat.le_of_eq g_10.symm)))).lt (Nat.le_of_eq g_39.symm))) (Nat.ne_of_lt (Nat.lt_of_lt_of_le (((((((Vm.ext E_2).other W_5 n_am_a1).ext E_10).other W_13 n_am_a1).ext E_22).other W_25 (Nat.ne_of_lt (Nat.lt_of_lt_of_le Vm.lt (Nat.le_of_eq g_2.symm)))).other W_30 (Nat.ne_of_lt (Nat.lt_of_lt_of_le ((Vm.ext E_2).other W_5 n_am_a1).lt (Nat.le_of_eq g_10.symm)))).lt (Nat.le_of_eq g_39.symm))) (Nat.ne_of_lt (Nat.lt_of_lt_of_le (V_25.other W_30 (Nat.ne_of_lt (Nat.lt_of_lt_of_le (V_2.other W_5 (Ne.symm (Nat.ne_of_lt (Nat.lt_of_lt_of_le Fq.lt (Nat.le_of_eq g_2.symm))))).lt (Nat.le_of_eq g_10.symm)))).lt (Nat.le_of_eq g_39.symm))) (Ne.symm (Nat.ne_of_lt (Nat.lt_of_lt_of_le Fq.lt (Nat.le_of_eq g_2.symm)))) (by decide) (own_N0 hN1) hgo hgs hgm hnw hx0 hx1 (own_cl0 (by decide)) (own_cl0 (by decide)) (own_ff (own_N0 hN1))
set_option maxRecDepth 65536 in
set_option maxHeartbeats 40000000 in
theorem own_lay2_2 {p : Program} {l : Launch} {e : Env} {s : State} {m : MethodId} {below : List Frame} {meth : Method} {c : Code} {Z : State} {a0 : Array Value} {h0 : Heap} {n0 : Nat} (a1 : Addr) (aw : Addr) (ao : Addr) (asx : Addr) (am : Addr) (kw : ClassId) (ko : ClassId) (ks : ClassId) (km : ClassId) (N : Int32) (fo0 : Nat → Int32) (fs0 : Nat → Int32) (fm0 : Nat → Int64) (n_aw_a1 : aw ≠ a1) (n_ao_a1 : ao ≠ a1) (n_asx_a1 : asx ≠ a1) (n_am_a1 : am ≠ a1) (n_ao_aw : ao ≠ aw) (n_asx_aw : asx ≠ aw) (n_am_aw : am ≠ aw) (n_asx_ao : asx ≠ ao) (n_am_ao : am ≠ ao) (n_am_asx : am ≠ asx) (hN1 : ¬ N < (1 : Int32)) (hN2 : ¬ (256 : Int32) < N)
    (hx : p.tables.exec = Jvm.exec) (hZ : Z.Warmed39 s.vm) (hw : ∀ d ∈ tables_1, d.before a0 Z = true) (hby : c.code = prog_3_method_15_code) (hml : c.maxLocals = 6) (hown : s.vm.findClass "com/example/causyn/causyn/analysis/MarkingStore" = some m.cls) (hret : meth.sig.returnType = none) (hlk : meth.locks = false) :
    ∀ (fuel : Nat) (T : State) (locs : List Loc) (h : Heap) (i : Int32) (c_ : Int32) (ac : Addr) (kc : ClassId) (x0 : Int32) (x1 : Int32) (go : Nat → Int32) (gs : Nat → Int32) (gm : Nat → Int64) (X : Stand p l e ({ frames := 1, cells := 8, slots := 272, locals := 14 } : Room) s m #[(.ref a1)] below meth c T locs 1 2) (eT : T.heap = h) (NF : Fr n0 locs) (Zh : n0 ≤ h.size) (Kh : Keep h0 h [a1, ao, asx, am]) (E1 : Exa Z h a1 "com/example/causyn/causyn/analysis/MarkingStore") (g1 : n0 ≤ a1) (Fp : Fld Z h a1 "com/example/causyn/causyn/analysis/MarkingStore" "places" "I" (.int N)) (Fw : Fld Z h a1 "com/example/causyn/causyn/analysis/MarkingStore" "width" "[I" (.ref aw)) (Fo : Fld Z h a1 "com/example/causyn/causyn/analysis/MarkingStore" "word" "[I" (.ref ao)) (Fs : Fld Z h a1 "com/example/causyn/causyn/analysis/MarkingStore" "shift" "[I" (.ref asx)) (Fm : Fld Z h a1 "com/example/causyn/causyn/analysis/MarkingStore" "mask" "[J" (.ref am)) (Fn : Fld Z h a1 "com/example/causyn/causyn/analysis/MarkingStore" "words" "I" (.int (2 : Int32))) (Fq : Fld Z h a1 "com/example/causyn/causyn/analysis/MarkingStore" "placesInWord" "[[I" .null) (Fb : Fld Z h a1 "com/example/causyn/causyn/analysis/MarkingStore" "bitsOnly" "[Z" .null) (Fc : Fld Z h a1 "com/example/causyn/causyn/analysis/MarkingStore" "chunkBits" "I" (.int (0 : Int32))) (Vw : Arv Z h aw kw .int N (own_LI (fun _ => (1 : Int32)) N) (.int (0 : Int32))) (Vo : Arv Z h ao ko .int N (own_LI go N) (.int (0 : Int32))) (Vs : Arv Z h asx ks .int N (own_LI gs N) (.int (0 : Int32))) (Vm : Arv Z h am km .long N (own_LJ gm N) (.long (0 : Int64))) (go_ : n0 ≤ ao) (gs_ : n0 ≤ asx) (gm_ : n0 ≤ am) (Vc : Arv Z h ac kc .int (2 : Int32) [(.int x0), (.int x1)] (.int (0 : Int32))) (g_ac : n0 ≤ ac) (z_ac : h0.size ≤ ac) (n_a1_ac : a1 ≠ ac) (n_aw_ac : aw ≠ ac) (n_ao_ac : ao ≠ ac) (n_asx_ac : asx ≠ ac) (n_am_ac : am ≠ ac) (hi0 : ¬ i < 0) (hi1 : ¬ N < i) (hgo : ∀ j : Nat, (j : Int) < N.toInt → (go j).toInt = (j : Int) / 64) (hgs : ∀ j : Nat, (j : Int) < N.toInt → (gs j).toInt = (j : Int) % 64) (hgm : ∀ j : Nat, (j : Int) < N.toInt → gm j = (1 : Int64)) (hnw : own_nw N 2) (hx0 : x0.toInt = own_cl i.toInt 0) (hx1 : x1.toInt = own_cl i.toInt 1) (hfu : N.toInt - i.toInt < (fuel : Int)), own_Go p.tables e below (fun o U' => ∃ v L, o = .returned v ∧ Q_rmlay Z a0 a1 aw ao asx am kw ko ks km N fo0 fs0 fm0 h0 n0 v U'.heap L ∧ FrameEnd s o U' L ({ frames := 1, cells := 8, slots := 272, locals := 14 } : Room).cells ({ frames := 1, cells := 8, slots := 272, locals := 14 } : Room).slots) (T.setTop (mkF m 94 #[rv a1, iv 1, iv c_, rv ac, iv i, .unset] [])) := by
  intro fuel
  induction fuel with
  | zero => intro T locs h i c_ ac kc x0 x1 go gs gm X eT NF Zh Kh E1 g1 Fp Fw Fo Fs Fm Fn Fq Fb Fc Vw Vo Vs Vm go_ gs_ gm_ Vc g_ac z_ac n_a1_ac n_aw_ac n_ao_ac n_asx_ac n_am_ac hi0 hi1 hgo hgs hgm hnw hx0 hx1 hfu; exact (own_f0 hi1 hfu).elim
  | succ fuel ih =>
    intro T locs h i c_ ac kc x0 x1 go gs gm X eT NF Zh Kh E1 g1 Fp Fw Fo Fs Fm Fn Fq Fb Fc Vw Vo Vs Vm go_ gs_ gm_ Vc g_ac z_ac n_a1_ac n_aw_ac n_ao_ac n_asx_ac n_am_ac hi0 hi1 hgo hgs hgm hnw hx0 hx1 hfu
    refine o_iload X hx (hb hby d4_94) rfl ?_
    refine o_aloadN X hx (hb hby d4_96) rfl rfl ?_
    obtain ⟨T_1, X_1, e_1, st_1⟩ := getF X hx hZ hown (host := "") (Or.inl (hw _ (List.mem_of_getElem? (i := 17) rfl))) Via.refl eT Fp (g := (mkF m 97 #[rv a1, iv 1, iv c_, rv ac, iv i, .unset] [(.ref a1), (.int i)])) rfl rfl (hb hby d4_97)
    refine own_st st_1 ?_
    show own_Go _ _ _ _ (T_1.setTop (mkF m 100 #[rv a1, iv 1, iv c_, rv ac, iv i, .unset] [(.int N), (.int i)]))
    by_cases hc100__2 : i < N
    · refine o_icmpNo X_1 hx (hb hby d4_100) (tlt hc100__2).2.1 ?_
      refine o_aloadN X_1 hx (hb hby d4_103) rfl rfl ?_
      refine o_aloadN X_1 hx (hb hby d4_104) rfl rfl ?_
      obtain ⟨T_3, X_3, e_3, st_3⟩ := getF X_1 hx hZ hown (host := "") (Or.inl (hw _ (List.mem_of_getElem? (i := 21) rfl))) Via.refl e_1 Fo (g := (mkF m 105 #[rv a1, iv 1, iv c_, rv ac, iv i, .unset] [(.ref a1), (.ref ac)])) rfl rfl (hb hby d4_105)
      refine own_st st_3 ?_
      show own_Go _ _ _ _ (T_3.setTop (mkF m 108 #[rv a1, iv 1, iv c_, rv ac, iv i, .unset] [(.ref ao), (.ref ac)]))
      refine o_iload X_3 hx (hb hby d4_108) rfl ?_
      obtain ⟨cl_4, Ar_4, qk_4, Sz_4, Ng_4, Hs_4, Gs_4⟩ := id Vo
      refine own_st (X_3.iaload hx (j := i) (v := (.int (go i.toNatClampNeg))) (by rw [e_3]; exact Ar_4.1) (State.isArrayOf_alike hZ.alike Ar_4.2.1) Ar_4.2.2 (inb_of Sz_4 ⟨hi0, hc100__2⟩) (Hs_4.at (j := i) (inb_of Sz_4 ⟨hi0, hc100__2⟩) (own_LI_get hi0 hc100__2)) (g := (mkF m 110 #[rv a1, iv 1, iv c_, rv ac, iv i, .unset] [(.int i), (.ref ao), (.ref ac)])) rfl rfl (hb hby d4_110)) ?_
      show own_Go _ _ _ _ (T_3.setTop (mkF m 111 #[rv a1, iv 1, iv c_, rv ac, iv i, .unset] [(.int (go i.toNatClampNeg)), (.ref ac)]))
      have hgi_5 := hgo i.toNatClampNeg (own_jN hi0 hc100__2)
      rcases own_wk2 hi0 hc100__2 hnw hgi_5 with hk_5 | hk_5
      · rw [hk_5]
        show own_Go _ _ _ _ (T_3.setTop (mkF m 111 #[rv a1, iv 1, iv c_, rv ac, iv i, .unset] [(.int 0), (.ref ac)]))
        refine o_dup2 X_3 hx (hb hby d4_111) rfl rfl ?_
        obtain ⟨cl_6, Ar_6, qk_6, Sz_6, Ng_6, Hs_6, Gs_6⟩ := id Vc
        refine own_st (X_3.iaload hx (j := (0 : Int32)) (v := (.int x0)) (by rw [e_3]; exact Ar_6.1) (State.isArrayOf_alike hZ.alike Ar_6.2.1) Ar_6.2.2 (inb_of Sz_6 ⟨by decide, by decide⟩) (Hs_6.at (j := (0 : Int32)) (inb_of Sz_6 ⟨by decide, by decide⟩) rfl) (g := (mkF m 112 #[rv a1, iv 1, iv c_, rv ac, iv i, .unset] [(.int 0), (.ref ac), (.int 0), (.ref ac)])) rfl rfl (hb hby d4_112)) ?_
        show own_Go _ _ _ _ (T_3.setTop (mkF m 113 #[rv a1, iv 1, iv c_, rv ac, iv i, .unset] [(.int x0), (.int 0), (.ref ac)]))
        refine o_iconst X_3 hx 1 (hb hby d4_113) rfl ?_
        refine o_iadd X_3 hx (hb hby d4_114) ?_
        obtain ⟨cl_7, Ar_7, qk_7, Sz_7, Ng_7, Hs_7, Gs_7⟩ := id Vc
        obtain ⟨T_8, h_8, X_8, e_8, W_8, st_8⟩ := stI X_3 hx hZ e_3 Ar_7 (j := (0 : Int32)) (inb_of Sz_7 ⟨by decide, by decide⟩) (g := (mkF m 115 #[rv a1, iv 1, iv c_, rv ac, iv i, .unset] [(.int (x0 + (1 : Int32))), (.int 0), (.ref ac)])) rfl rfl (hb hby d4_115)
        refine own_st st_8 ?_
        have V_8 : Arv Z h_8 ac kc .int (2 : Int32) [(.int (x0 + (1 : Int32))), (.int x1)] (.int (0 : Int32)) := Arv.set Ar_7 qk_7 Sz_7 Ng_7 Hs_7 Gs_7 rfl W_8 0 rfl (Nat.le_of_ble_eq_true rfl)
        have N_8 := Fr.snoc X_8 NF g_ac
        show own_Go _ _ _ _ (T_8.setTop (mkF m 116 #[rv a1, iv 1, iv c_, rv ac, iv i, .unset] []))
        refine o_iinc X_8 hx (hb hby d4_116) rfl (l' := #[rv a1, iv 1, iv c_, rv ac, iv (i + (1 : Int32)), .unset]) rfl ?_
        refine o_goto X_8 hx (pc' := 94) (hb hby d4_119) (by decide) (by decide) ?_
        have Zs_9 : n0 ≤ h_8.size := (Nat.le_trans Zh (Keep.of_wr W_8).1)
        have Kp_10 : Keep h0 h_8 [a1, ao, asx, am] := (Kh.wr W_8 (Or.inr z_ac))
        have Fa_11 := (E1.wr W_8)
        have Fa_12 := (Fp.other W_8 (Or.inl n_a1_ac))
        have Fa_13 := (Fw.other W_8 (Or.inl n_a1_ac))
        have Fa_14 := (Fo.other W_8 (Or.inl n_a1_ac))
        have Fa_15 := (Fs.other W_8 (Or.inl n_a1_ac))
        have Fa_16 := (Fm.other W_8 (Or.inl n_a1_ac))
        have Fa_17 := (Fn.other W_8 (Or.inl n_a1_ac))
        have Fa_18 := (Fq.other W_8 (Or.inl n_a1_ac))
        have Fa_19 := (Fb.other W_8 (Or.inl n_a1_ac))
        have Fa_20 := (Fc.other W_8 (Or.inl n_a1_ac))
        have Fa_21 := (Vw.other W_8 n_aw_ac)
        have Fa_22 := (Vo.other W_8 n_ao_ac)
        have Fa_23 := (Vs.other W_8 n_asx_ac)
        have Fa_24 := (Vm.other W_8 n_am_ac)
        exact ih T_8 _ h_8 (i + (1 : Int32)) c_ ac kc (x0 + (1 : Int32)) x1 go gs gm X_8 e_8 N_8 Zs_9 Kp_10 Fa_11 g1 Fa_12 Fa_13 Fa_14 Fa_15 Fa_16 Fa_17 Fa_18 Fa_19 Fa_20 Fa_21 Fa_22 Fa_23 Fa_24 go_ gs_ gm_ V_8 g_ac z_ac n_a1_ac n_aw_ac n_ao_ac n_asx_ac n_am_ac (own_nx0 hi0 hc100__2) (own_nx1 hi0 hc100__2) hgo hgs hgm hnw (own_clS hi0 hc100__2 hgi_5 (congrArg Int32.toInt hk_5) hx0) (own_clO hi0 hc100__2 hgi_5 (congrArg Int32.toInt hk_5) (by decide) hx1) (own_fS hi0 hc100__2 hfu)
      · rw [hk_5]
        show own_Go _ _ _ _ (T_3.setTop (mkF m 111 #[rv a1, iv 1, iv c_, rv ac, iv i, .unset] [(.int 1), (.ref ac)]))
        refine o_dup2 X_3 hx (hb hby d4_111) rfl rfl ?_
        obtain ⟨cl_25, Ar_25, qk_25, Sz_25, Ng_25, Hs_25, Gs_25⟩ := id Vc
        refine own_st (X_3.iaload hx (j := (1 : Int32)) (v := (.int x1)) (by rw [e_3]; exact Ar_25.1) (State.isArrayOf_alike hZ.alike Ar_25.2.1) Ar_25.2.2 (inb_of Sz_25 ⟨by decide, by decide⟩) (Hs_25.at (j := (1 : Int32)) (inb_of Sz_25 ⟨by decide, by decide⟩) rfl) (g := (mkF m 112 #[rv a1, iv 1, iv c_, rv ac, iv i, .unset] [(.int 1), (.ref ac), (.int 1), (.ref ac)])) rfl rfl (hb hby d4_112)) ?_
        show own_Go _ _ _ _ (T_3.setTop (mkF m 113 #[rv a1, iv 1, iv c_, rv ac, iv i, .unset] [(.int x1), (.int 1), (.ref ac)]))
        refine o_iconst X_3 hx 1 (hb hby d4_113) rfl ?_
        refine o_iadd X_3 hx (hb hby d4_114) ?_
        obtain ⟨cl_26, Ar_26, qk_26, Sz_26, Ng_26, Hs_26, Gs_26⟩ := id Vc
        obtain ⟨T_27, h_27, X_27, e_27, W_27, st_27⟩ := stI X_3 hx hZ e_3 Ar_26 (j := (1 : Int32)) (inb_of Sz_26 ⟨by decide, by decide⟩) (g := (mkF m 115 #[rv a1, iv 1, iv c_, rv ac, iv i, .unset] [(.int (x1 + (1 : Int32))), (.int 1), (.ref ac)])) rfl rfl (hb hby d4_115)
        refine own_st st_27 ?_
        have V_27 : Arv Z h_27 ac kc .int (2 : Int32) [(.int x0), (.int (x1 + (1 : Int32)))] (.int (0 : Int32)) := Arv.set Ar_26 qk_26 Sz_26 Ng_26 Hs_26 Gs_26 rfl W_27 1 rfl (Nat.le_of_ble_eq_true rfl)
        have N_27 := Fr.snoc X_27 NF g_ac
        show own_Go _ _ _ _ (T_27.setTop (mkF m 116 #[rv a1, iv 1, iv c_, rv ac, iv i, .unset] []))
        refine o_iinc X_27 hx (hb hby d4_116) rfl (l' := #[rv a1, iv 1, iv c_, rv ac, iv (i + (1 : Int32)), .unset]) rfl ?_
        refine o_goto X_27 hx (pc' := 94) (hb hby d4_119) (by decide) (by decide) ?_
        have Zs_28 : n0 ≤ h_27.size := (Nat.le_trans Zh (Keep.of_wr W_27).1)
        have Kp_29 : Keep h0 h_27 [a1, ao, asx, am] := (Kh.wr W_27 (Or.inr z_ac))
        have Fa_30 := (E1.wr W_27)
        have Fa_31 := (Fp.other W_27 (Or.inl n_a1_ac))
        have Fa_32 := (Fw.other W_27 (Or.inl n_a1_ac))
        have Fa_33 := (Fo.other W_27 (Or.inl n_a1_ac))
        have Fa_34 := (Fs.other W_27 (Or.inl n_a1_ac))
        have Fa_35 := (Fm.other W_27 (Or.inl n_a1_ac))
        have Fa_36 := (Fn.other W_27 (Or.inl n_a1_ac))
        have Fa_37 := (Fq.other W_27 (Or.inl n_a1_ac))
        have Fa_38 := (Fb.other W_27 (Or.inl n_a1_ac))
        have Fa_39 := (Fc.other W_27 (Or.inl n_a1_ac))
        have Fa_40 := (Vw.other W_27 n_aw_ac)
        have Fa_41 := (Vo.other W_27 n_ao_ac)
        have Fa_42 := (Vs.other W_27 n_asx_ac)
        have Fa_43 := (Vm.other W_27 n_am_ac)
        exact ih T_27 _ h_27 (i + (1 : Int32)) c_ ac kc x0 (x1 + (1 : Int32)) go gs gm X_27 e_27 N_27 Zs_28 Kp_29 Fa_30 g1 Fa_31 Fa_32 Fa_33 Fa_34 Fa_35 Fa_36 Fa_37 Fa_38 Fa_39 Fa_40 Fa_41 Fa_42 Fa_43 go_ gs_ gm_ V_27 g_ac z_ac n_a1_ac n_aw_ac n_ao_ac n_asx_ac n_am_ac (own_nx0 hi0 hc100__2) (own_nx1 hi0 hc100__2) hgo hgs hgm hnw (own_clO hi0 hc100__2 hgi_5 (congrArg Int32.toInt hk_5) (by decide) hx0) (own_clS hi0 hc100__2 hgi_5 (congrArg Int32.toInt hk_5) hx1) (own_fS hi0 hc100__2 hfu)
    · refine o_icmpYes X_1 hx (pc' := 122) (hb hby d4_100) (flt hc100__2).2.1 (by decide) (by decide) ?_
      exact own_lay122_2 a1 aw ao asx am kw ko ks km N fo0 fs0 fm0 n_aw_a1 n_ao_a1 n_asx_a1 n_am_a1 n_ao_aw n_asx_aw n_am_aw n_asx_ao n_am_ao n_am_asx hN1 hN2 hx hZ hw hby hml hown hret hlk T_1 _ h i c_ ac kc x0 x1 go gs gm X_1 e_1 NF Zh Kh E1 g1 Fp Fw Fo Fs Fm Fn Fq Fb Fc Vw Vo Vs Vm go_ gs_ gm_ Vc n_a1_ac n_aw_ac n_ao_ac n_asx_ac n_am_ac hgo hgs hgm hnw (own_clN hi1 hc100__2 hx0) (own_clN hi1 hc100__2 hx1)
set_option maxRecDepth 65536 in
set_option maxHeartbeats 40000000 in
theorem own_lay77_2 {p : Program} {l : Launch} {e : Env} {s : State} {m : MethodId} {below : List Frame} {meth : Method} {c : Code} {Z : State} {a0 : Array Value} {h0 : Heap} {n0 : Nat} (a1 : Addr) (aw : Addr) (ao : Addr) (asx : Addr) (am : Addr) (kw : ClassId) (ko : ClassId) (ks : ClassId) (km : ClassId) (N : Int32) (fo0 : Nat → Int32) (fs0 : Nat → Int32) (fm0 : Nat → Int64) (n_aw_a1 : aw ≠ a1) (n_ao_a1 : ao ≠ a1) (n_asx_a1 : asx ≠ a1) (n_am_a1 : am ≠ a1) (n_ao_aw : ao ≠ aw) (n_asx_aw : asx ≠ aw) (n_am_aw : am ≠ aw) (n_asx_ao : asx ≠ ao) (n_am_ao : am ≠ ao) (n_am_asx : am ≠ asx) (hN1 : ¬ N < (1 : Int32)) (hN2 : ¬ (256 : Int32) < N)
    (hx : p.tables.exec = Jvm.exec) (hZ : Z.Warmed39 s.vm) (hw : ∀ d ∈ tables_1, d.before a0 Z = true) (hby : c.code = prog_3_method_15_code) (hml : c.maxLocals = 6) (hown : s.vm.findClass "com/example/causyn/causyn/analysis/MarkingStore" = some m.cls) (hret : meth.sig.returnType = none) (hlk : meth.locks = false) :
    ∀ (T : State) (locs : List Loc) (h : Heap) (i : Int32) (c_ : Int32) (go : Nat → Int32) (gs : Nat → Int32) (gm : Nat → Int64) (X : Stand p l e ({ frames := 1, cells := 8, slots := 272, locals := 14 } : Room) s m #[(.ref a1)] below meth c T locs 0 0) (eT : T.heap = h) (NF : Fr n0 locs) (Zh : n0 ≤ h.size) (Kh : Keep h0 h [a1, ao, asx, am]) (E1 : Exa Z h a1 "com/example/causyn/causyn/analysis/MarkingStore") (g1 : n0 ≤ a1) (Fp : Fld Z h a1 "com/example/causyn/causyn/analysis/MarkingStore" "places" "I" (.int N)) (Fw : Fld Z h a1 "com/example/causyn/causyn/analysis/MarkingStore" "width" "[I" (.ref aw)) (Fo : Fld Z h a1 "com/example/causyn/causyn/analysis/MarkingStore" "word" "[I" (.ref ao)) (Fs : Fld Z h a1 "com/example/causyn/causyn/analysis/MarkingStore" "shift" "[I" (.ref asx)) (Fm : Fld Z h a1 "com/example/causyn/causyn/analysis/MarkingStore" "mask" "[J" (.ref am)) (Fn : Fld Z h a1 "com/example/causyn/causyn/analysis/MarkingStore" "words" "I" (.int (0 : Int32))) (Fq : Fld Z h a1 "com/example/causyn/causyn/analysis/MarkingStore" "placesInWord" "[[I" .null) (Fb : Fld Z h a1 "com/example/causyn/causyn/analysis/MarkingStore" "bitsOnly" "[Z" .null) (Fc : Fld Z h a1 "com/example/causyn/causyn/analysis/MarkingStore" "chunkBits" "I" (.int (0 : Int32))) (Vw : Arv Z h aw kw .int N (own_LI (fun _ => (1 : Int32)) N) (.int (0 : Int32))) (Vo : Arv Z h ao ko .int N (own_LI go N) (.int (0 : Int32))) (Vs : Arv Z h asx ks .int N (own_LI gs N) (.int (0 : Int32))) (Vm : Arv Z h am km .long N (own_LJ gm N) (.long (0 : Int64))) (go_ : n0 ≤ ao) (gs_ : n0 ≤ asx) (gm_ : n0 ≤ am) (hgo : ∀ j : Nat, (j : Int) < N.toInt → (go j).toInt = (j : Int) / 64) (hgs : ∀ j : Nat, (j : Int) < N.toInt → (gs j).toInt = (j : Int) % 64) (hgm : ∀ j : Nat, (j : Int) < N.toInt → gm j = (1 : Int64)) (hnw : own_nw N 2), own_Go p.tables e below (fun o U' => ∃ v L, o = .returned v ∧ Q_rmlay Z a0 a1 aw ao asx am kw ko ks km N fo0 fs0 fm0 h0 n0 v U'.heap L ∧ FrameEnd s o U' L ({ frames := 1, cells := 8, slots := 272, locals := 14 } : Room).cells ({ frames := 1, cells := 8, slots := 272, locals := 14 } : Room).slots) (T.setTop (mkF m 77 #[rv a1, iv 1, iv c_, iv i, .unset, .unset] [])) := by
  intro T locs h i c_ go gs gm X eT NF Zh Kh E1 g1 Fp Fw Fo Fs Fm Fn Fq Fb Fc Vw Vo Vs Vm go_ gs_ gm_ hgo hgs hgm hnw
  refine o_aloadN X hx (hb hby d4_77) rfl rfl ?_
  refine o_iloadN X hx (hb hby d4_78) rfl ?_
  refine o_iconst X hx 1 (hb hby d4_79) rfl ?_
  refine o_iadd X hx (hb hby d4_80) ?_
  show own_Go _ _ _ _ (T.setTop (mkF m 81 #[rv a1, iv 1, iv c_, iv i, .unset, .unset] [(.int 2), (.ref a1)]))
  obtain ⟨T_1, h_1, X_1, e_1, W_1, st_1⟩ := putF X hx hZ hown (host := "") (Or.inl (hw _ (List.mem_of_getElem? (i := 36) rfl))) Via.refl eT Fn E1 (Or.inl (hw _ (List.mem_of_getElem? (i := 37) rfl))) (hw _ (List.mem_of_getElem? (i := 2) rfl)) (ty := .int) (by decide) rfl rfl (g := (mkF m 81 #[rv a1, iv 1, iv c_, iv i, .unset, .unset] [(.int 2), (.ref a1)])) rfl rfl (hb hby d4_81)
  refine own_st st_1 ?_
  have N_1 := Fr.snoc X_1 NF g1
  show own_Go _ _ _ _ (T_1.setTop (mkF m 84 #[rv a1, iv 1, iv c_, iv i, .unset, .unset] []))
  refine o_aloadN X_1 hx (hb hby d4_84) rfl rfl ?_
  have Fa_2 := (Fn.same W_1)
  obtain ⟨T_3, X_3, e_3, st_3⟩ := getF X_1 hx hZ hown (host := "") (Or.inl (hw _ (List.mem_of_getElem? (i := 36) rfl))) Via.refl e_1 Fa_2 (g := (mkF m 85 #[rv a1, iv 1, iv c_, iv i, .unset, .unset] [(.ref a1)])) rfl rfl (hb hby d4_85)
  refine own_st st_3 ?_
  show own_Go _ _ _ _ (T_3.setTop (mkF m 88 #[rv a1, iv 1, iv c_, iv i, .unset, .unset] [(.int 2)]))
  have Zs_4 : n0 ≤ h_1.size := (Nat.le_trans Zh (Keep.of_wr W_1).1)
  have Kp_5 : Keep h0 h_1 [a1, ao, asx, am] := (Kh.wr W_1 (Or.inl (List.mem_of_getElem? (i := 0) rfl)))
  obtain ⟨T_6, h_6, k_6, X_6, e_6, E_6, A_6, st_6⟩ := newP X_3 hx hZ (hw _ (List.mem_of_getElem? (i := 14) rfl)) e_3 (g := (mkF m 88 #[rv a1, iv 1, iv c_, iv i, .unset, .unset] [(.int 2)])) rfl (hb hby d4_88) rfl (by decide) (cap := 2) (by decide) (by decide) (by decide) (by decide)
  obtain ⟨b_6, g_6⟩ : ∃ z, z = h_1.size := ⟨_, rfl⟩
  rw [← g_6] at A_6 st_6
  have V_6 : Arv Z h_6 b_6 k_6 .int (2 : Int32) [(.int (0 : Int32)), (.int (0 : Int32))] (.int (0 : Int32)) := (Arv.new A_6 (by decide)).pad (pad_rep [] (.int (0 : Int32)) 2)
  have gg_6 : n0 ≤ b_6 := Nat.le_trans Zs_4 (Nat.le_of_eq g_6.symm)
  have sz_6 : h0.size ≤ b_6 := Nat.le_trans Kp_5.1 (Nat.le_of_eq g_6.symm)
  refine own_st st_6 ?_
  show own_Go _ _ _ _ (T_6.setTop (mkF m 90 #[rv a1, iv 1, iv c_, iv i, .unset, .unset] [(.ref b_6)]))
  refine o_astoreN X_6 hx (hb hby d4_90) rfl (l' := #[rv a1, iv 1, iv c_, rv b_6, .unset, .unset]) rfl ?_
  refine o_iconst X_6 hx 0 (hb hby d4_91) rfl ?_
  refine o_istore X_6 hx (hb hby d4_92) (l' := #[rv a1, iv 1, iv c_, rv b_6, iv 0, .unset]) rfl ?_
  have Zs_7 : n0 ≤ h_6.size := (Nat.le_trans Zs_4 E_6.1)
  have Kp_8 : Keep h0 h_6 [a1, ao, asx, am] := (Kp_5.ext E_6)
  have Fa_9 := ((E1.wr W_1).ext E_6)
  have Fa_10 := ((Fp.other W_1 (Or.inr (slot_ne (Or.inr (hw _ (List.mem_of_getElem? (i := 18) rfl))) (Or.inl (hw _ (List.mem_of_getElem? (i := 37) rfl))) (by decide) (t := .int) (t' := .int) (by decide) (by decide)))).ext E_6)
  have Fa_11 := ((Fw.other W_1 (Or.inr (slot_ne (Or.inr (hw _ (List.mem_of_getElem? (i := 20) rfl))) (Or.inl (hw _ (List.mem_of_getElem? (i := 37) rfl))) (by decide) (t := (.array .int)) (t' := .int) (by decide) (by decide)))).ext E_6)
  have Fa_12 := ((Fo.other W_1 (Or.inr (slot_ne (Or.inr (hw _ (List.mem_of_getElem? (i := 22) rfl))) (Or.inl (hw _ (List.mem_of_getElem? (i := 37) rfl))) (by decide) (t := (.array .int)) (t' := .int) (by decide) (by decide)))).ext E_6)
  have Fa_13 := ((Fs.other W_1 (Or.inr (slot_ne (Or.inr (hw _ (List.mem_of_getElem? (i := 24) rfl))) (Or.inl (hw _ (List.mem_of_getElem? (i := 37) rfl))) (by decide) (t := (.array .int)) (t' := .int) (by decide) (by decide)))).ext E_6)
  have Fa_14 := ((Fm.other W_1 (Or.inr (slot_ne (Or.inr (hw _ (List.mem_of_getElem? (i := 27) rfl))) (Or.inl (hw _ (List.mem_of_getElem? (i := 37) rfl))) (by decide) (t := (.array .long)) (t' := .int) (by decide) (by decide)))).ext E_6)
  have Fa_15 := (Fa_2.ext E_6)
  have Fa_16 := ((Fq.other W_1 (Or.inr (slot_ne (Or.inl (hw _ (List.mem_of_getElem? (i := 41) rfl))) (Or.inl (hw _ (List.mem_of_getElem? (i := 37) rfl))) (by decide) (t := (.array (.array .int))) (t' := .int) (by decide) (by decide)))).ext E_6)
  have Fa_17 := ((Fb.other W_1 (Or.inr (slot_ne (Or.inl (hw _ (List.mem_of_getElem? (i := 44) rfl))) (Or.inl (hw _ (List.mem_of_getElem? (i := 37) rfl))) (by decide) (t := (.array .boolean)) (t' := .int) (by decide) (by decide)))).ext E_6)
  have Fa_18 := ((Fc.other W_1 (Or.inr (slot_ne (Or.inl (hw _ (List.mem_of_getElem? (i := 55) rfl))) (Or.inl (hw _ (List.mem_of_getElem? (i := 37) rfl))) (by decide) (t := .int) (t' := .int) (by decide) (by decide)))).ext E_6)
  have Fa_19 := ((Vw.other W_1 n_aw_a1).ext E_6)
  have Fa_20 := ((Vo.other W_1 n_ao_a1).ext E_6)
  have Fa_21 := ((Vs.other W_1 n_asx_a1).ext E_6)
  have Fa_22 := ((Vm.other W_1 n_am_a1).ext E_6)
  exact own_lay2_2 a1 aw ao asx am kw ko ks km N fo0 fs0 fm0 n_aw_a1 n_ao_a1 n_asx_a1 n_am_a1 n_ao_aw n_asx_aw n_am_aw n_asx_ao n_am_ao n_am_asx hN1 hN2 hx hZ hw hby hml hown hret hlk (N.toNatClampNeg + 1) T_6 _ h_6 (0 : Int32) c_ b_6 k_6 (0 : Int32) (0 : Int32) go gs gm X_6 e_6 N_1 Zs_7 Kp_8 Fa_9 g1 Fa_10 Fa_11 Fa_12 Fa_13 Fa_14 Fa_15 Fa_16 Fa_17 Fa_18 Fa_19 Fa_20 Fa_21 Fa_22 go_ gs_ gm_ V_6 gg_6 sz_6 (Nat.ne_of_lt (Nat.lt_of_lt_of_le (Fn.same W_1).lt (Nat.le_of_eq g_6.symm))) (Nat.ne_of_lt (Nat.lt_of_lt_of_le (Vw.other W_1 n_aw_a1).lt (Nat.le_of_eq g_6.symm))) (Nat.ne_of_lt (Nat.lt_of_lt_of_le (Vo.other W_1 n_ao_a1).lt (Nat.le_of_eq g_6.symm))) (Nat.ne_of_lt (Nat.lt_of_lt_of_le (Vs.other W_1 n_asx_a1).lt (Nat.le_of_eq g_6.symm))) (Nat.ne_of_lt (Nat.lt_of_lt_of_le (Vm.other W_1 n_am_a1).lt (Nat.le_of_eq g_6.symm))) (by decide) (own_N0 hN1) hgo hgs hgm hnw (own_cl0 (by decide)) (own_cl0 (by decide)) (own_ff (own_N0 hN1))
set_option maxRecDepth 65536 in
set_option maxHeartbeats 40000000 in
theorem own_lay4_3 {p : Program} {l : Launch} {e : Env} {s : State} {m : MethodId} {below : List Frame} {meth : Method} {c : Code} {Z : State} {a0 : Array Value} {h0 : Heap} {n0 : Nat} (a1 : Addr) (aw : Addr) (ao : Addr) (asx : Addr) (am : Addr) (kw : ClassId) (ko : ClassId) (ks : ClassId) (km : ClassId) (N : Int32) (fo0 : Nat → Int32) (fs0 : Nat → Int32) (fm0 : Nat → Int64) (n_aw_a1 : aw ≠ a1) (n_ao_a1 : ao ≠ a1) (n_asx_a1 : asx ≠ a1) (n_am_a1 : am ≠ a1) (n_ao_aw : ao ≠ aw) (n_asx_aw : asx ≠ aw) (n_am_aw : am ≠ aw) (n_asx_ao : asx ≠ ao) (n_am_ao : am ≠ ao) (n_am_asx : am ≠ asx) (hN1 : ¬ N < (1 : Int32)) (hN2 : ¬ (256 : Int32) < N)
    (hx : p.tables.exec = Jvm.exec) (hZ : Z.Warmed39 s.vm) (hw : ∀ d ∈ tables_1, d.before a0 Z = true) (hby : c.code = prog_3_method_15_code) (hml : c.maxLocals = 6) (hown : s.vm.findClass "com/example/causyn/causyn/analysis/MarkingStore" = some m.cls) (hret : meth.sig.returnType = none) (hlk : meth.locks = false) :
    ∀ (fuel : Nat) (T : State) (locs : List Loc) (h : Heap) (i : Int32) (c_ : Int32) (ac : Addr) (af : Addr) (ap : Addr) (ab : Addr) (p0_ : Addr) (p1_ : Addr) (p2_ : Addr) (kf : ClassId) (kq : ClassId) (kb : ClassId) (kp0 : ClassId) (kp1 : ClassId) (kp2 : ClassId) (gp0 : Nat → Int32) (gp1 : Nat → Int32) (gp2 : Nat → Int32) (x0 : Int32) (x1 : Int32) (x2 : Int32) (y0 : Int32) (y1 : Int32) (y2 : Int32) (go : Nat → Int32) (gs : Nat → Int32) (gm : Nat → Int64) (X : Stand p l e ({ frames := 1, cells := 8, slots := 272, locals := 14 } : Room) s m #[(.ref a1)] below meth c T locs 7 204) (eT : T.heap = h) (NF : Fr n0 locs) (Zh : n0 ≤ h.size) (Kh : Keep h0 h [a1, ao, asx, am]) (E1 : Exa Z h a1 "com/example/causyn/causyn/analysis/MarkingStore") (g1 : n0 ≤ a1) (Fp : Fld Z h a1 "com/example/causyn/causyn/analysis/MarkingStore" "places" "I" (.int N)) (Fw : Fld Z h a1 "com/example/causyn/causyn/analysis/MarkingStore" "width" "[I" (.ref aw)) (Fo : Fld Z h a1 "com/example/causyn/causyn/analysis/MarkingStore" "word" "[I" (.ref ao)) (Fs : Fld Z h a1 "com/example/causyn/causyn/analysis/MarkingStore" "shift" "[I" (.ref asx)) (Fm : Fld Z h a1 "com/example/causyn/causyn/analysis/MarkingStore" "mask" "[J" (.ref am)) (Fn : Fld Z h a1 "com/example/causyn/causyn/analysis/MarkingStore" "words" "I" (.int (3 : Int32))) (Fq : Fld Z h a1 "com/example/causyn/causyn/analysis/MarkingStore" "placesInWord" "[[I" (.ref ap)) (Fb : Fld Z h a1 "com/example/causyn/causyn/analysis/MarkingStore" "bitsOnly" "[Z" (.ref ab)) (Fc : Fld Z h a1 "com/example/causyn/causyn/analysis/MarkingStore" "chunkBits" "I" (.int (0 : Int32))) (Vw : Arv Z h aw kw .int N (own_LI (fun _ => (1 : Int32)) N) (.int (0 : Int32))) (Vo : Arv Z h ao ko .int N (own_LI go N) (.int (0 : Int32))) (Vs : Arv Z h asx ks .int N (own_LI gs N) (.int (0 : Int32))) (Vm : Arv Z h am km .long N (own_LJ gm N) (.long (0 : Int64))) (go_ : n0 ≤ ao) (gs_ : n0 ≤ asx) (gm_ : n0 ≤ am) (Vf : Arv Z h af kf .int (3 : Int32) [(.int y0), (.int y1), (.int y2)] (.int (0 : Int32))) (Vp : Arv Z h ap kq (.array .int) (3 : Int32) [(.ref p0_), (.ref p1_), (.ref p2_)] .null) (Vb : Arv Z h ab kb .boolean (3 : Int32) [(.int (1 : Int32)), (.int (1 : Int32)), (.int (1 : Int32))] (.int (0 : Int32))) (Vp0 : Arv Z h p0_ kp0 .int x0 (own_LI gp0 x0) (.int (0 : Int32))) (Vp1 : Arv Z h p1_ kp1 .int x1 (own_LI gp1 x1) (.int (0 : Int32))) (Vp2 : Arv Z h p2_ kp2 .int x2 (own_LI gp2 x2) (.int (0 : Int32))) (g_af : n0 ≤ af) (z_af : h0.size ≤ af) (g_ab : n0 ≤ ab) (z_ab : h0.size ≤ ab) (g_p0_ : n0 ≤ p0_) (z_p0_ : h0.size ≤ p0_) (g_p1_ : n0 ≤ p1_) (z_p1_ : h0.size ≤ p1_) (g_p2_ : n0 ≤ p2_) (z_p2_ : h0.size ≤ p2_) (n_a1_af : a1 ≠ af) (n_aw_af : aw ≠ af) (n_ao_af : ao ≠ af) (n_asx_af : asx ≠ af) (n_am_af : am ≠ af) (n_ap_af : ap ≠ af) (n_ab_af : ab ≠ af) (n_p0__af : p0_ ≠ af) (n_p1__af : p1_ ≠ af) (n_p2__af : p2_ ≠ af) (n_a1_ab : a1 ≠ ab) (n_aw_ab : aw ≠ ab) (n_ao_ab : ao ≠ ab) (n_asx_ab : asx ≠ ab) (n_am_ab : am ≠ ab) (n_ap_ab : ap ≠ ab) (n_p0__ab : p0_ ≠ ab) (n_p1__ab : p1_ ≠ ab) (n_p2__ab : p2_ ≠ ab) (n_a1_p0_ : a1 ≠ p0_) (n_aw_p0_ : aw ≠ p0_) (n_ao_p0_ : ao ≠ p0_) (n_asx_p0_ : asx ≠ p0_) (n_am_p0_ : am ≠ p0_) (n_ap_p0_ : ap ≠ p0_) (n_p1__p0_ : p1_ ≠ p0_) (n_p2__p0_ : p2_ ≠ p0_) (n_a1_p1_ : a1 ≠ p1_) (n_aw_p1_ : aw ≠ p1_) (n_ao_p1_ : ao ≠ p1_) (n_asx_p1_ : asx ≠ p1_) (n_am_p1_ : am ≠ p1_) (n_ap_p1_ : ap ≠ p1_) (n_p2__p1_ : p2_ ≠ p1_) (n_a1_p2_ : a1 ≠ p2_) (n_aw_p2_ : aw ≠ p2_) (n_ao_p2_ : ao ≠ p2_) (n_asx_p2_ : asx ≠ p2_) (n_am_p2_ : am ≠ p2_) (n_ap_p2_ : ap ≠ p2_) (n_ap_a1 : ap ≠ a1) (hi0 : ¬ i < 0) (hi1 : ¬ N < i) (hgo : ∀ j : Nat, (j : Int) < N.toInt → (go j).toInt = (j : Int) / 64) (hgs : ∀ j : Nat, (j : Int) < N.toInt → (gs j).toInt = (j : Int) % 64) (hgm : ∀ j : Nat, (j : Int) < N.toInt → gm j = (1 : Int64)) (hnw : own_nw N 3) (hx0 : x0.toInt = own_cl N.toInt 0) (hx1 : x1.toInt = own_cl N.toInt 1) (hx2 : x2.toInt = own_cl N.toInt 2) (hy0 : y0.toInt = own_cl i.toInt 0) (hy1 : y1.toInt = own_cl i.toInt 1) (hy2 : y2.toInt = own_cl i.toInt 2) (hfu : N.toInt - i.toInt < (fuel : Int)), own_Go p.tables e below (fun o U' => ∃ v L, o = .returned v ∧ Q_rmlay Z a0 a1 aw ao asx am kw ko ks km N fo0 fs0 fm0 h0 n0 v U'.heap L ∧ FrameEnd s o U' L ({ frames := 1, cells := 8, slots := 272, locals := 14 } : Room).cells ({ frames := 1, cells := 8, slots := 272, locals := 14 } : Room).slots) (T.setTop (mkF m 193 #[rv a1, iv 2, iv c_, rv ac, rv af, iv i] [])) := by
  intro fuel
  induction fuel with
  | zero => intro T locs h i c_ ac af ap ab p0_ p1_ p2_ kf kq kb kp0 kp1 kp2 gp0 gp1 gp2 x0 x1 x2 y0 y1 y2 go gs gm X eT NF Zh Kh E1 g1 Fp Fw Fo Fs Fm Fn Fq Fb Fc Vw Vo Vs Vm go_ gs_ gm_ Vf Vp Vb Vp0 Vp1 Vp2 g_af z_af g_ab z_ab g_p0_ z_p0_ g_p1_ z_p1_ g_p2_ z_p2_ n_a1_af n_aw_af n_ao_af n_asx_af n_am_af n_ap_af n_ab_af n_p0__af n_p1__af n_p2__af n_a1_ab n_aw_ab n_ao_ab n_asx_ab n_am_ab n_ap_ab n_p0__ab n_p1__ab n_p2__ab n_a1_p0_ n_aw_p0_ n_ao_p0_ n_asx_p0_ n_am_p0_ n_ap_p0_ n_p1__p0_ n_p2__p0_ n_a1_p1_ n_aw_p1_ n_ao_p1_ n_asx_p1_ n_am_p1_ n_ap_p1_ n_p2__p1_ n_a1_p2_ n_aw_p2_ n_ao_p2_ n_asx_p2_ n_am_p2_ n_ap_p2_ n_ap_a1 hi0 hi1 hgo hgs hgm hnw hx0 hx1 hx2 hy0 hy1 hy2 hfu; exact (own_f0 hi1 hfu).elim
  | succ fuel ih =>
    intro T locs h i c_ ac af ap ab p0_ p1_ p2_ kf kq kb kp0 kp1 kp2 gp0 gp1 gp2 x0 x1 x2 y0 y1 y2 go gs gm X eT NF Zh Kh E1 g1 Fp Fw Fo Fs Fm Fn Fq Fb Fc Vw Vo Vs Vm go_ gs_ gm_ Vf Vp Vb Vp0 Vp1 Vp2 g_af z_af g_ab z_ab g_p0_ z_p0_ g_p1_ z_p1_ g_p2_ z_p2_ n_a1_af n_aw_af n_ao_af n_asx_af n_am_af n_ap_af n_ab_af n_p0__af n_p1__af n_p2__af n_a1_ab n_aw_ab n_ao_ab n_asx_ab n_am_ab n_ap_ab n_p0__ab n_p1__ab n_p2__ab n_a1_p0_ n_aw_p0_ n_ao_p0_ n_asx_p0_ n_am_p0_ n_ap_p0_ n_p1__p0_ n_p2__p0_ n_a1_p1_ n_aw_p1_ n_ao_p1_ n_asx_p1_ n_am_p1_ n_ap_p1_ n_p2__p1_ n_a1_p2_ n_aw_p2_ n_ao_p2_ n_asx_p2_ n_am_p2_ n_ap_p2_ n_ap_a1 hi0 hi1 hgo hgs hgm hnw hx0 hx1 hx2 hy0 hy1 hy2 hfu
    refine o_iload X hx (hb hby d4_193) rfl ?_
    refine o_aloadN X hx (hb hby d4_195) rfl rfl ?_
    obtain ⟨T_1, X_1, e_1, st_1⟩ := getF X hx hZ hown (host := "") (Or.inl (hw _ (List.mem_of_getElem? (i := 17) rfl))) Via.refl eT Fp (g := (mkF m 196 #[rv a1, iv 2, iv c_, rv ac, rv af, iv i] [(.ref a1), (.int i)])) rfl rfl (hb hby d4_196)
    refine own_st st_1 ?_
    show own_Go _ _ _ _ (T_1.setTop (mkF m 199 #[rv a1, iv 2, iv c_, rv ac, rv af, iv i] [(.int N), (.int i)]))
    by_cases hc199__2 : i < N
    · refine o_icmpNo X_1 hx (hb hby d4_199) (tlt hc199__2).2.1 ?_
      refine o_aloadN X_1 hx (hb hby d4_202) rfl rfl ?_
      obtain ⟨T_3, X_3, e_3, st_3⟩ := getF X_1 hx hZ hown (host := "") (Or.inl (hw _ (List.mem_of_getElem? (i := 40) rfl))) Via.refl e_1 Fq (g := (mkF m 203 #[rv a1, iv 2, iv c_, rv ac, rv af, iv i] [(.ref a1)])) rfl rfl (hb hby d4_203)
      refine own_st st_3 ?_
      show own_Go _ _ _ _ (T_3.setTop (mkF m 206 #[rv a1, iv 2, iv c_, rv ac, rv af, iv i] [(.ref ap)]))
      refine o_aloadN X_3 hx (hb hby d4_206) rfl rfl ?_
      obtain ⟨T_4, X_4, e_4, st_4⟩ := getF X_3 hx hZ hown (host := "") (Or.inl (hw _ (List.mem_of_getElem? (i := 21) rfl))) Via.refl e_3 Fo (g := (mkF m 207 #[rv a1, iv 2, iv c_, rv ac, rv af, iv i] [(.ref a1), (.ref ap)])) rfl rfl (hb hby d4_207)
      refine own_st st_4 ?_
      show own_Go _ _ _ _ (T_4.setTop (mkF m 210 #[rv a1, iv 2, iv c_, rv ac, rv af, iv i] [(.ref ao), (.ref ap)]))
      refine o_iload X_4 hx (hb hby d4_210) rfl ?_
      obtain ⟨cl_5, Ar_5, qk_5, Sz_5, Ng_5, Hs_5, Gs_5⟩ := id Vo
      refine own_st (X_4.iaload hx (j := i) (v := (.int (go i.toNatClampNeg))) (by rw [e_4]; exact Ar_5.1) (State.isArrayOf_alike hZ.alike Ar_5.2.1) Ar_5.2.2 (inb_of Sz_5 ⟨hi0, hc199__2⟩) (Hs_5.at (j := i) (inb_of Sz_5 ⟨hi0, hc199__2⟩) (own_LI_get hi0 hc199__2)) (g := (mkF m 212 #[rv a1, iv 2, iv c_, rv ac, rv af, iv i] [(.int i), (.ref ao), (.ref ap)])) rfl rfl (hb hby d4_212)) ?_
      show own_Go _ _ _ _ (T_4.setTop (mkF m 213 #[rv a1, iv 2, iv c_, rv ac, rv af, iv i] [(.int (go i.toNatClampNeg)), (.ref ap)]))
      have hgi_6 := hgo i.toNatClampNeg (own_jN hi0 hc199__2)
      rcases own_wk3 hi0 hc199__2 hnw hgi_6 with hk_6 | hk_6 | hk_6
      · rw [hk_6]
        show own_Go _ _ _ _ (T_4.setTop (mkF m 213 #[rv a1, iv 2, iv c_, rv ac, rv af, iv i] [(.int 0), (.ref ap)]))
        obtain ⟨cl_7, Ar_7, qk_7, Sz_7, Ng_7, Hs_7, Gs_7⟩ := id Vp
        refine own_st (X_4.aaload hx (j := (0 : Int32)) (v := (.ref p0_)) (by rw [e_4]; exact Ar_7.1) (State.isArrayOf_alike hZ.alike Ar_7.2.1) rfl Ar_7.2.2 (inb_of Sz_7 ⟨by decide, by decide⟩) (Hs_7.at (j := (0 : Int32)) (inb_of Sz_7 ⟨by decide, by decide⟩) rfl) (g := (mkF m 213 #[rv a1, iv 2, iv c_, rv ac, rv af, iv i] [(.int 0), (.ref ap)])) rfl rfl (hb hby d4_213)) ?_
        show own_Go _ _ _ _ (T_4.setTop (mkF m 214 #[rv a1, iv 2, iv c_, rv ac, rv af, iv i] [(.ref p0_)]))
        refine o_aload X_4 hx (hb hby d4_214) rfl rfl ?_
        refine o_aloadN X_4 hx (hb hby d4_216) rfl rfl ?_
        obtain ⟨T_8, X_8, e_8, st_8⟩ := getF X_4 hx hZ hown (host := "") (Or.inl (hw _ (List.mem_of_getElem? (i := 21) rfl))) Via.refl e_4 Fo (g := (mkF m 217 #[rv a1, iv 2, iv c_, rv ac, rv af, iv i] [(.ref a1), (.ref af), (.ref p0_)])) rfl rfl (hb hby d4_217)
        refine own_st st_8 ?_
        show own_Go _ _ _ _ (T_8.setTop (mkF m 220 #[rv a1, iv 2, iv c_, rv ac, rv af, iv i] [(.ref ao), (.ref af), (.ref p0_)]))
        refine o_iload X_8 hx (hb hby d4_220) rfl ?_
        obtain ⟨cl_9, Ar_9, qk_9, Sz_9, Ng_9, Hs_9, Gs_9⟩ := id Vo
        refine own_st (X_8.iaload hx (j := i) (v := (.int (0 : Int32))) (by rw [e_8]; exact Ar_9.1) (State.isArrayOf_alike hZ.alike Ar_9.2.1) Ar_9.2.2 (inb_of Sz_9 ⟨hi0, hc199__2⟩) (Hs_9.at (j := i) (inb_of Sz_9 ⟨hi0, hc199__2⟩) ((own_LI_get hi0 hc199__2).trans (congrArg Value.int hk_6))) (g := (mkF m 222 #[rv a1, iv 2, iv c_, rv ac, rv af, iv i] [(.int i), (.ref ao), (.ref af), (.ref p0_)])) rfl rfl (hb hby d4_222)) ?_
        show own_Go _ _ _ _ (T_8.setTop (mkF m 223 #[rv a1, iv 2, iv c_, rv ac, rv af, iv i] [(.int 0), (.ref af), (.ref p0_)]))
        refine o_dup2 X_8 hx (hb hby d4_223) rfl rfl ?_
        obtain ⟨cl_10, Ar_10, qk_10, Sz_10, Ng_10, Hs_10, Gs_10⟩ := id Vf
        refine own_st (X_8.iaload hx (j := (0 : Int32)) (v := (.int y0)) (by rw [e_8]; exact Ar_10.1) (State.isArrayOf_alike hZ.alike Ar_10.2.1) Ar_10.2.2 (inb_of Sz_10 ⟨by decide, by decide⟩) (Hs_10.at (j := (0 : Int32)) (inb_of Sz_10 ⟨by decide, by decide⟩) rfl) (g := (mkF m 224 #[rv a1, iv 2, iv c_, rv ac, rv af, iv i] [(.int 0), (.ref af), (.int 0), (.ref af), (.ref p0_)])) rfl rfl (hb hby d4_224)) ?_
        show own_Go _ _ _ _ (T_8.setTop (mkF m 225 #[rv a1, iv 2, iv c_, rv ac, rv af, iv i] [(.int y0), (.int 0), (.ref af), (.ref p0_)]))
        refine o_dupX2 X_8 hx (hb hby d4_225) rfl rfl rfl ?_
        refine o_iconst X_8 hx 1 (hb hby d4_226) rfl ?_
        refine o_iadd X_8 hx (hb hby d4_227) ?_
        obtain ⟨cl_11, Ar_11, qk_11, Sz_11, Ng_11, Hs_11, Gs_11⟩ := id Vf
        obtain ⟨T_12, h_12, X_12, e_12, W_12, st_12⟩ := stI X_8 hx hZ e_8 Ar_11 (j := (0 : Int32)) (inb_of Sz_11 ⟨by decide, by decide⟩) (g := (mkF m 228 #[rv a1, iv 2, iv c_, rv ac, rv af, iv i] [(.int (y0 + (1 : Int32))), (.int 0), (.ref af), (.int y0), (.ref p0_)])) rfl rfl (hb hby d4_228)
        refine own_st st_12 ?_
        have V_12 : Arv Z h_12 af kf .int (3 : Int32) [(.int (y0 + (1 : Int32))), (.int y1), (.int y2)] (.int (0 : Int32)) := Arv.set Ar_11 qk_11 Sz_11 Ng_11 Hs_11 Gs_11 rfl W_12 0 rfl (Nat.le_of_ble_eq_true rfl)
        have N_12 := Fr.snoc X_12 NF g_af
        show own_Go _ _ _ _ (T_12.setTop (mkF m 229 #[rv a1, iv 2, iv c_, rv ac, rv af, iv i] [(.int y0), (.ref p0_)]))
        refine o_iload X_12 hx (hb hby d4_229) rfl ?_
        have Fa_13 := (Vp0.other W_12 n_p0__af)
        obtain ⟨cl_14, Ar_14, qk_14, Sz_14, Ng_14, Hs_14, Gs_14⟩ := id Fa_13
        obtain ⟨T_15, h_15, X_15, e_15, W_15, st_15⟩ := stI X_12 hx hZ e_12 Ar_14 (j := y0) (inb_of Sz_14 ⟨(own_clnn hy0), (own_clt hi0 hc199__2 hgi_6 (congrArg Int32.toInt hk_6) hy0 hx0)⟩) (g := (mkF m 231 #[rv a1, iv 2, iv c_, rv ac, rv af, iv i] [(.int i), (.int y0), (.ref p0_)])) rfl rfl (hb hby d4_231)
        refine own_st st_15 ?_
        have V_15 : Arv Z h_15 p0_ kp0 .int x0 (own_LI (own_up gp0 y0.toNatClampNeg i) x0) (.int (0 : Int32)) := by have q := Arv.set Ar_14 qk_14 Sz_14 Ng_14 Hs_14 Gs_14 rfl W_15 y0.toNatClampNeg rfl (own_LI_lt (own_clnn hy0) (own_clt hi0 hc199__2 hgi_6 (congrArg Int32.toInt hk_6) hy0 hx0)); rw [own_LI_set] at q; exact q
        have N_15 := Fr.snoc X_15 N_12 g_p0_
        show own_Go _ _ _ _ (T_15.setTop (mkF m 232 #[rv a1, iv 2, iv c_, rv ac, rv af, iv i] []))
        refine o_aloadN X_15 hx (hb hby d4_232) rfl rfl ?_
        have Fa_16 := ((Fb.other W_12 (Or.inl n_a1_af)).other W_15 (Or.inl n_a1_p0_))
        obtain ⟨T_17, X_17, e_17, st_17⟩ := getF X_15 hx hZ hown (host := "") (Or.inl (hw _ (List.mem_of_getElem? (i := 43) rfl))) Via.refl e_15 Fa_16 (g := (mkF m 233 #[rv a1, iv 2, iv c_, rv ac, rv af, iv i] [(.ref a1)])) rfl rfl (hb hby d4_233)
        refine own_st st_17 ?_
        show own_Go _ _ _ _ (T_17.setTop (mkF m 236 #[rv a1, iv 2, iv c_, rv ac, rv af, iv i] [(.ref ab)]))
        refine o_aloadN X_17 hx (hb hby d4_236) rfl rfl ?_
        have Fa_18 := ((Fo.other W_12 (Or.inl n_a1_af)).other W_15 (Or.inl n_a1_p0_))
        obtain ⟨T_19, X_19, e_19, st_19⟩ := getF X_17 hx hZ hown (host := "") (Or.inl (hw _ (List.mem_of_getElem? (i := 21) rfl))) Via.refl e_17 Fa_18 (g := (mkF m 237 #[rv a1, iv 2, iv c_, rv ac, rv af, iv i] [(.ref a1), (.ref ab)])) rfl rfl (hb hby d4_237)
        refine own_st st_19 ?_
        show own_Go _ _ _ _ (T_19.setTop (mkF m 240 #[rv a1, iv 2, iv c_, rv ac, rv af, iv i] [(.ref ao), (.ref ab)]))
        refine o_iload X_19 hx (hb hby d4_240) rfl ?_
        have Fa_20 := ((Vo.other W_12 n_ao_af).other W_15 n_ao_p0_)
        obtain ⟨cl_21, Ar_21, qk_21, Sz_21, Ng_21, Hs_21, Gs_21⟩ := id Fa_20
        refine own_st (X_19.iaload hx (j := i) (v := (.int (0 : Int32))) (by rw [e_19]; exact Ar_21.1) (State.isArrayOf_alike hZ.alike Ar_21.2.1) Ar_21.2.2 (inb_of Sz_21 ⟨hi0, hc199__2⟩) (Hs_21.at (j := i) (inb_of Sz_21 ⟨hi0, hc199__2⟩) ((own_LI_get hi0 hc199__2).trans (congrArg Value.int hk_6))) (g := (mkF m 242 #[rv a1, iv 2, iv c_, rv ac, rv af, iv i] [(.int i), (.ref ao), (.ref ab)])) rfl rfl (hb hby d4_242)) ?_
        show own_Go _ _ _ _ (T_19.setTop (mkF m 243 #[rv a1, iv 2, iv c_, rv ac, rv af, iv i] [(.int 0), (.ref ab)]))
        refine o_dup2 X_19 hx (hb hby d4_243) rfl rfl ?_
        have Fa_22 := ((Vb.other W_12 n_ab_af).other W_15 (Ne.symm n_p0__ab))
        obtain ⟨cl_23, Ar_23, qk_23, Sz_23, Ng_23, Hs_23, Gs_23⟩ := id Fa_22
        refine own_st (X_19.baloadBooleans hx (j := (0 : Int32)) (v := (.int (1 : Int32))) (by rw [e_19]; exact Ar_23.1) (State.isArrayOf_alike hZ.alike Ar_23.2.1) Ar_23.2.2 (inb_of Sz_23 ⟨by decide, by decide⟩) (Hs_23.at (j := (0 : Int32)) (inb_of Sz_23 ⟨by decide, by decide⟩) rfl) (g := (mkF m 244 #[rv a1, iv 2, iv c_, rv ac, rv af, iv i] [(.int 0), (.ref ab), (.int 0), (.ref ab)])) rfl rfl (hb hby d4_244)) ?_
        show own_Go _ _ _ _ (T_19.setTop (mkF m 245 #[rv a1, iv 2, iv c_, rv ac, rv af, iv i] [(.int 1), (.int 0), (.ref ab)]))
        refine o_aloadN X_19 hx (hb hby d4_245) rfl rfl ?_
        have Fa_24 := ((Fw.other W_12 (Or.inl n_a1_af)).other W_15 (Or.inl n_a1_p0_))
        obtain ⟨T_25, X_25, e_25, st_25⟩ := getF X_19 hx hZ hown (host := "") (Or.inl (hw _ (List.mem_of_getElem? (i := 19) rfl))) Via.refl e_19 Fa_24 (g := (mkF m 246 #[rv a1, iv 2, iv c_, rv ac, rv af, iv i] [(.ref a1), (.int 1), (.int 0), (.ref ab)])) rfl rfl (hb hby d4_246)
        refine own_st st_25 ?_
        show own_Go _ _ _ _ (T_25.setTop (mkF m 249 #[rv a1, iv 2, iv c_, rv ac, rv af, iv i] [(.ref aw), (.int 1), (.int 0), (.ref ab)]))
        refine o_iload X_25 hx (hb hby d4_249) rfl ?_
        have Fa_26 := ((Vw.other W_12 n_aw_af).other W_15 n_aw_p0_)
        obtain ⟨cl_27, Ar_27, qk_27, Sz_27, Ng_27, Hs_27, Gs_27⟩ := id Fa_26
        refine own_st (X_25.iaload hx (j := i) (v := (.int (1 : Int32))) (by rw [e_25]; exact Ar_27.1) (State.isArrayOf_alike hZ.alike Ar_27.2.1) Ar_27.2.2 (inb_of Sz_27 ⟨hi0, hc199__2⟩) (Hs_27.at (j := i) (inb_of Sz_27 ⟨hi0, hc199__2⟩) ((own_LI_get hi0 hc199__2).trans rfl)) (g := (mkF m 251 #[rv a1, iv 2, iv c_, rv ac, rv af, iv i] [(.int i), (.ref aw), (.int 1), (.int 0), (.ref ab)])) rfl rfl (hb hby d4_251)) ?_
        show own_Go _ _ _ _ (T_25.setTop (mkF m 252 #[rv a1, iv 2, iv c_, rv ac, rv af, iv i] [(.int 1), (.int 1), (.int 0), (.ref ab)]))
        refine o_iconst X_25 hx 1 (hb hby d4_252) rfl ?_
        refine o_icmpNo X_25 hx (hb hby d4_253) (teq (by decide : (1 : Int32) = (1 : Int32))).2 ?_
        refine o_iconst X_25 hx 1 (hb hby d4_256) rfl ?_
        refine o_goto X_25 hx (pc' := 261) (hb hby d4_257) (by decide) (by decide) ?_
        refine o_iand X_25 hx (hb hby d4_261) ?_
        show own_Go _ _ _ _ (T_25.setTop (mkF m 262 #[rv a1, iv 2, iv c_, rv ac, rv af, iv i] [(.int 1), (.int 0), (.ref ab)]))
        obtain ⟨cl_28, Ar_28, qk_28, Sz_28, Ng_28, Hs_28, Gs_28⟩ := id Fa_22
        obtain ⟨T_29, h_29, X_29, e_29, W_29, st_29⟩ := stZ X_25 hx hZ e_25 Ar_28 (j := (0 : Int32)) (inb_of Sz_28 ⟨by decide, by decide⟩) (g := (mkF m 262 #[rv a1, iv 2, iv c_, rv ac, rv af, iv i] [(.int 1), (.int 0), (.ref ab)])) rfl rfl (hb hby d4_262)
        refine own_st st_29 ?_
        have V_29 : Arv Z h_29 ab kb .boolean (3 : Int32) [(.int (1 : Int32)), (.int (1 : Int32)), (.int (1 : Int32))] (.int (0 : Int32)) := Arv.set Ar_28 qk_28 Sz_28 Ng_28 Hs_28 Gs_28 (by decide) W_29 0 rfl (Nat.le_of_ble_eq_true rfl)
        have N_29 := Fr.snoc X_29 N_15 g_ab
        show own_Go _ _ _ _ (T_29.setTop (mkF m 263 #[rv a1, iv 2, iv c_, rv ac, rv af, iv i] []))
        refine o_iinc X_29 hx (hb hby d4_263) rfl (l' := #[rv a1, iv 2, iv c_, rv ac, rv af, iv (i + (1 : Int32))]) rfl ?_
        refine o_goto X_29 hx (pc' := 193) (hb hby d4_266) (by decide) (by decide) ?_
        have Zs_30 : n0 ≤ h_29.size := (Nat.le_trans (Nat.le_trans (Nat.le_trans Zh (Keep.of_wr W_12).1) (Keep.of_wr W_15).1) (Keep.of_wr W_29).1)
        have Kp_31 : Keep h0 h_29 [a1, ao, asx, am] := (((Kh.wr W_12 (Or.inr z_af)).wr W_15 (Or.inr z_p0_)).wr W_29 (Or.inr z_ab))
        have Fa_32 := (((E1.wr W_12).wr W_15).wr W_29)
        have Fa_33 := (((Fp.other W_12 (Or.inl n_a1_af)).other W_15 (Or.inl n_a1_p0_)).other W_29 (Or.inl n_a1_ab))
        have Fa_34 := (Fa_24.other W_29 (Or.inl n_a1_ab))
        have Fa_35 := (Fa_18.other W_29 (Or.inl n_a1_ab))
        have Fa_36 := (((Fs.other W_12 (Or.inl n_a1_af)).other W_15 (Or.inl n_a1_p0_)).other W_29 (Or.inl n_a1_ab))
        have Fa_37 := (((Fm.other W_12 (Or.inl n_a1_af)).other W_15 (Or.inl n_a1_p0_)).other W_29 (Or.inl n_a1_ab))
        have Fa_38 := (((Fn.other W_12 (Or.inl n_a1_af)).other W_15 (Or.inl n_a1_p0_)).other W_29 (Or.inl n_a1_ab))
        have Fa_39 := (((Fq.other W_12 (Or.inl n_a1_af)).other W_15 (Or.inl n_a1_p0_)).other W_29 (Or.inl n_a1_ab))
        have Fa_40 := (Fa_16.other W_29 (Or.inl n_a1_ab))
        have Fa_41 := (((Fc.other W_12 (Or.inl n_a1_af)).other W_15 (Or.inl n_a1_p0_)).other W_29 (Or.inl n_a1_ab))
        have Fa_42 := (Fa_26.other W_29 n_aw_ab)
        have Fa_43 := (Fa_20.other W_29 n_ao_ab)
        have Fa_44 := (((Vs.other W_12 n_asx_af).other W_15 n_asx_p0_).other W_29 n_asx_ab)
        have Fa_45 := (((Vm.other W_12 n_am_af).other W_15 n_am_p0_).other W_29 n_am_ab)
        have Fa_46 := ((V_12.other W_15 (Ne.symm n_p0__af)).other W_29 (Ne.symm n_ab_af))
        have Fa_47 := (((Vp.other W_12 n_ap_af).other W_15 n_ap_p0_).other W_29 n_ap_ab)
        have Fa_48 := (V_15.other W_29 n_p0__ab)
        have Fa_49 := (((Vp1.other W_12 n_p1__af).other W_15 n_p1__p0_).other W_29 n_p1__ab)
        have Fa_50 := (((Vp2.other W_12 n_p2__af).other W_15 n_p2__p0_).other W_29 n_p2__ab)
        exact ih T_29 _ h_29 (i + (1 : Int32)) c_ ac af ap ab p0_ p1_ p2_ kf kq kb kp0 kp1 kp2 (own_up gp0 y0.toNatClampNeg i) gp1 gp2 x0 x1 x2 (y0 + (1 : Int32)) y1 y2 go gs gm X_29 e_29 N_29 Zs_30 Kp_31 Fa_32 g1 Fa_33 Fa_34 Fa_35 Fa_36 Fa_37 Fa_38 Fa_39 Fa_40 Fa_41 Fa_42 Fa_43 Fa_44 Fa_45 go_ gs_ gm_ Fa_46 Fa_47 V_29 Fa_48 Fa_49 Fa_50 g_af z_af g_ab z_ab g_p0_ z_p0_ g_p1_ z_p1_ g_p2_ z_p2_ n_a1_af n_aw_af n_ao_af n_asx_af n_am_af n_ap_af n_ab_af n_p0__af n_p1__af n_p2__af n_a1_ab n_aw_ab n_ao_ab n_asx_ab n_am_ab n_ap_ab n_p0__ab n_p1__ab n_p2__ab n_a1_p0_ n_aw_p0_ n_ao_p0_ n_asx_p0_ n_am_p0_ n_ap_p0_ n_p1__p0_ n_p2__p0_ n_a1_p1_ n_aw_p1_ n_ao_p1_ n_asx_p1_ n_am_p1_ n_ap_p1_ n_p2__p1_ n_a1_p2_ n_aw_p2_ n_ao_p2_ n_asx_p2_ n_am_p2_ n_ap_p2_ n_ap_a1 (own_nx0 hi0 hc199__2) (own_nx1 hi0 hc199__2) hgo hgs hgm hnw hx0 hx1 hx2 (own_clS hi0 hc199__2 hgi_6 (congrArg Int32.toInt hk_6) hy0) (own_clO hi0 hc199__2 hgi_6 (congrArg Int32.toInt hk_6) (by decide) hy1) (own_clO hi0 hc199__2 hgi_6 (congrArg Int32.toInt hk_6) (by decide) hy2) (own_fS hi0 hc199__2 hfu)
      · rw [hk_6]
        show own_Go _ _ _ _ (T_4.setTop (mkF m 213 #[rv a1, iv 2, iv c_, rv ac, rv af, iv i] [(.int 1), (.ref ap)]))
        obtain ⟨cl_51, Ar_51, qk_51, Sz_51, Ng_51, Hs_51, Gs_51⟩ := id Vp
        refine own_st (X_4.aaload hx (j := (1 : Int32)) (v := (.ref p1_)) (by rw [e_4]; exact Ar_51.1) (State.isArrayOf_alike hZ.alike Ar_51.2.1) rfl Ar_51.2.2 (inb_of Sz_51 ⟨by decide, by decide⟩) (Hs_51.at (j := (1 : Int32)) (inb_of Sz_51 ⟨by decide, by decide⟩) rfl) (g := (mkF m 213 #[rv a1, iv 2, iv c_, rv ac, rv af, iv i] [(.int 1), (.ref ap)])) rfl rfl (hb hby d4_213)) ?_
        show own_Go _ _ _ _ (T_4.setTop (mkF m 214 #[rv a1, iv 2, iv c_, rv ac, rv af, iv i] [(.ref p1_)]))
        refine o_aload X_4 hx (hb hby d4_214) rfl rfl ?_
        refine o_aloadN X_4 hx (hb hby d4_216) rfl rfl ?_
        obtain ⟨T_52, X_52, e_52, st_52⟩ := getF X_4 hx hZ hown (host := "") (Or.inl (hw _ (List.mem_of_getElem? (i := 21) rfl))) Via.refl e_4 Fo (g := (mkF m 217 #[rv a1, iv 2, iv c_, rv ac, rv af, iv i] [(.ref a1), (.ref af), (.ref p1_)])) rfl rfl (hb hby d4_217)
        refine own_st st_52 ?_
        show own_Go _ _ _ _ (T_52.setTop (mkF m 220 #[rv a1, iv 2, iv c_, rv ac, rv af, iv i] [(.ref ao), (.ref af), (.ref p1_)]))
        refine o_iload X_52 hx (hb hby d4_220) rfl ?_
        obtain ⟨cl_53, Ar_53, qk_53, Sz_53, Ng_53, Hs_53, Gs_53⟩ := id Vo
        refine own_st (X_52.iaload hx (j := i) (v := (.int (1 : Int32))) (by rw [e_52]; exact Ar_53.1) (State.isArrayOf_alike hZ.alike Ar_53.2.1) Ar_53.2.2 (inb_of Sz_53 ⟨hi0, hc199__2⟩) (Hs_53.at (j := i) (inb_of Sz_53 ⟨hi0, hc199__2⟩) ((own_LI_get hi0 hc199__2).trans (congrArg Value.int hk_6))) (g := (mkF m 222 #[rv a1, iv 2, iv c_, rv ac, rv af, iv i] [(.int i), (.ref ao), (.ref af), (.ref p1_)])) rfl rfl (hb hby d4_222)) ?_
        show own_Go _ _ _ _ (T_52.setTop (mkF m 223 #[rv a1, iv 2, iv c_, rv ac, rv af, iv i] [(.int 1), (.ref af), (.ref p1_)]))
        refine o_dup2 X_52 hx (hb hby d4_223) rfl rfl ?_
        obtain ⟨cl_54, Ar_54, qk_54, Sz_54, Ng_54, Hs_54, Gs_54⟩ := id Vf
        refine own_st (X_52.iaload hx (j := (1 : Int32)) (v := (.int y1)) (by rw [e_52]; exact Ar_54.1) (State.isArrayOf_alike hZ.alike Ar_54.2.1) Ar_54.2.2 (inb_of Sz_54 ⟨by decide, by decide⟩) (Hs_54.at (j := (1 : Int32)) (inb_of Sz_54 ⟨by decide, by decide⟩) rfl) (g := (mkF m 224 #[rv a1, iv 2, iv c_, rv ac, rv af, iv i] [(.int 1), (.ref af), (.int 1), (.ref af), (.ref p1_)])) rfl rfl (hb hby d4_224)) ?_
        show own_Go _ _ _ _ (T_52.setTop (mkF m 225 #[rv a1, iv 2, iv c_, rv ac, rv af, iv i] [(.int y1), (.int 1), (.ref af), (.ref p1_)]))
        refine o_dupX2 X_52 hx (hb hby d4_225) rfl rfl rfl ?_
        refine o_iconst X_52 hx 1 (hb hby d4_226) rfl ?_
        refine o_iadd X_52 hx (hb hby d4_227) ?_
        obtain ⟨cl_55, Ar_55, qk_55, Sz_55, Ng_55, Hs_55, Gs_55⟩ := id Vf
        obtain ⟨T_56, h_56, X_56, e_56, W_56, st_56⟩ := stI X_52 hx hZ e_52 Ar_55 (j := (1 : Int32)) (inb_of Sz_55 ⟨by decide, by decide⟩) (g := (mkF m 228 #[rv a1, iv 2, iv c_, rv ac, rv af, iv i] [(.int (y1 + (1 : Int32))), (.int 1), (.ref af), (.int y1), (.ref p1_)])) rfl rfl (hb hby d4_228)
        refine own_st st_56 ?_
        have V_56 : Arv Z h_56 af kf .int (3 : Int32) [(.int y0), (.int (y1 + (1 : Int32))), (.int y2)] (.int (0 : Int32)) := Arv.set Ar_55 qk_55 Sz_55 Ng_55 Hs_55 Gs_55 rfl W_56 1 rfl (Nat.le_of_ble_eq_true rfl)
        have N_56 := Fr.snoc X_56 NF g_af
        show own_Go _ _ _ _ (T_56.setTop (mkF m 229 #[rv a1, iv 2, iv c_, rv ac, rv af, iv i] [(.int y1), (.ref p1_)]))
        refine o_iload X_56 hx (hb hby d4_229) rfl ?_
        have Fa_57 := (Vp1.other W_56 n_p1__af)
        obtain ⟨cl_58, Ar_58, qk_58, Sz_58, Ng_58, Hs_58, Gs_58⟩ := id Fa_57
        obtain ⟨T_59, h_59, X_59, e_59, W_59, st_59⟩ := stI X_56 hx hZ e_56 Ar_58 (j := y1) (inb_of Sz_58 ⟨(own_clnn hy1), (own_clt hi0 hc199__2 hgi_6 (congrArg Int32.toInt hk_6) hy1 hx1)⟩) (g := (mkF m 231 #[rv a1, iv 2, iv c_, rv ac, rv af, iv i] [(.int i), (.int y1), (.ref p1_)])) rfl rfl (hb hby d4_231)
        refine own_st st_59 ?_
        have V_59 : Arv Z h_59 p1_ kp1 .int x1 (own_LI (own_up gp1 y1.toNatClampNeg i) x1) (.int (0 : Int32)) := by have q := Arv.set Ar_58 qk_58 Sz_58 Ng_58 Hs_58 Gs_58 rfl W_59 y1.toNatClampNeg rfl (own_LI_lt (own_clnn hy1) (own_clt hi0 hc199__2 hgi_6 (congrArg Int32.toInt hk_6) hy1 hx1)); rw [own_LI_set] at q; exact q
        have N_59 := Fr.snoc X_59 N_56 g_p1_
        show own_Go _ _ _ _ (T_59.setTop (mkF m 232 #[rv a1, iv 2, iv c_, rv ac, rv af, iv i] []))
        refine o_aloadN X_59 hx (hb hby d4_232) rfl rfl ?_
        have Fa_60 := ((Fb.other W_56 (Or.inl n_a1_af)).other W_59 (Or.inl n_a1_p1_))
        obtain ⟨T_61, X_61, e_61, st_61⟩ := getF X_59 hx hZ hown (host := "") (Or.inl (hw _ (List.mem_of_getElem? (i := 43) rfl))) Via.refl e_59 Fa_60 (g := (mkF m 233 #[rv a1, iv 2, iv c_, rv ac, rv af, iv i] [(.ref a1)])) rfl rfl (hb hby d4_233)
        refine own_st st_61 ?_
        show own_Go _ _ _ _ (T_61.setTop (mkF m 236 #[rv a1, iv 2, iv c_, rv ac, rv af, iv i] [(.ref ab)]))
        refine o_aloadN X_61 hx (hb hby d4_236) rfl rfl ?_
        have Fa_62 := ((Fo.other W_56 (Or.inl n_a1_af)).other W_59 (Or.inl n_a1_p1_))
        obtain ⟨T_63, X_63, e_63, st_63⟩ := getF X_61 hx hZ hown (host := "") (Or.inl (hw _ (List.mem_of_getElem? (i := 21) rfl))) Via.refl e_61 Fa_62 (g := (mkF m 237 #[rv a1, iv 2, iv c_, rv ac, rv af, iv i] [(.ref a1), (.ref ab)])) rfl rfl (hb hby d4_237)
        refine own_st st_63 ?_
        show own_Go _ _ _ _ (T_63.setTop (mkF m 240 #[rv a1, iv 2, iv c_, rv ac, rv af, iv i] [(.ref ao), (.ref ab)]))
        refine o_iload X_63 hx (hb hby d4_240) rfl ?_
        have Fa_64 := ((Vo.other W_56 n_ao_af).other W_59 n_ao_p1_)
        obtain ⟨cl_65, Ar_65, qk_65, Sz_65, Ng_65, Hs_65, Gs_65⟩ := id Fa_64
        refine own_st (X_63.iaload hx (j := i) (v := (.int (1 : Int32))) (by rw [e_63]; exact Ar_65.1) (State.isArrayOf_alike hZ.alike Ar_65.2.1) Ar_65.2.2 (inb_of Sz_65 ⟨hi0, hc199__2⟩) (Hs_65.at (j := i) (inb_of Sz_65 ⟨hi0, hc199__2⟩) ((own_LI_get hi0 hc199__2).trans (congrArg Value.int hk_6))) (g := (mkF m 242 #[rv a1, iv 2, iv c_, rv ac, rv af, iv i] [(.int i), (.ref ao), (.ref ab)])) rfl rfl (hb hby d4_242)) ?_
        show own_Go _ _ _ _ (T_63.setTop (mkF m 243 #[rv a1, iv 2, iv c_, rv ac, rv af, iv i] [(.int 1), (.ref ab)]))
        refine o_dup2 X_63 hx (hb hby d4_243) rfl rfl ?_
        have Fa_66 := ((Vb.other W_56 n_ab_af).other W_59 (Ne.symm n_p1__ab))
        obtain ⟨cl_67, Ar_67, qk_67, Sz_67, Ng_67, Hs_67, Gs_67⟩ := id Fa_66
        refine own_st (X_63.baloadBooleans hx (j := (1 : Int32)) (v := (.int (1 : Int32))) (by rw [e_63]; exact Ar_67.1) (State.isArrayOf_alike hZ.alike Ar_67.2.1) Ar_67.2.2 (inb_of Sz_67 ⟨by decide, by decide⟩) (Hs_67.at (j := (1 : Int32)) (inb_of Sz_67 ⟨by decide, by decide⟩) rfl) (g := (mkF m 244 #[rv a1, iv 2, iv c_, rv ac, rv af, iv i] [(.int 1), (.ref ab), (.int 1), (.ref ab)])) rfl rfl (hb hby d4_244)) ?_
        show own_Go _ _ _ _ (T_63.setTop (mkF m 245 #[rv a1, iv 2, iv c_, rv ac, rv af, iv i] [(.int 1), (.int 1), (.ref ab)]))
        refine o_aloadN X_63 hx (hb hby d4_245) rfl rfl ?_
        have Fa_68 := ((Fw.other W_56 (Or.inl n_a1_af)).other W_59 (Or.inl n_a1_p1_))
        obtain ⟨T_69, X_69, e_69, st_69⟩ := getF X_63 hx hZ hown (host := "") (Or.inl (hw _ (List.mem_of_getElem? (i := 19) rfl))) Via.refl e_63 Fa_68 (g := (mkF m 246 #[rv a1, iv 2, iv c_, rv ac, rv af, iv i] [(.ref a1), (.int 1), (.int 1), (.ref ab)])) rfl rfl (hb hby d4_246)
        refine own_st st_69 ?_
        show own_Go _ _ _ _ (T_69.setTop (mkF m 249 #[rv a1, iv 2, iv c_, rv ac, rv af, iv i] [(.ref aw), (.int 1), (.int 1), (.ref ab)]))
        refine o_iload X_69 hx (hb hby d4_249) rfl ?_
        have Fa_70 := ((Vw.other W_56 n_aw_af).other W_59 n_aw_p1_)
        obtain ⟨cl_71, Ar_71, qk_71, Sz_71, Ng_71, Hs_71, Gs_71⟩ := id Fa_70
        refine own_st (X_69.iaload hx (j := i) (v := (.int (1 : Int32))) (by rw [e_69]; exact Ar_71.1) (State.isArrayOf_alike hZ.alike Ar_71.2.1) Ar_71.2.2 (inb_of Sz_71 ⟨hi0, hc199__2⟩) (Hs_71.at (j := i) (inb_of Sz_71 ⟨hi0, hc199__2⟩) ((own_LI_get hi0 hc199__2).trans rfl)) (g := (mkF m 251 #[rv a1, iv 2, iv c_, rv ac, rv af, iv i] [(.int i), (.ref aw), (.int 1), (.int 1), (.ref ab)])) rfl rfl (hb hby d4_251)) ?_
        show own_Go _ _ _ _ (T_69.setTop (mkF m 252 #[rv a1, iv 2, iv c_, rv ac, rv af, iv i] [(.int 1), (.int 1), (.int 1), (.ref ab)]))
        refine o_iconst X_69 hx 1 (hb hby d4_252) rfl ?_
        refine o_icmpNo X_69 hx (hb hby d4_253) (teq (by decide : (1 : Int32) = (1 : Int32))).2 ?_
        refine o_iconst X_69 hx 1 (hb hby d4_256) rfl ?_
        refine o_goto X_69 hx (pc' := 261) (hb hby d4_257) (by decide) (by decide) ?_
        refine o_iand X_69 hx (hb hby d4_261) ?_
        show own_Go _ _ _ _ (T_69.setTop (mkF m 262 #[rv a1, iv 2, iv c_, rv ac, rv af, iv i] [(.int 1), (.int 1), (.ref ab)]))
        obtain ⟨cl_72, Ar_72, qk_72, Sz_72, Ng_72, Hs_72, Gs_72⟩ := id Fa_66
        obtain ⟨T_73, h_73, X_73, e_73, W_73, st_73⟩ := stZ X_69 hx hZ e_69 Ar_72 (j := (1 : Int32)) (inb_of Sz_72 ⟨by decide, by decide⟩) (g := (mkF m 262 #[rv a1, iv 2, iv c_, rv ac, rv af, iv i] [(.int 1), (.int 1), (.ref ab)])) rfl rfl (hb hby d4_262)
        refine own_st st_73 ?_
        have V_73 : Arv Z h_73 ab kb .boolean (3 : Int32) [(.int (1 : Int32)), (.int (1 : Int32)), (.int (1 : Int32))] (.int (0 : Int32)) := Arv.set Ar_72 qk_72 Sz_72 Ng_72 Hs_72 Gs_72 (by decide) W_73 1 rfl (Nat.le_of_ble_eq_true rfl)
        have N_73 := Fr.snoc X_73 N_59 g_ab
        show own_Go _ _ _ _ (T_73.setTop (mkF m 263 #[rv a1, iv 2, iv c_, rv ac, rv af, iv i] []))
        refine o_iinc X_73 hx (hb hby d4_263) rfl (l' := #[rv a1, iv 2, iv c_, rv ac, rv af, iv (i + (1 : Int32))]) rfl ?_
        refine o_goto X_73 hx (pc' := 193) (hb hby d4_266) (by decide) (by decide) ?_
        have Zs_74 : n0 ≤ h_73.size := (Nat.le_trans (Nat.le_trans (Nat.le_trans Zh (Keep.of_wr W_56).1) (Keep.of_wr W_59).1) (Keep.of_wr W_73).1)
        have Kp_75 : Keep h0 h_73 [a1, ao, asx, am] := (((Kh.wr W_56 (Or.inr z_af)).wr W_59 (Or.inr z_p1_)).wr W_73 (Or.inr z_ab))
        have Fa_76 := (((E1.wr W_56).wr W_59).wr W_73)
        have Fa_77 := (((Fp.other W_56 (Or.inl n_a1_af)).other W_59 (Or.inl n_a1_p1_)).other W_73 (Or.inl n_a1_ab))
        have Fa_78 := (Fa_68.other W_73 (Or.inl n_a1_ab))
        have Fa_79 := (Fa_62.other W_73 (Or.inl n_a1_ab))
        have Fa_80 := (((Fs.other W_56 (Or.inl n_a1_af)).other W_59 (Or.inl n_a1_p1_)).other W_73 (Or.inl n_a1_ab))
        have Fa_81 := (((Fm.other W_56 (Or.inl n_a1_af)).other W_59 (Or.inl n_a1_p1_)).other W_73 (Or.inl n_a1_ab))
        have Fa_82 := (((Fn.other W_56 (Or.inl n_a1_af)).other W_59 (Or.inl n_a1_p1_)).other W_73 (Or.inl n_a1_ab))
        have Fa_83 := (((Fq.other W_56 (Or.inl n_a1_af)).other W_59 (Or.inl n_a1_p1_)).other W_73 (Or.inl n_a1_ab))
        have Fa_84 := (Fa_60.other W_73 (Or.inl n_a1_ab))
        have Fa_85 := (((Fc.other W_56 (Or.inl n_a1_af)).other W_59 (Or.inl n_a1_p1_)).other W_73 (Or.inl n_a1_ab))
        have Fa_86 := (Fa_70.other W_73 n_aw_ab)
        have Fa_87 := (Fa_64.other W_73 n_ao_ab)
        have Fa_88 := (((Vs.other W_56 n_asx_af).other W_59 n_asx_p1_).other W_73 n_asx_ab)
        have Fa_89 := (((Vm.other W_56 n_am_af).other W_59 n_am_p1_).other W_73 n_am_ab)
        have Fa_90 := ((V_56.other W_59 (Ne.symm n_p1__af)).other W_73 (Ne.symm n_ab_af))
        have Fa_91 := (((Vp.other W_56 n_ap_af).other W_59 n_ap_p1_).other W_73 n_ap_ab)
        have Fa_92 := (((Vp0.other W_56 n_p0__af).other W_59 (Ne.symm n_p1__p0_)).other W_73 n_p0__ab)
        have Fa_93 := (V_59.other W_73 n_p1__ab)
        have Fa_94 := (((Vp2.other W_56 n_p2__af).other W_59 n_p2__p1_).other W_73 n_p2__ab)
        exact ih T_73 _ h_73 (i + (1 : Int32)) c_ ac af ap ab p0_ p1_ p2_ kf kq kb kp0 kp1 kp2 gp0 (own_up gp1 y1.toNatClampNeg i) gp2 x0 x1 x2 y0 (y1 + (1 : Int32)) y2 go gs gm X_73 e_73 N_73 Zs_74 Kp_75 Fa_76 g1 Fa_77 Fa_78 Fa_79 Fa_80 Fa_81 Fa_82 Fa_83 Fa_84 Fa_85 Fa_86 Fa_87 Fa_88 Fa_89 go_ gs_ gm_ Fa_90 Fa_91 V_73 Fa_92 Fa_93 Fa_94 g_af z_af g_ab z_ab g_p0_ z_p0_ g_p1_ z_p1_ g_p2_ z_p2_ n_a1_af n_aw_af n_ao_af n_asx_af n_am_af n_ap_af n_ab_af n_p0__af n_p1__af n_p2__af n_a1_ab n_aw_ab n_ao_ab n_asx_ab n_am_ab n_ap_ab n_p0__ab n_p1__ab n_p2__ab n_a1_p0_ n_aw_p0_ n_ao_p0_ n_asx_p0_ n_am_p0_ n_ap_p0_ n_p1__p0_ n_p2__p0_ n_a1_p1_ n_aw_p1_ n_ao_p1_ n_asx_p1_ n_am_p1_ n_ap_p1_ n_p2__p1_ n_a1_p2_ n_aw_p2_ n_ao_p2_ n_asx_p2_ n_am_p2_ n_ap_p2_ n_ap_a1 (own_nx0 hi0 hc199__2) (own_nx1 hi0 hc199__2) hgo hgs hgm hnw hx0 hx1 hx2 (own_clO hi0 hc199__2 hgi_6 (congrArg Int32.toInt hk_6) (by decide) hy0) (own_clS hi0 hc199__2 hgi_6 (congrArg Int32.toInt hk_6) hy1) (own_clO hi0 hc199__2 hgi_6 (congrArg Int32.toInt hk_6) (by decide) hy2) (own_fS hi0 hc199__2 hfu)
      · rw [hk_6]
        show own_Go _ _ _ _ (T_4.setTop (mkF m 213 #[rv a1, iv 2, iv c_, rv ac, rv af, iv i] [(.int 2), (.ref ap)]))
        obtain ⟨cl_95, Ar_95, qk_95, Sz_95, Ng_95, Hs_95, Gs_95⟩ := id Vp
        refine own_st (X_4.aaload hx (j := (2 : Int32)) (v := (.ref p2_)) (by rw [e_4]; exact Ar_95.1) (State.isArrayOf_alike hZ.alike Ar_95.2.1) rfl Ar_95.2.2 (inb_of Sz_95 ⟨by decide, by decide⟩) (Hs_95.at (j := (2 : Int32)) (inb_of Sz_95 ⟨by decide, by decide⟩) rfl) (g := (mkF m 213 #[rv a1, iv 2, iv c_, rv ac, rv af, iv i] [(.int 2), (.ref ap)])) rfl rfl (hb hby d4_213)) ?_
        show own_Go _ _ _ _ (T_4.setTop (mkF m 214 #[rv a1, iv 2, iv c_, rv ac, rv af, iv i] [(.ref p2_)]))
        refine o_aload X_4 hx (hb hby d4_214) rfl rfl ?_
        refine o_aloadN X_4 hx (hb hby d4_216) rfl rfl ?_
        obtain ⟨T_96, X_96, e_96, st_96⟩ := getF X_4 hx hZ hown (host := "") (Or.inl (hw _ (List.mem_of_getElem? (i := 21) rfl))) Via.refl e_4 Fo (g := (mkF m 217 #[rv a1, iv 2, iv c_, rv ac, rv af, iv i] [(.ref a1), (.ref af), (.ref p2_)])) rfl rfl (hb hby d4_217)
        refine own_st st_96 ?_
        show own_Go _ _ _ _ (T_96.setTop (mkF m 220 #[rv a1, iv 2, iv c_, rv ac, rv af, iv i] [(.ref ao), (.ref af), (.ref p2_)]))
        refine o_iload X_96 hx (hb hby d4_220) rfl ?_
        obtain ⟨cl_97, Ar_97, qk_97, Sz_97, Ng_97, Hs_97, Gs_97⟩ := id Vo
        refine own_st (X_96.iaload hx (j := i) (v := (.int (2 : Int32))) (by rw [e_96]; exact Ar_97.1) (State.isArrayOf_alike hZ.alike Ar_97.2.1) Ar_97.2.2 (inb_of Sz_97 ⟨hi0, hc199__2⟩) (Hs_97.at (j := i) (inb_of Sz_97 ⟨hi0, hc199__2⟩) ((own_LI_get hi0 hc199__2).trans (congrArg Value.int hk_6))) (g := (mkF m 222 #[rv a1, iv 2, iv c_, rv ac, rv af, iv i] [(.int i), (.ref ao), (.ref af), (.ref p2_)])) rfl rfl (hb hby d4_222)) ?_
        show own_Go _ _ _ _ (T_96.setTop (mkF m 223 #[rv a1, iv 2, iv c_, rv ac, rv af, iv i] [(.int 2), (.ref af), (.ref p2_)]))
        refine o_dup2 X_96 hx (hb hby d4_223) rfl rfl ?_
        obtain ⟨cl_98, Ar_98, qk_98, Sz_98, Ng_98, Hs_98, Gs_98⟩ := id Vf
        refine own_st (X_96.iaload hx (j := (2 : Int32)) (v := (.int y2)) (by rw [e_96]; exact Ar_98.1) (State.isArrayOf_alike hZ.alike Ar_98.2.1) Ar_98.2.2 (inb_of Sz_98 ⟨by decide, by decide⟩) (Hs_98.at (j := (2 : Int32)) (inb_of Sz_98 ⟨by decide, by decide⟩) rfl) (g := (mkF m 224 #[rv a1, iv 2, iv c_, rv ac, rv af, iv i] [(.int 2), (.ref af), (.int 2), (.ref af), (.ref p2_)])) rfl rfl (hb hby d4_224)) ?_
        show own_Go _ _ _ _ (T_96.setTop (mkF m 225 #[rv a1, iv 2, iv c_, rv ac, rv af, iv i] [(.int y2), (.int 2), (.ref af), (.ref p2_)]))
        refine o_dupX2 X_96 hx (hb hby d4_225) rfl rfl rfl ?_
        refine o_iconst X_96 hx 1 (hb hby d4_226) rfl ?_
        refine o_iadd X_96 hx (hb hby d4_227) ?_
        obtain ⟨cl_99, Ar_99, qk_99, Sz_99, Ng_99, Hs_99, Gs_99⟩ := id Vf
        obtain ⟨T_100, h_100, X_100, e_100, W_100, st_100⟩ := stI X_96 hx hZ e_96 Ar_99 (j := (2 : Int32)) (inb_of Sz_99 ⟨by decide, by decide⟩) (g := (mkF m 228 #[rv a1, iv 2, iv c_, rv ac, rv af, iv i] [(.int (y2 + (1 : Int32))), (.int 2), (.ref af), (.int y2), (.ref p2_)])) rfl rfl (hb hby d4_228)
        refine own_st st_100 ?_
        have V_100 : Arv Z h_100 af kf .int (3 : Int32) [(.int y0), (.int y1), (.int (y2 + (1 : Int32)))] (.int (0 : Int32)) := Arv.set Ar_99 qk_99 Sz_99 Ng_99 Hs_99 Gs_99 rfl W_100 2 rfl (Nat.le_of_ble_eq_true rfl)
        have N_100 := Fr.snoc X_100 NF g_af
        show own_Go _ _ _ _ (T_100.setTop (mkF m 229 #[rv a1, iv 2, iv c_, rv ac, rv af, iv i] [(.int y2), (.ref p2_)]))
        refine o_iload X_100 hx (hb hby d4_229) rfl ?_
        have Fa_101 := (Vp2.other W_100 n_p2__af)
        obtain ⟨cl_102, Ar_102, qk_102, Sz_102, Ng_102, Hs_102, Gs_102⟩ := id Fa_101
        obtain ⟨T_103, h_103, X_103, e_103, W_103, st_103⟩ := stI X_100 hx hZ e_100 Ar_102 (j := y2) (inb_of Sz_102 ⟨(own_clnn hy2), (own_clt hi0 hc199__2 hgi_6 (congrArg Int32.toInt hk_6) hy2 hx2)⟩) (g := (mkF m 231 #[rv a1, iv 2, iv c_, rv ac, rv af, iv i] [(.int i), (.int y2), (.ref p2_)])) rfl rfl (hb hby d4_231)
        refine own_st st_103 ?_
        have V_103 : Arv Z h_103 p2_ kp2 .int x2 (own_LI (own_up gp2 y2.toNatClampNeg i) x2) (.int (0 : Int32)) := by have q := Arv.set Ar_102 qk_102 Sz_102 Ng_102 Hs_102 Gs_102 rfl W_103 y2.toNatClampNeg rfl (own_LI_lt (own_clnn hy2) (own_clt hi0 hc199__2 hgi_6 (congrArg Int32.toInt hk_6) hy2 hx2)); rw [own_LI_set] at q; exact q
        have N_103 := Fr.snoc X_103 N_100 g_p2_
        show own_Go _ _ _ _ (T_103.setTop (mkF m 232 #[rv a1, iv 2, iv c_, rv ac, rv af, iv i] []))
        refine o_aloadN X_103 hx (hb hby d4_232) rfl rfl ?_
        have Fa_104 := ((Fb.other W_100 (Or.inl n_a1_af)).other W_103 (Or.inl n_a1_p2_))
        obtain ⟨T_105, X_105, e_105, st_105⟩ := getF X_103 hx hZ hown (host := "") (Or.inl (hw _ (List.mem_of_getElem? (i := 43) rfl))) Via.refl e_103 Fa_104 (g := (mkF m 233 #[rv a1, iv 2, iv c_, rv ac, rv af, iv i] [(.ref a1)])) rfl rfl (hb hby d4_233)
        refine own_st st_105 ?_
        show own_Go _ _ _ _ (T_105.setTop (mkF m 236 #[rv a1, iv 2, iv c_, rv ac, rv af, iv i] [(.ref ab)]))
        refine o_aloadN X_105 hx (hb hby d4_236) rfl rfl ?_
        have Fa_106 := ((Fo.other W_100 (Or.inl n_a1_af)).other W_103 (Or.inl n_a1_p2_))
        obtain ⟨T_107, X_107, e_107, st_107⟩ := getF X_105 hx hZ hown (host := "") (Or.inl (hw _ (List.mem_of_getElem? (i := 21) rfl))) Via.refl e_105 Fa_106 (g := (mkF m 237 #[rv a1, iv 2, iv c_, rv ac, rv af, iv i] [(.ref a1), (.ref ab)])) rfl rfl (hb hby d4_237)
        refine own_st st_107 ?_
        show own_Go _ _ _ _ (T_107.setTop (mkF m 240 #[rv a1, iv 2, iv c_, rv ac, rv af, iv i] [(.ref ao), (.ref ab)]))
        refine o_iload X_107 hx (hb hby d4_240) rfl ?_
        have Fa_108 := ((Vo.other W_100 n_ao_af).other W_103 n_ao_p2_)
        obtain ⟨cl_109, Ar_109, qk_109, Sz_109, Ng_109, Hs_109, Gs_109⟩ := id Fa_108
        refine own_st (X_107.iaload hx (j := i) (v := (.int (2 : Int32))) (by rw [e_107]; exact Ar_109.1) (State.isArrayOf_alike hZ.alike Ar_109.2.1) Ar_109.2.2 (inb_of Sz_109 ⟨hi0, hc199__2⟩) (Hs_109.at (j := i) (inb_of Sz_109 ⟨hi0, hc199__2⟩) ((own_LI_get hi0 hc199__2).trans (congrArg Value.int hk_6))) (g := (mkF m 242 #[rv a1, iv 2, iv c_, rv ac, rv af, iv i] [(.int i), (.ref ao), (.ref ab)])) rfl rfl (hb hby d4_242)) ?_
        show own_Go _ _ _ _ (T_107.setTop (mkF m 243 #[rv a1, iv 2, iv c_, rv ac, rv af, iv i] [(.int 2), (.ref ab)]))
        refine o_dup2 X_107 hx (hb hby d4_243) rfl rfl ?_
        have Fa_110 := ((Vb.other W_100 n_ab_af).other W_103 (Ne.symm n_p2__ab))
        obtain ⟨cl_111, Ar_111, qk_111, Sz_111, Ng_111, Hs_111, Gs_111⟩ := id Fa_110
        refine own_st (X_107.baloadBooleans hx (j := (2 : Int32)) (v := (.int (1 : Int32))) (by rw [e_107]; exact Ar_111.1) (State.isArrayOf_alike hZ.alike Ar_111.2.1) Ar_111.2.2 (inb_of Sz_111 ⟨by decide, by decide⟩) (Hs_111.at (j := (2 : Int32)) (inb_of Sz_111 ⟨by decide, by decide⟩) rfl) (g := (mkF m 244 #[rv a1, iv 2, iv c_, rv ac, rv af, iv i] [(.int 2), (.ref ab), (.int 2), (.ref ab)])) rfl rfl (hb hby d4_244)) ?_
        show own_Go _ _ _ _ (T_107.setTop (mkF m 245 #[rv a1, iv 2, iv c_, rv ac, rv af, iv i] [(.int 1), (.int 2), (.ref ab)]))
        refine o_aloadN X_107 hx (hb hby d4_245) rfl rfl ?_
        have Fa_112 := ((Fw.other W_100 (Or.inl n_a1_af)).other W_103 (Or.inl n_a1_p2_))
        obtain ⟨T_113, X_113, e_113, st_113⟩ := getF X_107 hx hZ hown (host := "") (Or.inl (hw _ (List.mem_of_getElem? (i := 19) rfl))) Via.refl e_107 Fa_112 (g := (mkF m 246 #[rv a1, iv 2, iv c_, rv ac, rv af, iv i] [(.ref a1), (.int 1), (.int 2), (.ref ab)])) rfl rfl (hb hby d4_246)
        refine own_st st_113 ?_
        show own_Go _ _ _ _ (T_113.setTop (mkF m 249 #[rv a1, iv 2, iv c_, rv ac, rv af, iv i] [(.ref aw), (.int 1), (.int 2), (.ref ab)]))
        refine o_iload X_113 hx (hb hby d4_249) rfl ?_
        have Fa_114 := ((Vw.other W_100 n_aw_af).other W_103 n_aw_p2_)
        obtain ⟨cl_115, Ar_115, qk_115, Sz_115, Ng_115, Hs_115, Gs_115⟩ := id Fa_114
        refine own_st (X_113.iaload hx (j := i) (v := (.int (1 : Int32))) (by rw [e_113]; exact Ar_115.1) (State.isArrayOf_alike hZ.alike Ar_115.2.1) Ar_115.2.2 (inb_of Sz_115 ⟨hi0, hc199__2⟩) (Hs_115.at (j := i) (inb_of Sz_115 ⟨hi0, hc199__2⟩) ((own_LI_get hi0 hc199__2).trans rfl)) (g := (mkF m 251 #[rv a1, iv 2, iv c_, rv ac, rv af, iv i] [(.int i), (.ref aw), (.int 1), (.int 2), (.ref ab)])) rfl rfl (hb hby d4_251)) ?_
        show own_Go _ _ _ _ (T_113.setTop (mkF m 252 #[rv a1, iv 2, iv c_, rv ac, rv af, iv i] [(.int 1), (.int 1), (.int 2), (.ref ab)]))
        refine o_iconst X_113 hx 1 (hb hby d4_252) rfl ?_
        refine o_icmpNo X_113 hx (hb hby d4_253) (teq (by decide : (1 : Int32) = (1 : Int32))).2 ?_
        refine o_iconst X_113 hx 1 (hb hby d4_256) rfl ?_
        refine o_goto X_113 hx (pc' := 261) (hb hby d4_257) (by decide) (by decide) ?_
        refine o_iand X_113 hx (hb hby d4_261) ?_
        show own_Go _ _ _ _ (T_113.setTop (mkF m 262 #[rv a1, iv 2, iv c_, rv ac, rv af, iv i] [(.int 1), (.int 2), (.ref ab)]))
        obtain ⟨cl_116, Ar_116, qk_116, Sz_116, Ng_116, Hs_116, Gs_116⟩ := id Fa_110
        obtain ⟨T_117, h_117, X_117, e_117, W_117, st_117⟩ := stZ X_113 hx hZ e_113 Ar_116 (j := (2 : Int32)) (inb_of Sz_116 ⟨by decide, by decide⟩) (g := (mkF m 262 #[rv a1, iv 2, iv c_, rv ac, rv af, iv i] [(.int 1), (.int 2), (.ref ab)])) rfl rfl (hb hby d4_262)
        refine own_st st_117 ?_
        have V_117 : Arv Z h_117 ab kb .boolean (3 : Int32) [(.int (1 : Int32)), (.int (1 : Int32)), (.int (1 : Int32))] (.int (0 : Int32)) := Arv.set Ar_116 qk_116 Sz_116 Ng_116 Hs_116 Gs_116 (by decide) W_117 2 rfl (Nat.le_of_ble_eq_true rfl)
        have N_117 := Fr.snoc X_117 N_103 g_ab
        show own_Go _ _ _ _ (T_117.setTop (mkF m 263 #[rv a1, iv 2, iv c_, rv ac, rv af, iv i] []))
        refine o_iinc X_117 hx (hb hby d4_263) rfl (l' := #[rv a1, iv 2, iv c_, rv ac, rv af, iv (i + (1 : Int32))]) rfl ?_
        refine o_goto X_117 hx (pc' := 193) (hb hby d4_266) (by decide) (by decide) ?_
        have Zs_118 : n0 ≤ h_117.size := (Nat.le_trans (Nat.le_trans (Nat.le_trans Zh (Keep.of_wr W_100).1) (Keep.of_wr W_103).1) (Keep.of_wr W_117).1)
        have Kp_119 : Keep h0 h_117 [a1, ao, asx, am] := (((Kh.wr W_100 (Or.inr z_af)).wr W_103 (Or.inr z_p2_)).wr W_117 (Or.inr z_ab))
        have Fa_120 := (((E1.wr W_100).wr W_103).wr W_117)
        have Fa_121 := (((Fp.other W_100 (Or.inl n_a1_af)).other W_103 (Or.inl n_a1_p2_)).other W_117 (Or.inl n_a1_ab))
        have Fa_122 := (Fa_112.other W_117 (Or.inl n_a1_ab))
        have Fa_123 := (Fa_106.other W_117 (Or.inl n_a1_ab))
        have Fa_124 := (((Fs.other W_100 (Or.inl n_a1_af)).other W_103 (Or.inl n_a1_p2_)).other W_117 (Or.inl n_a1_ab))
        have Fa_125 := (((Fm.other W_100 (Or.inl n_a1_af)).other W_103 (Or.inl n_a1_p2_)).other W_117 (Or.inl n_a1_ab))
        have Fa_126 := (((Fn.other W_100 (Or.inl n_a1_af)).other W_103 (Or.inl n_a1_p2_)).other W_117 (Or.inl n_a1_ab))
        have Fa_127 := (((Fq.other W_100 (Or.inl n_a1_af)).other W_103 (Or.inl n_a1_p2_)).other W_117 (Or.inl n_a1_ab))
        have Fa_128 := (Fa_104.other W_117 (Or.inl n_a1_ab))
        have Fa_129 := (((Fc.other W_100 (Or.inl n_a1_af)).other W_103 (Or.inl n_a1_p2_)).other W_117 (Or.inl n_a1_ab))
        have Fa_130 := (Fa_114.other W_117 n_aw_ab)
        have Fa_131 := (Fa_108.other W_117 n_ao_ab)
        have Fa_132 := (((Vs.other W_100 n_asx_af).other W_103 n_asx_p2_).other W_117 n_asx_ab)
        have Fa_133 := (((Vm.other W_100 n_am_af).other W_103 n_am_p2_).other W_117 n_am_ab)
        have Fa_134 := ((V_100.other W_103 (Ne.symm n_p2__af)).other W_117 (Ne.symm n_ab_af))
        have Fa_135 := (((Vp.other W_100 n_ap_af).other W_103 n_ap_p2_).other W_117 n_ap_ab)
        have Fa_136 := (((Vp0.other W_100 n_p0__af).other W_103 (Ne.symm n_p2__p0_)).other W_117 n_p0__ab)
        have Fa_137 := (((Vp1.other W_100 n_p1__af).other W_103 (Ne.symm n_p2__p1_)).other W_117 n_p1__ab)
        have Fa_138 := (V_103.other W_117 n_p2__ab)
        exact ih T_117 _ h_117 (i + (1 : Int32)) c_ ac af ap ab p0_ p1_ p2_ kf kq kb kp0 kp1 kp2 gp0 gp1 (own_up gp2 y2.toNatClampNeg i) x0 x1 x2 y0 y1 (y2 + (1 : Int32)) go gs gm X_117 e_117 N_117 Zs_118 Kp_119 Fa_120 g1 Fa_121 Fa_122 Fa_123 Fa_124 Fa_125 Fa_126 Fa_127 Fa_128 Fa_129 Fa_130 Fa_131 Fa_132 Fa_133 go_ gs_ gm_ Fa_134 Fa_135 V_117 Fa_136 Fa_137 Fa_138 g_af z_af g_ab z_ab g_p0_ z_p0_ g_p1_ z_p1_ g_p2_ z_p2_ n_a1_af n_aw_af n_ao_af n_asx_af n_am_af n_ap_af n_ab_af n_p0__af n_p1__af n_p2__af n_a1_ab n_aw_ab n_ao_ab n_asx_ab n_am_ab n_ap_ab n_p0__ab n_p1__ab n_p2__ab n_a1_p0_ n_aw_p0_ n_ao_p0_ n_asx_p0_ n_am_p0_ n_ap_p0_ n_p1__p0_ n_p2__p0_ n_a1_p1_ n_aw_p1_ n_ao_p1_ n_asx_p1_ n_am_p1_ n_ap_p1_ n_p2__p1_ n_a1_p2_ n_aw_p2_ n_ao_p2_ n_asx_p2_ n_am_p2_ n_ap_p2_ n_ap_a1 (own_nx0 hi0 hc199__2) (own_nx1 hi0 hc199__2) hgo hgs hgm hnw hx0 hx1 hx2 (own_clO hi0 hc199__2 hgi_6 (congrArg Int32.toInt hk_6) (by decide) hy0) (own_clO hi0 hc199__2 hgi_6 (congrArg Int32.toInt hk_6) (by decide) hy1) (own_clS hi0 hc199__2 hgi_6 (congrArg Int32.toInt hk_6) hy2) (own_fS hi0 hc199__2 hfu)
    · refine o_icmpYes X_1 hx (pc' := 269) (hb hby d4_199) (flt hc199__2).2.1 (by decide) (by decide) ?_
      refine o_bipush X_1 hx 32 (hb hby d4_269) rfl ?_
      refine o_aloadN X_1 hx (hb hby d4_271) rfl rfl ?_
      obtain ⟨T_139, X_139, e_139, st_139⟩ := getF X_1 hx hZ hown (host := "") (Or.inl (hw _ (List.mem_of_getElem? (i := 36) rfl))) Via.refl e_1 Fn (g := (mkF m 272 #[rv a1, iv 2, iv c_, rv ac, rv af, iv i] [(.ref a1), (.int 32)])) rfl rfl (hb hby d4_272)
      refine own_st st_139 ?_
      show own_Go _ _ _ _ (T_139.setTop (mkF m 275 #[rv a1, iv 2, iv c_, rv ac, rv af, iv i] [(.int 3), (.int 32)]))
      refine o_iconst X_139 hx 1 (hb hby d4_275) rfl ?_
      refine o_isub X_139 hx (hb hby d4_276) ?_
      show own_Go _ _ _ _ (T_139.setTop (mkF m 277 #[rv a1, iv 2, iv c_, rv ac, rv af, iv i] [(.int 2), (.int 32)]))
      obtain ⟨_, _, ⟨T_140, L_140, k_140, n_140⟩, -, X_140, ⟨Lc_140, hQ_140, l_140, y_140, z_140⟩, st_140⟩ := Jvm.LawKit.callS X_139 hx (y := (⟨"java/lang/Integer", "numberOfLeadingZeros", "(I)I"⟩ : MethodName)) hown (mvT hZ (hw _ (List.mem_of_getElem? (i := 46) rfl))) (mvT hZ (hw _ (List.mem_of_getElem? (i := 47) rfl))) (mvT hZ (hw _ (List.mem_of_getElem? (i := 48) rfl))) (mvT hZ (hw _ (List.mem_of_getElem? (i := 49) rfl))) (by decide) (backOf (W := 1) (rmnlz2 l Z a0 hw []   h n0 Zh) hZ (hw _ (List.mem_of_getElem? (i := 49) rfl)) (hw _ (List.mem_of_getElem? (i := 48) rfl)) (by decide) (by decide)) (g := (mkF m 277 #[rv a1, iv 2, iv c_, rv ac, rv af, iv i] [(.int 2), (.int 32)])) rfl (by rw [hml]; rfl) (argsL := [(.int 2)]) (rest := [(.int 32)]) (lenOf pd_1 rfl) rfl (by show 2 * 0 + _ ≤ _; exact Nat.le_of_eq rfl) (hb hby d4_277) (fun _ _ => ⟨rfl, e_139, (by decide : 7 + 0 ≤ _), (by decide : 204 + 0 ≤ _)⟩)
      dsimp only [Pt.U, Pt.locs, Pt.cells, Pt.slots] at X_140 l_140 y_140 z_140 st_140 hQ_140
      subst l_140 y_140 z_140
      obtain ⟨rfl, Nq_140, e_140⟩ := hQ_140
      have N_140 := Fr.app NF Nq_140
      refine own_st st_140 ?_
      show own_Go _ _ _ _ (T_140.setTop (mkF m 280 #[rv a1, iv 2, iv c_, rv ac, rv af, iv i] [(.int 30), (.int 32)]))
      refine o_isub X_140 hx (hb hby d4_280) ?_
      show own_Go _ _ _ _ (T_140.setTop (mkF m 281 #[rv a1, iv 2, iv c_, rv ac, rv af, iv i] [(.int 2)]))
      refine o_istore X_140 hx (hb hby d4_281) (l' := #[rv a1, iv 2, iv c_, rv ac, rv af, iv 2]) rfl ?_
      refine o_aloadN X_140 hx (hb hby d4_283) rfl rfl ?_
      refine o_iconst X_140 hx 0 (hb hby d4_284) rfl ?_
      refine o_bipush X_140 hx 16 (hb hby d4_285) rfl ?_
      refine o_iload X_140 hx (hb hby d4_287) rfl ?_
      refine o_isub X_140 hx (hb hby d4_289) ?_
      show own_Go _ _ _ _ (T_140.setTop (mkF m 290 #[rv a1, iv 2, iv c_, rv ac, rv af, iv 2] [(.int 14), (.int 0), (.ref a1)]))
      obtain ⟨_, _, ⟨T_141, L_141, k_141, n_141⟩, -, X_141, ⟨Lc_141, hQ_141, l_141, y_141, z_141⟩, st_141⟩ := Jvm.LawKit.callS X_140 hx (y := (⟨"java/lang/Math", "max", "(II)I"⟩ : MethodName)) hown (mvT hZ (hw _ (List.mem_of_getElem? (i := 50) rfl))) (mvT hZ (hw _ (List.mem_of_getElem? (i := 51) rfl))) (mvT hZ (hw _ (List.mem_of_getElem? (i := 52) rfl))) (mvT hZ (hw _ (List.mem_of_getElem? (i := 53) rfl))) (by decide) (backOf (W := 1) (rmmax14 l Z a0 hw []   h n0 Zh) hZ (hw _ (List.mem_of_getElem? (i := 53) rfl)) (hw _ (List.mem_of_getElem? (i := 52) rfl)) (by decide) (by decide)) (g := (mkF m 290 #[rv a1, iv 2, iv c_, rv ac, rv af, iv 2] [(.int 14), (.int 0), (.ref a1)])) rfl (by rw [hml]; rfl) (argsL := [(.int 0), (.int 14)]) (rest := [(.ref a1)]) (lenOf pd_2 rfl) rfl (by show 2 * 0 + _ ≤ _; exact Nat.le_of_eq rfl) (hb hby d4_290) (fun _ _ => ⟨rfl, e_140, (by decide : 7 + 0 ≤ _), (by decide : 204 + 0 ≤ _)⟩)
      dsimp only [Pt.U, Pt.locs, Pt.cells, Pt.slots] at X_141 l_141 y_141 z_141 st_141 hQ_141
      subst l_141 y_141 z_141
      obtain ⟨rfl, Nq_141, e_141⟩ := hQ_141
      have N_141 := Fr.app N_140 Nq_141
      refine own_st st_141 ?_
      show own_Go _ _ _ _ (T_141.setTop (mkF m 293 #[rv a1, iv 2, iv c_, rv ac, rv af, iv 2] [(.int 14), (.ref a1)]))
      obtain ⟨T_142, h_142, X_142, e_142, W_142, st_142⟩ := putF X_141 hx hZ hown (host := "") (Or.inl (hw _ (List.mem_of_getElem? (i := 54) rfl))) Via.refl e_141 Fc E1 (Or.inl (hw _ (List.mem_of_getElem? (i := 55) rfl))) (hw _ (List.mem_of_getElem? (i := 2) rfl)) (ty := .int) (by decide) rfl rfl (g := (mkF m 293 #[rv a1, iv 2, iv c_, rv ac, rv af, iv 2] [(.int 14), (.ref a1)])) rfl rfl (hb hby d4_293)
      refine own_st st_142 ?_
      have N_142 := Fr.snoc X_142 N_141 g1
      show own_Go _ _ _ _ (T_142.setTop (mkF m 296 #[rv a1, iv 2, iv c_, rv ac, rv af, iv 2] []))
      have Kp_143 : Keep h0 h_142 [a1, ao, asx, am] := (Kh.wr W_142 (Or.inl (List.mem_of_getElem? (i := 0) rfl)))
      have Fa_144 := (Fo.other W_142 (Or.inr (slot_ne (Or.inr (hw _ (List.mem_of_getElem? (i := 22) rfl))) (Or.inl (hw _ (List.mem_of_getElem? (i := 55) rfl))) (by decide) (t := (.array .int)) (t' := .int) (by decide) (by decide))))
      have Fa_145 := (Fs.other W_142 (Or.inr (slot_ne (Or.inr (hw _ (List.mem_of_getElem? (i := 24) rfl))) (Or.inl (hw _ (List.mem_of_getElem? (i := 55) rfl))) (by decide) (t := (.array .int)) (t' := .int) (by decide) (by decide))))
      have Fa_146 := (Fm.other W_142 (Or.inr (slot_ne (Or.inr (hw _ (List.mem_of_getElem? (i := 27) rfl))) (Or.inl (hw _ (List.mem_of_getElem? (i := 55) rfl))) (by decide) (t := (.array .long)) (t' := .int) (by decide) (by decide))))
      have Fa_147 := (Vo.other W_142 n_ao_a1)
      have Fa_148 := (Vs.other W_142 n_asx_a1)
      have Fa_149 := (Vm.other W_142 n_am_a1)
      exact own_end X_142 e_142 (v := none) (fun _ => rfl) hlk (fun fs hr => X_142.returnOut hx hret (hb hby d4_296) hr) (Q := Q_rmlay Z a0 a1 aw ao asx am kw ko ks km N fo0 fs0 fm0 h0 n0) ⟨go, gs, gm, rfl, N_142, Kp_143, Fa_144, Fa_145, Fa_146, Fa_147, Fa_148, Fa_149, hgo, hgs, hgm⟩ (by decide) (by decide)
set_option maxRecDepth 65536 in
set_option maxHeartbeats 40000000 in
theorem own_lay122_3 {p : Program} {l : Launch} {e : Env} {s : State} {m : MethodId} {below : List Frame} {meth : Method} {c : Code} {Z : State} {a0 : Array Value} {h0 : Heap} {n0 : Nat} (a1 : Addr) (aw : Addr) (ao : Addr) (asx : Addr) (am : Addr) (kw : ClassId) (ko : ClassId) (ks : ClassId) (km : ClassId) (N : Int32) (fo0 : Nat → Int32) (fs0 : Nat → Int32) (fm0 : Nat → Int64) (n_aw_a1 : aw ≠ a1) (n_ao_a1 : ao ≠ a1) (n_asx_a1 : asx ≠ a1) (n_am_a1 : am ≠ a1) (n_ao_aw : ao ≠ aw) (n_asx_aw : asx ≠ aw) (n_am_aw : am ≠ aw) (n_asx_ao : asx ≠ ao) (n_am_ao : am ≠ ao) (n_am_asx : am ≠ asx) (hN1 : ¬ N < (1 : Int32)) (hN2 : ¬ (256 : Int32) < N)
    (hx : p.tables.exec = Jvm.exec) (hZ : Z.Warmed39 s.vm) (hw : ∀ d ∈ tables_1, d.before a0 Z = true) (hby : c.code = prog_3_method_15_code) (hml : c.maxLocals = 6) (hown : s.vm.findClass "com/example/causyn/causyn/analysis/MarkingStore" = some m.cls) (hret : meth.sig.returnType = none) (hlk : meth.locks = false) :
    ∀ (T : State) (locs : List Loc) (h : Heap) (i : Int32) (c_ : Int32) (ac : Addr) (kc : ClassId) (x0 : Int32) (x1 : Int32) (x2 : Int32) (go : Nat → Int32) (gs : Nat → Int32) (gm : Nat → Int64) (X : Stand p l e ({ frames := 1, cells := 8, slots := 272, locals := 14 } : Room) s m #[(.ref a1)] below meth c T locs 1 3) (eT : T.heap = h) (NF : Fr n0 locs) (Zh : n0 ≤ h.size) (Kh : Keep h0 h [a1, ao, asx, am]) (E1 : Exa Z h a1 "com/example/causyn/causyn/analysis/MarkingStore") (g1 : n0 ≤ a1) (Fp : Fld Z h a1 "com/example/causyn/causyn/analysis/MarkingStore" "places" "I" (.int N)) (Fw : Fld Z h a1 "com/example/causyn/causyn/analysis/MarkingStore" "width" "[I" (.ref aw)) (Fo : Fld Z h a1 "com/example/causyn/causyn/analysis/MarkingStore" "word" "[I" (.ref ao)) (Fs : Fld Z h a1 "com/example/causyn/causyn/analysis/MarkingStore" "shift" "[I" (.ref asx)) (Fm : Fld Z h a1 "com/example/causyn/causyn/analysis/MarkingStore" "mask" "[J" (.ref am)) (Fn : Fld Z h a1 "com/example/causyn/causyn/analysis/MarkingStore" "words" "I" (.int (3 : Int32))) (Fq : Fld Z h a1 "com/example/causyn/causyn/analysis/MarkingStore" "placesInWord" "[[I" .null) (Fb : Fld Z h a1 "com/example/causyn/causyn/analysis/MarkingStore" "bitsOnly" "[Z" .null) (Fc : Fld Z h a1 "com/example/causyn/causyn/analysis/MarkingStore" "chunkBits" "I" (.int (0 : Int32))) (Vw : Arv Z h aw kw .int N (own_LI (fun _ => (1 : Int32)) N) (.int (0 : Int32))) (Vo : Arv Z h ao ko .int N (own_LI go N) (.int (0 : Int32))) (Vs : Arv Z h asx ks .int N (own_LI gs N) (.int (0 : Int32))) (Vm : Arv Z h am km .long N (own_LJ gm N) (.long (0 : Int64))) (go_ : n0 ≤ ao) (gs_ : n0 ≤ asx) (gm_ : n0 ≤ am) (Vc : Arv Z h ac kc .int (3 : Int32) [(.int x0), (.int x1), (.int x2)] (.int (0 : Int32))) (n_a1_ac : a1 ≠ ac) (n_aw_ac : aw ≠ ac) (n_ao_ac : ao ≠ ac) (n_asx_ac : asx ≠ ac) (n_am_ac : am ≠ ac) (hgo : ∀ j : Nat, (j : Int) < N.toInt → (go j).toInt = (j : Int) / 64) (hgs : ∀ j : Nat, (j : Int) < N.toInt → (gs j).toInt = (j : Int) % 64) (hgm : ∀ j : Nat, (j : Int) < N.toInt → gm j = (1 : Int64)) (hnw : own_nw N 3) (hx0 : x0.toInt = own_cl N.toInt 0) (hx1 : x1.toInt = own_cl N.toInt 1) (hx2 : x2.toInt = own_cl N.toInt 2), own_Go p.tables e below (fun o U' => ∃ v L, o = .returned v ∧ Q_rmlay Z a0 a1 aw ao asx am kw ko ks km N fo0 fs0 fm0 h0 n0 v U'.heap L ∧ FrameEnd s o U' L ({ frames := 1, cells := 8, slots := 272, locals := 14 } : Room).cells ({ frames := 1, cells := 8, slots := 272, locals := 14 } : Room).slots) (T.setTop (mkF m 122 #[rv a1, iv 2, iv c_, rv ac, iv i, .unset] [])) := by
  intro T locs h i c_ ac kc x0 x1 x2 go gs gm X eT NF Zh Kh E1 g1 Fp Fw Fo Fs Fm Fn Fq Fb Fc Vw Vo Vs Vm go_ gs_ gm_ Vc n_a1_ac n_aw_ac n_ao_ac n_asx_ac n_am_ac hgo hgs hgm hnw hx0 hx1 hx2
  refine o_aloadN X hx (hb hby d4_122) rfl rfl ?_
  refine o_aloadN X hx (hb hby d4_123) rfl rfl ?_
  obtain ⟨T_1, X_1, e_1, st_1⟩ := getF X hx hZ hown (host := "") (Or.inl (hw _ (List.mem_of_getElem? (i := 36) rfl))) Via.refl eT Fn (g := (mkF m 124 #[rv a1, iv 2, iv c_, rv ac, iv i, .unset] [(.ref a1), (.ref a1)])) rfl rfl (hb hby d4_124)
  refine own_st st_1 ?_
  show own_Go _ _ _ _ (T_1.setTop (mkF m 127 #[rv a1, iv 2, iv c_, rv ac, iv i, .unset] [(.int 3), (.ref a1)]))
  obtain ⟨T_2, h_2, k_2, X_2, e_2, E_2, A_2, -, O_2, st_2⟩ := newRA X_1 hx hZ hown (C := "[I") (ty := .int) (by decide +kernel) (hw _ (List.mem_of_getElem? (i := 38) rfl)) (hw _ (List.mem_of_getElem? (i := 39) rfl)) e_1 (g := (mkF m 127 #[rv a1, iv 2, iv c_, rv ac, iv i, .unset] [(.int 3), (.ref a1)])) rfl (hb hby d4_127) rfl (by decide) (cap := 3) (by decide) (by decide) (by decide) (by decide) rfl
  obtain ⟨b_2, g_2⟩ : ∃ z, z = h.size := ⟨_, rfl⟩
  rw [← g_2] at A_2 st_2
  have V_2 : Arv Z h_2 b_2 k_2 (.array .int) (3 : Int32) [.null, .null, .null] .null := (Arv.new A_2 (by decide)).pad (pad_rep [] .null 3)
  have gg_2 : n0 ≤ b_2 := Nat.le_trans Zh (Nat.le_of_eq g_2.symm)
  have sz_2 : h0.size ≤ b_2 := Nat.le_trans Kh.1 (Nat.le_of_eq g_2.symm)
  refine own_st st_2 ?_
  show own_Go _ _ _ _ (T_2.setTop (mkF m 130 #[rv a1, iv 2, iv c_, rv ac, iv i, .unset] [(.ref b_2), (.ref a1)]))
  have Fa_3 := (Fq.ext E_2)
  have Fa_4 := (E1.ext E_2)
  obtain ⟨T_5, h_5, X_5, e_5, W_5, st_5⟩ := putF X_2 hx hZ hown (host := "") (Or.inl (hw _ (List.mem_of_getElem? (i := 40) rfl))) Via.refl e_2 Fa_3 Fa_4 (Or.inl (hw _ (List.mem_of_getElem? (i := 41) rfl))) (hw _ (List.mem_of_getElem? (i := 2) rfl)) (ty := (.array (.array .int))) (by decide) rfl rfl (g := (mkF m 130 #[rv a1, iv 2, iv c_, rv ac, iv i, .unset] [(.ref b_2), (.ref a1)])) rfl rfl (hb hby d4_130)
  refine own_st st_5 ?_
  have N_5 := Fr.snoc X_5 NF g1
  show own_Go _ _ _ _ (T_5.setTop (mkF m 133 #[rv a1, iv 2, iv c_, rv ac, iv i, .unset] []))
  refine o_aloadN X_5 hx (hb hby d4_133) rfl rfl ?_
  refine o_aloadN X_5 hx (hb hby d4_134) rfl rfl ?_
  have Fa_6 := ((Fn.ext E_2).other W_5 (Or.inr (slot_ne (Or.inl (hw _ (List.mem_of_getElem? (i := 37) rfl))) (Or.inl (hw _ (List.mem_of_getElem? (i := 41) rfl))) (by decide) (t := .int) (t' := (.array (.array .int))) (by decide) (by decide))))
  obtain ⟨T_7, X_7, e_7, st_7⟩ := getF X_5 hx hZ hown (host := "") (Or.inl (hw _ (List.mem_of_getElem? (i := 36) rfl))) Via.refl e_5 Fa_6 (g := (mkF m 135 #[rv a1, iv 2, iv c_, rv ac, iv i, .unset] [(.ref a1), (.ref a1)])) rfl rfl (hb hby d4_135)
  refine own_st st_7 ?_
  show own_Go _ _ _ _ (T_7.setTop (mkF m 138 #[rv a1, iv 2, iv c_, rv ac, iv i, .unset] [(.int 3), (.ref a1)]))
  have Zs_8 : n0 ≤ h_5.size := (Nat.le_trans (Nat.le_trans Zh E_2.1) (Keep.of_wr W_5).1)
  have Kp_9 : Keep h0 h_5 [a1, ao, asx, am] := ((Kh.ext E_2).wr W_5 (Or.inl (List.mem_of_getElem? (i := 0) rfl)))
  obtain ⟨T_10, h_10, k_10, X_10, e_10, E_10, A_10, st_10⟩ := newP X_7 hx hZ (hw _ (List.mem_of_getElem? (i := 42) rfl)) e_7 (g := (mkF m 138 #[rv a1, iv 2, iv c_, rv ac, iv i, .unset] [(.int 3), (.ref a1)])) rfl (hb hby d4_138) rfl (by decide) (cap := 3) (by decide) (by decide) (by decide) (by decide)
  obtain ⟨b_10, g_10⟩ : ∃ z, z = h_5.size := ⟨_, rfl⟩
  rw [← g_10] at A_10 st_10
  have V_10 : Arv Z h_10 b_10 k_10 .boolean (3 : Int32) [(.int (0 : Int32)), (.int (0 : Int32)), (.int (0 : Int32))] (.int (0 : Int32)) := (Arv.new A_10 (by decide)).pad (pad_rep [] (.int (0 : Int32)) 3)
  have gg_10 : n0 ≤ b_10 := Nat.le_trans Zs_8 (Nat.le_of_eq g_10.symm)
  have sz_10 : h0.size ≤ b_10 := Nat.le_trans Kp_9.1 (Nat.le_of_eq g_10.symm)
  refine own_st st_10 ?_
  show own_Go _ _ _ _ (T_10.setTop (mkF m 140 #[rv a1, iv 2, iv c_, rv ac, iv i, .unset] [(.ref b_10), (.ref a1)]))
  have Fa_11 := (((Fb.ext E_2).other W_5 (Or.inr (slot_ne (Or.inl (hw _ (List.mem_of_getElem? (i := 44) rfl))) (Or.inl (hw _ (List.mem_of_getElem? (i := 41) rfl))) (by decide) (t := (.array .boolean)) (t' := (.array (.array .int))) (by decide) (by decide)))).ext E_10)
  have Fa_12 := ((Fa_4.wr W_5).ext E_10)
  obtain ⟨T_13, h_13, X_13, e_13, W_13, st_13⟩ := putF X_10 hx hZ hown (host := "") (Or.inl (hw _ (List.mem_of_getElem? (i := 43) rfl))) Via.refl e_10 Fa_11 Fa_12 (Or.inl (hw _ (List.mem_of_getElem? (i := 44) rfl))) (hw _ (List.mem_of_getElem? (i := 2) rfl)) (ty := (.array .boolean)) (by decide) rfl rfl (g := (mkF m 140 #[rv a1, iv 2, iv c_, rv ac, iv i, .unset] [(.ref b_10), (.ref a1)])) rfl rfl (hb hby d4_140)
  refine own_st st_13 ?_
  have N_13 := Fr.snoc X_13 N_5 g1
  show own_Go _ _ _ _ (T_13.setTop (mkF m 143 #[rv a1, iv 2, iv c_, rv ac, iv i, .unset] []))
  refine o_iconst X_13 hx 0 (hb hby d4_143) rfl ?_
  refine o_istore X_13 hx (hb hby d4_144) (l' := #[rv a1, iv 2, iv c_, rv ac, iv 0, .unset]) rfl ?_
  refine o_iload X_13 hx (hb hby d4_146) rfl ?_
  refine o_aloadN X_13 hx (hb hby d4_148) rfl rfl ?_
  have Fa_14 := ((Fa_6.ext E_10).other W_13 (Or.inr (slot_ne (Or.inl (hw _ (List.mem_of_getElem? (i := 37) rfl))) (Or.inl (hw _ (List.mem_of_getElem? (i := 44) rfl))) (by decide) (t := .int) (t' := (.array .boolean)) (by decide) (by decide))))
  obtain ⟨T_15, X_15, e_15, st_15⟩ := getF X_13 hx hZ hown (host := "") (Or.inl (hw _ (List.mem_of_getElem? (i := 36) rfl))) Via.refl e_13 Fa_14 (g := (mkF m 149 #[rv a1, iv 2, iv c_, rv ac, iv 0, .unset] [(.ref a1), (.int 0)])) rfl rfl (hb hby d4_149)
  refine own_st st_15 ?_
  show own_Go _ _ _ _ (T_15.setTop (mkF m 152 #[rv a1, iv 2, iv c_, rv ac, iv 0, .unset] [(.int 3), (.int 0)]))
  refine o_icmpNo X_15 hx (hb hby d4_152) (tlt (by decide : (0 : Int32) < (3 : Int32))).2.1 ?_
  refine o_aloadN X_15 hx (hb hby d4_155) rfl rfl ?_
  have Fa_16 := (((Fa_3.same W_5).ext E_10).other W_13 (Or.inr (slot_ne (Or.inl (hw _ (List.mem_of_getElem? (i := 41) rfl))) (Or.inl (hw _ (List.mem_of_getElem? (i := 44) rfl))) (by decide) (t := (.array (.array .int))) (t' := (.array .boolean)) (by decide) (by decide))))
  obtain ⟨T_17, X_17, e_17, st_17⟩ := getF X_15 hx hZ hown (host := "") (Or.inl (hw _ (List.mem_of_getElem? (i := 40) rfl))) Via.refl e_15 Fa_16 (g := (mkF m 156 #[rv a1, iv 2, iv c_, rv ac, iv 0, .unset] [(.ref a1)])) rfl rfl (hb hby d4_156)
  refine own_st st_17 ?_
  show own_Go _ _ _ _ (T_17.setTop (mkF m 159 #[rv a1, iv 2, iv c_, rv ac, iv 0, .unset] [(.ref b_2)]))
  refine o_iload X_17 hx (hb hby d4_159) rfl ?_
  refine o_aloadN X_17 hx (hb hby d4_161) rfl rfl ?_
  refine o_iload X_17 hx (hb hby d4_162) rfl ?_
  have Fa_18 := ((((Vc.ext E_2).other W_5 (Ne.symm n_a1_ac)).ext E_10).other W_13 (Ne.symm n_a1_ac))
  obtain ⟨cl_19, Ar_19, qk_19, Sz_19, Ng_19, Hs_19, Gs_19⟩ := id Fa_18
  refine own_st (X_17.iaload hx (j := (0 : Int32)) (v := (.int x0)) (by rw [e_17]; exact Ar_19.1) (State.isArrayOf_alike hZ.alike Ar_19.2.1) Ar_19.2.2 (inb_of Sz_19 ⟨by decide, by decide⟩) (Hs_19.at (j := (0 : Int32)) (inb_of Sz_19 ⟨by decide, by decide⟩) rfl) (g := (mkF m 164 #[rv a1, iv 2, iv c_, rv ac, iv 0, .unset] [(.int 0), (.ref ac), (.int 0), (.ref b_2)])) rfl rfl (hb hby d4_164)) ?_
  show own_Go _ _ _ _ (T_17.setTop (mkF m 165 #[rv a1, iv 2, iv c_, rv ac, iv 0, .unset] [(.int x0), (.int 0), (.ref b_2)]))
  have Zs_20 : n0 ≤ h_13.size := (Nat.le_trans (Nat.le_trans Zs_8 E_10.1) (Keep.of_wr W_13).1)
  have Kp_21 : Keep h0 h_13 [a1, ao, asx, am] := ((Kp_9.ext E_10).wr W_13 (Or.inl (List.mem_of_getElem? (i := 0) rfl)))
  obtain ⟨T_22, h_22, k_22, X_22, e_22, E_22, A_22, Ex_22, st_22⟩ := newPE X_17 hx hZ (hw _ (List.mem_of_getElem? (i := 14) rfl)) e_17 (g := (mkF m 165 #[rv a1, iv 2, iv c_, rv ac, iv 0, .unset] [(.int x0), (.int 0), (.ref b_2)])) rfl (hb hby d4_165) rfl (own_clnn hx0) (cap := 64) (own_clcap hx0) (by decide) (by decide) (by decide) (ad := "[I") (by decide +kernel)
  obtain ⟨b_22, g_22⟩ : ∃ z, z = h_13.size := ⟨_, rfl⟩
  rw [← g_22] at A_22 Ex_22 st_22
  have V_22 : Arv Z h_22 b_22 k_22 .int x0 (own_LI (fun _ => (0 : Int32)) x0) (.int (0 : Int32)) := (Arv.new A_22 (own_clnn hx0)).pad (own_LI_pad x0)
  have gg_22 : n0 ≤ b_22 := Nat.le_trans Zs_20 (Nat.le_of_eq g_22.symm)
  have sz_22 : h0.size ≤ b_22 := Nat.le_trans Kp_21.1 (Nat.le_of_eq g_22.symm)
  refine own_st st_22 ?_
  show own_Go _ _ _ _ (T_22.setTop (mkF m 167 #[rv a1, iv 2, iv c_, rv ac, iv 0, .unset] [(.ref b_22), (.int 0), (.ref b_2)]))
  have Fa_23 := ((((V_2.other W_5 (Ne.symm (Nat.ne_of_lt (Nat.lt_of_lt_of_le Fp.lt (Nat.le_of_eq g_2.symm))))).ext E_10).other W_13 (Ne.symm (Nat.ne_of_lt (Nat.lt_of_lt_of_le Fp.lt (Nat.le_of_eq g_2.symm))))).ext E_22)
  obtain ⟨cl_24, Ar_24, qk_24, Sz_24, Ng_24, Hs_24, Gs_24⟩ := id Fa_23
  obtain ⟨T_25, h_25, X_25, e_25, W_25, st_25⟩ := stR X_22 hx hZ e_22 Ar_24 (j := (0 : Int32)) (inb_of Sz_24 ⟨by decide, by decide⟩) rfl (Sto.ofVA Ar_24 qk_24 O_2 (Ins.self Ex_22)) (g := (mkF m 167 #[rv a1, iv 2, iv c_, rv ac, iv 0, .unset] [(.ref b_22), (.int 0), (.ref b_2)])) rfl rfl (hb hby d4_167)
  refine own_st st_25 ?_
  have V_25 : Arv Z h_25 b_2 k_2 (.array .int) (3 : Int32) [(.ref b_22), .null, .null] .null := Arv.set Ar_24 qk_24 Sz_24 Ng_24 Hs_24 Gs_24 rfl W_25 0 rfl (Nat.le_of_ble_eq_true rfl)
  have N_25 := Fr.snoc X_25 N_13 gg_2
  show own_Go _ _ _ _ (T_25.setTop (mkF m 168 #[rv a1, iv 2, iv c_, rv ac, iv 0, .unset] []))
  refine o_aloadN X_25 hx (hb hby d4_168) rfl rfl ?_
  have Fa_26 := (((Fa_11.same W_13).ext E_22).other W_25 (Or.inl (Nat.ne_of_lt (Nat.lt_of_lt_of_le Fp.lt (Nat.le_of_eq g_2.symm)))))
  obtain ⟨T_27, X_27, e_27, st_27⟩ := getF X_25 hx hZ hown (host := "") (Or.inl (hw _ (List.mem_of_getElem? (i := 43) rfl))) Via.refl e_25 Fa_26 (g := (mkF m 169 #[rv a1, iv 2, iv c_, rv ac, iv 0, .unset] [(.ref a1)])) rfl rfl (hb hby d4_169)
  refine own_st st_27 ?_
  show own_Go _ _ _ _ (T_27.setTop (mkF m 172 #[rv a1, iv 2, iv c_, rv ac, iv 0, .unset] [(.ref b_10)]))
  refine o_iload X_27 hx (hb hby d4_172) rfl ?_
  refine o_iconst X_27 hx 1 (hb hby d4_174) rfl ?_
  have Fa_28 := (((V_10.other W_13 (Ne.symm (Nat.ne_of_lt (Nat.lt_of_lt_of_le Fa_6.lt (Nat.le_of_eq g_10.symm))))).ext E_22).other W_25 (Ne.symm (Nat.ne_of_lt (Nat.lt_of_lt_of_le (V_2.other W_5 (Ne.symm (Nat.ne_of_lt (Nat.lt_of_lt_of_le Fp.lt (Nat.le_of_eq g_2.symm))))).lt (Nat.le_of_eq g_10.symm)))))
  obtain ⟨cl_29, Ar_29, qk_29, Sz_29, Ng_29, Hs_29, Gs_29⟩ := id Fa_28
  obtain ⟨T_30, h_30, X_30, e_30, W_30, st_30⟩ := stZ X_27 hx hZ e_27 Ar_29 (j := (0 : Int32)) (inb_of Sz_29 ⟨by decide, by decide⟩) (g := (mkF m 175 #[rv a1, iv 2, iv c_, rv ac, iv 0, .unset] [(.int 1), (.int 0), (.ref b_10)])) rfl rfl (hb hby d4_175)
  refine own_st st_30 ?_
  have V_30 : Arv Z h_30 b_10 k_10 .boolean (3 : Int32) [(.int (1 : Int32)), (.int (0 : Int32)), (.int (0 : Int32))] (.int (0 : Int32)) := Arv.set Ar_29 qk_29 Sz_29 Ng_29 Hs_29 Gs_29 (by decide) W_30 0 rfl (Nat.le_of_ble_eq_true rfl)
  have N_30 := Fr.snoc X_30 N_25 gg_10
  show own_Go _ _ _ _ (T_30.setTop (mkF m 176 #[rv a1, iv 2, iv c_, rv ac, iv 0, .unset] []))
  refine o_iinc X_30 hx (hb hby d4_176) rfl (l' := #[rv a1, iv 2, iv c_, rv ac, iv 1, .unset]) rfl ?_
  refine o_goto X_30 hx (pc' := 146) (hb hby d4_179) (by decide) (by decide) ?_
  refine o_iload X_30 hx (hb hby d4_146) rfl ?_
  refine o_aloadN X_30 hx (hb hby d4_148) rfl rfl ?_
  have Fa_31 := (((Fa_14.ext E_22).other W_25 (Or.inl (Nat.ne_of_lt (Nat.lt_of_lt_of_le Fp.lt (Nat.le_of_eq g_2.symm))))).other W_30 (Or.inl (Nat.ne_of_lt (Nat.lt_of_lt_of_le Fa_6.lt (Nat.le_of_eq g_10.symm)))))
  obtain ⟨T_32, X_32, e_32, st_32⟩ := getF X_30 hx hZ hown (host := "") (Or.inl (hw _ (List.mem_of_getElem? (i := 36) rfl))) Via.refl e_30 Fa_31 (g := (mkF m 149 #[rv a1, iv 2, iv c_, rv ac, iv 1, .unset] [(.ref a1), (.int 1)])) rfl rfl (hb hby d4_149)
  refine own_st st_32 ?_
  show own_Go _ _ _ _ (T_32.setTop (mkF m 152 #[rv a1, iv 2, iv c_, rv ac, iv 1, .unset] [(.int 3), (.int 1)]))
  refine o_icmpNo X_32 hx (hb hby d4_152) (tlt (by decide : (1 : Int32) < (3 : Int32))).2.1 ?_
  refine o_aloadN X_32 hx (hb hby d4_155) rfl rfl ?_
  have Fa_33 := (((Fa_16.ext E_22).other W_25 (Or.inl (Nat.ne_of_lt (Nat.lt_of_lt_of_le Fp.lt (Nat.le_of_eq g_2.symm))))).other W_30 (Or.inl (Nat.ne_of_lt (Nat.lt_of_lt_of_le Fa_6.lt (Nat.le_of_eq g_10.symm)))))
  obtain ⟨T_34, X_34, e_34, st_34⟩ := getF X_32 hx hZ hown (host := "") (Or.inl (hw _ (List.mem_of_getElem? (i := 40) rfl))) Via.refl e_32 Fa_33 (g := (mkF m 156 #[rv a1, iv 2, iv c_, rv ac, iv 1, .unset] [(.ref a1)])) rfl rfl (hb hby d4_156)
  refine own_st st_34 ?_
  show own_Go _ _ _ _ (T_34.setTop (mkF m 159 #[rv a1, iv 2, iv c_, rv ac, iv 1, .unset] [(.ref b_2)]))
  refine o_iload X_34 hx (hb hby d4_159) rfl ?_
  refine o_aloadN X_34 hx (hb hby d4_161) rfl rfl ?_
  refine o_iload X_34 hx (hb hby d4_162) rfl ?_
  have Fa_35 := (((Fa_18.ext E_22).other W_25 (Nat.ne_of_lt (Nat.lt_of_lt_of_le Vc.lt (Nat.le_of_eq g_2.symm)))).other W_30 (Nat.ne_of_lt (Nat.lt_of_lt_of_le ((Vc.ext E_2).other W_5 (Ne.symm n_a1_ac)).lt (Nat.le_of_eq g_10.symm))))
  obtain ⟨cl_36, Ar_36, qk_36, Sz_36, Ng_36, Hs_36, Gs_36⟩ := id Fa_35
  refine own_st (X_34.iaload hx (j := (1 : Int32)) (v := (.int x1)) (by rw [e_34]; exact Ar_36.1) (State.isArrayOf_alike hZ.alike Ar_36.2.1) Ar_36.2.2 (inb_of Sz_36 ⟨by decide, by decide⟩) (Hs_36.at (j := (1 : Int32)) (inb_of Sz_36 ⟨by decide, by decide⟩) rfl) (g := (mkF m 164 #[rv a1, iv 2, iv c_, rv ac, iv 1, .unset] [(.int 1), (.ref ac), (.int 1), (.ref b_2)])) rfl rfl (hb hby d4_164)) ?_
  show own_Go _ _ _ _ (T_34.setTop (mkF m 165 #[rv a1, iv 2, iv c_, rv ac, iv 1, .unset] [(.int x1), (.int 1), (.ref b_2)]))
  have Zs_37 : n0 ≤ h_30.size := (Nat.le_trans (Nat.le_trans (Nat.le_trans Zs_20 E_22.1) (Keep.of_wr W_25).1) (Keep.of_wr W_30).1)
  have Kp_38 : Keep h0 h_30 [a1, ao, asx, am] := (((Kp_21.ext E_22).wr W_25 (Or.inr sz_2)).wr W_30 (Or.inr sz_10))
  obtain ⟨T_39, h_39, k_39, X_39, e_39, E_39, A_39, Ex_39, st_39⟩ := newPE X_34 hx hZ (hw _ (List.mem_of_getElem? (i := 14) rfl)) e_34 (g := (mkF m 165 #[rv a1, iv 2, iv c_, rv ac, iv 1, .unset] [(.int x1), (.int 1), (.ref b_2)])) rfl (hb hby d4_165) rfl (own_clnn hx1) (cap := 64) (own_clcap hx1) (by decide) (by decide) (by decide) (ad := "[I") (by decide +kernel)
  obtain ⟨b_39, g_39⟩ : ∃ z, z = h_30.size := ⟨_, rfl⟩
  rw [← g_39] at A_39 Ex_39 st_39
  have V_39 : Arv Z h_39 b_39 k_39 .int x1 (own_LI (fun _ => (0 : Int32)) x1) (.int (0 : Int32)) := (Arv.new A_39 (own_clnn hx1)).pad (own_LI_pad x1)
  have gg_39 : n0 ≤ b_39 := Nat.le_trans Zs_37 (Nat.le_of_eq g_39.symm)
  have sz_39 : h0.size ≤ b_39 := Nat.le_trans Kp_38.1 (Nat.le_of_eq g_39.symm)
  refine own_st st_39 ?_
  show own_Go _ _ _ _ (T_39.setTop (mkF m 167 #[rv a1, iv 2, iv c_, rv ac, iv 1, .unset] [(.ref b_39), (.int 1), (.ref b_2)]))
  have Fa_40 := ((V_25.other W_30 (Nat.ne_of_lt (Nat.lt_of_lt_of_le (V_2.other W_5 (Ne.symm (Nat.ne_of_lt (Nat.lt_of_lt_of_le Fp.lt (Nat.le_of_eq g_2.symm))))).lt (Nat.le_of_eq g_10.symm)))).ext E_39)
  obtain ⟨cl_41, Ar_41, qk_41, Sz_41, Ng_41, Hs_41, Gs_41⟩ := id Fa_40
  obtain ⟨T_42, h_42, X_42, e_42, W_42, st_42⟩ := stR X_39 hx hZ e_39 Ar_41 (j := (1 : Int32)) (inb_of Sz_41 ⟨by decide, by decide⟩) rfl (Sto.ofVA Ar_41 qk_41 O_2 (Ins.self Ex_39)) (g := (mkF m 167 #[rv a1, iv 2, iv c_, rv ac, iv 1, .unset] [(.ref b_39), (.int 1), (.ref b_2)])) rfl rfl (hb hby d4_167)
  refine own_st st_42 ?_
  have V_42 : Arv Z h_42 b_2 k_2 (.array .int) (3 : Int32) [(.ref b_22), (.ref b_39), .null] .null := Arv.set Ar_41 qk_41 Sz_41 Ng_41 Hs_41 Gs_41 rfl W_42 1 rfl (Nat.le_of_ble_eq_true rfl)
  have N_42 := Fr.snoc X_42 N_30 gg_2
  show own_Go _ _ _ _ (T_42.setTop (mkF m 168 #[rv a1, iv 2, iv c_, rv ac, iv 1, .unset] []))
  refine o_aloadN X_42 hx (hb hby d4_168) rfl rfl ?_
  have Fa_43 := (((Fa_26.other W_30 (Or.inl (Nat.ne_of_lt (Nat.lt_of_lt_of_le Fa_6.lt (Nat.le_of_eq g_10.symm))))).ext E_39).other W_42 (Or.inl (Nat.ne_of_lt (Nat.lt_of_lt_of_le Fp.lt (Nat.le_of_eq g_2.symm)))))
  obtain ⟨T_44, X_44, e_44, st_44⟩ := getF X_42 hx hZ hown (host := "") (Or.inl (hw _ (List.mem_of_getElem? (i := 43) rfl))) Via.refl e_42 Fa_43 (g := (mkF m 169 #[rv a1, iv 2, iv c_, rv ac, iv 1, .unset] [(.ref a1)])) rfl rfl (hb hby d4_169)
  refine own_st st_44 ?_
  show own_Go _ _ _ _ (T_44.setTop (mkF m 172 #[rv a1, iv 2, iv c_, rv ac, iv 1, .unset] [(.ref b_10)]))
  refine o_iload X_44 hx (hb hby d4_172) rfl ?_
  refine o_iconst X_44 hx 1 (hb hby d4_174) rfl ?_
  have Fa_45 := ((V_30.ext E_39).other W_42 (Ne.symm (Nat.ne_of_lt (Nat.lt_of_lt_of_le (V_2.other W_5 (Ne.symm (Nat.ne_of_lt (Nat.lt_of_lt_of_le Fp.lt (Nat.le_of_eq g_2.symm))))).lt (Nat.le_of_eq g_10.symm)))))
  obtain ⟨cl_46, Ar_46, qk_46, Sz_46, Ng_46, Hs_46, Gs_46⟩ := id Fa_45
  obtain ⟨T_47, h_47, X_47, e_47, W_47, st_47⟩ := stZ X_44 hx hZ e_44 Ar_46 (j := (1 : Int32)) (inb_of Sz_46 ⟨by decide, by decide⟩) (g := (mkF m 175 #[rv a1, iv 2, iv c_, rv ac, iv 1, .unset] [(.int 1), (.int 1), (.ref b_10)])) rfl rfl (hb hby d4_175)
  refine own_st st_47 ?_
  have V_47 : Arv Z h_47 b_10 k_10 .boolean (3 : Int32) [(.int (1 : Int32)), (.int (1 : Int32)), (.int (0 : Int32))] (.int (0 : Int32)) := Arv.set Ar_46 qk_46 Sz_46 Ng_46 Hs_46 Gs_46 (by decide) W_47 1 rfl (Nat.le_of_ble_eq_true rfl)
  have N_47 := Fr.snoc X_47 N_42 gg_10
  show own_Go _ _ _ _ (T_47.setTop (mkF m 176 #[rv a1, iv 2, iv c_, rv ac, iv 1, .unset] []))
  refine o_iinc X_47 hx (hb hby d4_176) rfl (l' := #[rv a1, iv 2, iv c_, rv ac, iv 2, .unset]) rfl ?_
  refine o_goto X_47 hx (pc' := 146) (hb hby d4_179) (by decide) (by decide) ?_
  refine o_iload X_47 hx (hb hby d4_146) rfl ?_
  refine o_aloadN X_47 hx (hb hby d4_148) rfl rfl ?_
  have Fa_48 := (((Fa_31.ext E_39).other W_42 (Or.inl (Nat.ne_of_lt (Nat.lt_of_lt_of_le Fp.lt (Nat.le_of_eq g_2.symm))))).other W_47 (Or.inl (Nat.ne_of_lt (Nat.lt_of_lt_of_le Fa_6.lt (Nat.le_of_eq g_10.symm)))))
  obtain ⟨T_49, X_49, e_49, st_49⟩ := getF X_47 hx hZ hown (host := "") (Or.inl (hw _ (List.mem_of_getElem? (i := 36) rfl))) Via.refl e_47 Fa_48 (g := (mkF m 149 #[rv a1, iv 2, iv c_, rv ac, iv 2, .unset] [(.ref a1), (.int 2)])) rfl rfl (hb hby d4_149)
  refine own_st st_49 ?_
  show own_Go _ _ _ _ (T_49.setTop (mkF m 152 #[rv a1, iv 2, iv c_, rv ac, iv 2, .unset] [(.int 3), (.int 2)]))
  refine o_icmpNo X_49 hx (hb hby d4_152) (tlt (by decide : (2 : Int32) < (3 : Int32))).2.1 ?_
  refine o_aloadN X_49 hx (hb hby d4_155) rfl rfl ?_
  have Fa_50 := (((Fa_33.ext E_39).other W_42 (Or.inl (Nat.ne_of_lt (Nat.lt_of_lt_of_le Fp.lt (Nat.le_of_eq g_2.symm))))).other W_47 (Or.inl (Nat.ne_of_lt (Nat.lt_of_lt_of_le Fa_6.lt (Nat.le_of_eq g_10.symm)))))
  obtain ⟨T_51, X_51, e_51, st_51⟩ := getF X_49 hx hZ hown (host := "") (Or.inl (hw _ (List.mem_of_getElem? (i := 40) rfl))) Via.refl e_49 Fa_50 (g := (mkF m 156 #[rv a1, iv 2, iv c_, rv ac, iv 2, .unset] [(.ref a1)])) rfl rfl (hb hby d4_156)
  refine own_st st_51 ?_
  show own_Go _ _ _ _ (T_51.setTop (mkF m 159 #[rv a1, iv 2, iv c_, rv ac, iv 2, .unset] [(.ref b_2)]))
  refine o_iload X_51 hx (hb hby d4_159) rfl ?_
  refine o_aloadN X_51 hx (hb hby d4_161) rfl rfl ?_
  refine o_iload X_51 hx (hb hby d4_162) rfl ?_
  have Fa_52 := (((Fa_35.ext E_39).other W_42 (Nat.ne_of_lt (Nat.lt_of_lt_of_le Vc.lt (Nat.le_of_eq g_2.symm)))).other W_47 (Nat.ne_of_lt (Nat.lt_of_lt_of_le ((Vc.ext E_2).other W_5 (Ne.symm n_a1_ac)).lt (Nat.le_of_eq g_10.symm))))
  obtain ⟨cl_53, Ar_53, qk_53, Sz_53, Ng_53, Hs_53, Gs_53⟩ := id Fa_52
  refine own_st (X_51.iaload hx (j := (2 : Int32)) (v := (.int x2)) (by rw [e_51]; exact Ar_53.1) (State.isArrayOf_alike hZ.alike Ar_53.2.1) Ar_53.2.2 (inb_of Sz_53 ⟨by decide, by decide⟩) (Hs_53.at (j := (2 : Int32)) (inb_of Sz_53 ⟨by decide, by decide⟩) rfl) (g := (mkF m 164 #[rv a1, iv 2, iv c_, rv ac, iv 2, .unset] [(.int 2), (.ref ac), (.int 2), (.ref b_2)])) rfl rfl (hb hby d4_164)) ?_
  show own_Go _ _ _ _ (T_51.setTop (mkF m 165 #[rv a1, iv 2, iv c_, rv ac, iv 2, .unset] [(.int x2), (.int 2), (.ref b_2)]))
  have Zs_54 : n0 ≤ h_47.size := (Nat.le_trans (Nat.le_trans (Nat.le_trans Zs_37 E_39.1) (Keep.of_wr W_42).1) (Keep.of_wr W_47).1)
  have Kp_55 : Keep h0 h_47 [a1, ao, asx, am] := (((Kp_38.ext E_39).wr W_42 (Or.inr sz_2)).wr W_47 (Or.inr sz_10))
  obtain ⟨T_56, h_56, k_56, X_56, e_56, E_56, A_56, Ex_56, st_56⟩ := newPE X_51 hx hZ (hw _ (List.mem_of_getElem? (i := 14) rfl)) e_51 (g := (mkF m 165 #[rv a1, iv 2, iv c_, rv ac, iv 2, .unset] [(.int x2), (.int 2), (.ref b_2)])) rfl (hb hby d4_165) rfl (own_clnn hx2) (cap := 64) (own_clcap hx2) (by decide) (by decide) (by decide) (ad := "[I") (by decide +kernel)
  obtain ⟨b_56, g_56⟩ : ∃ z, z = h_47.size := ⟨_, rfl⟩
  rw [← g_56] at A_56 Ex_56 st_56
  have V_56 : Arv Z h_56 b_56 k_56 .int x2 (own_LI (fun _ => (0 : Int32)) x2) (.int (0 : Int32)) := (Arv.new A_56 (own_clnn hx2)).pad (own_LI_pad x2)
  have gg_56 : n0 ≤ b_56 := Nat.le_trans Zs_54 (Nat.le_of_eq g_56.symm)
  have sz_56 : h0.size ≤ b_56 := Nat.le_trans Kp_55.1 (Nat.le_of_eq g_56.symm)
  refine own_st st_56 ?_
  show own_Go _ _ _ _ (T_56.setTop (mkF m 167 #[rv a1, iv 2, iv c_, rv ac, iv 2, .unset] [(.ref b_56), (.int 2), (.ref b_2)]))
  have Fa_57 := ((V_42.other W_47 (Nat.ne_of_lt (Nat.lt_of_lt_of_le (V_2.other W_5 (Ne.symm (Nat.ne_of_lt (Nat.lt_of_lt_of_le Fp.lt (Nat.le_of_eq g_2.symm))))).lt (Nat.le_of_eq g_10.symm)))).ext E_56)
  obtain ⟨cl_58, Ar_58, qk_58, Sz_58, Ng_58, Hs_58, Gs_58⟩ := id Fa_57
  obtain ⟨T_59, h_59, X_59, e_59, W_59, st_59⟩ := stR X_56 hx hZ e_56 Ar_58 (j := (2 : Int32)) (inb_of Sz_58 ⟨by decide, by decide⟩) rfl (Sto.ofVA Ar_58 qk_58 O_2 (Ins.self Ex_56)) (g := (mkF m 167 #[rv a1, iv 2, iv c_, rv ac, iv 2, .unset] [(.ref b_56), (.int 2), (.ref b_2)])) rfl rfl (hb hby d4_167)
  refine own_st st_59 ?_
  have V_59 : Arv Z h_59 b_2 k_2 (.array .int) (3 : Int32) [(.ref b_22), (.ref b_39), (.ref b_56)] .null := Arv.set Ar_58 qk_58 Sz_58 Ng_58 Hs_58 Gs_58 rfl W_59 2 rfl (Nat.le_of_ble_eq_true rfl)
  have N_59 := Fr.snoc X_59 N_47 gg_2
  show own_Go _ _ _ _ (T_59.setTop (mkF m 168 #[rv a1, iv 2, iv c_, rv ac, iv 2, .unset] []))
  refine o_aloadN X_59 hx (hb hby d4_168) rfl rfl ?_
  have Fa_60 := (((Fa_43.other W_47 (Or.inl (Nat.ne_of_lt (Nat.lt_of_lt_of_le Fa_6.lt (Nat.le_of_eq g_10.symm))))).ext E_56).other W_59 (Or.inl (Nat.ne_of_lt (Nat.lt_of_lt_of_le Fp.lt (Nat.le_of_eq g_2.symm)))))
  obtain ⟨T_61, X_61, e_61, st_61⟩ := getF X_59 hx hZ hown (host := "") (Or.inl (hw _ (List.mem_of_getElem? (i := 43) rfl))) Via.refl e_59 Fa_60 (g := (mkF m 169 #[rv a1, iv 2, iv c_, rv ac, iv 2, .unset] [(.ref a1)])) rfl rfl (hb hby d4_169)
  refine own_st st_61 ?_
  show own_Go _ _ _ _ (T_61.setTop (mkF m 172 #[rv a1, iv 2, iv c_, rv ac, iv 2, .unset] [(.ref b_10)]))
  refine o_iload X_61 hx (hb hby d4_172) rfl ?_
  refine o_iconst X_61 hx 1 (hb hby d4_174) rfl ?_
  have Fa_62 := ((V_47.ext E_56).other W_59 (Ne.symm (Nat.ne_of_lt (Nat.lt_of_lt_of_le (V_2.other W_5 (Ne.symm (Nat.ne_of_lt (Nat.lt_of_lt_of_le Fp.lt (Nat.le_of_eq g_2.symm))))).lt (Nat.le_of_eq g_10.symm)))))
  obtain ⟨cl_63, Ar_63, qk_63, Sz_63, Ng_63, Hs_63, Gs_63⟩ := id Fa_62
  obtain ⟨T_64, h_64, X_64, e_64, W_64, st_64⟩ := stZ X_61 hx hZ e_61 Ar_63 (j := (2 : Int32)) (inb_of Sz_63 ⟨by decide, by decide⟩) (g := (mkF m 175 #[rv a1, iv 2, iv c_, rv ac, iv 2, .unset] [(.int 1), (.int 2), (.ref b_10)])) rfl rfl (hb hby d4_175)
  refine own_st st_64 ?_
  have V_64 : Arv Z h_64 b_10 k_10 .boolean (3 : Int32) [(.int (1 : Int32)), (.int (1 : Int32)), (.int (1 : Int32))] (.int (0 : Int32)) := Arv.set Ar_63 qk_63 Sz_63 Ng_63 Hs_63 Gs_63 (by decide) W_64 2 rfl (Nat.le_of_ble_eq_true rfl)
  have N_64 := Fr.snoc X_64 N_59 gg_10
  show own_Go _ _ _ _ (T_64.setTop (mkF m 176 #[rv a1, iv 2, iv c_, rv ac, iv 2, .unset] []))
  refine o_iinc X_64 hx (hb hby d4_176) rfl (l' := #[rv a1, iv 2, iv c_, rv ac, iv 3, .unset]) rfl ?_
  refine o_goto X_64 hx (pc' := 146) (hb hby d4_179) (by decide) (by decide) ?_
  refine o_iload X_64 hx (hb hby d4_146) rfl ?_
  refine o_aloadN X_64 hx (hb hby d4_148) rfl rfl ?_
  have Fa_65 := (((Fa_48.ext E_56).other W_59 (Or.inl (Nat.ne_of_lt (Nat.lt_of_lt_of_le Fp.lt (Nat.le_of_eq g_2.symm))))).other W_64 (Or.inl (Nat.ne_of_lt (Nat.lt_of_lt_of_le Fa_6.lt (Nat.le_of_eq g_10.symm)))))
  obtain ⟨T_66, X_66, e_66, st_66⟩ := getF X_64 hx hZ hown (host := "") (Or.inl (hw _ (List.mem_of_getElem? (i := 36) rfl))) Via.refl e_64 Fa_65 (g := (mkF m 149 #[rv a1, iv 2, iv c_, rv ac, iv 3, .unset] [(.ref a1), (.int 3)])) rfl rfl (hb hby d4_149)
  refine own_st st_66 ?_
  show own_Go _ _ _ _ (T_66.setTop (mkF m 152 #[rv a1, iv 2, iv c_, rv ac, iv 3, .unset] [(.int 3), (.int 3)]))
  refine o_icmpYes X_66 hx (pc' := 182) (hb hby d4_152) (flt (by decide : ¬ ((3 : Int32) < (3 : Int32)))).2.1 (by decide) (by decide) ?_
  refine o_aloadN X_66 hx (hb hby d4_182) rfl rfl ?_
  obtain ⟨T_67, X_67, e_67, st_67⟩ := getF X_66 hx hZ hown (host := "") (Or.inl (hw _ (List.mem_of_getElem? (i := 36) rfl))) Via.refl e_66 Fa_65 (g := (mkF m 183 #[rv a1, iv 2, iv c_, rv ac, iv 3, .unset] [(.ref a1)])) rfl rfl (hb hby d4_183)
  refine own_st st_67 ?_
  show own_Go _ _ _ _ (T_67.setTop (mkF m 186 #[rv a1, iv 2, iv c_, rv ac, iv 3, .unset] [(.int 3)]))
  have Zs_68 : n0 ≤ h_64.size := (Nat.le_trans (Nat.le_trans (Nat.le_trans Zs_54 E_56.1) (Keep.of_wr W_59).1) (Keep.of_wr W_64).1)
  have Kp_69 : Keep h0 h_64 [a1, ao, asx, am] := (((Kp_55.ext E_56).wr W_59 (Or.inr sz_2)).wr W_64 (Or.inr sz_10))
  obtain ⟨T_70, h_70, k_70, X_70, e_70, E_70, A_70, st_70⟩ := newP X_67 hx hZ (hw _ (List.mem_of_getElem? (i := 14) rfl)) e_67 (g := (mkF m 186 #[rv a1, iv 2, iv c_, rv ac, iv 3, .unset] [(.int 3)])) rfl (hb hby d4_186) rfl (by decide) (cap := 3) (by decide) (by decide) (by decide) (by decide)
  obtain ⟨b_70, g_70⟩ : ∃ z, z = h_64.size := ⟨_, rfl⟩
  rw [← g_70] at A_70 st_70
  have V_70 : Arv Z h_70 b_70 k_70 .int (3 : Int32) [(.int (0 : Int32)), (.int (0 : Int32)), (.int (0 : Int32))] (.int (0 : Int32)) := (Arv.new A_70 (by decide)).pad (pad_rep [] (.int (0 : Int32)) 3)
  have gg_70 : n0 ≤ b_70 := Nat.le_trans Zs_68 (Nat.le_of_eq g_70.symm)
  have sz_70 : h0.size ≤ b_70 := Nat.le_trans Kp_69.1 (Nat.le_of_eq g_70.symm)
  refine own_st st_70 ?_
  show own_Go _ _ _ _ (T_70.setTop (mkF m 188 #[rv a1, iv 2, iv c_, rv ac, iv 3, .unset] [(.ref b_70)]))
  refine o_astore X_70 hx (hb hby d4_188) rfl (l' := #[rv a1, iv 2, iv c_, rv ac, rv b_70, .unset]) rfl ?_
  refine o_iconst X_70 hx 0 (hb hby d4_190) rfl ?_
  refine o_istore X_70 hx (hb hby d4_191) (l' := #[rv a1, iv 2, iv c_, rv ac, rv b_70, iv 0]) rfl ?_
  have Zs_71 : n0 ≤ h_70.size := (Nat.le_trans Zs_68 E_70.1)
  have Kp_72 : Keep h0 h_70 [a1, ao, asx, am] := (Kp_69.ext E_70)
  have Fa_73 := (((((((((((Fa_12.wr W_13).ext E_22).wr W_25).wr W_30).ext E_39).wr W_42).wr W_47).ext E_56).wr W_59).wr W_64).ext E_70)
  have Fa_74 := ((((((((((((((Fp.ext E_2).other W_5 (Or.inr (slot_ne (Or.inr (hw _ (List.mem_of_getElem? (i := 18) rfl))) (Or.inl (hw _ (List.mem_of_getElem? (i := 41) rfl))) (by decide) (t := .int) (t' := (.array (.array .int))) (by decide) (by decide)))).ext E_10).other W_13 (Or.inr (slot_ne (Or.inr (hw _ (List.mem_of_getElem? (i := 18) rfl))) (Or.inl (hw _ (List.mem_of_getElem? (i := 44) rfl))) (by decide) (t := .int) (t' := (.array .boolean)) (by decide) (by decide)))).ext E_22).other W_25 (Or.inl (Nat.ne_of_lt (Nat.lt_of_lt_of_le Fp.lt (Nat.le_of_eq g_2.symm))))).other W_30 (Or.inl (Nat.ne_of_lt (Nat.lt_of_lt_of_le Fa_6.lt (Nat.le_of_eq g_10.symm))))).ext E_39).other W_42 (Or.inl (Nat.ne_of_lt (Nat.lt_of_lt_of_le Fp.lt (Nat.le_of_eq g_2.symm))))).other W_47 (Or.inl (Nat.ne_of_lt (Nat.lt_of_lt_of_le Fa_6.lt (Nat.le_of_eq g_10.symm))))).ext E_56).other W_59 (Or.inl (Nat.ne_of_lt (Nat.lt_of_lt_of_le Fp.lt (Nat.le_of_eq g_2.symm))))).other W_64 (Or.inl (Nat.ne_of_lt (Nat.lt_of_lt_of_le Fa_6.lt (Nat.le_of_eq g_10.symm))))).ext E_70)
  have Fa_75 := ((((((((((((((Fw.ext E_2).other W_5 (Or.inr (slot_ne (Or.inr (hw _ (List.mem_of_getElem? (i := 20) rfl))) (Or.inl (hw _ (List.mem_of_getElem? (i := 41) rfl))) (by decide) (t := (.array .int)) (t' := (.array (.array .int))) (by decide) (by decide)))).ext E_10).other W_13 (Or.inr (slot_ne (Or.inr (hw _ (List.mem_of_getElem? (i := 20) rfl))) (Or.inl (hw _ (List.mem_of_getElem? (i := 44) rfl))) (by decide) (t := (.array .int)) (t' := (.array .boolean)) (by decide) (by decide)))).ext E_22).other W_25 (Or.inl (Nat.ne_of_lt (Nat.lt_of_lt_of_le Fw.lt (Nat.le_of_eq g_2.symm))))).other W_30 (Or.inl (Nat.ne_of_lt (Nat.lt_of_lt_of_le Fa_6.lt (Nat.le_of_eq g_10.symm))))).ext E_39).other W_42 (Or.inl (Nat.ne_of_lt (Nat.lt_of_lt_of_le Fw.lt (Nat.le_of_eq g_2.symm))))).other W_47 (Or.inl (Nat.ne_of_lt (Nat.lt_of_lt_of_le Fa_6.lt (Nat.le_of_eq g_10.symm))))).ext E_56).other W_59 (Or.inl (Nat.ne_of_lt (Nat.lt_of_lt_of_le Fw.lt (Nat.le_of_eq g_2.symm))))).other W_64 (Or.inl (Nat.ne_of_lt (Nat.lt_of_lt_of_le Fa_6.lt (Nat.le_of_eq g_10.symm))))).ext E_70)
  have Fa_76 := ((((((((((((((Fo.ext E_2).other W_5 (Or.inr (slot_ne (Or.inr (hw _ (List.mem_of_getElem? (i := 22) rfl))) (Or.inl (hw _ (List.mem_of_getElem? (i := 41) rfl))) (by decide) (t := (.array .int)) (t' := (.array (.array .int))) (by decide) (by decide)))).ext E_10).other W_13 (Or.inr (slot_ne (Or.inr (hw _ (List.mem_of_getElem? (i := 22) rfl))) (Or.inl (hw _ (List.mem_of_getElem? (i := 44) rfl))) (by decide) (t := (.array .int)) (t' := (.array .boolean)) (by decide) (by decide)))).ext E_22).other W_25 (Or.inl (Nat.ne_of_lt (Nat.lt_of_lt_of_le Fo.lt (Nat.le_of_eq g_2.symm))))).other W_30 (Or.inl (Nat.ne_of_lt (Nat.lt_of_lt_of_le Fa_6.lt (Nat.le_of_eq g_10.symm))))).ext E_39).other W_42 (Or.inl (Nat.ne_of_lt (Nat.lt_of_lt_of_le Fo.lt (Nat.le_of_eq g_2.symm))))).other W_47 (Or.inl (Nat.ne_of_lt (Nat.lt_of_lt_of_le Fa_6.lt (Nat.le_of_eq g_10.symm))))).ext E_56).other W_59 (Or.inl (Nat.ne_of_lt (Nat.lt_of_lt_of_le Fo.lt (Nat.le_of_eq g_2.symm))))).other W_64 (Or.inl (Nat.ne_of_lt (Nat.lt_of_lt_of_le Fa_6.lt (Nat.le_of_eq g_10.symm))))).ext E_70)
  have Fa_77 := ((((((((((((((Fs.ext E_2).other W_5 (Or.inr (slot_ne (Or.inr (hw _ (List.mem_of_getElem? (i := 24) rfl))) (Or.inl (hw _ (List.mem_of_getElem? (i := 41) rfl))) (by decide) (t := (.array .int)) (t' := (.array (.array .int))) (by decide) (by decide)))).ext E_10).other W_13 (Or.inr (slot_ne (Or.inr (hw _ (List.mem_of_getElem? (i := 24) rfl))) (Or.inl (hw _ (List.mem_of_getElem? (i := 44) rfl))) (by decide) (t := (.array .int)) (t' := (.array .boolean)) (by decide) (by decide)))).ext E_22).other W_25 (Or.inl (Nat.ne_of_lt (Nat.lt_of_lt_of_le Fs.lt (Nat.le_of_eq g_2.symm))))).other W_30 (Or.inl (Nat.ne_of_lt (Nat.lt_of_lt_of_le Fa_6.lt (Nat.le_of_eq g_10.symm))))).ext E_39).other W_42 (Or.inl (Nat.ne_of_lt (Nat.lt_of_lt_of_le Fs.lt (Nat.le_of_eq g_2.symm))))).other W_47 (Or.inl (Nat.ne_of_lt (Nat.lt_of_lt_of_le Fa_6.lt (Nat.le_of_eq g_10.symm))))).ext E_56).other W_59 (Or.inl (Nat.ne_of_lt (Nat.lt_of_lt_of_le Fs.lt (Nat.le_of_eq g_2.symm))))).other W_64 (Or.inl (Nat.ne_of_lt (Nat.lt_of_lt_of_le Fa_6.lt (Nat.le_of_eq g_10.symm))))).ext E_70)
  have Fa_78 := ((((((((((((((Fm.ext E_2).other W_5 (Or.inr (slot_ne (Or.inr (hw _ (List.mem_of_getElem? (i := 27) rfl))) (Or.inl (hw _ (List.mem_of_getElem? (i := 41) rfl))) (by decide) (t := (.array .long)) (t' := (.array (.array .int))) (by decide) (by decide)))).ext E_10).other W_13 (Or.inr (slot_ne (Or.inr (hw _ (List.mem_of_getElem? (i := 27) rfl))) (Or.inl (hw _ (List.mem_of_getElem? (i := 44) rfl))) (by decide) (t := (.array .long)) (t' := (.array .boolean)) (by decide) (by decide)))).ext E_22).other W_25 (Or.inl (Nat.ne_of_lt (Nat.lt_of_lt_of_le Fm.lt (Nat.le_of_eq g_2.symm))))).other W_30 (Or.inl (Nat.ne_of_lt (Nat.lt_of_lt_of_le Fa_6.lt (Nat.le_of_eq g_10.symm))))).ext E_39).other W_42 (Or.inl (Nat.ne_of_lt (Nat.lt_of_lt_of_le Fm.lt (Nat.le_of_eq g_2.symm))))).other W_47 (Or.inl (Nat.ne_of_lt (Nat.lt_of_lt_of_le Fa_6.lt (Nat.le_of_eq g_10.symm))))).ext E_56).other W_59 (Or.inl (Nat.ne_of_lt (Nat.lt_of_lt_of_le Fm.lt (Nat.le_of_eq g_2.symm))))).other W_64 (Or.inl (Nat.ne_of_lt (Nat.lt_of_lt_of_le Fa_6.lt (Nat.le_of_eq g_10.symm))))).ext E_70)
  have Fa_79 := (Fa_65.ext E_70)
  have Fa_80 := ((((Fa_50.ext E_56).other W_59 (Or.inl (Nat.ne_of_lt (Nat.lt_of_lt_of_le Fc.lt (Nat.le_of_eq g_2.symm))))).other W_64 (Or.inl (Nat.ne_of_lt (Nat.lt_of_lt_of_le Fa_6.lt (Nat.le_of_eq g_10.symm))))).ext E_70)
  have Fa_81 := ((Fa_60.other W_64 (Or.inl (Nat.ne_of_lt (Nat.lt_of_lt_of_le Fa_6.lt (Nat.le_of_eq g_10.symm))))).ext E_70)
  have Fa_82 := ((((((((((((((Fc.ext E_2).other W_5 (Or.inr (slot_ne (Or.inl (hw _ (List.mem_of_getElem? (i := 55) rfl))) (Or.inl (hw _ (List.mem_of_getElem? (i := 41) rfl))) (by decide) (t := .int) (t' := (.array (.array .int))) (by decide) (by decide)))).ext E_10).other W_13 (Or.inr (slot_ne (Or.inl (hw _ (List.mem_of_getElem? (i := 55) rfl))) (Or.inl (hw _ (List.mem_of_getElem? (i := 44) rfl))) (by decide) (t := .int) (t' := (.array .boolean)) (by decide) (by decide)))).ext E_22).other W_25 (Or.inl (Nat.ne_of_lt (Nat.lt_of_lt_of_le Fc.lt (Nat.le_of_eq g_2.symm))))).other W_30 (Or.inl (Nat.ne_of_lt (Nat.lt_of_lt_of_le Fa_6.lt (Nat.le_of_eq g_10.symm))))).ext E_39).other W_42 (Or.inl (Nat.ne_of_lt (Nat.lt_of_lt_of_le Fc.lt (Nat.le_of_eq g_2.symm))))).other W_47 (Or.inl (Nat.ne_of_lt (Nat.lt_of_lt_of_le Fa_6.lt (Nat.le_of_eq g_10.symm))))).ext E_56).other W_59 (Or.inl (Nat.ne_of_lt (Nat.lt_of_lt_of_le Fc.lt (Nat.le_of_eq g_2.symm))))).other W_64 (Or.inl (Nat.ne_of_lt (Nat.lt_of_lt_of_le Fa_6.lt (Nat.le_of_eq g_10.symm))))).ext E_70)
  have Fa_83 := ((((((((((((((Vw.ext E_2).other W_5 n_aw_a1).ext E_10).other W_13 n_aw_a1).ext E_22).other W_25 (Nat.ne_of_lt (Nat.lt_of_lt_of_le Vw.lt (Nat.le_of_eq g_2.symm)))).other W_30 (Nat.ne_of_lt (Nat.lt_of_lt_of_le ((Vw.ext E_2).other W_5 n_aw_a1).lt (Nat.le_of_eq g_10.symm)))).ext E_39).other W_42 (Nat.ne_of_lt (Nat.lt_of_lt_of_le Vw.lt (Nat.le_of_eq g_2.symm)))).other W_47 (Nat.ne_of_lt (Nat.lt_of_lt_of_le ((Vw.ext E_2).other W_5 n_aw_a1).lt (Nat.le_of_eq g_10.symm)))).ext E_56).other W_59 (Nat.ne_of_lt (Nat.lt_of_lt_of_le Vw.lt (Nat.le_of_eq g_2.symm)))).other W_64 (Nat.ne_of_lt (Nat.lt_of_lt_of_le ((Vw.ext E_2).other W_5 n_aw_a1).lt (Nat.le_of_eq g_10.symm)))).ext E_70)
  have Fa_84 := ((((((((((((((Vo.ext E_2).other W_5 n_ao_a1).ext E_10).other W_13 n_ao_a1).ext E_22).other W_25 (Nat.ne_of_lt (Nat.lt_of_lt_of_le Vo.lt (Nat.le_of_eq g_2.symm)))).other W_30 (Nat.ne_of_lt (Nat.lt_of_lt_of_le ((Vo.ext E_2).other W_5 n_ao_a1).lt (Nat.le_of_eq g_10.symm)))).ext E_39).other W_42 (Nat.ne_of_lt (Nat.lt_of_lt_of_le Vo.lt (Nat.le_of_eq g_2.symm)))).other W_47 (Nat.ne_of_lt (Nat.lt_of_lt_of_le ((Vo.ext E_2).other W_5 n_ao_a1).lt (Nat.le_of_eq g_10.symm)))).ext E_56).other W_59 (Nat.ne_of_lt (Nat.lt_of_lt_of_le Vo.lt (Nat.le_of_eq g_2.symm)))).other W_64 (Nat.ne_of_lt (Nat.lt_of_lt_of_le ((Vo.ext E_2).other W_5 n_ao_a1).lt (Nat.le_of_eq g_10.symm)))).ext E_70)
  have Fa_85 := ((((((((((((((Vs.ext E_2).other W_5 n_asx_a1).ext E_10).other W_13 n_asx_a1).ext E_22).other W_25 (Nat.ne_of_lt (Nat.lt_of_lt_of_le Vs.lt (Nat.le_of_eq g_2.symm)))).other W_30 (Nat.ne_of_lt (Nat.lt_of_lt_of_le ((Vs.ext E_2).other W_5 n_asx_a1).lt (Nat.le_of_eq g_10.symm)))).ext E_39).other W_42 (Nat.ne_of_lt (Nat.lt_of_lt_of_le Vs.lt (Nat.le_of_eq g_2.symm)))).other W_47 (Nat.ne_of_lt (Nat.lt_of_lt_of_le ((Vs.ext E_2).other W_5 n_asx_a1).lt (Nat.le_of_eq g_10.symm)))).ext E_56).other W_59 (Nat.ne_of_lt (Nat.lt_of_lt_of_le Vs.lt (Nat.le_of_eq g_2.symm)))).other W_64 (Nat.ne_of_lt (Nat.lt_of_lt_of_le ((Vs.ext E_2).other W_5 n_asx_a1).lt (Nat.le_of_eq g_10.symm)))).ext E_70)
  have Fa_86 := ((((((((((((((Vm.ext E_2).other W_5 n_am_a1).ext E_10).other W_13 n_am_a1).ext E_22).other W_25 (Nat.ne_of_lt (Nat.lt_of_lt_of_le Vm.lt (Nat.le_of_eq g_2.symm)))).other W_30 (Nat.ne_of_lt (Nat.lt_of_lt_of_le ((Vm.ext E_2).other W_5 n_am_a1).lt (Nat.le_of_eq g_10.symm)))).ext E_39).other W_42 (Nat.ne_of_lt (Nat.lt_of_lt_of_le Vm.lt (Nat.le_of_eq g_2.symm)))).other W_47 (Nat.ne_of_lt (Nat.lt_of_lt_of_le ((Vm.ext E_2).other W_5 n_am_a1).lt (Nat.le_of_eq g_10.symm)))).ext E_56).other W_59 (Nat.ne_of_lt (Nat.lt_of_lt_of_le Vm.lt (Nat.le_of_eq g_2.symm)))).other W_64 (Nat.ne_of_lt (Nat.lt_of_lt_of_le ((Vm.ext E_2).other W_5 n_am_a1).lt (Nat.le_of_eq g_10.symm)))).ext E_70)
  have Fa_87 := ((V_59.other W_64 (Nat.ne_of_lt (Nat.lt_of_lt_of_le (V_2.other W_5 (Ne.symm (Nat.ne_of_lt (Nat.lt_of_lt_of_le Fq.lt (Nat.le_of_eq g_2.symm))))).lt (Nat.le_of_eq g_10.symm)))).ext E_70)
  have Fa_88 := (V_64.ext E_70)
  have Fa_89 := (((((((((V_22.other W_25 (Ne.symm (Nat.ne_of_lt (Nat.lt_of_lt_of_le (((V_2.other W_5 (Ne.symm (Nat.ne_of_lt (Nat.lt_of_lt_of_le Fq.lt (Nat.le_of_eq g_2.symm))))).ext E_10).other W_13 (Ne.symm (Nat.ne_of_lt (Nat.lt_of_lt_of_le Fq.lt (Nat.le_of_eq g_2.symm))))).lt (Nat.le_of_eq g_22.symm))))).other W_30 (Ne.symm (Nat.ne_of_lt (Nat.lt_of_lt_of_le (V_10.other W_13 (Ne.symm (Nat.ne_of_lt (Nat.lt_of_lt_of_le Fa_6.lt (Nat.le_of_eq g_10.symm))))).lt (Nat.le_of_eq g_22.symm))))).ext E_39).other W_42 (Ne.symm (Nat.ne_of_lt (Nat.lt_of_lt_of_le (((V_2.other W_5 (Ne.symm (Nat.ne_of_lt (Nat.lt_of_lt_of_le Fq.lt (Nat.le_of_eq g_2.symm))))).ext E_10).other W_13 (Ne.symm (Nat.ne_of_lt (Nat.lt_of_lt_of_le Fq.lt (Nat.le_of_eq g_2.symm))))).lt (Nat.le_of_eq g_22.symm))))).other W_47 (Ne.symm (Nat.ne_of_lt (Nat.lt_of_lt_of_le (V_10.other W_13 (Ne.symm (Nat.ne_of_lt (Nat.lt_of_lt_of_le Fa_6.lt (Nat.le_of_eq g_10.symm))))).lt (Nat.le_of_eq g_22.symm))))).ext E_56).other W_59 (Ne.symm (Nat.ne_of_lt (Nat.lt_of_lt_of_le (((V_2.other W_5 (Ne.symm (Nat.ne_of_lt (Nat.lt_of_lt_of_le Fq.lt (Nat.le_of_eq g_2.symm))))).ext E_10).other W_13 (Ne.symm (Nat.ne_of_lt (Nat.lt_of_lt_of_le Fq.lt (Nat.le_of_eq g_2.symm))))).lt (Nat.le_of_eq g_22.symm))))).other W_64 (Ne.symm (Nat.ne_of_lt (Nat.lt_of_lt_of_le (V_10.other W_13 (Ne.symm (Nat.ne_of_lt (Nat.lt_of_lt_of_le Fa_6.lt (Nat.le_of_eq g_10.symm))))).lt (Nat.le_of_eq g_22.symm))))).ext E_70)
  have Fa_90 := ((((((V_39.other W_42 (Ne.symm (Nat.ne_of_lt (Nat.lt_of_lt_of_le (V_25.other W_30 (Nat.ne_of_lt (Nat.lt_of_lt_of_le (V_2.other W_5 (Ne.symm (Nat.ne_of_lt (Nat.lt_of_lt_of_le Fq.lt (Nat.le_of_eq g_2.symm))))).lt (Nat.le_of_eq g_10.symm)))).lt (Nat.le_of_eq g_39.symm))))).other W_47 (Ne.symm (Nat.ne_of_lt (Nat.lt_of_lt_of_le V_30.lt (Nat.le_of_eq g_39.symm))))).ext E_56).other W_59 (Ne.symm (Nat.ne_of_lt (Nat.lt_of_lt_of_le (V_25.other W_30 (Nat.ne_of_lt (Nat.lt_of_lt_of_le (V_2.other W_5 (Ne.symm (Nat.ne_of_lt (Nat.lt_of_lt_of_le Fq.lt (Nat.le_of_eq g_2.symm))))).lt (Nat.le_of_eq g_10.symm)))).lt (Nat.le_of_eq g_39.symm))))).other W_64 (Ne.symm (Nat.ne_of_lt (Nat.lt_of_lt_of_le V_30.lt (Nat.le_of_eq g_39.symm))))).ext E_70)
  have Fa_91 := (((V_56.other W_59 (Ne.symm (Nat.ne_of_lt (Nat.lt_of_lt_of_le (V_42.other W_47 (Nat.ne_of_lt (Nat.lt_of_lt_of_le (V_2.other W_5 (Ne.symm (Nat.ne_of_lt (Nat.lt_of_lt_of_le Fq.lt (Nat.le_of_eq g_2.symm))))).lt (Nat.le_of_eq g_10.symm)))).lt (Nat.le_of_eq g_56.symm))))).other W_64 (Ne.symm (Nat.ne_of_lt (Nat.lt_of_lt_of_le V_47.lt (Nat.le_of_eq g_56.symm))))).ext E_70)
  exact own_lay4_3 a1 aw ao asx am kw ko ks km N fo0 fs0 fm0 n_aw_a1 n_ao_a1 n_asx_a1 n_am_a1 n_ao_aw n_asx_aw n_am_aw n_asx_ao n_am_ao n_am_asx hN1 hN2 hx hZ hw hby hml hown hret hlk (N.toNatClampNeg + 1) T_70 _ h_70 (0 : Int32) c_ ac b_70 b_2 b_10 b_22 b_39 b_56 k_70 k_2 k_10 k_22 k_39 k_56 (fun _ => (0 : Int32)) (fun _ => (0 : Int32)) (fun _ => (0 : Int32)) x0 x1 x2 (0 : Int32) (0 : Int32) (0 : Int32) go gs gm X_70 e_70 N_64 Zs_71 Kp_72 Fa_73 g1 Fa_74 Fa_75 Fa_76 Fa_77 Fa_78 Fa_79 Fa_80 Fa_81 Fa_82 Fa_83 Fa_84 Fa_85 Fa_86 go_ gs_ gm_ V_70 Fa_87 Fa_88 Fa_89 Fa_90 Fa_91 gg_70 sz_70 gg_10 sz_10 gg_22 sz_22 gg_39 sz_39 gg_56 sz_56 (Nat.ne_of_lt (Nat.lt_of_lt_of_le Fa_65.lt (Nat.le_of_eq g_70.symm))) (Nat.ne_of_lt (Nat.lt_of_lt_of_le (((((((((((((Vw.ext E_2).other W_5 n_aw_a1).ext E_10).other W_13 n_aw_a1).ext E_22).other W_25 (Nat.ne_of_lt (Nat.lt_of_lt_of_le Vw.lt (Nat.le_of_eq g_2.symm)))).other W_30 (Nat.ne_of_lt (Nat.lt_of_lt_of_le ((Vw.ext E_2).other W_5 n_aw_a1).lt (Nat.le_of_eq g_10.symm)))).ext E_39).other W_42 (Nat.ne_of_lt (Nat.lt_of_lt_of_le Vw.lt (Nat.le_of_eq g_2.symm)))).other W_47 (Nat.ne_of_lt (Nat.lt_of_lt_of_le ((Vw.ext E_2).other W_5 n_aw_a1).lt (Nat.le_of_eq g_10.symm)))).ext E_56).other W_59 (Nat.ne_of_lt (Nat.lt_of_lt_of_le Vw.lt (Nat.le_of_eq g_2.symm)))).other W_64 (Nat.ne_of_lt (Nat.lt_of_lt_of_le ((Vw.ext E_2).other W_5 n_aw_a1).lt (Nat.le_of_eq g_10.symm)))).lt (Nat.le_of_eq g_70.symm))) (Nat.ne_of_lt (Nat.lt_of_lt_of_le (((((((((((((Vo.ext E_2).other W_5 n_ao_a1).ext E_10).other W_13 n_ao_a1).ext E_22).other W_25 (Nat.ne_of_lt (Nat.lt_of_lt_of_le Vo.lt (Nat.le_of_eq g_2.symm)))).other W_30 (Nat.ne_of_lt (Nat.lt_of_lt_of_le ((Vo.ext E_2).other W_5 n_ao_a1).lt (Nat.le_of_eq g_10.symm)))).ext E_39).other W_42 (Nat.ne_of_lt (Nat.lt_of_lt_of_le Vo.lt (Nat.le_of_eq g_2.symm)))).other W_47 (Nat.ne_of_lt (Nat.lt_of_lt_of_le ((Vo.ext E_2).other W_5 n_ao_a1).lt (Nat.le_of_eq g_10.symm)))).ext E_56).other W_59 (Nat.ne_of_lt (Nat.lt_of_lt_of_le Vo.lt (Nat.le_of_eq g_2.symm)))).other W_64 (Nat.ne_of_lt (Nat.lt_of_lt_of_le ((Vo.ext E_2).other W_5 n_ao_a1).lt (Nat.le_of_eq g_10.symm)))).lt (Nat.le_of_eq g_70.symm))) (Nat.ne_of_lt (Nat.lt_of_lt_of_le (((((((((((((Vs.ext E_2).other W_5 n_asx_a1).ext E_10).other W_13 n_asx_a1).ext E_22).other W_25 (Nat.ne_of_lt (Nat.lt_of_lt_of_le Vs.lt (Nat.le_of_eq g_2.symm)))).other W_30 (Nat.ne_of_lt (Nat.lt_of_lt_of_le ((Vs.ext E_2).other W_5 n_asx_a1).lt (Nat.le_of_eq g_10.symm)))).ext E_39).other W_42 (Nat.ne_of_lt (Nat.lt_of_lt_of_le Vs.lt (Nat.le_of_eq g_2.symm)))).other W_47 (Nat.ne_of_lt (Nat.lt_of_lt_of_le ((Vs.ext E_2).other W_5 n_asx_a1).lt (Nat.le_of_eq g_10.symm)))).ext E_56).other W_59 (Nat.ne_of_lt (Nat.lt_of_lt_of_le Vs.lt (Nat.le_of_eq g_2.symm)))).other W_64 (Nat.ne_of_lt (Nat.lt_of_lt_of_le ((Vs.ext E_2).other W_5 n_asx_a1).lt (Nat.le_of_eq g_10.symm)))).lt (Nat.le_of_eq g_70.symm))) (Nat.ne_of_lt (Nat.lt_of_lt_of_le (((((((((((((Vm.ext E_2).other W_5 n_am_a1).ext E_10).other W_13 n_am_a1).ext E_22).other W_25 (Nat.ne_of_lt (Nat.lt_of_lt_of_le Vm.lt (Nat.le_of_eq g_2.symm)))).other W_30 (Nat.ne_of_lt (Nat.lt_of_lt_of_le ((Vm.ext E_2).other W_5 n_am_a1).lt (Nat.le_of_eq g_10.symm)))).ext E_39).other W_42 (Nat.ne_of_lt (Nat.lt_of_lt_of_le Vm.lt (Nat.le_of_eq g_2.symm)))).other W_47 (Nat.ne_of_lt (Nat.lt_of_lt_of_le ((Vm.ext E_2).other W_5 n_am_a1).lt (Nat.le_of_eq g_10.symm)))).ext E_56).other W_59 (Nat.ne_of_lt (Nat.lt_of_lt_of_le Vm.lt (Nat.le_of_eq g_2.symm)))).other W_64 (Nat.ne_of_lt (Nat.lt_of_lt_of_le ((Vm.ext E_2).other W_5 n_am_a1).lt (Nat.le_of_eq g_10.symm)))).lt (Nat.le_of_eq g_70.symm))) (Nat.ne_of_lt (Nat.lt_of_lt_of_le (V_59.other W_64 (Nat.ne_of_lt (Nat.lt_of_lt_of_le (V_2.other W_5 (Ne.symm (Nat.ne_of_lt (Nat.lt_of_lt_of_le Fq.lt (Nat.le_of_eq g_2.symm))))).lt (Nat.le_of_eq g_10.symm)))).lt (Nat.le_of_eq g_70.symm))) (Nat.ne_of_lt (Nat.lt_of_lt_of_le V_64.lt (Nat.le_of_eq g_70.symm))) (Nat.ne_of_lt (Nat.lt_of_lt_of_le ((((((((Ex_22.wr W_25).wr W_30).ext E_39).wr W_42).wr W_47).ext E_56).wr W_59).wr W_64).lt (Nat.le_of_eq g_70.symm))) (Nat.ne_of_lt (Nat.lt_of_lt_of_le (((((Ex_39.wr W_42).wr W_47).ext E_56).wr W_59).wr W_64).lt (Nat.le_of_eq g_70.symm))) (Nat.ne_of_lt (Nat.lt_of_lt_of_le ((Ex_56.wr W_59).wr W_64).lt (Nat.le_of_eq g_70.symm))) (Nat.ne_of_lt (Nat.lt_of_lt_of_le Fa_6.lt (Nat.le_of_eq g_10.symm))) (Nat.ne_of_lt (Nat.lt_of_lt_of_le ((Vw.ext E_2).other W_5 n_aw_a1).lt (Nat.le_of_eq g_10.symm))) (Nat.ne_of_lt (Nat.lt_of_lt_of_le ((Vo.ext E_2).other W_5 n_ao_a1).lt (Nat.le_of_eq g_10.symm))) (Nat.ne_of_lt (Nat.lt_of_lt_of_le ((Vs.ext E_2).other W_5 n_asx_a1).lt (Nat.le_of_eq g_10.symm))) (Nat.ne_of_lt (Nat.lt_of_lt_of_le ((Vm.ext E_2).other W_5 n_am_a1).lt (Nat.le_of_eq g_10.symm))) (Nat.ne_of_lt (Nat.lt_of_lt_of_le (V_2.other W_5 (Ne.symm (Nat.ne_of_lt (Nat.lt_of_lt_of_le Fq.lt (Nat.le_of_eq g_2.symm))))).lt (Nat.le_of_eq g_10.symm))) (Ne.symm (Nat.ne_of_lt (Nat.lt_of_lt_of_le (V_10.other W_13 (Ne.symm (Nat.ne_of_lt (Nat.lt_of_lt_of_le Fa_6.lt (Nat.le_of_eq g_10.symm))))).lt (Nat.le_of_eq g_22.symm)))) (Ne.symm (Nat.ne_of_lt (Nat.lt_of_lt_of_le V_30.lt (Nat.le_of_eq g_39.symm)))) (Ne.symm (Nat.ne_of_lt (Nat.lt_of_lt_of_le V_47.lt (Nat.le_of_eq g_56.symm)))) (Nat.ne_of_lt (Nat.lt_of_lt_of_le (Fa_11.same W_13).lt (Nat.le_of_eq g_22.symm))) (Nat.ne_of_lt (Nat.lt_of_lt_of_le ((((Vw.ext E_2).other W_5 n_aw_a1).ext E_10).other W_13 n_aw_a1).lt (Nat.le_of_eq g_22.symm))) (Nat.ne_of_lt (Nat.lt_of_lt_of_le ((((Vo.ext E_2).other W_5 n_ao_a1).ext E_10).other W_13 n_ao_a1).lt (Nat.le_of_eq g_22.symm))) (Nat.ne_of_lt (Nat.lt_of_lt_of_le ((((Vs.ext E_2).other W_5 n_asx_a1).ext E_10).other W_13 n_asx_a1).lt (Nat.le_of_eq g_22.symm))) (Nat.ne_of_lt (Nat.lt_of_lt_of_le ((((Vm.ext E_2).other W_5 n_am_a1).ext E_10).other W_13 n_am_a1).lt (Nat.le_of_eq g_22.symm))) (Nat.ne_of_lt (Nat.lt_of_lt_of_le (((V_2.other W_5 (Ne.symm (Nat.ne_of_lt (Nat.lt_of_lt_of_le Fq.lt (Nat.le_of_eq g_2.symm))))).ext E_10).other W_13 (Ne.symm (Nat.ne_of_lt (Nat.lt_of_lt_of_le Fq.lt (Nat.le_of_eq g_2.symm))))).lt (Nat.le_of_eq g_22.symm))) (Ne.symm (Nat.ne_of_lt (Nat.lt_of_lt_of_le ((Ex_22.wr W_25).wr W_30).lt (Nat.le_of_eq g_39.symm)))) (Ne.symm (Nat.ne_of_lt (Nat.lt_of_lt_of_le (((((Ex_22.wr W_25).wr W_30).ext E_39).wr W_42).wr W_47).lt (Nat.le_of_eq g_56.symm)))) (Nat.ne_of_lt (Nat.lt_of_lt_of_le Fa_31.lt (Nat.le_of_eq g_39.symm))) (Nat.ne_of_lt (Nat.lt_of_lt_of_le (((((((Vw.ext E_2).other W_5 n_aw_a1).ext E_10).other W_13 n_aw_a1).ext E_22).other W_25 (Nat.ne_of_lt (Nat.lt_of_lt_of_le Vw.lt (Nat.le_of_eq g_2.symm)))).other W_30 (Nat.ne_of_lt (Nat.lt_of_lt_of_le ((Vw.ext E_2).other W_5 n_aw_a1).lt (Nat.le_of_eq g_10.symm)))).lt (Nat.le_of_eq g_39.symm))) (Nat.ne_of_lt (Nat.lt_of_lt_of_le (((((((Vo.ext E_2).other W_5 n_ao_a1).ext E_10).other W_13 n_ao_a1).ext E_22).other W_25 (Nat.ne_of_lt (Nat.lt_of_lt_of_le Vo.lt (Nat.le_of_eq g_2.symm)))).other W_30 (Nat.ne_of_lt (Nat.lt_of_lt_of_le ((Vo.ext E_2).other W_5 n_ao_a1).lt (Nat.le_of_eq g_10.symm)))).lt (Nat.le_of_eq g_39.symm))) (Nat.ne_of_lt (Nat.lt_of_lt_of_le (((((((Vs.ext E_2).other W_5 n_asx_a1).ext E_10).other W_13 n_asx_a1).ext E_22).other W_25 (Nat.ne_of_lt (Nat.lt_of_lt_of_le Vs.lt (Nat.le_of_eq g_2.symm)))).other W_30 (Nat.ne_of_lt (Nat.lt_of_lt_of_le ((Vs.ext E_2).other W_5 n_asx_a1).lt (Nat.le_of_eq g_10.symm)))).lt (Nat.le_of_eq g_39.symm))) (Nat.ne_of_lt (Nat.lt_of_lt_of_le (((((((Vm.ext E_2).other W_5 n_am_a1).ext E_10).other W_13 n_am_a1).ext E_22).other W_25 (Nat.ne_of_lt (Nat.lt_of_lt_of_le Vm.lt (Nat.le_of_eq g_2.symm)))).other W_30 (Nat.ne_of_lt (Nat.lt_of_lt_of_le ((Vm.ext E_2).other W_5 n_am_a1).lt (Nat.le_of_eq g_10.symm)))).lt (Nat.le_of_eq g_39.symm))) (Nat.ne_of_lt (Nat.lt_of_lt_of_le (V_25.other W_30 (Nat.ne_of_lt (Nat.lt_of_lt_of_le (V_2.other W_5 (Ne.symm (Nat.ne_of_lt (Nat.lt_of_lt_of_le Fq.lt (Nat.le_of_eq g_2.symm))))).lt (Nat.le_of_eq g_10.symm)))).lt (Nat.le_of_eq g_39.symm))) (Ne.symm (Nat.ne_of_lt (Nat.lt_of_lt_of_le ((Ex_39.wr W_42).wr W_47).lt (Nat.le_of_eq g_56.symm)))) (Nat.ne_of_lt (Nat.lt_of_lt_of_le Fa_48.lt (Nat.le_of_eq g_56.symm))) (Nat.ne_of_lt (Nat.lt_of_lt_of_le ((((((((((Vw.ext E_2).other W_5 n_aw_a1).ext E_10).other W_13 n_aw_a1).ext E_22).other W_25 (Nat.ne_of_lt (Nat.lt_of_lt_of_le Vw.lt (Nat.le_of_eq g_2.symm)))).other W_30 (Nat.ne_of_lt (Nat.lt_of_lt_of_le ((Vw.ext E_2).other W_5 n_aw_a1).lt (Nat.le_of_eq g_10.symm)))).ext E_39).other W_42 (Nat.ne_of_lt (Nat.lt_of_lt_of_le Vw.lt (Nat.le_of_eq g_2.symm)))).other W_47 (Nat.ne_of_lt (Nat.lt_of_lt_of_le ((Vw.ext E_2).other W_5 n_aw_a1).lt (Nat.le_of_eq g_10.symm)))).lt (Nat.le_of_eq g_56.symm))) (Nat.ne_of_lt (Nat.lt_of_lt_of_le ((((((((((Vo.ext E_2).other W_5 n_ao_a1).ext E_10).other W_13 n_ao_a1).ext E_22).other W_25 (Nat.ne_of_lt (Nat.lt_of_lt_of_le Vo.lt (Nat.le_of_eq g_2.symm)))).other W_30 (Nat.ne_of_lt (Nat.lt_of_lt_of_le ((Vo.ext E_2).other W_5 n_ao_a1).lt (Nat.le_of_eq g_10.symm)))).ext E_39).other W_42 (Nat.ne_of_lt (Nat.lt_of_lt_of_le Vo.lt (Nat.le_of_eq g_2.symm)))).other W_47 (Nat.ne_of_lt (Nat.lt_of_lt_of_le ((Vo.ext E_2).other W_5 n_ao_a1).lt (Nat.le_of_eq g_10.symm)))).lt (Nat.le_of_eq g_56.symm))) (Nat.ne_of_lt (Nat.lt_of_lt_of_le ((((((((((Vs.ext E_2).other W_5 n_asx_a1).ext E_10).other W_13 n_asx_a1).ext E_22).other W_25 (Nat.ne_of_lt (Nat.lt_of_lt_of_le Vs.lt (Nat.le_of_eq g_2.symm)))).other W_30 (Nat.ne_of_lt (Nat.lt_of_lt_of_le ((Vs.ext E_2).other W_5 n_asx_a1).lt (Nat.le_of_eq g_10.symm)))).ext E_39).other W_42 (Nat.ne_of_lt (Nat.lt_of_lt_of_le Vs.lt (Nat.le_of_eq g_2.symm)))).other W_47 (Nat.ne_of_lt (Nat.lt_of_lt_of_le ((Vs.ext E_2).other W_5 n_asx_a1).lt (Nat.le_of_eq g_10.symm)))).lt (Nat.le_of_eq g_56.symm))) (Nat.ne_of_lt (Nat.lt_of_lt_of_le ((((((((((Vm.ext E_2).other W_5 n_am_a1).ext E_10).other W_13 n_am_a1).ext E_22).other W_25 (Nat.ne_of_lt (Nat.lt_of_lt_of_le Vm.lt (Nat.le_of_eq g_2.symm)))).other W_30 (Nat.ne_of_lt (Nat.lt_of_lt_of_le ((Vm.ext E_2).other W_5 n_am_a1).lt (Nat.le_of_eq g_10.symm)))).ext E_39).other W_42 (Nat.ne_of_lt (Nat.lt_of_lt_of_le Vm.lt (Nat.le_of_eq g_2.symm)))).other W_47 (Nat.ne_of_lt (Nat.lt_of_lt_of_le ((Vm.ext E_2).other W_5 n_am_a1).lt (Nat.le_of_eq g_10.symm)))).lt (Nat.le_of_eq g_56.symm))) (Nat.ne_of_lt (Nat.lt_of_lt_of_le (V_42.other W_47 (Nat.ne_of_lt (Nat.lt_of_lt_of_le (V_2.other W_5 (Ne.symm (Nat.ne_of_lt (Nat.lt_of_lt_of_le Fq.lt (Nat.le_of_eq g_2.symm))))).lt (Nat.le_of_eq g_10.symm)))).lt (Nat.le_of_eq g_56.symm))) (Ne.symm (Nat.ne_of_lt (Nat.lt_of_lt_of_le Fq.lt (Nat.le_of_eq g_2.symm)))) (by decide) (own_N0 hN1) hgo hgs hgm hnw hx0 hx1 hx2 (own_cl0 (by decide)) (own_cl0 (by decide)) (own_cl0 (by decide)) (own_ff (own_N0 hN1))
set_option maxRecDepth 65536 in
set_option maxHeartbeats 40000000 in
theorem own_lay2_3 {p : Program} {l : Launch} {e : Env} {s : State} {m : MethodId} {below : List Frame} {meth : Method} {c : Code} {Z : State} {a0 : Array Value} {h0 : Heap} {n0 : Nat} (a1 : Addr) (aw : Addr) (ao : Addr) (asx : Addr) (am : Addr) (kw : ClassId) (ko : ClassId) (ks : ClassId) (km : ClassId) (N : Int32) (fo0 : Nat → Int32) (fs0 : Nat → Int32) (fm0 : Nat → Int64) (n_aw_a1 : aw ≠ a1) (n_ao_a1 : ao ≠ a1) (n_asx_a1 : asx ≠ a1) (n_am_a1 : am ≠ a1) (n_ao_aw : ao ≠ aw) (n_asx_aw : asx ≠ aw) (n_am_aw : am ≠ aw) (n_asx_ao : asx ≠ ao) (n_am_ao : am ≠ ao) (n_am_asx : am ≠ asx) (hN1 : ¬ N < (1 : Int32)) (hN2 : ¬ (256 : Int32) < N)
    (hx : p.tables.exec = Jvm.exec) (hZ : Z.Warmed39 s.vm) (hw : ∀ d ∈ tables_1, d.before a0 Z = true) (hby : c.code = prog_3_method_15_code) (hml : c.maxLocals = 6) (hown : s.vm.findClass "com/example/causyn/causyn/analysis/MarkingStore" = some m.cls) (hret : meth.sig.returnType = none) (hlk : meth.locks = false) :
    ∀ (fuel : Nat) (T : State) (locs : List Loc) (h : Heap) (i : Int32) (c_ : Int32) (ac : Addr) (kc : ClassId) (x0 : Int32) (x1 : Int32) (x2 : Int32) (go : Nat → Int32) (gs : Nat → Int32) (gm : Nat → Int64) (X : Stand p l e ({ frames := 1, cells := 8, slots := 272, locals := 14 } : Room) s m #[(.ref a1)] below meth c T locs 1 3) (eT : T.heap = h) (NF : Fr n0 locs) (Zh : n0 ≤ h.size) (Kh : Keep h0 h [a1, ao, asx, am]) (E1 : Exa Z h a1 "com/example/causyn/causyn/analysis/MarkingStore") (g1 : n0 ≤ a1) (Fp : Fld Z h a1 "com/example/causyn/causyn/analysis/MarkingStore" "places" "I" (.int N)) (Fw : Fld Z h a1 "com/example/causyn/causyn/analysis/MarkingStore" "width" "[I" (.ref aw)) (Fo : Fld Z h a1 "com/example/causyn/causyn/analysis/MarkingStore" "word" "[I" (.ref ao)) (Fs : Fld Z h a1 "com/example/causyn/causyn/analysis/MarkingStore" "shift" "[I" (.ref asx)) (Fm : Fld Z h a1 "com/example/causyn/causyn/analysis/MarkingStore" "mask" "[J" (.ref am)) (Fn : Fld Z h a1 "com/example/causyn/causyn/analysis/MarkingStore" "words" "I" (.int (3 : Int32))) (Fq : Fld Z h a1 "com/example/causyn/causyn/analysis/MarkingStore" "placesInWord" "[[I" .null) (Fb : Fld Z h a1 "com/example/causyn/causyn/analysis/MarkingStore" "bitsOnly" "[Z" .null) (Fc : Fld Z h a1 "com/example/causyn/causyn/analysis/MarkingStore" "chunkBits" "I" (.int (0 : Int32))) (Vw : Arv Z h aw kw .int N (own_LI (fun _ => (1 : Int32)) N) (.int (0 : Int32))) (Vo : Arv Z h ao ko .int N (own_LI go N) (.int (0 : Int32))) (Vs : Arv Z h asx ks .int N (own_LI gs N) (.int (0 : Int32))) (Vm : Arv Z h am km .long N (own_LJ gm N) (.long (0 : Int64))) (go_ : n0 ≤ ao) (gs_ : n0 ≤ asx) (gm_ : n0 ≤ am) (Vc : Arv Z h ac kc .int (3 : Int32) [(.int x0), (.int x1), (.int x2)] (.int (0 : Int32))) (g_ac : n0 ≤ ac) (z_ac : h0.size ≤ ac) (n_a1_ac : a1 ≠ ac) (n_aw_ac : aw ≠ ac) (n_ao_ac : ao ≠ ac) (n_asx_ac : asx ≠ ac) (n_am_ac : am ≠ ac) (hi0 : ¬ i < 0) (hi1 : ¬ N < i) (hgo : ∀ j : Nat, (j : Int) < N.toInt → (go j).toInt = (j : Int) / 64) (hgs : ∀ j : Nat, (j : Int) < N.toInt → (gs j).toInt = (j : Int) % 64) (hgm : ∀ j : Nat, (j : Int) < N.toInt → gm j = (1 : Int64)) (hnw : own_nw N 3) (hx0 : x0.toInt = own_cl i.toInt 0) (hx1 : x1.toInt = own_cl i.toInt 1) (hx2 : x2.toInt = own_cl i.toInt 2) (hfu : N.toInt - i.toInt < (fuel : Int)), own_Go p.tables e below (fun o U' => ∃ v L, o = .returned v ∧ Q_rmlay Z a0 a1 aw ao asx am kw ko ks km N fo0 fs0 fm0 h0 n0 v U'.heap L ∧ FrameEnd s o U' L ({ frames := 1, cells := 8, slots := 272, locals := 14 } : Room).cells ({ frames := 1, cells := 8, slots := 272, locals := 14 } : Room).slots) (T.setTop (mkF m 94 #[rv a1, iv 2, iv c_, rv ac, iv i, .unset] [])) := by
  intro fuel
  induction fuel with
  | zero => intro T locs h i c_ ac kc x0 x1 x2 go gs gm X eT NF Zh Kh E1 g1 Fp Fw Fo Fs Fm Fn Fq Fb Fc Vw Vo Vs Vm go_ gs_ gm_ Vc g_ac z_ac n_a1_ac n_aw_ac n_ao_ac n_asx_ac n_am_ac hi0 hi1 hgo hgs hgm hnw hx0 hx1 hx2 hfu; exact (own_f0 hi1 hfu).elim
  | succ fuel ih =>
    intro T locs h i c_ ac kc x0 x1 x2 go gs gm X eT NF Zh Kh E1 g1 Fp Fw Fo Fs Fm Fn Fq Fb Fc Vw Vo Vs Vm go_ gs_ gm_ Vc g_ac z_ac n_a1_ac n_aw_ac n_ao_ac n_asx_ac n_am_ac hi0 hi1 hgo hgs hgm hnw hx0 hx1 hx2 hfu
    refine o_iload X hx (hb hby d4_94) rfl ?_
    refine o_aloadN X hx (hb hby d4_96) rfl rfl ?_
    obtain ⟨T_1, X_1, e_1, st_1⟩ := getF X hx hZ hown (host := "") (Or.inl (hw _ (List.mem_of_getElem? (i := 17) rfl))) Via.refl eT Fp (g := (mkF m 97 #[rv a1, iv 2, iv c_, rv ac, iv i, .unset] [(.ref a1), (.int i)])) rfl rfl (hb hby d4_97)
    refine own_st st_1 ?_
    show own_Go _ _ _ _ (T_1.setTop (mkF m 100 #[rv a1, iv 2, iv c_, rv ac, iv i, .unset] [(.int N), (.int i)]))
    by_cases hc100__2 : i < N
    · refine o_icmpNo X_1 hx (hb hby d4_100) (tlt hc100__2).2.1 ?_
      refine o_aloadN X_1 hx (hb hby d4_103) rfl rfl ?_
      refine o_aloadN X_1 hx (hb hby d4_104) rfl rfl ?_
      obtain ⟨T_3, X_3, e_3, st_3⟩ := getF X_1 hx hZ hown (host := "") (Or.inl (hw _ (List.mem_of_getElem? (i := 21) rfl))) Via.refl e_1 Fo (g := (mkF m 105 #[rv a1, iv 2, iv c_, rv ac, iv i, .unset] [(.ref a1), (.ref ac)])) rfl rfl (hb hby d4_105)
      refine own_st st_3 ?_
      show own_Go _ _ _ _ (T_3.setTop (mkF m 108 #[rv a1, iv 2, iv c_, rv ac, iv i, .unset] [(.ref ao), (.ref ac)]))
      refine o_iload X_3 hx (hb hby d4_108) rfl ?_
      obtain ⟨cl_4, Ar_4, qk_4, Sz_4, Ng_4, Hs_4, Gs_4⟩ := id Vo
      refine own_st (X_3.iaload hx (j := i) (v := (.int (go i.toNatClampNeg))) (by rw [e_3]; exact Ar_4.1) (State.isArrayOf_alike hZ.alike Ar_4.2.1) Ar_4.2.2 (inb_of Sz_4 ⟨hi0, hc100__2⟩) (Hs_4.at (j := i) (inb_of Sz_4 ⟨hi0, hc100__2⟩) (own_LI_get hi0 hc100__2)) (g := (mkF m 110 #[rv a1, iv 2, iv c_, rv ac, iv i, .unset] [(.int i), (.ref ao), (.ref ac)])) rfl rfl (hb hby d4_110)) ?_
      show own_Go _ _ _ _ (T_3.setTop (mkF m 111 #[rv a1, iv 2, iv c_, rv ac, iv i, .unset] [(.int (go i.toNatClampNeg)), (.ref ac)]))
      have hgi_5 := hgo i.toNatClampNeg (own_jN hi0 hc100__2)
      rcases own_wk3 hi0 hc100__2 hnw hgi_5 with hk_5 | hk_5 | hk_5
      · rw [hk_5]
        show own_Go _ _ _ _ (T_3.setTop (mkF m 111 #[rv a1, iv 2, iv c_, rv ac, iv i, .unset] [(.int 0), (.ref ac)]))
        refine o_dup2 X_3 hx (hb hby d4_111) rfl rfl ?_
        obtain ⟨cl_6, Ar_6, qk_6, Sz_6, Ng_6, Hs_6, Gs_6⟩ := id Vc
        refine own_st (X_3.iaload hx (j := (0 : Int32)) (v := (.int x0)) (by rw [e_3]; exact Ar_6.1) (State.isArrayOf_alike hZ.alike Ar_6.2.1) Ar_6.2.2 (inb_of Sz_6 ⟨by decide, by decide⟩) (Hs_6.at (j := (0 : Int32)) (inb_of Sz_6 ⟨by decide, by decide⟩) rfl) (g := (mkF m 112 #[rv a1, iv 2, iv c_, rv ac, iv i, .unset] [(.int 0), (.ref ac), (.int 0), (.ref ac)])) rfl rfl (hb hby d4_112)) ?_
        show own_Go _ _ _ _ (T_3.setTop (mkF m 113 #[rv a1, iv 2, iv c_, rv ac, iv i, .unset] [(.int x0), (.int 0), (.ref ac)]))
        refine o_iconst X_3 hx 1 (hb hby d4_113) rfl ?_
        refine o_iadd X_3 hx (hb hby d4_114) ?_
        obtain ⟨cl_7, Ar_7, qk_7, Sz_7, Ng_7, Hs_7, Gs_7⟩ := id Vc
        obtain ⟨T_8, h_8, X_8, e_8, W_8, st_8⟩ := stI X_3 hx hZ e_3 Ar_7 (j := (0 : Int32)) (inb_of Sz_7 ⟨by decide, by decide⟩) (g := (mkF m 115 #[rv a1, iv 2, iv c_, rv ac, iv i, .unset] [(.int (x0 + (1 : Int32))), (.int 0), (.ref ac)])) rfl rfl (hb hby d4_115)
        refine own_st st_8 ?_
        have V_8 : Arv Z h_8 ac kc .int (3 : Int32) [(.int (x0 + (1 : Int32))), (.int x1), (.int x2)] (.int (0 : Int32)) := Arv.set Ar_7 qk_7 Sz_7 Ng_7 Hs_7 Gs_7 rfl W_8 0 rfl (Nat.le_of_ble_eq_true rfl)
        have N_8 := Fr.snoc X_8 NF g_ac
        show own_Go _ _ _ _ (T_8.setTop (mkF m 116 #[rv a1, iv 2, iv c_, rv ac, iv i, .unset] []))
        refine o_iinc X_8 hx (hb hby d4_116) rfl (l' := #[rv a1, iv 2, iv c_, rv ac, iv (i + (1 : Int32)), .unset]) rfl ?_
        refine o_goto X_8 hx (pc' := 94) (hb hby d4_119) (by decide) (by decide) ?_
        have Zs_9 : n0 ≤ h_8.size := (Nat.le_trans Zh (Keep.of_wr W_8).1)
        have Kp_10 : Keep h0 h_8 [a1, ao, asx, am] := (Kh.wr W_8 (Or.inr z_ac))
        have Fa_11 := (E1.wr W_8)
        have Fa_12 := (Fp.other W_8 (Or.inl n_a1_ac))
        have Fa_13 := (Fw.other W_8 (Or.inl n_a1_ac))
        have Fa_14 := (Fo.other W_8 (Or.inl n_a1_ac))
        have Fa_15 := (Fs.other W_8 (Or.inl n_a1_ac))
        have Fa_16 := (Fm.other W_8 (Or.inl n_a1_ac))
        have Fa_17 := (Fn.other W_8 (Or.inl n_a1_ac))
        have Fa_18 := (Fq.other W_8 (Or.inl n_a1_ac))
        have Fa_19 := (Fb.other W_8 (Or.inl n_a1_ac))
        have Fa_20 := (Fc.other W_8 (Or.inl n_a1_ac))
        have Fa_21 := (Vw.other W_8 n_aw_ac)
        have Fa_22 := (Vo.other W_8 n_ao_ac)
        have Fa_23 := (Vs.other W_8 n_asx_ac)
        have Fa_24 := (Vm.other W_8 n_am_ac)
        exact ih T_8 _ h_8 (i + (1 : Int32)) c_ ac kc (x0 + (1 : Int32)) x1 x2 go gs gm X_8 e_8 N_8 Zs_9 Kp_10 Fa_11 g1 Fa_12 Fa_13 Fa_14 Fa_15 Fa_16 Fa_17 Fa_18 Fa_19 Fa_20 Fa_21 Fa_22 Fa_23 Fa_24 go_ gs_ gm_ V_8 g_ac z_ac n_a1_ac n_aw_ac n_ao_ac n_asx_ac n_am_ac (own_nx0 hi0 hc100__2) (own_nx1 hi0 hc100__2) hgo hgs hgm hnw (own_clS hi0 hc100__2 hgi_5 (congrArg Int32.toInt hk_5) hx0) (own_clO hi0 hc100__2 hgi_5 (congrArg Int32.toInt hk_5) (by decide) hx1) (own_clO hi0 hc100__2 hgi_5 (congrArg Int32.toInt hk_5) (by decide) hx2) (own_fS hi0 hc100__2 hfu)
      · rw [hk_5]
        show own_Go _ _ _ _ (T_3.setTop (mkF m 111 #[rv a1, iv 2, iv c_, rv ac, iv i, .unset] [(.int 1), (.ref ac)]))
        refine o_dup2 X_3 hx (hb hby d4_111) rfl rfl ?_
        obtain ⟨cl_25, Ar_25, qk_25, Sz_25, Ng_25, Hs_25, Gs_25⟩ := id Vc
        refine own_st (X_3.iaload hx (j := (1 : Int32)) (v := (.int x1)) (by rw [e_3]; exact Ar_25.1) (State.isArrayOf_alike hZ.alike Ar_25.2.1) Ar_25.2.2 (inb_of Sz_25 ⟨by decide, by decide⟩) (Hs_25.at (j := (1 : Int32)) (inb_of Sz_25 ⟨by decide, by decide⟩) rfl) (g := (mkF m 112 #[rv a1, iv 2, iv c_, rv ac, iv i, .unset] [(.int 1), (.ref ac), (.int 1), (.ref ac)])) rfl rfl (hb hby d4_112)) ?_
        show own_Go _ _ _ _ (T_3.setTop (mkF m 113 #[rv a1, iv 2, iv c_, rv ac, iv i, .unset] [(.int x1), (.int 1), (.ref ac)]))
        refine o_iconst X_3 hx 1 (hb hby d4_113) rfl ?_
        refine o_iadd X_3 hx (hb hby d4_114) ?_
        obtain ⟨cl_26, Ar_26, qk_26, Sz_26, Ng_26, Hs_26, Gs_26⟩ := id Vc
        obtain ⟨T_27, h_27, X_27, e_27, W_27, st_27⟩ := stI X_3 hx hZ e_3 Ar_26 (j := (1 : Int32)) (inb_of Sz_26 ⟨by decide, by decide⟩) (g := (mkF m 115 #[rv a1, iv 2, iv c_, rv ac, iv i, .unset] [(.int (x1 + (1 : Int32))), (.int 1), (.ref ac)])) rfl rfl (hb hby d4_115)
        refine own_st st_27 ?_
        have V_27 : Arv Z h_27 ac kc .int (3 : Int32) [(.int x0), (.int (x1 + (1 : Int32))), (.int x2)] (.int (0 : Int32)) := Arv.set Ar_26 qk_26 Sz_26 Ng_26 Hs_26 Gs_26 rfl W_27 1 rfl (Nat.le_of_ble_eq_true rfl)
        have N_27 := Fr.snoc X_27 NF g_ac
        show own_Go _ _ _ _ (T_27.setTop (mkF m 116 #[rv a1, iv 2, iv c_, rv ac, iv i, .unset] []))
        refine o_iinc X_27 hx (hb hby d4_116) rfl (l' := #[rv a1, iv 2, iv c_, rv ac, iv (i + (1 : Int32)), .unset]) rfl ?_
        refine o_goto X_27 hx (pc' := 94) (hb hby d4_119) (by decide) (by decide) ?_
        have Zs_28 : n0 ≤ h_27.size := (Nat.le_trans Zh (Keep.of_wr W_27).1)
        have Kp_29 : Keep h0 h_27 [a1, ao, asx, am] := (Kh.wr W_27 (Or.inr z_ac))
        have Fa_30 := (E1.wr W_27)
        have Fa_31 := (Fp.other W_27 (Or.inl n_a1_ac))
        have Fa_32 := (Fw.other W_27 (Or.inl n_a1_ac))
        have Fa_33 := (Fo.other W_27 (Or.inl n_a1_ac))
        have Fa_34 := (Fs.other W_27 (Or.inl n_a1_ac))
        have Fa_35 := (Fm.other W_27 (Or.inl n_a1_ac))
        have Fa_36 := (Fn.other W_27 (Or.inl n_a1_ac))
        have Fa_37 := (Fq.other W_27 (Or.inl n_a1_ac))
        have Fa_38 := (Fb.other W_27 (Or.inl n_a1_ac))
        have Fa_39 := (Fc.other W_27 (Or.inl n_a1_ac))
        have Fa_40 := (Vw.other W_27 n_aw_ac)
        have Fa_41 := (Vo.other W_27 n_ao_ac)
        have Fa_42 := (Vs.other W_27 n_asx_ac)
        have Fa_43 := (Vm.other W_27 n_am_ac)
        exact ih T_27 _ h_27 (i + (1 : Int32)) c_ ac kc x0 (x1 + (1 : Int32)) x2 go gs gm X_27 e_27 N_27 Zs_28 Kp_29 Fa_30 g1 Fa_31 Fa_32 Fa_33 Fa_34 Fa_35 Fa_36 Fa_37 Fa_38 Fa_39 Fa_40 Fa_41 Fa_42 Fa_43 go_ gs_ gm_ V_27 g_ac z_ac n_a1_ac n_aw_ac n_ao_ac n_asx_ac n_am_ac (own_nx0 hi0 hc100__2) (own_nx1 hi0 hc100__2) hgo hgs hgm hnw (own_clO hi0 hc100__2 hgi_5 (congrArg Int32.toInt hk_5) (by decide) hx0) (own_clS hi0 hc100__2 hgi_5 (congrArg Int32.toInt hk_5) hx1) (own_clO hi0 hc100__2 hgi_5 (congrArg Int32.toInt hk_5) (by decide) hx2) (own_fS hi0 hc100__2 hfu)
      · rw [hk_5]
        show own_Go _ _ _ _ (T_3.setTop (mkF m 111 #[rv a1, iv 2, iv c_, rv ac, iv i, .unset] [(.int 2), (.ref ac)]))
        refine o_dup2 X_3 hx (hb hby d4_111) rfl rfl ?_
        obtain ⟨cl_44, Ar_44, qk_44, Sz_44, Ng_44, Hs_44, Gs_44⟩ := id Vc
        refine own_st (X_3.iaload hx (j := (2 : Int32)) (v := (.int x2)) (by rw [e_3]; exact Ar_44.1) (State.isArrayOf_alike hZ.alike Ar_44.2.1) Ar_44.2.2 (inb_of Sz_44 ⟨by decide, by decide⟩) (Hs_44.at (j := (2 : Int32)) (inb_of Sz_44 ⟨by decide, by decide⟩) rfl) (g := (mkF m 112 #[rv a1, iv 2, iv c_, rv ac, iv i, .unset] [(.int 2), (.ref ac), (.int 2), (.ref ac)])) rfl rfl (hb hby d4_112)) ?_
        show own_Go _ _ _ _ (T_3.setTop (mkF m 113 #[rv a1, iv 2, iv c_, rv ac, iv i, .unset] [(.int x2), (.int 2), (.ref ac)]))
        refine o_iconst X_3 hx 1 (hb hby d4_113) rfl ?_
        refine o_iadd X_3 hx (hb hby d4_114) ?_
        obtain ⟨cl_45, Ar_45, qk_45, Sz_45, Ng_45, Hs_45, Gs_45⟩ := id Vc
        obtain ⟨T_46, h_46, X_46, e_46, W_46, st_46⟩ := stI X_3 hx hZ e_3 Ar_45 (j := (2 : Int32)) (inb_of Sz_45 ⟨by decide, by decide⟩) (g := (mkF m 115 #[rv a1, iv 2, iv c_, rv ac, iv i, .unset] [(.int (x2 + (1 : Int32))), (.int 2), (.ref ac)])) rfl rfl (hb hby d4_115)
        refine own_st st_46 ?_
        have V_46 : Arv Z h_46 ac kc .int (3 : Int32) [(.int x0), (.int x1), (.int (x2 + (1 : Int32)))] (.int (0 : Int32)) := Arv.set Ar_45 qk_45 Sz_45 Ng_45 Hs_45 Gs_45 rfl W_46 2 rfl (Nat.le_of_ble_eq_true rfl)
        have N_46 := Fr.snoc X_46 NF g_ac
        show own_Go _ _ _ _ (T_46.setTop (mkF m 116 #[rv a1, iv 2, iv c_, rv ac, iv i, .unset] []))
        refine o_iinc X_46 hx (hb hby d4_116) rfl (l' := #[rv a1, iv 2, iv c_, rv ac, iv (i + (1 : Int32)), .unset]) rfl ?_
        refine o_goto X_46 hx (pc' := 94) (hb hby d4_119) (by decide) (by decide) ?_
        have Zs_47 : n0 ≤ h_46.size := (Nat.le_trans Zh (Keep.of_wr W_46).1)
        have Kp_48 : Keep h0 h_46 [a1, ao, asx, am] := (Kh.wr W_46 (Or.inr z_ac))
        have Fa_49 := (E1.wr W_46)
        have Fa_50 := (Fp.other W_46 (Or.inl n_a1_ac))
        have Fa_51 := (Fw.other W_46 (Or.inl n_a1_ac))
        have Fa_52 := (Fo.other W_46 (Or.inl n_a1_ac))
        have Fa_53 := (Fs.other W_46 (Or.inl n_a1_ac))
        have Fa_54 := (Fm.other W_46 (Or.inl n_a1_ac))
        have Fa_55 := (Fn.other W_46 (Or.inl n_a1_ac))
        have Fa_56 := (Fq.other W_46 (Or.inl n_a1_ac))
        have Fa_57 := (Fb.other W_46 (Or.inl n_a1_ac))
        have Fa_58 := (Fc.other W_46 (Or.inl n_a1_ac))
        have Fa_59 := (Vw.other W_46 n_aw_ac)
        have Fa_60 := (Vo.other W_46 n_ao_ac)
        have Fa_61 := (Vs.other W_46 n_asx_ac)
        have Fa_62 := (Vm.other W_46 n_am_ac)
        exact ih T_46 _ h_46 (i + (1 : Int32)) c_ ac kc x0 x1 (x2 + (1 : Int32)) go gs gm X_46 e_46 N_46 Zs_47 Kp_48 Fa_49 g1 Fa_50 Fa_51 Fa_52 Fa_53 Fa_54 Fa_55 Fa_56 Fa_57 Fa_58 Fa_59 Fa_60 Fa_61 Fa_62 go_ gs_ gm_ V_46 g_ac z_ac n_a1_ac n_aw_ac n_ao_ac n_asx_ac n_am_ac (own_nx0 hi0 hc100__2) (own_nx1 hi0 hc100__2) hgo hgs hgm hnw (own_clO hi0 hc100__2 hgi_5 (congrArg Int32.toInt hk_5) (by decide) hx0) (own_clO hi0 hc100__2 hgi_5 (congrArg Int32.toInt hk_5) (by decide) hx1) (own_clS hi0 hc100__2 hgi_5 (congrArg Int32.toInt hk_5) hx2) (own_fS hi0 hc100__2 hfu)
    · refine o_icmpYes X_1 hx (pc' := 122) (hb hby d4_100) (flt hc100__2).2.1 (by decide) (by decide) ?_
      exact own_lay122_3 a1 aw ao asx am kw ko ks km N fo0 fs0 fm0 n_aw_a1 n_ao_a1 n_asx_a1 n_am_a1 n_ao_aw n_asx_aw n_am_aw n_asx_ao n_am_ao n_am_asx hN1 hN2 hx hZ hw hby hml hown hret hlk T_1 _ h i c_ ac kc x0 x1 x2 go gs gm X_1 e_1 NF Zh Kh E1 g1 Fp Fw Fo Fs Fm Fn Fq Fb Fc Vw Vo Vs Vm go_ gs_ gm_ Vc n_a1_ac n_aw_ac n_ao_ac n_asx_ac n_am_ac hgo hgs hgm hnw (own_clN hi1 hc100__2 hx0) (own_clN hi1 hc100__2 hx1) (own_clN hi1 hc100__2 hx2)
set_option maxRecDepth 65536 in
set_option maxHeartbeats 40000000 in
theorem own_lay77_3 {p : Program} {l : Launch} {e : Env} {s : State} {m : MethodId} {below : List Frame} {meth : Method} {c : Code} {Z : State} {a0 : Array Value} {h0 : Heap} {n0 : Nat} (a1 : Addr) (aw : Addr) (ao : Addr) (asx : Addr) (am : Addr) (kw : ClassId) (ko : ClassId) (ks : ClassId) (km : ClassId) (N : Int32) (fo0 : Nat → Int32) (fs0 : Nat → Int32) (fm0 : Nat → Int64) (n_aw_a1 : aw ≠ a1) (n_ao_a1 : ao ≠ a1) (n_asx_a1 : asx ≠ a1) (n_am_a1 : am ≠ a1) (n_ao_aw : ao ≠ aw) (n_asx_aw : asx ≠ aw) (n_am_aw : am ≠ aw) (n_asx_ao : asx ≠ ao) (n_am_ao : am ≠ ao) (n_am_asx : am ≠ asx) (hN1 : ¬ N < (1 : Int32)) (hN2 : ¬ (256 : Int32) < N)
    (hx : p.tables.exec = Jvm.exec) (hZ : Z.Warmed39 s.vm) (hw : ∀ d ∈ tables_1, d.before a0 Z = true) (hby : c.code = prog_3_method_15_code) (hml : c.maxLocals = 6) (hown : s.vm.findClass "com/example/causyn/causyn/analysis/MarkingStore" = some m.cls) (hret : meth.sig.returnType = none) (hlk : meth.locks = false) :
    ∀ (T : State) (locs : List Loc) (h : Heap) (i : Int32) (c_ : Int32) (go : Nat → Int32) (gs : Nat → Int32) (gm : Nat → Int64) (X : Stand p l e ({ frames := 1, cells := 8, slots := 272, locals := 14 } : Room) s m #[(.ref a1)] below meth c T locs 0 0) (eT : T.heap = h) (NF : Fr n0 locs) (Zh : n0 ≤ h.size) (Kh : Keep h0 h [a1, ao, asx, am]) (E1 : Exa Z h a1 "com/example/causyn/causyn/analysis/MarkingStore") (g1 : n0 ≤ a1) (Fp : Fld Z h a1 "com/example/causyn/causyn/analysis/MarkingStore" "places" "I" (.int N)) (Fw : Fld Z h a1 "com/example/causyn/causyn/analysis/MarkingStore" "width" "[I" (.ref aw)) (Fo : Fld Z h a1 "com/example/causyn/causyn/analysis/MarkingStore" "word" "[I" (.ref ao)) (Fs : Fld Z h a1 "com/example/causyn/causyn/analysis/MarkingStore" "shift" "[I" (.ref asx)) (Fm : Fld Z h a1 "com/example/causyn/causyn/analysis/MarkingStore" "mask" "[J" (.ref am)) (Fn : Fld Z h a1 "com/example/causyn/causyn/analysis/MarkingStore" "words" "I" (.int (0 : Int32))) (Fq : Fld Z h a1 "com/example/causyn/causyn/analysis/MarkingStore" "placesInWord" "[[I" .null) (Fb : Fld Z h a1 "com/example/causyn/causyn/analysis/MarkingStore" "bitsOnly" "[Z" .null) (Fc : Fld Z h a1 "com/example/causyn/causyn/analysis/MarkingStore" "chunkBits" "I" (.int (0 : Int32))) (Vw : Arv Z h aw kw .int N (own_LI (fun _ => (1 : Int32)) N) (.int (0 : Int32))) (Vo : Arv Z h ao ko .int N (own_LI go N) (.int (0 : Int32))) (Vs : Arv Z h asx ks .int N (own_LI gs N) (.int (0 : Int32))) (Vm : Arv Z h am km .long N (own_LJ gm N) (.long (0 : Int64))) (go_ : n0 ≤ ao) (gs_ : n0 ≤ asx) (gm_ : n0 ≤ am) (hgo : ∀ j : Nat, (j : Int) < N.toInt → (go j).toInt = (j : Int) / 64) (hgs : ∀ j : Nat, (j : Int) < N.toInt → (gs j).toInt = (j : Int) % 64) (hgm : ∀ j : Nat, (j : Int) < N.toInt → gm j = (1 : Int64)) (hnw : own_nw N 3), own_Go p.tables e below (fun o U' => ∃ v L, o = .returned v ∧ Q_rmlay Z a0 a1 aw ao asx am kw ko ks km N fo0 fs0 fm0 h0 n0 v U'.heap L ∧ FrameEnd s o U' L ({ frames := 1, cells := 8, slots := 272, locals := 14 } : Room).cells ({ frames := 1, cells := 8, slots := 272, locals := 14 } : Room).slots) (T.setTop (mkF m 77 #[rv a1, iv 2, iv c_, iv i, .unset, .unset] [])) := by
  intro T locs h i c_ go gs gm X eT NF Zh Kh E1 g1 Fp Fw Fo Fs Fm Fn Fq Fb Fc Vw Vo Vs Vm go_ gs_ gm_ hgo hgs hgm hnw
  refine o_aloadN X hx (hb hby d4_77) rfl rfl ?_
  refine o_iloadN X hx (hb hby d4_78) rfl ?_
  refine o_iconst X hx 1 (hb hby d4_79) rfl ?_
  refine o_iadd X hx (hb hby d4_80) ?_
  show own_Go _ _ _ _ (T.setTop (mkF m 81 #[rv a1, iv 2, iv c_, iv i, .unset, .unset] [(.int 3), (.ref a1)]))
  obtain ⟨T_1, h_1, X_1, e_1, W_1, st_1⟩ := putF X hx hZ hown (host := "") (Or.inl (hw _ (List.mem_of_getElem? (i := 36) rfl))) Via.refl eT Fn E1 (Or.inl (hw _ (List.mem_of_getElem? (i := 37) rfl))) (hw _ (List.mem_of_getElem? (i := 2) rfl)) (ty := .int) (by decide) rfl rfl (g := (mkF m 81 #[rv a1, iv 2, iv c_, iv i, .unset, .unset] [(.int 3), (.ref a1)])) rfl rfl (hb hby d4_81)
  refine own_st st_1 ?_
  have N_1 := Fr.snoc X_1 NF g1
  show own_Go _ _ _ _ (T_1.setTop (mkF m 84 #[rv a1, iv 2, iv c_, iv i, .unset, .unset] []))
  refine o_aloadN X_1 hx (hb hby d4_84) rfl rfl ?_
  have Fa_2 := (Fn.same W_1)
  obtain ⟨T_3, X_3, e_3, st_3⟩ := getF X_1 hx hZ hown (host := "") (Or.inl (hw _ (List.mem_of_getElem? (i := 36) rfl))) Via.refl e_1 Fa_2 (g := (mkF m 85 #[rv a1, iv 2, iv c_, iv i, .unset, .unset] [(.ref a1)])) rfl rfl (hb hby d4_85)
  refine own_st st_3 ?_
  show own_Go _ _ _ _ (T_3.setTop (mkF m 88 #[rv a1, iv 2, iv c_, iv i, .unset, .unset] [(.int 3)]))
  have Zs_4 : n0 ≤ h_1.size := (Nat.le_trans Zh (Keep.of_wr W_1).1)
  have Kp_5 : Keep h0 h_1 [a1, ao, asx, am] := (Kh.wr W_1 (Or.inl (List.mem_of_getElem? (i := 0) rfl)))
  obtain ⟨T_6, h_6, k_6, X_6, e_6, E_6, A_6, st_6⟩ := newP X_3 hx hZ (hw _ (List.mem_of_getElem? (i := 14) rfl)) e_3 (g := (mkF m 88 #[rv a1, iv 2, iv c_, iv i, .unset, .unset] [(.int 3)])) rfl (hb hby d4_88) rfl (by decide) (cap := 3) (by decide) (by decide) (by decide) (by decide)
  obtain ⟨b_6, g_6⟩ : ∃ z, z = h_1.size := ⟨_, rfl⟩
  rw [← g_6] at A_6 st_6
  have V_6 : Arv Z h_6 b_6 k_6 .int (3 : Int32) [(.int (0 : Int32)), (.int (0 : Int32)), (.int (0 : Int32))] (.int (0 : Int32)) := (Arv.new A_6 (by decide)).pad (pad_rep [] (.int (0 : Int32)) 3)
  have gg_6 : n0 ≤ b_6 := Nat.le_trans Zs_4 (Nat.le_of_eq g_6.symm)
  have sz_6 : h0.size ≤ b_6 := Nat.le_trans Kp_5.1 (Nat.le_of_eq g_6.symm)
  refine own_st st_6 ?_
  show own_Go _ _ _ _ (T_6.setTop (mkF m 90 #[rv a1, iv 2, iv c_, iv i, .unset, .unset] [(.ref b_6)]))
  refine o_astoreN X_6 hx (hb hby d4_90) rfl (l' := #[rv a1, iv 2, iv c_, rv b_6, .unset, .unset]) rfl ?_
  refine o_iconst X_6 hx 0 (hb hby d4_91) rfl ?_
  refine o_istore X_6 hx (hb hby d4_92) (l' := #[rv a1, iv 2, iv c_, rv b_6, iv 0, .unset]) rfl ?_
  have Zs_7 : n0 ≤ h_6.size := (Nat.le_trans Zs_4 E_6.1)
  have Kp_8 : Keep h0 h_6 [a1, ao, asx, am] := (Kp_5.ext E_6)
  have Fa_9 := ((E1.wr W_1).ext E_6)
  have Fa_10 := ((Fp.other W_1 (Or.inr (slot_ne (Or.inr (hw _ (List.mem_of_getElem? (i := 18) rfl))) (Or.inl (hw _ (List.mem_of_getElem? (i := 37) rfl))) (by decide) (t := .int) (t' := .int) (by decide) (by decide)))).ext E_6)
  have Fa_11 := ((Fw.other W_1 (Or.inr (slot_ne (Or.inr (hw _ (List.mem_of_getElem? (i := 20) rfl))) (Or.inl (hw _ (List.mem_of_getElem? (i := 37) rfl))) (by decide) (t := (.array .int)) (t' := .int) (by decide) (by decide)))).ext E_6)
  have Fa_12 := ((Fo.other W_1 (Or.inr (slot_ne (Or.inr (hw _ (List.mem_of_getElem? (i := 22) rfl))) (Or.inl (hw _ (List.mem_of_getElem? (i := 37) rfl))) (by decide) (t := (.array .int)) (t' := .int) (by decide) (by decide)))).ext E_6)
  have Fa_13 := ((Fs.other W_1 (Or.inr (slot_ne (Or.inr (hw _ (List.mem_of_getElem? (i := 24) rfl))) (Or.inl (hw _ (List.mem_of_getElem? (i := 37) rfl))) (by decide) (t := (.array .int)) (t' := .int) (by decide) (by decide)))).ext E_6)
  have Fa_14 := ((Fm.other W_1 (Or.inr (slot_ne (Or.inr (hw _ (List.mem_of_getElem? (i := 27) rfl))) (Or.inl (hw _ (List.mem_of_getElem? (i := 37) rfl))) (by decide) (t := (.array .long)) (t' := .int) (by decide) (by decide)))).ext E_6)
  have Fa_15 := (Fa_2.ext E_6)
  have Fa_16 := ((Fq.other W_1 (Or.inr (slot_ne (Or.inl (hw _ (List.mem_of_getElem? (i := 41) rfl))) (Or.inl (hw _ (List.mem_of_getElem? (i := 37) rfl))) (by decide) (t := (.array (.array .int))) (t' := .int) (by decide) (by decide)))).ext E_6)
  have Fa_17 := ((Fb.other W_1 (Or.inr (slot_ne (Or.inl (hw _ (List.mem_of_getElem? (i := 44) rfl))) (Or.inl (hw _ (List.mem_of_getElem? (i := 37) rfl))) (by decide) (t := (.array .boolean)) (t' := .int) (by decide) (by decide)))).ext E_6)
  have Fa_18 := ((Fc.other W_1 (Or.inr (slot_ne (Or.inl (hw _ (List.mem_of_getElem? (i := 55) rfl))) (Or.inl (hw _ (List.mem_of_getElem? (i := 37) rfl))) (by decide) (t := .int) (t' := .int) (by decide) (by decide)))).ext E_6)
  have Fa_19 := ((Vw.other W_1 n_aw_a1).ext E_6)
  have Fa_20 := ((Vo.other W_1 n_ao_a1).ext E_6)
  have Fa_21 := ((Vs.other W_1 n_asx_a1).ext E_6)
  have Fa_22 := ((Vm.other W_1 n_am_a1).ext E_6)
  exact own_lay2_3 a1 aw ao asx am kw ko ks km N fo0 fs0 fm0 n_aw_a1 n_ao_a1 n_asx_a1 n_am_a1 n_ao_aw n_asx_aw n_am_aw n_asx_ao n_am_ao n_am_asx hN1 hN2 hx hZ hw hby hml hown hret hlk (N.toNatClampNeg + 1) T_6 _ h_6 (0 : Int32) c_ b_6 k_6 (0 : Int32) (0 : Int32) (0 : Int32) go gs gm X_6 e_6 N_1 Zs_7 Kp_8 Fa_9 g1 Fa_10 Fa_11 Fa_12 Fa_13 Fa_14 Fa_15 Fa_16 Fa_17 Fa_18 Fa_19 Fa_20 Fa_21 Fa_22 go_ gs_ gm_ V_6 gg_6 sz_6 (Nat.ne_of_lt (Nat.lt_of_lt_of_le (Fn.same W_1).lt (Nat.le_of_eq g_6.symm))) (Nat.ne_of_lt (Nat.lt_of_lt_of_le (Vw.other W_1 n_aw_a1).lt (Nat.le_of_eq g_6.symm))) (Nat.ne_of_lt (Nat.lt_of_lt_of_le (Vo.other W_1 n_ao_a1).lt (Nat.le_of_eq g_6.symm))) (Nat.ne_of_lt (Nat.lt_of_lt_of_le (Vs.other W_1 n_asx_a1).lt (Nat.le_of_eq g_6.symm))) (Nat.ne_of_lt (Nat.lt_of_lt_of_le (Vm.other W_1 n_am_a1).lt (Nat.le_of_eq g_6.symm))) (by decide) (own_N0 hN1) hgo hgs hgm hnw (own_cl0 (by decide)) (own_cl0 (by decide)) (own_cl0 (by decide)) (own_ff (own_N0 hN1))
set_option maxRecDepth 65536 in
set_option maxHeartbeats 40000000 in
theorem own_lay4_4 {p : Program} {l : Launch} {e : Env} {s : State} {m : MethodId} {below : List Frame} {meth : Method} {c : Code} {Z : State} {a0 : Array Value} {h0 : Heap} {n0 : Nat} (a1 : Addr) (aw : Addr) (ao : Addr) (asx : Addr) (am : Addr) (kw : ClassId) (ko : ClassId) (ks : ClassId) (km : ClassId) (N : Int32) (fo0 : Nat → Int32) (fs0 : Nat → Int32) (fm0 : Nat → Int64) (n_aw_a1 : aw ≠ a1) (n_ao_a1 : ao ≠ a1) (n_asx_a1 : asx ≠ a1) (n_am_a1 : am ≠ a1) (n_ao_aw : ao ≠ aw) (n_asx_aw : asx ≠ aw) (n_am_aw : am ≠ aw) (n_asx_ao : asx ≠ ao) (n_am_ao : am ≠ ao) (n_am_asx : am ≠ asx) (hN1 : ¬ N < (1 : Int32)) (hN2 : ¬ (256 : Int32) < N)
    (hx : p.tables.exec = Jvm.exec) (hZ : Z.Warmed39 s.vm) (hw : ∀ d ∈ tables_1, d.before a0 Z = true) (hby : c.code = prog_3_method_15_code) (hml : c.maxLocals = 6) (hown : s.vm.findClass "com/example/causyn/causyn/analysis/MarkingStore" = some m.cls) (hret : meth.sig.returnType = none) (hlk : meth.locks = false) :
    ∀ (fuel : Nat) (T : State) (locs : List Loc) (h : Heap) (i : Int32) (c_ : Int32) (ac : Addr) (af : Addr) (ap : Addr) (ab : Addr) (p0_ : Addr) (p1_ : Addr) (p2_ : Addr) (p3_ : Addr) (kf : ClassId) (kq : ClassId) (kb : ClassId) (kp0 : ClassId) (kp1 : ClassId) (kp2 : ClassId) (kp3 : ClassId) (gp0 : Nat → Int32) (gp1 : Nat → Int32) (gp2 : Nat → Int32) (gp3 : Nat → Int32) (x0 : Int32) (x1 : Int32) (x2 : Int32) (x3 : Int32) (y0 : Int32) (y1 : Int32) (y2 : Int32) (y3 : Int32) (go : Nat → Int32) (gs : Nat → Int32) (gm : Nat → Int64) (X : Stand p l e ({ frames := 1, cells := 8, slots := 272, locals := 14 } : Room) s m #[(.ref a1)] below meth c T locs 8 272) (eT : T.heap = h) (NF : Fr n0 locs) (Zh : n0 ≤ h.size) (Kh : Keep h0 h [a1, ao, asx, am]) (E1 : Exa Z h a1 "com/example/causyn/causyn/analysis/MarkingStore") (g1 : n0 ≤ a1) (Fp : Fld Z h a1 "com/example/causyn/causyn/analysis/MarkingStore" "places" "I" (.int N)) (Fw : Fld Z h a1 "com/example/causyn/causyn/analysis/MarkingStore" "width" "[I" (.ref aw)) (Fo : Fld Z h a1 "com/example/causyn/causyn/analysis/MarkingStore" "word" "[I" (.ref ao)) (Fs : Fld Z h a1 "com/example/causyn/causyn/analysis/MarkingStore" "shift" "[I" (.ref asx)) (Fm : Fld Z h a1 "com/example/causyn/causyn/analysis/MarkingStore" "mask" "[J" (.ref am)) (Fn : Fld Z h a1 "com/example/causyn/causyn/analysis/MarkingStore" "words" "I" (.int (4 : Int32))) (Fq : Fld Z h a1 "com/example/causyn/causyn/analysis/MarkingStore" "placesInWord" "[[I" (.ref ap)) (Fb : Fld Z h a1 "com/example/causyn/causyn/analysis/MarkingStore" "bitsOnly" "[Z" (.ref ab)) (Fc : Fld Z h a1 "com/example/causyn/causyn/analysis/MarkingStore" "chunkBits" "I" (.int (0 : Int32))) (Vw : Arv Z h aw kw .int N (own_LI (fun _ => (1 : Int32)) N) (.int (0 : Int32))) (Vo : Arv Z h ao ko .int N (own_LI go N) (.int (0 : Int32))) (Vs : Arv Z h asx ks .int N (own_LI gs N) (.int (0 : Int32))) (Vm : Arv Z h am km .long N (own_LJ gm N) (.long (0 : Int64))) (go_ : n0 ≤ ao) (gs_ : n0 ≤ asx) (gm_ : n0 ≤ am) (Vf : Arv Z h af kf .int (4 : Int32) [(.int y0), (.int y1), (.int y2), (.int y3)] (.int (0 : Int32))) (Vp : Arv Z h ap kq (.array .int) (4 : Int32) [(.ref p0_), (.ref p1_), (.ref p2_), (.ref p3_)] .null) (Vb : Arv Z h ab kb .boolean (4 : Int32) [(.int (1 : Int32)), (.int (1 : Int32)), (.int (1 : Int32)), (.int (1 : Int32))] (.int (0 : Int32))) (Vp0 : Arv Z h p0_ kp0 .int x0 (own_LI gp0 x0) (.int (0 : Int32))) (Vp1 : Arv Z h p1_ kp1 .int x1 (own_LI gp1 x1) (.int (0 : Int32))) (Vp2 : Arv Z h p2_ kp2 .int x2 (own_LI gp2 x2) (.int (0 : Int32))) (Vp3 : Arv Z h p3_ kp3 .int x3 (own_LI gp3 x3) (.int (0 : Int32))) (g_af : n0 ≤ af) (z_af : h0.size ≤ af) (g_ab : n0 ≤ ab) (z_ab : h0.size ≤ ab) (g_p0_ : n0 ≤ p0_) (z_p0_ : h0.size ≤ p0_) (g_p1_ : n0 ≤ p1_) (z_p1_ : h0.size ≤ p1_) (g_p2_ : n0 ≤ p2_) (z_p2_ : h0.size ≤ p2_) (g_p3_ : n0 ≤ p3_) (z_p3_ : h0.size ≤ p3_) (n_a1_af : a1 ≠ af) (n_aw_af : aw ≠ af) (n_ao_af : ao ≠ af) (n_asx_af : asx ≠ af) (n_am_af : am ≠ af) (n_ap_af : ap ≠ af) (n_ab_af : ab ≠ af) (n_p0__af : p0_ ≠ af) (n_p1__af : p1_ ≠ af) (n_p2__af : p2_ ≠ af) (n_p3__af : p3_ ≠ af) (n_a1_ab : a1 ≠ ab) (n_aw_ab : aw ≠ ab) (n_ao_ab : ao ≠ ab) (n_asx_ab : asx ≠ ab) (n_am_ab : am ≠ ab) (n_ap_ab : ap ≠ ab) (n_p0__ab : p0_ ≠ ab) (n_p1__ab : p1_ ≠ ab) (n_p2__ab : p2_ ≠ ab) (n_p3__ab : p3_ ≠ ab) (n_a1_p0_ : a1 ≠ p0_) (n_aw_p0_ : aw ≠ p0_) (n_ao_p0_ : ao ≠ p0_) (n_asx_p0_ : asx ≠ p0_) (n_am_p0_ : am ≠ p0_) (n_ap_p0_ : ap ≠ p0_) (n_p1__p0_ : p1_ ≠ p0_) (n_p2__p0_ : p2_ ≠ p0_) (n_p3__p0_ : p3_ ≠ p0_) (n_a1_p1_ : a1 ≠ p1_) (n_aw_p1_ : aw ≠ p1_) (n_ao_p1_ : ao ≠ p1_) (n_asx_p1_ : asx ≠ p1_) (n_am_p1_ : am ≠ p1_) (n_ap_p1_ : ap ≠ p1_) (n_p2__p1_ : p2_ ≠ p1_) (n_p3__p1_ : p3_ ≠ p1_) (n_a1_p2_ : a1 ≠ p2_) (n_aw_p2_ : aw ≠ p2_) (n_ao_p2_ : ao ≠ p2_) (n_asx_p2_ : asx ≠ p2_) (n_am_p2_ : am ≠ p2_) (n_ap_p2_ : ap ≠ p2_) (n_p3__p2_ : p3_ ≠ p2_) (n_a1_p3_ : a1 ≠ p3_) (n_aw_p3_ : aw ≠ p3_) (n_ao_p3_ : ao ≠ p3_) (n_asx_p3_ : asx ≠ p3_) (n_am_p3_ : am ≠ p3_) (n_ap_p3_ : ap ≠ p3_) (n_ap_a1 : ap ≠ a1) (hi0 : ¬ i < 0) (hi1 : ¬ N < i) (hgo : ∀ j : Nat, (j : Int) < N.toInt → (go j).toInt = (j : Int) / 64) (hgs : ∀ j : Nat, (j : Int) < N.toInt → (gs j).toInt = (j : Int) % 64) (hgm : ∀ j : Nat, (j : Int) < N.toInt → gm j = (1 : Int64)) (hnw : own_nw N 4) (hx0 : x0.toInt = own_cl N.toInt 0) (hx1 : x1.toInt = own_cl N.toInt 1) (hx2 : x2.toInt = own_cl N.toInt 2) (hx3 : x3.toInt = own_cl N.toInt 3) (hy0 : y0.toInt = own_cl i.toInt 0) (hy1 : y1.toInt = own_cl i.toInt 1) (hy2 : y2.toInt = own_cl i.toInt 2) (hy3 : y3.toInt = own_cl i.toInt 3) (hfu : N.toInt - i.toInt < (fuel : Int)), own_Go p.tables e below (fun o U' => ∃ v L, o = .returned v ∧ Q_rmlay Z a0 a1 aw ao asx am kw ko ks km N fo0 fs0 fm0 h0 n0 v U'.heap L ∧ FrameEnd s o U' L ({ frames := 1, cells := 8, slots := 272, locals := 14 } : Room).cells ({ frames := 1, cells := 8, slots := 272, locals := 14 } : Room).slots) (T.setTop (mkF m 193 #[rv a1, iv 3, iv c_, rv ac, rv af, iv i] [])) := by
  intro fuel
  induction fuel with
  | zero => intro T locs h i c_ ac af ap ab p0_ p1_ p2_ p3_ kf kq kb kp0 kp1 kp2 kp3 gp0 gp1 gp2 gp3 x0 x1 x2 x3 y0 y1 y2 y3 go gs gm X eT NF Zh Kh E1 g1 Fp Fw Fo Fs Fm Fn Fq Fb Fc Vw Vo Vs Vm go_ gs_ gm_ Vf Vp Vb Vp0 Vp1 Vp2 Vp3 g_af z_af g_ab z_ab g_p0_ z_p0_ g_p1_ z_p1_ g_p2_ z_p2_ g_p3_ z_p3_ n_a1_af n_aw_af n_ao_af n_asx_af n_am_af n_ap_af n_ab_af n_p0__af n_p1__af n_p2__af n_p3__af n_a1_ab n_aw_ab n_ao_ab n_asx_ab n_am_ab n_ap_ab n_p0__ab n_p1__ab n_p2__ab n_p3__ab n_a1_p0_ n_aw_p0_ n_ao_p0_ n_asx_p0_ n_am_p0_ n_ap_p0_ n_p1__p0_ n_p2__p0_ n_p3__p0_ n_a1_p1_ n_aw_p1_ n_ao_p1_ n_asx_p1_ n_am_p1_ n_ap_p1_ n_p2__p1_ n_p3__p1_ n_a1_p2_ n_aw_p2_ n_ao_p2_ n_asx_p2_ n_am_p2_ n_ap_p2_ n_p3__p2_ n_a1_p3_ n_aw_p3_ n_ao_p3_ n_asx_p3_ n_am_p3_ n_ap_p3_ n_ap_a1 hi0 hi1 hgo hgs hgm hnw hx0 hx1 hx2 hx3 hy0 hy1 hy2 hy3 hfu; exact (own_f0 hi1 hfu).elim
  | succ fuel ih =>
    intro T locs h i c_ ac af ap ab p0_ p1_ p2_ p3_ kf kq kb kp0 kp1 kp2 kp3 gp0 gp1 gp2 gp3 x0 x1 x2 x3 y0 y1 y2 y3 go gs gm X eT NF Zh Kh E1 g1 Fp Fw Fo Fs Fm Fn Fq Fb Fc Vw Vo Vs Vm go_ gs_ gm_ Vf Vp Vb Vp0 Vp1 Vp2 Vp3 g_af z_af g_ab z_ab g_p0_ z_p0_ g_p1_ z_p1_ g_p2_ z_p2_ g_p3_ z_p3_ n_a1_af n_aw_af n_ao_af n_asx_af n_am_af n_ap_af n_ab_af n_p0__af n_p1__af n_p2__af n_p3__af n_a1_ab n_aw_ab n_ao_ab n_asx_ab n_am_ab n_ap_ab n_p0__ab n_p1__ab n_p2__ab n_p3__ab n_a1_p0_ n_aw_p0_ n_ao_p0_ n_asx_p0_ n_am_p0_ n_ap_p0_ n_p1__p0_ n_p2__p0_ n_p3__p0_ n_a1_p1_ n_aw_p1_ n_ao_p1_ n_asx_p1_ n_am_p1_ n_ap_p1_ n_p2__p1_ n_p3__p1_ n_a1_p2_ n_aw_p2_ n_ao_p2_ n_asx_p2_ n_am_p2_ n_ap_p2_ n_p3__p2_ n_a1_p3_ n_aw_p3_ n_ao_p3_ n_asx_p3_ n_am_p3_ n_ap_p3_ n_ap_a1 hi0 hi1 hgo hgs hgm hnw hx0 hx1 hx2 hx3 hy0 hy1 hy2 hy3 hfu
    refine o_iload X hx (hb hby d4_193) rfl ?_
    refine o_aloadN X hx (hb hby d4_195) rfl rfl ?_
    obtain ⟨T_1, X_1, e_1, st_1⟩ := getF X hx hZ hown (host := "") (Or.inl (hw _ (List.mem_of_getElem? (i := 17) rfl))) Via.refl eT Fp (g := (mkF m 196 #[rv a1, iv 3, iv c_, rv ac, rv af, iv i] [(.ref a1), (.int i)])) rfl rfl (hb hby d4_196)
    refine own_st st_1 ?_
    show own_Go _ _ _ _ (T_1.setTop (mkF m 199 #[rv a1, iv 3, iv c_, rv ac, rv af, iv i] [(.int N), (.int i)]))
    by_cases hc199__2 : i < N
    · refine o_icmpNo X_1 hx (hb hby d4_199) (tlt hc199__2).2.1 ?_
      refine o_aloadN X_1 hx (hb hby d4_202) rfl rfl ?_
      obtain ⟨T_3, X_3, e_3, st_3⟩ := getF X_1 hx hZ hown (host := "") (Or.inl (hw _ (List.mem_of_getElem? (i := 40) rfl))) Via.refl e_1 Fq (g := (mkF m 203 #[rv a1, iv 3, iv c_, rv ac, rv af, iv i] [(.ref a1)])) rfl rfl (hb hby d4_203)
      refine own_st st_3 ?_
      show own_Go _ _ _ _ (T_3.setTop (mkF m 206 #[rv a1, iv 3, iv c_, rv ac, rv af, iv i] [(.ref ap)]))
      refine o_aloadN X_3 hx (hb hby d4_206) rfl rfl ?_
      obtain ⟨T_4, X_4, e_4, st_4⟩ := getF X_3 hx hZ hown (host := "") (Or.inl (hw _ (List.mem_of_getElem? (i := 21) rfl))) Via.refl e_3 Fo (g := (mkF m 207 #[rv a1, iv 3, iv c_, rv ac, rv af, iv i] [(.ref a1), (.ref ap)])) rfl rfl (hb hby d4_207)
      refine own_st st_4 ?_
      show own_Go _ _ _ _ (T_4.setTop (mkF m 210 #[rv a1, iv 3, iv c_, rv ac, rv af, iv i] [(.ref ao), (.ref ap)]))
      refine o_iload X_4 hx (hb hby d4_210) rfl ?_
      obtain ⟨cl_5, Ar_5, qk_5, Sz_5, Ng_5, Hs_5, Gs_5⟩ := id Vo
      refine own_st (X_4.iaload hx (j := i) (v := (.int (go i.toNatClampNeg))) (by rw [e_4]; exact Ar_5.1) (State.isArrayOf_alike hZ.alike Ar_5.2.1) Ar_5.2.2 (inb_of Sz_5 ⟨hi0, hc199__2⟩) (Hs_5.at (j := i) (inb_of Sz_5 ⟨hi0, hc199__2⟩) (own_LI_get hi0 hc199__2)) (g := (mkF m 212 #[rv a1, iv 3, iv c_, rv ac, rv af, iv i] [(.int i), (.ref ao), (.ref ap)])) rfl rfl (hb hby d4_212)) ?_
      show own_Go _ _ _ _ (T_4.setTop (mkF m 213 #[rv a1, iv 3, iv c_, rv ac, rv af, iv i] [(.int (go i.toNatClampNeg)), (.ref ap)]))
      have hgi_6 := hgo i.toNatClampNeg (own_jN hi0 hc199__2)
      rcases own_wk4 hi0 hc199__2 hnw hgi_6 with hk_6 | hk_6 | hk_6 | hk_6
      · rw [hk_6]
        show own_Go _ _ _ _ (T_4.setTop (mkF m 213 #[rv a1, iv 3, iv c_, rv ac, rv af, iv i] [(.int 0), (.ref ap)]))
        obtain ⟨cl_7, Ar_7, qk_7, Sz_7, Ng_7, Hs_7, Gs_7⟩ := id Vp
        refine own_st (X_4.aaload hx (j := (0 : Int32)) (v := (.ref p0_)) (by rw [e_4]; exact Ar_7.1) (State.isArrayOf_alike hZ.alike Ar_7.2.1) rfl Ar_7.2.2 (inb_of Sz_7 ⟨by decide, by decide⟩) (Hs_7.at (j := (0 : Int32)) (inb_of Sz_7 ⟨by decide, by decide⟩) rfl) (g := (mkF m 213 #[rv a1, iv 3, iv c_, rv ac, rv af, iv i] [(.int 0), (.ref ap)])) rfl rfl (hb hby d4_213)) ?_
        show own_Go _ _ _ _ (T_4.setTop (mkF m 214 #[rv a1, iv 3, iv c_, rv ac, rv af, iv i] [(.ref p0_)]))
        refine o_aload X_4 hx (hb hby d4_214) rfl rfl ?_
        refine o_aloadN X_4 hx (hb hby d4_216) rfl rfl ?_
        obtain ⟨T_8, X_8, e_8, st_8⟩ := getF X_4 hx hZ hown (host := "") (Or.inl (hw _ (List.mem_of_getElem? (i := 21) rfl))) Via.refl e_4 Fo (g := (mkF m 217 #[rv a1, iv 3, iv c_, rv ac, rv af, iv i] [(.ref a1), (.ref af), (.ref p0_)])) rfl rfl (hb hby d4_217)
        refine own_st st_8 ?_
        show own_Go _ _ _ _ (T_8.setTop (mkF m 220 #[rv a1, iv 3, iv c_, rv ac, rv af, iv i] [(.ref ao), (.ref af), (.ref p0_)]))
        refine o_iload X_8 hx (hb hby d4_220) rfl ?_
        obtain ⟨cl_9, Ar_9, qk_9, Sz_9, Ng_9, Hs_9, Gs_9⟩ := id Vo
        refine own_st (X_8.iaload hx (j := i) (v := (.int (0 : Int32))) (by rw [e_8]; exact Ar_9.1) (State.isArrayOf_alike hZ.alike Ar_9.2.1) Ar_9.2.2 (inb_of Sz_9 ⟨hi0, hc199__2⟩) (Hs_9.at (j := i) (inb_of Sz_9 ⟨hi0, hc199__2⟩) ((own_LI_get hi0 hc199__2).trans (congrArg Value.int hk_6))) (g := (mkF m 222 #[rv a1, iv 3, iv c_, rv ac, rv af, iv i] [(.int i), (.ref ao), (.ref af), (.ref p0_)])) rfl rfl (hb hby d4_222)) ?_
        show own_Go _ _ _ _ (T_8.setTop (mkF m 223 #[rv a1, iv 3, iv c_, rv ac, rv af, iv i] [(.int 0), (.ref af), (.ref p0_)]))
        refine o_dup2 X_8 hx (hb hby d4_223) rfl rfl ?_
        obtain ⟨cl_10, Ar_10, qk_10, Sz_10, Ng_10, Hs_10, Gs_10⟩ := id Vf
        refine own_st (X_8.iaload hx (j := (0 : Int32)) (v := (.int y0)) (by rw [e_8]; exact Ar_10.1) (State.isArrayOf_alike hZ.alike Ar_10.2.1) Ar_10.2.2 (inb_of Sz_10 ⟨by decide, by decide⟩) (Hs_10.at (j := (0 : Int32)) (inb_of Sz_10 ⟨by decide, by decide⟩) rfl) (g := (mkF m 224 #[rv a1, iv 3, iv c_, rv ac, rv af, iv i] [(.int 0), (.ref af), (.int 0), (.ref af), (.ref p0_)])) rfl rfl (hb hby d4_224)) ?_
        show own_Go _ _ _ _ (T_8.setTop (mkF m 225 #[rv a1, iv 3, iv c_, rv ac, rv af, iv i] [(.int y0), (.int 0), (.ref af), (.ref p0_)]))
        refine o_dupX2 X_8 hx (hb hby d4_225) rfl rfl rfl ?_
        refine o_iconst X_8 hx 1 (hb hby d4_226) rfl ?_
        refine o_iadd X_8 hx (hb hby d4_227) ?_
        obtain ⟨cl_11, Ar_11, qk_11, Sz_11, Ng_11, Hs_11, Gs_11⟩ := id Vf
        obtain ⟨T_12, h_12, X_12, e_12, W_12, st_12⟩ := stI X_8 hx hZ e_8 Ar_11 (j := (0 : Int32)) (inb_of Sz_11 ⟨by decide, by decide⟩) (g := (mkF m 228 #[rv a1, iv 3, iv c_, rv ac, rv af, iv i] [(.int (y0 + (1 : Int32))), (.int 0), (.ref af), (.int y0), (.ref p0_)])) rfl rfl (hb hby d4_228)
        refine own_st st_12 ?_
        have V_12 : Arv Z h_12 af kf .int (4 : Int32) [(.int (y0 + (1 : Int32))), (.int y1), (.int y2), (.int y3)] (.int (0 : Int32)) := Arv.set Ar_11 qk_11 Sz_11 Ng_11 Hs_11 Gs_11 rfl W_12 0 rfl (Nat.le_of_ble_eq_true rfl)
        have N_12 := Fr.snoc X_12 NF g_af
        show own_Go _ _ _ _ (T_12.setTop (mkF m 229 #[rv a1, iv 3, iv c_, rv ac, rv af, iv i] [(.int y0), (.ref p0_)]))
        refine o_iload X_12 hx (hb hby d4_229) rfl ?_
        have Fa_13 := (Vp0.other W_12 n_p0__af)
        obtain ⟨cl_14, Ar_14, qk_14, Sz_14, Ng_14, Hs_14, Gs_14⟩ := id Fa_13
        obtain ⟨T_15, h_15, X_15, e_15, W_15, st_15⟩ := stI X_12 hx hZ e_12 Ar_14 (j := y0) (inb_of Sz_14 ⟨(own_clnn hy0), (own_clt hi0 hc199__2 hgi_6 (congrArg Int32.toInt hk_6) hy0 hx0)⟩) (g := (mkF m 231 #[rv a1, iv 3, iv c_, rv ac, rv af, iv i] [(.int i), (.int y0), (.ref p0_)])) rfl rfl (hb hby d4_231)
        refine own_st st_15 ?_
        have V_15 : Arv Z h_15 p0_ kp0 .int x0 (own_LI (own_up gp0 y0.toNatClampNeg i) x0) (.int (0 : Int32)) := by have q := Arv.set Ar_14 qk_14 Sz_14 Ng_14 Hs_14 Gs_14 rfl W_15 y0.toNatClampNeg rfl (own_LI_lt (own_clnn hy0) (own_clt hi0 hc199__2 hgi_6 (congrArg Int32.toInt hk_6) hy0 hx0)); rw [own_LI_set] at q; exact q
        have N_15 := Fr.snoc X_15 N_12 g_p0_
        show own_Go _ _ _ _ (T_15.setTop (mkF m 232 #[rv a1, iv 3, iv c_, rv ac, rv af, iv i] []))
        refine o_aloadN X_15 hx (hb hby d4_232) rfl rfl ?_
        have Fa_16 := ((Fb.other W_12 (Or.inl n_a1_af)).other W_15 (Or.inl n_a1_p0_))
        obtain ⟨T_17, X_17, e_17, st_17⟩ := getF X_15 hx hZ hown (host := "") (Or.inl (hw _ (List.mem_of_getElem? (i := 43) rfl))) Via.refl e_15 Fa_16 (g := (mkF m 233 #[rv a1, iv 3, iv c_, rv ac, rv af, iv i] [(.ref a1)])) rfl rfl (hb hby d4_233)
        refine own_st st_17 ?_
        show own_Go _ _ _ _ (T_17.setTop (mkF m 236 #[rv a1, iv 3, iv c_, rv ac, rv af, iv i] [(.ref ab)]))
        refine o_aloadN X_17 hx (hb hby d4_236) rfl rfl ?_
        have Fa_18 := ((Fo.other W_12 (Or.inl n_a1_af)).other W_15 (Or.inl n_a1_p0_))
        obtain ⟨T_19, X_19, e_19, st_19⟩ := getF X_17 hx hZ hown (host := "") (Or.inl (hw _ (List.mem_of_getElem? (i := 21) rfl))) Via.refl e_17 Fa_18 (g := (mkF m 237 #[rv a1, iv 3, iv c_, rv ac, rv af, iv i] [(.ref a1), (.ref ab)])) rfl rfl (hb hby d4_237)
        refine own_st st_19 ?_
        show own_Go _ _ _ _ (T_19.setTop (mkF m 240 #[rv a1, iv 3, iv c_, rv ac, rv af, iv i] [(.ref ao), (.ref ab)]))
        refine o_iload X_19 hx (hb hby d4_240) rfl ?_
        have Fa_20 := ((Vo.other W_12 n_ao_af).other W_15 n_ao_p0_)
        obtain ⟨cl_21, Ar_21, qk_21, Sz_21, Ng_21, Hs_21, Gs_21⟩ := id Fa_20
        refine own_st (X_19.iaload hx (j := i) (v := (.int (0 : Int32))) (by rw [e_19]; exact Ar_21.1) (State.isArrayOf_alike hZ.alike Ar_21.2.1) Ar_21.2.2 (inb_of Sz_21 ⟨hi0, hc199__2⟩) (Hs_21.at (j := i) (inb_of Sz_21 ⟨hi0, hc199__2⟩) ((own_LI_get hi0 hc199__2).trans (congrArg Value.int hk_6))) (g := (mkF m 242 #[rv a1, iv 3, iv c_, rv ac, rv af, iv i] [(.int i), (.ref ao), (.ref ab)])) rfl rfl (hb hby d4_242)) ?_
        show own_Go _ _ _ _ (T_19.setTop (mkF m 243 #[rv a1, iv 3, iv c_, rv ac, rv af, iv i] [(.int 0), (.ref ab)]))
        refine o_dup2 X_19 hx (hb hby d4_243) rfl rfl ?_
        have Fa_22 := ((Vb.other W_12 n_ab_af).other W_15 (Ne.symm n_p0__ab))
        obtain ⟨cl_23, Ar_23, qk_23, Sz_23, Ng_23, Hs_23, Gs_23⟩ := id Fa_22
        refine own_st (X_19.baloadBooleans hx (j := (0 : Int32)) (v := (.int (1 : Int32))) (by rw [e_19]; exact Ar_23.1) (State.isArrayOf_alike hZ.alike Ar_23.2.1) Ar_23.2.2 (inb_of Sz_23 ⟨by decide, by decide⟩) (Hs_23.at (j := (0 : Int32)) (inb_of Sz_23 ⟨by decide, by decide⟩) rfl) (g := (mkF m 244 #[rv a1, iv 3, iv c_, rv ac, rv af, iv i] [(.int 0), (.ref ab), (.int 0), (.ref ab)])) rfl rfl (hb hby d4_244)) ?_
        show own_Go _ _ _ _ (T_19.setTop (mkF m 245 #[rv a1, iv 3, iv c_, rv ac, rv af, iv i] [(.int 1), (.int 0), (.ref ab)]))
        refine o_aloadN X_19 hx (hb hby d4_245) rfl rfl ?_
        have Fa_24 := ((Fw.other W_12 (Or.inl n_a1_af)).other W_15 (Or.inl n_a1_p0_))
        obtain ⟨T_25, X_25, e_25, st_25⟩ := getF X_19 hx hZ hown (host := "") (Or.inl (hw _ (List.mem_of_getElem? (i := 19) rfl))) Via.refl e_19 Fa_24 (g := (mkF m 246 #[rv a1, iv 3, iv c_, rv ac, rv af, iv i] [(.ref a1), (.int 1), (.int 0), (.ref ab)])) rfl rfl (hb hby d4_246)
        refine own_st st_25 ?_
        show own_Go _ _ _ _ (T_25.setTop (mkF m 249 #[rv a1, iv 3, iv c_, rv ac, rv af, iv i] [(.ref aw), (.int 1), (.int 0), (.ref ab)]))
        refine o_iload X_25 hx (hb hby d4_249) rfl ?_
        have Fa_26 := ((Vw.other W_12 n_aw_af).other W_15 n_aw_p0_)
        obtain ⟨cl_27, Ar_27, qk_27, Sz_27, Ng_27, Hs_27, Gs_27⟩ := id Fa_26
        refine own_st (X_25.iaload hx (j := i) (v := (.int (1 : Int32))) (by rw [e_25]; exact Ar_27.1) (State.isArrayOf_alike hZ.alike Ar_27.2.1) Ar_27.2.2 (inb_of Sz_27 ⟨hi0, hc199__2⟩) (Hs_27.at (j := i) (inb_of Sz_27 ⟨hi0, hc199__2⟩) ((own_LI_get hi0 hc199__2).trans rfl)) (g := (mkF m 251 #[rv a1, iv 3, iv c_, rv ac, rv af, iv i] [(.int i), (.ref aw), (.int 1), (.int 0), (.ref ab)])) rfl rfl (hb hby d4_251)) ?_
        show own_Go _ _ _ _ (T_25.setTop (mkF m 252 #[rv a1, iv 3, iv c_, rv ac, rv af, iv i] [(.int 1), (.int 1), (.int 0), (.ref ab)]))
        refine o_iconst X_25 hx 1 (hb hby d4_252) rfl ?_
        refine o_icmpNo X_25 hx (hb hby d4_253) (teq (by decide : (1 : Int32) = (1 : Int32))).2 ?_
        refine o_iconst X_25 hx 1 (hb hby d4_256) rfl ?_
        refine o_goto X_25 hx (pc' := 261) (hb hby d4_257) (by decide) (by decide) ?_
        refine o_iand X_25 hx (hb hby d4_261) ?_
        show own_Go _ _ _ _ (T_25.setTop (mkF m 262 #[rv a1, iv 3, iv c_, rv ac, rv af, iv i] [(.int 1), (.int 0), (.ref ab)]))
        obtain ⟨cl_28, Ar_28, qk_28, Sz_28, Ng_28, Hs_28, Gs_28⟩ := id Fa_22
        obtain ⟨T_29, h_29, X_29, e_29, W_29, st_29⟩ := stZ X_25 hx hZ e_25 Ar_28 (j := (0 : Int32)) (inb_of Sz_28 ⟨by decide, by decide⟩) (g := (mkF m 262 #[rv a1, iv 3, iv c_, rv ac, rv af, iv i] [(.int 1), (.int 0), (.ref ab)])) rfl rfl (hb hby d4_262)
        refine own_st st_29 ?_
        have V_29 : Arv Z h_29 ab kb .boolean (4 : Int32) [(.int (1 : Int32)), (.int (1 : Int32)), (.int (1 : Int32)), (.int (1 : Int32))] (.int (0 : Int32)) := Arv.set Ar_28 qk_28 Sz_28 Ng_28 Hs_28 Gs_28 (by decide) W_29 0 rfl (Nat.le_of_ble_eq_true rfl)
        have N_29 := Fr.snoc X_29 N_15 g_ab
        show own_Go _ _ _ _ (T_29.setTop (mkF m 263 #[rv a1, iv 3, iv c_, rv ac, rv af, iv i] []))
        refine o_iinc X_29 hx (hb hby d4_263) rfl (l' := #[rv a1, iv 3, iv c_, rv ac, rv af, iv (i + (1 : Int32))]) rfl ?_
        refine o_goto X_29 hx (pc' := 193) (hb hby d4_266) (by decide) (by decide) ?_
        have Zs_30 : n0 ≤ h_29.size := (Nat.le_trans (Nat.le_trans (Nat.le_trans Zh (Keep.of_wr W_12).1) (Keep.of_wr W_15).1) (Keep.of_wr W_29).1)
        have Kp_31 : Keep h0 h_29 [a1, ao, asx, am] := (((Kh.wr W_12 (Or.inr z_af)).wr W_15 (Or.inr z_p0_)).wr W_29 (Or.inr z_ab))
        have Fa_32 := (((E1.wr W_12).wr W_15).wr W_29)
        have Fa_33 := (((Fp.other W_12 (Or.inl n_a1_af)).other W_15 (Or.inl n_a1_p0_)).other W_29 (Or.inl n_a1_ab))
        have Fa_34 := (Fa_24.other W_29 (Or.inl n_a1_ab))
        have Fa_35 := (Fa_18.other W_29 (Or.inl n_a1_ab))
        have Fa_36 := (((Fs.other W_12 (Or.inl n_a1_af)).other W_15 (Or.inl n_a1_p0_)).other W_29 (Or.inl n_a1_ab))
        have Fa_37 := (((Fm.other W_12 (Or.inl n_a1_af)).other W_15 (Or.inl n_a1_p0_)).other W_29 (Or.inl n_a1_ab))
        have Fa_38 := (((Fn.other W_12 (Or.inl n_a1_af)).other W_15 (Or.inl n_a1_p0_)).other W_29 (Or.inl n_a1_ab))
        have Fa_39 := (((Fq.other W_12 (Or.inl n_a1_af)).other W_15 (Or.inl n_a1_p0_)).other W_29 (Or.inl n_a1_ab))
        have Fa_40 := (Fa_16.other W_29 (Or.inl n_a1_ab))
        have Fa_41 := (((Fc.other W_12 (Or.inl n_a1_af)).other W_15 (Or.inl n_a1_p0_)).other W_29 (Or.inl n_a1_ab))
        have Fa_42 := (Fa_26.other W_29 n_aw_ab)
        have Fa_43 := (Fa_20.other W_29 n_ao_ab)
        have Fa_44 := (((Vs.other W_12 n_asx_af).other W_15 n_asx_p0_).other W_29 n_asx_ab)
        have Fa_45 := (((Vm.other W_12 n_am_af).other W_15 n_am_p0_).other W_29 n_am_ab)
        have Fa_46 := ((V_12.other W_15 (Ne.symm n_p0__af)).other W_29 (Ne.symm n_ab_af))
        have Fa_47 := (((Vp.other W_12 n_ap_af).other W_15 n_ap_p0_).other W_29 n_ap_ab)
        have Fa_48 := (V_15.other W_29 n_p0__ab)
        have Fa_49 := (((Vp1.other W_12 n_p1__af).other W_15 n_p1__p0_).other W_29 n_p1__ab)
        have Fa_50 := (((Vp2.other W_12 n_p2__af).other W_15 n_p2__p0_).other W_29 n_p2__ab)
        have Fa_51 := (((Vp3.other W_12 n_p3__af).other W_15 n_p3__p0_).other W_29 n_p3__ab)
        exact ih T_29 _ h_29 (i + (1 : Int32)) c_ ac af ap ab p0_ p1_ p2_ p3_ kf kq kb kp0 kp1 kp2 kp3 (own_up gp0 y0.toNatClampNeg i) gp1 gp2 gp3 x0 x1 x2 x3 (y0 + (1 : Int32)) y1 y2 y3 go gs gm X_29 e_29 N_29 Zs_30 Kp_31 Fa_32 g1 Fa_33 Fa_34 Fa_35 Fa_36 Fa_37 Fa_38 Fa_39 Fa_40 Fa_41 Fa_42 Fa_43 Fa_44 Fa_45 go_ gs_ gm_ Fa_46 Fa_47 V_29 Fa_48 Fa_49 Fa_50 Fa_51 g_af z_af g_ab z_ab g_p0_ z_p0_ g_p1_ z_p1_ g_p2_ z_p2_ g_p3_ z_p3_ n_a1_af n_aw_af n_ao_af n_asx_af n_am_af n_ap_af n_ab_af n_p0__af n_p1__af n_p2__af n_p3__af n_a1_ab n_aw_ab n_ao_ab n_asx_ab n_am_ab n_ap_ab n_p0__ab n_p1__ab n_p2__ab n_p3__ab n_a1_p0_ n_aw_p0_ n_ao_p0_ n_asx_p0_ n_am_p0_ n_ap_p0_ n_p1__p0_ n_p2__p0_ n_p3__p0_ n_a1_p1_ n_aw_p1_ n_ao_p1_ n_asx_p1_ n_am_p1_ n_ap_p1_ n_p2__p1_ n_p3__p1_ n_a1_p2_ n_aw_p2_ n_ao_p2_ n_asx_p2_ n_am_p2_ n_ap_p2_ n_p3__p2_ n_a1_p3_ n_aw_p3_ n_ao_p3_ n_asx_p3_ n_am_p3_ n_ap_p3_ n_ap_a1 (own_nx0 hi0 hc199__2) (own_nx1 hi0 hc199__2) hgo hgs hgm hnw hx0 hx1 hx2 hx3 (own_clS hi0 hc199__2 hgi_6 (congrArg Int32.toInt hk_6) hy0) (own_clO hi0 hc199__2 hgi_6 (congrArg Int32.toInt hk_6) (by decide) hy1) (own_clO hi0 hc199__2 hgi_6 (congrArg Int32.toInt hk_6) (by decide) hy2) (own_clO hi0 hc199__2 hgi_6 (congrArg Int32.toInt hk_6) (by decide) hy3) (own_fS hi0 hc199__2 hfu)
      · rw [hk_6]
        show own_Go _ _ _ _ (T_4.setTop (mkF m 213 #[rv a1, iv 3, iv c_, rv ac, rv af, iv i] [(.int 1), (.ref ap)]))
        obtain ⟨cl_52, Ar_52, qk_52, Sz_52, Ng_52, Hs_52, Gs_52⟩ := id Vp
        refine own_st (X_4.aaload hx (j := (1 : Int32)) (v := (.ref p1_)) (by rw [e_4]; exact Ar_52.1) (State.isArrayOf_alike hZ.alike Ar_52.2.1) rfl Ar_52.2.2 (inb_of Sz_52 ⟨by decide, by decide⟩) (Hs_52.at (j := (1 : Int32)) (inb_of Sz_52 ⟨by decide, by decide⟩) rfl) (g := (mkF m 213 #[rv a1, iv 3, iv c_, rv ac, rv af, iv i] [(.int 1), (.ref ap)])) rfl rfl (hb hby d4_213)) ?_
        show own_Go _ _ _ _ (T_4.setTop (mkF m 214 #[rv a1, iv 3, iv c_, rv ac, rv af, iv i] [(.ref p1_)]))
        refine o_aload X_4 hx (hb hby d4_214) rfl rfl ?_
        refine o_aloadN X_4 hx (hb hby d4_216) rfl rfl ?_
        obtain ⟨T_53, X_53, e_53, st_53⟩ := getF X_4 hx hZ hown (host := "") (Or.inl (hw _ (List.mem_of_getElem? (i := 21) rfl))) Via.refl e_4 Fo (g := (mkF m 217 #[rv a1, iv 3, iv c_, rv ac, rv af, iv i] [(.ref a1), (.ref af), (.ref p1_)])) rfl rfl (hb hby d4_217)
        refine own_st st_53 ?_
        show own_Go _ _ _ _ (T_53.setTop (mkF m 220 #[rv a1, iv 3, iv c_, rv ac, rv af, iv i] [(.ref ao), (.ref af), (.ref p1_)]))
        refine o_iload X_53 hx (hb hby d4_220) rfl ?_
        obtain ⟨cl_54, Ar_54, qk_54, Sz_54, Ng_54, Hs_54, Gs_54⟩ := id Vo
        refine own_st (X_53.iaload hx (j := i) (v := (.int (1 : Int32))) (by rw [e_53]; exact Ar_54.1) (State.isArrayOf_alike hZ.alike Ar_54.2.1) Ar_54.2.2 (inb_of Sz_54 ⟨hi0, hc199__2⟩) (Hs_54.at (j := i) (inb_of Sz_54 ⟨hi0, hc199__2⟩) ((own_LI_get hi0 hc199__2).trans (congrArg Value.int hk_6))) (g := (mkF m 222 #[rv a1, iv 3, iv c_, rv ac, rv af, iv i] [(.int i), (.ref ao), (.ref af), (.ref p1_)])) rfl rfl (hb hby d4_222)) ?_
        show own_Go _ _ _ _ (T_53.setTop (mkF m 223 #[rv a1, iv 3, iv c_, rv ac, rv af, iv i] [(.int 1), (.ref af), (.ref p1_)]))
        refine o_dup2 X_53 hx (hb hby d4_223) rfl rfl ?_
        obtain ⟨cl_55, Ar_55, qk_55, Sz_55, Ng_55, Hs_55, Gs_55⟩ := id Vf
        refine own_st (X_53.iaload hx (j := (1 : Int32)) (v := (.int y1)) (by rw [e_53]; exact Ar_55.1) (State.isArrayOf_alike hZ.alike Ar_55.2.1) Ar_55.2.2 (inb_of Sz_55 ⟨by decide, by decide⟩) (Hs_55.at (j := (1 : Int32)) (inb_of Sz_55 ⟨by decide, by decide⟩) rfl) (g := (mkF m 224 #[rv a1, iv 3, iv c_, rv ac, rv af, iv i] [(.int 1), (.ref af), (.int 1), (.ref af), (.ref p1_)])) rfl rfl (hb hby d4_224)) ?_
        show own_Go _ _ _ _ (T_53.setTop (mkF m 225 #[rv a1, iv 3, iv c_, rv ac, rv af, iv i] [(.int y1), (.int 1), (.ref af), (.ref p1_)]))
        refine o_dupX2 X_53 hx (hb hby d4_225) rfl rfl rfl ?_
        refine o_iconst X_53 hx 1 (hb hby d4_226) rfl ?_
        refine o_iadd X_53 hx (hb hby d4_227) ?_
        obtain ⟨cl_56, Ar_56, qk_56, Sz_56, Ng_56, Hs_56, Gs_56⟩ := id Vf
        obtain ⟨T_57, h_57, X_57, e_57, W_57, st_57⟩ := stI X_53 hx hZ e_53 Ar_56 (j := (1 : Int32)) (inb_of Sz_56 ⟨by decide, by decide⟩) (g := (mkF m 228 #[rv a1, iv 3, iv c_, rv ac, rv af, iv i] [(.int (y1 + (1 : Int32))), (.int 1), (.ref af), (.int y1), (.ref p1_)])) rfl rfl (hb hby d4_228)
        refine own_st st_57 ?_
        have V_57 : Arv Z h_57 af kf .int (4 : Int32) [(.int y0), (.int (y1 + (1 : Int32))), (.int y2), (.int y3)] (.int (0 : Int32)) := Arv.set Ar_56 qk_56 Sz_56 Ng_56 Hs_56 Gs_56 rfl W_57 1 rfl (Nat.le_of_ble_eq_true rfl)
        have N_57 := Fr.snoc X_57 NF g_af
        show own_Go _ _ _ _ (T_57.setTop (mkF m 229 #[rv a1, iv 3, iv c_, rv ac, rv af, iv i] [(.int y1), (.ref p1_)]))
        refine o_iload X_57 hx (hb hby d4_229) rfl ?_
        have Fa_58 := (Vp1.other W_57 n_p1__af)
        obtain ⟨cl_59, Ar_59, qk_59, Sz_59, Ng_59, Hs_59, Gs_59⟩ := id Fa_58
        obtain ⟨T_60, h_60, X_60, e_60, W_60, st_60⟩ := stI X_57 hx hZ e_57 Ar_59 (j := y1) (inb_of Sz_59 ⟨(own_clnn hy1), (own_clt hi0 hc199__2 hgi_6 (congrArg Int32.toInt hk_6) hy1 hx1)⟩) (g := (mkF m 231 #[rv a1, iv 3, iv c_, rv ac, rv af, iv i] [(.int i), (.int y1), (.ref p1_)])) rfl rfl (hb hby d4_231)
        refine own_st st_60 ?_
        have V_60 : Arv Z h_60 p1_ kp1 .int x1 (own_LI (own_up gp1 y1.toNatClampNeg i) x1) (.int (0 : Int32)) := by have q := Arv.set Ar_59 qk_59 Sz_59 Ng_59 Hs_59 Gs_59 rfl W_60 y1.toNatClampNeg rfl (own_LI_lt (own_clnn hy1) (own_clt hi0 hc199__2 hgi_6 (congrArg Int32.toInt hk_6) hy1 hx1)); rw [own_LI_set] at q; exact q
        have N_60 := Fr.snoc X_60 N_57 g_p1_
        show own_Go _ _ _ _ (T_60.setTop (mkF m 232 #[rv a1, iv 3, iv c_, rv ac, rv af, iv i] []))
        refine o_aloadN X_60 hx (hb hby d4_232) rfl rfl ?_
        have Fa_61 := ((Fb.other W_57 (Or.inl n_a1_af)).other W_60 (Or.inl n_a1_p1_))
        obtain ⟨T_62, X_62, e_62, st_62⟩ := getF X_60 hx hZ hown (host := "") (Or.inl (hw _ (List.mem_of_getElem? (i := 43) rfl))) Via.refl e_60 Fa_61 (g := (mkF m 233 #[rv a1, iv 3, iv c_, rv ac, rv af, iv i] [(.ref a1)])) rfl rfl (hb hby d4_233)
        refine own_st st_62 ?_
        show own_Go _ _ _ _ (T_62.setTop (mkF m 236 #[rv a1, iv 3, iv c_, rv ac, rv af, iv i] [(.ref ab)]))
        refine o_aloadN X_62 hx (hb hby d4_236) rfl rfl ?_
        have Fa_63 := ((Fo.other W_57 (Or.inl n_a1_af)).other W_60 (Or.inl n_a1_p1_))
        obtain ⟨T_64, X_64, e_64, st_64⟩ := getF X_62 hx hZ hown (host := "") (Or.inl (hw _ (List.mem_of_getElem? (i := 21) rfl))) Via.refl e_62 Fa_63 (g := (mkF m 237 #[rv a1, iv 3, iv c_, rv ac, rv af, iv i] [(.ref a1), (.ref ab)])) rfl rfl (hb hby d4_237)
        refine own_st st_64 ?_
        show own_Go _ _ _ _ (T_64.setTop (mkF m 240 #[rv a1, iv 3, iv c_, rv ac, rv af, iv i] [(.ref ao), (.ref ab)]))
        refine o_iload X_64 hx (hb hby d4_240) rfl ?_
        have Fa_65 := ((Vo.other W_57 n_ao_af).other W_60 n_ao_p1_)
        obtain ⟨cl_66, Ar_66, qk_66, Sz_66, Ng_66, Hs_66, Gs_66⟩ := id Fa_65
        refine own_st (X_64.iaload hx (j := i) (v := (.int (1 : Int32))) (by rw [e_64]; exact Ar_66.1) (State.isArrayOf_alike hZ.alike Ar_66.2.1) Ar_66.2.2 (inb_of Sz_66 ⟨hi0, hc199__2⟩) (Hs_66.at (j := i) (inb_of Sz_66 ⟨hi0, hc199__2⟩) ((own_LI_get hi0 hc199__2).trans (congrArg Value.int hk_6))) (g := (mkF m 242 #[rv a1, iv 3, iv c_, rv ac, rv af, iv i] [(.int i), (.ref ao), (.ref ab)])) rfl rfl (hb hby d4_242)) ?_
        show own_Go _ _ _ _ (T_64.setTop (mkF m 243 #[rv a1, iv 3, iv c_, rv ac, rv af, iv i] [(.int 1), (.ref ab)]))
        refine o_dup2 X_64 hx (hb hby d4_243) rfl rfl ?_
        have Fa_67 := ((Vb.other W_57 n_ab_af).other W_60 (Ne.symm n_p1__ab))
        obtain ⟨cl_68, Ar_68, qk_68, Sz_68, Ng_68, Hs_68, Gs_68⟩ := id Fa_67
        refine own_st (X_64.baloadBooleans hx (j := (1 : Int32)) (v := (.int (1 : Int32))) (by rw [e_64]; exact Ar_68.1) (State.isArrayOf_alike hZ.alike Ar_68.2.1) Ar_68.2.2 (inb_of Sz_68 ⟨by decide, by decide⟩) (Hs_68.at (j := (1 : Int32)) (inb_of Sz_68 ⟨by decide, by decide⟩) rfl) (g := (mkF m 244 #[rv a1, iv 3, iv c_, rv ac, rv af, iv i] [(.int 1), (.ref ab), (.int 1), (.ref ab)])) rfl rfl (hb hby d4_244)) ?_
        show own_Go _ _ _ _ (T_64.setTop (mkF m 245 #[rv a1, iv 3, iv c_, rv ac, rv af, iv i] [(.int 1), (.int 1), (.ref ab)]))
        refine o_aloadN X_64 hx (hb hby d4_245) rfl rfl ?_
        have Fa_69 := ((Fw.other W_57 (Or.inl n_a1_af)).other W_60 (Or.inl n_a1_p1_))
        obtain ⟨T_70, X_70, e_70, st_70⟩ := getF X_64 hx hZ hown (host := "") (Or.inl (hw _ (List.mem_of_getElem? (i := 19) rfl))) Via.refl e_64 Fa_69 (g := (mkF m 246 #[rv a1, iv 3, iv c_, rv ac, rv af, iv i] [(.ref a1), (.int 1), (.int 1), (.ref ab)])) rfl rfl (hb hby d4_246)
        refine own_st st_70 ?_
        show own_Go _ _ _ _ (T_70.setTop (mkF m 249 #[rv a1, iv 3, iv c_, rv ac, rv af, iv i] [(.ref aw), (.int 1), (.int 1), (.ref ab)]))
        refine o_iload X_70 hx (hb hby d4_249) rfl ?_
        have Fa_71 := ((Vw.other W_57 n_aw_af).other W_60 n_aw_p1_)
        obtain ⟨cl_72, Ar_72, qk_72, Sz_72, Ng_72, Hs_72, Gs_72⟩ := id Fa_71
        refine own_st (X_70.iaload hx (j := i) (v := (.int (1 : Int32))) (by rw [e_70]; exact Ar_72.1) (State.isArrayOf_alike hZ.alike Ar_72.2.1) Ar_72.2.2 (inb_of Sz_72 ⟨hi0, hc199__2⟩) (Hs_72.at (j := i) (inb_of Sz_72 ⟨hi0, hc199__2⟩) ((own_LI_get hi0 hc199__2).trans rfl)) (g := (mkF m 251 #[rv a1, iv 3, iv c_, rv ac, rv af, iv i] [(.int i), (.ref aw), (.int 1), (.int 1), (.ref ab)])) rfl rfl (hb hby d4_251)) ?_
        show own_Go _ _ _ _ (T_70.setTop (mkF m 252 #[rv a1, iv 3, iv c_, rv ac, rv af, iv i] [(.int 1), (.int 1), (.int 1), (.ref ab)]))
        refine o_iconst X_70 hx 1 (hb hby d4_252) rfl ?_
        refine o_icmpNo X_70 hx (hb hby d4_253) (teq (by decide : (1 : Int32) = (1 : Int32))).2 ?_
        refine o_iconst X_70 hx 1 (hb hby d4_256) rfl ?_
        refine o_goto X_70 hx (pc' := 261) (hb hby d4_257) (by decide) (by decide) ?_
        refine o_iand X_70 hx (hb hby d4_261) ?_
        show own_Go _ _ _ _ (T_70.setTop (mkF m 262 #[rv a1, iv 3, iv c_, rv ac, rv af, iv i] [(.int 1), (.int 1), (.ref ab)]))
        obtain ⟨cl_73, Ar_73, qk_73, Sz_73, Ng_73, Hs_73, Gs_73⟩ := id Fa_67
        obtain ⟨T_74, h_74, X_74, e_74, W_74, st_74⟩ := stZ X_70 hx hZ e_70 Ar_73 (j := (1 : Int32)) (inb_of Sz_73 ⟨by decide, by decide⟩) (g := (mkF m 262 #[rv a1, iv 3, iv c_, rv ac, rv af, iv i] [(.int 1), (.int 1), (.ref ab)])) rfl rfl (hb hby d4_262)
        refine own_st st_74 ?_
        have V_74 : Arv Z h_74 ab kb .boolean (4 : Int32) [(.int (1 : Int32)), (.int (1 : Int32)), (.int (1 : Int32)), (.int (1 : Int32))] (.int (0 : Int32)) := Arv.set Ar_73 qk_73 Sz_73 Ng_73 Hs_73 Gs_73 (by decide) W_74 1 rfl (Nat.le_of_ble_eq_true rfl)
        have N_74 := Fr.snoc X_74 N_60 g_ab
        show own_Go _ _ _ _ (T_74.setTop (mkF m 263 #[rv a1, iv 3, iv c_, rv ac, rv af, iv i] []))
        refine o_iinc X_74 hx (hb hby d4_263) rfl (l' := #[rv a1, iv 3, iv c_, rv ac, rv af, iv (i + (1 : Int32))]) rfl ?_
        refine o_goto X_74 hx (pc' := 193) (hb hby d4_266) (by decide) (by decide) ?_
        have Zs_75 : n0 ≤ h_74.size := (Nat.le_trans (Nat.le_trans (Nat.le_trans Zh (Keep.of_wr W_57).1) (Keep.of_wr W_60).1) (Keep.of_wr W_74).1)
        have Kp_76 : Keep h0 h_74 [a1, ao, asx, am] := (((Kh.wr W_57 (Or.inr z_af)).wr W_60 (Or.inr z_p1_)).wr W_74 (Or.inr z_ab))
        have Fa_77 := (((E1.wr W_57).wr W_60).wr W_74)
        have Fa_78 := (((Fp.other W_57 (Or.inl n_a1_af)).other W_60 (Or.inl n_a1_p1_)).other W_74 (Or.inl n_a1_ab))
        have Fa_79 := (Fa_69.other W_74 (Or.inl n_a1_ab))
        have Fa_80 := (Fa_63.other W_74 (Or.inl n_a1_ab))
        have Fa_81 := (((Fs.other W_57 (Or.inl n_a1_af)).other W_60 (Or.inl n_a1_p1_)).other W_74 (Or.inl n_a1_ab))
        have Fa_82 := (((Fm.other W_57 (Or.inl n_a1_af)).other W_60 (Or.inl n_a1_p1_)).other W_74 (Or.inl n_a1_ab))
        have Fa_83 := (((Fn.other W_57 (Or.inl n_a1_af)).other W_60 (Or.inl n_a1_p1_)).other W_74 (Or.inl n_a1_ab))
        have Fa_84 := (((Fq.other W_57 (Or.inl n_a1_af)).other W_60 (Or.inl n_a1_p1_)).other W_74 (Or.inl n_a1_ab))
        have Fa_85 := (Fa_61.other W_74 (Or.inl n_a1_ab))
        have Fa_86 := (((Fc.other W_57 (Or.inl n_a1_af)).other W_60 (Or.inl n_a1_p1_)).other W_74 (Or.inl n_a1_ab))
        have Fa_87 := (Fa_71.other W_74 n_aw_ab)
        have Fa_88 := (Fa_65.other W_74 n_ao_ab)
        have Fa_89 := (((Vs.other W_57 n_asx_af).other W_60 n_asx_p1_).other W_74 n_asx_ab)
        have Fa_90 := (((Vm.other W_57 n_am_af).other W_60 n_am_p1_).other W_74 n_am_ab)
        have Fa_91 := ((V_57.other W_60 (Ne.symm n_p1__af)).other W_74 (Ne.symm n_ab_af))
        have Fa_92 := (((Vp.other W_57 n_ap_af).other W_60 n_ap_p1_).other W_74 n_ap_ab)
        have Fa_93 := (((Vp0.other W_57 n_p0__af).other W_60 (Ne.symm n_p1__p0_)).other W_74 n_p0__ab)
        have Fa_94 := (V_60.other W_74 n_p1__ab)
        have Fa_95 := (((Vp2.other W_57 n_p2__af).other W_60 n_p2__p1_).other W_74 n_p2__ab)
        have Fa_96 := (((Vp3.other W_57 n_p3__af).other W_60 n_p3__p1_).other W_74 n_p3__ab)
        exact ih T_74 _ h_74 (i + (1 : Int32)) c_ ac af ap ab p0_ p1_ p2_ p3_ kf kq kb kp0 kp1 kp2 kp3 gp0 (own_up gp1 y1.toNatClampNeg i) gp2 gp3 x0 x1 x2 x3 y0 (y1 + (1 : Int32)) y2 y3 go gs gm X_74 e_74 N_74 Zs_75 Kp_76 Fa_77 g1 Fa_78 Fa_79 Fa_80 Fa_81 Fa_82 Fa_83 Fa_84 Fa_85 Fa_86 Fa_87 Fa_88 Fa_89 Fa_90 go_ gs_ gm_ Fa_91 Fa_92 V_74 Fa_93 Fa_94 Fa_95 Fa_96 g_af z_af g_ab z_ab g_p0_ z_p0_ g_p1_ z_p1_ g_p2_ z_p2_ g_p3_ z_p3_ n_a1_af n_aw_af n_ao_af n_asx_af n_am_af n_ap_af n_ab_af n_p0__af n_p1__af n_p2__af n_p3__af n_a1_ab n_aw_ab n_ao_ab n_asx_ab n_am_ab n_ap_ab n_p0__ab n_p1__ab n_p2__ab n_p3__ab n_a1_p0_ n_aw_p0_ n_ao_p0_ n_asx_p0_ n_am_p0_ n_ap_p0_ n_p1__p0_ n_p2__p0_ n_p3__p0_ n_a1_p1_ n_aw_p1_ n_ao_p1_ n_asx_p1_ n_am_p1_ n_ap_p1_ n_p2__p1_ n_p3__p1_ n_a1_p2_ n_aw_p2_ n_ao_p2_ n_asx_p2_ n_am_p2_ n_ap_p2_ n_p3__p2_ n_a1_p3_ n_aw_p3_ n_ao_p3_ n_asx_p3_ n_am_p3_ n_ap_p3_ n_ap_a1 (own_nx0 hi0 hc199__2) (own_nx1 hi0 hc199__2) hgo hgs hgm hnw hx0 hx1 hx2 hx3 (own_clO hi0 hc199__2 hgi_6 (congrArg Int32.toInt hk_6) (by decide) hy0) (own_clS hi0 hc199__2 hgi_6 (congrArg Int32.toInt hk_6) hy1) (own_clO hi0 hc199__2 hgi_6 (congrArg Int32.toInt hk_6) (by decide) hy2) (own_clO hi0 hc199__2 hgi_6 (congrArg Int32.toInt hk_6) (by decide) hy3) (own_fS hi0 hc199__2 hfu)
      · rw [hk_6]
        show own_Go _ _ _ _ (T_4.setTop (mkF m 213 #[rv a1, iv 3, iv c_, rv ac, rv af, iv i] [(.int 2), (.ref ap)]))
        obtain ⟨cl_97, Ar_97, qk_97, Sz_97, Ng_97, Hs_97, Gs_97⟩ := id Vp
        refine own_st (X_4.aaload hx (j := (2 : Int32)) (v := (.ref p2_)) (by rw [e_4]; exact Ar_97.1) (State.isArrayOf_alike hZ.alike Ar_97.2.1) rfl Ar_97.2.2 (inb_of Sz_97 ⟨by decide, by decide⟩) (Hs_97.at (j := (2 : Int32)) (inb_of Sz_97 ⟨by decide, by decide⟩) rfl) (g := (mkF m 213 #[rv a1, iv 3, iv c_, rv ac, rv af, iv i] [(.int 2), (.ref ap)])) rfl rfl (hb hby d4_213)) ?_
        show own_Go _ _ _ _ (T_4.setTop (mkF m 214 #[rv a1, iv 3, iv c_, rv ac, rv af, iv i] [(.ref p2_)]))
        refine o_aload X_4 hx (hb hby d4_214) rfl rfl ?_
        refine o_aloadN X_4 hx (hb hby d4_216) rfl rfl ?_
        obtain ⟨T_98, X_98, e_98, st_98⟩ := getF X_4 hx hZ hown (host := "") (Or.inl (hw _ (List.mem_of_getElem? (i := 21) rfl))) Via.refl e_4 Fo (g := (mkF m 217 #[rv a1, iv 3, iv c_, rv ac, rv af, iv i] [(.ref a1), (.ref af), (.ref p2_)])) rfl rfl (hb hby d4_217)
        refine own_st st_98 ?_
        show own_Go _ _ _ _ (T_98.setTop (mkF m 220 #[rv a1, iv 3, iv c_, rv ac, rv af, iv i] [(.ref ao), (.ref af), (.ref p2_)]))
        refine o_iload X_98 hx (hb hby d4_220) rfl ?_
        obtain ⟨cl_99, Ar_99, qk_99, Sz_99, Ng_99, Hs_99, Gs_99⟩ := id Vo
        refine own_st (X_98.iaload hx (j := i) (v := (.int (2 : Int32))) (by rw [e_98]; exact Ar_99.1) (State.isArrayOf_alike hZ.alike Ar_99.2.1) Ar_99.2.2 (inb_of Sz_99 ⟨hi0, hc199__2⟩) (Hs_99.at (j := i) (inb_of Sz_99 ⟨hi0, hc199__2⟩) ((own_LI_get hi0 hc199__2).trans (congrArg Value.int hk_6))) (g := (mkF m 222 #[rv a1, iv 3, iv c_, rv ac, rv af, iv i] [(.int i), (.ref ao), (.ref af), (.ref p2_)])) rfl rfl (hb hby d4_222)) ?_
        show own_Go _ _ _ _ (T_98.setTop (mkF m 223 #[rv a1, iv 3, iv c_, rv ac, rv af, iv i] [(.int 2), (.ref af), (.ref p2_)]))
        refine o_dup2 X_98 hx (hb hby d4_223) rfl rfl ?_
        obtain ⟨cl_100, Ar_100, qk_100, Sz_100, Ng_100, Hs_100, Gs_100⟩ := id Vf
        refine own_st (X_98.iaload hx (j := (2 : Int32)) (v := (.int y2)) (by rw [e_98]; exact Ar_100.1) (State.isArrayOf_alike hZ.alike Ar_100.2.1) Ar_100.2.2 (inb_of Sz_100 ⟨by decide, by decide⟩) (Hs_100.at (j := (2 : Int32)) (inb_of Sz_100 ⟨by decide, by decide⟩) rfl) (g := (mkF m 224 #[rv a1, iv 3, iv c_, rv ac, rv af, iv i] [(.int 2), (.ref af), (.int 2), (.ref af), (.ref p2_)])) rfl rfl (hb hby d4_224)) ?_
        show own_Go _ _ _ _ (T_98.setTop (mkF m 225 #[rv a1, iv 3, iv c_, rv ac, rv af, iv i] [(.int y2), (.int 2), (.ref af), (.ref p2_)]))
        refine o_dupX2 X_98 hx (hb hby d4_225) rfl rfl rfl ?_
        refine o_iconst X_98 hx 1 (hb hby d4_226) rfl ?_
        refine o_iadd X_98 hx (hb hby d4_227) ?_
        obtain ⟨cl_101, Ar_101, qk_101, Sz_101, Ng_101, Hs_101, Gs_101⟩ := id Vf
        obtain ⟨T_102, h_102, X_102, e_102, W_102, st_102⟩ := stI X_98 hx hZ e_98 Ar_101 (j := (2 : Int32)) (inb_of Sz_101 ⟨by decide, by decide⟩) (g := (mkF m 228 #[rv a1, iv 3, iv c_, rv ac, rv af, iv i] [(.int (y2 + (1 : Int32))), (.int 2), (.ref af), (.int y2), (.ref p2_)])) rfl rfl (hb hby d4_228)
        refine own_st st_102 ?_
        have V_102 : Arv Z h_102 af kf .int (4 : Int32) [(.int y0), (.int y1), (.int (y2 + (1 : Int32))), (.int y3)] (.int (0 : Int32)) := Arv.set Ar_101 qk_101 Sz_101 Ng_101 Hs_101 Gs_101 rfl W_102 2 rfl (Nat.le_of_ble_eq_true rfl)
        have N_102 := Fr.snoc X_102 NF g_af
        show own_Go _ _ _ _ (T_102.setTop (mkF m 229 #[rv a1, iv 3, iv c_, rv ac, rv af, iv i] [(.int y2), (.ref p2_)]))
        refine o_iload X_102 hx (hb hby d4_229) rfl ?_
        have Fa_103 := (Vp2.other W_102 n_p2__af)
        obtain ⟨cl_104, Ar_104, qk_104, Sz_104, Ng_104, Hs_104, Gs_104⟩ := id Fa_103
        obtain ⟨T_105, h_105, X_105, e_105, W_105, st_105⟩ := stI X_102 hx hZ e_102 Ar_104 (j := y2) (inb_of Sz_104 ⟨(own_clnn hy2), (own_clt hi0 hc199__2 hgi_6 (congrArg Int32.toInt hk_6) hy2 hx2)⟩) (g := (mkF m 231 #[rv a1, iv 3, iv c_, rv ac, rv af, iv i] [(.int i), (.int y2), (.ref p2_)])) rfl rfl (hb hby d4_231)
        refine own_st st_105 ?_
        have V_105 : Arv Z h_105 p2_ kp2 .int x2 (own_LI (own_up gp2 y2.toNatClampNeg i) x2) (.int (0 : Int32)) := by have q := Arv.set Ar_104 qk_104 Sz_104 Ng_104 Hs_104 Gs_104 rfl W_105 y2.toNatClampNeg rfl (own_LI_lt (own_clnn hy2) (own_clt hi0 hc199__2 hgi_6 (congrArg Int32.toInt hk_6) hy2 hx2)); rw [own_LI_set] at q; exact q
        have N_105 := Fr.snoc X_105 N_102 g_p2_
        show own_Go _ _ _ _ (T_105.setTop (mkF m 232 #[rv a1, iv 3, iv c_, rv ac, rv af, iv i] []))
        refine o_aloadN X_105 hx (hb hby d4_232) rfl rfl ?_
        have Fa_106 := ((Fb.other W_102 (Or.inl n_a1_af)).other W_105 (Or.inl n_a1_p2_))
        obtain ⟨T_107, X_107, e_107, st_107⟩ := getF X_105 hx hZ hown (host := "") (Or.inl (hw _ (List.mem_of_getElem? (i := 43) rfl))) Via.refl e_105 Fa_106 (g := (mkF m 233 #[rv a1, iv 3, iv c_, rv ac, rv af, iv i] [(.ref a1)])) rfl rfl (hb hby d4_233)
        refine own_st st_107 ?_
        show own_Go _ _ _ _ (T_107.setTop (mkF m 236 #[rv a1, iv 3, iv c_, rv ac, rv af, iv i] [(.ref ab)]))
        refine o_aloadN X_107 hx (hb hby d4_236) rfl rfl ?_
        have Fa_108 := ((Fo.other W_102 (Or.inl n_a1_af)).other W_105 (Or.inl n_a1_p2_))
        obtain ⟨T_109, X_109, e_109, st_109⟩ := getF X_107 hx hZ hown (host := "") (Or.inl (hw _ (List.mem_of_getElem? (i := 21) rfl))) Via.refl e_107 Fa_108 (g := (mkF m 237 #[rv a1, iv 3, iv c_, rv ac, rv af, iv i] [(.ref a1), (.ref ab)])) rfl rfl (hb hby d4_237)
        refine own_st st_109 ?_
        show own_Go _ _ _ _ (T_109.setTop (mkF m 240 #[rv a1, iv 3, iv c_, rv ac, rv af, iv i] [(.ref ao), (.ref ab)]))
        refine o_iload X_109 hx (hb hby d4_240) rfl ?_
        have Fa_110 := ((Vo.other W_102 n_ao_af).other W_105 n_ao_p2_)
        obtain ⟨cl_111, Ar_111, qk_111, Sz_111, Ng_111, Hs_111, Gs_111⟩ := id Fa_110
        refine own_st (X_109.iaload hx (j := i) (v := (.int (2 : Int32))) (by rw [e_109]; exact Ar_111.1) (State.isArrayOf_alike hZ.alike Ar_111.2.1) Ar_111.2.2 (inb_of Sz_111 ⟨hi0, hc199__2⟩) (Hs_111.at (j := i) (inb_of Sz_111 ⟨hi0, hc199__2⟩) ((own_LI_get hi0 hc199__2).trans (congrArg Value.int hk_6))) (g := (mkF m 242 #[rv a1, iv 3, iv c_, rv ac, rv af, iv i] [(.int i), (.ref ao), (.ref ab)])) rfl rfl (hb hby d4_242)) ?_
        show own_Go _ _ _ _ (T_109.setTop (mkF m 243 #[rv a1, iv 3, iv c_, rv ac, rv af, iv i] [(.int 2), (.ref ab)]))
        refine o_dup2 X_109 hx (hb hby d4_243) rfl rfl ?_
        have Fa_112 := ((Vb.other W_102 n_ab_af).other W_105 (Ne.symm n_p2__ab))
        obtain ⟨cl_113, Ar_113, qk_113, Sz_113, Ng_113, Hs_113, Gs_113⟩ := id Fa_112
        refine own_st (X_109.baloadBooleans hx (j := (2 : Int32)) (v := (.int (1 : Int32))) (by rw [e_109]; exact Ar_113.1) (State.isArrayOf_alike hZ.alike Ar_113.2.1) Ar_113.2.2 (inb_of Sz_113 ⟨by decide, by decide⟩) (Hs_113.at (j := (2 : Int32)) (inb_of Sz_113 ⟨by decide, by decide⟩) rfl) (g := (mkF m 244 #[rv a1, iv 3, iv c_, rv ac, rv af, iv i] [(.int 2), (.ref ab), (.int 2), (.ref ab)])) rfl rfl (hb hby d4_244)) ?_
        show own_Go _ _ _ _ (T_109.setTop (mkF m 245 #[rv a1, iv 3, iv c_, rv ac, rv af, iv i] [(.int 1), (.int 2), (.ref ab)]))
        refine o_aloadN X_109 hx (hb hby d4_245) rfl rfl ?_
        have Fa_114 := ((Fw.other W_102 (Or.inl n_a1_af)).other W_105 (Or.inl n_a1_p2_))
        obtain ⟨T_115, X_115, e_115, st_115⟩ := getF X_109 hx hZ hown (host := "") (Or.inl (hw _ (List.mem_of_getElem? (i := 19) rfl))) Via.refl e_109 Fa_114 (g := (mkF m 246 #[rv a1, iv 3, iv c_, rv ac, rv af, iv i] [(.ref a1), (.int 1), (.int 2), (.ref ab)])) rfl rfl (hb hby d4_246)
        refine own_st st_115 ?_
        show own_Go _ _ _ _ (T_115.setTop (mkF m 249 #[rv a1, iv 3, iv c_, rv ac, rv af, iv i] [(.ref aw), (.int 1), (.int 2), (.ref ab)]))
        refine o_iload X_115 hx (hb hby d4_249) rfl ?_
        have Fa_116 := ((Vw.other W_102 n_aw_af).other W_105 n_aw_p2_)
        obtain ⟨cl_117, Ar_117, qk_117, Sz_117, Ng_117, Hs_117, Gs_117⟩ := id Fa_116
        refine own_st (X_115.iaload hx (j := i) (v := (.int (1 : Int32))) (by rw [e_115]; exact Ar_117.1) (State.isArrayOf_alike hZ.alike Ar_117.2.1) Ar_117.2.2 (inb_of Sz_117 ⟨hi0, hc199__2⟩) (Hs_117.at (j := i) (inb_of Sz_117 ⟨hi0, hc199__2⟩) ((own_LI_get hi0 hc199__2).trans rfl)) (g := (mkF m 251 #[rv a1, iv 3, iv c_, rv ac, rv af, iv i] [(.int i), (.ref aw), (.int 1), (.int 2), (.ref ab)])) rfl rfl (hb hby d4_251)) ?_
        show own_Go _ _ _ _ (T_115.setTop (mkF m 252 #[rv a1, iv 3, iv c_, rv ac, rv af, iv i] [(.int 1), (.int 1), (.int 2), (.ref ab)]))
        refine o_iconst X_115 hx 1 (hb hby d4_252) rfl ?_
        refine o_icmpNo X_115 hx (hb hby d4_253) (teq (by decide : (1 : Int32) = (1 : Int32))).2 ?_
        refine o_iconst X_115 hx 1 (hb hby d4_256) rfl ?_
        refine o_goto X_115 hx (pc' := 261) (hb hby d4_257) (by decide) (by decide) ?_
        refine o_iand X_115 hx (hb hby d4_261) ?_
        show own_Go _ _ _ _ (T_115.setTop (mkF m 262 #[rv a1, iv 3, iv c_, rv ac, rv af, iv i] [(.int 1), (.int 2), (.ref ab)]))
        obtain ⟨cl_118, Ar_118, qk_118, Sz_118, Ng_118, Hs_118, Gs_118⟩ := id Fa_112
        obtain ⟨T_119, h_119, X_119, e_119, W_119, st_119⟩ := stZ X_115 hx hZ e_115 Ar_118 (j := (2 : Int32)) (inb_of Sz_118 ⟨by decide, by decide⟩) (g := (mkF m 262 #[rv a1, iv 3, iv c_, rv ac, rv af, iv i] [(.int 1), (.int 2), (.ref ab)])) rfl rfl (hb hby d4_262)
        refine own_st st_119 ?_
        have V_119 : Arv Z h_119 ab kb .boolean (4 : Int32) [(.int (1 : Int32)), (.int (1 : Int32)), (.int (1 : Int32)), (.int (1 : Int32))] (.int (0 : Int32)) := Arv.set Ar_118 qk_118 Sz_118 Ng_118 Hs_118 Gs_118 (by decide) W_119 2 rfl (Nat.le_of_ble_eq_true rfl)
        have N_119 := Fr.snoc X_119 N_105 g_ab
        show own_Go _ _ _ _ (T_119.setTop (mkF m 263 #[rv a1, iv 3, iv c_, rv ac, rv af, iv i] []))
        refine o_iinc X_119 hx (hb hby d4_263) rfl (l' := #[rv a1, iv 3, iv c_, rv ac, rv af, iv (i + (1 : Int32))]) rfl ?_
        refine o_goto X_119 hx (pc' := 193) (hb hby d4_266) (by decide) (by decide) ?_
        have Zs_120 : n0 ≤ h_119.size := (Nat.le_trans (Nat.le_trans (Nat.le_trans Zh (Keep.of_wr W_102).1) (Keep.of_wr W_105).1) (Keep.of_wr W_119).1)
        have Kp_121 : Keep h0 h_119 [a1, ao, asx, am] := (((Kh.wr W_102 (Or.inr z_af)).wr W_105 (Or.inr z_p2_)).wr W_119 (Or.inr z_ab))
        have Fa_122 := (((E1.wr W_102).wr W_105).wr W_119)
        have Fa_123 := (((Fp.other W_102 (Or.inl n_a1_af)).other W_105 (Or.inl n_a1_p2_)).other W_119 (Or.inl n_a1_ab))
        have Fa_124 := (Fa_114.other W_119 (Or.inl n_a1_ab))
        have Fa_125 := (Fa_108.other W_119 (Or.inl n_a1_ab))
        have Fa_126 := (((Fs.other W_102 (Or.inl n_a1_af)).other W_105 (Or.inl n_a1_p2_)).other W_119 (Or.inl n_a1_ab))
        have Fa_127 := (((Fm.other W_102 (Or.inl n_a1_af)).other W_105 (Or.inl n_a1_p2_)).other W_119 (Or.inl n_a1_ab))
        have Fa_128 := (((Fn.other W_102 (Or.inl n_a1_af)).other W_105 (Or.inl n_a1_p2_)).other W_119 (Or.inl n_a1_ab))
        have Fa_129 := (((Fq.other W_102 (Or.inl n_a1_af)).other W_105 (Or.inl n_a1_p2_)).other W_119 (Or.inl n_a1_ab))
        have Fa_130 := (Fa_106.other W_119 (Or.inl n_a1_ab))
        have Fa_131 := (((Fc.other W_102 (Or.inl n_a1_af)).other W_105 (Or.inl n_a1_p2_)).other W_119 (Or.inl n_a1_ab))
        have Fa_132 := (Fa_116.other W_119 n_aw_ab)
        have Fa_133 := (Fa_110.other W_119 n_ao_ab)
        have Fa_134 := (((Vs.other W_102 n_asx_af).other W_105 n_asx_p2_).other W_119 n_asx_ab)
        have Fa_135 := (((Vm.other W_102 n_am_af).other W_105 n_am_p2_).other W_119 n_am_ab)
        have Fa_136 := ((V_102.other W_105 (Ne.symm n_p2__af)).other W_119 (Ne.symm n_ab_af))
        have Fa_137 := (((Vp.other W_102 n_ap_af).other W_105 n_ap_p2_).other W_119 n_ap_ab)
        have Fa_138 := (((Vp0.other W_102 n_p0__af).other W_105 (Ne.symm n_p2__p0_)).other W_119 n_p0__ab)
        have Fa_139 := (((Vp1.other W_102 n_p1__af).other W_105 (Ne.symm n_p2__p1_)).other W_119 n_p1__ab)
        have Fa_140 := (V_105.other W_119 n_p2__ab)
        have Fa_141 := (((Vp3.other W_102 n_p3__af).other W_105 n_p3__p2_).other W_119 n_p3__ab)
        exact ih T_119 _ h_119 (i + (1 : Int32)) c_ ac af ap ab p0_ p1_ p2_ p3_ kf kq kb kp0 kp1 kp2 kp3 gp0 gp1 (own_up gp2 y2.toNatClampNeg i) gp3 x0 x1 x2 x3 y0 y1 (y2 + (1 : Int32)) y3 go gs gm X_119 e_119 N_119 Zs_120 Kp_121 Fa_122 g1 Fa_123 Fa_124 Fa_125 Fa_126 Fa_127 Fa_128 Fa_129 Fa_130 Fa_131 Fa_132 Fa_133 Fa_134 Fa_135 go_ gs_ gm_ Fa_136 Fa_137 V_119 Fa_138 Fa_139 Fa_140 Fa_141 g_af z_af g_ab z_ab g_p0_ z_p0_ g_p1_ z_p1_ g_p2_ z_p2_ g_p3_ z_p3_ n_a1_af n_aw_af n_ao_af n_asx_af n_am_af n_ap_af n_ab_af n_p0__af n_p1__af n_p2__af n_p3__af n_a1_ab n_aw_ab n_ao_ab n_asx_ab n_am_ab n_ap_ab n_p0__ab n_p1__ab n_p2__ab n_p3__ab n_a1_p0_ n_aw_p0_ n_ao_p0_ n_asx_p0_ n_am_p0_ n_ap_p0_ n_p1__p0_ n_p2__p0_ n_p3__p0_ n_a1_p1_ n_aw_p1_ n_ao_p1_ n_asx_p1_ n_am_p1_ n_ap_p1_ n_p2__p1_ n_p3__p1_ n_a1_p2_ n_aw_p2_ n_ao_p2_ n_asx_p2_ n_am_p2_ n_ap_p2_ n_p3__p2_ n_a1_p3_ n_aw_p3_ n_ao_p3_ n_asx_p3_ n_am_p3_ n_ap_p3_ n_ap_a1 (own_nx0 hi0 hc199__2) (own_nx1 hi0 hc199__2) hgo hgs hgm hnw hx0 hx1 hx2 hx3 (own_clO hi0 hc199__2 hgi_6 (congrArg Int32.toInt hk_6) (by decide) hy0) (own_clO hi0 hc199__2 hgi_6 (congrArg Int32.toInt hk_6) (by decide) hy1) (own_clS hi0 hc199__2 hgi_6 (congrArg Int32.toInt hk_6) hy2) (own_clO hi0 hc199__2 hgi_6 (congrArg Int32.toInt hk_6) (by decide) hy3) (own_fS hi0 hc199__2 hfu)
      · rw [hk_6]
        show own_Go _ _ _ _ (T_4.setTop (mkF m 213 #[rv a1, iv 3, iv c_, rv ac, rv af, iv i] [(.int 3), (.ref ap)]))
        obtain ⟨cl_142, Ar_142, qk_142, Sz_142, Ng_142, Hs_142, Gs_142⟩ := id Vp
        refine own_st (X_4.aaload hx (j := (3 : Int32)) (v := (.ref p3_)) (by rw [e_4]; exact Ar_142.1) (State.isArrayOf_alike hZ.alike Ar_142.2.1) rfl Ar_142.2.2 (inb_of Sz_142 ⟨by decide, by decide⟩) (Hs_142.at (j := (3 : Int32)) (inb_of Sz_142 ⟨by decide, by decide⟩) rfl) (g := (mkF m 213 #[rv a1, iv 3, iv c_, rv ac, rv af, iv i] [(.int 3), (.ref ap)])) rfl rfl (hb hby d4_213)) ?_
        show own_Go _ _ _ _ (T_4.setTop (mkF m 214 #[rv a1, iv 3, iv c_, rv ac, rv af, iv i] [(.ref p3_)]))
        refine o_aload X_4 hx (hb hby d4_214) rfl rfl ?_
        refine o_aloadN X_4 hx (hb hby d4_216) rfl rfl ?_
        obtain ⟨T_143, X_143, e_143, st_143⟩ := getF X_4 hx hZ hown (host := "") (Or.inl (hw _ (List.mem_of_getElem? (i := 21) rfl))) Via.refl e_4 Fo (g := (mkF m 217 #[rv a1, iv 3, iv c_, rv ac, rv af, iv i] [(.ref a1), (.ref af), (.ref p3_)])) rfl rfl (hb hby d4_217)
        refine own_st st_143 ?_
        show own_Go _ _ _ _ (T_143.setTop (mkF m 220 #[rv a1, iv 3, iv c_, rv ac, rv af, iv i] [(.ref ao), (.ref af), (.ref p3_)]))
        refine o_iload X_143 hx (hb hby d4_220) rfl ?_
        obtain ⟨cl_144, Ar_144, qk_144, Sz_144, Ng_144, Hs_144, Gs_144⟩ := id Vo
        refine own_st (X_143.iaload hx (j := i) (v := (.int (3 : Int32))) (by rw [e_143]; exact Ar_144.1) (State.isArrayOf_alike hZ.alike Ar_144.2.1) Ar_144.2.2 (inb_of Sz_144 ⟨hi0, hc199__2⟩) (Hs_144.at (j := i) (inb_of Sz_144 ⟨hi0, hc199__2⟩) ((own_LI_get hi0 hc199__2).trans (congrArg Value.int hk_6))) (g := (mkF m 222 #[rv a1, iv 3, iv c_, rv ac, rv af, iv i] [(.int i), (.ref ao), (.ref af), (.ref p3_)])) rfl rfl (hb hby d4_222)) ?_
        show own_Go _ _ _ _ (T_143.setTop (mkF m 223 #[rv a1, iv 3, iv c_, rv ac, rv af, iv i] [(.int 3), (.ref af), (.ref p3_)]))
        refine o_dup2 X_143 hx (hb hby d4_223) rfl rfl ?_
        obtain ⟨cl_145, Ar_145, qk_145, Sz_145, Ng_145, Hs_145, Gs_145⟩ := id Vf
        refine own_st (X_143.iaload hx (j := (3 : Int32)) (v := (.int y3)) (by rw [e_143]; exact Ar_145.1) (State.isArrayOf_alike hZ.alike Ar_145.2.1) Ar_145.2.2 (inb_of Sz_145 ⟨by decide, by decide⟩) (Hs_145.at (j := (3 : Int32)) (inb_of Sz_145 ⟨by decide, by decide⟩) rfl) (g := (mkF m 224 #[rv a1, iv 3, iv c_, rv ac, rv af, iv i] [(.int 3), (.ref af), (.int 3), (.ref af), (.ref p3_)])) rfl rfl (hb hby d4_224)) ?_
        show own_Go _ _ _ _ (T_143.setTop (mkF m 225 #[rv a1, iv 3, iv c_, rv ac, rv af, iv i] [(.int y3), (.int 3), (.ref af), (.ref p3_)]))
        refine o_dupX2 X_143 hx (hb hby d4_225) rfl rfl rfl ?_
        refine o_iconst X_143 hx 1 (hb hby d4_226) rfl ?_
        refine o_iadd X_143 hx (hb hby d4_227) ?_
        obtain ⟨cl_146, Ar_146, qk_146, Sz_146, Ng_146, Hs_146, Gs_146⟩ := id Vf
        obtain ⟨T_147, h_147, X_147, e_147, W_147, st_147⟩ := stI X_143 hx hZ e_143 Ar_146 (j := (3 : Int32)) (inb_of Sz_146 ⟨by decide, by decide⟩) (g := (mkF m 228 #[rv a1, iv 3, iv c_, rv ac, rv af, iv i] [(.int (y3 + (1 : Int32))), (.int 3), (.ref af), (.int y3), (.ref p3_)])) rfl rfl (hb hby d4_228)
        refine own_st st_147 ?_
        have V_147 : Arv Z h_147 af kf .int (4 : Int32) [(.int y0), (.int y1), (.int y2), (.int (y3 + (1 : Int32)))] (.int (0 : Int32)) := Arv.set Ar_146 qk_146 Sz_146 Ng_146 Hs_146 Gs_146 rfl W_147 3 rfl (Nat.le_of_ble_eq_true rfl)
        have N_147 := Fr.snoc X_147 NF g_af
        show own_Go _ _ _ _ (T_147.setTop (mkF m 229 #[rv a1, iv 3, iv c_, rv ac, rv af, iv i] [(.int y3), (.ref p3_)]))
        refine o_iload X_147 hx (hb hby d4_229) rfl ?_
        have Fa_148 := (Vp3.other W_147 n_p3__af)
        obtain ⟨cl_149, Ar_149, qk_149, Sz_149, Ng_149, Hs_149, Gs_149⟩ := id Fa_148
        obtain ⟨T_150, h_150, X_150, e_150, W_150, st_150⟩ := stI X_147 hx hZ e_147 Ar_149 (j := y3) (inb_of Sz_149 ⟨(own_clnn hy3), (own_clt hi0 hc199__2 hgi_6 (congrArg Int32.toInt hk_6) hy3 hx3)⟩) (g := (mkF m 231 #[rv a1, iv 3, iv c_, rv ac, rv af, iv i] [(.int i), (.int y3), (.ref p3_)])) rfl rfl (hb hby d4_231)
        refine own_st st_150 ?_
        have V_150 : Arv Z h_150 p3_ kp3 .int x3 (own_LI (own_up gp3 y3.toNatClampNeg i) x3) (.int (0 : Int32)) := by have q := Arv.set Ar_149 qk_149 Sz_149 Ng_149 Hs_149 Gs_149 rfl W_150 y3.toNatClampNeg rfl (own_LI_lt (own_clnn hy3) (own_clt hi0 hc199__2 hgi_6 (congrArg Int32.toInt hk_6) hy3 hx3)); rw [own_LI_set] at q; exact q
        have N_150 := Fr.snoc X_150 N_147 g_p3_
        show own_Go _ _ _ _ (T_150.setTop (mkF m 232 #[rv a1, iv 3, iv c_, rv ac, rv af, iv i] []))
        refine o_aloadN X_150 hx (hb hby d4_232) rfl rfl ?_
        have Fa_151 := ((Fb.other W_147 (Or.inl n_a1_af)).other W_150 (Or.inl n_a1_p3_))
        obtain ⟨T_152, X_152, e_152, st_152⟩ := getF X_150 hx hZ hown (host := "") (Or.inl (hw _ (List.mem_of_getElem? (i := 43) rfl))) Via.refl e_150 Fa_151 (g := (mkF m 233 #[rv a1, iv 3, iv c_, rv ac, rv af, iv i] [(.ref a1)])) rfl rfl (hb hby d4_233)
        refine own_st st_152 ?_
        show own_Go _ _ _ _ (T_152.setTop (mkF m 236 #[rv a1, iv 3, iv c_, rv ac, rv af, iv i] [(.ref ab)]))
        refine o_aloadN X_152 hx (hb hby d4_236) rfl rfl ?_
        have Fa_153 := ((Fo.other W_147 (Or.inl n_a1_af)).other W_150 (Or.inl n_a1_p3_))
        obtain ⟨T_154, X_154, e_154, st_154⟩ := getF X_152 hx hZ hown (host := "") (Or.inl (hw _ (List.mem_of_getElem? (i := 21) rfl))) Via.refl e_152 Fa_153 (g := (mkF m 237 #[rv a1, iv 3, iv c_, rv ac, rv af, iv i] [(.ref a1), (.ref ab)])) rfl rfl (hb hby d4_237)
        refine own_st st_154 ?_
        show own_Go _ _ _ _ (T_154.setTop (mkF m 240 #[rv a1, iv 3, iv c_, rv ac, rv af, iv i] [(.ref ao), (.ref ab)]))
        refine o_iload X_154 hx (hb hby d4_240) rfl ?_
        have Fa_155 := ((Vo.other W_147 n_ao_af).other W_150 n_ao_p3_)
        obtain ⟨cl_156, Ar_156, qk_156, Sz_156, Ng_156, Hs_156, Gs_156⟩ := id Fa_155
        refine own_st (X_154.iaload hx (j := i) (v := (.int (3 : Int32))) (by rw [e_154]; exact Ar_156.1) (State.isArrayOf_alike hZ.alike Ar_156.2.1) Ar_156.2.2 (inb_of Sz_156 ⟨hi0, hc199__2⟩) (Hs_156.at (j := i) (inb_of Sz_156 ⟨hi0, hc199__2⟩) ((own_LI_get hi0 hc199__2).trans (congrArg Value.int hk_6))) (g := (mkF m 242 #[rv a1, iv 3, iv c_, rv ac, rv af, iv i] [(.int i), (.ref ao), (.ref ab)])) rfl rfl (hb hby d4_242)) ?_
        show own_Go _ _ _ _ (T_154.setTop (mkF m 243 #[rv a1, iv 3, iv c_, rv ac, rv af, iv i] [(.int 3), (.ref ab)]))
        refine o_dup2 X_154 hx (hb hby d4_243) rfl rfl ?_
        have Fa_157 := ((Vb.other W_147 n_ab_af).other W_150 (Ne.symm n_p3__ab))
        obtain ⟨cl_158, Ar_158, qk_158, Sz_158, Ng_158, Hs_158, Gs_158⟩ := id Fa_157
        refine own_st (X_154.baloadBooleans hx (j := (3 : Int32)) (v := (.int (1 : Int32))) (by rw [e_154]; exact Ar_158.1) (State.isArrayOf_alike hZ.alike Ar_158.2.1) Ar_158.2.2 (inb_of Sz_158 ⟨by decide, by decide⟩) (Hs_158.at (j := (3 : Int32)) (inb_of Sz_158 ⟨by decide, by decide⟩) rfl) (g := (mkF m 244 #[rv a1, iv 3, iv c_, rv ac, rv af, iv i] [(.int 3), (.ref ab), (.int 3), (.ref ab)])) rfl rfl (hb hby d4_244)) ?_
        show own_Go _ _ _ _ (T_154.setTop (mkF m 245 #[rv a1, iv 3, iv c_, rv ac, rv af, iv i] [(.int 1), (.int 3), (.ref ab)]))
        refine o_aloadN X_154 hx (hb hby d4_245) rfl rfl ?_
        have Fa_159 := ((Fw.other W_147 (Or.inl n_a1_af)).other W_150 (Or.inl n_a1_p3_))
        obtain ⟨T_160, X_160, e_160, st_160⟩ := getF X_154 hx hZ hown (host := "") (Or.inl (hw _ (List.mem_of_getElem? (i := 19) rfl))) Via.refl e_154 Fa_159 (g := (mkF m 246 #[rv a1, iv 3, iv c_, rv ac, rv af, iv i] [(.ref a1), (.int 1), (.int 3), (.ref ab)])) rfl rfl (hb hby d4_246)
        refine own_st st_160 ?_
        show own_Go _ _ _ _ (T_160.setTop (mkF m 249 #[rv a1, iv 3, iv c_, rv ac, rv af, iv i] [(.ref aw), (.int 1), (.int 3), (.ref ab)]))
        refine o_iload X_160 hx (hb hby d4_249) rfl ?_
        have Fa_161 := ((Vw.other W_147 n_aw_af).other W_150 n_aw_p3_)
        obtain ⟨cl_162, Ar_162, qk_162, Sz_162, Ng_162, Hs_162, Gs_162⟩ := id Fa_161
        refine own_st (X_160.iaload hx (j := i) (v := (.int (1 : Int32))) (by rw [e_160]; exact Ar_162.1) (State.isArrayOf_alike hZ.alike Ar_162.2.1) Ar_162.2.2 (inb_of Sz_162 ⟨hi0, hc199__2⟩) (Hs_162.at (j := i) (inb_of Sz_162 ⟨hi0, hc199__2⟩) ((own_LI_get hi0 hc199__2).trans rfl)) (g := (mkF m 251 #[rv a1, iv 3, iv c_, rv ac, rv af, iv i] [(.int i), (.ref aw), (.int 1), (.int 3), (.ref ab)])) rfl rfl (hb hby d4_251)) ?_
        show own_Go _ _ _ _ (T_160.setTop (mkF m 252 #[rv a1, iv 3, iv c_, rv ac, rv af, iv i] [(.int 1), (.int 1), (.int 3), (.ref ab)]))
        refine o_iconst X_160 hx 1 (hb hby d4_252) rfl ?_
        refine o_icmpNo X_160 hx (hb hby d4_253) (teq (by decide : (1 : Int32) = (1 : Int32))).2 ?_
        refine o_iconst X_160 hx 1 (hb hby d4_256) rfl ?_
        refine o_goto X_160 hx (pc' := 261) (hb hby d4_257) (by decide) (by decide) ?_
        refine o_iand X_160 hx (hb hby d4_261) ?_
        show own_Go _ _ _ _ (T_160.setTop (mkF m 262 #[rv a1, iv 3, iv c_, rv ac, rv af, iv i] [(.int 1), (.int 3), (.ref ab)]))
        obtain ⟨cl_163, Ar_163, qk_163, Sz_163, Ng_163, Hs_163, Gs_163⟩ := id Fa_157
        obtain ⟨T_164, h_164, X_164, e_164, W_164, st_164⟩ := stZ X_160 hx hZ e_160 Ar_163 (j := (3 : Int32)) (inb_of Sz_163 ⟨by decide, by decide⟩) (g := (mkF m 262 #[rv a1, iv 3, iv c_, rv ac, rv af, iv i] [(.int 1), (.int 3), (.ref ab)])) rfl rfl (hb hby d4_262)
        refine own_st st_164 ?_
        have V_164 : Arv Z h_164 ab kb .boolean (4 : Int32) [(.int (1 : Int32)), (.int (1 : Int32)), (.int (1 : Int32)), (.int (1 : Int32))] (.int (0 : Int32)) := Arv.set Ar_163 qk_163 Sz_163 Ng_163 Hs_163 Gs_163 (by decide) W_164 3 rfl (Nat.le_of_ble_eq_true rfl)
        have N_164 := Fr.snoc X_164 N_150 g_ab
        show own_Go _ _ _ _ (T_164.setTop (mkF m 263 #[rv a1, iv 3, iv c_, rv ac, rv af, iv i] []))
        refine o_iinc X_164 hx (hb hby d4_263) rfl (l' := #[rv a1, iv 3, iv c_, rv ac, rv af, iv (i + (1 : Int32))]) rfl ?_
        refine o_goto X_164 hx (pc' := 193) (hb hby d4_266) (by decide) (by decide) ?_
        have Zs_165 : n0 ≤ h_164.size := (Nat.le_trans (Nat.le_trans (Nat.le_trans Zh (Keep.of_wr W_147).1) (Keep.of_wr W_150).1) (Keep.of_wr W_164).1)
        have Kp_166 : Keep h0 h_164 [a1, ao, asx, am] := (((Kh.wr W_147 (Or.inr z_af)).wr W_150 (Or.inr z_p3_)).wr W_164 (Or.inr z_ab))
        have Fa_167 := (((E1.wr W_147).wr W_150).wr W_164)
        have Fa_168 := (((Fp.other W_147 (Or.inl n_a1_af)).other W_150 (Or.inl n_a1_p3_)).other W_164 (Or.inl n_a1_ab))
        have Fa_169 := (Fa_159.other W_164 (Or.inl n_a1_ab))
        have Fa_170 := (Fa_153.other W_164 (Or.inl n_a1_ab))
        have Fa_171 := (((Fs.other W_147 (Or.inl n_a1_af)).other W_150 (Or.inl n_a1_p3_)).other W_164 (Or.inl n_a1_ab))
        have Fa_172 := (((Fm.other W_147 (Or.inl n_a1_af)).other W_150 (Or.inl n_a1_p3_)).other W_164 (Or.inl n_a1_ab))
        have Fa_173 := (((Fn.other W_147 (Or.inl n_a1_af)).other W_150 (Or.inl n_a1_p3_)).other W_164 (Or.inl n_a1_ab))
        have Fa_174 := (((Fq.other W_147 (Or.inl n_a1_af)).other W_150 (Or.inl n_a1_p3_)).other W_164 (Or.inl n_a1_ab))
        have Fa_175 := (Fa_151.other W_164 (Or.inl n_a1_ab))
        have Fa_176 := (((Fc.other W_147 (Or.inl n_a1_af)).other W_150 (Or.inl n_a1_p3_)).other W_164 (Or.inl n_a1_ab))
        have Fa_177 := (Fa_161.other W_164 n_aw_ab)
        have Fa_178 := (Fa_155.other W_164 n_ao_ab)
        have Fa_179 := (((Vs.other W_147 n_asx_af).other W_150 n_asx_p3_).other W_164 n_asx_ab)
        have Fa_180 := (((Vm.other W_147 n_am_af).other W_150 n_am_p3_).other W_164 n_am_ab)
        have Fa_181 := ((V_147.other W_150 (Ne.symm n_p3__af)).other W_164 (Ne.symm n_ab_af))
        have Fa_182 := (((Vp.other W_147 n_ap_af).other W_150 n_ap_p3_).other W_164 n_ap_ab)
        have Fa_183 := (((Vp0.other W_147 n_p0__af).other W_150 (Ne.symm n_p3__p0_)).other W_164 n_p0__ab)
        have Fa_184 := (((Vp1.other W_147 n_p1__af).other W_150 (Ne.symm n_p3__p1_)).other W_164 n_p1__ab)
        have Fa_185 := (((Vp2.other W_147 n_p2__af).other W_150 (Ne.symm n_p3__p2_)).other W_164 n_p2__ab)
        have Fa_186 := (V_150.other W_164 n_p3__ab)
        exact ih T_164 _ h_164 (i + (1 : Int32)) c_ ac af ap ab p0_ p1_ p2_ p3_ kf kq kb kp0 kp1 kp2 kp3 gp0 gp1 gp2 (own_up gp3 y3.toNatClampNeg i) x0 x1 x2 x3 y0 y1 y2 (y3 + (1 : Int32)) go gs gm X_164 e_164 N_164 Zs_165 Kp_166 Fa_167 g1 Fa_168 Fa_169 Fa_170 Fa_171 Fa_172 Fa_173 Fa_174 Fa_175 Fa_176 Fa_177 Fa_178 Fa_179 Fa_180 go_ gs_ gm_ Fa_181 Fa_182 V_164 Fa_183 Fa_184 Fa_185 Fa_186 g_af z_af g_ab z_ab g_p0_ z_p0_ g_p1_ z_p1_ g_p2_ z_p2_ g_p3_ z_p3_ n_a1_af n_aw_af n_ao_af n_asx_af n_am_af n_ap_af n_ab_af n_p0__af n_p1__af n_p2__af n_p3__af n_a1_ab n_aw_ab n_ao_ab n_asx_ab n_am_ab n_ap_ab n_p0__ab n_p1__ab n_p2__ab n_p3__ab n_a1_p0_ n_aw_p0_ n_ao_p0_ n_asx_p0_ n_am_p0_ n_ap_p0_ n_p1__p0_ n_p2__p0_ n_p3__p0_ n_a1_p1_ n_aw_p1_ n_ao_p1_ n_asx_p1_ n_am_p1_ n_ap_p1_ n_p2__p1_ n_p3__p1_ n_a1_p2_ n_aw_p2_ n_ao_p2_ n_asx_p2_ n_am_p2_ n_ap_p2_ n_p3__p2_ n_a1_p3_ n_aw_p3_ n_ao_p3_ n_asx_p3_ n_am_p3_ n_ap_p3_ n_ap_a1 (own_nx0 hi0 hc199__2) (own_nx1 hi0 hc199__2) hgo hgs hgm hnw hx0 hx1 hx2 hx3 (own_clO hi0 hc199__2 hgi_6 (congrArg Int32.toInt hk_6) (by decide) hy0) (own_clO hi0 hc199__2 hgi_6 (congrArg Int32.toInt hk_6) (by decide) hy1) (own_clO hi0 hc199__2 hgi_6 (congrArg Int32.toInt hk_6) (by decide) hy2) (own_clS hi0 hc199__2 hgi_6 (congrArg Int32.toInt hk_6) hy3) (own_fS hi0 hc199__2 hfu)
    · refine o_icmpYes X_1 hx (pc' := 269) (hb hby d4_199) (flt hc199__2).2.1 (by decide) (by decide) ?_
      refine o_bipush X_1 hx 32 (hb hby d4_269) rfl ?_
      refine o_aloadN X_1 hx (hb hby d4_271) rfl rfl ?_
      obtain ⟨T_187, X_187, e_187, st_187⟩ := getF X_1 hx hZ hown (host := "") (Or.inl (hw _ (List.mem_of_getElem? (i := 36) rfl))) Via.refl e_1 Fn (g := (mkF m 272 #[rv a1, iv 3, iv c_, rv ac, rv af, iv i] [(.ref a1), (.int 32)])) rfl rfl (hb hby d4_272)
      refine own_st st_187 ?_
      show own_Go _ _ _ _ (T_187.setTop (mkF m 275 #[rv a1, iv 3, iv c_, rv ac, rv af, iv i] [(.int 4), (.int 32)]))
      refine o_iconst X_187 hx 1 (hb hby d4_275) rfl ?_
      refine o_isub X_187 hx (hb hby d4_276) ?_
      show own_Go _ _ _ _ (T_187.setTop (mkF m 277 #[rv a1, iv 3, iv c_, rv ac, rv af, iv i] [(.int 3), (.int 32)]))
      obtain ⟨_, _, ⟨T_188, L_188, k_188, n_188⟩, -, X_188, ⟨Lc_188, hQ_188, l_188, y_188, z_188⟩, st_188⟩ := Jvm.LawKit.callS X_187 hx (y := (⟨"java/lang/Integer", "numberOfLeadingZeros", "(I)I"⟩ : MethodName)) hown (mvT hZ (hw _ (List.mem_of_getElem? (i := 46) rfl))) (mvT hZ (hw _ (List.mem_of_getElem? (i := 47) rfl))) (mvT hZ (hw _ (List.mem_of_getElem? (i := 48) rfl))) (mvT hZ (hw _ (List.mem_of_getElem? (i := 49) rfl))) (by decide) (backOf (W := 1) (rmnlz3 l Z a0 hw []   h n0 Zh) hZ (hw _ (List.mem_of_getElem? (i := 49) rfl)) (hw _ (List.mem_of_getElem? (i := 48) rfl)) (by decide) (by decide)) (g := (mkF m 277 #[rv a1, iv 3, iv c_, rv ac, rv af, iv i] [(.int 3), (.int 32)])) rfl (by rw [hml]; rfl) (argsL := [(.int 3)]) (rest := [(.int 32)]) (lenOf pd_1 rfl) rfl (by show 2 * 0 + _ ≤ _; exact Nat.le_of_eq rfl) (hb hby d4_277) (fun _ _ => ⟨rfl, e_187, (by decide : 8 + 0 ≤ _), (by decide : 272 + 0 ≤ _)⟩)
      dsimp only [Pt.U, Pt.locs, Pt.cells, Pt.slots] at X_188 l_188 y_188 z_188 st_188 hQ_188
      subst l_188 y_188 z_188
      obtain ⟨rfl, Nq_188, e_188⟩ := hQ_188
      have N_188 := Fr.app NF Nq_188
      refine own_st st_188 ?_
      show own_Go _ _ _ _ (T_188.setTop (mkF m 280 #[rv a1, iv 3, iv c_, rv ac, rv af, iv i] [(.int 30), (.int 32)]))
      refine o_isub X_188 hx (hb hby d4_280) ?_
      show own_Go _ _ _ _ (T_188.setTop (mkF m 281 #[rv a1, iv 3, iv c_, rv ac, rv af, iv i] [(.int 2)]))
      refine o_istore X_188 hx (hb hby d4_281) (l' := #[rv a1, iv 3, iv c_, rv ac, rv af, iv 2]) rfl ?_
      refine o_aloadN X_188 hx (hb hby d4_283) rfl rfl ?_
      refine o_iconst X_188 hx 0 (hb hby d4_284) rfl ?_
      refine o_bipush X_188 hx 16 (hb hby d4_285) rfl ?_
      refine o_iload X_188 hx (hb hby d4_287) rfl ?_
      refine o_isub X_188 hx (hb hby d4_289) ?_
      show own_Go _ _ _ _ (T_188.setTop (mkF m 290 #[rv a1, iv 3, iv c_, rv ac, rv af, iv 2] [(.int 14), (.int 0), (.ref a1)]))
      obtain ⟨_, _, ⟨T_189, L_189, k_189, n_189⟩, -, X_189, ⟨Lc_189, hQ_189, l_189, y_189, z_189⟩, st_189⟩ := Jvm.LawKit.callS X_188 hx (y := (⟨"java/lang/Math", "max", "(II)I"⟩ : MethodName)) hown (mvT hZ (hw _ (List.mem_of_getElem? (i := 50) rfl))) (mvT hZ (hw _ (List.mem_of_getElem? (i := 51) rfl))) (mvT hZ (hw _ (List.mem_of_getElem? (i := 52) rfl))) (mvT hZ (hw _ (List.mem_of_getElem? (i := 53) rfl))) (by decide) (backOf (W := 1) (rmmax14 l Z a0 hw []   h n0 Zh) hZ (hw _ (List.mem_of_getElem? (i := 53) rfl)) (hw _ (List.mem_of_getElem? (i := 52) rfl)) (by decide) (by decide)) (g := (mkF m 290 #[rv a1, iv 3, iv c_, rv ac, rv af, iv 2] [(.int 14), (.int 0), (.ref a1)])) rfl (by rw [hml]; rfl) (argsL := [(.int 0), (.int 14)]) (rest := [(.ref a1)]) (lenOf pd_2 rfl) rfl (by show 2 * 0 + _ ≤ _; exact Nat.le_of_eq rfl) (hb hby d4_290) (fun _ _ => ⟨rfl, e_188, (by decide : 8 + 0 ≤ _), (by decide : 272 + 0 ≤ _)⟩)
      dsimp only [Pt.U, Pt.locs, Pt.cells, Pt.slots] at X_189 l_189 y_189 z_189 st_189 hQ_189
      subst l_189 y_189 z_189
      obtain ⟨rfl, Nq_189, e_189⟩ := hQ_189
      have N_189 := Fr.app N_188 Nq_189
      refine own_st st_189 ?_
      show own_Go _ _ _ _ (T_189.setTop (mkF m 293 #[rv a1, iv 3, iv c_, rv ac, rv af, iv 2] [(.int 14), (.ref a1)]))
      obtain ⟨T_190, h_190, X_190, e_190, W_190, st_190⟩ := putF X_189 hx hZ hown (host := "") (Or.inl (hw _ (List.mem_of_getElem? (i := 54) rfl))) Via.refl e_189 Fc E1 (Or.inl (hw _ (List.mem_of_getElem? (i := 55) rfl))) (hw _ (List.mem_of_getElem? (i := 2) rfl)) (ty := .int) (by decide) rfl rfl (g := (mkF m 293 #[rv a1, iv 3, iv c_, rv ac, rv af, iv 2] [(.int 14), (.ref a1)])) rfl rfl (hb hby d4_293)
      refine own_st st_190 ?_
      have N_190 := Fr.snoc X_190 N_189 g1
      show own_Go _ _ _ _ (T_190.setTop (mkF m 296 #[rv a1, iv 3, iv c_, rv ac, rv af, iv 2] []))
      have Kp_191 : Keep h0 h_190 [a1, ao, asx, am] := (Kh.wr W_190 (Or.inl (List.mem_of_getElem? (i := 0) rfl)))
      have Fa_192 := (Fo.other W_190 (Or.inr (slot_ne (Or.inr (hw _ (List.mem_of_getElem? (i := 22) rfl))) (Or.inl (hw _ (List.mem_of_getElem? (i := 55) rfl))) (by decide) (t := (.array .int)) (t' := .int) (by decide) (by decide))))
      have Fa_193 := (Fs.other W_190 (Or.inr (slot_ne (Or.inr (hw _ (List.mem_of_getElem? (i := 24) rfl))) (Or.inl (hw _ (List.mem_of_getElem? (i := 55) rfl))) (by decide) (t := (.array .int)) (t' := .int) (by decide) (by decide))))
      have Fa_194 := (Fm.other W_190 (Or.inr (slot_ne (Or.inr (hw _ (List.mem_of_getElem? (i := 27) rfl))) (Or.inl (hw _ (List.mem_of_getElem? (i := 55) rfl))) (by decide) (t := (.array .long)) (t' := .int) (by decide) (by decide))))
      have Fa_195 := (Vo.other W_190 n_ao_a1)
      have Fa_196 := (Vs.other W_190 n_asx_a1)
      have Fa_197 := (Vm.other W_190 n_am_a1)
      exact own_end X_190 e_190 (v := none) (fun _ => rfl) hlk (fun fs hr => X_190.returnOut hx hret (hb hby d4_296) hr) (Q := Q_rmlay Z a0 a1 aw ao asx am kw ko ks km N fo0 fs0 fm0 h0 n0) ⟨go, gs, gm, rfl, N_190, Kp_191, Fa_192, Fa_193, Fa_194, Fa_195, Fa_196, Fa_197, hgo, hgs, hgm⟩ (by decide) (by decide)
set_option maxRecDepth 65536 in
set_option maxHeartbeats 40000000 in
theorem own_lay122_4 {p : Program} {l : Launch} {e : Env} {s : State} {m : MethodId} {below : List Frame} {meth : Method} {c : Code} {Z : State} {a0 : Array Value} {h0 : Heap} {n0 : Nat} (a1 : Addr) (aw : Addr) (ao : Addr) (asx : Addr) (am : Addr) (kw : ClassId) (ko : ClassId) (ks : ClassId) (km : ClassId) (N : Int32) (fo0 : Nat → Int32) (fs0 : Nat → Int32) (fm0 : Nat → Int64) (n_aw_a1 : aw ≠ a1) (n_ao_a1 : ao ≠ a1) (n_asx_a1 : asx ≠ a1) (n_am_a1 : am ≠ a1) (n_ao_aw : ao ≠ aw) (n_asx_aw : asx ≠ aw) (n_am_aw : am ≠ aw) (n_asx_ao : asx ≠ ao) (n_am_ao : am ≠ ao) (n_am_asx : am ≠ asx) (hN1 : ¬ N < (1 : Int32)) (hN2 : ¬ (256 : Int32) < N)
    (hx : p.tables.exec = Jvm.exec) (hZ : Z.Warmed39 s.vm) (hw : ∀ d ∈ tables_1, d.before a0 Z = true) (hby : c.code = prog_3_method_15_code) (hml : c.maxLocals = 6) (hown : s.vm.findClass "com/example/causyn/causyn/analysis/MarkingStore" = some m.cls) (hret : meth.sig.returnType = none) (hlk : meth.locks = false) :
    ∀ (T : State) (locs : List Loc) (h : Heap) (i : Int32) (c_ : Int32) (ac : Addr) (kc : ClassId) (x0 : Int32) (x1 : Int32) (x2 : Int32) (x3 : Int32) (go : Nat → Int32) (gs : Nat → Int32) (gm : Nat → Int64) (X : Stand p l e ({ frames := 1, cells := 8, slots := 272, locals := 14 } : Room) s m #[(.ref a1)] below meth c T locs 1 4) (eT : T.heap = h) (NF : Fr n0 locs) (Zh : n0 ≤ h.size) (Kh : Keep h0 h [a1, ao, asx, am]) (E1 : Exa Z h a1 "com/example/causyn/causyn/analysis/MarkingStore") (g1 : n0 ≤ a1) (Fp : Fld Z h a1 "com/example/causyn/causyn/analysis/MarkingStore" "places" "I" (.int N)) (Fw : Fld Z h a1 "com/example/causyn/causyn/analysis/MarkingStore" "width" "[I" (.ref aw)) (Fo : Fld Z h a1 "com/example/causyn/causyn/analysis/MarkingStore" "word" "[I" (.ref ao)) (Fs : Fld Z h a1 "com/example/causyn/causyn/analysis/MarkingStore" "shift" "[I" (.ref asx)) (Fm : Fld Z h a1 "com/example/causyn/causyn/analysis/MarkingStore" "mask" "[J" (.ref am)) (Fn : Fld Z h a1 "com/example/causyn/causyn/analysis/MarkingStore" "words" "I" (.int (4 : Int32))) (Fq : Fld Z h a1 "com/example/causyn/causyn/analysis/MarkingStore" "placesInWord" "[[I" .null) (Fb : Fld Z h a1 "com/example/causyn/causyn/analysis/MarkingStore" "bitsOnly" "[Z" .null) (Fc : Fld Z h a1 "com/example/causyn/causyn/analysis/MarkingStore" "chunkBits" "I" (.int (0 : Int32))) (Vw : Arv Z h aw kw .int N (own_LI (fun _ => (1 : Int32)) N) (.int (0 : Int32))) (Vo : Arv Z h ao ko .int N (own_LI go N) (.int (0 : Int32))) (Vs : Arv Z h asx ks .int N (own_LI gs N) (.int (0 : Int32))) (Vm : Arv Z h am km .long N (own_LJ gm N) (.long (0 : Int64))) (go_ : n0 ≤ ao) (gs_ : n0 ≤ asx) (gm_ : n0 ≤ am) (Vc : Arv Z h ac kc .int (4 : Int32) [(.int x0), (.int x1), (.int x2), (.int x3)] (.int (0 : Int32))) (n_a1_ac : a1 ≠ ac) (n_aw_ac : aw ≠ ac) (n_ao_ac : ao ≠ ac) (n_asx_ac : asx ≠ ac) (n_am_ac : am ≠ ac) (hgo : ∀ j : Nat, (j : Int) < N.toInt → (go j).toInt = (j : Int) / 64) (hgs : ∀ j : Nat, (j : Int) < N.toInt → (gs j).toInt = (j : Int) % 64) (hgm : ∀ j : Nat, (j : Int) < N.toInt → gm j = (1 : Int64)) (hnw : own_nw N 4) (hx0 : x0.toInt = own_cl N.toInt 0) (hx1 : x1.toInt = own_cl N.toInt 1) (hx2 : x2.toInt = own_cl N.toInt 2) (hx3 : x3.toInt = own_cl N.toInt 3), own_Go p.tables e below (fun o U' => ∃ v L, o = .returned v ∧ Q_rmlay Z a0 a1 aw ao asx am kw ko ks km N fo0 fs0 fm0 h0 n0 v U'.heap L ∧ FrameEnd s o U' L ({ frames := 1, cells := 8, slots := 272, locals := 14 } : Room).cells ({ frames := 1, cells := 8, slots := 272, locals := 14 } : Room).slots) (T.setTop (mkF m 122 #[rv a1, iv 3, iv c_, rv ac, iv i, .unset] [])) := by
  intro T locs h i c_ ac kc x0 x1 x2 x3 go gs gm X eT NF Zh Kh E1 g1 Fp Fw Fo Fs Fm Fn Fq Fb Fc Vw Vo Vs Vm go_ gs_ gm_ Vc n_a1_ac n_aw_ac n_ao_ac n_asx_ac n_am_ac hgo hgs hgm hnw hx0 hx1 hx2 hx3
  refine o_aloadN X hx (hb hby d4_122) rfl rfl ?_
  refine o_aloadN X hx (hb hby d4_123) rfl rfl ?_
  obtain ⟨T_1, X_1, e_1, st_1⟩ := getF X hx hZ hown (host := "") (Or.inl (hw _ (List.mem_of_getElem? (i := 36) rfl))) Via.refl eT Fn (g := (mkF m 124 #[rv a1, iv 3, iv c_, rv ac, iv i, .unset] [(.ref a1), (.ref a1)])) rfl rfl (hb hby d4_124)
  refine own_st st_1 ?_
  show own_Go _ _ _ _ (T_1.setTop (mkF m 127 #[rv a1, iv 3, iv c_, rv ac, iv i, .unset] [(.int 4), (.ref a1)]))
  obtain ⟨T_2, h_2, k_2, X_2, e_2, E_2, A_2, -, O_2, st_2⟩ := newRA X_1 hx hZ hown (C := "[I") (ty := .int) (by decide +kernel) (hw _ (List.mem_of_getElem? (i := 38) rfl)) (hw _ (List.mem_of_getElem? (i := 39) rfl)) e_1 (g := (mkF m 127 #[rv a1, iv 3, iv c_, rv ac, iv i, .unset] [(.int 4), (.ref a1)])) rfl (hb hby d4_127) rfl (by decide) (cap := 4) (by decide) (by decide) (by decide) (by decide) rfl
  obtain ⟨b_2, g_2⟩ : ∃ z, z = h.size := ⟨_, rfl⟩
  rw [← g_2] at A_2 st_2
  have V_2 : Arv Z h_2 b_2 k_2 (.array .int) (4 : Int32) [.null, .null, .null, .null] .null := (Arv.new A_2 (by decide)).pad (pad_rep [] .null 4)
  have gg_2 : n0 ≤ b_2 := Nat.le_trans Zh (Nat.le_of_eq g_2.symm)
  have sz_2 : h0.size ≤ b_2 := Nat.le_trans Kh.1 (Nat.le_of_eq g_2.symm)
  refine own_st st_2 ?_
  show own_Go _ _ _ _ (T_2.setTop (mkF m 130 #[rv a1, iv 3, iv c_, rv ac, iv i, .unset] [(.ref b_2), (.ref a1)]))
  have Fa_3 := (Fq.ext E_2)
  have Fa_4 := (E1.ext E_2)
  obtain ⟨T_5, h_5, X_5, e_5, W_5, st_5⟩ := putF X_2 hx hZ hown (host := "") (Or.inl (hw _ (List.mem_of_getElem? (i := 40) rfl))) Via.refl e_2 Fa_3 Fa_4 (Or.inl (hw _ (List.mem_of_getElem? (i := 41) rfl))) (hw _ (List.mem_of_getElem? (i := 2) rfl)) (ty := (.array (.array .int))) (by decide) rfl rfl (g := (mkF m 130 #[rv a1, iv 3, iv c_, rv ac, iv i, .unset] [(.ref b_2), (.ref a1)])) rfl rfl (hb hby d4_130)
  refine own_st st_5 ?_
  have N_5 := Fr.snoc X_5 NF g1
  show own_Go _ _ _ _ (T_5.setTop (mkF m 133 #[rv a1, iv 3, iv c_, rv ac, iv i, .unset] []))
  refine o_aloadN X_5 hx (hb hby d4_133) rfl rfl ?_
  refine o_aloadN X_5 hx (hb hby d4_134) rfl rfl ?_
  have Fa_6 := ((Fn.ext E_2).other W_5 (Or.inr (slot_ne (Or.inl (hw _ (List.mem_of_getElem? (i := 37) rfl))) (Or.inl (hw _ (List.mem_of_getElem? (i := 41) rfl))) (by decide) (t := .int) (t' := (.array (.array .int))) (by decide) (by decide))))
  obtain ⟨T_7, X_7, e_7, st_7⟩ := getF X_5 hx hZ hown (host := "") (Or.inl (hw _ (List.mem_of_getElem? (i := 36) rfl))) Via.refl e_5 Fa_6 (g := (mkF m 135 #[rv a1, iv 3, iv c_, rv ac, iv i, .unset] [(.ref a1), (.ref a1)])) rfl rfl (hb hby d4_135)
  refine own_st st_7 ?_
  show own_Go _ _ _ _ (T_7.setTop (mkF m 138 #[rv a1, iv 3, iv c_, rv ac, iv i, .unset] [(.int 4), (.ref a1)]))
  have Zs_8 : n0 ≤ h_5.size := (Nat.le_trans (Nat.le_trans Zh E_2.1) (Keep.of_wr W_5).1)
  have Kp_9 : Keep h0 h_5 [a1, ao, asx, am] := ((Kh.ext E_2).wr W_5 (Or.inl (List.mem_of_getElem? (i := 0) rfl)))
  obtain ⟨T_10, h_10, k_10, X_10, e_10, E_10, A_10, st_10⟩ := newP X_7 hx hZ (hw _ (List.mem_of_getElem? (i := 42) rfl)) e_7 (g := (mkF m 138 #[rv a1, iv 3, iv c_, rv ac, iv i, .unset] [(.int 4), (.ref a1)])) rfl (hb hby d4_138) rfl (by decide) (cap := 4) (by decide) (by decide) (by decide) (by decide)
  obtain ⟨b_10, g_10⟩ : ∃ z, z = h_5.size := ⟨_, rfl⟩
  rw [← g_10] at A_10 st_10
  have V_10 : Arv Z h_10 b_10 k_10 .boolean (4 : Int32) [(.int (0 : Int32)), (.int (0 : Int32)), (.int (0 : Int32)), (.int (0 : Int32))] (.int (0 : Int32)) := (Arv.new A_10 (by decide)).pad (pad_rep [] (.int (0 : Int32)) 4)
  have gg_10 : n0 ≤ b_10 := Nat.le_trans Zs_8 (Nat.le_of_eq g_10.symm)
  have sz_10 : h0.size ≤ b_10 := Nat.le_trans Kp_9.1 (Nat.le_of_eq g_10.symm)
  refine own_st st_10 ?_
  show own_Go _ _ _ _ (T_10.setTop (mkF m 140 #[rv a1, iv 3, iv c_, rv ac, iv i, .unset] [(.ref b_10), (.ref a1)]))
  have Fa_11 := (((Fb.ext E_2).other W_5 (Or.inr (slot_ne (Or.inl (hw _ (List.mem_of_getElem? (i := 44) rfl))) (Or.inl (hw _ (List.mem_of_getElem? (i := 41) rfl))) (by decide) (t := (.array .boolean)) (t' := (.array (.array .int))) (by decide) (by decide)))).ext E_10)
  have Fa_12 := ((Fa_4.wr W_5).ext E_10)
  obtain ⟨T_13, h_13, X_13, e_13, W_13, st_13⟩ := putF X_10 hx hZ hown (host := "") (Or.inl (hw _ (List.mem_of_getElem? (i := 43) rfl))) Via.refl e_10 Fa_11 Fa_12 (Or.inl (hw _ (List.mem_of_getElem? (i := 44) rfl))) (hw _ (List.mem_of_getElem? (i := 2) rfl)) (ty := (.array .boolean)) (by decide) rfl rfl (g := (mkF m 140 #[rv a1, iv 3, iv c_, rv ac, iv i, .unset] [(.ref b_10), (.ref a1)])) rfl rfl (hb hby d4_140)
  refine own_st st_13 ?_
  have N_13 := Fr.snoc X_13 N_5 g1
  show own_Go _ _ _ _ (T_13.setTop (mkF m 143 #[rv a1, iv 3, iv c_, rv ac, iv i, .unset] []))
  refine o_iconst X_13 hx 0 (hb hby d4_143) rfl ?_
  refine o_istore X_13 hx (hb hby d4_144) (l' := #[rv a1, iv 3, iv c_, rv ac, iv 0, .unset]) rfl ?_
  refine o_iload X_13 hx (hb hby d4_146) rfl ?_
  refine o_aloadN X_13 hx (hb hby d4_148) rfl rfl ?_
  have Fa_14 := ((Fa_6.ext E_10).other W_13 (Or.inr (slot_ne (Or.inl (hw _ (List.mem_of_getElem? (i := 37) rfl))) (Or.inl (hw _ (List.mem_of_getElem? (i := 44) rfl))) (by decide) (t := .int) (t' := (.array .boolean)) (by decide) (by decide))))
  obtain ⟨T_15, X_15, e_15, st_15⟩ := getF X_13 hx hZ hown (host := "") (Or.inl (hw _ (List.mem_of_getElem? (i := 36) rfl))) Via.refl e_13 Fa_14 (g := (mkF m 149 #[rv a1, iv 3, iv c_, rv ac, iv 0, .unset] [(.ref a1), (.int 0)])) rfl rfl (hb hby d4_149)
  refine own_st st_15 ?_
  show own_Go _ _ _ _ (T_15.setTop (mkF m 152 #[rv a1, iv 3, iv c_, rv ac, iv 0, .unset] [(.int 4), (.int 0)]))
  refine o_icmpNo X_15 hx (hb hby d4_152) (tlt (by decide : (0 : Int32) < (4 : Int32))).2.1 ?_
  refine o_aloadN X_15 hx (hb hby d4_155) rfl rfl ?_
  have Fa_16 := (((Fa_3.same W_5).ext E_10).other W_13 (Or.inr (slot_ne (Or.inl (hw _ (List.mem_of_getElem? (i := 41) rfl))) (Or.inl (hw _ (List.mem_of_getElem? (i := 44) rfl))) (by decide) (t := (.array (.array .int))) (t' := (.array .boolean)) (by decide) (by decide))))
  obtain ⟨T_17, X_17, e_17, st_17⟩ := getF X_15 hx hZ hown (host := "") (Or.inl (hw _ (List.mem_of_getElem? (i := 40) rfl))) Via.refl e_15 Fa_16 (g := (mkF m 156 #[rv a1, iv 3, iv c_, rv ac, iv 0, .unset] [(.ref a1)])) rfl rfl (hb hby d4_156)
  refine own_st st_17 ?_
  show own_Go _ _ _ _ (T_17.setTop (mkF m 159 #[rv a1, iv 3, iv c_, rv ac, iv 0, .unset] [(.ref b_2)]))
  refine o_iload X_17 hx (hb hby d4_159) rfl ?_
  refine o_aloadN X_17 hx (hb hby d4_161) rfl rfl ?_
  refine o_iload X_17 hx (hb hby d4_162) rfl ?_
  have Fa_18 := ((((Vc.ext E_2).other W_5 (Ne.symm n_a1_ac)).ext E_10).other W_13 (Ne.symm n_a1_ac))
  obtain ⟨cl_19, Ar_19, qk_19, Sz_19, Ng_19, Hs_19, Gs_19⟩ := id Fa_18
  refine own_st (X_17.iaload hx (j := (0 : Int32)) (v := (.int x0)) (by rw [e_17]; exact Ar_19.1) (State.isArrayOf_alike hZ.alike Ar_19.2.1) Ar_19.2.2 (inb_of Sz_19 ⟨by decide, by decide⟩) (Hs_19.at (j := (0 : Int32)) (inb_of Sz_19 ⟨by decide, by decide⟩) rfl) (g := (mkF m 164 #[rv a1, iv 3, iv c_, rv ac, iv 0, .unset] [(.int 0), (.ref ac), (.int 0), (.ref b_2)])) rfl rfl (hb hby d4_164)) ?_
  show own_Go _ _ _ _ (T_17.setTop (mkF m 165 #[rv a1, iv 3, iv c_, rv ac, iv 0, .unset] [(.int x0), (.int 0), (.ref b_2)]))
  have Zs_20 : n0 ≤ h_13.size := (Nat.le_trans (Nat.le_trans Zs_8 E_10.1) (Keep.of_wr W_13).1)
  have Kp_21 : Keep h0 h_13 [a1, ao, asx, am] := ((Kp_9.ext E_10).wr W_13 (Or.inl (List.mem_of_getElem? (i := 0) rfl)))
  obtain ⟨T_22, h_22, k_22, X_22, e_22, E_22, A_22, Ex_22, st_22⟩ := newPE X_17 hx hZ (hw _ (List.mem_of_getElem? (i := 14) rfl)) e_17 (g := (mkF m 165 #[rv a1, iv 3, iv c_, rv ac, iv 0, .unset] [(.int x0), (.int 0), (.ref b_2)])) rfl (hb hby d4_165) rfl (own_clnn hx0) (cap := 64) (own_clcap hx0) (by decide) (by decide) (by decide) (ad := "[I") (by decide +kernel)
  obtain ⟨b_22, g_22⟩ : ∃ z, z = h_13.size := ⟨_, rfl⟩
  rw [← g_22] at A_22 Ex_22 st_22
  have V_22 : Arv Z h_22 b_22 k_22 .int x0 (own_LI (fun _ => (0 : Int32)) x0) (.int (0 : Int32)) := (Arv.new A_22 (own_clnn hx0)).pad (own_LI_pad x0)
  have gg_22 : n0 ≤ b_22 := Nat.le_trans Zs_20 (Nat.le_of_eq g_22.symm)
  have sz_22 : h0.size ≤ b_22 := Nat.le_trans Kp_21.1 (Nat.le_of_eq g_22.symm)
  refine own_st st_22 ?_
  show own_Go _ _ _ _ (T_22.setTop (mkF m 167 #[rv a1, iv 3, iv c_, rv ac, iv 0, .unset] [(.ref b_22), (.int 0), (.ref b_2)]))
  have Fa_23 := ((((V_2.other W_5 (Ne.symm (Nat.ne_of_lt (Nat.lt_of_lt_of_le Fp.lt (Nat.le_of_eq g_2.symm))))).ext E_10).other W_13 (Ne.symm (Nat.ne_of_lt (Nat.lt_of_lt_of_le Fp.lt (Nat.le_of_eq g_2.symm))))).ext E_22)
  obtain ⟨cl_24, Ar_24, qk_24, Sz_24, Ng_24, Hs_24, Gs_24⟩ := id Fa_23
  obtain ⟨T_25, h_25, X_25, e_25, W_25, st_25⟩ := stR X_22 hx hZ e_22 Ar_24 (j := (0 : Int32)) (inb_of Sz_24 ⟨by decide, by decide⟩) rfl (Sto.ofVA Ar_24 qk_24 O_2 (Ins.self Ex_22)) (g := (mkF m 167 #[rv a1, iv 3, iv c_, rv ac, iv 0, .unset] [(.ref b_22), (.int 0), (.ref b_2)])) rfl rfl (hb hby d4_167)
  refine own_st st_25 ?_
  have V_25 : Arv Z h_25 b_2 k_2 (.array .int) (4 : Int32) [(.ref b_22), .null, .null, .null] .null := Arv.set Ar_24 qk_24 Sz_24 Ng_24 Hs_24 Gs_24 rfl W_25 0 rfl (Nat.le_of_ble_eq_true rfl)
  have N_25 := Fr.snoc X_25 N_13 gg_2
  show own_Go _ _ _ _ (T_25.setTop (mkF m 168 #[rv a1, iv 3, iv c_, rv ac, iv 0, .unset] []))
  refine o_aloadN X_25 hx (hb hby d4_168) rfl rfl ?_
  have Fa_26 := (((Fa_11.same W_13).ext E_22).other W_25 (Or.inl (Nat.ne_of_lt (Nat.lt_of_lt_of_le Fp.lt (Nat.le_of_eq g_2.symm)))))
  obtain ⟨T_27, X_27, e_27, st_27⟩ := getF X_25 hx hZ hown (host := "") (Or.inl (hw _ (List.mem_of_getElem? (i := 43) rfl))) Via.refl e_25 Fa_26 (g := (mkF m 169 #[rv a1, iv 3, iv c_, rv ac, iv 0, .unset] [(.ref a1)])) rfl rfl (hb hby d4_169)
  refine own_st st_27 ?_
  show own_Go _ _ _ _ (T_27.setTop (mkF m 172 #[rv a1, iv 3, iv c_, rv ac, iv 0, .unset] [(.ref b_10)]))
  refine o_iload X_27 hx (hb hby d4_172) rfl ?_
  refine o_iconst X_27 hx 1 (hb hby d4_174) rfl ?_
  have Fa_28 := (((V_10.other W_13 (Ne.symm (Nat.ne_of_lt (Nat.lt_of_lt_of_le Fa_6.lt (Nat.le_of_eq g_10.symm))))).ext E_22).other W_25 (Ne.symm (Nat.ne_of_lt (Nat.lt_of_lt_of_le (V_2.other W_5 (Ne.symm (Nat.ne_of_lt (Nat.lt_of_lt_of_le Fp.lt (Nat.le_of_eq g_2.symm))))).lt (Nat.le_of_eq g_10.symm)))))
  obtain ⟨cl_29, Ar_29, qk_29, Sz_29, Ng_29, Hs_29, Gs_29⟩ := id Fa_28
  obtain ⟨T_30, h_30, X_30, e_30, W_30, st_30⟩ := stZ X_27 hx hZ e_27 Ar_29 (j := (0 : Int32)) (inb_of Sz_29 ⟨by decide, by decide⟩) (g := (mkF m 175 #[rv a1, iv 3, iv c_, rv ac, iv 0, .unset] [(.int 1), (.int 0), (.ref b_10)])) rfl rfl (hb hby d4_175)
  refine own_st st_30 ?_
  have V_30 : Arv Z h_30 b_10 k_10 .boolean (4 : Int32) [(.int (1 : Int32)), (.int (0 : Int32)), (.int (0 : Int32)), (.int (0 : Int32))] (.int (0 : Int32)) := Arv.set Ar_29 qk_29 Sz_29 Ng_29 Hs_29 Gs_29 (by decide) W_30 0 rfl (Nat.le_of_ble_eq_true rfl)
  have N_30 := Fr.snoc X_30 N_25 gg_10
  show own_Go _ _ _ _ (T_30.setTop (mkF m 176 #[rv a1, iv 3, iv c_, rv ac, iv 0, .unset] []))
  refine o_iinc X_30 hx (hb hby d4_176) rfl (l' := #[rv a1, iv 3, iv c_, rv ac, iv 1, .unset]) rfl ?_
  refine o_goto X_30 hx (pc' := 146) (hb hby d4_179) (by decide) (by decide) ?_
  refine o_iload X_30 hx (hb hby d4_146) rfl ?_
  refine o_aloadN X_30 hx (hb hby d4_148) rfl rfl ?_
  have Fa_31 := (((Fa_14.ext E_22).other W_25 (Or.inl (Nat.ne_of_lt (Nat.lt_of_lt_of_le Fp.lt (Nat.le_of_eq g_2.symm))))).other W_30 (Or.inl (Nat.ne_of_lt (Nat.lt_of_lt_of_le Fa_6.lt (Nat.le_of_eq g_10.symm)))))
  obtain ⟨T_32, X_32, e_32, st_32⟩ := getF X_30 hx hZ hown (host := "") (Or.inl (hw _ (List.mem_of_getElem? (i := 36) rfl))) Via.refl e_30 Fa_31 (g := (mkF m 149 #[rv a1, iv 3, iv c_, rv ac, iv 1, .unset] [(.ref a1), (.int 1)])) rfl rfl (hb hby d4_149)
  refine own_st st_32 ?_
  show own_Go _ _ _ _ (T_32.setTop (mkF m 152 #[rv a1, iv 3, iv c_, rv ac, iv 1, .unset] [(.int 4), (.int 1)]))
  refine o_icmpNo X_32 hx (hb hby d4_152) (tlt (by decide : (1 : Int32) < (4 : Int32))).2.1 ?_
  refine o_aloadN X_32 hx (hb hby d4_155) rfl rfl ?_
  have Fa_33 := (((Fa_16.ext E_22).other W_25 (Or.inl (Nat.ne_of_lt (Nat.lt_of_lt_of_le Fp.lt (Nat.le_of_eq g_2.symm))))).other W_30 (Or.inl (Nat.ne_of_lt (Nat.lt_of_lt_of_le Fa_6.lt (Nat.le_of_eq g_10.symm)))))
  obtain ⟨T_34, X_34, e_34, st_34⟩ := getF X_32 hx hZ hown (host := "") (Or.inl (hw _ (List.mem_of_getElem? (i := 40) rfl))) Via.refl e_32 Fa_33 (g := (mkF m 156 #[rv a1, iv 3, iv c_, rv ac, iv 1, .unset] [(.ref a1)])) rfl rfl (hb hby d4_156)
  refine own_st st_34 ?_
  show own_Go _ _ _ _ (T_34.setTop (mkF m 159 #[rv a1, iv 3, iv c_, rv ac, iv 1, .unset] [(.ref b_2)]))
  refine o_iload X_34 hx (hb hby d4_159) rfl ?_
  refine o_aloadN X_34 hx (hb hby d4_161) rfl rfl ?_
  refine o_iload X_34 hx (hb hby d4_162) rfl ?_
  have Fa_35 := (((Fa_18.ext E_22).other W_25 (Nat.ne_of_lt (Nat.lt_of_lt_of_le Vc.lt (Nat.le_of_eq g_2.symm)))).other W_30 (Nat.ne_of_lt (Nat.lt_of_lt_of_le ((Vc.ext E_2).other W_5 (Ne.symm n_a1_ac)).lt (Nat.le_of_eq g_10.symm))))
  obtain ⟨cl_36, Ar_36, qk_36, Sz_36, Ng_36, Hs_36, Gs_36⟩ := id Fa_35
  refine own_st (X_34.iaload hx (j := (1 : Int32)) (v := (.int x1)) (by rw [e_34]; exact Ar_36.1) (State.isArrayOf_alike hZ.alike Ar_36.2.1) Ar_36.2.2 (inb_of Sz_36 ⟨by decide, by decide⟩) (Hs_36.at (j := (1 : Int32)) (inb_of Sz_36 ⟨by decide, by decide⟩) rfl) (g := (mkF m 164 #[rv a1, iv 3, iv c_, rv ac, iv 1, .unset] [(.int 1), (.ref ac), (.int 1), (.ref b_2)])) rfl rfl (hb hby d4_164)) ?_
  show own_Go _ _ _ _ (T_34.setTop (mkF m 165 #[rv a1, iv 3, iv c_, rv ac, iv 1, .unset] [(.int x1), (.int 1), (.ref b_2)]))
  have Zs_37 : n0 ≤ h_30.size := (Nat.le_trans (Nat.le_trans (Nat.le_trans Zs_20 E_22.1) (Keep.of_wr W_25).1) (Keep.of_wr W_30).1)
  have Kp_38 : Keep h0 h_30 [a1, ao, asx, am] := (((Kp_21.ext E_22).wr W_25 (Or.inr sz_2)).wr W_30 (Or.inr sz_10))
  obtain ⟨T_39, h_39, k_39, X_39, e_39, E_39, A_39, Ex_39, st_39⟩ := newPE X_34 hx hZ (hw _ (List.mem_of_getElem? (i := 14) rfl)) e_34 (g := (mkF m 165 #[rv a1, iv 3, iv c_, rv ac, iv 1, .unset] [(.int x1), (.int 1), (.ref b_2)])) rfl (hb hby d4_165) rfl (own_clnn hx1) (cap := 64) (own_clcap hx1) (by decide) (by decide) (by decide) (ad := "[I") (by decide +kernel)
  obtain ⟨b_39, g_39⟩ : ∃ z, z = h_30.size := ⟨_, rfl⟩
  rw [← g_39] at A_39 Ex_39 st_39
  have V_39 : Arv Z h_39 b_39 k_39 .int x1 (own_LI (fun _ => (0 : Int32)) x1) (.int (0 : Int32)) := (Arv.new A_39 (own_clnn hx1)).pad (own_LI_pad x1)
  have gg_39 : n0 ≤ b_39 := Nat.le_trans Zs_37 (Nat.le_of_eq g_39.symm)
  have sz_39 : h0.size ≤ b_39 := Nat.le_trans Kp_38.1 (Nat.le_of_eq g_39.symm)
  refine own_st st_39 ?_
  show own_Go _ _ _ _ (T_39.setTop (mkF m 167 #[rv a1, iv 3, iv c_, rv ac, iv 1, .unset] [(.ref b_39), (.int 1), (.ref b_2)]))
  have Fa_40 := ((V_25.other W_30 (Nat.ne_of_lt (Nat.lt_of_lt_of_le (V_2.other W_5 (Ne.symm (Nat.ne_of_lt (Nat.lt_of_lt_of_le Fp.lt (Nat.le_of_eq g_2.symm))))).lt (Nat.le_of_eq g_10.symm)))).ext E_39)
  obtain ⟨cl_41, Ar_41, qk_41, Sz_41, Ng_41, Hs_41, Gs_41⟩ := id Fa_40
  obtain ⟨T_42, h_42, X_42, e_42, W_42, st_42⟩ := stR X_39 hx hZ e_39 Ar_41 (j := (1 : Int32)) (inb_of Sz_41 ⟨by decide, by decide⟩) rfl (Sto.ofVA Ar_41 qk_41 O_2 (Ins.self Ex_39)) (g := (mkF m 167 #[rv a1, iv 3, iv c_, rv ac, iv 1, .unset] [(.ref b_39), (.int 1), (.ref b_2)])) rfl rfl (hb hby d4_167)
  refine own_st st_42 ?_
  have V_42 : Arv Z h_42 b_2 k_2 (.array .int) (4 : Int32) [(.ref b_22), (.ref b_39), .null, .null] .null := Arv.set Ar_41 qk_41 Sz_41 Ng_41 Hs_41 Gs_41 rfl W_42 1 rfl (Nat.le_of_ble_eq_true rfl)
  have N_42 := Fr.snoc X_42 N_30 gg_2
  show own_Go _ _ _ _ (T_42.setTop (mkF m 168 #[rv a1, iv 3, iv c_, rv ac, iv 1, .unset] []))
  refine o_aloadN X_42 hx (hb hby d4_168) rfl rfl ?_
  have Fa_43 := (((Fa_26.other W_30 (Or.inl (Nat.ne_of_lt (Nat.lt_of_lt_of_le Fa_6.lt (Nat.le_of_eq g_10.symm))))).ext E_39).other W_42 (Or.inl (Nat.ne_of_lt (Nat.lt_of_lt_of_le Fp.lt (Nat.le_of_eq g_2.symm)))))
  obtain ⟨T_44, X_44, e_44, st_44⟩ := getF X_42 hx hZ hown (host := "") (Or.inl (hw _ (List.mem_of_getElem? (i := 43) rfl))) Via.refl e_42 Fa_43 (g := (mkF m 169 #[rv a1, iv 3, iv c_, rv ac, iv 1, .unset] [(.ref a1)])) rfl rfl (hb hby d4_169)
  refine own_st st_44 ?_
  show own_Go _ _ _ _ (T_44.setTop (mkF m 172 #[rv a1, iv 3, iv c_, rv ac, iv 1, .unset] [(.ref b_10)]))
  refine o_iload X_44 hx (hb hby d4_172) rfl ?_
  refine o_iconst X_44 hx 1 (hb hby d4_174) rfl ?_
  have Fa_45 := ((V_30.ext E_39).other W_42 (Ne.symm (Nat.ne_of_lt (Nat.lt_of_lt_of_le (V_2.other W_5 (Ne.symm (Nat.ne_of_lt (Nat.lt_of_lt_of_le Fp.lt (Nat.le_of_eq g_2.symm))))).lt (Nat.le_of_eq g_10.symm)))))
  obtain ⟨cl_46, Ar_46, qk_46, Sz_46, Ng_46, Hs_46, Gs_46⟩ := id Fa_45
  obtain ⟨T_47, h_47, X_47, e_47, W_47, st_47⟩ := stZ X_44 hx hZ e_44 Ar_46 (j := (1 : Int32)) (inb_of Sz_46 ⟨by decide, by decide⟩) (g := (mkF m 175 #[rv a1, iv 3, iv c_, rv ac, iv 1, .unset] [(.int 1), (.int 1), (.ref b_10)])) rfl rfl (hb hby d4_175)
  refine own_st st_47 ?_
  have V_47 : Arv Z h_47 b_10 k_10 .boolean (4 : Int32) [(.int (1 : Int32)), (.int (1 : Int32)), (.int (0 : Int32)), (.int (0 : Int32))] (.int (0 : Int32)) := Arv.set Ar_46 qk_46 Sz_46 Ng_46 Hs_46 Gs_46 (by decide) W_47 1 rfl (Nat.le_of_ble_eq_true rfl)
  have N_47 := Fr.snoc X_47 N_42 gg_10
  show own_Go _ _ _ _ (T_47.setTop (mkF m 176 #[rv a1, iv 3, iv c_, rv ac, iv 1, .unset] []))
  refine o_iinc X_47 hx (hb hby d4_176) rfl (l' := #[rv a1, iv 3, iv c_, rv ac, iv 2, .unset]) rfl ?_
  refine o_goto X_47 hx (pc' := 146) (hb hby d4_179) (by decide) (by decide) ?_
  refine o_iload X_47 hx (hb hby d4_146) rfl ?_
  refine o_aloadN X_47 hx (hb hby d4_148) rfl rfl ?_
  have Fa_48 := (((Fa_31.ext E_39).other W_42 (Or.inl (Nat.ne_of_lt (Nat.lt_of_lt_of_le Fp.lt (Nat.le_of_eq g_2.symm))))).other W_47 (Or.inl (Nat.ne_of_lt (Nat.lt_of_lt_of_le Fa_6.lt (Nat.le_of_eq g_10.symm)))))
  obtain ⟨T_49, X_49, e_49, st_49⟩ := getF X_47 hx hZ hown (host := "") (Or.inl (hw _ (List.mem_of_getElem? (i := 36) rfl))) Via.refl e_47 Fa_48 (g := (mkF m 149 #[rv a1, iv 3, iv c_, rv ac, iv 2, .unset] [(.ref a1), (.int 2)])) rfl rfl (hb hby d4_149)
  refine own_st st_49 ?_
  show own_Go _ _ _ _ (T_49.setTop (mkF m 152 #[rv a1, iv 3, iv c_, rv ac, iv 2, .unset] [(.int 4), (.int 2)]))
  refine o_icmpNo X_49 hx (hb hby d4_152) (tlt (by decide : (2 : Int32) < (4 : Int32))).2.1 ?_
  refine o_aloadN X_49 hx (hb hby d4_155) rfl rfl ?_
  have Fa_50 := (((Fa_33.ext E_39).other W_42 (Or.inl (Nat.ne_of_lt (Nat.lt_of_lt_of_le Fp.lt (Nat.le_of_eq g_2.symm))))).other W_47 (Or.inl (Nat.ne_of_lt (Nat.lt_of_lt_of_le Fa_6.lt (Nat.le_of_eq g_10.symm)))))
  obtain ⟨T_51, X_51, e_51, st_51⟩ := getF X_49 hx hZ hown (host := "") (Or.inl (hw _ (List.mem_of_getElem? (i := 40) rfl))) Via.refl e_49 Fa_50 (g := (mkF m 156 #[rv a1, iv 3, iv c_, rv ac, iv 2, .unset] [(.ref a1)])) rfl rfl (hb hby d4_156)
  refine own_st st_51 ?_
  show own_Go _ _ _ _ (T_51.setTop (mkF m 159 #[rv a1, iv 3, iv c_, rv ac, iv 2, .unset] [(.ref b_2)]))
  refine o_iload X_51 hx (hb hby d4_159) rfl ?_
  refine o_aloadN X_51 hx (hb hby d4_161) rfl rfl ?_
  refine o_iload X_51 hx (hb hby d4_162) rfl ?_
  have Fa_52 := (((Fa_35.ext E_39).other W_42 (Nat.ne_of_lt (Nat.lt_of_lt_of_le Vc.lt (Nat.le_of_eq g_2.symm)))).other W_47 (Nat.ne_of_lt (Nat.lt_of_lt_of_le ((Vc.ext E_2).other W_5 (Ne.symm n_a1_ac)).lt (Nat.le_of_eq g_10.symm))))
  obtain ⟨cl_53, Ar_53, qk_53, Sz_53, Ng_53, Hs_53, Gs_53⟩ := id Fa_52
  refine own_st (X_51.iaload hx (j := (2 : Int32)) (v := (.int x2)) (by rw [e_51]; exact Ar_53.1) (State.isArrayOf_alike hZ.alike Ar_53.2.1) Ar_53.2.2 (inb_of Sz_53 ⟨by decide, by decide⟩) (Hs_53.at (j := (2 : Int32)) (inb_of Sz_53 ⟨by decide, by decide⟩) rfl) (g := (mkF m 164 #[rv a1, iv 3, iv c_, rv ac, iv 2, .unset] [(.int 2), (.ref ac), (.int 2), (.ref b_2)])) rfl rfl (hb hby d4_164)) ?_
  show own_Go _ _ _ _ (T_51.setTop (mkF m 165 #[rv a1, iv 3, iv c_, rv ac, iv 2, .unset] [(.int x2), (.int 2), (.ref b_2)]))
  have Zs_54 : n0 ≤ h_47.size := (Nat.le_trans (Nat.le_trans (Nat.le_trans Zs_37 E_39.1) (Keep.of_wr W_42).1) (Keep.of_wr W_47).1)
  have Kp_55 : Keep h0 h_47 [a1, ao, asx, am] := (((Kp_38.ext E_39).wr W_42 (Or.inr sz_2)).wr W_47 (Or.inr sz_10))
  obtain ⟨T_56, h_56, k_56, X_56, e_56, E_56, A_56, Ex_56, st_56⟩ := newPE X_51 hx hZ (hw _ (List.mem_of_getElem? (i := 14) rfl)) e_51 (g := (mkF m 165 #[rv a1, iv 3, iv c_, rv ac, iv 2, .unset] [(.int x2), (.int 2), (.ref b_2)])) rfl (hb hby d4_165) rfl (own_clnn hx2) (cap := 64) (own_clcap hx2) (by decide) (by decide) (by decide) (ad := "[I") (by decide +kernel)
  obtain ⟨b_56, g_56⟩ : ∃ z, z = h_47.size := ⟨_, rfl⟩
  rw [← g_56] at A_56 Ex_56 st_56
  have V_56 : Arv Z h_56 b_56 k_56 .int x2 (own_LI (fun _ => (0 : Int32)) x2) (.int (0 : Int32)) := (Arv.new A_56 (own_clnn hx2)).pad (own_LI_pad x2)
  have gg_56 : n0 ≤ b_56 := Nat.le_trans Zs_54 (Nat.le_of_eq g_56.symm)
  have sz_56 : h0.size ≤ b_56 := Nat.le_trans Kp_55.1 (Nat.le_of_eq g_56.symm)
  refine own_st st_56 ?_
  show own_Go _ _ _ _ (T_56.setTop (mkF m 167 #[rv a1, iv 3, iv c_, rv ac, iv 2, .unset] [(.ref b_56), (.int 2), (.ref b_2)]))
  have Fa_57 := ((V_42.other W_47 (Nat.ne_of_lt (Nat.lt_of_lt_of_le (V_2.other W_5 (Ne.symm (Nat.ne_of_lt (Nat.lt_of_lt_of_le Fp.lt (Nat.le_of_eq g_2.symm))))).lt (Nat.le_of_eq g_10.symm)))).ext E_56)
  obtain ⟨cl_58, Ar_58, qk_58, Sz_58, Ng_58, Hs_58, Gs_58⟩ := id Fa_57
  obtain ⟨T_59, h_59, X_59, e_59, W_59, st_59⟩ := stR X_56 hx hZ e_56 Ar_58 (j := (2 : Int32)) (inb_of Sz_58 ⟨by decide, by decide⟩) rfl (Sto.ofVA Ar_58 qk_58 O_2 (Ins.self Ex_56)) (g := (mkF m 167 #[rv a1, iv 3, iv c_, rv ac, iv 2, .unset] [(.ref b_56), (.int 2), (.ref b_2)])) rfl rfl (hb hby d4_167)
  refine own_st st_59 ?_
  have V_59 : Arv Z h_59 b_2 k_2 (.array .int) (4 : Int32) [(.ref b_22), (.ref b_39), (.ref b_56), .null] .null := Arv.set Ar_58 qk_58 Sz_58 Ng_58 Hs_58 Gs_58 rfl W_59 2 rfl (Nat.le_of_ble_eq_true rfl)
  have N_59 := Fr.snoc X_59 N_47 gg_2
  show own_Go _ _ _ _ (T_59.setTop (mkF m 168 #[rv a1, iv 3, iv c_, rv ac, iv 2, .unset] []))
  refine o_aloadN X_59 hx (hb hby d4_168) rfl rfl ?_
  have Fa_60 := (((Fa_43.other W_47 (Or.inl (Nat.ne_of_lt (Nat.lt_of_lt_of_le Fa_6.lt (Nat.le_of_eq g_10.symm))))).ext E_56).other W_59 (Or.inl (Nat.ne_of_lt (Nat.lt_of_lt_of_le Fp.lt (Nat.le_of_eq g_2.symm)))))
  obtain ⟨T_61, X_61, e_61, st_61⟩ := getF X_59 hx hZ hown (host := "") (Or.inl (hw _ (List.mem_of_getElem? (i := 43) rfl))) Via.refl e_59 Fa_60 (g := (mkF m 169 #[rv a1, iv 3, iv c_, rv ac, iv 2, .unset] [(.ref a1)])) rfl rfl (hb hby d4_169)
  refine own_st st_61 ?_
  show own_Go _ _ _ _ (T_61.setTop (mkF m 172 #[rv a1, iv 3, iv c_, rv ac, iv 2, .unset] [(.ref b_10)]))
  refine o_iload X_61 hx (hb hby d4_172) rfl ?_
  refine o_iconst X_61 hx 1 (hb hby d4_174) rfl ?_
  have Fa_62 := ((V_47.ext E_56).other W_59 (Ne.symm (Nat.ne_of_lt (Nat.lt_of_lt_of_le (V_2.other W_5 (Ne.symm (Nat.ne_of_lt (Nat.lt_of_lt_of_le Fp.lt (Nat.le_of_eq g_2.symm))))).lt (Nat.le_of_eq g_10.symm)))))
  obtain ⟨cl_63, Ar_63, qk_63, Sz_63, Ng_63, Hs_63, Gs_63⟩ := id Fa_62
  obtain ⟨T_64, h_64, X_64, e_64, W_64, st_64⟩ := stZ X_61 hx hZ e_61 Ar_63 (j := (2 : Int32)) (inb_of Sz_63 ⟨by decide, by decide⟩) (g := (mkF m 175 #[rv a1, iv 3, iv c_, rv ac, iv 2, .unset] [(.int 1), (.int 2), (.ref b_10)])) rfl rfl (hb hby d4_175)
  refine own_st st_64 ?_
  have V_64 : Arv Z h_64 b_10 k_10 .boolean (4 : Int32) [(.int (1 : Int32)), (.int (1 : Int32)), (.int (1 : Int32)), (.int (0 : Int32))] (.int (0 : Int32)) := Arv.set Ar_63 qk_63 Sz_63 Ng_63 Hs_63 Gs_63 (by decide) W_64 2 rfl (Nat.le_of_ble_eq_true rfl)
  have N_64 := Fr.snoc X_64 N_59 gg_10
  show own_Go _ _ _ _ (T_64.setTop (mkF m 176 #[rv a1, iv 3, iv c_, rv ac, iv 2, .unset] []))
  refine o_iinc X_64 hx (hb hby d4_176) rfl (l' := #[rv a1, iv 3, iv c_, rv ac, iv 3, .unset]) rfl ?_
  refine o_goto X_64 hx (pc' := 146) (hb hby d4_179) (by decide) (by decide) ?_
  refine o_iload X_64 hx (hb hby d4_146) rfl ?_
  refine o_aloadN X_64 hx (hb hby d4_148) rfl rfl ?_
  have Fa_65 := (((Fa_48.ext E_56).other W_59 (Or.inl (Nat.ne_of_lt (Nat.lt_of_lt_of_le Fp.lt (Nat.le_of_eq g_2.symm))))).other W_64 (Or.inl (Nat.ne_of_lt (Nat.lt_of_lt_of_le Fa_6.lt (Nat.le_of_eq g_10.symm)))))
  obtain ⟨T_66, X_66, e_66, st_66⟩ := getF X_64 hx hZ hown (host := "") (Or.inl (hw _ (List.mem_of_getElem? (i := 36) rfl))) Via.refl e_64 Fa_65 (g := (mkF m 149 #[rv a1, iv 3, iv c_, rv ac, iv 3, .unset] [(.ref a1), (.int 3)])) rfl rfl (hb hby d4_149)
  refine own_st st_66 ?_
  show own_Go _ _ _ _ (T_66.setTop (mkF m 152 #[rv a1, iv 3, iv c_, rv ac, iv 3, .unset] [(.int 4), (.int 3)]))
  refine o_icmpNo X_66 hx (hb hby d4_152) (tlt (by decide : (3 : Int32) < (4 : Int32))).2.1 ?_
  refine o_aloadN X_66 hx (hb hby d4_155) rfl rfl ?_
  have Fa_67 := (((Fa_50.ext E_56).other W_59 (Or.inl (Nat.ne_of_lt (Nat.lt_of_lt_of_le Fp.lt (Nat.le_of_eq g_2.symm))))).other W_64 (Or.inl (Nat.ne_of_lt (Nat.lt_of_lt_of_le Fa_6.lt (Nat.le_of_eq g_10.symm)))))
  obtain ⟨T_68, X_68, e_68, st_68⟩ := getF X_66 hx hZ hown (host := "") (Or.inl (hw _ (List.mem_of_getElem? (i := 40) rfl))) Via.refl e_66 Fa_67 (g := (mkF m 156 #[rv a1, iv 3, iv c_, rv ac, iv 3, .unset] [(.ref a1)])) rfl rfl (hb hby d4_156)
  refine own_st st_68 ?_
  show own_Go _ _ _ _ (T_68.setTop (mkF m 159 #[rv a1, iv 3, iv c_, rv ac, iv 3, .unset] [(.ref b_2)]))
  refine o_iload X_68 hx (hb hby d4_159) rfl ?_
  refine o_aloadN X_68 hx (hb hby d4_161) rfl rfl ?_
  refine o_iload X_68 hx (hb hby d4_162) rfl ?_
  have Fa_69 := (((Fa_52.ext E_56).other W_59 (Nat.ne_of_lt (Nat.lt_of_lt_of_le Vc.lt (Nat.le_of_eq g_2.symm)))).other W_64 (Nat.ne_of_lt (Nat.lt_of_lt_of_le ((Vc.ext E_2).other W_5 (Ne.symm n_a1_ac)).lt (Nat.le_of_eq g_10.symm))))
  obtain ⟨cl_70, Ar_70, qk_70, Sz_70, Ng_70, Hs_70, Gs_70⟩ := id Fa_69
  refine own_st (X_68.iaload hx (j := (3 : Int32)) (v := (.int x3)) (by rw [e_68]; exact Ar_70.1) (State.isArrayOf_alike hZ.alike Ar_70.2.1) Ar_70.2.2 (inb_of Sz_70 ⟨by decide, by decide⟩) (Hs_70.at (j := (3 : Int32)) (inb_of Sz_70 ⟨by decide, by decide⟩) rfl) (g := (mkF m 164 #[rv a1, iv 3, iv c_, rv ac, iv 3, .unset] [(.int 3), (.ref ac), (.int 3), (.ref b_2)])) rfl rfl (hb hby d4_164)) ?_
  show own_Go _ _ _ _ (T_68.setTop (mkF m 165 #[rv a1, iv 3, iv c_, rv ac, iv 3, .unset] [(.int x3), (.int 3), (.ref b_2)]))
  have Zs_71 : n0 ≤ h_64.size := (Nat.le_trans (Nat.le_trans (Nat.le_trans Zs_54 E_56.1) (Keep.of_wr W_59).1) (Keep.of_wr W_64).1)
  have Kp_72 : Keep h0 h_64 [a1, ao, asx, am] := (((Kp_55.ext E_56).wr W_59 (Or.inr sz_2)).wr W_64 (Or.inr sz_10))
  obtain ⟨T_73, h_73, k_73, X_73, e_73, E_73, A_73, Ex_73, st_73⟩ := newPE X_68 hx hZ (hw _ (List.mem_of_getElem? (i := 14) rfl)) e_68 (g := (mkF m 165 #[rv a1, iv 3, iv c_, rv ac, iv 3, .unset] [(.int x3), (.int 3), (.ref b_2)])) rfl (hb hby d4_165) rfl (own_clnn hx3) (cap := 64) (own_clcap hx3) (by decide) (by decide) (by decide) (ad := "[I") (by decide +kernel)
  obtain ⟨b_73, g_73⟩ : ∃ z, z = h_64.size := ⟨_, rfl⟩
  rw [← g_73] at A_73 Ex_73 st_73
  have V_73 : Arv Z h_73 b_73 k_73 .int x3 (own_LI (fun _ => (0 : Int32)) x3) (.int (0 : Int32)) := (Arv.new A_73 (own_clnn hx3)).pad (own_LI_pad x3)
  have gg_73 : n0 ≤ b_73 := Nat.le_trans Zs_71 (Nat.le_of_eq g_73.symm)
  have sz_73 : h0.size ≤ b_73 := Nat.le_trans Kp_72.1 (Nat.le_of_eq g_73.symm)
  refine own_st st_73 ?_
  show own_Go _ _ _ _ (T_73.setTop (mkF m 167 #[rv a1, iv 3, iv c_, rv ac, iv 3, .unset] [(.ref b_73), (.int 3), (.ref b_2)]))
  have Fa_74 := ((V_59.other W_64 (Nat.ne_of_lt (Nat.lt_of_lt_of_le (V_2.other W_5 (Ne.symm (Nat.ne_of_lt (Nat.lt_of_lt_of_le Fp.lt (Nat.le_of_eq g_2.symm))))).lt (Nat.le_of_eq g_10.symm)))).ext E_73)
  obtain ⟨cl_75, Ar_75, qk_75, Sz_75, Ng_75, Hs_75, Gs_75⟩ := id Fa_74
  obtain ⟨T_76, h_76, X_76, e_76, W_76, st_76⟩ := stR X_73 hx hZ e_73 Ar_75 (j := (3 : Int32)) (inb_of Sz_75 ⟨by decide, by decide⟩) rfl (Sto.ofVA Ar_75 qk_75 O_2 (Ins.self Ex_73)) (g := (mkF m 167 #[rv a1, iv 3, iv c_, rv ac, iv 3, .unset] [(.ref b_73), (.int 3), (.ref b_2)])) rfl rfl (hb hby d4_167)
  refine own_st st_76 ?_
  have V_76 : Arv Z h_76 b_2 k_2 (.array .int) (4 : Int32) [(.ref b_22), (.ref b_39), (.ref b_56), (.ref b_73)] .null := Arv.set Ar_75 qk_75 Sz_75 Ng_75 Hs_75 Gs_75 rfl W_76 3 rfl (Nat.le_of_ble_eq_true rfl)
  have N_76 := Fr.snoc X_76 N_64 gg_2
  show own_Go _ _ _ _ (T_76.setTop (mkF m 168 #[rv a1, iv 3, iv c_, rv ac, iv 3, .unset] []))
  refine o_aloadN X_76 hx (hb hby d4_168) rfl rfl ?_
  have Fa_77 := (((Fa_60.other W_64 (Or.inl (Nat.ne_of_lt (Nat.lt_of_lt_of_le Fa_6.lt (Nat.le_of_eq g_10.symm))))).ext E_73).other W_76 (Or.inl (Nat.ne_of_lt (Nat.lt_of_lt_of_le Fp.lt (Nat.le_of_eq g_2.symm)))))
  obtain ⟨T_78, X_78, e_78, st_78⟩ := getF X_76 hx hZ hown (host := "") (Or.inl (hw _ (List.mem_of_getElem? (i := 43) rfl))) Via.refl e_76 Fa_77 (g := (mkF m 169 #[rv a1, iv 3, iv c_, rv ac, iv 3, .unset] [(.ref a1)])) rfl rfl (hb hby d4_169)
  refine own_st st_78 ?_
  show own_Go _ _ _ _ (T_78.setTop (mkF m 172 #[rv a1, iv 3, iv c_, rv ac, iv 3, .unset] [(.ref b_10)]))
  refine o_iload X_78 hx (hb hby d4_172) rfl ?_
  refine o_iconst X_78 hx 1 (hb hby d4_174) rfl ?_
  have Fa_79 := ((V_64.ext E_73).other W_76 (Ne.symm (Nat.ne_of_lt (Nat.lt_of_lt_of_le (V_2.other W_5 (Ne.symm (Nat.ne_of_lt (Nat.lt_of_lt_of_le Fp.lt (Nat.le_of_eq g_2.symm))))).lt (Nat.le_of_eq g_10.symm)))))
  obtain ⟨cl_80, Ar_80, qk_80, Sz_80, Ng_80, Hs_80, Gs_80⟩ := id Fa_79
  obtain ⟨T_81, h_81, X_81, e_81, W_81, st_81⟩ := stZ X_78 hx hZ e_78 Ar_80 (j := (3 : Int32)) (inb_of Sz_80 ⟨by decide, by decide⟩) (g := (mkF m 175 #[rv a1, iv 3, iv c_, rv ac, iv 3, .unset] [(.int 1), (.int 3), (.ref b_10)])) rfl rfl (hb hby d4_175)
  refine own_st st_81 ?_
  have V_81 : Arv Z h_81 b_10 k_10 .boolean (4 : Int32) [(.int (1 : Int32)), (.int (1 : Int32)), (.int (1 : Int32)), (.int (1 : Int32))] (.int (0 : Int32)) := Arv.set Ar_80 qk_80 Sz_80 Ng_80 Hs_80 Gs_80 (by decide) W_81 3 rfl (Nat.le_of_ble_eq_true rfl)
  have N_81 := Fr.snoc X_81 N_76 gg_10
  show own_Go _ _ _ _ (T_81.setTop (mkF m 176 #[rv a1, iv 3, iv c_, rv ac, iv 3, .unset] []))
  refine o_iinc X_81 hx (hb hby d4_176) rfl (l' := #[rv a1, iv 3, iv c_, rv ac, iv 4, .unset]) rfl ?_
  refine o_goto X_81 hx (pc' := 146) (hb hby d4_179) (by decide) (by decide) ?_
  refine o_iload X_81 hx (hb hby d4_146) rfl ?_
  refine o_aloadN X_81 hx (hb hby d4_148) rfl rfl ?_
  have Fa_82 := (((Fa_65.ext E_73).other W_76 (Or.inl (Nat.ne_of_lt (Nat.lt_of_lt_of_le Fp.lt (Nat.le_of_eq g_2.symm))))).other W_81 (Or.inl (Nat.ne_of_lt (Nat.lt_of_lt_of_le Fa_6.lt (Nat.le_of_eq g_10.symm)))))
  obtain ⟨T_83, X_83, e_83, st_83⟩ := getF X_81 hx hZ hown (host := "") (Or.inl (hw _ (List.mem_of_getElem? (i := 36) rfl))) Via.refl e_81 Fa_82 (g := (mkF m 149 #[rv a1, iv 3, iv c_, rv ac, iv 4, .unset] [(.ref a1), (.int 4)])) rfl rfl (hb hby d4_149)
  refine own_st st_83 ?_
  show own_Go _ _ _ _ (T_83.setTop (mkF m 152 #[rv a1, iv 3, iv c_, rv ac, iv 4, .unset] [(.int 4), (.int 4)]))
  refine o_icmpYes X_83 hx (pc' := 182) (hb hby d4_152) (flt (by decide : ¬ ((4 : Int32) < (4 : Int32)))).2.1 (by decide) (by decide) ?_
  refine o_aloadN X_83 hx (hb hby d4_182) rfl rfl ?_
  obtain ⟨T_84, X_84, e_84, st_84⟩ := getF X_83 hx hZ hown (host := "") (Or.inl (hw _ (List.mem_of_getElem? (i := 36) rfl))) Via.refl e_83 Fa_82 (g := (mkF m 183 #[rv a1, iv 3, iv c_, rv ac, iv 4, .unset] [(.ref a1)])) rfl rfl (hb hby d4_183)
  refine own_st st_84 ?_
  show own_Go _ _ _ _ (T_84.setTop (mkF m 186 #[rv a1, iv 3, iv c_, rv ac, iv 4, .unset] [(.int 4)]))
  have Zs_85 : n0 ≤ h_81.size := (Nat.le_trans (Nat.le_trans (Nat.le_trans Zs_71 E_73.1) (Keep.of_wr W_76).1) (Keep.of_wr W_81).1)
  have Kp_86 : Keep h0 h_81 [a1, ao, asx, am] := (((Kp_72.ext E_73).wr W_76 (Or.inr sz_2)).wr W_81 (Or.inr sz_10))
  obtain ⟨T_87, h_87, k_87, X_87, e_87, E_87, A_87, st_87⟩ := newP X_84 hx hZ (hw _ (List.mem_of_getElem? (i := 14) rfl)) e_84 (g := (mkF m 186 #[rv a1, iv 3, iv c_, rv ac, iv 4, .unset] [(.int 4)])) rfl (hb hby d4_186) rfl (by decide) (cap := 4) (by decide) (by decide) (by decide) (by decide)
  obtain ⟨b_87, g_87⟩ : ∃ z, z = h_81.size := ⟨_, rfl⟩
  rw [← g_87] at A_87 st_87
  have V_87 : Arv Z h_87 b_87 k_87 .int (4 : Int32) [(.int (0 : Int32)), (.int (0 : Int32)), (.int (0 : Int32)), (.int (0 : Int32))] (.int (0 : Int32)) := (Arv.new A_87 (by decide)).pad (pad_rep [] (.int (0 : Int32)) 4)
  have gg_87 : n0 ≤ b_87 := Nat.le_trans Zs_85 (Nat.le_of_eq g_87.symm)
  have sz_87 : h0.size ≤ b_87 := Nat.le_trans Kp_86.1 (Nat.le_of_eq g_87.symm)
  refine own_st st_87 ?_
  show own_Go _ _ _ _ (T_87.setTop (mkF m 188 #[rv a1, iv 3, iv c_, rv ac, iv 4, .unset] [(.ref b_87)]))
  refine o_astore X_87 hx (hb hby d4_188) rfl (l' := #[rv a1, iv 3, iv c_, rv ac, rv b_87, .unset]) rfl ?_
  refine o_iconst X_87 hx 0 (hb hby d4_190) rfl ?_
  refine o_istore X_87 hx (hb hby d4_191) (l' := #[rv a1, iv 3, iv c_, rv ac, rv b_87, iv 0]) rfl ?_
  have Zs_88 : n0 ≤ h_87.size := (Nat.le_trans Zs_85 E_87.1)
  have Kp_89 : Keep h0 h_87 [a1, ao, asx, am] := (Kp_86.ext E_87)
  have Fa_90 := ((((((((((((((Fa_12.wr W_13).ext E_22).wr W_25).wr W_30).ext E_39).wr W_42).wr W_47).ext E_56).wr W_59).wr W_64).ext E_73).wr W_76).wr W_81).ext E_87)
  have Fa_91 := (((((((((((((((((Fp.ext E_2).other W_5 (Or.inr (slot_ne (Or.inr (hw _ (List.mem_of_getElem? (i := 18) rfl))) (Or.inl (hw _ (List.mem_of_getElem? (i := 41) rfl))) (by decide) (t := .int) (t' := (.array (.array .int))) (by decide) (by decide)))).ext E_10).other W_13 (Or.inr (slot_ne (Or.inr (hw _ (List.mem_of_getElem? (i := 18) rfl))) (Or.inl (hw _ (List.mem_of_getElem? (i := 44) rfl))) (by decide) (t := .int) (t' := (.array .boolean)) (by decide) (by decide)))).ext E_22).other W_25 (Or.inl (Nat.ne_of_lt (Nat.lt_of_lt_of_le Fp.lt (Nat.le_of_eq g_2.symm))))).other W_30 (Or.inl (Nat.ne_of_lt (Nat.lt_of_lt_of_le Fa_6.lt (Nat.le_of_eq g_10.symm))))).ext E_39).other W_42 (Or.inl (Nat.ne_of_lt (Nat.lt_of_lt_of_le Fp.lt (Nat.le_of_eq g_2.symm))))).other W_47 (Or.inl (Nat.ne_of_lt (Nat.lt_of_lt_of_le Fa_6.lt (Nat.le_of_eq g_10.symm))))).ext E_56).other W_59 (Or.inl (Nat.ne_of_lt (Nat.lt_of_lt_of_le Fp.lt (Nat.le_of_eq g_2.symm))))).other W_64 (Or.inl (Nat.ne_of_lt (Nat.lt_of_lt_of_le Fa_6.lt (Nat.le_of_eq g_10.symm))))).ext E_73).other W_76 (Or.inl (Nat.ne_of_lt (Nat.lt_of_lt_of_le Fp.lt (Nat.le_of_eq g_2.symm))))).other W_81 (Or.inl (Nat.ne_of_lt (Nat.lt_of_lt_of_le Fa_6.lt (Nat.le_of_eq g_10.symm))))).ext E_87)
  have Fa_92 := (((((((((((((((((Fw.ext E_2).other W_5 (Or.inr (slot_ne (Or.inr (hw _ (List.mem_of_getElem? (i := 20) rfl))) (Or.inl (hw _ (List.mem_of_getElem? (i := 41) rfl))) (by decide) (t := (.array .int)) (t' := (.array (.array .int))) (by decide) (by decide)))).ext E_10).other W_13 (Or.inr (slot_ne (Or.inr (hw _ (List.mem_of_getElem? (i := 20) rfl))) (Or.inl (hw _ (List.mem_of_getElem? (i := 44) rfl))) (by decide) (t := (.array .int)) (t' := (.array .boolean)) (by decide) (by decide)))).ext E_22).other W_25 (Or.inl (Nat.ne_of_lt (Nat.lt_of_lt_of_le Fw.lt (Nat.le_of_eq g_2.symm))))).other W_30 (Or.inl (Nat.ne_of_lt (Nat.lt_of_lt_of_le Fa_6.lt (Nat.le_of_eq g_10.symm))))).ext E_39).other W_42 (Or.inl (Nat.ne_of_lt (Nat.lt_of_lt_of_le Fw.lt (Nat.le_of_eq g_2.symm))))).other W_47 (Or.inl (Nat.ne_of_lt (Nat.lt_of_lt_of_le Fa_6.lt (Nat.le_of_eq g_10.symm))))).ext E_56).other W_59 (Or.inl (Nat.ne_of_lt (Nat.lt_of_lt_of_le Fw.lt (Nat.le_of_eq g_2.symm))))).other W_64 (Or.inl (Nat.ne_of_lt (Nat.lt_of_lt_of_le Fa_6.lt (Nat.le_of_eq g_10.symm))))).ext E_73).other W_76 (Or.inl (Nat.ne_of_lt (Nat.lt_of_lt_of_le Fw.lt (Nat.le_of_eq g_2.symm))))).other W_81 (Or.inl (Nat.ne_of_lt (Nat.lt_of_lt_of_le Fa_6.lt (Nat.le_of_eq g_10.symm))))).ext E_87)
  have Fa_93 := (((((((((((((((((Fo.ext E_2).other W_5 (Or.inr (slot_ne (Or.inr (hw _ (List.mem_of_getElem? (i := 22) rfl))) (Or.inl (hw _ (List.mem_of_getElem? (i := 41) rfl))) (by decide) (t := (.array .int)) (t' := (.array (.array .int))) (by decide) (by decide)))).ext E_10).other W_13 (Or.inr (slot_ne (Or.inr (hw _ (List.mem_of_getElem? (i := 22) rfl))) (Or.inl (hw _ (List.mem_of_getElem? (i := 44) rfl))) (by decide) (t := (.array .int)) (t' := (.array .boolean)) (by decide) (by decide)))).ext E_22).other W_25 (Or.inl (Nat.ne_of_lt (Nat.lt_of_lt_of_le Fo.lt (Nat.le_of_eq g_2.symm))))).other W_30 (Or.inl (Nat.ne_of_lt (Nat.lt_of_lt_of_le Fa_6.lt (Nat.le_of_eq g_10.symm))))).ext E_39).other W_42 (Or.inl (Nat.ne_of_lt (Nat.lt_of_lt_of_le Fo.lt (Nat.le_of_eq g_2.symm))))).other W_47 (Or.inl (Nat.ne_of_lt (Nat.lt_of_lt_of_le Fa_6.lt (Nat.le_of_eq g_10.symm))))).ext E_56).other W_59 (Or.inl (Nat.ne_of_lt (Nat.lt_of_lt_of_le Fo.lt (Nat.le_of_eq g_2.symm))))).other W_64 (Or.inl (Nat.ne_of_lt (Nat.lt_of_lt_of_le Fa_6.lt (Nat.le_of_eq g_10.symm))))).ext E_73).other W_76 (Or.inl (Nat.ne_of_lt (Nat.lt_of_lt_of_le Fo.lt (Nat.le_of_eq g_2.symm))))).other W_81 (Or.inl (Nat.ne_of_lt (Nat.lt_of_lt_of_le Fa_6.lt (Nat.le_of_eq g_10.symm))))).ext E_87)
  have Fa_94 := (((((((((((((((((Fs.ext E_2).other W_5 (Or.inr (slot_ne (Or.inr (hw _ (List.mem_of_getElem? (i := 24) rfl))) (Or.inl (hw _ (List.mem_of_getElem? (i := 41) rfl))) (by decide) (t := (.array .int)) (t' := (.array (.array .int))) (by decide) (by decide)))).ext E_10).other W_13 (Or.inr (slot_ne (Or.inr (hw _ (List.mem_of_getElem? (i := 24) rfl))) (Or.inl (hw _ (List.mem_of_getElem? (i := 44) rfl))) (by decide) (t := (.array .int)) (t' := (.array .boolean)) (by decide) (by decide)))).ext E_22).other W_25 (Or.inl (Nat.ne_of_lt (Nat.lt_of_lt_of_le Fs.lt (Nat.le_of_eq g_2.symm))))).other W_30 (Or.inl (Nat.ne_of_lt (Nat.lt_of_lt_of_le Fa_6.lt (Nat.le_of_eq g_10.symm))))).ext E_39).other W_42 (Or.inl (Nat.ne_of_lt (Nat.lt_of_lt_of_le Fs.lt (Nat.le_of_eq g_2.symm))))).other W_47 (Or.inl (Nat.ne_of_lt (Nat.lt_of_lt_of_le Fa_6.lt (Nat.le_of_eq g_10.symm))))).ext E_56).other W_59 (Or.inl (Nat.ne_of_lt (Nat.lt_of_lt_of_le Fs.lt (Nat.le_of_eq g_2.symm))))).other W_64 (Or.inl (Nat.ne_of_lt (Nat.lt_of_lt_of_le Fa_6.lt (Nat.le_of_eq g_10.symm))))).ext E_73).other W_76 (Or.inl (Nat.ne_of_lt (Nat.lt_of_lt_of_le Fs.lt (Nat.le_of_eq g_2.symm))))).other W_81 (Or.inl (Nat.ne_of_lt (Nat.lt_of_lt_of_le Fa_6.lt (Nat.le_of_eq g_10.symm))))).ext E_87)
  have Fa_95 := (((((((((((((((((Fm.ext E_2).other W_5 (Or.inr (slot_ne (Or.inr (hw _ (List.mem_of_getElem? (i := 27) rfl))) (Or.inl (hw _ (List.mem_of_getElem? (i := 41) rfl))) (by decide) (t := (.array .long)) (t' := (.array (.array .int))) (by decide) (by decide)))).ext E_10).other W_13 (Or.inr (slot_ne (Or.inr (hw _ (List.mem_of_getElem? (i := 27) rfl))) (Or.inl (hw _ (List.mem_of_getElem? (i := 44) rfl))) (by decide) (t := (.array .long)) (t' := (.array .boolean)) (by decide) (by decide)))).ext E_22).other W_25 (Or.inl (Nat.ne_of_lt (Nat.lt_of_lt_of_le Fm.lt (Nat.le_of_eq g_2.symm))))).other W_30 (Or.inl (Nat.ne_of_lt (Nat.lt_of_lt_of_le Fa_6.lt (Nat.le_of_eq g_10.symm))))).ext E_39).other W_42 (Or.inl (Nat.ne_of_lt (Nat.lt_of_lt_of_le Fm.lt (Nat.le_of_eq g_2.symm))))).other W_47 (Or.inl (Nat.ne_of_lt (Nat.lt_of_lt_of_le Fa_6.lt (Nat.le_of_eq g_10.symm))))).ext E_56).other W_59 (Or.inl (Nat.ne_of_lt (Nat.lt_of_lt_of_le Fm.lt (Nat.le_of_eq g_2.symm))))).other W_64 (Or.inl (Nat.ne_of_lt (Nat.lt_of_lt_of_le Fa_6.lt (Nat.le_of_eq g_10.symm))))).ext E_73).other W_76 (Or.inl (Nat.ne_of_lt (Nat.lt_of_lt_of_le Fm.lt (Nat.le_of_eq g_2.symm))))).other W_81 (Or.inl (Nat.ne_of_lt (Nat.lt_of_lt_of_le Fa_6.lt (Nat.le_of_eq g_10.symm))))).ext E_87)
  have Fa_96 := (Fa_82.ext E_87)
  have Fa_97 := ((((Fa_67.ext E_73).other W_76 (Or.inl (Nat.ne_of_lt (Nat.lt_of_lt_of_le Fc.lt (Nat.le_of_eq g_2.symm))))).other W_81 (Or.inl (Nat.ne_of_lt (Nat.lt_of_lt_of_le Fa_6.lt (Nat.le_of_eq g_10.symm))))).ext E_87)
  have Fa_98 := ((Fa_77.other W_81 (Or.inl (Nat.ne_of_lt (Nat.lt_of_lt_of_le Fa_6.lt (Nat.le_of_eq g_10.symm))))).ext E_87)
  have Fa_99 := (((((((((((((((((Fc.ext E_2).other W_5 (Or.inr (slot_ne (Or.inl (hw _ (List.mem_of_getElem? (i := 55) rfl))) (Or.inl (hw _ (List.mem_of_getElem? (i := 41) rfl))) (by decide) (t := .int) (t' := (.array (.array .int))) (by decide) (by decide)))).ext E_10).other W_13 (Or.inr (slot_ne (Or.inl (hw _ (List.mem_of_getElem? (i := 55) rfl))) (Or.inl (hw _ (List.mem_of_getElem? (i := 44) rfl))) (by decide) (t := .int) (t' := (.array .boolean)) (by decide) (by decide)))).ext E_22).other W_25 (Or.inl (Nat.ne_of_lt (Nat.lt_of_lt_of_le Fc.lt (Nat.le_of_eq g_2.symm))))).other W_30 (Or.inl (Nat.ne_of_lt (Nat.lt_of_lt_of_le Fa_6.lt (Nat.le_of_eq g_10.symm))))).ext E_39).other W_42 (Or.inl (Nat.ne_of_lt (Nat.lt_of_lt_of_le Fc.lt (Nat.le_of_eq g_2.symm))))).other W_47 (Or.inl (Nat.ne_of_lt (Nat.lt_of_lt_of_le Fa_6.lt (Nat.le_of_eq g_10.symm))))).ext E_56).other W_59 (Or.inl (Nat.ne_of_lt (Nat.lt_of_lt_of_le Fc.lt (Nat.le_of_eq g_2.symm))))).other W_64 (Or.inl (Nat.ne_of_lt (Nat.lt_of_lt_of_le Fa_6.lt (Nat.le_of_eq g_10.symm))))).ext E_73).other W_76 (Or.inl (Nat.ne_of_lt (Nat.lt_of_lt_of_le Fc.lt (Nat.le_of_eq g_2.symm))))).other W_81 (Or.inl (Nat.ne_of_lt (Nat.lt_of_lt_of_le Fa_6.lt (Nat.le_of_eq g_10.symm))))).ext E_87)
  have Fa_100 := (((((((((((((((((Vw.ext E_2).other W_5 n_aw_a1).ext E_10).other W_13 n_aw_a1).ext E_22).other W_25 (Nat.ne_of_lt (Nat.lt_of_lt_of_le Vw.lt (Nat.le_of_eq g_2.symm)))).other W_30 (Nat.ne_of_lt (Nat.lt_of_lt_of_le ((Vw.ext E_2).other W_5 n_aw_a1).lt (Nat.le_of_eq g_10.symm)))).ext E_39).other W_42 (Nat.ne_of_lt (Nat.lt_of_lt_of_le Vw.lt (Nat.le_of_eq g_2.symm)))).other W_47 (Nat.ne_of_lt (Nat.lt_of_lt_of_le ((Vw.ext E_2).other W_5 n_aw_a1).lt (Nat.le_of_eq g_10.symm)))).ext E_56).other W_59 (Nat.ne_of_lt (Nat.lt_of_lt_of_le Vw.lt (Nat.le_of_eq g_2.symm)))).other W_64 (Nat.ne_of_lt (Nat.lt_of_lt_of_le ((Vw.ext E_2).other W_5 n_aw_a1).lt (Nat.le_of_eq g_10.symm)))).ext E_73).other W_76 (Nat.ne_of_lt (Nat.lt_of_lt_of_le Vw.lt (Nat.le_of_eq g_2.symm)))).other W_81 (Nat.ne_of_lt (Nat.lt_of_lt_of_le ((Vw.ext E_2).other W_5 n_aw_a1).lt (Nat.le_of_eq g_10.symm)))).ext E_87)
  have Fa_101 := (((((((((((((((((Vo.ext E_2).other W_5 n_ao_a1).ext E_10).other W_13 n_ao_a1).ext E_22).other W_25 (Nat.ne_of_lt (Nat.lt_of_lt_of_le Vo.lt (Nat.le_of_eq g_2.symm)))).other W_30 (Nat.ne_of_lt (Nat.lt_of_lt_of_le ((Vo.ext E_2).other W_5 n_ao_a1).lt (Nat.le_of_eq g_10.symm)))).ext E_39).other W_42 (Nat.ne_of_lt (Nat.lt_of_lt_of_le Vo.lt (Nat.le_of_eq g_2.symm)))).other W_47 (Nat.ne_of_lt (Nat.lt_of_lt_of_le ((Vo.ext E_2).other W_5 n_ao_a1).lt (Nat.le_of_eq g_10.symm)))).ext E_56).other W_59 (Nat.ne_of_lt (Nat.lt_of_lt_of_le Vo.lt (Nat.le_of_eq g_2.symm)))).other W_64 (Nat.ne_of_lt (Nat.lt_of_lt_of_le ((Vo.ext E_2).other W_5 n_ao_a1).lt (Nat.le_of_eq g_10.symm)))).ext E_73).other W_76 (Nat.ne_of_lt (Nat.lt_of_lt_of_le Vo.lt (Nat.le_of_eq g_2.symm)))).other W_81 (Nat.ne_of_lt (Nat.lt_of_lt_of_le ((Vo.ext E_2).other W_5 n_ao_a1).lt (Nat.le_of_eq g_10.symm)))).ext E_87)
  have Fa_102 := (((((((((((((((((Vs.ext E_2).other W_5 n_asx_a1).ext E_10).other W_13 n_asx_a1).ext E_22).other W_25 (Nat.ne_of_lt (Nat.lt_of_lt_of_le Vs.lt (Nat.le_of_eq g_2.symm)))).other W_30 (Nat.ne_of_lt (Nat.lt_of_lt_of_le ((Vs.ext E_2).other W_5 n_asx_a1).lt (Nat.le_of_eq g_10.symm)))).ext E_39).other W_42 (Nat.ne_of_lt (Nat.lt_of_lt_of_le Vs.lt (Nat.le_of_eq g_2.symm)))).other W_47 (Nat.ne_of_lt (Nat.lt_of_lt_of_le ((Vs.ext E_2).other W_5 n_asx_a1).lt (Nat.le_of_eq g_10.symm)))).ext E_56).other W_59 (Nat.ne_of_lt (Nat.lt_of_lt_of_le Vs.lt (Nat.le_of_eq g_2.symm)))).other W_64 (Nat.ne_of_lt (Nat.lt_of_lt_of_le ((Vs.ext E_2).other W_5 n_asx_a1).lt (Nat.le_of_eq g_10.symm)))).ext E_73).other W_76 (Nat.ne_of_lt (Nat.lt_of_lt_of_le Vs.lt (Nat.le_of_eq g_2.symm)))).other W_81 (Nat.ne_of_lt (Nat.lt_of_lt_of_le ((Vs.ext E_2).other W_5 n_asx_a1).lt (Nat.le_of_eq g_10.symm)))).ext E_87)
  have Fa_103 := (((((((((((((((((Vm.ext E_2).other W_5 n_am_a1).ext E_10).other W_13 n_am_a1).ext E_22).other W_25 (Nat.ne_of_lt (Nat.lt_of_lt_of_le Vm.lt (Nat.le_of_eq g_2.symm)))).other W_30 (Nat.ne_of_lt (Nat.lt_of_lt_of_le ((Vm.ext E_2).other W_5 n_am_a1).lt (Nat.le_of_eq g_10.symm)))).ext E_39).other W_42 (Nat.ne_of_lt (Nat.lt_of_lt_of_le Vm.lt (Nat.le_of_eq g_2.symm)))).other W_47 (Nat.ne_of_lt (Nat.lt_of_lt_of_le ((Vm.ext E_2).other W_5 n_am_a1).lt (Nat.le_of_eq g_10.symm)))).ext E_56).other W_59 (Nat.ne_of_lt (Nat.lt_of_lt_of_le Vm.lt (Nat.le_of_eq g_2.symm)))).other W_64 (Nat.ne_of_lt (Nat.lt_of_lt_of_le ((Vm.ext E_2).other W_5 n_am_a1).lt (Nat.le_of_eq g_10.symm)))).ext E_73).other W_76 (Nat.ne_of_lt (Nat.lt_of_lt_of_le Vm.lt (Nat.le_of_eq g_2.symm)))).other W_81 (Nat.ne_of_lt (Nat.lt_of_lt_of_le ((Vm.ext E_2).other W_5 n_am_a1).lt (Nat.le_of_eq g_10.symm)))).ext E_87)
  have Fa_104 := ((V_76.other W_81 (Nat.ne_of_lt (Nat.lt_of_lt_of_le (V_2.other W_5 (Ne.symm (Nat.ne_of_lt (Nat.lt_of_lt_of_le Fq.lt (Nat.le_of_eq g_2.symm))))).lt (Nat.le_of_eq g_10.symm)))).ext E_87)
  have Fa_105 := (V_81.ext E_87)
  have Fa_106 := ((((((((((((V_22.other W_25 (Ne.symm (Nat.ne_of_lt (Nat.lt_of_lt_of_le (((V_2.other W_5 (Ne.symm (Nat.ne_of_lt (Nat.lt_of_lt_of_le Fq.lt (Nat.le_of_eq g_2.symm))))).ext E_10).other W_13 (Ne.symm (Nat.ne_of_lt (Nat.lt_of_lt_of_le Fq.lt (Nat.le_of_eq g_2.symm))))).lt (Nat.le_of_eq g_22.symm))))).other W_30 (Ne.symm (Nat.ne_of_lt (Nat.lt_of_lt_of_le (V_10.other W_13 (Ne.symm (Nat.ne_of_lt (Nat.lt_of_lt_of_le Fa_6.lt (Nat.le_of_eq g_10.symm))))).lt (Nat.le_of_eq g_22.symm))))).ext E_39).other W_42 (Ne.symm (Nat.ne_of_lt (Nat.lt_of_lt_of_le (((V_2.other W_5 (Ne.symm (Nat.ne_of_lt (Nat.lt_of_lt_of_le Fq.lt (Nat.le_of_eq g_2.symm))))).ext E_10).other W_13 (Ne.symm (Nat.ne_of_lt (Nat.lt_of_lt_of_le Fq.lt (Nat.le_of_eq g_2.symm))))).lt (Nat.le_of_eq g_22.symm))))).other W_47 (Ne.symm (Nat.ne_of_lt (Nat.lt_of_lt_of_le (V_10.other W_13 (Ne.symm (Nat.ne_of_lt (Nat.lt_of_lt_of_le Fa_6.lt (Nat.le_of_eq g_10.symm))))).lt (Nat.le_of_eq g_22.symm))))).ext E_56).other W_59 (Ne.symm (Nat.ne_of_lt (Nat.lt_of_lt_of_le (((V_2.other W_5 (Ne.symm (Nat.ne_of_lt (Nat.lt_of_lt_of_le Fq.lt (Nat.le_of_eq g_2.symm))))).ext E_10).other W_13 (Ne.symm (Nat.ne_of_lt (Nat.lt_of_lt_of_le Fq.lt (Nat.le_of_eq g_2.symm))))).lt (Nat.le_of_eq g_22.symm))))).other W_64 (Ne.symm (Nat.ne_of_lt (Nat.lt_of_lt_of_le (V_10.other W_13 (Ne.symm (Nat.ne_of_lt (Nat.lt_of_lt_of_le Fa_6.lt (Nat.le_of_eq g_10.symm))))).lt (Nat.le_of_eq g_22.symm))))).ext E_73).other W_76 (Ne.symm (Nat.ne_of_lt (Nat.lt_of_lt_of_le (((V_2.other W_5 (Ne.symm (Nat.ne_of_lt (Nat.lt_of_lt_of_le Fq.lt (Nat.le_of_eq g_2.symm))))).ext E_10).other W_13 (Ne.symm (Nat.ne_of_lt (Nat.lt_of_lt_of_le Fq.lt (Nat.le_of_eq g_2.symm))))).lt (Nat.le_of_eq g_22.symm))))).other W_81 (Ne.symm (Nat.ne_of_lt (Nat.lt_of_lt_of_le (V_10.other W_13 (Ne.symm (Nat.ne_of_lt (Nat.lt_of_lt_of_le Fa_6.lt (Nat.le_of_eq g_10.symm))))).lt (Nat.le_of_eq g_22.symm))))).ext E_87)
  have Fa_107 := (((((((((V_39.other W_42 (Ne.symm (Nat.ne_of_lt (Nat.lt_of_lt_of_le (V_25.other W_30 (Nat.ne_of_lt (Nat.lt_of_lt_of_le (V_2.other W_5 (Ne.symm (Nat.ne_of_lt (Nat.lt_of_lt_of_le Fq.lt (Nat.le_of_eq g_2.symm))))).lt (Nat.le_of_eq g_10.symm)))).lt (Nat.le_of_eq g_39.symm))))).other W_47 (Ne.symm (Nat.ne_of_lt (Nat.lt_of_lt_of_le V_30.lt (Nat.le_of_eq g_39.symm))))).ext E_56).other W_59 (Ne.symm (Nat.ne_of_lt (Nat.lt_of_lt_of_le (V_25.other W_30 (Nat.ne_of_lt (Nat.lt_of_lt_of_le (V_2.other W_5 (Ne.symm (Nat.ne_of_lt (Nat.lt_of_lt_of_le Fq.lt (Nat.le_of_eq g_2.symm))))).lt (Nat.le_of_eq g_10.symm)))).lt (Nat.le_of_eq g_39.symm))))).other W_64 (Ne.symm (Nat.ne_of_lt (Nat.lt_of_lt_of_le V_30.lt (Nat.le_of_eq g_39.symm))))).ext E_73).other W_76 (Ne.symm (Nat.ne_of_lt (Nat.lt_of_lt_of_le (V_25.other W_30 (Nat.ne_of_lt (Nat.lt_of_lt_of_le (V_2.other W_5 (Ne.symm (Nat.ne_of_lt (Nat.lt_of_lt_of_le Fq.lt (Nat.le_of_eq g_2.symm))))).lt (Nat.le_of_eq g_10.symm)))).lt (Nat.le_of_eq g_39.symm))))).other W_81 (Ne.symm (Nat.ne_of_lt (Nat.lt_of_lt_of_le V_30.lt (Nat.le_of_eq g_39.symm))))).ext E_87)
  have Fa_108 := ((((((V_56.other W_59 (Ne.symm (Nat.ne_of_lt (Nat.lt_of_lt_of_le (V_42.other W_47 (Nat.ne_of_lt (Nat.lt_of_lt_of_le (V_2.other W_5 (Ne.symm (Nat.ne_of_lt (Nat.lt_of_lt_of_le Fq.lt (Nat.le_of_eq g_2.symm))))).lt (Nat.le_of_eq g_10.symm)))).lt (Nat.le_of_eq g_56.symm))))).other W_64 (Ne.symm (Nat.ne_of_lt (Nat.lt_of_lt_of_le V_47.lt (Nat.le_of_eq g_56.symm))))).ext E_73).other W_76 (Ne.symm (Nat.ne_of_lt (Nat.lt_of_lt_of_le (V_42.other W_47 (Nat.ne_of_lt (Nat.lt_of_lt_of_le (V_2.other W_5 (Ne.symm (Nat.ne_of_lt (Nat.lt_of_lt_of_le Fq.lt (Nat.le_of_eq g_2.symm))))).lt (Nat.le_of_eq g_10.symm)))).lt (Nat.le_of_eq g_56.symm))))).other W_81 (Ne.symm (Nat.ne_of_lt (Nat.lt_of_lt_of_le V_47.lt (Nat.le_of_eq g_56.symm))))).ext E_87)
  have Fa_109 := (((V_73.other W_76 (Ne.symm (Nat.ne_of_lt (Nat.lt_of_lt_of_le (V_59.other W_64 (Nat.ne_of_lt (Nat.lt_of_lt_of_le (V_2.other W_5 (Ne.symm (Nat.ne_of_lt (Nat.lt_of_lt_of_le Fq.lt (Nat.le_of_eq g_2.symm))))).lt (Nat.le_of_eq g_10.symm)))).lt (Nat.le_of_eq g_73.symm))))).other W_81 (Ne.symm (Nat.ne_of_lt (Nat.lt_of_lt_of_le V_64.lt (Nat.le_of_eq g_73.symm))))).ext E_87)
  exact own_lay4_4 a1 aw ao asx am kw ko ks km N fo0 fs0 fm0 n_aw_a1 n_ao_a1 n_asx_a1 n_am_a1 n_ao_aw n_asx_aw n_am_aw n_asx_ao n_am_ao n_am_asx hN1 hN2 hx hZ hw hby hml hown hret hlk (N.toNatClampNeg + 1) T_87 _ h_87 (0 : Int32) c_ ac b_87 b_2 b_10 b_22 b_39 b_56 b_73 k_87 k_2 k_10 k_22 k_39 k_56 k_73 (fun _ => (0 : Int32)) (fun _ => (0 : Int32)) (fun _ => (0 : Int32)) (fun _ => (0 : Int32)) x0 x1 x2 x3 (0 : Int32) (0 : Int32) (0 : Int32) (0 : Int32) go gs gm X_87 e_87 N_81 Zs_88 Kp_89 Fa_90 g1 Fa_91 Fa_92 Fa_93 Fa_94 Fa_95 Fa_96 Fa_97 Fa_98 Fa_99 Fa_100 Fa_101 Fa_102 Fa_103 go_ gs_ gm_ V_87 Fa_104 Fa_105 Fa_106 Fa_107 Fa_108 Fa_109 gg_87 sz_87 gg_10 sz_10 gg_22 sz_22 gg_39 sz_39 gg_56 sz_56 gg_73 sz_73 (Nat.ne_of_lt (Nat.lt_of_lt_of_le Fa_82.lt (Nat.le_of_eq g_87.symm))) (Nat.ne_of_lt (Nat.lt_of_lt_of_le ((((((((((((((((Vw.ext E_2).other W_5 n_aw_a1).ext E_10).other W_13 n_aw_a1).ext E_22).other W_25 (Nat.ne_of_lt (Nat.lt_of_lt_of_le Vw.lt (Nat.le_of_eq g_2.symm)))).other W_30 (Nat.ne_of_lt (Nat.lt_of_lt_of_le ((Vw.ext E_2).other W_5 n_aw_a1).lt (Nat.le_of_eq g_10.symm)))).ext E_39).other W_42 (Nat.ne_of_lt (Nat.lt_of_lt_of_le Vw.lt (Nat.le_of_eq g_2.symm)))).other W_47 (Nat.ne_of_lt (Nat.lt_of_lt_of_le ((Vw.ext E_2).other W_5 n_aw_a1).lt (Nat.le_of_eq g_10.symm)))).ext E_56).other W_59 (Nat.ne_of_lt (Nat.lt_of_lt_of_le Vw.lt (Nat.le_of_eq g_2.symm)))).other W_64 (Nat.ne_of_lt (Nat.lt_of_lt_of_le ((Vw.ext E_2).other W_5 n_aw_a1).lt (Nat.le_of_eq g_10.symm)))).ext E_73).other W_76 (Nat.ne_of_lt (Nat.lt_of_lt_of_le Vw.lt (Nat.le_of_eq g_2.symm)))).other W_81 (Nat.ne_of_lt (Nat.lt_of_lt_of_le ((Vw.ext E_2).other W_5 n_aw_a1).lt (Nat.le_of_eq g_10.symm)))).lt (Nat.le_of_eq g_87.symm))) (Nat.ne_of_lt (Nat.lt_of_lt_of_le ((((((((((((((((Vo.ext E_2).other W_5 n_ao_a1).ext E_10).other W_13 n_ao_a1).ext E_22).other W_25 (Nat.ne_of_lt (Nat.lt_of_lt_of_le Vo.lt (Nat.le_of_eq g_2.symm)))).other W_30 (Nat.ne_of_lt (Nat.lt_of_lt_of_le ((Vo.ext E_2).other W_5 n_ao_a1).lt (Nat.le_of_eq g_10.symm)))).ext E_39).other W_42 (Nat.ne_of_lt (Nat.lt_of_lt_of_le Vo.lt (Nat.le_of_eq g_2.symm)))).other W_47 (Nat.ne_of_lt (Nat.lt_of_lt_of_le ((Vo.ext E_2).other W_5 n_ao_a1).lt (Nat.le_of_eq g_10.symm)))).ext E_56).other W_59 (Nat.ne_of_lt (Nat.lt_of_lt_of_le Vo.lt (Nat.le_of_eq g_2.symm)))).other W_64 (Nat.ne_of_lt (Nat.lt_of_lt_of_le ((Vo.ext E_2).other W_5 n_ao_a1).lt (Nat.le_of_eq g_10.symm)))).ext E_73).other W_76 (Nat.ne_of_lt (Nat.lt_of_lt_of_le Vo.lt (Nat.le_of_eq g_2.symm)))).other W_81 (Nat.ne_of_lt (Nat.lt_of_lt_of_le ((Vo.ext E_2).other W_5 n_ao_a1).lt (Nat.le_of_eq g_10.symm)))).lt (Nat.le_of_eq g_87.symm))) (Nat.ne_of_lt (Nat.lt_of_lt_of_le ((((((((((((((((Vs.ext E_2).other W_5 n_asx_a1).ext E_10).other W_13 n_asx_a1).ext E_22).other W_25 (Nat.ne_of_lt (Nat.lt_of_lt_of_le Vs.lt (Nat.le_of_eq g_2.symm)))).other W_30 (Nat.ne_of_lt (Nat.lt_of_lt_of_le ((Vs.ext E_2).other W_5 n_asx_a1).lt (Nat.le_of_eq g_10.symm)))).ext E_39).other W_42 (Nat.ne_of_lt (Nat.lt_of_lt_of_le Vs.lt (Nat.le_of_eq g_2.symm)))).other W_47 (Nat.ne_of_lt (Nat.lt_of_lt_of_le ((Vs.ext E_2).other W_5 n_asx_a1).lt (Nat.le_of_eq g_10.symm)))).ext E_56).other W_59 (Nat.ne_of_lt (Nat.lt_of_lt_of_le Vs.lt (Nat.le_of_eq g_2.symm)))).other W_64 (Nat.ne_of_lt (Nat.lt_of_lt_of_le ((Vs.ext E_2).other W_5 n_asx_a1).lt (Nat.le_of_eq g_10.symm)))).ext E_73).other W_76 (Nat.ne_of_lt (Nat.lt_of_lt_of_le Vs.lt (Nat.le_of_eq g_2.symm)))).other W_81 (Nat.ne_of_lt (Nat.lt_of_lt_of_le ((Vs.ext E_2).other W_5 n_asx_a1).lt (Nat.le_of_eq g_10.symm)))).lt (Nat.le_of_eq g_87.symm))) (Nat.ne_of_lt (Nat.lt_of_lt_of_le ((((((((((((((((Vm.ext E_2).other W_5 n_am_a1).ext E_10).other W_13 n_am_a1).ext E_22).other W_25 (Nat.ne_of_lt (Nat.lt_of_lt_of_le Vm.lt (Nat.le_of_eq g_2.symm)))).other W_30 (Nat.ne_of_lt (Nat.lt_of_lt_of_le ((Vm.ext E_2).other W_5 n_am_a1).lt (Nat.le_of_eq g_10.symm)))).ext E_39).other W_42 (Nat.ne_of_lt (Nat.lt_of_lt_of_le Vm.lt (Nat.le_of_eq g_2.symm)))).other W_47 (Nat.ne_of_lt (Nat.lt_of_lt_of_le ((Vm.ext E_2).other W_5 n_am_a1).lt (Nat.le_of_eq g_10.symm)))).ext E_56).other W_59 (Nat.ne_of_lt (Nat.lt_of_lt_of_le Vm.lt (Nat.le_of_eq g_2.symm)))).other W_64 (Nat.ne_of_lt (Nat.lt_of_lt_of_le ((Vm.ext E_2).other W_5 n_am_a1).lt (Nat.le_of_eq g_10.symm)))).ext E_73).other W_76 (Nat.ne_of_lt (Nat.lt_of_lt_of_le Vm.lt (Nat.le_of_eq g_2.symm)))).other W_81 (Nat.ne_of_lt (Nat.lt_of_lt_of_le ((Vm.ext E_2).other W_5 n_am_a1).lt (Nat.le_of_eq g_10.symm)))).lt (Nat.le_of_eq g_87.symm))) (Nat.ne_of_lt (Nat.lt_of_lt_of_le (V_76.other W_81 (Nat.ne_of_lt (Nat.lt_of_lt_of_le (V_2.other W_5 (Ne.symm (Nat.ne_of_lt (Nat.lt_of_lt_of_le Fq.lt (Nat.le_of_eq g_2.symm))))).lt (Nat.le_of_eq g_10.symm)))).lt (Nat.le_of_eq g_87.symm))) (Nat.ne_of_lt (Nat.lt_of_lt_of_le V_81.lt (Nat.le_of_eq g_87.symm))) (Nat.ne_of_lt (Nat.lt_of_lt_of_le (((((((((((Ex_22.wr W_25).wr W_30).ext E_39).wr W_42).wr W_47).ext E_56).wr W_59).wr W_64).ext E_73).wr W_76).wr W_81).lt (Nat.le_of_eq g_87.symm))) (Nat.ne_of_lt (Nat.lt_of_lt_of_le ((((((((Ex_39.wr W_42).wr W_47).ext E_56).wr W_59).wr W_64).ext E_73).wr W_76).wr W_81).lt (Nat.le_of_eq g_87.symm))) (Nat.ne_of_lt (Nat.lt_of_lt_of_le (((((Ex_56.wr W_59).wr W_64).ext E_73).wr W_76).wr W_81).lt (Nat.le_of_eq g_87.symm))) (Nat.ne_of_lt (Nat.lt_of_lt_of_le ((Ex_73.wr W_76).wr W_81).lt (Nat.le_of_eq g_87.symm))) (Nat.ne_of_lt (Nat.lt_of_lt_of_le Fa_6.lt (Nat.le_of_eq g_10.symm))) (Nat.ne_of_lt (Nat.lt_of_lt_of_le ((Vw.ext E_2).other W_5 n_aw_a1).lt (Nat.le_of_eq g_10.symm))) (Nat.ne_of_lt (Nat.lt_of_lt_of_le ((Vo.ext E_2).other W_5 n_ao_a1).lt (Nat.le_of_eq g_10.symm))) (Nat.ne_of_lt (Nat.lt_of_lt_of_le ((Vs.ext E_2).other W_5 n_asx_a1).lt (Nat.le_of_eq g_10.symm))) (Nat.ne_of_lt (Nat.lt_of_lt_of_le ((Vm.ext E_2).other W_5 n_am_a1).lt (Nat.le_of_eq g_10.symm))) (Nat.ne_of_lt (Nat.lt_of_lt_of_le (V_2.other W_5 (Ne.symm (Nat.ne_of_lt (Nat.lt_of_lt_of_le Fq.lt (Nat.le_of_eq g_2.symm))))).lt (Nat.le_of_eq g_10.symm))) (Ne.symm (Nat.ne_of_lt (Nat.lt_of_lt_of_le (V_10.other W_13 (Ne.symm (Nat.ne_of_lt (Nat.lt_of_lt_of_le Fa_6.lt (Nat.le_of_eq g_10.symm))))).lt (Nat.le_of_eq g_22.symm)))) (Ne.symm (Nat.ne_of_lt (Nat.lt_of_lt_of_le V_30.lt (Nat.le_of_eq g_39.symm)))) (Ne.symm (Nat.ne_of_lt (Nat.lt_of_lt_of_le V_47.lt (Nat.le_of_eq g_56.symm)))) (Ne.symm (Nat.ne_of_lt (Nat.lt_of_lt_of_le V_64.lt (Nat.le_of_eq g_73.symm)))) (Nat.ne_of_lt (Nat.lt_of_lt_of_le (Fa_11.same W_13).lt (Nat.le_of_eq g_22.symm))) (Nat.ne_of_lt (Nat.lt_of_lt_of_le ((((Vw.ext E_2).other W_5 n_aw_a1).ext E_10).other W_13 n_aw_a1).lt (Nat.le_of_eq g_22.symm))) (Nat.ne_of_lt (Nat.lt_of_lt_of_le ((((Vo.ext E_2).other W_5 n_ao_a1).ext E_10).other W_13 n_ao_a1).lt (Nat.le_of_eq g_22.symm))) (Nat.ne_of_lt (Nat.lt_of_lt_of_le ((((Vs.ext E_2).other W_5 n_asx_a1).ext E_10).other W_13 n_asx_a1).lt (Nat.le_of_eq g_22.symm))) (Nat.ne_of_lt (Nat.lt_of_lt_of_le ((((Vm.ext E_2).other W_5 n_am_a1).ext E_10).other W_13 n_am_a1).lt (Nat.le_of_eq g_22.symm))) (Nat.ne_of_lt (Nat.lt_of_lt_of_le (((V_2.other W_5 (Ne.symm (Nat.ne_of_lt (Nat.lt_of_lt_of_le Fq.lt (Nat.le_of_eq g_2.symm))))).ext E_10).other W_13 (Ne.symm (Nat.ne_of_lt (Nat.lt_of_lt_of_le Fq.lt (Nat.le_of_eq g_2.symm))))).lt (Nat.le_of_eq g_22.symm))) (Ne.symm (Nat.ne_of_lt (Nat.lt_of_lt_of_le ((Ex_22.wr W_25).wr W_30).lt (Nat.le_of_eq g_39.symm)))) (Ne.symm (Nat.ne_of_lt (Nat.lt_of_lt_of_le (((((Ex_22.wr W_25).wr W_30).ext E_39).wr W_42).wr W_47).lt (Nat.le_of_eq g_56.symm)))) (Ne.symm (Nat.ne_of_lt (Nat.lt_of_lt_of_le ((((((((Ex_22.wr W_25).wr W_30).ext E_39).wr W_42).wr W_47).ext E_56).wr W_59).wr W_64).lt (Nat.le_of_eq g_73.symm)))) (Nat.ne_of_lt (Nat.lt_of_lt_of_le Fa_31.lt (Nat.le_of_eq g_39.symm))) (Nat.ne_of_lt (Nat.lt_of_lt_of_le (((((((Vw.ext E_2).other W_5 n_aw_a1).ext E_10).other W_13 n_aw_a1).ext E_22).other W_25 (Nat.ne_of_lt (Nat.lt_of_lt_of_le Vw.lt (Nat.le_of_eq g_2.symm)))).other W_30 (Nat.ne_of_lt (Nat.lt_of_lt_of_le ((Vw.ext E_2).other W_5 n_aw_a1).lt (Nat.le_of_eq g_10.symm)))).lt (Nat.le_of_eq g_39.symm))) (Nat.ne_of_lt (Nat.lt_of_lt_of_le (((((((Vo.ext E_2).other W_5 n_ao_a1).ext E_10).other W_13 n_ao_a1).ext E_22).other W_25 (Nat.ne_of_lt (Nat.lt_of_lt_of_le Vo.lt (Nat.le_of_eq g_2.symm)))).other W_30 (Nat.ne_of_lt (Nat.lt_of_lt_of_le ((Vo.ext E_2).other W_5 n_ao_a1).lt (Nat.le_of_eq g_10.symm)))).lt (Nat.le_of_eq g_39.symm))) (Nat.ne_of_lt (Nat.lt_of_lt_of_le (((((((Vs.ext E_2).other W_5 n_asx_a1).ext E_10).other W_13 n_asx_a1).ext E_22).other W_25 (Nat.ne_of_lt (Nat.lt_of_lt_of_le Vs.lt (Nat.le_of_eq g_2.symm)))).other W_30 (Nat.ne_of_lt (Nat.lt_of_lt_of_le ((Vs.ext E_2).other W_5 n_asx_a1).lt (Nat.le_of_eq g_10.symm)))).lt (Nat.le_of_eq g_39.symm))) (Nat.ne_of_lt (Nat.lt_of_lt_of_le (((((((Vm.ext E_2).other W_5 n_am_a1).ext E_10).other W_13 n_am_a1).ext E_22).other W_25 (Nat.ne_of_lt (Nat.lt_of_lt_of_le Vm.lt (Nat.le_of_eq g_2.symm)))).other W_30 (Nat.ne_of_lt (Nat.lt_of_lt_of_le ((Vm.ext E_2).other W_5 n_am_a1).lt (Nat.le_of_eq g_10.symm)))).lt (Nat.le_of_eq g_39.symm))) (Nat.ne_of_lt (Nat.lt_of_lt_of_le (V_25.other W_30 (Nat.ne_of_lt (Nat.lt_of_lt_of_le (V_2.other W_5 (Ne.symm (Nat.ne_of_lt (Nat.lt_of_lt_of_le Fq.lt (Nat.le_of_eq g_2.symm))))).lt (Nat.le_of_eq g_10.symm)))).lt (Nat.le_of_eq g_39.symm))) (Ne.symm (Nat.ne_of_lt (Nat.lt_of_lt_of_le ((Ex_39.wr W_42).wr W_47).lt (Nat.le_of_eq g_56.symm)))) (Ne.symm (Nat.ne_of_lt (Nat.lt_of_lt_of_le (((((Ex_39.wr W_42).wr W_47).ext E_56).wr W_59).wr W_64).lt (Nat.le_of_eq g_73.symm)))) (Nat.ne_of_lt (Nat.lt_of_lt_of_le Fa_48.lt (Nat.le_of_eq g_56.symm))) (Nat.ne_of_lt (Nat.lt_of_lt_of_le ((((((((((Vw.ext E_2).other W_5 n_aw_a1).ext E_10).other W_13 n_aw_a1).ext E_22).other W_25 (Nat.ne_of_lt (Nat.lt_of_lt_of_le Vw.lt (Nat.le_of_eq g_2.symm)))).other W_30 (Nat.ne_of_lt (Nat.lt_of_lt_of_le ((Vw.ext E_2).other W_5 n_aw_a1).lt (Nat.le_of_eq g_10.symm)))).ext E_39).other W_42 (Nat.ne_of_lt (Nat.lt_of_lt_of_le Vw.lt (Nat.le_of_eq g_2.symm)))).other W_47 (Nat.ne_of_lt (Nat.lt_of_lt_of_le ((Vw.ext E_2).other W_5 n_aw_a1).lt (Nat.le_of_eq g_10.symm)))).lt (Nat.le_of_eq g_56.symm))) (Nat.ne_of_lt (Nat.lt_of_lt_of_le ((((((((((Vo.ext E_2).other W_5 n_ao_a1).ext E_10).other W_13 n_ao_a1).ext E_22).other W_25 (Nat.ne_of_lt (Nat.lt_of_lt_of_le Vo.lt (Nat.le_of_eq g_2.symm)))).other W_30 (Nat.ne_of_lt (Nat.lt_of_lt_of_le ((Vo.ext E_2).other W_5 n_ao_a1).lt (Nat.le_of_eq g_10.symm)))).ext E_39).other W_42 (Nat.ne_of_lt (Nat.lt_of_lt_of_le Vo.lt (Nat.le_of_eq g_2.symm)))).other W_47 (Nat.ne_of_lt (Nat.lt_of_lt_of_le ((Vo.ext E_2).other W_5 n_ao_a1).lt (Nat.le_of_eq g_10.symm)))).lt (Nat.le_of_eq g_56.symm))) (Nat.ne_of_lt (Nat.lt_of_lt_of_le ((((((((((Vs.ext E_2).other W_5 n_asx_a1).ext E_10).other W_13 n_asx_a1).ext E_22).other W_25 (Nat.ne_of_lt (Nat.lt_of_lt_of_le Vs.lt (Nat.le_of_eq g_2.symm)))).other W_30 (Nat.ne_of_lt (Nat.lt_of_lt_of_le ((Vs.ext E_2).other W_5 n_asx_a1).lt (Nat.le_of_eq g_10.symm)))).ext E_39).other W_42 (Nat.ne_of_lt (Nat.lt_of_lt_of_le Vs.lt (Nat.le_of_eq g_2.symm)))).other W_47 (Nat.ne_of_lt (Nat.lt_of_lt_of_le ((Vs.ext E_2).other W_5 n_asx_a1).lt (Nat.le_of_eq g_10.symm)))).lt (Nat.le_of_eq g_56.symm))) (Nat.ne_of_lt (Nat.lt_of_lt_of_le ((((((((((Vm.ext E_2).other W_5 n_am_a1).ext E_10).other W_13 n_am_a1).ext E_22).other W_25 (Nat.ne_of_lt (Nat.lt_of_lt_of_le Vm.lt (Nat.le_of_eq g_2.symm)))).other W_30 (Nat.ne_of_lt (Nat.lt_of_lt_of_le ((Vm.ext E_2).other W_5 n_am_a1).lt (Nat.le_of_eq g_10.symm)))).ext E_39).other W_42 (Nat.ne_of_lt (Nat.lt_of_lt_of_le Vm.lt (Nat.le_of_eq g_2.symm)))).other W_47 (Nat.ne_of_lt (Nat.lt_of_lt_of_le ((Vm.ext E_2).other W_5 n_am_a1).lt (Nat.le_of_eq g_10.symm)))).lt (Nat.le_of_eq g_56.symm))) (Nat.ne_of_lt (Nat.lt_of_lt_of_le (V_42.other W_47 (Nat.ne_of_lt (Nat.lt_of_lt_of_le (V_2.other W_5 (Ne.symm (Nat.ne_of_lt (Nat.lt_of_lt_of_le Fq.lt (Nat.le_of_eq g_2.symm))))).lt (Nat.le_of_eq g_10.symm)))).lt (Nat.le_of_eq g_56.symm))) (Ne.symm (Nat.ne_of_lt (Nat.lt_of_lt_of_le ((Ex_56.wr W_59).wr W_64).lt (Nat.le_of_eq g_73.symm)))) (Nat.ne_of_lt (Nat.lt_of_lt_of_le Fa_65.lt (Nat.le_of_eq g_73.symm))) (Nat.ne_of_lt (Nat.lt_of_lt_of_le (((((((((((((Vw.ext E_2).other W_5 n_aw_a1).ext E_10).other W_13 n_aw_a1).ext E_22).other W_25 (Nat.ne_of_lt (Nat.lt_of_lt_of_le Vw.lt (Nat.le_of_eq g_2.symm)))).other W_30 (Nat.ne_of_lt (Nat.lt_of_lt_of_le ((Vw.ext E_2).other W_5 n_aw_a1).lt (Nat.le_of_eq g_10.symm)))).ext E_39).other W_42 (Nat.ne_of_lt (Nat.lt_of_lt_of_le Vw.lt (Nat.le_of_eq g_2.symm)))).other W_47 (Nat.ne_of_lt (Nat.lt_of_lt_of_le ((Vw.ext E_2).other W_5 n_aw_a1).lt (Nat.le_of_eq g_10.symm)))).ext E_56).other W_59 (Nat.ne_of_lt (Nat.lt_of_lt_of_le Vw.lt (Nat.le_of_eq g_2.symm)))).other W_64 (Nat.ne_of_lt (Nat.lt_of_lt_of_le ((Vw.ext E_2).other W_5 n_aw_a1).lt (Nat.le_of_eq g_10.symm)))).lt (Nat.le_of_eq g_73.symm))) (Nat.ne_of_lt (Nat.lt_of_lt_of_le (((((((((((((Vo.ext E_2).other W_5 n_ao_a1).ext E_10).other W_13 n_ao_a1).ext E_22).other W_25 (Nat.ne_of_lt (Nat.lt_of_lt_of_le Vo.lt (Nat.le_of_eq g_2.symm)))).other W_30 (Nat.ne_of_lt (Nat.lt_of_lt_of_le ((Vo.ext E_2).other W_5 n_ao_a1).lt (Nat.le_of_eq g_10.symm)))).ext E_39).other W_42 (Nat.ne_of_lt (Nat.lt_of_lt_of_le Vo.lt (Nat.le_of_eq g_2.symm)))).other W_47 (Nat.ne_of_lt (Nat.lt_of_lt_of_le ((Vo.ext E_2).other W_5 n_ao_a1).lt (Nat.le_of_eq g_10.symm)))).ext E_56).other W_59 (Nat.ne_of_lt (Nat.lt_of_lt_of_le Vo.lt (Nat.le_of_eq g_2.symm)))).other W_64 (Nat.ne_of_lt (Nat.lt_of_lt_of_le ((Vo.ext E_2).other W_5 n_ao_a1).lt (Nat.le_of_eq g_10.symm)))).lt (Nat.le_of_eq g_73.symm))) (Nat.ne_of_lt (Nat.lt_of_lt_of_le (((((((((((((Vs.ext E_2).other W_5 n_asx_a1).ext E_10).other W_13 n_asx_a1).ext E_22).other W_25 (Nat.ne_of_lt (Nat.lt_of_lt_of_le Vs.lt (Nat.le_of_eq g_2.symm)))).other W_30 (Nat.ne_of_lt (Nat.lt_of_lt_of_le ((Vs.ext E_2).other W_5 n_asx_a1).lt (Nat.le_of_eq g_10.symm)))).ext E_39).other W_42 (Nat.ne_of_lt (Nat.lt_of_lt_of_le Vs.lt (Nat.le_of_eq g_2.symm)))).other W_47 (Nat.ne_of_lt (Nat.lt_of_lt_of_le ((Vs.ext E_2).other W_5 n_asx_a1).lt (Nat.le_of_eq g_10.symm)))).ext E_56).other W_59 (Nat.ne_of_lt (Nat.lt_of_lt_of_le Vs.lt (Nat.le_of_eq g_2.symm)))).other W_64 (Nat.ne_of_lt (Nat.lt_of_lt_of_le ((Vs.ext E_2).other W_5 n_asx_a1).lt (Nat.le_of_eq g_10.symm)))).lt (Nat.le_of_eq g_73.symm))) (Nat.ne_of_lt (Nat.lt_of_lt_of_le (((((((((((((Vm.ext E_2).other W_5 n_am_a1).ext E_10).other W_13 n_am_a1).ext E_22).other W_25 (Nat.ne_of_lt (Nat.lt_of_lt_of_le Vm.lt (Nat.le_of_eq g_2.symm)))).other W_30 (Nat.ne_of_lt (Nat.lt_of_lt_of_le ((Vm.ext E_2).other W_5 n_am_a1).lt (Nat.le_of_eq g_10.symm)))).ext E_39).other W_42 (Nat.ne_of_lt (Nat.lt_of_lt_of_le Vm.lt (Nat.le_of_eq g_2.symm)))).other W_47 (Nat.ne_of_lt (Nat.lt_of_lt_of_le ((Vm.ext E_2).other W_5 n_am_a1).lt (Nat.le_of_eq g_10.symm)))).ext E_56).other W_59 (Nat.ne_of_lt (Nat.lt_of_lt_of_le Vm.lt (Nat.le_of_eq g_2.symm)))).other W_64 (Nat.ne_of_lt (Nat.lt_of_lt_of_le ((Vm.ext E_2).other W_5 n_am_a1).lt (Nat.le_of_eq g_10.symm)))).lt (Nat.le_of_eq g_73.symm))) (Nat.ne_of_lt (Nat.lt_of_lt_of_le (V_59.other W_64 (Nat.ne_of_lt (Nat.lt_of_lt_of_le (V_2.other W_5 (Ne.symm (Nat.ne_of_lt (Nat.lt_of_lt_of_le Fq.lt (Nat.le_of_eq g_2.symm))))).lt (Nat.le_of_eq g_10.symm)))).lt (Nat.le_of_eq g_73.symm))) (Ne.symm (Nat.ne_of_lt (Nat.lt_of_lt_of_le Fq.lt (Nat.le_of_eq g_2.symm)))) (by decide) (own_N0 hN1) hgo hgs hgm hnw hx0 hx1 hx2 hx3 (own_cl0 (by decide)) (own_cl0 (by decide)) (own_cl0 (by decide)) (own_cl0 (by decide)) (own_ff (own_N0 hN1))
set_option maxRecDepth 65536 in
set_option maxHeartbeats 40000000 in
theorem own_lay2_4 {p : Program} {l : Launch} {e : Env} {s : State} {m : MethodId} {below : List Frame} {meth : Method} {c : Code} {Z : State} {a0 : Array Value} {h0 : Heap} {n0 : Nat} (a1 : Addr) (aw : Addr) (ao : Addr) (asx : Addr) (am : Addr) (kw : ClassId) (ko : ClassId) (ks : ClassId) (km : ClassId) (N : Int32) (fo0 : Nat → Int32) (fs0 : Nat → Int32) (fm0 : Nat → Int64) (n_aw_a1 : aw ≠ a1) (n_ao_a1 : ao ≠ a1) (n_asx_a1 : asx ≠ a1) (n_am_a1 : am ≠ a1) (n_ao_aw : ao ≠ aw) (n_asx_aw : asx ≠ aw) (n_am_aw : am ≠ aw) (n_asx_ao : asx ≠ ao) (n_am_ao : am ≠ ao) (n_am_asx : am ≠ asx) (hN1 : ¬ N < (1 : Int32)) (hN2 : ¬ (256 : Int32) < N)
    (hx : p.tables.exec = Jvm.exec) (hZ : Z.Warmed39 s.vm) (hw : ∀ d ∈ tables_1, d.before a0 Z = true) (hby : c.code = prog_3_method_15_code) (hml : c.maxLocals = 6) (hown : s.vm.findClass "com/example/causyn/causyn/analysis/MarkingStore" = some m.cls) (hret : meth.sig.returnType = none) (hlk : meth.locks = false) :
    ∀ (fuel : Nat) (T : State) (locs : List Loc) (h : Heap) (i : Int32) (c_ : Int32) (ac : Addr) (kc : ClassId) (x0 : Int32) (x1 : Int32) (x2 : Int32) (x3 : Int32) (go : Nat → Int32) (gs : Nat → Int32) (gm : Nat → Int64) (X : Stand p l e ({ frames := 1, cells := 8, slots := 272, locals := 14 } : Room) s m #[(.ref a1)] below meth c T locs 1 4) (eT : T.heap = h) (NF : Fr n0 locs) (Zh : n0 ≤ h.size) (Kh : Keep h0 h [a1, ao, asx, am]) (E1 : Exa Z h a1 "com/example/causyn/causyn/analysis/MarkingStore") (g1 : n0 ≤ a1) (Fp : Fld Z h a1 "com/example/causyn/causyn/analysis/MarkingStore" "places" "I" (.int N)) (Fw : Fld Z h a1 "com/example/causyn/causyn/analysis/MarkingStore" "width" "[I" (.ref aw)) (Fo : Fld Z h a1 "com/example/causyn/causyn/analysis/MarkingStore" "word" "[I" (.ref ao)) (Fs : Fld Z h a1 "com/example/causyn/causyn/analysis/MarkingStore" "shift" "[I" (.ref asx)) (Fm : Fld Z h a1 "com/example/causyn/causyn/analysis/MarkingStore" "mask" "[J" (.ref am)) (Fn : Fld Z h a1 "com/example/causyn/causyn/analysis/MarkingStore" "words" "I" (.int (4 : Int32))) (Fq : Fld Z h a1 "com/example/causyn/causyn/analysis/MarkingStore" "placesInWord" "[[I" .null) (Fb : Fld Z h a1 "com/example/causyn/causyn/analysis/MarkingStore" "bitsOnly" "[Z" .null) (Fc : Fld Z h a1 "com/example/causyn/causyn/analysis/MarkingStore" "chunkBits" "I" (.int (0 : Int32))) (Vw : Arv Z h aw kw .int N (own_LI (fun _ => (1 : Int32)) N) (.int (0 : Int32))) (Vo : Arv Z h ao ko .int N (own_LI go N) (.int (0 : Int32))) (Vs : Arv Z h asx ks .int N (own_LI gs N) (.int (0 : Int32))) (Vm : Arv Z h am km .long N (own_LJ gm N) (.long (0 : Int64))) (go_ : n0 ≤ ao) (gs_ : n0 ≤ asx) (gm_ : n0 ≤ am) (Vc : Arv Z h ac kc .int (4 : Int32) [(.int x0), (.int x1), (.int x2), (.int x3)] (.int (0 : Int32))) (g_ac : n0 ≤ ac) (z_ac : h0.size ≤ ac) (n_a1_ac : a1 ≠ ac) (n_aw_ac : aw ≠ ac) (n_ao_ac : ao ≠ ac) (n_asx_ac : asx ≠ ac) (n_am_ac : am ≠ ac) (hi0 : ¬ i < 0) (hi1 : ¬ N < i) (hgo : ∀ j : Nat, (j : Int) < N.toInt → (go j).toInt = (j : Int) / 64) (hgs : ∀ j : Nat, (j : Int) < N.toInt → (gs j).toInt = (j : Int) % 64) (hgm : ∀ j : Nat, (j : Int) < N.toInt → gm j = (1 : Int64)) (hnw : own_nw N 4) (hx0 : x0.toInt = own_cl i.toInt 0) (hx1 : x1.toInt = own_cl i.toInt 1) (hx2 : x2.toInt = own_cl i.toInt 2) (hx3 : x3.toInt = own_cl i.toInt 3) (hfu : N.toInt - i.toInt < (fuel : Int)), own_Go p.tables e below (fun o U' => ∃ v L, o = .returned v ∧ Q_rmlay Z a0 a1 aw ao asx am kw ko ks km N fo0 fs0 fm0 h0 n0 v U'.heap L ∧ FrameEnd s o U' L ({ frames := 1, cells := 8, slots := 272, locals := 14 } : Room).cells ({ frames := 1, cells := 8, slots := 272, locals := 14 } : Room).slots) (T.setTop (mkF m 94 #[rv a1, iv 3, iv c_, rv ac, iv i, .unset] [])) := by
  intro fuel
  induction fuel with
  | zero => intro T locs h i c_ ac kc x0 x1 x2 x3 go gs gm X eT NF Zh Kh E1 g1 Fp Fw Fo Fs Fm Fn Fq Fb Fc Vw Vo Vs Vm go_ gs_ gm_ Vc g_ac z_ac n_a1_ac n_aw_ac n_ao_ac n_asx_ac n_am_ac hi0 hi1 hgo hgs hgm hnw hx0 hx1 hx2 hx3 hfu; exact (own_f0 hi1 hfu).elim
  | succ fuel ih =>
    intro T locs h i c_ ac kc x0 x1 x2 x3 go gs gm X eT NF Zh Kh E1 g1 Fp Fw Fo Fs Fm Fn Fq Fb Fc Vw Vo Vs Vm go_ gs_ gm_ Vc g_ac z_ac n_a1_ac n_aw_ac n_ao_ac n_asx_ac n_am_ac hi0 hi1 hgo hgs hgm hnw hx0 hx1 hx2 hx3 hfu
    refine o_iload X hx (hb hby d4_94) rfl ?_
    refine o_aloadN X hx (hb hby d4_96) rfl rfl ?_
    obtain ⟨T_1, X_1, e_1, st_1⟩ := getF X hx hZ hown (host := "") (Or.inl (hw _ (List.mem_of_getElem? (i := 17) rfl))) Via.refl eT Fp (g := (mkF m 97 #[rv a1, iv 3, iv c_, rv ac, iv i, .unset] [(.ref a1), (.int i)])) rfl rfl (hb hby d4_97)
    refine own_st st_1 ?_
    show own_Go _ _ _ _ (T_1.setTop (mkF m 100 #[rv a1, iv 3, iv c_, rv ac, iv i, .unset] [(.int N), (.int i)]))
    by_cases hc100__2 : i < N
    · refine o_icmpNo X_1 hx (hb hby d4_100) (tlt hc100__2).2.1 ?_
      refine o_aloadN X_1 hx (hb hby d4_103) rfl rfl ?_
      refine o_aloadN X_1 hx (hb hby d4_104) rfl rfl ?_
      obtain ⟨T_3, X_3, e_3, st_3⟩ := getF X_1 hx hZ hown (host := "") (Or.inl (hw _ (List.mem_of_getElem? (i := 21) rfl))) Via.refl e_1 Fo (g := (mkF m 105 #[rv a1, iv 3, iv c_, rv ac, iv i, .unset] [(.ref a1), (.ref ac)])) rfl rfl (hb hby d4_105)
      refine own_st st_3 ?_
      show own_Go _ _ _ _ (T_3.setTop (mkF m 108 #[rv a1, iv 3, iv c_, rv ac, iv i, .unset] [(.ref ao), (.ref ac)]))
      refine o_iload X_3 hx (hb hby d4_108) rfl ?_
      obtain ⟨cl_4, Ar_4, qk_4, Sz_4, Ng_4, Hs_4, Gs_4⟩ := id Vo
      refine own_st (X_3.iaload hx (j := i) (v := (.int (go i.toNatClampNeg))) (by rw [e_3]; exact Ar_4.1) (State.isArrayOf_alike hZ.alike Ar_4.2.1) Ar_4.2.2 (inb_of Sz_4 ⟨hi0, hc100__2⟩) (Hs_4.at (j := i) (inb_of Sz_4 ⟨hi0, hc100__2⟩) (own_LI_get hi0 hc100__2)) (g := (mkF m 110 #[rv a1, iv 3, iv c_, rv ac, iv i, .unset] [(.int i), (.ref ao), (.ref ac)])) rfl rfl (hb hby d4_110)) ?_
      show own_Go _ _ _ _ (T_3.setTop (mkF m 111 #[rv a1, iv 3, iv c_, rv ac, iv i, .unset] [(.int (go i.toNatClampNeg)), (.ref ac)]))
      have hgi_5 := hgo i.toNatClampNeg (own_jN hi0 hc100__2)
      rcases own_wk4 hi0 hc100__2 hnw hgi_5 with hk_5 | hk_5 | hk_5 | hk_5
      · rw [hk_5]
        show own_Go _ _ _ _ (T_3.setTop (mkF m 111 #[rv a1, iv 3, iv c_, rv ac, iv i, .unset] [(.int 0), (.ref ac)]))
        refine o_dup2 X_3 hx (hb hby d4_111) rfl rfl ?_
        obtain ⟨cl_6, Ar_6, qk_6, Sz_6, Ng_6, Hs_6, Gs_6⟩ := id Vc
        refine own_st (X_3.iaload hx (j := (0 : Int32)) (v := (.int x0)) (by rw [e_3]; exact Ar_6.1) (State.isArrayOf_alike hZ.alike Ar_6.2.1) Ar_6.2.2 (inb_of Sz_6 ⟨by decide, by decide⟩) (Hs_6.at (j := (0 : Int32)) (inb_of Sz_6 ⟨by decide, by decide⟩) rfl) (g := (mkF m 112 #[rv a1, iv 3, iv c_, rv ac, iv i, .unset] [(.int 0), (.ref ac), (.int 0), (.ref ac)])) rfl rfl (hb hby d4_112)) ?_
        show own_Go _ _ _ _ (T_3.setTop (mkF m 113 #[rv a1, iv 3, iv c_, rv ac, iv i, .unset] [(.int x0), (.int 0), (.ref ac)]))
        refine o_iconst X_3 hx 1 (hb hby d4_113) rfl ?_
        refine o_iadd X_3 hx (hb hby d4_114) ?_
        obtain ⟨cl_7, Ar_7, qk_7, Sz_7, Ng_7, Hs_7, Gs_7⟩ := id Vc
        obtain ⟨T_8, h_8, X_8, e_8, W_8, st_8⟩ := stI X_3 hx hZ e_3 Ar_7 (j := (0 : Int32)) (inb_of Sz_7 ⟨by decide, by decide⟩) (g := (mkF m 115 #[rv a1, iv 3, iv c_, rv ac, iv i, .unset] [(.int (x0 + (1 : Int32))), (.int 0), (.ref ac)])) rfl rfl (hb hby d4_115)
        refine own_st st_8 ?_
        have V_8 : Arv Z h_8 ac kc .int (4 : Int32) [(.int (x0 + (1 : Int32))), (.int x1), (.int x2), (.int x3)] (.int (0 : Int32)) := Arv.set Ar_7 qk_7 Sz_7 Ng_7 Hs_7 Gs_7 rfl W_8 0 rfl (Nat.le_of_ble_eq_true rfl)
        have N_8 := Fr.snoc X_8 NF g_ac
        show own_Go _ _ _ _ (T_8.setTop (mkF m 116 #[rv a1, iv 3, iv c_, rv ac, iv i, .unset] []))
        refine o_iinc X_8 hx (hb hby d4_116) rfl (l' := #[rv a1, iv 3, iv c_, rv ac, iv (i + (1 : Int32)), .unset]) rfl ?_
        refine o_goto X_8 hx (pc' := 94) (hb hby d4_119) (by decide) (by decide) ?_
        have Zs_9 : n0 ≤ h_8.size := (Nat.le_trans Zh (Keep.of_wr W_8).1)
        have Kp_10 : Keep h0 h_8 [a1, ao, asx, am] := (Kh.wr W_8 (Or.inr z_ac))
        have Fa_11 := (E1.wr W_8)
        have Fa_12 := (Fp.other W_8 (Or.inl n_a1_ac))
        have Fa_13 := (Fw.other W_8 (Or.inl n_a1_ac))
        have Fa_14 := (Fo.other W_8 (Or.inl n_a1_ac))
        have Fa_15 := (Fs.other W_8 (Or.inl n_a1_ac))
        have Fa_16 := (Fm.other W_8 (Or.inl n_a1_ac))
        have Fa_17 := (Fn.other W_8 (Or.inl n_a1_ac))
        have Fa_18 := (Fq.other W_8 (Or.inl n_a1_ac))
        have Fa_19 := (Fb.other W_8 (Or.inl n_a1_ac))
        have Fa_20 := (Fc.other W_8 (Or.inl n_a1_ac))
        have Fa_21 := (Vw.other W_8 n_aw_ac)
        have Fa_22 := (Vo.other W_8 n_ao_ac)
        have Fa_23 := (Vs.other W_8 n_asx_ac)
        have Fa_24 := (Vm.other W_8 n_am_ac)
        exact ih T_8 _ h_8 (i + (1 : Int32)) c_ ac kc (x0 + (1 : Int32)) x1 x2 x3 go gs gm X_8 e_8 N_8 Zs_9 Kp_10 Fa_11 g1 Fa_12 Fa_13 Fa_14 Fa_15 Fa_16 Fa_17 Fa_18 Fa_19 Fa_20 Fa_21 Fa_22 Fa_23 Fa_24 go_ gs_ gm_ V_8 g_ac z_ac n_a1_ac n_aw_ac n_ao_ac n_asx_ac n_am_ac (own_nx0 hi0 hc100__2) (own_nx1 hi0 hc100__2) hgo hgs hgm hnw (own_clS hi0 hc100__2 hgi_5 (congrArg Int32.toInt hk_5) hx0) (own_clO hi0 hc100__2 hgi_5 (congrArg Int32.toInt hk_5) (by decide) hx1) (own_clO hi0 hc100__2 hgi_5 (congrArg Int32.toInt hk_5) (by decide) hx2) (own_clO hi0 hc100__2 hgi_5 (congrArg Int32.toInt hk_5) (by decide) hx3) (own_fS hi0 hc100__2 hfu)
      · rw [hk_5]
        show own_Go _ _ _ _ (T_3.setTop (mkF m 111 #[rv a1, iv 3, iv c_, rv ac, iv i, .unset] [(.int 1), (.ref ac)]))
        refine o_dup2 X_3 hx (hb hby d4_111) rfl rfl ?_
        obtain ⟨cl_25, Ar_25, qk_25, Sz_25, Ng_25, Hs_25, Gs_25⟩ := id Vc
        refine own_st (X_3.iaload hx (j := (1 : Int32)) (v := (.int x1)) (by rw [e_3]; exact Ar_25.1) (State.isArrayOf_alike hZ.alike Ar_25.2.1) Ar_25.2.2 (inb_of Sz_25 ⟨by decide, by decide⟩) (Hs_25.at (j := (1 : Int32)) (inb_of Sz_25 ⟨by decide, by decide⟩) rfl) (g := (mkF m 112 #[rv a1, iv 3, iv c_, rv ac, iv i, .unset] [(.int 1), (.ref ac), (.int 1), (.ref ac)])) rfl rfl (hb hby d4_112)) ?_
        show own_Go _ _ _ _ (T_3.setTop (mkF m 113 #[rv a1, iv 3, iv c_, rv ac, iv i, .unset] [(.int x1), (.int 1), (.ref ac)]))
        refine o_iconst X_3 hx 1 (hb hby d4_113) rfl ?_
        refine o_iadd X_3 hx (hb hby d4_114) ?_
        obtain ⟨cl_26, Ar_26, qk_26, Sz_26, Ng_26, Hs_26, Gs_26⟩ := id Vc
        obtain ⟨T_27, h_27, X_27, e_27, W_27, st_27⟩ := stI X_3 hx hZ e_3 Ar_26 (j := (1 : Int32)) (inb_of Sz_26 ⟨by decide, by decide⟩) (g := (mkF m 115 #[rv a1, iv 3, iv c_, rv ac, iv i, .unset] [(.int (x1 + (1 : Int32))), (.int 1), (.ref ac)])) rfl rfl (hb hby d4_115)
        refine own_st st_27 ?_
        have V_27 : Arv Z h_27 ac kc .int (4 : Int32) [(.int x0), (.int (x1 + (1 : Int32))), (.int x2), (.int x3)] (.int (0 : Int32)) := Arv.set Ar_26 qk_26 Sz_26 Ng_26 Hs_26 Gs_26 rfl W_27 1 rfl (Nat.le_of_ble_eq_true rfl)
        have N_27 := Fr.snoc X_27 NF g_ac
        show own_Go _ _ _ _ (T_27.setTop (mkF m 116 #[rv a1, iv 3, iv c_, rv ac, iv i, .unset] []))
        refine o_iinc X_27 hx (hb hby d4_116) rfl (l' := #[rv a1, iv 3, iv c_, rv ac, iv (i + (1 : Int32)), .unset]) rfl ?_
        refine o_goto X_27 hx (pc' := 94) (hb hby d4_119) (by decide) (by decide) ?_
        have Zs_28 : n0 ≤ h_27.size := (Nat.le_trans Zh (Keep.of_wr W_27).1)
        have Kp_29 : Keep h0 h_27 [a1, ao, asx, am] := (Kh.wr W_27 (Or.inr z_ac))
        have Fa_30 := (E1.wr W_27)
        have Fa_31 := (Fp.other W_27 (Or.inl n_a1_ac))
        have Fa_32 := (Fw.other W_27 (Or.inl n_a1_ac))
        have Fa_33 := (Fo.other W_27 (Or.inl n_a1_ac))
        have Fa_34 := (Fs.other W_27 (Or.inl n_a1_ac))
        have Fa_35 := (Fm.other W_27 (Or.inl n_a1_ac))
        have Fa_36 := (Fn.other W_27 (Or.inl n_a1_ac))
        have Fa_37 := (Fq.other W_27 (Or.inl n_a1_ac))
        have Fa_38 := (Fb.other W_27 (Or.inl n_a1_ac))
        have Fa_39 := (Fc.other W_27 (Or.inl n_a1_ac))
        have Fa_40 := (Vw.other W_27 n_aw_ac)
        have Fa_41 := (Vo.other W_27 n_ao_ac)
        have Fa_42 := (Vs.other W_27 n_asx_ac)
        have Fa_43 := (Vm.other W_27 n_am_ac)
        exact ih T_27 _ h_27 (i + (1 : Int32)) c_ ac kc x0 (x1 + (1 : Int32)) x2 x3 go gs gm X_27 e_27 N_27 Zs_28 Kp_29 Fa_30 g1 Fa_31 Fa_32 Fa_33 Fa_34 Fa_35 Fa_36 Fa_37 Fa_38 Fa_39 Fa_40 Fa_41 Fa_42 Fa_43 go_ gs_ gm_ V_27 g_ac z_ac n_a1_ac n_aw_ac n_ao_ac n_asx_ac n_am_ac (own_nx0 hi0 hc100__2) (own_nx1 hi0 hc100__2) hgo hgs hgm hnw (own_clO hi0 hc100__2 hgi_5 (congrArg Int32.toInt hk_5) (by decide) hx0) (own_clS hi0 hc100__2 hgi_5 (congrArg Int32.toInt hk_5) hx1) (own_clO hi0 hc100__2 hgi_5 (congrArg Int32.toInt hk_5) (by decide) hx2) (own_clO hi0 hc100__2 hgi_5 (congrArg Int32.toInt hk_5) (by decide) hx3) (own_fS hi0 hc100__2 hfu)
      · rw [hk_5]
        show own_Go _ _ _ _ (T_3.setTop (mkF m 111 #[rv a1, iv 3, iv c_, rv ac, iv i, .unset] [(.int 2), (.ref ac)]))
        refine o_dup2 X_3 hx (hb hby d4_111) rfl rfl ?_
        obtain ⟨cl_44, Ar_44, qk_44, Sz_44, Ng_44, Hs_44, Gs_44⟩ := id Vc
        refine own_st (X_3.iaload hx (j := (2 : Int32)) (v := (.int x2)) (by rw [e_3]; exact Ar_44.1) (State.isArrayOf_alike hZ.alike Ar_44.2.1) Ar_44.2.2 (inb_of Sz_44 ⟨by decide, by decide⟩) (Hs_44.at (j := (2 : Int32)) (inb_of Sz_44 ⟨by decide, by decide⟩) rfl) (g := (mkF m 112 #[rv a1, iv 3, iv c_, rv ac, iv i, .unset] [(.int 2), (.ref ac), (.int 2), (.ref ac)])) rfl rfl (hb hby d4_112)) ?_
        show own_Go _ _ _ _ (T_3.setTop (mkF m 113 #[rv a1, iv 3, iv c_, rv ac, iv i, .unset] [(.int x2), (.int 2), (.ref ac)]))
        refine o_iconst X_3 hx 1 (hb hby d4_113) rfl ?_
        refine o_iadd X_3 hx (hb hby d4_114) ?_
        obtain ⟨cl_45, Ar_45, qk_45, Sz_45, Ng_45, Hs_45, Gs_45⟩ := id Vc
        obtain ⟨T_46, h_46, X_46, e_46, W_46, st_46⟩ := stI X_3 hx hZ e_3 Ar_45 (j := (2 : Int32)) (inb_of Sz_45 ⟨by decide, by decide⟩) (g := (mkF m 115 #[rv a1, iv 3, iv c_, rv ac, iv i, .unset] [(.int (x2 + (1 : Int32))), (.int 2), (.ref ac)])) rfl rfl (hb hby d4_115)
        refine own_st st_46 ?_
        have V_46 : Arv Z h_46 ac kc .int (4 : Int32) [(.int x0), (.int x1), (.int (x2 + (1 : Int32))), (.int x3)] (.int (0 : Int32)) := Arv.set Ar_45 qk_45 Sz_45 Ng_45 Hs_45 Gs_45 rfl W_46 2 rfl (Nat.le_of_ble_eq_true rfl)
        have N_46 := Fr.snoc X_46 NF g_ac
        show own_Go _ _ _ _ (T_46.setTop (mkF m 116 #[rv a1, iv 3, iv c_, rv ac, iv i, .unset] []))
        refine o_iinc X_46 hx (hb hby d4_116) rfl (l' := #[rv a1, iv 3, iv c_, rv ac, iv (i + (1 : Int32)), .unset]) rfl ?_
        refine o_goto X_46 hx (pc' := 94) (hb hby d4_119) (by decide) (by decide) ?_
        have Zs_47 : n0 ≤ h_46.size := (Nat.le_trans Zh (Keep.of_wr W_46).1)
        have Kp_48 : Keep h0 h_46 [a1, ao, asx, am] := (Kh.wr W_46 (Or.inr z_ac))
        have Fa_49 := (E1.wr W_46)
        have Fa_50 := (Fp.other W_46 (Or.inl n_a1_ac))
        have Fa_51 := (Fw.other W_46 (Or.inl n_a1_ac))
        have Fa_52 := (Fo.other W_46 (Or.inl n_a1_ac))
        have Fa_53 := (Fs.other W_46 (Or.inl n_a1_ac))
        have Fa_54 := (Fm.other W_46 (Or.inl n_a1_ac))
        have Fa_55 := (Fn.other W_46 (Or.inl n_a1_ac))
        have Fa_56 := (Fq.other W_46 (Or.inl n_a1_ac))
        have Fa_57 := (Fb.other W_46 (Or.inl n_a1_ac))
        have Fa_58 := (Fc.other W_46 (Or.inl n_a1_ac))
        have Fa_59 := (Vw.other W_46 n_aw_ac)
        have Fa_60 := (Vo.other W_46 n_ao_ac)
        have Fa_61 := (Vs.other W_46 n_asx_ac)
        have Fa_62 := (Vm.other W_46 n_am_ac)
        exact ih T_46 _ h_46 (i + (1 : Int32)) c_ ac kc x0 x1 (x2 + (1 : Int32)) x3 go gs gm X_46 e_46 N_46 Zs_47 Kp_48 Fa_49 g1 Fa_50 Fa_51 Fa_52 Fa_53 Fa_54 Fa_55 Fa_56 Fa_57 Fa_58 Fa_59 Fa_60 Fa_61 Fa_62 go_ gs_ gm_ V_46 g_ac z_ac n_a1_ac n_aw_ac n_ao_ac n_asx_ac n_am_ac (own_nx0 hi0 hc100__2) (own_nx1 hi0 hc100__2) hgo hgs hgm hnw (own_clO hi0 hc100__2 hgi_5 (congrArg Int32.toInt hk_5) (by decide) hx0) (own_clO hi0 hc100__2 hgi_5 (congrArg Int32.toInt hk_5) (by decide) hx1) (own_clS hi0 hc100__2 hgi_5 (congrArg Int32.toInt hk_5) hx2) (own_clO hi0 hc100__2 hgi_5 (congrArg Int32.toInt hk_5) (by decide) hx3) (own_fS hi0 hc100__2 hfu)
      · rw [hk_5]
        show own_Go _ _ _ _ (T_3.setTop (mkF m 111 #[rv a1, iv 3, iv c_, rv ac, iv i, .unset] [(.int 3), (.ref ac)]))
        refine o_dup2 X_3 hx (hb hby d4_111) rfl rfl ?_
        obtain ⟨cl_63, Ar_63, qk_63, Sz_63, Ng_63, Hs_63, Gs_63⟩ := id Vc
        refine own_st (X_3.iaload hx (j := (3 : Int32)) (v := (.int x3)) (by rw [e_3]; exact Ar_63.1) (State.isArrayOf_alike hZ.alike Ar_63.2.1) Ar_63.2.2 (inb_of Sz_63 ⟨by decide, by decide⟩) (Hs_63.at (j := (3 : Int32)) (inb_of Sz_63 ⟨by decide, by decide⟩) rfl) (g := (mkF m 112 #[rv a1, iv 3, iv c_, rv ac, iv i, .unset] [(.int 3), (.ref ac), (.int 3), (.ref ac)])) rfl rfl (hb hby d4_112)) ?_
        show own_Go _ _ _ _ (T_3.setTop (mkF m 113 #[rv a1, iv 3, iv c_, rv ac, iv i, .unset] [(.int x3), (.int 3), (.ref ac)]))
        refine o_iconst X_3 hx 1 (hb hby d4_113) rfl ?_
        refine o_iadd X_3 hx (hb hby d4_114) ?_
        obtain ⟨cl_64, Ar_64, qk_64, Sz_64, Ng_64, Hs_64, Gs_64⟩ := id Vc
        obtain ⟨T_65, h_65, X_65, e_65, W_65, st_65⟩ := stI X_3 hx hZ e_3 Ar_64 (j := (3 : Int32)) (inb_of Sz_64 ⟨by decide, by decide⟩) (g := (mkF m 115 #[rv a1, iv 3, iv c_, rv ac, iv i, .unset] [(.int (x3 + (1 : Int32))), (.int 3), (.ref ac)])) rfl rfl (hb hby d4_115)
        refine own_st st_65 ?_
        have V_65 : Arv Z h_65 ac kc .int (4 : Int32) [(.int x0), (.int x1), (.int x2), (.int (x3 + (1 : Int32)))] (.int (0 : Int32)) := Arv.set Ar_64 qk_64 Sz_64 Ng_64 Hs_64 Gs_64 rfl W_65 3 rfl (Nat.le_of_ble_eq_true rfl)
        have N_65 := Fr.snoc X_65 NF g_ac
        show own_Go _ _ _ _ (T_65.setTop (mkF m 116 #[rv a1, iv 3, iv c_, rv ac, iv i, .unset] []))
        refine o_iinc X_65 hx (hb hby d4_116) rfl (l' := #[rv a1, iv 3, iv c_, rv ac, iv (i + (1 : Int32)), .unset]) rfl ?_
        refine o_goto X_65 hx (pc' := 94) (hb hby d4_119) (by decide) (by decide) ?_
        have Zs_66 : n0 ≤ h_65.size := (Nat.le_trans Zh (Keep.of_wr W_65).1)
        have Kp_67 : Keep h0 h_65 [a1, ao, asx, am] := (Kh.wr W_65 (Or.inr z_ac))
        have Fa_68 := (E1.wr W_65)
        have Fa_69 := (Fp.other W_65 (Or.inl n_a1_ac))
        have Fa_70 := (Fw.other W_65 (Or.inl n_a1_ac))
        have Fa_71 := (Fo.other W_65 (Or.inl n_a1_ac))
        have Fa_72 := (Fs.other W_65 (Or.inl n_a1_ac))
        have Fa_73 := (Fm.other W_65 (Or.inl n_a1_ac))
        have Fa_74 := (Fn.other W_65 (Or.inl n_a1_ac))
        have Fa_75 := (Fq.other W_65 (Or.inl n_a1_ac))
        have Fa_76 := (Fb.other W_65 (Or.inl n_a1_ac))
        have Fa_77 := (Fc.other W_65 (Or.inl n_a1_ac))
        have Fa_78 := (Vw.other W_65 n_aw_ac)
        have Fa_79 := (Vo.other W_65 n_ao_ac)
        have Fa_80 := (Vs.other W_65 n_asx_ac)
        have Fa_81 := (Vm.other W_65 n_am_ac)
        exact ih T_65 _ h_65 (i + (1 : Int32)) c_ ac kc x0 x1 x2 (x3 + (1 : Int32)) go gs gm X_65 e_65 N_65 Zs_66 Kp_67 Fa_68 g1 Fa_69 Fa_70 Fa_71 Fa_72 Fa_73 Fa_74 Fa_75 Fa_76 Fa_77 Fa_78 Fa_79 Fa_80 Fa_81 go_ gs_ gm_ V_65 g_ac z_ac n_a1_ac n_aw_ac n_ao_ac n_asx_ac n_am_ac (own_nx0 hi0 hc100__2) (own_nx1 hi0 hc100__2) hgo hgs hgm hnw (own_clO hi0 hc100__2 hgi_5 (congrArg Int32.toInt hk_5) (by decide) hx0) (own_clO hi0 hc100__2 hgi_5 (congrArg Int32.toInt hk_5) (by decide) hx1) (own_clO hi0 hc100__2 hgi_5 (congrArg Int32.toInt hk_5) (by decide) hx2) (own_clS hi0 hc100__2 hgi_5 (congrArg Int32.toInt hk_5) hx3) (own_fS hi0 hc100__2 hfu)
    · refine o_icmpYes X_1 hx (pc' := 122) (hb hby d4_100) (flt hc100__2).2.1 (by decide) (by decide) ?_
      exact own_lay122_4 a1 aw ao asx am kw ko ks km N fo0 fs0 fm0 n_aw_a1 n_ao_a1 n_asx_a1 n_am_a1 n_ao_aw n_asx_aw n_am_aw n_asx_ao n_am_ao n_am_asx hN1 hN2 hx hZ hw hby hml hown hret hlk T_1 _ h i c_ ac kc x0 x1 x2 x3 go gs gm X_1 e_1 NF Zh Kh E1 g1 Fp Fw Fo Fs Fm Fn Fq Fb Fc Vw Vo Vs Vm go_ gs_ gm_ Vc n_a1_ac n_aw_ac n_ao_ac n_asx_ac n_am_ac hgo hgs hgm hnw (own_clN hi1 hc100__2 hx0) (own_clN hi1 hc100__2 hx1) (own_clN hi1 hc100__2 hx2) (own_clN hi1 hc100__2 hx3)
set_option maxRecDepth 65536 in
set_option maxHeartbeats 40000000 in
theorem own_lay77_4 {p : Program} {l : Launch} {e : Env} {s : State} {m : MethodId} {below : List Frame} {meth : Method} {c : Code} {Z : State} {a0 : Array Value} {h0 : Heap} {n0 : Nat} (a1 : Addr) (aw : Addr) (ao : Addr) (asx : Addr) (am : Addr) (kw : ClassId) (ko : ClassId) (ks : ClassId) (km : ClassId) (N : Int32) (fo0 : Nat → Int32) (fs0 : Nat → Int32) (fm0 : Nat → Int64) (n_aw_a1 : aw ≠ a1) (n_ao_a1 : ao ≠ a1) (n_asx_a1 : asx ≠ a1) (n_am_a1 : am ≠ a1) (n_ao_aw : ao ≠ aw) (n_asx_aw : asx ≠ aw) (n_am_aw : am ≠ aw) (n_asx_ao : asx ≠ ao) (n_am_ao : am ≠ ao) (n_am_asx : am ≠ asx) (hN1 : ¬ N < (1 : Int32)) (hN2 : ¬ (256 : Int32) < N)
    (hx : p.tables.exec = Jvm.exec) (hZ : Z.Warmed39 s.vm) (hw : ∀ d ∈ tables_1, d.before a0 Z = true) (hby : c.code = prog_3_method_15_code) (hml : c.maxLocals = 6) (hown : s.vm.findClass "com/example/causyn/causyn/analysis/MarkingStore" = some m.cls) (hret : meth.sig.returnType = none) (hlk : meth.locks = false) :
    ∀ (T : State) (locs : List Loc) (h : Heap) (i : Int32) (c_ : Int32) (go : Nat → Int32) (gs : Nat → Int32) (gm : Nat → Int64) (X : Stand p l e ({ frames := 1, cells := 8, slots := 272, locals := 14 } : Room) s m #[(.ref a1)] below meth c T locs 0 0) (eT : T.heap = h) (NF : Fr n0 locs) (Zh : n0 ≤ h.size) (Kh : Keep h0 h [a1, ao, asx, am]) (E1 : Exa Z h a1 "com/example/causyn/causyn/analysis/MarkingStore") (g1 : n0 ≤ a1) (Fp : Fld Z h a1 "com/example/causyn/causyn/analysis/MarkingStore" "places" "I" (.int N)) (Fw : Fld Z h a1 "com/example/causyn/causyn/analysis/MarkingStore" "width" "[I" (.ref aw)) (Fo : Fld Z h a1 "com/example/causyn/causyn/analysis/MarkingStore" "word" "[I" (.ref ao)) (Fs : Fld Z h a1 "com/example/causyn/causyn/analysis/MarkingStore" "shift" "[I" (.ref asx)) (Fm : Fld Z h a1 "com/example/causyn/causyn/analysis/MarkingStore" "mask" "[J" (.ref am)) (Fn : Fld Z h a1 "com/example/causyn/causyn/analysis/MarkingStore" "words" "I" (.int (0 : Int32))) (Fq : Fld Z h a1 "com/example/causyn/causyn/analysis/MarkingStore" "placesInWord" "[[I" .null) (Fb : Fld Z h a1 "com/example/causyn/causyn/analysis/MarkingStore" "bitsOnly" "[Z" .null) (Fc : Fld Z h a1 "com/example/causyn/causyn/analysis/MarkingStore" "chunkBits" "I" (.int (0 : Int32))) (Vw : Arv Z h aw kw .int N (own_LI (fun _ => (1 : Int32)) N) (.int (0 : Int32))) (Vo : Arv Z h ao ko .int N (own_LI go N) (.int (0 : Int32))) (Vs : Arv Z h asx ks .int N (own_LI gs N) (.int (0 : Int32))) (Vm : Arv Z h am km .long N (own_LJ gm N) (.long (0 : Int64))) (go_ : n0 ≤ ao) (gs_ : n0 ≤ asx) (gm_ : n0 ≤ am) (hgo : ∀ j : Nat, (j : Int) < N.toInt → (go j).toInt = (j : Int) / 64) (hgs : ∀ j : Nat, (j : Int) < N.toInt → (gs j).toInt = (j : Int) % 64) (hgm : ∀ j : Nat, (j : Int) < N.toInt → gm j = (1 : Int64)) (hnw : own_nw N 4), own_Go p.tables e below (fun o U' => ∃ v L, o = .returned v ∧ Q_rmlay Z a0 a1 aw ao asx am kw ko ks km N fo0 fs0 fm0 h0 n0 v U'.heap L ∧ FrameEnd s o U' L ({ frames := 1, cells := 8, slots := 272, locals := 14 } : Room).cells ({ frames := 1, cells := 8, slots := 272, locals := 14 } : Room).slots) (T.setTop (mkF m 77 #[rv a1, iv 3, iv c_, iv i, .unset, .unset] [])) := by
  intro T locs h i c_ go gs gm X eT NF Zh Kh E1 g1 Fp Fw Fo Fs Fm Fn Fq Fb Fc Vw Vo Vs Vm go_ gs_ gm_ hgo hgs hgm hnw
  refine o_aloadN X hx (hb hby d4_77) rfl rfl ?_
  refine o_iloadN X hx (hb hby d4_78) rfl ?_
  refine o_iconst X hx 1 (hb hby d4_79) rfl ?_
  refine o_iadd X hx (hb hby d4_80) ?_
  show own_Go _ _ _ _ (T.setTop (mkF m 81 #[rv a1, iv 3, iv c_, iv i, .unset, .unset] [(.int 4), (.ref a1)]))
  obtain ⟨T_1, h_1, X_1, e_1, W_1, st_1⟩ := putF X hx hZ hown (host := "") (Or.inl (hw _ (List.mem_of_getElem? (i := 36) rfl))) Via.refl eT Fn E1 (Or.inl (hw _ (List.mem_of_getElem? (i := 37) rfl))) (hw _ (List.mem_of_getElem? (i := 2) rfl)) (ty := .int) (by decide) rfl rfl (g := (mkF m 81 #[rv a1, iv 3, iv c_, iv i, .unset, .unset] [(.int 4), (.ref a1)])) rfl rfl (hb hby d4_81)
  refine own_st st_1 ?_
  have N_1 := Fr.snoc X_1 NF g1
  show own_Go _ _ _ _ (T_1.setTop (mkF m 84 #[rv a1, iv 3, iv c_, iv i, .unset, .unset] []))
  refine o_aloadN X_1 hx (hb hby d4_84) rfl rfl ?_
  have Fa_2 := (Fn.same W_1)
  obtain ⟨T_3, X_3, e_3, st_3⟩ := getF X_1 hx hZ hown (host := "") (Or.inl (hw _ (List.mem_of_getElem? (i := 36) rfl))) Via.refl e_1 Fa_2 (g := (mkF m 85 #[rv a1, iv 3, iv c_, iv i, .unset, .unset] [(.ref a1)])) rfl rfl (hb hby d4_85)
  refine own_st st_3 ?_
  show own_Go _ _ _ _ (T_3.setTop (mkF m 88 #[rv a1, iv 3, iv c_, iv i, .unset, .unset] [(.int 4)]))
  have Zs_4 : n0 ≤ h_1.size := (Nat.le_trans Zh (Keep.of_wr W_1).1)
  have Kp_5 : Keep h0 h_1 [a1, ao, asx, am] := (Kh.wr W_1 (Or.inl (List.mem_of_getElem? (i := 0) rfl)))
  obtain ⟨T_6, h_6, k_6, X_6, e_6, E_6, A_6, st_6⟩ := newP X_3 hx hZ (hw _ (List.mem_of_getElem? (i := 14) rfl)) e_3 (g := (mkF m 88 #[rv a1, iv 3, iv c_, iv i, .unset, .unset] [(.int 4)])) rfl (hb hby d4_88) rfl (by decide) (cap := 4) (by decide) (by decide) (by decide) (by decide)
  obtain ⟨b_6, g_6⟩ : ∃ z, z = h_1.size := ⟨_, rfl⟩
  rw [← g_6] at A_6 st_6
  have V_6 : Arv Z h_6 b_6 k_6 .int (4 : Int32) [(.int (0 : Int32)), (.int (0 : Int32)), (.int (0 : Int32)), (.int (0 : Int32))] (.int (0 : Int32)) := (Arv.new A_6 (by decide)).pad (pad_rep [] (.int (0 : Int32)) 4)
  have gg_6 : n0 ≤ b_6 := Nat.le_trans Zs_4 (Nat.le_of_eq g_6.symm)
  have sz_6 : h0.size ≤ b_6 := Nat.le_trans Kp_5.1 (Nat.le_of_eq g_6.symm)
  refine own_st st_6 ?_
  show own_Go _ _ _ _ (T_6.setTop (mkF m 90 #[rv a1, iv 3, iv c_, iv i, .unset, .unset] [(.ref b_6)]))
  refine o_astoreN X_6 hx (hb hby d4_90) rfl (l' := #[rv a1, iv 3, iv c_, rv b_6, .unset, .unset]) rfl ?_
  refine o_iconst X_6 hx 0 (hb hby d4_91) rfl ?_
  refine o_istore X_6 hx (hb hby d4_92) (l' := #[rv a1, iv 3, iv c_, rv b_6, iv 0, .unset]) rfl ?_
  have Zs_7 : n0 ≤ h_6.size := (Nat.le_trans Zs_4 E_6.1)
  have Kp_8 : Keep h0 h_6 [a1, ao, asx, am] := (Kp_5.ext E_6)
  have Fa_9 := ((E1.wr W_1).ext E_6)
  have Fa_10 := ((Fp.other W_1 (Or.inr (slot_ne (Or.inr (hw _ (List.mem_of_getElem? (i := 18) rfl))) (Or.inl (hw _ (List.mem_of_getElem? (i := 37) rfl))) (by decide) (t := .int) (t' := .int) (by decide) (by decide)))).ext E_6)
  have Fa_11 := ((Fw.other W_1 (Or.inr (slot_ne (Or.inr (hw _ (List.mem_of_getElem? (i := 20) rfl))) (Or.inl (hw _ (List.mem_of_getElem? (i := 37) rfl))) (by decide) (t := (.array .int)) (t' := .int) (by decide) (by decide)))).ext E_6)
  have Fa_12 := ((Fo.other W_1 (Or.inr (slot_ne (Or.inr (hw _ (List.mem_of_getElem? (i := 22) rfl))) (Or.inl (hw _ (List.mem_of_getElem? (i := 37) rfl))) (by decide) (t := (.array .int)) (t' := .int) (by decide) (by decide)))).ext E_6)
  have Fa_13 := ((Fs.other W_1 (Or.inr (slot_ne (Or.inr (hw _ (List.mem_of_getElem? (i := 24) rfl))) (Or.inl (hw _ (List.mem_of_getElem? (i := 37) rfl))) (by decide) (t := (.array .int)) (t' := .int) (by decide) (by decide)))).ext E_6)
  have Fa_14 := ((Fm.other W_1 (Or.inr (slot_ne (Or.inr (hw _ (List.mem_of_getElem? (i := 27) rfl))) (Or.inl (hw _ (List.mem_of_getElem? (i := 37) rfl))) (by decide) (t := (.array .long)) (t' := .int) (by decide) (by decide)))).ext E_6)
  have Fa_15 := (Fa_2.ext E_6)
  have Fa_16 := ((Fq.other W_1 (Or.inr (slot_ne (Or.inl (hw _ (List.mem_of_getElem? (i := 41) rfl))) (Or.inl (hw _ (List.mem_of_getElem? (i := 37) rfl))) (by decide) (t := (.array (.array .int))) (t' := .int) (by decide) (by decide)))).ext E_6)
  have Fa_17 := ((Fb.other W_1 (Or.inr (slot_ne (Or.inl (hw _ (List.mem_of_getElem? (i := 44) rfl))) (Or.inl (hw _ (List.mem_of_getElem? (i := 37) rfl))) (by decide) (t := (.array .boolean)) (t' := .int) (by decide) (by decide)))).ext E_6)
  have Fa_18 := ((Fc.other W_1 (Or.inr (slot_ne (Or.inl (hw _ (List.mem_of_getElem? (i := 55) rfl))) (Or.inl (hw _ (List.mem_of_getElem? (i := 37) rfl))) (by decide) (t := .int) (t' := .int) (by decide) (by decide)))).ext E_6)
  have Fa_19 := ((Vw.other W_1 n_aw_a1).ext E_6)
  have Fa_20 := ((Vo.other W_1 n_ao_a1).ext E_6)
  have Fa_21 := ((Vs.other W_1 n_asx_a1).ext E_6)
  have Fa_22 := ((Vm.other W_1 n_am_a1).ext E_6)
  exact own_lay2_4 a1 aw ao asx am kw ko ks km N fo0 fs0 fm0 n_aw_a1 n_ao_a1 n_asx_a1 n_am_a1 n_ao_aw n_asx_aw n_am_aw n_asx_ao n_am_ao n_am_asx hN1 hN2 hx hZ hw hby hml hown hret hlk (N.toNatClampNeg + 1) T_6 _ h_6 (0 : Int32) c_ b_6 k_6 (0 : Int32) (0 : Int32) (0 : Int32) (0 : Int32) go gs gm X_6 e_6 N_1 Zs_7 Kp_8 Fa_9 g1 Fa_10 Fa_11 Fa_12 Fa_13 Fa_14 Fa_15 Fa_16 Fa_17 Fa_18 Fa_19 Fa_20 Fa_21 Fa_22 go_ gs_ gm_ V_6 gg_6 sz_6 (Nat.ne_of_lt (Nat.lt_of_lt_of_le (Fn.same W_1).lt (Nat.le_of_eq g_6.symm))) (Nat.ne_of_lt (Nat.lt_of_lt_of_le (Vw.other W_1 n_aw_a1).lt (Nat.le_of_eq g_6.symm))) (Nat.ne_of_lt (Nat.lt_of_lt_of_le (Vo.other W_1 n_ao_a1).lt (Nat.le_of_eq g_6.symm))) (Nat.ne_of_lt (Nat.lt_of_lt_of_le (Vs.other W_1 n_asx_a1).lt (Nat.le_of_eq g_6.symm))) (Nat.ne_of_lt (Nat.lt_of_lt_of_le (Vm.other W_1 n_am_a1).lt (Nat.le_of_eq g_6.symm))) (by decide) (own_N0 hN1) hgo hgs hgm hnw (own_cl0 (by decide)) (own_cl0 (by decide)) (own_cl0 (by decide)) (own_cl0 (by decide)) (own_ff (own_N0 hN1))
theorem d4_6 : decode prog_3_method_15_code 6 = .ok (.iload_n 3, 1) := by decide +kernel
theorem d4_7 : decode prog_3_method_15_code 7 = .ok (.aload_n 0, 1) := by decide +kernel
theorem d4_8 : decode prog_3_method_15_code 8 = .ok (.getfield 19, 3) := by decide +kernel
theorem d4_11 : decode prog_3_method_15_code 11 = .ok (.if_icmp .ge 66, 3) := by decide +kernel
theorem d4_14 : decode prog_3_method_15_code 14 = .ok (.iload_n 2, 1) := by decide +kernel
theorem d4_15 : decode prog_3_method_15_code 15 = .ok (.aload_n 0, 1) := by decide +kernel
theorem d4_16 : decode prog_3_method_15_code 16 = .ok (.getfield 23, 3) := by decide +kernel
theorem d4_19 : decode prog_3_method_15_code 19 = .ok (.iload_n 3, 1) := by decide +kernel
theorem d4_20 : decode prog_3_method_15_code 20 = .ok (.iaload, 1) := by decide +kernel
theorem d4_21 : decode prog_3_method_15_code 21 = .ok (.iadd, 1) := by decide +kernel
theorem d4_22 : decode prog_3_method_15_code 22 = .ok (.bipush 64, 2) := by decide +kernel
theorem d4_24 : decode prog_3_method_15_code 24 = .ok (.if_icmp .le 8, 3) := by decide +kernel
theorem d4_27 : decode prog_3_method_15_code 27 = .ok (.iinc 1 1, 3) := by decide +kernel
theorem d4_30 : decode prog_3_method_15_code 30 = .ok (.iconst 0, 1) := by decide +kernel
theorem d4_31 : decode prog_3_method_15_code 31 = .ok (.istore_n 2, 1) := by decide +kernel
theorem d4_32 : decode prog_3_method_15_code 32 = .ok (.aload_n 0, 1) := by decide +kernel
theorem d4_33 : decode prog_3_method_15_code 33 = .ok (.getfield 26, 3) := by decide +kernel
theorem d4_36 : decode prog_3_method_15_code 36 = .ok (.iload_n 3, 1) := by decide +kernel
theorem d4_37 : decode prog_3_method_15_code 37 = .ok (.iload_n 1, 1) := by decide +kernel
theorem d4_38 : decode prog_3_method_15_code 38 = .ok (.iastore, 1) := by decide +kernel
theorem d4_39 : decode prog_3_method_15_code 39 = .ok (.aload_n 0, 1) := by decide +kernel
theorem d4_40 : decode prog_3_method_15_code 40 = .ok (.getfield 29, 3) := by decide +kernel
theorem d4_43 : decode prog_3_method_15_code 43 = .ok (.iload_n 3, 1) := by decide +kernel
theorem d4_44 : decode prog_3_method_15_code 44 = .ok (.iload_n 2, 1) := by decide +kernel
theorem d4_45 : decode prog_3_method_15_code 45 = .ok (.iastore, 1) := by decide +kernel
theorem d4_46 : decode prog_3_method_15_code 46 = .ok (.aload_n 0, 1) := by decide +kernel
theorem d4_47 : decode prog_3_method_15_code 47 = .ok (.getfield 32, 3) := by decide +kernel
theorem d4_50 : decode prog_3_method_15_code 50 = .ok (.iload_n 3, 1) := by decide +kernel
theorem d4_51 : decode prog_3_method_15_code 51 = .ok (.lconst 1, 1) := by decide +kernel
theorem d4_52 : decode prog_3_method_15_code 52 = .ok (.aload_n 0, 1) := by decide +kernel
theorem d4_53 : decode prog_3_method_15_code 53 = .ok (.getfield 23, 3) := by decide +kernel
theorem d4_56 : decode prog_3_method_15_code 56 = .ok (.iload_n 3, 1) := by decide +kernel
theorem d4_57 : decode prog_3_method_15_code 57 = .ok (.iaload, 1) := by decide +kernel
theorem d4_58 : decode prog_3_method_15_code 58 = .ok (.lshl, 1) := by decide +kernel
theorem d4_59 : decode prog_3_method_15_code 59 = .ok (.lconst 1, 1) := by decide +kernel
theorem d4_60 : decode prog_3_method_15_code 60 = .ok (.lsub, 1) := by decide +kernel
theorem d4_61 : decode prog_3_method_15_code 61 = .ok (.lastore, 1) := by decide +kernel
theorem d4_62 : decode prog_3_method_15_code 62 = .ok (.iload_n 2, 1) := by decide +kernel
theorem d4_63 : decode prog_3_method_15_code 63 = .ok (.aload_n 0, 1) := by decide +kernel
theorem d4_64 : decode prog_3_method_15_code 64 = .ok (.getfield 23, 3) := by decide +kernel
theorem d4_67 : decode prog_3_method_15_code 67 = .ok (.iload_n 3, 1) := by decide +kernel
theorem d4_68 : decode prog_3_method_15_code 68 = .ok (.iaload, 1) := by decide +kernel
theorem d4_69 : decode prog_3_method_15_code 69 = .ok (.iadd, 1) := by decide +kernel
theorem d4_70 : decode prog_3_method_15_code 70 = .ok (.istore_n 2, 1) := by decide +kernel
theorem d4_71 : decode prog_3_method_15_code 71 = .ok (.iinc 3 1, 3) := by decide +kernel
theorem d4_74 : decode prog_3_method_15_code 74 = .ok (.goto (-68), 3) := by decide +kernel
set_option maxRecDepth 65536 in
set_option maxHeartbeats 40000000 in
theorem own_lay1 {p : Program} {l : Launch} {e : Env} {s : State} {m : MethodId} {below : List Frame} {meth : Method} {c : Code} {Z : State} {a0 : Array Value} {h0 : Heap} {n0 : Nat} (a1 : Addr) (aw : Addr) (ao : Addr) (asx : Addr) (am : Addr) (kw : ClassId) (ko : ClassId) (ks : ClassId) (km : ClassId) (N : Int32) (fo0 : Nat → Int32) (fs0 : Nat → Int32) (fm0 : Nat → Int64) (n_aw_a1 : aw ≠ a1) (n_ao_a1 : ao ≠ a1) (n_asx_a1 : asx ≠ a1) (n_am_a1 : am ≠ a1) (n_ao_aw : ao ≠ aw) (n_asx_aw : asx ≠ aw) (n_am_aw : am ≠ aw) (n_asx_ao : asx ≠ ao) (n_am_ao : am ≠ ao) (n_am_asx : am ≠ asx) (hN1 : ¬ N < (1 : Int32)) (hN2 : ¬ (256 : Int32) < N)
    (hx : p.tables.exec = Jvm.exec) (hZ : Z.Warmed39 s.vm) (hw : ∀ d ∈ tables_1, d.before a0 Z = true) (hby : c.code = prog_3_method_15_code) (hml : c.maxLocals = 6) (hown : s.vm.findClass "com/example/causyn/causyn/analysis/MarkingStore" = some m.cls) (hret : meth.sig.returnType = none) (hlk : meth.locks = false) :
    ∀ (fuel : Nat) (T : State) (locs : List Loc) (h : Heap) (i : Int32) (b_ : Int32) (c_ : Int32) (go : Nat → Int32) (gs : Nat → Int32) (gm : Nat → Int64) (X : Stand p l e ({ frames := 1, cells := 8, slots := 272, locals := 14 } : Room) s m #[(.ref a1)] below meth c T locs 0 0) (eT : T.heap = h) (NF : Fr n0 locs) (Zh : n0 ≤ h.size) (Kh : Keep h0 h [a1, ao, asx, am]) (E1 : Exa Z h a1 "com/example/causyn/causyn/analysis/MarkingStore") (g1 : n0 ≤ a1) (Fp : Fld Z h a1 "com/example/causyn/causyn/analysis/MarkingStore" "places" "I" (.int N)) (Fw : Fld Z h a1 "com/example/causyn/causyn/analysis/MarkingStore" "width" "[I" (.ref aw)) (Fo : Fld Z h a1 "com/example/causyn/causyn/analysis/MarkingStore" "word" "[I" (.ref ao)) (Fs : Fld Z h a1 "com/example/causyn/causyn/analysis/MarkingStore" "shift" "[I" (.ref asx)) (Fm : Fld Z h a1 "com/example/causyn/causyn/analysis/MarkingStore" "mask" "[J" (.ref am)) (Fn : Fld Z h a1 "com/example/causyn/causyn/analysis/MarkingStore" "words" "I" (.int (0 : Int32))) (Fq : Fld Z h a1 "com/example/causyn/causyn/analysis/MarkingStore" "placesInWord" "[[I" .null) (Fb : Fld Z h a1 "com/example/causyn/causyn/analysis/MarkingStore" "bitsOnly" "[Z" .null) (Fc : Fld Z h a1 "com/example/causyn/causyn/analysis/MarkingStore" "chunkBits" "I" (.int (0 : Int32))) (Vw : Arv Z h aw kw .int N (own_LI (fun _ => (1 : Int32)) N) (.int (0 : Int32))) (Vo : Arv Z h ao ko .int N (own_LI go N) (.int (0 : Int32))) (Vs : Arv Z h asx ks .int N (own_LI gs N) (.int (0 : Int32))) (Vm : Arv Z h am km .long N (own_LJ gm N) (.long (0 : Int64))) (go_ : n0 ≤ ao) (gs_ : n0 ≤ asx) (gm_ : n0 ≤ am) (hi0 : ¬ i < 0) (hi1 : ¬ N < i) (hinv : own_inv b_ c_ i) (hgo : ∀ j : Nat, (j : Int) < i.toInt → (go j).toInt = (j : Int) / 64) (hgs : ∀ j : Nat, (j : Int) < i.toInt → (gs j).toInt = (j : Int) % 64) (hgm : ∀ j : Nat, (j : Int) < i.toInt → gm j = (1 : Int64)) (hfu : N.toInt - i.toInt < (fuel : Int)), own_Go p.tables e below (fun o U' => ∃ v L, o = .returned v ∧ Q_rmlay Z a0 a1 aw ao asx am kw ko ks km N fo0 fs0 fm0 h0 n0 v U'.heap L ∧ FrameEnd s o U' L ({ frames := 1, cells := 8, slots := 272, locals := 14 } : Room).cells ({ frames := 1, cells := 8, slots := 272, locals := 14 } : Room).slots) (T.setTop (mkF m 6 #[rv a1, iv b_, iv c_, iv i, .unset, .unset] [])) := by
  intro fuel
  induction fuel with
  | zero => intro T locs h i b_ c_ go gs gm X eT NF Zh Kh E1 g1 Fp Fw Fo Fs Fm Fn Fq Fb Fc Vw Vo Vs Vm go_ gs_ gm_ hi0 hi1 hinv hgo hgs hgm hfu; exact (own_f0 hi1 hfu).elim
  | succ fuel ih =>
    intro T locs h i b_ c_ go gs gm X eT NF Zh Kh E1 g1 Fp Fw Fo Fs Fm Fn Fq Fb Fc Vw Vo Vs Vm go_ gs_ gm_ hi0 hi1 hinv hgo hgs hgm hfu
    refine o_iloadN X hx (hb hby d4_6) rfl ?_
    refine o_aloadN X hx (hb hby d4_7) rfl rfl ?_
    obtain ⟨T_1, X_1, e_1, st_1⟩ := getF X hx hZ hown (host := "") (Or.inl (hw _ (List.mem_of_getElem? (i := 17) rfl))) Via.refl eT Fp (g := (mkF m 8 #[rv a1, iv b_, iv c_, iv i, .unset, .unset] [(.ref a1), (.int i)])) rfl rfl (hb hby d4_8)
    refine own_st st_1 ?_
    show own_Go _ _ _ _ (T_1.setTop (mkF m 11 #[rv a1, iv b_, iv c_, iv i, .unset, .unset] [(.int N), (.int i)]))
    by_cases hc11__2 : i < N
    · refine o_icmpNo X_1 hx (hb hby d4_11) (tlt hc11__2).2.1 ?_
      refine o_iloadN X_1 hx (hb hby d4_14) rfl ?_
      refine o_aloadN X_1 hx (hb hby d4_15) rfl rfl ?_
      obtain ⟨T_3, X_3, e_3, st_3⟩ := getF X_1 hx hZ hown (host := "") (Or.inl (hw _ (List.mem_of_getElem? (i := 19) rfl))) Via.refl e_1 Fw (g := (mkF m 16 #[rv a1, iv b_, iv c_, iv i, .unset, .unset] [(.ref a1), (.int c_)])) rfl rfl (hb hby d4_16)
      refine own_st st_3 ?_
      show own_Go _ _ _ _ (T_3.setTop (mkF m 19 #[rv a1, iv b_, iv c_, iv i, .unset, .unset] [(.ref aw), (.int c_)]))
      refine o_iloadN X_3 hx (hb hby d4_19) rfl ?_
      obtain ⟨cl_4, Ar_4, qk_4, Sz_4, Ng_4, Hs_4, Gs_4⟩ := id Vw
      refine own_st (X_3.iaload hx (j := i) (v := (.int (1 : Int32))) (by rw [e_3]; exact Ar_4.1) (State.isArrayOf_alike hZ.alike Ar_4.2.1) Ar_4.2.2 (inb_of Sz_4 ⟨hi0, hc11__2⟩) (Hs_4.at (j := i) (inb_of Sz_4 ⟨hi0, hc11__2⟩) ((own_LI_get hi0 hc11__2).trans rfl)) (g := (mkF m 20 #[rv a1, iv b_, iv c_, iv i, .unset, .unset] [(.int i), (.ref aw), (.int c_)])) rfl rfl (hb hby d4_20)) ?_
      show own_Go _ _ _ _ (T_3.setTop (mkF m 21 #[rv a1, iv b_, iv c_, iv i, .unset, .unset] [(.int 1), (.int c_)]))
      refine o_iadd X_3 hx (hb hby d4_21) ?_
      refine o_bipush X_3 hx 64 (hb hby d4_22) rfl ?_
      by_cases hc24__5 : (64 : Int32) < (c_ + (1 : Int32))
      · refine o_icmpNo X_3 hx (hb hby d4_24) (tlt hc24__5).2.2.2 ?_
        refine o_iinc X_3 hx (hb hby d4_27) rfl (l' := #[rv a1, iv (b_ + (1 : Int32)), iv c_, iv i, .unset, .unset]) rfl ?_
        refine o_iconst X_3 hx 0 (hb hby d4_30) rfl ?_
        refine o_istoreN X_3 hx (hb hby d4_31) (l' := #[rv a1, iv (b_ + (1 : Int32)), iv 0, iv i, .unset, .unset]) rfl ?_
        refine o_aloadN X_3 hx (hb hby d4_32) rfl rfl ?_
        obtain ⟨T_6, X_6, e_6, st_6⟩ := getF X_3 hx hZ hown (host := "") (Or.inl (hw _ (List.mem_of_getElem? (i := 21) rfl))) Via.refl e_3 Fo (g := (mkF m 33 #[rv a1, iv (b_ + (1 : Int32)), iv 0, iv i, .unset, .unset] [(.ref a1)])) rfl rfl (hb hby d4_33)
        refine own_st st_6 ?_
        show own_Go _ _ _ _ (T_6.setTop (mkF m 36 #[rv a1, iv (b_ + (1 : Int32)), iv 0, iv i, .unset, .unset] [(.ref ao)]))
        refine o_iloadN X_6 hx (hb hby d4_36) rfl ?_
        refine o_iloadN X_6 hx (hb hby d4_37) rfl ?_
        obtain ⟨cl_7, Ar_7, qk_7, Sz_7, Ng_7, Hs_7, Gs_7⟩ := id Vo
        obtain ⟨T_8, h_8, X_8, e_8, W_8, st_8⟩ := stI X_6 hx hZ e_6 Ar_7 (j := i) (inb_of Sz_7 ⟨hi0, hc11__2⟩) (g := (mkF m 38 #[rv a1, iv (b_ + (1 : Int32)), iv 0, iv i, .unset, .unset] [(.int (b_ + (1 : Int32))), (.int i), (.ref ao)])) rfl rfl (hb hby d4_38)
        refine own_st st_8 ?_
        have V_8 : Arv Z h_8 ao ko .int N (own_LI (own_up go i.toNatClampNeg (b_ + (1 : Int32))) N) (.int (0 : Int32)) := by have q := Arv.set Ar_7 qk_7 Sz_7 Ng_7 Hs_7 Gs_7 rfl W_8 i.toNatClampNeg rfl (own_LI_lt hi0 hc11__2); rw [own_LI_set] at q; exact q
        have N_8 := Fr.snoc X_8 NF go_
        show own_Go _ _ _ _ (T_8.setTop (mkF m 39 #[rv a1, iv (b_ + (1 : Int32)), iv 0, iv i, .unset, .unset] []))
        refine o_aloadN X_8 hx (hb hby d4_39) rfl rfl ?_
        have Fa_9 := (Fs.other W_8 (Or.inl (Ne.symm n_ao_a1)))
        obtain ⟨T_10, X_10, e_10, st_10⟩ := getF X_8 hx hZ hown (host := "") (Or.inl (hw _ (List.mem_of_getElem? (i := 23) rfl))) Via.refl e_8 Fa_9 (g := (mkF m 40 #[rv a1, iv (b_ + (1 : Int32)), iv 0, iv i, .unset, .unset] [(.ref a1)])) rfl rfl (hb hby d4_40)
        refine own_st st_10 ?_
        show own_Go _ _ _ _ (T_10.setTop (mkF m 43 #[rv a1, iv (b_ + (1 : Int32)), iv 0, iv i, .unset, .unset] [(.ref asx)]))
        refine o_iloadN X_10 hx (hb hby d4_43) rfl ?_
        refine o_iloadN X_10 hx (hb hby d4_44) rfl ?_
        have Fa_11 := (Vs.other W_8 n_asx_ao)
        obtain ⟨cl_12, Ar_12, qk_12, Sz_12, Ng_12, Hs_12, Gs_12⟩ := id Fa_11
        obtain ⟨T_13, h_13, X_13, e_13, W_13, st_13⟩ := stI X_10 hx hZ e_10 Ar_12 (j := i) (inb_of Sz_12 ⟨hi0, hc11__2⟩) (g := (mkF m 45 #[rv a1, iv (b_ + (1 : Int32)), iv 0, iv i, .unset, .unset] [(.int 0), (.int i), (.ref asx)])) rfl rfl (hb hby d4_45)
        refine own_st st_13 ?_
        have V_13 : Arv Z h_13 asx ks .int N (own_LI (own_up gs i.toNatClampNeg (0 : Int32)) N) (.int (0 : Int32)) := by have q := Arv.set Ar_12 qk_12 Sz_12 Ng_12 Hs_12 Gs_12 rfl W_13 i.toNatClampNeg rfl (own_LI_lt hi0 hc11__2); rw [own_LI_set] at q; exact q
        have N_13 := Fr.snoc X_13 N_8 gs_
        show own_Go _ _ _ _ (T_13.setTop (mkF m 46 #[rv a1, iv (b_ + (1 : Int32)), iv 0, iv i, .unset, .unset] []))
        refine o_aloadN X_13 hx (hb hby d4_46) rfl rfl ?_
        have Fa_14 := ((Fm.other W_8 (Or.inl (Ne.symm n_ao_a1))).other W_13 (Or.inl (Ne.symm n_asx_a1)))
        obtain ⟨T_15, X_15, e_15, st_15⟩ := getF X_13 hx hZ hown (host := "") (Or.inl (hw _ (List.mem_of_getElem? (i := 26) rfl))) Via.refl e_13 Fa_14 (g := (mkF m 47 #[rv a1, iv (b_ + (1 : Int32)), iv 0, iv i, .unset, .unset] [(.ref a1)])) rfl rfl (hb hby d4_47)
        refine own_st st_15 ?_
        show own_Go _ _ _ _ (T_15.setTop (mkF m 50 #[rv a1, iv (b_ + (1 : Int32)), iv 0, iv i, .unset, .unset] [(.ref am)]))
        refine o_iloadN X_15 hx (hb hby d4_50) rfl ?_
        refine o_lconst X_15 hx 1 (hb hby d4_51) rfl ?_
        refine o_aloadN X_15 hx (hb hby d4_52) rfl rfl ?_
        have Fa_16 := ((Fw.other W_8 (Or.inl (Ne.symm n_ao_a1))).other W_13 (Or.inl (Ne.symm n_asx_a1)))
        obtain ⟨T_17, X_17, e_17, st_17⟩ := getF X_15 hx hZ hown (host := "") (Or.inl (hw _ (List.mem_of_getElem? (i := 19) rfl))) Via.refl e_15 Fa_16 (g := (mkF m 53 #[rv a1, iv (b_ + (1 : Int32)), iv 0, iv i, .unset, .unset] [(.ref a1), (.long 1), (.int i), (.ref am)])) rfl rfl (hb hby d4_53)
        refine own_st st_17 ?_
        show own_Go _ _ _ _ (T_17.setTop (mkF m 56 #[rv a1, iv (b_ + (1 : Int32)), iv 0, iv i, .unset, .unset] [(.ref aw), (.long 1), (.int i), (.ref am)]))
        refine o_iloadN X_17 hx (hb hby d4_56) rfl ?_
        have Fa_18 := ((Vw.other W_8 (Ne.symm n_ao_aw)).other W_13 (Ne.symm n_asx_aw))
        obtain ⟨cl_19, Ar_19, qk_19, Sz_19, Ng_19, Hs_19, Gs_19⟩ := id Fa_18
        refine own_st (X_17.iaload hx (j := i) (v := (.int (1 : Int32))) (by rw [e_17]; exact Ar_19.1) (State.isArrayOf_alike hZ.alike Ar_19.2.1) Ar_19.2.2 (inb_of Sz_19 ⟨hi0, hc11__2⟩) (Hs_19.at (j := i) (inb_of Sz_19 ⟨hi0, hc11__2⟩) ((own_LI_get hi0 hc11__2).trans rfl)) (g := (mkF m 57 #[rv a1, iv (b_ + (1 : Int32)), iv 0, iv i, .unset, .unset] [(.int i), (.ref aw), (.long 1), (.int i), (.ref am)])) rfl rfl (hb hby d4_57)) ?_
        show own_Go _ _ _ _ (T_17.setTop (mkF m 58 #[rv a1, iv (b_ + (1 : Int32)), iv 0, iv i, .unset, .unset] [(.int 1), (.long 1), (.int i), (.ref am)]))
        refine o_lshl X_17 hx (hb hby d4_58) ?_
        refine o_lconst X_17 hx 1 (hb hby d4_59) rfl ?_
        refine o_lsub X_17 hx (hb hby d4_60) ?_
        have Fa_20 := ((Vm.other W_8 n_am_ao).other W_13 n_am_asx)
        obtain ⟨cl_21, Ar_21, qk_21, Sz_21, Ng_21, Hs_21, Gs_21⟩ := id Fa_20
        obtain ⟨T_22, h_22, X_22, e_22, W_22, st_22⟩ := stJ X_17 hx hZ e_17 Ar_21 (j := i) (inb_of Sz_21 ⟨hi0, hc11__2⟩) (g := (mkF m 61 #[rv a1, iv (b_ + (1 : Int32)), iv 0, iv i, .unset, .unset] [(.long (((1 : Int64) <<< ((1 : Int32) &&& 0x3f).toInt64) - (1 : Int64))), (.int i), (.ref am)])) rfl rfl (hb hby d4_61)
        refine own_st st_22 ?_
        have V_22 : Arv Z h_22 am km .long N (own_LJ (own_up gm i.toNatClampNeg (((1 : Int64) <<< ((1 : Int32) &&& 0x3f).toInt64) - (1 : Int64))) N) (.long (0 : Int64)) := by have q := Arv.set Ar_21 qk_21 Sz_21 Ng_21 Hs_21 Gs_21 rfl W_22 i.toNatClampNeg rfl (own_LJ_lt hi0 hc11__2); rw [own_LJ_set] at q; exact q
        have N_22 := Fr.snoc X_22 N_13 gm_
        show own_Go _ _ _ _ (T_22.setTop (mkF m 62 #[rv a1, iv (b_ + (1 : Int32)), iv 0, iv i, .unset, .unset] []))
        refine o_iloadN X_22 hx (hb hby d4_62) rfl ?_
        refine o_aloadN X_22 hx (hb hby d4_63) rfl rfl ?_
        have Fa_23 := (Fa_16.other W_22 (Or.inl (Ne.symm n_am_a1)))
        obtain ⟨T_24, X_24, e_24, st_24⟩ := getF X_22 hx hZ hown (host := "") (Or.inl (hw _ (List.mem_of_getElem? (i := 19) rfl))) Via.refl e_22 Fa_23 (g := (mkF m 64 #[rv a1, iv (b_ + (1 : Int32)), iv 0, iv i, .unset, .unset] [(.ref a1), (.int 0)])) rfl rfl (hb hby d4_64)
        refine own_st st_24 ?_
        show own_Go _ _ _ _ (T_24.setTop (mkF m 67 #[rv a1, iv (b_ + (1 : Int32)), iv 0, iv i, .unset, .unset] [(.ref aw), (.int 0)]))
        refine o_iloadN X_24 hx (hb hby d4_67) rfl ?_
        have Fa_25 := (Fa_18.other W_22 (Ne.symm n_am_aw))
        obtain ⟨cl_26, Ar_26, qk_26, Sz_26, Ng_26, Hs_26, Gs_26⟩ := id Fa_25
        refine own_st (X_24.iaload hx (j := i) (v := (.int (1 : Int32))) (by rw [e_24]; exact Ar_26.1) (State.isArrayOf_alike hZ.alike Ar_26.2.1) Ar_26.2.2 (inb_of Sz_26 ⟨hi0, hc11__2⟩) (Hs_26.at (j := i) (inb_of Sz_26 ⟨hi0, hc11__2⟩) ((own_LI_get hi0 hc11__2).trans rfl)) (g := (mkF m 68 #[rv a1, iv (b_ + (1 : Int32)), iv 0, iv i, .unset, .unset] [(.int i), (.ref aw), (.int 0)])) rfl rfl (hb hby d4_68)) ?_
        show own_Go _ _ _ _ (T_24.setTop (mkF m 69 #[rv a1, iv (b_ + (1 : Int32)), iv 0, iv i, .unset, .unset] [(.int 1), (.int 0)]))
        refine o_iadd X_24 hx (hb hby d4_69) ?_
        show own_Go _ _ _ _ (T_24.setTop (mkF m 70 #[rv a1, iv (b_ + (1 : Int32)), iv 0, iv i, .unset, .unset] [(.int 1)]))
        refine o_istoreN X_24 hx (hb hby d4_70) (l' := #[rv a1, iv (b_ + (1 : Int32)), iv 1, iv i, .unset, .unset]) rfl ?_
        refine o_iinc X_24 hx (hb hby d4_71) rfl (l' := #[rv a1, iv (b_ + (1 : Int32)), iv 1, iv (i + (1 : Int32)), .unset, .unset]) rfl ?_
        refine o_goto X_24 hx (pc' := 6) (hb hby d4_74) (by decide) (by decide) ?_
        have Zs_27 : n0 ≤ h_22.size := (Nat.le_trans (Nat.le_trans (Nat.le_trans Zh (Keep.of_wr W_8).1) (Keep.of_wr W_13).1) (Keep.of_wr W_22).1)
        have Kp_28 : Keep h0 h_22 [a1, ao, asx, am] := (((Kh.wr W_8 (Or.inl (List.mem_of_getElem? (i := 1) rfl))).wr W_13 (Or.inl (List.mem_of_getElem? (i := 2) rfl))).wr W_22 (Or.inl (List.mem_of_getElem? (i := 3) rfl)))
        have Fa_29 := (((E1.wr W_8).wr W_13).wr W_22)
        have Fa_30 := (((Fp.other W_8 (Or.inl (Ne.symm n_ao_a1))).other W_13 (Or.inl (Ne.symm n_asx_a1))).other W_22 (Or.inl (Ne.symm n_am_a1)))
        have Fa_31 := (((Fo.other W_8 (Or.inl (Ne.symm n_ao_a1))).other W_13 (Or.inl (Ne.symm n_asx_a1))).other W_22 (Or.inl (Ne.symm n_am_a1)))
        have Fa_32 := ((Fa_9.other W_13 (Or.inl (Ne.symm n_asx_a1))).other W_22 (Or.inl (Ne.symm n_am_a1)))
        have Fa_33 := (Fa_14.other W_22 (Or.inl (Ne.symm n_am_a1)))
        have Fa_34 := (((Fn.other W_8 (Or.inl (Ne.symm n_ao_a1))).other W_13 (Or.inl (Ne.symm n_asx_a1))).other W_22 (Or.inl (Ne.symm n_am_a1)))
        have Fa_35 := (((Fq.other W_8 (Or.inl (Ne.symm n_ao_a1))).other W_13 (Or.inl (Ne.symm n_asx_a1))).other W_22 (Or.inl (Ne.symm n_am_a1)))
        have Fa_36 := (((Fb.other W_8 (Or.inl (Ne.symm n_ao_a1))).other W_13 (Or.inl (Ne.symm n_asx_a1))).other W_22 (Or.inl (Ne.symm n_am_a1)))
        have Fa_37 := (((Fc.other W_8 (Or.inl (Ne.symm n_ao_a1))).other W_13 (Or.inl (Ne.symm n_asx_a1))).other W_22 (Or.inl (Ne.symm n_am_a1)))
        have Fa_38 := ((V_8.other W_13 (Ne.symm n_asx_ao)).other W_22 (Ne.symm n_am_ao))
        have Fa_39 := (V_13.other W_22 (Ne.symm n_am_asx))
        exact ih T_24 _ h_22 (i + (1 : Int32)) (b_ + (1 : Int32)) (1 : Int32) (own_up go i.toNatClampNeg (b_ + (1 : Int32))) (own_up gs i.toNatClampNeg (0 : Int32)) (own_up gm i.toNatClampNeg (((1 : Int64) <<< ((1 : Int32) &&& 0x3f).toInt64) - (1 : Int64))) X_24 e_24 N_22 Zs_27 Kp_28 Fa_29 g1 Fa_30 Fa_23 Fa_31 Fa_32 Fa_33 Fa_34 Fa_35 Fa_36 Fa_37 Fa_25 Fa_38 Fa_39 V_22 go_ gs_ gm_ (own_nx0 hi0 hc11__2) (own_nx1 hi0 hc11__2) (own_invY hi0 hc11__2 hN2 hinv hc24__5).1 (own_step (P := fun j (z : Int32) => z.toInt = (j : Int) / 64) hi0 hc11__2 hgo (own_invY hi0 hc11__2 hN2 hinv hc24__5).2.1) (own_step (P := fun j (z : Int32) => z.toInt = (j : Int) % 64) hi0 hc11__2 hgs (own_invY hi0 hc11__2 hN2 hinv hc24__5).2.2) (own_step (P := fun _ z => z = (1 : Int64)) hi0 hc11__2 hgm (by decide)) (own_fS hi0 hc11__2 hfu)
      · refine o_icmpYes X_3 hx (pc' := 32) (hb hby d4_24) (flt hc24__5).2.2.2 (by decide) (by decide) ?_
        refine o_aloadN X_3 hx (hb hby d4_32) rfl rfl ?_
        obtain ⟨T_40, X_40, e_40, st_40⟩ := getF X_3 hx hZ hown (host := "") (Or.inl (hw _ (List.mem_of_getElem? (i := 21) rfl))) Via.refl e_3 Fo (g := (mkF m 33 #[rv a1, iv b_, iv c_, iv i, .unset, .unset] [(.ref a1)])) rfl rfl (hb hby d4_33)
        refine own_st st_40 ?_
        show own_Go _ _ _ _ (T_40.setTop (mkF m 36 #[rv a1, iv b_, iv c_, iv i, .unset, .unset] [(.ref ao)]))
        refine o_iloadN X_40 hx (hb hby d4_36) rfl ?_
        refine o_iloadN X_40 hx (hb hby d4_37) rfl ?_
        obtain ⟨cl_41, Ar_41, qk_41, Sz_41, Ng_41, Hs_41, Gs_41⟩ := id Vo
        obtain ⟨T_42, h_42, X_42, e_42, W_42, st_42⟩ := stI X_40 hx hZ e_40 Ar_41 (j := i) (inb_of Sz_41 ⟨hi0, hc11__2⟩) (g := (mkF m 38 #[rv a1, iv b_, iv c_, iv i, .unset, .unset] [(.int b_), (.int i), (.ref ao)])) rfl rfl (hb hby d4_38)
        refine own_st st_42 ?_
        have V_42 : Arv Z h_42 ao ko .int N (own_LI (own_up go i.toNatClampNeg b_) N) (.int (0 : Int32)) := by have q := Arv.set Ar_41 qk_41 Sz_41 Ng_41 Hs_41 Gs_41 rfl W_42 i.toNatClampNeg rfl (own_LI_lt hi0 hc11__2); rw [own_LI_set] at q; exact q
        have N_42 := Fr.snoc X_42 NF go_
        show own_Go _ _ _ _ (T_42.setTop (mkF m 39 #[rv a1, iv b_, iv c_, iv i, .unset, .unset] []))
        refine o_aloadN X_42 hx (hb hby d4_39) rfl rfl ?_
        have Fa_43 := (Fs.other W_42 (Or.inl (Ne.symm n_ao_a1)))
        obtain ⟨T_44, X_44, e_44, st_44⟩ := getF X_42 hx hZ hown (host := "") (Or.inl (hw _ (List.mem_of_getElem? (i := 23) rfl))) Via.refl e_42 Fa_43 (g := (mkF m 40 #[rv a1, iv b_, iv c_, iv i, .unset, .unset] [(.ref a1)])) rfl rfl (hb hby d4_40)
        refine own_st st_44 ?_
        show own_Go _ _ _ _ (T_44.setTop (mkF m 43 #[rv a1, iv b_, iv c_, iv i, .unset, .unset] [(.ref asx)]))
        refine o_iloadN X_44 hx (hb hby d4_43) rfl ?_
        refine o_iloadN X_44 hx (hb hby d4_44) rfl ?_
        have Fa_45 := (Vs.other W_42 n_asx_ao)
        obtain ⟨cl_46, Ar_46, qk_46, Sz_46, Ng_46, Hs_46, Gs_46⟩ := id Fa_45
        obtain ⟨T_47, h_47, X_47, e_47, W_47, st_47⟩ := stI X_44 hx hZ e_44 Ar_46 (j := i) (inb_of Sz_46 ⟨hi0, hc11__2⟩) (g := (mkF m 45 #[rv a1, iv b_, iv c_, iv i, .unset, .unset] [(.int c_), (.int i), (.ref asx)])) rfl rfl (hb hby d4_45)
        refine own_st st_47 ?_
        have V_47 : Arv Z h_47 asx ks .int N (own_LI (own_up gs i.toNatClampNeg c_) N) (.int (0 : Int32)) := by have q := Arv.set Ar_46 qk_46 Sz_46 Ng_46 Hs_46 Gs_46 rfl W_47 i.toNatClampNeg rfl (own_LI_lt hi0 hc11__2); rw [own_LI_set] at q; exact q
        have N_47 := Fr.snoc X_47 N_42 gs_
        show own_Go _ _ _ _ (T_47.setTop (mkF m 46 #[rv a1, iv b_, iv c_, iv i, .unset, .unset] []))
        refine o_aloadN X_47 hx (hb hby d4_46) rfl rfl ?_
        have Fa_48 := ((Fm.other W_42 (Or.inl (Ne.symm n_ao_a1))).other W_47 (Or.inl (Ne.symm n_asx_a1)))
        obtain ⟨T_49, X_49, e_49, st_49⟩ := getF X_47 hx hZ hown (host := "") (Or.inl (hw _ (List.mem_of_getElem? (i := 26) rfl))) Via.refl e_47 Fa_48 (g := (mkF m 47 #[rv a1, iv b_, iv c_, iv i, .unset, .unset] [(.ref a1)])) rfl rfl (hb hby d4_47)
        refine own_st st_49 ?_
        show own_Go _ _ _ _ (T_49.setTop (mkF m 50 #[rv a1, iv b_, iv c_, iv i, .unset, .unset] [(.ref am)]))
        refine o_iloadN X_49 hx (hb hby d4_50) rfl ?_
        refine o_lconst X_49 hx 1 (hb hby d4_51) rfl ?_
        refine o_aloadN X_49 hx (hb hby d4_52) rfl rfl ?_
        have Fa_50 := ((Fw.other W_42 (Or.inl (Ne.symm n_ao_a1))).other W_47 (Or.inl (Ne.symm n_asx_a1)))
        obtain ⟨T_51, X_51, e_51, st_51⟩ := getF X_49 hx hZ hown (host := "") (Or.inl (hw _ (List.mem_of_getElem? (i := 19) rfl))) Via.refl e_49 Fa_50 (g := (mkF m 53 #[rv a1, iv b_, iv c_, iv i, .unset, .unset] [(.ref a1), (.long 1), (.int i), (.ref am)])) rfl rfl (hb hby d4_53)
        refine own_st st_51 ?_
        show own_Go _ _ _ _ (T_51.setTop (mkF m 56 #[rv a1, iv b_, iv c_, iv i, .unset, .unset] [(.ref aw), (.long 1), (.int i), (.ref am)]))
        refine o_iloadN X_51 hx (hb hby d4_56) rfl ?_
        have Fa_52 := ((Vw.other W_42 (Ne.symm n_ao_aw)).other W_47 (Ne.symm n_asx_aw))
        obtain ⟨cl_53, Ar_53, qk_53, Sz_53, Ng_53, Hs_53, Gs_53⟩ := id Fa_52
        refine own_st (X_51.iaload hx (j := i) (v := (.int (1 : Int32))) (by rw [e_51]; exact Ar_53.1) (State.isArrayOf_alike hZ.alike Ar_53.2.1) Ar_53.2.2 (inb_of Sz_53 ⟨hi0, hc11__2⟩) (Hs_53.at (j := i) (inb_of Sz_53 ⟨hi0, hc11__2⟩) ((own_LI_get hi0 hc11__2).trans rfl)) (g := (mkF m 57 #[rv a1, iv b_, iv c_, iv i, .unset, .unset] [(.int i), (.ref aw), (.long 1), (.int i), (.ref am)])) rfl rfl (hb hby d4_57)) ?_
        show own_Go _ _ _ _ (T_51.setTop (mkF m 58 #[rv a1, iv b_, iv c_, iv i, .unset, .unset] [(.int 1), (.long 1), (.int i), (.ref am)]))
        refine o_lshl X_51 hx (hb hby d4_58) ?_
        refine o_lconst X_51 hx 1 (hb hby d4_59) rfl ?_
        refine o_lsub X_51 hx (hb hby d4_60) ?_
        have Fa_54 := ((Vm.other W_42 n_am_ao).other W_47 n_am_asx)
        obtain ⟨cl_55, Ar_55, qk_55, Sz_55, Ng_55, Hs_55, Gs_55⟩ := id Fa_54
        obtain ⟨T_56, h_56, X_56, e_56, W_56, st_56⟩ := stJ X_51 hx hZ e_51 Ar_55 (j := i) (inb_of Sz_55 ⟨hi0, hc11__2⟩) (g := (mkF m 61 #[rv a1, iv b_, iv c_, iv i, .unset, .unset] [(.long (((1 : Int64) <<< ((1 : Int32) &&& 0x3f).toInt64) - (1 : Int64))), (.int i), (.ref am)])) rfl rfl (hb hby d4_61)
        refine own_st st_56 ?_
        have V_56 : Arv Z h_56 am km .long N (own_LJ (own_up gm i.toNatClampNeg (((1 : Int64) <<< ((1 : Int32) &&& 0x3f).toInt64) - (1 : Int64))) N) (.long (0 : Int64)) := by have q := Arv.set Ar_55 qk_55 Sz_55 Ng_55 Hs_55 Gs_55 rfl W_56 i.toNatClampNeg rfl (own_LJ_lt hi0 hc11__2); rw [own_LJ_set] at q; exact q
        have N_56 := Fr.snoc X_56 N_47 gm_
        show own_Go _ _ _ _ (T_56.setTop (mkF m 62 #[rv a1, iv b_, iv c_, iv i, .unset, .unset] []))
        refine o_iloadN X_56 hx (hb hby d4_62) rfl ?_
        refine o_aloadN X_56 hx (hb hby d4_63) rfl rfl ?_
        have Fa_57 := (Fa_50.other W_56 (Or.inl (Ne.symm n_am_a1)))
        obtain ⟨T_58, X_58, e_58, st_58⟩ := getF X_56 hx hZ hown (host := "") (Or.inl (hw _ (List.mem_of_getElem? (i := 19) rfl))) Via.refl e_56 Fa_57 (g := (mkF m 64 #[rv a1, iv b_, iv c_, iv i, .unset, .unset] [(.ref a1), (.int c_)])) rfl rfl (hb hby d4_64)
        refine own_st st_58 ?_
        show own_Go _ _ _ _ (T_58.setTop (mkF m 67 #[rv a1, iv b_, iv c_, iv i, .unset, .unset] [(.ref aw), (.int c_)]))
        refine o_iloadN X_58 hx (hb hby d4_67) rfl ?_
        have Fa_59 := (Fa_52.other W_56 (Ne.symm n_am_aw))
        obtain ⟨cl_60, Ar_60, qk_60, Sz_60, Ng_60, Hs_60, Gs_60⟩ := id Fa_59
        refine own_st (X_58.iaload hx (j := i) (v := (.int (1 : Int32))) (by rw [e_58]; exact Ar_60.1) (State.isArrayOf_alike hZ.alike Ar_60.2.1) Ar_60.2.2 (inb_of Sz_60 ⟨hi0, hc11__2⟩) (Hs_60.at (j := i) (inb_of Sz_60 ⟨hi0, hc11__2⟩) ((own_LI_get hi0 hc11__2).trans rfl)) (g := (mkF m 68 #[rv a1, iv b_, iv c_, iv i, .unset, .unset] [(.int i), (.ref aw), (.int c_)])) rfl rfl (hb hby d4_68)) ?_
        show own_Go _ _ _ _ (T_58.setTop (mkF m 69 #[rv a1, iv b_, iv c_, iv i, .unset, .unset] [(.int 1), (.int c_)]))
        refine o_iadd X_58 hx (hb hby d4_69) ?_
        refine o_istoreN X_58 hx (hb hby d4_70) (l' := #[rv a1, iv b_, iv (c_ + (1 : Int32)), iv i, .unset, .unset]) rfl ?_
        refine o_iinc X_58 hx (hb hby d4_71) rfl (l' := #[rv a1, iv b_, iv (c_ + (1 : Int32)), iv (i + (1 : Int32)), .unset, .unset]) rfl ?_
        refine o_goto X_58 hx (pc' := 6) (hb hby d4_74) (by decide) (by decide) ?_
        have Zs_61 : n0 ≤ h_56.size := (Nat.le_trans (Nat.le_trans (Nat.le_trans Zh (Keep.of_wr W_42).1) (Keep.of_wr W_47).1) (Keep.of_wr W_56).1)
        have Kp_62 : Keep h0 h_56 [a1, ao, asx, am] := (((Kh.wr W_42 (Or.inl (List.mem_of_getElem? (i := 1) rfl))).wr W_47 (Or.inl (List.mem_of_getElem? (i := 2) rfl))).wr W_56 (Or.inl (List.mem_of_getElem? (i := 3) rfl)))
        have Fa_63 := (((E1.wr W_42).wr W_47).wr W_56)
        have Fa_64 := (((Fp.other W_42 (Or.inl (Ne.symm n_ao_a1))).other W_47 (Or.inl (Ne.symm n_asx_a1))).other W_56 (Or.inl (Ne.symm n_am_a1)))
        have Fa_65 := (((Fo.other W_42 (Or.inl (Ne.symm n_ao_a1))).other W_47 (Or.inl (Ne.symm n_asx_a1))).other W_56 (Or.inl (Ne.symm n_am_a1)))
        have Fa_66 := ((Fa_43.other W_47 (Or.inl (Ne.symm n_asx_a1))).other W_56 (Or.inl (Ne.symm n_am_a1)))
        have Fa_67 := (Fa_48.other W_56 (Or.inl (Ne.symm n_am_a1)))
        have Fa_68 := (((Fn.other W_42 (Or.inl (Ne.symm n_ao_a1))).other W_47 (Or.inl (Ne.symm n_asx_a1))).other W_56 (Or.inl (Ne.symm n_am_a1)))
        have Fa_69 := (((Fq.other W_42 (Or.inl (Ne.symm n_ao_a1))).other W_47 (Or.inl (Ne.symm n_asx_a1))).other W_56 (Or.inl (Ne.symm n_am_a1)))
        have Fa_70 := (((Fb.other W_42 (Or.inl (Ne.symm n_ao_a1))).other W_47 (Or.inl (Ne.symm n_asx_a1))).other W_56 (Or.inl (Ne.symm n_am_a1)))
        have Fa_71 := (((Fc.other W_42 (Or.inl (Ne.symm n_ao_a1))).other W_47 (Or.inl (Ne.symm n_asx_a1))).other W_56 (Or.inl (Ne.symm n_am_a1)))
        have Fa_72 := ((V_42.other W_47 (Ne.symm n_asx_ao)).other W_56 (Ne.symm n_am_ao))
        have Fa_73 := (V_47.other W_56 (Ne.symm n_am_asx))
        exact ih T_58 _ h_56 (i + (1 : Int32)) b_ (c_ + (1 : Int32)) (own_up go i.toNatClampNeg b_) (own_up gs i.toNatClampNeg c_) (own_up gm i.toNatClampNeg (((1 : Int64) <<< ((1 : Int32) &&& 0x3f).toInt64) - (1 : Int64))) X_58 e_58 N_56 Zs_61 Kp_62 Fa_63 g1 Fa_64 Fa_57 Fa_65 Fa_66 Fa_67 Fa_68 Fa_69 Fa_70 Fa_71 Fa_59 Fa_72 Fa_73 V_56 go_ gs_ gm_ (own_nx0 hi0 hc11__2) (own_nx1 hi0 hc11__2) (own_invN hi0 hc11__2 hN2 hinv hc24__5).1 (own_step (P := fun j (z : Int32) => z.toInt = (j : Int) / 64) hi0 hc11__2 hgo (own_invN hi0 hc11__2 hN2 hinv hc24__5).2.1) (own_step (P := fun j (z : Int32) => z.toInt = (j : Int) % 64) hi0 hc11__2 hgs (own_invN hi0 hc11__2 hN2 hinv hc24__5).2.2) (own_step (P := fun _ z => z = (1 : Int64)) hi0 hc11__2 hgm (by decide)) (own_fS hi0 hc11__2 hfu)
    · refine o_icmpYes X_1 hx (pc' := 77) (hb hby d4_11) (flt hc11__2).2.1 (by decide) (by decide) ?_
      rcases own_b4 hN1 hN2 hinv hi1 hc11__2 with ⟨hb_, hnw⟩ | ⟨hb_, hnw⟩ | ⟨hb_, hnw⟩ | ⟨hb_, hnw⟩
      · rw [hb_]
        show own_Go _ _ _ _ (T_1.setTop (mkF m 77 #[rv a1, iv 0, iv c_, iv i, .unset, .unset] []))
        exact own_lay77_1 a1 aw ao asx am kw ko ks km N fo0 fs0 fm0 n_aw_a1 n_ao_a1 n_asx_a1 n_am_a1 n_ao_aw n_asx_aw n_am_aw n_asx_ao n_am_ao n_am_asx hN1 hN2 hx hZ hw hby hml hown hret hlk T_1 _ h i c_ go gs gm X_1 e_1 NF Zh Kh E1 g1 Fp Fw Fo Fs Fm Fn Fq Fb Fc Vw Vo Vs Vm go_ gs_ gm_ (own_atN hi1 hc11__2 hgo) (own_atN hi1 hc11__2 hgs) (own_atN hi1 hc11__2 hgm) hnw
      · rw [hb_]
        show own_Go _ _ _ _ (T_1.setTop (mkF m 77 #[rv a1, iv 1, iv c_, iv i, .unset, .unset] []))
        exact own_lay77_2 a1 aw ao asx am kw ko ks km N fo0 fs0 fm0 n_aw_a1 n_ao_a1 n_asx_a1 n_am_a1 n_ao_aw n_asx_aw n_am_aw n_asx_ao n_am_ao n_am_asx hN1 hN2 hx hZ hw hby hml hown hret hlk T_1 _ h i c_ go gs gm X_1 e_1 NF Zh Kh E1 g1 Fp Fw Fo Fs Fm Fn Fq Fb Fc Vw Vo Vs Vm go_ gs_ gm_ (own_atN hi1 hc11__2 hgo) (own_atN hi1 hc11__2 hgs) (own_atN hi1 hc11__2 hgm) hnw
      · rw [hb_]
        show own_Go _ _ _ _ (T_1.setTop (mkF m 77 #[rv a1, iv 2, iv c_, iv i, .unset, .unset] []))
        exact own_lay77_3 a1 aw ao asx am kw ko ks km N fo0 fs0 fm0 n_aw_a1 n_ao_a1 n_asx_a1 n_am_a1 n_ao_aw n_asx_aw n_am_aw n_asx_ao n_am_ao n_am_asx hN1 hN2 hx hZ hw hby hml hown hret hlk T_1 _ h i c_ go gs gm X_1 e_1 NF Zh Kh E1 g1 Fp Fw Fo Fs Fm Fn Fq Fb Fc Vw Vo Vs Vm go_ gs_ gm_ (own_atN hi1 hc11__2 hgo) (own_atN hi1 hc11__2 hgs) (own_atN hi1 hc11__2 hgm) hnw
      · rw [hb_]
        show own_Go _ _ _ _ (T_1.setTop (mkF m 77 #[rv a1, iv 3, iv c_, iv i, .unset, .unset] []))
        exact own_lay77_4 a1 aw ao asx am kw ko ks km N fo0 fs0 fm0 n_aw_a1 n_ao_a1 n_asx_a1 n_am_a1 n_ao_aw n_asx_aw n_am_aw n_asx_ao n_am_ao n_am_asx hN1 hN2 hx hZ hw hby hml hown hret hlk T_1 _ h i c_ go gs gm X_1 e_1 NF Zh Kh E1 g1 Fp Fw Fo Fs Fm Fn Fq Fb Fc Vw Vo Vs Vm go_ gs_ gm_ (own_atN hi1 hc11__2 hgo) (own_atN hi1 hc11__2 hgs) (own_atN hi1 hc11__2 hgm) hnw
theorem pn_4 : plainName "com/example/causyn/causyn/analysis/MarkingStore" = true := by first | (simp [plainName, overriddenIn]; done) | decide +kernel
theorem d4_0 : decode prog_3_method_15_code 0 = .ok (.iconst 0, 1) := by decide +kernel
theorem d4_1 : decode prog_3_method_15_code 1 = .ok (.istore_n 1, 1) := by decide +kernel
theorem d4_2 : decode prog_3_method_15_code 2 = .ok (.iconst 0, 1) := by decide +kernel
theorem d4_3 : decode prog_3_method_15_code 3 = .ok (.istore_n 2, 1) := by decide +kernel
theorem d4_4 : decode prog_3_method_15_code 4 = .ok (.iconst 0, 1) := by decide +kernel
theorem d4_5 : decode prog_3_method_15_code 5 = .ok (.istore_n 3, 1) := by decide +kernel
theorem ef_rmlay (m : MethodId) (a1 : Addr) : entryFrame m #[(.ref a1)] 6 = mkF m 0 #[rv a1, .unset, .unset, .unset, .unset, .unset] [] := by first | (simp [entryFrame, mkF, argsToLocals, Value.category]; done) | rfl
set_option maxRecDepth 65536 in
set_option maxHeartbeats 40000000 in
theorem rmlay (l : Launch) (Z : State) (a0 : Array Value) (hw : ∀ d ∈ tables_1, d.before a0 Z = true) (ws : List Jvm.Cond) (a1 : Addr) (aw : Addr) (ao : Addr) (asx : Addr) (am : Addr) (kw : ClassId) (ko : ClassId) (ks : ClassId) (km : ClassId) (N : Int32) (fo0 : Nat → Int32) (fs0 : Nat → Int32) (fm0 : Nat → Int64) (h0 : Heap) (n0 : Nat) (Z0 : n0 ≤ h0.size) (E1 : Exa Z h0 a1 "com/example/causyn/causyn/analysis/MarkingStore") (g1 : n0 ≤ a1) (Fp : Fld Z h0 a1 "com/example/causyn/causyn/analysis/MarkingStore" "places" "I" (.int N)) (Fw : Fld Z h0 a1 "com/example/causyn/causyn/analysis/MarkingStore" "width" "[I" (.ref aw)) (Fo : Fld Z h0 a1 "com/example/causyn/causyn/analysis/MarkingStore" "word" "[I" (.ref ao)) (Fs : Fld Z h0 a1 "com/example/causyn/causyn/analysis/MarkingStore" "shift" "[I" (.ref asx)) (Fm : Fld Z h0 a1 "com/example/causyn/causyn/analysis/MarkingStore" "mask" "[J" (.ref am)) (Fn : Fld Z h0 a1 "com/example/causyn/causyn/analysis/MarkingStore" "words" "I" (.int (0 : Int32))) (Fq : Fld Z h0 a1 "com/example/causyn/causyn/analysis/MarkingStore" "placesInWord" "[[I" .null) (Fb : Fld Z h0 a1 "com/example/causyn/causyn/analysis/MarkingStore" "bitsOnly" "[Z" .null) (Fc : Fld Z h0 a1 "com/example/causyn/causyn/analysis/MarkingStore" "chunkBits" "I" (.int (0 : Int32))) (Vw : Arv Z h0 aw kw .int N (own_LI (fun _ => (1 : Int32)) N) (.int (0 : Int32))) (Vo : Arv Z h0 ao ko .int N (own_LI fo0 N) (.int (0 : Int32))) (Vs : Arv Z h0 asx ks .int N (own_LI fs0 N) (.int (0 : Int32))) (Vm : Arv Z h0 am km .long N (own_LJ fm0 N) (.long (0 : Int64))) (go_ : n0 ≤ ao) (gs_ : n0 ≤ asx) (gm_ : n0 ≤ am) (n_aw_a1 : aw ≠ a1) (n_ao_a1 : ao ≠ a1) (n_asx_a1 : asx ≠ a1) (n_am_a1 : am ≠ a1) (n_ao_aw : ao ≠ aw) (n_asx_aw : asx ≠ aw) (n_am_aw : am ≠ aw) (n_asx_ao : asx ≠ ao) (n_am_ao : am ≠ ao) (n_am_asx : am ≠ asx) (hN1 : ¬ N < (1 : Int32)) (hN2 : ¬ (256 : Int32) < N) :
    MetFree l (⟨"com/example/causyn/causyn/analysis/MarkingStore", "layOut", "()V"⟩ : MethodName) (head1 (Jvm.Cond.code (⟨"com/example/causyn/causyn/analysis/MarkingStore", "layOut", "()V"⟩ : MethodName) prog_3_method_15_code 6 none :: ws) ({ frames := 1, cells := 8, slots := 272, locals := 14 } : Room)) (fun a U => a = #[(.ref a1)] ∧ Z.Warmed39 U.vm ∧ U.heap = h0) (fun _ _ _ _ _ => True) (fun _ U o U' => ∃ v L, o = .returned v ∧ Q_rmlay Z a0 a1 aw ao asx am kw ko ks km N fo0 fs0 fm0 h0 n0 v U'.heap L ∧ FrameEnd U o U' L ({ frames := 1, cells := 8, slots := 272, locals := 14 } : Room).cells ({ frames := 1, cells := 8, slots := 272, locals := 14 } : Room).slots) := by
  refine MetFree.of_bodySF (plainFor_of_name pn_4) hisR ?_
  intro p e s m args below meth c s₁ Bd hml0 hP hK
  obtain ⟨rfl, hZ, hh⟩ := hP
  have hx := Bd.exec
  have hby := Bd.bytes
  have hml : c.maxLocals = 6 := hml0
  have hown : s.vm.findClass "com/example/causyn/causyn/analysis/MarkingStore" = some m.cls := findClass_of_methodNamed Bd.named
  have hnm := (name_of_methodNamed Bd.named Bd.method).1
  have hlk : meth.locks = false := BodyLoose.notSynchronized (by assumption)
  have X0 : Stand p l e ({ frames := 1, cells := 8, slots := 272, locals := 14 } : Room) s m #[(.ref a1)] below meth c s₁ [] 0 0 := Stand.of_body Bd
  have e0 : s₁.heap = h0 := by rw [← hh, Bd.state]; rfl
  have N0 := Fr.nil n0
  show own_Go p.tables e below (fun o U' => ∃ v L, o = .returned v ∧ Q_rmlay Z a0 a1 aw ao asx am kw ko ks km N fo0 fs0 fm0 h0 n0 v U'.heap L ∧ FrameEnd s o U' L ({ frames := 1, cells := 8, slots := 272, locals := 14 } : Room).cells ({ frames := 1, cells := 8, slots := 272, locals := 14 } : Room).slots) (s₁.setTop (entryFrame m #[(.ref a1)] 6))
  refine own_st (fun t k => castTop (ef_rmlay m a1) k) ?_
  show own_Go _ _ _ _ (s₁.setTop (mkF m 0 #[rv a1, .unset, .unset, .unset, .unset, .unset] []))
  refine o_iconst X0 hx 0 (hb hby d4_0) rfl ?_
  refine o_istoreN X0 hx (hb hby d4_1) (l' := #[rv a1, iv 0, .unset, .unset, .unset, .unset]) rfl ?_
  refine o_iconst X0 hx 0 (hb hby d4_2) rfl ?_
  refine o_istoreN X0 hx (hb hby d4_3) (l' := #[rv a1, iv 0, iv 0, .unset, .unset, .unset]) rfl ?_
  refine o_iconst X0 hx 0 (hb hby d4_4) rfl ?_
  refine o_istoreN X0 hx (hb hby d4_5) (l' := #[rv a1, iv 0, iv 0, iv 0, .unset, .unset]) rfl ?_
  exact own_lay1 a1 aw ao asx am kw ko ks km N fo0 fs0 fm0 n_aw_a1 n_ao_a1 n_asx_a1 n_am_a1 n_ao_aw n_asx_aw n_am_aw n_asx_ao n_am_ao n_am_asx hN1 hN2 hx hZ hw hby hml hown Bd.returns hlk (N.toNatClampNeg + 1) s₁ _ h0 (0 : Int32) (0 : Int32) (0 : Int32) fo0 fs0 fm0 X0 e0 N0 Z0 (Keep.refl h0 [a1, ao, asx, am]) E1 g1 Fp Fw Fo Fs Fm Fn Fq Fb Fc Vw Vo Vs Vm go_ gs_ gm_ (by decide) (own_N0 hN1) own_inv0 own_all0 own_all0 own_all0 (own_ff (own_N0 hN1))
def own_pk (a b c d : Int64) (i : Int32) : Int64 := if i = (0 : Int32) then a else if i = (1 : Int32) then b else if i = (2 : Int32) then c else d
theorem own_pk_get {a b c d : Int64} {i : Int32} {dv : Value} (h0 : ¬ i < 0) (h : i < (4 : Int32)) : [Value.long a, .long b, .long c, .long d].getD i.toNatClampNeg dv = .long (own_pk a b c d i) := by
  have q : i = (0 : Int32) ∨ i = (1 : Int32) ∨ i = (2 : Int32) ∨ i = (3 : Int32) := by
    rw [Int32.lt_iff_toInt_lt] at h0 h
    have e0 : (0 : Int32).toInt = 0 := rfl
    have e1 : (4 : Int32).toInt = 4 := rfl
    simp only [← Int32.toInt_inj]
    show i.toInt = 0 ∨ i.toInt = 1 ∨ i.toInt = 2 ∨ i.toInt = 3
    omega
  rcases q with rfl | rfl | rfl | rfl <;> rfl
theorem own_Nb (x : Int32) : ((1 : Int32) + (x &&& (255 : Int32))).toInt = 1 + x.toInt % 256 := by
  have h1 : (x &&& (255 : Int32)).toInt = x.toInt % 256 := c_mask x 255 8 (by decide) rfl
  have q := c_iadd (1 : Int32) (x &&& (255 : Int32))
  have b1 := ((1 : Int32) + (x &&& (255 : Int32))).toInt_lt; have b2 := ((1 : Int32) + (x &&& (255 : Int32))).le_toInt
  have e1 : (1 : Int32).toInt = 1 := rfl
  omega
theorem own_Nb1 (x : Int32) : ¬ ((1 : Int32) + (x &&& (255 : Int32))) < (1 : Int32) := by
  have h := own_Nb x
  rw [Int32.lt_iff_toInt_lt]
  have e1 : (1 : Int32).toInt = 1 := rfl
  omega
theorem own_Nb2 (x : Int32) : ¬ (256 : Int32) < ((1 : Int32) + (x &&& (255 : Int32))) := by
  have h := own_Nb x
  rw [Int32.lt_iff_toInt_lt]
  have e1 : (256 : Int32).toInt = 256 := rfl
  omega
theorem own_Nnz (x : Int32) : ((1 : Int32) + (x &&& (255 : Int32))) ≠ 0 := by
  have h := own_Nb x
  intro q; rw [q] at h
  have e : (0 : Int32).toInt = 0 := rfl
  omega
theorem own_Pb {y N : Int32} (hy : 0 ≤ y.toInt) (hN : 0 < N.toInt) : (y - y / N * N).toInt = y.toInt % N.toInt := by
  have hne : N ≠ -1 := fun q => by rw [q] at hN; exact absurd hN (by decide)
  have hq := (c_idiv y N N.toInt rfl hne).1 hy
  have hm := c_imul (y / N) N
  have hs := c_isub y (y / N * N)
  have m1 := Int.emod_nonneg y.toInt (show N.toInt ≠ 0 by omega)
  have m2 := Int.emod_lt_of_pos y.toInt hN
  have m3 := Int.mul_ediv_add_emod y.toInt N.toInt
  rw [hq] at hm
  have hc : y.toInt / N.toInt * N.toInt = N.toInt * (y.toInt / N.toInt) := Int.mul_comm _ _
  rw [hc] at hm
  generalize N.toInt * (y.toInt / N.toInt) = M at *
  have b1 := y.toInt_lt
  have b0 := N.toInt_lt
  have b2 := (y / N * N).toInt_lt; have b3 := (y / N * N).le_toInt
  have b4 := (y - y / N * N).toInt_lt; have b5 := (y - y / N * N).le_toInt
  omega
theorem own_P0 (x y : Int32) : ¬ ((y &&& (2147483647 : Int32)) - (y &&& (2147483647 : Int32)) / ((1 : Int32) + (x &&& (255 : Int32))) * ((1 : Int32) + (x &&& (255 : Int32)))) < 0 := by
  have h := own_Nb x
  have h0 : 0 ≤ (y &&& (2147483647 : Int32)).toInt := (c_and y (2147483647 : Int32) (by decide)).1
  have hp := own_Pb (N := (1 : Int32) + (x &&& (255 : Int32))) h0 (by omega)
  rw [Int32.lt_iff_toInt_lt, hp]
  have e : (0 : Int32).toInt = 0 := rfl
  have m1 := Int.emod_nonneg (y &&& (2147483647 : Int32)).toInt (show ((1 : Int32) + (x &&& (255 : Int32))).toInt ≠ 0 by omega)
  omega
theorem own_PN (x y : Int32) : ((y &&& (2147483647 : Int32)) - (y &&& (2147483647 : Int32)) / ((1 : Int32) + (x &&& (255 : Int32))) * ((1 : Int32) + (x &&& (255 : Int32)))) < ((1 : Int32) + (x &&& (255 : Int32))) := by
  have h := own_Nb x
  have h0 : 0 ≤ (y &&& (2147483647 : Int32)).toInt := (c_and y (2147483647 : Int32) (by decide)).1
  have hp := own_Pb (N := (1 : Int32) + (x &&& (255 : Int32))) h0 (by omega)
  rw [Int32.lt_iff_toInt_lt, hp]
  exact Int.emod_lt_of_pos _ (by omega)
theorem own_d64 {z : Int32} (h0 : ¬ z < 0) : (z / (64 : Int32)).toInt = (z.toNatClampNeg : Int) / 64 := by
  rw [own_tn h0]
  rw [Int32.lt_iff_toInt_lt] at h0
  have e : (0 : Int32).toInt = 0 := rfl
  exact (c_idiv z (64 : Int32) 64 rfl (by decide)).1 (by omega)
theorem own_m64 {z : Int32} (h0 : ¬ z < 0) : (z - z / (64 : Int32) * (64 : Int32)).toInt = (z.toNatClampNeg : Int) % 64 := by
  rw [own_tn h0]
  rw [Int32.lt_iff_toInt_lt] at h0
  have e : (0 : Int32).toInt = 0 := rfl
  exact own_Pb (N := (64 : Int32)) (by omega) (by decide)
theorem own_d640 {z : Int32} (h0 : ¬ z < 0) : ¬ (z / (64 : Int32)) < 0 := by
  have q := own_d64 h0
  rw [Int32.lt_iff_toInt_lt]
  have e : (0 : Int32).toInt = 0 := rfl
  omega
theorem own_d644 {z N : Int32} (h0 : ¬ z < 0) (h : z < N) (h2 : ¬ (256 : Int32) < N) : (z / (64 : Int32)) < (4 : Int32) := by
  have q := own_d64 h0
  rw [own_tn h0] at q
  rw [Int32.lt_iff_toInt_lt] at h h2 ⊢
  have e : (4 : Int32).toInt = 4 := rfl
  have e' : (256 : Int32).toInt = 256 := rfl
  omega
theorem own_eqI {a b : Int32} {k : Int} (h1 : a.toInt = k) (h2 : b.toInt = k) : a = b := Int32.toInt_inj.mp (h1.trans h2.symm)
theorem own_sh {s : Int32} {k : Nat} (hk : k < 64) (h : s.toInt = (k : Int)) : (s &&& 0x3f).toInt64 = Int64.ofNat k := by
  have e : s = Int32.ofNat k := by
    apply Int32.toInt_inj.mp; rw [h]
    have : ∀ n : Nat, n < 64 → ((n : Int) = (Int32.ofNat n).toInt) := by decide
    exact this k hk
  subst e
  have : ∀ n : Nat, n < 64 → ((Int32.ofNat n) &&& 0x3f).toInt64 = Int64.ofNat n := by decide
  exact this k hk

theorem own_bit (y : BitVec 64) (k : Nat) (hk : k < 64) : ((y >>> k) &&& 1#64 = if y.getLsbD k then 1#64 else 0#64) ∧ (y &&& (1#64 <<< k) = if y.getLsbD k then (1#64 <<< k) else 0#64) := by
  constructor
  · apply BitVec.eq_of_getLsbD_eq
    intro i hi
    rw [BitVec.getLsbD_and, BitVec.getLsbD_ushiftRight]
    by_cases q : i = 0
    · subst q; rw [Nat.add_zero]; cases g : y.getLsbD k <;> simp
    · have : (1#64).getLsbD i = false := by simp [BitVec.getLsbD_one]; omega
      rw [this]; split <;> simp [q] <;> omega
  · apply BitVec.eq_of_getLsbD_eq
    intro i hi
    rw [BitVec.getLsbD_and, BitVec.getLsbD_shiftLeft]
    by_cases q : i = k
    · subst q; split <;> simp_all
    · split <;> simp_all <;> omega
theorem own_k64 {k : Nat} (hk : k < 64) : ((Int64.ofNat k).toBitVec.smod 64#64).toNat = k ∧ ((Int64.ofNat k).toUInt64.toBitVec % 64#64).toNat = k := by
  have : ∀ n : Nat, n < 64 → ((Int64.ofNat n).toBitVec.smod 64#64).toNat = n ∧ ((Int64.ofNat n).toUInt64.toBitVec % 64#64).toNat = n := by decide +kernel
  exact this k hk
theorem own_gotB {Y : Int64} {s : Int32} {k : Nat} (hk : k < 64) (h : s.toInt = (k : Int)) : (((Y.toUInt64 >>> (s &&& 0x3f).toInt64.toUInt64).toInt64) &&& (1 : Int64)).toBitVec = (Y.toBitVec >>> k) &&& 1#64 := by
  rw [own_sh hk h]
  show (Y.toUInt64.toBitVec >>> ((Int64.ofNat k).toUInt64.toBitVec % 64#64).toNat) &&& 1#64 = _
  rw [(own_k64 hk).2]; rfl
theorem own_wantB {Y : Int64} {s : Int32} {k : Nat} (hk : k < 64) (h : s.toInt = (k : Int)) : (Y &&& ((1 : Int64) <<< (s &&& 0x3f).toInt64)).toBitVec = Y.toBitVec &&& (1#64 <<< k) := by
  rw [own_sh hk h]
  show Y.toBitVec &&& (1#64 <<< ((Int64.ofNat k).toBitVec.smod 64#64).toNat) = _
  rw [(own_k64 hk).1]
theorem own_one {k : Nat} (hk : k < 64) : (1#64 <<< k) ≠ 0#64 := by
  have : ∀ n : Nat, n < 64 → (1#64 <<< n) ≠ 0#64 := by decide +kernel
  exact this k hk
theorem own_lawY {Y : Int64} {s : Int32} {k : Nat} (hk : k < 64) (h : s.toInt = (k : Int)) (q : (Y &&& ((1 : Int64) <<< (s &&& 0x3f).toInt64)) = (0 : Int64)) : (((Y.toUInt64 >>> (s &&& 0x3f).toInt64.toUInt64).toInt64) &&& (1 : Int64)) = (0 : Int64) := by
  have q' := congrArg Int64.toBitVec q
  rw [own_wantB hk h, (own_bit _ k hk).2] at q'
  apply Int64.toBitVec_inj.mp
  rw [own_gotB hk h, (own_bit _ k hk).1]
  by_cases g : Y.toBitVec.getLsbD k
  · rw [if_pos g] at q'; exact absurd q' (own_one hk)
  · rw [if_neg g]; rfl
theorem own_lawN {Y : Int64} {s : Int32} {k : Nat} (hk : k < 64) (h : s.toInt = (k : Int)) (q : ¬ (Y &&& ((1 : Int64) <<< (s &&& 0x3f).toInt64)) = (0 : Int64)) : (((Y.toUInt64 >>> (s &&& 0x3f).toInt64.toUInt64).toInt64) &&& (1 : Int64)) = (1 : Int64) := by
  apply Int64.toBitVec_inj.mp
  rw [own_gotB hk h, (own_bit _ k hk).1]
  by_cases g : Y.toBitVec.getLsbD k
  · rw [if_pos g]; rfl
  · exfalso; apply q; apply Int64.toBitVec_inj.mp; rw [own_wantB hk h, (own_bit _ k hk).2, if_neg g]; rfl
theorem own_m64k {z : Int32} (h0 : ¬ z < 0) : (z - z / (64 : Int32) * (64 : Int32)).toInt = ((z.toNatClampNeg % 64 : Nat) : Int) := by rw [own_m64 h0]; omega

theorem d1_0 : decode prog_3_method_1_code 0 = .ok (.aload_n 0, 1) := by decide +kernel
theorem d1_1 : decode prog_3_method_1_code 1 = .ok (.invokespecial 1, 3) := by decide +kernel
theorem d1_4 : decode prog_3_method_1_code 4 = .ok (.aload_n 0, 1) := by decide +kernel
theorem d1_5 : decode prog_3_method_1_code 5 = .ok (.iconst 0, 1) := by decide +kernel
theorem d1_6 : decode prog_3_method_1_code 6 = .ok (.anewarray 7, 3) := by decide +kernel
theorem d1_9 : decode prog_3_method_1_code 9 = .ok (.putfield 9, 3) := by decide +kernel
theorem d1_12 : decode prog_3_method_1_code 12 = .ok (.aload_n 0, 1) := by decide +kernel
theorem d1_13 : decode prog_3_method_1_code 13 = .ok (.sipush 1024, 3) := by decide +kernel
theorem d1_16 : decode prog_3_method_1_code 16 = .ok (.newarray .int, 2) := by decide +kernel
theorem d1_18 : decode prog_3_method_1_code 18 = .ok (.putfield 15, 3) := by decide +kernel
theorem d1_21 : decode prog_3_method_1_code 21 = .ok (.aload_n 0, 1) := by decide +kernel
theorem d1_22 : decode prog_3_method_1_code 22 = .ok (.iload_n 1, 1) := by decide +kernel
theorem d1_23 : decode prog_3_method_1_code 23 = .ok (.putfield 19, 3) := by decide +kernel
theorem d1_26 : decode prog_3_method_1_code 26 = .ok (.aload_n 0, 1) := by decide +kernel
theorem d1_27 : decode prog_3_method_1_code 27 = .ok (.iload_n 1, 1) := by decide +kernel
theorem d1_28 : decode prog_3_method_1_code 28 = .ok (.newarray .int, 2) := by decide +kernel
theorem d1_30 : decode prog_3_method_1_code 30 = .ok (.putfield 23, 3) := by decide +kernel
theorem d1_33 : decode prog_3_method_1_code 33 = .ok (.aload_n 0, 1) := by decide +kernel
theorem d1_34 : decode prog_3_method_1_code 34 = .ok (.iload_n 1, 1) := by decide +kernel
theorem d1_35 : decode prog_3_method_1_code 35 = .ok (.newarray .int, 2) := by decide +kernel
theorem d1_37 : decode prog_3_method_1_code 37 = .ok (.putfield 26, 3) := by decide +kernel
theorem d1_40 : decode prog_3_method_1_code 40 = .ok (.aload_n 0, 1) := by decide +kernel
theorem d1_41 : decode prog_3_method_1_code 41 = .ok (.iload_n 1, 1) := by decide +kernel
theorem d1_42 : decode prog_3_method_1_code 42 = .ok (.newarray .int, 2) := by decide +kernel
theorem d1_44 : decode prog_3_method_1_code 44 = .ok (.putfield 29, 3) := by decide +kernel
theorem d1_47 : decode prog_3_method_1_code 47 = .ok (.aload_n 0, 1) := by decide +kernel
theorem d1_48 : decode prog_3_method_1_code 48 = .ok (.iload_n 1, 1) := by decide +kernel
theorem d1_49 : decode prog_3_method_1_code 49 = .ok (.newarray .long, 2) := by decide +kernel
theorem d1_51 : decode prog_3_method_1_code 51 = .ok (.putfield 32, 3) := by decide +kernel
theorem d1_54 : decode prog_3_method_1_code 54 = .ok (.aload_n 0, 1) := by decide +kernel
theorem d1_55 : decode prog_3_method_1_code 55 = .ok (.getfield 23, 3) := by decide +kernel
theorem d1_58 : decode prog_3_method_1_code 58 = .ok (.iconst 1, 1) := by decide +kernel
theorem d1_59 : decode prog_3_method_1_code 59 = .ok (.invokestatic 35, 3) := by decide +kernel
theorem pd_3 : parseMethodDescriptor "([II)V" = some ⟨[(.array .int), .int], none⟩ := by decide +kernel
theorem d1_62 : decode prog_3_method_1_code 62 = .ok (.aload_n 0, 1) := by decide +kernel
theorem d1_63 : decode prog_3_method_1_code 63 = .ok (.invokevirtual 41, 3) := by decide +kernel
theorem pd_4 : parseMethodDescriptor "()V" = some ⟨[], none⟩ := by decide +kernel
theorem own_selP {s : State} {args : Array Value} {y : MethodName} {n : Nat} (hi : (Cond.instantiable y.cls n).before args s = true) (hinst : (Cond.instanceMethod y).before args s = true) (hp : s.PrivateAt y) (hy : y.cls ≠ "java/lang/invoke/MethodHandle" ∧ y.cls ≠ "java/lang/invoke/VarHandle") : (Cond.selects y.cls y y).before args s = true := by
  obtain ⟨c, k, h1, h2, -, h4, -⟩ := Cond.instantiable_spec hi
  exact selects_self_of_private h1 h2 (by simp only [Bool.or_eq_false_iff] at h4; exact h4.1) hp hinst hy
theorem d1_66 : decode prog_3_method_1_code 66 = .ok (.return_, 1) := by decide +kernel
theorem ef_rm1 (m : MethodId) (a1 : Addr) (N : Int32) : entryFrame m #[(.ref a1), (.int N)] 2 = mkF m 0 #[rv a1, iv N] [] := by first | (simp [entryFrame, mkF, argsToLocals, Value.category]; done) | rfl
def Q_rm1 (Z : State) (a0 : Array Value) (a1 : Addr) (N : Int32)  (h0 : Heap) (n0 : Nat) (v : Option Value) (h : Heap) (L : List Loc) : Prop := ∃ ao : Addr, ∃ asx : Addr, ∃ am : Addr, ∃ ko : ClassId, ∃ ks : ClassId, ∃ km : ClassId, ∃ go1 : Nat → Int32, ∃ gs1 : Nat → Int32, ∃ gm1 : Nat → Int64, v = none ∧ Fr n0 L ∧ Keep h0 h [a1] ∧ n0 ≤ ao ∧ h0.size ≤ ao ∧ n0 ≤ asx ∧ h0.size ≤ asx ∧ n0 ≤ am ∧ h0.size ≤ am ∧ Fld Z h a1 "com/example/causyn/causyn/analysis/MarkingStore" "word" "[I" (.ref ao) ∧ Fld Z h a1 "com/example/causyn/causyn/analysis/MarkingStore" "shift" "[I" (.ref asx) ∧ Fld Z h a1 "com/example/causyn/causyn/analysis/MarkingStore" "mask" "[J" (.ref am) ∧ Arv Z h ao ko .int N (own_LI go1 N) (.int (0 : Int32)) ∧ Arv Z h asx ks .int N (own_LI gs1 N) (.int (0 : Int32)) ∧ Arv Z h am km .long N (own_LJ gm1 N) (.long (0 : Int64)) ∧ (∀ j : Nat, (j : Int) < N.toInt → (go1 j).toInt = (j : Int) / 64) ∧ (∀ j : Nat, (j : Int) < N.toInt → (gs1 j).toInt = (j : Int) % 64) ∧ (∀ j : Nat, (j : Int) < N.toInt → gm1 j = (1 : Int64))
set_option maxRecDepth 65536 in
set_option maxHeartbeats 40000000 in
theorem rm1 (l : Launch) (Z : State) (a0 : Array Value) (hw : ∀ d ∈ tables_1, d.before a0 Z = true) (ws : List Jvm.Cond) (a1 : Addr) (N : Int32)  (h0 : Heap) (n0 : Nat) (Z0 : n0 ≤ h0.size) (E1 : Exa Z h0 a1 "com/example/causyn/causyn/analysis/MarkingStore") (g1 : n0 ≤ a1) (F0 : Fld Z h0 a1 "com/example/causyn/causyn/analysis/MarkingStore" "chunks" "[[J" .null) (F1 : Fld Z h0 a1 "com/example/causyn/causyn/analysis/MarkingStore" "table" "[I" .null) (F2 : Fld Z h0 a1 "com/example/causyn/causyn/analysis/MarkingStore" "places" "I" (.int (0 : Int32))) (F3 : Fld Z h0 a1 "com/example/causyn/causyn/analysis/MarkingStore" "width" "[I" .null) (F4 : Fld Z h0 a1 "com/example/causyn/causyn/analysis/MarkingStore" "word" "[I" .null) (F5 : Fld Z h0 a1 "com/example/causyn/causyn/analysis/MarkingStore" "shift" "[I" .null) (F6 : Fld Z h0 a1 "com/example/causyn/causyn/analysis/MarkingStore" "mask" "[J" .null) (F7 : Fld Z h0 a1 "com/example/causyn/causyn/analysis/MarkingStore" "words" "I" (.int (0 : Int32))) (F8 : Fld Z h0 a1 "com/example/causyn/causyn/analysis/MarkingStore" "placesInWord" "[[I" .null) (F9 : Fld Z h0 a1 "com/example/causyn/causyn/analysis/MarkingStore" "bitsOnly" "[Z" .null) (F10 : Fld Z h0 a1 "com/example/causyn/causyn/analysis/MarkingStore" "chunkBits" "I" (.int (0 : Int32))) (hN1 : ¬ N < (1 : Int32)) (hN2 : ¬ (256 : Int32) < N) :
    MetFree l (⟨"com/example/causyn/causyn/analysis/MarkingStore", "<init>", "(I)V"⟩ : MethodName) (head1 (Jvm.Cond.code (⟨"com/example/causyn/causyn/analysis/MarkingStore", "<init>", "(I)V"⟩ : MethodName) prog_3_method_1_code 2 none :: ws) ({ frames := 2, cells := 14, slots := 2320, locals := 31 } : Room)) (fun a U => a = #[(.ref a1), (.int N)] ∧ Z.Warmed39 U.vm ∧ U.heap = h0) (fun _ _ _ _ _ => True) (fun _ U o U' => ∃ v L, o = .returned v ∧ Q_rm1 Z a0 a1 N h0 n0 v U'.heap L ∧ FrameEnd U o U' L ({ frames := 2, cells := 14, slots := 2320, locals := 31 } : Room).cells ({ frames := 2, cells := 14, slots := 2320, locals := 31 } : Room).slots) := by
  refine MetFree.of_bodySF (plainFor_of_name pn_4) hisR ?_
  intro p e s m args below meth c s₁ Bd hml0 hP hK
  obtain ⟨rfl, hZ, hh⟩ := hP
  have hx := Bd.exec
  have hby := Bd.bytes
  have hml : c.maxLocals = 2 := hml0
  have hown : s.vm.findClass "com/example/causyn/causyn/analysis/MarkingStore" = some m.cls := findClass_of_methodNamed Bd.named
  have hnm := (name_of_methodNamed Bd.named Bd.method).1
  have hlk : meth.locks = false := BodyLoose.notSynchronized (by assumption)
  have X0 : Stand p l e ({ frames := 2, cells := 14, slots := 2320, locals := 31 } : Room) s m #[(.ref a1), (.int N)] below meth c s₁ [] 0 0 := Stand.of_body Bd
  have e0 : s₁.heap = h0 := by rw [← hh, Bd.state]; rfl
  have N0 := Fr.nil n0
  show own_Go p.tables e below (fun o U' => ∃ v L, o = .returned v ∧ Q_rm1 Z a0 a1 N h0 n0 v U'.heap L ∧ FrameEnd s o U' L ({ frames := 2, cells := 14, slots := 2320, locals := 31 } : Room).cells ({ frames := 2, cells := 14, slots := 2320, locals := 31 } : Room).slots) (s₁.setTop (entryFrame m #[(.ref a1), (.int N)] 2))
  refine own_st (fun t k => castTop (ef_rm1 m a1 N) k) ?_
  show own_Go _ _ _ _ (s₁.setTop (mkF m 0 #[rv a1, iv N] []))
  refine o_aloadN X0 hx (hb hby d1_0) rfl rfl ?_
  obtain ⟨T_1, X_1, e_1, st_1⟩ := initO X0 hx hZ hown (hw _ (List.mem_of_getElem? (i := 7) rfl)) (hw _ (List.mem_of_getElem? (i := 8) rfl)) (hw _ (List.mem_of_getElem? (i := 9) rfl)) e0 (g := (mkF m 1 #[rv a1, iv N] [(.ref a1)])) rfl (by rw [hml]; rfl) rfl (hb hby d1_1) (by decide) (W := 0) (by show 2 * 0 + _ ≤ _; exact Nat.le_of_eq rfl) (by decide)
  refine own_st st_1 ?_
  show own_Go _ _ _ _ (T_1.setTop (mkF m 4 #[rv a1, iv N] []))
  refine o_aloadN X_1 hx (hb hby d1_4) rfl rfl ?_
  refine o_iconst X_1 hx 0 (hb hby d1_5) rfl ?_
  obtain ⟨T_2, h_2, k_2, X_2, e_2, E_2, A_2, -, O_2, st_2⟩ := newRA X_1 hx hZ hown (C := "[J") (ty := .long) (by decide +kernel) (hw _ (List.mem_of_getElem? (i := 10) rfl)) (hw _ (List.mem_of_getElem? (i := 11) rfl)) e_1 (g := (mkF m 6 #[rv a1, iv N] [(.int 0), (.ref a1)])) rfl (hb hby d1_6) rfl (by decide) (cap := 0) (by decide) (by decide) (by decide) (by decide) rfl
  obtain ⟨b_2, g_2⟩ : ∃ z, z = h0.size := ⟨_, rfl⟩
  rw [← g_2] at A_2 st_2
  have V_2 : Arv Z h_2 b_2 k_2 (.array .long) (0 : Int32) [] .null := (Arv.new A_2 (by decide)).pad (pad_rep [] .null 0)
  have gg_2 : n0 ≤ b_2 := Nat.le_trans Z0 (Nat.le_of_eq g_2.symm)
  have sz_2 : h0.size ≤ b_2 := Nat.le_trans (Keep.refl h0 [a1]).1 (Nat.le_of_eq g_2.symm)
  refine own_st st_2 ?_
  show own_Go _ _ _ _ (T_2.setTop (mkF m 9 #[rv a1, iv N] [(.ref b_2), (.ref a1)]))
  have Fa_3 := (F0.ext E_2)
  have Fa_4 := (E1.ext E_2)
  obtain ⟨T_5, h_5, X_5, e_5, W_5, st_5⟩ := putF X_2 hx hZ hown (host := "") (Or.inl (hw _ (List.mem_of_getElem? (i := 12) rfl))) Via.refl e_2 Fa_3 Fa_4 (Or.inl (hw _ (List.mem_of_getElem? (i := 13) rfl))) (hw _ (List.mem_of_getElem? (i := 2) rfl)) (ty := (.array (.array .long))) (by decide) rfl rfl (g := (mkF m 9 #[rv a1, iv N] [(.ref b_2), (.ref a1)])) rfl rfl (hb hby d1_9)
  refine own_st st_5 ?_
  have N_5 := Fr.snoc X_5 N0 g1
  show own_Go _ _ _ _ (T_5.setTop (mkF m 12 #[rv a1, iv N] []))
  refine o_aloadN X_5 hx (hb hby d1_12) rfl rfl ?_
  refine o_sipush X_5 hx 1024 (hb hby d1_13) rfl ?_
  have Zs_6 : n0 ≤ h_5.size := (Nat.le_trans (Nat.le_trans Z0 E_2.1) (Keep.of_wr W_5).1)
  have Kp_7 : Keep h0 h_5 [a1] := (((Keep.refl h0 [a1]).ext E_2).wr W_5 (Or.inl (List.mem_of_getElem? (i := 0) rfl)))
  obtain ⟨T_8, h_8, k_8, X_8, e_8, E_8, A_8, st_8⟩ := newP X_5 hx hZ (hw _ (List.mem_of_getElem? (i := 14) rfl)) e_5 (g := (mkF m 16 #[rv a1, iv N] [(.int 1024), (.ref a1)])) rfl (hb hby d1_16) rfl (by decide) (cap := 1024) (by decide) (by decide) (by decide) (by decide)
  obtain ⟨b_8, g_8⟩ : ∃ z, z = h_5.size := ⟨_, rfl⟩
  rw [← g_8] at A_8 st_8
  have V_8 : Arv Z h_8 b_8 k_8 .int (1024 : Int32) [] (.int (0 : Int32)) := Arv.new A_8 (by decide)
  have gg_8 : n0 ≤ b_8 := Nat.le_trans Zs_6 (Nat.le_of_eq g_8.symm)
  have sz_8 : h0.size ≤ b_8 := Nat.le_trans Kp_7.1 (Nat.le_of_eq g_8.symm)
  refine own_st st_8 ?_
  show own_Go _ _ _ _ (T_8.setTop (mkF m 18 #[rv a1, iv N] [(.ref b_8), (.ref a1)]))
  have Fa_9 := (((F1.ext E_2).other W_5 (Or.inr (slot_ne (Or.inl (hw _ (List.mem_of_getElem? (i := 16) rfl))) (Or.inl (hw _ (List.mem_of_getElem? (i := 13) rfl))) (by decide) (t := (.array .int)) (t' := (.array (.array .long))) (by decide) (by decide)))).ext E_8)
  have Fa_10 := ((Fa_4.wr W_5).ext E_8)
  obtain ⟨T_11, h_11, X_11, e_11, W_11, st_11⟩ := putF X_8 hx hZ hown (host := "") (Or.inl (hw _ (List.mem_of_getElem? (i := 15) rfl))) Via.refl e_8 Fa_9 Fa_10 (Or.inl (hw _ (List.mem_of_getElem? (i := 16) rfl))) (hw _ (List.mem_of_getElem? (i := 2) rfl)) (ty := (.array .int)) (by decide) rfl rfl (g := (mkF m 18 #[rv a1, iv N] [(.ref b_8), (.ref a1)])) rfl rfl (hb hby d1_18)
  refine own_st st_11 ?_
  have N_11 := Fr.snoc X_11 N_5 g1
  show own_Go _ _ _ _ (T_11.setTop (mkF m 21 #[rv a1, iv N] []))
  refine o_aloadN X_11 hx (hb hby d1_21) rfl rfl ?_
  refine o_iloadN X_11 hx (hb hby d1_22) rfl ?_
  have Fa_12 := ((((F2.ext E_2).other W_5 (Or.inr (slot_ne (Or.inr (hw _ (List.mem_of_getElem? (i := 18) rfl))) (Or.inl (hw _ (List.mem_of_getElem? (i := 13) rfl))) (by decide) (t := .int) (t' := (.array (.array .long))) (by decide) (by decide)))).ext E_8).other W_11 (Or.inr (slot_ne (Or.inr (hw _ (List.mem_of_getElem? (i := 18) rfl))) (Or.inl (hw _ (List.mem_of_getElem? (i := 16) rfl))) (by decide) (t := .int) (t' := (.array .int)) (by decide) (by decide))))
  have Fa_13 := (Fa_10.wr W_11)
  obtain ⟨T_14, h_14, X_14, e_14, W_14, st_14⟩ := putF X_11 hx hZ hown (host := "") (Or.inl (hw _ (List.mem_of_getElem? (i := 17) rfl))) Via.refl e_11 Fa_12 Fa_13 (Or.inr ⟨(hw _ (List.mem_of_getElem? (i := 18) rfl)), rfl, hnm⟩) (hw _ (List.mem_of_getElem? (i := 2) rfl)) (ty := .int) (by decide) rfl rfl (g := (mkF m 23 #[rv a1, iv N] [(.int N), (.ref a1)])) rfl rfl (hb hby d1_23)
  refine own_st st_14 ?_
  have N_14 := Fr.snoc X_14 N_11 g1
  show own_Go _ _ _ _ (T_14.setTop (mkF m 26 #[rv a1, iv N] []))
  refine o_aloadN X_14 hx (hb hby d1_26) rfl rfl ?_
  refine o_iloadN X_14 hx (hb hby d1_27) rfl ?_
  have Zs_15 : n0 ≤ h_14.size := (Nat.le_trans (Nat.le_trans (Nat.le_trans Zs_6 E_8.1) (Keep.of_wr W_11).1) (Keep.of_wr W_14).1)
  have Kp_16 : Keep h0 h_14 [a1] := (((Kp_7.ext E_8).wr W_11 (Or.inl (List.mem_of_getElem? (i := 0) rfl))).wr W_14 (Or.inl (List.mem_of_getElem? (i := 0) rfl)))
  obtain ⟨T_17, h_17, k_17, X_17, e_17, E_17, A_17, st_17⟩ := newP X_14 hx hZ (hw _ (List.mem_of_getElem? (i := 14) rfl)) e_14 (g := (mkF m 28 #[rv a1, iv N] [(.int N), (.ref a1)])) rfl (hb hby d1_28) rfl (own_N0 hN1) (cap := 256) (own_cap hN2) (by decide) (by decide) (by decide)
  obtain ⟨b_17, g_17⟩ : ∃ z, z = h_14.size := ⟨_, rfl⟩
  rw [← g_17] at A_17 st_17
  have V_17 : Arv Z h_17 b_17 k_17 .int N (own_LI (fun _ => (0 : Int32)) N) (.int (0 : Int32)) := (Arv.new A_17 (own_N0 hN1)).pad (own_LI_pad N)
  have gg_17 : n0 ≤ b_17 := Nat.le_trans Zs_15 (Nat.le_of_eq g_17.symm)
  have sz_17 : h0.size ≤ b_17 := Nat.le_trans Kp_16.1 (Nat.le_of_eq g_17.symm)
  refine own_st st_17 ?_
  show own_Go _ _ _ _ (T_17.setTop (mkF m 30 #[rv a1, iv N] [(.ref b_17), (.ref a1)]))
  have Fa_18 := ((((((F3.ext E_2).other W_5 (Or.inr (slot_ne (Or.inr (hw _ (List.mem_of_getElem? (i := 20) rfl))) (Or.inl (hw _ (List.mem_of_getElem? (i := 13) rfl))) (by decide) (t := (.array .int)) (t' := (.array (.array .long))) (by decide) (by decide)))).ext E_8).other W_11 (Or.inr (slot_ne (Or.inr (hw _ (List.mem_of_getElem? (i := 20) rfl))) (Or.inl (hw _ (List.mem_of_getElem? (i := 16) rfl))) (by decide) (t := (.array .int)) (t' := (.array .int)) (by decide) (by decide)))).other W_14 (Or.inr (slot_ne (Or.inr (hw _ (List.mem_of_getElem? (i := 20) rfl))) (Or.inr (hw _ (List.mem_of_getElem? (i := 18) rfl))) (by decide) (t := (.array .int)) (t' := .int) (by decide) (by decide)))).ext E_17)
  have Fa_19 := ((Fa_13.wr W_14).ext E_17)
  obtain ⟨T_20, h_20, X_20, e_20, W_20, st_20⟩ := putF X_17 hx hZ hown (host := "") (Or.inl (hw _ (List.mem_of_getElem? (i := 19) rfl))) Via.refl e_17 Fa_18 Fa_19 (Or.inr ⟨(hw _ (List.mem_of_getElem? (i := 20) rfl)), rfl, hnm⟩) (hw _ (List.mem_of_getElem? (i := 2) rfl)) (ty := (.array .int)) (by decide) rfl rfl (g := (mkF m 30 #[rv a1, iv N] [(.ref b_17), (.ref a1)])) rfl rfl (hb hby d1_30)
  refine own_st st_20 ?_
  have N_20 := Fr.snoc X_20 N_14 g1
  show own_Go _ _ _ _ (T_20.setTop (mkF m 33 #[rv a1, iv N] []))
  refine o_aloadN X_20 hx (hb hby d1_33) rfl rfl ?_
  refine o_iloadN X_20 hx (hb hby d1_34) rfl ?_
  have Zs_21 : n0 ≤ h_20.size := (Nat.le_trans (Nat.le_trans Zs_15 E_17.1) (Keep.of_wr W_20).1)
  have Kp_22 : Keep h0 h_20 [a1] := ((Kp_16.ext E_17).wr W_20 (Or.inl (List.mem_of_getElem? (i := 0) rfl)))
  obtain ⟨T_23, h_23, k_23, X_23, e_23, E_23, A_23, st_23⟩ := newP X_20 hx hZ (hw _ (List.mem_of_getElem? (i := 14) rfl)) e_20 (g := (mkF m 35 #[rv a1, iv N] [(.int N), (.ref a1)])) rfl (hb hby d1_35) rfl (own_N0 hN1) (cap := 256) (own_cap hN2) (by decide) (by decide) (by decide)
  obtain ⟨b_23, g_23⟩ : ∃ z, z = h_20.size := ⟨_, rfl⟩
  rw [← g_23] at A_23 st_23
  have V_23 : Arv Z h_23 b_23 k_23 .int N (own_LI (fun _ => (0 : Int32)) N) (.int (0 : Int32)) := (Arv.new A_23 (own_N0 hN1)).pad (own_LI_pad N)
  have gg_23 : n0 ≤ b_23 := Nat.le_trans Zs_21 (Nat.le_of_eq g_23.symm)
  have sz_23 : h0.size ≤ b_23 := Nat.le_trans Kp_22.1 (Nat.le_of_eq g_23.symm)
  refine own_st st_23 ?_
  show own_Go _ _ _ _ (T_23.setTop (mkF m 37 #[rv a1, iv N] [(.ref b_23), (.ref a1)]))
  have Fa_24 := ((((((((F4.ext E_2).other W_5 (Or.inr (slot_ne (Or.inr (hw _ (List.mem_of_getElem? (i := 22) rfl))) (Or.inl (hw _ (List.mem_of_getElem? (i := 13) rfl))) (by decide) (t := (.array .int)) (t' := (.array (.array .long))) (by decide) (by decide)))).ext E_8).other W_11 (Or.inr (slot_ne (Or.inr (hw _ (List.mem_of_getElem? (i := 22) rfl))) (Or.inl (hw _ (List.mem_of_getElem? (i := 16) rfl))) (by decide) (t := (.array .int)) (t' := (.array .int)) (by decide) (by decide)))).other W_14 (Or.inr (slot_ne (Or.inr (hw _ (List.mem_of_getElem? (i := 22) rfl))) (Or.inr (hw _ (List.mem_of_getElem? (i := 18) rfl))) (by decide) (t := (.array .int)) (t' := .int) (by decide) (by decide)))).ext E_17).other W_20 (Or.inr (slot_ne (Or.inr (hw _ (List.mem_of_getElem? (i := 22) rfl))) (Or.inr (hw _ (List.mem_of_getElem? (i := 20) rfl))) (by decide) (t := (.array .int)) (t' := (.array .int)) (by decide) (by decide)))).ext E_23)
  have Fa_25 := ((Fa_19.wr W_20).ext E_23)
  obtain ⟨T_26, h_26, X_26, e_26, W_26, st_26⟩ := putF X_23 hx hZ hown (host := "") (Or.inl (hw _ (List.mem_of_getElem? (i := 21) rfl))) Via.refl e_23 Fa_24 Fa_25 (Or.inr ⟨(hw _ (List.mem_of_getElem? (i := 22) rfl)), rfl, hnm⟩) (hw _ (List.mem_of_getElem? (i := 2) rfl)) (ty := (.array .int)) (by decide) rfl rfl (g := (mkF m 37 #[rv a1, iv N] [(.ref b_23), (.ref a1)])) rfl rfl (hb hby d1_37)
  refine own_st st_26 ?_
  have N_26 := Fr.snoc X_26 N_20 g1
  show own_Go _ _ _ _ (T_26.setTop (mkF m 40 #[rv a1, iv N] []))
  refine o_aloadN X_26 hx (hb hby d1_40) rfl rfl ?_
  refine o_iloadN X_26 hx (hb hby d1_41) rfl ?_
  have Zs_27 : n0 ≤ h_26.size := (Nat.le_trans (Nat.le_trans Zs_21 E_23.1) (Keep.of_wr W_26).1)
  have Kp_28 : Keep h0 h_26 [a1] := ((Kp_22.ext E_23).wr W_26 (Or.inl (List.mem_of_getElem? (i := 0) rfl)))
  obtain ⟨T_29, h_29, k_29, X_29, e_29, E_29, A_29, st_29⟩ := newP X_26 hx hZ (hw _ (List.mem_of_getElem? (i := 14) rfl)) e_26 (g := (mkF m 42 #[rv a1, iv N] [(.int N), (.ref a1)])) rfl (hb hby d1_42) rfl (own_N0 hN1) (cap := 256) (own_cap hN2) (by decide) (by decide) (by decide)
  obtain ⟨b_29, g_29⟩ : ∃ z, z = h_26.size := ⟨_, rfl⟩
  rw [← g_29] at A_29 st_29
  have V_29 : Arv Z h_29 b_29 k_29 .int N (own_LI (fun _ => (0 : Int32)) N) (.int (0 : Int32)) := (Arv.new A_29 (own_N0 hN1)).pad (own_LI_pad N)
  have gg_29 : n0 ≤ b_29 := Nat.le_trans Zs_27 (Nat.le_of_eq g_29.symm)
  have sz_29 : h0.size ≤ b_29 := Nat.le_trans Kp_28.1 (Nat.le_of_eq g_29.symm)
  refine own_st st_29 ?_
  show own_Go _ _ _ _ (T_29.setTop (mkF m 44 #[rv a1, iv N] [(.ref b_29), (.ref a1)]))
  have Fa_30 := ((((((((((F5.ext E_2).other W_5 (Or.inr (slot_ne (Or.inr (hw _ (List.mem_of_getElem? (i := 24) rfl))) (Or.inl (hw _ (List.mem_of_getElem? (i := 13) rfl))) (by decide) (t := (.array .int)) (t' := (.array (.array .long))) (by decide) (by decide)))).ext E_8).other W_11 (Or.inr (slot_ne (Or.inr (hw _ (List.mem_of_getElem? (i := 24) rfl))) (Or.inl (hw _ (List.mem_of_getElem? (i := 16) rfl))) (by decide) (t := (.array .int)) (t' := (.array .int)) (by decide) (by decide)))).other W_14 (Or.inr (slot_ne (Or.inr (hw _ (List.mem_of_getElem? (i := 24) rfl))) (Or.inr (hw _ (List.mem_of_getElem? (i := 18) rfl))) (by decide) (t := (.array .int)) (t' := .int) (by decide) (by decide)))).ext E_17).other W_20 (Or.inr (slot_ne (Or.inr (hw _ (List.mem_of_getElem? (i := 24) rfl))) (Or.inr (hw _ (List.mem_of_getElem? (i := 20) rfl))) (by decide) (t := (.array .int)) (t' := (.array .int)) (by decide) (by decide)))).ext E_23).other W_26 (Or.inr (slot_ne (Or.inr (hw _ (List.mem_of_getElem? (i := 24) rfl))) (Or.inr (hw _ (List.mem_of_getElem? (i := 22) rfl))) (by decide) (t := (.array .int)) (t' := (.array .int)) (by decide) (by decide)))).ext E_29)
  have Fa_31 := ((Fa_25.wr W_26).ext E_29)
  obtain ⟨T_32, h_32, X_32, e_32, W_32, st_32⟩ := putF X_29 hx hZ hown (host := "") (Or.inl (hw _ (List.mem_of_getElem? (i := 23) rfl))) Via.refl e_29 Fa_30 Fa_31 (Or.inr ⟨(hw _ (List.mem_of_getElem? (i := 24) rfl)), rfl, hnm⟩) (hw _ (List.mem_of_getElem? (i := 2) rfl)) (ty := (.array .int)) (by decide) rfl rfl (g := (mkF m 44 #[rv a1, iv N] [(.ref b_29), (.ref a1)])) rfl rfl (hb hby d1_44)
  refine own_st st_32 ?_
  have N_32 := Fr.snoc X_32 N_26 g1
  show own_Go _ _ _ _ (T_32.setTop (mkF m 47 #[rv a1, iv N] []))
  refine o_aloadN X_32 hx (hb hby d1_47) rfl rfl ?_
  refine o_iloadN X_32 hx (hb hby d1_48) rfl ?_
  have Zs_33 : n0 ≤ h_32.size := (Nat.le_trans (Nat.le_trans Zs_27 E_29.1) (Keep.of_wr W_32).1)
  have Kp_34 : Keep h0 h_32 [a1] := ((Kp_28.ext E_29).wr W_32 (Or.inl (List.mem_of_getElem? (i := 0) rfl)))
  obtain ⟨T_35, h_35, k_35, X_35, e_35, E_35, A_35, st_35⟩ := newP X_32 hx hZ (hw _ (List.mem_of_getElem? (i := 25) rfl)) e_32 (g := (mkF m 49 #[rv a1, iv N] [(.int N), (.ref a1)])) rfl (hb hby d1_49) rfl (own_N0 hN1) (cap := 256) (own_cap hN2) (by decide) (by decide) (by decide)
  obtain ⟨b_35, g_35⟩ : ∃ z, z = h_32.size := ⟨_, rfl⟩
  rw [← g_35] at A_35 st_35
  have V_35 : Arv Z h_35 b_35 k_35 .long N (own_LJ (fun _ => (0 : Int64)) N) (.long (0 : Int64)) := (Arv.new A_35 (own_N0 hN1)).pad (own_LJ_pad N)
  have gg_35 : n0 ≤ b_35 := Nat.le_trans Zs_33 (Nat.le_of_eq g_35.symm)
  have sz_35 : h0.size ≤ b_35 := Nat.le_trans Kp_34.1 (Nat.le_of_eq g_35.symm)
  refine own_st st_35 ?_
  show own_Go _ _ _ _ (T_35.setTop (mkF m 51 #[rv a1, iv N] [(.ref b_35), (.ref a1)]))
  have Fa_36 := ((((((((((((F6.ext E_2).other W_5 (Or.inr (slot_ne (Or.inr (hw _ (List.mem_of_getElem? (i := 27) rfl))) (Or.inl (hw _ (List.mem_of_getElem? (i := 13) rfl))) (by decide) (t := (.array .long)) (t' := (.array (.array .long))) (by decide) (by decide)))).ext E_8).other W_11 (Or.inr (slot_ne (Or.inr (hw _ (List.mem_of_getElem? (i := 27) rfl))) (Or.inl (hw _ (List.mem_of_getElem? (i := 16) rfl))) (by decide) (t := (.array .long)) (t' := (.array .int)) (by decide) (by decide)))).other W_14 (Or.inr (slot_ne (Or.inr (hw _ (List.mem_of_getElem? (i := 27) rfl))) (Or.inr (hw _ (List.mem_of_getElem? (i := 18) rfl))) (by decide) (t := (.array .long)) (t' := .int) (by decide) (by decide)))).ext E_17).other W_20 (Or.inr (slot_ne (Or.inr (hw _ (List.mem_of_getElem? (i := 27) rfl))) (Or.inr (hw _ (List.mem_of_getElem? (i := 20) rfl))) (by decide) (t := (.array .long)) (t' := (.array .int)) (by decide) (by decide)))).ext E_23).other W_26 (Or.inr (slot_ne (Or.inr (hw _ (List.mem_of_getElem? (i := 27) rfl))) (Or.inr (hw _ (List.mem_of_getElem? (i := 22) rfl))) (by decide) (t := (.array .long)) (t' := (.array .int)) (by decide) (by decide)))).ext E_29).other W_32 (Or.inr (slot_ne (Or.inr (hw _ (List.mem_of_getElem? (i := 27) rfl))) (Or.inr (hw _ (List.mem_of_getElem? (i := 24) rfl))) (by decide) (t := (.array .long)) (t' := (.array .int)) (by decide) (by decide)))).ext E_35)
  have Fa_37 := ((Fa_31.wr W_32).ext E_35)
  obtain ⟨T_38, h_38, X_38, e_38, W_38, st_38⟩ := putF X_35 hx hZ hown (host := "") (Or.inl (hw _ (List.mem_of_getElem? (i := 26) rfl))) Via.refl e_35 Fa_36 Fa_37 (Or.inr ⟨(hw _ (List.mem_of_getElem? (i := 27) rfl)), rfl, hnm⟩) (hw _ (List.mem_of_getElem? (i := 2) rfl)) (ty := (.array .long)) (by decide) rfl rfl (g := (mkF m 51 #[rv a1, iv N] [(.ref b_35), (.ref a1)])) rfl rfl (hb hby d1_51)
  refine own_st st_38 ?_
  have N_38 := Fr.snoc X_38 N_32 g1
  show own_Go _ _ _ _ (T_38.setTop (mkF m 54 #[rv a1, iv N] []))
  refine o_aloadN X_38 hx (hb hby d1_54) rfl rfl ?_
  have Fa_39 := (((((((Fa_18.same W_20).ext E_23).other W_26 (Or.inr (slot_ne (Or.inr (hw _ (List.mem_of_getElem? (i := 20) rfl))) (Or.inr (hw _ (List.mem_of_getElem? (i := 22) rfl))) (by decide) (t := (.array .int)) (t' := (.array .int)) (by decide) (by decide)))).ext E_29).other W_32 (Or.inr (slot_ne (Or.inr (hw _ (List.mem_of_getElem? (i := 20) rfl))) (Or.inr (hw _ (List.mem_of_getElem? (i := 24) rfl))) (by decide) (t := (.array .int)) (t' := (.array .int)) (by decide) (by decide)))).ext E_35).other W_38 (Or.inr (slot_ne (Or.inr (hw _ (List.mem_of_getElem? (i := 20) rfl))) (Or.inr (hw _ (List.mem_of_getElem? (i := 27) rfl))) (by decide) (t := (.array .int)) (t' := (.array .long)) (by decide) (by decide))))
  obtain ⟨T_40, X_40, e_40, st_40⟩ := getF X_38 hx hZ hown (host := "") (Or.inl (hw _ (List.mem_of_getElem? (i := 19) rfl))) Via.refl e_38 Fa_39 (g := (mkF m 55 #[rv a1, iv N] [(.ref a1)])) rfl rfl (hb hby d1_55)
  refine own_st st_40 ?_
  show own_Go _ _ _ _ (T_40.setTop (mkF m 58 #[rv a1, iv N] [(.ref b_17)]))
  refine o_iconst X_40 hx 1 (hb hby d1_58) rfl ?_
  have Fa_42 := (((((((V_17.other W_20 (Ne.symm (Nat.ne_of_lt (Nat.lt_of_lt_of_le (Fa_12.same W_14).lt (Nat.le_of_eq g_17.symm))))).ext E_23).other W_26 (Ne.symm (Nat.ne_of_lt (Nat.lt_of_lt_of_le (Fa_12.same W_14).lt (Nat.le_of_eq g_17.symm))))).ext E_29).other W_32 (Ne.symm (Nat.ne_of_lt (Nat.lt_of_lt_of_le (Fa_12.same W_14).lt (Nat.le_of_eq g_17.symm))))).ext E_35).other W_38 (Ne.symm (Nat.ne_of_lt (Nat.lt_of_lt_of_le (Fa_12.same W_14).lt (Nat.le_of_eq g_17.symm)))))
  have Zs_43 : n0 ≤ h_38.size := (Nat.le_trans (Nat.le_trans Zs_33 E_35.1) (Keep.of_wr W_38).1)
  obtain ⟨_, _, ⟨T_41, L_41, k_41, n_41⟩, -, X_41, ⟨Lc_41, hQ_41, l_41, y_41, z_41⟩, st_41⟩ := Jvm.LawKit.callS X_40 hx (y := (⟨"java/util/Arrays", "fill", "([II)V"⟩ : MethodName)) hown (mvT hZ (hw _ (List.mem_of_getElem? (i := 28) rfl))) (mvT hZ (hw _ (List.mem_of_getElem? (i := 29) rfl))) (mvT hZ (hw _ (List.mem_of_getElem? (i := 30) rfl))) (mvT hZ (hw _ (List.mem_of_getElem? (i := 31) rfl))) (by decide) (backOf (W := 0) (rmfill l Z a0 hw [] b_17 (1 : Int32) k_17 N (fun _ => (0 : Int32)) h_38 n0 Zs_43 Fa_42 gg_17 (own_N0 hN1)) hZ (hw _ (List.mem_of_getElem? (i := 31) rfl)) (hw _ (List.mem_of_getElem? (i := 30) rfl)) (by decide) (by decide)) (g := (mkF m 59 #[rv a1, iv N] [(.int 1), (.ref b_17)])) rfl (by rw [hml]; rfl) (argsL := [(.ref b_17), (.int 1)]) (rest := []) (lenOf pd_3 rfl) rfl (by show 2 * 0 + _ ≤ _; exact Nat.le_of_eq rfl) (hb hby d1_59) (fun _ _ => ⟨rfl, e_40, (by decide : 6 + 0 ≤ _), (by decide : 2048 + 0 ≤ _)⟩)
  dsimp only [Pt.U, Pt.locs, Pt.cells, Pt.slots] at X_41 l_41 y_41 z_41 st_41 hQ_41
  subst l_41 y_41 z_41
  obtain ⟨rfl, Nq_41, K_41, Fq_41_0⟩ := hQ_41
  have N_41 := Fr.app N_38 Nq_41
  refine own_st st_41 ?_
  show own_Go _ _ _ _ (T_41.setTop (mkF m 62 #[rv a1, iv N] []))
  refine o_aloadN X_41 hx (hb hby d1_62) rfl rfl ?_
  have Fa_45 := ((Fa_37.wr W_38).keep K_41)
  have Fa_46 := ((((((((((Fa_12.same W_14).ext E_17).other W_20 (Or.inr (slot_ne (Or.inr (hw _ (List.mem_of_getElem? (i := 18) rfl))) (Or.inr (hw _ (List.mem_of_getElem? (i := 20) rfl))) (by decide) (t := .int) (t' := (.array .int)) (by decide) (by decide)))).ext E_23).other W_26 (Or.inr (slot_ne (Or.inr (hw _ (List.mem_of_getElem? (i := 18) rfl))) (Or.inr (hw _ (List.mem_of_getElem? (i := 22) rfl))) (by decide) (t := .int) (t' := (.array .int)) (by decide) (by decide)))).ext E_29).other W_32 (Or.inr (slot_ne (Or.inr (hw _ (List.mem_of_getElem? (i := 18) rfl))) (Or.inr (hw _ (List.mem_of_getElem? (i := 24) rfl))) (by decide) (t := .int) (t' := (.array .int)) (by decide) (by decide)))).ext E_35).other W_38 (Or.inr (slot_ne (Or.inr (hw _ (List.mem_of_getElem? (i := 18) rfl))) (Or.inr (hw _ (List.mem_of_getElem? (i := 27) rfl))) (by decide) (t := .int) (t' := (.array .long)) (by decide) (by decide)))).keep K_41 (ninS (Nat.ne_of_lt (Nat.lt_of_lt_of_le (Fa_12.same W_14).lt (Nat.le_of_eq g_17.symm))) nin0))
  have Fa_47 := (Fa_39.keep K_41 (ninS (Nat.ne_of_lt (Nat.lt_of_lt_of_le (Fa_12.same W_14).lt (Nat.le_of_eq g_17.symm))) nin0))
  have Fa_48 := ((((((Fa_24.same W_26).ext E_29).other W_32 (Or.inr (slot_ne (Or.inr (hw _ (List.mem_of_getElem? (i := 22) rfl))) (Or.inr (hw _ (List.mem_of_getElem? (i := 24) rfl))) (by decide) (t := (.array .int)) (t' := (.array .int)) (by decide) (by decide)))).ext E_35).other W_38 (Or.inr (slot_ne (Or.inr (hw _ (List.mem_of_getElem? (i := 22) rfl))) (Or.inr (hw _ (List.mem_of_getElem? (i := 27) rfl))) (by decide) (t := (.array .int)) (t' := (.array .long)) (by decide) (by decide)))).keep K_41 (ninS (Nat.ne_of_lt (Nat.lt_of_lt_of_le (Fa_12.same W_14).lt (Nat.le_of_eq g_17.symm))) nin0))
  have Fa_49 := ((((Fa_30.same W_32).ext E_35).other W_38 (Or.inr (slot_ne (Or.inr (hw _ (List.mem_of_getElem? (i := 24) rfl))) (Or.inr (hw _ (List.mem_of_getElem? (i := 27) rfl))) (by decide) (t := (.array .int)) (t' := (.array .long)) (by decide) (by decide)))).keep K_41 (ninS (Nat.ne_of_lt (Nat.lt_of_lt_of_le (Fa_12.same W_14).lt (Nat.le_of_eq g_17.symm))) nin0))
  have Fa_50 := ((Fa_36.same W_38).keep K_41 (ninS (Nat.ne_of_lt (Nat.lt_of_lt_of_le (Fa_12.same W_14).lt (Nat.le_of_eq g_17.symm))) nin0))
  have Fa_51 := ((((((((((((((F7.ext E_2).other W_5 (Or.inr (slot_ne (Or.inl (hw _ (List.mem_of_getElem? (i := 37) rfl))) (Or.inl (hw _ (List.mem_of_getElem? (i := 13) rfl))) (by decide) (t := .int) (t' := (.array (.array .long))) (by decide) (by decide)))).ext E_8).other W_11 (Or.inr (slot_ne (Or.inl (hw _ (List.mem_of_getElem? (i := 37) rfl))) (Or.inl (hw _ (List.mem_of_getElem? (i := 16) rfl))) (by decide) (t := .int) (t' := (.array .int)) (by decide) (by decide)))).other W_14 (Or.inr (slot_ne (Or.inl (hw _ (List.mem_of_getElem? (i := 37) rfl))) (Or.inr (hw _ (List.mem_of_getElem? (i := 18) rfl))) (by decide) (t := .int) (t' := .int) (by decide) (by decide)))).ext E_17).other W_20 (Or.inr (slot_ne (Or.inl (hw _ (List.mem_of_getElem? (i := 37) rfl))) (Or.inr (hw _ (List.mem_of_getElem? (i := 20) rfl))) (by decide) (t := .int) (t' := (.array .int)) (by decide) (by decide)))).ext E_23).other W_26 (Or.inr (slot_ne (Or.inl (hw _ (List.mem_of_getElem? (i := 37) rfl))) (Or.inr (hw _ (List.mem_of_getElem? (i := 22) rfl))) (by decide) (t := .int) (t' := (.array .int)) (by decide) (by decide)))).ext E_29).other W_32 (Or.inr (slot_ne (Or.inl (hw _ (List.mem_of_getElem? (i := 37) rfl))) (Or.inr (hw _ (List.mem_of_getElem? (i := 24) rfl))) (by decide) (t := .int) (t' := (.array .int)) (by decide) (by decide)))).ext E_35).other W_38 (Or.inr (slot_ne (Or.inl (hw _ (List.mem_of_getElem? (i := 37) rfl))) (Or.inr (hw _ (List.mem_of_getElem? (i := 27) rfl))) (by decide) (t := .int) (t' := (.array .long)) (by decide) (by decide)))).keep K_41 (ninS (Nat.ne_of_lt (Nat.lt_of_lt_of_le (Fa_12.same W_14).lt (Nat.le_of_eq g_17.symm))) nin0))
  have Fa_52 := ((((((((((((((F8.ext E_2).other W_5 (Or.inr (slot_ne (Or.inl (hw _ (List.mem_of_getElem? (i := 41) rfl))) (Or.inl (hw _ (List.mem_of_getElem? (i := 13) rfl))) (by decide) (t := (.array (.array .int))) (t' := (.array (.array .long))) (by decide) (by decide)))).ext E_8).other W_11 (Or.inr (slot_ne (Or.inl (hw _ (List.mem_of_getElem? (i := 41) rfl))) (Or.inl (hw _ (List.mem_of_getElem? (i := 16) rfl))) (by decide) (t := (.array (.array .int))) (t' := (.array .int)) (by decide) (by decide)))).other W_14 (Or.inr (slot_ne (Or.inl (hw _ (List.mem_of_getElem? (i := 41) rfl))) (Or.inr (hw _ (List.mem_of_getElem? (i := 18) rfl))) (by decide) (t := (.array (.array .int))) (t' := .int) (by decide) (by decide)))).ext E_17).other W_20 (Or.inr (slot_ne (Or.inl (hw _ (List.mem_of_getElem? (i := 41) rfl))) (Or.inr (hw _ (List.mem_of_getElem? (i := 20) rfl))) (by decide) (t := (.array (.array .int))) (t' := (.array .int)) (by decide) (by decide)))).ext E_23).other W_26 (Or.inr (slot_ne (Or.inl (hw _ (List.mem_of_getElem? (i := 41) rfl))) (Or.inr (hw _ (List.mem_of_getElem? (i := 22) rfl))) (by decide) (t := (.array (.array .int))) (t' := (.array .int)) (by decide) (by decide)))).ext E_29).other W_32 (Or.inr (slot_ne (Or.inl (hw _ (List.mem_of_getElem? (i := 41) rfl))) (Or.inr (hw _ (List.mem_of_getElem? (i := 24) rfl))) (by decide) (t := (.array (.array .int))) (t' := (.array .int)) (by decide) (by decide)))).ext E_35).other W_38 (Or.inr (slot_ne (Or.inl (hw _ (List.mem_of_getElem? (i := 41) rfl))) (Or.inr (hw _ (List.mem_of_getElem? (i := 27) rfl))) (by decide) (t := (.array (.array .int))) (t' := (.array .long)) (by decide) (by decide)))).keep K_41 (ninS (Nat.ne_of_lt (Nat.lt_of_lt_of_le (Fa_12.same W_14).lt (Nat.le_of_eq g_17.symm))) nin0))
  have Fa_53 := ((((((((((((((F9.ext E_2).other W_5 (Or.inr (slot_ne (Or.inl (hw _ (List.mem_of_getElem? (i := 44) rfl))) (Or.inl (hw _ (List.mem_of_getElem? (i := 13) rfl))) (by decide) (t := (.array .boolean)) (t' := (.array (.array .long))) (by decide) (by decide)))).ext E_8).other W_11 (Or.inr (slot_ne (Or.inl (hw _ (List.mem_of_getElem? (i := 44) rfl))) (Or.inl (hw _ (List.mem_of_getElem? (i := 16) rfl))) (by decide) (t := (.array .boolean)) (t' := (.array .int)) (by decide) (by decide)))).other W_14 (Or.inr (slot_ne (Or.inl (hw _ (List.mem_of_getElem? (i := 44) rfl))) (Or.inr (hw _ (List.mem_of_getElem? (i := 18) rfl))) (by decide) (t := (.array .boolean)) (t' := .int) (by decide) (by decide)))).ext E_17).other W_20 (Or.inr (slot_ne (Or.inl (hw _ (List.mem_of_getElem? (i := 44) rfl))) (Or.inr (hw _ (List.mem_of_getElem? (i := 20) rfl))) (by decide) (t := (.array .boolean)) (t' := (.array .int)) (by decide) (by decide)))).ext E_23).other W_26 (Or.inr (slot_ne (Or.inl (hw _ (List.mem_of_getElem? (i := 44) rfl))) (Or.inr (hw _ (List.mem_of_getElem? (i := 22) rfl))) (by decide) (t := (.array .boolean)) (t' := (.array .int)) (by decide) (by decide)))).ext E_29).other W_32 (Or.inr (slot_ne (Or.inl (hw _ (List.mem_of_getElem? (i := 44) rfl))) (Or.inr (hw _ (List.mem_of_getElem? (i := 24) rfl))) (by decide) (t := (.array .boolean)) (t' := (.array .int)) (by decide) (by decide)))).ext E_35).other W_38 (Or.inr (slot_ne (Or.inl (hw _ (List.mem_of_getElem? (i := 44) rfl))) (Or.inr (hw _ (List.mem_of_getElem? (i := 27) rfl))) (by decide) (t := (.array .boolean)) (t' := (.array .long)) (by decide) (by decide)))).keep K_41 (ninS (Nat.ne_of_lt (Nat.lt_of_lt_of_le (Fa_12.same W_14).lt (Nat.le_of_eq g_17.symm))) nin0))
  have Fa_54 := ((((((((((((((F10.ext E_2).other W_5 (Or.inr (slot_ne (Or.inl (hw _ (List.mem_of_getElem? (i := 55) rfl))) (Or.inl (hw _ (List.mem_of_getElem? (i := 13) rfl))) (by decide) (t := .int) (t' := (.array (.array .long))) (by decide) (by decide)))).ext E_8).other W_11 (Or.inr (slot_ne (Or.inl (hw _ (List.mem_of_getElem? (i := 55) rfl))) (Or.inl (hw _ (List.mem_of_getElem? (i := 16) rfl))) (by decide) (t := .int) (t' := (.array .int)) (by decide) (by decide)))).other W_14 (Or.inr (slot_ne (Or.inl (hw _ (List.mem_of_getElem? (i := 55) rfl))) (Or.inr (hw _ (List.mem_of_getElem? (i := 18) rfl))) (by decide) (t := .int) (t' := .int) (by decide) (by decide)))).ext E_17).other W_20 (Or.inr (slot_ne (Or.inl (hw _ (List.mem_of_getElem? (i := 55) rfl))) (Or.inr (hw _ (List.mem_of_getElem? (i := 20) rfl))) (by decide) (t := .int) (t' := (.array .int)) (by decide) (by decide)))).ext E_23).other W_26 (Or.inr (slot_ne (Or.inl (hw _ (List.mem_of_getElem? (i := 55) rfl))) (Or.inr (hw _ (List.mem_of_getElem? (i := 22) rfl))) (by decide) (t := .int) (t' := (.array .int)) (by decide) (by decide)))).ext E_29).other W_32 (Or.inr (slot_ne (Or.inl (hw _ (List.mem_of_getElem? (i := 55) rfl))) (Or.inr (hw _ (List.mem_of_getElem? (i := 24) rfl))) (by decide) (t := .int) (t' := (.array .int)) (by decide) (by decide)))).ext E_35).other W_38 (Or.inr (slot_ne (Or.inl (hw _ (List.mem_of_getElem? (i := 55) rfl))) (Or.inr (hw _ (List.mem_of_getElem? (i := 27) rfl))) (by decide) (t := .int) (t' := (.array .long)) (by decide) (by decide)))).keep K_41 (ninS (Nat.ne_of_lt (Nat.lt_of_lt_of_le (Fa_12.same W_14).lt (Nat.le_of_eq g_17.symm))) nin0))
  have Fa_55 := ((((((V_23.other W_26 (Ne.symm (Nat.ne_of_lt (Nat.lt_of_lt_of_le (Fa_18.same W_20).lt (Nat.le_of_eq g_23.symm))))).ext E_29).other W_32 (Ne.symm (Nat.ne_of_lt (Nat.lt_of_lt_of_le (Fa_18.same W_20).lt (Nat.le_of_eq g_23.symm))))).ext E_35).other W_38 (Ne.symm (Nat.ne_of_lt (Nat.lt_of_lt_of_le (Fa_18.same W_20).lt (Nat.le_of_eq g_23.symm))))).keep K_41 (ninS (Ne.symm (Nat.ne_of_lt (Nat.lt_of_lt_of_le (V_17.other W_20 (Ne.symm (Nat.ne_of_lt (Nat.lt_of_lt_of_le (Fa_12.same W_14).lt (Nat.le_of_eq g_17.symm))))).lt (Nat.le_of_eq g_23.symm)))) nin0))
  have Fa_56 := ((((V_29.other W_32 (Ne.symm (Nat.ne_of_lt (Nat.lt_of_lt_of_le (Fa_24.same W_26).lt (Nat.le_of_eq g_29.symm))))).ext E_35).other W_38 (Ne.symm (Nat.ne_of_lt (Nat.lt_of_lt_of_le (Fa_24.same W_26).lt (Nat.le_of_eq g_29.symm))))).keep K_41 (ninS (Ne.symm (Nat.ne_of_lt (Nat.lt_of_lt_of_le (((V_17.other W_20 (Ne.symm (Nat.ne_of_lt (Nat.lt_of_lt_of_le (Fa_12.same W_14).lt (Nat.le_of_eq g_17.symm))))).ext E_23).other W_26 (Ne.symm (Nat.ne_of_lt (Nat.lt_of_lt_of_le (Fa_12.same W_14).lt (Nat.le_of_eq g_17.symm))))).lt (Nat.le_of_eq g_29.symm)))) nin0))
  have Fa_57 := ((V_35.other W_38 (Ne.symm (Nat.ne_of_lt (Nat.lt_of_lt_of_le (Fa_30.same W_32).lt (Nat.le_of_eq g_35.symm))))).keep K_41 (ninS (Ne.symm (Nat.ne_of_lt (Nat.lt_of_lt_of_le (((((V_17.other W_20 (Ne.symm (Nat.ne_of_lt (Nat.lt_of_lt_of_le (Fa_12.same W_14).lt (Nat.le_of_eq g_17.symm))))).ext E_23).other W_26 (Ne.symm (Nat.ne_of_lt (Nat.lt_of_lt_of_le (Fa_12.same W_14).lt (Nat.le_of_eq g_17.symm))))).ext E_29).other W_32 (Ne.symm (Nat.ne_of_lt (Nat.lt_of_lt_of_le (Fa_12.same W_14).lt (Nat.le_of_eq g_17.symm))))).lt (Nat.le_of_eq g_35.symm)))) nin0))
  have Zs_58 : n0 ≤ T_41.heap.size := (Nat.le_trans Zs_43 K_41.1)
  obtain ⟨cq_44, q_44, q_44'⟩ := Fa_45.cell
  obtain ⟨_, _, ⟨T_44, L_44, k_44, n_44⟩, -, X_44, ⟨Lc_44, hQ_44, l_44, y_44, z_44⟩, st_44⟩ := X_41.privateBack hx (y := (⟨"com/example/causyn/causyn/analysis/MarkingStore", "layOut", "()V"⟩ : MethodName)) hown (mvT hZ (hw _ (List.mem_of_getElem? (i := 32) rfl))) (mvT hZ (hw _ (List.mem_of_getElem? (i := 33) rfl))) (own_selP (y := (⟨"com/example/causyn/causyn/analysis/MarkingStore", "layOut", "()V"⟩ : MethodName)) (mvT hZ (hw _ (List.mem_of_getElem? (i := 2) rfl))) (mvT hZ (hw _ (List.mem_of_getElem? (i := 33) rfl))) (Cond.privateMethod_at (mvP hZ (hw _ (List.mem_of_getElem? (i := 34) rfl)) (args := #[]))) (by decide)) (Cond.privateMethod_at (mvP hZ (hw _ (List.mem_of_getElem? (i := 34) rfl)) (args := #[]))) (mvT hZ (hw _ (List.mem_of_getElem? (i := 35) rfl))) (by decide) (backOf (W := 0) (rmlay l Z a0 hw [] a1 b_17 b_23 b_29 b_35 k_17 k_23 k_29 k_35 N (fun _ => (0 : Int32)) (fun _ => (0 : Int32)) (fun _ => (0 : Int64)) T_41.heap n0 Zs_58 Fa_45 g1 Fa_46 Fa_47 Fa_48 Fa_49 Fa_50 Fa_51 Fa_52 Fa_53 Fa_54 Fq_41_0 Fa_55 Fa_56 Fa_57 gg_23 gg_29 gg_35 (Ne.symm (Nat.ne_of_lt (Nat.lt_of_lt_of_le (Fa_12.same W_14).lt (Nat.le_of_eq g_17.symm)))) (Ne.symm (Nat.ne_of_lt (Nat.lt_of_lt_of_le (Fa_18.same W_20).lt (Nat.le_of_eq g_23.symm)))) (Ne.symm (Nat.ne_of_lt (Nat.lt_of_lt_of_le (Fa_24.same W_26).lt (Nat.le_of_eq g_29.symm)))) (Ne.symm (Nat.ne_of_lt (Nat.lt_of_lt_of_le (Fa_30.same W_32).lt (Nat.le_of_eq g_35.symm)))) (Ne.symm (Nat.ne_of_lt (Nat.lt_of_lt_of_le (V_17.other W_20 (Ne.symm (Nat.ne_of_lt (Nat.lt_of_lt_of_le (Fa_12.same W_14).lt (Nat.le_of_eq g_17.symm))))).lt (Nat.le_of_eq g_23.symm)))) (Ne.symm (Nat.ne_of_lt (Nat.lt_of_lt_of_le (((V_17.other W_20 (Ne.symm (Nat.ne_of_lt (Nat.lt_of_lt_of_le (Fa_12.same W_14).lt (Nat.le_of_eq g_17.symm))))).ext E_23).other W_26 (Ne.symm (Nat.ne_of_lt (Nat.lt_of_lt_of_le (Fa_12.same W_14).lt (Nat.le_of_eq g_17.symm))))).lt (Nat.le_of_eq g_29.symm)))) (Ne.symm (Nat.ne_of_lt (Nat.lt_of_lt_of_le (((((V_17.other W_20 (Ne.symm (Nat.ne_of_lt (Nat.lt_of_lt_of_le (Fa_12.same W_14).lt (Nat.le_of_eq g_17.symm))))).ext E_23).other W_26 (Ne.symm (Nat.ne_of_lt (Nat.lt_of_lt_of_le (Fa_12.same W_14).lt (Nat.le_of_eq g_17.symm))))).ext E_29).other W_32 (Ne.symm (Nat.ne_of_lt (Nat.lt_of_lt_of_le (Fa_12.same W_14).lt (Nat.le_of_eq g_17.symm))))).lt (Nat.le_of_eq g_35.symm)))) (Ne.symm (Nat.ne_of_lt (Nat.lt_of_lt_of_le (V_23.other W_26 (Ne.symm (Nat.ne_of_lt (Nat.lt_of_lt_of_le (Fa_18.same W_20).lt (Nat.le_of_eq g_23.symm))))).lt (Nat.le_of_eq g_29.symm)))) (Ne.symm (Nat.ne_of_lt (Nat.lt_of_lt_of_le (((V_23.other W_26 (Ne.symm (Nat.ne_of_lt (Nat.lt_of_lt_of_le (Fa_18.same W_20).lt (Nat.le_of_eq g_23.symm))))).ext E_29).other W_32 (Ne.symm (Nat.ne_of_lt (Nat.lt_of_lt_of_le (Fa_18.same W_20).lt (Nat.le_of_eq g_23.symm))))).lt (Nat.le_of_eq g_35.symm)))) (Ne.symm (Nat.ne_of_lt (Nat.lt_of_lt_of_le (V_29.other W_32 (Ne.symm (Nat.ne_of_lt (Nat.lt_of_lt_of_le (Fa_24.same W_26).lt (Nat.le_of_eq g_29.symm))))).lt (Nat.le_of_eq g_35.symm)))) hN1 hN2) hZ (hw _ (List.mem_of_getElem? (i := 35) rfl)) (hw _ (List.mem_of_getElem? (i := 3) rfl)) (by decide) (by decide)) (g := (mkF m 63 #[rv a1, iv N] [(.ref a1)])) rfl (by rw [hml]; rfl) (Steps.refl _) (a := a1) q_44 q_44' (argsL := []) (rest := []) (lenOf pd_4 rfl) rfl (by show 2 * 0 + _ ≤ _; exact Nat.le_of_eq rfl) (hb hby d1_63) (fun _ _ => ⟨rfl, rfl, (by decide : 6 + 8 ≤ _), (by decide : 2048 + 272 ≤ _)⟩)
  dsimp only [Pt.U, Pt.locs, Pt.cells, Pt.slots] at X_44 l_44 y_44 z_44 st_44 hQ_44
  subst l_44 y_44 z_44
  obtain ⟨go1__44, gs1__44, gm1__44, rfl, Nq_44, K_44, Fq_44_0, Fq_44_1, Fq_44_2, Fq_44_3, Fq_44_4, Fq_44_5, Pq_44_0, Pq_44_1, Pq_44_2⟩ := hQ_44
  have N_44 := Fr.app N_41 Nq_44
  refine own_tr st_44 ?_
  show own_Go _ _ _ _ (T_44.setTop (mkF m 66 #[rv a1, iv N] []))
  have Kp_59 : Keep h0 T_44.heap [a1] := ((((Kp_34.ext E_35).wr W_38 (Or.inl (List.mem_of_getElem? (i := 0) rfl))).trans K_41 (allS (Or.inr sz_17) all0)).trans K_44 (allS (Or.inl (List.mem_of_getElem? (i := 0) rfl)) (allS (Or.inr sz_23) (allS (Or.inr sz_29) (allS (Or.inr sz_35) all0)))))
  exact own_end X_44 rfl (v := none) (fun _ => rfl) hlk (fun fs hr => X_44.returnOut hx Bd.returns (hb hby d1_66) hr) (Q := Q_rm1 Z a0 a1 N h0 n0) ⟨b_23, b_29, b_35, k_23, k_29, k_35, go1__44, gs1__44, gm1__44, rfl, N_44, Kp_59, gg_23, sz_23, gg_29, sz_29, gg_35, sz_35, Fq_44_0, Fq_44_1, Fq_44_2, Fq_44_3, Fq_44_4, Fq_44_5, Pq_44_0, Pq_44_1, Pq_44_2⟩ (by decide) (by decide)
theorem d7_0 : decode prog_3_method_4_code 0 = .ok (.aload_n 1, 1) := by decide +kernel
theorem d7_1 : decode prog_3_method_4_code 1 = .ok (.aload_n 0, 1) := by decide +kernel
theorem d7_2 : decode prog_3_method_4_code 2 = .ok (.getfield 26, 3) := by decide +kernel
theorem d7_5 : decode prog_3_method_4_code 5 = .ok (.iload_n 2, 1) := by decide +kernel
theorem d7_6 : decode prog_3_method_4_code 6 = .ok (.iaload, 1) := by decide +kernel
theorem d7_7 : decode prog_3_method_4_code 7 = .ok (.laload, 1) := by decide +kernel
theorem d7_8 : decode prog_3_method_4_code 8 = .ok (.aload_n 0, 1) := by decide +kernel
theorem d7_9 : decode prog_3_method_4_code 9 = .ok (.getfield 29, 3) := by decide +kernel
theorem d7_12 : decode prog_3_method_4_code 12 = .ok (.iload_n 2, 1) := by decide +kernel
theorem d7_13 : decode prog_3_method_4_code 13 = .ok (.iaload, 1) := by decide +kernel
theorem d7_14 : decode prog_3_method_4_code 14 = .ok (.lushr, 1) := by decide +kernel
theorem d7_15 : decode prog_3_method_4_code 15 = .ok (.aload_n 0, 1) := by decide +kernel
theorem d7_16 : decode prog_3_method_4_code 16 = .ok (.getfield 32, 3) := by decide +kernel
theorem d7_19 : decode prog_3_method_4_code 19 = .ok (.iload_n 2, 1) := by decide +kernel
theorem d7_20 : decode prog_3_method_4_code 20 = .ok (.laload, 1) := by decide +kernel
theorem d7_21 : decode prog_3_method_4_code 21 = .ok (.land, 1) := by decide +kernel
theorem d7_22 : decode prog_3_method_4_code 22 = .ok (.lreturn, 1) := by decide +kernel
theorem ef_rm7 (m : MethodId) (a1 : Addr) (a2 : Addr) (p3 : Int32) : entryFrame m #[(.ref a1), (.ref a2), (.int p3)] 3 = mkF m 0 #[rv a1, rv a2, iv p3] [] := by first | (simp [entryFrame, mkF, argsToLocals, Value.category]; done) | rfl
def Q_rm7 (Z : State) (a0 : Array Value) (a1 : Addr) (a2 : Addr) (p3 : Int32) (ao : Addr) (asx : Addr) (am : Addr) (ko : ClassId) (ks : ClassId) (km : ClassId) (kp : ClassId) (N : Int32) (vo : List Value) (vs : List Value) (vm : List Value) (vp : List Value) (d1 : Value) (d2 : Value) (d3 : Value) (d4 : Value) (x1 : Int32) (x2 : Int32) (x3 : Int64) (y : Int64) (h0 : Heap) (n0 : Nat) (v : Option Value) (h : Heap) (L : List Loc) : Prop := v = some (.long (((y.toUInt64 >>> (x2 &&& 0x3f).toInt64.toUInt64).toInt64) &&& x3)) ∧ Fr n0 L ∧ h = h0
set_option maxRecDepth 65536 in
set_option maxHeartbeats 40000000 in
theorem rm7 (l : Launch) (Z : State) (a0 : Array Value) (hw : ∀ d ∈ tables_1, d.before a0 Z = true) (ws : List Jvm.Cond) (a1 : Addr) (a2 : Addr) (p3 : Int32) (ao : Addr) (asx : Addr) (am : Addr) (ko : ClassId) (ks : ClassId) (km : ClassId) (kp : ClassId) (N : Int32) (vo : List Value) (vs : List Value) (vm : List Value) (vp : List Value) (d1 : Value) (d2 : Value) (d3 : Value) (d4 : Value) (x1 : Int32) (x2 : Int32) (x3 : Int64) (y : Int64) (h0 : Heap) (n0 : Nat) (Z0 : n0 ≤ h0.size) (E1 : Exa Z h0 a1 "com/example/causyn/causyn/analysis/MarkingStore") (Fo : Fld Z h0 a1 "com/example/causyn/causyn/analysis/MarkingStore" "word" "[I" (.ref ao)) (Fs : Fld Z h0 a1 "com/example/causyn/causyn/analysis/MarkingStore" "shift" "[I" (.ref asx)) (Fm : Fld Z h0 a1 "com/example/causyn/causyn/analysis/MarkingStore" "mask" "[J" (.ref am)) (Vo : Arv Z h0 ao ko .int N vo d1) (Vs : Arv Z h0 asx ks .int N vs d2) (Vm : Arv Z h0 am km .long N vm d3) (Vp : Arv Z h0 a2 kp .long (4 : Int32) vp d4) (hp0 : ¬ p3 < 0) (hp1 : p3 < N) (hx0 : ¬ x1 < 0) (hx4 : x1 < (4 : Int32)) (h1 : vo.getD p3.toNatClampNeg d1 = .int x1) (h2 : vs.getD p3.toNatClampNeg d2 = .int x2) (h3 : vm.getD p3.toNatClampNeg d3 = .long x3) (h4 : vp.getD x1.toNatClampNeg d4 = .long y) :
    MetFree l (⟨"com/example/causyn/causyn/analysis/MarkingStore", "tokens", "([JI)J"⟩ : MethodName) (head1 (Jvm.Cond.code (⟨"com/example/causyn/causyn/analysis/MarkingStore", "tokens", "([JI)J"⟩ : MethodName) prog_3_method_4_code 3 (some .long) :: ws) ({ frames := 0, cells := 0, slots := 0, locals := 0 } : Room)) (fun a U => a = #[(.ref a1), (.ref a2), (.int p3)] ∧ Z.Warmed39 U.vm ∧ U.heap = h0) (fun _ _ _ _ _ => True) (fun _ U o U' => ∃ v L, o = .returned v ∧ Q_rm7 Z a0 a1 a2 p3 ao asx am ko ks km kp N vo vs vm vp d1 d2 d3 d4 x1 x2 x3 y h0 n0 v U'.heap L ∧ FrameEnd U o U' L ({ frames := 0, cells := 0, slots := 0, locals := 0 } : Room).cells ({ frames := 0, cells := 0, slots := 0, locals := 0 } : Room).slots) := by
  refine MetFree.of_bodySF (plainFor_of_name pn_4) hisR ?_
  intro p e s m args below meth c s₁ Bd hml0 hP hK
  obtain ⟨rfl, hZ, hh⟩ := hP
  have hx := Bd.exec
  have hby := Bd.bytes
  have hml : c.maxLocals = 3 := hml0
  have hown : s.vm.findClass "com/example/causyn/causyn/analysis/MarkingStore" = some m.cls := findClass_of_methodNamed Bd.named
  have hnm := (name_of_methodNamed Bd.named Bd.method).1
  have hlk : meth.locks = false := BodyLoose.notSynchronized (by assumption)
  have X0 : Stand p l e ({ frames := 0, cells := 0, slots := 0, locals := 0 } : Room) s m #[(.ref a1), (.ref a2), (.int p3)] below meth c s₁ [] 0 0 := Stand.of_body Bd
  have e0 : s₁.heap = h0 := by rw [← hh, Bd.state]; rfl
  have N0 := Fr.nil n0
  show own_Go p.tables e below (fun o U' => ∃ v L, o = .returned v ∧ Q_rm7 Z a0 a1 a2 p3 ao asx am ko ks km kp N vo vs vm vp d1 d2 d3 d4 x1 x2 x3 y h0 n0 v U'.heap L ∧ FrameEnd s o U' L ({ frames := 0, cells := 0, slots := 0, locals := 0 } : Room).cells ({ frames := 0, cells := 0, slots := 0, locals := 0 } : Room).slots) (s₁.setTop (entryFrame m #[(.ref a1), (.ref a2), (.int p3)] 3))
  refine own_st (fun t k => castTop (ef_rm7 m a1 a2 p3) k) ?_
  show own_Go _ _ _ _ (s₁.setTop (mkF m 0 #[rv a1, rv a2, iv p3] []))
  refine o_aloadN X0 hx (hb hby d7_0) rfl rfl ?_
  refine o_aloadN X0 hx (hb hby d7_1) rfl rfl ?_
  obtain ⟨T_1, X_1, e_1, st_1⟩ := getF X0 hx hZ hown (host := "") (Or.inl (hw _ (List.mem_of_getElem? (i := 21) rfl))) Via.refl e0 Fo (g := (mkF m 2 #[rv a1, rv a2, iv p3] [(.ref a1), (.ref a2)])) rfl rfl (hb hby d7_2)
  refine own_st st_1 ?_
  show own_Go _ _ _ _ (T_1.setTop (mkF m 5 #[rv a1, rv a2, iv p3] [(.ref ao), (.ref a2)]))
  refine o_iloadN X_1 hx (hb hby d7_5) rfl ?_
  obtain ⟨cl_2, Ar_2, qk_2, Sz_2, Ng_2, Hs_2, Gs_2⟩ := id Vo
  refine own_st (X_1.iaload hx (j := p3) (v := (.int x1)) (by rw [e_1]; exact Ar_2.1) (State.isArrayOf_alike hZ.alike Ar_2.2.1) Ar_2.2.2 (inb_of Sz_2 ⟨hp0, hp1⟩) (Hs_2.at (j := p3) (inb_of Sz_2 ⟨hp0, hp1⟩) h1) (g := (mkF m 6 #[rv a1, rv a2, iv p3] [(.int p3), (.ref ao), (.ref a2)])) rfl rfl (hb hby d7_6)) ?_
  show own_Go _ _ _ _ (T_1.setTop (mkF m 7 #[rv a1, rv a2, iv p3] [(.int x1), (.ref a2)]))
  obtain ⟨cl_3, Ar_3, qk_3, Sz_3, Ng_3, Hs_3, Gs_3⟩ := id Vp
  refine own_st (X_1.laload hx (j := x1) (v := (.long y)) (by rw [e_1]; exact Ar_3.1) (State.isArrayOf_alike hZ.alike Ar_3.2.1) Ar_3.2.2 (inb_of Sz_3 ⟨hx0, hx4⟩) (Hs_3.at (j := x1) (inb_of Sz_3 ⟨hx0, hx4⟩) h4) (g := (mkF m 7 #[rv a1, rv a2, iv p3] [(.int x1), (.ref a2)])) rfl rfl (hb hby d7_7)) ?_
  show own_Go _ _ _ _ (T_1.setTop (mkF m 8 #[rv a1, rv a2, iv p3] [(.long y)]))
  refine o_aloadN X_1 hx (hb hby d7_8) rfl rfl ?_
  obtain ⟨T_4, X_4, e_4, st_4⟩ := getF X_1 hx hZ hown (host := "") (Or.inl (hw _ (List.mem_of_getElem? (i := 23) rfl))) Via.refl e_1 Fs (g := (mkF m 9 #[rv a1, rv a2, iv p3] [(.ref a1), (.long y)])) rfl rfl (hb hby d7_9)
  refine own_st st_4 ?_
  show own_Go _ _ _ _ (T_4.setTop (mkF m 12 #[rv a1, rv a2, iv p3] [(.ref asx), (.long y)]))
  refine o_iloadN X_4 hx (hb hby d7_12) rfl ?_
  obtain ⟨cl_5, Ar_5, qk_5, Sz_5, Ng_5, Hs_5, Gs_5⟩ := id Vs
  refine own_st (X_4.iaload hx (j := p3) (v := (.int x2)) (by rw [e_4]; exact Ar_5.1) (State.isArrayOf_alike hZ.alike Ar_5.2.1) Ar_5.2.2 (inb_of Sz_5 ⟨hp0, hp1⟩) (Hs_5.at (j := p3) (inb_of Sz_5 ⟨hp0, hp1⟩) h2) (g := (mkF m 13 #[rv a1, rv a2, iv p3] [(.int p3), (.ref asx), (.long y)])) rfl rfl (hb hby d7_13)) ?_
  show own_Go _ _ _ _ (T_4.setTop (mkF m 14 #[rv a1, rv a2, iv p3] [(.int x2), (.long y)]))
  refine o_lushr X_4 hx (hb hby d7_14) ?_
  refine o_aloadN X_4 hx (hb hby d7_15) rfl rfl ?_
  obtain ⟨T_6, X_6, e_6, st_6⟩ := getF X_4 hx hZ hown (host := "") (Or.inl (hw _ (List.mem_of_getElem? (i := 26) rfl))) Via.refl e_4 Fm (g := (mkF m 16 #[rv a1, rv a2, iv p3] [(.ref a1), (.long ((y.toUInt64 >>> (x2 &&& 0x3f).toInt64.toUInt64).toInt64))])) rfl rfl (hb hby d7_16)
  refine own_st st_6 ?_
  show own_Go _ _ _ _ (T_6.setTop (mkF m 19 #[rv a1, rv a2, iv p3] [(.ref am), (.long ((y.toUInt64 >>> (x2 &&& 0x3f).toInt64.toUInt64).toInt64))]))
  refine o_iloadN X_6 hx (hb hby d7_19) rfl ?_
  obtain ⟨cl_7, Ar_7, qk_7, Sz_7, Ng_7, Hs_7, Gs_7⟩ := id Vm
  refine own_st (X_6.laload hx (j := p3) (v := (.long x3)) (by rw [e_6]; exact Ar_7.1) (State.isArrayOf_alike hZ.alike Ar_7.2.1) Ar_7.2.2 (inb_of Sz_7 ⟨hp0, hp1⟩) (Hs_7.at (j := p3) (inb_of Sz_7 ⟨hp0, hp1⟩) h3) (g := (mkF m 20 #[rv a1, rv a2, iv p3] [(.int p3), (.ref am), (.long ((y.toUInt64 >>> (x2 &&& 0x3f).toInt64.toUInt64).toInt64))])) rfl rfl (hb hby d7_20)) ?_
  show own_Go _ _ _ _ (T_6.setTop (mkF m 21 #[rv a1, rv a2, iv p3] [(.long x3), (.long ((y.toUInt64 >>> (x2 &&& 0x3f).toInt64.toUInt64).toInt64))]))
  refine o_land X_6 hx (hb hby d7_21) ?_
  exact own_end X_6 e_6 (v := some (.long (((y.toUInt64 >>> (x2 &&& 0x3f).toInt64.toUInt64).toInt64) &&& x3))) (fun h => by rw [Bd.returns] at h; cases h) hlk (fun fs hr => X_6.lreturnOut hx Bd.returns (hb hby d7_22) hr) (Q := Q_rm7 Z a0 a1 a2 p3 ao asx am ko ks km kp N vo vs vm vp d1 d2 d3 d4 x1 x2 x3 y h0 n0) ⟨rfl, N0, rfl⟩ (by decide) (by decide)
theorem pn_0 : plainName "com/example/causyn/causyn/analysis/MarkingStoreTokensPinLaw" = true := by first | (simp [plainName, overriddenIn]; done) | decide +kernel
theorem pd_5 : parseMethodDescriptor "(I)V" = some ⟨[.int], none⟩ := by decide +kernel
theorem pd_6 : parseMethodDescriptor "([JI)J" = some ⟨[(.array .long), .int], some .long⟩ := by decide +kernel
theorem ef_rm0 (m : MethodId) (p1 : Int32) (p2 : Int32) (q3 : Int64) (q4 : Int64) (q5 : Int64) (q6 : Int64) : entryFrame m #[(.int p1), (.int p2), (.long q3), (.long q4), (.long q5), (.long q6)] maxLocals = mkF m 0 #[iv p1, iv p2, .val (.long q3), .second, .val (.long q4), .second, .val (.long q5), .second, .val (.long q6), .second, .unset, .unset, .unset, .unset, .unset, .unset, .unset, .unset, .unset, .unset] [] := by first | (simp [entryFrame, mkF, argsToLocals, Value.category, maxLocals]; done) | rfl
def Q_rm0 (Z : State) (a0 : Array Value) (p1 : Int32) (p2 : Int32) (q3 : Int64) (q4 : Int64) (q5 : Int64) (q6 : Int64)  (h0 : Heap) (n0 : Nat) (v : Option Value) (h : Heap) (L : List Loc) : Prop := v = some (.int (1 : Int32)) ∧ Fr n0 L ∧ Keep h0 h []
set_option maxRecDepth 65536 in
set_option maxHeartbeats 40000000 in
theorem rm0 (l : Launch) (Z : State) (a0 : Array Value) (hw : ∀ d ∈ tables_1, d.before a0 Z = true) (ws : List Jvm.Cond) (p1 : Int32) (p2 : Int32) (q3 : Int64) (q4 : Int64) (q5 : Int64) (q6 : Int64)  (h0 : Heap) (n0 : Nat) (Z0 : n0 ≤ h0.size) :
    MetFree l x (head1 (Jvm.Cond.code x code maxLocals ret :: ws) room_1) (fun a U => a = #[(.int p1), (.int p2), (.long q3), (.long q4), (.long q5), (.long q6)] ∧ Z.Warmed39 U.vm ∧ U.heap = h0) (fun _ _ _ _ _ => True) (fun _ U o U' => ∃ v L, o = .returned v ∧ Q_rm0 Z a0 p1 p2 q3 q4 q5 q6 h0 n0 v U'.heap L ∧ FrameEnd U o U' L room_1.cells room_1.slots) := by
  refine MetFree.of_bodySF (plainFor_of_name pn_0) hisR ?_
  intro p e s m args below meth c s₁ Bd hml0 hP hK
  obtain ⟨rfl, hZ, hh⟩ := hP
  have hx := Bd.exec
  have hby := Bd.bytes
  have hml : c.maxLocals = 20 := hml0
  have hown : s.vm.findClass "com/example/causyn/causyn/analysis/MarkingStoreTokensPinLaw" = some m.cls := findClass_of_methodNamed Bd.named
  have hnm := (name_of_methodNamed Bd.named Bd.method).1
  have hlk : meth.locks = false := BodyLoose.notSynchronized (by assumption)
  have X0 : Stand p l e room_1 s m #[(.int p1), (.int p2), (.long q3), (.long q4), (.long q5), (.long q6)] below meth c s₁ [] 0 0 := Stand.of_body Bd
  have e0 : s₁.heap = h0 := by rw [← hh, Bd.state]; rfl
  have N0 := Fr.nil n0
  show own_Go p.tables e below (fun o U' => ∃ v L, o = .returned v ∧ Q_rm0 Z a0 p1 p2 q3 q4 q5 q6 h0 n0 v U'.heap L ∧ FrameEnd s o U' L room_1.cells room_1.slots) (s₁.setTop (entryFrame m #[(.int p1), (.int p2), (.long q3), (.long q4), (.long q5), (.long q6)] maxLocals))
  refine own_st (fun t k => castTop (ef_rm0 m p1 p2 q3 q4 q5 q6) k) ?_
  show own_Go _ _ _ _ (s₁.setTop (mkF m 0 #[iv p1, iv p2, .val (.long q3), .second, .val (.long q4), .second, .val (.long q5), .second, .val (.long q6), .second, .unset, .unset, .unset, .unset, .unset, .unset, .unset, .unset, .unset, .unset] []))
  refine o_iconst X0 hx 1 (hb hby at_0) rfl ?_
  refine o_iloadN X0 hx (hb hby at_1) rfl ?_
  refine o_sipush X0 hx 255 (hb hby at_2) rfl ?_
  refine o_iand X0 hx (hb hby at_5) ?_
  refine o_iadd X0 hx (hb hby at_6) ?_
  refine o_istore X0 hx (hb hby at_7) (l' := #[iv p1, iv p2, .val (.long q3), .second, .val (.long q4), .second, .val (.long q5), .second, .val (.long q6), .second, iv ((1 : Int32) + (p1 &&& (255 : Int32))), .unset, .unset, .unset, .unset, .unset, .unset, .unset, .unset, .unset]) rfl ?_
  refine o_iloadN X0 hx (hb hby at_9) rfl ?_
  refine o_ldc X0 hx hown (hb hby at_10) (mvT hZ (hw _ (List.mem_of_getElem? (i := 0) rfl))) ?_
  refine o_iand X0 hx (hb hby at_12) ?_
  refine o_iload X0 hx (hb hby at_13) rfl ?_
  refine o_irem X0 hx (hb hby at_15) (own_Nnz p1) ?_
  refine o_istore X0 hx (hb hby at_16) (l' := #[iv p1, iv p2, .val (.long q3), .second, .val (.long q4), .second, .val (.long q5), .second, .val (.long q6), .second, iv ((1 : Int32) + (p1 &&& (255 : Int32))), iv ((p2 &&& (2147483647 : Int32)) - (p2 &&& (2147483647 : Int32)) / ((1 : Int32) + (p1 &&& (255 : Int32))) * ((1 : Int32) + (p1 &&& (255 : Int32)))), .unset, .unset, .unset, .unset, .unset, .unset, .unset, .unset]) rfl ?_
  obtain ⟨T_1, h_1, X_1, e_1, E_1, A_1, D_1, -, st_1⟩ := newO X0 hx hZ hown (hw _ (List.mem_of_getElem? (i := 1) rfl)) (hw _ (List.mem_of_getElem? (i := 2) rfl)) (hw _ (List.mem_of_getElem? (i := 3) rfl)) e0 (g := (mkF m 18 #[iv p1, iv p2, .val (.long q3), .second, .val (.long q4), .second, .val (.long q5), .second, .val (.long q6), .second, iv ((1 : Int32) + (p1 &&& (255 : Int32))), iv ((p2 &&& (2147483647 : Int32)) - (p2 &&& (2147483647 : Int32)) / ((1 : Int32) + (p1 &&& (255 : Int32))) * ((1 : Int32) + (p1 &&& (255 : Int32)))), .unset, .unset, .unset, .unset, .unset, .unset, .unset, .unset] [])) rfl (hb hby at_18) (by decide) (by decide)
  obtain ⟨b_1, g_1⟩ : ∃ z, z = h0.size := ⟨_, rfl⟩
  rw [← g_1] at A_1 D_1 st_1
  have gg_1 : n0 ≤ b_1 := Nat.le_trans Z0 (Nat.le_of_eq g_1.symm)
  have sz_1 : h0.size ≤ b_1 := Nat.le_trans (Keep.refl h0 []).1 (Nat.le_of_eq g_1.symm)
  have Fi_1_chunks : Fld Z h_1 b_1 "com/example/causyn/causyn/analysis/MarkingStore" "chunks" "[[J" .null := D_1 (Or.inl (hw _ (List.mem_of_getElem? (i := 13) rfl))) (ty := (.array (.array .long))) (by decide)
  have Fi_1_table : Fld Z h_1 b_1 "com/example/causyn/causyn/analysis/MarkingStore" "table" "[I" .null := D_1 (Or.inl (hw _ (List.mem_of_getElem? (i := 16) rfl))) (ty := (.array .int)) (by decide)
  have Fi_1_places : Fld Z h_1 b_1 "com/example/causyn/causyn/analysis/MarkingStore" "places" "I" (.int (0 : Int32)) := D_1 (Or.inr (hw _ (List.mem_of_getElem? (i := 18) rfl))) (ty := .int) (by decide)
  have Fi_1_width : Fld Z h_1 b_1 "com/example/causyn/causyn/analysis/MarkingStore" "width" "[I" .null := D_1 (Or.inr (hw _ (List.mem_of_getElem? (i := 20) rfl))) (ty := (.array .int)) (by decide)
  have Fi_1_word : Fld Z h_1 b_1 "com/example/causyn/causyn/analysis/MarkingStore" "word" "[I" .null := D_1 (Or.inr (hw _ (List.mem_of_getElem? (i := 22) rfl))) (ty := (.array .int)) (by decide)
  have Fi_1_shift : Fld Z h_1 b_1 "com/example/causyn/causyn/analysis/MarkingStore" "shift" "[I" .null := D_1 (Or.inr (hw _ (List.mem_of_getElem? (i := 24) rfl))) (ty := (.array .int)) (by decide)
  have Fi_1_mask : Fld Z h_1 b_1 "com/example/causyn/causyn/analysis/MarkingStore" "mask" "[J" .null := D_1 (Or.inr (hw _ (List.mem_of_getElem? (i := 27) rfl))) (ty := (.array .long)) (by decide)
  have Fi_1_words : Fld Z h_1 b_1 "com/example/causyn/causyn/analysis/MarkingStore" "words" "I" (.int (0 : Int32)) := D_1 (Or.inl (hw _ (List.mem_of_getElem? (i := 37) rfl))) (ty := .int) (by decide)
  have Fi_1_placesInWord : Fld Z h_1 b_1 "com/example/causyn/causyn/analysis/MarkingStore" "placesInWord" "[[I" .null := D_1 (Or.inl (hw _ (List.mem_of_getElem? (i := 41) rfl))) (ty := (.array (.array .int))) (by decide)
  have Fi_1_bitsOnly : Fld Z h_1 b_1 "com/example/causyn/causyn/analysis/MarkingStore" "bitsOnly" "[Z" .null := D_1 (Or.inl (hw _ (List.mem_of_getElem? (i := 44) rfl))) (ty := (.array .boolean)) (by decide)
  have Fi_1_chunkBits : Fld Z h_1 b_1 "com/example/causyn/causyn/analysis/MarkingStore" "chunkBits" "I" (.int (0 : Int32)) := D_1 (Or.inl (hw _ (List.mem_of_getElem? (i := 55) rfl))) (ty := .int) (by decide)
  refine own_st st_1 ?_
  show own_Go _ _ _ _ (T_1.setTop (mkF m 21 #[iv p1, iv p2, .val (.long q3), .second, .val (.long q4), .second, .val (.long q5), .second, .val (.long q6), .second, iv ((1 : Int32) + (p1 &&& (255 : Int32))), iv ((p2 &&& (2147483647 : Int32)) - (p2 &&& (2147483647 : Int32)) / ((1 : Int32) + (p1 &&& (255 : Int32))) * ((1 : Int32) + (p1 &&& (255 : Int32)))), .unset, .unset, .unset, .unset, .unset, .unset, .unset, .unset] [(.ref b_1)]))
  refine o_dup X_1 hx (hb hby at_21) rfl ?_
  refine o_iload X_1 hx (hb hby at_22) rfl ?_
  have Zs_3 : n0 ≤ h_1.size := (Nat.le_trans Z0 E_1.1)
  obtain ⟨_, _, ⟨T_2, L_2, k_2, n_2⟩, -, X_2, ⟨Lc_2, hQ_2, l_2, y_2, z_2⟩, st_2⟩ := X_1.specialBack hx (y := (⟨"com/example/causyn/causyn/analysis/MarkingStore", "<init>", "(I)V"⟩ : MethodName)) rfl hown (mvT hZ (hw _ (List.mem_of_getElem? (i := 4) rfl))) (mvT hZ (hw _ (List.mem_of_getElem? (i := 5) rfl))) (mvT hZ (hw _ (List.mem_of_getElem? (i := 6) rfl))) (by decide) (backOf (W := 1) (rm1 l Z a0 hw [] b_1 ((1 : Int32) + (p1 &&& (255 : Int32)))  h_1 n0 Zs_3 A_1 gg_1 Fi_1_chunks Fi_1_table Fi_1_places Fi_1_width Fi_1_word Fi_1_shift Fi_1_mask Fi_1_words Fi_1_placesInWord Fi_1_bitsOnly Fi_1_chunkBits (own_Nb1 p1) (own_Nb2 p1)) hZ (hw _ (List.mem_of_getElem? (i := 6) rfl)) (hw _ (List.mem_of_getElem? (i := 3) rfl)) (by decide) (by decide)) (g := (mkF m 24 #[iv p1, iv p2, .val (.long q3), .second, .val (.long q4), .second, .val (.long q5), .second, .val (.long q6), .second, iv ((1 : Int32) + (p1 &&& (255 : Int32))), iv ((p2 &&& (2147483647 : Int32)) - (p2 &&& (2147483647 : Int32)) / ((1 : Int32) + (p1 &&& (255 : Int32))) * ((1 : Int32) + (p1 &&& (255 : Int32)))), .unset, .unset, .unset, .unset, .unset, .unset, .unset, .unset] [(.int ((1 : Int32) + (p1 &&& (255 : Int32)))), (.ref b_1), (.ref b_1)])) rfl (by rw [hml]; rfl) (Steps.refl _) (a := b_1) (argsL := [(.int ((1 : Int32) + (p1 &&& (255 : Int32))))]) (rest := [(.ref b_1)]) (lenOf pd_5 rfl) rfl (by show 2 * 0 + _ ≤ _; exact Nat.le_of_eq rfl) (hb hby at_24) (fun _ _ => ⟨rfl, e_1, (by decide : 1 + 14 ≤ _), (by decide : 12 + 2320 ≤ _)⟩)
  dsimp only [Pt.U, Pt.locs, Pt.cells, Pt.slots] at X_2 l_2 y_2 z_2 st_2 hQ_2
  subst l_2 y_2 z_2
  obtain ⟨ao__2, asx__2, am__2, ko__2, ks__2, km__2, go1__2, gs1__2, gm1__2, rfl, Nq_2, K_2, gq_2_ao, sq_2_ao, gq_2_asx, sq_2_asx, gq_2_am, sq_2_am, Fq_2_0, Fq_2_1, Fq_2_2, Fq_2_3, Fq_2_4, Fq_2_5, Pq_2_0, Pq_2_1, Pq_2_2⟩ := hQ_2
  have N_2 := Fr.app N0 Nq_2
  have Kp_4 : Keep h0 h_1 [] := ((Keep.refl h0 []).ext E_1)
  have szq_2_ao : h0.size ≤ ao__2 := Nat.le_trans Kp_4.1 sq_2_ao
  have szq_2_asx : h0.size ≤ asx__2 := Nat.le_trans Kp_4.1 sq_2_asx
  have szq_2_am : h0.size ≤ am__2 := Nat.le_trans Kp_4.1 sq_2_am
  refine own_tr st_2 ?_
  show own_Go _ _ _ _ (T_2.setTop (mkF m 27 #[iv p1, iv p2, .val (.long q3), .second, .val (.long q4), .second, .val (.long q5), .second, .val (.long q6), .second, iv ((1 : Int32) + (p1 &&& (255 : Int32))), iv ((p2 &&& (2147483647 : Int32)) - (p2 &&& (2147483647 : Int32)) / ((1 : Int32) + (p1 &&& (255 : Int32))) * ((1 : Int32) + (p1 &&& (255 : Int32)))), .unset, .unset, .unset, .unset, .unset, .unset, .unset, .unset] [(.ref b_1)]))
  refine o_astore X_2 hx (hb hby at_27) rfl (l' := #[iv p1, iv p2, .val (.long q3), .second, .val (.long q4), .second, .val (.long q5), .second, .val (.long q6), .second, iv ((1 : Int32) + (p1 &&& (255 : Int32))), iv ((p2 &&& (2147483647 : Int32)) - (p2 &&& (2147483647 : Int32)) / ((1 : Int32) + (p1 &&& (255 : Int32))) * ((1 : Int32) + (p1 &&& (255 : Int32)))), rv b_1, .unset, .unset, .unset, .unset, .unset, .unset, .unset]) rfl ?_
  refine o_iconst X_2 hx 4 (hb hby at_29) rfl ?_
  have Zs_5 : n0 ≤ T_2.heap.size := (Nat.le_trans Zs_3 K_2.1)
  have Kp_6 : Keep h0 T_2.heap [] := (Kp_4.trans K_2 (allS (Or.inr sz_1) all0))
  obtain ⟨T_7, h_7, k_7, X_7, e_7, E_7, A_7, st_7⟩ := newP X_2 hx hZ (hw _ (List.mem_of_getElem? (i := 25) rfl)) rfl (g := (mkF m 30 #[iv p1, iv p2, .val (.long q3), .second, .val (.long q4), .second, .val (.long q5), .second, .val (.long q6), .second, iv ((1 : Int32) + (p1 &&& (255 : Int32))), iv ((p2 &&& (2147483647 : Int32)) - (p2 &&& (2147483647 : Int32)) / ((1 : Int32) + (p1 &&& (255 : Int32))) * ((1 : Int32) + (p1 &&& (255 : Int32)))), rv b_1, .unset, .unset, .unset, .unset, .unset, .unset, .unset] [(.int 4)])) rfl (hb hby at_30) rfl (by decide) (cap := 4) (by decide) (by decide) (by decide) (by decide)
  obtain ⟨b_7, g_7⟩ : ∃ z, z = T_2.heap.size := ⟨_, rfl⟩
  rw [← g_7] at A_7 st_7
  have V_7 : Arv Z h_7 b_7 k_7 .long (4 : Int32) [(.long (0 : Int64)), (.long (0 : Int64)), (.long (0 : Int64)), (.long (0 : Int64))] (.long (0 : Int64)) := (Arv.new A_7 (by decide)).pad (pad_rep [] (.long (0 : Int64)) 4)
  have gg_7 : n0 ≤ b_7 := Nat.le_trans Zs_5 (Nat.le_of_eq g_7.symm)
  have sz_7 : h0.size ≤ b_7 := Nat.le_trans Kp_6.1 (Nat.le_of_eq g_7.symm)
  refine own_st st_7 ?_
  show own_Go _ _ _ _ (T_7.setTop (mkF m 32 #[iv p1, iv p2, .val (.long q3), .second, .val (.long q4), .second, .val (.long q5), .second, .val (.long q6), .second, iv ((1 : Int32) + (p1 &&& (255 : Int32))), iv ((p2 &&& (2147483647 : Int32)) - (p2 &&& (2147483647 : Int32)) / ((1 : Int32) + (p1 &&& (255 : Int32))) * ((1 : Int32) + (p1 &&& (255 : Int32)))), rv b_1, .unset, .unset, .unset, .unset, .unset, .unset, .unset] [(.ref b_7)]))
  refine o_dup X_7 hx (hb hby at_32) rfl ?_
  refine o_iconst X_7 hx 0 (hb hby at_33) rfl ?_
  refine o_lloadN X_7 hx (hb hby at_34) rfl ?_
  obtain ⟨cl_8, Ar_8, qk_8, Sz_8, Ng_8, Hs_8, Gs_8⟩ := id V_7
  obtain ⟨T_9, h_9, X_9, e_9, W_9, st_9⟩ := stJ X_7 hx hZ e_7 Ar_8 (j := (0 : Int32)) (inb_of Sz_8 ⟨by decide, by decide⟩) (g := (mkF m 35 #[iv p1, iv p2, .val (.long q3), .second, .val (.long q4), .second, .val (.long q5), .second, .val (.long q6), .second, iv ((1 : Int32) + (p1 &&& (255 : Int32))), iv ((p2 &&& (2147483647 : Int32)) - (p2 &&& (2147483647 : Int32)) / ((1 : Int32) + (p1 &&& (255 : Int32))) * ((1 : Int32) + (p1 &&& (255 : Int32)))), rv b_1, .unset, .unset, .unset, .unset, .unset, .unset, .unset] [(.long q3), (.int 0), (.ref b_7), (.ref b_7)])) rfl rfl (hb hby at_35)
  refine own_st st_9 ?_
  have V_9 : Arv Z h_9 b_7 k_7 .long (4 : Int32) [(.long q3), (.long (0 : Int64)), (.long (0 : Int64)), (.long (0 : Int64))] (.long (0 : Int64)) := Arv.set Ar_8 qk_8 Sz_8 Ng_8 Hs_8 Gs_8 rfl W_9 0 rfl (Nat.le_of_ble_eq_true rfl)
  have N_9 := Fr.snoc X_9 N_2 gg_7
  show own_Go _ _ _ _ (T_9.setTop (mkF m 36 #[iv p1, iv p2, .val (.long q3), .second, .val (.long q4), .second, .val (.long q5), .second, .val (.long q6), .second, iv ((1 : Int32) + (p1 &&& (255 : Int32))), iv ((p2 &&& (2147483647 : Int32)) - (p2 &&& (2147483647 : Int32)) / ((1 : Int32) + (p1 &&& (255 : Int32))) * ((1 : Int32) + (p1 &&& (255 : Int32)))), rv b_1, .unset, .unset, .unset, .unset, .unset, .unset, .unset] [(.ref b_7)]))
  refine o_dup X_9 hx (hb hby at_36) rfl ?_
  refine o_iconst X_9 hx 1 (hb hby at_37) rfl ?_
  refine o_lload X_9 hx (hb hby at_38) rfl ?_
  obtain ⟨cl_10, Ar_10, qk_10, Sz_10, Ng_10, Hs_10, Gs_10⟩ := id V_9
  obtain ⟨T_11, h_11, X_11, e_11, W_11, st_11⟩ := stJ X_9 hx hZ e_9 Ar_10 (j := (1 : Int32)) (inb_of Sz_10 ⟨by decide, by decide⟩) (g := (mkF m 40 #[iv p1, iv p2, .val (.long q3), .second, .val (.long q4), .second, .val (.long q5), .second, .val (.long q6), .second, iv ((1 : Int32) + (p1 &&& (255 : Int32))), iv ((p2 &&& (2147483647 : Int32)) - (p2 &&& (2147483647 : Int32)) / ((1 : Int32) + (p1 &&& (255 : Int32))) * ((1 : Int32) + (p1 &&& (255 : Int32)))), rv b_1, .unset, .unset, .unset, .unset, .unset, .unset, .unset] [(.long q4), (.int 1), (.ref b_7), (.ref b_7)])) rfl rfl (hb hby at_40)
  refine own_st st_11 ?_
  have V_11 : Arv Z h_11 b_7 k_7 .long (4 : Int32) [(.long q3), (.long q4), (.long (0 : Int64)), (.long (0 : Int64))] (.long (0 : Int64)) := Arv.set Ar_10 qk_10 Sz_10 Ng_10 Hs_10 Gs_10 rfl W_11 1 rfl (Nat.le_of_ble_eq_true rfl)
  have N_11 := Fr.snoc X_11 N_9 gg_7
  show own_Go _ _ _ _ (T_11.setTop (mkF m 41 #[iv p1, iv p2, .val (.long q3), .second, .val (.long q4), .second, .val (.long q5), .second, .val (.long q6), .second, iv ((1 : Int32) + (p1 &&& (255 : Int32))), iv ((p2 &&& (2147483647 : Int32)) - (p2 &&& (2147483647 : Int32)) / ((1 : Int32) + (p1 &&& (255 : Int32))) * ((1 : Int32) + (p1 &&& (255 : Int32)))), rv b_1, .unset, .unset, .unset, .unset, .unset, .unset, .unset] [(.ref b_7)]))
  refine o_dup X_11 hx (hb hby at_41) rfl ?_
  refine o_iconst X_11 hx 2 (hb hby at_42) rfl ?_
  refine o_lload X_11 hx (hb hby at_43) rfl ?_
  obtain ⟨cl_12, Ar_12, qk_12, Sz_12, Ng_12, Hs_12, Gs_12⟩ := id V_11
  obtain ⟨T_13, h_13, X_13, e_13, W_13, st_13⟩ := stJ X_11 hx hZ e_11 Ar_12 (j := (2 : Int32)) (inb_of Sz_12 ⟨by decide, by decide⟩) (g := (mkF m 45 #[iv p1, iv p2, .val (.long q3), .second, .val (.long q4), .second, .val (.long q5), .second, .val (.long q6), .second, iv ((1 : Int32) + (p1 &&& (255 : Int32))), iv ((p2 &&& (2147483647 : Int32)) - (p2 &&& (2147483647 : Int32)) / ((1 : Int32) + (p1 &&& (255 : Int32))) * ((1 : Int32) + (p1 &&& (255 : Int32)))), rv b_1, .unset, .unset, .unset, .unset, .unset, .unset, .unset] [(.long q5), (.int 2), (.ref b_7), (.ref b_7)])) rfl rfl (hb hby at_45)
  refine own_st st_13 ?_
  have V_13 : Arv Z h_13 b_7 k_7 .long (4 : Int32) [(.long q3), (.long q4), (.long q5), (.long (0 : Int64))] (.long (0 : Int64)) := Arv.set Ar_12 qk_12 Sz_12 Ng_12 Hs_12 Gs_12 rfl W_13 2 rfl (Nat.le_of_ble_eq_true rfl)
  have N_13 := Fr.snoc X_13 N_11 gg_7
  show own_Go _ _ _ _ (T_13.setTop (mkF m 46 #[iv p1, iv p2, .val (.long q3), .second, .val (.long q4), .second, .val (.long q5), .second, .val (.long q6), .second, iv ((1 : Int32) + (p1 &&& (255 : Int32))), iv ((p2 &&& (2147483647 : Int32)) - (p2 &&& (2147483647 : Int32)) / ((1 : Int32) + (p1 &&& (255 : Int32))) * ((1 : Int32) + (p1 &&& (255 : Int32)))), rv b_1, .unset, .unset, .unset, .unset, .unset, .unset, .unset] [(.ref b_7)]))
  refine o_dup X_13 hx (hb hby at_46) rfl ?_
  refine o_iconst X_13 hx 3 (hb hby at_47) rfl ?_
  refine o_lload X_13 hx (hb hby at_48) rfl ?_
  obtain ⟨cl_14, Ar_14, qk_14, Sz_14, Ng_14, Hs_14, Gs_14⟩ := id V_13
  obtain ⟨T_15, h_15, X_15, e_15, W_15, st_15⟩ := stJ X_13 hx hZ e_13 Ar_14 (j := (3 : Int32)) (inb_of Sz_14 ⟨by decide, by decide⟩) (g := (mkF m 50 #[iv p1, iv p2, .val (.long q3), .second, .val (.long q4), .second, .val (.long q5), .second, .val (.long q6), .second, iv ((1 : Int32) + (p1 &&& (255 : Int32))), iv ((p2 &&& (2147483647 : Int32)) - (p2 &&& (2147483647 : Int32)) / ((1 : Int32) + (p1 &&& (255 : Int32))) * ((1 : Int32) + (p1 &&& (255 : Int32)))), rv b_1, .unset, .unset, .unset, .unset, .unset, .unset, .unset] [(.long q6), (.int 3), (.ref b_7), (.ref b_7)])) rfl rfl (hb hby at_50)
  refine own_st st_15 ?_
  have V_15 : Arv Z h_15 b_7 k_7 .long (4 : Int32) [(.long q3), (.long q4), (.long q5), (.long q6)] (.long (0 : Int64)) := Arv.set Ar_14 qk_14 Sz_14 Ng_14 Hs_14 Gs_14 rfl W_15 3 rfl (Nat.le_of_ble_eq_true rfl)
  have N_15 := Fr.snoc X_15 N_13 gg_7
  show own_Go _ _ _ _ (T_15.setTop (mkF m 51 #[iv p1, iv p2, .val (.long q3), .second, .val (.long q4), .second, .val (.long q5), .second, .val (.long q6), .second, iv ((1 : Int32) + (p1 &&& (255 : Int32))), iv ((p2 &&& (2147483647 : Int32)) - (p2 &&& (2147483647 : Int32)) / ((1 : Int32) + (p1 &&& (255 : Int32))) * ((1 : Int32) + (p1 &&& (255 : Int32)))), rv b_1, .unset, .unset, .unset, .unset, .unset, .unset, .unset] [(.ref b_7)]))
  refine o_astore X_15 hx (hb hby at_51) rfl (l' := #[iv p1, iv p2, .val (.long q3), .second, .val (.long q4), .second, .val (.long q5), .second, .val (.long q6), .second, iv ((1 : Int32) + (p1 &&& (255 : Int32))), iv ((p2 &&& (2147483647 : Int32)) - (p2 &&& (2147483647 : Int32)) / ((1 : Int32) + (p1 &&& (255 : Int32))) * ((1 : Int32) + (p1 &&& (255 : Int32)))), rv b_1, rv b_7, .unset, .unset, .unset, .unset, .unset, .unset]) rfl ?_
  refine o_aload X_15 hx (hb hby at_53) rfl rfl ?_
  refine o_aload X_15 hx (hb hby at_55) rfl rfl ?_
  refine o_iload X_15 hx (hb hby at_57) rfl ?_
  have Fa_17 := ((((((A_1.keep K_2).ext E_7).wr W_9).wr W_11).wr W_13).wr W_15)
  have Fa_18 := (((((Fq_2_0.ext E_7).other W_9 (Or.inl (Nat.ne_of_lt (Nat.lt_of_lt_of_le Fq_2_0.lt (Nat.le_of_eq g_7.symm))))).other W_11 (Or.inl (Nat.ne_of_lt (Nat.lt_of_lt_of_le Fq_2_0.lt (Nat.le_of_eq g_7.symm))))).other W_13 (Or.inl (Nat.ne_of_lt (Nat.lt_of_lt_of_le Fq_2_0.lt (Nat.le_of_eq g_7.symm))))).other W_15 (Or.inl (Nat.ne_of_lt (Nat.lt_of_lt_of_le Fq_2_0.lt (Nat.le_of_eq g_7.symm)))))
  have Fa_19 := (((((Fq_2_1.ext E_7).other W_9 (Or.inl (Nat.ne_of_lt (Nat.lt_of_lt_of_le Fq_2_1.lt (Nat.le_of_eq g_7.symm))))).other W_11 (Or.inl (Nat.ne_of_lt (Nat.lt_of_lt_of_le Fq_2_1.lt (Nat.le_of_eq g_7.symm))))).other W_13 (Or.inl (Nat.ne_of_lt (Nat.lt_of_lt_of_le Fq_2_1.lt (Nat.le_of_eq g_7.symm))))).other W_15 (Or.inl (Nat.ne_of_lt (Nat.lt_of_lt_of_le Fq_2_1.lt (Nat.le_of_eq g_7.symm)))))
  have Fa_20 := (((((Fq_2_2.ext E_7).other W_9 (Or.inl (Nat.ne_of_lt (Nat.lt_of_lt_of_le Fq_2_2.lt (Nat.le_of_eq g_7.symm))))).other W_11 (Or.inl (Nat.ne_of_lt (Nat.lt_of_lt_of_le Fq_2_2.lt (Nat.le_of_eq g_7.symm))))).other W_13 (Or.inl (Nat.ne_of_lt (Nat.lt_of_lt_of_le Fq_2_2.lt (Nat.le_of_eq g_7.symm))))).other W_15 (Or.inl (Nat.ne_of_lt (Nat.lt_of_lt_of_le Fq_2_2.lt (Nat.le_of_eq g_7.symm)))))
  have Fa_21 := (((((Fq_2_3.ext E_7).other W_9 (Nat.ne_of_lt (Nat.lt_of_lt_of_le Fq_2_3.lt (Nat.le_of_eq g_7.symm)))).other W_11 (Nat.ne_of_lt (Nat.lt_of_lt_of_le Fq_2_3.lt (Nat.le_of_eq g_7.symm)))).other W_13 (Nat.ne_of_lt (Nat.lt_of_lt_of_le Fq_2_3.lt (Nat.le_of_eq g_7.symm)))).other W_15 (Nat.ne_of_lt (Nat.lt_of_lt_of_le Fq_2_3.lt (Nat.le_of_eq g_7.symm))))
  have Fa_22 := (((((Fq_2_4.ext E_7).other W_9 (Nat.ne_of_lt (Nat.lt_of_lt_of_le Fq_2_4.lt (Nat.le_of_eq g_7.symm)))).other W_11 (Nat.ne_of_lt (Nat.lt_of_lt_of_le Fq_2_4.lt (Nat.le_of_eq g_7.symm)))).other W_13 (Nat.ne_of_lt (Nat.lt_of_lt_of_le Fq_2_4.lt (Nat.le_of_eq g_7.symm)))).other W_15 (Nat.ne_of_lt (Nat.lt_of_lt_of_le Fq_2_4.lt (Nat.le_of_eq g_7.symm))))
  have Fa_23 := (((((Fq_2_5.ext E_7).other W_9 (Nat.ne_of_lt (Nat.lt_of_lt_of_le Fq_2_5.lt (Nat.le_of_eq g_7.symm)))).other W_11 (Nat.ne_of_lt (Nat.lt_of_lt_of_le Fq_2_5.lt (Nat.le_of_eq g_7.symm)))).other W_13 (Nat.ne_of_lt (Nat.lt_of_lt_of_le Fq_2_5.lt (Nat.le_of_eq g_7.symm)))).other W_15 (Nat.ne_of_lt (Nat.lt_of_lt_of_le Fq_2_5.lt (Nat.le_of_eq g_7.symm))))
  have Zs_24 : n0 ≤ h_15.size := (Nat.le_trans (Nat.le_trans (Nat.le_trans (Nat.le_trans (Nat.le_trans Zs_5 E_7.1) (Keep.of_wr W_9).1) (Keep.of_wr W_11).1) (Keep.of_wr W_13).1) (Keep.of_wr W_15).1)
  obtain ⟨cq_16, kq_16, q_16a, q_16b, q_16c⟩ := isOf hZ e_15 Fa_17
  obtain ⟨_, _, ⟨T_16, L_16, k_16, n_16⟩, -, X_16, ⟨Lc_16, hQ_16, l_16, y_16, z_16⟩, st_16⟩ := X_15.virtualBack hx (y := (⟨"com/example/causyn/causyn/analysis/MarkingStore", "tokens", "([JI)J"⟩ : MethodName)) (z := (⟨"com/example/causyn/causyn/analysis/MarkingStore", "tokens", "([JI)J"⟩ : MethodName)) hown (mvT hZ (hw _ (List.mem_of_getElem? (i := 56) rfl))) (mvT hZ (hw _ (List.mem_of_getElem? (i := 57) rfl))) (notFace_of_selects (args := #[]) (mvT hZ (hw _ (List.mem_of_getElem? (i := 59) rfl)))) (mvT hZ (hw _ (List.mem_of_getElem? (i := 59) rfl))) (mvT hZ (hw _ (List.mem_of_getElem? (i := 58) rfl))) (by decide) (backOf (W := 0) (rm7 l Z a0 hw [] b_1 b_7 ((p2 &&& (2147483647 : Int32)) - (p2 &&& (2147483647 : Int32)) / ((1 : Int32) + (p1 &&& (255 : Int32))) * ((1 : Int32) + (p1 &&& (255 : Int32)))) ao__2 asx__2 am__2 ko__2 ks__2 km__2 k_7 ((1 : Int32) + (p1 &&& (255 : Int32))) (own_LI go1__2 ((1 : Int32) + (p1 &&& (255 : Int32)))) (own_LI gs1__2 ((1 : Int32) + (p1 &&& (255 : Int32)))) (own_LJ gm1__2 ((1 : Int32) + (p1 &&& (255 : Int32)))) [(.long q3), (.long q4), (.long q5), (.long q6)] (.int (0 : Int32)) (.int (0 : Int32)) (.long (0 : Int64)) (.long (0 : Int64)) (((p2 &&& (2147483647 : Int32)) - (p2 &&& (2147483647 : Int32)) / ((1 : Int32) + (p1 &&& (255 : Int32))) * ((1 : Int32) + (p1 &&& (255 : Int32)))) / (64 : Int32)) (((p2 &&& (2147483647 : Int32)) - (p2 &&& (2147483647 : Int32)) / ((1 : Int32) + (p1 &&& (255 : Int32))) * ((1 : Int32) + (p1 &&& (255 : Int32)))) - ((p2 &&& (2147483647 : Int32)) - (p2 &&& (2147483647 : Int32)) / ((1 : Int32) + (p1 &&& (255 : Int32))) * ((1 : Int32) + (p1 &&& (255 : Int32)))) / (64 : Int32) * (64 : Int32)) (1 : Int64) (own_pk q3 q4 q5 q6 (((p2 &&& (2147483647 : Int32)) - (p2 &&& (2147483647 : Int32)) / ((1 : Int32) + (p1 &&& (255 : Int32))) * ((1 : Int32) + (p1 &&& (255 : Int32)))) / (64 : Int32))) h_15 n0 Zs_24 Fa_17 Fa_18 Fa_19 Fa_20 Fa_21 Fa_22 Fa_23 V_15 (own_P0 p1 p2) (own_PN p1 p2) (own_d640 (own_P0 p1 p2)) (own_d644 (own_P0 p1 p2) (own_PN p1 p2) (own_Nb2 p1)) ((own_LI_get (own_P0 p1 p2) (own_PN p1 p2)).trans (congrArg Value.int (own_eqI (Pq_2_0 _ (own_jN (own_P0 p1 p2) (own_PN p1 p2))) (own_d64 (own_P0 p1 p2))))) ((own_LI_get (own_P0 p1 p2) (own_PN p1 p2)).trans (congrArg Value.int (own_eqI (Pq_2_1 _ (own_jN (own_P0 p1 p2) (own_PN p1 p2))) (own_m64 (own_P0 p1 p2))))) ((own_LJ_get (own_P0 p1 p2) (own_PN p1 p2)).trans (congrArg Value.long (Pq_2_2 _ (own_jN (own_P0 p1 p2) (own_PN p1 p2))))) (own_pk_get (own_d640 (own_P0 p1 p2)) (own_d644 (own_P0 p1 p2) (own_PN p1 p2) (own_Nb2 p1)))) hZ (hw _ (List.mem_of_getElem? (i := 60) rfl)) (hw _ (List.mem_of_getElem? (i := 3) rfl)) (by decide) (by decide)) q_16a q_16c (g := (mkF m 59 #[iv p1, iv p2, .val (.long q3), .second, .val (.long q4), .second, .val (.long q5), .second, .val (.long q6), .second, iv ((1 : Int32) + (p1 &&& (255 : Int32))), iv ((p2 &&& (2147483647 : Int32)) - (p2 &&& (2147483647 : Int32)) / ((1 : Int32) + (p1 &&& (255 : Int32))) * ((1 : Int32) + (p1 &&& (255 : Int32)))), rv b_1, rv b_7, .unset, .unset, .unset, .unset, .unset, .unset] [(.int ((p2 &&& (2147483647 : Int32)) - (p2 &&& (2147483647 : Int32)) / ((1 : Int32) + (p1 &&& (255 : Int32))) * ((1 : Int32) + (p1 &&& (255 : Int32))))), (.ref b_7), (.ref b_1)])) rfl (by rw [hml]; rfl) (Steps.refl _) (argsL := [(.ref b_7), (.int ((p2 &&& (2147483647 : Int32)) - (p2 &&& (2147483647 : Int32)) / ((1 : Int32) + (p1 &&& (255 : Int32))) * ((1 : Int32) + (p1 &&& (255 : Int32)))))]) (rest := []) (lenOf pd_6 rfl) rfl (by show 2 * 0 + _ ≤ _; exact Nat.le_of_eq rfl) (hb hby at_59) (fun _ _ => ⟨rfl, e_15, (by decide : 16 + 0 ≤ _), (by decide : 2336 + 0 ≤ _)⟩)
  dsimp only [Pt.U, Pt.locs, Pt.cells, Pt.slots] at X_16 l_16 y_16 z_16 st_16 hQ_16
  subst l_16 y_16 z_16
  obtain ⟨rfl, Nq_16, e_16⟩ := hQ_16
  have N_16 := Fr.app N_15 Nq_16
  refine own_tr st_16 ?_
  show own_Go _ _ _ _ (T_16.setTop (mkF m 62 #[iv p1, iv p2, .val (.long q3), .second, .val (.long q4), .second, .val (.long q5), .second, .val (.long q6), .second, iv ((1 : Int32) + (p1 &&& (255 : Int32))), iv ((p2 &&& (2147483647 : Int32)) - (p2 &&& (2147483647 : Int32)) / ((1 : Int32) + (p1 &&& (255 : Int32))) * ((1 : Int32) + (p1 &&& (255 : Int32)))), rv b_1, rv b_7, .unset, .unset, .unset, .unset, .unset, .unset] [(.long ((((own_pk q3 q4 q5 q6 (((p2 &&& (2147483647 : Int32)) - (p2 &&& (2147483647 : Int32)) / ((1 : Int32) + (p1 &&& (255 : Int32))) * ((1 : Int32) + (p1 &&& (255 : Int32)))) / (64 : Int32))).toUInt64 >>> ((((p2 &&& (2147483647 : Int32)) - (p2 &&& (2147483647 : Int32)) / ((1 : Int32) + (p1 &&& (255 : Int32))) * ((1 : Int32) + (p1 &&& (255 : Int32)))) - ((p2 &&& (2147483647 : Int32)) - (p2 &&& (2147483647 : Int32)) / ((1 : Int32) + (p1 &&& (255 : Int32))) * ((1 : Int32) + (p1 &&& (255 : Int32)))) / (64 : Int32) * (64 : Int32)) &&& 0x3f).toInt64.toUInt64).toInt64) &&& (1 : Int64)))]))
  refine o_lstore X_16 hx (hb hby at_62) (l' := #[iv p1, iv p2, .val (.long q3), .second, .val (.long q4), .second, .val (.long q5), .second, .val (.long q6), .second, iv ((1 : Int32) + (p1 &&& (255 : Int32))), iv ((p2 &&& (2147483647 : Int32)) - (p2 &&& (2147483647 : Int32)) / ((1 : Int32) + (p1 &&& (255 : Int32))) * ((1 : Int32) + (p1 &&& (255 : Int32)))), rv b_1, rv b_7, .val (.long ((((own_pk q3 q4 q5 q6 (((p2 &&& (2147483647 : Int32)) - (p2 &&& (2147483647 : Int32)) / ((1 : Int32) + (p1 &&& (255 : Int32))) * ((1 : Int32) + (p1 &&& (255 : Int32)))) / (64 : Int32))).toUInt64 >>> ((((p2 &&& (2147483647 : Int32)) - (p2 &&& (2147483647 : Int32)) / ((1 : Int32) + (p1 &&& (255 : Int32))) * ((1 : Int32) + (p1 &&& (255 : Int32)))) - ((p2 &&& (2147483647 : Int32)) - (p2 &&& (2147483647 : Int32)) / ((1 : Int32) + (p1 &&& (255 : Int32))) * ((1 : Int32) + (p1 &&& (255 : Int32)))) / (64 : Int32) * (64 : Int32)) &&& 0x3f).toInt64.toUInt64).toInt64) &&& (1 : Int64))), .second, .unset, .unset, .unset, .unset]) rfl ?_
  refine o_iload X_16 hx (hb hby at_64) rfl ?_
  refine o_bipush X_16 hx 64 (hb hby at_66) rfl ?_
  refine o_idiv X_16 hx (hb hby at_68) (by decide) ?_
  refine o_istore X_16 hx (hb hby at_69) (l' := #[iv p1, iv p2, .val (.long q3), .second, .val (.long q4), .second, .val (.long q5), .second, .val (.long q6), .second, iv ((1 : Int32) + (p1 &&& (255 : Int32))), iv ((p2 &&& (2147483647 : Int32)) - (p2 &&& (2147483647 : Int32)) / ((1 : Int32) + (p1 &&& (255 : Int32))) * ((1 : Int32) + (p1 &&& (255 : Int32)))), rv b_1, rv b_7, .val (.long ((((own_pk q3 q4 q5 q6 (((p2 &&& (2147483647 : Int32)) - (p2 &&& (2147483647 : Int32)) / ((1 : Int32) + (p1 &&& (255 : Int32))) * ((1 : Int32) + (p1 &&& (255 : Int32)))) / (64 : Int32))).toUInt64 >>> ((((p2 &&& (2147483647 : Int32)) - (p2 &&& (2147483647 : Int32)) / ((1 : Int32) + (p1 &&& (255 : Int32))) * ((1 : Int32) + (p1 &&& (255 : Int32)))) - ((p2 &&& (2147483647 : Int32)) - (p2 &&& (2147483647 : Int32)) / ((1 : Int32) + (p1 &&& (255 : Int32))) * ((1 : Int32) + (p1 &&& (255 : Int32)))) / (64 : Int32) * (64 : Int32)) &&& 0x3f).toInt64.toUInt64).toInt64) &&& (1 : Int64))), .second, iv (((p2 &&& (2147483647 : Int32)) - (p2 &&& (2147483647 : Int32)) / ((1 : Int32) + (p1 &&& (255 : Int32))) * ((1 : Int32) + (p1 &&& (255 : Int32)))) / (64 : Int32)), .unset, .unset, .unset]) rfl ?_
  refine o_iload X_16 hx (hb hby at_71) rfl ?_
  refine o_bipush X_16 hx 64 (hb hby at_73) rfl ?_
  refine o_irem X_16 hx (hb hby at_75) (by decide) ?_
  refine o_istore X_16 hx (hb hby at_76) (l' := #[iv p1, iv p2, .val (.long q3), .second, .val (.long q4), .second, .val (.long q5), .second, .val (.long q6), .second, iv ((1 : Int32) + (p1 &&& (255 : Int32))), iv ((p2 &&& (2147483647 : Int32)) - (p2 &&& (2147483647 : Int32)) / ((1 : Int32) + (p1 &&& (255 : Int32))) * ((1 : Int32) + (p1 &&& (255 : Int32)))), rv b_1, rv b_7, .val (.long ((((own_pk q3 q4 q5 q6 (((p2 &&& (2147483647 : Int32)) - (p2 &&& (2147483647 : Int32)) / ((1 : Int32) + (p1 &&& (255 : Int32))) * ((1 : Int32) + (p1 &&& (255 : Int32)))) / (64 : Int32))).toUInt64 >>> ((((p2 &&& (2147483647 : Int32)) - (p2 &&& (2147483647 : Int32)) / ((1 : Int32) + (p1 &&& (255 : Int32))) * ((1 : Int32) + (p1 &&& (255 : Int32)))) - ((p2 &&& (2147483647 : Int32)) - (p2 &&& (2147483647 : Int32)) / ((1 : Int32) + (p1 &&& (255 : Int32))) * ((1 : Int32) + (p1 &&& (255 : Int32)))) / (64 : Int32) * (64 : Int32)) &&& 0x3f).toInt64.toUInt64).toInt64) &&& (1 : Int64))), .second, iv (((p2 &&& (2147483647 : Int32)) - (p2 &&& (2147483647 : Int32)) / ((1 : Int32) + (p1 &&& (255 : Int32))) * ((1 : Int32) + (p1 &&& (255 : Int32)))) / (64 : Int32)), iv (((p2 &&& (2147483647 : Int32)) - (p2 &&& (2147483647 : Int32)) / ((1 : Int32) + (p1 &&& (255 : Int32))) * ((1 : Int32) + (p1 &&& (255 : Int32)))) - ((p2 &&& (2147483647 : Int32)) - (p2 &&& (2147483647 : Int32)) / ((1 : Int32) + (p1 &&& (255 : Int32))) * ((1 : Int32) + (p1 &&& (255 : Int32)))) / (64 : Int32) * (64 : Int32)), .unset, .unset]) rfl ?_
  refine o_aload X_16 hx (hb hby at_78) rfl rfl ?_
  refine o_iload X_16 hx (hb hby at_80) rfl ?_
  obtain ⟨cl_25, Ar_25, qk_25, Sz_25, Ng_25, Hs_25, Gs_25⟩ := id V_15
  refine own_st (X_16.laload hx (j := (((p2 &&& (2147483647 : Int32)) - (p2 &&& (2147483647 : Int32)) / ((1 : Int32) + (p1 &&& (255 : Int32))) * ((1 : Int32) + (p1 &&& (255 : Int32)))) / (64 : Int32))) (v := (.long (own_pk q3 q4 q5 q6 (((p2 &&& (2147483647 : Int32)) - (p2 &&& (2147483647 : Int32)) / ((1 : Int32) + (p1 &&& (255 : Int32))) * ((1 : Int32) + (p1 &&& (255 : Int32)))) / (64 : Int32))))) (by rw [e_16]; exact Ar_25.1) (State.isArrayOf_alike hZ.alike Ar_25.2.1) Ar_25.2.2 (inb_of Sz_25 ⟨(own_d640 (own_P0 p1 p2)), (own_d644 (own_P0 p1 p2) (own_PN p1 p2) (own_Nb2 p1))⟩) (Hs_25.at (j := (((p2 &&& (2147483647 : Int32)) - (p2 &&& (2147483647 : Int32)) / ((1 : Int32) + (p1 &&& (255 : Int32))) * ((1 : Int32) + (p1 &&& (255 : Int32)))) / (64 : Int32))) (inb_of Sz_25 ⟨(own_d640 (own_P0 p1 p2)), (own_d644 (own_P0 p1 p2) (own_PN p1 p2) (own_Nb2 p1))⟩) (own_pk_get (own_d640 (own_P0 p1 p2)) (own_d644 (own_P0 p1 p2) (own_PN p1 p2) (own_Nb2 p1)))) (g := (mkF m 82 #[iv p1, iv p2, .val (.long q3), .second, .val (.long q4), .second, .val (.long q5), .second, .val (.long q6), .second, iv ((1 : Int32) + (p1 &&& (255 : Int32))), iv ((p2 &&& (2147483647 : Int32)) - (p2 &&& (2147483647 : Int32)) / ((1 : Int32) + (p1 &&& (255 : Int32))) * ((1 : Int32) + (p1 &&& (255 : Int32)))), rv b_1, rv b_7, .val (.long ((((own_pk q3 q4 q5 q6 (((p2 &&& (2147483647 : Int32)) - (p2 &&& (2147483647 : Int32)) / ((1 : Int32) + (p1 &&& (255 : Int32))) * ((1 : Int32) + (p1 &&& (255 : Int32)))) / (64 : Int32))).toUInt64 >>> ((((p2 &&& (2147483647 : Int32)) - (p2 &&& (2147483647 : Int32)) / ((1 : Int32) + (p1 &&& (255 : Int32))) * ((1 : Int32) + (p1 &&& (255 : Int32)))) - ((p2 &&& (2147483647 : Int32)) - (p2 &&& (2147483647 : Int32)) / ((1 : Int32) + (p1 &&& (255 : Int32))) * ((1 : Int32) + (p1 &&& (255 : Int32)))) / (64 : Int32) * (64 : Int32)) &&& 0x3f).toInt64.toUInt64).toInt64) &&& (1 : Int64))), .second, iv (((p2 &&& (2147483647 : Int32)) - (p2 &&& (2147483647 : Int32)) / ((1 : Int32) + (p1 &&& (255 : Int32))) * ((1 : Int32) + (p1 &&& (255 : Int32)))) / (64 : Int32)), iv (((p2 &&& (2147483647 : Int32)) - (p2 &&& (2147483647 : Int32)) / ((1 : Int32) + (p1 &&& (255 : Int32))) * ((1 : Int32) + (p1 &&& (255 : Int32)))) - ((p2 &&& (2147483647 : Int32)) - (p2 &&& (2147483647 : Int32)) / ((1 : Int32) + (p1 &&& (255 : Int32))) * ((1 : Int32) + (p1 &&& (255 : Int32)))) / (64 : Int32) * (64 : Int32)), .unset, .unset] [(.int (((p2 &&& (2147483647 : Int32)) - (p2 &&& (2147483647 : Int32)) / ((1 : Int32) + (p1 &&& (255 : Int32))) * ((1 : Int32) + (p1 &&& (255 : Int32)))) / (64 : Int32))), (.ref b_7)])) rfl rfl (hb hby at_82)) ?_
  show own_Go _ _ _ _ (T_16.setTop (mkF m 83 #[iv p1, iv p2, .val (.long q3), .second, .val (.long q4), .second, .val (.long q5), .second, .val (.long q6), .second, iv ((1 : Int32) + (p1 &&& (255 : Int32))), iv ((p2 &&& (2147483647 : Int32)) - (p2 &&& (2147483647 : Int32)) / ((1 : Int32) + (p1 &&& (255 : Int32))) * ((1 : Int32) + (p1 &&& (255 : Int32)))), rv b_1, rv b_7, .val (.long ((((own_pk q3 q4 q5 q6 (((p2 &&& (2147483647 : Int32)) - (p2 &&& (2147483647 : Int32)) / ((1 : Int32) + (p1 &&& (255 : Int32))) * ((1 : Int32) + (p1 &&& (255 : Int32)))) / (64 : Int32))).toUInt64 >>> ((((p2 &&& (2147483647 : Int32)) - (p2 &&& (2147483647 : Int32)) / ((1 : Int32) + (p1 &&& (255 : Int32))) * ((1 : Int32) + (p1 &&& (255 : Int32)))) - ((p2 &&& (2147483647 : Int32)) - (p2 &&& (2147483647 : Int32)) / ((1 : Int32) + (p1 &&& (255 : Int32))) * ((1 : Int32) + (p1 &&& (255 : Int32)))) / (64 : Int32) * (64 : Int32)) &&& 0x3f).toInt64.toUInt64).toInt64) &&& (1 : Int64))), .second, iv (((p2 &&& (2147483647 : Int32)) - (p2 &&& (2147483647 : Int32)) / ((1 : Int32) + (p1 &&& (255 : Int32))) * ((1 : Int32) + (p1 &&& (255 : Int32)))) / (64 : Int32)), iv (((p2 &&& (2147483647 : Int32)) - (p2 &&& (2147483647 : Int32)) / ((1 : Int32) + (p1 &&& (255 : Int32))) * ((1 : Int32) + (p1 &&& (255 : Int32)))) - ((p2 &&& (2147483647 : Int32)) - (p2 &&& (2147483647 : Int32)) / ((1 : Int32) + (p1 &&& (255 : Int32))) * ((1 : Int32) + (p1 &&& (255 : Int32)))) / (64 : Int32) * (64 : Int32)), .unset, .unset] [(.long (own_pk q3 q4 q5 q6 (((p2 &&& (2147483647 : Int32)) - (p2 &&& (2147483647 : Int32)) / ((1 : Int32) + (p1 &&& (255 : Int32))) * ((1 : Int32) + (p1 &&& (255 : Int32)))) / (64 : Int32))))]))
  refine o_lconst X_16 hx 1 (hb hby at_83) rfl ?_
  refine o_iload X_16 hx (hb hby at_84) rfl ?_
  refine o_lshl X_16 hx (hb hby at_86) ?_
  refine o_land X_16 hx (hb hby at_87) ?_
  refine o_lconst X_16 hx 0 (hb hby at_88) rfl ?_
  refine o_lcmp X_16 hx (hb hby at_89) ?_
  by_cases hc90__26 : (lcmpW ((own_pk q3 q4 q5 q6 (((p2 &&& (2147483647 : Int32)) - (p2 &&& (2147483647 : Int32)) / ((1 : Int32) + (p1 &&& (255 : Int32))) * ((1 : Int32) + (p1 &&& (255 : Int32)))) / (64 : Int32))) &&& ((1 : Int64) <<< ((((p2 &&& (2147483647 : Int32)) - (p2 &&& (2147483647 : Int32)) / ((1 : Int32) + (p1 &&& (255 : Int32))) * ((1 : Int32) + (p1 &&& (255 : Int32)))) - ((p2 &&& (2147483647 : Int32)) - (p2 &&& (2147483647 : Int32)) / ((1 : Int32) + (p1 &&& (255 : Int32))) * ((1 : Int32) + (p1 &&& (255 : Int32)))) / (64 : Int32) * (64 : Int32)) &&& 0x3f).toInt64)) (0 : Int64)) = (0 : Int32)
  · refine o_ifYes X_16 hx (pc' := 97) (hb hby at_90) (teq hc90__26).1 (by decide) (by decide) ?_
    refine o_lconst X_16 hx 0 (hb hby at_97) rfl ?_
    refine o_lstore X_16 hx (hb hby at_98) (l' := #[iv p1, iv p2, .val (.long q3), .second, .val (.long q4), .second, .val (.long q5), .second, .val (.long q6), .second, iv ((1 : Int32) + (p1 &&& (255 : Int32))), iv ((p2 &&& (2147483647 : Int32)) - (p2 &&& (2147483647 : Int32)) / ((1 : Int32) + (p1 &&& (255 : Int32))) * ((1 : Int32) + (p1 &&& (255 : Int32)))), rv b_1, rv b_7, .val (.long ((((own_pk q3 q4 q5 q6 (((p2 &&& (2147483647 : Int32)) - (p2 &&& (2147483647 : Int32)) / ((1 : Int32) + (p1 &&& (255 : Int32))) * ((1 : Int32) + (p1 &&& (255 : Int32)))) / (64 : Int32))).toUInt64 >>> ((((p2 &&& (2147483647 : Int32)) - (p2 &&& (2147483647 : Int32)) / ((1 : Int32) + (p1 &&& (255 : Int32))) * ((1 : Int32) + (p1 &&& (255 : Int32)))) - ((p2 &&& (2147483647 : Int32)) - (p2 &&& (2147483647 : Int32)) / ((1 : Int32) + (p1 &&& (255 : Int32))) * ((1 : Int32) + (p1 &&& (255 : Int32)))) / (64 : Int32) * (64 : Int32)) &&& 0x3f).toInt64.toUInt64).toInt64) &&& (1 : Int64))), .second, iv (((p2 &&& (2147483647 : Int32)) - (p2 &&& (2147483647 : Int32)) / ((1 : Int32) + (p1 &&& (255 : Int32))) * ((1 : Int32) + (p1 &&& (255 : Int32)))) / (64 : Int32)), iv (((p2 &&& (2147483647 : Int32)) - (p2 &&& (2147483647 : Int32)) / ((1 : Int32) + (p1 &&& (255 : Int32))) * ((1 : Int32) + (p1 &&& (255 : Int32)))) - ((p2 &&& (2147483647 : Int32)) - (p2 &&& (2147483647 : Int32)) / ((1 : Int32) + (p1 &&& (255 : Int32))) * ((1 : Int32) + (p1 &&& (255 : Int32)))) / (64 : Int32) * (64 : Int32)), .val (.long 0), .second]) rfl ?_
    refine o_lload X_16 hx (hb hby at_100) rfl ?_
    refine o_lload X_16 hx (hb hby at_102) rfl ?_
    refine o_lcmp X_16 hx (hb hby at_104) ?_
    refine o_ifNo X_16 hx (hb hby at_105) (teq ((lw_eq _ _).mpr (own_lawY (Nat.mod_lt _ (by decide)) (own_m64k (own_P0 p1 p2)) ((lw_eq _ _).mp hc90__26)))).2 ?_
    refine o_iconst X_16 hx 1 (hb hby at_108) rfl ?_
    refine o_goto X_16 hx (pc' := 113) (hb hby at_109) (by decide) (by decide) ?_
    have Kp_27 : Keep h0 h_15 [] := (((((Kp_6.ext E_7).wr W_9 (Or.inr sz_7)).wr W_11 (Or.inr sz_7)).wr W_13 (Or.inr sz_7)).wr W_15 (Or.inr sz_7))
    exact own_end X_16 e_16 (v := some (.int (1 : Int32))) (fun h => by rw [Bd.returns] at h; cases h) hlk (fun fs hr => retN X_16 hx (z := (1 : Int32)) (t := .boolean) Bd.returns (by simp) (hb hby at_113) hr) (Q := Q_rm0 Z a0 p1 p2 q3 q4 q5 q6 h0 n0) ⟨rfl, N_16, Kp_27⟩ (by decide) (by decide)
  · refine o_ifNo X_16 hx (hb hby at_90) (feq hc90__26).1 ?_
    refine o_lconst X_16 hx 1 (hb hby at_93) rfl ?_
    refine o_goto X_16 hx (pc' := 98) (hb hby at_94) (by decide) (by decide) ?_
    refine o_lstore X_16 hx (hb hby at_98) (l' := #[iv p1, iv p2, .val (.long q3), .second, .val (.long q4), .second, .val (.long q5), .second, .val (.long q6), .second, iv ((1 : Int32) + (p1 &&& (255 : Int32))), iv ((p2 &&& (2147483647 : Int32)) - (p2 &&& (2147483647 : Int32)) / ((1 : Int32) + (p1 &&& (255 : Int32))) * ((1 : Int32) + (p1 &&& (255 : Int32)))), rv b_1, rv b_7, .val (.long ((((own_pk q3 q4 q5 q6 (((p2 &&& (2147483647 : Int32)) - (p2 &&& (2147483647 : Int32)) / ((1 : Int32) + (p1 &&& (255 : Int32))) * ((1 : Int32) + (p1 &&& (255 : Int32)))) / (64 : Int32))).toUInt64 >>> ((((p2 &&& (2147483647 : Int32)) - (p2 &&& (2147483647 : Int32)) / ((1 : Int32) + (p1 &&& (255 : Int32))) * ((1 : Int32) + (p1 &&& (255 : Int32)))) - ((p2 &&& (2147483647 : Int32)) - (p2 &&& (2147483647 : Int32)) / ((1 : Int32) + (p1 &&& (255 : Int32))) * ((1 : Int32) + (p1 &&& (255 : Int32)))) / (64 : Int32) * (64 : Int32)) &&& 0x3f).toInt64.toUInt64).toInt64) &&& (1 : Int64))), .second, iv (((p2 &&& (2147483647 : Int32)) - (p2 &&& (2147483647 : Int32)) / ((1 : Int32) + (p1 &&& (255 : Int32))) * ((1 : Int32) + (p1 &&& (255 : Int32)))) / (64 : Int32)), iv (((p2 &&& (2147483647 : Int32)) - (p2 &&& (2147483647 : Int32)) / ((1 : Int32) + (p1 &&& (255 : Int32))) * ((1 : Int32) + (p1 &&& (255 : Int32)))) - ((p2 &&& (2147483647 : Int32)) - (p2 &&& (2147483647 : Int32)) / ((1 : Int32) + (p1 &&& (255 : Int32))) * ((1 : Int32) + (p1 &&& (255 : Int32)))) / (64 : Int32) * (64 : Int32)), .val (.long 1), .second]) rfl ?_
    refine o_lload X_16 hx (hb hby at_100) rfl ?_
    refine o_lload X_16 hx (hb hby at_102) rfl ?_
    refine o_lcmp X_16 hx (hb hby at_104) ?_
    refine o_ifNo X_16 hx (hb hby at_105) (teq ((lw_eq _ _).mpr (own_lawN (Nat.mod_lt _ (by decide)) (own_m64k (own_P0 p1 p2)) (fun q => hc90__26 ((lw_eq _ _).mpr q))))).2 ?_
    refine o_iconst X_16 hx 1 (hb hby at_108) rfl ?_
    refine o_goto X_16 hx (pc' := 113) (hb hby at_109) (by decide) (by decide) ?_
    have Kp_28 : Keep h0 h_15 [] := (((((Kp_6.ext E_7).wr W_9 (Or.inr sz_7)).wr W_11 (Or.inr sz_7)).wr W_13 (Or.inr sz_7)).wr W_15 (Or.inr sz_7))
    exact own_end X_16 e_16 (v := some (.int (1 : Int32))) (fun h => by rw [Bd.returns] at h; cases h) hlk (fun fs hr => retN X_16 hx (z := (1 : Int32)) (t := .boolean) Bd.returns (by simp) (hb hby at_113) hr) (Q := Q_rm0 Z a0 p1 p2 q3 q4 q5 q6 h0 n0) ⟨rfl, N_16, Kp_28⟩ (by decide) (by decide)
set_option maxRecDepth 65536 in
set_option maxHeartbeats 40000000 in
theorem comes_1 {Post : Tables → Env → Array Value → State → Outcome → State → Prop} (hpost : ∀ tb e args s v u, (limb_1_1.after args s (.returned v) u = true ∧ limb_1_2.after args s (.returned v) u = true ∧ True) → FrameEnd s (.returned v) u (Jvm.fieldLocs frame_1_writes args s ++ Jvm.arrayLocs frame_1_arrays args s ++ Jvm.staticLocs frame_1_statics s) 40 4736 → Post tb e args s (.returned v) u) :
    ArmFor flags0 classFile x code maxLocals ret World_1 tables_1 room_1 Calls_1 rest_1 Pre_1 Post := by
  intro l hfl _ _ p e ha hc hk s m args below hf hA hF happ hP
  obtain ⟨hcalls, hrest, hpre⟩ := hP
  obtain ⟨-, -, -, hnamed, -, -, -, hat⟩ := (Spec.applies_iff hf).mp happ
  obtain ⟨hg, hn⟩ := and_e (Cond.before_iff.mp (show (Jvm.Cond.and given_1 narrow_1).before args s = true from hpre))
  obtain ⟨g1, g2⟩ := and_e hg
  obtain ⟨g3, g4⟩ := and_e g2
  obtain ⟨g5, g6⟩ := and_e g4
  obtain ⟨g7, g8⟩ := and_e g6
  obtain ⟨g9, g10⟩ := and_e g8
  obtain ⟨g11, g12⟩ := and_e g10
  obtain ⟨w0, w1, w2, w3, w4, w5, rfl⟩ : ∃ w0 w1 w2 w3 w4 w5 : Value, args = #[w0, w1, w2, w3, w4, w5] := by
    have hs : args.size = 6 := by simpa [Cond.value, given_1] using g1
    obtain ⟨L⟩ := args
    match L, hs with
    | [w0, w1, w2, w3, w4, w5], _ => exact ⟨w0, w1, w2, w3, w4, w5, rfl⟩
  have hw := fun d (hd : d ∈ tables_1) => atoms_spec (ws := Jvm.Cond.code x code maxLocals ret :: tables_1) hat d (List.mem_cons_of_mem _ hd)
  have hfit : Fit s := fun {y c} hc i hi => by
    obtain ⟨ha, rfl⟩ := Array.getElem?_eq_some_iff.mp hc
    have q := List.all_eq_true.mp ((Array.all_eq_true_iff_forall_mem.mp hF) _ (Array.getElem_mem ha)) i (List.mem_range.mpr hi)
    simpa [Array.getElem?_eq_getElem hi] using q
  obtain ⟨i0, ei0⟩ := is_v g3
  obtain rfl : w0 = (.int i0) := Option.some.inj ei0
  obtain ⟨i1, ei1⟩ := is_v g5
  obtain rfl : w1 = (.int i1) := Option.some.inj ei1
  obtain ⟨i2, ei2⟩ := isL_v g7
  obtain rfl : w2 = (.long i2) := Option.some.inj ei2
  obtain ⟨i3, ei3⟩ := isL_v g9
  obtain rfl : w3 = (.long i3) := Option.some.inj ei3
  obtain ⟨i4, ei4⟩ := isL_v g11
  obtain rfl : w4 = (.long i4) := Option.some.inj ei4
  obtain ⟨i5, ei5⟩ := isL_v g12
  obtain rfl : w5 = (.long i5) := Option.some.inj ei5
  obtain ⟨n, o, h1, h2, h3, _, L, rfl, ⟨rfl, N, -⟩, hq⟩ := rm0 l s _ hw tables_1 i0 i1 i2 i3 i4 i5  s.heap s.heap.size (Nat.le_refl _)  p e ha hc hk s m _ below hf ((Spec.applies_iff_loose hf).mp happ).1 ⟨rfl, State.Warmed39.refl s, rfl⟩ trivial
  refine ⟨n, _, h1, h2, h3, hpost _ _ _ _ _ _ ⟨Cond.after_iff.mpr rfl, Cond.after_iff.mpr (eq_i res_at (Term.int_eval (1)) rfl), trivial⟩ ⟨hq.1, hq.2.1, (hq.2.2.sift fun y hy => Or.inr (N y hy)).mono (by decide) (by decide)⟩⟩
theorem main_1_1 : Claimed_1_1 := comes_1 fun _ _ _ _ _ _ h hF => ⟨h.1, hF⟩
theorem main_1_2 : Claimed_1_2 := comes_1 fun _ _ _ _ _ _ h hF => ⟨h.2.1, hF⟩
end Jvm.Pilot.@@N@@
namespace Jvm.Pilot.@@N@@
open Jvm Jvm.ClassFile Sem Op Lib Jvm.Free Jvm.Stand Jvm.Pilot.@@N@@.Jvm.D
/-! MADE BY PROGRAM (witnessworld.py) out of the Statement's table words and the real class files: 20 classes; the members and pool entries that the words name. The judged class is class 1, her method 1. -/
namespace start1
open Jvm.ClassFile
def u (s : String) : CpInfo := .utf8 (stringToUtf16 s)
/-- a pool by its gaps: so many unusable entries, then the entry; so many at the end -/
def gap : Nat → List CpInfo → List CpInfo
  | 0, r => r
  | n + 1, r => .unusable :: gap n r
def poolList (es : List (Nat × CpInfo)) (last : Nat) : List CpInfo := es.foldr (fun e r => gap e.1 (e.2 :: r)) (gap last [])
def pool (es : List (Nat × CpInfo)) (last : Nat) : Array CpInfo := ⟨poolList es last⟩
def fileOf (pool : Array CpInfo) (this : Nat) (attrs : Array Attribute := #[]) (ms : Array MethodInfo := #[]) (fl : Nat := 33) (sup : Nat := 0) (ifs : Array Nat := #[]) (fds : Array FieldInfo := #[]) : ClassFile where
  minorVersion := 0
  majorVersion := 65
  constantPool := pool
  accessFlags := fl
  thisClass := this
  superClass := sup
  interfaces := ifs
  fields := fds
  methods := ms
  attributes := attrs
def plain (name : String) (sup : Option ClassId) : Class where
  name := name
  kind := .ordinary
  loader := none
  accessFlags := 33
  super := sup
  interfaces := #[]
  cf := none
  fields := #[]
  methods := #[]
  instanceTypes := #[]
  staticTypes := #[]
  resolved := #[]
  callSites := []
  init := .initialized
  statics := none
  mirror := none

def pool0 : Array CpInfo := pool [(5, u "<init>"), (0, u "()V"), (1, .class_ 10), (1, u "java/lang/Object")] 113

def k0c0 : Code := { maxStack := 0, maxLocals := 1, code := object_method_1_code, exceptionTable := #[], attributes := #[] }
def k0m0 : Method := { name := "<init>", desc := "()V", sig := { parameters := [], returnType := none }, accessFlags := 1, code := some k0c0 }
/-- java/lang/Object -/
def k0 : Class := { plain "java/lang/Object" none with
  accessFlags := 33
  interfaces := #[]
  cf := some (fileOf pool0 8 #[] #[{ accessFlags := 1, nameIndex := 5, descriptorIndex := 6, attributes := #[] }] 33 0 #[] #[])
  fields := #[]
  methods := #[k0m0]
  instanceTypes := #[]
  staticTypes := #[]
  resolved := Array.replicate 124 none
  statics := none }

def pool1 : Array CpInfo := pool [(2, .class_ 4), (1, u "java/lang/Object"), (0, u "<init>"), (0, u "()V"), (0, .integer 2147483647), (0, .class_ 9), (0, u "com/example/causyn/causyn/analysis/MarkingStore"), (0, .methodref 8 11), (0, .nameAndType 5 12), (0, u "(I)V"), (0, .methodref 8 14), (0, .nameAndType 15 16), (0, u "tokens"), (0, u "([JI)J"), (0, .class_ 18), (0, u "com/example/causyn/causyn/analysis/MarkingStoreTokensPinLaw"), (2, u "law"), (0, u "(IIJJJJ)Z")] 5

def k1m0 : Method := { name := "<init>", desc := "()V", sig := { parameters := [], returnType := none }, accessFlags := 1, code := none }
def k1c1 : Code := { maxStack := 5, maxLocals := 20, code := code, exceptionTable := #[], attributes := #[] }
def k1m1 : Method := { name := "law", desc := "(IIJJJJ)Z", sig := { parameters := [.int, .int, .long, .long, .long, .long], returnType := some .boolean }, accessFlags := 9, code := some k1c1 }
/-- com/example/causyn/causyn/analysis/MarkingStoreTokensPinLaw -/
def k1 : Class := { plain "com/example/causyn/causyn/analysis/MarkingStoreTokensPinLaw" (some 0) with
  accessFlags := 49
  interfaces := #[]
  cf := some (fileOf pool1 17 #[] #[{ accessFlags := 1, nameIndex := 5, descriptorIndex := 6, attributes := #[] }, { accessFlags := 9, nameIndex := 21, descriptorIndex := 22, attributes := #[] }] 49 2 #[] #[])
  fields := #[]
  methods := #[k1m0, k1m1]
  instanceTypes := #[]
  staticTypes := #[]
  resolved := Array.replicate 28 none
  statics := none }

def pool2 : Array CpInfo := pool [(1, .methodref 2 3), (0, .class_ 4), (0, .nameAndType 5 6), (0, u "java/lang/Object"), (0, u "<init>"), (0, u "()V"), (0, .class_ 8), (0, u "[J"), (0, .fieldref 10 11), (0, .class_ 12), (0, .nameAndType 13 14), (0, u "com/example/causyn/causyn/analysis/MarkingStore"), (0, u "chunks"), (0, u "[[J"), (0, .fieldref 10 16), (0, .nameAndType 17 18), (0, u "table"), (0, u "[I"), (0, .fieldref 10 20), (0, .nameAndType 21 22), (0, u "places"), (0, u "I"), (0, .fieldref 10 24), (0, .nameAndType 25 18), (0, u "width"), (0, .fieldref 10 27), (0, .nameAndType 28 18), (0, u "word"), (0, .fieldref 10 30), (0, .nameAndType 31 18), (0, u "shift"), (0, .fieldref 10 33), (0, .nameAndType 34 8), (0, u "mask"), (0, .methodref 36 37), (0, .class_ 38), (0, .nameAndType 39 40), (0, u "java/util/Arrays"), (0, u "fill"), (0, u "([II)V"), (0, .methodref 10 42), (0, .nameAndType 43 6), (0, u "layOut"), (0, .fieldref 10 45), (0, .nameAndType 46 22), (0, u "words"), (2, u "size"), (8, u "tokens"), (0, u "([JI)J"), (8, u "(I)I"), (25, .class_ 18), (4, .fieldref 10 100), (0, .nameAndType 101 22), (0, u "chunkBits"), (2, u "numberOfLeadingZeros"), (2, .class_ 109), (1, u "java/lang/Math"), (1, u "(II)I"), (0, .methodref 107 113), (0, .nameAndType 114 111), (0, u "max"), (13, u "(I)V"), (11, .fieldref 10 141), (0, .nameAndType 142 143), (0, u "bitsOnly"), (0, u "[Z"), (0, .fieldref 10 145), (0, .nameAndType 146 147), (0, u "placesInWord"), (0, u "[[I"), (0, .class_ 149), (0, u "java/lang/Integer"), (0, .methodref 148 151), (0, .nameAndType 104 68), (7, u "MOST"), (1, u "CHUNK_WORDS_BITS"), (1, u "FIRST_TABLE")] 22

def k2c0 : Code := { maxStack := 2, maxLocals := 2, code := prog_3_method_1_code, exceptionTable := #[], attributes := #[] }
def k2m0 : Method := { name := "<init>", desc := "(I)V", sig := { parameters := [.int], returnType := none }, accessFlags := 0, code := some k2c0 }
def k2c1 : Code := { maxStack := 4, maxLocals := 3, code := prog_3_method_4_code, exceptionTable := #[], attributes := #[] }
def k2m1 : Method := { name := "tokens", desc := "([JI)J", sig := { parameters := [(.array .long), .int], returnType := some .long }, accessFlags := 0, code := some k2c1 }
def k2c2 : Code := { maxStack := 6, maxLocals := 6, code := prog_3_method_15_code, exceptionTable := #[], attributes := #[] }
def k2m2 : Method := { name := "layOut", desc := "()V", sig := { parameters := [], returnType := none }, accessFlags := 2, code := some k2c2 }
/-- com/example/causyn/causyn/analysis/MarkingStore -/
def k2 : Class := { plain "com/example/causyn/causyn/analysis/MarkingStore" (some 0) with
  accessFlags := 48
  interfaces := #[]
  cf := some (fileOf pool2 10 #[] #[{ accessFlags := 0, nameIndex := 5, descriptorIndex := 128, attributes := #[] }, { accessFlags := 0, nameIndex := 58, descriptorIndex := 59, attributes := #[] }, { accessFlags := 2, nameIndex := 43, descriptorIndex := 6, attributes := #[] }] 48 2 #[] #[{ accessFlags := 24, nameIndex := 159, descriptorIndex := 22, attributes := #[] }, { accessFlags := 26, nameIndex := 161, descriptorIndex := 22, attributes := #[] }, { accessFlags := 26, nameIndex := 163, descriptorIndex := 22, attributes := #[] }, { accessFlags := 18, nameIndex := 21, descriptorIndex := 22, attributes := #[] }, { accessFlags := 18, nameIndex := 25, descriptorIndex := 18, attributes := #[] }, { accessFlags := 18, nameIndex := 28, descriptorIndex := 18, attributes := #[] }, { accessFlags := 18, nameIndex := 31, descriptorIndex := 18, attributes := #[] }, { accessFlags := 18, nameIndex := 34, descriptorIndex := 8, attributes := #[] }, { accessFlags := 2, nameIndex := 46, descriptorIndex := 22, attributes := #[] }, { accessFlags := 2, nameIndex := 146, descriptorIndex := 147, attributes := #[] }, { accessFlags := 2, nameIndex := 142, descriptorIndex := 143, attributes := #[] }, { accessFlags := 2, nameIndex := 101, descriptorIndex := 22, attributes := #[] }, { accessFlags := 2, nameIndex := 13, descriptorIndex := 14, attributes := #[] }, { accessFlags := 2, nameIndex := 49, descriptorIndex := 22, attributes := #[] }, { accessFlags := 2, nameIndex := 17, descriptorIndex := 18, attributes := #[] }])
  fields := #[{ name := "MOST", type := .int, accessFlags := 24, slot := 0, constantValue := 0 }, { name := "CHUNK_WORDS_BITS", type := .int, accessFlags := 26, slot := 1, constantValue := 0 }, { name := "FIRST_TABLE", type := .int, accessFlags := 26, slot := 2, constantValue := 0 }, { name := "places", type := .int, accessFlags := 18, slot := 0, constantValue := 0 }, { name := "width", type := (.array .int), accessFlags := 18, slot := 1, constantValue := 0 }, { name := "word", type := (.array .int), accessFlags := 18, slot := 2, constantValue := 0 }, { name := "shift", type := (.array .int), accessFlags := 18, slot := 3, constantValue := 0 }, { name := "mask", type := (.array .long), accessFlags := 18, slot := 4, constantValue := 0 }, { name := "words", type := .int, accessFlags := 2, slot := 5, constantValue := 0 }, { name := "placesInWord", type := (.array (.array .int)), accessFlags := 2, slot := 6, constantValue := 0 }, { name := "bitsOnly", type := (.array .boolean), accessFlags := 2, slot := 7, constantValue := 0 }, { name := "chunkBits", type := .int, accessFlags := 2, slot := 8, constantValue := 0 }, { name := "chunks", type := (.array (.array .long)), accessFlags := 2, slot := 9, constantValue := 0 }, { name := "size", type := .int, accessFlags := 2, slot := 10, constantValue := 0 }, { name := "table", type := (.array .int), accessFlags := 2, slot := 11, constantValue := 0 }]
  methods := #[k2m0, k2m1, k2m2]
  instanceTypes := #[.int, (.array .int), (.array .int), (.array .int), (.array .long), .int, (.array (.array .int)), (.array .boolean), .int, (.array (.array .long)), .int, (.array .int)]
  staticTypes := #[.int, .int, .int]
  resolved := Array.replicate 186 none
  statics := none }

def pool3 : Array CpInfo := pool [(2, .class_ 4), (1, u "java/lang/Object"), (0, u "<init>"), (0, u "()V"), (7, .class_ 16), (1, u "java/util/Arrays"), (57, .class_ 76), (1, u "java/util/Arrays$NaturalOrder"), (36, .class_ 115), (1, u "java/util/Arrays$LegacyMergeSort"), (1, u "Z"), (257, .class_ 376), (0, u "java/util/Arrays$ArrayList"), (68, u "$assertionsDisabled"), (269, u "MIN_ARRAY_SORT_GRAN"), (0, u "I"), (2, u "INSERTIONSORT_THRESHOLD"), (120, u "fill"), (4, u "([II)V"), (129, .class_ 976), (0, u "java/util/Arrays$ArrayItr")] 52

def k3m0 : Method := { name := "<init>", desc := "()V", sig := { parameters := [], returnType := none }, accessFlags := 2, code := none }
def k3c1 : Code := { maxStack := 3, maxLocals := 4, code := jdk_65_method_103_code, exceptionTable := #[], attributes := #[] }
def k3m1 : Method := { name := "fill", desc := "([II)V", sig := { parameters := [(.array .int), .int], returnType := none }, accessFlags := 9, code := some k3c1 }
/-- java/util/Arrays -/
def k3 : Class := { plain "java/util/Arrays" (some 0) with
  accessFlags := 49
  interfaces := #[]
  cf := some (fileOf pool3 14 #[.nestMembers #[975, 375, 113, 74]] #[{ accessFlags := 2, nameIndex := 5, descriptorIndex := 6, attributes := #[] }, { accessFlags := 9, nameIndex := 840, descriptorIndex := 845, attributes := #[] }] 49 2 #[] #[{ accessFlags := 26, nameIndex := 715, descriptorIndex := 716, attributes := #[] }, { accessFlags := 26, nameIndex := 719, descriptorIndex := 716, attributes := #[] }, { accessFlags := 4120, nameIndex := 445, descriptorIndex := 117, attributes := #[] }])
  fields := #[{ name := "MIN_ARRAY_SORT_GRAN", type := .int, accessFlags := 26, slot := 0, constantValue := 0 }, { name := "INSERTIONSORT_THRESHOLD", type := .int, accessFlags := 26, slot := 1, constantValue := 0 }, { name := "$assertionsDisabled", type := .boolean, accessFlags := 4120, slot := 2, constantValue := 0 }]
  methods := #[k3m0, k3m1]
  instanceTypes := #[]
  staticTypes := #[.int, .int, .boolean]
  resolved := Array.replicate 1029 none
  statics := none }

def pool4 : Array CpInfo := pool [(1, .class_ 2), (0, u "java/io/Serializable"), (0, .class_ 4), (0, u "java/lang/Object")] 2

/-- java/io/Serializable -/
def k4 : Class := { plain "java/io/Serializable" (some 0) with
  accessFlags := 1537
  interfaces := #[]
  cf := some (fileOf pool4 1 #[] #[] 1537 3 #[] #[])
  fields := #[]
  methods := #[]
  instanceTypes := #[]
  staticTypes := #[]
  resolved := Array.replicate 7 none
  statics := none }

def pool5 : Array CpInfo := pool [(2, .class_ 4), (1, u "java/lang/Object"), (0, u "<init>"), (0, u "()V"), (1, .class_ 10), (1, u "java/lang/Number"), (2, .class_ 14), (0, u "java/io/Serializable"), (0, u "serialVersionUID"), (0, u "J")] 20

def k5m0 : Method := { name := "<init>", desc := "()V", sig := { parameters := [], returnType := none }, accessFlags := 1, code := none }
/-- java/lang/Number -/
def k5 : Class := { plain "java/lang/Number" (some 0) with
  accessFlags := 1057
  interfaces := #[4]
  cf := some (fileOf pool5 8 #[] #[{ accessFlags := 1, nameIndex := 5, descriptorIndex := 6, attributes := #[] }] 1057 2 #[13] #[{ accessFlags := 26, nameIndex := 15, descriptorIndex := 16, attributes := #[] }])
  fields := #[{ name := "serialVersionUID", type := .long, accessFlags := 26, slot := 0, constantValue := 0 }]
  methods := #[k5m0]
  instanceTypes := #[]
  staticTypes := #[.long]
  resolved := Array.replicate 37 none
  statics := none }

def pool6 : Array CpInfo := pool [(1, .class_ 2), (0, u "java/lang/Comparable"), (0, .class_ 4), (0, u "java/lang/Object")] 7

/-- java/lang/Comparable -/
def k6 : Class := { plain "java/lang/Comparable" (some 0) with
  accessFlags := 1537
  interfaces := #[]
  cf := some (fileOf pool6 1 #[] #[] 1537 3 #[] #[])
  fields := #[]
  methods := #[]
  instanceTypes := #[]
  staticTypes := #[]
  resolved := Array.replicate 12 none
  statics := none }

def pool7 : Array CpInfo := pool [(1, .class_ 2), (0, u "java/lang/constant/Constable"), (0, .class_ 4), (0, u "java/lang/Object")] 6

/-- java/lang/constant/Constable -/
def k7 : Class := { plain "java/lang/constant/Constable" (some 0) with
  accessFlags := 1537
  interfaces := #[]
  cf := some (fileOf pool7 1 #[] #[] 1537 3 #[] #[])
  fields := #[]
  methods := #[]
  instanceTypes := #[]
  staticTypes := #[]
  resolved := Array.replicate 11 none
  statics := none }

def pool8 : Array CpInfo := pool [(1, .class_ 2), (0, u "java/lang/constant/ConstantDesc"), (0, .class_ 4), (0, u "java/lang/Object")] 32

/-- java/lang/constant/ConstantDesc -/
def k8 : Class := { plain "java/lang/constant/ConstantDesc" (some 0) with
  accessFlags := 1537
  interfaces := #[]
  cf := some (fileOf pool8 1 #[] #[] 1537 3 #[] #[])
  fields := #[]
  methods := #[]
  instanceTypes := #[]
  staticTypes := #[]
  resolved := Array.replicate 37 none
  statics := none }

def pool9 : Array CpInfo := pool [(1, .class_ 2), (0, u "java/lang/Integer"), (16, u "digits"), (0, u "[C"), (32, u "numberOfLeadingZeros"), (0, u "(I)I"), (30, u "DigitOnes"), (0, u "[B"), (2, u "DigitTens"), (99, .class_ 190), (0, u "java/lang/Integer$IntegerCache"), (3, u "I"), (8, .class_ 204), (0, u "java/lang/Number"), (2, u "value"), (56, .integer 65536), (37, u "TYPE"), (0, u "Ljava/lang/Class;"), (0, .class_ 305), (0, u "java/lang/Comparable"), (0, .class_ 307), (0, u "java/lang/constant/Constable"), (0, .class_ 309), (0, u "java/lang/constant/ConstantDesc"), (0, u "MIN_VALUE"), (1, u "MAX_VALUE"), (3, u "SIZE"), (1, u "BYTES"), (1, u "serialVersionUID"), (0, u "J")] 131

def k9c0 : Code := { maxStack := 3, maxLocals := 2, code := jdk_33_method_47_code, exceptionTable := #[], attributes := #[] }
def k9m0 : Method := { name := "numberOfLeadingZeros", desc := "(I)I", sig := { parameters := [.int], returnType := some .int }, accessFlags := 9, code := some k9c0 }
/-- java/lang/Integer -/
def k9 : Class := { plain "java/lang/Integer" (some 5) with
  accessFlags := 49
  interfaces := #[6, 7, 8]
  cf := some (fileOf pool9 1 #[.nestMembers #[189]] #[{ accessFlags := 9, nameIndex := 53, descriptorIndex := 54, attributes := #[] }] 49 203 #[304, 306, 308] #[{ accessFlags := 25, nameIndex := 310, descriptorIndex := 194, attributes := #[] }, { accessFlags := 25, nameIndex := 312, descriptorIndex := 194, attributes := #[] }, { accessFlags := 25, nameIndex := 302, descriptorIndex := 303, attributes := #[] }, { accessFlags := 24, nameIndex := 19, descriptorIndex := 20, attributes := #[] }, { accessFlags := 24, nameIndex := 89, descriptorIndex := 86, attributes := #[] }, { accessFlags := 24, nameIndex := 85, descriptorIndex := 86, attributes := #[] }, { accessFlags := 18, nameIndex := 207, descriptorIndex := 194, attributes := #[] }, { accessFlags := 25, nameIndex := 316, descriptorIndex := 194, attributes := #[] }, { accessFlags := 25, nameIndex := 318, descriptorIndex := 194, attributes := #[] }, { accessFlags := 26, nameIndex := 320, descriptorIndex := 321, attributes := #[] }])
  fields := #[{ name := "MIN_VALUE", type := .int, accessFlags := 25, slot := 0, constantValue := 0 }, { name := "MAX_VALUE", type := .int, accessFlags := 25, slot := 1, constantValue := 0 }, { name := "TYPE", type := (.object "java/lang/Class"), accessFlags := 25, slot := 2, constantValue := 0 }, { name := "digits", type := (.array .char), accessFlags := 24, slot := 3, constantValue := 0 }, { name := "DigitTens", type := (.array .byte), accessFlags := 24, slot := 4, constantValue := 0 }, { name := "DigitOnes", type := (.array .byte), accessFlags := 24, slot := 5, constantValue := 0 }, { name := "value", type := .int, accessFlags := 18, slot := 0, constantValue := 0 }, { name := "SIZE", type := .int, accessFlags := 25, slot := 6, constantValue := 0 }, { name := "BYTES", type := .int, accessFlags := 25, slot := 7, constantValue := 0 }, { name := "serialVersionUID", type := .long, accessFlags := 26, slot := 8, constantValue := 0 }]
  methods := #[k9m0]
  instanceTypes := #[.int]
  staticTypes := #[.int, .int, (.object "java/lang/Class"), (.array .char), (.array .byte), (.array .byte), .int, .int, .long]
  resolved := Array.replicate 453 none
  statics := none }

def pool10 : Array CpInfo := pool [(1, .class_ 2), (0, u "java/lang/Math"), (1, .class_ 6), (1, u "java/lang/Object"), (0, u "<init>"), (0, u "()V"), (89, .class_ 100), (1, u "java/lang/Math$RandomNumberGeneratorHolder"), (71, u "negativeZeroFloatBits"), (0, u "J"), (2, u "negativeZeroDoubleBits"), (21, u "max"), (46, u "$assertionsDisabled"), (0, u "Z"), (88, u "(II)I"), (2, u "twoToTheDoubleScaleDown"), (0, u "D"), (4, u "twoToTheDoubleScaleUp"), (9, u "E"), (3, u "PI"), (2, u "TAU"), (2, u "DEGREES_TO_RADIANS"), (0, u "RADIANS_TO_DEGREES")] 94

def k10m0 : Method := { name := "<init>", desc := "()V", sig := { parameters := [], returnType := none }, accessFlags := 2, code := none }
def k10c1 : Code := { maxStack := 2, maxLocals := 2, code := jdk_29_method_65_code, exceptionTable := #[], attributes := #[] }
def k10m1 : Method := { name := "max", desc := "(II)I", sig := { parameters := [.int, .int], returnType := some .int }, accessFlags := 9, code := some k10c1 }
/-- java/lang/Math -/
def k10 : Class := { plain "java/lang/Math" (some 0) with
  accessFlags := 49
  interfaces := #[]
  cf := some (fileOf pool10 1 #[.nestMembers #[98]] #[{ accessFlags := 2, nameIndex := 7, descriptorIndex := 8, attributes := #[] }, { accessFlags := 9, nameIndex := 198, descriptorIndex := 335, attributes := #[] }] 49 4 #[] #[{ accessFlags := 25, nameIndex := 354, descriptorIndex := 339, attributes := #[] }, { accessFlags := 25, nameIndex := 358, descriptorIndex := 339, attributes := #[] }, { accessFlags := 25, nameIndex := 361, descriptorIndex := 339, attributes := #[] }, { accessFlags := 26, nameIndex := 364, descriptorIndex := 339, attributes := #[] }, { accessFlags := 26, nameIndex := 365, descriptorIndex := 339, attributes := #[] }, { accessFlags := 26, nameIndex := 172, descriptorIndex := 173, attributes := #[] }, { accessFlags := 26, nameIndex := 176, descriptorIndex := 173, attributes := #[] }, { accessFlags := 8, nameIndex := 344, descriptorIndex := 339, attributes := #[] }, { accessFlags := 8, nameIndex := 338, descriptorIndex := 339, attributes := #[] }, { accessFlags := 4120, nameIndex := 245, descriptorIndex := 246, attributes := #[] }])
  fields := #[{ name := "E", type := .double, accessFlags := 25, slot := 0, constantValue := 0 }, { name := "PI", type := .double, accessFlags := 25, slot := 1, constantValue := 0 }, { name := "TAU", type := .double, accessFlags := 25, slot := 2, constantValue := 0 }, { name := "DEGREES_TO_RADIANS", type := .double, accessFlags := 26, slot := 3, constantValue := 0 }, { name := "RADIANS_TO_DEGREES", type := .double, accessFlags := 26, slot := 4, constantValue := 0 }, { name := "negativeZeroFloatBits", type := .long, accessFlags := 26, slot := 5, constantValue := 0 }, { name := "negativeZeroDoubleBits", type := .long, accessFlags := 26, slot := 6, constantValue := 0 }, { name := "twoToTheDoubleScaleUp", type := .double, accessFlags := 8, slot := 7, constantValue := 0 }, { name := "twoToTheDoubleScaleDown", type := .double, accessFlags := 8, slot := 8, constantValue := 0 }, { name := "$assertionsDisabled", type := .boolean, accessFlags := 4120, slot := 9, constantValue := 0 }]
  methods := #[k10m0, k10m1]
  instanceTypes := #[]
  staticTypes := #[.double, .double, .double, .double, .double, .long, .long, .double, .double, .boolean]
  resolved := Array.replicate 460 none
  statics := none }

def pool11 : Array CpInfo := pool [(1, u "java/lang/Cloneable"), (0, .class_ 1), (0, u "java/lang/Object"), (0, .class_ 3)] 3

/-- java/lang/Cloneable -/
def k11 : Class := { plain "java/lang/Cloneable" (some 0) with
  accessFlags := 1537
  interfaces := #[]
  cf := some (fileOf pool11 2 #[] #[] 1537 4 #[] #[])
  fields := #[]
  methods := #[]
  instanceTypes := #[]
  staticTypes := #[]
  resolved := Array.replicate 8 none
  statics := none }

/-- the primitive boolean -/
def k12 : Class := { plain "boolean" none with kind := .primitive 'Z', accessFlags := 0x411 }
/-- [Z -/
def k13 : Class := { plain "[Z" (some 0) with kind := .array 12 .boolean, interfaces := #[11, 4], accessFlags := 1041 }

/-- the primitive byte -/
def k14 : Class := { plain "byte" none with kind := .primitive 'B', accessFlags := 0x411 }
/-- [B -/
def k15 : Class := { plain "[B" (some 0) with kind := .array 14 .byte, interfaces := #[11, 4], accessFlags := 1041 }

/-- the primitive int -/
def k16 : Class := { plain "int" none with kind := .primitive 'I', accessFlags := 0x411 }
/-- [I -/
def k17 : Class := { plain "[I" (some 0) with kind := .array 16 .int, interfaces := #[11, 4], accessFlags := 1041 }

/-- the primitive long -/
def k18 : Class := { plain "long" none with kind := .primitive 'J', accessFlags := 0x411 }
/-- [J -/
def k19 : Class := { plain "[J" (some 0) with kind := .array 18 .long, interfaces := #[11, 4], accessFlags := 1041 }

/-- [[I -/
def k20 : Class := { plain "[[I" (some 0) with kind := .array 17 (.array .int), interfaces := #[11, 4], accessFlags := 1041 }
/-- [[J -/
def k21 : Class := { plain "[[J" (some 0) with kind := .array 19 (.array .long), interfaces := #[11, 4], accessFlags := 1041 }
def heap : Heap := #[]
def classes : Array Class := #[k0, k1, k2, k3, k4, k5, k6, k7, k8, k9, k10, k11, k12, k13, k14, k15, k16, k17, k18, k19, k20, k21]
def interned : List (Array UInt16 × Addr) := []
def slotsUsed : Nat := 0
def theMethod : MethodId := ⟨1, 1⟩
def args0 : Array Value := #[.int 5, .int 5, .long 5, .long 5, .long 5, .long 5]
def aboutOver (below : List Frame) : State where
  vm := { classes := classes, interned := interned.toArray }
  heap := heap
  slotsUsed := slotsUsed
  threads := #[{ frames := .invoking theMethod args0 :: below }]
def below0 : List Frame := [.native { method := ⟨0, 0⟩, args := #[] }]
def about1 : State := aboutOver below0
def p0 : Program := .bare "" "" ""
def e0 : Env := launch0.env 0 0 0
theorem w_frames : about1.frames = Frame.invoking theMethod args0 :: below0 := rfl
set_option maxRecDepth 65536 in
theorem w_args : argsFit about1.vm theMethod args0 = true := by decide +kernel
set_option maxRecDepth 65536 in
theorem w_heap : heapFits about1 = true := by decide +kernel
set_option maxRecDepth 65536 in
theorem w_runnable : about1.curStatus? = some .runnable := by decide +kernel
set_option maxRecDepth 65536 in
theorem w_alone : about1.alone = true := by decide +kernel
set_option maxRecDepth 65536 in
theorem w_named : about1.methodNamed? x = some theMethod := by decide +kernel
set_option maxRecDepth 65536 in
theorem w_hears : about1.hears theMethod below0 = true := by decide +kernel
set_option maxRecDepth 65536 in
theorem w_ripe : about1.ripe theMethod args0 below0 = true := by decide +kernel
theorem w_running : about1.status = .running := rfl
set_option maxRecDepth 65536 in
theorem w_room : about1.hasRoom e0.platform room_1 = true :=
  launch0.hasRoom_least _ room_1 (by decide +kernel) (by decide +kernel) (by decide +kernel) (by decide +kernel) (by decide +kernel) (by decide +kernel)
theorem allAtoms_all (ts : List Jvm.Cond) (a : Array Jvm.Value) (st : Jvm.State) : (allAtoms ts).before a st = ts.all (fun c => c.before a st) := by
  induction ts with
  | nil => rfl
  | cons c t ih =>
    show (Jvm.Cond.and c (allAtoms t)).before a st = _
    rw [Jvm.Cond.before_and, ih, List.all_cons]
def words1 : List Jvm.Cond := Jvm.Cond.code x code maxLocals ret :: tables_1
/-- a 'code' word, met by the world's own term for the bytes: nothing is compared byte by byte -/
theorem code_word {y : MethodName} {bytes : ByteArray} {mx : Nat} {rt : Option FieldType} {a : Array Value} {s : State} {m : MethodId} {meth : Method} {c : Code} (h1 : s.methodNamed? y = some m) (h2 : s.vm.method? m = some meth) (h3 : meth.code = some c) (h4 : c.code = bytes)
    (h5 : (c.maxLocals == mx && c.exceptionTable.isEmpty && decide (c.maxStack ≤ mostOperands) && decide (meth.sig.returnType = rt) && !meth.locks && decide (parseMethodDescriptor y.desc = some meth.sig)) = true) : (Jvm.Cond.code y bytes mx rt).before a s = true := by
  simp only [Bool.and_eq_true, beq_iff_eq, Bool.not_eq_true', decide_eq_true_eq] at h5
  obtain ⟨⟨⟨⟨⟨g1, g2⟩, g3⟩, g4⟩, g5⟩, g6⟩ := h5
  simp [Cond.before, Cond.holds, Cond.value, h1, h2, h3, h4, g1, g2, g3, g4, g5, g6]
def isCode : Jvm.Cond → Bool
  | .code _ _ _ _ => true
  | _ => false
theorem all_split {L : List Jvm.Cond} {P : Jvm.Cond → Bool} (h1 : L.all (fun c => isCode c || P c) = true) (h2 : ∀ c ∈ L.filter isCode, P c = true) : L.all P = true := by
  refine List.all_eq_true.mpr fun c hc => ?_
  have h := List.all_eq_true.mp h1 c hc
  rcases Bool.eq_false_or_eq_true (isCode c) with hi | hi
  · exact h2 c (List.mem_filter.mpr ⟨hc, hi⟩)
  · simpa [hi] using h
set_option maxRecDepth 65536 in
theorem w_c0 : (Jvm.Cond.code x code maxLocals ret).before args0 about1 = true := code_word (m := ⟨1, 1⟩) (meth := k1m1) (c := k1c1) (by decide +kernel) rfl rfl rfl (by decide +kernel)
set_option maxRecDepth 65536 in
theorem w_c1 : (Jvm.Cond.code ({ cls := "com/example/causyn/causyn/analysis/MarkingStore", name := "<init>", desc := "(I)V" } : Jvm.MethodName) prog_3_method_1_code (2 : Nat) (Option.none : Option Jvm.ClassFile.FieldType)).before args0 about1 = true := code_word (m := ⟨2, 0⟩) (meth := k2m0) (c := k2c0) (by decide +kernel) rfl rfl rfl (by decide +kernel)
set_option maxRecDepth 65536 in
theorem w_c2 : (Jvm.Cond.code ({ cls := "java/lang/Object", name := "<init>", desc := "()V" } : Jvm.MethodName) object_method_1_code (1 : Nat) (Option.none : Option Jvm.ClassFile.FieldType)).before args0 about1 = true := code_word (m := ⟨0, 0⟩) (meth := k0m0) (c := k0c0) (by decide +kernel) rfl rfl rfl (by decide +kernel)
set_option maxRecDepth 65536 in
theorem w_c3 : (Jvm.Cond.code ({ cls := "java/util/Arrays", name := "fill", desc := "([II)V" } : Jvm.MethodName) jdk_65_method_103_code (4 : Nat) (Option.none : Option Jvm.ClassFile.FieldType)).before args0 about1 = true := code_word (m := ⟨3, 1⟩) (meth := k3m1) (c := k3c1) (by decide +kernel) rfl rfl rfl (by decide +kernel)
set_option maxRecDepth 65536 in
theorem w_c4 : (Jvm.Cond.code ({ cls := "com/example/causyn/causyn/analysis/MarkingStore", name := "layOut", desc := "()V" } : Jvm.MethodName) prog_3_method_15_code (6 : Nat) (Option.none : Option Jvm.ClassFile.FieldType)).before args0 about1 = true := code_word (m := ⟨2, 2⟩) (meth := k2m2) (c := k2c2) (by decide +kernel) rfl rfl rfl (by decide +kernel)
set_option maxRecDepth 65536 in
theorem w_c5 : (Jvm.Cond.code ({ cls := "java/lang/Integer", name := "numberOfLeadingZeros", desc := "(I)I" } : Jvm.MethodName) jdk_33_method_47_code (2 : Nat) (Option.some Jvm.ClassFile.FieldType.int)).before args0 about1 = true := code_word (m := ⟨9, 0⟩) (meth := k9m0) (c := k9c0) (by decide +kernel) rfl rfl rfl (by decide +kernel)
set_option maxRecDepth 65536 in
theorem w_c6 : (Jvm.Cond.code ({ cls := "java/lang/Math", name := "max", desc := "(II)I" } : Jvm.MethodName) jdk_29_method_65_code (2 : Nat) (Option.some Jvm.ClassFile.FieldType.int)).before args0 about1 = true := code_word (m := ⟨10, 1⟩) (meth := k10m1) (c := k10c1) (by decide +kernel) rfl rfl rfl (by decide +kernel)
set_option maxRecDepth 65536 in
theorem w_c7 : (Jvm.Cond.code ({ cls := "com/example/causyn/causyn/analysis/MarkingStore", name := "tokens", desc := "([JI)J" } : Jvm.MethodName) prog_3_method_4_code (3 : Nat) (Option.some Jvm.ClassFile.FieldType.long)).before args0 about1 = true := code_word (m := ⟨2, 1⟩) (meth := k2m1) (c := k2c1) (by decide +kernel) rfl rfl rfl (by decide +kernel)
def codes1 : List Jvm.Cond := [Jvm.Cond.code x code maxLocals ret, Jvm.Cond.code ({ cls := "com/example/causyn/causyn/analysis/MarkingStore", name := "<init>", desc := "(I)V" } : Jvm.MethodName) prog_3_method_1_code (2 : Nat) (Option.none : Option Jvm.ClassFile.FieldType), Jvm.Cond.code ({ cls := "java/lang/Object", name := "<init>", desc := "()V" } : Jvm.MethodName) object_method_1_code (1 : Nat) (Option.none : Option Jvm.ClassFile.FieldType), Jvm.Cond.code ({ cls := "java/util/Arrays", name := "fill", desc := "([II)V" } : Jvm.MethodName) jdk_65_method_103_code (4 : Nat) (Option.none : Option Jvm.ClassFile.FieldType), Jvm.Cond.code ({ cls := "com/example/causyn/causyn/analysis/MarkingStore", name := "layOut", desc := "()V" } : Jvm.MethodName) prog_3_method_15_code (6 : Nat) (Option.none : Option Jvm.ClassFile.FieldType), Jvm.Cond.code ({ cls := "java/lang/Integer", name := "numberOfLeadingZeros", desc := "(I)I" } : Jvm.MethodName) jdk_33_method_47_code (2 : Nat) (Option.some Jvm.ClassFile.FieldType.int), Jvm.Cond.code ({ cls := "java/lang/Math", name := "max", desc := "(II)I" } : Jvm.MethodName) jdk_29_method_65_code (2 : Nat) (Option.some Jvm.ClassFile.FieldType.int), Jvm.Cond.code ({ cls := "com/example/causyn/causyn/analysis/MarkingStore", name := "tokens", desc := "([JI)J" } : Jvm.MethodName) prog_3_method_4_code (3 : Nat) (Option.some Jvm.ClassFile.FieldType.long)]
set_option maxRecDepth 65536 in
theorem codes_eq : words1.filter isCode = codes1 := rfl
theorem w_codes : ∀ c ∈ words1.filter isCode, c.before args0 about1 = true := by
  rw [codes_eq]
  intro c hc
  simp only [codes1, List.mem_cons, List.not_mem_nil, or_false] at hc
  rcases hc with rfl | rfl | rfl | rfl | rfl | rfl | rfl | rfl
  · exact w_c0
  · exact w_c1
  · exact w_c2
  · exact w_c3
  · exact w_c4
  · exact w_c5
  · exact w_c6
  · exact w_c7
set_option maxRecDepth 65536 in
theorem w_t1 : (words1.take 24).all (fun c => isCode c || c.before args0 about1) = true := by decide +kernel
set_option maxRecDepth 65536 in
theorem w_t2 : ((words1.drop 24).take 24).all (fun c => isCode c || c.before args0 about1) = true := by decide +kernel
set_option maxRecDepth 65536 in
theorem w_t3 : ((words1.drop 24).drop 24).all (fun c => isCode c || c.before args0 about1) = true := by decide +kernel
theorem w_tables : (allAtoms (Jvm.Cond.code x code maxLocals ret :: tables_1)).before args0 about1 = true := by
  rw [allAtoms_all]
  show words1.all (fun c => c.before args0 about1) = true
  refine all_split ?_ w_codes
  rw [← List.take_append_drop 24 words1, List.all_append, w_t1, ← List.take_append_drop 24 (words1.drop 24), List.all_append, w_t2, w_t3]
  rfl
set_option maxRecDepth 65536 in
theorem w_case : (Jvm.Cond.and given_1 narrow_1).before args0 about1 = true := by decide +kernel
theorem w_applies : (headSpec (Jvm.Cond.code x code maxLocals ret :: tables_1) room_1).applies x e0.platform about1 = true :=
  (Spec.applies_iff w_frames).mpr ⟨w_running, w_runnable, w_alone, w_named, w_hears, w_ripe, w_room, w_tables⟩
theorem atStart : AtStart classFile x code maxLocals ret World_1 tables_1 room_1 Calls_1 rest_1 Pre_1 launch0 p0 e0 about1 theMethod args0 below0 :=
  ⟨lists_1, trivial, launch0.admits_env _ _ _, launch0.least_env, fairChoices_fair.cas, fairChoices_fair.clock, w_frames, w_args, w_heap, w_applies, trivial, trivial, w_case⟩
end start1
theorem witness_1 : WitnessClaimed_1 := ⟨start1.p0, start1.e0, start1.about1, start1.theMethod, start1.args0, start1.below0, start1.atStart⟩
end Jvm.Pilot.@@N@@
