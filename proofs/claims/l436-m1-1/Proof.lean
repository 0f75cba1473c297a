import JvmDerived
import JvmDerived.Pilot.@@N@@Statement
import JvmDerived.Pilot.@@N@@Code
set_option linter.unusedVariables false
set_option linter.unusedSimpArgs false
namespace Jvm.RoadKit
open Sem ClassFile Op Lib Jvm.Stand Jvm.Free Jvm.LawKit
section New
variable {p : Program} {l : Launch} {e : Env} {R : Room} {s : State} {m : MethodId} {args : Array Value} {below : List Frame} {meth : Method} {c : Code} {T : State} {locs : List Loc} {cells slots : Nat}
theorem retI (X : Stand p l e R s m args below meth c T locs cells slots) (hx : p.tables.exec = Jvm.exec) {pc : Nat} {Ls : Array Slot} {z : Int32} {rest : List Value} (hret : meth.sig.returnType = some .int) (hd : decode c.code pc = .ok (.ireturn, 1)) {fs : List Frame}
    (hl : ∀ (f : JFrame) (acts : List Action), f.method = m → f.locked = none → f.entered = [] → (doReturn e (T.setTop f) acts (some (.int z))).1 = T.setFrames fs) : Steps p.tables e below (T.setTop (mkF m pc Ls (.int z :: rest))) (T.setFrames fs) := by
  have hm' : T.vm.method? m = some meth := X.method'
  have hn : narrow .int (.int z) = .int z := rfl
  show Steps p.tables e below (T.setTop { method := m, pc := pc, locals := Ls, stack := _ :: rest, locked := none }) _
  jvm_step X.here [X.here.top, hx, hd, hm', hret, hn]
  first | (intro acts; rw [hl _ acts rfl rfl rfl]) | rw [hl _ _ rfl rfl rfl]
  exact Steps.refl _
theorem own_retA (X : Stand p l e R s m args below meth c T locs cells slots) (hx : p.tables.exec = Jvm.exec) {pc : Nat} {Ls : Array Slot} {w : Value} {t : FieldType} {rest : List Value} (hret : meth.sig.returnType = some t) (ht : t.isReference = true) (hw : w.isRef = true) (hd : decode c.code pc = .ok (.areturn, 1)) {fs : List Frame}
    (hl : ∀ (f : JFrame) (acts : List Action), f.method = m → f.locked = none → f.entered = [] → (doReturn e (T.setTop f) acts (some w)).1 = T.setFrames fs) : Steps p.tables e below (T.setTop (mkF m pc Ls (w :: rest))) (T.setFrames fs) := by
  have hm' : T.vm.method? m = some meth := X.method'
  rcases ref_cases hw with rfl | ⟨z, rfl⟩
  all_goals
    show Steps p.tables e below (T.setTop { method := m, pc := pc, locals := Ls, stack := _ :: rest, locked := none }) _
    jvm_step X.here [X.here.top, hx, hd, hm', hret, Value.isRef]
    try (refine ⟨ht, ?_⟩)
    first | (intro acts; rw [hl _ acts rfl rfl rfl]) | rw [hl _ _ rfl rfl rfl]
    exact Steps.refl _
end New
/-- from U the run comes to an end of which P tells -/
def own_Go (tb : Tables) (e : Env) (below : List Frame) (P : Outcome → State → Prop) (U : State) : Prop := ∃ s₂ o, Steps tb e below U s₂ ∧ s₂.status = .running ∧ Ended s₂ below o ∧ P o s₂
theorem own_st {tb : Tables} {e : Env} {below : List Frame} {P : Outcome → State → Prop} {U V : State} (h : ∀ t, Steps tb e below V t → Steps tb e below U t) (g : own_Go tb e below P V) : own_Go tb e below P U := by
  obtain ⟨s₂, o, h1, r⟩ := g
  exact ⟨s₂, o, h _ h1, r⟩
theorem own_tr {tb : Tables} {e : Env} {below : List Frame} {P : Outcome → State → Prop} {U V : State} (h : Steps tb e below U V) (g : own_Go tb e below P V) : own_Go tb e below P U := by
  obtain ⟨s₂, o, h1, r⟩ := g
  exact ⟨s₂, o, h.trans h1, r⟩
theorem own_end {p : Program} {l : Launch} {e : Env} {R : Room} {s : State} {m : MethodId} {args : Array Value} {below : List Frame} {meth : Method} {c : Code} {T : State} {locs : List Loc} {cells slots : Nat} (X : Stand p l e R s m args below meth c T locs cells slots) {h : Heap} (eT : T.heap = h) {v : Option Value} (hv : meth.sig.returnType = none → v = none) (hlk : meth.locks = false) {g : JFrame}
    (hst : ∀ fs, (∀ (f : JFrame) (acts : List Action), f.method = m → f.locked = none → f.entered = [] → (doReturn e (T.setTop f) acts v).1 = T.setFrames fs) → Steps p.tables e below (T.setTop g) (T.setFrames fs))
    {Q : Option Value → Heap → List Loc → Prop} (hQ : Q v h locs) {cc ss : Nat} (hc : cells ≤ cc) (hs : slots ≤ ss) :
    own_Go p.tables e below (fun o U' => ∃ v L, o = .returned v ∧ Q v U'.heap L ∧ FrameEnd s o U' L cc ss) (T.setTop g) := by
  subst eT
  obtain ⟨fs, hr, hrun, hended, hW, hsame⟩ := X.leave (v := v) hv hlk
  exact ⟨_, _, hst fs hr, hrun, hended, _, _, rfl, hQ, ⟨_, rfl⟩, hW, hsame.mono hc hs⟩
section Steps2
variable {p : Program} {l : Launch} {e : Env} {R : Room} {s : State} {m : MethodId} {args : Array Value} {below : List Frame} {meth : Method} {c : Code} {T : State} {locs : List Loc} {cells slots : Nat} {P : Outcome → State → Prop} {pc : Nat} {Ls : Array Slot} {st : List Value}
theorem o_iloadN (X : Stand p l e R s m args below meth c T locs cells slots) (hx : p.tables.exec = Jvm.exec) {k : Fin 4} {v : Int32} (hd : decode c.code pc = .ok (.iload_n k, 1)) (hl : Ls[k.val]? = some (.val (.int v))) (g : own_Go p.tables e below P (T.setTop (mkF m (pc + 1) Ls (.int v :: st)))) : own_Go p.tables e below P (T.setTop (mkF m pc Ls st)) := own_st (fun t k => XS.iloadN X.here hx rfl hd hl k) g
theorem o_iload (X : Stand p l e R s m args below meth c T locs cells slots) (hx : p.tables.exec = Jvm.exec) {k : Nat} {v : Int32} (hd : decode c.code pc = .ok (.iload k, 2)) (hl : Ls[k]? = some (.val (.int v))) (g : own_Go p.tables e below P (T.setTop (mkF m (pc + 2) Ls (.int v :: st)))) : own_Go p.tables e below P (T.setTop (mkF m pc Ls st)) := own_st (fun t k => XS.iload X.here hx rfl hd hl k) g
theorem o_lloadN (X : Stand p l e R s m args below meth c T locs cells slots) (hx : p.tables.exec = Jvm.exec) {k : Fin 4} {v : Int64} (hd : decode c.code pc = .ok (.lload_n k, 1)) (hl : Ls[k.val]? = some (.val (.long v))) (g : own_Go p.tables e below P (T.setTop (mkF m (pc + 1) Ls (.long v :: st)))) : own_Go p.tables e below P (T.setTop (mkF m pc Ls st)) := own_st (fun t k => XS.lloadN X.here hx rfl hd hl k) g
theorem o_lload (X : Stand p l e R s m args below meth c T locs cells slots) (hx : p.tables.exec = Jvm.exec) {k : Nat} {v : Int64} (hd : decode c.code pc = .ok (.lload k, 2)) (hl : Ls[k]? = some (.val (.long v))) (g : own_Go p.tables e below P (T.setTop (mkF m (pc + 2) Ls (.long v :: st)))) : own_Go p.tables e below P (T.setTop (mkF m pc Ls st)) := own_st (fun t k => XS.lload X.here hx rfl hd hl k) g
theorem o_aloadN (X : Stand p l e R s m args below meth c T locs cells slots) (hx : p.tables.exec = Jvm.exec) {k : Fin 4} {v : Value} (hd : decode c.code pc = .ok (.aload_n k, 1)) (hl : Ls[k.val]? = some (.val v)) (hv : v.isRef = true) (g : own_Go p.tables e below P (T.setTop (mkF m (pc + 1) Ls (v :: st)))) : own_Go p.tables e below P (T.setTop (mkF m pc Ls st)) := own_st (fun t k => XS.aloadN X.here hx rfl hd hl hv k) g
theorem o_aload (X : Stand p l e R s m args below meth c T locs cells slots) (hx : p.tables.exec = Jvm.exec) {k : Nat} {v : Value} (hd : decode c.code pc = .ok (.aload k, 2)) (hl : Ls[k]? = some (.val v)) (hv : v.isRef = true) (g : own_Go p.tables e below P (T.setTop (mkF m (pc + 2) Ls (v :: st)))) : own_Go p.tables e below P (T.setTop (mkF m pc Ls st)) := own_st (fun t k => XS.aload X.here hx rfl hd hl hv k) g
theorem o_istoreN (X : Stand p l e R s m args below meth c T locs cells slots) (hx : p.tables.exec = Jvm.exec) {k : Fin 4} {v : Int32} {l' : Array Slot} (hd : decode c.code pc = .ok (.istore_n k, 1)) (hl : storeLocals Ls k.val (.int v) = some l') (g : own_Go p.tables e below P (T.setTop (mkF m (pc + 1) l' st))) : own_Go p.tables e below P (T.setTop (mkF m pc Ls (.int v :: st))) := own_st (fun t k => XS.istoreN X.here hx rfl hd rfl hl k) g
theorem o_istore (X : Stand p l e R s m args below meth c T locs cells slots) (hx : p.tables.exec = Jvm.exec) {k : Nat} {v : Int32} {l' : Array Slot} (hd : decode c.code pc = .ok (.istore k, 2)) (hl : storeLocals Ls k (.int v) = some l') (g : own_Go p.tables e below P (T.setTop (mkF m (pc + 2) l' st))) : own_Go p.tables e below P (T.setTop (mkF m pc Ls (.int v :: st))) := own_st (fun t k => XS.istore X.here hx rfl hd rfl hl k) g
theorem o_lstoreN (X : Stand p l e R s m args below meth c T locs cells slots) (hx : p.tables.exec = Jvm.exec) {k : Fin 4} {v : Int64} {l' : Array Slot} (hd : decode c.code pc = .ok (.lstore_n k, 1)) (hl : storeLocals Ls k.val (.long v) = some l') (g : own_Go p.tables e below P (T.setTop (mkF m (pc + 1) l' st))) : own_Go p.tables e below P (T.setTop (mkF m pc Ls (.long v :: st))) := own_st (fun t k => XS.lstoreN X.here hx rfl hd rfl hl k) g
theorem o_lstore (X : Stand p l e R s m args below meth c T locs cells slots) (hx : p.tables.exec = Jvm.exec) {k : Nat} {v : Int64} {l' : Array Slot} (hd : decode c.code pc = .ok (.lstore k, 2)) (hl : storeLocals Ls k (.long v) = some l') (g : own_Go p.tables e below P (T.setTop (mkF m (pc + 2) l' st))) : own_Go p.tables e below P (T.setTop (mkF m pc Ls (.long v :: st))) := own_st (fun t k => XS.lstore X.here hx rfl hd rfl hl k) g
theorem o_astoreN (X : Stand p l e R s m args below meth c T locs cells slots) (hx : p.tables.exec = Jvm.exec) {k : Fin 4} {v : Value} {l' : Array Slot} (hd : decode c.code pc = .ok (.astore_n k, 1)) (hv : v.isRef = true) (hl : storeLocals Ls k.val v = some l') (g : own_Go p.tables e below P (T.setTop (mkF m (pc + 1) l' st))) : own_Go p.tables e below P (T.setTop (mkF m pc Ls (v :: st))) := own_st (fun t k => XS.astoreN X.here hx rfl hd rfl hv hl k) g
theorem o_astore (X : Stand p l e R s m args below meth c T locs cells slots) (hx : p.tables.exec = Jvm.exec) {k : Nat} {v : Value} {l' : Array Slot} (hd : decode c.code pc = .ok (.astore k, 2)) (hv : v.isRef = true) (hl : storeLocals Ls k v = some l') (g : own_Go p.tables e below P (T.setTop (mkF m (pc + 2) l' st))) : own_Go p.tables e below P (T.setTop (mkF m pc Ls (v :: st))) := own_st (fun t k => XS.astore X.here hx rfl hd rfl hv hl k) g
theorem o_iconst (X : Stand p l e R s m args below meth c T locs cells slots) (hx : p.tables.exec = Jvm.exec) {i : Int} (z : Int32) (hd : decode c.code pc = .ok (.iconst i, 1)) (hz : Int32.ofInt i = z) (g : own_Go p.tables e below P (T.setTop (mkF m (pc + 1) Ls (.int z :: st)))) : own_Go p.tables e below P (T.setTop (mkF m pc Ls st)) := by subst hz; exact own_st (fun t k => XS.iconst X.here hx rfl hd k) g
theorem o_bipush (X : Stand p l e R s m args below meth c T locs cells slots) (hx : p.tables.exec = Jvm.exec) {i : Int} (z : Int32) (hd : decode c.code pc = .ok (.bipush i, 2)) (hz : (Int8.ofInt i).toInt32 = z) (g : own_Go p.tables e below P (T.setTop (mkF m (pc + 2) Ls (.int z :: st)))) : own_Go p.tables e below P (T.setTop (mkF m pc Ls st)) := by subst hz; exact own_st (fun t k => XS.bipush X.here hx rfl hd k) g
theorem o_sipush (X : Stand p l e R s m args below meth c T locs cells slots) (hx : p.tables.exec = Jvm.exec) {i : Int} (z : Int32) (hd : decode c.code pc = .ok (.sipush i, 3)) (hz : (Int16.ofInt i).toInt32 = z) (g : own_Go p.tables e below P (T.setTop (mkF m (pc + 3) Ls (.int z :: st)))) : own_Go p.tables e below P (T.setTop (mkF m pc Ls st)) := by subst hz; exact own_st (fun t k => XS.sipush X.here hx rfl hd k) g
theorem o_lconst (X : Stand p l e R s m args below meth c T locs cells slots) (hx : p.tables.exec = Jvm.exec) {i : Fin 2} (z : Int64) (hd : decode c.code pc = .ok (.lconst i, 1)) (hz : Int64.ofNat i = z) (g : own_Go p.tables e below P (T.setTop (mkF m (pc + 1) Ls (.long z :: st)))) : own_Go p.tables e below P (T.setTop (mkF m pc Ls st)) := by subst hz; exact own_st (fun t k => XS.lconst X.here hx rfl hd k) g
theorem o_aconstNull (X : Stand p l e R s m args below meth c T locs cells slots) (hx : p.tables.exec = Jvm.exec) (hd : decode c.code pc = .ok (.aconst_null, 1)) (g : own_Go p.tables e below P (T.setTop (mkF m (pc + 1) Ls (.null :: st)))) : own_Go p.tables e below P (T.setTop (mkF m pc Ls st)) := own_st (fun t k => XS.aconstNull X.here hx rfl hd k) g
theorem o_iadd (X : Stand p l e R s m args below meth c T locs cells slots) (hx : p.tables.exec = Jvm.exec) {x y : Int32} (hd : decode c.code pc = .ok (.iadd, 1)) (g : own_Go p.tables e below P (T.setTop (mkF m (pc + 1) Ls (.int (x + y) :: st)))) : own_Go p.tables e below P (T.setTop (mkF m pc Ls (.int y :: .int x :: st))) := own_st (fun t k => XS.iadd X.here hx rfl hd rfl k) g
theorem o_ladd (X : Stand p l e R s m args below meth c T locs cells slots) (hx : p.tables.exec = Jvm.exec) {x y : Int64} (hd : decode c.code pc = .ok (.ladd, 1)) (g : own_Go p.tables e below P (T.setTop (mkF m (pc + 1) Ls (.long (x + y) :: st)))) : own_Go p.tables e below P (T.setTop (mkF m pc Ls (.long y :: .long x :: st))) := own_st (fun t k => XS.ladd X.here hx rfl hd rfl k) g
theorem o_isub (X : Stand p l e R s m args below meth c T locs cells slots) (hx : p.tables.exec = Jvm.exec) {x y : Int32} (hd : decode c.code pc = .ok (.isub, 1)) (g : own_Go p.tables e below P (T.setTop (mkF m (pc + 1) Ls (.int (x - y) :: st)))) : own_Go p.tables e below P (T.setTop (mkF m pc Ls (.int y :: .int x :: st))) := own_st (fun t k => XS.isub X.here hx rfl hd rfl k) g
theorem o_lsub (X : Stand p l e R s m args below meth c T locs cells slots) (hx : p.tables.exec = Jvm.exec) {x y : Int64} (hd : decode c.code pc = .ok (.lsub, 1)) (g : own_Go p.tables e below P (T.setTop (mkF m (pc + 1) Ls (.long (x - y) :: st)))) : own_Go p.tables e below P (T.setTop (mkF m pc Ls (.long y :: .long x :: st))) := own_st (fun t k => XS.lsub X.here hx rfl hd rfl k) g
theorem o_imul (X : Stand p l e R s m args below meth c T locs cells slots) (hx : p.tables.exec = Jvm.exec) {x y : Int32} (hd : decode c.code pc = .ok (.imul, 1)) (g : own_Go p.tables e below P (T.setTop (mkF m (pc + 1) Ls (.int (x * y) :: st)))) : own_Go p.tables e below P (T.setTop (mkF m pc Ls (.int y :: .int x :: st))) := own_st (fun t k => XS.imul X.here hx rfl hd rfl k) g
theorem o_lmul (X : Stand p l e R s m args below meth c T locs cells slots) (hx : p.tables.exec = Jvm.exec) {x y : Int64} (hd : decode c.code pc = .ok (.lmul, 1)) (g : own_Go p.tables e below P (T.setTop (mkF m (pc + 1) Ls (.long (x * y) :: st)))) : own_Go p.tables e below P (T.setTop (mkF m pc Ls (.long y :: .long x :: st))) := own_st (fun t k => XS.lmul X.here hx rfl hd rfl k) g
theorem o_iand (X : Stand p l e R s m args below meth c T locs cells slots) (hx : p.tables.exec = Jvm.exec) {x y : Int32} (hd : decode c.code pc = .ok (.iand, 1)) (g : own_Go p.tables e below P (T.setTop (mkF m (pc + 1) Ls (.int (x &&& y) :: st)))) : own_Go p.tables e below P (T.setTop (mkF m pc Ls (.int y :: .int x :: st))) := own_st (fun t k => XS.iand X.here hx rfl hd rfl k) g
theorem o_land (X : Stand p l e R s m args below meth c T locs cells slots) (hx : p.tables.exec = Jvm.exec) {x y : Int64} (hd : decode c.code pc = .ok (.land, 1)) (g : own_Go p.tables e below P (T.setTop (mkF m (pc + 1) Ls (.long (x &&& y) :: st)))) : own_Go p.tables e below P (T.setTop (mkF m pc Ls (.long y :: .long x :: st))) := own_st (fun t k => XS.land X.here hx rfl hd rfl k) g
theorem o_ior (X : Stand p l e R s m args below meth c T locs cells slots) (hx : p.tables.exec = Jvm.exec) {x y : Int32} (hd : decode c.code pc = .ok (.ior, 1)) (g : own_Go p.tables e below P (T.setTop (mkF m (pc + 1) Ls (.int (x ||| y) :: st)))) : own_Go p.tables e below P (T.setTop (mkF m pc Ls (.int y :: .int x :: st))) := own_st (fun t k => XS.ior X.here hx rfl hd rfl k) g
theorem o_lor (X : Stand p l e R s m args below meth c T locs cells slots) (hx : p.tables.exec = Jvm.exec) {x y : Int64} (hd : decode c.code pc = .ok (.lor, 1)) (g : own_Go p.tables e below P (T.setTop (mkF m (pc + 1) Ls (.long (x ||| y) :: st)))) : own_Go p.tables e below P (T.setTop (mkF m pc Ls (.long y :: .long x :: st))) := own_st (fun t k => XS.lor X.here hx rfl hd rfl k) g
theorem o_ixor (X : Stand p l e R s m args below meth c T locs cells slots) (hx : p.tables.exec = Jvm.exec) {x y : Int32} (hd : decode c.code pc = .ok (.ixor, 1)) (g : own_Go p.tables e below P (T.setTop (mkF m (pc + 1) Ls (.int (x ^^^ y) :: st)))) : own_Go p.tables e below P (T.setTop (mkF m pc Ls (.int y :: .int x :: st))) := own_st (fun t k => XS.ixor X.here hx rfl hd rfl k) g
theorem o_lxor (X : Stand p l e R s m args below meth c T locs cells slots) (hx : p.tables.exec = Jvm.exec) {x y : Int64} (hd : decode c.code pc = .ok (.lxor, 1)) (g : own_Go p.tables e below P (T.setTop (mkF m (pc + 1) Ls (.long (x ^^^ y) :: st)))) : own_Go p.tables e below P (T.setTop (mkF m pc Ls (.long y :: .long x :: st))) := own_st (fun t k => XS.lxor X.here hx rfl hd rfl k) g
theorem o_idiv (X : Stand p l e R s m args below meth c T locs cells slots) (hx : p.tables.exec = Jvm.exec) {x y : Int32} (hd : decode c.code pc = .ok (.idiv, 1)) (hy : y ≠ 0) (g : own_Go p.tables e below P (T.setTop (mkF m (pc + 1) Ls (.int (x / y) :: st)))) : own_Go p.tables e below P (T.setTop (mkF m pc Ls (.int y :: .int x :: st))) := own_st (fun t k => XS.idiv X.here hx rfl hd rfl hy k) g
theorem o_irem (X : Stand p l e R s m args below meth c T locs cells slots) (hx : p.tables.exec = Jvm.exec) {x y : Int32} (hd : decode c.code pc = .ok (.irem, 1)) (hy : y ≠ 0) (g : own_Go p.tables e below P (T.setTop (mkF m (pc + 1) Ls (.int (x - x / y * y) :: st)))) : own_Go p.tables e below P (T.setTop (mkF m pc Ls (.int y :: .int x :: st))) := own_st (fun t k => XS.irem X.here hx rfl hd rfl hy k) g
theorem o_ldiv (X : Stand p l e R s m args below meth c T locs cells slots) (hx : p.tables.exec = Jvm.exec) {x y : Int64} (hd : decode c.code pc = .ok (.ldiv, 1)) (hy : y ≠ 0) (g : own_Go p.tables e below P (T.setTop (mkF m (pc + 1) Ls (.long (x / y) :: st)))) : own_Go p.tables e below P (T.setTop (mkF m pc Ls (.long y :: .long x :: st))) := own_st (fun t k => XS.ldiv X.here hx rfl hd rfl hy k) g
theorem o_lrem (X : Stand p l e R s m args below meth c T locs cells slots) (hx : p.tables.exec = Jvm.exec) {x y : Int64} (hd : decode c.code pc = .ok (.lrem, 1)) (hy : y ≠ 0) (g : own_Go p.tables e below P (T.setTop (mkF m (pc + 1) Ls (.long (x - x / y * y) :: st)))) : own_Go p.tables e below P (T.setTop (mkF m pc Ls (.long y :: .long x :: st))) := own_st (fun t k => XS.lrem X.here hx rfl hd rfl hy k) g
theorem o_ineg (X : Stand p l e R s m args below meth c T locs cells slots) (hx : p.tables.exec = Jvm.exec) {x : Int32} (hd : decode c.code pc = .ok (.ineg, 1)) (g : own_Go p.tables e below P (T.setTop (mkF m (pc + 1) Ls (.int ((-x)) :: st)))) : own_Go p.tables e below P (T.setTop (mkF m pc Ls (.int x :: st))) := own_st (fun t k => XS.ineg X.here hx rfl hd rfl k) g
theorem o_lneg (X : Stand p l e R s m args below meth c T locs cells slots) (hx : p.tables.exec = Jvm.exec) {x : Int64} (hd : decode c.code pc = .ok (.lneg, 1)) (g : own_Go p.tables e below P (T.setTop (mkF m (pc + 1) Ls (.long ((-x)) :: st)))) : own_Go p.tables e below P (T.setTop (mkF m pc Ls (.long x :: st))) := own_st (fun t k => XS.lneg X.here hx rfl hd rfl k) g
theorem o_i2l (X : Stand p l e R s m args below meth c T locs cells slots) (hx : p.tables.exec = Jvm.exec) {x : Int32} (hd : decode c.code pc = .ok (.i2l, 1)) (g : own_Go p.tables e below P (T.setTop (mkF m (pc + 1) Ls (.long (x.toInt64) :: st)))) : own_Go p.tables e below P (T.setTop (mkF m pc Ls (.int x :: st))) := own_st (fun t k => XS.i2l X.here hx rfl hd rfl k) g
theorem o_l2i (X : Stand p l e R s m args below meth c T locs cells slots) (hx : p.tables.exec = Jvm.exec) {x : Int64} (hd : decode c.code pc = .ok (.l2i, 1)) (g : own_Go p.tables e below P (T.setTop (mkF m (pc + 1) Ls (.int (x.toInt32) :: st)))) : own_Go p.tables e below P (T.setTop (mkF m pc Ls (.long x :: st))) := own_st (fun t k => XS.l2i X.here hx rfl hd rfl k) g
theorem o_i2b (X : Stand p l e R s m args below meth c T locs cells slots) (hx : p.tables.exec = Jvm.exec) {x : Int32} (hd : decode c.code pc = .ok (.i2b, 1)) (g : own_Go p.tables e below P (T.setTop (mkF m (pc + 1) Ls (.int (x.toInt8.toInt32) :: st)))) : own_Go p.tables e below P (T.setTop (mkF m pc Ls (.int x :: st))) := own_st (fun t k => XS.i2b X.here hx rfl hd rfl k) g
theorem o_i2s (X : Stand p l e R s m args below meth c T locs cells slots) (hx : p.tables.exec = Jvm.exec) {x : Int32} (hd : decode c.code pc = .ok (.i2s, 1)) (g : own_Go p.tables e below P (T.setTop (mkF m (pc + 1) Ls (.int (x.toInt16.toInt32) :: st)))) : own_Go p.tables e below P (T.setTop (mkF m pc Ls (.int x :: st))) := own_st (fun t k => XS.i2s X.here hx rfl hd rfl k) g
theorem o_i2c (X : Stand p l e R s m args below meth c T locs cells slots) (hx : p.tables.exec = Jvm.exec) {x : Int32} (hd : decode c.code pc = .ok (.i2c, 1)) (g : own_Go p.tables e below P (T.setTop (mkF m (pc + 1) Ls (.int (x.toUInt32.toUInt16.toUInt32.toInt32) :: st)))) : own_Go p.tables e below P (T.setTop (mkF m pc Ls (.int x :: st))) := own_st (fun t k => XS.i2c X.here hx rfl hd rfl k) g
theorem o_ishl (X : Stand p l e R s m args below meth c T locs cells slots) (hx : p.tables.exec = Jvm.exec) {x : Int32} {y : Int32} (hd : decode c.code pc = .ok (.ishl, 1)) (g : own_Go p.tables e below P (T.setTop (mkF m (pc + 1) Ls (.int (x <<< (y &&& 31)) :: st)))) : own_Go p.tables e below P (T.setTop (mkF m pc Ls (.int y :: .int x :: st))) := own_st (fun t k => XS.ishl X.here hx rfl hd rfl k) g
theorem o_ishr (X : Stand p l e R s m args below meth c T locs cells slots) (hx : p.tables.exec = Jvm.exec) {x : Int32} {y : Int32} (hd : decode c.code pc = .ok (.ishr, 1)) (g : own_Go p.tables e below P (T.setTop (mkF m (pc + 1) Ls (.int (x >>> (y &&& 31)) :: st)))) : own_Go p.tables e below P (T.setTop (mkF m pc Ls (.int y :: .int x :: st))) := own_st (fun t k => XS.ishr X.here hx rfl hd rfl k) g
theorem o_iushr (X : Stand p l e R s m args below meth c T locs cells slots) (hx : p.tables.exec = Jvm.exec) {x : Int32} {y : Int32} (hd : decode c.code pc = .ok (.iushr, 1)) (g : own_Go p.tables e below P (T.setTop (mkF m (pc + 1) Ls (.int ((x.toUInt32 >>> (y &&& 31).toUInt32).toInt32) :: st)))) : own_Go p.tables e below P (T.setTop (mkF m pc Ls (.int y :: .int x :: st))) := own_st (fun t k => XS.iushr X.here hx rfl hd rfl k) g
theorem o_lshl (X : Stand p l e R s m args below meth c T locs cells slots) (hx : p.tables.exec = Jvm.exec) {x : Int64} {y : Int32} (hd : decode c.code pc = .ok (.lshl, 1)) (g : own_Go p.tables e below P (T.setTop (mkF m (pc + 1) Ls (.long (x <<< (y &&& 0x3f).toInt64) :: st)))) : own_Go p.tables e below P (T.setTop (mkF m pc Ls (.int y :: .long x :: st))) := own_st (fun t k => XS.lshl X.here hx rfl hd rfl k) g
theorem o_lshr (X : Stand p l e R s m args below meth c T locs cells slots) (hx : p.tables.exec = Jvm.exec) {x : Int64} {y : Int32} (hd : decode c.code pc = .ok (.lshr, 1)) (g : own_Go p.tables e below P (T.setTop (mkF m (pc + 1) Ls (.long (x >>> (y &&& 0x3f).toInt64) :: st)))) : own_Go p.tables e below P (T.setTop (mkF m pc Ls (.int y :: .long x :: st))) := own_st (fun t k => XS.lshr X.here hx rfl hd rfl k) g
theorem o_lushr (X : Stand p l e R s m args below meth c T locs cells slots) (hx : p.tables.exec = Jvm.exec) {x : Int64} {y : Int32} (hd : decode c.code pc = .ok (.lushr, 1)) (g : own_Go p.tables e below P (T.setTop (mkF m (pc + 1) Ls (.long ((x.toUInt64 >>> (y &&& 0x3f).toInt64.toUInt64).toInt64) :: st)))) : own_Go p.tables e below P (T.setTop (mkF m pc Ls (.int y :: .long x :: st))) := own_st (fun t k => XS.lushr X.here hx rfl hd rfl k) g
theorem o_lcmp (X : Stand p l e R s m args below meth c T locs cells slots) (hx : p.tables.exec = Jvm.exec) {x y : Int64} (hd : decode c.code pc = .ok (.lcmp, 1)) (g : own_Go p.tables e below P (T.setTop (mkF m (pc + 1) Ls (.int (lcmpW x y) :: st)))) : own_Go p.tables e below P (T.setTop (mkF m pc Ls (.long y :: .long x :: st))) := own_st (fun t k => XS.lcmp X.here hx rfl hd rfl k) g
theorem o_iinc (X : Stand p l e R s m args below meth c T locs cells slots) (hx : p.tables.exec = Jvm.exec) {k : Nat} {cst : Int} {x : Int32} {l' : Array Slot} (hd : decode c.code pc = .ok (.iinc k cst, 3)) (hl : Ls[k]? = some (.val (.int x))) (hl' : storeLocals Ls k (.int (x + Int32.ofInt cst)) = some l') (g : own_Go p.tables e below P (T.setTop (mkF m (pc + 3) l' st))) : own_Go p.tables e below P (T.setTop (mkF m pc Ls st)) := own_st (fun t k => XS.iinc X.here hx rfl hd hl hl' k) g
theorem o_dup (X : Stand p l e R s m args below meth c T locs cells slots) (hx : p.tables.exec = Jvm.exec) {x : Value} (hd : decode c.code pc = .ok (.dup, 1)) (hc : x.category = 1) (g : own_Go p.tables e below P (T.setTop (mkF m (pc + 1) Ls (x :: x :: st)))) : own_Go p.tables e below P (T.setTop (mkF m pc Ls (x :: st))) := own_st (fun t k => XS.dup X.here hx rfl hd rfl hc k) g
theorem o_pop (X : Stand p l e R s m args below meth c T locs cells slots) (hx : p.tables.exec = Jvm.exec) {x : Value} (hd : decode c.code pc = .ok (.pop, 1)) (hc : x.category = 1) (g : own_Go p.tables e below P (T.setTop (mkF m (pc + 1) Ls st))) : own_Go p.tables e below P (T.setTop (mkF m pc Ls (x :: st))) := own_st (fun t k => XS.pop X.here hx rfl hd rfl hc k) g
theorem o_dupX1 (X : Stand p l e R s m args below meth c T locs cells slots) (hx : p.tables.exec = Jvm.exec) {x y : Value} (hd : decode c.code pc = .ok (.dup_x1, 1)) (hc : x.category = 1) (hc' : y.category = 1) (g : own_Go p.tables e below P (T.setTop (mkF m (pc + 1) Ls (x :: y :: x :: st)))) : own_Go p.tables e below P (T.setTop (mkF m pc Ls (x :: y :: st))) := own_st (fun t k => XS.dupX1 X.here hx rfl hd rfl hc hc' k) g
theorem o_dup2 (X : Stand p l e R s m args below meth c T locs cells slots) (hx : p.tables.exec = Jvm.exec) {x y : Value} (hd : decode c.code pc = .ok (.dup2, 1)) (hc : x.category = 1) (hc' : y.category = 1) (g : own_Go p.tables e below P (T.setTop (mkF m (pc + 1) Ls (x :: y :: x :: y :: st)))) : own_Go p.tables e below P (T.setTop (mkF m pc Ls (x :: y :: st))) := own_st (fun t k => Jvm.Free.XT.dup2 X.here hx rfl hd rfl hc hc' k) g
theorem o_goto (X : Stand p l e R s m args below meth c T locs cells slots) (hx : p.tables.exec = Jvm.exec) {o : Int} {pc' : Nat} (hd : decode c.code pc = .ok (.goto o, 3)) (ho : 0 ≤ (pc : Int) + o) (hp : ((pc : Int) + o).toNat = pc') (g : own_Go p.tables e below P (T.setTop (mkF m pc' Ls st))) : own_Go p.tables e below P (T.setTop (mkF m pc Ls st)) := own_st (fun t k => XS.goto X.here hx rfl rfl hd ho hp k) g
theorem o_ifYes (X : Stand p l e R s m args below meth c T locs cells slots) (hx : p.tables.exec = Jvm.exec) {cd : ClassFile.Cond} {x : Int32} {o : Int} {pc' : Nat} (hd : decode c.code pc = .ok (.ifCond cd o, 3)) (hc : if_icmp.holds cd x 0 = true) (ho : 0 ≤ (pc : Int) + o) (hp : ((pc : Int) + o).toNat = pc') (g : own_Go p.tables e below P (T.setTop (mkF m pc' Ls st))) : own_Go p.tables e below P (T.setTop (mkF m pc Ls (.int x :: st))) := own_st (fun t k => XS.ifYes X.here hx rfl rfl hd rfl ((if0 _ _).trans hc) ho hp k) g
theorem o_ifNo (X : Stand p l e R s m args below meth c T locs cells slots) (hx : p.tables.exec = Jvm.exec) {cd : ClassFile.Cond} {x : Int32} {o : Int} (hd : decode c.code pc = .ok (.ifCond cd o, 3)) (hc : if_icmp.holds cd x 0 = false) (g : own_Go p.tables e below P (T.setTop (mkF m (pc + 3) Ls st))) : own_Go p.tables e below P (T.setTop (mkF m pc Ls (.int x :: st))) := own_st (fun t k => XS.ifNo X.here hx rfl hd rfl ((if0 _ _).trans hc) k) g
theorem o_icmpYes (X : Stand p l e R s m args below meth c T locs cells slots) (hx : p.tables.exec = Jvm.exec) {cd : ClassFile.Cond} {x y : Int32} {o : Int} {pc' : Nat} (hd : decode c.code pc = .ok (.if_icmp cd o, 3)) (hc : if_icmp.holds cd x y = true) (ho : 0 ≤ (pc : Int) + o) (hp : ((pc : Int) + o).toNat = pc') (g : own_Go p.tables e below P (T.setTop (mkF m pc' Ls st))) : own_Go p.tables e below P (T.setTop (mkF m pc Ls (.int y :: .int x :: st))) := own_st (fun t k => XS.icmpYes X.here hx rfl rfl hd rfl hc ho hp k) g
theorem o_icmpNo (X : Stand p l e R s m args below meth c T locs cells slots) (hx : p.tables.exec = Jvm.exec) {cd : ClassFile.Cond} {x y : Int32} {o : Int} (hd : decode c.code pc = .ok (.if_icmp cd o, 3)) (hc : if_icmp.holds cd x y = false) (g : own_Go p.tables e below P (T.setTop (mkF m (pc + 3) Ls st))) : own_Go p.tables e below P (T.setTop (mkF m pc Ls (.int y :: .int x :: st))) := own_st (fun t k => XS.icmpNo X.here hx rfl hd rfl hc k) g
theorem o_ifnullYes (X : Stand p l e R s m args below meth c T locs cells slots) (hx : p.tables.exec = Jvm.exec) {o : Int} {pc' : Nat} (hd : decode c.code pc = .ok (.ifnull o, 3)) (ho : 0 ≤ (pc : Int) + o) (hp : ((pc : Int) + o).toNat = pc') (g : own_Go p.tables e below P (T.setTop (mkF m pc' Ls st))) : own_Go p.tables e below P (T.setTop (mkF m pc Ls (.null :: st))) := own_st (fun t k => XS.ifnullYes X.here hx rfl rfl hd rfl ho hp k) g
theorem o_ifnullNo (X : Stand p l e R s m args below meth c T locs cells slots) (hx : p.tables.exec = Jvm.exec) {o : Int} {b : Addr} (hd : decode c.code pc = .ok (.ifnull o, 3)) (g : own_Go p.tables e below P (T.setTop (mkF m (pc + 3) Ls st))) : own_Go p.tables e below P (T.setTop (mkF m pc Ls (.ref b :: st))) := own_st (fun t k => XS.ifnullNo X.here hx rfl hd rfl k) g
theorem o_ifnonnullNo (X : Stand p l e R s m args below meth c T locs cells slots) (hx : p.tables.exec = Jvm.exec) {o : Int} (hd : decode c.code pc = .ok (.ifnonnull o, 3)) (g : own_Go p.tables e below P (T.setTop (mkF m (pc + 3) Ls st))) : own_Go p.tables e below P (T.setTop (mkF m pc Ls (.null :: st))) := own_st (fun t k => XS.ifnonnullNo X.here hx rfl hd rfl k) g
theorem o_ifnonnullYes (X : Stand p l e R s m args below meth c T locs cells slots) (hx : p.tables.exec = Jvm.exec) {o : Int} {b : Addr} {pc' : Nat} (hd : decode c.code pc = .ok (.ifnonnull o, 3)) (ho : 0 ≤ (pc : Int) + o) (hp : ((pc : Int) + o).toNat = pc') (g : own_Go p.tables e below P (T.setTop (mkF m pc' Ls st))) : own_Go p.tables e below P (T.setTop (mkF m pc Ls (.ref b :: st))) := own_st (fun t k => XS.ifnonnullYes X.here hx rfl rfl hd rfl ho hp k) g
theorem o_ldc (X : Stand p l e R s m args below meth c T locs cells slots) (hx : p.tables.exec = Jvm.exec) {own : String} {index : Nat} {v : Int32} (hown : s.vm.findClass own = some m.cls) (hd : decode c.code pc = .ok (.ldc index, 2)) (hk : (Cond.constant own index v).before args s = true) (g : own_Go p.tables e below P (T.setTop (mkF m (pc + 2) Ls (.int v :: st)))) : own_Go p.tables e below P (T.setTop (mkF m pc Ls st)) := own_st (X.ldcInt hx hown hk (g := mkF m pc Ls st) rfl hd) g
theorem o_ldc2 (X : Stand p l e R s m args below meth c T locs cells slots) (hx : p.tables.exec = Jvm.exec) {own : String} {index : Nat} {v : Int64} (hown : s.vm.findClass own = some m.cls) (hd : decode c.code pc = .ok (.ldc2_w index, 3)) (hk : (Cond.constantLong own index v).before args s = true) (g : own_Go p.tables e below P (T.setTop (mkF m (pc + 3) Ls (.long v :: st)))) : own_Go p.tables e below P (T.setTop (mkF m pc Ls st)) := own_st (X.ldc2Long hx hown hk (g := mkF m pc Ls st) rfl hd) g
end Steps2
end Jvm.RoadKit
namespace Jvm.Pilot.@@N@@
open Jvm Jvm.ClassFile Sem Op Lib Jvm.Free Jvm.Stand Jvm.LawKit Jvm.RoadKit Bundle Jvm.Pilot.@@N@@.Jvm.D
def own_in (p1 : Int32) (p2 : Int32) (p3 : Int32)  : Int32 := (if p1 < p2 then (0 : Int32) else (if p3 < p1 then (0 : Int32) else (1 : Int32)))
theorem pn_3 : plainName "com/example/libinfoset/libinfoset/model/XmlCharactersIsNameStartCharacterPinLaw" = true := by first | (simp [plainName, overriddenIn]; done) | decide +kernel
theorem d3_0 : decode method_2_code 0 = .ok (.iload_n 0, 1) := by decide +kernel
theorem d3_1 : decode method_2_code 1 = .ok (.iload_n 1, 1) := by decide +kernel
theorem d3_2 : decode method_2_code 2 = .ok (.if_icmp .lt 12, 3) := by decide +kernel
theorem d3_14 : decode method_2_code 14 = .ok (.iconst 0, 1) := by decide +kernel
theorem d3_15 : decode method_2_code 15 = .ok (.ireturn, 1) := by decide +kernel
theorem d3_5 : decode method_2_code 5 = .ok (.iload_n 0, 1) := by decide +kernel
theorem d3_6 : decode method_2_code 6 = .ok (.iload_n 2, 1) := by decide +kernel
theorem d3_7 : decode method_2_code 7 = .ok (.if_icmp .gt 7, 3) := by decide +kernel
theorem d3_10 : decode method_2_code 10 = .ok (.iconst 1, 1) := by decide +kernel
theorem d3_11 : decode method_2_code 11 = .ok (.goto 4, 3) := by decide +kernel
theorem ef_rm3 (m : MethodId) (p1 : Int32) (p2 : Int32) (p3 : Int32) : entryFrame m #[(.int p1), (.int p2), (.int p3)] 3 = mkF m 0 #[iv p1, iv p2, iv p3] [] := by first | (simp [entryFrame, mkF, argsToLocals, Value.category]; done) | rfl
def Q_rm3 (Z : State) (a0 : Array Value) (p1 : Int32) (p2 : Int32) (p3 : Int32)  (h0 : Heap) (n0 : Nat) (v : Option Value) (h : Heap) (L : List Loc) : Prop := v = some (.int (own_in p1 p2 p3)) ∧ Fr n0 L ∧ h = h0
set_option maxRecDepth 65536 in
set_option maxHeartbeats 40000000 in
theorem rm3 (l : Launch) (Z : State) (a0 : Array Value) (hw : ∀ d ∈ tables_1, d.before a0 Z = true) (ws : List Jvm.Cond) (p1 : Int32) (p2 : Int32) (p3 : Int32)  (h0 : Heap) (n0 : Nat) (Z0 : n0 ≤ h0.size) :
    MetFree l (⟨"com/example/libinfoset/libinfoset/model/XmlCharactersIsNameStartCharacterPinLaw", "in", "(III)Z"⟩ : MethodName) (head1 (Jvm.Cond.code (⟨"com/example/libinfoset/libinfoset/model/XmlCharactersIsNameStartCharacterPinLaw", "in", "(III)Z"⟩ : MethodName) method_2_code 3 (some .boolean) :: ws) ({ frames := 0, cells := 0, slots := 0, locals := 0 } : Room)) (fun a U => a = #[(.int p1), (.int p2), (.int p3)] ∧ Z.Warmed39 U.vm ∧ U.heap = h0) (fun _ _ _ _ _ => True) (fun _ U o U' => ∃ v L, o = .returned v ∧ Q_rm3 Z a0 p1 p2 p3 h0 n0 v U'.heap L ∧ FrameEnd U o U' L ({ frames := 0, cells := 0, slots := 0, locals := 0 } : Room).cells ({ frames := 0, cells := 0, slots := 0, locals := 0 } : Room).slots) := by
  refine MetFree.of_bodySF (plainFor_of_name pn_3) hisR ?_
  intro p e s m args below meth c s₁ Bd hml0 hP hK
  obtain ⟨rfl, hZ, hh⟩ := hP
  have hx := Bd.exec
  have hby := Bd.bytes
  have hml : c.maxLocals = 3 := hml0
  have hown : s.vm.findClass "com/example/libinfoset/libinfoset/model/XmlCharactersIsNameStartCharacterPinLaw" = some m.cls := findClass_of_methodNamed Bd.named
  have hnm := (name_of_methodNamed Bd.named Bd.method).1
  have hlk : meth.locks = false := BodyLoose.notSynchronized (by assumption)
  have X0 : Stand p l e ({ frames := 0, cells := 0, slots := 0, locals := 0 } : Room) s m #[(.int p1), (.int p2), (.int p3)] below meth c s₁ [] 0 0 := Stand.of_body Bd
  have e0 : s₁.heap = h0 := by rw [← hh, Bd.state]; rfl
  have N0 := Fr.nil n0
  show own_Go p.tables e below (fun o U' => ∃ v L, o = .returned v ∧ Q_rm3 Z a0 p1 p2 p3 h0 n0 v U'.heap L ∧ FrameEnd s o U' L ({ frames := 0, cells := 0, slots := 0, locals := 0 } : Room).cells ({ frames := 0, cells := 0, slots := 0, locals := 0 } : Room).slots) (s₁.setTop (entryFrame m #[(.int p1), (.int p2), (.int p3)] 3))
  refine own_st (fun t k => castTop (ef_rm3 m p1 p2 p3) k) ?_
  have hv : own_in p1 p2 p3 = (if p1 < p2 then (0 : Int32) else (if p3 < p1 then (0 : Int32) else (1 : Int32))) := rfl
  show own_Go _ _ _ _ (s₁.setTop (mkF m 0 #[iv p1, iv p2, iv p3] []))
  refine o_iloadN X0 hx (hb hby d3_0) rfl ?_
  refine o_iloadN X0 hx (hb hby d3_1) rfl ?_
  by_cases hc2_1 : p1 < p2
  · have hv2 := hv.trans (if_pos hc2_1)
    refine o_icmpYes X0 hx (pc' := 14) (hb hby d3_2) (tlt hc2_1).1 (by decide) (by decide) ?_
    refine o_iconst X0 hx 0 (hb hby d3_14) rfl ?_
    exact own_end X0 e0 (v := some (.int (0 : Int32))) (fun h => by rw [Bd.returns] at h; cases h) hlk (fun fs hr => retN X0 hx (z := (0 : Int32)) (t := .boolean) Bd.returns (by simp) (hb hby d3_15) hr) (Q := Q_rm3 Z a0 p1 p2 p3 h0 n0) ⟨(congrArg (fun z => some (Value.int z)) hv2.symm), N0, rfl⟩ (by decide) (by decide)
  · have hv3 := hv.trans (if_neg hc2_1)
    refine o_icmpNo X0 hx (hb hby d3_2) (flt hc2_1).1 ?_
    refine o_iloadN X0 hx (hb hby d3_5) rfl ?_
    refine o_iloadN X0 hx (hb hby d3_6) rfl ?_
    by_cases hc7_4 : p3 < p1
    · have hv5 := hv3.trans (if_pos hc7_4)
      refine o_icmpYes X0 hx (pc' := 14) (hb hby d3_7) (tlt hc7_4).2.2.1 (by decide) (by decide) ?_
      refine o_iconst X0 hx 0 (hb hby d3_14) rfl ?_
      exact own_end X0 e0 (v := some (.int (0 : Int32))) (fun h => by rw [Bd.returns] at h; cases h) hlk (fun fs hr => retN X0 hx (z := (0 : Int32)) (t := .boolean) Bd.returns (by simp) (hb hby d3_15) hr) (Q := Q_rm3 Z a0 p1 p2 p3 h0 n0) ⟨(congrArg (fun z => some (Value.int z)) hv5.symm), N0, rfl⟩ (by decide) (by decide)
    · have hv6 := hv3.trans (if_neg hc7_4)
      refine o_icmpNo X0 hx (hb hby d3_7) (flt hc7_4).2.2.1 ?_
      refine o_iconst X0 hx 1 (hb hby d3_10) rfl ?_
      refine o_goto X0 hx (pc' := 15) (hb hby d3_11) (by decide) (by decide) ?_
      exact own_end X0 e0 (v := some (.int (1 : Int32))) (fun h => by rw [Bd.returns] at h; cases h) hlk (fun fs hr => retN X0 hx (z := (1 : Int32)) (t := .boolean) Bd.returns (by simp) (hb hby d3_15) hr) (Q := Q_rm3 Z a0 p1 p2 p3 h0 n0) ⟨(congrArg (fun z => some (Value.int z)) hv6.symm), N0, rfl⟩ (by decide) (by decide)
def own_spec (p1 : Int32)  : Int32 := (if p1 = (58 : Int32) then (1 : Int32) else (if (own_in p1 (65 : Int32) (90 : Int32)) = (0 : Int32) then (if p1 = (95 : Int32) then (1 : Int32) else (if (own_in p1 (97 : Int32) (122 : Int32)) = (0 : Int32) then (if (own_in p1 (192 : Int32) (214 : Int32)) = (0 : Int32) then (if (own_in p1 (216 : Int32) (246 : Int32)) = (0 : Int32) then (if (own_in p1 (248 : Int32) (767 : Int32)) = (0 : Int32) then (if (own_in p1 (880 : Int32) (893 : Int32)) = (0 : Int32) then (if (own_in p1 (895 : Int32) (8191 : Int32)) = (0 : Int32) then (if (own_in p1 (8204 : Int32) (8205 : Int32)) = (0 : Int32) then (if (own_in p1 (8304 : Int32) (8591 : Int32)) = (0 : Int32) then (if (own_in p1 (11264 : Int32) (12271 : Int32)) = (0 : Int32) then (if (own_in p1 (12289 : Int32) (55295 : Int32)) = (0 : Int32) then (if (own_in p1 (63744 : Int32) (64975 : Int32)) = (0 : Int32) then (if (own_in p1 (65008 : Int32) (65533 : Int32)) = (0 : Int32) then (if (own_in p1 (65536 : Int32) (983039 : Int32)) = (0 : Int32) then (0 : Int32) else (1 : Int32)) else (1 : Int32)) else (1 : Int32)) else (1 : Int32)) else (1 : Int32)) else (1 : Int32)) else (1 : Int32)) else (1 : Int32)) else (1 : Int32)) else (1 : Int32)) else (1 : Int32)) else (1 : Int32)) else (1 : Int32))) else (1 : Int32)))
theorem d2_0 : decode method_3_code 0 = .ok (.iload_n 0, 1) := by decide +kernel
theorem d2_1 : decode method_3_code 1 = .ok (.bipush 58, 2) := by decide +kernel
theorem d2_3 : decode method_3_code 3 = .ok (.if_icmp .eq 180, 3) := by decide +kernel
theorem d2_183 : decode method_3_code 183 = .ok (.iconst 1, 1) := by decide +kernel
theorem d2_184 : decode method_3_code 184 = .ok (.goto 4, 3) := by decide +kernel
theorem d2_188 : decode method_3_code 188 = .ok (.ireturn, 1) := by decide +kernel
theorem d2_6 : decode method_3_code 6 = .ok (.iload_n 0, 1) := by decide +kernel
theorem d2_7 : decode method_3_code 7 = .ok (.bipush 65, 2) := by decide +kernel
theorem d2_9 : decode method_3_code 9 = .ok (.bipush 90, 2) := by decide +kernel
theorem d2_11 : decode method_3_code 11 = .ok (.invokestatic 7, 3) := by decide +kernel
theorem pd_1 : parseMethodDescriptor "(III)Z" = some ⟨[.int, .int, .int], some .boolean⟩ := by decide +kernel
theorem d2_14 : decode method_3_code 14 = .ok (.ifCond .ne 169, 3) := by decide +kernel
theorem d2_17 : decode method_3_code 17 = .ok (.iload_n 0, 1) := by decide +kernel
theorem d2_18 : decode method_3_code 18 = .ok (.bipush 95, 2) := by decide +kernel
theorem d2_20 : decode method_3_code 20 = .ok (.if_icmp .eq 163, 3) := by decide +kernel
theorem d2_23 : decode method_3_code 23 = .ok (.iload_n 0, 1) := by decide +kernel
theorem d2_24 : decode method_3_code 24 = .ok (.bipush 97, 2) := by decide +kernel
theorem d2_26 : decode method_3_code 26 = .ok (.bipush 122, 2) := by decide +kernel
theorem d2_28 : decode method_3_code 28 = .ok (.invokestatic 7, 3) := by decide +kernel
theorem d2_31 : decode method_3_code 31 = .ok (.ifCond .ne 152, 3) := by decide +kernel
theorem d2_34 : decode method_3_code 34 = .ok (.iload_n 0, 1) := by decide +kernel
theorem d2_35 : decode method_3_code 35 = .ok (.sipush 192, 3) := by decide +kernel
theorem d2_38 : decode method_3_code 38 = .ok (.sipush 214, 3) := by decide +kernel
theorem d2_41 : decode method_3_code 41 = .ok (.invokestatic 7, 3) := by decide +kernel
theorem d2_44 : decode method_3_code 44 = .ok (.ifCond .ne 139, 3) := by decide +kernel
theorem d2_47 : decode method_3_code 47 = .ok (.iload_n 0, 1) := by decide +kernel
theorem d2_48 : decode method_3_code 48 = .ok (.sipush 216, 3) := by decide +kernel
theorem d2_51 : decode method_3_code 51 = .ok (.sipush 246, 3) := by decide +kernel
theorem d2_54 : decode method_3_code 54 = .ok (.invokestatic 7, 3) := by decide +kernel
theorem d2_57 : decode method_3_code 57 = .ok (.ifCond .ne 126, 3) := by decide +kernel
theorem d2_60 : decode method_3_code 60 = .ok (.iload_n 0, 1) := by decide +kernel
theorem d2_61 : decode method_3_code 61 = .ok (.sipush 248, 3) := by decide +kernel
theorem d2_64 : decode method_3_code 64 = .ok (.sipush 767, 3) := by decide +kernel
theorem d2_67 : decode method_3_code 67 = .ok (.invokestatic 7, 3) := by decide +kernel
theorem d2_70 : decode method_3_code 70 = .ok (.ifCond .ne 113, 3) := by decide +kernel
theorem d2_73 : decode method_3_code 73 = .ok (.iload_n 0, 1) := by decide +kernel
theorem d2_74 : decode method_3_code 74 = .ok (.sipush 880, 3) := by decide +kernel
theorem d2_77 : decode method_3_code 77 = .ok (.sipush 893, 3) := by decide +kernel
theorem d2_80 : decode method_3_code 80 = .ok (.invokestatic 7, 3) := by decide +kernel
theorem d2_83 : decode method_3_code 83 = .ok (.ifCond .ne 100, 3) := by decide +kernel
theorem d2_86 : decode method_3_code 86 = .ok (.iload_n 0, 1) := by decide +kernel
theorem d2_87 : decode method_3_code 87 = .ok (.sipush 895, 3) := by decide +kernel
theorem d2_90 : decode method_3_code 90 = .ok (.sipush 8191, 3) := by decide +kernel
theorem d2_93 : decode method_3_code 93 = .ok (.invokestatic 7, 3) := by decide +kernel
theorem d2_96 : decode method_3_code 96 = .ok (.ifCond .ne 87, 3) := by decide +kernel
theorem d2_99 : decode method_3_code 99 = .ok (.iload_n 0, 1) := by decide +kernel
theorem d2_100 : decode method_3_code 100 = .ok (.sipush 8204, 3) := by decide +kernel
theorem d2_103 : decode method_3_code 103 = .ok (.sipush 8205, 3) := by decide +kernel
theorem d2_106 : decode method_3_code 106 = .ok (.invokestatic 7, 3) := by decide +kernel
theorem d2_109 : decode method_3_code 109 = .ok (.ifCond .ne 74, 3) := by decide +kernel
theorem d2_112 : decode method_3_code 112 = .ok (.iload_n 0, 1) := by decide +kernel
theorem d2_113 : decode method_3_code 113 = .ok (.sipush 8304, 3) := by decide +kernel
theorem d2_116 : decode method_3_code 116 = .ok (.sipush 8591, 3) := by decide +kernel
theorem d2_119 : decode method_3_code 119 = .ok (.invokestatic 7, 3) := by decide +kernel
theorem d2_122 : decode method_3_code 122 = .ok (.ifCond .ne 61, 3) := by decide +kernel
theorem d2_125 : decode method_3_code 125 = .ok (.iload_n 0, 1) := by decide +kernel
theorem d2_126 : decode method_3_code 126 = .ok (.sipush 11264, 3) := by decide +kernel
theorem d2_129 : decode method_3_code 129 = .ok (.sipush 12271, 3) := by decide +kernel
theorem d2_132 : decode method_3_code 132 = .ok (.invokestatic 7, 3) := by decide +kernel
theorem d2_135 : decode method_3_code 135 = .ok (.ifCond .ne 48, 3) := by decide +kernel
theorem d2_138 : decode method_3_code 138 = .ok (.iload_n 0, 1) := by decide +kernel
theorem d2_139 : decode method_3_code 139 = .ok (.sipush 12289, 3) := by decide +kernel
theorem d2_142 : decode method_3_code 142 = .ok (.ldc 13, 2) := by decide +kernel
theorem d2_144 : decode method_3_code 144 = .ok (.invokestatic 7, 3) := by decide +kernel
theorem d2_147 : decode method_3_code 147 = .ok (.ifCond .ne 36, 3) := by decide +kernel
theorem d2_150 : decode method_3_code 150 = .ok (.iload_n 0, 1) := by decide +kernel
theorem d2_151 : decode method_3_code 151 = .ok (.ldc 14, 2) := by decide +kernel
theorem d2_153 : decode method_3_code 153 = .ok (.ldc 15, 2) := by decide +kernel
theorem d2_155 : decode method_3_code 155 = .ok (.invokestatic 7, 3) := by decide +kernel
theorem d2_158 : decode method_3_code 158 = .ok (.ifCond .ne 25, 3) := by decide +kernel
theorem d2_161 : decode method_3_code 161 = .ok (.iload_n 0, 1) := by decide +kernel
theorem d2_162 : decode method_3_code 162 = .ok (.ldc 16, 2) := by decide +kernel
theorem d2_164 : decode method_3_code 164 = .ok (.ldc 17, 2) := by decide +kernel
theorem d2_166 : decode method_3_code 166 = .ok (.invokestatic 7, 3) := by decide +kernel
theorem d2_169 : decode method_3_code 169 = .ok (.ifCond .ne 14, 3) := by decide +kernel
theorem d2_172 : decode method_3_code 172 = .ok (.iload_n 0, 1) := by decide +kernel
theorem d2_173 : decode method_3_code 173 = .ok (.ldc 18, 2) := by decide +kernel
theorem d2_175 : decode method_3_code 175 = .ok (.ldc 19, 2) := by decide +kernel
theorem d2_177 : decode method_3_code 177 = .ok (.invokestatic 7, 3) := by decide +kernel
theorem d2_180 : decode method_3_code 180 = .ok (.ifCond .eq 7, 3) := by decide +kernel
theorem d2_187 : decode method_3_code 187 = .ok (.iconst 0, 1) := by decide +kernel
theorem ef_rm2 (m : MethodId) (p1 : Int32) : entryFrame m #[(.int p1)] 1 = mkF m 0 #[iv p1] [] := by first | (simp [entryFrame, mkF, argsToLocals, Value.category]; done) | rfl
def Q_rm2 (Z : State) (a0 : Array Value) (p1 : Int32)  (h0 : Heap) (n0 : Nat) (v : Option Value) (h : Heap) (L : List Loc) : Prop := v = some (.int (own_spec p1)) ∧ Fr n0 L ∧ h = h0
set_option maxRecDepth 65536 in
set_option maxHeartbeats 40000000 in
theorem rm2 (l : Launch) (Z : State) (a0 : Array Value) (hw : ∀ d ∈ tables_1, d.before a0 Z = true) (ws : List Jvm.Cond) (p1 : Int32)  (h0 : Heap) (n0 : Nat) (Z0 : n0 ≤ h0.size) :
    MetFree l (⟨"com/example/libinfoset/libinfoset/model/XmlCharactersIsNameStartCharacterPinLaw", "spec", "(I)Z"⟩ : MethodName) (head1 (Jvm.Cond.code (⟨"com/example/libinfoset/libinfoset/model/XmlCharactersIsNameStartCharacterPinLaw", "spec", "(I)Z"⟩ : MethodName) method_3_code 1 (some .boolean) :: ws) ({ frames := 1, cells := 0, slots := 0, locals := 14 } : Room)) (fun a U => a = #[(.int p1)] ∧ Z.Warmed39 U.vm ∧ U.heap = h0) (fun _ _ _ _ _ => True) (fun _ U o U' => ∃ v L, o = .returned v ∧ Q_rm2 Z a0 p1 h0 n0 v U'.heap L ∧ FrameEnd U o U' L ({ frames := 1, cells := 0, slots := 0, locals := 14 } : Room).cells ({ frames := 1, cells := 0, slots := 0, locals := 14 } : Room).slots) := by
  refine MetFree.of_bodySF (plainFor_of_name pn_3) hisR ?_
  intro p e s m args below meth c s₁ Bd hml0 hP hK
  obtain ⟨rfl, hZ, hh⟩ := hP
  have hx := Bd.exec
  have hby := Bd.bytes
  have hml : c.maxLocals = 1 := hml0
  have hown : s.vm.findClass "com/example/libinfoset/libinfoset/model/XmlCharactersIsNameStartCharacterPinLaw" = some m.cls := findClass_of_methodNamed Bd.named
  have hnm := (name_of_methodNamed Bd.named Bd.method).1
  have hlk : meth.locks = false := BodyLoose.notSynchronized (by assumption)
  have X0 : Stand p l e ({ frames := 1, cells := 0, slots := 0, locals := 14 } : Room) s m #[(.int p1)] below meth c s₁ [] 0 0 := Stand.of_body Bd
  have e0 : s₁.heap = h0 := by rw [← hh, Bd.state]; rfl
  have N0 := Fr.nil n0
  show own_Go p.tables e below (fun o U' => ∃ v L, o = .returned v ∧ Q_rm2 Z a0 p1 h0 n0 v U'.heap L ∧ FrameEnd s o U' L ({ frames := 1, cells := 0, slots := 0, locals := 14 } : Room).cells ({ frames := 1, cells := 0, slots := 0, locals := 14 } : Room).slots) (s₁.setTop (entryFrame m #[(.int p1)] 1))
  refine own_st (fun t k => castTop (ef_rm2 m p1) k) ?_
  have hv : own_spec p1 = (if p1 = (58 : Int32) then (1 : Int32) else (if (own_in p1 (65 : Int32) (90 : Int32)) = (0 : Int32) then (if p1 = (95 : Int32) then (1 : Int32) else (if (own_in p1 (97 : Int32) (122 : Int32)) = (0 : Int32) then (if (own_in p1 (192 : Int32) (214 : Int32)) = (0 : Int32) then (if (own_in p1 (216 : Int32) (246 : Int32)) = (0 : Int32) then (if (own_in p1 (248 : Int32) (767 : Int32)) = (0 : Int32) then (if (own_in p1 (880 : Int32) (893 : Int32)) = (0 : Int32) then (if (own_in p1 (895 : Int32) (8191 : Int32)) = (0 : Int32) then (if (own_in p1 (8204 : Int32) (8205 : Int32)) = (0 : Int32) then (if (own_in p1 (8304 : Int32) (8591 : Int32)) = (0 : Int32) then (if (own_in p1 (11264 : Int32) (12271 : Int32)) = (0 : Int32) then (if (own_in p1 (12289 : Int32) (55295 : Int32)) = (0 : Int32) then (if (own_in p1 (63744 : Int32) (64975 : Int32)) = (0 : Int32) then (if (own_in p1 (65008 : Int32) (65533 : Int32)) = (0 : Int32) then (if (own_in p1 (65536 : Int32) (983039 : Int32)) = (0 : Int32) then (0 : Int32) else (1 : Int32)) else (1 : Int32)) else (1 : Int32)) else (1 : Int32)) else (1 : Int32)) else (1 : Int32)) else (1 : Int32)) else (1 : Int32)) else (1 : Int32)) else (1 : Int32)) else (1 : Int32)) else (1 : Int32)) else (1 : Int32))) else (1 : Int32))) := rfl
  show own_Go _ _ _ _ (s₁.setTop (mkF m 0 #[iv p1] []))
  refine o_iloadN X0 hx (hb hby d2_0) rfl ?_
  refine o_bipush X0 hx 58 (hb hby d2_1) rfl ?_
  by_cases hc3_1 : p1 = (58 : Int32)
  · have hv2 := hv.trans (if_pos hc3_1)
    refine o_icmpYes X0 hx (pc' := 183) (hb hby d2_3) (teq hc3_1).1 (by decide) (by decide) ?_
    refine o_iconst X0 hx 1 (hb hby d2_183) rfl ?_
    refine o_goto X0 hx (pc' := 188) (hb hby d2_184) (by decide) (by decide) ?_
    exact own_end X0 e0 (v := some (.int (1 : Int32))) (fun h => by rw [Bd.returns] at h; cases h) hlk (fun fs hr => retN X0 hx (z := (1 : Int32)) (t := .boolean) Bd.returns (by simp) (hb hby d2_188) hr) (Q := Q_rm2 Z a0 p1 h0 n0) ⟨(congrArg (fun z => some (Value.int z)) hv2.symm), N0, rfl⟩ (by decide) (by decide)
  · have hv3 := hv.trans (if_neg hc3_1)
    refine o_icmpNo X0 hx (hb hby d2_3) (feq hc3_1).1 ?_
    refine o_iloadN X0 hx (hb hby d2_6) rfl ?_
    refine o_bipush X0 hx 65 (hb hby d2_7) rfl ?_
    refine o_bipush X0 hx 90 (hb hby d2_9) rfl ?_
    obtain ⟨_, _, ⟨T4, L4, k4, n4⟩, -, X4, ⟨Lc4, hQ4, l4, y4, z4⟩, st4⟩ := Jvm.LawKit.callS X0 hx (y := (⟨"com/example/libinfoset/libinfoset/model/XmlCharactersIsNameStartCharacterPinLaw", "in", "(III)Z"⟩ : MethodName)) hown (mvT hZ (hw _ (List.mem_of_getElem? (i := 11) rfl))) (mvT hZ (hw _ (List.mem_of_getElem? (i := 12) rfl))) (mvT hZ (hw _ (List.mem_of_getElem? (i := 9) rfl))) (mvT hZ (hw _ (List.mem_of_getElem? (i := 13) rfl))) (by decide) (backOf (W := 0) (rm3 l Z a0 hw [] p1 (65 : Int32) (90 : Int32)  h0 n0 Z0) hZ (hw _ (List.mem_of_getElem? (i := 13) rfl)) (hw _ (List.mem_of_getElem? (i := 9) rfl)) (by decide) (by decide)) (g := (mkF m 11 #[iv p1] [(.int 90), (.int 65), (.int p1)])) rfl (by rw [hml]; rfl) (argsL := [(.int p1), (.int 65), (.int 90)]) (rest := []) (lenOf pd_1 rfl) rfl (by show 2 * 0 + _ ≤ _; exact Nat.le_of_eq rfl) (hb hby d2_11) (fun _ _ => ⟨rfl, e0, (by decide : 0 + 0 ≤ _), (by decide : 0 + 0 ≤ _)⟩)
    dsimp only [Pt.U, Pt.locs, Pt.cells, Pt.slots] at X4 l4 y4 z4 st4 hQ4
    subst l4 y4 z4
    obtain ⟨rfl, Nq4, e4⟩ := hQ4
    have N4 := Fr.app N0 Nq4
    refine own_st st4 ?_
    show own_Go _ _ _ _ (T4.setTop (mkF m 14 #[iv p1] [(.int (own_in p1 (65 : Int32) (90 : Int32)))]))
    by_cases hc14_5 : (own_in p1 (65 : Int32) (90 : Int32)) = (0 : Int32)
    · have hv6 := hv3.trans (if_pos hc14_5)
      refine o_ifNo X4 hx (hb hby d2_14) (teq hc14_5).2 ?_
      refine o_iloadN X4 hx (hb hby d2_17) rfl ?_
      refine o_bipush X4 hx 95 (hb hby d2_18) rfl ?_
      by_cases hc20_7 : p1 = (95 : Int32)
      · have hv8 := hv6.trans (if_pos hc20_7)
        refine o_icmpYes X4 hx (pc' := 183) (hb hby d2_20) (teq hc20_7).1 (by decide) (by decide) ?_
        refine o_iconst X4 hx 1 (hb hby d2_183) rfl ?_
        refine o_goto X4 hx (pc' := 188) (hb hby d2_184) (by decide) (by decide) ?_
        exact own_end X4 e4 (v := some (.int (1 : Int32))) (fun h => by rw [Bd.returns] at h; cases h) hlk (fun fs hr => retN X4 hx (z := (1 : Int32)) (t := .boolean) Bd.returns (by simp) (hb hby d2_188) hr) (Q := Q_rm2 Z a0 p1 h0 n0) ⟨(congrArg (fun z => some (Value.int z)) hv8.symm), N4, rfl⟩ (by decide) (by decide)
      · have hv9 := hv6.trans (if_neg hc20_7)
        refine o_icmpNo X4 hx (hb hby d2_20) (feq hc20_7).1 ?_
        refine o_iloadN X4 hx (hb hby d2_23) rfl ?_
        refine o_bipush X4 hx 97 (hb hby d2_24) rfl ?_
        refine o_bipush X4 hx 122 (hb hby d2_26) rfl ?_
        obtain ⟨_, _, ⟨T10, L10, k10, n10⟩, -, X10, ⟨Lc10, hQ10, l10, y10, z10⟩, st10⟩ := Jvm.LawKit.callS X4 hx (y := (⟨"com/example/libinfoset/libinfoset/model/XmlCharactersIsNameStartCharacterPinLaw", "in", "(III)Z"⟩ : MethodName)) hown (mvT hZ (hw _ (List.mem_of_getElem? (i := 11) rfl))) (mvT hZ (hw _ (List.mem_of_getElem? (i := 12) rfl))) (mvT hZ (hw _ (List.mem_of_getElem? (i := 9) rfl))) (mvT hZ (hw _ (List.mem_of_getElem? (i := 13) rfl))) (by decide) (backOf (W := 0) (rm3 l Z a0 hw [] p1 (97 : Int32) (122 : Int32)  h0 n0 Z0) hZ (hw _ (List.mem_of_getElem? (i := 13) rfl)) (hw _ (List.mem_of_getElem? (i := 9) rfl)) (by decide) (by decide)) (g := (mkF m 28 #[iv p1] [(.int 122), (.int 97), (.int p1)])) rfl (by rw [hml]; rfl) (argsL := [(.int p1), (.int 97), (.int 122)]) (rest := []) (lenOf pd_1 rfl) rfl (by show 2 * 0 + _ ≤ _; exact Nat.le_of_eq rfl) (hb hby d2_28) (fun _ _ => ⟨rfl, e4, (by decide : 0 + 0 ≤ _), (by decide : 0 + 0 ≤ _)⟩)
        dsimp only [Pt.U, Pt.locs, Pt.cells, Pt.slots] at X10 l10 y10 z10 st10 hQ10
        subst l10 y10 z10
        obtain ⟨rfl, Nq10, e10⟩ := hQ10
        have N10 := Fr.app N4 Nq10
        refine own_st st10 ?_
        show own_Go _ _ _ _ (T10.setTop (mkF m 31 #[iv p1] [(.int (own_in p1 (97 : Int32) (122 : Int32)))]))
        by_cases hc31_11 : (own_in p1 (97 : Int32) (122 : Int32)) = (0 : Int32)
        · have hv12 := hv9.trans (if_pos hc31_11)
          refine o_ifNo X10 hx (hb hby d2_31) (teq hc31_11).2 ?_
          refine o_iloadN X10 hx (hb hby d2_34) rfl ?_
          refine o_sipush X10 hx 192 (hb hby d2_35) rfl ?_
          refine o_sipush X10 hx 214 (hb hby d2_38) rfl ?_
          obtain ⟨_, _, ⟨T13, L13, k13, n13⟩, -, X13, ⟨Lc13, hQ13, l13, y13, z13⟩, st13⟩ := Jvm.LawKit.callS X10 hx (y := (⟨"com/example/libinfoset/libinfoset/model/XmlCharactersIsNameStartCharacterPinLaw", "in", "(III)Z"⟩ : MethodName)) hown (mvT hZ (hw _ (List.mem_of_getElem? (i := 11) rfl))) (mvT hZ (hw _ (List.mem_of_getElem? (i := 12) rfl))) (mvT hZ (hw _ (List.mem_of_getElem? (i := 9) rfl))) (mvT hZ (hw _ (List.mem_of_getElem? (i := 13) rfl))) (by decide) (backOf (W := 0) (rm3 l Z a0 hw [] p1 (192 : Int32) (214 : Int32)  h0 n0 Z0) hZ (hw _ (List.mem_of_getElem? (i := 13) rfl)) (hw _ (List.mem_of_getElem? (i := 9) rfl)) (by decide) (by decide)) (g := (mkF m 41 #[iv p1] [(.int 214), (.int 192), (.int p1)])) rfl (by rw [hml]; rfl) (argsL := [(.int p1), (.int 192), (.int 214)]) (rest := []) (lenOf pd_1 rfl) rfl (by show 2 * 0 + _ ≤ _; exact Nat.le_of_eq rfl) (hb hby d2_41) (fun _ _ => ⟨rfl, e10, (by decide : 0 + 0 ≤ _), (by decide : 0 + 0 ≤ _)⟩)
          dsimp only [Pt.U, Pt.locs, Pt.cells, Pt.slots] at X13 l13 y13 z13 st13 hQ13
          subst l13 y13 z13
          obtain ⟨rfl, Nq13, e13⟩ := hQ13
          have N13 := Fr.app N10 Nq13
          refine own_st st13 ?_
          show own_Go _ _ _ _ (T13.setTop (mkF m 44 #[iv p1] [(.int (own_in p1 (192 : Int32) (214 : Int32)))]))
          by_cases hc44_14 : (own_in p1 (192 : Int32) (214 : Int32)) = (0 : Int32)
          · have hv15 := hv12.trans (if_pos hc44_14)
            refine o_ifNo X13 hx (hb hby d2_44) (teq hc44_14).2 ?_
            refine o_iloadN X13 hx (hb hby d2_47) rfl ?_
            refine o_sipush X13 hx 216 (hb hby d2_48) rfl ?_
            refine o_sipush X13 hx 246 (hb hby d2_51) rfl ?_
            obtain ⟨_, _, ⟨T16, L16, k16, n16⟩, -, X16, ⟨Lc16, hQ16, l16, y16, z16⟩, st16⟩ := Jvm.LawKit.callS X13 hx (y := (⟨"com/example/libinfoset/libinfoset/model/XmlCharactersIsNameStartCharacterPinLaw", "in", "(III)Z"⟩ : MethodName)) hown (mvT hZ (hw _ (List.mem_of_getElem? (i := 11) rfl))) (mvT hZ (hw _ (List.mem_of_getElem? (i := 12) rfl))) (mvT hZ (hw _ (List.mem_of_getElem? (i := 9) rfl))) (mvT hZ (hw _ (List.mem_of_getElem? (i := 13) rfl))) (by decide) (backOf (W := 0) (rm3 l Z a0 hw [] p1 (216 : Int32) (246 : Int32)  h0 n0 Z0) hZ (hw _ (List.mem_of_getElem? (i := 13) rfl)) (hw _ (List.mem_of_getElem? (i := 9) rfl)) (by decide) (by decide)) (g := (mkF m 54 #[iv p1] [(.int 246), (.int 216), (.int p1)])) rfl (by rw [hml]; rfl) (argsL := [(.int p1), (.int 216), (.int 246)]) (rest := []) (lenOf pd_1 rfl) rfl (by show 2 * 0 + _ ≤ _; exact Nat.le_of_eq rfl) (hb hby d2_54) (fun _ _ => ⟨rfl, e13, (by decide : 0 + 0 ≤ _), (by decide : 0 + 0 ≤ _)⟩)
            dsimp only [Pt.U, Pt.locs, Pt.cells, Pt.slots] at X16 l16 y16 z16 st16 hQ16
            subst l16 y16 z16
            obtain ⟨rfl, Nq16, e16⟩ := hQ16
            have N16 := Fr.app N13 Nq16
            refine own_st st16 ?_
            show own_Go _ _ _ _ (T16.setTop (mkF m 57 #[iv p1] [(.int (own_in p1 (216 : Int32) (246 : Int32)))]))
            by_cases hc57_17 : (own_in p1 (216 : Int32) (246 : Int32)) = (0 : Int32)
            · have hv18 := hv15.trans (if_pos hc57_17)
              refine o_ifNo X16 hx (hb hby d2_57) (teq hc57_17).2 ?_
              refine o_iloadN X16 hx (hb hby d2_60) rfl ?_
              refine o_sipush X16 hx 248 (hb hby d2_61) rfl ?_
              refine o_sipush X16 hx 767 (hb hby d2_64) rfl ?_
              obtain ⟨_, _, ⟨T19, L19, k19, n19⟩, -, X19, ⟨Lc19, hQ19, l19, y19, z19⟩, st19⟩ := Jvm.LawKit.callS X16 hx (y := (⟨"com/example/libinfoset/libinfoset/model/XmlCharactersIsNameStartCharacterPinLaw", "in", "(III)Z"⟩ : MethodName)) hown (mvT hZ (hw _ (List.mem_of_getElem? (i := 11) rfl))) (mvT hZ (hw _ (List.mem_of_getElem? (i := 12) rfl))) (mvT hZ (hw _ (List.mem_of_getElem? (i := 9) rfl))) (mvT hZ (hw _ (List.mem_of_getElem? (i := 13) rfl))) (by decide) (backOf (W := 0) (rm3 l Z a0 hw [] p1 (248 : Int32) (767 : Int32)  h0 n0 Z0) hZ (hw _ (List.mem_of_getElem? (i := 13) rfl)) (hw _ (List.mem_of_getElem? (i := 9) rfl)) (by decide) (by decide)) (g := (mkF m 67 #[iv p1] [(.int 767), (.int 248), (.int p1)])) rfl (by rw [hml]; rfl) (argsL := [(.int p1), (.int 248), (.int 767)]) (rest := []) (lenOf pd_1 rfl) rfl (by show 2 * 0 + _ ≤ _; exact Nat.le_of_eq rfl) (hb hby d2_67) (fun _ _ => ⟨rfl, e16, (by decide : 0 + 0 ≤ _), (by decide : 0 + 0 ≤ _)⟩)
              dsimp only [Pt.U, Pt.locs, Pt.cells, Pt.slots] at X19 l19 y19 z19 st19 hQ19
              subst l19 y19 z19
              obtain ⟨rfl, Nq19, e19⟩ := hQ19
              have N19 := Fr.app N16 Nq19
              refine own_st st19 ?_
              show own_Go _ _ _ _ (T19.setTop (mkF m 70 #[iv p1] [(.int (own_in p1 (248 : Int32) (767 : Int32)))]))
              by_cases hc70_20 : (own_in p1 (248 : Int32) (767 : Int32)) = (0 : Int32)
              · have hv21 := hv18.trans (if_pos hc70_20)
                refine o_ifNo X19 hx (hb hby d2_70) (teq hc70_20).2 ?_
                refine o_iloadN X19 hx (hb hby d2_73) rfl ?_
                refine o_sipush X19 hx 880 (hb hby d2_74) rfl ?_
                refine o_sipush X19 hx 893 (hb hby d2_77) rfl ?_
                obtain ⟨_, _, ⟨T22, L22, k22, n22⟩, -, X22, ⟨Lc22, hQ22, l22, y22, z22⟩, st22⟩ := Jvm.LawKit.callS X19 hx (y := (⟨"com/example/libinfoset/libinfoset/model/XmlCharactersIsNameStartCharacterPinLaw", "in", "(III)Z"⟩ : MethodName)) hown (mvT hZ (hw _ (List.mem_of_getElem? (i := 11) rfl))) (mvT hZ (hw _ (List.mem_of_getElem? (i := 12) rfl))) (mvT hZ (hw _ (List.mem_of_getElem? (i := 9) rfl))) (mvT hZ (hw _ (List.mem_of_getElem? (i := 13) rfl))) (by decide) (backOf (W := 0) (rm3 l Z a0 hw [] p1 (880 : Int32) (893 : Int32)  h0 n0 Z0) hZ (hw _ (List.mem_of_getElem? (i := 13) rfl)) (hw _ (List.mem_of_getElem? (i := 9) rfl)) (by decide) (by decide)) (g := (mkF m 80 #[iv p1] [(.int 893), (.int 880), (.int p1)])) rfl (by rw [hml]; rfl) (argsL := [(.int p1), (.int 880), (.int 893)]) (rest := []) (lenOf pd_1 rfl) rfl (by show 2 * 0 + _ ≤ _; exact Nat.le_of_eq rfl) (hb hby d2_80) (fun _ _ => ⟨rfl, e19, (by decide : 0 + 0 ≤ _), (by decide : 0 + 0 ≤ _)⟩)
                dsimp only [Pt.U, Pt.locs, Pt.cells, Pt.slots] at X22 l22 y22 z22 st22 hQ22
                subst l22 y22 z22
                obtain ⟨rfl, Nq22, e22⟩ := hQ22
                have N22 := Fr.app N19 Nq22
                refine own_st st22 ?_
                show own_Go _ _ _ _ (T22.setTop (mkF m 83 #[iv p1] [(.int (own_in p1 (880 : Int32) (893 : Int32)))]))
                by_cases hc83_23 : (own_in p1 (880 : Int32) (893 : Int32)) = (0 : Int32)
                · have hv24 := hv21.trans (if_pos hc83_23)
                  refine o_ifNo X22 hx (hb hby d2_83) (teq hc83_23).2 ?_
                  refine o_iloadN X22 hx (hb hby d2_86) rfl ?_
                  refine o_sipush X22 hx 895 (hb hby d2_87) rfl ?_
                  refine o_sipush X22 hx 8191 (hb hby d2_90) rfl ?_
                  obtain ⟨_, _, ⟨T25, L25, k25, n25⟩, -, X25, ⟨Lc25, hQ25, l25, y25, z25⟩, st25⟩ := Jvm.LawKit.callS X22 hx (y := (⟨"com/example/libinfoset/libinfoset/model/XmlCharactersIsNameStartCharacterPinLaw", "in", "(III)Z"⟩ : MethodName)) hown (mvT hZ (hw _ (List.mem_of_getElem? (i := 11) rfl))) (mvT hZ (hw _ (List.mem_of_getElem? (i := 12) rfl))) (mvT hZ (hw _ (List.mem_of_getElem? (i := 9) rfl))) (mvT hZ (hw _ (List.mem_of_getElem? (i := 13) rfl))) (by decide) (backOf (W := 0) (rm3 l Z a0 hw [] p1 (895 : Int32) (8191 : Int32)  h0 n0 Z0) hZ (hw _ (List.mem_of_getElem? (i := 13) rfl)) (hw _ (List.mem_of_getElem? (i := 9) rfl)) (by decide) (by decide)) (g := (mkF m 93 #[iv p1] [(.int 8191), (.int 895), (.int p1)])) rfl (by rw [hml]; rfl) (argsL := [(.int p1), (.int 895), (.int 8191)]) (rest := []) (lenOf pd_1 rfl) rfl (by show 2 * 0 + _ ≤ _; exact Nat.le_of_eq rfl) (hb hby d2_93) (fun _ _ => ⟨rfl, e22, (by decide : 0 + 0 ≤ _), (by decide : 0 + 0 ≤ _)⟩)
                  dsimp only [Pt.U, Pt.locs, Pt.cells, Pt.slots] at X25 l25 y25 z25 st25 hQ25
                  subst l25 y25 z25
                  obtain ⟨rfl, Nq25, e25⟩ := hQ25
                  have N25 := Fr.app N22 Nq25
                  refine own_st st25 ?_
                  show own_Go _ _ _ _ (T25.setTop (mkF m 96 #[iv p1] [(.int (own_in p1 (895 : Int32) (8191 : Int32)))]))
                  by_cases hc96_26 : (own_in p1 (895 : Int32) (8191 : Int32)) = (0 : Int32)
                  · have hv27 := hv24.trans (if_pos hc96_26)
                    refine o_ifNo X25 hx (hb hby d2_96) (teq hc96_26).2 ?_
                    refine o_iloadN X25 hx (hb hby d2_99) rfl ?_
                    refine o_sipush X25 hx 8204 (hb hby d2_100) rfl ?_
                    refine o_sipush X25 hx 8205 (hb hby d2_103) rfl ?_
                    obtain ⟨_, _, ⟨T28, L28, k28, n28⟩, -, X28, ⟨Lc28, hQ28, l28, y28, z28⟩, st28⟩ := Jvm.LawKit.callS X25 hx (y := (⟨"com/example/libinfoset/libinfoset/model/XmlCharactersIsNameStartCharacterPinLaw", "in", "(III)Z"⟩ : MethodName)) hown (mvT hZ (hw _ (List.mem_of_getElem? (i := 11) rfl))) (mvT hZ (hw _ (List.mem_of_getElem? (i := 12) rfl))) (mvT hZ (hw _ (List.mem_of_getElem? (i := 9) rfl))) (mvT hZ (hw _ (List.mem_of_getElem? (i := 13) rfl))) (by decide) (backOf (W := 0) (rm3 l Z a0 hw [] p1 (8204 : Int32) (8205 : Int32)  h0 n0 Z0) hZ (hw _ (List.mem_of_getElem? (i := 13) rfl)) (hw _ (List.mem_of_getElem? (i := 9) rfl)) (by decide) (by decide)) (g := (mkF m 106 #[iv p1] [(.int 8205), (.int 8204), (.int p1)])) rfl (by rw [hml]; rfl) (argsL := [(.int p1), (.int 8204), (.int 8205)]) (rest := []) (lenOf pd_1 rfl) rfl (by show 2 * 0 + _ ≤ _; exact Nat.le_of_eq rfl) (hb hby d2_106) (fun _ _ => ⟨rfl, e25, (by decide : 0 + 0 ≤ _), (by decide : 0 + 0 ≤ _)⟩)
                    dsimp only [Pt.U, Pt.locs, Pt.cells, Pt.slots] at X28 l28 y28 z28 st28 hQ28
                    subst l28 y28 z28
                    obtain ⟨rfl, Nq28, e28⟩ := hQ28
                    have N28 := Fr.app N25 Nq28
                    refine own_st st28 ?_
                    show own_Go _ _ _ _ (T28.setTop (mkF m 109 #[iv p1] [(.int (own_in p1 (8204 : Int32) (8205 : Int32)))]))
                    by_cases hc109_29 : (own_in p1 (8204 : Int32) (8205 : Int32)) = (0 : Int32)
                    · have hv30 := hv27.trans (if_pos hc109_29)
                      refine o_ifNo X28 hx (hb hby d2_109) (teq hc109_29).2 ?_
                      refine o_iloadN X28 hx (hb hby d2_112) rfl ?_
                      refine o_sipush X28 hx 8304 (hb hby d2_113) rfl ?_
                      refine o_sipush X28 hx 8591 (hb hby d2_116) rfl ?_
                      obtain ⟨_, _, ⟨T31, L31, k31, n31⟩, -, X31, ⟨Lc31, hQ31, l31, y31, z31⟩, st31⟩ := Jvm.LawKit.callS X28 hx (y := (⟨"com/example/libinfoset/libinfoset/model/XmlCharactersIsNameStartCharacterPinLaw", "in", "(III)Z"⟩ : MethodName)) hown (mvT hZ (hw _ (List.mem_of_getElem? (i := 11) rfl))) (mvT hZ (hw _ (List.mem_of_getElem? (i := 12) rfl))) (mvT hZ (hw _ (List.mem_of_getElem? (i := 9) rfl))) (mvT hZ (hw _ (List.mem_of_getElem? (i := 13) rfl))) (by decide) (backOf (W := 0) (rm3 l Z a0 hw [] p1 (8304 : Int32) (8591 : Int32)  h0 n0 Z0) hZ (hw _ (List.mem_of_getElem? (i := 13) rfl)) (hw _ (List.mem_of_getElem? (i := 9) rfl)) (by decide) (by decide)) (g := (mkF m 119 #[iv p1] [(.int 8591), (.int 8304), (.int p1)])) rfl (by rw [hml]; rfl) (argsL := [(.int p1), (.int 8304), (.int 8591)]) (rest := []) (lenOf pd_1 rfl) rfl (by show 2 * 0 + _ ≤ _; exact Nat.le_of_eq rfl) (hb hby d2_119) (fun _ _ => ⟨rfl, e28, (by decide : 0 + 0 ≤ _), (by decide : 0 + 0 ≤ _)⟩)
                      dsimp only [Pt.U, Pt.locs, Pt.cells, Pt.slots] at X31 l31 y31 z31 st31 hQ31
                      subst l31 y31 z31
                      obtain ⟨rfl, Nq31, e31⟩ := hQ31
                      have N31 := Fr.app N28 Nq31
                      refine own_st st31 ?_
                      show own_Go _ _ _ _ (T31.setTop (mkF m 122 #[iv p1] [(.int (own_in p1 (8304 : Int32) (8591 : Int32)))]))
                      by_cases hc122_32 : (own_in p1 (8304 : Int32) (8591 : Int32)) = (0 : Int32)
                      · have hv33 := hv30.trans (if_pos hc122_32)
                        refine o_ifNo X31 hx (hb hby d2_122) (teq hc122_32).2 ?_
                        refine o_iloadN X31 hx (hb hby d2_125) rfl ?_
                        refine o_sipush X31 hx 11264 (hb hby d2_126) rfl ?_
                        refine o_sipush X31 hx 12271 (hb hby d2_129) rfl ?_
                        obtain ⟨_, _, ⟨T34, L34, k34, n34⟩, -, X34, ⟨Lc34, hQ34, l34, y34, z34⟩, st34⟩ := Jvm.LawKit.callS X31 hx (y := (⟨"com/example/libinfoset/libinfoset/model/XmlCharactersIsNameStartCharacterPinLaw", "in", "(III)Z"⟩ : MethodName)) hown (mvT hZ (hw _ (List.mem_of_getElem? (i := 11) rfl))) (mvT hZ (hw _ (List.mem_of_getElem? (i := 12) rfl))) (mvT hZ (hw _ (List.mem_of_getElem? (i := 9) rfl))) (mvT hZ (hw _ (List.mem_of_getElem? (i := 13) rfl))) (by decide) (backOf (W := 0) (rm3 l Z a0 hw [] p1 (11264 : Int32) (12271 : Int32)  h0 n0 Z0) hZ (hw _ (List.mem_of_getElem? (i := 13) rfl)) (hw _ (List.mem_of_getElem? (i := 9) rfl)) (by decide) (by decide)) (g := (mkF m 132 #[iv p1] [(.int 12271), (.int 11264), (.int p1)])) rfl (by rw [hml]; rfl) (argsL := [(.int p1), (.int 11264), (.int 12271)]) (rest := []) (lenOf pd_1 rfl) rfl (by show 2 * 0 + _ ≤ _; exact Nat.le_of_eq rfl) (hb hby d2_132) (fun _ _ => ⟨rfl, e31, (by decide : 0 + 0 ≤ _), (by decide : 0 + 0 ≤ _)⟩)
                        dsimp only [Pt.U, Pt.locs, Pt.cells, Pt.slots] at X34 l34 y34 z34 st34 hQ34
                        subst l34 y34 z34
                        obtain ⟨rfl, Nq34, e34⟩ := hQ34
                        have N34 := Fr.app N31 Nq34
                        refine own_st st34 ?_
                        show own_Go _ _ _ _ (T34.setTop (mkF m 135 #[iv p1] [(.int (own_in p1 (11264 : Int32) (12271 : Int32)))]))
                        by_cases hc135_35 : (own_in p1 (11264 : Int32) (12271 : Int32)) = (0 : Int32)
                        · have hv36 := hv33.trans (if_pos hc135_35)
                          refine o_ifNo X34 hx (hb hby d2_135) (teq hc135_35).2 ?_
                          refine o_iloadN X34 hx (hb hby d2_138) rfl ?_
                          refine o_sipush X34 hx 12289 (hb hby d2_139) rfl ?_
                          refine o_ldc X34 hx hown (hb hby d2_142) (mvT hZ (hw _ (List.mem_of_getElem? (i := 14) rfl))) ?_
                          obtain ⟨_, _, ⟨T37, L37, k37, n37⟩, -, X37, ⟨Lc37, hQ37, l37, y37, z37⟩, st37⟩ := Jvm.LawKit.callS X34 hx (y := (⟨"com/example/libinfoset/libinfoset/model/XmlCharactersIsNameStartCharacterPinLaw", "in", "(III)Z"⟩ : MethodName)) hown (mvT hZ (hw _ (List.mem_of_getElem? (i := 11) rfl))) (mvT hZ (hw _ (List.mem_of_getElem? (i := 12) rfl))) (mvT hZ (hw _ (List.mem_of_getElem? (i := 9) rfl))) (mvT hZ (hw _ (List.mem_of_getElem? (i := 13) rfl))) (by decide) (backOf (W := 0) (rm3 l Z a0 hw [] p1 (12289 : Int32) (55295 : Int32)  h0 n0 Z0) hZ (hw _ (List.mem_of_getElem? (i := 13) rfl)) (hw _ (List.mem_of_getElem? (i := 9) rfl)) (by decide) (by decide)) (g := (mkF m 144 #[iv p1] [(.int 55295), (.int 12289), (.int p1)])) rfl (by rw [hml]; rfl) (argsL := [(.int p1), (.int 12289), (.int 55295)]) (rest := []) (lenOf pd_1 rfl) rfl (by show 2 * 0 + _ ≤ _; exact Nat.le_of_eq rfl) (hb hby d2_144) (fun _ _ => ⟨rfl, e34, (by decide : 0 + 0 ≤ _), (by decide : 0 + 0 ≤ _)⟩)
                          dsimp only [Pt.U, Pt.locs, Pt.cells, Pt.slots] at X37 l37 y37 z37 st37 hQ37
                          subst l37 y37 z37
                          obtain ⟨rfl, Nq37, e37⟩ := hQ37
                          have N37 := Fr.app N34 Nq37
                          refine own_st st37 ?_
                          show own_Go _ _ _ _ (T37.setTop (mkF m 147 #[iv p1] [(.int (own_in p1 (12289 : Int32) (55295 : Int32)))]))
                          by_cases hc147_38 : (own_in p1 (12289 : Int32) (55295 : Int32)) = (0 : Int32)
                          · have hv39 := hv36.trans (if_pos hc147_38)
                            refine o_ifNo X37 hx (hb hby d2_147) (teq hc147_38).2 ?_
                            refine o_iloadN X37 hx (hb hby d2_150) rfl ?_
                            refine o_ldc X37 hx hown (hb hby d2_151) (mvT hZ (hw _ (List.mem_of_getElem? (i := 15) rfl))) ?_
                            refine o_ldc X37 hx hown (hb hby d2_153) (mvT hZ (hw _ (List.mem_of_getElem? (i := 16) rfl))) ?_
                            obtain ⟨_, _, ⟨T40, L40, k40, n40⟩, -, X40, ⟨Lc40, hQ40, l40, y40, z40⟩, st40⟩ := Jvm.LawKit.callS X37 hx (y := (⟨"com/example/libinfoset/libinfoset/model/XmlCharactersIsNameStartCharacterPinLaw", "in", "(III)Z"⟩ : MethodName)) hown (mvT hZ (hw _ (List.mem_of_getElem? (i := 11) rfl))) (mvT hZ (hw _ (List.mem_of_getElem? (i := 12) rfl))) (mvT hZ (hw _ (List.mem_of_getElem? (i := 9) rfl))) (mvT hZ (hw _ (List.mem_of_getElem? (i := 13) rfl))) (by decide) (backOf (W := 0) (rm3 l Z a0 hw [] p1 (63744 : Int32) (64975 : Int32)  h0 n0 Z0) hZ (hw _ (List.mem_of_getElem? (i := 13) rfl)) (hw _ (List.mem_of_getElem? (i := 9) rfl)) (by decide) (by decide)) (g := (mkF m 155 #[iv p1] [(.int 64975), (.int 63744), (.int p1)])) rfl (by rw [hml]; rfl) (argsL := [(.int p1), (.int 63744), (.int 64975)]) (rest := []) (lenOf pd_1 rfl) rfl (by show 2 * 0 + _ ≤ _; exact Nat.le_of_eq rfl) (hb hby d2_155) (fun _ _ => ⟨rfl, e37, (by decide : 0 + 0 ≤ _), (by decide : 0 + 0 ≤ _)⟩)
                            dsimp only [Pt.U, Pt.locs, Pt.cells, Pt.slots] at X40 l40 y40 z40 st40 hQ40
                            subst l40 y40 z40
                            obtain ⟨rfl, Nq40, e40⟩ := hQ40
                            have N40 := Fr.app N37 Nq40
                            refine own_st st40 ?_
                            show own_Go _ _ _ _ (T40.setTop (mkF m 158 #[iv p1] [(.int (own_in p1 (63744 : Int32) (64975 : Int32)))]))
                            by_cases hc158_41 : (own_in p1 (63744 : Int32) (64975 : Int32)) = (0 : Int32)
                            · have hv42 := hv39.trans (if_pos hc158_41)
                              refine o_ifNo X40 hx (hb hby d2_158) (teq hc158_41).2 ?_
                              refine o_iloadN X40 hx (hb hby d2_161) rfl ?_
                              refine o_ldc X40 hx hown (hb hby d2_162) (mvT hZ (hw _ (List.mem_of_getElem? (i := 17) rfl))) ?_
                              refine o_ldc X40 hx hown (hb hby d2_164) (mvT hZ (hw _ (List.mem_of_getElem? (i := 18) rfl))) ?_
                              obtain ⟨_, _, ⟨T43, L43, k43, n43⟩, -, X43, ⟨Lc43, hQ43, l43, y43, z43⟩, st43⟩ := Jvm.LawKit.callS X40 hx (y := (⟨"com/example/libinfoset/libinfoset/model/XmlCharactersIsNameStartCharacterPinLaw", "in", "(III)Z"⟩ : MethodName)) hown (mvT hZ (hw _ (List.mem_of_getElem? (i := 11) rfl))) (mvT hZ (hw _ (List.mem_of_getElem? (i := 12) rfl))) (mvT hZ (hw _ (List.mem_of_getElem? (i := 9) rfl))) (mvT hZ (hw _ (List.mem_of_getElem? (i := 13) rfl))) (by decide) (backOf (W := 0) (rm3 l Z a0 hw [] p1 (65008 : Int32) (65533 : Int32)  h0 n0 Z0) hZ (hw _ (List.mem_of_getElem? (i := 13) rfl)) (hw _ (List.mem_of_getElem? (i := 9) rfl)) (by decide) (by decide)) (g := (mkF m 166 #[iv p1] [(.int 65533), (.int 65008), (.int p1)])) rfl (by rw [hml]; rfl) (argsL := [(.int p1), (.int 65008), (.int 65533)]) (rest := []) (lenOf pd_1 rfl) rfl (by show 2 * 0 + _ ≤ _; exact Nat.le_of_eq rfl) (hb hby d2_166) (fun _ _ => ⟨rfl, e40, (by decide : 0 + 0 ≤ _), (by decide : 0 + 0 ≤ _)⟩)
                              dsimp only [Pt.U, Pt.locs, Pt.cells, Pt.slots] at X43 l43 y43 z43 st43 hQ43
                              subst l43 y43 z43
                              obtain ⟨rfl, Nq43, e43⟩ := hQ43
                              have N43 := Fr.app N40 Nq43
                              refine own_st st43 ?_
                              show own_Go _ _ _ _ (T43.setTop (mkF m 169 #[iv p1] [(.int (own_in p1 (65008 : Int32) (65533 : Int32)))]))
                              by_cases hc169_44 : (own_in p1 (65008 : Int32) (65533 : Int32)) = (0 : Int32)
                              · have hv45 := hv42.trans (if_pos hc169_44)
                                refine o_ifNo X43 hx (hb hby d2_169) (teq hc169_44).2 ?_
                                refine o_iloadN X43 hx (hb hby d2_172) rfl ?_
                                refine o_ldc X43 hx hown (hb hby d2_173) (mvT hZ (hw _ (List.mem_of_getElem? (i := 19) rfl))) ?_
                                refine o_ldc X43 hx hown (hb hby d2_175) (mvT hZ (hw _ (List.mem_of_getElem? (i := 20) rfl))) ?_
                                obtain ⟨_, _, ⟨T46, L46, k46, n46⟩, -, X46, ⟨Lc46, hQ46, l46, y46, z46⟩, st46⟩ := Jvm.LawKit.callS X43 hx (y := (⟨"com/example/libinfoset/libinfoset/model/XmlCharactersIsNameStartCharacterPinLaw", "in", "(III)Z"⟩ : MethodName)) hown (mvT hZ (hw _ (List.mem_of_getElem? (i := 11) rfl))) (mvT hZ (hw _ (List.mem_of_getElem? (i := 12) rfl))) (mvT hZ (hw _ (List.mem_of_getElem? (i := 9) rfl))) (mvT hZ (hw _ (List.mem_of_getElem? (i := 13) rfl))) (by decide) (backOf (W := 0) (rm3 l Z a0 hw [] p1 (65536 : Int32) (983039 : Int32)  h0 n0 Z0) hZ (hw _ (List.mem_of_getElem? (i := 13) rfl)) (hw _ (List.mem_of_getElem? (i := 9) rfl)) (by decide) (by decide)) (g := (mkF m 177 #[iv p1] [(.int 983039), (.int 65536), (.int p1)])) rfl (by rw [hml]; rfl) (argsL := [(.int p1), (.int 65536), (.int 983039)]) (rest := []) (lenOf pd_1 rfl) rfl (by show 2 * 0 + _ ≤ _; exact Nat.le_of_eq rfl) (hb hby d2_177) (fun _ _ => ⟨rfl, e43, (by decide : 0 + 0 ≤ _), (by decide : 0 + 0 ≤ _)⟩)
                                dsimp only [Pt.U, Pt.locs, Pt.cells, Pt.slots] at X46 l46 y46 z46 st46 hQ46
                                subst l46 y46 z46
                                obtain ⟨rfl, Nq46, e46⟩ := hQ46
                                have N46 := Fr.app N43 Nq46
                                refine own_st st46 ?_
                                show own_Go _ _ _ _ (T46.setTop (mkF m 180 #[iv p1] [(.int (own_in p1 (65536 : Int32) (983039 : Int32)))]))
                                by_cases hc180_47 : (own_in p1 (65536 : Int32) (983039 : Int32)) = (0 : Int32)
                                · have hv48 := hv45.trans (if_pos hc180_47)
                                  refine o_ifYes X46 hx (pc' := 187) (hb hby d2_180) (teq hc180_47).1 (by decide) (by decide) ?_
                                  refine o_iconst X46 hx 0 (hb hby d2_187) rfl ?_
                                  exact own_end X46 e46 (v := some (.int (0 : Int32))) (fun h => by rw [Bd.returns] at h; cases h) hlk (fun fs hr => retN X46 hx (z := (0 : Int32)) (t := .boolean) Bd.returns (by simp) (hb hby d2_188) hr) (Q := Q_rm2 Z a0 p1 h0 n0) ⟨(congrArg (fun z => some (Value.int z)) hv48.symm), N46, rfl⟩ (by decide) (by decide)
                                · have hv49 := hv45.trans (if_neg hc180_47)
                                  refine o_ifNo X46 hx (hb hby d2_180) (feq hc180_47).1 ?_
                                  refine o_iconst X46 hx 1 (hb hby d2_183) rfl ?_
                                  refine o_goto X46 hx (pc' := 188) (hb hby d2_184) (by decide) (by decide) ?_
                                  exact own_end X46 e46 (v := some (.int (1 : Int32))) (fun h => by rw [Bd.returns] at h; cases h) hlk (fun fs hr => retN X46 hx (z := (1 : Int32)) (t := .boolean) Bd.returns (by simp) (hb hby d2_188) hr) (Q := Q_rm2 Z a0 p1 h0 n0) ⟨(congrArg (fun z => some (Value.int z)) hv49.symm), N46, rfl⟩ (by decide) (by decide)
                              · have hv50 := hv42.trans (if_neg hc169_44)
                                refine o_ifYes X43 hx (pc' := 183) (hb hby d2_169) (feq hc169_44).2 (by decide) (by decide) ?_
                                refine o_iconst X43 hx 1 (hb hby d2_183) rfl ?_
                                refine o_goto X43 hx (pc' := 188) (hb hby d2_184) (by decide) (by decide) ?_
                                exact own_end X43 e43 (v := some (.int (1 : Int32))) (fun h => by rw [Bd.returns] at h; cases h) hlk (fun fs hr => retN X43 hx (z := (1 : Int32)) (t := .boolean) Bd.returns (by simp) (hb hby d2_188) hr) (Q := Q_rm2 Z a0 p1 h0 n0) ⟨(congrArg (fun z => some (Value.int z)) hv50.symm), N43, rfl⟩ (by decide) (by decide)
                            · have hv51 := hv39.trans (if_neg hc158_41)
                              refine o_ifYes X40 hx (pc' := 183) (hb hby d2_158) (feq hc158_41).2 (by decide) (by decide) ?_
                              refine o_iconst X40 hx 1 (hb hby d2_183) rfl ?_
                              refine o_goto X40 hx (pc' := 188) (hb hby d2_184) (by decide) (by decide) ?_
                              exact own_end X40 e40 (v := some (.int (1 : Int32))) (fun h => by rw [Bd.returns] at h; cases h) hlk (fun fs hr => retN X40 hx (z := (1 : Int32)) (t := .boolean) Bd.returns (by simp) (hb hby d2_188) hr) (Q := Q_rm2 Z a0 p1 h0 n0) ⟨(congrArg (fun z => some (Value.int z)) hv51.symm), N40, rfl⟩ (by decide) (by decide)
                          · have hv52 := hv36.trans (if_neg hc147_38)
                            refine o_ifYes X37 hx (pc' := 183) (hb hby d2_147) (feq hc147_38).2 (by decide) (by decide) ?_
                            refine o_iconst X37 hx 1 (hb hby d2_183) rfl ?_
                            refine o_goto X37 hx (pc' := 188) (hb hby d2_184) (by decide) (by decide) ?_
                            exact own_end X37 e37 (v := some (.int (1 : Int32))) (fun h => by rw [Bd.returns] at h; cases h) hlk (fun fs hr => retN X37 hx (z := (1 : Int32)) (t := .boolean) Bd.returns (by simp) (hb hby d2_188) hr) (Q := Q_rm2 Z a0 p1 h0 n0) ⟨(congrArg (fun z => some (Value.int z)) hv52.symm), N37, rfl⟩ (by decide) (by decide)
                        · have hv53 := hv33.trans (if_neg hc135_35)
                          refine o_ifYes X34 hx (pc' := 183) (hb hby d2_135) (feq hc135_35).2 (by decide) (by decide) ?_
                          refine o_iconst X34 hx 1 (hb hby d2_183) rfl ?_
                          refine o_goto X34 hx (pc' := 188) (hb hby d2_184) (by decide) (by decide) ?_
                          exact own_end X34 e34 (v := some (.int (1 : Int32))) (fun h => by rw [Bd.returns] at h; cases h) hlk (fun fs hr => retN X34 hx (z := (1 : Int32)) (t := .boolean) Bd.returns (by simp) (hb hby d2_188) hr) (Q := Q_rm2 Z a0 p1 h0 n0) ⟨(congrArg (fun z => some (Value.int z)) hv53.symm), N34, rfl⟩ (by decide) (by decide)
                      · have hv54 := hv30.trans (if_neg hc122_32)
                        refine o_ifYes X31 hx (pc' := 183) (hb hby d2_122) (feq hc122_32).2 (by decide) (by decide) ?_
                        refine o_iconst X31 hx 1 (hb hby d2_183) rfl ?_
                        refine o_goto X31 hx (pc' := 188) (hb hby d2_184) (by decide) (by decide) ?_
                        exact own_end X31 e31 (v := some (.int (1 : Int32))) (fun h => by rw [Bd.returns] at h; cases h) hlk (fun fs hr => retN X31 hx (z := (1 : Int32)) (t := .boolean) Bd.returns (by simp) (hb hby d2_188) hr) (Q := Q_rm2 Z a0 p1 h0 n0) ⟨(congrArg (fun z => some (Value.int z)) hv54.symm), N31, rfl⟩ (by decide) (by decide)
                    · have hv55 := hv27.trans (if_neg hc109_29)
                      refine o_ifYes X28 hx (pc' := 183) (hb hby d2_109) (feq hc109_29).2 (by decide) (by decide) ?_
                      refine o_iconst X28 hx 1 (hb hby d2_183) rfl ?_
                      refine o_goto X28 hx (pc' := 188) (hb hby d2_184) (by decide) (by decide) ?_
                      exact own_end X28 e28 (v := some (.int (1 : Int32))) (fun h => by rw [Bd.returns] at h; cases h) hlk (fun fs hr => retN X28 hx (z := (1 : Int32)) (t := .boolean) Bd.returns (by simp) (hb hby d2_188) hr) (Q := Q_rm2 Z a0 p1 h0 n0) ⟨(congrArg (fun z => some (Value.int z)) hv55.symm), N28, rfl⟩ (by decide) (by decide)
                  · have hv56 := hv24.trans (if_neg hc96_26)
                    refine o_ifYes X25 hx (pc' := 183) (hb hby d2_96) (feq hc96_26).2 (by decide) (by decide) ?_
                    refine o_iconst X25 hx 1 (hb hby d2_183) rfl ?_
                    refine o_goto X25 hx (pc' := 188) (hb hby d2_184) (by decide) (by decide) ?_
                    exact own_end X25 e25 (v := some (.int (1 : Int32))) (fun h => by rw [Bd.returns] at h; cases h) hlk (fun fs hr => retN X25 hx (z := (1 : Int32)) (t := .boolean) Bd.returns (by simp) (hb hby d2_188) hr) (Q := Q_rm2 Z a0 p1 h0 n0) ⟨(congrArg (fun z => some (Value.int z)) hv56.symm), N25, rfl⟩ (by decide) (by decide)
                · have hv57 := hv21.trans (if_neg hc83_23)
                  refine o_ifYes X22 hx (pc' := 183) (hb hby d2_83) (feq hc83_23).2 (by decide) (by decide) ?_
                  refine o_iconst X22 hx 1 (hb hby d2_183) rfl ?_
                  refine o_goto X22 hx (pc' := 188) (hb hby d2_184) (by decide) (by decide) ?_
                  exact own_end X22 e22 (v := some (.int (1 : Int32))) (fun h => by rw [Bd.returns] at h; cases h) hlk (fun fs hr => retN X22 hx (z := (1 : Int32)) (t := .boolean) Bd.returns (by simp) (hb hby d2_188) hr) (Q := Q_rm2 Z a0 p1 h0 n0) ⟨(congrArg (fun z => some (Value.int z)) hv57.symm), N22, rfl⟩ (by decide) (by decide)
              · have hv58 := hv18.trans (if_neg hc70_20)
                refine o_ifYes X19 hx (pc' := 183) (hb hby d2_70) (feq hc70_20).2 (by decide) (by decide) ?_
                refine o_iconst X19 hx 1 (hb hby d2_183) rfl ?_
                refine o_goto X19 hx (pc' := 188) (hb hby d2_184) (by decide) (by decide) ?_
                exact own_end X19 e19 (v := some (.int (1 : Int32))) (fun h => by rw [Bd.returns] at h; cases h) hlk (fun fs hr => retN X19 hx (z := (1 : Int32)) (t := .boolean) Bd.returns (by simp) (hb hby d2_188) hr) (Q := Q_rm2 Z a0 p1 h0 n0) ⟨(congrArg (fun z => some (Value.int z)) hv58.symm), N19, rfl⟩ (by decide) (by decide)
            · have hv59 := hv15.trans (if_neg hc57_17)
              refine o_ifYes X16 hx (pc' := 183) (hb hby d2_57) (feq hc57_17).2 (by decide) (by decide) ?_
              refine o_iconst X16 hx 1 (hb hby d2_183) rfl ?_
              refine o_goto X16 hx (pc' := 188) (hb hby d2_184) (by decide) (by decide) ?_
              exact own_end X16 e16 (v := some (.int (1 : Int32))) (fun h => by rw [Bd.returns] at h; cases h) hlk (fun fs hr => retN X16 hx (z := (1 : Int32)) (t := .boolean) Bd.returns (by simp) (hb hby d2_188) hr) (Q := Q_rm2 Z a0 p1 h0 n0) ⟨(congrArg (fun z => some (Value.int z)) hv59.symm), N16, rfl⟩ (by decide) (by decide)
          · have hv60 := hv12.trans (if_neg hc44_14)
            refine o_ifYes X13 hx (pc' := 183) (hb hby d2_44) (feq hc44_14).2 (by decide) (by decide) ?_
            refine o_iconst X13 hx 1 (hb hby d2_183) rfl ?_
            refine o_goto X13 hx (pc' := 188) (hb hby d2_184) (by decide) (by decide) ?_
            exact own_end X13 e13 (v := some (.int (1 : Int32))) (fun h => by rw [Bd.returns] at h; cases h) hlk (fun fs hr => retN X13 hx (z := (1 : Int32)) (t := .boolean) Bd.returns (by simp) (hb hby d2_188) hr) (Q := Q_rm2 Z a0 p1 h0 n0) ⟨(congrArg (fun z => some (Value.int z)) hv60.symm), N13, rfl⟩ (by decide) (by decide)
        · have hv61 := hv9.trans (if_neg hc31_11)
          refine o_ifYes X10 hx (pc' := 183) (hb hby d2_31) (feq hc31_11).2 (by decide) (by decide) ?_
          refine o_iconst X10 hx 1 (hb hby d2_183) rfl ?_
          refine o_goto X10 hx (pc' := 188) (hb hby d2_184) (by decide) (by decide) ?_
          exact own_end X10 e10 (v := some (.int (1 : Int32))) (fun h => by rw [Bd.returns] at h; cases h) hlk (fun fs hr => retN X10 hx (z := (1 : Int32)) (t := .boolean) Bd.returns (by simp) (hb hby d2_188) hr) (Q := Q_rm2 Z a0 p1 h0 n0) ⟨(congrArg (fun z => some (Value.int z)) hv61.symm), N10, rfl⟩ (by decide) (by decide)
    · have hv62 := hv3.trans (if_neg hc14_5)
      refine o_ifYes X4 hx (pc' := 183) (hb hby d2_14) (feq hc14_5).2 (by decide) (by decide) ?_
      refine o_iconst X4 hx 1 (hb hby d2_183) rfl ?_
      refine o_goto X4 hx (pc' := 188) (hb hby d2_184) (by decide) (by decide) ?_
      exact own_end X4 e4 (v := some (.int (1 : Int32))) (fun h => by rw [Bd.returns] at h; cases h) hlk (fun fs hr => retN X4 hx (z := (1 : Int32)) (t := .boolean) Bd.returns (by simp) (hb hby d2_188) hr) (Q := Q_rm2 Z a0 p1 h0 n0) ⟨(congrArg (fun z => some (Value.int z)) hv62.symm), N4, rfl⟩ (by decide) (by decide)
def own_isN_174 (p1 : Int32) (w : Int32) : Int32 := (if p1 < (65536 : Int32) then (0 : Int32) else (if p1 < (983040 : Int32) then (1 : Int32) else (0 : Int32)))
def own_isN_162 (p1 : Int32) (w : Int32) : Int32 := (if p1 < (65008 : Int32) then (own_isN_174 p1 w) else (if (65533 : Int32) < p1 then (own_isN_174 p1 w) else (1 : Int32)))
def own_isN_150 (p1 : Int32) (w : Int32) : Int32 := (if p1 < (63744 : Int32) then (own_isN_162 p1 w) else (if (64975 : Int32) < p1 then (own_isN_162 p1 w) else (1 : Int32)))
def own_isN_137 (p1 : Int32) (w : Int32) : Int32 := (if p1 < (12289 : Int32) then (own_isN_150 p1 w) else (if (55295 : Int32) < p1 then (own_isN_150 p1 w) else (1 : Int32)))
def own_isN_123 (p1 : Int32) (w : Int32) : Int32 := (if p1 < (11264 : Int32) then (own_isN_137 p1 w) else (if (12271 : Int32) < p1 then (own_isN_137 p1 w) else (1 : Int32)))
def own_isN_95 (p1 : Int32) (w : Int32) : Int32 := (if p1 = (8204 : Int32) then (1 : Int32) else (if p1 = (8205 : Int32) then (1 : Int32) else (if p1 < (8304 : Int32) then (own_isN_123 p1 w) else (if (8591 : Int32) < p1 then (own_isN_123 p1 w) else (1 : Int32)))))
def own_isN_81 (p1 : Int32) (w : Int32) : Int32 := (if p1 < (895 : Int32) then (own_isN_95 p1 w) else (if (8191 : Int32) < p1 then (own_isN_95 p1 w) else (1 : Int32)))
def own_isN_67 (p1 : Int32) (w : Int32) : Int32 := (if p1 < (880 : Int32) then (own_isN_81 p1 w) else (if (893 : Int32) < p1 then (own_isN_81 p1 w) else (1 : Int32)))
def own_isN_53 (p1 : Int32) (w : Int32) : Int32 := (if p1 < (248 : Int32) then (own_isN_67 p1 w) else (if (767 : Int32) < p1 then (own_isN_67 p1 w) else (1 : Int32)))
def own_isN_39 (p1 : Int32) (w : Int32) : Int32 := (if p1 < (216 : Int32) then (own_isN_53 p1 w) else (if (246 : Int32) < p1 then (own_isN_53 p1 w) else (1 : Int32)))
def own_isN (p1 : Int32) (w : Int32) : Int32 := (if p1 < (128 : Int32) then (if (w &&& (1 : Int32)) = (0 : Int32) then (0 : Int32) else (1 : Int32)) else (if p1 < (192 : Int32) then (own_isN_39 p1 w) else (if (214 : Int32) < p1 then (own_isN_39 p1 w) else (1 : Int32))))
theorem pn_1 : plainName "com/example/libinfoset/libinfoset/model/XmlCharacters" = true := by first | (simp [plainName, overriddenIn]; done) | decide +kernel
theorem d1_174 : decode prog_114_method_4_code 174 = .ok (.iload_n 0, 1) := by decide +kernel
theorem d1_175 : decode prog_114_method_4_code 175 = .ok (.ldc 10, 2) := by decide +kernel
theorem d1_177 : decode prog_114_method_4_code 177 = .ok (.if_icmp .lt 13, 3) := by decide +kernel
theorem d1_190 : decode prog_114_method_4_code 190 = .ok (.iconst 0, 1) := by decide +kernel
theorem d1_191 : decode prog_114_method_4_code 191 = .ok (.ireturn, 1) := by decide +kernel
theorem d1_180 : decode prog_114_method_4_code 180 = .ok (.iload_n 0, 1) := by decide +kernel
theorem d1_181 : decode prog_114_method_4_code 181 = .ok (.ldc 21, 2) := by decide +kernel
theorem d1_183 : decode prog_114_method_4_code 183 = .ok (.if_icmp .ge 7, 3) := by decide +kernel
theorem d1_186 : decode prog_114_method_4_code 186 = .ok (.iconst 1, 1) := by decide +kernel
theorem d1_187 : decode prog_114_method_4_code 187 = .ok (.goto 4, 3) := by decide +kernel
theorem d1_162 : decode prog_114_method_4_code 162 = .ok (.iload_n 0, 1) := by decide +kernel
theorem d1_163 : decode prog_114_method_4_code 163 = .ok (.ldc 20, 2) := by decide +kernel
theorem d1_165 : decode prog_114_method_4_code 165 = .ok (.if_icmp .lt 9, 3) := by decide +kernel
theorem d1_168 : decode prog_114_method_4_code 168 = .ok (.iload_n 0, 1) := by decide +kernel
theorem d1_169 : decode prog_114_method_4_code 169 = .ok (.ldc 9, 2) := by decide +kernel
theorem d1_171 : decode prog_114_method_4_code 171 = .ok (.if_icmp .le 15, 3) := by decide +kernel
theorem d1_150 : decode prog_114_method_4_code 150 = .ok (.iload_n 0, 1) := by decide +kernel
theorem d1_151 : decode prog_114_method_4_code 151 = .ok (.ldc 18, 2) := by decide +kernel
theorem d1_153 : decode prog_114_method_4_code 153 = .ok (.if_icmp .lt 9, 3) := by decide +kernel
theorem d1_156 : decode prog_114_method_4_code 156 = .ok (.iload_n 0, 1) := by decide +kernel
theorem d1_157 : decode prog_114_method_4_code 157 = .ok (.ldc 19, 2) := by decide +kernel
theorem d1_159 : decode prog_114_method_4_code 159 = .ok (.if_icmp .le 27, 3) := by decide +kernel
theorem d1_137 : decode prog_114_method_4_code 137 = .ok (.iload_n 0, 1) := by decide +kernel
theorem d1_138 : decode prog_114_method_4_code 138 = .ok (.sipush 12289, 3) := by decide +kernel
theorem d1_141 : decode prog_114_method_4_code 141 = .ok (.if_icmp .lt 9, 3) := by decide +kernel
theorem d1_144 : decode prog_114_method_4_code 144 = .ok (.iload_n 0, 1) := by decide +kernel
theorem d1_145 : decode prog_114_method_4_code 145 = .ok (.ldc 7, 2) := by decide +kernel
theorem d1_147 : decode prog_114_method_4_code 147 = .ok (.if_icmp .le 39, 3) := by decide +kernel
theorem d1_123 : decode prog_114_method_4_code 123 = .ok (.iload_n 0, 1) := by decide +kernel
theorem d1_124 : decode prog_114_method_4_code 124 = .ok (.sipush 11264, 3) := by decide +kernel
theorem d1_127 : decode prog_114_method_4_code 127 = .ok (.if_icmp .lt 10, 3) := by decide +kernel
theorem d1_130 : decode prog_114_method_4_code 130 = .ok (.iload_n 0, 1) := by decide +kernel
theorem d1_131 : decode prog_114_method_4_code 131 = .ok (.sipush 12271, 3) := by decide +kernel
theorem d1_134 : decode prog_114_method_4_code 134 = .ok (.if_icmp .le 52, 3) := by decide +kernel
theorem d1_95 : decode prog_114_method_4_code 95 = .ok (.iload_n 0, 1) := by decide +kernel
theorem d1_96 : decode prog_114_method_4_code 96 = .ok (.sipush 8204, 3) := by decide +kernel
theorem d1_99 : decode prog_114_method_4_code 99 = .ok (.if_icmp .eq 87, 3) := by decide +kernel
theorem d1_102 : decode prog_114_method_4_code 102 = .ok (.iload_n 0, 1) := by decide +kernel
theorem d1_103 : decode prog_114_method_4_code 103 = .ok (.sipush 8205, 3) := by decide +kernel
theorem d1_106 : decode prog_114_method_4_code 106 = .ok (.if_icmp .eq 80, 3) := by decide +kernel
theorem d1_109 : decode prog_114_method_4_code 109 = .ok (.iload_n 0, 1) := by decide +kernel
theorem d1_110 : decode prog_114_method_4_code 110 = .ok (.sipush 8304, 3) := by decide +kernel
theorem d1_113 : decode prog_114_method_4_code 113 = .ok (.if_icmp .lt 10, 3) := by decide +kernel
theorem d1_116 : decode prog_114_method_4_code 116 = .ok (.iload_n 0, 1) := by decide +kernel
theorem d1_117 : decode prog_114_method_4_code 117 = .ok (.sipush 8591, 3) := by decide +kernel
theorem d1_120 : decode prog_114_method_4_code 120 = .ok (.if_icmp .le 66, 3) := by decide +kernel
theorem d1_81 : decode prog_114_method_4_code 81 = .ok (.iload_n 0, 1) := by decide +kernel
theorem d1_82 : decode prog_114_method_4_code 82 = .ok (.sipush 895, 3) := by decide +kernel
theorem d1_85 : decode prog_114_method_4_code 85 = .ok (.if_icmp .lt 10, 3) := by decide +kernel
theorem d1_88 : decode prog_114_method_4_code 88 = .ok (.iload_n 0, 1) := by decide +kernel
theorem d1_89 : decode prog_114_method_4_code 89 = .ok (.sipush 8191, 3) := by decide +kernel
theorem d1_92 : decode prog_114_method_4_code 92 = .ok (.if_icmp .le 94, 3) := by decide +kernel
theorem d1_67 : decode prog_114_method_4_code 67 = .ok (.iload_n 0, 1) := by decide +kernel
theorem d1_68 : decode prog_114_method_4_code 68 = .ok (.sipush 880, 3) := by decide +kernel
theorem d1_71 : decode prog_114_method_4_code 71 = .ok (.if_icmp .lt 10, 3) := by decide +kernel
theorem d1_74 : decode prog_114_method_4_code 74 = .ok (.iload_n 0, 1) := by decide +kernel
theorem d1_75 : decode prog_114_method_4_code 75 = .ok (.sipush 893, 3) := by decide +kernel
theorem d1_78 : decode prog_114_method_4_code 78 = .ok (.if_icmp .le 108, 3) := by decide +kernel
theorem d1_53 : decode prog_114_method_4_code 53 = .ok (.iload_n 0, 1) := by decide +kernel
theorem d1_54 : decode prog_114_method_4_code 54 = .ok (.sipush 248, 3) := by decide +kernel
theorem d1_57 : decode prog_114_method_4_code 57 = .ok (.if_icmp .lt 10, 3) := by decide +kernel
theorem d1_60 : decode prog_114_method_4_code 60 = .ok (.iload_n 0, 1) := by decide +kernel
theorem d1_61 : decode prog_114_method_4_code 61 = .ok (.sipush 767, 3) := by decide +kernel
theorem d1_64 : decode prog_114_method_4_code 64 = .ok (.if_icmp .le 122, 3) := by decide +kernel
theorem d1_39 : decode prog_114_method_4_code 39 = .ok (.iload_n 0, 1) := by decide +kernel
theorem d1_40 : decode prog_114_method_4_code 40 = .ok (.sipush 216, 3) := by decide +kernel
theorem d1_43 : decode prog_114_method_4_code 43 = .ok (.if_icmp .lt 10, 3) := by decide +kernel
theorem d1_46 : decode prog_114_method_4_code 46 = .ok (.iload_n 0, 1) := by decide +kernel
theorem d1_47 : decode prog_114_method_4_code 47 = .ok (.sipush 246, 3) := by decide +kernel
theorem d1_50 : decode prog_114_method_4_code 50 = .ok (.if_icmp .le 136, 3) := by decide +kernel
theorem d1_0 : decode prog_114_method_4_code 0 = .ok (.iload_n 0, 1) := by decide +kernel
theorem d1_1 : decode prog_114_method_4_code 1 = .ok (.sipush 128, 3) := by decide +kernel
theorem d1_4 : decode prog_114_method_4_code 4 = .ok (.if_icmp .ge 21, 3) := by decide +kernel
theorem d1_7 : decode prog_114_method_4_code 7 = .ok (.getstatic 12, 3) := by decide +kernel
theorem d1_10 : decode prog_114_method_4_code 10 = .ok (.iload_n 0, 1) := by decide +kernel
theorem d1_11 : decode prog_114_method_4_code 11 = .ok (.baload, 1) := by decide +kernel
theorem d1_12 : decode prog_114_method_4_code 12 = .ok (.iconst 1, 1) := by decide +kernel
theorem d1_13 : decode prog_114_method_4_code 13 = .ok (.iand, 1) := by decide +kernel
theorem d1_14 : decode prog_114_method_4_code 14 = .ok (.ifCond .eq 7, 3) := by decide +kernel
theorem d1_21 : decode prog_114_method_4_code 21 = .ok (.iconst 0, 1) := by decide +kernel
theorem d1_22 : decode prog_114_method_4_code 22 = .ok (.goto 169, 3) := by decide +kernel
theorem d1_17 : decode prog_114_method_4_code 17 = .ok (.iconst 1, 1) := by decide +kernel
theorem d1_18 : decode prog_114_method_4_code 18 = .ok (.goto 173, 3) := by decide +kernel
theorem d1_25 : decode prog_114_method_4_code 25 = .ok (.iload_n 0, 1) := by decide +kernel
theorem d1_26 : decode prog_114_method_4_code 26 = .ok (.sipush 192, 3) := by decide +kernel
theorem d1_29 : decode prog_114_method_4_code 29 = .ok (.if_icmp .lt 10, 3) := by decide +kernel
theorem d1_32 : decode prog_114_method_4_code 32 = .ok (.iload_n 0, 1) := by decide +kernel
theorem d1_33 : decode prog_114_method_4_code 33 = .ok (.sipush 214, 3) := by decide +kernel
theorem d1_36 : decode prog_114_method_4_code 36 = .ok (.if_icmp .le 150, 3) := by decide +kernel
theorem ef_rm1 (m : MethodId) (p1 : Int32) : entryFrame m #[(.int p1)] 1 = mkF m 0 #[iv p1] [] := by first | (simp [entryFrame, mkF, argsToLocals, Value.category]; done) | rfl
def Q_rm1 (Z : State) (a0 : Array Value) (p1 : Int32) (aS : Addr) (k : ClassId) (vs : List Value) (dv : Value) (w : Int32) (h0 : Heap) (n0 : Nat) (v : Option Value) (h : Heap) (L : List Loc) : Prop := v = some (.int (own_isN p1 w)) ∧ Fr n0 L ∧ h = h0
set_option maxRecDepth 65536 in
set_option maxHeartbeats 40000000 in
theorem rm1 (l : Launch) (Z : State) (a0 : Array Value) (hw : ∀ d ∈ tables_1, d.before a0 Z = true) (ws : List Jvm.Cond) (p1 : Int32) (aS : Addr) (k : ClassId) (vs : List Value) (dv : Value) (w : Int32) (h0 : Heap) (n0 : Nat) (Z0 : n0 ≤ h0.size) (S1 : Sta Z h0 "com/example/libinfoset/libinfoset/model/XmlCharacters" "ASCII" "[B" (.ref aS)) (V1 : Arv Z h0 aS k .byte (128 : Int32) vs dv) (hp : ¬ p1 < 0) (hat : p1 < (128 : Int32) → vs.getD p1.toNatClampNeg dv = .int w) :
    MetFree l (⟨"com/example/libinfoset/libinfoset/model/XmlCharacters", "isNameStartCharacter", "(I)Z"⟩ : MethodName) (head1 (Jvm.Cond.code (⟨"com/example/libinfoset/libinfoset/model/XmlCharacters", "isNameStartCharacter", "(I)Z"⟩ : MethodName) prog_114_method_4_code 1 (some .boolean) :: ws) ({ frames := 0, cells := 0, slots := 0, locals := 0 } : Room)) (fun a U => a = #[(.int p1)] ∧ Z.Warmed39 U.vm ∧ U.heap = h0) (fun _ _ _ _ _ => True) (fun _ U o U' => ∃ v L, o = .returned v ∧ Q_rm1 Z a0 p1 aS k vs dv w h0 n0 v U'.heap L ∧ FrameEnd U o U' L ({ frames := 0, cells := 0, slots := 0, locals := 0 } : Room).cells ({ frames := 0, cells := 0, slots := 0, locals := 0 } : Room).slots) := by
  refine MetFree.of_bodySF (plainFor_of_name pn_1) hisR ?_
  intro p e s m args below meth c s₁ Bd hml0 hP hK
  obtain ⟨rfl, hZ, hh⟩ := hP
  have hx := Bd.exec
  have hby := Bd.bytes
  have hml : c.maxLocals = 1 := hml0
  have hown : s.vm.findClass "com/example/libinfoset/libinfoset/model/XmlCharacters" = some m.cls := findClass_of_methodNamed Bd.named
  have hnm := (name_of_methodNamed Bd.named Bd.method).1
  have hlk : meth.locks = false := BodyLoose.notSynchronized (by assumption)
  have X0 : Stand p l e ({ frames := 0, cells := 0, slots := 0, locals := 0 } : Room) s m #[(.int p1)] below meth c s₁ [] 0 0 := Stand.of_body Bd
  have e0 : s₁.heap = h0 := by rw [← hh, Bd.state]; rfl
  have N0 := Fr.nil n0
  show own_Go p.tables e below (fun o U' => ∃ v L, o = .returned v ∧ Q_rm1 Z a0 p1 aS k vs dv w h0 n0 v U'.heap L ∧ FrameEnd s o U' L ({ frames := 0, cells := 0, slots := 0, locals := 0 } : Room).cells ({ frames := 0, cells := 0, slots := 0, locals := 0 } : Room).slots) (s₁.setTop (entryFrame m #[(.int p1)] 1))
  refine own_st (fun t k => castTop (ef_rm1 m p1) k) ?_
  have J_own_isN_174 : ∀ (T : State) (locs : List Loc) (X : Stand p l e ({ frames := 0, cells := 0, slots := 0, locals := 0 } : Room) s m #[(.int p1)] below meth c T locs 0 0) (eT : T.heap = h0) (N : Fr n0 locs), own_isN p1 w = own_isN_174 p1 w → own_Go p.tables e below (fun o U' => ∃ v L, o = .returned v ∧ Q_rm1 Z a0 p1 aS k vs dv w h0 n0 v U'.heap L ∧ FrameEnd s o U' L ({ frames := 0, cells := 0, slots := 0, locals := 0 } : Room).cells ({ frames := 0, cells := 0, slots := 0, locals := 0 } : Room).slots) (T.setTop (mkF m 174 #[iv p1] [])) := by
    intro T locs X eT N hv
    unfold own_isN_174 at hv
    refine o_iloadN X hx (hb hby d1_174) rfl ?_
    refine o_ldc X hx hown (hb hby d1_175) (mvT hZ (hw _ (List.mem_of_getElem? (i := 26) rfl))) ?_
    by_cases hc177_1 : p1 < (65536 : Int32)
    · have hv2 := hv.trans (if_pos hc177_1)
      refine o_icmpYes X hx (pc' := 190) (hb hby d1_177) (tlt hc177_1).1 (by decide) (by decide) ?_
      refine o_iconst X hx 0 (hb hby d1_190) rfl ?_
      exact own_end X eT (v := some (.int (0 : Int32))) (fun h => by rw [Bd.returns] at h; cases h) hlk (fun fs hr => retN X hx (z := (0 : Int32)) (t := .boolean) Bd.returns (by simp) (hb hby d1_191) hr) (Q := Q_rm1 Z a0 p1 aS k vs dv w h0 n0) ⟨(congrArg (fun z => some (Value.int z)) hv2.symm), N, rfl⟩ (by decide) (by decide)
    · have hv3 := hv.trans (if_neg hc177_1)
      refine o_icmpNo X hx (hb hby d1_177) (flt hc177_1).1 ?_
      refine o_iloadN X hx (hb hby d1_180) rfl ?_
      refine o_ldc X hx hown (hb hby d1_181) (mvT hZ (hw _ (List.mem_of_getElem? (i := 27) rfl))) ?_
      by_cases hc183_4 : p1 < (983040 : Int32)
      · have hv5 := hv3.trans (if_pos hc183_4)
        refine o_icmpNo X hx (hb hby d1_183) (tlt hc183_4).2.1 ?_
        refine o_iconst X hx 1 (hb hby d1_186) rfl ?_
        refine o_goto X hx (pc' := 191) (hb hby d1_187) (by decide) (by decide) ?_
        exact own_end X eT (v := some (.int (1 : Int32))) (fun h => by rw [Bd.returns] at h; cases h) hlk (fun fs hr => retN X hx (z := (1 : Int32)) (t := .boolean) Bd.returns (by simp) (hb hby d1_191) hr) (Q := Q_rm1 Z a0 p1 aS k vs dv w h0 n0) ⟨(congrArg (fun z => some (Value.int z)) hv5.symm), N, rfl⟩ (by decide) (by decide)
      · have hv6 := hv3.trans (if_neg hc183_4)
        refine o_icmpYes X hx (pc' := 190) (hb hby d1_183) (flt hc183_4).2.1 (by decide) (by decide) ?_
        refine o_iconst X hx 0 (hb hby d1_190) rfl ?_
        exact own_end X eT (v := some (.int (0 : Int32))) (fun h => by rw [Bd.returns] at h; cases h) hlk (fun fs hr => retN X hx (z := (0 : Int32)) (t := .boolean) Bd.returns (by simp) (hb hby d1_191) hr) (Q := Q_rm1 Z a0 p1 aS k vs dv w h0 n0) ⟨(congrArg (fun z => some (Value.int z)) hv6.symm), N, rfl⟩ (by decide) (by decide)
  have J_own_isN_162 : ∀ (T : State) (locs : List Loc) (X : Stand p l e ({ frames := 0, cells := 0, slots := 0, locals := 0 } : Room) s m #[(.int p1)] below meth c T locs 0 0) (eT : T.heap = h0) (N : Fr n0 locs), own_isN p1 w = own_isN_162 p1 w → own_Go p.tables e below (fun o U' => ∃ v L, o = .returned v ∧ Q_rm1 Z a0 p1 aS k vs dv w h0 n0 v U'.heap L ∧ FrameEnd s o U' L ({ frames := 0, cells := 0, slots := 0, locals := 0 } : Room).cells ({ frames := 0, cells := 0, slots := 0, locals := 0 } : Room).slots) (T.setTop (mkF m 162 #[iv p1] [])) := by
    intro T locs X eT N hv
    unfold own_isN_162 at hv
    refine o_iloadN X hx (hb hby d1_162) rfl ?_
    refine o_ldc X hx hown (hb hby d1_163) (mvT hZ (hw _ (List.mem_of_getElem? (i := 24) rfl))) ?_
    by_cases hc165_7 : p1 < (65008 : Int32)
    · have hv8 := hv.trans (if_pos hc165_7)
      refine o_icmpYes X hx (pc' := 174) (hb hby d1_165) (tlt hc165_7).1 (by decide) (by decide) ?_
      exact J_own_isN_174 T _ X eT N hv8
    · have hv9 := hv.trans (if_neg hc165_7)
      refine o_icmpNo X hx (hb hby d1_165) (flt hc165_7).1 ?_
      refine o_iloadN X hx (hb hby d1_168) rfl ?_
      refine o_ldc X hx hown (hb hby d1_169) (mvT hZ (hw _ (List.mem_of_getElem? (i := 25) rfl))) ?_
      by_cases hc171_10 : (65533 : Int32) < p1
      · have hv11 := hv9.trans (if_pos hc171_10)
        refine o_icmpNo X hx (hb hby d1_171) (tlt hc171_10).2.2.2 ?_
        exact J_own_isN_174 T _ X eT N hv11
      · have hv12 := hv9.trans (if_neg hc171_10)
        refine o_icmpYes X hx (pc' := 186) (hb hby d1_171) (flt hc171_10).2.2.2 (by decide) (by decide) ?_
        refine o_iconst X hx 1 (hb hby d1_186) rfl ?_
        refine o_goto X hx (pc' := 191) (hb hby d1_187) (by decide) (by decide) ?_
        exact own_end X eT (v := some (.int (1 : Int32))) (fun h => by rw [Bd.returns] at h; cases h) hlk (fun fs hr => retN X hx (z := (1 : Int32)) (t := .boolean) Bd.returns (by simp) (hb hby d1_191) hr) (Q := Q_rm1 Z a0 p1 aS k vs dv w h0 n0) ⟨(congrArg (fun z => some (Value.int z)) hv12.symm), N, rfl⟩ (by decide) (by decide)
  have J_own_isN_150 : ∀ (T : State) (locs : List Loc) (X : Stand p l e ({ frames := 0, cells := 0, slots := 0, locals := 0 } : Room) s m #[(.int p1)] below meth c T locs 0 0) (eT : T.heap = h0) (N : Fr n0 locs), own_isN p1 w = own_isN_150 p1 w → own_Go p.tables e below (fun o U' => ∃ v L, o = .returned v ∧ Q_rm1 Z a0 p1 aS k vs dv w h0 n0 v U'.heap L ∧ FrameEnd s o U' L ({ frames := 0, cells := 0, slots := 0, locals := 0 } : Room).cells ({ frames := 0, cells := 0, slots := 0, locals := 0 } : Room).slots) (T.setTop (mkF m 150 #[iv p1] [])) := by
    intro T locs X eT N hv
    unfold own_isN_150 at hv
    refine o_iloadN X hx (hb hby d1_150) rfl ?_
    refine o_ldc X hx hown (hb hby d1_151) (mvT hZ (hw _ (List.mem_of_getElem? (i := 22) rfl))) ?_
    by_cases hc153_13 : p1 < (63744 : Int32)
    · have hv14 := hv.trans (if_pos hc153_13)
      refine o_icmpYes X hx (pc' := 162) (hb hby d1_153) (tlt hc153_13).1 (by decide) (by decide) ?_
      exact J_own_isN_162 T _ X eT N hv14
    · have hv15 := hv.trans (if_neg hc153_13)
      refine o_icmpNo X hx (hb hby d1_153) (flt hc153_13).1 ?_
      refine o_iloadN X hx (hb hby d1_156) rfl ?_
      refine o_ldc X hx hown (hb hby d1_157) (mvT hZ (hw _ (List.mem_of_getElem? (i := 23) rfl))) ?_
      by_cases hc159_16 : (64975 : Int32) < p1
      · have hv17 := hv15.trans (if_pos hc159_16)
        refine o_icmpNo X hx (hb hby d1_159) (tlt hc159_16).2.2.2 ?_
        exact J_own_isN_162 T _ X eT N hv17
      · have hv18 := hv15.trans (if_neg hc159_16)
        refine o_icmpYes X hx (pc' := 186) (hb hby d1_159) (flt hc159_16).2.2.2 (by decide) (by decide) ?_
        refine o_iconst X hx 1 (hb hby d1_186) rfl ?_
        refine o_goto X hx (pc' := 191) (hb hby d1_187) (by decide) (by decide) ?_
        exact own_end X eT (v := some (.int (1 : Int32))) (fun h => by rw [Bd.returns] at h; cases h) hlk (fun fs hr => retN X hx (z := (1 : Int32)) (t := .boolean) Bd.returns (by simp) (hb hby d1_191) hr) (Q := Q_rm1 Z a0 p1 aS k vs dv w h0 n0) ⟨(congrArg (fun z => some (Value.int z)) hv18.symm), N, rfl⟩ (by decide) (by decide)
  have J_own_isN_137 : ∀ (T : State) (locs : List Loc) (X : Stand p l e ({ frames := 0, cells := 0, slots := 0, locals := 0 } : Room) s m #[(.int p1)] below meth c T locs 0 0) (eT : T.heap = h0) (N : Fr n0 locs), own_isN p1 w = own_isN_137 p1 w → own_Go p.tables e below (fun o U' => ∃ v L, o = .returned v ∧ Q_rm1 Z a0 p1 aS k vs dv w h0 n0 v U'.heap L ∧ FrameEnd s o U' L ({ frames := 0, cells := 0, slots := 0, locals := 0 } : Room).cells ({ frames := 0, cells := 0, slots := 0, locals := 0 } : Room).slots) (T.setTop (mkF m 137 #[iv p1] [])) := by
    intro T locs X eT N hv
    unfold own_isN_137 at hv
    refine o_iloadN X hx (hb hby d1_137) rfl ?_
    refine o_sipush X hx 12289 (hb hby d1_138) rfl ?_
    by_cases hc141_19 : p1 < (12289 : Int32)
    · have hv20 := hv.trans (if_pos hc141_19)
      refine o_icmpYes X hx (pc' := 150) (hb hby d1_141) (tlt hc141_19).1 (by decide) (by decide) ?_
      exact J_own_isN_150 T _ X eT N hv20
    · have hv21 := hv.trans (if_neg hc141_19)
      refine o_icmpNo X hx (hb hby d1_141) (flt hc141_19).1 ?_
      refine o_iloadN X hx (hb hby d1_144) rfl ?_
      refine o_ldc X hx hown (hb hby d1_145) (mvT hZ (hw _ (List.mem_of_getElem? (i := 21) rfl))) ?_
      by_cases hc147_22 : (55295 : Int32) < p1
      · have hv23 := hv21.trans (if_pos hc147_22)
        refine o_icmpNo X hx (hb hby d1_147) (tlt hc147_22).2.2.2 ?_
        exact J_own_isN_150 T _ X eT N hv23
      · have hv24 := hv21.trans (if_neg hc147_22)
        refine o_icmpYes X hx (pc' := 186) (hb hby d1_147) (flt hc147_22).2.2.2 (by decide) (by decide) ?_
        refine o_iconst X hx 1 (hb hby d1_186) rfl ?_
        refine o_goto X hx (pc' := 191) (hb hby d1_187) (by decide) (by decide) ?_
        exact own_end X eT (v := some (.int (1 : Int32))) (fun h => by rw [Bd.returns] at h; cases h) hlk (fun fs hr => retN X hx (z := (1 : Int32)) (t := .boolean) Bd.returns (by simp) (hb hby d1_191) hr) (Q := Q_rm1 Z a0 p1 aS k vs dv w h0 n0) ⟨(congrArg (fun z => some (Value.int z)) hv24.symm), N, rfl⟩ (by decide) (by decide)
  have J_own_isN_123 : ∀ (T : State) (locs : List Loc) (X : Stand p l e ({ frames := 0, cells := 0, slots := 0, locals := 0 } : Room) s m #[(.int p1)] below meth c T locs 0 0) (eT : T.heap = h0) (N : Fr n0 locs), own_isN p1 w = own_isN_123 p1 w → own_Go p.tables e below (fun o U' => ∃ v L, o = .returned v ∧ Q_rm1 Z a0 p1 aS k vs dv w h0 n0 v U'.heap L ∧ FrameEnd s o U' L ({ frames := 0, cells := 0, slots := 0, locals := 0 } : Room).cells ({ frames := 0, cells := 0, slots := 0, locals := 0 } : Room).slots) (T.setTop (mkF m 123 #[iv p1] [])) := by
    intro T locs X eT N hv
    unfold own_isN_123 at hv
    refine o_iloadN X hx (hb hby d1_123) rfl ?_
    refine o_sipush X hx 11264 (hb hby d1_124) rfl ?_
    by_cases hc127_25 : p1 < (11264 : Int32)
    · have hv26 := hv.trans (if_pos hc127_25)
      refine o_icmpYes X hx (pc' := 137) (hb hby d1_127) (tlt hc127_25).1 (by decide) (by decide) ?_
      exact J_own_isN_137 T _ X eT N hv26
    · have hv27 := hv.trans (if_neg hc127_25)
      refine o_icmpNo X hx (hb hby d1_127) (flt hc127_25).1 ?_
      refine o_iloadN X hx (hb hby d1_130) rfl ?_
      refine o_sipush X hx 12271 (hb hby d1_131) rfl ?_
      by_cases hc134_28 : (12271 : Int32) < p1
      · have hv29 := hv27.trans (if_pos hc134_28)
        refine o_icmpNo X hx (hb hby d1_134) (tlt hc134_28).2.2.2 ?_
        exact J_own_isN_137 T _ X eT N hv29
      · have hv30 := hv27.trans (if_neg hc134_28)
        refine o_icmpYes X hx (pc' := 186) (hb hby d1_134) (flt hc134_28).2.2.2 (by decide) (by decide) ?_
        refine o_iconst X hx 1 (hb hby d1_186) rfl ?_
        refine o_goto X hx (pc' := 191) (hb hby d1_187) (by decide) (by decide) ?_
        exact own_end X eT (v := some (.int (1 : Int32))) (fun h => by rw [Bd.returns] at h; cases h) hlk (fun fs hr => retN X hx (z := (1 : Int32)) (t := .boolean) Bd.returns (by simp) (hb hby d1_191) hr) (Q := Q_rm1 Z a0 p1 aS k vs dv w h0 n0) ⟨(congrArg (fun z => some (Value.int z)) hv30.symm), N, rfl⟩ (by decide) (by decide)
  have J_own_isN_95 : ∀ (T : State) (locs : List Loc) (X : Stand p l e ({ frames := 0, cells := 0, slots := 0, locals := 0 } : Room) s m #[(.int p1)] below meth c T locs 0 0) (eT : T.heap = h0) (N : Fr n0 locs), own_isN p1 w = own_isN_95 p1 w → own_Go p.tables e below (fun o U' => ∃ v L, o = .returned v ∧ Q_rm1 Z a0 p1 aS k vs dv w h0 n0 v U'.heap L ∧ FrameEnd s o U' L ({ frames := 0, cells := 0, slots := 0, locals := 0 } : Room).cells ({ frames := 0, cells := 0, slots := 0, locals := 0 } : Room).slots) (T.setTop (mkF m 95 #[iv p1] [])) := by
    intro T locs X eT N hv
    unfold own_isN_95 at hv
    refine o_iloadN X hx (hb hby d1_95) rfl ?_
    refine o_sipush X hx 8204 (hb hby d1_96) rfl ?_
    by_cases hc99_31 : p1 = (8204 : Int32)
    · have hv32 := hv.trans (if_pos hc99_31)
      refine o_icmpYes X hx (pc' := 186) (hb hby d1_99) (teq hc99_31).1 (by decide) (by decide) ?_
      refine o_iconst X hx 1 (hb hby d1_186) rfl ?_
      refine o_goto X hx (pc' := 191) (hb hby d1_187) (by decide) (by decide) ?_
      exact own_end X eT (v := some (.int (1 : Int32))) (fun h => by rw [Bd.returns] at h; cases h) hlk (fun fs hr => retN X hx (z := (1 : Int32)) (t := .boolean) Bd.returns (by simp) (hb hby d1_191) hr) (Q := Q_rm1 Z a0 p1 aS k vs dv w h0 n0) ⟨(congrArg (fun z => some (Value.int z)) hv32.symm), N, rfl⟩ (by decide) (by decide)
    · have hv33 := hv.trans (if_neg hc99_31)
      refine o_icmpNo X hx (hb hby d1_99) (feq hc99_31).1 ?_
      refine o_iloadN X hx (hb hby d1_102) rfl ?_
      refine o_sipush X hx 8205 (hb hby d1_103) rfl ?_
      by_cases hc106_34 : p1 = (8205 : Int32)
      · have hv35 := hv33.trans (if_pos hc106_34)
        refine o_icmpYes X hx (pc' := 186) (hb hby d1_106) (teq hc106_34).1 (by decide) (by decide) ?_
        refine o_iconst X hx 1 (hb hby d1_186) rfl ?_
        refine o_goto X hx (pc' := 191) (hb hby d1_187) (by decide) (by decide) ?_
        exact own_end X eT (v := some (.int (1 : Int32))) (fun h => by rw [Bd.returns] at h; cases h) hlk (fun fs hr => retN X hx (z := (1 : Int32)) (t := .boolean) Bd.returns (by simp) (hb hby d1_191) hr) (Q := Q_rm1 Z a0 p1 aS k vs dv w h0 n0) ⟨(congrArg (fun z => some (Value.int z)) hv35.symm), N, rfl⟩ (by decide) (by decide)
      · have hv36 := hv33.trans (if_neg hc106_34)
        refine o_icmpNo X hx (hb hby d1_106) (feq hc106_34).1 ?_
        refine o_iloadN X hx (hb hby d1_109) rfl ?_
        refine o_sipush X hx 8304 (hb hby d1_110) rfl ?_
        by_cases hc113_37 : p1 < (8304 : Int32)
        · have hv38 := hv36.trans (if_pos hc113_37)
          refine o_icmpYes X hx (pc' := 123) (hb hby d1_113) (tlt hc113_37).1 (by decide) (by decide) ?_
          exact J_own_isN_123 T _ X eT N hv38
        · have hv39 := hv36.trans (if_neg hc113_37)
          refine o_icmpNo X hx (hb hby d1_113) (flt hc113_37).1 ?_
          refine o_iloadN X hx (hb hby d1_116) rfl ?_
          refine o_sipush X hx 8591 (hb hby d1_117) rfl ?_
          by_cases hc120_40 : (8591 : Int32) < p1
          · have hv41 := hv39.trans (if_pos hc120_40)
            refine o_icmpNo X hx (hb hby d1_120) (tlt hc120_40).2.2.2 ?_
            exact J_own_isN_123 T _ X eT N hv41
          · have hv42 := hv39.trans (if_neg hc120_40)
            refine o_icmpYes X hx (pc' := 186) (hb hby d1_120) (flt hc120_40).2.2.2 (by decide) (by decide) ?_
            refine o_iconst X hx 1 (hb hby d1_186) rfl ?_
            refine o_goto X hx (pc' := 191) (hb hby d1_187) (by decide) (by decide) ?_
            exact own_end X eT (v := some (.int (1 : Int32))) (fun h => by rw [Bd.returns] at h; cases h) hlk (fun fs hr => retN X hx (z := (1 : Int32)) (t := .boolean) Bd.returns (by simp) (hb hby d1_191) hr) (Q := Q_rm1 Z a0 p1 aS k vs dv w h0 n0) ⟨(congrArg (fun z => some (Value.int z)) hv42.symm), N, rfl⟩ (by decide) (by decide)
  have J_own_isN_81 : ∀ (T : State) (locs : List Loc) (X : Stand p l e ({ frames := 0, cells := 0, slots := 0, locals := 0 } : Room) s m #[(.int p1)] below meth c T locs 0 0) (eT : T.heap = h0) (N : Fr n0 locs), own_isN p1 w = own_isN_81 p1 w → own_Go p.tables e below (fun o U' => ∃ v L, o = .returned v ∧ Q_rm1 Z a0 p1 aS k vs dv w h0 n0 v U'.heap L ∧ FrameEnd s o U' L ({ frames := 0, cells := 0, slots := 0, locals := 0 } : Room).cells ({ frames := 0, cells := 0, slots := 0, locals := 0 } : Room).slots) (T.setTop (mkF m 81 #[iv p1] [])) := by
    intro T locs X eT N hv
    unfold own_isN_81 at hv
    refine o_iloadN X hx (hb hby d1_81) rfl ?_
    refine o_sipush X hx 895 (hb hby d1_82) rfl ?_
    by_cases hc85_43 : p1 < (895 : Int32)
    · have hv44 := hv.trans (if_pos hc85_43)
      refine o_icmpYes X hx (pc' := 95) (hb hby d1_85) (tlt hc85_43).1 (by decide) (by decide) ?_
      exact J_own_isN_95 T _ X eT N hv44
    · have hv45 := hv.trans (if_neg hc85_43)
      refine o_icmpNo X hx (hb hby d1_85) (flt hc85_43).1 ?_
      refine o_iloadN X hx (hb hby d1_88) rfl ?_
      refine o_sipush X hx 8191 (hb hby d1_89) rfl ?_
      by_cases hc92_46 : (8191 : Int32) < p1
      · have hv47 := hv45.trans (if_pos hc92_46)
        refine o_icmpNo X hx (hb hby d1_92) (tlt hc92_46).2.2.2 ?_
        exact J_own_isN_95 T _ X eT N hv47
      · have hv48 := hv45.trans (if_neg hc92_46)
        refine o_icmpYes X hx (pc' := 186) (hb hby d1_92) (flt hc92_46).2.2.2 (by decide) (by decide) ?_
        refine o_iconst X hx 1 (hb hby d1_186) rfl ?_
        refine o_goto X hx (pc' := 191) (hb hby d1_187) (by decide) (by decide) ?_
        exact own_end X eT (v := some (.int (1 : Int32))) (fun h => by rw [Bd.returns] at h; cases h) hlk (fun fs hr => retN X hx (z := (1 : Int32)) (t := .boolean) Bd.returns (by simp) (hb hby d1_191) hr) (Q := Q_rm1 Z a0 p1 aS k vs dv w h0 n0) ⟨(congrArg (fun z => some (Value.int z)) hv48.symm), N, rfl⟩ (by decide) (by decide)
  have J_own_isN_67 : ∀ (T : State) (locs : List Loc) (X : Stand p l e ({ frames := 0, cells := 0, slots := 0, locals := 0 } : Room) s m #[(.int p1)] below meth c T locs 0 0) (eT : T.heap = h0) (N : Fr n0 locs), own_isN p1 w = own_isN_67 p1 w → own_Go p.tables e below (fun o U' => ∃ v L, o = .returned v ∧ Q_rm1 Z a0 p1 aS k vs dv w h0 n0 v U'.heap L ∧ FrameEnd s o U' L ({ frames := 0, cells := 0, slots := 0, locals := 0 } : Room).cells ({ frames := 0, cells := 0, slots := 0, locals := 0 } : Room).slots) (T.setTop (mkF m 67 #[iv p1] [])) := by
    intro T locs X eT N hv
    unfold own_isN_67 at hv
    refine o_iloadN X hx (hb hby d1_67) rfl ?_
    refine o_sipush X hx 880 (hb hby d1_68) rfl ?_
    by_cases hc71_49 : p1 < (880 : Int32)
    · have hv50 := hv.trans (if_pos hc71_49)
      refine o_icmpYes X hx (pc' := 81) (hb hby d1_71) (tlt hc71_49).1 (by decide) (by decide) ?_
      exact J_own_isN_81 T _ X eT N hv50
    · have hv51 := hv.trans (if_neg hc71_49)
      refine o_icmpNo X hx (hb hby d1_71) (flt hc71_49).1 ?_
      refine o_iloadN X hx (hb hby d1_74) rfl ?_
      refine o_sipush X hx 893 (hb hby d1_75) rfl ?_
      by_cases hc78_52 : (893 : Int32) < p1
      · have hv53 := hv51.trans (if_pos hc78_52)
        refine o_icmpNo X hx (hb hby d1_78) (tlt hc78_52).2.2.2 ?_
        exact J_own_isN_81 T _ X eT N hv53
      · have hv54 := hv51.trans (if_neg hc78_52)
        refine o_icmpYes X hx (pc' := 186) (hb hby d1_78) (flt hc78_52).2.2.2 (by decide) (by decide) ?_
        refine o_iconst X hx 1 (hb hby d1_186) rfl ?_
        refine o_goto X hx (pc' := 191) (hb hby d1_187) (by decide) (by decide) ?_
        exact own_end X eT (v := some (.int (1 : Int32))) (fun h => by rw [Bd.returns] at h; cases h) hlk (fun fs hr => retN X hx (z := (1 : Int32)) (t := .boolean) Bd.returns (by simp) (hb hby d1_191) hr) (Q := Q_rm1 Z a0 p1 aS k vs dv w h0 n0) ⟨(congrArg (fun z => some (Value.int z)) hv54.symm), N, rfl⟩ (by decide) (by decide)
  have J_own_isN_53 : ∀ (T : State) (locs : List Loc) (X : Stand p l e ({ frames := 0, cells := 0, slots := 0, locals := 0 } : Room) s m #[(.int p1)] below meth c T locs 0 0) (eT : T.heap = h0) (N : Fr n0 locs), own_isN p1 w = own_isN_53 p1 w → own_Go p.tables e below (fun o U' => ∃ v L, o = .returned v ∧ Q_rm1 Z a0 p1 aS k vs dv w h0 n0 v U'.heap L ∧ FrameEnd s o U' L ({ frames := 0, cells := 0, slots := 0, locals := 0 } : Room).cells ({ frames := 0, cells := 0, slots := 0, locals := 0 } : Room).slots) (T.setTop (mkF m 53 #[iv p1] [])) := by
    intro T locs X eT N hv
    unfold own_isN_53 at hv
    refine o_iloadN X hx (hb hby d1_53) rfl ?_
    refine o_sipush X hx 248 (hb hby d1_54) rfl ?_
    by_cases hc57_55 : p1 < (248 : Int32)
    · have hv56 := hv.trans (if_pos hc57_55)
      refine o_icmpYes X hx (pc' := 67) (hb hby d1_57) (tlt hc57_55).1 (by decide) (by decide) ?_
      exact J_own_isN_67 T _ X eT N hv56
    · have hv57 := hv.trans (if_neg hc57_55)
      refine o_icmpNo X hx (hb hby d1_57) (flt hc57_55).1 ?_
      refine o_iloadN X hx (hb hby d1_60) rfl ?_
      refine o_sipush X hx 767 (hb hby d1_61) rfl ?_
      by_cases hc64_58 : (767 : Int32) < p1
      · have hv59 := hv57.trans (if_pos hc64_58)
        refine o_icmpNo X hx (hb hby d1_64) (tlt hc64_58).2.2.2 ?_
        exact J_own_isN_67 T _ X eT N hv59
      · have hv60 := hv57.trans (if_neg hc64_58)
        refine o_icmpYes X hx (pc' := 186) (hb hby d1_64) (flt hc64_58).2.2.2 (by decide) (by decide) ?_
        refine o_iconst X hx 1 (hb hby d1_186) rfl ?_
        refine o_goto X hx (pc' := 191) (hb hby d1_187) (by decide) (by decide) ?_
        exact own_end X eT (v := some (.int (1 : Int32))) (fun h => by rw [Bd.returns] at h; cases h) hlk (fun fs hr => retN X hx (z := (1 : Int32)) (t := .boolean) Bd.returns (by simp) (hb hby d1_191) hr) (Q := Q_rm1 Z a0 p1 aS k vs dv w h0 n0) ⟨(congrArg (fun z => some (Value.int z)) hv60.symm), N, rfl⟩ (by decide) (by decide)
  have J_own_isN_39 : ∀ (T : State) (locs : List Loc) (X : Stand p l e ({ frames := 0, cells := 0, slots := 0, locals := 0 } : Room) s m #[(.int p1)] below meth c T locs 0 0) (eT : T.heap = h0) (N : Fr n0 locs), own_isN p1 w = own_isN_39 p1 w → own_Go p.tables e below (fun o U' => ∃ v L, o = .returned v ∧ Q_rm1 Z a0 p1 aS k vs dv w h0 n0 v U'.heap L ∧ FrameEnd s o U' L ({ frames := 0, cells := 0, slots := 0, locals := 0 } : Room).cells ({ frames := 0, cells := 0, slots := 0, locals := 0 } : Room).slots) (T.setTop (mkF m 39 #[iv p1] [])) := by
    intro T locs X eT N hv
    unfold own_isN_39 at hv
    refine o_iloadN X hx (hb hby d1_39) rfl ?_
    refine o_sipush X hx 216 (hb hby d1_40) rfl ?_
    by_cases hc43_61 : p1 < (216 : Int32)
    · have hv62 := hv.trans (if_pos hc43_61)
      refine o_icmpYes X hx (pc' := 53) (hb hby d1_43) (tlt hc43_61).1 (by decide) (by decide) ?_
      exact J_own_isN_53 T _ X eT N hv62
    · have hv63 := hv.trans (if_neg hc43_61)
      refine o_icmpNo X hx (hb hby d1_43) (flt hc43_61).1 ?_
      refine o_iloadN X hx (hb hby d1_46) rfl ?_
      refine o_sipush X hx 246 (hb hby d1_47) rfl ?_
      by_cases hc50_64 : (246 : Int32) < p1
      · have hv65 := hv63.trans (if_pos hc50_64)
        refine o_icmpNo X hx (hb hby d1_50) (tlt hc50_64).2.2.2 ?_
        exact J_own_isN_53 T _ X eT N hv65
      · have hv66 := hv63.trans (if_neg hc50_64)
        refine o_icmpYes X hx (pc' := 186) (hb hby d1_50) (flt hc50_64).2.2.2 (by decide) (by decide) ?_
        refine o_iconst X hx 1 (hb hby d1_186) rfl ?_
        refine o_goto X hx (pc' := 191) (hb hby d1_187) (by decide) (by decide) ?_
        exact own_end X eT (v := some (.int (1 : Int32))) (fun h => by rw [Bd.returns] at h; cases h) hlk (fun fs hr => retN X hx (z := (1 : Int32)) (t := .boolean) Bd.returns (by simp) (hb hby d1_191) hr) (Q := Q_rm1 Z a0 p1 aS k vs dv w h0 n0) ⟨(congrArg (fun z => some (Value.int z)) hv66.symm), N, rfl⟩ (by decide) (by decide)
  have hv : own_isN p1 w = (if p1 < (128 : Int32) then (if (w &&& (1 : Int32)) = (0 : Int32) then (0 : Int32) else (1 : Int32)) else (if p1 < (192 : Int32) then (own_isN_39 p1 w) else (if (214 : Int32) < p1 then (own_isN_39 p1 w) else (1 : Int32)))) := rfl
  show own_Go _ _ _ _ (s₁.setTop (mkF m 0 #[iv p1] []))
  refine o_iloadN X0 hx (hb hby d1_0) rfl ?_
  refine o_sipush X0 hx 128 (hb hby d1_1) rfl ?_
  by_cases hc4_67 : p1 < (128 : Int32)
  · have hv68 := hv.trans (if_pos hc4_67)
    refine o_icmpNo X0 hx (hb hby d1_4) (tlt hc4_67).2.1 ?_
    obtain ⟨T69, X69, e69, st69⟩ := getS2 X0 hx hZ hown (host := "") (Or.inl (hw _ (List.mem_of_getElem? (i := 5) rfl))) Via.refl e0 S1 (g := (mkF m 7 #[iv p1] [])) rfl (hb hby d1_7)
    refine own_st st69 ?_
    show own_Go _ _ _ _ (T69.setTop (mkF m 10 #[iv p1] [(.ref aS)]))
    refine o_iloadN X69 hx (hb hby d1_10) rfl ?_
    obtain ⟨cl70, Ar70, qk70, Sz70, Ng70, Hs70, Gs70⟩ := id V1
    refine own_st (X69.baloadBytes hx (j := p1) (v := (.int w)) (by rw [e69]; exact Ar70.1) (State.isArrayOf_alike hZ.alike Ar70.2.1) Ar70.2.2 (inb_of Sz70 ⟨hp, hc4_67⟩) (Hs70.at (j := p1) (inb_of Sz70 ⟨hp, hc4_67⟩) (hat hc4_67)) (g := (mkF m 11 #[iv p1] [(.int p1), (.ref aS)])) rfl rfl (hb hby d1_11)) ?_
    show own_Go _ _ _ _ (T69.setTop (mkF m 12 #[iv p1] [(.int w)]))
    refine o_iconst X69 hx 1 (hb hby d1_12) rfl ?_
    refine o_iand X69 hx (hb hby d1_13) ?_
    by_cases hc14_71 : (w &&& (1 : Int32)) = (0 : Int32)
    · have hv72 := hv68.trans (if_pos hc14_71)
      refine o_ifYes X69 hx (pc' := 21) (hb hby d1_14) (teq hc14_71).1 (by decide) (by decide) ?_
      refine o_iconst X69 hx 0 (hb hby d1_21) rfl ?_
      refine o_goto X69 hx (pc' := 191) (hb hby d1_22) (by decide) (by decide) ?_
      exact own_end X69 e69 (v := some (.int (0 : Int32))) (fun h => by rw [Bd.returns] at h; cases h) hlk (fun fs hr => retN X69 hx (z := (0 : Int32)) (t := .boolean) Bd.returns (by simp) (hb hby d1_191) hr) (Q := Q_rm1 Z a0 p1 aS k vs dv w h0 n0) ⟨(congrArg (fun z => some (Value.int z)) hv72.symm), N0, rfl⟩ (by decide) (by decide)
    · have hv73 := hv68.trans (if_neg hc14_71)
      refine o_ifNo X69 hx (hb hby d1_14) (feq hc14_71).1 ?_
      refine o_iconst X69 hx 1 (hb hby d1_17) rfl ?_
      refine o_goto X69 hx (pc' := 191) (hb hby d1_18) (by decide) (by decide) ?_
      exact own_end X69 e69 (v := some (.int (1 : Int32))) (fun h => by rw [Bd.returns] at h; cases h) hlk (fun fs hr => retN X69 hx (z := (1 : Int32)) (t := .boolean) Bd.returns (by simp) (hb hby d1_191) hr) (Q := Q_rm1 Z a0 p1 aS k vs dv w h0 n0) ⟨(congrArg (fun z => some (Value.int z)) hv73.symm), N0, rfl⟩ (by decide) (by decide)
  · have hv74 := hv.trans (if_neg hc4_67)
    refine o_icmpYes X0 hx (pc' := 25) (hb hby d1_4) (flt hc4_67).2.1 (by decide) (by decide) ?_
    refine o_iloadN X0 hx (hb hby d1_25) rfl ?_
    refine o_sipush X0 hx 192 (hb hby d1_26) rfl ?_
    by_cases hc29_75 : p1 < (192 : Int32)
    · have hv76 := hv74.trans (if_pos hc29_75)
      refine o_icmpYes X0 hx (pc' := 39) (hb hby d1_29) (tlt hc29_75).1 (by decide) (by decide) ?_
      exact J_own_isN_39 s₁ _ X0 e0 N0 hv76
    · have hv77 := hv74.trans (if_neg hc29_75)
      refine o_icmpNo X0 hx (hb hby d1_29) (flt hc29_75).1 ?_
      refine o_iloadN X0 hx (hb hby d1_32) rfl ?_
      refine o_sipush X0 hx 214 (hb hby d1_33) rfl ?_
      by_cases hc36_78 : (214 : Int32) < p1
      · have hv79 := hv77.trans (if_pos hc36_78)
        refine o_icmpNo X0 hx (hb hby d1_36) (tlt hc36_78).2.2.2 ?_
        exact J_own_isN_39 s₁ _ X0 e0 N0 hv79
      · have hv80 := hv77.trans (if_neg hc36_78)
        refine o_icmpYes X0 hx (pc' := 186) (hb hby d1_36) (flt hc36_78).2.2.2 (by decide) (by decide) ?_
        refine o_iconst X0 hx 1 (hb hby d1_186) rfl ?_
        refine o_goto X0 hx (pc' := 191) (hb hby d1_187) (by decide) (by decide) ?_
        exact own_end X0 e0 (v := some (.int (1 : Int32))) (fun h => by rw [Bd.returns] at h; cases h) hlk (fun fs hr => retN X0 hx (z := (1 : Int32)) (t := .boolean) Bd.returns (by simp) (hb hby d1_191) hr) (Q := Q_rm1 Z a0 p1 aS k vs dv w h0 n0) ⟨(congrArg (fun z => some (Value.int z)) hv80.symm), N0, rfl⟩ (by decide) (by decide)
theorem own_nn (x : Int32) : ¬ (x &&& (2147483647 : Int32)) < 0 := by
  have h := (c_and x (2147483647 : Int32) (by decide)).1
  rw [Int32.lt_iff_toInt_lt]
  show ¬ (x &&& (2147483647 : Int32)).toInt < 0
  omega
def own_tab (j : Int32) : Int32 := if j < (45 : Int32) then (0 : Int32) else if j = (45 : Int32) then (2 : Int32) else if j = (46 : Int32) then (2 : Int32) else if j = (47 : Int32) then (0 : Int32) else if j < (58 : Int32) then (2 : Int32) else if j = (58 : Int32) then (3 : Int32) else if j < (65 : Int32) then (0 : Int32) else if j < (91 : Int32) then (3 : Int32) else if j < (95 : Int32) then (0 : Int32) else if j = (95 : Int32) then (3 : Int32) else if j = (96 : Int32) then (0 : Int32) else if j < (123 : Int32) then (3 : Int32) else (0 : Int32)
theorem own_lt (x n : Int32) (k : Int) (h : n.toInt = k) : (x < n) = (x.toInt < k) := by rw [← h]; exact propext Int32.lt_iff_toInt_lt
theorem own_gt (x n : Int32) (k : Int) (h : n.toInt = k) : (n < x) = (k < x.toInt) := by rw [← h]; exact propext Int32.lt_iff_toInt_lt
theorem own_eq (x n : Int32) (k : Int) (h : n.toInt = k) : (x = n) = (x.toInt = k) := by rw [← h]; exact propext Int32.toInt_inj.symm
theorem own_inz (p lo hi : Int32) (a b : Int) (ha : lo.toInt = a) (hb : hi.toInt = b) : (own_in p lo hi = (0 : Int32)) = ¬ (a ≤ p.toInt ∧ p.toInt ≤ b) := by
  unfold own_in
  simp only [own_lt p lo a ha, own_gt p hi b hb]
  apply propext
  repeat' split
  all_goals first | (constructor <;> intro <;> first | rfl | omega) | (constructor <;> intro h <;> first | exact absurd h (by decide) | (exfalso; omega))
theorem own_174 (p w : Int32) : own_isN_174 p w = if (65536 ≤ p.toInt ∧ p.toInt ≤ 983039) then (1 : Int32) else (0 : Int32) := by
  unfold own_isN_174
  simp only [own_lt p 65536 65536 rfl, own_lt p 983040 983040 rfl]
  repeat' split
  all_goals first | rfl | (exfalso; omega)
theorem own_162 (p w : Int32) : own_isN_162 p w = if (65008 ≤ p.toInt ∧ p.toInt ≤ 65533) ∨ (65536 ≤ p.toInt ∧ p.toInt ≤ 983039) then (1 : Int32) else (0 : Int32) := by
  unfold own_isN_162
  simp only [own_174, own_lt p 65008 65008 rfl, own_gt p 65533 65533 rfl]
  repeat' split
  all_goals first | rfl | (exfalso; omega)
theorem own_150 (p w : Int32) : own_isN_150 p w = if (63744 ≤ p.toInt ∧ p.toInt ≤ 64975) ∨ (65008 ≤ p.toInt ∧ p.toInt ≤ 65533) ∨ (65536 ≤ p.toInt ∧ p.toInt ≤ 983039) then (1 : Int32) else (0 : Int32) := by
  unfold own_isN_150
  simp only [own_162, own_lt p 63744 63744 rfl, own_gt p 64975 64975 rfl]
  repeat' split
  all_goals first | rfl | (exfalso; omega)
theorem own_137 (p w : Int32) : own_isN_137 p w = if (12289 ≤ p.toInt ∧ p.toInt ≤ 55295) ∨ (63744 ≤ p.toInt ∧ p.toInt ≤ 64975) ∨ (65008 ≤ p.toInt ∧ p.toInt ≤ 65533) ∨ (65536 ≤ p.toInt ∧ p.toInt ≤ 983039) then (1 : Int32) else (0 : Int32) := by
  unfold own_isN_137
  simp only [own_150, own_lt p 12289 12289 rfl, own_gt p 55295 55295 rfl]
  repeat' split
  all_goals first | rfl | (exfalso; omega)
theorem own_123 (p w : Int32) : own_isN_123 p w = if (11264 ≤ p.toInt ∧ p.toInt ≤ 12271) ∨ (12289 ≤ p.toInt ∧ p.toInt ≤ 55295) ∨ (63744 ≤ p.toInt ∧ p.toInt ≤ 64975) ∨ (65008 ≤ p.toInt ∧ p.toInt ≤ 65533) ∨ (65536 ≤ p.toInt ∧ p.toInt ≤ 983039) then (1 : Int32) else (0 : Int32) := by
  unfold own_isN_123
  simp only [own_137, own_lt p 11264 11264 rfl, own_gt p 12271 12271 rfl]
  repeat' split
  all_goals first | rfl | (exfalso; omega)
theorem own_95 (p w : Int32) : own_isN_95 p w = if p.toInt = 8204 ∨ p.toInt = 8205 ∨ (8304 ≤ p.toInt ∧ p.toInt ≤ 8591) ∨ (11264 ≤ p.toInt ∧ p.toInt ≤ 12271) ∨ (12289 ≤ p.toInt ∧ p.toInt ≤ 55295) ∨ (63744 ≤ p.toInt ∧ p.toInt ≤ 64975) ∨ (65008 ≤ p.toInt ∧ p.toInt ≤ 65533) ∨ (65536 ≤ p.toInt ∧ p.toInt ≤ 983039) then (1 : Int32) else (0 : Int32) := by
  unfold own_isN_95
  simp only [own_123, own_eq p 8204 8204 rfl, own_eq p 8205 8205 rfl, own_lt p 8304 8304 rfl, own_gt p 8591 8591 rfl]
  repeat' split
  all_goals first | rfl | (exfalso; omega)
abbrev own_D (N : Int) : Prop := (895 ≤ N ∧ N ≤ 8191) ∨ N = 8204 ∨ N = 8205 ∨ (8304 ≤ N ∧ N ≤ 8591) ∨ (11264 ≤ N ∧ N ≤ 12271) ∨ (12289 ≤ N ∧ N ≤ 55295) ∨ (63744 ≤ N ∧ N ≤ 64975) ∨ (65008 ≤ N ∧ N ≤ 65533) ∨ (65536 ≤ N ∧ N ≤ 983039)
theorem own_81 (p w : Int32) : own_isN_81 p w = if own_D p.toInt then (1 : Int32) else (0 : Int32) := by
  unfold own_isN_81 own_D
  simp only [own_95, own_lt p 895 895 rfl, own_gt p 8191 8191 rfl]
  repeat' split
  all_goals first | rfl | (exfalso; omega)
theorem own_67 (p w : Int32) : own_isN_67 p w = if (880 ≤ p.toInt ∧ p.toInt ≤ 893) ∨ own_D p.toInt then (1 : Int32) else (0 : Int32) := by
  unfold own_isN_67
  simp only [own_81, own_lt p 880 880 rfl, own_gt p 893 893 rfl]
  by_cases h : own_D p.toInt <;> simp only [h, or_true, or_false, if_true, if_false] <;> repeat' split
  all_goals first | rfl | (exfalso; omega)
theorem own_53 (p w : Int32) : own_isN_53 p w = if (248 ≤ p.toInt ∧ p.toInt ≤ 767) ∨ (880 ≤ p.toInt ∧ p.toInt ≤ 893) ∨ own_D p.toInt then (1 : Int32) else (0 : Int32) := by
  unfold own_isN_53
  simp only [own_67, own_lt p 248 248 rfl, own_gt p 767 767 rfl]
  by_cases h : own_D p.toInt <;> simp only [h, or_true, or_false, if_true, if_false] <;> repeat' split
  all_goals first | rfl | (exfalso; omega)
theorem own_39 (p w : Int32) : own_isN_39 p w = if (216 ≤ p.toInt ∧ p.toInt ≤ 246) ∨ (248 ≤ p.toInt ∧ p.toInt ≤ 767) ∨ (880 ≤ p.toInt ∧ p.toInt ≤ 893) ∨ own_D p.toInt then (1 : Int32) else (0 : Int32) := by
  unfold own_isN_39
  simp only [own_53, own_lt p 216 216 rfl, own_gt p 246 246 rfl]
  by_cases h : own_D p.toInt <;> simp only [h, or_true, or_false, if_true, if_false] <;> repeat' split
  all_goals first | rfl | (exfalso; omega)
theorem own_or {A B : Prop} [Decidable A] [Decidable B] : (if A then (1 : Int32) else (if B then (1 : Int32) else (0 : Int32))) = if A ∨ B then (1 : Int32) else (0 : Int32) := by
  by_cases a : A <;> by_cases b : B <;> simp [a, b]
theorem own_sp (p : Int32) : own_spec p = if (p.toInt = 58 ∨ (65 ≤ p.toInt ∧ p.toInt ≤ 90) ∨ p.toInt = 95 ∨ (97 ≤ p.toInt ∧ p.toInt ≤ 122) ∨ (192 ≤ p.toInt ∧ p.toInt ≤ 214)) ∨ (216 ≤ p.toInt ∧ p.toInt ≤ 246) ∨ (248 ≤ p.toInt ∧ p.toInt ≤ 767) ∨ (880 ≤ p.toInt ∧ p.toInt ≤ 893) ∨ own_D p.toInt then (1 : Int32) else (0 : Int32) := by
  unfold own_spec own_D
  simp only [own_eq p 58 58 rfl, own_inz p 65 90 65 90 rfl rfl, own_eq p 95 95 rfl, own_inz p 97 122 97 122 rfl rfl, own_inz p 192 214 192 214 rfl rfl, own_inz p 216 246 216 246 rfl rfl, own_inz p 248 767 248 767 rfl rfl, own_inz p 880 893 880 893 rfl rfl, own_inz p 895 8191 895 8191 rfl rfl, own_inz p 8204 8205 8204 8205 rfl rfl, own_inz p 8304 8591 8304 8591 rfl rfl, own_inz p 11264 12271 11264 12271 rfl rfl, own_inz p 12289 55295 12289 55295 rfl rfl, own_inz p 63744 64975 63744 64975 rfl rfl, own_inz p 65008 65533 65008 65533 rfl rfl, own_inz p 65536 983039 65536 983039 rfl rfl]
  simp only [ite_not, own_or]
  exact ite_congr (propext (by omega)) (fun _ => rfl) (fun _ => rfl)
theorem own_tab_z (c : Int32) : ((own_tab c &&& (1 : Int32)) = (0 : Int32)) ↔ ¬ (c.toInt = 58 ∨ (65 ≤ c.toInt ∧ c.toInt ≤ 90) ∨ c.toInt = 95 ∨ (97 ≤ c.toInt ∧ c.toInt ≤ 122)) := by
  unfold own_tab
  simp only [own_lt c 45 45 rfl, own_eq c 45 45 rfl, own_eq c 46 46 rfl, own_eq c 47 47 rfl, own_lt c 58 58 rfl, own_eq c 58 58 rfl, own_lt c 65 65 rfl, own_lt c 91 91 rfl, own_lt c 95 95 rfl, own_eq c 95 95 rfl, own_eq c 96 96 rfl, own_lt c 123 123 rfl]
  repeat' split
  all_goals first | exact ⟨fun _ => by omega, fun _ => by decide⟩ | exact ⟨fun h => absurd h (by decide), fun h => by omega⟩
theorem own_lo (c : Int32) (h : c < (128 : Int32)) : own_isN c (own_tab c) = own_spec c := by
  rw [own_sp]
  unfold own_isN
  rw [if_pos h]
  simp only [own_lt c 128 128 rfl] at h
  simp only [own_tab_z]
  have hD : ¬ own_D c.toInt := by unfold own_D; omega
  simp only [hD, or_false]
  repeat' split
  all_goals first | rfl | (exfalso; omega)
theorem own_law (c : Int32) (h0 : ¬ c < 0) : own_isN c (own_tab c) = own_spec c := by
  by_cases h : c < (128 : Int32)
  · exact own_lo c h
  · rw [own_sp]
    unfold own_isN
    rw [if_neg h, own_39]
    rw [own_lt c 128 128 rfl] at h
    simp only [own_lt c 192 192 rfl, own_gt c 214 214 rfl]
    by_cases hD : own_D c.toInt <;> simp only [hD, or_true, or_false, if_true, if_false] <;> repeat' split
    all_goals first | rfl | (exfalso; omega)
theorem own_stat {args : Array Value} {first s : State} {o : Option Outcome} {idx : List Nat} {C n d : String} {v : Value} (h : (Term.static C n d).eval args first o [] s = some v) : (Term.static C n d).eval args first o idx s = some v := by simpa [Term.eval] using h
theorem own_len {args : Array Value} {first s : State} {o : Option Outcome} {idx : List Nat} {t : Term} {a : Addr} {cl : Cell} {n : Int32} (ev : t.eval args first o idx s = some (.ref a)) (hA : s.arrayAt? a = some cl) (h : (Term.length t).eval args first o idx s = some (.int n)) : cl.slots.size < 2 ^ 31 ∧ cl.slots.size.toInt32 = n := by
  by_cases q : cl.slots.size < 2 ^ 31
  · have := (len_f ev hA q).symm.trans h
    exact ⟨q, by simpa using this⟩
  · simp [Term.eval, ev, hA, q] at h
theorem own_sz {n : Nat} (q : n < 2 ^ 31) (e : n.toInt32 = (128 : Int32)) : n = (128 : Int32).toNatClampNeg := by
  have h := len_toInt q
  rw [e] at h
  have h' : (128 : Int) = (n : Int) := h
  show n = 128
  omega
theorem own_arv {s : State} {a : Addr} {cl : Cell} {ty : FieldType} {z : Int32} {dv : Value} (hf : Fit s) (A : Arr s s.heap a cl ty) (S : cl.slots.size = z.toNatClampNeg) (hz : ¬ z < 0) : Arv s s.heap a cl.cls ty z cl.slots.toList dv := by
  have hg : ∀ i, i < cl.slots.size → cl.slots[i]? = some (cl.slots.toList.getD i dv) := fun i hi => by simp [hi]
  refine ⟨cl, A, rfl, S, hz, hg, fun i hi => ?_⟩
  have q31 : cl.slots.size < 2 ^ 31 := by rw [S]; exact (back32 hz).2
  have ei : i.toInt32.toNatClampNeg = i := by
    have h := len_toInt (n := i) (Nat.lt_trans hi q31)
    show i.toInt32.toInt.toNat = i
    omega
  refine elem_fits hf A (j := i.toInt32) (idx_in hi q31) ?_
  rw [ei]
  exact hg i hi
section Tab
variable {args : Array Value} {s : State} {t : Term} {a : Addr} {cl : Cell}
theorem own_pt (hA : s.arrayAt? a = some cl) (et : ∀ idx, t.eval args s none idx s = some (.ref a)) {k v : Int32} (hk : ¬ k < 0) (h : (Cond.eq (Term.elem t (Term.int k)) (Term.int v)).value args s none s [] = some true) : cl.slots[k.toNatClampNeg]? = some (.int v) :=
  (elem_f (et _) (Term.int_eval k) hA hk).symm.trans (eqv_i (Term.int_eval v) h)
theorem own_rg (hA : s.arrayAt? a = some cl) (et : ∀ idx, t.eval args s none idx s = some (.ref a)) {lo hi v j : Int32} (hj : ¬ j < 0) (hs : j.toNatClampNeg < cl.slots.size) (h : (Cond.all t (Cond.or (Cond.lt (Term.index 0) (Term.int lo)) (Cond.or (Cond.le (Term.int hi) (Term.index 0)) (Cond.eq (Term.elem t (Term.index 0)) (Term.int v))))).value args s none s [] = some true) (h1 : ¬ j < lo) (h2 : j < hi) : cl.slots[j.toNatClampNeg]? = some (.int v) := by
  have q := Cond.all_elim (et []) hA h j.toNatClampNeg hs
  rw [Cond.or_of_right (nay (Cond.lt_ints (idx_at hj) (Term.int_eval lo)) h1), Cond.or_of_right (nay (Cond.le_ints (Term.int_eval hi) (idx_at hj)) (Int32.not_le.mpr h2))] at q
  exact (elem_f (et _) (idx_at hj) hA hj).symm.trans (eqv_i (Term.int_eval v) q)
theorem own_rlo (hA : s.arrayAt? a = some cl) (et : ∀ idx, t.eval args s none idx s = some (.ref a)) {hi v j : Int32} (hj : ¬ j < 0) (hs : j.toNatClampNeg < cl.slots.size) (h : (Cond.all t (Cond.or (Cond.le (Term.int hi) (Term.index 0)) (Cond.eq (Term.elem t (Term.index 0)) (Term.int v)))).value args s none s [] = some true) (h2 : j < hi) : cl.slots[j.toNatClampNeg]? = some (.int v) := by
  have q := Cond.all_elim (et []) hA h j.toNatClampNeg hs
  rw [Cond.or_of_right (nay (Cond.le_ints (Term.int_eval hi) (idx_at hj)) (Int32.not_le.mpr h2))] at q
  exact (elem_f (et _) (idx_at hj) hA hj).symm.trans (eqv_i (Term.int_eval v) q)
theorem own_rhi (hA : s.arrayAt? a = some cl) (et : ∀ idx, t.eval args s none idx s = some (.ref a)) {lo v j : Int32} (hj : ¬ j < 0) (hs : j.toNatClampNeg < cl.slots.size) (h : (Cond.all t (Cond.or (Cond.lt (Term.index 0) (Term.int lo)) (Cond.eq (Term.elem t (Term.index 0)) (Term.int v)))).value args s none s [] = some true) (h1 : ¬ j < lo) : cl.slots[j.toNatClampNeg]? = some (.int v) := by
  have q := Cond.all_elim (et []) hA h j.toNatClampNeg hs
  rw [Cond.or_of_right (nay (Cond.lt_ints (idx_at hj) (Term.int_eval lo)) h1)] at q
  exact (elem_f (et _) (idx_at hj) hA hj).symm.trans (eqv_i (Term.int_eval v) q)
theorem own_all (dv : Value) (hA : s.arrayAt? a = some cl) (et : ∀ idx, t.eval args s none idx s = some (.ref a)) (Sz : cl.slots.size = (128 : Int32).toNatClampNeg)
    (n3 : (Cond.all t (Cond.or (Cond.le (Term.int 45) (Term.index 0)) (Cond.eq (Term.elem t (Term.index 0)) (Term.int 0)))).value args s none s [] = some true)
    (n4 : (Cond.eq (Term.elem t (Term.int 45)) (Term.int 2)).value args s none s [] = some true) (n5 : (Cond.eq (Term.elem t (Term.int 46)) (Term.int 2)).value args s none s [] = some true) (n6 : (Cond.eq (Term.elem t (Term.int 47)) (Term.int 0)).value args s none s [] = some true)
    (n7 : (Cond.all t (Cond.or (Cond.lt (Term.index 0) (Term.int 48)) (Cond.or (Cond.le (Term.int 58) (Term.index 0)) (Cond.eq (Term.elem t (Term.index 0)) (Term.int 2))))).value args s none s [] = some true)
    (n8 : (Cond.eq (Term.elem t (Term.int 58)) (Term.int 3)).value args s none s [] = some true)
    (n9 : (Cond.all t (Cond.or (Cond.lt (Term.index 0) (Term.int 59)) (Cond.or (Cond.le (Term.int 65) (Term.index 0)) (Cond.eq (Term.elem t (Term.index 0)) (Term.int 0))))).value args s none s [] = some true)
    (n10 : (Cond.all t (Cond.or (Cond.lt (Term.index 0) (Term.int 65)) (Cond.or (Cond.le (Term.int 91) (Term.index 0)) (Cond.eq (Term.elem t (Term.index 0)) (Term.int 3))))).value args s none s [] = some true)
    (n11 : (Cond.all t (Cond.or (Cond.lt (Term.index 0) (Term.int 91)) (Cond.or (Cond.le (Term.int 95) (Term.index 0)) (Cond.eq (Term.elem t (Term.index 0)) (Term.int 0))))).value args s none s [] = some true)
    (n12 : (Cond.eq (Term.elem t (Term.int 95)) (Term.int 3)).value args s none s [] = some true) (n13 : (Cond.eq (Term.elem t (Term.int 96)) (Term.int 0)).value args s none s [] = some true)
    (n14 : (Cond.all t (Cond.or (Cond.lt (Term.index 0) (Term.int 97)) (Cond.or (Cond.le (Term.int 123) (Term.index 0)) (Cond.eq (Term.elem t (Term.index 0)) (Term.int 3))))).value args s none s [] = some true)
    (n15 : (Cond.all t (Cond.or (Cond.lt (Term.index 0) (Term.int 123)) (Cond.eq (Term.elem t (Term.index 0)) (Term.int 0)))).value args s none s [] = some true) :
    ∀ j : Int32, ¬ j < 0 → j < (128 : Int32) → cl.slots.toList.getD j.toNatClampNeg dv = .int (own_tab j) := by
  intro j hj h8
  have hs : j.toNatClampNeg < cl.slots.size := by
    rw [Sz]
    rw [own_lt j 128 128 rfl] at h8
    rw [own_lt j 0 0 rfl] at hj
    show j.toInt.toNat < 128
    omega
  suffices hh : cl.slots[j.toNatClampNeg]? = some (.int (own_tab j)) by simp [List.getD, hh]
  unfold own_tab
  by_cases a1 : j < (45 : Int32)
  · rw [if_pos a1]; exact own_rlo hA et hj hs n3 a1
  rw [if_neg a1]
  by_cases a2 : j = (45 : Int32)
  · rw [if_pos a2, a2]; exact own_pt hA et (by decide) n4
  rw [if_neg a2]
  by_cases a3 : j = (46 : Int32)
  · rw [if_pos a3, a3]; exact own_pt hA et (by decide) n5
  rw [if_neg a3]
  by_cases a4 : j = (47 : Int32)
  · rw [if_pos a4, a4]; exact own_pt hA et (by decide) n6
  rw [if_neg a4]
  by_cases a5 : j < (58 : Int32)
  · rw [if_pos a5]; exact own_rg hA et hj hs n7 (by simp only [own_lt j 48 48 rfl]; simp only [own_lt j 45 45 rfl] at a1; simp only [own_eq j 45 45 rfl] at a2; simp only [own_eq j 46 46 rfl] at a3; simp only [own_eq j 47 47 rfl] at a4; omega) a5
  rw [if_neg a5]
  by_cases a6 : j = (58 : Int32)
  · rw [if_pos a6, a6]; exact own_pt hA et (by decide) n8
  rw [if_neg a6]
  by_cases a7 : j < (65 : Int32)
  · rw [if_pos a7]; exact own_rg hA et hj hs n9 (by simp only [own_lt j 59 59 rfl]; simp only [own_lt j 58 58 rfl] at a5; simp only [own_eq j 58 58 rfl] at a6; omega) a7
  rw [if_neg a7]
  by_cases a8 : j < (91 : Int32)
  · rw [if_pos a8]; exact own_rg hA et hj hs n10 a7 a8
  rw [if_neg a8]
  by_cases a9 : j < (95 : Int32)
  · rw [if_pos a9]; exact own_rg hA et hj hs n11 a8 a9
  rw [if_neg a9]
  by_cases b1 : j = (95 : Int32)
  · rw [if_pos b1, b1]; exact own_pt hA et (by decide) n12
  rw [if_neg b1]
  by_cases b2 : j = (96 : Int32)
  · rw [if_pos b2, b2]; exact own_pt hA et (by decide) n13
  rw [if_neg b2]
  by_cases b3 : j < (123 : Int32)
  · rw [if_pos b3]; exact own_rg hA et hj hs n14 (by simp only [own_lt j 97 97 rfl]; simp only [own_lt j 95 95 rfl] at a9; simp only [own_eq j 95 95 rfl] at b1; simp only [own_eq j 96 96 rfl] at b2; omega) b3
  rw [if_neg b3]
  exact own_rhi hA et hj hs n15 b3
end Tab

theorem pd_2 : parseMethodDescriptor "(I)Z" = some ⟨[.int], some .boolean⟩ := by decide +kernel
theorem ef_rm0 (m : MethodId) (p1 : Int32) : entryFrame m #[(.int p1)] maxLocals = mkF m 0 #[iv p1, .unset] [] := by first | (simp [entryFrame, mkF, argsToLocals, Value.category, maxLocals]; done) | rfl
def Q_rm0 (Z : State) (a0 : Array Value) (p1 : Int32) (aS : Addr) (k : ClassId) (vs : List Value) (dv : Value) (h0 : Heap) (n0 : Nat) (v : Option Value) (h : Heap) (L : List Loc) : Prop := v = some (.int (1 : Int32)) ∧ Fr n0 L ∧ Keep h0 h []
set_option maxRecDepth 65536 in
set_option maxHeartbeats 40000000 in
theorem rm0 (l : Launch) (Z : State) (a0 : Array Value) (hw : ∀ d ∈ tables_1, d.before a0 Z = true) (ws : List Jvm.Cond) (p1 : Int32) (aS : Addr) (k : ClassId) (vs : List Value) (dv : Value) (h0 : Heap) (n0 : Nat) (Z0 : n0 ≤ h0.size) (S1 : Sta Z h0 "com/example/libinfoset/libinfoset/model/XmlCharacters" "ASCII" "[B" (.ref aS)) (V1 : Arv Z h0 aS k .byte (128 : Int32) vs dv) (hat0 : ∀ j : Int32, ¬ j < 0 → j < (128 : Int32) → vs.getD j.toNatClampNeg dv = .int (own_tab j)) :
    MetFree l x (head1 (Jvm.Cond.code x code maxLocals ret :: ws) room_1) (fun a U => a = #[(.int p1)] ∧ Z.Warmed39 U.vm ∧ U.heap = h0) (fun _ _ _ _ _ => True) (fun _ U o U' => ∃ v L, o = .returned v ∧ Q_rm0 Z a0 p1 aS k vs dv h0 n0 v U'.heap L ∧ FrameEnd U o U' L room_1.cells room_1.slots) := by
  refine MetFree.of_bodySF (plainFor_of_name pn_3) hisR ?_
  intro p e s m args below meth c s₁ Bd hml0 hP hK
  obtain ⟨rfl, hZ, hh⟩ := hP
  have hx := Bd.exec
  have hby := Bd.bytes
  have hml : c.maxLocals = 2 := hml0
  have hown : s.vm.findClass "com/example/libinfoset/libinfoset/model/XmlCharactersIsNameStartCharacterPinLaw" = some m.cls := findClass_of_methodNamed Bd.named
  have hnm := (name_of_methodNamed Bd.named Bd.method).1
  have hlk : meth.locks = false := BodyLoose.notSynchronized (by assumption)
  have X0 : Stand p l e room_1 s m #[(.int p1)] below meth c s₁ [] 0 0 := Stand.of_body Bd
  have e0 : s₁.heap = h0 := by rw [← hh, Bd.state]; rfl
  have N0 := Fr.nil n0
  show own_Go p.tables e below (fun o U' => ∃ v L, o = .returned v ∧ Q_rm0 Z a0 p1 aS k vs dv h0 n0 v U'.heap L ∧ FrameEnd s o U' L room_1.cells room_1.slots) (s₁.setTop (entryFrame m #[(.int p1)] maxLocals))
  refine own_st (fun t k => castTop (ef_rm0 m p1) k) ?_
  show own_Go _ _ _ _ (s₁.setTop (mkF m 0 #[iv p1, .unset] []))
  refine o_iloadN X0 hx (hb hby at_0) rfl ?_
  refine o_ldc X0 hx hown (hb hby at_1) (mvT hZ (hw _ (List.mem_of_getElem? (i := 0) rfl))) ?_
  refine o_iand X0 hx (hb hby at_3) ?_
  refine o_istoreN X0 hx (hb hby at_4) (l' := #[iv p1, iv (p1 &&& (2147483647 : Int32))]) rfl ?_
  refine o_iloadN X0 hx (hb hby at_5) rfl ?_
  obtain ⟨_, _, ⟨T1, L1, k1, n1⟩, -, X1, ⟨Lc1, hQ1, l1, y1, z1⟩, st1⟩ := Jvm.LawKit.callS X0 hx (y := (⟨"com/example/libinfoset/libinfoset/model/XmlCharacters", "isNameStartCharacter", "(I)Z"⟩ : MethodName)) hown (mvT hZ (hw _ (List.mem_of_getElem? (i := 1) rfl))) (mvT hZ (hw _ (List.mem_of_getElem? (i := 2) rfl))) (mvT hZ (hw _ (List.mem_of_getElem? (i := 3) rfl))) (mvT hZ (hw _ (List.mem_of_getElem? (i := 4) rfl))) (by decide) (backOf (W := 0) (rm1 l Z a0 hw [] (p1 &&& (2147483647 : Int32)) aS k vs dv (own_tab (p1 &&& (2147483647 : Int32))) h0 n0 Z0 S1 V1 (own_nn p1) (hat0 _ (own_nn p1))) hZ (hw _ (List.mem_of_getElem? (i := 4) rfl)) (hw _ (List.mem_of_getElem? (i := 3) rfl)) (by decide) (by decide)) (g := (mkF m 6 #[iv p1, iv (p1 &&& (2147483647 : Int32))] [(.int (p1 &&& (2147483647 : Int32)))])) rfl (by rw [hml]; rfl) (argsL := [(.int (p1 &&& (2147483647 : Int32)))]) (rest := []) (lenOf pd_2 rfl) rfl (by show 2 * 0 + _ ≤ _; exact Nat.le_of_eq rfl) (hb hby at_6) (fun _ _ => ⟨rfl, e0, (by decide : 0 + 0 ≤ _), (by decide : 0 + 0 ≤ _)⟩)
  dsimp only [Pt.U, Pt.locs, Pt.cells, Pt.slots] at X1 l1 y1 z1 st1 hQ1
  subst l1 y1 z1
  obtain ⟨rfl, Nq1, e1⟩ := hQ1
  have N1 := Fr.app N0 Nq1
  refine own_st st1 ?_
  show own_Go _ _ _ _ (T1.setTop (mkF m 9 #[iv p1, iv (p1 &&& (2147483647 : Int32))] [(.int (own_isN (p1 &&& (2147483647 : Int32)) (own_tab (p1 &&& (2147483647 : Int32)))))]))
  refine o_iloadN X1 hx (hb hby at_9) rfl ?_
  obtain ⟨_, _, ⟨T2, L2, k2, n2⟩, -, X2, ⟨Lc2, hQ2, l2, y2, z2⟩, st2⟩ := Jvm.LawKit.callS X1 hx (y := (⟨"com/example/libinfoset/libinfoset/model/XmlCharactersIsNameStartCharacterPinLaw", "spec", "(I)Z"⟩ : MethodName)) hown (mvT hZ (hw _ (List.mem_of_getElem? (i := 7) rfl))) (mvT hZ (hw _ (List.mem_of_getElem? (i := 8) rfl))) (mvT hZ (hw _ (List.mem_of_getElem? (i := 9) rfl))) (mvT hZ (hw _ (List.mem_of_getElem? (i := 10) rfl))) (by decide) (backOf (W := 1) (rm2 l Z a0 hw [] (p1 &&& (2147483647 : Int32))  h0 n0 Z0) hZ (hw _ (List.mem_of_getElem? (i := 10) rfl)) (hw _ (List.mem_of_getElem? (i := 9) rfl)) (by decide) (by decide)) (g := (mkF m 10 #[iv p1, iv (p1 &&& (2147483647 : Int32))] [(.int (p1 &&& (2147483647 : Int32))), (.int (own_isN (p1 &&& (2147483647 : Int32)) (own_tab (p1 &&& (2147483647 : Int32)))))])) rfl (by rw [hml]; rfl) (argsL := [(.int (p1 &&& (2147483647 : Int32)))]) (rest := [(.int (own_isN (p1 &&& (2147483647 : Int32)) (own_tab (p1 &&& (2147483647 : Int32)))))]) (lenOf pd_2 rfl) rfl (by show 2 * 0 + _ ≤ _; exact Nat.le_of_eq rfl) (hb hby at_10) (fun _ _ => ⟨rfl, e1, (by decide : 0 + 0 ≤ _), (by decide : 0 + 0 ≤ _)⟩)
  dsimp only [Pt.U, Pt.locs, Pt.cells, Pt.slots] at X2 l2 y2 z2 st2 hQ2
  subst l2 y2 z2
  obtain ⟨rfl, Nq2, e2⟩ := hQ2
  have N2 := Fr.app N1 Nq2
  refine own_st st2 ?_
  show own_Go _ _ _ _ (T2.setTop (mkF m 13 #[iv p1, iv (p1 &&& (2147483647 : Int32))] [(.int (own_spec (p1 &&& (2147483647 : Int32)))), (.int (own_isN (p1 &&& (2147483647 : Int32)) (own_tab (p1 &&& (2147483647 : Int32)))))]))
  refine o_icmpNo X2 hx (hb hby at_13) (teq (own_law _ (own_nn p1))).2 ?_
  refine o_iconst X2 hx 1 (hb hby at_16) rfl ?_
  refine o_goto X2 hx (pc' := 21) (hb hby at_17) (by decide) (by decide) ?_
  exact own_end X2 e2 (v := some (.int (1 : Int32))) (fun h => by rw [Bd.returns] at h; cases h) hlk (fun fs hr => retN X2 hx (z := (1 : Int32)) (t := .boolean) Bd.returns (by simp) (hb hby at_21) hr) (Q := Q_rm0 Z a0 p1 aS k vs dv h0 n0) ⟨rfl, N2, (Keep.refl h0 [])⟩ (by decide) (by decide)
set_option maxRecDepth 65536 in
set_option maxHeartbeats 40000000 in
theorem comes_1 {Post : Tables → Env → Array Value → State → Outcome → State → Prop} (hpost : ∀ tb e args s v u, (limb_1_1.after args s (.returned v) u = true ∧ limb_1_2.after args s (.returned v) u = true ∧ True) → FrameEnd s (.returned v) u (Jvm.fieldLocs frame_1_writes args s ++ Jvm.arrayLocs frame_1_arrays args s ++ Jvm.staticLocs frame_1_statics s) 0 0 → Post tb e args s (.returned v) u) :
    ArmFor flags0 classFile x code maxLocals ret World_1 tables_1 room_1 Calls_1 rest_1 Pre_1 Post := by
  intro l hfl _ _ p e ha hc hk s m args below hf hA hF happ hP
  obtain ⟨hcalls, hrest, hpre⟩ := hP
  obtain ⟨-, -, -, hnamed, -, -, -, hat⟩ := (Spec.applies_iff hf).mp happ
  obtain ⟨hg, hn⟩ := and_e (Cond.before_iff.mp (show (Jvm.Cond.and given_1 narrow_1).before args s = true from hpre))
  obtain ⟨g1, g2⟩ := and_e hg
  obtain ⟨w0, rfl⟩ : ∃ w0 : Value, args = #[w0] := by
    have hs : args.size = 1 := by simpa [Cond.value, given_1] using g1
    obtain ⟨L⟩ := args
    match L, hs with
    | [w0], _ => exact ⟨w0, rfl⟩
  have hw := fun d (hd : d ∈ tables_1) => atoms_spec (ws := Jvm.Cond.code x code maxLocals ret :: tables_1) hat d (List.mem_cons_of_mem _ hd)
  have hfit : Fit s := fun {y c} hc i hi => by
    obtain ⟨ha, rfl⟩ := Array.getElem?_eq_some_iff.mp hc
    have q := List.all_eq_true.mp ((Array.all_eq_true_iff_forall_mem.mp hF) _ (Array.getElem_mem ha)) i (List.mem_range.mpr hi)
    simpa [Array.getElem?_eq_getElem hi] using q
  obtain ⟨i0, ei0⟩ := is_v g2
  obtain rfl : w0 = (.int i0) := Option.some.inj ei0
  obtain ⟨n1, m1⟩ := and_e hn
  obtain ⟨n2, m2⟩ := and_e m1
  obtain ⟨n3, m3⟩ := and_e m2
  obtain ⟨n4, m4⟩ := and_e m3
  obtain ⟨n5, m5⟩ := and_e m4
  obtain ⟨n6, m6⟩ := and_e m5
  obtain ⟨n7, m7⟩ := and_e m6
  obtain ⟨n8, m8⟩ := and_e m7
  obtain ⟨n9, m9⟩ := and_e m8
  obtain ⟨n10, m10⟩ := and_e m9
  obtain ⟨n11, m11⟩ := and_e m10
  obtain ⟨n12, m12⟩ := and_e m11
  obtain ⟨n13, m13⟩ := and_e m12
  obtain ⟨n14, m14⟩ := and_e m13
  have n15 := m14
  obtain ⟨aS, ev⟩ := arr_v n1
  have et := fun idx => own_stat (idx := idx) ev
  obtain ⟨cl, A⟩ := Arr.start ev n1
  have hA := A.fin (Vm.Alike.refl _)
  obtain ⟨q31, q128⟩ := own_len ev hA (eqv_i (Term.int_eval 128) n2)
  have Sz : cl.slots.size = (128 : Int32).toNatClampNeg := own_sz q31 q128
  have V := own_arv (dv := .int (0 : Int32)) hfit A Sz (by decide)
  have hat0 := own_all (.int (0 : Int32)) hA et Sz n3 n4 n5 n6 n7 n8 n9 n10 n11 n12 n13 n14 n15
  obtain ⟨n, o, h1, h2, h3, _, L, rfl, ⟨rfl, N, -⟩, hq⟩ := rm0 l s _ hw tables_1 i0 aS cl.cls cl.slots.toList (.int (0 : Int32)) s.heap s.heap.size (Nat.le_refl _) (Sta.start ev (Or.inr ⟨hw _ (List.mem_of_getElem? (i := 3) rfl), hw _ (List.mem_of_getElem? (i := 6) rfl)⟩)) V hat0 p e ha hc hk s m _ below hf ((Spec.applies_iff_loose hf).mp happ).1 ⟨rfl, State.Warmed39.refl s, rfl⟩ trivial
  refine ⟨n, _, h1, h2, h3, hpost _ _ _ _ _ _ ⟨Cond.after_iff.mpr rfl, Cond.after_iff.mpr (eq_i res_at (Term.int_eval (1)) rfl), trivial⟩ ⟨hq.1, hq.2.1, (hq.2.2.sift fun y hy => Or.inr (N y hy)).mono (by decide) (by decide)⟩⟩
theorem main_1_1 : Claimed_1_1 := comes_1 fun _ _ _ _ _ _ h hF => ⟨h.1, hF⟩
theorem main_1_2 : Claimed_1_2 := comes_1 fun _ _ _ _ _ _ h hF => ⟨h.2.1, hF⟩
end Jvm.Pilot.@@N@@
namespace Jvm.Pilot.@@N@@
open Jvm Jvm.ClassFile Sem Op Lib Jvm.Free Jvm.Stand Jvm.Pilot.@@N@@.Jvm.D
/-! MADE BY PROGRAM (witnessworld.py) out of the Statement's table words and the real class files: 9 classes; the members and pool entries that the words name. The judged class is class 1, her method 3. -/
namespace start1
open Jvm.ClassFile
def u (s : String) : CpInfo := .utf8 (stringToUtf16 s)
/-- a pool by its gaps: so many unusable entries, then the entry; so many at the end -/
def gap : Nat → List CpInfo → List CpInfo
  | 0, r => r
  | n + 1, r => .unusable :: gap n r
def poolList (es : List (Nat × CpInfo)) (last : Nat) : List CpInfo := es.foldr (fun e r => gap e.1 (e.2 :: r)) (gap last [])
def pool (es : List (Nat × CpInfo)) (last : Nat) : Array CpInfo := ⟨poolList es last⟩
def fileOf (pool : Array CpInfo) (this : Nat) (attrs : Array Attribute := #[]) (ms : Array MethodInfo := #[]) (fl : Nat := 33) (sup : Nat := 0) (ifs : Array Nat := #[]) (fds : Array FieldInfo := #[]) : ClassFile where
  minorVersion := 0
  majorVersion := 65
  constantPool := pool
  accessFlags := fl
  thisClass := this
  superClass := sup
  interfaces := ifs
  fields := fds
  methods := ms
  attributes := attrs
def plain (name : String) (sup : Option ClassId) : Class where
  name := name
  kind := .ordinary
  loader := none
  accessFlags := 33
  super := sup
  interfaces := #[]
  cf := none
  fields := #[]
  methods := #[]
  instanceTypes := #[]
  staticTypes := #[]
  resolved := #[]
  callSites := []
  init := .initialized
  statics := none
  mirror := none

def pool0 : Array CpInfo := pool [(5, u "<init>"), (0, u "()V"), (1, .class_ 10), (1, u "java/lang/Object")] 113

def k0m0 : Method := { name := "<init>", desc := "()V", sig := { parameters := [], returnType := none }, accessFlags := 1, code := none }
/-- java/lang/Object -/
def k0 : Class := { plain "java/lang/Object" none with
  accessFlags := 33
  interfaces := #[]
  cf := some (fileOf pool0 8 #[] #[{ accessFlags := 1, nameIndex := 5, descriptorIndex := 6, attributes := #[] }] 33 0 #[] #[])
  fields := #[]
  methods := #[k0m0]
  instanceTypes := #[]
  staticTypes := #[]
  resolved := Array.replicate 124 none
  statics := none }

def pool1 : Array CpInfo := pool [(2, .class_ 4), (1, u "java/lang/Object"), (0, u "<init>"), (0, u "()V"), (0, .methodref 8 9), (0, .class_ 10), (0, .nameAndType 11 12), (0, u "com/example/libinfoset/libinfoset/model/XmlCharactersIsNameStartCharacterPinLaw"), (0, u "in"), (0, u "(III)Z"), (0, .integer 55295), (0, .integer 63744), (0, .integer 64975), (0, .integer 65008), (0, .integer 65533), (0, .integer 65536), (0, .integer 983039), (0, .integer 2147483647), (0, .methodref 22 23), (0, .class_ 24), (0, .nameAndType 25 26), (0, u "com/example/libinfoset/libinfoset/model/XmlCharacters"), (0, u "isNameStartCharacter"), (0, u "(I)Z"), (0, .methodref 8 28), (0, .nameAndType 29 26), (0, u "spec"), (3, u "law")] 2

def k1m0 : Method := { name := "<init>", desc := "()V", sig := { parameters := [], returnType := none }, accessFlags := 2, code := none }
def k1c1 : Code := { maxStack := 2, maxLocals := 3, code := method_2_code, exceptionTable := #[], attributes := #[] }
def k1m1 : Method := { name := "in", desc := "(III)Z", sig := { parameters := [.int, .int, .int], returnType := some .boolean }, accessFlags := 10, code := some k1c1 }
def k1c2 : Code := { maxStack := 3, maxLocals := 1, code := method_3_code, exceptionTable := #[], attributes := #[] }
def k1m2 : Method := { name := "spec", desc := "(I)Z", sig := { parameters := [.int], returnType := some .boolean }, accessFlags := 10, code := some k1c2 }
def k1c3 : Code := { maxStack := 2, maxLocals := 2, code := code, exceptionTable := #[], attributes := #[] }
def k1m3 : Method := { name := "law", desc := "(I)Z", sig := { parameters := [.int], returnType := some .boolean }, accessFlags := 9, code := some k1c3 }
/-- com/example/libinfoset/libinfoset/model/XmlCharactersIsNameStartCharacterPinLaw -/
def k1 : Class := { plain "com/example/libinfoset/libinfoset/model/XmlCharactersIsNameStartCharacterPinLaw" (some 0) with
  accessFlags := 49
  interfaces := #[]
  cf := some (fileOf pool1 8 #[] #[{ accessFlags := 2, nameIndex := 5, descriptorIndex := 6, attributes := #[] }, { accessFlags := 10, nameIndex := 11, descriptorIndex := 12, attributes := #[] }, { accessFlags := 10, nameIndex := 29, descriptorIndex := 26, attributes := #[] }, { accessFlags := 9, nameIndex := 33, descriptorIndex := 26, attributes := #[] }] 49 2 #[] #[])
  fields := #[]
  methods := #[k1m0, k1m1, k1m2, k1m3]
  instanceTypes := #[]
  staticTypes := #[]
  resolved := Array.replicate 36 none
  statics := none }

def pool2 : Array CpInfo := pool [(2, .class_ 4), (1, u "java/lang/Object"), (0, u "<init>"), (0, u "()V"), (0, .integer 55295), (1, .integer 65533), (0, .integer 65536), (1, .fieldref 13 14), (0, .class_ 15), (0, .nameAndType 16 17), (0, u "com/example/libinfoset/libinfoset/model/XmlCharacters"), (0, u "ASCII"), (0, u "[B"), (0, .integer 63744), (0, .integer 64975), (0, .integer 65008), (0, .integer 983040), (2, u "isNameStartCharacter"), (0, u "(I)Z"), (4, u "NAME_START"), (0, u "B"), (2, u "NAME")] 11

def k2m0 : Method := { name := "<init>", desc := "()V", sig := { parameters := [], returnType := none }, accessFlags := 2, code := none }
def k2c1 : Code := { maxStack := 2, maxLocals := 1, code := prog_114_method_4_code, exceptionTable := #[], attributes := #[] }
def k2m1 : Method := { name := "isNameStartCharacter", desc := "(I)Z", sig := { parameters := [.int], returnType := some .boolean }, accessFlags := 9, code := some k2c1 }
/-- com/example/libinfoset/libinfoset/model/XmlCharacters -/
def k2 : Class := { plain "com/example/libinfoset/libinfoset/model/XmlCharacters" (some 0) with
  accessFlags := 33
  interfaces := #[]
  cf := some (fileOf pool2 13 #[] #[{ accessFlags := 2, nameIndex := 5, descriptorIndex := 6, attributes := #[] }, { accessFlags := 9, nameIndex := 24, descriptorIndex := 25, attributes := #[] }] 33 2 #[] #[{ accessFlags := 26, nameIndex := 30, descriptorIndex := 31, attributes := #[] }, { accessFlags := 26, nameIndex := 34, descriptorIndex := 31, attributes := #[] }, { accessFlags := 26, nameIndex := 16, descriptorIndex := 17, attributes := #[] }])
  fields := #[{ name := "NAME_START", type := .byte, accessFlags := 26, slot := 0, constantValue := 0 }, { name := "NAME", type := .byte, accessFlags := 26, slot := 1, constantValue := 0 }, { name := "ASCII", type := (.array .byte), accessFlags := 26, slot := 2, constantValue := 0 }]
  methods := #[k2m0, k2m1]
  instanceTypes := #[]
  staticTypes := #[.byte, .byte, (.array .byte)]
  resolved := Array.replicate 46 none
  statics := some 0 }

def pool3 : Array CpInfo := pool [(1, u "java/lang/Cloneable"), (0, .class_ 1), (0, u "java/lang/Object"), (0, .class_ 3)] 3

/-- java/lang/Cloneable -/
def k3 : Class := { plain "java/lang/Cloneable" (some 0) with
  accessFlags := 1537
  interfaces := #[]
  cf := some (fileOf pool3 2 #[] #[] 1537 4 #[] #[])
  fields := #[]
  methods := #[]
  instanceTypes := #[]
  staticTypes := #[]
  resolved := Array.replicate 8 none
  statics := none }

def pool4 : Array CpInfo := pool [(1, u "java/io/Serializable"), (0, .class_ 1), (0, u "java/lang/Object"), (0, .class_ 3)] 3

/-- java/io/Serializable -/
def k4 : Class := { plain "java/io/Serializable" (some 0) with
  accessFlags := 1537
  interfaces := #[]
  cf := some (fileOf pool4 2 #[] #[] 1537 4 #[] #[])
  fields := #[]
  methods := #[]
  instanceTypes := #[]
  staticTypes := #[]
  resolved := Array.replicate 8 none
  statics := none }

/-- the primitive byte -/
def k5 : Class := { plain "byte" none with kind := .primitive 'B', accessFlags := 0x411 }
/-- [B -/
def k6 : Class := { plain "[B" (some 0) with kind := .array 5 .byte, interfaces := #[3, 4], accessFlags := 1041 }

/-- the primitive int -/
def k7 : Class := { plain "int" none with kind := .primitive 'I', accessFlags := 0x411 }
/-- [I -/
def k8 : Class := { plain "[I" (some 0) with kind := .array 7 .int, interfaces := #[3, 4], accessFlags := 1041 }

def heap : Heap := #[{ cls := 2, slots := #[.int 0, .int 0, .ref 1], vm := .statics 2 },
  { cls := 6, slots := #[.int 0, .int 0, .int 0, .int 0, .int 0, .int 0, .int 0, .int 0, .int 0, .int 0, .int 0, .int 0, .int 0, .int 0, .int 0, .int 0, .int 0, .int 0, .int 0, .int 0, .int 0, .int 0, .int 0, .int 0, .int 0, .int 0, .int 0, .int 0, .int 0, .int 0, .int 0, .int 0, .int 0, .int 0, .int 0, .int 0, .int 0, .int 0, .int 0, .int 0, .int 0, .int 0, .int 0, .int 0, .int 0, .int 2, .int 2, .int 0, .int 2, .int 2, .int 2, .int 2, .int 2, .int 2, .int 2, .int 2, .int 2, .int 2, .int 3, .int 0, .int 0, .int 0, .int 0, .int 0, .int 0, .int 3, .int 3, .int 3, .int 3, .int 3, .int 3, .int 3, .int 3, .int 3, .int 3, .int 3, .int 3, .int 3, .int 3, .int 3, .int 3, .int 3, .int 3, .int 3, .int 3, .int 3, .int 3, .int 3, .int 3, .int 3, .int 3, .int 0, .int 0, .int 0, .int 0, .int 3, .int 0, .int 3, .int 3, .int 3, .int 3, .int 3, .int 3, .int 3, .int 3, .int 3, .int 3, .int 3, .int 3, .int 3, .int 3, .int 3, .int 3, .int 3, .int 3, .int 3, .int 3, .int 3, .int 3, .int 3, .int 3, .int 3, .int 3, .int 0, .int 0, .int 0, .int 0, .int 0], vm := .none }]
def classes : Array Class := #[k0, k1, k2, k3, k4, k5, k6, k7, k8]
def interned : List (Array UInt16 × Addr) := []
def slotsUsed : Nat := 131
def theMethod : MethodId := ⟨1, 3⟩
def args0 : Array Value := #[.int 65]
def aboutOver (below : List Frame) : State where
  vm := { classes := classes, interned := interned.toArray }
  heap := heap
  slotsUsed := slotsUsed
  threads := #[{ frames := .invoking theMethod args0 :: below }]
def below0 : List Frame := [.native { method := ⟨0, 0⟩, args := #[] }]
def about1 : State := aboutOver below0
def p0 : Program := .bare "" "" ""
def e0 : Env := launch0.env 0 0 0
theorem w_frames : about1.frames = Frame.invoking theMethod args0 :: below0 := rfl
set_option maxRecDepth 65536 in
theorem w_args : argsFit about1.vm theMethod args0 = true := by decide +kernel
set_option maxRecDepth 65536 in
theorem w_heap : heapFits about1 = true := by decide +kernel
set_option maxRecDepth 65536 in
theorem w_runnable : about1.curStatus? = some .runnable := by decide +kernel
set_option maxRecDepth 65536 in
theorem w_alone : about1.alone = true := by decide +kernel
set_option maxRecDepth 65536 in
theorem w_named : about1.methodNamed? x = some theMethod := by decide +kernel
set_option maxRecDepth 65536 in
theorem w_hears : about1.hears theMethod below0 = true := by decide +kernel
set_option maxRecDepth 65536 in
theorem w_ripe : about1.ripe theMethod args0 below0 = true := by decide +kernel
theorem w_running : about1.status = .running := rfl
set_option maxRecDepth 65536 in
theorem w_room : about1.hasRoom e0.platform room_1 = true :=
  launch0.hasRoom_least _ room_1 (by decide +kernel) (by decide +kernel) (by decide +kernel) (by decide +kernel) (by decide +kernel) (by decide +kernel)
theorem allAtoms_all (ts : List Jvm.Cond) (a : Array Jvm.Value) (st : Jvm.State) : (allAtoms ts).before a st = ts.all (fun c => c.before a st) := by
  induction ts with
  | nil => rfl
  | cons c t ih =>
    show (Jvm.Cond.and c (allAtoms t)).before a st = _
    rw [Jvm.Cond.before_and, ih, List.all_cons]
def words1 : List Jvm.Cond := Jvm.Cond.code x code maxLocals ret :: tables_1
/-- a 'code' word, met by the world's own term for the bytes: nothing is compared byte by byte -/
theorem code_word {y : MethodName} {bytes : ByteArray} {mx : Nat} {rt : Option FieldType} {a : Array Value} {s : State} {m : MethodId} {meth : Method} {c : Code} (h1 : s.methodNamed? y = some m) (h2 : s.vm.method? m = some meth) (h3 : meth.code = some c) (h4 : c.code = bytes)
    (h5 : (c.maxLocals == mx && c.exceptionTable.isEmpty && decide (c.maxStack ≤ mostOperands) && decide (meth.sig.returnType = rt) && !meth.locks && decide (parseMethodDescriptor y.desc = some meth.sig)) = true) : (Jvm.Cond.code y bytes mx rt).before a s = true := by
  simp only [Bool.and_eq_true, beq_iff_eq, Bool.not_eq_true', decide_eq_true_eq] at h5
  obtain ⟨⟨⟨⟨⟨g1, g2⟩, g3⟩, g4⟩, g5⟩, g6⟩ := h5
  simp [Cond.before, Cond.holds, Cond.value, h1, h2, h3, h4, g1, g2, g3, g4, g5, g6]
def isCode : Jvm.Cond → Bool
  | .code _ _ _ _ => true
  | _ => false
theorem all_split {L : List Jvm.Cond} {P : Jvm.Cond → Bool} (h1 : L.all (fun c => isCode c || P c) = true) (h2 : ∀ c ∈ L.filter isCode, P c = true) : L.all P = true := by
  refine List.all_eq_true.mpr fun c hc => ?_
  have h := List.all_eq_true.mp h1 c hc
  rcases Bool.eq_false_or_eq_true (isCode c) with hi | hi
  · exact h2 c (List.mem_filter.mpr ⟨hc, hi⟩)
  · simpa [hi] using h
set_option maxRecDepth 65536 in
theorem w_c0 : (Jvm.Cond.code x code maxLocals ret).before args0 about1 = true := code_word (m := ⟨1, 3⟩) (meth := k1m3) (c := k1c3) (by decide +kernel) rfl rfl rfl (by decide +kernel)
set_option maxRecDepth 65536 in
theorem w_c1 : (Jvm.Cond.code ({ cls := "com/example/libinfoset/libinfoset/model/XmlCharacters", name := "isNameStartCharacter", desc := "(I)Z" } : Jvm.MethodName) prog_114_method_4_code (1 : Nat) (Option.some Jvm.ClassFile.FieldType.boolean)).before args0 about1 = true := code_word (m := ⟨2, 1⟩) (meth := k2m1) (c := k2c1) (by decide +kernel) rfl rfl rfl (by decide +kernel)
set_option maxRecDepth 65536 in
theorem w_c2 : (Jvm.Cond.code ({ cls := "com/example/libinfoset/libinfoset/model/XmlCharactersIsNameStartCharacterPinLaw", name := "spec", desc := "(I)Z" } : Jvm.MethodName) method_3_code (1 : Nat) (Option.some Jvm.ClassFile.FieldType.boolean)).before args0 about1 = true := code_word (m := ⟨1, 2⟩) (meth := k1m2) (c := k1c2) (by decide +kernel) rfl rfl rfl (by decide +kernel)
set_option maxRecDepth 65536 in
theorem w_c3 : (Jvm.Cond.code ({ cls := "com/example/libinfoset/libinfoset/model/XmlCharactersIsNameStartCharacterPinLaw", name := "in", desc := "(III)Z" } : Jvm.MethodName) method_2_code (3 : Nat) (Option.some Jvm.ClassFile.FieldType.boolean)).before args0 about1 = true := code_word (m := ⟨1, 1⟩) (meth := k1m1) (c := k1c1) (by decide +kernel) rfl rfl rfl (by decide +kernel)
def codes1 : List Jvm.Cond := [Jvm.Cond.code x code maxLocals ret, Jvm.Cond.code ({ cls := "com/example/libinfoset/libinfoset/model/XmlCharacters", name := "isNameStartCharacter", desc := "(I)Z" } : Jvm.MethodName) prog_114_method_4_code (1 : Nat) (Option.some Jvm.ClassFile.FieldType.boolean), Jvm.Cond.code ({ cls := "com/example/libinfoset/libinfoset/model/XmlCharactersIsNameStartCharacterPinLaw", name := "spec", desc := "(I)Z" } : Jvm.MethodName) method_3_code (1 : Nat) (Option.some Jvm.ClassFile.FieldType.boolean), Jvm.Cond.code ({ cls := "com/example/libinfoset/libinfoset/model/XmlCharactersIsNameStartCharacterPinLaw", name := "in", desc := "(III)Z" } : Jvm.MethodName) method_2_code (3 : Nat) (Option.some Jvm.ClassFile.FieldType.boolean)]
set_option maxRecDepth 65536 in
theorem codes_eq : words1.filter isCode = codes1 := rfl
theorem w_codes : ∀ c ∈ words1.filter isCode, c.before args0 about1 = true := by
  rw [codes_eq]
  intro c hc
  simp only [codes1, List.mem_cons, List.not_mem_nil, or_false] at hc
  rcases hc with rfl | rfl | rfl | rfl
  · exact w_c0
  · exact w_c1
  · exact w_c2
  · exact w_c3
set_option maxRecDepth 65536 in
theorem w_t1 : (words1.take 24).all (fun c => isCode c || c.before args0 about1) = true := by decide +kernel
set_option maxRecDepth 65536 in
theorem w_t2 : (words1.drop 24).all (fun c => isCode c || c.before args0 about1) = true := by decide +kernel
theorem w_tables : (allAtoms (Jvm.Cond.code x code maxLocals ret :: tables_1)).before args0 about1 = true := by
  rw [allAtoms_all]
  show words1.all (fun c => c.before args0 about1) = true
  refine all_split ?_ w_codes
  rw [← List.take_append_drop 24 words1, List.all_append, w_t1, w_t2]
  rfl
set_option maxRecDepth 65536 in
theorem w_case : (Jvm.Cond.and given_1 narrow_1).before args0 about1 = true := by decide +kernel
theorem w_applies : (headSpec (Jvm.Cond.code x code maxLocals ret :: tables_1) room_1).applies x e0.platform about1 = true :=
  (Spec.applies_iff w_frames).mpr ⟨w_running, w_runnable, w_alone, w_named, w_hears, w_ripe, w_room, w_tables⟩
theorem atStart : AtStart classFile x code maxLocals ret World_1 tables_1 room_1 Calls_1 rest_1 Pre_1 launch0 p0 e0 about1 theMethod args0 below0 :=
  ⟨lists_1, trivial, launch0.admits_env _ _ _, launch0.least_env, fairChoices_fair.cas, fairChoices_fair.clock, w_frames, w_args, w_heap, w_applies, trivial, trivial, w_case⟩
end start1
theorem witness_1 : WitnessClaimed_1 := ⟨start1.p0, start1.e0, start1.about1, start1.theMethod, start1.args0, start1.below0, start1.atStart⟩
end Jvm.Pilot.@@N@@
