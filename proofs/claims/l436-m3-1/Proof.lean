import JvmDerived
import JvmDerived.Pilot.@@N@@Statement
import JvmDerived.Pilot.@@N@@Code
set_option linter.unusedVariables false
set_option linter.unusedSimpArgs false
namespace Jvm.RoadKit
open Sem ClassFile Op Lib Jvm.Stand Jvm.Free Jvm.LawKit
section New
variable {p : Program} {l : Launch} {e : Env} {R : Room} {s : State} {m : MethodId} {args : Array Value} {below : List Frame} {meth : Method} {c : Code} {T : State} {locs : List Loc} {cells slots : Nat}
theorem retI (X : Stand p l e R s m args below meth c T locs cells slots) (hx : p.tables.exec = Jvm.exec) {pc : Nat} {Ls : Array Slot} {z : Int32} {rest : List Value} (hret : meth.sig.returnType = some .int) (hd : decode c.code pc = .ok (.ireturn, 1)) {fs : List Frame}
    (hl : ∀ (f : JFrame) (acts : List Action), f.method = m → f.locked = none → f.entered = [] → (doReturn e (T.setTop f) acts (some (.int z))).1 = T.setFrames fs) : Steps p.tables e below (T.setTop (mkF m pc Ls (.int z :: rest))) (T.setFrames fs) := by
  have hm' : T.vm.method? m = some meth := X.method'
  have hn : narrow .int (.int z) = .int z := rfl
  show Steps p.tables e below (T.setTop { method := m, pc := pc, locals := Ls, stack := _ :: rest, locked := none }) _
  jvm_step X.here [X.here.top, hx, hd, hm', hret, hn]
  first | (intro acts; rw [hl _ acts rfl rfl rfl]) | rw [hl _ _ rfl rfl rfl]
  exact Steps.refl _
theorem own_retA (X : Stand p l e R s m args below meth c T locs cells slots) (hx : p.tables.exec = Jvm.exec) {pc : Nat} {Ls : Array Slot} {w : Value} {t : FieldType} {rest : List Value} (hret : meth.sig.returnType = some t) (ht : t.isReference = true) (hw : w.isRef = true) (hd : decode c.code pc = .ok (.areturn, 1)) {fs : List Frame}
    (hl : ∀ (f : JFrame) (acts : List Action), f.method = m → f.locked = none → f.entered = [] → (doReturn e (T.setTop f) acts (some w)).1 = T.setFrames fs) : Steps p.tables e below (T.setTop (mkF m pc Ls (w :: rest))) (T.setFrames fs) := by
  have hm' : T.vm.method? m = some meth := X.method'
  rcases ref_cases hw with rfl | ⟨z, rfl⟩
  all_goals
    show Steps p.tables e below (T.setTop { method := m, pc := pc, locals := Ls, stack := _ :: rest, locked := none }) _
    jvm_step X.here [X.here.top, hx, hd, hm', hret, Value.isRef]
    try (refine ⟨ht, ?_⟩)
    first | (intro acts; rw [hl _ acts rfl rfl rfl]) | rw [hl _ _ rfl rfl rfl]
    exact Steps.refl _
end New
/-- from U the run comes to an end of which P tells -/
def own_Go (tb : Tables) (e : Env) (below : List Frame) (P : Outcome → State → Prop) (U : State) : Prop := ∃ s₂ o, Steps tb e below U s₂ ∧ s₂.status = .running ∧ Ended s₂ below o ∧ P o s₂
theorem own_st {tb : Tables} {e : Env} {below : List Frame} {P : Outcome → State → Prop} {U V : State} (h : ∀ t, Steps tb e below V t → Steps tb e below U t) (g : own_Go tb e below P V) : own_Go tb e below P U := by
  obtain ⟨s₂, o, h1, r⟩ := g
  exact ⟨s₂, o, h _ h1, r⟩
theorem own_tr {tb : Tables} {e : Env} {below : List Frame} {P : Outcome → State → Prop} {U V : State} (h : Steps tb e below U V) (g : own_Go tb e below P V) : own_Go tb e below P U := by
  obtain ⟨s₂, o, h1, r⟩ := g
  exact ⟨s₂, o, h.trans h1, r⟩
theorem own_end {p : Program} {l : Launch} {e : Env} {R : Room} {s : State} {m : MethodId} {args : Array Value} {below : List Frame} {meth : Method} {c : Code} {T : State} {locs : List Loc} {cells slots : Nat} (X : Stand p l e R s m args below meth c T locs cells slots) {h : Heap} (eT : T.heap = h) {v : Option Value} (hv : meth.sig.returnType = none → v = none) (hlk : meth.locks = false) {g : JFrame}
    (hst : ∀ fs, (∀ (f : JFrame) (acts : List Action), f.method = m → f.locked = none → f.entered = [] → (doReturn e (T.setTop f) acts v).1 = T.setFrames fs) → Steps p.tables e below (T.setTop g) (T.setFrames fs))
    {Q : Option Value → Heap → List Loc → Prop} (hQ : Q v h locs) {cc ss : Nat} (hc : cells ≤ cc) (hs : slots ≤ ss) :
    own_Go p.tables e below (fun o U' => ∃ v L, o = .returned v ∧ Q v U'.heap L ∧ FrameEnd s o U' L cc ss) (T.setTop g) := by
  subst eT
  obtain ⟨fs, hr, hrun, hended, hW, hsame⟩ := X.leave (v := v) hv hlk
  exact ⟨_, _, hst fs hr, hrun, hended, _, _, rfl, hQ, ⟨_, rfl⟩, hW, hsame.mono hc hs⟩
section Steps2
variable {p : Program} {l : Launch} {e : Env} {R : Room} {s : State} {m : MethodId} {args : Array Value} {below : List Frame} {meth : Method} {c : Code} {T : State} {locs : List Loc} {cells slots : Nat} {P : Outcome → State → Prop} {pc : Nat} {Ls : Array Slot} {st : List Value}
theorem o_iloadN (X : Stand p l e R s m args below meth c T locs cells slots) (hx : p.tables.exec = Jvm.exec) {k : Fin 4} {v : Int32} (hd : decode c.code pc = .ok (.iload_n k, 1)) (hl : Ls[k.val]? = some (.val (.int v))) (g : own_Go p.tables e below P (T.setTop (mkF m (pc + 1) Ls (.int v :: st)))) : own_Go p.tables e below P (T.setTop (mkF m pc Ls st)) := own_st (fun t k => XS.iloadN X.here hx rfl hd hl k) g
theorem o_iload (X : Stand p l e R s m args below meth c T locs cells slots) (hx : p.tables.exec = Jvm.exec) {k : Nat} {v : Int32} (hd : decode c.code pc = .ok (.iload k, 2)) (hl : Ls[k]? = some (.val (.int v))) (g : own_Go p.tables e below P (T.setTop (mkF m (pc + 2) Ls (.int v :: st)))) : own_Go p.tables e below P (T.setTop (mkF m pc Ls st)) := own_st (fun t k => XS.iload X.here hx rfl hd hl k) g
theorem o_lloadN (X : Stand p l e R s m args below meth c T locs cells slots) (hx : p.tables.exec = Jvm.exec) {k : Fin 4} {v : Int64} (hd : decode c.code pc = .ok (.lload_n k, 1)) (hl : Ls[k.val]? = some (.val (.long v))) (g : own_Go p.tables e below P (T.setTop (mkF m (pc + 1) Ls (.long v :: st)))) : own_Go p.tables e below P (T.setTop (mkF m pc Ls st)) := own_st (fun t k => XS.lloadN X.here hx rfl hd hl k) g
theorem o_lload (X : Stand p l e R s m args below meth c T locs cells slots) (hx : p.tables.exec = Jvm.exec) {k : Nat} {v : Int64} (hd : decode c.code pc = .ok (.lload k, 2)) (hl : Ls[k]? = some (.val (.long v))) (g : own_Go p.tables e below P (T.setTop (mkF m (pc + 2) Ls (.long v :: st)))) : own_Go p.tables e below P (T.setTop (mkF m pc Ls st)) := own_st (fun t k => XS.lload X.here hx rfl hd hl k) g
theorem o_aloadN (X : Stand p l e R s m args below meth c T locs cells slots) (hx : p.tables.exec = Jvm.exec) {k : Fin 4} {v : Value} (hd : decode c.code pc = .ok (.aload_n k, 1)) (hl : Ls[k.val]? = some (.val v)) (hv : v.isRef = true) (g : own_Go p.tables e below P (T.setTop (mkF m (pc + 1) Ls (v :: st)))) : own_Go p.tables e below P (T.setTop (mkF m pc Ls st)) := own_st (fun t k => XS.aloadN X.here hx rfl hd hl hv k) g
theorem o_aload (X : Stand p l e R s m args below meth c T locs cells slots) (hx : p.tables.exec = Jvm.exec) {k : Nat} {v : Value} (hd : decode c.code pc = .ok (.aload k, 2)) (hl : Ls[k]? = some (.val v)) (hv : v.isRef = true) (g : own_Go p.tables e below P (T.setTop (mkF m (pc + 2) Ls (v :: st)))) : own_Go p.tables e below P (T.setTop (mkF m pc Ls st)) := own_st (fun t k => XS.aload X.here hx rfl hd hl hv k) g
theorem o_istoreN (X : Stand p l e R s m args below meth c T locs cells slots) (hx : p.tables.exec = Jvm.exec) {k : Fin 4} {v : Int32} {l' : Array Slot} (hd : decode c.code pc = .ok (.istore_n k, 1)) (hl : storeLocals Ls k.val (.int v) = some l') (g : own_Go p.tables e below P (T.setTop (mkF m (pc + 1) l' st))) : own_Go p.tables e below P (T.setTop (mkF m pc Ls (.int v :: st))) := own_st (fun t k => XS.istoreN X.here hx rfl hd rfl hl k) g
theorem o_istore (X : Stand p l e R s m args below meth c T locs cells slots) (hx : p.tables.exec = Jvm.exec) {k : Nat} {v : Int32} {l' : Array Slot} (hd : decode c.code pc = .ok (.istore k, 2)) (hl : storeLocals Ls k (.int v) = some l') (g : own_Go p.tables e below P (T.setTop (mkF m (pc + 2) l' st))) : own_Go p.tables e below P (T.setTop (mkF m pc Ls (.int v :: st))) := own_st (fun t k => XS.istore X.here hx rfl hd rfl hl k) g
theorem o_lstoreN (X : Stand p l e R s m args below meth c T locs cells slots) (hx : p.tables.exec = Jvm.exec) {k : Fin 4} {v : Int64} {l' : Array Slot} (hd : decode c.code pc = .ok (.lstore_n k, 1)) (hl : storeLocals Ls k.val (.long v) = some l') (g : own_Go p.tables e below P (T.setTop (mkF m (pc + 1) l' st))) : own_Go p.tables e below P (T.setTop (mkF m pc Ls (.long v :: st))) := own_st (fun t k => XS.lstoreN X.here hx rfl hd rfl hl k) g
theorem o_lstore (X : Stand p l e R s m args below meth c T locs cells slots) (hx : p.tables.exec = Jvm.exec) {k : Nat} {v : Int64} {l' : Array Slot} (hd : decode c.code pc = .ok (.lstore k, 2)) (hl : storeLocals Ls k (.long v) = some l') (g : own_Go p.tables e below P (T.setTop (mkF m (pc + 2) l' st))) : own_Go p.tables e below P (T.setTop (mkF m pc Ls (.long v :: st))) := own_st (fun t k => XS.lstore X.here hx rfl hd rfl hl k) g
theorem o_astoreN (X : Stand p l e R s m args below meth c T locs cells slots) (hx : p.tables.exec = Jvm.exec) {k : Fin 4} {v : Value} {l' : Array Slot} (hd : decode c.code pc = .ok (.astore_n k, 1)) (hv : v.isRef = true) (hl : storeLocals Ls k.val v = some l') (g : own_Go p.tables e below P (T.setTop (mkF m (pc + 1) l' st))) : own_Go p.tables e below P (T.setTop (mkF m pc Ls (v :: st))) := own_st (fun t k => XS.astoreN X.here hx rfl hd rfl hv hl k) g
theorem o_astore (X : Stand p l e R s m args below meth c T locs cells slots) (hx : p.tables.exec = Jvm.exec) {k : Nat} {v : Value} {l' : Array Slot} (hd : decode c.code pc = .ok (.astore k, 2)) (hv : v.isRef = true) (hl : storeLocals Ls k v = some l') (g : own_Go p.tables e below P (T.setTop (mkF m (pc + 2) l' st))) : own_Go p.tables e below P (T.setTop (mkF m pc Ls (v :: st))) := own_st (fun t k => XS.astore X.here hx rfl hd rfl hv hl k) g
theorem o_iconst (X : Stand p l e R s m args below meth c T locs cells slots) (hx : p.tables.exec = Jvm.exec) {i : Int} (z : Int32) (hd : decode c.code pc = .ok (.iconst i, 1)) (hz : Int32.ofInt i = z) (g : own_Go p.tables e below P (T.setTop (mkF m (pc + 1) Ls (.int z :: st)))) : own_Go p.tables e below P (T.setTop (mkF m pc Ls st)) := by subst hz; exact own_st (fun t k => XS.iconst X.here hx rfl hd k) g
theorem o_bipush (X : Stand p l e R s m args below meth c T locs cells slots) (hx : p.tables.exec = Jvm.exec) {i : Int} (z : Int32) (hd : decode c.code pc = .ok (.bipush i, 2)) (hz : (Int8.ofInt i).toInt32 = z) (g : own_Go p.tables e below P (T.setTop (mkF m (pc + 2) Ls (.int z :: st)))) : own_Go p.tables e below P (T.setTop (mkF m pc Ls st)) := by subst hz; exact own_st (fun t k => XS.bipush X.here hx rfl hd k) g
theorem o_sipush (X : Stand p l e R s m args below meth c T locs cells slots) (hx : p.tables.exec = Jvm.exec) {i : Int} (z : Int32) (hd : decode c.code pc = .ok (.sipush i, 3)) (hz : (Int16.ofInt i).toInt32 = z) (g : own_Go p.tables e below P (T.setTop (mkF m (pc + 3) Ls (.int z :: st)))) : own_Go p.tables e below P (T.setTop (mkF m pc Ls st)) := by subst hz; exact own_st (fun t k => XS.sipush X.here hx rfl hd k) g
theorem o_lconst (X : Stand p l e R s m args below meth c T locs cells slots) (hx : p.tables.exec = Jvm.exec) {i : Fin 2} (z : Int64) (hd : decode c.code pc = .ok (.lconst i, 1)) (hz : Int64.ofNat i = z) (g : own_Go p.tables e below P (T.setTop (mkF m (pc + 1) Ls (.long z :: st)))) : own_Go p.tables e below P (T.setTop (mkF m pc Ls st)) := by subst hz; exact own_st (fun t k => XS.lconst X.here hx rfl hd k) g
theorem o_aconstNull (X : Stand p l e R s m args below meth c T locs cells slots) (hx : p.tables.exec = Jvm.exec) (hd : decode c.code pc = .ok (.aconst_null, 1)) (g : own_Go p.tables e below P (T.setTop (mkF m (pc + 1) Ls (.null :: st)))) : own_Go p.tables e below P (T.setTop (mkF m pc Ls st)) := own_st (fun t k => XS.aconstNull X.here hx rfl hd k) g
theorem o_iadd (X : Stand p l e R s m args below meth c T locs cells slots) (hx : p.tables.exec = Jvm.exec) {x y : Int32} (hd : decode c.code pc = .ok (.iadd, 1)) (g : own_Go p.tables e below P (T.setTop (mkF m (pc + 1) Ls (.int (x + y) :: st)))) : own_Go p.tables e below P (T.setTop (mkF m pc Ls (.int y :: .int x :: st))) := own_st (fun t k => XS.iadd X.here hx rfl hd rfl k) g
theorem o_ladd (X : Stand p l e R s m args below meth c T locs cells slots) (hx : p.tables.exec = Jvm.exec) {x y : Int64} (hd : decode c.code pc = .ok (.ladd, 1)) (g : own_Go p.tables e below P (T.setTop (mkF m (pc + 1) Ls (.long (x + y) :: st)))) : own_Go p.tables e below P (T.setTop (mkF m pc Ls (.long y :: .long x :: st))) := own_st (fun t k => XS.ladd X.here hx rfl hd rfl k) g
theorem o_isub (X : Stand p l e R s m args below meth c T locs cells slots) (hx : p.tables.exec = Jvm.exec) {x y : Int32} (hd : decode c.code pc = .ok (.isub, 1)) (g : own_Go p.tables e below P (T.setTop (mkF m (pc + 1) Ls (.int (x - y) :: st)))) : own_Go p.tables e below P (T.setTop (mkF m pc Ls (.int y :: .int x :: st))) := own_st (fun t k => XS.isub X.here hx rfl hd rfl k) g
theorem o_lsub (X : Stand p l e R s m args below meth c T locs cells slots) (hx : p.tables.exec = Jvm.exec) {x y : Int64} (hd : decode c.code pc = .ok (.lsub, 1)) (g : own_Go p.tables e below P (T.setTop (mkF m (pc + 1) Ls (.long (x - y) :: st)))) : own_Go p.tables e below P (T.setTop (mkF m pc Ls (.long y :: .long x :: st))) := own_st (fun t k => XS.lsub X.here hx rfl hd rfl k) g
theorem o_imul (X : Stand p l e R s m args below meth c T locs cells slots) (hx : p.tables.exec = Jvm.exec) {x y : Int32} (hd : decode c.code pc = .ok (.imul, 1)) (g : own_Go p.tables e below P (T.setTop (mkF m (pc + 1) Ls (.int (x * y) :: st)))) : own_Go p.tables e below P (T.setTop (mkF m pc Ls (.int y :: .int x :: st))) := own_st (fun t k => XS.imul X.here hx rfl hd rfl k) g
theorem o_lmul (X : Stand p l e R s m args below meth c T locs cells slots) (hx : p.tables.exec = Jvm.exec) {x y : Int64} (hd : decode c.code pc = .ok (.lmul, 1)) (g : own_Go p.tables e below P (T.setTop (mkF m (pc + 1) Ls (.long (x * y) :: st)))) : own_Go p.tables e below P (T.setTop (mkF m pc Ls (.long y :: .long x :: st))) := own_st (fun t k => XS.lmul X.here hx rfl hd rfl k) g
theorem o_iand (X : Stand p l e R s m args below meth c T locs cells slots) (hx : p.tables.exec = Jvm.exec) {x y : Int32} (hd : decode c.code pc = .ok (.iand, 1)) (g : own_Go p.tables e below P (T.setTop (mkF m (pc + 1) Ls (.int (x &&& y) :: st)))) : own_Go p.tables e below P (T.setTop (mkF m pc Ls (.int y :: .int x :: st))) := own_st (fun t k => XS.iand X.here hx rfl hd rfl k) g
theorem o_land (X : Stand p l e R s m args below meth c T locs cells slots) (hx : p.tables.exec = Jvm.exec) {x y : Int64} (hd : decode c.code pc = .ok (.land, 1)) (g : own_Go p.tables e below P (T.setTop (mkF m (pc + 1) Ls (.long (x &&& y) :: st)))) : own_Go p.tables e below P (T.setTop (mkF m pc Ls (.long y :: .long x :: st))) := own_st (fun t k => XS.land X.here hx rfl hd rfl k) g
theorem o_ior (X : Stand p l e R s m args below meth c T locs cells slots) (hx : p.tables.exec = Jvm.exec) {x y : Int32} (hd : decode c.code pc = .ok (.ior, 1)) (g : own_Go p.tables e below P (T.setTop (mkF m (pc + 1) Ls (.int (x ||| y) :: st)))) : own_Go p.tables e below P (T.setTop (mkF m pc Ls (.int y :: .int x :: st))) := own_st (fun t k => XS.ior X.here hx rfl hd rfl k) g
theorem o_lor (X : Stand p l e R s m args below meth c T locs cells slots) (hx : p.tables.exec = Jvm.exec) {x y : Int64} (hd : decode c.code pc = .ok (.lor, 1)) (g : own_Go p.tables e below P (T.setTop (mkF m (pc + 1) Ls (.long (x ||| y) :: st)))) : own_Go p.tables e below P (T.setTop (mkF m pc Ls (.long y :: .long x :: st))) := own_st (fun t k => XS.lor X.here hx rfl hd rfl k) g
theorem o_ixor (X : Stand p l e R s m args below meth c T locs cells slots) (hx : p.tables.exec = Jvm.exec) {x y : Int32} (hd : decode c.code pc = .ok (.ixor, 1)) (g : own_Go p.tables e below P (T.setTop (mkF m (pc + 1) Ls (.int (x ^^^ y) :: st)))) : own_Go p.tables e below P (T.setTop (mkF m pc Ls (.int y :: .int x :: st))) := own_st (fun t k => XS.ixor X.here hx rfl hd rfl k) g
theorem o_lxor (X : Stand p l e R s m args below meth c T locs cells slots) (hx : p.tables.exec = Jvm.exec) {x y : Int64} (hd : decode c.code pc = .ok (.lxor, 1)) (g : own_Go p.tables e below P (T.setTop (mkF m (pc + 1) Ls (.long (x ^^^ y) :: st)))) : own_Go p.tables e below P (T.setTop (mkF m pc Ls (.long y :: .long x :: st))) := own_st (fun t k => XS.lxor X.here hx rfl hd rfl k) g
theorem o_idiv (X : Stand p l e R s m args below meth c T locs cells slots) (hx : p.tables.exec = Jvm.exec) {x y : Int32} (hd : decode c.code pc = .ok (.idiv, 1)) (hy : y ≠ 0) (g : own_Go p.tables e below P (T.setTop (mkF m (pc + 1) Ls (.int (x / y) :: st)))) : own_Go p.tables e below P (T.setTop (mkF m pc Ls (.int y :: .int x :: st))) := own_st (fun t k => XS.idiv X.here hx rfl hd rfl hy k) g
theorem o_irem (X : Stand p l e R s m args below meth c T locs cells slots) (hx : p.tables.exec = Jvm.exec) {x y : Int32} (hd : decode c.code pc = .ok (.irem, 1)) (hy : y ≠ 0) (g : own_Go p.tables e below P (T.setTop (mkF m (pc + 1) Ls (.int (x - x / y * y) :: st)))) : own_Go p.tables e below P (T.setTop (mkF m pc Ls (.int y :: .int x :: st))) := own_st (fun t k => XS.irem X.here hx rfl hd rfl hy k) g
theorem o_ldiv (X : Stand p l e R s m args below meth c T locs cells slots) (hx : p.tables.exec = Jvm.exec) {x y : Int64} (hd : decode c.code pc = .ok (.ldiv, 1)) (hy : y ≠ 0) (g : own_Go p.tables e below P (T.setTop (mkF m (pc + 1) Ls (.long (x / y) :: st)))) : own_Go p.tables e below P (T.setTop (mkF m pc Ls (.long y :: .long x :: st))) := own_st (fun t k => XS.ldiv X.here hx rfl hd rfl hy k) g
theorem o_lrem (X : Stand p l e R s m args below meth c T locs cells slots) (hx : p.tables.exec = Jvm.exec) {x y : Int64} (hd : decode c.code pc = .ok (.lrem, 1)) (hy : y ≠ 0) (g : own_Go p.tables e below P (T.setTop (mkF m (pc + 1) Ls (.long (x - x / y * y) :: st)))) : own_Go p.tables e below P (T.setTop (mkF m pc Ls (.long y :: .long x :: st))) := own_st (fun t k => XS.lrem X.here hx rfl hd rfl hy k) g
theorem o_ineg (X : Stand p l e R s m args below meth c T locs cells slots) (hx : p.tables.exec = Jvm.exec) {x : Int32} (hd : decode c.code pc = .ok (.ineg, 1)) (g : own_Go p.tables e below P (T.setTop (mkF m (pc + 1) Ls (.int ((-x)) :: st)))) : own_Go p.tables e below P (T.setTop (mkF m pc Ls (.int x :: st))) := own_st (fun t k => XS.ineg X.here hx rfl hd rfl k) g
theorem o_lneg (X : Stand p l e R s m args below meth c T locs cells slots) (hx : p.tables.exec = Jvm.exec) {x : Int64} (hd : decode c.code pc = .ok (.lneg, 1)) (g : own_Go p.tables e below P (T.setTop (mkF m (pc + 1) Ls (.long ((-x)) :: st)))) : own_Go p.tables e below P (T.setTop (mkF m pc Ls (.long x :: st))) := own_st (fun t k => XS.lneg X.here hx rfl hd rfl k) g
theorem o_i2l (X : Stand p l e R s m args below meth c T locs cells slots) (hx : p.tables.exec = Jvm.exec) {x : Int32} (hd : decode c.code pc = .ok (.i2l, 1)) (g : own_Go p.tables e below P (T.setTop (mkF m (pc + 1) Ls (.long (x.toInt64) :: st)))) : own_Go p.tables e below P (T.setTop (mkF m pc Ls (.int x :: st))) := own_st (fun t k => XS.i2l X.here hx rfl hd rfl k) g
theorem o_l2i (X : Stand p l e R s m args below meth c T locs cells slots) (hx : p.tables.exec = Jvm.exec) {x : Int64} (hd : decode c.code pc = .ok (.l2i, 1)) (g : own_Go p.tables e below P (T.setTop (mkF m (pc + 1) Ls (.int (x.toInt32) :: st)))) : own_Go p.tables e below P (T.setTop (mkF m pc Ls (.long x :: st))) := own_st (fun t k => XS.l2i X.here hx rfl hd rfl k) g
theorem o_i2b (X : Stand p l e R s m args below meth c T locs cells slots) (hx : p.tables.exec = Jvm.exec) {x : Int32} (hd : decode c.code pc = .ok (.i2b, 1)) (g : own_Go p.tables e below P (T.setTop (mkF m (pc + 1) Ls (.int (x.toInt8.toInt32) :: st)))) : own_Go p.tables e below P (T.setTop (mkF m pc Ls (.int x :: st))) := own_st (fun t k => XS.i2b X.here hx rfl hd rfl k) g
theorem o_i2s (X : Stand p l e R s m args below meth c T locs cells slots) (hx : p.tables.exec = Jvm.exec) {x : Int32} (hd : decode c.code pc = .ok (.i2s, 1)) (g : own_Go p.tables e below P (T.setTop (mkF m (pc + 1) Ls (.int (x.toInt16.toInt32) :: st)))) : own_Go p.tables e below P (T.setTop (mkF m pc Ls (.int x :: st))) := own_st (fun t k => XS.i2s X.here hx rfl hd rfl k) g
theorem o_i2c (X : Stand p l e R s m args below meth c T locs cells slots) (hx : p.tables.exec = Jvm.exec) {x : Int32} (hd : decode c.code pc = .ok (.i2c, 1)) (g : own_Go p.tables e below P (T.setTop (mkF m (pc + 1) Ls (.int (x.toUInt32.toUInt16.toUInt32.toInt32) :: st)))) : own_Go p.tables e below P (T.setTop (mkF m pc Ls (.int x :: st))) := own_st (fun t k => XS.i2c X.here hx rfl hd rfl k) g
theorem o_ishl (X : Stand p l e R s m args below meth c T locs cells slots) (hx : p.tables.exec = Jvm.exec) {x : Int32} {y : Int32} (hd : decode c.code pc = .ok (.ishl, 1)) (g : own_Go p.tables e below P (T.setTop (mkF m (pc + 1) Ls (.int (x <<< (y &&& 31)) :: st)))) : own_Go p.tables e below P (T.setTop (mkF m pc Ls (.int y :: .int x :: st))) := own_st (fun t k => XS.ishl X.here hx rfl hd rfl k) g
theorem o_ishr (X : Stand p l e R s m args below meth c T locs cells slots) (hx : p.tables.exec = Jvm.exec) {x : Int32} {y : Int32} (hd : decode c.code pc = .ok (.ishr, 1)) (g : own_Go p.tables e below P (T.setTop (mkF m (pc + 1) Ls (.int (x >>> (y &&& 31)) :: st)))) : own_Go p.tables e below P (T.setTop (mkF m pc Ls (.int y :: .int x :: st))) := own_st (fun t k => XS.ishr X.here hx rfl hd rfl k) g
theorem o_iushr (X : Stand p l e R s m args below meth c T locs cells slots) (hx : p.tables.exec = Jvm.exec) {x : Int32} {y : Int32} (hd : decode c.code pc = .ok (.iushr, 1)) (g : own_Go p.tables e below P (T.setTop (mkF m (pc + 1) Ls (.int ((x.toUInt32 >>> (y &&& 31).toUInt32).toInt32) :: st)))) : own_Go p.tables e below P (T.setTop (mkF m pc Ls (.int y :: .int x :: st))) := own_st (fun t k => XS.iushr X.here hx rfl hd rfl k) g
theorem o_lshl (X : Stand p l e R s m args below meth c T locs cells slots) (hx : p.tables.exec = Jvm.exec) {x : Int64} {y : Int32} (hd : decode c.code pc = .ok (.lshl, 1)) (g : own_Go p.tables e below P (T.setTop (mkF m (pc + 1) Ls (.long (x <<< (y &&& 0x3f).toInt64) :: st)))) : own_Go p.tables e below P (T.setTop (mkF m pc Ls (.int y :: .long x :: st))) := own_st (fun t k => XS.lshl X.here hx rfl hd rfl k) g
theorem o_lshr (X : Stand p l e R s m args below meth c T locs cells slots) (hx : p.tables.exec = Jvm.exec) {x : Int64} {y : Int32} (hd : decode c.code pc = .ok (.lshr, 1)) (g : own_Go p.tables e below P (T.setTop (mkF m (pc + 1) Ls (.long (x >>> (y &&& 0x3f).toInt64) :: st)))) : own_Go p.tables e below P (T.setTop (mkF m pc Ls (.int y :: .long x :: st))) := own_st (fun t k => XS.lshr X.here hx rfl hd rfl k) g
theorem o_lushr (X : Stand p l e R s m args below meth c T locs cells slots) (hx : p.tables.exec = Jvm.exec) {x : Int64} {y : Int32} (hd : decode c.code pc = .ok (.lushr, 1)) (g : own_Go p.tables e below P (T.setTop (mkF m (pc + 1) Ls (.long ((x.toUInt64 >>> (y &&& 0x3f).toInt64.toUInt64).toInt64) :: st)))) : own_Go p.tables e below P (T.setTop (mkF m pc Ls (.int y :: .long x :: st))) := own_st (fun t k => XS.lushr X.here hx rfl hd rfl k) g
theorem o_lcmp (X : Stand p l e R s m args below meth c T locs cells slots) (hx : p.tables.exec = Jvm.exec) {x y : Int64} (hd : decode c.code pc = .ok (.lcmp, 1)) (g : own_Go p.tables e below P (T.setTop (mkF m (pc + 1) Ls (.int (lcmpW x y) :: st)))) : own_Go p.tables e below P (T.setTop (mkF m pc Ls (.long y :: .long x :: st))) := own_st (fun t k => XS.lcmp X.here hx rfl hd rfl k) g
theorem o_iinc (X : Stand p l e R s m args below meth c T locs cells slots) (hx : p.tables.exec = Jvm.exec) {k : Nat} {cst : Int} {x : Int32} {l' : Array Slot} (hd : decode c.code pc = .ok (.iinc k cst, 3)) (hl : Ls[k]? = some (.val (.int x))) (hl' : storeLocals Ls k (.int (x + Int32.ofInt cst)) = some l') (g : own_Go p.tables e below P (T.setTop (mkF m (pc + 3) l' st))) : own_Go p.tables e below P (T.setTop (mkF m pc Ls st)) := own_st (fun t k => XS.iinc X.here hx rfl hd hl hl' k) g
theorem o_dup (X : Stand p l e R s m args below meth c T locs cells slots) (hx : p.tables.exec = Jvm.exec) {x : Value} (hd : decode c.code pc = .ok (.dup, 1)) (hc : x.category = 1) (g : own_Go p.tables e below P (T.setTop (mkF m (pc + 1) Ls (x :: x :: st)))) : own_Go p.tables e below P (T.setTop (mkF m pc Ls (x :: st))) := own_st (fun t k => XS.dup X.here hx rfl hd rfl hc k) g
theorem o_pop (X : Stand p l e R s m args below meth c T locs cells slots) (hx : p.tables.exec = Jvm.exec) {x : Value} (hd : decode c.code pc = .ok (.pop, 1)) (hc : x.category = 1) (g : own_Go p.tables e below P (T.setTop (mkF m (pc + 1) Ls st))) : own_Go p.tables e below P (T.setTop (mkF m pc Ls (x :: st))) := own_st (fun t k => XS.pop X.here hx rfl hd rfl hc k) g
theorem o_dupX1 (X : Stand p l e R s m args below meth c T locs cells slots) (hx : p.tables.exec = Jvm.exec) {x y : Value} (hd : decode c.code pc = .ok (.dup_x1, 1)) (hc : x.category = 1) (hc' : y.category = 1) (g : own_Go p.tables e below P (T.setTop (mkF m (pc + 1) Ls (x :: y :: x :: st)))) : own_Go p.tables e below P (T.setTop (mkF m pc Ls (x :: y :: st))) := own_st (fun t k => XS.dupX1 X.here hx rfl hd rfl hc hc' k) g
theorem o_dup2 (X : Stand p l e R s m args below meth c T locs cells slots) (hx : p.tables.exec = Jvm.exec) {x y : Value} (hd : decode c.code pc = .ok (.dup2, 1)) (hc : x.category = 1) (hc' : y.category = 1) (g : own_Go p.tables e below P (T.setTop (mkF m (pc + 1) Ls (x :: y :: x :: y :: st)))) : own_Go p.tables e below P (T.setTop (mkF m pc Ls (x :: y :: st))) := own_st (fun t k => Jvm.Free.XT.dup2 X.here hx rfl hd rfl hc hc' k) g
theorem o_goto (X : Stand p l e R s m args below meth c T locs cells slots) (hx : p.tables.exec = Jvm.exec) {o : Int} {pc' : Nat} (hd : decode c.code pc = .ok (.goto o, 3)) (ho : 0 ≤ (pc : Int) + o) (hp : ((pc : Int) + o).toNat = pc') (g : own_Go p.tables e below P (T.setTop (mkF m pc' Ls st))) : own_Go p.tables e below P (T.setTop (mkF m pc Ls st)) := own_st (fun t k => XS.goto X.here hx rfl rfl hd ho hp k) g
theorem o_ifYes (X : Stand p l e R s m args below meth c T locs cells slots) (hx : p.tables.exec = Jvm.exec) {cd : ClassFile.Cond} {x : Int32} {o : Int} {pc' : Nat} (hd : decode c.code pc = .ok (.ifCond cd o, 3)) (hc : if_icmp.holds cd x 0 = true) (ho : 0 ≤ (pc : Int) + o) (hp : ((pc : Int) + o).toNat = pc') (g : own_Go p.tables e below P (T.setTop (mkF m pc' Ls st))) : own_Go p.tables e below P (T.setTop (mkF m pc Ls (.int x :: st))) := own_st (fun t k => XS.ifYes X.here hx rfl rfl hd rfl ((if0 _ _).trans hc) ho hp k) g
theorem o_ifNo (X : Stand p l e R s m args below meth c T locs cells slots) (hx : p.tables.exec = Jvm.exec) {cd : ClassFile.Cond} {x : Int32} {o : Int} (hd : decode c.code pc = .ok (.ifCond cd o, 3)) (hc : if_icmp.holds cd x 0 = false) (g : own_Go p.tables e below P (T.setTop (mkF m (pc + 3) Ls st))) : own_Go p.tables e below P (T.setTop (mkF m pc Ls (.int x :: st))) := own_st (fun t k => XS.ifNo X.here hx rfl hd rfl ((if0 _ _).trans hc) k) g
theorem o_icmpYes (X : Stand p l e R s m args below meth c T locs cells slots) (hx : p.tables.exec = Jvm.exec) {cd : ClassFile.Cond} {x y : Int32} {o : Int} {pc' : Nat} (hd : decode c.code pc = .ok (.if_icmp cd o, 3)) (hc : if_icmp.holds cd x y = true) (ho : 0 ≤ (pc : Int) + o) (hp : ((pc : Int) + o).toNat = pc') (g : own_Go p.tables e below P (T.setTop (mkF m pc' Ls st))) : own_Go p.tables e below P (T.setTop (mkF m pc Ls (.int y :: .int x :: st))) := own_st (fun t k => XS.icmpYes X.here hx rfl rfl hd rfl hc ho hp k) g
theorem o_icmpNo (X : Stand p l e R s m args below meth c T locs cells slots) (hx : p.tables.exec = Jvm.exec) {cd : ClassFile.Cond} {x y : Int32} {o : Int} (hd : decode c.code pc = .ok (.if_icmp cd o, 3)) (hc : if_icmp.holds cd x y = false) (g : own_Go p.tables e below P (T.setTop (mkF m (pc + 3) Ls st))) : own_Go p.tables e below P (T.setTop (mkF m pc Ls (.int y :: .int x :: st))) := own_st (fun t k => XS.icmpNo X.here hx rfl hd rfl hc k) g
theorem o_ifnullYes (X : Stand p l e R s m args below meth c T locs cells slots) (hx : p.tables.exec = Jvm.exec) {o : Int} {pc' : Nat} (hd : decode c.code pc = .ok (.ifnull o, 3)) (ho : 0 ≤ (pc : Int) + o) (hp : ((pc : Int) + o).toNat = pc') (g : own_Go p.tables e below P (T.setTop (mkF m pc' Ls st))) : own_Go p.tables e below P (T.setTop (mkF m pc Ls (.null :: st))) := own_st (fun t k => XS.ifnullYes X.here hx rfl rfl hd rfl ho hp k) g
theorem o_ifnullNo (X : Stand p l e R s m args below meth c T locs cells slots) (hx : p.tables.exec = Jvm.exec) {o : Int} {b : Addr} (hd : decode c.code pc = .ok (.ifnull o, 3)) (g : own_Go p.tables e below P (T.setTop (mkF m (pc + 3) Ls st))) : own_Go p.tables e below P (T.setTop (mkF m pc Ls (.ref b :: st))) := own_st (fun t k => XS.ifnullNo X.here hx rfl hd rfl k) g
theorem o_ifnonnullNo (X : Stand p l e R s m args below meth c T locs cells slots) (hx : p.tables.exec = Jvm.exec) {o : Int} (hd : decode c.code pc = .ok (.ifnonnull o, 3)) (g : own_Go p.tables e below P (T.setTop (mkF m (pc + 3) Ls st))) : own_Go p.tables e below P (T.setTop (mkF m pc Ls (.null :: st))) := own_st (fun t k => XS.ifnonnullNo X.here hx rfl hd rfl k) g
theorem o_ifnonnullYes (X : Stand p l e R s m args below meth c T locs cells slots) (hx : p.tables.exec = Jvm.exec) {o : Int} {b : Addr} {pc' : Nat} (hd : decode c.code pc = .ok (.ifnonnull o, 3)) (ho : 0 ≤ (pc : Int) + o) (hp : ((pc : Int) + o).toNat = pc') (g : own_Go p.tables e below P (T.setTop (mkF m pc' Ls st))) : own_Go p.tables e below P (T.setTop (mkF m pc Ls (.ref b :: st))) := own_st (fun t k => XS.ifnonnullYes X.here hx rfl rfl hd rfl ho hp k) g
theorem o_ldc (X : Stand p l e R s m args below meth c T locs cells slots) (hx : p.tables.exec = Jvm.exec) {own : String} {index : Nat} {v : Int32} (hown : s.vm.findClass own = some m.cls) (hd : decode c.code pc = .ok (.ldc index, 2)) (hk : (Cond.constant own index v).before args s = true) (g : own_Go p.tables e below P (T.setTop (mkF m (pc + 2) Ls (.int v :: st)))) : own_Go p.tables e below P (T.setTop (mkF m pc Ls st)) := own_st (X.ldcInt hx hown hk (g := mkF m pc Ls st) rfl hd) g
theorem o_ldc2 (X : Stand p l e R s m args below meth c T locs cells slots) (hx : p.tables.exec = Jvm.exec) {own : String} {index : Nat} {v : Int64} (hown : s.vm.findClass own = some m.cls) (hd : decode c.code pc = .ok (.ldc2_w index, 3)) (hk : (Cond.constantLong own index v).before args s = true) (g : own_Go p.tables e below P (T.setTop (mkF m (pc + 3) Ls (.long v :: st)))) : own_Go p.tables e below P (T.setTop (mkF m pc Ls st)) := own_st (X.ldc2Long hx hown hk (g := mkF m pc Ls st) rfl hd) g
end Steps2
end Jvm.RoadKit
namespace Jvm.Pilot.@@N@@
open Jvm Jvm.ClassFile Sem Op Lib Jvm.Free Jvm.Stand Jvm.LawKit Jvm.RoadKit Bundle Jvm.Pilot.@@N@@.Jvm.D
theorem own_ge0 {x : Int32} (h : 0 ≤ x.toInt) : ¬ x < 0 := by rw [Int32.lt_iff_toInt_lt]; simp; omega
theorem own_ltI {x y : Int32} (h : x.toInt < y.toInt) : x < y := Int32.lt_iff_toInt_lt.mpr h
theorem own_getD_int : ∀ (vs : List Value), (∀ v ∈ vs, ∃ w, v = Value.int w) → ∀ i, ∃ w, vs.getD i (.int (0 : Int32)) = Value.int w
  | [], _, i => ⟨0, by simp⟩
  | v :: vs, h, 0 => by obtain ⟨w, e⟩ := h v (List.mem_cons_self ..); exact ⟨w, by simp [e]⟩
  | v :: vs, h, i + 1 => by obtain ⟨w, e⟩ := own_getD_int vs (fun u hu => h u (List.mem_cons_of_mem _ hu)) i; exact ⟨w, by simpa using e⟩

def own_isC_42 (p1 : Int32)  : Int32 := (if p1 < (65536 : Int32) then (0 : Int32) else (if (1114111 : Int32) < p1 then (0 : Int32) else (1 : Int32)))
def own_isC_12 (p1 : Int32)  : Int32 := (if p1 = (10 : Int32) then (1 : Int32) else (if p1 = (9 : Int32) then (1 : Int32) else (if p1 = (13 : Int32) then (1 : Int32) else (if p1 < (57344 : Int32) then (own_isC_42 p1) else (if (65533 : Int32) < p1 then (own_isC_42 p1) else (1 : Int32))))))
def own_isC (p1 : Int32)  : Int32 := (if p1 < (32 : Int32) then (own_isC_12 p1) else (if (55295 : Int32) < p1 then (own_isC_12 p1) else (1 : Int32)))
theorem pn_1 : plainName "com/example/libinfoset/libinfoset/model/XmlCharacters" = true := by first | (simp [plainName, overriddenIn]; done) | decide +kernel
theorem d1_42 : decode prog_114_method_3_code 42 = .ok (.iload_n 0, 1) := by decide +kernel
theorem d1_43 : decode prog_114_method_3_code 43 = .ok (.ldc 10, 2) := by decide +kernel
theorem d1_45 : decode prog_114_method_3_code 45 = .ok (.if_icmp .lt 13, 3) := by decide +kernel
theorem d1_58 : decode prog_114_method_3_code 58 = .ok (.iconst 0, 1) := by decide +kernel
theorem d1_59 : decode prog_114_method_3_code 59 = .ok (.ireturn, 1) := by decide +kernel
theorem d1_48 : decode prog_114_method_3_code 48 = .ok (.iload_n 0, 1) := by decide +kernel
theorem d1_49 : decode prog_114_method_3_code 49 = .ok (.ldc 11, 2) := by decide +kernel
theorem d1_51 : decode prog_114_method_3_code 51 = .ok (.if_icmp .gt 7, 3) := by decide +kernel
theorem d1_54 : decode prog_114_method_3_code 54 = .ok (.iconst 1, 1) := by decide +kernel
theorem d1_55 : decode prog_114_method_3_code 55 = .ok (.goto 4, 3) := by decide +kernel
theorem d1_12 : decode prog_114_method_3_code 12 = .ok (.iload_n 0, 1) := by decide +kernel
theorem d1_13 : decode prog_114_method_3_code 13 = .ok (.bipush 10, 2) := by decide +kernel
theorem d1_15 : decode prog_114_method_3_code 15 = .ok (.if_icmp .eq 39, 3) := by decide +kernel
theorem d1_18 : decode prog_114_method_3_code 18 = .ok (.iload_n 0, 1) := by decide +kernel
theorem d1_19 : decode prog_114_method_3_code 19 = .ok (.bipush 9, 2) := by decide +kernel
theorem d1_21 : decode prog_114_method_3_code 21 = .ok (.if_icmp .eq 33, 3) := by decide +kernel
theorem d1_24 : decode prog_114_method_3_code 24 = .ok (.iload_n 0, 1) := by decide +kernel
theorem d1_25 : decode prog_114_method_3_code 25 = .ok (.bipush 13, 2) := by decide +kernel
theorem d1_27 : decode prog_114_method_3_code 27 = .ok (.if_icmp .eq 27, 3) := by decide +kernel
theorem d1_30 : decode prog_114_method_3_code 30 = .ok (.iload_n 0, 1) := by decide +kernel
theorem d1_31 : decode prog_114_method_3_code 31 = .ok (.ldc 8, 2) := by decide +kernel
theorem d1_33 : decode prog_114_method_3_code 33 = .ok (.if_icmp .lt 9, 3) := by decide +kernel
theorem d1_36 : decode prog_114_method_3_code 36 = .ok (.iload_n 0, 1) := by decide +kernel
theorem d1_37 : decode prog_114_method_3_code 37 = .ok (.ldc 9, 2) := by decide +kernel
theorem d1_39 : decode prog_114_method_3_code 39 = .ok (.if_icmp .le 15, 3) := by decide +kernel
theorem d1_0 : decode prog_114_method_3_code 0 = .ok (.iload_n 0, 1) := by decide +kernel
theorem d1_1 : decode prog_114_method_3_code 1 = .ok (.bipush 32, 2) := by decide +kernel
theorem d1_3 : decode prog_114_method_3_code 3 = .ok (.if_icmp .lt 9, 3) := by decide +kernel
theorem d1_6 : decode prog_114_method_3_code 6 = .ok (.iload_n 0, 1) := by decide +kernel
theorem d1_7 : decode prog_114_method_3_code 7 = .ok (.ldc 7, 2) := by decide +kernel
theorem d1_9 : decode prog_114_method_3_code 9 = .ok (.if_icmp .le 45, 3) := by decide +kernel
theorem ef_rm1 (m : MethodId) (p1 : Int32) : entryFrame m #[(.int p1)] 1 = mkF m 0 #[iv p1] [] := by first | (simp [entryFrame, mkF, argsToLocals, Value.category]; done) | rfl
def Q_rm1 (Z : State) (a0 : Array Value) (p1 : Int32)  (h0 : Heap) (n0 : Nat) (v : Option Value) (h : Heap) (L : List Loc) : Prop := v = some (.int (own_isC p1)) ∧ Fr n0 L ∧ h = h0
set_option maxRecDepth 65536 in
set_option maxHeartbeats 40000000 in
theorem rm1 (l : Launch) (Z : State) (a0 : Array Value) (hw : ∀ d ∈ tables_1, d.before a0 Z = true) (ws : List Jvm.Cond) (p1 : Int32)  (h0 : Heap) (n0 : Nat) (Z0 : n0 ≤ h0.size) :
    MetFree l (⟨"com/example/libinfoset/libinfoset/model/XmlCharacters", "isCharacter", "(I)Z"⟩ : MethodName) (head1 (Jvm.Cond.code (⟨"com/example/libinfoset/libinfoset/model/XmlCharacters", "isCharacter", "(I)Z"⟩ : MethodName) prog_114_method_3_code 1 (some .boolean) :: ws) ({ frames := 0, cells := 0, slots := 0, locals := 0 } : Room)) (fun a U => a = #[(.int p1)] ∧ Z.Warmed39 U.vm ∧ U.heap = h0) (fun _ _ _ _ _ => True) (fun _ U o U' => ∃ v L, o = .returned v ∧ Q_rm1 Z a0 p1 h0 n0 v U'.heap L ∧ FrameEnd U o U' L ({ frames := 0, cells := 0, slots := 0, locals := 0 } : Room).cells ({ frames := 0, cells := 0, slots := 0, locals := 0 } : Room).slots) := by
  refine MetFree.of_bodySF (plainFor_of_name pn_1) hisR ?_
  intro p e s m args below meth c s₁ Bd hml0 hP hK
  obtain ⟨rfl, hZ, hh⟩ := hP
  have hx := Bd.exec
  have hby := Bd.bytes
  have hml : c.maxLocals = 1 := hml0
  have hown : s.vm.findClass "com/example/libinfoset/libinfoset/model/XmlCharacters" = some m.cls := findClass_of_methodNamed Bd.named
  have hnm := (name_of_methodNamed Bd.named Bd.method).1
  have hlk : meth.locks = false := BodyLoose.notSynchronized (by assumption)
  have X0 : Stand p l e ({ frames := 0, cells := 0, slots := 0, locals := 0 } : Room) s m #[(.int p1)] below meth c s₁ [] 0 0 := Stand.of_body Bd
  have e0 : s₁.heap = h0 := by rw [← hh, Bd.state]; rfl
  have N0 := Fr.nil n0
  show own_Go p.tables e below (fun o U' => ∃ v L, o = .returned v ∧ Q_rm1 Z a0 p1 h0 n0 v U'.heap L ∧ FrameEnd s o U' L ({ frames := 0, cells := 0, slots := 0, locals := 0 } : Room).cells ({ frames := 0, cells := 0, slots := 0, locals := 0 } : Room).slots) (s₁.setTop (entryFrame m #[(.int p1)] 1))
  refine own_st (fun t k => castTop (ef_rm1 m p1) k) ?_
  have J_own_isC_42 : ∀ (T : State) (locs : List Loc) (X : Stand p l e ({ frames := 0, cells := 0, slots := 0, locals := 0 } : Room) s m #[(.int p1)] below meth c T locs 0 0) (eT : T.heap = h0) (N : Fr n0 locs), own_isC p1 = own_isC_42 p1 → own_Go p.tables e below (fun o U' => ∃ v L, o = .returned v ∧ Q_rm1 Z a0 p1 h0 n0 v U'.heap L ∧ FrameEnd s o U' L ({ frames := 0, cells := 0, slots := 0, locals := 0 } : Room).cells ({ frames := 0, cells := 0, slots := 0, locals := 0 } : Room).slots) (T.setTop (mkF m 42 #[iv p1] [])) := by
    intro T locs X eT N hv
    unfold own_isC_42 at hv
    refine o_iloadN X hx (hb hby d1_42) rfl ?_
    refine o_ldc X hx hown (hb hby d1_43) (mvT hZ (hw _ (List.mem_of_getElem? (i := 17) rfl))) ?_
    by_cases hc45_1 : p1 < (65536 : Int32)
    · have hv2 := hv.trans (if_pos hc45_1)
      refine o_icmpYes X hx (pc' := 58) (hb hby d1_45) (tlt hc45_1).1 (by decide) (by decide) ?_
      refine o_iconst X hx 0 (hb hby d1_58) rfl ?_
      exact own_end X eT (v := some (.int (0 : Int32))) (fun h => by rw [Bd.returns] at h; cases h) hlk (fun fs hr => retN X hx (z := (0 : Int32)) (t := .boolean) Bd.returns (by simp) (hb hby d1_59) hr) (Q := Q_rm1 Z a0 p1 h0 n0) ⟨(congrArg (fun z => some (Value.int z)) hv2.symm), N, rfl⟩ (by decide) (by decide)
    · have hv3 := hv.trans (if_neg hc45_1)
      refine o_icmpNo X hx (hb hby d1_45) (flt hc45_1).1 ?_
      refine o_iloadN X hx (hb hby d1_48) rfl ?_
      refine o_ldc X hx hown (hb hby d1_49) (mvT hZ (hw _ (List.mem_of_getElem? (i := 25) rfl))) ?_
      by_cases hc51_4 : (1114111 : Int32) < p1
      · have hv5 := hv3.trans (if_pos hc51_4)
        refine o_icmpYes X hx (pc' := 58) (hb hby d1_51) (tlt hc51_4).2.2.1 (by decide) (by decide) ?_
        refine o_iconst X hx 0 (hb hby d1_58) rfl ?_
        exact own_end X eT (v := some (.int (0 : Int32))) (fun h => by rw [Bd.returns] at h; cases h) hlk (fun fs hr => retN X hx (z := (0 : Int32)) (t := .boolean) Bd.returns (by simp) (hb hby d1_59) hr) (Q := Q_rm1 Z a0 p1 h0 n0) ⟨(congrArg (fun z => some (Value.int z)) hv5.symm), N, rfl⟩ (by decide) (by decide)
      · have hv6 := hv3.trans (if_neg hc51_4)
        refine o_icmpNo X hx (hb hby d1_51) (flt hc51_4).2.2.1 ?_
        refine o_iconst X hx 1 (hb hby d1_54) rfl ?_
        refine o_goto X hx (pc' := 59) (hb hby d1_55) (by decide) (by decide) ?_
        exact own_end X eT (v := some (.int (1 : Int32))) (fun h => by rw [Bd.returns] at h; cases h) hlk (fun fs hr => retN X hx (z := (1 : Int32)) (t := .boolean) Bd.returns (by simp) (hb hby d1_59) hr) (Q := Q_rm1 Z a0 p1 h0 n0) ⟨(congrArg (fun z => some (Value.int z)) hv6.symm), N, rfl⟩ (by decide) (by decide)
  have J_own_isC_12 : ∀ (T : State) (locs : List Loc) (X : Stand p l e ({ frames := 0, cells := 0, slots := 0, locals := 0 } : Room) s m #[(.int p1)] below meth c T locs 0 0) (eT : T.heap = h0) (N : Fr n0 locs), own_isC p1 = own_isC_12 p1 → own_Go p.tables e below (fun o U' => ∃ v L, o = .returned v ∧ Q_rm1 Z a0 p1 h0 n0 v U'.heap L ∧ FrameEnd s o U' L ({ frames := 0, cells := 0, slots := 0, locals := 0 } : Room).cells ({ frames := 0, cells := 0, slots := 0, locals := 0 } : Room).slots) (T.setTop (mkF m 12 #[iv p1] [])) := by
    intro T locs X eT N hv
    unfold own_isC_12 at hv
    refine o_iloadN X hx (hb hby d1_12) rfl ?_
    refine o_bipush X hx 10 (hb hby d1_13) rfl ?_
    by_cases hc15_7 : p1 = (10 : Int32)
    · have hv8 := hv.trans (if_pos hc15_7)
      refine o_icmpYes X hx (pc' := 54) (hb hby d1_15) (teq hc15_7).1 (by decide) (by decide) ?_
      refine o_iconst X hx 1 (hb hby d1_54) rfl ?_
      refine o_goto X hx (pc' := 59) (hb hby d1_55) (by decide) (by decide) ?_
      exact own_end X eT (v := some (.int (1 : Int32))) (fun h => by rw [Bd.returns] at h; cases h) hlk (fun fs hr => retN X hx (z := (1 : Int32)) (t := .boolean) Bd.returns (by simp) (hb hby d1_59) hr) (Q := Q_rm1 Z a0 p1 h0 n0) ⟨(congrArg (fun z => some (Value.int z)) hv8.symm), N, rfl⟩ (by decide) (by decide)
    · have hv9 := hv.trans (if_neg hc15_7)
      refine o_icmpNo X hx (hb hby d1_15) (feq hc15_7).1 ?_
      refine o_iloadN X hx (hb hby d1_18) rfl ?_
      refine o_bipush X hx 9 (hb hby d1_19) rfl ?_
      by_cases hc21_10 : p1 = (9 : Int32)
      · have hv11 := hv9.trans (if_pos hc21_10)
        refine o_icmpYes X hx (pc' := 54) (hb hby d1_21) (teq hc21_10).1 (by decide) (by decide) ?_
        refine o_iconst X hx 1 (hb hby d1_54) rfl ?_
        refine o_goto X hx (pc' := 59) (hb hby d1_55) (by decide) (by decide) ?_
        exact own_end X eT (v := some (.int (1 : Int32))) (fun h => by rw [Bd.returns] at h; cases h) hlk (fun fs hr => retN X hx (z := (1 : Int32)) (t := .boolean) Bd.returns (by simp) (hb hby d1_59) hr) (Q := Q_rm1 Z a0 p1 h0 n0) ⟨(congrArg (fun z => some (Value.int z)) hv11.symm), N, rfl⟩ (by decide) (by decide)
      · have hv12 := hv9.trans (if_neg hc21_10)
        refine o_icmpNo X hx (hb hby d1_21) (feq hc21_10).1 ?_
        refine o_iloadN X hx (hb hby d1_24) rfl ?_
        refine o_bipush X hx 13 (hb hby d1_25) rfl ?_
        by_cases hc27_13 : p1 = (13 : Int32)
        · have hv14 := hv12.trans (if_pos hc27_13)
          refine o_icmpYes X hx (pc' := 54) (hb hby d1_27) (teq hc27_13).1 (by decide) (by decide) ?_
          refine o_iconst X hx 1 (hb hby d1_54) rfl ?_
          refine o_goto X hx (pc' := 59) (hb hby d1_55) (by decide) (by decide) ?_
          exact own_end X eT (v := some (.int (1 : Int32))) (fun h => by rw [Bd.returns] at h; cases h) hlk (fun fs hr => retN X hx (z := (1 : Int32)) (t := .boolean) Bd.returns (by simp) (hb hby d1_59) hr) (Q := Q_rm1 Z a0 p1 h0 n0) ⟨(congrArg (fun z => some (Value.int z)) hv14.symm), N, rfl⟩ (by decide) (by decide)
        · have hv15 := hv12.trans (if_neg hc27_13)
          refine o_icmpNo X hx (hb hby d1_27) (feq hc27_13).1 ?_
          refine o_iloadN X hx (hb hby d1_30) rfl ?_
          refine o_ldc X hx hown (hb hby d1_31) (mvT hZ (hw _ (List.mem_of_getElem? (i := 16) rfl))) ?_
          by_cases hc33_16 : p1 < (57344 : Int32)
          · have hv17 := hv15.trans (if_pos hc33_16)
            refine o_icmpYes X hx (pc' := 42) (hb hby d1_33) (tlt hc33_16).1 (by decide) (by decide) ?_
            exact J_own_isC_42 T _ X eT N hv17
          · have hv18 := hv15.trans (if_neg hc33_16)
            refine o_icmpNo X hx (hb hby d1_33) (flt hc33_16).1 ?_
            refine o_iloadN X hx (hb hby d1_36) rfl ?_
            refine o_ldc X hx hown (hb hby d1_37) (mvT hZ (hw _ (List.mem_of_getElem? (i := 24) rfl))) ?_
            by_cases hc39_19 : (65533 : Int32) < p1
            · have hv20 := hv18.trans (if_pos hc39_19)
              refine o_icmpNo X hx (hb hby d1_39) (tlt hc39_19).2.2.2 ?_
              exact J_own_isC_42 T _ X eT N hv20
            · have hv21 := hv18.trans (if_neg hc39_19)
              refine o_icmpYes X hx (pc' := 54) (hb hby d1_39) (flt hc39_19).2.2.2 (by decide) (by decide) ?_
              refine o_iconst X hx 1 (hb hby d1_54) rfl ?_
              refine o_goto X hx (pc' := 59) (hb hby d1_55) (by decide) (by decide) ?_
              exact own_end X eT (v := some (.int (1 : Int32))) (fun h => by rw [Bd.returns] at h; cases h) hlk (fun fs hr => retN X hx (z := (1 : Int32)) (t := .boolean) Bd.returns (by simp) (hb hby d1_59) hr) (Q := Q_rm1 Z a0 p1 h0 n0) ⟨(congrArg (fun z => some (Value.int z)) hv21.symm), N, rfl⟩ (by decide) (by decide)
  have hv : own_isC p1 = (if p1 < (32 : Int32) then (own_isC_12 p1) else (if (55295 : Int32) < p1 then (own_isC_12 p1) else (1 : Int32))) := rfl
  show own_Go _ _ _ _ (s₁.setTop (mkF m 0 #[iv p1] []))
  refine o_iloadN X0 hx (hb hby d1_0) rfl ?_
  refine o_bipush X0 hx 32 (hb hby d1_1) rfl ?_
  by_cases hc3_22 : p1 < (32 : Int32)
  · have hv23 := hv.trans (if_pos hc3_22)
    refine o_icmpYes X0 hx (pc' := 12) (hb hby d1_3) (tlt hc3_22).1 (by decide) (by decide) ?_
    exact J_own_isC_12 s₁ _ X0 e0 N0 hv23
  · have hv24 := hv.trans (if_neg hc3_22)
    refine o_icmpNo X0 hx (hb hby d1_3) (flt hc3_22).1 ?_
    refine o_iloadN X0 hx (hb hby d1_6) rfl ?_
    refine o_ldc X0 hx hown (hb hby d1_7) (mvT hZ (hw _ (List.mem_of_getElem? (i := 23) rfl))) ?_
    by_cases hc9_25 : (55295 : Int32) < p1
    · have hv26 := hv24.trans (if_pos hc9_25)
      refine o_icmpNo X0 hx (hb hby d1_9) (tlt hc9_25).2.2.2 ?_
      exact J_own_isC_12 s₁ _ X0 e0 N0 hv26
    · have hv27 := hv24.trans (if_neg hc9_25)
      refine o_icmpYes X0 hx (pc' := 54) (hb hby d1_9) (flt hc9_25).2.2.2 (by decide) (by decide) ?_
      refine o_iconst X0 hx 1 (hb hby d1_54) rfl ?_
      refine o_goto X0 hx (pc' := 59) (hb hby d1_55) (by decide) (by decide) ?_
      exact own_end X0 e0 (v := some (.int (1 : Int32))) (fun h => by rw [Bd.returns] at h; cases h) hlk (fun fs hr => retN X0 hx (z := (1 : Int32)) (t := .boolean) Bd.returns (by simp) (hb hby d1_59) hr) (Q := Q_rm1 Z a0 p1 h0 n0) ⟨(congrArg (fun z => some (Value.int z)) hv27.symm), N0, rfl⟩ (by decide) (by decide)
def own_exc_28 (p1 : Int32)  : Int32 := (if p1 = (65534 : Int32) then (1 : Int32) else (if p1 = (65535 : Int32) then (1 : Int32) else (if p1 < (32 : Int32) then (if p1 = (9 : Int32) then (0 : Int32) else (if p1 = (10 : Int32) then (0 : Int32) else (if p1 = (13 : Int32) then (0 : Int32) else (1 : Int32)))) else (0 : Int32))))
def own_exc (p1 : Int32)  : Int32 := (if p1 < (0 : Int32) then (1 : Int32) else (if (1114111 : Int32) < p1 then (1 : Int32) else (if p1 < (55296 : Int32) then (own_exc_28 p1) else (if (57343 : Int32) < p1 then (own_exc_28 p1) else (1 : Int32)))))
theorem pn_2 : plainName "com/example/libinfoset/libinfoset/model/XmlCharactersIsCharacterPinLaw" = true := by first | (simp [plainName, overriddenIn]; done) | decide +kernel
theorem d2_28 : decode method_3_code 28 = .ok (.iload_n 0, 1) := by decide +kernel
theorem d2_29 : decode method_3_code 29 = .ok (.ldc 12, 2) := by decide +kernel
theorem d2_31 : decode method_3_code 31 = .ok (.if_icmp .eq 9, 3) := by decide +kernel
theorem d2_40 : decode method_3_code 40 = .ok (.iconst 1, 1) := by decide +kernel
theorem d2_41 : decode method_3_code 41 = .ok (.ireturn, 1) := by decide +kernel
theorem d2_34 : decode method_3_code 34 = .ok (.iload_n 0, 1) := by decide +kernel
theorem d2_35 : decode method_3_code 35 = .ok (.ldc 31, 2) := by decide +kernel
theorem d2_37 : decode method_3_code 37 = .ok (.if_icmp .ne 5, 3) := by decide +kernel
theorem d2_42 : decode method_3_code 42 = .ok (.iload_n 0, 1) := by decide +kernel
theorem d2_43 : decode method_3_code 43 = .ok (.bipush 32, 2) := by decide +kernel
theorem d2_45 : decode method_3_code 45 = .ok (.if_icmp .ge 27, 3) := by decide +kernel
theorem d2_48 : decode method_3_code 48 = .ok (.iload_n 0, 1) := by decide +kernel
theorem d2_49 : decode method_3_code 49 = .ok (.bipush 9, 2) := by decide +kernel
theorem d2_51 : decode method_3_code 51 = .ok (.if_icmp .eq 19, 3) := by decide +kernel
theorem d2_70 : decode method_3_code 70 = .ok (.iconst 0, 1) := by decide +kernel
theorem d2_71 : decode method_3_code 71 = .ok (.ireturn, 1) := by decide +kernel
theorem d2_54 : decode method_3_code 54 = .ok (.iload_n 0, 1) := by decide +kernel
theorem d2_55 : decode method_3_code 55 = .ok (.bipush 10, 2) := by decide +kernel
theorem d2_57 : decode method_3_code 57 = .ok (.if_icmp .eq 13, 3) := by decide +kernel
theorem d2_60 : decode method_3_code 60 = .ok (.iload_n 0, 1) := by decide +kernel
theorem d2_61 : decode method_3_code 61 = .ok (.bipush 13, 2) := by decide +kernel
theorem d2_63 : decode method_3_code 63 = .ok (.if_icmp .eq 7, 3) := by decide +kernel
theorem d2_66 : decode method_3_code 66 = .ok (.iconst 1, 1) := by decide +kernel
theorem d2_67 : decode method_3_code 67 = .ok (.goto 4, 3) := by decide +kernel
theorem d2_72 : decode method_3_code 72 = .ok (.iconst 0, 1) := by decide +kernel
theorem d2_73 : decode method_3_code 73 = .ok (.ireturn, 1) := by decide +kernel
theorem d2_0 : decode method_3_code 0 = .ok (.iload_n 0, 1) := by decide +kernel
theorem d2_1 : decode method_3_code 1 = .ok (.ifCond .ge 5, 3) := by decide +kernel
theorem d2_4 : decode method_3_code 4 = .ok (.iconst 1, 1) := by decide +kernel
theorem d2_5 : decode method_3_code 5 = .ok (.ireturn, 1) := by decide +kernel
theorem d2_6 : decode method_3_code 6 = .ok (.iload_n 0, 1) := by decide +kernel
theorem d2_7 : decode method_3_code 7 = .ok (.ldc 14, 2) := by decide +kernel
theorem d2_9 : decode method_3_code 9 = .ok (.if_icmp .le 5, 3) := by decide +kernel
theorem d2_12 : decode method_3_code 12 = .ok (.iconst 1, 1) := by decide +kernel
theorem d2_13 : decode method_3_code 13 = .ok (.ireturn, 1) := by decide +kernel
theorem d2_14 : decode method_3_code 14 = .ok (.iload_n 0, 1) := by decide +kernel
theorem d2_15 : decode method_3_code 15 = .ok (.ldc 8, 2) := by decide +kernel
theorem d2_17 : decode method_3_code 17 = .ok (.if_icmp .lt 11, 3) := by decide +kernel
theorem d2_20 : decode method_3_code 20 = .ok (.iload_n 0, 1) := by decide +kernel
theorem d2_21 : decode method_3_code 21 = .ok (.ldc 9, 2) := by decide +kernel
theorem d2_23 : decode method_3_code 23 = .ok (.if_icmp .gt 5, 3) := by decide +kernel
theorem d2_26 : decode method_3_code 26 = .ok (.iconst 1, 1) := by decide +kernel
theorem d2_27 : decode method_3_code 27 = .ok (.ireturn, 1) := by decide +kernel
theorem ef_rm2 (m : MethodId) (p1 : Int32) : entryFrame m #[(.int p1)] 1 = mkF m 0 #[iv p1] [] := by first | (simp [entryFrame, mkF, argsToLocals, Value.category]; done) | rfl
def Q_rm2 (Z : State) (a0 : Array Value) (p1 : Int32)  (h0 : Heap) (n0 : Nat) (v : Option Value) (h : Heap) (L : List Loc) : Prop := v = some (.int (own_exc p1)) ∧ Fr n0 L ∧ h = h0
set_option maxRecDepth 65536 in
set_option maxHeartbeats 40000000 in
theorem rm2 (l : Launch) (Z : State) (a0 : Array Value) (hw : ∀ d ∈ tables_1, d.before a0 Z = true) (ws : List Jvm.Cond) (p1 : Int32)  (h0 : Heap) (n0 : Nat) (Z0 : n0 ≤ h0.size) :
    MetFree l (⟨"com/example/libinfoset/libinfoset/model/XmlCharactersIsCharacterPinLaw", "excluded", "(I)Z"⟩ : MethodName) (head1 (Jvm.Cond.code (⟨"com/example/libinfoset/libinfoset/model/XmlCharactersIsCharacterPinLaw", "excluded", "(I)Z"⟩ : MethodName) method_3_code 1 (some .boolean) :: ws) ({ frames := 0, cells := 0, slots := 0, locals := 0 } : Room)) (fun a U => a = #[(.int p1)] ∧ Z.Warmed39 U.vm ∧ U.heap = h0) (fun _ _ _ _ _ => True) (fun _ U o U' => ∃ v L, o = .returned v ∧ Q_rm2 Z a0 p1 h0 n0 v U'.heap L ∧ FrameEnd U o U' L ({ frames := 0, cells := 0, slots := 0, locals := 0 } : Room).cells ({ frames := 0, cells := 0, slots := 0, locals := 0 } : Room).slots) := by
  refine MetFree.of_bodySF (plainFor_of_name pn_2) hisR ?_
  intro p e s m args below meth c s₁ Bd hml0 hP hK
  obtain ⟨rfl, hZ, hh⟩ := hP
  have hx := Bd.exec
  have hby := Bd.bytes
  have hml : c.maxLocals = 1 := hml0
  have hown : s.vm.findClass "com/example/libinfoset/libinfoset/model/XmlCharactersIsCharacterPinLaw" = some m.cls := findClass_of_methodNamed Bd.named
  have hnm := (name_of_methodNamed Bd.named Bd.method).1
  have hlk : meth.locks = false := BodyLoose.notSynchronized (by assumption)
  have X0 : Stand p l e ({ frames := 0, cells := 0, slots := 0, locals := 0 } : Room) s m #[(.int p1)] below meth c s₁ [] 0 0 := Stand.of_body Bd
  have e0 : s₁.heap = h0 := by rw [← hh, Bd.state]; rfl
  have N0 := Fr.nil n0
  show own_Go p.tables e below (fun o U' => ∃ v L, o = .returned v ∧ Q_rm2 Z a0 p1 h0 n0 v U'.heap L ∧ FrameEnd s o U' L ({ frames := 0, cells := 0, slots := 0, locals := 0 } : Room).cells ({ frames := 0, cells := 0, slots := 0, locals := 0 } : Room).slots) (s₁.setTop (entryFrame m #[(.int p1)] 1))
  refine own_st (fun t k => castTop (ef_rm2 m p1) k) ?_
  have J_own_exc_28 : ∀ (T : State) (locs : List Loc) (X : Stand p l e ({ frames := 0, cells := 0, slots := 0, locals := 0 } : Room) s m #[(.int p1)] below meth c T locs 0 0) (eT : T.heap = h0) (N : Fr n0 locs), own_exc p1 = own_exc_28 p1 → own_Go p.tables e below (fun o U' => ∃ v L, o = .returned v ∧ Q_rm2 Z a0 p1 h0 n0 v U'.heap L ∧ FrameEnd s o U' L ({ frames := 0, cells := 0, slots := 0, locals := 0 } : Room).cells ({ frames := 0, cells := 0, slots := 0, locals := 0 } : Room).slots) (T.setTop (mkF m 28 #[iv p1] [])) := by
    intro T locs X eT N hv
    unfold own_exc_28 at hv
    refine o_iloadN X hx (hb hby d2_28) rfl ?_
    refine o_ldc X hx hown (hb hby d2_29) (mvT hZ (hw _ (List.mem_of_getElem? (i := 6) rfl))) ?_
    by_cases hc31_1 : p1 = (65534 : Int32)
    · have hv2 := hv.trans (if_pos hc31_1)
      refine o_icmpYes X hx (pc' := 40) (hb hby d2_31) (teq hc31_1).1 (by decide) (by decide) ?_
      refine o_iconst X hx 1 (hb hby d2_40) rfl ?_
      exact own_end X eT (v := some (.int (1 : Int32))) (fun h => by rw [Bd.returns] at h; cases h) hlk (fun fs hr => retN X hx (z := (1 : Int32)) (t := .boolean) Bd.returns (by simp) (hb hby d2_41) hr) (Q := Q_rm2 Z a0 p1 h0 n0) ⟨(congrArg (fun z => some (Value.int z)) hv2.symm), N, rfl⟩ (by decide) (by decide)
    · have hv3 := hv.trans (if_neg hc31_1)
      refine o_icmpNo X hx (hb hby d2_31) (feq hc31_1).1 ?_
      refine o_iloadN X hx (hb hby d2_34) rfl ?_
      refine o_ldc X hx hown (hb hby d2_35) (mvT hZ (hw _ (List.mem_of_getElem? (i := 22) rfl))) ?_
      by_cases hc37_4 : p1 = (65535 : Int32)
      · have hv5 := hv3.trans (if_pos hc37_4)
        refine o_icmpNo X hx (hb hby d2_37) (teq hc37_4).2 ?_
        refine o_iconst X hx 1 (hb hby d2_40) rfl ?_
        exact own_end X eT (v := some (.int (1 : Int32))) (fun h => by rw [Bd.returns] at h; cases h) hlk (fun fs hr => retN X hx (z := (1 : Int32)) (t := .boolean) Bd.returns (by simp) (hb hby d2_41) hr) (Q := Q_rm2 Z a0 p1 h0 n0) ⟨(congrArg (fun z => some (Value.int z)) hv5.symm), N, rfl⟩ (by decide) (by decide)
      · have hv6 := hv3.trans (if_neg hc37_4)
        refine o_icmpYes X hx (pc' := 42) (hb hby d2_37) (feq hc37_4).2 (by decide) (by decide) ?_
        refine o_iloadN X hx (hb hby d2_42) rfl ?_
        refine o_bipush X hx 32 (hb hby d2_43) rfl ?_
        by_cases hc45_7 : p1 < (32 : Int32)
        · have hv8 := hv6.trans (if_pos hc45_7)
          refine o_icmpNo X hx (hb hby d2_45) (tlt hc45_7).2.1 ?_
          refine o_iloadN X hx (hb hby d2_48) rfl ?_
          refine o_bipush X hx 9 (hb hby d2_49) rfl ?_
          by_cases hc51_9 : p1 = (9 : Int32)
          · have hv10 := hv8.trans (if_pos hc51_9)
            refine o_icmpYes X hx (pc' := 70) (hb hby d2_51) (teq hc51_9).1 (by decide) (by decide) ?_
            refine o_iconst X hx 0 (hb hby d2_70) rfl ?_
            exact own_end X eT (v := some (.int (0 : Int32))) (fun h => by rw [Bd.returns] at h; cases h) hlk (fun fs hr => retN X hx (z := (0 : Int32)) (t := .boolean) Bd.returns (by simp) (hb hby d2_71) hr) (Q := Q_rm2 Z a0 p1 h0 n0) ⟨(congrArg (fun z => some (Value.int z)) hv10.symm), N, rfl⟩ (by decide) (by decide)
          · have hv11 := hv8.trans (if_neg hc51_9)
            refine o_icmpNo X hx (hb hby d2_51) (feq hc51_9).1 ?_
            refine o_iloadN X hx (hb hby d2_54) rfl ?_
            refine o_bipush X hx 10 (hb hby d2_55) rfl ?_
            by_cases hc57_12 : p1 = (10 : Int32)
            · have hv13 := hv11.trans (if_pos hc57_12)
              refine o_icmpYes X hx (pc' := 70) (hb hby d2_57) (teq hc57_12).1 (by decide) (by decide) ?_
              refine o_iconst X hx 0 (hb hby d2_70) rfl ?_
              exact own_end X eT (v := some (.int (0 : Int32))) (fun h => by rw [Bd.returns] at h; cases h) hlk (fun fs hr => retN X hx (z := (0 : Int32)) (t := .boolean) Bd.returns (by simp) (hb hby d2_71) hr) (Q := Q_rm2 Z a0 p1 h0 n0) ⟨(congrArg (fun z => some (Value.int z)) hv13.symm), N, rfl⟩ (by decide) (by decide)
            · have hv14 := hv11.trans (if_neg hc57_12)
              refine o_icmpNo X hx (hb hby d2_57) (feq hc57_12).1 ?_
              refine o_iloadN X hx (hb hby d2_60) rfl ?_
              refine o_bipush X hx 13 (hb hby d2_61) rfl ?_
              by_cases hc63_15 : p1 = (13 : Int32)
              · have hv16 := hv14.trans (if_pos hc63_15)
                refine o_icmpYes X hx (pc' := 70) (hb hby d2_63) (teq hc63_15).1 (by decide) (by decide) ?_
                refine o_iconst X hx 0 (hb hby d2_70) rfl ?_
                exact own_end X eT (v := some (.int (0 : Int32))) (fun h => by rw [Bd.returns] at h; cases h) hlk (fun fs hr => retN X hx (z := (0 : Int32)) (t := .boolean) Bd.returns (by simp) (hb hby d2_71) hr) (Q := Q_rm2 Z a0 p1 h0 n0) ⟨(congrArg (fun z => some (Value.int z)) hv16.symm), N, rfl⟩ (by decide) (by decide)
              · have hv17 := hv14.trans (if_neg hc63_15)
                refine o_icmpNo X hx (hb hby d2_63) (feq hc63_15).1 ?_
                refine o_iconst X hx 1 (hb hby d2_66) rfl ?_
                refine o_goto X hx (pc' := 71) (hb hby d2_67) (by decide) (by decide) ?_
                exact own_end X eT (v := some (.int (1 : Int32))) (fun h => by rw [Bd.returns] at h; cases h) hlk (fun fs hr => retN X hx (z := (1 : Int32)) (t := .boolean) Bd.returns (by simp) (hb hby d2_71) hr) (Q := Q_rm2 Z a0 p1 h0 n0) ⟨(congrArg (fun z => some (Value.int z)) hv17.symm), N, rfl⟩ (by decide) (by decide)
        · have hv18 := hv6.trans (if_neg hc45_7)
          refine o_icmpYes X hx (pc' := 72) (hb hby d2_45) (flt hc45_7).2.1 (by decide) (by decide) ?_
          refine o_iconst X hx 0 (hb hby d2_72) rfl ?_
          exact own_end X eT (v := some (.int (0 : Int32))) (fun h => by rw [Bd.returns] at h; cases h) hlk (fun fs hr => retN X hx (z := (0 : Int32)) (t := .boolean) Bd.returns (by simp) (hb hby d2_73) hr) (Q := Q_rm2 Z a0 p1 h0 n0) ⟨(congrArg (fun z => some (Value.int z)) hv18.symm), N, rfl⟩ (by decide) (by decide)
  have hv : own_exc p1 = (if p1 < (0 : Int32) then (1 : Int32) else (if (1114111 : Int32) < p1 then (1 : Int32) else (if p1 < (55296 : Int32) then (own_exc_28 p1) else (if (57343 : Int32) < p1 then (own_exc_28 p1) else (1 : Int32))))) := rfl
  show own_Go _ _ _ _ (s₁.setTop (mkF m 0 #[iv p1] []))
  refine o_iloadN X0 hx (hb hby d2_0) rfl ?_
  by_cases hc1_19 : p1 < (0 : Int32)
  · have hv20 := hv.trans (if_pos hc1_19)
    refine o_ifNo X0 hx (hb hby d2_1) (tlt hc1_19).2.1 ?_
    refine o_iconst X0 hx 1 (hb hby d2_4) rfl ?_
    exact own_end X0 e0 (v := some (.int (1 : Int32))) (fun h => by rw [Bd.returns] at h; cases h) hlk (fun fs hr => retN X0 hx (z := (1 : Int32)) (t := .boolean) Bd.returns (by simp) (hb hby d2_5) hr) (Q := Q_rm2 Z a0 p1 h0 n0) ⟨(congrArg (fun z => some (Value.int z)) hv20.symm), N0, rfl⟩ (by decide) (by decide)
  · have hv21 := hv.trans (if_neg hc1_19)
    refine o_ifYes X0 hx (pc' := 6) (hb hby d2_1) (flt hc1_19).2.1 (by decide) (by decide) ?_
    refine o_iloadN X0 hx (hb hby d2_6) rfl ?_
    refine o_ldc X0 hx hown (hb hby d2_7) (mvT hZ (hw _ (List.mem_of_getElem? (i := 8) rfl))) ?_
    by_cases hc9_22 : (1114111 : Int32) < p1
    · have hv23 := hv21.trans (if_pos hc9_22)
      refine o_icmpNo X0 hx (hb hby d2_9) (tlt hc9_22).2.2.2 ?_
      refine o_iconst X0 hx 1 (hb hby d2_12) rfl ?_
      exact own_end X0 e0 (v := some (.int (1 : Int32))) (fun h => by rw [Bd.returns] at h; cases h) hlk (fun fs hr => retN X0 hx (z := (1 : Int32)) (t := .boolean) Bd.returns (by simp) (hb hby d2_13) hr) (Q := Q_rm2 Z a0 p1 h0 n0) ⟨(congrArg (fun z => some (Value.int z)) hv23.symm), N0, rfl⟩ (by decide) (by decide)
    · have hv24 := hv21.trans (if_neg hc9_22)
      refine o_icmpYes X0 hx (pc' := 14) (hb hby d2_9) (flt hc9_22).2.2.2 (by decide) (by decide) ?_
      refine o_iloadN X0 hx (hb hby d2_14) rfl ?_
      refine o_ldc X0 hx hown (hb hby d2_15) (mvT hZ (hw _ (List.mem_of_getElem? (i := 2) rfl))) ?_
      by_cases hc17_25 : p1 < (55296 : Int32)
      · have hv26 := hv24.trans (if_pos hc17_25)
        refine o_icmpYes X0 hx (pc' := 28) (hb hby d2_17) (tlt hc17_25).1 (by decide) (by decide) ?_
        exact J_own_exc_28 s₁ _ X0 e0 N0 hv26
      · have hv27 := hv24.trans (if_neg hc17_25)
        refine o_icmpNo X0 hx (hb hby d2_17) (flt hc17_25).1 ?_
        refine o_iloadN X0 hx (hb hby d2_20) rfl ?_
        refine o_ldc X0 hx hown (hb hby d2_21) (mvT hZ (hw _ (List.mem_of_getElem? (i := 3) rfl))) ?_
        by_cases hc23_28 : (57343 : Int32) < p1
        · have hv29 := hv27.trans (if_pos hc23_28)
          refine o_icmpYes X0 hx (pc' := 28) (hb hby d2_23) (tlt hc23_28).2.2.1 (by decide) (by decide) ?_
          exact J_own_exc_28 s₁ _ X0 e0 N0 hv29
        · have hv30 := hv27.trans (if_neg hc23_28)
          refine o_icmpNo X0 hx (hb hby d2_23) (flt hc23_28).2.2.1 ?_
          refine o_iconst X0 hx 1 (hb hby d2_26) rfl ?_
          exact own_end X0 e0 (v := some (.int (1 : Int32))) (fun h => by rw [Bd.returns] at h; cases h) hlk (fun fs hr => retN X0 hx (z := (1 : Int32)) (t := .boolean) Bd.returns (by simp) (hb hby d2_27) hr) (Q := Q_rm2 Z a0 p1 h0 n0) ⟨(congrArg (fun z => some (Value.int z)) hv30.symm), N0, rfl⟩ (by decide) (by decide)
theorem own_law (c : Int32) : own_isC c = if own_exc c = (0 : Int32) then (1 : Int32) else (0 : Int32) := by
  have lt : ∀ (n : Int32) (k : Int), n.toInt = k → (c < n) = (c.toInt < k) := fun n k h => by rw [← h]; exact propext Int32.lt_iff_toInt_lt
  have gt : ∀ (n : Int32) (k : Int), n.toInt = k → (n < c) = (k < c.toInt) := fun n k h => by rw [← h]; exact propext Int32.lt_iff_toInt_lt
  have eq : ∀ (n : Int32) (k : Int), n.toInt = k → (c = n) = (c.toInt = k) := fun n k h => by rw [← h]; exact propext Int32.toInt_inj.symm
  have h1 : own_isC_42 c = if 65536 ≤ c.toInt ∧ c.toInt ≤ 1114111 then (1 : Int32) else (0 : Int32) := by
    unfold own_isC_42; simp only [lt 65536 65536 rfl, gt 1114111 1114111 rfl]; repeat' split
    all_goals first | rfl | (exfalso; omega)
  have h2 : own_isC_12 c = if c.toInt = 9 ∨ c.toInt = 10 ∨ c.toInt = 13 ∨ (57344 ≤ c.toInt ∧ c.toInt ≤ 65533) ∨ (65536 ≤ c.toInt ∧ c.toInt ≤ 1114111) then (1 : Int32) else (0 : Int32) := by
    unfold own_isC_12; simp only [h1, eq 10 10 rfl, eq 9 9 rfl, eq 13 13 rfl, lt 57344 57344 rfl, gt 65533 65533 rfl]; repeat' split
    all_goals first | rfl | (exfalso; omega)
  have h3 : own_isC c = if c.toInt = 9 ∨ c.toInt = 10 ∨ c.toInt = 13 ∨ (32 ≤ c.toInt ∧ c.toInt ≤ 55295) ∨ (57344 ≤ c.toInt ∧ c.toInt ≤ 65533) ∨ (65536 ≤ c.toInt ∧ c.toInt ≤ 1114111) then (1 : Int32) else (0 : Int32) := by
    unfold own_isC; simp only [h2, lt 32 32 rfl, gt 55295 55295 rfl]; repeat' split
    all_goals first | rfl | (exfalso; omega)
  have h4 : own_exc_28 c = if c.toInt = 65534 ∨ c.toInt = 65535 ∨ (c.toInt < 32 ∧ c.toInt ≠ 9 ∧ c.toInt ≠ 10 ∧ c.toInt ≠ 13) then (1 : Int32) else (0 : Int32) := by
    unfold own_exc_28; simp only [eq 65534 65534 rfl, eq 65535 65535 rfl, lt 32 32 rfl, eq 9 9 rfl, eq 10 10 rfl, eq 13 13 rfl]; repeat' split
    all_goals first | rfl | (exfalso; omega)
  have h5 : own_exc c = if c.toInt < 0 ∨ 1114111 < c.toInt ∨ (55296 ≤ c.toInt ∧ c.toInt ≤ 57343) ∨ c.toInt = 65534 ∨ c.toInt = 65535 ∨ (c.toInt < 32 ∧ c.toInt ≠ 9 ∧ c.toInt ≠ 10 ∧ c.toInt ≠ 13) then (1 : Int32) else (0 : Int32) := by
    unfold own_exc; simp only [h4, lt 0 0 rfl, gt 1114111 1114111 rfl, lt 55296 55296 rfl, gt 57343 57343 rfl]; repeat' split
    all_goals first | rfl | (exfalso; omega)
  rw [h3, h5]
  split
  · rw [if_pos]; rw [if_neg]; omega
  · rw [if_neg]; rw [if_pos]; decide; omega
theorem own_law_T (c : Int32) (h : own_exc c = (0 : Int32)) : own_isC c = (1 : Int32) := by rw [own_law, if_pos h]
theorem own_law_F (c : Int32) (h : ¬ own_exc c = (0 : Int32)) : own_isC c = (0 : Int32) := by rw [own_law, if_neg h]
theorem own_in16 (y : Int32) : ¬ (y &&& (15 : Int32)) < 0 ∧ (y &&& (15 : Int32)) < (16 : Int32) := by
  have h := c_and y (15 : Int32) (by decide)
  exact ⟨own_ge0 h.1, own_ltI (by have : (15 : Int32).toInt = 15 := rfl; have : (16 : Int32).toInt = 16 := rfl; omega)⟩
theorem pd_1 : parseMethodDescriptor "(I)Z" = some ⟨[.int], some .boolean⟩ := by decide +kernel
theorem ef_rm0 (m : MethodId) (p1 : Int32) (p2 : Int32) : entryFrame m #[(.int p1), (.int p2)] maxLocals = mkF m 0 #[iv p1, iv p2, .unset, .unset] [] := by first | (simp [entryFrame, mkF, argsToLocals, Value.category, maxLocals]; done) | rfl
def Q_rm0 (Z : State) (a0 : Array Value) (p1 : Int32) (p2 : Int32)  (h0 : Heap) (n0 : Nat) (v : Option Value) (h : Heap) (L : List Loc) : Prop := v = some (.int (1 : Int32)) ∧ Fr n0 L ∧ Keep h0 h []
set_option maxRecDepth 65536 in
set_option maxHeartbeats 40000000 in
theorem rm0 (l : Launch) (Z : State) (a0 : Array Value) (hw : ∀ d ∈ tables_1, d.before a0 Z = true) (ws : List Jvm.Cond) (p1 : Int32) (p2 : Int32)  (h0 : Heap) (n0 : Nat) (Z0 : n0 ≤ h0.size) :
    MetFree l x (head1 (Jvm.Cond.code x code maxLocals ret :: ws) room_1) (fun a U => a = #[(.int p1), (.int p2)] ∧ Z.Warmed39 U.vm ∧ U.heap = h0) (fun _ _ _ _ _ => True) (fun _ U o U' => ∃ v L, o = .returned v ∧ Q_rm0 Z a0 p1 p2 h0 n0 v U'.heap L ∧ FrameEnd U o U' L room_1.cells room_1.slots) := by
  refine MetFree.of_bodySF (plainFor_of_name pn_2) hisR ?_
  intro p e s m args below meth c s₁ Bd hml0 hP hK
  obtain ⟨rfl, hZ, hh⟩ := hP
  have hx := Bd.exec
  have hby := Bd.bytes
  have hml : c.maxLocals = 4 := hml0
  have hown : s.vm.findClass "com/example/libinfoset/libinfoset/model/XmlCharactersIsCharacterPinLaw" = some m.cls := findClass_of_methodNamed Bd.named
  have hnm := (name_of_methodNamed Bd.named Bd.method).1
  have hlk : meth.locks = false := BodyLoose.notSynchronized (by assumption)
  have X0 : Stand p l e room_1 s m #[(.int p1), (.int p2)] below meth c s₁ [] 0 0 := Stand.of_body Bd
  have e0 : s₁.heap = h0 := by rw [← hh, Bd.state]; rfl
  have N0 := Fr.nil n0
  show own_Go p.tables e below (fun o U' => ∃ v L, o = .returned v ∧ Q_rm0 Z a0 p1 p2 h0 n0 v U'.heap L ∧ FrameEnd s o U' L room_1.cells room_1.slots) (s₁.setTop (entryFrame m #[(.int p1), (.int p2)] maxLocals))
  refine own_st (fun t k => castTop (ef_rm0 m p1 p2) k) ?_
  show own_Go _ _ _ _ (s₁.setTop (mkF m 0 #[iv p1, iv p2, .unset, .unset] []))
  refine o_bipush X0 hx 16 (hb hby at_0) rfl ?_
  obtain ⟨T1, h1, k1, X1, e1, E1, A1, st1⟩ := newP X0 hx hZ (hw _ (List.mem_of_getElem? (i := 0) rfl)) e0 (g := (mkF m 2 #[iv p1, iv p2, .unset, .unset] [(.int 16)])) rfl (hb hby at_2) rfl (by decide) (cap := 16) (by decide) (by decide) (by decide) (by decide)
  obtain ⟨b1, g1⟩ : ∃ z, z = h0.size := ⟨_, rfl⟩
  rw [← g1] at A1 st1
  have V1 : Arv Z h1 b1 k1 .int (16 : Int32) [(.int (0 : Int32)), (.int (0 : Int32)), (.int (0 : Int32)), (.int (0 : Int32)), (.int (0 : Int32)), (.int (0 : Int32)), (.int (0 : Int32)), (.int (0 : Int32)), (.int (0 : Int32)), (.int (0 : Int32)), (.int (0 : Int32)), (.int (0 : Int32)), (.int (0 : Int32)), (.int (0 : Int32)), (.int (0 : Int32)), (.int (0 : Int32))] (.int (0 : Int32)) := (Arv.new A1 (by decide)).pad (pad_rep [] (.int (0 : Int32)) 16)
  have gg1 : n0 ≤ b1 := Nat.le_trans Z0 (Nat.le_of_eq g1.symm)
  have sz1 : h0.size ≤ b1 := Nat.le_trans (Keep.refl h0 []).1 (Nat.le_of_eq g1.symm)
  refine own_st st1 ?_
  show own_Go _ _ _ _ (T1.setTop (mkF m 4 #[iv p1, iv p2, .unset, .unset] [(.ref b1)]))
  refine o_dup X1 hx (hb hby at_4) rfl ?_
  refine o_iconst X1 hx 0 (hb hby at_5) rfl ?_
  refine o_bipush X1 hx 9 (hb hby at_6) rfl ?_
  obtain ⟨cl2, Ar2, qk2, Sz2, Ng2, Hs2, Gs2⟩ := id V1
  obtain ⟨T3, h3, X3, e3, W3, st3⟩ := stI X1 hx hZ e1 Ar2 (j := (0 : Int32)) (inb_of Sz2 ⟨by decide, by decide⟩) (g := (mkF m 8 #[iv p1, iv p2, .unset, .unset] [(.int 9), (.int 0), (.ref b1), (.ref b1)])) rfl rfl (hb hby at_8)
  refine own_st st3 ?_
  have V3 : Arv Z h3 b1 k1 .int (16 : Int32) [(.int (9 : Int32)), (.int (0 : Int32)), (.int (0 : Int32)), (.int (0 : Int32)), (.int (0 : Int32)), (.int (0 : Int32)), (.int (0 : Int32)), (.int (0 : Int32)), (.int (0 : Int32)), (.int (0 : Int32)), (.int (0 : Int32)), (.int (0 : Int32)), (.int (0 : Int32)), (.int (0 : Int32)), (.int (0 : Int32)), (.int (0 : Int32))] (.int (0 : Int32)) := Arv.set Ar2 qk2 Sz2 Ng2 Hs2 Gs2 rfl W3 0 rfl (Nat.le_of_ble_eq_true rfl)
  have N3 := Fr.snoc X3 N0 gg1
  show own_Go _ _ _ _ (T3.setTop (mkF m 9 #[iv p1, iv p2, .unset, .unset] [(.ref b1)]))
  refine o_dup X3 hx (hb hby at_9) rfl ?_
  refine o_iconst X3 hx 1 (hb hby at_10) rfl ?_
  refine o_bipush X3 hx 10 (hb hby at_11) rfl ?_
  obtain ⟨cl4, Ar4, qk4, Sz4, Ng4, Hs4, Gs4⟩ := id V3
  obtain ⟨T5, h5, X5, e5, W5, st5⟩ := stI X3 hx hZ e3 Ar4 (j := (1 : Int32)) (inb_of Sz4 ⟨by decide, by decide⟩) (g := (mkF m 13 #[iv p1, iv p2, .unset, .unset] [(.int 10), (.int 1), (.ref b1), (.ref b1)])) rfl rfl (hb hby at_13)
  refine own_st st5 ?_
  have V5 : Arv Z h5 b1 k1 .int (16 : Int32) [(.int (9 : Int32)), (.int (10 : Int32)), (.int (0 : Int32)), (.int (0 : Int32)), (.int (0 : Int32)), (.int (0 : Int32)), (.int (0 : Int32)), (.int (0 : Int32)), (.int (0 : Int32)), (.int (0 : Int32)), (.int (0 : Int32)), (.int (0 : Int32)), (.int (0 : Int32)), (.int (0 : Int32)), (.int (0 : Int32)), (.int (0 : Int32))] (.int (0 : Int32)) := Arv.set Ar4 qk4 Sz4 Ng4 Hs4 Gs4 rfl W5 1 rfl (Nat.le_of_ble_eq_true rfl)
  have N5 := Fr.snoc X5 N3 gg1
  show own_Go _ _ _ _ (T5.setTop (mkF m 14 #[iv p1, iv p2, .unset, .unset] [(.ref b1)]))
  refine o_dup X5 hx (hb hby at_14) rfl ?_
  refine o_iconst X5 hx 2 (hb hby at_15) rfl ?_
  refine o_bipush X5 hx 13 (hb hby at_16) rfl ?_
  obtain ⟨cl6, Ar6, qk6, Sz6, Ng6, Hs6, Gs6⟩ := id V5
  obtain ⟨T7, h7, X7, e7, W7, st7⟩ := stI X5 hx hZ e5 Ar6 (j := (2 : Int32)) (inb_of Sz6 ⟨by decide, by decide⟩) (g := (mkF m 18 #[iv p1, iv p2, .unset, .unset] [(.int 13), (.int 2), (.ref b1), (.ref b1)])) rfl rfl (hb hby at_18)
  refine own_st st7 ?_
  have V7 : Arv Z h7 b1 k1 .int (16 : Int32) [(.int (9 : Int32)), (.int (10 : Int32)), (.int (13 : Int32)), (.int (0 : Int32)), (.int (0 : Int32)), (.int (0 : Int32)), (.int (0 : Int32)), (.int (0 : Int32)), (.int (0 : Int32)), (.int (0 : Int32)), (.int (0 : Int32)), (.int (0 : Int32)), (.int (0 : Int32)), (.int (0 : Int32)), (.int (0 : Int32)), (.int (0 : Int32))] (.int (0 : Int32)) := Arv.set Ar6 qk6 Sz6 Ng6 Hs6 Gs6 rfl W7 2 rfl (Nat.le_of_ble_eq_true rfl)
  have N7 := Fr.snoc X7 N5 gg1
  show own_Go _ _ _ _ (T7.setTop (mkF m 19 #[iv p1, iv p2, .unset, .unset] [(.ref b1)]))
  refine o_dup X7 hx (hb hby at_19) rfl ?_
  refine o_iconst X7 hx 3 (hb hby at_20) rfl ?_
  refine o_bipush X7 hx 32 (hb hby at_21) rfl ?_
  obtain ⟨cl8, Ar8, qk8, Sz8, Ng8, Hs8, Gs8⟩ := id V7
  obtain ⟨T9, h9, X9, e9, W9, st9⟩ := stI X7 hx hZ e7 Ar8 (j := (3 : Int32)) (inb_of Sz8 ⟨by decide, by decide⟩) (g := (mkF m 23 #[iv p1, iv p2, .unset, .unset] [(.int 32), (.int 3), (.ref b1), (.ref b1)])) rfl rfl (hb hby at_23)
  refine own_st st9 ?_
  have V9 : Arv Z h9 b1 k1 .int (16 : Int32) [(.int (9 : Int32)), (.int (10 : Int32)), (.int (13 : Int32)), (.int (32 : Int32)), (.int (0 : Int32)), (.int (0 : Int32)), (.int (0 : Int32)), (.int (0 : Int32)), (.int (0 : Int32)), (.int (0 : Int32)), (.int (0 : Int32)), (.int (0 : Int32)), (.int (0 : Int32)), (.int (0 : Int32)), (.int (0 : Int32)), (.int (0 : Int32))] (.int (0 : Int32)) := Arv.set Ar8 qk8 Sz8 Ng8 Hs8 Gs8 rfl W9 3 rfl (Nat.le_of_ble_eq_true rfl)
  have N9 := Fr.snoc X9 N7 gg1
  show own_Go _ _ _ _ (T9.setTop (mkF m 24 #[iv p1, iv p2, .unset, .unset] [(.ref b1)]))
  refine o_dup X9 hx (hb hby at_24) rfl ?_
  refine o_iconst X9 hx 4 (hb hby at_25) rfl ?_
  refine o_ldc X9 hx hown (hb hby at_26) (mvT hZ (hw _ (List.mem_of_getElem? (i := 1) rfl))) ?_
  obtain ⟨cl10, Ar10, qk10, Sz10, Ng10, Hs10, Gs10⟩ := id V9
  obtain ⟨T11, h11, X11, e11, W11, st11⟩ := stI X9 hx hZ e9 Ar10 (j := (4 : Int32)) (inb_of Sz10 ⟨by decide, by decide⟩) (g := (mkF m 28 #[iv p1, iv p2, .unset, .unset] [(.int 55295), (.int 4), (.ref b1), (.ref b1)])) rfl rfl (hb hby at_28)
  refine own_st st11 ?_
  have V11 : Arv Z h11 b1 k1 .int (16 : Int32) [(.int (9 : Int32)), (.int (10 : Int32)), (.int (13 : Int32)), (.int (32 : Int32)), (.int (55295 : Int32)), (.int (0 : Int32)), (.int (0 : Int32)), (.int (0 : Int32)), (.int (0 : Int32)), (.int (0 : Int32)), (.int (0 : Int32)), (.int (0 : Int32)), (.int (0 : Int32)), (.int (0 : Int32)), (.int (0 : Int32)), (.int (0 : Int32))] (.int (0 : Int32)) := Arv.set Ar10 qk10 Sz10 Ng10 Hs10 Gs10 rfl W11 4 rfl (Nat.le_of_ble_eq_true rfl)
  have N11 := Fr.snoc X11 N9 gg1
  show own_Go _ _ _ _ (T11.setTop (mkF m 29 #[iv p1, iv p2, .unset, .unset] [(.ref b1)]))
  refine o_dup X11 hx (hb hby at_29) rfl ?_
  refine o_iconst X11 hx 5 (hb hby at_30) rfl ?_
  refine o_ldc X11 hx hown (hb hby at_31) (mvT hZ (hw _ (List.mem_of_getElem? (i := 2) rfl))) ?_
  obtain ⟨cl12, Ar12, qk12, Sz12, Ng12, Hs12, Gs12⟩ := id V11
  obtain ⟨T13, h13, X13, e13, W13, st13⟩ := stI X11 hx hZ e11 Ar12 (j := (5 : Int32)) (inb_of Sz12 ⟨by decide, by decide⟩) (g := (mkF m 33 #[iv p1, iv p2, .unset, .unset] [(.int 55296), (.int 5), (.ref b1), (.ref b1)])) rfl rfl (hb hby at_33)
  refine own_st st13 ?_
  have V13 : Arv Z h13 b1 k1 .int (16 : Int32) [(.int (9 : Int32)), (.int (10 : Int32)), (.int (13 : Int32)), (.int (32 : Int32)), (.int (55295 : Int32)), (.int (55296 : Int32)), (.int (0 : Int32)), (.int (0 : Int32)), (.int (0 : Int32)), (.int (0 : Int32)), (.int (0 : Int32)), (.int (0 : Int32)), (.int (0 : Int32)), (.int (0 : Int32)), (.int (0 : Int32)), (.int (0 : Int32))] (.int (0 : Int32)) := Arv.set Ar12 qk12 Sz12 Ng12 Hs12 Gs12 rfl W13 5 rfl (Nat.le_of_ble_eq_true rfl)
  have N13 := Fr.snoc X13 N11 gg1
  show own_Go _ _ _ _ (T13.setTop (mkF m 34 #[iv p1, iv p2, .unset, .unset] [(.ref b1)]))
  refine o_dup X13 hx (hb hby at_34) rfl ?_
  refine o_bipush X13 hx 6 (hb hby at_35) rfl ?_
  refine o_ldc X13 hx hown (hb hby at_37) (mvT hZ (hw _ (List.mem_of_getElem? (i := 3) rfl))) ?_
  obtain ⟨cl14, Ar14, qk14, Sz14, Ng14, Hs14, Gs14⟩ := id V13
  obtain ⟨T15, h15, X15, e15, W15, st15⟩ := stI X13 hx hZ e13 Ar14 (j := (6 : Int32)) (inb_of Sz14 ⟨by decide, by decide⟩) (g := (mkF m 39 #[iv p1, iv p2, .unset, .unset] [(.int 57343), (.int 6), (.ref b1), (.ref b1)])) rfl rfl (hb hby at_39)
  refine own_st st15 ?_
  have V15 : Arv Z h15 b1 k1 .int (16 : Int32) [(.int (9 : Int32)), (.int (10 : Int32)), (.int (13 : Int32)), (.int (32 : Int32)), (.int (55295 : Int32)), (.int (55296 : Int32)), (.int (57343 : Int32)), (.int (0 : Int32)), (.int (0 : Int32)), (.int (0 : Int32)), (.int (0 : Int32)), (.int (0 : Int32)), (.int (0 : Int32)), (.int (0 : Int32)), (.int (0 : Int32)), (.int (0 : Int32))] (.int (0 : Int32)) := Arv.set Ar14 qk14 Sz14 Ng14 Hs14 Gs14 rfl W15 6 rfl (Nat.le_of_ble_eq_true rfl)
  have N15 := Fr.snoc X15 N13 gg1
  show own_Go _ _ _ _ (T15.setTop (mkF m 40 #[iv p1, iv p2, .unset, .unset] [(.ref b1)]))
  refine o_dup X15 hx (hb hby at_40) rfl ?_
  refine o_bipush X15 hx 7 (hb hby at_41) rfl ?_
  refine o_ldc X15 hx hown (hb hby at_43) (mvT hZ (hw _ (List.mem_of_getElem? (i := 4) rfl))) ?_
  obtain ⟨cl16, Ar16, qk16, Sz16, Ng16, Hs16, Gs16⟩ := id V15
  obtain ⟨T17, h17, X17, e17, W17, st17⟩ := stI X15 hx hZ e15 Ar16 (j := (7 : Int32)) (inb_of Sz16 ⟨by decide, by decide⟩) (g := (mkF m 45 #[iv p1, iv p2, .unset, .unset] [(.int 57344), (.int 7), (.ref b1), (.ref b1)])) rfl rfl (hb hby at_45)
  refine own_st st17 ?_
  have V17 : Arv Z h17 b1 k1 .int (16 : Int32) [(.int (9 : Int32)), (.int (10 : Int32)), (.int (13 : Int32)), (.int (32 : Int32)), (.int (55295 : Int32)), (.int (55296 : Int32)), (.int (57343 : Int32)), (.int (57344 : Int32)), (.int (0 : Int32)), (.int (0 : Int32)), (.int (0 : Int32)), (.int (0 : Int32)), (.int (0 : Int32)), (.int (0 : Int32)), (.int (0 : Int32)), (.int (0 : Int32))] (.int (0 : Int32)) := Arv.set Ar16 qk16 Sz16 Ng16 Hs16 Gs16 rfl W17 7 rfl (Nat.le_of_ble_eq_true rfl)
  have N17 := Fr.snoc X17 N15 gg1
  show own_Go _ _ _ _ (T17.setTop (mkF m 46 #[iv p1, iv p2, .unset, .unset] [(.ref b1)]))
  refine o_dup X17 hx (hb hby at_46) rfl ?_
  refine o_bipush X17 hx 8 (hb hby at_47) rfl ?_
  refine o_ldc X17 hx hown (hb hby at_49) (mvT hZ (hw _ (List.mem_of_getElem? (i := 5) rfl))) ?_
  obtain ⟨cl18, Ar18, qk18, Sz18, Ng18, Hs18, Gs18⟩ := id V17
  obtain ⟨T19, h19, X19, e19, W19, st19⟩ := stI X17 hx hZ e17 Ar18 (j := (8 : Int32)) (inb_of Sz18 ⟨by decide, by decide⟩) (g := (mkF m 51 #[iv p1, iv p2, .unset, .unset] [(.int 65533), (.int 8), (.ref b1), (.ref b1)])) rfl rfl (hb hby at_51)
  refine own_st st19 ?_
  have V19 : Arv Z h19 b1 k1 .int (16 : Int32) [(.int (9 : Int32)), (.int (10 : Int32)), (.int (13 : Int32)), (.int (32 : Int32)), (.int (55295 : Int32)), (.int (55296 : Int32)), (.int (57343 : Int32)), (.int (57344 : Int32)), (.int (65533 : Int32)), (.int (0 : Int32)), (.int (0 : Int32)), (.int (0 : Int32)), (.int (0 : Int32)), (.int (0 : Int32)), (.int (0 : Int32)), (.int (0 : Int32))] (.int (0 : Int32)) := Arv.set Ar18 qk18 Sz18 Ng18 Hs18 Gs18 rfl W19 8 rfl (Nat.le_of_ble_eq_true rfl)
  have N19 := Fr.snoc X19 N17 gg1
  show own_Go _ _ _ _ (T19.setTop (mkF m 52 #[iv p1, iv p2, .unset, .unset] [(.ref b1)]))
  refine o_dup X19 hx (hb hby at_52) rfl ?_
  refine o_bipush X19 hx 9 (hb hby at_53) rfl ?_
  refine o_ldc X19 hx hown (hb hby at_55) (mvT hZ (hw _ (List.mem_of_getElem? (i := 6) rfl))) ?_
  obtain ⟨cl20, Ar20, qk20, Sz20, Ng20, Hs20, Gs20⟩ := id V19
  obtain ⟨T21, h21, X21, e21, W21, st21⟩ := stI X19 hx hZ e19 Ar20 (j := (9 : Int32)) (inb_of Sz20 ⟨by decide, by decide⟩) (g := (mkF m 57 #[iv p1, iv p2, .unset, .unset] [(.int 65534), (.int 9), (.ref b1), (.ref b1)])) rfl rfl (hb hby at_57)
  refine own_st st21 ?_
  have V21 : Arv Z h21 b1 k1 .int (16 : Int32) [(.int (9 : Int32)), (.int (10 : Int32)), (.int (13 : Int32)), (.int (32 : Int32)), (.int (55295 : Int32)), (.int (55296 : Int32)), (.int (57343 : Int32)), (.int (57344 : Int32)), (.int (65533 : Int32)), (.int (65534 : Int32)), (.int (0 : Int32)), (.int (0 : Int32)), (.int (0 : Int32)), (.int (0 : Int32)), (.int (0 : Int32)), (.int (0 : Int32))] (.int (0 : Int32)) := Arv.set Ar20 qk20 Sz20 Ng20 Hs20 Gs20 rfl W21 9 rfl (Nat.le_of_ble_eq_true rfl)
  have N21 := Fr.snoc X21 N19 gg1
  show own_Go _ _ _ _ (T21.setTop (mkF m 58 #[iv p1, iv p2, .unset, .unset] [(.ref b1)]))
  refine o_dup X21 hx (hb hby at_58) rfl ?_
  refine o_bipush X21 hx 10 (hb hby at_59) rfl ?_
  refine o_ldc X21 hx hown (hb hby at_61) (mvT hZ (hw _ (List.mem_of_getElem? (i := 7) rfl))) ?_
  obtain ⟨cl22, Ar22, qk22, Sz22, Ng22, Hs22, Gs22⟩ := id V21
  obtain ⟨T23, h23, X23, e23, W23, st23⟩ := stI X21 hx hZ e21 Ar22 (j := (10 : Int32)) (inb_of Sz22 ⟨by decide, by decide⟩) (g := (mkF m 63 #[iv p1, iv p2, .unset, .unset] [(.int 65536), (.int 10), (.ref b1), (.ref b1)])) rfl rfl (hb hby at_63)
  refine own_st st23 ?_
  have V23 : Arv Z h23 b1 k1 .int (16 : Int32) [(.int (9 : Int32)), (.int (10 : Int32)), (.int (13 : Int32)), (.int (32 : Int32)), (.int (55295 : Int32)), (.int (55296 : Int32)), (.int (57343 : Int32)), (.int (57344 : Int32)), (.int (65533 : Int32)), (.int (65534 : Int32)), (.int (65536 : Int32)), (.int (0 : Int32)), (.int (0 : Int32)), (.int (0 : Int32)), (.int (0 : Int32)), (.int (0 : Int32))] (.int (0 : Int32)) := Arv.set Ar22 qk22 Sz22 Ng22 Hs22 Gs22 rfl W23 10 rfl (Nat.le_of_ble_eq_true rfl)
  have N23 := Fr.snoc X23 N21 gg1
  show own_Go _ _ _ _ (T23.setTop (mkF m 64 #[iv p1, iv p2, .unset, .unset] [(.ref b1)]))
  refine o_dup X23 hx (hb hby at_64) rfl ?_
  refine o_bipush X23 hx 11 (hb hby at_65) rfl ?_
  refine o_ldc X23 hx hown (hb hby at_67) (mvT hZ (hw _ (List.mem_of_getElem? (i := 8) rfl))) ?_
  obtain ⟨cl24, Ar24, qk24, Sz24, Ng24, Hs24, Gs24⟩ := id V23
  obtain ⟨T25, h25, X25, e25, W25, st25⟩ := stI X23 hx hZ e23 Ar24 (j := (11 : Int32)) (inb_of Sz24 ⟨by decide, by decide⟩) (g := (mkF m 69 #[iv p1, iv p2, .unset, .unset] [(.int 1114111), (.int 11), (.ref b1), (.ref b1)])) rfl rfl (hb hby at_69)
  refine own_st st25 ?_
  have V25 : Arv Z h25 b1 k1 .int (16 : Int32) [(.int (9 : Int32)), (.int (10 : Int32)), (.int (13 : Int32)), (.int (32 : Int32)), (.int (55295 : Int32)), (.int (55296 : Int32)), (.int (57343 : Int32)), (.int (57344 : Int32)), (.int (65533 : Int32)), (.int (65534 : Int32)), (.int (65536 : Int32)), (.int (1114111 : Int32)), (.int (0 : Int32)), (.int (0 : Int32)), (.int (0 : Int32)), (.int (0 : Int32))] (.int (0 : Int32)) := Arv.set Ar24 qk24 Sz24 Ng24 Hs24 Gs24 rfl W25 11 rfl (Nat.le_of_ble_eq_true rfl)
  have N25 := Fr.snoc X25 N23 gg1
  show own_Go _ _ _ _ (T25.setTop (mkF m 70 #[iv p1, iv p2, .unset, .unset] [(.ref b1)]))
  refine o_dup X25 hx (hb hby at_70) rfl ?_
  refine o_bipush X25 hx 12 (hb hby at_71) rfl ?_
  refine o_ldc X25 hx hown (hb hby at_73) (mvT hZ (hw _ (List.mem_of_getElem? (i := 9) rfl))) ?_
  obtain ⟨cl26, Ar26, qk26, Sz26, Ng26, Hs26, Gs26⟩ := id V25
  obtain ⟨T27, h27, X27, e27, W27, st27⟩ := stI X25 hx hZ e25 Ar26 (j := (12 : Int32)) (inb_of Sz26 ⟨by decide, by decide⟩) (g := (mkF m 75 #[iv p1, iv p2, .unset, .unset] [(.int 1114112), (.int 12), (.ref b1), (.ref b1)])) rfl rfl (hb hby at_75)
  refine own_st st27 ?_
  have V27 : Arv Z h27 b1 k1 .int (16 : Int32) [(.int (9 : Int32)), (.int (10 : Int32)), (.int (13 : Int32)), (.int (32 : Int32)), (.int (55295 : Int32)), (.int (55296 : Int32)), (.int (57343 : Int32)), (.int (57344 : Int32)), (.int (65533 : Int32)), (.int (65534 : Int32)), (.int (65536 : Int32)), (.int (1114111 : Int32)), (.int (1114112 : Int32)), (.int (0 : Int32)), (.int (0 : Int32)), (.int (0 : Int32))] (.int (0 : Int32)) := Arv.set Ar26 qk26 Sz26 Ng26 Hs26 Gs26 rfl W27 12 rfl (Nat.le_of_ble_eq_true rfl)
  have N27 := Fr.snoc X27 N25 gg1
  show own_Go _ _ _ _ (T27.setTop (mkF m 76 #[iv p1, iv p2, .unset, .unset] [(.ref b1)]))
  refine o_dup X27 hx (hb hby at_76) rfl ?_
  refine o_bipush X27 hx 13 (hb hby at_77) rfl ?_
  refine o_iconst X27 hx 0 (hb hby at_79) rfl ?_
  obtain ⟨cl28, Ar28, qk28, Sz28, Ng28, Hs28, Gs28⟩ := id V27
  obtain ⟨T29, h29, X29, e29, W29, st29⟩ := stI X27 hx hZ e27 Ar28 (j := (13 : Int32)) (inb_of Sz28 ⟨by decide, by decide⟩) (g := (mkF m 80 #[iv p1, iv p2, .unset, .unset] [(.int 0), (.int 13), (.ref b1), (.ref b1)])) rfl rfl (hb hby at_80)
  refine own_st st29 ?_
  have V29 : Arv Z h29 b1 k1 .int (16 : Int32) [(.int (9 : Int32)), (.int (10 : Int32)), (.int (13 : Int32)), (.int (32 : Int32)), (.int (55295 : Int32)), (.int (55296 : Int32)), (.int (57343 : Int32)), (.int (57344 : Int32)), (.int (65533 : Int32)), (.int (65534 : Int32)), (.int (65536 : Int32)), (.int (1114111 : Int32)), (.int (1114112 : Int32)), (.int (0 : Int32)), (.int (0 : Int32)), (.int (0 : Int32))] (.int (0 : Int32)) := Arv.set Ar28 qk28 Sz28 Ng28 Hs28 Gs28 rfl W29 13 rfl (Nat.le_of_ble_eq_true rfl)
  have N29 := Fr.snoc X29 N27 gg1
  show own_Go _ _ _ _ (T29.setTop (mkF m 81 #[iv p1, iv p2, .unset, .unset] [(.ref b1)]))
  refine o_dup X29 hx (hb hby at_81) rfl ?_
  refine o_bipush X29 hx 14 (hb hby at_82) rfl ?_
  refine o_ldc X29 hx hown (hb hby at_84) (mvT hZ (hw _ (List.mem_of_getElem? (i := 10) rfl))) ?_
  obtain ⟨cl30, Ar30, qk30, Sz30, Ng30, Hs30, Gs30⟩ := id V29
  obtain ⟨T31, h31, X31, e31, W31, st31⟩ := stI X29 hx hZ e29 Ar30 (j := (14 : Int32)) (inb_of Sz30 ⟨by decide, by decide⟩) (g := (mkF m 86 #[iv p1, iv p2, .unset, .unset] [(.int (-2147483648)), (.int 14), (.ref b1), (.ref b1)])) rfl rfl (hb hby at_86)
  refine own_st st31 ?_
  have V31 : Arv Z h31 b1 k1 .int (16 : Int32) [(.int (9 : Int32)), (.int (10 : Int32)), (.int (13 : Int32)), (.int (32 : Int32)), (.int (55295 : Int32)), (.int (55296 : Int32)), (.int (57343 : Int32)), (.int (57344 : Int32)), (.int (65533 : Int32)), (.int (65534 : Int32)), (.int (65536 : Int32)), (.int (1114111 : Int32)), (.int (1114112 : Int32)), (.int (0 : Int32)), (.int (-2147483648 : Int32)), (.int (0 : Int32))] (.int (0 : Int32)) := Arv.set Ar30 qk30 Sz30 Ng30 Hs30 Gs30 rfl W31 14 rfl (Nat.le_of_ble_eq_true rfl)
  have N31 := Fr.snoc X31 N29 gg1
  show own_Go _ _ _ _ (T31.setTop (mkF m 87 #[iv p1, iv p2, .unset, .unset] [(.ref b1)]))
  refine o_dup X31 hx (hb hby at_87) rfl ?_
  refine o_bipush X31 hx 15 (hb hby at_88) rfl ?_
  refine o_ldc X31 hx hown (hb hby at_90) (mvT hZ (hw _ (List.mem_of_getElem? (i := 11) rfl))) ?_
  obtain ⟨cl32, Ar32, qk32, Sz32, Ng32, Hs32, Gs32⟩ := id V31
  obtain ⟨T33, h33, X33, e33, W33, st33⟩ := stI X31 hx hZ e31 Ar32 (j := (15 : Int32)) (inb_of Sz32 ⟨by decide, by decide⟩) (g := (mkF m 92 #[iv p1, iv p2, .unset, .unset] [(.int 2147483647), (.int 15), (.ref b1), (.ref b1)])) rfl rfl (hb hby at_92)
  refine own_st st33 ?_
  have V33 : Arv Z h33 b1 k1 .int (16 : Int32) [(.int (9 : Int32)), (.int (10 : Int32)), (.int (13 : Int32)), (.int (32 : Int32)), (.int (55295 : Int32)), (.int (55296 : Int32)), (.int (57343 : Int32)), (.int (57344 : Int32)), (.int (65533 : Int32)), (.int (65534 : Int32)), (.int (65536 : Int32)), (.int (1114111 : Int32)), (.int (1114112 : Int32)), (.int (0 : Int32)), (.int (-2147483648 : Int32)), (.int (2147483647 : Int32))] (.int (0 : Int32)) := Arv.set Ar32 qk32 Sz32 Ng32 Hs32 Gs32 rfl W33 15 rfl (Nat.le_of_ble_eq_true rfl)
  have N33 := Fr.snoc X33 N31 gg1
  show own_Go _ _ _ _ (T33.setTop (mkF m 93 #[iv p1, iv p2, .unset, .unset] [(.ref b1)]))
  refine o_astoreN X33 hx (hb hby at_93) rfl (l' := #[iv p1, iv p2, rv b1, .unset]) rfl ?_
  refine o_iloadN X33 hx (hb hby at_94) rfl ?_
  refine o_iconst X33 hx 4 (hb hby at_95) rfl ?_
  refine o_iushr X33 hx (hb hby at_96) ?_
  refine o_iconst X33 hx 1 (hb hby at_97) rfl ?_
  refine o_iand X33 hx (hb hby at_98) ?_
  by_cases hc99_34 : (((p2.toUInt32 >>> ((4 : Int32) &&& 31).toUInt32).toInt32) &&& (1 : Int32)) = (0 : Int32)
  · refine o_ifNo X33 hx (hb hby at_99) (teq hc99_34).2 ?_
    refine o_iloadN X33 hx (hb hby at_102) rfl ?_
    refine o_istoreN X33 hx (hb hby at_103) (l' := #[iv p1, iv p2, rv b1, iv p1]) rfl ?_
    refine o_goto X33 hx (pc' := 121) (hb hby at_104) (by decide) (by decide) ?_
    refine o_iloadN X33 hx (hb hby at_121) rfl ?_
    have Zs36 : n0 ≤ h33.size := (Nat.le_trans (Nat.le_trans (Nat.le_trans (Nat.le_trans (Nat.le_trans (Nat.le_trans (Nat.le_trans (Nat.le_trans (Nat.le_trans (Nat.le_trans (Nat.le_trans (Nat.le_trans (Nat.le_trans (Nat.le_trans (Nat.le_trans (Nat.le_trans (Nat.le_trans Z0 E1.1) (Keep.of_wr W3).1) (Keep.of_wr W5).1) (Keep.of_wr W7).1) (Keep.of_wr W9).1) (Keep.of_wr W11).1) (Keep.of_wr W13).1) (Keep.of_wr W15).1) (Keep.of_wr W17).1) (Keep.of_wr W19).1) (Keep.of_wr W21).1) (Keep.of_wr W23).1) (Keep.of_wr W25).1) (Keep.of_wr W27).1) (Keep.of_wr W29).1) (Keep.of_wr W31).1) (Keep.of_wr W33).1)
    obtain ⟨_, _, ⟨T35, L35, k35, n35⟩, -, X35, ⟨Lc35, hQ35, l35, y35, z35⟩, st35⟩ := Jvm.LawKit.callS X33 hx (y := (⟨"com/example/libinfoset/libinfoset/model/XmlCharacters", "isCharacter", "(I)Z"⟩ : MethodName)) hown (mvT hZ (hw _ (List.mem_of_getElem? (i := 12) rfl))) (mvT hZ (hw _ (List.mem_of_getElem? (i := 13) rfl))) (mvT hZ (hw _ (List.mem_of_getElem? (i := 14) rfl))) (mvT hZ (hw _ (List.mem_of_getElem? (i := 15) rfl))) (by decide) (backOf (W := 0) (rm1 l Z a0 hw [] p1  h33 n0 Zs36) hZ (hw _ (List.mem_of_getElem? (i := 15) rfl)) (hw _ (List.mem_of_getElem? (i := 14) rfl)) (by decide) (by decide)) (g := (mkF m 122 #[iv p1, iv p2, rv b1, iv p1] [(.int p1)])) rfl (by rw [hml]; rfl) (argsL := [(.int p1)]) (rest := []) (lenOf pd_1 rfl) rfl (by show 2 * 0 + _ ≤ _; exact Nat.le_of_eq rfl) (hb hby at_122) (fun _ _ => ⟨rfl, e33, (by decide : 1 + 0 ≤ _), (by decide : 16 + 0 ≤ _)⟩)
    dsimp only [Pt.U, Pt.locs, Pt.cells, Pt.slots] at X35 l35 y35 z35 st35 hQ35
    subst l35 y35 z35
    obtain ⟨rfl, Nq35, e35⟩ := hQ35
    have N35 := Fr.app N33 Nq35
    refine own_st st35 ?_
    show own_Go _ _ _ _ (T35.setTop (mkF m 125 #[iv p1, iv p2, rv b1, iv p1] [(.int (own_isC p1))]))
    refine o_iloadN X35 hx (hb hby at_125) rfl ?_
    obtain ⟨_, _, ⟨T37, L37, k37, n37⟩, -, X37, ⟨Lc37, hQ37, l37, y37, z37⟩, st37⟩ := Jvm.LawKit.callS X35 hx (y := (⟨"com/example/libinfoset/libinfoset/model/XmlCharactersIsCharacterPinLaw", "excluded", "(I)Z"⟩ : MethodName)) hown (mvT hZ (hw _ (List.mem_of_getElem? (i := 18) rfl))) (mvT hZ (hw _ (List.mem_of_getElem? (i := 19) rfl))) (mvT hZ (hw _ (List.mem_of_getElem? (i := 20) rfl))) (mvT hZ (hw _ (List.mem_of_getElem? (i := 21) rfl))) (by decide) (backOf (W := 1) (rm2 l Z a0 hw [] p1  h33 n0 Zs36) hZ (hw _ (List.mem_of_getElem? (i := 21) rfl)) (hw _ (List.mem_of_getElem? (i := 20) rfl)) (by decide) (by decide)) (g := (mkF m 126 #[iv p1, iv p2, rv b1, iv p1] [(.int p1), (.int (own_isC p1))])) rfl (by rw [hml]; rfl) (argsL := [(.int p1)]) (rest := [(.int (own_isC p1))]) (lenOf pd_1 rfl) rfl (by show 2 * 0 + _ ≤ _; exact Nat.le_of_eq rfl) (hb hby at_126) (fun _ _ => ⟨rfl, e35, (by decide : 1 + 0 ≤ _), (by decide : 16 + 0 ≤ _)⟩)
    dsimp only [Pt.U, Pt.locs, Pt.cells, Pt.slots] at X37 l37 y37 z37 st37 hQ37
    subst l37 y37 z37
    obtain ⟨rfl, Nq37, e37⟩ := hQ37
    have N37 := Fr.app N35 Nq37
    refine own_st st37 ?_
    show own_Go _ _ _ _ (T37.setTop (mkF m 129 #[iv p1, iv p2, rv b1, iv p1] [(.int (own_exc p1)), (.int (own_isC p1))]))
    by_cases hc129_38 : (own_exc p1) = (0 : Int32)
    · refine o_ifNo X37 hx (hb hby at_129) (teq hc129_38).2 ?_
      refine o_iconst X37 hx 1 (hb hby at_132) rfl ?_
      refine o_goto X37 hx (pc' := 137) (hb hby at_133) (by decide) (by decide) ?_
      refine o_icmpNo X37 hx (hb hby at_137) (teq (own_law_T p1 hc129_38)).2 ?_
      refine o_iconst X37 hx 1 (hb hby at_140) rfl ?_
      refine o_goto X37 hx (pc' := 145) (hb hby at_141) (by decide) (by decide) ?_
      have Kp39 : Keep h0 h33 [] := ((((((((((((((((((Keep.refl h0 []).ext E1).wr W3 (Or.inr sz1)).wr W5 (Or.inr sz1)).wr W7 (Or.inr sz1)).wr W9 (Or.inr sz1)).wr W11 (Or.inr sz1)).wr W13 (Or.inr sz1)).wr W15 (Or.inr sz1)).wr W17 (Or.inr sz1)).wr W19 (Or.inr sz1)).wr W21 (Or.inr sz1)).wr W23 (Or.inr sz1)).wr W25 (Or.inr sz1)).wr W27 (Or.inr sz1)).wr W29 (Or.inr sz1)).wr W31 (Or.inr sz1)).wr W33 (Or.inr sz1))
      exact own_end X37 e37 (v := some (.int (1 : Int32))) (fun h => by rw [Bd.returns] at h; cases h) hlk (fun fs hr => retN X37 hx (z := (1 : Int32)) (t := .boolean) Bd.returns (by simp) (hb hby at_145) hr) (Q := Q_rm0 Z a0 p1 p2 h0 n0) ⟨rfl, N37, Kp39⟩ (by decide) (by decide)
    · refine o_ifYes X37 hx (pc' := 136) (hb hby at_129) (feq hc129_38).2 (by decide) (by decide) ?_
      refine o_iconst X37 hx 0 (hb hby at_136) rfl ?_
      refine o_icmpNo X37 hx (hb hby at_137) (teq (own_law_F p1 hc129_38)).2 ?_
      refine o_iconst X37 hx 1 (hb hby at_140) rfl ?_
      refine o_goto X37 hx (pc' := 145) (hb hby at_141) (by decide) (by decide) ?_
      have Kp40 : Keep h0 h33 [] := ((((((((((((((((((Keep.refl h0 []).ext E1).wr W3 (Or.inr sz1)).wr W5 (Or.inr sz1)).wr W7 (Or.inr sz1)).wr W9 (Or.inr sz1)).wr W11 (Or.inr sz1)).wr W13 (Or.inr sz1)).wr W15 (Or.inr sz1)).wr W17 (Or.inr sz1)).wr W19 (Or.inr sz1)).wr W21 (Or.inr sz1)).wr W23 (Or.inr sz1)).wr W25 (Or.inr sz1)).wr W27 (Or.inr sz1)).wr W29 (Or.inr sz1)).wr W31 (Or.inr sz1)).wr W33 (Or.inr sz1))
      exact own_end X37 e37 (v := some (.int (1 : Int32))) (fun h => by rw [Bd.returns] at h; cases h) hlk (fun fs hr => retN X37 hx (z := (1 : Int32)) (t := .boolean) Bd.returns (by simp) (hb hby at_145) hr) (Q := Q_rm0 Z a0 p1 p2 h0 n0) ⟨rfl, N37, Kp40⟩ (by decide) (by decide)
  · refine o_ifYes X33 hx (pc' := 107) (hb hby at_99) (feq hc99_34).2 (by decide) (by decide) ?_
    refine o_aloadN X33 hx (hb hby at_107) rfl rfl ?_
    refine o_iloadN X33 hx (hb hby at_108) rfl ?_
    refine o_bipush X33 hx 15 (hb hby at_109) rfl ?_
    refine o_iand X33 hx (hb hby at_111) ?_
    obtain ⟨cl41, Ar41, qk41, Sz41, Ng41, Hs41, Gs41⟩ := id V33
    obtain ⟨wE42, hwE42⟩ := own_getD_int [(.int (9 : Int32)), (.int (10 : Int32)), (.int (13 : Int32)), (.int (32 : Int32)), (.int (55295 : Int32)), (.int (55296 : Int32)), (.int (57343 : Int32)), (.int (57344 : Int32)), (.int (65533 : Int32)), (.int (65534 : Int32)), (.int (65536 : Int32)), (.int (1114111 : Int32)), (.int (1114112 : Int32)), (.int (0 : Int32)), (.int (-2147483648 : Int32)), (.int (2147483647 : Int32))] (by simp) ((p2 &&& (15 : Int32))).toNatClampNeg
    refine own_st (X33.iaload hx (j := (p2 &&& (15 : Int32))) (v := (.int wE42)) (by rw [e33]; exact Ar41.1) (State.isArrayOf_alike hZ.alike Ar41.2.1) Ar41.2.2 (inb_of Sz41 (own_in16 _)) (Hs41.at (j := (p2 &&& (15 : Int32))) (inb_of Sz41 (own_in16 _)) hwE42) (g := (mkF m 112 #[iv p1, iv p2, rv b1, .unset] [(.int (p2 &&& (15 : Int32))), (.ref b1)])) rfl rfl (hb hby at_112)) ?_
    show own_Go _ _ _ _ (T33.setTop (mkF m 113 #[iv p1, iv p2, rv b1, .unset] [(.int wE42)]))
    refine o_iloadN X33 hx (hb hby at_113) rfl ?_
    refine o_bipush X33 hx 7 (hb hby at_114) rfl ?_
    refine o_iand X33 hx (hb hby at_116) ?_
    refine o_iconst X33 hx 4 (hb hby at_117) rfl ?_
    refine o_isub X33 hx (hb hby at_118) ?_
    refine o_iadd X33 hx (hb hby at_119) ?_
    refine o_istoreN X33 hx (hb hby at_120) (l' := #[iv p1, iv p2, rv b1, iv (wE42 + ((p1 &&& (7 : Int32)) - (4 : Int32)))]) rfl ?_
    refine o_iloadN X33 hx (hb hby at_121) rfl ?_
    have Zs44 : n0 ≤ h33.size := (Nat.le_trans (Nat.le_trans (Nat.le_trans (Nat.le_trans (Nat.le_trans (Nat.le_trans (Nat.le_trans (Nat.le_trans (Nat.le_trans (Nat.le_trans (Nat.le_trans (Nat.le_trans (Nat.le_trans (Nat.le_trans (Nat.le_trans (Nat.le_trans (Nat.le_trans Z0 E1.1) (Keep.of_wr W3).1) (Keep.of_wr W5).1) (Keep.of_wr W7).1) (Keep.of_wr W9).1) (Keep.of_wr W11).1) (Keep.of_wr W13).1) (Keep.of_wr W15).1) (Keep.of_wr W17).1) (Keep.of_wr W19).1) (Keep.of_wr W21).1) (Keep.of_wr W23).1) (Keep.of_wr W25).1) (Keep.of_wr W27).1) (Keep.of_wr W29).1) (Keep.of_wr W31).1) (Keep.of_wr W33).1)
    obtain ⟨_, _, ⟨T43, L43, k43, n43⟩, -, X43, ⟨Lc43, hQ43, l43, y43, z43⟩, st43⟩ := Jvm.LawKit.callS X33 hx (y := (⟨"com/example/libinfoset/libinfoset/model/XmlCharacters", "isCharacter", "(I)Z"⟩ : MethodName)) hown (mvT hZ (hw _ (List.mem_of_getElem? (i := 12) rfl))) (mvT hZ (hw _ (List.mem_of_getElem? (i := 13) rfl))) (mvT hZ (hw _ (List.mem_of_getElem? (i := 14) rfl))) (mvT hZ (hw _ (List.mem_of_getElem? (i := 15) rfl))) (by decide) (backOf (W := 0) (rm1 l Z a0 hw [] (wE42 + ((p1 &&& (7 : Int32)) - (4 : Int32)))  h33 n0 Zs44) hZ (hw _ (List.mem_of_getElem? (i := 15) rfl)) (hw _ (List.mem_of_getElem? (i := 14) rfl)) (by decide) (by decide)) (g := (mkF m 122 #[iv p1, iv p2, rv b1, iv (wE42 + ((p1 &&& (7 : Int32)) - (4 : Int32)))] [(.int (wE42 + ((p1 &&& (7 : Int32)) - (4 : Int32))))])) rfl (by rw [hml]; rfl) (argsL := [(.int (wE42 + ((p1 &&& (7 : Int32)) - (4 : Int32))))]) (rest := []) (lenOf pd_1 rfl) rfl (by show 2 * 0 + _ ≤ _; exact Nat.le_of_eq rfl) (hb hby at_122) (fun _ _ => ⟨rfl, e33, (by decide : 1 + 0 ≤ _), (by decide : 16 + 0 ≤ _)⟩)
    dsimp only [Pt.U, Pt.locs, Pt.cells, Pt.slots] at X43 l43 y43 z43 st43 hQ43
    subst l43 y43 z43
    obtain ⟨rfl, Nq43, e43⟩ := hQ43
    have N43 := Fr.app N33 Nq43
    refine own_st st43 ?_
    show own_Go _ _ _ _ (T43.setTop (mkF m 125 #[iv p1, iv p2, rv b1, iv (wE42 + ((p1 &&& (7 : Int32)) - (4 : Int32)))] [(.int (own_isC (wE42 + ((p1 &&& (7 : Int32)) - (4 : Int32)))))]))
    refine o_iloadN X43 hx (hb hby at_125) rfl ?_
    obtain ⟨_, _, ⟨T45, L45, k45, n45⟩, -, X45, ⟨Lc45, hQ45, l45, y45, z45⟩, st45⟩ := Jvm.LawKit.callS X43 hx (y := (⟨"com/example/libinfoset/libinfoset/model/XmlCharactersIsCharacterPinLaw", "excluded", "(I)Z"⟩ : MethodName)) hown (mvT hZ (hw _ (List.mem_of_getElem? (i := 18) rfl))) (mvT hZ (hw _ (List.mem_of_getElem? (i := 19) rfl))) (mvT hZ (hw _ (List.mem_of_getElem? (i := 20) rfl))) (mvT hZ (hw _ (List.mem_of_getElem? (i := 21) rfl))) (by decide) (backOf (W := 1) (rm2 l Z a0 hw [] (wE42 + ((p1 &&& (7 : Int32)) - (4 : Int32)))  h33 n0 Zs44) hZ (hw _ (List.mem_of_getElem? (i := 21) rfl)) (hw _ (List.mem_of_getElem? (i := 20) rfl)) (by decide) (by decide)) (g := (mkF m 126 #[iv p1, iv p2, rv b1, iv (wE42 + ((p1 &&& (7 : Int32)) - (4 : Int32)))] [(.int (wE42 + ((p1 &&& (7 : Int32)) - (4 : Int32)))), (.int (own_isC (wE42 + ((p1 &&& (7 : Int32)) - (4 : Int32)))))])) rfl (by rw [hml]; rfl) (argsL := [(.int (wE42 + ((p1 &&& (7 : Int32)) - (4 : Int32))))]) (rest := [(.int (own_isC (wE42 + ((p1 &&& (7 : Int32)) - (4 : Int32)))))]) (lenOf pd_1 rfl) rfl (by show 2 * 0 + _ ≤ _; exact Nat.le_of_eq rfl) (hb hby at_126) (fun _ _ => ⟨rfl, e43, (by decide : 1 + 0 ≤ _), (by decide : 16 + 0 ≤ _)⟩)
    dsimp only [Pt.U, Pt.locs, Pt.cells, Pt.slots] at X45 l45 y45 z45 st45 hQ45
    subst l45 y45 z45
    obtain ⟨rfl, Nq45, e45⟩ := hQ45
    have N45 := Fr.app N43 Nq45
    refine own_st st45 ?_
    show own_Go _ _ _ _ (T45.setTop (mkF m 129 #[iv p1, iv p2, rv b1, iv (wE42 + ((p1 &&& (7 : Int32)) - (4 : Int32)))] [(.int (own_exc (wE42 + ((p1 &&& (7 : Int32)) - (4 : Int32))))), (.int (own_isC (wE42 + ((p1 &&& (7 : Int32)) - (4 : Int32)))))]))
    by_cases hc129_46 : (own_exc (wE42 + ((p1 &&& (7 : Int32)) - (4 : Int32)))) = (0 : Int32)
    · refine o_ifNo X45 hx (hb hby at_129) (teq hc129_46).2 ?_
      refine o_iconst X45 hx 1 (hb hby at_132) rfl ?_
      refine o_goto X45 hx (pc' := 137) (hb hby at_133) (by decide) (by decide) ?_
      refine o_icmpNo X45 hx (hb hby at_137) (teq (own_law_T (wE42 + ((p1 &&& (7 : Int32)) - (4 : Int32))) hc129_46)).2 ?_
      refine o_iconst X45 hx 1 (hb hby at_140) rfl ?_
      refine o_goto X45 hx (pc' := 145) (hb hby at_141) (by decide) (by decide) ?_
      have Kp47 : Keep h0 h33 [] := ((((((((((((((((((Keep.refl h0 []).ext E1).wr W3 (Or.inr sz1)).wr W5 (Or.inr sz1)).wr W7 (Or.inr sz1)).wr W9 (Or.inr sz1)).wr W11 (Or.inr sz1)).wr W13 (Or.inr sz1)).wr W15 (Or.inr sz1)).wr W17 (Or.inr sz1)).wr W19 (Or.inr sz1)).wr W21 (Or.inr sz1)).wr W23 (Or.inr sz1)).wr W25 (Or.inr sz1)).wr W27 (Or.inr sz1)).wr W29 (Or.inr sz1)).wr W31 (Or.inr sz1)).wr W33 (Or.inr sz1))
      exact own_end X45 e45 (v := some (.int (1 : Int32))) (fun h => by rw [Bd.returns] at h; cases h) hlk (fun fs hr => retN X45 hx (z := (1 : Int32)) (t := .boolean) Bd.returns (by simp) (hb hby at_145) hr) (Q := Q_rm0 Z a0 p1 p2 h0 n0) ⟨rfl, N45, Kp47⟩ (by decide) (by decide)
    · refine o_ifYes X45 hx (pc' := 136) (hb hby at_129) (feq hc129_46).2 (by decide) (by decide) ?_
      refine o_iconst X45 hx 0 (hb hby at_136) rfl ?_
      refine o_icmpNo X45 hx (hb hby at_137) (teq (own_law_F (wE42 + ((p1 &&& (7 : Int32)) - (4 : Int32))) hc129_46)).2 ?_
      refine o_iconst X45 hx 1 (hb hby at_140) rfl ?_
      refine o_goto X45 hx (pc' := 145) (hb hby at_141) (by decide) (by decide) ?_
      have Kp48 : Keep h0 h33 [] := ((((((((((((((((((Keep.refl h0 []).ext E1).wr W3 (Or.inr sz1)).wr W5 (Or.inr sz1)).wr W7 (Or.inr sz1)).wr W9 (Or.inr sz1)).wr W11 (Or.inr sz1)).wr W13 (Or.inr sz1)).wr W15 (Or.inr sz1)).wr W17 (Or.inr sz1)).wr W19 (Or.inr sz1)).wr W21 (Or.inr sz1)).wr W23 (Or.inr sz1)).wr W25 (Or.inr sz1)).wr W27 (Or.inr sz1)).wr W29 (Or.inr sz1)).wr W31 (Or.inr sz1)).wr W33 (Or.inr sz1))
      exact own_end X45 e45 (v := some (.int (1 : Int32))) (fun h => by rw [Bd.returns] at h; cases h) hlk (fun fs hr => retN X45 hx (z := (1 : Int32)) (t := .boolean) Bd.returns (by simp) (hb hby at_145) hr) (Q := Q_rm0 Z a0 p1 p2 h0 n0) ⟨rfl, N45, Kp48⟩ (by decide) (by decide)
set_option maxRecDepth 65536 in
set_option maxHeartbeats 40000000 in
theorem comes_1 {Post : Tables → Env → Array Value → State → Outcome → State → Prop} (hpost : ∀ tb e args s v u, (limb_1_1.after args s (.returned v) u = true ∧ limb_1_2.after args s (.returned v) u = true ∧ True) → FrameEnd s (.returned v) u (Jvm.fieldLocs frame_1_writes args s ++ Jvm.arrayLocs frame_1_arrays args s ++ Jvm.staticLocs frame_1_statics s) 16 128 → Post tb e args s (.returned v) u) :
    ArmFor flags0 classFile x code maxLocals ret World_1 tables_1 room_1 Calls_1 rest_1 Pre_1 Post := by
  intro l hfl _ _ p e ha hc hk s m args below hf hA hF happ hP
  obtain ⟨hcalls, hrest, hpre⟩ := hP
  obtain ⟨-, -, -, hnamed, -, -, -, hat⟩ := (Spec.applies_iff hf).mp happ
  obtain ⟨hg, hn⟩ := and_e (Cond.before_iff.mp (show (Jvm.Cond.and given_1 narrow_1).before args s = true from hpre))
  obtain ⟨g1, g2⟩ := and_e hg
  obtain ⟨g3, g4⟩ := and_e g2
  obtain ⟨w0, w1, rfl⟩ : ∃ w0 w1 : Value, args = #[w0, w1] := by
    have hs : args.size = 2 := by simpa [Cond.value, given_1] using g1
    obtain ⟨L⟩ := args
    match L, hs with
    | [w0, w1], _ => exact ⟨w0, w1, rfl⟩
  have hw := fun d (hd : d ∈ tables_1) => atoms_spec (ws := Jvm.Cond.code x code maxLocals ret :: tables_1) hat d (List.mem_cons_of_mem _ hd)
  have hfit : Fit s := fun {y c} hc i hi => by
    obtain ⟨ha, rfl⟩ := Array.getElem?_eq_some_iff.mp hc
    have q := List.all_eq_true.mp ((Array.all_eq_true_iff_forall_mem.mp hF) _ (Array.getElem_mem ha)) i (List.mem_range.mpr hi)
    simpa [Array.getElem?_eq_getElem hi] using q
  obtain ⟨i0, ei0⟩ := is_v g3
  obtain rfl : w0 = (.int i0) := Option.some.inj ei0
  obtain ⟨i1, ei1⟩ := is_v g4
  obtain rfl : w1 = (.int i1) := Option.some.inj ei1
  obtain ⟨n, o, h1, h2, h3, _, L, rfl, ⟨rfl, N, -⟩, hq⟩ := rm0 l s _ hw tables_1 i0 i1  s.heap s.heap.size (Nat.le_refl _)  p e ha hc hk s m _ below hf ((Spec.applies_iff_loose hf).mp happ).1 ⟨rfl, State.Warmed39.refl s, rfl⟩ trivial
  refine ⟨n, _, h1, h2, h3, hpost _ _ _ _ _ _ ⟨Cond.after_iff.mpr rfl, Cond.after_iff.mpr (eq_i res_at (Term.int_eval (1)) rfl), trivial⟩ ⟨hq.1, hq.2.1, (hq.2.2.sift fun y hy => Or.inr (N y hy)).mono (by decide) (by decide)⟩⟩
theorem main_1_1 : Claimed_1_1 := comes_1 fun _ _ _ _ _ _ h hF => ⟨h.1, hF⟩
theorem main_1_2 : Claimed_1_2 := comes_1 fun _ _ _ _ _ _ h hF => ⟨h.2.1, hF⟩
end Jvm.Pilot.@@N@@
namespace Jvm.Pilot.@@N@@
open Jvm Jvm.ClassFile Sem Op Lib Jvm.Free Jvm.Stand Jvm.Pilot.@@N@@.Jvm.D
/-! MADE BY PROGRAM (witnessworld.py) out of the Statement's table words and the real class files: 9 classes; the members and pool entries that the words name. The judged class is class 1, her method 1. -/
namespace start1
open Jvm.ClassFile
def u (s : String) : CpInfo := .utf8 (stringToUtf16 s)
/-- a pool by its gaps: so many unusable entries, then the entry; so many at the end -/
def gap : Nat → List CpInfo → List CpInfo
  | 0, r => r
  | n + 1, r => .unusable :: gap n r
def poolList (es : List (Nat × CpInfo)) (last : Nat) : List CpInfo := es.foldr (fun e r => gap e.1 (e.2 :: r)) (gap last [])
def pool (es : List (Nat × CpInfo)) (last : Nat) : Array CpInfo := ⟨poolList es last⟩
def fileOf (pool : Array CpInfo) (this : Nat) (attrs : Array Attribute := #[]) (ms : Array MethodInfo := #[]) (fl : Nat := 33) (sup : Nat := 0) (ifs : Array Nat := #[]) (fds : Array FieldInfo := #[]) : ClassFile where
  minorVersion := 0
  majorVersion := 65
  constantPool := pool
  accessFlags := fl
  thisClass := this
  superClass := sup
  interfaces := ifs
  fields := fds
  methods := ms
  attributes := attrs
def plain (name : String) (sup : Option ClassId) : Class where
  name := name
  kind := .ordinary
  loader := none
  accessFlags := 33
  super := sup
  interfaces := #[]
  cf := none
  fields := #[]
  methods := #[]
  instanceTypes := #[]
  staticTypes := #[]
  resolved := #[]
  callSites := []
  init := .initialized
  statics := none
  mirror := none

def pool0 : Array CpInfo := pool [(5, u "<init>"), (0, u "()V"), (1, .class_ 10), (1, u "java/lang/Object")] 113

def k0m0 : Method := { name := "<init>", desc := "()V", sig := { parameters := [], returnType := none }, accessFlags := 1, code := none }
/-- java/lang/Object -/
def k0 : Class := { plain "java/lang/Object" none with
  accessFlags := 33
  interfaces := #[]
  cf := some (fileOf pool0 8 #[] #[{ accessFlags := 1, nameIndex := 5, descriptorIndex := 6, attributes := #[] }] 33 0 #[] #[])
  fields := #[]
  methods := #[k0m0]
  instanceTypes := #[]
  staticTypes := #[]
  resolved := Array.replicate 124 none
  statics := none }

def pool1 : Array CpInfo := pool [(2, .class_ 4), (1, u "java/lang/Object"), (0, u "<init>"), (0, u "()V"), (0, .integer 55295), (0, .integer 55296), (0, .integer 57343), (0, .integer 57344), (0, .integer 65533), (0, .integer 65534), (0, .integer 65536), (0, .integer 1114111), (0, .integer 1114112), (2, .integer 2147483648), (0, .integer 2147483647), (0, .methodref 21 22), (0, .class_ 23), (0, .nameAndType 24 25), (0, u "com/example/libinfoset/libinfoset/model/XmlCharacters"), (0, u "isCharacter"), (0, u "(I)Z"), (0, .methodref 27 28), (0, .class_ 29), (0, .nameAndType 30 25), (0, u "com/example/libinfoset/libinfoset/model/XmlCharactersIsCharacterPinLaw"), (0, u "excluded"), (0, .integer 65535), (2, u "law"), (0, u "(II)Z")] 5

def k1m0 : Method := { name := "<init>", desc := "()V", sig := { parameters := [], returnType := none }, accessFlags := 2, code := none }
def k1c1 : Code := { maxStack := 4, maxLocals := 4, code := code, exceptionTable := #[], attributes := #[] }
def k1m1 : Method := { name := "law", desc := "(II)Z", sig := { parameters := [.int, .int], returnType := some .boolean }, accessFlags := 9, code := some k1c1 }
def k1c2 : Code := { maxStack := 2, maxLocals := 1, code := method_3_code, exceptionTable := #[], attributes := #[] }
def k1m2 : Method := { name := "excluded", desc := "(I)Z", sig := { parameters := [.int], returnType := some .boolean }, accessFlags := 10, code := some k1c2 }
/-- com/example/libinfoset/libinfoset/model/XmlCharactersIsCharacterPinLaw -/
def k1 : Class := { plain "com/example/libinfoset/libinfoset/model/XmlCharactersIsCharacterPinLaw" (some 0) with
  accessFlags := 49
  interfaces := #[]
  cf := some (fileOf pool1 27 #[] #[{ accessFlags := 2, nameIndex := 5, descriptorIndex := 6, attributes := #[] }, { accessFlags := 9, nameIndex := 34, descriptorIndex := 35, attributes := #[] }, { accessFlags := 10, nameIndex := 30, descriptorIndex := 25, attributes := #[] }] 49 2 #[] #[])
  fields := #[]
  methods := #[k1m0, k1m1, k1m2]
  instanceTypes := #[]
  staticTypes := #[]
  resolved := Array.replicate 41 none
  statics := none }

def pool2 : Array CpInfo := pool [(2, .class_ 4), (1, u "java/lang/Object"), (0, u "<init>"), (0, u "()V"), (0, .integer 55295), (0, .integer 57344), (0, .integer 65533), (0, .integer 65536), (0, .integer 1114111), (1, .class_ 15), (1, u "com/example/libinfoset/libinfoset/model/XmlCharacters"), (0, u "ASCII"), (0, u "[B"), (7, u "(I)Z"), (4, u "NAME_START"), (0, u "B"), (2, u "NAME"), (5, u "isCharacter")] 5

def k2m0 : Method := { name := "<init>", desc := "()V", sig := { parameters := [], returnType := none }, accessFlags := 2, code := none }
def k2c1 : Code := { maxStack := 2, maxLocals := 1, code := prog_114_method_3_code, exceptionTable := #[], attributes := #[] }
def k2m1 : Method := { name := "isCharacter", desc := "(I)Z", sig := { parameters := [.int], returnType := some .boolean }, accessFlags := 9, code := some k2c1 }
/-- com/example/libinfoset/libinfoset/model/XmlCharacters -/
def k2 : Class := { plain "com/example/libinfoset/libinfoset/model/XmlCharacters" (some 0) with
  accessFlags := 33
  interfaces := #[]
  cf := some (fileOf pool2 13 #[] #[{ accessFlags := 2, nameIndex := 5, descriptorIndex := 6, attributes := #[] }, { accessFlags := 9, nameIndex := 40, descriptorIndex := 25, attributes := #[] }] 33 2 #[] #[{ accessFlags := 26, nameIndex := 30, descriptorIndex := 31, attributes := #[] }, { accessFlags := 26, nameIndex := 34, descriptorIndex := 31, attributes := #[] }, { accessFlags := 26, nameIndex := 16, descriptorIndex := 17, attributes := #[] }])
  fields := #[{ name := "NAME_START", type := .byte, accessFlags := 26, slot := 0, constantValue := 0 }, { name := "NAME", type := .byte, accessFlags := 26, slot := 1, constantValue := 0 }, { name := "ASCII", type := (.array .byte), accessFlags := 26, slot := 2, constantValue := 0 }]
  methods := #[k2m0, k2m1]
  instanceTypes := #[]
  staticTypes := #[.byte, .byte, (.array .byte)]
  resolved := Array.replicate 46 none
  statics := none }

def pool3 : Array CpInfo := pool [(1, u "java/lang/Cloneable"), (0, .class_ 1), (0, u "java/lang/Object"), (0, .class_ 3)] 3

/-- java/lang/Cloneable -/
def k3 : Class := { plain "java/lang/Cloneable" (some 0) with
  accessFlags := 1537
  interfaces := #[]
  cf := some (fileOf pool3 2 #[] #[] 1537 4 #[] #[])
  fields := #[]
  methods := #[]
  instanceTypes := #[]
  staticTypes := #[]
  resolved := Array.replicate 8 none
  statics := none }

def pool4 : Array CpInfo := pool [(1, u "java/io/Serializable"), (0, .class_ 1), (0, u "java/lang/Object"), (0, .class_ 3)] 3

/-- java/io/Serializable -/
def k4 : Class := { plain "java/io/Serializable" (some 0) with
  accessFlags := 1537
  interfaces := #[]
  cf := some (fileOf pool4 2 #[] #[] 1537 4 #[] #[])
  fields := #[]
  methods := #[]
  instanceTypes := #[]
  staticTypes := #[]
  resolved := Array.replicate 8 none
  statics := none }

/-- the primitive byte -/
def k5 : Class := { plain "byte" none with kind := .primitive 'B', accessFlags := 0x411 }
/-- [B -/
def k6 : Class := { plain "[B" (some 0) with kind := .array 5 .byte, interfaces := #[3, 4], accessFlags := 1041 }

/-- the primitive int -/
def k7 : Class := { plain "int" none with kind := .primitive 'I', accessFlags := 0x411 }
/-- [I -/
def k8 : Class := { plain "[I" (some 0) with kind := .array 7 .int, interfaces := #[3, 4], accessFlags := 1041 }

def heap : Heap := #[]
def classes : Array Class := #[k0, k1, k2, k3, k4, k5, k6, k7, k8]
def interned : List (Array UInt16 × Addr) := []
def slotsUsed : Nat := 0
def theMethod : MethodId := ⟨1, 1⟩
def args0 : Array Value := #[.int 5, .int 3]
def aboutOver (below : List Frame) : State where
  vm := { classes := classes, interned := interned.toArray }
  heap := heap
  slotsUsed := slotsUsed
  threads := #[{ frames := .invoking theMethod args0 :: below }]
def below0 : List Frame := [.native { method := ⟨0, 0⟩, args := #[] }]
def about1 : State := aboutOver below0
def p0 : Program := .bare "" "" ""
def e0 : Env := launch0.env 0 0 0
theorem w_frames : about1.frames = Frame.invoking theMethod args0 :: below0 := rfl
set_option maxRecDepth 65536 in
theorem w_args : argsFit about1.vm theMethod args0 = true := by decide +kernel
set_option maxRecDepth 65536 in
theorem w_heap : heapFits about1 = true := by decide +kernel
set_option maxRecDepth 65536 in
theorem w_runnable : about1.curStatus? = some .runnable := by decide +kernel
set_option maxRecDepth 65536 in
theorem w_alone : about1.alone = true := by decide +kernel
set_option maxRecDepth 65536 in
theorem w_named : about1.methodNamed? x = some theMethod := by decide +kernel
set_option maxRecDepth 65536 in
theorem w_hears : about1.hears theMethod below0 = true := by decide +kernel
set_option maxRecDepth 65536 in
theorem w_ripe : about1.ripe theMethod args0 below0 = true := by decide +kernel
theorem w_running : about1.status = .running := rfl
set_option maxRecDepth 65536 in
theorem w_room : about1.hasRoom e0.platform room_1 = true :=
  launch0.hasRoom_least _ room_1 (by decide +kernel) (by decide +kernel) (by decide +kernel) (by decide +kernel) (by decide +kernel) (by decide +kernel)
theorem allAtoms_all (ts : List Jvm.Cond) (a : Array Jvm.Value) (st : Jvm.State) : (allAtoms ts).before a st = ts.all (fun c => c.before a st) := by
  induction ts with
  | nil => rfl
  | cons c t ih =>
    show (Jvm.Cond.and c (allAtoms t)).before a st = _
    rw [Jvm.Cond.before_and, ih, List.all_cons]
def words1 : List Jvm.Cond := Jvm.Cond.code x code maxLocals ret :: tables_1
/-- a 'code' word, met by the world's own term for the bytes: nothing is compared byte by byte -/
theorem code_word {y : MethodName} {bytes : ByteArray} {mx : Nat} {rt : Option FieldType} {a : Array Value} {s : State} {m : MethodId} {meth : Method} {c : Code} (h1 : s.methodNamed? y = some m) (h2 : s.vm.method? m = some meth) (h3 : meth.code = some c) (h4 : c.code = bytes)
    (h5 : (c.maxLocals == mx && c.exceptionTable.isEmpty && decide (c.maxStack ≤ mostOperands) && decide (meth.sig.returnType = rt) && !meth.locks && decide (parseMethodDescriptor y.desc = some meth.sig)) = true) : (Jvm.Cond.code y bytes mx rt).before a s = true := by
  simp only [Bool.and_eq_true, beq_iff_eq, Bool.not_eq_true', decide_eq_true_eq] at h5
  obtain ⟨⟨⟨⟨⟨g1, g2⟩, g3⟩, g4⟩, g5⟩, g6⟩ := h5
  simp [Cond.before, Cond.holds, Cond.value, h1, h2, h3, h4, g1, g2, g3, g4, g5, g6]
def isCode : Jvm.Cond → Bool
  | .code _ _ _ _ => true
  | _ => false
theorem all_split {L : List Jvm.Cond} {P : Jvm.Cond → Bool} (h1 : L.all (fun c => isCode c || P c) = true) (h2 : ∀ c ∈ L.filter isCode, P c = true) : L.all P = true := by
  refine List.all_eq_true.mpr fun c hc => ?_
  have h := List.all_eq_true.mp h1 c hc
  rcases Bool.eq_false_or_eq_true (isCode c) with hi | hi
  · exact h2 c (List.mem_filter.mpr ⟨hc, hi⟩)
  · simpa [hi] using h
set_option maxRecDepth 65536 in
theorem w_c0 : (Jvm.Cond.code x code maxLocals ret).before args0 about1 = true := code_word (m := ⟨1, 1⟩) (meth := k1m1) (c := k1c1) (by decide +kernel) rfl rfl rfl (by decide +kernel)
set_option maxRecDepth 65536 in
theorem w_c1 : (Jvm.Cond.code ({ cls := "com/example/libinfoset/libinfoset/model/XmlCharacters", name := "isCharacter", desc := "(I)Z" } : Jvm.MethodName) prog_114_method_3_code (1 : Nat) (Option.some Jvm.ClassFile.FieldType.boolean)).before args0 about1 = true := code_word (m := ⟨2, 1⟩) (meth := k2m1) (c := k2c1) (by decide +kernel) rfl rfl rfl (by decide +kernel)
set_option maxRecDepth 65536 in
theorem w_c2 : (Jvm.Cond.code ({ cls := "com/example/libinfoset/libinfoset/model/XmlCharactersIsCharacterPinLaw", name := "excluded", desc := "(I)Z" } : Jvm.MethodName) method_3_code (1 : Nat) (Option.some Jvm.ClassFile.FieldType.boolean)).before args0 about1 = true := code_word (m := ⟨1, 2⟩) (meth := k1m2) (c := k1c2) (by decide +kernel) rfl rfl rfl (by decide +kernel)
def codes1 : List Jvm.Cond := [Jvm.Cond.code x code maxLocals ret, Jvm.Cond.code ({ cls := "com/example/libinfoset/libinfoset/model/XmlCharacters", name := "isCharacter", desc := "(I)Z" } : Jvm.MethodName) prog_114_method_3_code (1 : Nat) (Option.some Jvm.ClassFile.FieldType.boolean), Jvm.Cond.code ({ cls := "com/example/libinfoset/libinfoset/model/XmlCharactersIsCharacterPinLaw", name := "excluded", desc := "(I)Z" } : Jvm.MethodName) method_3_code (1 : Nat) (Option.some Jvm.ClassFile.FieldType.boolean)]
set_option maxRecDepth 65536 in
theorem codes_eq : words1.filter isCode = codes1 := rfl
theorem w_codes : ∀ c ∈ words1.filter isCode, c.before args0 about1 = true := by
  rw [codes_eq]
  intro c hc
  simp only [codes1, List.mem_cons, List.not_mem_nil, or_false] at hc
  rcases hc with rfl | rfl | rfl
  · exact w_c0
  · exact w_c1
  · exact w_c2
set_option maxRecDepth 65536 in
theorem w_t1 : (words1.take 24).all (fun c => isCode c || c.before args0 about1) = true := by decide +kernel
set_option maxRecDepth 65536 in
theorem w_t2 : (words1.drop 24).all (fun c => isCode c || c.before args0 about1) = true := by decide +kernel
theorem w_tables : (allAtoms (Jvm.Cond.code x code maxLocals ret :: tables_1)).before args0 about1 = true := by
  rw [allAtoms_all]
  show words1.all (fun c => c.before args0 about1) = true
  refine all_split ?_ w_codes
  rw [← List.take_append_drop 24 words1, List.all_append, w_t1, w_t2]
  rfl
set_option maxRecDepth 65536 in
theorem w_case : (Jvm.Cond.and given_1 narrow_1).before args0 about1 = true := by decide +kernel
theorem w_applies : (headSpec (Jvm.Cond.code x code maxLocals ret :: tables_1) room_1).applies x e0.platform about1 = true :=
  (Spec.applies_iff w_frames).mpr ⟨w_running, w_runnable, w_alone, w_named, w_hears, w_ripe, w_room, w_tables⟩
theorem atStart : AtStart classFile x code maxLocals ret World_1 tables_1 room_1 Calls_1 rest_1 Pre_1 launch0 p0 e0 about1 theMethod args0 below0 :=
  ⟨lists_1, trivial, launch0.admits_env _ _ _, launch0.least_env, fairChoices_fair.cas, fairChoices_fair.clock, w_frames, w_args, w_heap, w_applies, trivial, trivial, w_case⟩
end start1
theorem witness_1 : WitnessClaimed_1 := ⟨start1.p0, start1.e0, start1.about1, start1.theMethod, start1.args0, start1.below0, start1.atStart⟩
end Jvm.Pilot.@@N@@
