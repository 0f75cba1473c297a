import JvmDerived
import JvmDerived.Pilot.@@N@@Statement
import JvmDerived.Pilot.@@N@@Code
set_option linter.unusedVariables false
set_option linter.unusedSimpArgs false
namespace Jvm.RoadKit
open Sem ClassFile Op Lib Jvm.Stand Jvm.Free Jvm.LawKit
section New
variable {p : Program} {l : Launch} {e : Env} {R : Room} {s : State} {m : MethodId} {args : Array Value} {below : List Frame} {meth : Method} {c : Code} {T : State} {locs : List Loc} {cells slots : Nat}
theorem retI (X : Stand p l e R s m args below meth c T locs cells slots) (hx : p.tables.exec = Jvm.exec) {pc : Nat} {Ls : Array Slot} {z : Int32} {rest : List Value} (hret : meth.sig.returnType = some .int) (hd : decode c.code pc = .ok (.ireturn, 1)) {fs : List Frame}
    (hl : ∀ (f : JFrame) (acts : List Action), f.method = m → f.locked = none → f.entered = [] → (doReturn e (T.setTop f) acts (some (.int z))).1 = T.setFrames fs) : Steps p.tables e below (T.setTop (mkF m pc Ls (.int z :: rest))) (T.setFrames fs) := by
  have hm' : T.vm.method? m = some meth := X.method'
  have hn : narrow .int (.int z) = .int z := rfl
  show Steps p.tables e below (T.setTop { method := m, pc := pc, locals := Ls, stack := _ :: rest, locked := none }) _
  jvm_step X.here [X.here.top, hx, hd, hm', hret, hn]
  first | (intro acts; rw [hl _ acts rfl rfl rfl]) | rw [hl _ _ rfl rfl rfl]
  exact Steps.refl _
theorem own_retA (X : Stand p l e R s m args below meth c T locs cells slots) (hx : p.tables.exec = Jvm.exec) {pc : Nat} {Ls : Array Slot} {w : Value} {t : FieldType} {rest : List Value} (hret : meth.sig.returnType = some t) (ht : t.isReference = true) (hw : w.isRef = true) (hd : decode c.code pc = .ok (.areturn, 1)) {fs : List Frame}
    (hl : ∀ (f : JFrame) (acts : List Action), f.method = m → f.locked = none → f.entered = [] → (doReturn e (T.setTop f) acts (some w)).1 = T.setFrames fs) : Steps p.tables e below (T.setTop (mkF m pc Ls (w :: rest))) (T.setFrames fs) := by
  have hm' : T.vm.method? m = some meth := X.method'
  rcases ref_cases hw with rfl | ⟨z, rfl⟩
  all_goals
    show Steps p.tables e below (T.setTop { method := m, pc := pc, locals := Ls, stack := _ :: rest, locked := none }) _
    jvm_step X.here [X.here.top, hx, hd, hm', hret, Value.isRef]
    try (refine ⟨ht, ?_⟩)
    first | (intro acts; rw [hl _ acts rfl rfl rfl]) | rw [hl _ _ rfl rfl rfl]
    exact Steps.refl _
end New
/-- from U the run comes to an end of which P tells -/
def own_Go (tb : Tables) (e : Env) (below : List Frame) (P : Outcome → State → Prop) (U : State) : Prop := ∃ s₂ o, Steps tb e below U s₂ ∧ s₂.status = .running ∧ Ended s₂ below o ∧ P o s₂
theorem own_st {tb : Tables} {e : Env} {below : List Frame} {P : Outcome → State → Prop} {U V : State} (h : ∀ t, Steps tb e below V t → Steps tb e below U t) (g : own_Go tb e below P V) : own_Go tb e below P U := by
  obtain ⟨s₂, o, h1, r⟩ := g
  exact ⟨s₂, o, h _ h1, r⟩
theorem own_tr {tb : Tables} {e : Env} {below : List Frame} {P : Outcome → State → Prop} {U V : State} (h : Steps tb e below U V) (g : own_Go tb e below P V) : own_Go tb e below P U := by
  obtain ⟨s₂, o, h1, r⟩ := g
  exact ⟨s₂, o, h.trans h1, r⟩
theorem own_end {p : Program} {l : Launch} {e : Env} {R : Room} {s : State} {m : MethodId} {args : Array Value} {below : List Frame} {meth : Method} {c : Code} {T : State} {locs : List Loc} {cells slots : Nat} (X : Stand p l e R s m args below meth c T locs cells slots) {h : Heap} (eT : T.heap = h) {v : Option Value} (hv : meth.sig.returnType = none → v = none) (hlk : meth.locks = false) {g : JFrame}
    (hst : ∀ fs, (∀ (f : JFrame) (acts : List Action), f.method = m → f.locked = none → f.entered = [] → (doReturn e (T.setTop f) acts v).1 = T.setFrames fs) → Steps p.tables e below (T.setTop g) (T.setFrames fs))
    {Q : Option Value → Heap → List Loc → Prop} (hQ : Q v h locs) {cc ss : Nat} (hc : cells ≤ cc) (hs : slots ≤ ss) :
    own_Go p.tables e below (fun o U' => ∃ v L, o = .returned v ∧ Q v U'.heap L ∧ FrameEnd s o U' L cc ss) (T.setTop g) := by
  subst eT
  obtain ⟨fs, hr, hrun, hended, hW, hsame⟩ := X.leave (v := v) hv hlk
  exact ⟨_, _, hst fs hr, hrun, hended, _, _, rfl, hQ, ⟨_, rfl⟩, hW, hsame.mono hc hs⟩
section Steps2
variable {p : Program} {l : Launch} {e : Env} {R : Room} {s : State} {m : MethodId} {args : Array Value} {below : List Frame} {meth : Method} {c : Code} {T : State} {locs : List Loc} {cells slots : Nat} {P : Outcome → State → Prop} {pc : Nat} {Ls : Array Slot} {st : List Value}
theorem o_iloadN (X : Stand p l e R s m args below meth c T locs cells slots) (hx : p.tables.exec = Jvm.exec) {k : Fin 4} {v : Int32} (hd : decode c.code pc = .ok (.iload_n k, 1)) (hl : Ls[k.val]? = some (.val (.int v))) (g : own_Go p.tables e below P (T.setTop (mkF m (pc + 1) Ls (.int v :: st)))) : own_Go p.tables e below P (T.setTop (mkF m pc Ls st)) := own_st (fun t k => XS.iloadN X.here hx rfl hd hl k) g
theorem o_iload (X : Stand p l e R s m args below meth c T locs cells slots) (hx : p.tables.exec = Jvm.exec) {k : Nat} {v : Int32} (hd : decode c.code pc = .ok (.iload k, 2)) (hl : Ls[k]? = some (.val (.int v))) (g : own_Go p.tables e below P (T.setTop (mkF m (pc + 2) Ls (.int v :: st)))) : own_Go p.tables e below P (T.setTop (mkF m pc Ls st)) := own_st (fun t k => XS.iload X.here hx rfl hd hl k) g
theorem o_lloadN (X : Stand p l e R s m args below meth c T locs cells slots) (hx : p.tables.exec = Jvm.exec) {k : Fin 4} {v : Int64} (hd : decode c.code pc = .ok (.lload_n k, 1)) (hl : Ls[k.val]? = some (.val (.long v))) (g : own_Go p.tables e below P (T.setTop (mkF m (pc + 1) Ls (.long v :: st)))) : own_Go p.tables e below P (T.setTop (mkF m pc Ls st)) := own_st (fun t k => XS.lloadN X.here hx rfl hd hl k) g
theorem o_lload (X : Stand p l e R s m args below meth c T locs cells slots) (hx : p.tables.exec = Jvm.exec) {k : Nat} {v : Int64} (hd : decode c.code pc = .ok (.lload k, 2)) (hl : Ls[k]? = some (.val (.long v))) (g : own_Go p.tables e below P (T.setTop (mkF m (pc + 2) Ls (.long v :: st)))) : own_Go p.tables e below P (T.setTop (mkF m pc Ls st)) := own_st (fun t k => XS.lload X.here hx rfl hd hl k) g
theorem o_aloadN (X : Stand p l e R s m args below meth c T locs cells slots) (hx : p.tables.exec = Jvm.exec) {k : Fin 4} {v : Value} (hd : decode c.code pc = .ok (.aload_n k, 1)) (hl : Ls[k.val]? = some (.val v)) (hv : v.isRef = true) (g : own_Go p.tables e below P (T.setTop (mkF m (pc + 1) Ls (v :: st)))) : own_Go p.tables e below P (T.setTop (mkF m pc Ls st)) := own_st (fun t k => XS.aloadN X.here hx rfl hd hl hv k) g
theorem o_aload (X : Stand p l e R s m args below meth c T locs cells slots) (hx : p.tables.exec = Jvm.exec) {k : Nat} {v : Value} (hd : decode c.code pc = .ok (.aload k, 2)) (hl : Ls[k]? = some (.val v)) (hv : v.isRef = true) (g : own_Go p.tables e below P (T.setTop (mkF m (pc + 2) Ls (v :: st)))) : own_Go p.tables e below P (T.setTop (mkF m pc Ls st)) := own_st (fun t k => XS.aload X.here hx rfl hd hl hv k) g
theorem o_istoreN (X : Stand p l e R s m args below meth c T locs cells slots) (hx : p.tables.exec = Jvm.exec) {k : Fin 4} {v : Int32} {l' : Array Slot} (hd : decode c.code pc = .ok (.istore_n k, 1)) (hl : storeLocals Ls k.val (.int v) = some l') (g : own_Go p.tables e below P (T.setTop (mkF m (pc + 1) l' st))) : own_Go p.tables e below P (T.setTop (mkF m pc Ls (.int v :: st))) := own_st (fun t k => XS.istoreN X.here hx rfl hd rfl hl k) g
theorem o_istore (X : Stand p l e R s m args below meth c T locs cells slots) (hx : p.tables.exec = Jvm.exec) {k : Nat} {v : Int32} {l' : Array Slot} (hd : decode c.code pc = .ok (.istore k, 2)) (hl : storeLocals Ls k (.int v) = some l') (g : own_Go p.tables e below P (T.setTop (mkF m (pc + 2) l' st))) : own_Go p.tables e below P (T.setTop (mkF m pc Ls (.int v :: st))) := own_st (fun t k => XS.istore X.here hx rfl hd rfl hl k) g
theorem o_lstoreN (X : Stand p l e R s m args below meth c T locs cells slots) (hx : p.tables.exec = Jvm.exec) {k : Fin 4} {v : Int64} {l' : Array Slot} (hd : decode c.code pc = .ok (.lstore_n k, 1)) (hl : storeLocals Ls k.val (.long v) = some l') (g : own_Go p.tables e below P (T.setTop (mkF m (pc + 1) l' st))) : own_Go p.tables e below P (T.setTop (mkF m pc Ls (.long v :: st))) := own_st (fun t k => XS.lstoreN X.here hx rfl hd rfl hl k) g
theorem o_lstore (X : Stand p l e R s m args below meth c T locs cells slots) (hx : p.tables.exec = Jvm.exec) {k : Nat} {v : Int64} {l' : Array Slot} (hd : decode c.code pc = .ok (.lstore k, 2)) (hl : storeLocals Ls k (.long v) = some l') (g : own_Go p.tables e below P (T.setTop (mkF m (pc + 2) l' st))) : own_Go p.tables e below P (T.setTop (mkF m pc Ls (.long v :: st))) := own_st (fun t k => XS.lstore X.here hx rfl hd rfl hl k) g
theorem o_astoreN (X : Stand p l e R s m args below meth c T locs cells slots) (hx : p.tables.exec = Jvm.exec) {k : Fin 4} {v : Value} {l' : Array Slot} (hd : decode c.code pc = .ok (.astore_n k, 1)) (hv : v.isRef = true) (hl : storeLocals Ls k.val v = some l') (g : own_Go p.tables e below P (T.setTop (mkF m (pc + 1) l' st))) : own_Go p.tables e below P (T.setTop (mkF m pc Ls (v :: st))) := own_st (fun t k => XS.astoreN X.here hx rfl hd rfl hv hl k) g
theorem o_astore (X : Stand p l e R s m args below meth c T locs cells slots) (hx : p.tables.exec = Jvm.exec) {k : Nat} {v : Value} {l' : Array Slot} (hd : decode c.code pc = .ok (.astore k, 2)) (hv : v.isRef = true) (hl : storeLocals Ls k v = some l') (g : own_Go p.tables e below P (T.setTop (mkF m (pc + 2) l' st))) : own_Go p.tables e below P (T.setTop (mkF m pc Ls (v :: st))) := own_st (fun t k => XS.astore X.here hx rfl hd rfl hv hl k) g
theorem o_iconst (X : Stand p l e R s m args below meth c T locs cells slots) (hx : p.tables.exec = Jvm.exec) {i : Int} (z : Int32) (hd : decode c.code pc = .ok (.iconst i, 1)) (hz : Int32.ofInt i = z) (g : own_Go p.tables e below P (T.setTop (mkF m (pc + 1) Ls (.int z :: st)))) : own_Go p.tables e below P (T.setTop (mkF m pc Ls st)) := by subst hz; exact own_st (fun t k => XS.iconst X.here hx rfl hd k) g
theorem o_bipush (X : Stand p l e R s m args below meth c T locs cells slots) (hx : p.tables.exec = Jvm.exec) {i : Int} (z : Int32) (hd : decode c.code pc = .ok (.bipush i, 2)) (hz : (Int8.ofInt i).toInt32 = z) (g : own_Go p.tables e below P (T.setTop (mkF m (pc + 2) Ls (.int z :: st)))) : own_Go p.tables e below P (T.setTop (mkF m pc Ls st)) := by subst hz; exact own_st (fun t k => XS.bipush X.here hx rfl hd k) g
theorem o_sipush (X : Stand p l e R s m args below meth c T locs cells slots) (hx : p.tables.exec = Jvm.exec) {i : Int} (z : Int32) (hd : decode c.code pc = .ok (.sipush i, 3)) (hz : (Int16.ofInt i).toInt32 = z) (g : own_Go p.tables e below P (T.setTop (mkF m (pc + 3) Ls (.int z :: st)))) : own_Go p.tables e below P (T.setTop (mkF m pc Ls st)) := by subst hz; exact own_st (fun t k => XS.sipush X.here hx rfl hd k) g
theorem o_lconst (X : Stand p l e R s m args below meth c T locs cells slots) (hx : p.tables.exec = Jvm.exec) {i : Fin 2} (z : Int64) (hd : decode c.code pc = .ok (.lconst i, 1)) (hz : Int64.ofNat i = z) (g : own_Go p.tables e below P (T.setTop (mkF m (pc + 1) Ls (.long z :: st)))) : own_Go p.tables e below P (T.setTop (mkF m pc Ls st)) := by subst hz; exact own_st (fun t k => XS.lconst X.here hx rfl hd k) g
theorem o_aconstNull (X : Stand p l e R s m args below meth c T locs cells slots) (hx : p.tables.exec = Jvm.exec) (hd : decode c.code pc = .ok (.aconst_null, 1)) (g : own_Go p.tables e below P (T.setTop (mkF m (pc + 1) Ls (.null :: st)))) : own_Go p.tables e below P (T.setTop (mkF m pc Ls st)) := own_st (fun t k => XS.aconstNull X.here hx rfl hd k) g
theorem o_iadd (X : Stand p l e R s m args below meth c T locs cells slots) (hx : p.tables.exec = Jvm.exec) {x y : Int32} (hd : decode c.code pc = .ok (.iadd, 1)) (g : own_Go p.tables e below P (T.setTop (mkF m (pc + 1) Ls (.int (x + y) :: st)))) : own_Go p.tables e below P (T.setTop (mkF m pc Ls (.int y :: .int x :: st))) := own_st (fun t k => XS.iadd X.here hx rfl hd rfl k) g
theorem o_ladd (X : Stand p l e R s m args below meth c T locs cells slots) (hx : p.tables.exec = Jvm.exec) {x y : Int64} (hd : decode c.code pc = .ok (.ladd, 1)) (g : own_Go p.tables e below P (T.setTop (mkF m (pc + 1) Ls (.long (x + y) :: st)))) : own_Go p.tables e below P (T.setTop (mkF m pc Ls (.long y :: .long x :: st))) := own_st (fun t k => XS.ladd X.here hx rfl hd rfl k) g
theorem o_isub (X : Stand p l e R s m args below meth c T locs cells slots) (hx : p.tables.exec = Jvm.exec) {x y : Int32} (hd : decode c.code pc = .ok (.isub, 1)) (g : own_Go p.tables e below P (T.setTop (mkF m (pc + 1) Ls (.int (x - y) :: st)))) : own_Go p.tables e below P (T.setTop (mkF m pc Ls (.int y :: .int x :: st))) := own_st (fun t k => XS.isub X.here hx rfl hd rfl k) g
theorem o_lsub (X : Stand p l e R s m args below meth c T locs cells slots) (hx : p.tables.exec = Jvm.exec) {x y : Int64} (hd : decode c.code pc = .ok (.lsub, 1)) (g : own_Go p.tables e below P (T.setTop (mkF m (pc + 1) Ls (.long (x - y) :: st)))) : own_Go p.tables e below P (T.setTop (mkF m pc Ls (.long y :: .long x :: st))) := own_st (fun t k => XS.lsub X.here hx rfl hd rfl k) g
theorem o_imul (X : Stand p l e R s m args below meth c T locs cells slots) (hx : p.tables.exec = Jvm.exec) {x y : Int32} (hd : decode c.code pc = .ok (.imul, 1)) (g : own_Go p.tables e below P (T.setTop (mkF m (pc + 1) Ls (.int (x * y) :: st)))) : own_Go p.tables e below P (T.setTop (mkF m pc Ls (.int y :: .int x :: st))) := own_st (fun t k => XS.imul X.here hx rfl hd rfl k) g
theorem o_lmul (X : Stand p l e R s m args below meth c T locs cells slots) (hx : p.tables.exec = Jvm.exec) {x y : Int64} (hd : decode c.code pc = .ok (.lmul, 1)) (g : own_Go p.tables e below P (T.setTop (mkF m (pc + 1) Ls (.long (x * y) :: st)))) : own_Go p.tables e below P (T.setTop (mkF m pc Ls (.long y :: .long x :: st))) := own_st (fun t k => XS.lmul X.here hx rfl hd rfl k) g
theorem o_iand (X : Stand p l e R s m args below meth c T locs cells slots) (hx : p.tables.exec = Jvm.exec) {x y : Int32} (hd : decode c.code pc = .ok (.iand, 1)) (g : own_Go p.tables e below P (T.setTop (mkF m (pc + 1) Ls (.int (x &&& y) :: st)))) : own_Go p.tables e below P (T.setTop (mkF m pc Ls (.int y :: .int x :: st))) := own_st (fun t k => XS.iand X.here hx rfl hd rfl k) g
theorem o_land (X : Stand p l e R s m args below meth c T locs cells slots) (hx : p.tables.exec = Jvm.exec) {x y : Int64} (hd : decode c.code pc = .ok (.land, 1)) (g : own_Go p.tables e below P (T.setTop (mkF m (pc + 1) Ls (.long (x &&& y) :: st)))) : own_Go p.tables e below P (T.setTop (mkF m pc Ls (.long y :: .long x :: st))) := own_st (fun t k => XS.land X.here hx rfl hd rfl k) g
theorem o_ior (X : Stand p l e R s m args below meth c T locs cells slots) (hx : p.tables.exec = Jvm.exec) {x y : Int32} (hd : decode c.code pc = .ok (.ior, 1)) (g : own_Go p.tables e below P (T.setTop (mkF m (pc + 1) Ls (.int (x ||| y) :: st)))) : own_Go p.tables e below P (T.setTop (mkF m pc Ls (.int y :: .int x :: st))) := own_st (fun t k => XS.ior X.here hx rfl hd rfl k) g
theorem o_lor (X : Stand p l e R s m args below meth c T locs cells slots) (hx : p.tables.exec = Jvm.exec) {x y : Int64} (hd : decode c.code pc = .ok (.lor, 1)) (g : own_Go p.tables e below P (T.setTop (mkF m (pc + 1) Ls (.long (x ||| y) :: st)))) : own_Go p.tables e below P (T.setTop (mkF m pc Ls (.long y :: .long x :: st))) := own_st (fun t k => XS.lor X.here hx rfl hd rfl k) g
theorem o_ixor (X : Stand p l e R s m args below meth c T locs cells slots) (hx : p.tables.exec = Jvm.exec) {x y : Int32} (hd : decode c.code pc = .ok (.ixor, 1)) (g : own_Go p.tables e below P (T.setTop (mkF m (pc + 1) Ls (.int (x ^^^ y) :: st)))) : own_Go p.tables e below P (T.setTop (mkF m pc Ls (.int y :: .int x :: st))) := own_st (fun t k => XS.ixor X.here hx rfl hd rfl k) g
theorem o_lxor (X : Stand p l e R s m args below meth c T locs cells slots) (hx : p.tables.exec = Jvm.exec) {x y : Int64} (hd : decode c.code pc = .ok (.lxor, 1)) (g : own_Go p.tables e below P (T.setTop (mkF m (pc + 1) Ls (.long (x ^^^ y) :: st)))) : own_Go p.tables e below P (T.setTop (mkF m pc Ls (.long y :: .long x :: st))) := own_st (fun t k => XS.lxor X.here hx rfl hd rfl k) g
theorem o_idiv (X : Stand p l e R s m args below meth c T locs cells slots) (hx : p.tables.exec = Jvm.exec) {x y : Int32} (hd : decode c.code pc = .ok (.idiv, 1)) (hy : y ≠ 0) (g : own_Go p.tables e below P (T.setTop (mkF m (pc + 1) Ls (.int (x / y) :: st)))) : own_Go p.tables e below P (T.setTop (mkF m pc Ls (.int y :: .int x :: st))) := own_st (fun t k => XS.idiv X.here hx rfl hd rfl hy k) g
theorem o_irem (X : Stand p l e R s m args below meth c T locs cells slots) (hx : p.tables.exec = Jvm.exec) {x y : Int32} (hd : decode c.code pc = .ok (.irem, 1)) (hy : y ≠ 0) (g : own_Go p.tables e below P (T.setTop (mkF m (pc + 1) Ls (.int (x - x / y * y) :: st)))) : own_Go p.tables e below P (T.setTop (mkF m pc Ls (.int y :: .int x :: st))) := own_st (fun t k => XS.irem X.here hx rfl hd rfl hy k) g
theorem o_ldiv (X : Stand p l e R s m args below meth c T locs cells slots) (hx : p.tables.exec = Jvm.exec) {x y : Int64} (hd : decode c.code pc = .ok (.ldiv, 1)) (hy : y ≠ 0) (g : own_Go p.tables e below P (T.setTop (mkF m (pc + 1) Ls (.long (x / y) :: st)))) : own_Go p.tables e below P (T.setTop (mkF m pc Ls (.long y :: .long x :: st))) := own_st (fun t k => XS.ldiv X.here hx rfl hd rfl hy k) g
theorem o_lrem (X : Stand p l e R s m args below meth c T locs cells slots) (hx : p.tables.exec = Jvm.exec) {x y : Int64} (hd : decode c.code pc = .ok (.lrem, 1)) (hy : y ≠ 0) (g : own_Go p.tables e below P (T.setTop (mkF m (pc + 1) Ls (.long (x - x / y * y) :: st)))) : own_Go p.tables e below P (T.setTop (mkF m pc Ls (.long y :: .long x :: st))) := own_st (fun t k => XS.lrem X.here hx rfl hd rfl hy k) g
theorem o_ineg (X : Stand p l e R s m args below meth c T locs cells slots) (hx : p.tables.exec = Jvm.exec) {x : Int32} (hd : decode c.code pc = .ok (.ineg, 1)) (g : own_Go p.tables e below P (T.setTop (mkF m (pc + 1) Ls (.int ((-x)) :: st)))) : own_Go p.tables e below P (T.setTop (mkF m pc Ls (.int x :: st))) := own_st (fun t k => XS.ineg X.here hx rfl hd rfl k) g
theorem o_lneg (X : Stand p l e R s m args below meth c T locs cells slots) (hx : p.tables.exec = Jvm.exec) {x : Int64} (hd : decode c.code pc = .ok (.lneg, 1)) (g : own_Go p.tables e below P (T.setTop (mkF m (pc + 1) Ls (.long ((-x)) :: st)))) : own_Go p.tables e below P (T.setTop (mkF m pc Ls (.long x :: st))) := own_st (fun t k => XS.lneg X.here hx rfl hd rfl k) g
theorem o_i2l (X : Stand p l e R s m args below meth c T locs cells slots) (hx : p.tables.exec = Jvm.exec) {x : Int32} (hd : decode c.code pc = .ok (.i2l, 1)) (g : own_Go p.tables e below P (T.setTop (mkF m (pc + 1) Ls (.long (x.toInt64) :: st)))) : own_Go p.tables e below P (T.setTop (mkF m pc Ls (.int x :: st))) := own_st (fun t k => XS.i2l X.here hx rfl hd rfl k) g
theorem o_l2i (X : Stand p l e R s m args below meth c T locs cells slots) (hx : p.tables.exec = Jvm.exec) {x : Int64} (hd : decode c.code pc = .ok (.l2i, 1)) (g : own_Go p.tables e below P (T.setTop (mkF m (pc + 1) Ls (.int (x.toInt32) :: st)))) : own_Go p.tables e below P (T.setTop (mkF m pc Ls (.long x :: st))) := own_st (fun t k => XS.l2i X.here hx rfl hd rfl k) g
theorem o_i2b (X : Stand p l e R s m args below meth c T locs cells slots) (hx : p.tables.exec = Jvm.exec) {x : Int32} (hd : decode c.code pc = .ok (.i2b, 1)) (g : own_Go p.tables e below P (T.setTop (mkF m (pc + 1) Ls (.int (x.toInt8.toInt32) :: st)))) : own_Go p.tables e below P (T.setTop (mkF m pc Ls (.int x :: st))) := own_st (fun t k => XS.i2b X.here hx rfl hd rfl k) g
theorem o_i2s (X : Stand p l e R s m args below meth c T locs cells slots) (hx : p.tables.exec = Jvm.exec) {x : Int32} (hd : decode c.code pc = .ok (.i2s, 1)) (g : own_Go p.tables e below P (T.setTop (mkF m (pc + 1) Ls (.int (x.toInt16.toInt32) :: st)))) : own_Go p.tables e below P (T.setTop (mkF m pc Ls (.int x :: st))) := own_st (fun t k => XS.i2s X.here hx rfl hd rfl k) g
theorem o_i2c (X : Stand p l e R s m args below meth c T locs cells slots) (hx : p.tables.exec = Jvm.exec) {x : Int32} (hd : decode c.code pc = .ok (.i2c, 1)) (g : own_Go p.tables e below P (T.setTop (mkF m (pc + 1) Ls (.int (x.toUInt32.toUInt16.toUInt32.toInt32) :: st)))) : own_Go p.tables e below P (T.setTop (mkF m pc Ls (.int x :: st))) := own_st (fun t k => XS.i2c X.here hx rfl hd rfl k) g
theorem o_ishl (X : Stand p l e R s m args below meth c T locs cells slots) (hx : p.tables.exec = Jvm.exec) {x : Int32} {y : Int32} (hd : decode c.code pc = .ok (.ishl, 1)) (g : own_Go p.tables e below P (T.setTop (mkF m (pc + 1) Ls (.int (x <<< (y &&& 31)) :: st)))) : own_Go p.tables e below P (T.setTop (mkF m pc Ls (.int y :: .int x :: st))) := own_st (fun t k => XS.ishl X.here hx rfl hd rfl k) g
theorem o_ishr (X : Stand p l e R s m args below meth c T locs cells slots) (hx : p.tables.exec = Jvm.exec) {x : Int32} {y : Int32} (hd : decode c.code pc = .ok (.ishr, 1)) (g : own_Go p.tables e below P (T.setTop (mkF m (pc + 1) Ls (.int (x >>> (y &&& 31)) :: st)))) : own_Go p.tables e below P (T.setTop (mkF m pc Ls (.int y :: .int x :: st))) := own_st (fun t k => XS.ishr X.here hx rfl hd rfl k) g
theorem o_iushr (X : Stand p l e R s m args below meth c T locs cells slots) (hx : p.tables.exec = Jvm.exec) {x : Int32} {y : Int32} (hd : decode c.code pc = .ok (.iushr, 1)) (g : own_Go p.tables e below P (T.setTop (mkF m (pc + 1) Ls (.int ((x.toUInt32 >>> (y &&& 31).toUInt32).toInt32) :: st)))) : own_Go p.tables e below P (T.setTop (mkF m pc Ls (.int y :: .int x :: st))) := own_st (fun t k => XS.iushr X.here hx rfl hd rfl k) g
theorem o_lshl (X : Stand p l e R s m args below meth c T locs cells slots) (hx : p.tables.exec = Jvm.exec) {x : Int64} {y : Int32} (hd : decode c.code pc = .ok (.lshl, 1)) (g : own_Go p.tables e below P (T.setTop (mkF m (pc + 1) Ls (.long (x <<< (y &&& 0x3f).toInt64) :: st)))) : own_Go p.tables e below P (T.setTop (mkF m pc Ls (.int y :: .long x :: st))) := own_st (fun t k => XS.lshl X.here hx rfl hd rfl k) g
theorem o_lshr (X : Stand p l e R s m args below meth c T locs cells slots) (hx : p.tables.exec = Jvm.exec) {x : Int64} {y : Int32} (hd : decode c.code pc = .ok (.lshr, 1)) (g : own_Go p.tables e below P (T.setTop (mkF m (pc + 1) Ls (.long (x >>> (y &&& 0x3f).toInt64) :: st)))) : own_Go p.tables e below P (T.setTop (mkF m pc Ls (.int y :: .long x :: st))) := own_st (fun t k => XS.lshr X.here hx rfl hd rfl k) g
theorem o_lushr (X : Stand p l e R s m args below meth c T locs cells slots) (hx : p.tables.exec = Jvm.exec) {x : Int64} {y : Int32} (hd : decode c.code pc = .ok (.lushr, 1)) (g : own_Go p.tables e below P (T.setTop (mkF m (pc + 1) Ls (.long ((x.toUInt64 >>> (y &&& 0x3f).toInt64.toUInt64).toInt64) :: st)))) : own_Go p.tables e below P (T.setTop (mkF m pc Ls (.int y :: .long x :: st))) := own_st (fun t k => XS.lushr X.here hx rfl hd rfl k) g
theorem o_lcmp (X : Stand p l e R s m args below meth c T locs cells slots) (hx : p.tables.exec = Jvm.exec) {x y : Int64} (hd : decode c.code pc = .ok (.lcmp, 1)) (g : own_Go p.tables e below P (T.setTop (mkF m (pc + 1) Ls (.int (lcmpW x y) :: st)))) : own_Go p.tables e below P (T.setTop (mkF m pc Ls (.long y :: .long x :: st))) := own_st (fun t k => XS.lcmp X.here hx rfl hd rfl k) g
theorem o_iinc (X : Stand p l e R s m args below meth c T locs cells slots) (hx : p.tables.exec = Jvm.exec) {k : Nat} {cst : Int} {x : Int32} {l' : Array Slot} (hd : decode c.code pc = .ok (.iinc k cst, 3)) (hl : Ls[k]? = some (.val (.int x))) (hl' : storeLocals Ls k (.int (x + Int32.ofInt cst)) = some l') (g : own_Go p.tables e below P (T.setTop (mkF m (pc + 3) l' st))) : own_Go p.tables e below P (T.setTop (mkF m pc Ls st)) := own_st (fun t k => XS.iinc X.here hx rfl hd hl hl' k) g
theorem o_dup (X : Stand p l e R s m args below meth c T locs cells slots) (hx : p.tables.exec = Jvm.exec) {x : Value} (hd : decode c.code pc = .ok (.dup, 1)) (hc : x.category = 1) (g : own_Go p.tables e below P (T.setTop (mkF m (pc + 1) Ls (x :: x :: st)))) : own_Go p.tables e below P (T.setTop (mkF m pc Ls (x :: st))) := own_st (fun t k => XS.dup X.here hx rfl hd rfl hc k) g
theorem o_pop (X : Stand p l e R s m args below meth c T locs cells slots) (hx : p.tables.exec = Jvm.exec) {x : Value} (hd : decode c.code pc = .ok (.pop, 1)) (hc : x.category = 1) (g : own_Go p.tables e below P (T.setTop (mkF m (pc + 1) Ls st))) : own_Go p.tables e below P (T.setTop (mkF m pc Ls (x :: st))) := own_st (fun t k => XS.pop X.here hx rfl hd rfl hc k) g
theorem o_dupX1 (X : Stand p l e R s m args below meth c T locs cells slots) (hx : p.tables.exec = Jvm.exec) {x y : Value} (hd : decode c.code pc = .ok (.dup_x1, 1)) (hc : x.category = 1) (hc' : y.category = 1) (g : own_Go p.tables e below P (T.setTop (mkF m (pc + 1) Ls (x :: y :: x :: st)))) : own_Go p.tables e below P (T.setTop (mkF m pc Ls (x :: y :: st))) := own_st (fun t k => XS.dupX1 X.here hx rfl hd rfl hc hc' k) g
theorem o_dup2 (X : Stand p l e R s m args below meth c T locs cells slots) (hx : p.tables.exec = Jvm.exec) {x y : Value} (hd : decode c.code pc = .ok (.dup2, 1)) (hc : x.category = 1) (hc' : y.category = 1) (g : own_Go p.tables e below P (T.setTop (mkF m (pc + 1) Ls (x :: y :: x :: y :: st)))) : own_Go p.tables e below P (T.setTop (mkF m pc Ls (x :: y :: st))) := own_st (fun t k => Jvm.Free.XT.dup2 X.here hx rfl hd rfl hc hc' k) g
theorem o_goto (X : Stand p l e R s m args below meth c T locs cells slots) (hx : p.tables.exec = Jvm.exec) {o : Int} {pc' : Nat} (hd : decode c.code pc = .ok (.goto o, 3)) (ho : 0 ≤ (pc : Int) + o) (hp : ((pc : Int) + o).toNat = pc') (g : own_Go p.tables e below P (T.setTop (mkF m pc' Ls st))) : own_Go p.tables e below P (T.setTop (mkF m pc Ls st)) := own_st (fun t k => XS.goto X.here hx rfl rfl hd ho hp k) g
theorem o_ifYes (X : Stand p l e R s m args below meth c T locs cells slots) (hx : p.tables.exec = Jvm.exec) {cd : ClassFile.Cond} {x : Int32} {o : Int} {pc' : Nat} (hd : decode c.code pc = .ok (.ifCond cd o, 3)) (hc : if_icmp.holds cd x 0 = true) (ho : 0 ≤ (pc : Int) + o) (hp : ((pc : Int) + o).toNat = pc') (g : own_Go p.tables e below P (T.setTop (mkF m pc' Ls st))) : own_Go p.tables e below P (T.setTop (mkF m pc Ls (.int x :: st))) := own_st (fun t k => XS.ifYes X.here hx rfl rfl hd rfl ((if0 _ _).trans hc) ho hp k) g
theorem o_ifNo (X : Stand p l e R s m args below meth c T locs cells slots) (hx : p.tables.exec = Jvm.exec) {cd : ClassFile.Cond} {x : Int32} {o : Int} (hd : decode c.code pc = .ok (.ifCond cd o, 3)) (hc : if_icmp.holds cd x 0 = false) (g : own_Go p.tables e below P (T.setTop (mkF m (pc + 3) Ls st))) : own_Go p.tables e below P (T.setTop (mkF m pc Ls (.int x :: st))) := own_st (fun t k => XS.ifNo X.here hx rfl hd rfl ((if0 _ _).trans hc) k) g
theorem o_icmpYes (X : Stand p l e R s m args below meth c T locs cells slots) (hx : p.tables.exec = Jvm.exec) {cd : ClassFile.Cond} {x y : Int32} {o : Int} {pc' : Nat} (hd : decode c.code pc = .ok (.if_icmp cd o, 3)) (hc : if_icmp.holds cd x y = true) (ho : 0 ≤ (pc : Int) + o) (hp : ((pc : Int) + o).toNat = pc') (g : own_Go p.tables e below P (T.setTop (mkF m pc' Ls st))) : own_Go p.tables e below P (T.setTop (mkF m pc Ls (.int y :: .int x :: st))) := own_st (fun t k => XS.icmpYes X.here hx rfl rfl hd rfl hc ho hp k) g
theorem o_icmpNo (X : Stand p l e R s m args below meth c T locs cells slots) (hx : p.tables.exec = Jvm.exec) {cd : ClassFile.Cond} {x y : Int32} {o : Int} (hd : decode c.code pc = .ok (.if_icmp cd o, 3)) (hc : if_icmp.holds cd x y = false) (g : own_Go p.tables e below P (T.setTop (mkF m (pc + 3) Ls st))) : own_Go p.tables e below P (T.setTop (mkF m pc Ls (.int y :: .int x :: st))) := own_st (fun t k => XS.icmpNo X.here hx rfl hd rfl hc k) g
theorem o_ifnullYes (X : Stand p l e R s m args below meth c T locs cells slots) (hx : p.tables.exec = Jvm.exec) {o : Int} {pc' : Nat} (hd : decode c.code pc = .ok (.ifnull o, 3)) (ho : 0 ≤ (pc : Int) + o) (hp : ((pc : Int) + o).toNat = pc') (g : own_Go p.tables e below P (T.setTop (mkF m pc' Ls st))) : own_Go p.tables e below P (T.setTop (mkF m pc Ls (.null :: st))) := own_st (fun t k => XS.ifnullYes X.here hx rfl rfl hd rfl ho hp k) g
theorem o_ifnullNo (X : Stand p l e R s m args below meth c T locs cells slots) (hx : p.tables.exec = Jvm.exec) {o : Int} {b : Addr} (hd : decode c.code pc = .ok (.ifnull o, 3)) (g : own_Go p.tables e below P (T.setTop (mkF m (pc + 3) Ls st))) : own_Go p.tables e below P (T.setTop (mkF m pc Ls (.ref b :: st))) := own_st (fun t k => XS.ifnullNo X.here hx rfl hd rfl k) g
theorem o_ifnonnullNo (X : Stand p l e R s m args below meth c T locs cells slots) (hx : p.tables.exec = Jvm.exec) {o : Int} (hd : decode c.code pc = .ok (.ifnonnull o, 3)) (g : own_Go p.tables e below P (T.setTop (mkF m (pc + 3) Ls st))) : own_Go p.tables e below P (T.setTop (mkF m pc Ls (.null :: st))) := own_st (fun t k => XS.ifnonnullNo X.here hx rfl hd rfl k) g
theorem o_ifnonnullYes (X : Stand p l e R s m args below meth c T locs cells slots) (hx : p.tables.exec = Jvm.exec) {o : Int} {b : Addr} {pc' : Nat} (hd : decode c.code pc = .ok (.ifnonnull o, 3)) (ho : 0 ≤ (pc : Int) + o) (hp : ((pc : Int) + o).toNat = pc') (g : own_Go p.tables e below P (T.setTop (mkF m pc' Ls st))) : own_Go p.tables e below P (T.setTop (mkF m pc Ls (.ref b :: st))) := own_st (fun t k => XS.ifnonnullYes X.here hx rfl rfl hd rfl ho hp k) g
theorem o_ldc (X : Stand p l e R s m args below meth c T locs cells slots) (hx : p.tables.exec = Jvm.exec) {own : String} {index : Nat} {v : Int32} (hown : s.vm.findClass own = some m.cls) (hd : decode c.code pc = .ok (.ldc index, 2)) (hk : (Cond.constant own index v).before args s = true) (g : own_Go p.tables e below P (T.setTop (mkF m (pc + 2) Ls (.int v :: st)))) : own_Go p.tables e below P (T.setTop (mkF m pc Ls st)) := own_st (X.ldcInt hx hown hk (g := mkF m pc Ls st) rfl hd) g
theorem o_ldc2 (X : Stand p l e R s m args below meth c T locs cells slots) (hx : p.tables.exec = Jvm.exec) {own : String} {index : Nat} {v : Int64} (hown : s.vm.findClass own = some m.cls) (hd : decode c.code pc = .ok (.ldc2_w index, 3)) (hk : (Cond.constantLong own index v).before args s = true) (g : own_Go p.tables e below P (T.setTop (mkF m (pc + 3) Ls (.long v :: st)))) : own_Go p.tables e below P (T.setTop (mkF m pc Ls st)) := own_st (X.ldc2Long hx hown hk (g := mkF m pc Ls st) rfl hd) g
end Steps2
end Jvm.RoadKit
namespace Jvm.Pilot.@@N@@
open Jvm Jvm.ClassFile Sem Op Lib Jvm.Free Jvm.Stand Jvm.LawKit Jvm.RoadKit Bundle Jvm.Pilot.@@N@@.Jvm.D
theorem pn_2 : plainName "java/lang/Record" = true := by first | (simp [plainName, overriddenIn]; done) | decide +kernel
theorem d2_0 : decode jdk_30_method_1_code 0 = .ok (.aload_n 0, 1) := by decide +kernel
theorem d2_1 : decode jdk_30_method_1_code 1 = .ok (.invokespecial 1, 3) := by decide +kernel
theorem d2_4 : decode jdk_30_method_1_code 4 = .ok (.return_, 1) := by decide +kernel
theorem ef_rm2 (m : MethodId) (a1 : Addr) : entryFrame m #[(.ref a1)] 1 = mkF m 0 #[rv a1] [] := by first | (simp [entryFrame, mkF, argsToLocals, Value.category]; done) | rfl
def Q_rm2 (Z : State) (a0 : Array Value) (a1 : Addr)  (h0 : Heap) (n0 : Nat) (v : Option Value) (h : Heap) (L : List Loc) : Prop := v = none ∧ Fr n0 L ∧ h = h0
set_option maxRecDepth 65536 in
set_option maxHeartbeats 40000000 in
theorem rm2 (l : Launch) (Z : State) (a0 : Array Value) (hw : ∀ d ∈ tables_1, d.before a0 Z = true) (ws : List Jvm.Cond) (a1 : Addr)  (h0 : Heap) (n0 : Nat) (Z0 : n0 ≤ h0.size) :
    MetFree l (⟨"java/lang/Record", "<init>", "()V"⟩ : MethodName) (head1 (Jvm.Cond.code (⟨"java/lang/Record", "<init>", "()V"⟩ : MethodName) jdk_30_method_1_code 1 none :: ws) ({ frames := 1, cells := 0, slots := 0, locals := 12 } : Room)) (fun a U => a = #[(.ref a1)] ∧ Z.Warmed39 U.vm ∧ U.heap = h0) (fun _ _ _ _ _ => True) (fun _ U o U' => ∃ v L, o = .returned v ∧ Q_rm2 Z a0 a1 h0 n0 v U'.heap L ∧ FrameEnd U o U' L ({ frames := 1, cells := 0, slots := 0, locals := 12 } : Room).cells ({ frames := 1, cells := 0, slots := 0, locals := 12 } : Room).slots) := by
  refine MetFree.of_bodySF (plainFor_of_name pn_2) hisR ?_
  intro p e s m args below meth c s₁ Bd hml0 hP hK
  obtain ⟨rfl, hZ, hh⟩ := hP
  have hx := Bd.exec
  have hby := Bd.bytes
  have hml : c.maxLocals = 1 := hml0
  have hown : s.vm.findClass "java/lang/Record" = some m.cls := findClass_of_methodNamed Bd.named
  have hnm := (name_of_methodNamed Bd.named Bd.method).1
  have hlk : meth.locks = false := BodyLoose.notSynchronized (by assumption)
  have X0 : Stand p l e ({ frames := 1, cells := 0, slots := 0, locals := 12 } : Room) s m #[(.ref a1)] below meth c s₁ [] 0 0 := Stand.of_body Bd
  have e0 : s₁.heap = h0 := by rw [← hh, Bd.state]; rfl
  have N0 := Fr.nil n0
  show own_Go p.tables e below (fun o U' => ∃ v L, o = .returned v ∧ Q_rm2 Z a0 a1 h0 n0 v U'.heap L ∧ FrameEnd s o U' L ({ frames := 1, cells := 0, slots := 0, locals := 12 } : Room).cells ({ frames := 1, cells := 0, slots := 0, locals := 12 } : Room).slots) (s₁.setTop (entryFrame m #[(.ref a1)] 1))
  refine own_st (fun t k => castTop (ef_rm2 m a1) k) ?_
  show own_Go _ _ _ _ (s₁.setTop (mkF m 0 #[rv a1] []))
  refine o_aloadN X0 hx (hb hby d2_0) rfl rfl ?_
  obtain ⟨T1, X1, e1, st1⟩ := initO X0 hx hZ hown (hw _ (List.mem_of_getElem? (i := 11) rfl)) (hw _ (List.mem_of_getElem? (i := 12) rfl)) (hw _ (List.mem_of_getElem? (i := 13) rfl)) e0 (g := (mkF m 1 #[rv a1] [(.ref a1)])) rfl (by rw [hml]; rfl) rfl (hb hby d2_1) (by decide) (W := 0) (by show 2 * 0 + _ ≤ _; exact Nat.le_of_eq rfl) (by decide)
  refine own_st st1 ?_
  show own_Go _ _ _ _ (T1.setTop (mkF m 4 #[rv a1] []))
  exact own_end X1 e1 (v := none) (fun _ => rfl) hlk (fun fs hr => X1.returnOut hx Bd.returns (hb hby d2_4) hr) (Q := Q_rm2 Z a0 a1 h0 n0) ⟨rfl, N0, rfl⟩ (by decide) (by decide)
theorem pn_1 : plainName "com/example/nimble_anonymizer/nimbleanonymizer/Graph$Distances" = true := by first | (simp [plainName, overriddenIn]; done) | decide +kernel
theorem d1_0 : decode prog_15_method_1_code 0 = .ok (.aload_n 0, 1) := by decide +kernel
theorem d1_1 : decode prog_15_method_1_code 1 = .ok (.invokespecial 1, 3) := by decide +kernel
theorem pd_1 : parseMethodDescriptor "()V" = some ⟨[], none⟩ := by decide +kernel
theorem d1_4 : decode prog_15_method_1_code 4 = .ok (.aload_n 0, 1) := by decide +kernel
theorem d1_5 : decode prog_15_method_1_code 5 = .ok (.lload_n 1, 1) := by decide +kernel
theorem d1_6 : decode prog_15_method_1_code 6 = .ok (.putfield 7, 3) := by decide +kernel
theorem d1_9 : decode prog_15_method_1_code 9 = .ok (.aload_n 0, 1) := by decide +kernel
theorem d1_10 : decode prog_15_method_1_code 10 = .ok (.iload_n 3, 1) := by decide +kernel
theorem d1_11 : decode prog_15_method_1_code 11 = .ok (.putfield 13, 3) := by decide +kernel
theorem d1_14 : decode prog_15_method_1_code 14 = .ok (.return_, 1) := by decide +kernel
theorem ef_rm1 (m : MethodId) (a1 : Addr) (q2 : Int64) (p3 : Int32) : entryFrame m #[(.ref a1), (.long q2), (.int p3)] 4 = mkF m 0 #[rv a1, .val (.long q2), .second, iv p3] [] := by first | (simp [entryFrame, mkF, argsToLocals, Value.category]; done) | rfl
def Q_rm1 (Z : State) (a0 : Array Value) (a1 : Addr) (q2 : Int64) (p3 : Int32)  (h0 : Heap) (n0 : Nat) (v : Option Value) (h : Heap) (L : List Loc) : Prop := v = none ∧ Fr n0 L ∧ Keep h0 h [a1] ∧ Fld Z h a1 "com/example/nimble_anonymizer/nimbleanonymizer/Graph$Distances" "sum" "J" (.long q2) ∧ Fld Z h a1 "com/example/nimble_anonymizer/nimbleanonymizer/Graph$Distances" "longest" "I" (.int p3)
set_option maxRecDepth 65536 in
set_option maxHeartbeats 40000000 in
theorem rm1 (l : Launch) (Z : State) (a0 : Array Value) (hw : ∀ d ∈ tables_1, d.before a0 Z = true) (ws : List Jvm.Cond) (a1 : Addr) (q2 : Int64) (p3 : Int32)  (h0 : Heap) (n0 : Nat) (Z0 : n0 ≤ h0.size) (E1 : Exa Z h0 a1 "com/example/nimble_anonymizer/nimbleanonymizer/Graph$Distances") (g1 : n0 ≤ a1) (F0 : Fld Z h0 a1 "com/example/nimble_anonymizer/nimbleanonymizer/Graph$Distances" "sum" "J" (.long (0 : Int64))) (F1 : Fld Z h0 a1 "com/example/nimble_anonymizer/nimbleanonymizer/Graph$Distances" "longest" "I" (.int (0 : Int32))) :
    MetFree l (⟨"com/example/nimble_anonymizer/nimbleanonymizer/Graph$Distances", "<init>", "(JI)V"⟩ : MethodName) (head1 (Jvm.Cond.code (⟨"com/example/nimble_anonymizer/nimbleanonymizer/Graph$Distances", "<init>", "(JI)V"⟩ : MethodName) prog_15_method_1_code 4 none :: ws) ({ frames := 2, cells := 0, slots := 0, locals := 24 } : Room)) (fun a U => a = #[(.ref a1), (.long q2), (.int p3)] ∧ Z.Warmed39 U.vm ∧ U.heap = h0) (fun _ _ _ _ _ => True) (fun _ U o U' => ∃ v L, o = .returned v ∧ Q_rm1 Z a0 a1 q2 p3 h0 n0 v U'.heap L ∧ FrameEnd U o U' L ({ frames := 2, cells := 0, slots := 0, locals := 24 } : Room).cells ({ frames := 2, cells := 0, slots := 0, locals := 24 } : Room).slots) := by
  refine MetFree.of_bodySF (plainFor_of_name pn_1) hisR ?_
  intro p e s m args below meth c s₁ Bd hml0 hP hK
  obtain ⟨rfl, hZ, hh⟩ := hP
  have hx := Bd.exec
  have hby := Bd.bytes
  have hml : c.maxLocals = 4 := hml0
  have hown : s.vm.findClass "com/example/nimble_anonymizer/nimbleanonymizer/Graph$Distances" = some m.cls := findClass_of_methodNamed Bd.named
  have hnm := (name_of_methodNamed Bd.named Bd.method).1
  have hlk : meth.locks = false := BodyLoose.notSynchronized (by assumption)
  have X0 : Stand p l e ({ frames := 2, cells := 0, slots := 0, locals := 24 } : Room) s m #[(.ref a1), (.long q2), (.int p3)] below meth c s₁ [] 0 0 := Stand.of_body Bd
  have e0 : s₁.heap = h0 := by rw [← hh, Bd.state]; rfl
  have N0 := Fr.nil n0
  show own_Go p.tables e below (fun o U' => ∃ v L, o = .returned v ∧ Q_rm1 Z a0 a1 q2 p3 h0 n0 v U'.heap L ∧ FrameEnd s o U' L ({ frames := 2, cells := 0, slots := 0, locals := 24 } : Room).cells ({ frames := 2, cells := 0, slots := 0, locals := 24 } : Room).slots) (s₁.setTop (entryFrame m #[(.ref a1), (.long q2), (.int p3)] 4))
  refine own_st (fun t k => castTop (ef_rm1 m a1 q2 p3) k) ?_
  show own_Go _ _ _ _ (s₁.setTop (mkF m 0 #[rv a1, .val (.long q2), .second, iv p3] []))
  refine o_aloadN X0 hx (hb hby d1_0) rfl rfl ?_
  obtain ⟨_, _, ⟨T1, L1, k1, n1⟩, -, X1, ⟨Lc1, hQ1, l1, y1, z1⟩, st1⟩ := X0.specialBack hx (y := (⟨"java/lang/Record", "<init>", "()V"⟩ : MethodName)) rfl hown (mvT hZ (hw _ (List.mem_of_getElem? (i := 6) rfl))) (mvT hZ (hw _ (List.mem_of_getElem? (i := 7) rfl))) (mvT hZ (hw _ (List.mem_of_getElem? (i := 10) rfl))) (by decide) (backOf (W := 0) (rm2 l Z a0 hw [] a1  h0 n0 Z0) hZ (hw _ (List.mem_of_getElem? (i := 10) rfl)) (hw _ (List.mem_of_getElem? (i := 9) rfl)) (by decide) (by decide)) (g := (mkF m 1 #[rv a1, .val (.long q2), .second, iv p3] [(.ref a1)])) rfl (by rw [hml]; rfl) (Steps.refl _) (a := a1) (argsL := []) (rest := []) (lenOf pd_1 rfl) rfl (by show 2 * 0 + _ ≤ _; exact Nat.le_of_eq rfl) (hb hby d1_1) (fun _ _ => ⟨rfl, e0, (by decide : 0 + 0 ≤ _), (by decide : 0 + 0 ≤ _)⟩)
  dsimp only [Pt.U, Pt.locs, Pt.cells, Pt.slots] at X1 l1 y1 z1 st1 hQ1
  subst l1 y1 z1
  obtain ⟨rfl, Nq1, e1⟩ := hQ1
  have N1 := Fr.app N0 Nq1
  refine own_tr st1 ?_
  show own_Go _ _ _ _ (T1.setTop (mkF m 4 #[rv a1, .val (.long q2), .second, iv p3] []))
  refine o_aloadN X1 hx (hb hby d1_4) rfl rfl ?_
  refine o_lloadN X1 hx (hb hby d1_5) rfl ?_
  obtain ⟨T2, h2, X2, e2, W2, st2⟩ := putF X1 hx hZ hown (host := "") (Or.inl (hw _ (List.mem_of_getElem? (i := 14) rfl))) Via.refl e1 F0 E1 (Or.inr ⟨(hw _ (List.mem_of_getElem? (i := 15) rfl)), rfl, hnm⟩) (hw _ (List.mem_of_getElem? (i := 1) rfl)) (ty := .long) (by decide) rfl rfl (g := (mkF m 6 #[rv a1, .val (.long q2), .second, iv p3] [(.long q2), (.ref a1)])) rfl rfl (hb hby d1_6)
  refine own_st st2 ?_
  have N2 := Fr.snoc X2 N1 g1
  show own_Go _ _ _ _ (T2.setTop (mkF m 9 #[rv a1, .val (.long q2), .second, iv p3] []))
  refine o_aloadN X2 hx (hb hby d1_9) rfl rfl ?_
  refine o_iloadN X2 hx (hb hby d1_10) rfl ?_
  have Fa3 := (F1.other W2 (Or.inr (slot_ne (Or.inr (hw _ (List.mem_of_getElem? (i := 17) rfl))) (Or.inr (hw _ (List.mem_of_getElem? (i := 15) rfl))) (by decide) (t := .int) (t' := .long) (by decide) (by decide))))
  have Fa4 := (E1.wr W2)
  obtain ⟨T5, h5, X5, e5, W5, st5⟩ := putF X2 hx hZ hown (host := "") (Or.inl (hw _ (List.mem_of_getElem? (i := 16) rfl))) Via.refl e2 Fa3 Fa4 (Or.inr ⟨(hw _ (List.mem_of_getElem? (i := 17) rfl)), rfl, hnm⟩) (hw _ (List.mem_of_getElem? (i := 1) rfl)) (ty := .int) (by decide) rfl rfl (g := (mkF m 11 #[rv a1, .val (.long q2), .second, iv p3] [(.int p3), (.ref a1)])) rfl rfl (hb hby d1_11)
  refine own_st st5 ?_
  have N5 := Fr.snoc X5 N2 g1
  show own_Go _ _ _ _ (T5.setTop (mkF m 14 #[rv a1, .val (.long q2), .second, iv p3] []))
  have Kp6 : Keep h0 h5 [a1] := (((Keep.refl h0 [a1]).wr W2 (Or.inl (List.mem_of_getElem? (i := 0) rfl))).wr W5 (Or.inl (List.mem_of_getElem? (i := 0) rfl)))
  have Fa7 := ((F0.same W2).other W5 (Or.inr (slot_ne (Or.inr (hw _ (List.mem_of_getElem? (i := 15) rfl))) (Or.inr (hw _ (List.mem_of_getElem? (i := 17) rfl))) (by decide) (t := .long) (t' := .int) (by decide) (by decide))))
  have Fa8 := (Fa3.same W5)
  exact own_end X5 e5 (v := none) (fun _ => rfl) hlk (fun fs hr => X5.returnOut hx Bd.returns (hb hby d1_14) hr) (Q := Q_rm1 Z a0 a1 q2 p3 h0 n0) ⟨rfl, N5, Kp6, Fa7, Fa8⟩ (by decide) (by decide)
def own_max (p1 : Int32) (p2 : Int32)  : Int32 := (if p1 < p2 then p2 else p1)
theorem d5_0 : decode jdk_29_method_65_code 0 = .ok (.iload_n 0, 1) := by decide +kernel
theorem d5_1 : decode jdk_29_method_65_code 1 = .ok (.iload_n 1, 1) := by decide +kernel
theorem d5_2 : decode jdk_29_method_65_code 2 = .ok (.if_icmp .lt 7, 3) := by decide +kernel
theorem d5_9 : decode jdk_29_method_65_code 9 = .ok (.iload_n 1, 1) := by decide +kernel
theorem d5_10 : decode jdk_29_method_65_code 10 = .ok (.ireturn, 1) := by decide +kernel
theorem d5_5 : decode jdk_29_method_65_code 5 = .ok (.iload_n 0, 1) := by decide +kernel
theorem d5_6 : decode jdk_29_method_65_code 6 = .ok (.goto 4, 3) := by decide +kernel
theorem ef_rm5 (m : MethodId) (p1 : Int32) (p2 : Int32) : entryFrame m #[(.int p1), (.int p2)] 2 = mkF m 0 #[iv p1, iv p2] [] := by first | (simp [entryFrame, mkF, argsToLocals, Value.category]; done) | rfl
def Q_rm5 (Z : State) (a0 : Array Value) (p1 : Int32) (p2 : Int32)  (h0 : Heap) (n0 : Nat) (v : Option Value) (h : Heap) (L : List Loc) : Prop := v = some (.int (own_max p1 p2)) ∧ Fr n0 L ∧ h = h0
set_option maxRecDepth 65536 in
set_option maxHeartbeats 40000000 in
theorem rm5 (l : Launch) (Z : State) (a0 : Array Value) (hw : ∀ d ∈ tables_1, d.before a0 Z = true) (ws : List Jvm.Cond) (p1 : Int32) (p2 : Int32)  (h0 : Heap) (n0 : Nat) (Z0 : n0 ≤ h0.size) :
    MetFree l (⟨"java/lang/Math", "max", "(II)I"⟩ : MethodName) (head1 (Jvm.Cond.code (⟨"java/lang/Math", "max", "(II)I"⟩ : MethodName) jdk_29_method_65_code 2 (some .int) :: ws) ({ frames := 0, cells := 0, slots := 0, locals := 0 } : Room)) (fun a U => a = #[(.int p1), (.int p2)] ∧ Z.Warmed39 U.vm ∧ U.heap = h0) (fun _ _ _ _ _ => True) (fun _ U o U' => ∃ v L, o = .returned v ∧ Q_rm5 Z a0 p1 p2 h0 n0 v U'.heap L ∧ FrameEnd U o U' L ({ frames := 0, cells := 0, slots := 0, locals := 0 } : Room).cells ({ frames := 0, cells := 0, slots := 0, locals := 0 } : Room).slots) := by
  refine MetFree.of_bodySF (Jvm.Free.JP.mathPlain rfl (by decide +kernel)) hisR ?_
  intro p e s m args below meth c s₁ Bd hml0 hP hK
  obtain ⟨rfl, hZ, hh⟩ := hP
  have hx := Bd.exec
  have hby := Bd.bytes
  have hml : c.maxLocals = 2 := hml0
  have hown : s.vm.findClass "java/lang/Math" = some m.cls := findClass_of_methodNamed Bd.named
  have hnm := (name_of_methodNamed Bd.named Bd.method).1
  have hlk : meth.locks = false := BodyLoose.notSynchronized (by assumption)
  have X0 : Stand p l e ({ frames := 0, cells := 0, slots := 0, locals := 0 } : Room) s m #[(.int p1), (.int p2)] below meth c s₁ [] 0 0 := Stand.of_body Bd
  have e0 : s₁.heap = h0 := by rw [← hh, Bd.state]; rfl
  have N0 := Fr.nil n0
  show own_Go p.tables e below (fun o U' => ∃ v L, o = .returned v ∧ Q_rm5 Z a0 p1 p2 h0 n0 v U'.heap L ∧ FrameEnd s o U' L ({ frames := 0, cells := 0, slots := 0, locals := 0 } : Room).cells ({ frames := 0, cells := 0, slots := 0, locals := 0 } : Room).slots) (s₁.setTop (entryFrame m #[(.int p1), (.int p2)] 2))
  refine own_st (fun t k => castTop (ef_rm5 m p1 p2) k) ?_
  have hv : own_max p1 p2 = (if p1 < p2 then p2 else p1) := rfl
  show own_Go _ _ _ _ (s₁.setTop (mkF m 0 #[iv p1, iv p2] []))
  refine o_iloadN X0 hx (hb hby d5_0) rfl ?_
  refine o_iloadN X0 hx (hb hby d5_1) rfl ?_
  by_cases hc2_1 : p1 < p2
  · have hv2 := hv.trans (if_pos hc2_1)
    refine o_icmpYes X0 hx (pc' := 9) (hb hby d5_2) (tlt hc2_1).1 (by decide) (by decide) ?_
    refine o_iloadN X0 hx (hb hby d5_9) rfl ?_
    exact own_end X0 e0 (v := some (.int p2)) (fun h => by rw [Bd.returns] at h; cases h) hlk (fun fs hr => retI X0 hx Bd.returns (hb hby d5_10) hr) (Q := Q_rm5 Z a0 p1 p2 h0 n0) ⟨(congrArg (fun z => some (Value.int z)) hv2.symm), N0, rfl⟩ (by decide) (by decide)
  · have hv3 := hv.trans (if_neg hc2_1)
    refine o_icmpNo X0 hx (hb hby d5_2) (flt hc2_1).1 ?_
    refine o_iloadN X0 hx (hb hby d5_5) rfl ?_
    refine o_goto X0 hx (pc' := 10) (hb hby d5_6) (by decide) (by decide) ?_
    exact own_end X0 e0 (v := some (.int p1)) (fun h => by rw [Bd.returns] at h; cases h) hlk (fun fs hr => retI X0 hx Bd.returns (hb hby d5_10) hr) (Q := Q_rm5 Z a0 p1 p2 h0 n0) ⟨(congrArg (fun z => some (Value.int z)) hv3.symm), N0, rfl⟩ (by decide) (by decide)
def own_larger (p1 : Int32) (p2 : Int32)  : Int32 := (if p1 < p2 then p2 else p1)
theorem pn_6 : plainName "com/example/nimble_anonymizer/nimbleanonymizer/DistancesPlusPinLaw" = true := by first | (simp [plainName, overriddenIn]; done) | decide +kernel
theorem d6_0 : decode method_2_code 0 = .ok (.iload_n 0, 1) := by decide +kernel
theorem d6_1 : decode method_2_code 1 = .ok (.iload_n 1, 1) := by decide +kernel
theorem d6_2 : decode method_2_code 2 = .ok (.if_icmp .ge 5, 3) := by decide +kernel
theorem d6_5 : decode method_2_code 5 = .ok (.iload_n 1, 1) := by decide +kernel
theorem d6_6 : decode method_2_code 6 = .ok (.ireturn, 1) := by decide +kernel
theorem d6_7 : decode method_2_code 7 = .ok (.iload_n 0, 1) := by decide +kernel
theorem d6_8 : decode method_2_code 8 = .ok (.ireturn, 1) := by decide +kernel
theorem ef_rm6 (m : MethodId) (p1 : Int32) (p2 : Int32) : entryFrame m #[(.int p1), (.int p2)] 2 = mkF m 0 #[iv p1, iv p2] [] := by first | (simp [entryFrame, mkF, argsToLocals, Value.category]; done) | rfl
def Q_rm6 (Z : State) (a0 : Array Value) (p1 : Int32) (p2 : Int32)  (h0 : Heap) (n0 : Nat) (v : Option Value) (h : Heap) (L : List Loc) : Prop := v = some (.int (own_larger p1 p2)) ∧ Fr n0 L ∧ h = h0
set_option maxRecDepth 65536 in
set_option maxHeartbeats 40000000 in
theorem rm6 (l : Launch) (Z : State) (a0 : Array Value) (hw : ∀ d ∈ tables_1, d.before a0 Z = true) (ws : List Jvm.Cond) (p1 : Int32) (p2 : Int32)  (h0 : Heap) (n0 : Nat) (Z0 : n0 ≤ h0.size) :
    MetFree l (⟨"com/example/nimble_anonymizer/nimbleanonymizer/DistancesPlusPinLaw", "larger", "(II)I"⟩ : MethodName) (head1 (Jvm.Cond.code (⟨"com/example/nimble_anonymizer/nimbleanonymizer/DistancesPlusPinLaw", "larger", "(II)I"⟩ : MethodName) method_2_code 2 (some .int) :: ws) ({ frames := 0, cells := 0, slots := 0, locals := 0 } : Room)) (fun a U => a = #[(.int p1), (.int p2)] ∧ Z.Warmed39 U.vm ∧ U.heap = h0) (fun _ _ _ _ _ => True) (fun _ U o U' => ∃ v L, o = .returned v ∧ Q_rm6 Z a0 p1 p2 h0 n0 v U'.heap L ∧ FrameEnd U o U' L ({ frames := 0, cells := 0, slots := 0, locals := 0 } : Room).cells ({ frames := 0, cells := 0, slots := 0, locals := 0 } : Room).slots) := by
  refine MetFree.of_bodySF (plainFor_of_name pn_6) hisR ?_
  intro p e s m args below meth c s₁ Bd hml0 hP hK
  obtain ⟨rfl, hZ, hh⟩ := hP
  have hx := Bd.exec
  have hby := Bd.bytes
  have hml : c.maxLocals = 2 := hml0
  have hown : s.vm.findClass "com/example/nimble_anonymizer/nimbleanonymizer/DistancesPlusPinLaw" = some m.cls := findClass_of_methodNamed Bd.named
  have hnm := (name_of_methodNamed Bd.named Bd.method).1
  have hlk : meth.locks = false := BodyLoose.notSynchronized (by assumption)
  have X0 : Stand p l e ({ frames := 0, cells := 0, slots := 0, locals := 0 } : Room) s m #[(.int p1), (.int p2)] below meth c s₁ [] 0 0 := Stand.of_body Bd
  have e0 : s₁.heap = h0 := by rw [← hh, Bd.state]; rfl
  have N0 := Fr.nil n0
  show own_Go p.tables e below (fun o U' => ∃ v L, o = .returned v ∧ Q_rm6 Z a0 p1 p2 h0 n0 v U'.heap L ∧ FrameEnd s o U' L ({ frames := 0, cells := 0, slots := 0, locals := 0 } : Room).cells ({ frames := 0, cells := 0, slots := 0, locals := 0 } : Room).slots) (s₁.setTop (entryFrame m #[(.int p1), (.int p2)] 2))
  refine own_st (fun t k => castTop (ef_rm6 m p1 p2) k) ?_
  have hv : own_larger p1 p2 = (if p1 < p2 then p2 else p1) := rfl
  show own_Go _ _ _ _ (s₁.setTop (mkF m 0 #[iv p1, iv p2] []))
  refine o_iloadN X0 hx (hb hby d6_0) rfl ?_
  refine o_iloadN X0 hx (hb hby d6_1) rfl ?_
  by_cases hc2_1 : p1 < p2
  · have hv2 := hv.trans (if_pos hc2_1)
    refine o_icmpNo X0 hx (hb hby d6_2) (tlt hc2_1).2.1 ?_
    refine o_iloadN X0 hx (hb hby d6_5) rfl ?_
    exact own_end X0 e0 (v := some (.int p2)) (fun h => by rw [Bd.returns] at h; cases h) hlk (fun fs hr => retI X0 hx Bd.returns (hb hby d6_6) hr) (Q := Q_rm6 Z a0 p1 p2 h0 n0) ⟨(congrArg (fun z => some (Value.int z)) hv2.symm), N0, rfl⟩ (by decide) (by decide)
  · have hv3 := hv.trans (if_neg hc2_1)
    refine o_icmpYes X0 hx (pc' := 7) (hb hby d6_2) (flt hc2_1).2.1 (by decide) (by decide) ?_
    refine o_iloadN X0 hx (hb hby d6_7) rfl ?_
    exact own_end X0 e0 (v := some (.int p1)) (fun h => by rw [Bd.returns] at h; cases h) hlk (fun fs hr => retI X0 hx Bd.returns (hb hby d6_8) hr) (Q := Q_rm6 Z a0 p1 p2 h0 n0) ⟨(congrArg (fun z => some (Value.int z)) hv3.symm), N0, rfl⟩ (by decide) (by decide)
theorem d7_0 : decode prog_15_method_6_code 0 = .ok (.aload_n 0, 1) := by decide +kernel
theorem d7_1 : decode prog_15_method_6_code 1 = .ok (.getfield 7, 3) := by decide +kernel
theorem d7_4 : decode prog_15_method_6_code 4 = .ok (.lreturn, 1) := by decide +kernel
theorem ef_rm7 (m : MethodId) (a1 : Addr) : entryFrame m #[(.ref a1)] 1 = mkF m 0 #[rv a1] [] := by first | (simp [entryFrame, mkF, argsToLocals, Value.category]; done) | rfl
def Q_rm7 (Z : State) (a0 : Array Value) (a1 : Addr) (w1 : Int64) (h0 : Heap) (n0 : Nat) (v : Option Value) (h : Heap) (L : List Loc) : Prop := v = some (.long w1) ∧ Fr n0 L ∧ h = h0
set_option maxRecDepth 65536 in
set_option maxHeartbeats 40000000 in
theorem rm7 (l : Launch) (Z : State) (a0 : Array Value) (hw : ∀ d ∈ tables_1, d.before a0 Z = true) (ws : List Jvm.Cond) (a1 : Addr) (w1 : Int64) (h0 : Heap) (n0 : Nat) (Z0 : n0 ≤ h0.size) (F1 : Fld Z h0 a1 "com/example/nimble_anonymizer/nimbleanonymizer/Graph$Distances" "sum" "J" (.long w1)) :
    MetFree l (⟨"com/example/nimble_anonymizer/nimbleanonymizer/Graph$Distances", "sum", "()J"⟩ : MethodName) (head1 (Jvm.Cond.code (⟨"com/example/nimble_anonymizer/nimbleanonymizer/Graph$Distances", "sum", "()J"⟩ : MethodName) prog_15_method_6_code 1 (some .long) :: ws) ({ frames := 0, cells := 0, slots := 0, locals := 0 } : Room)) (fun a U => a = #[(.ref a1)] ∧ Z.Warmed39 U.vm ∧ U.heap = h0) (fun _ _ _ _ _ => True) (fun _ U o U' => ∃ v L, o = .returned v ∧ Q_rm7 Z a0 a1 w1 h0 n0 v U'.heap L ∧ FrameEnd U o U' L ({ frames := 0, cells := 0, slots := 0, locals := 0 } : Room).cells ({ frames := 0, cells := 0, slots := 0, locals := 0 } : Room).slots) := by
  refine MetFree.of_bodySF (plainFor_of_name pn_1) hisR ?_
  intro p e s m args below meth c s₁ Bd hml0 hP hK
  obtain ⟨rfl, hZ, hh⟩ := hP
  have hx := Bd.exec
  have hby := Bd.bytes
  have hml : c.maxLocals = 1 := hml0
  have hown : s.vm.findClass "com/example/nimble_anonymizer/nimbleanonymizer/Graph$Distances" = some m.cls := findClass_of_methodNamed Bd.named
  have hnm := (name_of_methodNamed Bd.named Bd.method).1
  have hlk : meth.locks = false := BodyLoose.notSynchronized (by assumption)
  have X0 : Stand p l e ({ frames := 0, cells := 0, slots := 0, locals := 0 } : Room) s m #[(.ref a1)] below meth c s₁ [] 0 0 := Stand.of_body Bd
  have e0 : s₁.heap = h0 := by rw [← hh, Bd.state]; rfl
  have N0 := Fr.nil n0
  show own_Go p.tables e below (fun o U' => ∃ v L, o = .returned v ∧ Q_rm7 Z a0 a1 w1 h0 n0 v U'.heap L ∧ FrameEnd s o U' L ({ frames := 0, cells := 0, slots := 0, locals := 0 } : Room).cells ({ frames := 0, cells := 0, slots := 0, locals := 0 } : Room).slots) (s₁.setTop (entryFrame m #[(.ref a1)] 1))
  refine own_st (fun t k => castTop (ef_rm7 m a1) k) ?_
  have hv : w1 = w1 := rfl
  show own_Go _ _ _ _ (s₁.setTop (mkF m 0 #[rv a1] []))
  refine o_aloadN X0 hx (hb hby d7_0) rfl rfl ?_
  obtain ⟨T1, X1, e1, st1⟩ := getF X0 hx hZ hown (host := "") (Or.inl (hw _ (List.mem_of_getElem? (i := 14) rfl))) Via.refl e0 F1 (g := (mkF m 1 #[rv a1] [(.ref a1)])) rfl rfl (hb hby d7_1)
  refine own_st st1 ?_
  show own_Go _ _ _ _ (T1.setTop (mkF m 4 #[rv a1] [(.long w1)]))
  exact own_end X1 e1 (v := some (.long w1)) (fun h => by rw [Bd.returns] at h; cases h) hlk (fun fs hr => X1.lreturnOut hx Bd.returns (hb hby d7_4) hr) (Q := Q_rm7 Z a0 a1 w1 h0 n0) ⟨(congrArg (fun z => some (Value.long z)) hv.symm), N0, rfl⟩ (by decide) (by decide)
theorem d8_0 : decode prog_15_method_7_code 0 = .ok (.aload_n 0, 1) := by decide +kernel
theorem d8_1 : decode prog_15_method_7_code 1 = .ok (.getfield 13, 3) := by decide +kernel
theorem d8_4 : decode prog_15_method_7_code 4 = .ok (.ireturn, 1) := by decide +kernel
theorem ef_rm8 (m : MethodId) (a1 : Addr) : entryFrame m #[(.ref a1)] 1 = mkF m 0 #[rv a1] [] := by first | (simp [entryFrame, mkF, argsToLocals, Value.category]; done) | rfl
def Q_rm8 (Z : State) (a0 : Array Value) (a1 : Addr) (w1 : Int32) (h0 : Heap) (n0 : Nat) (v : Option Value) (h : Heap) (L : List Loc) : Prop := v = some (.int w1) ∧ Fr n0 L ∧ h = h0
set_option maxRecDepth 65536 in
set_option maxHeartbeats 40000000 in
theorem rm8 (l : Launch) (Z : State) (a0 : Array Value) (hw : ∀ d ∈ tables_1, d.before a0 Z = true) (ws : List Jvm.Cond) (a1 : Addr) (w1 : Int32) (h0 : Heap) (n0 : Nat) (Z0 : n0 ≤ h0.size) (F1 : Fld Z h0 a1 "com/example/nimble_anonymizer/nimbleanonymizer/Graph$Distances" "longest" "I" (.int w1)) :
    MetFree l (⟨"com/example/nimble_anonymizer/nimbleanonymizer/Graph$Distances", "longest", "()I"⟩ : MethodName) (head1 (Jvm.Cond.code (⟨"com/example/nimble_anonymizer/nimbleanonymizer/Graph$Distances", "longest", "()I"⟩ : MethodName) prog_15_method_7_code 1 (some .int) :: ws) ({ frames := 0, cells := 0, slots := 0, locals := 0 } : Room)) (fun a U => a = #[(.ref a1)] ∧ Z.Warmed39 U.vm ∧ U.heap = h0) (fun _ _ _ _ _ => True) (fun _ U o U' => ∃ v L, o = .returned v ∧ Q_rm8 Z a0 a1 w1 h0 n0 v U'.heap L ∧ FrameEnd U o U' L ({ frames := 0, cells := 0, slots := 0, locals := 0 } : Room).cells ({ frames := 0, cells := 0, slots := 0, locals := 0 } : Room).slots) := by
  refine MetFree.of_bodySF (plainFor_of_name pn_1) hisR ?_
  intro p e s m args below meth c s₁ Bd hml0 hP hK
  obtain ⟨rfl, hZ, hh⟩ := hP
  have hx := Bd.exec
  have hby := Bd.bytes
  have hml : c.maxLocals = 1 := hml0
  have hown : s.vm.findClass "com/example/nimble_anonymizer/nimbleanonymizer/Graph$Distances" = some m.cls := findClass_of_methodNamed Bd.named
  have hnm := (name_of_methodNamed Bd.named Bd.method).1
  have hlk : meth.locks = false := BodyLoose.notSynchronized (by assumption)
  have X0 : Stand p l e ({ frames := 0, cells := 0, slots := 0, locals := 0 } : Room) s m #[(.ref a1)] below meth c s₁ [] 0 0 := Stand.of_body Bd
  have e0 : s₁.heap = h0 := by rw [← hh, Bd.state]; rfl
  have N0 := Fr.nil n0
  show own_Go p.tables e below (fun o U' => ∃ v L, o = .returned v ∧ Q_rm8 Z a0 a1 w1 h0 n0 v U'.heap L ∧ FrameEnd s o U' L ({ frames := 0, cells := 0, slots := 0, locals := 0 } : Room).cells ({ frames := 0, cells := 0, slots := 0, locals := 0 } : Room).slots) (s₁.setTop (entryFrame m #[(.ref a1)] 1))
  refine own_st (fun t k => castTop (ef_rm8 m a1) k) ?_
  have hv : w1 = w1 := rfl
  show own_Go _ _ _ _ (s₁.setTop (mkF m 0 #[rv a1] []))
  refine o_aloadN X0 hx (hb hby d8_0) rfl rfl ?_
  obtain ⟨T1, X1, e1, st1⟩ := getF X0 hx hZ hown (host := "") (Or.inl (hw _ (List.mem_of_getElem? (i := 16) rfl))) Via.refl e0 F1 (g := (mkF m 1 #[rv a1] [(.ref a1)])) rfl rfl (hb hby d8_1)
  refine own_st st1 ?_
  show own_Go _ _ _ _ (T1.setTop (mkF m 4 #[rv a1] [(.int w1)]))
  exact own_end X1 e1 (v := some (.int w1)) (fun h => by rw [Bd.returns] at h; cases h) hlk (fun fs hr => retI X1 hx Bd.returns (hb hby d8_4) hr) (Q := Q_rm8 Z a0 a1 w1 h0 n0) ⟨(congrArg (fun z => some (Value.int z)) hv.symm), N0, rfl⟩ (by decide) (by decide)
theorem d4_0 : decode prog_15_method_2_code 0 = .ok (.new 8, 3) := by decide +kernel
theorem d4_3 : decode prog_15_method_2_code 3 = .ok (.dup, 1) := by decide +kernel
theorem d4_4 : decode prog_15_method_2_code 4 = .ok (.aload_n 0, 1) := by decide +kernel
theorem d4_5 : decode prog_15_method_2_code 5 = .ok (.getfield 7, 3) := by decide +kernel
theorem d4_8 : decode prog_15_method_2_code 8 = .ok (.aload_n 1, 1) := by decide +kernel
theorem d4_9 : decode prog_15_method_2_code 9 = .ok (.getfield 7, 3) := by decide +kernel
theorem d4_12 : decode prog_15_method_2_code 12 = .ok (.ladd, 1) := by decide +kernel
theorem d4_13 : decode prog_15_method_2_code 13 = .ok (.aload_n 0, 1) := by decide +kernel
theorem d4_14 : decode prog_15_method_2_code 14 = .ok (.getfield 13, 3) := by decide +kernel
theorem d4_17 : decode prog_15_method_2_code 17 = .ok (.aload_n 1, 1) := by decide +kernel
theorem d4_18 : decode prog_15_method_2_code 18 = .ok (.getfield 13, 3) := by decide +kernel
theorem d4_21 : decode prog_15_method_2_code 21 = .ok (.invokestatic 17, 3) := by decide +kernel
theorem pd_2 : parseMethodDescriptor "(II)I" = some ⟨[.int, .int], some .int⟩ := by decide +kernel
theorem d4_24 : decode prog_15_method_2_code 24 = .ok (.invokespecial 23, 3) := by decide +kernel
theorem pd_3 : parseMethodDescriptor "(JI)V" = some ⟨[.long, .int], none⟩ := by decide +kernel
theorem d4_27 : decode prog_15_method_2_code 27 = .ok (.areturn, 1) := by decide +kernel
theorem ef_rm4 (m : MethodId) (a1 : Addr) (a2 : Addr) : entryFrame m #[(.ref a1), (.ref a2)] 2 = mkF m 0 #[rv a1, rv a2] [] := by first | (simp [entryFrame, mkF, argsToLocals, Value.category]; done) | rfl
def Q_rm4 (Z : State) (a0 : Array Value) (a1 : Addr) (a2 : Addr) (w1 : Int64) (w2 : Int32) (w3 : Int64) (w4 : Int32) (h0 : Heap) (n0 : Nat) (v : Option Value) (h : Heap) (L : List Loc) : Prop := ∃ b : Addr, v = some (.ref b) ∧ Fr n0 L ∧ Keep h0 h [] ∧ n0 ≤ b ∧ h0.size ≤ b ∧ Exa Z h b "com/example/nimble_anonymizer/nimbleanonymizer/Graph$Distances" ∧ Fld Z h b "com/example/nimble_anonymizer/nimbleanonymizer/Graph$Distances" "sum" "J" (.long (w1 + w3)) ∧ Fld Z h b "com/example/nimble_anonymizer/nimbleanonymizer/Graph$Distances" "longest" "I" (.int (own_max w2 w4))
set_option maxRecDepth 65536 in
set_option maxHeartbeats 40000000 in
theorem rm4 (l : Launch) (Z : State) (a0 : Array Value) (hw : ∀ d ∈ tables_1, d.before a0 Z = true) (ws : List Jvm.Cond) (a1 : Addr) (a2 : Addr) (w1 : Int64) (w2 : Int32) (w3 : Int64) (w4 : Int32) (h0 : Heap) (n0 : Nat) (Z0 : n0 ≤ h0.size) (F1 : Fld Z h0 a1 "com/example/nimble_anonymizer/nimbleanonymizer/Graph$Distances" "sum" "J" (.long w1)) (F2 : Fld Z h0 a1 "com/example/nimble_anonymizer/nimbleanonymizer/Graph$Distances" "longest" "I" (.int w2)) (F3 : Fld Z h0 a2 "com/example/nimble_anonymizer/nimbleanonymizer/Graph$Distances" "sum" "J" (.long w3)) (F4 : Fld Z h0 a2 "com/example/nimble_anonymizer/nimbleanonymizer/Graph$Distances" "longest" "I" (.int w4)) :
    MetFree l (⟨"com/example/nimble_anonymizer/nimbleanonymizer/Graph$Distances", "plus", "(Lcom/example/nimble_anonymizer/nimbleanonymizer/Graph$Distances;)Lcom/example/nimble_anonymizer/nimbleanonymizer/Graph$Distances;"⟩ : MethodName) (head1 (Jvm.Cond.code (⟨"com/example/nimble_anonymizer/nimbleanonymizer/Graph$Distances", "plus", "(Lcom/example/nimble_anonymizer/nimbleanonymizer/Graph$Distances;)Lcom/example/nimble_anonymizer/nimbleanonymizer/Graph$Distances;"⟩ : MethodName) prog_15_method_2_code 2 (some (.object "com/example/nimble_anonymizer/nimbleanonymizer/Graph$Distances")) :: ws) ({ frames := 3, cells := 1, slots := 2, locals := 40 } : Room)) (fun a U => a = #[(.ref a1), (.ref a2)] ∧ Z.Warmed39 U.vm ∧ U.heap = h0) (fun _ _ _ _ _ => True) (fun _ U o U' => ∃ v L, o = .returned v ∧ Q_rm4 Z a0 a1 a2 w1 w2 w3 w4 h0 n0 v U'.heap L ∧ FrameEnd U o U' L ({ frames := 3, cells := 1, slots := 2, locals := 40 } : Room).cells ({ frames := 3, cells := 1, slots := 2, locals := 40 } : Room).slots) := by
  refine MetFree.of_bodySF (plainFor_of_name pn_1) hisR ?_
  intro p e s m args below meth c s₁ Bd hml0 hP hK
  obtain ⟨rfl, hZ, hh⟩ := hP
  have hx := Bd.exec
  have hby := Bd.bytes
  have hml : c.maxLocals = 2 := hml0
  have hown : s.vm.findClass "com/example/nimble_anonymizer/nimbleanonymizer/Graph$Distances" = some m.cls := findClass_of_methodNamed Bd.named
  have hnm := (name_of_methodNamed Bd.named Bd.method).1
  have hlk : meth.locks = false := BodyLoose.notSynchronized (by assumption)
  have X0 : Stand p l e ({ frames := 3, cells := 1, slots := 2, locals := 40 } : Room) s m #[(.ref a1), (.ref a2)] below meth c s₁ [] 0 0 := Stand.of_body Bd
  have e0 : s₁.heap = h0 := by rw [← hh, Bd.state]; rfl
  have N0 := Fr.nil n0
  show own_Go p.tables e below (fun o U' => ∃ v L, o = .returned v ∧ Q_rm4 Z a0 a1 a2 w1 w2 w3 w4 h0 n0 v U'.heap L ∧ FrameEnd s o U' L ({ frames := 3, cells := 1, slots := 2, locals := 40 } : Room).cells ({ frames := 3, cells := 1, slots := 2, locals := 40 } : Room).slots) (s₁.setTop (entryFrame m #[(.ref a1), (.ref a2)] 2))
  refine own_st (fun t k => castTop (ef_rm4 m a1 a2) k) ?_
  show own_Go _ _ _ _ (s₁.setTop (mkF m 0 #[rv a1, rv a2] []))
  obtain ⟨T1, h1, X1, e1, E1, A1, D1, -, st1⟩ := newO X0 hx hZ hown (hw _ (List.mem_of_getElem? (i := 23) rfl)) (hw _ (List.mem_of_getElem? (i := 1) rfl)) (hw _ (List.mem_of_getElem? (i := 2) rfl)) e0 (g := (mkF m 0 #[rv a1, rv a2] [])) rfl (hb hby d4_0) (by decide) (by decide)
  obtain ⟨b1, g1⟩ : ∃ z, z = h0.size := ⟨_, rfl⟩
  rw [← g1] at A1 D1 st1
  have gg1 : n0 ≤ b1 := Nat.le_trans Z0 (Nat.le_of_eq g1.symm)
  have sz1 : h0.size ≤ b1 := Nat.le_trans (Keep.refl h0 []).1 (Nat.le_of_eq g1.symm)
  have Fi1_sum : Fld Z h1 b1 "com/example/nimble_anonymizer/nimbleanonymizer/Graph$Distances" "sum" "J" (.long (0 : Int64)) := D1 (Or.inr (hw _ (List.mem_of_getElem? (i := 15) rfl))) (ty := .long) (by decide)
  have Fi1_longest : Fld Z h1 b1 "com/example/nimble_anonymizer/nimbleanonymizer/Graph$Distances" "longest" "I" (.int (0 : Int32)) := D1 (Or.inr (hw _ (List.mem_of_getElem? (i := 17) rfl))) (ty := .int) (by decide)
  refine own_st st1 ?_
  show own_Go _ _ _ _ (T1.setTop (mkF m 3 #[rv a1, rv a2] [(.ref b1)]))
  refine o_dup X1 hx (hb hby d4_3) rfl ?_
  refine o_aloadN X1 hx (hb hby d4_4) rfl rfl ?_
  have Fa2 := (F1.ext E1)
  obtain ⟨T3, X3, e3, st3⟩ := getF X1 hx hZ hown (host := "") (Or.inl (hw _ (List.mem_of_getElem? (i := 14) rfl))) Via.refl e1 Fa2 (g := (mkF m 5 #[rv a1, rv a2] [(.ref a1), (.ref b1), (.ref b1)])) rfl rfl (hb hby d4_5)
  refine own_st st3 ?_
  show own_Go _ _ _ _ (T3.setTop (mkF m 8 #[rv a1, rv a2] [(.long w1), (.ref b1), (.ref b1)]))
  refine o_aloadN X3 hx (hb hby d4_8) rfl rfl ?_
  have Fa4 := (F3.ext E1)
  obtain ⟨T5, X5, e5, st5⟩ := getF X3 hx hZ hown (host := "") (Or.inl (hw _ (List.mem_of_getElem? (i := 14) rfl))) Via.refl e3 Fa4 (g := (mkF m 9 #[rv a1, rv a2] [(.ref a2), (.long w1), (.ref b1), (.ref b1)])) rfl rfl (hb hby d4_9)
  refine own_st st5 ?_
  show own_Go _ _ _ _ (T5.setTop (mkF m 12 #[rv a1, rv a2] [(.long w3), (.long w1), (.ref b1), (.ref b1)]))
  refine o_ladd X5 hx (hb hby d4_12) ?_
  refine o_aloadN X5 hx (hb hby d4_13) rfl rfl ?_
  have Fa6 := (F2.ext E1)
  obtain ⟨T7, X7, e7, st7⟩ := getF X5 hx hZ hown (host := "") (Or.inl (hw _ (List.mem_of_getElem? (i := 16) rfl))) Via.refl e5 Fa6 (g := (mkF m 14 #[rv a1, rv a2] [(.ref a1), (.long (w1 + w3)), (.ref b1), (.ref b1)])) rfl rfl (hb hby d4_14)
  refine own_st st7 ?_
  show own_Go _ _ _ _ (T7.setTop (mkF m 17 #[rv a1, rv a2] [(.int w2), (.long (w1 + w3)), (.ref b1), (.ref b1)]))
  refine o_aloadN X7 hx (hb hby d4_17) rfl rfl ?_
  have Fa8 := (F4.ext E1)
  obtain ⟨T9, X9, e9, st9⟩ := getF X7 hx hZ hown (host := "") (Or.inl (hw _ (List.mem_of_getElem? (i := 16) rfl))) Via.refl e7 Fa8 (g := (mkF m 18 #[rv a1, rv a2] [(.ref a2), (.int w2), (.long (w1 + w3)), (.ref b1), (.ref b1)])) rfl rfl (hb hby d4_18)
  refine own_st st9 ?_
  show own_Go _ _ _ _ (T9.setTop (mkF m 21 #[rv a1, rv a2] [(.int w4), (.int w2), (.long (w1 + w3)), (.ref b1), (.ref b1)]))
  have Zs11 : n0 ≤ h1.size := (Nat.le_trans Z0 E1.1)
  obtain ⟨_, _, ⟨T10, L10, k10, n10⟩, -, X10, ⟨Lc10, hQ10, l10, y10, z10⟩, st10⟩ := Jvm.LawKit.callS X9 hx (y := (⟨"java/lang/Math", "max", "(II)I"⟩ : MethodName)) hown (mvT hZ (hw _ (List.mem_of_getElem? (i := 24) rfl))) (mvT hZ (hw _ (List.mem_of_getElem? (i := 25) rfl))) (mvT hZ (hw _ (List.mem_of_getElem? (i := 26) rfl))) (mvT hZ (hw _ (List.mem_of_getElem? (i := 27) rfl))) (by decide) (backOf (W := 4) (rm5 l Z a0 hw [] w2 w4  h1 n0 Zs11) hZ (hw _ (List.mem_of_getElem? (i := 27) rfl)) (hw _ (List.mem_of_getElem? (i := 26) rfl)) (by decide) (by decide)) (g := (mkF m 21 #[rv a1, rv a2] [(.int w4), (.int w2), (.long (w1 + w3)), (.ref b1), (.ref b1)])) rfl (by rw [hml]; rfl) (argsL := [(.int w2), (.int w4)]) (rest := [(.long (w1 + w3)), (.ref b1), (.ref b1)]) (lenOf pd_2 rfl) rfl (by show 2 * 0 + _ ≤ _; exact Nat.le_of_eq rfl) (hb hby d4_21) (fun _ _ => ⟨rfl, e9, (by decide : 1 + 0 ≤ _), (by decide : 2 + 0 ≤ _)⟩)
  dsimp only [Pt.U, Pt.locs, Pt.cells, Pt.slots] at X10 l10 y10 z10 st10 hQ10
  subst l10 y10 z10
  obtain ⟨rfl, Nq10, e10⟩ := hQ10
  have N10 := Fr.app N0 Nq10
  refine own_st st10 ?_
  show own_Go _ _ _ _ (T10.setTop (mkF m 24 #[rv a1, rv a2] [(.int (own_max w2 w4)), (.long (w1 + w3)), (.ref b1), (.ref b1)]))
  obtain ⟨_, _, ⟨T12, L12, k12, n12⟩, -, X12, ⟨Lc12, hQ12, l12, y12, z12⟩, st12⟩ := X10.specialBack hx (y := (⟨"com/example/nimble_anonymizer/nimbleanonymizer/Graph$Distances", "<init>", "(JI)V"⟩ : MethodName)) rfl hown (mvT hZ (hw _ (List.mem_of_getElem? (i := 28) rfl))) (mvT hZ (hw _ (List.mem_of_getElem? (i := 4) rfl))) (mvT hZ (hw _ (List.mem_of_getElem? (i := 5) rfl))) (by decide) (backOf (W := 1) (rm1 l Z a0 hw [] b1 (w1 + w3) (own_max w2 w4)  h1 n0 Zs11 A1 gg1 Fi1_sum Fi1_longest) hZ (hw _ (List.mem_of_getElem? (i := 5) rfl)) (hw _ (List.mem_of_getElem? (i := 2) rfl)) (by decide) (by decide)) (g := (mkF m 24 #[rv a1, rv a2] [(.int (own_max w2 w4)), (.long (w1 + w3)), (.ref b1), (.ref b1)])) rfl (by rw [hml]; rfl) (Steps.refl _) (a := b1) (argsL := [(.long (w1 + w3)), (.int (own_max w2 w4))]) (rest := [(.ref b1)]) (lenOf pd_3 rfl) rfl (by show 2 * 0 + _ ≤ _; exact Nat.le_of_eq rfl) (hb hby d4_24) (fun _ _ => ⟨rfl, e10, (by decide : 1 + 0 ≤ _), (by decide : 2 + 0 ≤ _)⟩)
  dsimp only [Pt.U, Pt.locs, Pt.cells, Pt.slots] at X12 l12 y12 z12 st12 hQ12
  subst l12 y12 z12
  obtain ⟨rfl, Nq12, K12, Fq12_0, Fq12_1⟩ := hQ12
  have N12 := Fr.app N10 Nq12
  refine own_tr st12 ?_
  show own_Go _ _ _ _ (T12.setTop (mkF m 27 #[rv a1, rv a2] [(.ref b1)]))
  have Kp13 : Keep h0 T12.heap [] := (((Keep.refl h0 []).ext E1).trans K12 (allS (Or.inr sz1) all0))
  have Fa14 := (A1.keep K12)
  exact own_end X12 rfl (v := some (.ref b1)) (fun h => by rw [Bd.returns] at h; cases h) hlk (fun fs hr => own_retA X12 hx Bd.returns rfl rfl (hb hby d4_27) hr) (Q := Q_rm4 Z a0 a1 a2 w1 w2 w3 w4 h0 n0) ⟨b1, rfl, N12, Kp13, gg1, sz1, Fa14, Fq12_0, Fq12_1⟩ (by decide) (by decide)
theorem own_ml (x y : Int32) : own_max x y = own_larger x y := rfl
theorem pd_4 : parseMethodDescriptor "(Lcom/example/nimble_anonymizer/nimbleanonymizer/Graph$Distances;)Lcom/example/nimble_anonymizer/nimbleanonymizer/Graph$Distances;" = some ⟨[(.object "com/example/nimble_anonymizer/nimbleanonymizer/Graph$Distances")], some (.object "com/example/nimble_anonymizer/nimbleanonymizer/Graph$Distances")⟩ := by decide +kernel
theorem pd_5 : parseMethodDescriptor "()J" = some ⟨[], some .long⟩ := by decide +kernel
theorem pd_6 : parseMethodDescriptor "()I" = some ⟨[], some .int⟩ := by decide +kernel
theorem ef_rm0 (m : MethodId) (q1 : Int64) (p2 : Int32) (q3 : Int64) (p4 : Int32) : entryFrame m #[(.long q1), (.int p2), (.long q3), (.int p4)] maxLocals = mkF m 0 #[.val (.long q1), .second, iv p2, .val (.long q3), .second, iv p4, .unset, .unset, .unset, .unset, .unset, .unset] [] := by first | (simp [entryFrame, mkF, argsToLocals, Value.category, maxLocals]; done) | rfl
def Q_rm0 (Z : State) (a0 : Array Value) (q1 : Int64) (p2 : Int32) (q3 : Int64) (p4 : Int32)  (h0 : Heap) (n0 : Nat) (v : Option Value) (h : Heap) (L : List Loc) : Prop := v = some (.int (1 : Int32)) ∧ Fr n0 L ∧ Keep h0 h []
set_option maxRecDepth 65536 in
set_option maxHeartbeats 40000000 in
theorem rm0 (l : Launch) (Z : State) (a0 : Array Value) (hw : ∀ d ∈ tables_1, d.before a0 Z = true) (ws : List Jvm.Cond) (q1 : Int64) (p2 : Int32) (q3 : Int64) (p4 : Int32)  (h0 : Heap) (n0 : Nat) (Z0 : n0 ≤ h0.size) :
    MetFree l x (head1 (Jvm.Cond.code x code maxLocals ret :: ws) room_1) (fun a U => a = #[(.long q1), (.int p2), (.long q3), (.int p4)] ∧ Z.Warmed39 U.vm ∧ U.heap = h0) (fun _ _ _ _ _ => True) (fun _ U o U' => ∃ v L, o = .returned v ∧ Q_rm0 Z a0 q1 p2 q3 p4 h0 n0 v U'.heap L ∧ FrameEnd U o U' L room_1.cells room_1.slots) := by
  refine MetFree.of_bodySF (plainFor_of_name pn_6) hisR ?_
  intro p e s m args below meth c s₁ Bd hml0 hP hK
  obtain ⟨rfl, hZ, hh⟩ := hP
  have hx := Bd.exec
  have hby := Bd.bytes
  have hml : c.maxLocals = 12 := hml0
  have hown : s.vm.findClass "com/example/nimble_anonymizer/nimbleanonymizer/DistancesPlusPinLaw" = some m.cls := findClass_of_methodNamed Bd.named
  have hnm := (name_of_methodNamed Bd.named Bd.method).1
  have hlk : meth.locks = false := BodyLoose.notSynchronized (by assumption)
  have X0 : Stand p l e room_1 s m #[(.long q1), (.int p2), (.long q3), (.int p4)] below meth c s₁ [] 0 0 := Stand.of_body Bd
  have e0 : s₁.heap = h0 := by rw [← hh, Bd.state]; rfl
  have N0 := Fr.nil n0
  show own_Go p.tables e below (fun o U' => ∃ v L, o = .returned v ∧ Q_rm0 Z a0 q1 p2 q3 p4 h0 n0 v U'.heap L ∧ FrameEnd s o U' L room_1.cells room_1.slots) (s₁.setTop (entryFrame m #[(.long q1), (.int p2), (.long q3), (.int p4)] maxLocals))
  refine own_st (fun t k => castTop (ef_rm0 m q1 p2 q3 p4) k) ?_
  show own_Go _ _ _ _ (s₁.setTop (mkF m 0 #[.val (.long q1), .second, iv p2, .val (.long q3), .second, iv p4, .unset, .unset, .unset, .unset, .unset, .unset] []))
  obtain ⟨T1, h1, X1, e1, E1, A1, D1, -, st1⟩ := newO X0 hx hZ hown (hw _ (List.mem_of_getElem? (i := 0) rfl)) (hw _ (List.mem_of_getElem? (i := 1) rfl)) (hw _ (List.mem_of_getElem? (i := 2) rfl)) e0 (g := (mkF m 0 #[.val (.long q1), .second, iv p2, .val (.long q3), .second, iv p4, .unset, .unset, .unset, .unset, .unset, .unset] [])) rfl (hb hby at_0) (by decide) (by decide)
  obtain ⟨b1, g1⟩ : ∃ z, z = h0.size := ⟨_, rfl⟩
  rw [← g1] at A1 D1 st1
  have gg1 : n0 ≤ b1 := Nat.le_trans Z0 (Nat.le_of_eq g1.symm)
  have sz1 : h0.size ≤ b1 := Nat.le_trans (Keep.refl h0 []).1 (Nat.le_of_eq g1.symm)
  have Fi1_sum : Fld Z h1 b1 "com/example/nimble_anonymizer/nimbleanonymizer/Graph$Distances" "sum" "J" (.long (0 : Int64)) := D1 (Or.inr (hw _ (List.mem_of_getElem? (i := 15) rfl))) (ty := .long) (by decide)
  have Fi1_longest : Fld Z h1 b1 "com/example/nimble_anonymizer/nimbleanonymizer/Graph$Distances" "longest" "I" (.int (0 : Int32)) := D1 (Or.inr (hw _ (List.mem_of_getElem? (i := 17) rfl))) (ty := .int) (by decide)
  refine own_st st1 ?_
  show own_Go _ _ _ _ (T1.setTop (mkF m 3 #[.val (.long q1), .second, iv p2, .val (.long q3), .second, iv p4, .unset, .unset, .unset, .unset, .unset, .unset] [(.ref b1)]))
  refine o_dup X1 hx (hb hby at_3) rfl ?_
  refine o_lloadN X1 hx (hb hby at_4) rfl ?_
  refine o_iloadN X1 hx (hb hby at_5) rfl ?_
  have Zs3 : n0 ≤ h1.size := (Nat.le_trans Z0 E1.1)
  obtain ⟨_, _, ⟨T2, L2, k2, n2⟩, -, X2, ⟨Lc2, hQ2, l2, y2, z2⟩, st2⟩ := X1.specialBack hx (y := (⟨"com/example/nimble_anonymizer/nimbleanonymizer/Graph$Distances", "<init>", "(JI)V"⟩ : MethodName)) rfl hown (mvT hZ (hw _ (List.mem_of_getElem? (i := 3) rfl))) (mvT hZ (hw _ (List.mem_of_getElem? (i := 4) rfl))) (mvT hZ (hw _ (List.mem_of_getElem? (i := 5) rfl))) (by decide) (backOf (W := 1) (rm1 l Z a0 hw [] b1 q1 p2  h1 n0 Zs3 A1 gg1 Fi1_sum Fi1_longest) hZ (hw _ (List.mem_of_getElem? (i := 5) rfl)) (hw _ (List.mem_of_getElem? (i := 2) rfl)) (by decide) (by decide)) (g := (mkF m 6 #[.val (.long q1), .second, iv p2, .val (.long q3), .second, iv p4, .unset, .unset, .unset, .unset, .unset, .unset] [(.int p2), (.long q1), (.ref b1), (.ref b1)])) rfl (by rw [hml]; rfl) (Steps.refl _) (a := b1) (argsL := [(.long q1), (.int p2)]) (rest := [(.ref b1)]) (lenOf pd_3 rfl) rfl (by show 2 * 0 + _ ≤ _; exact Nat.le_of_eq rfl) (hb hby at_6) (fun _ _ => ⟨rfl, e1, (by decide : 1 + 0 ≤ _), (by decide : 2 + 0 ≤ _)⟩)
  dsimp only [Pt.U, Pt.locs, Pt.cells, Pt.slots] at X2 l2 y2 z2 st2 hQ2
  subst l2 y2 z2
  obtain ⟨rfl, Nq2, K2, Fq2_0, Fq2_1⟩ := hQ2
  have N2 := Fr.app N0 Nq2
  refine own_tr st2 ?_
  show own_Go _ _ _ _ (T2.setTop (mkF m 9 #[.val (.long q1), .second, iv p2, .val (.long q3), .second, iv p4, .unset, .unset, .unset, .unset, .unset, .unset] [(.ref b1)]))
  refine o_astore X2 hx (hb hby at_9) rfl (l' := #[.val (.long q1), .second, iv p2, .val (.long q3), .second, iv p4, rv b1, .unset, .unset, .unset, .unset, .unset]) rfl ?_
  have Zs4 : n0 ≤ T2.heap.size := (Nat.le_trans Zs3 K2.1)
  have Kp5 : Keep h0 T2.heap [] := (((Keep.refl h0 []).ext E1).trans K2 (allS (Or.inr sz1) all0))
  obtain ⟨T6, h6, X6, e6, E6, A6, D6, -, st6⟩ := newO X2 hx hZ hown (hw _ (List.mem_of_getElem? (i := 0) rfl)) (hw _ (List.mem_of_getElem? (i := 1) rfl)) (hw _ (List.mem_of_getElem? (i := 2) rfl)) rfl (g := (mkF m 11 #[.val (.long q1), .second, iv p2, .val (.long q3), .second, iv p4, rv b1, .unset, .unset, .unset, .unset, .unset] [])) rfl (hb hby at_11) (by decide) (by decide)
  obtain ⟨b6, g6⟩ : ∃ z, z = T2.heap.size := ⟨_, rfl⟩
  rw [← g6] at A6 D6 st6
  have gg6 : n0 ≤ b6 := Nat.le_trans Zs4 (Nat.le_of_eq g6.symm)
  have sz6 : h0.size ≤ b6 := Nat.le_trans Kp5.1 (Nat.le_of_eq g6.symm)
  have Fi6_sum : Fld Z h6 b6 "com/example/nimble_anonymizer/nimbleanonymizer/Graph$Distances" "sum" "J" (.long (0 : Int64)) := D6 (Or.inr (hw _ (List.mem_of_getElem? (i := 15) rfl))) (ty := .long) (by decide)
  have Fi6_longest : Fld Z h6 b6 "com/example/nimble_anonymizer/nimbleanonymizer/Graph$Distances" "longest" "I" (.int (0 : Int32)) := D6 (Or.inr (hw _ (List.mem_of_getElem? (i := 17) rfl))) (ty := .int) (by decide)
  refine own_st st6 ?_
  show own_Go _ _ _ _ (T6.setTop (mkF m 14 #[.val (.long q1), .second, iv p2, .val (.long q3), .second, iv p4, rv b1, .unset, .unset, .unset, .unset, .unset] [(.ref b6)]))
  refine o_dup X6 hx (hb hby at_14) rfl ?_
  refine o_lloadN X6 hx (hb hby at_15) rfl ?_
  refine o_iload X6 hx (hb hby at_16) rfl ?_
  have Zs8 : n0 ≤ h6.size := (Nat.le_trans Zs4 E6.1)
  obtain ⟨_, _, ⟨T7, L7, k7, n7⟩, -, X7, ⟨Lc7, hQ7, l7, y7, z7⟩, st7⟩ := X6.specialBack hx (y := (⟨"com/example/nimble_anonymizer/nimbleanonymizer/Graph$Distances", "<init>", "(JI)V"⟩ : MethodName)) rfl hown (mvT hZ (hw _ (List.mem_of_getElem? (i := 3) rfl))) (mvT hZ (hw _ (List.mem_of_getElem? (i := 4) rfl))) (mvT hZ (hw _ (List.mem_of_getElem? (i := 5) rfl))) (by decide) (backOf (W := 1) (rm1 l Z a0 hw [] b6 q3 p4  h6 n0 Zs8 A6 gg6 Fi6_sum Fi6_longest) hZ (hw _ (List.mem_of_getElem? (i := 5) rfl)) (hw _ (List.mem_of_getElem? (i := 2) rfl)) (by decide) (by decide)) (g := (mkF m 18 #[.val (.long q1), .second, iv p2, .val (.long q3), .second, iv p4, rv b1, .unset, .unset, .unset, .unset, .unset] [(.int p4), (.long q3), (.ref b6), (.ref b6)])) rfl (by rw [hml]; rfl) (Steps.refl _) (a := b6) (argsL := [(.long q3), (.int p4)]) (rest := [(.ref b6)]) (lenOf pd_3 rfl) rfl (by show 2 * 0 + _ ≤ _; exact Nat.le_of_eq rfl) (hb hby at_18) (fun _ _ => ⟨rfl, e6, (by decide : 2 + 0 ≤ _), (by decide : 4 + 0 ≤ _)⟩)
  dsimp only [Pt.U, Pt.locs, Pt.cells, Pt.slots] at X7 l7 y7 z7 st7 hQ7
  subst l7 y7 z7
  obtain ⟨rfl, Nq7, K7, Fq7_0, Fq7_1⟩ := hQ7
  have N7 := Fr.app N2 Nq7
  refine own_tr st7 ?_
  show own_Go _ _ _ _ (T7.setTop (mkF m 21 #[.val (.long q1), .second, iv p2, .val (.long q3), .second, iv p4, rv b1, .unset, .unset, .unset, .unset, .unset] [(.ref b6)]))
  refine o_astore X7 hx (hb hby at_21) rfl (l' := #[.val (.long q1), .second, iv p2, .val (.long q3), .second, iv p4, rv b1, rv b6, .unset, .unset, .unset, .unset]) rfl ?_
  refine o_aload X7 hx (hb hby at_23) rfl rfl ?_
  refine o_aload X7 hx (hb hby at_25) rfl rfl ?_
  have Fa10 := ((Fq2_0.ext E6).keep K7 (ninS (Nat.ne_of_lt (Nat.lt_of_lt_of_le Fq2_0.lt (Nat.le_of_eq g6.symm))) nin0))
  have Fa11 := ((Fq2_1.ext E6).keep K7 (ninS (Nat.ne_of_lt (Nat.lt_of_lt_of_le Fq2_1.lt (Nat.le_of_eq g6.symm))) nin0))
  have Zs12 : n0 ≤ T7.heap.size := (Nat.le_trans Zs8 K7.1)
  have Fa13 := (((A1.keep K2).ext E6).keep K7)
  obtain ⟨cq9, kq9, q9a, q9b, q9c⟩ := isOf hZ rfl Fa13
  obtain ⟨_, _, ⟨T9, L9, k9, n9⟩, -, X9, ⟨Lc9, hQ9, l9, y9, z9⟩, st9⟩ := X7.virtualBack hx (y := (⟨"com/example/nimble_anonymizer/nimbleanonymizer/Graph$Distances", "plus", "(Lcom/example/nimble_anonymizer/nimbleanonymizer/Graph$Distances;)Lcom/example/nimble_anonymizer/nimbleanonymizer/Graph$Distances;"⟩ : MethodName)) (z := (⟨"com/example/nimble_anonymizer/nimbleanonymizer/Graph$Distances", "plus", "(Lcom/example/nimble_anonymizer/nimbleanonymizer/Graph$Distances;)Lcom/example/nimble_anonymizer/nimbleanonymizer/Graph$Distances;"⟩ : MethodName)) hown (mvT hZ (hw _ (List.mem_of_getElem? (i := 18) rfl))) (mvT hZ (hw _ (List.mem_of_getElem? (i := 19) rfl))) (notFace_of_selects (args := #[]) (mvT hZ (hw _ (List.mem_of_getElem? (i := 21) rfl)))) (mvT hZ (hw _ (List.mem_of_getElem? (i := 21) rfl))) (mvT hZ (hw _ (List.mem_of_getElem? (i := 20) rfl))) (by decide) (backOf (W := 0) (rm4 l Z a0 hw [] b1 b6 q1 p2 q3 p4 T7.heap n0 Zs12 Fa10 Fa11 Fq7_0 Fq7_1) hZ (hw _ (List.mem_of_getElem? (i := 22) rfl)) (hw _ (List.mem_of_getElem? (i := 2) rfl)) (by decide) (by decide)) q9a q9c (g := (mkF m 27 #[.val (.long q1), .second, iv p2, .val (.long q3), .second, iv p4, rv b1, rv b6, .unset, .unset, .unset, .unset] [(.ref b6), (.ref b1)])) rfl (by rw [hml]; rfl) (Steps.refl _) (argsL := [(.ref b6)]) (rest := []) (lenOf pd_4 rfl) rfl (by show 2 * 0 + _ ≤ _; exact Nat.le_of_eq rfl) (hb hby at_27) (fun _ _ => ⟨rfl, rfl, (by decide : 2 + 1 ≤ _), (by decide : 4 + 2 ≤ _)⟩)
  dsimp only [Pt.U, Pt.locs, Pt.cells, Pt.slots] at X9 l9 y9 z9 st9 hQ9
  subst l9 y9 z9
  obtain ⟨b_9, rfl, Nq9, K9, gq9_b, sq9_b, Fq9_0, Fq9_1, Fq9_2⟩ := hQ9
  have N9 := Fr.app N7 Nq9
  have Kp14 : Keep h0 T7.heap [] := ((Kp5.ext E6).trans K7 (allS (Or.inr sz6) all0))
  have szq9_b : h0.size ≤ b_9 := Nat.le_trans Kp14.1 sq9_b
  refine own_tr st9 ?_
  show own_Go _ _ _ _ (T9.setTop (mkF m 30 #[.val (.long q1), .second, iv p2, .val (.long q3), .second, iv p4, rv b1, rv b6, .unset, .unset, .unset, .unset] [(.ref b_9)]))
  refine o_astore X9 hx (hb hby at_30) rfl (l' := #[.val (.long q1), .second, iv p2, .val (.long q3), .second, iv p4, rv b1, rv b6, rv b_9, .unset, .unset, .unset]) rfl ?_
  refine o_lloadN X9 hx (hb hby at_32) rfl ?_
  refine o_lloadN X9 hx (hb hby at_33) rfl ?_
  refine o_ladd X9 hx (hb hby at_34) ?_
  refine o_lstore X9 hx (hb hby at_35) (l' := #[.val (.long q1), .second, iv p2, .val (.long q3), .second, iv p4, rv b1, rv b6, rv b_9, .val (.long (q1 + q3)), .second, .unset]) rfl ?_
  refine o_iloadN X9 hx (hb hby at_37) rfl ?_
  refine o_iload X9 hx (hb hby at_38) rfl ?_
  have Zs16 : n0 ≤ T9.heap.size := (Nat.le_trans Zs12 K9.1)
  obtain ⟨_, _, ⟨T15, L15, k15, n15⟩, -, X15, ⟨Lc15, hQ15, l15, y15, z15⟩, st15⟩ := Jvm.LawKit.callS X9 hx (y := (⟨"com/example/nimble_anonymizer/nimbleanonymizer/DistancesPlusPinLaw", "larger", "(II)I"⟩ : MethodName)) hown (mvT hZ (hw _ (List.mem_of_getElem? (i := 29) rfl))) (mvT hZ (hw _ (List.mem_of_getElem? (i := 30) rfl))) (mvT hZ (hw _ (List.mem_of_getElem? (i := 31) rfl))) (mvT hZ (hw _ (List.mem_of_getElem? (i := 32) rfl))) (by decide) (backOf (W := 0) (rm6 l Z a0 hw [] p2 p4  T9.heap n0 Zs16) hZ (hw _ (List.mem_of_getElem? (i := 32) rfl)) (hw _ (List.mem_of_getElem? (i := 31) rfl)) (by decide) (by decide)) (g := (mkF m 40 #[.val (.long q1), .second, iv p2, .val (.long q3), .second, iv p4, rv b1, rv b6, rv b_9, .val (.long (q1 + q3)), .second, .unset] [(.int p4), (.int p2)])) rfl (by rw [hml]; rfl) (argsL := [(.int p2), (.int p4)]) (rest := []) (lenOf pd_2 rfl) rfl (by show 2 * 0 + _ ≤ _; exact Nat.le_of_eq rfl) (hb hby at_40) (fun _ _ => ⟨rfl, rfl, (by decide : 3 + 0 ≤ _), (by decide : 6 + 0 ≤ _)⟩)
  dsimp only [Pt.U, Pt.locs, Pt.cells, Pt.slots] at X15 l15 y15 z15 st15 hQ15
  subst l15 y15 z15
  obtain ⟨rfl, Nq15, e15⟩ := hQ15
  have N15 := Fr.app N9 Nq15
  refine own_st st15 ?_
  show own_Go _ _ _ _ (T15.setTop (mkF m 43 #[.val (.long q1), .second, iv p2, .val (.long q3), .second, iv p4, rv b1, rv b6, rv b_9, .val (.long (q1 + q3)), .second, .unset] [(.int (own_larger p2 p4))]))
  refine o_istore X15 hx (hb hby at_43) (l' := #[.val (.long q1), .second, iv p2, .val (.long q3), .second, iv p4, rv b1, rv b6, rv b_9, .val (.long (q1 + q3)), .second, iv (own_larger p2 p4)]) rfl ?_
  refine o_aload X15 hx (hb hby at_45) rfl rfl ?_
  obtain ⟨cq17, kq17, q17a, q17b, q17c⟩ := isOf hZ e15 Fq9_0
  obtain ⟨_, _, ⟨T17, L17, k17, n17⟩, -, X17, ⟨Lc17, hQ17, l17, y17, z17⟩, st17⟩ := X15.virtualBack hx (y := (⟨"com/example/nimble_anonymizer/nimbleanonymizer/Graph$Distances", "sum", "()J"⟩ : MethodName)) (z := (⟨"com/example/nimble_anonymizer/nimbleanonymizer/Graph$Distances", "sum", "()J"⟩ : MethodName)) hown (mvT hZ (hw _ (List.mem_of_getElem? (i := 33) rfl))) (mvT hZ (hw _ (List.mem_of_getElem? (i := 34) rfl))) (notFace_of_selects (args := #[]) (mvT hZ (hw _ (List.mem_of_getElem? (i := 36) rfl)))) (mvT hZ (hw _ (List.mem_of_getElem? (i := 36) rfl))) (mvT hZ (hw _ (List.mem_of_getElem? (i := 35) rfl))) (by decide) (backOf (W := 0) (rm7 l Z a0 hw [] b_9 (q1 + q3) T9.heap n0 Zs16 Fq9_1) hZ (hw _ (List.mem_of_getElem? (i := 37) rfl)) (hw _ (List.mem_of_getElem? (i := 2) rfl)) (by decide) (by decide)) q17a q17c (g := (mkF m 47 #[.val (.long q1), .second, iv p2, .val (.long q3), .second, iv p4, rv b1, rv b6, rv b_9, .val (.long (q1 + q3)), .second, iv (own_larger p2 p4)] [(.ref b_9)])) rfl (by rw [hml]; rfl) (Steps.refl _) (argsL := []) (rest := []) (lenOf pd_5 rfl) rfl (by show 2 * 0 + _ ≤ _; exact Nat.le_of_eq rfl) (hb hby at_47) (fun _ _ => ⟨rfl, e15, (by decide : 3 + 0 ≤ _), (by decide : 6 + 0 ≤ _)⟩)
  dsimp only [Pt.U, Pt.locs, Pt.cells, Pt.slots] at X17 l17 y17 z17 st17 hQ17
  subst l17 y17 z17
  obtain ⟨rfl, Nq17, e17⟩ := hQ17
  have N17 := Fr.app N15 Nq17
  refine own_tr st17 ?_
  show own_Go _ _ _ _ (T17.setTop (mkF m 50 #[.val (.long q1), .second, iv p2, .val (.long q3), .second, iv p4, rv b1, rv b6, rv b_9, .val (.long (q1 + q3)), .second, iv (own_larger p2 p4)] [(.long (q1 + q3))]))
  refine o_lload X17 hx (hb hby at_50) rfl ?_
  refine o_lcmp X17 hx (hb hby at_52) ?_
  refine o_ifNo X17 hx (hb hby at_53) (teq ((lw_eq _ _).mpr rfl)).2 ?_
  refine o_aload X17 hx (hb hby at_56) rfl rfl ?_
  obtain ⟨cq18, kq18, q18a, q18b, q18c⟩ := isOf hZ e17 Fq9_0
  obtain ⟨_, _, ⟨T18, L18, k18, n18⟩, -, X18, ⟨Lc18, hQ18, l18, y18, z18⟩, st18⟩ := X17.virtualBack hx (y := (⟨"com/example/nimble_anonymizer/nimbleanonymizer/Graph$Distances", "longest", "()I"⟩ : MethodName)) (z := (⟨"com/example/nimble_anonymizer/nimbleanonymizer/Graph$Distances", "longest", "()I"⟩ : MethodName)) hown (mvT hZ (hw _ (List.mem_of_getElem? (i := 38) rfl))) (mvT hZ (hw _ (List.mem_of_getElem? (i := 39) rfl))) (notFace_of_selects (args := #[]) (mvT hZ (hw _ (List.mem_of_getElem? (i := 41) rfl)))) (mvT hZ (hw _ (List.mem_of_getElem? (i := 41) rfl))) (mvT hZ (hw _ (List.mem_of_getElem? (i := 40) rfl))) (by decide) (backOf (W := 0) (rm8 l Z a0 hw [] b_9 (own_max p2 p4) T9.heap n0 Zs16 Fq9_2) hZ (hw _ (List.mem_of_getElem? (i := 42) rfl)) (hw _ (List.mem_of_getElem? (i := 2) rfl)) (by decide) (by decide)) q18a q18c (g := (mkF m 58 #[.val (.long q1), .second, iv p2, .val (.long q3), .second, iv p4, rv b1, rv b6, rv b_9, .val (.long (q1 + q3)), .second, iv (own_larger p2 p4)] [(.ref b_9)])) rfl (by rw [hml]; rfl) (Steps.refl _) (argsL := []) (rest := []) (lenOf pd_6 rfl) rfl (by show 2 * 0 + _ ≤ _; exact Nat.le_of_eq rfl) (hb hby at_58) (fun _ _ => ⟨rfl, e17, (by decide : 3 + 0 ≤ _), (by decide : 6 + 0 ≤ _)⟩)
  dsimp only [Pt.U, Pt.locs, Pt.cells, Pt.slots] at X18 l18 y18 z18 st18 hQ18
  subst l18 y18 z18
  obtain ⟨rfl, Nq18, e18⟩ := hQ18
  have N18 := Fr.app N17 Nq18
  refine own_tr st18 ?_
  show own_Go _ _ _ _ (T18.setTop (mkF m 61 #[.val (.long q1), .second, iv p2, .val (.long q3), .second, iv p4, rv b1, rv b6, rv b_9, .val (.long (q1 + q3)), .second, iv (own_larger p2 p4)] [(.int (own_max p2 p4))]))
  refine o_iload X18 hx (hb hby at_61) rfl ?_
  refine o_icmpNo X18 hx (hb hby at_63) (teq (own_ml _ _)).2 ?_
  refine o_aload X18 hx (hb hby at_66) rfl rfl ?_
  have Fa20 := (Fa10.keep K9 nin0)
  have Fa21 := (Fa13.keep K9)
  obtain ⟨cq19, kq19, q19a, q19b, q19c⟩ := isOf hZ e18 Fa21
  obtain ⟨_, _, ⟨T19, L19, k19, n19⟩, -, X19, ⟨Lc19, hQ19, l19, y19, z19⟩, st19⟩ := X18.virtualBack hx (y := (⟨"com/example/nimble_anonymizer/nimbleanonymizer/Graph$Distances", "sum", "()J"⟩ : MethodName)) (z := (⟨"com/example/nimble_anonymizer/nimbleanonymizer/Graph$Distances", "sum", "()J"⟩ : MethodName)) hown (mvT hZ (hw _ (List.mem_of_getElem? (i := 33) rfl))) (mvT hZ (hw _ (List.mem_of_getElem? (i := 34) rfl))) (notFace_of_selects (args := #[]) (mvT hZ (hw _ (List.mem_of_getElem? (i := 36) rfl)))) (mvT hZ (hw _ (List.mem_of_getElem? (i := 36) rfl))) (mvT hZ (hw _ (List.mem_of_getElem? (i := 35) rfl))) (by decide) (backOf (W := 0) (rm7 l Z a0 hw [] b1 q1 T9.heap n0 Zs16 Fa20) hZ (hw _ (List.mem_of_getElem? (i := 37) rfl)) (hw _ (List.mem_of_getElem? (i := 2) rfl)) (by decide) (by decide)) q19a q19c (g := (mkF m 68 #[.val (.long q1), .second, iv p2, .val (.long q3), .second, iv p4, rv b1, rv b6, rv b_9, .val (.long (q1 + q3)), .second, iv (own_larger p2 p4)] [(.ref b1)])) rfl (by rw [hml]; rfl) (Steps.refl _) (argsL := []) (rest := []) (lenOf pd_5 rfl) rfl (by show 2 * 0 + _ ≤ _; exact Nat.le_of_eq rfl) (hb hby at_68) (fun _ _ => ⟨rfl, e18, (by decide : 3 + 0 ≤ _), (by decide : 6 + 0 ≤ _)⟩)
  dsimp only [Pt.U, Pt.locs, Pt.cells, Pt.slots] at X19 l19 y19 z19 st19 hQ19
  subst l19 y19 z19
  obtain ⟨rfl, Nq19, e19⟩ := hQ19
  have N19 := Fr.app N18 Nq19
  refine own_tr st19 ?_
  show own_Go _ _ _ _ (T19.setTop (mkF m 71 #[.val (.long q1), .second, iv p2, .val (.long q3), .second, iv p4, rv b1, rv b6, rv b_9, .val (.long (q1 + q3)), .second, iv (own_larger p2 p4)] [(.long q1)]))
  refine o_lloadN X19 hx (hb hby at_71) rfl ?_
  refine o_lcmp X19 hx (hb hby at_72) ?_
  refine o_ifNo X19 hx (hb hby at_73) (teq ((lw_eq _ _).mpr rfl)).2 ?_
  refine o_aload X19 hx (hb hby at_76) rfl rfl ?_
  have Fa23 := (Fa11.keep K9 nin0)
  obtain ⟨cq22, kq22, q22a, q22b, q22c⟩ := isOf hZ e19 Fa21
  obtain ⟨_, _, ⟨T22, L22, k22, n22⟩, -, X22, ⟨Lc22, hQ22, l22, y22, z22⟩, st22⟩ := X19.virtualBack hx (y := (⟨"com/example/nimble_anonymizer/nimbleanonymizer/Graph$Distances", "longest", "()I"⟩ : MethodName)) (z := (⟨"com/example/nimble_anonymizer/nimbleanonymizer/Graph$Distances", "longest", "()I"⟩ : MethodName)) hown (mvT hZ (hw _ (List.mem_of_getElem? (i := 38) rfl))) (mvT hZ (hw _ (List.mem_of_getElem? (i := 39) rfl))) (notFace_of_selects (args := #[]) (mvT hZ (hw _ (List.mem_of_getElem? (i := 41) rfl)))) (mvT hZ (hw _ (List.mem_of_getElem? (i := 41) rfl))) (mvT hZ (hw _ (List.mem_of_getElem? (i := 40) rfl))) (by decide) (backOf (W := 0) (rm8 l Z a0 hw [] b1 p2 T9.heap n0 Zs16 Fa23) hZ (hw _ (List.mem_of_getElem? (i := 42) rfl)) (hw _ (List.mem_of_getElem? (i := 2) rfl)) (by decide) (by decide)) q22a q22c (g := (mkF m 78 #[.val (.long q1), .second, iv p2, .val (.long q3), .second, iv p4, rv b1, rv b6, rv b_9, .val (.long (q1 + q3)), .second, iv (own_larger p2 p4)] [(.ref b1)])) rfl (by rw [hml]; rfl) (Steps.refl _) (argsL := []) (rest := []) (lenOf pd_6 rfl) rfl (by show 2 * 0 + _ ≤ _; exact Nat.le_of_eq rfl) (hb hby at_78) (fun _ _ => ⟨rfl, e19, (by decide : 3 + 0 ≤ _), (by decide : 6 + 0 ≤ _)⟩)
  dsimp only [Pt.U, Pt.locs, Pt.cells, Pt.slots] at X22 l22 y22 z22 st22 hQ22
  subst l22 y22 z22
  obtain ⟨rfl, Nq22, e22⟩ := hQ22
  have N22 := Fr.app N19 Nq22
  refine own_tr st22 ?_
  show own_Go _ _ _ _ (T22.setTop (mkF m 81 #[.val (.long q1), .second, iv p2, .val (.long q3), .second, iv p4, rv b1, rv b6, rv b_9, .val (.long (q1 + q3)), .second, iv (own_larger p2 p4)] [(.int p2)]))
  refine o_iloadN X22 hx (hb hby at_81) rfl ?_
  refine o_icmpNo X22 hx (hb hby at_82) (teq (rfl : p2 = p2)).2 ?_
  refine o_aload X22 hx (hb hby at_85) rfl rfl ?_
  have Fa25 := (Fq7_0.keep K9 nin0)
  have Fa26 := ((A6.keep K7).keep K9)
  obtain ⟨cq24, kq24, q24a, q24b, q24c⟩ := isOf hZ e22 Fa26
  obtain ⟨_, _, ⟨T24, L24, k24, n24⟩, -, X24, ⟨Lc24, hQ24, l24, y24, z24⟩, st24⟩ := X22.virtualBack hx (y := (⟨"com/example/nimble_anonymizer/nimbleanonymizer/Graph$Distances", "sum", "()J"⟩ : MethodName)) (z := (⟨"com/example/nimble_anonymizer/nimbleanonymizer/Graph$Distances", "sum", "()J"⟩ : MethodName)) hown (mvT hZ (hw _ (List.mem_of_getElem? (i := 33) rfl))) (mvT hZ (hw _ (List.mem_of_getElem? (i := 34) rfl))) (notFace_of_selects (args := #[]) (mvT hZ (hw _ (List.mem_of_getElem? (i := 36) rfl)))) (mvT hZ (hw _ (List.mem_of_getElem? (i := 36) rfl))) (mvT hZ (hw _ (List.mem_of_getElem? (i := 35) rfl))) (by decide) (backOf (W := 0) (rm7 l Z a0 hw [] b6 q3 T9.heap n0 Zs16 Fa25) hZ (hw _ (List.mem_of_getElem? (i := 37) rfl)) (hw _ (List.mem_of_getElem? (i := 2) rfl)) (by decide) (by decide)) q24a q24c (g := (mkF m 87 #[.val (.long q1), .second, iv p2, .val (.long q3), .second, iv p4, rv b1, rv b6, rv b_9, .val (.long (q1 + q3)), .second, iv (own_larger p2 p4)] [(.ref b6)])) rfl (by rw [hml]; rfl) (Steps.refl _) (argsL := []) (rest := []) (lenOf pd_5 rfl) rfl (by show 2 * 0 + _ ≤ _; exact Nat.le_of_eq rfl) (hb hby at_87) (fun _ _ => ⟨rfl, e22, (by decide : 3 + 0 ≤ _), (by decide : 6 + 0 ≤ _)⟩)
  dsimp only [Pt.U, Pt.locs, Pt.cells, Pt.slots] at X24 l24 y24 z24 st24 hQ24
  subst l24 y24 z24
  obtain ⟨rfl, Nq24, e24⟩ := hQ24
  have N24 := Fr.app N22 Nq24
  refine own_tr st24 ?_
  show own_Go _ _ _ _ (T24.setTop (mkF m 90 #[.val (.long q1), .second, iv p2, .val (.long q3), .second, iv p4, rv b1, rv b6, rv b_9, .val (.long (q1 + q3)), .second, iv (own_larger p2 p4)] [(.long q3)]))
  refine o_lloadN X24 hx (hb hby at_90) rfl ?_
  refine o_lcmp X24 hx (hb hby at_91) ?_
  refine o_ifNo X24 hx (hb hby at_92) (teq ((lw_eq _ _).mpr rfl)).2 ?_
  refine o_aload X24 hx (hb hby at_95) rfl rfl ?_
  have Fa28 := (Fq7_1.keep K9 nin0)
  obtain ⟨cq27, kq27, q27a, q27b, q27c⟩ := isOf hZ e24 Fa26
  obtain ⟨_, _, ⟨T27, L27, k27, n27⟩, -, X27, ⟨Lc27, hQ27, l27, y27, z27⟩, st27⟩ := X24.virtualBack hx (y := (⟨"com/example/nimble_anonymizer/nimbleanonymizer/Graph$Distances", "longest", "()I"⟩ : MethodName)) (z := (⟨"com/example/nimble_anonymizer/nimbleanonymizer/Graph$Distances", "longest", "()I"⟩ : MethodName)) hown (mvT hZ (hw _ (List.mem_of_getElem? (i := 38) rfl))) (mvT hZ (hw _ (List.mem_of_getElem? (i := 39) rfl))) (notFace_of_selects (args := #[]) (mvT hZ (hw _ (List.mem_of_getElem? (i := 41) rfl)))) (mvT hZ (hw _ (List.mem_of_getElem? (i := 41) rfl))) (mvT hZ (hw _ (List.mem_of_getElem? (i := 40) rfl))) (by decide) (backOf (W := 0) (rm8 l Z a0 hw [] b6 p4 T9.heap n0 Zs16 Fa28) hZ (hw _ (List.mem_of_getElem? (i := 42) rfl)) (hw _ (List.mem_of_getElem? (i := 2) rfl)) (by decide) (by decide)) q27a q27c (g := (mkF m 97 #[.val (.long q1), .second, iv p2, .val (.long q3), .second, iv p4, rv b1, rv b6, rv b_9, .val (.long (q1 + q3)), .second, iv (own_larger p2 p4)] [(.ref b6)])) rfl (by rw [hml]; rfl) (Steps.refl _) (argsL := []) (rest := []) (lenOf pd_6 rfl) rfl (by show 2 * 0 + _ ≤ _; exact Nat.le_of_eq rfl) (hb hby at_97) (fun _ _ => ⟨rfl, e24, (by decide : 3 + 0 ≤ _), (by decide : 6 + 0 ≤ _)⟩)
  dsimp only [Pt.U, Pt.locs, Pt.cells, Pt.slots] at X27 l27 y27 z27 st27 hQ27
  subst l27 y27 z27
  obtain ⟨rfl, Nq27, e27⟩ := hQ27
  have N27 := Fr.app N24 Nq27
  refine own_tr st27 ?_
  show own_Go _ _ _ _ (T27.setTop (mkF m 100 #[.val (.long q1), .second, iv p2, .val (.long q3), .second, iv p4, rv b1, rv b6, rv b_9, .val (.long (q1 + q3)), .second, iv (own_larger p2 p4)] [(.int p4)]))
  refine o_iload X27 hx (hb hby at_100) rfl ?_
  refine o_icmpNo X27 hx (hb hby at_102) (teq (rfl : p4 = p4)).2 ?_
  refine o_iconst X27 hx 1 (hb hby at_105) rfl ?_
  refine o_goto X27 hx (pc' := 110) (hb hby at_106) (by decide) (by decide) ?_
  have Kp29 : Keep h0 T9.heap [] := (Kp14.trans K9 all0)
  exact own_end X27 e27 (v := some (.int (1 : Int32))) (fun h => by rw [Bd.returns] at h; cases h) hlk (fun fs hr => retN X27 hx (z := (1 : Int32)) (t := .boolean) Bd.returns (by simp) (hb hby at_110) hr) (Q := Q_rm0 Z a0 q1 p2 q3 p4 h0 n0) ⟨rfl, N27, Kp29⟩ (by decide) (by decide)
set_option maxRecDepth 65536 in
set_option maxHeartbeats 40000000 in
theorem comes_1 {Post : Tables → Env → Array Value → State → Outcome → State → Prop} (hpost : ∀ tb e args s v u, (limb_1_1.after args s (.returned v) u = true ∧ limb_1_2.after args s (.returned v) u = true ∧ True) → FrameEnd s (.returned v) u (Jvm.fieldLocs frame_1_writes args s ++ Jvm.arrayLocs frame_1_arrays args s ++ Jvm.staticLocs frame_1_statics s) 16 128 → Post tb e args s (.returned v) u) :
    ArmFor flags0 classFile x code maxLocals ret World_1 tables_1 room_1 Calls_1 rest_1 Pre_1 Post := by
  intro l hfl _ _ p e ha hc hk s m args below hf hA hF happ hP
  obtain ⟨hcalls, hrest, hpre⟩ := hP
  obtain ⟨-, -, -, hnamed, -, -, -, hat⟩ := (Spec.applies_iff hf).mp happ
  obtain ⟨hg, hn⟩ := and_e (Cond.before_iff.mp (show (Jvm.Cond.and given_1 narrow_1).before args s = true from hpre))
  obtain ⟨g1, g2⟩ := and_e hg
  obtain ⟨g3, g4⟩ := and_e g2
  obtain ⟨g5, g6⟩ := and_e g4
  obtain ⟨g7, g8⟩ := and_e g6
  obtain ⟨w0, w1, w2, w3, rfl⟩ : ∃ w0 w1 w2 w3 : Value, args = #[w0, w1, w2, w3] := by
    have hs : args.size = 4 := by simpa [Cond.value, given_1] using g1
    obtain ⟨L⟩ := args
    match L, hs with
    | [w0, w1, w2, w3], _ => exact ⟨w0, w1, w2, w3, rfl⟩
  have hw := fun d (hd : d ∈ tables_1) => atoms_spec (ws := Jvm.Cond.code x code maxLocals ret :: tables_1) hat d (List.mem_cons_of_mem _ hd)
  have hfit : Fit s := fun {y c} hc i hi => by
    obtain ⟨ha, rfl⟩ := Array.getElem?_eq_some_iff.mp hc
    have q := List.all_eq_true.mp ((Array.all_eq_true_iff_forall_mem.mp hF) _ (Array.getElem_mem ha)) i (List.mem_range.mpr hi)
    simpa [Array.getElem?_eq_getElem hi] using q
  obtain ⟨i0, ei0⟩ := isL_v g3
  obtain rfl : w0 = (.long i0) := Option.some.inj ei0
  obtain ⟨i1, ei1⟩ := is_v g5
  obtain rfl : w1 = (.int i1) := Option.some.inj ei1
  obtain ⟨i2, ei2⟩ := isL_v g7
  obtain rfl : w2 = (.long i2) := Option.some.inj ei2
  obtain ⟨i3, ei3⟩ := is_v g8
  obtain rfl : w3 = (.int i3) := Option.some.inj ei3
  obtain ⟨n, o, h1, h2, h3, _, L, rfl, ⟨rfl, N, -⟩, hq⟩ := rm0 l s _ hw tables_1 i0 i1 i2 i3  s.heap s.heap.size (Nat.le_refl _)  p e ha hc hk s m _ below hf ((Spec.applies_iff_loose hf).mp happ).1 ⟨rfl, State.Warmed39.refl s, rfl⟩ trivial
  refine ⟨n, _, h1, h2, h3, hpost _ _ _ _ _ _ ⟨Cond.after_iff.mpr rfl, Cond.after_iff.mpr (eq_i res_at (Term.int_eval (1)) rfl), trivial⟩ ⟨hq.1, hq.2.1, (hq.2.2.sift fun y hy => Or.inr (N y hy)).mono (by decide) (by decide)⟩⟩
theorem main_1_1 : Claimed_1_1 := comes_1 fun _ _ _ _ _ _ h hF => ⟨h.1, hF⟩
theorem main_1_2 : Claimed_1_2 := comes_1 fun _ _ _ _ _ _ h hF => ⟨h.2.1, hF⟩
end Jvm.Pilot.@@N@@
namespace Jvm.Pilot.@@N@@
open Jvm Jvm.ClassFile Sem Op Lib Jvm.Free Jvm.Stand Jvm.Pilot.@@N@@.Jvm.D
/-! MADE BY PROGRAM (witnessworld.py) out of the Statement's table words and the real class files: 11 classes; the members and pool entries that the words name. The judged class is class 1, her method 2. -/
namespace start1
open Jvm.ClassFile
def u (s : String) : CpInfo := .utf8 (stringToUtf16 s)
/-- a pool by its gaps: so many unusable entries, then the entry; so many at the end -/
def gap : Nat → List CpInfo → List CpInfo
  | 0, r => r
  | n + 1, r => .unusable :: gap n r
def poolList (es : List (Nat × CpInfo)) (last : Nat) : List CpInfo := es.foldr (fun e r => gap e.1 (e.2 :: r)) (gap last [])
def pool (es : List (Nat × CpInfo)) (last : Nat) : Array CpInfo := ⟨poolList es last⟩
def fileOf (pool : Array CpInfo) (this : Nat) (attrs : Array Attribute := #[]) (ms : Array MethodInfo := #[]) (fl : Nat := 33) (sup : Nat := 0) (ifs : Array Nat := #[]) (fds : Array FieldInfo := #[]) : ClassFile where
  minorVersion := 0
  majorVersion := 65
  constantPool := pool
  accessFlags := fl
  thisClass := this
  superClass := sup
  interfaces := ifs
  fields := fds
  methods := ms
  attributes := attrs
def plain (name : String) (sup : Option ClassId) : Class where
  name := name
  kind := .ordinary
  loader := none
  accessFlags := 33
  super := sup
  interfaces := #[]
  cf := none
  fields := #[]
  methods := #[]
  instanceTypes := #[]
  staticTypes := #[]
  resolved := #[]
  callSites := []
  init := .initialized
  statics := none
  mirror := none

def pool0 : Array CpInfo := pool [(5, u "<init>"), (0, u "()V"), (1, .class_ 10), (1, u "java/lang/Object")] 113

def k0c0 : Code := { maxStack := 0, maxLocals := 1, code := object_method_1_code, exceptionTable := #[], attributes := #[] }
def k0m0 : Method := { name := "<init>", desc := "()V", sig := { parameters := [], returnType := none }, accessFlags := 1, code := some k0c0 }
/-- java/lang/Object -/
def k0 : Class := { plain "java/lang/Object" none with
  accessFlags := 33
  interfaces := #[]
  cf := some (fileOf pool0 8 #[] #[{ accessFlags := 1, nameIndex := 5, descriptorIndex := 6, attributes := #[] }] 33 0 #[] #[])
  fields := #[]
  methods := #[k0m0]
  instanceTypes := #[]
  staticTypes := #[]
  resolved := Array.replicate 124 none
  statics := none }

def pool1 : Array CpInfo := pool [(2, .class_ 4), (1, u "java/lang/Object"), (0, u "<init>"), (0, u "()V"), (0, .class_ 8), (0, u "com/example/nimble_anonymizer/nimbleanonymizer/Graph$Distances"), (0, .methodref 7 10), (0, .nameAndType 5 11), (0, u "(JI)V"), (0, .methodref 7 13), (0, .nameAndType 14 15), (0, u "plus"), (0, u "(Lcom/example/nimble_anonymizer/nimbleanonymizer/Graph$Distances;)Lcom/example/nimble_anonymizer/nimbleanonymizer/Graph$Distances;"), (0, .methodref 17 18), (0, .class_ 19), (0, .nameAndType 20 21), (0, u "com/example/nimble_anonymizer/nimbleanonymizer/DistancesPlusPinLaw"), (0, u "larger"), (0, u "(II)I"), (0, .methodref 7 23), (0, .nameAndType 24 25), (0, u "sum"), (0, u "()J"), (0, .methodref 7 27), (0, .nameAndType 28 29), (0, u "longest"), (0, u "()I"), (3, u "law"), (0, u "(JIJI)Z")] 6

def k1m0 : Method := { name := "<init>", desc := "()V", sig := { parameters := [], returnType := none }, accessFlags := 2, code := none }
def k1c1 : Code := { maxStack := 2, maxLocals := 2, code := method_2_code, exceptionTable := #[], attributes := #[] }
def k1m1 : Method := { name := "larger", desc := "(II)I", sig := { parameters := [.int, .int], returnType := some .int }, accessFlags := 10, code := some k1c1 }
def k1c2 : Code := { maxStack := 5, maxLocals := 12, code := code, exceptionTable := #[], attributes := #[] }
def k1m2 : Method := { name := "law", desc := "(JIJI)Z", sig := { parameters := [.long, .int, .long, .int], returnType := some .boolean }, accessFlags := 9, code := some k1c2 }
/-- com/example/nimble_anonymizer/nimbleanonymizer/DistancesPlusPinLaw -/
def k1 : Class := { plain "com/example/nimble_anonymizer/nimbleanonymizer/DistancesPlusPinLaw" (some 0) with
  accessFlags := 49
  interfaces := #[]
  cf := some (fileOf pool1 17 #[] #[{ accessFlags := 2, nameIndex := 5, descriptorIndex := 6, attributes := #[] }, { accessFlags := 10, nameIndex := 20, descriptorIndex := 21, attributes := #[] }, { accessFlags := 9, nameIndex := 33, descriptorIndex := 34, attributes := #[] }] 49 2 #[] #[])
  fields := #[]
  methods := #[k1m0, k1m1, k1m2]
  instanceTypes := #[]
  staticTypes := #[]
  resolved := Array.replicate 41 none
  statics := none }

def pool2 : Array CpInfo := pool [(1, .methodref 2 3), (0, .class_ 4), (0, .nameAndType 5 6), (0, u "java/lang/Object"), (0, u "<init>"), (0, u "()V"), (0, .class_ 8), (0, u "java/lang/Record")] 13

def k2c0 : Code := { maxStack := 1, maxLocals := 1, code := jdk_30_method_1_code, exceptionTable := #[], attributes := #[] }
def k2m0 : Method := { name := "<init>", desc := "()V", sig := { parameters := [], returnType := none }, accessFlags := 4, code := some k2c0 }
/-- java/lang/Record -/
def k2 : Class := { plain "java/lang/Record" (some 0) with
  accessFlags := 1057
  interfaces := #[]
  cf := some (fileOf pool2 7 #[] #[{ accessFlags := 4, nameIndex := 5, descriptorIndex := 6, attributes := #[] }] 1057 2 #[] #[])
  fields := #[]
  methods := #[k2m0]
  instanceTypes := #[]
  staticTypes := #[]
  resolved := Array.replicate 22 none
  statics := none }

def pool3 : Array CpInfo := pool [(1, .methodref 2 3), (0, .class_ 4), (0, .nameAndType 5 6), (0, u "java/lang/Record"), (0, u "<init>"), (0, u "()V"), (0, .fieldref 8 9), (0, .class_ 10), (0, .nameAndType 11 12), (0, u "com/example/nimble_anonymizer/nimbleanonymizer/Graph$Distances"), (0, u "sum"), (0, u "J"), (0, .fieldref 8 14), (0, .nameAndType 15 16), (0, u "longest"), (0, u "I"), (0, .methodref 18 19), (0, .class_ 20), (0, .nameAndType 21 22), (0, u "java/lang/Math"), (0, u "max"), (0, u "(II)I"), (0, .methodref 8 24), (0, .nameAndType 5 25), (0, u "(JI)V"), (15, u "plus"), (0, u "(Lcom/example/nimble_anonymizer/nimbleanonymizer/Graph$Distances;)Lcom/example/nimble_anonymizer/nimbleanonymizer/Graph$Distances;"), (1, u "()I"), (1, u "()J"), (3, .class_ 51), (0, u "com/example/nimble_anonymizer/nimbleanonymizer/Graph")] 20

def k3c0 : Code := { maxStack := 3, maxLocals := 4, code := prog_15_method_1_code, exceptionTable := #[], attributes := #[] }
def k3m0 : Method := { name := "<init>", desc := "(JI)V", sig := { parameters := [.long, .int], returnType := none }, accessFlags := 0, code := some k3c0 }
def k3c1 : Code := { maxStack := 6, maxLocals := 2, code := prog_15_method_2_code, exceptionTable := #[], attributes := #[] }
def k3m1 : Method := { name := "plus", desc := "(Lcom/example/nimble_anonymizer/nimbleanonymizer/Graph$Distances;)Lcom/example/nimble_anonymizer/nimbleanonymizer/Graph$Distances;", sig := { parameters := [(.object "com/example/nimble_anonymizer/nimbleanonymizer/Graph$Distances")], returnType := some (.object "com/example/nimble_anonymizer/nimbleanonymizer/Graph$Distances") }, accessFlags := 0, code := some k3c1 }
def k3c2 : Code := { maxStack := 2, maxLocals := 1, code := prog_15_method_6_code, exceptionTable := #[], attributes := #[] }
def k3m2 : Method := { name := "sum", desc := "()J", sig := { parameters := [], returnType := some .long }, accessFlags := 1, code := some k3c2 }
def k3c3 : Code := { maxStack := 1, maxLocals := 1, code := prog_15_method_7_code, exceptionTable := #[], attributes := #[] }
def k3m3 : Method := { name := "longest", desc := "()I", sig := { parameters := [], returnType := some .int }, accessFlags := 1, code := some k3c3 }
/-- com/example/nimble_anonymizer/nimbleanonymizer/Graph$Distances -/
def k3 : Class := { plain "com/example/nimble_anonymizer/nimbleanonymizer/Graph$Distances" (some 2) with
  accessFlags := 48
  interfaces := #[]
  cf := some (fileOf pool3 8 #[.nestHost 50] #[{ accessFlags := 0, nameIndex := 5, descriptorIndex := 25, attributes := #[] }, { accessFlags := 0, nameIndex := 41, descriptorIndex := 42, attributes := #[] }, { accessFlags := 1, nameIndex := 11, descriptorIndex := 46, attributes := #[] }, { accessFlags := 1, nameIndex := 15, descriptorIndex := 44, attributes := #[] }] 48 2 #[] #[{ accessFlags := 18, nameIndex := 11, descriptorIndex := 12, attributes := #[] }, { accessFlags := 18, nameIndex := 15, descriptorIndex := 16, attributes := #[] }])
  fields := #[{ name := "sum", type := .long, accessFlags := 18, slot := 0, constantValue := 0 }, { name := "longest", type := .int, accessFlags := 18, slot := 1, constantValue := 0 }]
  methods := #[k3m0, k3m1, k3m2, k3m3]
  instanceTypes := #[.long, .int]
  staticTypes := #[]
  resolved := Array.replicate 72 none
  statics := none }

def pool4 : Array CpInfo := pool [(1, .class_ 2), (0, u "java/lang/Math"), (1, .class_ 6), (1, u "java/lang/Object"), (0, u "<init>"), (0, u "()V"), (89, .class_ 100), (1, u "java/lang/Math$RandomNumberGeneratorHolder"), (71, u "negativeZeroFloatBits"), (0, u "J"), (2, u "negativeZeroDoubleBits"), (21, u "max"), (46, u "$assertionsDisabled"), (0, u "Z"), (88, u "(II)I"), (2, u "twoToTheDoubleScaleDown"), (0, u "D"), (4, u "twoToTheDoubleScaleUp"), (9, u "E"), (3, u "PI"), (2, u "TAU"), (2, u "DEGREES_TO_RADIANS"), (0, u "RADIANS_TO_DEGREES")] 94

def k4m0 : Method := { name := "<init>", desc := "()V", sig := { parameters := [], returnType := none }, accessFlags := 2, code := none }
def k4c1 : Code := { maxStack := 2, maxLocals := 2, code := jdk_29_method_65_code, exceptionTable := #[], attributes := #[] }
def k4m1 : Method := { name := "max", desc := "(II)I", sig := { parameters := [.int, .int], returnType := some .int }, accessFlags := 9, code := some k4c1 }
/-- java/lang/Math -/
def k4 : Class := { plain "java/lang/Math" (some 0) with
  accessFlags := 49
  interfaces := #[]
  cf := some (fileOf pool4 1 #[.nestMembers #[98]] #[{ accessFlags := 2, nameIndex := 7, descriptorIndex := 8, attributes := #[] }, { accessFlags := 9, nameIndex := 198, descriptorIndex := 335, attributes := #[] }] 49 4 #[] #[{ accessFlags := 25, nameIndex := 354, descriptorIndex := 339, attributes := #[] }, { accessFlags := 25, nameIndex := 358, descriptorIndex := 339, attributes := #[] }, { accessFlags := 25, nameIndex := 361, descriptorIndex := 339, attributes := #[] }, { accessFlags := 26, nameIndex := 364, descriptorIndex := 339, attributes := #[] }, { accessFlags := 26, nameIndex := 365, descriptorIndex := 339, attributes := #[] }, { accessFlags := 26, nameIndex := 172, descriptorIndex := 173, attributes := #[] }, { accessFlags := 26, nameIndex := 176, descriptorIndex := 173, attributes := #[] }, { accessFlags := 8, nameIndex := 344, descriptorIndex := 339, attributes := #[] }, { accessFlags := 8, nameIndex := 338, descriptorIndex := 339, attributes := #[] }, { accessFlags := 4120, nameIndex := 245, descriptorIndex := 246, attributes := #[] }])
  fields := #[{ name := "E", type := .double, accessFlags := 25, slot := 0, constantValue := 0 }, { name := "PI", type := .double, accessFlags := 25, slot := 1, constantValue := 0 }, { name := "TAU", type := .double, accessFlags := 25, slot := 2, constantValue := 0 }, { name := "DEGREES_TO_RADIANS", type := .double, accessFlags := 26, slot := 3, constantValue := 0 }, { name := "RADIANS_TO_DEGREES", type := .double, accessFlags := 26, slot := 4, constantValue := 0 }, { name := "negativeZeroFloatBits", type := .long, accessFlags := 26, slot := 5, constantValue := 0 }, { name := "negativeZeroDoubleBits", type := .long, accessFlags := 26, slot := 6, constantValue := 0 }, { name := "twoToTheDoubleScaleUp", type := .double, accessFlags := 8, slot := 7, constantValue := 0 }, { name := "twoToTheDoubleScaleDown", type := .double, accessFlags := 8, slot := 8, constantValue := 0 }, { name := "$assertionsDisabled", type := .boolean, accessFlags := 4120, slot := 9, constantValue := 0 }]
  methods := #[k4m0, k4m1]
  instanceTypes := #[]
  staticTypes := #[.double, .double, .double, .double, .double, .long, .long, .double, .double, .boolean]
  resolved := Array.replicate 460 none
  statics := none }

def pool5 : Array CpInfo := pool [(1, u "java/lang/Cloneable"), (0, .class_ 1), (0, u "java/lang/Object"), (0, .class_ 3)] 3

/-- java/lang/Cloneable -/
def k5 : Class := { plain "java/lang/Cloneable" (some 0) with
  accessFlags := 1537
  interfaces := #[]
  cf := some (fileOf pool5 2 #[] #[] 1537 4 #[] #[])
  fields := #[]
  methods := #[]
  instanceTypes := #[]
  staticTypes := #[]
  resolved := Array.replicate 8 none
  statics := none }

def pool6 : Array CpInfo := pool [(1, u "java/io/Serializable"), (0, .class_ 1), (0, u "java/lang/Object"), (0, .class_ 3)] 3

/-- java/io/Serializable -/
def k6 : Class := { plain "java/io/Serializable" (some 0) with
  accessFlags := 1537
  interfaces := #[]
  cf := some (fileOf pool6 2 #[] #[] 1537 4 #[] #[])
  fields := #[]
  methods := #[]
  instanceTypes := #[]
  staticTypes := #[]
  resolved := Array.replicate 8 none
  statics := none }

/-- the primitive byte -/
def k7 : Class := { plain "byte" none with kind := .primitive 'B', accessFlags := 0x411 }
/-- [B -/
def k8 : Class := { plain "[B" (some 0) with kind := .array 7 .byte, interfaces := #[5, 6], accessFlags := 1041 }

/-- the primitive int -/
def k9 : Class := { plain "int" none with kind := .primitive 'I', accessFlags := 0x411 }
/-- [I -/
def k10 : Class := { plain "[I" (some 0) with kind := .array 9 .int, interfaces := #[5, 6], accessFlags := 1041 }

def heap : Heap := #[]
def classes : Array Class := #[k0, k1, k2, k3, k4, k5, k6, k7, k8, k9, k10]
def interned : List (Array UInt16 × Addr) := []
def slotsUsed : Nat := 0
def theMethod : MethodId := ⟨1, 2⟩
def args0 : Array Value := #[.long 5, .int 3, .long 7, .int 9]
def aboutOver (below : List Frame) : State where
  vm := { classes := classes, interned := interned.toArray }
  heap := heap
  slotsUsed := slotsUsed
  threads := #[{ frames := .invoking theMethod args0 :: below }]
def below0 : List Frame := [.native { method := ⟨0, 0⟩, args := #[] }]
def about1 : State := aboutOver below0
def p0 : Program := .bare "" "" ""
def e0 : Env := launch0.env 0 0 0
theorem w_frames : about1.frames = Frame.invoking theMethod args0 :: below0 := rfl
set_option maxRecDepth 65536 in
theorem w_args : argsFit about1.vm theMethod args0 = true := by decide +kernel
set_option maxRecDepth 65536 in
theorem w_heap : heapFits about1 = true := by decide +kernel
set_option maxRecDepth 65536 in
theorem w_runnable : about1.curStatus? = some .runnable := by decide +kernel
set_option maxRecDepth 65536 in
theorem w_alone : about1.alone = true := by decide +kernel
set_option maxRecDepth 65536 in
theorem w_named : about1.methodNamed? x = some theMethod := by decide +kernel
set_option maxRecDepth 65536 in
theorem w_hears : about1.hears theMethod below0 = true := by decide +kernel
set_option maxRecDepth 65536 in
theorem w_ripe : about1.ripe theMethod args0 below0 = true := by decide +kernel
theorem w_running : about1.status = .running := rfl
set_option maxRecDepth 65536 in
theorem w_room : about1.hasRoom e0.platform room_1 = true :=
  launch0.hasRoom_least _ room_1 (by decide +kernel) (by decide +kernel) (by decide +kernel) (by decide +kernel) (by decide +kernel) (by decide +kernel)
theorem allAtoms_all (ts : List Jvm.Cond) (a : Array Jvm.Value) (st : Jvm.State) : (allAtoms ts).before a st = ts.all (fun c => c.before a st) := by
  induction ts with
  | nil => rfl
  | cons c t ih =>
    show (Jvm.Cond.and c (allAtoms t)).before a st = _
    rw [Jvm.Cond.before_and, ih, List.all_cons]
def words1 : List Jvm.Cond := Jvm.Cond.code x code maxLocals ret :: tables_1
/-- a 'code' word, met by the world's own term for the bytes: nothing is compared byte by byte -/
theorem code_word {y : MethodName} {bytes : ByteArray} {mx : Nat} {rt : Option FieldType} {a : Array Value} {s : State} {m : MethodId} {meth : Method} {c : Code} (h1 : s.methodNamed? y = some m) (h2 : s.vm.method? m = some meth) (h3 : meth.code = some c) (h4 : c.code = bytes)
    (h5 : (c.maxLocals == mx && c.exceptionTable.isEmpty && decide (c.maxStack ≤ mostOperands) && decide (meth.sig.returnType = rt) && !meth.locks && decide (parseMethodDescriptor y.desc = some meth.sig)) = true) : (Jvm.Cond.code y bytes mx rt).before a s = true := by
  simp only [Bool.and_eq_true, beq_iff_eq, Bool.not_eq_true', decide_eq_true_eq] at h5
  obtain ⟨⟨⟨⟨⟨g1, g2⟩, g3⟩, g4⟩, g5⟩, g6⟩ := h5
  simp [Cond.before, Cond.holds, Cond.value, h1, h2, h3, h4, g1, g2, g3, g4, g5, g6]
def isCode : Jvm.Cond → Bool
  | .code _ _ _ _ => true
  | _ => false
theorem all_split {L : List Jvm.Cond} {P : Jvm.Cond → Bool} (h1 : L.all (fun c => isCode c || P c) = true) (h2 : ∀ c ∈ L.filter isCode, P c = true) : L.all P = true := by
  refine List.all_eq_true.mpr fun c hc => ?_
  have h := List.all_eq_true.mp h1 c hc
  rcases Bool.eq_false_or_eq_true (isCode c) with hi | hi
  · exact h2 c (List.mem_filter.mpr ⟨hc, hi⟩)
  · simpa [hi] using h
set_option maxRecDepth 65536 in
theorem w_c0 : (Jvm.Cond.code x code maxLocals ret).before args0 about1 = true := code_word (m := ⟨1, 2⟩) (meth := k1m2) (c := k1c2) (by decide +kernel) rfl rfl rfl (by decide +kernel)
set_option maxRecDepth 65536 in
theorem w_c1 : (Jvm.Cond.code ({ cls := "com/example/nimble_anonymizer/nimbleanonymizer/Graph$Distances", name := "<init>", desc := "(JI)V" } : Jvm.MethodName) prog_15_method_1_code (4 : Nat) (Option.none : Option Jvm.ClassFile.FieldType)).before args0 about1 = true := code_word (m := ⟨3, 0⟩) (meth := k3m0) (c := k3c0) (by decide +kernel) rfl rfl rfl (by decide +kernel)
set_option maxRecDepth 65536 in
theorem w_c2 : (Jvm.Cond.code ({ cls := "java/lang/Record", name := "<init>", desc := "()V" } : Jvm.MethodName) jdk_30_method_1_code (1 : Nat) (Option.none : Option Jvm.ClassFile.FieldType)).before args0 about1 = true := code_word (m := ⟨2, 0⟩) (meth := k2m0) (c := k2c0) (by decide +kernel) rfl rfl rfl (by decide +kernel)
set_option maxRecDepth 65536 in
theorem w_c3 : (Jvm.Cond.code ({ cls := "java/lang/Object", name := "<init>", desc := "()V" } : Jvm.MethodName) object_method_1_code (1 : Nat) (Option.none : Option Jvm.ClassFile.FieldType)).before args0 about1 = true := code_word (m := ⟨0, 0⟩) (meth := k0m0) (c := k0c0) (by decide +kernel) rfl rfl rfl (by decide +kernel)
set_option maxRecDepth 65536 in
theorem w_c4 : (Jvm.Cond.code ({ cls := "com/example/nimble_anonymizer/nimbleanonymizer/Graph$Distances", name := "plus", desc := "(Lcom/example/nimble_anonymizer/nimbleanonymizer/Graph$Distances;)Lcom/example/nimble_anonymizer/nimbleanonymizer/Graph$Distances;" } : Jvm.MethodName) prog_15_method_2_code (2 : Nat) (Option.some (Jvm.ClassFile.FieldType.object "com/example/nimble_anonymizer/nimbleanonymizer/Graph$Distances"))).before args0 about1 = true := code_word (m := ⟨3, 1⟩) (meth := k3m1) (c := k3c1) (by decide +kernel) rfl rfl rfl (by decide +kernel)
set_option maxRecDepth 65536 in
theorem w_c5 : (Jvm.Cond.code ({ cls := "java/lang/Math", name := "max", desc := "(II)I" } : Jvm.MethodName) jdk_29_method_65_code (2 : Nat) (Option.some Jvm.ClassFile.FieldType.int)).before args0 about1 = true := code_word (m := ⟨4, 1⟩) (meth := k4m1) (c := k4c1) (by decide +kernel) rfl rfl rfl (by decide +kernel)
set_option maxRecDepth 65536 in
theorem w_c6 : (Jvm.Cond.code ({ cls := "com/example/nimble_anonymizer/nimbleanonymizer/DistancesPlusPinLaw", name := "larger", desc := "(II)I" } : Jvm.MethodName) method_2_code (2 : Nat) (Option.some Jvm.ClassFile.FieldType.int)).before args0 about1 = true := code_word (m := ⟨1, 1⟩) (meth := k1m1) (c := k1c1) (by decide +kernel) rfl rfl rfl (by decide +kernel)
set_option maxRecDepth 65536 in
theorem w_c7 : (Jvm.Cond.code ({ cls := "com/example/nimble_anonymizer/nimbleanonymizer/Graph$Distances", name := "sum", desc := "()J" } : Jvm.MethodName) prog_15_method_6_code (1 : Nat) (Option.some Jvm.ClassFile.FieldType.long)).before args0 about1 = true := code_word (m := ⟨3, 2⟩) (meth := k3m2) (c := k3c2) (by decide +kernel) rfl rfl rfl (by decide +kernel)
set_option maxRecDepth 65536 in
theorem w_c8 : (Jvm.Cond.code ({ cls := "com/example/nimble_anonymizer/nimbleanonymizer/Graph$Distances", name := "longest", desc := "()I" } : Jvm.MethodName) prog_15_method_7_code (1 : Nat) (Option.some Jvm.ClassFile.FieldType.int)).before args0 about1 = true := code_word (m := ⟨3, 3⟩) (meth := k3m3) (c := k3c3) (by decide +kernel) rfl rfl rfl (by decide +kernel)
def codes1 : List Jvm.Cond := [Jvm.Cond.code x code maxLocals ret, Jvm.Cond.code ({ cls := "com/example/nimble_anonymizer/nimbleanonymizer/Graph$Distances", name := "<init>", desc := "(JI)V" } : Jvm.MethodName) prog_15_method_1_code (4 : Nat) (Option.none : Option Jvm.ClassFile.FieldType), Jvm.Cond.code ({ cls := "java/lang/Record", name := "<init>", desc := "()V" } : Jvm.MethodName) jdk_30_method_1_code (1 : Nat) (Option.none : Option Jvm.ClassFile.FieldType), Jvm.Cond.code ({ cls := "java/lang/Object", name := "<init>", desc := "()V" } : Jvm.MethodName) object_method_1_code (1 : Nat) (Option.none : Option Jvm.ClassFile.FieldType), Jvm.Cond.code ({ cls := "com/example/nimble_anonymizer/nimbleanonymizer/Graph$Distances", name := "plus", desc := "(Lcom/example/nimble_anonymizer/nimbleanonymizer/Graph$Distances;)Lcom/example/nimble_anonymizer/nimbleanonymizer/Graph$Distances;" } : Jvm.MethodName) prog_15_method_2_code (2 : Nat) (Option.some (Jvm.ClassFile.FieldType.object "com/example/nimble_anonymizer/nimbleanonymizer/Graph$Distances")), Jvm.Cond.code ({ cls := "java/lang/Math", name := "max", desc := "(II)I" } : Jvm.MethodName) jdk_29_method_65_code (2 : Nat) (Option.some Jvm.ClassFile.FieldType.int), Jvm.Cond.code ({ cls := "com/example/nimble_anonymizer/nimbleanonymizer/DistancesPlusPinLaw", name := "larger", desc := "(II)I" } : Jvm.MethodName) method_2_code (2 : Nat) (Option.some Jvm.ClassFile.FieldType.int), Jvm.Cond.code ({ cls := "com/example/nimble_anonymizer/nimbleanonymizer/Graph$Distances", name := "sum", desc := "()J" } : Jvm.MethodName) prog_15_method_6_code (1 : Nat) (Option.some Jvm.ClassFile.FieldType.long), Jvm.Cond.code ({ cls := "com/example/nimble_anonymizer/nimbleanonymizer/Graph$Distances", name := "longest", desc := "()I" } : Jvm.MethodName) prog_15_method_7_code (1 : Nat) (Option.some Jvm.ClassFile.FieldType.int)]
set_option maxRecDepth 65536 in
theorem codes_eq : words1.filter isCode = codes1 := rfl
theorem w_codes : ∀ c ∈ words1.filter isCode, c.before args0 about1 = true := by
  rw [codes_eq]
  intro c hc
  simp only [codes1, List.mem_cons, List.not_mem_nil, or_false] at hc
  rcases hc with rfl | rfl | rfl | rfl | rfl | rfl | rfl | rfl | rfl
  · exact w_c0
  · exact w_c1
  · exact w_c2
  · exact w_c3
  · exact w_c4
  · exact w_c5
  · exact w_c6
  · exact w_c7
  · exact w_c8
set_option maxRecDepth 65536 in
theorem w_t1 : (words1.take 24).all (fun c => isCode c || c.before args0 about1) = true := by decide +kernel
set_option maxRecDepth 65536 in
theorem w_t2 : (words1.drop 24).all (fun c => isCode c || c.before args0 about1) = true := by decide +kernel
theorem w_tables : (allAtoms (Jvm.Cond.code x code maxLocals ret :: tables_1)).before args0 about1 = true := by
  rw [allAtoms_all]
  show words1.all (fun c => c.before args0 about1) = true
  refine all_split ?_ w_codes
  rw [← List.take_append_drop 24 words1, List.all_append, w_t1, w_t2]
  rfl
set_option maxRecDepth 65536 in
theorem w_case : (Jvm.Cond.and given_1 narrow_1).before args0 about1 = true := by decide +kernel
theorem w_applies : (headSpec (Jvm.Cond.code x code maxLocals ret :: tables_1) room_1).applies x e0.platform about1 = true :=
  (Spec.applies_iff w_frames).mpr ⟨w_running, w_runnable, w_alone, w_named, w_hears, w_ripe, w_room, w_tables⟩
theorem atStart : AtStart classFile x code maxLocals ret World_1 tables_1 room_1 Calls_1 rest_1 Pre_1 launch0 p0 e0 about1 theMethod args0 below0 :=
  ⟨lists_1, trivial, launch0.admits_env _ _ _, launch0.least_env, fairChoices_fair.cas, fairChoices_fair.clock, w_frames, w_args, w_heap, w_applies, trivial, trivial, w_case⟩
end start1
theorem witness_1 : WitnessClaimed_1 := ⟨start1.p0, start1.e0, start1.about1, start1.theMethod, start1.args0, start1.below0, start1.atStart⟩
end Jvm.Pilot.@@N@@
