import JvmDerived
import JvmDerived.Pilot.@@N@@Statement
import JvmDerived.Pilot.@@N@@Code
set_option linter.unusedVariables false
set_option linter.unusedSimpArgs false
namespace Jvm.RoadKit
open Sem ClassFile Op Lib Jvm.Stand Jvm.Free Jvm.LawKit
section New
variable {p : Program} {l : Launch} {e : Env} {R : Room} {s : State} {m : MethodId} {args : Array Value} {below : List Frame} {meth : Method} {c : Code} {T : State} {locs : List Loc} {cells slots : Nat}
theorem retI (X : Stand p l e R s m args below meth c T locs cells slots) (hx : p.tables.exec = Jvm.exec) {pc : Nat} {Ls : Array Slot} {z : Int32} {rest : List Value} (hret : meth.sig.returnType = some .int) (hd : decode c.code pc = .ok (.ireturn, 1)) {fs : List Frame}
    (hl : ∀ (f : JFrame) (acts : List Action), f.method = m → f.locked = none → f.entered = [] → (doReturn e (T.setTop f) acts (some (.int z))).1 = T.setFrames fs) : Steps p.tables e below (T.setTop (mkF m pc Ls (.int z :: rest))) (T.setFrames fs) := by
  have hm' : T.vm.method? m = some meth := X.method'
  have hn : narrow .int (.int z) = .int z := rfl
  show Steps p.tables e below (T.setTop { method := m, pc := pc, locals := Ls, stack := _ :: rest, locked := none }) _
  jvm_step X.here [X.here.top, hx, hd, hm', hret, hn]
  first | (intro acts; rw [hl _ acts rfl rfl rfl]) | rw [hl _ _ rfl rfl rfl]
  exact Steps.refl _
theorem own_retA (X : Stand p l e R s m args below meth c T locs cells slots) (hx : p.tables.exec = Jvm.exec) {pc : Nat} {Ls : Array Slot} {w : Value} {t : FieldType} {rest : List Value} (hret : meth.sig.returnType = some t) (ht : t.isReference = true) (hw : w.isRef = true) (hd : decode c.code pc = .ok (.areturn, 1)) {fs : List Frame}
    (hl : ∀ (f : JFrame) (acts : List Action), f.method = m → f.locked = none → f.entered = [] → (doReturn e (T.setTop f) acts (some w)).1 = T.setFrames fs) : Steps p.tables e below (T.setTop (mkF m pc Ls (w :: rest))) (T.setFrames fs) := by
  have hm' : T.vm.method? m = some meth := X.method'
  rcases ref_cases hw with rfl | ⟨z, rfl⟩
  all_goals
    show Steps p.tables e below (T.setTop { method := m, pc := pc, locals := Ls, stack := _ :: rest, locked := none }) _
    jvm_step X.here [X.here.top, hx, hd, hm', hret, Value.isRef]
    try (refine ⟨ht, ?_⟩)
    first | (intro acts; rw [hl _ acts rfl rfl rfl]) | rw [hl _ _ rfl rfl rfl]
    exact Steps.refl _
end New
/-- from U the run comes to an end of which P tells -/
def own_Go (tb : Tables) (e : Env) (below : List Frame) (P : Outcome → State → Prop) (U : State) : Prop := ∃ s₂ o, Steps tb e below U s₂ ∧ s₂.status = .running ∧ Ended s₂ below o ∧ P o s₂
theorem own_st {tb : Tables} {e : Env} {below : List Frame} {P : Outcome → State → Prop} {U V : State} (h : ∀ t, Steps tb e below V t → Steps tb e below U t) (g : own_Go tb e below P V) : own_Go tb e below P U := by
  obtain ⟨s₂, o, h1, r⟩ := g
  exact ⟨s₂, o, h _ h1, r⟩
theorem own_tr {tb : Tables} {e : Env} {below : List Frame} {P : Outcome → State → Prop} {U V : State} (h : Steps tb e below U V) (g : own_Go tb e below P V) : own_Go tb e below P U := by
  obtain ⟨s₂, o, h1, r⟩ := g
  exact ⟨s₂, o, h.trans h1, r⟩
theorem own_end {p : Program} {l : Launch} {e : Env} {R : Room} {s : State} {m : MethodId} {args : Array Value} {below : List Frame} {meth : Method} {c : Code} {T : State} {locs : List Loc} {cells slots : Nat} (X : Stand p l e R s m args below meth c T locs cells slots) {h : Heap} (eT : T.heap = h) {v : Option Value} (hv : meth.sig.returnType = none → v = none) (hlk : meth.locks = false) {g : JFrame}
    (hst : ∀ fs, (∀ (f : JFrame) (acts : List Action), f.method = m → f.locked = none → f.entered = [] → (doReturn e (T.setTop f) acts v).1 = T.setFrames fs) → Steps p.tables e below (T.setTop g) (T.setFrames fs))
    {Q : Option Value → Heap → List Loc → Prop} (hQ : Q v h locs) {cc ss : Nat} (hc : cells ≤ cc) (hs : slots ≤ ss) :
    own_Go p.tables e below (fun o U' => ∃ v L, o = .returned v ∧ Q v U'.heap L ∧ FrameEnd s o U' L cc ss) (T.setTop g) := by
  subst eT
  obtain ⟨fs, hr, hrun, hended, hW, hsame⟩ := X.leave (v := v) hv hlk
  exact ⟨_, _, hst fs hr, hrun, hended, _, _, rfl, hQ, ⟨_, rfl⟩, hW, hsame.mono hc hs⟩
section Steps2
variable {p : Program} {l : Launch} {e : Env} {R : Room} {s : State} {m : MethodId} {args : Array Value} {below : List Frame} {meth : Method} {c : Code} {T : State} {locs : List Loc} {cells slots : Nat} {P : Outcome → State → Prop} {pc : Nat} {Ls : Array Slot} {st : List Value}
theorem o_iloadN (X : Stand p l e R s m args below meth c T locs cells slots) (hx : p.tables.exec = Jvm.exec) {k : Fin 4} {v : Int32} (hd : decode c.code pc = .ok (.iload_n k, 1)) (hl : Ls[k.val]? = some (.val (.int v))) (g : own_Go p.tables e below P (T.setTop (mkF m (pc + 1) Ls (.int v :: st)))) : own_Go p.tables e below P (T.setTop (mkF m pc Ls st)) := own_st (fun t k => XS.iloadN X.here hx rfl hd hl k) g
theorem o_iload (X : Stand p l e R s m args below meth c T locs cells slots) (hx : p.tables.exec = Jvm.exec) {k : Nat} {v : Int32} (hd : decode c.code pc = .ok (.iload k, 2)) (hl : Ls[k]? = some (.val (.int v))) (g : own_Go p.tables e below P (T.setTop (mkF m (pc + 2) Ls (.int v :: st)))) : own_Go p.tables e below P (T.setTop (mkF m pc Ls st)) := own_st (fun t k => XS.iload X.here hx rfl hd hl k) g
theorem o_lloadN (X : Stand p l e R s m args below meth c T locs cells slots) (hx : p.tables.exec = Jvm.exec) {k : Fin 4} {v : Int64} (hd : decode c.code pc = .ok (.lload_n k, 1)) (hl : Ls[k.val]? = some (.val (.long v))) (g : own_Go p.tables e below P (T.setTop (mkF m (pc + 1) Ls (.long v :: st)))) : own_Go p.tables e below P (T.setTop (mkF m pc Ls st)) := own_st (fun t k => XS.lloadN X.here hx rfl hd hl k) g
theorem o_lload (X : Stand p l e R s m args below meth c T locs cells slots) (hx : p.tables.exec = Jvm.exec) {k : Nat} {v : Int64} (hd : decode c.code pc = .ok (.lload k, 2)) (hl : Ls[k]? = some (.val (.long v))) (g : own_Go p.tables e below P (T.setTop (mkF m (pc + 2) Ls (.long v :: st)))) : own_Go p.tables e below P (T.setTop (mkF m pc Ls st)) := own_st (fun t k => XS.lload X.here hx rfl hd hl k) g
theorem o_aloadN (X : Stand p l e R s m args below meth c T locs cells slots) (hx : p.tables.exec = Jvm.exec) {k : Fin 4} {v : Value} (hd : decode c.code pc = .ok (.aload_n k, 1)) (hl : Ls[k.val]? = some (.val v)) (hv : v.isRef = true) (g : own_Go p.tables e below P (T.setTop (mkF m (pc + 1) Ls (v :: st)))) : own_Go p.tables e below P (T.setTop (mkF m pc Ls st)) := own_st (fun t k => XS.aloadN X.here hx rfl hd hl hv k) g
theorem o_aload (X : Stand p l e R s m args below meth c T locs cells slots) (hx : p.tables.exec = Jvm.exec) {k : Nat} {v : Value} (hd : decode c.code pc = .ok (.aload k, 2)) (hl : Ls[k]? = some (.val v)) (hv : v.isRef = true) (g : own_Go p.tables e below P (T.setTop (mkF m (pc + 2) Ls (v :: st)))) : own_Go p.tables e below P (T.setTop (mkF m pc Ls st)) := own_st (fun t k => XS.aload X.here hx rfl hd hl hv k) g
theorem o_istoreN (X : Stand p l e R s m args below meth c T locs cells slots) (hx : p.tables.exec = Jvm.exec) {k : Fin 4} {v : Int32} {l' : Array Slot} (hd : decode c.code pc = .ok (.istore_n k, 1)) (hl : storeLocals Ls k.val (.int v) = some l') (g : own_Go p.tables e below P (T.setTop (mkF m (pc + 1) l' st))) : own_Go p.tables e below P (T.setTop (mkF m pc Ls (.int v :: st))) := own_st (fun t k => XS.istoreN X.here hx rfl hd rfl hl k) g
theorem o_istore (X : Stand p l e R s m args below meth c T locs cells slots) (hx : p.tables.exec = Jvm.exec) {k : Nat} {v : Int32} {l' : Array Slot} (hd : decode c.code pc = .ok (.istore k, 2)) (hl : storeLocals Ls k (.int v) = some l') (g : own_Go p.tables e below P (T.setTop (mkF m (pc + 2) l' st))) : own_Go p.tables e below P (T.setTop (mkF m pc Ls (.int v :: st))) := own_st (fun t k => XS.istore X.here hx rfl hd rfl hl k) g
theorem o_lstoreN (X : Stand p l e R s m args below meth c T locs cells slots) (hx : p.tables.exec = Jvm.exec) {k : Fin 4} {v : Int64} {l' : Array Slot} (hd : decode c.code pc = .ok (.lstore_n k, 1)) (hl : storeLocals Ls k.val (.long v) = some l') (g : own_Go p.tables e below P (T.setTop (mkF m (pc + 1) l' st))) : own_Go p.tables e below P (T.setTop (mkF m pc Ls (.long v :: st))) := own_st (fun t k => XS.lstoreN X.here hx rfl hd rfl hl k) g
theorem o_lstore (X : Stand p l e R s m args below meth c T locs cells slots) (hx : p.tables.exec = Jvm.exec) {k : Nat} {v : Int64} {l' : Array Slot} (hd : decode c.code pc = .ok (.lstore k, 2)) (hl : storeLocals Ls k (.long v) = some l') (g : own_Go p.tables e below P (T.setTop (mkF m (pc + 2) l' st))) : own_Go p.tables e below P (T.setTop (mkF m pc Ls (.long v :: st))) := own_st (fun t k => XS.lstore X.here hx rfl hd rfl hl k) g
theorem o_astoreN (X : Stand p l e R s m args below meth c T locs cells slots) (hx : p.tables.exec = Jvm.exec) {k : Fin 4} {v : Value} {l' : Array Slot} (hd : decode c.code pc = .ok (.astore_n k, 1)) (hv : v.isRef = true) (hl : storeLocals Ls k.val v = some l') (g : own_Go p.tables e below P (T.setTop (mkF m (pc + 1) l' st))) : own_Go p.tables e below P (T.setTop (mkF m pc Ls (v :: st))) := own_st (fun t k => XS.astoreN X.here hx rfl hd rfl hv hl k) g
theorem o_astore (X : Stand p l e R s m args below meth c T locs cells slots) (hx : p.tables.exec = Jvm.exec) {k : Nat} {v : Value} {l' : Array Slot} (hd : decode c.code pc = .ok (.astore k, 2)) (hv : v.isRef = true) (hl : storeLocals Ls k v = some l') (g : own_Go p.tables e below P (T.setTop (mkF m (pc + 2) l' st))) : own_Go p.tables e below P (T.setTop (mkF m pc Ls (v :: st))) := own_st (fun t k => XS.astore X.here hx rfl hd rfl hv hl k) g
theorem o_iconst (X : Stand p l e R s m args below meth c T locs cells slots) (hx : p.tables.exec = Jvm.exec) {i : Int} (z : Int32) (hd : decode c.code pc = .ok (.iconst i, 1)) (hz : Int32.ofInt i = z) (g : own_Go p.tables e below P (T.setTop (mkF m (pc + 1) Ls (.int z :: st)))) : own_Go p.tables e below P (T.setTop (mkF m pc Ls st)) := by subst hz; exact own_st (fun t k => XS.iconst X.here hx rfl hd k) g
theorem o_bipush (X : Stand p l e R s m args below meth c T locs cells slots) (hx : p.tables.exec = Jvm.exec) {i : Int} (z : Int32) (hd : decode c.code pc = .ok (.bipush i, 2)) (hz : (Int8.ofInt i).toInt32 = z) (g : own_Go p.tables e below P (T.setTop (mkF m (pc + 2) Ls (.int z :: st)))) : own_Go p.tables e below P (T.setTop (mkF m pc Ls st)) := by subst hz; exact own_st (fun t k => XS.bipush X.here hx rfl hd k) g
theorem o_sipush (X : Stand p l e R s m args below meth c T locs cells slots) (hx : p.tables.exec = Jvm.exec) {i : Int} (z : Int32) (hd : decode c.code pc = .ok (.sipush i, 3)) (hz : (Int16.ofInt i).toInt32 = z) (g : own_Go p.tables e below P (T.setTop (mkF m (pc + 3) Ls (.int z :: st)))) : own_Go p.tables e below P (T.setTop (mkF m pc Ls st)) := by subst hz; exact own_st (fun t k => XS.sipush X.here hx rfl hd k) g
theorem o_lconst (X : Stand p l e R s m args below meth c T locs cells slots) (hx : p.tables.exec = Jvm.exec) {i : Fin 2} (z : Int64) (hd : decode c.code pc = .ok (.lconst i, 1)) (hz : Int64.ofNat i = z) (g : own_Go p.tables e below P (T.setTop (mkF m (pc + 1) Ls (.long z :: st)))) : own_Go p.tables e below P (T.setTop (mkF m pc Ls st)) := by subst hz; exact own_st (fun t k => XS.lconst X.here hx rfl hd k) g
theorem o_aconstNull (X : Stand p l e R s m args below meth c T locs cells slots) (hx : p.tables.exec = Jvm.exec) (hd : decode c.code pc = .ok (.aconst_null, 1)) (g : own_Go p.tables e below P (T.setTop (mkF m (pc + 1) Ls (.null :: st)))) : own_Go p.tables e below P (T.setTop (mkF m pc Ls st)) := own_st (fun t k => XS.aconstNull X.here hx rfl hd k) g
theorem o_iadd (X : Stand p l e R s m args below meth c T locs cells slots) (hx : p.tables.exec = Jvm.exec) {x y : Int32} (hd : decode c.code pc = .ok (.iadd, 1)) (g : own_Go p.tables e below P (T.setTop (mkF m (pc + 1) Ls (.int (x + y) :: st)))) : own_Go p.tables e below P (T.setTop (mkF m pc Ls (.int y :: .int x :: st))) := own_st (fun t k => XS.iadd X.here hx rfl hd rfl k) g
theorem o_ladd (X : Stand p l e R s m args below meth c T locs cells slots) (hx : p.tables.exec = Jvm.exec) {x y : Int64} (hd : decode c.code pc = .ok (.ladd, 1)) (g : own_Go p.tables e below P (T.setTop (mkF m (pc + 1) Ls (.long (x + y) :: st)))) : own_Go p.tables e below P (T.setTop (mkF m pc Ls (.long y :: .long x :: st))) := own_st (fun t k => XS.ladd X.here hx rfl hd rfl k) g
theorem o_isub (X : Stand p l e R s m args below meth c T locs cells slots) (hx : p.tables.exec = Jvm.exec) {x y : Int32} (hd : decode c.code pc = .ok (.isub, 1)) (g : own_Go p.tables e below P (T.setTop (mkF m (pc + 1) Ls (.int (x - y) :: st)))) : own_Go p.tables e below P (T.setTop (mkF m pc Ls (.int y :: .int x :: st))) := own_st (fun t k => XS.isub X.here hx rfl hd rfl k) g
theorem o_lsub (X : Stand p l e R s m args below meth c T locs cells slots) (hx : p.tables.exec = Jvm.exec) {x y : Int64} (hd : decode c.code pc = .ok (.lsub, 1)) (g : own_Go p.tables e below P (T.setTop (mkF m (pc + 1) Ls (.long (x - y) :: st)))) : own_Go p.tables e below P (T.setTop (mkF m pc Ls (.long y :: .long x :: st))) := own_st (fun t k => XS.lsub X.here hx rfl hd rfl k) g
theorem o_imul (X : Stand p l e R s m args below meth c T locs cells slots) (hx : p.tables.exec = Jvm.exec) {x y : Int32} (hd : decode c.code pc = .ok (.imul, 1)) (g : own_Go p.tables e below P (T.setTop (mkF m (pc + 1) Ls (.int (x * y) :: st)))) : own_Go p.tables e below P (T.setTop (mkF m pc Ls (.int y :: .int x :: st))) := own_st (fun t k => XS.imul X.here hx rfl hd rfl k) g
theorem o_lmul (X : Stand p l e R s m args below meth c T locs cells slots) (hx : p.tables.exec = Jvm.exec) {x y : Int64} (hd : decode c.code pc = .ok (.lmul, 1)) (g : own_Go p.tables e below P (T.setTop (mkF m (pc + 1) Ls (.long (x * y) :: st)))) : own_Go p.tables e below P (T.setTop (mkF m pc Ls (.long y :: .long x :: st))) := own_st (fun t k => XS.lmul X.here hx rfl hd rfl k) g
theorem o_iand (X : Stand p l e R s m args below meth c T locs cells slots) (hx : p.tables.exec = Jvm.exec) {x y : Int32} (hd : decode c.code pc = .ok (.iand, 1)) (g : own_Go p.tables e below P (T.setTop (mkF m (pc + 1) Ls (.int (x &&& y) :: st)))) : own_Go p.tables e below P (T.setTop (mkF m pc Ls (.int y :: .int x :: st))) := own_st (fun t k => XS.iand X.here hx rfl hd rfl k) g
theorem o_land (X : Stand p l e R s m args below meth c T locs cells slots) (hx : p.tables.exec = Jvm.exec) {x y : Int64} (hd : decode c.code pc = .ok (.land, 1)) (g : own_Go p.tables e below P (T.setTop (mkF m (pc + 1) Ls (.long (x &&& y) :: st)))) : own_Go p.tables e below P (T.setTop (mkF m pc Ls (.long y :: .long x :: st))) := own_st (fun t k => XS.land X.here hx rfl hd rfl k) g
theorem o_ior (X : Stand p l e R s m args below meth c T locs cells slots) (hx : p.tables.exec = Jvm.exec) {x y : Int32} (hd : decode c.code pc = .ok (.ior, 1)) (g : own_Go p.tables e below P (T.setTop (mkF m (pc + 1) Ls (.int (x ||| y) :: st)))) : own_Go p.tables e below P (T.setTop (mkF m pc Ls (.int y :: .int x :: st))) := own_st (fun t k => XS.ior X.here hx rfl hd rfl k) g
theorem o_lor (X : Stand p l e R s m args below meth c T locs cells slots) (hx : p.tables.exec = Jvm.exec) {x y : Int64} (hd : decode c.code pc = .ok (.lor, 1)) (g : own_Go p.tables e below P (T.setTop (mkF m (pc + 1) Ls (.long (x ||| y) :: st)))) : own_Go p.tables e below P (T.setTop (mkF m pc Ls (.long y :: .long x :: st))) := own_st (fun t k => XS.lor X.here hx rfl hd rfl k) g
theorem o_ixor (X : Stand p l e R s m args below meth c T locs cells slots) (hx : p.tables.exec = Jvm.exec) {x y : Int32} (hd : decode c.code pc = .ok (.ixor, 1)) (g : own_Go p.tables e below P (T.setTop (mkF m (pc + 1) Ls (.int (x ^^^ y) :: st)))) : own_Go p.tables e below P (T.setTop (mkF m pc Ls (.int y :: .int x :: st))) := own_st (fun t k => XS.ixor X.here hx rfl hd rfl k) g
theorem o_lxor (X : Stand p l e R s m args below meth c T locs cells slots) (hx : p.tables.exec = Jvm.exec) {x y : Int64} (hd : decode c.code pc = .ok (.lxor, 1)) (g : own_Go p.tables e below P (T.setTop (mkF m (pc + 1) Ls (.long (x ^^^ y) :: st)))) : own_Go p.tables e below P (T.setTop (mkF m pc Ls (.long y :: .long x :: st))) := own_st (fun t k => XS.lxor X.here hx rfl hd rfl k) g
theorem o_idiv (X : Stand p l e R s m args below meth c T locs cells slots) (hx : p.tables.exec = Jvm.exec) {x y : Int32} (hd : decode c.code pc = .ok (.idiv, 1)) (hy : y ≠ 0) (g : own_Go p.tables e below P (T.setTop (mkF m (pc + 1) Ls (.int (x / y) :: st)))) : own_Go p.tables e below P (T.setTop (mkF m pc Ls (.int y :: .int x :: st))) := own_st (fun t k => XS.idiv X.here hx rfl hd rfl hy k) g
theorem o_irem (X : Stand p l e R s m args below meth c T locs cells slots) (hx : p.tables.exec = Jvm.exec) {x y : Int32} (hd : decode c.code pc = .ok (.irem, 1)) (hy : y ≠ 0) (g : own_Go p.tables e below P (T.setTop (mkF m (pc + 1) Ls (.int (x - x / y * y) :: st)))) : own_Go p.tables e below P (T.setTop (mkF m pc Ls (.int y :: .int x :: st))) := own_st (fun t k => XS.irem X.here hx rfl hd rfl hy k) g
theorem o_ldiv (X : Stand p l e R s m args below meth c T locs cells slots) (hx : p.tables.exec = Jvm.exec) {x y : Int64} (hd : decode c.code pc = .ok (.ldiv, 1)) (hy : y ≠ 0) (g : own_Go p.tables e below P (T.setTop (mkF m (pc + 1) Ls (.long (x / y) :: st)))) : own_Go p.tables e below P (T.setTop (mkF m pc Ls (.long y :: .long x :: st))) := own_st (fun t k => XS.ldiv X.here hx rfl hd rfl hy k) g
theorem o_lrem (X : Stand p l e R s m args below meth c T locs cells slots) (hx : p.tables.exec = Jvm.exec) {x y : Int64} (hd : decode c.code pc = .ok (.lrem, 1)) (hy : y ≠ 0) (g : own_Go p.tables e below P (T.setTop (mkF m (pc + 1) Ls (.long (x - x / y * y) :: st)))) : own_Go p.tables e below P (T.setTop (mkF m pc Ls (.long y :: .long x :: st))) := own_st (fun t k => XS.lrem X.here hx rfl hd rfl hy k) g
theorem o_ineg (X : Stand p l e R s m args below meth c T locs cells slots) (hx : p.tables.exec = Jvm.exec) {x : Int32} (hd : decode c.code pc = .ok (.ineg, 1)) (g : own_Go p.tables e below P (T.setTop (mkF m (pc + 1) Ls (.int ((-x)) :: st)))) : own_Go p.tables e below P (T.setTop (mkF m pc Ls (.int x :: st))) := own_st (fun t k => XS.ineg X.here hx rfl hd rfl k) g
theorem o_lneg (X : Stand p l e R s m args below meth c T locs cells slots) (hx : p.tables.exec = Jvm.exec) {x : Int64} (hd : decode c.code pc = .ok (.lneg, 1)) (g : own_Go p.tables e below P (T.setTop (mkF m (pc + 1) Ls (.long ((-x)) :: st)))) : own_Go p.tables e below P (T.setTop (mkF m pc Ls (.long x :: st))) := own_st (fun t k => XS.lneg X.here hx rfl hd rfl k) g
theorem o_i2l (X : Stand p l e R s m args below meth c T locs cells slots) (hx : p.tables.exec = Jvm.exec) {x : Int32} (hd : decode c.code pc = .ok (.i2l, 1)) (g : own_Go p.tables e below P (T.setTop (mkF m (pc + 1) Ls (.long (x.toInt64) :: st)))) : own_Go p.tables e below P (T.setTop (mkF m pc Ls (.int x :: st))) := own_st (fun t k => XS.i2l X.here hx rfl hd rfl k) g
theorem o_l2i (X : Stand p l e R s m args below meth c T locs cells slots) (hx : p.tables.exec = Jvm.exec) {x : Int64} (hd : decode c.code pc = .ok (.l2i, 1)) (g : own_Go p.tables e below P (T.setTop (mkF m (pc + 1) Ls (.int (x.toInt32) :: st)))) : own_Go p.tables e below P (T.setTop (mkF m pc Ls (.long x :: st))) := own_st (fun t k => XS.l2i X.here hx rfl hd rfl k) g
theorem o_i2b (X : Stand p l e R s m args below meth c T locs cells slots) (hx : p.tables.exec = Jvm.exec) {x : Int32} (hd : decode c.code pc = .ok (.i2b, 1)) (g : own_Go p.tables e below P (T.setTop (mkF m (pc + 1) Ls (.int (x.toInt8.toInt32) :: st)))) : own_Go p.tables e below P (T.setTop (mkF m pc Ls (.int x :: st))) := own_st (fun t k => XS.i2b X.here hx rfl hd rfl k) g
theorem o_i2s (X : Stand p l e R s m args below meth c T locs cells slots) (hx : p.tables.exec = Jvm.exec) {x : Int32} (hd : decode c.code pc = .ok (.i2s, 1)) (g : own_Go p.tables e below P (T.setTop (mkF m (pc + 1) Ls (.int (x.toInt16.toInt32) :: st)))) : own_Go p.tables e below P (T.setTop (mkF m pc Ls (.int x :: st))) := own_st (fun t k => XS.i2s X.here hx rfl hd rfl k) g
theorem o_i2c (X : Stand p l e R s m args below meth c T locs cells slots) (hx : p.tables.exec = Jvm.exec) {x : Int32} (hd : decode c.code pc = .ok (.i2c, 1)) (g : own_Go p.tables e below P (T.setTop (mkF m (pc + 1) Ls (.int (x.toUInt32.toUInt16.toUInt32.toInt32) :: st)))) : own_Go p.tables e below P (T.setTop (mkF m pc Ls (.int x :: st))) := own_st (fun t k => XS.i2c X.here hx rfl hd rfl k) g
theorem o_ishl (X : Stand p l e R s m args below meth c T locs cells slots) (hx : p.tables.exec = Jvm.exec) {x : Int32} {y : Int32} (hd : decode c.code pc = .ok (.ishl, 1)) (g : own_Go p.tables e below P (T.setTop (mkF m (pc + 1) Ls (.int (x <<< (y &&& 31)) :: st)))) : own_Go p.tables e below P (T.setTop (mkF m pc Ls (.int y :: .int x :: st))) := own_st (fun t k => XS.ishl X.here hx rfl hd rfl k) g
theorem o_ishr (X : Stand p l e R s m args below meth c T locs cells slots) (hx : p.tables.exec = Jvm.exec) {x : Int32} {y : Int32} (hd : decode c.code pc = .ok (.ishr, 1)) (g : own_Go p.tables e below P (T.setTop (mkF m (pc + 1) Ls (.int (x >>> (y &&& 31)) :: st)))) : own_Go p.tables e below P (T.setTop (mkF m pc Ls (.int y :: .int x :: st))) := own_st (fun t k => XS.ishr X.here hx rfl hd rfl k) g
theorem o_iushr (X : Stand p l e R s m args below meth c T locs cells slots) (hx : p.tables.exec = Jvm.exec) {x : Int32} {y : Int32} (hd : decode c.code pc = .ok (.iushr, 1)) (g : own_Go p.tables e below P (T.setTop (mkF m (pc + 1) Ls (.int ((x.toUInt32 >>> (y &&& 31).toUInt32).toInt32) :: st)))) : own_Go p.tables e below P (T.setTop (mkF m pc Ls (.int y :: .int x :: st))) := own_st (fun t k => XS.iushr X.here hx rfl hd rfl k) g
theorem o_lshl (X : Stand p l e R s m args below meth c T locs cells slots) (hx : p.tables.exec = Jvm.exec) {x : Int64} {y : Int32} (hd : decode c.code pc = .ok (.lshl, 1)) (g : own_Go p.tables e below P (T.setTop (mkF m (pc + 1) Ls (.long (x <<< (y &&& 0x3f).toInt64) :: st)))) : own_Go p.tables e below P (T.setTop (mkF m pc Ls (.int y :: .long x :: st))) := own_st (fun t k => XS.lshl X.here hx rfl hd rfl k) g
theorem o_lshr (X : Stand p l e R s m args below meth c T locs cells slots) (hx : p.tables.exec = Jvm.exec) {x : Int64} {y : Int32} (hd : decode c.code pc = .ok (.lshr, 1)) (g : own_Go p.tables e below P (T.setTop (mkF m (pc + 1) Ls (.long (x >>> (y &&& 0x3f).toInt64) :: st)))) : own_Go p.tables e below P (T.setTop (mkF m pc Ls (.int y :: .long x :: st))) := own_st (fun t k => XS.lshr X.here hx rfl hd rfl k) g
theorem o_lushr (X : Stand p l e R s m args below meth c T locs cells slots) (hx : p.tables.exec = Jvm.exec) {x : Int64} {y : Int32} (hd : decode c.code pc = .ok (.lushr, 1)) (g : own_Go p.tables e below P (T.setTop (mkF m (pc + 1) Ls (.long ((x.toUInt64 >>> (y &&& 0x3f).toInt64.toUInt64).toInt64) :: st)))) : own_Go p.tables e below P (T.setTop (mkF m pc Ls (.int y :: .long x :: st))) := own_st (fun t k => XS.lushr X.here hx rfl hd rfl k) g
theorem o_lcmp (X : Stand p l e R s m args below meth c T locs cells slots) (hx : p.tables.exec = Jvm.exec) {x y : Int64} (hd : decode c.code pc = .ok (.lcmp, 1)) (g : own_Go p.tables e below P (T.setTop (mkF m (pc + 1) Ls (.int (lcmpW x y) :: st)))) : own_Go p.tables e below P (T.setTop (mkF m pc Ls (.long y :: .long x :: st))) := own_st (fun t k => XS.lcmp X.here hx rfl hd rfl k) g
theorem o_iinc (X : Stand p l e R s m args below meth c T locs cells slots) (hx : p.tables.exec = Jvm.exec) {k : Nat} {cst : Int} {x : Int32} {l' : Array Slot} (hd : decode c.code pc = .ok (.iinc k cst, 3)) (hl : Ls[k]? = some (.val (.int x))) (hl' : storeLocals Ls k (.int (x + Int32.ofInt cst)) = some l') (g : own_Go p.tables e below P (T.setTop (mkF m (pc + 3) l' st))) : own_Go p.tables e below P (T.setTop (mkF m pc Ls st)) := own_st (fun t k => XS.iinc X.here hx rfl hd hl hl' k) g
theorem o_dup (X : Stand p l e R s m args below meth c T locs cells slots) (hx : p.tables.exec = Jvm.exec) {x : Value} (hd : decode c.code pc = .ok (.dup, 1)) (hc : x.category = 1) (g : own_Go p.tables e below P (T.setTop (mkF m (pc + 1) Ls (x :: x :: st)))) : own_Go p.tables e below P (T.setTop (mkF m pc Ls (x :: st))) := own_st (fun t k => XS.dup X.here hx rfl hd rfl hc k) g
theorem o_pop (X : Stand p l e R s m args below meth c T locs cells slots) (hx : p.tables.exec = Jvm.exec) {x : Value} (hd : decode c.code pc = .ok (.pop, 1)) (hc : x.category = 1) (g : own_Go p.tables e below P (T.setTop (mkF m (pc + 1) Ls st))) : own_Go p.tables e below P (T.setTop (mkF m pc Ls (x :: st))) := own_st (fun t k => XS.pop X.here hx rfl hd rfl hc k) g
theorem o_dupX1 (X : Stand p l e R s m args below meth c T locs cells slots) (hx : p.tables.exec = Jvm.exec) {x y : Value} (hd : decode c.code pc = .ok (.dup_x1, 1)) (hc : x.category = 1) (hc' : y.category = 1) (g : own_Go p.tables e below P (T.setTop (mkF m (pc + 1) Ls (x :: y :: x :: st)))) : own_Go p.tables e below P (T.setTop (mkF m pc Ls (x :: y :: st))) := own_st (fun t k => XS.dupX1 X.here hx rfl hd rfl hc hc' k) g
theorem o_dup2 (X : Stand p l e R s m args below meth c T locs cells slots) (hx : p.tables.exec = Jvm.exec) {x y : Value} (hd : decode c.code pc = .ok (.dup2, 1)) (hc : x.category = 1) (hc' : y.category = 1) (g : own_Go p.tables e below P (T.setTop (mkF m (pc + 1) Ls (x :: y :: x :: y :: st)))) : own_Go p.tables e below P (T.setTop (mkF m pc Ls (x :: y :: st))) := own_st (fun t k => Jvm.Free.XT.dup2 X.here hx rfl hd rfl hc hc' k) g
theorem o_goto (X : Stand p l e R s m args below meth c T locs cells slots) (hx : p.tables.exec = Jvm.exec) {o : Int} {pc' : Nat} (hd : decode c.code pc = .ok (.goto o, 3)) (ho : 0 ≤ (pc : Int) + o) (hp : ((pc : Int) + o).toNat = pc') (g : own_Go p.tables e below P (T.setTop (mkF m pc' Ls st))) : own_Go p.tables e below P (T.setTop (mkF m pc Ls st)) := own_st (fun t k => XS.goto X.here hx rfl rfl hd ho hp k) g
theorem o_ifYes (X : Stand p l e R s m args below meth c T locs cells slots) (hx : p.tables.exec = Jvm.exec) {cd : ClassFile.Cond} {x : Int32} {o : Int} {pc' : Nat} (hd : decode c.code pc = .ok (.ifCond cd o, 3)) (hc : if_icmp.holds cd x 0 = true) (ho : 0 ≤ (pc : Int) + o) (hp : ((pc : Int) + o).toNat = pc') (g : own_Go p.tables e below P (T.setTop (mkF m pc' Ls st))) : own_Go p.tables e below P (T.setTop (mkF m pc Ls (.int x :: st))) := own_st (fun t k => XS.ifYes X.here hx rfl rfl hd rfl ((if0 _ _).trans hc) ho hp k) g
theorem o_ifNo (X : Stand p l e R s m args below meth c T locs cells slots) (hx : p.tables.exec = Jvm.exec) {cd : ClassFile.Cond} {x : Int32} {o : Int} (hd : decode c.code pc = .ok (.ifCond cd o, 3)) (hc : if_icmp.holds cd x 0 = false) (g : own_Go p.tables e below P (T.setTop (mkF m (pc + 3) Ls st))) : own_Go p.tables e below P (T.setTop (mkF m pc Ls (.int x :: st))) := own_st (fun t k => XS.ifNo X.here hx rfl hd rfl ((if0 _ _).trans hc) k) g
theorem o_icmpYes (X : Stand p l e R s m args below meth c T locs cells slots) (hx : p.tables.exec = Jvm.exec) {cd : ClassFile.Cond} {x y : Int32} {o : Int} {pc' : Nat} (hd : decode c.code pc = .ok (.if_icmp cd o, 3)) (hc : if_icmp.holds cd x y = true) (ho : 0 ≤ (pc : Int) + o) (hp : ((pc : Int) + o).toNat = pc') (g : own_Go p.tables e below P (T.setTop (mkF m pc' Ls st))) : own_Go p.tables e below P (T.setTop (mkF m pc Ls (.int y :: .int x :: st))) := own_st (fun t k => XS.icmpYes X.here hx rfl rfl hd rfl hc ho hp k) g
theorem o_icmpNo (X : Stand p l e R s m args below meth c T locs cells slots) (hx : p.tables.exec = Jvm.exec) {cd : ClassFile.Cond} {x y : Int32} {o : Int} (hd : decode c.code pc = .ok (.if_icmp cd o, 3)) (hc : if_icmp.holds cd x y = false) (g : own_Go p.tables e below P (T.setTop (mkF m (pc + 3) Ls st))) : own_Go p.tables e below P (T.setTop (mkF m pc Ls (.int y :: .int x :: st))) := own_st (fun t k => XS.icmpNo X.here hx rfl hd rfl hc k) g
theorem o_ifnullYes (X : Stand p l e R s m args below meth c T locs cells slots) (hx : p.tables.exec = Jvm.exec) {o : Int} {pc' : Nat} (hd : decode c.code pc = .ok (.ifnull o, 3)) (ho : 0 ≤ (pc : Int) + o) (hp : ((pc : Int) + o).toNat = pc') (g : own_Go p.tables e below P (T.setTop (mkF m pc' Ls st))) : own_Go p.tables e below P (T.setTop (mkF m pc Ls (.null :: st))) := own_st (fun t k => XS.ifnullYes X.here hx rfl rfl hd rfl ho hp k) g
theorem o_ifnullNo (X : Stand p l e R s m args below meth c T locs cells slots) (hx : p.tables.exec = Jvm.exec) {o : Int} {b : Addr} (hd : decode c.code pc = .ok (.ifnull o, 3)) (g : own_Go p.tables e below P (T.setTop (mkF m (pc + 3) Ls st))) : own_Go p.tables e below P (T.setTop (mkF m pc Ls (.ref b :: st))) := own_st (fun t k => XS.ifnullNo X.here hx rfl hd rfl k) g
theorem o_ifnonnullNo (X : Stand p l e R s m args below meth c T locs cells slots) (hx : p.tables.exec = Jvm.exec) {o : Int} (hd : decode c.code pc = .ok (.ifnonnull o, 3)) (g : own_Go p.tables e below P (T.setTop (mkF m (pc + 3) Ls st))) : own_Go p.tables e below P (T.setTop (mkF m pc Ls (.null :: st))) := own_st (fun t k => XS.ifnonnullNo X.here hx rfl hd rfl k) g
theorem o_ifnonnullYes (X : Stand p l e R s m args below meth c T locs cells slots) (hx : p.tables.exec = Jvm.exec) {o : Int} {b : Addr} {pc' : Nat} (hd : decode c.code pc = .ok (.ifnonnull o, 3)) (ho : 0 ≤ (pc : Int) + o) (hp : ((pc : Int) + o).toNat = pc') (g : own_Go p.tables e below P (T.setTop (mkF m pc' Ls st))) : own_Go p.tables e below P (T.setTop (mkF m pc Ls (.ref b :: st))) := own_st (fun t k => XS.ifnonnullYes X.here hx rfl rfl hd rfl ho hp k) g
theorem o_ldc (X : Stand p l e R s m args below meth c T locs cells slots) (hx : p.tables.exec = Jvm.exec) {own : String} {index : Nat} {v : Int32} (hown : s.vm.findClass own = some m.cls) (hd : decode c.code pc = .ok (.ldc index, 2)) (hk : (Cond.constant own index v).before args s = true) (g : own_Go p.tables e below P (T.setTop (mkF m (pc + 2) Ls (.int v :: st)))) : own_Go p.tables e below P (T.setTop (mkF m pc Ls st)) := own_st (X.ldcInt hx hown hk (g := mkF m pc Ls st) rfl hd) g
theorem o_ldc2 (X : Stand p l e R s m args below meth c T locs cells slots) (hx : p.tables.exec = Jvm.exec) {own : String} {index : Nat} {v : Int64} (hown : s.vm.findClass own = some m.cls) (hd : decode c.code pc = .ok (.ldc2_w index, 3)) (hk : (Cond.constantLong own index v).before args s = true) (g : own_Go p.tables e below P (T.setTop (mkF m (pc + 3) Ls (.long v :: st)))) : own_Go p.tables e below P (T.setTop (mkF m pc Ls st)) := own_st (X.ldc2Long hx hown hk (g := mkF m pc Ls st) rfl hd) g
end Steps2
end Jvm.RoadKit
namespace Jvm.Pilot.@@N@@
open Jvm Jvm.ClassFile Sem Op Lib Jvm.Free Jvm.Stand Jvm.LawKit Jvm.RoadKit Bundle Jvm.Pilot.@@N@@.Jvm.D
theorem pn_3 : plainName "java/lang/Record" = true := by first | (simp [plainName, overriddenIn]; done) | decide +kernel
theorem d3_0 : decode jdk_30_method_1_code 0 = .ok (.aload_n 0, 1) := by decide +kernel
theorem d3_1 : decode jdk_30_method_1_code 1 = .ok (.invokespecial 1, 3) := by decide +kernel
theorem d3_4 : decode jdk_30_method_1_code 4 = .ok (.return_, 1) := by decide +kernel
theorem ef_rm3 (m : MethodId) (a1 : Addr) : entryFrame m #[(.ref a1)] 1 = mkF m 0 #[rv a1] [] := by first | (simp [entryFrame, mkF, argsToLocals, Value.category]; done) | rfl
def Q_rm3 (Z : State) (a0 : Array Value) (a1 : Addr)  (h0 : Heap) (n0 : Nat) (v : Option Value) (h : Heap) (L : List Loc) : Prop := v = none ∧ Fr n0 L ∧ h = h0
set_option maxRecDepth 65536 in
set_option maxHeartbeats 40000000 in
theorem rm3 (l : Launch) (Z : State) (a0 : Array Value) (hw : ∀ d ∈ tables_1, d.before a0 Z = true) (ws : List Jvm.Cond) (a1 : Addr)  (h0 : Heap) (n0 : Nat) (Z0 : n0 ≤ h0.size) :
    MetFree l (⟨"java/lang/Record", "<init>", "()V"⟩ : MethodName) (head1 (Jvm.Cond.code (⟨"java/lang/Record", "<init>", "()V"⟩ : MethodName) jdk_30_method_1_code 1 none :: ws) ({ frames := 1, cells := 0, slots := 0, locals := 12 } : Room)) (fun a U => a = #[(.ref a1)] ∧ Z.Warmed39 U.vm ∧ U.heap = h0) (fun _ _ _ _ _ => True) (fun _ U o U' => ∃ v L, o = .returned v ∧ Q_rm3 Z a0 a1 h0 n0 v U'.heap L ∧ FrameEnd U o U' L ({ frames := 1, cells := 0, slots := 0, locals := 12 } : Room).cells ({ frames := 1, cells := 0, slots := 0, locals := 12 } : Room).slots) := by
  refine MetFree.of_bodySF (plainFor_of_name pn_3) hisR ?_
  intro p e s m args below meth c s₁ Bd hml0 hP hK
  obtain ⟨rfl, hZ, hh⟩ := hP
  have hx := Bd.exec
  have hby := Bd.bytes
  have hml : c.maxLocals = 1 := hml0
  have hown : s.vm.findClass "java/lang/Record" = some m.cls := findClass_of_methodNamed Bd.named
  have hnm := (name_of_methodNamed Bd.named Bd.method).1
  have hlk : meth.locks = false := BodyLoose.notSynchronized (by assumption)
  have X0 : Stand p l e ({ frames := 1, cells := 0, slots := 0, locals := 12 } : Room) s m #[(.ref a1)] below meth c s₁ [] 0 0 := Stand.of_body Bd
  have e0 : s₁.heap = h0 := by rw [← hh, Bd.state]; rfl
  have N0 := Fr.nil n0
  show own_Go p.tables e below (fun o U' => ∃ v L, o = .returned v ∧ Q_rm3 Z a0 a1 h0 n0 v U'.heap L ∧ FrameEnd s o U' L ({ frames := 1, cells := 0, slots := 0, locals := 12 } : Room).cells ({ frames := 1, cells := 0, slots := 0, locals := 12 } : Room).slots) (s₁.setTop (entryFrame m #[(.ref a1)] 1))
  refine own_st (fun t k => castTop (ef_rm3 m a1) k) ?_
  show own_Go _ _ _ _ (s₁.setTop (mkF m 0 #[rv a1] []))
  refine o_aloadN X0 hx (hb hby d3_0) rfl rfl ?_
  obtain ⟨T1, X1, e1, st1⟩ := initO X0 hx hZ hown (hw _ (List.mem_of_getElem? (i := 16) rfl)) (hw _ (List.mem_of_getElem? (i := 17) rfl)) (hw _ (List.mem_of_getElem? (i := 18) rfl)) e0 (g := (mkF m 1 #[rv a1] [(.ref a1)])) rfl (by rw [hml]; rfl) rfl (hb hby d3_1) (by decide) (W := 0) (by show 2 * 0 + _ ≤ _; exact Nat.le_of_eq rfl) (by decide)
  refine own_st st1 ?_
  show own_Go _ _ _ _ (T1.setTop (mkF m 4 #[rv a1] []))
  exact own_end X1 e1 (v := none) (fun _ => rfl) hlk (fun fs hr => X1.returnOut hx Bd.returns (hb hby d3_4) hr) (Q := Q_rm3 Z a0 a1 h0 n0) ⟨rfl, N0, rfl⟩ (by decide) (by decide)
theorem pn_2 : plainName "headway/bench/Transfer$Outcome" = true := by first | (simp [plainName, overriddenIn]; done) | decide +kernel
theorem d2_0 : decode prog_18_method_1_code 0 = .ok (.aload_n 0, 1) := by decide +kernel
theorem d2_1 : decode prog_18_method_1_code 1 = .ok (.invokespecial 1, 3) := by decide +kernel
theorem pd_1 : parseMethodDescriptor "()V" = some ⟨[], none⟩ := by decide +kernel
theorem d2_4 : decode prog_18_method_1_code 4 = .ok (.aload_n 0, 1) := by decide +kernel
theorem d2_5 : decode prog_18_method_1_code 5 = .ok (.iload_n 1, 1) := by decide +kernel
theorem d2_6 : decode prog_18_method_1_code 6 = .ok (.putfield 7, 3) := by decide +kernel
theorem d2_9 : decode prog_18_method_1_code 9 = .ok (.aload_n 0, 1) := by decide +kernel
theorem d2_10 : decode prog_18_method_1_code 10 = .ok (.lload_n 2, 1) := by decide +kernel
theorem d2_11 : decode prog_18_method_1_code 11 = .ok (.putfield 13, 3) := by decide +kernel
theorem d2_14 : decode prog_18_method_1_code 14 = .ok (.aload_n 0, 1) := by decide +kernel
theorem d2_15 : decode prog_18_method_1_code 15 = .ok (.lload 4, 2) := by decide +kernel
theorem d2_17 : decode prog_18_method_1_code 17 = .ok (.putfield 17, 3) := by decide +kernel
theorem d2_20 : decode prog_18_method_1_code 20 = .ok (.aload_n 0, 1) := by decide +kernel
theorem d2_21 : decode prog_18_method_1_code 21 = .ok (.lload 6, 2) := by decide +kernel
theorem d2_23 : decode prog_18_method_1_code 23 = .ok (.putfield 20, 3) := by decide +kernel
theorem d2_26 : decode prog_18_method_1_code 26 = .ok (.aload_n 0, 1) := by decide +kernel
theorem d2_27 : decode prog_18_method_1_code 27 = .ok (.lload 8, 2) := by decide +kernel
theorem d2_29 : decode prog_18_method_1_code 29 = .ok (.putfield 23, 3) := by decide +kernel
theorem d2_32 : decode prog_18_method_1_code 32 = .ok (.return_, 1) := by decide +kernel
theorem ef_rm2 (m : MethodId) (a1 : Addr) (p2 : Int32) (q3 : Int64) (q4 : Int64) (q5 : Int64) (q6 : Int64) : entryFrame m #[(.ref a1), (.int p2), (.long q3), (.long q4), (.long q5), (.long q6)] 10 = mkF m 0 #[rv a1, iv p2, .val (.long q3), .second, .val (.long q4), .second, .val (.long q5), .second, .val (.long q6), .second] [] := by first | (simp [entryFrame, mkF, argsToLocals, Value.category]; done) | rfl
def Q_rm2 (Z : State) (a0 : Array Value) (a1 : Addr) (p2 : Int32) (q3 : Int64) (q4 : Int64) (q5 : Int64) (q6 : Int64)  (h0 : Heap) (n0 : Nat) (v : Option Value) (h : Heap) (L : List Loc) : Prop := v = none ∧ Fr n0 L ∧ Keep h0 h [a1] ∧ Fld Z h a1 "headway/bench/Transfer$Outcome" "elements" "I" (.int p2) ∧ Fld Z h a1 "headway/bench/Transfer$Outcome" "nanos" "J" (.long q3) ∧ Fld Z h a1 "headway/bench/Transfer$Outcome" "received" "J" (.long q4) ∧ Fld Z h a1 "headway/bench/Transfer$Outcome" "sum" "J" (.long q5) ∧ Fld Z h a1 "headway/bench/Transfer$Outcome" "outOfOrder" "J" (.long q6)
set_option maxRecDepth 65536 in
set_option maxHeartbeats 40000000 in
theorem rm2 (l : Launch) (Z : State) (a0 : Array Value) (hw : ∀ d ∈ tables_1, d.before a0 Z = true) (ws : List Jvm.Cond) (a1 : Addr) (p2 : Int32) (q3 : Int64) (q4 : Int64) (q5 : Int64) (q6 : Int64)  (h0 : Heap) (n0 : Nat) (Z0 : n0 ≤ h0.size) (E1 : Exa Z h0 a1 "headway/bench/Transfer$Outcome") (g1 : n0 ≤ a1) (F0 : Fld Z h0 a1 "headway/bench/Transfer$Outcome" "elements" "I" (.int (0 : Int32))) (F1 : Fld Z h0 a1 "headway/bench/Transfer$Outcome" "nanos" "J" (.long (0 : Int64))) (F2 : Fld Z h0 a1 "headway/bench/Transfer$Outcome" "received" "J" (.long (0 : Int64))) (F3 : Fld Z h0 a1 "headway/bench/Transfer$Outcome" "sum" "J" (.long (0 : Int64))) (F4 : Fld Z h0 a1 "headway/bench/Transfer$Outcome" "outOfOrder" "J" (.long (0 : Int64))) :
    MetFree l (⟨"headway/bench/Transfer$Outcome", "<init>", "(IJJJJ)V"⟩ : MethodName) (head1 (Jvm.Cond.code (⟨"headway/bench/Transfer$Outcome", "<init>", "(IJJJJ)V"⟩ : MethodName) prog_18_method_1_code 10 none :: ws) ({ frames := 2, cells := 0, slots := 0, locals := 24 } : Room)) (fun a U => a = #[(.ref a1), (.int p2), (.long q3), (.long q4), (.long q5), (.long q6)] ∧ Z.Warmed39 U.vm ∧ U.heap = h0) (fun _ _ _ _ _ => True) (fun _ U o U' => ∃ v L, o = .returned v ∧ Q_rm2 Z a0 a1 p2 q3 q4 q5 q6 h0 n0 v U'.heap L ∧ FrameEnd U o U' L ({ frames := 2, cells := 0, slots := 0, locals := 24 } : Room).cells ({ frames := 2, cells := 0, slots := 0, locals := 24 } : Room).slots) := by
  refine MetFree.of_bodySF (plainFor_of_name pn_2) hisR ?_
  intro p e s m args below meth c s₁ Bd hml0 hP hK
  obtain ⟨rfl, hZ, hh⟩ := hP
  have hx := Bd.exec
  have hby := Bd.bytes
  have hml : c.maxLocals = 10 := hml0
  have hown : s.vm.findClass "headway/bench/Transfer$Outcome" = some m.cls := findClass_of_methodNamed Bd.named
  have hnm := (name_of_methodNamed Bd.named Bd.method).1
  have hlk : meth.locks = false := BodyLoose.notSynchronized (by assumption)
  have X0 : Stand p l e ({ frames := 2, cells := 0, slots := 0, locals := 24 } : Room) s m #[(.ref a1), (.int p2), (.long q3), (.long q4), (.long q5), (.long q6)] below meth c s₁ [] 0 0 := Stand.of_body Bd
  have e0 : s₁.heap = h0 := by rw [← hh, Bd.state]; rfl
  have N0 := Fr.nil n0
  show own_Go p.tables e below (fun o U' => ∃ v L, o = .returned v ∧ Q_rm2 Z a0 a1 p2 q3 q4 q5 q6 h0 n0 v U'.heap L ∧ FrameEnd s o U' L ({ frames := 2, cells := 0, slots := 0, locals := 24 } : Room).cells ({ frames := 2, cells := 0, slots := 0, locals := 24 } : Room).slots) (s₁.setTop (entryFrame m #[(.ref a1), (.int p2), (.long q3), (.long q4), (.long q5), (.long q6)] 10))
  refine own_st (fun t k => castTop (ef_rm2 m a1 p2 q3 q4 q5 q6) k) ?_
  show own_Go _ _ _ _ (s₁.setTop (mkF m 0 #[rv a1, iv p2, .val (.long q3), .second, .val (.long q4), .second, .val (.long q5), .second, .val (.long q6), .second] []))
  refine o_aloadN X0 hx (hb hby d2_0) rfl rfl ?_
  obtain ⟨_, _, ⟨T1, L1, k1, n1⟩, -, X1, ⟨Lc1, hQ1, l1, y1, z1⟩, st1⟩ := X0.specialBack hx (y := (⟨"java/lang/Record", "<init>", "()V"⟩ : MethodName)) rfl hown (mvT hZ (hw _ (List.mem_of_getElem? (i := 11) rfl))) (mvT hZ (hw _ (List.mem_of_getElem? (i := 12) rfl))) (mvT hZ (hw _ (List.mem_of_getElem? (i := 15) rfl))) (by decide) (backOf (W := 0) (rm3 l Z a0 hw [] a1  h0 n0 Z0) hZ (hw _ (List.mem_of_getElem? (i := 15) rfl)) (hw _ (List.mem_of_getElem? (i := 14) rfl)) (by decide) (by decide)) (g := (mkF m 1 #[rv a1, iv p2, .val (.long q3), .second, .val (.long q4), .second, .val (.long q5), .second, .val (.long q6), .second] [(.ref a1)])) rfl (by rw [hml]; rfl) (Steps.refl _) (a := a1) (argsL := []) (rest := []) (lenOf pd_1 rfl) rfl (by show 2 * 0 + _ ≤ _; exact Nat.le_of_eq rfl) (hb hby d2_1) (fun _ _ => ⟨rfl, e0, (by decide : 0 + 0 ≤ _), (by decide : 0 + 0 ≤ _)⟩)
  dsimp only [Pt.U, Pt.locs, Pt.cells, Pt.slots] at X1 l1 y1 z1 st1 hQ1
  subst l1 y1 z1
  obtain ⟨rfl, Nq1, e1⟩ := hQ1
  have N1 := Fr.app N0 Nq1
  refine own_tr st1 ?_
  show own_Go _ _ _ _ (T1.setTop (mkF m 4 #[rv a1, iv p2, .val (.long q3), .second, .val (.long q4), .second, .val (.long q5), .second, .val (.long q6), .second] []))
  refine o_aloadN X1 hx (hb hby d2_4) rfl rfl ?_
  refine o_iloadN X1 hx (hb hby d2_5) rfl ?_
  obtain ⟨T2, h2, X2, e2, W2, st2⟩ := putF X1 hx hZ hown (host := "") (Or.inl (hw _ (List.mem_of_getElem? (i := 19) rfl))) Via.refl e1 F0 E1 (Or.inr ⟨(hw _ (List.mem_of_getElem? (i := 20) rfl)), rfl, hnm⟩) (hw _ (List.mem_of_getElem? (i := 6) rfl)) (ty := .int) (by decide) rfl rfl (g := (mkF m 6 #[rv a1, iv p2, .val (.long q3), .second, .val (.long q4), .second, .val (.long q5), .second, .val (.long q6), .second] [(.int p2), (.ref a1)])) rfl rfl (hb hby d2_6)
  refine own_st st2 ?_
  have N2 := Fr.snoc X2 N1 g1
  show own_Go _ _ _ _ (T2.setTop (mkF m 9 #[rv a1, iv p2, .val (.long q3), .second, .val (.long q4), .second, .val (.long q5), .second, .val (.long q6), .second] []))
  refine o_aloadN X2 hx (hb hby d2_9) rfl rfl ?_
  refine o_lloadN X2 hx (hb hby d2_10) rfl ?_
  have Fa3 := (F1.other W2 (Or.inr (slot_ne (Or.inr (hw _ (List.mem_of_getElem? (i := 22) rfl))) (Or.inr (hw _ (List.mem_of_getElem? (i := 20) rfl))) (by decide) (t := .long) (t' := .int) (by decide) (by decide))))
  have Fa4 := (E1.wr W2)
  obtain ⟨T5, h5, X5, e5, W5, st5⟩ := putF X2 hx hZ hown (host := "") (Or.inl (hw _ (List.mem_of_getElem? (i := 21) rfl))) Via.refl e2 Fa3 Fa4 (Or.inr ⟨(hw _ (List.mem_of_getElem? (i := 22) rfl)), rfl, hnm⟩) (hw _ (List.mem_of_getElem? (i := 6) rfl)) (ty := .long) (by decide) rfl rfl (g := (mkF m 11 #[rv a1, iv p2, .val (.long q3), .second, .val (.long q4), .second, .val (.long q5), .second, .val (.long q6), .second] [(.long q3), (.ref a1)])) rfl rfl (hb hby d2_11)
  refine own_st st5 ?_
  have N5 := Fr.snoc X5 N2 g1
  show own_Go _ _ _ _ (T5.setTop (mkF m 14 #[rv a1, iv p2, .val (.long q3), .second, .val (.long q4), .second, .val (.long q5), .second, .val (.long q6), .second] []))
  refine o_aloadN X5 hx (hb hby d2_14) rfl rfl ?_
  refine o_lload X5 hx (hb hby d2_15) rfl ?_
  have Fa6 := ((F2.other W2 (Or.inr (slot_ne (Or.inr (hw _ (List.mem_of_getElem? (i := 24) rfl))) (Or.inr (hw _ (List.mem_of_getElem? (i := 20) rfl))) (by decide) (t := .long) (t' := .int) (by decide) (by decide)))).other W5 (Or.inr (slot_ne (Or.inr (hw _ (List.mem_of_getElem? (i := 24) rfl))) (Or.inr (hw _ (List.mem_of_getElem? (i := 22) rfl))) (by decide) (t := .long) (t' := .long) (by decide) (by decide))))
  have Fa7 := (Fa4.wr W5)
  obtain ⟨T8, h8, X8, e8, W8, st8⟩ := putF X5 hx hZ hown (host := "") (Or.inl (hw _ (List.mem_of_getElem? (i := 23) rfl))) Via.refl e5 Fa6 Fa7 (Or.inr ⟨(hw _ (List.mem_of_getElem? (i := 24) rfl)), rfl, hnm⟩) (hw _ (List.mem_of_getElem? (i := 6) rfl)) (ty := .long) (by decide) rfl rfl (g := (mkF m 17 #[rv a1, iv p2, .val (.long q3), .second, .val (.long q4), .second, .val (.long q5), .second, .val (.long q6), .second] [(.long q4), (.ref a1)])) rfl rfl (hb hby d2_17)
  refine own_st st8 ?_
  have N8 := Fr.snoc X8 N5 g1
  show own_Go _ _ _ _ (T8.setTop (mkF m 20 #[rv a1, iv p2, .val (.long q3), .second, .val (.long q4), .second, .val (.long q5), .second, .val (.long q6), .second] []))
  refine o_aloadN X8 hx (hb hby d2_20) rfl rfl ?_
  refine o_lload X8 hx (hb hby d2_21) rfl ?_
  have Fa9 := (((F3.other W2 (Or.inr (slot_ne (Or.inr (hw _ (List.mem_of_getElem? (i := 26) rfl))) (Or.inr (hw _ (List.mem_of_getElem? (i := 20) rfl))) (by decide) (t := .long) (t' := .int) (by decide) (by decide)))).other W5 (Or.inr (slot_ne (Or.inr (hw _ (List.mem_of_getElem? (i := 26) rfl))) (Or.inr (hw _ (List.mem_of_getElem? (i := 22) rfl))) (by decide) (t := .long) (t' := .long) (by decide) (by decide)))).other W8 (Or.inr (slot_ne (Or.inr (hw _ (List.mem_of_getElem? (i := 26) rfl))) (Or.inr (hw _ (List.mem_of_getElem? (i := 24) rfl))) (by decide) (t := .long) (t' := .long) (by decide) (by decide))))
  have Fa10 := (Fa7.wr W8)
  obtain ⟨T11, h11, X11, e11, W11, st11⟩ := putF X8 hx hZ hown (host := "") (Or.inl (hw _ (List.mem_of_getElem? (i := 25) rfl))) Via.refl e8 Fa9 Fa10 (Or.inr ⟨(hw _ (List.mem_of_getElem? (i := 26) rfl)), rfl, hnm⟩) (hw _ (List.mem_of_getElem? (i := 6) rfl)) (ty := .long) (by decide) rfl rfl (g := (mkF m 23 #[rv a1, iv p2, .val (.long q3), .second, .val (.long q4), .second, .val (.long q5), .second, .val (.long q6), .second] [(.long q5), (.ref a1)])) rfl rfl (hb hby d2_23)
  refine own_st st11 ?_
  have N11 := Fr.snoc X11 N8 g1
  show own_Go _ _ _ _ (T11.setTop (mkF m 26 #[rv a1, iv p2, .val (.long q3), .second, .val (.long q4), .second, .val (.long q5), .second, .val (.long q6), .second] []))
  refine o_aloadN X11 hx (hb hby d2_26) rfl rfl ?_
  refine o_lload X11 hx (hb hby d2_27) rfl ?_
  have Fa12 := ((((F4.other W2 (Or.inr (slot_ne (Or.inr (hw _ (List.mem_of_getElem? (i := 28) rfl))) (Or.inr (hw _ (List.mem_of_getElem? (i := 20) rfl))) (by decide) (t := .long) (t' := .int) (by decide) (by decide)))).other W5 (Or.inr (slot_ne (Or.inr (hw _ (List.mem_of_getElem? (i := 28) rfl))) (Or.inr (hw _ (List.mem_of_getElem? (i := 22) rfl))) (by decide) (t := .long) (t' := .long) (by decide) (by decide)))).other W8 (Or.inr (slot_ne (Or.inr (hw _ (List.mem_of_getElem? (i := 28) rfl))) (Or.inr (hw _ (List.mem_of_getElem? (i := 24) rfl))) (by decide) (t := .long) (t' := .long) (by decide) (by decide)))).other W11 (Or.inr (slot_ne (Or.inr (hw _ (List.mem_of_getElem? (i := 28) rfl))) (Or.inr (hw _ (List.mem_of_getElem? (i := 26) rfl))) (by decide) (t := .long) (t' := .long) (by decide) (by decide))))
  have Fa13 := (Fa10.wr W11)
  obtain ⟨T14, h14, X14, e14, W14, st14⟩ := putF X11 hx hZ hown (host := "") (Or.inl (hw _ (List.mem_of_getElem? (i := 27) rfl))) Via.refl e11 Fa12 Fa13 (Or.inr ⟨(hw _ (List.mem_of_getElem? (i := 28) rfl)), rfl, hnm⟩) (hw _ (List.mem_of_getElem? (i := 6) rfl)) (ty := .long) (by decide) rfl rfl (g := (mkF m 29 #[rv a1, iv p2, .val (.long q3), .second, .val (.long q4), .second, .val (.long q5), .second, .val (.long q6), .second] [(.long q6), (.ref a1)])) rfl rfl (hb hby d2_29)
  refine own_st st14 ?_
  have N14 := Fr.snoc X14 N11 g1
  show own_Go _ _ _ _ (T14.setTop (mkF m 32 #[rv a1, iv p2, .val (.long q3), .second, .val (.long q4), .second, .val (.long q5), .second, .val (.long q6), .second] []))
  have Kp15 : Keep h0 h14 [a1] := ((((((Keep.refl h0 [a1]).wr W2 (Or.inl (List.mem_of_getElem? (i := 0) rfl))).wr W5 (Or.inl (List.mem_of_getElem? (i := 0) rfl))).wr W8 (Or.inl (List.mem_of_getElem? (i := 0) rfl))).wr W11 (Or.inl (List.mem_of_getElem? (i := 0) rfl))).wr W14 (Or.inl (List.mem_of_getElem? (i := 0) rfl)))
  have Fa16 := (((((F0.same W2).other W5 (Or.inr (slot_ne (Or.inr (hw _ (List.mem_of_getElem? (i := 20) rfl))) (Or.inr (hw _ (List.mem_of_getElem? (i := 22) rfl))) (by decide) (t := .int) (t' := .long) (by decide) (by decide)))).other W8 (Or.inr (slot_ne (Or.inr (hw _ (List.mem_of_getElem? (i := 20) rfl))) (Or.inr (hw _ (List.mem_of_getElem? (i := 24) rfl))) (by decide) (t := .int) (t' := .long) (by decide) (by decide)))).other W11 (Or.inr (slot_ne (Or.inr (hw _ (List.mem_of_getElem? (i := 20) rfl))) (Or.inr (hw _ (List.mem_of_getElem? (i := 26) rfl))) (by decide) (t := .int) (t' := .long) (by decide) (by decide)))).other W14 (Or.inr (slot_ne (Or.inr (hw _ (List.mem_of_getElem? (i := 20) rfl))) (Or.inr (hw _ (List.mem_of_getElem? (i := 28) rfl))) (by decide) (t := .int) (t' := .long) (by decide) (by decide))))
  have Fa17 := ((((Fa3.same W5).other W8 (Or.inr (slot_ne (Or.inr (hw _ (List.mem_of_getElem? (i := 22) rfl))) (Or.inr (hw _ (List.mem_of_getElem? (i := 24) rfl))) (by decide) (t := .long) (t' := .long) (by decide) (by decide)))).other W11 (Or.inr (slot_ne (Or.inr (hw _ (List.mem_of_getElem? (i := 22) rfl))) (Or.inr (hw _ (List.mem_of_getElem? (i := 26) rfl))) (by decide) (t := .long) (t' := .long) (by decide) (by decide)))).other W14 (Or.inr (slot_ne (Or.inr (hw _ (List.mem_of_getElem? (i := 22) rfl))) (Or.inr (hw _ (List.mem_of_getElem? (i := 28) rfl))) (by decide) (t := .long) (t' := .long) (by decide) (by decide))))
  have Fa18 := (((Fa6.same W8).other W11 (Or.inr (slot_ne (Or.inr (hw _ (List.mem_of_getElem? (i := 24) rfl))) (Or.inr (hw _ (List.mem_of_getElem? (i := 26) rfl))) (by decide) (t := .long) (t' := .long) (by decide) (by decide)))).other W14 (Or.inr (slot_ne (Or.inr (hw _ (List.mem_of_getElem? (i := 24) rfl))) (Or.inr (hw _ (List.mem_of_getElem? (i := 28) rfl))) (by decide) (t := .long) (t' := .long) (by decide) (by decide))))
  have Fa19 := ((Fa9.same W11).other W14 (Or.inr (slot_ne (Or.inr (hw _ (List.mem_of_getElem? (i := 26) rfl))) (Or.inr (hw _ (List.mem_of_getElem? (i := 28) rfl))) (by decide) (t := .long) (t' := .long) (by decide) (by decide))))
  have Fa20 := (Fa12.same W14)
  exact own_end X14 e14 (v := none) (fun _ => rfl) hlk (fun fs hr => X14.returnOut hx Bd.returns (hb hby d2_32) hr) (Q := Q_rm2 Z a0 a1 p2 q3 q4 q5 q6 h0 n0) ⟨rfl, N14, Kp15, Fa16, Fa17, Fa18, Fa19, Fa20⟩ (by decide) (by decide)
def own_tri (p1 : Int32)  : Int64 := (if (p1 &&& (1 : Int32)) = (0 : Int32) then (((p1 / (2 : Int32)).toInt64) * ((p1 - (1 : Int32)).toInt64)) else ((p1.toInt64) * (((p1 - (1 : Int32)) / (2 : Int32)).toInt64)))
theorem pn_1 : plainName "headway/bench/OutcomeVerifiedPinLaw" = true := by first | (simp [plainName, overriddenIn]; done) | decide +kernel
theorem d1_0 : decode method_2_code 0 = .ok (.iload_n 0, 1) := by decide +kernel
theorem d1_1 : decode method_2_code 1 = .ok (.iconst 1, 1) := by decide +kernel
theorem d1_2 : decode method_2_code 2 = .ok (.iand, 1) := by decide +kernel
theorem d1_3 : decode method_2_code 3 = .ok (.ifCond .ne 13, 3) := by decide +kernel
theorem d1_6 : decode method_2_code 6 = .ok (.iload_n 0, 1) := by decide +kernel
theorem d1_7 : decode method_2_code 7 = .ok (.iconst 2, 1) := by decide +kernel
theorem d1_8 : decode method_2_code 8 = .ok (.idiv, 1) := by decide +kernel
theorem d1_9 : decode method_2_code 9 = .ok (.i2l, 1) := by decide +kernel
theorem d1_10 : decode method_2_code 10 = .ok (.iload_n 0, 1) := by decide +kernel
theorem d1_11 : decode method_2_code 11 = .ok (.iconst 1, 1) := by decide +kernel
theorem d1_12 : decode method_2_code 12 = .ok (.isub, 1) := by decide +kernel
theorem d1_13 : decode method_2_code 13 = .ok (.i2l, 1) := by decide +kernel
theorem d1_14 : decode method_2_code 14 = .ok (.lmul, 1) := by decide +kernel
theorem d1_15 : decode method_2_code 15 = .ok (.lreturn, 1) := by decide +kernel
theorem d1_16 : decode method_2_code 16 = .ok (.iload_n 0, 1) := by decide +kernel
theorem d1_17 : decode method_2_code 17 = .ok (.i2l, 1) := by decide +kernel
theorem d1_18 : decode method_2_code 18 = .ok (.iload_n 0, 1) := by decide +kernel
theorem d1_19 : decode method_2_code 19 = .ok (.iconst 1, 1) := by decide +kernel
theorem d1_20 : decode method_2_code 20 = .ok (.isub, 1) := by decide +kernel
theorem d1_21 : decode method_2_code 21 = .ok (.iconst 2, 1) := by decide +kernel
theorem d1_22 : decode method_2_code 22 = .ok (.idiv, 1) := by decide +kernel
theorem d1_23 : decode method_2_code 23 = .ok (.i2l, 1) := by decide +kernel
theorem d1_24 : decode method_2_code 24 = .ok (.lmul, 1) := by decide +kernel
theorem d1_25 : decode method_2_code 25 = .ok (.lreturn, 1) := by decide +kernel
theorem ef_rm1 (m : MethodId) (p1 : Int32) : entryFrame m #[(.int p1)] 1 = mkF m 0 #[iv p1] [] := by first | (simp [entryFrame, mkF, argsToLocals, Value.category]; done) | rfl
def Q_rm1 (Z : State) (a0 : Array Value) (p1 : Int32)  (h0 : Heap) (n0 : Nat) (v : Option Value) (h : Heap) (L : List Loc) : Prop := v = some (.long (own_tri p1)) ∧ Fr n0 L ∧ h = h0
set_option maxRecDepth 65536 in
set_option maxHeartbeats 40000000 in
theorem rm1 (l : Launch) (Z : State) (a0 : Array Value) (hw : ∀ d ∈ tables_1, d.before a0 Z = true) (ws : List Jvm.Cond) (p1 : Int32)  (h0 : Heap) (n0 : Nat) (Z0 : n0 ≤ h0.size) :
    MetFree l (⟨"headway/bench/OutcomeVerifiedPinLaw", "triangle", "(I)J"⟩ : MethodName) (head1 (Jvm.Cond.code (⟨"headway/bench/OutcomeVerifiedPinLaw", "triangle", "(I)J"⟩ : MethodName) method_2_code 1 (some .long) :: ws) ({ frames := 0, cells := 0, slots := 0, locals := 0 } : Room)) (fun a U => a = #[(.int p1)] ∧ Z.Warmed39 U.vm ∧ U.heap = h0) (fun _ _ _ _ _ => True) (fun _ U o U' => ∃ v L, o = .returned v ∧ Q_rm1 Z a0 p1 h0 n0 v U'.heap L ∧ FrameEnd U o U' L ({ frames := 0, cells := 0, slots := 0, locals := 0 } : Room).cells ({ frames := 0, cells := 0, slots := 0, locals := 0 } : Room).slots) := by
  refine MetFree.of_bodySF (plainFor_of_name pn_1) hisR ?_
  intro p e s m args below meth c s₁ Bd hml0 hP hK
  obtain ⟨rfl, hZ, hh⟩ := hP
  have hx := Bd.exec
  have hby := Bd.bytes
  have hml : c.maxLocals = 1 := hml0
  have hown : s.vm.findClass "headway/bench/OutcomeVerifiedPinLaw" = some m.cls := findClass_of_methodNamed Bd.named
  have hnm := (name_of_methodNamed Bd.named Bd.method).1
  have hlk : meth.locks = false := BodyLoose.notSynchronized (by assumption)
  have X0 : Stand p l e ({ frames := 0, cells := 0, slots := 0, locals := 0 } : Room) s m #[(.int p1)] below meth c s₁ [] 0 0 := Stand.of_body Bd
  have e0 : s₁.heap = h0 := by rw [← hh, Bd.state]; rfl
  have N0 := Fr.nil n0
  show own_Go p.tables e below (fun o U' => ∃ v L, o = .returned v ∧ Q_rm1 Z a0 p1 h0 n0 v U'.heap L ∧ FrameEnd s o U' L ({ frames := 0, cells := 0, slots := 0, locals := 0 } : Room).cells ({ frames := 0, cells := 0, slots := 0, locals := 0 } : Room).slots) (s₁.setTop (entryFrame m #[(.int p1)] 1))
  refine own_st (fun t k => castTop (ef_rm1 m p1) k) ?_
  have hv : own_tri p1 = (if (p1 &&& (1 : Int32)) = (0 : Int32) then (((p1 / (2 : Int32)).toInt64) * ((p1 - (1 : Int32)).toInt64)) else ((p1.toInt64) * (((p1 - (1 : Int32)) / (2 : Int32)).toInt64))) := rfl
  show own_Go _ _ _ _ (s₁.setTop (mkF m 0 #[iv p1] []))
  refine o_iloadN X0 hx (hb hby d1_0) rfl ?_
  refine o_iconst X0 hx 1 (hb hby d1_1) rfl ?_
  refine o_iand X0 hx (hb hby d1_2) ?_
  by_cases hc3_1 : (p1 &&& (1 : Int32)) = (0 : Int32)
  · have hv2 := hv.trans (if_pos hc3_1)
    refine o_ifNo X0 hx (hb hby d1_3) (teq hc3_1).2 ?_
    refine o_iloadN X0 hx (hb hby d1_6) rfl ?_
    refine o_iconst X0 hx 2 (hb hby d1_7) rfl ?_
    refine o_idiv X0 hx (hb hby d1_8) (by decide) ?_
    refine o_i2l X0 hx (hb hby d1_9) ?_
    refine o_iloadN X0 hx (hb hby d1_10) rfl ?_
    refine o_iconst X0 hx 1 (hb hby d1_11) rfl ?_
    refine o_isub X0 hx (hb hby d1_12) ?_
    refine o_i2l X0 hx (hb hby d1_13) ?_
    refine o_lmul X0 hx (hb hby d1_14) ?_
    exact own_end X0 e0 (v := some (.long (((p1 / (2 : Int32)).toInt64) * ((p1 - (1 : Int32)).toInt64)))) (fun h => by rw [Bd.returns] at h; cases h) hlk (fun fs hr => X0.lreturnOut hx Bd.returns (hb hby d1_15) hr) (Q := Q_rm1 Z a0 p1 h0 n0) ⟨(congrArg (fun z => some (Value.long z)) hv2.symm), N0, rfl⟩ (by decide) (by decide)
  · have hv3 := hv.trans (if_neg hc3_1)
    refine o_ifYes X0 hx (pc' := 16) (hb hby d1_3) (feq hc3_1).2 (by decide) (by decide) ?_
    refine o_iloadN X0 hx (hb hby d1_16) rfl ?_
    refine o_i2l X0 hx (hb hby d1_17) ?_
    refine o_iloadN X0 hx (hb hby d1_18) rfl ?_
    refine o_iconst X0 hx 1 (hb hby d1_19) rfl ?_
    refine o_isub X0 hx (hb hby d1_20) ?_
    refine o_iconst X0 hx 2 (hb hby d1_21) rfl ?_
    refine o_idiv X0 hx (hb hby d1_22) (by decide) ?_
    refine o_i2l X0 hx (hb hby d1_23) ?_
    refine o_lmul X0 hx (hb hby d1_24) ?_
    exact own_end X0 e0 (v := some (.long ((p1.toInt64) * (((p1 - (1 : Int32)) / (2 : Int32)).toInt64)))) (fun h => by rw [Bd.returns] at h; cases h) hlk (fun fs hr => X0.lreturnOut hx Bd.returns (hb hby d1_25) hr) (Q := Q_rm1 Z a0 p1 h0 n0) ⟨(congrArg (fun z => some (Value.long z)) hv3.symm), N0, rfl⟩ (by decide) (by decide)
def own_ver  (w1 : Int32) (w2 : Int64) (w3 : Int64) (w4 : Int64) : Int32 := (if (lcmpW w2 (w1.toInt64)) = (0 : Int32) then (if (lcmpW w3 (((w1.toInt64) * ((w1 - (1 : Int32)).toInt64)) / (2 : Int64))) = (0 : Int32) then (if (lcmpW w4 (0 : Int64)) = (0 : Int32) then (1 : Int32) else (0 : Int32)) else (0 : Int32)) else (0 : Int32))
theorem d5_0 : decode prog_18_method_2_code 0 = .ok (.aload_n 0, 1) := by decide +kernel
theorem d5_1 : decode prog_18_method_2_code 1 = .ok (.getfield 17, 3) := by decide +kernel
theorem d5_4 : decode prog_18_method_2_code 4 = .ok (.aload_n 0, 1) := by decide +kernel
theorem d5_5 : decode prog_18_method_2_code 5 = .ok (.getfield 7, 3) := by decide +kernel
theorem d5_8 : decode prog_18_method_2_code 8 = .ok (.i2l, 1) := by decide +kernel
theorem d5_9 : decode prog_18_method_2_code 9 = .ok (.lcmp, 1) := by decide +kernel
theorem d5_10 : decode prog_18_method_2_code 10 = .ok (.ifCond .ne 41, 3) := by decide +kernel
theorem d5_13 : decode prog_18_method_2_code 13 = .ok (.aload_n 0, 1) := by decide +kernel
theorem d5_14 : decode prog_18_method_2_code 14 = .ok (.getfield 20, 3) := by decide +kernel
theorem d5_17 : decode prog_18_method_2_code 17 = .ok (.aload_n 0, 1) := by decide +kernel
theorem d5_18 : decode prog_18_method_2_code 18 = .ok (.getfield 7, 3) := by decide +kernel
theorem d5_21 : decode prog_18_method_2_code 21 = .ok (.i2l, 1) := by decide +kernel
theorem d5_22 : decode prog_18_method_2_code 22 = .ok (.aload_n 0, 1) := by decide +kernel
theorem d5_23 : decode prog_18_method_2_code 23 = .ok (.getfield 7, 3) := by decide +kernel
theorem d5_26 : decode prog_18_method_2_code 26 = .ok (.iconst 1, 1) := by decide +kernel
theorem d5_27 : decode prog_18_method_2_code 27 = .ok (.isub, 1) := by decide +kernel
theorem d5_28 : decode prog_18_method_2_code 28 = .ok (.i2l, 1) := by decide +kernel
theorem d5_29 : decode prog_18_method_2_code 29 = .ok (.lmul, 1) := by decide +kernel
theorem d5_30 : decode prog_18_method_2_code 30 = .ok (.ldc2_w 26, 3) := by decide +kernel
theorem d5_33 : decode prog_18_method_2_code 33 = .ok (.ldiv, 1) := by decide +kernel
theorem d5_34 : decode prog_18_method_2_code 34 = .ok (.lcmp, 1) := by decide +kernel
theorem d5_35 : decode prog_18_method_2_code 35 = .ok (.ifCond .ne 16, 3) := by decide +kernel
theorem d5_38 : decode prog_18_method_2_code 38 = .ok (.aload_n 0, 1) := by decide +kernel
theorem d5_39 : decode prog_18_method_2_code 39 = .ok (.getfield 23, 3) := by decide +kernel
theorem d5_42 : decode prog_18_method_2_code 42 = .ok (.lconst 0, 1) := by decide +kernel
theorem d5_43 : decode prog_18_method_2_code 43 = .ok (.lcmp, 1) := by decide +kernel
theorem d5_44 : decode prog_18_method_2_code 44 = .ok (.ifCond .ne 7, 3) := by decide +kernel
theorem d5_47 : decode prog_18_method_2_code 47 = .ok (.iconst 1, 1) := by decide +kernel
theorem d5_48 : decode prog_18_method_2_code 48 = .ok (.goto 4, 3) := by decide +kernel
theorem d5_52 : decode prog_18_method_2_code 52 = .ok (.ireturn, 1) := by decide +kernel
theorem d5_51 : decode prog_18_method_2_code 51 = .ok (.iconst 0, 1) := by decide +kernel
theorem ef_rm5 (m : MethodId) (a1 : Addr) : entryFrame m #[(.ref a1)] 1 = mkF m 0 #[rv a1] [] := by first | (simp [entryFrame, mkF, argsToLocals, Value.category]; done) | rfl
def Q_rm5 (Z : State) (a0 : Array Value) (a1 : Addr) (w1 : Int32) (w2 : Int64) (w3 : Int64) (w4 : Int64) (h0 : Heap) (n0 : Nat) (v : Option Value) (h : Heap) (L : List Loc) : Prop := v = some (.int (own_ver w1 w2 w3 w4)) ∧ Fr n0 L ∧ h = h0
set_option maxRecDepth 65536 in
set_option maxHeartbeats 40000000 in
theorem rm5 (l : Launch) (Z : State) (a0 : Array Value) (hw : ∀ d ∈ tables_1, d.before a0 Z = true) (ws : List Jvm.Cond) (a1 : Addr) (w1 : Int32) (w2 : Int64) (w3 : Int64) (w4 : Int64) (h0 : Heap) (n0 : Nat) (Z0 : n0 ≤ h0.size) (F1 : Fld Z h0 a1 "headway/bench/Transfer$Outcome" "elements" "I" (.int w1)) (F2 : Fld Z h0 a1 "headway/bench/Transfer$Outcome" "received" "J" (.long w2)) (F3 : Fld Z h0 a1 "headway/bench/Transfer$Outcome" "sum" "J" (.long w3)) (F4 : Fld Z h0 a1 "headway/bench/Transfer$Outcome" "outOfOrder" "J" (.long w4)) :
    MetFree l (⟨"headway/bench/Transfer$Outcome", "verified", "()Z"⟩ : MethodName) (head1 (Jvm.Cond.code (⟨"headway/bench/Transfer$Outcome", "verified", "()Z"⟩ : MethodName) prog_18_method_2_code 1 (some .boolean) :: ws) ({ frames := 0, cells := 0, slots := 0, locals := 0 } : Room)) (fun a U => a = #[(.ref a1)] ∧ Z.Warmed39 U.vm ∧ U.heap = h0) (fun _ _ _ _ _ => True) (fun _ U o U' => ∃ v L, o = .returned v ∧ Q_rm5 Z a0 a1 w1 w2 w3 w4 h0 n0 v U'.heap L ∧ FrameEnd U o U' L ({ frames := 0, cells := 0, slots := 0, locals := 0 } : Room).cells ({ frames := 0, cells := 0, slots := 0, locals := 0 } : Room).slots) := by
  refine MetFree.of_bodySF (plainFor_of_name pn_2) hisR ?_
  intro p e s m args below meth c s₁ Bd hml0 hP hK
  obtain ⟨rfl, hZ, hh⟩ := hP
  have hx := Bd.exec
  have hby := Bd.bytes
  have hml : c.maxLocals = 1 := hml0
  have hown : s.vm.findClass "headway/bench/Transfer$Outcome" = some m.cls := findClass_of_methodNamed Bd.named
  have hnm := (name_of_methodNamed Bd.named Bd.method).1
  have hlk : meth.locks = false := BodyLoose.notSynchronized (by assumption)
  have X0 : Stand p l e ({ frames := 0, cells := 0, slots := 0, locals := 0 } : Room) s m #[(.ref a1)] below meth c s₁ [] 0 0 := Stand.of_body Bd
  have e0 : s₁.heap = h0 := by rw [← hh, Bd.state]; rfl
  have N0 := Fr.nil n0
  show own_Go p.tables e below (fun o U' => ∃ v L, o = .returned v ∧ Q_rm5 Z a0 a1 w1 w2 w3 w4 h0 n0 v U'.heap L ∧ FrameEnd s o U' L ({ frames := 0, cells := 0, slots := 0, locals := 0 } : Room).cells ({ frames := 0, cells := 0, slots := 0, locals := 0 } : Room).slots) (s₁.setTop (entryFrame m #[(.ref a1)] 1))
  refine own_st (fun t k => castTop (ef_rm5 m a1) k) ?_
  have hv : own_ver w1 w2 w3 w4 = (if (lcmpW w2 (w1.toInt64)) = (0 : Int32) then (if (lcmpW w3 (((w1.toInt64) * ((w1 - (1 : Int32)).toInt64)) / (2 : Int64))) = (0 : Int32) then (if (lcmpW w4 (0 : Int64)) = (0 : Int32) then (1 : Int32) else (0 : Int32)) else (0 : Int32)) else (0 : Int32)) := rfl
  show own_Go _ _ _ _ (s₁.setTop (mkF m 0 #[rv a1] []))
  refine o_aloadN X0 hx (hb hby d5_0) rfl rfl ?_
  obtain ⟨T1, X1, e1, st1⟩ := getF X0 hx hZ hown (host := "") (Or.inl (hw _ (List.mem_of_getElem? (i := 23) rfl))) Via.refl e0 F2 (g := (mkF m 1 #[rv a1] [(.ref a1)])) rfl rfl (hb hby d5_1)
  refine own_st st1 ?_
  show own_Go _ _ _ _ (T1.setTop (mkF m 4 #[rv a1] [(.long w2)]))
  refine o_aloadN X1 hx (hb hby d5_4) rfl rfl ?_
  obtain ⟨T2, X2, e2, st2⟩ := getF X1 hx hZ hown (host := "") (Or.inl (hw _ (List.mem_of_getElem? (i := 19) rfl))) Via.refl e1 F1 (g := (mkF m 5 #[rv a1] [(.ref a1), (.long w2)])) rfl rfl (hb hby d5_5)
  refine own_st st2 ?_
  show own_Go _ _ _ _ (T2.setTop (mkF m 8 #[rv a1] [(.int w1), (.long w2)]))
  refine o_i2l X2 hx (hb hby d5_8) ?_
  refine o_lcmp X2 hx (hb hby d5_9) ?_
  by_cases hc10_3 : (lcmpW w2 (w1.toInt64)) = (0 : Int32)
  · have hv4 := hv.trans (if_pos hc10_3)
    refine o_ifNo X2 hx (hb hby d5_10) (teq hc10_3).2 ?_
    refine o_aloadN X2 hx (hb hby d5_13) rfl rfl ?_
    obtain ⟨T5, X5, e5, st5⟩ := getF X2 hx hZ hown (host := "") (Or.inl (hw _ (List.mem_of_getElem? (i := 25) rfl))) Via.refl e2 F3 (g := (mkF m 14 #[rv a1] [(.ref a1)])) rfl rfl (hb hby d5_14)
    refine own_st st5 ?_
    show own_Go _ _ _ _ (T5.setTop (mkF m 17 #[rv a1] [(.long w3)]))
    refine o_aloadN X5 hx (hb hby d5_17) rfl rfl ?_
    obtain ⟨T6, X6, e6, st6⟩ := getF X5 hx hZ hown (host := "") (Or.inl (hw _ (List.mem_of_getElem? (i := 19) rfl))) Via.refl e5 F1 (g := (mkF m 18 #[rv a1] [(.ref a1), (.long w3)])) rfl rfl (hb hby d5_18)
    refine own_st st6 ?_
    show own_Go _ _ _ _ (T6.setTop (mkF m 21 #[rv a1] [(.int w1), (.long w3)]))
    refine o_i2l X6 hx (hb hby d5_21) ?_
    refine o_aloadN X6 hx (hb hby d5_22) rfl rfl ?_
    obtain ⟨T7, X7, e7, st7⟩ := getF X6 hx hZ hown (host := "") (Or.inl (hw _ (List.mem_of_getElem? (i := 19) rfl))) Via.refl e6 F1 (g := (mkF m 23 #[rv a1] [(.ref a1), (.long (w1.toInt64)), (.long w3)])) rfl rfl (hb hby d5_23)
    refine own_st st7 ?_
    show own_Go _ _ _ _ (T7.setTop (mkF m 26 #[rv a1] [(.int w1), (.long (w1.toInt64)), (.long w3)]))
    refine o_iconst X7 hx 1 (hb hby d5_26) rfl ?_
    refine o_isub X7 hx (hb hby d5_27) ?_
    refine o_i2l X7 hx (hb hby d5_28) ?_
    refine o_lmul X7 hx (hb hby d5_29) ?_
    refine o_ldc2 X7 hx hown (hb hby d5_30) (mvT hZ (hw _ (List.mem_of_getElem? (i := 34) rfl))) ?_
    refine o_ldiv X7 hx (hb hby d5_33) (by decide) ?_
    refine o_lcmp X7 hx (hb hby d5_34) ?_
    by_cases hc35_8 : (lcmpW w3 (((w1.toInt64) * ((w1 - (1 : Int32)).toInt64)) / (2 : Int64))) = (0 : Int32)
    · have hv9 := hv4.trans (if_pos hc35_8)
      refine o_ifNo X7 hx (hb hby d5_35) (teq hc35_8).2 ?_
      refine o_aloadN X7 hx (hb hby d5_38) rfl rfl ?_
      obtain ⟨T10, X10, e10, st10⟩ := getF X7 hx hZ hown (host := "") (Or.inl (hw _ (List.mem_of_getElem? (i := 27) rfl))) Via.refl e7 F4 (g := (mkF m 39 #[rv a1] [(.ref a1)])) rfl rfl (hb hby d5_39)
      refine own_st st10 ?_
      show own_Go _ _ _ _ (T10.setTop (mkF m 42 #[rv a1] [(.long w4)]))
      refine o_lconst X10 hx 0 (hb hby d5_42) rfl ?_
      refine o_lcmp X10 hx (hb hby d5_43) ?_
      by_cases hc44_11 : (lcmpW w4 (0 : Int64)) = (0 : Int32)
      · have hv12 := hv9.trans (if_pos hc44_11)
        refine o_ifNo X10 hx (hb hby d5_44) (teq hc44_11).2 ?_
        refine o_iconst X10 hx 1 (hb hby d5_47) rfl ?_
        refine o_goto X10 hx (pc' := 52) (hb hby d5_48) (by decide) (by decide) ?_
        exact own_end X10 e10 (v := some (.int (1 : Int32))) (fun h => by rw [Bd.returns] at h; cases h) hlk (fun fs hr => retN X10 hx (z := (1 : Int32)) (t := .boolean) Bd.returns (by simp) (hb hby d5_52) hr) (Q := Q_rm5 Z a0 a1 w1 w2 w3 w4 h0 n0) ⟨(congrArg (fun z => some (Value.int z)) hv12.symm), N0, rfl⟩ (by decide) (by decide)
      · have hv13 := hv9.trans (if_neg hc44_11)
        refine o_ifYes X10 hx (pc' := 51) (hb hby d5_44) (feq hc44_11).2 (by decide) (by decide) ?_
        refine o_iconst X10 hx 0 (hb hby d5_51) rfl ?_
        exact own_end X10 e10 (v := some (.int (0 : Int32))) (fun h => by rw [Bd.returns] at h; cases h) hlk (fun fs hr => retN X10 hx (z := (0 : Int32)) (t := .boolean) Bd.returns (by simp) (hb hby d5_52) hr) (Q := Q_rm5 Z a0 a1 w1 w2 w3 w4 h0 n0) ⟨(congrArg (fun z => some (Value.int z)) hv13.symm), N0, rfl⟩ (by decide) (by decide)
    · have hv14 := hv4.trans (if_neg hc35_8)
      refine o_ifYes X7 hx (pc' := 51) (hb hby d5_35) (feq hc35_8).2 (by decide) (by decide) ?_
      refine o_iconst X7 hx 0 (hb hby d5_51) rfl ?_
      exact own_end X7 e7 (v := some (.int (0 : Int32))) (fun h => by rw [Bd.returns] at h; cases h) hlk (fun fs hr => retN X7 hx (z := (0 : Int32)) (t := .boolean) Bd.returns (by simp) (hb hby d5_52) hr) (Q := Q_rm5 Z a0 a1 w1 w2 w3 w4 h0 n0) ⟨(congrArg (fun z => some (Value.int z)) hv14.symm), N0, rfl⟩ (by decide) (by decide)
  · have hv15 := hv.trans (if_neg hc10_3)
    refine o_ifYes X2 hx (pc' := 51) (hb hby d5_10) (feq hc10_3).2 (by decide) (by decide) ?_
    refine o_iconst X2 hx 0 (hb hby d5_51) rfl ?_
    exact own_end X2 e2 (v := some (.int (0 : Int32))) (fun h => by rw [Bd.returns] at h; cases h) hlk (fun fs hr => retN X2 hx (z := (0 : Int32)) (t := .boolean) Bd.returns (by simp) (hb hby d5_52) hr) (Q := Q_rm5 Z a0 a1 w1 w2 w3 w4 h0 n0) ⟨(congrArg (fun z => some (Value.int z)) hv15.symm), N0, rfl⟩ (by decide) (by decide)
theorem own_and0 (x : Int32) : 0 ≤ (x &&& (2147483647 : Int32)).toInt := (c_and x (2147483647 : Int32) (by decide)).1
theorem own_addT {a b : Int64} (h : lcmpW b (0 : Int64) = (0 : Int32)) : a + b = a := by rw [(lw_eq _ _).mp h]; simp
theorem own_addF {a b : Int64} (h : ¬ lcmpW b (0 : Int64) = (0 : Int32)) : ¬ (a + b = a) := fun e => h ((lw_eq _ _).mpr (by
  have h1 := c_ladd a b
  rw [e] at h1
  have h2 := b.toInt_lt; have h3 := b.le_toInt
  apply Int64.toInt_inj.mp
  show b.toInt = 0
  omega))
theorem own_half (N k : Int) (h : N = 2 * k) : N * (N - 1) = 2 * (k * (N - 1)) := by rw [h]; exact Int.mul_assoc 2 k _
theorem own_bnd (a b : Int) (ha : 0 ≤ a) (ha' : a ≤ 2147483647) (hb : -1 ≤ b) (hb' : b ≤ 2147483647) : -2147483647 ≤ a * b ∧ a * b ≤ 2147483647 * 2147483647 := by
  constructor
  · by_cases h : 0 ≤ b
    · have := Int.mul_nonneg ha h; omega
    · have : b = -1 := by omega
      subst this; omega
  · by_cases h : 0 ≤ b
    · exact Int.mul_le_mul ha' hb' h (by omega)
    · have : b = -1 := by omega
      subst this; omega
theorem own_mulL (x y : Int64) (h1 : -4611686018427387904 ≤ x.toInt * y.toInt) (h2 : x.toInt * y.toInt < 9223372036854775808) : (x * y).toInt = x.toInt * y.toInt := by
  have h := c_lmul x y
  have a := (x * y).toInt_lt; have b := (x * y).le_toInt
  omega
theorem own_tri_eq {n : Int32} (h : 0 ≤ n.toInt) : own_tri n = (n.toInt64 * (n - (1 : Int32)).toInt64) / (2 : Int64) := by
  have hl := n.toInt_lt
  have hn1 : (n - (1 : Int32)).toInt = n.toInt - 1 := by
    have q := c_isub n (1 : Int32); have e : (1 : Int32).toInt = 1 := rfl; rw [e] at q
    have a := (n - (1 : Int32)).toInt_lt; have b := (n - (1 : Int32)).le_toInt
    omega
  have hp := own_bnd n.toInt (n.toInt - 1) h (by omega) (by omega) (by omega)
  have hm : (n.toInt64 * (n - (1 : Int32)).toInt64).toInt = n.toInt * (n.toInt - 1) := by
    rw [own_mulL]
    · rw [c_i2l, c_i2l, hn1]
    · rw [c_i2l, c_i2l, hn1]; omega
    · rw [c_i2l, c_i2l, hn1]; omega
  have hd := c_ldiv (n.toInt64 * (n - (1 : Int32)).toInt64) (2 : Int64) 2 rfl (by decide)
  rw [hm] at hd
  have hpar : (n &&& (1 : Int32)).toInt = n.toInt % 2 := c_mask n 1 1 (by decide) rfl
  apply Int64.toInt_inj.mp
  have hcase : n.toInt % 2 = 0 ∨ n.toInt % 2 = 1 := by omega
  unfold own_tri
  rcases hcase with hc | hc
  · have e : (n &&& (1 : Int32)) = (0 : Int32) := Int32.toInt_inj.mp (by rw [hpar, hc]; rfl)
    rw [if_pos e]
    have hq := (c_idiv n (2 : Int32) 2 rfl (by decide)).1 h
    have hk : n.toInt = 2 * (n.toInt / 2) := by omega
    have hb := own_bnd (n.toInt / 2) (n.toInt - 1) (by omega) (by omega) (by omega) (by omega)
    rw [own_mulL]
    · rw [c_i2l, c_i2l, hn1, hq]
      have h2 := own_half n.toInt (n.toInt / 2) hk
      rw [h2] at hd
      by_cases hz : 0 ≤ 2 * (n.toInt / 2 * (n.toInt - 1))
      · rw [hd.1 hz]; omega
      · rw [hd.2 (by omega)]; omega
    · rw [c_i2l, c_i2l, hn1, hq]; omega
    · rw [c_i2l, c_i2l, hn1, hq]; omega
  · have e : ¬ (n &&& (1 : Int32)) = (0 : Int32) := fun q => by
      have := congrArg Int32.toInt q
      rw [hpar, hc] at this
      exact absurd this (by decide)
    rw [if_neg e]
    have hq := (c_idiv (n - (1 : Int32)) (2 : Int32) 2 rfl (by decide)).1 (by rw [hn1]; omega)
    rw [hn1] at hq
    have hb := own_bnd n.toInt ((n.toInt - 1) / 2) h (by omega) (by omega) (by omega)
    have h2 : n.toInt * (n.toInt - 1) = 2 * (n.toInt * ((n.toInt - 1) / 2)) := by
      have hk : n.toInt - 1 = 2 * ((n.toInt - 1) / 2) := by omega
      calc n.toInt * (n.toInt - 1) = n.toInt * (2 * ((n.toInt - 1) / 2)) := by rw [← hk]
        _ = 2 * (n.toInt * ((n.toInt - 1) / 2)) := Int.mul_left_comm _ _ _
    rw [own_mulL]
    · rw [c_i2l, c_i2l, hq]
      rw [h2] at hd
      by_cases hz : 0 ≤ 2 * (n.toInt * ((n.toInt - 1) / 2))
      · rw [hd.1 hz]; omega
      · rw [hd.2 (by omega)]; omega
    · rw [c_i2l, c_i2l, hq]; omega
    · rw [c_i2l, c_i2l, hq]; omega
theorem own_verT {n : Int32} {r s o : Int64} (h : 0 ≤ n.toInt) (h1 : r = n.toInt64) (h2 : s = own_tri n) (h3 : o = (0 : Int64)) : own_ver n r s o = (1 : Int32) := by
  subst h1 h2 h3
  unfold own_ver
  rw [if_pos ((lw_eq _ _).mpr rfl), if_pos ((lw_eq _ _).mpr (own_tri_eq h)), if_pos ((lw_eq _ _).mpr rfl)]
theorem own_verF1 {n : Int32} {r s o : Int64} (h1 : ¬ r = n.toInt64) : own_ver n r s o = (0 : Int32) := by
  unfold own_ver
  rw [if_neg fun q => h1 ((lw_eq _ _).mp q)]
theorem own_verF2 {n : Int32} {r s o : Int64} (h : 0 ≤ n.toInt) (h1 : ¬ s = own_tri n) : own_ver n r s o = (0 : Int32) := by
  unfold own_ver
  split
  · rw [if_neg fun q => h1 (((lw_eq _ _).mp q).trans (own_tri_eq h).symm)]
  · rfl
theorem own_verF3 {n : Int32} {r s o : Int64} (h1 : ¬ lcmpW o (0 : Int64) = (0 : Int32)) : own_ver n r s o = (0 : Int32) := by
  unfold own_ver
  repeat' split
  all_goals first | rfl | (exfalso; exact h1 (by assumption))

theorem pd_2 : parseMethodDescriptor "(I)J" = some ⟨[.int], some .long⟩ := by decide +kernel
theorem pd_3 : parseMethodDescriptor "(IJJJJ)V" = some ⟨[.int, .long, .long, .long, .long], none⟩ := by decide +kernel
theorem pd_4 : parseMethodDescriptor "()Z" = some ⟨[], some .boolean⟩ := by decide +kernel
theorem ef_rm0 (m : MethodId) (p1 : Int32) (q2 : Int64) (q3 : Int64) (q4 : Int64) (q5 : Int64) (p6 : Int32) : entryFrame m #[(.int p1), (.long q2), (.long q3), (.long q4), (.long q5), (.int p6)] maxLocals = mkF m 0 #[iv p1, .val (.long q2), .second, .val (.long q3), .second, .val (.long q4), .second, .val (.long q5), .second, iv p6, .unset, .unset, .unset, .unset, .unset, .unset, .unset, .unset, .unset, .unset, .unset, .unset, .unset, .unset] [] := by first | (simp [entryFrame, mkF, argsToLocals, Value.category, maxLocals]; done) | rfl
def Q_rm0 (Z : State) (a0 : Array Value) (p1 : Int32) (q2 : Int64) (q3 : Int64) (q4 : Int64) (q5 : Int64) (p6 : Int32)  (h0 : Heap) (n0 : Nat) (v : Option Value) (h : Heap) (L : List Loc) : Prop := v = some (.int (1 : Int32)) ∧ Fr n0 L ∧ Keep h0 h []
set_option maxRecDepth 65536 in
set_option maxHeartbeats 40000000 in
theorem rm0 (l : Launch) (Z : State) (a0 : Array Value) (hw : ∀ d ∈ tables_1, d.before a0 Z = true) (ws : List Jvm.Cond) (p1 : Int32) (q2 : Int64) (q3 : Int64) (q4 : Int64) (q5 : Int64) (p6 : Int32)  (h0 : Heap) (n0 : Nat) (Z0 : n0 ≤ h0.size) :
    MetFree l x (head1 (Jvm.Cond.code x code maxLocals ret :: ws) room_1) (fun a U => a = #[(.int p1), (.long q2), (.long q3), (.long q4), (.long q5), (.int p6)] ∧ Z.Warmed39 U.vm ∧ U.heap = h0) (fun _ _ _ _ _ => True) (fun _ U o U' => ∃ v L, o = .returned v ∧ Q_rm0 Z a0 p1 q2 q3 q4 q5 p6 h0 n0 v U'.heap L ∧ FrameEnd U o U' L room_1.cells room_1.slots) := by
  refine MetFree.of_bodySF (plainFor_of_name pn_1) hisR ?_
  intro p e s m args below meth c s₁ Bd hml0 hP hK
  obtain ⟨rfl, hZ, hh⟩ := hP
  have hx := Bd.exec
  have hby := Bd.bytes
  have hml : c.maxLocals = 24 := hml0
  have hown : s.vm.findClass "headway/bench/OutcomeVerifiedPinLaw" = some m.cls := findClass_of_methodNamed Bd.named
  have hnm := (name_of_methodNamed Bd.named Bd.method).1
  have hlk : meth.locks = false := BodyLoose.notSynchronized (by assumption)
  have X0 : Stand p l e room_1 s m #[(.int p1), (.long q2), (.long q3), (.long q4), (.long q5), (.int p6)] below meth c s₁ [] 0 0 := Stand.of_body Bd
  have e0 : s₁.heap = h0 := by rw [← hh, Bd.state]; rfl
  have N0 := Fr.nil n0
  show own_Go p.tables e below (fun o U' => ∃ v L, o = .returned v ∧ Q_rm0 Z a0 p1 q2 q3 q4 q5 p6 h0 n0 v U'.heap L ∧ FrameEnd s o U' L room_1.cells room_1.slots) (s₁.setTop (entryFrame m #[(.int p1), (.long q2), (.long q3), (.long q4), (.long q5), (.int p6)] maxLocals))
  refine own_st (fun t k => castTop (ef_rm0 m p1 q2 q3 q4 q5 p6) k) ?_
  show own_Go _ _ _ _ (s₁.setTop (mkF m 0 #[iv p1, .val (.long q2), .second, .val (.long q3), .second, .val (.long q4), .second, .val (.long q5), .second, iv p6, .unset, .unset, .unset, .unset, .unset, .unset, .unset, .unset, .unset, .unset, .unset, .unset, .unset, .unset] []))
  refine o_iloadN X0 hx (hb hby at_0) rfl ?_
  refine o_ldc X0 hx hown (hb hby at_1) (mvT hZ (hw _ (List.mem_of_getElem? (i := 0) rfl))) ?_
  refine o_iand X0 hx (hb hby at_3) ?_
  refine o_istore X0 hx (hb hby at_4) (l' := #[iv p1, .val (.long q2), .second, .val (.long q3), .second, .val (.long q4), .second, .val (.long q5), .second, iv p6, iv (p1 &&& (2147483647 : Int32)), .unset, .unset, .unset, .unset, .unset, .unset, .unset, .unset, .unset, .unset, .unset, .unset, .unset]) rfl ?_
  refine o_iload X0 hx (hb hby at_6) rfl ?_
  obtain ⟨_, _, ⟨T1, L1, k1, n1⟩, -, X1, ⟨Lc1, hQ1, l1, y1, z1⟩, st1⟩ := Jvm.LawKit.callS X0 hx (y := (⟨"headway/bench/OutcomeVerifiedPinLaw", "triangle", "(I)J"⟩ : MethodName)) hown (mvT hZ (hw _ (List.mem_of_getElem? (i := 1) rfl))) (mvT hZ (hw _ (List.mem_of_getElem? (i := 2) rfl))) (mvT hZ (hw _ (List.mem_of_getElem? (i := 3) rfl))) (mvT hZ (hw _ (List.mem_of_getElem? (i := 4) rfl))) (by decide) (backOf (W := 0) (rm1 l Z a0 hw [] (p1 &&& (2147483647 : Int32))  h0 n0 Z0) hZ (hw _ (List.mem_of_getElem? (i := 4) rfl)) (hw _ (List.mem_of_getElem? (i := 3) rfl)) (by decide) (by decide)) (g := (mkF m 8 #[iv p1, .val (.long q2), .second, .val (.long q3), .second, .val (.long q4), .second, .val (.long q5), .second, iv p6, iv (p1 &&& (2147483647 : Int32)), .unset, .unset, .unset, .unset, .unset, .unset, .unset, .unset, .unset, .unset, .unset, .unset, .unset] [(.int (p1 &&& (2147483647 : Int32)))])) rfl (by rw [hml]; rfl) (argsL := [(.int (p1 &&& (2147483647 : Int32)))]) (rest := []) (lenOf pd_2 rfl) rfl (by show 2 * 0 + _ ≤ _; exact Nat.le_of_eq rfl) (hb hby at_8) (fun _ _ => ⟨rfl, e0, (by decide : 0 + 0 ≤ _), (by decide : 0 + 0 ≤ _)⟩)
  dsimp only [Pt.U, Pt.locs, Pt.cells, Pt.slots] at X1 l1 y1 z1 st1 hQ1
  subst l1 y1 z1
  obtain ⟨rfl, Nq1, e1⟩ := hQ1
  have N1 := Fr.app N0 Nq1
  refine own_st st1 ?_
  show own_Go _ _ _ _ (T1.setTop (mkF m 11 #[iv p1, .val (.long q2), .second, .val (.long q3), .second, .val (.long q4), .second, .val (.long q5), .second, iv p6, iv (p1 &&& (2147483647 : Int32)), .unset, .unset, .unset, .unset, .unset, .unset, .unset, .unset, .unset, .unset, .unset, .unset, .unset] [(.long (own_tri (p1 &&& (2147483647 : Int32))))]))
  refine o_lstore X1 hx (hb hby at_11) (l' := #[iv p1, .val (.long q2), .second, .val (.long q3), .second, .val (.long q4), .second, .val (.long q5), .second, iv p6, iv (p1 &&& (2147483647 : Int32)), .val (.long (own_tri (p1 &&& (2147483647 : Int32)))), .second, .unset, .unset, .unset, .unset, .unset, .unset, .unset, .unset, .unset, .unset, .unset]) rfl ?_
  refine o_iload X1 hx (hb hby at_13) rfl ?_
  refine o_iconst X1 hx 1 (hb hby at_15) rfl ?_
  refine o_iand X1 hx (hb hby at_16) ?_
  by_cases hc17_2 : (p6 &&& (1 : Int32)) = (0 : Int32)
  · refine o_ifYes X1 hx (pc' := 24) (hb hby at_17) (teq hc17_2).1 (by decide) (by decide) ?_
    refine o_iconst X1 hx 0 (hb hby at_24) rfl ?_
    refine o_istore X1 hx (hb hby at_25) (l' := #[iv p1, .val (.long q2), .second, .val (.long q3), .second, .val (.long q4), .second, .val (.long q5), .second, iv p6, iv (p1 &&& (2147483647 : Int32)), .val (.long (own_tri (p1 &&& (2147483647 : Int32)))), .second, iv 0, .unset, .unset, .unset, .unset, .unset, .unset, .unset, .unset, .unset, .unset]) rfl ?_
    refine o_iload X1 hx (hb hby at_27) rfl ?_
    refine o_iconst X1 hx 2 (hb hby at_29) rfl ?_
    refine o_iand X1 hx (hb hby at_30) ?_
    by_cases hc31_3 : (p6 &&& (2 : Int32)) = (0 : Int32)
    · refine o_ifYes X1 hx (pc' := 38) (hb hby at_31) (teq hc31_3).1 (by decide) (by decide) ?_
      refine o_iconst X1 hx 0 (hb hby at_38) rfl ?_
      refine o_istore X1 hx (hb hby at_39) (l' := #[iv p1, .val (.long q2), .second, .val (.long q3), .second, .val (.long q4), .second, .val (.long q5), .second, iv p6, iv (p1 &&& (2147483647 : Int32)), .val (.long (own_tri (p1 &&& (2147483647 : Int32)))), .second, iv 0, iv 0, .unset, .unset, .unset, .unset, .unset, .unset, .unset, .unset, .unset]) rfl ?_
      refine o_iload X1 hx (hb hby at_41) rfl ?_
      refine o_iconst X1 hx 4 (hb hby at_43) rfl ?_
      refine o_iand X1 hx (hb hby at_44) ?_
      by_cases hc45_4 : (p6 &&& (4 : Int32)) = (0 : Int32)
      · refine o_ifYes X1 hx (pc' := 52) (hb hby at_45) (teq hc45_4).1 (by decide) (by decide) ?_
        refine o_iconst X1 hx 0 (hb hby at_52) rfl ?_
        refine o_istore X1 hx (hb hby at_53) (l' := #[iv p1, .val (.long q2), .second, .val (.long q3), .second, .val (.long q4), .second, .val (.long q5), .second, iv p6, iv (p1 &&& (2147483647 : Int32)), .val (.long (own_tri (p1 &&& (2147483647 : Int32)))), .second, iv 0, iv 0, iv 0, .unset, .unset, .unset, .unset, .unset, .unset, .unset, .unset]) rfl ?_
        refine o_iload X1 hx (hb hby at_55) rfl ?_
        refine o_ifYes X1 hx (pc' := 66) (hb hby at_57) (teq (by decide : (0 : Int32) = (0 : Int32))).1 (by decide) (by decide) ?_
        refine o_iload X1 hx (hb hby at_66) rfl ?_
        refine o_i2l X1 hx (hb hby at_68) ?_
        refine o_lloadN X1 hx (hb hby at_69) rfl ?_
        refine o_ladd X1 hx (hb hby at_70) ?_
        refine o_lstore X1 hx (hb hby at_71) (l' := #[iv p1, .val (.long q2), .second, .val (.long q3), .second, .val (.long q4), .second, .val (.long q5), .second, iv p6, iv (p1 &&& (2147483647 : Int32)), .val (.long (own_tri (p1 &&& (2147483647 : Int32)))), .second, iv 0, iv 0, iv 0, .val (.long (((p1 &&& (2147483647 : Int32)).toInt64) + q3)), .second, .unset, .unset, .unset, .unset, .unset, .unset]) rfl ?_
        refine o_iload X1 hx (hb hby at_73) rfl ?_
        refine o_ifYes X1 hx (pc' := 83) (hb hby at_75) (teq (by decide : (0 : Int32) = (0 : Int32))).1 (by decide) (by decide) ?_
        refine o_lload X1 hx (hb hby at_83) rfl ?_
        refine o_lload X1 hx (hb hby at_85) rfl ?_
        refine o_ladd X1 hx (hb hby at_87) ?_
        refine o_lstore X1 hx (hb hby at_88) (l' := #[iv p1, .val (.long q2), .second, .val (.long q3), .second, .val (.long q4), .second, .val (.long q5), .second, iv p6, iv (p1 &&& (2147483647 : Int32)), .val (.long (own_tri (p1 &&& (2147483647 : Int32)))), .second, iv 0, iv 0, iv 0, .val (.long (((p1 &&& (2147483647 : Int32)).toInt64) + q3)), .second, .val (.long ((own_tri (p1 &&& (2147483647 : Int32))) + q4)), .second, .unset, .unset, .unset, .unset]) rfl ?_
        refine o_iload X1 hx (hb hby at_90) rfl ?_
        refine o_ifYes X1 hx (pc' := 99) (hb hby at_92) (teq (by decide : (0 : Int32) = (0 : Int32))).1 (by decide) (by decide) ?_
        refine o_lload X1 hx (hb hby at_99) rfl ?_
        refine o_lstore X1 hx (hb hby at_101) (l' := #[iv p1, .val (.long q2), .second, .val (.long q3), .second, .val (.long q4), .second, .val (.long q5), .second, iv p6, iv (p1 &&& (2147483647 : Int32)), .val (.long (own_tri (p1 &&& (2147483647 : Int32)))), .second, iv 0, iv 0, iv 0, .val (.long (((p1 &&& (2147483647 : Int32)).toInt64) + q3)), .second, .val (.long ((own_tri (p1 &&& (2147483647 : Int32))) + q4)), .second, .val (.long q5), .second, .unset, .unset]) rfl ?_
        obtain ⟨T5, h5, X5, e5, E5, A5, D5, -, st5⟩ := newO X1 hx hZ hown (hw _ (List.mem_of_getElem? (i := 5) rfl)) (hw _ (List.mem_of_getElem? (i := 6) rfl)) (hw _ (List.mem_of_getElem? (i := 7) rfl)) e1 (g := (mkF m 103 #[iv p1, .val (.long q2), .second, .val (.long q3), .second, .val (.long q4), .second, .val (.long q5), .second, iv p6, iv (p1 &&& (2147483647 : Int32)), .val (.long (own_tri (p1 &&& (2147483647 : Int32)))), .second, iv 0, iv 0, iv 0, .val (.long (((p1 &&& (2147483647 : Int32)).toInt64) + q3)), .second, .val (.long ((own_tri (p1 &&& (2147483647 : Int32))) + q4)), .second, .val (.long q5), .second, .unset, .unset] [])) rfl (hb hby at_103) (by decide) (by decide)
        obtain ⟨b5, g5⟩ : ∃ z, z = h0.size := ⟨_, rfl⟩
        rw [← g5] at A5 D5 st5
        have gg5 : n0 ≤ b5 := Nat.le_trans Z0 (Nat.le_of_eq g5.symm)
        have sz5 : h0.size ≤ b5 := Nat.le_trans (Keep.refl h0 []).1 (Nat.le_of_eq g5.symm)
        have Fi5_elements : Fld Z h5 b5 "headway/bench/Transfer$Outcome" "elements" "I" (.int (0 : Int32)) := D5 (Or.inr (hw _ (List.mem_of_getElem? (i := 20) rfl))) (ty := .int) (by decide)
        have Fi5_nanos : Fld Z h5 b5 "headway/bench/Transfer$Outcome" "nanos" "J" (.long (0 : Int64)) := D5 (Or.inr (hw _ (List.mem_of_getElem? (i := 22) rfl))) (ty := .long) (by decide)
        have Fi5_received : Fld Z h5 b5 "headway/bench/Transfer$Outcome" "received" "J" (.long (0 : Int64)) := D5 (Or.inr (hw _ (List.mem_of_getElem? (i := 24) rfl))) (ty := .long) (by decide)
        have Fi5_sum : Fld Z h5 b5 "headway/bench/Transfer$Outcome" "sum" "J" (.long (0 : Int64)) := D5 (Or.inr (hw _ (List.mem_of_getElem? (i := 26) rfl))) (ty := .long) (by decide)
        have Fi5_outOfOrder : Fld Z h5 b5 "headway/bench/Transfer$Outcome" "outOfOrder" "J" (.long (0 : Int64)) := D5 (Or.inr (hw _ (List.mem_of_getElem? (i := 28) rfl))) (ty := .long) (by decide)
        refine own_st st5 ?_
        show own_Go _ _ _ _ (T5.setTop (mkF m 106 #[iv p1, .val (.long q2), .second, .val (.long q3), .second, .val (.long q4), .second, .val (.long q5), .second, iv p6, iv (p1 &&& (2147483647 : Int32)), .val (.long (own_tri (p1 &&& (2147483647 : Int32)))), .second, iv 0, iv 0, iv 0, .val (.long (((p1 &&& (2147483647 : Int32)).toInt64) + q3)), .second, .val (.long ((own_tri (p1 &&& (2147483647 : Int32))) + q4)), .second, .val (.long q5), .second, .unset, .unset] [(.ref b5)]))
        refine o_dup X5 hx (hb hby at_106) rfl ?_
        refine o_iload X5 hx (hb hby at_107) rfl ?_
        refine o_lloadN X5 hx (hb hby at_109) rfl ?_
        refine o_lload X5 hx (hb hby at_110) rfl ?_
        refine o_lload X5 hx (hb hby at_112) rfl ?_
        refine o_lload X5 hx (hb hby at_114) rfl ?_
        have Zs7 : n0 ≤ h5.size := (Nat.le_trans Z0 E5.1)
        obtain ⟨_, _, ⟨T6, L6, k6, n6⟩, -, X6, ⟨Lc6, hQ6, l6, y6, z6⟩, st6⟩ := X5.specialBack hx (y := (⟨"headway/bench/Transfer$Outcome", "<init>", "(IJJJJ)V"⟩ : MethodName)) rfl hown (mvT hZ (hw _ (List.mem_of_getElem? (i := 8) rfl))) (mvT hZ (hw _ (List.mem_of_getElem? (i := 9) rfl))) (mvT hZ (hw _ (List.mem_of_getElem? (i := 10) rfl))) (by decide) (backOf (W := 1) (rm2 l Z a0 hw [] b5 (p1 &&& (2147483647 : Int32)) q2 (((p1 &&& (2147483647 : Int32)).toInt64) + q3) ((own_tri (p1 &&& (2147483647 : Int32))) + q4) q5  h5 n0 Zs7 A5 gg5 Fi5_elements Fi5_nanos Fi5_received Fi5_sum Fi5_outOfOrder) hZ (hw _ (List.mem_of_getElem? (i := 10) rfl)) (hw _ (List.mem_of_getElem? (i := 7) rfl)) (by decide) (by decide)) (g := (mkF m 116 #[iv p1, .val (.long q2), .second, .val (.long q3), .second, .val (.long q4), .second, .val (.long q5), .second, iv p6, iv (p1 &&& (2147483647 : Int32)), .val (.long (own_tri (p1 &&& (2147483647 : Int32)))), .second, iv 0, iv 0, iv 0, .val (.long (((p1 &&& (2147483647 : Int32)).toInt64) + q3)), .second, .val (.long ((own_tri (p1 &&& (2147483647 : Int32))) + q4)), .second, .val (.long q5), .second, .unset, .unset] [(.long q5), (.long ((own_tri (p1 &&& (2147483647 : Int32))) + q4)), (.long (((p1 &&& (2147483647 : Int32)).toInt64) + q3)), (.long q2), (.int (p1 &&& (2147483647 : Int32))), (.ref b5), (.ref b5)])) rfl (by rw [hml]; rfl) (Steps.refl _) (a := b5) (argsL := [(.int (p1 &&& (2147483647 : Int32))), (.long q2), (.long (((p1 &&& (2147483647 : Int32)).toInt64) + q3)), (.long ((own_tri (p1 &&& (2147483647 : Int32))) + q4)), (.long q5)]) (rest := [(.ref b5)]) (lenOf pd_3 rfl) rfl (by show 2 * 0 + _ ≤ _; exact Nat.le_of_eq rfl) (hb hby at_116) (fun _ _ => ⟨rfl, e5, (by decide : 1 + 0 ≤ _), (by decide : 5 + 0 ≤ _)⟩)
        dsimp only [Pt.U, Pt.locs, Pt.cells, Pt.slots] at X6 l6 y6 z6 st6 hQ6
        subst l6 y6 z6
        obtain ⟨rfl, Nq6, K6, Fq6_0, Fq6_1, Fq6_2, Fq6_3, Fq6_4⟩ := hQ6
        have N6 := Fr.app N1 Nq6
        refine own_tr st6 ?_
        show own_Go _ _ _ _ (T6.setTop (mkF m 119 #[iv p1, .val (.long q2), .second, .val (.long q3), .second, .val (.long q4), .second, .val (.long q5), .second, iv p6, iv (p1 &&& (2147483647 : Int32)), .val (.long (own_tri (p1 &&& (2147483647 : Int32)))), .second, iv 0, iv 0, iv 0, .val (.long (((p1 &&& (2147483647 : Int32)).toInt64) + q3)), .second, .val (.long ((own_tri (p1 &&& (2147483647 : Int32))) + q4)), .second, .val (.long q5), .second, .unset, .unset] [(.ref b5)]))
        refine o_astore X6 hx (hb hby at_119) rfl (l' := #[iv p1, .val (.long q2), .second, .val (.long q3), .second, .val (.long q4), .second, .val (.long q5), .second, iv p6, iv (p1 &&& (2147483647 : Int32)), .val (.long (own_tri (p1 &&& (2147483647 : Int32)))), .second, iv 0, iv 0, iv 0, .val (.long (((p1 &&& (2147483647 : Int32)).toInt64) + q3)), .second, .val (.long ((own_tri (p1 &&& (2147483647 : Int32))) + q4)), .second, .val (.long q5), .second, rv b5, .unset]) rfl ?_
        refine o_iload X6 hx (hb hby at_121) rfl ?_
        refine o_ifNo X6 hx (hb hby at_123) (teq (by decide : (0 : Int32) = (0 : Int32))).2 ?_
        refine o_lloadN X6 hx (hb hby at_126) rfl ?_
        refine o_lconst X6 hx 0 (hb hby at_127) rfl ?_
        refine o_lcmp X6 hx (hb hby at_128) ?_
        by_cases hc129_8 : (lcmpW q3 (0 : Int64)) = (0 : Int32)
        · refine o_ifNo X6 hx (hb hby at_129) (teq hc129_8).2 ?_
          refine o_iload X6 hx (hb hby at_132) rfl ?_
          refine o_ifNo X6 hx (hb hby at_134) (teq (by decide : (0 : Int32) = (0 : Int32))).2 ?_
          refine o_lload X6 hx (hb hby at_137) rfl ?_
          refine o_lconst X6 hx 0 (hb hby at_139) rfl ?_
          refine o_lcmp X6 hx (hb hby at_140) ?_
          by_cases hc141_9 : (lcmpW q4 (0 : Int64)) = (0 : Int32)
          · refine o_ifNo X6 hx (hb hby at_141) (teq hc141_9).2 ?_
            refine o_iload X6 hx (hb hby at_144) rfl ?_
            refine o_ifNo X6 hx (hb hby at_146) (teq (by decide : (0 : Int32) = (0 : Int32))).2 ?_
            refine o_lload X6 hx (hb hby at_149) rfl ?_
            refine o_lconst X6 hx 0 (hb hby at_151) rfl ?_
            refine o_lcmp X6 hx (hb hby at_152) ?_
            by_cases hc153_10 : (lcmpW q5 (0 : Int64)) = (0 : Int32)
            · refine o_ifNo X6 hx (hb hby at_153) (teq hc153_10).2 ?_
              refine o_iconst X6 hx 1 (hb hby at_156) rfl ?_
              refine o_goto X6 hx (pc' := 161) (hb hby at_157) (by decide) (by decide) ?_
              refine o_istore X6 hx (hb hby at_161) (l' := #[iv p1, .val (.long q2), .second, .val (.long q3), .second, .val (.long q4), .second, .val (.long q5), .second, iv p6, iv (p1 &&& (2147483647 : Int32)), .val (.long (own_tri (p1 &&& (2147483647 : Int32)))), .second, iv 0, iv 0, iv 0, .val (.long (((p1 &&& (2147483647 : Int32)).toInt64) + q3)), .second, .val (.long ((own_tri (p1 &&& (2147483647 : Int32))) + q4)), .second, .val (.long q5), .second, rv b5, iv 1]) rfl ?_
              refine o_aload X6 hx (hb hby at_163) rfl rfl ?_
              have Zs12 : n0 ≤ T6.heap.size := (Nat.le_trans Zs7 K6.1)
              have Fa13 := (A5.keep K6)
              obtain ⟨cq11, kq11, q11a, q11b, q11c⟩ := isOf hZ rfl Fa13
              obtain ⟨_, _, ⟨T11, L11, k11, n11⟩, -, X11, ⟨Lc11, hQ11, l11, y11, z11⟩, st11⟩ := X6.virtualBack hx (y := (⟨"headway/bench/Transfer$Outcome", "verified", "()Z"⟩ : MethodName)) (z := (⟨"headway/bench/Transfer$Outcome", "verified", "()Z"⟩ : MethodName)) hown (mvT hZ (hw _ (List.mem_of_getElem? (i := 29) rfl))) (mvT hZ (hw _ (List.mem_of_getElem? (i := 30) rfl))) (notFace_of_selects (args := #[]) (mvT hZ (hw _ (List.mem_of_getElem? (i := 32) rfl)))) (mvT hZ (hw _ (List.mem_of_getElem? (i := 32) rfl))) (mvT hZ (hw _ (List.mem_of_getElem? (i := 31) rfl))) (by decide) (backOf (W := 0) (rm5 l Z a0 hw [] b5 (p1 &&& (2147483647 : Int32)) (((p1 &&& (2147483647 : Int32)).toInt64) + q3) ((own_tri (p1 &&& (2147483647 : Int32))) + q4) q5 T6.heap n0 Zs12 Fq6_0 Fq6_2 Fq6_3 Fq6_4) hZ (hw _ (List.mem_of_getElem? (i := 33) rfl)) (hw _ (List.mem_of_getElem? (i := 7) rfl)) (by decide) (by decide)) q11a q11c (g := (mkF m 165 #[iv p1, .val (.long q2), .second, .val (.long q3), .second, .val (.long q4), .second, .val (.long q5), .second, iv p6, iv (p1 &&& (2147483647 : Int32)), .val (.long (own_tri (p1 &&& (2147483647 : Int32)))), .second, iv 0, iv 0, iv 0, .val (.long (((p1 &&& (2147483647 : Int32)).toInt64) + q3)), .second, .val (.long ((own_tri (p1 &&& (2147483647 : Int32))) + q4)), .second, .val (.long q5), .second, rv b5, iv 1] [(.ref b5)])) rfl (by rw [hml]; rfl) (Steps.refl _) (argsL := []) (rest := []) (lenOf pd_4 rfl) rfl (by show 2 * 0 + _ ≤ _; exact Nat.le_of_eq rfl) (hb hby at_165) (fun _ _ => ⟨rfl, rfl, (by decide : 1 + 0 ≤ _), (by decide : 5 + 0 ≤ _)⟩)
              dsimp only [Pt.U, Pt.locs, Pt.cells, Pt.slots] at X11 l11 y11 z11 st11 hQ11
              subst l11 y11 z11
              obtain ⟨rfl, Nq11, e11⟩ := hQ11
              have N11 := Fr.app N6 Nq11
              refine own_tr st11 ?_
              show own_Go _ _ _ _ (T11.setTop (mkF m 168 #[iv p1, .val (.long q2), .second, .val (.long q3), .second, .val (.long q4), .second, .val (.long q5), .second, iv p6, iv (p1 &&& (2147483647 : Int32)), .val (.long (own_tri (p1 &&& (2147483647 : Int32)))), .second, iv 0, iv 0, iv 0, .val (.long (((p1 &&& (2147483647 : Int32)).toInt64) + q3)), .second, .val (.long ((own_tri (p1 &&& (2147483647 : Int32))) + q4)), .second, .val (.long q5), .second, rv b5, iv 1] [(.int (own_ver (p1 &&& (2147483647 : Int32)) (((p1 &&& (2147483647 : Int32)).toInt64) + q3) ((own_tri (p1 &&& (2147483647 : Int32))) + q4) q5))]))
              refine o_iload X11 hx (hb hby at_168) rfl ?_
              refine o_icmpNo X11 hx (hb hby at_170) (teq (own_verT (own_and0 p1) (own_addT hc129_8) (own_addT hc141_9) ((lw_eq _ _).mp hc153_10))).2 ?_
              refine o_iconst X11 hx 1 (hb hby at_173) rfl ?_
              refine o_goto X11 hx (pc' := 178) (hb hby at_174) (by decide) (by decide) ?_
              have Kp14 : Keep h0 T6.heap [] := (((Keep.refl h0 []).ext E5).trans K6 (allS (Or.inr sz5) all0))
              exact own_end X11 e11 (v := some (.int (1 : Int32))) (fun h => by rw [Bd.returns] at h; cases h) hlk (fun fs hr => retN X11 hx (z := (1 : Int32)) (t := .boolean) Bd.returns (by simp) (hb hby at_178) hr) (Q := Q_rm0 Z a0 p1 q2 q3 q4 q5 p6 h0 n0) ⟨rfl, N11, Kp14⟩ (by decide) (by decide)
            · refine o_ifYes X6 hx (pc' := 160) (hb hby at_153) (feq hc153_10).2 (by decide) (by decide) ?_
              refine o_iconst X6 hx 0 (hb hby at_160) rfl ?_
              refine o_istore X6 hx (hb hby at_161) (l' := #[iv p1, .val (.long q2), .second, .val (.long q3), .second, .val (.long q4), .second, .val (.long q5), .second, iv p6, iv (p1 &&& (2147483647 : Int32)), .val (.long (own_tri (p1 &&& (2147483647 : Int32)))), .second, iv 0, iv 0, iv 0, .val (.long (((p1 &&& (2147483647 : Int32)).toInt64) + q3)), .second, .val (.long ((own_tri (p1 &&& (2147483647 : Int32))) + q4)), .second, .val (.long q5), .second, rv b5, iv 0]) rfl ?_
              refine o_aload X6 hx (hb hby at_163) rfl rfl ?_
              have Zs16 : n0 ≤ T6.heap.size := (Nat.le_trans Zs7 K6.1)
              have Fa17 := (A5.keep K6)
              obtain ⟨cq15, kq15, q15a, q15b, q15c⟩ := isOf hZ rfl Fa17
              obtain ⟨_, _, ⟨T15, L15, k15, n15⟩, -, X15, ⟨Lc15, hQ15, l15, y15, z15⟩, st15⟩ := X6.virtualBack hx (y := (⟨"headway/bench/Transfer$Outcome", "verified", "()Z"⟩ : MethodName)) (z := (⟨"headway/bench/Transfer$Outcome", "verified", "()Z"⟩ : MethodName)) hown (mvT hZ (hw _ (List.mem_of_getElem? (i := 29) rfl))) (mvT hZ (hw _ (List.mem_of_getElem? (i := 30) rfl))) (notFace_of_selects (args := #[]) (mvT hZ (hw _ (List.mem_of_getElem? (i := 32) rfl)))) (mvT hZ (hw _ (List.mem_of_getElem? (i := 32) rfl))) (mvT hZ (hw _ (List.mem_of_getElem? (i := 31) rfl))) (by decide) (backOf (W := 0) (rm5 l Z a0 hw [] b5 (p1 &&& (2147483647 : Int32)) (((p1 &&& (2147483647 : Int32)).toInt64) + q3) ((own_tri (p1 &&& (2147483647 : Int32))) + q4) q5 T6.heap n0 Zs16 Fq6_0 Fq6_2 Fq6_3 Fq6_4) hZ (hw _ (List.mem_of_getElem? (i := 33) rfl)) (hw _ (List.mem_of_getElem? (i := 7) rfl)) (by decide) (by decide)) q15a q15c (g := (mkF m 165 #[iv p1, .val (.long q2), .second, .val (.long q3), .second, .val (.long q4), .second, .val (.long q5), .second, iv p6, iv (p1 &&& (2147483647 : Int32)), .val (.long (own_tri (p1 &&& (2147483647 : Int32)))), .second, iv 0, iv 0, iv 0, .val (.long (((p1 &&& (2147483647 : Int32)).toInt64) + q3)), .second, .val (.long ((own_tri (p1 &&& (2147483647 : Int32))) + q4)), .second, .val (.long q5), .second, rv b5, iv 0] [(.ref b5)])) rfl (by rw [hml]; rfl) (Steps.refl _) (argsL := []) (rest := []) (lenOf pd_4 rfl) rfl (by show 2 * 0 + _ ≤ _; exact Nat.le_of_eq rfl) (hb hby at_165) (fun _ _ => ⟨rfl, rfl, (by decide : 1 + 0 ≤ _), (by decide : 5 + 0 ≤ _)⟩)
              dsimp only [Pt.U, Pt.locs, Pt.cells, Pt.slots] at X15 l15 y15 z15 st15 hQ15
              subst l15 y15 z15
              obtain ⟨rfl, Nq15, e15⟩ := hQ15
              have N15 := Fr.app N6 Nq15
              refine own_tr st15 ?_
              show own_Go _ _ _ _ (T15.setTop (mkF m 168 #[iv p1, .val (.long q2), .second, .val (.long q3), .second, .val (.long q4), .second, .val (.long q5), .second, iv p6, iv (p1 &&& (2147483647 : Int32)), .val (.long (own_tri (p1 &&& (2147483647 : Int32)))), .second, iv 0, iv 0, iv 0, .val (.long (((p1 &&& (2147483647 : Int32)).toInt64) + q3)), .second, .val (.long ((own_tri (p1 &&& (2147483647 : Int32))) + q4)), .second, .val (.long q5), .second, rv b5, iv 0] [(.int (own_ver (p1 &&& (2147483647 : Int32)) (((p1 &&& (2147483647 : Int32)).toInt64) + q3) ((own_tri (p1 &&& (2147483647 : Int32))) + q4) q5))]))
              refine o_iload X15 hx (hb hby at_168) rfl ?_
              refine o_icmpNo X15 hx (hb hby at_170) (teq (own_verF3 hc153_10)).2 ?_
              refine o_iconst X15 hx 1 (hb hby at_173) rfl ?_
              refine o_goto X15 hx (pc' := 178) (hb hby at_174) (by decide) (by decide) ?_
              have Kp18 : Keep h0 T6.heap [] := (((Keep.refl h0 []).ext E5).trans K6 (allS (Or.inr sz5) all0))
              exact own_end X15 e15 (v := some (.int (1 : Int32))) (fun h => by rw [Bd.returns] at h; cases h) hlk (fun fs hr => retN X15 hx (z := (1 : Int32)) (t := .boolean) Bd.returns (by simp) (hb hby at_178) hr) (Q := Q_rm0 Z a0 p1 q2 q3 q4 q5 p6 h0 n0) ⟨rfl, N15, Kp18⟩ (by decide) (by decide)
          · refine o_ifYes X6 hx (pc' := 160) (hb hby at_141) (feq hc141_9).2 (by decide) (by decide) ?_
            refine o_iconst X6 hx 0 (hb hby at_160) rfl ?_
            refine o_istore X6 hx (hb hby at_161) (l' := #[iv p1, .val (.long q2), .second, .val (.long q3), .second, .val (.long q4), .second, .val (.long q5), .second, iv p6, iv (p1 &&& (2147483647 : Int32)), .val (.long (own_tri (p1 &&& (2147483647 : Int32)))), .second, iv 0, iv 0, iv 0, .val (.long (((p1 &&& (2147483647 : Int32)).toInt64) + q3)), .second, .val (.long ((own_tri (p1 &&& (2147483647 : Int32))) + q4)), .second, .val (.long q5), .second, rv b5, iv 0]) rfl ?_
            refine o_aload X6 hx (hb hby at_163) rfl rfl ?_
            have Zs20 : n0 ≤ T6.heap.size := (Nat.le_trans Zs7 K6.1)
            have Fa21 := (A5.keep K6)
            obtain ⟨cq19, kq19, q19a, q19b, q19c⟩ := isOf hZ rfl Fa21
            obtain ⟨_, _, ⟨T19, L19, k19, n19⟩, -, X19, ⟨Lc19, hQ19, l19, y19, z19⟩, st19⟩ := X6.virtualBack hx (y := (⟨"headway/bench/Transfer$Outcome", "verified", "()Z"⟩ : MethodName)) (z := (⟨"headway/bench/Transfer$Outcome", "verified", "()Z"⟩ : MethodName)) hown (mvT hZ (hw _ (List.mem_of_getElem? (i := 29) rfl))) (mvT hZ (hw _ (List.mem_of_getElem? (i := 30) rfl))) (notFace_of_selects (args := #[]) (mvT hZ (hw _ (List.mem_of_getElem? (i := 32) rfl)))) (mvT hZ (hw _ (List.mem_of_getElem? (i := 32) rfl))) (mvT hZ (hw _ (List.mem_of_getElem? (i := 31) rfl))) (by decide) (backOf (W := 0) (rm5 l Z a0 hw [] b5 (p1 &&& (2147483647 : Int32)) (((p1 &&& (2147483647 : Int32)).toInt64) + q3) ((own_tri (p1 &&& (2147483647 : Int32))) + q4) q5 T6.heap n0 Zs20 Fq6_0 Fq6_2 Fq6_3 Fq6_4) hZ (hw _ (List.mem_of_getElem? (i := 33) rfl)) (hw _ (List.mem_of_getElem? (i := 7) rfl)) (by decide) (by decide)) q19a q19c (g := (mkF m 165 #[iv p1, .val (.long q2), .second, .val (.long q3), .second, .val (.long q4), .second, .val (.long q5), .second, iv p6, iv (p1 &&& (2147483647 : Int32)), .val (.long (own_tri (p1 &&& (2147483647 : Int32)))), .second, iv 0, iv 0, iv 0, .val (.long (((p1 &&& (2147483647 : Int32)).toInt64) + q3)), .second, .val (.long ((own_tri (p1 &&& (2147483647 : Int32))) + q4)), .second, .val (.long q5), .second, rv b5, iv 0] [(.ref b5)])) rfl (by rw [hml]; rfl) (Steps.refl _) (argsL := []) (rest := []) (lenOf pd_4 rfl) rfl (by show 2 * 0 + _ ≤ _; exact Nat.le_of_eq rfl) (hb hby at_165) (fun _ _ => ⟨rfl, rfl, (by decide : 1 + 0 ≤ _), (by decide : 5 + 0 ≤ _)⟩)
            dsimp only [Pt.U, Pt.locs, Pt.cells, Pt.slots] at X19 l19 y19 z19 st19 hQ19
            subst l19 y19 z19
            obtain ⟨rfl, Nq19, e19⟩ := hQ19
            have N19 := Fr.app N6 Nq19
            refine own_tr st19 ?_
            show own_Go _ _ _ _ (T19.setTop (mkF m 168 #[iv p1, .val (.long q2), .second, .val (.long q3), .second, .val (.long q4), .second, .val (.long q5), .second, iv p6, iv (p1 &&& (2147483647 : Int32)), .val (.long (own_tri (p1 &&& (2147483647 : Int32)))), .second, iv 0, iv 0, iv 0, .val (.long (((p1 &&& (2147483647 : Int32)).toInt64) + q3)), .second, .val (.long ((own_tri (p1 &&& (2147483647 : Int32))) + q4)), .second, .val (.long q5), .second, rv b5, iv 0] [(.int (own_ver (p1 &&& (2147483647 : Int32)) (((p1 &&& (2147483647 : Int32)).toInt64) + q3) ((own_tri (p1 &&& (2147483647 : Int32))) + q4) q5))]))
            refine o_iload X19 hx (hb hby at_168) rfl ?_
            refine o_icmpNo X19 hx (hb hby at_170) (teq (own_verF2 (own_and0 p1) (own_addF hc141_9))).2 ?_
            refine o_iconst X19 hx 1 (hb hby at_173) rfl ?_
            refine o_goto X19 hx (pc' := 178) (hb hby at_174) (by decide) (by decide) ?_
            have Kp22 : Keep h0 T6.heap [] := (((Keep.refl h0 []).ext E5).trans K6 (allS (Or.inr sz5) all0))
            exact own_end X19 e19 (v := some (.int (1 : Int32))) (fun h => by rw [Bd.returns] at h; cases h) hlk (fun fs hr => retN X19 hx (z := (1 : Int32)) (t := .boolean) Bd.returns (by simp) (hb hby at_178) hr) (Q := Q_rm0 Z a0 p1 q2 q3 q4 q5 p6 h0 n0) ⟨rfl, N19, Kp22⟩ (by decide) (by decide)
        · refine o_ifYes X6 hx (pc' := 160) (hb hby at_129) (feq hc129_8).2 (by decide) (by decide) ?_
          refine o_iconst X6 hx 0 (hb hby at_160) rfl ?_
          refine o_istore X6 hx (hb hby at_161) (l' := #[iv p1, .val (.long q2), .second, .val (.long q3), .second, .val (.long q4), .second, .val (.long q5), .second, iv p6, iv (p1 &&& (2147483647 : Int32)), .val (.long (own_tri (p1 &&& (2147483647 : Int32)))), .second, iv 0, iv 0, iv 0, .val (.long (((p1 &&& (2147483647 : Int32)).toInt64) + q3)), .second, .val (.long ((own_tri (p1 &&& (2147483647 : Int32))) + q4)), .second, .val (.long q5), .second, rv b5, iv 0]) rfl ?_
          refine o_aload X6 hx (hb hby at_163) rfl rfl ?_
          have Zs24 : n0 ≤ T6.heap.size := (Nat.le_trans Zs7 K6.1)
          have Fa25 := (A5.keep K6)
          obtain ⟨cq23, kq23, q23a, q23b, q23c⟩ := isOf hZ rfl Fa25
          obtain ⟨_, _, ⟨T23, L23, k23, n23⟩, -, X23, ⟨Lc23, hQ23, l23, y23, z23⟩, st23⟩ := X6.virtualBack hx (y := (⟨"headway/bench/Transfer$Outcome", "verified", "()Z"⟩ : MethodName)) (z := (⟨"headway/bench/Transfer$Outcome", "verified", "()Z"⟩ : MethodName)) hown (mvT hZ (hw _ (List.mem_of_getElem? (i := 29) rfl))) (mvT hZ (hw _ (List.mem_of_getElem? (i := 30) rfl))) (notFace_of_selects (args := #[]) (mvT hZ (hw _ (List.mem_of_getElem? (i := 32) rfl)))) (mvT hZ (hw _ (List.mem_of_getElem? (i := 32) rfl))) (mvT hZ (hw _ (List.mem_of_getElem? (i := 31) rfl))) (by decide) (backOf (W := 0) (rm5 l Z a0 hw [] b5 (p1 &&& (2147483647 : Int32)) (((p1 &&& (2147483647 : Int32)).toInt64) + q3) ((own_tri (p1 &&& (2147483647 : Int32))) + q4) q5 T6.heap n0 Zs24 Fq6_0 Fq6_2 Fq6_3 Fq6_4) hZ (hw _ (List.mem_of_getElem? (i := 33) rfl)) (hw _ (List.mem_of_getElem? (i := 7) rfl)) (by decide) (by decide)) q23a q23c (g := (mkF m 165 #[iv p1, .val (.long q2), .second, .val (.long q3), .second, .val (.long q4), .second, .val (.long q5), .second, iv p6, iv (p1 &&& (2147483647 : Int32)), .val (.long (own_tri (p1 &&& (2147483647 : Int32)))), .second, iv 0, iv 0, iv 0, .val (.long (((p1 &&& (2147483647 : Int32)).toInt64) + q3)), .second, .val (.long ((own_tri (p1 &&& (2147483647 : Int32))) + q4)), .second, .val (.long q5), .second, rv b5, iv 0] [(.ref b5)])) rfl (by rw [hml]; rfl) (Steps.refl _) (argsL := []) (rest := []) (lenOf pd_4 rfl) rfl (by show 2 * 0 + _ ≤ _; exact Nat.le_of_eq rfl) (hb hby at_165) (fun _ _ => ⟨rfl, rfl, (by decide : 1 + 0 ≤ _), (by decide : 5 + 0 ≤ _)⟩)
          dsimp only [Pt.U, Pt.locs, Pt.cells, Pt.slots] at X23 l23 y23 z23 st23 hQ23
          subst l23 y23 z23
          obtain ⟨rfl, Nq23, e23⟩ := hQ23
          have N23 := Fr.app N6 Nq23
          refine own_tr st23 ?_
          show own_Go _ _ _ _ (T23.setTop (mkF m 168 #[iv p1, .val (.long q2), .second, .val (.long q3), .second, .val (.long q4), .second, .val (.long q5), .second, iv p6, iv (p1 &&& (2147483647 : Int32)), .val (.long (own_tri (p1 &&& (2147483647 : Int32)))), .second, iv 0, iv 0, iv 0, .val (.long (((p1 &&& (2147483647 : Int32)).toInt64) + q3)), .second, .val (.long ((own_tri (p1 &&& (2147483647 : Int32))) + q4)), .second, .val (.long q5), .second, rv b5, iv 0] [(.int (own_ver (p1 &&& (2147483647 : Int32)) (((p1 &&& (2147483647 : Int32)).toInt64) + q3) ((own_tri (p1 &&& (2147483647 : Int32))) + q4) q5))]))
          refine o_iload X23 hx (hb hby at_168) rfl ?_
          refine o_icmpNo X23 hx (hb hby at_170) (teq (own_verF1 (own_addF hc129_8))).2 ?_
          refine o_iconst X23 hx 1 (hb hby at_173) rfl ?_
          refine o_goto X23 hx (pc' := 178) (hb hby at_174) (by decide) (by decide) ?_
          have Kp26 : Keep h0 T6.heap [] := (((Keep.refl h0 []).ext E5).trans K6 (allS (Or.inr sz5) all0))
          exact own_end X23 e23 (v := some (.int (1 : Int32))) (fun h => by rw [Bd.returns] at h; cases h) hlk (fun fs hr => retN X23 hx (z := (1 : Int32)) (t := .boolean) Bd.returns (by simp) (hb hby at_178) hr) (Q := Q_rm0 Z a0 p1 q2 q3 q4 q5 p6 h0 n0) ⟨rfl, N23, Kp26⟩ (by decide) (by decide)
      · refine o_ifNo X1 hx (hb hby at_45) (feq hc45_4).1 ?_
        refine o_iconst X1 hx 1 (hb hby at_48) rfl ?_
        refine o_goto X1 hx (pc' := 53) (hb hby at_49) (by decide) (by decide) ?_
        refine o_istore X1 hx (hb hby at_53) (l' := #[iv p1, .val (.long q2), .second, .val (.long q3), .second, .val (.long q4), .second, .val (.long q5), .second, iv p6, iv (p1 &&& (2147483647 : Int32)), .val (.long (own_tri (p1 &&& (2147483647 : Int32)))), .second, iv 0, iv 0, iv 1, .unset, .unset, .unset, .unset, .unset, .unset, .unset, .unset]) rfl ?_
        refine o_iload X1 hx (hb hby at_55) rfl ?_
        refine o_ifYes X1 hx (pc' := 66) (hb hby at_57) (teq (by decide : (0 : Int32) = (0 : Int32))).1 (by decide) (by decide) ?_
        refine o_iload X1 hx (hb hby at_66) rfl ?_
        refine o_i2l X1 hx (hb hby at_68) ?_
        refine o_lloadN X1 hx (hb hby at_69) rfl ?_
        refine o_ladd X1 hx (hb hby at_70) ?_
        refine o_lstore X1 hx (hb hby at_71) (l' := #[iv p1, .val (.long q2), .second, .val (.long q3), .second, .val (.long q4), .second, .val (.long q5), .second, iv p6, iv (p1 &&& (2147483647 : Int32)), .val (.long (own_tri (p1 &&& (2147483647 : Int32)))), .second, iv 0, iv 0, iv 1, .val (.long (((p1 &&& (2147483647 : Int32)).toInt64) + q3)), .second, .unset, .unset, .unset, .unset, .unset, .unset]) rfl ?_
        refine o_iload X1 hx (hb hby at_73) rfl ?_
        refine o_ifYes X1 hx (pc' := 83) (hb hby at_75) (teq (by decide : (0 : Int32) = (0 : Int32))).1 (by decide) (by decide) ?_
        refine o_lload X1 hx (hb hby at_83) rfl ?_
        refine o_lload X1 hx (hb hby at_85) rfl ?_
        refine o_ladd X1 hx (hb hby at_87) ?_
        refine o_lstore X1 hx (hb hby at_88) (l' := #[iv p1, .val (.long q2), .second, .val (.long q3), .second, .val (.long q4), .second, .val (.long q5), .second, iv p6, iv (p1 &&& (2147483647 : Int32)), .val (.long (own_tri (p1 &&& (2147483647 : Int32)))), .second, iv 0, iv 0, iv 1, .val (.long (((p1 &&& (2147483647 : Int32)).toInt64) + q3)), .second, .val (.long ((own_tri (p1 &&& (2147483647 : Int32))) + q4)), .second, .unset, .unset, .unset, .unset]) rfl ?_
        refine o_iload X1 hx (hb hby at_90) rfl ?_
        refine o_ifNo X1 hx (hb hby at_92) (feq (by decide : ¬ ((1 : Int32) = (0 : Int32)))).1 ?_
        refine o_lconst X1 hx 0 (hb hby at_95) rfl ?_
        refine o_goto X1 hx (pc' := 101) (hb hby at_96) (by decide) (by decide) ?_
        refine o_lstore X1 hx (hb hby at_101) (l' := #[iv p1, .val (.long q2), .second, .val (.long q3), .second, .val (.long q4), .second, .val (.long q5), .second, iv p6, iv (p1 &&& (2147483647 : Int32)), .val (.long (own_tri (p1 &&& (2147483647 : Int32)))), .second, iv 0, iv 0, iv 1, .val (.long (((p1 &&& (2147483647 : Int32)).toInt64) + q3)), .second, .val (.long ((own_tri (p1 &&& (2147483647 : Int32))) + q4)), .second, .val (.long 0), .second, .unset, .unset]) rfl ?_
        obtain ⟨T27, h27, X27, e27, E27, A27, D27, -, st27⟩ := newO X1 hx hZ hown (hw _ (List.mem_of_getElem? (i := 5) rfl)) (hw _ (List.mem_of_getElem? (i := 6) rfl)) (hw _ (List.mem_of_getElem? (i := 7) rfl)) e1 (g := (mkF m 103 #[iv p1, .val (.long q2), .second, .val (.long q3), .second, .val (.long q4), .second, .val (.long q5), .second, iv p6, iv (p1 &&& (2147483647 : Int32)), .val (.long (own_tri (p1 &&& (2147483647 : Int32)))), .second, iv 0, iv 0, iv 1, .val (.long (((p1 &&& (2147483647 : Int32)).toInt64) + q3)), .second, .val (.long ((own_tri (p1 &&& (2147483647 : Int32))) + q4)), .second, .val (.long 0), .second, .unset, .unset] [])) rfl (hb hby at_103) (by decide) (by decide)
        obtain ⟨b27, g27⟩ : ∃ z, z = h0.size := ⟨_, rfl⟩
        rw [← g27] at A27 D27 st27
        have gg27 : n0 ≤ b27 := Nat.le_trans Z0 (Nat.le_of_eq g27.symm)
        have sz27 : h0.size ≤ b27 := Nat.le_trans (Keep.refl h0 []).1 (Nat.le_of_eq g27.symm)
        have Fi27_elements : Fld Z h27 b27 "headway/bench/Transfer$Outcome" "elements" "I" (.int (0 : Int32)) := D27 (Or.inr (hw _ (List.mem_of_getElem? (i := 20) rfl))) (ty := .int) (by decide)
        have Fi27_nanos : Fld Z h27 b27 "headway/bench/Transfer$Outcome" "nanos" "J" (.long (0 : Int64)) := D27 (Or.inr (hw _ (List.mem_of_getElem? (i := 22) rfl))) (ty := .long) (by decide)
        have Fi27_received : Fld Z h27 b27 "headway/bench/Transfer$Outcome" "received" "J" (.long (0 : Int64)) := D27 (Or.inr (hw _ (List.mem_of_getElem? (i := 24) rfl))) (ty := .long) (by decide)
        have Fi27_sum : Fld Z h27 b27 "headway/bench/Transfer$Outcome" "sum" "J" (.long (0 : Int64)) := D27 (Or.inr (hw _ (List.mem_of_getElem? (i := 26) rfl))) (ty := .long) (by decide)
        have Fi27_outOfOrder : Fld Z h27 b27 "headway/bench/Transfer$Outcome" "outOfOrder" "J" (.long (0 : Int64)) := D27 (Or.inr (hw _ (List.mem_of_getElem? (i := 28) rfl))) (ty := .long) (by decide)
        refine own_st st27 ?_
        show own_Go _ _ _ _ (T27.setTop (mkF m 106 #[iv p1, .val (.long q2), .second, .val (.long q3), .second, .val (.long q4), .second, .val (.long q5), .second, iv p6, iv (p1 &&& (2147483647 : Int32)), .val (.long (own_tri (p1 &&& (2147483647 : Int32)))), .second, iv 0, iv 0, iv 1, .val (.long (((p1 &&& (2147483647 : Int32)).toInt64) + q3)), .second, .val (.long ((own_tri (p1 &&& (2147483647 : Int32))) + q4)), .second, .val (.long 0), .second, .unset, .unset] [(.ref b27)]))
        refine o_dup X27 hx (hb hby at_106) rfl ?_
        refine o_iload X27 hx (hb hby at_107) rfl ?_
        refine o_lloadN X27 hx (hb hby at_109) rfl ?_
        refine o_lload X27 hx (hb hby at_110) rfl ?_
        refine o_lload X27 hx (hb hby at_112) rfl ?_
        refine o_lload X27 hx (hb hby at_114) rfl ?_
        have Zs29 : n0 ≤ h27.size := (Nat.le_trans Z0 E27.1)
        obtain ⟨_, _, ⟨T28, L28, k28, n28⟩, -, X28, ⟨Lc28, hQ28, l28, y28, z28⟩, st28⟩ := X27.specialBack hx (y := (⟨"headway/bench/Transfer$Outcome", "<init>", "(IJJJJ)V"⟩ : MethodName)) rfl hown (mvT hZ (hw _ (List.mem_of_getElem? (i := 8) rfl))) (mvT hZ (hw _ (List.mem_of_getElem? (i := 9) rfl))) (mvT hZ (hw _ (List.mem_of_getElem? (i := 10) rfl))) (by decide) (backOf (W := 1) (rm2 l Z a0 hw [] b27 (p1 &&& (2147483647 : Int32)) q2 (((p1 &&& (2147483647 : Int32)).toInt64) + q3) ((own_tri (p1 &&& (2147483647 : Int32))) + q4) (0 : Int64)  h27 n0 Zs29 A27 gg27 Fi27_elements Fi27_nanos Fi27_received Fi27_sum Fi27_outOfOrder) hZ (hw _ (List.mem_of_getElem? (i := 10) rfl)) (hw _ (List.mem_of_getElem? (i := 7) rfl)) (by decide) (by decide)) (g := (mkF m 116 #[iv p1, .val (.long q2), .second, .val (.long q3), .second, .val (.long q4), .second, .val (.long q5), .second, iv p6, iv (p1 &&& (2147483647 : Int32)), .val (.long (own_tri (p1 &&& (2147483647 : Int32)))), .second, iv 0, iv 0, iv 1, .val (.long (((p1 &&& (2147483647 : Int32)).toInt64) + q3)), .second, .val (.long ((own_tri (p1 &&& (2147483647 : Int32))) + q4)), .second, .val (.long 0), .second, .unset, .unset] [(.long 0), (.long ((own_tri (p1 &&& (2147483647 : Int32))) + q4)), (.long (((p1 &&& (2147483647 : Int32)).toInt64) + q3)), (.long q2), (.int (p1 &&& (2147483647 : Int32))), (.ref b27), (.ref b27)])) rfl (by rw [hml]; rfl) (Steps.refl _) (a := b27) (argsL := [(.int (p1 &&& (2147483647 : Int32))), (.long q2), (.long (((p1 &&& (2147483647 : Int32)).toInt64) + q3)), (.long ((own_tri (p1 &&& (2147483647 : Int32))) + q4)), (.long 0)]) (rest := [(.ref b27)]) (lenOf pd_3 rfl) rfl (by show 2 * 0 + _ ≤ _; exact Nat.le_of_eq rfl) (hb hby at_116) (fun _ _ => ⟨rfl, e27, (by decide : 1 + 0 ≤ _), (by decide : 5 + 0 ≤ _)⟩)
        dsimp only [Pt.U, Pt.locs, Pt.cells, Pt.slots] at X28 l28 y28 z28 st28 hQ28
        subst l28 y28 z28
        obtain ⟨rfl, Nq28, K28, Fq28_0, Fq28_1, Fq28_2, Fq28_3, Fq28_4⟩ := hQ28
        have N28 := Fr.app N1 Nq28
        refine own_tr st28 ?_
        show own_Go _ _ _ _ (T28.setTop (mkF m 119 #[iv p1, .val (.long q2), .second, .val (.long q3), .second, .val (.long q4), .second, .val (.long q5), .second, iv p6, iv (p1 &&& (2147483647 : Int32)), .val (.long (own_tri (p1 &&& (2147483647 : Int32)))), .second, iv 0, iv 0, iv 1, .val (.long (((p1 &&& (2147483647 : Int32)).toInt64) + q3)), .second, .val (.long ((own_tri (p1 &&& (2147483647 : Int32))) + q4)), .second, .val (.long 0), .second, .unset, .unset] [(.ref b27)]))
        refine o_astore X28 hx (hb hby at_119) rfl (l' := #[iv p1, .val (.long q2), .second, .val (.long q3), .second, .val (.long q4), .second, .val (.long q5), .second, iv p6, iv (p1 &&& (2147483647 : Int32)), .val (.long (own_tri (p1 &&& (2147483647 : Int32)))), .second, iv 0, iv 0, iv 1, .val (.long (((p1 &&& (2147483647 : Int32)).toInt64) + q3)), .second, .val (.long ((own_tri (p1 &&& (2147483647 : Int32))) + q4)), .second, .val (.long 0), .second, rv b27, .unset]) rfl ?_
        refine o_iload X28 hx (hb hby at_121) rfl ?_
        refine o_ifNo X28 hx (hb hby at_123) (teq (by decide : (0 : Int32) = (0 : Int32))).2 ?_
        refine o_lloadN X28 hx (hb hby at_126) rfl ?_
        refine o_lconst X28 hx 0 (hb hby at_127) rfl ?_
        refine o_lcmp X28 hx (hb hby at_128) ?_
        by_cases hc129_30 : (lcmpW q3 (0 : Int64)) = (0 : Int32)
        · refine o_ifNo X28 hx (hb hby at_129) (teq hc129_30).2 ?_
          refine o_iload X28 hx (hb hby at_132) rfl ?_
          refine o_ifNo X28 hx (hb hby at_134) (teq (by decide : (0 : Int32) = (0 : Int32))).2 ?_
          refine o_lload X28 hx (hb hby at_137) rfl ?_
          refine o_lconst X28 hx 0 (hb hby at_139) rfl ?_
          refine o_lcmp X28 hx (hb hby at_140) ?_
          by_cases hc141_31 : (lcmpW q4 (0 : Int64)) = (0 : Int32)
          · refine o_ifNo X28 hx (hb hby at_141) (teq hc141_31).2 ?_
            refine o_iload X28 hx (hb hby at_144) rfl ?_
            refine o_ifYes X28 hx (pc' := 156) (hb hby at_146) (feq (by decide : ¬ ((1 : Int32) = (0 : Int32)))).2 (by decide) (by decide) ?_
            refine o_iconst X28 hx 1 (hb hby at_156) rfl ?_
            refine o_goto X28 hx (pc' := 161) (hb hby at_157) (by decide) (by decide) ?_
            refine o_istore X28 hx (hb hby at_161) (l' := #[iv p1, .val (.long q2), .second, .val (.long q3), .second, .val (.long q4), .second, .val (.long q5), .second, iv p6, iv (p1 &&& (2147483647 : Int32)), .val (.long (own_tri (p1 &&& (2147483647 : Int32)))), .second, iv 0, iv 0, iv 1, .val (.long (((p1 &&& (2147483647 : Int32)).toInt64) + q3)), .second, .val (.long ((own_tri (p1 &&& (2147483647 : Int32))) + q4)), .second, .val (.long 0), .second, rv b27, iv 1]) rfl ?_
            refine o_aload X28 hx (hb hby at_163) rfl rfl ?_
            have Zs33 : n0 ≤ T28.heap.size := (Nat.le_trans Zs29 K28.1)
            have Fa34 := (A27.keep K28)
            obtain ⟨cq32, kq32, q32a, q32b, q32c⟩ := isOf hZ rfl Fa34
            obtain ⟨_, _, ⟨T32, L32, k32, n32⟩, -, X32, ⟨Lc32, hQ32, l32, y32, z32⟩, st32⟩ := X28.virtualBack hx (y := (⟨"headway/bench/Transfer$Outcome", "verified", "()Z"⟩ : MethodName)) (z := (⟨"headway/bench/Transfer$Outcome", "verified", "()Z"⟩ : MethodName)) hown (mvT hZ (hw _ (List.mem_of_getElem? (i := 29) rfl))) (mvT hZ (hw _ (List.mem_of_getElem? (i := 30) rfl))) (notFace_of_selects (args := #[]) (mvT hZ (hw _ (List.mem_of_getElem? (i := 32) rfl)))) (mvT hZ (hw _ (List.mem_of_getElem? (i := 32) rfl))) (mvT hZ (hw _ (List.mem_of_getElem? (i := 31) rfl))) (by decide) (backOf (W := 0) (rm5 l Z a0 hw [] b27 (p1 &&& (2147483647 : Int32)) (((p1 &&& (2147483647 : Int32)).toInt64) + q3) ((own_tri (p1 &&& (2147483647 : Int32))) + q4) (0 : Int64) T28.heap n0 Zs33 Fq28_0 Fq28_2 Fq28_3 Fq28_4) hZ (hw _ (List.mem_of_getElem? (i := 33) rfl)) (hw _ (List.mem_of_getElem? (i := 7) rfl)) (by decide) (by decide)) q32a q32c (g := (mkF m 165 #[iv p1, .val (.long q2), .second, .val (.long q3), .second, .val (.long q4), .second, .val (.long q5), .second, iv p6, iv (p1 &&& (2147483647 : Int32)), .val (.long (own_tri (p1 &&& (2147483647 : Int32)))), .second, iv 0, iv 0, iv 1, .val (.long (((p1 &&& (2147483647 : Int32)).toInt64) + q3)), .second, .val (.long ((own_tri (p1 &&& (2147483647 : Int32))) + q4)), .second, .val (.long 0), .second, rv b27, iv 1] [(.ref b27)])) rfl (by rw [hml]; rfl) (Steps.refl _) (argsL := []) (rest := []) (lenOf pd_4 rfl) rfl (by show 2 * 0 + _ ≤ _; exact Nat.le_of_eq rfl) (hb hby at_165) (fun _ _ => ⟨rfl, rfl, (by decide : 1 + 0 ≤ _), (by decide : 5 + 0 ≤ _)⟩)
            dsimp only [Pt.U, Pt.locs, Pt.cells, Pt.slots] at X32 l32 y32 z32 st32 hQ32
            subst l32 y32 z32
            obtain ⟨rfl, Nq32, e32⟩ := hQ32
            have N32 := Fr.app N28 Nq32
            refine own_tr st32 ?_
            show own_Go _ _ _ _ (T32.setTop (mkF m 168 #[iv p1, .val (.long q2), .second, .val (.long q3), .second, .val (.long q4), .second, .val (.long q5), .second, iv p6, iv (p1 &&& (2147483647 : Int32)), .val (.long (own_tri (p1 &&& (2147483647 : Int32)))), .second, iv 0, iv 0, iv 1, .val (.long (((p1 &&& (2147483647 : Int32)).toInt64) + q3)), .second, .val (.long ((own_tri (p1 &&& (2147483647 : Int32))) + q4)), .second, .val (.long 0), .second, rv b27, iv 1] [(.int (own_ver (p1 &&& (2147483647 : Int32)) (((p1 &&& (2147483647 : Int32)).toInt64) + q3) ((own_tri (p1 &&& (2147483647 : Int32))) + q4) (0 : Int64)))]))
            refine o_iload X32 hx (hb hby at_168) rfl ?_
            refine o_icmpNo X32 hx (hb hby at_170) (teq (own_verT (own_and0 p1) (own_addT hc129_30) (own_addT hc141_31) rfl)).2 ?_
            refine o_iconst X32 hx 1 (hb hby at_173) rfl ?_
            refine o_goto X32 hx (pc' := 178) (hb hby at_174) (by decide) (by decide) ?_
            have Kp35 : Keep h0 T28.heap [] := (((Keep.refl h0 []).ext E27).trans K28 (allS (Or.inr sz27) all0))
            exact own_end X32 e32 (v := some (.int (1 : Int32))) (fun h => by rw [Bd.returns] at h; cases h) hlk (fun fs hr => retN X32 hx (z := (1 : Int32)) (t := .boolean) Bd.returns (by simp) (hb hby at_178) hr) (Q := Q_rm0 Z a0 p1 q2 q3 q4 q5 p6 h0 n0) ⟨rfl, N32, Kp35⟩ (by decide) (by decide)
          · refine o_ifYes X28 hx (pc' := 160) (hb hby at_141) (feq hc141_31).2 (by decide) (by decide) ?_
            refine o_iconst X28 hx 0 (hb hby at_160) rfl ?_
            refine o_istore X28 hx (hb hby at_161) (l' := #[iv p1, .val (.long q2), .second, .val (.long q3), .second, .val (.long q4), .second, .val (.long q5), .second, iv p6, iv (p1 &&& (2147483647 : Int32)), .val (.long (own_tri (p1 &&& (2147483647 : Int32)))), .second, iv 0, iv 0, iv 1, .val (.long (((p1 &&& (2147483647 : Int32)).toInt64) + q3)), .second, .val (.long ((own_tri (p1 &&& (2147483647 : Int32))) + q4)), .second, .val (.long 0), .second, rv b27, iv 0]) rfl ?_
            refine o_aload X28 hx (hb hby at_163) rfl rfl ?_
            have Zs37 : n0 ≤ T28.heap.size := (Nat.le_trans Zs29 K28.1)
            have Fa38 := (A27.keep K28)
            obtain ⟨cq36, kq36, q36a, q36b, q36c⟩ := isOf hZ rfl Fa38
            obtain ⟨_, _, ⟨T36, L36, k36, n36⟩, -, X36, ⟨Lc36, hQ36, l36, y36, z36⟩, st36⟩ := X28.virtualBack hx (y := (⟨"headway/bench/Transfer$Outcome", "verified", "()Z"⟩ : MethodName)) (z := (⟨"headway/bench/Transfer$Outcome", "verified", "()Z"⟩ : MethodName)) hown (mvT hZ (hw _ (List.mem_of_getElem? (i := 29) rfl))) (mvT hZ (hw _ (List.mem_of_getElem? (i := 30) rfl))) (notFace_of_selects (args := #[]) (mvT hZ (hw _ (List.mem_of_getElem? (i := 32) rfl)))) (mvT hZ (hw _ (List.mem_of_getElem? (i := 32) rfl))) (mvT hZ (hw _ (List.mem_of_getElem? (i := 31) rfl))) (by decide) (backOf (W := 0) (rm5 l Z a0 hw [] b27 (p1 &&& (2147483647 : Int32)) (((p1 &&& (2147483647 : Int32)).toInt64) + q3) ((own_tri (p1 &&& (2147483647 : Int32))) + q4) (0 : Int64) T28.heap n0 Zs37 Fq28_0 Fq28_2 Fq28_3 Fq28_4) hZ (hw _ (List.mem_of_getElem? (i := 33) rfl)) (hw _ (List.mem_of_getElem? (i := 7) rfl)) (by decide) (by decide)) q36a q36c (g := (mkF m 165 #[iv p1, .val (.long q2), .second, .val (.long q3), .second, .val (.long q4), .second, .val (.long q5), .second, iv p6, iv (p1 &&& (2147483647 : Int32)), .val (.long (own_tri (p1 &&& (2147483647 : Int32)))), .second, iv 0, iv 0, iv 1, .val (.long (((p1 &&& (2147483647 : Int32)).toInt64) + q3)), .second, .val (.long ((own_tri (p1 &&& (2147483647 : Int32))) + q4)), .second, .val (.long 0), .second, rv b27, iv 0] [(.ref b27)])) rfl (by rw [hml]; rfl) (Steps.refl _) (argsL := []) (rest := []) (lenOf pd_4 rfl) rfl (by show 2 * 0 + _ ≤ _; exact Nat.le_of_eq rfl) (hb hby at_165) (fun _ _ => ⟨rfl, rfl, (by decide : 1 + 0 ≤ _), (by decide : 5 + 0 ≤ _)⟩)
            dsimp only [Pt.U, Pt.locs, Pt.cells, Pt.slots] at X36 l36 y36 z36 st36 hQ36
            subst l36 y36 z36
            obtain ⟨rfl, Nq36, e36⟩ := hQ36
            have N36 := Fr.app N28 Nq36
            refine own_tr st36 ?_
            show own_Go _ _ _ _ (T36.setTop (mkF m 168 #[iv p1, .val (.long q2), .second, .val (.long q3), .second, .val (.long q4), .second, .val (.long q5), .second, iv p6, iv (p1 &&& (2147483647 : Int32)), .val (.long (own_tri (p1 &&& (2147483647 : Int32)))), .second, iv 0, iv 0, iv 1, .val (.long (((p1 &&& (2147483647 : Int32)).toInt64) + q3)), .second, .val (.long ((own_tri (p1 &&& (2147483647 : Int32))) + q4)), .second, .val (.long 0), .second, rv b27, iv 0] [(.int (own_ver (p1 &&& (2147483647 : Int32)) (((p1 &&& (2147483647 : Int32)).toInt64) + q3) ((own_tri (p1 &&& (2147483647 : Int32))) + q4) (0 : Int64)))]))
            refine o_iload X36 hx (hb hby at_168) rfl ?_
            refine o_icmpNo X36 hx (hb hby at_170) (teq (own_verF2 (own_and0 p1) (own_addF hc141_31))).2 ?_
            refine o_iconst X36 hx 1 (hb hby at_173) rfl ?_
            refine o_goto X36 hx (pc' := 178) (hb hby at_174) (by decide) (by decide) ?_
            have Kp39 : Keep h0 T28.heap [] := (((Keep.refl h0 []).ext E27).trans K28 (allS (Or.inr sz27) all0))
            exact own_end X36 e36 (v := some (.int (1 : Int32))) (fun h => by rw [Bd.returns] at h; cases h) hlk (fun fs hr => retN X36 hx (z := (1 : Int32)) (t := .boolean) Bd.returns (by simp) (hb hby at_178) hr) (Q := Q_rm0 Z a0 p1 q2 q3 q4 q5 p6 h0 n0) ⟨rfl, N36, Kp39⟩ (by decide) (by decide)
        · refine o_ifYes X28 hx (pc' := 160) (hb hby at_129) (feq hc129_30).2 (by decide) (by decide) ?_
          refine o_iconst X28 hx 0 (hb hby at_160) rfl ?_
          refine o_istore X28 hx (hb hby at_161) (l' := #[iv p1, .val (.long q2), .second, .val (.long q3), .second, .val (.long q4), .second, .val (.long q5), .second, iv p6, iv (p1 &&& (2147483647 : Int32)), .val (.long (own_tri (p1 &&& (2147483647 : Int32)))), .second, iv 0, iv 0, iv 1, .val (.long (((p1 &&& (2147483647 : Int32)).toInt64) + q3)), .second, .val (.long ((own_tri (p1 &&& (2147483647 : Int32))) + q4)), .second, .val (.long 0), .second, rv b27, iv 0]) rfl ?_
          refine o_aload X28 hx (hb hby at_163) rfl rfl ?_
          have Zs41 : n0 ≤ T28.heap.size := (Nat.le_trans Zs29 K28.1)
          have Fa42 := (A27.keep K28)
          obtain ⟨cq40, kq40, q40a, q40b, q40c⟩ := isOf hZ rfl Fa42
          obtain ⟨_, _, ⟨T40, L40, k40, n40⟩, -, X40, ⟨Lc40, hQ40, l40, y40, z40⟩, st40⟩ := X28.virtualBack hx (y := (⟨"headway/bench/Transfer$Outcome", "verified", "()Z"⟩ : MethodName)) (z := (⟨"headway/bench/Transfer$Outcome", "verified", "()Z"⟩ : MethodName)) hown (mvT hZ (hw _ (List.mem_of_getElem? (i := 29) rfl))) (mvT hZ (hw _ (List.mem_of_getElem? (i := 30) rfl))) (notFace_of_selects (args := #[]) (mvT hZ (hw _ (List.mem_of_getElem? (i := 32) rfl)))) (mvT hZ (hw _ (List.mem_of_getElem? (i := 32) rfl))) (mvT hZ (hw _ (List.mem_of_getElem? (i := 31) rfl))) (by decide) (backOf (W := 0) (rm5 l Z a0 hw [] b27 (p1 &&& (2147483647 : Int32)) (((p1 &&& (2147483647 : Int32)).toInt64) + q3) ((own_tri (p1 &&& (2147483647 : Int32))) + q4) (0 : Int64) T28.heap n0 Zs41 Fq28_0 Fq28_2 Fq28_3 Fq28_4) hZ (hw _ (List.mem_of_getElem? (i := 33) rfl)) (hw _ (List.mem_of_getElem? (i := 7) rfl)) (by decide) (by decide)) q40a q40c (g := (mkF m 165 #[iv p1, .val (.long q2), .second, .val (.long q3), .second, .val (.long q4), .second, .val (.long q5), .second, iv p6, iv (p1 &&& (2147483647 : Int32)), .val (.long (own_tri (p1 &&& (2147483647 : Int32)))), .second, iv 0, iv 0, iv 1, .val (.long (((p1 &&& (2147483647 : Int32)).toInt64) + q3)), .second, .val (.long ((own_tri (p1 &&& (2147483647 : Int32))) + q4)), .second, .val (.long 0), .second, rv b27, iv 0] [(.ref b27)])) rfl (by rw [hml]; rfl) (Steps.refl _) (argsL := []) (rest := []) (lenOf pd_4 rfl) rfl (by show 2 * 0 + _ ≤ _; exact Nat.le_of_eq rfl) (hb hby at_165) (fun _ _ => ⟨rfl, rfl, (by decide : 1 + 0 ≤ _), (by decide : 5 + 0 ≤ _)⟩)
          dsimp only [Pt.U, Pt.locs, Pt.cells, Pt.slots] at X40 l40 y40 z40 st40 hQ40
          subst l40 y40 z40
          obtain ⟨rfl, Nq40, e40⟩ := hQ40
          have N40 := Fr.app N28 Nq40
          refine own_tr st40 ?_
          show own_Go _ _ _ _ (T40.setTop (mkF m 168 #[iv p1, .val (.long q2), .second, .val (.long q3), .second, .val (.long q4), .second, .val (.long q5), .second, iv p6, iv (p1 &&& (2147483647 : Int32)), .val (.long (own_tri (p1 &&& (2147483647 : Int32)))), .second, iv 0, iv 0, iv 1, .val (.long (((p1 &&& (2147483647 : Int32)).toInt64) + q3)), .second, .val (.long ((own_tri (p1 &&& (2147483647 : Int32))) + q4)), .second, .val (.long 0), .second, rv b27, iv 0] [(.int (own_ver (p1 &&& (2147483647 : Int32)) (((p1 &&& (2147483647 : Int32)).toInt64) + q3) ((own_tri (p1 &&& (2147483647 : Int32))) + q4) (0 : Int64)))]))
          refine o_iload X40 hx (hb hby at_168) rfl ?_
          refine o_icmpNo X40 hx (hb hby at_170) (teq (own_verF1 (own_addF hc129_30))).2 ?_
          refine o_iconst X40 hx 1 (hb hby at_173) rfl ?_
          refine o_goto X40 hx (pc' := 178) (hb hby at_174) (by decide) (by decide) ?_
          have Kp43 : Keep h0 T28.heap [] := (((Keep.refl h0 []).ext E27).trans K28 (allS (Or.inr sz27) all0))
          exact own_end X40 e40 (v := some (.int (1 : Int32))) (fun h => by rw [Bd.returns] at h; cases h) hlk (fun fs hr => retN X40 hx (z := (1 : Int32)) (t := .boolean) Bd.returns (by simp) (hb hby at_178) hr) (Q := Q_rm0 Z a0 p1 q2 q3 q4 q5 p6 h0 n0) ⟨rfl, N40, Kp43⟩ (by decide) (by decide)
    · refine o_ifNo X1 hx (hb hby at_31) (feq hc31_3).1 ?_
      refine o_iconst X1 hx 1 (hb hby at_34) rfl ?_
      refine o_goto X1 hx (pc' := 39) (hb hby at_35) (by decide) (by decide) ?_
      refine o_istore X1 hx (hb hby at_39) (l' := #[iv p1, .val (.long q2), .second, .val (.long q3), .second, .val (.long q4), .second, .val (.long q5), .second, iv p6, iv (p1 &&& (2147483647 : Int32)), .val (.long (own_tri (p1 &&& (2147483647 : Int32)))), .second, iv 0, iv 1, .unset, .unset, .unset, .unset, .unset, .unset, .unset, .unset, .unset]) rfl ?_
      refine o_iload X1 hx (hb hby at_41) rfl ?_
      refine o_iconst X1 hx 4 (hb hby at_43) rfl ?_
      refine o_iand X1 hx (hb hby at_44) ?_
      by_cases hc45_44 : (p6 &&& (4 : Int32)) = (0 : Int32)
      · refine o_ifYes X1 hx (pc' := 52) (hb hby at_45) (teq hc45_44).1 (by decide) (by decide) ?_
        refine o_iconst X1 hx 0 (hb hby at_52) rfl ?_
        refine o_istore X1 hx (hb hby at_53) (l' := #[iv p1, .val (.long q2), .second, .val (.long q3), .second, .val (.long q4), .second, .val (.long q5), .second, iv p6, iv (p1 &&& (2147483647 : Int32)), .val (.long (own_tri (p1 &&& (2147483647 : Int32)))), .second, iv 0, iv 1, iv 0, .unset, .unset, .unset, .unset, .unset, .unset, .unset, .unset]) rfl ?_
        refine o_iload X1 hx (hb hby at_55) rfl ?_
        refine o_ifYes X1 hx (pc' := 66) (hb hby at_57) (teq (by decide : (0 : Int32) = (0 : Int32))).1 (by decide) (by decide) ?_
        refine o_iload X1 hx (hb hby at_66) rfl ?_
        refine o_i2l X1 hx (hb hby at_68) ?_
        refine o_lloadN X1 hx (hb hby at_69) rfl ?_
        refine o_ladd X1 hx (hb hby at_70) ?_
        refine o_lstore X1 hx (hb hby at_71) (l' := #[iv p1, .val (.long q2), .second, .val (.long q3), .second, .val (.long q4), .second, .val (.long q5), .second, iv p6, iv (p1 &&& (2147483647 : Int32)), .val (.long (own_tri (p1 &&& (2147483647 : Int32)))), .second, iv 0, iv 1, iv 0, .val (.long (((p1 &&& (2147483647 : Int32)).toInt64) + q3)), .second, .unset, .unset, .unset, .unset, .unset, .unset]) rfl ?_
        refine o_iload X1 hx (hb hby at_73) rfl ?_
        refine o_ifNo X1 hx (hb hby at_75) (feq (by decide : ¬ ((1 : Int32) = (0 : Int32)))).1 ?_
        refine o_lload X1 hx (hb hby at_78) rfl ?_
        refine o_goto X1 hx (pc' := 88) (hb hby at_80) (by decide) (by decide) ?_
        refine o_lstore X1 hx (hb hby at_88) (l' := #[iv p1, .val (.long q2), .second, .val (.long q3), .second, .val (.long q4), .second, .val (.long q5), .second, iv p6, iv (p1 &&& (2147483647 : Int32)), .val (.long (own_tri (p1 &&& (2147483647 : Int32)))), .second, iv 0, iv 1, iv 0, .val (.long (((p1 &&& (2147483647 : Int32)).toInt64) + q3)), .second, .val (.long (own_tri (p1 &&& (2147483647 : Int32)))), .second, .unset, .unset, .unset, .unset]) rfl ?_
        refine o_iload X1 hx (hb hby at_90) rfl ?_
        refine o_ifYes X1 hx (pc' := 99) (hb hby at_92) (teq (by decide : (0 : Int32) = (0 : Int32))).1 (by decide) (by decide) ?_
        refine o_lload X1 hx (hb hby at_99) rfl ?_
        refine o_lstore X1 hx (hb hby at_101) (l' := #[iv p1, .val (.long q2), .second, .val (.long q3), .second, .val (.long q4), .second, .val (.long q5), .second, iv p6, iv (p1 &&& (2147483647 : Int32)), .val (.long (own_tri (p1 &&& (2147483647 : Int32)))), .second, iv 0, iv 1, iv 0, .val (.long (((p1 &&& (2147483647 : Int32)).toInt64) + q3)), .second, .val (.long (own_tri (p1 &&& (2147483647 : Int32)))), .second, .val (.long q5), .second, .unset, .unset]) rfl ?_
        obtain ⟨T45, h45, X45, e45, E45, A45, D45, -, st45⟩ := newO X1 hx hZ hown (hw _ (List.mem_of_getElem? (i := 5) rfl)) (hw _ (List.mem_of_getElem? (i := 6) rfl)) (hw _ (List.mem_of_getElem? (i := 7) rfl)) e1 (g := (mkF m 103 #[iv p1, .val (.long q2), .second, .val (.long q3), .second, .val (.long q4), .second, .val (.long q5), .second, iv p6, iv (p1 &&& (2147483647 : Int32)), .val (.long (own_tri (p1 &&& (2147483647 : Int32)))), .second, iv 0, iv 1, iv 0, .val (.long (((p1 &&& (2147483647 : Int32)).toInt64) + q3)), .second, .val (.long (own_tri (p1 &&& (2147483647 : Int32)))), .second, .val (.long q5), .second, .unset, .unset] [])) rfl (hb hby at_103) (by decide) (by decide)
        obtain ⟨b45, g45⟩ : ∃ z, z = h0.size := ⟨_, rfl⟩
        rw [← g45] at A45 D45 st45
        have gg45 : n0 ≤ b45 := Nat.le_trans Z0 (Nat.le_of_eq g45.symm)
        have sz45 : h0.size ≤ b45 := Nat.le_trans (Keep.refl h0 []).1 (Nat.le_of_eq g45.symm)
        have Fi45_elements : Fld Z h45 b45 "headway/bench/Transfer$Outcome" "elements" "I" (.int (0 : Int32)) := D45 (Or.inr (hw _ (List.mem_of_getElem? (i := 20) rfl))) (ty := .int) (by decide)
        have Fi45_nanos : Fld Z h45 b45 "headway/bench/Transfer$Outcome" "nanos" "J" (.long (0 : Int64)) := D45 (Or.inr (hw _ (List.mem_of_getElem? (i := 22) rfl))) (ty := .long) (by decide)
        have Fi45_received : Fld Z h45 b45 "headway/bench/Transfer$Outcome" "received" "J" (.long (0 : Int64)) := D45 (Or.inr (hw _ (List.mem_of_getElem? (i := 24) rfl))) (ty := .long) (by decide)
        have Fi45_sum : Fld Z h45 b45 "headway/bench/Transfer$Outcome" "sum" "J" (.long (0 : Int64)) := D45 (Or.inr (hw _ (List.mem_of_getElem? (i := 26) rfl))) (ty := .long) (by decide)
        have Fi45_outOfOrder : Fld Z h45 b45 "headway/bench/Transfer$Outcome" "outOfOrder" "J" (.long (0 : Int64)) := D45 (Or.inr (hw _ (List.mem_of_getElem? (i := 28) rfl))) (ty := .long) (by decide)
        refine own_st st45 ?_
        show own_Go _ _ _ _ (T45.setTop (mkF m 106 #[iv p1, .val (.long q2), .second, .val (.long q3), .second, .val (.long q4), .second, .val (.long q5), .second, iv p6, iv (p1 &&& (2147483647 : Int32)), .val (.long (own_tri (p1 &&& (2147483647 : Int32)))), .second, iv 0, iv 1, iv 0, .val (.long (((p1 &&& (2147483647 : Int32)).toInt64) + q3)), .second, .val (.long (own_tri (p1 &&& (2147483647 : Int32)))), .second, .val (.long q5), .second, .unset, .unset] [(.ref b45)]))
        refine o_dup X45 hx (hb hby at_106) rfl ?_
        refine o_iload X45 hx (hb hby at_107) rfl ?_
        refine o_lloadN X45 hx (hb hby at_109) rfl ?_
        refine o_lload X45 hx (hb hby at_110) rfl ?_
        refine o_lload X45 hx (hb hby at_112) rfl ?_
        refine o_lload X45 hx (hb hby at_114) rfl ?_
        have Zs47 : n0 ≤ h45.size := (Nat.le_trans Z0 E45.1)
        obtain ⟨_, _, ⟨T46, L46, k46, n46⟩, -, X46, ⟨Lc46, hQ46, l46, y46, z46⟩, st46⟩ := X45.specialBack hx (y := (⟨"headway/bench/Transfer$Outcome", "<init>", "(IJJJJ)V"⟩ : MethodName)) rfl hown (mvT hZ (hw _ (List.mem_of_getElem? (i := 8) rfl))) (mvT hZ (hw _ (List.mem_of_getElem? (i := 9) rfl))) (mvT hZ (hw _ (List.mem_of_getElem? (i := 10) rfl))) (by decide) (backOf (W := 1) (rm2 l Z a0 hw [] b45 (p1 &&& (2147483647 : Int32)) q2 (((p1 &&& (2147483647 : Int32)).toInt64) + q3) (own_tri (p1 &&& (2147483647 : Int32))) q5  h45 n0 Zs47 A45 gg45 Fi45_elements Fi45_nanos Fi45_received Fi45_sum Fi45_outOfOrder) hZ (hw _ (List.mem_of_getElem? (i := 10) rfl)) (hw _ (List.mem_of_getElem? (i := 7) rfl)) (by decide) (by decide)) (g := (mkF m 116 #[iv p1, .val (.long q2), .second, .val (.long q3), .second, .val (.long q4), .second, .val (.long q5), .second, iv p6, iv (p1 &&& (2147483647 : Int32)), .val (.long (own_tri (p1 &&& (2147483647 : Int32)))), .second, iv 0, iv 1, iv 0, .val (.long (((p1 &&& (2147483647 : Int32)).toInt64) + q3)), .second, .val (.long (own_tri (p1 &&& (2147483647 : Int32)))), .second, .val (.long q5), .second, .unset, .unset] [(.long q5), (.long (own_tri (p1 &&& (2147483647 : Int32)))), (.long (((p1 &&& (2147483647 : Int32)).toInt64) + q3)), (.long q2), (.int (p1 &&& (2147483647 : Int32))), (.ref b45), (.ref b45)])) rfl (by rw [hml]; rfl) (Steps.refl _) (a := b45) (argsL := [(.int (p1 &&& (2147483647 : Int32))), (.long q2), (.long (((p1 &&& (2147483647 : Int32)).toInt64) + q3)), (.long (own_tri (p1 &&& (2147483647 : Int32)))), (.long q5)]) (rest := [(.ref b45)]) (lenOf pd_3 rfl) rfl (by show 2 * 0 + _ ≤ _; exact Nat.le_of_eq rfl) (hb hby at_116) (fun _ _ => ⟨rfl, e45, (by decide : 1 + 0 ≤ _), (by decide : 5 + 0 ≤ _)⟩)
        dsimp only [Pt.U, Pt.locs, Pt.cells, Pt.slots] at X46 l46 y46 z46 st46 hQ46
        subst l46 y46 z46
        obtain ⟨rfl, Nq46, K46, Fq46_0, Fq46_1, Fq46_2, Fq46_3, Fq46_4⟩ := hQ46
        have N46 := Fr.app N1 Nq46
        refine own_tr st46 ?_
        show own_Go _ _ _ _ (T46.setTop (mkF m 119 #[iv p1, .val (.long q2), .second, .val (.long q3), .second, .val (.long q4), .second, .val (.long q5), .second, iv p6, iv (p1 &&& (2147483647 : Int32)), .val (.long (own_tri (p1 &&& (2147483647 : Int32)))), .second, iv 0, iv 1, iv 0, .val (.long (((p1 &&& (2147483647 : Int32)).toInt64) + q3)), .second, .val (.long (own_tri (p1 &&& (2147483647 : Int32)))), .second, .val (.long q5), .second, .unset, .unset] [(.ref b45)]))
        refine o_astore X46 hx (hb hby at_119) rfl (l' := #[iv p1, .val (.long q2), .second, .val (.long q3), .second, .val (.long q4), .second, .val (.long q5), .second, iv p6, iv (p1 &&& (2147483647 : Int32)), .val (.long (own_tri (p1 &&& (2147483647 : Int32)))), .second, iv 0, iv 1, iv 0, .val (.long (((p1 &&& (2147483647 : Int32)).toInt64) + q3)), .second, .val (.long (own_tri (p1 &&& (2147483647 : Int32)))), .second, .val (.long q5), .second, rv b45, .unset]) rfl ?_
        refine o_iload X46 hx (hb hby at_121) rfl ?_
        refine o_ifNo X46 hx (hb hby at_123) (teq (by decide : (0 : Int32) = (0 : Int32))).2 ?_
        refine o_lloadN X46 hx (hb hby at_126) rfl ?_
        refine o_lconst X46 hx 0 (hb hby at_127) rfl ?_
        refine o_lcmp X46 hx (hb hby at_128) ?_
        by_cases hc129_48 : (lcmpW q3 (0 : Int64)) = (0 : Int32)
        · refine o_ifNo X46 hx (hb hby at_129) (teq hc129_48).2 ?_
          refine o_iload X46 hx (hb hby at_132) rfl ?_
          refine o_ifYes X46 hx (pc' := 144) (hb hby at_134) (feq (by decide : ¬ ((1 : Int32) = (0 : Int32)))).2 (by decide) (by decide) ?_
          refine o_iload X46 hx (hb hby at_144) rfl ?_
          refine o_ifNo X46 hx (hb hby at_146) (teq (by decide : (0 : Int32) = (0 : Int32))).2 ?_
          refine o_lload X46 hx (hb hby at_149) rfl ?_
          refine o_lconst X46 hx 0 (hb hby at_151) rfl ?_
          refine o_lcmp X46 hx (hb hby at_152) ?_
          by_cases hc153_49 : (lcmpW q5 (0 : Int64)) = (0 : Int32)
          · refine o_ifNo X46 hx (hb hby at_153) (teq hc153_49).2 ?_
            refine o_iconst X46 hx 1 (hb hby at_156) rfl ?_
            refine o_goto X46 hx (pc' := 161) (hb hby at_157) (by decide) (by decide) ?_
            refine o_istore X46 hx (hb hby at_161) (l' := #[iv p1, .val (.long q2), .second, .val (.long q3), .second, .val (.long q4), .second, .val (.long q5), .second, iv p6, iv (p1 &&& (2147483647 : Int32)), .val (.long (own_tri (p1 &&& (2147483647 : Int32)))), .second, iv 0, iv 1, iv 0, .val (.long (((p1 &&& (2147483647 : Int32)).toInt64) + q3)), .second, .val (.long (own_tri (p1 &&& (2147483647 : Int32)))), .second, .val (.long q5), .second, rv b45, iv 1]) rfl ?_
            refine o_aload X46 hx (hb hby at_163) rfl rfl ?_
            have Zs51 : n0 ≤ T46.heap.size := (Nat.le_trans Zs47 K46.1)
            have Fa52 := (A45.keep K46)
            obtain ⟨cq50, kq50, q50a, q50b, q50c⟩ := isOf hZ rfl Fa52
            obtain ⟨_, _, ⟨T50, L50, k50, n50⟩, -, X50, ⟨Lc50, hQ50, l50, y50, z50⟩, st50⟩ := X46.virtualBack hx (y := (⟨"headway/bench/Transfer$Outcome", "verified", "()Z"⟩ : MethodName)) (z := (⟨"headway/bench/Transfer$Outcome", "verified", "()Z"⟩ : MethodName)) hown (mvT hZ (hw _ (List.mem_of_getElem? (i := 29) rfl))) (mvT hZ (hw _ (List.mem_of_getElem? (i := 30) rfl))) (notFace_of_selects (args := #[]) (mvT hZ (hw _ (List.mem_of_getElem? (i := 32) rfl)))) (mvT hZ (hw _ (List.mem_of_getElem? (i := 32) rfl))) (mvT hZ (hw _ (List.mem_of_getElem? (i := 31) rfl))) (by decide) (backOf (W := 0) (rm5 l Z a0 hw [] b45 (p1 &&& (2147483647 : Int32)) (((p1 &&& (2147483647 : Int32)).toInt64) + q3) (own_tri (p1 &&& (2147483647 : Int32))) q5 T46.heap n0 Zs51 Fq46_0 Fq46_2 Fq46_3 Fq46_4) hZ (hw _ (List.mem_of_getElem? (i := 33) rfl)) (hw _ (List.mem_of_getElem? (i := 7) rfl)) (by decide) (by decide)) q50a q50c (g := (mkF m 165 #[iv p1, .val (.long q2), .second, .val (.long q3), .second, .val (.long q4), .second, .val (.long q5), .second, iv p6, iv (p1 &&& (2147483647 : Int32)), .val (.long (own_tri (p1 &&& (2147483647 : Int32)))), .second, iv 0, iv 1, iv 0, .val (.long (((p1 &&& (2147483647 : Int32)).toInt64) + q3)), .second, .val (.long (own_tri (p1 &&& (2147483647 : Int32)))), .second, .val (.long q5), .second, rv b45, iv 1] [(.ref b45)])) rfl (by rw [hml]; rfl) (Steps.refl _) (argsL := []) (rest := []) (lenOf pd_4 rfl) rfl (by show 2 * 0 + _ ≤ _; exact Nat.le_of_eq rfl) (hb hby at_165) (fun _ _ => ⟨rfl, rfl, (by decide : 1 + 0 ≤ _), (by decide : 5 + 0 ≤ _)⟩)
            dsimp only [Pt.U, Pt.locs, Pt.cells, Pt.slots] at X50 l50 y50 z50 st50 hQ50
            subst l50 y50 z50
            obtain ⟨rfl, Nq50, e50⟩ := hQ50
            have N50 := Fr.app N46 Nq50
            refine own_tr st50 ?_
            show own_Go _ _ _ _ (T50.setTop (mkF m 168 #[iv p1, .val (.long q2), .second, .val (.long q3), .second, .val (.long q4), .second, .val (.long q5), .second, iv p6, iv (p1 &&& (2147483647 : Int32)), .val (.long (own_tri (p1 &&& (2147483647 : Int32)))), .second, iv 0, iv 1, iv 0, .val (.long (((p1 &&& (2147483647 : Int32)).toInt64) + q3)), .second, .val (.long (own_tri (p1 &&& (2147483647 : Int32)))), .second, .val (.long q5), .second, rv b45, iv 1] [(.int (own_ver (p1 &&& (2147483647 : Int32)) (((p1 &&& (2147483647 : Int32)).toInt64) + q3) (own_tri (p1 &&& (2147483647 : Int32))) q5))]))
            refine o_iload X50 hx (hb hby at_168) rfl ?_
            refine o_icmpNo X50 hx (hb hby at_170) (teq (own_verT (own_and0 p1) (own_addT hc129_48) rfl ((lw_eq _ _).mp hc153_49))).2 ?_
            refine o_iconst X50 hx 1 (hb hby at_173) rfl ?_
            refine o_goto X50 hx (pc' := 178) (hb hby at_174) (by decide) (by decide) ?_
            have Kp53 : Keep h0 T46.heap [] := (((Keep.refl h0 []).ext E45).trans K46 (allS (Or.inr sz45) all0))
            exact own_end X50 e50 (v := some (.int (1 : Int32))) (fun h => by rw [Bd.returns] at h; cases h) hlk (fun fs hr => retN X50 hx (z := (1 : Int32)) (t := .boolean) Bd.returns (by simp) (hb hby at_178) hr) (Q := Q_rm0 Z a0 p1 q2 q3 q4 q5 p6 h0 n0) ⟨rfl, N50, Kp53⟩ (by decide) (by decide)
          · refine o_ifYes X46 hx (pc' := 160) (hb hby at_153) (feq hc153_49).2 (by decide) (by decide) ?_
            refine o_iconst X46 hx 0 (hb hby at_160) rfl ?_
            refine o_istore X46 hx (hb hby at_161) (l' := #[iv p1, .val (.long q2), .second, .val (.long q3), .second, .val (.long q4), .second, .val (.long q5), .second, iv p6, iv (p1 &&& (2147483647 : Int32)), .val (.long (own_tri (p1 &&& (2147483647 : Int32)))), .second, iv 0, iv 1, iv 0, .val (.long (((p1 &&& (2147483647 : Int32)).toInt64) + q3)), .second, .val (.long (own_tri (p1 &&& (2147483647 : Int32)))), .second, .val (.long q5), .second, rv b45, iv 0]) rfl ?_
            refine o_aload X46 hx (hb hby at_163) rfl rfl ?_
            have Zs55 : n0 ≤ T46.heap.size := (Nat.le_trans Zs47 K46.1)
            have Fa56 := (A45.keep K46)
            obtain ⟨cq54, kq54, q54a, q54b, q54c⟩ := isOf hZ rfl Fa56
            obtain ⟨_, _, ⟨T54, L54, k54, n54⟩, -, X54, ⟨Lc54, hQ54, l54, y54, z54⟩, st54⟩ := X46.virtualBack hx (y := (⟨"headway/bench/Transfer$Outcome", "verified", "()Z"⟩ : MethodName)) (z := (⟨"headway/bench/Transfer$Outcome", "verified", "()Z"⟩ : MethodName)) hown (mvT hZ (hw _ (List.mem_of_getElem? (i := 29) rfl))) (mvT hZ (hw _ (List.mem_of_getElem? (i := 30) rfl))) (notFace_of_selects (args := #[]) (mvT hZ (hw _ (List.mem_of_getElem? (i := 32) rfl)))) (mvT hZ (hw _ (List.mem_of_getElem? (i := 32) rfl))) (mvT hZ (hw _ (List.mem_of_getElem? (i := 31) rfl))) (by decide) (backOf (W := 0) (rm5 l Z a0 hw [] b45 (p1 &&& (2147483647 : Int32)) (((p1 &&& (2147483647 : Int32)).toInt64) + q3) (own_tri (p1 &&& (2147483647 : Int32))) q5 T46.heap n0 Zs55 Fq46_0 Fq46_2 Fq46_3 Fq46_4) hZ (hw _ (List.mem_of_getElem? (i := 33) rfl)) (hw _ (List.mem_of_getElem? (i := 7) rfl)) (by decide) (by decide)) q54a q54c (g := (mkF m 165 #[iv p1, .val (.long q2), .second, .val (.long q3), .second, .val (.long q4), .second, .val (.long q5), .second, iv p6, iv (p1 &&& (2147483647 : Int32)), .val (.long (own_tri (p1 &&& (2147483647 : Int32)))), .second, iv 0, iv 1, iv 0, .val (.long (((p1 &&& (2147483647 : Int32)).toInt64) + q3)), .second, .val (.long (own_tri (p1 &&& (2147483647 : Int32)))), .second, .val (.long q5), .second, rv b45, iv 0] [(.ref b45)])) rfl (by rw [hml]; rfl) (Steps.refl _) (argsL := []) (rest := []) (lenOf pd_4 rfl) rfl (by show 2 * 0 + _ ≤ _; exact Nat.le_of_eq rfl) (hb hby at_165) (fun _ _ => ⟨rfl, rfl, (by decide : 1 + 0 ≤ _), (by decide : 5 + 0 ≤ _)⟩)
            dsimp only [Pt.U, Pt.locs, Pt.cells, Pt.slots] at X54 l54 y54 z54 st54 hQ54
            subst l54 y54 z54
            obtain ⟨rfl, Nq54, e54⟩ := hQ54
            have N54 := Fr.app N46 Nq54
            refine own_tr st54 ?_
            show own_Go _ _ _ _ (T54.setTop (mkF m 168 #[iv p1, .val (.long q2), .second, .val (.long q3), .second, .val (.long q4), .second, .val (.long q5), .second, iv p6, iv (p1 &&& (2147483647 : Int32)), .val (.long (own_tri (p1 &&& (2147483647 : Int32)))), .second, iv 0, iv 1, iv 0, .val (.long (((p1 &&& (2147483647 : Int32)).toInt64) + q3)), .second, .val (.long (own_tri (p1 &&& (2147483647 : Int32)))), .second, .val (.long q5), .second, rv b45, iv 0] [(.int (own_ver (p1 &&& (2147483647 : Int32)) (((p1 &&& (2147483647 : Int32)).toInt64) + q3) (own_tri (p1 &&& (2147483647 : Int32))) q5))]))
            refine o_iload X54 hx (hb hby at_168) rfl ?_
            refine o_icmpNo X54 hx (hb hby at_170) (teq (own_verF3 hc153_49)).2 ?_
            refine o_iconst X54 hx 1 (hb hby at_173) rfl ?_
            refine o_goto X54 hx (pc' := 178) (hb hby at_174) (by decide) (by decide) ?_
            have Kp57 : Keep h0 T46.heap [] := (((Keep.refl h0 []).ext E45).trans K46 (allS (Or.inr sz45) all0))
            exact own_end X54 e54 (v := some (.int (1 : Int32))) (fun h => by rw [Bd.returns] at h; cases h) hlk (fun fs hr => retN X54 hx (z := (1 : Int32)) (t := .boolean) Bd.returns (by simp) (hb hby at_178) hr) (Q := Q_rm0 Z a0 p1 q2 q3 q4 q5 p6 h0 n0) ⟨rfl, N54, Kp57⟩ (by decide) (by decide)
        · refine o_ifYes X46 hx (pc' := 160) (hb hby at_129) (feq hc129_48).2 (by decide) (by decide) ?_
          refine o_iconst X46 hx 0 (hb hby at_160) rfl ?_
          refine o_istore X46 hx (hb hby at_161) (l' := #[iv p1, .val (.long q2), .second, .val (.long q3), .second, .val (.long q4), .second, .val (.long q5), .second, iv p6, iv (p1 &&& (2147483647 : Int32)), .val (.long (own_tri (p1 &&& (2147483647 : Int32)))), .second, iv 0, iv 1, iv 0, .val (.long (((p1 &&& (2147483647 : Int32)).toInt64) + q3)), .second, .val (.long (own_tri (p1 &&& (2147483647 : Int32)))), .second, .val (.long q5), .second, rv b45, iv 0]) rfl ?_
          refine o_aload X46 hx (hb hby at_163) rfl rfl ?_
          have Zs59 : n0 ≤ T46.heap.size := (Nat.le_trans Zs47 K46.1)
          have Fa60 := (A45.keep K46)
          obtain ⟨cq58, kq58, q58a, q58b, q58c⟩ := isOf hZ rfl Fa60
          obtain ⟨_, _, ⟨T58, L58, k58, n58⟩, -, X58, ⟨Lc58, hQ58, l58, y58, z58⟩, st58⟩ := X46.virtualBack hx (y := (⟨"headway/bench/Transfer$Outcome", "verified", "()Z"⟩ : MethodName)) (z := (⟨"headway/bench/Transfer$Outcome", "verified", "()Z"⟩ : MethodName)) hown (mvT hZ (hw _ (List.mem_of_getElem? (i := 29) rfl))) (mvT hZ (hw _ (List.mem_of_getElem? (i := 30) rfl))) (notFace_of_selects (args := #[]) (mvT hZ (hw _ (List.mem_of_getElem? (i := 32) rfl)))) (mvT hZ (hw _ (List.mem_of_getElem? (i := 32) rfl))) (mvT hZ (hw _ (List.mem_of_getElem? (i := 31) rfl))) (by decide) (backOf (W := 0) (rm5 l Z a0 hw [] b45 (p1 &&& (2147483647 : Int32)) (((p1 &&& (2147483647 : Int32)).toInt64) + q3) (own_tri (p1 &&& (2147483647 : Int32))) q5 T46.heap n0 Zs59 Fq46_0 Fq46_2 Fq46_3 Fq46_4) hZ (hw _ (List.mem_of_getElem? (i := 33) rfl)) (hw _ (List.mem_of_getElem? (i := 7) rfl)) (by decide) (by decide)) q58a q58c (g := (mkF m 165 #[iv p1, .val (.long q2), .second, .val (.long q3), .second, .val (.long q4), .second, .val (.long q5), .second, iv p6, iv (p1 &&& (2147483647 : Int32)), .val (.long (own_tri (p1 &&& (2147483647 : Int32)))), .second, iv 0, iv 1, iv 0, .val (.long (((p1 &&& (2147483647 : Int32)).toInt64) + q3)), .second, .val (.long (own_tri (p1 &&& (2147483647 : Int32)))), .second, .val (.long q5), .second, rv b45, iv 0] [(.ref b45)])) rfl (by rw [hml]; rfl) (Steps.refl _) (argsL := []) (rest := []) (lenOf pd_4 rfl) rfl (by show 2 * 0 + _ ≤ _; exact Nat.le_of_eq rfl) (hb hby at_165) (fun _ _ => ⟨rfl, rfl, (by decide : 1 + 0 ≤ _), (by decide : 5 + 0 ≤ _)⟩)
          dsimp only [Pt.U, Pt.locs, Pt.cells, Pt.slots] at X58 l58 y58 z58 st58 hQ58
          subst l58 y58 z58
          obtain ⟨rfl, Nq58, e58⟩ := hQ58
          have N58 := Fr.app N46 Nq58
          refine own_tr st58 ?_
          show own_Go _ _ _ _ (T58.setTop (mkF m 168 #[iv p1, .val (.long q2), .second, .val (.long q3), .second, .val (.long q4), .second, .val (.long q5), .second, iv p6, iv (p1 &&& (2147483647 : Int32)), .val (.long (own_tri (p1 &&& (2147483647 : Int32)))), .second, iv 0, iv 1, iv 0, .val (.long (((p1 &&& (2147483647 : Int32)).toInt64) + q3)), .second, .val (.long (own_tri (p1 &&& (2147483647 : Int32)))), .second, .val (.long q5), .second, rv b45, iv 0] [(.int (own_ver (p1 &&& (2147483647 : Int32)) (((p1 &&& (2147483647 : Int32)).toInt64) + q3) (own_tri (p1 &&& (2147483647 : Int32))) q5))]))
          refine o_iload X58 hx (hb hby at_168) rfl ?_
          refine o_icmpNo X58 hx (hb hby at_170) (teq (own_verF1 (own_addF hc129_48))).2 ?_
          refine o_iconst X58 hx 1 (hb hby at_173) rfl ?_
          refine o_goto X58 hx (pc' := 178) (hb hby at_174) (by decide) (by decide) ?_
          have Kp61 : Keep h0 T46.heap [] := (((Keep.refl h0 []).ext E45).trans K46 (allS (Or.inr sz45) all0))
          exact own_end X58 e58 (v := some (.int (1 : Int32))) (fun h => by rw [Bd.returns] at h; cases h) hlk (fun fs hr => retN X58 hx (z := (1 : Int32)) (t := .boolean) Bd.returns (by simp) (hb hby at_178) hr) (Q := Q_rm0 Z a0 p1 q2 q3 q4 q5 p6 h0 n0) ⟨rfl, N58, Kp61⟩ (by decide) (by decide)
      · refine o_ifNo X1 hx (hb hby at_45) (feq hc45_44).1 ?_
        refine o_iconst X1 hx 1 (hb hby at_48) rfl ?_
        refine o_goto X1 hx (pc' := 53) (hb hby at_49) (by decide) (by decide) ?_
        refine o_istore X1 hx (hb hby at_53) (l' := #[iv p1, .val (.long q2), .second, .val (.long q3), .second, .val (.long q4), .second, .val (.long q5), .second, iv p6, iv (p1 &&& (2147483647 : Int32)), .val (.long (own_tri (p1 &&& (2147483647 : Int32)))), .second, iv 0, iv 1, iv 1, .unset, .unset, .unset, .unset, .unset, .unset, .unset, .unset]) rfl ?_
        refine o_iload X1 hx (hb hby at_55) rfl ?_
        refine o_ifYes X1 hx (pc' := 66) (hb hby at_57) (teq (by decide : (0 : Int32) = (0 : Int32))).1 (by decide) (by decide) ?_
        refine o_iload X1 hx (hb hby at_66) rfl ?_
        refine o_i2l X1 hx (hb hby at_68) ?_
        refine o_lloadN X1 hx (hb hby at_69) rfl ?_
        refine o_ladd X1 hx (hb hby at_70) ?_
        refine o_lstore X1 hx (hb hby at_71) (l' := #[iv p1, .val (.long q2), .second, .val (.long q3), .second, .val (.long q4), .second, .val (.long q5), .second, iv p6, iv (p1 &&& (2147483647 : Int32)), .val (.long (own_tri (p1 &&& (2147483647 : Int32)))), .second, iv 0, iv 1, iv 1, .val (.long (((p1 &&& (2147483647 : Int32)).toInt64) + q3)), .second, .unset, .unset, .unset, .unset, .unset, .unset]) rfl ?_
        refine o_iload X1 hx (hb hby at_73) rfl ?_
        refine o_ifNo X1 hx (hb hby at_75) (feq (by decide : ¬ ((1 : Int32) = (0 : Int32)))).1 ?_
        refine o_lload X1 hx (hb hby at_78) rfl ?_
        refine o_goto X1 hx (pc' := 88) (hb hby at_80) (by decide) (by decide) ?_
        refine o_lstore X1 hx (hb hby at_88) (l' := #[iv p1, .val (.long q2), .second, .val (.long q3), .second, .val (.long q4), .second, .val (.long q5), .second, iv p6, iv (p1 &&& (2147483647 : Int32)), .val (.long (own_tri (p1 &&& (2147483647 : Int32)))), .second, iv 0, iv 1, iv 1, .val (.long (((p1 &&& (2147483647 : Int32)).toInt64) + q3)), .second, .val (.long (own_tri (p1 &&& (2147483647 : Int32)))), .second, .unset, .unset, .unset, .unset]) rfl ?_
        refine o_iload X1 hx (hb hby at_90) rfl ?_
        refine o_ifNo X1 hx (hb hby at_92) (feq (by decide : ¬ ((1 : Int32) = (0 : Int32)))).1 ?_
        refine o_lconst X1 hx 0 (hb hby at_95) rfl ?_
        refine o_goto X1 hx (pc' := 101) (hb hby at_96) (by decide) (by decide) ?_
        refine o_lstore X1 hx (hb hby at_101) (l' := #[iv p1, .val (.long q2), .second, .val (.long q3), .second, .val (.long q4), .second, .val (.long q5), .second, iv p6, iv (p1 &&& (2147483647 : Int32)), .val (.long (own_tri (p1 &&& (2147483647 : Int32)))), .second, iv 0, iv 1, iv 1, .val (.long (((p1 &&& (2147483647 : Int32)).toInt64) + q3)), .second, .val (.long (own_tri (p1 &&& (2147483647 : Int32)))), .second, .val (.long 0), .second, .unset, .unset]) rfl ?_
        obtain ⟨T62, h62, X62, e62, E62, A62, D62, -, st62⟩ := newO X1 hx hZ hown (hw _ (List.mem_of_getElem? (i := 5) rfl)) (hw _ (List.mem_of_getElem? (i := 6) rfl)) (hw _ (List.mem_of_getElem? (i := 7) rfl)) e1 (g := (mkF m 103 #[iv p1, .val (.long q2), .second, .val (.long q3), .second, .val (.long q4), .second, .val (.long q5), .second, iv p6, iv (p1 &&& (2147483647 : Int32)), .val (.long (own_tri (p1 &&& (2147483647 : Int32)))), .second, iv 0, iv 1, iv 1, .val (.long (((p1 &&& (2147483647 : Int32)).toInt64) + q3)), .second, .val (.long (own_tri (p1 &&& (2147483647 : Int32)))), .second, .val (.long 0), .second, .unset, .unset] [])) rfl (hb hby at_103) (by decide) (by decide)
        obtain ⟨b62, g62⟩ : ∃ z, z = h0.size := ⟨_, rfl⟩
        rw [← g62] at A62 D62 st62
        have gg62 : n0 ≤ b62 := Nat.le_trans Z0 (Nat.le_of_eq g62.symm)
        have sz62 : h0.size ≤ b62 := Nat.le_trans (Keep.refl h0 []).1 (Nat.le_of_eq g62.symm)
        have Fi62_elements : Fld Z h62 b62 "headway/bench/Transfer$Outcome" "elements" "I" (.int (0 : Int32)) := D62 (Or.inr (hw _ (List.mem_of_getElem? (i := 20) rfl))) (ty := .int) (by decide)
        have Fi62_nanos : Fld Z h62 b62 "headway/bench/Transfer$Outcome" "nanos" "J" (.long (0 : Int64)) := D62 (Or.inr (hw _ (List.mem_of_getElem? (i := 22) rfl))) (ty := .long) (by decide)
        have Fi62_received : Fld Z h62 b62 "headway/bench/Transfer$Outcome" "received" "J" (.long (0 : Int64)) := D62 (Or.inr (hw _ (List.mem_of_getElem? (i := 24) rfl))) (ty := .long) (by decide)
        have Fi62_sum : Fld Z h62 b62 "headway/bench/Transfer$Outcome" "sum" "J" (.long (0 : Int64)) := D62 (Or.inr (hw _ (List.mem_of_getElem? (i := 26) rfl))) (ty := .long) (by decide)
        have Fi62_outOfOrder : Fld Z h62 b62 "headway/bench/Transfer$Outcome" "outOfOrder" "J" (.long (0 : Int64)) := D62 (Or.inr (hw _ (List.mem_of_getElem? (i := 28) rfl))) (ty := .long) (by decide)
        refine own_st st62 ?_
        show own_Go _ _ _ _ (T62.setTop (mkF m 106 #[iv p1, .val (.long q2), .second, .val (.long q3), .second, .val (.long q4), .second, .val (.long q5), .second, iv p6, iv (p1 &&& (2147483647 : Int32)), .val (.long (own_tri (p1 &&& (2147483647 : Int32)))), .second, iv 0, iv 1, iv 1, .val (.long (((p1 &&& (2147483647 : Int32)).toInt64) + q3)), .second, .val (.long (own_tri (p1 &&& (2147483647 : Int32)))), .second, .val (.long 0), .second, .unset, .unset] [(.ref b62)]))
        refine o_dup X62 hx (hb hby at_106) rfl ?_
        refine o_iload X62 hx (hb hby at_107) rfl ?_
        refine o_lloadN X62 hx (hb hby at_109) rfl ?_
        refine o_lload X62 hx (hb hby at_110) rfl ?_
        refine o_lload X62 hx (hb hby at_112) rfl ?_
        refine o_lload X62 hx (hb hby at_114) rfl ?_
        have Zs64 : n0 ≤ h62.size := (Nat.le_trans Z0 E62.1)
        obtain ⟨_, _, ⟨T63, L63, k63, n63⟩, -, X63, ⟨Lc63, hQ63, l63, y63, z63⟩, st63⟩ := X62.specialBack hx (y := (⟨"headway/bench/Transfer$Outcome", "<init>", "(IJJJJ)V"⟩ : MethodName)) rfl hown (mvT hZ (hw _ (List.mem_of_getElem? (i := 8) rfl))) (mvT hZ (hw _ (List.mem_of_getElem? (i := 9) rfl))) (mvT hZ (hw _ (List.mem_of_getElem? (i := 10) rfl))) (by decide) (backOf (W := 1) (rm2 l Z a0 hw [] b62 (p1 &&& (2147483647 : Int32)) q2 (((p1 &&& (2147483647 : Int32)).toInt64) + q3) (own_tri (p1 &&& (2147483647 : Int32))) (0 : Int64)  h62 n0 Zs64 A62 gg62 Fi62_elements Fi62_nanos Fi62_received Fi62_sum Fi62_outOfOrder) hZ (hw _ (List.mem_of_getElem? (i := 10) rfl)) (hw _ (List.mem_of_getElem? (i := 7) rfl)) (by decide) (by decide)) (g := (mkF m 116 #[iv p1, .val (.long q2), .second, .val (.long q3), .second, .val (.long q4), .second, .val (.long q5), .second, iv p6, iv (p1 &&& (2147483647 : Int32)), .val (.long (own_tri (p1 &&& (2147483647 : Int32)))), .second, iv 0, iv 1, iv 1, .val (.long (((p1 &&& (2147483647 : Int32)).toInt64) + q3)), .second, .val (.long (own_tri (p1 &&& (2147483647 : Int32)))), .second, .val (.long 0), .second, .unset, .unset] [(.long 0), (.long (own_tri (p1 &&& (2147483647 : Int32)))), (.long (((p1 &&& (2147483647 : Int32)).toInt64) + q3)), (.long q2), (.int (p1 &&& (2147483647 : Int32))), (.ref b62), (.ref b62)])) rfl (by rw [hml]; rfl) (Steps.refl _) (a := b62) (argsL := [(.int (p1 &&& (2147483647 : Int32))), (.long q2), (.long (((p1 &&& (2147483647 : Int32)).toInt64) + q3)), (.long (own_tri (p1 &&& (2147483647 : Int32)))), (.long 0)]) (rest := [(.ref b62)]) (lenOf pd_3 rfl) rfl (by show 2 * 0 + _ ≤ _; exact Nat.le_of_eq rfl) (hb hby at_116) (fun _ _ => ⟨rfl, e62, (by decide : 1 + 0 ≤ _), (by decide : 5 + 0 ≤ _)⟩)
        dsimp only [Pt.U, Pt.locs, Pt.cells, Pt.slots] at X63 l63 y63 z63 st63 hQ63
        subst l63 y63 z63
        obtain ⟨rfl, Nq63, K63, Fq63_0, Fq63_1, Fq63_2, Fq63_3, Fq63_4⟩ := hQ63
        have N63 := Fr.app N1 Nq63
        refine own_tr st63 ?_
        show own_Go _ _ _ _ (T63.setTop (mkF m 119 #[iv p1, .val (.long q2), .second, .val (.long q3), .second, .val (.long q4), .second, .val (.long q5), .second, iv p6, iv (p1 &&& (2147483647 : Int32)), .val (.long (own_tri (p1 &&& (2147483647 : Int32)))), .second, iv 0, iv 1, iv 1, .val (.long (((p1 &&& (2147483647 : Int32)).toInt64) + q3)), .second, .val (.long (own_tri (p1 &&& (2147483647 : Int32)))), .second, .val (.long 0), .second, .unset, .unset] [(.ref b62)]))
        refine o_astore X63 hx (hb hby at_119) rfl (l' := #[iv p1, .val (.long q2), .second, .val (.long q3), .second, .val (.long q4), .second, .val (.long q5), .second, iv p6, iv (p1 &&& (2147483647 : Int32)), .val (.long (own_tri (p1 &&& (2147483647 : Int32)))), .second, iv 0, iv 1, iv 1, .val (.long (((p1 &&& (2147483647 : Int32)).toInt64) + q3)), .second, .val (.long (own_tri (p1 &&& (2147483647 : Int32)))), .second, .val (.long 0), .second, rv b62, .unset]) rfl ?_
        refine o_iload X63 hx (hb hby at_121) rfl ?_
        refine o_ifNo X63 hx (hb hby at_123) (teq (by decide : (0 : Int32) = (0 : Int32))).2 ?_
        refine o_lloadN X63 hx (hb hby at_126) rfl ?_
        refine o_lconst X63 hx 0 (hb hby at_127) rfl ?_
        refine o_lcmp X63 hx (hb hby at_128) ?_
        by_cases hc129_65 : (lcmpW q3 (0 : Int64)) = (0 : Int32)
        · refine o_ifNo X63 hx (hb hby at_129) (teq hc129_65).2 ?_
          refine o_iload X63 hx (hb hby at_132) rfl ?_
          refine o_ifYes X63 hx (pc' := 144) (hb hby at_134) (feq (by decide : ¬ ((1 : Int32) = (0 : Int32)))).2 (by decide) (by decide) ?_
          refine o_iload X63 hx (hb hby at_144) rfl ?_
          refine o_ifYes X63 hx (pc' := 156) (hb hby at_146) (feq (by decide : ¬ ((1 : Int32) = (0 : Int32)))).2 (by decide) (by decide) ?_
          refine o_iconst X63 hx 1 (hb hby at_156) rfl ?_
          refine o_goto X63 hx (pc' := 161) (hb hby at_157) (by decide) (by decide) ?_
          refine o_istore X63 hx (hb hby at_161) (l' := #[iv p1, .val (.long q2), .second, .val (.long q3), .second, .val (.long q4), .second, .val (.long q5), .second, iv p6, iv (p1 &&& (2147483647 : Int32)), .val (.long (own_tri (p1 &&& (2147483647 : Int32)))), .second, iv 0, iv 1, iv 1, .val (.long (((p1 &&& (2147483647 : Int32)).toInt64) + q3)), .second, .val (.long (own_tri (p1 &&& (2147483647 : Int32)))), .second, .val (.long 0), .second, rv b62, iv 1]) rfl ?_
          refine o_aload X63 hx (hb hby at_163) rfl rfl ?_
          have Zs67 : n0 ≤ T63.heap.size := (Nat.le_trans Zs64 K63.1)
          have Fa68 := (A62.keep K63)
          obtain ⟨cq66, kq66, q66a, q66b, q66c⟩ := isOf hZ rfl Fa68
          obtain ⟨_, _, ⟨T66, L66, k66, n66⟩, -, X66, ⟨Lc66, hQ66, l66, y66, z66⟩, st66⟩ := X63.virtualBack hx (y := (⟨"headway/bench/Transfer$Outcome", "verified", "()Z"⟩ : MethodName)) (z := (⟨"headway/bench/Transfer$Outcome", "verified", "()Z"⟩ : MethodName)) hown (mvT hZ (hw _ (List.mem_of_getElem? (i := 29) rfl))) (mvT hZ (hw _ (List.mem_of_getElem? (i := 30) rfl))) (notFace_of_selects (args := #[]) (mvT hZ (hw _ (List.mem_of_getElem? (i := 32) rfl)))) (mvT hZ (hw _ (List.mem_of_getElem? (i := 32) rfl))) (mvT hZ (hw _ (List.mem_of_getElem? (i := 31) rfl))) (by decide) (backOf (W := 0) (rm5 l Z a0 hw [] b62 (p1 &&& (2147483647 : Int32)) (((p1 &&& (2147483647 : Int32)).toInt64) + q3) (own_tri (p1 &&& (2147483647 : Int32))) (0 : Int64) T63.heap n0 Zs67 Fq63_0 Fq63_2 Fq63_3 Fq63_4) hZ (hw _ (List.mem_of_getElem? (i := 33) rfl)) (hw _ (List.mem_of_getElem? (i := 7) rfl)) (by decide) (by decide)) q66a q66c (g := (mkF m 165 #[iv p1, .val (.long q2), .second, .val (.long q3), .second, .val (.long q4), .second, .val (.long q5), .second, iv p6, iv (p1 &&& (2147483647 : Int32)), .val (.long (own_tri (p1 &&& (2147483647 : Int32)))), .second, iv 0, iv 1, iv 1, .val (.long (((p1 &&& (2147483647 : Int32)).toInt64) + q3)), .second, .val (.long (own_tri (p1 &&& (2147483647 : Int32)))), .second, .val (.long 0), .second, rv b62, iv 1] [(.ref b62)])) rfl (by rw [hml]; rfl) (Steps.refl _) (argsL := []) (rest := []) (lenOf pd_4 rfl) rfl (by show 2 * 0 + _ ≤ _; exact Nat.le_of_eq rfl) (hb hby at_165) (fun _ _ => ⟨rfl, rfl, (by decide : 1 + 0 ≤ _), (by decide : 5 + 0 ≤ _)⟩)
          dsimp only [Pt.U, Pt.locs, Pt.cells, Pt.slots] at X66 l66 y66 z66 st66 hQ66
          subst l66 y66 z66
          obtain ⟨rfl, Nq66, e66⟩ := hQ66
          have N66 := Fr.app N63 Nq66
          refine own_tr st66 ?_
          show own_Go _ _ _ _ (T66.setTop (mkF m 168 #[iv p1, .val (.long q2), .second, .val (.long q3), .second, .val (.long q4), .second, .val (.long q5), .second, iv p6, iv (p1 &&& (2147483647 : Int32)), .val (.long (own_tri (p1 &&& (2147483647 : Int32)))), .second, iv 0, iv 1, iv 1, .val (.long (((p1 &&& (2147483647 : Int32)).toInt64) + q3)), .second, .val (.long (own_tri (p1 &&& (2147483647 : Int32)))), .second, .val (.long 0), .second, rv b62, iv 1] [(.int (own_ver (p1 &&& (2147483647 : Int32)) (((p1 &&& (2147483647 : Int32)).toInt64) + q3) (own_tri (p1 &&& (2147483647 : Int32))) (0 : Int64)))]))
          refine o_iload X66 hx (hb hby at_168) rfl ?_
          refine o_icmpNo X66 hx (hb hby at_170) (teq (own_verT (own_and0 p1) (own_addT hc129_65) rfl rfl)).2 ?_
          refine o_iconst X66 hx 1 (hb hby at_173) rfl ?_
          refine o_goto X66 hx (pc' := 178) (hb hby at_174) (by decide) (by decide) ?_
          have Kp69 : Keep h0 T63.heap [] := (((Keep.refl h0 []).ext E62).trans K63 (allS (Or.inr sz62) all0))
          exact own_end X66 e66 (v := some (.int (1 : Int32))) (fun h => by rw [Bd.returns] at h; cases h) hlk (fun fs hr => retN X66 hx (z := (1 : Int32)) (t := .boolean) Bd.returns (by simp) (hb hby at_178) hr) (Q := Q_rm0 Z a0 p1 q2 q3 q4 q5 p6 h0 n0) ⟨rfl, N66, Kp69⟩ (by decide) (by decide)
        · refine o_ifYes X63 hx (pc' := 160) (hb hby at_129) (feq hc129_65).2 (by decide) (by decide) ?_
          refine o_iconst X63 hx 0 (hb hby at_160) rfl ?_
          refine o_istore X63 hx (hb hby at_161) (l' := #[iv p1, .val (.long q2), .second, .val (.long q3), .second, .val (.long q4), .second, .val (.long q5), .second, iv p6, iv (p1 &&& (2147483647 : Int32)), .val (.long (own_tri (p1 &&& (2147483647 : Int32)))), .second, iv 0, iv 1, iv 1, .val (.long (((p1 &&& (2147483647 : Int32)).toInt64) + q3)), .second, .val (.long (own_tri (p1 &&& (2147483647 : Int32)))), .second, .val (.long 0), .second, rv b62, iv 0]) rfl ?_
          refine o_aload X63 hx (hb hby at_163) rfl rfl ?_
          have Zs71 : n0 ≤ T63.heap.size := (Nat.le_trans Zs64 K63.1)
          have Fa72 := (A62.keep K63)
          obtain ⟨cq70, kq70, q70a, q70b, q70c⟩ := isOf hZ rfl Fa72
          obtain ⟨_, _, ⟨T70, L70, k70, n70⟩, -, X70, ⟨Lc70, hQ70, l70, y70, z70⟩, st70⟩ := X63.virtualBack hx (y := (⟨"headway/bench/Transfer$Outcome", "verified", "()Z"⟩ : MethodName)) (z := (⟨"headway/bench/Transfer$Outcome", "verified", "()Z"⟩ : MethodName)) hown (mvT hZ (hw _ (List.mem_of_getElem? (i := 29) rfl))) (mvT hZ (hw _ (List.mem_of_getElem? (i := 30) rfl))) (notFace_of_selects (args := #[]) (mvT hZ (hw _ (List.mem_of_getElem? (i := 32) rfl)))) (mvT hZ (hw _ (List.mem_of_getElem? (i := 32) rfl))) (mvT hZ (hw _ (List.mem_of_getElem? (i := 31) rfl))) (by decide) (backOf (W := 0) (rm5 l Z a0 hw [] b62 (p1 &&& (2147483647 : Int32)) (((p1 &&& (2147483647 : Int32)).toInt64) + q3) (own_tri (p1 &&& (2147483647 : Int32))) (0 : Int64) T63.heap n0 Zs71 Fq63_0 Fq63_2 Fq63_3 Fq63_4) hZ (hw _ (List.mem_of_getElem? (i := 33) rfl)) (hw _ (List.mem_of_getElem? (i := 7) rfl)) (by decide) (by decide)) q70a q70c (g := (mkF m 165 #[iv p1, .val (.long q2), .second, .val (.long q3), .second, .val (.long q4), .second, .val (.long q5), .second, iv p6, iv (p1 &&& (2147483647 : Int32)), .val (.long (own_tri (p1 &&& (2147483647 : Int32)))), .second, iv 0, iv 1, iv 1, .val (.long (((p1 &&& (2147483647 : Int32)).toInt64) + q3)), .second, .val (.long (own_tri (p1 &&& (2147483647 : Int32)))), .second, .val (.long 0), .second, rv b62, iv 0] [(.ref b62)])) rfl (by rw [hml]; rfl) (Steps.refl _) (argsL := []) (rest := []) (lenOf pd_4 rfl) rfl (by show 2 * 0 + _ ≤ _; exact Nat.le_of_eq rfl) (hb hby at_165) (fun _ _ => ⟨rfl, rfl, (by decide : 1 + 0 ≤ _), (by decide : 5 + 0 ≤ _)⟩)
          dsimp only [Pt.U, Pt.locs, Pt.cells, Pt.slots] at X70 l70 y70 z70 st70 hQ70
          subst l70 y70 z70
          obtain ⟨rfl, Nq70, e70⟩ := hQ70
          have N70 := Fr.app N63 Nq70
          refine own_tr st70 ?_
          show own_Go _ _ _ _ (T70.setTop (mkF m 168 #[iv p1, .val (.long q2), .second, .val (.long q3), .second, .val (.long q4), .second, .val (.long q5), .second, iv p6, iv (p1 &&& (2147483647 : Int32)), .val (.long (own_tri (p1 &&& (2147483647 : Int32)))), .second, iv 0, iv 1, iv 1, .val (.long (((p1 &&& (2147483647 : Int32)).toInt64) + q3)), .second, .val (.long (own_tri (p1 &&& (2147483647 : Int32)))), .second, .val (.long 0), .second, rv b62, iv 0] [(.int (own_ver (p1 &&& (2147483647 : Int32)) (((p1 &&& (2147483647 : Int32)).toInt64) + q3) (own_tri (p1 &&& (2147483647 : Int32))) (0 : Int64)))]))
          refine o_iload X70 hx (hb hby at_168) rfl ?_
          refine o_icmpNo X70 hx (hb hby at_170) (teq (own_verF1 (own_addF hc129_65))).2 ?_
          refine o_iconst X70 hx 1 (hb hby at_173) rfl ?_
          refine o_goto X70 hx (pc' := 178) (hb hby at_174) (by decide) (by decide) ?_
          have Kp73 : Keep h0 T63.heap [] := (((Keep.refl h0 []).ext E62).trans K63 (allS (Or.inr sz62) all0))
          exact own_end X70 e70 (v := some (.int (1 : Int32))) (fun h => by rw [Bd.returns] at h; cases h) hlk (fun fs hr => retN X70 hx (z := (1 : Int32)) (t := .boolean) Bd.returns (by simp) (hb hby at_178) hr) (Q := Q_rm0 Z a0 p1 q2 q3 q4 q5 p6 h0 n0) ⟨rfl, N70, Kp73⟩ (by decide) (by decide)
  · refine o_ifNo X1 hx (hb hby at_17) (feq hc17_2).1 ?_
    refine o_iconst X1 hx 1 (hb hby at_20) rfl ?_
    refine o_goto X1 hx (pc' := 25) (hb hby at_21) (by decide) (by decide) ?_
    refine o_istore X1 hx (hb hby at_25) (l' := #[iv p1, .val (.long q2), .second, .val (.long q3), .second, .val (.long q4), .second, .val (.long q5), .second, iv p6, iv (p1 &&& (2147483647 : Int32)), .val (.long (own_tri (p1 &&& (2147483647 : Int32)))), .second, iv 1, .unset, .unset, .unset, .unset, .unset, .unset, .unset, .unset, .unset, .unset]) rfl ?_
    refine o_iload X1 hx (hb hby at_27) rfl ?_
    refine o_iconst X1 hx 2 (hb hby at_29) rfl ?_
    refine o_iand X1 hx (hb hby at_30) ?_
    by_cases hc31_74 : (p6 &&& (2 : Int32)) = (0 : Int32)
    · refine o_ifYes X1 hx (pc' := 38) (hb hby at_31) (teq hc31_74).1 (by decide) (by decide) ?_
      refine o_iconst X1 hx 0 (hb hby at_38) rfl ?_
      refine o_istore X1 hx (hb hby at_39) (l' := #[iv p1, .val (.long q2), .second, .val (.long q3), .second, .val (.long q4), .second, .val (.long q5), .second, iv p6, iv (p1 &&& (2147483647 : Int32)), .val (.long (own_tri (p1 &&& (2147483647 : Int32)))), .second, iv 1, iv 0, .unset, .unset, .unset, .unset, .unset, .unset, .unset, .unset, .unset]) rfl ?_
      refine o_iload X1 hx (hb hby at_41) rfl ?_
      refine o_iconst X1 hx 4 (hb hby at_43) rfl ?_
      refine o_iand X1 hx (hb hby at_44) ?_
      by_cases hc45_75 : (p6 &&& (4 : Int32)) = (0 : Int32)
      · refine o_ifYes X1 hx (pc' := 52) (hb hby at_45) (teq hc45_75).1 (by decide) (by decide) ?_
        refine o_iconst X1 hx 0 (hb hby at_52) rfl ?_
        refine o_istore X1 hx (hb hby at_53) (l' := #[iv p1, .val (.long q2), .second, .val (.long q3), .second, .val (.long q4), .second, .val (.long q5), .second, iv p6, iv (p1 &&& (2147483647 : Int32)), .val (.long (own_tri (p1 &&& (2147483647 : Int32)))), .second, iv 1, iv 0, iv 0, .unset, .unset, .unset, .unset, .unset, .unset, .unset, .unset]) rfl ?_
        refine o_iload X1 hx (hb hby at_55) rfl ?_
        refine o_ifNo X1 hx (hb hby at_57) (feq (by decide : ¬ ((1 : Int32) = (0 : Int32)))).1 ?_
        refine o_iload X1 hx (hb hby at_60) rfl ?_
        refine o_i2l X1 hx (hb hby at_62) ?_
        refine o_goto X1 hx (pc' := 71) (hb hby at_63) (by decide) (by decide) ?_
        refine o_lstore X1 hx (hb hby at_71) (l' := #[iv p1, .val (.long q2), .second, .val (.long q3), .second, .val (.long q4), .second, .val (.long q5), .second, iv p6, iv (p1 &&& (2147483647 : Int32)), .val (.long (own_tri (p1 &&& (2147483647 : Int32)))), .second, iv 1, iv 0, iv 0, .val (.long ((p1 &&& (2147483647 : Int32)).toInt64)), .second, .unset, .unset, .unset, .unset, .unset, .unset]) rfl ?_
        refine o_iload X1 hx (hb hby at_73) rfl ?_
        refine o_ifYes X1 hx (pc' := 83) (hb hby at_75) (teq (by decide : (0 : Int32) = (0 : Int32))).1 (by decide) (by decide) ?_
        refine o_lload X1 hx (hb hby at_83) rfl ?_
        refine o_lload X1 hx (hb hby at_85) rfl ?_
        refine o_ladd X1 hx (hb hby at_87) ?_
        refine o_lstore X1 hx (hb hby at_88) (l' := #[iv p1, .val (.long q2), .second, .val (.long q3), .second, .val (.long q4), .second, .val (.long q5), .second, iv p6, iv (p1 &&& (2147483647 : Int32)), .val (.long (own_tri (p1 &&& (2147483647 : Int32)))), .second, iv 1, iv 0, iv 0, .val (.long ((p1 &&& (2147483647 : Int32)).toInt64)), .second, .val (.long ((own_tri (p1 &&& (2147483647 : Int32))) + q4)), .second, .unset, .unset, .unset, .unset]) rfl ?_
        refine o_iload X1 hx (hb hby at_90) rfl ?_
        refine o_ifYes X1 hx (pc' := 99) (hb hby at_92) (teq (by decide : (0 : Int32) = (0 : Int32))).1 (by decide) (by decide) ?_
        refine o_lload X1 hx (hb hby at_99) rfl ?_
        refine o_lstore X1 hx (hb hby at_101) (l' := #[iv p1, .val (.long q2), .second, .val (.long q3), .second, .val (.long q4), .second, .val (.long q5), .second, iv p6, iv (p1 &&& (2147483647 : Int32)), .val (.long (own_tri (p1 &&& (2147483647 : Int32)))), .second, iv 1, iv 0, iv 0, .val (.long ((p1 &&& (2147483647 : Int32)).toInt64)), .second, .val (.long ((own_tri (p1 &&& (2147483647 : Int32))) + q4)), .second, .val (.long q5), .second, .unset, .unset]) rfl ?_
        obtain ⟨T76, h76, X76, e76, E76, A76, D76, -, st76⟩ := newO X1 hx hZ hown (hw _ (List.mem_of_getElem? (i := 5) rfl)) (hw _ (List.mem_of_getElem? (i := 6) rfl)) (hw _ (List.mem_of_getElem? (i := 7) rfl)) e1 (g := (mkF m 103 #[iv p1, .val (.long q2), .second, .val (.long q3), .second, .val (.long q4), .second, .val (.long q5), .second, iv p6, iv (p1 &&& (2147483647 : Int32)), .val (.long (own_tri (p1 &&& (2147483647 : Int32)))), .second, iv 1, iv 0, iv 0, .val (.long ((p1 &&& (2147483647 : Int32)).toInt64)), .second, .val (.long ((own_tri (p1 &&& (2147483647 : Int32))) + q4)), .second, .val (.long q5), .second, .unset, .unset] [])) rfl (hb hby at_103) (by decide) (by decide)
        obtain ⟨b76, g76⟩ : ∃ z, z = h0.size := ⟨_, rfl⟩
        rw [← g76] at A76 D76 st76
        have gg76 : n0 ≤ b76 := Nat.le_trans Z0 (Nat.le_of_eq g76.symm)
        have sz76 : h0.size ≤ b76 := Nat.le_trans (Keep.refl h0 []).1 (Nat.le_of_eq g76.symm)
        have Fi76_elements : Fld Z h76 b76 "headway/bench/Transfer$Outcome" "elements" "I" (.int (0 : Int32)) := D76 (Or.inr (hw _ (List.mem_of_getElem? (i := 20) rfl))) (ty := .int) (by decide)
        have Fi76_nanos : Fld Z h76 b76 "headway/bench/Transfer$Outcome" "nanos" "J" (.long (0 : Int64)) := D76 (Or.inr (hw _ (List.mem_of_getElem? (i := 22) rfl))) (ty := .long) (by decide)
        have Fi76_received : Fld Z h76 b76 "headway/bench/Transfer$Outcome" "received" "J" (.long (0 : Int64)) := D76 (Or.inr (hw _ (List.mem_of_getElem? (i := 24) rfl))) (ty := .long) (by decide)
        have Fi76_sum : Fld Z h76 b76 "headway/bench/Transfer$Outcome" "sum" "J" (.long (0 : Int64)) := D76 (Or.inr (hw _ (List.mem_of_getElem? (i := 26) rfl))) (ty := .long) (by decide)
        have Fi76_outOfOrder : Fld Z h76 b76 "headway/bench/Transfer$Outcome" "outOfOrder" "J" (.long (0 : Int64)) := D76 (Or.inr (hw _ (List.mem_of_getElem? (i := 28) rfl))) (ty := .long) (by decide)
        refine own_st st76 ?_
        show own_Go _ _ _ _ (T76.setTop (mkF m 106 #[iv p1, .val (.long q2), .second, .val (.long q3), .second, .val (.long q4), .second, .val (.long q5), .second, iv p6, iv (p1 &&& (2147483647 : Int32)), .val (.long (own_tri (p1 &&& (2147483647 : Int32)))), .second, iv 1, iv 0, iv 0, .val (.long ((p1 &&& (2147483647 : Int32)).toInt64)), .second, .val (.long ((own_tri (p1 &&& (2147483647 : Int32))) + q4)), .second, .val (.long q5), .second, .unset, .unset] [(.ref b76)]))
        refine o_dup X76 hx (hb hby at_106) rfl ?_
        refine o_iload X76 hx (hb hby at_107) rfl ?_
        refine o_lloadN X76 hx (hb hby at_109) rfl ?_
        refine o_lload X76 hx (hb hby at_110) rfl ?_
        refine o_lload X76 hx (hb hby at_112) rfl ?_
        refine o_lload X76 hx (hb hby at_114) rfl ?_
        have Zs78 : n0 ≤ h76.size := (Nat.le_trans Z0 E76.1)
        obtain ⟨_, _, ⟨T77, L77, k77, n77⟩, -, X77, ⟨Lc77, hQ77, l77, y77, z77⟩, st77⟩ := X76.specialBack hx (y := (⟨"headway/bench/Transfer$Outcome", "<init>", "(IJJJJ)V"⟩ : MethodName)) rfl hown (mvT hZ (hw _ (List.mem_of_getElem? (i := 8) rfl))) (mvT hZ (hw _ (List.mem_of_getElem? (i := 9) rfl))) (mvT hZ (hw _ (List.mem_of_getElem? (i := 10) rfl))) (by decide) (backOf (W := 1) (rm2 l Z a0 hw [] b76 (p1 &&& (2147483647 : Int32)) q2 ((p1 &&& (2147483647 : Int32)).toInt64) ((own_tri (p1 &&& (2147483647 : Int32))) + q4) q5  h76 n0 Zs78 A76 gg76 Fi76_elements Fi76_nanos Fi76_received Fi76_sum Fi76_outOfOrder) hZ (hw _ (List.mem_of_getElem? (i := 10) rfl)) (hw _ (List.mem_of_getElem? (i := 7) rfl)) (by decide) (by decide)) (g := (mkF m 116 #[iv p1, .val (.long q2), .second, .val (.long q3), .second, .val (.long q4), .second, .val (.long q5), .second, iv p6, iv (p1 &&& (2147483647 : Int32)), .val (.long (own_tri (p1 &&& (2147483647 : Int32)))), .second, iv 1, iv 0, iv 0, .val (.long ((p1 &&& (2147483647 : Int32)).toInt64)), .second, .val (.long ((own_tri (p1 &&& (2147483647 : Int32))) + q4)), .second, .val (.long q5), .second, .unset, .unset] [(.long q5), (.long ((own_tri (p1 &&& (2147483647 : Int32))) + q4)), (.long ((p1 &&& (2147483647 : Int32)).toInt64)), (.long q2), (.int (p1 &&& (2147483647 : Int32))), (.ref b76), (.ref b76)])) rfl (by rw [hml]; rfl) (Steps.refl _) (a := b76) (argsL := [(.int (p1 &&& (2147483647 : Int32))), (.long q2), (.long ((p1 &&& (2147483647 : Int32)).toInt64)), (.long ((own_tri (p1 &&& (2147483647 : Int32))) + q4)), (.long q5)]) (rest := [(.ref b76)]) (lenOf pd_3 rfl) rfl (by show 2 * 0 + _ ≤ _; exact Nat.le_of_eq rfl) (hb hby at_116) (fun _ _ => ⟨rfl, e76, (by decide : 1 + 0 ≤ _), (by decide : 5 + 0 ≤ _)⟩)
        dsimp only [Pt.U, Pt.locs, Pt.cells, Pt.slots] at X77 l77 y77 z77 st77 hQ77
        subst l77 y77 z77
        obtain ⟨rfl, Nq77, K77, Fq77_0, Fq77_1, Fq77_2, Fq77_3, Fq77_4⟩ := hQ77
        have N77 := Fr.app N1 Nq77
        refine own_tr st77 ?_
        show own_Go _ _ _ _ (T77.setTop (mkF m 119 #[iv p1, .val (.long q2), .second, .val (.long q3), .second, .val (.long q4), .second, .val (.long q5), .second, iv p6, iv (p1 &&& (2147483647 : Int32)), .val (.long (own_tri (p1 &&& (2147483647 : Int32)))), .second, iv 1, iv 0, iv 0, .val (.long ((p1 &&& (2147483647 : Int32)).toInt64)), .second, .val (.long ((own_tri (p1 &&& (2147483647 : Int32))) + q4)), .second, .val (.long q5), .second, .unset, .unset] [(.ref b76)]))
        refine o_astore X77 hx (hb hby at_119) rfl (l' := #[iv p1, .val (.long q2), .second, .val (.long q3), .second, .val (.long q4), .second, .val (.long q5), .second, iv p6, iv (p1 &&& (2147483647 : Int32)), .val (.long (own_tri (p1 &&& (2147483647 : Int32)))), .second, iv 1, iv 0, iv 0, .val (.long ((p1 &&& (2147483647 : Int32)).toInt64)), .second, .val (.long ((own_tri (p1 &&& (2147483647 : Int32))) + q4)), .second, .val (.long q5), .second, rv b76, .unset]) rfl ?_
        refine o_iload X77 hx (hb hby at_121) rfl ?_
        refine o_ifYes X77 hx (pc' := 132) (hb hby at_123) (feq (by decide : ¬ ((1 : Int32) = (0 : Int32)))).2 (by decide) (by decide) ?_
        refine o_iload X77 hx (hb hby at_132) rfl ?_
        refine o_ifNo X77 hx (hb hby at_134) (teq (by decide : (0 : Int32) = (0 : Int32))).2 ?_
        refine o_lload X77 hx (hb hby at_137) rfl ?_
        refine o_lconst X77 hx 0 (hb hby at_139) rfl ?_
        refine o_lcmp X77 hx (hb hby at_140) ?_
        by_cases hc141_79 : (lcmpW q4 (0 : Int64)) = (0 : Int32)
        · refine o_ifNo X77 hx (hb hby at_141) (teq hc141_79).2 ?_
          refine o_iload X77 hx (hb hby at_144) rfl ?_
          refine o_ifNo X77 hx (hb hby at_146) (teq (by decide : (0 : Int32) = (0 : Int32))).2 ?_
          refine o_lload X77 hx (hb hby at_149) rfl ?_
          refine o_lconst X77 hx 0 (hb hby at_151) rfl ?_
          refine o_lcmp X77 hx (hb hby at_152) ?_
          by_cases hc153_80 : (lcmpW q5 (0 : Int64)) = (0 : Int32)
          · refine o_ifNo X77 hx (hb hby at_153) (teq hc153_80).2 ?_
            refine o_iconst X77 hx 1 (hb hby at_156) rfl ?_
            refine o_goto X77 hx (pc' := 161) (hb hby at_157) (by decide) (by decide) ?_
            refine o_istore X77 hx (hb hby at_161) (l' := #[iv p1, .val (.long q2), .second, .val (.long q3), .second, .val (.long q4), .second, .val (.long q5), .second, iv p6, iv (p1 &&& (2147483647 : Int32)), .val (.long (own_tri (p1 &&& (2147483647 : Int32)))), .second, iv 1, iv 0, iv 0, .val (.long ((p1 &&& (2147483647 : Int32)).toInt64)), .second, .val (.long ((own_tri (p1 &&& (2147483647 : Int32))) + q4)), .second, .val (.long q5), .second, rv b76, iv 1]) rfl ?_
            refine o_aload X77 hx (hb hby at_163) rfl rfl ?_
            have Zs82 : n0 ≤ T77.heap.size := (Nat.le_trans Zs78 K77.1)
            have Fa83 := (A76.keep K77)
            obtain ⟨cq81, kq81, q81a, q81b, q81c⟩ := isOf hZ rfl Fa83
            obtain ⟨_, _, ⟨T81, L81, k81, n81⟩, -, X81, ⟨Lc81, hQ81, l81, y81, z81⟩, st81⟩ := X77.virtualBack hx (y := (⟨"headway/bench/Transfer$Outcome", "verified", "()Z"⟩ : MethodName)) (z := (⟨"headway/bench/Transfer$Outcome", "verified", "()Z"⟩ : MethodName)) hown (mvT hZ (hw _ (List.mem_of_getElem? (i := 29) rfl))) (mvT hZ (hw _ (List.mem_of_getElem? (i := 30) rfl))) (notFace_of_selects (args := #[]) (mvT hZ (hw _ (List.mem_of_getElem? (i := 32) rfl)))) (mvT hZ (hw _ (List.mem_of_getElem? (i := 32) rfl))) (mvT hZ (hw _ (List.mem_of_getElem? (i := 31) rfl))) (by decide) (backOf (W := 0) (rm5 l Z a0 hw [] b76 (p1 &&& (2147483647 : Int32)) ((p1 &&& (2147483647 : Int32)).toInt64) ((own_tri (p1 &&& (2147483647 : Int32))) + q4) q5 T77.heap n0 Zs82 Fq77_0 Fq77_2 Fq77_3 Fq77_4) hZ (hw _ (List.mem_of_getElem? (i := 33) rfl)) (hw _ (List.mem_of_getElem? (i := 7) rfl)) (by decide) (by decide)) q81a q81c (g := (mkF m 165 #[iv p1, .val (.long q2), .second, .val (.long q3), .second, .val (.long q4), .second, .val (.long q5), .second, iv p6, iv (p1 &&& (2147483647 : Int32)), .val (.long (own_tri (p1 &&& (2147483647 : Int32)))), .second, iv 1, iv 0, iv 0, .val (.long ((p1 &&& (2147483647 : Int32)).toInt64)), .second, .val (.long ((own_tri (p1 &&& (2147483647 : Int32))) + q4)), .second, .val (.long q5), .second, rv b76, iv 1] [(.ref b76)])) rfl (by rw [hml]; rfl) (Steps.refl _) (argsL := []) (rest := []) (lenOf pd_4 rfl) rfl (by show 2 * 0 + _ ≤ _; exact Nat.le_of_eq rfl) (hb hby at_165) (fun _ _ => ⟨rfl, rfl, (by decide : 1 + 0 ≤ _), (by decide : 5 + 0 ≤ _)⟩)
            dsimp only [Pt.U, Pt.locs, Pt.cells, Pt.slots] at X81 l81 y81 z81 st81 hQ81
            subst l81 y81 z81
            obtain ⟨rfl, Nq81, e81⟩ := hQ81
            have N81 := Fr.app N77 Nq81
            refine own_tr st81 ?_
            show own_Go _ _ _ _ (T81.setTop (mkF m 168 #[iv p1, .val (.long q2), .second, .val (.long q3), .second, .val (.long q4), .second, .val (.long q5), .second, iv p6, iv (p1 &&& (2147483647 : Int32)), .val (.long (own_tri (p1 &&& (2147483647 : Int32)))), .second, iv 1, iv 0, iv 0, .val (.long ((p1 &&& (2147483647 : Int32)).toInt64)), .second, .val (.long ((own_tri (p1 &&& (2147483647 : Int32))) + q4)), .second, .val (.long q5), .second, rv b76, iv 1] [(.int (own_ver (p1 &&& (2147483647 : Int32)) ((p1 &&& (2147483647 : Int32)).toInt64) ((own_tri (p1 &&& (2147483647 : Int32))) + q4) q5))]))
            refine o_iload X81 hx (hb hby at_168) rfl ?_
            refine o_icmpNo X81 hx (hb hby at_170) (teq (own_verT (own_and0 p1) rfl (own_addT hc141_79) ((lw_eq _ _).mp hc153_80))).2 ?_
            refine o_iconst X81 hx 1 (hb hby at_173) rfl ?_
            refine o_goto X81 hx (pc' := 178) (hb hby at_174) (by decide) (by decide) ?_
            have Kp84 : Keep h0 T77.heap [] := (((Keep.refl h0 []).ext E76).trans K77 (allS (Or.inr sz76) all0))
            exact own_end X81 e81 (v := some (.int (1 : Int32))) (fun h => by rw [Bd.returns] at h; cases h) hlk (fun fs hr => retN X81 hx (z := (1 : Int32)) (t := .boolean) Bd.returns (by simp) (hb hby at_178) hr) (Q := Q_rm0 Z a0 p1 q2 q3 q4 q5 p6 h0 n0) ⟨rfl, N81, Kp84⟩ (by decide) (by decide)
          · refine o_ifYes X77 hx (pc' := 160) (hb hby at_153) (feq hc153_80).2 (by decide) (by decide) ?_
            refine o_iconst X77 hx 0 (hb hby at_160) rfl ?_
            refine o_istore X77 hx (hb hby at_161) (l' := #[iv p1, .val (.long q2), .second, .val (.long q3), .second, .val (.long q4), .second, .val (.long q5), .second, iv p6, iv (p1 &&& (2147483647 : Int32)), .val (.long (own_tri (p1 &&& (2147483647 : Int32)))), .second, iv 1, iv 0, iv 0, .val (.long ((p1 &&& (2147483647 : Int32)).toInt64)), .second, .val (.long ((own_tri (p1 &&& (2147483647 : Int32))) + q4)), .second, .val (.long q5), .second, rv b76, iv 0]) rfl ?_
            refine o_aload X77 hx (hb hby at_163) rfl rfl ?_
            have Zs86 : n0 ≤ T77.heap.size := (Nat.le_trans Zs78 K77.1)
            have Fa87 := (A76.keep K77)
            obtain ⟨cq85, kq85, q85a, q85b, q85c⟩ := isOf hZ rfl Fa87
            obtain ⟨_, _, ⟨T85, L85, k85, n85⟩, -, X85, ⟨Lc85, hQ85, l85, y85, z85⟩, st85⟩ := X77.virtualBack hx (y := (⟨"headway/bench/Transfer$Outcome", "verified", "()Z"⟩ : MethodName)) (z := (⟨"headway/bench/Transfer$Outcome", "verified", "()Z"⟩ : MethodName)) hown (mvT hZ (hw _ (List.mem_of_getElem? (i := 29) rfl))) (mvT hZ (hw _ (List.mem_of_getElem? (i := 30) rfl))) (notFace_of_selects (args := #[]) (mvT hZ (hw _ (List.mem_of_getElem? (i := 32) rfl)))) (mvT hZ (hw _ (List.mem_of_getElem? (i := 32) rfl))) (mvT hZ (hw _ (List.mem_of_getElem? (i := 31) rfl))) (by decide) (backOf (W := 0) (rm5 l Z a0 hw [] b76 (p1 &&& (2147483647 : Int32)) ((p1 &&& (2147483647 : Int32)).toInt64) ((own_tri (p1 &&& (2147483647 : Int32))) + q4) q5 T77.heap n0 Zs86 Fq77_0 Fq77_2 Fq77_3 Fq77_4) hZ (hw _ (List.mem_of_getElem? (i := 33) rfl)) (hw _ (List.mem_of_getElem? (i := 7) rfl)) (by decide) (by decide)) q85a q85c (g := (mkF m 165 #[iv p1, .val (.long q2), .second, .val (.long q3), .second, .val (.long q4), .second, .val (.long q5), .second, iv p6, iv (p1 &&& (2147483647 : Int32)), .val (.long (own_tri (p1 &&& (2147483647 : Int32)))), .second, iv 1, iv 0, iv 0, .val (.long ((p1 &&& (2147483647 : Int32)).toInt64)), .second, .val (.long ((own_tri (p1 &&& (2147483647 : Int32))) + q4)), .second, .val (.long q5), .second, rv b76, iv 0] [(.ref b76)])) rfl (by rw [hml]; rfl) (Steps.refl _) (argsL := []) (rest := []) (lenOf pd_4 rfl) rfl (by show 2 * 0 + _ ≤ _; exact Nat.le_of_eq rfl) (hb hby at_165) (fun _ _ => ⟨rfl, rfl, (by decide : 1 + 0 ≤ _), (by decide : 5 + 0 ≤ _)⟩)
            dsimp only [Pt.U, Pt.locs, Pt.cells, Pt.slots] at X85 l85 y85 z85 st85 hQ85
            subst l85 y85 z85
            obtain ⟨rfl, Nq85, e85⟩ := hQ85
            have N85 := Fr.app N77 Nq85
            refine own_tr st85 ?_
            show own_Go _ _ _ _ (T85.setTop (mkF m 168 #[iv p1, .val (.long q2), .second, .val (.long q3), .second, .val (.long q4), .second, .val (.long q5), .second, iv p6, iv (p1 &&& (2147483647 : Int32)), .val (.long (own_tri (p1 &&& (2147483647 : Int32)))), .second, iv 1, iv 0, iv 0, .val (.long ((p1 &&& (2147483647 : Int32)).toInt64)), .second, .val (.long ((own_tri (p1 &&& (2147483647 : Int32))) + q4)), .second, .val (.long q5), .second, rv b76, iv 0] [(.int (own_ver (p1 &&& (2147483647 : Int32)) ((p1 &&& (2147483647 : Int32)).toInt64) ((own_tri (p1 &&& (2147483647 : Int32))) + q4) q5))]))
            refine o_iload X85 hx (hb hby at_168) rfl ?_
            refine o_icmpNo X85 hx (hb hby at_170) (teq (own_verF3 hc153_80)).2 ?_
            refine o_iconst X85 hx 1 (hb hby at_173) rfl ?_
            refine o_goto X85 hx (pc' := 178) (hb hby at_174) (by decide) (by decide) ?_
            have Kp88 : Keep h0 T77.heap [] := (((Keep.refl h0 []).ext E76).trans K77 (allS (Or.inr sz76) all0))
            exact own_end X85 e85 (v := some (.int (1 : Int32))) (fun h => by rw [Bd.returns] at h; cases h) hlk (fun fs hr => retN X85 hx (z := (1 : Int32)) (t := .boolean) Bd.returns (by simp) (hb hby at_178) hr) (Q := Q_rm0 Z a0 p1 q2 q3 q4 q5 p6 h0 n0) ⟨rfl, N85, Kp88⟩ (by decide) (by decide)
        · refine o_ifYes X77 hx (pc' := 160) (hb hby at_141) (feq hc141_79).2 (by decide) (by decide) ?_
          refine o_iconst X77 hx 0 (hb hby at_160) rfl ?_
          refine o_istore X77 hx (hb hby at_161) (l' := #[iv p1, .val (.long q2), .second, .val (.long q3), .second, .val (.long q4), .second, .val (.long q5), .second, iv p6, iv (p1 &&& (2147483647 : Int32)), .val (.long (own_tri (p1 &&& (2147483647 : Int32)))), .second, iv 1, iv 0, iv 0, .val (.long ((p1 &&& (2147483647 : Int32)).toInt64)), .second, .val (.long ((own_tri (p1 &&& (2147483647 : Int32))) + q4)), .second, .val (.long q5), .second, rv b76, iv 0]) rfl ?_
          refine o_aload X77 hx (hb hby at_163) rfl rfl ?_
          have Zs90 : n0 ≤ T77.heap.size := (Nat.le_trans Zs78 K77.1)
          have Fa91 := (A76.keep K77)
          obtain ⟨cq89, kq89, q89a, q89b, q89c⟩ := isOf hZ rfl Fa91
          obtain ⟨_, _, ⟨T89, L89, k89, n89⟩, -, X89, ⟨Lc89, hQ89, l89, y89, z89⟩, st89⟩ := X77.virtualBack hx (y := (⟨"headway/bench/Transfer$Outcome", "verified", "()Z"⟩ : MethodName)) (z := (⟨"headway/bench/Transfer$Outcome", "verified", "()Z"⟩ : MethodName)) hown (mvT hZ (hw _ (List.mem_of_getElem? (i := 29) rfl))) (mvT hZ (hw _ (List.mem_of_getElem? (i := 30) rfl))) (notFace_of_selects (args := #[]) (mvT hZ (hw _ (List.mem_of_getElem? (i := 32) rfl)))) (mvT hZ (hw _ (List.mem_of_getElem? (i := 32) rfl))) (mvT hZ (hw _ (List.mem_of_getElem? (i := 31) rfl))) (by decide) (backOf (W := 0) (rm5 l Z a0 hw [] b76 (p1 &&& (2147483647 : Int32)) ((p1 &&& (2147483647 : Int32)).toInt64) ((own_tri (p1 &&& (2147483647 : Int32))) + q4) q5 T77.heap n0 Zs90 Fq77_0 Fq77_2 Fq77_3 Fq77_4) hZ (hw _ (List.mem_of_getElem? (i := 33) rfl)) (hw _ (List.mem_of_getElem? (i := 7) rfl)) (by decide) (by decide)) q89a q89c (g := (mkF m 165 #[iv p1, .val (.long q2), .second, .val (.long q3), .second, .val (.long q4), .second, .val (.long q5), .second, iv p6, iv (p1 &&& (2147483647 : Int32)), .val (.long (own_tri (p1 &&& (2147483647 : Int32)))), .second, iv 1, iv 0, iv 0, .val (.long ((p1 &&& (2147483647 : Int32)).toInt64)), .second, .val (.long ((own_tri (p1 &&& (2147483647 : Int32))) + q4)), .second, .val (.long q5), .second, rv b76, iv 0] [(.ref b76)])) rfl (by rw [hml]; rfl) (Steps.refl _) (argsL := []) (rest := []) (lenOf pd_4 rfl) rfl (by show 2 * 0 + _ ≤ _; exact Nat.le_of_eq rfl) (hb hby at_165) (fun _ _ => ⟨rfl, rfl, (by decide : 1 + 0 ≤ _), (by decide : 5 + 0 ≤ _)⟩)
          dsimp only [Pt.U, Pt.locs, Pt.cells, Pt.slots] at X89 l89 y89 z89 st89 hQ89
          subst l89 y89 z89
          obtain ⟨rfl, Nq89, e89⟩ := hQ89
          have N89 := Fr.app N77 Nq89
          refine own_tr st89 ?_
          show own_Go _ _ _ _ (T89.setTop (mkF m 168 #[iv p1, .val (.long q2), .second, .val (.long q3), .second, .val (.long q4), .second, .val (.long q5), .second, iv p6, iv (p1 &&& (2147483647 : Int32)), .val (.long (own_tri (p1 &&& (2147483647 : Int32)))), .second, iv 1, iv 0, iv 0, .val (.long ((p1 &&& (2147483647 : Int32)).toInt64)), .second, .val (.long ((own_tri (p1 &&& (2147483647 : Int32))) + q4)), .second, .val (.long q5), .second, rv b76, iv 0] [(.int (own_ver (p1 &&& (2147483647 : Int32)) ((p1 &&& (2147483647 : Int32)).toInt64) ((own_tri (p1 &&& (2147483647 : Int32))) + q4) q5))]))
          refine o_iload X89 hx (hb hby at_168) rfl ?_
          refine o_icmpNo X89 hx (hb hby at_170) (teq (own_verF2 (own_and0 p1) (own_addF hc141_79))).2 ?_
          refine o_iconst X89 hx 1 (hb hby at_173) rfl ?_
          refine o_goto X89 hx (pc' := 178) (hb hby at_174) (by decide) (by decide) ?_
          have Kp92 : Keep h0 T77.heap [] := (((Keep.refl h0 []).ext E76).trans K77 (allS (Or.inr sz76) all0))
          exact own_end X89 e89 (v := some (.int (1 : Int32))) (fun h => by rw [Bd.returns] at h; cases h) hlk (fun fs hr => retN X89 hx (z := (1 : Int32)) (t := .boolean) Bd.returns (by simp) (hb hby at_178) hr) (Q := Q_rm0 Z a0 p1 q2 q3 q4 q5 p6 h0 n0) ⟨rfl, N89, Kp92⟩ (by decide) (by decide)
      · refine o_ifNo X1 hx (hb hby at_45) (feq hc45_75).1 ?_
        refine o_iconst X1 hx 1 (hb hby at_48) rfl ?_
        refine o_goto X1 hx (pc' := 53) (hb hby at_49) (by decide) (by decide) ?_
        refine o_istore X1 hx (hb hby at_53) (l' := #[iv p1, .val (.long q2), .second, .val (.long q3), .second, .val (.long q4), .second, .val (.long q5), .second, iv p6, iv (p1 &&& (2147483647 : Int32)), .val (.long (own_tri (p1 &&& (2147483647 : Int32)))), .second, iv 1, iv 0, iv 1, .unset, .unset, .unset, .unset, .unset, .unset, .unset, .unset]) rfl ?_
        refine o_iload X1 hx (hb hby at_55) rfl ?_
        refine o_ifNo X1 hx (hb hby at_57) (feq (by decide : ¬ ((1 : Int32) = (0 : Int32)))).1 ?_
        refine o_iload X1 hx (hb hby at_60) rfl ?_
        refine o_i2l X1 hx (hb hby at_62) ?_
        refine o_goto X1 hx (pc' := 71) (hb hby at_63) (by decide) (by decide) ?_
        refine o_lstore X1 hx (hb hby at_71) (l' := #[iv p1, .val (.long q2), .second, .val (.long q3), .second, .val (.long q4), .second, .val (.long q5), .second, iv p6, iv (p1 &&& (2147483647 : Int32)), .val (.long (own_tri (p1 &&& (2147483647 : Int32)))), .second, iv 1, iv 0, iv 1, .val (.long ((p1 &&& (2147483647 : Int32)).toInt64)), .second, .unset, .unset, .unset, .unset, .unset, .unset]) rfl ?_
        refine o_iload X1 hx (hb hby at_73) rfl ?_
        refine o_ifYes X1 hx (pc' := 83) (hb hby at_75) (teq (by decide : (0 : Int32) = (0 : Int32))).1 (by decide) (by decide) ?_
        refine o_lload X1 hx (hb hby at_83) rfl ?_
        refine o_lload X1 hx (hb hby at_85) rfl ?_
        refine o_ladd X1 hx (hb hby at_87) ?_
        refine o_lstore X1 hx (hb hby at_88) (l' := #[iv p1, .val (.long q2), .second, .val (.long q3), .second, .val (.long q4), .second, .val (.long q5), .second, iv p6, iv (p1 &&& (2147483647 : Int32)), .val (.long (own_tri (p1 &&& (2147483647 : Int32)))), .second, iv 1, iv 0, iv 1, .val (.long ((p1 &&& (2147483647 : Int32)).toInt64)), .second, .val (.long ((own_tri (p1 &&& (2147483647 : Int32))) + q4)), .second, .unset, .unset, .unset, .unset]) rfl ?_
        refine o_iload X1 hx (hb hby at_90) rfl ?_
        refine o_ifNo X1 hx (hb hby at_92) (feq (by decide : ¬ ((1 : Int32) = (0 : Int32)))).1 ?_
        refine o_lconst X1 hx 0 (hb hby at_95) rfl ?_
        refine o_goto X1 hx (pc' := 101) (hb hby at_96) (by decide) (by decide) ?_
        refine o_lstore X1 hx (hb hby at_101) (l' := #[iv p1, .val (.long q2), .second, .val (.long q3), .second, .val (.long q4), .second, .val (.long q5), .second, iv p6, iv (p1 &&& (2147483647 : Int32)), .val (.long (own_tri (p1 &&& (2147483647 : Int32)))), .second, iv 1, iv 0, iv 1, .val (.long ((p1 &&& (2147483647 : Int32)).toInt64)), .second, .val (.long ((own_tri (p1 &&& (2147483647 : Int32))) + q4)), .second, .val (.long 0), .second, .unset, .unset]) rfl ?_
        obtain ⟨T93, h93, X93, e93, E93, A93, D93, -, st93⟩ := newO X1 hx hZ hown (hw _ (List.mem_of_getElem? (i := 5) rfl)) (hw _ (List.mem_of_getElem? (i := 6) rfl)) (hw _ (List.mem_of_getElem? (i := 7) rfl)) e1 (g := (mkF m 103 #[iv p1, .val (.long q2), .second, .val (.long q3), .second, .val (.long q4), .second, .val (.long q5), .second, iv p6, iv (p1 &&& (2147483647 : Int32)), .val (.long (own_tri (p1 &&& (2147483647 : Int32)))), .second, iv 1, iv 0, iv 1, .val (.long ((p1 &&& (2147483647 : Int32)).toInt64)), .second, .val (.long ((own_tri (p1 &&& (2147483647 : Int32))) + q4)), .second, .val (.long 0), .second, .unset, .unset] [])) rfl (hb hby at_103) (by decide) (by decide)
        obtain ⟨b93, g93⟩ : ∃ z, z = h0.size := ⟨_, rfl⟩
        rw [← g93] at A93 D93 st93
        have gg93 : n0 ≤ b93 := Nat.le_trans Z0 (Nat.le_of_eq g93.symm)
        have sz93 : h0.size ≤ b93 := Nat.le_trans (Keep.refl h0 []).1 (Nat.le_of_eq g93.symm)
        have Fi93_elements : Fld Z h93 b93 "headway/bench/Transfer$Outcome" "elements" "I" (.int (0 : Int32)) := D93 (Or.inr (hw _ (List.mem_of_getElem? (i := 20) rfl))) (ty := .int) (by decide)
        have Fi93_nanos : Fld Z h93 b93 "headway/bench/Transfer$Outcome" "nanos" "J" (.long (0 : Int64)) := D93 (Or.inr (hw _ (List.mem_of_getElem? (i := 22) rfl))) (ty := .long) (by decide)
        have Fi93_received : Fld Z h93 b93 "headway/bench/Transfer$Outcome" "received" "J" (.long (0 : Int64)) := D93 (Or.inr (hw _ (List.mem_of_getElem? (i := 24) rfl))) (ty := .long) (by decide)
        have Fi93_sum : Fld Z h93 b93 "headway/bench/Transfer$Outcome" "sum" "J" (.long (0 : Int64)) := D93 (Or.inr (hw _ (List.mem_of_getElem? (i := 26) rfl))) (ty := .long) (by decide)
        have Fi93_outOfOrder : Fld Z h93 b93 "headway/bench/Transfer$Outcome" "outOfOrder" "J" (.long (0 : Int64)) := D93 (Or.inr (hw _ (List.mem_of_getElem? (i := 28) rfl))) (ty := .long) (by decide)
        refine own_st st93 ?_
        show own_Go _ _ _ _ (T93.setTop (mkF m 106 #[iv p1, .val (.long q2), .second, .val (.long q3), .second, .val (.long q4), .second, .val (.long q5), .second, iv p6, iv (p1 &&& (2147483647 : Int32)), .val (.long (own_tri (p1 &&& (2147483647 : Int32)))), .second, iv 1, iv 0, iv 1, .val (.long ((p1 &&& (2147483647 : Int32)).toInt64)), .second, .val (.long ((own_tri (p1 &&& (2147483647 : Int32))) + q4)), .second, .val (.long 0), .second, .unset, .unset] [(.ref b93)]))
        refine o_dup X93 hx (hb hby at_106) rfl ?_
        refine o_iload X93 hx (hb hby at_107) rfl ?_
        refine o_lloadN X93 hx (hb hby at_109) rfl ?_
        refine o_lload X93 hx (hb hby at_110) rfl ?_
        refine o_lload X93 hx (hb hby at_112) rfl ?_
        refine o_lload X93 hx (hb hby at_114) rfl ?_
        have Zs95 : n0 ≤ h93.size := (Nat.le_trans Z0 E93.1)
        obtain ⟨_, _, ⟨T94, L94, k94, n94⟩, -, X94, ⟨Lc94, hQ94, l94, y94, z94⟩, st94⟩ := X93.specialBack hx (y := (⟨"headway/bench/Transfer$Outcome", "<init>", "(IJJJJ)V"⟩ : MethodName)) rfl hown (mvT hZ (hw _ (List.mem_of_getElem? (i := 8) rfl))) (mvT hZ (hw _ (List.mem_of_getElem? (i := 9) rfl))) (mvT hZ (hw _ (List.mem_of_getElem? (i := 10) rfl))) (by decide) (backOf (W := 1) (rm2 l Z a0 hw [] b93 (p1 &&& (2147483647 : Int32)) q2 ((p1 &&& (2147483647 : Int32)).toInt64) ((own_tri (p1 &&& (2147483647 : Int32))) + q4) (0 : Int64)  h93 n0 Zs95 A93 gg93 Fi93_elements Fi93_nanos Fi93_received Fi93_sum Fi93_outOfOrder) hZ (hw _ (List.mem_of_getElem? (i := 10) rfl)) (hw _ (List.mem_of_getElem? (i := 7) rfl)) (by decide) (by decide)) (g := (mkF m 116 #[iv p1, .val (.long q2), .second, .val (.long q3), .second, .val (.long q4), .second, .val (.long q5), .second, iv p6, iv (p1 &&& (2147483647 : Int32)), .val (.long (own_tri (p1 &&& (2147483647 : Int32)))), .second, iv 1, iv 0, iv 1, .val (.long ((p1 &&& (2147483647 : Int32)).toInt64)), .second, .val (.long ((own_tri (p1 &&& (2147483647 : Int32))) + q4)), .second, .val (.long 0), .second, .unset, .unset] [(.long 0), (.long ((own_tri (p1 &&& (2147483647 : Int32))) + q4)), (.long ((p1 &&& (2147483647 : Int32)).toInt64)), (.long q2), (.int (p1 &&& (2147483647 : Int32))), (.ref b93), (.ref b93)])) rfl (by rw [hml]; rfl) (Steps.refl _) (a := b93) (argsL := [(.int (p1 &&& (2147483647 : Int32))), (.long q2), (.long ((p1 &&& (2147483647 : Int32)).toInt64)), (.long ((own_tri (p1 &&& (2147483647 : Int32))) + q4)), (.long 0)]) (rest := [(.ref b93)]) (lenOf pd_3 rfl) rfl (by show 2 * 0 + _ ≤ _; exact Nat.le_of_eq rfl) (hb hby at_116) (fun _ _ => ⟨rfl, e93, (by decide : 1 + 0 ≤ _), (by decide : 5 + 0 ≤ _)⟩)
        dsimp only [Pt.U, Pt.locs, Pt.cells, Pt.slots] at X94 l94 y94 z94 st94 hQ94
        subst l94 y94 z94
        obtain ⟨rfl, Nq94, K94, Fq94_0, Fq94_1, Fq94_2, Fq94_3, Fq94_4⟩ := hQ94
        have N94 := Fr.app N1 Nq94
        refine own_tr st94 ?_
        show own_Go _ _ _ _ (T94.setTop (mkF m 119 #[iv p1, .val (.long q2), .second, .val (.long q3), .second, .val (.long q4), .second, .val (.long q5), .second, iv p6, iv (p1 &&& (2147483647 : Int32)), .val (.long (own_tri (p1 &&& (2147483647 : Int32)))), .second, iv 1, iv 0, iv 1, .val (.long ((p1 &&& (2147483647 : Int32)).toInt64)), .second, .val (.long ((own_tri (p1 &&& (2147483647 : Int32))) + q4)), .second, .val (.long 0), .second, .unset, .unset] [(.ref b93)]))
        refine o_astore X94 hx (hb hby at_119) rfl (l' := #[iv p1, .val (.long q2), .second, .val (.long q3), .second, .val (.long q4), .second, .val (.long q5), .second, iv p6, iv (p1 &&& (2147483647 : Int32)), .val (.long (own_tri (p1 &&& (2147483647 : Int32)))), .second, iv 1, iv 0, iv 1, .val (.long ((p1 &&& (2147483647 : Int32)).toInt64)), .second, .val (.long ((own_tri (p1 &&& (2147483647 : Int32))) + q4)), .second, .val (.long 0), .second, rv b93, .unset]) rfl ?_
        refine o_iload X94 hx (hb hby at_121) rfl ?_
        refine o_ifYes X94 hx (pc' := 132) (hb hby at_123) (feq (by decide : ¬ ((1 : Int32) = (0 : Int32)))).2 (by decide) (by decide) ?_
        refine o_iload X94 hx (hb hby at_132) rfl ?_
        refine o_ifNo X94 hx (hb hby at_134) (teq (by decide : (0 : Int32) = (0 : Int32))).2 ?_
        refine o_lload X94 hx (hb hby at_137) rfl ?_
        refine o_lconst X94 hx 0 (hb hby at_139) rfl ?_
        refine o_lcmp X94 hx (hb hby at_140) ?_
        by_cases hc141_96 : (lcmpW q4 (0 : Int64)) = (0 : Int32)
        · refine o_ifNo X94 hx (hb hby at_141) (teq hc141_96).2 ?_
          refine o_iload X94 hx (hb hby at_144) rfl ?_
          refine o_ifYes X94 hx (pc' := 156) (hb hby at_146) (feq (by decide : ¬ ((1 : Int32) = (0 : Int32)))).2 (by decide) (by decide) ?_
          refine o_iconst X94 hx 1 (hb hby at_156) rfl ?_
          refine o_goto X94 hx (pc' := 161) (hb hby at_157) (by decide) (by decide) ?_
          refine o_istore X94 hx (hb hby at_161) (l' := #[iv p1, .val (.long q2), .second, .val (.long q3), .second, .val (.long q4), .second, .val (.long q5), .second, iv p6, iv (p1 &&& (2147483647 : Int32)), .val (.long (own_tri (p1 &&& (2147483647 : Int32)))), .second, iv 1, iv 0, iv 1, .val (.long ((p1 &&& (2147483647 : Int32)).toInt64)), .second, .val (.long ((own_tri (p1 &&& (2147483647 : Int32))) + q4)), .second, .val (.long 0), .second, rv b93, iv 1]) rfl ?_
          refine o_aload X94 hx (hb hby at_163) rfl rfl ?_
          have Zs98 : n0 ≤ T94.heap.size := (Nat.le_trans Zs95 K94.1)
          have Fa99 := (A93.keep K94)
          obtain ⟨cq97, kq97, q97a, q97b, q97c⟩ := isOf hZ rfl Fa99
          obtain ⟨_, _, ⟨T97, L97, k97, n97⟩, -, X97, ⟨Lc97, hQ97, l97, y97, z97⟩, st97⟩ := X94.virtualBack hx (y := (⟨"headway/bench/Transfer$Outcome", "verified", "()Z"⟩ : MethodName)) (z := (⟨"headway/bench/Transfer$Outcome", "verified", "()Z"⟩ : MethodName)) hown (mvT hZ (hw _ (List.mem_of_getElem? (i := 29) rfl))) (mvT hZ (hw _ (List.mem_of_getElem? (i := 30) rfl))) (notFace_of_selects (args := #[]) (mvT hZ (hw _ (List.mem_of_getElem? (i := 32) rfl)))) (mvT hZ (hw _ (List.mem_of_getElem? (i := 32) rfl))) (mvT hZ (hw _ (List.mem_of_getElem? (i := 31) rfl))) (by decide) (backOf (W := 0) (rm5 l Z a0 hw [] b93 (p1 &&& (2147483647 : Int32)) ((p1 &&& (2147483647 : Int32)).toInt64) ((own_tri (p1 &&& (2147483647 : Int32))) + q4) (0 : Int64) T94.heap n0 Zs98 Fq94_0 Fq94_2 Fq94_3 Fq94_4) hZ (hw _ (List.mem_of_getElem? (i := 33) rfl)) (hw _ (List.mem_of_getElem? (i := 7) rfl)) (by decide) (by decide)) q97a q97c (g := (mkF m 165 #[iv p1, .val (.long q2), .second, .val (.long q3), .second, .val (.long q4), .second, .val (.long q5), .second, iv p6, iv (p1 &&& (2147483647 : Int32)), .val (.long (own_tri (p1 &&& (2147483647 : Int32)))), .second, iv 1, iv 0, iv 1, .val (.long ((p1 &&& (2147483647 : Int32)).toInt64)), .second, .val (.long ((own_tri (p1 &&& (2147483647 : Int32))) + q4)), .second, .val (.long 0), .second, rv b93, iv 1] [(.ref b93)])) rfl (by rw [hml]; rfl) (Steps.refl _) (argsL := []) (rest := []) (lenOf pd_4 rfl) rfl (by show 2 * 0 + _ ≤ _; exact Nat.le_of_eq rfl) (hb hby at_165) (fun _ _ => ⟨rfl, rfl, (by decide : 1 + 0 ≤ _), (by decide : 5 + 0 ≤ _)⟩)
          dsimp only [Pt.U, Pt.locs, Pt.cells, Pt.slots] at X97 l97 y97 z97 st97 hQ97
          subst l97 y97 z97
          obtain ⟨rfl, Nq97, e97⟩ := hQ97
          have N97 := Fr.app N94 Nq97
          refine own_tr st97 ?_
          show own_Go _ _ _ _ (T97.setTop (mkF m 168 #[iv p1, .val (.long q2), .second, .val (.long q3), .second, .val (.long q4), .second, .val (.long q5), .second, iv p6, iv (p1 &&& (2147483647 : Int32)), .val (.long (own_tri (p1 &&& (2147483647 : Int32)))), .second, iv 1, iv 0, iv 1, .val (.long ((p1 &&& (2147483647 : Int32)).toInt64)), .second, .val (.long ((own_tri (p1 &&& (2147483647 : Int32))) + q4)), .second, .val (.long 0), .second, rv b93, iv 1] [(.int (own_ver (p1 &&& (2147483647 : Int32)) ((p1 &&& (2147483647 : Int32)).toInt64) ((own_tri (p1 &&& (2147483647 : Int32))) + q4) (0 : Int64)))]))
          refine o_iload X97 hx (hb hby at_168) rfl ?_
          refine o_icmpNo X97 hx (hb hby at_170) (teq (own_verT (own_and0 p1) rfl (own_addT hc141_96) rfl)).2 ?_
          refine o_iconst X97 hx 1 (hb hby at_173) rfl ?_
          refine o_goto X97 hx (pc' := 178) (hb hby at_174) (by decide) (by decide) ?_
          have Kp100 : Keep h0 T94.heap [] := (((Keep.refl h0 []).ext E93).trans K94 (allS (Or.inr sz93) all0))
          exact own_end X97 e97 (v := some (.int (1 : Int32))) (fun h => by rw [Bd.returns] at h; cases h) hlk (fun fs hr => retN X97 hx (z := (1 : Int32)) (t := .boolean) Bd.returns (by simp) (hb hby at_178) hr) (Q := Q_rm0 Z a0 p1 q2 q3 q4 q5 p6 h0 n0) ⟨rfl, N97, Kp100⟩ (by decide) (by decide)
        · refine o_ifYes X94 hx (pc' := 160) (hb hby at_141) (feq hc141_96).2 (by decide) (by decide) ?_
          refine o_iconst X94 hx 0 (hb hby at_160) rfl ?_
          refine o_istore X94 hx (hb hby at_161) (l' := #[iv p1, .val (.long q2), .second, .val (.long q3), .second, .val (.long q4), .second, .val (.long q5), .second, iv p6, iv (p1 &&& (2147483647 : Int32)), .val (.long (own_tri (p1 &&& (2147483647 : Int32)))), .second, iv 1, iv 0, iv 1, .val (.long ((p1 &&& (2147483647 : Int32)).toInt64)), .second, .val (.long ((own_tri (p1 &&& (2147483647 : Int32))) + q4)), .second, .val (.long 0), .second, rv b93, iv 0]) rfl ?_
          refine o_aload X94 hx (hb hby at_163) rfl rfl ?_
          have Zs102 : n0 ≤ T94.heap.size := (Nat.le_trans Zs95 K94.1)
          have Fa103 := (A93.keep K94)
          obtain ⟨cq101, kq101, q101a, q101b, q101c⟩ := isOf hZ rfl Fa103
          obtain ⟨_, _, ⟨T101, L101, k101, n101⟩, -, X101, ⟨Lc101, hQ101, l101, y101, z101⟩, st101⟩ := X94.virtualBack hx (y := (⟨"headway/bench/Transfer$Outcome", "verified", "()Z"⟩ : MethodName)) (z := (⟨"headway/bench/Transfer$Outcome", "verified", "()Z"⟩ : MethodName)) hown (mvT hZ (hw _ (List.mem_of_getElem? (i := 29) rfl))) (mvT hZ (hw _ (List.mem_of_getElem? (i := 30) rfl))) (notFace_of_selects (args := #[]) (mvT hZ (hw _ (List.mem_of_getElem? (i := 32) rfl)))) (mvT hZ (hw _ (List.mem_of_getElem? (i := 32) rfl))) (mvT hZ (hw _ (List.mem_of_getElem? (i := 31) rfl))) (by decide) (backOf (W := 0) (rm5 l Z a0 hw [] b93 (p1 &&& (2147483647 : Int32)) ((p1 &&& (2147483647 : Int32)).toInt64) ((own_tri (p1 &&& (2147483647 : Int32))) + q4) (0 : Int64) T94.heap n0 Zs102 Fq94_0 Fq94_2 Fq94_3 Fq94_4) hZ (hw _ (List.mem_of_getElem? (i := 33) rfl)) (hw _ (List.mem_of_getElem? (i := 7) rfl)) (by decide) (by decide)) q101a q101c (g := (mkF m 165 #[iv p1, .val (.long q2), .second, .val (.long q3), .second, .val (.long q4), .second, .val (.long q5), .second, iv p6, iv (p1 &&& (2147483647 : Int32)), .val (.long (own_tri (p1 &&& (2147483647 : Int32)))), .second, iv 1, iv 0, iv 1, .val (.long ((p1 &&& (2147483647 : Int32)).toInt64)), .second, .val (.long ((own_tri (p1 &&& (2147483647 : Int32))) + q4)), .second, .val (.long 0), .second, rv b93, iv 0] [(.ref b93)])) rfl (by rw [hml]; rfl) (Steps.refl _) (argsL := []) (rest := []) (lenOf pd_4 rfl) rfl (by show 2 * 0 + _ ≤ _; exact Nat.le_of_eq rfl) (hb hby at_165) (fun _ _ => ⟨rfl, rfl, (by decide : 1 + 0 ≤ _), (by decide : 5 + 0 ≤ _)⟩)
          dsimp only [Pt.U, Pt.locs, Pt.cells, Pt.slots] at X101 l101 y101 z101 st101 hQ101
          subst l101 y101 z101
          obtain ⟨rfl, Nq101, e101⟩ := hQ101
          have N101 := Fr.app N94 Nq101
          refine own_tr st101 ?_
          show own_Go _ _ _ _ (T101.setTop (mkF m 168 #[iv p1, .val (.long q2), .second, .val (.long q3), .second, .val (.long q4), .second, .val (.long q5), .second, iv p6, iv (p1 &&& (2147483647 : Int32)), .val (.long (own_tri (p1 &&& (2147483647 : Int32)))), .second, iv 1, iv 0, iv 1, .val (.long ((p1 &&& (2147483647 : Int32)).toInt64)), .second, .val (.long ((own_tri (p1 &&& (2147483647 : Int32))) + q4)), .second, .val (.long 0), .second, rv b93, iv 0] [(.int (own_ver (p1 &&& (2147483647 : Int32)) ((p1 &&& (2147483647 : Int32)).toInt64) ((own_tri (p1 &&& (2147483647 : Int32))) + q4) (0 : Int64)))]))
          refine o_iload X101 hx (hb hby at_168) rfl ?_
          refine o_icmpNo X101 hx (hb hby at_170) (teq (own_verF2 (own_and0 p1) (own_addF hc141_96))).2 ?_
          refine o_iconst X101 hx 1 (hb hby at_173) rfl ?_
          refine o_goto X101 hx (pc' := 178) (hb hby at_174) (by decide) (by decide) ?_
          have Kp104 : Keep h0 T94.heap [] := (((Keep.refl h0 []).ext E93).trans K94 (allS (Or.inr sz93) all0))
          exact own_end X101 e101 (v := some (.int (1 : Int32))) (fun h => by rw [Bd.returns] at h; cases h) hlk (fun fs hr => retN X101 hx (z := (1 : Int32)) (t := .boolean) Bd.returns (by simp) (hb hby at_178) hr) (Q := Q_rm0 Z a0 p1 q2 q3 q4 q5 p6 h0 n0) ⟨rfl, N101, Kp104⟩ (by decide) (by decide)
    · refine o_ifNo X1 hx (hb hby at_31) (feq hc31_74).1 ?_
      refine o_iconst X1 hx 1 (hb hby at_34) rfl ?_
      refine o_goto X1 hx (pc' := 39) (hb hby at_35) (by decide) (by decide) ?_
      refine o_istore X1 hx (hb hby at_39) (l' := #[iv p1, .val (.long q2), .second, .val (.long q3), .second, .val (.long q4), .second, .val (.long q5), .second, iv p6, iv (p1 &&& (2147483647 : Int32)), .val (.long (own_tri (p1 &&& (2147483647 : Int32)))), .second, iv 1, iv 1, .unset, .unset, .unset, .unset, .unset, .unset, .unset, .unset, .unset]) rfl ?_
      refine o_iload X1 hx (hb hby at_41) rfl ?_
      refine o_iconst X1 hx 4 (hb hby at_43) rfl ?_
      refine o_iand X1 hx (hb hby at_44) ?_
      by_cases hc45_105 : (p6 &&& (4 : Int32)) = (0 : Int32)
      · refine o_ifYes X1 hx (pc' := 52) (hb hby at_45) (teq hc45_105).1 (by decide) (by decide) ?_
        refine o_iconst X1 hx 0 (hb hby at_52) rfl ?_
        refine o_istore X1 hx (hb hby at_53) (l' := #[iv p1, .val (.long q2), .second, .val (.long q3), .second, .val (.long q4), .second, .val (.long q5), .second, iv p6, iv (p1 &&& (2147483647 : Int32)), .val (.long (own_tri (p1 &&& (2147483647 : Int32)))), .second, iv 1, iv 1, iv 0, .unset, .unset, .unset, .unset, .unset, .unset, .unset, .unset]) rfl ?_
        refine o_iload X1 hx (hb hby at_55) rfl ?_
        refine o_ifNo X1 hx (hb hby at_57) (feq (by decide : ¬ ((1 : Int32) = (0 : Int32)))).1 ?_
        refine o_iload X1 hx (hb hby at_60) rfl ?_
        refine o_i2l X1 hx (hb hby at_62) ?_
        refine o_goto X1 hx (pc' := 71) (hb hby at_63) (by decide) (by decide) ?_
        refine o_lstore X1 hx (hb hby at_71) (l' := #[iv p1, .val (.long q2), .second, .val (.long q3), .second, .val (.long q4), .second, .val (.long q5), .second, iv p6, iv (p1 &&& (2147483647 : Int32)), .val (.long (own_tri (p1 &&& (2147483647 : Int32)))), .second, iv 1, iv 1, iv 0, .val (.long ((p1 &&& (2147483647 : Int32)).toInt64)), .second, .unset, .unset, .unset, .unset, .unset, .unset]) rfl ?_
        refine o_iload X1 hx (hb hby at_73) rfl ?_
        refine o_ifNo X1 hx (hb hby at_75) (feq (by decide : ¬ ((1 : Int32) = (0 : Int32)))).1 ?_
        refine o_lload X1 hx (hb hby at_78) rfl ?_
        refine o_goto X1 hx (pc' := 88) (hb hby at_80) (by decide) (by decide) ?_
        refine o_lstore X1 hx (hb hby at_88) (l' := #[iv p1, .val (.long q2), .second, .val (.long q3), .second, .val (.long q4), .second, .val (.long q5), .second, iv p6, iv (p1 &&& (2147483647 : Int32)), .val (.long (own_tri (p1 &&& (2147483647 : Int32)))), .second, iv 1, iv 1, iv 0, .val (.long ((p1 &&& (2147483647 : Int32)).toInt64)), .second, .val (.long (own_tri (p1 &&& (2147483647 : Int32)))), .second, .unset, .unset, .unset, .unset]) rfl ?_
        refine o_iload X1 hx (hb hby at_90) rfl ?_
        refine o_ifYes X1 hx (pc' := 99) (hb hby at_92) (teq (by decide : (0 : Int32) = (0 : Int32))).1 (by decide) (by decide) ?_
        refine o_lload X1 hx (hb hby at_99) rfl ?_
        refine o_lstore X1 hx (hb hby at_101) (l' := #[iv p1, .val (.long q2), .second, .val (.long q3), .second, .val (.long q4), .second, .val (.long q5), .second, iv p6, iv (p1 &&& (2147483647 : Int32)), .val (.long (own_tri (p1 &&& (2147483647 : Int32)))), .second, iv 1, iv 1, iv 0, .val (.long ((p1 &&& (2147483647 : Int32)).toInt64)), .second, .val (.long (own_tri (p1 &&& (2147483647 : Int32)))), .second, .val (.long q5), .second, .unset, .unset]) rfl ?_
        obtain ⟨T106, h106, X106, e106, E106, A106, D106, -, st106⟩ := newO X1 hx hZ hown (hw _ (List.mem_of_getElem? (i := 5) rfl)) (hw _ (List.mem_of_getElem? (i := 6) rfl)) (hw _ (List.mem_of_getElem? (i := 7) rfl)) e1 (g := (mkF m 103 #[iv p1, .val (.long q2), .second, .val (.long q3), .second, .val (.long q4), .second, .val (.long q5), .second, iv p6, iv (p1 &&& (2147483647 : Int32)), .val (.long (own_tri (p1 &&& (2147483647 : Int32)))), .second, iv 1, iv 1, iv 0, .val (.long ((p1 &&& (2147483647 : Int32)).toInt64)), .second, .val (.long (own_tri (p1 &&& (2147483647 : Int32)))), .second, .val (.long q5), .second, .unset, .unset] [])) rfl (hb hby at_103) (by decide) (by decide)
        obtain ⟨b106, g106⟩ : ∃ z, z = h0.size := ⟨_, rfl⟩
        rw [← g106] at A106 D106 st106
        have gg106 : n0 ≤ b106 := Nat.le_trans Z0 (Nat.le_of_eq g106.symm)
        have sz106 : h0.size ≤ b106 := Nat.le_trans (Keep.refl h0 []).1 (Nat.le_of_eq g106.symm)
        have Fi106_elements : Fld Z h106 b106 "headway/bench/Transfer$Outcome" "elements" "I" (.int (0 : Int32)) := D106 (Or.inr (hw _ (List.mem_of_getElem? (i := 20) rfl))) (ty := .int) (by decide)
        have Fi106_nanos : Fld Z h106 b106 "headway/bench/Transfer$Outcome" "nanos" "J" (.long (0 : Int64)) := D106 (Or.inr (hw _ (List.mem_of_getElem? (i := 22) rfl))) (ty := .long) (by decide)
        have Fi106_received : Fld Z h106 b106 "headway/bench/Transfer$Outcome" "received" "J" (.long (0 : Int64)) := D106 (Or.inr (hw _ (List.mem_of_getElem? (i := 24) rfl))) (ty := .long) (by decide)
        have Fi106_sum : Fld Z h106 b106 "headway/bench/Transfer$Outcome" "sum" "J" (.long (0 : Int64)) := D106 (Or.inr (hw _ (List.mem_of_getElem? (i := 26) rfl))) (ty := .long) (by decide)
        have Fi106_outOfOrder : Fld Z h106 b106 "headway/bench/Transfer$Outcome" "outOfOrder" "J" (.long (0 : Int64)) := D106 (Or.inr (hw _ (List.mem_of_getElem? (i := 28) rfl))) (ty := .long) (by decide)
        refine own_st st106 ?_
        show own_Go _ _ _ _ (T106.setTop (mkF m 106 #[iv p1, .val (.long q2), .second, .val (.long q3), .second, .val (.long q4), .second, .val (.long q5), .second, iv p6, iv (p1 &&& (2147483647 : Int32)), .val (.long (own_tri (p1 &&& (2147483647 : Int32)))), .second, iv 1, iv 1, iv 0, .val (.long ((p1 &&& (2147483647 : Int32)).toInt64)), .second, .val (.long (own_tri (p1 &&& (2147483647 : Int32)))), .second, .val (.long q5), .second, .unset, .unset] [(.ref b106)]))
        refine o_dup X106 hx (hb hby at_106) rfl ?_
        refine o_iload X106 hx (hb hby at_107) rfl ?_
        refine o_lloadN X106 hx (hb hby at_109) rfl ?_
        refine o_lload X106 hx (hb hby at_110) rfl ?_
        refine o_lload X106 hx (hb hby at_112) rfl ?_
        refine o_lload X106 hx (hb hby at_114) rfl ?_
        have Zs108 : n0 ≤ h106.size := (Nat.le_trans Z0 E106.1)
        obtain ⟨_, _, ⟨T107, L107, k107, n107⟩, -, X107, ⟨Lc107, hQ107, l107, y107, z107⟩, st107⟩ := X106.specialBack hx (y := (⟨"headway/bench/Transfer$Outcome", "<init>", "(IJJJJ)V"⟩ : MethodName)) rfl hown (mvT hZ (hw _ (List.mem_of_getElem? (i := 8) rfl))) (mvT hZ (hw _ (List.mem_of_getElem? (i := 9) rfl))) (mvT hZ (hw _ (List.mem_of_getElem? (i := 10) rfl))) (by decide) (backOf (W := 1) (rm2 l Z a0 hw [] b106 (p1 &&& (2147483647 : Int32)) q2 ((p1 &&& (2147483647 : Int32)).toInt64) (own_tri (p1 &&& (2147483647 : Int32))) q5  h106 n0 Zs108 A106 gg106 Fi106_elements Fi106_nanos Fi106_received Fi106_sum Fi106_outOfOrder) hZ (hw _ (List.mem_of_getElem? (i := 10) rfl)) (hw _ (List.mem_of_getElem? (i := 7) rfl)) (by decide) (by decide)) (g := (mkF m 116 #[iv p1, .val (.long q2), .second, .val (.long q3), .second, .val (.long q4), .second, .val (.long q5), .second, iv p6, iv (p1 &&& (2147483647 : Int32)), .val (.long (own_tri (p1 &&& (2147483647 : Int32)))), .second, iv 1, iv 1, iv 0, .val (.long ((p1 &&& (2147483647 : Int32)).toInt64)), .second, .val (.long (own_tri (p1 &&& (2147483647 : Int32)))), .second, .val (.long q5), .second, .unset, .unset] [(.long q5), (.long (own_tri (p1 &&& (2147483647 : Int32)))), (.long ((p1 &&& (2147483647 : Int32)).toInt64)), (.long q2), (.int (p1 &&& (2147483647 : Int32))), (.ref b106), (.ref b106)])) rfl (by rw [hml]; rfl) (Steps.refl _) (a := b106) (argsL := [(.int (p1 &&& (2147483647 : Int32))), (.long q2), (.long ((p1 &&& (2147483647 : Int32)).toInt64)), (.long (own_tri (p1 &&& (2147483647 : Int32)))), (.long q5)]) (rest := [(.ref b106)]) (lenOf pd_3 rfl) rfl (by show 2 * 0 + _ ≤ _; exact Nat.le_of_eq rfl) (hb hby at_116) (fun _ _ => ⟨rfl, e106, (by decide : 1 + 0 ≤ _), (by decide : 5 + 0 ≤ _)⟩)
        dsimp only [Pt.U, Pt.locs, Pt.cells, Pt.slots] at X107 l107 y107 z107 st107 hQ107
        subst l107 y107 z107
        obtain ⟨rfl, Nq107, K107, Fq107_0, Fq107_1, Fq107_2, Fq107_3, Fq107_4⟩ := hQ107
        have N107 := Fr.app N1 Nq107
        refine own_tr st107 ?_
        show own_Go _ _ _ _ (T107.setTop (mkF m 119 #[iv p1, .val (.long q2), .second, .val (.long q3), .second, .val (.long q4), .second, .val (.long q5), .second, iv p6, iv (p1 &&& (2147483647 : Int32)), .val (.long (own_tri (p1 &&& (2147483647 : Int32)))), .second, iv 1, iv 1, iv 0, .val (.long ((p1 &&& (2147483647 : Int32)).toInt64)), .second, .val (.long (own_tri (p1 &&& (2147483647 : Int32)))), .second, .val (.long q5), .second, .unset, .unset] [(.ref b106)]))
        refine o_astore X107 hx (hb hby at_119) rfl (l' := #[iv p1, .val (.long q2), .second, .val (.long q3), .second, .val (.long q4), .second, .val (.long q5), .second, iv p6, iv (p1 &&& (2147483647 : Int32)), .val (.long (own_tri (p1 &&& (2147483647 : Int32)))), .second, iv 1, iv 1, iv 0, .val (.long ((p1 &&& (2147483647 : Int32)).toInt64)), .second, .val (.long (own_tri (p1 &&& (2147483647 : Int32)))), .second, .val (.long q5), .second, rv b106, .unset]) rfl ?_
        refine o_iload X107 hx (hb hby at_121) rfl ?_
        refine o_ifYes X107 hx (pc' := 132) (hb hby at_123) (feq (by decide : ¬ ((1 : Int32) = (0 : Int32)))).2 (by decide) (by decide) ?_
        refine o_iload X107 hx (hb hby at_132) rfl ?_
        refine o_ifYes X107 hx (pc' := 144) (hb hby at_134) (feq (by decide : ¬ ((1 : Int32) = (0 : Int32)))).2 (by decide) (by decide) ?_
        refine o_iload X107 hx (hb hby at_144) rfl ?_
        refine o_ifNo X107 hx (hb hby at_146) (teq (by decide : (0 : Int32) = (0 : Int32))).2 ?_
        refine o_lload X107 hx (hb hby at_149) rfl ?_
        refine o_lconst X107 hx 0 (hb hby at_151) rfl ?_
        refine o_lcmp X107 hx (hb hby at_152) ?_
        by_cases hc153_109 : (lcmpW q5 (0 : Int64)) = (0 : Int32)
        · refine o_ifNo X107 hx (hb hby at_153) (teq hc153_109).2 ?_
          refine o_iconst X107 hx 1 (hb hby at_156) rfl ?_
          refine o_goto X107 hx (pc' := 161) (hb hby at_157) (by decide) (by decide) ?_
          refine o_istore X107 hx (hb hby at_161) (l' := #[iv p1, .val (.long q2), .second, .val (.long q3), .second, .val (.long q4), .second, .val (.long q5), .second, iv p6, iv (p1 &&& (2147483647 : Int32)), .val (.long (own_tri (p1 &&& (2147483647 : Int32)))), .second, iv 1, iv 1, iv 0, .val (.long ((p1 &&& (2147483647 : Int32)).toInt64)), .second, .val (.long (own_tri (p1 &&& (2147483647 : Int32)))), .second, .val (.long q5), .second, rv b106, iv 1]) rfl ?_
          refine o_aload X107 hx (hb hby at_163) rfl rfl ?_
          have Zs111 : n0 ≤ T107.heap.size := (Nat.le_trans Zs108 K107.1)
          have Fa112 := (A106.keep K107)
          obtain ⟨cq110, kq110, q110a, q110b, q110c⟩ := isOf hZ rfl Fa112
          obtain ⟨_, _, ⟨T110, L110, k110, n110⟩, -, X110, ⟨Lc110, hQ110, l110, y110, z110⟩, st110⟩ := X107.virtualBack hx (y := (⟨"headway/bench/Transfer$Outcome", "verified", "()Z"⟩ : MethodName)) (z := (⟨"headway/bench/Transfer$Outcome", "verified", "()Z"⟩ : MethodName)) hown (mvT hZ (hw _ (List.mem_of_getElem? (i := 29) rfl))) (mvT hZ (hw _ (List.mem_of_getElem? (i := 30) rfl))) (notFace_of_selects (args := #[]) (mvT hZ (hw _ (List.mem_of_getElem? (i := 32) rfl)))) (mvT hZ (hw _ (List.mem_of_getElem? (i := 32) rfl))) (mvT hZ (hw _ (List.mem_of_getElem? (i := 31) rfl))) (by decide) (backOf (W := 0) (rm5 l Z a0 hw [] b106 (p1 &&& (2147483647 : Int32)) ((p1 &&& (2147483647 : Int32)).toInt64) (own_tri (p1 &&& (2147483647 : Int32))) q5 T107.heap n0 Zs111 Fq107_0 Fq107_2 Fq107_3 Fq107_4) hZ (hw _ (List.mem_of_getElem? (i := 33) rfl)) (hw _ (List.mem_of_getElem? (i := 7) rfl)) (by decide) (by decide)) q110a q110c (g := (mkF m 165 #[iv p1, .val (.long q2), .second, .val (.long q3), .second, .val (.long q4), .second, .val (.long q5), .second, iv p6, iv (p1 &&& (2147483647 : Int32)), .val (.long (own_tri (p1 &&& (2147483647 : Int32)))), .second, iv 1, iv 1, iv 0, .val (.long ((p1 &&& (2147483647 : Int32)).toInt64)), .second, .val (.long (own_tri (p1 &&& (2147483647 : Int32)))), .second, .val (.long q5), .second, rv b106, iv 1] [(.ref b106)])) rfl (by rw [hml]; rfl) (Steps.refl _) (argsL := []) (rest := []) (lenOf pd_4 rfl) rfl (by show 2 * 0 + _ ≤ _; exact Nat.le_of_eq rfl) (hb hby at_165) (fun _ _ => ⟨rfl, rfl, (by decide : 1 + 0 ≤ _), (by decide : 5 + 0 ≤ _)⟩)
          dsimp only [Pt.U, Pt.locs, Pt.cells, Pt.slots] at X110 l110 y110 z110 st110 hQ110
          subst l110 y110 z110
          obtain ⟨rfl, Nq110, e110⟩ := hQ110
          have N110 := Fr.app N107 Nq110
          refine own_tr st110 ?_
          show own_Go _ _ _ _ (T110.setTop (mkF m 168 #[iv p1, .val (.long q2), .second, .val (.long q3), .second, .val (.long q4), .second, .val (.long q5), .second, iv p6, iv (p1 &&& (2147483647 : Int32)), .val (.long (own_tri (p1 &&& (2147483647 : Int32)))), .second, iv 1, iv 1, iv 0, .val (.long ((p1 &&& (2147483647 : Int32)).toInt64)), .second, .val (.long (own_tri (p1 &&& (2147483647 : Int32)))), .second, .val (.long q5), .second, rv b106, iv 1] [(.int (own_ver (p1 &&& (2147483647 : Int32)) ((p1 &&& (2147483647 : Int32)).toInt64) (own_tri (p1 &&& (2147483647 : Int32))) q5))]))
          refine o_iload X110 hx (hb hby at_168) rfl ?_
          refine o_icmpNo X110 hx (hb hby at_170) (teq (own_verT (own_and0 p1) rfl rfl ((lw_eq _ _).mp hc153_109))).2 ?_
          refine o_iconst X110 hx 1 (hb hby at_173) rfl ?_
          refine o_goto X110 hx (pc' := 178) (hb hby at_174) (by decide) (by decide) ?_
          have Kp113 : Keep h0 T107.heap [] := (((Keep.refl h0 []).ext E106).trans K107 (allS (Or.inr sz106) all0))
          exact own_end X110 e110 (v := some (.int (1 : Int32))) (fun h => by rw [Bd.returns] at h; cases h) hlk (fun fs hr => retN X110 hx (z := (1 : Int32)) (t := .boolean) Bd.returns (by simp) (hb hby at_178) hr) (Q := Q_rm0 Z a0 p1 q2 q3 q4 q5 p6 h0 n0) ⟨rfl, N110, Kp113⟩ (by decide) (by decide)
        · refine o_ifYes X107 hx (pc' := 160) (hb hby at_153) (feq hc153_109).2 (by decide) (by decide) ?_
          refine o_iconst X107 hx 0 (hb hby at_160) rfl ?_
          refine o_istore X107 hx (hb hby at_161) (l' := #[iv p1, .val (.long q2), .second, .val (.long q3), .second, .val (.long q4), .second, .val (.long q5), .second, iv p6, iv (p1 &&& (2147483647 : Int32)), .val (.long (own_tri (p1 &&& (2147483647 : Int32)))), .second, iv 1, iv 1, iv 0, .val (.long ((p1 &&& (2147483647 : Int32)).toInt64)), .second, .val (.long (own_tri (p1 &&& (2147483647 : Int32)))), .second, .val (.long q5), .second, rv b106, iv 0]) rfl ?_
          refine o_aload X107 hx (hb hby at_163) rfl rfl ?_
          have Zs115 : n0 ≤ T107.heap.size := (Nat.le_trans Zs108 K107.1)
          have Fa116 := (A106.keep K107)
          obtain ⟨cq114, kq114, q114a, q114b, q114c⟩ := isOf hZ rfl Fa116
          obtain ⟨_, _, ⟨T114, L114, k114, n114⟩, -, X114, ⟨Lc114, hQ114, l114, y114, z114⟩, st114⟩ := X107.virtualBack hx (y := (⟨"headway/bench/Transfer$Outcome", "verified", "()Z"⟩ : MethodName)) (z := (⟨"headway/bench/Transfer$Outcome", "verified", "()Z"⟩ : MethodName)) hown (mvT hZ (hw _ (List.mem_of_getElem? (i := 29) rfl))) (mvT hZ (hw _ (List.mem_of_getElem? (i := 30) rfl))) (notFace_of_selects (args := #[]) (mvT hZ (hw _ (List.mem_of_getElem? (i := 32) rfl)))) (mvT hZ (hw _ (List.mem_of_getElem? (i := 32) rfl))) (mvT hZ (hw _ (List.mem_of_getElem? (i := 31) rfl))) (by decide) (backOf (W := 0) (rm5 l Z a0 hw [] b106 (p1 &&& (2147483647 : Int32)) ((p1 &&& (2147483647 : Int32)).toInt64) (own_tri (p1 &&& (2147483647 : Int32))) q5 T107.heap n0 Zs115 Fq107_0 Fq107_2 Fq107_3 Fq107_4) hZ (hw _ (List.mem_of_getElem? (i := 33) rfl)) (hw _ (List.mem_of_getElem? (i := 7) rfl)) (by decide) (by decide)) q114a q114c (g := (mkF m 165 #[iv p1, .val (.long q2), .second, .val (.long q3), .second, .val (.long q4), .second, .val (.long q5), .second, iv p6, iv (p1 &&& (2147483647 : Int32)), .val (.long (own_tri (p1 &&& (2147483647 : Int32)))), .second, iv 1, iv 1, iv 0, .val (.long ((p1 &&& (2147483647 : Int32)).toInt64)), .second, .val (.long (own_tri (p1 &&& (2147483647 : Int32)))), .second, .val (.long q5), .second, rv b106, iv 0] [(.ref b106)])) rfl (by rw [hml]; rfl) (Steps.refl _) (argsL := []) (rest := []) (lenOf pd_4 rfl) rfl (by show 2 * 0 + _ ≤ _; exact Nat.le_of_eq rfl) (hb hby at_165) (fun _ _ => ⟨rfl, rfl, (by decide : 1 + 0 ≤ _), (by decide : 5 + 0 ≤ _)⟩)
          dsimp only [Pt.U, Pt.locs, Pt.cells, Pt.slots] at X114 l114 y114 z114 st114 hQ114
          subst l114 y114 z114
          obtain ⟨rfl, Nq114, e114⟩ := hQ114
          have N114 := Fr.app N107 Nq114
          refine own_tr st114 ?_
          show own_Go _ _ _ _ (T114.setTop (mkF m 168 #[iv p1, .val (.long q2), .second, .val (.long q3), .second, .val (.long q4), .second, .val (.long q5), .second, iv p6, iv (p1 &&& (2147483647 : Int32)), .val (.long (own_tri (p1 &&& (2147483647 : Int32)))), .second, iv 1, iv 1, iv 0, .val (.long ((p1 &&& (2147483647 : Int32)).toInt64)), .second, .val (.long (own_tri (p1 &&& (2147483647 : Int32)))), .second, .val (.long q5), .second, rv b106, iv 0] [(.int (own_ver (p1 &&& (2147483647 : Int32)) ((p1 &&& (2147483647 : Int32)).toInt64) (own_tri (p1 &&& (2147483647 : Int32))) q5))]))
          refine o_iload X114 hx (hb hby at_168) rfl ?_
          refine o_icmpNo X114 hx (hb hby at_170) (teq (own_verF3 hc153_109)).2 ?_
          refine o_iconst X114 hx 1 (hb hby at_173) rfl ?_
          refine o_goto X114 hx (pc' := 178) (hb hby at_174) (by decide) (by decide) ?_
          have Kp117 : Keep h0 T107.heap [] := (((Keep.refl h0 []).ext E106).trans K107 (allS (Or.inr sz106) all0))
          exact own_end X114 e114 (v := some (.int (1 : Int32))) (fun h => by rw [Bd.returns] at h; cases h) hlk (fun fs hr => retN X114 hx (z := (1 : Int32)) (t := .boolean) Bd.returns (by simp) (hb hby at_178) hr) (Q := Q_rm0 Z a0 p1 q2 q3 q4 q5 p6 h0 n0) ⟨rfl, N114, Kp117⟩ (by decide) (by decide)
      · refine o_ifNo X1 hx (hb hby at_45) (feq hc45_105).1 ?_
        refine o_iconst X1 hx 1 (hb hby at_48) rfl ?_
        refine o_goto X1 hx (pc' := 53) (hb hby at_49) (by decide) (by decide) ?_
        refine o_istore X1 hx (hb hby at_53) (l' := #[iv p1, .val (.long q2), .second, .val (.long q3), .second, .val (.long q4), .second, .val (.long q5), .second, iv p6, iv (p1 &&& (2147483647 : Int32)), .val (.long (own_tri (p1 &&& (2147483647 : Int32)))), .second, iv 1, iv 1, iv 1, .unset, .unset, .unset, .unset, .unset, .unset, .unset, .unset]) rfl ?_
        refine o_iload X1 hx (hb hby at_55) rfl ?_
        refine o_ifNo X1 hx (hb hby at_57) (feq (by decide : ¬ ((1 : Int32) = (0 : Int32)))).1 ?_
        refine o_iload X1 hx (hb hby at_60) rfl ?_
        refine o_i2l X1 hx (hb hby at_62) ?_
        refine o_goto X1 hx (pc' := 71) (hb hby at_63) (by decide) (by decide) ?_
        refine o_lstore X1 hx (hb hby at_71) (l' := #[iv p1, .val (.long q2), .second, .val (.long q3), .second, .val (.long q4), .second, .val (.long q5), .second, iv p6, iv (p1 &&& (2147483647 : Int32)), .val (.long (own_tri (p1 &&& (2147483647 : Int32)))), .second, iv 1, iv 1, iv 1, .val (.long ((p1 &&& (2147483647 : Int32)).toInt64)), .second, .unset, .unset, .unset, .unset, .unset, .unset]) rfl ?_
        refine o_iload X1 hx (hb hby at_73) rfl ?_
        refine o_ifNo X1 hx (hb hby at_75) (feq (by decide : ¬ ((1 : Int32) = (0 : Int32)))).1 ?_
        refine o_lload X1 hx (hb hby at_78) rfl ?_
        refine o_goto X1 hx (pc' := 88) (hb hby at_80) (by decide) (by decide) ?_
        refine o_lstore X1 hx (hb hby at_88) (l' := #[iv p1, .val (.long q2), .second, .val (.long q3), .second, .val (.long q4), .second, .val (.long q5), .second, iv p6, iv (p1 &&& (2147483647 : Int32)), .val (.long (own_tri (p1 &&& (2147483647 : Int32)))), .second, iv 1, iv 1, iv 1, .val (.long ((p1 &&& (2147483647 : Int32)).toInt64)), .second, .val (.long (own_tri (p1 &&& (2147483647 : Int32)))), .second, .unset, .unset, .unset, .unset]) rfl ?_
        refine o_iload X1 hx (hb hby at_90) rfl ?_
        refine o_ifNo X1 hx (hb hby at_92) (feq (by decide : ¬ ((1 : Int32) = (0 : Int32)))).1 ?_
        refine o_lconst X1 hx 0 (hb hby at_95) rfl ?_
        refine o_goto X1 hx (pc' := 101) (hb hby at_96) (by decide) (by decide) ?_
        refine o_lstore X1 hx (hb hby at_101) (l' := #[iv p1, .val (.long q2), .second, .val (.long q3), .second, .val (.long q4), .second, .val (.long q5), .second, iv p6, iv (p1 &&& (2147483647 : Int32)), .val (.long (own_tri (p1 &&& (2147483647 : Int32)))), .second, iv 1, iv 1, iv 1, .val (.long ((p1 &&& (2147483647 : Int32)).toInt64)), .second, .val (.long (own_tri (p1 &&& (2147483647 : Int32)))), .second, .val (.long 0), .second, .unset, .unset]) rfl ?_
        obtain ⟨T118, h118, X118, e118, E118, A118, D118, -, st118⟩ := newO X1 hx hZ hown (hw _ (List.mem_of_getElem? (i := 5) rfl)) (hw _ (List.mem_of_getElem? (i := 6) rfl)) (hw _ (List.mem_of_getElem? (i := 7) rfl)) e1 (g := (mkF m 103 #[iv p1, .val (.long q2), .second, .val (.long q3), .second, .val (.long q4), .second, .val (.long q5), .second, iv p6, iv (p1 &&& (2147483647 : Int32)), .val (.long (own_tri (p1 &&& (2147483647 : Int32)))), .second, iv 1, iv 1, iv 1, .val (.long ((p1 &&& (2147483647 : Int32)).toInt64)), .second, .val (.long (own_tri (p1 &&& (2147483647 : Int32)))), .second, .val (.long 0), .second, .unset, .unset] [])) rfl (hb hby at_103) (by decide) (by decide)
        obtain ⟨b118, g118⟩ : ∃ z, z = h0.size := ⟨_, rfl⟩
        rw [← g118] at A118 D118 st118
        have gg118 : n0 ≤ b118 := Nat.le_trans Z0 (Nat.le_of_eq g118.symm)
        have sz118 : h0.size ≤ b118 := Nat.le_trans (Keep.refl h0 []).1 (Nat.le_of_eq g118.symm)
        have Fi118_elements : Fld Z h118 b118 "headway/bench/Transfer$Outcome" "elements" "I" (.int (0 : Int32)) := D118 (Or.inr (hw _ (List.mem_of_getElem? (i := 20) rfl))) (ty := .int) (by decide)
        have Fi118_nanos : Fld Z h118 b118 "headway/bench/Transfer$Outcome" "nanos" "J" (.long (0 : Int64)) := D118 (Or.inr (hw _ (List.mem_of_getElem? (i := 22) rfl))) (ty := .long) (by decide)
        have Fi118_received : Fld Z h118 b118 "headway/bench/Transfer$Outcome" "received" "J" (.long (0 : Int64)) := D118 (Or.inr (hw _ (List.mem_of_getElem? (i := 24) rfl))) (ty := .long) (by decide)
        have Fi118_sum : Fld Z h118 b118 "headway/bench/Transfer$Outcome" "sum" "J" (.long (0 : Int64)) := D118 (Or.inr (hw _ (List.mem_of_getElem? (i := 26) rfl))) (ty := .long) (by decide)
        have Fi118_outOfOrder : Fld Z h118 b118 "headway/bench/Transfer$Outcome" "outOfOrder" "J" (.long (0 : Int64)) := D118 (Or.inr (hw _ (List.mem_of_getElem? (i := 28) rfl))) (ty := .long) (by decide)
        refine own_st st118 ?_
        show own_Go _ _ _ _ (T118.setTop (mkF m 106 #[iv p1, .val (.long q2), .second, .val (.long q3), .second, .val (.long q4), .second, .val (.long q5), .second, iv p6, iv (p1 &&& (2147483647 : Int32)), .val (.long (own_tri (p1 &&& (2147483647 : Int32)))), .second, iv 1, iv 1, iv 1, .val (.long ((p1 &&& (2147483647 : Int32)).toInt64)), .second, .val (.long (own_tri (p1 &&& (2147483647 : Int32)))), .second, .val (.long 0), .second, .unset, .unset] [(.ref b118)]))
        refine o_dup X118 hx (hb hby at_106) rfl ?_
        refine o_iload X118 hx (hb hby at_107) rfl ?_
        refine o_lloadN X118 hx (hb hby at_109) rfl ?_
        refine o_lload X118 hx (hb hby at_110) rfl ?_
        refine o_lload X118 hx (hb hby at_112) rfl ?_
        refine o_lload X118 hx (hb hby at_114) rfl ?_
        have Zs120 : n0 ≤ h118.size := (Nat.le_trans Z0 E118.1)
        obtain ⟨_, _, ⟨T119, L119, k119, n119⟩, -, X119, ⟨Lc119, hQ119, l119, y119, z119⟩, st119⟩ := X118.specialBack hx (y := (⟨"headway/bench/Transfer$Outcome", "<init>", "(IJJJJ)V"⟩ : MethodName)) rfl hown (mvT hZ (hw _ (List.mem_of_getElem? (i := 8) rfl))) (mvT hZ (hw _ (List.mem_of_getElem? (i := 9) rfl))) (mvT hZ (hw _ (List.mem_of_getElem? (i := 10) rfl))) (by decide) (backOf (W := 1) (rm2 l Z a0 hw [] b118 (p1 &&& (2147483647 : Int32)) q2 ((p1 &&& (2147483647 : Int32)).toInt64) (own_tri (p1 &&& (2147483647 : Int32))) (0 : Int64)  h118 n0 Zs120 A118 gg118 Fi118_elements Fi118_nanos Fi118_received Fi118_sum Fi118_outOfOrder) hZ (hw _ (List.mem_of_getElem? (i := 10) rfl)) (hw _ (List.mem_of_getElem? (i := 7) rfl)) (by decide) (by decide)) (g := (mkF m 116 #[iv p1, .val (.long q2), .second, .val (.long q3), .second, .val (.long q4), .second, .val (.long q5), .second, iv p6, iv (p1 &&& (2147483647 : Int32)), .val (.long (own_tri (p1 &&& (2147483647 : Int32)))), .second, iv 1, iv 1, iv 1, .val (.long ((p1 &&& (2147483647 : Int32)).toInt64)), .second, .val (.long (own_tri (p1 &&& (2147483647 : Int32)))), .second, .val (.long 0), .second, .unset, .unset] [(.long 0), (.long (own_tri (p1 &&& (2147483647 : Int32)))), (.long ((p1 &&& (2147483647 : Int32)).toInt64)), (.long q2), (.int (p1 &&& (2147483647 : Int32))), (.ref b118), (.ref b118)])) rfl (by rw [hml]; rfl) (Steps.refl _) (a := b118) (argsL := [(.int (p1 &&& (2147483647 : Int32))), (.long q2), (.long ((p1 &&& (2147483647 : Int32)).toInt64)), (.long (own_tri (p1 &&& (2147483647 : Int32)))), (.long 0)]) (rest := [(.ref b118)]) (lenOf pd_3 rfl) rfl (by show 2 * 0 + _ ≤ _; exact Nat.le_of_eq rfl) (hb hby at_116) (fun _ _ => ⟨rfl, e118, (by decide : 1 + 0 ≤ _), (by decide : 5 + 0 ≤ _)⟩)
        dsimp only [Pt.U, Pt.locs, Pt.cells, Pt.slots] at X119 l119 y119 z119 st119 hQ119
        subst l119 y119 z119
        obtain ⟨rfl, Nq119, K119, Fq119_0, Fq119_1, Fq119_2, Fq119_3, Fq119_4⟩ := hQ119
        have N119 := Fr.app N1 Nq119
        refine own_tr st119 ?_
        show own_Go _ _ _ _ (T119.setTop (mkF m 119 #[iv p1, .val (.long q2), .second, .val (.long q3), .second, .val (.long q4), .second, .val (.long q5), .second, iv p6, iv (p1 &&& (2147483647 : Int32)), .val (.long (own_tri (p1 &&& (2147483647 : Int32)))), .second, iv 1, iv 1, iv 1, .val (.long ((p1 &&& (2147483647 : Int32)).toInt64)), .second, .val (.long (own_tri (p1 &&& (2147483647 : Int32)))), .second, .val (.long 0), .second, .unset, .unset] [(.ref b118)]))
        refine o_astore X119 hx (hb hby at_119) rfl (l' := #[iv p1, .val (.long q2), .second, .val (.long q3), .second, .val (.long q4), .second, .val (.long q5), .second, iv p6, iv (p1 &&& (2147483647 : Int32)), .val (.long (own_tri (p1 &&& (2147483647 : Int32)))), .second, iv 1, iv 1, iv 1, .val (.long ((p1 &&& (2147483647 : Int32)).toInt64)), .second, .val (.long (own_tri (p1 &&& (2147483647 : Int32)))), .second, .val (.long 0), .second, rv b118, .unset]) rfl ?_
        refine o_iload X119 hx (hb hby at_121) rfl ?_
        refine o_ifYes X119 hx (pc' := 132) (hb hby at_123) (feq (by decide : ¬ ((1 : Int32) = (0 : Int32)))).2 (by decide) (by decide) ?_
        refine o_iload X119 hx (hb hby at_132) rfl ?_
        refine o_ifYes X119 hx (pc' := 144) (hb hby at_134) (feq (by decide : ¬ ((1 : Int32) = (0 : Int32)))).2 (by decide) (by decide) ?_
        refine o_iload X119 hx (hb hby at_144) rfl ?_
        refine o_ifYes X119 hx (pc' := 156) (hb hby at_146) (feq (by decide : ¬ ((1 : Int32) = (0 : Int32)))).2 (by decide) (by decide) ?_
        refine o_iconst X119 hx 1 (hb hby at_156) rfl ?_
        refine o_goto X119 hx (pc' := 161) (hb hby at_157) (by decide) (by decide) ?_
        refine o_istore X119 hx (hb hby at_161) (l' := #[iv p1, .val (.long q2), .second, .val (.long q3), .second, .val (.long q4), .second, .val (.long q5), .second, iv p6, iv (p1 &&& (2147483647 : Int32)), .val (.long (own_tri (p1 &&& (2147483647 : Int32)))), .second, iv 1, iv 1, iv 1, .val (.long ((p1 &&& (2147483647 : Int32)).toInt64)), .second, .val (.long (own_tri (p1 &&& (2147483647 : Int32)))), .second, .val (.long 0), .second, rv b118, iv 1]) rfl ?_
        refine o_aload X119 hx (hb hby at_163) rfl rfl ?_
        have Zs122 : n0 ≤ T119.heap.size := (Nat.le_trans Zs120 K119.1)
        have Fa123 := (A118.keep K119)
        obtain ⟨cq121, kq121, q121a, q121b, q121c⟩ := isOf hZ rfl Fa123
        obtain ⟨_, _, ⟨T121, L121, k121, n121⟩, -, X121, ⟨Lc121, hQ121, l121, y121, z121⟩, st121⟩ := X119.virtualBack hx (y := (⟨"headway/bench/Transfer$Outcome", "verified", "()Z"⟩ : MethodName)) (z := (⟨"headway/bench/Transfer$Outcome", "verified", "()Z"⟩ : MethodName)) hown (mvT hZ (hw _ (List.mem_of_getElem? (i := 29) rfl))) (mvT hZ (hw _ (List.mem_of_getElem? (i := 30) rfl))) (notFace_of_selects (args := #[]) (mvT hZ (hw _ (List.mem_of_getElem? (i := 32) rfl)))) (mvT hZ (hw _ (List.mem_of_getElem? (i := 32) rfl))) (mvT hZ (hw _ (List.mem_of_getElem? (i := 31) rfl))) (by decide) (backOf (W := 0) (rm5 l Z a0 hw [] b118 (p1 &&& (2147483647 : Int32)) ((p1 &&& (2147483647 : Int32)).toInt64) (own_tri (p1 &&& (2147483647 : Int32))) (0 : Int64) T119.heap n0 Zs122 Fq119_0 Fq119_2 Fq119_3 Fq119_4) hZ (hw _ (List.mem_of_getElem? (i := 33) rfl)) (hw _ (List.mem_of_getElem? (i := 7) rfl)) (by decide) (by decide)) q121a q121c (g := (mkF m 165 #[iv p1, .val (.long q2), .second, .val (.long q3), .second, .val (.long q4), .second, .val (.long q5), .second, iv p6, iv (p1 &&& (2147483647 : Int32)), .val (.long (own_tri (p1 &&& (2147483647 : Int32)))), .second, iv 1, iv 1, iv 1, .val (.long ((p1 &&& (2147483647 : Int32)).toInt64)), .second, .val (.long (own_tri (p1 &&& (2147483647 : Int32)))), .second, .val (.long 0), .second, rv b118, iv 1] [(.ref b118)])) rfl (by rw [hml]; rfl) (Steps.refl _) (argsL := []) (rest := []) (lenOf pd_4 rfl) rfl (by show 2 * 0 + _ ≤ _; exact Nat.le_of_eq rfl) (hb hby at_165) (fun _ _ => ⟨rfl, rfl, (by decide : 1 + 0 ≤ _), (by decide : 5 + 0 ≤ _)⟩)
        dsimp only [Pt.U, Pt.locs, Pt.cells, Pt.slots] at X121 l121 y121 z121 st121 hQ121
        subst l121 y121 z121
        obtain ⟨rfl, Nq121, e121⟩ := hQ121
        have N121 := Fr.app N119 Nq121
        refine own_tr st121 ?_
        show own_Go _ _ _ _ (T121.setTop (mkF m 168 #[iv p1, .val (.long q2), .second, .val (.long q3), .second, .val (.long q4), .second, .val (.long q5), .second, iv p6, iv (p1 &&& (2147483647 : Int32)), .val (.long (own_tri (p1 &&& (2147483647 : Int32)))), .second, iv 1, iv 1, iv 1, .val (.long ((p1 &&& (2147483647 : Int32)).toInt64)), .second, .val (.long (own_tri (p1 &&& (2147483647 : Int32)))), .second, .val (.long 0), .second, rv b118, iv 1] [(.int (own_ver (p1 &&& (2147483647 : Int32)) ((p1 &&& (2147483647 : Int32)).toInt64) (own_tri (p1 &&& (2147483647 : Int32))) (0 : Int64)))]))
        refine o_iload X121 hx (hb hby at_168) rfl ?_
        refine o_icmpNo X121 hx (hb hby at_170) (teq (own_verT (own_and0 p1) rfl rfl rfl)).2 ?_
        refine o_iconst X121 hx 1 (hb hby at_173) rfl ?_
        refine o_goto X121 hx (pc' := 178) (hb hby at_174) (by decide) (by decide) ?_
        have Kp124 : Keep h0 T119.heap [] := (((Keep.refl h0 []).ext E118).trans K119 (allS (Or.inr sz118) all0))
        exact own_end X121 e121 (v := some (.int (1 : Int32))) (fun h => by rw [Bd.returns] at h; cases h) hlk (fun fs hr => retN X121 hx (z := (1 : Int32)) (t := .boolean) Bd.returns (by simp) (hb hby at_178) hr) (Q := Q_rm0 Z a0 p1 q2 q3 q4 q5 p6 h0 n0) ⟨rfl, N121, Kp124⟩ (by decide) (by decide)
set_option maxRecDepth 65536 in
set_option maxHeartbeats 40000000 in
theorem comes_1 {Post : Tables → Env → Array Value → State → Outcome → State → Prop} (hpost : ∀ tb e args s v u, (limb_1_1.after args s (.returned v) u = true ∧ limb_1_2.after args s (.returned v) u = true ∧ True) → FrameEnd s (.returned v) u (Jvm.fieldLocs frame_1_writes args s ++ Jvm.arrayLocs frame_1_arrays args s ++ Jvm.staticLocs frame_1_statics s) 16 128 → Post tb e args s (.returned v) u) :
    ArmFor flags0 classFile x code maxLocals ret World_1 tables_1 room_1 Calls_1 rest_1 Pre_1 Post := by
  intro l hfl _ _ p e ha hc hk s m args below hf hA hF happ hP
  obtain ⟨hcalls, hrest, hpre⟩ := hP
  obtain ⟨-, -, -, hnamed, -, -, -, hat⟩ := (Spec.applies_iff hf).mp happ
  obtain ⟨hg, hn⟩ := and_e (Cond.before_iff.mp (show (Jvm.Cond.and given_1 narrow_1).before args s = true from hpre))
  obtain ⟨g1, g2⟩ := and_e hg
  obtain ⟨g3, g4⟩ := and_e g2
  obtain ⟨g5, g6⟩ := and_e g4
  obtain ⟨g7, g8⟩ := and_e g6
  obtain ⟨g9, g10⟩ := and_e g8
  obtain ⟨g11, g12⟩ := and_e g10
  obtain ⟨w0, w1, w2, w3, w4, w5, rfl⟩ : ∃ w0 w1 w2 w3 w4 w5 : Value, args = #[w0, w1, w2, w3, w4, w5] := by
    have hs : args.size = 6 := by simpa [Cond.value, given_1] using g1
    obtain ⟨L⟩ := args
    match L, hs with
    | [w0, w1, w2, w3, w4, w5], _ => exact ⟨w0, w1, w2, w3, w4, w5, rfl⟩
  have hw := fun d (hd : d ∈ tables_1) => atoms_spec (ws := Jvm.Cond.code x code maxLocals ret :: tables_1) hat d (List.mem_cons_of_mem _ hd)
  have hfit : Fit s := fun {y c} hc i hi => by
    obtain ⟨ha, rfl⟩ := Array.getElem?_eq_some_iff.mp hc
    have q := List.all_eq_true.mp ((Array.all_eq_true_iff_forall_mem.mp hF) _ (Array.getElem_mem ha)) i (List.mem_range.mpr hi)
    simpa [Array.getElem?_eq_getElem hi] using q
  obtain ⟨i0, ei0⟩ := is_v g3
  obtain rfl : w0 = (.int i0) := Option.some.inj ei0
  obtain ⟨i1, ei1⟩ := isL_v g5
  obtain rfl : w1 = (.long i1) := Option.some.inj ei1
  obtain ⟨i2, ei2⟩ := isL_v g7
  obtain rfl : w2 = (.long i2) := Option.some.inj ei2
  obtain ⟨i3, ei3⟩ := isL_v g9
  obtain rfl : w3 = (.long i3) := Option.some.inj ei3
  obtain ⟨i4, ei4⟩ := isL_v g11
  obtain rfl : w4 = (.long i4) := Option.some.inj ei4
  obtain ⟨i5, ei5⟩ := is_v g12
  obtain rfl : w5 = (.int i5) := Option.some.inj ei5
  obtain ⟨n, o, h1, h2, h3, _, L, rfl, ⟨rfl, N, -⟩, hq⟩ := rm0 l s _ hw tables_1 i0 i1 i2 i3 i4 i5  s.heap s.heap.size (Nat.le_refl _)  p e ha hc hk s m _ below hf ((Spec.applies_iff_loose hf).mp happ).1 ⟨rfl, State.Warmed39.refl s, rfl⟩ trivial
  refine ⟨n, _, h1, h2, h3, hpost _ _ _ _ _ _ ⟨Cond.after_iff.mpr rfl, Cond.after_iff.mpr (eq_i res_at (Term.int_eval (1)) rfl), trivial⟩ ⟨hq.1, hq.2.1, (hq.2.2.sift fun y hy => Or.inr (N y hy)).mono (by decide) (by decide)⟩⟩
theorem main_1_1 : Claimed_1_1 := comes_1 fun _ _ _ _ _ _ h hF => ⟨h.1, hF⟩
theorem main_1_2 : Claimed_1_2 := comes_1 fun _ _ _ _ _ _ h hF => ⟨h.2.1, hF⟩
end Jvm.Pilot.@@N@@
namespace Jvm.Pilot.@@N@@
open Jvm Jvm.ClassFile Sem Op Lib Jvm.Free Jvm.Stand Jvm.Pilot.@@N@@.Jvm.D
/-! MADE BY PROGRAM (witnessworld.py) out of the Statement's table words and the real class files: 10 classes; the members and pool entries that the words name. The judged class is class 1, her method 2. -/
namespace start1
open Jvm.ClassFile
def u (s : String) : CpInfo := .utf8 (stringToUtf16 s)
/-- a pool by its gaps: so many unusable entries, then the entry; so many at the end -/
def gap : Nat → List CpInfo → List CpInfo
  | 0, r => r
  | n + 1, r => .unusable :: gap n r
def poolList (es : List (Nat × CpInfo)) (last : Nat) : List CpInfo := es.foldr (fun e r => gap e.1 (e.2 :: r)) (gap last [])
def pool (es : List (Nat × CpInfo)) (last : Nat) : Array CpInfo := ⟨poolList es last⟩
def fileOf (pool : Array CpInfo) (this : Nat) (attrs : Array Attribute := #[]) (ms : Array MethodInfo := #[]) (fl : Nat := 33) (sup : Nat := 0) (ifs : Array Nat := #[]) (fds : Array FieldInfo := #[]) : ClassFile where
  minorVersion := 0
  majorVersion := 65
  constantPool := pool
  accessFlags := fl
  thisClass := this
  superClass := sup
  interfaces := ifs
  fields := fds
  methods := ms
  attributes := attrs
def plain (name : String) (sup : Option ClassId) : Class where
  name := name
  kind := .ordinary
  loader := none
  accessFlags := 33
  super := sup
  interfaces := #[]
  cf := none
  fields := #[]
  methods := #[]
  instanceTypes := #[]
  staticTypes := #[]
  resolved := #[]
  callSites := []
  init := .initialized
  statics := none
  mirror := none

def pool0 : Array CpInfo := pool [(5, u "<init>"), (0, u "()V"), (1, .class_ 10), (1, u "java/lang/Object")] 113

def k0c0 : Code := { maxStack := 0, maxLocals := 1, code := object_method_1_code, exceptionTable := #[], attributes := #[] }
def k0m0 : Method := { name := "<init>", desc := "()V", sig := { parameters := [], returnType := none }, accessFlags := 1, code := some k0c0 }
/-- java/lang/Object -/
def k0 : Class := { plain "java/lang/Object" none with
  accessFlags := 33
  interfaces := #[]
  cf := some (fileOf pool0 8 #[] #[{ accessFlags := 1, nameIndex := 5, descriptorIndex := 6, attributes := #[] }] 33 0 #[] #[])
  fields := #[]
  methods := #[k0m0]
  instanceTypes := #[]
  staticTypes := #[]
  resolved := Array.replicate 124 none
  statics := none }

def pool1 : Array CpInfo := pool [(2, .class_ 4), (1, u "java/lang/Object"), (0, u "<init>"), (0, u "()V"), (0, .integer 2147483647), (0, .methodref 9 10), (0, .class_ 11), (0, .nameAndType 12 13), (0, u "headway/bench/OutcomeVerifiedPinLaw"), (0, u "triangle"), (0, u "(I)J"), (0, .class_ 15), (0, u "headway/bench/Transfer$Outcome"), (0, .methodref 14 17), (0, .nameAndType 5 18), (0, u "(IJJJJ)V"), (0, .methodref 14 20), (0, .nameAndType 21 22), (0, u "verified"), (0, u "()Z"), (3, u "law"), (0, u "(IJJJJI)Z")] 6

def k1m0 : Method := { name := "<init>", desc := "()V", sig := { parameters := [], returnType := none }, accessFlags := 1, code := none }
def k1c1 : Code := { maxStack := 4, maxLocals := 1, code := method_2_code, exceptionTable := #[], attributes := #[] }
def k1m1 : Method := { name := "triangle", desc := "(I)J", sig := { parameters := [.int], returnType := some .long }, accessFlags := 10, code := some k1c1 }
def k1c2 : Code := { maxStack := 11, maxLocals := 24, code := code, exceptionTable := #[], attributes := #[] }
def k1m2 : Method := { name := "law", desc := "(IJJJJI)Z", sig := { parameters := [.int, .long, .long, .long, .long, .int], returnType := some .boolean }, accessFlags := 9, code := some k1c2 }
/-- headway/bench/OutcomeVerifiedPinLaw -/
def k1 : Class := { plain "headway/bench/OutcomeVerifiedPinLaw" (some 0) with
  accessFlags := 49
  interfaces := #[]
  cf := some (fileOf pool1 9 #[] #[{ accessFlags := 1, nameIndex := 5, descriptorIndex := 6, attributes := #[] }, { accessFlags := 10, nameIndex := 12, descriptorIndex := 13, attributes := #[] }, { accessFlags := 9, nameIndex := 26, descriptorIndex := 27, attributes := #[] }] 49 2 #[] #[])
  fields := #[]
  methods := #[k1m0, k1m1, k1m2]
  instanceTypes := #[]
  staticTypes := #[]
  resolved := Array.replicate 34 none
  statics := none }

def pool2 : Array CpInfo := pool [(1, .methodref 2 3), (0, .class_ 4), (0, .nameAndType 5 6), (0, u "java/lang/Object"), (0, u "<init>"), (0, u "()V"), (0, .class_ 8), (0, u "java/lang/Record")] 13

def k2c0 : Code := { maxStack := 1, maxLocals := 1, code := jdk_30_method_1_code, exceptionTable := #[], attributes := #[] }
def k2m0 : Method := { name := "<init>", desc := "()V", sig := { parameters := [], returnType := none }, accessFlags := 4, code := some k2c0 }
/-- java/lang/Record -/
def k2 : Class := { plain "java/lang/Record" (some 0) with
  accessFlags := 1057
  interfaces := #[]
  cf := some (fileOf pool2 7 #[] #[{ accessFlags := 4, nameIndex := 5, descriptorIndex := 6, attributes := #[] }] 1057 2 #[] #[])
  fields := #[]
  methods := #[k2m0]
  instanceTypes := #[]
  staticTypes := #[]
  resolved := Array.replicate 22 none
  statics := none }

def pool3 : Array CpInfo := pool [(1, .methodref 2 3), (0, .class_ 4), (0, .nameAndType 5 6), (0, u "java/lang/Record"), (0, u "<init>"), (0, u "()V"), (0, .fieldref 8 9), (0, .class_ 10), (0, .nameAndType 11 12), (0, u "headway/bench/Transfer$Outcome"), (0, u "elements"), (0, u "I"), (0, .fieldref 8 14), (0, .nameAndType 15 16), (0, u "nanos"), (0, u "J"), (0, .fieldref 8 18), (0, .nameAndType 19 16), (0, u "received"), (0, .fieldref 8 21), (0, .nameAndType 22 16), (0, u "sum"), (0, .fieldref 8 24), (0, .nameAndType 25 16), (0, u "outOfOrder"), (0, .long 2), (21, u "(IJJJJ)V"), (3, u "verified"), (0, u "()Z"), (10, .class_ 65), (0, u "headway/bench/Transfer")] 23

def k3c0 : Code := { maxStack := 3, maxLocals := 10, code := prog_18_method_1_code, exceptionTable := #[], attributes := #[] }
def k3m0 : Method := { name := "<init>", desc := "(IJJJJ)V", sig := { parameters := [.int, .long, .long, .long, .long], returnType := none }, accessFlags := 1, code := some k3c0 }
def k3c1 : Code := { maxStack := 6, maxLocals := 1, code := prog_18_method_2_code, exceptionTable := #[], attributes := #[] }
def k3m1 : Method := { name := "verified", desc := "()Z", sig := { parameters := [], returnType := some .boolean }, accessFlags := 1, code := some k3c1 }
/-- headway/bench/Transfer$Outcome -/
def k3 : Class := { plain "headway/bench/Transfer$Outcome" (some 2) with
  accessFlags := 49
  interfaces := #[]
  cf := some (fileOf pool3 8 #[.nestHost 64] #[{ accessFlags := 1, nameIndex := 5, descriptorIndex := 48, attributes := #[] }, { accessFlags := 1, nameIndex := 52, descriptorIndex := 53, attributes := #[] }] 49 2 #[] #[{ accessFlags := 18, nameIndex := 11, descriptorIndex := 12, attributes := #[] }, { accessFlags := 18, nameIndex := 15, descriptorIndex := 16, attributes := #[] }, { accessFlags := 18, nameIndex := 19, descriptorIndex := 16, attributes := #[] }, { accessFlags := 18, nameIndex := 22, descriptorIndex := 16, attributes := #[] }, { accessFlags := 18, nameIndex := 25, descriptorIndex := 16, attributes := #[] }])
  fields := #[{ name := "elements", type := .int, accessFlags := 18, slot := 0, constantValue := 0 }, { name := "nanos", type := .long, accessFlags := 18, slot := 1, constantValue := 0 }, { name := "received", type := .long, accessFlags := 18, slot := 2, constantValue := 0 }, { name := "sum", type := .long, accessFlags := 18, slot := 3, constantValue := 0 }, { name := "outOfOrder", type := .long, accessFlags := 18, slot := 4, constantValue := 0 }]
  methods := #[k3m0, k3m1]
  instanceTypes := #[.int, .long, .long, .long, .long]
  staticTypes := #[]
  resolved := Array.replicate 89 none
  statics := none }

def pool4 : Array CpInfo := pool [(1, u "java/lang/Cloneable"), (0, .class_ 1), (0, u "java/lang/Object"), (0, .class_ 3)] 3

/-- java/lang/Cloneable -/
def k4 : Class := { plain "java/lang/Cloneable" (some 0) with
  accessFlags := 1537
  interfaces := #[]
  cf := some (fileOf pool4 2 #[] #[] 1537 4 #[] #[])
  fields := #[]
  methods := #[]
  instanceTypes := #[]
  staticTypes := #[]
  resolved := Array.replicate 8 none
  statics := none }

def pool5 : Array CpInfo := pool [(1, u "java/io/Serializable"), (0, .class_ 1), (0, u "java/lang/Object"), (0, .class_ 3)] 3

/-- java/io/Serializable -/
def k5 : Class := { plain "java/io/Serializable" (some 0) with
  accessFlags := 1537
  interfaces := #[]
  cf := some (fileOf pool5 2 #[] #[] 1537 4 #[] #[])
  fields := #[]
  methods := #[]
  instanceTypes := #[]
  staticTypes := #[]
  resolved := Array.replicate 8 none
  statics := none }

/-- the primitive byte -/
def k6 : Class := { plain "byte" none with kind := .primitive 'B', accessFlags := 0x411 }
/-- [B -/
def k7 : Class := { plain "[B" (some 0) with kind := .array 6 .byte, interfaces := #[4, 5], accessFlags := 1041 }

/-- the primitive int -/
def k8 : Class := { plain "int" none with kind := .primitive 'I', accessFlags := 0x411 }
/-- [I -/
def k9 : Class := { plain "[I" (some 0) with kind := .array 8 .int, interfaces := #[4, 5], accessFlags := 1041 }

def heap : Heap := #[]
def classes : Array Class := #[k0, k1, k2, k3, k4, k5, k6, k7, k8, k9]
def interned : List (Array UInt16 × Addr) := []
def slotsUsed : Nat := 0
def theMethod : MethodId := ⟨1, 2⟩
def args0 : Array Value := #[.int 5, .long 1, .long 2, .long 3, .long 4, .int 1]
def aboutOver (below : List Frame) : State where
  vm := { classes := classes, interned := interned.toArray }
  heap := heap
  slotsUsed := slotsUsed
  threads := #[{ frames := .invoking theMethod args0 :: below }]
def below0 : List Frame := [.native { method := ⟨0, 0⟩, args := #[] }]
def about1 : State := aboutOver below0
def p0 : Program := .bare "" "" ""
def e0 : Env := launch0.env 0 0 0
theorem w_frames : about1.frames = Frame.invoking theMethod args0 :: below0 := rfl
set_option maxRecDepth 65536 in
theorem w_args : argsFit about1.vm theMethod args0 = true := by decide +kernel
set_option maxRecDepth 65536 in
theorem w_heap : heapFits about1 = true := by decide +kernel
set_option maxRecDepth 65536 in
theorem w_runnable : about1.curStatus? = some .runnable := by decide +kernel
set_option maxRecDepth 65536 in
theorem w_alone : about1.alone = true := by decide +kernel
set_option maxRecDepth 65536 in
theorem w_named : about1.methodNamed? x = some theMethod := by decide +kernel
set_option maxRecDepth 65536 in
theorem w_hears : about1.hears theMethod below0 = true := by decide +kernel
set_option maxRecDepth 65536 in
theorem w_ripe : about1.ripe theMethod args0 below0 = true := by decide +kernel
theorem w_running : about1.status = .running := rfl
set_option maxRecDepth 65536 in
theorem w_room : about1.hasRoom e0.platform room_1 = true :=
  launch0.hasRoom_least _ room_1 (by decide +kernel) (by decide +kernel) (by decide +kernel) (by decide +kernel) (by decide +kernel) (by decide +kernel)
theorem allAtoms_all (ts : List Jvm.Cond) (a : Array Jvm.Value) (st : Jvm.State) : (allAtoms ts).before a st = ts.all (fun c => c.before a st) := by
  induction ts with
  | nil => rfl
  | cons c t ih =>
    show (Jvm.Cond.and c (allAtoms t)).before a st = _
    rw [Jvm.Cond.before_and, ih, List.all_cons]
def words1 : List Jvm.Cond := Jvm.Cond.code x code maxLocals ret :: tables_1
/-- a 'code' word, met by the world's own term for the bytes: nothing is compared byte by byte -/
theorem code_word {y : MethodName} {bytes : ByteArray} {mx : Nat} {rt : Option FieldType} {a : Array Value} {s : State} {m : MethodId} {meth : Method} {c : Code} (h1 : s.methodNamed? y = some m) (h2 : s.vm.method? m = some meth) (h3 : meth.code = some c) (h4 : c.code = bytes)
    (h5 : (c.maxLocals == mx && c.exceptionTable.isEmpty && decide (c.maxStack ≤ mostOperands) && decide (meth.sig.returnType = rt) && !meth.locks && decide (parseMethodDescriptor y.desc = some meth.sig)) = true) : (Jvm.Cond.code y bytes mx rt).before a s = true := by
  simp only [Bool.and_eq_true, beq_iff_eq, Bool.not_eq_true', decide_eq_true_eq] at h5
  obtain ⟨⟨⟨⟨⟨g1, g2⟩, g3⟩, g4⟩, g5⟩, g6⟩ := h5
  simp [Cond.before, Cond.holds, Cond.value, h1, h2, h3, h4, g1, g2, g3, g4, g5, g6]
def isCode : Jvm.Cond → Bool
  | .code _ _ _ _ => true
  | _ => false
theorem all_split {L : List Jvm.Cond} {P : Jvm.Cond → Bool} (h1 : L.all (fun c => isCode c || P c) = true) (h2 : ∀ c ∈ L.filter isCode, P c = true) : L.all P = true := by
  refine List.all_eq_true.mpr fun c hc => ?_
  have h := List.all_eq_true.mp h1 c hc
  rcases Bool.eq_false_or_eq_true (isCode c) with hi | hi
  · exact h2 c (List.mem_filter.mpr ⟨hc, hi⟩)
  · simpa [hi] using h
set_option maxRecDepth 65536 in
theorem w_c0 : (Jvm.Cond.code x code maxLocals ret).before args0 about1 = true := code_word (m := ⟨1, 2⟩) (meth := k1m2) (c := k1c2) (by decide +kernel) rfl rfl rfl (by decide +kernel)
set_option maxRecDepth 65536 in
theorem w_c1 : (Jvm.Cond.code ({ cls := "headway/bench/OutcomeVerifiedPinLaw", name := "triangle", desc := "(I)J" } : Jvm.MethodName) method_2_code (1 : Nat) (Option.some Jvm.ClassFile.FieldType.long)).before args0 about1 = true := code_word (m := ⟨1, 1⟩) (meth := k1m1) (c := k1c1) (by decide +kernel) rfl rfl rfl (by decide +kernel)
set_option maxRecDepth 65536 in
theorem w_c2 : (Jvm.Cond.code ({ cls := "headway/bench/Transfer$Outcome", name := "<init>", desc := "(IJJJJ)V" } : Jvm.MethodName) prog_18_method_1_code (10 : Nat) (Option.none : Option Jvm.ClassFile.FieldType)).before args0 about1 = true := code_word (m := ⟨3, 0⟩) (meth := k3m0) (c := k3c0) (by decide +kernel) rfl rfl rfl (by decide +kernel)
set_option maxRecDepth 65536 in
theorem w_c3 : (Jvm.Cond.code ({ cls := "java/lang/Record", name := "<init>", desc := "()V" } : Jvm.MethodName) jdk_30_method_1_code (1 : Nat) (Option.none : Option Jvm.ClassFile.FieldType)).before args0 about1 = true := code_word (m := ⟨2, 0⟩) (meth := k2m0) (c := k2c0) (by decide +kernel) rfl rfl rfl (by decide +kernel)
set_option maxRecDepth 65536 in
theorem w_c4 : (Jvm.Cond.code ({ cls := "java/lang/Object", name := "<init>", desc := "()V" } : Jvm.MethodName) object_method_1_code (1 : Nat) (Option.none : Option Jvm.ClassFile.FieldType)).before args0 about1 = true := code_word (m := ⟨0, 0⟩) (meth := k0m0) (c := k0c0) (by decide +kernel) rfl rfl rfl (by decide +kernel)
set_option maxRecDepth 65536 in
theorem w_c5 : (Jvm.Cond.code ({ cls := "headway/bench/Transfer$Outcome", name := "verified", desc := "()Z" } : Jvm.MethodName) prog_18_method_2_code (1 : Nat) (Option.some Jvm.ClassFile.FieldType.boolean)).before args0 about1 = true := code_word (m := ⟨3, 1⟩) (meth := k3m1) (c := k3c1) (by decide +kernel) rfl rfl rfl (by decide +kernel)
def codes1 : List Jvm.Cond := [Jvm.Cond.code x code maxLocals ret, Jvm.Cond.code ({ cls := "headway/bench/OutcomeVerifiedPinLaw", name := "triangle", desc := "(I)J" } : Jvm.MethodName) method_2_code (1 : Nat) (Option.some Jvm.ClassFile.FieldType.long), Jvm.Cond.code ({ cls := "headway/bench/Transfer$Outcome", name := "<init>", desc := "(IJJJJ)V" } : Jvm.MethodName) prog_18_method_1_code (10 : Nat) (Option.none : Option Jvm.ClassFile.FieldType), Jvm.Cond.code ({ cls := "java/lang/Record", name := "<init>", desc := "()V" } : Jvm.MethodName) jdk_30_method_1_code (1 : Nat) (Option.none : Option Jvm.ClassFile.FieldType), Jvm.Cond.code ({ cls := "java/lang/Object", name := "<init>", desc := "()V" } : Jvm.MethodName) object_method_1_code (1 : Nat) (Option.none : Option Jvm.ClassFile.FieldType), Jvm.Cond.code ({ cls := "headway/bench/Transfer$Outcome", name := "verified", desc := "()Z" } : Jvm.MethodName) prog_18_method_2_code (1 : Nat) (Option.some Jvm.ClassFile.FieldType.boolean)]
set_option maxRecDepth 65536 in
theorem codes_eq : words1.filter isCode = codes1 := rfl
theorem w_codes : ∀ c ∈ words1.filter isCode, c.before args0 about1 = true := by
  rw [codes_eq]
  intro c hc
  simp only [codes1, List.mem_cons, List.not_mem_nil, or_false] at hc
  rcases hc with rfl | rfl | rfl | rfl | rfl | rfl
  · exact w_c0
  · exact w_c1
  · exact w_c2
  · exact w_c3
  · exact w_c4
  · exact w_c5
set_option maxRecDepth 65536 in
theorem w_t1 : (words1.take 24).all (fun c => isCode c || c.before args0 about1) = true := by decide +kernel
set_option maxRecDepth 65536 in
theorem w_t2 : (words1.drop 24).all (fun c => isCode c || c.before args0 about1) = true := by decide +kernel
theorem w_tables : (allAtoms (Jvm.Cond.code x code maxLocals ret :: tables_1)).before args0 about1 = true := by
  rw [allAtoms_all]
  show words1.all (fun c => c.before args0 about1) = true
  refine all_split ?_ w_codes
  rw [← List.take_append_drop 24 words1, List.all_append, w_t1, w_t2]
  rfl
set_option maxRecDepth 65536 in
theorem w_case : (Jvm.Cond.and given_1 narrow_1).before args0 about1 = true := by decide +kernel
theorem w_applies : (headSpec (Jvm.Cond.code x code maxLocals ret :: tables_1) room_1).applies x e0.platform about1 = true :=
  (Spec.applies_iff w_frames).mpr ⟨w_running, w_runnable, w_alone, w_named, w_hears, w_ripe, w_room, w_tables⟩
theorem atStart : AtStart classFile x code maxLocals ret World_1 tables_1 room_1 Calls_1 rest_1 Pre_1 launch0 p0 e0 about1 theMethod args0 below0 :=
  ⟨lists_1, trivial, launch0.admits_env _ _ _, launch0.least_env, fairChoices_fair.cas, fairChoices_fair.clock, w_frames, w_args, w_heap, w_applies, trivial, trivial, w_case⟩
end start1
theorem witness_1 : WitnessClaimed_1 := ⟨start1.p0, start1.e0, start1.about1, start1.theMethod, start1.args0, start1.below0, start1.atStart⟩
end Jvm.Pilot.@@N@@
