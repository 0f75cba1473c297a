import JvmDerived
import JvmDerived.Pilot.@@N@@Statement
import JvmDerived.Pilot.@@N@@Code
set_option linter.unusedVariables false
set_option linter.unusedSimpArgs false
namespace Jvm.RoadKit
open Sem ClassFile Op Lib Jvm.Stand Jvm.Free Jvm.LawKit
section New
variable {p : Program} {l : Launch} {e : Env} {R : Room} {s : State} {m : MethodId} {args : Array Value} {below : List Frame} {meth : Method} {c : Code} {T : State} {locs : List Loc} {cells slots : Nat}
theorem retI (X : Stand p l e R s m args below meth c T locs cells slots) (hx : p.tables.exec = Jvm.exec) {pc : Nat} {Ls : Array Slot} {z : Int32} {rest : List Value} (hret : meth.sig.returnType = some .int) (hd : decode c.code pc = .ok (.ireturn, 1)) {fs : List Frame}
    (hl : ∀ (f : JFrame) (acts : List Action), f.method = m → f.locked = none → f.entered = [] → (doReturn e (T.setTop f) acts (some (.int z))).1 = T.setFrames fs) : Steps p.tables e below (T.setTop (mkF m pc Ls (.int z :: rest))) (T.setFrames fs) := by
  have hm' : T.vm.method? m = some meth := X.method'
  have hn : narrow .int (.int z) = .int z := rfl
  show Steps p.tables e below (T.setTop { method := m, pc := pc, locals := Ls, stack := _ :: rest, locked := none }) _
  jvm_step X.here [X.here.top, hx, hd, hm', hret, hn]
  first | (intro acts; rw [hl _ acts rfl rfl rfl]) | rw [hl _ _ rfl rfl rfl]
  exact Steps.refl _
theorem own_retA (X : Stand p l e R s m args below meth c T locs cells slots) (hx : p.tables.exec = Jvm.exec) {pc : Nat} {Ls : Array Slot} {w : Value} {t : FieldType} {rest : List Value} (hret : meth.sig.returnType = some t) (ht : t.isReference = true) (hw : w.isRef = true) (hd : decode c.code pc = .ok (.areturn, 1)) {fs : List Frame}
    (hl : ∀ (f : JFrame) (acts : List Action), f.method = m → f.locked = none → f.entered = [] → (doReturn e (T.setTop f) acts (some w)).1 = T.setFrames fs) : Steps p.tables e below (T.setTop (mkF m pc Ls (w :: rest))) (T.setFrames fs) := by
  have hm' : T.vm.method? m = some meth := X.method'
  rcases ref_cases hw with rfl | ⟨z, rfl⟩
  all_goals
    show Steps p.tables e below (T.setTop { method := m, pc := pc, locals := Ls, stack := _ :: rest, locked := none }) _
    jvm_step X.here [X.here.top, hx, hd, hm', hret, Value.isRef]
    try (refine ⟨ht, ?_⟩)
    first | (intro acts; rw [hl _ acts rfl rfl rfl]) | rw [hl _ _ rfl rfl rfl]
    exact Steps.refl _
end New
/-- from U the run comes to an end of which P tells -/
def own_Go (tb : Tables) (e : Env) (below : List Frame) (P : Outcome → State → Prop) (U : State) : Prop := ∃ s₂ o, Steps tb e below U s₂ ∧ s₂.status = .running ∧ Ended s₂ below o ∧ P o s₂
theorem own_st {tb : Tables} {e : Env} {below : List Frame} {P : Outcome → State → Prop} {U V : State} (h : ∀ t, Steps tb e below V t → Steps tb e below U t) (g : own_Go tb e below P V) : own_Go tb e below P U := by
  obtain ⟨s₂, o, h1, r⟩ := g
  exact ⟨s₂, o, h _ h1, r⟩
theorem own_tr {tb : Tables} {e : Env} {below : List Frame} {P : Outcome → State → Prop} {U V : State} (h : Steps tb e below U V) (g : own_Go tb e below P V) : own_Go tb e below P U := by
  obtain ⟨s₂, o, h1, r⟩ := g
  exact ⟨s₂, o, h.trans h1, r⟩
theorem own_end {p : Program} {l : Launch} {e : Env} {R : Room} {s : State} {m : MethodId} {args : Array Value} {below : List Frame} {meth : Method} {c : Code} {T : State} {locs : List Loc} {cells slots : Nat} (X : Stand p l e R s m args below meth c T locs cells slots) {h : Heap} (eT : T.heap = h) {v : Option Value} (hv : meth.sig.returnType = none → v = none) (hlk : meth.locks = false) {g : JFrame}
    (hst : ∀ fs, (∀ (f : JFrame) (acts : List Action), f.method = m → f.locked = none → f.entered = [] → (doReturn e (T.setTop f) acts v).1 = T.setFrames fs) → Steps p.tables e below (T.setTop g) (T.setFrames fs))
    {Q : Option Value → Heap → List Loc → Prop} (hQ : Q v h locs) {cc ss : Nat} (hc : cells ≤ cc) (hs : slots ≤ ss) :
    own_Go p.tables e below (fun o U' => ∃ v L, o = .returned v ∧ Q v U'.heap L ∧ FrameEnd s o U' L cc ss) (T.setTop g) := by
  subst eT
  obtain ⟨fs, hr, hrun, hended, hW, hsame⟩ := X.leave (v := v) hv hlk
  exact ⟨_, _, hst fs hr, hrun, hended, _, _, rfl, hQ, ⟨_, rfl⟩, hW, hsame.mono hc hs⟩
section Steps2
variable {p : Program} {l : Launch} {e : Env} {R : Room} {s : State} {m : MethodId} {args : Array Value} {below : List Frame} {meth : Method} {c : Code} {T : State} {locs : List Loc} {cells slots : Nat} {P : Outcome → State → Prop} {pc : Nat} {Ls : Array Slot} {st : List Value}
theorem o_iloadN (X : Stand p l e R s m args below meth c T locs cells slots) (hx : p.tables.exec = Jvm.exec) {k : Fin 4} {v : Int32} (hd : decode c.code pc = .ok (.iload_n k, 1)) (hl : Ls[k.val]? = some (.val (.int v))) (g : own_Go p.tables e below P (T.setTop (mkF m (pc + 1) Ls (.int v :: st)))) : own_Go p.tables e below P (T.setTop (mkF m pc Ls st)) := own_st (fun t k => XS.iloadN X.here hx rfl hd hl k) g
theorem o_iload (X : Stand p l e R s m args below meth c T locs cells slots) (hx : p.tables.exec = Jvm.exec) {k : Nat} {v : Int32} (hd : decode c.code pc = .ok (.iload k, 2)) (hl : Ls[k]? = some (.val (.int v))) (g : own_Go p.tables e below P (T.setTop (mkF m (pc + 2) Ls (.int v :: st)))) : own_Go p.tables e below P (T.setTop (mkF m pc Ls st)) := own_st (fun t k => XS.iload X.here hx rfl hd hl k) g
theorem o_lloadN (X : Stand p l e R s m args below meth c T locs cells slots) (hx : p.tables.exec = Jvm.exec) {k : Fin 4} {v : Int64} (hd : decode c.code pc = .ok (.lload_n k, 1)) (hl : Ls[k.val]? = some (.val (.long v))) (g : own_Go p.tables e below P (T.setTop (mkF m (pc + 1) Ls (.long v :: st)))) : own_Go p.tables e below P (T.setTop (mkF m pc Ls st)) := own_st (fun t k => XS.lloadN X.here hx rfl hd hl k) g
theorem o_lload (X : Stand p l e R s m args below meth c T locs cells slots) (hx : p.tables.exec = Jvm.exec) {k : Nat} {v : Int64} (hd : decode c.code pc = .ok (.lload k, 2)) (hl : Ls[k]? = some (.val (.long v))) (g : own_Go p.tables e below P (T.setTop (mkF m (pc + 2) Ls (.long v :: st)))) : own_Go p.tables e below P (T.setTop (mkF m pc Ls st)) := own_st (fun t k => XS.lload X.here hx rfl hd hl k) g
theorem o_aloadN (X : Stand p l e R s m args below meth c T locs cells slots) (hx : p.tables.exec = Jvm.exec) {k : Fin 4} {v : Value} (hd : decode c.code pc = .ok (.aload_n k, 1)) (hl : Ls[k.val]? = some (.val v)) (hv : v.isRef = true) (g : own_Go p.tables e below P (T.setTop (mkF m (pc + 1) Ls (v :: st)))) : own_Go p.tables e below P (T.setTop (mkF m pc Ls st)) := own_st (fun t k => XS.aloadN X.here hx rfl hd hl hv k) g
theorem o_aload (X : Stand p l e R s m args below meth c T locs cells slots) (hx : p.tables.exec = Jvm.exec) {k : Nat} {v : Value} (hd : decode c.code pc = .ok (.aload k, 2)) (hl : Ls[k]? = some (.val v)) (hv : v.isRef = true) (g : own_Go p.tables e below P (T.setTop (mkF m (pc + 2) Ls (v :: st)))) : own_Go p.tables e below P (T.setTop (mkF m pc Ls st)) := own_st (fun t k => XS.aload X.here hx rfl hd hl hv k) g
theorem o_istoreN (X : Stand p l e R s m args below meth c T locs cells slots) (hx : p.tables.exec = Jvm.exec) {k : Fin 4} {v : Int32} {l' : Array Slot} (hd : decode c.code pc = .ok (.istore_n k, 1)) (hl : storeLocals Ls k.val (.int v) = some l') (g : own_Go p.tables e below P (T.setTop (mkF m (pc + 1) l' st))) : own_Go p.tables e below P (T.setTop (mkF m pc Ls (.int v :: st))) := own_st (fun t k => XS.istoreN X.here hx rfl hd rfl hl k) g
theorem o_istore (X : Stand p l e R s m args below meth c T locs cells slots) (hx : p.tables.exec = Jvm.exec) {k : Nat} {v : Int32} {l' : Array Slot} (hd : decode c.code pc = .ok (.istore k, 2)) (hl : storeLocals Ls k (.int v) = some l') (g : own_Go p.tables e below P (T.setTop (mkF m (pc + 2) l' st))) : own_Go p.tables e below P (T.setTop (mkF m pc Ls (.int v :: st))) := own_st (fun t k => XS.istore X.here hx rfl hd rfl hl k) g
theorem o_lstoreN (X : Stand p l e R s m args below meth c T locs cells slots) (hx : p.tables.exec = Jvm.exec) {k : Fin 4} {v : Int64} {l' : Array Slot} (hd : decode c.code pc = .ok (.lstore_n k, 1)) (hl : storeLocals Ls k.val (.long v) = some l') (g : own_Go p.tables e below P (T.setTop (mkF m (pc + 1) l' st))) : own_Go p.tables e below P (T.setTop (mkF m pc Ls (.long v :: st))) := own_st (fun t k => XS.lstoreN X.here hx rfl hd rfl hl k) g
theorem o_lstore (X : Stand p l e R s m args below meth c T locs cells slots) (hx : p.tables.exec = Jvm.exec) {k : Nat} {v : Int64} {l' : Array Slot} (hd : decode c.code pc = .ok (.lstore k, 2)) (hl : storeLocals Ls k (.long v) = some l') (g : own_Go p.tables e below P (T.setTop (mkF m (pc + 2) l' st))) : own_Go p.tables e below P (T.setTop (mkF m pc Ls (.long v :: st))) := own_st (fun t k => XS.lstore X.here hx rfl hd rfl hl k) g
theorem o_astoreN (X : Stand p l e R s m args below meth c T locs cells slots) (hx : p.tables.exec = Jvm.exec) {k : Fin 4} {v : Value} {l' : Array Slot} (hd : decode c.code pc = .ok (.astore_n k, 1)) (hv : v.isRef = true) (hl : storeLocals Ls k.val v = some l') (g : own_Go p.tables e below P (T.setTop (mkF m (pc + 1) l' st))) : own_Go p.tables e below P (T.setTop (mkF m pc Ls (v :: st))) := own_st (fun t k => XS.astoreN X.here hx rfl hd rfl hv hl k) g
theorem o_astore (X : Stand p l e R s m args below meth c T locs cells slots) (hx : p.tables.exec = Jvm.exec) {k : Nat} {v : Value} {l' : Array Slot} (hd : decode c.code pc = .ok (.astore k, 2)) (hv : v.isRef = true) (hl : storeLocals Ls k v = some l') (g : own_Go p.tables e below P (T.setTop (mkF m (pc + 2) l' st))) : own_Go p.tables e below P (T.setTop (mkF m pc Ls (v :: st))) := own_st (fun t k => XS.astore X.here hx rfl hd rfl hv hl k) g
theorem o_iconst (X : Stand p l e R s m args below meth c T locs cells slots) (hx : p.tables.exec = Jvm.exec) {i : Int} (z : Int32) (hd : decode c.code pc = .ok (.iconst i, 1)) (hz : Int32.ofInt i = z) (g : own_Go p.tables e below P (T.setTop (mkF m (pc + 1) Ls (.int z :: st)))) : own_Go p.tables e below P (T.setTop (mkF m pc Ls st)) := by subst hz; exact own_st (fun t k => XS.iconst X.here hx rfl hd k) g
theorem o_bipush (X : Stand p l e R s m args below meth c T locs cells slots) (hx : p.tables.exec = Jvm.exec) {i : Int} (z : Int32) (hd : decode c.code pc = .ok (.bipush i, 2)) (hz : (Int8.ofInt i).toInt32 = z) (g : own_Go p.tables e below P (T.setTop (mkF m (pc + 2) Ls (.int z :: st)))) : own_Go p.tables e below P (T.setTop (mkF m pc Ls st)) := by subst hz; exact own_st (fun t k => XS.bipush X.here hx rfl hd k) g
theorem o_sipush (X : Stand p l e R s m args below meth c T locs cells slots) (hx : p.tables.exec = Jvm.exec) {i : Int} (z : Int32) (hd : decode c.code pc = .ok (.sipush i, 3)) (hz : (Int16.ofInt i).toInt32 = z) (g : own_Go p.tables e below P (T.setTop (mkF m (pc + 3) Ls (.int z :: st)))) : own_Go p.tables e below P (T.setTop (mkF m pc Ls st)) := by subst hz; exact own_st (fun t k => XS.sipush X.here hx rfl hd k) g
theorem o_lconst (X : Stand p l e R s m args below meth c T locs cells slots) (hx : p.tables.exec = Jvm.exec) {i : Fin 2} (z : Int64) (hd : decode c.code pc = .ok (.lconst i, 1)) (hz : Int64.ofNat i = z) (g : own_Go p.tables e below P (T.setTop (mkF m (pc + 1) Ls (.long z :: st)))) : own_Go p.tables e below P (T.setTop (mkF m pc Ls st)) := by subst hz; exact own_st (fun t k => XS.lconst X.here hx rfl hd k) g
theorem o_aconstNull (X : Stand p l e R s m args below meth c T locs cells slots) (hx : p.tables.exec = Jvm.exec) (hd : decode c.code pc = .ok (.aconst_null, 1)) (g : own_Go p.tables e below P (T.setTop (mkF m (pc + 1) Ls (.null :: st)))) : own_Go p.tables e below P (T.setTop (mkF m pc Ls st)) := own_st (fun t k => XS.aconstNull X.here hx rfl hd k) g
theorem o_iadd (X : Stand p l e R s m args below meth c T locs cells slots) (hx : p.tables.exec = Jvm.exec) {x y : Int32} (hd : decode c.code pc = .ok (.iadd, 1)) (g : own_Go p.tables e below P (T.setTop (mkF m (pc + 1) Ls (.int (x + y) :: st)))) : own_Go p.tables e below P (T.setTop (mkF m pc Ls (.int y :: .int x :: st))) := own_st (fun t k => XS.iadd X.here hx rfl hd rfl k) g
theorem o_ladd (X : Stand p l e R s m args below meth c T locs cells slots) (hx : p.tables.exec = Jvm.exec) {x y : Int64} (hd : decode c.code pc = .ok (.ladd, 1)) (g : own_Go p.tables e below P (T.setTop (mkF m (pc + 1) Ls (.long (x + y) :: st)))) : own_Go p.tables e below P (T.setTop (mkF m pc Ls (.long y :: .long x :: st))) := own_st (fun t k => XS.ladd X.here hx rfl hd rfl k) g
theorem o_isub (X : Stand p l e R s m args below meth c T locs cells slots) (hx : p.tables.exec = Jvm.exec) {x y : Int32} (hd : decode c.code pc = .ok (.isub, 1)) (g : own_Go p.tables e below P (T.setTop (mkF m (pc + 1) Ls (.int (x - y) :: st)))) : own_Go p.tables e below P (T.setTop (mkF m pc Ls (.int y :: .int x :: st))) := own_st (fun t k => XS.isub X.here hx rfl hd rfl k) g
theorem o_lsub (X : Stand p l e R s m args below meth c T locs cells slots) (hx : p.tables.exec = Jvm.exec) {x y : Int64} (hd : decode c.code pc = .ok (.lsub, 1)) (g : own_Go p.tables e below P (T.setTop (mkF m (pc + 1) Ls (.long (x - y) :: st)))) : own_Go p.tables e below P (T.setTop (mkF m pc Ls (.long y :: .long x :: st))) := own_st (fun t k => XS.lsub X.here hx rfl hd rfl k) g
theorem o_imul (X : Stand p l e R s m args below meth c T locs cells slots) (hx : p.tables.exec = Jvm.exec) {x y : Int32} (hd : decode c.code pc = .ok (.imul, 1)) (g : own_Go p.tables e below P (T.setTop (mkF m (pc + 1) Ls (.int (x * y) :: st)))) : own_Go p.tables e below P (T.setTop (mkF m pc Ls (.int y :: .int x :: st))) := own_st (fun t k => XS.imul X.here hx rfl hd rfl k) g
theorem o_lmul (X : Stand p l e R s m args below meth c T locs cells slots) (hx : p.tables.exec = Jvm.exec) {x y : Int64} (hd : decode c.code pc = .ok (.lmul, 1)) (g : own_Go p.tables e below P (T.setTop (mkF m (pc + 1) Ls (.long (x * y) :: st)))) : own_Go p.tables e below P (T.setTop (mkF m pc Ls (.long y :: .long x :: st))) := own_st (fun t k => XS.lmul X.here hx rfl hd rfl k) g
theorem o_iand (X : Stand p l e R s m args below meth c T locs cells slots) (hx : p.tables.exec = Jvm.exec) {x y : Int32} (hd : decode c.code pc = .ok (.iand, 1)) (g : own_Go p.tables e below P (T.setTop (mkF m (pc + 1) Ls (.int (x &&& y) :: st)))) : own_Go p.tables e below P (T.setTop (mkF m pc Ls (.int y :: .int x :: st))) := own_st (fun t k => XS.iand X.here hx rfl hd rfl k) g
theorem o_land (X : Stand p l e R s m args below meth c T locs cells slots) (hx : p.tables.exec = Jvm.exec) {x y : Int64} (hd : decode c.code pc = .ok (.land, 1)) (g : own_Go p.tables e below P (T.setTop (mkF m (pc + 1) Ls (.long (x &&& y) :: st)))) : own_Go p.tables e below P (T.setTop (mkF m pc Ls (.long y :: .long x :: st))) := own_st (fun t k => XS.land X.here hx rfl hd rfl k) g
theorem o_ior (X : Stand p l e R s m args below meth c T locs cells slots) (hx : p.tables.exec = Jvm.exec) {x y : Int32} (hd : decode c.code pc = .ok (.ior, 1)) (g : own_Go p.tables e below P (T.setTop (mkF m (pc + 1) Ls (.int (x ||| y) :: st)))) : own_Go p.tables e below P (T.setTop (mkF m pc Ls (.int y :: .int x :: st))) := own_st (fun t k => XS.ior X.here hx rfl hd rfl k) g
theorem o_lor (X : Stand p l e R s m args below meth c T locs cells slots) (hx : p.tables.exec = Jvm.exec) {x y : Int64} (hd : decode c.code pc = .ok (.lor, 1)) (g : own_Go p.tables e below P (T.setTop (mkF m (pc + 1) Ls (.long (x ||| y) :: st)))) : own_Go p.tables e below P (T.setTop (mkF m pc Ls (.long y :: .long x :: st))) := own_st (fun t k => XS.lor X.here hx rfl hd rfl k) g
theorem o_ixor (X : Stand p l e R s m args below meth c T locs cells slots) (hx : p.tables.exec = Jvm.exec) {x y : Int32} (hd : decode c.code pc = .ok (.ixor, 1)) (g : own_Go p.tables e below P (T.setTop (mkF m (pc + 1) Ls (.int (x ^^^ y) :: st)))) : own_Go p.tables e below P (T.setTop (mkF m pc Ls (.int y :: .int x :: st))) := own_st (fun t k => XS.ixor X.here hx rfl hd rfl k) g
theorem o_lxor (X : Stand p l e R s m args below meth c T locs cells slots) (hx : p.tables.exec = Jvm.exec) {x y : Int64} (hd : decode c.code pc = .ok (.lxor, 1)) (g : own_Go p.tables e below P (T.setTop (mkF m (pc + 1) Ls (.long (x ^^^ y) :: st)))) : own_Go p.tables e below P (T.setTop (mkF m pc Ls (.long y :: .long x :: st))) := own_st (fun t k => XS.lxor X.here hx rfl hd rfl k) g
theorem o_idiv (X : Stand p l e R s m args below meth c T locs cells slots) (hx : p.tables.exec = Jvm.exec) {x y : Int32} (hd : decode c.code pc = .ok (.idiv, 1)) (hy : y ≠ 0) (g : own_Go p.tables e below P (T.setTop (mkF m (pc + 1) Ls (.int (x / y) :: st)))) : own_Go p.tables e below P (T.setTop (mkF m pc Ls (.int y :: .int x :: st))) := own_st (fun t k => XS.idiv X.here hx rfl hd rfl hy k) g
theorem o_irem (X : Stand p l e R s m args below meth c T locs cells slots) (hx : p.tables.exec = Jvm.exec) {x y : Int32} (hd : decode c.code pc = .ok (.irem, 1)) (hy : y ≠ 0) (g : own_Go p.tables e below P (T.setTop (mkF m (pc + 1) Ls (.int (x - x / y * y) :: st)))) : own_Go p.tables e below P (T.setTop (mkF m pc Ls (.int y :: .int x :: st))) := own_st (fun t k => XS.irem X.here hx rfl hd rfl hy k) g
theorem o_ldiv (X : Stand p l e R s m args below meth c T locs cells slots) (hx : p.tables.exec = Jvm.exec) {x y : Int64} (hd : decode c.code pc = .ok (.ldiv, 1)) (hy : y ≠ 0) (g : own_Go p.tables e below P (T.setTop (mkF m (pc + 1) Ls (.long (x / y) :: st)))) : own_Go p.tables e below P (T.setTop (mkF m pc Ls (.long y :: .long x :: st))) := own_st (fun t k => XS.ldiv X.here hx rfl hd rfl hy k) g
theorem o_lrem (X : Stand p l e R s m args below meth c T locs cells slots) (hx : p.tables.exec = Jvm.exec) {x y : Int64} (hd : decode c.code pc = .ok (.lrem, 1)) (hy : y ≠ 0) (g : own_Go p.tables e below P (T.setTop (mkF m (pc + 1) Ls (.long (x - x / y * y) :: st)))) : own_Go p.tables e below P (T.setTop (mkF m pc Ls (.long y :: .long x :: st))) := own_st (fun t k => XS.lrem X.here hx rfl hd rfl hy k) g
theorem o_ineg (X : Stand p l e R s m args below meth c T locs cells slots) (hx : p.tables.exec = Jvm.exec) {x : Int32} (hd : decode c.code pc = .ok (.ineg, 1)) (g : own_Go p.tables e below P (T.setTop (mkF m (pc + 1) Ls (.int ((-x)) :: st)))) : own_Go p.tables e below P (T.setTop (mkF m pc Ls (.int x :: st))) := own_st (fun t k => XS.ineg X.here hx rfl hd rfl k) g
theorem o_lneg (X : Stand p l e R s m args below meth c T locs cells slots) (hx : p.tables.exec = Jvm.exec) {x : Int64} (hd : decode c.code pc = .ok (.lneg, 1)) (g : own_Go p.tables e below P (T.setTop (mkF m (pc + 1) Ls (.long ((-x)) :: st)))) : own_Go p.tables e below P (T.setTop (mkF m pc Ls (.long x :: st))) := own_st (fun t k => XS.lneg X.here hx rfl hd rfl k) g
theorem o_i2l (X : Stand p l e R s m args below meth c T locs cells slots) (hx : p.tables.exec = Jvm.exec) {x : Int32} (hd : decode c.code pc = .ok (.i2l, 1)) (g : own_Go p.tables e below P (T.setTop (mkF m (pc + 1) Ls (.long (x.toInt64) :: st)))) : own_Go p.tables e below P (T.setTop (mkF m pc Ls (.int x :: st))) := own_st (fun t k => XS.i2l X.here hx rfl hd rfl k) g
theorem o_l2i (X : Stand p l e R s m args below meth c T locs cells slots) (hx : p.tables.exec = Jvm.exec) {x : Int64} (hd : decode c.code pc = .ok (.l2i, 1)) (g : own_Go p.tables e below P (T.setTop (mkF m (pc + 1) Ls (.int (x.toInt32) :: st)))) : own_Go p.tables e below P (T.setTop (mkF m pc Ls (.long x :: st))) := own_st (fun t k => XS.l2i X.here hx rfl hd rfl k) g
theorem o_i2b (X : Stand p l e R s m args below meth c T locs cells slots) (hx : p.tables.exec = Jvm.exec) {x : Int32} (hd : decode c.code pc = .ok (.i2b, 1)) (g : own_Go p.tables e below P (T.setTop (mkF m (pc + 1) Ls (.int (x.toInt8.toInt32) :: st)))) : own_Go p.tables e below P (T.setTop (mkF m pc Ls (.int x :: st))) := own_st (fun t k => XS.i2b X.here hx rfl hd rfl k) g
theorem o_i2s (X : Stand p l e R s m args below meth c T locs cells slots) (hx : p.tables.exec = Jvm.exec) {x : Int32} (hd : decode c.code pc = .ok (.i2s, 1)) (g : own_Go p.tables e below P (T.setTop (mkF m (pc + 1) Ls (.int (x.toInt16.toInt32) :: st)))) : own_Go p.tables e below P (T.setTop (mkF m pc Ls (.int x :: st))) := own_st (fun t k => XS.i2s X.here hx rfl hd rfl k) g
theorem o_i2c (X : Stand p l e R s m args below meth c T locs cells slots) (hx : p.tables.exec = Jvm.exec) {x : Int32} (hd : decode c.code pc = .ok (.i2c, 1)) (g : own_Go p.tables e below P (T.setTop (mkF m (pc + 1) Ls (.int (x.toUInt32.toUInt16.toUInt32.toInt32) :: st)))) : own_Go p.tables e below P (T.setTop (mkF m pc Ls (.int x :: st))) := own_st (fun t k => XS.i2c X.here hx rfl hd rfl k) g
theorem o_ishl (X : Stand p l e R s m args below meth c T locs cells slots) (hx : p.tables.exec = Jvm.exec) {x : Int32} {y : Int32} (hd : decode c.code pc = .ok (.ishl, 1)) (g : own_Go p.tables e below P (T.setTop (mkF m (pc + 1) Ls (.int (x <<< (y &&& 31)) :: st)))) : own_Go p.tables e below P (T.setTop (mkF m pc Ls (.int y :: .int x :: st))) := own_st (fun t k => XS.ishl X.here hx rfl hd rfl k) g
theorem o_ishr (X : Stand p l e R s m args below meth c T locs cells slots) (hx : p.tables.exec = Jvm.exec) {x : Int32} {y : Int32} (hd : decode c.code pc = .ok (.ishr, 1)) (g : own_Go p.tables e below P (T.setTop (mkF m (pc + 1) Ls (.int (x >>> (y &&& 31)) :: st)))) : own_Go p.tables e below P (T.setTop (mkF m pc Ls (.int y :: .int x :: st))) := own_st (fun t k => XS.ishr X.here hx rfl hd rfl k) g
theorem o_iushr (X : Stand p l e R s m args below meth c T locs cells slots) (hx : p.tables.exec = Jvm.exec) {x : Int32} {y : Int32} (hd : decode c.code pc = .ok (.iushr, 1)) (g : own_Go p.tables e below P (T.setTop (mkF m (pc + 1) Ls (.int ((x.toUInt32 >>> (y &&& 31).toUInt32).toInt32) :: st)))) : own_Go p.tables e below P (T.setTop (mkF m pc Ls (.int y :: .int x :: st))) := own_st (fun t k => XS.iushr X.here hx rfl hd rfl k) g
theorem o_lshl (X : Stand p l e R s m args below meth c T locs cells slots) (hx : p.tables.exec = Jvm.exec) {x : Int64} {y : Int32} (hd : decode c.code pc = .ok (.lshl, 1)) (g : own_Go p.tables e below P (T.setTop (mkF m (pc + 1) Ls (.long (x <<< (y &&& 0x3f).toInt64) :: st)))) : own_Go p.tables e below P (T.setTop (mkF m pc Ls (.int y :: .long x :: st))) := own_st (fun t k => XS.lshl X.here hx rfl hd rfl k) g
theorem o_lshr (X : Stand p l e R s m args below meth c T locs cells slots) (hx : p.tables.exec = Jvm.exec) {x : Int64} {y : Int32} (hd : decode c.code pc = .ok (.lshr, 1)) (g : own_Go p.tables e below P (T.setTop (mkF m (pc + 1) Ls (.long (x >>> (y &&& 0x3f).toInt64) :: st)))) : own_Go p.tables e below P (T.setTop (mkF m pc Ls (.int y :: .long x :: st))) := own_st (fun t k => XS.lshr X.here hx rfl hd rfl k) g
theorem o_lushr (X : Stand p l e R s m args below meth c T locs cells slots) (hx : p.tables.exec = Jvm.exec) {x : Int64} {y : Int32} (hd : decode c.code pc = .ok (.lushr, 1)) (g : own_Go p.tables e below P (T.setTop (mkF m (pc + 1) Ls (.long ((x.toUInt64 >>> (y &&& 0x3f).toInt64.toUInt64).toInt64) :: st)))) : own_Go p.tables e below P (T.setTop (mkF m pc Ls (.int y :: .long x :: st))) := own_st (fun t k => XS.lushr X.here hx rfl hd rfl k) g
theorem o_lcmp (X : Stand p l e R s m args below meth c T locs cells slots) (hx : p.tables.exec = Jvm.exec) {x y : Int64} (hd : decode c.code pc = .ok (.lcmp, 1)) (g : own_Go p.tables e below P (T.setTop (mkF m (pc + 1) Ls (.int (lcmpW x y) :: st)))) : own_Go p.tables e below P (T.setTop (mkF m pc Ls (.long y :: .long x :: st))) := own_st (fun t k => XS.lcmp X.here hx rfl hd rfl k) g
theorem o_iinc (X : Stand p l e R s m args below meth c T locs cells slots) (hx : p.tables.exec = Jvm.exec) {k : Nat} {cst : Int} {x : Int32} {l' : Array Slot} (hd : decode c.code pc = .ok (.iinc k cst, 3)) (hl : Ls[k]? = some (.val (.int x))) (hl' : storeLocals Ls k (.int (x + Int32.ofInt cst)) = some l') (g : own_Go p.tables e below P (T.setTop (mkF m (pc + 3) l' st))) : own_Go p.tables e below P (T.setTop (mkF m pc Ls st)) := own_st (fun t k => XS.iinc X.here hx rfl hd hl hl' k) g
theorem o_dup (X : Stand p l e R s m args below meth c T locs cells slots) (hx : p.tables.exec = Jvm.exec) {x : Value} (hd : decode c.code pc = .ok (.dup, 1)) (hc : x.category = 1) (g : own_Go p.tables e below P (T.setTop (mkF m (pc + 1) Ls (x :: x :: st)))) : own_Go p.tables e below P (T.setTop (mkF m pc Ls (x :: st))) := own_st (fun t k => XS.dup X.here hx rfl hd rfl hc k) g
theorem o_pop (X : Stand p l e R s m args below meth c T locs cells slots) (hx : p.tables.exec = Jvm.exec) {x : Value} (hd : decode c.code pc = .ok (.pop, 1)) (hc : x.category = 1) (g : own_Go p.tables e below P (T.setTop (mkF m (pc + 1) Ls st))) : own_Go p.tables e below P (T.setTop (mkF m pc Ls (x :: st))) := own_st (fun t k => XS.pop X.here hx rfl hd rfl hc k) g
theorem o_dupX1 (X : Stand p l e R s m args below meth c T locs cells slots) (hx : p.tables.exec = Jvm.exec) {x y : Value} (hd : decode c.code pc = .ok (.dup_x1, 1)) (hc : x.category = 1) (hc' : y.category = 1) (g : own_Go p.tables e below P (T.setTop (mkF m (pc + 1) Ls (x :: y :: x :: st)))) : own_Go p.tables e below P (T.setTop (mkF m pc Ls (x :: y :: st))) := own_st (fun t k => XS.dupX1 X.here hx rfl hd rfl hc hc' k) g
theorem o_dup2 (X : Stand p l e R s m args below meth c T locs cells slots) (hx : p.tables.exec = Jvm.exec) {x y : Value} (hd : decode c.code pc = .ok (.dup2, 1)) (hc : x.category = 1) (hc' : y.category = 1) (g : own_Go p.tables e below P (T.setTop (mkF m (pc + 1) Ls (x :: y :: x :: y :: st)))) : own_Go p.tables e below P (T.setTop (mkF m pc Ls (x :: y :: st))) := own_st (fun t k => Jvm.Free.XT.dup2 X.here hx rfl hd rfl hc hc' k) g
theorem o_goto (X : Stand p l e R s m args below meth c T locs cells slots) (hx : p.tables.exec = Jvm.exec) {o : Int} {pc' : Nat} (hd : decode c.code pc = .ok (.goto o, 3)) (ho : 0 ≤ (pc : Int) + o) (hp : ((pc : Int) + o).toNat = pc') (g : own_Go p.tables e below P (T.setTop (mkF m pc' Ls st))) : own_Go p.tables e below P (T.setTop (mkF m pc Ls st)) := own_st (fun t k => XS.goto X.here hx rfl rfl hd ho hp k) g
theorem o_ifYes (X : Stand p l e R s m args below meth c T locs cells slots) (hx : p.tables.exec = Jvm.exec) {cd : ClassFile.Cond} {x : Int32} {o : Int} {pc' : Nat} (hd : decode c.code pc = .ok (.ifCond cd o, 3)) (hc : if_icmp.holds cd x 0 = true) (ho : 0 ≤ (pc : Int) + o) (hp : ((pc : Int) + o).toNat = pc') (g : own_Go p.tables e below P (T.setTop (mkF m pc' Ls st))) : own_Go p.tables e below P (T.setTop (mkF m pc Ls (.int x :: st))) := own_st (fun t k => XS.ifYes X.here hx rfl rfl hd rfl ((if0 _ _).trans hc) ho hp k) g
theorem o_ifNo (X : Stand p l e R s m args below meth c T locs cells slots) (hx : p.tables.exec = Jvm.exec) {cd : ClassFile.Cond} {x : Int32} {o : Int} (hd : decode c.code pc = .ok (.ifCond cd o, 3)) (hc : if_icmp.holds cd x 0 = false) (g : own_Go p.tables e below P (T.setTop (mkF m (pc + 3) Ls st))) : own_Go p.tables e below P (T.setTop (mkF m pc Ls (.int x :: st))) := own_st (fun t k => XS.ifNo X.here hx rfl hd rfl ((if0 _ _).trans hc) k) g
theorem o_icmpYes (X : Stand p l e R s m args below meth c T locs cells slots) (hx : p.tables.exec = Jvm.exec) {cd : ClassFile.Cond} {x y : Int32} {o : Int} {pc' : Nat} (hd : decode c.code pc = .ok (.if_icmp cd o, 3)) (hc : if_icmp.holds cd x y = true) (ho : 0 ≤ (pc : Int) + o) (hp : ((pc : Int) + o).toNat = pc') (g : own_Go p.tables e below P (T.setTop (mkF m pc' Ls st))) : own_Go p.tables e below P (T.setTop (mkF m pc Ls (.int y :: .int x :: st))) := own_st (fun t k => XS.icmpYes X.here hx rfl rfl hd rfl hc ho hp k) g
theorem o_icmpNo (X : Stand p l e R s m args below meth c T locs cells slots) (hx : p.tables.exec = Jvm.exec) {cd : ClassFile.Cond} {x y : Int32} {o : Int} (hd : decode c.code pc = .ok (.if_icmp cd o, 3)) (hc : if_icmp.holds cd x y = false) (g : own_Go p.tables e below P (T.setTop (mkF m (pc + 3) Ls st))) : own_Go p.tables e below P (T.setTop (mkF m pc Ls (.int y :: .int x :: st))) := own_st (fun t k => XS.icmpNo X.here hx rfl hd rfl hc k) g
theorem o_ifnullYes (X : Stand p l e R s m args below meth c T locs cells slots) (hx : p.tables.exec = Jvm.exec) {o : Int} {pc' : Nat} (hd : decode c.code pc = .ok (.ifnull o, 3)) (ho : 0 ≤ (pc : Int) + o) (hp : ((pc : Int) + o).toNat = pc') (g : own_Go p.tables e below P (T.setTop (mkF m pc' Ls st))) : own_Go p.tables e below P (T.setTop (mkF m pc Ls (.null :: st))) := own_st (fun t k => XS.ifnullYes X.here hx rfl rfl hd rfl ho hp k) g
theorem o_ifnullNo (X : Stand p l e R s m args below meth c T locs cells slots) (hx : p.tables.exec = Jvm.exec) {o : Int} {b : Addr} (hd : decode c.code pc = .ok (.ifnull o, 3)) (g : own_Go p.tables e below P (T.setTop (mkF m (pc + 3) Ls st))) : own_Go p.tables e below P (T.setTop (mkF m pc Ls (.ref b :: st))) := own_st (fun t k => XS.ifnullNo X.here hx rfl hd rfl k) g
theorem o_ifnonnullNo (X : Stand p l e R s m args below meth c T locs cells slots) (hx : p.tables.exec = Jvm.exec) {o : Int} (hd : decode c.code pc = .ok (.ifnonnull o, 3)) (g : own_Go p.tables e below P (T.setTop (mkF m (pc + 3) Ls st))) : own_Go p.tables e below P (T.setTop (mkF m pc Ls (.null :: st))) := own_st (fun t k => XS.ifnonnullNo X.here hx rfl hd rfl k) g
theorem o_ifnonnullYes (X : Stand p l e R s m args below meth c T locs cells slots) (hx : p.tables.exec = Jvm.exec) {o : Int} {b : Addr} {pc' : Nat} (hd : decode c.code pc = .ok (.ifnonnull o, 3)) (ho : 0 ≤ (pc : Int) + o) (hp : ((pc : Int) + o).toNat = pc') (g : own_Go p.tables e below P (T.setTop (mkF m pc' Ls st))) : own_Go p.tables e below P (T.setTop (mkF m pc Ls (.ref b :: st))) := own_st (fun t k => XS.ifnonnullYes X.here hx rfl rfl hd rfl ho hp k) g
theorem o_ldc (X : Stand p l e R s m args below meth c T locs cells slots) (hx : p.tables.exec = Jvm.exec) {own : String} {index : Nat} {v : Int32} (hown : s.vm.findClass own = some m.cls) (hd : decode c.code pc = .ok (.ldc index, 2)) (hk : (Cond.constant own index v).before args s = true) (g : own_Go p.tables e below P (T.setTop (mkF m (pc + 2) Ls (.int v :: st)))) : own_Go p.tables e below P (T.setTop (mkF m pc Ls st)) := own_st (X.ldcInt hx hown hk (g := mkF m pc Ls st) rfl hd) g
theorem o_ldc2 (X : Stand p l e R s m args below meth c T locs cells slots) (hx : p.tables.exec = Jvm.exec) {own : String} {index : Nat} {v : Int64} (hown : s.vm.findClass own = some m.cls) (hd : decode c.code pc = .ok (.ldc2_w index, 3)) (hk : (Cond.constantLong own index v).before args s = true) (g : own_Go p.tables e below P (T.setTop (mkF m (pc + 3) Ls (.long v :: st)))) : own_Go p.tables e below P (T.setTop (mkF m pc Ls st)) := own_st (X.ldc2Long hx hown hk (g := mkF m pc Ls st) rfl hd) g
end Steps2
end Jvm.RoadKit
namespace Jvm.Pilot.@@N@@
open Jvm Jvm.ClassFile Sem Op Lib Jvm.Free Jvm.Stand Jvm.LawKit Jvm.RoadKit Bundle Jvm.Pilot.@@N@@.Jvm.D
theorem own_ge0 {x : Int32} (h : 0 ≤ x.toInt) : ¬ x < 0 := by rw [Int32.lt_iff_toInt_lt]; simp; omega
theorem own_ltI {x y : Int32} (h : x.toInt < y.toInt) : x < y := Int32.lt_iff_toInt_lt.mpr h
theorem own_getD_int : ∀ (vs : List Value), (∀ v ∈ vs, ∃ w, v = Value.int w) → ∀ i, ∃ w, vs.getD i (.int (0 : Int32)) = Value.int w
  | [], _, i => ⟨0, by simp⟩
  | v :: vs, h, 0 => by obtain ⟨w, e⟩ := h v (List.mem_cons_self ..); exact ⟨w, by simp [e]⟩
  | v :: vs, h, i + 1 => by obtain ⟨w, e⟩ := own_getD_int vs (fun u hu => h u (List.mem_cons_of_mem _ hu)) i; exact ⟨w, by simpa using e⟩

def own_bit (p1 : Int32) (p2 : Int32)  : Int32 := (if (((p1.toUInt32 >>> (p2 &&& 31).toUInt32).toInt32) &&& (1 : Int32)) = (0 : Int32) then (0 : Int32) else (1 : Int32))
theorem pn_1 : plainName "com/example/vernum/vernum/VersionScannerIsInPinLaw" = true := by first | (simp [plainName, overriddenIn]; done) | decide +kernel
theorem d1_0 : decode method_2_code 0 = .ok (.iload_n 0, 1) := by decide +kernel
theorem d1_1 : decode method_2_code 1 = .ok (.iload_n 1, 1) := by decide +kernel
theorem d1_2 : decode method_2_code 2 = .ok (.iushr, 1) := by decide +kernel
theorem d1_3 : decode method_2_code 3 = .ok (.iconst 1, 1) := by decide +kernel
theorem d1_4 : decode method_2_code 4 = .ok (.iand, 1) := by decide +kernel
theorem d1_5 : decode method_2_code 5 = .ok (.ifCond .eq 7, 3) := by decide +kernel
theorem d1_12 : decode method_2_code 12 = .ok (.iconst 0, 1) := by decide +kernel
theorem d1_13 : decode method_2_code 13 = .ok (.ireturn, 1) := by decide +kernel
theorem d1_8 : decode method_2_code 8 = .ok (.iconst 1, 1) := by decide +kernel
theorem d1_9 : decode method_2_code 9 = .ok (.goto 4, 3) := by decide +kernel
theorem ef_rm1 (m : MethodId) (p1 : Int32) (p2 : Int32) : entryFrame m #[(.int p1), (.int p2)] 2 = mkF m 0 #[iv p1, iv p2] [] := by first | (simp [entryFrame, mkF, argsToLocals, Value.category]; done) | rfl
def Q_rm1 (Z : State) (a0 : Array Value) (p1 : Int32) (p2 : Int32)  (h0 : Heap) (n0 : Nat) (v : Option Value) (h : Heap) (L : List Loc) : Prop := v = some (.int (own_bit p1 p2)) ∧ Fr n0 L ∧ h = h0
set_option maxRecDepth 65536 in
set_option maxHeartbeats 40000000 in
theorem rm1 (l : Launch) (Z : State) (a0 : Array Value) (hw : ∀ d ∈ tables_1, d.before a0 Z = true) (ws : List Jvm.Cond) (p1 : Int32) (p2 : Int32)  (h0 : Heap) (n0 : Nat) (Z0 : n0 ≤ h0.size) :
    MetFree l (⟨"com/example/vernum/vernum/VersionScannerIsInPinLaw", "bit", "(II)Z"⟩ : MethodName) (head1 (Jvm.Cond.code (⟨"com/example/vernum/vernum/VersionScannerIsInPinLaw", "bit", "(II)Z"⟩ : MethodName) method_2_code 2 (some .boolean) :: ws) ({ frames := 0, cells := 0, slots := 0, locals := 0 } : Room)) (fun a U => a = #[(.int p1), (.int p2)] ∧ Z.Warmed39 U.vm ∧ U.heap = h0) (fun _ _ _ _ _ => True) (fun _ U o U' => ∃ v L, o = .returned v ∧ Q_rm1 Z a0 p1 p2 h0 n0 v U'.heap L ∧ FrameEnd U o U' L ({ frames := 0, cells := 0, slots := 0, locals := 0 } : Room).cells ({ frames := 0, cells := 0, slots := 0, locals := 0 } : Room).slots) := by
  refine MetFree.of_bodySF (plainFor_of_name pn_1) hisR ?_
  intro p e s m args below meth c s₁ Bd hml0 hP hK
  obtain ⟨rfl, hZ, hh⟩ := hP
  have hx := Bd.exec
  have hby := Bd.bytes
  have hml : c.maxLocals = 2 := hml0
  have hown : s.vm.findClass "com/example/vernum/vernum/VersionScannerIsInPinLaw" = some m.cls := findClass_of_methodNamed Bd.named
  have hnm := (name_of_methodNamed Bd.named Bd.method).1
  have hlk : meth.locks = false := BodyLoose.notSynchronized (by assumption)
  have X0 : Stand p l e ({ frames := 0, cells := 0, slots := 0, locals := 0 } : Room) s m #[(.int p1), (.int p2)] below meth c s₁ [] 0 0 := Stand.of_body Bd
  have e0 : s₁.heap = h0 := by rw [← hh, Bd.state]; rfl
  have N0 := Fr.nil n0
  show own_Go p.tables e below (fun o U' => ∃ v L, o = .returned v ∧ Q_rm1 Z a0 p1 p2 h0 n0 v U'.heap L ∧ FrameEnd s o U' L ({ frames := 0, cells := 0, slots := 0, locals := 0 } : Room).cells ({ frames := 0, cells := 0, slots := 0, locals := 0 } : Room).slots) (s₁.setTop (entryFrame m #[(.int p1), (.int p2)] 2))
  refine own_st (fun t k => castTop (ef_rm1 m p1 p2) k) ?_
  have hv : own_bit p1 p2 = (if (((p1.toUInt32 >>> (p2 &&& 31).toUInt32).toInt32) &&& (1 : Int32)) = (0 : Int32) then (0 : Int32) else (1 : Int32)) := rfl
  show own_Go _ _ _ _ (s₁.setTop (mkF m 0 #[iv p1, iv p2] []))
  refine o_iloadN X0 hx (hb hby d1_0) rfl ?_
  refine o_iloadN X0 hx (hb hby d1_1) rfl ?_
  refine o_iushr X0 hx (hb hby d1_2) ?_
  refine o_iconst X0 hx 1 (hb hby d1_3) rfl ?_
  refine o_iand X0 hx (hb hby d1_4) ?_
  by_cases hc5_1 : (((p1.toUInt32 >>> (p2 &&& 31).toUInt32).toInt32) &&& (1 : Int32)) = (0 : Int32)
  · have hv2 := hv.trans (if_pos hc5_1)
    refine o_ifYes X0 hx (pc' := 12) (hb hby d1_5) (teq hc5_1).1 (by decide) (by decide) ?_
    refine o_iconst X0 hx 0 (hb hby d1_12) rfl ?_
    exact own_end X0 e0 (v := some (.int (0 : Int32))) (fun h => by rw [Bd.returns] at h; cases h) hlk (fun fs hr => retN X0 hx (z := (0 : Int32)) (t := .boolean) Bd.returns (by simp) (hb hby d1_13) hr) (Q := Q_rm1 Z a0 p1 p2 h0 n0) ⟨(congrArg (fun z => some (Value.int z)) hv2.symm), N0, rfl⟩ (by decide) (by decide)
  · have hv3 := hv.trans (if_neg hc5_1)
    refine o_ifNo X0 hx (hb hby d1_5) (feq hc5_1).1 ?_
    refine o_iconst X0 hx 1 (hb hby d1_8) rfl ?_
    refine o_goto X0 hx (pc' := 13) (hb hby d1_9) (by decide) (by decide) ?_
    exact own_end X0 e0 (v := some (.int (1 : Int32))) (fun h => by rw [Bd.returns] at h; cases h) hlk (fun fs hr => retN X0 hx (z := (1 : Int32)) (t := .boolean) Bd.returns (by simp) (hb hby d1_13) hr) (Q := Q_rm1 Z a0 p1 p2 h0 n0) ⟨(congrArg (fun z => some (Value.int z)) hv3.symm), N0, rfl⟩ (by decide) (by decide)
def own_isIn (p2 : Int32) (nn : Int32) (w : Int32) : Int32 := (if p2 < nn then (if w = (0 : Int32) then (0 : Int32) else (1 : Int32)) else (0 : Int32))
theorem pn_2 : plainName "com/example/vernum/vernum/VersionScanner" = true := by first | (simp [plainName, overriddenIn]; done) | decide +kernel
theorem d2_0 : decode prog_24_method_17_code 0 = .ok (.iload_n 1, 1) := by decide +kernel
theorem d2_1 : decode prog_24_method_17_code 1 = .ok (.aload_n 0, 1) := by decide +kernel
theorem d2_2 : decode prog_24_method_17_code 2 = .ok (.arraylength, 1) := by decide +kernel
theorem d2_3 : decode prog_24_method_17_code 3 = .ok (.if_icmp .ge 13, 3) := by decide +kernel
theorem d2_6 : decode prog_24_method_17_code 6 = .ok (.aload_n 0, 1) := by decide +kernel
theorem d2_7 : decode prog_24_method_17_code 7 = .ok (.iload_n 1, 1) := by decide +kernel
theorem d2_8 : decode prog_24_method_17_code 8 = .ok (.baload, 1) := by decide +kernel
theorem d2_9 : decode prog_24_method_17_code 9 = .ok (.ifCond .eq 7, 3) := by decide +kernel
theorem d2_16 : decode prog_24_method_17_code 16 = .ok (.iconst 0, 1) := by decide +kernel
theorem d2_17 : decode prog_24_method_17_code 17 = .ok (.ireturn, 1) := by decide +kernel
theorem d2_12 : decode prog_24_method_17_code 12 = .ok (.iconst 1, 1) := by decide +kernel
theorem d2_13 : decode prog_24_method_17_code 13 = .ok (.goto 4, 3) := by decide +kernel
theorem ef_rm2 (m : MethodId) (a1 : Addr) (p2 : Int32) : entryFrame m #[(.ref a1), (.int p2)] 2 = mkF m 0 #[rv a1, iv p2] [] := by first | (simp [entryFrame, mkF, argsToLocals, Value.category]; done) | rfl
def Q_rm2 (Z : State) (a0 : Array Value) (a1 : Addr) (p2 : Int32) (k : ClassId) (nn : Int32) (w : Int32) (vs : List Value) (dv : Value) (h0 : Heap) (n0 : Nat) (v : Option Value) (h : Heap) (L : List Loc) : Prop := v = some (.int (own_isIn p2 nn w)) ∧ Fr n0 L ∧ h = h0
set_option maxRecDepth 65536 in
set_option maxHeartbeats 40000000 in
theorem rm2 (l : Launch) (Z : State) (a0 : Array Value) (hw : ∀ d ∈ tables_1, d.before a0 Z = true) (ws : List Jvm.Cond) (a1 : Addr) (p2 : Int32) (k : ClassId) (nn : Int32) (w : Int32) (vs : List Value) (dv : Value) (h0 : Heap) (n0 : Nat) (Z0 : n0 ≤ h0.size) (V1 : Arv Z h0 a1 k .boolean nn vs dv) (hp2 : ¬ p2 < 0) (hat : p2 < nn → vs.getD p2.toNatClampNeg dv = .int w) :
    MetFree l (⟨"com/example/vernum/vernum/VersionScanner", "isIn", "([ZI)Z"⟩ : MethodName) (head1 (Jvm.Cond.code (⟨"com/example/vernum/vernum/VersionScanner", "isIn", "([ZI)Z"⟩ : MethodName) prog_24_method_17_code 2 (some .boolean) :: ws) ({ frames := 0, cells := 0, slots := 0, locals := 0 } : Room)) (fun a U => a = #[(.ref a1), (.int p2)] ∧ Z.Warmed39 U.vm ∧ U.heap = h0) (fun _ _ _ _ _ => True) (fun _ U o U' => ∃ v L, o = .returned v ∧ Q_rm2 Z a0 a1 p2 k nn w vs dv h0 n0 v U'.heap L ∧ FrameEnd U o U' L ({ frames := 0, cells := 0, slots := 0, locals := 0 } : Room).cells ({ frames := 0, cells := 0, slots := 0, locals := 0 } : Room).slots) := by
  refine MetFree.of_bodySF (plainFor_of_name pn_2) hisR ?_
  intro p e s m args below meth c s₁ Bd hml0 hP hK
  obtain ⟨rfl, hZ, hh⟩ := hP
  have hx := Bd.exec
  have hby := Bd.bytes
  have hml : c.maxLocals = 2 := hml0
  have hown : s.vm.findClass "com/example/vernum/vernum/VersionScanner" = some m.cls := findClass_of_methodNamed Bd.named
  have hnm := (name_of_methodNamed Bd.named Bd.method).1
  have hlk : meth.locks = false := BodyLoose.notSynchronized (by assumption)
  have X0 : Stand p l e ({ frames := 0, cells := 0, slots := 0, locals := 0 } : Room) s m #[(.ref a1), (.int p2)] below meth c s₁ [] 0 0 := Stand.of_body Bd
  have e0 : s₁.heap = h0 := by rw [← hh, Bd.state]; rfl
  have N0 := Fr.nil n0
  show own_Go p.tables e below (fun o U' => ∃ v L, o = .returned v ∧ Q_rm2 Z a0 a1 p2 k nn w vs dv h0 n0 v U'.heap L ∧ FrameEnd s o U' L ({ frames := 0, cells := 0, slots := 0, locals := 0 } : Room).cells ({ frames := 0, cells := 0, slots := 0, locals := 0 } : Room).slots) (s₁.setTop (entryFrame m #[(.ref a1), (.int p2)] 2))
  refine own_st (fun t k => castTop (ef_rm2 m a1 p2) k) ?_
  have hv : own_isIn p2 nn w = (if p2 < nn then (if w = (0 : Int32) then (0 : Int32) else (1 : Int32)) else (0 : Int32)) := rfl
  show own_Go _ _ _ _ (s₁.setTop (mkF m 0 #[rv a1, iv p2] []))
  refine o_iloadN X0 hx (hb hby d2_0) rfl ?_
  refine o_aloadN X0 hx (hb hby d2_1) rfl rfl ?_
  obtain ⟨cl1, Ar1, qk1, Sz1, Ng1, Hs1, Gs1⟩ := id V1
  refine own_st (X0.arraylength hx (by rw [e0]; exact Ar1.1) (State.isArrayOf_alike hZ.alike Ar1.2.1) (g := (mkF m 2 #[rv a1, iv p2] [(.ref a1), (.int p2)])) rfl rfl (hb hby d2_2)) ?_
  rw [len_of Sz1 Ng1]
  show own_Go _ _ _ _ (s₁.setTop (mkF m 3 #[rv a1, iv p2] [(.int nn), (.int p2)]))
  by_cases hc3_2 : p2 < nn
  · have hv3 := hv.trans (if_pos hc3_2)
    refine o_icmpNo X0 hx (hb hby d2_3) (tlt hc3_2).2.1 ?_
    refine o_aloadN X0 hx (hb hby d2_6) rfl rfl ?_
    refine o_iloadN X0 hx (hb hby d2_7) rfl ?_
    obtain ⟨cl4, Ar4, qk4, Sz4, Ng4, Hs4, Gs4⟩ := id V1
    refine own_st (X0.baloadBooleans hx (j := p2) (v := (.int w)) (by rw [e0]; exact Ar4.1) (State.isArrayOf_alike hZ.alike Ar4.2.1) Ar4.2.2 (inb_of Sz4 ⟨hp2, hc3_2⟩) (Hs4.at (j := p2) (inb_of Sz4 ⟨hp2, hc3_2⟩) (hat hc3_2)) (g := (mkF m 8 #[rv a1, iv p2] [(.int p2), (.ref a1)])) rfl rfl (hb hby d2_8)) ?_
    show own_Go _ _ _ _ (s₁.setTop (mkF m 9 #[rv a1, iv p2] [(.int w)]))
    by_cases hc9_5 : w = (0 : Int32)
    · have hv6 := hv3.trans (if_pos hc9_5)
      refine o_ifYes X0 hx (pc' := 16) (hb hby d2_9) (teq hc9_5).1 (by decide) (by decide) ?_
      refine o_iconst X0 hx 0 (hb hby d2_16) rfl ?_
      exact own_end X0 e0 (v := some (.int (0 : Int32))) (fun h => by rw [Bd.returns] at h; cases h) hlk (fun fs hr => retN X0 hx (z := (0 : Int32)) (t := .boolean) Bd.returns (by simp) (hb hby d2_17) hr) (Q := Q_rm2 Z a0 a1 p2 k nn w vs dv h0 n0) ⟨(congrArg (fun z => some (Value.int z)) hv6.symm), N0, rfl⟩ (by decide) (by decide)
    · have hv7 := hv3.trans (if_neg hc9_5)
      refine o_ifNo X0 hx (hb hby d2_9) (feq hc9_5).1 ?_
      refine o_iconst X0 hx 1 (hb hby d2_12) rfl ?_
      refine o_goto X0 hx (pc' := 17) (hb hby d2_13) (by decide) (by decide) ?_
      exact own_end X0 e0 (v := some (.int (1 : Int32))) (fun h => by rw [Bd.returns] at h; cases h) hlk (fun fs hr => retN X0 hx (z := (1 : Int32)) (t := .boolean) Bd.returns (by simp) (hb hby d2_17) hr) (Q := Q_rm2 Z a0 a1 p2 k nn w vs dv h0 n0) ⟨(congrArg (fun z => some (Value.int z)) hv7.symm), N0, rfl⟩ (by decide) (by decide)
  · have hv8 := hv.trans (if_neg hc3_2)
    refine o_icmpYes X0 hx (pc' := 16) (hb hby d2_3) (flt hc3_2).2.1 (by decide) (by decide) ?_
    refine o_iconst X0 hx 0 (hb hby d2_16) rfl ?_
    exact own_end X0 e0 (v := some (.int (0 : Int32))) (fun h => by rw [Bd.returns] at h; cases h) hlk (fun fs hr => retN X0 hx (z := (0 : Int32)) (t := .boolean) Bd.returns (by simp) (hb hby d2_17) hr) (Q := Q_rm2 Z a0 a1 p2 k nn w vs dv h0 n0) ⟨(congrArg (fun z => some (Value.int z)) hv8.symm), N0, rfl⟩ (by decide) (by decide)
theorem own_masked (x m : Int32) (hm : 0 ≤ m.toInt) : ¬ (x &&& m) < 0 := own_ge0 (c_and x m hm).1
theorem own_small (c : Int32) (h0 : ¬ c < 0) (h8 : c < 8) : c = 0 ∨ c = 1 ∨ c = 2 ∨ c = 3 ∨ c = 4 ∨ c = 5 ∨ c = 6 ∨ c = 7 := by
  have e : ∀ n : Int32, (c = n) ↔ (c.toInt = n.toInt) := fun n => Int32.toInt_inj.symm
  rw [Int32.lt_iff_toInt_lt] at h0 h8
  simp only [e]
  have h0' : ¬ c.toInt < 0 := h0
  have h8' : c.toInt < 8 := h8
  show c.toInt = 0 ∨ c.toInt = 1 ∨ c.toInt = 2 ∨ c.toInt = 3 ∨ c.toInt = 4 ∨ c.toInt = 5 ∨ c.toInt = 6 ∨ c.toInt = 7
  omega
theorem own_tab (b c : Int32) (h0 : ¬ c < 0) (h8 : c < 8) : [(.int (nar .boolean (own_bit b (0 : Int32)))), (.int (nar .boolean (own_bit b (1 : Int32)))), (.int (nar .boolean (own_bit b (2 : Int32)))), (.int (nar .boolean (own_bit b (3 : Int32)))), (.int (nar .boolean (own_bit b (4 : Int32)))), (.int (nar .boolean (own_bit b (5 : Int32)))), (.int (nar .boolean (own_bit b (6 : Int32)))), (.int (nar .boolean (own_bit b (7 : Int32))))].getD c.toNatClampNeg (.int (0 : Int32)) = Value.int (nar .boolean (own_bit b c)) := by
  rcases own_small c h0 h8 with rfl | rfl | rfl | rfl | rfl | rfl | rfl | rfl <;> rfl
theorem own_bit01 (b c : Int32) : own_bit b c = 0 ∨ own_bit b c = 1 := by
  unfold own_bit; split <;> simp
theorem own_fin (b c : Int32) (h8 : c < (8 : Int32)) : own_isIn c (8 : Int32) (nar .boolean (own_bit b c)) = own_bit b c := by
  unfold own_isIn; rw [if_pos h8]
  rcases own_bit01 b c with h | h <;> rw [h] <;> rfl
theorem own_fin8 (c w : Int32) (h8 : ¬ c < (8 : Int32)) : own_isIn c (8 : Int32) w = (0 : Int32) := by unfold own_isIn; rw [if_neg h8]
theorem own_fin0 (c w : Int32) (h0 : ¬ c < 0) : own_isIn c (0 : Int32) w = (0 : Int32) := by unfold own_isIn; rw [if_neg h0]
theorem pd_1 : parseMethodDescriptor "(II)Z" = some ⟨[.int, .int], some .boolean⟩ := by decide +kernel
theorem pd_2 : parseMethodDescriptor "([ZI)Z" = some ⟨[(.array .boolean), .int], some .boolean⟩ := by decide +kernel
theorem ef_rm0 (m : MethodId) (p1 : Int32) (p2 : Int32) (p3 : Int32) : entryFrame m #[(.int p1), (.int p2), (.int p3)] maxLocals = mkF m 0 #[iv p1, iv p2, iv p3, .unset, .unset, .unset, .unset, .unset, .unset, .unset] [] := by first | (simp [entryFrame, mkF, argsToLocals, Value.category, maxLocals]; done) | rfl
def Q_rm0 (Z : State) (a0 : Array Value) (p1 : Int32) (p2 : Int32) (p3 : Int32)  (h0 : Heap) (n0 : Nat) (v : Option Value) (h : Heap) (L : List Loc) : Prop := v = some (.int (1 : Int32)) ∧ Fr n0 L ∧ Keep h0 h []
set_option maxRecDepth 65536 in
set_option maxHeartbeats 40000000 in
theorem rm0 (l : Launch) (Z : State) (a0 : Array Value) (hw : ∀ d ∈ tables_1, d.before a0 Z = true) (ws : List Jvm.Cond) (p1 : Int32) (p2 : Int32) (p3 : Int32)  (h0 : Heap) (n0 : Nat) (Z0 : n0 ≤ h0.size) :
    MetFree l x (head1 (Jvm.Cond.code x code maxLocals ret :: ws) room_1) (fun a U => a = #[(.int p1), (.int p2), (.int p3)] ∧ Z.Warmed39 U.vm ∧ U.heap = h0) (fun _ _ _ _ _ => True) (fun _ U o U' => ∃ v L, o = .returned v ∧ Q_rm0 Z a0 p1 p2 p3 h0 n0 v U'.heap L ∧ FrameEnd U o U' L room_1.cells room_1.slots) := by
  refine MetFree.of_bodySF (plainFor_of_name pn_1) hisR ?_
  intro p e s m args below meth c s₁ Bd hml0 hP hK
  obtain ⟨rfl, hZ, hh⟩ := hP
  have hx := Bd.exec
  have hby := Bd.bytes
  have hml : c.maxLocals = 10 := hml0
  have hown : s.vm.findClass "com/example/vernum/vernum/VersionScannerIsInPinLaw" = some m.cls := findClass_of_methodNamed Bd.named
  have hnm := (name_of_methodNamed Bd.named Bd.method).1
  have hlk : meth.locks = false := BodyLoose.notSynchronized (by assumption)
  have X0 : Stand p l e room_1 s m #[(.int p1), (.int p2), (.int p3)] below meth c s₁ [] 0 0 := Stand.of_body Bd
  have e0 : s₁.heap = h0 := by rw [← hh, Bd.state]; rfl
  have N0 := Fr.nil n0
  show own_Go p.tables e below (fun o U' => ∃ v L, o = .returned v ∧ Q_rm0 Z a0 p1 p2 p3 h0 n0 v U'.heap L ∧ FrameEnd s o U' L room_1.cells room_1.slots) (s₁.setTop (entryFrame m #[(.int p1), (.int p2), (.int p3)] maxLocals))
  refine own_st (fun t k => castTop (ef_rm0 m p1 p2 p3) k) ?_
  show own_Go _ _ _ _ (s₁.setTop (mkF m 0 #[iv p1, iv p2, iv p3, .unset, .unset, .unset, .unset, .unset, .unset, .unset] []))
  refine o_bipush X0 hx 8 (hb hby at_0) rfl ?_
  obtain ⟨T1, h1, k1, X1, e1, E1, A1, st1⟩ := newP X0 hx hZ (hw _ (List.mem_of_getElem? (i := 0) rfl)) e0 (g := (mkF m 2 #[iv p1, iv p2, iv p3, .unset, .unset, .unset, .unset, .unset, .unset, .unset] [(.int 8)])) rfl (hb hby at_2) rfl (by decide) (cap := 8) (by decide) (by decide) (by decide) (by decide)
  obtain ⟨b1, g1⟩ : ∃ z, z = h0.size := ⟨_, rfl⟩
  rw [← g1] at A1 st1
  have V1 : Arv Z h1 b1 k1 .boolean (8 : Int32) [(.int (0 : Int32)), (.int (0 : Int32)), (.int (0 : Int32)), (.int (0 : Int32)), (.int (0 : Int32)), (.int (0 : Int32)), (.int (0 : Int32)), (.int (0 : Int32))] (.int (0 : Int32)) := (Arv.new A1 (by decide)).pad (pad_rep [] (.int (0 : Int32)) 8)
  have gg1 : n0 ≤ b1 := Nat.le_trans Z0 (Nat.le_of_eq g1.symm)
  have sz1 : h0.size ≤ b1 := Nat.le_trans (Keep.refl h0 []).1 (Nat.le_of_eq g1.symm)
  refine own_st st1 ?_
  show own_Go _ _ _ _ (T1.setTop (mkF m 4 #[iv p1, iv p2, iv p3, .unset, .unset, .unset, .unset, .unset, .unset, .unset] [(.ref b1)]))
  refine o_astoreN X1 hx (hb hby at_4) rfl (l' := #[iv p1, iv p2, iv p3, rv b1, .unset, .unset, .unset, .unset, .unset, .unset]) rfl ?_
  refine o_aloadN X1 hx (hb hby at_5) rfl rfl ?_
  refine o_iconst X1 hx 0 (hb hby at_6) rfl ?_
  refine o_iloadN X1 hx (hb hby at_7) rfl ?_
  refine o_iconst X1 hx 0 (hb hby at_8) rfl ?_
  have Zs3 : n0 ≤ h1.size := (Nat.le_trans Z0 E1.1)
  obtain ⟨_, _, ⟨T2, L2, k2, n2⟩, -, X2, ⟨Lc2, hQ2, l2, y2, z2⟩, st2⟩ := Jvm.LawKit.callS X1 hx (y := (⟨"com/example/vernum/vernum/VersionScannerIsInPinLaw", "bit", "(II)Z"⟩ : MethodName)) hown (mvT hZ (hw _ (List.mem_of_getElem? (i := 1) rfl))) (mvT hZ (hw _ (List.mem_of_getElem? (i := 2) rfl))) (mvT hZ (hw _ (List.mem_of_getElem? (i := 3) rfl))) (mvT hZ (hw _ (List.mem_of_getElem? (i := 4) rfl))) (by decide) (backOf (W := 2) (rm1 l Z a0 hw [] p1 (0 : Int32)  h1 n0 Zs3) hZ (hw _ (List.mem_of_getElem? (i := 4) rfl)) (hw _ (List.mem_of_getElem? (i := 3) rfl)) (by decide) (by decide)) (g := (mkF m 9 #[iv p1, iv p2, iv p3, rv b1, .unset, .unset, .unset, .unset, .unset, .unset] [(.int 0), (.int p1), (.int 0), (.ref b1)])) rfl (by rw [hml]; rfl) (argsL := [(.int p1), (.int 0)]) (rest := [(.int 0), (.ref b1)]) (lenOf pd_1 rfl) rfl (by show 2 * 0 + _ ≤ _; exact Nat.le_of_eq rfl) (hb hby at_9) (fun _ _ => ⟨rfl, e1, (by decide : 1 + 0 ≤ _), (by decide : 8 + 0 ≤ _)⟩)
  dsimp only [Pt.U, Pt.locs, Pt.cells, Pt.slots] at X2 l2 y2 z2 st2 hQ2
  subst l2 y2 z2
  obtain ⟨rfl, Nq2, e2⟩ := hQ2
  have N2 := Fr.app N0 Nq2
  refine own_st st2 ?_
  show own_Go _ _ _ _ (T2.setTop (mkF m 12 #[iv p1, iv p2, iv p3, rv b1, .unset, .unset, .unset, .unset, .unset, .unset] [(.int (own_bit p1 (0 : Int32))), (.int 0), (.ref b1)]))
  obtain ⟨cl4, Ar4, qk4, Sz4, Ng4, Hs4, Gs4⟩ := id V1
  obtain ⟨T5, h5, X5, e5, W5, st5⟩ := stZ X2 hx hZ e2 Ar4 (j := (0 : Int32)) (inb_of Sz4 ⟨by decide, by decide⟩) (g := (mkF m 12 #[iv p1, iv p2, iv p3, rv b1, .unset, .unset, .unset, .unset, .unset, .unset] [(.int (own_bit p1 (0 : Int32))), (.int 0), (.ref b1)])) rfl rfl (hb hby at_12)
  refine own_st st5 ?_
  have V5 : Arv Z h5 b1 k1 .boolean (8 : Int32) [(.int (nar .boolean (own_bit p1 (0 : Int32)))), (.int (0 : Int32)), (.int (0 : Int32)), (.int (0 : Int32)), (.int (0 : Int32)), (.int (0 : Int32)), (.int (0 : Int32)), (.int (0 : Int32))] (.int (0 : Int32)) := Arv.set Ar4 qk4 Sz4 Ng4 Hs4 Gs4 (fits_nar_bool _) W5 0 rfl (Nat.le_of_ble_eq_true rfl)
  have N5 := Fr.snoc X5 N2 gg1
  show own_Go _ _ _ _ (T5.setTop (mkF m 13 #[iv p1, iv p2, iv p3, rv b1, .unset, .unset, .unset, .unset, .unset, .unset] []))
  refine o_aloadN X5 hx (hb hby at_13) rfl rfl ?_
  refine o_iconst X5 hx 1 (hb hby at_14) rfl ?_
  refine o_iloadN X5 hx (hb hby at_15) rfl ?_
  refine o_iconst X5 hx 1 (hb hby at_16) rfl ?_
  have Zs7 : n0 ≤ h5.size := (Nat.le_trans Zs3 (Keep.of_wr W5).1)
  obtain ⟨_, _, ⟨T6, L6, k6, n6⟩, -, X6, ⟨Lc6, hQ6, l6, y6, z6⟩, st6⟩ := Jvm.LawKit.callS X5 hx (y := (⟨"com/example/vernum/vernum/VersionScannerIsInPinLaw", "bit", "(II)Z"⟩ : MethodName)) hown (mvT hZ (hw _ (List.mem_of_getElem? (i := 1) rfl))) (mvT hZ (hw _ (List.mem_of_getElem? (i := 2) rfl))) (mvT hZ (hw _ (List.mem_of_getElem? (i := 3) rfl))) (mvT hZ (hw _ (List.mem_of_getElem? (i := 4) rfl))) (by decide) (backOf (W := 2) (rm1 l Z a0 hw [] p1 (1 : Int32)  h5 n0 Zs7) hZ (hw _ (List.mem_of_getElem? (i := 4) rfl)) (hw _ (List.mem_of_getElem? (i := 3) rfl)) (by decide) (by decide)) (g := (mkF m 17 #[iv p1, iv p2, iv p3, rv b1, .unset, .unset, .unset, .unset, .unset, .unset] [(.int 1), (.int p1), (.int 1), (.ref b1)])) rfl (by rw [hml]; rfl) (argsL := [(.int p1), (.int 1)]) (rest := [(.int 1), (.ref b1)]) (lenOf pd_1 rfl) rfl (by show 2 * 0 + _ ≤ _; exact Nat.le_of_eq rfl) (hb hby at_17) (fun _ _ => ⟨rfl, e5, (by decide : 1 + 0 ≤ _), (by decide : 8 + 0 ≤ _)⟩)
  dsimp only [Pt.U, Pt.locs, Pt.cells, Pt.slots] at X6 l6 y6 z6 st6 hQ6
  subst l6 y6 z6
  obtain ⟨rfl, Nq6, e6⟩ := hQ6
  have N6 := Fr.app N5 Nq6
  refine own_st st6 ?_
  show own_Go _ _ _ _ (T6.setTop (mkF m 20 #[iv p1, iv p2, iv p3, rv b1, .unset, .unset, .unset, .unset, .unset, .unset] [(.int (own_bit p1 (1 : Int32))), (.int 1), (.ref b1)]))
  obtain ⟨cl8, Ar8, qk8, Sz8, Ng8, Hs8, Gs8⟩ := id V5
  obtain ⟨T9, h9, X9, e9, W9, st9⟩ := stZ X6 hx hZ e6 Ar8 (j := (1 : Int32)) (inb_of Sz8 ⟨by decide, by decide⟩) (g := (mkF m 20 #[iv p1, iv p2, iv p3, rv b1, .unset, .unset, .unset, .unset, .unset, .unset] [(.int (own_bit p1 (1 : Int32))), (.int 1), (.ref b1)])) rfl rfl (hb hby at_20)
  refine own_st st9 ?_
  have V9 : Arv Z h9 b1 k1 .boolean (8 : Int32) [(.int (nar .boolean (own_bit p1 (0 : Int32)))), (.int (nar .boolean (own_bit p1 (1 : Int32)))), (.int (0 : Int32)), (.int (0 : Int32)), (.int (0 : Int32)), (.int (0 : Int32)), (.int (0 : Int32)), (.int (0 : Int32))] (.int (0 : Int32)) := Arv.set Ar8 qk8 Sz8 Ng8 Hs8 Gs8 (fits_nar_bool _) W9 1 rfl (Nat.le_of_ble_eq_true rfl)
  have N9 := Fr.snoc X9 N6 gg1
  show own_Go _ _ _ _ (T9.setTop (mkF m 21 #[iv p1, iv p2, iv p3, rv b1, .unset, .unset, .unset, .unset, .unset, .unset] []))
  refine o_aloadN X9 hx (hb hby at_21) rfl rfl ?_
  refine o_iconst X9 hx 2 (hb hby at_22) rfl ?_
  refine o_iloadN X9 hx (hb hby at_23) rfl ?_
  refine o_iconst X9 hx 2 (hb hby at_24) rfl ?_
  have Zs11 : n0 ≤ h9.size := (Nat.le_trans Zs7 (Keep.of_wr W9).1)
  obtain ⟨_, _, ⟨T10, L10, k10, n10⟩, -, X10, ⟨Lc10, hQ10, l10, y10, z10⟩, st10⟩ := Jvm.LawKit.callS X9 hx (y := (⟨"com/example/vernum/vernum/VersionScannerIsInPinLaw", "bit", "(II)Z"⟩ : MethodName)) hown (mvT hZ (hw _ (List.mem_of_getElem? (i := 1) rfl))) (mvT hZ (hw _ (List.mem_of_getElem? (i := 2) rfl))) (mvT hZ (hw _ (List.mem_of_getElem? (i := 3) rfl))) (mvT hZ (hw _ (List.mem_of_getElem? (i := 4) rfl))) (by decide) (backOf (W := 2) (rm1 l Z a0 hw [] p1 (2 : Int32)  h9 n0 Zs11) hZ (hw _ (List.mem_of_getElem? (i := 4) rfl)) (hw _ (List.mem_of_getElem? (i := 3) rfl)) (by decide) (by decide)) (g := (mkF m 25 #[iv p1, iv p2, iv p3, rv b1, .unset, .unset, .unset, .unset, .unset, .unset] [(.int 2), (.int p1), (.int 2), (.ref b1)])) rfl (by rw [hml]; rfl) (argsL := [(.int p1), (.int 2)]) (rest := [(.int 2), (.ref b1)]) (lenOf pd_1 rfl) rfl (by show 2 * 0 + _ ≤ _; exact Nat.le_of_eq rfl) (hb hby at_25) (fun _ _ => ⟨rfl, e9, (by decide : 1 + 0 ≤ _), (by decide : 8 + 0 ≤ _)⟩)
  dsimp only [Pt.U, Pt.locs, Pt.cells, Pt.slots] at X10 l10 y10 z10 st10 hQ10
  subst l10 y10 z10
  obtain ⟨rfl, Nq10, e10⟩ := hQ10
  have N10 := Fr.app N9 Nq10
  refine own_st st10 ?_
  show own_Go _ _ _ _ (T10.setTop (mkF m 28 #[iv p1, iv p2, iv p3, rv b1, .unset, .unset, .unset, .unset, .unset, .unset] [(.int (own_bit p1 (2 : Int32))), (.int 2), (.ref b1)]))
  obtain ⟨cl12, Ar12, qk12, Sz12, Ng12, Hs12, Gs12⟩ := id V9
  obtain ⟨T13, h13, X13, e13, W13, st13⟩ := stZ X10 hx hZ e10 Ar12 (j := (2 : Int32)) (inb_of Sz12 ⟨by decide, by decide⟩) (g := (mkF m 28 #[iv p1, iv p2, iv p3, rv b1, .unset, .unset, .unset, .unset, .unset, .unset] [(.int (own_bit p1 (2 : Int32))), (.int 2), (.ref b1)])) rfl rfl (hb hby at_28)
  refine own_st st13 ?_
  have V13 : Arv Z h13 b1 k1 .boolean (8 : Int32) [(.int (nar .boolean (own_bit p1 (0 : Int32)))), (.int (nar .boolean (own_bit p1 (1 : Int32)))), (.int (nar .boolean (own_bit p1 (2 : Int32)))), (.int (0 : Int32)), (.int (0 : Int32)), (.int (0 : Int32)), (.int (0 : Int32)), (.int (0 : Int32))] (.int (0 : Int32)) := Arv.set Ar12 qk12 Sz12 Ng12 Hs12 Gs12 (fits_nar_bool _) W13 2 rfl (Nat.le_of_ble_eq_true rfl)
  have N13 := Fr.snoc X13 N10 gg1
  show own_Go _ _ _ _ (T13.setTop (mkF m 29 #[iv p1, iv p2, iv p3, rv b1, .unset, .unset, .unset, .unset, .unset, .unset] []))
  refine o_aloadN X13 hx (hb hby at_29) rfl rfl ?_
  refine o_iconst X13 hx 3 (hb hby at_30) rfl ?_
  refine o_iloadN X13 hx (hb hby at_31) rfl ?_
  refine o_iconst X13 hx 3 (hb hby at_32) rfl ?_
  have Zs15 : n0 ≤ h13.size := (Nat.le_trans Zs11 (Keep.of_wr W13).1)
  obtain ⟨_, _, ⟨T14, L14, k14, n14⟩, -, X14, ⟨Lc14, hQ14, l14, y14, z14⟩, st14⟩ := Jvm.LawKit.callS X13 hx (y := (⟨"com/example/vernum/vernum/VersionScannerIsInPinLaw", "bit", "(II)Z"⟩ : MethodName)) hown (mvT hZ (hw _ (List.mem_of_getElem? (i := 1) rfl))) (mvT hZ (hw _ (List.mem_of_getElem? (i := 2) rfl))) (mvT hZ (hw _ (List.mem_of_getElem? (i := 3) rfl))) (mvT hZ (hw _ (List.mem_of_getElem? (i := 4) rfl))) (by decide) (backOf (W := 2) (rm1 l Z a0 hw [] p1 (3 : Int32)  h13 n0 Zs15) hZ (hw _ (List.mem_of_getElem? (i := 4) rfl)) (hw _ (List.mem_of_getElem? (i := 3) rfl)) (by decide) (by decide)) (g := (mkF m 33 #[iv p1, iv p2, iv p3, rv b1, .unset, .unset, .unset, .unset, .unset, .unset] [(.int 3), (.int p1), (.int 3), (.ref b1)])) rfl (by rw [hml]; rfl) (argsL := [(.int p1), (.int 3)]) (rest := [(.int 3), (.ref b1)]) (lenOf pd_1 rfl) rfl (by show 2 * 0 + _ ≤ _; exact Nat.le_of_eq rfl) (hb hby at_33) (fun _ _ => ⟨rfl, e13, (by decide : 1 + 0 ≤ _), (by decide : 8 + 0 ≤ _)⟩)
  dsimp only [Pt.U, Pt.locs, Pt.cells, Pt.slots] at X14 l14 y14 z14 st14 hQ14
  subst l14 y14 z14
  obtain ⟨rfl, Nq14, e14⟩ := hQ14
  have N14 := Fr.app N13 Nq14
  refine own_st st14 ?_
  show own_Go _ _ _ _ (T14.setTop (mkF m 36 #[iv p1, iv p2, iv p3, rv b1, .unset, .unset, .unset, .unset, .unset, .unset] [(.int (own_bit p1 (3 : Int32))), (.int 3), (.ref b1)]))
  obtain ⟨cl16, Ar16, qk16, Sz16, Ng16, Hs16, Gs16⟩ := id V13
  obtain ⟨T17, h17, X17, e17, W17, st17⟩ := stZ X14 hx hZ e14 Ar16 (j := (3 : Int32)) (inb_of Sz16 ⟨by decide, by decide⟩) (g := (mkF m 36 #[iv p1, iv p2, iv p3, rv b1, .unset, .unset, .unset, .unset, .unset, .unset] [(.int (own_bit p1 (3 : Int32))), (.int 3), (.ref b1)])) rfl rfl (hb hby at_36)
  refine own_st st17 ?_
  have V17 : Arv Z h17 b1 k1 .boolean (8 : Int32) [(.int (nar .boolean (own_bit p1 (0 : Int32)))), (.int (nar .boolean (own_bit p1 (1 : Int32)))), (.int (nar .boolean (own_bit p1 (2 : Int32)))), (.int (nar .boolean (own_bit p1 (3 : Int32)))), (.int (0 : Int32)), (.int (0 : Int32)), (.int (0 : Int32)), (.int (0 : Int32))] (.int (0 : Int32)) := Arv.set Ar16 qk16 Sz16 Ng16 Hs16 Gs16 (fits_nar_bool _) W17 3 rfl (Nat.le_of_ble_eq_true rfl)
  have N17 := Fr.snoc X17 N14 gg1
  show own_Go _ _ _ _ (T17.setTop (mkF m 37 #[iv p1, iv p2, iv p3, rv b1, .unset, .unset, .unset, .unset, .unset, .unset] []))
  refine o_aloadN X17 hx (hb hby at_37) rfl rfl ?_
  refine o_iconst X17 hx 4 (hb hby at_38) rfl ?_
  refine o_iloadN X17 hx (hb hby at_39) rfl ?_
  refine o_iconst X17 hx 4 (hb hby at_40) rfl ?_
  have Zs19 : n0 ≤ h17.size := (Nat.le_trans Zs15 (Keep.of_wr W17).1)
  obtain ⟨_, _, ⟨T18, L18, k18, n18⟩, -, X18, ⟨Lc18, hQ18, l18, y18, z18⟩, st18⟩ := Jvm.LawKit.callS X17 hx (y := (⟨"com/example/vernum/vernum/VersionScannerIsInPinLaw", "bit", "(II)Z"⟩ : MethodName)) hown (mvT hZ (hw _ (List.mem_of_getElem? (i := 1) rfl))) (mvT hZ (hw _ (List.mem_of_getElem? (i := 2) rfl))) (mvT hZ (hw _ (List.mem_of_getElem? (i := 3) rfl))) (mvT hZ (hw _ (List.mem_of_getElem? (i := 4) rfl))) (by decide) (backOf (W := 2) (rm1 l Z a0 hw [] p1 (4 : Int32)  h17 n0 Zs19) hZ (hw _ (List.mem_of_getElem? (i := 4) rfl)) (hw _ (List.mem_of_getElem? (i := 3) rfl)) (by decide) (by decide)) (g := (mkF m 41 #[iv p1, iv p2, iv p3, rv b1, .unset, .unset, .unset, .unset, .unset, .unset] [(.int 4), (.int p1), (.int 4), (.ref b1)])) rfl (by rw [hml]; rfl) (argsL := [(.int p1), (.int 4)]) (rest := [(.int 4), (.ref b1)]) (lenOf pd_1 rfl) rfl (by show 2 * 0 + _ ≤ _; exact Nat.le_of_eq rfl) (hb hby at_41) (fun _ _ => ⟨rfl, e17, (by decide : 1 + 0 ≤ _), (by decide : 8 + 0 ≤ _)⟩)
  dsimp only [Pt.U, Pt.locs, Pt.cells, Pt.slots] at X18 l18 y18 z18 st18 hQ18
  subst l18 y18 z18
  obtain ⟨rfl, Nq18, e18⟩ := hQ18
  have N18 := Fr.app N17 Nq18
  refine own_st st18 ?_
  show own_Go _ _ _ _ (T18.setTop (mkF m 44 #[iv p1, iv p2, iv p3, rv b1, .unset, .unset, .unset, .unset, .unset, .unset] [(.int (own_bit p1 (4 : Int32))), (.int 4), (.ref b1)]))
  obtain ⟨cl20, Ar20, qk20, Sz20, Ng20, Hs20, Gs20⟩ := id V17
  obtain ⟨T21, h21, X21, e21, W21, st21⟩ := stZ X18 hx hZ e18 Ar20 (j := (4 : Int32)) (inb_of Sz20 ⟨by decide, by decide⟩) (g := (mkF m 44 #[iv p1, iv p2, iv p3, rv b1, .unset, .unset, .unset, .unset, .unset, .unset] [(.int (own_bit p1 (4 : Int32))), (.int 4), (.ref b1)])) rfl rfl (hb hby at_44)
  refine own_st st21 ?_
  have V21 : Arv Z h21 b1 k1 .boolean (8 : Int32) [(.int (nar .boolean (own_bit p1 (0 : Int32)))), (.int (nar .boolean (own_bit p1 (1 : Int32)))), (.int (nar .boolean (own_bit p1 (2 : Int32)))), (.int (nar .boolean (own_bit p1 (3 : Int32)))), (.int (nar .boolean (own_bit p1 (4 : Int32)))), (.int (0 : Int32)), (.int (0 : Int32)), (.int (0 : Int32))] (.int (0 : Int32)) := Arv.set Ar20 qk20 Sz20 Ng20 Hs20 Gs20 (fits_nar_bool _) W21 4 rfl (Nat.le_of_ble_eq_true rfl)
  have N21 := Fr.snoc X21 N18 gg1
  show own_Go _ _ _ _ (T21.setTop (mkF m 45 #[iv p1, iv p2, iv p3, rv b1, .unset, .unset, .unset, .unset, .unset, .unset] []))
  refine o_aloadN X21 hx (hb hby at_45) rfl rfl ?_
  refine o_iconst X21 hx 5 (hb hby at_46) rfl ?_
  refine o_iloadN X21 hx (hb hby at_47) rfl ?_
  refine o_iconst X21 hx 5 (hb hby at_48) rfl ?_
  have Zs23 : n0 ≤ h21.size := (Nat.le_trans Zs19 (Keep.of_wr W21).1)
  obtain ⟨_, _, ⟨T22, L22, k22, n22⟩, -, X22, ⟨Lc22, hQ22, l22, y22, z22⟩, st22⟩ := Jvm.LawKit.callS X21 hx (y := (⟨"com/example/vernum/vernum/VersionScannerIsInPinLaw", "bit", "(II)Z"⟩ : MethodName)) hown (mvT hZ (hw _ (List.mem_of_getElem? (i := 1) rfl))) (mvT hZ (hw _ (List.mem_of_getElem? (i := 2) rfl))) (mvT hZ (hw _ (List.mem_of_getElem? (i := 3) rfl))) (mvT hZ (hw _ (List.mem_of_getElem? (i := 4) rfl))) (by decide) (backOf (W := 2) (rm1 l Z a0 hw [] p1 (5 : Int32)  h21 n0 Zs23) hZ (hw _ (List.mem_of_getElem? (i := 4) rfl)) (hw _ (List.mem_of_getElem? (i := 3) rfl)) (by decide) (by decide)) (g := (mkF m 49 #[iv p1, iv p2, iv p3, rv b1, .unset, .unset, .unset, .unset, .unset, .unset] [(.int 5), (.int p1), (.int 5), (.ref b1)])) rfl (by rw [hml]; rfl) (argsL := [(.int p1), (.int 5)]) (rest := [(.int 5), (.ref b1)]) (lenOf pd_1 rfl) rfl (by show 2 * 0 + _ ≤ _; exact Nat.le_of_eq rfl) (hb hby at_49) (fun _ _ => ⟨rfl, e21, (by decide : 1 + 0 ≤ _), (by decide : 8 + 0 ≤ _)⟩)
  dsimp only [Pt.U, Pt.locs, Pt.cells, Pt.slots] at X22 l22 y22 z22 st22 hQ22
  subst l22 y22 z22
  obtain ⟨rfl, Nq22, e22⟩ := hQ22
  have N22 := Fr.app N21 Nq22
  refine own_st st22 ?_
  show own_Go _ _ _ _ (T22.setTop (mkF m 52 #[iv p1, iv p2, iv p3, rv b1, .unset, .unset, .unset, .unset, .unset, .unset] [(.int (own_bit p1 (5 : Int32))), (.int 5), (.ref b1)]))
  obtain ⟨cl24, Ar24, qk24, Sz24, Ng24, Hs24, Gs24⟩ := id V21
  obtain ⟨T25, h25, X25, e25, W25, st25⟩ := stZ X22 hx hZ e22 Ar24 (j := (5 : Int32)) (inb_of Sz24 ⟨by decide, by decide⟩) (g := (mkF m 52 #[iv p1, iv p2, iv p3, rv b1, .unset, .unset, .unset, .unset, .unset, .unset] [(.int (own_bit p1 (5 : Int32))), (.int 5), (.ref b1)])) rfl rfl (hb hby at_52)
  refine own_st st25 ?_
  have V25 : Arv Z h25 b1 k1 .boolean (8 : Int32) [(.int (nar .boolean (own_bit p1 (0 : Int32)))), (.int (nar .boolean (own_bit p1 (1 : Int32)))), (.int (nar .boolean (own_bit p1 (2 : Int32)))), (.int (nar .boolean (own_bit p1 (3 : Int32)))), (.int (nar .boolean (own_bit p1 (4 : Int32)))), (.int (nar .boolean (own_bit p1 (5 : Int32)))), (.int (0 : Int32)), (.int (0 : Int32))] (.int (0 : Int32)) := Arv.set Ar24 qk24 Sz24 Ng24 Hs24 Gs24 (fits_nar_bool _) W25 5 rfl (Nat.le_of_ble_eq_true rfl)
  have N25 := Fr.snoc X25 N22 gg1
  show own_Go _ _ _ _ (T25.setTop (mkF m 53 #[iv p1, iv p2, iv p3, rv b1, .unset, .unset, .unset, .unset, .unset, .unset] []))
  refine o_aloadN X25 hx (hb hby at_53) rfl rfl ?_
  refine o_bipush X25 hx 6 (hb hby at_54) rfl ?_
  refine o_iloadN X25 hx (hb hby at_56) rfl ?_
  refine o_bipush X25 hx 6 (hb hby at_57) rfl ?_
  have Zs27 : n0 ≤ h25.size := (Nat.le_trans Zs23 (Keep.of_wr W25).1)
  obtain ⟨_, _, ⟨T26, L26, k26, n26⟩, -, X26, ⟨Lc26, hQ26, l26, y26, z26⟩, st26⟩ := Jvm.LawKit.callS X25 hx (y := (⟨"com/example/vernum/vernum/VersionScannerIsInPinLaw", "bit", "(II)Z"⟩ : MethodName)) hown (mvT hZ (hw _ (List.mem_of_getElem? (i := 1) rfl))) (mvT hZ (hw _ (List.mem_of_getElem? (i := 2) rfl))) (mvT hZ (hw _ (List.mem_of_getElem? (i := 3) rfl))) (mvT hZ (hw _ (List.mem_of_getElem? (i := 4) rfl))) (by decide) (backOf (W := 2) (rm1 l Z a0 hw [] p1 (6 : Int32)  h25 n0 Zs27) hZ (hw _ (List.mem_of_getElem? (i := 4) rfl)) (hw _ (List.mem_of_getElem? (i := 3) rfl)) (by decide) (by decide)) (g := (mkF m 59 #[iv p1, iv p2, iv p3, rv b1, .unset, .unset, .unset, .unset, .unset, .unset] [(.int 6), (.int p1), (.int 6), (.ref b1)])) rfl (by rw [hml]; rfl) (argsL := [(.int p1), (.int 6)]) (rest := [(.int 6), (.ref b1)]) (lenOf pd_1 rfl) rfl (by show 2 * 0 + _ ≤ _; exact Nat.le_of_eq rfl) (hb hby at_59) (fun _ _ => ⟨rfl, e25, (by decide : 1 + 0 ≤ _), (by decide : 8 + 0 ≤ _)⟩)
  dsimp only [Pt.U, Pt.locs, Pt.cells, Pt.slots] at X26 l26 y26 z26 st26 hQ26
  subst l26 y26 z26
  obtain ⟨rfl, Nq26, e26⟩ := hQ26
  have N26 := Fr.app N25 Nq26
  refine own_st st26 ?_
  show own_Go _ _ _ _ (T26.setTop (mkF m 62 #[iv p1, iv p2, iv p3, rv b1, .unset, .unset, .unset, .unset, .unset, .unset] [(.int (own_bit p1 (6 : Int32))), (.int 6), (.ref b1)]))
  obtain ⟨cl28, Ar28, qk28, Sz28, Ng28, Hs28, Gs28⟩ := id V25
  obtain ⟨T29, h29, X29, e29, W29, st29⟩ := stZ X26 hx hZ e26 Ar28 (j := (6 : Int32)) (inb_of Sz28 ⟨by decide, by decide⟩) (g := (mkF m 62 #[iv p1, iv p2, iv p3, rv b1, .unset, .unset, .unset, .unset, .unset, .unset] [(.int (own_bit p1 (6 : Int32))), (.int 6), (.ref b1)])) rfl rfl (hb hby at_62)
  refine own_st st29 ?_
  have V29 : Arv Z h29 b1 k1 .boolean (8 : Int32) [(.int (nar .boolean (own_bit p1 (0 : Int32)))), (.int (nar .boolean (own_bit p1 (1 : Int32)))), (.int (nar .boolean (own_bit p1 (2 : Int32)))), (.int (nar .boolean (own_bit p1 (3 : Int32)))), (.int (nar .boolean (own_bit p1 (4 : Int32)))), (.int (nar .boolean (own_bit p1 (5 : Int32)))), (.int (nar .boolean (own_bit p1 (6 : Int32)))), (.int (0 : Int32))] (.int (0 : Int32)) := Arv.set Ar28 qk28 Sz28 Ng28 Hs28 Gs28 (fits_nar_bool _) W29 6 rfl (Nat.le_of_ble_eq_true rfl)
  have N29 := Fr.snoc X29 N26 gg1
  show own_Go _ _ _ _ (T29.setTop (mkF m 63 #[iv p1, iv p2, iv p3, rv b1, .unset, .unset, .unset, .unset, .unset, .unset] []))
  refine o_aloadN X29 hx (hb hby at_63) rfl rfl ?_
  refine o_bipush X29 hx 7 (hb hby at_64) rfl ?_
  refine o_iloadN X29 hx (hb hby at_66) rfl ?_
  refine o_bipush X29 hx 7 (hb hby at_67) rfl ?_
  have Zs31 : n0 ≤ h29.size := (Nat.le_trans Zs27 (Keep.of_wr W29).1)
  obtain ⟨_, _, ⟨T30, L30, k30, n30⟩, -, X30, ⟨Lc30, hQ30, l30, y30, z30⟩, st30⟩ := Jvm.LawKit.callS X29 hx (y := (⟨"com/example/vernum/vernum/VersionScannerIsInPinLaw", "bit", "(II)Z"⟩ : MethodName)) hown (mvT hZ (hw _ (List.mem_of_getElem? (i := 1) rfl))) (mvT hZ (hw _ (List.mem_of_getElem? (i := 2) rfl))) (mvT hZ (hw _ (List.mem_of_getElem? (i := 3) rfl))) (mvT hZ (hw _ (List.mem_of_getElem? (i := 4) rfl))) (by decide) (backOf (W := 2) (rm1 l Z a0 hw [] p1 (7 : Int32)  h29 n0 Zs31) hZ (hw _ (List.mem_of_getElem? (i := 4) rfl)) (hw _ (List.mem_of_getElem? (i := 3) rfl)) (by decide) (by decide)) (g := (mkF m 69 #[iv p1, iv p2, iv p3, rv b1, .unset, .unset, .unset, .unset, .unset, .unset] [(.int 7), (.int p1), (.int 7), (.ref b1)])) rfl (by rw [hml]; rfl) (argsL := [(.int p1), (.int 7)]) (rest := [(.int 7), (.ref b1)]) (lenOf pd_1 rfl) rfl (by show 2 * 0 + _ ≤ _; exact Nat.le_of_eq rfl) (hb hby at_69) (fun _ _ => ⟨rfl, e29, (by decide : 1 + 0 ≤ _), (by decide : 8 + 0 ≤ _)⟩)
  dsimp only [Pt.U, Pt.locs, Pt.cells, Pt.slots] at X30 l30 y30 z30 st30 hQ30
  subst l30 y30 z30
  obtain ⟨rfl, Nq30, e30⟩ := hQ30
  have N30 := Fr.app N29 Nq30
  refine own_st st30 ?_
  show own_Go _ _ _ _ (T30.setTop (mkF m 72 #[iv p1, iv p2, iv p3, rv b1, .unset, .unset, .unset, .unset, .unset, .unset] [(.int (own_bit p1 (7 : Int32))), (.int 7), (.ref b1)]))
  obtain ⟨cl32, Ar32, qk32, Sz32, Ng32, Hs32, Gs32⟩ := id V29
  obtain ⟨T33, h33, X33, e33, W33, st33⟩ := stZ X30 hx hZ e30 Ar32 (j := (7 : Int32)) (inb_of Sz32 ⟨by decide, by decide⟩) (g := (mkF m 72 #[iv p1, iv p2, iv p3, rv b1, .unset, .unset, .unset, .unset, .unset, .unset] [(.int (own_bit p1 (7 : Int32))), (.int 7), (.ref b1)])) rfl rfl (hb hby at_72)
  refine own_st st33 ?_
  have V33 : Arv Z h33 b1 k1 .boolean (8 : Int32) [(.int (nar .boolean (own_bit p1 (0 : Int32)))), (.int (nar .boolean (own_bit p1 (1 : Int32)))), (.int (nar .boolean (own_bit p1 (2 : Int32)))), (.int (nar .boolean (own_bit p1 (3 : Int32)))), (.int (nar .boolean (own_bit p1 (4 : Int32)))), (.int (nar .boolean (own_bit p1 (5 : Int32)))), (.int (nar .boolean (own_bit p1 (6 : Int32)))), (.int (nar .boolean (own_bit p1 (7 : Int32))))] (.int (0 : Int32)) := Arv.set Ar32 qk32 Sz32 Ng32 Hs32 Gs32 (fits_nar_bool _) W33 7 rfl (Nat.le_of_ble_eq_true rfl)
  have N33 := Fr.snoc X33 N30 gg1
  show own_Go _ _ _ _ (T33.setTop (mkF m 73 #[iv p1, iv p2, iv p3, rv b1, .unset, .unset, .unset, .unset, .unset, .unset] []))
  refine o_iconst X33 hx 0 (hb hby at_73) rfl ?_
  have Zs34 : n0 ≤ h33.size := (Nat.le_trans Zs31 (Keep.of_wr W33).1)
  have Kp35 : Keep h0 h33 [] := ((((((((((Keep.refl h0 []).ext E1).wr W5 (Or.inr sz1)).wr W9 (Or.inr sz1)).wr W13 (Or.inr sz1)).wr W17 (Or.inr sz1)).wr W21 (Or.inr sz1)).wr W25 (Or.inr sz1)).wr W29 (Or.inr sz1)).wr W33 (Or.inr sz1))
  obtain ⟨T36, h36, k36, X36, e36, E36, A36, st36⟩ := newP X33 hx hZ (hw _ (List.mem_of_getElem? (i := 0) rfl)) e33 (g := (mkF m 74 #[iv p1, iv p2, iv p3, rv b1, .unset, .unset, .unset, .unset, .unset, .unset] [(.int 0)])) rfl (hb hby at_74) rfl (by decide) (cap := 0) (by decide) (by decide) (by decide) (by decide)
  obtain ⟨b36, g36⟩ : ∃ z, z = h33.size := ⟨_, rfl⟩
  rw [← g36] at A36 st36
  have V36 : Arv Z h36 b36 k36 .boolean (0 : Int32) [] (.int (0 : Int32)) := (Arv.new A36 (by decide)).pad (pad_rep [] (.int (0 : Int32)) 0)
  have gg36 : n0 ≤ b36 := Nat.le_trans Zs34 (Nat.le_of_eq g36.symm)
  have sz36 : h0.size ≤ b36 := Nat.le_trans Kp35.1 (Nat.le_of_eq g36.symm)
  refine own_st st36 ?_
  show own_Go _ _ _ _ (T36.setTop (mkF m 76 #[iv p1, iv p2, iv p3, rv b1, .unset, .unset, .unset, .unset, .unset, .unset] [(.ref b36)]))
  refine o_astore X36 hx (hb hby at_76) rfl (l' := #[iv p1, iv p2, iv p3, rv b1, rv b36, .unset, .unset, .unset, .unset, .unset]) rfl ?_
  refine o_iloadN X36 hx (hb hby at_78) rfl ?_
  refine o_iconst X36 hx 2 (hb hby at_79) rfl ?_
  refine o_iand X36 hx (hb hby at_80) ?_
  by_cases hc81_37 : (p3 &&& (2 : Int32)) = (0 : Int32)
  · refine o_ifYes X36 hx (pc' := 88) (hb hby at_81) (teq hc81_37).1 (by decide) (by decide) ?_
    refine o_iconst X36 hx 0 (hb hby at_88) rfl ?_
    refine o_istore X36 hx (hb hby at_89) (l' := #[iv p1, iv p2, iv p3, rv b1, rv b36, iv 0, .unset, .unset, .unset, .unset]) rfl ?_
    refine o_iload X36 hx (hb hby at_91) rfl ?_
    refine o_ifYes X36 hx (pc' := 101) (hb hby at_93) (teq (by decide : (0 : Int32) = (0 : Int32))).1 (by decide) (by decide) ?_
    refine o_aloadN X36 hx (hb hby at_101) rfl rfl ?_
    refine o_astore X36 hx (hb hby at_102) rfl (l' := #[iv p1, iv p2, iv p3, rv b1, rv b36, iv 0, rv b1, .unset, .unset, .unset]) rfl ?_
    refine o_iloadN X36 hx (hb hby at_104) rfl ?_
    refine o_iconst X36 hx 1 (hb hby at_105) rfl ?_
    refine o_iand X36 hx (hb hby at_106) ?_
    by_cases hc107_38 : (p3 &&& (1 : Int32)) = (0 : Int32)
    · refine o_ifYes X36 hx (pc' := 119) (hb hby at_107) (teq hc107_38).1 (by decide) (by decide) ?_
      refine o_iloadN X36 hx (hb hby at_119) rfl ?_
      refine o_ldc X36 hx hown (hb hby at_120) (mvT hZ (hw _ (List.mem_of_getElem? (i := 5) rfl))) ?_
      refine o_iand X36 hx (hb hby at_122) ?_
      refine o_istore X36 hx (hb hby at_123) (l' := #[iv p1, iv p2, iv p3, rv b1, rv b36, iv 0, rv b1, iv (p2 &&& (65535 : Int32)), .unset, .unset]) rfl ?_
      refine o_iload X36 hx (hb hby at_125) rfl ?_
      refine o_ifYes X36 hx (pc' := 136) (hb hby at_127) (teq (by decide : (0 : Int32) = (0 : Int32))).1 (by decide) (by decide) ?_
      refine o_iload X36 hx (hb hby at_136) rfl ?_
      refine o_bipush X36 hx 8 (hb hby at_138) rfl ?_
      by_cases hc140_39 : (p2 &&& (65535 : Int32)) < (8 : Int32)
      · refine o_icmpNo X36 hx (hb hby at_140) (tlt hc140_39).2.1 ?_
        refine o_iloadN X36 hx (hb hby at_143) rfl ?_
        refine o_iload X36 hx (hb hby at_144) rfl ?_
        have Zs41 : n0 ≤ h36.size := (Nat.le_trans Zs34 E36.1)
        obtain ⟨_, _, ⟨T40, L40, k40, n40⟩, -, X40, ⟨Lc40, hQ40, l40, y40, z40⟩, st40⟩ := Jvm.LawKit.callS X36 hx (y := (⟨"com/example/vernum/vernum/VersionScannerIsInPinLaw", "bit", "(II)Z"⟩ : MethodName)) hown (mvT hZ (hw _ (List.mem_of_getElem? (i := 1) rfl))) (mvT hZ (hw _ (List.mem_of_getElem? (i := 2) rfl))) (mvT hZ (hw _ (List.mem_of_getElem? (i := 3) rfl))) (mvT hZ (hw _ (List.mem_of_getElem? (i := 4) rfl))) (by decide) (backOf (W := 0) (rm1 l Z a0 hw [] p1 (p2 &&& (65535 : Int32))  h36 n0 Zs41) hZ (hw _ (List.mem_of_getElem? (i := 4) rfl)) (hw _ (List.mem_of_getElem? (i := 3) rfl)) (by decide) (by decide)) (g := (mkF m 146 #[iv p1, iv p2, iv p3, rv b1, rv b36, iv 0, rv b1, iv (p2 &&& (65535 : Int32)), .unset, .unset] [(.int (p2 &&& (65535 : Int32))), (.int p1)])) rfl (by rw [hml]; rfl) (argsL := [(.int p1), (.int (p2 &&& (65535 : Int32)))]) (rest := []) (lenOf pd_1 rfl) rfl (by show 2 * 0 + _ ≤ _; exact Nat.le_of_eq rfl) (hb hby at_146) (fun _ _ => ⟨rfl, e36, (by decide : 2 + 0 ≤ _), (by decide : 8 + 0 ≤ _)⟩)
        dsimp only [Pt.U, Pt.locs, Pt.cells, Pt.slots] at X40 l40 y40 z40 st40 hQ40
        subst l40 y40 z40
        obtain ⟨rfl, Nq40, e40⟩ := hQ40
        have N40 := Fr.app N33 Nq40
        refine own_st st40 ?_
        show own_Go _ _ _ _ (T40.setTop (mkF m 149 #[iv p1, iv p2, iv p3, rv b1, rv b36, iv 0, rv b1, iv (p2 &&& (65535 : Int32)), .unset, .unset] [(.int (own_bit p1 (p2 &&& (65535 : Int32))))]))
        refine o_istore X40 hx (hb hby at_149) (l' := #[iv p1, iv p2, iv p3, rv b1, rv b36, iv 0, rv b1, iv (p2 &&& (65535 : Int32)), iv (own_bit p1 (p2 &&& (65535 : Int32))), .unset]) rfl ?_
        refine o_goto X40 hx (pc' := 157) (hb hby at_151) (by decide) (by decide) ?_
        refine o_aload X40 hx (hb hby at_157) rfl rfl ?_
        refine o_iload X40 hx (hb hby at_159) rfl ?_
        have Fa43 := (V33.ext E36)
        obtain ⟨_, _, ⟨T42, L42, k42, n42⟩, -, X42, ⟨Lc42, hQ42, l42, y42, z42⟩, st42⟩ := Jvm.LawKit.callS X40 hx (y := (⟨"com/example/vernum/vernum/VersionScanner", "isIn", "([ZI)Z"⟩ : MethodName)) hown (mvT hZ (hw _ (List.mem_of_getElem? (i := 6) rfl))) (mvT hZ (hw _ (List.mem_of_getElem? (i := 7) rfl))) (mvT hZ (hw _ (List.mem_of_getElem? (i := 8) rfl))) (mvT hZ (hw _ (List.mem_of_getElem? (i := 9) rfl))) (by decide) (backOf (W := 0) (rm2 l Z a0 hw [] b1 (p2 &&& (65535 : Int32)) k1 (8 : Int32) (nar .boolean (own_bit p1 (p2 &&& (65535 : Int32)))) [(.int (nar .boolean (own_bit p1 (0 : Int32)))), (.int (nar .boolean (own_bit p1 (1 : Int32)))), (.int (nar .boolean (own_bit p1 (2 : Int32)))), (.int (nar .boolean (own_bit p1 (3 : Int32)))), (.int (nar .boolean (own_bit p1 (4 : Int32)))), (.int (nar .boolean (own_bit p1 (5 : Int32)))), (.int (nar .boolean (own_bit p1 (6 : Int32)))), (.int (nar .boolean (own_bit p1 (7 : Int32))))] (.int (0 : Int32)) h36 n0 Zs41 Fa43 (own_masked p2 (65535 : Int32) (by decide)) (own_tab p1 _ (own_masked p2 (65535 : Int32) (by decide)))) hZ (hw _ (List.mem_of_getElem? (i := 9) rfl)) (hw _ (List.mem_of_getElem? (i := 8) rfl)) (by decide) (by decide)) (g := (mkF m 161 #[iv p1, iv p2, iv p3, rv b1, rv b36, iv 0, rv b1, iv (p2 &&& (65535 : Int32)), iv (own_bit p1 (p2 &&& (65535 : Int32))), .unset] [(.int (p2 &&& (65535 : Int32))), (.ref b1)])) rfl (by rw [hml]; rfl) (argsL := [(.ref b1), (.int (p2 &&& (65535 : Int32)))]) (rest := []) (lenOf pd_2 rfl) rfl (by show 2 * 0 + _ ≤ _; exact Nat.le_of_eq rfl) (hb hby at_161) (fun _ _ => ⟨rfl, e40, (by decide : 2 + 0 ≤ _), (by decide : 8 + 0 ≤ _)⟩)
        dsimp only [Pt.U, Pt.locs, Pt.cells, Pt.slots] at X42 l42 y42 z42 st42 hQ42
        subst l42 y42 z42
        obtain ⟨rfl, Nq42, e42⟩ := hQ42
        have N42 := Fr.app N40 Nq42
        refine own_st st42 ?_
        show own_Go _ _ _ _ (T42.setTop (mkF m 164 #[iv p1, iv p2, iv p3, rv b1, rv b36, iv 0, rv b1, iv (p2 &&& (65535 : Int32)), iv (own_bit p1 (p2 &&& (65535 : Int32))), .unset] [(.int (own_isIn (p2 &&& (65535 : Int32)) (8 : Int32) (nar .boolean (own_bit p1 (p2 &&& (65535 : Int32))))))]))
        refine o_istore X42 hx (hb hby at_164) (l' := #[iv p1, iv p2, iv p3, rv b1, rv b36, iv 0, rv b1, iv (p2 &&& (65535 : Int32)), iv (own_bit p1 (p2 &&& (65535 : Int32))), iv (own_isIn (p2 &&& (65535 : Int32)) (8 : Int32) (nar .boolean (own_bit p1 (p2 &&& (65535 : Int32)))))]) rfl ?_
        refine o_iload X42 hx (hb hby at_166) rfl ?_
        refine o_iload X42 hx (hb hby at_168) rfl ?_
        refine o_icmpNo X42 hx (hb hby at_170) (teq (own_fin p1 _ hc140_39)).2 ?_
        refine o_iconst X42 hx 1 (hb hby at_173) rfl ?_
        refine o_goto X42 hx (pc' := 178) (hb hby at_174) (by decide) (by decide) ?_
        have Kp44 : Keep h0 h36 [] := (Kp35.ext E36)
        exact own_end X42 e42 (v := some (.int (1 : Int32))) (fun h => by rw [Bd.returns] at h; cases h) hlk (fun fs hr => retN X42 hx (z := (1 : Int32)) (t := .boolean) Bd.returns (by simp) (hb hby at_178) hr) (Q := Q_rm0 Z a0 p1 p2 p3 h0 n0) ⟨rfl, N42, Kp44⟩ (by decide) (by decide)
      · refine o_icmpYes X36 hx (pc' := 154) (hb hby at_140) (flt hc140_39).2.1 (by decide) (by decide) ?_
        refine o_iconst X36 hx 0 (hb hby at_154) rfl ?_
        refine o_istore X36 hx (hb hby at_155) (l' := #[iv p1, iv p2, iv p3, rv b1, rv b36, iv 0, rv b1, iv (p2 &&& (65535 : Int32)), iv 0, .unset]) rfl ?_
        refine o_aload X36 hx (hb hby at_157) rfl rfl ?_
        refine o_iload X36 hx (hb hby at_159) rfl ?_
        have Fa46 := (V33.ext E36)
        have Zs47 : n0 ≤ h36.size := (Nat.le_trans Zs34 E36.1)
        obtain ⟨_, _, ⟨T45, L45, k45, n45⟩, -, X45, ⟨Lc45, hQ45, l45, y45, z45⟩, st45⟩ := Jvm.LawKit.callS X36 hx (y := (⟨"com/example/vernum/vernum/VersionScanner", "isIn", "([ZI)Z"⟩ : MethodName)) hown (mvT hZ (hw _ (List.mem_of_getElem? (i := 6) rfl))) (mvT hZ (hw _ (List.mem_of_getElem? (i := 7) rfl))) (mvT hZ (hw _ (List.mem_of_getElem? (i := 8) rfl))) (mvT hZ (hw _ (List.mem_of_getElem? (i := 9) rfl))) (by decide) (backOf (W := 0) (rm2 l Z a0 hw [] b1 (p2 &&& (65535 : Int32)) k1 (8 : Int32) (nar .boolean (own_bit p1 (p2 &&& (65535 : Int32)))) [(.int (nar .boolean (own_bit p1 (0 : Int32)))), (.int (nar .boolean (own_bit p1 (1 : Int32)))), (.int (nar .boolean (own_bit p1 (2 : Int32)))), (.int (nar .boolean (own_bit p1 (3 : Int32)))), (.int (nar .boolean (own_bit p1 (4 : Int32)))), (.int (nar .boolean (own_bit p1 (5 : Int32)))), (.int (nar .boolean (own_bit p1 (6 : Int32)))), (.int (nar .boolean (own_bit p1 (7 : Int32))))] (.int (0 : Int32)) h36 n0 Zs47 Fa46 (own_masked p2 (65535 : Int32) (by decide)) (own_tab p1 _ (own_masked p2 (65535 : Int32) (by decide)))) hZ (hw _ (List.mem_of_getElem? (i := 9) rfl)) (hw _ (List.mem_of_getElem? (i := 8) rfl)) (by decide) (by decide)) (g := (mkF m 161 #[iv p1, iv p2, iv p3, rv b1, rv b36, iv 0, rv b1, iv (p2 &&& (65535 : Int32)), iv 0, .unset] [(.int (p2 &&& (65535 : Int32))), (.ref b1)])) rfl (by rw [hml]; rfl) (argsL := [(.ref b1), (.int (p2 &&& (65535 : Int32)))]) (rest := []) (lenOf pd_2 rfl) rfl (by show 2 * 0 + _ ≤ _; exact Nat.le_of_eq rfl) (hb hby at_161) (fun _ _ => ⟨rfl, e36, (by decide : 2 + 0 ≤ _), (by decide : 8 + 0 ≤ _)⟩)
        dsimp only [Pt.U, Pt.locs, Pt.cells, Pt.slots] at X45 l45 y45 z45 st45 hQ45
        subst l45 y45 z45
        obtain ⟨rfl, Nq45, e45⟩ := hQ45
        have N45 := Fr.app N33 Nq45
        refine own_st st45 ?_
        show own_Go _ _ _ _ (T45.setTop (mkF m 164 #[iv p1, iv p2, iv p3, rv b1, rv b36, iv 0, rv b1, iv (p2 &&& (65535 : Int32)), iv 0, .unset] [(.int (own_isIn (p2 &&& (65535 : Int32)) (8 : Int32) (nar .boolean (own_bit p1 (p2 &&& (65535 : Int32))))))]))
        refine o_istore X45 hx (hb hby at_164) (l' := #[iv p1, iv p2, iv p3, rv b1, rv b36, iv 0, rv b1, iv (p2 &&& (65535 : Int32)), iv 0, iv (own_isIn (p2 &&& (65535 : Int32)) (8 : Int32) (nar .boolean (own_bit p1 (p2 &&& (65535 : Int32)))))]) rfl ?_
        refine o_iload X45 hx (hb hby at_166) rfl ?_
        refine o_iload X45 hx (hb hby at_168) rfl ?_
        refine o_icmpNo X45 hx (hb hby at_170) (teq (own_fin8 _ _ hc140_39)).2 ?_
        refine o_iconst X45 hx 1 (hb hby at_173) rfl ?_
        refine o_goto X45 hx (pc' := 178) (hb hby at_174) (by decide) (by decide) ?_
        have Kp48 : Keep h0 h36 [] := (Kp35.ext E36)
        exact own_end X45 e45 (v := some (.int (1 : Int32))) (fun h => by rw [Bd.returns] at h; cases h) hlk (fun fs hr => retN X45 hx (z := (1 : Int32)) (t := .boolean) Bd.returns (by simp) (hb hby at_178) hr) (Q := Q_rm0 Z a0 p1 p2 p3 h0 n0) ⟨rfl, N45, Kp48⟩ (by decide) (by decide)
    · refine o_ifNo X36 hx (hb hby at_107) (feq hc107_38).1 ?_
      refine o_iloadN X36 hx (hb hby at_110) rfl ?_
      refine o_bipush X36 hx 15 (hb hby at_111) rfl ?_
      refine o_iand X36 hx (hb hby at_113) ?_
      refine o_istore X36 hx (hb hby at_114) (l' := #[iv p1, iv p2, iv p3, rv b1, rv b36, iv 0, rv b1, iv (p2 &&& (15 : Int32)), .unset, .unset]) rfl ?_
      refine o_goto X36 hx (pc' := 125) (hb hby at_116) (by decide) (by decide) ?_
      refine o_iload X36 hx (hb hby at_125) rfl ?_
      refine o_ifYes X36 hx (pc' := 136) (hb hby at_127) (teq (by decide : (0 : Int32) = (0 : Int32))).1 (by decide) (by decide) ?_
      refine o_iload X36 hx (hb hby at_136) rfl ?_
      refine o_bipush X36 hx 8 (hb hby at_138) rfl ?_
      by_cases hc140_49 : (p2 &&& (15 : Int32)) < (8 : Int32)
      · refine o_icmpNo X36 hx (hb hby at_140) (tlt hc140_49).2.1 ?_
        refine o_iloadN X36 hx (hb hby at_143) rfl ?_
        refine o_iload X36 hx (hb hby at_144) rfl ?_
        have Zs51 : n0 ≤ h36.size := (Nat.le_trans Zs34 E36.1)
        obtain ⟨_, _, ⟨T50, L50, k50, n50⟩, -, X50, ⟨Lc50, hQ50, l50, y50, z50⟩, st50⟩ := Jvm.LawKit.callS X36 hx (y := (⟨"com/example/vernum/vernum/VersionScannerIsInPinLaw", "bit", "(II)Z"⟩ : MethodName)) hown (mvT hZ (hw _ (List.mem_of_getElem? (i := 1) rfl))) (mvT hZ (hw _ (List.mem_of_getElem? (i := 2) rfl))) (mvT hZ (hw _ (List.mem_of_getElem? (i := 3) rfl))) (mvT hZ (hw _ (List.mem_of_getElem? (i := 4) rfl))) (by decide) (backOf (W := 0) (rm1 l Z a0 hw [] p1 (p2 &&& (15 : Int32))  h36 n0 Zs51) hZ (hw _ (List.mem_of_getElem? (i := 4) rfl)) (hw _ (List.mem_of_getElem? (i := 3) rfl)) (by decide) (by decide)) (g := (mkF m 146 #[iv p1, iv p2, iv p3, rv b1, rv b36, iv 0, rv b1, iv (p2 &&& (15 : Int32)), .unset, .unset] [(.int (p2 &&& (15 : Int32))), (.int p1)])) rfl (by rw [hml]; rfl) (argsL := [(.int p1), (.int (p2 &&& (15 : Int32)))]) (rest := []) (lenOf pd_1 rfl) rfl (by show 2 * 0 + _ ≤ _; exact Nat.le_of_eq rfl) (hb hby at_146) (fun _ _ => ⟨rfl, e36, (by decide : 2 + 0 ≤ _), (by decide : 8 + 0 ≤ _)⟩)
        dsimp only [Pt.U, Pt.locs, Pt.cells, Pt.slots] at X50 l50 y50 z50 st50 hQ50
        subst l50 y50 z50
        obtain ⟨rfl, Nq50, e50⟩ := hQ50
        have N50 := Fr.app N33 Nq50
        refine own_st st50 ?_
        show own_Go _ _ _ _ (T50.setTop (mkF m 149 #[iv p1, iv p2, iv p3, rv b1, rv b36, iv 0, rv b1, iv (p2 &&& (15 : Int32)), .unset, .unset] [(.int (own_bit p1 (p2 &&& (15 : Int32))))]))
        refine o_istore X50 hx (hb hby at_149) (l' := #[iv p1, iv p2, iv p3, rv b1, rv b36, iv 0, rv b1, iv (p2 &&& (15 : Int32)), iv (own_bit p1 (p2 &&& (15 : Int32))), .unset]) rfl ?_
        refine o_goto X50 hx (pc' := 157) (hb hby at_151) (by decide) (by decide) ?_
        refine o_aload X50 hx (hb hby at_157) rfl rfl ?_
        refine o_iload X50 hx (hb hby at_159) rfl ?_
        have Fa53 := (V33.ext E36)
        obtain ⟨_, _, ⟨T52, L52, k52, n52⟩, -, X52, ⟨Lc52, hQ52, l52, y52, z52⟩, st52⟩ := Jvm.LawKit.callS X50 hx (y := (⟨"com/example/vernum/vernum/VersionScanner", "isIn", "([ZI)Z"⟩ : MethodName)) hown (mvT hZ (hw _ (List.mem_of_getElem? (i := 6) rfl))) (mvT hZ (hw _ (List.mem_of_getElem? (i := 7) rfl))) (mvT hZ (hw _ (List.mem_of_getElem? (i := 8) rfl))) (mvT hZ (hw _ (List.mem_of_getElem? (i := 9) rfl))) (by decide) (backOf (W := 0) (rm2 l Z a0 hw [] b1 (p2 &&& (15 : Int32)) k1 (8 : Int32) (nar .boolean (own_bit p1 (p2 &&& (15 : Int32)))) [(.int (nar .boolean (own_bit p1 (0 : Int32)))), (.int (nar .boolean (own_bit p1 (1 : Int32)))), (.int (nar .boolean (own_bit p1 (2 : Int32)))), (.int (nar .boolean (own_bit p1 (3 : Int32)))), (.int (nar .boolean (own_bit p1 (4 : Int32)))), (.int (nar .boolean (own_bit p1 (5 : Int32)))), (.int (nar .boolean (own_bit p1 (6 : Int32)))), (.int (nar .boolean (own_bit p1 (7 : Int32))))] (.int (0 : Int32)) h36 n0 Zs51 Fa53 (own_masked p2 (15 : Int32) (by decide)) (own_tab p1 _ (own_masked p2 (15 : Int32) (by decide)))) hZ (hw _ (List.mem_of_getElem? (i := 9) rfl)) (hw _ (List.mem_of_getElem? (i := 8) rfl)) (by decide) (by decide)) (g := (mkF m 161 #[iv p1, iv p2, iv p3, rv b1, rv b36, iv 0, rv b1, iv (p2 &&& (15 : Int32)), iv (own_bit p1 (p2 &&& (15 : Int32))), .unset] [(.int (p2 &&& (15 : Int32))), (.ref b1)])) rfl (by rw [hml]; rfl) (argsL := [(.ref b1), (.int (p2 &&& (15 : Int32)))]) (rest := []) (lenOf pd_2 rfl) rfl (by show 2 * 0 + _ ≤ _; exact Nat.le_of_eq rfl) (hb hby at_161) (fun _ _ => ⟨rfl, e50, (by decide : 2 + 0 ≤ _), (by decide : 8 + 0 ≤ _)⟩)
        dsimp only [Pt.U, Pt.locs, Pt.cells, Pt.slots] at X52 l52 y52 z52 st52 hQ52
        subst l52 y52 z52
        obtain ⟨rfl, Nq52, e52⟩ := hQ52
        have N52 := Fr.app N50 Nq52
        refine own_st st52 ?_
        show own_Go _ _ _ _ (T52.setTop (mkF m 164 #[iv p1, iv p2, iv p3, rv b1, rv b36, iv 0, rv b1, iv (p2 &&& (15 : Int32)), iv (own_bit p1 (p2 &&& (15 : Int32))), .unset] [(.int (own_isIn (p2 &&& (15 : Int32)) (8 : Int32) (nar .boolean (own_bit p1 (p2 &&& (15 : Int32))))))]))
        refine o_istore X52 hx (hb hby at_164) (l' := #[iv p1, iv p2, iv p3, rv b1, rv b36, iv 0, rv b1, iv (p2 &&& (15 : Int32)), iv (own_bit p1 (p2 &&& (15 : Int32))), iv (own_isIn (p2 &&& (15 : Int32)) (8 : Int32) (nar .boolean (own_bit p1 (p2 &&& (15 : Int32)))))]) rfl ?_
        refine o_iload X52 hx (hb hby at_166) rfl ?_
        refine o_iload X52 hx (hb hby at_168) rfl ?_
        refine o_icmpNo X52 hx (hb hby at_170) (teq (own_fin p1 _ hc140_49)).2 ?_
        refine o_iconst X52 hx 1 (hb hby at_173) rfl ?_
        refine o_goto X52 hx (pc' := 178) (hb hby at_174) (by decide) (by decide) ?_
        have Kp54 : Keep h0 h36 [] := (Kp35.ext E36)
        exact own_end X52 e52 (v := some (.int (1 : Int32))) (fun h => by rw [Bd.returns] at h; cases h) hlk (fun fs hr => retN X52 hx (z := (1 : Int32)) (t := .boolean) Bd.returns (by simp) (hb hby at_178) hr) (Q := Q_rm0 Z a0 p1 p2 p3 h0 n0) ⟨rfl, N52, Kp54⟩ (by decide) (by decide)
      · refine o_icmpYes X36 hx (pc' := 154) (hb hby at_140) (flt hc140_49).2.1 (by decide) (by decide) ?_
        refine o_iconst X36 hx 0 (hb hby at_154) rfl ?_
        refine o_istore X36 hx (hb hby at_155) (l' := #[iv p1, iv p2, iv p3, rv b1, rv b36, iv 0, rv b1, iv (p2 &&& (15 : Int32)), iv 0, .unset]) rfl ?_
        refine o_aload X36 hx (hb hby at_157) rfl rfl ?_
        refine o_iload X36 hx (hb hby at_159) rfl ?_
        have Fa56 := (V33.ext E36)
        have Zs57 : n0 ≤ h36.size := (Nat.le_trans Zs34 E36.1)
        obtain ⟨_, _, ⟨T55, L55, k55, n55⟩, -, X55, ⟨Lc55, hQ55, l55, y55, z55⟩, st55⟩ := Jvm.LawKit.callS X36 hx (y := (⟨"com/example/vernum/vernum/VersionScanner", "isIn", "([ZI)Z"⟩ : MethodName)) hown (mvT hZ (hw _ (List.mem_of_getElem? (i := 6) rfl))) (mvT hZ (hw _ (List.mem_of_getElem? (i := 7) rfl))) (mvT hZ (hw _ (List.mem_of_getElem? (i := 8) rfl))) (mvT hZ (hw _ (List.mem_of_getElem? (i := 9) rfl))) (by decide) (backOf (W := 0) (rm2 l Z a0 hw [] b1 (p2 &&& (15 : Int32)) k1 (8 : Int32) (nar .boolean (own_bit p1 (p2 &&& (15 : Int32)))) [(.int (nar .boolean (own_bit p1 (0 : Int32)))), (.int (nar .boolean (own_bit p1 (1 : Int32)))), (.int (nar .boolean (own_bit p1 (2 : Int32)))), (.int (nar .boolean (own_bit p1 (3 : Int32)))), (.int (nar .boolean (own_bit p1 (4 : Int32)))), (.int (nar .boolean (own_bit p1 (5 : Int32)))), (.int (nar .boolean (own_bit p1 (6 : Int32)))), (.int (nar .boolean (own_bit p1 (7 : Int32))))] (.int (0 : Int32)) h36 n0 Zs57 Fa56 (own_masked p2 (15 : Int32) (by decide)) (own_tab p1 _ (own_masked p2 (15 : Int32) (by decide)))) hZ (hw _ (List.mem_of_getElem? (i := 9) rfl)) (hw _ (List.mem_of_getElem? (i := 8) rfl)) (by decide) (by decide)) (g := (mkF m 161 #[iv p1, iv p2, iv p3, rv b1, rv b36, iv 0, rv b1, iv (p2 &&& (15 : Int32)), iv 0, .unset] [(.int (p2 &&& (15 : Int32))), (.ref b1)])) rfl (by rw [hml]; rfl) (argsL := [(.ref b1), (.int (p2 &&& (15 : Int32)))]) (rest := []) (lenOf pd_2 rfl) rfl (by show 2 * 0 + _ ≤ _; exact Nat.le_of_eq rfl) (hb hby at_161) (fun _ _ => ⟨rfl, e36, (by decide : 2 + 0 ≤ _), (by decide : 8 + 0 ≤ _)⟩)
        dsimp only [Pt.U, Pt.locs, Pt.cells, Pt.slots] at X55 l55 y55 z55 st55 hQ55
        subst l55 y55 z55
        obtain ⟨rfl, Nq55, e55⟩ := hQ55
        have N55 := Fr.app N33 Nq55
        refine own_st st55 ?_
        show own_Go _ _ _ _ (T55.setTop (mkF m 164 #[iv p1, iv p2, iv p3, rv b1, rv b36, iv 0, rv b1, iv (p2 &&& (15 : Int32)), iv 0, .unset] [(.int (own_isIn (p2 &&& (15 : Int32)) (8 : Int32) (nar .boolean (own_bit p1 (p2 &&& (15 : Int32))))))]))
        refine o_istore X55 hx (hb hby at_164) (l' := #[iv p1, iv p2, iv p3, rv b1, rv b36, iv 0, rv b1, iv (p2 &&& (15 : Int32)), iv 0, iv (own_isIn (p2 &&& (15 : Int32)) (8 : Int32) (nar .boolean (own_bit p1 (p2 &&& (15 : Int32)))))]) rfl ?_
        refine o_iload X55 hx (hb hby at_166) rfl ?_
        refine o_iload X55 hx (hb hby at_168) rfl ?_
        refine o_icmpNo X55 hx (hb hby at_170) (teq (own_fin8 _ _ hc140_49)).2 ?_
        refine o_iconst X55 hx 1 (hb hby at_173) rfl ?_
        refine o_goto X55 hx (pc' := 178) (hb hby at_174) (by decide) (by decide) ?_
        have Kp58 : Keep h0 h36 [] := (Kp35.ext E36)
        exact own_end X55 e55 (v := some (.int (1 : Int32))) (fun h => by rw [Bd.returns] at h; cases h) hlk (fun fs hr => retN X55 hx (z := (1 : Int32)) (t := .boolean) Bd.returns (by simp) (hb hby at_178) hr) (Q := Q_rm0 Z a0 p1 p2 p3 h0 n0) ⟨rfl, N55, Kp58⟩ (by decide) (by decide)
  · refine o_ifNo X36 hx (hb hby at_81) (feq hc81_37).1 ?_
    refine o_iconst X36 hx 1 (hb hby at_84) rfl ?_
    refine o_goto X36 hx (pc' := 89) (hb hby at_85) (by decide) (by decide) ?_
    refine o_istore X36 hx (hb hby at_89) (l' := #[iv p1, iv p2, iv p3, rv b1, rv b36, iv 1, .unset, .unset, .unset, .unset]) rfl ?_
    refine o_iload X36 hx (hb hby at_91) rfl ?_
    refine o_ifNo X36 hx (hb hby at_93) (feq (by decide : ¬ ((1 : Int32) = (0 : Int32)))).1 ?_
    refine o_aload X36 hx (hb hby at_96) rfl rfl ?_
    refine o_goto X36 hx (pc' := 102) (hb hby at_98) (by decide) (by decide) ?_
    refine o_astore X36 hx (hb hby at_102) rfl (l' := #[iv p1, iv p2, iv p3, rv b1, rv b36, iv 1, rv b36, .unset, .unset, .unset]) rfl ?_
    refine o_iloadN X36 hx (hb hby at_104) rfl ?_
    refine o_iconst X36 hx 1 (hb hby at_105) rfl ?_
    refine o_iand X36 hx (hb hby at_106) ?_
    by_cases hc107_59 : (p3 &&& (1 : Int32)) = (0 : Int32)
    · refine o_ifYes X36 hx (pc' := 119) (hb hby at_107) (teq hc107_59).1 (by decide) (by decide) ?_
      refine o_iloadN X36 hx (hb hby at_119) rfl ?_
      refine o_ldc X36 hx hown (hb hby at_120) (mvT hZ (hw _ (List.mem_of_getElem? (i := 5) rfl))) ?_
      refine o_iand X36 hx (hb hby at_122) ?_
      refine o_istore X36 hx (hb hby at_123) (l' := #[iv p1, iv p2, iv p3, rv b1, rv b36, iv 1, rv b36, iv (p2 &&& (65535 : Int32)), .unset, .unset]) rfl ?_
      refine o_iload X36 hx (hb hby at_125) rfl ?_
      refine o_ifNo X36 hx (hb hby at_127) (feq (by decide : ¬ ((1 : Int32) = (0 : Int32)))).1 ?_
      refine o_iconst X36 hx 0 (hb hby at_130) rfl ?_
      refine o_istore X36 hx (hb hby at_131) (l' := #[iv p1, iv p2, iv p3, rv b1, rv b36, iv 1, rv b36, iv (p2 &&& (65535 : Int32)), iv 0, .unset]) rfl ?_
      refine o_goto X36 hx (pc' := 157) (hb hby at_133) (by decide) (by decide) ?_
      refine o_aload X36 hx (hb hby at_157) rfl rfl ?_
      refine o_iload X36 hx (hb hby at_159) rfl ?_
      have Zs61 : n0 ≤ h36.size := (Nat.le_trans Zs34 E36.1)
      obtain ⟨_, _, ⟨T60, L60, k60, n60⟩, -, X60, ⟨Lc60, hQ60, l60, y60, z60⟩, st60⟩ := Jvm.LawKit.callS X36 hx (y := (⟨"com/example/vernum/vernum/VersionScanner", "isIn", "([ZI)Z"⟩ : MethodName)) hown (mvT hZ (hw _ (List.mem_of_getElem? (i := 6) rfl))) (mvT hZ (hw _ (List.mem_of_getElem? (i := 7) rfl))) (mvT hZ (hw _ (List.mem_of_getElem? (i := 8) rfl))) (mvT hZ (hw _ (List.mem_of_getElem? (i := 9) rfl))) (by decide) (backOf (W := 0) (rm2 l Z a0 hw [] b36 (p2 &&& (65535 : Int32)) k36 (0 : Int32) (nar .boolean (own_bit p1 (p2 &&& (65535 : Int32)))) [] (.int (0 : Int32)) h36 n0 Zs61 V36 (own_masked p2 (65535 : Int32) (by decide)) (fun h => absurd h (own_masked p2 (65535 : Int32) (by decide)))) hZ (hw _ (List.mem_of_getElem? (i := 9) rfl)) (hw _ (List.mem_of_getElem? (i := 8) rfl)) (by decide) (by decide)) (g := (mkF m 161 #[iv p1, iv p2, iv p3, rv b1, rv b36, iv 1, rv b36, iv (p2 &&& (65535 : Int32)), iv 0, .unset] [(.int (p2 &&& (65535 : Int32))), (.ref b36)])) rfl (by rw [hml]; rfl) (argsL := [(.ref b36), (.int (p2 &&& (65535 : Int32)))]) (rest := []) (lenOf pd_2 rfl) rfl (by show 2 * 0 + _ ≤ _; exact Nat.le_of_eq rfl) (hb hby at_161) (fun _ _ => ⟨rfl, e36, (by decide : 2 + 0 ≤ _), (by decide : 8 + 0 ≤ _)⟩)
      dsimp only [Pt.U, Pt.locs, Pt.cells, Pt.slots] at X60 l60 y60 z60 st60 hQ60
      subst l60 y60 z60
      obtain ⟨rfl, Nq60, e60⟩ := hQ60
      have N60 := Fr.app N33 Nq60
      refine own_st st60 ?_
      show own_Go _ _ _ _ (T60.setTop (mkF m 164 #[iv p1, iv p2, iv p3, rv b1, rv b36, iv 1, rv b36, iv (p2 &&& (65535 : Int32)), iv 0, .unset] [(.int (own_isIn (p2 &&& (65535 : Int32)) (0 : Int32) (nar .boolean (own_bit p1 (p2 &&& (65535 : Int32))))))]))
      refine o_istore X60 hx (hb hby at_164) (l' := #[iv p1, iv p2, iv p3, rv b1, rv b36, iv 1, rv b36, iv (p2 &&& (65535 : Int32)), iv 0, iv (own_isIn (p2 &&& (65535 : Int32)) (0 : Int32) (nar .boolean (own_bit p1 (p2 &&& (65535 : Int32)))))]) rfl ?_
      refine o_iload X60 hx (hb hby at_166) rfl ?_
      refine o_iload X60 hx (hb hby at_168) rfl ?_
      refine o_icmpNo X60 hx (hb hby at_170) (teq (own_fin0 _ _ (own_masked p2 (65535 : Int32) (by decide)))).2 ?_
      refine o_iconst X60 hx 1 (hb hby at_173) rfl ?_
      refine o_goto X60 hx (pc' := 178) (hb hby at_174) (by decide) (by decide) ?_
      have Kp62 : Keep h0 h36 [] := (Kp35.ext E36)
      exact own_end X60 e60 (v := some (.int (1 : Int32))) (fun h => by rw [Bd.returns] at h; cases h) hlk (fun fs hr => retN X60 hx (z := (1 : Int32)) (t := .boolean) Bd.returns (by simp) (hb hby at_178) hr) (Q := Q_rm0 Z a0 p1 p2 p3 h0 n0) ⟨rfl, N60, Kp62⟩ (by decide) (by decide)
    · refine o_ifNo X36 hx (hb hby at_107) (feq hc107_59).1 ?_
      refine o_iloadN X36 hx (hb hby at_110) rfl ?_
      refine o_bipush X36 hx 15 (hb hby at_111) rfl ?_
      refine o_iand X36 hx (hb hby at_113) ?_
      refine o_istore X36 hx (hb hby at_114) (l' := #[iv p1, iv p2, iv p3, rv b1, rv b36, iv 1, rv b36, iv (p2 &&& (15 : Int32)), .unset, .unset]) rfl ?_
      refine o_goto X36 hx (pc' := 125) (hb hby at_116) (by decide) (by decide) ?_
      refine o_iload X36 hx (hb hby at_125) rfl ?_
      refine o_ifNo X36 hx (hb hby at_127) (feq (by decide : ¬ ((1 : Int32) = (0 : Int32)))).1 ?_
      refine o_iconst X36 hx 0 (hb hby at_130) rfl ?_
      refine o_istore X36 hx (hb hby at_131) (l' := #[iv p1, iv p2, iv p3, rv b1, rv b36, iv 1, rv b36, iv (p2 &&& (15 : Int32)), iv 0, .unset]) rfl ?_
      refine o_goto X36 hx (pc' := 157) (hb hby at_133) (by decide) (by decide) ?_
      refine o_aload X36 hx (hb hby at_157) rfl rfl ?_
      refine o_iload X36 hx (hb hby at_159) rfl ?_
      have Zs64 : n0 ≤ h36.size := (Nat.le_trans Zs34 E36.1)
      obtain ⟨_, _, ⟨T63, L63, k63, n63⟩, -, X63, ⟨Lc63, hQ63, l63, y63, z63⟩, st63⟩ := Jvm.LawKit.callS X36 hx (y := (⟨"com/example/vernum/vernum/VersionScanner", "isIn", "([ZI)Z"⟩ : MethodName)) hown (mvT hZ (hw _ (List.mem_of_getElem? (i := 6) rfl))) (mvT hZ (hw _ (List.mem_of_getElem? (i := 7) rfl))) (mvT hZ (hw _ (List.mem_of_getElem? (i := 8) rfl))) (mvT hZ (hw _ (List.mem_of_getElem? (i := 9) rfl))) (by decide) (backOf (W := 0) (rm2 l Z a0 hw [] b36 (p2 &&& (15 : Int32)) k36 (0 : Int32) (nar .boolean (own_bit p1 (p2 &&& (15 : Int32)))) [] (.int (0 : Int32)) h36 n0 Zs64 V36 (own_masked p2 (15 : Int32) (by decide)) (fun h => absurd h (own_masked p2 (15 : Int32) (by decide)))) hZ (hw _ (List.mem_of_getElem? (i := 9) rfl)) (hw _ (List.mem_of_getElem? (i := 8) rfl)) (by decide) (by decide)) (g := (mkF m 161 #[iv p1, iv p2, iv p3, rv b1, rv b36, iv 1, rv b36, iv (p2 &&& (15 : Int32)), iv 0, .unset] [(.int (p2 &&& (15 : Int32))), (.ref b36)])) rfl (by rw [hml]; rfl) (argsL := [(.ref b36), (.int (p2 &&& (15 : Int32)))]) (rest := []) (lenOf pd_2 rfl) rfl (by show 2 * 0 + _ ≤ _; exact Nat.le_of_eq rfl) (hb hby at_161) (fun _ _ => ⟨rfl, e36, (by decide : 2 + 0 ≤ _), (by decide : 8 + 0 ≤ _)⟩)
      dsimp only [Pt.U, Pt.locs, Pt.cells, Pt.slots] at X63 l63 y63 z63 st63 hQ63
      subst l63 y63 z63
      obtain ⟨rfl, Nq63, e63⟩ := hQ63
      have N63 := Fr.app N33 Nq63
      refine own_st st63 ?_
      show own_Go _ _ _ _ (T63.setTop (mkF m 164 #[iv p1, iv p2, iv p3, rv b1, rv b36, iv 1, rv b36, iv (p2 &&& (15 : Int32)), iv 0, .unset] [(.int (own_isIn (p2 &&& (15 : Int32)) (0 : Int32) (nar .boolean (own_bit p1 (p2 &&& (15 : Int32))))))]))
      refine o_istore X63 hx (hb hby at_164) (l' := #[iv p1, iv p2, iv p3, rv b1, rv b36, iv 1, rv b36, iv (p2 &&& (15 : Int32)), iv 0, iv (own_isIn (p2 &&& (15 : Int32)) (0 : Int32) (nar .boolean (own_bit p1 (p2 &&& (15 : Int32)))))]) rfl ?_
      refine o_iload X63 hx (hb hby at_166) rfl ?_
      refine o_iload X63 hx (hb hby at_168) rfl ?_
      refine o_icmpNo X63 hx (hb hby at_170) (teq (own_fin0 _ _ (own_masked p2 (15 : Int32) (by decide)))).2 ?_
      refine o_iconst X63 hx 1 (hb hby at_173) rfl ?_
      refine o_goto X63 hx (pc' := 178) (hb hby at_174) (by decide) (by decide) ?_
      have Kp65 : Keep h0 h36 [] := (Kp35.ext E36)
      exact own_end X63 e63 (v := some (.int (1 : Int32))) (fun h => by rw [Bd.returns] at h; cases h) hlk (fun fs hr => retN X63 hx (z := (1 : Int32)) (t := .boolean) Bd.returns (by simp) (hb hby at_178) hr) (Q := Q_rm0 Z a0 p1 p2 p3 h0 n0) ⟨rfl, N63, Kp65⟩ (by decide) (by decide)
set_option maxRecDepth 65536 in
set_option maxHeartbeats 40000000 in
theorem comes_1 {Post : Tables → Env → Array Value → State → Outcome → State → Prop} (hpost : ∀ tb e args s v u, (limb_1_1.after args s (.returned v) u = true ∧ limb_1_2.after args s (.returned v) u = true ∧ True) → FrameEnd s (.returned v) u (Jvm.fieldLocs frame_1_writes args s ++ Jvm.arrayLocs frame_1_arrays args s ++ Jvm.staticLocs frame_1_statics s) 16 128 → Post tb e args s (.returned v) u) :
    ArmFor flags0 classFile x code maxLocals ret World_1 tables_1 room_1 Calls_1 rest_1 Pre_1 Post := by
  intro l hfl _ _ p e ha hc hk s m args below hf hA hF happ hP
  obtain ⟨hcalls, hrest, hpre⟩ := hP
  obtain ⟨-, -, -, hnamed, -, -, -, hat⟩ := (Spec.applies_iff hf).mp happ
  obtain ⟨hg, hn⟩ := and_e (Cond.before_iff.mp (show (Jvm.Cond.and given_1 narrow_1).before args s = true from hpre))
  obtain ⟨g1, g2⟩ := and_e hg
  obtain ⟨g3, g4⟩ := and_e g2
  obtain ⟨g5, g6⟩ := and_e g4
  obtain ⟨w0, w1, w2, rfl⟩ : ∃ w0 w1 w2 : Value, args = #[w0, w1, w2] := by
    have hs : args.size = 3 := by simpa [Cond.value, given_1] using g1
    obtain ⟨L⟩ := args
    match L, hs with
    | [w0, w1, w2], _ => exact ⟨w0, w1, w2, rfl⟩
  have hw := fun d (hd : d ∈ tables_1) => atoms_spec (ws := Jvm.Cond.code x code maxLocals ret :: tables_1) hat d (List.mem_cons_of_mem _ hd)
  have hfit : Fit s := fun {y c} hc i hi => by
    obtain ⟨ha, rfl⟩ := Array.getElem?_eq_some_iff.mp hc
    have q := List.all_eq_true.mp ((Array.all_eq_true_iff_forall_mem.mp hF) _ (Array.getElem_mem ha)) i (List.mem_range.mpr hi)
    simpa [Array.getElem?_eq_getElem hi] using q
  obtain ⟨i0, ei0⟩ := is_v g3
  obtain rfl : w0 = (.int i0) := Option.some.inj ei0
  obtain ⟨i1, ei1⟩ := is_v g5
  obtain rfl : w1 = (.int i1) := Option.some.inj ei1
  obtain ⟨i2, ei2⟩ := is_v g6
  obtain rfl : w2 = (.int i2) := Option.some.inj ei2
  obtain ⟨n, o, h1, h2, h3, _, L, rfl, ⟨rfl, N, -⟩, hq⟩ := rm0 l s _ hw tables_1 i0 i1 i2  s.heap s.heap.size (Nat.le_refl _)  p e ha hc hk s m _ below hf ((Spec.applies_iff_loose hf).mp happ).1 ⟨rfl, State.Warmed39.refl s, rfl⟩ trivial
  refine ⟨n, _, h1, h2, h3, hpost _ _ _ _ _ _ ⟨Cond.after_iff.mpr rfl, Cond.after_iff.mpr (eq_i res_at (Term.int_eval (1)) rfl), trivial⟩ ⟨hq.1, hq.2.1, (hq.2.2.sift fun y hy => Or.inr (N y hy)).mono (by decide) (by decide)⟩⟩
theorem main_1_1 : Claimed_1_1 := comes_1 fun _ _ _ _ _ _ h hF => ⟨h.1, hF⟩
theorem main_1_2 : Claimed_1_2 := comes_1 fun _ _ _ _ _ _ h hF => ⟨h.2.1, hF⟩
end Jvm.Pilot.@@N@@
namespace Jvm.Pilot.@@N@@
open Jvm Jvm.ClassFile Sem Op Lib Jvm.Free Jvm.Stand Jvm.Pilot.@@N@@.Jvm.D
/-! MADE BY PROGRAM (witnessworld.py) out of the Statement's table words and the real class files: 11 classes; the members and pool entries that the words name. The judged class is class 1, her method 2. -/
namespace start1
open Jvm.ClassFile
def u (s : String) : CpInfo := .utf8 (stringToUtf16 s)
/-- a pool by its gaps: so many unusable entries, then the entry; so many at the end -/
def gap : Nat → List CpInfo → List CpInfo
  | 0, r => r
  | n + 1, r => .unusable :: gap n r
def poolList (es : List (Nat × CpInfo)) (last : Nat) : List CpInfo := es.foldr (fun e r => gap e.1 (e.2 :: r)) (gap last [])
def pool (es : List (Nat × CpInfo)) (last : Nat) : Array CpInfo := ⟨poolList es last⟩
def fileOf (pool : Array CpInfo) (this : Nat) (attrs : Array Attribute := #[]) (ms : Array MethodInfo := #[]) (fl : Nat := 33) (sup : Nat := 0) (ifs : Array Nat := #[]) (fds : Array FieldInfo := #[]) : ClassFile where
  minorVersion := 0
  majorVersion := 65
  constantPool := pool
  accessFlags := fl
  thisClass := this
  superClass := sup
  interfaces := ifs
  fields := fds
  methods := ms
  attributes := attrs
def plain (name : String) (sup : Option ClassId) : Class where
  name := name
  kind := .ordinary
  loader := none
  accessFlags := 33
  super := sup
  interfaces := #[]
  cf := none
  fields := #[]
  methods := #[]
  instanceTypes := #[]
  staticTypes := #[]
  resolved := #[]
  callSites := []
  init := .initialized
  statics := none
  mirror := none

def pool0 : Array CpInfo := pool [(5, u "<init>"), (0, u "()V"), (1, .class_ 10), (1, u "java/lang/Object")] 113

def k0m0 : Method := { name := "<init>", desc := "()V", sig := { parameters := [], returnType := none }, accessFlags := 1, code := none }
/-- java/lang/Object -/
def k0 : Class := { plain "java/lang/Object" none with
  accessFlags := 33
  interfaces := #[]
  cf := some (fileOf pool0 8 #[] #[{ accessFlags := 1, nameIndex := 5, descriptorIndex := 6, attributes := #[] }] 33 0 #[] #[])
  fields := #[]
  methods := #[k0m0]
  instanceTypes := #[]
  staticTypes := #[]
  resolved := Array.replicate 124 none
  statics := none }

def pool1 : Array CpInfo := pool [(2, .class_ 4), (1, u "java/lang/Object"), (0, u "<init>"), (0, u "()V"), (0, .methodref 8 9), (0, .class_ 10), (0, .nameAndType 11 12), (0, u "com/example/vernum/vernum/VersionScannerIsInPinLaw"), (0, u "bit"), (0, u "(II)Z"), (0, .integer 65535), (0, .methodref 15 16), (0, .class_ 17), (0, .nameAndType 18 19), (0, u "com/example/vernum/vernum/VersionScanner"), (0, u "isIn"), (0, u "([ZI)Z"), (3, u "law"), (0, u "(III)Z")] 4

def k1m0 : Method := { name := "<init>", desc := "()V", sig := { parameters := [], returnType := none }, accessFlags := 2, code := none }
def k1c1 : Code := { maxStack := 2, maxLocals := 2, code := method_2_code, exceptionTable := #[], attributes := #[] }
def k1m1 : Method := { name := "bit", desc := "(II)Z", sig := { parameters := [.int, .int], returnType := some .boolean }, accessFlags := 10, code := some k1c1 }
def k1c2 : Code := { maxStack := 4, maxLocals := 10, code := code, exceptionTable := #[], attributes := #[] }
def k1m2 : Method := { name := "law", desc := "(III)Z", sig := { parameters := [.int, .int, .int], returnType := some .boolean }, accessFlags := 9, code := some k1c2 }
/-- com/example/vernum/vernum/VersionScannerIsInPinLaw -/
def k1 : Class := { plain "com/example/vernum/vernum/VersionScannerIsInPinLaw" (some 0) with
  accessFlags := 49
  interfaces := #[]
  cf := some (fileOf pool1 8 #[] #[{ accessFlags := 2, nameIndex := 5, descriptorIndex := 6, attributes := #[] }, { accessFlags := 10, nameIndex := 11, descriptorIndex := 12, attributes := #[] }, { accessFlags := 9, nameIndex := 23, descriptorIndex := 24, attributes := #[] }] 49 2 #[] #[])
  fields := #[]
  methods := #[k1m0, k1m1, k1m2]
  instanceTypes := #[]
  staticTypes := #[]
  resolved := Array.replicate 29 none
  statics := none }

def pool2 : Array CpInfo := pool [(2, .class_ 4), (1, u "java/lang/Object"), (3, .class_ 10), (1, u "com/example/vernum/vernum/VersionScanner"), (0, u "input"), (0, u "Ljava/lang/String;"), (8, u "end"), (0, u "I"), (2, u "position"), (2, u "peeked"), (26, u "outOfRange"), (0, u "Z"), (28, u "isIn"), (0, u "([ZI)Z"), (8, u "LETTERS_AND_DIGITS"), (0, u "[Z")] 20

def k2c0 : Code := { maxStack := 2, maxLocals := 2, code := prog_24_method_17_code, exceptionTable := #[], attributes := #[] }
def k2m0 : Method := { name := "isIn", desc := "([ZI)Z", sig := { parameters := [(.array .boolean), .int], returnType := some .boolean }, accessFlags := 8, code := some k2c0 }
/-- com/example/vernum/vernum/VersionScanner -/
def k2 : Class := { plain "com/example/vernum/vernum/VersionScanner" (some 0) with
  accessFlags := 48
  interfaces := #[]
  cf := some (fileOf pool2 8 #[] #[{ accessFlags := 8, nameIndex := 85, descriptorIndex := 86, attributes := #[] }] 48 2 #[] #[{ accessFlags := 24, nameIndex := 95, descriptorIndex := 96, attributes := #[] }, { accessFlags := 18, nameIndex := 11, descriptorIndex := 12, attributes := #[] }, { accessFlags := 2, nameIndex := 21, descriptorIndex := 22, attributes := #[] }, { accessFlags := 2, nameIndex := 25, descriptorIndex := 22, attributes := #[] }, { accessFlags := 2, nameIndex := 28, descriptorIndex := 22, attributes := #[] }, { accessFlags := 2, nameIndex := 55, descriptorIndex := 56, attributes := #[] }])
  fields := #[{ name := "LETTERS_AND_DIGITS", type := (.array .boolean), accessFlags := 24, slot := 0, constantValue := 0 }, { name := "input", type := (.object "java/lang/String"), accessFlags := 18, slot := 0, constantValue := 0 }, { name := "end", type := .int, accessFlags := 2, slot := 1, constantValue := 0 }, { name := "position", type := .int, accessFlags := 2, slot := 2, constantValue := 0 }, { name := "peeked", type := .int, accessFlags := 2, slot := 3, constantValue := 0 }, { name := "outOfRange", type := .boolean, accessFlags := 2, slot := 4, constantValue := 0 }]
  methods := #[k2m0]
  instanceTypes := #[(.object "java/lang/String"), .int, .int, .int, .boolean]
  staticTypes := #[(.array .boolean)]
  resolved := Array.replicate 117 none
  statics := none }

def pool3 : Array CpInfo := pool [(1, u "java/lang/Cloneable"), (0, .class_ 1), (0, u "java/lang/Object"), (0, .class_ 3)] 3

/-- java/lang/Cloneable -/
def k3 : Class := { plain "java/lang/Cloneable" (some 0) with
  accessFlags := 1537
  interfaces := #[]
  cf := some (fileOf pool3 2 #[] #[] 1537 4 #[] #[])
  fields := #[]
  methods := #[]
  instanceTypes := #[]
  staticTypes := #[]
  resolved := Array.replicate 8 none
  statics := none }

def pool4 : Array CpInfo := pool [(1, u "java/io/Serializable"), (0, .class_ 1), (0, u "java/lang/Object"), (0, .class_ 3)] 3

/-- java/io/Serializable -/
def k4 : Class := { plain "java/io/Serializable" (some 0) with
  accessFlags := 1537
  interfaces := #[]
  cf := some (fileOf pool4 2 #[] #[] 1537 4 #[] #[])
  fields := #[]
  methods := #[]
  instanceTypes := #[]
  staticTypes := #[]
  resolved := Array.replicate 8 none
  statics := none }

/-- the primitive boolean -/
def k5 : Class := { plain "boolean" none with kind := .primitive 'Z', accessFlags := 0x411 }
/-- [Z -/
def k6 : Class := { plain "[Z" (some 0) with kind := .array 5 .boolean, interfaces := #[3, 4], accessFlags := 1041 }

/-- the primitive byte -/
def k7 : Class := { plain "byte" none with kind := .primitive 'B', accessFlags := 0x411 }
/-- [B -/
def k8 : Class := { plain "[B" (some 0) with kind := .array 7 .byte, interfaces := #[3, 4], accessFlags := 1041 }

/-- the primitive int -/
def k9 : Class := { plain "int" none with kind := .primitive 'I', accessFlags := 0x411 }
/-- [I -/
def k10 : Class := { plain "[I" (some 0) with kind := .array 9 .int, interfaces := #[3, 4], accessFlags := 1041 }

def heap : Heap := #[]
def classes : Array Class := #[k0, k1, k2, k3, k4, k5, k6, k7, k8, k9, k10]
def interned : List (Array UInt16 × Addr) := []
def slotsUsed : Nat := 0
def theMethod : MethodId := ⟨1, 2⟩
def args0 : Array Value := #[.int 5, .int 3, .int 1]
def aboutOver (below : List Frame) : State where
  vm := { classes := classes, interned := interned.toArray }
  heap := heap
  slotsUsed := slotsUsed
  threads := #[{ frames := .invoking theMethod args0 :: below }]
def below0 : List Frame := [.native { method := ⟨0, 0⟩, args := #[] }]
def about1 : State := aboutOver below0
def p0 : Program := .bare "" "" ""
def e0 : Env := launch0.env 0 0 0
theorem w_frames : about1.frames = Frame.invoking theMethod args0 :: below0 := rfl
set_option maxRecDepth 65536 in
theorem w_args : argsFit about1.vm theMethod args0 = true := by decide +kernel
set_option maxRecDepth 65536 in
theorem w_heap : heapFits about1 = true := by decide +kernel
set_option maxRecDepth 65536 in
theorem w_runnable : about1.curStatus? = some .runnable := by decide +kernel
set_option maxRecDepth 65536 in
theorem w_alone : about1.alone = true := by decide +kernel
set_option maxRecDepth 65536 in
theorem w_named : about1.methodNamed? x = some theMethod := by decide +kernel
set_option maxRecDepth 65536 in
theorem w_hears : about1.hears theMethod below0 = true := by decide +kernel
set_option maxRecDepth 65536 in
theorem w_ripe : about1.ripe theMethod args0 below0 = true := by decide +kernel
theorem w_running : about1.status = .running := rfl
set_option maxRecDepth 65536 in
theorem w_room : about1.hasRoom e0.platform room_1 = true :=
  launch0.hasRoom_least _ room_1 (by decide +kernel) (by decide +kernel) (by decide +kernel) (by decide +kernel) (by decide +kernel) (by decide +kernel)
theorem allAtoms_all (ts : List Jvm.Cond) (a : Array Jvm.Value) (st : Jvm.State) : (allAtoms ts).before a st = ts.all (fun c => c.before a st) := by
  induction ts with
  | nil => rfl
  | cons c t ih =>
    show (Jvm.Cond.and c (allAtoms t)).before a st = _
    rw [Jvm.Cond.before_and, ih, List.all_cons]
def words1 : List Jvm.Cond := Jvm.Cond.code x code maxLocals ret :: tables_1
/-- a 'code' word, met by the world's own term for the bytes: nothing is compared byte by byte -/
theorem code_word {y : MethodName} {bytes : ByteArray} {mx : Nat} {rt : Option FieldType} {a : Array Value} {s : State} {m : MethodId} {meth : Method} {c : Code} (h1 : s.methodNamed? y = some m) (h2 : s.vm.method? m = some meth) (h3 : meth.code = some c) (h4 : c.code = bytes)
    (h5 : (c.maxLocals == mx && c.exceptionTable.isEmpty && decide (c.maxStack ≤ mostOperands) && decide (meth.sig.returnType = rt) && !meth.locks && decide (parseMethodDescriptor y.desc = some meth.sig)) = true) : (Jvm.Cond.code y bytes mx rt).before a s = true := by
  simp only [Bool.and_eq_true, beq_iff_eq, Bool.not_eq_true', decide_eq_true_eq] at h5
  obtain ⟨⟨⟨⟨⟨g1, g2⟩, g3⟩, g4⟩, g5⟩, g6⟩ := h5
  simp [Cond.before, Cond.holds, Cond.value, h1, h2, h3, h4, g1, g2, g3, g4, g5, g6]
def isCode : Jvm.Cond → Bool
  | .code _ _ _ _ => true
  | _ => false
theorem all_split {L : List Jvm.Cond} {P : Jvm.Cond → Bool} (h1 : L.all (fun c => isCode c || P c) = true) (h2 : ∀ c ∈ L.filter isCode, P c = true) : L.all P = true := by
  refine List.all_eq_true.mpr fun c hc => ?_
  have h := List.all_eq_true.mp h1 c hc
  rcases Bool.eq_false_or_eq_true (isCode c) with hi | hi
  · exact h2 c (List.mem_filter.mpr ⟨hc, hi⟩)
  · simpa [hi] using h
set_option maxRecDepth 65536 in
theorem w_c0 : (Jvm.Cond.code x code maxLocals ret).before args0 about1 = true := code_word (m := ⟨1, 2⟩) (meth := k1m2) (c := k1c2) (by decide +kernel) rfl rfl rfl (by decide +kernel)
set_option maxRecDepth 65536 in
theorem w_c1 : (Jvm.Cond.code ({ cls := "com/example/vernum/vernum/VersionScannerIsInPinLaw", name := "bit", desc := "(II)Z" } : Jvm.MethodName) method_2_code (2 : Nat) (Option.some Jvm.ClassFile.FieldType.boolean)).before args0 about1 = true := code_word (m := ⟨1, 1⟩) (meth := k1m1) (c := k1c1) (by decide +kernel) rfl rfl rfl (by decide +kernel)
set_option maxRecDepth 65536 in
theorem w_c2 : (Jvm.Cond.code ({ cls := "com/example/vernum/vernum/VersionScanner", name := "isIn", desc := "([ZI)Z" } : Jvm.MethodName) prog_24_method_17_code (2 : Nat) (Option.some Jvm.ClassFile.FieldType.boolean)).before args0 about1 = true := code_word (m := ⟨2, 0⟩) (meth := k2m0) (c := k2c0) (by decide +kernel) rfl rfl rfl (by decide +kernel)
def codes1 : List Jvm.Cond := [Jvm.Cond.code x code maxLocals ret, Jvm.Cond.code ({ cls := "com/example/vernum/vernum/VersionScannerIsInPinLaw", name := "bit", desc := "(II)Z" } : Jvm.MethodName) method_2_code (2 : Nat) (Option.some Jvm.ClassFile.FieldType.boolean), Jvm.Cond.code ({ cls := "com/example/vernum/vernum/VersionScanner", name := "isIn", desc := "([ZI)Z" } : Jvm.MethodName) prog_24_method_17_code (2 : Nat) (Option.some Jvm.ClassFile.FieldType.boolean)]
set_option maxRecDepth 65536 in
theorem codes_eq : words1.filter isCode = codes1 := rfl
theorem w_codes : ∀ c ∈ words1.filter isCode, c.before args0 about1 = true := by
  rw [codes_eq]
  intro c hc
  simp only [codes1, List.mem_cons, List.not_mem_nil, or_false] at hc
  rcases hc with rfl | rfl | rfl
  · exact w_c0
  · exact w_c1
  · exact w_c2
set_option maxRecDepth 65536 in
theorem w_t1 : words1.all (fun c => isCode c || c.before args0 about1) = true := by decide +kernel
theorem w_tables : (allAtoms (Jvm.Cond.code x code maxLocals ret :: tables_1)).before args0 about1 = true := by
  rw [allAtoms_all]
  show words1.all (fun c => c.before args0 about1) = true
  refine all_split ?_ w_codes
  rw [w_t1]
set_option maxRecDepth 65536 in
theorem w_case : (Jvm.Cond.and given_1 narrow_1).before args0 about1 = true := by decide +kernel
theorem w_applies : (headSpec (Jvm.Cond.code x code maxLocals ret :: tables_1) room_1).applies x e0.platform about1 = true :=
  (Spec.applies_iff w_frames).mpr ⟨w_running, w_runnable, w_alone, w_named, w_hears, w_ripe, w_room, w_tables⟩
theorem atStart : AtStart classFile x code maxLocals ret World_1 tables_1 room_1 Calls_1 rest_1 Pre_1 launch0 p0 e0 about1 theMethod args0 below0 :=
  ⟨lists_1, trivial, launch0.admits_env _ _ _, launch0.least_env, fairChoices_fair.cas, fairChoices_fair.clock, w_frames, w_args, w_heap, w_applies, trivial, trivial, w_case⟩
end start1
theorem witness_1 : WitnessClaimed_1 := ⟨start1.p0, start1.e0, start1.about1, start1.theMethod, start1.args0, start1.below0, start1.atStart⟩
end Jvm.Pilot.@@N@@
