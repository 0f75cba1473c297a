import JvmDerived
import JvmDerived.Pilot.@@N@@Statement
import JvmDerived.Pilot.@@N@@Code
set_option linter.unusedVariables false
set_option linter.unusedSimpArgs false
namespace Jvm.RoadKit
open Sem ClassFile Op Lib Jvm.Stand Jvm.Free Jvm.LawKit
section New
variable {p : Program} {l : Launch} {e : Env} {R : Room} {s : State} {m : MethodId} {args : Array Value} {below : List Frame} {meth : Method} {c : Code} {T : State} {locs : List Loc} {cells slots : Nat}
theorem retI (X : Stand p l e R s m args below meth c T locs cells slots) (hx : p.tables.exec = Jvm.exec) {pc : Nat} {Ls : Array Slot} {z : Int32} {rest : List Value} (hret : meth.sig.returnType = some .int) (hd : decode c.code pc = .ok (.ireturn, 1)) {fs : List Frame}
    (hl : ∀ (f : JFrame) (acts : List Action), f.method = m → f.locked = none → f.entered = [] → (doReturn e (T.setTop f) acts (some (.int z))).1 = T.setFrames fs) : Steps p.tables e below (T.setTop (mkF m pc Ls (.int z :: rest))) (T.setFrames fs) := by
  have hm' : T.vm.method? m = some meth := X.method'
  have hn : narrow .int (.int z) = .int z := rfl
  show Steps p.tables e below (T.setTop { method := m, pc := pc, locals := Ls, stack := _ :: rest, locked := none }) _
  jvm_step X.here [X.here.top, hx, hd, hm', hret, hn]
  first | (intro acts; rw [hl _ acts rfl rfl rfl]) | rw [hl _ _ rfl rfl rfl]
  exact Steps.refl _
theorem own_retA (X : Stand p l e R s m args below meth c T locs cells slots) (hx : p.tables.exec = Jvm.exec) {pc : Nat} {Ls : Array Slot} {w : Value} {t : FieldType} {rest : List Value} (hret : meth.sig.returnType = some t) (ht : t.isReference = true) (hw : w.isRef = true) (hd : decode c.code pc = .ok (.areturn, 1)) {fs : List Frame}
    (hl : ∀ (f : JFrame) (acts : List Action), f.method = m → f.locked = none → f.entered = [] → (doReturn e (T.setTop f) acts (some w)).1 = T.setFrames fs) : Steps p.tables e below (T.setTop (mkF m pc Ls (w :: rest))) (T.setFrames fs) := by
  have hm' : T.vm.method? m = some meth := X.method'
  rcases ref_cases hw with rfl | ⟨z, rfl⟩
  all_goals
    show Steps p.tables e below (T.setTop { method := m, pc := pc, locals := Ls, stack := _ :: rest, locked := none }) _
    jvm_step X.here [X.here.top, hx, hd, hm', hret, Value.isRef]
    try (refine ⟨ht, ?_⟩)
    first | (intro acts; rw [hl _ acts rfl rfl rfl]) | rw [hl _ _ rfl rfl rfl]
    exact Steps.refl _
end New
/-- from U the run comes to an end of which P tells -/
def own_Go (tb : Tables) (e : Env) (below : List Frame) (P : Outcome → State → Prop) (U : State) : Prop := ∃ s₂ o, Steps tb e below U s₂ ∧ s₂.status = .running ∧ Ended s₂ below o ∧ P o s₂
theorem own_st {tb : Tables} {e : Env} {below : List Frame} {P : Outcome → State → Prop} {U V : State} (h : ∀ t, Steps tb e below V t → Steps tb e below U t) (g : own_Go tb e below P V) : own_Go tb e below P U := by
  obtain ⟨s₂, o, h1, r⟩ := g
  exact ⟨s₂, o, h _ h1, r⟩
theorem own_tr {tb : Tables} {e : Env} {below : List Frame} {P : Outcome → State → Prop} {U V : State} (h : Steps tb e below U V) (g : own_Go tb e below P V) : own_Go tb e below P U := by
  obtain ⟨s₂, o, h1, r⟩ := g
  exact ⟨s₂, o, h.trans h1, r⟩
theorem own_end {p : Program} {l : Launch} {e : Env} {R : Room} {s : State} {m : MethodId} {args : Array Value} {below : List Frame} {meth : Method} {c : Code} {T : State} {locs : List Loc} {cells slots : Nat} (X : Stand p l e R s m args below meth c T locs cells slots) {h : Heap} (eT : T.heap = h) {v : Option Value} (hv : meth.sig.returnType = none → v = none) (hlk : meth.locks = false) {g : JFrame}
    (hst : ∀ fs, (∀ (f : JFrame) (acts : List Action), f.method = m → f.locked = none → f.entered = [] → (doReturn e (T.setTop f) acts v).1 = T.setFrames fs) → Steps p.tables e below (T.setTop g) (T.setFrames fs))
    {Q : Option Value → Heap → List Loc → Prop} (hQ : Q v h locs) {cc ss : Nat} (hc : cells ≤ cc) (hs : slots ≤ ss) :
    own_Go p.tables e below (fun o U' => ∃ v L, o = .returned v ∧ Q v U'.heap L ∧ FrameEnd s o U' L cc ss) (T.setTop g) := by
  subst eT
  obtain ⟨fs, hr, hrun, hended, hW, hsame⟩ := X.leave (v := v) hv hlk
  exact ⟨_, _, hst fs hr, hrun, hended, _, _, rfl, hQ, ⟨_, rfl⟩, hW, hsame.mono hc hs⟩
section Steps2
variable {p : Program} {l : Launch} {e : Env} {R : Room} {s : State} {m : MethodId} {args : Array Value} {below : List Frame} {meth : Method} {c : Code} {T : State} {locs : List Loc} {cells slots : Nat} {P : Outcome → State → Prop} {pc : Nat} {Ls : Array Slot} {st : List Value}
theorem o_iloadN (X : Stand p l e R s m args below meth c T locs cells slots) (hx : p.tables.exec = Jvm.exec) {k : Fin 4} {v : Int32} (hd : decode c.code pc = .ok (.iload_n k, 1)) (hl : Ls[k.val]? = some (.val (.int v))) (g : own_Go p.tables e below P (T.setTop (mkF m (pc + 1) Ls (.int v :: st)))) : own_Go p.tables e below P (T.setTop (mkF m pc Ls st)) := own_st (fun t k => XS.iloadN X.here hx rfl hd hl k) g
theorem o_iload (X : Stand p l e R s m args below meth c T locs cells slots) (hx : p.tables.exec = Jvm.exec) {k : Nat} {v : Int32} (hd : decode c.code pc = .ok (.iload k, 2)) (hl : Ls[k]? = some (.val (.int v))) (g : own_Go p.tables e below P (T.setTop (mkF m (pc + 2) Ls (.int v :: st)))) : own_Go p.tables e below P (T.setTop (mkF m pc Ls st)) := own_st (fun t k => XS.iload X.here hx rfl hd hl k) g
theorem o_lloadN (X : Stand p l e R s m args below meth c T locs cells slots) (hx : p.tables.exec = Jvm.exec) {k : Fin 4} {v : Int64} (hd : decode c.code pc = .ok (.lload_n k, 1)) (hl : Ls[k.val]? = some (.val (.long v))) (g : own_Go p.tables e below P (T.setTop (mkF m (pc + 1) Ls (.long v :: st)))) : own_Go p.tables e below P (T.setTop (mkF m pc Ls st)) := own_st (fun t k => XS.lloadN X.here hx rfl hd hl k) g
theorem o_lload (X : Stand p l e R s m args below meth c T locs cells slots) (hx : p.tables.exec = Jvm.exec) {k : Nat} {v : Int64} (hd : decode c.code pc = .ok (.lload k, 2)) (hl : Ls[k]? = some (.val (.long v))) (g : own_Go p.tables e below P (T.setTop (mkF m (pc + 2) Ls (.long v :: st)))) : own_Go p.tables e below P (T.setTop (mkF m pc Ls st)) := own_st (fun t k => XS.lload X.here hx rfl hd hl k) g
theorem o_aloadN (X : Stand p l e R s m args below meth c T locs cells slots) (hx : p.tables.exec = Jvm.exec) {k : Fin 4} {v : Value} (hd : decode c.code pc = .ok (.aload_n k, 1)) (hl : Ls[k.val]? = some (.val v)) (hv : v.isRef = true) (g : own_Go p.tables e below P (T.setTop (mkF m (pc + 1) Ls (v :: st)))) : own_Go p.tables e below P (T.setTop (mkF m pc Ls st)) := own_st (fun t k => XS.aloadN X.here hx rfl hd hl hv k) g
theorem o_aload (X : Stand p l e R s m args below meth c T locs cells slots) (hx : p.tables.exec = Jvm.exec) {k : Nat} {v : Value} (hd : decode c.code pc = .ok (.aload k, 2)) (hl : Ls[k]? = some (.val v)) (hv : v.isRef = true) (g : own_Go p.tables e below P (T.setTop (mkF m (pc + 2) Ls (v :: st)))) : own_Go p.tables e below P (T.setTop (mkF m pc Ls st)) := own_st (fun t k => XS.aload X.here hx rfl hd hl hv k) g
theorem o_istoreN (X : Stand p l e R s m args below meth c T locs cells slots) (hx : p.tables.exec = Jvm.exec) {k : Fin 4} {v : Int32} {l' : Array Slot} (hd : decode c.code pc = .ok (.istore_n k, 1)) (hl : storeLocals Ls k.val (.int v) = some l') (g : own_Go p.tables e below P (T.setTop (mkF m (pc + 1) l' st))) : own_Go p.tables e below P (T.setTop (mkF m pc Ls (.int v :: st))) := own_st (fun t k => XS.istoreN X.here hx rfl hd rfl hl k) g
theorem o_istore (X : Stand p l e R s m args below meth c T locs cells slots) (hx : p.tables.exec = Jvm.exec) {k : Nat} {v : Int32} {l' : Array Slot} (hd : decode c.code pc = .ok (.istore k, 2)) (hl : storeLocals Ls k (.int v) = some l') (g : own_Go p.tables e below P (T.setTop (mkF m (pc + 2) l' st))) : own_Go p.tables e below P (T.setTop (mkF m pc Ls (.int v :: st))) := own_st (fun t k => XS.istore X.here hx rfl hd rfl hl k) g
theorem o_lstoreN (X : Stand p l e R s m args below meth c T locs cells slots) (hx : p.tables.exec = Jvm.exec) {k : Fin 4} {v : Int64} {l' : Array Slot} (hd : decode c.code pc = .ok (.lstore_n k, 1)) (hl : storeLocals Ls k.val (.long v) = some l') (g : own_Go p.tables e below P (T.setTop (mkF m (pc + 1) l' st))) : own_Go p.tables e below P (T.setTop (mkF m pc Ls (.long v :: st))) := own_st (fun t k => XS.lstoreN X.here hx rfl hd rfl hl k) g
theorem o_lstore (X : Stand p l e R s m args below meth c T locs cells slots) (hx : p.tables.exec = Jvm.exec) {k : Nat} {v : Int64} {l' : Array Slot} (hd : decode c.code pc = .ok (.lstore k, 2)) (hl : storeLocals Ls k (.long v) = some l') (g : own_Go p.tables e below P (T.setTop (mkF m (pc + 2) l' st))) : own_Go p.tables e below P (T.setTop (mkF m pc Ls (.long v :: st))) := own_st (fun t k => XS.lstore X.here hx rfl hd rfl hl k) g
theorem o_astoreN (X : Stand p l e R s m args below meth c T locs cells slots) (hx : p.tables.exec = Jvm.exec) {k : Fin 4} {v : Value} {l' : Array Slot} (hd : decode c.code pc = .ok (.astore_n k, 1)) (hv : v.isRef = true) (hl : storeLocals Ls k.val v = some l') (g : own_Go p.tables e below P (T.setTop (mkF m (pc + 1) l' st))) : own_Go p.tables e below P (T.setTop (mkF m pc Ls (v :: st))) := own_st (fun t k => XS.astoreN X.here hx rfl hd rfl hv hl k) g
theorem o_astore (X : Stand p l e R s m args below meth c T locs cells slots) (hx : p.tables.exec = Jvm.exec) {k : Nat} {v : Value} {l' : Array Slot} (hd : decode c.code pc = .ok (.astore k, 2)) (hv : v.isRef = true) (hl : storeLocals Ls k v = some l') (g : own_Go p.tables e below P (T.setTop (mkF m (pc + 2) l' st))) : own_Go p.tables e below P (T.setTop (mkF m pc Ls (v :: st))) := own_st (fun t k => XS.astore X.here hx rfl hd rfl hv hl k) g
theorem o_iconst (X : Stand p l e R s m args below meth c T locs cells slots) (hx : p.tables.exec = Jvm.exec) {i : Int} (z : Int32) (hd : decode c.code pc = .ok (.iconst i, 1)) (hz : Int32.ofInt i = z) (g : own_Go p.tables e below P (T.setTop (mkF m (pc + 1) Ls (.int z :: st)))) : own_Go p.tables e below P (T.setTop (mkF m pc Ls st)) := by subst hz; exact own_st (fun t k => XS.iconst X.here hx rfl hd k) g
theorem o_bipush (X : Stand p l e R s m args below meth c T locs cells slots) (hx : p.tables.exec = Jvm.exec) {i : Int} (z : Int32) (hd : decode c.code pc = .ok (.bipush i, 2)) (hz : (Int8.ofInt i).toInt32 = z) (g : own_Go p.tables e below P (T.setTop (mkF m (pc + 2) Ls (.int z :: st)))) : own_Go p.tables e below P (T.setTop (mkF m pc Ls st)) := by subst hz; exact own_st (fun t k => XS.bipush X.here hx rfl hd k) g
theorem o_sipush (X : Stand p l e R s m args below meth c T locs cells slots) (hx : p.tables.exec = Jvm.exec) {i : Int} (z : Int32) (hd : decode c.code pc = .ok (.sipush i, 3)) (hz : (Int16.ofInt i).toInt32 = z) (g : own_Go p.tables e below P (T.setTop (mkF m (pc + 3) Ls (.int z :: st)))) : own_Go p.tables e below P (T.setTop (mkF m pc Ls st)) := by subst hz; exact own_st (fun t k => XS.sipush X.here hx rfl hd k) g
theorem o_lconst (X : Stand p l e R s m args below meth c T locs cells slots) (hx : p.tables.exec = Jvm.exec) {i : Fin 2} (z : Int64) (hd : decode c.code pc = .ok (.lconst i, 1)) (hz : Int64.ofNat i = z) (g : own_Go p.tables e below P (T.setTop (mkF m (pc + 1) Ls (.long z :: st)))) : own_Go p.tables e below P (T.setTop (mkF m pc Ls st)) := by subst hz; exact own_st (fun t k => XS.lconst X.here hx rfl hd k) g
theorem o_aconstNull (X : Stand p l e R s m args below meth c T locs cells slots) (hx : p.tables.exec = Jvm.exec) (hd : decode c.code pc = .ok (.aconst_null, 1)) (g : own_Go p.tables e below P (T.setTop (mkF m (pc + 1) Ls (.null :: st)))) : own_Go p.tables e below P (T.setTop (mkF m pc Ls st)) := own_st (fun t k => XS.aconstNull X.here hx rfl hd k) g
theorem o_iadd (X : Stand p l e R s m args below meth c T locs cells slots) (hx : p.tables.exec = Jvm.exec) {x y : Int32} (hd : decode c.code pc = .ok (.iadd, 1)) (g : own_Go p.tables e below P (T.setTop (mkF m (pc + 1) Ls (.int (x + y) :: st)))) : own_Go p.tables e below P (T.setTop (mkF m pc Ls (.int y :: .int x :: st))) := own_st (fun t k => XS.iadd X.here hx rfl hd rfl k) g
theorem o_ladd (X : Stand p l e R s m args below meth c T locs cells slots) (hx : p.tables.exec = Jvm.exec) {x y : Int64} (hd : decode c.code pc = .ok (.ladd, 1)) (g : own_Go p.tables e below P (T.setTop (mkF m (pc + 1) Ls (.long (x + y) :: st)))) : own_Go p.tables e below P (T.setTop (mkF m pc Ls (.long y :: .long x :: st))) := own_st (fun t k => XS.ladd X.here hx rfl hd rfl k) g
theorem o_isub (X : Stand p l e R s m args below meth c T locs cells slots) (hx : p.tables.exec = Jvm.exec) {x y : Int32} (hd : decode c.code pc = .ok (.isub, 1)) (g : own_Go p.tables e below P (T.setTop (mkF m (pc + 1) Ls (.int (x - y) :: st)))) : own_Go p.tables e below P (T.setTop (mkF m pc Ls (.int y :: .int x :: st))) := own_st (fun t k => XS.isub X.here hx rfl hd rfl k) g
theorem o_lsub (X : Stand p l e R s m args below meth c T locs cells slots) (hx : p.tables.exec = Jvm.exec) {x y : Int64} (hd : decode c.code pc = .ok (.lsub, 1)) (g : own_Go p.tables e below P (T.setTop (mkF m (pc + 1) Ls (.long (x - y) :: st)))) : own_Go p.tables e below P (T.setTop (mkF m pc Ls (.long y :: .long x :: st))) := own_st (fun t k => XS.lsub X.here hx rfl hd rfl k) g
theorem o_imul (X : Stand p l e R s m args below meth c T locs cells slots) (hx : p.tables.exec = Jvm.exec) {x y : Int32} (hd : decode c.code pc = .ok (.imul, 1)) (g : own_Go p.tables e below P (T.setTop (mkF m (pc + 1) Ls (.int (x * y) :: st)))) : own_Go p.tables e below P (T.setTop (mkF m pc Ls (.int y :: .int x :: st))) := own_st (fun t k => XS.imul X.here hx rfl hd rfl k) g
theorem o_lmul (X : Stand p l e R s m args below meth c T locs cells slots) (hx : p.tables.exec = Jvm.exec) {x y : Int64} (hd : decode c.code pc = .ok (.lmul, 1)) (g : own_Go p.tables e below P (T.setTop (mkF m (pc + 1) Ls (.long (x * y) :: st)))) : own_Go p.tables e below P (T.setTop (mkF m pc Ls (.long y :: .long x :: st))) := own_st (fun t k => XS.lmul X.here hx rfl hd rfl k) g
theorem o_iand (X : Stand p l e R s m args below meth c T locs cells slots) (hx : p.tables.exec = Jvm.exec) {x y : Int32} (hd : decode c.code pc = .ok (.iand, 1)) (g : own_Go p.tables e below P (T.setTop (mkF m (pc + 1) Ls (.int (x &&& y) :: st)))) : own_Go p.tables e below P (T.setTop (mkF m pc Ls (.int y :: .int x :: st))) := own_st (fun t k => XS.iand X.here hx rfl hd rfl k) g
theorem o_land (X : Stand p l e R s m args below meth c T locs cells slots) (hx : p.tables.exec = Jvm.exec) {x y : Int64} (hd : decode c.code pc = .ok (.land, 1)) (g : own_Go p.tables e below P (T.setTop (mkF m (pc + 1) Ls (.long (x &&& y) :: st)))) : own_Go p.tables e below P (T.setTop (mkF m pc Ls (.long y :: .long x :: st))) := own_st (fun t k => XS.land X.here hx rfl hd rfl k) g
theorem o_ior (X : Stand p l e R s m args below meth c T locs cells slots) (hx : p.tables.exec = Jvm.exec) {x y : Int32} (hd : decode c.code pc = .ok (.ior, 1)) (g : own_Go p.tables e below P (T.setTop (mkF m (pc + 1) Ls (.int (x ||| y) :: st)))) : own_Go p.tables e below P (T.setTop (mkF m pc Ls (.int y :: .int x :: st))) := own_st (fun t k => XS.ior X.here hx rfl hd rfl k) g
theorem o_lor (X : Stand p l e R s m args below meth c T locs cells slots) (hx : p.tables.exec = Jvm.exec) {x y : Int64} (hd : decode c.code pc = .ok (.lor, 1)) (g : own_Go p.tables e below P (T.setTop (mkF m (pc + 1) Ls (.long (x ||| y) :: st)))) : own_Go p.tables e below P (T.setTop (mkF m pc Ls (.long y :: .long x :: st))) := own_st (fun t k => XS.lor X.here hx rfl hd rfl k) g
theorem o_ixor (X : Stand p l e R s m args below meth c T locs cells slots) (hx : p.tables.exec = Jvm.exec) {x y : Int32} (hd : decode c.code pc = .ok (.ixor, 1)) (g : own_Go p.tables e below P (T.setTop (mkF m (pc + 1) Ls (.int (x ^^^ y) :: st)))) : own_Go p.tables e below P (T.setTop (mkF m pc Ls (.int y :: .int x :: st))) := own_st (fun t k => XS.ixor X.here hx rfl hd rfl k) g
theorem o_lxor (X : Stand p l e R s m args below meth c T locs cells slots) (hx : p.tables.exec = Jvm.exec) {x y : Int64} (hd : decode c.code pc = .ok (.lxor, 1)) (g : own_Go p.tables e below P (T.setTop (mkF m (pc + 1) Ls (.long (x ^^^ y) :: st)))) : own_Go p.tables e below P (T.setTop (mkF m pc Ls (.long y :: .long x :: st))) := own_st (fun t k => XS.lxor X.here hx rfl hd rfl k) g
theorem o_idiv (X : Stand p l e R s m args below meth c T locs cells slots) (hx : p.tables.exec = Jvm.exec) {x y : Int32} (hd : decode c.code pc = .ok (.idiv, 1)) (hy : y ≠ 0) (g : own_Go p.tables e below P (T.setTop (mkF m (pc + 1) Ls (.int (x / y) :: st)))) : own_Go p.tables e below P (T.setTop (mkF m pc Ls (.int y :: .int x :: st))) := own_st (fun t k => XS.idiv X.here hx rfl hd rfl hy k) g
theorem o_irem (X : Stand p l e R s m args below meth c T locs cells slots) (hx : p.tables.exec = Jvm.exec) {x y : Int32} (hd : decode c.code pc = .ok (.irem, 1)) (hy : y ≠ 0) (g : own_Go p.tables e below P (T.setTop (mkF m (pc + 1) Ls (.int (x - x / y * y) :: st)))) : own_Go p.tables e below P (T.setTop (mkF m pc Ls (.int y :: .int x :: st))) := own_st (fun t k => XS.irem X.here hx rfl hd rfl hy k) g
theorem o_ldiv (X : Stand p l e R s m args below meth c T locs cells slots) (hx : p.tables.exec = Jvm.exec) {x y : Int64} (hd : decode c.code pc = .ok (.ldiv, 1)) (hy : y ≠ 0) (g : own_Go p.tables e below P (T.setTop (mkF m (pc + 1) Ls (.long (x / y) :: st)))) : own_Go p.tables e below P (T.setTop (mkF m pc Ls (.long y :: .long x :: st))) := own_st (fun t k => XS.ldiv X.here hx rfl hd rfl hy k) g
theorem o_lrem (X : Stand p l e R s m args below meth c T locs cells slots) (hx : p.tables.exec = Jvm.exec) {x y : Int64} (hd : decode c.code pc = .ok (.lrem, 1)) (hy : y ≠ 0) (g : own_Go p.tables e below P (T.setTop (mkF m (pc + 1) Ls (.long (x - x / y * y) :: st)))) : own_Go p.tables e below P (T.setTop (mkF m pc Ls (.long y :: .long x :: st))) := own_st (fun t k => XS.lrem X.here hx rfl hd rfl hy k) g
theorem o_ineg (X : Stand p l e R s m args below meth c T locs cells slots) (hx : p.tables.exec = Jvm.exec) {x : Int32} (hd : decode c.code pc = .ok (.ineg, 1)) (g : own_Go p.tables e below P (T.setTop (mkF m (pc + 1) Ls (.int ((-x)) :: st)))) : own_Go p.tables e below P (T.setTop (mkF m pc Ls (.int x :: st))) := own_st (fun t k => XS.ineg X.here hx rfl hd rfl k) g
theorem o_lneg (X : Stand p l e R s m args below meth c T locs cells slots) (hx : p.tables.exec = Jvm.exec) {x : Int64} (hd : decode c.code pc = .ok (.lneg, 1)) (g : own_Go p.tables e below P (T.setTop (mkF m (pc + 1) Ls (.long ((-x)) :: st)))) : own_Go p.tables e below P (T.setTop (mkF m pc Ls (.long x :: st))) := own_st (fun t k => XS.lneg X.here hx rfl hd rfl k) g
theorem o_i2l (X : Stand p l e R s m args below meth c T locs cells slots) (hx : p.tables.exec = Jvm.exec) {x : Int32} (hd : decode c.code pc = .ok (.i2l, 1)) (g : own_Go p.tables e below P (T.setTop (mkF m (pc + 1) Ls (.long (x.toInt64) :: st)))) : own_Go p.tables e below P (T.setTop (mkF m pc Ls (.int x :: st))) := own_st (fun t k => XS.i2l X.here hx rfl hd rfl k) g
theorem o_l2i (X : Stand p l e R s m args below meth c T locs cells slots) (hx : p.tables.exec = Jvm.exec) {x : Int64} (hd : decode c.code pc = .ok (.l2i, 1)) (g : own_Go p.tables e below P (T.setTop (mkF m (pc + 1) Ls (.int (x.toInt32) :: st)))) : own_Go p.tables e below P (T.setTop (mkF m pc Ls (.long x :: st))) := own_st (fun t k => XS.l2i X.here hx rfl hd rfl k) g
theorem o_i2b (X : Stand p l e R s m args below meth c T locs cells slots) (hx : p.tables.exec = Jvm.exec) {x : Int32} (hd : decode c.code pc = .ok (.i2b, 1)) (g : own_Go p.tables e below P (T.setTop (mkF m (pc + 1) Ls (.int (x.toInt8.toInt32) :: st)))) : own_Go p.tables e below P (T.setTop (mkF m pc Ls (.int x :: st))) := own_st (fun t k => XS.i2b X.here hx rfl hd rfl k) g
theorem o_i2s (X : Stand p l e R s m args below meth c T locs cells slots) (hx : p.tables.exec = Jvm.exec) {x : Int32} (hd : decode c.code pc = .ok (.i2s, 1)) (g : own_Go p.tables e below P (T.setTop (mkF m (pc + 1) Ls (.int (x.toInt16.toInt32) :: st)))) : own_Go p.tables e below P (T.setTop (mkF m pc Ls (.int x :: st))) := own_st (fun t k => XS.i2s X.here hx rfl hd rfl k) g
theorem o_i2c (X : Stand p l e R s m args below meth c T locs cells slots) (hx : p.tables.exec = Jvm.exec) {x : Int32} (hd : decode c.code pc = .ok (.i2c, 1)) (g : own_Go p.tables e below P (T.setTop (mkF m (pc + 1) Ls (.int (x.toUInt32.toUInt16.toUInt32.toInt32) :: st)))) : own_Go p.tables e below P (T.setTop (mkF m pc Ls (.int x :: st))) := own_st (fun t k => XS.i2c X.here hx rfl hd rfl k) g
theorem o_ishl (X : Stand p l e R s m args below meth c T locs cells slots) (hx : p.tables.exec = Jvm.exec) {x : Int32} {y : Int32} (hd : decode c.code pc = .ok (.ishl, 1)) (g : own_Go p.tables e below P (T.setTop (mkF m (pc + 1) Ls (.int (x <<< (y &&& 31)) :: st)))) : own_Go p.tables e below P (T.setTop (mkF m pc Ls (.int y :: .int x :: st))) := own_st (fun t k => XS.ishl X.here hx rfl hd rfl k) g
theorem o_ishr (X : Stand p l e R s m args below meth c T locs cells slots) (hx : p.tables.exec = Jvm.exec) {x : Int32} {y : Int32} (hd : decode c.code pc = .ok (.ishr, 1)) (g : own_Go p.tables e below P (T.setTop (mkF m (pc + 1) Ls (.int (x >>> (y &&& 31)) :: st)))) : own_Go p.tables e below P (T.setTop (mkF m pc Ls (.int y :: .int x :: st))) := own_st (fun t k => XS.ishr X.here hx rfl hd rfl k) g
theorem o_iushr (X : Stand p l e R s m args below meth c T locs cells slots) (hx : p.tables.exec = Jvm.exec) {x : Int32} {y : Int32} (hd : decode c.code pc = .ok (.iushr, 1)) (g : own_Go p.tables e below P (T.setTop (mkF m (pc + 1) Ls (.int ((x.toUInt32 >>> (y &&& 31).toUInt32).toInt32) :: st)))) : own_Go p.tables e below P (T.setTop (mkF m pc Ls (.int y :: .int x :: st))) := own_st (fun t k => XS.iushr X.here hx rfl hd rfl k) g
theorem o_lshl (X : Stand p l e R s m args below meth c T locs cells slots) (hx : p.tables.exec = Jvm.exec) {x : Int64} {y : Int32} (hd : decode c.code pc = .ok (.lshl, 1)) (g : own_Go p.tables e below P (T.setTop (mkF m (pc + 1) Ls (.long (x <<< (y &&& 0x3f).toInt64) :: st)))) : own_Go p.tables e below P (T.setTop (mkF m pc Ls (.int y :: .long x :: st))) := own_st (fun t k => XS.lshl X.here hx rfl hd rfl k) g
theorem o_lshr (X : Stand p l e R s m args below meth c T locs cells slots) (hx : p.tables.exec = Jvm.exec) {x : Int64} {y : Int32} (hd : decode c.code pc = .ok (.lshr, 1)) (g : own_Go p.tables e below P (T.setTop (mkF m (pc + 1) Ls (.long (x >>> (y &&& 0x3f).toInt64) :: st)))) : own_Go p.tables e below P (T.setTop (mkF m pc Ls (.int y :: .long x :: st))) := own_st (fun t k => XS.lshr X.here hx rfl hd rfl k) g
theorem o_lushr (X : Stand p l e R s m args below meth c T locs cells slots) (hx : p.tables.exec = Jvm.exec) {x : Int64} {y : Int32} (hd : decode c.code pc = .ok (.lushr, 1)) (g : own_Go p.tables e below P (T.setTop (mkF m (pc + 1) Ls (.long ((x.toUInt64 >>> (y &&& 0x3f).toInt64.toUInt64).toInt64) :: st)))) : own_Go p.tables e below P (T.setTop (mkF m pc Ls (.int y :: .long x :: st))) := own_st (fun t k => XS.lushr X.here hx rfl hd rfl k) g
theorem o_lcmp (X : Stand p l e R s m args below meth c T locs cells slots) (hx : p.tables.exec = Jvm.exec) {x y : Int64} (hd : decode c.code pc = .ok (.lcmp, 1)) (g : own_Go p.tables e below P (T.setTop (mkF m (pc + 1) Ls (.int (lcmpW x y) :: st)))) : own_Go p.tables e below P (T.setTop (mkF m pc Ls (.long y :: .long x :: st))) := own_st (fun t k => XS.lcmp X.here hx rfl hd rfl k) g
theorem o_iinc (X : Stand p l e R s m args below meth c T locs cells slots) (hx : p.tables.exec = Jvm.exec) {k : Nat} {cst : Int} {x : Int32} {l' : Array Slot} (hd : decode c.code pc = .ok (.iinc k cst, 3)) (hl : Ls[k]? = some (.val (.int x))) (hl' : storeLocals Ls k (.int (x + Int32.ofInt cst)) = some l') (g : own_Go p.tables e below P (T.setTop (mkF m (pc + 3) l' st))) : own_Go p.tables e below P (T.setTop (mkF m pc Ls st)) := own_st (fun t k => XS.iinc X.here hx rfl hd hl hl' k) g
theorem o_dup (X : Stand p l e R s m args below meth c T locs cells slots) (hx : p.tables.exec = Jvm.exec) {x : Value} (hd : decode c.code pc = .ok (.dup, 1)) (hc : x.category = 1) (g : own_Go p.tables e below P (T.setTop (mkF m (pc + 1) Ls (x :: x :: st)))) : own_Go p.tables e below P (T.setTop (mkF m pc Ls (x :: st))) := own_st (fun t k => XS.dup X.here hx rfl hd rfl hc k) g
theorem o_pop (X : Stand p l e R s m args below meth c T locs cells slots) (hx : p.tables.exec = Jvm.exec) {x : Value} (hd : decode c.code pc = .ok (.pop, 1)) (hc : x.category = 1) (g : own_Go p.tables e below P (T.setTop (mkF m (pc + 1) Ls st))) : own_Go p.tables e below P (T.setTop (mkF m pc Ls (x :: st))) := own_st (fun t k => XS.pop X.here hx rfl hd rfl hc k) g
theorem o_dupX1 (X : Stand p l e R s m args below meth c T locs cells slots) (hx : p.tables.exec = Jvm.exec) {x y : Value} (hd : decode c.code pc = .ok (.dup_x1, 1)) (hc : x.category = 1) (hc' : y.category = 1) (g : own_Go p.tables e below P (T.setTop (mkF m (pc + 1) Ls (x :: y :: x :: st)))) : own_Go p.tables e below P (T.setTop (mkF m pc Ls (x :: y :: st))) := own_st (fun t k => XS.dupX1 X.here hx rfl hd rfl hc hc' k) g
theorem o_dup2 (X : Stand p l e R s m args below meth c T locs cells slots) (hx : p.tables.exec = Jvm.exec) {x y : Value} (hd : decode c.code pc = .ok (.dup2, 1)) (hc : x.category = 1) (hc' : y.category = 1) (g : own_Go p.tables e below P (T.setTop (mkF m (pc + 1) Ls (x :: y :: x :: y :: st)))) : own_Go p.tables e below P (T.setTop (mkF m pc Ls (x :: y :: st))) := own_st (fun t k => Jvm.Free.XT.dup2 X.here hx rfl hd rfl hc hc' k) g
theorem o_goto (X : Stand p l e R s m args below meth c T locs cells slots) (hx : p.tables.exec = Jvm.exec) {o : Int} {pc' : Nat} (hd : decode c.code pc = .ok (.goto o, 3)) (ho : 0 ≤ (pc : Int) + o) (hp : ((pc : Int) + o).toNat = pc') (g : own_Go p.tables e below P (T.setTop (mkF m pc' Ls st))) : own_Go p.tables e below P (T.setTop (mkF m pc Ls st)) := own_st (fun t k => XS.goto X.here hx rfl rfl hd ho hp k) g
theorem o_ifYes (X : Stand p l e R s m args below meth c T locs cells slots) (hx : p.tables.exec = Jvm.exec) {cd : ClassFile.Cond} {x : Int32} {o : Int} {pc' : Nat} (hd : decode c.code pc = .ok (.ifCond cd o, 3)) (hc : if_icmp.holds cd x 0 = true) (ho : 0 ≤ (pc : Int) + o) (hp : ((pc : Int) + o).toNat = pc') (g : own_Go p.tables e below P (T.setTop (mkF m pc' Ls st))) : own_Go p.tables e below P (T.setTop (mkF m pc Ls (.int x :: st))) := own_st (fun t k => XS.ifYes X.here hx rfl rfl hd rfl ((if0 _ _).trans hc) ho hp k) g
theorem o_ifNo (X : Stand p l e R s m args below meth c T locs cells slots) (hx : p.tables.exec = Jvm.exec) {cd : ClassFile.Cond} {x : Int32} {o : Int} (hd : decode c.code pc = .ok (.ifCond cd o, 3)) (hc : if_icmp.holds cd x 0 = false) (g : own_Go p.tables e below P (T.setTop (mkF m (pc + 3) Ls st))) : own_Go p.tables e below P (T.setTop (mkF m pc Ls (.int x :: st))) := own_st (fun t k => XS.ifNo X.here hx rfl hd rfl ((if0 _ _).trans hc) k) g
theorem o_icmpYes (X : Stand p l e R s m args below meth c T locs cells slots) (hx : p.tables.exec = Jvm.exec) {cd : ClassFile.Cond} {x y : Int32} {o : Int} {pc' : Nat} (hd : decode c.code pc = .ok (.if_icmp cd o, 3)) (hc : if_icmp.holds cd x y = true) (ho : 0 ≤ (pc : Int) + o) (hp : ((pc : Int) + o).toNat = pc') (g : own_Go p.tables e below P (T.setTop (mkF m pc' Ls st))) : own_Go p.tables e below P (T.setTop (mkF m pc Ls (.int y :: .int x :: st))) := own_st (fun t k => XS.icmpYes X.here hx rfl rfl hd rfl hc ho hp k) g
theorem o_icmpNo (X : Stand p l e R s m args below meth c T locs cells slots) (hx : p.tables.exec = Jvm.exec) {cd : ClassFile.Cond} {x y : Int32} {o : Int} (hd : decode c.code pc = .ok (.if_icmp cd o, 3)) (hc : if_icmp.holds cd x y = false) (g : own_Go p.tables e below P (T.setTop (mkF m (pc + 3) Ls st))) : own_Go p.tables e below P (T.setTop (mkF m pc Ls (.int y :: .int x :: st))) := own_st (fun t k => XS.icmpNo X.here hx rfl hd rfl hc k) g
theorem o_ifnullYes (X : Stand p l e R s m args below meth c T locs cells slots) (hx : p.tables.exec = Jvm.exec) {o : Int} {pc' : Nat} (hd : decode c.code pc = .ok (.ifnull o, 3)) (ho : 0 ≤ (pc : Int) + o) (hp : ((pc : Int) + o).toNat = pc') (g : own_Go p.tables e below P (T.setTop (mkF m pc' Ls st))) : own_Go p.tables e below P (T.setTop (mkF m pc Ls (.null :: st))) := own_st (fun t k => XS.ifnullYes X.here hx rfl rfl hd rfl ho hp k) g
theorem o_ifnullNo (X : Stand p l e R s m args below meth c T locs cells slots) (hx : p.tables.exec = Jvm.exec) {o : Int} {b : Addr} (hd : decode c.code pc = .ok (.ifnull o, 3)) (g : own_Go p.tables e below P (T.setTop (mkF m (pc + 3) Ls st))) : own_Go p.tables e below P (T.setTop (mkF m pc Ls (.ref b :: st))) := own_st (fun t k => XS.ifnullNo X.here hx rfl hd rfl k) g
theorem o_ifnonnullNo (X : Stand p l e R s m args below meth c T locs cells slots) (hx : p.tables.exec = Jvm.exec) {o : Int} (hd : decode c.code pc = .ok (.ifnonnull o, 3)) (g : own_Go p.tables e below P (T.setTop (mkF m (pc + 3) Ls st))) : own_Go p.tables e below P (T.setTop (mkF m pc Ls (.null :: st))) := own_st (fun t k => XS.ifnonnullNo X.here hx rfl hd rfl k) g
theorem o_ifnonnullYes (X : Stand p l e R s m args below meth c T locs cells slots) (hx : p.tables.exec = Jvm.exec) {o : Int} {b : Addr} {pc' : Nat} (hd : decode c.code pc = .ok (.ifnonnull o, 3)) (ho : 0 ≤ (pc : Int) + o) (hp : ((pc : Int) + o).toNat = pc') (g : own_Go p.tables e below P (T.setTop (mkF m pc' Ls st))) : own_Go p.tables e below P (T.setTop (mkF m pc Ls (.ref b :: st))) := own_st (fun t k => XS.ifnonnullYes X.here hx rfl rfl hd rfl ho hp k) g
theorem o_ldc (X : Stand p l e R s m args below meth c T locs cells slots) (hx : p.tables.exec = Jvm.exec) {own : String} {index : Nat} {v : Int32} (hown : s.vm.findClass own = some m.cls) (hd : decode c.code pc = .ok (.ldc index, 2)) (hk : (Cond.constant own index v).before args s = true) (g : own_Go p.tables e below P (T.setTop (mkF m (pc + 2) Ls (.int v :: st)))) : own_Go p.tables e below P (T.setTop (mkF m pc Ls st)) := own_st (X.ldcInt hx hown hk (g := mkF m pc Ls st) rfl hd) g
theorem o_ldc2 (X : Stand p l e R s m args below meth c T locs cells slots) (hx : p.tables.exec = Jvm.exec) {own : String} {index : Nat} {v : Int64} (hown : s.vm.findClass own = some m.cls) (hd : decode c.code pc = .ok (.ldc2_w index, 3)) (hk : (Cond.constantLong own index v).before args s = true) (g : own_Go p.tables e below P (T.setTop (mkF m (pc + 3) Ls (.long v :: st)))) : own_Go p.tables e below P (T.setTop (mkF m pc Ls st)) := own_st (X.ldc2Long hx hown hk (g := mkF m pc Ls st) rfl hd) g
end Steps2
end Jvm.RoadKit
namespace Jvm.Pilot.@@N@@
open Jvm Jvm.ClassFile Sem Op Lib Jvm.Free Jvm.Stand Jvm.LawKit Jvm.RoadKit Bundle Jvm.Pilot.@@N@@.Jvm.D
def own_pick (p1 : Int32) (p2 : Int32) (p3 : Int32) (p4 : Int32)  : Int32 := (if (p4 &&& (3 : Int32)) = (1 : Int32) then p2 else (if (p4 &&& (3 : Int32)) = (2 : Int32) then p3 else p1))
theorem pn_1 : plainName "com/example/ordinance/ordinance/policy/PartFinderBordersPinLaw" = true := by first | (simp [plainName, overriddenIn]; done) | decide +kernel
theorem d1_0 : decode method_3_code 0 = .ok (.iload_n 3, 1) := by decide +kernel
theorem d1_1 : decode method_3_code 1 = .ok (.iconst 3, 1) := by decide +kernel
theorem d1_2 : decode method_3_code 2 = .ok (.iand, 1) := by decide +kernel
theorem d1_3 : decode method_3_code 3 = .ok (.istore 4, 2) := by decide +kernel
theorem d1_5 : decode method_3_code 5 = .ok (.iload 4, 2) := by decide +kernel
theorem d1_7 : decode method_3_code 7 = .ok (.iconst 1, 1) := by decide +kernel
theorem d1_8 : decode method_3_code 8 = .ok (.if_icmp .ne 5, 3) := by decide +kernel
theorem d1_11 : decode method_3_code 11 = .ok (.iload_n 1, 1) := by decide +kernel
theorem d1_12 : decode method_3_code 12 = .ok (.ireturn, 1) := by decide +kernel
theorem d1_13 : decode method_3_code 13 = .ok (.iload 4, 2) := by decide +kernel
theorem d1_15 : decode method_3_code 15 = .ok (.iconst 2, 1) := by decide +kernel
theorem d1_16 : decode method_3_code 16 = .ok (.if_icmp .ne 5, 3) := by decide +kernel
theorem d1_19 : decode method_3_code 19 = .ok (.iload_n 2, 1) := by decide +kernel
theorem d1_20 : decode method_3_code 20 = .ok (.ireturn, 1) := by decide +kernel
theorem d1_21 : decode method_3_code 21 = .ok (.iload_n 0, 1) := by decide +kernel
theorem d1_22 : decode method_3_code 22 = .ok (.ireturn, 1) := by decide +kernel
theorem ef_rm1 (m : MethodId) (p1 : Int32) (p2 : Int32) (p3 : Int32) (p4 : Int32) : entryFrame m #[(.int p1), (.int p2), (.int p3), (.int p4)] 5 = mkF m 0 #[iv p1, iv p2, iv p3, iv p4, .unset] [] := by first | (simp [entryFrame, mkF, argsToLocals, Value.category]; done) | rfl
def Q_rm1 (Z : State) (a0 : Array Value) (p1 : Int32) (p2 : Int32) (p3 : Int32) (p4 : Int32)  (h0 : Heap) (n0 : Nat) (v : Option Value) (h : Heap) (L : List Loc) : Prop := v = some (.int (own_pick p1 p2 p3 p4)) ∧ Fr n0 L ∧ h = h0
set_option maxRecDepth 65536 in
set_option maxHeartbeats 40000000 in
theorem rm1 (l : Launch) (Z : State) (a0 : Array Value) (hw : ∀ d ∈ tables_1, d.before a0 Z = true) (ws : List Jvm.Cond) (p1 : Int32) (p2 : Int32) (p3 : Int32) (p4 : Int32)  (h0 : Heap) (n0 : Nat) (Z0 : n0 ≤ h0.size) :
    MetFree l (⟨"com/example/ordinance/ordinance/policy/PartFinderBordersPinLaw", "pick", "(IIII)I"⟩ : MethodName) (head1 (Jvm.Cond.code (⟨"com/example/ordinance/ordinance/policy/PartFinderBordersPinLaw", "pick", "(IIII)I"⟩ : MethodName) method_3_code 5 (some .int) :: ws) ({ frames := 0, cells := 0, slots := 0, locals := 0 } : Room)) (fun a U => a = #[(.int p1), (.int p2), (.int p3), (.int p4)] ∧ Z.Warmed39 U.vm ∧ U.heap = h0) (fun _ _ _ _ _ => True) (fun _ U o U' => ∃ v L, o = .returned v ∧ Q_rm1 Z a0 p1 p2 p3 p4 h0 n0 v U'.heap L ∧ FrameEnd U o U' L ({ frames := 0, cells := 0, slots := 0, locals := 0 } : Room).cells ({ frames := 0, cells := 0, slots := 0, locals := 0 } : Room).slots) := by
  refine MetFree.of_bodySF (plainFor_of_name pn_1) hisR ?_
  intro p e s m args below meth c s₁ Bd hml0 hP hK
  obtain ⟨rfl, hZ, hh⟩ := hP
  have hx := Bd.exec
  have hby := Bd.bytes
  have hml : c.maxLocals = 5 := hml0
  have hown : s.vm.findClass "com/example/ordinance/ordinance/policy/PartFinderBordersPinLaw" = some m.cls := findClass_of_methodNamed Bd.named
  have hnm := (name_of_methodNamed Bd.named Bd.method).1
  have hlk : meth.locks = false := BodyLoose.notSynchronized (by assumption)
  have X0 : Stand p l e ({ frames := 0, cells := 0, slots := 0, locals := 0 } : Room) s m #[(.int p1), (.int p2), (.int p3), (.int p4)] below meth c s₁ [] 0 0 := Stand.of_body Bd
  have e0 : s₁.heap = h0 := by rw [← hh, Bd.state]; rfl
  have N0 := Fr.nil n0
  show own_Go p.tables e below (fun o U' => ∃ v L, o = .returned v ∧ Q_rm1 Z a0 p1 p2 p3 p4 h0 n0 v U'.heap L ∧ FrameEnd s o U' L ({ frames := 0, cells := 0, slots := 0, locals := 0 } : Room).cells ({ frames := 0, cells := 0, slots := 0, locals := 0 } : Room).slots) (s₁.setTop (entryFrame m #[(.int p1), (.int p2), (.int p3), (.int p4)] 5))
  refine own_st (fun t k => castTop (ef_rm1 m p1 p2 p3 p4) k) ?_
  have hv : own_pick p1 p2 p3 p4 = (if (p4 &&& (3 : Int32)) = (1 : Int32) then p2 else (if (p4 &&& (3 : Int32)) = (2 : Int32) then p3 else p1)) := rfl
  show own_Go _ _ _ _ (s₁.setTop (mkF m 0 #[iv p1, iv p2, iv p3, iv p4, .unset] []))
  refine o_iloadN X0 hx (hb hby d1_0) rfl ?_
  refine o_iconst X0 hx 3 (hb hby d1_1) rfl ?_
  refine o_iand X0 hx (hb hby d1_2) ?_
  refine o_istore X0 hx (hb hby d1_3) (l' := #[iv p1, iv p2, iv p3, iv p4, iv (p4 &&& (3 : Int32))]) rfl ?_
  refine o_iload X0 hx (hb hby d1_5) rfl ?_
  refine o_iconst X0 hx 1 (hb hby d1_7) rfl ?_
  by_cases hc8__1 : (p4 &&& (3 : Int32)) = (1 : Int32)
  · have hv_2 := hv.trans (if_pos hc8__1)
    refine o_icmpNo X0 hx (hb hby d1_8) (teq hc8__1).2 ?_
    refine o_iloadN X0 hx (hb hby d1_11) rfl ?_
    exact own_end X0 e0 (v := some (.int p2)) (fun h => by rw [Bd.returns] at h; cases h) hlk (fun fs hr => retI X0 hx Bd.returns (hb hby d1_12) hr) (Q := Q_rm1 Z a0 p1 p2 p3 p4 h0 n0) ⟨(congrArg (fun z => some (Value.int z)) hv_2.symm), N0, rfl⟩ (by decide) (by decide)
  · have hv_3 := hv.trans (if_neg hc8__1)
    refine o_icmpYes X0 hx (pc' := 13) (hb hby d1_8) (feq hc8__1).2 (by decide) (by decide) ?_
    refine o_iload X0 hx (hb hby d1_13) rfl ?_
    refine o_iconst X0 hx 2 (hb hby d1_15) rfl ?_
    by_cases hc16__4 : (p4 &&& (3 : Int32)) = (2 : Int32)
    · have hv_5 := hv_3.trans (if_pos hc16__4)
      refine o_icmpNo X0 hx (hb hby d1_16) (teq hc16__4).2 ?_
      refine o_iloadN X0 hx (hb hby d1_19) rfl ?_
      exact own_end X0 e0 (v := some (.int p3)) (fun h => by rw [Bd.returns] at h; cases h) hlk (fun fs hr => retI X0 hx Bd.returns (hb hby d1_20) hr) (Q := Q_rm1 Z a0 p1 p2 p3 p4 h0 n0) ⟨(congrArg (fun z => some (Value.int z)) hv_5.symm), N0, rfl⟩ (by decide) (by decide)
    · have hv_6 := hv_3.trans (if_neg hc16__4)
      refine o_icmpYes X0 hx (pc' := 21) (hb hby d1_16) (feq hc16__4).2 (by decide) (by decide) ?_
      refine o_iloadN X0 hx (hb hby d1_21) rfl ?_
      exact own_end X0 e0 (v := some (.int p1)) (fun h => by rw [Bd.returns] at h; cases h) hlk (fun fs hr => retI X0 hx Bd.returns (hb hby d1_22) hr) (Q := Q_rm1 Z a0 p1 p2 p3 p4 h0 n0) ⟨(congrArg (fun z => some (Value.int z)) hv_6.symm), N0, rfl⟩ (by decide) (by decide)
def own_eq14  (x0 : Int32) (x1 : Int32) (x2 : Int32) (x3 : Int32) (x4 : Int32) : Int32 := (if x0 = x1 then (if x1 = x2 then (if x2 = x3 then (if x3 = x4 then (1 : Int32) else (0 : Int32)) else (0 : Int32)) else (0 : Int32)) else (0 : Int32))
theorem d4_0 : decode method_4_code 0 = .ok (.iload_n 2, 1) := by decide +kernel
theorem d4_1 : decode method_4_code 1 = .ok (.iconst 1, 1) := by decide +kernel
theorem d4_2 : decode method_4_code 2 = .ok (.if_icmp .lt 12, 3) := by decide +kernel
theorem d4_5 : decode method_4_code 5 = .ok (.aload_n 0, 1) := by decide +kernel
theorem d4_6 : decode method_4_code 6 = .ok (.iconst 0, 1) := by decide +kernel
theorem d4_7 : decode method_4_code 7 = .ok (.iaload, 1) := by decide +kernel
theorem d4_8 : decode method_4_code 8 = .ok (.aload_n 0, 1) := by decide +kernel
theorem d4_9 : decode method_4_code 9 = .ok (.iload_n 1, 1) := by decide +kernel
theorem d4_10 : decode method_4_code 10 = .ok (.iaload, 1) := by decide +kernel
theorem d4_11 : decode method_4_code 11 = .ok (.if_icmp .ne 55, 3) := by decide +kernel
theorem d4_14 : decode method_4_code 14 = .ok (.iload_n 2, 1) := by decide +kernel
theorem d4_15 : decode method_4_code 15 = .ok (.iconst 2, 1) := by decide +kernel
theorem d4_16 : decode method_4_code 16 = .ok (.if_icmp .lt 14, 3) := by decide +kernel
theorem d4_19 : decode method_4_code 19 = .ok (.aload_n 0, 1) := by decide +kernel
theorem d4_20 : decode method_4_code 20 = .ok (.iconst 1, 1) := by decide +kernel
theorem d4_21 : decode method_4_code 21 = .ok (.iaload, 1) := by decide +kernel
theorem d4_22 : decode method_4_code 22 = .ok (.aload_n 0, 1) := by decide +kernel
theorem d4_23 : decode method_4_code 23 = .ok (.iload_n 1, 1) := by decide +kernel
theorem d4_24 : decode method_4_code 24 = .ok (.iconst 1, 1) := by decide +kernel
theorem d4_25 : decode method_4_code 25 = .ok (.iadd, 1) := by decide +kernel
theorem d4_26 : decode method_4_code 26 = .ok (.iaload, 1) := by decide +kernel
theorem d4_27 : decode method_4_code 27 = .ok (.if_icmp .ne 39, 3) := by decide +kernel
theorem d4_30 : decode method_4_code 30 = .ok (.iload_n 2, 1) := by decide +kernel
theorem d4_31 : decode method_4_code 31 = .ok (.iconst 3, 1) := by decide +kernel
theorem d4_32 : decode method_4_code 32 = .ok (.if_icmp .lt 14, 3) := by decide +kernel
theorem d4_35 : decode method_4_code 35 = .ok (.aload_n 0, 1) := by decide +kernel
theorem d4_36 : decode method_4_code 36 = .ok (.iconst 2, 1) := by decide +kernel
theorem d4_37 : decode method_4_code 37 = .ok (.iaload, 1) := by decide +kernel
theorem d4_38 : decode method_4_code 38 = .ok (.aload_n 0, 1) := by decide +kernel
theorem d4_39 : decode method_4_code 39 = .ok (.iload_n 1, 1) := by decide +kernel
theorem d4_40 : decode method_4_code 40 = .ok (.iconst 2, 1) := by decide +kernel
theorem d4_41 : decode method_4_code 41 = .ok (.iadd, 1) := by decide +kernel
theorem d4_42 : decode method_4_code 42 = .ok (.iaload, 1) := by decide +kernel
theorem d4_43 : decode method_4_code 43 = .ok (.if_icmp .ne 23, 3) := by decide +kernel
theorem d4_46 : decode method_4_code 46 = .ok (.iload_n 2, 1) := by decide +kernel
theorem d4_47 : decode method_4_code 47 = .ok (.iconst 4, 1) := by decide +kernel
theorem d4_48 : decode method_4_code 48 = .ok (.if_icmp .lt 14, 3) := by decide +kernel
theorem d4_51 : decode method_4_code 51 = .ok (.aload_n 0, 1) := by decide +kernel
theorem d4_52 : decode method_4_code 52 = .ok (.iconst 3, 1) := by decide +kernel
theorem d4_53 : decode method_4_code 53 = .ok (.iaload, 1) := by decide +kernel
theorem d4_54 : decode method_4_code 54 = .ok (.aload_n 0, 1) := by decide +kernel
theorem d4_55 : decode method_4_code 55 = .ok (.iload_n 1, 1) := by decide +kernel
theorem d4_56 : decode method_4_code 56 = .ok (.iconst 3, 1) := by decide +kernel
theorem d4_57 : decode method_4_code 57 = .ok (.iadd, 1) := by decide +kernel
theorem d4_58 : decode method_4_code 58 = .ok (.iaload, 1) := by decide +kernel
theorem d4_59 : decode method_4_code 59 = .ok (.if_icmp .ne 7, 3) := by decide +kernel
theorem d4_62 : decode method_4_code 62 = .ok (.iconst 1, 1) := by decide +kernel
theorem d4_63 : decode method_4_code 63 = .ok (.goto 4, 3) := by decide +kernel
theorem d4_67 : decode method_4_code 67 = .ok (.ireturn, 1) := by decide +kernel
theorem d4_66 : decode method_4_code 66 = .ok (.iconst 0, 1) := by decide +kernel
theorem ef_rmeq14 (m : MethodId) (a1 : Addr) : entryFrame m #[(.ref a1), (.int (1 : Int32)), (.int (4 : Int32))] 3 = mkF m 0 #[rv a1, iv 1, iv 4] [] := by first | (simp [entryFrame, mkF, argsToLocals, Value.category]; done) | rfl
def Q_rmeq14 (Z : State) (a0 : Array Value) (a1 : Addr) (k : ClassId) (dv : Value) (x0 : Int32) (x1 : Int32) (x2 : Int32) (x3 : Int32) (x4 : Int32) (h0 : Heap) (n0 : Nat) (v : Option Value) (h : Heap) (L : List Loc) : Prop := v = some (.int (own_eq14 x0 x1 x2 x3 x4)) ∧ Fr n0 L ∧ h = h0
set_option maxRecDepth 65536 in
set_option maxHeartbeats 40000000 in
theorem rmeq14 (l : Launch) (Z : State) (a0 : Array Value) (hw : ∀ d ∈ tables_1, d.before a0 Z = true) (ws : List Jvm.Cond) (a1 : Addr) (k : ClassId) (dv : Value) (x0 : Int32) (x1 : Int32) (x2 : Int32) (x3 : Int32) (x4 : Int32) (h0 : Heap) (n0 : Nat) (Z0 : n0 ≤ h0.size) (V1 : Arv Z h0 a1 k .int (5 : Int32) [(.int x0), (.int x1), (.int x2), (.int x3), (.int x4)] dv) :
    MetFree l (⟨"com/example/ordinance/ordinance/policy/PartFinderBordersPinLaw", "eq", "([III)Z"⟩ : MethodName) (head1 (Jvm.Cond.code (⟨"com/example/ordinance/ordinance/policy/PartFinderBordersPinLaw", "eq", "([III)Z"⟩ : MethodName) method_4_code 3 (some .boolean) :: ws) ({ frames := 0, cells := 0, slots := 0, locals := 0 } : Room)) (fun a U => a = #[(.ref a1), (.int (1 : Int32)), (.int (4 : Int32))] ∧ Z.Warmed39 U.vm ∧ U.heap = h0) (fun _ _ _ _ _ => True) (fun _ U o U' => ∃ v L, o = .returned v ∧ Q_rmeq14 Z a0 a1 k dv x0 x1 x2 x3 x4 h0 n0 v U'.heap L ∧ FrameEnd U o U' L ({ frames := 0, cells := 0, slots := 0, locals := 0 } : Room).cells ({ frames := 0, cells := 0, slots := 0, locals := 0 } : Room).slots) := by
  refine MetFree.of_bodySF (plainFor_of_name pn_1) hisR ?_
  intro p e s m args below meth c s₁ Bd hml0 hP hK
  obtain ⟨rfl, hZ, hh⟩ := hP
  have hx := Bd.exec
  have hby := Bd.bytes
  have hml : c.maxLocals = 3 := hml0
  have hown : s.vm.findClass "com/example/ordinance/ordinance/policy/PartFinderBordersPinLaw" = some m.cls := findClass_of_methodNamed Bd.named
  have hnm := (name_of_methodNamed Bd.named Bd.method).1
  have hlk : meth.locks = false := BodyLoose.notSynchronized (by assumption)
  have X0 : Stand p l e ({ frames := 0, cells := 0, slots := 0, locals := 0 } : Room) s m #[(.ref a1), (.int (1 : Int32)), (.int (4 : Int32))] below meth c s₁ [] 0 0 := Stand.of_body Bd
  have e0 : s₁.heap = h0 := by rw [← hh, Bd.state]; rfl
  have N0 := Fr.nil n0
  show own_Go p.tables e below (fun o U' => ∃ v L, o = .returned v ∧ Q_rmeq14 Z a0 a1 k dv x0 x1 x2 x3 x4 h0 n0 v U'.heap L ∧ FrameEnd s o U' L ({ frames := 0, cells := 0, slots := 0, locals := 0 } : Room).cells ({ frames := 0, cells := 0, slots := 0, locals := 0 } : Room).slots) (s₁.setTop (entryFrame m #[(.ref a1), (.int (1 : Int32)), (.int (4 : Int32))] 3))
  refine own_st (fun t k => castTop (ef_rmeq14 m a1) k) ?_
  have hv : own_eq14 x0 x1 x2 x3 x4 = (if x0 = x1 then (if x1 = x2 then (if x2 = x3 then (if x3 = x4 then (1 : Int32) else (0 : Int32)) else (0 : Int32)) else (0 : Int32)) else (0 : Int32)) := rfl
  show own_Go _ _ _ _ (s₁.setTop (mkF m 0 #[rv a1, iv 1, iv 4] []))
  refine o_iloadN X0 hx (hb hby d4_0) rfl ?_
  refine o_iconst X0 hx 1 (hb hby d4_1) rfl ?_
  refine o_icmpNo X0 hx (hb hby d4_2) (flt (by decide : ¬ ((4 : Int32) < (1 : Int32)))).1 ?_
  refine o_aloadN X0 hx (hb hby d4_5) rfl rfl ?_
  refine o_iconst X0 hx 0 (hb hby d4_6) rfl ?_
  obtain ⟨cl_1, Ar_1, qk_1, Sz_1, Ng_1, Hs_1, Gs_1⟩ := id V1
  refine own_st (X0.iaload hx (j := (0 : Int32)) (v := (.int x0)) (by rw [e0]; exact Ar_1.1) (State.isArrayOf_alike hZ.alike Ar_1.2.1) Ar_1.2.2 (inb_of Sz_1 ⟨by decide, by decide⟩) (Hs_1.at (j := (0 : Int32)) (inb_of Sz_1 ⟨by decide, by decide⟩) rfl) (g := (mkF m 7 #[rv a1, iv 1, iv 4] [(.int 0), (.ref a1)])) rfl rfl (hb hby d4_7)) ?_
  show own_Go _ _ _ _ (s₁.setTop (mkF m 8 #[rv a1, iv 1, iv 4] [(.int x0)]))
  refine o_aloadN X0 hx (hb hby d4_8) rfl rfl ?_
  refine o_iloadN X0 hx (hb hby d4_9) rfl ?_
  obtain ⟨cl_2, Ar_2, qk_2, Sz_2, Ng_2, Hs_2, Gs_2⟩ := id V1
  refine own_st (X0.iaload hx (j := (1 : Int32)) (v := (.int x1)) (by rw [e0]; exact Ar_2.1) (State.isArrayOf_alike hZ.alike Ar_2.2.1) Ar_2.2.2 (inb_of Sz_2 ⟨by decide, by decide⟩) (Hs_2.at (j := (1 : Int32)) (inb_of Sz_2 ⟨by decide, by decide⟩) rfl) (g := (mkF m 10 #[rv a1, iv 1, iv 4] [(.int 1), (.ref a1), (.int x0)])) rfl rfl (hb hby d4_10)) ?_
  show own_Go _ _ _ _ (s₁.setTop (mkF m 11 #[rv a1, iv 1, iv 4] [(.int x1), (.int x0)]))
  by_cases hc11__3 : x0 = x1
  · have hv_4 := hv.trans (if_pos hc11__3)
    refine o_icmpNo X0 hx (hb hby d4_11) (teq hc11__3).2 ?_
    refine o_iloadN X0 hx (hb hby d4_14) rfl ?_
    refine o_iconst X0 hx 2 (hb hby d4_15) rfl ?_
    refine o_icmpNo X0 hx (hb hby d4_16) (flt (by decide : ¬ ((4 : Int32) < (2 : Int32)))).1 ?_
    refine o_aloadN X0 hx (hb hby d4_19) rfl rfl ?_
    refine o_iconst X0 hx 1 (hb hby d4_20) rfl ?_
    obtain ⟨cl_5, Ar_5, qk_5, Sz_5, Ng_5, Hs_5, Gs_5⟩ := id V1
    refine own_st (X0.iaload hx (j := (1 : Int32)) (v := (.int x1)) (by rw [e0]; exact Ar_5.1) (State.isArrayOf_alike hZ.alike Ar_5.2.1) Ar_5.2.2 (inb_of Sz_5 ⟨by decide, by decide⟩) (Hs_5.at (j := (1 : Int32)) (inb_of Sz_5 ⟨by decide, by decide⟩) rfl) (g := (mkF m 21 #[rv a1, iv 1, iv 4] [(.int 1), (.ref a1)])) rfl rfl (hb hby d4_21)) ?_
    show own_Go _ _ _ _ (s₁.setTop (mkF m 22 #[rv a1, iv 1, iv 4] [(.int x1)]))
    refine o_aloadN X0 hx (hb hby d4_22) rfl rfl ?_
    refine o_iloadN X0 hx (hb hby d4_23) rfl ?_
    refine o_iconst X0 hx 1 (hb hby d4_24) rfl ?_
    refine o_iadd X0 hx (hb hby d4_25) ?_
    show own_Go _ _ _ _ (s₁.setTop (mkF m 26 #[rv a1, iv 1, iv 4] [(.int 2), (.ref a1), (.int x1)]))
    obtain ⟨cl_6, Ar_6, qk_6, Sz_6, Ng_6, Hs_6, Gs_6⟩ := id V1
    refine own_st (X0.iaload hx (j := (2 : Int32)) (v := (.int x2)) (by rw [e0]; exact Ar_6.1) (State.isArrayOf_alike hZ.alike Ar_6.2.1) Ar_6.2.2 (inb_of Sz_6 ⟨by decide, by decide⟩) (Hs_6.at (j := (2 : Int32)) (inb_of Sz_6 ⟨by decide, by decide⟩) rfl) (g := (mkF m 26 #[rv a1, iv 1, iv 4] [(.int 2), (.ref a1), (.int x1)])) rfl rfl (hb hby d4_26)) ?_
    show own_Go _ _ _ _ (s₁.setTop (mkF m 27 #[rv a1, iv 1, iv 4] [(.int x2), (.int x1)]))
    by_cases hc27__7 : x1 = x2
    · have hv_8 := hv_4.trans (if_pos hc27__7)
      refine o_icmpNo X0 hx (hb hby d4_27) (teq hc27__7).2 ?_
      refine o_iloadN X0 hx (hb hby d4_30) rfl ?_
      refine o_iconst X0 hx 3 (hb hby d4_31) rfl ?_
      refine o_icmpNo X0 hx (hb hby d4_32) (flt (by decide : ¬ ((4 : Int32) < (3 : Int32)))).1 ?_
      refine o_aloadN X0 hx (hb hby d4_35) rfl rfl ?_
      refine o_iconst X0 hx 2 (hb hby d4_36) rfl ?_
      obtain ⟨cl_9, Ar_9, qk_9, Sz_9, Ng_9, Hs_9, Gs_9⟩ := id V1
      refine own_st (X0.iaload hx (j := (2 : Int32)) (v := (.int x2)) (by rw [e0]; exact Ar_9.1) (State.isArrayOf_alike hZ.alike Ar_9.2.1) Ar_9.2.2 (inb_of Sz_9 ⟨by decide, by decide⟩) (Hs_9.at (j := (2 : Int32)) (inb_of Sz_9 ⟨by decide, by decide⟩) rfl) (g := (mkF m 37 #[rv a1, iv 1, iv 4] [(.int 2), (.ref a1)])) rfl rfl (hb hby d4_37)) ?_
      show own_Go _ _ _ _ (s₁.setTop (mkF m 38 #[rv a1, iv 1, iv 4] [(.int x2)]))
      refine o_aloadN X0 hx (hb hby d4_38) rfl rfl ?_
      refine o_iloadN X0 hx (hb hby d4_39) rfl ?_
      refine o_iconst X0 hx 2 (hb hby d4_40) rfl ?_
      refine o_iadd X0 hx (hb hby d4_41) ?_
      show own_Go _ _ _ _ (s₁.setTop (mkF m 42 #[rv a1, iv 1, iv 4] [(.int 3), (.ref a1), (.int x2)]))
      obtain ⟨cl_10, Ar_10, qk_10, Sz_10, Ng_10, Hs_10, Gs_10⟩ := id V1
      refine own_st (X0.iaload hx (j := (3 : Int32)) (v := (.int x3)) (by rw [e0]; exact Ar_10.1) (State.isArrayOf_alike hZ.alike Ar_10.2.1) Ar_10.2.2 (inb_of Sz_10 ⟨by decide, by decide⟩) (Hs_10.at (j := (3 : Int32)) (inb_of Sz_10 ⟨by decide, by decide⟩) rfl) (g := (mkF m 42 #[rv a1, iv 1, iv 4] [(.int 3), (.ref a1), (.int x2)])) rfl rfl (hb hby d4_42)) ?_
      show own_Go _ _ _ _ (s₁.setTop (mkF m 43 #[rv a1, iv 1, iv 4] [(.int x3), (.int x2)]))
      by_cases hc43__11 : x2 = x3
      · have hv_12 := hv_8.trans (if_pos hc43__11)
        refine o_icmpNo X0 hx (hb hby d4_43) (teq hc43__11).2 ?_
        refine o_iloadN X0 hx (hb hby d4_46) rfl ?_
        refine o_iconst X0 hx 4 (hb hby d4_47) rfl ?_
        refine o_icmpNo X0 hx (hb hby d4_48) (flt (by decide : ¬ ((4 : Int32) < (4 : Int32)))).1 ?_
        refine o_aloadN X0 hx (hb hby d4_51) rfl rfl ?_
        refine o_iconst X0 hx 3 (hb hby d4_52) rfl ?_
        obtain ⟨cl_13, Ar_13, qk_13, Sz_13, Ng_13, Hs_13, Gs_13⟩ := id V1
        refine own_st (X0.iaload hx (j := (3 : Int32)) (v := (.int x3)) (by rw [e0]; exact Ar_13.1) (State.isArrayOf_alike hZ.alike Ar_13.2.1) Ar_13.2.2 (inb_of Sz_13 ⟨by decide, by decide⟩) (Hs_13.at (j := (3 : Int32)) (inb_of Sz_13 ⟨by decide, by decide⟩) rfl) (g := (mkF m 53 #[rv a1, iv 1, iv 4] [(.int 3), (.ref a1)])) rfl rfl (hb hby d4_53)) ?_
        show own_Go _ _ _ _ (s₁.setTop (mkF m 54 #[rv a1, iv 1, iv 4] [(.int x3)]))
        refine o_aloadN X0 hx (hb hby d4_54) rfl rfl ?_
        refine o_iloadN X0 hx (hb hby d4_55) rfl ?_
        refine o_iconst X0 hx 3 (hb hby d4_56) rfl ?_
        refine o_iadd X0 hx (hb hby d4_57) ?_
        show own_Go _ _ _ _ (s₁.setTop (mkF m 58 #[rv a1, iv 1, iv 4] [(.int 4), (.ref a1), (.int x3)]))
        obtain ⟨cl_14, Ar_14, qk_14, Sz_14, Ng_14, Hs_14, Gs_14⟩ := id V1
        refine own_st (X0.iaload hx (j := (4 : Int32)) (v := (.int x4)) (by rw [e0]; exact Ar_14.1) (State.isArrayOf_alike hZ.alike Ar_14.2.1) Ar_14.2.2 (inb_of Sz_14 ⟨by decide, by decide⟩) (Hs_14.at (j := (4 : Int32)) (inb_of Sz_14 ⟨by decide, by decide⟩) rfl) (g := (mkF m 58 #[rv a1, iv 1, iv 4] [(.int 4), (.ref a1), (.int x3)])) rfl rfl (hb hby d4_58)) ?_
        show own_Go _ _ _ _ (s₁.setTop (mkF m 59 #[rv a1, iv 1, iv 4] [(.int x4), (.int x3)]))
        by_cases hc59__15 : x3 = x4
        · have hv_16 := hv_12.trans (if_pos hc59__15)
          refine o_icmpNo X0 hx (hb hby d4_59) (teq hc59__15).2 ?_
          refine o_iconst X0 hx 1 (hb hby d4_62) rfl ?_
          refine o_goto X0 hx (pc' := 67) (hb hby d4_63) (by decide) (by decide) ?_
          exact own_end X0 e0 (v := some (.int (1 : Int32))) (fun h => by rw [Bd.returns] at h; cases h) hlk (fun fs hr => retN X0 hx (z := (1 : Int32)) (t := .boolean) Bd.returns (by simp) (hb hby d4_67) hr) (Q := Q_rmeq14 Z a0 a1 k dv x0 x1 x2 x3 x4 h0 n0) ⟨(congrArg (fun z => some (Value.int z)) hv_16.symm), N0, rfl⟩ (by decide) (by decide)
        · have hv_17 := hv_12.trans (if_neg hc59__15)
          refine o_icmpYes X0 hx (pc' := 66) (hb hby d4_59) (feq hc59__15).2 (by decide) (by decide) ?_
          refine o_iconst X0 hx 0 (hb hby d4_66) rfl ?_
          exact own_end X0 e0 (v := some (.int (0 : Int32))) (fun h => by rw [Bd.returns] at h; cases h) hlk (fun fs hr => retN X0 hx (z := (0 : Int32)) (t := .boolean) Bd.returns (by simp) (hb hby d4_67) hr) (Q := Q_rmeq14 Z a0 a1 k dv x0 x1 x2 x3 x4 h0 n0) ⟨(congrArg (fun z => some (Value.int z)) hv_17.symm), N0, rfl⟩ (by decide) (by decide)
      · have hv_18 := hv_8.trans (if_neg hc43__11)
        refine o_icmpYes X0 hx (pc' := 66) (hb hby d4_43) (feq hc43__11).2 (by decide) (by decide) ?_
        refine o_iconst X0 hx 0 (hb hby d4_66) rfl ?_
        exact own_end X0 e0 (v := some (.int (0 : Int32))) (fun h => by rw [Bd.returns] at h; cases h) hlk (fun fs hr => retN X0 hx (z := (0 : Int32)) (t := .boolean) Bd.returns (by simp) (hb hby d4_67) hr) (Q := Q_rmeq14 Z a0 a1 k dv x0 x1 x2 x3 x4 h0 n0) ⟨(congrArg (fun z => some (Value.int z)) hv_18.symm), N0, rfl⟩ (by decide) (by decide)
    · have hv_19 := hv_4.trans (if_neg hc27__7)
      refine o_icmpYes X0 hx (pc' := 66) (hb hby d4_27) (feq hc27__7).2 (by decide) (by decide) ?_
      refine o_iconst X0 hx 0 (hb hby d4_66) rfl ?_
      exact own_end X0 e0 (v := some (.int (0 : Int32))) (fun h => by rw [Bd.returns] at h; cases h) hlk (fun fs hr => retN X0 hx (z := (0 : Int32)) (t := .boolean) Bd.returns (by simp) (hb hby d4_67) hr) (Q := Q_rmeq14 Z a0 a1 k dv x0 x1 x2 x3 x4 h0 n0) ⟨(congrArg (fun z => some (Value.int z)) hv_19.symm), N0, rfl⟩ (by decide) (by decide)
  · have hv_20 := hv.trans (if_neg hc11__3)
    refine o_icmpYes X0 hx (pc' := 66) (hb hby d4_11) (feq hc11__3).2 (by decide) (by decide) ?_
    refine o_iconst X0 hx 0 (hb hby d4_66) rfl ?_
    exact own_end X0 e0 (v := some (.int (0 : Int32))) (fun h => by rw [Bd.returns] at h; cases h) hlk (fun fs hr => retN X0 hx (z := (0 : Int32)) (t := .boolean) Bd.returns (by simp) (hb hby d4_67) hr) (Q := Q_rmeq14 Z a0 a1 k dv x0 x1 x2 x3 x4 h0 n0) ⟨(congrArg (fun z => some (Value.int z)) hv_20.symm), N0, rfl⟩ (by decide) (by decide)
def own_eq23  (x0 : Int32) (x1 : Int32) (x2 : Int32) (x3 : Int32) (x4 : Int32) : Int32 := (if x0 = x2 then (if x1 = x3 then (if x2 = x4 then (1 : Int32) else (0 : Int32)) else (0 : Int32)) else (0 : Int32))
theorem ef_rmeq23 (m : MethodId) (a1 : Addr) : entryFrame m #[(.ref a1), (.int (2 : Int32)), (.int (3 : Int32))] 3 = mkF m 0 #[rv a1, iv 2, iv 3] [] := by first | (simp [entryFrame, mkF, argsToLocals, Value.category]; done) | rfl
def Q_rmeq23 (Z : State) (a0 : Array Value) (a1 : Addr) (k : ClassId) (dv : Value) (x0 : Int32) (x1 : Int32) (x2 : Int32) (x3 : Int32) (x4 : Int32) (h0 : Heap) (n0 : Nat) (v : Option Value) (h : Heap) (L : List Loc) : Prop := v = some (.int (own_eq23 x0 x1 x2 x3 x4)) ∧ Fr n0 L ∧ h = h0
set_option maxRecDepth 65536 in
set_option maxHeartbeats 40000000 in
theorem rmeq23 (l : Launch) (Z : State) (a0 : Array Value) (hw : ∀ d ∈ tables_1, d.before a0 Z = true) (ws : List Jvm.Cond) (a1 : Addr) (k : ClassId) (dv : Value) (x0 : Int32) (x1 : Int32) (x2 : Int32) (x3 : Int32) (x4 : Int32) (h0 : Heap) (n0 : Nat) (Z0 : n0 ≤ h0.size) (V1 : Arv Z h0 a1 k .int (5 : Int32) [(.int x0), (.int x1), (.int x2), (.int x3), (.int x4)] dv) :
    MetFree l (⟨"com/example/ordinance/ordinance/policy/PartFinderBordersPinLaw", "eq", "([III)Z"⟩ : MethodName) (head1 (Jvm.Cond.code (⟨"com/example/ordinance/ordinance/policy/PartFinderBordersPinLaw", "eq", "([III)Z"⟩ : MethodName) method_4_code 3 (some .boolean) :: ws) ({ frames := 0, cells := 0, slots := 0, locals := 0 } : Room)) (fun a U => a = #[(.ref a1), (.int (2 : Int32)), (.int (3 : Int32))] ∧ Z.Warmed39 U.vm ∧ U.heap = h0) (fun _ _ _ _ _ => True) (fun _ U o U' => ∃ v L, o = .returned v ∧ Q_rmeq23 Z a0 a1 k dv x0 x1 x2 x3 x4 h0 n0 v U'.heap L ∧ FrameEnd U o U' L ({ frames := 0, cells := 0, slots := 0, locals := 0 } : Room).cells ({ frames := 0, cells := 0, slots := 0, locals := 0 } : Room).slots) := by
  refine MetFree.of_bodySF (plainFor_of_name pn_1) hisR ?_
  intro p e s m args below meth c s₁ Bd hml0 hP hK
  obtain ⟨rfl, hZ, hh⟩ := hP
  have hx := Bd.exec
  have hby := Bd.bytes
  have hml : c.maxLocals = 3 := hml0
  have hown : s.vm.findClass "com/example/ordinance/ordinance/policy/PartFinderBordersPinLaw" = some m.cls := findClass_of_methodNamed Bd.named
  have hnm := (name_of_methodNamed Bd.named Bd.method).1
  have hlk : meth.locks = false := BodyLoose.notSynchronized (by assumption)
  have X0 : Stand p l e ({ frames := 0, cells := 0, slots := 0, locals := 0 } : Room) s m #[(.ref a1), (.int (2 : Int32)), (.int (3 : Int32))] below meth c s₁ [] 0 0 := Stand.of_body Bd
  have e0 : s₁.heap = h0 := by rw [← hh, Bd.state]; rfl
  have N0 := Fr.nil n0
  show own_Go p.tables e below (fun o U' => ∃ v L, o = .returned v ∧ Q_rmeq23 Z a0 a1 k dv x0 x1 x2 x3 x4 h0 n0 v U'.heap L ∧ FrameEnd s o U' L ({ frames := 0, cells := 0, slots := 0, locals := 0 } : Room).cells ({ frames := 0, cells := 0, slots := 0, locals := 0 } : Room).slots) (s₁.setTop (entryFrame m #[(.ref a1), (.int (2 : Int32)), (.int (3 : Int32))] 3))
  refine own_st (fun t k => castTop (ef_rmeq23 m a1) k) ?_
  have hv : own_eq23 x0 x1 x2 x3 x4 = (if x0 = x2 then (if x1 = x3 then (if x2 = x4 then (1 : Int32) else (0 : Int32)) else (0 : Int32)) else (0 : Int32)) := rfl
  show own_Go _ _ _ _ (s₁.setTop (mkF m 0 #[rv a1, iv 2, iv 3] []))
  refine o_iloadN X0 hx (hb hby d4_0) rfl ?_
  refine o_iconst X0 hx 1 (hb hby d4_1) rfl ?_
  refine o_icmpNo X0 hx (hb hby d4_2) (flt (by decide : ¬ ((3 : Int32) < (1 : Int32)))).1 ?_
  refine o_aloadN X0 hx (hb hby d4_5) rfl rfl ?_
  refine o_iconst X0 hx 0 (hb hby d4_6) rfl ?_
  obtain ⟨cl_1, Ar_1, qk_1, Sz_1, Ng_1, Hs_1, Gs_1⟩ := id V1
  refine own_st (X0.iaload hx (j := (0 : Int32)) (v := (.int x0)) (by rw [e0]; exact Ar_1.1) (State.isArrayOf_alike hZ.alike Ar_1.2.1) Ar_1.2.2 (inb_of Sz_1 ⟨by decide, by decide⟩) (Hs_1.at (j := (0 : Int32)) (inb_of Sz_1 ⟨by decide, by decide⟩) rfl) (g := (mkF m 7 #[rv a1, iv 2, iv 3] [(.int 0), (.ref a1)])) rfl rfl (hb hby d4_7)) ?_
  show own_Go _ _ _ _ (s₁.setTop (mkF m 8 #[rv a1, iv 2, iv 3] [(.int x0)]))
  refine o_aloadN X0 hx (hb hby d4_8) rfl rfl ?_
  refine o_iloadN X0 hx (hb hby d4_9) rfl ?_
  obtain ⟨cl_2, Ar_2, qk_2, Sz_2, Ng_2, Hs_2, Gs_2⟩ := id V1
  refine own_st (X0.iaload hx (j := (2 : Int32)) (v := (.int x2)) (by rw [e0]; exact Ar_2.1) (State.isArrayOf_alike hZ.alike Ar_2.2.1) Ar_2.2.2 (inb_of Sz_2 ⟨by decide, by decide⟩) (Hs_2.at (j := (2 : Int32)) (inb_of Sz_2 ⟨by decide, by decide⟩) rfl) (g := (mkF m 10 #[rv a1, iv 2, iv 3] [(.int 2), (.ref a1), (.int x0)])) rfl rfl (hb hby d4_10)) ?_
  show own_Go _ _ _ _ (s₁.setTop (mkF m 11 #[rv a1, iv 2, iv 3] [(.int x2), (.int x0)]))
  by_cases hc11__3 : x0 = x2
  · have hv_4 := hv.trans (if_pos hc11__3)
    refine o_icmpNo X0 hx (hb hby d4_11) (teq hc11__3).2 ?_
    refine o_iloadN X0 hx (hb hby d4_14) rfl ?_
    refine o_iconst X0 hx 2 (hb hby d4_15) rfl ?_
    refine o_icmpNo X0 hx (hb hby d4_16) (flt (by decide : ¬ ((3 : Int32) < (2 : Int32)))).1 ?_
    refine o_aloadN X0 hx (hb hby d4_19) rfl rfl ?_
    refine o_iconst X0 hx 1 (hb hby d4_20) rfl ?_
    obtain ⟨cl_5, Ar_5, qk_5, Sz_5, Ng_5, Hs_5, Gs_5⟩ := id V1
    refine own_st (X0.iaload hx (j := (1 : Int32)) (v := (.int x1)) (by rw [e0]; exact Ar_5.1) (State.isArrayOf_alike hZ.alike Ar_5.2.1) Ar_5.2.2 (inb_of Sz_5 ⟨by decide, by decide⟩) (Hs_5.at (j := (1 : Int32)) (inb_of Sz_5 ⟨by decide, by decide⟩) rfl) (g := (mkF m 21 #[rv a1, iv 2, iv 3] [(.int 1), (.ref a1)])) rfl rfl (hb hby d4_21)) ?_
    show own_Go _ _ _ _ (s₁.setTop (mkF m 22 #[rv a1, iv 2, iv 3] [(.int x1)]))
    refine o_aloadN X0 hx (hb hby d4_22) rfl rfl ?_
    refine o_iloadN X0 hx (hb hby d4_23) rfl ?_
    refine o_iconst X0 hx 1 (hb hby d4_24) rfl ?_
    refine o_iadd X0 hx (hb hby d4_25) ?_
    show own_Go _ _ _ _ (s₁.setTop (mkF m 26 #[rv a1, iv 2, iv 3] [(.int 3), (.ref a1), (.int x1)]))
    obtain ⟨cl_6, Ar_6, qk_6, Sz_6, Ng_6, Hs_6, Gs_6⟩ := id V1
    refine own_st (X0.iaload hx (j := (3 : Int32)) (v := (.int x3)) (by rw [e0]; exact Ar_6.1) (State.isArrayOf_alike hZ.alike Ar_6.2.1) Ar_6.2.2 (inb_of Sz_6 ⟨by decide, by decide⟩) (Hs_6.at (j := (3 : Int32)) (inb_of Sz_6 ⟨by decide, by decide⟩) rfl) (g := (mkF m 26 #[rv a1, iv 2, iv 3] [(.int 3), (.ref a1), (.int x1)])) rfl rfl (hb hby d4_26)) ?_
    show own_Go _ _ _ _ (s₁.setTop (mkF m 27 #[rv a1, iv 2, iv 3] [(.int x3), (.int x1)]))
    by_cases hc27__7 : x1 = x3
    · have hv_8 := hv_4.trans (if_pos hc27__7)
      refine o_icmpNo X0 hx (hb hby d4_27) (teq hc27__7).2 ?_
      refine o_iloadN X0 hx (hb hby d4_30) rfl ?_
      refine o_iconst X0 hx 3 (hb hby d4_31) rfl ?_
      refine o_icmpNo X0 hx (hb hby d4_32) (flt (by decide : ¬ ((3 : Int32) < (3 : Int32)))).1 ?_
      refine o_aloadN X0 hx (hb hby d4_35) rfl rfl ?_
      refine o_iconst X0 hx 2 (hb hby d4_36) rfl ?_
      obtain ⟨cl_9, Ar_9, qk_9, Sz_9, Ng_9, Hs_9, Gs_9⟩ := id V1
      refine own_st (X0.iaload hx (j := (2 : Int32)) (v := (.int x2)) (by rw [e0]; exact Ar_9.1) (State.isArrayOf_alike hZ.alike Ar_9.2.1) Ar_9.2.2 (inb_of Sz_9 ⟨by decide, by decide⟩) (Hs_9.at (j := (2 : Int32)) (inb_of Sz_9 ⟨by decide, by decide⟩) rfl) (g := (mkF m 37 #[rv a1, iv 2, iv 3] [(.int 2), (.ref a1)])) rfl rfl (hb hby d4_37)) ?_
      show own_Go _ _ _ _ (s₁.setTop (mkF m 38 #[rv a1, iv 2, iv 3] [(.int x2)]))
      refine o_aloadN X0 hx (hb hby d4_38) rfl rfl ?_
      refine o_iloadN X0 hx (hb hby d4_39) rfl ?_
      refine o_iconst X0 hx 2 (hb hby d4_40) rfl ?_
      refine o_iadd X0 hx (hb hby d4_41) ?_
      show own_Go _ _ _ _ (s₁.setTop (mkF m 42 #[rv a1, iv 2, iv 3] [(.int 4), (.ref a1), (.int x2)]))
      obtain ⟨cl_10, Ar_10, qk_10, Sz_10, Ng_10, Hs_10, Gs_10⟩ := id V1
      refine own_st (X0.iaload hx (j := (4 : Int32)) (v := (.int x4)) (by rw [e0]; exact Ar_10.1) (State.isArrayOf_alike hZ.alike Ar_10.2.1) Ar_10.2.2 (inb_of Sz_10 ⟨by decide, by decide⟩) (Hs_10.at (j := (4 : Int32)) (inb_of Sz_10 ⟨by decide, by decide⟩) rfl) (g := (mkF m 42 #[rv a1, iv 2, iv 3] [(.int 4), (.ref a1), (.int x2)])) rfl rfl (hb hby d4_42)) ?_
      show own_Go _ _ _ _ (s₁.setTop (mkF m 43 #[rv a1, iv 2, iv 3] [(.int x4), (.int x2)]))
      by_cases hc43__11 : x2 = x4
      · have hv_12 := hv_8.trans (if_pos hc43__11)
        refine o_icmpNo X0 hx (hb hby d4_43) (teq hc43__11).2 ?_
        refine o_iloadN X0 hx (hb hby d4_46) rfl ?_
        refine o_iconst X0 hx 4 (hb hby d4_47) rfl ?_
        refine o_icmpYes X0 hx (pc' := 62) (hb hby d4_48) (tlt (by decide : (3 : Int32) < (4 : Int32))).1 (by decide) (by decide) ?_
        refine o_iconst X0 hx 1 (hb hby d4_62) rfl ?_
        refine o_goto X0 hx (pc' := 67) (hb hby d4_63) (by decide) (by decide) ?_
        exact own_end X0 e0 (v := some (.int (1 : Int32))) (fun h => by rw [Bd.returns] at h; cases h) hlk (fun fs hr => retN X0 hx (z := (1 : Int32)) (t := .boolean) Bd.returns (by simp) (hb hby d4_67) hr) (Q := Q_rmeq23 Z a0 a1 k dv x0 x1 x2 x3 x4 h0 n0) ⟨(congrArg (fun z => some (Value.int z)) hv_12.symm), N0, rfl⟩ (by decide) (by decide)
      · have hv_13 := hv_8.trans (if_neg hc43__11)
        refine o_icmpYes X0 hx (pc' := 66) (hb hby d4_43) (feq hc43__11).2 (by decide) (by decide) ?_
        refine o_iconst X0 hx 0 (hb hby d4_66) rfl ?_
        exact own_end X0 e0 (v := some (.int (0 : Int32))) (fun h => by rw [Bd.returns] at h; cases h) hlk (fun fs hr => retN X0 hx (z := (0 : Int32)) (t := .boolean) Bd.returns (by simp) (hb hby d4_67) hr) (Q := Q_rmeq23 Z a0 a1 k dv x0 x1 x2 x3 x4 h0 n0) ⟨(congrArg (fun z => some (Value.int z)) hv_13.symm), N0, rfl⟩ (by decide) (by decide)
    · have hv_14 := hv_4.trans (if_neg hc27__7)
      refine o_icmpYes X0 hx (pc' := 66) (hb hby d4_27) (feq hc27__7).2 (by decide) (by decide) ?_
      refine o_iconst X0 hx 0 (hb hby d4_66) rfl ?_
      exact own_end X0 e0 (v := some (.int (0 : Int32))) (fun h => by rw [Bd.returns] at h; cases h) hlk (fun fs hr => retN X0 hx (z := (0 : Int32)) (t := .boolean) Bd.returns (by simp) (hb hby d4_67) hr) (Q := Q_rmeq23 Z a0 a1 k dv x0 x1 x2 x3 x4 h0 n0) ⟨(congrArg (fun z => some (Value.int z)) hv_14.symm), N0, rfl⟩ (by decide) (by decide)
  · have hv_15 := hv.trans (if_neg hc11__3)
    refine o_icmpYes X0 hx (pc' := 66) (hb hby d4_11) (feq hc11__3).2 (by decide) (by decide) ?_
    refine o_iconst X0 hx 0 (hb hby d4_66) rfl ?_
    exact own_end X0 e0 (v := some (.int (0 : Int32))) (fun h => by rw [Bd.returns] at h; cases h) hlk (fun fs hr => retN X0 hx (z := (0 : Int32)) (t := .boolean) Bd.returns (by simp) (hb hby d4_67) hr) (Q := Q_rmeq23 Z a0 a1 k dv x0 x1 x2 x3 x4 h0 n0) ⟨(congrArg (fun z => some (Value.int z)) hv_15.symm), N0, rfl⟩ (by decide) (by decide)
def own_eq32  (x0 : Int32) (x1 : Int32) (x2 : Int32) (x3 : Int32) (x4 : Int32) : Int32 := (if x0 = x3 then (if x1 = x4 then (1 : Int32) else (0 : Int32)) else (0 : Int32))
theorem ef_rmeq32 (m : MethodId) (a1 : Addr) : entryFrame m #[(.ref a1), (.int (3 : Int32)), (.int (2 : Int32))] 3 = mkF m 0 #[rv a1, iv 3, iv 2] [] := by first | (simp [entryFrame, mkF, argsToLocals, Value.category]; done) | rfl
def Q_rmeq32 (Z : State) (a0 : Array Value) (a1 : Addr) (k : ClassId) (dv : Value) (x0 : Int32) (x1 : Int32) (x2 : Int32) (x3 : Int32) (x4 : Int32) (h0 : Heap) (n0 : Nat) (v : Option Value) (h : Heap) (L : List Loc) : Prop := v = some (.int (own_eq32 x0 x1 x2 x3 x4)) ∧ Fr n0 L ∧ h = h0
set_option maxRecDepth 65536 in
set_option maxHeartbeats 40000000 in
theorem rmeq32 (l : Launch) (Z : State) (a0 : Array Value) (hw : ∀ d ∈ tables_1, d.before a0 Z = true) (ws : List Jvm.Cond) (a1 : Addr) (k : ClassId) (dv : Value) (x0 : Int32) (x1 : Int32) (x2 : Int32) (x3 : Int32) (x4 : Int32) (h0 : Heap) (n0 : Nat) (Z0 : n0 ≤ h0.size) (V1 : Arv Z h0 a1 k .int (5 : Int32) [(.int x0), (.int x1), (.int x2), (.int x3), (.int x4)] dv) :
    MetFree l (⟨"com/example/ordinance/ordinance/policy/PartFinderBordersPinLaw", "eq", "([III)Z"⟩ : MethodName) (head1 (Jvm.Cond.code (⟨"com/example/ordinance/ordinance/policy/PartFinderBordersPinLaw", "eq", "([III)Z"⟩ : MethodName) method_4_code 3 (some .boolean) :: ws) ({ frames := 0, cells := 0, slots := 0, locals := 0 } : Room)) (fun a U => a = #[(.ref a1), (.int (3 : Int32)), (.int (2 : Int32))] ∧ Z.Warmed39 U.vm ∧ U.heap = h0) (fun _ _ _ _ _ => True) (fun _ U o U' => ∃ v L, o = .returned v ∧ Q_rmeq32 Z a0 a1 k dv x0 x1 x2 x3 x4 h0 n0 v U'.heap L ∧ FrameEnd U o U' L ({ frames := 0, cells := 0, slots := 0, locals := 0 } : Room).cells ({ frames := 0, cells := 0, slots := 0, locals := 0 } : Room).slots) := by
  refine MetFree.of_bodySF (plainFor_of_name pn_1) hisR ?_
  intro p e s m args below meth c s₁ Bd hml0 hP hK
  obtain ⟨rfl, hZ, hh⟩ := hP
  have hx := Bd.exec
  have hby := Bd.bytes
  have hml : c.maxLocals = 3 := hml0
  have hown : s.vm.findClass "com/example/ordinance/ordinance/policy/PartFinderBordersPinLaw" = some m.cls := findClass_of_methodNamed Bd.named
  have hnm := (name_of_methodNamed Bd.named Bd.method).1
  have hlk : meth.locks = false := BodyLoose.notSynchronized (by assumption)
  have X0 : Stand p l e ({ frames := 0, cells := 0, slots := 0, locals := 0 } : Room) s m #[(.ref a1), (.int (3 : Int32)), (.int (2 : Int32))] below meth c s₁ [] 0 0 := Stand.of_body Bd
  have e0 : s₁.heap = h0 := by rw [← hh, Bd.state]; rfl
  have N0 := Fr.nil n0
  show own_Go p.tables e below (fun o U' => ∃ v L, o = .returned v ∧ Q_rmeq32 Z a0 a1 k dv x0 x1 x2 x3 x4 h0 n0 v U'.heap L ∧ FrameEnd s o U' L ({ frames := 0, cells := 0, slots := 0, locals := 0 } : Room).cells ({ frames := 0, cells := 0, slots := 0, locals := 0 } : Room).slots) (s₁.setTop (entryFrame m #[(.ref a1), (.int (3 : Int32)), (.int (2 : Int32))] 3))
  refine own_st (fun t k => castTop (ef_rmeq32 m a1) k) ?_
  have hv : own_eq32 x0 x1 x2 x3 x4 = (if x0 = x3 then (if x1 = x4 then (1 : Int32) else (0 : Int32)) else (0 : Int32)) := rfl
  show own_Go _ _ _ _ (s₁.setTop (mkF m 0 #[rv a1, iv 3, iv 2] []))
  refine o_iloadN X0 hx (hb hby d4_0) rfl ?_
  refine o_iconst X0 hx 1 (hb hby d4_1) rfl ?_
  refine o_icmpNo X0 hx (hb hby d4_2) (flt (by decide : ¬ ((2 : Int32) < (1 : Int32)))).1 ?_
  refine o_aloadN X0 hx (hb hby d4_5) rfl rfl ?_
  refine o_iconst X0 hx 0 (hb hby d4_6) rfl ?_
  obtain ⟨cl_1, Ar_1, qk_1, Sz_1, Ng_1, Hs_1, Gs_1⟩ := id V1
  refine own_st (X0.iaload hx (j := (0 : Int32)) (v := (.int x0)) (by rw [e0]; exact Ar_1.1) (State.isArrayOf_alike hZ.alike Ar_1.2.1) Ar_1.2.2 (inb_of Sz_1 ⟨by decide, by decide⟩) (Hs_1.at (j := (0 : Int32)) (inb_of Sz_1 ⟨by decide, by decide⟩) rfl) (g := (mkF m 7 #[rv a1, iv 3, iv 2] [(.int 0), (.ref a1)])) rfl rfl (hb hby d4_7)) ?_
  show own_Go _ _ _ _ (s₁.setTop (mkF m 8 #[rv a1, iv 3, iv 2] [(.int x0)]))
  refine o_aloadN X0 hx (hb hby d4_8) rfl rfl ?_
  refine o_iloadN X0 hx (hb hby d4_9) rfl ?_
  obtain ⟨cl_2, Ar_2, qk_2, Sz_2, Ng_2, Hs_2, Gs_2⟩ := id V1
  refine own_st (X0.iaload hx (j := (3 : Int32)) (v := (.int x3)) (by rw [e0]; exact Ar_2.1) (State.isArrayOf_alike hZ.alike Ar_2.2.1) Ar_2.2.2 (inb_of Sz_2 ⟨by decide, by decide⟩) (Hs_2.at (j := (3 : Int32)) (inb_of Sz_2 ⟨by decide, by decide⟩) rfl) (g := (mkF m 10 #[rv a1, iv 3, iv 2] [(.int 3), (.ref a1), (.int x0)])) rfl rfl (hb hby d4_10)) ?_
  show own_Go _ _ _ _ (s₁.setTop (mkF m 11 #[rv a1, iv 3, iv 2] [(.int x3), (.int x0)]))
  by_cases hc11__3 : x0 = x3
  · have hv_4 := hv.trans (if_pos hc11__3)
    refine o_icmpNo X0 hx (hb hby d4_11) (teq hc11__3).2 ?_
    refine o_iloadN X0 hx (hb hby d4_14) rfl ?_
    refine o_iconst X0 hx 2 (hb hby d4_15) rfl ?_
    refine o_icmpNo X0 hx (hb hby d4_16) (flt (by decide : ¬ ((2 : Int32) < (2 : Int32)))).1 ?_
    refine o_aloadN X0 hx (hb hby d4_19) rfl rfl ?_
    refine o_iconst X0 hx 1 (hb hby d4_20) rfl ?_
    obtain ⟨cl_5, Ar_5, qk_5, Sz_5, Ng_5, Hs_5, Gs_5⟩ := id V1
    refine own_st (X0.iaload hx (j := (1 : Int32)) (v := (.int x1)) (by rw [e0]; exact Ar_5.1) (State.isArrayOf_alike hZ.alike Ar_5.2.1) Ar_5.2.2 (inb_of Sz_5 ⟨by decide, by decide⟩) (Hs_5.at (j := (1 : Int32)) (inb_of Sz_5 ⟨by decide, by decide⟩) rfl) (g := (mkF m 21 #[rv a1, iv 3, iv 2] [(.int 1), (.ref a1)])) rfl rfl (hb hby d4_21)) ?_
    show own_Go _ _ _ _ (s₁.setTop (mkF m 22 #[rv a1, iv 3, iv 2] [(.int x1)]))
    refine o_aloadN X0 hx (hb hby d4_22) rfl rfl ?_
    refine o_iloadN X0 hx (hb hby d4_23) rfl ?_
    refine o_iconst X0 hx 1 (hb hby d4_24) rfl ?_
    refine o_iadd X0 hx (hb hby d4_25) ?_
    show own_Go _ _ _ _ (s₁.setTop (mkF m 26 #[rv a1, iv 3, iv 2] [(.int 4), (.ref a1), (.int x1)]))
    obtain ⟨cl_6, Ar_6, qk_6, Sz_6, Ng_6, Hs_6, Gs_6⟩ := id V1
    refine own_st (X0.iaload hx (j := (4 : Int32)) (v := (.int x4)) (by rw [e0]; exact Ar_6.1) (State.isArrayOf_alike hZ.alike Ar_6.2.1) Ar_6.2.2 (inb_of Sz_6 ⟨by decide, by decide⟩) (Hs_6.at (j := (4 : Int32)) (inb_of Sz_6 ⟨by decide, by decide⟩) rfl) (g := (mkF m 26 #[rv a1, iv 3, iv 2] [(.int 4), (.ref a1), (.int x1)])) rfl rfl (hb hby d4_26)) ?_
    show own_Go _ _ _ _ (s₁.setTop (mkF m 27 #[rv a1, iv 3, iv 2] [(.int x4), (.int x1)]))
    by_cases hc27__7 : x1 = x4
    · have hv_8 := hv_4.trans (if_pos hc27__7)
      refine o_icmpNo X0 hx (hb hby d4_27) (teq hc27__7).2 ?_
      refine o_iloadN X0 hx (hb hby d4_30) rfl ?_
      refine o_iconst X0 hx 3 (hb hby d4_31) rfl ?_
      refine o_icmpYes X0 hx (pc' := 46) (hb hby d4_32) (tlt (by decide : (2 : Int32) < (3 : Int32))).1 (by decide) (by decide) ?_
      refine o_iloadN X0 hx (hb hby d4_46) rfl ?_
      refine o_iconst X0 hx 4 (hb hby d4_47) rfl ?_
      refine o_icmpYes X0 hx (pc' := 62) (hb hby d4_48) (tlt (by decide : (2 : Int32) < (4 : Int32))).1 (by decide) (by decide) ?_
      refine o_iconst X0 hx 1 (hb hby d4_62) rfl ?_
      refine o_goto X0 hx (pc' := 67) (hb hby d4_63) (by decide) (by decide) ?_
      exact own_end X0 e0 (v := some (.int (1 : Int32))) (fun h => by rw [Bd.returns] at h; cases h) hlk (fun fs hr => retN X0 hx (z := (1 : Int32)) (t := .boolean) Bd.returns (by simp) (hb hby d4_67) hr) (Q := Q_rmeq32 Z a0 a1 k dv x0 x1 x2 x3 x4 h0 n0) ⟨(congrArg (fun z => some (Value.int z)) hv_8.symm), N0, rfl⟩ (by decide) (by decide)
    · have hv_9 := hv_4.trans (if_neg hc27__7)
      refine o_icmpYes X0 hx (pc' := 66) (hb hby d4_27) (feq hc27__7).2 (by decide) (by decide) ?_
      refine o_iconst X0 hx 0 (hb hby d4_66) rfl ?_
      exact own_end X0 e0 (v := some (.int (0 : Int32))) (fun h => by rw [Bd.returns] at h; cases h) hlk (fun fs hr => retN X0 hx (z := (0 : Int32)) (t := .boolean) Bd.returns (by simp) (hb hby d4_67) hr) (Q := Q_rmeq32 Z a0 a1 k dv x0 x1 x2 x3 x4 h0 n0) ⟨(congrArg (fun z => some (Value.int z)) hv_9.symm), N0, rfl⟩ (by decide) (by decide)
  · have hv_10 := hv.trans (if_neg hc11__3)
    refine o_icmpYes X0 hx (pc' := 66) (hb hby d4_11) (feq hc11__3).2 (by decide) (by decide) ?_
    refine o_iconst X0 hx 0 (hb hby d4_66) rfl ?_
    exact own_end X0 e0 (v := some (.int (0 : Int32))) (fun h => by rw [Bd.returns] at h; cases h) hlk (fun fs hr => retN X0 hx (z := (0 : Int32)) (t := .boolean) Bd.returns (by simp) (hb hby d4_67) hr) (Q := Q_rmeq32 Z a0 a1 k dv x0 x1 x2 x3 x4 h0 n0) ⟨(congrArg (fun z => some (Value.int z)) hv_10.symm), N0, rfl⟩ (by decide) (by decide)
def own_eq41  (x0 : Int32) (x1 : Int32) (x2 : Int32) (x3 : Int32) (x4 : Int32) : Int32 := (if x0 = x4 then (1 : Int32) else (0 : Int32))
theorem ef_rmeq41 (m : MethodId) (a1 : Addr) : entryFrame m #[(.ref a1), (.int (4 : Int32)), (.int (1 : Int32))] 3 = mkF m 0 #[rv a1, iv 4, iv 1] [] := by first | (simp [entryFrame, mkF, argsToLocals, Value.category]; done) | rfl
def Q_rmeq41 (Z : State) (a0 : Array Value) (a1 : Addr) (k : ClassId) (dv : Value) (x0 : Int32) (x1 : Int32) (x2 : Int32) (x3 : Int32) (x4 : Int32) (h0 : Heap) (n0 : Nat) (v : Option Value) (h : Heap) (L : List Loc) : Prop := v = some (.int (own_eq41 x0 x1 x2 x3 x4)) ∧ Fr n0 L ∧ h = h0
set_option maxRecDepth 65536 in
set_option maxHeartbeats 40000000 in
theorem rmeq41 (l : Launch) (Z : State) (a0 : Array Value) (hw : ∀ d ∈ tables_1, d.before a0 Z = true) (ws : List Jvm.Cond) (a1 : Addr) (k : ClassId) (dv : Value) (x0 : Int32) (x1 : Int32) (x2 : Int32) (x3 : Int32) (x4 : Int32) (h0 : Heap) (n0 : Nat) (Z0 : n0 ≤ h0.size) (V1 : Arv Z h0 a1 k .int (5 : Int32) [(.int x0), (.int x1), (.int x2), (.int x3), (.int x4)] dv) :
    MetFree l (⟨"com/example/ordinance/ordinance/policy/PartFinderBordersPinLaw", "eq", "([III)Z"⟩ : MethodName) (head1 (Jvm.Cond.code (⟨"com/example/ordinance/ordinance/policy/PartFinderBordersPinLaw", "eq", "([III)Z"⟩ : MethodName) method_4_code 3 (some .boolean) :: ws) ({ frames := 0, cells := 0, slots := 0, locals := 0 } : Room)) (fun a U => a = #[(.ref a1), (.int (4 : Int32)), (.int (1 : Int32))] ∧ Z.Warmed39 U.vm ∧ U.heap = h0) (fun _ _ _ _ _ => True) (fun _ U o U' => ∃ v L, o = .returned v ∧ Q_rmeq41 Z a0 a1 k dv x0 x1 x2 x3 x4 h0 n0 v U'.heap L ∧ FrameEnd U o U' L ({ frames := 0, cells := 0, slots := 0, locals := 0 } : Room).cells ({ frames := 0, cells := 0, slots := 0, locals := 0 } : Room).slots) := by
  refine MetFree.of_bodySF (plainFor_of_name pn_1) hisR ?_
  intro p e s m args below meth c s₁ Bd hml0 hP hK
  obtain ⟨rfl, hZ, hh⟩ := hP
  have hx := Bd.exec
  have hby := Bd.bytes
  have hml : c.maxLocals = 3 := hml0
  have hown : s.vm.findClass "com/example/ordinance/ordinance/policy/PartFinderBordersPinLaw" = some m.cls := findClass_of_methodNamed Bd.named
  have hnm := (name_of_methodNamed Bd.named Bd.method).1
  have hlk : meth.locks = false := BodyLoose.notSynchronized (by assumption)
  have X0 : Stand p l e ({ frames := 0, cells := 0, slots := 0, locals := 0 } : Room) s m #[(.ref a1), (.int (4 : Int32)), (.int (1 : Int32))] below meth c s₁ [] 0 0 := Stand.of_body Bd
  have e0 : s₁.heap = h0 := by rw [← hh, Bd.state]; rfl
  have N0 := Fr.nil n0
  show own_Go p.tables e below (fun o U' => ∃ v L, o = .returned v ∧ Q_rmeq41 Z a0 a1 k dv x0 x1 x2 x3 x4 h0 n0 v U'.heap L ∧ FrameEnd s o U' L ({ frames := 0, cells := 0, slots := 0, locals := 0 } : Room).cells ({ frames := 0, cells := 0, slots := 0, locals := 0 } : Room).slots) (s₁.setTop (entryFrame m #[(.ref a1), (.int (4 : Int32)), (.int (1 : Int32))] 3))
  refine own_st (fun t k => castTop (ef_rmeq41 m a1) k) ?_
  have hv : own_eq41 x0 x1 x2 x3 x4 = (if x0 = x4 then (1 : Int32) else (0 : Int32)) := rfl
  show own_Go _ _ _ _ (s₁.setTop (mkF m 0 #[rv a1, iv 4, iv 1] []))
  refine o_iloadN X0 hx (hb hby d4_0) rfl ?_
  refine o_iconst X0 hx 1 (hb hby d4_1) rfl ?_
  refine o_icmpNo X0 hx (hb hby d4_2) (flt (by decide : ¬ ((1 : Int32) < (1 : Int32)))).1 ?_
  refine o_aloadN X0 hx (hb hby d4_5) rfl rfl ?_
  refine o_iconst X0 hx 0 (hb hby d4_6) rfl ?_
  obtain ⟨cl_1, Ar_1, qk_1, Sz_1, Ng_1, Hs_1, Gs_1⟩ := id V1
  refine own_st (X0.iaload hx (j := (0 : Int32)) (v := (.int x0)) (by rw [e0]; exact Ar_1.1) (State.isArrayOf_alike hZ.alike Ar_1.2.1) Ar_1.2.2 (inb_of Sz_1 ⟨by decide, by decide⟩) (Hs_1.at (j := (0 : Int32)) (inb_of Sz_1 ⟨by decide, by decide⟩) rfl) (g := (mkF m 7 #[rv a1, iv 4, iv 1] [(.int 0), (.ref a1)])) rfl rfl (hb hby d4_7)) ?_
  show own_Go _ _ _ _ (s₁.setTop (mkF m 8 #[rv a1, iv 4, iv 1] [(.int x0)]))
  refine o_aloadN X0 hx (hb hby d4_8) rfl rfl ?_
  refine o_iloadN X0 hx (hb hby d4_9) rfl ?_
  obtain ⟨cl_2, Ar_2, qk_2, Sz_2, Ng_2, Hs_2, Gs_2⟩ := id V1
  refine own_st (X0.iaload hx (j := (4 : Int32)) (v := (.int x4)) (by rw [e0]; exact Ar_2.1) (State.isArrayOf_alike hZ.alike Ar_2.2.1) Ar_2.2.2 (inb_of Sz_2 ⟨by decide, by decide⟩) (Hs_2.at (j := (4 : Int32)) (inb_of Sz_2 ⟨by decide, by decide⟩) rfl) (g := (mkF m 10 #[rv a1, iv 4, iv 1] [(.int 4), (.ref a1), (.int x0)])) rfl rfl (hb hby d4_10)) ?_
  show own_Go _ _ _ _ (s₁.setTop (mkF m 11 #[rv a1, iv 4, iv 1] [(.int x4), (.int x0)]))
  by_cases hc11__3 : x0 = x4
  · have hv_4 := hv.trans (if_pos hc11__3)
    refine o_icmpNo X0 hx (hb hby d4_11) (teq hc11__3).2 ?_
    refine o_iloadN X0 hx (hb hby d4_14) rfl ?_
    refine o_iconst X0 hx 2 (hb hby d4_15) rfl ?_
    refine o_icmpYes X0 hx (pc' := 30) (hb hby d4_16) (tlt (by decide : (1 : Int32) < (2 : Int32))).1 (by decide) (by decide) ?_
    refine o_iloadN X0 hx (hb hby d4_30) rfl ?_
    refine o_iconst X0 hx 3 (hb hby d4_31) rfl ?_
    refine o_icmpYes X0 hx (pc' := 46) (hb hby d4_32) (tlt (by decide : (1 : Int32) < (3 : Int32))).1 (by decide) (by decide) ?_
    refine o_iloadN X0 hx (hb hby d4_46) rfl ?_
    refine o_iconst X0 hx 4 (hb hby d4_47) rfl ?_
    refine o_icmpYes X0 hx (pc' := 62) (hb hby d4_48) (tlt (by decide : (1 : Int32) < (4 : Int32))).1 (by decide) (by decide) ?_
    refine o_iconst X0 hx 1 (hb hby d4_62) rfl ?_
    refine o_goto X0 hx (pc' := 67) (hb hby d4_63) (by decide) (by decide) ?_
    exact own_end X0 e0 (v := some (.int (1 : Int32))) (fun h => by rw [Bd.returns] at h; cases h) hlk (fun fs hr => retN X0 hx (z := (1 : Int32)) (t := .boolean) Bd.returns (by simp) (hb hby d4_67) hr) (Q := Q_rmeq41 Z a0 a1 k dv x0 x1 x2 x3 x4 h0 n0) ⟨(congrArg (fun z => some (Value.int z)) hv_4.symm), N0, rfl⟩ (by decide) (by decide)
  · have hv_5 := hv.trans (if_neg hc11__3)
    refine o_icmpYes X0 hx (pc' := 66) (hb hby d4_11) (feq hc11__3).2 (by decide) (by decide) ?_
    refine o_iconst X0 hx 0 (hb hby d4_66) rfl ?_
    exact own_end X0 e0 (v := some (.int (0 : Int32))) (fun h => by rw [Bd.returns] at h; cases h) hlk (fun fs hr => retN X0 hx (z := (0 : Int32)) (t := .boolean) Bd.returns (by simp) (hb hby d4_67) hr) (Q := Q_rmeq41 Z a0 a1 k dv x0 x1 x2 x3 x4 h0 n0) ⟨(congrArg (fun z => some (Value.int z)) hv_5.symm), N0, rfl⟩ (by decide) (by decide)
def own_eq13  (x0 : Int32) (x1 : Int32) (x2 : Int32) (x3 : Int32) (x4 : Int32) : Int32 := (if x0 = x1 then (if x1 = x2 then (if x2 = x3 then (1 : Int32) else (0 : Int32)) else (0 : Int32)) else (0 : Int32))
theorem ef_rmeq13 (m : MethodId) (a1 : Addr) : entryFrame m #[(.ref a1), (.int (1 : Int32)), (.int (3 : Int32))] 3 = mkF m 0 #[rv a1, iv 1, iv 3] [] := by first | (simp [entryFrame, mkF, argsToLocals, Value.category]; done) | rfl
def Q_rmeq13 (Z : State) (a0 : Array Value) (a1 : Addr) (k : ClassId) (dv : Value) (x0 : Int32) (x1 : Int32) (x2 : Int32) (x3 : Int32) (x4 : Int32) (h0 : Heap) (n0 : Nat) (v : Option Value) (h : Heap) (L : List Loc) : Prop := v = some (.int (own_eq13 x0 x1 x2 x3 x4)) ∧ Fr n0 L ∧ h = h0
set_option maxRecDepth 65536 in
set_option maxHeartbeats 40000000 in
theorem rmeq13 (l : Launch) (Z : State) (a0 : Array Value) (hw : ∀ d ∈ tables_1, d.before a0 Z = true) (ws : List Jvm.Cond) (a1 : Addr) (k : ClassId) (dv : Value) (x0 : Int32) (x1 : Int32) (x2 : Int32) (x3 : Int32) (x4 : Int32) (h0 : Heap) (n0 : Nat) (Z0 : n0 ≤ h0.size) (V1 : Arv Z h0 a1 k .int (5 : Int32) [(.int x0), (.int x1), (.int x2), (.int x3), (.int x4)] dv) :
    MetFree l (⟨"com/example/ordinance/ordinance/policy/PartFinderBordersPinLaw", "eq", "([III)Z"⟩ : MethodName) (head1 (Jvm.Cond.code (⟨"com/example/ordinance/ordinance/policy/PartFinderBordersPinLaw", "eq", "([III)Z"⟩ : MethodName) method_4_code 3 (some .boolean) :: ws) ({ frames := 0, cells := 0, slots := 0, locals := 0 } : Room)) (fun a U => a = #[(.ref a1), (.int (1 : Int32)), (.int (3 : Int32))] ∧ Z.Warmed39 U.vm ∧ U.heap = h0) (fun _ _ _ _ _ => True) (fun _ U o U' => ∃ v L, o = .returned v ∧ Q_rmeq13 Z a0 a1 k dv x0 x1 x2 x3 x4 h0 n0 v U'.heap L ∧ FrameEnd U o U' L ({ frames := 0, cells := 0, slots := 0, locals := 0 } : Room).cells ({ frames := 0, cells := 0, slots := 0, locals := 0 } : Room).slots) := by
  refine MetFree.of_bodySF (plainFor_of_name pn_1) hisR ?_
  intro p e s m args below meth c s₁ Bd hml0 hP hK
  obtain ⟨rfl, hZ, hh⟩ := hP
  have hx := Bd.exec
  have hby := Bd.bytes
  have hml : c.maxLocals = 3 := hml0
  have hown : s.vm.findClass "com/example/ordinance/ordinance/policy/PartFinderBordersPinLaw" = some m.cls := findClass_of_methodNamed Bd.named
  have hnm := (name_of_methodNamed Bd.named Bd.method).1
  have hlk : meth.locks = false := BodyLoose.notSynchronized (by assumption)
  have X0 : Stand p l e ({ frames := 0, cells := 0, slots := 0, locals := 0 } : Room) s m #[(.ref a1), (.int (1 : Int32)), (.int (3 : Int32))] below meth c s₁ [] 0 0 := Stand.of_body Bd
  have e0 : s₁.heap = h0 := by rw [← hh, Bd.state]; rfl
  have N0 := Fr.nil n0
  show own_Go p.tables e below (fun o U' => ∃ v L, o = .returned v ∧ Q_rmeq13 Z a0 a1 k dv x0 x1 x2 x3 x4 h0 n0 v U'.heap L ∧ FrameEnd s o U' L ({ frames := 0, cells := 0, slots := 0, locals := 0 } : Room).cells ({ frames := 0, cells := 0, slots := 0, locals := 0 } : Room).slots) (s₁.setTop (entryFrame m #[(.ref a1), (.int (1 : Int32)), (.int (3 : Int32))] 3))
  refine own_st (fun t k => castTop (ef_rmeq13 m a1) k) ?_
  have hv : own_eq13 x0 x1 x2 x3 x4 = (if x0 = x1 then (if x1 = x2 then (if x2 = x3 then (1 : Int32) else (0 : Int32)) else (0 : Int32)) else (0 : Int32)) := rfl
  show own_Go _ _ _ _ (s₁.setTop (mkF m 0 #[rv a1, iv 1, iv 3] []))
  refine o_iloadN X0 hx (hb hby d4_0) rfl ?_
  refine o_iconst X0 hx 1 (hb hby d4_1) rfl ?_
  refine o_icmpNo X0 hx (hb hby d4_2) (flt (by decide : ¬ ((3 : Int32) < (1 : Int32)))).1 ?_
  refine o_aloadN X0 hx (hb hby d4_5) rfl rfl ?_
  refine o_iconst X0 hx 0 (hb hby d4_6) rfl ?_
  obtain ⟨cl_1, Ar_1, qk_1, Sz_1, Ng_1, Hs_1, Gs_1⟩ := id V1
  refine own_st (X0.iaload hx (j := (0 : Int32)) (v := (.int x0)) (by rw [e0]; exact Ar_1.1) (State.isArrayOf_alike hZ.alike Ar_1.2.1) Ar_1.2.2 (inb_of Sz_1 ⟨by decide, by decide⟩) (Hs_1.at (j := (0 : Int32)) (inb_of Sz_1 ⟨by decide, by decide⟩) rfl) (g := (mkF m 7 #[rv a1, iv 1, iv 3] [(.int 0), (.ref a1)])) rfl rfl (hb hby d4_7)) ?_
  show own_Go _ _ _ _ (s₁.setTop (mkF m 8 #[rv a1, iv 1, iv 3] [(.int x0)]))
  refine o_aloadN X0 hx (hb hby d4_8) rfl rfl ?_
  refine o_iloadN X0 hx (hb hby d4_9) rfl ?_
  obtain ⟨cl_2, Ar_2, qk_2, Sz_2, Ng_2, Hs_2, Gs_2⟩ := id V1
  refine own_st (X0.iaload hx (j := (1 : Int32)) (v := (.int x1)) (by rw [e0]; exact Ar_2.1) (State.isArrayOf_alike hZ.alike Ar_2.2.1) Ar_2.2.2 (inb_of Sz_2 ⟨by decide, by decide⟩) (Hs_2.at (j := (1 : Int32)) (inb_of Sz_2 ⟨by decide, by decide⟩) rfl) (g := (mkF m 10 #[rv a1, iv 1, iv 3] [(.int 1), (.ref a1), (.int x0)])) rfl rfl (hb hby d4_10)) ?_
  show own_Go _ _ _ _ (s₁.setTop (mkF m 11 #[rv a1, iv 1, iv 3] [(.int x1), (.int x0)]))
  by_cases hc11__3 : x0 = x1
  · have hv_4 := hv.trans (if_pos hc11__3)
    refine o_icmpNo X0 hx (hb hby d4_11) (teq hc11__3).2 ?_
    refine o_iloadN X0 hx (hb hby d4_14) rfl ?_
    refine o_iconst X0 hx 2 (hb hby d4_15) rfl ?_
    refine o_icmpNo X0 hx (hb hby d4_16) (flt (by decide : ¬ ((3 : Int32) < (2 : Int32)))).1 ?_
    refine o_aloadN X0 hx (hb hby d4_19) rfl rfl ?_
    refine o_iconst X0 hx 1 (hb hby d4_20) rfl ?_
    obtain ⟨cl_5, Ar_5, qk_5, Sz_5, Ng_5, Hs_5, Gs_5⟩ := id V1
    refine own_st (X0.iaload hx (j := (1 : Int32)) (v := (.int x1)) (by rw [e0]; exact Ar_5.1) (State.isArrayOf_alike hZ.alike Ar_5.2.1) Ar_5.2.2 (inb_of Sz_5 ⟨by decide, by decide⟩) (Hs_5.at (j := (1 : Int32)) (inb_of Sz_5 ⟨by decide, by decide⟩) rfl) (g := (mkF m 21 #[rv a1, iv 1, iv 3] [(.int 1), (.ref a1)])) rfl rfl (hb hby d4_21)) ?_
    show own_Go _ _ _ _ (s₁.setTop (mkF m 22 #[rv a1, iv 1, iv 3] [(.int x1)]))
    refine o_aloadN X0 hx (hb hby d4_22) rfl rfl ?_
    refine o_iloadN X0 hx (hb hby d4_23) rfl ?_
    refine o_iconst X0 hx 1 (hb hby d4_24) rfl ?_
    refine o_iadd X0 hx (hb hby d4_25) ?_
    show own_Go _ _ _ _ (s₁.setTop (mkF m 26 #[rv a1, iv 1, iv 3] [(.int 2), (.ref a1), (.int x1)]))
    obtain ⟨cl_6, Ar_6, qk_6, Sz_6, Ng_6, Hs_6, Gs_6⟩ := id V1
    refine own_st (X0.iaload hx (j := (2 : Int32)) (v := (.int x2)) (by rw [e0]; exact Ar_6.1) (State.isArrayOf_alike hZ.alike Ar_6.2.1) Ar_6.2.2 (inb_of Sz_6 ⟨by decide, by decide⟩) (Hs_6.at (j := (2 : Int32)) (inb_of Sz_6 ⟨by decide, by decide⟩) rfl) (g := (mkF m 26 #[rv a1, iv 1, iv 3] [(.int 2), (.ref a1), (.int x1)])) rfl rfl (hb hby d4_26)) ?_
    show own_Go _ _ _ _ (s₁.setTop (mkF m 27 #[rv a1, iv 1, iv 3] [(.int x2), (.int x1)]))
    by_cases hc27__7 : x1 = x2
    · have hv_8 := hv_4.trans (if_pos hc27__7)
      refine o_icmpNo X0 hx (hb hby d4_27) (teq hc27__7).2 ?_
      refine o_iloadN X0 hx (hb hby d4_30) rfl ?_
      refine o_iconst X0 hx 3 (hb hby d4_31) rfl ?_
      refine o_icmpNo X0 hx (hb hby d4_32) (flt (by decide : ¬ ((3 : Int32) < (3 : Int32)))).1 ?_
      refine o_aloadN X0 hx (hb hby d4_35) rfl rfl ?_
      refine o_iconst X0 hx 2 (hb hby d4_36) rfl ?_
      obtain ⟨cl_9, Ar_9, qk_9, Sz_9, Ng_9, Hs_9, Gs_9⟩ := id V1
      refine own_st (X0.iaload hx (j := (2 : Int32)) (v := (.int x2)) (by rw [e0]; exact Ar_9.1) (State.isArrayOf_alike hZ.alike Ar_9.2.1) Ar_9.2.2 (inb_of Sz_9 ⟨by decide, by decide⟩) (Hs_9.at (j := (2 : Int32)) (inb_of Sz_9 ⟨by decide, by decide⟩) rfl) (g := (mkF m 37 #[rv a1, iv 1, iv 3] [(.int 2), (.ref a1)])) rfl rfl (hb hby d4_37)) ?_
      show own_Go _ _ _ _ (s₁.setTop (mkF m 38 #[rv a1, iv 1, iv 3] [(.int x2)]))
      refine o_aloadN X0 hx (hb hby d4_38) rfl rfl ?_
      refine o_iloadN X0 hx (hb hby d4_39) rfl ?_
      refine o_iconst X0 hx 2 (hb hby d4_40) rfl ?_
      refine o_iadd X0 hx (hb hby d4_41) ?_
      show own_Go _ _ _ _ (s₁.setTop (mkF m 42 #[rv a1, iv 1, iv 3] [(.int 3), (.ref a1), (.int x2)]))
      obtain ⟨cl_10, Ar_10, qk_10, Sz_10, Ng_10, Hs_10, Gs_10⟩ := id V1
      refine own_st (X0.iaload hx (j := (3 : Int32)) (v := (.int x3)) (by rw [e0]; exact Ar_10.1) (State.isArrayOf_alike hZ.alike Ar_10.2.1) Ar_10.2.2 (inb_of Sz_10 ⟨by decide, by decide⟩) (Hs_10.at (j := (3 : Int32)) (inb_of Sz_10 ⟨by decide, by decide⟩) rfl) (g := (mkF m 42 #[rv a1, iv 1, iv 3] [(.int 3), (.ref a1), (.int x2)])) rfl rfl (hb hby d4_42)) ?_
      show own_Go _ _ _ _ (s₁.setTop (mkF m 43 #[rv a1, iv 1, iv 3] [(.int x3), (.int x2)]))
      by_cases hc43__11 : x2 = x3
      · have hv_12 := hv_8.trans (if_pos hc43__11)
        refine o_icmpNo X0 hx (hb hby d4_43) (teq hc43__11).2 ?_
        refine o_iloadN X0 hx (hb hby d4_46) rfl ?_
        refine o_iconst X0 hx 4 (hb hby d4_47) rfl ?_
        refine o_icmpYes X0 hx (pc' := 62) (hb hby d4_48) (tlt (by decide : (3 : Int32) < (4 : Int32))).1 (by decide) (by decide) ?_
        refine o_iconst X0 hx 1 (hb hby d4_62) rfl ?_
        refine o_goto X0 hx (pc' := 67) (hb hby d4_63) (by decide) (by decide) ?_
        exact own_end X0 e0 (v := some (.int (1 : Int32))) (fun h => by rw [Bd.returns] at h; cases h) hlk (fun fs hr => retN X0 hx (z := (1 : Int32)) (t := .boolean) Bd.returns (by simp) (hb hby d4_67) hr) (Q := Q_rmeq13 Z a0 a1 k dv x0 x1 x2 x3 x4 h0 n0) ⟨(congrArg (fun z => some (Value.int z)) hv_12.symm), N0, rfl⟩ (by decide) (by decide)
      · have hv_13 := hv_8.trans (if_neg hc43__11)
        refine o_icmpYes X0 hx (pc' := 66) (hb hby d4_43) (feq hc43__11).2 (by decide) (by decide) ?_
        refine o_iconst X0 hx 0 (hb hby d4_66) rfl ?_
        exact own_end X0 e0 (v := some (.int (0 : Int32))) (fun h => by rw [Bd.returns] at h; cases h) hlk (fun fs hr => retN X0 hx (z := (0 : Int32)) (t := .boolean) Bd.returns (by simp) (hb hby d4_67) hr) (Q := Q_rmeq13 Z a0 a1 k dv x0 x1 x2 x3 x4 h0 n0) ⟨(congrArg (fun z => some (Value.int z)) hv_13.symm), N0, rfl⟩ (by decide) (by decide)
    · have hv_14 := hv_4.trans (if_neg hc27__7)
      refine o_icmpYes X0 hx (pc' := 66) (hb hby d4_27) (feq hc27__7).2 (by decide) (by decide) ?_
      refine o_iconst X0 hx 0 (hb hby d4_66) rfl ?_
      exact own_end X0 e0 (v := some (.int (0 : Int32))) (fun h => by rw [Bd.returns] at h; cases h) hlk (fun fs hr => retN X0 hx (z := (0 : Int32)) (t := .boolean) Bd.returns (by simp) (hb hby d4_67) hr) (Q := Q_rmeq13 Z a0 a1 k dv x0 x1 x2 x3 x4 h0 n0) ⟨(congrArg (fun z => some (Value.int z)) hv_14.symm), N0, rfl⟩ (by decide) (by decide)
  · have hv_15 := hv.trans (if_neg hc11__3)
    refine o_icmpYes X0 hx (pc' := 66) (hb hby d4_11) (feq hc11__3).2 (by decide) (by decide) ?_
    refine o_iconst X0 hx 0 (hb hby d4_66) rfl ?_
    exact own_end X0 e0 (v := some (.int (0 : Int32))) (fun h => by rw [Bd.returns] at h; cases h) hlk (fun fs hr => retN X0 hx (z := (0 : Int32)) (t := .boolean) Bd.returns (by simp) (hb hby d4_67) hr) (Q := Q_rmeq13 Z a0 a1 k dv x0 x1 x2 x3 x4 h0 n0) ⟨(congrArg (fun z => some (Value.int z)) hv_15.symm), N0, rfl⟩ (by decide) (by decide)
def own_eq22  (x0 : Int32) (x1 : Int32) (x2 : Int32) (x3 : Int32) (x4 : Int32) : Int32 := (if x0 = x2 then (if x1 = x3 then (1 : Int32) else (0 : Int32)) else (0 : Int32))
theorem ef_rmeq22 (m : MethodId) (a1 : Addr) : entryFrame m #[(.ref a1), (.int (2 : Int32)), (.int (2 : Int32))] 3 = mkF m 0 #[rv a1, iv 2, iv 2] [] := by first | (simp [entryFrame, mkF, argsToLocals, Value.category]; done) | rfl
def Q_rmeq22 (Z : State) (a0 : Array Value) (a1 : Addr) (k : ClassId) (dv : Value) (x0 : Int32) (x1 : Int32) (x2 : Int32) (x3 : Int32) (x4 : Int32) (h0 : Heap) (n0 : Nat) (v : Option Value) (h : Heap) (L : List Loc) : Prop := v = some (.int (own_eq22 x0 x1 x2 x3 x4)) ∧ Fr n0 L ∧ h = h0
set_option maxRecDepth 65536 in
set_option maxHeartbeats 40000000 in
theorem rmeq22 (l : Launch) (Z : State) (a0 : Array Value) (hw : ∀ d ∈ tables_1, d.before a0 Z = true) (ws : List Jvm.Cond) (a1 : Addr) (k : ClassId) (dv : Value) (x0 : Int32) (x1 : Int32) (x2 : Int32) (x3 : Int32) (x4 : Int32) (h0 : Heap) (n0 : Nat) (Z0 : n0 ≤ h0.size) (V1 : Arv Z h0 a1 k .int (5 : Int32) [(.int x0), (.int x1), (.int x2), (.int x3), (.int x4)] dv) :
    MetFree l (⟨"com/example/ordinance/ordinance/policy/PartFinderBordersPinLaw", "eq", "([III)Z"⟩ : MethodName) (head1 (Jvm.Cond.code (⟨"com/example/ordinance/ordinance/policy/PartFinderBordersPinLaw", "eq", "([III)Z"⟩ : MethodName) method_4_code 3 (some .boolean) :: ws) ({ frames := 0, cells := 0, slots := 0, locals := 0 } : Room)) (fun a U => a = #[(.ref a1), (.int (2 : Int32)), (.int (2 : Int32))] ∧ Z.Warmed39 U.vm ∧ U.heap = h0) (fun _ _ _ _ _ => True) (fun _ U o U' => ∃ v L, o = .returned v ∧ Q_rmeq22 Z a0 a1 k dv x0 x1 x2 x3 x4 h0 n0 v U'.heap L ∧ FrameEnd U o U' L ({ frames := 0, cells := 0, slots := 0, locals := 0 } : Room).cells ({ frames := 0, cells := 0, slots := 0, locals := 0 } : Room).slots) := by
  refine MetFree.of_bodySF (plainFor_of_name pn_1) hisR ?_
  intro p e s m args below meth c s₁ Bd hml0 hP hK
  obtain ⟨rfl, hZ, hh⟩ := hP
  have hx := Bd.exec
  have hby := Bd.bytes
  have hml : c.maxLocals = 3 := hml0
  have hown : s.vm.findClass "com/example/ordinance/ordinance/policy/PartFinderBordersPinLaw" = some m.cls := findClass_of_methodNamed Bd.named
  have hnm := (name_of_methodNamed Bd.named Bd.method).1
  have hlk : meth.locks = false := BodyLoose.notSynchronized (by assumption)
  have X0 : Stand p l e ({ frames := 0, cells := 0, slots := 0, locals := 0 } : Room) s m #[(.ref a1), (.int (2 : Int32)), (.int (2 : Int32))] below meth c s₁ [] 0 0 := Stand.of_body Bd
  have e0 : s₁.heap = h0 := by rw [← hh, Bd.state]; rfl
  have N0 := Fr.nil n0
  show own_Go p.tables e below (fun o U' => ∃ v L, o = .returned v ∧ Q_rmeq22 Z a0 a1 k dv x0 x1 x2 x3 x4 h0 n0 v U'.heap L ∧ FrameEnd s o U' L ({ frames := 0, cells := 0, slots := 0, locals := 0 } : Room).cells ({ frames := 0, cells := 0, slots := 0, locals := 0 } : Room).slots) (s₁.setTop (entryFrame m #[(.ref a1), (.int (2 : Int32)), (.int (2 : Int32))] 3))
  refine own_st (fun t k => castTop (ef_rmeq22 m a1) k) ?_
  have hv : own_eq22 x0 x1 x2 x3 x4 = (if x0 = x2 then (if x1 = x3 then (1 : Int32) else (0 : Int32)) else (0 : Int32)) := rfl
  show own_Go _ _ _ _ (s₁.setTop (mkF m 0 #[rv a1, iv 2, iv 2] []))
  refine o_iloadN X0 hx (hb hby d4_0) rfl ?_
  refine o_iconst X0 hx 1 (hb hby d4_1) rfl ?_
  refine o_icmpNo X0 hx (hb hby d4_2) (flt (by decide : ¬ ((2 : Int32) < (1 : Int32)))).1 ?_
  refine o_aloadN X0 hx (hb hby d4_5) rfl rfl ?_
  refine o_iconst X0 hx 0 (hb hby d4_6) rfl ?_
  obtain ⟨cl_1, Ar_1, qk_1, Sz_1, Ng_1, Hs_1, Gs_1⟩ := id V1
  refine own_st (X0.iaload hx (j := (0 : Int32)) (v := (.int x0)) (by rw [e0]; exact Ar_1.1) (State.isArrayOf_alike hZ.alike Ar_1.2.1) Ar_1.2.2 (inb_of Sz_1 ⟨by decide, by decide⟩) (Hs_1.at (j := (0 : Int32)) (inb_of Sz_1 ⟨by decide, by decide⟩) rfl) (g := (mkF m 7 #[rv a1, iv 2, iv 2] [(.int 0), (.ref a1)])) rfl rfl (hb hby d4_7)) ?_
  show own_Go _ _ _ _ (s₁.setTop (mkF m 8 #[rv a1, iv 2, iv 2] [(.int x0)]))
  refine o_aloadN X0 hx (hb hby d4_8) rfl rfl ?_
  refine o_iloadN X0 hx (hb hby d4_9) rfl ?_
  obtain ⟨cl_2, Ar_2, qk_2, Sz_2, Ng_2, Hs_2, Gs_2⟩ := id V1
  refine own_st (X0.iaload hx (j := (2 : Int32)) (v := (.int x2)) (by rw [e0]; exact Ar_2.1) (State.isArrayOf_alike hZ.alike Ar_2.2.1) Ar_2.2.2 (inb_of Sz_2 ⟨by decide, by decide⟩) (Hs_2.at (j := (2 : Int32)) (inb_of Sz_2 ⟨by decide, by decide⟩) rfl) (g := (mkF m 10 #[rv a1, iv 2, iv 2] [(.int 2), (.ref a1), (.int x0)])) rfl rfl (hb hby d4_10)) ?_
  show own_Go _ _ _ _ (s₁.setTop (mkF m 11 #[rv a1, iv 2, iv 2] [(.int x2), (.int x0)]))
  by_cases hc11__3 : x0 = x2
  · have hv_4 := hv.trans (if_pos hc11__3)
    refine o_icmpNo X0 hx (hb hby d4_11) (teq hc11__3).2 ?_
    refine o_iloadN X0 hx (hb hby d4_14) rfl ?_
    refine o_iconst X0 hx 2 (hb hby d4_15) rfl ?_
    refine o_icmpNo X0 hx (hb hby d4_16) (flt (by decide : ¬ ((2 : Int32) < (2 : Int32)))).1 ?_
    refine o_aloadN X0 hx (hb hby d4_19) rfl rfl ?_
    refine o_iconst X0 hx 1 (hb hby d4_20) rfl ?_
    obtain ⟨cl_5, Ar_5, qk_5, Sz_5, Ng_5, Hs_5, Gs_5⟩ := id V1
    refine own_st (X0.iaload hx (j := (1 : Int32)) (v := (.int x1)) (by rw [e0]; exact Ar_5.1) (State.isArrayOf_alike hZ.alike Ar_5.2.1) Ar_5.2.2 (inb_of Sz_5 ⟨by decide, by decide⟩) (Hs_5.at (j := (1 : Int32)) (inb_of Sz_5 ⟨by decide, by decide⟩) rfl) (g := (mkF m 21 #[rv a1, iv 2, iv 2] [(.int 1), (.ref a1)])) rfl rfl (hb hby d4_21)) ?_
    show own_Go _ _ _ _ (s₁.setTop (mkF m 22 #[rv a1, iv 2, iv 2] [(.int x1)]))
    refine o_aloadN X0 hx (hb hby d4_22) rfl rfl ?_
    refine o_iloadN X0 hx (hb hby d4_23) rfl ?_
    refine o_iconst X0 hx 1 (hb hby d4_24) rfl ?_
    refine o_iadd X0 hx (hb hby d4_25) ?_
    show own_Go _ _ _ _ (s₁.setTop (mkF m 26 #[rv a1, iv 2, iv 2] [(.int 3), (.ref a1), (.int x1)]))
    obtain ⟨cl_6, Ar_6, qk_6, Sz_6, Ng_6, Hs_6, Gs_6⟩ := id V1
    refine own_st (X0.iaload hx (j := (3 : Int32)) (v := (.int x3)) (by rw [e0]; exact Ar_6.1) (State.isArrayOf_alike hZ.alike Ar_6.2.1) Ar_6.2.2 (inb_of Sz_6 ⟨by decide, by decide⟩) (Hs_6.at (j := (3 : Int32)) (inb_of Sz_6 ⟨by decide, by decide⟩) rfl) (g := (mkF m 26 #[rv a1, iv 2, iv 2] [(.int 3), (.ref a1), (.int x1)])) rfl rfl (hb hby d4_26)) ?_
    show own_Go _ _ _ _ (s₁.setTop (mkF m 27 #[rv a1, iv 2, iv 2] [(.int x3), (.int x1)]))
    by_cases hc27__7 : x1 = x3
    · have hv_8 := hv_4.trans (if_pos hc27__7)
      refine o_icmpNo X0 hx (hb hby d4_27) (teq hc27__7).2 ?_
      refine o_iloadN X0 hx (hb hby d4_30) rfl ?_
      refine o_iconst X0 hx 3 (hb hby d4_31) rfl ?_
      refine o_icmpYes X0 hx (pc' := 46) (hb hby d4_32) (tlt (by decide : (2 : Int32) < (3 : Int32))).1 (by decide) (by decide) ?_
      refine o_iloadN X0 hx (hb hby d4_46) rfl ?_
      refine o_iconst X0 hx 4 (hb hby d4_47) rfl ?_
      refine o_icmpYes X0 hx (pc' := 62) (hb hby d4_48) (tlt (by decide : (2 : Int32) < (4 : Int32))).1 (by decide) (by decide) ?_
      refine o_iconst X0 hx 1 (hb hby d4_62) rfl ?_
      refine o_goto X0 hx (pc' := 67) (hb hby d4_63) (by decide) (by decide) ?_
      exact own_end X0 e0 (v := some (.int (1 : Int32))) (fun h => by rw [Bd.returns] at h; cases h) hlk (fun fs hr => retN X0 hx (z := (1 : Int32)) (t := .boolean) Bd.returns (by simp) (hb hby d4_67) hr) (Q := Q_rmeq22 Z a0 a1 k dv x0 x1 x2 x3 x4 h0 n0) ⟨(congrArg (fun z => some (Value.int z)) hv_8.symm), N0, rfl⟩ (by decide) (by decide)
    · have hv_9 := hv_4.trans (if_neg hc27__7)
      refine o_icmpYes X0 hx (pc' := 66) (hb hby d4_27) (feq hc27__7).2 (by decide) (by decide) ?_
      refine o_iconst X0 hx 0 (hb hby d4_66) rfl ?_
      exact own_end X0 e0 (v := some (.int (0 : Int32))) (fun h => by rw [Bd.returns] at h; cases h) hlk (fun fs hr => retN X0 hx (z := (0 : Int32)) (t := .boolean) Bd.returns (by simp) (hb hby d4_67) hr) (Q := Q_rmeq22 Z a0 a1 k dv x0 x1 x2 x3 x4 h0 n0) ⟨(congrArg (fun z => some (Value.int z)) hv_9.symm), N0, rfl⟩ (by decide) (by decide)
  · have hv_10 := hv.trans (if_neg hc11__3)
    refine o_icmpYes X0 hx (pc' := 66) (hb hby d4_11) (feq hc11__3).2 (by decide) (by decide) ?_
    refine o_iconst X0 hx 0 (hb hby d4_66) rfl ?_
    exact own_end X0 e0 (v := some (.int (0 : Int32))) (fun h => by rw [Bd.returns] at h; cases h) hlk (fun fs hr => retN X0 hx (z := (0 : Int32)) (t := .boolean) Bd.returns (by simp) (hb hby d4_67) hr) (Q := Q_rmeq22 Z a0 a1 k dv x0 x1 x2 x3 x4 h0 n0) ⟨(congrArg (fun z => some (Value.int z)) hv_10.symm), N0, rfl⟩ (by decide) (by decide)
def own_eq31  (x0 : Int32) (x1 : Int32) (x2 : Int32) (x3 : Int32) (x4 : Int32) : Int32 := (if x0 = x3 then (1 : Int32) else (0 : Int32))
theorem ef_rmeq31 (m : MethodId) (a1 : Addr) : entryFrame m #[(.ref a1), (.int (3 : Int32)), (.int (1 : Int32))] 3 = mkF m 0 #[rv a1, iv 3, iv 1] [] := by first | (simp [entryFrame, mkF, argsToLocals, Value.category]; done) | rfl
def Q_rmeq31 (Z : State) (a0 : Array Value) (a1 : Addr) (k : ClassId) (dv : Value) (x0 : Int32) (x1 : Int32) (x2 : Int32) (x3 : Int32) (x4 : Int32) (h0 : Heap) (n0 : Nat) (v : Option Value) (h : Heap) (L : List Loc) : Prop := v = some (.int (own_eq31 x0 x1 x2 x3 x4)) ∧ Fr n0 L ∧ h = h0
set_option maxRecDepth 65536 in
set_option maxHeartbeats 40000000 in
theorem rmeq31 (l : Launch) (Z : State) (a0 : Array Value) (hw : ∀ d ∈ tables_1, d.before a0 Z = true) (ws : List Jvm.Cond) (a1 : Addr) (k : ClassId) (dv : Value) (x0 : Int32) (x1 : Int32) (x2 : Int32) (x3 : Int32) (x4 : Int32) (h0 : Heap) (n0 : Nat) (Z0 : n0 ≤ h0.size) (V1 : Arv Z h0 a1 k .int (5 : Int32) [(.int x0), (.int x1), (.int x2), (.int x3), (.int x4)] dv) :
    MetFree l (⟨"com/example/ordinance/ordinance/policy/PartFinderBordersPinLaw", "eq", "([III)Z"⟩ : MethodName) (head1 (Jvm.Cond.code (⟨"com/example/ordinance/ordinance/policy/PartFinderBordersPinLaw", "eq", "([III)Z"⟩ : MethodName) method_4_code 3 (some .boolean) :: ws) ({ frames := 0, cells := 0, slots := 0, locals := 0 } : Room)) (fun a U => a = #[(.ref a1), (.int (3 : Int32)), (.int (1 : Int32))] ∧ Z.Warmed39 U.vm ∧ U.heap = h0) (fun _ _ _ _ _ => True) (fun _ U o U' => ∃ v L, o = .returned v ∧ Q_rmeq31 Z a0 a1 k dv x0 x1 x2 x3 x4 h0 n0 v U'.heap L ∧ FrameEnd U o U' L ({ frames := 0, cells := 0, slots := 0, locals := 0 } : Room).cells ({ frames := 0, cells := 0, slots := 0, locals := 0 } : Room).slots) := by
  refine MetFree.of_bodySF (plainFor_of_name pn_1) hisR ?_
  intro p e s m args below meth c s₁ Bd hml0 hP hK
  obtain ⟨rfl, hZ, hh⟩ := hP
  have hx := Bd.exec
  have hby := Bd.bytes
  have hml : c.maxLocals = 3 := hml0
  have hown : s.vm.findClass "com/example/ordinance/ordinance/policy/PartFinderBordersPinLaw" = some m.cls := findClass_of_methodNamed Bd.named
  have hnm := (name_of_methodNamed Bd.named Bd.method).1
  have hlk : meth.locks = false := BodyLoose.notSynchronized (by assumption)
  have X0 : Stand p l e ({ frames := 0, cells := 0, slots := 0, locals := 0 } : Room) s m #[(.ref a1), (.int (3 : Int32)), (.int (1 : Int32))] below meth c s₁ [] 0 0 := Stand.of_body Bd
  have e0 : s₁.heap = h0 := by rw [← hh, Bd.state]; rfl
  have N0 := Fr.nil n0
  show own_Go p.tables e below (fun o U' => ∃ v L, o = .returned v ∧ Q_rmeq31 Z a0 a1 k dv x0 x1 x2 x3 x4 h0 n0 v U'.heap L ∧ FrameEnd s o U' L ({ frames := 0, cells := 0, slots := 0, locals := 0 } : Room).cells ({ frames := 0, cells := 0, slots := 0, locals := 0 } : Room).slots) (s₁.setTop (entryFrame m #[(.ref a1), (.int (3 : Int32)), (.int (1 : Int32))] 3))
  refine own_st (fun t k => castTop (ef_rmeq31 m a1) k) ?_
  have hv : own_eq31 x0 x1 x2 x3 x4 = (if x0 = x3 then (1 : Int32) else (0 : Int32)) := rfl
  show own_Go _ _ _ _ (s₁.setTop (mkF m 0 #[rv a1, iv 3, iv 1] []))
  refine o_iloadN X0 hx (hb hby d4_0) rfl ?_
  refine o_iconst X0 hx 1 (hb hby d4_1) rfl ?_
  refine o_icmpNo X0 hx (hb hby d4_2) (flt (by decide : ¬ ((1 : Int32) < (1 : Int32)))).1 ?_
  refine o_aloadN X0 hx (hb hby d4_5) rfl rfl ?_
  refine o_iconst X0 hx 0 (hb hby d4_6) rfl ?_
  obtain ⟨cl_1, Ar_1, qk_1, Sz_1, Ng_1, Hs_1, Gs_1⟩ := id V1
  refine own_st (X0.iaload hx (j := (0 : Int32)) (v := (.int x0)) (by rw [e0]; exact Ar_1.1) (State.isArrayOf_alike hZ.alike Ar_1.2.1) Ar_1.2.2 (inb_of Sz_1 ⟨by decide, by decide⟩) (Hs_1.at (j := (0 : Int32)) (inb_of Sz_1 ⟨by decide, by decide⟩) rfl) (g := (mkF m 7 #[rv a1, iv 3, iv 1] [(.int 0), (.ref a1)])) rfl rfl (hb hby d4_7)) ?_
  show own_Go _ _ _ _ (s₁.setTop (mkF m 8 #[rv a1, iv 3, iv 1] [(.int x0)]))
  refine o_aloadN X0 hx (hb hby d4_8) rfl rfl ?_
  refine o_iloadN X0 hx (hb hby d4_9) rfl ?_
  obtain ⟨cl_2, Ar_2, qk_2, Sz_2, Ng_2, Hs_2, Gs_2⟩ := id V1
  refine own_st (X0.iaload hx (j := (3 : Int32)) (v := (.int x3)) (by rw [e0]; exact Ar_2.1) (State.isArrayOf_alike hZ.alike Ar_2.2.1) Ar_2.2.2 (inb_of Sz_2 ⟨by decide, by decide⟩) (Hs_2.at (j := (3 : Int32)) (inb_of Sz_2 ⟨by decide, by decide⟩) rfl) (g := (mkF m 10 #[rv a1, iv 3, iv 1] [(.int 3), (.ref a1), (.int x0)])) rfl rfl (hb hby d4_10)) ?_
  show own_Go _ _ _ _ (s₁.setTop (mkF m 11 #[rv a1, iv 3, iv 1] [(.int x3), (.int x0)]))
  by_cases hc11__3 : x0 = x3
  · have hv_4 := hv.trans (if_pos hc11__3)
    refine o_icmpNo X0 hx (hb hby d4_11) (teq hc11__3).2 ?_
    refine o_iloadN X0 hx (hb hby d4_14) rfl ?_
    refine o_iconst X0 hx 2 (hb hby d4_15) rfl ?_
    refine o_icmpYes X0 hx (pc' := 30) (hb hby d4_16) (tlt (by decide : (1 : Int32) < (2 : Int32))).1 (by decide) (by decide) ?_
    refine o_iloadN X0 hx (hb hby d4_30) rfl ?_
    refine o_iconst X0 hx 3 (hb hby d4_31) rfl ?_
    refine o_icmpYes X0 hx (pc' := 46) (hb hby d4_32) (tlt (by decide : (1 : Int32) < (3 : Int32))).1 (by decide) (by decide) ?_
    refine o_iloadN X0 hx (hb hby d4_46) rfl ?_
    refine o_iconst X0 hx 4 (hb hby d4_47) rfl ?_
    refine o_icmpYes X0 hx (pc' := 62) (hb hby d4_48) (tlt (by decide : (1 : Int32) < (4 : Int32))).1 (by decide) (by decide) ?_
    refine o_iconst X0 hx 1 (hb hby d4_62) rfl ?_
    refine o_goto X0 hx (pc' := 67) (hb hby d4_63) (by decide) (by decide) ?_
    exact own_end X0 e0 (v := some (.int (1 : Int32))) (fun h => by rw [Bd.returns] at h; cases h) hlk (fun fs hr => retN X0 hx (z := (1 : Int32)) (t := .boolean) Bd.returns (by simp) (hb hby d4_67) hr) (Q := Q_rmeq31 Z a0 a1 k dv x0 x1 x2 x3 x4 h0 n0) ⟨(congrArg (fun z => some (Value.int z)) hv_4.symm), N0, rfl⟩ (by decide) (by decide)
  · have hv_5 := hv.trans (if_neg hc11__3)
    refine o_icmpYes X0 hx (pc' := 66) (hb hby d4_11) (feq hc11__3).2 (by decide) (by decide) ?_
    refine o_iconst X0 hx 0 (hb hby d4_66) rfl ?_
    exact own_end X0 e0 (v := some (.int (0 : Int32))) (fun h => by rw [Bd.returns] at h; cases h) hlk (fun fs hr => retN X0 hx (z := (0 : Int32)) (t := .boolean) Bd.returns (by simp) (hb hby d4_67) hr) (Q := Q_rmeq31 Z a0 a1 k dv x0 x1 x2 x3 x4 h0 n0) ⟨(congrArg (fun z => some (Value.int z)) hv_5.symm), N0, rfl⟩ (by decide) (by decide)
def own_eq12  (x0 : Int32) (x1 : Int32) (x2 : Int32) (x3 : Int32) (x4 : Int32) : Int32 := (if x0 = x1 then (if x1 = x2 then (1 : Int32) else (0 : Int32)) else (0 : Int32))
theorem ef_rmeq12 (m : MethodId) (a1 : Addr) : entryFrame m #[(.ref a1), (.int (1 : Int32)), (.int (2 : Int32))] 3 = mkF m 0 #[rv a1, iv 1, iv 2] [] := by first | (simp [entryFrame, mkF, argsToLocals, Value.category]; done) | rfl
def Q_rmeq12 (Z : State) (a0 : Array Value) (a1 : Addr) (k : ClassId) (dv : Value) (x0 : Int32) (x1 : Int32) (x2 : Int32) (x3 : Int32) (x4 : Int32) (h0 : Heap) (n0 : Nat) (v : Option Value) (h : Heap) (L : List Loc) : Prop := v = some (.int (own_eq12 x0 x1 x2 x3 x4)) ∧ Fr n0 L ∧ h = h0
set_option maxRecDepth 65536 in
set_option maxHeartbeats 40000000 in
theorem rmeq12 (l : Launch) (Z : State) (a0 : Array Value) (hw : ∀ d ∈ tables_1, d.before a0 Z = true) (ws : List Jvm.Cond) (a1 : Addr) (k : ClassId) (dv : Value) (x0 : Int32) (x1 : Int32) (x2 : Int32) (x3 : Int32) (x4 : Int32) (h0 : Heap) (n0 : Nat) (Z0 : n0 ≤ h0.size) (V1 : Arv Z h0 a1 k .int (5 : Int32) [(.int x0), (.int x1), (.int x2), (.int x3), (.int x4)] dv) :
    MetFree l (⟨"com/example/ordinance/ordinance/policy/PartFinderBordersPinLaw", "eq", "([III)Z"⟩ : MethodName) (head1 (Jvm.Cond.code (⟨"com/example/ordinance/ordinance/policy/PartFinderBordersPinLaw", "eq", "([III)Z"⟩ : MethodName) method_4_code 3 (some .boolean) :: ws) ({ frames := 0, cells := 0, slots := 0, locals := 0 } : Room)) (fun a U => a = #[(.ref a1), (.int (1 : Int32)), (.int (2 : Int32))] ∧ Z.Warmed39 U.vm ∧ U.heap = h0) (fun _ _ _ _ _ => True) (fun _ U o U' => ∃ v L, o = .returned v ∧ Q_rmeq12 Z a0 a1 k dv x0 x1 x2 x3 x4 h0 n0 v U'.heap L ∧ FrameEnd U o U' L ({ frames := 0, cells := 0, slots := 0, locals := 0 } : Room).cells ({ frames := 0, cells := 0, slots := 0, locals := 0 } : Room).slots) := by
  refine MetFree.of_bodySF (plainFor_of_name pn_1) hisR ?_
  intro p e s m args below meth c s₁ Bd hml0 hP hK
  obtain ⟨rfl, hZ, hh⟩ := hP
  have hx := Bd.exec
  have hby := Bd.bytes
  have hml : c.maxLocals = 3 := hml0
  have hown : s.vm.findClass "com/example/ordinance/ordinance/policy/PartFinderBordersPinLaw" = some m.cls := findClass_of_methodNamed Bd.named
  have hnm := (name_of_methodNamed Bd.named Bd.method).1
  have hlk : meth.locks = false := BodyLoose.notSynchronized (by assumption)
  have X0 : Stand p l e ({ frames := 0, cells := 0, slots := 0, locals := 0 } : Room) s m #[(.ref a1), (.int (1 : Int32)), (.int (2 : Int32))] below meth c s₁ [] 0 0 := Stand.of_body Bd
  have e0 : s₁.heap = h0 := by rw [← hh, Bd.state]; rfl
  have N0 := Fr.nil n0
  show own_Go p.tables e below (fun o U' => ∃ v L, o = .returned v ∧ Q_rmeq12 Z a0 a1 k dv x0 x1 x2 x3 x4 h0 n0 v U'.heap L ∧ FrameEnd s o U' L ({ frames := 0, cells := 0, slots := 0, locals := 0 } : Room).cells ({ frames := 0, cells := 0, slots := 0, locals := 0 } : Room).slots) (s₁.setTop (entryFrame m #[(.ref a1), (.int (1 : Int32)), (.int (2 : Int32))] 3))
  refine own_st (fun t k => castTop (ef_rmeq12 m a1) k) ?_
  have hv : own_eq12 x0 x1 x2 x3 x4 = (if x0 = x1 then (if x1 = x2 then (1 : Int32) else (0 : Int32)) else (0 : Int32)) := rfl
  show own_Go _ _ _ _ (s₁.setTop (mkF m 0 #[rv a1, iv 1, iv 2] []))
  refine o_iloadN X0 hx (hb hby d4_0) rfl ?_
  refine o_iconst X0 hx 1 (hb hby d4_1) rfl ?_
  refine o_icmpNo X0 hx (hb hby d4_2) (flt (by decide : ¬ ((2 : Int32) < (1 : Int32)))).1 ?_
  refine o_aloadN X0 hx (hb hby d4_5) rfl rfl ?_
  refine o_iconst X0 hx 0 (hb hby d4_6) rfl ?_
  obtain ⟨cl_1, Ar_1, qk_1, Sz_1, Ng_1, Hs_1, Gs_1⟩ := id V1
  refine own_st (X0.iaload hx (j := (0 : Int32)) (v := (.int x0)) (by rw [e0]; exact Ar_1.1) (State.isArrayOf_alike hZ.alike Ar_1.2.1) Ar_1.2.2 (inb_of Sz_1 ⟨by decide, by decide⟩) (Hs_1.at (j := (0 : Int32)) (inb_of Sz_1 ⟨by decide, by decide⟩) rfl) (g := (mkF m 7 #[rv a1, iv 1, iv 2] [(.int 0), (.ref a1)])) rfl rfl (hb hby d4_7)) ?_
  show own_Go _ _ _ _ (s₁.setTop (mkF m 8 #[rv a1, iv 1, iv 2] [(.int x0)]))
  refine o_aloadN X0 hx (hb hby d4_8) rfl rfl ?_
  refine o_iloadN X0 hx (hb hby d4_9) rfl ?_
  obtain ⟨cl_2, Ar_2, qk_2, Sz_2, Ng_2, Hs_2, Gs_2⟩ := id V1
  refine own_st (X0.iaload hx (j := (1 : Int32)) (v := (.int x1)) (by rw [e0]; exact Ar_2.1) (State.isArrayOf_alike hZ.alike Ar_2.2.1) Ar_2.2.2 (inb_of Sz_2 ⟨by decide, by decide⟩) (Hs_2.at (j := (1 : Int32)) (inb_of Sz_2 ⟨by decide, by decide⟩) rfl) (g := (mkF m 10 #[rv a1, iv 1, iv 2] [(.int 1), (.ref a1), (.int x0)])) rfl rfl (hb hby d4_10)) ?_
  show own_Go _ _ _ _ (s₁.setTop (mkF m 11 #[rv a1, iv 1, iv 2] [(.int x1), (.int x0)]))
  by_cases hc11__3 : x0 = x1
  · have hv_4 := hv.trans (if_pos hc11__3)
    refine o_icmpNo X0 hx (hb hby d4_11) (teq hc11__3).2 ?_
    refine o_iloadN X0 hx (hb hby d4_14) rfl ?_
    refine o_iconst X0 hx 2 (hb hby d4_15) rfl ?_
    refine o_icmpNo X0 hx (hb hby d4_16) (flt (by decide : ¬ ((2 : Int32) < (2 : Int32)))).1 ?_
    refine o_aloadN X0 hx (hb hby d4_19) rfl rfl ?_
    refine o_iconst X0 hx 1 (hb hby d4_20) rfl ?_
    obtain ⟨cl_5, Ar_5, qk_5, Sz_5, Ng_5, Hs_5, Gs_5⟩ := id V1
    refine own_st (X0.iaload hx (j := (1 : Int32)) (v := (.int x1)) (by rw [e0]; exact Ar_5.1) (State.isArrayOf_alike hZ.alike Ar_5.2.1) Ar_5.2.2 (inb_of Sz_5 ⟨by decide, by decide⟩) (Hs_5.at (j := (1 : Int32)) (inb_of Sz_5 ⟨by decide, by decide⟩) rfl) (g := (mkF m 21 #[rv a1, iv 1, iv 2] [(.int 1), (.ref a1)])) rfl rfl (hb hby d4_21)) ?_
    show own_Go _ _ _ _ (s₁.setTop (mkF m 22 #[rv a1, iv 1, iv 2] [(.int x1)]))
    refine o_aloadN X0 hx (hb hby d4_22) rfl rfl ?_
    refine o_iloadN X0 hx (hb hby d4_23) rfl ?_
    refine o_iconst X0 hx 1 (hb hby d4_24) rfl ?_
    refine o_iadd X0 hx (hb hby d4_25) ?_
    show own_Go _ _ _ _ (s₁.setTop (mkF m 26 #[rv a1, iv 1, iv 2] [(.int 2), (.ref a1), (.int x1)]))
    obtain ⟨cl_6, Ar_6, qk_6, Sz_6, Ng_6, Hs_6, Gs_6⟩ := id V1
    refine own_st (X0.iaload hx (j := (2 : Int32)) (v := (.int x2)) (by rw [e0]; exact Ar_6.1) (State.isArrayOf_alike hZ.alike Ar_6.2.1) Ar_6.2.2 (inb_of Sz_6 ⟨by decide, by decide⟩) (Hs_6.at (j := (2 : Int32)) (inb_of Sz_6 ⟨by decide, by decide⟩) rfl) (g := (mkF m 26 #[rv a1, iv 1, iv 2] [(.int 2), (.ref a1), (.int x1)])) rfl rfl (hb hby d4_26)) ?_
    show own_Go _ _ _ _ (s₁.setTop (mkF m 27 #[rv a1, iv 1, iv 2] [(.int x2), (.int x1)]))
    by_cases hc27__7 : x1 = x2
    · have hv_8 := hv_4.trans (if_pos hc27__7)
      refine o_icmpNo X0 hx (hb hby d4_27) (teq hc27__7).2 ?_
      refine o_iloadN X0 hx (hb hby d4_30) rfl ?_
      refine o_iconst X0 hx 3 (hb hby d4_31) rfl ?_
      refine o_icmpYes X0 hx (pc' := 46) (hb hby d4_32) (tlt (by decide : (2 : Int32) < (3 : Int32))).1 (by decide) (by decide) ?_
      refine o_iloadN X0 hx (hb hby d4_46) rfl ?_
      refine o_iconst X0 hx 4 (hb hby d4_47) rfl ?_
      refine o_icmpYes X0 hx (pc' := 62) (hb hby d4_48) (tlt (by decide : (2 : Int32) < (4 : Int32))).1 (by decide) (by decide) ?_
      refine o_iconst X0 hx 1 (hb hby d4_62) rfl ?_
      refine o_goto X0 hx (pc' := 67) (hb hby d4_63) (by decide) (by decide) ?_
      exact own_end X0 e0 (v := some (.int (1 : Int32))) (fun h => by rw [Bd.returns] at h; cases h) hlk (fun fs hr => retN X0 hx (z := (1 : Int32)) (t := .boolean) Bd.returns (by simp) (hb hby d4_67) hr) (Q := Q_rmeq12 Z a0 a1 k dv x0 x1 x2 x3 x4 h0 n0) ⟨(congrArg (fun z => some (Value.int z)) hv_8.symm), N0, rfl⟩ (by decide) (by decide)
    · have hv_9 := hv_4.trans (if_neg hc27__7)
      refine o_icmpYes X0 hx (pc' := 66) (hb hby d4_27) (feq hc27__7).2 (by decide) (by decide) ?_
      refine o_iconst X0 hx 0 (hb hby d4_66) rfl ?_
      exact own_end X0 e0 (v := some (.int (0 : Int32))) (fun h => by rw [Bd.returns] at h; cases h) hlk (fun fs hr => retN X0 hx (z := (0 : Int32)) (t := .boolean) Bd.returns (by simp) (hb hby d4_67) hr) (Q := Q_rmeq12 Z a0 a1 k dv x0 x1 x2 x3 x4 h0 n0) ⟨(congrArg (fun z => some (Value.int z)) hv_9.symm), N0, rfl⟩ (by decide) (by decide)
  · have hv_10 := hv.trans (if_neg hc11__3)
    refine o_icmpYes X0 hx (pc' := 66) (hb hby d4_11) (feq hc11__3).2 (by decide) (by decide) ?_
    refine o_iconst X0 hx 0 (hb hby d4_66) rfl ?_
    exact own_end X0 e0 (v := some (.int (0 : Int32))) (fun h => by rw [Bd.returns] at h; cases h) hlk (fun fs hr => retN X0 hx (z := (0 : Int32)) (t := .boolean) Bd.returns (by simp) (hb hby d4_67) hr) (Q := Q_rmeq12 Z a0 a1 k dv x0 x1 x2 x3 x4 h0 n0) ⟨(congrArg (fun z => some (Value.int z)) hv_10.symm), N0, rfl⟩ (by decide) (by decide)
def own_eq21  (x0 : Int32) (x1 : Int32) (x2 : Int32) (x3 : Int32) (x4 : Int32) : Int32 := (if x0 = x2 then (1 : Int32) else (0 : Int32))
theorem ef_rmeq21 (m : MethodId) (a1 : Addr) : entryFrame m #[(.ref a1), (.int (2 : Int32)), (.int (1 : Int32))] 3 = mkF m 0 #[rv a1, iv 2, iv 1] [] := by first | (simp [entryFrame, mkF, argsToLocals, Value.category]; done) | rfl
def Q_rmeq21 (Z : State) (a0 : Array Value) (a1 : Addr) (k : ClassId) (dv : Value) (x0 : Int32) (x1 : Int32) (x2 : Int32) (x3 : Int32) (x4 : Int32) (h0 : Heap) (n0 : Nat) (v : Option Value) (h : Heap) (L : List Loc) : Prop := v = some (.int (own_eq21 x0 x1 x2 x3 x4)) ∧ Fr n0 L ∧ h = h0
set_option maxRecDepth 65536 in
set_option maxHeartbeats 40000000 in
theorem rmeq21 (l : Launch) (Z : State) (a0 : Array Value) (hw : ∀ d ∈ tables_1, d.before a0 Z = true) (ws : List Jvm.Cond) (a1 : Addr) (k : ClassId) (dv : Value) (x0 : Int32) (x1 : Int32) (x2 : Int32) (x3 : Int32) (x4 : Int32) (h0 : Heap) (n0 : Nat) (Z0 : n0 ≤ h0.size) (V1 : Arv Z h0 a1 k .int (5 : Int32) [(.int x0), (.int x1), (.int x2), (.int x3), (.int x4)] dv) :
    MetFree l (⟨"com/example/ordinance/ordinance/policy/PartFinderBordersPinLaw", "eq", "([III)Z"⟩ : MethodName) (head1 (Jvm.Cond.code (⟨"com/example/ordinance/ordinance/policy/PartFinderBordersPinLaw", "eq", "([III)Z"⟩ : MethodName) method_4_code 3 (some .boolean) :: ws) ({ frames := 0, cells := 0, slots := 0, locals := 0 } : Room)) (fun a U => a = #[(.ref a1), (.int (2 : Int32)), (.int (1 : Int32))] ∧ Z.Warmed39 U.vm ∧ U.heap = h0) (fun _ _ _ _ _ => True) (fun _ U o U' => ∃ v L, o = .returned v ∧ Q_rmeq21 Z a0 a1 k dv x0 x1 x2 x3 x4 h0 n0 v U'.heap L ∧ FrameEnd U o U' L ({ frames := 0, cells := 0, slots := 0, locals := 0 } : Room).cells ({ frames := 0, cells := 0, slots := 0, locals := 0 } : Room).slots) := by
  refine MetFree.of_bodySF (plainFor_of_name pn_1) hisR ?_
  intro p e s m args below meth c s₁ Bd hml0 hP hK
  obtain ⟨rfl, hZ, hh⟩ := hP
  have hx := Bd.exec
  have hby := Bd.bytes
  have hml : c.maxLocals = 3 := hml0
  have hown : s.vm.findClass "com/example/ordinance/ordinance/policy/PartFinderBordersPinLaw" = some m.cls := findClass_of_methodNamed Bd.named
  have hnm := (name_of_methodNamed Bd.named Bd.method).1
  have hlk : meth.locks = false := BodyLoose.notSynchronized (by assumption)
  have X0 : Stand p l e ({ frames := 0, cells := 0, slots := 0, locals := 0 } : Room) s m #[(.ref a1), (.int (2 : Int32)), (.int (1 : Int32))] below meth c s₁ [] 0 0 := Stand.of_body Bd
  have e0 : s₁.heap = h0 := by rw [← hh, Bd.state]; rfl
  have N0 := Fr.nil n0
  show own_Go p.tables e below (fun o U' => ∃ v L, o = .returned v ∧ Q_rmeq21 Z a0 a1 k dv x0 x1 x2 x3 x4 h0 n0 v U'.heap L ∧ FrameEnd s o U' L ({ frames := 0, cells := 0, slots := 0, locals := 0 } : Room).cells ({ frames := 0, cells := 0, slots := 0, locals := 0 } : Room).slots) (s₁.setTop (entryFrame m #[(.ref a1), (.int (2 : Int32)), (.int (1 : Int32))] 3))
  refine own_st (fun t k => castTop (ef_rmeq21 m a1) k) ?_
  have hv : own_eq21 x0 x1 x2 x3 x4 = (if x0 = x2 then (1 : Int32) else (0 : Int32)) := rfl
  show own_Go _ _ _ _ (s₁.setTop (mkF m 0 #[rv a1, iv 2, iv 1] []))
  refine o_iloadN X0 hx (hb hby d4_0) rfl ?_
  refine o_iconst X0 hx 1 (hb hby d4_1) rfl ?_
  refine o_icmpNo X0 hx (hb hby d4_2) (flt (by decide : ¬ ((1 : Int32) < (1 : Int32)))).1 ?_
  refine o_aloadN X0 hx (hb hby d4_5) rfl rfl ?_
  refine o_iconst X0 hx 0 (hb hby d4_6) rfl ?_
  obtain ⟨cl_1, Ar_1, qk_1, Sz_1, Ng_1, Hs_1, Gs_1⟩ := id V1
  refine own_st (X0.iaload hx (j := (0 : Int32)) (v := (.int x0)) (by rw [e0]; exact Ar_1.1) (State.isArrayOf_alike hZ.alike Ar_1.2.1) Ar_1.2.2 (inb_of Sz_1 ⟨by decide, by decide⟩) (Hs_1.at (j := (0 : Int32)) (inb_of Sz_1 ⟨by decide, by decide⟩) rfl) (g := (mkF m 7 #[rv a1, iv 2, iv 1] [(.int 0), (.ref a1)])) rfl rfl (hb hby d4_7)) ?_
  show own_Go _ _ _ _ (s₁.setTop (mkF m 8 #[rv a1, iv 2, iv 1] [(.int x0)]))
  refine o_aloadN X0 hx (hb hby d4_8) rfl rfl ?_
  refine o_iloadN X0 hx (hb hby d4_9) rfl ?_
  obtain ⟨cl_2, Ar_2, qk_2, Sz_2, Ng_2, Hs_2, Gs_2⟩ := id V1
  refine own_st (X0.iaload hx (j := (2 : Int32)) (v := (.int x2)) (by rw [e0]; exact Ar_2.1) (State.isArrayOf_alike hZ.alike Ar_2.2.1) Ar_2.2.2 (inb_of Sz_2 ⟨by decide, by decide⟩) (Hs_2.at (j := (2 : Int32)) (inb_of Sz_2 ⟨by decide, by decide⟩) rfl) (g := (mkF m 10 #[rv a1, iv 2, iv 1] [(.int 2), (.ref a1), (.int x0)])) rfl rfl (hb hby d4_10)) ?_
  show own_Go _ _ _ _ (s₁.setTop (mkF m 11 #[rv a1, iv 2, iv 1] [(.int x2), (.int x0)]))
  by_cases hc11__3 : x0 = x2
  · have hv_4 := hv.trans (if_pos hc11__3)
    refine o_icmpNo X0 hx (hb hby d4_11) (teq hc11__3).2 ?_
    refine o_iloadN X0 hx (hb hby d4_14) rfl ?_
    refine o_iconst X0 hx 2 (hb hby d4_15) rfl ?_
    refine o_icmpYes X0 hx (pc' := 30) (hb hby d4_16) (tlt (by decide : (1 : Int32) < (2 : Int32))).1 (by decide) (by decide) ?_
    refine o_iloadN X0 hx (hb hby d4_30) rfl ?_
    refine o_iconst X0 hx 3 (hb hby d4_31) rfl ?_
    refine o_icmpYes X0 hx (pc' := 46) (hb hby d4_32) (tlt (by decide : (1 : Int32) < (3 : Int32))).1 (by decide) (by decide) ?_
    refine o_iloadN X0 hx (hb hby d4_46) rfl ?_
    refine o_iconst X0 hx 4 (hb hby d4_47) rfl ?_
    refine o_icmpYes X0 hx (pc' := 62) (hb hby d4_48) (tlt (by decide : (1 : Int32) < (4 : Int32))).1 (by decide) (by decide) ?_
    refine o_iconst X0 hx 1 (hb hby d4_62) rfl ?_
    refine o_goto X0 hx (pc' := 67) (hb hby d4_63) (by decide) (by decide) ?_
    exact own_end X0 e0 (v := some (.int (1 : Int32))) (fun h => by rw [Bd.returns] at h; cases h) hlk (fun fs hr => retN X0 hx (z := (1 : Int32)) (t := .boolean) Bd.returns (by simp) (hb hby d4_67) hr) (Q := Q_rmeq21 Z a0 a1 k dv x0 x1 x2 x3 x4 h0 n0) ⟨(congrArg (fun z => some (Value.int z)) hv_4.symm), N0, rfl⟩ (by decide) (by decide)
  · have hv_5 := hv.trans (if_neg hc11__3)
    refine o_icmpYes X0 hx (pc' := 66) (hb hby d4_11) (feq hc11__3).2 (by decide) (by decide) ?_
    refine o_iconst X0 hx 0 (hb hby d4_66) rfl ?_
    exact own_end X0 e0 (v := some (.int (0 : Int32))) (fun h => by rw [Bd.returns] at h; cases h) hlk (fun fs hr => retN X0 hx (z := (0 : Int32)) (t := .boolean) Bd.returns (by simp) (hb hby d4_67) hr) (Q := Q_rmeq21 Z a0 a1 k dv x0 x1 x2 x3 x4 h0 n0) ⟨(congrArg (fun z => some (Value.int z)) hv_5.symm), N0, rfl⟩ (by decide) (by decide)
def own_eq11  (x0 : Int32) (x1 : Int32) (x2 : Int32) (x3 : Int32) (x4 : Int32) : Int32 := (if x0 = x1 then (1 : Int32) else (0 : Int32))
theorem ef_rmeq11 (m : MethodId) (a1 : Addr) : entryFrame m #[(.ref a1), (.int (1 : Int32)), (.int (1 : Int32))] 3 = mkF m 0 #[rv a1, iv 1, iv 1] [] := by first | (simp [entryFrame, mkF, argsToLocals, Value.category]; done) | rfl
def Q_rmeq11 (Z : State) (a0 : Array Value) (a1 : Addr) (k : ClassId) (dv : Value) (x0 : Int32) (x1 : Int32) (x2 : Int32) (x3 : Int32) (x4 : Int32) (h0 : Heap) (n0 : Nat) (v : Option Value) (h : Heap) (L : List Loc) : Prop := v = some (.int (own_eq11 x0 x1 x2 x3 x4)) ∧ Fr n0 L ∧ h = h0
set_option maxRecDepth 65536 in
set_option maxHeartbeats 40000000 in
theorem rmeq11 (l : Launch) (Z : State) (a0 : Array Value) (hw : ∀ d ∈ tables_1, d.before a0 Z = true) (ws : List Jvm.Cond) (a1 : Addr) (k : ClassId) (dv : Value) (x0 : Int32) (x1 : Int32) (x2 : Int32) (x3 : Int32) (x4 : Int32) (h0 : Heap) (n0 : Nat) (Z0 : n0 ≤ h0.size) (V1 : Arv Z h0 a1 k .int (5 : Int32) [(.int x0), (.int x1), (.int x2), (.int x3), (.int x4)] dv) :
    MetFree l (⟨"com/example/ordinance/ordinance/policy/PartFinderBordersPinLaw", "eq", "([III)Z"⟩ : MethodName) (head1 (Jvm.Cond.code (⟨"com/example/ordinance/ordinance/policy/PartFinderBordersPinLaw", "eq", "([III)Z"⟩ : MethodName) method_4_code 3 (some .boolean) :: ws) ({ frames := 0, cells := 0, slots := 0, locals := 0 } : Room)) (fun a U => a = #[(.ref a1), (.int (1 : Int32)), (.int (1 : Int32))] ∧ Z.Warmed39 U.vm ∧ U.heap = h0) (fun _ _ _ _ _ => True) (fun _ U o U' => ∃ v L, o = .returned v ∧ Q_rmeq11 Z a0 a1 k dv x0 x1 x2 x3 x4 h0 n0 v U'.heap L ∧ FrameEnd U o U' L ({ frames := 0, cells := 0, slots := 0, locals := 0 } : Room).cells ({ frames := 0, cells := 0, slots := 0, locals := 0 } : Room).slots) := by
  refine MetFree.of_bodySF (plainFor_of_name pn_1) hisR ?_
  intro p e s m args below meth c s₁ Bd hml0 hP hK
  obtain ⟨rfl, hZ, hh⟩ := hP
  have hx := Bd.exec
  have hby := Bd.bytes
  have hml : c.maxLocals = 3 := hml0
  have hown : s.vm.findClass "com/example/ordinance/ordinance/policy/PartFinderBordersPinLaw" = some m.cls := findClass_of_methodNamed Bd.named
  have hnm := (name_of_methodNamed Bd.named Bd.method).1
  have hlk : meth.locks = false := BodyLoose.notSynchronized (by assumption)
  have X0 : Stand p l e ({ frames := 0, cells := 0, slots := 0, locals := 0 } : Room) s m #[(.ref a1), (.int (1 : Int32)), (.int (1 : Int32))] below meth c s₁ [] 0 0 := Stand.of_body Bd
  have e0 : s₁.heap = h0 := by rw [← hh, Bd.state]; rfl
  have N0 := Fr.nil n0
  show own_Go p.tables e below (fun o U' => ∃ v L, o = .returned v ∧ Q_rmeq11 Z a0 a1 k dv x0 x1 x2 x3 x4 h0 n0 v U'.heap L ∧ FrameEnd s o U' L ({ frames := 0, cells := 0, slots := 0, locals := 0 } : Room).cells ({ frames := 0, cells := 0, slots := 0, locals := 0 } : Room).slots) (s₁.setTop (entryFrame m #[(.ref a1), (.int (1 : Int32)), (.int (1 : Int32))] 3))
  refine own_st (fun t k => castTop (ef_rmeq11 m a1) k) ?_
  have hv : own_eq11 x0 x1 x2 x3 x4 = (if x0 = x1 then (1 : Int32) else (0 : Int32)) := rfl
  show own_Go _ _ _ _ (s₁.setTop (mkF m 0 #[rv a1, iv 1, iv 1] []))
  refine o_iloadN X0 hx (hb hby d4_0) rfl ?_
  refine o_iconst X0 hx 1 (hb hby d4_1) rfl ?_
  refine o_icmpNo X0 hx (hb hby d4_2) (flt (by decide : ¬ ((1 : Int32) < (1 : Int32)))).1 ?_
  refine o_aloadN X0 hx (hb hby d4_5) rfl rfl ?_
  refine o_iconst X0 hx 0 (hb hby d4_6) rfl ?_
  obtain ⟨cl_1, Ar_1, qk_1, Sz_1, Ng_1, Hs_1, Gs_1⟩ := id V1
  refine own_st (X0.iaload hx (j := (0 : Int32)) (v := (.int x0)) (by rw [e0]; exact Ar_1.1) (State.isArrayOf_alike hZ.alike Ar_1.2.1) Ar_1.2.2 (inb_of Sz_1 ⟨by decide, by decide⟩) (Hs_1.at (j := (0 : Int32)) (inb_of Sz_1 ⟨by decide, by decide⟩) rfl) (g := (mkF m 7 #[rv a1, iv 1, iv 1] [(.int 0), (.ref a1)])) rfl rfl (hb hby d4_7)) ?_
  show own_Go _ _ _ _ (s₁.setTop (mkF m 8 #[rv a1, iv 1, iv 1] [(.int x0)]))
  refine o_aloadN X0 hx (hb hby d4_8) rfl rfl ?_
  refine o_iloadN X0 hx (hb hby d4_9) rfl ?_
  obtain ⟨cl_2, Ar_2, qk_2, Sz_2, Ng_2, Hs_2, Gs_2⟩ := id V1
  refine own_st (X0.iaload hx (j := (1 : Int32)) (v := (.int x1)) (by rw [e0]; exact Ar_2.1) (State.isArrayOf_alike hZ.alike Ar_2.2.1) Ar_2.2.2 (inb_of Sz_2 ⟨by decide, by decide⟩) (Hs_2.at (j := (1 : Int32)) (inb_of Sz_2 ⟨by decide, by decide⟩) rfl) (g := (mkF m 10 #[rv a1, iv 1, iv 1] [(.int 1), (.ref a1), (.int x0)])) rfl rfl (hb hby d4_10)) ?_
  show own_Go _ _ _ _ (s₁.setTop (mkF m 11 #[rv a1, iv 1, iv 1] [(.int x1), (.int x0)]))
  by_cases hc11__3 : x0 = x1
  · have hv_4 := hv.trans (if_pos hc11__3)
    refine o_icmpNo X0 hx (hb hby d4_11) (teq hc11__3).2 ?_
    refine o_iloadN X0 hx (hb hby d4_14) rfl ?_
    refine o_iconst X0 hx 2 (hb hby d4_15) rfl ?_
    refine o_icmpYes X0 hx (pc' := 30) (hb hby d4_16) (tlt (by decide : (1 : Int32) < (2 : Int32))).1 (by decide) (by decide) ?_
    refine o_iloadN X0 hx (hb hby d4_30) rfl ?_
    refine o_iconst X0 hx 3 (hb hby d4_31) rfl ?_
    refine o_icmpYes X0 hx (pc' := 46) (hb hby d4_32) (tlt (by decide : (1 : Int32) < (3 : Int32))).1 (by decide) (by decide) ?_
    refine o_iloadN X0 hx (hb hby d4_46) rfl ?_
    refine o_iconst X0 hx 4 (hb hby d4_47) rfl ?_
    refine o_icmpYes X0 hx (pc' := 62) (hb hby d4_48) (tlt (by decide : (1 : Int32) < (4 : Int32))).1 (by decide) (by decide) ?_
    refine o_iconst X0 hx 1 (hb hby d4_62) rfl ?_
    refine o_goto X0 hx (pc' := 67) (hb hby d4_63) (by decide) (by decide) ?_
    exact own_end X0 e0 (v := some (.int (1 : Int32))) (fun h => by rw [Bd.returns] at h; cases h) hlk (fun fs hr => retN X0 hx (z := (1 : Int32)) (t := .boolean) Bd.returns (by simp) (hb hby d4_67) hr) (Q := Q_rmeq11 Z a0 a1 k dv x0 x1 x2 x3 x4 h0 n0) ⟨(congrArg (fun z => some (Value.int z)) hv_4.symm), N0, rfl⟩ (by decide) (by decide)
  · have hv_5 := hv.trans (if_neg hc11__3)
    refine o_icmpYes X0 hx (pc' := 66) (hb hby d4_11) (feq hc11__3).2 (by decide) (by decide) ?_
    refine o_iconst X0 hx 0 (hb hby d4_66) rfl ?_
    exact own_end X0 e0 (v := some (.int (0 : Int32))) (fun h => by rw [Bd.returns] at h; cases h) hlk (fun fs hr => retN X0 hx (z := (0 : Int32)) (t := .boolean) Bd.returns (by simp) (hb hby d4_67) hr) (Q := Q_rmeq11 Z a0 a1 k dv x0 x1 x2 x3 x4 h0 n0) ⟨(congrArg (fun z => some (Value.int z)) hv_5.symm), N0, rfl⟩ (by decide) (by decide)
def own_ref1  (x0 : Int32) (x1 : Int32) (x2 : Int32) (x3 : Int32) (x4 : Int32) : Int32 := (0 : Int32)
theorem d3_0 : decode method_5_code 0 = .ok (.iload_n 1, 1) := by decide +kernel
theorem d3_1 : decode method_5_code 1 = .ok (.iconst 5, 1) := by decide +kernel
theorem d3_2 : decode method_5_code 2 = .ok (.if_icmp .lt 16, 3) := by decide +kernel
theorem d3_18 : decode method_5_code 18 = .ok (.iload_n 1, 1) := by decide +kernel
theorem d3_19 : decode method_5_code 19 = .ok (.iconst 4, 1) := by decide +kernel
theorem d3_20 : decode method_5_code 20 = .ok (.if_icmp .lt 16, 3) := by decide +kernel
theorem d3_36 : decode method_5_code 36 = .ok (.iload_n 1, 1) := by decide +kernel
theorem d3_37 : decode method_5_code 37 = .ok (.iconst 3, 1) := by decide +kernel
theorem d3_38 : decode method_5_code 38 = .ok (.if_icmp .lt 16, 3) := by decide +kernel
theorem d3_54 : decode method_5_code 54 = .ok (.iload_n 1, 1) := by decide +kernel
theorem d3_55 : decode method_5_code 55 = .ok (.iconst 2, 1) := by decide +kernel
theorem d3_56 : decode method_5_code 56 = .ok (.if_icmp .lt 16, 3) := by decide +kernel
theorem d3_72 : decode method_5_code 72 = .ok (.iconst 0, 1) := by decide +kernel
theorem d3_73 : decode method_5_code 73 = .ok (.ireturn, 1) := by decide +kernel
theorem ef_rmref1 (m : MethodId) (a1 : Addr) : entryFrame m #[(.ref a1), (.int (1 : Int32))] 2 = mkF m 0 #[rv a1, iv 1] [] := by first | (simp [entryFrame, mkF, argsToLocals, Value.category]; done) | rfl
def Q_rmref1 (Z : State) (a0 : Array Value) (a1 : Addr) (k : ClassId) (dv : Value) (x0 : Int32) (x1 : Int32) (x2 : Int32) (x3 : Int32) (x4 : Int32) (h0 : Heap) (n0 : Nat) (v : Option Value) (h : Heap) (L : List Loc) : Prop := v = some (.int (own_ref1 x0 x1 x2 x3 x4)) ∧ Fr n0 L ∧ h = h0
set_option maxRecDepth 65536 in
set_option maxHeartbeats 40000000 in
theorem rmref1 (l : Launch) (Z : State) (a0 : Array Value) (hw : ∀ d ∈ tables_1, d.before a0 Z = true) (ws : List Jvm.Cond) (a1 : Addr) (k : ClassId) (dv : Value) (x0 : Int32) (x1 : Int32) (x2 : Int32) (x3 : Int32) (x4 : Int32) (h0 : Heap) (n0 : Nat) (Z0 : n0 ≤ h0.size) (V1 : Arv Z h0 a1 k .int (5 : Int32) [(.int x0), (.int x1), (.int x2), (.int x3), (.int x4)] dv) :
    MetFree l (⟨"com/example/ordinance/ordinance/policy/PartFinderBordersPinLaw", "ref", "([II)I"⟩ : MethodName) (head1 (Jvm.Cond.code (⟨"com/example/ordinance/ordinance/policy/PartFinderBordersPinLaw", "ref", "([II)I"⟩ : MethodName) method_5_code 2 (some .int) :: ws) ({ frames := 0, cells := 0, slots := 0, locals := 0 } : Room)) (fun a U => a = #[(.ref a1), (.int (1 : Int32))] ∧ Z.Warmed39 U.vm ∧ U.heap = h0) (fun _ _ _ _ _ => True) (fun _ U o U' => ∃ v L, o = .returned v ∧ Q_rmref1 Z a0 a1 k dv x0 x1 x2 x3 x4 h0 n0 v U'.heap L ∧ FrameEnd U o U' L ({ frames := 0, cells := 0, slots := 0, locals := 0 } : Room).cells ({ frames := 0, cells := 0, slots := 0, locals := 0 } : Room).slots) := by
  refine MetFree.of_bodySF (plainFor_of_name pn_1) hisR ?_
  intro p e s m args below meth c s₁ Bd hml0 hP hK
  obtain ⟨rfl, hZ, hh⟩ := hP
  have hx := Bd.exec
  have hby := Bd.bytes
  have hml : c.maxLocals = 2 := hml0
  have hown : s.vm.findClass "com/example/ordinance/ordinance/policy/PartFinderBordersPinLaw" = some m.cls := findClass_of_methodNamed Bd.named
  have hnm := (name_of_methodNamed Bd.named Bd.method).1
  have hlk : meth.locks = false := BodyLoose.notSynchronized (by assumption)
  have X0 : Stand p l e ({ frames := 0, cells := 0, slots := 0, locals := 0 } : Room) s m #[(.ref a1), (.int (1 : Int32))] below meth c s₁ [] 0 0 := Stand.of_body Bd
  have e0 : s₁.heap = h0 := by rw [← hh, Bd.state]; rfl
  have N0 := Fr.nil n0
  show own_Go p.tables e below (fun o U' => ∃ v L, o = .returned v ∧ Q_rmref1 Z a0 a1 k dv x0 x1 x2 x3 x4 h0 n0 v U'.heap L ∧ FrameEnd s o U' L ({ frames := 0, cells := 0, slots := 0, locals := 0 } : Room).cells ({ frames := 0, cells := 0, slots := 0, locals := 0 } : Room).slots) (s₁.setTop (entryFrame m #[(.ref a1), (.int (1 : Int32))] 2))
  refine own_st (fun t k => castTop (ef_rmref1 m a1) k) ?_
  have hv : own_ref1 x0 x1 x2 x3 x4 = (0 : Int32) := rfl
  show own_Go _ _ _ _ (s₁.setTop (mkF m 0 #[rv a1, iv 1] []))
  refine o_iloadN X0 hx (hb hby d3_0) rfl ?_
  refine o_iconst X0 hx 5 (hb hby d3_1) rfl ?_
  refine o_icmpYes X0 hx (pc' := 18) (hb hby d3_2) (tlt (by decide : (1 : Int32) < (5 : Int32))).1 (by decide) (by decide) ?_
  refine o_iloadN X0 hx (hb hby d3_18) rfl ?_
  refine o_iconst X0 hx 4 (hb hby d3_19) rfl ?_
  refine o_icmpYes X0 hx (pc' := 36) (hb hby d3_20) (tlt (by decide : (1 : Int32) < (4 : Int32))).1 (by decide) (by decide) ?_
  refine o_iloadN X0 hx (hb hby d3_36) rfl ?_
  refine o_iconst X0 hx 3 (hb hby d3_37) rfl ?_
  refine o_icmpYes X0 hx (pc' := 54) (hb hby d3_38) (tlt (by decide : (1 : Int32) < (3 : Int32))).1 (by decide) (by decide) ?_
  refine o_iloadN X0 hx (hb hby d3_54) rfl ?_
  refine o_iconst X0 hx 2 (hb hby d3_55) rfl ?_
  refine o_icmpYes X0 hx (pc' := 72) (hb hby d3_56) (tlt (by decide : (1 : Int32) < (2 : Int32))).1 (by decide) (by decide) ?_
  refine o_iconst X0 hx 0 (hb hby d3_72) rfl ?_
  exact own_end X0 e0 (v := some (.int (0 : Int32))) (fun h => by rw [Bd.returns] at h; cases h) hlk (fun fs hr => retI X0 hx Bd.returns (hb hby d3_73) hr) (Q := Q_rmref1 Z a0 a1 k dv x0 x1 x2 x3 x4 h0 n0) ⟨(congrArg (fun z => some (Value.int z)) hv.symm), N0, rfl⟩ (by decide) (by decide)
def own_ref2  (x0 : Int32) (x1 : Int32) (x2 : Int32) (x3 : Int32) (x4 : Int32) : Int32 := (if (own_eq11 x0 x1 x2 x3 x4) = (0 : Int32) then (0 : Int32) else (1 : Int32))
theorem d3_59 : decode method_5_code 59 = .ok (.aload_n 0, 1) := by decide +kernel
theorem d3_60 : decode method_5_code 60 = .ok (.iload_n 1, 1) := by decide +kernel
theorem d3_61 : decode method_5_code 61 = .ok (.iconst 1, 1) := by decide +kernel
theorem d3_62 : decode method_5_code 62 = .ok (.isub, 1) := by decide +kernel
theorem d3_63 : decode method_5_code 63 = .ok (.iconst 1, 1) := by decide +kernel
theorem d3_64 : decode method_5_code 64 = .ok (.invokestatic 24, 3) := by decide +kernel
theorem pd_1 : parseMethodDescriptor "([III)Z" = some ⟨[(.array .int), .int, .int], some .boolean⟩ := by decide +kernel
theorem d3_67 : decode method_5_code 67 = .ok (.ifCond .eq 5, 3) := by decide +kernel
theorem d3_70 : decode method_5_code 70 = .ok (.iconst 1, 1) := by decide +kernel
theorem d3_71 : decode method_5_code 71 = .ok (.ireturn, 1) := by decide +kernel
theorem ef_rmref2 (m : MethodId) (a1 : Addr) : entryFrame m #[(.ref a1), (.int (2 : Int32))] 2 = mkF m 0 #[rv a1, iv 2] [] := by first | (simp [entryFrame, mkF, argsToLocals, Value.category]; done) | rfl
def Q_rmref2 (Z : State) (a0 : Array Value) (a1 : Addr) (k : ClassId) (dv : Value) (x0 : Int32) (x1 : Int32) (x2 : Int32) (x3 : Int32) (x4 : Int32) (h0 : Heap) (n0 : Nat) (v : Option Value) (h : Heap) (L : List Loc) : Prop := v = some (.int (own_ref2 x0 x1 x2 x3 x4)) ∧ Fr n0 L ∧ h = h0
set_option maxRecDepth 65536 in
set_option maxHeartbeats 40000000 in
theorem rmref2 (l : Launch) (Z : State) (a0 : Array Value) (hw : ∀ d ∈ tables_1, d.before a0 Z = true) (ws : List Jvm.Cond) (a1 : Addr) (k : ClassId) (dv : Value) (x0 : Int32) (x1 : Int32) (x2 : Int32) (x3 : Int32) (x4 : Int32) (h0 : Heap) (n0 : Nat) (Z0 : n0 ≤ h0.size) (V1 : Arv Z h0 a1 k .int (5 : Int32) [(.int x0), (.int x1), (.int x2), (.int x3), (.int x4)] dv) :
    MetFree l (⟨"com/example/ordinance/ordinance/policy/PartFinderBordersPinLaw", "ref", "([II)I"⟩ : MethodName) (head1 (Jvm.Cond.code (⟨"com/example/ordinance/ordinance/policy/PartFinderBordersPinLaw", "ref", "([II)I"⟩ : MethodName) method_5_code 2 (some .int) :: ws) ({ frames := 1, cells := 0, slots := 0, locals := 14 } : Room)) (fun a U => a = #[(.ref a1), (.int (2 : Int32))] ∧ Z.Warmed39 U.vm ∧ U.heap = h0) (fun _ _ _ _ _ => True) (fun _ U o U' => ∃ v L, o = .returned v ∧ Q_rmref2 Z a0 a1 k dv x0 x1 x2 x3 x4 h0 n0 v U'.heap L ∧ FrameEnd U o U' L ({ frames := 1, cells := 0, slots := 0, locals := 14 } : Room).cells ({ frames := 1, cells := 0, slots := 0, locals := 14 } : Room).slots) := by
  refine MetFree.of_bodySF (plainFor_of_name pn_1) hisR ?_
  intro p e s m args below meth c s₁ Bd hml0 hP hK
  obtain ⟨rfl, hZ, hh⟩ := hP
  have hx := Bd.exec
  have hby := Bd.bytes
  have hml : c.maxLocals = 2 := hml0
  have hown : s.vm.findClass "com/example/ordinance/ordinance/policy/PartFinderBordersPinLaw" = some m.cls := findClass_of_methodNamed Bd.named
  have hnm := (name_of_methodNamed Bd.named Bd.method).1
  have hlk : meth.locks = false := BodyLoose.notSynchronized (by assumption)
  have X0 : Stand p l e ({ frames := 1, cells := 0, slots := 0, locals := 14 } : Room) s m #[(.ref a1), (.int (2 : Int32))] below meth c s₁ [] 0 0 := Stand.of_body Bd
  have e0 : s₁.heap = h0 := by rw [← hh, Bd.state]; rfl
  have N0 := Fr.nil n0
  show own_Go p.tables e below (fun o U' => ∃ v L, o = .returned v ∧ Q_rmref2 Z a0 a1 k dv x0 x1 x2 x3 x4 h0 n0 v U'.heap L ∧ FrameEnd s o U' L ({ frames := 1, cells := 0, slots := 0, locals := 14 } : Room).cells ({ frames := 1, cells := 0, slots := 0, locals := 14 } : Room).slots) (s₁.setTop (entryFrame m #[(.ref a1), (.int (2 : Int32))] 2))
  refine own_st (fun t k => castTop (ef_rmref2 m a1) k) ?_
  have hv : own_ref2 x0 x1 x2 x3 x4 = (if (own_eq11 x0 x1 x2 x3 x4) = (0 : Int32) then (0 : Int32) else (1 : Int32)) := rfl
  show own_Go _ _ _ _ (s₁.setTop (mkF m 0 #[rv a1, iv 2] []))
  refine o_iloadN X0 hx (hb hby d3_0) rfl ?_
  refine o_iconst X0 hx 5 (hb hby d3_1) rfl ?_
  refine o_icmpYes X0 hx (pc' := 18) (hb hby d3_2) (tlt (by decide : (2 : Int32) < (5 : Int32))).1 (by decide) (by decide) ?_
  refine o_iloadN X0 hx (hb hby d3_18) rfl ?_
  refine o_iconst X0 hx 4 (hb hby d3_19) rfl ?_
  refine o_icmpYes X0 hx (pc' := 36) (hb hby d3_20) (tlt (by decide : (2 : Int32) < (4 : Int32))).1 (by decide) (by decide) ?_
  refine o_iloadN X0 hx (hb hby d3_36) rfl ?_
  refine o_iconst X0 hx 3 (hb hby d3_37) rfl ?_
  refine o_icmpYes X0 hx (pc' := 54) (hb hby d3_38) (tlt (by decide : (2 : Int32) < (3 : Int32))).1 (by decide) (by decide) ?_
  refine o_iloadN X0 hx (hb hby d3_54) rfl ?_
  refine o_iconst X0 hx 2 (hb hby d3_55) rfl ?_
  refine o_icmpNo X0 hx (hb hby d3_56) (flt (by decide : ¬ ((2 : Int32) < (2 : Int32)))).1 ?_
  refine o_aloadN X0 hx (hb hby d3_59) rfl rfl ?_
  refine o_iloadN X0 hx (hb hby d3_60) rfl ?_
  refine o_iconst X0 hx 1 (hb hby d3_61) rfl ?_
  refine o_isub X0 hx (hb hby d3_62) ?_
  show own_Go _ _ _ _ (s₁.setTop (mkF m 63 #[rv a1, iv 2] [(.int 1), (.ref a1)]))
  refine o_iconst X0 hx 1 (hb hby d3_63) rfl ?_
  obtain ⟨_, _, ⟨T_1, L_1, k_1, n_1⟩, -, X_1, ⟨Lc_1, hQ_1, l_1, y_1, z_1⟩, st_1⟩ := Jvm.LawKit.callS X0 hx (y := (⟨"com/example/ordinance/ordinance/policy/PartFinderBordersPinLaw", "eq", "([III)Z"⟩ : MethodName)) hown (mvT hZ (hw _ (List.mem_of_getElem? (i := 13) rfl))) (mvT hZ (hw _ (List.mem_of_getElem? (i := 14) rfl))) (mvT hZ (hw _ (List.mem_of_getElem? (i := 3) rfl))) (mvT hZ (hw _ (List.mem_of_getElem? (i := 15) rfl))) (by decide) (backOf (W := 0) (rmeq11 l Z a0 hw [] a1 k dv x0 x1 x2 x3 x4 h0 n0 Z0 V1) hZ (hw _ (List.mem_of_getElem? (i := 15) rfl)) (hw _ (List.mem_of_getElem? (i := 3) rfl)) (by decide) (by decide)) (g := (mkF m 64 #[rv a1, iv 2] [(.int 1), (.int 1), (.ref a1)])) rfl (by rw [hml]; rfl) (argsL := [(.ref a1), (.int 1), (.int 1)]) (rest := []) (lenOf pd_1 rfl) rfl (by show 2 * 0 + _ ≤ _; exact Nat.le_of_eq rfl) (hb hby d3_64) (fun _ _ => ⟨rfl, e0, (by decide : 0 + 0 ≤ _), (by decide : 0 + 0 ≤ _)⟩)
  dsimp only [Pt.U, Pt.locs, Pt.cells, Pt.slots] at X_1 l_1 y_1 z_1 st_1 hQ_1
  subst l_1 y_1 z_1
  obtain ⟨rfl, Nq_1, e_1⟩ := hQ_1
  have N_1 := Fr.app N0 Nq_1
  refine own_st st_1 ?_
  show own_Go _ _ _ _ (T_1.setTop (mkF m 67 #[rv a1, iv 2] [(.int (own_eq11 x0 x1 x2 x3 x4))]))
  by_cases hc67__2 : (own_eq11 x0 x1 x2 x3 x4) = (0 : Int32)
  · have hv_3 := hv.trans (if_pos hc67__2)
    refine o_ifYes X_1 hx (pc' := 72) (hb hby d3_67) (teq hc67__2).1 (by decide) (by decide) ?_
    refine o_iconst X_1 hx 0 (hb hby d3_72) rfl ?_
    exact own_end X_1 e_1 (v := some (.int (0 : Int32))) (fun h => by rw [Bd.returns] at h; cases h) hlk (fun fs hr => retI X_1 hx Bd.returns (hb hby d3_73) hr) (Q := Q_rmref2 Z a0 a1 k dv x0 x1 x2 x3 x4 h0 n0) ⟨(congrArg (fun z => some (Value.int z)) hv_3.symm), N_1, rfl⟩ (by decide) (by decide)
  · have hv_4 := hv.trans (if_neg hc67__2)
    refine o_ifNo X_1 hx (hb hby d3_67) (feq hc67__2).1 ?_
    refine o_iconst X_1 hx 1 (hb hby d3_70) rfl ?_
    exact own_end X_1 e_1 (v := some (.int (1 : Int32))) (fun h => by rw [Bd.returns] at h; cases h) hlk (fun fs hr => retI X_1 hx Bd.returns (hb hby d3_71) hr) (Q := Q_rmref2 Z a0 a1 k dv x0 x1 x2 x3 x4 h0 n0) ⟨(congrArg (fun z => some (Value.int z)) hv_4.symm), N_1, rfl⟩ (by decide) (by decide)
def own_ref3  (x0 : Int32) (x1 : Int32) (x2 : Int32) (x3 : Int32) (x4 : Int32) : Int32 := (if (own_eq12 x0 x1 x2 x3 x4) = (0 : Int32) then (if (own_eq21 x0 x1 x2 x3 x4) = (0 : Int32) then (0 : Int32) else (1 : Int32)) else (2 : Int32))
theorem d3_41 : decode method_5_code 41 = .ok (.aload_n 0, 1) := by decide +kernel
theorem d3_42 : decode method_5_code 42 = .ok (.iload_n 1, 1) := by decide +kernel
theorem d3_43 : decode method_5_code 43 = .ok (.iconst 2, 1) := by decide +kernel
theorem d3_44 : decode method_5_code 44 = .ok (.isub, 1) := by decide +kernel
theorem d3_45 : decode method_5_code 45 = .ok (.iconst 2, 1) := by decide +kernel
theorem d3_46 : decode method_5_code 46 = .ok (.invokestatic 24, 3) := by decide +kernel
theorem d3_49 : decode method_5_code 49 = .ok (.ifCond .eq 5, 3) := by decide +kernel
theorem d3_52 : decode method_5_code 52 = .ok (.iconst 2, 1) := by decide +kernel
theorem d3_53 : decode method_5_code 53 = .ok (.ireturn, 1) := by decide +kernel
theorem ef_rmref3 (m : MethodId) (a1 : Addr) : entryFrame m #[(.ref a1), (.int (3 : Int32))] 2 = mkF m 0 #[rv a1, iv 3] [] := by first | (simp [entryFrame, mkF, argsToLocals, Value.category]; done) | rfl
def Q_rmref3 (Z : State) (a0 : Array Value) (a1 : Addr) (k : ClassId) (dv : Value) (x0 : Int32) (x1 : Int32) (x2 : Int32) (x3 : Int32) (x4 : Int32) (h0 : Heap) (n0 : Nat) (v : Option Value) (h : Heap) (L : List Loc) : Prop := v = some (.int (own_ref3 x0 x1 x2 x3 x4)) ∧ Fr n0 L ∧ h = h0
set_option maxRecDepth 65536 in
set_option maxHeartbeats 40000000 in
theorem rmref3 (l : Launch) (Z : State) (a0 : Array Value) (hw : ∀ d ∈ tables_1, d.before a0 Z = true) (ws : List Jvm.Cond) (a1 : Addr) (k : ClassId) (dv : Value) (x0 : Int32) (x1 : Int32) (x2 : Int32) (x3 : Int32) (x4 : Int32) (h0 : Heap) (n0 : Nat) (Z0 : n0 ≤ h0.size) (V1 : Arv Z h0 a1 k .int (5 : Int32) [(.int x0), (.int x1), (.int x2), (.int x3), (.int x4)] dv) :
    MetFree l (⟨"com/example/ordinance/ordinance/policy/PartFinderBordersPinLaw", "ref", "([II)I"⟩ : MethodName) (head1 (Jvm.Cond.code (⟨"com/example/ordinance/ordinance/policy/PartFinderBordersPinLaw", "ref", "([II)I"⟩ : MethodName) method_5_code 2 (some .int) :: ws) ({ frames := 1, cells := 0, slots := 0, locals := 14 } : Room)) (fun a U => a = #[(.ref a1), (.int (3 : Int32))] ∧ Z.Warmed39 U.vm ∧ U.heap = h0) (fun _ _ _ _ _ => True) (fun _ U o U' => ∃ v L, o = .returned v ∧ Q_rmref3 Z a0 a1 k dv x0 x1 x2 x3 x4 h0 n0 v U'.heap L ∧ FrameEnd U o U' L ({ frames := 1, cells := 0, slots := 0, locals := 14 } : Room).cells ({ frames := 1, cells := 0, slots := 0, locals := 14 } : Room).slots) := by
  refine MetFree.of_bodySF (plainFor_of_name pn_1) hisR ?_
  intro p e s m args below meth c s₁ Bd hml0 hP hK
  obtain ⟨rfl, hZ, hh⟩ := hP
  have hx := Bd.exec
  have hby := Bd.bytes
  have hml : c.maxLocals = 2 := hml0
  have hown : s.vm.findClass "com/example/ordinance/ordinance/policy/PartFinderBordersPinLaw" = some m.cls := findClass_of_methodNamed Bd.named
  have hnm := (name_of_methodNamed Bd.named Bd.method).1
  have hlk : meth.locks = false := BodyLoose.notSynchronized (by assumption)
  have X0 : Stand p l e ({ frames := 1, cells := 0, slots := 0, locals := 14 } : Room) s m #[(.ref a1), (.int (3 : Int32))] below meth c s₁ [] 0 0 := Stand.of_body Bd
  have e0 : s₁.heap = h0 := by rw [← hh, Bd.state]; rfl
  have N0 := Fr.nil n0
  show own_Go p.tables e below (fun o U' => ∃ v L, o = .returned v ∧ Q_rmref3 Z a0 a1 k dv x0 x1 x2 x3 x4 h0 n0 v U'.heap L ∧ FrameEnd s o U' L ({ frames := 1, cells := 0, slots := 0, locals := 14 } : Room).cells ({ frames := 1, cells := 0, slots := 0, locals := 14 } : Room).slots) (s₁.setTop (entryFrame m #[(.ref a1), (.int (3 : Int32))] 2))
  refine own_st (fun t k => castTop (ef_rmref3 m a1) k) ?_
  have hv : own_ref3 x0 x1 x2 x3 x4 = (if (own_eq12 x0 x1 x2 x3 x4) = (0 : Int32) then (if (own_eq21 x0 x1 x2 x3 x4) = (0 : Int32) then (0 : Int32) else (1 : Int32)) else (2 : Int32)) := rfl
  show own_Go _ _ _ _ (s₁.setTop (mkF m 0 #[rv a1, iv 3] []))
  refine o_iloadN X0 hx (hb hby d3_0) rfl ?_
  refine o_iconst X0 hx 5 (hb hby d3_1) rfl ?_
  refine o_icmpYes X0 hx (pc' := 18) (hb hby d3_2) (tlt (by decide : (3 : Int32) < (5 : Int32))).1 (by decide) (by decide) ?_
  refine o_iloadN X0 hx (hb hby d3_18) rfl ?_
  refine o_iconst X0 hx 4 (hb hby d3_19) rfl ?_
  refine o_icmpYes X0 hx (pc' := 36) (hb hby d3_20) (tlt (by decide : (3 : Int32) < (4 : Int32))).1 (by decide) (by decide) ?_
  refine o_iloadN X0 hx (hb hby d3_36) rfl ?_
  refine o_iconst X0 hx 3 (hb hby d3_37) rfl ?_
  refine o_icmpNo X0 hx (hb hby d3_38) (flt (by decide : ¬ ((3 : Int32) < (3 : Int32)))).1 ?_
  refine o_aloadN X0 hx (hb hby d3_41) rfl rfl ?_
  refine o_iloadN X0 hx (hb hby d3_42) rfl ?_
  refine o_iconst X0 hx 2 (hb hby d3_43) rfl ?_
  refine o_isub X0 hx (hb hby d3_44) ?_
  show own_Go _ _ _ _ (s₁.setTop (mkF m 45 #[rv a1, iv 3] [(.int 1), (.ref a1)]))
  refine o_iconst X0 hx 2 (hb hby d3_45) rfl ?_
  obtain ⟨_, _, ⟨T_1, L_1, k_1, n_1⟩, -, X_1, ⟨Lc_1, hQ_1, l_1, y_1, z_1⟩, st_1⟩ := Jvm.LawKit.callS X0 hx (y := (⟨"com/example/ordinance/ordinance/policy/PartFinderBordersPinLaw", "eq", "([III)Z"⟩ : MethodName)) hown (mvT hZ (hw _ (List.mem_of_getElem? (i := 13) rfl))) (mvT hZ (hw _ (List.mem_of_getElem? (i := 14) rfl))) (mvT hZ (hw _ (List.mem_of_getElem? (i := 3) rfl))) (mvT hZ (hw _ (List.mem_of_getElem? (i := 15) rfl))) (by decide) (backOf (W := 0) (rmeq12 l Z a0 hw [] a1 k dv x0 x1 x2 x3 x4 h0 n0 Z0 V1) hZ (hw _ (List.mem_of_getElem? (i := 15) rfl)) (hw _ (List.mem_of_getElem? (i := 3) rfl)) (by decide) (by decide)) (g := (mkF m 46 #[rv a1, iv 3] [(.int 2), (.int 1), (.ref a1)])) rfl (by rw [hml]; rfl) (argsL := [(.ref a1), (.int 1), (.int 2)]) (rest := []) (lenOf pd_1 rfl) rfl (by show 2 * 0 + _ ≤ _; exact Nat.le_of_eq rfl) (hb hby d3_46) (fun _ _ => ⟨rfl, e0, (by decide : 0 + 0 ≤ _), (by decide : 0 + 0 ≤ _)⟩)
  dsimp only [Pt.U, Pt.locs, Pt.cells, Pt.slots] at X_1 l_1 y_1 z_1 st_1 hQ_1
  subst l_1 y_1 z_1
  obtain ⟨rfl, Nq_1, e_1⟩ := hQ_1
  have N_1 := Fr.app N0 Nq_1
  refine own_st st_1 ?_
  show own_Go _ _ _ _ (T_1.setTop (mkF m 49 #[rv a1, iv 3] [(.int (own_eq12 x0 x1 x2 x3 x4))]))
  by_cases hc49__2 : (own_eq12 x0 x1 x2 x3 x4) = (0 : Int32)
  · have hv_3 := hv.trans (if_pos hc49__2)
    refine o_ifYes X_1 hx (pc' := 54) (hb hby d3_49) (teq hc49__2).1 (by decide) (by decide) ?_
    refine o_iloadN X_1 hx (hb hby d3_54) rfl ?_
    refine o_iconst X_1 hx 2 (hb hby d3_55) rfl ?_
    refine o_icmpNo X_1 hx (hb hby d3_56) (flt (by decide : ¬ ((3 : Int32) < (2 : Int32)))).1 ?_
    refine o_aloadN X_1 hx (hb hby d3_59) rfl rfl ?_
    refine o_iloadN X_1 hx (hb hby d3_60) rfl ?_
    refine o_iconst X_1 hx 1 (hb hby d3_61) rfl ?_
    refine o_isub X_1 hx (hb hby d3_62) ?_
    show own_Go _ _ _ _ (T_1.setTop (mkF m 63 #[rv a1, iv 3] [(.int 2), (.ref a1)]))
    refine o_iconst X_1 hx 1 (hb hby d3_63) rfl ?_
    obtain ⟨_, _, ⟨T_4, L_4, k_4, n_4⟩, -, X_4, ⟨Lc_4, hQ_4, l_4, y_4, z_4⟩, st_4⟩ := Jvm.LawKit.callS X_1 hx (y := (⟨"com/example/ordinance/ordinance/policy/PartFinderBordersPinLaw", "eq", "([III)Z"⟩ : MethodName)) hown (mvT hZ (hw _ (List.mem_of_getElem? (i := 13) rfl))) (mvT hZ (hw _ (List.mem_of_getElem? (i := 14) rfl))) (mvT hZ (hw _ (List.mem_of_getElem? (i := 3) rfl))) (mvT hZ (hw _ (List.mem_of_getElem? (i := 15) rfl))) (by decide) (backOf (W := 0) (rmeq21 l Z a0 hw [] a1 k dv x0 x1 x2 x3 x4 h0 n0 Z0 V1) hZ (hw _ (List.mem_of_getElem? (i := 15) rfl)) (hw _ (List.mem_of_getElem? (i := 3) rfl)) (by decide) (by decide)) (g := (mkF m 64 #[rv a1, iv 3] [(.int 1), (.int 2), (.ref a1)])) rfl (by rw [hml]; rfl) (argsL := [(.ref a1), (.int 2), (.int 1)]) (rest := []) (lenOf pd_1 rfl) rfl (by show 2 * 0 + _ ≤ _; exact Nat.le_of_eq rfl) (hb hby d3_64) (fun _ _ => ⟨rfl, e_1, (by decide : 0 + 0 ≤ _), (by decide : 0 + 0 ≤ _)⟩)
    dsimp only [Pt.U, Pt.locs, Pt.cells, Pt.slots] at X_4 l_4 y_4 z_4 st_4 hQ_4
    subst l_4 y_4 z_4
    obtain ⟨rfl, Nq_4, e_4⟩ := hQ_4
    have N_4 := Fr.app N_1 Nq_4
    refine own_st st_4 ?_
    show own_Go _ _ _ _ (T_4.setTop (mkF m 67 #[rv a1, iv 3] [(.int (own_eq21 x0 x1 x2 x3 x4))]))
    by_cases hc67__5 : (own_eq21 x0 x1 x2 x3 x4) = (0 : Int32)
    · have hv_6 := hv_3.trans (if_pos hc67__5)
      refine o_ifYes X_4 hx (pc' := 72) (hb hby d3_67) (teq hc67__5).1 (by decide) (by decide) ?_
      refine o_iconst X_4 hx 0 (hb hby d3_72) rfl ?_
      exact own_end X_4 e_4 (v := some (.int (0 : Int32))) (fun h => by rw [Bd.returns] at h; cases h) hlk (fun fs hr => retI X_4 hx Bd.returns (hb hby d3_73) hr) (Q := Q_rmref3 Z a0 a1 k dv x0 x1 x2 x3 x4 h0 n0) ⟨(congrArg (fun z => some (Value.int z)) hv_6.symm), N_4, rfl⟩ (by decide) (by decide)
    · have hv_7 := hv_3.trans (if_neg hc67__5)
      refine o_ifNo X_4 hx (hb hby d3_67) (feq hc67__5).1 ?_
      refine o_iconst X_4 hx 1 (hb hby d3_70) rfl ?_
      exact own_end X_4 e_4 (v := some (.int (1 : Int32))) (fun h => by rw [Bd.returns] at h; cases h) hlk (fun fs hr => retI X_4 hx Bd.returns (hb hby d3_71) hr) (Q := Q_rmref3 Z a0 a1 k dv x0 x1 x2 x3 x4 h0 n0) ⟨(congrArg (fun z => some (Value.int z)) hv_7.symm), N_4, rfl⟩ (by decide) (by decide)
  · have hv_8 := hv.trans (if_neg hc49__2)
    refine o_ifNo X_1 hx (hb hby d3_49) (feq hc49__2).1 ?_
    refine o_iconst X_1 hx 2 (hb hby d3_52) rfl ?_
    exact own_end X_1 e_1 (v := some (.int (2 : Int32))) (fun h => by rw [Bd.returns] at h; cases h) hlk (fun fs hr => retI X_1 hx Bd.returns (hb hby d3_53) hr) (Q := Q_rmref3 Z a0 a1 k dv x0 x1 x2 x3 x4 h0 n0) ⟨(congrArg (fun z => some (Value.int z)) hv_8.symm), N_1, rfl⟩ (by decide) (by decide)
def own_ref4  (x0 : Int32) (x1 : Int32) (x2 : Int32) (x3 : Int32) (x4 : Int32) : Int32 := (if (own_eq13 x0 x1 x2 x3 x4) = (0 : Int32) then (if (own_eq22 x0 x1 x2 x3 x4) = (0 : Int32) then (if (own_eq31 x0 x1 x2 x3 x4) = (0 : Int32) then (0 : Int32) else (1 : Int32)) else (2 : Int32)) else (3 : Int32))
theorem d3_23 : decode method_5_code 23 = .ok (.aload_n 0, 1) := by decide +kernel
theorem d3_24 : decode method_5_code 24 = .ok (.iload_n 1, 1) := by decide +kernel
theorem d3_25 : decode method_5_code 25 = .ok (.iconst 3, 1) := by decide +kernel
theorem d3_26 : decode method_5_code 26 = .ok (.isub, 1) := by decide +kernel
theorem d3_27 : decode method_5_code 27 = .ok (.iconst 3, 1) := by decide +kernel
theorem d3_28 : decode method_5_code 28 = .ok (.invokestatic 24, 3) := by decide +kernel
theorem d3_31 : decode method_5_code 31 = .ok (.ifCond .eq 5, 3) := by decide +kernel
theorem d3_34 : decode method_5_code 34 = .ok (.iconst 3, 1) := by decide +kernel
theorem d3_35 : decode method_5_code 35 = .ok (.ireturn, 1) := by decide +kernel
theorem ef_rmref4 (m : MethodId) (a1 : Addr) : entryFrame m #[(.ref a1), (.int (4 : Int32))] 2 = mkF m 0 #[rv a1, iv 4] [] := by first | (simp [entryFrame, mkF, argsToLocals, Value.category]; done) | rfl
def Q_rmref4 (Z : State) (a0 : Array Value) (a1 : Addr) (k : ClassId) (dv : Value) (x0 : Int32) (x1 : Int32) (x2 : Int32) (x3 : Int32) (x4 : Int32) (h0 : Heap) (n0 : Nat) (v : Option Value) (h : Heap) (L : List Loc) : Prop := v = some (.int (own_ref4 x0 x1 x2 x3 x4)) ∧ Fr n0 L ∧ h = h0
set_option maxRecDepth 65536 in
set_option maxHeartbeats 40000000 in
theorem rmref4 (l : Launch) (Z : State) (a0 : Array Value) (hw : ∀ d ∈ tables_1, d.before a0 Z = true) (ws : List Jvm.Cond) (a1 : Addr) (k : ClassId) (dv : Value) (x0 : Int32) (x1 : Int32) (x2 : Int32) (x3 : Int32) (x4 : Int32) (h0 : Heap) (n0 : Nat) (Z0 : n0 ≤ h0.size) (V1 : Arv Z h0 a1 k .int (5 : Int32) [(.int x0), (.int x1), (.int x2), (.int x3), (.int x4)] dv) :
    MetFree l (⟨"com/example/ordinance/ordinance/policy/PartFinderBordersPinLaw", "ref", "([II)I"⟩ : MethodName) (head1 (Jvm.Cond.code (⟨"com/example/ordinance/ordinance/policy/PartFinderBordersPinLaw", "ref", "([II)I"⟩ : MethodName) method_5_code 2 (some .int) :: ws) ({ frames := 1, cells := 0, slots := 0, locals := 14 } : Room)) (fun a U => a = #[(.ref a1), (.int (4 : Int32))] ∧ Z.Warmed39 U.vm ∧ U.heap = h0) (fun _ _ _ _ _ => True) (fun _ U o U' => ∃ v L, o = .returned v ∧ Q_rmref4 Z a0 a1 k dv x0 x1 x2 x3 x4 h0 n0 v U'.heap L ∧ FrameEnd U o U' L ({ frames := 1, cells := 0, slots := 0, locals := 14 } : Room).cells ({ frames := 1, cells := 0, slots := 0, locals := 14 } : Room).slots) := by
  refine MetFree.of_bodySF (plainFor_of_name pn_1) hisR ?_
  intro p e s m args below meth c s₁ Bd hml0 hP hK
  obtain ⟨rfl, hZ, hh⟩ := hP
  have hx := Bd.exec
  have hby := Bd.bytes
  have hml : c.maxLocals = 2 := hml0
  have hown : s.vm.findClass "com/example/ordinance/ordinance/policy/PartFinderBordersPinLaw" = some m.cls := findClass_of_methodNamed Bd.named
  have hnm := (name_of_methodNamed Bd.named Bd.method).1
  have hlk : meth.locks = false := BodyLoose.notSynchronized (by assumption)
  have X0 : Stand p l e ({ frames := 1, cells := 0, slots := 0, locals := 14 } : Room) s m #[(.ref a1), (.int (4 : Int32))] below meth c s₁ [] 0 0 := Stand.of_body Bd
  have e0 : s₁.heap = h0 := by rw [← hh, Bd.state]; rfl
  have N0 := Fr.nil n0
  show own_Go p.tables e below (fun o U' => ∃ v L, o = .returned v ∧ Q_rmref4 Z a0 a1 k dv x0 x1 x2 x3 x4 h0 n0 v U'.heap L ∧ FrameEnd s o U' L ({ frames := 1, cells := 0, slots := 0, locals := 14 } : Room).cells ({ frames := 1, cells := 0, slots := 0, locals := 14 } : Room).slots) (s₁.setTop (entryFrame m #[(.ref a1), (.int (4 : Int32))] 2))
  refine own_st (fun t k => castTop (ef_rmref4 m a1) k) ?_
  have hv : own_ref4 x0 x1 x2 x3 x4 = (if (own_eq13 x0 x1 x2 x3 x4) = (0 : Int32) then (if (own_eq22 x0 x1 x2 x3 x4) = (0 : Int32) then (if (own_eq31 x0 x1 x2 x3 x4) = (0 : Int32) then (0 : Int32) else (1 : Int32)) else (2 : Int32)) else (3 : Int32)) := rfl
  show own_Go _ _ _ _ (s₁.setTop (mkF m 0 #[rv a1, iv 4] []))
  refine o_iloadN X0 hx (hb hby d3_0) rfl ?_
  refine o_iconst X0 hx 5 (hb hby d3_1) rfl ?_
  refine o_icmpYes X0 hx (pc' := 18) (hb hby d3_2) (tlt (by decide : (4 : Int32) < (5 : Int32))).1 (by decide) (by decide) ?_
  refine o_iloadN X0 hx (hb hby d3_18) rfl ?_
  refine o_iconst X0 hx 4 (hb hby d3_19) rfl ?_
  refine o_icmpNo X0 hx (hb hby d3_20) (flt (by decide : ¬ ((4 : Int32) < (4 : Int32)))).1 ?_
  refine o_aloadN X0 hx (hb hby d3_23) rfl rfl ?_
  refine o_iloadN X0 hx (hb hby d3_24) rfl ?_
  refine o_iconst X0 hx 3 (hb hby d3_25) rfl ?_
  refine o_isub X0 hx (hb hby d3_26) ?_
  show own_Go _ _ _ _ (s₁.setTop (mkF m 27 #[rv a1, iv 4] [(.int 1), (.ref a1)]))
  refine o_iconst X0 hx 3 (hb hby d3_27) rfl ?_
  obtain ⟨_, _, ⟨T_1, L_1, k_1, n_1⟩, -, X_1, ⟨Lc_1, hQ_1, l_1, y_1, z_1⟩, st_1⟩ := Jvm.LawKit.callS X0 hx (y := (⟨"com/example/ordinance/ordinance/policy/PartFinderBordersPinLaw", "eq", "([III)Z"⟩ : MethodName)) hown (mvT hZ (hw _ (List.mem_of_getElem? (i := 13) rfl))) (mvT hZ (hw _ (List.mem_of_getElem? (i := 14) rfl))) (mvT hZ (hw _ (List.mem_of_getElem? (i := 3) rfl))) (mvT hZ (hw _ (List.mem_of_getElem? (i := 15) rfl))) (by decide) (backOf (W := 0) (rmeq13 l Z a0 hw [] a1 k dv x0 x1 x2 x3 x4 h0 n0 Z0 V1) hZ (hw _ (List.mem_of_getElem? (i := 15) rfl)) (hw _ (List.mem_of_getElem? (i := 3) rfl)) (by decide) (by decide)) (g := (mkF m 28 #[rv a1, iv 4] [(.int 3), (.int 1), (.ref a1)])) rfl (by rw [hml]; rfl) (argsL := [(.ref a1), (.int 1), (.int 3)]) (rest := []) (lenOf pd_1 rfl) rfl (by show 2 * 0 + _ ≤ _; exact Nat.le_of_eq rfl) (hb hby d3_28) (fun _ _ => ⟨rfl, e0, (by decide : 0 + 0 ≤ _), (by decide : 0 + 0 ≤ _)⟩)
  dsimp only [Pt.U, Pt.locs, Pt.cells, Pt.slots] at X_1 l_1 y_1 z_1 st_1 hQ_1
  subst l_1 y_1 z_1
  obtain ⟨rfl, Nq_1, e_1⟩ := hQ_1
  have N_1 := Fr.app N0 Nq_1
  refine own_st st_1 ?_
  show own_Go _ _ _ _ (T_1.setTop (mkF m 31 #[rv a1, iv 4] [(.int (own_eq13 x0 x1 x2 x3 x4))]))
  by_cases hc31__2 : (own_eq13 x0 x1 x2 x3 x4) = (0 : Int32)
  · have hv_3 := hv.trans (if_pos hc31__2)
    refine o_ifYes X_1 hx (pc' := 36) (hb hby d3_31) (teq hc31__2).1 (by decide) (by decide) ?_
    refine o_iloadN X_1 hx (hb hby d3_36) rfl ?_
    refine o_iconst X_1 hx 3 (hb hby d3_37) rfl ?_
    refine o_icmpNo X_1 hx (hb hby d3_38) (flt (by decide : ¬ ((4 : Int32) < (3 : Int32)))).1 ?_
    refine o_aloadN X_1 hx (hb hby d3_41) rfl rfl ?_
    refine o_iloadN X_1 hx (hb hby d3_42) rfl ?_
    refine o_iconst X_1 hx 2 (hb hby d3_43) rfl ?_
    refine o_isub X_1 hx (hb hby d3_44) ?_
    show own_Go _ _ _ _ (T_1.setTop (mkF m 45 #[rv a1, iv 4] [(.int 2), (.ref a1)]))
    refine o_iconst X_1 hx 2 (hb hby d3_45) rfl ?_
    obtain ⟨_, _, ⟨T_4, L_4, k_4, n_4⟩, -, X_4, ⟨Lc_4, hQ_4, l_4, y_4, z_4⟩, st_4⟩ := Jvm.LawKit.callS X_1 hx (y := (⟨"com/example/ordinance/ordinance/policy/PartFinderBordersPinLaw", "eq", "([III)Z"⟩ : MethodName)) hown (mvT hZ (hw _ (List.mem_of_getElem? (i := 13) rfl))) (mvT hZ (hw _ (List.mem_of_getElem? (i := 14) rfl))) (mvT hZ (hw _ (List.mem_of_getElem? (i := 3) rfl))) (mvT hZ (hw _ (List.mem_of_getElem? (i := 15) rfl))) (by decide) (backOf (W := 0) (rmeq22 l Z a0 hw [] a1 k dv x0 x1 x2 x3 x4 h0 n0 Z0 V1) hZ (hw _ (List.mem_of_getElem? (i := 15) rfl)) (hw _ (List.mem_of_getElem? (i := 3) rfl)) (by decide) (by decide)) (g := (mkF m 46 #[rv a1, iv 4] [(.int 2), (.int 2), (.ref a1)])) rfl (by rw [hml]; rfl) (argsL := [(.ref a1), (.int 2), (.int 2)]) (rest := []) (lenOf pd_1 rfl) rfl (by show 2 * 0 + _ ≤ _; exact Nat.le_of_eq rfl) (hb hby d3_46) (fun _ _ => ⟨rfl, e_1, (by decide : 0 + 0 ≤ _), (by decide : 0 + 0 ≤ _)⟩)
    dsimp only [Pt.U, Pt.locs, Pt.cells, Pt.slots] at X_4 l_4 y_4 z_4 st_4 hQ_4
    subst l_4 y_4 z_4
    obtain ⟨rfl, Nq_4, e_4⟩ := hQ_4
    have N_4 := Fr.app N_1 Nq_4
    refine own_st st_4 ?_
    show own_Go _ _ _ _ (T_4.setTop (mkF m 49 #[rv a1, iv 4] [(.int (own_eq22 x0 x1 x2 x3 x4))]))
    by_cases hc49__5 : (own_eq22 x0 x1 x2 x3 x4) = (0 : Int32)
    · have hv_6 := hv_3.trans (if_pos hc49__5)
      refine o_ifYes X_4 hx (pc' := 54) (hb hby d3_49) (teq hc49__5).1 (by decide) (by decide) ?_
      refine o_iloadN X_4 hx (hb hby d3_54) rfl ?_
      refine o_iconst X_4 hx 2 (hb hby d3_55) rfl ?_
      refine o_icmpNo X_4 hx (hb hby d3_56) (flt (by decide : ¬ ((4 : Int32) < (2 : Int32)))).1 ?_
      refine o_aloadN X_4 hx (hb hby d3_59) rfl rfl ?_
      refine o_iloadN X_4 hx (hb hby d3_60) rfl ?_
      refine o_iconst X_4 hx 1 (hb hby d3_61) rfl ?_
      refine o_isub X_4 hx (hb hby d3_62) ?_
      show own_Go _ _ _ _ (T_4.setTop (mkF m 63 #[rv a1, iv 4] [(.int 3), (.ref a1)]))
      refine o_iconst X_4 hx 1 (hb hby d3_63) rfl ?_
      obtain ⟨_, _, ⟨T_7, L_7, k_7, n_7⟩, -, X_7, ⟨Lc_7, hQ_7, l_7, y_7, z_7⟩, st_7⟩ := Jvm.LawKit.callS X_4 hx (y := (⟨"com/example/ordinance/ordinance/policy/PartFinderBordersPinLaw", "eq", "([III)Z"⟩ : MethodName)) hown (mvT hZ (hw _ (List.mem_of_getElem? (i := 13) rfl))) (mvT hZ (hw _ (List.mem_of_getElem? (i := 14) rfl))) (mvT hZ (hw _ (List.mem_of_getElem? (i := 3) rfl))) (mvT hZ (hw _ (List.mem_of_getElem? (i := 15) rfl))) (by decide) (backOf (W := 0) (rmeq31 l Z a0 hw [] a1 k dv x0 x1 x2 x3 x4 h0 n0 Z0 V1) hZ (hw _ (List.mem_of_getElem? (i := 15) rfl)) (hw _ (List.mem_of_getElem? (i := 3) rfl)) (by decide) (by decide)) (g := (mkF m 64 #[rv a1, iv 4] [(.int 1), (.int 3), (.ref a1)])) rfl (by rw [hml]; rfl) (argsL := [(.ref a1), (.int 3), (.int 1)]) (rest := []) (lenOf pd_1 rfl) rfl (by show 2 * 0 + _ ≤ _; exact Nat.le_of_eq rfl) (hb hby d3_64) (fun _ _ => ⟨rfl, e_4, (by decide : 0 + 0 ≤ _), (by decide : 0 + 0 ≤ _)⟩)
      dsimp only [Pt.U, Pt.locs, Pt.cells, Pt.slots] at X_7 l_7 y_7 z_7 st_7 hQ_7
      subst l_7 y_7 z_7
      obtain ⟨rfl, Nq_7, e_7⟩ := hQ_7
      have N_7 := Fr.app N_4 Nq_7
      refine own_st st_7 ?_
      show own_Go _ _ _ _ (T_7.setTop (mkF m 67 #[rv a1, iv 4] [(.int (own_eq31 x0 x1 x2 x3 x4))]))
      by_cases hc67__8 : (own_eq31 x0 x1 x2 x3 x4) = (0 : Int32)
      · have hv_9 := hv_6.trans (if_pos hc67__8)
        refine o_ifYes X_7 hx (pc' := 72) (hb hby d3_67) (teq hc67__8).1 (by decide) (by decide) ?_
        refine o_iconst X_7 hx 0 (hb hby d3_72) rfl ?_
        exact own_end X_7 e_7 (v := some (.int (0 : Int32))) (fun h => by rw [Bd.returns] at h; cases h) hlk (fun fs hr => retI X_7 hx Bd.returns (hb hby d3_73) hr) (Q := Q_rmref4 Z a0 a1 k dv x0 x1 x2 x3 x4 h0 n0) ⟨(congrArg (fun z => some (Value.int z)) hv_9.symm), N_7, rfl⟩ (by decide) (by decide)
      · have hv_10 := hv_6.trans (if_neg hc67__8)
        refine o_ifNo X_7 hx (hb hby d3_67) (feq hc67__8).1 ?_
        refine o_iconst X_7 hx 1 (hb hby d3_70) rfl ?_
        exact own_end X_7 e_7 (v := some (.int (1 : Int32))) (fun h => by rw [Bd.returns] at h; cases h) hlk (fun fs hr => retI X_7 hx Bd.returns (hb hby d3_71) hr) (Q := Q_rmref4 Z a0 a1 k dv x0 x1 x2 x3 x4 h0 n0) ⟨(congrArg (fun z => some (Value.int z)) hv_10.symm), N_7, rfl⟩ (by decide) (by decide)
    · have hv_11 := hv_3.trans (if_neg hc49__5)
      refine o_ifNo X_4 hx (hb hby d3_49) (feq hc49__5).1 ?_
      refine o_iconst X_4 hx 2 (hb hby d3_52) rfl ?_
      exact own_end X_4 e_4 (v := some (.int (2 : Int32))) (fun h => by rw [Bd.returns] at h; cases h) hlk (fun fs hr => retI X_4 hx Bd.returns (hb hby d3_53) hr) (Q := Q_rmref4 Z a0 a1 k dv x0 x1 x2 x3 x4 h0 n0) ⟨(congrArg (fun z => some (Value.int z)) hv_11.symm), N_4, rfl⟩ (by decide) (by decide)
  · have hv_12 := hv.trans (if_neg hc31__2)
    refine o_ifNo X_1 hx (hb hby d3_31) (feq hc31__2).1 ?_
    refine o_iconst X_1 hx 3 (hb hby d3_34) rfl ?_
    exact own_end X_1 e_1 (v := some (.int (3 : Int32))) (fun h => by rw [Bd.returns] at h; cases h) hlk (fun fs hr => retI X_1 hx Bd.returns (hb hby d3_35) hr) (Q := Q_rmref4 Z a0 a1 k dv x0 x1 x2 x3 x4 h0 n0) ⟨(congrArg (fun z => some (Value.int z)) hv_12.symm), N_1, rfl⟩ (by decide) (by decide)
def own_ref5  (x0 : Int32) (x1 : Int32) (x2 : Int32) (x3 : Int32) (x4 : Int32) : Int32 := (if (own_eq14 x0 x1 x2 x3 x4) = (0 : Int32) then (if (own_eq23 x0 x1 x2 x3 x4) = (0 : Int32) then (if (own_eq32 x0 x1 x2 x3 x4) = (0 : Int32) then (if (own_eq41 x0 x1 x2 x3 x4) = (0 : Int32) then (0 : Int32) else (1 : Int32)) else (2 : Int32)) else (3 : Int32)) else (4 : Int32))
theorem d3_5 : decode method_5_code 5 = .ok (.aload_n 0, 1) := by decide +kernel
theorem d3_6 : decode method_5_code 6 = .ok (.iload_n 1, 1) := by decide +kernel
theorem d3_7 : decode method_5_code 7 = .ok (.iconst 4, 1) := by decide +kernel
theorem d3_8 : decode method_5_code 8 = .ok (.isub, 1) := by decide +kernel
theorem d3_9 : decode method_5_code 9 = .ok (.iconst 4, 1) := by decide +kernel
theorem d3_10 : decode method_5_code 10 = .ok (.invokestatic 24, 3) := by decide +kernel
theorem d3_13 : decode method_5_code 13 = .ok (.ifCond .eq 5, 3) := by decide +kernel
theorem d3_16 : decode method_5_code 16 = .ok (.iconst 4, 1) := by decide +kernel
theorem d3_17 : decode method_5_code 17 = .ok (.ireturn, 1) := by decide +kernel
theorem ef_rmref5 (m : MethodId) (a1 : Addr) : entryFrame m #[(.ref a1), (.int (5 : Int32))] 2 = mkF m 0 #[rv a1, iv 5] [] := by first | (simp [entryFrame, mkF, argsToLocals, Value.category]; done) | rfl
def Q_rmref5 (Z : State) (a0 : Array Value) (a1 : Addr) (k : ClassId) (dv : Value) (x0 : Int32) (x1 : Int32) (x2 : Int32) (x3 : Int32) (x4 : Int32) (h0 : Heap) (n0 : Nat) (v : Option Value) (h : Heap) (L : List Loc) : Prop := v = some (.int (own_ref5 x0 x1 x2 x3 x4)) ∧ Fr n0 L ∧ h = h0
set_option maxRecDepth 65536 in
set_option maxHeartbeats 40000000 in
theorem rmref5 (l : Launch) (Z : State) (a0 : Array Value) (hw : ∀ d ∈ tables_1, d.before a0 Z = true) (ws : List Jvm.Cond) (a1 : Addr) (k : ClassId) (dv : Value) (x0 : Int32) (x1 : Int32) (x2 : Int32) (x3 : Int32) (x4 : Int32) (h0 : Heap) (n0 : Nat) (Z0 : n0 ≤ h0.size) (V1 : Arv Z h0 a1 k .int (5 : Int32) [(.int x0), (.int x1), (.int x2), (.int x3), (.int x4)] dv) :
    MetFree l (⟨"com/example/ordinance/ordinance/policy/PartFinderBordersPinLaw", "ref", "([II)I"⟩ : MethodName) (head1 (Jvm.Cond.code (⟨"com/example/ordinance/ordinance/policy/PartFinderBordersPinLaw", "ref", "([II)I"⟩ : MethodName) method_5_code 2 (some .int) :: ws) ({ frames := 1, cells := 0, slots := 0, locals := 14 } : Room)) (fun a U => a = #[(.ref a1), (.int (5 : Int32))] ∧ Z.Warmed39 U.vm ∧ U.heap = h0) (fun _ _ _ _ _ => True) (fun _ U o U' => ∃ v L, o = .returned v ∧ Q_rmref5 Z a0 a1 k dv x0 x1 x2 x3 x4 h0 n0 v U'.heap L ∧ FrameEnd U o U' L ({ frames := 1, cells := 0, slots := 0, locals := 14 } : Room).cells ({ frames := 1, cells := 0, slots := 0, locals := 14 } : Room).slots) := by
  refine MetFree.of_bodySF (plainFor_of_name pn_1) hisR ?_
  intro p e s m args below meth c s₁ Bd hml0 hP hK
  obtain ⟨rfl, hZ, hh⟩ := hP
  have hx := Bd.exec
  have hby := Bd.bytes
  have hml : c.maxLocals = 2 := hml0
  have hown : s.vm.findClass "com/example/ordinance/ordinance/policy/PartFinderBordersPinLaw" = some m.cls := findClass_of_methodNamed Bd.named
  have hnm := (name_of_methodNamed Bd.named Bd.method).1
  have hlk : meth.locks = false := BodyLoose.notSynchronized (by assumption)
  have X0 : Stand p l e ({ frames := 1, cells := 0, slots := 0, locals := 14 } : Room) s m #[(.ref a1), (.int (5 : Int32))] below meth c s₁ [] 0 0 := Stand.of_body Bd
  have e0 : s₁.heap = h0 := by rw [← hh, Bd.state]; rfl
  have N0 := Fr.nil n0
  show own_Go p.tables e below (fun o U' => ∃ v L, o = .returned v ∧ Q_rmref5 Z a0 a1 k dv x0 x1 x2 x3 x4 h0 n0 v U'.heap L ∧ FrameEnd s o U' L ({ frames := 1, cells := 0, slots := 0, locals := 14 } : Room).cells ({ frames := 1, cells := 0, slots := 0, locals := 14 } : Room).slots) (s₁.setTop (entryFrame m #[(.ref a1), (.int (5 : Int32))] 2))
  refine own_st (fun t k => castTop (ef_rmref5 m a1) k) ?_
  have hv : own_ref5 x0 x1 x2 x3 x4 = (if (own_eq14 x0 x1 x2 x3 x4) = (0 : Int32) then (if (own_eq23 x0 x1 x2 x3 x4) = (0 : Int32) then (if (own_eq32 x0 x1 x2 x3 x4) = (0 : Int32) then (if (own_eq41 x0 x1 x2 x3 x4) = (0 : Int32) then (0 : Int32) else (1 : Int32)) else (2 : Int32)) else (3 : Int32)) else (4 : Int32)) := rfl
  show own_Go _ _ _ _ (s₁.setTop (mkF m 0 #[rv a1, iv 5] []))
  refine o_iloadN X0 hx (hb hby d3_0) rfl ?_
  refine o_iconst X0 hx 5 (hb hby d3_1) rfl ?_
  refine o_icmpNo X0 hx (hb hby d3_2) (flt (by decide : ¬ ((5 : Int32) < (5 : Int32)))).1 ?_
  refine o_aloadN X0 hx (hb hby d3_5) rfl rfl ?_
  refine o_iloadN X0 hx (hb hby d3_6) rfl ?_
  refine o_iconst X0 hx 4 (hb hby d3_7) rfl ?_
  refine o_isub X0 hx (hb hby d3_8) ?_
  show own_Go _ _ _ _ (s₁.setTop (mkF m 9 #[rv a1, iv 5] [(.int 1), (.ref a1)]))
  refine o_iconst X0 hx 4 (hb hby d3_9) rfl ?_
  obtain ⟨_, _, ⟨T_1, L_1, k_1, n_1⟩, -, X_1, ⟨Lc_1, hQ_1, l_1, y_1, z_1⟩, st_1⟩ := Jvm.LawKit.callS X0 hx (y := (⟨"com/example/ordinance/ordinance/policy/PartFinderBordersPinLaw", "eq", "([III)Z"⟩ : MethodName)) hown (mvT hZ (hw _ (List.mem_of_getElem? (i := 13) rfl))) (mvT hZ (hw _ (List.mem_of_getElem? (i := 14) rfl))) (mvT hZ (hw _ (List.mem_of_getElem? (i := 3) rfl))) (mvT hZ (hw _ (List.mem_of_getElem? (i := 15) rfl))) (by decide) (backOf (W := 0) (rmeq14 l Z a0 hw [] a1 k dv x0 x1 x2 x3 x4 h0 n0 Z0 V1) hZ (hw _ (List.mem_of_getElem? (i := 15) rfl)) (hw _ (List.mem_of_getElem? (i := 3) rfl)) (by decide) (by decide)) (g := (mkF m 10 #[rv a1, iv 5] [(.int 4), (.int 1), (.ref a1)])) rfl (by rw [hml]; rfl) (argsL := [(.ref a1), (.int 1), (.int 4)]) (rest := []) (lenOf pd_1 rfl) rfl (by show 2 * 0 + _ ≤ _; exact Nat.le_of_eq rfl) (hb hby d3_10) (fun _ _ => ⟨rfl, e0, (by decide : 0 + 0 ≤ _), (by decide : 0 + 0 ≤ _)⟩)
  dsimp only [Pt.U, Pt.locs, Pt.cells, Pt.slots] at X_1 l_1 y_1 z_1 st_1 hQ_1
  subst l_1 y_1 z_1
  obtain ⟨rfl, Nq_1, e_1⟩ := hQ_1
  have N_1 := Fr.app N0 Nq_1
  refine own_st st_1 ?_
  show own_Go _ _ _ _ (T_1.setTop (mkF m 13 #[rv a1, iv 5] [(.int (own_eq14 x0 x1 x2 x3 x4))]))
  by_cases hc13__2 : (own_eq14 x0 x1 x2 x3 x4) = (0 : Int32)
  · have hv_3 := hv.trans (if_pos hc13__2)
    refine o_ifYes X_1 hx (pc' := 18) (hb hby d3_13) (teq hc13__2).1 (by decide) (by decide) ?_
    refine o_iloadN X_1 hx (hb hby d3_18) rfl ?_
    refine o_iconst X_1 hx 4 (hb hby d3_19) rfl ?_
    refine o_icmpNo X_1 hx (hb hby d3_20) (flt (by decide : ¬ ((5 : Int32) < (4 : Int32)))).1 ?_
    refine o_aloadN X_1 hx (hb hby d3_23) rfl rfl ?_
    refine o_iloadN X_1 hx (hb hby d3_24) rfl ?_
    refine o_iconst X_1 hx 3 (hb hby d3_25) rfl ?_
    refine o_isub X_1 hx (hb hby d3_26) ?_
    show own_Go _ _ _ _ (T_1.setTop (mkF m 27 #[rv a1, iv 5] [(.int 2), (.ref a1)]))
    refine o_iconst X_1 hx 3 (hb hby d3_27) rfl ?_
    obtain ⟨_, _, ⟨T_4, L_4, k_4, n_4⟩, -, X_4, ⟨Lc_4, hQ_4, l_4, y_4, z_4⟩, st_4⟩ := Jvm.LawKit.callS X_1 hx (y := (⟨"com/example/ordinance/ordinance/policy/PartFinderBordersPinLaw", "eq", "([III)Z"⟩ : MethodName)) hown (mvT hZ (hw _ (List.mem_of_getElem? (i := 13) rfl))) (mvT hZ (hw _ (List.mem_of_getElem? (i := 14) rfl))) (mvT hZ (hw _ (List.mem_of_getElem? (i := 3) rfl))) (mvT hZ (hw _ (List.mem_of_getElem? (i := 15) rfl))) (by decide) (backOf (W := 0) (rmeq23 l Z a0 hw [] a1 k dv x0 x1 x2 x3 x4 h0 n0 Z0 V1) hZ (hw _ (List.mem_of_getElem? (i := 15) rfl)) (hw _ (List.mem_of_getElem? (i := 3) rfl)) (by decide) (by decide)) (g := (mkF m 28 #[rv a1, iv 5] [(.int 3), (.int 2), (.ref a1)])) rfl (by rw [hml]; rfl) (argsL := [(.ref a1), (.int 2), (.int 3)]) (rest := []) (lenOf pd_1 rfl) rfl (by show 2 * 0 + _ ≤ _; exact Nat.le_of_eq rfl) (hb hby d3_28) (fun _ _ => ⟨rfl, e_1, (by decide : 0 + 0 ≤ _), (by decide : 0 + 0 ≤ _)⟩)
    dsimp only [Pt.U, Pt.locs, Pt.cells, Pt.slots] at X_4 l_4 y_4 z_4 st_4 hQ_4
    subst l_4 y_4 z_4
    obtain ⟨rfl, Nq_4, e_4⟩ := hQ_4
    have N_4 := Fr.app N_1 Nq_4
    refine own_st st_4 ?_
    show own_Go _ _ _ _ (T_4.setTop (mkF m 31 #[rv a1, iv 5] [(.int (own_eq23 x0 x1 x2 x3 x4))]))
    by_cases hc31__5 : (own_eq23 x0 x1 x2 x3 x4) = (0 : Int32)
    · have hv_6 := hv_3.trans (if_pos hc31__5)
      refine o_ifYes X_4 hx (pc' := 36) (hb hby d3_31) (teq hc31__5).1 (by decide) (by decide) ?_
      refine o_iloadN X_4 hx (hb hby d3_36) rfl ?_
      refine o_iconst X_4 hx 3 (hb hby d3_37) rfl ?_
      refine o_icmpNo X_4 hx (hb hby d3_38) (flt (by decide : ¬ ((5 : Int32) < (3 : Int32)))).1 ?_
      refine o_aloadN X_4 hx (hb hby d3_41) rfl rfl ?_
      refine o_iloadN X_4 hx (hb hby d3_42) rfl ?_
      refine o_iconst X_4 hx 2 (hb hby d3_43) rfl ?_
      refine o_isub X_4 hx (hb hby d3_44) ?_
      show own_Go _ _ _ _ (T_4.setTop (mkF m 45 #[rv a1, iv 5] [(.int 3), (.ref a1)]))
      refine o_iconst X_4 hx 2 (hb hby d3_45) rfl ?_
      obtain ⟨_, _, ⟨T_7, L_7, k_7, n_7⟩, -, X_7, ⟨Lc_7, hQ_7, l_7, y_7, z_7⟩, st_7⟩ := Jvm.LawKit.callS X_4 hx (y := (⟨"com/example/ordinance/ordinance/policy/PartFinderBordersPinLaw", "eq", "([III)Z"⟩ : MethodName)) hown (mvT hZ (hw _ (List.mem_of_getElem? (i := 13) rfl))) (mvT hZ (hw _ (List.mem_of_getElem? (i := 14) rfl))) (mvT hZ (hw _ (List.mem_of_getElem? (i := 3) rfl))) (mvT hZ (hw _ (List.mem_of_getElem? (i := 15) rfl))) (by decide) (backOf (W := 0) (rmeq32 l Z a0 hw [] a1 k dv x0 x1 x2 x3 x4 h0 n0 Z0 V1) hZ (hw _ (List.mem_of_getElem? (i := 15) rfl)) (hw _ (List.mem_of_getElem? (i := 3) rfl)) (by decide) (by decide)) (g := (mkF m 46 #[rv a1, iv 5] [(.int 2), (.int 3), (.ref a1)])) rfl (by rw [hml]; rfl) (argsL := [(.ref a1), (.int 3), (.int 2)]) (rest := []) (lenOf pd_1 rfl) rfl (by show 2 * 0 + _ ≤ _; exact Nat.le_of_eq rfl) (hb hby d3_46) (fun _ _ => ⟨rfl, e_4, (by decide : 0 + 0 ≤ _), (by decide : 0 + 0 ≤ _)⟩)
      dsimp only [Pt.U, Pt.locs, Pt.cells, Pt.slots] at X_7 l_7 y_7 z_7 st_7 hQ_7
      subst l_7 y_7 z_7
      obtain ⟨rfl, Nq_7, e_7⟩ := hQ_7
      have N_7 := Fr.app N_4 Nq_7
      refine own_st st_7 ?_
      show own_Go _ _ _ _ (T_7.setTop (mkF m 49 #[rv a1, iv 5] [(.int (own_eq32 x0 x1 x2 x3 x4))]))
      by_cases hc49__8 : (own_eq32 x0 x1 x2 x3 x4) = (0 : Int32)
      · have hv_9 := hv_6.trans (if_pos hc49__8)
        refine o_ifYes X_7 hx (pc' := 54) (hb hby d3_49) (teq hc49__8).1 (by decide) (by decide) ?_
        refine o_iloadN X_7 hx (hb hby d3_54) rfl ?_
        refine o_iconst X_7 hx 2 (hb hby d3_55) rfl ?_
        refine o_icmpNo X_7 hx (hb hby d3_56) (flt (by decide : ¬ ((5 : Int32) < (2 : Int32)))).1 ?_
        refine o_aloadN X_7 hx (hb hby d3_59) rfl rfl ?_
        refine o_iloadN X_7 hx (hb hby d3_60) rfl ?_
        refine o_iconst X_7 hx 1 (hb hby d3_61) rfl ?_
        refine o_isub X_7 hx (hb hby d3_62) ?_
        show own_Go _ _ _ _ (T_7.setTop (mkF m 63 #[rv a1, iv 5] [(.int 4), (.ref a1)]))
        refine o_iconst X_7 hx 1 (hb hby d3_63) rfl ?_
        obtain ⟨_, _, ⟨T_10, L_10, k_10, n_10⟩, -, X_10, ⟨Lc_10, hQ_10, l_10, y_10, z_10⟩, st_10⟩ := Jvm.LawKit.callS X_7 hx (y := (⟨"com/example/ordinance/ordinance/policy/PartFinderBordersPinLaw", "eq", "([III)Z"⟩ : MethodName)) hown (mvT hZ (hw _ (List.mem_of_getElem? (i := 13) rfl))) (mvT hZ (hw _ (List.mem_of_getElem? (i := 14) rfl))) (mvT hZ (hw _ (List.mem_of_getElem? (i := 3) rfl))) (mvT hZ (hw _ (List.mem_of_getElem? (i := 15) rfl))) (by decide) (backOf (W := 0) (rmeq41 l Z a0 hw [] a1 k dv x0 x1 x2 x3 x4 h0 n0 Z0 V1) hZ (hw _ (List.mem_of_getElem? (i := 15) rfl)) (hw _ (List.mem_of_getElem? (i := 3) rfl)) (by decide) (by decide)) (g := (mkF m 64 #[rv a1, iv 5] [(.int 1), (.int 4), (.ref a1)])) rfl (by rw [hml]; rfl) (argsL := [(.ref a1), (.int 4), (.int 1)]) (rest := []) (lenOf pd_1 rfl) rfl (by show 2 * 0 + _ ≤ _; exact Nat.le_of_eq rfl) (hb hby d3_64) (fun _ _ => ⟨rfl, e_7, (by decide : 0 + 0 ≤ _), (by decide : 0 + 0 ≤ _)⟩)
        dsimp only [Pt.U, Pt.locs, Pt.cells, Pt.slots] at X_10 l_10 y_10 z_10 st_10 hQ_10
        subst l_10 y_10 z_10
        obtain ⟨rfl, Nq_10, e_10⟩ := hQ_10
        have N_10 := Fr.app N_7 Nq_10
        refine own_st st_10 ?_
        show own_Go _ _ _ _ (T_10.setTop (mkF m 67 #[rv a1, iv 5] [(.int (own_eq41 x0 x1 x2 x3 x4))]))
        by_cases hc67__11 : (own_eq41 x0 x1 x2 x3 x4) = (0 : Int32)
        · have hv_12 := hv_9.trans (if_pos hc67__11)
          refine o_ifYes X_10 hx (pc' := 72) (hb hby d3_67) (teq hc67__11).1 (by decide) (by decide) ?_
          refine o_iconst X_10 hx 0 (hb hby d3_72) rfl ?_
          exact own_end X_10 e_10 (v := some (.int (0 : Int32))) (fun h => by rw [Bd.returns] at h; cases h) hlk (fun fs hr => retI X_10 hx Bd.returns (hb hby d3_73) hr) (Q := Q_rmref5 Z a0 a1 k dv x0 x1 x2 x3 x4 h0 n0) ⟨(congrArg (fun z => some (Value.int z)) hv_12.symm), N_10, rfl⟩ (by decide) (by decide)
        · have hv_13 := hv_9.trans (if_neg hc67__11)
          refine o_ifNo X_10 hx (hb hby d3_67) (feq hc67__11).1 ?_
          refine o_iconst X_10 hx 1 (hb hby d3_70) rfl ?_
          exact own_end X_10 e_10 (v := some (.int (1 : Int32))) (fun h => by rw [Bd.returns] at h; cases h) hlk (fun fs hr => retI X_10 hx Bd.returns (hb hby d3_71) hr) (Q := Q_rmref5 Z a0 a1 k dv x0 x1 x2 x3 x4 h0 n0) ⟨(congrArg (fun z => some (Value.int z)) hv_13.symm), N_10, rfl⟩ (by decide) (by decide)
      · have hv_14 := hv_6.trans (if_neg hc49__8)
        refine o_ifNo X_7 hx (hb hby d3_49) (feq hc49__8).1 ?_
        refine o_iconst X_7 hx 2 (hb hby d3_52) rfl ?_
        exact own_end X_7 e_7 (v := some (.int (2 : Int32))) (fun h => by rw [Bd.returns] at h; cases h) hlk (fun fs hr => retI X_7 hx Bd.returns (hb hby d3_53) hr) (Q := Q_rmref5 Z a0 a1 k dv x0 x1 x2 x3 x4 h0 n0) ⟨(congrArg (fun z => some (Value.int z)) hv_14.symm), N_7, rfl⟩ (by decide) (by decide)
    · have hv_15 := hv_3.trans (if_neg hc31__5)
      refine o_ifNo X_4 hx (hb hby d3_31) (feq hc31__5).1 ?_
      refine o_iconst X_4 hx 3 (hb hby d3_34) rfl ?_
      exact own_end X_4 e_4 (v := some (.int (3 : Int32))) (fun h => by rw [Bd.returns] at h; cases h) hlk (fun fs hr => retI X_4 hx Bd.returns (hb hby d3_35) hr) (Q := Q_rmref5 Z a0 a1 k dv x0 x1 x2 x3 x4 h0 n0) ⟨(congrArg (fun z => some (Value.int z)) hv_15.symm), N_4, rfl⟩ (by decide) (by decide)
  · have hv_16 := hv.trans (if_neg hc13__2)
    refine o_ifNo X_1 hx (hb hby d3_13) (feq hc13__2).1 ?_
    refine o_iconst X_1 hx 4 (hb hby d3_16) rfl ?_
    exact own_end X_1 e_1 (v := some (.int (4 : Int32))) (fun h => by rw [Bd.returns] at h; cases h) hlk (fun fs hr => retI X_1 hx Bd.returns (hb hby d3_17) hr) (Q := Q_rmref5 Z a0 a1 k dv x0 x1 x2 x3 x4 h0 n0) ⟨(congrArg (fun z => some (Value.int z)) hv_16.symm), N_1, rfl⟩ (by decide) (by decide)
theorem own_eqz14 (x0 x1 x2 x3 x4 : Int32) : (own_eq14 x0 x1 x2 x3 x4 = (0 : Int32)) = ¬ (x0.toInt = x1.toInt ∧ x1.toInt = x2.toInt ∧ x2.toInt = x3.toInt ∧ x3.toInt = x4.toInt) := by
  have e : ∀ a b : Int32, (a = b) = (a.toInt = b.toInt) := fun a b => propext Int32.toInt_inj.symm
  unfold own_eq14
  apply propext
  simp only [e]
  repeat' split
  all_goals first | exact ⟨fun _ => by omega, fun _ => rfl⟩ | exact ⟨fun h => absurd h (by decide), fun h => absurd h (by omega)⟩
theorem own_eqz23 (x0 x1 x2 x3 x4 : Int32) : (own_eq23 x0 x1 x2 x3 x4 = (0 : Int32)) = ¬ (x0.toInt = x2.toInt ∧ x1.toInt = x3.toInt ∧ x2.toInt = x4.toInt) := by
  have e : ∀ a b : Int32, (a = b) = (a.toInt = b.toInt) := fun a b => propext Int32.toInt_inj.symm
  unfold own_eq23
  apply propext
  simp only [e]
  repeat' split
  all_goals first | exact ⟨fun _ => by omega, fun _ => rfl⟩ | exact ⟨fun h => absurd h (by decide), fun h => absurd h (by omega)⟩
theorem own_eqz32 (x0 x1 x2 x3 x4 : Int32) : (own_eq32 x0 x1 x2 x3 x4 = (0 : Int32)) = ¬ (x0.toInt = x3.toInt ∧ x1.toInt = x4.toInt) := by
  have e : ∀ a b : Int32, (a = b) = (a.toInt = b.toInt) := fun a b => propext Int32.toInt_inj.symm
  unfold own_eq32
  apply propext
  simp only [e]
  repeat' split
  all_goals first | exact ⟨fun _ => by omega, fun _ => rfl⟩ | exact ⟨fun h => absurd h (by decide), fun h => absurd h (by omega)⟩
theorem own_eqz41 (x0 x1 x2 x3 x4 : Int32) : (own_eq41 x0 x1 x2 x3 x4 = (0 : Int32)) = ¬ (x0.toInt = x4.toInt) := by
  have e : ∀ a b : Int32, (a = b) = (a.toInt = b.toInt) := fun a b => propext Int32.toInt_inj.symm
  unfold own_eq41
  apply propext
  simp only [e]
  repeat' split
  all_goals first | exact ⟨fun _ => by omega, fun _ => rfl⟩ | exact ⟨fun h => absurd h (by decide), fun h => absurd h (by omega)⟩
theorem own_eqz13 (x0 x1 x2 x3 x4 : Int32) : (own_eq13 x0 x1 x2 x3 x4 = (0 : Int32)) = ¬ (x0.toInt = x1.toInt ∧ x1.toInt = x2.toInt ∧ x2.toInt = x3.toInt) := by
  have e : ∀ a b : Int32, (a = b) = (a.toInt = b.toInt) := fun a b => propext Int32.toInt_inj.symm
  unfold own_eq13
  apply propext
  simp only [e]
  repeat' split
  all_goals first | exact ⟨fun _ => by omega, fun _ => rfl⟩ | exact ⟨fun h => absurd h (by decide), fun h => absurd h (by omega)⟩
theorem own_eqz22 (x0 x1 x2 x3 x4 : Int32) : (own_eq22 x0 x1 x2 x3 x4 = (0 : Int32)) = ¬ (x0.toInt = x2.toInt ∧ x1.toInt = x3.toInt) := by
  have e : ∀ a b : Int32, (a = b) = (a.toInt = b.toInt) := fun a b => propext Int32.toInt_inj.symm
  unfold own_eq22
  apply propext
  simp only [e]
  repeat' split
  all_goals first | exact ⟨fun _ => by omega, fun _ => rfl⟩ | exact ⟨fun h => absurd h (by decide), fun h => absurd h (by omega)⟩
theorem own_eqz31 (x0 x1 x2 x3 x4 : Int32) : (own_eq31 x0 x1 x2 x3 x4 = (0 : Int32)) = ¬ (x0.toInt = x3.toInt) := by
  have e : ∀ a b : Int32, (a = b) = (a.toInt = b.toInt) := fun a b => propext Int32.toInt_inj.symm
  unfold own_eq31
  apply propext
  simp only [e]
  repeat' split
  all_goals first | exact ⟨fun _ => by omega, fun _ => rfl⟩ | exact ⟨fun h => absurd h (by decide), fun h => absurd h (by omega)⟩
theorem own_eqz12 (x0 x1 x2 x3 x4 : Int32) : (own_eq12 x0 x1 x2 x3 x4 = (0 : Int32)) = ¬ (x0.toInt = x1.toInt ∧ x1.toInt = x2.toInt) := by
  have e : ∀ a b : Int32, (a = b) = (a.toInt = b.toInt) := fun a b => propext Int32.toInt_inj.symm
  unfold own_eq12
  apply propext
  simp only [e]
  repeat' split
  all_goals first | exact ⟨fun _ => by omega, fun _ => rfl⟩ | exact ⟨fun h => absurd h (by decide), fun h => absurd h (by omega)⟩
theorem own_eqz21 (x0 x1 x2 x3 x4 : Int32) : (own_eq21 x0 x1 x2 x3 x4 = (0 : Int32)) = ¬ (x0.toInt = x2.toInt) := by
  have e : ∀ a b : Int32, (a = b) = (a.toInt = b.toInt) := fun a b => propext Int32.toInt_inj.symm
  unfold own_eq21
  apply propext
  simp only [e]
  repeat' split
  all_goals first | exact ⟨fun _ => by omega, fun _ => rfl⟩ | exact ⟨fun h => absurd h (by decide), fun h => absurd h (by omega)⟩
theorem own_eqz11 (x0 x1 x2 x3 x4 : Int32) : (own_eq11 x0 x1 x2 x3 x4 = (0 : Int32)) = ¬ (x0.toInt = x1.toInt) := by
  have e : ∀ a b : Int32, (a = b) = (a.toInt = b.toInt) := fun a b => propext Int32.toInt_inj.symm
  unfold own_eq11
  apply propext
  simp only [e]
  repeat' split
  all_goals first | exact ⟨fun _ => by omega, fun _ => rfl⟩ | exact ⟨fun h => absurd h (by decide), fun h => absurd h (by omega)⟩
def own_bord0 (x0 : Int32) (x1 : Int32) (x2 : Int32) (x3 : Int32) (x4 : Int32) : List Value := []
set_option maxHeartbeats 40000000 in
theorem own_bord_eq0 (x0 : Int32) (x1 : Int32) (x2 : Int32) (x3 : Int32) (x4 : Int32) : own_bord0 x0 x1 x2 x3 x4 = [] := by
  rfl
theorem pn_2 : plainName "com/example/ordinance/ordinance/policy/PartFinder" = true := by first | (simp [plainName, overriddenIn]; done) | decide +kernel
theorem d2_0 : decode prog_23_method_3_code 0 = .ok (.iload_n 1, 1) := by decide +kernel
theorem d2_1 : decode prog_23_method_3_code 1 = .ok (.newarray .int, 2) := by decide +kernel
theorem d2_3 : decode prog_23_method_3_code 3 = .ok (.astore_n 2, 1) := by decide +kernel
theorem d2_4 : decode prog_23_method_3_code 4 = .ok (.iconst 0, 1) := by decide +kernel
theorem d2_5 : decode prog_23_method_3_code 5 = .ok (.istore_n 3, 1) := by decide +kernel
theorem d2_6 : decode prog_23_method_3_code 6 = .ok (.iconst 1, 1) := by decide +kernel
theorem d2_7 : decode prog_23_method_3_code 7 = .ok (.istore 4, 2) := by decide +kernel
theorem d2_9 : decode prog_23_method_3_code 9 = .ok (.iload 4, 2) := by decide +kernel
theorem d2_11 : decode prog_23_method_3_code 11 = .ok (.iload_n 1, 1) := by decide +kernel
theorem d2_12 : decode prog_23_method_3_code 12 = .ok (.if_icmp .ge 50, 3) := by decide +kernel
theorem d2_62 : decode prog_23_method_3_code 62 = .ok (.aload_n 2, 1) := by decide +kernel
theorem d2_63 : decode prog_23_method_3_code 63 = .ok (.areturn, 1) := by decide +kernel
theorem ef_rmbo0 (m : MethodId) (a1 : Addr) : entryFrame m #[(.ref a1), (.int (0 : Int32))] 5 = mkF m 0 #[rv a1, iv 0, .unset, .unset, .unset] [] := by first | (simp [entryFrame, mkF, argsToLocals, Value.category]; done) | rfl
def Q_rmbo0 (Z : State) (a0 : Array Value) (a1 : Addr) (k : ClassId) (dv : Value) (x0 : Int32) (x1 : Int32) (x2 : Int32) (x3 : Int32) (x4 : Int32) (h0 : Heap) (n0 : Nat) (v : Option Value) (h : Heap) (L : List Loc) : Prop := ∃ b : Addr, ∃ kB : ClassId, v = some (.ref b) ∧ Fr n0 L ∧ Keep h0 h [] ∧ n0 ≤ b ∧ h0.size ≤ b ∧ Arv Z h b kB .int (0 : Int32) [] (.int (0 : Int32))
set_option maxRecDepth 65536 in
set_option maxHeartbeats 40000000 in
theorem rmbo0 (l : Launch) (Z : State) (a0 : Array Value) (hw : ∀ d ∈ tables_1, d.before a0 Z = true) (ws : List Jvm.Cond) (a1 : Addr) (k : ClassId) (dv : Value) (x0 : Int32) (x1 : Int32) (x2 : Int32) (x3 : Int32) (x4 : Int32) (h0 : Heap) (n0 : Nat) (Z0 : n0 ≤ h0.size) (V1 : Arv Z h0 a1 k .int (5 : Int32) [(.int x0), (.int x1), (.int x2), (.int x3), (.int x4)] dv) :
    MetFree l (⟨"com/example/ordinance/ordinance/policy/PartFinder", "borders", "([II)[I"⟩ : MethodName) (head1 (Jvm.Cond.code (⟨"com/example/ordinance/ordinance/policy/PartFinder", "borders", "([II)[I"⟩ : MethodName) prog_23_method_3_code 5 (some (.array .int)) :: ws) ({ frames := 0, cells := 1, slots := 0, locals := 0 } : Room)) (fun a U => a = #[(.ref a1), (.int (0 : Int32))] ∧ Z.Warmed39 U.vm ∧ U.heap = h0) (fun _ _ _ _ _ => True) (fun _ U o U' => ∃ v L, o = .returned v ∧ Q_rmbo0 Z a0 a1 k dv x0 x1 x2 x3 x4 h0 n0 v U'.heap L ∧ FrameEnd U o U' L ({ frames := 0, cells := 1, slots := 0, locals := 0 } : Room).cells ({ frames := 0, cells := 1, slots := 0, locals := 0 } : Room).slots) := by
  refine MetFree.of_bodySF (plainFor_of_name pn_2) hisR ?_
  intro p e s m args below meth c s₁ Bd hml0 hP hK
  obtain ⟨rfl, hZ, hh⟩ := hP
  have hx := Bd.exec
  have hby := Bd.bytes
  have hml : c.maxLocals = 5 := hml0
  have hown : s.vm.findClass "com/example/ordinance/ordinance/policy/PartFinder" = some m.cls := findClass_of_methodNamed Bd.named
  have hnm := (name_of_methodNamed Bd.named Bd.method).1
  have hlk : meth.locks = false := BodyLoose.notSynchronized (by assumption)
  have X0 : Stand p l e ({ frames := 0, cells := 1, slots := 0, locals := 0 } : Room) s m #[(.ref a1), (.int (0 : Int32))] below meth c s₁ [] 0 0 := Stand.of_body Bd
  have e0 : s₁.heap = h0 := by rw [← hh, Bd.state]; rfl
  have N0 := Fr.nil n0
  show own_Go p.tables e below (fun o U' => ∃ v L, o = .returned v ∧ Q_rmbo0 Z a0 a1 k dv x0 x1 x2 x3 x4 h0 n0 v U'.heap L ∧ FrameEnd s o U' L ({ frames := 0, cells := 1, slots := 0, locals := 0 } : Room).cells ({ frames := 0, cells := 1, slots := 0, locals := 0 } : Room).slots) (s₁.setTop (entryFrame m #[(.ref a1), (.int (0 : Int32))] 5))
  refine own_st (fun t k => castTop (ef_rmbo0 m a1) k) ?_
  have hv : own_bord0 x0 x1 x2 x3 x4 = [] := rfl
  show own_Go _ _ _ _ (s₁.setTop (mkF m 0 #[rv a1, iv 0, .unset, .unset, .unset] []))
  refine o_iloadN X0 hx (hb hby d2_0) rfl ?_
  obtain ⟨T_1, h_1, k_1, X_1, e_1, E_1, A_1, st_1⟩ := newP X0 hx hZ (hw _ (List.mem_of_getElem? (i := 0) rfl)) e0 (g := (mkF m 1 #[rv a1, iv 0, .unset, .unset, .unset] [(.int 0)])) rfl (hb hby d2_1) rfl (by decide) (cap := 0) (by decide) (by decide) (by decide) (by decide)
  obtain ⟨b_1, g_1⟩ : ∃ z, z = h0.size := ⟨_, rfl⟩
  rw [← g_1] at A_1 st_1
  have V_1 : Arv Z h_1 b_1 k_1 .int (0 : Int32) [] (.int (0 : Int32)) := (Arv.new A_1 (by decide)).pad (pad_rep [] (.int (0 : Int32)) 0)
  have gg_1 : n0 ≤ b_1 := Nat.le_trans Z0 (Nat.le_of_eq g_1.symm)
  have sz_1 : h0.size ≤ b_1 := Nat.le_trans (Keep.refl h0 []).1 (Nat.le_of_eq g_1.symm)
  refine own_st st_1 ?_
  show own_Go _ _ _ _ (T_1.setTop (mkF m 3 #[rv a1, iv 0, .unset, .unset, .unset] [(.ref b_1)]))
  refine o_astoreN X_1 hx (hb hby d2_3) rfl (l' := #[rv a1, iv 0, rv b_1, .unset, .unset]) rfl ?_
  refine o_iconst X_1 hx 0 (hb hby d2_4) rfl ?_
  refine o_istoreN X_1 hx (hb hby d2_5) (l' := #[rv a1, iv 0, rv b_1, iv 0, .unset]) rfl ?_
  refine o_iconst X_1 hx 1 (hb hby d2_6) rfl ?_
  refine o_istore X_1 hx (hb hby d2_7) (l' := #[rv a1, iv 0, rv b_1, iv 0, iv 1]) rfl ?_
  refine o_iload X_1 hx (hb hby d2_9) rfl ?_
  refine o_iloadN X_1 hx (hb hby d2_11) rfl ?_
  refine o_icmpYes X_1 hx (pc' := 62) (hb hby d2_12) (flt (by decide : ¬ ((1 : Int32) < (0 : Int32)))).2.1 (by decide) (by decide) ?_
  refine o_aloadN X_1 hx (hb hby d2_62) rfl rfl ?_
  have Kp_2 : Keep h0 h_1 [] := ((Keep.refl h0 []).ext E_1)
  exact own_end X_1 e_1 (v := some (.ref b_1)) (fun h => by rw [Bd.returns] at h; cases h) hlk (fun fs hr => own_retA X_1 hx Bd.returns rfl rfl (hb hby d2_63) hr) (Q := Q_rmbo0 Z a0 a1 k dv x0 x1 x2 x3 x4 h0 n0) ⟨b_1, k_1, rfl, N0, Kp_2, gg_1, sz_1, (Eq.mp (congrArg (fun z => Arv Z h_1 b_1 k_1 .int (0 : Int32) z (.int (0 : Int32))) (hv.symm.trans (own_bord_eq0 x0 x1 x2 x3 x4))) V_1)⟩ (by decide) (by decide)
def own_bord1 (x0 : Int32) (x1 : Int32) (x2 : Int32) (x3 : Int32) (x4 : Int32) : List Value := [(.int (0 : Int32))]
set_option maxHeartbeats 40000000 in
theorem own_bord_eq1 (x0 : Int32) (x1 : Int32) (x2 : Int32) (x3 : Int32) (x4 : Int32) : own_bord1 x0 x1 x2 x3 x4 = [(.int (own_ref1 x0 x1 x2 x3 x4))] := by
  rfl
theorem ef_rmbo1 (m : MethodId) (a1 : Addr) : entryFrame m #[(.ref a1), (.int (1 : Int32))] 5 = mkF m 0 #[rv a1, iv 1, .unset, .unset, .unset] [] := by first | (simp [entryFrame, mkF, argsToLocals, Value.category]; done) | rfl
def Q_rmbo1 (Z : State) (a0 : Array Value) (a1 : Addr) (k : ClassId) (dv : Value) (x0 : Int32) (x1 : Int32) (x2 : Int32) (x3 : Int32) (x4 : Int32) (h0 : Heap) (n0 : Nat) (v : Option Value) (h : Heap) (L : List Loc) : Prop := ∃ b : Addr, ∃ kB : ClassId, v = some (.ref b) ∧ Fr n0 L ∧ Keep h0 h [] ∧ n0 ≤ b ∧ h0.size ≤ b ∧ Arv Z h b kB .int (1 : Int32) [(.int (own_ref1 x0 x1 x2 x3 x4))] (.int (0 : Int32))
set_option maxRecDepth 65536 in
set_option maxHeartbeats 40000000 in
theorem rmbo1 (l : Launch) (Z : State) (a0 : Array Value) (hw : ∀ d ∈ tables_1, d.before a0 Z = true) (ws : List Jvm.Cond) (a1 : Addr) (k : ClassId) (dv : Value) (x0 : Int32) (x1 : Int32) (x2 : Int32) (x3 : Int32) (x4 : Int32) (h0 : Heap) (n0 : Nat) (Z0 : n0 ≤ h0.size) (V1 : Arv Z h0 a1 k .int (5 : Int32) [(.int x0), (.int x1), (.int x2), (.int x3), (.int x4)] dv) :
    MetFree l (⟨"com/example/ordinance/ordinance/policy/PartFinder", "borders", "([II)[I"⟩ : MethodName) (head1 (Jvm.Cond.code (⟨"com/example/ordinance/ordinance/policy/PartFinder", "borders", "([II)[I"⟩ : MethodName) prog_23_method_3_code 5 (some (.array .int)) :: ws) ({ frames := 0, cells := 1, slots := 1, locals := 0 } : Room)) (fun a U => a = #[(.ref a1), (.int (1 : Int32))] ∧ Z.Warmed39 U.vm ∧ U.heap = h0) (fun _ _ _ _ _ => True) (fun _ U o U' => ∃ v L, o = .returned v ∧ Q_rmbo1 Z a0 a1 k dv x0 x1 x2 x3 x4 h0 n0 v U'.heap L ∧ FrameEnd U o U' L ({ frames := 0, cells := 1, slots := 1, locals := 0 } : Room).cells ({ frames := 0, cells := 1, slots := 1, locals := 0 } : Room).slots) := by
  refine MetFree.of_bodySF (plainFor_of_name pn_2) hisR ?_
  intro p e s m args below meth c s₁ Bd hml0 hP hK
  obtain ⟨rfl, hZ, hh⟩ := hP
  have hx := Bd.exec
  have hby := Bd.bytes
  have hml : c.maxLocals = 5 := hml0
  have hown : s.vm.findClass "com/example/ordinance/ordinance/policy/PartFinder" = some m.cls := findClass_of_methodNamed Bd.named
  have hnm := (name_of_methodNamed Bd.named Bd.method).1
  have hlk : meth.locks = false := BodyLoose.notSynchronized (by assumption)
  have X0 : Stand p l e ({ frames := 0, cells := 1, slots := 1, locals := 0 } : Room) s m #[(.ref a1), (.int (1 : Int32))] below meth c s₁ [] 0 0 := Stand.of_body Bd
  have e0 : s₁.heap = h0 := by rw [← hh, Bd.state]; rfl
  have N0 := Fr.nil n0
  show own_Go p.tables e below (fun o U' => ∃ v L, o = .returned v ∧ Q_rmbo1 Z a0 a1 k dv x0 x1 x2 x3 x4 h0 n0 v U'.heap L ∧ FrameEnd s o U' L ({ frames := 0, cells := 1, slots := 1, locals := 0 } : Room).cells ({ frames := 0, cells := 1, slots := 1, locals := 0 } : Room).slots) (s₁.setTop (entryFrame m #[(.ref a1), (.int (1 : Int32))] 5))
  refine own_st (fun t k => castTop (ef_rmbo1 m a1) k) ?_
  have hv : own_bord1 x0 x1 x2 x3 x4 = [(.int (0 : Int32))] := rfl
  show own_Go _ _ _ _ (s₁.setTop (mkF m 0 #[rv a1, iv 1, .unset, .unset, .unset] []))
  refine o_iloadN X0 hx (hb hby d2_0) rfl ?_
  obtain ⟨T_1, h_1, k_1, X_1, e_1, E_1, A_1, st_1⟩ := newP X0 hx hZ (hw _ (List.mem_of_getElem? (i := 0) rfl)) e0 (g := (mkF m 1 #[rv a1, iv 1, .unset, .unset, .unset] [(.int 1)])) rfl (hb hby d2_1) rfl (by decide) (cap := 1) (by decide) (by decide) (by decide) (by decide)
  obtain ⟨b_1, g_1⟩ : ∃ z, z = h0.size := ⟨_, rfl⟩
  rw [← g_1] at A_1 st_1
  have V_1 : Arv Z h_1 b_1 k_1 .int (1 : Int32) [(.int (0 : Int32))] (.int (0 : Int32)) := (Arv.new A_1 (by decide)).pad (pad_rep [] (.int (0 : Int32)) 1)
  have gg_1 : n0 ≤ b_1 := Nat.le_trans Z0 (Nat.le_of_eq g_1.symm)
  have sz_1 : h0.size ≤ b_1 := Nat.le_trans (Keep.refl h0 []).1 (Nat.le_of_eq g_1.symm)
  refine own_st st_1 ?_
  show own_Go _ _ _ _ (T_1.setTop (mkF m 3 #[rv a1, iv 1, .unset, .unset, .unset] [(.ref b_1)]))
  refine o_astoreN X_1 hx (hb hby d2_3) rfl (l' := #[rv a1, iv 1, rv b_1, .unset, .unset]) rfl ?_
  refine o_iconst X_1 hx 0 (hb hby d2_4) rfl ?_
  refine o_istoreN X_1 hx (hb hby d2_5) (l' := #[rv a1, iv 1, rv b_1, iv 0, .unset]) rfl ?_
  refine o_iconst X_1 hx 1 (hb hby d2_6) rfl ?_
  refine o_istore X_1 hx (hb hby d2_7) (l' := #[rv a1, iv 1, rv b_1, iv 0, iv 1]) rfl ?_
  refine o_iload X_1 hx (hb hby d2_9) rfl ?_
  refine o_iloadN X_1 hx (hb hby d2_11) rfl ?_
  refine o_icmpYes X_1 hx (pc' := 62) (hb hby d2_12) (flt (by decide : ¬ ((1 : Int32) < (1 : Int32)))).2.1 (by decide) (by decide) ?_
  refine o_aloadN X_1 hx (hb hby d2_62) rfl rfl ?_
  have Kp_2 : Keep h0 h_1 [] := ((Keep.refl h0 []).ext E_1)
  exact own_end X_1 e_1 (v := some (.ref b_1)) (fun h => by rw [Bd.returns] at h; cases h) hlk (fun fs hr => own_retA X_1 hx Bd.returns rfl rfl (hb hby d2_63) hr) (Q := Q_rmbo1 Z a0 a1 k dv x0 x1 x2 x3 x4 h0 n0) ⟨b_1, k_1, rfl, N0, Kp_2, gg_1, sz_1, (Eq.mp (congrArg (fun z => Arv Z h_1 b_1 k_1 .int (1 : Int32) z (.int (0 : Int32))) (hv.symm.trans (own_bord_eq1 x0 x1 x2 x3 x4))) V_1)⟩ (by decide) (by decide)
def own_bord2 (x0 : Int32) (x1 : Int32) (x2 : Int32) (x3 : Int32) (x4 : Int32) : List Value := (if x1 = x0 then [(.int (0 : Int32)), (.int (1 : Int32))] else [(.int (0 : Int32)), (.int (0 : Int32))])
set_option maxHeartbeats 40000000 in
theorem own_bord_eq2 (x0 : Int32) (x1 : Int32) (x2 : Int32) (x3 : Int32) (x4 : Int32) : own_bord2 x0 x1 x2 x3 x4 = [(.int (own_ref1 x0 x1 x2 x3 x4)), (.int (own_ref2 x0 x1 x2 x3 x4))] := by
  have e : ∀ a b : Int32, (a = b) = (a.toInt = b.toInt) := fun a b => propext Int32.toInt_inj.symm
  simp only [own_bord2, own_ref1, own_ref2, own_ref3, own_ref4, own_ref5, own_eqz14, own_eqz23, own_eqz32, own_eqz41, own_eqz13, own_eqz22, own_eqz31, own_eqz12, own_eqz21, own_eqz11, ite_not]
  simp only [e x0 x1, e x0 x2, e x0 x3, e x0 x4, e x1 x0, e x1 x2, e x1 x3, e x1 x4, e x2 x0, e x2 x1, e x2 x3, e x2 x4, e x3 x0, e x3 x1, e x3 x2, e x3 x4, e x4 x0, e x4 x1, e x4 x2, e x4 x3]
  generalize x0.toInt = y0; generalize x1.toInt = y1; generalize x2.toInt = y2; generalize x3.toInt = y3; generalize x4.toInt = y4
  by_cases h1 : y1 = y0
  · rw [if_pos h1]
    simp only [List.cons.injEq, Value.int.injEq, and_true, true_and]
    repeat' split
    all_goals first | rfl | (exfalso; omega)
  · rw [if_neg h1]
    simp only [List.cons.injEq, Value.int.injEq, and_true, true_and]
    repeat' split
    all_goals first | rfl | (exfalso; omega)
theorem d2_15 : decode prog_23_method_3_code 15 = .ok (.iload_n 3, 1) := by decide +kernel
theorem d2_16 : decode prog_23_method_3_code 16 = .ok (.ifCond .le 22, 3) := by decide +kernel
theorem d2_38 : decode prog_23_method_3_code 38 = .ok (.aload_n 0, 1) := by decide +kernel
theorem d2_39 : decode prog_23_method_3_code 39 = .ok (.iload 4, 2) := by decide +kernel
theorem d2_41 : decode prog_23_method_3_code 41 = .ok (.iaload, 1) := by decide +kernel
theorem d2_42 : decode prog_23_method_3_code 42 = .ok (.aload_n 0, 1) := by decide +kernel
theorem d2_43 : decode prog_23_method_3_code 43 = .ok (.iload_n 3, 1) := by decide +kernel
theorem d2_44 : decode prog_23_method_3_code 44 = .ok (.iaload, 1) := by decide +kernel
theorem d2_45 : decode prog_23_method_3_code 45 = .ok (.if_icmp .ne 6, 3) := by decide +kernel
theorem d2_48 : decode prog_23_method_3_code 48 = .ok (.iinc 3 1, 3) := by decide +kernel
theorem d2_51 : decode prog_23_method_3_code 51 = .ok (.aload_n 2, 1) := by decide +kernel
theorem d2_52 : decode prog_23_method_3_code 52 = .ok (.iload 4, 2) := by decide +kernel
theorem d2_54 : decode prog_23_method_3_code 54 = .ok (.iload_n 3, 1) := by decide +kernel
theorem d2_55 : decode prog_23_method_3_code 55 = .ok (.iastore, 1) := by decide +kernel
theorem d2_56 : decode prog_23_method_3_code 56 = .ok (.iinc 4 1, 3) := by decide +kernel
theorem d2_59 : decode prog_23_method_3_code 59 = .ok (.goto (-50), 3) := by decide +kernel
theorem ef_rmbo2 (m : MethodId) (a1 : Addr) : entryFrame m #[(.ref a1), (.int (2 : Int32))] 5 = mkF m 0 #[rv a1, iv 2, .unset, .unset, .unset] [] := by first | (simp [entryFrame, mkF, argsToLocals, Value.category]; done) | rfl
def Q_rmbo2 (Z : State) (a0 : Array Value) (a1 : Addr) (k : ClassId) (dv : Value) (x0 : Int32) (x1 : Int32) (x2 : Int32) (x3 : Int32) (x4 : Int32) (h0 : Heap) (n0 : Nat) (v : Option Value) (h : Heap) (L : List Loc) : Prop := ∃ b : Addr, ∃ kB : ClassId, v = some (.ref b) ∧ Fr n0 L ∧ Keep h0 h [] ∧ n0 ≤ b ∧ h0.size ≤ b ∧ Arv Z h b kB .int (2 : Int32) [(.int (own_ref1 x0 x1 x2 x3 x4)), (.int (own_ref2 x0 x1 x2 x3 x4))] (.int (0 : Int32))
set_option maxRecDepth 65536 in
set_option maxHeartbeats 40000000 in
theorem rmbo2 (l : Launch) (Z : State) (a0 : Array Value) (hw : ∀ d ∈ tables_1, d.before a0 Z = true) (ws : List Jvm.Cond) (a1 : Addr) (k : ClassId) (dv : Value) (x0 : Int32) (x1 : Int32) (x2 : Int32) (x3 : Int32) (x4 : Int32) (h0 : Heap) (n0 : Nat) (Z0 : n0 ≤ h0.size) (V1 : Arv Z h0 a1 k .int (5 : Int32) [(.int x0), (.int x1), (.int x2), (.int x3), (.int x4)] dv) :
    MetFree l (⟨"com/example/ordinance/ordinance/policy/PartFinder", "borders", "([II)[I"⟩ : MethodName) (head1 (Jvm.Cond.code (⟨"com/example/ordinance/ordinance/policy/PartFinder", "borders", "([II)[I"⟩ : MethodName) prog_23_method_3_code 5 (some (.array .int)) :: ws) ({ frames := 0, cells := 1, slots := 2, locals := 0 } : Room)) (fun a U => a = #[(.ref a1), (.int (2 : Int32))] ∧ Z.Warmed39 U.vm ∧ U.heap = h0) (fun _ _ _ _ _ => True) (fun _ U o U' => ∃ v L, o = .returned v ∧ Q_rmbo2 Z a0 a1 k dv x0 x1 x2 x3 x4 h0 n0 v U'.heap L ∧ FrameEnd U o U' L ({ frames := 0, cells := 1, slots := 2, locals := 0 } : Room).cells ({ frames := 0, cells := 1, slots := 2, locals := 0 } : Room).slots) := by
  refine MetFree.of_bodySF (plainFor_of_name pn_2) hisR ?_
  intro p e s m args below meth c s₁ Bd hml0 hP hK
  obtain ⟨rfl, hZ, hh⟩ := hP
  have hx := Bd.exec
  have hby := Bd.bytes
  have hml : c.maxLocals = 5 := hml0
  have hown : s.vm.findClass "com/example/ordinance/ordinance/policy/PartFinder" = some m.cls := findClass_of_methodNamed Bd.named
  have hnm := (name_of_methodNamed Bd.named Bd.method).1
  have hlk : meth.locks = false := BodyLoose.notSynchronized (by assumption)
  have X0 : Stand p l e ({ frames := 0, cells := 1, slots := 2, locals := 0 } : Room) s m #[(.ref a1), (.int (2 : Int32))] below meth c s₁ [] 0 0 := Stand.of_body Bd
  have e0 : s₁.heap = h0 := by rw [← hh, Bd.state]; rfl
  have N0 := Fr.nil n0
  show own_Go p.tables e below (fun o U' => ∃ v L, o = .returned v ∧ Q_rmbo2 Z a0 a1 k dv x0 x1 x2 x3 x4 h0 n0 v U'.heap L ∧ FrameEnd s o U' L ({ frames := 0, cells := 1, slots := 2, locals := 0 } : Room).cells ({ frames := 0, cells := 1, slots := 2, locals := 0 } : Room).slots) (s₁.setTop (entryFrame m #[(.ref a1), (.int (2 : Int32))] 5))
  refine own_st (fun t k => castTop (ef_rmbo2 m a1) k) ?_
  have hv : own_bord2 x0 x1 x2 x3 x4 = (if x1 = x0 then [(.int (0 : Int32)), (.int (1 : Int32))] else [(.int (0 : Int32)), (.int (0 : Int32))]) := rfl
  show own_Go _ _ _ _ (s₁.setTop (mkF m 0 #[rv a1, iv 2, .unset, .unset, .unset] []))
  refine o_iloadN X0 hx (hb hby d2_0) rfl ?_
  obtain ⟨T_1, h_1, k_1, X_1, e_1, E_1, A_1, st_1⟩ := newP X0 hx hZ (hw _ (List.mem_of_getElem? (i := 0) rfl)) e0 (g := (mkF m 1 #[rv a1, iv 2, .unset, .unset, .unset] [(.int 2)])) rfl (hb hby d2_1) rfl (by decide) (cap := 2) (by decide) (by decide) (by decide) (by decide)
  obtain ⟨b_1, g_1⟩ : ∃ z, z = h0.size := ⟨_, rfl⟩
  rw [← g_1] at A_1 st_1
  have V_1 : Arv Z h_1 b_1 k_1 .int (2 : Int32) [(.int (0 : Int32)), (.int (0 : Int32))] (.int (0 : Int32)) := (Arv.new A_1 (by decide)).pad (pad_rep [] (.int (0 : Int32)) 2)
  have gg_1 : n0 ≤ b_1 := Nat.le_trans Z0 (Nat.le_of_eq g_1.symm)
  have sz_1 : h0.size ≤ b_1 := Nat.le_trans (Keep.refl h0 []).1 (Nat.le_of_eq g_1.symm)
  refine own_st st_1 ?_
  show own_Go _ _ _ _ (T_1.setTop (mkF m 3 #[rv a1, iv 2, .unset, .unset, .unset] [(.ref b_1)]))
  refine o_astoreN X_1 hx (hb hby d2_3) rfl (l' := #[rv a1, iv 2, rv b_1, .unset, .unset]) rfl ?_
  refine o_iconst X_1 hx 0 (hb hby d2_4) rfl ?_
  refine o_istoreN X_1 hx (hb hby d2_5) (l' := #[rv a1, iv 2, rv b_1, iv 0, .unset]) rfl ?_
  refine o_iconst X_1 hx 1 (hb hby d2_6) rfl ?_
  refine o_istore X_1 hx (hb hby d2_7) (l' := #[rv a1, iv 2, rv b_1, iv 0, iv 1]) rfl ?_
  refine o_iload X_1 hx (hb hby d2_9) rfl ?_
  refine o_iloadN X_1 hx (hb hby d2_11) rfl ?_
  refine o_icmpNo X_1 hx (hb hby d2_12) (tlt (by decide : (1 : Int32) < (2 : Int32))).2.1 ?_
  refine o_iloadN X_1 hx (hb hby d2_15) rfl ?_
  refine o_ifYes X_1 hx (pc' := 38) (hb hby d2_16) (flt (by decide : ¬ ((0 : Int32) < (0 : Int32)))).2.2.2 (by decide) (by decide) ?_
  refine o_aloadN X_1 hx (hb hby d2_38) rfl rfl ?_
  refine o_iload X_1 hx (hb hby d2_39) rfl ?_
  have Fa_2 := (V1.ext E_1)
  obtain ⟨cl_3, Ar_3, qk_3, Sz_3, Ng_3, Hs_3, Gs_3⟩ := id Fa_2
  refine own_st (X_1.iaload hx (j := (1 : Int32)) (v := (.int x1)) (by rw [e_1]; exact Ar_3.1) (State.isArrayOf_alike hZ.alike Ar_3.2.1) Ar_3.2.2 (inb_of Sz_3 ⟨by decide, by decide⟩) (Hs_3.at (j := (1 : Int32)) (inb_of Sz_3 ⟨by decide, by decide⟩) rfl) (g := (mkF m 41 #[rv a1, iv 2, rv b_1, iv 0, iv 1] [(.int 1), (.ref a1)])) rfl rfl (hb hby d2_41)) ?_
  show own_Go _ _ _ _ (T_1.setTop (mkF m 42 #[rv a1, iv 2, rv b_1, iv 0, iv 1] [(.int x1)]))
  refine o_aloadN X_1 hx (hb hby d2_42) rfl rfl ?_
  refine o_iloadN X_1 hx (hb hby d2_43) rfl ?_
  obtain ⟨cl_4, Ar_4, qk_4, Sz_4, Ng_4, Hs_4, Gs_4⟩ := id Fa_2
  refine own_st (X_1.iaload hx (j := (0 : Int32)) (v := (.int x0)) (by rw [e_1]; exact Ar_4.1) (State.isArrayOf_alike hZ.alike Ar_4.2.1) Ar_4.2.2 (inb_of Sz_4 ⟨by decide, by decide⟩) (Hs_4.at (j := (0 : Int32)) (inb_of Sz_4 ⟨by decide, by decide⟩) rfl) (g := (mkF m 44 #[rv a1, iv 2, rv b_1, iv 0, iv 1] [(.int 0), (.ref a1), (.int x1)])) rfl rfl (hb hby d2_44)) ?_
  show own_Go _ _ _ _ (T_1.setTop (mkF m 45 #[rv a1, iv 2, rv b_1, iv 0, iv 1] [(.int x0), (.int x1)]))
  by_cases hc45__5 : x1 = x0
  · have hv_6 := hv.trans (if_pos hc45__5)
    refine o_icmpNo X_1 hx (hb hby d2_45) (teq hc45__5).2 ?_
    refine o_iinc X_1 hx (hb hby d2_48) rfl (l' := #[rv a1, iv 2, rv b_1, iv 1, iv 1]) rfl ?_
    refine o_aloadN X_1 hx (hb hby d2_51) rfl rfl ?_
    refine o_iload X_1 hx (hb hby d2_52) rfl ?_
    refine o_iloadN X_1 hx (hb hby d2_54) rfl ?_
    obtain ⟨cl_7, Ar_7, qk_7, Sz_7, Ng_7, Hs_7, Gs_7⟩ := id V_1
    obtain ⟨T_8, h_8, X_8, e_8, W_8, st_8⟩ := stI X_1 hx hZ e_1 Ar_7 (j := (1 : Int32)) (inb_of Sz_7 ⟨by decide, by decide⟩) (g := (mkF m 55 #[rv a1, iv 2, rv b_1, iv 1, iv 1] [(.int 1), (.int 1), (.ref b_1)])) rfl rfl (hb hby d2_55)
    refine own_st st_8 ?_
    have V_8 : Arv Z h_8 b_1 k_1 .int (2 : Int32) [(.int (0 : Int32)), (.int (1 : Int32))] (.int (0 : Int32)) := Arv.set Ar_7 qk_7 Sz_7 Ng_7 Hs_7 Gs_7 rfl W_8 1 rfl (Nat.le_of_ble_eq_true rfl)
    have N_8 := Fr.snoc X_8 N0 gg_1
    show own_Go _ _ _ _ (T_8.setTop (mkF m 56 #[rv a1, iv 2, rv b_1, iv 1, iv 1] []))
    refine o_iinc X_8 hx (hb hby d2_56) rfl (l' := #[rv a1, iv 2, rv b_1, iv 1, iv 2]) rfl ?_
    refine o_goto X_8 hx (pc' := 9) (hb hby d2_59) (by decide) (by decide) ?_
    refine o_iload X_8 hx (hb hby d2_9) rfl ?_
    refine o_iloadN X_8 hx (hb hby d2_11) rfl ?_
    refine o_icmpYes X_8 hx (pc' := 62) (hb hby d2_12) (flt (by decide : ¬ ((2 : Int32) < (2 : Int32)))).2.1 (by decide) (by decide) ?_
    refine o_aloadN X_8 hx (hb hby d2_62) rfl rfl ?_
    have Kp_9 : Keep h0 h_8 [] := (((Keep.refl h0 []).ext E_1).wr W_8 (Or.inr sz_1))
    exact own_end X_8 e_8 (v := some (.ref b_1)) (fun h => by rw [Bd.returns] at h; cases h) hlk (fun fs hr => own_retA X_8 hx Bd.returns rfl rfl (hb hby d2_63) hr) (Q := Q_rmbo2 Z a0 a1 k dv x0 x1 x2 x3 x4 h0 n0) ⟨b_1, k_1, rfl, N_8, Kp_9, gg_1, sz_1, (Eq.mp (congrArg (fun z => Arv Z h_8 b_1 k_1 .int (2 : Int32) z (.int (0 : Int32))) (hv_6.symm.trans (own_bord_eq2 x0 x1 x2 x3 x4))) V_8)⟩ (by decide) (by decide)
  · have hv_10 := hv.trans (if_neg hc45__5)
    refine o_icmpYes X_1 hx (pc' := 51) (hb hby d2_45) (feq hc45__5).2 (by decide) (by decide) ?_
    refine o_aloadN X_1 hx (hb hby d2_51) rfl rfl ?_
    refine o_iload X_1 hx (hb hby d2_52) rfl ?_
    refine o_iloadN X_1 hx (hb hby d2_54) rfl ?_
    obtain ⟨cl_11, Ar_11, qk_11, Sz_11, Ng_11, Hs_11, Gs_11⟩ := id V_1
    obtain ⟨T_12, h_12, X_12, e_12, W_12, st_12⟩ := stI X_1 hx hZ e_1 Ar_11 (j := (1 : Int32)) (inb_of Sz_11 ⟨by decide, by decide⟩) (g := (mkF m 55 #[rv a1, iv 2, rv b_1, iv 0, iv 1] [(.int 0), (.int 1), (.ref b_1)])) rfl rfl (hb hby d2_55)
    refine own_st st_12 ?_
    have V_12 : Arv Z h_12 b_1 k_1 .int (2 : Int32) [(.int (0 : Int32)), (.int (0 : Int32))] (.int (0 : Int32)) := Arv.set Ar_11 qk_11 Sz_11 Ng_11 Hs_11 Gs_11 rfl W_12 1 rfl (Nat.le_of_ble_eq_true rfl)
    have N_12 := Fr.snoc X_12 N0 gg_1
    show own_Go _ _ _ _ (T_12.setTop (mkF m 56 #[rv a1, iv 2, rv b_1, iv 0, iv 1] []))
    refine o_iinc X_12 hx (hb hby d2_56) rfl (l' := #[rv a1, iv 2, rv b_1, iv 0, iv 2]) rfl ?_
    refine o_goto X_12 hx (pc' := 9) (hb hby d2_59) (by decide) (by decide) ?_
    refine o_iload X_12 hx (hb hby d2_9) rfl ?_
    refine o_iloadN X_12 hx (hb hby d2_11) rfl ?_
    refine o_icmpYes X_12 hx (pc' := 62) (hb hby d2_12) (flt (by decide : ¬ ((2 : Int32) < (2 : Int32)))).2.1 (by decide) (by decide) ?_
    refine o_aloadN X_12 hx (hb hby d2_62) rfl rfl ?_
    have Kp_13 : Keep h0 h_12 [] := (((Keep.refl h0 []).ext E_1).wr W_12 (Or.inr sz_1))
    exact own_end X_12 e_12 (v := some (.ref b_1)) (fun h => by rw [Bd.returns] at h; cases h) hlk (fun fs hr => own_retA X_12 hx Bd.returns rfl rfl (hb hby d2_63) hr) (Q := Q_rmbo2 Z a0 a1 k dv x0 x1 x2 x3 x4 h0 n0) ⟨b_1, k_1, rfl, N_12, Kp_13, gg_1, sz_1, (Eq.mp (congrArg (fun z => Arv Z h_12 b_1 k_1 .int (2 : Int32) z (.int (0 : Int32))) (hv_10.symm.trans (own_bord_eq2 x0 x1 x2 x3 x4))) V_12)⟩ (by decide) (by decide)
def own_bord3 (x0 : Int32) (x1 : Int32) (x2 : Int32) (x3 : Int32) (x4 : Int32) : List Value := (if x1 = x0 then (if x2 = x1 then [(.int (0 : Int32)), (.int (1 : Int32)), (.int (2 : Int32))] else [(.int (0 : Int32)), (.int (1 : Int32)), (.int (0 : Int32))]) else (if x2 = x0 then [(.int (0 : Int32)), (.int (0 : Int32)), (.int (1 : Int32))] else [(.int (0 : Int32)), (.int (0 : Int32)), (.int (0 : Int32))]))
set_option maxHeartbeats 40000000 in
theorem own_bord_eq3 (x0 : Int32) (x1 : Int32) (x2 : Int32) (x3 : Int32) (x4 : Int32) : own_bord3 x0 x1 x2 x3 x4 = [(.int (own_ref1 x0 x1 x2 x3 x4)), (.int (own_ref2 x0 x1 x2 x3 x4)), (.int (own_ref3 x0 x1 x2 x3 x4))] := by
  have e : ∀ a b : Int32, (a = b) = (a.toInt = b.toInt) := fun a b => propext Int32.toInt_inj.symm
  simp only [own_bord3, own_ref1, own_ref2, own_ref3, own_ref4, own_ref5, own_eqz14, own_eqz23, own_eqz32, own_eqz41, own_eqz13, own_eqz22, own_eqz31, own_eqz12, own_eqz21, own_eqz11, ite_not]
  simp only [e x0 x1, e x0 x2, e x0 x3, e x0 x4, e x1 x0, e x1 x2, e x1 x3, e x1 x4, e x2 x0, e x2 x1, e x2 x3, e x2 x4, e x3 x0, e x3 x1, e x3 x2, e x3 x4, e x4 x0, e x4 x1, e x4 x2, e x4 x3]
  generalize x0.toInt = y0; generalize x1.toInt = y1; generalize x2.toInt = y2; generalize x3.toInt = y3; generalize x4.toInt = y4
  by_cases h1 : y1 = y0
  · rw [if_pos h1]
    by_cases h2 : y2 = y1
    · rw [if_pos h2]
      simp only [List.cons.injEq, Value.int.injEq, and_true, true_and]
      refine ⟨?_, ?_⟩ <;> (repeat' split) <;> first | rfl | (exfalso; omega)
    · rw [if_neg h2]
      simp only [List.cons.injEq, Value.int.injEq, and_true, true_and]
      refine ⟨?_, ?_⟩ <;> (repeat' split) <;> first | rfl | (exfalso; omega)
  · rw [if_neg h1]
    by_cases h2 : y2 = y0
    · rw [if_pos h2]
      simp only [List.cons.injEq, Value.int.injEq, and_true, true_and]
      refine ⟨?_, ?_⟩ <;> (repeat' split) <;> first | rfl | (exfalso; omega)
    · rw [if_neg h2]
      simp only [List.cons.injEq, Value.int.injEq, and_true, true_and]
      refine ⟨?_, ?_⟩ <;> (repeat' split) <;> first | rfl | (exfalso; omega)
theorem d2_19 : decode prog_23_method_3_code 19 = .ok (.aload_n 0, 1) := by decide +kernel
theorem d2_20 : decode prog_23_method_3_code 20 = .ok (.iload 4, 2) := by decide +kernel
theorem d2_22 : decode prog_23_method_3_code 22 = .ok (.iaload, 1) := by decide +kernel
theorem d2_23 : decode prog_23_method_3_code 23 = .ok (.aload_n 0, 1) := by decide +kernel
theorem d2_24 : decode prog_23_method_3_code 24 = .ok (.iload_n 3, 1) := by decide +kernel
theorem d2_25 : decode prog_23_method_3_code 25 = .ok (.iaload, 1) := by decide +kernel
theorem d2_26 : decode prog_23_method_3_code 26 = .ok (.if_icmp .eq 12, 3) := by decide +kernel
theorem d2_29 : decode prog_23_method_3_code 29 = .ok (.aload_n 2, 1) := by decide +kernel
theorem d2_30 : decode prog_23_method_3_code 30 = .ok (.iload_n 3, 1) := by decide +kernel
theorem d2_31 : decode prog_23_method_3_code 31 = .ok (.iconst 1, 1) := by decide +kernel
theorem d2_32 : decode prog_23_method_3_code 32 = .ok (.isub, 1) := by decide +kernel
theorem d2_33 : decode prog_23_method_3_code 33 = .ok (.iaload, 1) := by decide +kernel
theorem d2_34 : decode prog_23_method_3_code 34 = .ok (.istore_n 3, 1) := by decide +kernel
theorem d2_35 : decode prog_23_method_3_code 35 = .ok (.goto (-20), 3) := by decide +kernel
theorem ef_rmbo3 (m : MethodId) (a1 : Addr) : entryFrame m #[(.ref a1), (.int (3 : Int32))] 5 = mkF m 0 #[rv a1, iv 3, .unset, .unset, .unset] [] := by first | (simp [entryFrame, mkF, argsToLocals, Value.category]; done) | rfl
def Q_rmbo3 (Z : State) (a0 : Array Value) (a1 : Addr) (k : ClassId) (dv : Value) (x0 : Int32) (x1 : Int32) (x2 : Int32) (x3 : Int32) (x4 : Int32) (h0 : Heap) (n0 : Nat) (v : Option Value) (h : Heap) (L : List Loc) : Prop := ∃ b : Addr, ∃ kB : ClassId, v = some (.ref b) ∧ Fr n0 L ∧ Keep h0 h [] ∧ n0 ≤ b ∧ h0.size ≤ b ∧ Arv Z h b kB .int (3 : Int32) [(.int (own_ref1 x0 x1 x2 x3 x4)), (.int (own_ref2 x0 x1 x2 x3 x4)), (.int (own_ref3 x0 x1 x2 x3 x4))] (.int (0 : Int32))
set_option maxRecDepth 65536 in
set_option maxHeartbeats 40000000 in
theorem rmbo3 (l : Launch) (Z : State) (a0 : Array Value) (hw : ∀ d ∈ tables_1, d.before a0 Z = true) (ws : List Jvm.Cond) (a1 : Addr) (k : ClassId) (dv : Value) (x0 : Int32) (x1 : Int32) (x2 : Int32) (x3 : Int32) (x4 : Int32) (h0 : Heap) (n0 : Nat) (Z0 : n0 ≤ h0.size) (V1 : Arv Z h0 a1 k .int (5 : Int32) [(.int x0), (.int x1), (.int x2), (.int x3), (.int x4)] dv) :
    MetFree l (⟨"com/example/ordinance/ordinance/policy/PartFinder", "borders", "([II)[I"⟩ : MethodName) (head1 (Jvm.Cond.code (⟨"com/example/ordinance/ordinance/policy/PartFinder", "borders", "([II)[I"⟩ : MethodName) prog_23_method_3_code 5 (some (.array .int)) :: ws) ({ frames := 0, cells := 1, slots := 3, locals := 0 } : Room)) (fun a U => a = #[(.ref a1), (.int (3 : Int32))] ∧ Z.Warmed39 U.vm ∧ U.heap = h0) (fun _ _ _ _ _ => True) (fun _ U o U' => ∃ v L, o = .returned v ∧ Q_rmbo3 Z a0 a1 k dv x0 x1 x2 x3 x4 h0 n0 v U'.heap L ∧ FrameEnd U o U' L ({ frames := 0, cells := 1, slots := 3, locals := 0 } : Room).cells ({ frames := 0, cells := 1, slots := 3, locals := 0 } : Room).slots) := by
  refine MetFree.of_bodySF (plainFor_of_name pn_2) hisR ?_
  intro p e s m args below meth c s₁ Bd hml0 hP hK
  obtain ⟨rfl, hZ, hh⟩ := hP
  have hx := Bd.exec
  have hby := Bd.bytes
  have hml : c.maxLocals = 5 := hml0
  have hown : s.vm.findClass "com/example/ordinance/ordinance/policy/PartFinder" = some m.cls := findClass_of_methodNamed Bd.named
  have hnm := (name_of_methodNamed Bd.named Bd.method).1
  have hlk : meth.locks = false := BodyLoose.notSynchronized (by assumption)
  have X0 : Stand p l e ({ frames := 0, cells := 1, slots := 3, locals := 0 } : Room) s m #[(.ref a1), (.int (3 : Int32))] below meth c s₁ [] 0 0 := Stand.of_body Bd
  have e0 : s₁.heap = h0 := by rw [← hh, Bd.state]; rfl
  have N0 := Fr.nil n0
  show own_Go p.tables e below (fun o U' => ∃ v L, o = .returned v ∧ Q_rmbo3 Z a0 a1 k dv x0 x1 x2 x3 x4 h0 n0 v U'.heap L ∧ FrameEnd s o U' L ({ frames := 0, cells := 1, slots := 3, locals := 0 } : Room).cells ({ frames := 0, cells := 1, slots := 3, locals := 0 } : Room).slots) (s₁.setTop (entryFrame m #[(.ref a1), (.int (3 : Int32))] 5))
  refine own_st (fun t k => castTop (ef_rmbo3 m a1) k) ?_
  have hv : own_bord3 x0 x1 x2 x3 x4 = (if x1 = x0 then (if x2 = x1 then [(.int (0 : Int32)), (.int (1 : Int32)), (.int (2 : Int32))] else [(.int (0 : Int32)), (.int (1 : Int32)), (.int (0 : Int32))]) else (if x2 = x0 then [(.int (0 : Int32)), (.int (0 : Int32)), (.int (1 : Int32))] else [(.int (0 : Int32)), (.int (0 : Int32)), (.int (0 : Int32))])) := rfl
  show own_Go _ _ _ _ (s₁.setTop (mkF m 0 #[rv a1, iv 3, .unset, .unset, .unset] []))
  refine o_iloadN X0 hx (hb hby d2_0) rfl ?_
  obtain ⟨T_1, h_1, k_1, X_1, e_1, E_1, A_1, st_1⟩ := newP X0 hx hZ (hw _ (List.mem_of_getElem? (i := 0) rfl)) e0 (g := (mkF m 1 #[rv a1, iv 3, .unset, .unset, .unset] [(.int 3)])) rfl (hb hby d2_1) rfl (by decide) (cap := 3) (by decide) (by decide) (by decide) (by decide)
  obtain ⟨b_1, g_1⟩ : ∃ z, z = h0.size := ⟨_, rfl⟩
  rw [← g_1] at A_1 st_1
  have V_1 : Arv Z h_1 b_1 k_1 .int (3 : Int32) [(.int (0 : Int32)), (.int (0 : Int32)), (.int (0 : Int32))] (.int (0 : Int32)) := (Arv.new A_1 (by decide)).pad (pad_rep [] (.int (0 : Int32)) 3)
  have gg_1 : n0 ≤ b_1 := Nat.le_trans Z0 (Nat.le_of_eq g_1.symm)
  have sz_1 : h0.size ≤ b_1 := Nat.le_trans (Keep.refl h0 []).1 (Nat.le_of_eq g_1.symm)
  refine own_st st_1 ?_
  show own_Go _ _ _ _ (T_1.setTop (mkF m 3 #[rv a1, iv 3, .unset, .unset, .unset] [(.ref b_1)]))
  refine o_astoreN X_1 hx (hb hby d2_3) rfl (l' := #[rv a1, iv 3, rv b_1, .unset, .unset]) rfl ?_
  refine o_iconst X_1 hx 0 (hb hby d2_4) rfl ?_
  refine o_istoreN X_1 hx (hb hby d2_5) (l' := #[rv a1, iv 3, rv b_1, iv 0, .unset]) rfl ?_
  refine o_iconst X_1 hx 1 (hb hby d2_6) rfl ?_
  refine o_istore X_1 hx (hb hby d2_7) (l' := #[rv a1, iv 3, rv b_1, iv 0, iv 1]) rfl ?_
  refine o_iload X_1 hx (hb hby d2_9) rfl ?_
  refine o_iloadN X_1 hx (hb hby d2_11) rfl ?_
  refine o_icmpNo X_1 hx (hb hby d2_12) (tlt (by decide : (1 : Int32) < (3 : Int32))).2.1 ?_
  refine o_iloadN X_1 hx (hb hby d2_15) rfl ?_
  refine o_ifYes X_1 hx (pc' := 38) (hb hby d2_16) (flt (by decide : ¬ ((0 : Int32) < (0 : Int32)))).2.2.2 (by decide) (by decide) ?_
  refine o_aloadN X_1 hx (hb hby d2_38) rfl rfl ?_
  refine o_iload X_1 hx (hb hby d2_39) rfl ?_
  have Fa_2 := (V1.ext E_1)
  obtain ⟨cl_3, Ar_3, qk_3, Sz_3, Ng_3, Hs_3, Gs_3⟩ := id Fa_2
  refine own_st (X_1.iaload hx (j := (1 : Int32)) (v := (.int x1)) (by rw [e_1]; exact Ar_3.1) (State.isArrayOf_alike hZ.alike Ar_3.2.1) Ar_3.2.2 (inb_of Sz_3 ⟨by decide, by decide⟩) (Hs_3.at (j := (1 : Int32)) (inb_of Sz_3 ⟨by decide, by decide⟩) rfl) (g := (mkF m 41 #[rv a1, iv 3, rv b_1, iv 0, iv 1] [(.int 1), (.ref a1)])) rfl rfl (hb hby d2_41)) ?_
  show own_Go _ _ _ _ (T_1.setTop (mkF m 42 #[rv a1, iv 3, rv b_1, iv 0, iv 1] [(.int x1)]))
  refine o_aloadN X_1 hx (hb hby d2_42) rfl rfl ?_
  refine o_iloadN X_1 hx (hb hby d2_43) rfl ?_
  obtain ⟨cl_4, Ar_4, qk_4, Sz_4, Ng_4, Hs_4, Gs_4⟩ := id Fa_2
  refine own_st (X_1.iaload hx (j := (0 : Int32)) (v := (.int x0)) (by rw [e_1]; exact Ar_4.1) (State.isArrayOf_alike hZ.alike Ar_4.2.1) Ar_4.2.2 (inb_of Sz_4 ⟨by decide, by decide⟩) (Hs_4.at (j := (0 : Int32)) (inb_of Sz_4 ⟨by decide, by decide⟩) rfl) (g := (mkF m 44 #[rv a1, iv 3, rv b_1, iv 0, iv 1] [(.int 0), (.ref a1), (.int x1)])) rfl rfl (hb hby d2_44)) ?_
  show own_Go _ _ _ _ (T_1.setTop (mkF m 45 #[rv a1, iv 3, rv b_1, iv 0, iv 1] [(.int x0), (.int x1)]))
  by_cases hc45__5 : x1 = x0
  · have hv_6 := hv.trans (if_pos hc45__5)
    refine o_icmpNo X_1 hx (hb hby d2_45) (teq hc45__5).2 ?_
    refine o_iinc X_1 hx (hb hby d2_48) rfl (l' := #[rv a1, iv 3, rv b_1, iv 1, iv 1]) rfl ?_
    refine o_aloadN X_1 hx (hb hby d2_51) rfl rfl ?_
    refine o_iload X_1 hx (hb hby d2_52) rfl ?_
    refine o_iloadN X_1 hx (hb hby d2_54) rfl ?_
    obtain ⟨cl_7, Ar_7, qk_7, Sz_7, Ng_7, Hs_7, Gs_7⟩ := id V_1
    obtain ⟨T_8, h_8, X_8, e_8, W_8, st_8⟩ := stI X_1 hx hZ e_1 Ar_7 (j := (1 : Int32)) (inb_of Sz_7 ⟨by decide, by decide⟩) (g := (mkF m 55 #[rv a1, iv 3, rv b_1, iv 1, iv 1] [(.int 1), (.int 1), (.ref b_1)])) rfl rfl (hb hby d2_55)
    refine own_st st_8 ?_
    have V_8 : Arv Z h_8 b_1 k_1 .int (3 : Int32) [(.int (0 : Int32)), (.int (1 : Int32)), (.int (0 : Int32))] (.int (0 : Int32)) := Arv.set Ar_7 qk_7 Sz_7 Ng_7 Hs_7 Gs_7 rfl W_8 1 rfl (Nat.le_of_ble_eq_true rfl)
    have N_8 := Fr.snoc X_8 N0 gg_1
    show own_Go _ _ _ _ (T_8.setTop (mkF m 56 #[rv a1, iv 3, rv b_1, iv 1, iv 1] []))
    refine o_iinc X_8 hx (hb hby d2_56) rfl (l' := #[rv a1, iv 3, rv b_1, iv 1, iv 2]) rfl ?_
    refine o_goto X_8 hx (pc' := 9) (hb hby d2_59) (by decide) (by decide) ?_
    refine o_iload X_8 hx (hb hby d2_9) rfl ?_
    refine o_iloadN X_8 hx (hb hby d2_11) rfl ?_
    refine o_icmpNo X_8 hx (hb hby d2_12) (tlt (by decide : (2 : Int32) < (3 : Int32))).2.1 ?_
    refine o_iloadN X_8 hx (hb hby d2_15) rfl ?_
    refine o_ifNo X_8 hx (hb hby d2_16) (tlt (by decide : (0 : Int32) < (1 : Int32))).2.2.2 ?_
    refine o_aloadN X_8 hx (hb hby d2_19) rfl rfl ?_
    refine o_iload X_8 hx (hb hby d2_20) rfl ?_
    have Fa_9 := (Fa_2.other W_8 (Nat.ne_of_lt (Nat.lt_of_lt_of_le V1.lt (Nat.le_of_eq g_1.symm))))
    obtain ⟨cl_10, Ar_10, qk_10, Sz_10, Ng_10, Hs_10, Gs_10⟩ := id Fa_9
    refine own_st (X_8.iaload hx (j := (2 : Int32)) (v := (.int x2)) (by rw [e_8]; exact Ar_10.1) (State.isArrayOf_alike hZ.alike Ar_10.2.1) Ar_10.2.2 (inb_of Sz_10 ⟨by decide, by decide⟩) (Hs_10.at (j := (2 : Int32)) (inb_of Sz_10 ⟨by decide, by decide⟩) rfl) (g := (mkF m 22 #[rv a1, iv 3, rv b_1, iv 1, iv 2] [(.int 2), (.ref a1)])) rfl rfl (hb hby d2_22)) ?_
    show own_Go _ _ _ _ (T_8.setTop (mkF m 23 #[rv a1, iv 3, rv b_1, iv 1, iv 2] [(.int x2)]))
    refine o_aloadN X_8 hx (hb hby d2_23) rfl rfl ?_
    refine o_iloadN X_8 hx (hb hby d2_24) rfl ?_
    obtain ⟨cl_11, Ar_11, qk_11, Sz_11, Ng_11, Hs_11, Gs_11⟩ := id Fa_9
    refine own_st (X_8.iaload hx (j := (1 : Int32)) (v := (.int x1)) (by rw [e_8]; exact Ar_11.1) (State.isArrayOf_alike hZ.alike Ar_11.2.1) Ar_11.2.2 (inb_of Sz_11 ⟨by decide, by decide⟩) (Hs_11.at (j := (1 : Int32)) (inb_of Sz_11 ⟨by decide, by decide⟩) rfl) (g := (mkF m 25 #[rv a1, iv 3, rv b_1, iv 1, iv 2] [(.int 1), (.ref a1), (.int x2)])) rfl rfl (hb hby d2_25)) ?_
    show own_Go _ _ _ _ (T_8.setTop (mkF m 26 #[rv a1, iv 3, rv b_1, iv 1, iv 2] [(.int x1), (.int x2)]))
    by_cases hc26__12 : x2 = x1
    · have hv_13 := hv_6.trans (if_pos hc26__12)
      refine o_icmpYes X_8 hx (pc' := 38) (hb hby d2_26) (teq hc26__12).1 (by decide) (by decide) ?_
      refine o_aloadN X_8 hx (hb hby d2_38) rfl rfl ?_
      refine o_iload X_8 hx (hb hby d2_39) rfl ?_
      obtain ⟨cl_14, Ar_14, qk_14, Sz_14, Ng_14, Hs_14, Gs_14⟩ := id Fa_9
      refine own_st (X_8.iaload hx (j := (2 : Int32)) (v := (.int x2)) (by rw [e_8]; exact Ar_14.1) (State.isArrayOf_alike hZ.alike Ar_14.2.1) Ar_14.2.2 (inb_of Sz_14 ⟨by decide, by decide⟩) (Hs_14.at (j := (2 : Int32)) (inb_of Sz_14 ⟨by decide, by decide⟩) rfl) (g := (mkF m 41 #[rv a1, iv 3, rv b_1, iv 1, iv 2] [(.int 2), (.ref a1)])) rfl rfl (hb hby d2_41)) ?_
      show own_Go _ _ _ _ (T_8.setTop (mkF m 42 #[rv a1, iv 3, rv b_1, iv 1, iv 2] [(.int x2)]))
      refine o_aloadN X_8 hx (hb hby d2_42) rfl rfl ?_
      refine o_iloadN X_8 hx (hb hby d2_43) rfl ?_
      obtain ⟨cl_15, Ar_15, qk_15, Sz_15, Ng_15, Hs_15, Gs_15⟩ := id Fa_9
      refine own_st (X_8.iaload hx (j := (1 : Int32)) (v := (.int x1)) (by rw [e_8]; exact Ar_15.1) (State.isArrayOf_alike hZ.alike Ar_15.2.1) Ar_15.2.2 (inb_of Sz_15 ⟨by decide, by decide⟩) (Hs_15.at (j := (1 : Int32)) (inb_of Sz_15 ⟨by decide, by decide⟩) rfl) (g := (mkF m 44 #[rv a1, iv 3, rv b_1, iv 1, iv 2] [(.int 1), (.ref a1), (.int x2)])) rfl rfl (hb hby d2_44)) ?_
      show own_Go _ _ _ _ (T_8.setTop (mkF m 45 #[rv a1, iv 3, rv b_1, iv 1, iv 2] [(.int x1), (.int x2)]))
      refine o_icmpNo X_8 hx (hb hby d2_45) (teq hc26__12).2 ?_
      refine o_iinc X_8 hx (hb hby d2_48) rfl (l' := #[rv a1, iv 3, rv b_1, iv 2, iv 2]) rfl ?_
      refine o_aloadN X_8 hx (hb hby d2_51) rfl rfl ?_
      refine o_iload X_8 hx (hb hby d2_52) rfl ?_
      refine o_iloadN X_8 hx (hb hby d2_54) rfl ?_
      obtain ⟨cl_16, Ar_16, qk_16, Sz_16, Ng_16, Hs_16, Gs_16⟩ := id V_8
      obtain ⟨T_17, h_17, X_17, e_17, W_17, st_17⟩ := stI X_8 hx hZ e_8 Ar_16 (j := (2 : Int32)) (inb_of Sz_16 ⟨by decide, by decide⟩) (g := (mkF m 55 #[rv a1, iv 3, rv b_1, iv 2, iv 2] [(.int 2), (.int 2), (.ref b_1)])) rfl rfl (hb hby d2_55)
      refine own_st st_17 ?_
      have V_17 : Arv Z h_17 b_1 k_1 .int (3 : Int32) [(.int (0 : Int32)), (.int (1 : Int32)), (.int (2 : Int32))] (.int (0 : Int32)) := Arv.set Ar_16 qk_16 Sz_16 Ng_16 Hs_16 Gs_16 rfl W_17 2 rfl (Nat.le_of_ble_eq_true rfl)
      have N_17 := Fr.snoc X_17 N_8 gg_1
      show own_Go _ _ _ _ (T_17.setTop (mkF m 56 #[rv a1, iv 3, rv b_1, iv 2, iv 2] []))
      refine o_iinc X_17 hx (hb hby d2_56) rfl (l' := #[rv a1, iv 3, rv b_1, iv 2, iv 3]) rfl ?_
      refine o_goto X_17 hx (pc' := 9) (hb hby d2_59) (by decide) (by decide) ?_
      refine o_iload X_17 hx (hb hby d2_9) rfl ?_
      refine o_iloadN X_17 hx (hb hby d2_11) rfl ?_
      refine o_icmpYes X_17 hx (pc' := 62) (hb hby d2_12) (flt (by decide : ¬ ((3 : Int32) < (3 : Int32)))).2.1 (by decide) (by decide) ?_
      refine o_aloadN X_17 hx (hb hby d2_62) rfl rfl ?_
      have Kp_18 : Keep h0 h_17 [] := ((((Keep.refl h0 []).ext E_1).wr W_8 (Or.inr sz_1)).wr W_17 (Or.inr sz_1))
      exact own_end X_17 e_17 (v := some (.ref b_1)) (fun h => by rw [Bd.returns] at h; cases h) hlk (fun fs hr => own_retA X_17 hx Bd.returns rfl rfl (hb hby d2_63) hr) (Q := Q_rmbo3 Z a0 a1 k dv x0 x1 x2 x3 x4 h0 n0) ⟨b_1, k_1, rfl, N_17, Kp_18, gg_1, sz_1, (Eq.mp (congrArg (fun z => Arv Z h_17 b_1 k_1 .int (3 : Int32) z (.int (0 : Int32))) (hv_13.symm.trans (own_bord_eq3 x0 x1 x2 x3 x4))) V_17)⟩ (by decide) (by decide)
    · have hv_19 := hv_6.trans (if_neg hc26__12)
      refine o_icmpNo X_8 hx (hb hby d2_26) (feq hc26__12).1 ?_
      refine o_aloadN X_8 hx (hb hby d2_29) rfl rfl ?_
      refine o_iloadN X_8 hx (hb hby d2_30) rfl ?_
      refine o_iconst X_8 hx 1 (hb hby d2_31) rfl ?_
      refine o_isub X_8 hx (hb hby d2_32) ?_
      show own_Go _ _ _ _ (T_8.setTop (mkF m 33 #[rv a1, iv 3, rv b_1, iv 1, iv 2] [(.int 0), (.ref b_1)]))
      obtain ⟨cl_20, Ar_20, qk_20, Sz_20, Ng_20, Hs_20, Gs_20⟩ := id V_8
      refine own_st (X_8.iaload hx (j := (0 : Int32)) (v := (.int (0 : Int32))) (by rw [e_8]; exact Ar_20.1) (State.isArrayOf_alike hZ.alike Ar_20.2.1) Ar_20.2.2 (inb_of Sz_20 ⟨by decide, by decide⟩) (Hs_20.at (j := (0 : Int32)) (inb_of Sz_20 ⟨by decide, by decide⟩) rfl) (g := (mkF m 33 #[rv a1, iv 3, rv b_1, iv 1, iv 2] [(.int 0), (.ref b_1)])) rfl rfl (hb hby d2_33)) ?_
      show own_Go _ _ _ _ (T_8.setTop (mkF m 34 #[rv a1, iv 3, rv b_1, iv 1, iv 2] [(.int 0)]))
      refine o_istoreN X_8 hx (hb hby d2_34) (l' := #[rv a1, iv 3, rv b_1, iv 0, iv 2]) rfl ?_
      refine o_goto X_8 hx (pc' := 15) (hb hby d2_35) (by decide) (by decide) ?_
      refine o_iloadN X_8 hx (hb hby d2_15) rfl ?_
      refine o_ifYes X_8 hx (pc' := 38) (hb hby d2_16) (flt (by decide : ¬ ((0 : Int32) < (0 : Int32)))).2.2.2 (by decide) (by decide) ?_
      refine o_aloadN X_8 hx (hb hby d2_38) rfl rfl ?_
      refine o_iload X_8 hx (hb hby d2_39) rfl ?_
      obtain ⟨cl_21, Ar_21, qk_21, Sz_21, Ng_21, Hs_21, Gs_21⟩ := id Fa_9
      refine own_st (X_8.iaload hx (j := (2 : Int32)) (v := (.int x2)) (by rw [e_8]; exact Ar_21.1) (State.isArrayOf_alike hZ.alike Ar_21.2.1) Ar_21.2.2 (inb_of Sz_21 ⟨by decide, by decide⟩) (Hs_21.at (j := (2 : Int32)) (inb_of Sz_21 ⟨by decide, by decide⟩) rfl) (g := (mkF m 41 #[rv a1, iv 3, rv b_1, iv 0, iv 2] [(.int 2), (.ref a1)])) rfl rfl (hb hby d2_41)) ?_
      show own_Go _ _ _ _ (T_8.setTop (mkF m 42 #[rv a1, iv 3, rv b_1, iv 0, iv 2] [(.int x2)]))
      refine o_aloadN X_8 hx (hb hby d2_42) rfl rfl ?_
      refine o_iloadN X_8 hx (hb hby d2_43) rfl ?_
      obtain ⟨cl_22, Ar_22, qk_22, Sz_22, Ng_22, Hs_22, Gs_22⟩ := id Fa_9
      refine own_st (X_8.iaload hx (j := (0 : Int32)) (v := (.int x0)) (by rw [e_8]; exact Ar_22.1) (State.isArrayOf_alike hZ.alike Ar_22.2.1) Ar_22.2.2 (inb_of Sz_22 ⟨by decide, by decide⟩) (Hs_22.at (j := (0 : Int32)) (inb_of Sz_22 ⟨by decide, by decide⟩) rfl) (g := (mkF m 44 #[rv a1, iv 3, rv b_1, iv 0, iv 2] [(.int 0), (.ref a1), (.int x2)])) rfl rfl (hb hby d2_44)) ?_
      show own_Go _ _ _ _ (T_8.setTop (mkF m 45 #[rv a1, iv 3, rv b_1, iv 0, iv 2] [(.int x0), (.int x2)]))
      refine o_icmpYes X_8 hx (pc' := 51) (hb hby d2_45) (feq (fun h => hc26__12 (h.trans hc45__5.symm))).2 (by decide) (by decide) ?_
      refine o_aloadN X_8 hx (hb hby d2_51) rfl rfl ?_
      refine o_iload X_8 hx (hb hby d2_52) rfl ?_
      refine o_iloadN X_8 hx (hb hby d2_54) rfl ?_
      obtain ⟨cl_23, Ar_23, qk_23, Sz_23, Ng_23, Hs_23, Gs_23⟩ := id V_8
      obtain ⟨T_24, h_24, X_24, e_24, W_24, st_24⟩ := stI X_8 hx hZ e_8 Ar_23 (j := (2 : Int32)) (inb_of Sz_23 ⟨by decide, by decide⟩) (g := (mkF m 55 #[rv a1, iv 3, rv b_1, iv 0, iv 2] [(.int 0), (.int 2), (.ref b_1)])) rfl rfl (hb hby d2_55)
      refine own_st st_24 ?_
      have V_24 : Arv Z h_24 b_1 k_1 .int (3 : Int32) [(.int (0 : Int32)), (.int (1 : Int32)), (.int (0 : Int32))] (.int (0 : Int32)) := Arv.set Ar_23 qk_23 Sz_23 Ng_23 Hs_23 Gs_23 rfl W_24 2 rfl (Nat.le_of_ble_eq_true rfl)
      have N_24 := Fr.snoc X_24 N_8 gg_1
      show own_Go _ _ _ _ (T_24.setTop (mkF m 56 #[rv a1, iv 3, rv b_1, iv 0, iv 2] []))
      refine o_iinc X_24 hx (hb hby d2_56) rfl (l' := #[rv a1, iv 3, rv b_1, iv 0, iv 3]) rfl ?_
      refine o_goto X_24 hx (pc' := 9) (hb hby d2_59) (by decide) (by decide) ?_
      refine o_iload X_24 hx (hb hby d2_9) rfl ?_
      refine o_iloadN X_24 hx (hb hby d2_11) rfl ?_
      refine o_icmpYes X_24 hx (pc' := 62) (hb hby d2_12) (flt (by decide : ¬ ((3 : Int32) < (3 : Int32)))).2.1 (by decide) (by decide) ?_
      refine o_aloadN X_24 hx (hb hby d2_62) rfl rfl ?_
      have Kp_25 : Keep h0 h_24 [] := ((((Keep.refl h0 []).ext E_1).wr W_8 (Or.inr sz_1)).wr W_24 (Or.inr sz_1))
      exact own_end X_24 e_24 (v := some (.ref b_1)) (fun h => by rw [Bd.returns] at h; cases h) hlk (fun fs hr => own_retA X_24 hx Bd.returns rfl rfl (hb hby d2_63) hr) (Q := Q_rmbo3 Z a0 a1 k dv x0 x1 x2 x3 x4 h0 n0) ⟨b_1, k_1, rfl, N_24, Kp_25, gg_1, sz_1, (Eq.mp (congrArg (fun z => Arv Z h_24 b_1 k_1 .int (3 : Int32) z (.int (0 : Int32))) (hv_19.symm.trans (own_bord_eq3 x0 x1 x2 x3 x4))) V_24)⟩ (by decide) (by decide)
  · have hv_26 := hv.trans (if_neg hc45__5)
    refine o_icmpYes X_1 hx (pc' := 51) (hb hby d2_45) (feq hc45__5).2 (by decide) (by decide) ?_
    refine o_aloadN X_1 hx (hb hby d2_51) rfl rfl ?_
    refine o_iload X_1 hx (hb hby d2_52) rfl ?_
    refine o_iloadN X_1 hx (hb hby d2_54) rfl ?_
    obtain ⟨cl_27, Ar_27, qk_27, Sz_27, Ng_27, Hs_27, Gs_27⟩ := id V_1
    obtain ⟨T_28, h_28, X_28, e_28, W_28, st_28⟩ := stI X_1 hx hZ e_1 Ar_27 (j := (1 : Int32)) (inb_of Sz_27 ⟨by decide, by decide⟩) (g := (mkF m 55 #[rv a1, iv 3, rv b_1, iv 0, iv 1] [(.int 0), (.int 1), (.ref b_1)])) rfl rfl (hb hby d2_55)
    refine own_st st_28 ?_
    have V_28 : Arv Z h_28 b_1 k_1 .int (3 : Int32) [(.int (0 : Int32)), (.int (0 : Int32)), (.int (0 : Int32))] (.int (0 : Int32)) := Arv.set Ar_27 qk_27 Sz_27 Ng_27 Hs_27 Gs_27 rfl W_28 1 rfl (Nat.le_of_ble_eq_true rfl)
    have N_28 := Fr.snoc X_28 N0 gg_1
    show own_Go _ _ _ _ (T_28.setTop (mkF m 56 #[rv a1, iv 3, rv b_1, iv 0, iv 1] []))
    refine o_iinc X_28 hx (hb hby d2_56) rfl (l' := #[rv a1, iv 3, rv b_1, iv 0, iv 2]) rfl ?_
    refine o_goto X_28 hx (pc' := 9) (hb hby d2_59) (by decide) (by decide) ?_
    refine o_iload X_28 hx (hb hby d2_9) rfl ?_
    refine o_iloadN X_28 hx (hb hby d2_11) rfl ?_
    refine o_icmpNo X_28 hx (hb hby d2_12) (tlt (by decide : (2 : Int32) < (3 : Int32))).2.1 ?_
    refine o_iloadN X_28 hx (hb hby d2_15) rfl ?_
    refine o_ifYes X_28 hx (pc' := 38) (hb hby d2_16) (flt (by decide : ¬ ((0 : Int32) < (0 : Int32)))).2.2.2 (by decide) (by decide) ?_
    refine o_aloadN X_28 hx (hb hby d2_38) rfl rfl ?_
    refine o_iload X_28 hx (hb hby d2_39) rfl ?_
    have Fa_29 := (Fa_2.other W_28 (Nat.ne_of_lt (Nat.lt_of_lt_of_le V1.lt (Nat.le_of_eq g_1.symm))))
    obtain ⟨cl_30, Ar_30, qk_30, Sz_30, Ng_30, Hs_30, Gs_30⟩ := id Fa_29
    refine own_st (X_28.iaload hx (j := (2 : Int32)) (v := (.int x2)) (by rw [e_28]; exact Ar_30.1) (State.isArrayOf_alike hZ.alike Ar_30.2.1) Ar_30.2.2 (inb_of Sz_30 ⟨by decide, by decide⟩) (Hs_30.at (j := (2 : Int32)) (inb_of Sz_30 ⟨by decide, by decide⟩) rfl) (g := (mkF m 41 #[rv a1, iv 3, rv b_1, iv 0, iv 2] [(.int 2), (.ref a1)])) rfl rfl (hb hby d2_41)) ?_
    show own_Go _ _ _ _ (T_28.setTop (mkF m 42 #[rv a1, iv 3, rv b_1, iv 0, iv 2] [(.int x2)]))
    refine o_aloadN X_28 hx (hb hby d2_42) rfl rfl ?_
    refine o_iloadN X_28 hx (hb hby d2_43) rfl ?_
    obtain ⟨cl_31, Ar_31, qk_31, Sz_31, Ng_31, Hs_31, Gs_31⟩ := id Fa_29
    refine own_st (X_28.iaload hx (j := (0 : Int32)) (v := (.int x0)) (by rw [e_28]; exact Ar_31.1) (State.isArrayOf_alike hZ.alike Ar_31.2.1) Ar_31.2.2 (inb_of Sz_31 ⟨by decide, by decide⟩) (Hs_31.at (j := (0 : Int32)) (inb_of Sz_31 ⟨by decide, by decide⟩) rfl) (g := (mkF m 44 #[rv a1, iv 3, rv b_1, iv 0, iv 2] [(.int 0), (.ref a1), (.int x2)])) rfl rfl (hb hby d2_44)) ?_
    show own_Go _ _ _ _ (T_28.setTop (mkF m 45 #[rv a1, iv 3, rv b_1, iv 0, iv 2] [(.int x0), (.int x2)]))
    by_cases hc45__32 : x2 = x0
    · have hv_33 := hv_26.trans (if_pos hc45__32)
      refine o_icmpNo X_28 hx (hb hby d2_45) (teq hc45__32).2 ?_
      refine o_iinc X_28 hx (hb hby d2_48) rfl (l' := #[rv a1, iv 3, rv b_1, iv 1, iv 2]) rfl ?_
      refine o_aloadN X_28 hx (hb hby d2_51) rfl rfl ?_
      refine o_iload X_28 hx (hb hby d2_52) rfl ?_
      refine o_iloadN X_28 hx (hb hby d2_54) rfl ?_
      obtain ⟨cl_34, Ar_34, qk_34, Sz_34, Ng_34, Hs_34, Gs_34⟩ := id V_28
      obtain ⟨T_35, h_35, X_35, e_35, W_35, st_35⟩ := stI X_28 hx hZ e_28 Ar_34 (j := (2 : Int32)) (inb_of Sz_34 ⟨by decide, by decide⟩) (g := (mkF m 55 #[rv a1, iv 3, rv b_1, iv 1, iv 2] [(.int 1), (.int 2), (.ref b_1)])) rfl rfl (hb hby d2_55)
      refine own_st st_35 ?_
      have V_35 : Arv Z h_35 b_1 k_1 .int (3 : Int32) [(.int (0 : Int32)), (.int (0 : Int32)), (.int (1 : Int32))] (.int (0 : Int32)) := Arv.set Ar_34 qk_34 Sz_34 Ng_34 Hs_34 Gs_34 rfl W_35 2 rfl (Nat.le_of_ble_eq_true rfl)
      have N_35 := Fr.snoc X_35 N_28 gg_1
      show own_Go _ _ _ _ (T_35.setTop (mkF m 56 #[rv a1, iv 3, rv b_1, iv 1, iv 2] []))
      refine o_iinc X_35 hx (hb hby d2_56) rfl (l' := #[rv a1, iv 3, rv b_1, iv 1, iv 3]) rfl ?_
      refine o_goto X_35 hx (pc' := 9) (hb hby d2_59) (by decide) (by decide) ?_
      refine o_iload X_35 hx (hb hby d2_9) rfl ?_
      refine o_iloadN X_35 hx (hb hby d2_11) rfl ?_
      refine o_icmpYes X_35 hx (pc' := 62) (hb hby d2_12) (flt (by decide : ¬ ((3 : Int32) < (3 : Int32)))).2.1 (by decide) (by decide) ?_
      refine o_aloadN X_35 hx (hb hby d2_62) rfl rfl ?_
      have Kp_36 : Keep h0 h_35 [] := ((((Keep.refl h0 []).ext E_1).wr W_28 (Or.inr sz_1)).wr W_35 (Or.inr sz_1))
      exact own_end X_35 e_35 (v := some (.ref b_1)) (fun h => by rw [Bd.returns] at h; cases h) hlk (fun fs hr => own_retA X_35 hx Bd.returns rfl rfl (hb hby d2_63) hr) (Q := Q_rmbo3 Z a0 a1 k dv x0 x1 x2 x3 x4 h0 n0) ⟨b_1, k_1, rfl, N_35, Kp_36, gg_1, sz_1, (Eq.mp (congrArg (fun z => Arv Z h_35 b_1 k_1 .int (3 : Int32) z (.int (0 : Int32))) (hv_33.symm.trans (own_bord_eq3 x0 x1 x2 x3 x4))) V_35)⟩ (by decide) (by decide)
    · have hv_37 := hv_26.trans (if_neg hc45__32)
      refine o_icmpYes X_28 hx (pc' := 51) (hb hby d2_45) (feq hc45__32).2 (by decide) (by decide) ?_
      refine o_aloadN X_28 hx (hb hby d2_51) rfl rfl ?_
      refine o_iload X_28 hx (hb hby d2_52) rfl ?_
      refine o_iloadN X_28 hx (hb hby d2_54) rfl ?_
      obtain ⟨cl_38, Ar_38, qk_38, Sz_38, Ng_38, Hs_38, Gs_38⟩ := id V_28
      obtain ⟨T_39, h_39, X_39, e_39, W_39, st_39⟩ := stI X_28 hx hZ e_28 Ar_38 (j := (2 : Int32)) (inb_of Sz_38 ⟨by decide, by decide⟩) (g := (mkF m 55 #[rv a1, iv 3, rv b_1, iv 0, iv 2] [(.int 0), (.int 2), (.ref b_1)])) rfl rfl (hb hby d2_55)
      refine own_st st_39 ?_
      have V_39 : Arv Z h_39 b_1 k_1 .int (3 : Int32) [(.int (0 : Int32)), (.int (0 : Int32)), (.int (0 : Int32))] (.int (0 : Int32)) := Arv.set Ar_38 qk_38 Sz_38 Ng_38 Hs_38 Gs_38 rfl W_39 2 rfl (Nat.le_of_ble_eq_true rfl)
      have N_39 := Fr.snoc X_39 N_28 gg_1
      show own_Go _ _ _ _ (T_39.setTop (mkF m 56 #[rv a1, iv 3, rv b_1, iv 0, iv 2] []))
      refine o_iinc X_39 hx (hb hby d2_56) rfl (l' := #[rv a1, iv 3, rv b_1, iv 0, iv 3]) rfl ?_
      refine o_goto X_39 hx (pc' := 9) (hb hby d2_59) (by decide) (by decide) ?_
      refine o_iload X_39 hx (hb hby d2_9) rfl ?_
      refine o_iloadN X_39 hx (hb hby d2_11) rfl ?_
      refine o_icmpYes X_39 hx (pc' := 62) (hb hby d2_12) (flt (by decide : ¬ ((3 : Int32) < (3 : Int32)))).2.1 (by decide) (by decide) ?_
      refine o_aloadN X_39 hx (hb hby d2_62) rfl rfl ?_
      have Kp_40 : Keep h0 h_39 [] := ((((Keep.refl h0 []).ext E_1).wr W_28 (Or.inr sz_1)).wr W_39 (Or.inr sz_1))
      exact own_end X_39 e_39 (v := some (.ref b_1)) (fun h => by rw [Bd.returns] at h; cases h) hlk (fun fs hr => own_retA X_39 hx Bd.returns rfl rfl (hb hby d2_63) hr) (Q := Q_rmbo3 Z a0 a1 k dv x0 x1 x2 x3 x4 h0 n0) ⟨b_1, k_1, rfl, N_39, Kp_40, gg_1, sz_1, (Eq.mp (congrArg (fun z => Arv Z h_39 b_1 k_1 .int (3 : Int32) z (.int (0 : Int32))) (hv_37.symm.trans (own_bord_eq3 x0 x1 x2 x3 x4))) V_39)⟩ (by decide) (by decide)
def own_bord4 (x0 : Int32) (x1 : Int32) (x2 : Int32) (x3 : Int32) (x4 : Int32) : List Value := (if x1 = x0 then (if x2 = x1 then (if x3 = x2 then [(.int (0 : Int32)), (.int (1 : Int32)), (.int (2 : Int32)), (.int (3 : Int32))] else [(.int (0 : Int32)), (.int (1 : Int32)), (.int (2 : Int32)), (.int (0 : Int32))]) else (if x3 = x0 then [(.int (0 : Int32)), (.int (1 : Int32)), (.int (0 : Int32)), (.int (1 : Int32))] else [(.int (0 : Int32)), (.int (1 : Int32)), (.int (0 : Int32)), (.int (0 : Int32))])) else (if x2 = x0 then (if x3 = x1 then [(.int (0 : Int32)), (.int (0 : Int32)), (.int (1 : Int32)), (.int (2 : Int32))] else (if x3 = x0 then [(.int (0 : Int32)), (.int (0 : Int32)), (.int (1 : Int32)), (.int (1 : Int32))] else [(.int (0 : Int32)), (.int (0 : Int32)), (.int (1 : Int32)), (.int (0 : Int32))])) else (if x3 = x0 then [(.int (0 : Int32)), (.int (0 : Int32)), (.int (0 : Int32)), (.int (1 : Int32))] else [(.int (0 : Int32)), (.int (0 : Int32)), (.int (0 : Int32)), (.int (0 : Int32))])))
set_option maxHeartbeats 40000000 in
theorem own_bord_eq4 (x0 : Int32) (x1 : Int32) (x2 : Int32) (x3 : Int32) (x4 : Int32) : own_bord4 x0 x1 x2 x3 x4 = [(.int (own_ref1 x0 x1 x2 x3 x4)), (.int (own_ref2 x0 x1 x2 x3 x4)), (.int (own_ref3 x0 x1 x2 x3 x4)), (.int (own_ref4 x0 x1 x2 x3 x4))] := by
  have e : ∀ a b : Int32, (a = b) = (a.toInt = b.toInt) := fun a b => propext Int32.toInt_inj.symm
  simp only [own_bord4, own_ref1, own_ref2, own_ref3, own_ref4, own_ref5, own_eqz14, own_eqz23, own_eqz32, own_eqz41, own_eqz13, own_eqz22, own_eqz31, own_eqz12, own_eqz21, own_eqz11, ite_not]
  simp only [e x0 x1, e x0 x2, e x0 x3, e x0 x4, e x1 x0, e x1 x2, e x1 x3, e x1 x4, e x2 x0, e x2 x1, e x2 x3, e x2 x4, e x3 x0, e x3 x1, e x3 x2, e x3 x4, e x4 x0, e x4 x1, e x4 x2, e x4 x3]
  generalize x0.toInt = y0; generalize x1.toInt = y1; generalize x2.toInt = y2; generalize x3.toInt = y3; generalize x4.toInt = y4
  by_cases h1 : y1 = y0
  · rw [if_pos h1]
    by_cases h2 : y2 = y1
    · rw [if_pos h2]
      by_cases h3 : y3 = y2
      · rw [if_pos h3]
        simp only [List.cons.injEq, Value.int.injEq, and_true, true_and]
        refine ⟨?_, ?_, ?_⟩ <;> (repeat' split) <;> first | rfl | (exfalso; omega)
      · rw [if_neg h3]
        simp only [List.cons.injEq, Value.int.injEq, and_true, true_and]
        refine ⟨?_, ?_, ?_⟩ <;> (repeat' split) <;> first | rfl | (exfalso; omega)
    · rw [if_neg h2]
      by_cases h3 : y3 = y0
      · rw [if_pos h3]
        simp only [List.cons.injEq, Value.int.injEq, and_true, true_and]
        refine ⟨?_, ?_, ?_⟩ <;> (repeat' split) <;> first | rfl | (exfalso; omega)
      · rw [if_neg h3]
        simp only [List.cons.injEq, Value.int.injEq, and_true, true_and]
        refine ⟨?_, ?_, ?_⟩ <;> (repeat' split) <;> first | rfl | (exfalso; omega)
  · rw [if_neg h1]
    by_cases h2 : y2 = y0
    · rw [if_pos h2]
      by_cases h3 : y3 = y1
      · rw [if_pos h3]
        simp only [List.cons.injEq, Value.int.injEq, and_true, true_and]
        refine ⟨?_, ?_, ?_⟩ <;> (repeat' split) <;> first | rfl | (exfalso; omega)
      · rw [if_neg h3]
        by_cases h4 : y3 = y0
        · rw [if_pos h4]
          simp only [List.cons.injEq, Value.int.injEq, and_true, true_and]
          refine ⟨?_, ?_, ?_⟩ <;> (repeat' split) <;> first | rfl | (exfalso; omega)
        · rw [if_neg h4]
          simp only [List.cons.injEq, Value.int.injEq, and_true, true_and]
          refine ⟨?_, ?_, ?_⟩ <;> (repeat' split) <;> first | rfl | (exfalso; omega)
    · rw [if_neg h2]
      by_cases h3 : y3 = y0
      · rw [if_pos h3]
        simp only [List.cons.injEq, Value.int.injEq, and_true, true_and]
        refine ⟨?_, ?_, ?_⟩ <;> (repeat' split) <;> first | rfl | (exfalso; omega)
      · rw [if_neg h3]
        simp only [List.cons.injEq, Value.int.injEq, and_true, true_and]
        refine ⟨?_, ?_, ?_⟩ <;> (repeat' split) <;> first | rfl | (exfalso; omega)
theorem ef_rmbo4 (m : MethodId) (a1 : Addr) : entryFrame m #[(.ref a1), (.int (4 : Int32))] 5 = mkF m 0 #[rv a1, iv 4, .unset, .unset, .unset] [] := by first | (simp [entryFrame, mkF, argsToLocals, Value.category]; done) | rfl
def Q_rmbo4 (Z : State) (a0 : Array Value) (a1 : Addr) (k : ClassId) (dv : Value) (x0 : Int32) (x1 : Int32) (x2 : Int32) (x3 : Int32) (x4 : Int32) (h0 : Heap) (n0 : Nat) (v : Option Value) (h : Heap) (L : List Loc) : Prop := ∃ b : Addr, ∃ kB : ClassId, v = some (.ref b) ∧ Fr n0 L ∧ Keep h0 h [] ∧ n0 ≤ b ∧ h0.size ≤ b ∧ Arv Z h b kB .int (4 : Int32) [(.int (own_ref1 x0 x1 x2 x3 x4)), (.int (own_ref2 x0 x1 x2 x3 x4)), (.int (own_ref3 x0 x1 x2 x3 x4)), (.int (own_ref4 x0 x1 x2 x3 x4))] (.int (0 : Int32))
set_option maxRecDepth 65536 in
set_option maxHeartbeats 40000000 in
theorem rmbo4 (l : Launch) (Z : State) (a0 : Array Value) (hw : ∀ d ∈ tables_1, d.before a0 Z = true) (ws : List Jvm.Cond) (a1 : Addr) (k : ClassId) (dv : Value) (x0 : Int32) (x1 : Int32) (x2 : Int32) (x3 : Int32) (x4 : Int32) (h0 : Heap) (n0 : Nat) (Z0 : n0 ≤ h0.size) (V1 : Arv Z h0 a1 k .int (5 : Int32) [(.int x0), (.int x1), (.int x2), (.int x3), (.int x4)] dv) :
    MetFree l (⟨"com/example/ordinance/ordinance/policy/PartFinder", "borders", "([II)[I"⟩ : MethodName) (head1 (Jvm.Cond.code (⟨"com/example/ordinance/ordinance/policy/PartFinder", "borders", "([II)[I"⟩ : MethodName) prog_23_method_3_code 5 (some (.array .int)) :: ws) ({ frames := 0, cells := 1, slots := 4, locals := 0 } : Room)) (fun a U => a = #[(.ref a1), (.int (4 : Int32))] ∧ Z.Warmed39 U.vm ∧ U.heap = h0) (fun _ _ _ _ _ => True) (fun _ U o U' => ∃ v L, o = .returned v ∧ Q_rmbo4 Z a0 a1 k dv x0 x1 x2 x3 x4 h0 n0 v U'.heap L ∧ FrameEnd U o U' L ({ frames := 0, cells := 1, slots := 4, locals := 0 } : Room).cells ({ frames := 0, cells := 1, slots := 4, locals := 0 } : Room).slots) := by
  refine MetFree.of_bodySF (plainFor_of_name pn_2) hisR ?_
  intro p e s m args below meth c s₁ Bd hml0 hP hK
  obtain ⟨rfl, hZ, hh⟩ := hP
  have hx := Bd.exec
  have hby := Bd.bytes
  have hml : c.maxLocals = 5 := hml0
  have hown : s.vm.findClass "com/example/ordinance/ordinance/policy/PartFinder" = some m.cls := findClass_of_methodNamed Bd.named
  have hnm := (name_of_methodNamed Bd.named Bd.method).1
  have hlk : meth.locks = false := BodyLoose.notSynchronized (by assumption)
  have X0 : Stand p l e ({ frames := 0, cells := 1, slots := 4, locals := 0 } : Room) s m #[(.ref a1), (.int (4 : Int32))] below meth c s₁ [] 0 0 := Stand.of_body Bd
  have e0 : s₁.heap = h0 := by rw [← hh, Bd.state]; rfl
  have N0 := Fr.nil n0
  show own_Go p.tables e below (fun o U' => ∃ v L, o = .returned v ∧ Q_rmbo4 Z a0 a1 k dv x0 x1 x2 x3 x4 h0 n0 v U'.heap L ∧ FrameEnd s o U' L ({ frames := 0, cells := 1, slots := 4, locals := 0 } : Room).cells ({ frames := 0, cells := 1, slots := 4, locals := 0 } : Room).slots) (s₁.setTop (entryFrame m #[(.ref a1), (.int (4 : Int32))] 5))
  refine own_st (fun t k => castTop (ef_rmbo4 m a1) k) ?_
  have hv : own_bord4 x0 x1 x2 x3 x4 = (if x1 = x0 then (if x2 = x1 then (if x3 = x2 then [(.int (0 : Int32)), (.int (1 : Int32)), (.int (2 : Int32)), (.int (3 : Int32))] else [(.int (0 : Int32)), (.int (1 : Int32)), (.int (2 : Int32)), (.int (0 : Int32))]) else (if x3 = x0 then [(.int (0 : Int32)), (.int (1 : Int32)), (.int (0 : Int32)), (.int (1 : Int32))] else [(.int (0 : Int32)), (.int (1 : Int32)), (.int (0 : Int32)), (.int (0 : Int32))])) else (if x2 = x0 then (if x3 = x1 then [(.int (0 : Int32)), (.int (0 : Int32)), (.int (1 : Int32)), (.int (2 : Int32))] else (if x3 = x0 then [(.int (0 : Int32)), (.int (0 : Int32)), (.int (1 : Int32)), (.int (1 : Int32))] else [(.int (0 : Int32)), (.int (0 : Int32)), (.int (1 : Int32)), (.int (0 : Int32))])) else (if x3 = x0 then [(.int (0 : Int32)), (.int (0 : Int32)), (.int (0 : Int32)), (.int (1 : Int32))] else [(.int (0 : Int32)), (.int (0 : Int32)), (.int (0 : Int32)), (.int (0 : Int32))]))) := rfl
  show own_Go _ _ _ _ (s₁.setTop (mkF m 0 #[rv a1, iv 4, .unset, .unset, .unset] []))
  refine o_iloadN X0 hx (hb hby d2_0) rfl ?_
  obtain ⟨T_1, h_1, k_1, X_1, e_1, E_1, A_1, st_1⟩ := newP X0 hx hZ (hw _ (List.mem_of_getElem? (i := 0) rfl)) e0 (g := (mkF m 1 #[rv a1, iv 4, .unset, .unset, .unset] [(.int 4)])) rfl (hb hby d2_1) rfl (by decide) (cap := 4) (by decide) (by decide) (by decide) (by decide)
  obtain ⟨b_1, g_1⟩ : ∃ z, z = h0.size := ⟨_, rfl⟩
  rw [← g_1] at A_1 st_1
  have V_1 : Arv Z h_1 b_1 k_1 .int (4 : Int32) [(.int (0 : Int32)), (.int (0 : Int32)), (.int (0 : Int32)), (.int (0 : Int32))] (.int (0 : Int32)) := (Arv.new A_1 (by decide)).pad (pad_rep [] (.int (0 : Int32)) 4)
  have gg_1 : n0 ≤ b_1 := Nat.le_trans Z0 (Nat.le_of_eq g_1.symm)
  have sz_1 : h0.size ≤ b_1 := Nat.le_trans (Keep.refl h0 []).1 (Nat.le_of_eq g_1.symm)
  refine own_st st_1 ?_
  show own_Go _ _ _ _ (T_1.setTop (mkF m 3 #[rv a1, iv 4, .unset, .unset, .unset] [(.ref b_1)]))
  refine o_astoreN X_1 hx (hb hby d2_3) rfl (l' := #[rv a1, iv 4, rv b_1, .unset, .unset]) rfl ?_
  refine o_iconst X_1 hx 0 (hb hby d2_4) rfl ?_
  refine o_istoreN X_1 hx (hb hby d2_5) (l' := #[rv a1, iv 4, rv b_1, iv 0, .unset]) rfl ?_
  refine o_iconst X_1 hx 1 (hb hby d2_6) rfl ?_
  refine o_istore X_1 hx (hb hby d2_7) (l' := #[rv a1, iv 4, rv b_1, iv 0, iv 1]) rfl ?_
  refine o_iload X_1 hx (hb hby d2_9) rfl ?_
  refine o_iloadN X_1 hx (hb hby d2_11) rfl ?_
  refine o_icmpNo X_1 hx (hb hby d2_12) (tlt (by decide : (1 : Int32) < (4 : Int32))).2.1 ?_
  refine o_iloadN X_1 hx (hb hby d2_15) rfl ?_
  refine o_ifYes X_1 hx (pc' := 38) (hb hby d2_16) (flt (by decide : ¬ ((0 : Int32) < (0 : Int32)))).2.2.2 (by decide) (by decide) ?_
  refine o_aloadN X_1 hx (hb hby d2_38) rfl rfl ?_
  refine o_iload X_1 hx (hb hby d2_39) rfl ?_
  have Fa_2 := (V1.ext E_1)
  obtain ⟨cl_3, Ar_3, qk_3, Sz_3, Ng_3, Hs_3, Gs_3⟩ := id Fa_2
  refine own_st (X_1.iaload hx (j := (1 : Int32)) (v := (.int x1)) (by rw [e_1]; exact Ar_3.1) (State.isArrayOf_alike hZ.alike Ar_3.2.1) Ar_3.2.2 (inb_of Sz_3 ⟨by decide, by decide⟩) (Hs_3.at (j := (1 : Int32)) (inb_of Sz_3 ⟨by decide, by decide⟩) rfl) (g := (mkF m 41 #[rv a1, iv 4, rv b_1, iv 0, iv 1] [(.int 1), (.ref a1)])) rfl rfl (hb hby d2_41)) ?_
  show own_Go _ _ _ _ (T_1.setTop (mkF m 42 #[rv a1, iv 4, rv b_1, iv 0, iv 1] [(.int x1)]))
  refine o_aloadN X_1 hx (hb hby d2_42) rfl rfl ?_
  refine o_iloadN X_1 hx (hb hby d2_43) rfl ?_
  obtain ⟨cl_4, Ar_4, qk_4, Sz_4, Ng_4, Hs_4, Gs_4⟩ := id Fa_2
  refine own_st (X_1.iaload hx (j := (0 : Int32)) (v := (.int x0)) (by rw [e_1]; exact Ar_4.1) (State.isArrayOf_alike hZ.alike Ar_4.2.1) Ar_4.2.2 (inb_of Sz_4 ⟨by decide, by decide⟩) (Hs_4.at (j := (0 : Int32)) (inb_of Sz_4 ⟨by decide, by decide⟩) rfl) (g := (mkF m 44 #[rv a1, iv 4, rv b_1, iv 0, iv 1] [(.int 0), (.ref a1), (.int x1)])) rfl rfl (hb hby d2_44)) ?_
  show own_Go _ _ _ _ (T_1.setTop (mkF m 45 #[rv a1, iv 4, rv b_1, iv 0, iv 1] [(.int x0), (.int x1)]))
  by_cases hc45__5 : x1 = x0
  · have hv_6 := hv.trans (if_pos hc45__5)
    refine o_icmpNo X_1 hx (hb hby d2_45) (teq hc45__5).2 ?_
    refine o_iinc X_1 hx (hb hby d2_48) rfl (l' := #[rv a1, iv 4, rv b_1, iv 1, iv 1]) rfl ?_
    refine o_aloadN X_1 hx (hb hby d2_51) rfl rfl ?_
    refine o_iload X_1 hx (hb hby d2_52) rfl ?_
    refine o_iloadN X_1 hx (hb hby d2_54) rfl ?_
    obtain ⟨cl_7, Ar_7, qk_7, Sz_7, Ng_7, Hs_7, Gs_7⟩ := id V_1
    obtain ⟨T_8, h_8, X_8, e_8, W_8, st_8⟩ := stI X_1 hx hZ e_1 Ar_7 (j := (1 : Int32)) (inb_of Sz_7 ⟨by decide, by decide⟩) (g := (mkF m 55 #[rv a1, iv 4, rv b_1, iv 1, iv 1] [(.int 1), (.int 1), (.ref b_1)])) rfl rfl (hb hby d2_55)
    refine own_st st_8 ?_
    have V_8 : Arv Z h_8 b_1 k_1 .int (4 : Int32) [(.int (0 : Int32)), (.int (1 : Int32)), (.int (0 : Int32)), (.int (0 : Int32))] (.int (0 : Int32)) := Arv.set Ar_7 qk_7 Sz_7 Ng_7 Hs_7 Gs_7 rfl W_8 1 rfl (Nat.le_of_ble_eq_true rfl)
    have N_8 := Fr.snoc X_8 N0 gg_1
    show own_Go _ _ _ _ (T_8.setTop (mkF m 56 #[rv a1, iv 4, rv b_1, iv 1, iv 1] []))
    refine o_iinc X_8 hx (hb hby d2_56) rfl (l' := #[rv a1, iv 4, rv b_1, iv 1, iv 2]) rfl ?_
    refine o_goto X_8 hx (pc' := 9) (hb hby d2_59) (by decide) (by decide) ?_
    refine o_iload X_8 hx (hb hby d2_9) rfl ?_
    refine o_iloadN X_8 hx (hb hby d2_11) rfl ?_
    refine o_icmpNo X_8 hx (hb hby d2_12) (tlt (by decide : (2 : Int32) < (4 : Int32))).2.1 ?_
    refine o_iloadN X_8 hx (hb hby d2_15) rfl ?_
    refine o_ifNo X_8 hx (hb hby d2_16) (tlt (by decide : (0 : Int32) < (1 : Int32))).2.2.2 ?_
    refine o_aloadN X_8 hx (hb hby d2_19) rfl rfl ?_
    refine o_iload X_8 hx (hb hby d2_20) rfl ?_
    have Fa_9 := (Fa_2.other W_8 (Nat.ne_of_lt (Nat.lt_of_lt_of_le V1.lt (Nat.le_of_eq g_1.symm))))
    obtain ⟨cl_10, Ar_10, qk_10, Sz_10, Ng_10, Hs_10, Gs_10⟩ := id Fa_9
    refine own_st (X_8.iaload hx (j := (2 : Int32)) (v := (.int x2)) (by rw [e_8]; exact Ar_10.1) (State.isArrayOf_alike hZ.alike Ar_10.2.1) Ar_10.2.2 (inb_of Sz_10 ⟨by decide, by decide⟩) (Hs_10.at (j := (2 : Int32)) (inb_of Sz_10 ⟨by decide, by decide⟩) rfl) (g := (mkF m 22 #[rv a1, iv 4, rv b_1, iv 1, iv 2] [(.int 2), (.ref a1)])) rfl rfl (hb hby d2_22)) ?_
    show own_Go _ _ _ _ (T_8.setTop (mkF m 23 #[rv a1, iv 4, rv b_1, iv 1, iv 2] [(.int x2)]))
    refine o_aloadN X_8 hx (hb hby d2_23) rfl rfl ?_
    refine o_iloadN X_8 hx (hb hby d2_24) rfl ?_
    obtain ⟨cl_11, Ar_11, qk_11, Sz_11, Ng_11, Hs_11, Gs_11⟩ := id Fa_9
    refine own_st (X_8.iaload hx (j := (1 : Int32)) (v := (.int x1)) (by rw [e_8]; exact Ar_11.1) (State.isArrayOf_alike hZ.alike Ar_11.2.1) Ar_11.2.2 (inb_of Sz_11 ⟨by decide, by decide⟩) (Hs_11.at (j := (1 : Int32)) (inb_of Sz_11 ⟨by decide, by decide⟩) rfl) (g := (mkF m 25 #[rv a1, iv 4, rv b_1, iv 1, iv 2] [(.int 1), (.ref a1), (.int x2)])) rfl rfl (hb hby d2_25)) ?_
    show own_Go _ _ _ _ (T_8.setTop (mkF m 26 #[rv a1, iv 4, rv b_1, iv 1, iv 2] [(.int x1), (.int x2)]))
    by_cases hc26__12 : x2 = x1
    · have hv_13 := hv_6.trans (if_pos hc26__12)
      refine o_icmpYes X_8 hx (pc' := 38) (hb hby d2_26) (teq hc26__12).1 (by decide) (by decide) ?_
      refine o_aloadN X_8 hx (hb hby d2_38) rfl rfl ?_
      refine o_iload X_8 hx (hb hby d2_39) rfl ?_
      obtain ⟨cl_14, Ar_14, qk_14, Sz_14, Ng_14, Hs_14, Gs_14⟩ := id Fa_9
      refine own_st (X_8.iaload hx (j := (2 : Int32)) (v := (.int x2)) (by rw [e_8]; exact Ar_14.1) (State.isArrayOf_alike hZ.alike Ar_14.2.1) Ar_14.2.2 (inb_of Sz_14 ⟨by decide, by decide⟩) (Hs_14.at (j := (2 : Int32)) (inb_of Sz_14 ⟨by decide, by decide⟩) rfl) (g := (mkF m 41 #[rv a1, iv 4, rv b_1, iv 1, iv 2] [(.int 2), (.ref a1)])) rfl rfl (hb hby d2_41)) ?_
      show own_Go _ _ _ _ (T_8.setTop (mkF m 42 #[rv a1, iv 4, rv b_1, iv 1, iv 2] [(.int x2)]))
      refine o_aloadN X_8 hx (hb hby d2_42) rfl rfl ?_
      refine o_iloadN X_8 hx (hb hby d2_43) rfl ?_
      obtain ⟨cl_15, Ar_15, qk_15, Sz_15, Ng_15, Hs_15, Gs_15⟩ := id Fa_9
      refine own_st (X_8.iaload hx (j := (1 : Int32)) (v := (.int x1)) (by rw [e_8]; exact Ar_15.1) (State.isArrayOf_alike hZ.alike Ar_15.2.1) Ar_15.2.2 (inb_of Sz_15 ⟨by decide, by decide⟩) (Hs_15.at (j := (1 : Int32)) (inb_of Sz_15 ⟨by decide, by decide⟩) rfl) (g := (mkF m 44 #[rv a1, iv 4, rv b_1, iv 1, iv 2] [(.int 1), (.ref a1), (.int x2)])) rfl rfl (hb hby d2_44)) ?_
      show own_Go _ _ _ _ (T_8.setTop (mkF m 45 #[rv a1, iv 4, rv b_1, iv 1, iv 2] [(.int x1), (.int x2)]))
      refine o_icmpNo X_8 hx (hb hby d2_45) (teq hc26__12).2 ?_
      refine o_iinc X_8 hx (hb hby d2_48) rfl (l' := #[rv a1, iv 4, rv b_1, iv 2, iv 2]) rfl ?_
      refine o_aloadN X_8 hx (hb hby d2_51) rfl rfl ?_
      refine o_iload X_8 hx (hb hby d2_52) rfl ?_
      refine o_iloadN X_8 hx (hb hby d2_54) rfl ?_
      obtain ⟨cl_16, Ar_16, qk_16, Sz_16, Ng_16, Hs_16, Gs_16⟩ := id V_8
      obtain ⟨T_17, h_17, X_17, e_17, W_17, st_17⟩ := stI X_8 hx hZ e_8 Ar_16 (j := (2 : Int32)) (inb_of Sz_16 ⟨by decide, by decide⟩) (g := (mkF m 55 #[rv a1, iv 4, rv b_1, iv 2, iv 2] [(.int 2), (.int 2), (.ref b_1)])) rfl rfl (hb hby d2_55)
      refine own_st st_17 ?_
      have V_17 : Arv Z h_17 b_1 k_1 .int (4 : Int32) [(.int (0 : Int32)), (.int (1 : Int32)), (.int (2 : Int32)), (.int (0 : Int32))] (.int (0 : Int32)) := Arv.set Ar_16 qk_16 Sz_16 Ng_16 Hs_16 Gs_16 rfl W_17 2 rfl (Nat.le_of_ble_eq_true rfl)
      have N_17 := Fr.snoc X_17 N_8 gg_1
      show own_Go _ _ _ _ (T_17.setTop (mkF m 56 #[rv a1, iv 4, rv b_1, iv 2, iv 2] []))
      refine o_iinc X_17 hx (hb hby d2_56) rfl (l' := #[rv a1, iv 4, rv b_1, iv 2, iv 3]) rfl ?_
      refine o_goto X_17 hx (pc' := 9) (hb hby d2_59) (by decide) (by decide) ?_
      refine o_iload X_17 hx (hb hby d2_9) rfl ?_
      refine o_iloadN X_17 hx (hb hby d2_11) rfl ?_
      refine o_icmpNo X_17 hx (hb hby d2_12) (tlt (by decide : (3 : Int32) < (4 : Int32))).2.1 ?_
      refine o_iloadN X_17 hx (hb hby d2_15) rfl ?_
      refine o_ifNo X_17 hx (hb hby d2_16) (tlt (by decide : (0 : Int32) < (2 : Int32))).2.2.2 ?_
      refine o_aloadN X_17 hx (hb hby d2_19) rfl rfl ?_
      refine o_iload X_17 hx (hb hby d2_20) rfl ?_
      have Fa_18 := (Fa_9.other W_17 (Nat.ne_of_lt (Nat.lt_of_lt_of_le V1.lt (Nat.le_of_eq g_1.symm))))
      obtain ⟨cl_19, Ar_19, qk_19, Sz_19, Ng_19, Hs_19, Gs_19⟩ := id Fa_18
      refine own_st (X_17.iaload hx (j := (3 : Int32)) (v := (.int x3)) (by rw [e_17]; exact Ar_19.1) (State.isArrayOf_alike hZ.alike Ar_19.2.1) Ar_19.2.2 (inb_of Sz_19 ⟨by decide, by decide⟩) (Hs_19.at (j := (3 : Int32)) (inb_of Sz_19 ⟨by decide, by decide⟩) rfl) (g := (mkF m 22 #[rv a1, iv 4, rv b_1, iv 2, iv 3] [(.int 3), (.ref a1)])) rfl rfl (hb hby d2_22)) ?_
      show own_Go _ _ _ _ (T_17.setTop (mkF m 23 #[rv a1, iv 4, rv b_1, iv 2, iv 3] [(.int x3)]))
      refine o_aloadN X_17 hx (hb hby d2_23) rfl rfl ?_
      refine o_iloadN X_17 hx (hb hby d2_24) rfl ?_
      obtain ⟨cl_20, Ar_20, qk_20, Sz_20, Ng_20, Hs_20, Gs_20⟩ := id Fa_18
      refine own_st (X_17.iaload hx (j := (2 : Int32)) (v := (.int x2)) (by rw [e_17]; exact Ar_20.1) (State.isArrayOf_alike hZ.alike Ar_20.2.1) Ar_20.2.2 (inb_of Sz_20 ⟨by decide, by decide⟩) (Hs_20.at (j := (2 : Int32)) (inb_of Sz_20 ⟨by decide, by decide⟩) rfl) (g := (mkF m 25 #[rv a1, iv 4, rv b_1, iv 2, iv 3] [(.int 2), (.ref a1), (.int x3)])) rfl rfl (hb hby d2_25)) ?_
      show own_Go _ _ _ _ (T_17.setTop (mkF m 26 #[rv a1, iv 4, rv b_1, iv 2, iv 3] [(.int x2), (.int x3)]))
      by_cases hc26__21 : x3 = x2
      · have hv_22 := hv_13.trans (if_pos hc26__21)
        refine o_icmpYes X_17 hx (pc' := 38) (hb hby d2_26) (teq hc26__21).1 (by decide) (by decide) ?_
        refine o_aloadN X_17 hx (hb hby d2_38) rfl rfl ?_
        refine o_iload X_17 hx (hb hby d2_39) rfl ?_
        obtain ⟨cl_23, Ar_23, qk_23, Sz_23, Ng_23, Hs_23, Gs_23⟩ := id Fa_18
        refine own_st (X_17.iaload hx (j := (3 : Int32)) (v := (.int x3)) (by rw [e_17]; exact Ar_23.1) (State.isArrayOf_alike hZ.alike Ar_23.2.1) Ar_23.2.2 (inb_of Sz_23 ⟨by decide, by decide⟩) (Hs_23.at (j := (3 : Int32)) (inb_of Sz_23 ⟨by decide, by decide⟩) rfl) (g := (mkF m 41 #[rv a1, iv 4, rv b_1, iv 2, iv 3] [(.int 3), (.ref a1)])) rfl rfl (hb hby d2_41)) ?_
        show own_Go _ _ _ _ (T_17.setTop (mkF m 42 #[rv a1, iv 4, rv b_1, iv 2, iv 3] [(.int x3)]))
        refine o_aloadN X_17 hx (hb hby d2_42) rfl rfl ?_
        refine o_iloadN X_17 hx (hb hby d2_43) rfl ?_
        obtain ⟨cl_24, Ar_24, qk_24, Sz_24, Ng_24, Hs_24, Gs_24⟩ := id Fa_18
        refine own_st (X_17.iaload hx (j := (2 : Int32)) (v := (.int x2)) (by rw [e_17]; exact Ar_24.1) (State.isArrayOf_alike hZ.alike Ar_24.2.1) Ar_24.2.2 (inb_of Sz_24 ⟨by decide, by decide⟩) (Hs_24.at (j := (2 : Int32)) (inb_of Sz_24 ⟨by decide, by decide⟩) rfl) (g := (mkF m 44 #[rv a1, iv 4, rv b_1, iv 2, iv 3] [(.int 2), (.ref a1), (.int x3)])) rfl rfl (hb hby d2_44)) ?_
        show own_Go _ _ _ _ (T_17.setTop (mkF m 45 #[rv a1, iv 4, rv b_1, iv 2, iv 3] [(.int x2), (.int x3)]))
        refine o_icmpNo X_17 hx (hb hby d2_45) (teq hc26__21).2 ?_
        refine o_iinc X_17 hx (hb hby d2_48) rfl (l' := #[rv a1, iv 4, rv b_1, iv 3, iv 3]) rfl ?_
        refine o_aloadN X_17 hx (hb hby d2_51) rfl rfl ?_
        refine o_iload X_17 hx (hb hby d2_52) rfl ?_
        refine o_iloadN X_17 hx (hb hby d2_54) rfl ?_
        obtain ⟨cl_25, Ar_25, qk_25, Sz_25, Ng_25, Hs_25, Gs_25⟩ := id V_17
        obtain ⟨T_26, h_26, X_26, e_26, W_26, st_26⟩ := stI X_17 hx hZ e_17 Ar_25 (j := (3 : Int32)) (inb_of Sz_25 ⟨by decide, by decide⟩) (g := (mkF m 55 #[rv a1, iv 4, rv b_1, iv 3, iv 3] [(.int 3), (.int 3), (.ref b_1)])) rfl rfl (hb hby d2_55)
        refine own_st st_26 ?_
        have V_26 : Arv Z h_26 b_1 k_1 .int (4 : Int32) [(.int (0 : Int32)), (.int (1 : Int32)), (.int (2 : Int32)), (.int (3 : Int32))] (.int (0 : Int32)) := Arv.set Ar_25 qk_25 Sz_25 Ng_25 Hs_25 Gs_25 rfl W_26 3 rfl (Nat.le_of_ble_eq_true rfl)
        have N_26 := Fr.snoc X_26 N_17 gg_1
        show own_Go _ _ _ _ (T_26.setTop (mkF m 56 #[rv a1, iv 4, rv b_1, iv 3, iv 3] []))
        refine o_iinc X_26 hx (hb hby d2_56) rfl (l' := #[rv a1, iv 4, rv b_1, iv 3, iv 4]) rfl ?_
        refine o_goto X_26 hx (pc' := 9) (hb hby d2_59) (by decide) (by decide) ?_
        refine o_iload X_26 hx (hb hby d2_9) rfl ?_
        refine o_iloadN X_26 hx (hb hby d2_11) rfl ?_
        refine o_icmpYes X_26 hx (pc' := 62) (hb hby d2_12) (flt (by decide : ¬ ((4 : Int32) < (4 : Int32)))).2.1 (by decide) (by decide) ?_
        refine o_aloadN X_26 hx (hb hby d2_62) rfl rfl ?_
        have Kp_27 : Keep h0 h_26 [] := (((((Keep.refl h0 []).ext E_1).wr W_8 (Or.inr sz_1)).wr W_17 (Or.inr sz_1)).wr W_26 (Or.inr sz_1))
        exact own_end X_26 e_26 (v := some (.ref b_1)) (fun h => by rw [Bd.returns] at h; cases h) hlk (fun fs hr => own_retA X_26 hx Bd.returns rfl rfl (hb hby d2_63) hr) (Q := Q_rmbo4 Z a0 a1 k dv x0 x1 x2 x3 x4 h0 n0) ⟨b_1, k_1, rfl, N_26, Kp_27, gg_1, sz_1, (Eq.mp (congrArg (fun z => Arv Z h_26 b_1 k_1 .int (4 : Int32) z (.int (0 : Int32))) (hv_22.symm.trans (own_bord_eq4 x0 x1 x2 x3 x4))) V_26)⟩ (by decide) (by decide)
      · have hv_28 := hv_13.trans (if_neg hc26__21)
        refine o_icmpNo X_17 hx (hb hby d2_26) (feq hc26__21).1 ?_
        refine o_aloadN X_17 hx (hb hby d2_29) rfl rfl ?_
        refine o_iloadN X_17 hx (hb hby d2_30) rfl ?_
        refine o_iconst X_17 hx 1 (hb hby d2_31) rfl ?_
        refine o_isub X_17 hx (hb hby d2_32) ?_
        show own_Go _ _ _ _ (T_17.setTop (mkF m 33 #[rv a1, iv 4, rv b_1, iv 2, iv 3] [(.int 1), (.ref b_1)]))
        obtain ⟨cl_29, Ar_29, qk_29, Sz_29, Ng_29, Hs_29, Gs_29⟩ := id V_17
        refine own_st (X_17.iaload hx (j := (1 : Int32)) (v := (.int (1 : Int32))) (by rw [e_17]; exact Ar_29.1) (State.isArrayOf_alike hZ.alike Ar_29.2.1) Ar_29.2.2 (inb_of Sz_29 ⟨by decide, by decide⟩) (Hs_29.at (j := (1 : Int32)) (inb_of Sz_29 ⟨by decide, by decide⟩) rfl) (g := (mkF m 33 #[rv a1, iv 4, rv b_1, iv 2, iv 3] [(.int 1), (.ref b_1)])) rfl rfl (hb hby d2_33)) ?_
        show own_Go _ _ _ _ (T_17.setTop (mkF m 34 #[rv a1, iv 4, rv b_1, iv 2, iv 3] [(.int 1)]))
        refine o_istoreN X_17 hx (hb hby d2_34) (l' := #[rv a1, iv 4, rv b_1, iv 1, iv 3]) rfl ?_
        refine o_goto X_17 hx (pc' := 15) (hb hby d2_35) (by decide) (by decide) ?_
        refine o_iloadN X_17 hx (hb hby d2_15) rfl ?_
        refine o_ifNo X_17 hx (hb hby d2_16) (tlt (by decide : (0 : Int32) < (1 : Int32))).2.2.2 ?_
        refine o_aloadN X_17 hx (hb hby d2_19) rfl rfl ?_
        refine o_iload X_17 hx (hb hby d2_20) rfl ?_
        obtain ⟨cl_30, Ar_30, qk_30, Sz_30, Ng_30, Hs_30, Gs_30⟩ := id Fa_18
        refine own_st (X_17.iaload hx (j := (3 : Int32)) (v := (.int x3)) (by rw [e_17]; exact Ar_30.1) (State.isArrayOf_alike hZ.alike Ar_30.2.1) Ar_30.2.2 (inb_of Sz_30 ⟨by decide, by decide⟩) (Hs_30.at (j := (3 : Int32)) (inb_of Sz_30 ⟨by decide, by decide⟩) rfl) (g := (mkF m 22 #[rv a1, iv 4, rv b_1, iv 1, iv 3] [(.int 3), (.ref a1)])) rfl rfl (hb hby d2_22)) ?_
        show own_Go _ _ _ _ (T_17.setTop (mkF m 23 #[rv a1, iv 4, rv b_1, iv 1, iv 3] [(.int x3)]))
        refine o_aloadN X_17 hx (hb hby d2_23) rfl rfl ?_
        refine o_iloadN X_17 hx (hb hby d2_24) rfl ?_
        obtain ⟨cl_31, Ar_31, qk_31, Sz_31, Ng_31, Hs_31, Gs_31⟩ := id Fa_18
        refine own_st (X_17.iaload hx (j := (1 : Int32)) (v := (.int x1)) (by rw [e_17]; exact Ar_31.1) (State.isArrayOf_alike hZ.alike Ar_31.2.1) Ar_31.2.2 (inb_of Sz_31 ⟨by decide, by decide⟩) (Hs_31.at (j := (1 : Int32)) (inb_of Sz_31 ⟨by decide, by decide⟩) rfl) (g := (mkF m 25 #[rv a1, iv 4, rv b_1, iv 1, iv 3] [(.int 1), (.ref a1), (.int x3)])) rfl rfl (hb hby d2_25)) ?_
        show own_Go _ _ _ _ (T_17.setTop (mkF m 26 #[rv a1, iv 4, rv b_1, iv 1, iv 3] [(.int x1), (.int x3)]))
        refine o_icmpNo X_17 hx (hb hby d2_26) (feq (fun h => hc26__21 (h.trans hc26__12.symm))).1 ?_
        refine o_aloadN X_17 hx (hb hby d2_29) rfl rfl ?_
        refine o_iloadN X_17 hx (hb hby d2_30) rfl ?_
        refine o_iconst X_17 hx 1 (hb hby d2_31) rfl ?_
        refine o_isub X_17 hx (hb hby d2_32) ?_
        show own_Go _ _ _ _ (T_17.setTop (mkF m 33 #[rv a1, iv 4, rv b_1, iv 1, iv 3] [(.int 0), (.ref b_1)]))
        obtain ⟨cl_32, Ar_32, qk_32, Sz_32, Ng_32, Hs_32, Gs_32⟩ := id V_17
        refine own_st (X_17.iaload hx (j := (0 : Int32)) (v := (.int (0 : Int32))) (by rw [e_17]; exact Ar_32.1) (State.isArrayOf_alike hZ.alike Ar_32.2.1) Ar_32.2.2 (inb_of Sz_32 ⟨by decide, by decide⟩) (Hs_32.at (j := (0 : Int32)) (inb_of Sz_32 ⟨by decide, by decide⟩) rfl) (g := (mkF m 33 #[rv a1, iv 4, rv b_1, iv 1, iv 3] [(.int 0), (.ref b_1)])) rfl rfl (hb hby d2_33)) ?_
        show own_Go _ _ _ _ (T_17.setTop (mkF m 34 #[rv a1, iv 4, rv b_1, iv 1, iv 3] [(.int 0)]))
        refine o_istoreN X_17 hx (hb hby d2_34) (l' := #[rv a1, iv 4, rv b_1, iv 0, iv 3]) rfl ?_
        refine o_goto X_17 hx (pc' := 15) (hb hby d2_35) (by decide) (by decide) ?_
        refine o_iloadN X_17 hx (hb hby d2_15) rfl ?_
        refine o_ifYes X_17 hx (pc' := 38) (hb hby d2_16) (flt (by decide : ¬ ((0 : Int32) < (0 : Int32)))).2.2.2 (by decide) (by decide) ?_
        refine o_aloadN X_17 hx (hb hby d2_38) rfl rfl ?_
        refine o_iload X_17 hx (hb hby d2_39) rfl ?_
        obtain ⟨cl_33, Ar_33, qk_33, Sz_33, Ng_33, Hs_33, Gs_33⟩ := id Fa_18
        refine own_st (X_17.iaload hx (j := (3 : Int32)) (v := (.int x3)) (by rw [e_17]; exact Ar_33.1) (State.isArrayOf_alike hZ.alike Ar_33.2.1) Ar_33.2.2 (inb_of Sz_33 ⟨by decide, by decide⟩) (Hs_33.at (j := (3 : Int32)) (inb_of Sz_33 ⟨by decide, by decide⟩) rfl) (g := (mkF m 41 #[rv a1, iv 4, rv b_1, iv 0, iv 3] [(.int 3), (.ref a1)])) rfl rfl (hb hby d2_41)) ?_
        show own_Go _ _ _ _ (T_17.setTop (mkF m 42 #[rv a1, iv 4, rv b_1, iv 0, iv 3] [(.int x3)]))
        refine o_aloadN X_17 hx (hb hby d2_42) rfl rfl ?_
        refine o_iloadN X_17 hx (hb hby d2_43) rfl ?_
        obtain ⟨cl_34, Ar_34, qk_34, Sz_34, Ng_34, Hs_34, Gs_34⟩ := id Fa_18
        refine own_st (X_17.iaload hx (j := (0 : Int32)) (v := (.int x0)) (by rw [e_17]; exact Ar_34.1) (State.isArrayOf_alike hZ.alike Ar_34.2.1) Ar_34.2.2 (inb_of Sz_34 ⟨by decide, by decide⟩) (Hs_34.at (j := (0 : Int32)) (inb_of Sz_34 ⟨by decide, by decide⟩) rfl) (g := (mkF m 44 #[rv a1, iv 4, rv b_1, iv 0, iv 3] [(.int 0), (.ref a1), (.int x3)])) rfl rfl (hb hby d2_44)) ?_
        show own_Go _ _ _ _ (T_17.setTop (mkF m 45 #[rv a1, iv 4, rv b_1, iv 0, iv 3] [(.int x0), (.int x3)]))
        refine o_icmpYes X_17 hx (pc' := 51) (hb hby d2_45) (feq (fun h => hc26__21 (h.trans (hc45__5.symm.trans hc26__12.symm)))).2 (by decide) (by decide) ?_
        refine o_aloadN X_17 hx (hb hby d2_51) rfl rfl ?_
        refine o_iload X_17 hx (hb hby d2_52) rfl ?_
        refine o_iloadN X_17 hx (hb hby d2_54) rfl ?_
        obtain ⟨cl_35, Ar_35, qk_35, Sz_35, Ng_35, Hs_35, Gs_35⟩ := id V_17
        obtain ⟨T_36, h_36, X_36, e_36, W_36, st_36⟩ := stI X_17 hx hZ e_17 Ar_35 (j := (3 : Int32)) (inb_of Sz_35 ⟨by decide, by decide⟩) (g := (mkF m 55 #[rv a1, iv 4, rv b_1, iv 0, iv 3] [(.int 0), (.int 3), (.ref b_1)])) rfl rfl (hb hby d2_55)
        refine own_st st_36 ?_
        have V_36 : Arv Z h_36 b_1 k_1 .int (4 : Int32) [(.int (0 : Int32)), (.int (1 : Int32)), (.int (2 : Int32)), (.int (0 : Int32))] (.int (0 : Int32)) := Arv.set Ar_35 qk_35 Sz_35 Ng_35 Hs_35 Gs_35 rfl W_36 3 rfl (Nat.le_of_ble_eq_true rfl)
        have N_36 := Fr.snoc X_36 N_17 gg_1
        show own_Go _ _ _ _ (T_36.setTop (mkF m 56 #[rv a1, iv 4, rv b_1, iv 0, iv 3] []))
        refine o_iinc X_36 hx (hb hby d2_56) rfl (l' := #[rv a1, iv 4, rv b_1, iv 0, iv 4]) rfl ?_
        refine o_goto X_36 hx (pc' := 9) (hb hby d2_59) (by decide) (by decide) ?_
        refine o_iload X_36 hx (hb hby d2_9) rfl ?_
        refine o_iloadN X_36 hx (hb hby d2_11) rfl ?_
        refine o_icmpYes X_36 hx (pc' := 62) (hb hby d2_12) (flt (by decide : ¬ ((4 : Int32) < (4 : Int32)))).2.1 (by decide) (by decide) ?_
        refine o_aloadN X_36 hx (hb hby d2_62) rfl rfl ?_
        have Kp_37 : Keep h0 h_36 [] := (((((Keep.refl h0 []).ext E_1).wr W_8 (Or.inr sz_1)).wr W_17 (Or.inr sz_1)).wr W_36 (Or.inr sz_1))
        exact own_end X_36 e_36 (v := some (.ref b_1)) (fun h => by rw [Bd.returns] at h; cases h) hlk (fun fs hr => own_retA X_36 hx Bd.returns rfl rfl (hb hby d2_63) hr) (Q := Q_rmbo4 Z a0 a1 k dv x0 x1 x2 x3 x4 h0 n0) ⟨b_1, k_1, rfl, N_36, Kp_37, gg_1, sz_1, (Eq.mp (congrArg (fun z => Arv Z h_36 b_1 k_1 .int (4 : Int32) z (.int (0 : Int32))) (hv_28.symm.trans (own_bord_eq4 x0 x1 x2 x3 x4))) V_36)⟩ (by decide) (by decide)
    · have hv_38 := hv_6.trans (if_neg hc26__12)
      refine o_icmpNo X_8 hx (hb hby d2_26) (feq hc26__12).1 ?_
      refine o_aloadN X_8 hx (hb hby d2_29) rfl rfl ?_
      refine o_iloadN X_8 hx (hb hby d2_30) rfl ?_
      refine o_iconst X_8 hx 1 (hb hby d2_31) rfl ?_
      refine o_isub X_8 hx (hb hby d2_32) ?_
      show own_Go _ _ _ _ (T_8.setTop (mkF m 33 #[rv a1, iv 4, rv b_1, iv 1, iv 2] [(.int 0), (.ref b_1)]))
      obtain ⟨cl_39, Ar_39, qk_39, Sz_39, Ng_39, Hs_39, Gs_39⟩ := id V_8
      refine own_st (X_8.iaload hx (j := (0 : Int32)) (v := (.int (0 : Int32))) (by rw [e_8]; exact Ar_39.1) (State.isArrayOf_alike hZ.alike Ar_39.2.1) Ar_39.2.2 (inb_of Sz_39 ⟨by decide, by decide⟩) (Hs_39.at (j := (0 : Int32)) (inb_of Sz_39 ⟨by decide, by decide⟩) rfl) (g := (mkF m 33 #[rv a1, iv 4, rv b_1, iv 1, iv 2] [(.int 0), (.ref b_1)])) rfl rfl (hb hby d2_33)) ?_
      show own_Go _ _ _ _ (T_8.setTop (mkF m 34 #[rv a1, iv 4, rv b_1, iv 1, iv 2] [(.int 0)]))
      refine o_istoreN X_8 hx (hb hby d2_34) (l' := #[rv a1, iv 4, rv b_1, iv 0, iv 2]) rfl ?_
      refine o_goto X_8 hx (pc' := 15) (hb hby d2_35) (by decide) (by decide) ?_
      refine o_iloadN X_8 hx (hb hby d2_15) rfl ?_
      refine o_ifYes X_8 hx (pc' := 38) (hb hby d2_16) (flt (by decide : ¬ ((0 : Int32) < (0 : Int32)))).2.2.2 (by decide) (by decide) ?_
      refine o_aloadN X_8 hx (hb hby d2_38) rfl rfl ?_
      refine o_iload X_8 hx (hb hby d2_39) rfl ?_
      obtain ⟨cl_40, Ar_40, qk_40, Sz_40, Ng_40, Hs_40, Gs_40⟩ := id Fa_9
      refine own_st (X_8.iaload hx (j := (2 : Int32)) (v := (.int x2)) (by rw [e_8]; exact Ar_40.1) (State.isArrayOf_alike hZ.alike Ar_40.2.1) Ar_40.2.2 (inb_of Sz_40 ⟨by decide, by decide⟩) (Hs_40.at (j := (2 : Int32)) (inb_of Sz_40 ⟨by decide, by decide⟩) rfl) (g := (mkF m 41 #[rv a1, iv 4, rv b_1, iv 0, iv 2] [(.int 2), (.ref a1)])) rfl rfl (hb hby d2_41)) ?_
      show own_Go _ _ _ _ (T_8.setTop (mkF m 42 #[rv a1, iv 4, rv b_1, iv 0, iv 2] [(.int x2)]))
      refine o_aloadN X_8 hx (hb hby d2_42) rfl rfl ?_
      refine o_iloadN X_8 hx (hb hby d2_43) rfl ?_
      obtain ⟨cl_41, Ar_41, qk_41, Sz_41, Ng_41, Hs_41, Gs_41⟩ := id Fa_9
      refine own_st (X_8.iaload hx (j := (0 : Int32)) (v := (.int x0)) (by rw [e_8]; exact Ar_41.1) (State.isArrayOf_alike hZ.alike Ar_41.2.1) Ar_41.2.2 (inb_of Sz_41 ⟨by decide, by decide⟩) (Hs_41.at (j := (0 : Int32)) (inb_of Sz_41 ⟨by decide, by decide⟩) rfl) (g := (mkF m 44 #[rv a1, iv 4, rv b_1, iv 0, iv 2] [(.int 0), (.ref a1), (.int x2)])) rfl rfl (hb hby d2_44)) ?_
      show own_Go _ _ _ _ (T_8.setTop (mkF m 45 #[rv a1, iv 4, rv b_1, iv 0, iv 2] [(.int x0), (.int x2)]))
      refine o_icmpYes X_8 hx (pc' := 51) (hb hby d2_45) (feq (fun h => hc26__12 (h.trans hc45__5.symm))).2 (by decide) (by decide) ?_
      refine o_aloadN X_8 hx (hb hby d2_51) rfl rfl ?_
      refine o_iload X_8 hx (hb hby d2_52) rfl ?_
      refine o_iloadN X_8 hx (hb hby d2_54) rfl ?_
      obtain ⟨cl_42, Ar_42, qk_42, Sz_42, Ng_42, Hs_42, Gs_42⟩ := id V_8
      obtain ⟨T_43, h_43, X_43, e_43, W_43, st_43⟩ := stI X_8 hx hZ e_8 Ar_42 (j := (2 : Int32)) (inb_of Sz_42 ⟨by decide, by decide⟩) (g := (mkF m 55 #[rv a1, iv 4, rv b_1, iv 0, iv 2] [(.int 0), (.int 2), (.ref b_1)])) rfl rfl (hb hby d2_55)
      refine own_st st_43 ?_
      have V_43 : Arv Z h_43 b_1 k_1 .int (4 : Int32) [(.int (0 : Int32)), (.int (1 : Int32)), (.int (0 : Int32)), (.int (0 : Int32))] (.int (0 : Int32)) := Arv.set Ar_42 qk_42 Sz_42 Ng_42 Hs_42 Gs_42 rfl W_43 2 rfl (Nat.le_of_ble_eq_true rfl)
      have N_43 := Fr.snoc X_43 N_8 gg_1
      show own_Go _ _ _ _ (T_43.setTop (mkF m 56 #[rv a1, iv 4, rv b_1, iv 0, iv 2] []))
      refine o_iinc X_43 hx (hb hby d2_56) rfl (l' := #[rv a1, iv 4, rv b_1, iv 0, iv 3]) rfl ?_
      refine o_goto X_43 hx (pc' := 9) (hb hby d2_59) (by decide) (by decide) ?_
      refine o_iload X_43 hx (hb hby d2_9) rfl ?_
      refine o_iloadN X_43 hx (hb hby d2_11) rfl ?_
      refine o_icmpNo X_43 hx (hb hby d2_12) (tlt (by decide : (3 : Int32) < (4 : Int32))).2.1 ?_
      refine o_iloadN X_43 hx (hb hby d2_15) rfl ?_
      refine o_ifYes X_43 hx (pc' := 38) (hb hby d2_16) (flt (by decide : ¬ ((0 : Int32) < (0 : Int32)))).2.2.2 (by decide) (by decide) ?_
      refine o_aloadN X_43 hx (hb hby d2_38) rfl rfl ?_
      refine o_iload X_43 hx (hb hby d2_39) rfl ?_
      have Fa_44 := (Fa_9.other W_43 (Nat.ne_of_lt (Nat.lt_of_lt_of_le V1.lt (Nat.le_of_eq g_1.symm))))
      obtain ⟨cl_45, Ar_45, qk_45, Sz_45, Ng_45, Hs_45, Gs_45⟩ := id Fa_44
      refine own_st (X_43.iaload hx (j := (3 : Int32)) (v := (.int x3)) (by rw [e_43]; exact Ar_45.1) (State.isArrayOf_alike hZ.alike Ar_45.2.1) Ar_45.2.2 (inb_of Sz_45 ⟨by decide, by decide⟩) (Hs_45.at (j := (3 : Int32)) (inb_of Sz_45 ⟨by decide, by decide⟩) rfl) (g := (mkF m 41 #[rv a1, iv 4, rv b_1, iv 0, iv 3] [(.int 3), (.ref a1)])) rfl rfl (hb hby d2_41)) ?_
      show own_Go _ _ _ _ (T_43.setTop (mkF m 42 #[rv a1, iv 4, rv b_1, iv 0, iv 3] [(.int x3)]))
      refine o_aloadN X_43 hx (hb hby d2_42) rfl rfl ?_
      refine o_iloadN X_43 hx (hb hby d2_43) rfl ?_
      obtain ⟨cl_46, Ar_46, qk_46, Sz_46, Ng_46, Hs_46, Gs_46⟩ := id Fa_44
      refine own_st (X_43.iaload hx (j := (0 : Int32)) (v := (.int x0)) (by rw [e_43]; exact Ar_46.1) (State.isArrayOf_alike hZ.alike Ar_46.2.1) Ar_46.2.2 (inb_of Sz_46 ⟨by decide, by decide⟩) (Hs_46.at (j := (0 : Int32)) (inb_of Sz_46 ⟨by decide, by decide⟩) rfl) (g := (mkF m 44 #[rv a1, iv 4, rv b_1, iv 0, iv 3] [(.int 0), (.ref a1), (.int x3)])) rfl rfl (hb hby d2_44)) ?_
      show own_Go _ _ _ _ (T_43.setTop (mkF m 45 #[rv a1, iv 4, rv b_1, iv 0, iv 3] [(.int x0), (.int x3)]))
      by_cases hc45__47 : x3 = x0
      · have hv_48 := hv_38.trans (if_pos hc45__47)
        refine o_icmpNo X_43 hx (hb hby d2_45) (teq hc45__47).2 ?_
        refine o_iinc X_43 hx (hb hby d2_48) rfl (l' := #[rv a1, iv 4, rv b_1, iv 1, iv 3]) rfl ?_
        refine o_aloadN X_43 hx (hb hby d2_51) rfl rfl ?_
        refine o_iload X_43 hx (hb hby d2_52) rfl ?_
        refine o_iloadN X_43 hx (hb hby d2_54) rfl ?_
        obtain ⟨cl_49, Ar_49, qk_49, Sz_49, Ng_49, Hs_49, Gs_49⟩ := id V_43
        obtain ⟨T_50, h_50, X_50, e_50, W_50, st_50⟩ := stI X_43 hx hZ e_43 Ar_49 (j := (3 : Int32)) (inb_of Sz_49 ⟨by decide, by decide⟩) (g := (mkF m 55 #[rv a1, iv 4, rv b_1, iv 1, iv 3] [(.int 1), (.int 3), (.ref b_1)])) rfl rfl (hb hby d2_55)
        refine own_st st_50 ?_
        have V_50 : Arv Z h_50 b_1 k_1 .int (4 : Int32) [(.int (0 : Int32)), (.int (1 : Int32)), (.int (0 : Int32)), (.int (1 : Int32))] (.int (0 : Int32)) := Arv.set Ar_49 qk_49 Sz_49 Ng_49 Hs_49 Gs_49 rfl W_50 3 rfl (Nat.le_of_ble_eq_true rfl)
        have N_50 := Fr.snoc X_50 N_43 gg_1
        show own_Go _ _ _ _ (T_50.setTop (mkF m 56 #[rv a1, iv 4, rv b_1, iv 1, iv 3] []))
        refine o_iinc X_50 hx (hb hby d2_56) rfl (l' := #[rv a1, iv 4, rv b_1, iv 1, iv 4]) rfl ?_
        refine o_goto X_50 hx (pc' := 9) (hb hby d2_59) (by decide) (by decide) ?_
        refine o_iload X_50 hx (hb hby d2_9) rfl ?_
        refine o_iloadN X_50 hx (hb hby d2_11) rfl ?_
        refine o_icmpYes X_50 hx (pc' := 62) (hb hby d2_12) (flt (by decide : ¬ ((4 : Int32) < (4 : Int32)))).2.1 (by decide) (by decide) ?_
        refine o_aloadN X_50 hx (hb hby d2_62) rfl rfl ?_
        have Kp_51 : Keep h0 h_50 [] := (((((Keep.refl h0 []).ext E_1).wr W_8 (Or.inr sz_1)).wr W_43 (Or.inr sz_1)).wr W_50 (Or.inr sz_1))
        exact own_end X_50 e_50 (v := some (.ref b_1)) (fun h => by rw [Bd.returns] at h; cases h) hlk (fun fs hr => own_retA X_50 hx Bd.returns rfl rfl (hb hby d2_63) hr) (Q := Q_rmbo4 Z a0 a1 k dv x0 x1 x2 x3 x4 h0 n0) ⟨b_1, k_1, rfl, N_50, Kp_51, gg_1, sz_1, (Eq.mp (congrArg (fun z => Arv Z h_50 b_1 k_1 .int (4 : Int32) z (.int (0 : Int32))) (hv_48.symm.trans (own_bord_eq4 x0 x1 x2 x3 x4))) V_50)⟩ (by decide) (by decide)
      · have hv_52 := hv_38.trans (if_neg hc45__47)
        refine o_icmpYes X_43 hx (pc' := 51) (hb hby d2_45) (feq hc45__47).2 (by decide) (by decide) ?_
        refine o_aloadN X_43 hx (hb hby d2_51) rfl rfl ?_
        refine o_iload X_43 hx (hb hby d2_52) rfl ?_
        refine o_iloadN X_43 hx (hb hby d2_54) rfl ?_
        obtain ⟨cl_53, Ar_53, qk_53, Sz_53, Ng_53, Hs_53, Gs_53⟩ := id V_43
        obtain ⟨T_54, h_54, X_54, e_54, W_54, st_54⟩ := stI X_43 hx hZ e_43 Ar_53 (j := (3 : Int32)) (inb_of Sz_53 ⟨by decide, by decide⟩) (g := (mkF m 55 #[rv a1, iv 4, rv b_1, iv 0, iv 3] [(.int 0), (.int 3), (.ref b_1)])) rfl rfl (hb hby d2_55)
        refine own_st st_54 ?_
        have V_54 : Arv Z h_54 b_1 k_1 .int (4 : Int32) [(.int (0 : Int32)), (.int (1 : Int32)), (.int (0 : Int32)), (.int (0 : Int32))] (.int (0 : Int32)) := Arv.set Ar_53 qk_53 Sz_53 Ng_53 Hs_53 Gs_53 rfl W_54 3 rfl (Nat.le_of_ble_eq_true rfl)
        have N_54 := Fr.snoc X_54 N_43 gg_1
        show own_Go _ _ _ _ (T_54.setTop (mkF m 56 #[rv a1, iv 4, rv b_1, iv 0, iv 3] []))
        refine o_iinc X_54 hx (hb hby d2_56) rfl (l' := #[rv a1, iv 4, rv b_1, iv 0, iv 4]) rfl ?_
        refine o_goto X_54 hx (pc' := 9) (hb hby d2_59) (by decide) (by decide) ?_
        refine o_iload X_54 hx (hb hby d2_9) rfl ?_
        refine o_iloadN X_54 hx (hb hby d2_11) rfl ?_
        refine o_icmpYes X_54 hx (pc' := 62) (hb hby d2_12) (flt (by decide : ¬ ((4 : Int32) < (4 : Int32)))).2.1 (by decide) (by decide) ?_
        refine o_aloadN X_54 hx (hb hby d2_62) rfl rfl ?_
        have Kp_55 : Keep h0 h_54 [] := (((((Keep.refl h0 []).ext E_1).wr W_8 (Or.inr sz_1)).wr W_43 (Or.inr sz_1)).wr W_54 (Or.inr sz_1))
        exact own_end X_54 e_54 (v := some (.ref b_1)) (fun h => by rw [Bd.returns] at h; cases h) hlk (fun fs hr => own_retA X_54 hx Bd.returns rfl rfl (hb hby d2_63) hr) (Q := Q_rmbo4 Z a0 a1 k dv x0 x1 x2 x3 x4 h0 n0) ⟨b_1, k_1, rfl, N_54, Kp_55, gg_1, sz_1, (Eq.mp (congrArg (fun z => Arv Z h_54 b_1 k_1 .int (4 : Int32) z (.int (0 : Int32))) (hv_52.symm.trans (own_bord_eq4 x0 x1 x2 x3 x4))) V_54)⟩ (by decide) (by decide)
  · have hv_56 := hv.trans (if_neg hc45__5)
    refine o_icmpYes X_1 hx (pc' := 51) (hb hby d2_45) (feq hc45__5).2 (by decide) (by decide) ?_
    refine o_aloadN X_1 hx (hb hby d2_51) rfl rfl ?_
    refine o_iload X_1 hx (hb hby d2_52) rfl ?_
    refine o_iloadN X_1 hx (hb hby d2_54) rfl ?_
    obtain ⟨cl_57, Ar_57, qk_57, Sz_57, Ng_57, Hs_57, Gs_57⟩ := id V_1
    obtain ⟨T_58, h_58, X_58, e_58, W_58, st_58⟩ := stI X_1 hx hZ e_1 Ar_57 (j := (1 : Int32)) (inb_of Sz_57 ⟨by decide, by decide⟩) (g := (mkF m 55 #[rv a1, iv 4, rv b_1, iv 0, iv 1] [(.int 0), (.int 1), (.ref b_1)])) rfl rfl (hb hby d2_55)
    refine own_st st_58 ?_
    have V_58 : Arv Z h_58 b_1 k_1 .int (4 : Int32) [(.int (0 : Int32)), (.int (0 : Int32)), (.int (0 : Int32)), (.int (0 : Int32))] (.int (0 : Int32)) := Arv.set Ar_57 qk_57 Sz_57 Ng_57 Hs_57 Gs_57 rfl W_58 1 rfl (Nat.le_of_ble_eq_true rfl)
    have N_58 := Fr.snoc X_58 N0 gg_1
    show own_Go _ _ _ _ (T_58.setTop (mkF m 56 #[rv a1, iv 4, rv b_1, iv 0, iv 1] []))
    refine o_iinc X_58 hx (hb hby d2_56) rfl (l' := #[rv a1, iv 4, rv b_1, iv 0, iv 2]) rfl ?_
    refine o_goto X_58 hx (pc' := 9) (hb hby d2_59) (by decide) (by decide) ?_
    refine o_iload X_58 hx (hb hby d2_9) rfl ?_
    refine o_iloadN X_58 hx (hb hby d2_11) rfl ?_
    refine o_icmpNo X_58 hx (hb hby d2_12) (tlt (by decide : (2 : Int32) < (4 : Int32))).2.1 ?_
    refine o_iloadN X_58 hx (hb hby d2_15) rfl ?_
    refine o_ifYes X_58 hx (pc' := 38) (hb hby d2_16) (flt (by decide : ¬ ((0 : Int32) < (0 : Int32)))).2.2.2 (by decide) (by decide) ?_
    refine o_aloadN X_58 hx (hb hby d2_38) rfl rfl ?_
    refine o_iload X_58 hx (hb hby d2_39) rfl ?_
    have Fa_59 := (Fa_2.other W_58 (Nat.ne_of_lt (Nat.lt_of_lt_of_le V1.lt (Nat.le_of_eq g_1.symm))))
    obtain ⟨cl_60, Ar_60, qk_60, Sz_60, Ng_60, Hs_60, Gs_60⟩ := id Fa_59
    refine own_st (X_58.iaload hx (j := (2 : Int32)) (v := (.int x2)) (by rw [e_58]; exact Ar_60.1) (State.isArrayOf_alike hZ.alike Ar_60.2.1) Ar_60.2.2 (inb_of Sz_60 ⟨by decide, by decide⟩) (Hs_60.at (j := (2 : Int32)) (inb_of Sz_60 ⟨by decide, by decide⟩) rfl) (g := (mkF m 41 #[rv a1, iv 4, rv b_1, iv 0, iv 2] [(.int 2), (.ref a1)])) rfl rfl (hb hby d2_41)) ?_
    show own_Go _ _ _ _ (T_58.setTop (mkF m 42 #[rv a1, iv 4, rv b_1, iv 0, iv 2] [(.int x2)]))
    refine o_aloadN X_58 hx (hb hby d2_42) rfl rfl ?_
    refine o_iloadN X_58 hx (hb hby d2_43) rfl ?_
    obtain ⟨cl_61, Ar_61, qk_61, Sz_61, Ng_61, Hs_61, Gs_61⟩ := id Fa_59
    refine own_st (X_58.iaload hx (j := (0 : Int32)) (v := (.int x0)) (by rw [e_58]; exact Ar_61.1) (State.isArrayOf_alike hZ.alike Ar_61.2.1) Ar_61.2.2 (inb_of Sz_61 ⟨by decide, by decide⟩) (Hs_61.at (j := (0 : Int32)) (inb_of Sz_61 ⟨by decide, by decide⟩) rfl) (g := (mkF m 44 #[rv a1, iv 4, rv b_1, iv 0, iv 2] [(.int 0), (.ref a1), (.int x2)])) rfl rfl (hb hby d2_44)) ?_
    show own_Go _ _ _ _ (T_58.setTop (mkF m 45 #[rv a1, iv 4, rv b_1, iv 0, iv 2] [(.int x0), (.int x2)]))
    by_cases hc45__62 : x2 = x0
    · have hv_63 := hv_56.trans (if_pos hc45__62)
      refine o_icmpNo X_58 hx (hb hby d2_45) (teq hc45__62).2 ?_
      refine o_iinc X_58 hx (hb hby d2_48) rfl (l' := #[rv a1, iv 4, rv b_1, iv 1, iv 2]) rfl ?_
      refine o_aloadN X_58 hx (hb hby d2_51) rfl rfl ?_
      refine o_iload X_58 hx (hb hby d2_52) rfl ?_
      refine o_iloadN X_58 hx (hb hby d2_54) rfl ?_
      obtain ⟨cl_64, Ar_64, qk_64, Sz_64, Ng_64, Hs_64, Gs_64⟩ := id V_58
      obtain ⟨T_65, h_65, X_65, e_65, W_65, st_65⟩ := stI X_58 hx hZ e_58 Ar_64 (j := (2 : Int32)) (inb_of Sz_64 ⟨by decide, by decide⟩) (g := (mkF m 55 #[rv a1, iv 4, rv b_1, iv 1, iv 2] [(.int 1), (.int 2), (.ref b_1)])) rfl rfl (hb hby d2_55)
      refine own_st st_65 ?_
      have V_65 : Arv Z h_65 b_1 k_1 .int (4 : Int32) [(.int (0 : Int32)), (.int (0 : Int32)), (.int (1 : Int32)), (.int (0 : Int32))] (.int (0 : Int32)) := Arv.set Ar_64 qk_64 Sz_64 Ng_64 Hs_64 Gs_64 rfl W_65 2 rfl (Nat.le_of_ble_eq_true rfl)
      have N_65 := Fr.snoc X_65 N_58 gg_1
      show own_Go _ _ _ _ (T_65.setTop (mkF m 56 #[rv a1, iv 4, rv b_1, iv 1, iv 2] []))
      refine o_iinc X_65 hx (hb hby d2_56) rfl (l' := #[rv a1, iv 4, rv b_1, iv 1, iv 3]) rfl ?_
      refine o_goto X_65 hx (pc' := 9) (hb hby d2_59) (by decide) (by decide) ?_
      refine o_iload X_65 hx (hb hby d2_9) rfl ?_
      refine o_iloadN X_65 hx (hb hby d2_11) rfl ?_
      refine o_icmpNo X_65 hx (hb hby d2_12) (tlt (by decide : (3 : Int32) < (4 : Int32))).2.1 ?_
      refine o_iloadN X_65 hx (hb hby d2_15) rfl ?_
      refine o_ifNo X_65 hx (hb hby d2_16) (tlt (by decide : (0 : Int32) < (1 : Int32))).2.2.2 ?_
      refine o_aloadN X_65 hx (hb hby d2_19) rfl rfl ?_
      refine o_iload X_65 hx (hb hby d2_20) rfl ?_
      have Fa_66 := (Fa_59.other W_65 (Nat.ne_of_lt (Nat.lt_of_lt_of_le V1.lt (Nat.le_of_eq g_1.symm))))
      obtain ⟨cl_67, Ar_67, qk_67, Sz_67, Ng_67, Hs_67, Gs_67⟩ := id Fa_66
      refine own_st (X_65.iaload hx (j := (3 : Int32)) (v := (.int x3)) (by rw [e_65]; exact Ar_67.1) (State.isArrayOf_alike hZ.alike Ar_67.2.1) Ar_67.2.2 (inb_of Sz_67 ⟨by decide, by decide⟩) (Hs_67.at (j := (3 : Int32)) (inb_of Sz_67 ⟨by decide, by decide⟩) rfl) (g := (mkF m 22 #[rv a1, iv 4, rv b_1, iv 1, iv 3] [(.int 3), (.ref a1)])) rfl rfl (hb hby d2_22)) ?_
      show own_Go _ _ _ _ (T_65.setTop (mkF m 23 #[rv a1, iv 4, rv b_1, iv 1, iv 3] [(.int x3)]))
      refine o_aloadN X_65 hx (hb hby d2_23) rfl rfl ?_
      refine o_iloadN X_65 hx (hb hby d2_24) rfl ?_
      obtain ⟨cl_68, Ar_68, qk_68, Sz_68, Ng_68, Hs_68, Gs_68⟩ := id Fa_66
      refine own_st (X_65.iaload hx (j := (1 : Int32)) (v := (.int x1)) (by rw [e_65]; exact Ar_68.1) (State.isArrayOf_alike hZ.alike Ar_68.2.1) Ar_68.2.2 (inb_of Sz_68 ⟨by decide, by decide⟩) (Hs_68.at (j := (1 : Int32)) (inb_of Sz_68 ⟨by decide, by decide⟩) rfl) (g := (mkF m 25 #[rv a1, iv 4, rv b_1, iv 1, iv 3] [(.int 1), (.ref a1), (.int x3)])) rfl rfl (hb hby d2_25)) ?_
      show own_Go _ _ _ _ (T_65.setTop (mkF m 26 #[rv a1, iv 4, rv b_1, iv 1, iv 3] [(.int x1), (.int x3)]))
      by_cases hc26__69 : x3 = x1
      · have hv_70 := hv_63.trans (if_pos hc26__69)
        refine o_icmpYes X_65 hx (pc' := 38) (hb hby d2_26) (teq hc26__69).1 (by decide) (by decide) ?_
        refine o_aloadN X_65 hx (hb hby d2_38) rfl rfl ?_
        refine o_iload X_65 hx (hb hby d2_39) rfl ?_
        obtain ⟨cl_71, Ar_71, qk_71, Sz_71, Ng_71, Hs_71, Gs_71⟩ := id Fa_66
        refine own_st (X_65.iaload hx (j := (3 : Int32)) (v := (.int x3)) (by rw [e_65]; exact Ar_71.1) (State.isArrayOf_alike hZ.alike Ar_71.2.1) Ar_71.2.2 (inb_of Sz_71 ⟨by decide, by decide⟩) (Hs_71.at (j := (3 : Int32)) (inb_of Sz_71 ⟨by decide, by decide⟩) rfl) (g := (mkF m 41 #[rv a1, iv 4, rv b_1, iv 1, iv 3] [(.int 3), (.ref a1)])) rfl rfl (hb hby d2_41)) ?_
        show own_Go _ _ _ _ (T_65.setTop (mkF m 42 #[rv a1, iv 4, rv b_1, iv 1, iv 3] [(.int x3)]))
        refine o_aloadN X_65 hx (hb hby d2_42) rfl rfl ?_
        refine o_iloadN X_65 hx (hb hby d2_43) rfl ?_
        obtain ⟨cl_72, Ar_72, qk_72, Sz_72, Ng_72, Hs_72, Gs_72⟩ := id Fa_66
        refine own_st (X_65.iaload hx (j := (1 : Int32)) (v := (.int x1)) (by rw [e_65]; exact Ar_72.1) (State.isArrayOf_alike hZ.alike Ar_72.2.1) Ar_72.2.2 (inb_of Sz_72 ⟨by decide, by decide⟩) (Hs_72.at (j := (1 : Int32)) (inb_of Sz_72 ⟨by decide, by decide⟩) rfl) (g := (mkF m 44 #[rv a1, iv 4, rv b_1, iv 1, iv 3] [(.int 1), (.ref a1), (.int x3)])) rfl rfl (hb hby d2_44)) ?_
        show own_Go _ _ _ _ (T_65.setTop (mkF m 45 #[rv a1, iv 4, rv b_1, iv 1, iv 3] [(.int x1), (.int x3)]))
        refine o_icmpNo X_65 hx (hb hby d2_45) (teq hc26__69).2 ?_
        refine o_iinc X_65 hx (hb hby d2_48) rfl (l' := #[rv a1, iv 4, rv b_1, iv 2, iv 3]) rfl ?_
        refine o_aloadN X_65 hx (hb hby d2_51) rfl rfl ?_
        refine o_iload X_65 hx (hb hby d2_52) rfl ?_
        refine o_iloadN X_65 hx (hb hby d2_54) rfl ?_
        obtain ⟨cl_73, Ar_73, qk_73, Sz_73, Ng_73, Hs_73, Gs_73⟩ := id V_65
        obtain ⟨T_74, h_74, X_74, e_74, W_74, st_74⟩ := stI X_65 hx hZ e_65 Ar_73 (j := (3 : Int32)) (inb_of Sz_73 ⟨by decide, by decide⟩) (g := (mkF m 55 #[rv a1, iv 4, rv b_1, iv 2, iv 3] [(.int 2), (.int 3), (.ref b_1)])) rfl rfl (hb hby d2_55)
        refine own_st st_74 ?_
        have V_74 : Arv Z h_74 b_1 k_1 .int (4 : Int32) [(.int (0 : Int32)), (.int (0 : Int32)), (.int (1 : Int32)), (.int (2 : Int32))] (.int (0 : Int32)) := Arv.set Ar_73 qk_73 Sz_73 Ng_73 Hs_73 Gs_73 rfl W_74 3 rfl (Nat.le_of_ble_eq_true rfl)
        have N_74 := Fr.snoc X_74 N_65 gg_1
        show own_Go _ _ _ _ (T_74.setTop (mkF m 56 #[rv a1, iv 4, rv b_1, iv 2, iv 3] []))
        refine o_iinc X_74 hx (hb hby d2_56) rfl (l' := #[rv a1, iv 4, rv b_1, iv 2, iv 4]) rfl ?_
        refine o_goto X_74 hx (pc' := 9) (hb hby d2_59) (by decide) (by decide) ?_
        refine o_iload X_74 hx (hb hby d2_9) rfl ?_
        refine o_iloadN X_74 hx (hb hby d2_11) rfl ?_
        refine o_icmpYes X_74 hx (pc' := 62) (hb hby d2_12) (flt (by decide : ¬ ((4 : Int32) < (4 : Int32)))).2.1 (by decide) (by decide) ?_
        refine o_aloadN X_74 hx (hb hby d2_62) rfl rfl ?_
        have Kp_75 : Keep h0 h_74 [] := (((((Keep.refl h0 []).ext E_1).wr W_58 (Or.inr sz_1)).wr W_65 (Or.inr sz_1)).wr W_74 (Or.inr sz_1))
        exact own_end X_74 e_74 (v := some (.ref b_1)) (fun h => by rw [Bd.returns] at h; cases h) hlk (fun fs hr => own_retA X_74 hx Bd.returns rfl rfl (hb hby d2_63) hr) (Q := Q_rmbo4 Z a0 a1 k dv x0 x1 x2 x3 x4 h0 n0) ⟨b_1, k_1, rfl, N_74, Kp_75, gg_1, sz_1, (Eq.mp (congrArg (fun z => Arv Z h_74 b_1 k_1 .int (4 : Int32) z (.int (0 : Int32))) (hv_70.symm.trans (own_bord_eq4 x0 x1 x2 x3 x4))) V_74)⟩ (by decide) (by decide)
      · have hv_76 := hv_63.trans (if_neg hc26__69)
        refine o_icmpNo X_65 hx (hb hby d2_26) (feq hc26__69).1 ?_
        refine o_aloadN X_65 hx (hb hby d2_29) rfl rfl ?_
        refine o_iloadN X_65 hx (hb hby d2_30) rfl ?_
        refine o_iconst X_65 hx 1 (hb hby d2_31) rfl ?_
        refine o_isub X_65 hx (hb hby d2_32) ?_
        show own_Go _ _ _ _ (T_65.setTop (mkF m 33 #[rv a1, iv 4, rv b_1, iv 1, iv 3] [(.int 0), (.ref b_1)]))
        obtain ⟨cl_77, Ar_77, qk_77, Sz_77, Ng_77, Hs_77, Gs_77⟩ := id V_65
        refine own_st (X_65.iaload hx (j := (0 : Int32)) (v := (.int (0 : Int32))) (by rw [e_65]; exact Ar_77.1) (State.isArrayOf_alike hZ.alike Ar_77.2.1) Ar_77.2.2 (inb_of Sz_77 ⟨by decide, by decide⟩) (Hs_77.at (j := (0 : Int32)) (inb_of Sz_77 ⟨by decide, by decide⟩) rfl) (g := (mkF m 33 #[rv a1, iv 4, rv b_1, iv 1, iv 3] [(.int 0), (.ref b_1)])) rfl rfl (hb hby d2_33)) ?_
        show own_Go _ _ _ _ (T_65.setTop (mkF m 34 #[rv a1, iv 4, rv b_1, iv 1, iv 3] [(.int 0)]))
        refine o_istoreN X_65 hx (hb hby d2_34) (l' := #[rv a1, iv 4, rv b_1, iv 0, iv 3]) rfl ?_
        refine o_goto X_65 hx (pc' := 15) (hb hby d2_35) (by decide) (by decide) ?_
        refine o_iloadN X_65 hx (hb hby d2_15) rfl ?_
        refine o_ifYes X_65 hx (pc' := 38) (hb hby d2_16) (flt (by decide : ¬ ((0 : Int32) < (0 : Int32)))).2.2.2 (by decide) (by decide) ?_
        refine o_aloadN X_65 hx (hb hby d2_38) rfl rfl ?_
        refine o_iload X_65 hx (hb hby d2_39) rfl ?_
        obtain ⟨cl_78, Ar_78, qk_78, Sz_78, Ng_78, Hs_78, Gs_78⟩ := id Fa_66
        refine own_st (X_65.iaload hx (j := (3 : Int32)) (v := (.int x3)) (by rw [e_65]; exact Ar_78.1) (State.isArrayOf_alike hZ.alike Ar_78.2.1) Ar_78.2.2 (inb_of Sz_78 ⟨by decide, by decide⟩) (Hs_78.at (j := (3 : Int32)) (inb_of Sz_78 ⟨by decide, by decide⟩) rfl) (g := (mkF m 41 #[rv a1, iv 4, rv b_1, iv 0, iv 3] [(.int 3), (.ref a1)])) rfl rfl (hb hby d2_41)) ?_
        show own_Go _ _ _ _ (T_65.setTop (mkF m 42 #[rv a1, iv 4, rv b_1, iv 0, iv 3] [(.int x3)]))
        refine o_aloadN X_65 hx (hb hby d2_42) rfl rfl ?_
        refine o_iloadN X_65 hx (hb hby d2_43) rfl ?_
        obtain ⟨cl_79, Ar_79, qk_79, Sz_79, Ng_79, Hs_79, Gs_79⟩ := id Fa_66
        refine own_st (X_65.iaload hx (j := (0 : Int32)) (v := (.int x0)) (by rw [e_65]; exact Ar_79.1) (State.isArrayOf_alike hZ.alike Ar_79.2.1) Ar_79.2.2 (inb_of Sz_79 ⟨by decide, by decide⟩) (Hs_79.at (j := (0 : Int32)) (inb_of Sz_79 ⟨by decide, by decide⟩) rfl) (g := (mkF m 44 #[rv a1, iv 4, rv b_1, iv 0, iv 3] [(.int 0), (.ref a1), (.int x3)])) rfl rfl (hb hby d2_44)) ?_
        show own_Go _ _ _ _ (T_65.setTop (mkF m 45 #[rv a1, iv 4, rv b_1, iv 0, iv 3] [(.int x0), (.int x3)]))
        by_cases hc45__80 : x3 = x0
        · have hv_81 := hv_76.trans (if_pos hc45__80)
          refine o_icmpNo X_65 hx (hb hby d2_45) (teq hc45__80).2 ?_
          refine o_iinc X_65 hx (hb hby d2_48) rfl (l' := #[rv a1, iv 4, rv b_1, iv 1, iv 3]) rfl ?_
          refine o_aloadN X_65 hx (hb hby d2_51) rfl rfl ?_
          refine o_iload X_65 hx (hb hby d2_52) rfl ?_
          refine o_iloadN X_65 hx (hb hby d2_54) rfl ?_
          obtain ⟨cl_82, Ar_82, qk_82, Sz_82, Ng_82, Hs_82, Gs_82⟩ := id V_65
          obtain ⟨T_83, h_83, X_83, e_83, W_83, st_83⟩ := stI X_65 hx hZ e_65 Ar_82 (j := (3 : Int32)) (inb_of Sz_82 ⟨by decide, by decide⟩) (g := (mkF m 55 #[rv a1, iv 4, rv b_1, iv 1, iv 3] [(.int 1), (.int 3), (.ref b_1)])) rfl rfl (hb hby d2_55)
          refine own_st st_83 ?_
          have V_83 : Arv Z h_83 b_1 k_1 .int (4 : Int32) [(.int (0 : Int32)), (.int (0 : Int32)), (.int (1 : Int32)), (.int (1 : Int32))] (.int (0 : Int32)) := Arv.set Ar_82 qk_82 Sz_82 Ng_82 Hs_82 Gs_82 rfl W_83 3 rfl (Nat.le_of_ble_eq_true rfl)
          have N_83 := Fr.snoc X_83 N_65 gg_1
          show own_Go _ _ _ _ (T_83.setTop (mkF m 56 #[rv a1, iv 4, rv b_1, iv 1, iv 3] []))
          refine o_iinc X_83 hx (hb hby d2_56) rfl (l' := #[rv a1, iv 4, rv b_1, iv 1, iv 4]) rfl ?_
          refine o_goto X_83 hx (pc' := 9) (hb hby d2_59) (by decide) (by decide) ?_
          refine o_iload X_83 hx (hb hby d2_9) rfl ?_
          refine o_iloadN X_83 hx (hb hby d2_11) rfl ?_
          refine o_icmpYes X_83 hx (pc' := 62) (hb hby d2_12) (flt (by decide : ¬ ((4 : Int32) < (4 : Int32)))).2.1 (by decide) (by decide) ?_
          refine o_aloadN X_83 hx (hb hby d2_62) rfl rfl ?_
          have Kp_84 : Keep h0 h_83 [] := (((((Keep.refl h0 []).ext E_1).wr W_58 (Or.inr sz_1)).wr W_65 (Or.inr sz_1)).wr W_83 (Or.inr sz_1))
          exact own_end X_83 e_83 (v := some (.ref b_1)) (fun h => by rw [Bd.returns] at h; cases h) hlk (fun fs hr => own_retA X_83 hx Bd.returns rfl rfl (hb hby d2_63) hr) (Q := Q_rmbo4 Z a0 a1 k dv x0 x1 x2 x3 x4 h0 n0) ⟨b_1, k_1, rfl, N_83, Kp_84, gg_1, sz_1, (Eq.mp (congrArg (fun z => Arv Z h_83 b_1 k_1 .int (4 : Int32) z (.int (0 : Int32))) (hv_81.symm.trans (own_bord_eq4 x0 x1 x2 x3 x4))) V_83)⟩ (by decide) (by decide)
        · have hv_85 := hv_76.trans (if_neg hc45__80)
          refine o_icmpYes X_65 hx (pc' := 51) (hb hby d2_45) (feq hc45__80).2 (by decide) (by decide) ?_
          refine o_aloadN X_65 hx (hb hby d2_51) rfl rfl ?_
          refine o_iload X_65 hx (hb hby d2_52) rfl ?_
          refine o_iloadN X_65 hx (hb hby d2_54) rfl ?_
          obtain ⟨cl_86, Ar_86, qk_86, Sz_86, Ng_86, Hs_86, Gs_86⟩ := id V_65
          obtain ⟨T_87, h_87, X_87, e_87, W_87, st_87⟩ := stI X_65 hx hZ e_65 Ar_86 (j := (3 : Int32)) (inb_of Sz_86 ⟨by decide, by decide⟩) (g := (mkF m 55 #[rv a1, iv 4, rv b_1, iv 0, iv 3] [(.int 0), (.int 3), (.ref b_1)])) rfl rfl (hb hby d2_55)
          refine own_st st_87 ?_
          have V_87 : Arv Z h_87 b_1 k_1 .int (4 : Int32) [(.int (0 : Int32)), (.int (0 : Int32)), (.int (1 : Int32)), (.int (0 : Int32))] (.int (0 : Int32)) := Arv.set Ar_86 qk_86 Sz_86 Ng_86 Hs_86 Gs_86 rfl W_87 3 rfl (Nat.le_of_ble_eq_true rfl)
          have N_87 := Fr.snoc X_87 N_65 gg_1
          show own_Go _ _ _ _ (T_87.setTop (mkF m 56 #[rv a1, iv 4, rv b_1, iv 0, iv 3] []))
          refine o_iinc X_87 hx (hb hby d2_56) rfl (l' := #[rv a1, iv 4, rv b_1, iv 0, iv 4]) rfl ?_
          refine o_goto X_87 hx (pc' := 9) (hb hby d2_59) (by decide) (by decide) ?_
          refine o_iload X_87 hx (hb hby d2_9) rfl ?_
          refine o_iloadN X_87 hx (hb hby d2_11) rfl ?_
          refine o_icmpYes X_87 hx (pc' := 62) (hb hby d2_12) (flt (by decide : ¬ ((4 : Int32) < (4 : Int32)))).2.1 (by decide) (by decide) ?_
          refine o_aloadN X_87 hx (hb hby d2_62) rfl rfl ?_
          have Kp_88 : Keep h0 h_87 [] := (((((Keep.refl h0 []).ext E_1).wr W_58 (Or.inr sz_1)).wr W_65 (Or.inr sz_1)).wr W_87 (Or.inr sz_1))
          exact own_end X_87 e_87 (v := some (.ref b_1)) (fun h => by rw [Bd.returns] at h; cases h) hlk (fun fs hr => own_retA X_87 hx Bd.returns rfl rfl (hb hby d2_63) hr) (Q := Q_rmbo4 Z a0 a1 k dv x0 x1 x2 x3 x4 h0 n0) ⟨b_1, k_1, rfl, N_87, Kp_88, gg_1, sz_1, (Eq.mp (congrArg (fun z => Arv Z h_87 b_1 k_1 .int (4 : Int32) z (.int (0 : Int32))) (hv_85.symm.trans (own_bord_eq4 x0 x1 x2 x3 x4))) V_87)⟩ (by decide) (by decide)
    · have hv_89 := hv_56.trans (if_neg hc45__62)
      refine o_icmpYes X_58 hx (pc' := 51) (hb hby d2_45) (feq hc45__62).2 (by decide) (by decide) ?_
      refine o_aloadN X_58 hx (hb hby d2_51) rfl rfl ?_
      refine o_iload X_58 hx (hb hby d2_52) rfl ?_
      refine o_iloadN X_58 hx (hb hby d2_54) rfl ?_
      obtain ⟨cl_90, Ar_90, qk_90, Sz_90, Ng_90, Hs_90, Gs_90⟩ := id V_58
      obtain ⟨T_91, h_91, X_91, e_91, W_91, st_91⟩ := stI X_58 hx hZ e_58 Ar_90 (j := (2 : Int32)) (inb_of Sz_90 ⟨by decide, by decide⟩) (g := (mkF m 55 #[rv a1, iv 4, rv b_1, iv 0, iv 2] [(.int 0), (.int 2), (.ref b_1)])) rfl rfl (hb hby d2_55)
      refine own_st st_91 ?_
      have V_91 : Arv Z h_91 b_1 k_1 .int (4 : Int32) [(.int (0 : Int32)), (.int (0 : Int32)), (.int (0 : Int32)), (.int (0 : Int32))] (.int (0 : Int32)) := Arv.set Ar_90 qk_90 Sz_90 Ng_90 Hs_90 Gs_90 rfl W_91 2 rfl (Nat.le_of_ble_eq_true rfl)
      have N_91 := Fr.snoc X_91 N_58 gg_1
      show own_Go _ _ _ _ (T_91.setTop (mkF m 56 #[rv a1, iv 4, rv b_1, iv 0, iv 2] []))
      refine o_iinc X_91 hx (hb hby d2_56) rfl (l' := #[rv a1, iv 4, rv b_1, iv 0, iv 3]) rfl ?_
      refine o_goto X_91 hx (pc' := 9) (hb hby d2_59) (by decide) (by decide) ?_
      refine o_iload X_91 hx (hb hby d2_9) rfl ?_
      refine o_iloadN X_91 hx (hb hby d2_11) rfl ?_
      refine o_icmpNo X_91 hx (hb hby d2_12) (tlt (by decide : (3 : Int32) < (4 : Int32))).2.1 ?_
      refine o_iloadN X_91 hx (hb hby d2_15) rfl ?_
      refine o_ifYes X_91 hx (pc' := 38) (hb hby d2_16) (flt (by decide : ¬ ((0 : Int32) < (0 : Int32)))).2.2.2 (by decide) (by decide) ?_
      refine o_aloadN X_91 hx (hb hby d2_38) rfl rfl ?_
      refine o_iload X_91 hx (hb hby d2_39) rfl ?_
      have Fa_92 := (Fa_59.other W_91 (Nat.ne_of_lt (Nat.lt_of_lt_of_le V1.lt (Nat.le_of_eq g_1.symm))))
      obtain ⟨cl_93, Ar_93, qk_93, Sz_93, Ng_93, Hs_93, Gs_93⟩ := id Fa_92
      refine own_st (X_91.iaload hx (j := (3 : Int32)) (v := (.int x3)) (by rw [e_91]; exact Ar_93.1) (State.isArrayOf_alike hZ.alike Ar_93.2.1) Ar_93.2.2 (inb_of Sz_93 ⟨by decide, by decide⟩) (Hs_93.at (j := (3 : Int32)) (inb_of Sz_93 ⟨by decide, by decide⟩) rfl) (g := (mkF m 41 #[rv a1, iv 4, rv b_1, iv 0, iv 3] [(.int 3), (.ref a1)])) rfl rfl (hb hby d2_41)) ?_
      show own_Go _ _ _ _ (T_91.setTop (mkF m 42 #[rv a1, iv 4, rv b_1, iv 0, iv 3] [(.int x3)]))
      refine o_aloadN X_91 hx (hb hby d2_42) rfl rfl ?_
      refine o_iloadN X_91 hx (hb hby d2_43) rfl ?_
      obtain ⟨cl_94, Ar_94, qk_94, Sz_94, Ng_94, Hs_94, Gs_94⟩ := id Fa_92
      refine own_st (X_91.iaload hx (j := (0 : Int32)) (v := (.int x0)) (by rw [e_91]; exact Ar_94.1) (State.isArrayOf_alike hZ.alike Ar_94.2.1) Ar_94.2.2 (inb_of Sz_94 ⟨by decide, by decide⟩) (Hs_94.at (j := (0 : Int32)) (inb_of Sz_94 ⟨by decide, by decide⟩) rfl) (g := (mkF m 44 #[rv a1, iv 4, rv b_1, iv 0, iv 3] [(.int 0), (.ref a1), (.int x3)])) rfl rfl (hb hby d2_44)) ?_
      show own_Go _ _ _ _ (T_91.setTop (mkF m 45 #[rv a1, iv 4, rv b_1, iv 0, iv 3] [(.int x0), (.int x3)]))
      by_cases hc45__95 : x3 = x0
      · have hv_96 := hv_89.trans (if_pos hc45__95)
        refine o_icmpNo X_91 hx (hb hby d2_45) (teq hc45__95).2 ?_
        refine o_iinc X_91 hx (hb hby d2_48) rfl (l' := #[rv a1, iv 4, rv b_1, iv 1, iv 3]) rfl ?_
        refine o_aloadN X_91 hx (hb hby d2_51) rfl rfl ?_
        refine o_iload X_91 hx (hb hby d2_52) rfl ?_
        refine o_iloadN X_91 hx (hb hby d2_54) rfl ?_
        obtain ⟨cl_97, Ar_97, qk_97, Sz_97, Ng_97, Hs_97, Gs_97⟩ := id V_91
        obtain ⟨T_98, h_98, X_98, e_98, W_98, st_98⟩ := stI X_91 hx hZ e_91 Ar_97 (j := (3 : Int32)) (inb_of Sz_97 ⟨by decide, by decide⟩) (g := (mkF m 55 #[rv a1, iv 4, rv b_1, iv 1, iv 3] [(.int 1), (.int 3), (.ref b_1)])) rfl rfl (hb hby d2_55)
        refine own_st st_98 ?_
        have V_98 : Arv Z h_98 b_1 k_1 .int (4 : Int32) [(.int (0 : Int32)), (.int (0 : Int32)), (.int (0 : Int32)), (.int (1 : Int32))] (.int (0 : Int32)) := Arv.set Ar_97 qk_97 Sz_97 Ng_97 Hs_97 Gs_97 rfl W_98 3 rfl (Nat.le_of_ble_eq_true rfl)
        have N_98 := Fr.snoc X_98 N_91 gg_1
        show own_Go _ _ _ _ (T_98.setTop (mkF m 56 #[rv a1, iv 4, rv b_1, iv 1, iv 3] []))
        refine o_iinc X_98 hx (hb hby d2_56) rfl (l' := #[rv a1, iv 4, rv b_1, iv 1, iv 4]) rfl ?_
        refine o_goto X_98 hx (pc' := 9) (hb hby d2_59) (by decide) (by decide) ?_
        refine o_iload X_98 hx (hb hby d2_9) rfl ?_
        refine o_iloadN X_98 hx (hb hby d2_11) rfl ?_
        refine o_icmpYes X_98 hx (pc' := 62) (hb hby d2_12) (flt (by decide : ¬ ((4 : Int32) < (4 : Int32)))).2.1 (by decide) (by decide) ?_
        refine o_aloadN X_98 hx (hb hby d2_62) rfl rfl ?_
        have Kp_99 : Keep h0 h_98 [] := (((((Keep.refl h0 []).ext E_1).wr W_58 (Or.inr sz_1)).wr W_91 (Or.inr sz_1)).wr W_98 (Or.inr sz_1))
        exact own_end X_98 e_98 (v := some (.ref b_1)) (fun h => by rw [Bd.returns] at h; cases h) hlk (fun fs hr => own_retA X_98 hx Bd.returns rfl rfl (hb hby d2_63) hr) (Q := Q_rmbo4 Z a0 a1 k dv x0 x1 x2 x3 x4 h0 n0) ⟨b_1, k_1, rfl, N_98, Kp_99, gg_1, sz_1, (Eq.mp (congrArg (fun z => Arv Z h_98 b_1 k_1 .int (4 : Int32) z (.int (0 : Int32))) (hv_96.symm.trans (own_bord_eq4 x0 x1 x2 x3 x4))) V_98)⟩ (by decide) (by decide)
      · have hv_100 := hv_89.trans (if_neg hc45__95)
        refine o_icmpYes X_91 hx (pc' := 51) (hb hby d2_45) (feq hc45__95).2 (by decide) (by decide) ?_
        refine o_aloadN X_91 hx (hb hby d2_51) rfl rfl ?_
        refine o_iload X_91 hx (hb hby d2_52) rfl ?_
        refine o_iloadN X_91 hx (hb hby d2_54) rfl ?_
        obtain ⟨cl_101, Ar_101, qk_101, Sz_101, Ng_101, Hs_101, Gs_101⟩ := id V_91
        obtain ⟨T_102, h_102, X_102, e_102, W_102, st_102⟩ := stI X_91 hx hZ e_91 Ar_101 (j := (3 : Int32)) (inb_of Sz_101 ⟨by decide, by decide⟩) (g := (mkF m 55 #[rv a1, iv 4, rv b_1, iv 0, iv 3] [(.int 0), (.int 3), (.ref b_1)])) rfl rfl (hb hby d2_55)
        refine own_st st_102 ?_
        have V_102 : Arv Z h_102 b_1 k_1 .int (4 : Int32) [(.int (0 : Int32)), (.int (0 : Int32)), (.int (0 : Int32)), (.int (0 : Int32))] (.int (0 : Int32)) := Arv.set Ar_101 qk_101 Sz_101 Ng_101 Hs_101 Gs_101 rfl W_102 3 rfl (Nat.le_of_ble_eq_true rfl)
        have N_102 := Fr.snoc X_102 N_91 gg_1
        show own_Go _ _ _ _ (T_102.setTop (mkF m 56 #[rv a1, iv 4, rv b_1, iv 0, iv 3] []))
        refine o_iinc X_102 hx (hb hby d2_56) rfl (l' := #[rv a1, iv 4, rv b_1, iv 0, iv 4]) rfl ?_
        refine o_goto X_102 hx (pc' := 9) (hb hby d2_59) (by decide) (by decide) ?_
        refine o_iload X_102 hx (hb hby d2_9) rfl ?_
        refine o_iloadN X_102 hx (hb hby d2_11) rfl ?_
        refine o_icmpYes X_102 hx (pc' := 62) (hb hby d2_12) (flt (by decide : ¬ ((4 : Int32) < (4 : Int32)))).2.1 (by decide) (by decide) ?_
        refine o_aloadN X_102 hx (hb hby d2_62) rfl rfl ?_
        have Kp_103 : Keep h0 h_102 [] := (((((Keep.refl h0 []).ext E_1).wr W_58 (Or.inr sz_1)).wr W_91 (Or.inr sz_1)).wr W_102 (Or.inr sz_1))
        exact own_end X_102 e_102 (v := some (.ref b_1)) (fun h => by rw [Bd.returns] at h; cases h) hlk (fun fs hr => own_retA X_102 hx Bd.returns rfl rfl (hb hby d2_63) hr) (Q := Q_rmbo4 Z a0 a1 k dv x0 x1 x2 x3 x4 h0 n0) ⟨b_1, k_1, rfl, N_102, Kp_103, gg_1, sz_1, (Eq.mp (congrArg (fun z => Arv Z h_102 b_1 k_1 .int (4 : Int32) z (.int (0 : Int32))) (hv_100.symm.trans (own_bord_eq4 x0 x1 x2 x3 x4))) V_102)⟩ (by decide) (by decide)
def own_bord5 (x0 : Int32) (x1 : Int32) (x2 : Int32) (x3 : Int32) (x4 : Int32) : List Value := (if x1 = x0 then (if x2 = x1 then (if x3 = x2 then (if x4 = x3 then [(.int (0 : Int32)), (.int (1 : Int32)), (.int (2 : Int32)), (.int (3 : Int32)), (.int (4 : Int32))] else [(.int (0 : Int32)), (.int (1 : Int32)), (.int (2 : Int32)), (.int (3 : Int32)), (.int (0 : Int32))]) else (if x4 = x0 then [(.int (0 : Int32)), (.int (1 : Int32)), (.int (2 : Int32)), (.int (0 : Int32)), (.int (1 : Int32))] else [(.int (0 : Int32)), (.int (1 : Int32)), (.int (2 : Int32)), (.int (0 : Int32)), (.int (0 : Int32))])) else (if x3 = x0 then (if x4 = x1 then [(.int (0 : Int32)), (.int (1 : Int32)), (.int (0 : Int32)), (.int (1 : Int32)), (.int (2 : Int32))] else [(.int (0 : Int32)), (.int (1 : Int32)), (.int (0 : Int32)), (.int (1 : Int32)), (.int (0 : Int32))]) else (if x4 = x0 then [(.int (0 : Int32)), (.int (1 : Int32)), (.int (0 : Int32)), (.int (0 : Int32)), (.int (1 : Int32))] else [(.int (0 : Int32)), (.int (1 : Int32)), (.int (0 : Int32)), (.int (0 : Int32)), (.int (0 : Int32))]))) else (if x2 = x0 then (if x3 = x1 then (if x4 = x2 then [(.int (0 : Int32)), (.int (0 : Int32)), (.int (1 : Int32)), (.int (2 : Int32)), (.int (3 : Int32))] else [(.int (0 : Int32)), (.int (0 : Int32)), (.int (1 : Int32)), (.int (2 : Int32)), (.int (0 : Int32))]) else (if x3 = x0 then (if x4 = x1 then [(.int (0 : Int32)), (.int (0 : Int32)), (.int (1 : Int32)), (.int (1 : Int32)), (.int (2 : Int32))] else (if x4 = x0 then [(.int (0 : Int32)), (.int (0 : Int32)), (.int (1 : Int32)), (.int (1 : Int32)), (.int (1 : Int32))] else [(.int (0 : Int32)), (.int (0 : Int32)), (.int (1 : Int32)), (.int (1 : Int32)), (.int (0 : Int32))])) else (if x4 = x0 then [(.int (0 : Int32)), (.int (0 : Int32)), (.int (1 : Int32)), (.int (0 : Int32)), (.int (1 : Int32))] else [(.int (0 : Int32)), (.int (0 : Int32)), (.int (1 : Int32)), (.int (0 : Int32)), (.int (0 : Int32))]))) else (if x3 = x0 then (if x4 = x1 then [(.int (0 : Int32)), (.int (0 : Int32)), (.int (0 : Int32)), (.int (1 : Int32)), (.int (2 : Int32))] else (if x4 = x0 then [(.int (0 : Int32)), (.int (0 : Int32)), (.int (0 : Int32)), (.int (1 : Int32)), (.int (1 : Int32))] else [(.int (0 : Int32)), (.int (0 : Int32)), (.int (0 : Int32)), (.int (1 : Int32)), (.int (0 : Int32))])) else (if x4 = x0 then [(.int (0 : Int32)), (.int (0 : Int32)), (.int (0 : Int32)), (.int (0 : Int32)), (.int (1 : Int32))] else [(.int (0 : Int32)), (.int (0 : Int32)), (.int (0 : Int32)), (.int (0 : Int32)), (.int (0 : Int32))]))))
set_option maxHeartbeats 40000000 in
theorem own_bord_eq5 (x0 : Int32) (x1 : Int32) (x2 : Int32) (x3 : Int32) (x4 : Int32) : own_bord5 x0 x1 x2 x3 x4 = [(.int (own_ref1 x0 x1 x2 x3 x4)), (.int (own_ref2 x0 x1 x2 x3 x4)), (.int (own_ref3 x0 x1 x2 x3 x4)), (.int (own_ref4 x0 x1 x2 x3 x4)), (.int (own_ref5 x0 x1 x2 x3 x4))] := by
  have e : ∀ a b : Int32, (a = b) = (a.toInt = b.toInt) := fun a b => propext Int32.toInt_inj.symm
  simp only [own_bord5, own_ref1, own_ref2, own_ref3, own_ref4, own_ref5, own_eqz14, own_eqz23, own_eqz32, own_eqz41, own_eqz13, own_eqz22, own_eqz31, own_eqz12, own_eqz21, own_eqz11, ite_not]
  simp only [e x0 x1, e x0 x2, e x0 x3, e x0 x4, e x1 x0, e x1 x2, e x1 x3, e x1 x4, e x2 x0, e x2 x1, e x2 x3, e x2 x4, e x3 x0, e x3 x1, e x3 x2, e x3 x4, e x4 x0, e x4 x1, e x4 x2, e x4 x3]
  generalize x0.toInt = y0; generalize x1.toInt = y1; generalize x2.toInt = y2; generalize x3.toInt = y3; generalize x4.toInt = y4
  by_cases h1 : y1 = y0
  · rw [if_pos h1]
    by_cases h2 : y2 = y1
    · rw [if_pos h2]
      by_cases h3 : y3 = y2
      · rw [if_pos h3]
        by_cases h4 : y4 = y3
        · rw [if_pos h4]
          simp only [List.cons.injEq, Value.int.injEq, and_true, true_and]
          refine ⟨?_, ?_, ?_, ?_⟩ <;> (repeat' split) <;> first | rfl | (exfalso; omega)
        · rw [if_neg h4]
          simp only [List.cons.injEq, Value.int.injEq, and_true, true_and]
          refine ⟨?_, ?_, ?_, ?_⟩ <;> (repeat' split) <;> first | rfl | (exfalso; omega)
      · rw [if_neg h3]
        by_cases h4 : y4 = y0
        · rw [if_pos h4]
          simp only [List.cons.injEq, Value.int.injEq, and_true, true_and]
          refine ⟨?_, ?_, ?_, ?_⟩ <;> (repeat' split) <;> first | rfl | (exfalso; omega)
        · rw [if_neg h4]
          simp only [List.cons.injEq, Value.int.injEq, and_true, true_and]
          refine ⟨?_, ?_, ?_, ?_⟩ <;> (repeat' split) <;> first | rfl | (exfalso; omega)
    · rw [if_neg h2]
      by_cases h3 : y3 = y0
      · rw [if_pos h3]
        by_cases h4 : y4 = y1
        · rw [if_pos h4]
          simp only [List.cons.injEq, Value.int.injEq, and_true, true_and]
          refine ⟨?_, ?_, ?_, ?_⟩ <;> (repeat' split) <;> first | rfl | (exfalso; omega)
        · rw [if_neg h4]
          simp only [List.cons.injEq, Value.int.injEq, and_true, true_and]
          refine ⟨?_, ?_, ?_, ?_⟩ <;> (repeat' split) <;> first | rfl | (exfalso; omega)
      · rw [if_neg h3]
        by_cases h4 : y4 = y0
        · rw [if_pos h4]
          simp only [List.cons.injEq, Value.int.injEq, and_true, true_and]
          refine ⟨?_, ?_, ?_, ?_⟩ <;> (repeat' split) <;> first | rfl | (exfalso; omega)
        · rw [if_neg h4]
          simp only [List.cons.injEq, Value.int.injEq, and_true, true_and]
          refine ⟨?_, ?_, ?_, ?_⟩ <;> (repeat' split) <;> first | rfl | (exfalso; omega)
  · rw [if_neg h1]
    by_cases h2 : y2 = y0
    · rw [if_pos h2]
      by_cases h3 : y3 = y1
      · rw [if_pos h3]
        by_cases h4 : y4 = y2
        · rw [if_pos h4]
          simp only [List.cons.injEq, Value.int.injEq, and_true, true_and]
          refine ⟨?_, ?_, ?_, ?_⟩ <;> (repeat' split) <;> first | rfl | (exfalso; omega)
        · rw [if_neg h4]
          simp only [List.cons.injEq, Value.int.injEq, and_true, true_and]
          refine ⟨?_, ?_, ?_, ?_⟩ <;> (repeat' split) <;> first | rfl | (exfalso; omega)
      · rw [if_neg h3]
        by_cases h4 : y3 = y0
        · rw [if_pos h4]
          by_cases h5 : y4 = y1
          · rw [if_pos h5]
            simp only [List.cons.injEq, Value.int.injEq, and_true, true_and]
            refine ⟨?_, ?_, ?_, ?_⟩ <;> (repeat' split) <;> first | rfl | (exfalso; omega)
          · rw [if_neg h5]
            by_cases h6 : y4 = y0
            · rw [if_pos h6]
              simp only [List.cons.injEq, Value.int.injEq, and_true, true_and]
              refine ⟨?_, ?_, ?_, ?_⟩ <;> (repeat' split) <;> first | rfl | (exfalso; omega)
            · rw [if_neg h6]
              simp only [List.cons.injEq, Value.int.injEq, and_true, true_and]
              refine ⟨?_, ?_, ?_, ?_⟩ <;> (repeat' split) <;> first | rfl | (exfalso; omega)
        · rw [if_neg h4]
          by_cases h5 : y4 = y0
          · rw [if_pos h5]
            simp only [List.cons.injEq, Value.int.injEq, and_true, true_and]
            refine ⟨?_, ?_, ?_, ?_⟩ <;> (repeat' split) <;> first | rfl | (exfalso; omega)
          · rw [if_neg h5]
            simp only [List.cons.injEq, Value.int.injEq, and_true, true_and]
            refine ⟨?_, ?_, ?_, ?_⟩ <;> (repeat' split) <;> first | rfl | (exfalso; omega)
    · rw [if_neg h2]
      by_cases h3 : y3 = y0
      · rw [if_pos h3]
        by_cases h4 : y4 = y1
        · rw [if_pos h4]
          simp only [List.cons.injEq, Value.int.injEq, and_true, true_and]
          refine ⟨?_, ?_, ?_, ?_⟩ <;> (repeat' split) <;> first | rfl | (exfalso; omega)
        · rw [if_neg h4]
          by_cases h5 : y4 = y0
          · rw [if_pos h5]
            simp only [List.cons.injEq, Value.int.injEq, and_true, true_and]
            refine ⟨?_, ?_, ?_, ?_⟩ <;> (repeat' split) <;> first | rfl | (exfalso; omega)
          · rw [if_neg h5]
            simp only [List.cons.injEq, Value.int.injEq, and_true, true_and]
            refine ⟨?_, ?_, ?_, ?_⟩ <;> (repeat' split) <;> first | rfl | (exfalso; omega)
      · rw [if_neg h3]
        by_cases h4 : y4 = y0
        · rw [if_pos h4]
          simp only [List.cons.injEq, Value.int.injEq, and_true, true_and]
          refine ⟨?_, ?_, ?_, ?_⟩ <;> (repeat' split) <;> first | rfl | (exfalso; omega)
        · rw [if_neg h4]
          simp only [List.cons.injEq, Value.int.injEq, and_true, true_and]
          refine ⟨?_, ?_, ?_, ?_⟩ <;> (repeat' split) <;> first | rfl | (exfalso; omega)
theorem ef_rmbo5 (m : MethodId) (a1 : Addr) : entryFrame m #[(.ref a1), (.int (5 : Int32))] 5 = mkF m 0 #[rv a1, iv 5, .unset, .unset, .unset] [] := by first | (simp [entryFrame, mkF, argsToLocals, Value.category]; done) | rfl
def Q_rmbo5 (Z : State) (a0 : Array Value) (a1 : Addr) (k : ClassId) (dv : Value) (x0 : Int32) (x1 : Int32) (x2 : Int32) (x3 : Int32) (x4 : Int32) (h0 : Heap) (n0 : Nat) (v : Option Value) (h : Heap) (L : List Loc) : Prop := ∃ b : Addr, ∃ kB : ClassId, v = some (.ref b) ∧ Fr n0 L ∧ Keep h0 h [] ∧ n0 ≤ b ∧ h0.size ≤ b ∧ Arv Z h b kB .int (5 : Int32) [(.int (own_ref1 x0 x1 x2 x3 x4)), (.int (own_ref2 x0 x1 x2 x3 x4)), (.int (own_ref3 x0 x1 x2 x3 x4)), (.int (own_ref4 x0 x1 x2 x3 x4)), (.int (own_ref5 x0 x1 x2 x3 x4))] (.int (0 : Int32))
set_option maxRecDepth 65536 in
set_option maxHeartbeats 40000000 in
theorem rmbo5 (l : Launch) (Z : State) (a0 : Array Value) (hw : ∀ d ∈ tables_1, d.before a0 Z = true) (ws : List Jvm.Cond) (a1 : Addr) (k : ClassId) (dv : Value) (x0 : Int32) (x1 : Int32) (x2 : Int32) (x3 : Int32) (x4 : Int32) (h0 : Heap) (n0 : Nat) (Z0 : n0 ≤ h0.size) (V1 : Arv Z h0 a1 k .int (5 : Int32) [(.int x0), (.int x1), (.int x2), (.int x3), (.int x4)] dv) :
    MetFree l (⟨"com/example/ordinance/ordinance/policy/PartFinder", "borders", "([II)[I"⟩ : MethodName) (head1 (Jvm.Cond.code (⟨"com/example/ordinance/ordinance/policy/PartFinder", "borders", "([II)[I"⟩ : MethodName) prog_23_method_3_code 5 (some (.array .int)) :: ws) ({ frames := 0, cells := 1, slots := 5, locals := 0 } : Room)) (fun a U => a = #[(.ref a1), (.int (5 : Int32))] ∧ Z.Warmed39 U.vm ∧ U.heap = h0) (fun _ _ _ _ _ => True) (fun _ U o U' => ∃ v L, o = .returned v ∧ Q_rmbo5 Z a0 a1 k dv x0 x1 x2 x3 x4 h0 n0 v U'.heap L ∧ FrameEnd U o U' L ({ frames := 0, cells := 1, slots := 5, locals := 0 } : Room).cells ({ frames := 0, cells := 1, slots := 5, locals := 0 } : Room).slots) := by
  refine MetFree.of_bodySF (plainFor_of_name pn_2) hisR ?_
  intro p e s m args below meth c s₁ Bd hml0 hP hK
  obtain ⟨rfl, hZ, hh⟩ := hP
  have hx := Bd.exec
  have hby := Bd.bytes
  have hml : c.maxLocals = 5 := hml0
  have hown : s.vm.findClass "com/example/ordinance/ordinance/policy/PartFinder" = some m.cls := findClass_of_methodNamed Bd.named
  have hnm := (name_of_methodNamed Bd.named Bd.method).1
  have hlk : meth.locks = false := BodyLoose.notSynchronized (by assumption)
  have X0 : Stand p l e ({ frames := 0, cells := 1, slots := 5, locals := 0 } : Room) s m #[(.ref a1), (.int (5 : Int32))] below meth c s₁ [] 0 0 := Stand.of_body Bd
  have e0 : s₁.heap = h0 := by rw [← hh, Bd.state]; rfl
  have N0 := Fr.nil n0
  show own_Go p.tables e below (fun o U' => ∃ v L, o = .returned v ∧ Q_rmbo5 Z a0 a1 k dv x0 x1 x2 x3 x4 h0 n0 v U'.heap L ∧ FrameEnd s o U' L ({ frames := 0, cells := 1, slots := 5, locals := 0 } : Room).cells ({ frames := 0, cells := 1, slots := 5, locals := 0 } : Room).slots) (s₁.setTop (entryFrame m #[(.ref a1), (.int (5 : Int32))] 5))
  refine own_st (fun t k => castTop (ef_rmbo5 m a1) k) ?_
  have hv : own_bord5 x0 x1 x2 x3 x4 = (if x1 = x0 then (if x2 = x1 then (if x3 = x2 then (if x4 = x3 then [(.int (0 : Int32)), (.int (1 : Int32)), (.int (2 : Int32)), (.int (3 : Int32)), (.int (4 : Int32))] else [(.int (0 : Int32)), (.int (1 : Int32)), (.int (2 : Int32)), (.int (3 : Int32)), (.int (0 : Int32))]) else (if x4 = x0 then [(.int (0 : Int32)), (.int (1 : Int32)), (.int (2 : Int32)), (.int (0 : Int32)), (.int (1 : Int32))] else [(.int (0 : Int32)), (.int (1 : Int32)), (.int (2 : Int32)), (.int (0 : Int32)), (.int (0 : Int32))])) else (if x3 = x0 then (if x4 = x1 then [(.int (0 : Int32)), (.int (1 : Int32)), (.int (0 : Int32)), (.int (1 : Int32)), (.int (2 : Int32))] else [(.int (0 : Int32)), (.int (1 : Int32)), (.int (0 : Int32)), (.int (1 : Int32)), (.int (0 : Int32))]) else (if x4 = x0 then [(.int (0 : Int32)), (.int (1 : Int32)), (.int (0 : Int32)), (.int (0 : Int32)), (.int (1 : Int32))] else [(.int (0 : Int32)), (.int (1 : Int32)), (.int (0 : Int32)), (.int (0 : Int32)), (.int (0 : Int32))]))) else (if x2 = x0 then (if x3 = x1 then (if x4 = x2 then [(.int (0 : Int32)), (.int (0 : Int32)), (.int (1 : Int32)), (.int (2 : Int32)), (.int (3 : Int32))] else [(.int (0 : Int32)), (.int (0 : Int32)), (.int (1 : Int32)), (.int (2 : Int32)), (.int (0 : Int32))]) else (if x3 = x0 then (if x4 = x1 then [(.int (0 : Int32)), (.int (0 : Int32)), (.int (1 : Int32)), (.int (1 : Int32)), (.int (2 : Int32))] else (if x4 = x0 then [(.int (0 : Int32)), (.int (0 : Int32)), (.int (1 : Int32)), (.int (1 : Int32)), (.int (1 : Int32))] else [(.int (0 : Int32)), (.int (0 : Int32)), (.int (1 : Int32)), (.int (1 : Int32)), (.int (0 : Int32))])) else (if x4 = x0 then [(.int (0 : Int32)), (.int (0 : Int32)), (.int (1 : Int32)), (.int (0 : Int32)), (.int (1 : Int32))] else [(.int (0 : Int32)), (.int (0 : Int32)), (.int (1 : Int32)), (.int (0 : Int32)), (.int (0 : Int32))]))) else (if x3 = x0 then (if x4 = x1 then [(.int (0 : Int32)), (.int (0 : Int32)), (.int (0 : Int32)), (.int (1 : Int32)), (.int (2 : Int32))] else (if x4 = x0 then [(.int (0 : Int32)), (.int (0 : Int32)), (.int (0 : Int32)), (.int (1 : Int32)), (.int (1 : Int32))] else [(.int (0 : Int32)), (.int (0 : Int32)), (.int (0 : Int32)), (.int (1 : Int32)), (.int (0 : Int32))])) else (if x4 = x0 then [(.int (0 : Int32)), (.int (0 : Int32)), (.int (0 : Int32)), (.int (0 : Int32)), (.int (1 : Int32))] else [(.int (0 : Int32)), (.int (0 : Int32)), (.int (0 : Int32)), (.int (0 : Int32)), (.int (0 : Int32))])))) := rfl
  show own_Go _ _ _ _ (s₁.setTop (mkF m 0 #[rv a1, iv 5, .unset, .unset, .unset] []))
  refine o_iloadN X0 hx (hb hby d2_0) rfl ?_
  obtain ⟨T_1, h_1, k_1, X_1, e_1, E_1, A_1, st_1⟩ := newP X0 hx hZ (hw _ (List.mem_of_getElem? (i := 0) rfl)) e0 (g := (mkF m 1 #[rv a1, iv 5, .unset, .unset, .unset] [(.int 5)])) rfl (hb hby d2_1) rfl (by decide) (cap := 5) (by decide) (by decide) (by decide) (by decide)
  obtain ⟨b_1, g_1⟩ : ∃ z, z = h0.size := ⟨_, rfl⟩
  rw [← g_1] at A_1 st_1
  have V_1 : Arv Z h_1 b_1 k_1 .int (5 : Int32) [(.int (0 : Int32)), (.int (0 : Int32)), (.int (0 : Int32)), (.int (0 : Int32)), (.int (0 : Int32))] (.int (0 : Int32)) := (Arv.new A_1 (by decide)).pad (pad_rep [] (.int (0 : Int32)) 5)
  have gg_1 : n0 ≤ b_1 := Nat.le_trans Z0 (Nat.le_of_eq g_1.symm)
  have sz_1 : h0.size ≤ b_1 := Nat.le_trans (Keep.refl h0 []).1 (Nat.le_of_eq g_1.symm)
  refine own_st st_1 ?_
  show own_Go _ _ _ _ (T_1.setTop (mkF m 3 #[rv a1, iv 5, .unset, .unset, .unset] [(.ref b_1)]))
  refine o_astoreN X_1 hx (hb hby d2_3) rfl (l' := #[rv a1, iv 5, rv b_1, .unset, .unset]) rfl ?_
  refine o_iconst X_1 hx 0 (hb hby d2_4) rfl ?_
  refine o_istoreN X_1 hx (hb hby d2_5) (l' := #[rv a1, iv 5, rv b_1, iv 0, .unset]) rfl ?_
  refine o_iconst X_1 hx 1 (hb hby d2_6) rfl ?_
  refine o_istore X_1 hx (hb hby d2_7) (l' := #[rv a1, iv 5, rv b_1, iv 0, iv 1]) rfl ?_
  refine o_iload X_1 hx (hb hby d2_9) rfl ?_
  refine o_iloadN X_1 hx (hb hby d2_11) rfl ?_
  refine o_icmpNo X_1 hx (hb hby d2_12) (tlt (by decide : (1 : Int32) < (5 : Int32))).2.1 ?_
  refine o_iloadN X_1 hx (hb hby d2_15) rfl ?_
  refine o_ifYes X_1 hx (pc' := 38) (hb hby d2_16) (flt (by decide : ¬ ((0 : Int32) < (0 : Int32)))).2.2.2 (by decide) (by decide) ?_
  refine o_aloadN X_1 hx (hb hby d2_38) rfl rfl ?_
  refine o_iload X_1 hx (hb hby d2_39) rfl ?_
  have Fa_2 := (V1.ext E_1)
  obtain ⟨cl_3, Ar_3, qk_3, Sz_3, Ng_3, Hs_3, Gs_3⟩ := id Fa_2
  refine own_st (X_1.iaload hx (j := (1 : Int32)) (v := (.int x1)) (by rw [e_1]; exact Ar_3.1) (State.isArrayOf_alike hZ.alike Ar_3.2.1) Ar_3.2.2 (inb_of Sz_3 ⟨by decide, by decide⟩) (Hs_3.at (j := (1 : Int32)) (inb_of Sz_3 ⟨by decide, by decide⟩) rfl) (g := (mkF m 41 #[rv a1, iv 5, rv b_1, iv 0, iv 1] [(.int 1), (.ref a1)])) rfl rfl (hb hby d2_41)) ?_
  show own_Go _ _ _ _ (T_1.setTop (mkF m 42 #[rv a1, iv 5, rv b_1, iv 0, iv 1] [(.int x1)]))
  refine o_aloadN X_1 hx (hb hby d2_42) rfl rfl ?_
  refine o_iloadN X_1 hx (hb hby d2_43) rfl ?_
  obtain ⟨cl_4, Ar_4, qk_4, Sz_4, Ng_4, Hs_4, Gs_4⟩ := id Fa_2
  refine own_st (X_1.iaload hx (j := (0 : Int32)) (v := (.int x0)) (by rw [e_1]; exact Ar_4.1) (State.isArrayOf_alike hZ.alike Ar_4.2.1) Ar_4.2.2 (inb_of Sz_4 ⟨by decide, by decide⟩) (Hs_4.at (j := (0 : Int32)) (inb_of Sz_4 ⟨by decide, by decide⟩) rfl) (g := (mkF m 44 #[rv a1, iv 5, rv b_1, iv 0, iv 1] [(.int 0), (.ref a1), (.int x1)])) rfl rfl (hb hby d2_44)) ?_
  show own_Go _ _ _ _ (T_1.setTop (mkF m 45 #[rv a1, iv 5, rv b_1, iv 0, iv 1] [(.int x0), (.int x1)]))
  by_cases hc45__5 : x1 = x0
  · have hv_6 := hv.trans (if_pos hc45__5)
    refine o_icmpNo X_1 hx (hb hby d2_45) (teq hc45__5).2 ?_
    refine o_iinc X_1 hx (hb hby d2_48) rfl (l' := #[rv a1, iv 5, rv b_1, iv 1, iv 1]) rfl ?_
    refine o_aloadN X_1 hx (hb hby d2_51) rfl rfl ?_
    refine o_iload X_1 hx (hb hby d2_52) rfl ?_
    refine o_iloadN X_1 hx (hb hby d2_54) rfl ?_
    obtain ⟨cl_7, Ar_7, qk_7, Sz_7, Ng_7, Hs_7, Gs_7⟩ := id V_1
    obtain ⟨T_8, h_8, X_8, e_8, W_8, st_8⟩ := stI X_1 hx hZ e_1 Ar_7 (j := (1 : Int32)) (inb_of Sz_7 ⟨by decide, by decide⟩) (g := (mkF m 55 #[rv a1, iv 5, rv b_1, iv 1, iv 1] [(.int 1), (.int 1), (.ref b_1)])) rfl rfl (hb hby d2_55)
    refine own_st st_8 ?_
    have V_8 : Arv Z h_8 b_1 k_1 .int (5 : Int32) [(.int (0 : Int32)), (.int (1 : Int32)), (.int (0 : Int32)), (.int (0 : Int32)), (.int (0 : Int32))] (.int (0 : Int32)) := Arv.set Ar_7 qk_7 Sz_7 Ng_7 Hs_7 Gs_7 rfl W_8 1 rfl (Nat.le_of_ble_eq_true rfl)
    have N_8 := Fr.snoc X_8 N0 gg_1
    show own_Go _ _ _ _ (T_8.setTop (mkF m 56 #[rv a1, iv 5, rv b_1, iv 1, iv 1] []))
    refine o_iinc X_8 hx (hb hby d2_56) rfl (l' := #[rv a1, iv 5, rv b_1, iv 1, iv 2]) rfl ?_
    refine o_goto X_8 hx (pc' := 9) (hb hby d2_59) (by decide) (by decide) ?_
    refine o_iload X_8 hx (hb hby d2_9) rfl ?_
    refine o_iloadN X_8 hx (hb hby d2_11) rfl ?_
    refine o_icmpNo X_8 hx (hb hby d2_12) (tlt (by decide : (2 : Int32) < (5 : Int32))).2.1 ?_
    refine o_iloadN X_8 hx (hb hby d2_15) rfl ?_
    refine o_ifNo X_8 hx (hb hby d2_16) (tlt (by decide : (0 : Int32) < (1 : Int32))).2.2.2 ?_
    refine o_aloadN X_8 hx (hb hby d2_19) rfl rfl ?_
    refine o_iload X_8 hx (hb hby d2_20) rfl ?_
    have Fa_9 := (Fa_2.other W_8 (Nat.ne_of_lt (Nat.lt_of_lt_of_le V1.lt (Nat.le_of_eq g_1.symm))))
    obtain ⟨cl_10, Ar_10, qk_10, Sz_10, Ng_10, Hs_10, Gs_10⟩ := id Fa_9
    refine own_st (X_8.iaload hx (j := (2 : Int32)) (v := (.int x2)) (by rw [e_8]; exact Ar_10.1) (State.isArrayOf_alike hZ.alike Ar_10.2.1) Ar_10.2.2 (inb_of Sz_10 ⟨by decide, by decide⟩) (Hs_10.at (j := (2 : Int32)) (inb_of Sz_10 ⟨by decide, by decide⟩) rfl) (g := (mkF m 22 #[rv a1, iv 5, rv b_1, iv 1, iv 2] [(.int 2), (.ref a1)])) rfl rfl (hb hby d2_22)) ?_
    show own_Go _ _ _ _ (T_8.setTop (mkF m 23 #[rv a1, iv 5, rv b_1, iv 1, iv 2] [(.int x2)]))
    refine o_aloadN X_8 hx (hb hby d2_23) rfl rfl ?_
    refine o_iloadN X_8 hx (hb hby d2_24) rfl ?_
    obtain ⟨cl_11, Ar_11, qk_11, Sz_11, Ng_11, Hs_11, Gs_11⟩ := id Fa_9
    refine own_st (X_8.iaload hx (j := (1 : Int32)) (v := (.int x1)) (by rw [e_8]; exact Ar_11.1) (State.isArrayOf_alike hZ.alike Ar_11.2.1) Ar_11.2.2 (inb_of Sz_11 ⟨by decide, by decide⟩) (Hs_11.at (j := (1 : Int32)) (inb_of Sz_11 ⟨by decide, by decide⟩) rfl) (g := (mkF m 25 #[rv a1, iv 5, rv b_1, iv 1, iv 2] [(.int 1), (.ref a1), (.int x2)])) rfl rfl (hb hby d2_25)) ?_
    show own_Go _ _ _ _ (T_8.setTop (mkF m 26 #[rv a1, iv 5, rv b_1, iv 1, iv 2] [(.int x1), (.int x2)]))
    by_cases hc26__12 : x2 = x1
    · have hv_13 := hv_6.trans (if_pos hc26__12)
      refine o_icmpYes X_8 hx (pc' := 38) (hb hby d2_26) (teq hc26__12).1 (by decide) (by decide) ?_
      refine o_aloadN X_8 hx (hb hby d2_38) rfl rfl ?_
      refine o_iload X_8 hx (hb hby d2_39) rfl ?_
      obtain ⟨cl_14, Ar_14, qk_14, Sz_14, Ng_14, Hs_14, Gs_14⟩ := id Fa_9
      refine own_st (X_8.iaload hx (j := (2 : Int32)) (v := (.int x2)) (by rw [e_8]; exact Ar_14.1) (State.isArrayOf_alike hZ.alike Ar_14.2.1) Ar_14.2.2 (inb_of Sz_14 ⟨by decide, by decide⟩) (Hs_14.at (j := (2 : Int32)) (inb_of Sz_14 ⟨by decide, by decide⟩) rfl) (g := (mkF m 41 #[rv a1, iv 5, rv b_1, iv 1, iv 2] [(.int 2), (.ref a1)])) rfl rfl (hb hby d2_41)) ?_
      show own_Go _ _ _ _ (T_8.setTop (mkF m 42 #[rv a1, iv 5, rv b_1, iv 1, iv 2] [(.int x2)]))
      refine o_aloadN X_8 hx (hb hby d2_42) rfl rfl ?_
      refine o_iloadN X_8 hx (hb hby d2_43) rfl ?_
      obtain ⟨cl_15, Ar_15, qk_15, Sz_15, Ng_15, Hs_15, Gs_15⟩ := id Fa_9
      refine own_st (X_8.iaload hx (j := (1 : Int32)) (v := (.int x1)) (by rw [e_8]; exact Ar_15.1) (State.isArrayOf_alike hZ.alike Ar_15.2.1) Ar_15.2.2 (inb_of Sz_15 ⟨by decide, by decide⟩) (Hs_15.at (j := (1 : Int32)) (inb_of Sz_15 ⟨by decide, by decide⟩) rfl) (g := (mkF m 44 #[rv a1, iv 5, rv b_1, iv 1, iv 2] [(.int 1), (.ref a1), (.int x2)])) rfl rfl (hb hby d2_44)) ?_
      show own_Go _ _ _ _ (T_8.setTop (mkF m 45 #[rv a1, iv 5, rv b_1, iv 1, iv 2] [(.int x1), (.int x2)]))
      refine o_icmpNo X_8 hx (hb hby d2_45) (teq hc26__12).2 ?_
      refine o_iinc X_8 hx (hb hby d2_48) rfl (l' := #[rv a1, iv 5, rv b_1, iv 2, iv 2]) rfl ?_
      refine o_aloadN X_8 hx (hb hby d2_51) rfl rfl ?_
      refine o_iload X_8 hx (hb hby d2_52) rfl ?_
      refine o_iloadN X_8 hx (hb hby d2_54) rfl ?_
      obtain ⟨cl_16, Ar_16, qk_16, Sz_16, Ng_16, Hs_16, Gs_16⟩ := id V_8
      obtain ⟨T_17, h_17, X_17, e_17, W_17, st_17⟩ := stI X_8 hx hZ e_8 Ar_16 (j := (2 : Int32)) (inb_of Sz_16 ⟨by decide, by decide⟩) (g := (mkF m 55 #[rv a1, iv 5, rv b_1, iv 2, iv 2] [(.int 2), (.int 2), (.ref b_1)])) rfl rfl (hb hby d2_55)
      refine own_st st_17 ?_
      have V_17 : Arv Z h_17 b_1 k_1 .int (5 : Int32) [(.int (0 : Int32)), (.int (1 : Int32)), (.int (2 : Int32)), (.int (0 : Int32)), (.int (0 : Int32))] (.int (0 : Int32)) := Arv.set Ar_16 qk_16 Sz_16 Ng_16 Hs_16 Gs_16 rfl W_17 2 rfl (Nat.le_of_ble_eq_true rfl)
      have N_17 := Fr.snoc X_17 N_8 gg_1
      show own_Go _ _ _ _ (T_17.setTop (mkF m 56 #[rv a1, iv 5, rv b_1, iv 2, iv 2] []))
      refine o_iinc X_17 hx (hb hby d2_56) rfl (l' := #[rv a1, iv 5, rv b_1, iv 2, iv 3]) rfl ?_
      refine o_goto X_17 hx (pc' := 9) (hb hby d2_59) (by decide) (by decide) ?_
      refine o_iload X_17 hx (hb hby d2_9) rfl ?_
      refine o_iloadN X_17 hx (hb hby d2_11) rfl ?_
      refine o_icmpNo X_17 hx (hb hby d2_12) (tlt (by decide : (3 : Int32) < (5 : Int32))).2.1 ?_
      refine o_iloadN X_17 hx (hb hby d2_15) rfl ?_
      refine o_ifNo X_17 hx (hb hby d2_16) (tlt (by decide : (0 : Int32) < (2 : Int32))).2.2.2 ?_
      refine o_aloadN X_17 hx (hb hby d2_19) rfl rfl ?_
      refine o_iload X_17 hx (hb hby d2_20) rfl ?_
      have Fa_18 := (Fa_9.other W_17 (Nat.ne_of_lt (Nat.lt_of_lt_of_le V1.lt (Nat.le_of_eq g_1.symm))))
      obtain ⟨cl_19, Ar_19, qk_19, Sz_19, Ng_19, Hs_19, Gs_19⟩ := id Fa_18
      refine own_st (X_17.iaload hx (j := (3 : Int32)) (v := (.int x3)) (by rw [e_17]; exact Ar_19.1) (State.isArrayOf_alike hZ.alike Ar_19.2.1) Ar_19.2.2 (inb_of Sz_19 ⟨by decide, by decide⟩) (Hs_19.at (j := (3 : Int32)) (inb_of Sz_19 ⟨by decide, by decide⟩) rfl) (g := (mkF m 22 #[rv a1, iv 5, rv b_1, iv 2, iv 3] [(.int 3), (.ref a1)])) rfl rfl (hb hby d2_22)) ?_
      show own_Go _ _ _ _ (T_17.setTop (mkF m 23 #[rv a1, iv 5, rv b_1, iv 2, iv 3] [(.int x3)]))
      refine o_aloadN X_17 hx (hb hby d2_23) rfl rfl ?_
      refine o_iloadN X_17 hx (hb hby d2_24) rfl ?_
      obtain ⟨cl_20, Ar_20, qk_20, Sz_20, Ng_20, Hs_20, Gs_20⟩ := id Fa_18
      refine own_st (X_17.iaload hx (j := (2 : Int32)) (v := (.int x2)) (by rw [e_17]; exact Ar_20.1) (State.isArrayOf_alike hZ.alike Ar_20.2.1) Ar_20.2.2 (inb_of Sz_20 ⟨by decide, by decide⟩) (Hs_20.at (j := (2 : Int32)) (inb_of Sz_20 ⟨by decide, by decide⟩) rfl) (g := (mkF m 25 #[rv a1, iv 5, rv b_1, iv 2, iv 3] [(.int 2), (.ref a1), (.int x3)])) rfl rfl (hb hby d2_25)) ?_
      show own_Go _ _ _ _ (T_17.setTop (mkF m 26 #[rv a1, iv 5, rv b_1, iv 2, iv 3] [(.int x2), (.int x3)]))
      by_cases hc26__21 : x3 = x2
      · have hv_22 := hv_13.trans (if_pos hc26__21)
        refine o_icmpYes X_17 hx (pc' := 38) (hb hby d2_26) (teq hc26__21).1 (by decide) (by decide) ?_
        refine o_aloadN X_17 hx (hb hby d2_38) rfl rfl ?_
        refine o_iload X_17 hx (hb hby d2_39) rfl ?_
        obtain ⟨cl_23, Ar_23, qk_23, Sz_23, Ng_23, Hs_23, Gs_23⟩ := id Fa_18
        refine own_st (X_17.iaload hx (j := (3 : Int32)) (v := (.int x3)) (by rw [e_17]; exact Ar_23.1) (State.isArrayOf_alike hZ.alike Ar_23.2.1) Ar_23.2.2 (inb_of Sz_23 ⟨by decide, by decide⟩) (Hs_23.at (j := (3 : Int32)) (inb_of Sz_23 ⟨by decide, by decide⟩) rfl) (g := (mkF m 41 #[rv a1, iv 5, rv b_1, iv 2, iv 3] [(.int 3), (.ref a1)])) rfl rfl (hb hby d2_41)) ?_
        show own_Go _ _ _ _ (T_17.setTop (mkF m 42 #[rv a1, iv 5, rv b_1, iv 2, iv 3] [(.int x3)]))
        refine o_aloadN X_17 hx (hb hby d2_42) rfl rfl ?_
        refine o_iloadN X_17 hx (hb hby d2_43) rfl ?_
        obtain ⟨cl_24, Ar_24, qk_24, Sz_24, Ng_24, Hs_24, Gs_24⟩ := id Fa_18
        refine own_st (X_17.iaload hx (j := (2 : Int32)) (v := (.int x2)) (by rw [e_17]; exact Ar_24.1) (State.isArrayOf_alike hZ.alike Ar_24.2.1) Ar_24.2.2 (inb_of Sz_24 ⟨by decide, by decide⟩) (Hs_24.at (j := (2 : Int32)) (inb_of Sz_24 ⟨by decide, by decide⟩) rfl) (g := (mkF m 44 #[rv a1, iv 5, rv b_1, iv 2, iv 3] [(.int 2), (.ref a1), (.int x3)])) rfl rfl (hb hby d2_44)) ?_
        show own_Go _ _ _ _ (T_17.setTop (mkF m 45 #[rv a1, iv 5, rv b_1, iv 2, iv 3] [(.int x2), (.int x3)]))
        refine o_icmpNo X_17 hx (hb hby d2_45) (teq hc26__21).2 ?_
        refine o_iinc X_17 hx (hb hby d2_48) rfl (l' := #[rv a1, iv 5, rv b_1, iv 3, iv 3]) rfl ?_
        refine o_aloadN X_17 hx (hb hby d2_51) rfl rfl ?_
        refine o_iload X_17 hx (hb hby d2_52) rfl ?_
        refine o_iloadN X_17 hx (hb hby d2_54) rfl ?_
        obtain ⟨cl_25, Ar_25, qk_25, Sz_25, Ng_25, Hs_25, Gs_25⟩ := id V_17
        obtain ⟨T_26, h_26, X_26, e_26, W_26, st_26⟩ := stI X_17 hx hZ e_17 Ar_25 (j := (3 : Int32)) (inb_of Sz_25 ⟨by decide, by decide⟩) (g := (mkF m 55 #[rv a1, iv 5, rv b_1, iv 3, iv 3] [(.int 3), (.int 3), (.ref b_1)])) rfl rfl (hb hby d2_55)
        refine own_st st_26 ?_
        have V_26 : Arv Z h_26 b_1 k_1 .int (5 : Int32) [(.int (0 : Int32)), (.int (1 : Int32)), (.int (2 : Int32)), (.int (3 : Int32)), (.int (0 : Int32))] (.int (0 : Int32)) := Arv.set Ar_25 qk_25 Sz_25 Ng_25 Hs_25 Gs_25 rfl W_26 3 rfl (Nat.le_of_ble_eq_true rfl)
        have N_26 := Fr.snoc X_26 N_17 gg_1
        show own_Go _ _ _ _ (T_26.setTop (mkF m 56 #[rv a1, iv 5, rv b_1, iv 3, iv 3] []))
        refine o_iinc X_26 hx (hb hby d2_56) rfl (l' := #[rv a1, iv 5, rv b_1, iv 3, iv 4]) rfl ?_
        refine o_goto X_26 hx (pc' := 9) (hb hby d2_59) (by decide) (by decide) ?_
        refine o_iload X_26 hx (hb hby d2_9) rfl ?_
        refine o_iloadN X_26 hx (hb hby d2_11) rfl ?_
        refine o_icmpNo X_26 hx (hb hby d2_12) (tlt (by decide : (4 : Int32) < (5 : Int32))).2.1 ?_
        refine o_iloadN X_26 hx (hb hby d2_15) rfl ?_
        refine o_ifNo X_26 hx (hb hby d2_16) (tlt (by decide : (0 : Int32) < (3 : Int32))).2.2.2 ?_
        refine o_aloadN X_26 hx (hb hby d2_19) rfl rfl ?_
        refine o_iload X_26 hx (hb hby d2_20) rfl ?_
        have Fa_27 := (Fa_18.other W_26 (Nat.ne_of_lt (Nat.lt_of_lt_of_le V1.lt (Nat.le_of_eq g_1.symm))))
        obtain ⟨cl_28, Ar_28, qk_28, Sz_28, Ng_28, Hs_28, Gs_28⟩ := id Fa_27
        refine own_st (X_26.iaload hx (j := (4 : Int32)) (v := (.int x4)) (by rw [e_26]; exact Ar_28.1) (State.isArrayOf_alike hZ.alike Ar_28.2.1) Ar_28.2.2 (inb_of Sz_28 ⟨by decide, by decide⟩) (Hs_28.at (j := (4 : Int32)) (inb_of Sz_28 ⟨by decide, by decide⟩) rfl) (g := (mkF m 22 #[rv a1, iv 5, rv b_1, iv 3, iv 4] [(.int 4), (.ref a1)])) rfl rfl (hb hby d2_22)) ?_
        show own_Go _ _ _ _ (T_26.setTop (mkF m 23 #[rv a1, iv 5, rv b_1, iv 3, iv 4] [(.int x4)]))
        refine o_aloadN X_26 hx (hb hby d2_23) rfl rfl ?_
        refine o_iloadN X_26 hx (hb hby d2_24) rfl ?_
        obtain ⟨cl_29, Ar_29, qk_29, Sz_29, Ng_29, Hs_29, Gs_29⟩ := id Fa_27
        refine own_st (X_26.iaload hx (j := (3 : Int32)) (v := (.int x3)) (by rw [e_26]; exact Ar_29.1) (State.isArrayOf_alike hZ.alike Ar_29.2.1) Ar_29.2.2 (inb_of Sz_29 ⟨by decide, by decide⟩) (Hs_29.at (j := (3 : Int32)) (inb_of Sz_29 ⟨by decide, by decide⟩) rfl) (g := (mkF m 25 #[rv a1, iv 5, rv b_1, iv 3, iv 4] [(.int 3), (.ref a1), (.int x4)])) rfl rfl (hb hby d2_25)) ?_
        show own_Go _ _ _ _ (T_26.setTop (mkF m 26 #[rv a1, iv 5, rv b_1, iv 3, iv 4] [(.int x3), (.int x4)]))
        by_cases hc26__30 : x4 = x3
        · have hv_31 := hv_22.trans (if_pos hc26__30)
          refine o_icmpYes X_26 hx (pc' := 38) (hb hby d2_26) (teq hc26__30).1 (by decide) (by decide) ?_
          refine o_aloadN X_26 hx (hb hby d2_38) rfl rfl ?_
          refine o_iload X_26 hx (hb hby d2_39) rfl ?_
          obtain ⟨cl_32, Ar_32, qk_32, Sz_32, Ng_32, Hs_32, Gs_32⟩ := id Fa_27
          refine own_st (X_26.iaload hx (j := (4 : Int32)) (v := (.int x4)) (by rw [e_26]; exact Ar_32.1) (State.isArrayOf_alike hZ.alike Ar_32.2.1) Ar_32.2.2 (inb_of Sz_32 ⟨by decide, by decide⟩) (Hs_32.at (j := (4 : Int32)) (inb_of Sz_32 ⟨by decide, by decide⟩) rfl) (g := (mkF m 41 #[rv a1, iv 5, rv b_1, iv 3, iv 4] [(.int 4), (.ref a1)])) rfl rfl (hb hby d2_41)) ?_
          show own_Go _ _ _ _ (T_26.setTop (mkF m 42 #[rv a1, iv 5, rv b_1, iv 3, iv 4] [(.int x4)]))
          refine o_aloadN X_26 hx (hb hby d2_42) rfl rfl ?_
          refine o_iloadN X_26 hx (hb hby d2_43) rfl ?_
          obtain ⟨cl_33, Ar_33, qk_33, Sz_33, Ng_33, Hs_33, Gs_33⟩ := id Fa_27
          refine own_st (X_26.iaload hx (j := (3 : Int32)) (v := (.int x3)) (by rw [e_26]; exact Ar_33.1) (State.isArrayOf_alike hZ.alike Ar_33.2.1) Ar_33.2.2 (inb_of Sz_33 ⟨by decide, by decide⟩) (Hs_33.at (j := (3 : Int32)) (inb_of Sz_33 ⟨by decide, by decide⟩) rfl) (g := (mkF m 44 #[rv a1, iv 5, rv b_1, iv 3, iv 4] [(.int 3), (.ref a1), (.int x4)])) rfl rfl (hb hby d2_44)) ?_
          show own_Go _ _ _ _ (T_26.setTop (mkF m 45 #[rv a1, iv 5, rv b_1, iv 3, iv 4] [(.int x3), (.int x4)]))
          refine o_icmpNo X_26 hx (hb hby d2_45) (teq hc26__30).2 ?_
          refine o_iinc X_26 hx (hb hby d2_48) rfl (l' := #[rv a1, iv 5, rv b_1, iv 4, iv 4]) rfl ?_
          refine o_aloadN X_26 hx (hb hby d2_51) rfl rfl ?_
          refine o_iload X_26 hx (hb hby d2_52) rfl ?_
          refine o_iloadN X_26 hx (hb hby d2_54) rfl ?_
          obtain ⟨cl_34, Ar_34, qk_34, Sz_34, Ng_34, Hs_34, Gs_34⟩ := id V_26
          obtain ⟨T_35, h_35, X_35, e_35, W_35, st_35⟩ := stI X_26 hx hZ e_26 Ar_34 (j := (4 : Int32)) (inb_of Sz_34 ⟨by decide, by decide⟩) (g := (mkF m 55 #[rv a1, iv 5, rv b_1, iv 4, iv 4] [(.int 4), (.int 4), (.ref b_1)])) rfl rfl (hb hby d2_55)
          refine own_st st_35 ?_
          have V_35 : Arv Z h_35 b_1 k_1 .int (5 : Int32) [(.int (0 : Int32)), (.int (1 : Int32)), (.int (2 : Int32)), (.int (3 : Int32)), (.int (4 : Int32))] (.int (0 : Int32)) := Arv.set Ar_34 qk_34 Sz_34 Ng_34 Hs_34 Gs_34 rfl W_35 4 rfl (Nat.le_of_ble_eq_true rfl)
          have N_35 := Fr.snoc X_35 N_26 gg_1
          show own_Go _ _ _ _ (T_35.setTop (mkF m 56 #[rv a1, iv 5, rv b_1, iv 4, iv 4] []))
          refine o_iinc X_35 hx (hb hby d2_56) rfl (l' := #[rv a1, iv 5, rv b_1, iv 4, iv 5]) rfl ?_
          refine o_goto X_35 hx (pc' := 9) (hb hby d2_59) (by decide) (by decide) ?_
          refine o_iload X_35 hx (hb hby d2_9) rfl ?_
          refine o_iloadN X_35 hx (hb hby d2_11) rfl ?_
          refine o_icmpYes X_35 hx (pc' := 62) (hb hby d2_12) (flt (by decide : ¬ ((5 : Int32) < (5 : Int32)))).2.1 (by decide) (by decide) ?_
          refine o_aloadN X_35 hx (hb hby d2_62) rfl rfl ?_
          have Kp_36 : Keep h0 h_35 [] := ((((((Keep.refl h0 []).ext E_1).wr W_8 (Or.inr sz_1)).wr W_17 (Or.inr sz_1)).wr W_26 (Or.inr sz_1)).wr W_35 (Or.inr sz_1))
          exact own_end X_35 e_35 (v := some (.ref b_1)) (fun h => by rw [Bd.returns] at h; cases h) hlk (fun fs hr => own_retA X_35 hx Bd.returns rfl rfl (hb hby d2_63) hr) (Q := Q_rmbo5 Z a0 a1 k dv x0 x1 x2 x3 x4 h0 n0) ⟨b_1, k_1, rfl, N_35, Kp_36, gg_1, sz_1, (Eq.mp (congrArg (fun z => Arv Z h_35 b_1 k_1 .int (5 : Int32) z (.int (0 : Int32))) (hv_31.symm.trans (own_bord_eq5 x0 x1 x2 x3 x4))) V_35)⟩ (by decide) (by decide)
        · have hv_37 := hv_22.trans (if_neg hc26__30)
          refine o_icmpNo X_26 hx (hb hby d2_26) (feq hc26__30).1 ?_
          refine o_aloadN X_26 hx (hb hby d2_29) rfl rfl ?_
          refine o_iloadN X_26 hx (hb hby d2_30) rfl ?_
          refine o_iconst X_26 hx 1 (hb hby d2_31) rfl ?_
          refine o_isub X_26 hx (hb hby d2_32) ?_
          show own_Go _ _ _ _ (T_26.setTop (mkF m 33 #[rv a1, iv 5, rv b_1, iv 3, iv 4] [(.int 2), (.ref b_1)]))
          obtain ⟨cl_38, Ar_38, qk_38, Sz_38, Ng_38, Hs_38, Gs_38⟩ := id V_26
          refine own_st (X_26.iaload hx (j := (2 : Int32)) (v := (.int (2 : Int32))) (by rw [e_26]; exact Ar_38.1) (State.isArrayOf_alike hZ.alike Ar_38.2.1) Ar_38.2.2 (inb_of Sz_38 ⟨by decide, by decide⟩) (Hs_38.at (j := (2 : Int32)) (inb_of Sz_38 ⟨by decide, by decide⟩) rfl) (g := (mkF m 33 #[rv a1, iv 5, rv b_1, iv 3, iv 4] [(.int 2), (.ref b_1)])) rfl rfl (hb hby d2_33)) ?_
          show own_Go _ _ _ _ (T_26.setTop (mkF m 34 #[rv a1, iv 5, rv b_1, iv 3, iv 4] [(.int 2)]))
          refine o_istoreN X_26 hx (hb hby d2_34) (l' := #[rv a1, iv 5, rv b_1, iv 2, iv 4]) rfl ?_
          refine o_goto X_26 hx (pc' := 15) (hb hby d2_35) (by decide) (by decide) ?_
          refine o_iloadN X_26 hx (hb hby d2_15) rfl ?_
          refine o_ifNo X_26 hx (hb hby d2_16) (tlt (by decide : (0 : Int32) < (2 : Int32))).2.2.2 ?_
          refine o_aloadN X_26 hx (hb hby d2_19) rfl rfl ?_
          refine o_iload X_26 hx (hb hby d2_20) rfl ?_
          obtain ⟨cl_39, Ar_39, qk_39, Sz_39, Ng_39, Hs_39, Gs_39⟩ := id Fa_27
          refine own_st (X_26.iaload hx (j := (4 : Int32)) (v := (.int x4)) (by rw [e_26]; exact Ar_39.1) (State.isArrayOf_alike hZ.alike Ar_39.2.1) Ar_39.2.2 (inb_of Sz_39 ⟨by decide, by decide⟩) (Hs_39.at (j := (4 : Int32)) (inb_of Sz_39 ⟨by decide, by decide⟩) rfl) (g := (mkF m 22 #[rv a1, iv 5, rv b_1, iv 2, iv 4] [(.int 4), (.ref a1)])) rfl rfl (hb hby d2_22)) ?_
          show own_Go _ _ _ _ (T_26.setTop (mkF m 23 #[rv a1, iv 5, rv b_1, iv 2, iv 4] [(.int x4)]))
          refine o_aloadN X_26 hx (hb hby d2_23) rfl rfl ?_
          refine o_iloadN X_26 hx (hb hby d2_24) rfl ?_
          obtain ⟨cl_40, Ar_40, qk_40, Sz_40, Ng_40, Hs_40, Gs_40⟩ := id Fa_27
          refine own_st (X_26.iaload hx (j := (2 : Int32)) (v := (.int x2)) (by rw [e_26]; exact Ar_40.1) (State.isArrayOf_alike hZ.alike Ar_40.2.1) Ar_40.2.2 (inb_of Sz_40 ⟨by decide, by decide⟩) (Hs_40.at (j := (2 : Int32)) (inb_of Sz_40 ⟨by decide, by decide⟩) rfl) (g := (mkF m 25 #[rv a1, iv 5, rv b_1, iv 2, iv 4] [(.int 2), (.ref a1), (.int x4)])) rfl rfl (hb hby d2_25)) ?_
          show own_Go _ _ _ _ (T_26.setTop (mkF m 26 #[rv a1, iv 5, rv b_1, iv 2, iv 4] [(.int x2), (.int x4)]))
          refine o_icmpNo X_26 hx (hb hby d2_26) (feq (fun h => hc26__30 (h.trans hc26__21.symm))).1 ?_
          refine o_aloadN X_26 hx (hb hby d2_29) rfl rfl ?_
          refine o_iloadN X_26 hx (hb hby d2_30) rfl ?_
          refine o_iconst X_26 hx 1 (hb hby d2_31) rfl ?_
          refine o_isub X_26 hx (hb hby d2_32) ?_
          show own_Go _ _ _ _ (T_26.setTop (mkF m 33 #[rv a1, iv 5, rv b_1, iv 2, iv 4] [(.int 1), (.ref b_1)]))
          obtain ⟨cl_41, Ar_41, qk_41, Sz_41, Ng_41, Hs_41, Gs_41⟩ := id V_26
          refine own_st (X_26.iaload hx (j := (1 : Int32)) (v := (.int (1 : Int32))) (by rw [e_26]; exact Ar_41.1) (State.isArrayOf_alike hZ.alike Ar_41.2.1) Ar_41.2.2 (inb_of Sz_41 ⟨by decide, by decide⟩) (Hs_41.at (j := (1 : Int32)) (inb_of Sz_41 ⟨by decide, by decide⟩) rfl) (g := (mkF m 33 #[rv a1, iv 5, rv b_1, iv 2, iv 4] [(.int 1), (.ref b_1)])) rfl rfl (hb hby d2_33)) ?_
          show own_Go _ _ _ _ (T_26.setTop (mkF m 34 #[rv a1, iv 5, rv b_1, iv 2, iv 4] [(.int 1)]))
          refine o_istoreN X_26 hx (hb hby d2_34) (l' := #[rv a1, iv 5, rv b_1, iv 1, iv 4]) rfl ?_
          refine o_goto X_26 hx (pc' := 15) (hb hby d2_35) (by decide) (by decide) ?_
          refine o_iloadN X_26 hx (hb hby d2_15) rfl ?_
          refine o_ifNo X_26 hx (hb hby d2_16) (tlt (by decide : (0 : Int32) < (1 : Int32))).2.2.2 ?_
          refine o_aloadN X_26 hx (hb hby d2_19) rfl rfl ?_
          refine o_iload X_26 hx (hb hby d2_20) rfl ?_
          obtain ⟨cl_42, Ar_42, qk_42, Sz_42, Ng_42, Hs_42, Gs_42⟩ := id Fa_27
          refine own_st (X_26.iaload hx (j := (4 : Int32)) (v := (.int x4)) (by rw [e_26]; exact Ar_42.1) (State.isArrayOf_alike hZ.alike Ar_42.2.1) Ar_42.2.2 (inb_of Sz_42 ⟨by decide, by decide⟩) (Hs_42.at (j := (4 : Int32)) (inb_of Sz_42 ⟨by decide, by decide⟩) rfl) (g := (mkF m 22 #[rv a1, iv 5, rv b_1, iv 1, iv 4] [(.int 4), (.ref a1)])) rfl rfl (hb hby d2_22)) ?_
          show own_Go _ _ _ _ (T_26.setTop (mkF m 23 #[rv a1, iv 5, rv b_1, iv 1, iv 4] [(.int x4)]))
          refine o_aloadN X_26 hx (hb hby d2_23) rfl rfl ?_
          refine o_iloadN X_26 hx (hb hby d2_24) rfl ?_
          obtain ⟨cl_43, Ar_43, qk_43, Sz_43, Ng_43, Hs_43, Gs_43⟩ := id Fa_27
          refine own_st (X_26.iaload hx (j := (1 : Int32)) (v := (.int x1)) (by rw [e_26]; exact Ar_43.1) (State.isArrayOf_alike hZ.alike Ar_43.2.1) Ar_43.2.2 (inb_of Sz_43 ⟨by decide, by decide⟩) (Hs_43.at (j := (1 : Int32)) (inb_of Sz_43 ⟨by decide, by decide⟩) rfl) (g := (mkF m 25 #[rv a1, iv 5, rv b_1, iv 1, iv 4] [(.int 1), (.ref a1), (.int x4)])) rfl rfl (hb hby d2_25)) ?_
          show own_Go _ _ _ _ (T_26.setTop (mkF m 26 #[rv a1, iv 5, rv b_1, iv 1, iv 4] [(.int x1), (.int x4)]))
          refine o_icmpNo X_26 hx (hb hby d2_26) (feq (fun h => hc26__30 (h.trans (hc26__12.symm.trans hc26__21.symm)))).1 ?_
          refine o_aloadN X_26 hx (hb hby d2_29) rfl rfl ?_
          refine o_iloadN X_26 hx (hb hby d2_30) rfl ?_
          refine o_iconst X_26 hx 1 (hb hby d2_31) rfl ?_
          refine o_isub X_26 hx (hb hby d2_32) ?_
          show own_Go _ _ _ _ (T_26.setTop (mkF m 33 #[rv a1, iv 5, rv b_1, iv 1, iv 4] [(.int 0), (.ref b_1)]))
          obtain ⟨cl_44, Ar_44, qk_44, Sz_44, Ng_44, Hs_44, Gs_44⟩ := id V_26
          refine own_st (X_26.iaload hx (j := (0 : Int32)) (v := (.int (0 : Int32))) (by rw [e_26]; exact Ar_44.1) (State.isArrayOf_alike hZ.alike Ar_44.2.1) Ar_44.2.2 (inb_of Sz_44 ⟨by decide, by decide⟩) (Hs_44.at (j := (0 : Int32)) (inb_of Sz_44 ⟨by decide, by decide⟩) rfl) (g := (mkF m 33 #[rv a1, iv 5, rv b_1, iv 1, iv 4] [(.int 0), (.ref b_1)])) rfl rfl (hb hby d2_33)) ?_
          show own_Go _ _ _ _ (T_26.setTop (mkF m 34 #[rv a1, iv 5, rv b_1, iv 1, iv 4] [(.int 0)]))
          refine o_istoreN X_26 hx (hb hby d2_34) (l' := #[rv a1, iv 5, rv b_1, iv 0, iv 4]) rfl ?_
          refine o_goto X_26 hx (pc' := 15) (hb hby d2_35) (by decide) (by decide) ?_
          refine o_iloadN X_26 hx (hb hby d2_15) rfl ?_
          refine o_ifYes X_26 hx (pc' := 38) (hb hby d2_16) (flt (by decide : ¬ ((0 : Int32) < (0 : Int32)))).2.2.2 (by decide) (by decide) ?_
          refine o_aloadN X_26 hx (hb hby d2_38) rfl rfl ?_
          refine o_iload X_26 hx (hb hby d2_39) rfl ?_
          obtain ⟨cl_45, Ar_45, qk_45, Sz_45, Ng_45, Hs_45, Gs_45⟩ := id Fa_27
          refine own_st (X_26.iaload hx (j := (4 : Int32)) (v := (.int x4)) (by rw [e_26]; exact Ar_45.1) (State.isArrayOf_alike hZ.alike Ar_45.2.1) Ar_45.2.2 (inb_of Sz_45 ⟨by decide, by decide⟩) (Hs_45.at (j := (4 : Int32)) (inb_of Sz_45 ⟨by decide, by decide⟩) rfl) (g := (mkF m 41 #[rv a1, iv 5, rv b_1, iv 0, iv 4] [(.int 4), (.ref a1)])) rfl rfl (hb hby d2_41)) ?_
          show own_Go _ _ _ _ (T_26.setTop (mkF m 42 #[rv a1, iv 5, rv b_1, iv 0, iv 4] [(.int x4)]))
          refine o_aloadN X_26 hx (hb hby d2_42) rfl rfl ?_
          refine o_iloadN X_26 hx (hb hby d2_43) rfl ?_
          obtain ⟨cl_46, Ar_46, qk_46, Sz_46, Ng_46, Hs_46, Gs_46⟩ := id Fa_27
          refine own_st (X_26.iaload hx (j := (0 : Int32)) (v := (.int x0)) (by rw [e_26]; exact Ar_46.1) (State.isArrayOf_alike hZ.alike Ar_46.2.1) Ar_46.2.2 (inb_of Sz_46 ⟨by decide, by decide⟩) (Hs_46.at (j := (0 : Int32)) (inb_of Sz_46 ⟨by decide, by decide⟩) rfl) (g := (mkF m 44 #[rv a1, iv 5, rv b_1, iv 0, iv 4] [(.int 0), (.ref a1), (.int x4)])) rfl rfl (hb hby d2_44)) ?_
          show own_Go _ _ _ _ (T_26.setTop (mkF m 45 #[rv a1, iv 5, rv b_1, iv 0, iv 4] [(.int x0), (.int x4)]))
          refine o_icmpYes X_26 hx (pc' := 51) (hb hby d2_45) (feq (fun h => hc26__30 (h.trans ((hc45__5.symm.trans hc26__12.symm).trans hc26__21.symm)))).2 (by decide) (by decide) ?_
          refine o_aloadN X_26 hx (hb hby d2_51) rfl rfl ?_
          refine o_iload X_26 hx (hb hby d2_52) rfl ?_
          refine o_iloadN X_26 hx (hb hby d2_54) rfl ?_
          obtain ⟨cl_47, Ar_47, qk_47, Sz_47, Ng_47, Hs_47, Gs_47⟩ := id V_26
          obtain ⟨T_48, h_48, X_48, e_48, W_48, st_48⟩ := stI X_26 hx hZ e_26 Ar_47 (j := (4 : Int32)) (inb_of Sz_47 ⟨by decide, by decide⟩) (g := (mkF m 55 #[rv a1, iv 5, rv b_1, iv 0, iv 4] [(.int 0), (.int 4), (.ref b_1)])) rfl rfl (hb hby d2_55)
          refine own_st st_48 ?_
          have V_48 : Arv Z h_48 b_1 k_1 .int (5 : Int32) [(.int (0 : Int32)), (.int (1 : Int32)), (.int (2 : Int32)), (.int (3 : Int32)), (.int (0 : Int32))] (.int (0 : Int32)) := Arv.set Ar_47 qk_47 Sz_47 Ng_47 Hs_47 Gs_47 rfl W_48 4 rfl (Nat.le_of_ble_eq_true rfl)
          have N_48 := Fr.snoc X_48 N_26 gg_1
          show own_Go _ _ _ _ (T_48.setTop (mkF m 56 #[rv a1, iv 5, rv b_1, iv 0, iv 4] []))
          refine o_iinc X_48 hx (hb hby d2_56) rfl (l' := #[rv a1, iv 5, rv b_1, iv 0, iv 5]) rfl ?_
          refine o_goto X_48 hx (pc' := 9) (hb hby d2_59) (by decide) (by decide) ?_
          refine o_iload X_48 hx (hb hby d2_9) rfl ?_
          refine o_iloadN X_48 hx (hb hby d2_11) rfl ?_
          refine o_icmpYes X_48 hx (pc' := 62) (hb hby d2_12) (flt (by decide : ¬ ((5 : Int32) < (5 : Int32)))).2.1 (by decide) (by decide) ?_
          refine o_aloadN X_48 hx (hb hby d2_62) rfl rfl ?_
          have Kp_49 : Keep h0 h_48 [] := ((((((Keep.refl h0 []).ext E_1).wr W_8 (Or.inr sz_1)).wr W_17 (Or.inr sz_1)).wr W_26 (Or.inr sz_1)).wr W_48 (Or.inr sz_1))
          exact own_end X_48 e_48 (v := some (.ref b_1)) (fun h => by rw [Bd.returns] at h; cases h) hlk (fun fs hr => own_retA X_48 hx Bd.returns rfl rfl (hb hby d2_63) hr) (Q := Q_rmbo5 Z a0 a1 k dv x0 x1 x2 x3 x4 h0 n0) ⟨b_1, k_1, rfl, N_48, Kp_49, gg_1, sz_1, (Eq.mp (congrArg (fun z => Arv Z h_48 b_1 k_1 .int (5 : Int32) z (.int (0 : Int32))) (hv_37.symm.trans (own_bord_eq5 x0 x1 x2 x3 x4))) V_48)⟩ (by decide) (by decide)
      · have hv_50 := hv_13.trans (if_neg hc26__21)
        refine o_icmpNo X_17 hx (hb hby d2_26) (feq hc26__21).1 ?_
        refine o_aloadN X_17 hx (hb hby d2_29) rfl rfl ?_
        refine o_iloadN X_17 hx (hb hby d2_30) rfl ?_
        refine o_iconst X_17 hx 1 (hb hby d2_31) rfl ?_
        refine o_isub X_17 hx (hb hby d2_32) ?_
        show own_Go _ _ _ _ (T_17.setTop (mkF m 33 #[rv a1, iv 5, rv b_1, iv 2, iv 3] [(.int 1), (.ref b_1)]))
        obtain ⟨cl_51, Ar_51, qk_51, Sz_51, Ng_51, Hs_51, Gs_51⟩ := id V_17
        refine own_st (X_17.iaload hx (j := (1 : Int32)) (v := (.int (1 : Int32))) (by rw [e_17]; exact Ar_51.1) (State.isArrayOf_alike hZ.alike Ar_51.2.1) Ar_51.2.2 (inb_of Sz_51 ⟨by decide, by decide⟩) (Hs_51.at (j := (1 : Int32)) (inb_of Sz_51 ⟨by decide, by decide⟩) rfl) (g := (mkF m 33 #[rv a1, iv 5, rv b_1, iv 2, iv 3] [(.int 1), (.ref b_1)])) rfl rfl (hb hby d2_33)) ?_
        show own_Go _ _ _ _ (T_17.setTop (mkF m 34 #[rv a1, iv 5, rv b_1, iv 2, iv 3] [(.int 1)]))
        refine o_istoreN X_17 hx (hb hby d2_34) (l' := #[rv a1, iv 5, rv b_1, iv 1, iv 3]) rfl ?_
        refine o_goto X_17 hx (pc' := 15) (hb hby d2_35) (by decide) (by decide) ?_
        refine o_iloadN X_17 hx (hb hby d2_15) rfl ?_
        refine o_ifNo X_17 hx (hb hby d2_16) (tlt (by decide : (0 : Int32) < (1 : Int32))).2.2.2 ?_
        refine o_aloadN X_17 hx (hb hby d2_19) rfl rfl ?_
        refine o_iload X_17 hx (hb hby d2_20) rfl ?_
        obtain ⟨cl_52, Ar_52, qk_52, Sz_52, Ng_52, Hs_52, Gs_52⟩ := id Fa_18
        refine own_st (X_17.iaload hx (j := (3 : Int32)) (v := (.int x3)) (by rw [e_17]; exact Ar_52.1) (State.isArrayOf_alike hZ.alike Ar_52.2.1) Ar_52.2.2 (inb_of Sz_52 ⟨by decide, by decide⟩) (Hs_52.at (j := (3 : Int32)) (inb_of Sz_52 ⟨by decide, by decide⟩) rfl) (g := (mkF m 22 #[rv a1, iv 5, rv b_1, iv 1, iv 3] [(.int 3), (.ref a1)])) rfl rfl (hb hby d2_22)) ?_
        show own_Go _ _ _ _ (T_17.setTop (mkF m 23 #[rv a1, iv 5, rv b_1, iv 1, iv 3] [(.int x3)]))
        refine o_aloadN X_17 hx (hb hby d2_23) rfl rfl ?_
        refine o_iloadN X_17 hx (hb hby d2_24) rfl ?_
        obtain ⟨cl_53, Ar_53, qk_53, Sz_53, Ng_53, Hs_53, Gs_53⟩ := id Fa_18
        refine own_st (X_17.iaload hx (j := (1 : Int32)) (v := (.int x1)) (by rw [e_17]; exact Ar_53.1) (State.isArrayOf_alike hZ.alike Ar_53.2.1) Ar_53.2.2 (inb_of Sz_53 ⟨by decide, by decide⟩) (Hs_53.at (j := (1 : Int32)) (inb_of Sz_53 ⟨by decide, by decide⟩) rfl) (g := (mkF m 25 #[rv a1, iv 5, rv b_1, iv 1, iv 3] [(.int 1), (.ref a1), (.int x3)])) rfl rfl (hb hby d2_25)) ?_
        show own_Go _ _ _ _ (T_17.setTop (mkF m 26 #[rv a1, iv 5, rv b_1, iv 1, iv 3] [(.int x1), (.int x3)]))
        refine o_icmpNo X_17 hx (hb hby d2_26) (feq (fun h => hc26__21 (h.trans hc26__12.symm))).1 ?_
        refine o_aloadN X_17 hx (hb hby d2_29) rfl rfl ?_
        refine o_iloadN X_17 hx (hb hby d2_30) rfl ?_
        refine o_iconst X_17 hx 1 (hb hby d2_31) rfl ?_
        refine o_isub X_17 hx (hb hby d2_32) ?_
        show own_Go _ _ _ _ (T_17.setTop (mkF m 33 #[rv a1, iv 5, rv b_1, iv 1, iv 3] [(.int 0), (.ref b_1)]))
        obtain ⟨cl_54, Ar_54, qk_54, Sz_54, Ng_54, Hs_54, Gs_54⟩ := id V_17
        refine own_st (X_17.iaload hx (j := (0 : Int32)) (v := (.int (0 : Int32))) (by rw [e_17]; exact Ar_54.1) (State.isArrayOf_alike hZ.alike Ar_54.2.1) Ar_54.2.2 (inb_of Sz_54 ⟨by decide, by decide⟩) (Hs_54.at (j := (0 : Int32)) (inb_of Sz_54 ⟨by decide, by decide⟩) rfl) (g := (mkF m 33 #[rv a1, iv 5, rv b_1, iv 1, iv 3] [(.int 0), (.ref b_1)])) rfl rfl (hb hby d2_33)) ?_
        show own_Go _ _ _ _ (T_17.setTop (mkF m 34 #[rv a1, iv 5, rv b_1, iv 1, iv 3] [(.int 0)]))
        refine o_istoreN X_17 hx (hb hby d2_34) (l' := #[rv a1, iv 5, rv b_1, iv 0, iv 3]) rfl ?_
        refine o_goto X_17 hx (pc' := 15) (hb hby d2_35) (by decide) (by decide) ?_
        refine o_iloadN X_17 hx (hb hby d2_15) rfl ?_
        refine o_ifYes X_17 hx (pc' := 38) (hb hby d2_16) (flt (by decide : ¬ ((0 : Int32) < (0 : Int32)))).2.2.2 (by decide) (by decide) ?_
        refine o_aloadN X_17 hx (hb hby d2_38) rfl rfl ?_
        refine o_iload X_17 hx (hb hby d2_39) rfl ?_
        obtain ⟨cl_55, Ar_55, qk_55, Sz_55, Ng_55, Hs_55, Gs_55⟩ := id Fa_18
        refine own_st (X_17.iaload hx (j := (3 : Int32)) (v := (.int x3)) (by rw [e_17]; exact Ar_55.1) (State.isArrayOf_alike hZ.alike Ar_55.2.1) Ar_55.2.2 (inb_of Sz_55 ⟨by decide, by decide⟩) (Hs_55.at (j := (3 : Int32)) (inb_of Sz_55 ⟨by decide, by decide⟩) rfl) (g := (mkF m 41 #[rv a1, iv 5, rv b_1, iv 0, iv 3] [(.int 3), (.ref a1)])) rfl rfl (hb hby d2_41)) ?_
        show own_Go _ _ _ _ (T_17.setTop (mkF m 42 #[rv a1, iv 5, rv b_1, iv 0, iv 3] [(.int x3)]))
        refine o_aloadN X_17 hx (hb hby d2_42) rfl rfl ?_
        refine o_iloadN X_17 hx (hb hby d2_43) rfl ?_
        obtain ⟨cl_56, Ar_56, qk_56, Sz_56, Ng_56, Hs_56, Gs_56⟩ := id Fa_18
        refine own_st (X_17.iaload hx (j := (0 : Int32)) (v := (.int x0)) (by rw [e_17]; exact Ar_56.1) (State.isArrayOf_alike hZ.alike Ar_56.2.1) Ar_56.2.2 (inb_of Sz_56 ⟨by decide, by decide⟩) (Hs_56.at (j := (0 : Int32)) (inb_of Sz_56 ⟨by decide, by decide⟩) rfl) (g := (mkF m 44 #[rv a1, iv 5, rv b_1, iv 0, iv 3] [(.int 0), (.ref a1), (.int x3)])) rfl rfl (hb hby d2_44)) ?_
        show own_Go _ _ _ _ (T_17.setTop (mkF m 45 #[rv a1, iv 5, rv b_1, iv 0, iv 3] [(.int x0), (.int x3)]))
        refine o_icmpYes X_17 hx (pc' := 51) (hb hby d2_45) (feq (fun h => hc26__21 (h.trans (hc45__5.symm.trans hc26__12.symm)))).2 (by decide) (by decide) ?_
        refine o_aloadN X_17 hx (hb hby d2_51) rfl rfl ?_
        refine o_iload X_17 hx (hb hby d2_52) rfl ?_
        refine o_iloadN X_17 hx (hb hby d2_54) rfl ?_
        obtain ⟨cl_57, Ar_57, qk_57, Sz_57, Ng_57, Hs_57, Gs_57⟩ := id V_17
        obtain ⟨T_58, h_58, X_58, e_58, W_58, st_58⟩ := stI X_17 hx hZ e_17 Ar_57 (j := (3 : Int32)) (inb_of Sz_57 ⟨by decide, by decide⟩) (g := (mkF m 55 #[rv a1, iv 5, rv b_1, iv 0, iv 3] [(.int 0), (.int 3), (.ref b_1)])) rfl rfl (hb hby d2_55)
        refine own_st st_58 ?_
        have V_58 : Arv Z h_58 b_1 k_1 .int (5 : Int32) [(.int (0 : Int32)), (.int (1 : Int32)), (.int (2 : Int32)), (.int (0 : Int32)), (.int (0 : Int32))] (.int (0 : Int32)) := Arv.set Ar_57 qk_57 Sz_57 Ng_57 Hs_57 Gs_57 rfl W_58 3 rfl (Nat.le_of_ble_eq_true rfl)
        have N_58 := Fr.snoc X_58 N_17 gg_1
        show own_Go _ _ _ _ (T_58.setTop (mkF m 56 #[rv a1, iv 5, rv b_1, iv 0, iv 3] []))
        refine o_iinc X_58 hx (hb hby d2_56) rfl (l' := #[rv a1, iv 5, rv b_1, iv 0, iv 4]) rfl ?_
        refine o_goto X_58 hx (pc' := 9) (hb hby d2_59) (by decide) (by decide) ?_
        refine o_iload X_58 hx (hb hby d2_9) rfl ?_
        refine o_iloadN X_58 hx (hb hby d2_11) rfl ?_
        refine o_icmpNo X_58 hx (hb hby d2_12) (tlt (by decide : (4 : Int32) < (5 : Int32))).2.1 ?_
        refine o_iloadN X_58 hx (hb hby d2_15) rfl ?_
        refine o_ifYes X_58 hx (pc' := 38) (hb hby d2_16) (flt (by decide : ¬ ((0 : Int32) < (0 : Int32)))).2.2.2 (by decide) (by decide) ?_
        refine o_aloadN X_58 hx (hb hby d2_38) rfl rfl ?_
        refine o_iload X_58 hx (hb hby d2_39) rfl ?_
        have Fa_59 := (Fa_18.other W_58 (Nat.ne_of_lt (Nat.lt_of_lt_of_le V1.lt (Nat.le_of_eq g_1.symm))))
        obtain ⟨cl_60, Ar_60, qk_60, Sz_60, Ng_60, Hs_60, Gs_60⟩ := id Fa_59
        refine own_st (X_58.iaload hx (j := (4 : Int32)) (v := (.int x4)) (by rw [e_58]; exact Ar_60.1) (State.isArrayOf_alike hZ.alike Ar_60.2.1) Ar_60.2.2 (inb_of Sz_60 ⟨by decide, by decide⟩) (Hs_60.at (j := (4 : Int32)) (inb_of Sz_60 ⟨by decide, by decide⟩) rfl) (g := (mkF m 41 #[rv a1, iv 5, rv b_1, iv 0, iv 4] [(.int 4), (.ref a1)])) rfl rfl (hb hby d2_41)) ?_
        show own_Go _ _ _ _ (T_58.setTop (mkF m 42 #[rv a1, iv 5, rv b_1, iv 0, iv 4] [(.int x4)]))
        refine o_aloadN X_58 hx (hb hby d2_42) rfl rfl ?_
        refine o_iloadN X_58 hx (hb hby d2_43) rfl ?_
        obtain ⟨cl_61, Ar_61, qk_61, Sz_61, Ng_61, Hs_61, Gs_61⟩ := id Fa_59
        refine own_st (X_58.iaload hx (j := (0 : Int32)) (v := (.int x0)) (by rw [e_58]; exact Ar_61.1) (State.isArrayOf_alike hZ.alike Ar_61.2.1) Ar_61.2.2 (inb_of Sz_61 ⟨by decide, by decide⟩) (Hs_61.at (j := (0 : Int32)) (inb_of Sz_61 ⟨by decide, by decide⟩) rfl) (g := (mkF m 44 #[rv a1, iv 5, rv b_1, iv 0, iv 4] [(.int 0), (.ref a1), (.int x4)])) rfl rfl (hb hby d2_44)) ?_
        show own_Go _ _ _ _ (T_58.setTop (mkF m 45 #[rv a1, iv 5, rv b_1, iv 0, iv 4] [(.int x0), (.int x4)]))
        by_cases hc45__62 : x4 = x0
        · have hv_63 := hv_50.trans (if_pos hc45__62)
          refine o_icmpNo X_58 hx (hb hby d2_45) (teq hc45__62).2 ?_
          refine o_iinc X_58 hx (hb hby d2_48) rfl (l' := #[rv a1, iv 5, rv b_1, iv 1, iv 4]) rfl ?_
          refine o_aloadN X_58 hx (hb hby d2_51) rfl rfl ?_
          refine o_iload X_58 hx (hb hby d2_52) rfl ?_
          refine o_iloadN X_58 hx (hb hby d2_54) rfl ?_
          obtain ⟨cl_64, Ar_64, qk_64, Sz_64, Ng_64, Hs_64, Gs_64⟩ := id V_58
          obtain ⟨T_65, h_65, X_65, e_65, W_65, st_65⟩ := stI X_58 hx hZ e_58 Ar_64 (j := (4 : Int32)) (inb_of Sz_64 ⟨by decide, by decide⟩) (g := (mkF m 55 #[rv a1, iv 5, rv b_1, iv 1, iv 4] [(.int 1), (.int 4), (.ref b_1)])) rfl rfl (hb hby d2_55)
          refine own_st st_65 ?_
          have V_65 : Arv Z h_65 b_1 k_1 .int (5 : Int32) [(.int (0 : Int32)), (.int (1 : Int32)), (.int (2 : Int32)), (.int (0 : Int32)), (.int (1 : Int32))] (.int (0 : Int32)) := Arv.set Ar_64 qk_64 Sz_64 Ng_64 Hs_64 Gs_64 rfl W_65 4 rfl (Nat.le_of_ble_eq_true rfl)
          have N_65 := Fr.snoc X_65 N_58 gg_1
          show own_Go _ _ _ _ (T_65.setTop (mkF m 56 #[rv a1, iv 5, rv b_1, iv 1, iv 4] []))
          refine o_iinc X_65 hx (hb hby d2_56) rfl (l' := #[rv a1, iv 5, rv b_1, iv 1, iv 5]) rfl ?_
          refine o_goto X_65 hx (pc' := 9) (hb hby d2_59) (by decide) (by decide) ?_
          refine o_iload X_65 hx (hb hby d2_9) rfl ?_
          refine o_iloadN X_65 hx (hb hby d2_11) rfl ?_
          refine o_icmpYes X_65 hx (pc' := 62) (hb hby d2_12) (flt (by decide : ¬ ((5 : Int32) < (5 : Int32)))).2.1 (by decide) (by decide) ?_
          refine o_aloadN X_65 hx (hb hby d2_62) rfl rfl ?_
          have Kp_66 : Keep h0 h_65 [] := ((((((Keep.refl h0 []).ext E_1).wr W_8 (Or.inr sz_1)).wr W_17 (Or.inr sz_1)).wr W_58 (Or.inr sz_1)).wr W_65 (Or.inr sz_1))
          exact own_end X_65 e_65 (v := some (.ref b_1)) (fun h => by rw [Bd.returns] at h; cases h) hlk (fun fs hr => own_retA X_65 hx Bd.returns rfl rfl (hb hby d2_63) hr) (Q := Q_rmbo5 Z a0 a1 k dv x0 x1 x2 x3 x4 h0 n0) ⟨b_1, k_1, rfl, N_65, Kp_66, gg_1, sz_1, (Eq.mp (congrArg (fun z => Arv Z h_65 b_1 k_1 .int (5 : Int32) z (.int (0 : Int32))) (hv_63.symm.trans (own_bord_eq5 x0 x1 x2 x3 x4))) V_65)⟩ (by decide) (by decide)
        · have hv_67 := hv_50.trans (if_neg hc45__62)
          refine o_icmpYes X_58 hx (pc' := 51) (hb hby d2_45) (feq hc45__62).2 (by decide) (by decide) ?_
          refine o_aloadN X_58 hx (hb hby d2_51) rfl rfl ?_
          refine o_iload X_58 hx (hb hby d2_52) rfl ?_
          refine o_iloadN X_58 hx (hb hby d2_54) rfl ?_
          obtain ⟨cl_68, Ar_68, qk_68, Sz_68, Ng_68, Hs_68, Gs_68⟩ := id V_58
          obtain ⟨T_69, h_69, X_69, e_69, W_69, st_69⟩ := stI X_58 hx hZ e_58 Ar_68 (j := (4 : Int32)) (inb_of Sz_68 ⟨by decide, by decide⟩) (g := (mkF m 55 #[rv a1, iv 5, rv b_1, iv 0, iv 4] [(.int 0), (.int 4), (.ref b_1)])) rfl rfl (hb hby d2_55)
          refine own_st st_69 ?_
          have V_69 : Arv Z h_69 b_1 k_1 .int (5 : Int32) [(.int (0 : Int32)), (.int (1 : Int32)), (.int (2 : Int32)), (.int (0 : Int32)), (.int (0 : Int32))] (.int (0 : Int32)) := Arv.set Ar_68 qk_68 Sz_68 Ng_68 Hs_68 Gs_68 rfl W_69 4 rfl (Nat.le_of_ble_eq_true rfl)
          have N_69 := Fr.snoc X_69 N_58 gg_1
          show own_Go _ _ _ _ (T_69.setTop (mkF m 56 #[rv a1, iv 5, rv b_1, iv 0, iv 4] []))
          refine o_iinc X_69 hx (hb hby d2_56) rfl (l' := #[rv a1, iv 5, rv b_1, iv 0, iv 5]) rfl ?_
          refine o_goto X_69 hx (pc' := 9) (hb hby d2_59) (by decide) (by decide) ?_
          refine o_iload X_69 hx (hb hby d2_9) rfl ?_
          refine o_iloadN X_69 hx (hb hby d2_11) rfl ?_
          refine o_icmpYes X_69 hx (pc' := 62) (hb hby d2_12) (flt (by decide : ¬ ((5 : Int32) < (5 : Int32)))).2.1 (by decide) (by decide) ?_
          refine o_aloadN X_69 hx (hb hby d2_62) rfl rfl ?_
          have Kp_70 : Keep h0 h_69 [] := ((((((Keep.refl h0 []).ext E_1).wr W_8 (Or.inr sz_1)).wr W_17 (Or.inr sz_1)).wr W_58 (Or.inr sz_1)).wr W_69 (Or.inr sz_1))
          exact own_end X_69 e_69 (v := some (.ref b_1)) (fun h => by rw [Bd.returns] at h; cases h) hlk (fun fs hr => own_retA X_69 hx Bd.returns rfl rfl (hb hby d2_63) hr) (Q := Q_rmbo5 Z a0 a1 k dv x0 x1 x2 x3 x4 h0 n0) ⟨b_1, k_1, rfl, N_69, Kp_70, gg_1, sz_1, (Eq.mp (congrArg (fun z => Arv Z h_69 b_1 k_1 .int (5 : Int32) z (.int (0 : Int32))) (hv_67.symm.trans (own_bord_eq5 x0 x1 x2 x3 x4))) V_69)⟩ (by decide) (by decide)
    · have hv_71 := hv_6.trans (if_neg hc26__12)
      refine o_icmpNo X_8 hx (hb hby d2_26) (feq hc26__12).1 ?_
      refine o_aloadN X_8 hx (hb hby d2_29) rfl rfl ?_
      refine o_iloadN X_8 hx (hb hby d2_30) rfl ?_
      refine o_iconst X_8 hx 1 (hb hby d2_31) rfl ?_
      refine o_isub X_8 hx (hb hby d2_32) ?_
      show own_Go _ _ _ _ (T_8.setTop (mkF m 33 #[rv a1, iv 5, rv b_1, iv 1, iv 2] [(.int 0), (.ref b_1)]))
      obtain ⟨cl_72, Ar_72, qk_72, Sz_72, Ng_72, Hs_72, Gs_72⟩ := id V_8
      refine own_st (X_8.iaload hx (j := (0 : Int32)) (v := (.int (0 : Int32))) (by rw [e_8]; exact Ar_72.1) (State.isArrayOf_alike hZ.alike Ar_72.2.1) Ar_72.2.2 (inb_of Sz_72 ⟨by decide, by decide⟩) (Hs_72.at (j := (0 : Int32)) (inb_of Sz_72 ⟨by decide, by decide⟩) rfl) (g := (mkF m 33 #[rv a1, iv 5, rv b_1, iv 1, iv 2] [(.int 0), (.ref b_1)])) rfl rfl (hb hby d2_33)) ?_
      show own_Go _ _ _ _ (T_8.setTop (mkF m 34 #[rv a1, iv 5, rv b_1, iv 1, iv 2] [(.int 0)]))
      refine o_istoreN X_8 hx (hb hby d2_34) (l' := #[rv a1, iv 5, rv b_1, iv 0, iv 2]) rfl ?_
      refine o_goto X_8 hx (pc' := 15) (hb hby d2_35) (by decide) (by decide) ?_
      refine o_iloadN X_8 hx (hb hby d2_15) rfl ?_
      refine o_ifYes X_8 hx (pc' := 38) (hb hby d2_16) (flt (by decide : ¬ ((0 : Int32) < (0 : Int32)))).2.2.2 (by decide) (by decide) ?_
      refine o_aloadN X_8 hx (hb hby d2_38) rfl rfl ?_
      refine o_iload X_8 hx (hb hby d2_39) rfl ?_
      obtain ⟨cl_73, Ar_73, qk_73, Sz_73, Ng_73, Hs_73, Gs_73⟩ := id Fa_9
      refine own_st (X_8.iaload hx (j := (2 : Int32)) (v := (.int x2)) (by rw [e_8]; exact Ar_73.1) (State.isArrayOf_alike hZ.alike Ar_73.2.1) Ar_73.2.2 (inb_of Sz_73 ⟨by decide, by decide⟩) (Hs_73.at (j := (2 : Int32)) (inb_of Sz_73 ⟨by decide, by decide⟩) rfl) (g := (mkF m 41 #[rv a1, iv 5, rv b_1, iv 0, iv 2] [(.int 2), (.ref a1)])) rfl rfl (hb hby d2_41)) ?_
      show own_Go _ _ _ _ (T_8.setTop (mkF m 42 #[rv a1, iv 5, rv b_1, iv 0, iv 2] [(.int x2)]))
      refine o_aloadN X_8 hx (hb hby d2_42) rfl rfl ?_
      refine o_iloadN X_8 hx (hb hby d2_43) rfl ?_
      obtain ⟨cl_74, Ar_74, qk_74, Sz_74, Ng_74, Hs_74, Gs_74⟩ := id Fa_9
      refine own_st (X_8.iaload hx (j := (0 : Int32)) (v := (.int x0)) (by rw [e_8]; exact Ar_74.1) (State.isArrayOf_alike hZ.alike Ar_74.2.1) Ar_74.2.2 (inb_of Sz_74 ⟨by decide, by decide⟩) (Hs_74.at (j := (0 : Int32)) (inb_of Sz_74 ⟨by decide, by decide⟩) rfl) (g := (mkF m 44 #[rv a1, iv 5, rv b_1, iv 0, iv 2] [(.int 0), (.ref a1), (.int x2)])) rfl rfl (hb hby d2_44)) ?_
      show own_Go _ _ _ _ (T_8.setTop (mkF m 45 #[rv a1, iv 5, rv b_1, iv 0, iv 2] [(.int x0), (.int x2)]))
      refine o_icmpYes X_8 hx (pc' := 51) (hb hby d2_45) (feq (fun h => hc26__12 (h.trans hc45__5.symm))).2 (by decide) (by decide) ?_
      refine o_aloadN X_8 hx (hb hby d2_51) rfl rfl ?_
      refine o_iload X_8 hx (hb hby d2_52) rfl ?_
      refine o_iloadN X_8 hx (hb hby d2_54) rfl ?_
      obtain ⟨cl_75, Ar_75, qk_75, Sz_75, Ng_75, Hs_75, Gs_75⟩ := id V_8
      obtain ⟨T_76, h_76, X_76, e_76, W_76, st_76⟩ := stI X_8 hx hZ e_8 Ar_75 (j := (2 : Int32)) (inb_of Sz_75 ⟨by decide, by decide⟩) (g := (mkF m 55 #[rv a1, iv 5, rv b_1, iv 0, iv 2] [(.int 0), (.int 2), (.ref b_1)])) rfl rfl (hb hby d2_55)
      refine own_st st_76 ?_
      have V_76 : Arv Z h_76 b_1 k_1 .int (5 : Int32) [(.int (0 : Int32)), (.int (1 : Int32)), (.int (0 : Int32)), (.int (0 : Int32)), (.int (0 : Int32))] (.int (0 : Int32)) := Arv.set Ar_75 qk_75 Sz_75 Ng_75 Hs_75 Gs_75 rfl W_76 2 rfl (Nat.le_of_ble_eq_true rfl)
      have N_76 := Fr.snoc X_76 N_8 gg_1
      show own_Go _ _ _ _ (T_76.setTop (mkF m 56 #[rv a1, iv 5, rv b_1, iv 0, iv 2] []))
      refine o_iinc X_76 hx (hb hby d2_56) rfl (l' := #[rv a1, iv 5, rv b_1, iv 0, iv 3]) rfl ?_
      refine o_goto X_76 hx (pc' := 9) (hb hby d2_59) (by decide) (by decide) ?_
      refine o_iload X_76 hx (hb hby d2_9) rfl ?_
      refine o_iloadN X_76 hx (hb hby d2_11) rfl ?_
      refine o_icmpNo X_76 hx (hb hby d2_12) (tlt (by decide : (3 : Int32) < (5 : Int32))).2.1 ?_
      refine o_iloadN X_76 hx (hb hby d2_15) rfl ?_
      refine o_ifYes X_76 hx (pc' := 38) (hb hby d2_16) (flt (by decide : ¬ ((0 : Int32) < (0 : Int32)))).2.2.2 (by decide) (by decide) ?_
      refine o_aloadN X_76 hx (hb hby d2_38) rfl rfl ?_
      refine o_iload X_76 hx (hb hby d2_39) rfl ?_
      have Fa_77 := (Fa_9.other W_76 (Nat.ne_of_lt (Nat.lt_of_lt_of_le V1.lt (Nat.le_of_eq g_1.symm))))
      obtain ⟨cl_78, Ar_78, qk_78, Sz_78, Ng_78, Hs_78, Gs_78⟩ := id Fa_77
      refine own_st (X_76.iaload hx (j := (3 : Int32)) (v := (.int x3)) (by rw [e_76]; exact Ar_78.1) (State.isArrayOf_alike hZ.alike Ar_78.2.1) Ar_78.2.2 (inb_of Sz_78 ⟨by decide, by decide⟩) (Hs_78.at (j := (3 : Int32)) (inb_of Sz_78 ⟨by decide, by decide⟩) rfl) (g := (mkF m 41 #[rv a1, iv 5, rv b_1, iv 0, iv 3] [(.int 3), (.ref a1)])) rfl rfl (hb hby d2_41)) ?_
      show own_Go _ _ _ _ (T_76.setTop (mkF m 42 #[rv a1, iv 5, rv b_1, iv 0, iv 3] [(.int x3)]))
      refine o_aloadN X_76 hx (hb hby d2_42) rfl rfl ?_
      refine o_iloadN X_76 hx (hb hby d2_43) rfl ?_
      obtain ⟨cl_79, Ar_79, qk_79, Sz_79, Ng_79, Hs_79, Gs_79⟩ := id Fa_77
      refine own_st (X_76.iaload hx (j := (0 : Int32)) (v := (.int x0)) (by rw [e_76]; exact Ar_79.1) (State.isArrayOf_alike hZ.alike Ar_79.2.1) Ar_79.2.2 (inb_of Sz_79 ⟨by decide, by decide⟩) (Hs_79.at (j := (0 : Int32)) (inb_of Sz_79 ⟨by decide, by decide⟩) rfl) (g := (mkF m 44 #[rv a1, iv 5, rv b_1, iv 0, iv 3] [(.int 0), (.ref a1), (.int x3)])) rfl rfl (hb hby d2_44)) ?_
      show own_Go _ _ _ _ (T_76.setTop (mkF m 45 #[rv a1, iv 5, rv b_1, iv 0, iv 3] [(.int x0), (.int x3)]))
      by_cases hc45__80 : x3 = x0
      · have hv_81 := hv_71.trans (if_pos hc45__80)
        refine o_icmpNo X_76 hx (hb hby d2_45) (teq hc45__80).2 ?_
        refine o_iinc X_76 hx (hb hby d2_48) rfl (l' := #[rv a1, iv 5, rv b_1, iv 1, iv 3]) rfl ?_
        refine o_aloadN X_76 hx (hb hby d2_51) rfl rfl ?_
        refine o_iload X_76 hx (hb hby d2_52) rfl ?_
        refine o_iloadN X_76 hx (hb hby d2_54) rfl ?_
        obtain ⟨cl_82, Ar_82, qk_82, Sz_82, Ng_82, Hs_82, Gs_82⟩ := id V_76
        obtain ⟨T_83, h_83, X_83, e_83, W_83, st_83⟩ := stI X_76 hx hZ e_76 Ar_82 (j := (3 : Int32)) (inb_of Sz_82 ⟨by decide, by decide⟩) (g := (mkF m 55 #[rv a1, iv 5, rv b_1, iv 1, iv 3] [(.int 1), (.int 3), (.ref b_1)])) rfl rfl (hb hby d2_55)
        refine own_st st_83 ?_
        have V_83 : Arv Z h_83 b_1 k_1 .int (5 : Int32) [(.int (0 : Int32)), (.int (1 : Int32)), (.int (0 : Int32)), (.int (1 : Int32)), (.int (0 : Int32))] (.int (0 : Int32)) := Arv.set Ar_82 qk_82 Sz_82 Ng_82 Hs_82 Gs_82 rfl W_83 3 rfl (Nat.le_of_ble_eq_true rfl)
        have N_83 := Fr.snoc X_83 N_76 gg_1
        show own_Go _ _ _ _ (T_83.setTop (mkF m 56 #[rv a1, iv 5, rv b_1, iv 1, iv 3] []))
        refine o_iinc X_83 hx (hb hby d2_56) rfl (l' := #[rv a1, iv 5, rv b_1, iv 1, iv 4]) rfl ?_
        refine o_goto X_83 hx (pc' := 9) (hb hby d2_59) (by decide) (by decide) ?_
        refine o_iload X_83 hx (hb hby d2_9) rfl ?_
        refine o_iloadN X_83 hx (hb hby d2_11) rfl ?_
        refine o_icmpNo X_83 hx (hb hby d2_12) (tlt (by decide : (4 : Int32) < (5 : Int32))).2.1 ?_
        refine o_iloadN X_83 hx (hb hby d2_15) rfl ?_
        refine o_ifNo X_83 hx (hb hby d2_16) (tlt (by decide : (0 : Int32) < (1 : Int32))).2.2.2 ?_
        refine o_aloadN X_83 hx (hb hby d2_19) rfl rfl ?_
        refine o_iload X_83 hx (hb hby d2_20) rfl ?_
        have Fa_84 := (Fa_77.other W_83 (Nat.ne_of_lt (Nat.lt_of_lt_of_le V1.lt (Nat.le_of_eq g_1.symm))))
        obtain ⟨cl_85, Ar_85, qk_85, Sz_85, Ng_85, Hs_85, Gs_85⟩ := id Fa_84
        refine own_st (X_83.iaload hx (j := (4 : Int32)) (v := (.int x4)) (by rw [e_83]; exact Ar_85.1) (State.isArrayOf_alike hZ.alike Ar_85.2.1) Ar_85.2.2 (inb_of Sz_85 ⟨by decide, by decide⟩) (Hs_85.at (j := (4 : Int32)) (inb_of Sz_85 ⟨by decide, by decide⟩) rfl) (g := (mkF m 22 #[rv a1, iv 5, rv b_1, iv 1, iv 4] [(.int 4), (.ref a1)])) rfl rfl (hb hby d2_22)) ?_
        show own_Go _ _ _ _ (T_83.setTop (mkF m 23 #[rv a1, iv 5, rv b_1, iv 1, iv 4] [(.int x4)]))
        refine o_aloadN X_83 hx (hb hby d2_23) rfl rfl ?_
        refine o_iloadN X_83 hx (hb hby d2_24) rfl ?_
        obtain ⟨cl_86, Ar_86, qk_86, Sz_86, Ng_86, Hs_86, Gs_86⟩ := id Fa_84
        refine own_st (X_83.iaload hx (j := (1 : Int32)) (v := (.int x1)) (by rw [e_83]; exact Ar_86.1) (State.isArrayOf_alike hZ.alike Ar_86.2.1) Ar_86.2.2 (inb_of Sz_86 ⟨by decide, by decide⟩) (Hs_86.at (j := (1 : Int32)) (inb_of Sz_86 ⟨by decide, by decide⟩) rfl) (g := (mkF m 25 #[rv a1, iv 5, rv b_1, iv 1, iv 4] [(.int 1), (.ref a1), (.int x4)])) rfl rfl (hb hby d2_25)) ?_
        show own_Go _ _ _ _ (T_83.setTop (mkF m 26 #[rv a1, iv 5, rv b_1, iv 1, iv 4] [(.int x1), (.int x4)]))
        by_cases hc26__87 : x4 = x1
        · have hv_88 := hv_81.trans (if_pos hc26__87)
          refine o_icmpYes X_83 hx (pc' := 38) (hb hby d2_26) (teq hc26__87).1 (by decide) (by decide) ?_
          refine o_aloadN X_83 hx (hb hby d2_38) rfl rfl ?_
          refine o_iload X_83 hx (hb hby d2_39) rfl ?_
          obtain ⟨cl_89, Ar_89, qk_89, Sz_89, Ng_89, Hs_89, Gs_89⟩ := id Fa_84
          refine own_st (X_83.iaload hx (j := (4 : Int32)) (v := (.int x4)) (by rw [e_83]; exact Ar_89.1) (State.isArrayOf_alike hZ.alike Ar_89.2.1) Ar_89.2.2 (inb_of Sz_89 ⟨by decide, by decide⟩) (Hs_89.at (j := (4 : Int32)) (inb_of Sz_89 ⟨by decide, by decide⟩) rfl) (g := (mkF m 41 #[rv a1, iv 5, rv b_1, iv 1, iv 4] [(.int 4), (.ref a1)])) rfl rfl (hb hby d2_41)) ?_
          show own_Go _ _ _ _ (T_83.setTop (mkF m 42 #[rv a1, iv 5, rv b_1, iv 1, iv 4] [(.int x4)]))
          refine o_aloadN X_83 hx (hb hby d2_42) rfl rfl ?_
          refine o_iloadN X_83 hx (hb hby d2_43) rfl ?_
          obtain ⟨cl_90, Ar_90, qk_90, Sz_90, Ng_90, Hs_90, Gs_90⟩ := id Fa_84
          refine own_st (X_83.iaload hx (j := (1 : Int32)) (v := (.int x1)) (by rw [e_83]; exact Ar_90.1) (State.isArrayOf_alike hZ.alike Ar_90.2.1) Ar_90.2.2 (inb_of Sz_90 ⟨by decide, by decide⟩) (Hs_90.at (j := (1 : Int32)) (inb_of Sz_90 ⟨by decide, by decide⟩) rfl) (g := (mkF m 44 #[rv a1, iv 5, rv b_1, iv 1, iv 4] [(.int 1), (.ref a1), (.int x4)])) rfl rfl (hb hby d2_44)) ?_
          show own_Go _ _ _ _ (T_83.setTop (mkF m 45 #[rv a1, iv 5, rv b_1, iv 1, iv 4] [(.int x1), (.int x4)]))
          refine o_icmpNo X_83 hx (hb hby d2_45) (teq hc26__87).2 ?_
          refine o_iinc X_83 hx (hb hby d2_48) rfl (l' := #[rv a1, iv 5, rv b_1, iv 2, iv 4]) rfl ?_
          refine o_aloadN X_83 hx (hb hby d2_51) rfl rfl ?_
          refine o_iload X_83 hx (hb hby d2_52) rfl ?_
          refine o_iloadN X_83 hx (hb hby d2_54) rfl ?_
          obtain ⟨cl_91, Ar_91, qk_91, Sz_91, Ng_91, Hs_91, Gs_91⟩ := id V_83
          obtain ⟨T_92, h_92, X_92, e_92, W_92, st_92⟩ := stI X_83 hx hZ e_83 Ar_91 (j := (4 : Int32)) (inb_of Sz_91 ⟨by decide, by decide⟩) (g := (mkF m 55 #[rv a1, iv 5, rv b_1, iv 2, iv 4] [(.int 2), (.int 4), (.ref b_1)])) rfl rfl (hb hby d2_55)
          refine own_st st_92 ?_
          have V_92 : Arv Z h_92 b_1 k_1 .int (5 : Int32) [(.int (0 : Int32)), (.int (1 : Int32)), (.int (0 : Int32)), (.int (1 : Int32)), (.int (2 : Int32))] (.int (0 : Int32)) := Arv.set Ar_91 qk_91 Sz_91 Ng_91 Hs_91 Gs_91 rfl W_92 4 rfl (Nat.le_of_ble_eq_true rfl)
          have N_92 := Fr.snoc X_92 N_83 gg_1
          show own_Go _ _ _ _ (T_92.setTop (mkF m 56 #[rv a1, iv 5, rv b_1, iv 2, iv 4] []))
          refine o_iinc X_92 hx (hb hby d2_56) rfl (l' := #[rv a1, iv 5, rv b_1, iv 2, iv 5]) rfl ?_
          refine o_goto X_92 hx (pc' := 9) (hb hby d2_59) (by decide) (by decide) ?_
          refine o_iload X_92 hx (hb hby d2_9) rfl ?_
          refine o_iloadN X_92 hx (hb hby d2_11) rfl ?_
          refine o_icmpYes X_92 hx (pc' := 62) (hb hby d2_12) (flt (by decide : ¬ ((5 : Int32) < (5 : Int32)))).2.1 (by decide) (by decide) ?_
          refine o_aloadN X_92 hx (hb hby d2_62) rfl rfl ?_
          have Kp_93 : Keep h0 h_92 [] := ((((((Keep.refl h0 []).ext E_1).wr W_8 (Or.inr sz_1)).wr W_76 (Or.inr sz_1)).wr W_83 (Or.inr sz_1)).wr W_92 (Or.inr sz_1))
          exact own_end X_92 e_92 (v := some (.ref b_1)) (fun h => by rw [Bd.returns] at h; cases h) hlk (fun fs hr => own_retA X_92 hx Bd.returns rfl rfl (hb hby d2_63) hr) (Q := Q_rmbo5 Z a0 a1 k dv x0 x1 x2 x3 x4 h0 n0) ⟨b_1, k_1, rfl, N_92, Kp_93, gg_1, sz_1, (Eq.mp (congrArg (fun z => Arv Z h_92 b_1 k_1 .int (5 : Int32) z (.int (0 : Int32))) (hv_88.symm.trans (own_bord_eq5 x0 x1 x2 x3 x4))) V_92)⟩ (by decide) (by decide)
        · have hv_94 := hv_81.trans (if_neg hc26__87)
          refine o_icmpNo X_83 hx (hb hby d2_26) (feq hc26__87).1 ?_
          refine o_aloadN X_83 hx (hb hby d2_29) rfl rfl ?_
          refine o_iloadN X_83 hx (hb hby d2_30) rfl ?_
          refine o_iconst X_83 hx 1 (hb hby d2_31) rfl ?_
          refine o_isub X_83 hx (hb hby d2_32) ?_
          show own_Go _ _ _ _ (T_83.setTop (mkF m 33 #[rv a1, iv 5, rv b_1, iv 1, iv 4] [(.int 0), (.ref b_1)]))
          obtain ⟨cl_95, Ar_95, qk_95, Sz_95, Ng_95, Hs_95, Gs_95⟩ := id V_83
          refine own_st (X_83.iaload hx (j := (0 : Int32)) (v := (.int (0 : Int32))) (by rw [e_83]; exact Ar_95.1) (State.isArrayOf_alike hZ.alike Ar_95.2.1) Ar_95.2.2 (inb_of Sz_95 ⟨by decide, by decide⟩) (Hs_95.at (j := (0 : Int32)) (inb_of Sz_95 ⟨by decide, by decide⟩) rfl) (g := (mkF m 33 #[rv a1, iv 5, rv b_1, iv 1, iv 4] [(.int 0), (.ref b_1)])) rfl rfl (hb hby d2_33)) ?_
          show own_Go _ _ _ _ (T_83.setTop (mkF m 34 #[rv a1, iv 5, rv b_1, iv 1, iv 4] [(.int 0)]))
          refine o_istoreN X_83 hx (hb hby d2_34) (l' := #[rv a1, iv 5, rv b_1, iv 0, iv 4]) rfl ?_
          refine o_goto X_83 hx (pc' := 15) (hb hby d2_35) (by decide) (by decide) ?_
          refine o_iloadN X_83 hx (hb hby d2_15) rfl ?_
          refine o_ifYes X_83 hx (pc' := 38) (hb hby d2_16) (flt (by decide : ¬ ((0 : Int32) < (0 : Int32)))).2.2.2 (by decide) (by decide) ?_
          refine o_aloadN X_83 hx (hb hby d2_38) rfl rfl ?_
          refine o_iload X_83 hx (hb hby d2_39) rfl ?_
          obtain ⟨cl_96, Ar_96, qk_96, Sz_96, Ng_96, Hs_96, Gs_96⟩ := id Fa_84
          refine own_st (X_83.iaload hx (j := (4 : Int32)) (v := (.int x4)) (by rw [e_83]; exact Ar_96.1) (State.isArrayOf_alike hZ.alike Ar_96.2.1) Ar_96.2.2 (inb_of Sz_96 ⟨by decide, by decide⟩) (Hs_96.at (j := (4 : Int32)) (inb_of Sz_96 ⟨by decide, by decide⟩) rfl) (g := (mkF m 41 #[rv a1, iv 5, rv b_1, iv 0, iv 4] [(.int 4), (.ref a1)])) rfl rfl (hb hby d2_41)) ?_
          show own_Go _ _ _ _ (T_83.setTop (mkF m 42 #[rv a1, iv 5, rv b_1, iv 0, iv 4] [(.int x4)]))
          refine o_aloadN X_83 hx (hb hby d2_42) rfl rfl ?_
          refine o_iloadN X_83 hx (hb hby d2_43) rfl ?_
          obtain ⟨cl_97, Ar_97, qk_97, Sz_97, Ng_97, Hs_97, Gs_97⟩ := id Fa_84
          refine own_st (X_83.iaload hx (j := (0 : Int32)) (v := (.int x0)) (by rw [e_83]; exact Ar_97.1) (State.isArrayOf_alike hZ.alike Ar_97.2.1) Ar_97.2.2 (inb_of Sz_97 ⟨by decide, by decide⟩) (Hs_97.at (j := (0 : Int32)) (inb_of Sz_97 ⟨by decide, by decide⟩) rfl) (g := (mkF m 44 #[rv a1, iv 5, rv b_1, iv 0, iv 4] [(.int 0), (.ref a1), (.int x4)])) rfl rfl (hb hby d2_44)) ?_
          show own_Go _ _ _ _ (T_83.setTop (mkF m 45 #[rv a1, iv 5, rv b_1, iv 0, iv 4] [(.int x0), (.int x4)]))
          refine o_icmpYes X_83 hx (pc' := 51) (hb hby d2_45) (feq (fun h => hc26__87 (h.trans hc45__5.symm))).2 (by decide) (by decide) ?_
          refine o_aloadN X_83 hx (hb hby d2_51) rfl rfl ?_
          refine o_iload X_83 hx (hb hby d2_52) rfl ?_
          refine o_iloadN X_83 hx (hb hby d2_54) rfl ?_
          obtain ⟨cl_98, Ar_98, qk_98, Sz_98, Ng_98, Hs_98, Gs_98⟩ := id V_83
          obtain ⟨T_99, h_99, X_99, e_99, W_99, st_99⟩ := stI X_83 hx hZ e_83 Ar_98 (j := (4 : Int32)) (inb_of Sz_98 ⟨by decide, by decide⟩) (g := (mkF m 55 #[rv a1, iv 5, rv b_1, iv 0, iv 4] [(.int 0), (.int 4), (.ref b_1)])) rfl rfl (hb hby d2_55)
          refine own_st st_99 ?_
          have V_99 : Arv Z h_99 b_1 k_1 .int (5 : Int32) [(.int (0 : Int32)), (.int (1 : Int32)), (.int (0 : Int32)), (.int (1 : Int32)), (.int (0 : Int32))] (.int (0 : Int32)) := Arv.set Ar_98 qk_98 Sz_98 Ng_98 Hs_98 Gs_98 rfl W_99 4 rfl (Nat.le_of_ble_eq_true rfl)
          have N_99 := Fr.snoc X_99 N_83 gg_1
          show own_Go _ _ _ _ (T_99.setTop (mkF m 56 #[rv a1, iv 5, rv b_1, iv 0, iv 4] []))
          refine o_iinc X_99 hx (hb hby d2_56) rfl (l' := #[rv a1, iv 5, rv b_1, iv 0, iv 5]) rfl ?_
          refine o_goto X_99 hx (pc' := 9) (hb hby d2_59) (by decide) (by decide) ?_
          refine o_iload X_99 hx (hb hby d2_9) rfl ?_
          refine o_iloadN X_99 hx (hb hby d2_11) rfl ?_
          refine o_icmpYes X_99 hx (pc' := 62) (hb hby d2_12) (flt (by decide : ¬ ((5 : Int32) < (5 : Int32)))).2.1 (by decide) (by decide) ?_
          refine o_aloadN X_99 hx (hb hby d2_62) rfl rfl ?_
          have Kp_100 : Keep h0 h_99 [] := ((((((Keep.refl h0 []).ext E_1).wr W_8 (Or.inr sz_1)).wr W_76 (Or.inr sz_1)).wr W_83 (Or.inr sz_1)).wr W_99 (Or.inr sz_1))
          exact own_end X_99 e_99 (v := some (.ref b_1)) (fun h => by rw [Bd.returns] at h; cases h) hlk (fun fs hr => own_retA X_99 hx Bd.returns rfl rfl (hb hby d2_63) hr) (Q := Q_rmbo5 Z a0 a1 k dv x0 x1 x2 x3 x4 h0 n0) ⟨b_1, k_1, rfl, N_99, Kp_100, gg_1, sz_1, (Eq.mp (congrArg (fun z => Arv Z h_99 b_1 k_1 .int (5 : Int32) z (.int (0 : Int32))) (hv_94.symm.trans (own_bord_eq5 x0 x1 x2 x3 x4))) V_99)⟩ (by decide) (by decide)
      · have hv_101 := hv_71.trans (if_neg hc45__80)
        refine o_icmpYes X_76 hx (pc' := 51) (hb hby d2_45) (feq hc45__80).2 (by decide) (by decide) ?_
        refine o_aloadN X_76 hx (hb hby d2_51) rfl rfl ?_
        refine o_iload X_76 hx (hb hby d2_52) rfl ?_
        refine o_iloadN X_76 hx (hb hby d2_54) rfl ?_
        obtain ⟨cl_102, Ar_102, qk_102, Sz_102, Ng_102, Hs_102, Gs_102⟩ := id V_76
        obtain ⟨T_103, h_103, X_103, e_103, W_103, st_103⟩ := stI X_76 hx hZ e_76 Ar_102 (j := (3 : Int32)) (inb_of Sz_102 ⟨by decide, by decide⟩) (g := (mkF m 55 #[rv a1, iv 5, rv b_1, iv 0, iv 3] [(.int 0), (.int 3), (.ref b_1)])) rfl rfl (hb hby d2_55)
        refine own_st st_103 ?_
        have V_103 : Arv Z h_103 b_1 k_1 .int (5 : Int32) [(.int (0 : Int32)), (.int (1 : Int32)), (.int (0 : Int32)), (.int (0 : Int32)), (.int (0 : Int32))] (.int (0 : Int32)) := Arv.set Ar_102 qk_102 Sz_102 Ng_102 Hs_102 Gs_102 rfl W_103 3 rfl (Nat.le_of_ble_eq_true rfl)
        have N_103 := Fr.snoc X_103 N_76 gg_1
        show own_Go _ _ _ _ (T_103.setTop (mkF m 56 #[rv a1, iv 5, rv b_1, iv 0, iv 3] []))
        refine o_iinc X_103 hx (hb hby d2_56) rfl (l' := #[rv a1, iv 5, rv b_1, iv 0, iv 4]) rfl ?_
        refine o_goto X_103 hx (pc' := 9) (hb hby d2_59) (by decide) (by decide) ?_
        refine o_iload X_103 hx (hb hby d2_9) rfl ?_
        refine o_iloadN X_103 hx (hb hby d2_11) rfl ?_
        refine o_icmpNo X_103 hx (hb hby d2_12) (tlt (by decide : (4 : Int32) < (5 : Int32))).2.1 ?_
        refine o_iloadN X_103 hx (hb hby d2_15) rfl ?_
        refine o_ifYes X_103 hx (pc' := 38) (hb hby d2_16) (flt (by decide : ¬ ((0 : Int32) < (0 : Int32)))).2.2.2 (by decide) (by decide) ?_
        refine o_aloadN X_103 hx (hb hby d2_38) rfl rfl ?_
        refine o_iload X_103 hx (hb hby d2_39) rfl ?_
        have Fa_104 := (Fa_77.other W_103 (Nat.ne_of_lt (Nat.lt_of_lt_of_le V1.lt (Nat.le_of_eq g_1.symm))))
        obtain ⟨cl_105, Ar_105, qk_105, Sz_105, Ng_105, Hs_105, Gs_105⟩ := id Fa_104
        refine own_st (X_103.iaload hx (j := (4 : Int32)) (v := (.int x4)) (by rw [e_103]; exact Ar_105.1) (State.isArrayOf_alike hZ.alike Ar_105.2.1) Ar_105.2.2 (inb_of Sz_105 ⟨by decide, by decide⟩) (Hs_105.at (j := (4 : Int32)) (inb_of Sz_105 ⟨by decide, by decide⟩) rfl) (g := (mkF m 41 #[rv a1, iv 5, rv b_1, iv 0, iv 4] [(.int 4), (.ref a1)])) rfl rfl (hb hby d2_41)) ?_
        show own_Go _ _ _ _ (T_103.setTop (mkF m 42 #[rv a1, iv 5, rv b_1, iv 0, iv 4] [(.int x4)]))
        refine o_aloadN X_103 hx (hb hby d2_42) rfl rfl ?_
        refine o_iloadN X_103 hx (hb hby d2_43) rfl ?_
        obtain ⟨cl_106, Ar_106, qk_106, Sz_106, Ng_106, Hs_106, Gs_106⟩ := id Fa_104
        refine own_st (X_103.iaload hx (j := (0 : Int32)) (v := (.int x0)) (by rw [e_103]; exact Ar_106.1) (State.isArrayOf_alike hZ.alike Ar_106.2.1) Ar_106.2.2 (inb_of Sz_106 ⟨by decide, by decide⟩) (Hs_106.at (j := (0 : Int32)) (inb_of Sz_106 ⟨by decide, by decide⟩) rfl) (g := (mkF m 44 #[rv a1, iv 5, rv b_1, iv 0, iv 4] [(.int 0), (.ref a1), (.int x4)])) rfl rfl (hb hby d2_44)) ?_
        show own_Go _ _ _ _ (T_103.setTop (mkF m 45 #[rv a1, iv 5, rv b_1, iv 0, iv 4] [(.int x0), (.int x4)]))
        by_cases hc45__107 : x4 = x0
        · have hv_108 := hv_101.trans (if_pos hc45__107)
          refine o_icmpNo X_103 hx (hb hby d2_45) (teq hc45__107).2 ?_
          refine o_iinc X_103 hx (hb hby d2_48) rfl (l' := #[rv a1, iv 5, rv b_1, iv 1, iv 4]) rfl ?_
          refine o_aloadN X_103 hx (hb hby d2_51) rfl rfl ?_
          refine o_iload X_103 hx (hb hby d2_52) rfl ?_
          refine o_iloadN X_103 hx (hb hby d2_54) rfl ?_
          obtain ⟨cl_109, Ar_109, qk_109, Sz_109, Ng_109, Hs_109, Gs_109⟩ := id V_103
          obtain ⟨T_110, h_110, X_110, e_110, W_110, st_110⟩ := stI X_103 hx hZ e_103 Ar_109 (j := (4 : Int32)) (inb_of Sz_109 ⟨by decide, by decide⟩) (g := (mkF m 55 #[rv a1, iv 5, rv b_1, iv 1, iv 4] [(.int 1), (.int 4), (.ref b_1)])) rfl rfl (hb hby d2_55)
          refine own_st st_110 ?_
          have V_110 : Arv Z h_110 b_1 k_1 .int (5 : Int32) [(.int (0 : Int32)), (.int (1 : Int32)), (.int (0 : Int32)), (.int (0 : Int32)), (.int (1 : Int32))] (.int (0 : Int32)) := Arv.set Ar_109 qk_109 Sz_109 Ng_109 Hs_109 Gs_109 rfl W_110 4 rfl (Nat.le_of_ble_eq_true rfl)
          have N_110 := Fr.snoc X_110 N_103 gg_1
          show own_Go _ _ _ _ (T_110.setTop (mkF m 56 #[rv a1, iv 5, rv b_1, iv 1, iv 4] []))
          refine o_iinc X_110 hx (hb hby d2_56) rfl (l' := #[rv a1, iv 5, rv b_1, iv 1, iv 5]) rfl ?_
          refine o_goto X_110 hx (pc' := 9) (hb hby d2_59) (by decide) (by decide) ?_
          refine o_iload X_110 hx (hb hby d2_9) rfl ?_
          refine o_iloadN X_110 hx (hb hby d2_11) rfl ?_
          refine o_icmpYes X_110 hx (pc' := 62) (hb hby d2_12) (flt (by decide : ¬ ((5 : Int32) < (5 : Int32)))).2.1 (by decide) (by decide) ?_
          refine o_aloadN X_110 hx (hb hby d2_62) rfl rfl ?_
          have Kp_111 : Keep h0 h_110 [] := ((((((Keep.refl h0 []).ext E_1).wr W_8 (Or.inr sz_1)).wr W_76 (Or.inr sz_1)).wr W_103 (Or.inr sz_1)).wr W_110 (Or.inr sz_1))
          exact own_end X_110 e_110 (v := some (.ref b_1)) (fun h => by rw [Bd.returns] at h; cases h) hlk (fun fs hr => own_retA X_110 hx Bd.returns rfl rfl (hb hby d2_63) hr) (Q := Q_rmbo5 Z a0 a1 k dv x0 x1 x2 x3 x4 h0 n0) ⟨b_1, k_1, rfl, N_110, Kp_111, gg_1, sz_1, (Eq.mp (congrArg (fun z => Arv Z h_110 b_1 k_1 .int (5 : Int32) z (.int (0 : Int32))) (hv_108.symm.trans (own_bord_eq5 x0 x1 x2 x3 x4))) V_110)⟩ (by decide) (by decide)
        · have hv_112 := hv_101.trans (if_neg hc45__107)
          refine o_icmpYes X_103 hx (pc' := 51) (hb hby d2_45) (feq hc45__107).2 (by decide) (by decide) ?_
          refine o_aloadN X_103 hx (hb hby d2_51) rfl rfl ?_
          refine o_iload X_103 hx (hb hby d2_52) rfl ?_
          refine o_iloadN X_103 hx (hb hby d2_54) rfl ?_
          obtain ⟨cl_113, Ar_113, qk_113, Sz_113, Ng_113, Hs_113, Gs_113⟩ := id V_103
          obtain ⟨T_114, h_114, X_114, e_114, W_114, st_114⟩ := stI X_103 hx hZ e_103 Ar_113 (j := (4 : Int32)) (inb_of Sz_113 ⟨by decide, by decide⟩) (g := (mkF m 55 #[rv a1, iv 5, rv b_1, iv 0, iv 4] [(.int 0), (.int 4), (.ref b_1)])) rfl rfl (hb hby d2_55)
          refine own_st st_114 ?_
          have V_114 : Arv Z h_114 b_1 k_1 .int (5 : Int32) [(.int (0 : Int32)), (.int (1 : Int32)), (.int (0 : Int32)), (.int (0 : Int32)), (.int (0 : Int32))] (.int (0 : Int32)) := Arv.set Ar_113 qk_113 Sz_113 Ng_113 Hs_113 Gs_113 rfl W_114 4 rfl (Nat.le_of_ble_eq_true rfl)
          have N_114 := Fr.snoc X_114 N_103 gg_1
          show own_Go _ _ _ _ (T_114.setTop (mkF m 56 #[rv a1, iv 5, rv b_1, iv 0, iv 4] []))
          refine o_iinc X_114 hx (hb hby d2_56) rfl (l' := #[rv a1, iv 5, rv b_1, iv 0, iv 5]) rfl ?_
          refine o_goto X_114 hx (pc' := 9) (hb hby d2_59) (by decide) (by decide) ?_
          refine o_iload X_114 hx (hb hby d2_9) rfl ?_
          refine o_iloadN X_114 hx (hb hby d2_11) rfl ?_
          refine o_icmpYes X_114 hx (pc' := 62) (hb hby d2_12) (flt (by decide : ¬ ((5 : Int32) < (5 : Int32)))).2.1 (by decide) (by decide) ?_
          refine o_aloadN X_114 hx (hb hby d2_62) rfl rfl ?_
          have Kp_115 : Keep h0 h_114 [] := ((((((Keep.refl h0 []).ext E_1).wr W_8 (Or.inr sz_1)).wr W_76 (Or.inr sz_1)).wr W_103 (Or.inr sz_1)).wr W_114 (Or.inr sz_1))
          exact own_end X_114 e_114 (v := some (.ref b_1)) (fun h => by rw [Bd.returns] at h; cases h) hlk (fun fs hr => own_retA X_114 hx Bd.returns rfl rfl (hb hby d2_63) hr) (Q := Q_rmbo5 Z a0 a1 k dv x0 x1 x2 x3 x4 h0 n0) ⟨b_1, k_1, rfl, N_114, Kp_115, gg_1, sz_1, (Eq.mp (congrArg (fun z => Arv Z h_114 b_1 k_1 .int (5 : Int32) z (.int (0 : Int32))) (hv_112.symm.trans (own_bord_eq5 x0 x1 x2 x3 x4))) V_114)⟩ (by decide) (by decide)
  · have hv_116 := hv.trans (if_neg hc45__5)
    refine o_icmpYes X_1 hx (pc' := 51) (hb hby d2_45) (feq hc45__5).2 (by decide) (by decide) ?_
    refine o_aloadN X_1 hx (hb hby d2_51) rfl rfl ?_
    refine o_iload X_1 hx (hb hby d2_52) rfl ?_
    refine o_iloadN X_1 hx (hb hby d2_54) rfl ?_
    obtain ⟨cl_117, Ar_117, qk_117, Sz_117, Ng_117, Hs_117, Gs_117⟩ := id V_1
    obtain ⟨T_118, h_118, X_118, e_118, W_118, st_118⟩ := stI X_1 hx hZ e_1 Ar_117 (j := (1 : Int32)) (inb_of Sz_117 ⟨by decide, by decide⟩) (g := (mkF m 55 #[rv a1, iv 5, rv b_1, iv 0, iv 1] [(.int 0), (.int 1), (.ref b_1)])) rfl rfl (hb hby d2_55)
    refine own_st st_118 ?_
    have V_118 : Arv Z h_118 b_1 k_1 .int (5 : Int32) [(.int (0 : Int32)), (.int (0 : Int32)), (.int (0 : Int32)), (.int (0 : Int32)), (.int (0 : Int32))] (.int (0 : Int32)) := Arv.set Ar_117 qk_117 Sz_117 Ng_117 Hs_117 Gs_117 rfl W_118 1 rfl (Nat.le_of_ble_eq_true rfl)
    have N_118 := Fr.snoc X_118 N0 gg_1
    show own_Go _ _ _ _ (T_118.setTop (mkF m 56 #[rv a1, iv 5, rv b_1, iv 0, iv 1] []))
    refine o_iinc X_118 hx (hb hby d2_56) rfl (l' := #[rv a1, iv 5, rv b_1, iv 0, iv 2]) rfl ?_
    refine o_goto X_118 hx (pc' := 9) (hb hby d2_59) (by decide) (by decide) ?_
    refine o_iload X_118 hx (hb hby d2_9) rfl ?_
    refine o_iloadN X_118 hx (hb hby d2_11) rfl ?_
    refine o_icmpNo X_118 hx (hb hby d2_12) (tlt (by decide : (2 : Int32) < (5 : Int32))).2.1 ?_
    refine o_iloadN X_118 hx (hb hby d2_15) rfl ?_
    refine o_ifYes X_118 hx (pc' := 38) (hb hby d2_16) (flt (by decide : ¬ ((0 : Int32) < (0 : Int32)))).2.2.2 (by decide) (by decide) ?_
    refine o_aloadN X_118 hx (hb hby d2_38) rfl rfl ?_
    refine o_iload X_118 hx (hb hby d2_39) rfl ?_
    have Fa_119 := (Fa_2.other W_118 (Nat.ne_of_lt (Nat.lt_of_lt_of_le V1.lt (Nat.le_of_eq g_1.symm))))
    obtain ⟨cl_120, Ar_120, qk_120, Sz_120, Ng_120, Hs_120, Gs_120⟩ := id Fa_119
    refine own_st (X_118.iaload hx (j := (2 : Int32)) (v := (.int x2)) (by rw [e_118]; exact Ar_120.1) (State.isArrayOf_alike hZ.alike Ar_120.2.1) Ar_120.2.2 (inb_of Sz_120 ⟨by decide, by decide⟩) (Hs_120.at (j := (2 : Int32)) (inb_of Sz_120 ⟨by decide, by decide⟩) rfl) (g := (mkF m 41 #[rv a1, iv 5, rv b_1, iv 0, iv 2] [(.int 2), (.ref a1)])) rfl rfl (hb hby d2_41)) ?_
    show own_Go _ _ _ _ (T_118.setTop (mkF m 42 #[rv a1, iv 5, rv b_1, iv 0, iv 2] [(.int x2)]))
    refine o_aloadN X_118 hx (hb hby d2_42) rfl rfl ?_
    refine o_iloadN X_118 hx (hb hby d2_43) rfl ?_
    obtain ⟨cl_121, Ar_121, qk_121, Sz_121, Ng_121, Hs_121, Gs_121⟩ := id Fa_119
    refine own_st (X_118.iaload hx (j := (0 : Int32)) (v := (.int x0)) (by rw [e_118]; exact Ar_121.1) (State.isArrayOf_alike hZ.alike Ar_121.2.1) Ar_121.2.2 (inb_of Sz_121 ⟨by decide, by decide⟩) (Hs_121.at (j := (0 : Int32)) (inb_of Sz_121 ⟨by decide, by decide⟩) rfl) (g := (mkF m 44 #[rv a1, iv 5, rv b_1, iv 0, iv 2] [(.int 0), (.ref a1), (.int x2)])) rfl rfl (hb hby d2_44)) ?_
    show own_Go _ _ _ _ (T_118.setTop (mkF m 45 #[rv a1, iv 5, rv b_1, iv 0, iv 2] [(.int x0), (.int x2)]))
    by_cases hc45__122 : x2 = x0
    · have hv_123 := hv_116.trans (if_pos hc45__122)
      refine o_icmpNo X_118 hx (hb hby d2_45) (teq hc45__122).2 ?_
      refine o_iinc X_118 hx (hb hby d2_48) rfl (l' := #[rv a1, iv 5, rv b_1, iv 1, iv 2]) rfl ?_
      refine o_aloadN X_118 hx (hb hby d2_51) rfl rfl ?_
      refine o_iload X_118 hx (hb hby d2_52) rfl ?_
      refine o_iloadN X_118 hx (hb hby d2_54) rfl ?_
      obtain ⟨cl_124, Ar_124, qk_124, Sz_124, Ng_124, Hs_124, Gs_124⟩ := id V_118
      obtain ⟨T_125, h_125, X_125, e_125, W_125, st_125⟩ := stI X_118 hx hZ e_118 Ar_124 (j := (2 : Int32)) (inb_of Sz_124 ⟨by decide, by decide⟩) (g := (mkF m 55 #[rv a1, iv 5, rv b_1, iv 1, iv 2] [(.int 1), (.int 2), (.ref b_1)])) rfl rfl (hb hby d2_55)
      refine own_st st_125 ?_
      have V_125 : Arv Z h_125 b_1 k_1 .int (5 : Int32) [(.int (0 : Int32)), (.int (0 : Int32)), (.int (1 : Int32)), (.int (0 : Int32)), (.int (0 : Int32))] (.int (0 : Int32)) := Arv.set Ar_124 qk_124 Sz_124 Ng_124 Hs_124 Gs_124 rfl W_125 2 rfl (Nat.le_of_ble_eq_true rfl)
      have N_125 := Fr.snoc X_125 N_118 gg_1
      show own_Go _ _ _ _ (T_125.setTop (mkF m 56 #[rv a1, iv 5, rv b_1, iv 1, iv 2] []))
      refine o_iinc X_125 hx (hb hby d2_56) rfl (l' := #[rv a1, iv 5, rv b_1, iv 1, iv 3]) rfl ?_
      refine o_goto X_125 hx (pc' := 9) (hb hby d2_59) (by decide) (by decide) ?_
      refine o_iload X_125 hx (hb hby d2_9) rfl ?_
      refine o_iloadN X_125 hx (hb hby d2_11) rfl ?_
      refine o_icmpNo X_125 hx (hb hby d2_12) (tlt (by decide : (3 : Int32) < (5 : Int32))).2.1 ?_
      refine o_iloadN X_125 hx (hb hby d2_15) rfl ?_
      refine o_ifNo X_125 hx (hb hby d2_16) (tlt (by decide : (0 : Int32) < (1 : Int32))).2.2.2 ?_
      refine o_aloadN X_125 hx (hb hby d2_19) rfl rfl ?_
      refine o_iload X_125 hx (hb hby d2_20) rfl ?_
      have Fa_126 := (Fa_119.other W_125 (Nat.ne_of_lt (Nat.lt_of_lt_of_le V1.lt (Nat.le_of_eq g_1.symm))))
      obtain ⟨cl_127, Ar_127, qk_127, Sz_127, Ng_127, Hs_127, Gs_127⟩ := id Fa_126
      refine own_st (X_125.iaload hx (j := (3 : Int32)) (v := (.int x3)) (by rw [e_125]; exact Ar_127.1) (State.isArrayOf_alike hZ.alike Ar_127.2.1) Ar_127.2.2 (inb_of Sz_127 ⟨by decide, by decide⟩) (Hs_127.at (j := (3 : Int32)) (inb_of Sz_127 ⟨by decide, by decide⟩) rfl) (g := (mkF m 22 #[rv a1, iv 5, rv b_1, iv 1, iv 3] [(.int 3), (.ref a1)])) rfl rfl (hb hby d2_22)) ?_
      show own_Go _ _ _ _ (T_125.setTop (mkF m 23 #[rv a1, iv 5, rv b_1, iv 1, iv 3] [(.int x3)]))
      refine o_aloadN X_125 hx (hb hby d2_23) rfl rfl ?_
      refine o_iloadN X_125 hx (hb hby d2_24) rfl ?_
      obtain ⟨cl_128, Ar_128, qk_128, Sz_128, Ng_128, Hs_128, Gs_128⟩ := id Fa_126
      refine own_st (X_125.iaload hx (j := (1 : Int32)) (v := (.int x1)) (by rw [e_125]; exact Ar_128.1) (State.isArrayOf_alike hZ.alike Ar_128.2.1) Ar_128.2.2 (inb_of Sz_128 ⟨by decide, by decide⟩) (Hs_128.at (j := (1 : Int32)) (inb_of Sz_128 ⟨by decide, by decide⟩) rfl) (g := (mkF m 25 #[rv a1, iv 5, rv b_1, iv 1, iv 3] [(.int 1), (.ref a1), (.int x3)])) rfl rfl (hb hby d2_25)) ?_
      show own_Go _ _ _ _ (T_125.setTop (mkF m 26 #[rv a1, iv 5, rv b_1, iv 1, iv 3] [(.int x1), (.int x3)]))
      by_cases hc26__129 : x3 = x1
      · have hv_130 := hv_123.trans (if_pos hc26__129)
        refine o_icmpYes X_125 hx (pc' := 38) (hb hby d2_26) (teq hc26__129).1 (by decide) (by decide) ?_
        refine o_aloadN X_125 hx (hb hby d2_38) rfl rfl ?_
        refine o_iload X_125 hx (hb hby d2_39) rfl ?_
        obtain ⟨cl_131, Ar_131, qk_131, Sz_131, Ng_131, Hs_131, Gs_131⟩ := id Fa_126
        refine own_st (X_125.iaload hx (j := (3 : Int32)) (v := (.int x3)) (by rw [e_125]; exact Ar_131.1) (State.isArrayOf_alike hZ.alike Ar_131.2.1) Ar_131.2.2 (inb_of Sz_131 ⟨by decide, by decide⟩) (Hs_131.at (j := (3 : Int32)) (inb_of Sz_131 ⟨by decide, by decide⟩) rfl) (g := (mkF m 41 #[rv a1, iv 5, rv b_1, iv 1, iv 3] [(.int 3), (.ref a1)])) rfl rfl (hb hby d2_41)) ?_
        show own_Go _ _ _ _ (T_125.setTop (mkF m 42 #[rv a1, iv 5, rv b_1, iv 1, iv 3] [(.int x3)]))
        refine o_aloadN X_125 hx (hb hby d2_42) rfl rfl ?_
        refine o_iloadN X_125 hx (hb hby d2_43) rfl ?_
        obtain ⟨cl_132, Ar_132, qk_132, Sz_132, Ng_132, Hs_132, Gs_132⟩ := id Fa_126
        refine own_st (X_125.iaload hx (j := (1 : Int32)) (v := (.int x1)) (by rw [e_125]; exact Ar_132.1) (State.isArrayOf_alike hZ.alike Ar_132.2.1) Ar_132.2.2 (inb_of Sz_132 ⟨by decide, by decide⟩) (Hs_132.at (j := (1 : Int32)) (inb_of Sz_132 ⟨by decide, by decide⟩) rfl) (g := (mkF m 44 #[rv a1, iv 5, rv b_1, iv 1, iv 3] [(.int 1), (.ref a1), (.int x3)])) rfl rfl (hb hby d2_44)) ?_
        show own_Go _ _ _ _ (T_125.setTop (mkF m 45 #[rv a1, iv 5, rv b_1, iv 1, iv 3] [(.int x1), (.int x3)]))
        refine o_icmpNo X_125 hx (hb hby d2_45) (teq hc26__129).2 ?_
        refine o_iinc X_125 hx (hb hby d2_48) rfl (l' := #[rv a1, iv 5, rv b_1, iv 2, iv 3]) rfl ?_
        refine o_aloadN X_125 hx (hb hby d2_51) rfl rfl ?_
        refine o_iload X_125 hx (hb hby d2_52) rfl ?_
        refine o_iloadN X_125 hx (hb hby d2_54) rfl ?_
        obtain ⟨cl_133, Ar_133, qk_133, Sz_133, Ng_133, Hs_133, Gs_133⟩ := id V_125
        obtain ⟨T_134, h_134, X_134, e_134, W_134, st_134⟩ := stI X_125 hx hZ e_125 Ar_133 (j := (3 : Int32)) (inb_of Sz_133 ⟨by decide, by decide⟩) (g := (mkF m 55 #[rv a1, iv 5, rv b_1, iv 2, iv 3] [(.int 2), (.int 3), (.ref b_1)])) rfl rfl (hb hby d2_55)
        refine own_st st_134 ?_
        have V_134 : Arv Z h_134 b_1 k_1 .int (5 : Int32) [(.int (0 : Int32)), (.int (0 : Int32)), (.int (1 : Int32)), (.int (2 : Int32)), (.int (0 : Int32))] (.int (0 : Int32)) := Arv.set Ar_133 qk_133 Sz_133 Ng_133 Hs_133 Gs_133 rfl W_134 3 rfl (Nat.le_of_ble_eq_true rfl)
        have N_134 := Fr.snoc X_134 N_125 gg_1
        show own_Go _ _ _ _ (T_134.setTop (mkF m 56 #[rv a1, iv 5, rv b_1, iv 2, iv 3] []))
        refine o_iinc X_134 hx (hb hby d2_56) rfl (l' := #[rv a1, iv 5, rv b_1, iv 2, iv 4]) rfl ?_
        refine o_goto X_134 hx (pc' := 9) (hb hby d2_59) (by decide) (by decide) ?_
        refine o_iload X_134 hx (hb hby d2_9) rfl ?_
        refine o_iloadN X_134 hx (hb hby d2_11) rfl ?_
        refine o_icmpNo X_134 hx (hb hby d2_12) (tlt (by decide : (4 : Int32) < (5 : Int32))).2.1 ?_
        refine o_iloadN X_134 hx (hb hby d2_15) rfl ?_
        refine o_ifNo X_134 hx (hb hby d2_16) (tlt (by decide : (0 : Int32) < (2 : Int32))).2.2.2 ?_
        refine o_aloadN X_134 hx (hb hby d2_19) rfl rfl ?_
        refine o_iload X_134 hx (hb hby d2_20) rfl ?_
        have Fa_135 := (Fa_126.other W_134 (Nat.ne_of_lt (Nat.lt_of_lt_of_le V1.lt (Nat.le_of_eq g_1.symm))))
        obtain ⟨cl_136, Ar_136, qk_136, Sz_136, Ng_136, Hs_136, Gs_136⟩ := id Fa_135
        refine own_st (X_134.iaload hx (j := (4 : Int32)) (v := (.int x4)) (by rw [e_134]; exact Ar_136.1) (State.isArrayOf_alike hZ.alike Ar_136.2.1) Ar_136.2.2 (inb_of Sz_136 ⟨by decide, by decide⟩) (Hs_136.at (j := (4 : Int32)) (inb_of Sz_136 ⟨by decide, by decide⟩) rfl) (g := (mkF m 22 #[rv a1, iv 5, rv b_1, iv 2, iv 4] [(.int 4), (.ref a1)])) rfl rfl (hb hby d2_22)) ?_
        show own_Go _ _ _ _ (T_134.setTop (mkF m 23 #[rv a1, iv 5, rv b_1, iv 2, iv 4] [(.int x4)]))
        refine o_aloadN X_134 hx (hb hby d2_23) rfl rfl ?_
        refine o_iloadN X_134 hx (hb hby d2_24) rfl ?_
        obtain ⟨cl_137, Ar_137, qk_137, Sz_137, Ng_137, Hs_137, Gs_137⟩ := id Fa_135
        refine own_st (X_134.iaload hx (j := (2 : Int32)) (v := (.int x2)) (by rw [e_134]; exact Ar_137.1) (State.isArrayOf_alike hZ.alike Ar_137.2.1) Ar_137.2.2 (inb_of Sz_137 ⟨by decide, by decide⟩) (Hs_137.at (j := (2 : Int32)) (inb_of Sz_137 ⟨by decide, by decide⟩) rfl) (g := (mkF m 25 #[rv a1, iv 5, rv b_1, iv 2, iv 4] [(.int 2), (.ref a1), (.int x4)])) rfl rfl (hb hby d2_25)) ?_
        show own_Go _ _ _ _ (T_134.setTop (mkF m 26 #[rv a1, iv 5, rv b_1, iv 2, iv 4] [(.int x2), (.int x4)]))
        by_cases hc26__138 : x4 = x2
        · have hv_139 := hv_130.trans (if_pos hc26__138)
          refine o_icmpYes X_134 hx (pc' := 38) (hb hby d2_26) (teq hc26__138).1 (by decide) (by decide) ?_
          refine o_aloadN X_134 hx (hb hby d2_38) rfl rfl ?_
          refine o_iload X_134 hx (hb hby d2_39) rfl ?_
          obtain ⟨cl_140, Ar_140, qk_140, Sz_140, Ng_140, Hs_140, Gs_140⟩ := id Fa_135
          refine own_st (X_134.iaload hx (j := (4 : Int32)) (v := (.int x4)) (by rw [e_134]; exact Ar_140.1) (State.isArrayOf_alike hZ.alike Ar_140.2.1) Ar_140.2.2 (inb_of Sz_140 ⟨by decide, by decide⟩) (Hs_140.at (j := (4 : Int32)) (inb_of Sz_140 ⟨by decide, by decide⟩) rfl) (g := (mkF m 41 #[rv a1, iv 5, rv b_1, iv 2, iv 4] [(.int 4), (.ref a1)])) rfl rfl (hb hby d2_41)) ?_
          show own_Go _ _ _ _ (T_134.setTop (mkF m 42 #[rv a1, iv 5, rv b_1, iv 2, iv 4] [(.int x4)]))
          refine o_aloadN X_134 hx (hb hby d2_42) rfl rfl ?_
          refine o_iloadN X_134 hx (hb hby d2_43) rfl ?_
          obtain ⟨cl_141, Ar_141, qk_141, Sz_141, Ng_141, Hs_141, Gs_141⟩ := id Fa_135
          refine own_st (X_134.iaload hx (j := (2 : Int32)) (v := (.int x2)) (by rw [e_134]; exact Ar_141.1) (State.isArrayOf_alike hZ.alike Ar_141.2.1) Ar_141.2.2 (inb_of Sz_141 ⟨by decide, by decide⟩) (Hs_141.at (j := (2 : Int32)) (inb_of Sz_141 ⟨by decide, by decide⟩) rfl) (g := (mkF m 44 #[rv a1, iv 5, rv b_1, iv 2, iv 4] [(.int 2), (.ref a1), (.int x4)])) rfl rfl (hb hby d2_44)) ?_
          show own_Go _ _ _ _ (T_134.setTop (mkF m 45 #[rv a1, iv 5, rv b_1, iv 2, iv 4] [(.int x2), (.int x4)]))
          refine o_icmpNo X_134 hx (hb hby d2_45) (teq hc26__138).2 ?_
          refine o_iinc X_134 hx (hb hby d2_48) rfl (l' := #[rv a1, iv 5, rv b_1, iv 3, iv 4]) rfl ?_
          refine o_aloadN X_134 hx (hb hby d2_51) rfl rfl ?_
          refine o_iload X_134 hx (hb hby d2_52) rfl ?_
          refine o_iloadN X_134 hx (hb hby d2_54) rfl ?_
          obtain ⟨cl_142, Ar_142, qk_142, Sz_142, Ng_142, Hs_142, Gs_142⟩ := id V_134
          obtain ⟨T_143, h_143, X_143, e_143, W_143, st_143⟩ := stI X_134 hx hZ e_134 Ar_142 (j := (4 : Int32)) (inb_of Sz_142 ⟨by decide, by decide⟩) (g := (mkF m 55 #[rv a1, iv 5, rv b_1, iv 3, iv 4] [(.int 3), (.int 4), (.ref b_1)])) rfl rfl (hb hby d2_55)
          refine own_st st_143 ?_
          have V_143 : Arv Z h_143 b_1 k_1 .int (5 : Int32) [(.int (0 : Int32)), (.int (0 : Int32)), (.int (1 : Int32)), (.int (2 : Int32)), (.int (3 : Int32))] (.int (0 : Int32)) := Arv.set Ar_142 qk_142 Sz_142 Ng_142 Hs_142 Gs_142 rfl W_143 4 rfl (Nat.le_of_ble_eq_true rfl)
          have N_143 := Fr.snoc X_143 N_134 gg_1
          show own_Go _ _ _ _ (T_143.setTop (mkF m 56 #[rv a1, iv 5, rv b_1, iv 3, iv 4] []))
          refine o_iinc X_143 hx (hb hby d2_56) rfl (l' := #[rv a1, iv 5, rv b_1, iv 3, iv 5]) rfl ?_
          refine o_goto X_143 hx (pc' := 9) (hb hby d2_59) (by decide) (by decide) ?_
          refine o_iload X_143 hx (hb hby d2_9) rfl ?_
          refine o_iloadN X_143 hx (hb hby d2_11) rfl ?_
          refine o_icmpYes X_143 hx (pc' := 62) (hb hby d2_12) (flt (by decide : ¬ ((5 : Int32) < (5 : Int32)))).2.1 (by decide) (by decide) ?_
          refine o_aloadN X_143 hx (hb hby d2_62) rfl rfl ?_
          have Kp_144 : Keep h0 h_143 [] := ((((((Keep.refl h0 []).ext E_1).wr W_118 (Or.inr sz_1)).wr W_125 (Or.inr sz_1)).wr W_134 (Or.inr sz_1)).wr W_143 (Or.inr sz_1))
          exact own_end X_143 e_143 (v := some (.ref b_1)) (fun h => by rw [Bd.returns] at h; cases h) hlk (fun fs hr => own_retA X_143 hx Bd.returns rfl rfl (hb hby d2_63) hr) (Q := Q_rmbo5 Z a0 a1 k dv x0 x1 x2 x3 x4 h0 n0) ⟨b_1, k_1, rfl, N_143, Kp_144, gg_1, sz_1, (Eq.mp (congrArg (fun z => Arv Z h_143 b_1 k_1 .int (5 : Int32) z (.int (0 : Int32))) (hv_139.symm.trans (own_bord_eq5 x0 x1 x2 x3 x4))) V_143)⟩ (by decide) (by decide)
        · have hv_145 := hv_130.trans (if_neg hc26__138)
          refine o_icmpNo X_134 hx (hb hby d2_26) (feq hc26__138).1 ?_
          refine o_aloadN X_134 hx (hb hby d2_29) rfl rfl ?_
          refine o_iloadN X_134 hx (hb hby d2_30) rfl ?_
          refine o_iconst X_134 hx 1 (hb hby d2_31) rfl ?_
          refine o_isub X_134 hx (hb hby d2_32) ?_
          show own_Go _ _ _ _ (T_134.setTop (mkF m 33 #[rv a1, iv 5, rv b_1, iv 2, iv 4] [(.int 1), (.ref b_1)]))
          obtain ⟨cl_146, Ar_146, qk_146, Sz_146, Ng_146, Hs_146, Gs_146⟩ := id V_134
          refine own_st (X_134.iaload hx (j := (1 : Int32)) (v := (.int (0 : Int32))) (by rw [e_134]; exact Ar_146.1) (State.isArrayOf_alike hZ.alike Ar_146.2.1) Ar_146.2.2 (inb_of Sz_146 ⟨by decide, by decide⟩) (Hs_146.at (j := (1 : Int32)) (inb_of Sz_146 ⟨by decide, by decide⟩) rfl) (g := (mkF m 33 #[rv a1, iv 5, rv b_1, iv 2, iv 4] [(.int 1), (.ref b_1)])) rfl rfl (hb hby d2_33)) ?_
          show own_Go _ _ _ _ (T_134.setTop (mkF m 34 #[rv a1, iv 5, rv b_1, iv 2, iv 4] [(.int 0)]))
          refine o_istoreN X_134 hx (hb hby d2_34) (l' := #[rv a1, iv 5, rv b_1, iv 0, iv 4]) rfl ?_
          refine o_goto X_134 hx (pc' := 15) (hb hby d2_35) (by decide) (by decide) ?_
          refine o_iloadN X_134 hx (hb hby d2_15) rfl ?_
          refine o_ifYes X_134 hx (pc' := 38) (hb hby d2_16) (flt (by decide : ¬ ((0 : Int32) < (0 : Int32)))).2.2.2 (by decide) (by decide) ?_
          refine o_aloadN X_134 hx (hb hby d2_38) rfl rfl ?_
          refine o_iload X_134 hx (hb hby d2_39) rfl ?_
          obtain ⟨cl_147, Ar_147, qk_147, Sz_147, Ng_147, Hs_147, Gs_147⟩ := id Fa_135
          refine own_st (X_134.iaload hx (j := (4 : Int32)) (v := (.int x4)) (by rw [e_134]; exact Ar_147.1) (State.isArrayOf_alike hZ.alike Ar_147.2.1) Ar_147.2.2 (inb_of Sz_147 ⟨by decide, by decide⟩) (Hs_147.at (j := (4 : Int32)) (inb_of Sz_147 ⟨by decide, by decide⟩) rfl) (g := (mkF m 41 #[rv a1, iv 5, rv b_1, iv 0, iv 4] [(.int 4), (.ref a1)])) rfl rfl (hb hby d2_41)) ?_
          show own_Go _ _ _ _ (T_134.setTop (mkF m 42 #[rv a1, iv 5, rv b_1, iv 0, iv 4] [(.int x4)]))
          refine o_aloadN X_134 hx (hb hby d2_42) rfl rfl ?_
          refine o_iloadN X_134 hx (hb hby d2_43) rfl ?_
          obtain ⟨cl_148, Ar_148, qk_148, Sz_148, Ng_148, Hs_148, Gs_148⟩ := id Fa_135
          refine own_st (X_134.iaload hx (j := (0 : Int32)) (v := (.int x0)) (by rw [e_134]; exact Ar_148.1) (State.isArrayOf_alike hZ.alike Ar_148.2.1) Ar_148.2.2 (inb_of Sz_148 ⟨by decide, by decide⟩) (Hs_148.at (j := (0 : Int32)) (inb_of Sz_148 ⟨by decide, by decide⟩) rfl) (g := (mkF m 44 #[rv a1, iv 5, rv b_1, iv 0, iv 4] [(.int 0), (.ref a1), (.int x4)])) rfl rfl (hb hby d2_44)) ?_
          show own_Go _ _ _ _ (T_134.setTop (mkF m 45 #[rv a1, iv 5, rv b_1, iv 0, iv 4] [(.int x0), (.int x4)]))
          refine o_icmpYes X_134 hx (pc' := 51) (hb hby d2_45) (feq (fun h => hc26__138 (h.trans hc45__122.symm))).2 (by decide) (by decide) ?_
          refine o_aloadN X_134 hx (hb hby d2_51) rfl rfl ?_
          refine o_iload X_134 hx (hb hby d2_52) rfl ?_
          refine o_iloadN X_134 hx (hb hby d2_54) rfl ?_
          obtain ⟨cl_149, Ar_149, qk_149, Sz_149, Ng_149, Hs_149, Gs_149⟩ := id V_134
          obtain ⟨T_150, h_150, X_150, e_150, W_150, st_150⟩ := stI X_134 hx hZ e_134 Ar_149 (j := (4 : Int32)) (inb_of Sz_149 ⟨by decide, by decide⟩) (g := (mkF m 55 #[rv a1, iv 5, rv b_1, iv 0, iv 4] [(.int 0), (.int 4), (.ref b_1)])) rfl rfl (hb hby d2_55)
          refine own_st st_150 ?_
          have V_150 : Arv Z h_150 b_1 k_1 .int (5 : Int32) [(.int (0 : Int32)), (.int (0 : Int32)), (.int (1 : Int32)), (.int (2 : Int32)), (.int (0 : Int32))] (.int (0 : Int32)) := Arv.set Ar_149 qk_149 Sz_149 Ng_149 Hs_149 Gs_149 rfl W_150 4 rfl (Nat.le_of_ble_eq_true rfl)
          have N_150 := Fr.snoc X_150 N_134 gg_1
          show own_Go _ _ _ _ (T_150.setTop (mkF m 56 #[rv a1, iv 5, rv b_1, iv 0, iv 4] []))
          refine o_iinc X_150 hx (hb hby d2_56) rfl (l' := #[rv a1, iv 5, rv b_1, iv 0, iv 5]) rfl ?_
          refine o_goto X_150 hx (pc' := 9) (hb hby d2_59) (by decide) (by decide) ?_
          refine o_iload X_150 hx (hb hby d2_9) rfl ?_
          refine o_iloadN X_150 hx (hb hby d2_11) rfl ?_
          refine o_icmpYes X_150 hx (pc' := 62) (hb hby d2_12) (flt (by decide : ¬ ((5 : Int32) < (5 : Int32)))).2.1 (by decide) (by decide) ?_
          refine o_aloadN X_150 hx (hb hby d2_62) rfl rfl ?_
          have Kp_151 : Keep h0 h_150 [] := ((((((Keep.refl h0 []).ext E_1).wr W_118 (Or.inr sz_1)).wr W_125 (Or.inr sz_1)).wr W_134 (Or.inr sz_1)).wr W_150 (Or.inr sz_1))
          exact own_end X_150 e_150 (v := some (.ref b_1)) (fun h => by rw [Bd.returns] at h; cases h) hlk (fun fs hr => own_retA X_150 hx Bd.returns rfl rfl (hb hby d2_63) hr) (Q := Q_rmbo5 Z a0 a1 k dv x0 x1 x2 x3 x4 h0 n0) ⟨b_1, k_1, rfl, N_150, Kp_151, gg_1, sz_1, (Eq.mp (congrArg (fun z => Arv Z h_150 b_1 k_1 .int (5 : Int32) z (.int (0 : Int32))) (hv_145.symm.trans (own_bord_eq5 x0 x1 x2 x3 x4))) V_150)⟩ (by decide) (by decide)
      · have hv_152 := hv_123.trans (if_neg hc26__129)
        refine o_icmpNo X_125 hx (hb hby d2_26) (feq hc26__129).1 ?_
        refine o_aloadN X_125 hx (hb hby d2_29) rfl rfl ?_
        refine o_iloadN X_125 hx (hb hby d2_30) rfl ?_
        refine o_iconst X_125 hx 1 (hb hby d2_31) rfl ?_
        refine o_isub X_125 hx (hb hby d2_32) ?_
        show own_Go _ _ _ _ (T_125.setTop (mkF m 33 #[rv a1, iv 5, rv b_1, iv 1, iv 3] [(.int 0), (.ref b_1)]))
        obtain ⟨cl_153, Ar_153, qk_153, Sz_153, Ng_153, Hs_153, Gs_153⟩ := id V_125
        refine own_st (X_125.iaload hx (j := (0 : Int32)) (v := (.int (0 : Int32))) (by rw [e_125]; exact Ar_153.1) (State.isArrayOf_alike hZ.alike Ar_153.2.1) Ar_153.2.2 (inb_of Sz_153 ⟨by decide, by decide⟩) (Hs_153.at (j := (0 : Int32)) (inb_of Sz_153 ⟨by decide, by decide⟩) rfl) (g := (mkF m 33 #[rv a1, iv 5, rv b_1, iv 1, iv 3] [(.int 0), (.ref b_1)])) rfl rfl (hb hby d2_33)) ?_
        show own_Go _ _ _ _ (T_125.setTop (mkF m 34 #[rv a1, iv 5, rv b_1, iv 1, iv 3] [(.int 0)]))
        refine o_istoreN X_125 hx (hb hby d2_34) (l' := #[rv a1, iv 5, rv b_1, iv 0, iv 3]) rfl ?_
        refine o_goto X_125 hx (pc' := 15) (hb hby d2_35) (by decide) (by decide) ?_
        refine o_iloadN X_125 hx (hb hby d2_15) rfl ?_
        refine o_ifYes X_125 hx (pc' := 38) (hb hby d2_16) (flt (by decide : ¬ ((0 : Int32) < (0 : Int32)))).2.2.2 (by decide) (by decide) ?_
        refine o_aloadN X_125 hx (hb hby d2_38) rfl rfl ?_
        refine o_iload X_125 hx (hb hby d2_39) rfl ?_
        obtain ⟨cl_154, Ar_154, qk_154, Sz_154, Ng_154, Hs_154, Gs_154⟩ := id Fa_126
        refine own_st (X_125.iaload hx (j := (3 : Int32)) (v := (.int x3)) (by rw [e_125]; exact Ar_154.1) (State.isArrayOf_alike hZ.alike Ar_154.2.1) Ar_154.2.2 (inb_of Sz_154 ⟨by decide, by decide⟩) (Hs_154.at (j := (3 : Int32)) (inb_of Sz_154 ⟨by decide, by decide⟩) rfl) (g := (mkF m 41 #[rv a1, iv 5, rv b_1, iv 0, iv 3] [(.int 3), (.ref a1)])) rfl rfl (hb hby d2_41)) ?_
        show own_Go _ _ _ _ (T_125.setTop (mkF m 42 #[rv a1, iv 5, rv b_1, iv 0, iv 3] [(.int x3)]))
        refine o_aloadN X_125 hx (hb hby d2_42) rfl rfl ?_
        refine o_iloadN X_125 hx (hb hby d2_43) rfl ?_
        obtain ⟨cl_155, Ar_155, qk_155, Sz_155, Ng_155, Hs_155, Gs_155⟩ := id Fa_126
        refine own_st (X_125.iaload hx (j := (0 : Int32)) (v := (.int x0)) (by rw [e_125]; exact Ar_155.1) (State.isArrayOf_alike hZ.alike Ar_155.2.1) Ar_155.2.2 (inb_of Sz_155 ⟨by decide, by decide⟩) (Hs_155.at (j := (0 : Int32)) (inb_of Sz_155 ⟨by decide, by decide⟩) rfl) (g := (mkF m 44 #[rv a1, iv 5, rv b_1, iv 0, iv 3] [(.int 0), (.ref a1), (.int x3)])) rfl rfl (hb hby d2_44)) ?_
        show own_Go _ _ _ _ (T_125.setTop (mkF m 45 #[rv a1, iv 5, rv b_1, iv 0, iv 3] [(.int x0), (.int x3)]))
        by_cases hc45__156 : x3 = x0
        · have hv_157 := hv_152.trans (if_pos hc45__156)
          refine o_icmpNo X_125 hx (hb hby d2_45) (teq hc45__156).2 ?_
          refine o_iinc X_125 hx (hb hby d2_48) rfl (l' := #[rv a1, iv 5, rv b_1, iv 1, iv 3]) rfl ?_
          refine o_aloadN X_125 hx (hb hby d2_51) rfl rfl ?_
          refine o_iload X_125 hx (hb hby d2_52) rfl ?_
          refine o_iloadN X_125 hx (hb hby d2_54) rfl ?_
          obtain ⟨cl_158, Ar_158, qk_158, Sz_158, Ng_158, Hs_158, Gs_158⟩ := id V_125
          obtain ⟨T_159, h_159, X_159, e_159, W_159, st_159⟩ := stI X_125 hx hZ e_125 Ar_158 (j := (3 : Int32)) (inb_of Sz_158 ⟨by decide, by decide⟩) (g := (mkF m 55 #[rv a1, iv 5, rv b_1, iv 1, iv 3] [(.int 1), (.int 3), (.ref b_1)])) rfl rfl (hb hby d2_55)
          refine own_st st_159 ?_
          have V_159 : Arv Z h_159 b_1 k_1 .int (5 : Int32) [(.int (0 : Int32)), (.int (0 : Int32)), (.int (1 : Int32)), (.int (1 : Int32)), (.int (0 : Int32))] (.int (0 : Int32)) := Arv.set Ar_158 qk_158 Sz_158 Ng_158 Hs_158 Gs_158 rfl W_159 3 rfl (Nat.le_of_ble_eq_true rfl)
          have N_159 := Fr.snoc X_159 N_125 gg_1
          show own_Go _ _ _ _ (T_159.setTop (mkF m 56 #[rv a1, iv 5, rv b_1, iv 1, iv 3] []))
          refine o_iinc X_159 hx (hb hby d2_56) rfl (l' := #[rv a1, iv 5, rv b_1, iv 1, iv 4]) rfl ?_
          refine o_goto X_159 hx (pc' := 9) (hb hby d2_59) (by decide) (by decide) ?_
          refine o_iload X_159 hx (hb hby d2_9) rfl ?_
          refine o_iloadN X_159 hx (hb hby d2_11) rfl ?_
          refine o_icmpNo X_159 hx (hb hby d2_12) (tlt (by decide : (4 : Int32) < (5 : Int32))).2.1 ?_
          refine o_iloadN X_159 hx (hb hby d2_15) rfl ?_
          refine o_ifNo X_159 hx (hb hby d2_16) (tlt (by decide : (0 : Int32) < (1 : Int32))).2.2.2 ?_
          refine o_aloadN X_159 hx (hb hby d2_19) rfl rfl ?_
          refine o_iload X_159 hx (hb hby d2_20) rfl ?_
          have Fa_160 := (Fa_126.other W_159 (Nat.ne_of_lt (Nat.lt_of_lt_of_le V1.lt (Nat.le_of_eq g_1.symm))))
          obtain ⟨cl_161, Ar_161, qk_161, Sz_161, Ng_161, Hs_161, Gs_161⟩ := id Fa_160
          refine own_st (X_159.iaload hx (j := (4 : Int32)) (v := (.int x4)) (by rw [e_159]; exact Ar_161.1) (State.isArrayOf_alike hZ.alike Ar_161.2.1) Ar_161.2.2 (inb_of Sz_161 ⟨by decide, by decide⟩) (Hs_161.at (j := (4 : Int32)) (inb_of Sz_161 ⟨by decide, by decide⟩) rfl) (g := (mkF m 22 #[rv a1, iv 5, rv b_1, iv 1, iv 4] [(.int 4), (.ref a1)])) rfl rfl (hb hby d2_22)) ?_
          show own_Go _ _ _ _ (T_159.setTop (mkF m 23 #[rv a1, iv 5, rv b_1, iv 1, iv 4] [(.int x4)]))
          refine o_aloadN X_159 hx (hb hby d2_23) rfl rfl ?_
          refine o_iloadN X_159 hx (hb hby d2_24) rfl ?_
          obtain ⟨cl_162, Ar_162, qk_162, Sz_162, Ng_162, Hs_162, Gs_162⟩ := id Fa_160
          refine own_st (X_159.iaload hx (j := (1 : Int32)) (v := (.int x1)) (by rw [e_159]; exact Ar_162.1) (State.isArrayOf_alike hZ.alike Ar_162.2.1) Ar_162.2.2 (inb_of Sz_162 ⟨by decide, by decide⟩) (Hs_162.at (j := (1 : Int32)) (inb_of Sz_162 ⟨by decide, by decide⟩) rfl) (g := (mkF m 25 #[rv a1, iv 5, rv b_1, iv 1, iv 4] [(.int 1), (.ref a1), (.int x4)])) rfl rfl (hb hby d2_25)) ?_
          show own_Go _ _ _ _ (T_159.setTop (mkF m 26 #[rv a1, iv 5, rv b_1, iv 1, iv 4] [(.int x1), (.int x4)]))
          by_cases hc26__163 : x4 = x1
          · have hv_164 := hv_157.trans (if_pos hc26__163)
            refine o_icmpYes X_159 hx (pc' := 38) (hb hby d2_26) (teq hc26__163).1 (by decide) (by decide) ?_
            refine o_aloadN X_159 hx (hb hby d2_38) rfl rfl ?_
            refine o_iload X_159 hx (hb hby d2_39) rfl ?_
            obtain ⟨cl_165, Ar_165, qk_165, Sz_165, Ng_165, Hs_165, Gs_165⟩ := id Fa_160
            refine own_st (X_159.iaload hx (j := (4 : Int32)) (v := (.int x4)) (by rw [e_159]; exact Ar_165.1) (State.isArrayOf_alike hZ.alike Ar_165.2.1) Ar_165.2.2 (inb_of Sz_165 ⟨by decide, by decide⟩) (Hs_165.at (j := (4 : Int32)) (inb_of Sz_165 ⟨by decide, by decide⟩) rfl) (g := (mkF m 41 #[rv a1, iv 5, rv b_1, iv 1, iv 4] [(.int 4), (.ref a1)])) rfl rfl (hb hby d2_41)) ?_
            show own_Go _ _ _ _ (T_159.setTop (mkF m 42 #[rv a1, iv 5, rv b_1, iv 1, iv 4] [(.int x4)]))
            refine o_aloadN X_159 hx (hb hby d2_42) rfl rfl ?_
            refine o_iloadN X_159 hx (hb hby d2_43) rfl ?_
            obtain ⟨cl_166, Ar_166, qk_166, Sz_166, Ng_166, Hs_166, Gs_166⟩ := id Fa_160
            refine own_st (X_159.iaload hx (j := (1 : Int32)) (v := (.int x1)) (by rw [e_159]; exact Ar_166.1) (State.isArrayOf_alike hZ.alike Ar_166.2.1) Ar_166.2.2 (inb_of Sz_166 ⟨by decide, by decide⟩) (Hs_166.at (j := (1 : Int32)) (inb_of Sz_166 ⟨by decide, by decide⟩) rfl) (g := (mkF m 44 #[rv a1, iv 5, rv b_1, iv 1, iv 4] [(.int 1), (.ref a1), (.int x4)])) rfl rfl (hb hby d2_44)) ?_
            show own_Go _ _ _ _ (T_159.setTop (mkF m 45 #[rv a1, iv 5, rv b_1, iv 1, iv 4] [(.int x1), (.int x4)]))
            refine o_icmpNo X_159 hx (hb hby d2_45) (teq hc26__163).2 ?_
            refine o_iinc X_159 hx (hb hby d2_48) rfl (l' := #[rv a1, iv 5, rv b_1, iv 2, iv 4]) rfl ?_
            refine o_aloadN X_159 hx (hb hby d2_51) rfl rfl ?_
            refine o_iload X_159 hx (hb hby d2_52) rfl ?_
            refine o_iloadN X_159 hx (hb hby d2_54) rfl ?_
            obtain ⟨cl_167, Ar_167, qk_167, Sz_167, Ng_167, Hs_167, Gs_167⟩ := id V_159
            obtain ⟨T_168, h_168, X_168, e_168, W_168, st_168⟩ := stI X_159 hx hZ e_159 Ar_167 (j := (4 : Int32)) (inb_of Sz_167 ⟨by decide, by decide⟩) (g := (mkF m 55 #[rv a1, iv 5, rv b_1, iv 2, iv 4] [(.int 2), (.int 4), (.ref b_1)])) rfl rfl (hb hby d2_55)
            refine own_st st_168 ?_
            have V_168 : Arv Z h_168 b_1 k_1 .int (5 : Int32) [(.int (0 : Int32)), (.int (0 : Int32)), (.int (1 : Int32)), (.int (1 : Int32)), (.int (2 : Int32))] (.int (0 : Int32)) := Arv.set Ar_167 qk_167 Sz_167 Ng_167 Hs_167 Gs_167 rfl W_168 4 rfl (Nat.le_of_ble_eq_true rfl)
            have N_168 := Fr.snoc X_168 N_159 gg_1
            show own_Go _ _ _ _ (T_168.setTop (mkF m 56 #[rv a1, iv 5, rv b_1, iv 2, iv 4] []))
            refine o_iinc X_168 hx (hb hby d2_56) rfl (l' := #[rv a1, iv 5, rv b_1, iv 2, iv 5]) rfl ?_
            refine o_goto X_168 hx (pc' := 9) (hb hby d2_59) (by decide) (by decide) ?_
            refine o_iload X_168 hx (hb hby d2_9) rfl ?_
            refine o_iloadN X_168 hx (hb hby d2_11) rfl ?_
            refine o_icmpYes X_168 hx (pc' := 62) (hb hby d2_12) (flt (by decide : ¬ ((5 : Int32) < (5 : Int32)))).2.1 (by decide) (by decide) ?_
            refine o_aloadN X_168 hx (hb hby d2_62) rfl rfl ?_
            have Kp_169 : Keep h0 h_168 [] := ((((((Keep.refl h0 []).ext E_1).wr W_118 (Or.inr sz_1)).wr W_125 (Or.inr sz_1)).wr W_159 (Or.inr sz_1)).wr W_168 (Or.inr sz_1))
            exact own_end X_168 e_168 (v := some (.ref b_1)) (fun h => by rw [Bd.returns] at h; cases h) hlk (fun fs hr => own_retA X_168 hx Bd.returns rfl rfl (hb hby d2_63) hr) (Q := Q_rmbo5 Z a0 a1 k dv x0 x1 x2 x3 x4 h0 n0) ⟨b_1, k_1, rfl, N_168, Kp_169, gg_1, sz_1, (Eq.mp (congrArg (fun z => Arv Z h_168 b_1 k_1 .int (5 : Int32) z (.int (0 : Int32))) (hv_164.symm.trans (own_bord_eq5 x0 x1 x2 x3 x4))) V_168)⟩ (by decide) (by decide)
          · have hv_170 := hv_157.trans (if_neg hc26__163)
            refine o_icmpNo X_159 hx (hb hby d2_26) (feq hc26__163).1 ?_
            refine o_aloadN X_159 hx (hb hby d2_29) rfl rfl ?_
            refine o_iloadN X_159 hx (hb hby d2_30) rfl ?_
            refine o_iconst X_159 hx 1 (hb hby d2_31) rfl ?_
            refine o_isub X_159 hx (hb hby d2_32) ?_
            show own_Go _ _ _ _ (T_159.setTop (mkF m 33 #[rv a1, iv 5, rv b_1, iv 1, iv 4] [(.int 0), (.ref b_1)]))
            obtain ⟨cl_171, Ar_171, qk_171, Sz_171, Ng_171, Hs_171, Gs_171⟩ := id V_159
            refine own_st (X_159.iaload hx (j := (0 : Int32)) (v := (.int (0 : Int32))) (by rw [e_159]; exact Ar_171.1) (State.isArrayOf_alike hZ.alike Ar_171.2.1) Ar_171.2.2 (inb_of Sz_171 ⟨by decide, by decide⟩) (Hs_171.at (j := (0 : Int32)) (inb_of Sz_171 ⟨by decide, by decide⟩) rfl) (g := (mkF m 33 #[rv a1, iv 5, rv b_1, iv 1, iv 4] [(.int 0), (.ref b_1)])) rfl rfl (hb hby d2_33)) ?_
            show own_Go _ _ _ _ (T_159.setTop (mkF m 34 #[rv a1, iv 5, rv b_1, iv 1, iv 4] [(.int 0)]))
            refine o_istoreN X_159 hx (hb hby d2_34) (l' := #[rv a1, iv 5, rv b_1, iv 0, iv 4]) rfl ?_
            refine o_goto X_159 hx (pc' := 15) (hb hby d2_35) (by decide) (by decide) ?_
            refine o_iloadN X_159 hx (hb hby d2_15) rfl ?_
            refine o_ifYes X_159 hx (pc' := 38) (hb hby d2_16) (flt (by decide : ¬ ((0 : Int32) < (0 : Int32)))).2.2.2 (by decide) (by decide) ?_
            refine o_aloadN X_159 hx (hb hby d2_38) rfl rfl ?_
            refine o_iload X_159 hx (hb hby d2_39) rfl ?_
            obtain ⟨cl_172, Ar_172, qk_172, Sz_172, Ng_172, Hs_172, Gs_172⟩ := id Fa_160
            refine own_st (X_159.iaload hx (j := (4 : Int32)) (v := (.int x4)) (by rw [e_159]; exact Ar_172.1) (State.isArrayOf_alike hZ.alike Ar_172.2.1) Ar_172.2.2 (inb_of Sz_172 ⟨by decide, by decide⟩) (Hs_172.at (j := (4 : Int32)) (inb_of Sz_172 ⟨by decide, by decide⟩) rfl) (g := (mkF m 41 #[rv a1, iv 5, rv b_1, iv 0, iv 4] [(.int 4), (.ref a1)])) rfl rfl (hb hby d2_41)) ?_
            show own_Go _ _ _ _ (T_159.setTop (mkF m 42 #[rv a1, iv 5, rv b_1, iv 0, iv 4] [(.int x4)]))
            refine o_aloadN X_159 hx (hb hby d2_42) rfl rfl ?_
            refine o_iloadN X_159 hx (hb hby d2_43) rfl ?_
            obtain ⟨cl_173, Ar_173, qk_173, Sz_173, Ng_173, Hs_173, Gs_173⟩ := id Fa_160
            refine own_st (X_159.iaload hx (j := (0 : Int32)) (v := (.int x0)) (by rw [e_159]; exact Ar_173.1) (State.isArrayOf_alike hZ.alike Ar_173.2.1) Ar_173.2.2 (inb_of Sz_173 ⟨by decide, by decide⟩) (Hs_173.at (j := (0 : Int32)) (inb_of Sz_173 ⟨by decide, by decide⟩) rfl) (g := (mkF m 44 #[rv a1, iv 5, rv b_1, iv 0, iv 4] [(.int 0), (.ref a1), (.int x4)])) rfl rfl (hb hby d2_44)) ?_
            show own_Go _ _ _ _ (T_159.setTop (mkF m 45 #[rv a1, iv 5, rv b_1, iv 0, iv 4] [(.int x0), (.int x4)]))
            by_cases hc45__174 : x4 = x0
            · have hv_175 := hv_170.trans (if_pos hc45__174)
              refine o_icmpNo X_159 hx (hb hby d2_45) (teq hc45__174).2 ?_
              refine o_iinc X_159 hx (hb hby d2_48) rfl (l' := #[rv a1, iv 5, rv b_1, iv 1, iv 4]) rfl ?_
              refine o_aloadN X_159 hx (hb hby d2_51) rfl rfl ?_
              refine o_iload X_159 hx (hb hby d2_52) rfl ?_
              refine o_iloadN X_159 hx (hb hby d2_54) rfl ?_
              obtain ⟨cl_176, Ar_176, qk_176, Sz_176, Ng_176, Hs_176, Gs_176⟩ := id V_159
              obtain ⟨T_177, h_177, X_177, e_177, W_177, st_177⟩ := stI X_159 hx hZ e_159 Ar_176 (j := (4 : Int32)) (inb_of Sz_176 ⟨by decide, by decide⟩) (g := (mkF m 55 #[rv a1, iv 5, rv b_1, iv 1, iv 4] [(.int 1), (.int 4), (.ref b_1)])) rfl rfl (hb hby d2_55)
              refine own_st st_177 ?_
              have V_177 : Arv Z h_177 b_1 k_1 .int (5 : Int32) [(.int (0 : Int32)), (.int (0 : Int32)), (.int (1 : Int32)), (.int (1 : Int32)), (.int (1 : Int32))] (.int (0 : Int32)) := Arv.set Ar_176 qk_176 Sz_176 Ng_176 Hs_176 Gs_176 rfl W_177 4 rfl (Nat.le_of_ble_eq_true rfl)
              have N_177 := Fr.snoc X_177 N_159 gg_1
              show own_Go _ _ _ _ (T_177.setTop (mkF m 56 #[rv a1, iv 5, rv b_1, iv 1, iv 4] []))
              refine o_iinc X_177 hx (hb hby d2_56) rfl (l' := #[rv a1, iv 5, rv b_1, iv 1, iv 5]) rfl ?_
              refine o_goto X_177 hx (pc' := 9) (hb hby d2_59) (by decide) (by decide) ?_
              refine o_iload X_177 hx (hb hby d2_9) rfl ?_
              refine o_iloadN X_177 hx (hb hby d2_11) rfl ?_
              refine o_icmpYes X_177 hx (pc' := 62) (hb hby d2_12) (flt (by decide : ¬ ((5 : Int32) < (5 : Int32)))).2.1 (by decide) (by decide) ?_
              refine o_aloadN X_177 hx (hb hby d2_62) rfl rfl ?_
              have Kp_178 : Keep h0 h_177 [] := ((((((Keep.refl h0 []).ext E_1).wr W_118 (Or.inr sz_1)).wr W_125 (Or.inr sz_1)).wr W_159 (Or.inr sz_1)).wr W_177 (Or.inr sz_1))
              exact own_end X_177 e_177 (v := some (.ref b_1)) (fun h => by rw [Bd.returns] at h; cases h) hlk (fun fs hr => own_retA X_177 hx Bd.returns rfl rfl (hb hby d2_63) hr) (Q := Q_rmbo5 Z a0 a1 k dv x0 x1 x2 x3 x4 h0 n0) ⟨b_1, k_1, rfl, N_177, Kp_178, gg_1, sz_1, (Eq.mp (congrArg (fun z => Arv Z h_177 b_1 k_1 .int (5 : Int32) z (.int (0 : Int32))) (hv_175.symm.trans (own_bord_eq5 x0 x1 x2 x3 x4))) V_177)⟩ (by decide) (by decide)
            · have hv_179 := hv_170.trans (if_neg hc45__174)
              refine o_icmpYes X_159 hx (pc' := 51) (hb hby d2_45) (feq hc45__174).2 (by decide) (by decide) ?_
              refine o_aloadN X_159 hx (hb hby d2_51) rfl rfl ?_
              refine o_iload X_159 hx (hb hby d2_52) rfl ?_
              refine o_iloadN X_159 hx (hb hby d2_54) rfl ?_
              obtain ⟨cl_180, Ar_180, qk_180, Sz_180, Ng_180, Hs_180, Gs_180⟩ := id V_159
              obtain ⟨T_181, h_181, X_181, e_181, W_181, st_181⟩ := stI X_159 hx hZ e_159 Ar_180 (j := (4 : Int32)) (inb_of Sz_180 ⟨by decide, by decide⟩) (g := (mkF m 55 #[rv a1, iv 5, rv b_1, iv 0, iv 4] [(.int 0), (.int 4), (.ref b_1)])) rfl rfl (hb hby d2_55)
              refine own_st st_181 ?_
              have V_181 : Arv Z h_181 b_1 k_1 .int (5 : Int32) [(.int (0 : Int32)), (.int (0 : Int32)), (.int (1 : Int32)), (.int (1 : Int32)), (.int (0 : Int32))] (.int (0 : Int32)) := Arv.set Ar_180 qk_180 Sz_180 Ng_180 Hs_180 Gs_180 rfl W_181 4 rfl (Nat.le_of_ble_eq_true rfl)
              have N_181 := Fr.snoc X_181 N_159 gg_1
              show own_Go _ _ _ _ (T_181.setTop (mkF m 56 #[rv a1, iv 5, rv b_1, iv 0, iv 4] []))
              refine o_iinc X_181 hx (hb hby d2_56) rfl (l' := #[rv a1, iv 5, rv b_1, iv 0, iv 5]) rfl ?_
              refine o_goto X_181 hx (pc' := 9) (hb hby d2_59) (by decide) (by decide) ?_
              refine o_iload X_181 hx (hb hby d2_9) rfl ?_
              refine o_iloadN X_181 hx (hb hby d2_11) rfl ?_
              refine o_icmpYes X_181 hx (pc' := 62) (hb hby d2_12) (flt (by decide : ¬ ((5 : Int32) < (5 : Int32)))).2.1 (by decide) (by decide) ?_
              refine o_aloadN X_181 hx (hb hby d2_62) rfl rfl ?_
              have Kp_182 : Keep h0 h_181 [] := ((((((Keep.refl h0 []).ext E_1).wr W_118 (Or.inr sz_1)).wr W_125 (Or.inr sz_1)).wr W_159 (Or.inr sz_1)).wr W_181 (Or.inr sz_1))
              exact own_end X_181 e_181 (v := some (.ref b_1)) (fun h => by rw [Bd.returns] at h; cases h) hlk (fun fs hr => own_retA X_181 hx Bd.returns rfl rfl (hb hby d2_63) hr) (Q := Q_rmbo5 Z a0 a1 k dv x0 x1 x2 x3 x4 h0 n0) ⟨b_1, k_1, rfl, N_181, Kp_182, gg_1, sz_1, (Eq.mp (congrArg (fun z => Arv Z h_181 b_1 k_1 .int (5 : Int32) z (.int (0 : Int32))) (hv_179.symm.trans (own_bord_eq5 x0 x1 x2 x3 x4))) V_181)⟩ (by decide) (by decide)
        · have hv_183 := hv_152.trans (if_neg hc45__156)
          refine o_icmpYes X_125 hx (pc' := 51) (hb hby d2_45) (feq hc45__156).2 (by decide) (by decide) ?_
          refine o_aloadN X_125 hx (hb hby d2_51) rfl rfl ?_
          refine o_iload X_125 hx (hb hby d2_52) rfl ?_
          refine o_iloadN X_125 hx (hb hby d2_54) rfl ?_
          obtain ⟨cl_184, Ar_184, qk_184, Sz_184, Ng_184, Hs_184, Gs_184⟩ := id V_125
          obtain ⟨T_185, h_185, X_185, e_185, W_185, st_185⟩ := stI X_125 hx hZ e_125 Ar_184 (j := (3 : Int32)) (inb_of Sz_184 ⟨by decide, by decide⟩) (g := (mkF m 55 #[rv a1, iv 5, rv b_1, iv 0, iv 3] [(.int 0), (.int 3), (.ref b_1)])) rfl rfl (hb hby d2_55)
          refine own_st st_185 ?_
          have V_185 : Arv Z h_185 b_1 k_1 .int (5 : Int32) [(.int (0 : Int32)), (.int (0 : Int32)), (.int (1 : Int32)), (.int (0 : Int32)), (.int (0 : Int32))] (.int (0 : Int32)) := Arv.set Ar_184 qk_184 Sz_184 Ng_184 Hs_184 Gs_184 rfl W_185 3 rfl (Nat.le_of_ble_eq_true rfl)
          have N_185 := Fr.snoc X_185 N_125 gg_1
          show own_Go _ _ _ _ (T_185.setTop (mkF m 56 #[rv a1, iv 5, rv b_1, iv 0, iv 3] []))
          refine o_iinc X_185 hx (hb hby d2_56) rfl (l' := #[rv a1, iv 5, rv b_1, iv 0, iv 4]) rfl ?_
          refine o_goto X_185 hx (pc' := 9) (hb hby d2_59) (by decide) (by decide) ?_
          refine o_iload X_185 hx (hb hby d2_9) rfl ?_
          refine o_iloadN X_185 hx (hb hby d2_11) rfl ?_
          refine o_icmpNo X_185 hx (hb hby d2_12) (tlt (by decide : (4 : Int32) < (5 : Int32))).2.1 ?_
          refine o_iloadN X_185 hx (hb hby d2_15) rfl ?_
          refine o_ifYes X_185 hx (pc' := 38) (hb hby d2_16) (flt (by decide : ¬ ((0 : Int32) < (0 : Int32)))).2.2.2 (by decide) (by decide) ?_
          refine o_aloadN X_185 hx (hb hby d2_38) rfl rfl ?_
          refine o_iload X_185 hx (hb hby d2_39) rfl ?_
          have Fa_186 := (Fa_126.other W_185 (Nat.ne_of_lt (Nat.lt_of_lt_of_le V1.lt (Nat.le_of_eq g_1.symm))))
          obtain ⟨cl_187, Ar_187, qk_187, Sz_187, Ng_187, Hs_187, Gs_187⟩ := id Fa_186
          refine own_st (X_185.iaload hx (j := (4 : Int32)) (v := (.int x4)) (by rw [e_185]; exact Ar_187.1) (State.isArrayOf_alike hZ.alike Ar_187.2.1) Ar_187.2.2 (inb_of Sz_187 ⟨by decide, by decide⟩) (Hs_187.at (j := (4 : Int32)) (inb_of Sz_187 ⟨by decide, by decide⟩) rfl) (g := (mkF m 41 #[rv a1, iv 5, rv b_1, iv 0, iv 4] [(.int 4), (.ref a1)])) rfl rfl (hb hby d2_41)) ?_
          show own_Go _ _ _ _ (T_185.setTop (mkF m 42 #[rv a1, iv 5, rv b_1, iv 0, iv 4] [(.int x4)]))
          refine o_aloadN X_185 hx (hb hby d2_42) rfl rfl ?_
          refine o_iloadN X_185 hx (hb hby d2_43) rfl ?_
          obtain ⟨cl_188, Ar_188, qk_188, Sz_188, Ng_188, Hs_188, Gs_188⟩ := id Fa_186
          refine own_st (X_185.iaload hx (j := (0 : Int32)) (v := (.int x0)) (by rw [e_185]; exact Ar_188.1) (State.isArrayOf_alike hZ.alike Ar_188.2.1) Ar_188.2.2 (inb_of Sz_188 ⟨by decide, by decide⟩) (Hs_188.at (j := (0 : Int32)) (inb_of Sz_188 ⟨by decide, by decide⟩) rfl) (g := (mkF m 44 #[rv a1, iv 5, rv b_1, iv 0, iv 4] [(.int 0), (.ref a1), (.int x4)])) rfl rfl (hb hby d2_44)) ?_
          show own_Go _ _ _ _ (T_185.setTop (mkF m 45 #[rv a1, iv 5, rv b_1, iv 0, iv 4] [(.int x0), (.int x4)]))
          by_cases hc45__189 : x4 = x0
          · have hv_190 := hv_183.trans (if_pos hc45__189)
            refine o_icmpNo X_185 hx (hb hby d2_45) (teq hc45__189).2 ?_
            refine o_iinc X_185 hx (hb hby d2_48) rfl (l' := #[rv a1, iv 5, rv b_1, iv 1, iv 4]) rfl ?_
            refine o_aloadN X_185 hx (hb hby d2_51) rfl rfl ?_
            refine o_iload X_185 hx (hb hby d2_52) rfl ?_
            refine o_iloadN X_185 hx (hb hby d2_54) rfl ?_
            obtain ⟨cl_191, Ar_191, qk_191, Sz_191, Ng_191, Hs_191, Gs_191⟩ := id V_185
            obtain ⟨T_192, h_192, X_192, e_192, W_192, st_192⟩ := stI X_185 hx hZ e_185 Ar_191 (j := (4 : Int32)) (inb_of Sz_191 ⟨by decide, by decide⟩) (g := (mkF m 55 #[rv a1, iv 5, rv b_1, iv 1, iv 4] [(.int 1), (.int 4), (.ref b_1)])) rfl rfl (hb hby d2_55)
            refine own_st st_192 ?_
            have V_192 : Arv Z h_192 b_1 k_1 .int (5 : Int32) [(.int (0 : Int32)), (.int (0 : Int32)), (.int (1 : Int32)), (.int (0 : Int32)), (.int (1 : Int32))] (.int (0 : Int32)) := Arv.set Ar_191 qk_191 Sz_191 Ng_191 Hs_191 Gs_191 rfl W_192 4 rfl (Nat.le_of_ble_eq_true rfl)
            have N_192 := Fr.snoc X_192 N_185 gg_1
            show own_Go _ _ _ _ (T_192.setTop (mkF m 56 #[rv a1, iv 5, rv b_1, iv 1, iv 4] []))
            refine o_iinc X_192 hx (hb hby d2_56) rfl (l' := #[rv a1, iv 5, rv b_1, iv 1, iv 5]) rfl ?_
            refine o_goto X_192 hx (pc' := 9) (hb hby d2_59) (by decide) (by decide) ?_
            refine o_iload X_192 hx (hb hby d2_9) rfl ?_
            refine o_iloadN X_192 hx (hb hby d2_11) rfl ?_
            refine o_icmpYes X_192 hx (pc' := 62) (hb hby d2_12) (flt (by decide : ¬ ((5 : Int32) < (5 : Int32)))).2.1 (by decide) (by decide) ?_
            refine o_aloadN X_192 hx (hb hby d2_62) rfl rfl ?_
            have Kp_193 : Keep h0 h_192 [] := ((((((Keep.refl h0 []).ext E_1).wr W_118 (Or.inr sz_1)).wr W_125 (Or.inr sz_1)).wr W_185 (Or.inr sz_1)).wr W_192 (Or.inr sz_1))
            exact own_end X_192 e_192 (v := some (.ref b_1)) (fun h => by rw [Bd.returns] at h; cases h) hlk (fun fs hr => own_retA X_192 hx Bd.returns rfl rfl (hb hby d2_63) hr) (Q := Q_rmbo5 Z a0 a1 k dv x0 x1 x2 x3 x4 h0 n0) ⟨b_1, k_1, rfl, N_192, Kp_193, gg_1, sz_1, (Eq.mp (congrArg (fun z => Arv Z h_192 b_1 k_1 .int (5 : Int32) z (.int (0 : Int32))) (hv_190.symm.trans (own_bord_eq5 x0 x1 x2 x3 x4))) V_192)⟩ (by decide) (by decide)
          · have hv_194 := hv_183.trans (if_neg hc45__189)
            refine o_icmpYes X_185 hx (pc' := 51) (hb hby d2_45) (feq hc45__189).2 (by decide) (by decide) ?_
            refine o_aloadN X_185 hx (hb hby d2_51) rfl rfl ?_
            refine o_iload X_185 hx (hb hby d2_52) rfl ?_
            refine o_iloadN X_185 hx (hb hby d2_54) rfl ?_
            obtain ⟨cl_195, Ar_195, qk_195, Sz_195, Ng_195, Hs_195, Gs_195⟩ := id V_185
            obtain ⟨T_196, h_196, X_196, e_196, W_196, st_196⟩ := stI X_185 hx hZ e_185 Ar_195 (j := (4 : Int32)) (inb_of Sz_195 ⟨by decide, by decide⟩) (g := (mkF m 55 #[rv a1, iv 5, rv b_1, iv 0, iv 4] [(.int 0), (.int 4), (.ref b_1)])) rfl rfl (hb hby d2_55)
            refine own_st st_196 ?_
            have V_196 : Arv Z h_196 b_1 k_1 .int (5 : Int32) [(.int (0 : Int32)), (.int (0 : Int32)), (.int (1 : Int32)), (.int (0 : Int32)), (.int (0 : Int32))] (.int (0 : Int32)) := Arv.set Ar_195 qk_195 Sz_195 Ng_195 Hs_195 Gs_195 rfl W_196 4 rfl (Nat.le_of_ble_eq_true rfl)
            have N_196 := Fr.snoc X_196 N_185 gg_1
            show own_Go _ _ _ _ (T_196.setTop (mkF m 56 #[rv a1, iv 5, rv b_1, iv 0, iv 4] []))
            refine o_iinc X_196 hx (hb hby d2_56) rfl (l' := #[rv a1, iv 5, rv b_1, iv 0, iv 5]) rfl ?_
            refine o_goto X_196 hx (pc' := 9) (hb hby d2_59) (by decide) (by decide) ?_
            refine o_iload X_196 hx (hb hby d2_9) rfl ?_
            refine o_iloadN X_196 hx (hb hby d2_11) rfl ?_
            refine o_icmpYes X_196 hx (pc' := 62) (hb hby d2_12) (flt (by decide : ¬ ((5 : Int32) < (5 : Int32)))).2.1 (by decide) (by decide) ?_
            refine o_aloadN X_196 hx (hb hby d2_62) rfl rfl ?_
            have Kp_197 : Keep h0 h_196 [] := ((((((Keep.refl h0 []).ext E_1).wr W_118 (Or.inr sz_1)).wr W_125 (Or.inr sz_1)).wr W_185 (Or.inr sz_1)).wr W_196 (Or.inr sz_1))
            exact own_end X_196 e_196 (v := some (.ref b_1)) (fun h => by rw [Bd.returns] at h; cases h) hlk (fun fs hr => own_retA X_196 hx Bd.returns rfl rfl (hb hby d2_63) hr) (Q := Q_rmbo5 Z a0 a1 k dv x0 x1 x2 x3 x4 h0 n0) ⟨b_1, k_1, rfl, N_196, Kp_197, gg_1, sz_1, (Eq.mp (congrArg (fun z => Arv Z h_196 b_1 k_1 .int (5 : Int32) z (.int (0 : Int32))) (hv_194.symm.trans (own_bord_eq5 x0 x1 x2 x3 x4))) V_196)⟩ (by decide) (by decide)
    · have hv_198 := hv_116.trans (if_neg hc45__122)
      refine o_icmpYes X_118 hx (pc' := 51) (hb hby d2_45) (feq hc45__122).2 (by decide) (by decide) ?_
      refine o_aloadN X_118 hx (hb hby d2_51) rfl rfl ?_
      refine o_iload X_118 hx (hb hby d2_52) rfl ?_
      refine o_iloadN X_118 hx (hb hby d2_54) rfl ?_
      obtain ⟨cl_199, Ar_199, qk_199, Sz_199, Ng_199, Hs_199, Gs_199⟩ := id V_118
      obtain ⟨T_200, h_200, X_200, e_200, W_200, st_200⟩ := stI X_118 hx hZ e_118 Ar_199 (j := (2 : Int32)) (inb_of Sz_199 ⟨by decide, by decide⟩) (g := (mkF m 55 #[rv a1, iv 5, rv b_1, iv 0, iv 2] [(.int 0), (.int 2), (.ref b_1)])) rfl rfl (hb hby d2_55)
      refine own_st st_200 ?_
      have V_200 : Arv Z h_200 b_1 k_1 .int (5 : Int32) [(.int (0 : Int32)), (.int (0 : Int32)), (.int (0 : Int32)), (.int (0 : Int32)), (.int (0 : Int32))] (.int (0 : Int32)) := Arv.set Ar_199 qk_199 Sz_199 Ng_199 Hs_199 Gs_199 rfl W_200 2 rfl (Nat.le_of_ble_eq_true rfl)
      have N_200 := Fr.snoc X_200 N_118 gg_1
      show own_Go _ _ _ _ (T_200.setTop (mkF m 56 #[rv a1, iv 5, rv b_1, iv 0, iv 2] []))
      refine o_iinc X_200 hx (hb hby d2_56) rfl (l' := #[rv a1, iv 5, rv b_1, iv 0, iv 3]) rfl ?_
      refine o_goto X_200 hx (pc' := 9) (hb hby d2_59) (by decide) (by decide) ?_
      refine o_iload X_200 hx (hb hby d2_9) rfl ?_
      refine o_iloadN X_200 hx (hb hby d2_11) rfl ?_
      refine o_icmpNo X_200 hx (hb hby d2_12) (tlt (by decide : (3 : Int32) < (5 : Int32))).2.1 ?_
      refine o_iloadN X_200 hx (hb hby d2_15) rfl ?_
      refine o_ifYes X_200 hx (pc' := 38) (hb hby d2_16) (flt (by decide : ¬ ((0 : Int32) < (0 : Int32)))).2.2.2 (by decide) (by decide) ?_
      refine o_aloadN X_200 hx (hb hby d2_38) rfl rfl ?_
      refine o_iload X_200 hx (hb hby d2_39) rfl ?_
      have Fa_201 := (Fa_119.other W_200 (Nat.ne_of_lt (Nat.lt_of_lt_of_le V1.lt (Nat.le_of_eq g_1.symm))))
      obtain ⟨cl_202, Ar_202, qk_202, Sz_202, Ng_202, Hs_202, Gs_202⟩ := id Fa_201
      refine own_st (X_200.iaload hx (j := (3 : Int32)) (v := (.int x3)) (by rw [e_200]; exact Ar_202.1) (State.isArrayOf_alike hZ.alike Ar_202.2.1) Ar_202.2.2 (inb_of Sz_202 ⟨by decide, by decide⟩) (Hs_202.at (j := (3 : Int32)) (inb_of Sz_202 ⟨by decide, by decide⟩) rfl) (g := (mkF m 41 #[rv a1, iv 5, rv b_1, iv 0, iv 3] [(.int 3), (.ref a1)])) rfl rfl (hb hby d2_41)) ?_
      show own_Go _ _ _ _ (T_200.setTop (mkF m 42 #[rv a1, iv 5, rv b_1, iv 0, iv 3] [(.int x3)]))
      refine o_aloadN X_200 hx (hb hby d2_42) rfl rfl ?_
      refine o_iloadN X_200 hx (hb hby d2_43) rfl ?_
      obtain ⟨cl_203, Ar_203, qk_203, Sz_203, Ng_203, Hs_203, Gs_203⟩ := id Fa_201
      refine own_st (X_200.iaload hx (j := (0 : Int32)) (v := (.int x0)) (by rw [e_200]; exact Ar_203.1) (State.isArrayOf_alike hZ.alike Ar_203.2.1) Ar_203.2.2 (inb_of Sz_203 ⟨by decide, by decide⟩) (Hs_203.at (j := (0 : Int32)) (inb_of Sz_203 ⟨by decide, by decide⟩) rfl) (g := (mkF m 44 #[rv a1, iv 5, rv b_1, iv 0, iv 3] [(.int 0), (.ref a1), (.int x3)])) rfl rfl (hb hby d2_44)) ?_
      show own_Go _ _ _ _ (T_200.setTop (mkF m 45 #[rv a1, iv 5, rv b_1, iv 0, iv 3] [(.int x0), (.int x3)]))
      by_cases hc45__204 : x3 = x0
      · have hv_205 := hv_198.trans (if_pos hc45__204)
        refine o_icmpNo X_200 hx (hb hby d2_45) (teq hc45__204).2 ?_
        refine o_iinc X_200 hx (hb hby d2_48) rfl (l' := #[rv a1, iv 5, rv b_1, iv 1, iv 3]) rfl ?_
        refine o_aloadN X_200 hx (hb hby d2_51) rfl rfl ?_
        refine o_iload X_200 hx (hb hby d2_52) rfl ?_
        refine o_iloadN X_200 hx (hb hby d2_54) rfl ?_
        obtain ⟨cl_206, Ar_206, qk_206, Sz_206, Ng_206, Hs_206, Gs_206⟩ := id V_200
        obtain ⟨T_207, h_207, X_207, e_207, W_207, st_207⟩ := stI X_200 hx hZ e_200 Ar_206 (j := (3 : Int32)) (inb_of Sz_206 ⟨by decide, by decide⟩) (g := (mkF m 55 #[rv a1, iv 5, rv b_1, iv 1, iv 3] [(.int 1), (.int 3), (.ref b_1)])) rfl rfl (hb hby d2_55)
        refine own_st st_207 ?_
        have V_207 : Arv Z h_207 b_1 k_1 .int (5 : Int32) [(.int (0 : Int32)), (.int (0 : Int32)), (.int (0 : Int32)), (.int (1 : Int32)), (.int (0 : Int32))] (.int (0 : Int32)) := Arv.set Ar_206 qk_206 Sz_206 Ng_206 Hs_206 Gs_206 rfl W_207 3 rfl (Nat.le_of_ble_eq_true rfl)
        have N_207 := Fr.snoc X_207 N_200 gg_1
        show own_Go _ _ _ _ (T_207.setTop (mkF m 56 #[rv a1, iv 5, rv b_1, iv 1, iv 3] []))
        refine o_iinc X_207 hx (hb hby d2_56) rfl (l' := #[rv a1, iv 5, rv b_1, iv 1, iv 4]) rfl ?_
        refine o_goto X_207 hx (pc' := 9) (hb hby d2_59) (by decide) (by decide) ?_
        refine o_iload X_207 hx (hb hby d2_9) rfl ?_
        refine o_iloadN X_207 hx (hb hby d2_11) rfl ?_
        refine o_icmpNo X_207 hx (hb hby d2_12) (tlt (by decide : (4 : Int32) < (5 : Int32))).2.1 ?_
        refine o_iloadN X_207 hx (hb hby d2_15) rfl ?_
        refine o_ifNo X_207 hx (hb hby d2_16) (tlt (by decide : (0 : Int32) < (1 : Int32))).2.2.2 ?_
        refine o_aloadN X_207 hx (hb hby d2_19) rfl rfl ?_
        refine o_iload X_207 hx (hb hby d2_20) rfl ?_
        have Fa_208 := (Fa_201.other W_207 (Nat.ne_of_lt (Nat.lt_of_lt_of_le V1.lt (Nat.le_of_eq g_1.symm))))
        obtain ⟨cl_209, Ar_209, qk_209, Sz_209, Ng_209, Hs_209, Gs_209⟩ := id Fa_208
        refine own_st (X_207.iaload hx (j := (4 : Int32)) (v := (.int x4)) (by rw [e_207]; exact Ar_209.1) (State.isArrayOf_alike hZ.alike Ar_209.2.1) Ar_209.2.2 (inb_of Sz_209 ⟨by decide, by decide⟩) (Hs_209.at (j := (4 : Int32)) (inb_of Sz_209 ⟨by decide, by decide⟩) rfl) (g := (mkF m 22 #[rv a1, iv 5, rv b_1, iv 1, iv 4] [(.int 4), (.ref a1)])) rfl rfl (hb hby d2_22)) ?_
        show own_Go _ _ _ _ (T_207.setTop (mkF m 23 #[rv a1, iv 5, rv b_1, iv 1, iv 4] [(.int x4)]))
        refine o_aloadN X_207 hx (hb hby d2_23) rfl rfl ?_
        refine o_iloadN X_207 hx (hb hby d2_24) rfl ?_
        obtain ⟨cl_210, Ar_210, qk_210, Sz_210, Ng_210, Hs_210, Gs_210⟩ := id Fa_208
        refine own_st (X_207.iaload hx (j := (1 : Int32)) (v := (.int x1)) (by rw [e_207]; exact Ar_210.1) (State.isArrayOf_alike hZ.alike Ar_210.2.1) Ar_210.2.2 (inb_of Sz_210 ⟨by decide, by decide⟩) (Hs_210.at (j := (1 : Int32)) (inb_of Sz_210 ⟨by decide, by decide⟩) rfl) (g := (mkF m 25 #[rv a1, iv 5, rv b_1, iv 1, iv 4] [(.int 1), (.ref a1), (.int x4)])) rfl rfl (hb hby d2_25)) ?_
        show own_Go _ _ _ _ (T_207.setTop (mkF m 26 #[rv a1, iv 5, rv b_1, iv 1, iv 4] [(.int x1), (.int x4)]))
        by_cases hc26__211 : x4 = x1
        · have hv_212 := hv_205.trans (if_pos hc26__211)
          refine o_icmpYes X_207 hx (pc' := 38) (hb hby d2_26) (teq hc26__211).1 (by decide) (by decide) ?_
          refine o_aloadN X_207 hx (hb hby d2_38) rfl rfl ?_
          refine o_iload X_207 hx (hb hby d2_39) rfl ?_
          obtain ⟨cl_213, Ar_213, qk_213, Sz_213, Ng_213, Hs_213, Gs_213⟩ := id Fa_208
          refine own_st (X_207.iaload hx (j := (4 : Int32)) (v := (.int x4)) (by rw [e_207]; exact Ar_213.1) (State.isArrayOf_alike hZ.alike Ar_213.2.1) Ar_213.2.2 (inb_of Sz_213 ⟨by decide, by decide⟩) (Hs_213.at (j := (4 : Int32)) (inb_of Sz_213 ⟨by decide, by decide⟩) rfl) (g := (mkF m 41 #[rv a1, iv 5, rv b_1, iv 1, iv 4] [(.int 4), (.ref a1)])) rfl rfl (hb hby d2_41)) ?_
          show own_Go _ _ _ _ (T_207.setTop (mkF m 42 #[rv a1, iv 5, rv b_1, iv 1, iv 4] [(.int x4)]))
          refine o_aloadN X_207 hx (hb hby d2_42) rfl rfl ?_
          refine o_iloadN X_207 hx (hb hby d2_43) rfl ?_
          obtain ⟨cl_214, Ar_214, qk_214, Sz_214, Ng_214, Hs_214, Gs_214⟩ := id Fa_208
          refine own_st (X_207.iaload hx (j := (1 : Int32)) (v := (.int x1)) (by rw [e_207]; exact Ar_214.1) (State.isArrayOf_alike hZ.alike Ar_214.2.1) Ar_214.2.2 (inb_of Sz_214 ⟨by decide, by decide⟩) (Hs_214.at (j := (1 : Int32)) (inb_of Sz_214 ⟨by decide, by decide⟩) rfl) (g := (mkF m 44 #[rv a1, iv 5, rv b_1, iv 1, iv 4] [(.int 1), (.ref a1), (.int x4)])) rfl rfl (hb hby d2_44)) ?_
          show own_Go _ _ _ _ (T_207.setTop (mkF m 45 #[rv a1, iv 5, rv b_1, iv 1, iv 4] [(.int x1), (.int x4)]))
          refine o_icmpNo X_207 hx (hb hby d2_45) (teq hc26__211).2 ?_
          refine o_iinc X_207 hx (hb hby d2_48) rfl (l' := #[rv a1, iv 5, rv b_1, iv 2, iv 4]) rfl ?_
          refine o_aloadN X_207 hx (hb hby d2_51) rfl rfl ?_
          refine o_iload X_207 hx (hb hby d2_52) rfl ?_
          refine o_iloadN X_207 hx (hb hby d2_54) rfl ?_
          obtain ⟨cl_215, Ar_215, qk_215, Sz_215, Ng_215, Hs_215, Gs_215⟩ := id V_207
          obtain ⟨T_216, h_216, X_216, e_216, W_216, st_216⟩ := stI X_207 hx hZ e_207 Ar_215 (j := (4 : Int32)) (inb_of Sz_215 ⟨by decide, by decide⟩) (g := (mkF m 55 #[rv a1, iv 5, rv b_1, iv 2, iv 4] [(.int 2), (.int 4), (.ref b_1)])) rfl rfl (hb hby d2_55)
          refine own_st st_216 ?_
          have V_216 : Arv Z h_216 b_1 k_1 .int (5 : Int32) [(.int (0 : Int32)), (.int (0 : Int32)), (.int (0 : Int32)), (.int (1 : Int32)), (.int (2 : Int32))] (.int (0 : Int32)) := Arv.set Ar_215 qk_215 Sz_215 Ng_215 Hs_215 Gs_215 rfl W_216 4 rfl (Nat.le_of_ble_eq_true rfl)
          have N_216 := Fr.snoc X_216 N_207 gg_1
          show own_Go _ _ _ _ (T_216.setTop (mkF m 56 #[rv a1, iv 5, rv b_1, iv 2, iv 4] []))
          refine o_iinc X_216 hx (hb hby d2_56) rfl (l' := #[rv a1, iv 5, rv b_1, iv 2, iv 5]) rfl ?_
          refine o_goto X_216 hx (pc' := 9) (hb hby d2_59) (by decide) (by decide) ?_
          refine o_iload X_216 hx (hb hby d2_9) rfl ?_
          refine o_iloadN X_216 hx (hb hby d2_11) rfl ?_
          refine o_icmpYes X_216 hx (pc' := 62) (hb hby d2_12) (flt (by decide : ¬ ((5 : Int32) < (5 : Int32)))).2.1 (by decide) (by decide) ?_
          refine o_aloadN X_216 hx (hb hby d2_62) rfl rfl ?_
          have Kp_217 : Keep h0 h_216 [] := ((((((Keep.refl h0 []).ext E_1).wr W_118 (Or.inr sz_1)).wr W_200 (Or.inr sz_1)).wr W_207 (Or.inr sz_1)).wr W_216 (Or.inr sz_1))
          exact own_end X_216 e_216 (v := some (.ref b_1)) (fun h => by rw [Bd.returns] at h; cases h) hlk (fun fs hr => own_retA X_216 hx Bd.returns rfl rfl (hb hby d2_63) hr) (Q := Q_rmbo5 Z a0 a1 k dv x0 x1 x2 x3 x4 h0 n0) ⟨b_1, k_1, rfl, N_216, Kp_217, gg_1, sz_1, (Eq.mp (congrArg (fun z => Arv Z h_216 b_1 k_1 .int (5 : Int32) z (.int (0 : Int32))) (hv_212.symm.trans (own_bord_eq5 x0 x1 x2 x3 x4))) V_216)⟩ (by decide) (by decide)
        · have hv_218 := hv_205.trans (if_neg hc26__211)
          refine o_icmpNo X_207 hx (hb hby d2_26) (feq hc26__211).1 ?_
          refine o_aloadN X_207 hx (hb hby d2_29) rfl rfl ?_
          refine o_iloadN X_207 hx (hb hby d2_30) rfl ?_
          refine o_iconst X_207 hx 1 (hb hby d2_31) rfl ?_
          refine o_isub X_207 hx (hb hby d2_32) ?_
          show own_Go _ _ _ _ (T_207.setTop (mkF m 33 #[rv a1, iv 5, rv b_1, iv 1, iv 4] [(.int 0), (.ref b_1)]))
          obtain ⟨cl_219, Ar_219, qk_219, Sz_219, Ng_219, Hs_219, Gs_219⟩ := id V_207
          refine own_st (X_207.iaload hx (j := (0 : Int32)) (v := (.int (0 : Int32))) (by rw [e_207]; exact Ar_219.1) (State.isArrayOf_alike hZ.alike Ar_219.2.1) Ar_219.2.2 (inb_of Sz_219 ⟨by decide, by decide⟩) (Hs_219.at (j := (0 : Int32)) (inb_of Sz_219 ⟨by decide, by decide⟩) rfl) (g := (mkF m 33 #[rv a1, iv 5, rv b_1, iv 1, iv 4] [(.int 0), (.ref b_1)])) rfl rfl (hb hby d2_33)) ?_
          show own_Go _ _ _ _ (T_207.setTop (mkF m 34 #[rv a1, iv 5, rv b_1, iv 1, iv 4] [(.int 0)]))
          refine o_istoreN X_207 hx (hb hby d2_34) (l' := #[rv a1, iv 5, rv b_1, iv 0, iv 4]) rfl ?_
          refine o_goto X_207 hx (pc' := 15) (hb hby d2_35) (by decide) (by decide) ?_
          refine o_iloadN X_207 hx (hb hby d2_15) rfl ?_
          refine o_ifYes X_207 hx (pc' := 38) (hb hby d2_16) (flt (by decide : ¬ ((0 : Int32) < (0 : Int32)))).2.2.2 (by decide) (by decide) ?_
          refine o_aloadN X_207 hx (hb hby d2_38) rfl rfl ?_
          refine o_iload X_207 hx (hb hby d2_39) rfl ?_
          obtain ⟨cl_220, Ar_220, qk_220, Sz_220, Ng_220, Hs_220, Gs_220⟩ := id Fa_208
          refine own_st (X_207.iaload hx (j := (4 : Int32)) (v := (.int x4)) (by rw [e_207]; exact Ar_220.1) (State.isArrayOf_alike hZ.alike Ar_220.2.1) Ar_220.2.2 (inb_of Sz_220 ⟨by decide, by decide⟩) (Hs_220.at (j := (4 : Int32)) (inb_of Sz_220 ⟨by decide, by decide⟩) rfl) (g := (mkF m 41 #[rv a1, iv 5, rv b_1, iv 0, iv 4] [(.int 4), (.ref a1)])) rfl rfl (hb hby d2_41)) ?_
          show own_Go _ _ _ _ (T_207.setTop (mkF m 42 #[rv a1, iv 5, rv b_1, iv 0, iv 4] [(.int x4)]))
          refine o_aloadN X_207 hx (hb hby d2_42) rfl rfl ?_
          refine o_iloadN X_207 hx (hb hby d2_43) rfl ?_
          obtain ⟨cl_221, Ar_221, qk_221, Sz_221, Ng_221, Hs_221, Gs_221⟩ := id Fa_208
          refine own_st (X_207.iaload hx (j := (0 : Int32)) (v := (.int x0)) (by rw [e_207]; exact Ar_221.1) (State.isArrayOf_alike hZ.alike Ar_221.2.1) Ar_221.2.2 (inb_of Sz_221 ⟨by decide, by decide⟩) (Hs_221.at (j := (0 : Int32)) (inb_of Sz_221 ⟨by decide, by decide⟩) rfl) (g := (mkF m 44 #[rv a1, iv 5, rv b_1, iv 0, iv 4] [(.int 0), (.ref a1), (.int x4)])) rfl rfl (hb hby d2_44)) ?_
          show own_Go _ _ _ _ (T_207.setTop (mkF m 45 #[rv a1, iv 5, rv b_1, iv 0, iv 4] [(.int x0), (.int x4)]))
          by_cases hc45__222 : x4 = x0
          · have hv_223 := hv_218.trans (if_pos hc45__222)
            refine o_icmpNo X_207 hx (hb hby d2_45) (teq hc45__222).2 ?_
            refine o_iinc X_207 hx (hb hby d2_48) rfl (l' := #[rv a1, iv 5, rv b_1, iv 1, iv 4]) rfl ?_
            refine o_aloadN X_207 hx (hb hby d2_51) rfl rfl ?_
            refine o_iload X_207 hx (hb hby d2_52) rfl ?_
            refine o_iloadN X_207 hx (hb hby d2_54) rfl ?_
            obtain ⟨cl_224, Ar_224, qk_224, Sz_224, Ng_224, Hs_224, Gs_224⟩ := id V_207
            obtain ⟨T_225, h_225, X_225, e_225, W_225, st_225⟩ := stI X_207 hx hZ e_207 Ar_224 (j := (4 : Int32)) (inb_of Sz_224 ⟨by decide, by decide⟩) (g := (mkF m 55 #[rv a1, iv 5, rv b_1, iv 1, iv 4] [(.int 1), (.int 4), (.ref b_1)])) rfl rfl (hb hby d2_55)
            refine own_st st_225 ?_
            have V_225 : Arv Z h_225 b_1 k_1 .int (5 : Int32) [(.int (0 : Int32)), (.int (0 : Int32)), (.int (0 : Int32)), (.int (1 : Int32)), (.int (1 : Int32))] (.int (0 : Int32)) := Arv.set Ar_224 qk_224 Sz_224 Ng_224 Hs_224 Gs_224 rfl W_225 4 rfl (Nat.le_of_ble_eq_true rfl)
            have N_225 := Fr.snoc X_225 N_207 gg_1
            show own_Go _ _ _ _ (T_225.setTop (mkF m 56 #[rv a1, iv 5, rv b_1, iv 1, iv 4] []))
            refine o_iinc X_225 hx (hb hby d2_56) rfl (l' := #[rv a1, iv 5, rv b_1, iv 1, iv 5]) rfl ?_
            refine o_goto X_225 hx (pc' := 9) (hb hby d2_59) (by decide) (by decide) ?_
            refine o_iload X_225 hx (hb hby d2_9) rfl ?_
            refine o_iloadN X_225 hx (hb hby d2_11) rfl ?_
            refine o_icmpYes X_225 hx (pc' := 62) (hb hby d2_12) (flt (by decide : ¬ ((5 : Int32) < (5 : Int32)))).2.1 (by decide) (by decide) ?_
            refine o_aloadN X_225 hx (hb hby d2_62) rfl rfl ?_
            have Kp_226 : Keep h0 h_225 [] := ((((((Keep.refl h0 []).ext E_1).wr W_118 (Or.inr sz_1)).wr W_200 (Or.inr sz_1)).wr W_207 (Or.inr sz_1)).wr W_225 (Or.inr sz_1))
            exact own_end X_225 e_225 (v := some (.ref b_1)) (fun h => by rw [Bd.returns] at h; cases h) hlk (fun fs hr => own_retA X_225 hx Bd.returns rfl rfl (hb hby d2_63) hr) (Q := Q_rmbo5 Z a0 a1 k dv x0 x1 x2 x3 x4 h0 n0) ⟨b_1, k_1, rfl, N_225, Kp_226, gg_1, sz_1, (Eq.mp (congrArg (fun z => Arv Z h_225 b_1 k_1 .int (5 : Int32) z (.int (0 : Int32))) (hv_223.symm.trans (own_bord_eq5 x0 x1 x2 x3 x4))) V_225)⟩ (by decide) (by decide)
          · have hv_227 := hv_218.trans (if_neg hc45__222)
            refine o_icmpYes X_207 hx (pc' := 51) (hb hby d2_45) (feq hc45__222).2 (by decide) (by decide) ?_
            refine o_aloadN X_207 hx (hb hby d2_51) rfl rfl ?_
            refine o_iload X_207 hx (hb hby d2_52) rfl ?_
            refine o_iloadN X_207 hx (hb hby d2_54) rfl ?_
            obtain ⟨cl_228, Ar_228, qk_228, Sz_228, Ng_228, Hs_228, Gs_228⟩ := id V_207
            obtain ⟨T_229, h_229, X_229, e_229, W_229, st_229⟩ := stI X_207 hx hZ e_207 Ar_228 (j := (4 : Int32)) (inb_of Sz_228 ⟨by decide, by decide⟩) (g := (mkF m 55 #[rv a1, iv 5, rv b_1, iv 0, iv 4] [(.int 0), (.int 4), (.ref b_1)])) rfl rfl (hb hby d2_55)
            refine own_st st_229 ?_
            have V_229 : Arv Z h_229 b_1 k_1 .int (5 : Int32) [(.int (0 : Int32)), (.int (0 : Int32)), (.int (0 : Int32)), (.int (1 : Int32)), (.int (0 : Int32))] (.int (0 : Int32)) := Arv.set Ar_228 qk_228 Sz_228 Ng_228 Hs_228 Gs_228 rfl W_229 4 rfl (Nat.le_of_ble_eq_true rfl)
            have N_229 := Fr.snoc X_229 N_207 gg_1
            show own_Go _ _ _ _ (T_229.setTop (mkF m 56 #[rv a1, iv 5, rv b_1, iv 0, iv 4] []))
            refine o_iinc X_229 hx (hb hby d2_56) rfl (l' := #[rv a1, iv 5, rv b_1, iv 0, iv 5]) rfl ?_
            refine o_goto X_229 hx (pc' := 9) (hb hby d2_59) (by decide) (by decide) ?_
            refine o_iload X_229 hx (hb hby d2_9) rfl ?_
            refine o_iloadN X_229 hx (hb hby d2_11) rfl ?_
            refine o_icmpYes X_229 hx (pc' := 62) (hb hby d2_12) (flt (by decide : ¬ ((5 : Int32) < (5 : Int32)))).2.1 (by decide) (by decide) ?_
            refine o_aloadN X_229 hx (hb hby d2_62) rfl rfl ?_
            have Kp_230 : Keep h0 h_229 [] := ((((((Keep.refl h0 []).ext E_1).wr W_118 (Or.inr sz_1)).wr W_200 (Or.inr sz_1)).wr W_207 (Or.inr sz_1)).wr W_229 (Or.inr sz_1))
            exact own_end X_229 e_229 (v := some (.ref b_1)) (fun h => by rw [Bd.returns] at h; cases h) hlk (fun fs hr => own_retA X_229 hx Bd.returns rfl rfl (hb hby d2_63) hr) (Q := Q_rmbo5 Z a0 a1 k dv x0 x1 x2 x3 x4 h0 n0) ⟨b_1, k_1, rfl, N_229, Kp_230, gg_1, sz_1, (Eq.mp (congrArg (fun z => Arv Z h_229 b_1 k_1 .int (5 : Int32) z (.int (0 : Int32))) (hv_227.symm.trans (own_bord_eq5 x0 x1 x2 x3 x4))) V_229)⟩ (by decide) (by decide)
      · have hv_231 := hv_198.trans (if_neg hc45__204)
        refine o_icmpYes X_200 hx (pc' := 51) (hb hby d2_45) (feq hc45__204).2 (by decide) (by decide) ?_
        refine o_aloadN X_200 hx (hb hby d2_51) rfl rfl ?_
        refine o_iload X_200 hx (hb hby d2_52) rfl ?_
        refine o_iloadN X_200 hx (hb hby d2_54) rfl ?_
        obtain ⟨cl_232, Ar_232, qk_232, Sz_232, Ng_232, Hs_232, Gs_232⟩ := id V_200
        obtain ⟨T_233, h_233, X_233, e_233, W_233, st_233⟩ := stI X_200 hx hZ e_200 Ar_232 (j := (3 : Int32)) (inb_of Sz_232 ⟨by decide, by decide⟩) (g := (mkF m 55 #[rv a1, iv 5, rv b_1, iv 0, iv 3] [(.int 0), (.int 3), (.ref b_1)])) rfl rfl (hb hby d2_55)
        refine own_st st_233 ?_
        have V_233 : Arv Z h_233 b_1 k_1 .int (5 : Int32) [(.int (0 : Int32)), (.int (0 : Int32)), (.int (0 : Int32)), (.int (0 : Int32)), (.int (0 : Int32))] (.int (0 : Int32)) := Arv.set Ar_232 qk_232 Sz_232 Ng_232 Hs_232 Gs_232 rfl W_233 3 rfl (Nat.le_of_ble_eq_true rfl)
        have N_233 := Fr.snoc X_233 N_200 gg_1
        show own_Go _ _ _ _ (T_233.setTop (mkF m 56 #[rv a1, iv 5, rv b_1, iv 0, iv 3] []))
        refine o_iinc X_233 hx (hb hby d2_56) rfl (l' := #[rv a1, iv 5, rv b_1, iv 0, iv 4]) rfl ?_
        refine o_goto X_233 hx (pc' := 9) (hb hby d2_59) (by decide) (by decide) ?_
        refine o_iload X_233 hx (hb hby d2_9) rfl ?_
        refine o_iloadN X_233 hx (hb hby d2_11) rfl ?_
        refine o_icmpNo X_233 hx (hb hby d2_12) (tlt (by decide : (4 : Int32) < (5 : Int32))).2.1 ?_
        refine o_iloadN X_233 hx (hb hby d2_15) rfl ?_
        refine o_ifYes X_233 hx (pc' := 38) (hb hby d2_16) (flt (by decide : ¬ ((0 : Int32) < (0 : Int32)))).2.2.2 (by decide) (by decide) ?_
        refine o_aloadN X_233 hx (hb hby d2_38) rfl rfl ?_
        refine o_iload X_233 hx (hb hby d2_39) rfl ?_
        have Fa_234 := (Fa_201.other W_233 (Nat.ne_of_lt (Nat.lt_of_lt_of_le V1.lt (Nat.le_of_eq g_1.symm))))
        obtain ⟨cl_235, Ar_235, qk_235, Sz_235, Ng_235, Hs_235, Gs_235⟩ := id Fa_234
        refine own_st (X_233.iaload hx (j := (4 : Int32)) (v := (.int x4)) (by rw [e_233]; exact Ar_235.1) (State.isArrayOf_alike hZ.alike Ar_235.2.1) Ar_235.2.2 (inb_of Sz_235 ⟨by decide, by decide⟩) (Hs_235.at (j := (4 : Int32)) (inb_of Sz_235 ⟨by decide, by decide⟩) rfl) (g := (mkF m 41 #[rv a1, iv 5, rv b_1, iv 0, iv 4] [(.int 4), (.ref a1)])) rfl rfl (hb hby d2_41)) ?_
        show own_Go _ _ _ _ (T_233.setTop (mkF m 42 #[rv a1, iv 5, rv b_1, iv 0, iv 4] [(.int x4)]))
        refine o_aloadN X_233 hx (hb hby d2_42) rfl rfl ?_
        refine o_iloadN X_233 hx (hb hby d2_43) rfl ?_
        obtain ⟨cl_236, Ar_236, qk_236, Sz_236, Ng_236, Hs_236, Gs_236⟩ := id Fa_234
        refine own_st (X_233.iaload hx (j := (0 : Int32)) (v := (.int x0)) (by rw [e_233]; exact Ar_236.1) (State.isArrayOf_alike hZ.alike Ar_236.2.1) Ar_236.2.2 (inb_of Sz_236 ⟨by decide, by decide⟩) (Hs_236.at (j := (0 : Int32)) (inb_of Sz_236 ⟨by decide, by decide⟩) rfl) (g := (mkF m 44 #[rv a1, iv 5, rv b_1, iv 0, iv 4] [(.int 0), (.ref a1), (.int x4)])) rfl rfl (hb hby d2_44)) ?_
        show own_Go _ _ _ _ (T_233.setTop (mkF m 45 #[rv a1, iv 5, rv b_1, iv 0, iv 4] [(.int x0), (.int x4)]))
        by_cases hc45__237 : x4 = x0
        · have hv_238 := hv_231.trans (if_pos hc45__237)
          refine o_icmpNo X_233 hx (hb hby d2_45) (teq hc45__237).2 ?_
          refine o_iinc X_233 hx (hb hby d2_48) rfl (l' := #[rv a1, iv 5, rv b_1, iv 1, iv 4]) rfl ?_
          refine o_aloadN X_233 hx (hb hby d2_51) rfl rfl ?_
          refine o_iload X_233 hx (hb hby d2_52) rfl ?_
          refine o_iloadN X_233 hx (hb hby d2_54) rfl ?_
          obtain ⟨cl_239, Ar_239, qk_239, Sz_239, Ng_239, Hs_239, Gs_239⟩ := id V_233
          obtain ⟨T_240, h_240, X_240, e_240, W_240, st_240⟩ := stI X_233 hx hZ e_233 Ar_239 (j := (4 : Int32)) (inb_of Sz_239 ⟨by decide, by decide⟩) (g := (mkF m 55 #[rv a1, iv 5, rv b_1, iv 1, iv 4] [(.int 1), (.int 4), (.ref b_1)])) rfl rfl (hb hby d2_55)
          refine own_st st_240 ?_
          have V_240 : Arv Z h_240 b_1 k_1 .int (5 : Int32) [(.int (0 : Int32)), (.int (0 : Int32)), (.int (0 : Int32)), (.int (0 : Int32)), (.int (1 : Int32))] (.int (0 : Int32)) := Arv.set Ar_239 qk_239 Sz_239 Ng_239 Hs_239 Gs_239 rfl W_240 4 rfl (Nat.le_of_ble_eq_true rfl)
          have N_240 := Fr.snoc X_240 N_233 gg_1
          show own_Go _ _ _ _ (T_240.setTop (mkF m 56 #[rv a1, iv 5, rv b_1, iv 1, iv 4] []))
          refine o_iinc X_240 hx (hb hby d2_56) rfl (l' := #[rv a1, iv 5, rv b_1, iv 1, iv 5]) rfl ?_
          refine o_goto X_240 hx (pc' := 9) (hb hby d2_59) (by decide) (by decide) ?_
          refine o_iload X_240 hx (hb hby d2_9) rfl ?_
          refine o_iloadN X_240 hx (hb hby d2_11) rfl ?_
          refine o_icmpYes X_240 hx (pc' := 62) (hb hby d2_12) (flt (by decide : ¬ ((5 : Int32) < (5 : Int32)))).2.1 (by decide) (by decide) ?_
          refine o_aloadN X_240 hx (hb hby d2_62) rfl rfl ?_
          have Kp_241 : Keep h0 h_240 [] := ((((((Keep.refl h0 []).ext E_1).wr W_118 (Or.inr sz_1)).wr W_200 (Or.inr sz_1)).wr W_233 (Or.inr sz_1)).wr W_240 (Or.inr sz_1))
          exact own_end X_240 e_240 (v := some (.ref b_1)) (fun h => by rw [Bd.returns] at h; cases h) hlk (fun fs hr => own_retA X_240 hx Bd.returns rfl rfl (hb hby d2_63) hr) (Q := Q_rmbo5 Z a0 a1 k dv x0 x1 x2 x3 x4 h0 n0) ⟨b_1, k_1, rfl, N_240, Kp_241, gg_1, sz_1, (Eq.mp (congrArg (fun z => Arv Z h_240 b_1 k_1 .int (5 : Int32) z (.int (0 : Int32))) (hv_238.symm.trans (own_bord_eq5 x0 x1 x2 x3 x4))) V_240)⟩ (by decide) (by decide)
        · have hv_242 := hv_231.trans (if_neg hc45__237)
          refine o_icmpYes X_233 hx (pc' := 51) (hb hby d2_45) (feq hc45__237).2 (by decide) (by decide) ?_
          refine o_aloadN X_233 hx (hb hby d2_51) rfl rfl ?_
          refine o_iload X_233 hx (hb hby d2_52) rfl ?_
          refine o_iloadN X_233 hx (hb hby d2_54) rfl ?_
          obtain ⟨cl_243, Ar_243, qk_243, Sz_243, Ng_243, Hs_243, Gs_243⟩ := id V_233
          obtain ⟨T_244, h_244, X_244, e_244, W_244, st_244⟩ := stI X_233 hx hZ e_233 Ar_243 (j := (4 : Int32)) (inb_of Sz_243 ⟨by decide, by decide⟩) (g := (mkF m 55 #[rv a1, iv 5, rv b_1, iv 0, iv 4] [(.int 0), (.int 4), (.ref b_1)])) rfl rfl (hb hby d2_55)
          refine own_st st_244 ?_
          have V_244 : Arv Z h_244 b_1 k_1 .int (5 : Int32) [(.int (0 : Int32)), (.int (0 : Int32)), (.int (0 : Int32)), (.int (0 : Int32)), (.int (0 : Int32))] (.int (0 : Int32)) := Arv.set Ar_243 qk_243 Sz_243 Ng_243 Hs_243 Gs_243 rfl W_244 4 rfl (Nat.le_of_ble_eq_true rfl)
          have N_244 := Fr.snoc X_244 N_233 gg_1
          show own_Go _ _ _ _ (T_244.setTop (mkF m 56 #[rv a1, iv 5, rv b_1, iv 0, iv 4] []))
          refine o_iinc X_244 hx (hb hby d2_56) rfl (l' := #[rv a1, iv 5, rv b_1, iv 0, iv 5]) rfl ?_
          refine o_goto X_244 hx (pc' := 9) (hb hby d2_59) (by decide) (by decide) ?_
          refine o_iload X_244 hx (hb hby d2_9) rfl ?_
          refine o_iloadN X_244 hx (hb hby d2_11) rfl ?_
          refine o_icmpYes X_244 hx (pc' := 62) (hb hby d2_12) (flt (by decide : ¬ ((5 : Int32) < (5 : Int32)))).2.1 (by decide) (by decide) ?_
          refine o_aloadN X_244 hx (hb hby d2_62) rfl rfl ?_
          have Kp_245 : Keep h0 h_244 [] := ((((((Keep.refl h0 []).ext E_1).wr W_118 (Or.inr sz_1)).wr W_200 (Or.inr sz_1)).wr W_233 (Or.inr sz_1)).wr W_244 (Or.inr sz_1))
          exact own_end X_244 e_244 (v := some (.ref b_1)) (fun h => by rw [Bd.returns] at h; cases h) hlk (fun fs hr => own_retA X_244 hx Bd.returns rfl rfl (hb hby d2_63) hr) (Q := Q_rmbo5 Z a0 a1 k dv x0 x1 x2 x3 x4 h0 n0) ⟨b_1, k_1, rfl, N_244, Kp_245, gg_1, sz_1, (Eq.mp (congrArg (fun z => Arv Z h_244 b_1 k_1 .int (5 : Int32) z (.int (0 : Int32))) (hv_242.symm.trans (own_bord_eq5 x0 x1 x2 x3 x4))) V_244)⟩ (by decide) (by decide)
theorem own_six (x : Int32) : ((x &&& (2147483647 : Int32)) - (x &&& (2147483647 : Int32)) / (6 : Int32) * (6 : Int32)) = (0 : Int32) ∨ ((x &&& (2147483647 : Int32)) - (x &&& (2147483647 : Int32)) / (6 : Int32) * (6 : Int32)) = (1 : Int32) ∨ ((x &&& (2147483647 : Int32)) - (x &&& (2147483647 : Int32)) / (6 : Int32) * (6 : Int32)) = (2 : Int32) ∨ ((x &&& (2147483647 : Int32)) - (x &&& (2147483647 : Int32)) / (6 : Int32) * (6 : Int32)) = (3 : Int32) ∨ ((x &&& (2147483647 : Int32)) - (x &&& (2147483647 : Int32)) / (6 : Int32) * (6 : Int32)) = (4 : Int32) ∨ ((x &&& (2147483647 : Int32)) - (x &&& (2147483647 : Int32)) / (6 : Int32) * (6 : Int32)) = (5 : Int32) := by
  generalize hy : x &&& (2147483647 : Int32) = y
  have h0 : 0 ≤ y.toInt := by rw [← hy]; exact (c_and x (2147483647 : Int32) (by decide)).1
  have hq := (c_idiv y (6 : Int32) 6 rfl (by decide)).1 h0
  have hm := c_imul (y / (6 : Int32)) (6 : Int32)
  have hs := c_isub y (y / (6 : Int32) * (6 : Int32))
  have e6 : (6 : Int32).toInt = 6 := rfl
  rw [hq, e6] at hm
  have b1 := y.toInt_lt
  have b2 := (y / (6 : Int32) * (6 : Int32)).toInt_lt; have b3 := (y / (6 : Int32) * (6 : Int32)).le_toInt
  have b4 := (y - y / (6 : Int32) * (6 : Int32)).toInt_lt; have b5 := (y - y / (6 : Int32) * (6 : Int32)).le_toInt
  have e : ∀ n : Int32, (y - y / (6 : Int32) * (6 : Int32) = n) ↔ ((y - y / (6 : Int32) * (6 : Int32)).toInt = n.toInt) := fun n => Int32.toInt_inj.symm
  simp only [e]
  show (y - y / (6 : Int32) * (6 : Int32)).toInt = 0 ∨ (y - y / (6 : Int32) * (6 : Int32)).toInt = 1 ∨ (y - y / (6 : Int32) * (6 : Int32)).toInt = 2 ∨ (y - y / (6 : Int32) * (6 : Int32)).toInt = 3 ∨ (y - y / (6 : Int32) * (6 : Int32)).toInt = 4 ∨ (y - y / (6 : Int32) * (6 : Int32)).toInt = 5
  omega
theorem pd_2 : parseMethodDescriptor "(IIII)I" = some ⟨[.int, .int, .int, .int], some .int⟩ := by decide +kernel
theorem pd_3 : parseMethodDescriptor "([II)[I" = some ⟨[(.array .int), .int], some (.array .int)⟩ := by decide +kernel
theorem pd_4 : parseMethodDescriptor "([II)I" = some ⟨[(.array .int), .int], some .int⟩ := by decide +kernel
theorem ef_rm0 (m : MethodId) (p1 : Int32) (p2 : Int32) (p3 : Int32) (p4 : Int32) (p5 : Int32) : entryFrame m #[(.int p1), (.int p2), (.int p3), (.int p4), (.int p5)] maxLocals = mkF m 0 #[iv p1, iv p2, iv p3, iv p4, iv p5, .unset, .unset, .unset] [] := by first | (simp [entryFrame, mkF, argsToLocals, Value.category, maxLocals]; done) | rfl
def Q_rm0 (Z : State) (a0 : Array Value) (p1 : Int32) (p2 : Int32) (p3 : Int32) (p4 : Int32) (p5 : Int32)  (h0 : Heap) (n0 : Nat) (v : Option Value) (h : Heap) (L : List Loc) : Prop := v = some (.int (1 : Int32)) ∧ Fr n0 L ∧ Keep h0 h []
set_option maxRecDepth 65536 in
set_option maxHeartbeats 40000000 in
theorem rm0 (l : Launch) (Z : State) (a0 : Array Value) (hw : ∀ d ∈ tables_1, d.before a0 Z = true) (ws : List Jvm.Cond) (p1 : Int32) (p2 : Int32) (p3 : Int32) (p4 : Int32) (p5 : Int32)  (h0 : Heap) (n0 : Nat) (Z0 : n0 ≤ h0.size) :
    MetFree l x (head1 (Jvm.Cond.code x code maxLocals ret :: ws) room_1) (fun a U => a = #[(.int p1), (.int p2), (.int p3), (.int p4), (.int p5)] ∧ Z.Warmed39 U.vm ∧ U.heap = h0) (fun _ _ _ _ _ => True) (fun _ U o U' => ∃ v L, o = .returned v ∧ Q_rm0 Z a0 p1 p2 p3 p4 p5 h0 n0 v U'.heap L ∧ FrameEnd U o U' L room_1.cells room_1.slots) := by
  refine MetFree.of_bodySF (plainFor_of_name pn_1) hisR ?_
  intro p e s m args below meth c s₁ Bd hml0 hP hK
  obtain ⟨rfl, hZ, hh⟩ := hP
  have hx := Bd.exec
  have hby := Bd.bytes
  have hml : c.maxLocals = 8 := hml0
  have hown : s.vm.findClass "com/example/ordinance/ordinance/policy/PartFinderBordersPinLaw" = some m.cls := findClass_of_methodNamed Bd.named
  have hnm := (name_of_methodNamed Bd.named Bd.method).1
  have hlk : meth.locks = false := BodyLoose.notSynchronized (by assumption)
  have X0 : Stand p l e room_1 s m #[(.int p1), (.int p2), (.int p3), (.int p4), (.int p5)] below meth c s₁ [] 0 0 := Stand.of_body Bd
  have e0 : s₁.heap = h0 := by rw [← hh, Bd.state]; rfl
  have N0 := Fr.nil n0
  show own_Go p.tables e below (fun o U' => ∃ v L, o = .returned v ∧ Q_rm0 Z a0 p1 p2 p3 p4 p5 h0 n0 v U'.heap L ∧ FrameEnd s o U' L room_1.cells room_1.slots) (s₁.setTop (entryFrame m #[(.int p1), (.int p2), (.int p3), (.int p4), (.int p5)] maxLocals))
  refine own_st (fun t k => castTop (ef_rm0 m p1 p2 p3 p4 p5) k) ?_
  show own_Go _ _ _ _ (s₁.setTop (mkF m 0 #[iv p1, iv p2, iv p3, iv p4, iv p5, .unset, .unset, .unset] []))
  refine o_iconst X0 hx 5 (hb hby at_0) rfl ?_
  obtain ⟨T_1, h_1, k_1, X_1, e_1, E_1, A_1, st_1⟩ := newP X0 hx hZ (hw _ (List.mem_of_getElem? (i := 0) rfl)) e0 (g := (mkF m 1 #[iv p1, iv p2, iv p3, iv p4, iv p5, .unset, .unset, .unset] [(.int 5)])) rfl (hb hby at_1) rfl (by decide) (cap := 5) (by decide) (by decide) (by decide) (by decide)
  obtain ⟨b_1, g_1⟩ : ∃ z, z = h0.size := ⟨_, rfl⟩
  rw [← g_1] at A_1 st_1
  have V_1 : Arv Z h_1 b_1 k_1 .int (5 : Int32) [(.int (0 : Int32)), (.int (0 : Int32)), (.int (0 : Int32)), (.int (0 : Int32)), (.int (0 : Int32))] (.int (0 : Int32)) := (Arv.new A_1 (by decide)).pad (pad_rep [] (.int (0 : Int32)) 5)
  have gg_1 : n0 ≤ b_1 := Nat.le_trans Z0 (Nat.le_of_eq g_1.symm)
  have sz_1 : h0.size ≤ b_1 := Nat.le_trans (Keep.refl h0 []).1 (Nat.le_of_eq g_1.symm)
  refine own_st st_1 ?_
  show own_Go _ _ _ _ (T_1.setTop (mkF m 3 #[iv p1, iv p2, iv p3, iv p4, iv p5, .unset, .unset, .unset] [(.ref b_1)]))
  refine o_astore X_1 hx (hb hby at_3) rfl (l' := #[iv p1, iv p2, iv p3, iv p4, iv p5, rv b_1, .unset, .unset]) rfl ?_
  refine o_aload X_1 hx (hb hby at_5) rfl rfl ?_
  refine o_iconst X_1 hx 0 (hb hby at_7) rfl ?_
  refine o_iloadN X_1 hx (hb hby at_8) rfl ?_
  refine o_iloadN X_1 hx (hb hby at_9) rfl ?_
  refine o_iloadN X_1 hx (hb hby at_10) rfl ?_
  refine o_iloadN X_1 hx (hb hby at_11) rfl ?_
  have Zs_3 : n0 ≤ h_1.size := (Nat.le_trans Z0 E_1.1)
  obtain ⟨_, _, ⟨T_2, L_2, k_2, n_2⟩, -, X_2, ⟨Lc_2, hQ_2, l_2, y_2, z_2⟩, st_2⟩ := Jvm.LawKit.callS X_1 hx (y := (⟨"com/example/ordinance/ordinance/policy/PartFinderBordersPinLaw", "pick", "(IIII)I"⟩ : MethodName)) hown (mvT hZ (hw _ (List.mem_of_getElem? (i := 1) rfl))) (mvT hZ (hw _ (List.mem_of_getElem? (i := 2) rfl))) (mvT hZ (hw _ (List.mem_of_getElem? (i := 3) rfl))) (mvT hZ (hw _ (List.mem_of_getElem? (i := 4) rfl))) (by decide) (backOf (W := 2) (rm1 l Z a0 hw [] p1 p2 p3 p4  h_1 n0 Zs_3) hZ (hw _ (List.mem_of_getElem? (i := 4) rfl)) (hw _ (List.mem_of_getElem? (i := 3) rfl)) (by decide) (by decide)) (g := (mkF m 12 #[iv p1, iv p2, iv p3, iv p4, iv p5, rv b_1, .unset, .unset] [(.int p4), (.int p3), (.int p2), (.int p1), (.int 0), (.ref b_1)])) rfl (by rw [hml]; rfl) (argsL := [(.int p1), (.int p2), (.int p3), (.int p4)]) (rest := [(.int 0), (.ref b_1)]) (lenOf pd_2 rfl) rfl (by show 2 * 0 + _ ≤ _; exact Nat.le_of_eq rfl) (hb hby at_12) (fun _ _ => ⟨rfl, e_1, (by decide : 1 + 0 ≤ _), (by decide : 5 + 0 ≤ _)⟩)
  dsimp only [Pt.U, Pt.locs, Pt.cells, Pt.slots] at X_2 l_2 y_2 z_2 st_2 hQ_2
  subst l_2 y_2 z_2
  obtain ⟨rfl, Nq_2, e_2⟩ := hQ_2
  have N_2 := Fr.app N0 Nq_2
  refine own_st st_2 ?_
  show own_Go _ _ _ _ (T_2.setTop (mkF m 15 #[iv p1, iv p2, iv p3, iv p4, iv p5, rv b_1, .unset, .unset] [(.int (own_pick p1 p2 p3 p4)), (.int 0), (.ref b_1)]))
  obtain ⟨cl_4, Ar_4, qk_4, Sz_4, Ng_4, Hs_4, Gs_4⟩ := id V_1
  obtain ⟨T_5, h_5, X_5, e_5, W_5, st_5⟩ := stI X_2 hx hZ e_2 Ar_4 (j := (0 : Int32)) (inb_of Sz_4 ⟨by decide, by decide⟩) (g := (mkF m 15 #[iv p1, iv p2, iv p3, iv p4, iv p5, rv b_1, .unset, .unset] [(.int (own_pick p1 p2 p3 p4)), (.int 0), (.ref b_1)])) rfl rfl (hb hby at_15)
  refine own_st st_5 ?_
  have V_5 : Arv Z h_5 b_1 k_1 .int (5 : Int32) [(.int (own_pick p1 p2 p3 p4)), (.int (0 : Int32)), (.int (0 : Int32)), (.int (0 : Int32)), (.int (0 : Int32))] (.int (0 : Int32)) := Arv.set Ar_4 qk_4 Sz_4 Ng_4 Hs_4 Gs_4 rfl W_5 0 rfl (Nat.le_of_ble_eq_true rfl)
  have N_5 := Fr.snoc X_5 N_2 gg_1
  show own_Go _ _ _ _ (T_5.setTop (mkF m 16 #[iv p1, iv p2, iv p3, iv p4, iv p5, rv b_1, .unset, .unset] []))
  refine o_aload X_5 hx (hb hby at_16) rfl rfl ?_
  refine o_iconst X_5 hx 1 (hb hby at_18) rfl ?_
  refine o_iloadN X_5 hx (hb hby at_19) rfl ?_
  refine o_iloadN X_5 hx (hb hby at_20) rfl ?_
  refine o_iloadN X_5 hx (hb hby at_21) rfl ?_
  refine o_iloadN X_5 hx (hb hby at_22) rfl ?_
  refine o_iconst X_5 hx 2 (hb hby at_23) rfl ?_
  refine o_iushr X_5 hx (hb hby at_24) ?_
  have Zs_7 : n0 ≤ h_5.size := (Nat.le_trans Zs_3 (Keep.of_wr W_5).1)
  obtain ⟨_, _, ⟨T_6, L_6, k_6, n_6⟩, -, X_6, ⟨Lc_6, hQ_6, l_6, y_6, z_6⟩, st_6⟩ := Jvm.LawKit.callS X_5 hx (y := (⟨"com/example/ordinance/ordinance/policy/PartFinderBordersPinLaw", "pick", "(IIII)I"⟩ : MethodName)) hown (mvT hZ (hw _ (List.mem_of_getElem? (i := 1) rfl))) (mvT hZ (hw _ (List.mem_of_getElem? (i := 2) rfl))) (mvT hZ (hw _ (List.mem_of_getElem? (i := 3) rfl))) (mvT hZ (hw _ (List.mem_of_getElem? (i := 4) rfl))) (by decide) (backOf (W := 2) (rm1 l Z a0 hw [] p1 p2 p3 ((p4.toUInt32 >>> ((2 : Int32) &&& 31).toUInt32).toInt32)  h_5 n0 Zs_7) hZ (hw _ (List.mem_of_getElem? (i := 4) rfl)) (hw _ (List.mem_of_getElem? (i := 3) rfl)) (by decide) (by decide)) (g := (mkF m 25 #[iv p1, iv p2, iv p3, iv p4, iv p5, rv b_1, .unset, .unset] [(.int ((p4.toUInt32 >>> ((2 : Int32) &&& 31).toUInt32).toInt32)), (.int p3), (.int p2), (.int p1), (.int 1), (.ref b_1)])) rfl (by rw [hml]; rfl) (argsL := [(.int p1), (.int p2), (.int p3), (.int ((p4.toUInt32 >>> ((2 : Int32) &&& 31).toUInt32).toInt32))]) (rest := [(.int 1), (.ref b_1)]) (lenOf pd_2 rfl) rfl (by show 2 * 0 + _ ≤ _; exact Nat.le_of_eq rfl) (hb hby at_25) (fun _ _ => ⟨rfl, e_5, (by decide : 1 + 0 ≤ _), (by decide : 5 + 0 ≤ _)⟩)
  dsimp only [Pt.U, Pt.locs, Pt.cells, Pt.slots] at X_6 l_6 y_6 z_6 st_6 hQ_6
  subst l_6 y_6 z_6
  obtain ⟨rfl, Nq_6, e_6⟩ := hQ_6
  have N_6 := Fr.app N_5 Nq_6
  refine own_st st_6 ?_
  show own_Go _ _ _ _ (T_6.setTop (mkF m 28 #[iv p1, iv p2, iv p3, iv p4, iv p5, rv b_1, .unset, .unset] [(.int (own_pick p1 p2 p3 ((p4.toUInt32 >>> ((2 : Int32) &&& 31).toUInt32).toInt32))), (.int 1), (.ref b_1)]))
  obtain ⟨cl_8, Ar_8, qk_8, Sz_8, Ng_8, Hs_8, Gs_8⟩ := id V_5
  obtain ⟨T_9, h_9, X_9, e_9, W_9, st_9⟩ := stI X_6 hx hZ e_6 Ar_8 (j := (1 : Int32)) (inb_of Sz_8 ⟨by decide, by decide⟩) (g := (mkF m 28 #[iv p1, iv p2, iv p3, iv p4, iv p5, rv b_1, .unset, .unset] [(.int (own_pick p1 p2 p3 ((p4.toUInt32 >>> ((2 : Int32) &&& 31).toUInt32).toInt32))), (.int 1), (.ref b_1)])) rfl rfl (hb hby at_28)
  refine own_st st_9 ?_
  have V_9 : Arv Z h_9 b_1 k_1 .int (5 : Int32) [(.int (own_pick p1 p2 p3 p4)), (.int (own_pick p1 p2 p3 ((p4.toUInt32 >>> ((2 : Int32) &&& 31).toUInt32).toInt32))), (.int (0 : Int32)), (.int (0 : Int32)), (.int (0 : Int32))] (.int (0 : Int32)) := Arv.set Ar_8 qk_8 Sz_8 Ng_8 Hs_8 Gs_8 rfl W_9 1 rfl (Nat.le_of_ble_eq_true rfl)
  have N_9 := Fr.snoc X_9 N_6 gg_1
  show own_Go _ _ _ _ (T_9.setTop (mkF m 29 #[iv p1, iv p2, iv p3, iv p4, iv p5, rv b_1, .unset, .unset] []))
  refine o_aload X_9 hx (hb hby at_29) rfl rfl ?_
  refine o_iconst X_9 hx 2 (hb hby at_31) rfl ?_
  refine o_iloadN X_9 hx (hb hby at_32) rfl ?_
  refine o_iloadN X_9 hx (hb hby at_33) rfl ?_
  refine o_iloadN X_9 hx (hb hby at_34) rfl ?_
  refine o_iloadN X_9 hx (hb hby at_35) rfl ?_
  refine o_iconst X_9 hx 4 (hb hby at_36) rfl ?_
  refine o_iushr X_9 hx (hb hby at_37) ?_
  have Zs_11 : n0 ≤ h_9.size := (Nat.le_trans Zs_7 (Keep.of_wr W_9).1)
  obtain ⟨_, _, ⟨T_10, L_10, k_10, n_10⟩, -, X_10, ⟨Lc_10, hQ_10, l_10, y_10, z_10⟩, st_10⟩ := Jvm.LawKit.callS X_9 hx (y := (⟨"com/example/ordinance/ordinance/policy/PartFinderBordersPinLaw", "pick", "(IIII)I"⟩ : MethodName)) hown (mvT hZ (hw _ (List.mem_of_getElem? (i := 1) rfl))) (mvT hZ (hw _ (List.mem_of_getElem? (i := 2) rfl))) (mvT hZ (hw _ (List.mem_of_getElem? (i := 3) rfl))) (mvT hZ (hw _ (List.mem_of_getElem? (i := 4) rfl))) (by decide) (backOf (W := 2) (rm1 l Z a0 hw [] p1 p2 p3 ((p4.toUInt32 >>> ((4 : Int32) &&& 31).toUInt32).toInt32)  h_9 n0 Zs_11) hZ (hw _ (List.mem_of_getElem? (i := 4) rfl)) (hw _ (List.mem_of_getElem? (i := 3) rfl)) (by decide) (by decide)) (g := (mkF m 38 #[iv p1, iv p2, iv p3, iv p4, iv p5, rv b_1, .unset, .unset] [(.int ((p4.toUInt32 >>> ((4 : Int32) &&& 31).toUInt32).toInt32)), (.int p3), (.int p2), (.int p1), (.int 2), (.ref b_1)])) rfl (by rw [hml]; rfl) (argsL := [(.int p1), (.int p2), (.int p3), (.int ((p4.toUInt32 >>> ((4 : Int32) &&& 31).toUInt32).toInt32))]) (rest := [(.int 2), (.ref b_1)]) (lenOf pd_2 rfl) rfl (by show 2 * 0 + _ ≤ _; exact Nat.le_of_eq rfl) (hb hby at_38) (fun _ _ => ⟨rfl, e_9, (by decide : 1 + 0 ≤ _), (by decide : 5 + 0 ≤ _)⟩)
  dsimp only [Pt.U, Pt.locs, Pt.cells, Pt.slots] at X_10 l_10 y_10 z_10 st_10 hQ_10
  subst l_10 y_10 z_10
  obtain ⟨rfl, Nq_10, e_10⟩ := hQ_10
  have N_10 := Fr.app N_9 Nq_10
  refine own_st st_10 ?_
  show own_Go _ _ _ _ (T_10.setTop (mkF m 41 #[iv p1, iv p2, iv p3, iv p4, iv p5, rv b_1, .unset, .unset] [(.int (own_pick p1 p2 p3 ((p4.toUInt32 >>> ((4 : Int32) &&& 31).toUInt32).toInt32))), (.int 2), (.ref b_1)]))
  obtain ⟨cl_12, Ar_12, qk_12, Sz_12, Ng_12, Hs_12, Gs_12⟩ := id V_9
  obtain ⟨T_13, h_13, X_13, e_13, W_13, st_13⟩ := stI X_10 hx hZ e_10 Ar_12 (j := (2 : Int32)) (inb_of Sz_12 ⟨by decide, by decide⟩) (g := (mkF m 41 #[iv p1, iv p2, iv p3, iv p4, iv p5, rv b_1, .unset, .unset] [(.int (own_pick p1 p2 p3 ((p4.toUInt32 >>> ((4 : Int32) &&& 31).toUInt32).toInt32))), (.int 2), (.ref b_1)])) rfl rfl (hb hby at_41)
  refine own_st st_13 ?_
  have V_13 : Arv Z h_13 b_1 k_1 .int (5 : Int32) [(.int (own_pick p1 p2 p3 p4)), (.int (own_pick p1 p2 p3 ((p4.toUInt32 >>> ((2 : Int32) &&& 31).toUInt32).toInt32))), (.int (own_pick p1 p2 p3 ((p4.toUInt32 >>> ((4 : Int32) &&& 31).toUInt32).toInt32))), (.int (0 : Int32)), (.int (0 : Int32))] (.int (0 : Int32)) := Arv.set Ar_12 qk_12 Sz_12 Ng_12 Hs_12 Gs_12 rfl W_13 2 rfl (Nat.le_of_ble_eq_true rfl)
  have N_13 := Fr.snoc X_13 N_10 gg_1
  show own_Go _ _ _ _ (T_13.setTop (mkF m 42 #[iv p1, iv p2, iv p3, iv p4, iv p5, rv b_1, .unset, .unset] []))
  refine o_aload X_13 hx (hb hby at_42) rfl rfl ?_
  refine o_iconst X_13 hx 3 (hb hby at_44) rfl ?_
  refine o_iloadN X_13 hx (hb hby at_45) rfl ?_
  refine o_iloadN X_13 hx (hb hby at_46) rfl ?_
  refine o_iloadN X_13 hx (hb hby at_47) rfl ?_
  refine o_iloadN X_13 hx (hb hby at_48) rfl ?_
  refine o_bipush X_13 hx 6 (hb hby at_49) rfl ?_
  refine o_iushr X_13 hx (hb hby at_51) ?_
  have Zs_15 : n0 ≤ h_13.size := (Nat.le_trans Zs_11 (Keep.of_wr W_13).1)
  obtain ⟨_, _, ⟨T_14, L_14, k_14, n_14⟩, -, X_14, ⟨Lc_14, hQ_14, l_14, y_14, z_14⟩, st_14⟩ := Jvm.LawKit.callS X_13 hx (y := (⟨"com/example/ordinance/ordinance/policy/PartFinderBordersPinLaw", "pick", "(IIII)I"⟩ : MethodName)) hown (mvT hZ (hw _ (List.mem_of_getElem? (i := 1) rfl))) (mvT hZ (hw _ (List.mem_of_getElem? (i := 2) rfl))) (mvT hZ (hw _ (List.mem_of_getElem? (i := 3) rfl))) (mvT hZ (hw _ (List.mem_of_getElem? (i := 4) rfl))) (by decide) (backOf (W := 2) (rm1 l Z a0 hw [] p1 p2 p3 ((p4.toUInt32 >>> ((6 : Int32) &&& 31).toUInt32).toInt32)  h_13 n0 Zs_15) hZ (hw _ (List.mem_of_getElem? (i := 4) rfl)) (hw _ (List.mem_of_getElem? (i := 3) rfl)) (by decide) (by decide)) (g := (mkF m 52 #[iv p1, iv p2, iv p3, iv p4, iv p5, rv b_1, .unset, .unset] [(.int ((p4.toUInt32 >>> ((6 : Int32) &&& 31).toUInt32).toInt32)), (.int p3), (.int p2), (.int p1), (.int 3), (.ref b_1)])) rfl (by rw [hml]; rfl) (argsL := [(.int p1), (.int p2), (.int p3), (.int ((p4.toUInt32 >>> ((6 : Int32) &&& 31).toUInt32).toInt32))]) (rest := [(.int 3), (.ref b_1)]) (lenOf pd_2 rfl) rfl (by show 2 * 0 + _ ≤ _; exact Nat.le_of_eq rfl) (hb hby at_52) (fun _ _ => ⟨rfl, e_13, (by decide : 1 + 0 ≤ _), (by decide : 5 + 0 ≤ _)⟩)
  dsimp only [Pt.U, Pt.locs, Pt.cells, Pt.slots] at X_14 l_14 y_14 z_14 st_14 hQ_14
  subst l_14 y_14 z_14
  obtain ⟨rfl, Nq_14, e_14⟩ := hQ_14
  have N_14 := Fr.app N_13 Nq_14
  refine own_st st_14 ?_
  show own_Go _ _ _ _ (T_14.setTop (mkF m 55 #[iv p1, iv p2, iv p3, iv p4, iv p5, rv b_1, .unset, .unset] [(.int (own_pick p1 p2 p3 ((p4.toUInt32 >>> ((6 : Int32) &&& 31).toUInt32).toInt32))), (.int 3), (.ref b_1)]))
  obtain ⟨cl_16, Ar_16, qk_16, Sz_16, Ng_16, Hs_16, Gs_16⟩ := id V_13
  obtain ⟨T_17, h_17, X_17, e_17, W_17, st_17⟩ := stI X_14 hx hZ e_14 Ar_16 (j := (3 : Int32)) (inb_of Sz_16 ⟨by decide, by decide⟩) (g := (mkF m 55 #[iv p1, iv p2, iv p3, iv p4, iv p5, rv b_1, .unset, .unset] [(.int (own_pick p1 p2 p3 ((p4.toUInt32 >>> ((6 : Int32) &&& 31).toUInt32).toInt32))), (.int 3), (.ref b_1)])) rfl rfl (hb hby at_55)
  refine own_st st_17 ?_
  have V_17 : Arv Z h_17 b_1 k_1 .int (5 : Int32) [(.int (own_pick p1 p2 p3 p4)), (.int (own_pick p1 p2 p3 ((p4.toUInt32 >>> ((2 : Int32) &&& 31).toUInt32).toInt32))), (.int (own_pick p1 p2 p3 ((p4.toUInt32 >>> ((4 : Int32) &&& 31).toUInt32).toInt32))), (.int (own_pick p1 p2 p3 ((p4.toUInt32 >>> ((6 : Int32) &&& 31).toUInt32).toInt32))), (.int (0 : Int32))] (.int (0 : Int32)) := Arv.set Ar_16 qk_16 Sz_16 Ng_16 Hs_16 Gs_16 rfl W_17 3 rfl (Nat.le_of_ble_eq_true rfl)
  have N_17 := Fr.snoc X_17 N_14 gg_1
  show own_Go _ _ _ _ (T_17.setTop (mkF m 56 #[iv p1, iv p2, iv p3, iv p4, iv p5, rv b_1, .unset, .unset] []))
  refine o_aload X_17 hx (hb hby at_56) rfl rfl ?_
  refine o_iconst X_17 hx 4 (hb hby at_58) rfl ?_
  refine o_iloadN X_17 hx (hb hby at_59) rfl ?_
  refine o_iloadN X_17 hx (hb hby at_60) rfl ?_
  refine o_iloadN X_17 hx (hb hby at_61) rfl ?_
  refine o_iloadN X_17 hx (hb hby at_62) rfl ?_
  refine o_bipush X_17 hx 8 (hb hby at_63) rfl ?_
  refine o_iushr X_17 hx (hb hby at_65) ?_
  have Zs_19 : n0 ≤ h_17.size := (Nat.le_trans Zs_15 (Keep.of_wr W_17).1)
  obtain ⟨_, _, ⟨T_18, L_18, k_18, n_18⟩, -, X_18, ⟨Lc_18, hQ_18, l_18, y_18, z_18⟩, st_18⟩ := Jvm.LawKit.callS X_17 hx (y := (⟨"com/example/ordinance/ordinance/policy/PartFinderBordersPinLaw", "pick", "(IIII)I"⟩ : MethodName)) hown (mvT hZ (hw _ (List.mem_of_getElem? (i := 1) rfl))) (mvT hZ (hw _ (List.mem_of_getElem? (i := 2) rfl))) (mvT hZ (hw _ (List.mem_of_getElem? (i := 3) rfl))) (mvT hZ (hw _ (List.mem_of_getElem? (i := 4) rfl))) (by decide) (backOf (W := 2) (rm1 l Z a0 hw [] p1 p2 p3 ((p4.toUInt32 >>> ((8 : Int32) &&& 31).toUInt32).toInt32)  h_17 n0 Zs_19) hZ (hw _ (List.mem_of_getElem? (i := 4) rfl)) (hw _ (List.mem_of_getElem? (i := 3) rfl)) (by decide) (by decide)) (g := (mkF m 66 #[iv p1, iv p2, iv p3, iv p4, iv p5, rv b_1, .unset, .unset] [(.int ((p4.toUInt32 >>> ((8 : Int32) &&& 31).toUInt32).toInt32)), (.int p3), (.int p2), (.int p1), (.int 4), (.ref b_1)])) rfl (by rw [hml]; rfl) (argsL := [(.int p1), (.int p2), (.int p3), (.int ((p4.toUInt32 >>> ((8 : Int32) &&& 31).toUInt32).toInt32))]) (rest := [(.int 4), (.ref b_1)]) (lenOf pd_2 rfl) rfl (by show 2 * 0 + _ ≤ _; exact Nat.le_of_eq rfl) (hb hby at_66) (fun _ _ => ⟨rfl, e_17, (by decide : 1 + 0 ≤ _), (by decide : 5 + 0 ≤ _)⟩)
  dsimp only [Pt.U, Pt.locs, Pt.cells, Pt.slots] at X_18 l_18 y_18 z_18 st_18 hQ_18
  subst l_18 y_18 z_18
  obtain ⟨rfl, Nq_18, e_18⟩ := hQ_18
  have N_18 := Fr.app N_17 Nq_18
  refine own_st st_18 ?_
  show own_Go _ _ _ _ (T_18.setTop (mkF m 69 #[iv p1, iv p2, iv p3, iv p4, iv p5, rv b_1, .unset, .unset] [(.int (own_pick p1 p2 p3 ((p4.toUInt32 >>> ((8 : Int32) &&& 31).toUInt32).toInt32))), (.int 4), (.ref b_1)]))
  obtain ⟨cl_20, Ar_20, qk_20, Sz_20, Ng_20, Hs_20, Gs_20⟩ := id V_17
  obtain ⟨T_21, h_21, X_21, e_21, W_21, st_21⟩ := stI X_18 hx hZ e_18 Ar_20 (j := (4 : Int32)) (inb_of Sz_20 ⟨by decide, by decide⟩) (g := (mkF m 69 #[iv p1, iv p2, iv p3, iv p4, iv p5, rv b_1, .unset, .unset] [(.int (own_pick p1 p2 p3 ((p4.toUInt32 >>> ((8 : Int32) &&& 31).toUInt32).toInt32))), (.int 4), (.ref b_1)])) rfl rfl (hb hby at_69)
  refine own_st st_21 ?_
  have V_21 : Arv Z h_21 b_1 k_1 .int (5 : Int32) [(.int (own_pick p1 p2 p3 p4)), (.int (own_pick p1 p2 p3 ((p4.toUInt32 >>> ((2 : Int32) &&& 31).toUInt32).toInt32))), (.int (own_pick p1 p2 p3 ((p4.toUInt32 >>> ((4 : Int32) &&& 31).toUInt32).toInt32))), (.int (own_pick p1 p2 p3 ((p4.toUInt32 >>> ((6 : Int32) &&& 31).toUInt32).toInt32))), (.int (own_pick p1 p2 p3 ((p4.toUInt32 >>> ((8 : Int32) &&& 31).toUInt32).toInt32)))] (.int (0 : Int32)) := Arv.set Ar_20 qk_20 Sz_20 Ng_20 Hs_20 Gs_20 rfl W_21 4 rfl (Nat.le_of_ble_eq_true rfl)
  have N_21 := Fr.snoc X_21 N_18 gg_1
  show own_Go _ _ _ _ (T_21.setTop (mkF m 70 #[iv p1, iv p2, iv p3, iv p4, iv p5, rv b_1, .unset, .unset] []))
  refine o_iload X_21 hx (hb hby at_70) rfl ?_
  refine o_ldc X_21 hx hown (hb hby at_72) (mvT hZ (hw _ (List.mem_of_getElem? (i := 5) rfl))) ?_
  refine o_iand X_21 hx (hb hby at_74) ?_
  refine o_bipush X_21 hx 6 (hb hby at_75) rfl ?_
  refine o_irem X_21 hx (hb hby at_77) (by decide) ?_
  refine o_istore X_21 hx (hb hby at_78) (l' := #[iv p1, iv p2, iv p3, iv p4, iv p5, rv b_1, iv ((p5 &&& (2147483647 : Int32)) - (p5 &&& (2147483647 : Int32)) / (6 : Int32) * (6 : Int32)), .unset]) rfl ?_
  rcases own_six p5 with hL | hL | hL | hL | hL | hL
  · rw [hL]
    show own_Go _ _ _ _ (T_21.setTop (mkF m 80 #[iv p1, iv p2, iv p3, iv p4, iv p5, rv b_1, iv 0, .unset] []))
    refine o_aload X_21 hx (hb hby at_80) rfl rfl ?_
    refine o_iload X_21 hx (hb hby at_82) rfl ?_
    have Zs_23 : n0 ≤ h_21.size := (Nat.le_trans Zs_19 (Keep.of_wr W_21).1)
    obtain ⟨_, _, ⟨T_22, L_22, k_22, n_22⟩, -, X_22, ⟨Lc_22, hQ_22, l_22, y_22, z_22⟩, st_22⟩ := Jvm.LawKit.callS X_21 hx (y := (⟨"com/example/ordinance/ordinance/policy/PartFinder", "borders", "([II)[I"⟩ : MethodName)) hown (mvT hZ (hw _ (List.mem_of_getElem? (i := 6) rfl))) (mvT hZ (hw _ (List.mem_of_getElem? (i := 7) rfl))) (mvT hZ (hw _ (List.mem_of_getElem? (i := 8) rfl))) (mvT hZ (hw _ (List.mem_of_getElem? (i := 9) rfl))) (by decide) (backOf (W := 0) (rmbo0 l Z a0 hw [] b_1 k_1 (.int (0 : Int32)) (own_pick p1 p2 p3 p4) (own_pick p1 p2 p3 ((p4.toUInt32 >>> ((2 : Int32) &&& 31).toUInt32).toInt32)) (own_pick p1 p2 p3 ((p4.toUInt32 >>> ((4 : Int32) &&& 31).toUInt32).toInt32)) (own_pick p1 p2 p3 ((p4.toUInt32 >>> ((6 : Int32) &&& 31).toUInt32).toInt32)) (own_pick p1 p2 p3 ((p4.toUInt32 >>> ((8 : Int32) &&& 31).toUInt32).toInt32)) h_21 n0 Zs_23 V_21) hZ (hw _ (List.mem_of_getElem? (i := 9) rfl)) (hw _ (List.mem_of_getElem? (i := 8) rfl)) (by decide) (by decide)) (g := (mkF m 84 #[iv p1, iv p2, iv p3, iv p4, iv p5, rv b_1, iv 0, .unset] [(.int 0), (.ref b_1)])) rfl (by rw [hml]; rfl) (argsL := [(.ref b_1), (.int 0)]) (rest := []) (lenOf pd_3 rfl) rfl (by show 2 * 0 + _ ≤ _; exact Nat.le_of_eq rfl) (hb hby at_84) (fun _ _ => ⟨rfl, e_21, (by decide : 1 + 1 ≤ _), (by decide : 5 + 0 ≤ _)⟩)
    dsimp only [Pt.U, Pt.locs, Pt.cells, Pt.slots] at X_22 l_22 y_22 z_22 st_22 hQ_22
    subst l_22 y_22 z_22
    obtain ⟨b__22, kB__22, rfl, Nq_22, K_22, gq_22_b, sq_22_b, Fq_22_0⟩ := hQ_22
    have N_22 := Fr.app N_21 Nq_22
    have Kp_24 : Keep h0 h_21 [] := (((((((Keep.refl h0 []).ext E_1).wr W_5 (Or.inr sz_1)).wr W_9 (Or.inr sz_1)).wr W_13 (Or.inr sz_1)).wr W_17 (Or.inr sz_1)).wr W_21 (Or.inr sz_1))
    have szq_22_b : h0.size ≤ b__22 := Nat.le_trans Kp_24.1 sq_22_b
    refine own_st st_22 ?_
    show own_Go _ _ _ _ (T_22.setTop (mkF m 87 #[iv p1, iv p2, iv p3, iv p4, iv p5, rv b_1, iv 0, .unset] [(.ref b__22)]))
    refine o_astore X_22 hx (hb hby at_87) rfl (l' := #[iv p1, iv p2, iv p3, iv p4, iv p5, rv b_1, iv 0, rv b__22]) rfl ?_
    refine o_aload X_22 hx (hb hby at_89) rfl rfl ?_
    obtain ⟨cl_25, Ar_25, qk_25, Sz_25, Ng_25, Hs_25, Gs_25⟩ := id Fq_22_0
    refine own_st (X_22.arraylength hx Ar_25.1 (State.isArrayOf_alike hZ.alike Ar_25.2.1) (g := (mkF m 91 #[iv p1, iv p2, iv p3, iv p4, iv p5, rv b_1, iv 0, rv b__22] [(.ref b__22)])) rfl rfl (hb hby at_91)) ?_
    rw [len_of Sz_25 Ng_25]
    show own_Go _ _ _ _ (T_22.setTop (mkF m 92 #[iv p1, iv p2, iv p3, iv p4, iv p5, rv b_1, iv 0, rv b__22] [(.int 0)]))
    refine o_iload X_22 hx (hb hby at_92) rfl ?_
    refine o_icmpYes X_22 hx (pc' := 99) (hb hby at_94) (teq (by decide : (0 : Int32) = (0 : Int32))).1 (by decide) (by decide) ?_
    refine o_iload X_22 hx (hb hby at_99) rfl ?_
    refine o_ifYes X_22 hx (pc' := 119) (hb hby at_101) (flt (by decide : ¬ ((0 : Int32) < (0 : Int32)))).2.2.2 (by decide) (by decide) ?_
    refine o_iload X_22 hx (hb hby at_119) rfl ?_
    refine o_iconst X_22 hx 1 (hb hby at_121) rfl ?_
    refine o_icmpYes X_22 hx (pc' := 140) (hb hby at_122) (flt (by decide : ¬ ((1 : Int32) < (0 : Int32)))).2.2.2 (by decide) (by decide) ?_
    refine o_iload X_22 hx (hb hby at_140) rfl ?_
    refine o_iconst X_22 hx 2 (hb hby at_142) rfl ?_
    refine o_icmpYes X_22 hx (pc' := 161) (hb hby at_143) (flt (by decide : ¬ ((2 : Int32) < (0 : Int32)))).2.2.2 (by decide) (by decide) ?_
    refine o_iload X_22 hx (hb hby at_161) rfl ?_
    refine o_iconst X_22 hx 3 (hb hby at_163) rfl ?_
    refine o_icmpYes X_22 hx (pc' := 182) (hb hby at_164) (flt (by decide : ¬ ((3 : Int32) < (0 : Int32)))).2.2.2 (by decide) (by decide) ?_
    refine o_iload X_22 hx (hb hby at_182) rfl ?_
    refine o_iconst X_22 hx 4 (hb hby at_184) rfl ?_
    refine o_icmpYes X_22 hx (pc' := 203) (hb hby at_185) (flt (by decide : ¬ ((4 : Int32) < (0 : Int32)))).2.2.2 (by decide) (by decide) ?_
    refine o_aload X_22 hx (hb hby at_203) rfl rfl ?_
    refine o_iconst X_22 hx 0 (hb hby at_205) rfl ?_
    have Fa_26 := (V_21.keep K_22 nin0)
    obtain ⟨cl_27, Ar_27, qk_27, Sz_27, Ng_27, Hs_27, Gs_27⟩ := id Fa_26
    refine own_st (X_22.iaload hx (j := (0 : Int32)) (v := (.int (own_pick p1 p2 p3 p4))) Ar_27.1 (State.isArrayOf_alike hZ.alike Ar_27.2.1) Ar_27.2.2 (inb_of Sz_27 ⟨by decide, by decide⟩) (Hs_27.at (j := (0 : Int32)) (inb_of Sz_27 ⟨by decide, by decide⟩) rfl) (g := (mkF m 206 #[iv p1, iv p2, iv p3, iv p4, iv p5, rv b_1, iv 0, rv b__22] [(.int 0), (.ref b_1)])) rfl rfl (hb hby at_206)) ?_
    show own_Go _ _ _ _ (T_22.setTop (mkF m 207 #[iv p1, iv p2, iv p3, iv p4, iv p5, rv b_1, iv 0, rv b__22] [(.int (own_pick p1 p2 p3 p4))]))
    refine o_iloadN X_22 hx (hb hby at_207) rfl ?_
    refine o_iloadN X_22 hx (hb hby at_208) rfl ?_
    refine o_iloadN X_22 hx (hb hby at_209) rfl ?_
    refine o_iloadN X_22 hx (hb hby at_210) rfl ?_
    have Zs_29 : n0 ≤ T_22.heap.size := (Nat.le_trans Zs_23 K_22.1)
    obtain ⟨_, _, ⟨T_28, L_28, k_28, n_28⟩, -, X_28, ⟨Lc_28, hQ_28, l_28, y_28, z_28⟩, st_28⟩ := Jvm.LawKit.callS X_22 hx (y := (⟨"com/example/ordinance/ordinance/policy/PartFinderBordersPinLaw", "pick", "(IIII)I"⟩ : MethodName)) hown (mvT hZ (hw _ (List.mem_of_getElem? (i := 1) rfl))) (mvT hZ (hw _ (List.mem_of_getElem? (i := 2) rfl))) (mvT hZ (hw _ (List.mem_of_getElem? (i := 3) rfl))) (mvT hZ (hw _ (List.mem_of_getElem? (i := 4) rfl))) (by decide) (backOf (W := 1) (rm1 l Z a0 hw [] p1 p2 p3 p4  T_22.heap n0 Zs_29) hZ (hw _ (List.mem_of_getElem? (i := 4) rfl)) (hw _ (List.mem_of_getElem? (i := 3) rfl)) (by decide) (by decide)) (g := (mkF m 211 #[iv p1, iv p2, iv p3, iv p4, iv p5, rv b_1, iv 0, rv b__22] [(.int p4), (.int p3), (.int p2), (.int p1), (.int (own_pick p1 p2 p3 p4))])) rfl (by rw [hml]; rfl) (argsL := [(.int p1), (.int p2), (.int p3), (.int p4)]) (rest := [(.int (own_pick p1 p2 p3 p4))]) (lenOf pd_2 rfl) rfl (by show 2 * 0 + _ ≤ _; exact Nat.le_of_eq rfl) (hb hby at_211) (fun _ _ => ⟨rfl, rfl, (by decide : 2 + 0 ≤ _), (by decide : 5 + 0 ≤ _)⟩)
    dsimp only [Pt.U, Pt.locs, Pt.cells, Pt.slots] at X_28 l_28 y_28 z_28 st_28 hQ_28
    subst l_28 y_28 z_28
    obtain ⟨rfl, Nq_28, e_28⟩ := hQ_28
    have N_28 := Fr.app N_22 Nq_28
    refine own_st st_28 ?_
    show own_Go _ _ _ _ (T_28.setTop (mkF m 214 #[iv p1, iv p2, iv p3, iv p4, iv p5, rv b_1, iv 0, rv b__22] [(.int (own_pick p1 p2 p3 p4)), (.int (own_pick p1 p2 p3 p4))]))
    refine o_icmpNo X_28 hx (hb hby at_214) (teq (rfl : (own_pick p1 p2 p3 p4) = (own_pick p1 p2 p3 p4))).2 ?_
    refine o_aload X_28 hx (hb hby at_217) rfl rfl ?_
    refine o_iconst X_28 hx 1 (hb hby at_219) rfl ?_
    obtain ⟨cl_30, Ar_30, qk_30, Sz_30, Ng_30, Hs_30, Gs_30⟩ := id Fa_26
    refine own_st (X_28.iaload hx (j := (1 : Int32)) (v := (.int (own_pick p1 p2 p3 ((p4.toUInt32 >>> ((2 : Int32) &&& 31).toUInt32).toInt32)))) (by rw [e_28]; exact Ar_30.1) (State.isArrayOf_alike hZ.alike Ar_30.2.1) Ar_30.2.2 (inb_of Sz_30 ⟨by decide, by decide⟩) (Hs_30.at (j := (1 : Int32)) (inb_of Sz_30 ⟨by decide, by decide⟩) rfl) (g := (mkF m 220 #[iv p1, iv p2, iv p3, iv p4, iv p5, rv b_1, iv 0, rv b__22] [(.int 1), (.ref b_1)])) rfl rfl (hb hby at_220)) ?_
    show own_Go _ _ _ _ (T_28.setTop (mkF m 221 #[iv p1, iv p2, iv p3, iv p4, iv p5, rv b_1, iv 0, rv b__22] [(.int (own_pick p1 p2 p3 ((p4.toUInt32 >>> ((2 : Int32) &&& 31).toUInt32).toInt32)))]))
    refine o_iloadN X_28 hx (hb hby at_221) rfl ?_
    refine o_iloadN X_28 hx (hb hby at_222) rfl ?_
    refine o_iloadN X_28 hx (hb hby at_223) rfl ?_
    refine o_iloadN X_28 hx (hb hby at_224) rfl ?_
    refine o_iconst X_28 hx 2 (hb hby at_225) rfl ?_
    refine o_iushr X_28 hx (hb hby at_226) ?_
    obtain ⟨_, _, ⟨T_31, L_31, k_31, n_31⟩, -, X_31, ⟨Lc_31, hQ_31, l_31, y_31, z_31⟩, st_31⟩ := Jvm.LawKit.callS X_28 hx (y := (⟨"com/example/ordinance/ordinance/policy/PartFinderBordersPinLaw", "pick", "(IIII)I"⟩ : MethodName)) hown (mvT hZ (hw _ (List.mem_of_getElem? (i := 1) rfl))) (mvT hZ (hw _ (List.mem_of_getElem? (i := 2) rfl))) (mvT hZ (hw _ (List.mem_of_getElem? (i := 3) rfl))) (mvT hZ (hw _ (List.mem_of_getElem? (i := 4) rfl))) (by decide) (backOf (W := 1) (rm1 l Z a0 hw [] p1 p2 p3 ((p4.toUInt32 >>> ((2 : Int32) &&& 31).toUInt32).toInt32)  T_22.heap n0 Zs_29) hZ (hw _ (List.mem_of_getElem? (i := 4) rfl)) (hw _ (List.mem_of_getElem? (i := 3) rfl)) (by decide) (by decide)) (g := (mkF m 227 #[iv p1, iv p2, iv p3, iv p4, iv p5, rv b_1, iv 0, rv b__22] [(.int ((p4.toUInt32 >>> ((2 : Int32) &&& 31).toUInt32).toInt32)), (.int p3), (.int p2), (.int p1), (.int (own_pick p1 p2 p3 ((p4.toUInt32 >>> ((2 : Int32) &&& 31).toUInt32).toInt32)))])) rfl (by rw [hml]; rfl) (argsL := [(.int p1), (.int p2), (.int p3), (.int ((p4.toUInt32 >>> ((2 : Int32) &&& 31).toUInt32).toInt32))]) (rest := [(.int (own_pick p1 p2 p3 ((p4.toUInt32 >>> ((2 : Int32) &&& 31).toUInt32).toInt32)))]) (lenOf pd_2 rfl) rfl (by show 2 * 0 + _ ≤ _; exact Nat.le_of_eq rfl) (hb hby at_227) (fun _ _ => ⟨rfl, e_28, (by decide : 2 + 0 ≤ _), (by decide : 5 + 0 ≤ _)⟩)
    dsimp only [Pt.U, Pt.locs, Pt.cells, Pt.slots] at X_31 l_31 y_31 z_31 st_31 hQ_31
    subst l_31 y_31 z_31
    obtain ⟨rfl, Nq_31, e_31⟩ := hQ_31
    have N_31 := Fr.app N_28 Nq_31
    refine own_st st_31 ?_
    show own_Go _ _ _ _ (T_31.setTop (mkF m 230 #[iv p1, iv p2, iv p3, iv p4, iv p5, rv b_1, iv 0, rv b__22] [(.int (own_pick p1 p2 p3 ((p4.toUInt32 >>> ((2 : Int32) &&& 31).toUInt32).toInt32))), (.int (own_pick p1 p2 p3 ((p4.toUInt32 >>> ((2 : Int32) &&& 31).toUInt32).toInt32)))]))
    refine o_icmpNo X_31 hx (hb hby at_230) (teq (rfl : (own_pick p1 p2 p3 ((p4.toUInt32 >>> ((2 : Int32) &&& 31).toUInt32).toInt32)) = (own_pick p1 p2 p3 ((p4.toUInt32 >>> ((2 : Int32) &&& 31).toUInt32).toInt32)))).2 ?_
    refine o_aload X_31 hx (hb hby at_233) rfl rfl ?_
    refine o_iconst X_31 hx 2 (hb hby at_235) rfl ?_
    obtain ⟨cl_32, Ar_32, qk_32, Sz_32, Ng_32, Hs_32, Gs_32⟩ := id Fa_26
    refine own_st (X_31.iaload hx (j := (2 : Int32)) (v := (.int (own_pick p1 p2 p3 ((p4.toUInt32 >>> ((4 : Int32) &&& 31).toUInt32).toInt32)))) (by rw [e_31]; exact Ar_32.1) (State.isArrayOf_alike hZ.alike Ar_32.2.1) Ar_32.2.2 (inb_of Sz_32 ⟨by decide, by decide⟩) (Hs_32.at (j := (2 : Int32)) (inb_of Sz_32 ⟨by decide, by decide⟩) rfl) (g := (mkF m 236 #[iv p1, iv p2, iv p3, iv p4, iv p5, rv b_1, iv 0, rv b__22] [(.int 2), (.ref b_1)])) rfl rfl (hb hby at_236)) ?_
    show own_Go _ _ _ _ (T_31.setTop (mkF m 237 #[iv p1, iv p2, iv p3, iv p4, iv p5, rv b_1, iv 0, rv b__22] [(.int (own_pick p1 p2 p3 ((p4.toUInt32 >>> ((4 : Int32) &&& 31).toUInt32).toInt32)))]))
    refine o_iloadN X_31 hx (hb hby at_237) rfl ?_
    refine o_iloadN X_31 hx (hb hby at_238) rfl ?_
    refine o_iloadN X_31 hx (hb hby at_239) rfl ?_
    refine o_iloadN X_31 hx (hb hby at_240) rfl ?_
    refine o_iconst X_31 hx 4 (hb hby at_241) rfl ?_
    refine o_iushr X_31 hx (hb hby at_242) ?_
    obtain ⟨_, _, ⟨T_33, L_33, k_33, n_33⟩, -, X_33, ⟨Lc_33, hQ_33, l_33, y_33, z_33⟩, st_33⟩ := Jvm.LawKit.callS X_31 hx (y := (⟨"com/example/ordinance/ordinance/policy/PartFinderBordersPinLaw", "pick", "(IIII)I"⟩ : MethodName)) hown (mvT hZ (hw _ (List.mem_of_getElem? (i := 1) rfl))) (mvT hZ (hw _ (List.mem_of_getElem? (i := 2) rfl))) (mvT hZ (hw _ (List.mem_of_getElem? (i := 3) rfl))) (mvT hZ (hw _ (List.mem_of_getElem? (i := 4) rfl))) (by decide) (backOf (W := 1) (rm1 l Z a0 hw [] p1 p2 p3 ((p4.toUInt32 >>> ((4 : Int32) &&& 31).toUInt32).toInt32)  T_22.heap n0 Zs_29) hZ (hw _ (List.mem_of_getElem? (i := 4) rfl)) (hw _ (List.mem_of_getElem? (i := 3) rfl)) (by decide) (by decide)) (g := (mkF m 243 #[iv p1, iv p2, iv p3, iv p4, iv p5, rv b_1, iv 0, rv b__22] [(.int ((p4.toUInt32 >>> ((4 : Int32) &&& 31).toUInt32).toInt32)), (.int p3), (.int p2), (.int p1), (.int (own_pick p1 p2 p3 ((p4.toUInt32 >>> ((4 : Int32) &&& 31).toUInt32).toInt32)))])) rfl (by rw [hml]; rfl) (argsL := [(.int p1), (.int p2), (.int p3), (.int ((p4.toUInt32 >>> ((4 : Int32) &&& 31).toUInt32).toInt32))]) (rest := [(.int (own_pick p1 p2 p3 ((p4.toUInt32 >>> ((4 : Int32) &&& 31).toUInt32).toInt32)))]) (lenOf pd_2 rfl) rfl (by show 2 * 0 + _ ≤ _; exact Nat.le_of_eq rfl) (hb hby at_243) (fun _ _ => ⟨rfl, e_31, (by decide : 2 + 0 ≤ _), (by decide : 5 + 0 ≤ _)⟩)
    dsimp only [Pt.U, Pt.locs, Pt.cells, Pt.slots] at X_33 l_33 y_33 z_33 st_33 hQ_33
    subst l_33 y_33 z_33
    obtain ⟨rfl, Nq_33, e_33⟩ := hQ_33
    have N_33 := Fr.app N_31 Nq_33
    refine own_st st_33 ?_
    show own_Go _ _ _ _ (T_33.setTop (mkF m 246 #[iv p1, iv p2, iv p3, iv p4, iv p5, rv b_1, iv 0, rv b__22] [(.int (own_pick p1 p2 p3 ((p4.toUInt32 >>> ((4 : Int32) &&& 31).toUInt32).toInt32))), (.int (own_pick p1 p2 p3 ((p4.toUInt32 >>> ((4 : Int32) &&& 31).toUInt32).toInt32)))]))
    refine o_icmpNo X_33 hx (hb hby at_246) (teq (rfl : (own_pick p1 p2 p3 ((p4.toUInt32 >>> ((4 : Int32) &&& 31).toUInt32).toInt32)) = (own_pick p1 p2 p3 ((p4.toUInt32 >>> ((4 : Int32) &&& 31).toUInt32).toInt32)))).2 ?_
    refine o_aload X_33 hx (hb hby at_249) rfl rfl ?_
    refine o_iconst X_33 hx 3 (hb hby at_251) rfl ?_
    obtain ⟨cl_34, Ar_34, qk_34, Sz_34, Ng_34, Hs_34, Gs_34⟩ := id Fa_26
    refine own_st (X_33.iaload hx (j := (3 : Int32)) (v := (.int (own_pick p1 p2 p3 ((p4.toUInt32 >>> ((6 : Int32) &&& 31).toUInt32).toInt32)))) (by rw [e_33]; exact Ar_34.1) (State.isArrayOf_alike hZ.alike Ar_34.2.1) Ar_34.2.2 (inb_of Sz_34 ⟨by decide, by decide⟩) (Hs_34.at (j := (3 : Int32)) (inb_of Sz_34 ⟨by decide, by decide⟩) rfl) (g := (mkF m 252 #[iv p1, iv p2, iv p3, iv p4, iv p5, rv b_1, iv 0, rv b__22] [(.int 3), (.ref b_1)])) rfl rfl (hb hby at_252)) ?_
    show own_Go _ _ _ _ (T_33.setTop (mkF m 253 #[iv p1, iv p2, iv p3, iv p4, iv p5, rv b_1, iv 0, rv b__22] [(.int (own_pick p1 p2 p3 ((p4.toUInt32 >>> ((6 : Int32) &&& 31).toUInt32).toInt32)))]))
    refine o_iloadN X_33 hx (hb hby at_253) rfl ?_
    refine o_iloadN X_33 hx (hb hby at_254) rfl ?_
    refine o_iloadN X_33 hx (hb hby at_255) rfl ?_
    refine o_iloadN X_33 hx (hb hby at_256) rfl ?_
    refine o_bipush X_33 hx 6 (hb hby at_257) rfl ?_
    refine o_iushr X_33 hx (hb hby at_259) ?_
    obtain ⟨_, _, ⟨T_35, L_35, k_35, n_35⟩, -, X_35, ⟨Lc_35, hQ_35, l_35, y_35, z_35⟩, st_35⟩ := Jvm.LawKit.callS X_33 hx (y := (⟨"com/example/ordinance/ordinance/policy/PartFinderBordersPinLaw", "pick", "(IIII)I"⟩ : MethodName)) hown (mvT hZ (hw _ (List.mem_of_getElem? (i := 1) rfl))) (mvT hZ (hw _ (List.mem_of_getElem? (i := 2) rfl))) (mvT hZ (hw _ (List.mem_of_getElem? (i := 3) rfl))) (mvT hZ (hw _ (List.mem_of_getElem? (i := 4) rfl))) (by decide) (backOf (W := 1) (rm1 l Z a0 hw [] p1 p2 p3 ((p4.toUInt32 >>> ((6 : Int32) &&& 31).toUInt32).toInt32)  T_22.heap n0 Zs_29) hZ (hw _ (List.mem_of_getElem? (i := 4) rfl)) (hw _ (List.mem_of_getElem? (i := 3) rfl)) (by decide) (by decide)) (g := (mkF m 260 #[iv p1, iv p2, iv p3, iv p4, iv p5, rv b_1, iv 0, rv b__22] [(.int ((p4.toUInt32 >>> ((6 : Int32) &&& 31).toUInt32).toInt32)), (.int p3), (.int p2), (.int p1), (.int (own_pick p1 p2 p3 ((p4.toUInt32 >>> ((6 : Int32) &&& 31).toUInt32).toInt32)))])) rfl (by rw [hml]; rfl) (argsL := [(.int p1), (.int p2), (.int p3), (.int ((p4.toUInt32 >>> ((6 : Int32) &&& 31).toUInt32).toInt32))]) (rest := [(.int (own_pick p1 p2 p3 ((p4.toUInt32 >>> ((6 : Int32) &&& 31).toUInt32).toInt32)))]) (lenOf pd_2 rfl) rfl (by show 2 * 0 + _ ≤ _; exact Nat.le_of_eq rfl) (hb hby at_260) (fun _ _ => ⟨rfl, e_33, (by decide : 2 + 0 ≤ _), (by decide : 5 + 0 ≤ _)⟩)
    dsimp only [Pt.U, Pt.locs, Pt.cells, Pt.slots] at X_35 l_35 y_35 z_35 st_35 hQ_35
    subst l_35 y_35 z_35
    obtain ⟨rfl, Nq_35, e_35⟩ := hQ_35
    have N_35 := Fr.app N_33 Nq_35
    refine own_st st_35 ?_
    show own_Go _ _ _ _ (T_35.setTop (mkF m 263 #[iv p1, iv p2, iv p3, iv p4, iv p5, rv b_1, iv 0, rv b__22] [(.int (own_pick p1 p2 p3 ((p4.toUInt32 >>> ((6 : Int32) &&& 31).toUInt32).toInt32))), (.int (own_pick p1 p2 p3 ((p4.toUInt32 >>> ((6 : Int32) &&& 31).toUInt32).toInt32)))]))
    refine o_icmpNo X_35 hx (hb hby at_263) (teq (rfl : (own_pick p1 p2 p3 ((p4.toUInt32 >>> ((6 : Int32) &&& 31).toUInt32).toInt32)) = (own_pick p1 p2 p3 ((p4.toUInt32 >>> ((6 : Int32) &&& 31).toUInt32).toInt32)))).2 ?_
    refine o_aload X_35 hx (hb hby at_266) rfl rfl ?_
    refine o_iconst X_35 hx 4 (hb hby at_268) rfl ?_
    obtain ⟨cl_36, Ar_36, qk_36, Sz_36, Ng_36, Hs_36, Gs_36⟩ := id Fa_26
    refine own_st (X_35.iaload hx (j := (4 : Int32)) (v := (.int (own_pick p1 p2 p3 ((p4.toUInt32 >>> ((8 : Int32) &&& 31).toUInt32).toInt32)))) (by rw [e_35]; exact Ar_36.1) (State.isArrayOf_alike hZ.alike Ar_36.2.1) Ar_36.2.2 (inb_of Sz_36 ⟨by decide, by decide⟩) (Hs_36.at (j := (4 : Int32)) (inb_of Sz_36 ⟨by decide, by decide⟩) rfl) (g := (mkF m 269 #[iv p1, iv p2, iv p3, iv p4, iv p5, rv b_1, iv 0, rv b__22] [(.int 4), (.ref b_1)])) rfl rfl (hb hby at_269)) ?_
    show own_Go _ _ _ _ (T_35.setTop (mkF m 270 #[iv p1, iv p2, iv p3, iv p4, iv p5, rv b_1, iv 0, rv b__22] [(.int (own_pick p1 p2 p3 ((p4.toUInt32 >>> ((8 : Int32) &&& 31).toUInt32).toInt32)))]))
    refine o_iloadN X_35 hx (hb hby at_270) rfl ?_
    refine o_iloadN X_35 hx (hb hby at_271) rfl ?_
    refine o_iloadN X_35 hx (hb hby at_272) rfl ?_
    refine o_iloadN X_35 hx (hb hby at_273) rfl ?_
    refine o_bipush X_35 hx 8 (hb hby at_274) rfl ?_
    refine o_iushr X_35 hx (hb hby at_276) ?_
    obtain ⟨_, _, ⟨T_37, L_37, k_37, n_37⟩, -, X_37, ⟨Lc_37, hQ_37, l_37, y_37, z_37⟩, st_37⟩ := Jvm.LawKit.callS X_35 hx (y := (⟨"com/example/ordinance/ordinance/policy/PartFinderBordersPinLaw", "pick", "(IIII)I"⟩ : MethodName)) hown (mvT hZ (hw _ (List.mem_of_getElem? (i := 1) rfl))) (mvT hZ (hw _ (List.mem_of_getElem? (i := 2) rfl))) (mvT hZ (hw _ (List.mem_of_getElem? (i := 3) rfl))) (mvT hZ (hw _ (List.mem_of_getElem? (i := 4) rfl))) (by decide) (backOf (W := 1) (rm1 l Z a0 hw [] p1 p2 p3 ((p4.toUInt32 >>> ((8 : Int32) &&& 31).toUInt32).toInt32)  T_22.heap n0 Zs_29) hZ (hw _ (List.mem_of_getElem? (i := 4) rfl)) (hw _ (List.mem_of_getElem? (i := 3) rfl)) (by decide) (by decide)) (g := (mkF m 277 #[iv p1, iv p2, iv p3, iv p4, iv p5, rv b_1, iv 0, rv b__22] [(.int ((p4.toUInt32 >>> ((8 : Int32) &&& 31).toUInt32).toInt32)), (.int p3), (.int p2), (.int p1), (.int (own_pick p1 p2 p3 ((p4.toUInt32 >>> ((8 : Int32) &&& 31).toUInt32).toInt32)))])) rfl (by rw [hml]; rfl) (argsL := [(.int p1), (.int p2), (.int p3), (.int ((p4.toUInt32 >>> ((8 : Int32) &&& 31).toUInt32).toInt32))]) (rest := [(.int (own_pick p1 p2 p3 ((p4.toUInt32 >>> ((8 : Int32) &&& 31).toUInt32).toInt32)))]) (lenOf pd_2 rfl) rfl (by show 2 * 0 + _ ≤ _; exact Nat.le_of_eq rfl) (hb hby at_277) (fun _ _ => ⟨rfl, e_35, (by decide : 2 + 0 ≤ _), (by decide : 5 + 0 ≤ _)⟩)
    dsimp only [Pt.U, Pt.locs, Pt.cells, Pt.slots] at X_37 l_37 y_37 z_37 st_37 hQ_37
    subst l_37 y_37 z_37
    obtain ⟨rfl, Nq_37, e_37⟩ := hQ_37
    have N_37 := Fr.app N_35 Nq_37
    refine own_st st_37 ?_
    show own_Go _ _ _ _ (T_37.setTop (mkF m 280 #[iv p1, iv p2, iv p3, iv p4, iv p5, rv b_1, iv 0, rv b__22] [(.int (own_pick p1 p2 p3 ((p4.toUInt32 >>> ((8 : Int32) &&& 31).toUInt32).toInt32))), (.int (own_pick p1 p2 p3 ((p4.toUInt32 >>> ((8 : Int32) &&& 31).toUInt32).toInt32)))]))
    refine o_icmpNo X_37 hx (hb hby at_280) (teq (rfl : (own_pick p1 p2 p3 ((p4.toUInt32 >>> ((8 : Int32) &&& 31).toUInt32).toInt32)) = (own_pick p1 p2 p3 ((p4.toUInt32 >>> ((8 : Int32) &&& 31).toUInt32).toInt32)))).2 ?_
    refine o_iconst X_37 hx 1 (hb hby at_283) rfl ?_
    refine o_goto X_37 hx (pc' := 288) (hb hby at_284) (by decide) (by decide) ?_
    have Kp_38 : Keep h0 T_22.heap [] := (Kp_24.trans K_22 all0)
    exact own_end X_37 e_37 (v := some (.int (1 : Int32))) (fun h => by rw [Bd.returns] at h; cases h) hlk (fun fs hr => retN X_37 hx (z := (1 : Int32)) (t := .boolean) Bd.returns (by simp) (hb hby at_288) hr) (Q := Q_rm0 Z a0 p1 p2 p3 p4 p5 h0 n0) ⟨rfl, N_37, Kp_38⟩ (by decide) (by decide)
  · rw [hL]
    show own_Go _ _ _ _ (T_21.setTop (mkF m 80 #[iv p1, iv p2, iv p3, iv p4, iv p5, rv b_1, iv 1, .unset] []))
    refine o_aload X_21 hx (hb hby at_80) rfl rfl ?_
    refine o_iload X_21 hx (hb hby at_82) rfl ?_
    have Zs_40 : n0 ≤ h_21.size := (Nat.le_trans Zs_19 (Keep.of_wr W_21).1)
    obtain ⟨_, _, ⟨T_39, L_39, k_39, n_39⟩, -, X_39, ⟨Lc_39, hQ_39, l_39, y_39, z_39⟩, st_39⟩ := Jvm.LawKit.callS X_21 hx (y := (⟨"com/example/ordinance/ordinance/policy/PartFinder", "borders", "([II)[I"⟩ : MethodName)) hown (mvT hZ (hw _ (List.mem_of_getElem? (i := 6) rfl))) (mvT hZ (hw _ (List.mem_of_getElem? (i := 7) rfl))) (mvT hZ (hw _ (List.mem_of_getElem? (i := 8) rfl))) (mvT hZ (hw _ (List.mem_of_getElem? (i := 9) rfl))) (by decide) (backOf (W := 0) (rmbo1 l Z a0 hw [] b_1 k_1 (.int (0 : Int32)) (own_pick p1 p2 p3 p4) (own_pick p1 p2 p3 ((p4.toUInt32 >>> ((2 : Int32) &&& 31).toUInt32).toInt32)) (own_pick p1 p2 p3 ((p4.toUInt32 >>> ((4 : Int32) &&& 31).toUInt32).toInt32)) (own_pick p1 p2 p3 ((p4.toUInt32 >>> ((6 : Int32) &&& 31).toUInt32).toInt32)) (own_pick p1 p2 p3 ((p4.toUInt32 >>> ((8 : Int32) &&& 31).toUInt32).toInt32)) h_21 n0 Zs_40 V_21) hZ (hw _ (List.mem_of_getElem? (i := 9) rfl)) (hw _ (List.mem_of_getElem? (i := 8) rfl)) (by decide) (by decide)) (g := (mkF m 84 #[iv p1, iv p2, iv p3, iv p4, iv p5, rv b_1, iv 1, .unset] [(.int 1), (.ref b_1)])) rfl (by rw [hml]; rfl) (argsL := [(.ref b_1), (.int 1)]) (rest := []) (lenOf pd_3 rfl) rfl (by show 2 * 0 + _ ≤ _; exact Nat.le_of_eq rfl) (hb hby at_84) (fun _ _ => ⟨rfl, e_21, (by decide : 1 + 1 ≤ _), (by decide : 5 + 1 ≤ _)⟩)
    dsimp only [Pt.U, Pt.locs, Pt.cells, Pt.slots] at X_39 l_39 y_39 z_39 st_39 hQ_39
    subst l_39 y_39 z_39
    obtain ⟨b__39, kB__39, rfl, Nq_39, K_39, gq_39_b, sq_39_b, Fq_39_0⟩ := hQ_39
    have N_39 := Fr.app N_21 Nq_39
    have Kp_41 : Keep h0 h_21 [] := (((((((Keep.refl h0 []).ext E_1).wr W_5 (Or.inr sz_1)).wr W_9 (Or.inr sz_1)).wr W_13 (Or.inr sz_1)).wr W_17 (Or.inr sz_1)).wr W_21 (Or.inr sz_1))
    have szq_39_b : h0.size ≤ b__39 := Nat.le_trans Kp_41.1 sq_39_b
    refine own_st st_39 ?_
    show own_Go _ _ _ _ (T_39.setTop (mkF m 87 #[iv p1, iv p2, iv p3, iv p4, iv p5, rv b_1, iv 1, .unset] [(.ref b__39)]))
    refine o_astore X_39 hx (hb hby at_87) rfl (l' := #[iv p1, iv p2, iv p3, iv p4, iv p5, rv b_1, iv 1, rv b__39]) rfl ?_
    refine o_aload X_39 hx (hb hby at_89) rfl rfl ?_
    obtain ⟨cl_42, Ar_42, qk_42, Sz_42, Ng_42, Hs_42, Gs_42⟩ := id Fq_39_0
    refine own_st (X_39.arraylength hx Ar_42.1 (State.isArrayOf_alike hZ.alike Ar_42.2.1) (g := (mkF m 91 #[iv p1, iv p2, iv p3, iv p4, iv p5, rv b_1, iv 1, rv b__39] [(.ref b__39)])) rfl rfl (hb hby at_91)) ?_
    rw [len_of Sz_42 Ng_42]
    show own_Go _ _ _ _ (T_39.setTop (mkF m 92 #[iv p1, iv p2, iv p3, iv p4, iv p5, rv b_1, iv 1, rv b__39] [(.int 1)]))
    refine o_iload X_39 hx (hb hby at_92) rfl ?_
    refine o_icmpYes X_39 hx (pc' := 99) (hb hby at_94) (teq (by decide : (1 : Int32) = (1 : Int32))).1 (by decide) (by decide) ?_
    refine o_iload X_39 hx (hb hby at_99) rfl ?_
    refine o_ifNo X_39 hx (hb hby at_101) (tlt (by decide : (0 : Int32) < (1 : Int32))).2.2.2 ?_
    refine o_aload X_39 hx (hb hby at_104) rfl rfl ?_
    refine o_iconst X_39 hx 0 (hb hby at_106) rfl ?_
    obtain ⟨cl_43, Ar_43, qk_43, Sz_43, Ng_43, Hs_43, Gs_43⟩ := id Fq_39_0
    refine own_st (X_39.iaload hx (j := (0 : Int32)) (v := (.int (own_ref1 (own_pick p1 p2 p3 p4) (own_pick p1 p2 p3 ((p4.toUInt32 >>> ((2 : Int32) &&& 31).toUInt32).toInt32)) (own_pick p1 p2 p3 ((p4.toUInt32 >>> ((4 : Int32) &&& 31).toUInt32).toInt32)) (own_pick p1 p2 p3 ((p4.toUInt32 >>> ((6 : Int32) &&& 31).toUInt32).toInt32)) (own_pick p1 p2 p3 ((p4.toUInt32 >>> ((8 : Int32) &&& 31).toUInt32).toInt32))))) Ar_43.1 (State.isArrayOf_alike hZ.alike Ar_43.2.1) Ar_43.2.2 (inb_of Sz_43 ⟨by decide, by decide⟩) (Hs_43.at (j := (0 : Int32)) (inb_of Sz_43 ⟨by decide, by decide⟩) rfl) (g := (mkF m 107 #[iv p1, iv p2, iv p3, iv p4, iv p5, rv b_1, iv 1, rv b__39] [(.int 0), (.ref b__39)])) rfl rfl (hb hby at_107)) ?_
    show own_Go _ _ _ _ (T_39.setTop (mkF m 108 #[iv p1, iv p2, iv p3, iv p4, iv p5, rv b_1, iv 1, rv b__39] [(.int (own_ref1 (own_pick p1 p2 p3 p4) (own_pick p1 p2 p3 ((p4.toUInt32 >>> ((2 : Int32) &&& 31).toUInt32).toInt32)) (own_pick p1 p2 p3 ((p4.toUInt32 >>> ((4 : Int32) &&& 31).toUInt32).toInt32)) (own_pick p1 p2 p3 ((p4.toUInt32 >>> ((6 : Int32) &&& 31).toUInt32).toInt32)) (own_pick p1 p2 p3 ((p4.toUInt32 >>> ((8 : Int32) &&& 31).toUInt32).toInt32))))]))
    refine o_aload X_39 hx (hb hby at_108) rfl rfl ?_
    refine o_iconst X_39 hx 1 (hb hby at_110) rfl ?_
    have Fa_45 := (V_21.keep K_39 nin0)
    have Zs_46 : n0 ≤ T_39.heap.size := (Nat.le_trans Zs_40 K_39.1)
    obtain ⟨_, _, ⟨T_44, L_44, k_44, n_44⟩, -, X_44, ⟨Lc_44, hQ_44, l_44, y_44, z_44⟩, st_44⟩ := Jvm.LawKit.callS X_39 hx (y := (⟨"com/example/ordinance/ordinance/policy/PartFinderBordersPinLaw", "ref", "([II)I"⟩ : MethodName)) hown (mvT hZ (hw _ (List.mem_of_getElem? (i := 10) rfl))) (mvT hZ (hw _ (List.mem_of_getElem? (i := 11) rfl))) (mvT hZ (hw _ (List.mem_of_getElem? (i := 3) rfl))) (mvT hZ (hw _ (List.mem_of_getElem? (i := 12) rfl))) (by decide) (backOf (W := 1) (rmref1 l Z a0 hw [] b_1 k_1 (.int (0 : Int32)) (own_pick p1 p2 p3 p4) (own_pick p1 p2 p3 ((p4.toUInt32 >>> ((2 : Int32) &&& 31).toUInt32).toInt32)) (own_pick p1 p2 p3 ((p4.toUInt32 >>> ((4 : Int32) &&& 31).toUInt32).toInt32)) (own_pick p1 p2 p3 ((p4.toUInt32 >>> ((6 : Int32) &&& 31).toUInt32).toInt32)) (own_pick p1 p2 p3 ((p4.toUInt32 >>> ((8 : Int32) &&& 31).toUInt32).toInt32)) T_39.heap n0 Zs_46 Fa_45) hZ (hw _ (List.mem_of_getElem? (i := 12) rfl)) (hw _ (List.mem_of_getElem? (i := 3) rfl)) (by decide) (by decide)) (g := (mkF m 111 #[iv p1, iv p2, iv p3, iv p4, iv p5, rv b_1, iv 1, rv b__39] [(.int 1), (.ref b_1), (.int (own_ref1 (own_pick p1 p2 p3 p4) (own_pick p1 p2 p3 ((p4.toUInt32 >>> ((2 : Int32) &&& 31).toUInt32).toInt32)) (own_pick p1 p2 p3 ((p4.toUInt32 >>> ((4 : Int32) &&& 31).toUInt32).toInt32)) (own_pick p1 p2 p3 ((p4.toUInt32 >>> ((6 : Int32) &&& 31).toUInt32).toInt32)) (own_pick p1 p2 p3 ((p4.toUInt32 >>> ((8 : Int32) &&& 31).toUInt32).toInt32))))])) rfl (by rw [hml]; rfl) (argsL := [(.ref b_1), (.int 1)]) (rest := [(.int (own_ref1 (own_pick p1 p2 p3 p4) (own_pick p1 p2 p3 ((p4.toUInt32 >>> ((2 : Int32) &&& 31).toUInt32).toInt32)) (own_pick p1 p2 p3 ((p4.toUInt32 >>> ((4 : Int32) &&& 31).toUInt32).toInt32)) (own_pick p1 p2 p3 ((p4.toUInt32 >>> ((6 : Int32) &&& 31).toUInt32).toInt32)) (own_pick p1 p2 p3 ((p4.toUInt32 >>> ((8 : Int32) &&& 31).toUInt32).toInt32))))]) (lenOf pd_4 rfl) rfl (by show 2 * 0 + _ ≤ _; exact Nat.le_of_eq rfl) (hb hby at_111) (fun _ _ => ⟨rfl, rfl, (by decide : 2 + 0 ≤ _), (by decide : 6 + 0 ≤ _)⟩)
    dsimp only [Pt.U, Pt.locs, Pt.cells, Pt.slots] at X_44 l_44 y_44 z_44 st_44 hQ_44
    subst l_44 y_44 z_44
    obtain ⟨rfl, Nq_44, e_44⟩ := hQ_44
    have N_44 := Fr.app N_39 Nq_44
    refine own_st st_44 ?_
    show own_Go _ _ _ _ (T_44.setTop (mkF m 114 #[iv p1, iv p2, iv p3, iv p4, iv p5, rv b_1, iv 1, rv b__39] [(.int (own_ref1 (own_pick p1 p2 p3 p4) (own_pick p1 p2 p3 ((p4.toUInt32 >>> ((2 : Int32) &&& 31).toUInt32).toInt32)) (own_pick p1 p2 p3 ((p4.toUInt32 >>> ((4 : Int32) &&& 31).toUInt32).toInt32)) (own_pick p1 p2 p3 ((p4.toUInt32 >>> ((6 : Int32) &&& 31).toUInt32).toInt32)) (own_pick p1 p2 p3 ((p4.toUInt32 >>> ((8 : Int32) &&& 31).toUInt32).toInt32)))), (.int (own_ref1 (own_pick p1 p2 p3 p4) (own_pick p1 p2 p3 ((p4.toUInt32 >>> ((2 : Int32) &&& 31).toUInt32).toInt32)) (own_pick p1 p2 p3 ((p4.toUInt32 >>> ((4 : Int32) &&& 31).toUInt32).toInt32)) (own_pick p1 p2 p3 ((p4.toUInt32 >>> ((6 : Int32) &&& 31).toUInt32).toInt32)) (own_pick p1 p2 p3 ((p4.toUInt32 >>> ((8 : Int32) &&& 31).toUInt32).toInt32))))]))
    refine o_icmpYes X_44 hx (pc' := 119) (hb hby at_114) (teq (rfl : (own_ref1 (own_pick p1 p2 p3 p4) (own_pick p1 p2 p3 ((p4.toUInt32 >>> ((2 : Int32) &&& 31).toUInt32).toInt32)) (own_pick p1 p2 p3 ((p4.toUInt32 >>> ((4 : Int32) &&& 31).toUInt32).toInt32)) (own_pick p1 p2 p3 ((p4.toUInt32 >>> ((6 : Int32) &&& 31).toUInt32).toInt32)) (own_pick p1 p2 p3 ((p4.toUInt32 >>> ((8 : Int32) &&& 31).toUInt32).toInt32))) = (own_ref1 (own_pick p1 p2 p3 p4) (own_pick p1 p2 p3 ((p4.toUInt32 >>> ((2 : Int32) &&& 31).toUInt32).toInt32)) (own_pick p1 p2 p3 ((p4.toUInt32 >>> ((4 : Int32) &&& 31).toUInt32).toInt32)) (own_pick p1 p2 p3 ((p4.toUInt32 >>> ((6 : Int32) &&& 31).toUInt32).toInt32)) (own_pick p1 p2 p3 ((p4.toUInt32 >>> ((8 : Int32) &&& 31).toUInt32).toInt32))))).1 (by decide) (by decide) ?_
    refine o_iload X_44 hx (hb hby at_119) rfl ?_
    refine o_iconst X_44 hx 1 (hb hby at_121) rfl ?_
    refine o_icmpYes X_44 hx (pc' := 140) (hb hby at_122) (flt (by decide : ¬ ((1 : Int32) < (1 : Int32)))).2.2.2 (by decide) (by decide) ?_
    refine o_iload X_44 hx (hb hby at_140) rfl ?_
    refine o_iconst X_44 hx 2 (hb hby at_142) rfl ?_
    refine o_icmpYes X_44 hx (pc' := 161) (hb hby at_143) (flt (by decide : ¬ ((2 : Int32) < (1 : Int32)))).2.2.2 (by decide) (by decide) ?_
    refine o_iload X_44 hx (hb hby at_161) rfl ?_
    refine o_iconst X_44 hx 3 (hb hby at_163) rfl ?_
    refine o_icmpYes X_44 hx (pc' := 182) (hb hby at_164) (flt (by decide : ¬ ((3 : Int32) < (1 : Int32)))).2.2.2 (by decide) (by decide) ?_
    refine o_iload X_44 hx (hb hby at_182) rfl ?_
    refine o_iconst X_44 hx 4 (hb hby at_184) rfl ?_
    refine o_icmpYes X_44 hx (pc' := 203) (hb hby at_185) (flt (by decide : ¬ ((4 : Int32) < (1 : Int32)))).2.2.2 (by decide) (by decide) ?_
    refine o_aload X_44 hx (hb hby at_203) rfl rfl ?_
    refine o_iconst X_44 hx 0 (hb hby at_205) rfl ?_
    obtain ⟨cl_47, Ar_47, qk_47, Sz_47, Ng_47, Hs_47, Gs_47⟩ := id Fa_45
    refine own_st (X_44.iaload hx (j := (0 : Int32)) (v := (.int (own_pick p1 p2 p3 p4))) (by rw [e_44]; exact Ar_47.1) (State.isArrayOf_alike hZ.alike Ar_47.2.1) Ar_47.2.2 (inb_of Sz_47 ⟨by decide, by decide⟩) (Hs_47.at (j := (0 : Int32)) (inb_of Sz_47 ⟨by decide, by decide⟩) rfl) (g := (mkF m 206 #[iv p1, iv p2, iv p3, iv p4, iv p5, rv b_1, iv 1, rv b__39] [(.int 0), (.ref b_1)])) rfl rfl (hb hby at_206)) ?_
    show own_Go _ _ _ _ (T_44.setTop (mkF m 207 #[iv p1, iv p2, iv p3, iv p4, iv p5, rv b_1, iv 1, rv b__39] [(.int (own_pick p1 p2 p3 p4))]))
    refine o_iloadN X_44 hx (hb hby at_207) rfl ?_
    refine o_iloadN X_44 hx (hb hby at_208) rfl ?_
    refine o_iloadN X_44 hx (hb hby at_209) rfl ?_
    refine o_iloadN X_44 hx (hb hby at_210) rfl ?_
    obtain ⟨_, _, ⟨T_48, L_48, k_48, n_48⟩, -, X_48, ⟨Lc_48, hQ_48, l_48, y_48, z_48⟩, st_48⟩ := Jvm.LawKit.callS X_44 hx (y := (⟨"com/example/ordinance/ordinance/policy/PartFinderBordersPinLaw", "pick", "(IIII)I"⟩ : MethodName)) hown (mvT hZ (hw _ (List.mem_of_getElem? (i := 1) rfl))) (mvT hZ (hw _ (List.mem_of_getElem? (i := 2) rfl))) (mvT hZ (hw _ (List.mem_of_getElem? (i := 3) rfl))) (mvT hZ (hw _ (List.mem_of_getElem? (i := 4) rfl))) (by decide) (backOf (W := 1) (rm1 l Z a0 hw [] p1 p2 p3 p4  T_39.heap n0 Zs_46) hZ (hw _ (List.mem_of_getElem? (i := 4) rfl)) (hw _ (List.mem_of_getElem? (i := 3) rfl)) (by decide) (by decide)) (g := (mkF m 211 #[iv p1, iv p2, iv p3, iv p4, iv p5, rv b_1, iv 1, rv b__39] [(.int p4), (.int p3), (.int p2), (.int p1), (.int (own_pick p1 p2 p3 p4))])) rfl (by rw [hml]; rfl) (argsL := [(.int p1), (.int p2), (.int p3), (.int p4)]) (rest := [(.int (own_pick p1 p2 p3 p4))]) (lenOf pd_2 rfl) rfl (by show 2 * 0 + _ ≤ _; exact Nat.le_of_eq rfl) (hb hby at_211) (fun _ _ => ⟨rfl, e_44, (by decide : 2 + 0 ≤ _), (by decide : 6 + 0 ≤ _)⟩)
    dsimp only [Pt.U, Pt.locs, Pt.cells, Pt.slots] at X_48 l_48 y_48 z_48 st_48 hQ_48
    subst l_48 y_48 z_48
    obtain ⟨rfl, Nq_48, e_48⟩ := hQ_48
    have N_48 := Fr.app N_44 Nq_48
    refine own_st st_48 ?_
    show own_Go _ _ _ _ (T_48.setTop (mkF m 214 #[iv p1, iv p2, iv p3, iv p4, iv p5, rv b_1, iv 1, rv b__39] [(.int (own_pick p1 p2 p3 p4)), (.int (own_pick p1 p2 p3 p4))]))
    refine o_icmpNo X_48 hx (hb hby at_214) (teq (rfl : (own_pick p1 p2 p3 p4) = (own_pick p1 p2 p3 p4))).2 ?_
    refine o_aload X_48 hx (hb hby at_217) rfl rfl ?_
    refine o_iconst X_48 hx 1 (hb hby at_219) rfl ?_
    obtain ⟨cl_49, Ar_49, qk_49, Sz_49, Ng_49, Hs_49, Gs_49⟩ := id Fa_45
    refine own_st (X_48.iaload hx (j := (1 : Int32)) (v := (.int (own_pick p1 p2 p3 ((p4.toUInt32 >>> ((2 : Int32) &&& 31).toUInt32).toInt32)))) (by rw [e_48]; exact Ar_49.1) (State.isArrayOf_alike hZ.alike Ar_49.2.1) Ar_49.2.2 (inb_of Sz_49 ⟨by decide, by decide⟩) (Hs_49.at (j := (1 : Int32)) (inb_of Sz_49 ⟨by decide, by decide⟩) rfl) (g := (mkF m 220 #[iv p1, iv p2, iv p3, iv p4, iv p5, rv b_1, iv 1, rv b__39] [(.int 1), (.ref b_1)])) rfl rfl (hb hby at_220)) ?_
    show own_Go _ _ _ _ (T_48.setTop (mkF m 221 #[iv p1, iv p2, iv p3, iv p4, iv p5, rv b_1, iv 1, rv b__39] [(.int (own_pick p1 p2 p3 ((p4.toUInt32 >>> ((2 : Int32) &&& 31).toUInt32).toInt32)))]))
    refine o_iloadN X_48 hx (hb hby at_221) rfl ?_
    refine o_iloadN X_48 hx (hb hby at_222) rfl ?_
    refine o_iloadN X_48 hx (hb hby at_223) rfl ?_
    refine o_iloadN X_48 hx (hb hby at_224) rfl ?_
    refine o_iconst X_48 hx 2 (hb hby at_225) rfl ?_
    refine o_iushr X_48 hx (hb hby at_226) ?_
    obtain ⟨_, _, ⟨T_50, L_50, k_50, n_50⟩, -, X_50, ⟨Lc_50, hQ_50, l_50, y_50, z_50⟩, st_50⟩ := Jvm.LawKit.callS X_48 hx (y := (⟨"com/example/ordinance/ordinance/policy/PartFinderBordersPinLaw", "pick", "(IIII)I"⟩ : MethodName)) hown (mvT hZ (hw _ (List.mem_of_getElem? (i := 1) rfl))) (mvT hZ (hw _ (List.mem_of_getElem? (i := 2) rfl))) (mvT hZ (hw _ (List.mem_of_getElem? (i := 3) rfl))) (mvT hZ (hw _ (List.mem_of_getElem? (i := 4) rfl))) (by decide) (backOf (W := 1) (rm1 l Z a0 hw [] p1 p2 p3 ((p4.toUInt32 >>> ((2 : Int32) &&& 31).toUInt32).toInt32)  T_39.heap n0 Zs_46) hZ (hw _ (List.mem_of_getElem? (i := 4) rfl)) (hw _ (List.mem_of_getElem? (i := 3) rfl)) (by decide) (by decide)) (g := (mkF m 227 #[iv p1, iv p2, iv p3, iv p4, iv p5, rv b_1, iv 1, rv b__39] [(.int ((p4.toUInt32 >>> ((2 : Int32) &&& 31).toUInt32).toInt32)), (.int p3), (.int p2), (.int p1), (.int (own_pick p1 p2 p3 ((p4.toUInt32 >>> ((2 : Int32) &&& 31).toUInt32).toInt32)))])) rfl (by rw [hml]; rfl) (argsL := [(.int p1), (.int p2), (.int p3), (.int ((p4.toUInt32 >>> ((2 : Int32) &&& 31).toUInt32).toInt32))]) (rest := [(.int (own_pick p1 p2 p3 ((p4.toUInt32 >>> ((2 : Int32) &&& 31).toUInt32).toInt32)))]) (lenOf pd_2 rfl) rfl (by show 2 * 0 + _ ≤ _; exact Nat.le_of_eq rfl) (hb hby at_227) (fun _ _ => ⟨rfl, e_48, (by decide : 2 + 0 ≤ _), (by decide : 6 + 0 ≤ _)⟩)
    dsimp only [Pt.U, Pt.locs, Pt.cells, Pt.slots] at X_50 l_50 y_50 z_50 st_50 hQ_50
    subst l_50 y_50 z_50
    obtain ⟨rfl, Nq_50, e_50⟩ := hQ_50
    have N_50 := Fr.app N_48 Nq_50
    refine own_st st_50 ?_
    show own_Go _ _ _ _ (T_50.setTop (mkF m 230 #[iv p1, iv p2, iv p3, iv p4, iv p5, rv b_1, iv 1, rv b__39] [(.int (own_pick p1 p2 p3 ((p4.toUInt32 >>> ((2 : Int32) &&& 31).toUInt32).toInt32))), (.int (own_pick p1 p2 p3 ((p4.toUInt32 >>> ((2 : Int32) &&& 31).toUInt32).toInt32)))]))
    refine o_icmpNo X_50 hx (hb hby at_230) (teq (rfl : (own_pick p1 p2 p3 ((p4.toUInt32 >>> ((2 : Int32) &&& 31).toUInt32).toInt32)) = (own_pick p1 p2 p3 ((p4.toUInt32 >>> ((2 : Int32) &&& 31).toUInt32).toInt32)))).2 ?_
    refine o_aload X_50 hx (hb hby at_233) rfl rfl ?_
    refine o_iconst X_50 hx 2 (hb hby at_235) rfl ?_
    obtain ⟨cl_51, Ar_51, qk_51, Sz_51, Ng_51, Hs_51, Gs_51⟩ := id Fa_45
    refine own_st (X_50.iaload hx (j := (2 : Int32)) (v := (.int (own_pick p1 p2 p3 ((p4.toUInt32 >>> ((4 : Int32) &&& 31).toUInt32).toInt32)))) (by rw [e_50]; exact Ar_51.1) (State.isArrayOf_alike hZ.alike Ar_51.2.1) Ar_51.2.2 (inb_of Sz_51 ⟨by decide, by decide⟩) (Hs_51.at (j := (2 : Int32)) (inb_of Sz_51 ⟨by decide, by decide⟩) rfl) (g := (mkF m 236 #[iv p1, iv p2, iv p3, iv p4, iv p5, rv b_1, iv 1, rv b__39] [(.int 2), (.ref b_1)])) rfl rfl (hb hby at_236)) ?_
    show own_Go _ _ _ _ (T_50.setTop (mkF m 237 #[iv p1, iv p2, iv p3, iv p4, iv p5, rv b_1, iv 1, rv b__39] [(.int (own_pick p1 p2 p3 ((p4.toUInt32 >>> ((4 : Int32) &&& 31).toUInt32).toInt32)))]))
    refine o_iloadN X_50 hx (hb hby at_237) rfl ?_
    refine o_iloadN X_50 hx (hb hby at_238) rfl ?_
    refine o_iloadN X_50 hx (hb hby at_239) rfl ?_
    refine o_iloadN X_50 hx (hb hby at_240) rfl ?_
    refine o_iconst X_50 hx 4 (hb hby at_241) rfl ?_
    refine o_iushr X_50 hx (hb hby at_242) ?_
    obtain ⟨_, _, ⟨T_52, L_52, k_52, n_52⟩, -, X_52, ⟨Lc_52, hQ_52, l_52, y_52, z_52⟩, st_52⟩ := Jvm.LawKit.callS X_50 hx (y := (⟨"com/example/ordinance/ordinance/policy/PartFinderBordersPinLaw", "pick", "(IIII)I"⟩ : MethodName)) hown (mvT hZ (hw _ (List.mem_of_getElem? (i := 1) rfl))) (mvT hZ (hw _ (List.mem_of_getElem? (i := 2) rfl))) (mvT hZ (hw _ (List.mem_of_getElem? (i := 3) rfl))) (mvT hZ (hw _ (List.mem_of_getElem? (i := 4) rfl))) (by decide) (backOf (W := 1) (rm1 l Z a0 hw [] p1 p2 p3 ((p4.toUInt32 >>> ((4 : Int32) &&& 31).toUInt32).toInt32)  T_39.heap n0 Zs_46) hZ (hw _ (List.mem_of_getElem? (i := 4) rfl)) (hw _ (List.mem_of_getElem? (i := 3) rfl)) (by decide) (by decide)) (g := (mkF m 243 #[iv p1, iv p2, iv p3, iv p4, iv p5, rv b_1, iv 1, rv b__39] [(.int ((p4.toUInt32 >>> ((4 : Int32) &&& 31).toUInt32).toInt32)), (.int p3), (.int p2), (.int p1), (.int (own_pick p1 p2 p3 ((p4.toUInt32 >>> ((4 : Int32) &&& 31).toUInt32).toInt32)))])) rfl (by rw [hml]; rfl) (argsL := [(.int p1), (.int p2), (.int p3), (.int ((p4.toUInt32 >>> ((4 : Int32) &&& 31).toUInt32).toInt32))]) (rest := [(.int (own_pick p1 p2 p3 ((p4.toUInt32 >>> ((4 : Int32) &&& 31).toUInt32).toInt32)))]) (lenOf pd_2 rfl) rfl (by show 2 * 0 + _ ≤ _; exact Nat.le_of_eq rfl) (hb hby at_243) (fun _ _ => ⟨rfl, e_50, (by decide : 2 + 0 ≤ _), (by decide : 6 + 0 ≤ _)⟩)
    dsimp only [Pt.U, Pt.locs, Pt.cells, Pt.slots] at X_52 l_52 y_52 z_52 st_52 hQ_52
    subst l_52 y_52 z_52
    obtain ⟨rfl, Nq_52, e_52⟩ := hQ_52
    have N_52 := Fr.app N_50 Nq_52
    refine own_st st_52 ?_
    show own_Go _ _ _ _ (T_52.setTop (mkF m 246 #[iv p1, iv p2, iv p3, iv p4, iv p5, rv b_1, iv 1, rv b__39] [(.int (own_pick p1 p2 p3 ((p4.toUInt32 >>> ((4 : Int32) &&& 31).toUInt32).toInt32))), (.int (own_pick p1 p2 p3 ((p4.toUInt32 >>> ((4 : Int32) &&& 31).toUInt32).toInt32)))]))
    refine o_icmpNo X_52 hx (hb hby at_246) (teq (rfl : (own_pick p1 p2 p3 ((p4.toUInt32 >>> ((4 : Int32) &&& 31).toUInt32).toInt32)) = (own_pick p1 p2 p3 ((p4.toUInt32 >>> ((4 : Int32) &&& 31).toUInt32).toInt32)))).2 ?_
    refine o_aload X_52 hx (hb hby at_249) rfl rfl ?_
    refine o_iconst X_52 hx 3 (hb hby at_251) rfl ?_
    obtain ⟨cl_53, Ar_53, qk_53, Sz_53, Ng_53, Hs_53, Gs_53⟩ := id Fa_45
    refine own_st (X_52.iaload hx (j := (3 : Int32)) (v := (.int (own_pick p1 p2 p3 ((p4.toUInt32 >>> ((6 : Int32) &&& 31).toUInt32).toInt32)))) (by rw [e_52]; exact Ar_53.1) (State.isArrayOf_alike hZ.alike Ar_53.2.1) Ar_53.2.2 (inb_of Sz_53 ⟨by decide, by decide⟩) (Hs_53.at (j := (3 : Int32)) (inb_of Sz_53 ⟨by decide, by decide⟩) rfl) (g := (mkF m 252 #[iv p1, iv p2, iv p3, iv p4, iv p5, rv b_1, iv 1, rv b__39] [(.int 3), (.ref b_1)])) rfl rfl (hb hby at_252)) ?_
    show own_Go _ _ _ _ (T_52.setTop (mkF m 253 #[iv p1, iv p2, iv p3, iv p4, iv p5, rv b_1, iv 1, rv b__39] [(.int (own_pick p1 p2 p3 ((p4.toUInt32 >>> ((6 : Int32) &&& 31).toUInt32).toInt32)))]))
    refine o_iloadN X_52 hx (hb hby at_253) rfl ?_
    refine o_iloadN X_52 hx (hb hby at_254) rfl ?_
    refine o_iloadN X_52 hx (hb hby at_255) rfl ?_
    refine o_iloadN X_52 hx (hb hby at_256) rfl ?_
    refine o_bipush X_52 hx 6 (hb hby at_257) rfl ?_
    refine o_iushr X_52 hx (hb hby at_259) ?_
    obtain ⟨_, _, ⟨T_54, L_54, k_54, n_54⟩, -, X_54, ⟨Lc_54, hQ_54, l_54, y_54, z_54⟩, st_54⟩ := Jvm.LawKit.callS X_52 hx (y := (⟨"com/example/ordinance/ordinance/policy/PartFinderBordersPinLaw", "pick", "(IIII)I"⟩ : MethodName)) hown (mvT hZ (hw _ (List.mem_of_getElem? (i := 1) rfl))) (mvT hZ (hw _ (List.mem_of_getElem? (i := 2) rfl))) (mvT hZ (hw _ (List.mem_of_getElem? (i := 3) rfl))) (mvT hZ (hw _ (List.mem_of_getElem? (i := 4) rfl))) (by decide) (backOf (W := 1) (rm1 l Z a0 hw [] p1 p2 p3 ((p4.toUInt32 >>> ((6 : Int32) &&& 31).toUInt32).toInt32)  T_39.heap n0 Zs_46) hZ (hw _ (List.mem_of_getElem? (i := 4) rfl)) (hw _ (List.mem_of_getElem? (i := 3) rfl)) (by decide) (by decide)) (g := (mkF m 260 #[iv p1, iv p2, iv p3, iv p4, iv p5, rv b_1, iv 1, rv b__39] [(.int ((p4.toUInt32 >>> ((6 : Int32) &&& 31).toUInt32).toInt32)), (.int p3), (.int p2), (.int p1), (.int (own_pick p1 p2 p3 ((p4.toUInt32 >>> ((6 : Int32) &&& 31).toUInt32).toInt32)))])) rfl (by rw [hml]; rfl) (argsL := [(.int p1), (.int p2), (.int p3), (.int ((p4.toUInt32 >>> ((6 : Int32) &&& 31).toUInt32).toInt32))]) (rest := [(.int (own_pick p1 p2 p3 ((p4.toUInt32 >>> ((6 : Int32) &&& 31).toUInt32).toInt32)))]) (lenOf pd_2 rfl) rfl (by show 2 * 0 + _ ≤ _; exact Nat.le_of_eq rfl) (hb hby at_260) (fun _ _ => ⟨rfl, e_52, (by decide : 2 + 0 ≤ _), (by decide : 6 + 0 ≤ _)⟩)
    dsimp only [Pt.U, Pt.locs, Pt.cells, Pt.slots] at X_54 l_54 y_54 z_54 st_54 hQ_54
    subst l_54 y_54 z_54
    obtain ⟨rfl, Nq_54, e_54⟩ := hQ_54
    have N_54 := Fr.app N_52 Nq_54
    refine own_st st_54 ?_
    show own_Go _ _ _ _ (T_54.setTop (mkF m 263 #[iv p1, iv p2, iv p3, iv p4, iv p5, rv b_1, iv 1, rv b__39] [(.int (own_pick p1 p2 p3 ((p4.toUInt32 >>> ((6 : Int32) &&& 31).toUInt32).toInt32))), (.int (own_pick p1 p2 p3 ((p4.toUInt32 >>> ((6 : Int32) &&& 31).toUInt32).toInt32)))]))
    refine o_icmpNo X_54 hx (hb hby at_263) (teq (rfl : (own_pick p1 p2 p3 ((p4.toUInt32 >>> ((6 : Int32) &&& 31).toUInt32).toInt32)) = (own_pick p1 p2 p3 ((p4.toUInt32 >>> ((6 : Int32) &&& 31).toUInt32).toInt32)))).2 ?_
    refine o_aload X_54 hx (hb hby at_266) rfl rfl ?_
    refine o_iconst X_54 hx 4 (hb hby at_268) rfl ?_
    obtain ⟨cl_55, Ar_55, qk_55, Sz_55, Ng_55, Hs_55, Gs_55⟩ := id Fa_45
    refine own_st (X_54.iaload hx (j := (4 : Int32)) (v := (.int (own_pick p1 p2 p3 ((p4.toUInt32 >>> ((8 : Int32) &&& 31).toUInt32).toInt32)))) (by rw [e_54]; exact Ar_55.1) (State.isArrayOf_alike hZ.alike Ar_55.2.1) Ar_55.2.2 (inb_of Sz_55 ⟨by decide, by decide⟩) (Hs_55.at (j := (4 : Int32)) (inb_of Sz_55 ⟨by decide, by decide⟩) rfl) (g := (mkF m 269 #[iv p1, iv p2, iv p3, iv p4, iv p5, rv b_1, iv 1, rv b__39] [(.int 4), (.ref b_1)])) rfl rfl (hb hby at_269)) ?_
    show own_Go _ _ _ _ (T_54.setTop (mkF m 270 #[iv p1, iv p2, iv p3, iv p4, iv p5, rv b_1, iv 1, rv b__39] [(.int (own_pick p1 p2 p3 ((p4.toUInt32 >>> ((8 : Int32) &&& 31).toUInt32).toInt32)))]))
    refine o_iloadN X_54 hx (hb hby at_270) rfl ?_
    refine o_iloadN X_54 hx (hb hby at_271) rfl ?_
    refine o_iloadN X_54 hx (hb hby at_272) rfl ?_
    refine o_iloadN X_54 hx (hb hby at_273) rfl ?_
    refine o_bipush X_54 hx 8 (hb hby at_274) rfl ?_
    refine o_iushr X_54 hx (hb hby at_276) ?_
    obtain ⟨_, _, ⟨T_56, L_56, k_56, n_56⟩, -, X_56, ⟨Lc_56, hQ_56, l_56, y_56, z_56⟩, st_56⟩ := Jvm.LawKit.callS X_54 hx (y := (⟨"com/example/ordinance/ordinance/policy/PartFinderBordersPinLaw", "pick", "(IIII)I"⟩ : MethodName)) hown (mvT hZ (hw _ (List.mem_of_getElem? (i := 1) rfl))) (mvT hZ (hw _ (List.mem_of_getElem? (i := 2) rfl))) (mvT hZ (hw _ (List.mem_of_getElem? (i := 3) rfl))) (mvT hZ (hw _ (List.mem_of_getElem? (i := 4) rfl))) (by decide) (backOf (W := 1) (rm1 l Z a0 hw [] p1 p2 p3 ((p4.toUInt32 >>> ((8 : Int32) &&& 31).toUInt32).toInt32)  T_39.heap n0 Zs_46) hZ (hw _ (List.mem_of_getElem? (i := 4) rfl)) (hw _ (List.mem_of_getElem? (i := 3) rfl)) (by decide) (by decide)) (g := (mkF m 277 #[iv p1, iv p2, iv p3, iv p4, iv p5, rv b_1, iv 1, rv b__39] [(.int ((p4.toUInt32 >>> ((8 : Int32) &&& 31).toUInt32).toInt32)), (.int p3), (.int p2), (.int p1), (.int (own_pick p1 p2 p3 ((p4.toUInt32 >>> ((8 : Int32) &&& 31).toUInt32).toInt32)))])) rfl (by rw [hml]; rfl) (argsL := [(.int p1), (.int p2), (.int p3), (.int ((p4.toUInt32 >>> ((8 : Int32) &&& 31).toUInt32).toInt32))]) (rest := [(.int (own_pick p1 p2 p3 ((p4.toUInt32 >>> ((8 : Int32) &&& 31).toUInt32).toInt32)))]) (lenOf pd_2 rfl) rfl (by show 2 * 0 + _ ≤ _; exact Nat.le_of_eq rfl) (hb hby at_277) (fun _ _ => ⟨rfl, e_54, (by decide : 2 + 0 ≤ _), (by decide : 6 + 0 ≤ _)⟩)
    dsimp only [Pt.U, Pt.locs, Pt.cells, Pt.slots] at X_56 l_56 y_56 z_56 st_56 hQ_56
    subst l_56 y_56 z_56
    obtain ⟨rfl, Nq_56, e_56⟩ := hQ_56
    have N_56 := Fr.app N_54 Nq_56
    refine own_st st_56 ?_
    show own_Go _ _ _ _ (T_56.setTop (mkF m 280 #[iv p1, iv p2, iv p3, iv p4, iv p5, rv b_1, iv 1, rv b__39] [(.int (own_pick p1 p2 p3 ((p4.toUInt32 >>> ((8 : Int32) &&& 31).toUInt32).toInt32))), (.int (own_pick p1 p2 p3 ((p4.toUInt32 >>> ((8 : Int32) &&& 31).toUInt32).toInt32)))]))
    refine o_icmpNo X_56 hx (hb hby at_280) (teq (rfl : (own_pick p1 p2 p3 ((p4.toUInt32 >>> ((8 : Int32) &&& 31).toUInt32).toInt32)) = (own_pick p1 p2 p3 ((p4.toUInt32 >>> ((8 : Int32) &&& 31).toUInt32).toInt32)))).2 ?_
    refine o_iconst X_56 hx 1 (hb hby at_283) rfl ?_
    refine o_goto X_56 hx (pc' := 288) (hb hby at_284) (by decide) (by decide) ?_
    have Kp_57 : Keep h0 T_39.heap [] := (Kp_41.trans K_39 all0)
    exact own_end X_56 e_56 (v := some (.int (1 : Int32))) (fun h => by rw [Bd.returns] at h; cases h) hlk (fun fs hr => retN X_56 hx (z := (1 : Int32)) (t := .boolean) Bd.returns (by simp) (hb hby at_288) hr) (Q := Q_rm0 Z a0 p1 p2 p3 p4 p5 h0 n0) ⟨rfl, N_56, Kp_57⟩ (by decide) (by decide)
  · rw [hL]
    show own_Go _ _ _ _ (T_21.setTop (mkF m 80 #[iv p1, iv p2, iv p3, iv p4, iv p5, rv b_1, iv 2, .unset] []))
    refine o_aload X_21 hx (hb hby at_80) rfl rfl ?_
    refine o_iload X_21 hx (hb hby at_82) rfl ?_
    have Zs_59 : n0 ≤ h_21.size := (Nat.le_trans Zs_19 (Keep.of_wr W_21).1)
    obtain ⟨_, _, ⟨T_58, L_58, k_58, n_58⟩, -, X_58, ⟨Lc_58, hQ_58, l_58, y_58, z_58⟩, st_58⟩ := Jvm.LawKit.callS X_21 hx (y := (⟨"com/example/ordinance/ordinance/policy/PartFinder", "borders", "([II)[I"⟩ : MethodName)) hown (mvT hZ (hw _ (List.mem_of_getElem? (i := 6) rfl))) (mvT hZ (hw _ (List.mem_of_getElem? (i := 7) rfl))) (mvT hZ (hw _ (List.mem_of_getElem? (i := 8) rfl))) (mvT hZ (hw _ (List.mem_of_getElem? (i := 9) rfl))) (by decide) (backOf (W := 0) (rmbo2 l Z a0 hw [] b_1 k_1 (.int (0 : Int32)) (own_pick p1 p2 p3 p4) (own_pick p1 p2 p3 ((p4.toUInt32 >>> ((2 : Int32) &&& 31).toUInt32).toInt32)) (own_pick p1 p2 p3 ((p4.toUInt32 >>> ((4 : Int32) &&& 31).toUInt32).toInt32)) (own_pick p1 p2 p3 ((p4.toUInt32 >>> ((6 : Int32) &&& 31).toUInt32).toInt32)) (own_pick p1 p2 p3 ((p4.toUInt32 >>> ((8 : Int32) &&& 31).toUInt32).toInt32)) h_21 n0 Zs_59 V_21) hZ (hw _ (List.mem_of_getElem? (i := 9) rfl)) (hw _ (List.mem_of_getElem? (i := 8) rfl)) (by decide) (by decide)) (g := (mkF m 84 #[iv p1, iv p2, iv p3, iv p4, iv p5, rv b_1, iv 2, .unset] [(.int 2), (.ref b_1)])) rfl (by rw [hml]; rfl) (argsL := [(.ref b_1), (.int 2)]) (rest := []) (lenOf pd_3 rfl) rfl (by show 2 * 0 + _ ≤ _; exact Nat.le_of_eq rfl) (hb hby at_84) (fun _ _ => ⟨rfl, e_21, (by decide : 1 + 1 ≤ _), (by decide : 5 + 2 ≤ _)⟩)
    dsimp only [Pt.U, Pt.locs, Pt.cells, Pt.slots] at X_58 l_58 y_58 z_58 st_58 hQ_58
    subst l_58 y_58 z_58
    obtain ⟨b__58, kB__58, rfl, Nq_58, K_58, gq_58_b, sq_58_b, Fq_58_0⟩ := hQ_58
    have N_58 := Fr.app N_21 Nq_58
    have Kp_60 : Keep h0 h_21 [] := (((((((Keep.refl h0 []).ext E_1).wr W_5 (Or.inr sz_1)).wr W_9 (Or.inr sz_1)).wr W_13 (Or.inr sz_1)).wr W_17 (Or.inr sz_1)).wr W_21 (Or.inr sz_1))
    have szq_58_b : h0.size ≤ b__58 := Nat.le_trans Kp_60.1 sq_58_b
    refine own_st st_58 ?_
    show own_Go _ _ _ _ (T_58.setTop (mkF m 87 #[iv p1, iv p2, iv p3, iv p4, iv p5, rv b_1, iv 2, .unset] [(.ref b__58)]))
    refine o_astore X_58 hx (hb hby at_87) rfl (l' := #[iv p1, iv p2, iv p3, iv p4, iv p5, rv b_1, iv 2, rv b__58]) rfl ?_
    refine o_aload X_58 hx (hb hby at_89) rfl rfl ?_
    obtain ⟨cl_61, Ar_61, qk_61, Sz_61, Ng_61, Hs_61, Gs_61⟩ := id Fq_58_0
    refine own_st (X_58.arraylength hx Ar_61.1 (State.isArrayOf_alike hZ.alike Ar_61.2.1) (g := (mkF m 91 #[iv p1, iv p2, iv p3, iv p4, iv p5, rv b_1, iv 2, rv b__58] [(.ref b__58)])) rfl rfl (hb hby at_91)) ?_
    rw [len_of Sz_61 Ng_61]
    show own_Go _ _ _ _ (T_58.setTop (mkF m 92 #[iv p1, iv p2, iv p3, iv p4, iv p5, rv b_1, iv 2, rv b__58] [(.int 2)]))
    refine o_iload X_58 hx (hb hby at_92) rfl ?_
    refine o_icmpYes X_58 hx (pc' := 99) (hb hby at_94) (teq (by decide : (2 : Int32) = (2 : Int32))).1 (by decide) (by decide) ?_
    refine o_iload X_58 hx (hb hby at_99) rfl ?_
    refine o_ifNo X_58 hx (hb hby at_101) (tlt (by decide : (0 : Int32) < (2 : Int32))).2.2.2 ?_
    refine o_aload X_58 hx (hb hby at_104) rfl rfl ?_
    refine o_iconst X_58 hx 0 (hb hby at_106) rfl ?_
    obtain ⟨cl_62, Ar_62, qk_62, Sz_62, Ng_62, Hs_62, Gs_62⟩ := id Fq_58_0
    refine own_st (X_58.iaload hx (j := (0 : Int32)) (v := (.int (own_ref1 (own_pick p1 p2 p3 p4) (own_pick p1 p2 p3 ((p4.toUInt32 >>> ((2 : Int32) &&& 31).toUInt32).toInt32)) (own_pick p1 p2 p3 ((p4.toUInt32 >>> ((4 : Int32) &&& 31).toUInt32).toInt32)) (own_pick p1 p2 p3 ((p4.toUInt32 >>> ((6 : Int32) &&& 31).toUInt32).toInt32)) (own_pick p1 p2 p3 ((p4.toUInt32 >>> ((8 : Int32) &&& 31).toUInt32).toInt32))))) Ar_62.1 (State.isArrayOf_alike hZ.alike Ar_62.2.1) Ar_62.2.2 (inb_of Sz_62 ⟨by decide, by decide⟩) (Hs_62.at (j := (0 : Int32)) (inb_of Sz_62 ⟨by decide, by decide⟩) rfl) (g := (mkF m 107 #[iv p1, iv p2, iv p3, iv p4, iv p5, rv b_1, iv 2, rv b__58] [(.int 0), (.ref b__58)])) rfl rfl (hb hby at_107)) ?_
    show own_Go _ _ _ _ (T_58.setTop (mkF m 108 #[iv p1, iv p2, iv p3, iv p4, iv p5, rv b_1, iv 2, rv b__58] [(.int (own_ref1 (own_pick p1 p2 p3 p4) (own_pick p1 p2 p3 ((p4.toUInt32 >>> ((2 : Int32) &&& 31).toUInt32).toInt32)) (own_pick p1 p2 p3 ((p4.toUInt32 >>> ((4 : Int32) &&& 31).toUInt32).toInt32)) (own_pick p1 p2 p3 ((p4.toUInt32 >>> ((6 : Int32) &&& 31).toUInt32).toInt32)) (own_pick p1 p2 p3 ((p4.toUInt32 >>> ((8 : Int32) &&& 31).toUInt32).toInt32))))]))
    refine o_aload X_58 hx (hb hby at_108) rfl rfl ?_
    refine o_iconst X_58 hx 1 (hb hby at_110) rfl ?_
    have Fa_64 := (V_21.keep K_58 nin0)
    have Zs_65 : n0 ≤ T_58.heap.size := (Nat.le_trans Zs_59 K_58.1)
    obtain ⟨_, _, ⟨T_63, L_63, k_63, n_63⟩, -, X_63, ⟨Lc_63, hQ_63, l_63, y_63, z_63⟩, st_63⟩ := Jvm.LawKit.callS X_58 hx (y := (⟨"com/example/ordinance/ordinance/policy/PartFinderBordersPinLaw", "ref", "([II)I"⟩ : MethodName)) hown (mvT hZ (hw _ (List.mem_of_getElem? (i := 10) rfl))) (mvT hZ (hw _ (List.mem_of_getElem? (i := 11) rfl))) (mvT hZ (hw _ (List.mem_of_getElem? (i := 3) rfl))) (mvT hZ (hw _ (List.mem_of_getElem? (i := 12) rfl))) (by decide) (backOf (W := 1) (rmref1 l Z a0 hw [] b_1 k_1 (.int (0 : Int32)) (own_pick p1 p2 p3 p4) (own_pick p1 p2 p3 ((p4.toUInt32 >>> ((2 : Int32) &&& 31).toUInt32).toInt32)) (own_pick p1 p2 p3 ((p4.toUInt32 >>> ((4 : Int32) &&& 31).toUInt32).toInt32)) (own_pick p1 p2 p3 ((p4.toUInt32 >>> ((6 : Int32) &&& 31).toUInt32).toInt32)) (own_pick p1 p2 p3 ((p4.toUInt32 >>> ((8 : Int32) &&& 31).toUInt32).toInt32)) T_58.heap n0 Zs_65 Fa_64) hZ (hw _ (List.mem_of_getElem? (i := 12) rfl)) (hw _ (List.mem_of_getElem? (i := 3) rfl)) (by decide) (by decide)) (g := (mkF m 111 #[iv p1, iv p2, iv p3, iv p4, iv p5, rv b_1, iv 2, rv b__58] [(.int 1), (.ref b_1), (.int (own_ref1 (own_pick p1 p2 p3 p4) (own_pick p1 p2 p3 ((p4.toUInt32 >>> ((2 : Int32) &&& 31).toUInt32).toInt32)) (own_pick p1 p2 p3 ((p4.toUInt32 >>> ((4 : Int32) &&& 31).toUInt32).toInt32)) (own_pick p1 p2 p3 ((p4.toUInt32 >>> ((6 : Int32) &&& 31).toUInt32).toInt32)) (own_pick p1 p2 p3 ((p4.toUInt32 >>> ((8 : Int32) &&& 31).toUInt32).toInt32))))])) rfl (by rw [hml]; rfl) (argsL := [(.ref b_1), (.int 1)]) (rest := [(.int (own_ref1 (own_pick p1 p2 p3 p4) (own_pick p1 p2 p3 ((p4.toUInt32 >>> ((2 : Int32) &&& 31).toUInt32).toInt32)) (own_pick p1 p2 p3 ((p4.toUInt32 >>> ((4 : Int32) &&& 31).toUInt32).toInt32)) (own_pick p1 p2 p3 ((p4.toUInt32 >>> ((6 : Int32) &&& 31).toUInt32).toInt32)) (own_pick p1 p2 p3 ((p4.toUInt32 >>> ((8 : Int32) &&& 31).toUInt32).toInt32))))]) (lenOf pd_4 rfl) rfl (by show 2 * 0 + _ ≤ _; exact Nat.le_of_eq rfl) (hb hby at_111) (fun _ _ => ⟨rfl, rfl, (by decide : 2 + 0 ≤ _), (by decide : 7 + 0 ≤ _)⟩)
    dsimp only [Pt.U, Pt.locs, Pt.cells, Pt.slots] at X_63 l_63 y_63 z_63 st_63 hQ_63
    subst l_63 y_63 z_63
    obtain ⟨rfl, Nq_63, e_63⟩ := hQ_63
    have N_63 := Fr.app N_58 Nq_63
    refine own_st st_63 ?_
    show own_Go _ _ _ _ (T_63.setTop (mkF m 114 #[iv p1, iv p2, iv p3, iv p4, iv p5, rv b_1, iv 2, rv b__58] [(.int (own_ref1 (own_pick p1 p2 p3 p4) (own_pick p1 p2 p3 ((p4.toUInt32 >>> ((2 : Int32) &&& 31).toUInt32).toInt32)) (own_pick p1 p2 p3 ((p4.toUInt32 >>> ((4 : Int32) &&& 31).toUInt32).toInt32)) (own_pick p1 p2 p3 ((p4.toUInt32 >>> ((6 : Int32) &&& 31).toUInt32).toInt32)) (own_pick p1 p2 p3 ((p4.toUInt32 >>> ((8 : Int32) &&& 31).toUInt32).toInt32)))), (.int (own_ref1 (own_pick p1 p2 p3 p4) (own_pick p1 p2 p3 ((p4.toUInt32 >>> ((2 : Int32) &&& 31).toUInt32).toInt32)) (own_pick p1 p2 p3 ((p4.toUInt32 >>> ((4 : Int32) &&& 31).toUInt32).toInt32)) (own_pick p1 p2 p3 ((p4.toUInt32 >>> ((6 : Int32) &&& 31).toUInt32).toInt32)) (own_pick p1 p2 p3 ((p4.toUInt32 >>> ((8 : Int32) &&& 31).toUInt32).toInt32))))]))
    refine o_icmpYes X_63 hx (pc' := 119) (hb hby at_114) (teq (rfl : (own_ref1 (own_pick p1 p2 p3 p4) (own_pick p1 p2 p3 ((p4.toUInt32 >>> ((2 : Int32) &&& 31).toUInt32).toInt32)) (own_pick p1 p2 p3 ((p4.toUInt32 >>> ((4 : Int32) &&& 31).toUInt32).toInt32)) (own_pick p1 p2 p3 ((p4.toUInt32 >>> ((6 : Int32) &&& 31).toUInt32).toInt32)) (own_pick p1 p2 p3 ((p4.toUInt32 >>> ((8 : Int32) &&& 31).toUInt32).toInt32))) = (own_ref1 (own_pick p1 p2 p3 p4) (own_pick p1 p2 p3 ((p4.toUInt32 >>> ((2 : Int32) &&& 31).toUInt32).toInt32)) (own_pick p1 p2 p3 ((p4.toUInt32 >>> ((4 : Int32) &&& 31).toUInt32).toInt32)) (own_pick p1 p2 p3 ((p4.toUInt32 >>> ((6 : Int32) &&& 31).toUInt32).toInt32)) (own_pick p1 p2 p3 ((p4.toUInt32 >>> ((8 : Int32) &&& 31).toUInt32).toInt32))))).1 (by decide) (by decide) ?_
    refine o_iload X_63 hx (hb hby at_119) rfl ?_
    refine o_iconst X_63 hx 1 (hb hby at_121) rfl ?_
    refine o_icmpNo X_63 hx (hb hby at_122) (tlt (by decide : (1 : Int32) < (2 : Int32))).2.2.2 ?_
    refine o_aload X_63 hx (hb hby at_125) rfl rfl ?_
    refine o_iconst X_63 hx 1 (hb hby at_127) rfl ?_
    obtain ⟨cl_66, Ar_66, qk_66, Sz_66, Ng_66, Hs_66, Gs_66⟩ := id Fq_58_0
    refine own_st (X_63.iaload hx (j := (1 : Int32)) (v := (.int (own_ref2 (own_pick p1 p2 p3 p4) (own_pick p1 p2 p3 ((p4.toUInt32 >>> ((2 : Int32) &&& 31).toUInt32).toInt32)) (own_pick p1 p2 p3 ((p4.toUInt32 >>> ((4 : Int32) &&& 31).toUInt32).toInt32)) (own_pick p1 p2 p3 ((p4.toUInt32 >>> ((6 : Int32) &&& 31).toUInt32).toInt32)) (own_pick p1 p2 p3 ((p4.toUInt32 >>> ((8 : Int32) &&& 31).toUInt32).toInt32))))) (by rw [e_63]; exact Ar_66.1) (State.isArrayOf_alike hZ.alike Ar_66.2.1) Ar_66.2.2 (inb_of Sz_66 ⟨by decide, by decide⟩) (Hs_66.at (j := (1 : Int32)) (inb_of Sz_66 ⟨by decide, by decide⟩) rfl) (g := (mkF m 128 #[iv p1, iv p2, iv p3, iv p4, iv p5, rv b_1, iv 2, rv b__58] [(.int 1), (.ref b__58)])) rfl rfl (hb hby at_128)) ?_
    show own_Go _ _ _ _ (T_63.setTop (mkF m 129 #[iv p1, iv p2, iv p3, iv p4, iv p5, rv b_1, iv 2, rv b__58] [(.int (own_ref2 (own_pick p1 p2 p3 p4) (own_pick p1 p2 p3 ((p4.toUInt32 >>> ((2 : Int32) &&& 31).toUInt32).toInt32)) (own_pick p1 p2 p3 ((p4.toUInt32 >>> ((4 : Int32) &&& 31).toUInt32).toInt32)) (own_pick p1 p2 p3 ((p4.toUInt32 >>> ((6 : Int32) &&& 31).toUInt32).toInt32)) (own_pick p1 p2 p3 ((p4.toUInt32 >>> ((8 : Int32) &&& 31).toUInt32).toInt32))))]))
    refine o_aload X_63 hx (hb hby at_129) rfl rfl ?_
    refine o_iconst X_63 hx 2 (hb hby at_131) rfl ?_
    obtain ⟨_, _, ⟨T_67, L_67, k_67, n_67⟩, -, X_67, ⟨Lc_67, hQ_67, l_67, y_67, z_67⟩, st_67⟩ := Jvm.LawKit.callS X_63 hx (y := (⟨"com/example/ordinance/ordinance/policy/PartFinderBordersPinLaw", "ref", "([II)I"⟩ : MethodName)) hown (mvT hZ (hw _ (List.mem_of_getElem? (i := 10) rfl))) (mvT hZ (hw _ (List.mem_of_getElem? (i := 11) rfl))) (mvT hZ (hw _ (List.mem_of_getElem? (i := 3) rfl))) (mvT hZ (hw _ (List.mem_of_getElem? (i := 12) rfl))) (by decide) (backOf (W := 1) (rmref2 l Z a0 hw [] b_1 k_1 (.int (0 : Int32)) (own_pick p1 p2 p3 p4) (own_pick p1 p2 p3 ((p4.toUInt32 >>> ((2 : Int32) &&& 31).toUInt32).toInt32)) (own_pick p1 p2 p3 ((p4.toUInt32 >>> ((4 : Int32) &&& 31).toUInt32).toInt32)) (own_pick p1 p2 p3 ((p4.toUInt32 >>> ((6 : Int32) &&& 31).toUInt32).toInt32)) (own_pick p1 p2 p3 ((p4.toUInt32 >>> ((8 : Int32) &&& 31).toUInt32).toInt32)) T_58.heap n0 Zs_65 Fa_64) hZ (hw _ (List.mem_of_getElem? (i := 12) rfl)) (hw _ (List.mem_of_getElem? (i := 3) rfl)) (by decide) (by decide)) (g := (mkF m 132 #[iv p1, iv p2, iv p3, iv p4, iv p5, rv b_1, iv 2, rv b__58] [(.int 2), (.ref b_1), (.int (own_ref2 (own_pick p1 p2 p3 p4) (own_pick p1 p2 p3 ((p4.toUInt32 >>> ((2 : Int32) &&& 31).toUInt32).toInt32)) (own_pick p1 p2 p3 ((p4.toUInt32 >>> ((4 : Int32) &&& 31).toUInt32).toInt32)) (own_pick p1 p2 p3 ((p4.toUInt32 >>> ((6 : Int32) &&& 31).toUInt32).toInt32)) (own_pick p1 p2 p3 ((p4.toUInt32 >>> ((8 : Int32) &&& 31).toUInt32).toInt32))))])) rfl (by rw [hml]; rfl) (argsL := [(.ref b_1), (.int 2)]) (rest := [(.int (own_ref2 (own_pick p1 p2 p3 p4) (own_pick p1 p2 p3 ((p4.toUInt32 >>> ((2 : Int32) &&& 31).toUInt32).toInt32)) (own_pick p1 p2 p3 ((p4.toUInt32 >>> ((4 : Int32) &&& 31).toUInt32).toInt32)) (own_pick p1 p2 p3 ((p4.toUInt32 >>> ((6 : Int32) &&& 31).toUInt32).toInt32)) (own_pick p1 p2 p3 ((p4.toUInt32 >>> ((8 : Int32) &&& 31).toUInt32).toInt32))))]) (lenOf pd_4 rfl) rfl (by show 2 * 0 + _ ≤ _; exact Nat.le_of_eq rfl) (hb hby at_132) (fun _ _ => ⟨rfl, e_63, (by decide : 2 + 0 ≤ _), (by decide : 7 + 0 ≤ _)⟩)
    dsimp only [Pt.U, Pt.locs, Pt.cells, Pt.slots] at X_67 l_67 y_67 z_67 st_67 hQ_67
    subst l_67 y_67 z_67
    obtain ⟨rfl, Nq_67, e_67⟩ := hQ_67
    have N_67 := Fr.app N_63 Nq_67
    refine own_st st_67 ?_
    show own_Go _ _ _ _ (T_67.setTop (mkF m 135 #[iv p1, iv p2, iv p3, iv p4, iv p5, rv b_1, iv 2, rv b__58] [(.int (own_ref2 (own_pick p1 p2 p3 p4) (own_pick p1 p2 p3 ((p4.toUInt32 >>> ((2 : Int32) &&& 31).toUInt32).toInt32)) (own_pick p1 p2 p3 ((p4.toUInt32 >>> ((4 : Int32) &&& 31).toUInt32).toInt32)) (own_pick p1 p2 p3 ((p4.toUInt32 >>> ((6 : Int32) &&& 31).toUInt32).toInt32)) (own_pick p1 p2 p3 ((p4.toUInt32 >>> ((8 : Int32) &&& 31).toUInt32).toInt32)))), (.int (own_ref2 (own_pick p1 p2 p3 p4) (own_pick p1 p2 p3 ((p4.toUInt32 >>> ((2 : Int32) &&& 31).toUInt32).toInt32)) (own_pick p1 p2 p3 ((p4.toUInt32 >>> ((4 : Int32) &&& 31).toUInt32).toInt32)) (own_pick p1 p2 p3 ((p4.toUInt32 >>> ((6 : Int32) &&& 31).toUInt32).toInt32)) (own_pick p1 p2 p3 ((p4.toUInt32 >>> ((8 : Int32) &&& 31).toUInt32).toInt32))))]))
    refine o_icmpYes X_67 hx (pc' := 140) (hb hby at_135) (teq (rfl : (own_ref2 (own_pick p1 p2 p3 p4) (own_pick p1 p2 p3 ((p4.toUInt32 >>> ((2 : Int32) &&& 31).toUInt32).toInt32)) (own_pick p1 p2 p3 ((p4.toUInt32 >>> ((4 : Int32) &&& 31).toUInt32).toInt32)) (own_pick p1 p2 p3 ((p4.toUInt32 >>> ((6 : Int32) &&& 31).toUInt32).toInt32)) (own_pick p1 p2 p3 ((p4.toUInt32 >>> ((8 : Int32) &&& 31).toUInt32).toInt32))) = (own_ref2 (own_pick p1 p2 p3 p4) (own_pick p1 p2 p3 ((p4.toUInt32 >>> ((2 : Int32) &&& 31).toUInt32).toInt32)) (own_pick p1 p2 p3 ((p4.toUInt32 >>> ((4 : Int32) &&& 31).toUInt32).toInt32)) (own_pick p1 p2 p3 ((p4.toUInt32 >>> ((6 : Int32) &&& 31).toUInt32).toInt32)) (own_pick p1 p2 p3 ((p4.toUInt32 >>> ((8 : Int32) &&& 31).toUInt32).toInt32))))).1 (by decide) (by decide) ?_
    refine o_iload X_67 hx (hb hby at_140) rfl ?_
    refine o_iconst X_67 hx 2 (hb hby at_142) rfl ?_
    refine o_icmpYes X_67 hx (pc' := 161) (hb hby at_143) (flt (by decide : ¬ ((2 : Int32) < (2 : Int32)))).2.2.2 (by decide) (by decide) ?_
    refine o_iload X_67 hx (hb hby at_161) rfl ?_
    refine o_iconst X_67 hx 3 (hb hby at_163) rfl ?_
    refine o_icmpYes X_67 hx (pc' := 182) (hb hby at_164) (flt (by decide : ¬ ((3 : Int32) < (2 : Int32)))).2.2.2 (by decide) (by decide) ?_
    refine o_iload X_67 hx (hb hby at_182) rfl ?_
    refine o_iconst X_67 hx 4 (hb hby at_184) rfl ?_
    refine o_icmpYes X_67 hx (pc' := 203) (hb hby at_185) (flt (by decide : ¬ ((4 : Int32) < (2 : Int32)))).2.2.2 (by decide) (by decide) ?_
    refine o_aload X_67 hx (hb hby at_203) rfl rfl ?_
    refine o_iconst X_67 hx 0 (hb hby at_205) rfl ?_
    obtain ⟨cl_68, Ar_68, qk_68, Sz_68, Ng_68, Hs_68, Gs_68⟩ := id Fa_64
    refine own_st (X_67.iaload hx (j := (0 : Int32)) (v := (.int (own_pick p1 p2 p3 p4))) (by rw [e_67]; exact Ar_68.1) (State.isArrayOf_alike hZ.alike Ar_68.2.1) Ar_68.2.2 (inb_of Sz_68 ⟨by decide, by decide⟩) (Hs_68.at (j := (0 : Int32)) (inb_of Sz_68 ⟨by decide, by decide⟩) rfl) (g := (mkF m 206 #[iv p1, iv p2, iv p3, iv p4, iv p5, rv b_1, iv 2, rv b__58] [(.int 0), (.ref b_1)])) rfl rfl (hb hby at_206)) ?_
    show own_Go _ _ _ _ (T_67.setTop (mkF m 207 #[iv p1, iv p2, iv p3, iv p4, iv p5, rv b_1, iv 2, rv b__58] [(.int (own_pick p1 p2 p3 p4))]))
    refine o_iloadN X_67 hx (hb hby at_207) rfl ?_
    refine o_iloadN X_67 hx (hb hby at_208) rfl ?_
    refine o_iloadN X_67 hx (hb hby at_209) rfl ?_
    refine o_iloadN X_67 hx (hb hby at_210) rfl ?_
    obtain ⟨_, _, ⟨T_69, L_69, k_69, n_69⟩, -, X_69, ⟨Lc_69, hQ_69, l_69, y_69, z_69⟩, st_69⟩ := Jvm.LawKit.callS X_67 hx (y := (⟨"com/example/ordinance/ordinance/policy/PartFinderBordersPinLaw", "pick", "(IIII)I"⟩ : MethodName)) hown (mvT hZ (hw _ (List.mem_of_getElem? (i := 1) rfl))) (mvT hZ (hw _ (List.mem_of_getElem? (i := 2) rfl))) (mvT hZ (hw _ (List.mem_of_getElem? (i := 3) rfl))) (mvT hZ (hw _ (List.mem_of_getElem? (i := 4) rfl))) (by decide) (backOf (W := 1) (rm1 l Z a0 hw [] p1 p2 p3 p4  T_58.heap n0 Zs_65) hZ (hw _ (List.mem_of_getElem? (i := 4) rfl)) (hw _ (List.mem_of_getElem? (i := 3) rfl)) (by decide) (by decide)) (g := (mkF m 211 #[iv p1, iv p2, iv p3, iv p4, iv p5, rv b_1, iv 2, rv b__58] [(.int p4), (.int p3), (.int p2), (.int p1), (.int (own_pick p1 p2 p3 p4))])) rfl (by rw [hml]; rfl) (argsL := [(.int p1), (.int p2), (.int p3), (.int p4)]) (rest := [(.int (own_pick p1 p2 p3 p4))]) (lenOf pd_2 rfl) rfl (by show 2 * 0 + _ ≤ _; exact Nat.le_of_eq rfl) (hb hby at_211) (fun _ _ => ⟨rfl, e_67, (by decide : 2 + 0 ≤ _), (by decide : 7 + 0 ≤ _)⟩)
    dsimp only [Pt.U, Pt.locs, Pt.cells, Pt.slots] at X_69 l_69 y_69 z_69 st_69 hQ_69
    subst l_69 y_69 z_69
    obtain ⟨rfl, Nq_69, e_69⟩ := hQ_69
    have N_69 := Fr.app N_67 Nq_69
    refine own_st st_69 ?_
    show own_Go _ _ _ _ (T_69.setTop (mkF m 214 #[iv p1, iv p2, iv p3, iv p4, iv p5, rv b_1, iv 2, rv b__58] [(.int (own_pick p1 p2 p3 p4)), (.int (own_pick p1 p2 p3 p4))]))
    refine o_icmpNo X_69 hx (hb hby at_214) (teq (rfl : (own_pick p1 p2 p3 p4) = (own_pick p1 p2 p3 p4))).2 ?_
    refine o_aload X_69 hx (hb hby at_217) rfl rfl ?_
    refine o_iconst X_69 hx 1 (hb hby at_219) rfl ?_
    obtain ⟨cl_70, Ar_70, qk_70, Sz_70, Ng_70, Hs_70, Gs_70⟩ := id Fa_64
    refine own_st (X_69.iaload hx (j := (1 : Int32)) (v := (.int (own_pick p1 p2 p3 ((p4.toUInt32 >>> ((2 : Int32) &&& 31).toUInt32).toInt32)))) (by rw [e_69]; exact Ar_70.1) (State.isArrayOf_alike hZ.alike Ar_70.2.1) Ar_70.2.2 (inb_of Sz_70 ⟨by decide, by decide⟩) (Hs_70.at (j := (1 : Int32)) (inb_of Sz_70 ⟨by decide, by decide⟩) rfl) (g := (mkF m 220 #[iv p1, iv p2, iv p3, iv p4, iv p5, rv b_1, iv 2, rv b__58] [(.int 1), (.ref b_1)])) rfl rfl (hb hby at_220)) ?_
    show own_Go _ _ _ _ (T_69.setTop (mkF m 221 #[iv p1, iv p2, iv p3, iv p4, iv p5, rv b_1, iv 2, rv b__58] [(.int (own_pick p1 p2 p3 ((p4.toUInt32 >>> ((2 : Int32) &&& 31).toUInt32).toInt32)))]))
    refine o_iloadN X_69 hx (hb hby at_221) rfl ?_
    refine o_iloadN X_69 hx (hb hby at_222) rfl ?_
    refine o_iloadN X_69 hx (hb hby at_223) rfl ?_
    refine o_iloadN X_69 hx (hb hby at_224) rfl ?_
    refine o_iconst X_69 hx 2 (hb hby at_225) rfl ?_
    refine o_iushr X_69 hx (hb hby at_226) ?_
    obtain ⟨_, _, ⟨T_71, L_71, k_71, n_71⟩, -, X_71, ⟨Lc_71, hQ_71, l_71, y_71, z_71⟩, st_71⟩ := Jvm.LawKit.callS X_69 hx (y := (⟨"com/example/ordinance/ordinance/policy/PartFinderBordersPinLaw", "pick", "(IIII)I"⟩ : MethodName)) hown (mvT hZ (hw _ (List.mem_of_getElem? (i := 1) rfl))) (mvT hZ (hw _ (List.mem_of_getElem? (i := 2) rfl))) (mvT hZ (hw _ (List.mem_of_getElem? (i := 3) rfl))) (mvT hZ (hw _ (List.mem_of_getElem? (i := 4) rfl))) (by decide) (backOf (W := 1) (rm1 l Z a0 hw [] p1 p2 p3 ((p4.toUInt32 >>> ((2 : Int32) &&& 31).toUInt32).toInt32)  T_58.heap n0 Zs_65) hZ (hw _ (List.mem_of_getElem? (i := 4) rfl)) (hw _ (List.mem_of_getElem? (i := 3) rfl)) (by decide) (by decide)) (g := (mkF m 227 #[iv p1, iv p2, iv p3, iv p4, iv p5, rv b_1, iv 2, rv b__58] [(.int ((p4.toUInt32 >>> ((2 : Int32) &&& 31).toUInt32).toInt32)), (.int p3), (.int p2), (.int p1), (.int (own_pick p1 p2 p3 ((p4.toUInt32 >>> ((2 : Int32) &&& 31).toUInt32).toInt32)))])) rfl (by rw [hml]; rfl) (argsL := [(.int p1), (.int p2), (.int p3), (.int ((p4.toUInt32 >>> ((2 : Int32) &&& 31).toUInt32).toInt32))]) (rest := [(.int (own_pick p1 p2 p3 ((p4.toUInt32 >>> ((2 : Int32) &&& 31).toUInt32).toInt32)))]) (lenOf pd_2 rfl) rfl (by show 2 * 0 + _ ≤ _; exact Nat.le_of_eq rfl) (hb hby at_227) (fun _ _ => ⟨rfl, e_69, (by decide : 2 + 0 ≤ _), (by decide : 7 + 0 ≤ _)⟩)
    dsimp only [Pt.U, Pt.locs, Pt.cells, Pt.slots] at X_71 l_71 y_71 z_71 st_71 hQ_71
    subst l_71 y_71 z_71
    obtain ⟨rfl, Nq_71, e_71⟩ := hQ_71
    have N_71 := Fr.app N_69 Nq_71
    refine own_st st_71 ?_
    show own_Go _ _ _ _ (T_71.setTop (mkF m 230 #[iv p1, iv p2, iv p3, iv p4, iv p5, rv b_1, iv 2, rv b__58] [(.int (own_pick p1 p2 p3 ((p4.toUInt32 >>> ((2 : Int32) &&& 31).toUInt32).toInt32))), (.int (own_pick p1 p2 p3 ((p4.toUInt32 >>> ((2 : Int32) &&& 31).toUInt32).toInt32)))]))
    refine o_icmpNo X_71 hx (hb hby at_230) (teq (rfl : (own_pick p1 p2 p3 ((p4.toUInt32 >>> ((2 : Int32) &&& 31).toUInt32).toInt32)) = (own_pick p1 p2 p3 ((p4.toUInt32 >>> ((2 : Int32) &&& 31).toUInt32).toInt32)))).2 ?_
    refine o_aload X_71 hx (hb hby at_233) rfl rfl ?_
    refine o_iconst X_71 hx 2 (hb hby at_235) rfl ?_
    obtain ⟨cl_72, Ar_72, qk_72, Sz_72, Ng_72, Hs_72, Gs_72⟩ := id Fa_64
    refine own_st (X_71.iaload hx (j := (2 : Int32)) (v := (.int (own_pick p1 p2 p3 ((p4.toUInt32 >>> ((4 : Int32) &&& 31).toUInt32).toInt32)))) (by rw [e_71]; exact Ar_72.1) (State.isArrayOf_alike hZ.alike Ar_72.2.1) Ar_72.2.2 (inb_of Sz_72 ⟨by decide, by decide⟩) (Hs_72.at (j := (2 : Int32)) (inb_of Sz_72 ⟨by decide, by decide⟩) rfl) (g := (mkF m 236 #[iv p1, iv p2, iv p3, iv p4, iv p5, rv b_1, iv 2, rv b__58] [(.int 2), (.ref b_1)])) rfl rfl (hb hby at_236)) ?_
    show own_Go _ _ _ _ (T_71.setTop (mkF m 237 #[iv p1, iv p2, iv p3, iv p4, iv p5, rv b_1, iv 2, rv b__58] [(.int (own_pick p1 p2 p3 ((p4.toUInt32 >>> ((4 : Int32) &&& 31).toUInt32).toInt32)))]))
    refine o_iloadN X_71 hx (hb hby at_237) rfl ?_
    refine o_iloadN X_71 hx (hb hby at_238) rfl ?_
    refine o_iloadN X_71 hx (hb hby at_239) rfl ?_
    refine o_iloadN X_71 hx (hb hby at_240) rfl ?_
    refine o_iconst X_71 hx 4 (hb hby at_241) rfl ?_
    refine o_iushr X_71 hx (hb hby at_242) ?_
    obtain ⟨_, _, ⟨T_73, L_73, k_73, n_73⟩, -, X_73, ⟨Lc_73, hQ_73, l_73, y_73, z_73⟩, st_73⟩ := Jvm.LawKit.callS X_71 hx (y := (⟨"com/example/ordinance/ordinance/policy/PartFinderBordersPinLaw", "pick", "(IIII)I"⟩ : MethodName)) hown (mvT hZ (hw _ (List.mem_of_getElem? (i := 1) rfl))) (mvT hZ (hw _ (List.mem_of_getElem? (i := 2) rfl))) (mvT hZ (hw _ (List.mem_of_getElem? (i := 3) rfl))) (mvT hZ (hw _ (List.mem_of_getElem? (i := 4) rfl))) (by decide) (backOf (W := 1) (rm1 l Z a0 hw [] p1 p2 p3 ((p4.toUInt32 >>> ((4 : Int32) &&& 31).toUInt32).toInt32)  T_58.heap n0 Zs_65) hZ (hw _ (List.mem_of_getElem? (i := 4) rfl)) (hw _ (List.mem_of_getElem? (i := 3) rfl)) (by decide) (by decide)) (g := (mkF m 243 #[iv p1, iv p2, iv p3, iv p4, iv p5, rv b_1, iv 2, rv b__58] [(.int ((p4.toUInt32 >>> ((4 : Int32) &&& 31).toUInt32).toInt32)), (.int p3), (.int p2), (.int p1), (.int (own_pick p1 p2 p3 ((p4.toUInt32 >>> ((4 : Int32) &&& 31).toUInt32).toInt32)))])) rfl (by rw [hml]; rfl) (argsL := [(.int p1), (.int p2), (.int p3), (.int ((p4.toUInt32 >>> ((4 : Int32) &&& 31).toUInt32).toInt32))]) (rest := [(.int (own_pick p1 p2 p3 ((p4.toUInt32 >>> ((4 : Int32) &&& 31).toUInt32).toInt32)))]) (lenOf pd_2 rfl) rfl (by show 2 * 0 + _ ≤ _; exact Nat.le_of_eq rfl) (hb hby at_243) (fun _ _ => ⟨rfl, e_71, (by decide : 2 + 0 ≤ _), (by decide : 7 + 0 ≤ _)⟩)
    dsimp only [Pt.U, Pt.locs, Pt.cells, Pt.slots] at X_73 l_73 y_73 z_73 st_73 hQ_73
    subst l_73 y_73 z_73
    obtain ⟨rfl, Nq_73, e_73⟩ := hQ_73
    have N_73 := Fr.app N_71 Nq_73
    refine own_st st_73 ?_
    show own_Go _ _ _ _ (T_73.setTop (mkF m 246 #[iv p1, iv p2, iv p3, iv p4, iv p5, rv b_1, iv 2, rv b__58] [(.int (own_pick p1 p2 p3 ((p4.toUInt32 >>> ((4 : Int32) &&& 31).toUInt32).toInt32))), (.int (own_pick p1 p2 p3 ((p4.toUInt32 >>> ((4 : Int32) &&& 31).toUInt32).toInt32)))]))
    refine o_icmpNo X_73 hx (hb hby at_246) (teq (rfl : (own_pick p1 p2 p3 ((p4.toUInt32 >>> ((4 : Int32) &&& 31).toUInt32).toInt32)) = (own_pick p1 p2 p3 ((p4.toUInt32 >>> ((4 : Int32) &&& 31).toUInt32).toInt32)))).2 ?_
    refine o_aload X_73 hx (hb hby at_249) rfl rfl ?_
    refine o_iconst X_73 hx 3 (hb hby at_251) rfl ?_
    obtain ⟨cl_74, Ar_74, qk_74, Sz_74, Ng_74, Hs_74, Gs_74⟩ := id Fa_64
    refine own_st (X_73.iaload hx (j := (3 : Int32)) (v := (.int (own_pick p1 p2 p3 ((p4.toUInt32 >>> ((6 : Int32) &&& 31).toUInt32).toInt32)))) (by rw [e_73]; exact Ar_74.1) (State.isArrayOf_alike hZ.alike Ar_74.2.1) Ar_74.2.2 (inb_of Sz_74 ⟨by decide, by decide⟩) (Hs_74.at (j := (3 : Int32)) (inb_of Sz_74 ⟨by decide, by decide⟩) rfl) (g := (mkF m 252 #[iv p1, iv p2, iv p3, iv p4, iv p5, rv b_1, iv 2, rv b__58] [(.int 3), (.ref b_1)])) rfl rfl (hb hby at_252)) ?_
    show own_Go _ _ _ _ (T_73.setTop (mkF m 253 #[iv p1, iv p2, iv p3, iv p4, iv p5, rv b_1, iv 2, rv b__58] [(.int (own_pick p1 p2 p3 ((p4.toUInt32 >>> ((6 : Int32) &&& 31).toUInt32).toInt32)))]))
    refine o_iloadN X_73 hx (hb hby at_253) rfl ?_
    refine o_iloadN X_73 hx (hb hby at_254) rfl ?_
    refine o_iloadN X_73 hx (hb hby at_255) rfl ?_
    refine o_iloadN X_73 hx (hb hby at_256) rfl ?_
    refine o_bipush X_73 hx 6 (hb hby at_257) rfl ?_
    refine o_iushr X_73 hx (hb hby at_259) ?_
    obtain ⟨_, _, ⟨T_75, L_75, k_75, n_75⟩, -, X_75, ⟨Lc_75, hQ_75, l_75, y_75, z_75⟩, st_75⟩ := Jvm.LawKit.callS X_73 hx (y := (⟨"com/example/ordinance/ordinance/policy/PartFinderBordersPinLaw", "pick", "(IIII)I"⟩ : MethodName)) hown (mvT hZ (hw _ (List.mem_of_getElem? (i := 1) rfl))) (mvT hZ (hw _ (List.mem_of_getElem? (i := 2) rfl))) (mvT hZ (hw _ (List.mem_of_getElem? (i := 3) rfl))) (mvT hZ (hw _ (List.mem_of_getElem? (i := 4) rfl))) (by decide) (backOf (W := 1) (rm1 l Z a0 hw [] p1 p2 p3 ((p4.toUInt32 >>> ((6 : Int32) &&& 31).toUInt32).toInt32)  T_58.heap n0 Zs_65) hZ (hw _ (List.mem_of_getElem? (i := 4) rfl)) (hw _ (List.mem_of_getElem? (i := 3) rfl)) (by decide) (by decide)) (g := (mkF m 260 #[iv p1, iv p2, iv p3, iv p4, iv p5, rv b_1, iv 2, rv b__58] [(.int ((p4.toUInt32 >>> ((6 : Int32) &&& 31).toUInt32).toInt32)), (.int p3), (.int p2), (.int p1), (.int (own_pick p1 p2 p3 ((p4.toUInt32 >>> ((6 : Int32) &&& 31).toUInt32).toInt32)))])) rfl (by rw [hml]; rfl) (argsL := [(.int p1), (.int p2), (.int p3), (.int ((p4.toUInt32 >>> ((6 : Int32) &&& 31).toUInt32).toInt32))]) (rest := [(.int (own_pick p1 p2 p3 ((p4.toUInt32 >>> ((6 : Int32) &&& 31).toUInt32).toInt32)))]) (lenOf pd_2 rfl) rfl (by show 2 * 0 + _ ≤ _; exact Nat.le_of_eq rfl) (hb hby at_260) (fun _ _ => ⟨rfl, e_73, (by decide : 2 + 0 ≤ _), (by decide : 7 + 0 ≤ _)⟩)
    dsimp only [Pt.U, Pt.locs, Pt.cells, Pt.slots] at X_75 l_75 y_75 z_75 st_75 hQ_75
    subst l_75 y_75 z_75
    obtain ⟨rfl, Nq_75, e_75⟩ := hQ_75
    have N_75 := Fr.app N_73 Nq_75
    refine own_st st_75 ?_
    show own_Go _ _ _ _ (T_75.setTop (mkF m 263 #[iv p1, iv p2, iv p3, iv p4, iv p5, rv b_1, iv 2, rv b__58] [(.int (own_pick p1 p2 p3 ((p4.toUInt32 >>> ((6 : Int32) &&& 31).toUInt32).toInt32))), (.int (own_pick p1 p2 p3 ((p4.toUInt32 >>> ((6 : Int32) &&& 31).toUInt32).toInt32)))]))
    refine o_icmpNo X_75 hx (hb hby at_263) (teq (rfl : (own_pick p1 p2 p3 ((p4.toUInt32 >>> ((6 : Int32) &&& 31).toUInt32).toInt32)) = (own_pick p1 p2 p3 ((p4.toUInt32 >>> ((6 : Int32) &&& 31).toUInt32).toInt32)))).2 ?_
    refine o_aload X_75 hx (hb hby at_266) rfl rfl ?_
    refine o_iconst X_75 hx 4 (hb hby at_268) rfl ?_
    obtain ⟨cl_76, Ar_76, qk_76, Sz_76, Ng_76, Hs_76, Gs_76⟩ := id Fa_64
    refine own_st (X_75.iaload hx (j := (4 : Int32)) (v := (.int (own_pick p1 p2 p3 ((p4.toUInt32 >>> ((8 : Int32) &&& 31).toUInt32).toInt32)))) (by rw [e_75]; exact Ar_76.1) (State.isArrayOf_alike hZ.alike Ar_76.2.1) Ar_76.2.2 (inb_of Sz_76 ⟨by decide, by decide⟩) (Hs_76.at (j := (4 : Int32)) (inb_of Sz_76 ⟨by decide, by decide⟩) rfl) (g := (mkF m 269 #[iv p1, iv p2, iv p3, iv p4, iv p5, rv b_1, iv 2, rv b__58] [(.int 4), (.ref b_1)])) rfl rfl (hb hby at_269)) ?_
    show own_Go _ _ _ _ (T_75.setTop (mkF m 270 #[iv p1, iv p2, iv p3, iv p4, iv p5, rv b_1, iv 2, rv b__58] [(.int (own_pick p1 p2 p3 ((p4.toUInt32 >>> ((8 : Int32) &&& 31).toUInt32).toInt32)))]))
    refine o_iloadN X_75 hx (hb hby at_270) rfl ?_
    refine o_iloadN X_75 hx (hb hby at_271) rfl ?_
    refine o_iloadN X_75 hx (hb hby at_272) rfl ?_
    refine o_iloadN X_75 hx (hb hby at_273) rfl ?_
    refine o_bipush X_75 hx 8 (hb hby at_274) rfl ?_
    refine o_iushr X_75 hx (hb hby at_276) ?_
    obtain ⟨_, _, ⟨T_77, L_77, k_77, n_77⟩, -, X_77, ⟨Lc_77, hQ_77, l_77, y_77, z_77⟩, st_77⟩ := Jvm.LawKit.callS X_75 hx (y := (⟨"com/example/ordinance/ordinance/policy/PartFinderBordersPinLaw", "pick", "(IIII)I"⟩ : MethodName)) hown (mvT hZ (hw _ (List.mem_of_getElem? (i := 1) rfl))) (mvT hZ (hw _ (List.mem_of_getElem? (i := 2) rfl))) (mvT hZ (hw _ (List.mem_of_getElem? (i := 3) rfl))) (mvT hZ (hw _ (List.mem_of_getElem? (i := 4) rfl))) (by decide) (backOf (W := 1) (rm1 l Z a0 hw [] p1 p2 p3 ((p4.toUInt32 >>> ((8 : Int32) &&& 31).toUInt32).toInt32)  T_58.heap n0 Zs_65) hZ (hw _ (List.mem_of_getElem? (i := 4) rfl)) (hw _ (List.mem_of_getElem? (i := 3) rfl)) (by decide) (by decide)) (g := (mkF m 277 #[iv p1, iv p2, iv p3, iv p4, iv p5, rv b_1, iv 2, rv b__58] [(.int ((p4.toUInt32 >>> ((8 : Int32) &&& 31).toUInt32).toInt32)), (.int p3), (.int p2), (.int p1), (.int (own_pick p1 p2 p3 ((p4.toUInt32 >>> ((8 : Int32) &&& 31).toUInt32).toInt32)))])) rfl (by rw [hml]; rfl) (argsL := [(.int p1), (.int p2), (.int p3), (.int ((p4.toUInt32 >>> ((8 : Int32) &&& 31).toUInt32).toInt32))]) (rest := [(.int (own_pick p1 p2 p3 ((p4.toUInt32 >>> ((8 : Int32) &&& 31).toUInt32).toInt32)))]) (lenOf pd_2 rfl) rfl (by show 2 * 0 + _ ≤ _; exact Nat.le_of_eq rfl) (hb hby at_277) (fun _ _ => ⟨rfl, e_75, (by decide : 2 + 0 ≤ _), (by decide : 7 + 0 ≤ _)⟩)
    dsimp only [Pt.U, Pt.locs, Pt.cells, Pt.slots] at X_77 l_77 y_77 z_77 st_77 hQ_77
    subst l_77 y_77 z_77
    obtain ⟨rfl, Nq_77, e_77⟩ := hQ_77
    have N_77 := Fr.app N_75 Nq_77
    refine own_st st_77 ?_
    show own_Go _ _ _ _ (T_77.setTop (mkF m 280 #[iv p1, iv p2, iv p3, iv p4, iv p5, rv b_1, iv 2, rv b__58] [(.int (own_pick p1 p2 p3 ((p4.toUInt32 >>> ((8 : Int32) &&& 31).toUInt32).toInt32))), (.int (own_pick p1 p2 p3 ((p4.toUInt32 >>> ((8 : Int32) &&& 31).toUInt32).toInt32)))]))
    refine o_icmpNo X_77 hx (hb hby at_280) (teq (rfl : (own_pick p1 p2 p3 ((p4.toUInt32 >>> ((8 : Int32) &&& 31).toUInt32).toInt32)) = (own_pick p1 p2 p3 ((p4.toUInt32 >>> ((8 : Int32) &&& 31).toUInt32).toInt32)))).2 ?_
    refine o_iconst X_77 hx 1 (hb hby at_283) rfl ?_
    refine o_goto X_77 hx (pc' := 288) (hb hby at_284) (by decide) (by decide) ?_
    have Kp_78 : Keep h0 T_58.heap [] := (Kp_60.trans K_58 all0)
    exact own_end X_77 e_77 (v := some (.int (1 : Int32))) (fun h => by rw [Bd.returns] at h; cases h) hlk (fun fs hr => retN X_77 hx (z := (1 : Int32)) (t := .boolean) Bd.returns (by simp) (hb hby at_288) hr) (Q := Q_rm0 Z a0 p1 p2 p3 p4 p5 h0 n0) ⟨rfl, N_77, Kp_78⟩ (by decide) (by decide)
  · rw [hL]
    show own_Go _ _ _ _ (T_21.setTop (mkF m 80 #[iv p1, iv p2, iv p3, iv p4, iv p5, rv b_1, iv 3, .unset] []))
    refine o_aload X_21 hx (hb hby at_80) rfl rfl ?_
    refine o_iload X_21 hx (hb hby at_82) rfl ?_
    have Zs_80 : n0 ≤ h_21.size := (Nat.le_trans Zs_19 (Keep.of_wr W_21).1)
    obtain ⟨_, _, ⟨T_79, L_79, k_79, n_79⟩, -, X_79, ⟨Lc_79, hQ_79, l_79, y_79, z_79⟩, st_79⟩ := Jvm.LawKit.callS X_21 hx (y := (⟨"com/example/ordinance/ordinance/policy/PartFinder", "borders", "([II)[I"⟩ : MethodName)) hown (mvT hZ (hw _ (List.mem_of_getElem? (i := 6) rfl))) (mvT hZ (hw _ (List.mem_of_getElem? (i := 7) rfl))) (mvT hZ (hw _ (List.mem_of_getElem? (i := 8) rfl))) (mvT hZ (hw _ (List.mem_of_getElem? (i := 9) rfl))) (by decide) (backOf (W := 0) (rmbo3 l Z a0 hw [] b_1 k_1 (.int (0 : Int32)) (own_pick p1 p2 p3 p4) (own_pick p1 p2 p3 ((p4.toUInt32 >>> ((2 : Int32) &&& 31).toUInt32).toInt32)) (own_pick p1 p2 p3 ((p4.toUInt32 >>> ((4 : Int32) &&& 31).toUInt32).toInt32)) (own_pick p1 p2 p3 ((p4.toUInt32 >>> ((6 : Int32) &&& 31).toUInt32).toInt32)) (own_pick p1 p2 p3 ((p4.toUInt32 >>> ((8 : Int32) &&& 31).toUInt32).toInt32)) h_21 n0 Zs_80 V_21) hZ (hw _ (List.mem_of_getElem? (i := 9) rfl)) (hw _ (List.mem_of_getElem? (i := 8) rfl)) (by decide) (by decide)) (g := (mkF m 84 #[iv p1, iv p2, iv p3, iv p4, iv p5, rv b_1, iv 3, .unset] [(.int 3), (.ref b_1)])) rfl (by rw [hml]; rfl) (argsL := [(.ref b_1), (.int 3)]) (rest := []) (lenOf pd_3 rfl) rfl (by show 2 * 0 + _ ≤ _; exact Nat.le_of_eq rfl) (hb hby at_84) (fun _ _ => ⟨rfl, e_21, (by decide : 1 + 1 ≤ _), (by decide : 5 + 3 ≤ _)⟩)
    dsimp only [Pt.U, Pt.locs, Pt.cells, Pt.slots] at X_79 l_79 y_79 z_79 st_79 hQ_79
    subst l_79 y_79 z_79
    obtain ⟨b__79, kB__79, rfl, Nq_79, K_79, gq_79_b, sq_79_b, Fq_79_0⟩ := hQ_79
    have N_79 := Fr.app N_21 Nq_79
    have Kp_81 : Keep h0 h_21 [] := (((((((Keep.refl h0 []).ext E_1).wr W_5 (Or.inr sz_1)).wr W_9 (Or.inr sz_1)).wr W_13 (Or.inr sz_1)).wr W_17 (Or.inr sz_1)).wr W_21 (Or.inr sz_1))
    have szq_79_b : h0.size ≤ b__79 := Nat.le_trans Kp_81.1 sq_79_b
    refine own_st st_79 ?_
    show own_Go _ _ _ _ (T_79.setTop (mkF m 87 #[iv p1, iv p2, iv p3, iv p4, iv p5, rv b_1, iv 3, .unset] [(.ref b__79)]))
    refine o_astore X_79 hx (hb hby at_87) rfl (l' := #[iv p1, iv p2, iv p3, iv p4, iv p5, rv b_1, iv 3, rv b__79]) rfl ?_
    refine o_aload X_79 hx (hb hby at_89) rfl rfl ?_
    obtain ⟨cl_82, Ar_82, qk_82, Sz_82, Ng_82, Hs_82, Gs_82⟩ := id Fq_79_0
    refine own_st (X_79.arraylength hx Ar_82.1 (State.isArrayOf_alike hZ.alike Ar_82.2.1) (g := (mkF m 91 #[iv p1, iv p2, iv p3, iv p4, iv p5, rv b_1, iv 3, rv b__79] [(.ref b__79)])) rfl rfl (hb hby at_91)) ?_
    rw [len_of Sz_82 Ng_82]
    show own_Go _ _ _ _ (T_79.setTop (mkF m 92 #[iv p1, iv p2, iv p3, iv p4, iv p5, rv b_1, iv 3, rv b__79] [(.int 3)]))
    refine o_iload X_79 hx (hb hby at_92) rfl ?_
    refine o_icmpYes X_79 hx (pc' := 99) (hb hby at_94) (teq (by decide : (3 : Int32) = (3 : Int32))).1 (by decide) (by decide) ?_
    refine o_iload X_79 hx (hb hby at_99) rfl ?_
    refine o_ifNo X_79 hx (hb hby at_101) (tlt (by decide : (0 : Int32) < (3 : Int32))).2.2.2 ?_
    refine o_aload X_79 hx (hb hby at_104) rfl rfl ?_
    refine o_iconst X_79 hx 0 (hb hby at_106) rfl ?_
    obtain ⟨cl_83, Ar_83, qk_83, Sz_83, Ng_83, Hs_83, Gs_83⟩ := id Fq_79_0
    refine own_st (X_79.iaload hx (j := (0 : Int32)) (v := (.int (own_ref1 (own_pick p1 p2 p3 p4) (own_pick p1 p2 p3 ((p4.toUInt32 >>> ((2 : Int32) &&& 31).toUInt32).toInt32)) (own_pick p1 p2 p3 ((p4.toUInt32 >>> ((4 : Int32) &&& 31).toUInt32).toInt32)) (own_pick p1 p2 p3 ((p4.toUInt32 >>> ((6 : Int32) &&& 31).toUInt32).toInt32)) (own_pick p1 p2 p3 ((p4.toUInt32 >>> ((8 : Int32) &&& 31).toUInt32).toInt32))))) Ar_83.1 (State.isArrayOf_alike hZ.alike Ar_83.2.1) Ar_83.2.2 (inb_of Sz_83 ⟨by decide, by decide⟩) (Hs_83.at (j := (0 : Int32)) (inb_of Sz_83 ⟨by decide, by decide⟩) rfl) (g := (mkF m 107 #[iv p1, iv p2, iv p3, iv p4, iv p5, rv b_1, iv 3, rv b__79] [(.int 0), (.ref b__79)])) rfl rfl (hb hby at_107)) ?_
    show own_Go _ _ _ _ (T_79.setTop (mkF m 108 #[iv p1, iv p2, iv p3, iv p4, iv p5, rv b_1, iv 3, rv b__79] [(.int (own_ref1 (own_pick p1 p2 p3 p4) (own_pick p1 p2 p3 ((p4.toUInt32 >>> ((2 : Int32) &&& 31).toUInt32).toInt32)) (own_pick p1 p2 p3 ((p4.toUInt32 >>> ((4 : Int32) &&& 31).toUInt32).toInt32)) (own_pick p1 p2 p3 ((p4.toUInt32 >>> ((6 : Int32) &&& 31).toUInt32).toInt32)) (own_pick p1 p2 p3 ((p4.toUInt32 >>> ((8 : Int32) &&& 31).toUInt32).toInt32))))]))
    refine o_aload X_79 hx (hb hby at_108) rfl rfl ?_
    refine o_iconst X_79 hx 1 (hb hby at_110) rfl ?_
    have Fa_85 := (V_21.keep K_79 nin0)
    have Zs_86 : n0 ≤ T_79.heap.size := (Nat.le_trans Zs_80 K_79.1)
    obtain ⟨_, _, ⟨T_84, L_84, k_84, n_84⟩, -, X_84, ⟨Lc_84, hQ_84, l_84, y_84, z_84⟩, st_84⟩ := Jvm.LawKit.callS X_79 hx (y := (⟨"com/example/ordinance/ordinance/policy/PartFinderBordersPinLaw", "ref", "([II)I"⟩ : MethodName)) hown (mvT hZ (hw _ (List.mem_of_getElem? (i := 10) rfl))) (mvT hZ (hw _ (List.mem_of_getElem? (i := 11) rfl))) (mvT hZ (hw _ (List.mem_of_getElem? (i := 3) rfl))) (mvT hZ (hw _ (List.mem_of_getElem? (i := 12) rfl))) (by decide) (backOf (W := 1) (rmref1 l Z a0 hw [] b_1 k_1 (.int (0 : Int32)) (own_pick p1 p2 p3 p4) (own_pick p1 p2 p3 ((p4.toUInt32 >>> ((2 : Int32) &&& 31).toUInt32).toInt32)) (own_pick p1 p2 p3 ((p4.toUInt32 >>> ((4 : Int32) &&& 31).toUInt32).toInt32)) (own_pick p1 p2 p3 ((p4.toUInt32 >>> ((6 : Int32) &&& 31).toUInt32).toInt32)) (own_pick p1 p2 p3 ((p4.toUInt32 >>> ((8 : Int32) &&& 31).toUInt32).toInt32)) T_79.heap n0 Zs_86 Fa_85) hZ (hw _ (List.mem_of_getElem? (i := 12) rfl)) (hw _ (List.mem_of_getElem? (i := 3) rfl)) (by decide) (by decide)) (g := (mkF m 111 #[iv p1, iv p2, iv p3, iv p4, iv p5, rv b_1, iv 3, rv b__79] [(.int 1), (.ref b_1), (.int (own_ref1 (own_pick p1 p2 p3 p4) (own_pick p1 p2 p3 ((p4.toUInt32 >>> ((2 : Int32) &&& 31).toUInt32).toInt32)) (own_pick p1 p2 p3 ((p4.toUInt32 >>> ((4 : Int32) &&& 31).toUInt32).toInt32)) (own_pick p1 p2 p3 ((p4.toUInt32 >>> ((6 : Int32) &&& 31).toUInt32).toInt32)) (own_pick p1 p2 p3 ((p4.toUInt32 >>> ((8 : Int32) &&& 31).toUInt32).toInt32))))])) rfl (by rw [hml]; rfl) (argsL := [(.ref b_1), (.int 1)]) (rest := [(.int (own_ref1 (own_pick p1 p2 p3 p4) (own_pick p1 p2 p3 ((p4.toUInt32 >>> ((2 : Int32) &&& 31).toUInt32).toInt32)) (own_pick p1 p2 p3 ((p4.toUInt32 >>> ((4 : Int32) &&& 31).toUInt32).toInt32)) (own_pick p1 p2 p3 ((p4.toUInt32 >>> ((6 : Int32) &&& 31).toUInt32).toInt32)) (own_pick p1 p2 p3 ((p4.toUInt32 >>> ((8 : Int32) &&& 31).toUInt32).toInt32))))]) (lenOf pd_4 rfl) rfl (by show 2 * 0 + _ ≤ _; exact Nat.le_of_eq rfl) (hb hby at_111) (fun _ _ => ⟨rfl, rfl, (by decide : 2 + 0 ≤ _), (by decide : 8 + 0 ≤ _)⟩)
    dsimp only [Pt.U, Pt.locs, Pt.cells, Pt.slots] at X_84 l_84 y_84 z_84 st_84 hQ_84
    subst l_84 y_84 z_84
    obtain ⟨rfl, Nq_84, e_84⟩ := hQ_84
    have N_84 := Fr.app N_79 Nq_84
    refine own_st st_84 ?_
    show own_Go _ _ _ _ (T_84.setTop (mkF m 114 #[iv p1, iv p2, iv p3, iv p4, iv p5, rv b_1, iv 3, rv b__79] [(.int (own_ref1 (own_pick p1 p2 p3 p4) (own_pick p1 p2 p3 ((p4.toUInt32 >>> ((2 : Int32) &&& 31).toUInt32).toInt32)) (own_pick p1 p2 p3 ((p4.toUInt32 >>> ((4 : Int32) &&& 31).toUInt32).toInt32)) (own_pick p1 p2 p3 ((p4.toUInt32 >>> ((6 : Int32) &&& 31).toUInt32).toInt32)) (own_pick p1 p2 p3 ((p4.toUInt32 >>> ((8 : Int32) &&& 31).toUInt32).toInt32)))), (.int (own_ref1 (own_pick p1 p2 p3 p4) (own_pick p1 p2 p3 ((p4.toUInt32 >>> ((2 : Int32) &&& 31).toUInt32).toInt32)) (own_pick p1 p2 p3 ((p4.toUInt32 >>> ((4 : Int32) &&& 31).toUInt32).toInt32)) (own_pick p1 p2 p3 ((p4.toUInt32 >>> ((6 : Int32) &&& 31).toUInt32).toInt32)) (own_pick p1 p2 p3 ((p4.toUInt32 >>> ((8 : Int32) &&& 31).toUInt32).toInt32))))]))
    refine o_icmpYes X_84 hx (pc' := 119) (hb hby at_114) (teq (rfl : (own_ref1 (own_pick p1 p2 p3 p4) (own_pick p1 p2 p3 ((p4.toUInt32 >>> ((2 : Int32) &&& 31).toUInt32).toInt32)) (own_pick p1 p2 p3 ((p4.toUInt32 >>> ((4 : Int32) &&& 31).toUInt32).toInt32)) (own_pick p1 p2 p3 ((p4.toUInt32 >>> ((6 : Int32) &&& 31).toUInt32).toInt32)) (own_pick p1 p2 p3 ((p4.toUInt32 >>> ((8 : Int32) &&& 31).toUInt32).toInt32))) = (own_ref1 (own_pick p1 p2 p3 p4) (own_pick p1 p2 p3 ((p4.toUInt32 >>> ((2 : Int32) &&& 31).toUInt32).toInt32)) (own_pick p1 p2 p3 ((p4.toUInt32 >>> ((4 : Int32) &&& 31).toUInt32).toInt32)) (own_pick p1 p2 p3 ((p4.toUInt32 >>> ((6 : Int32) &&& 31).toUInt32).toInt32)) (own_pick p1 p2 p3 ((p4.toUInt32 >>> ((8 : Int32) &&& 31).toUInt32).toInt32))))).1 (by decide) (by decide) ?_
    refine o_iload X_84 hx (hb hby at_119) rfl ?_
    refine o_iconst X_84 hx 1 (hb hby at_121) rfl ?_
    refine o_icmpNo X_84 hx (hb hby at_122) (tlt (by decide : (1 : Int32) < (3 : Int32))).2.2.2 ?_
    refine o_aload X_84 hx (hb hby at_125) rfl rfl ?_
    refine o_iconst X_84 hx 1 (hb hby at_127) rfl ?_
    obtain ⟨cl_87, Ar_87, qk_87, Sz_87, Ng_87, Hs_87, Gs_87⟩ := id Fq_79_0
    refine own_st (X_84.iaload hx (j := (1 : Int32)) (v := (.int (own_ref2 (own_pick p1 p2 p3 p4) (own_pick p1 p2 p3 ((p4.toUInt32 >>> ((2 : Int32) &&& 31).toUInt32).toInt32)) (own_pick p1 p2 p3 ((p4.toUInt32 >>> ((4 : Int32) &&& 31).toUInt32).toInt32)) (own_pick p1 p2 p3 ((p4.toUInt32 >>> ((6 : Int32) &&& 31).toUInt32).toInt32)) (own_pick p1 p2 p3 ((p4.toUInt32 >>> ((8 : Int32) &&& 31).toUInt32).toInt32))))) (by rw [e_84]; exact Ar_87.1) (State.isArrayOf_alike hZ.alike Ar_87.2.1) Ar_87.2.2 (inb_of Sz_87 ⟨by decide, by decide⟩) (Hs_87.at (j := (1 : Int32)) (inb_of Sz_87 ⟨by decide, by decide⟩) rfl) (g := (mkF m 128 #[iv p1, iv p2, iv p3, iv p4, iv p5, rv b_1, iv 3, rv b__79] [(.int 1), (.ref b__79)])) rfl rfl (hb hby at_128)) ?_
    show own_Go _ _ _ _ (T_84.setTop (mkF m 129 #[iv p1, iv p2, iv p3, iv p4, iv p5, rv b_1, iv 3, rv b__79] [(.int (own_ref2 (own_pick p1 p2 p3 p4) (own_pick p1 p2 p3 ((p4.toUInt32 >>> ((2 : Int32) &&& 31).toUInt32).toInt32)) (own_pick p1 p2 p3 ((p4.toUInt32 >>> ((4 : Int32) &&& 31).toUInt32).toInt32)) (own_pick p1 p2 p3 ((p4.toUInt32 >>> ((6 : Int32) &&& 31).toUInt32).toInt32)) (own_pick p1 p2 p3 ((p4.toUInt32 >>> ((8 : Int32) &&& 31).toUInt32).toInt32))))]))
    refine o_aload X_84 hx (hb hby at_129) rfl rfl ?_
    refine o_iconst X_84 hx 2 (hb hby at_131) rfl ?_
    obtain ⟨_, _, ⟨T_88, L_88, k_88, n_88⟩, -, X_88, ⟨Lc_88, hQ_88, l_88, y_88, z_88⟩, st_88⟩ := Jvm.LawKit.callS X_84 hx (y := (⟨"com/example/ordinance/ordinance/policy/PartFinderBordersPinLaw", "ref", "([II)I"⟩ : MethodName)) hown (mvT hZ (hw _ (List.mem_of_getElem? (i := 10) rfl))) (mvT hZ (hw _ (List.mem_of_getElem? (i := 11) rfl))) (mvT hZ (hw _ (List.mem_of_getElem? (i := 3) rfl))) (mvT hZ (hw _ (List.mem_of_getElem? (i := 12) rfl))) (by decide) (backOf (W := 1) (rmref2 l Z a0 hw [] b_1 k_1 (.int (0 : Int32)) (own_pick p1 p2 p3 p4) (own_pick p1 p2 p3 ((p4.toUInt32 >>> ((2 : Int32) &&& 31).toUInt32).toInt32)) (own_pick p1 p2 p3 ((p4.toUInt32 >>> ((4 : Int32) &&& 31).toUInt32).toInt32)) (own_pick p1 p2 p3 ((p4.toUInt32 >>> ((6 : Int32) &&& 31).toUInt32).toInt32)) (own_pick p1 p2 p3 ((p4.toUInt32 >>> ((8 : Int32) &&& 31).toUInt32).toInt32)) T_79.heap n0 Zs_86 Fa_85) hZ (hw _ (List.mem_of_getElem? (i := 12) rfl)) (hw _ (List.mem_of_getElem? (i := 3) rfl)) (by decide) (by decide)) (g := (mkF m 132 #[iv p1, iv p2, iv p3, iv p4, iv p5, rv b_1, iv 3, rv b__79] [(.int 2), (.ref b_1), (.int (own_ref2 (own_pick p1 p2 p3 p4) (own_pick p1 p2 p3 ((p4.toUInt32 >>> ((2 : Int32) &&& 31).toUInt32).toInt32)) (own_pick p1 p2 p3 ((p4.toUInt32 >>> ((4 : Int32) &&& 31).toUInt32).toInt32)) (own_pick p1 p2 p3 ((p4.toUInt32 >>> ((6 : Int32) &&& 31).toUInt32).toInt32)) (own_pick p1 p2 p3 ((p4.toUInt32 >>> ((8 : Int32) &&& 31).toUInt32).toInt32))))])) rfl (by rw [hml]; rfl) (argsL := [(.ref b_1), (.int 2)]) (rest := [(.int (own_ref2 (own_pick p1 p2 p3 p4) (own_pick p1 p2 p3 ((p4.toUInt32 >>> ((2 : Int32) &&& 31).toUInt32).toInt32)) (own_pick p1 p2 p3 ((p4.toUInt32 >>> ((4 : Int32) &&& 31).toUInt32).toInt32)) (own_pick p1 p2 p3 ((p4.toUInt32 >>> ((6 : Int32) &&& 31).toUInt32).toInt32)) (own_pick p1 p2 p3 ((p4.toUInt32 >>> ((8 : Int32) &&& 31).toUInt32).toInt32))))]) (lenOf pd_4 rfl) rfl (by show 2 * 0 + _ ≤ _; exact Nat.le_of_eq rfl) (hb hby at_132) (fun _ _ => ⟨rfl, e_84, (by decide : 2 + 0 ≤ _), (by decide : 8 + 0 ≤ _)⟩)
    dsimp only [Pt.U, Pt.locs, Pt.cells, Pt.slots] at X_88 l_88 y_88 z_88 st_88 hQ_88
    subst l_88 y_88 z_88
    obtain ⟨rfl, Nq_88, e_88⟩ := hQ_88
    have N_88 := Fr.app N_84 Nq_88
    refine own_st st_88 ?_
    show own_Go _ _ _ _ (T_88.setTop (mkF m 135 #[iv p1, iv p2, iv p3, iv p4, iv p5, rv b_1, iv 3, rv b__79] [(.int (own_ref2 (own_pick p1 p2 p3 p4) (own_pick p1 p2 p3 ((p4.toUInt32 >>> ((2 : Int32) &&& 31).toUInt32).toInt32)) (own_pick p1 p2 p3 ((p4.toUInt32 >>> ((4 : Int32) &&& 31).toUInt32).toInt32)) (own_pick p1 p2 p3 ((p4.toUInt32 >>> ((6 : Int32) &&& 31).toUInt32).toInt32)) (own_pick p1 p2 p3 ((p4.toUInt32 >>> ((8 : Int32) &&& 31).toUInt32).toInt32)))), (.int (own_ref2 (own_pick p1 p2 p3 p4) (own_pick p1 p2 p3 ((p4.toUInt32 >>> ((2 : Int32) &&& 31).toUInt32).toInt32)) (own_pick p1 p2 p3 ((p4.toUInt32 >>> ((4 : Int32) &&& 31).toUInt32).toInt32)) (own_pick p1 p2 p3 ((p4.toUInt32 >>> ((6 : Int32) &&& 31).toUInt32).toInt32)) (own_pick p1 p2 p3 ((p4.toUInt32 >>> ((8 : Int32) &&& 31).toUInt32).toInt32))))]))
    refine o_icmpYes X_88 hx (pc' := 140) (hb hby at_135) (teq (rfl : (own_ref2 (own_pick p1 p2 p3 p4) (own_pick p1 p2 p3 ((p4.toUInt32 >>> ((2 : Int32) &&& 31).toUInt32).toInt32)) (own_pick p1 p2 p3 ((p4.toUInt32 >>> ((4 : Int32) &&& 31).toUInt32).toInt32)) (own_pick p1 p2 p3 ((p4.toUInt32 >>> ((6 : Int32) &&& 31).toUInt32).toInt32)) (own_pick p1 p2 p3 ((p4.toUInt32 >>> ((8 : Int32) &&& 31).toUInt32).toInt32))) = (own_ref2 (own_pick p1 p2 p3 p4) (own_pick p1 p2 p3 ((p4.toUInt32 >>> ((2 : Int32) &&& 31).toUInt32).toInt32)) (own_pick p1 p2 p3 ((p4.toUInt32 >>> ((4 : Int32) &&& 31).toUInt32).toInt32)) (own_pick p1 p2 p3 ((p4.toUInt32 >>> ((6 : Int32) &&& 31).toUInt32).toInt32)) (own_pick p1 p2 p3 ((p4.toUInt32 >>> ((8 : Int32) &&& 31).toUInt32).toInt32))))).1 (by decide) (by decide) ?_
    refine o_iload X_88 hx (hb hby at_140) rfl ?_
    refine o_iconst X_88 hx 2 (hb hby at_142) rfl ?_
    refine o_icmpNo X_88 hx (hb hby at_143) (tlt (by decide : (2 : Int32) < (3 : Int32))).2.2.2 ?_
    refine o_aload X_88 hx (hb hby at_146) rfl rfl ?_
    refine o_iconst X_88 hx 2 (hb hby at_148) rfl ?_
    obtain ⟨cl_89, Ar_89, qk_89, Sz_89, Ng_89, Hs_89, Gs_89⟩ := id Fq_79_0
    refine own_st (X_88.iaload hx (j := (2 : Int32)) (v := (.int (own_ref3 (own_pick p1 p2 p3 p4) (own_pick p1 p2 p3 ((p4.toUInt32 >>> ((2 : Int32) &&& 31).toUInt32).toInt32)) (own_pick p1 p2 p3 ((p4.toUInt32 >>> ((4 : Int32) &&& 31).toUInt32).toInt32)) (own_pick p1 p2 p3 ((p4.toUInt32 >>> ((6 : Int32) &&& 31).toUInt32).toInt32)) (own_pick p1 p2 p3 ((p4.toUInt32 >>> ((8 : Int32) &&& 31).toUInt32).toInt32))))) (by rw [e_88]; exact Ar_89.1) (State.isArrayOf_alike hZ.alike Ar_89.2.1) Ar_89.2.2 (inb_of Sz_89 ⟨by decide, by decide⟩) (Hs_89.at (j := (2 : Int32)) (inb_of Sz_89 ⟨by decide, by decide⟩) rfl) (g := (mkF m 149 #[iv p1, iv p2, iv p3, iv p4, iv p5, rv b_1, iv 3, rv b__79] [(.int 2), (.ref b__79)])) rfl rfl (hb hby at_149)) ?_
    show own_Go _ _ _ _ (T_88.setTop (mkF m 150 #[iv p1, iv p2, iv p3, iv p4, iv p5, rv b_1, iv 3, rv b__79] [(.int (own_ref3 (own_pick p1 p2 p3 p4) (own_pick p1 p2 p3 ((p4.toUInt32 >>> ((2 : Int32) &&& 31).toUInt32).toInt32)) (own_pick p1 p2 p3 ((p4.toUInt32 >>> ((4 : Int32) &&& 31).toUInt32).toInt32)) (own_pick p1 p2 p3 ((p4.toUInt32 >>> ((6 : Int32) &&& 31).toUInt32).toInt32)) (own_pick p1 p2 p3 ((p4.toUInt32 >>> ((8 : Int32) &&& 31).toUInt32).toInt32))))]))
    refine o_aload X_88 hx (hb hby at_150) rfl rfl ?_
    refine o_iconst X_88 hx 3 (hb hby at_152) rfl ?_
    obtain ⟨_, _, ⟨T_90, L_90, k_90, n_90⟩, -, X_90, ⟨Lc_90, hQ_90, l_90, y_90, z_90⟩, st_90⟩ := Jvm.LawKit.callS X_88 hx (y := (⟨"com/example/ordinance/ordinance/policy/PartFinderBordersPinLaw", "ref", "([II)I"⟩ : MethodName)) hown (mvT hZ (hw _ (List.mem_of_getElem? (i := 10) rfl))) (mvT hZ (hw _ (List.mem_of_getElem? (i := 11) rfl))) (mvT hZ (hw _ (List.mem_of_getElem? (i := 3) rfl))) (mvT hZ (hw _ (List.mem_of_getElem? (i := 12) rfl))) (by decide) (backOf (W := 1) (rmref3 l Z a0 hw [] b_1 k_1 (.int (0 : Int32)) (own_pick p1 p2 p3 p4) (own_pick p1 p2 p3 ((p4.toUInt32 >>> ((2 : Int32) &&& 31).toUInt32).toInt32)) (own_pick p1 p2 p3 ((p4.toUInt32 >>> ((4 : Int32) &&& 31).toUInt32).toInt32)) (own_pick p1 p2 p3 ((p4.toUInt32 >>> ((6 : Int32) &&& 31).toUInt32).toInt32)) (own_pick p1 p2 p3 ((p4.toUInt32 >>> ((8 : Int32) &&& 31).toUInt32).toInt32)) T_79.heap n0 Zs_86 Fa_85) hZ (hw _ (List.mem_of_getElem? (i := 12) rfl)) (hw _ (List.mem_of_getElem? (i := 3) rfl)) (by decide) (by decide)) (g := (mkF m 153 #[iv p1, iv p2, iv p3, iv p4, iv p5, rv b_1, iv 3, rv b__79] [(.int 3), (.ref b_1), (.int (own_ref3 (own_pick p1 p2 p3 p4) (own_pick p1 p2 p3 ((p4.toUInt32 >>> ((2 : Int32) &&& 31).toUInt32).toInt32)) (own_pick p1 p2 p3 ((p4.toUInt32 >>> ((4 : Int32) &&& 31).toUInt32).toInt32)) (own_pick p1 p2 p3 ((p4.toUInt32 >>> ((6 : Int32) &&& 31).toUInt32).toInt32)) (own_pick p1 p2 p3 ((p4.toUInt32 >>> ((8 : Int32) &&& 31).toUInt32).toInt32))))])) rfl (by rw [hml]; rfl) (argsL := [(.ref b_1), (.int 3)]) (rest := [(.int (own_ref3 (own_pick p1 p2 p3 p4) (own_pick p1 p2 p3 ((p4.toUInt32 >>> ((2 : Int32) &&& 31).toUInt32).toInt32)) (own_pick p1 p2 p3 ((p4.toUInt32 >>> ((4 : Int32) &&& 31).toUInt32).toInt32)) (own_pick p1 p2 p3 ((p4.toUInt32 >>> ((6 : Int32) &&& 31).toUInt32).toInt32)) (own_pick p1 p2 p3 ((p4.toUInt32 >>> ((8 : Int32) &&& 31).toUInt32).toInt32))))]) (lenOf pd_4 rfl) rfl (by show 2 * 0 + _ ≤ _; exact Nat.le_of_eq rfl) (hb hby at_153) (fun _ _ => ⟨rfl, e_88, (by decide : 2 + 0 ≤ _), (by decide : 8 + 0 ≤ _)⟩)
    dsimp only [Pt.U, Pt.locs, Pt.cells, Pt.slots] at X_90 l_90 y_90 z_90 st_90 hQ_90
    subst l_90 y_90 z_90
    obtain ⟨rfl, Nq_90, e_90⟩ := hQ_90
    have N_90 := Fr.app N_88 Nq_90
    refine own_st st_90 ?_
    show own_Go _ _ _ _ (T_90.setTop (mkF m 156 #[iv p1, iv p2, iv p3, iv p4, iv p5, rv b_1, iv 3, rv b__79] [(.int (own_ref3 (own_pick p1 p2 p3 p4) (own_pick p1 p2 p3 ((p4.toUInt32 >>> ((2 : Int32) &&& 31).toUInt32).toInt32)) (own_pick p1 p2 p3 ((p4.toUInt32 >>> ((4 : Int32) &&& 31).toUInt32).toInt32)) (own_pick p1 p2 p3 ((p4.toUInt32 >>> ((6 : Int32) &&& 31).toUInt32).toInt32)) (own_pick p1 p2 p3 ((p4.toUInt32 >>> ((8 : Int32) &&& 31).toUInt32).toInt32)))), (.int (own_ref3 (own_pick p1 p2 p3 p4) (own_pick p1 p2 p3 ((p4.toUInt32 >>> ((2 : Int32) &&& 31).toUInt32).toInt32)) (own_pick p1 p2 p3 ((p4.toUInt32 >>> ((4 : Int32) &&& 31).toUInt32).toInt32)) (own_pick p1 p2 p3 ((p4.toUInt32 >>> ((6 : Int32) &&& 31).toUInt32).toInt32)) (own_pick p1 p2 p3 ((p4.toUInt32 >>> ((8 : Int32) &&& 31).toUInt32).toInt32))))]))
    refine o_icmpYes X_90 hx (pc' := 161) (hb hby at_156) (teq (rfl : (own_ref3 (own_pick p1 p2 p3 p4) (own_pick p1 p2 p3 ((p4.toUInt32 >>> ((2 : Int32) &&& 31).toUInt32).toInt32)) (own_pick p1 p2 p3 ((p4.toUInt32 >>> ((4 : Int32) &&& 31).toUInt32).toInt32)) (own_pick p1 p2 p3 ((p4.toUInt32 >>> ((6 : Int32) &&& 31).toUInt32).toInt32)) (own_pick p1 p2 p3 ((p4.toUInt32 >>> ((8 : Int32) &&& 31).toUInt32).toInt32))) = (own_ref3 (own_pick p1 p2 p3 p4) (own_pick p1 p2 p3 ((p4.toUInt32 >>> ((2 : Int32) &&& 31).toUInt32).toInt32)) (own_pick p1 p2 p3 ((p4.toUInt32 >>> ((4 : Int32) &&& 31).toUInt32).toInt32)) (own_pick p1 p2 p3 ((p4.toUInt32 >>> ((6 : Int32) &&& 31).toUInt32).toInt32)) (own_pick p1 p2 p3 ((p4.toUInt32 >>> ((8 : Int32) &&& 31).toUInt32).toInt32))))).1 (by decide) (by decide) ?_
    refine o_iload X_90 hx (hb hby at_161) rfl ?_
    refine o_iconst X_90 hx 3 (hb hby at_163) rfl ?_
    refine o_icmpYes X_90 hx (pc' := 182) (hb hby at_164) (flt (by decide : ¬ ((3 : Int32) < (3 : Int32)))).2.2.2 (by decide) (by decide) ?_
    refine o_iload X_90 hx (hb hby at_182) rfl ?_
    refine o_iconst X_90 hx 4 (hb hby at_184) rfl ?_
    refine o_icmpYes X_90 hx (pc' := 203) (hb hby at_185) (flt (by decide : ¬ ((4 : Int32) < (3 : Int32)))).2.2.2 (by decide) (by decide) ?_
    refine o_aload X_90 hx (hb hby at_203) rfl rfl ?_
    refine o_iconst X_90 hx 0 (hb hby at_205) rfl ?_
    obtain ⟨cl_91, Ar_91, qk_91, Sz_91, Ng_91, Hs_91, Gs_91⟩ := id Fa_85
    refine own_st (X_90.iaload hx (j := (0 : Int32)) (v := (.int (own_pick p1 p2 p3 p4))) (by rw [e_90]; exact Ar_91.1) (State.isArrayOf_alike hZ.alike Ar_91.2.1) Ar_91.2.2 (inb_of Sz_91 ⟨by decide, by decide⟩) (Hs_91.at (j := (0 : Int32)) (inb_of Sz_91 ⟨by decide, by decide⟩) rfl) (g := (mkF m 206 #[iv p1, iv p2, iv p3, iv p4, iv p5, rv b_1, iv 3, rv b__79] [(.int 0), (.ref b_1)])) rfl rfl (hb hby at_206)) ?_
    show own_Go _ _ _ _ (T_90.setTop (mkF m 207 #[iv p1, iv p2, iv p3, iv p4, iv p5, rv b_1, iv 3, rv b__79] [(.int (own_pick p1 p2 p3 p4))]))
    refine o_iloadN X_90 hx (hb hby at_207) rfl ?_
    refine o_iloadN X_90 hx (hb hby at_208) rfl ?_
    refine o_iloadN X_90 hx (hb hby at_209) rfl ?_
    refine o_iloadN X_90 hx (hb hby at_210) rfl ?_
    obtain ⟨_, _, ⟨T_92, L_92, k_92, n_92⟩, -, X_92, ⟨Lc_92, hQ_92, l_92, y_92, z_92⟩, st_92⟩ := Jvm.LawKit.callS X_90 hx (y := (⟨"com/example/ordinance/ordinance/policy/PartFinderBordersPinLaw", "pick", "(IIII)I"⟩ : MethodName)) hown (mvT hZ (hw _ (List.mem_of_getElem? (i := 1) rfl))) (mvT hZ (hw _ (List.mem_of_getElem? (i := 2) rfl))) (mvT hZ (hw _ (List.mem_of_getElem? (i := 3) rfl))) (mvT hZ (hw _ (List.mem_of_getElem? (i := 4) rfl))) (by decide) (backOf (W := 1) (rm1 l Z a0 hw [] p1 p2 p3 p4  T_79.heap n0 Zs_86) hZ (hw _ (List.mem_of_getElem? (i := 4) rfl)) (hw _ (List.mem_of_getElem? (i := 3) rfl)) (by decide) (by decide)) (g := (mkF m 211 #[iv p1, iv p2, iv p3, iv p4, iv p5, rv b_1, iv 3, rv b__79] [(.int p4), (.int p3), (.int p2), (.int p1), (.int (own_pick p1 p2 p3 p4))])) rfl (by rw [hml]; rfl) (argsL := [(.int p1), (.int p2), (.int p3), (.int p4)]) (rest := [(.int (own_pick p1 p2 p3 p4))]) (lenOf pd_2 rfl) rfl (by show 2 * 0 + _ ≤ _; exact Nat.le_of_eq rfl) (hb hby at_211) (fun _ _ => ⟨rfl, e_90, (by decide : 2 + 0 ≤ _), (by decide : 8 + 0 ≤ _)⟩)
    dsimp only [Pt.U, Pt.locs, Pt.cells, Pt.slots] at X_92 l_92 y_92 z_92 st_92 hQ_92
    subst l_92 y_92 z_92
    obtain ⟨rfl, Nq_92, e_92⟩ := hQ_92
    have N_92 := Fr.app N_90 Nq_92
    refine own_st st_92 ?_
    show own_Go _ _ _ _ (T_92.setTop (mkF m 214 #[iv p1, iv p2, iv p3, iv p4, iv p5, rv b_1, iv 3, rv b__79] [(.int (own_pick p1 p2 p3 p4)), (.int (own_pick p1 p2 p3 p4))]))
    refine o_icmpNo X_92 hx (hb hby at_214) (teq (rfl : (own_pick p1 p2 p3 p4) = (own_pick p1 p2 p3 p4))).2 ?_
    refine o_aload X_92 hx (hb hby at_217) rfl rfl ?_
    refine o_iconst X_92 hx 1 (hb hby at_219) rfl ?_
    obtain ⟨cl_93, Ar_93, qk_93, Sz_93, Ng_93, Hs_93, Gs_93⟩ := id Fa_85
    refine own_st (X_92.iaload hx (j := (1 : Int32)) (v := (.int (own_pick p1 p2 p3 ((p4.toUInt32 >>> ((2 : Int32) &&& 31).toUInt32).toInt32)))) (by rw [e_92]; exact Ar_93.1) (State.isArrayOf_alike hZ.alike Ar_93.2.1) Ar_93.2.2 (inb_of Sz_93 ⟨by decide, by decide⟩) (Hs_93.at (j := (1 : Int32)) (inb_of Sz_93 ⟨by decide, by decide⟩) rfl) (g := (mkF m 220 #[iv p1, iv p2, iv p3, iv p4, iv p5, rv b_1, iv 3, rv b__79] [(.int 1), (.ref b_1)])) rfl rfl (hb hby at_220)) ?_
    show own_Go _ _ _ _ (T_92.setTop (mkF m 221 #[iv p1, iv p2, iv p3, iv p4, iv p5, rv b_1, iv 3, rv b__79] [(.int (own_pick p1 p2 p3 ((p4.toUInt32 >>> ((2 : Int32) &&& 31).toUInt32).toInt32)))]))
    refine o_iloadN X_92 hx (hb hby at_221) rfl ?_
    refine o_iloadN X_92 hx (hb hby at_222) rfl ?_
    refine o_iloadN X_92 hx (hb hby at_223) rfl ?_
    refine o_iloadN X_92 hx (hb hby at_224) rfl ?_
    refine o_iconst X_92 hx 2 (hb hby at_225) rfl ?_
    refine o_iushr X_92 hx (hb hby at_226) ?_
    obtain ⟨_, _, ⟨T_94, L_94, k_94, n_94⟩, -, X_94, ⟨Lc_94, hQ_94, l_94, y_94, z_94⟩, st_94⟩ := Jvm.LawKit.callS X_92 hx (y := (⟨"com/example/ordinance/ordinance/policy/PartFinderBordersPinLaw", "pick", "(IIII)I"⟩ : MethodName)) hown (mvT hZ (hw _ (List.mem_of_getElem? (i := 1) rfl))) (mvT hZ (hw _ (List.mem_of_getElem? (i := 2) rfl))) (mvT hZ (hw _ (List.mem_of_getElem? (i := 3) rfl))) (mvT hZ (hw _ (List.mem_of_getElem? (i := 4) rfl))) (by decide) (backOf (W := 1) (rm1 l Z a0 hw [] p1 p2 p3 ((p4.toUInt32 >>> ((2 : Int32) &&& 31).toUInt32).toInt32)  T_79.heap n0 Zs_86) hZ (hw _ (List.mem_of_getElem? (i := 4) rfl)) (hw _ (List.mem_of_getElem? (i := 3) rfl)) (by decide) (by decide)) (g := (mkF m 227 #[iv p1, iv p2, iv p3, iv p4, iv p5, rv b_1, iv 3, rv b__79] [(.int ((p4.toUInt32 >>> ((2 : Int32) &&& 31).toUInt32).toInt32)), (.int p3), (.int p2), (.int p1), (.int (own_pick p1 p2 p3 ((p4.toUInt32 >>> ((2 : Int32) &&& 31).toUInt32).toInt32)))])) rfl (by rw [hml]; rfl) (argsL := [(.int p1), (.int p2), (.int p3), (.int ((p4.toUInt32 >>> ((2 : Int32) &&& 31).toUInt32).toInt32))]) (rest := [(.int (own_pick p1 p2 p3 ((p4.toUInt32 >>> ((2 : Int32) &&& 31).toUInt32).toInt32)))]) (lenOf pd_2 rfl) rfl (by show 2 * 0 + _ ≤ _; exact Nat.le_of_eq rfl) (hb hby at_227) (fun _ _ => ⟨rfl, e_92, (by decide : 2 + 0 ≤ _), (by decide : 8 + 0 ≤ _)⟩)
    dsimp only [Pt.U, Pt.locs, Pt.cells, Pt.slots] at X_94 l_94 y_94 z_94 st_94 hQ_94
    subst l_94 y_94 z_94
    obtain ⟨rfl, Nq_94, e_94⟩ := hQ_94
    have N_94 := Fr.app N_92 Nq_94
    refine own_st st_94 ?_
    show own_Go _ _ _ _ (T_94.setTop (mkF m 230 #[iv p1, iv p2, iv p3, iv p4, iv p5, rv b_1, iv 3, rv b__79] [(.int (own_pick p1 p2 p3 ((p4.toUInt32 >>> ((2 : Int32) &&& 31).toUInt32).toInt32))), (.int (own_pick p1 p2 p3 ((p4.toUInt32 >>> ((2 : Int32) &&& 31).toUInt32).toInt32)))]))
    refine o_icmpNo X_94 hx (hb hby at_230) (teq (rfl : (own_pick p1 p2 p3 ((p4.toUInt32 >>> ((2 : Int32) &&& 31).toUInt32).toInt32)) = (own_pick p1 p2 p3 ((p4.toUInt32 >>> ((2 : Int32) &&& 31).toUInt32).toInt32)))).2 ?_
    refine o_aload X_94 hx (hb hby at_233) rfl rfl ?_
    refine o_iconst X_94 hx 2 (hb hby at_235) rfl ?_
    obtain ⟨cl_95, Ar_95, qk_95, Sz_95, Ng_95, Hs_95, Gs_95⟩ := id Fa_85
    refine own_st (X_94.iaload hx (j := (2 : Int32)) (v := (.int (own_pick p1 p2 p3 ((p4.toUInt32 >>> ((4 : Int32) &&& 31).toUInt32).toInt32)))) (by rw [e_94]; exact Ar_95.1) (State.isArrayOf_alike hZ.alike Ar_95.2.1) Ar_95.2.2 (inb_of Sz_95 ⟨by decide, by decide⟩) (Hs_95.at (j := (2 : Int32)) (inb_of Sz_95 ⟨by decide, by decide⟩) rfl) (g := (mkF m 236 #[iv p1, iv p2, iv p3, iv p4, iv p5, rv b_1, iv 3, rv b__79] [(.int 2), (.ref b_1)])) rfl rfl (hb hby at_236)) ?_
    show own_Go _ _ _ _ (T_94.setTop (mkF m 237 #[iv p1, iv p2, iv p3, iv p4, iv p5, rv b_1, iv 3, rv b__79] [(.int (own_pick p1 p2 p3 ((p4.toUInt32 >>> ((4 : Int32) &&& 31).toUInt32).toInt32)))]))
    refine o_iloadN X_94 hx (hb hby at_237) rfl ?_
    refine o_iloadN X_94 hx (hb hby at_238) rfl ?_
    refine o_iloadN X_94 hx (hb hby at_239) rfl ?_
    refine o_iloadN X_94 hx (hb hby at_240) rfl ?_
    refine o_iconst X_94 hx 4 (hb hby at_241) rfl ?_
    refine o_iushr X_94 hx (hb hby at_242) ?_
    obtain ⟨_, _, ⟨T_96, L_96, k_96, n_96⟩, -, X_96, ⟨Lc_96, hQ_96, l_96, y_96, z_96⟩, st_96⟩ := Jvm.LawKit.callS X_94 hx (y := (⟨"com/example/ordinance/ordinance/policy/PartFinderBordersPinLaw", "pick", "(IIII)I"⟩ : MethodName)) hown (mvT hZ (hw _ (List.mem_of_getElem? (i := 1) rfl))) (mvT hZ (hw _ (List.mem_of_getElem? (i := 2) rfl))) (mvT hZ (hw _ (List.mem_of_getElem? (i := 3) rfl))) (mvT hZ (hw _ (List.mem_of_getElem? (i := 4) rfl))) (by decide) (backOf (W := 1) (rm1 l Z a0 hw [] p1 p2 p3 ((p4.toUInt32 >>> ((4 : Int32) &&& 31).toUInt32).toInt32)  T_79.heap n0 Zs_86) hZ (hw _ (List.mem_of_getElem? (i := 4) rfl)) (hw _ (List.mem_of_getElem? (i := 3) rfl)) (by decide) (by decide)) (g := (mkF m 243 #[iv p1, iv p2, iv p3, iv p4, iv p5, rv b_1, iv 3, rv b__79] [(.int ((p4.toUInt32 >>> ((4 : Int32) &&& 31).toUInt32).toInt32)), (.int p3), (.int p2), (.int p1), (.int (own_pick p1 p2 p3 ((p4.toUInt32 >>> ((4 : Int32) &&& 31).toUInt32).toInt32)))])) rfl (by rw [hml]; rfl) (argsL := [(.int p1), (.int p2), (.int p3), (.int ((p4.toUInt32 >>> ((4 : Int32) &&& 31).toUInt32).toInt32))]) (rest := [(.int (own_pick p1 p2 p3 ((p4.toUInt32 >>> ((4 : Int32) &&& 31).toUInt32).toInt32)))]) (lenOf pd_2 rfl) rfl (by show 2 * 0 + _ ≤ _; exact Nat.le_of_eq rfl) (hb hby at_243) (fun _ _ => ⟨rfl, e_94, (by decide : 2 + 0 ≤ _), (by decide : 8 + 0 ≤ _)⟩)
    dsimp only [Pt.U, Pt.locs, Pt.cells, Pt.slots] at X_96 l_96 y_96 z_96 st_96 hQ_96
    subst l_96 y_96 z_96
    obtain ⟨rfl, Nq_96, e_96⟩ := hQ_96
    have N_96 := Fr.app N_94 Nq_96
    refine own_st st_96 ?_
    show own_Go _ _ _ _ (T_96.setTop (mkF m 246 #[iv p1, iv p2, iv p3, iv p4, iv p5, rv b_1, iv 3, rv b__79] [(.int (own_pick p1 p2 p3 ((p4.toUInt32 >>> ((4 : Int32) &&& 31).toUInt32).toInt32))), (.int (own_pick p1 p2 p3 ((p4.toUInt32 >>> ((4 : Int32) &&& 31).toUInt32).toInt32)))]))
    refine o_icmpNo X_96 hx (hb hby at_246) (teq (rfl : (own_pick p1 p2 p3 ((p4.toUInt32 >>> ((4 : Int32) &&& 31).toUInt32).toInt32)) = (own_pick p1 p2 p3 ((p4.toUInt32 >>> ((4 : Int32) &&& 31).toUInt32).toInt32)))).2 ?_
    refine o_aload X_96 hx (hb hby at_249) rfl rfl ?_
    refine o_iconst X_96 hx 3 (hb hby at_251) rfl ?_
    obtain ⟨cl_97, Ar_97, qk_97, Sz_97, Ng_97, Hs_97, Gs_97⟩ := id Fa_85
    refine own_st (X_96.iaload hx (j := (3 : Int32)) (v := (.int (own_pick p1 p2 p3 ((p4.toUInt32 >>> ((6 : Int32) &&& 31).toUInt32).toInt32)))) (by rw [e_96]; exact Ar_97.1) (State.isArrayOf_alike hZ.alike Ar_97.2.1) Ar_97.2.2 (inb_of Sz_97 ⟨by decide, by decide⟩) (Hs_97.at (j := (3 : Int32)) (inb_of Sz_97 ⟨by decide, by decide⟩) rfl) (g := (mkF m 252 #[iv p1, iv p2, iv p3, iv p4, iv p5, rv b_1, iv 3, rv b__79] [(.int 3), (.ref b_1)])) rfl rfl (hb hby at_252)) ?_
    show own_Go _ _ _ _ (T_96.setTop (mkF m 253 #[iv p1, iv p2, iv p3, iv p4, iv p5, rv b_1, iv 3, rv b__79] [(.int (own_pick p1 p2 p3 ((p4.toUInt32 >>> ((6 : Int32) &&& 31).toUInt32).toInt32)))]))
    refine o_iloadN X_96 hx (hb hby at_253) rfl ?_
    refine o_iloadN X_96 hx (hb hby at_254) rfl ?_
    refine o_iloadN X_96 hx (hb hby at_255) rfl ?_
    refine o_iloadN X_96 hx (hb hby at_256) rfl ?_
    refine o_bipush X_96 hx 6 (hb hby at_257) rfl ?_
    refine o_iushr X_96 hx (hb hby at_259) ?_
    obtain ⟨_, _, ⟨T_98, L_98, k_98, n_98⟩, -, X_98, ⟨Lc_98, hQ_98, l_98, y_98, z_98⟩, st_98⟩ := Jvm.LawKit.callS X_96 hx (y := (⟨"com/example/ordinance/ordinance/policy/PartFinderBordersPinLaw", "pick", "(IIII)I"⟩ : MethodName)) hown (mvT hZ (hw _ (List.mem_of_getElem? (i := 1) rfl))) (mvT hZ (hw _ (List.mem_of_getElem? (i := 2) rfl))) (mvT hZ (hw _ (List.mem_of_getElem? (i := 3) rfl))) (mvT hZ (hw _ (List.mem_of_getElem? (i := 4) rfl))) (by decide) (backOf (W := 1) (rm1 l Z a0 hw [] p1 p2 p3 ((p4.toUInt32 >>> ((6 : Int32) &&& 31).toUInt32).toInt32)  T_79.heap n0 Zs_86) hZ (hw _ (List.mem_of_getElem? (i := 4) rfl)) (hw _ (List.mem_of_getElem? (i := 3) rfl)) (by decide) (by decide)) (g := (mkF m 260 #[iv p1, iv p2, iv p3, iv p4, iv p5, rv b_1, iv 3, rv b__79] [(.int ((p4.toUInt32 >>> ((6 : Int32) &&& 31).toUInt32).toInt32)), (.int p3), (.int p2), (.int p1), (.int (own_pick p1 p2 p3 ((p4.toUInt32 >>> ((6 : Int32) &&& 31).toUInt32).toInt32)))])) rfl (by rw [hml]; rfl) (argsL := [(.int p1), (.int p2), (.int p3), (.int ((p4.toUInt32 >>> ((6 : Int32) &&& 31).toUInt32).toInt32))]) (rest := [(.int (own_pick p1 p2 p3 ((p4.toUInt32 >>> ((6 : Int32) &&& 31).toUInt32).toInt32)))]) (lenOf pd_2 rfl) rfl (by show 2 * 0 + _ ≤ _; exact Nat.le_of_eq rfl) (hb hby at_260) (fun _ _ => ⟨rfl, e_96, (by decide : 2 + 0 ≤ _), (by decide : 8 + 0 ≤ _)⟩)
    dsimp only [Pt.U, Pt.locs, Pt.cells, Pt.slots] at X_98 l_98 y_98 z_98 st_98 hQ_98
    subst l_98 y_98 z_98
    obtain ⟨rfl, Nq_98, e_98⟩ := hQ_98
    have N_98 := Fr.app N_96 Nq_98
    refine own_st st_98 ?_
    show own_Go _ _ _ _ (T_98.setTop (mkF m 263 #[iv p1, iv p2, iv p3, iv p4, iv p5, rv b_1, iv 3, rv b__79] [(.int (own_pick p1 p2 p3 ((p4.toUInt32 >>> ((6 : Int32) &&& 31).toUInt32).toInt32))), (.int (own_pick p1 p2 p3 ((p4.toUInt32 >>> ((6 : Int32) &&& 31).toUInt32).toInt32)))]))
    refine o_icmpNo X_98 hx (hb hby at_263) (teq (rfl : (own_pick p1 p2 p3 ((p4.toUInt32 >>> ((6 : Int32) &&& 31).toUInt32).toInt32)) = (own_pick p1 p2 p3 ((p4.toUInt32 >>> ((6 : Int32) &&& 31).toUInt32).toInt32)))).2 ?_
    refine o_aload X_98 hx (hb hby at_266) rfl rfl ?_
    refine o_iconst X_98 hx 4 (hb hby at_268) rfl ?_
    obtain ⟨cl_99, Ar_99, qk_99, Sz_99, Ng_99, Hs_99, Gs_99⟩ := id Fa_85
    refine own_st (X_98.iaload hx (j := (4 : Int32)) (v := (.int (own_pick p1 p2 p3 ((p4.toUInt32 >>> ((8 : Int32) &&& 31).toUInt32).toInt32)))) (by rw [e_98]; exact Ar_99.1) (State.isArrayOf_alike hZ.alike Ar_99.2.1) Ar_99.2.2 (inb_of Sz_99 ⟨by decide, by decide⟩) (Hs_99.at (j := (4 : Int32)) (inb_of Sz_99 ⟨by decide, by decide⟩) rfl) (g := (mkF m 269 #[iv p1, iv p2, iv p3, iv p4, iv p5, rv b_1, iv 3, rv b__79] [(.int 4), (.ref b_1)])) rfl rfl (hb hby at_269)) ?_
    show own_Go _ _ _ _ (T_98.setTop (mkF m 270 #[iv p1, iv p2, iv p3, iv p4, iv p5, rv b_1, iv 3, rv b__79] [(.int (own_pick p1 p2 p3 ((p4.toUInt32 >>> ((8 : Int32) &&& 31).toUInt32).toInt32)))]))
    refine o_iloadN X_98 hx (hb hby at_270) rfl ?_
    refine o_iloadN X_98 hx (hb hby at_271) rfl ?_
    refine o_iloadN X_98 hx (hb hby at_272) rfl ?_
    refine o_iloadN X_98 hx (hb hby at_273) rfl ?_
    refine o_bipush X_98 hx 8 (hb hby at_274) rfl ?_
    refine o_iushr X_98 hx (hb hby at_276) ?_
    obtain ⟨_, _, ⟨T_100, L_100, k_100, n_100⟩, -, X_100, ⟨Lc_100, hQ_100, l_100, y_100, z_100⟩, st_100⟩ := Jvm.LawKit.callS X_98 hx (y := (⟨"com/example/ordinance/ordinance/policy/PartFinderBordersPinLaw", "pick", "(IIII)I"⟩ : MethodName)) hown (mvT hZ (hw _ (List.mem_of_getElem? (i := 1) rfl))) (mvT hZ (hw _ (List.mem_of_getElem? (i := 2) rfl))) (mvT hZ (hw _ (List.mem_of_getElem? (i := 3) rfl))) (mvT hZ (hw _ (List.mem_of_getElem? (i := 4) rfl))) (by decide) (backOf (W := 1) (rm1 l Z a0 hw [] p1 p2 p3 ((p4.toUInt32 >>> ((8 : Int32) &&& 31).toUInt32).toInt32)  T_79.heap n0 Zs_86) hZ (hw _ (List.mem_of_getElem? (i := 4) rfl)) (hw _ (List.mem_of_getElem? (i := 3) rfl)) (by decide) (by decide)) (g := (mkF m 277 #[iv p1, iv p2, iv p3, iv p4, iv p5, rv b_1, iv 3, rv b__79] [(.int ((p4.toUInt32 >>> ((8 : Int32) &&& 31).toUInt32).toInt32)), (.int p3), (.int p2), (.int p1), (.int (own_pick p1 p2 p3 ((p4.toUInt32 >>> ((8 : Int32) &&& 31).toUInt32).toInt32)))])) rfl (by rw [hml]; rfl) (argsL := [(.int p1), (.int p2), (.int p3), (.int ((p4.toUInt32 >>> ((8 : Int32) &&& 31).toUInt32).toInt32))]) (rest := [(.int (own_pick p1 p2 p3 ((p4.toUInt32 >>> ((8 : Int32) &&& 31).toUInt32).toInt32)))]) (lenOf pd_2 rfl) rfl (by show 2 * 0 + _ ≤ _; exact Nat.le_of_eq rfl) (hb hby at_277) (fun _ _ => ⟨rfl, e_98, (by decide : 2 + 0 ≤ _), (by decide : 8 + 0 ≤ _)⟩)
    dsimp only [Pt.U, Pt.locs, Pt.cells, Pt.slots] at X_100 l_100 y_100 z_100 st_100 hQ_100
    subst l_100 y_100 z_100
    obtain ⟨rfl, Nq_100, e_100⟩ := hQ_100
    have N_100 := Fr.app N_98 Nq_100
    refine own_st st_100 ?_
    show own_Go _ _ _ _ (T_100.setTop (mkF m 280 #[iv p1, iv p2, iv p3, iv p4, iv p5, rv b_1, iv 3, rv b__79] [(.int (own_pick p1 p2 p3 ((p4.toUInt32 >>> ((8 : Int32) &&& 31).toUInt32).toInt32))), (.int (own_pick p1 p2 p3 ((p4.toUInt32 >>> ((8 : Int32) &&& 31).toUInt32).toInt32)))]))
    refine o_icmpNo X_100 hx (hb hby at_280) (teq (rfl : (own_pick p1 p2 p3 ((p4.toUInt32 >>> ((8 : Int32) &&& 31).toUInt32).toInt32)) = (own_pick p1 p2 p3 ((p4.toUInt32 >>> ((8 : Int32) &&& 31).toUInt32).toInt32)))).2 ?_
    refine o_iconst X_100 hx 1 (hb hby at_283) rfl ?_
    refine o_goto X_100 hx (pc' := 288) (hb hby at_284) (by decide) (by decide) ?_
    have Kp_101 : Keep h0 T_79.heap [] := (Kp_81.trans K_79 all0)
    exact own_end X_100 e_100 (v := some (.int (1 : Int32))) (fun h => by rw [Bd.returns] at h; cases h) hlk (fun fs hr => retN X_100 hx (z := (1 : Int32)) (t := .boolean) Bd.returns (by simp) (hb hby at_288) hr) (Q := Q_rm0 Z a0 p1 p2 p3 p4 p5 h0 n0) ⟨rfl, N_100, Kp_101⟩ (by decide) (by decide)
  · rw [hL]
    show own_Go _ _ _ _ (T_21.setTop (mkF m 80 #[iv p1, iv p2, iv p3, iv p4, iv p5, rv b_1, iv 4, .unset] []))
    refine o_aload X_21 hx (hb hby at_80) rfl rfl ?_
    refine o_iload X_21 hx (hb hby at_82) rfl ?_
    have Zs_103 : n0 ≤ h_21.size := (Nat.le_trans Zs_19 (Keep.of_wr W_21).1)
    obtain ⟨_, _, ⟨T_102, L_102, k_102, n_102⟩, -, X_102, ⟨Lc_102, hQ_102, l_102, y_102, z_102⟩, st_102⟩ := Jvm.LawKit.callS X_21 hx (y := (⟨"com/example/ordinance/ordinance/policy/PartFinder", "borders", "([II)[I"⟩ : MethodName)) hown (mvT hZ (hw _ (List.mem_of_getElem? (i := 6) rfl))) (mvT hZ (hw _ (List.mem_of_getElem? (i := 7) rfl))) (mvT hZ (hw _ (List.mem_of_getElem? (i := 8) rfl))) (mvT hZ (hw _ (List.mem_of_getElem? (i := 9) rfl))) (by decide) (backOf (W := 0) (rmbo4 l Z a0 hw [] b_1 k_1 (.int (0 : Int32)) (own_pick p1 p2 p3 p4) (own_pick p1 p2 p3 ((p4.toUInt32 >>> ((2 : Int32) &&& 31).toUInt32).toInt32)) (own_pick p1 p2 p3 ((p4.toUInt32 >>> ((4 : Int32) &&& 31).toUInt32).toInt32)) (own_pick p1 p2 p3 ((p4.toUInt32 >>> ((6 : Int32) &&& 31).toUInt32).toInt32)) (own_pick p1 p2 p3 ((p4.toUInt32 >>> ((8 : Int32) &&& 31).toUInt32).toInt32)) h_21 n0 Zs_103 V_21) hZ (hw _ (List.mem_of_getElem? (i := 9) rfl)) (hw _ (List.mem_of_getElem? (i := 8) rfl)) (by decide) (by decide)) (g := (mkF m 84 #[iv p1, iv p2, iv p3, iv p4, iv p5, rv b_1, iv 4, .unset] [(.int 4), (.ref b_1)])) rfl (by rw [hml]; rfl) (argsL := [(.ref b_1), (.int 4)]) (rest := []) (lenOf pd_3 rfl) rfl (by show 2 * 0 + _ ≤ _; exact Nat.le_of_eq rfl) (hb hby at_84) (fun _ _ => ⟨rfl, e_21, (by decide : 1 + 1 ≤ _), (by decide : 5 + 4 ≤ _)⟩)
    dsimp only [Pt.U, Pt.locs, Pt.cells, Pt.slots] at X_102 l_102 y_102 z_102 st_102 hQ_102
    subst l_102 y_102 z_102
    obtain ⟨b__102, kB__102, rfl, Nq_102, K_102, gq_102_b, sq_102_b, Fq_102_0⟩ := hQ_102
    have N_102 := Fr.app N_21 Nq_102
    have Kp_104 : Keep h0 h_21 [] := (((((((Keep.refl h0 []).ext E_1).wr W_5 (Or.inr sz_1)).wr W_9 (Or.inr sz_1)).wr W_13 (Or.inr sz_1)).wr W_17 (Or.inr sz_1)).wr W_21 (Or.inr sz_1))
    have szq_102_b : h0.size ≤ b__102 := Nat.le_trans Kp_104.1 sq_102_b
    refine own_st st_102 ?_
    show own_Go _ _ _ _ (T_102.setTop (mkF m 87 #[iv p1, iv p2, iv p3, iv p4, iv p5, rv b_1, iv 4, .unset] [(.ref b__102)]))
    refine o_astore X_102 hx (hb hby at_87) rfl (l' := #[iv p1, iv p2, iv p3, iv p4, iv p5, rv b_1, iv 4, rv b__102]) rfl ?_
    refine o_aload X_102 hx (hb hby at_89) rfl rfl ?_
    obtain ⟨cl_105, Ar_105, qk_105, Sz_105, Ng_105, Hs_105, Gs_105⟩ := id Fq_102_0
    refine own_st (X_102.arraylength hx Ar_105.1 (State.isArrayOf_alike hZ.alike Ar_105.2.1) (g := (mkF m 91 #[iv p1, iv p2, iv p3, iv p4, iv p5, rv b_1, iv 4, rv b__102] [(.ref b__102)])) rfl rfl (hb hby at_91)) ?_
    rw [len_of Sz_105 Ng_105]
    show own_Go _ _ _ _ (T_102.setTop (mkF m 92 #[iv p1, iv p2, iv p3, iv p4, iv p5, rv b_1, iv 4, rv b__102] [(.int 4)]))
    refine o_iload X_102 hx (hb hby at_92) rfl ?_
    refine o_icmpYes X_102 hx (pc' := 99) (hb hby at_94) (teq (by decide : (4 : Int32) = (4 : Int32))).1 (by decide) (by decide) ?_
    refine o_iload X_102 hx (hb hby at_99) rfl ?_
    refine o_ifNo X_102 hx (hb hby at_101) (tlt (by decide : (0 : Int32) < (4 : Int32))).2.2.2 ?_
    refine o_aload X_102 hx (hb hby at_104) rfl rfl ?_
    refine o_iconst X_102 hx 0 (hb hby at_106) rfl ?_
    obtain ⟨cl_106, Ar_106, qk_106, Sz_106, Ng_106, Hs_106, Gs_106⟩ := id Fq_102_0
    refine own_st (X_102.iaload hx (j := (0 : Int32)) (v := (.int (own_ref1 (own_pick p1 p2 p3 p4) (own_pick p1 p2 p3 ((p4.toUInt32 >>> ((2 : Int32) &&& 31).toUInt32).toInt32)) (own_pick p1 p2 p3 ((p4.toUInt32 >>> ((4 : Int32) &&& 31).toUInt32).toInt32)) (own_pick p1 p2 p3 ((p4.toUInt32 >>> ((6 : Int32) &&& 31).toUInt32).toInt32)) (own_pick p1 p2 p3 ((p4.toUInt32 >>> ((8 : Int32) &&& 31).toUInt32).toInt32))))) Ar_106.1 (State.isArrayOf_alike hZ.alike Ar_106.2.1) Ar_106.2.2 (inb_of Sz_106 ⟨by decide, by decide⟩) (Hs_106.at (j := (0 : Int32)) (inb_of Sz_106 ⟨by decide, by decide⟩) rfl) (g := (mkF m 107 #[iv p1, iv p2, iv p3, iv p4, iv p5, rv b_1, iv 4, rv b__102] [(.int 0), (.ref b__102)])) rfl rfl (hb hby at_107)) ?_
    show own_Go _ _ _ _ (T_102.setTop (mkF m 108 #[iv p1, iv p2, iv p3, iv p4, iv p5, rv b_1, iv 4, rv b__102] [(.int (own_ref1 (own_pick p1 p2 p3 p4) (own_pick p1 p2 p3 ((p4.toUInt32 >>> ((2 : Int32) &&& 31).toUInt32).toInt32)) (own_pick p1 p2 p3 ((p4.toUInt32 >>> ((4 : Int32) &&& 31).toUInt32).toInt32)) (own_pick p1 p2 p3 ((p4.toUInt32 >>> ((6 : Int32) &&& 31).toUInt32).toInt32)) (own_pick p1 p2 p3 ((p4.toUInt32 >>> ((8 : Int32) &&& 31).toUInt32).toInt32))))]))
    refine o_aload X_102 hx (hb hby at_108) rfl rfl ?_
    refine o_iconst X_102 hx 1 (hb hby at_110) rfl ?_
    have Fa_108 := (V_21.keep K_102 nin0)
    have Zs_109 : n0 ≤ T_102.heap.size := (Nat.le_trans Zs_103 K_102.1)
    obtain ⟨_, _, ⟨T_107, L_107, k_107, n_107⟩, -, X_107, ⟨Lc_107, hQ_107, l_107, y_107, z_107⟩, st_107⟩ := Jvm.LawKit.callS X_102 hx (y := (⟨"com/example/ordinance/ordinance/policy/PartFinderBordersPinLaw", "ref", "([II)I"⟩ : MethodName)) hown (mvT hZ (hw _ (List.mem_of_getElem? (i := 10) rfl))) (mvT hZ (hw _ (List.mem_of_getElem? (i := 11) rfl))) (mvT hZ (hw _ (List.mem_of_getElem? (i := 3) rfl))) (mvT hZ (hw _ (List.mem_of_getElem? (i := 12) rfl))) (by decide) (backOf (W := 1) (rmref1 l Z a0 hw [] b_1 k_1 (.int (0 : Int32)) (own_pick p1 p2 p3 p4) (own_pick p1 p2 p3 ((p4.toUInt32 >>> ((2 : Int32) &&& 31).toUInt32).toInt32)) (own_pick p1 p2 p3 ((p4.toUInt32 >>> ((4 : Int32) &&& 31).toUInt32).toInt32)) (own_pick p1 p2 p3 ((p4.toUInt32 >>> ((6 : Int32) &&& 31).toUInt32).toInt32)) (own_pick p1 p2 p3 ((p4.toUInt32 >>> ((8 : Int32) &&& 31).toUInt32).toInt32)) T_102.heap n0 Zs_109 Fa_108) hZ (hw _ (List.mem_of_getElem? (i := 12) rfl)) (hw _ (List.mem_of_getElem? (i := 3) rfl)) (by decide) (by decide)) (g := (mkF m 111 #[iv p1, iv p2, iv p3, iv p4, iv p5, rv b_1, iv 4, rv b__102] [(.int 1), (.ref b_1), (.int (own_ref1 (own_pick p1 p2 p3 p4) (own_pick p1 p2 p3 ((p4.toUInt32 >>> ((2 : Int32) &&& 31).toUInt32).toInt32)) (own_pick p1 p2 p3 ((p4.toUInt32 >>> ((4 : Int32) &&& 31).toUInt32).toInt32)) (own_pick p1 p2 p3 ((p4.toUInt32 >>> ((6 : Int32) &&& 31).toUInt32).toInt32)) (own_pick p1 p2 p3 ((p4.toUInt32 >>> ((8 : Int32) &&& 31).toUInt32).toInt32))))])) rfl (by rw [hml]; rfl) (argsL := [(.ref b_1), (.int 1)]) (rest := [(.int (own_ref1 (own_pick p1 p2 p3 p4) (own_pick p1 p2 p3 ((p4.toUInt32 >>> ((2 : Int32) &&& 31).toUInt32).toInt32)) (own_pick p1 p2 p3 ((p4.toUInt32 >>> ((4 : Int32) &&& 31).toUInt32).toInt32)) (own_pick p1 p2 p3 ((p4.toUInt32 >>> ((6 : Int32) &&& 31).toUInt32).toInt32)) (own_pick p1 p2 p3 ((p4.toUInt32 >>> ((8 : Int32) &&& 31).toUInt32).toInt32))))]) (lenOf pd_4 rfl) rfl (by show 2 * 0 + _ ≤ _; exact Nat.le_of_eq rfl) (hb hby at_111) (fun _ _ => ⟨rfl, rfl, (by decide : 2 + 0 ≤ _), (by decide : 9 + 0 ≤ _)⟩)
    dsimp only [Pt.U, Pt.locs, Pt.cells, Pt.slots] at X_107 l_107 y_107 z_107 st_107 hQ_107
    subst l_107 y_107 z_107
    obtain ⟨rfl, Nq_107, e_107⟩ := hQ_107
    have N_107 := Fr.app N_102 Nq_107
    refine own_st st_107 ?_
    show own_Go _ _ _ _ (T_107.setTop (mkF m 114 #[iv p1, iv p2, iv p3, iv p4, iv p5, rv b_1, iv 4, rv b__102] [(.int (own_ref1 (own_pick p1 p2 p3 p4) (own_pick p1 p2 p3 ((p4.toUInt32 >>> ((2 : Int32) &&& 31).toUInt32).toInt32)) (own_pick p1 p2 p3 ((p4.toUInt32 >>> ((4 : Int32) &&& 31).toUInt32).toInt32)) (own_pick p1 p2 p3 ((p4.toUInt32 >>> ((6 : Int32) &&& 31).toUInt32).toInt32)) (own_pick p1 p2 p3 ((p4.toUInt32 >>> ((8 : Int32) &&& 31).toUInt32).toInt32)))), (.int (own_ref1 (own_pick p1 p2 p3 p4) (own_pick p1 p2 p3 ((p4.toUInt32 >>> ((2 : Int32) &&& 31).toUInt32).toInt32)) (own_pick p1 p2 p3 ((p4.toUInt32 >>> ((4 : Int32) &&& 31).toUInt32).toInt32)) (own_pick p1 p2 p3 ((p4.toUInt32 >>> ((6 : Int32) &&& 31).toUInt32).toInt32)) (own_pick p1 p2 p3 ((p4.toUInt32 >>> ((8 : Int32) &&& 31).toUInt32).toInt32))))]))
    refine o_icmpYes X_107 hx (pc' := 119) (hb hby at_114) (teq (rfl : (own_ref1 (own_pick p1 p2 p3 p4) (own_pick p1 p2 p3 ((p4.toUInt32 >>> ((2 : Int32) &&& 31).toUInt32).toInt32)) (own_pick p1 p2 p3 ((p4.toUInt32 >>> ((4 : Int32) &&& 31).toUInt32).toInt32)) (own_pick p1 p2 p3 ((p4.toUInt32 >>> ((6 : Int32) &&& 31).toUInt32).toInt32)) (own_pick p1 p2 p3 ((p4.toUInt32 >>> ((8 : Int32) &&& 31).toUInt32).toInt32))) = (own_ref1 (own_pick p1 p2 p3 p4) (own_pick p1 p2 p3 ((p4.toUInt32 >>> ((2 : Int32) &&& 31).toUInt32).toInt32)) (own_pick p1 p2 p3 ((p4.toUInt32 >>> ((4 : Int32) &&& 31).toUInt32).toInt32)) (own_pick p1 p2 p3 ((p4.toUInt32 >>> ((6 : Int32) &&& 31).toUInt32).toInt32)) (own_pick p1 p2 p3 ((p4.toUInt32 >>> ((8 : Int32) &&& 31).toUInt32).toInt32))))).1 (by decide) (by decide) ?_
    refine o_iload X_107 hx (hb hby at_119) rfl ?_
    refine o_iconst X_107 hx 1 (hb hby at_121) rfl ?_
    refine o_icmpNo X_107 hx (hb hby at_122) (tlt (by decide : (1 : Int32) < (4 : Int32))).2.2.2 ?_
    refine o_aload X_107 hx (hb hby at_125) rfl rfl ?_
    refine o_iconst X_107 hx 1 (hb hby at_127) rfl ?_
    obtain ⟨cl_110, Ar_110, qk_110, Sz_110, Ng_110, Hs_110, Gs_110⟩ := id Fq_102_0
    refine own_st (X_107.iaload hx (j := (1 : Int32)) (v := (.int (own_ref2 (own_pick p1 p2 p3 p4) (own_pick p1 p2 p3 ((p4.toUInt32 >>> ((2 : Int32) &&& 31).toUInt32).toInt32)) (own_pick p1 p2 p3 ((p4.toUInt32 >>> ((4 : Int32) &&& 31).toUInt32).toInt32)) (own_pick p1 p2 p3 ((p4.toUInt32 >>> ((6 : Int32) &&& 31).toUInt32).toInt32)) (own_pick p1 p2 p3 ((p4.toUInt32 >>> ((8 : Int32) &&& 31).toUInt32).toInt32))))) (by rw [e_107]; exact Ar_110.1) (State.isArrayOf_alike hZ.alike Ar_110.2.1) Ar_110.2.2 (inb_of Sz_110 ⟨by decide, by decide⟩) (Hs_110.at (j := (1 : Int32)) (inb_of Sz_110 ⟨by decide, by decide⟩) rfl) (g := (mkF m 128 #[iv p1, iv p2, iv p3, iv p4, iv p5, rv b_1, iv 4, rv b__102] [(.int 1), (.ref b__102)])) rfl rfl (hb hby at_128)) ?_
    show own_Go _ _ _ _ (T_107.setTop (mkF m 129 #[iv p1, iv p2, iv p3, iv p4, iv p5, rv b_1, iv 4, rv b__102] [(.int (own_ref2 (own_pick p1 p2 p3 p4) (own_pick p1 p2 p3 ((p4.toUInt32 >>> ((2 : Int32) &&& 31).toUInt32).toInt32)) (own_pick p1 p2 p3 ((p4.toUInt32 >>> ((4 : Int32) &&& 31).toUInt32).toInt32)) (own_pick p1 p2 p3 ((p4.toUInt32 >>> ((6 : Int32) &&& 31).toUInt32).toInt32)) (own_pick p1 p2 p3 ((p4.toUInt32 >>> ((8 : Int32) &&& 31).toUInt32).toInt32))))]))
    refine o_aload X_107 hx (hb hby at_129) rfl rfl ?_
    refine o_iconst X_107 hx 2 (hb hby at_131) rfl ?_
    obtain ⟨_, _, ⟨T_111, L_111, k_111, n_111⟩, -, X_111, ⟨Lc_111, hQ_111, l_111, y_111, z_111⟩, st_111⟩ := Jvm.LawKit.callS X_107 hx (y := (⟨"com/example/ordinance/ordinance/policy/PartFinderBordersPinLaw", "ref", "([II)I"⟩ : MethodName)) hown (mvT hZ (hw _ (List.mem_of_getElem? (i := 10) rfl))) (mvT hZ (hw _ (List.mem_of_getElem? (i := 11) rfl))) (mvT hZ (hw _ (List.mem_of_getElem? (i := 3) rfl))) (mvT hZ (hw _ (List.mem_of_getElem? (i := 12) rfl))) (by decide) (backOf (W := 1) (rmref2 l Z a0 hw [] b_1 k_1 (.int (0 : Int32)) (own_pick p1 p2 p3 p4) (own_pick p1 p2 p3 ((p4.toUInt32 >>> ((2 : Int32) &&& 31).toUInt32).toInt32)) (own_pick p1 p2 p3 ((p4.toUInt32 >>> ((4 : Int32) &&& 31).toUInt32).toInt32)) (own_pick p1 p2 p3 ((p4.toUInt32 >>> ((6 : Int32) &&& 31).toUInt32).toInt32)) (own_pick p1 p2 p3 ((p4.toUInt32 >>> ((8 : Int32) &&& 31).toUInt32).toInt32)) T_102.heap n0 Zs_109 Fa_108) hZ (hw _ (List.mem_of_getElem? (i := 12) rfl)) (hw _ (List.mem_of_getElem? (i := 3) rfl)) (by decide) (by decide)) (g := (mkF m 132 #[iv p1, iv p2, iv p3, iv p4, iv p5, rv b_1, iv 4, rv b__102] [(.int 2), (.ref b_1), (.int (own_ref2 (own_pick p1 p2 p3 p4) (own_pick p1 p2 p3 ((p4.toUInt32 >>> ((2 : Int32) &&& 31).toUInt32).toInt32)) (own_pick p1 p2 p3 ((p4.toUInt32 >>> ((4 : Int32) &&& 31).toUInt32).toInt32)) (own_pick p1 p2 p3 ((p4.toUInt32 >>> ((6 : Int32) &&& 31).toUInt32).toInt32)) (own_pick p1 p2 p3 ((p4.toUInt32 >>> ((8 : Int32) &&& 31).toUInt32).toInt32))))])) rfl (by rw [hml]; rfl) (argsL := [(.ref b_1), (.int 2)]) (rest := [(.int (own_ref2 (own_pick p1 p2 p3 p4) (own_pick p1 p2 p3 ((p4.toUInt32 >>> ((2 : Int32) &&& 31).toUInt32).toInt32)) (own_pick p1 p2 p3 ((p4.toUInt32 >>> ((4 : Int32) &&& 31).toUInt32).toInt32)) (own_pick p1 p2 p3 ((p4.toUInt32 >>> ((6 : Int32) &&& 31).toUInt32).toInt32)) (own_pick p1 p2 p3 ((p4.toUInt32 >>> ((8 : Int32) &&& 31).toUInt32).toInt32))))]) (lenOf pd_4 rfl) rfl (by show 2 * 0 + _ ≤ _; exact Nat.le_of_eq rfl) (hb hby at_132) (fun _ _ => ⟨rfl, e_107, (by decide : 2 + 0 ≤ _), (by decide : 9 + 0 ≤ _)⟩)
    dsimp only [Pt.U, Pt.locs, Pt.cells, Pt.slots] at X_111 l_111 y_111 z_111 st_111 hQ_111
    subst l_111 y_111 z_111
    obtain ⟨rfl, Nq_111, e_111⟩ := hQ_111
    have N_111 := Fr.app N_107 Nq_111
    refine own_st st_111 ?_
    show own_Go _ _ _ _ (T_111.setTop (mkF m 135 #[iv p1, iv p2, iv p3, iv p4, iv p5, rv b_1, iv 4, rv b__102] [(.int (own_ref2 (own_pick p1 p2 p3 p4) (own_pick p1 p2 p3 ((p4.toUInt32 >>> ((2 : Int32) &&& 31).toUInt32).toInt32)) (own_pick p1 p2 p3 ((p4.toUInt32 >>> ((4 : Int32) &&& 31).toUInt32).toInt32)) (own_pick p1 p2 p3 ((p4.toUInt32 >>> ((6 : Int32) &&& 31).toUInt32).toInt32)) (own_pick p1 p2 p3 ((p4.toUInt32 >>> ((8 : Int32) &&& 31).toUInt32).toInt32)))), (.int (own_ref2 (own_pick p1 p2 p3 p4) (own_pick p1 p2 p3 ((p4.toUInt32 >>> ((2 : Int32) &&& 31).toUInt32).toInt32)) (own_pick p1 p2 p3 ((p4.toUInt32 >>> ((4 : Int32) &&& 31).toUInt32).toInt32)) (own_pick p1 p2 p3 ((p4.toUInt32 >>> ((6 : Int32) &&& 31).toUInt32).toInt32)) (own_pick p1 p2 p3 ((p4.toUInt32 >>> ((8 : Int32) &&& 31).toUInt32).toInt32))))]))
    refine o_icmpYes X_111 hx (pc' := 140) (hb hby at_135) (teq (rfl : (own_ref2 (own_pick p1 p2 p3 p4) (own_pick p1 p2 p3 ((p4.toUInt32 >>> ((2 : Int32) &&& 31).toUInt32).toInt32)) (own_pick p1 p2 p3 ((p4.toUInt32 >>> ((4 : Int32) &&& 31).toUInt32).toInt32)) (own_pick p1 p2 p3 ((p4.toUInt32 >>> ((6 : Int32) &&& 31).toUInt32).toInt32)) (own_pick p1 p2 p3 ((p4.toUInt32 >>> ((8 : Int32) &&& 31).toUInt32).toInt32))) = (own_ref2 (own_pick p1 p2 p3 p4) (own_pick p1 p2 p3 ((p4.toUInt32 >>> ((2 : Int32) &&& 31).toUInt32).toInt32)) (own_pick p1 p2 p3 ((p4.toUInt32 >>> ((4 : Int32) &&& 31).toUInt32).toInt32)) (own_pick p1 p2 p3 ((p4.toUInt32 >>> ((6 : Int32) &&& 31).toUInt32).toInt32)) (own_pick p1 p2 p3 ((p4.toUInt32 >>> ((8 : Int32) &&& 31).toUInt32).toInt32))))).1 (by decide) (by decide) ?_
    refine o_iload X_111 hx (hb hby at_140) rfl ?_
    refine o_iconst X_111 hx 2 (hb hby at_142) rfl ?_
    refine o_icmpNo X_111 hx (hb hby at_143) (tlt (by decide : (2 : Int32) < (4 : Int32))).2.2.2 ?_
    refine o_aload X_111 hx (hb hby at_146) rfl rfl ?_
    refine o_iconst X_111 hx 2 (hb hby at_148) rfl ?_
    obtain ⟨cl_112, Ar_112, qk_112, Sz_112, Ng_112, Hs_112, Gs_112⟩ := id Fq_102_0
    refine own_st (X_111.iaload hx (j := (2 : Int32)) (v := (.int (own_ref3 (own_pick p1 p2 p3 p4) (own_pick p1 p2 p3 ((p4.toUInt32 >>> ((2 : Int32) &&& 31).toUInt32).toInt32)) (own_pick p1 p2 p3 ((p4.toUInt32 >>> ((4 : Int32) &&& 31).toUInt32).toInt32)) (own_pick p1 p2 p3 ((p4.toUInt32 >>> ((6 : Int32) &&& 31).toUInt32).toInt32)) (own_pick p1 p2 p3 ((p4.toUInt32 >>> ((8 : Int32) &&& 31).toUInt32).toInt32))))) (by rw [e_111]; exact Ar_112.1) (State.isArrayOf_alike hZ.alike Ar_112.2.1) Ar_112.2.2 (inb_of Sz_112 ⟨by decide, by decide⟩) (Hs_112.at (j := (2 : Int32)) (inb_of Sz_112 ⟨by decide, by decide⟩) rfl) (g := (mkF m 149 #[iv p1, iv p2, iv p3, iv p4, iv p5, rv b_1, iv 4, rv b__102] [(.int 2), (.ref b__102)])) rfl rfl (hb hby at_149)) ?_
    show own_Go _ _ _ _ (T_111.setTop (mkF m 150 #[iv p1, iv p2, iv p3, iv p4, iv p5, rv b_1, iv 4, rv b__102] [(.int (own_ref3 (own_pick p1 p2 p3 p4) (own_pick p1 p2 p3 ((p4.toUInt32 >>> ((2 : Int32) &&& 31).toUInt32).toInt32)) (own_pick p1 p2 p3 ((p4.toUInt32 >>> ((4 : Int32) &&& 31).toUInt32).toInt32)) (own_pick p1 p2 p3 ((p4.toUInt32 >>> ((6 : Int32) &&& 31).toUInt32).toInt32)) (own_pick p1 p2 p3 ((p4.toUInt32 >>> ((8 : Int32) &&& 31).toUInt32).toInt32))))]))
    refine o_aload X_111 hx (hb hby at_150) rfl rfl ?_
    refine o_iconst X_111 hx 3 (hb hby at_152) rfl ?_
    obtain ⟨_, _, ⟨T_113, L_113, k_113, n_113⟩, -, X_113, ⟨Lc_113, hQ_113, l_113, y_113, z_113⟩, st_113⟩ := Jvm.LawKit.callS X_111 hx (y := (⟨"com/example/ordinance/ordinance/policy/PartFinderBordersPinLaw", "ref", "([II)I"⟩ : MethodName)) hown (mvT hZ (hw _ (List.mem_of_getElem? (i := 10) rfl))) (mvT hZ (hw _ (List.mem_of_getElem? (i := 11) rfl))) (mvT hZ (hw _ (List.mem_of_getElem? (i := 3) rfl))) (mvT hZ (hw _ (List.mem_of_getElem? (i := 12) rfl))) (by decide) (backOf (W := 1) (rmref3 l Z a0 hw [] b_1 k_1 (.int (0 : Int32)) (own_pick p1 p2 p3 p4) (own_pick p1 p2 p3 ((p4.toUInt32 >>> ((2 : Int32) &&& 31).toUInt32).toInt32)) (own_pick p1 p2 p3 ((p4.toUInt32 >>> ((4 : Int32) &&& 31).toUInt32).toInt32)) (own_pick p1 p2 p3 ((p4.toUInt32 >>> ((6 : Int32) &&& 31).toUInt32).toInt32)) (own_pick p1 p2 p3 ((p4.toUInt32 >>> ((8 : Int32) &&& 31).toUInt32).toInt32)) T_102.heap n0 Zs_109 Fa_108) hZ (hw _ (List.mem_of_getElem? (i := 12) rfl)) (hw _ (List.mem_of_getElem? (i := 3) rfl)) (by decide) (by decide)) (g := (mkF m 153 #[iv p1, iv p2, iv p3, iv p4, iv p5, rv b_1, iv 4, rv b__102] [(.int 3), (.ref b_1), (.int (own_ref3 (own_pick p1 p2 p3 p4) (own_pick p1 p2 p3 ((p4.toUInt32 >>> ((2 : Int32) &&& 31).toUInt32).toInt32)) (own_pick p1 p2 p3 ((p4.toUInt32 >>> ((4 : Int32) &&& 31).toUInt32).toInt32)) (own_pick p1 p2 p3 ((p4.toUInt32 >>> ((6 : Int32) &&& 31).toUInt32).toInt32)) (own_pick p1 p2 p3 ((p4.toUInt32 >>> ((8 : Int32) &&& 31).toUInt32).toInt32))))])) rfl (by rw [hml]; rfl) (argsL := [(.ref b_1), (.int 3)]) (rest := [(.int (own_ref3 (own_pick p1 p2 p3 p4) (own_pick p1 p2 p3 ((p4.toUInt32 >>> ((2 : Int32) &&& 31).toUInt32).toInt32)) (own_pick p1 p2 p3 ((p4.toUInt32 >>> ((4 : Int32) &&& 31).toUInt32).toInt32)) (own_pick p1 p2 p3 ((p4.toUInt32 >>> ((6 : Int32) &&& 31).toUInt32).toInt32)) (own_pick p1 p2 p3 ((p4.toUInt32 >>> ((8 : Int32) &&& 31).toUInt32).toInt32))))]) (lenOf pd_4 rfl) rfl (by show 2 * 0 + _ ≤ _; exact Nat.le_of_eq rfl) (hb hby at_153) (fun _ _ => ⟨rfl, e_111, (by decide : 2 + 0 ≤ _), (by decide : 9 + 0 ≤ _)⟩)
    dsimp only [Pt.U, Pt.locs, Pt.cells, Pt.slots] at X_113 l_113 y_113 z_113 st_113 hQ_113
    subst l_113 y_113 z_113
    obtain ⟨rfl, Nq_113, e_113⟩ := hQ_113
    have N_113 := Fr.app N_111 Nq_113
    refine own_st st_113 ?_
    show own_Go _ _ _ _ (T_113.setTop (mkF m 156 #[iv p1, iv p2, iv p3, iv p4, iv p5, rv b_1, iv 4, rv b__102] [(.int (own_ref3 (own_pick p1 p2 p3 p4) (own_pick p1 p2 p3 ((p4.toUInt32 >>> ((2 : Int32) &&& 31).toUInt32).toInt32)) (own_pick p1 p2 p3 ((p4.toUInt32 >>> ((4 : Int32) &&& 31).toUInt32).toInt32)) (own_pick p1 p2 p3 ((p4.toUInt32 >>> ((6 : Int32) &&& 31).toUInt32).toInt32)) (own_pick p1 p2 p3 ((p4.toUInt32 >>> ((8 : Int32) &&& 31).toUInt32).toInt32)))), (.int (own_ref3 (own_pick p1 p2 p3 p4) (own_pick p1 p2 p3 ((p4.toUInt32 >>> ((2 : Int32) &&& 31).toUInt32).toInt32)) (own_pick p1 p2 p3 ((p4.toUInt32 >>> ((4 : Int32) &&& 31).toUInt32).toInt32)) (own_pick p1 p2 p3 ((p4.toUInt32 >>> ((6 : Int32) &&& 31).toUInt32).toInt32)) (own_pick p1 p2 p3 ((p4.toUInt32 >>> ((8 : Int32) &&& 31).toUInt32).toInt32))))]))
    refine o_icmpYes X_113 hx (pc' := 161) (hb hby at_156) (teq (rfl : (own_ref3 (own_pick p1 p2 p3 p4) (own_pick p1 p2 p3 ((p4.toUInt32 >>> ((2 : Int32) &&& 31).toUInt32).toInt32)) (own_pick p1 p2 p3 ((p4.toUInt32 >>> ((4 : Int32) &&& 31).toUInt32).toInt32)) (own_pick p1 p2 p3 ((p4.toUInt32 >>> ((6 : Int32) &&& 31).toUInt32).toInt32)) (own_pick p1 p2 p3 ((p4.toUInt32 >>> ((8 : Int32) &&& 31).toUInt32).toInt32))) = (own_ref3 (own_pick p1 p2 p3 p4) (own_pick p1 p2 p3 ((p4.toUInt32 >>> ((2 : Int32) &&& 31).toUInt32).toInt32)) (own_pick p1 p2 p3 ((p4.toUInt32 >>> ((4 : Int32) &&& 31).toUInt32).toInt32)) (own_pick p1 p2 p3 ((p4.toUInt32 >>> ((6 : Int32) &&& 31).toUInt32).toInt32)) (own_pick p1 p2 p3 ((p4.toUInt32 >>> ((8 : Int32) &&& 31).toUInt32).toInt32))))).1 (by decide) (by decide) ?_
    refine o_iload X_113 hx (hb hby at_161) rfl ?_
    refine o_iconst X_113 hx 3 (hb hby at_163) rfl ?_
    refine o_icmpNo X_113 hx (hb hby at_164) (tlt (by decide : (3 : Int32) < (4 : Int32))).2.2.2 ?_
    refine o_aload X_113 hx (hb hby at_167) rfl rfl ?_
    refine o_iconst X_113 hx 3 (hb hby at_169) rfl ?_
    obtain ⟨cl_114, Ar_114, qk_114, Sz_114, Ng_114, Hs_114, Gs_114⟩ := id Fq_102_0
    refine own_st (X_113.iaload hx (j := (3 : Int32)) (v := (.int (own_ref4 (own_pick p1 p2 p3 p4) (own_pick p1 p2 p3 ((p4.toUInt32 >>> ((2 : Int32) &&& 31).toUInt32).toInt32)) (own_pick p1 p2 p3 ((p4.toUInt32 >>> ((4 : Int32) &&& 31).toUInt32).toInt32)) (own_pick p1 p2 p3 ((p4.toUInt32 >>> ((6 : Int32) &&& 31).toUInt32).toInt32)) (own_pick p1 p2 p3 ((p4.toUInt32 >>> ((8 : Int32) &&& 31).toUInt32).toInt32))))) (by rw [e_113]; exact Ar_114.1) (State.isArrayOf_alike hZ.alike Ar_114.2.1) Ar_114.2.2 (inb_of Sz_114 ⟨by decide, by decide⟩) (Hs_114.at (j := (3 : Int32)) (inb_of Sz_114 ⟨by decide, by decide⟩) rfl) (g := (mkF m 170 #[iv p1, iv p2, iv p3, iv p4, iv p5, rv b_1, iv 4, rv b__102] [(.int 3), (.ref b__102)])) rfl rfl (hb hby at_170)) ?_
    show own_Go _ _ _ _ (T_113.setTop (mkF m 171 #[iv p1, iv p2, iv p3, iv p4, iv p5, rv b_1, iv 4, rv b__102] [(.int (own_ref4 (own_pick p1 p2 p3 p4) (own_pick p1 p2 p3 ((p4.toUInt32 >>> ((2 : Int32) &&& 31).toUInt32).toInt32)) (own_pick p1 p2 p3 ((p4.toUInt32 >>> ((4 : Int32) &&& 31).toUInt32).toInt32)) (own_pick p1 p2 p3 ((p4.toUInt32 >>> ((6 : Int32) &&& 31).toUInt32).toInt32)) (own_pick p1 p2 p3 ((p4.toUInt32 >>> ((8 : Int32) &&& 31).toUInt32).toInt32))))]))
    refine o_aload X_113 hx (hb hby at_171) rfl rfl ?_
    refine o_iconst X_113 hx 4 (hb hby at_173) rfl ?_
    obtain ⟨_, _, ⟨T_115, L_115, k_115, n_115⟩, -, X_115, ⟨Lc_115, hQ_115, l_115, y_115, z_115⟩, st_115⟩ := Jvm.LawKit.callS X_113 hx (y := (⟨"com/example/ordinance/ordinance/policy/PartFinderBordersPinLaw", "ref", "([II)I"⟩ : MethodName)) hown (mvT hZ (hw _ (List.mem_of_getElem? (i := 10) rfl))) (mvT hZ (hw _ (List.mem_of_getElem? (i := 11) rfl))) (mvT hZ (hw _ (List.mem_of_getElem? (i := 3) rfl))) (mvT hZ (hw _ (List.mem_of_getElem? (i := 12) rfl))) (by decide) (backOf (W := 1) (rmref4 l Z a0 hw [] b_1 k_1 (.int (0 : Int32)) (own_pick p1 p2 p3 p4) (own_pick p1 p2 p3 ((p4.toUInt32 >>> ((2 : Int32) &&& 31).toUInt32).toInt32)) (own_pick p1 p2 p3 ((p4.toUInt32 >>> ((4 : Int32) &&& 31).toUInt32).toInt32)) (own_pick p1 p2 p3 ((p4.toUInt32 >>> ((6 : Int32) &&& 31).toUInt32).toInt32)) (own_pick p1 p2 p3 ((p4.toUInt32 >>> ((8 : Int32) &&& 31).toUInt32).toInt32)) T_102.heap n0 Zs_109 Fa_108) hZ (hw _ (List.mem_of_getElem? (i := 12) rfl)) (hw _ (List.mem_of_getElem? (i := 3) rfl)) (by decide) (by decide)) (g := (mkF m 174 #[iv p1, iv p2, iv p3, iv p4, iv p5, rv b_1, iv 4, rv b__102] [(.int 4), (.ref b_1), (.int (own_ref4 (own_pick p1 p2 p3 p4) (own_pick p1 p2 p3 ((p4.toUInt32 >>> ((2 : Int32) &&& 31).toUInt32).toInt32)) (own_pick p1 p2 p3 ((p4.toUInt32 >>> ((4 : Int32) &&& 31).toUInt32).toInt32)) (own_pick p1 p2 p3 ((p4.toUInt32 >>> ((6 : Int32) &&& 31).toUInt32).toInt32)) (own_pick p1 p2 p3 ((p4.toUInt32 >>> ((8 : Int32) &&& 31).toUInt32).toInt32))))])) rfl (by rw [hml]; rfl) (argsL := [(.ref b_1), (.int 4)]) (rest := [(.int (own_ref4 (own_pick p1 p2 p3 p4) (own_pick p1 p2 p3 ((p4.toUInt32 >>> ((2 : Int32) &&& 31).toUInt32).toInt32)) (own_pick p1 p2 p3 ((p4.toUInt32 >>> ((4 : Int32) &&& 31).toUInt32).toInt32)) (own_pick p1 p2 p3 ((p4.toUInt32 >>> ((6 : Int32) &&& 31).toUInt32).toInt32)) (own_pick p1 p2 p3 ((p4.toUInt32 >>> ((8 : Int32) &&& 31).toUInt32).toInt32))))]) (lenOf pd_4 rfl) rfl (by show 2 * 0 + _ ≤ _; exact Nat.le_of_eq rfl) (hb hby at_174) (fun _ _ => ⟨rfl, e_113, (by decide : 2 + 0 ≤ _), (by decide : 9 + 0 ≤ _)⟩)
    dsimp only [Pt.U, Pt.locs, Pt.cells, Pt.slots] at X_115 l_115 y_115 z_115 st_115 hQ_115
    subst l_115 y_115 z_115
    obtain ⟨rfl, Nq_115, e_115⟩ := hQ_115
    have N_115 := Fr.app N_113 Nq_115
    refine own_st st_115 ?_
    show own_Go _ _ _ _ (T_115.setTop (mkF m 177 #[iv p1, iv p2, iv p3, iv p4, iv p5, rv b_1, iv 4, rv b__102] [(.int (own_ref4 (own_pick p1 p2 p3 p4) (own_pick p1 p2 p3 ((p4.toUInt32 >>> ((2 : Int32) &&& 31).toUInt32).toInt32)) (own_pick p1 p2 p3 ((p4.toUInt32 >>> ((4 : Int32) &&& 31).toUInt32).toInt32)) (own_pick p1 p2 p3 ((p4.toUInt32 >>> ((6 : Int32) &&& 31).toUInt32).toInt32)) (own_pick p1 p2 p3 ((p4.toUInt32 >>> ((8 : Int32) &&& 31).toUInt32).toInt32)))), (.int (own_ref4 (own_pick p1 p2 p3 p4) (own_pick p1 p2 p3 ((p4.toUInt32 >>> ((2 : Int32) &&& 31).toUInt32).toInt32)) (own_pick p1 p2 p3 ((p4.toUInt32 >>> ((4 : Int32) &&& 31).toUInt32).toInt32)) (own_pick p1 p2 p3 ((p4.toUInt32 >>> ((6 : Int32) &&& 31).toUInt32).toInt32)) (own_pick p1 p2 p3 ((p4.toUInt32 >>> ((8 : Int32) &&& 31).toUInt32).toInt32))))]))
    refine o_icmpYes X_115 hx (pc' := 182) (hb hby at_177) (teq (rfl : (own_ref4 (own_pick p1 p2 p3 p4) (own_pick p1 p2 p3 ((p4.toUInt32 >>> ((2 : Int32) &&& 31).toUInt32).toInt32)) (own_pick p1 p2 p3 ((p4.toUInt32 >>> ((4 : Int32) &&& 31).toUInt32).toInt32)) (own_pick p1 p2 p3 ((p4.toUInt32 >>> ((6 : Int32) &&& 31).toUInt32).toInt32)) (own_pick p1 p2 p3 ((p4.toUInt32 >>> ((8 : Int32) &&& 31).toUInt32).toInt32))) = (own_ref4 (own_pick p1 p2 p3 p4) (own_pick p1 p2 p3 ((p4.toUInt32 >>> ((2 : Int32) &&& 31).toUInt32).toInt32)) (own_pick p1 p2 p3 ((p4.toUInt32 >>> ((4 : Int32) &&& 31).toUInt32).toInt32)) (own_pick p1 p2 p3 ((p4.toUInt32 >>> ((6 : Int32) &&& 31).toUInt32).toInt32)) (own_pick p1 p2 p3 ((p4.toUInt32 >>> ((8 : Int32) &&& 31).toUInt32).toInt32))))).1 (by decide) (by decide) ?_
    refine o_iload X_115 hx (hb hby at_182) rfl ?_
    refine o_iconst X_115 hx 4 (hb hby at_184) rfl ?_
    refine o_icmpYes X_115 hx (pc' := 203) (hb hby at_185) (flt (by decide : ¬ ((4 : Int32) < (4 : Int32)))).2.2.2 (by decide) (by decide) ?_
    refine o_aload X_115 hx (hb hby at_203) rfl rfl ?_
    refine o_iconst X_115 hx 0 (hb hby at_205) rfl ?_
    obtain ⟨cl_116, Ar_116, qk_116, Sz_116, Ng_116, Hs_116, Gs_116⟩ := id Fa_108
    refine own_st (X_115.iaload hx (j := (0 : Int32)) (v := (.int (own_pick p1 p2 p3 p4))) (by rw [e_115]; exact Ar_116.1) (State.isArrayOf_alike hZ.alike Ar_116.2.1) Ar_116.2.2 (inb_of Sz_116 ⟨by decide, by decide⟩) (Hs_116.at (j := (0 : Int32)) (inb_of Sz_116 ⟨by decide, by decide⟩) rfl) (g := (mkF m 206 #[iv p1, iv p2, iv p3, iv p4, iv p5, rv b_1, iv 4, rv b__102] [(.int 0), (.ref b_1)])) rfl rfl (hb hby at_206)) ?_
    show own_Go _ _ _ _ (T_115.setTop (mkF m 207 #[iv p1, iv p2, iv p3, iv p4, iv p5, rv b_1, iv 4, rv b__102] [(.int (own_pick p1 p2 p3 p4))]))
    refine o_iloadN X_115 hx (hb hby at_207) rfl ?_
    refine o_iloadN X_115 hx (hb hby at_208) rfl ?_
    refine o_iloadN X_115 hx (hb hby at_209) rfl ?_
    refine o_iloadN X_115 hx (hb hby at_210) rfl ?_
    obtain ⟨_, _, ⟨T_117, L_117, k_117, n_117⟩, -, X_117, ⟨Lc_117, hQ_117, l_117, y_117, z_117⟩, st_117⟩ := Jvm.LawKit.callS X_115 hx (y := (⟨"com/example/ordinance/ordinance/policy/PartFinderBordersPinLaw", "pick", "(IIII)I"⟩ : MethodName)) hown (mvT hZ (hw _ (List.mem_of_getElem? (i := 1) rfl))) (mvT hZ (hw _ (List.mem_of_getElem? (i := 2) rfl))) (mvT hZ (hw _ (List.mem_of_getElem? (i := 3) rfl))) (mvT hZ (hw _ (List.mem_of_getElem? (i := 4) rfl))) (by decide) (backOf (W := 1) (rm1 l Z a0 hw [] p1 p2 p3 p4  T_102.heap n0 Zs_109) hZ (hw _ (List.mem_of_getElem? (i := 4) rfl)) (hw _ (List.mem_of_getElem? (i := 3) rfl)) (by decide) (by decide)) (g := (mkF m 211 #[iv p1, iv p2, iv p3, iv p4, iv p5, rv b_1, iv 4, rv b__102] [(.int p4), (.int p3), (.int p2), (.int p1), (.int (own_pick p1 p2 p3 p4))])) rfl (by rw [hml]; rfl) (argsL := [(.int p1), (.int p2), (.int p3), (.int p4)]) (rest := [(.int (own_pick p1 p2 p3 p4))]) (lenOf pd_2 rfl) rfl (by show 2 * 0 + _ ≤ _; exact Nat.le_of_eq rfl) (hb hby at_211) (fun _ _ => ⟨rfl, e_115, (by decide : 2 + 0 ≤ _), (by decide : 9 + 0 ≤ _)⟩)
    dsimp only [Pt.U, Pt.locs, Pt.cells, Pt.slots] at X_117 l_117 y_117 z_117 st_117 hQ_117
    subst l_117 y_117 z_117
    obtain ⟨rfl, Nq_117, e_117⟩ := hQ_117
    have N_117 := Fr.app N_115 Nq_117
    refine own_st st_117 ?_
    show own_Go _ _ _ _ (T_117.setTop (mkF m 214 #[iv p1, iv p2, iv p3, iv p4, iv p5, rv b_1, iv 4, rv b__102] [(.int (own_pick p1 p2 p3 p4)), (.int (own_pick p1 p2 p3 p4))]))
    refine o_icmpNo X_117 hx (hb hby at_214) (teq (rfl : (own_pick p1 p2 p3 p4) = (own_pick p1 p2 p3 p4))).2 ?_
    refine o_aload X_117 hx (hb hby at_217) rfl rfl ?_
    refine o_iconst X_117 hx 1 (hb hby at_219) rfl ?_
    obtain ⟨cl_118, Ar_118, qk_118, Sz_118, Ng_118, Hs_118, Gs_118⟩ := id Fa_108
    refine own_st (X_117.iaload hx (j := (1 : Int32)) (v := (.int (own_pick p1 p2 p3 ((p4.toUInt32 >>> ((2 : Int32) &&& 31).toUInt32).toInt32)))) (by rw [e_117]; exact Ar_118.1) (State.isArrayOf_alike hZ.alike Ar_118.2.1) Ar_118.2.2 (inb_of Sz_118 ⟨by decide, by decide⟩) (Hs_118.at (j := (1 : Int32)) (inb_of Sz_118 ⟨by decide, by decide⟩) rfl) (g := (mkF m 220 #[iv p1, iv p2, iv p3, iv p4, iv p5, rv b_1, iv 4, rv b__102] [(.int 1), (.ref b_1)])) rfl rfl (hb hby at_220)) ?_
    show own_Go _ _ _ _ (T_117.setTop (mkF m 221 #[iv p1, iv p2, iv p3, iv p4, iv p5, rv b_1, iv 4, rv b__102] [(.int (own_pick p1 p2 p3 ((p4.toUInt32 >>> ((2 : Int32) &&& 31).toUInt32).toInt32)))]))
    refine o_iloadN X_117 hx (hb hby at_221) rfl ?_
    refine o_iloadN X_117 hx (hb hby at_222) rfl ?_
    refine o_iloadN X_117 hx (hb hby at_223) rfl ?_
    refine o_iloadN X_117 hx (hb hby at_224) rfl ?_
    refine o_iconst X_117 hx 2 (hb hby at_225) rfl ?_
    refine o_iushr X_117 hx (hb hby at_226) ?_
    obtain ⟨_, _, ⟨T_119, L_119, k_119, n_119⟩, -, X_119, ⟨Lc_119, hQ_119, l_119, y_119, z_119⟩, st_119⟩ := Jvm.LawKit.callS X_117 hx (y := (⟨"com/example/ordinance/ordinance/policy/PartFinderBordersPinLaw", "pick", "(IIII)I"⟩ : MethodName)) hown (mvT hZ (hw _ (List.mem_of_getElem? (i := 1) rfl))) (mvT hZ (hw _ (List.mem_of_getElem? (i := 2) rfl))) (mvT hZ (hw _ (List.mem_of_getElem? (i := 3) rfl))) (mvT hZ (hw _ (List.mem_of_getElem? (i := 4) rfl))) (by decide) (backOf (W := 1) (rm1 l Z a0 hw [] p1 p2 p3 ((p4.toUInt32 >>> ((2 : Int32) &&& 31).toUInt32).toInt32)  T_102.heap n0 Zs_109) hZ (hw _ (List.mem_of_getElem? (i := 4) rfl)) (hw _ (List.mem_of_getElem? (i := 3) rfl)) (by decide) (by decide)) (g := (mkF m 227 #[iv p1, iv p2, iv p3, iv p4, iv p5, rv b_1, iv 4, rv b__102] [(.int ((p4.toUInt32 >>> ((2 : Int32) &&& 31).toUInt32).toInt32)), (.int p3), (.int p2), (.int p1), (.int (own_pick p1 p2 p3 ((p4.toUInt32 >>> ((2 : Int32) &&& 31).toUInt32).toInt32)))])) rfl (by rw [hml]; rfl) (argsL := [(.int p1), (.int p2), (.int p3), (.int ((p4.toUInt32 >>> ((2 : Int32) &&& 31).toUInt32).toInt32))]) (rest := [(.int (own_pick p1 p2 p3 ((p4.toUInt32 >>> ((2 : Int32) &&& 31).toUInt32).toInt32)))]) (lenOf pd_2 rfl) rfl (by show 2 * 0 + _ ≤ _; exact Nat.le_of_eq rfl) (hb hby at_227) (fun _ _ => ⟨rfl, e_117, (by decide : 2 + 0 ≤ _), (by decide : 9 + 0 ≤ _)⟩)
    dsimp only [Pt.U, Pt.locs, Pt.cells, Pt.slots] at X_119 l_119 y_119 z_119 st_119 hQ_119
    subst l_119 y_119 z_119
    obtain ⟨rfl, Nq_119, e_119⟩ := hQ_119
    have N_119 := Fr.app N_117 Nq_119
    refine own_st st_119 ?_
    show own_Go _ _ _ _ (T_119.setTop (mkF m 230 #[iv p1, iv p2, iv p3, iv p4, iv p5, rv b_1, iv 4, rv b__102] [(.int (own_pick p1 p2 p3 ((p4.toUInt32 >>> ((2 : Int32) &&& 31).toUInt32).toInt32))), (.int (own_pick p1 p2 p3 ((p4.toUInt32 >>> ((2 : Int32) &&& 31).toUInt32).toInt32)))]))
    refine o_icmpNo X_119 hx (hb hby at_230) (teq (rfl : (own_pick p1 p2 p3 ((p4.toUInt32 >>> ((2 : Int32) &&& 31).toUInt32).toInt32)) = (own_pick p1 p2 p3 ((p4.toUInt32 >>> ((2 : Int32) &&& 31).toUInt32).toInt32)))).2 ?_
    refine o_aload X_119 hx (hb hby at_233) rfl rfl ?_
    refine o_iconst X_119 hx 2 (hb hby at_235) rfl ?_
    obtain ⟨cl_120, Ar_120, qk_120, Sz_120, Ng_120, Hs_120, Gs_120⟩ := id Fa_108
    refine own_st (X_119.iaload hx (j := (2 : Int32)) (v := (.int (own_pick p1 p2 p3 ((p4.toUInt32 >>> ((4 : Int32) &&& 31).toUInt32).toInt32)))) (by rw [e_119]; exact Ar_120.1) (State.isArrayOf_alike hZ.alike Ar_120.2.1) Ar_120.2.2 (inb_of Sz_120 ⟨by decide, by decide⟩) (Hs_120.at (j := (2 : Int32)) (inb_of Sz_120 ⟨by decide, by decide⟩) rfl) (g := (mkF m 236 #[iv p1, iv p2, iv p3, iv p4, iv p5, rv b_1, iv 4, rv b__102] [(.int 2), (.ref b_1)])) rfl rfl (hb hby at_236)) ?_
    show own_Go _ _ _ _ (T_119.setTop (mkF m 237 #[iv p1, iv p2, iv p3, iv p4, iv p5, rv b_1, iv 4, rv b__102] [(.int (own_pick p1 p2 p3 ((p4.toUInt32 >>> ((4 : Int32) &&& 31).toUInt32).toInt32)))]))
    refine o_iloadN X_119 hx (hb hby at_237) rfl ?_
    refine o_iloadN X_119 hx (hb hby at_238) rfl ?_
    refine o_iloadN X_119 hx (hb hby at_239) rfl ?_
    refine o_iloadN X_119 hx (hb hby at_240) rfl ?_
    refine o_iconst X_119 hx 4 (hb hby at_241) rfl ?_
    refine o_iushr X_119 hx (hb hby at_242) ?_
    obtain ⟨_, _, ⟨T_121, L_121, k_121, n_121⟩, -, X_121, ⟨Lc_121, hQ_121, l_121, y_121, z_121⟩, st_121⟩ := Jvm.LawKit.callS X_119 hx (y := (⟨"com/example/ordinance/ordinance/policy/PartFinderBordersPinLaw", "pick", "(IIII)I"⟩ : MethodName)) hown (mvT hZ (hw _ (List.mem_of_getElem? (i := 1) rfl))) (mvT hZ (hw _ (List.mem_of_getElem? (i := 2) rfl))) (mvT hZ (hw _ (List.mem_of_getElem? (i := 3) rfl))) (mvT hZ (hw _ (List.mem_of_getElem? (i := 4) rfl))) (by decide) (backOf (W := 1) (rm1 l Z a0 hw [] p1 p2 p3 ((p4.toUInt32 >>> ((4 : Int32) &&& 31).toUInt32).toInt32)  T_102.heap n0 Zs_109) hZ (hw _ (List.mem_of_getElem? (i := 4) rfl)) (hw _ (List.mem_of_getElem? (i := 3) rfl)) (by decide) (by decide)) (g := (mkF m 243 #[iv p1, iv p2, iv p3, iv p4, iv p5, rv b_1, iv 4, rv b__102] [(.int ((p4.toUInt32 >>> ((4 : Int32) &&& 31).toUInt32).toInt32)), (.int p3), (.int p2), (.int p1), (.int (own_pick p1 p2 p3 ((p4.toUInt32 >>> ((4 : Int32) &&& 31).toUInt32).toInt32)))])) rfl (by rw [hml]; rfl) (argsL := [(.int p1), (.int p2), (.int p3), (.int ((p4.toUInt32 >>> ((4 : Int32) &&& 31).toUInt32).toInt32))]) (rest := [(.int (own_pick p1 p2 p3 ((p4.toUInt32 >>> ((4 : Int32) &&& 31).toUInt32).toInt32)))]) (lenOf pd_2 rfl) rfl (by show 2 * 0 + _ ≤ _; exact Nat.le_of_eq rfl) (hb hby at_243) (fun _ _ => ⟨rfl, e_119, (by decide : 2 + 0 ≤ _), (by decide : 9 + 0 ≤ _)⟩)
    dsimp only [Pt.U, Pt.locs, Pt.cells, Pt.slots] at X_121 l_121 y_121 z_121 st_121 hQ_121
    subst l_121 y_121 z_121
    obtain ⟨rfl, Nq_121, e_121⟩ := hQ_121
    have N_121 := Fr.app N_119 Nq_121
    refine own_st st_121 ?_
    show own_Go _ _ _ _ (T_121.setTop (mkF m 246 #[iv p1, iv p2, iv p3, iv p4, iv p5, rv b_1, iv 4, rv b__102] [(.int (own_pick p1 p2 p3 ((p4.toUInt32 >>> ((4 : Int32) &&& 31).toUInt32).toInt32))), (.int (own_pick p1 p2 p3 ((p4.toUInt32 >>> ((4 : Int32) &&& 31).toUInt32).toInt32)))]))
    refine o_icmpNo X_121 hx (hb hby at_246) (teq (rfl : (own_pick p1 p2 p3 ((p4.toUInt32 >>> ((4 : Int32) &&& 31).toUInt32).toInt32)) = (own_pick p1 p2 p3 ((p4.toUInt32 >>> ((4 : Int32) &&& 31).toUInt32).toInt32)))).2 ?_
    refine o_aload X_121 hx (hb hby at_249) rfl rfl ?_
    refine o_iconst X_121 hx 3 (hb hby at_251) rfl ?_
    obtain ⟨cl_122, Ar_122, qk_122, Sz_122, Ng_122, Hs_122, Gs_122⟩ := id Fa_108
    refine own_st (X_121.iaload hx (j := (3 : Int32)) (v := (.int (own_pick p1 p2 p3 ((p4.toUInt32 >>> ((6 : Int32) &&& 31).toUInt32).toInt32)))) (by rw [e_121]; exact Ar_122.1) (State.isArrayOf_alike hZ.alike Ar_122.2.1) Ar_122.2.2 (inb_of Sz_122 ⟨by decide, by decide⟩) (Hs_122.at (j := (3 : Int32)) (inb_of Sz_122 ⟨by decide, by decide⟩) rfl) (g := (mkF m 252 #[iv p1, iv p2, iv p3, iv p4, iv p5, rv b_1, iv 4, rv b__102] [(.int 3), (.ref b_1)])) rfl rfl (hb hby at_252)) ?_
    show own_Go _ _ _ _ (T_121.setTop (mkF m 253 #[iv p1, iv p2, iv p3, iv p4, iv p5, rv b_1, iv 4, rv b__102] [(.int (own_pick p1 p2 p3 ((p4.toUInt32 >>> ((6 : Int32) &&& 31).toUInt32).toInt32)))]))
    refine o_iloadN X_121 hx (hb hby at_253) rfl ?_
    refine o_iloadN X_121 hx (hb hby at_254) rfl ?_
    refine o_iloadN X_121 hx (hb hby at_255) rfl ?_
    refine o_iloadN X_121 hx (hb hby at_256) rfl ?_
    refine o_bipush X_121 hx 6 (hb hby at_257) rfl ?_
    refine o_iushr X_121 hx (hb hby at_259) ?_
    obtain ⟨_, _, ⟨T_123, L_123, k_123, n_123⟩, -, X_123, ⟨Lc_123, hQ_123, l_123, y_123, z_123⟩, st_123⟩ := Jvm.LawKit.callS X_121 hx (y := (⟨"com/example/ordinance/ordinance/policy/PartFinderBordersPinLaw", "pick", "(IIII)I"⟩ : MethodName)) hown (mvT hZ (hw _ (List.mem_of_getElem? (i := 1) rfl))) (mvT hZ (hw _ (List.mem_of_getElem? (i := 2) rfl))) (mvT hZ (hw _ (List.mem_of_getElem? (i := 3) rfl))) (mvT hZ (hw _ (List.mem_of_getElem? (i := 4) rfl))) (by decide) (backOf (W := 1) (rm1 l Z a0 hw [] p1 p2 p3 ((p4.toUInt32 >>> ((6 : Int32) &&& 31).toUInt32).toInt32)  T_102.heap n0 Zs_109) hZ (hw _ (List.mem_of_getElem? (i := 4) rfl)) (hw _ (List.mem_of_getElem? (i := 3) rfl)) (by decide) (by decide)) (g := (mkF m 260 #[iv p1, iv p2, iv p3, iv p4, iv p5, rv b_1, iv 4, rv b__102] [(.int ((p4.toUInt32 >>> ((6 : Int32) &&& 31).toUInt32).toInt32)), (.int p3), (.int p2), (.int p1), (.int (own_pick p1 p2 p3 ((p4.toUInt32 >>> ((6 : Int32) &&& 31).toUInt32).toInt32)))])) rfl (by rw [hml]; rfl) (argsL := [(.int p1), (.int p2), (.int p3), (.int ((p4.toUInt32 >>> ((6 : Int32) &&& 31).toUInt32).toInt32))]) (rest := [(.int (own_pick p1 p2 p3 ((p4.toUInt32 >>> ((6 : Int32) &&& 31).toUInt32).toInt32)))]) (lenOf pd_2 rfl) rfl (by show 2 * 0 + _ ≤ _; exact Nat.le_of_eq rfl) (hb hby at_260) (fun _ _ => ⟨rfl, e_121, (by decide : 2 + 0 ≤ _), (by decide : 9 + 0 ≤ _)⟩)
    dsimp only [Pt.U, Pt.locs, Pt.cells, Pt.slots] at X_123 l_123 y_123 z_123 st_123 hQ_123
    subst l_123 y_123 z_123
    obtain ⟨rfl, Nq_123, e_123⟩ := hQ_123
    have N_123 := Fr.app N_121 Nq_123
    refine own_st st_123 ?_
    show own_Go _ _ _ _ (T_123.setTop (mkF m 263 #[iv p1, iv p2, iv p3, iv p4, iv p5, rv b_1, iv 4, rv b__102] [(.int (own_pick p1 p2 p3 ((p4.toUInt32 >>> ((6 : Int32) &&& 31).toUInt32).toInt32))), (.int (own_pick p1 p2 p3 ((p4.toUInt32 >>> ((6 : Int32) &&& 31).toUInt32).toInt32)))]))
    refine o_icmpNo X_123 hx (hb hby at_263) (teq (rfl : (own_pick p1 p2 p3 ((p4.toUInt32 >>> ((6 : Int32) &&& 31).toUInt32).toInt32)) = (own_pick p1 p2 p3 ((p4.toUInt32 >>> ((6 : Int32) &&& 31).toUInt32).toInt32)))).2 ?_
    refine o_aload X_123 hx (hb hby at_266) rfl rfl ?_
    refine o_iconst X_123 hx 4 (hb hby at_268) rfl ?_
    obtain ⟨cl_124, Ar_124, qk_124, Sz_124, Ng_124, Hs_124, Gs_124⟩ := id Fa_108
    refine own_st (X_123.iaload hx (j := (4 : Int32)) (v := (.int (own_pick p1 p2 p3 ((p4.toUInt32 >>> ((8 : Int32) &&& 31).toUInt32).toInt32)))) (by rw [e_123]; exact Ar_124.1) (State.isArrayOf_alike hZ.alike Ar_124.2.1) Ar_124.2.2 (inb_of Sz_124 ⟨by decide, by decide⟩) (Hs_124.at (j := (4 : Int32)) (inb_of Sz_124 ⟨by decide, by decide⟩) rfl) (g := (mkF m 269 #[iv p1, iv p2, iv p3, iv p4, iv p5, rv b_1, iv 4, rv b__102] [(.int 4), (.ref b_1)])) rfl rfl (hb hby at_269)) ?_
    show own_Go _ _ _ _ (T_123.setTop (mkF m 270 #[iv p1, iv p2, iv p3, iv p4, iv p5, rv b_1, iv 4, rv b__102] [(.int (own_pick p1 p2 p3 ((p4.toUInt32 >>> ((8 : Int32) &&& 31).toUInt32).toInt32)))]))
    refine o_iloadN X_123 hx (hb hby at_270) rfl ?_
    refine o_iloadN X_123 hx (hb hby at_271) rfl ?_
    refine o_iloadN X_123 hx (hb hby at_272) rfl ?_
    refine o_iloadN X_123 hx (hb hby at_273) rfl ?_
    refine o_bipush X_123 hx 8 (hb hby at_274) rfl ?_
    refine o_iushr X_123 hx (hb hby at_276) ?_
    obtain ⟨_, _, ⟨T_125, L_125, k_125, n_125⟩, -, X_125, ⟨Lc_125, hQ_125, l_125, y_125, z_125⟩, st_125⟩ := Jvm.LawKit.callS X_123 hx (y := (⟨"com/example/ordinance/ordinance/policy/PartFinderBordersPinLaw", "pick", "(IIII)I"⟩ : MethodName)) hown (mvT hZ (hw _ (List.mem_of_getElem? (i := 1) rfl))) (mvT hZ (hw _ (List.mem_of_getElem? (i := 2) rfl))) (mvT hZ (hw _ (List.mem_of_getElem? (i := 3) rfl))) (mvT hZ (hw _ (List.mem_of_getElem? (i := 4) rfl))) (by decide) (backOf (W := 1) (rm1 l Z a0 hw [] p1 p2 p3 ((p4.toUInt32 >>> ((8 : Int32) &&& 31).toUInt32).toInt32)  T_102.heap n0 Zs_109) hZ (hw _ (List.mem_of_getElem? (i := 4) rfl)) (hw _ (List.mem_of_getElem? (i := 3) rfl)) (by decide) (by decide)) (g := (mkF m 277 #[iv p1, iv p2, iv p3, iv p4, iv p5, rv b_1, iv 4, rv b__102] [(.int ((p4.toUInt32 >>> ((8 : Int32) &&& 31).toUInt32).toInt32)), (.int p3), (.int p2), (.int p1), (.int (own_pick p1 p2 p3 ((p4.toUInt32 >>> ((8 : Int32) &&& 31).toUInt32).toInt32)))])) rfl (by rw [hml]; rfl) (argsL := [(.int p1), (.int p2), (.int p3), (.int ((p4.toUInt32 >>> ((8 : Int32) &&& 31).toUInt32).toInt32))]) (rest := [(.int (own_pick p1 p2 p3 ((p4.toUInt32 >>> ((8 : Int32) &&& 31).toUInt32).toInt32)))]) (lenOf pd_2 rfl) rfl (by show 2 * 0 + _ ≤ _; exact Nat.le_of_eq rfl) (hb hby at_277) (fun _ _ => ⟨rfl, e_123, (by decide : 2 + 0 ≤ _), (by decide : 9 + 0 ≤ _)⟩)
    dsimp only [Pt.U, Pt.locs, Pt.cells, Pt.slots] at X_125 l_125 y_125 z_125 st_125 hQ_125
    subst l_125 y_125 z_125
    obtain ⟨rfl, Nq_125, e_125⟩ := hQ_125
    have N_125 := Fr.app N_123 Nq_125
    refine own_st st_125 ?_
    show own_Go _ _ _ _ (T_125.setTop (mkF m 280 #[iv p1, iv p2, iv p3, iv p4, iv p5, rv b_1, iv 4, rv b__102] [(.int (own_pick p1 p2 p3 ((p4.toUInt32 >>> ((8 : Int32) &&& 31).toUInt32).toInt32))), (.int (own_pick p1 p2 p3 ((p4.toUInt32 >>> ((8 : Int32) &&& 31).toUInt32).toInt32)))]))
    refine o_icmpNo X_125 hx (hb hby at_280) (teq (rfl : (own_pick p1 p2 p3 ((p4.toUInt32 >>> ((8 : Int32) &&& 31).toUInt32).toInt32)) = (own_pick p1 p2 p3 ((p4.toUInt32 >>> ((8 : Int32) &&& 31).toUInt32).toInt32)))).2 ?_
    refine o_iconst X_125 hx 1 (hb hby at_283) rfl ?_
    refine o_goto X_125 hx (pc' := 288) (hb hby at_284) (by decide) (by decide) ?_
    have Kp_126 : Keep h0 T_102.heap [] := (Kp_104.trans K_102 all0)
    exact own_end X_125 e_125 (v := some (.int (1 : Int32))) (fun h => by rw [Bd.returns] at h; cases h) hlk (fun fs hr => retN X_125 hx (z := (1 : Int32)) (t := .boolean) Bd.returns (by simp) (hb hby at_288) hr) (Q := Q_rm0 Z a0 p1 p2 p3 p4 p5 h0 n0) ⟨rfl, N_125, Kp_126⟩ (by decide) (by decide)
  · rw [hL]
    show own_Go _ _ _ _ (T_21.setTop (mkF m 80 #[iv p1, iv p2, iv p3, iv p4, iv p5, rv b_1, iv 5, .unset] []))
    refine o_aload X_21 hx (hb hby at_80) rfl rfl ?_
    refine o_iload X_21 hx (hb hby at_82) rfl ?_
    have Zs_128 : n0 ≤ h_21.size := (Nat.le_trans Zs_19 (Keep.of_wr W_21).1)
    obtain ⟨_, _, ⟨T_127, L_127, k_127, n_127⟩, -, X_127, ⟨Lc_127, hQ_127, l_127, y_127, z_127⟩, st_127⟩ := Jvm.LawKit.callS X_21 hx (y := (⟨"com/example/ordinance/ordinance/policy/PartFinder", "borders", "([II)[I"⟩ : MethodName)) hown (mvT hZ (hw _ (List.mem_of_getElem? (i := 6) rfl))) (mvT hZ (hw _ (List.mem_of_getElem? (i := 7) rfl))) (mvT hZ (hw _ (List.mem_of_getElem? (i := 8) rfl))) (mvT hZ (hw _ (List.mem_of_getElem? (i := 9) rfl))) (by decide) (backOf (W := 0) (rmbo5 l Z a0 hw [] b_1 k_1 (.int (0 : Int32)) (own_pick p1 p2 p3 p4) (own_pick p1 p2 p3 ((p4.toUInt32 >>> ((2 : Int32) &&& 31).toUInt32).toInt32)) (own_pick p1 p2 p3 ((p4.toUInt32 >>> ((4 : Int32) &&& 31).toUInt32).toInt32)) (own_pick p1 p2 p3 ((p4.toUInt32 >>> ((6 : Int32) &&& 31).toUInt32).toInt32)) (own_pick p1 p2 p3 ((p4.toUInt32 >>> ((8 : Int32) &&& 31).toUInt32).toInt32)) h_21 n0 Zs_128 V_21) hZ (hw _ (List.mem_of_getElem? (i := 9) rfl)) (hw _ (List.mem_of_getElem? (i := 8) rfl)) (by decide) (by decide)) (g := (mkF m 84 #[iv p1, iv p2, iv p3, iv p4, iv p5, rv b_1, iv 5, .unset] [(.int 5), (.ref b_1)])) rfl (by rw [hml]; rfl) (argsL := [(.ref b_1), (.int 5)]) (rest := []) (lenOf pd_3 rfl) rfl (by show 2 * 0 + _ ≤ _; exact Nat.le_of_eq rfl) (hb hby at_84) (fun _ _ => ⟨rfl, e_21, (by decide : 1 + 1 ≤ _), (by decide : 5 + 5 ≤ _)⟩)
    dsimp only [Pt.U, Pt.locs, Pt.cells, Pt.slots] at X_127 l_127 y_127 z_127 st_127 hQ_127
    subst l_127 y_127 z_127
    obtain ⟨b__127, kB__127, rfl, Nq_127, K_127, gq_127_b, sq_127_b, Fq_127_0⟩ := hQ_127
    have N_127 := Fr.app N_21 Nq_127
    have Kp_129 : Keep h0 h_21 [] := (((((((Keep.refl h0 []).ext E_1).wr W_5 (Or.inr sz_1)).wr W_9 (Or.inr sz_1)).wr W_13 (Or.inr sz_1)).wr W_17 (Or.inr sz_1)).wr W_21 (Or.inr sz_1))
    have szq_127_b : h0.size ≤ b__127 := Nat.le_trans Kp_129.1 sq_127_b
    refine own_st st_127 ?_
    show own_Go _ _ _ _ (T_127.setTop (mkF m 87 #[iv p1, iv p2, iv p3, iv p4, iv p5, rv b_1, iv 5, .unset] [(.ref b__127)]))
    refine o_astore X_127 hx (hb hby at_87) rfl (l' := #[iv p1, iv p2, iv p3, iv p4, iv p5, rv b_1, iv 5, rv b__127]) rfl ?_
    refine o_aload X_127 hx (hb hby at_89) rfl rfl ?_
    obtain ⟨cl_130, Ar_130, qk_130, Sz_130, Ng_130, Hs_130, Gs_130⟩ := id Fq_127_0
    refine own_st (X_127.arraylength hx Ar_130.1 (State.isArrayOf_alike hZ.alike Ar_130.2.1) (g := (mkF m 91 #[iv p1, iv p2, iv p3, iv p4, iv p5, rv b_1, iv 5, rv b__127] [(.ref b__127)])) rfl rfl (hb hby at_91)) ?_
    rw [len_of Sz_130 Ng_130]
    show own_Go _ _ _ _ (T_127.setTop (mkF m 92 #[iv p1, iv p2, iv p3, iv p4, iv p5, rv b_1, iv 5, rv b__127] [(.int 5)]))
    refine o_iload X_127 hx (hb hby at_92) rfl ?_
    refine o_icmpYes X_127 hx (pc' := 99) (hb hby at_94) (teq (by decide : (5 : Int32) = (5 : Int32))).1 (by decide) (by decide) ?_
    refine o_iload X_127 hx (hb hby at_99) rfl ?_
    refine o_ifNo X_127 hx (hb hby at_101) (tlt (by decide : (0 : Int32) < (5 : Int32))).2.2.2 ?_
    refine o_aload X_127 hx (hb hby at_104) rfl rfl ?_
    refine o_iconst X_127 hx 0 (hb hby at_106) rfl ?_
    obtain ⟨cl_131, Ar_131, qk_131, Sz_131, Ng_131, Hs_131, Gs_131⟩ := id Fq_127_0
    refine own_st (X_127.iaload hx (j := (0 : Int32)) (v := (.int (own_ref1 (own_pick p1 p2 p3 p4) (own_pick p1 p2 p3 ((p4.toUInt32 >>> ((2 : Int32) &&& 31).toUInt32).toInt32)) (own_pick p1 p2 p3 ((p4.toUInt32 >>> ((4 : Int32) &&& 31).toUInt32).toInt32)) (own_pick p1 p2 p3 ((p4.toUInt32 >>> ((6 : Int32) &&& 31).toUInt32).toInt32)) (own_pick p1 p2 p3 ((p4.toUInt32 >>> ((8 : Int32) &&& 31).toUInt32).toInt32))))) Ar_131.1 (State.isArrayOf_alike hZ.alike Ar_131.2.1) Ar_131.2.2 (inb_of Sz_131 ⟨by decide, by decide⟩) (Hs_131.at (j := (0 : Int32)) (inb_of Sz_131 ⟨by decide, by decide⟩) rfl) (g := (mkF m 107 #[iv p1, iv p2, iv p3, iv p4, iv p5, rv b_1, iv 5, rv b__127] [(.int 0), (.ref b__127)])) rfl rfl (hb hby at_107)) ?_
    show own_Go _ _ _ _ (T_127.setTop (mkF m 108 #[iv p1, iv p2, iv p3, iv p4, iv p5, rv b_1, iv 5, rv b__127] [(.int (own_ref1 (own_pick p1 p2 p3 p4) (own_pick p1 p2 p3 ((p4.toUInt32 >>> ((2 : Int32) &&& 31).toUInt32).toInt32)) (own_pick p1 p2 p3 ((p4.toUInt32 >>> ((4 : Int32) &&& 31).toUInt32).toInt32)) (own_pick p1 p2 p3 ((p4.toUInt32 >>> ((6 : Int32) &&& 31).toUInt32).toInt32)) (own_pick p1 p2 p3 ((p4.toUInt32 >>> ((8 : Int32) &&& 31).toUInt32).toInt32))))]))
    refine o_aload X_127 hx (hb hby at_108) rfl rfl ?_
    refine o_iconst X_127 hx 1 (hb hby at_110) rfl ?_
    have Fa_133 := (V_21.keep K_127 nin0)
    have Zs_134 : n0 ≤ T_127.heap.size := (Nat.le_trans Zs_128 K_127.1)
    obtain ⟨_, _, ⟨T_132, L_132, k_132, n_132⟩, -, X_132, ⟨Lc_132, hQ_132, l_132, y_132, z_132⟩, st_132⟩ := Jvm.LawKit.callS X_127 hx (y := (⟨"com/example/ordinance/ordinance/policy/PartFinderBordersPinLaw", "ref", "([II)I"⟩ : MethodName)) hown (mvT hZ (hw _ (List.mem_of_getElem? (i := 10) rfl))) (mvT hZ (hw _ (List.mem_of_getElem? (i := 11) rfl))) (mvT hZ (hw _ (List.mem_of_getElem? (i := 3) rfl))) (mvT hZ (hw _ (List.mem_of_getElem? (i := 12) rfl))) (by decide) (backOf (W := 1) (rmref1 l Z a0 hw [] b_1 k_1 (.int (0 : Int32)) (own_pick p1 p2 p3 p4) (own_pick p1 p2 p3 ((p4.toUInt32 >>> ((2 : Int32) &&& 31).toUInt32).toInt32)) (own_pick p1 p2 p3 ((p4.toUInt32 >>> ((4 : Int32) &&& 31).toUInt32).toInt32)) (own_pick p1 p2 p3 ((p4.toUInt32 >>> ((6 : Int32) &&& 31).toUInt32).toInt32)) (own_pick p1 p2 p3 ((p4.toUInt32 >>> ((8 : Int32) &&& 31).toUInt32).toInt32)) T_127.heap n0 Zs_134 Fa_133) hZ (hw _ (List.mem_of_getElem? (i := 12) rfl)) (hw _ (List.mem_of_getElem? (i := 3) rfl)) (by decide) (by decide)) (g := (mkF m 111 #[iv p1, iv p2, iv p3, iv p4, iv p5, rv b_1, iv 5, rv b__127] [(.int 1), (.ref b_1), (.int (own_ref1 (own_pick p1 p2 p3 p4) (own_pick p1 p2 p3 ((p4.toUInt32 >>> ((2 : Int32) &&& 31).toUInt32).toInt32)) (own_pick p1 p2 p3 ((p4.toUInt32 >>> ((4 : Int32) &&& 31).toUInt32).toInt32)) (own_pick p1 p2 p3 ((p4.toUInt32 >>> ((6 : Int32) &&& 31).toUInt32).toInt32)) (own_pick p1 p2 p3 ((p4.toUInt32 >>> ((8 : Int32) &&& 31).toUInt32).toInt32))))])) rfl (by rw [hml]; rfl) (argsL := [(.ref b_1), (.int 1)]) (rest := [(.int (own_ref1 (own_pick p1 p2 p3 p4) (own_pick p1 p2 p3 ((p4.toUInt32 >>> ((2 : Int32) &&& 31).toUInt32).toInt32)) (own_pick p1 p2 p3 ((p4.toUInt32 >>> ((4 : Int32) &&& 31).toUInt32).toInt32)) (own_pick p1 p2 p3 ((p4.toUInt32 >>> ((6 : Int32) &&& 31).toUInt32).toInt32)) (own_pick p1 p2 p3 ((p4.toUInt32 >>> ((8 : Int32) &&& 31).toUInt32).toInt32))))]) (lenOf pd_4 rfl) rfl (by show 2 * 0 + _ ≤ _; exact Nat.le_of_eq rfl) (hb hby at_111) (fun _ _ => ⟨rfl, rfl, (by decide : 2 + 0 ≤ _), (by decide : 10 + 0 ≤ _)⟩)
    dsimp only [Pt.U, Pt.locs, Pt.cells, Pt.slots] at X_132 l_132 y_132 z_132 st_132 hQ_132
    subst l_132 y_132 z_132
    obtain ⟨rfl, Nq_132, e_132⟩ := hQ_132
    have N_132 := Fr.app N_127 Nq_132
    refine own_st st_132 ?_
    show own_Go _ _ _ _ (T_132.setTop (mkF m 114 #[iv p1, iv p2, iv p3, iv p4, iv p5, rv b_1, iv 5, rv b__127] [(.int (own_ref1 (own_pick p1 p2 p3 p4) (own_pick p1 p2 p3 ((p4.toUInt32 >>> ((2 : Int32) &&& 31).toUInt32).toInt32)) (own_pick p1 p2 p3 ((p4.toUInt32 >>> ((4 : Int32) &&& 31).toUInt32).toInt32)) (own_pick p1 p2 p3 ((p4.toUInt32 >>> ((6 : Int32) &&& 31).toUInt32).toInt32)) (own_pick p1 p2 p3 ((p4.toUInt32 >>> ((8 : Int32) &&& 31).toUInt32).toInt32)))), (.int (own_ref1 (own_pick p1 p2 p3 p4) (own_pick p1 p2 p3 ((p4.toUInt32 >>> ((2 : Int32) &&& 31).toUInt32).toInt32)) (own_pick p1 p2 p3 ((p4.toUInt32 >>> ((4 : Int32) &&& 31).toUInt32).toInt32)) (own_pick p1 p2 p3 ((p4.toUInt32 >>> ((6 : Int32) &&& 31).toUInt32).toInt32)) (own_pick p1 p2 p3 ((p4.toUInt32 >>> ((8 : Int32) &&& 31).toUInt32).toInt32))))]))
    refine o_icmpYes X_132 hx (pc' := 119) (hb hby at_114) (teq (rfl : (own_ref1 (own_pick p1 p2 p3 p4) (own_pick p1 p2 p3 ((p4.toUInt32 >>> ((2 : Int32) &&& 31).toUInt32).toInt32)) (own_pick p1 p2 p3 ((p4.toUInt32 >>> ((4 : Int32) &&& 31).toUInt32).toInt32)) (own_pick p1 p2 p3 ((p4.toUInt32 >>> ((6 : Int32) &&& 31).toUInt32).toInt32)) (own_pick p1 p2 p3 ((p4.toUInt32 >>> ((8 : Int32) &&& 31).toUInt32).toInt32))) = (own_ref1 (own_pick p1 p2 p3 p4) (own_pick p1 p2 p3 ((p4.toUInt32 >>> ((2 : Int32) &&& 31).toUInt32).toInt32)) (own_pick p1 p2 p3 ((p4.toUInt32 >>> ((4 : Int32) &&& 31).toUInt32).toInt32)) (own_pick p1 p2 p3 ((p4.toUInt32 >>> ((6 : Int32) &&& 31).toUInt32).toInt32)) (own_pick p1 p2 p3 ((p4.toUInt32 >>> ((8 : Int32) &&& 31).toUInt32).toInt32))))).1 (by decide) (by decide) ?_
    refine o_iload X_132 hx (hb hby at_119) rfl ?_
    refine o_iconst X_132 hx 1 (hb hby at_121) rfl ?_
    refine o_icmpNo X_132 hx (hb hby at_122) (tlt (by decide : (1 : Int32) < (5 : Int32))).2.2.2 ?_
    refine o_aload X_132 hx (hb hby at_125) rfl rfl ?_
    refine o_iconst X_132 hx 1 (hb hby at_127) rfl ?_
    obtain ⟨cl_135, Ar_135, qk_135, Sz_135, Ng_135, Hs_135, Gs_135⟩ := id Fq_127_0
    refine own_st (X_132.iaload hx (j := (1 : Int32)) (v := (.int (own_ref2 (own_pick p1 p2 p3 p4) (own_pick p1 p2 p3 ((p4.toUInt32 >>> ((2 : Int32) &&& 31).toUInt32).toInt32)) (own_pick p1 p2 p3 ((p4.toUInt32 >>> ((4 : Int32) &&& 31).toUInt32).toInt32)) (own_pick p1 p2 p3 ((p4.toUInt32 >>> ((6 : Int32) &&& 31).toUInt32).toInt32)) (own_pick p1 p2 p3 ((p4.toUInt32 >>> ((8 : Int32) &&& 31).toUInt32).toInt32))))) (by rw [e_132]; exact Ar_135.1) (State.isArrayOf_alike hZ.alike Ar_135.2.1) Ar_135.2.2 (inb_of Sz_135 ⟨by decide, by decide⟩) (Hs_135.at (j := (1 : Int32)) (inb_of Sz_135 ⟨by decide, by decide⟩) rfl) (g := (mkF m 128 #[iv p1, iv p2, iv p3, iv p4, iv p5, rv b_1, iv 5, rv b__127] [(.int 1), (.ref b__127)])) rfl rfl (hb hby at_128)) ?_
    show own_Go _ _ _ _ (T_132.setTop (mkF m 129 #[iv p1, iv p2, iv p3, iv p4, iv p5, rv b_1, iv 5, rv b__127] [(.int (own_ref2 (own_pick p1 p2 p3 p4) (own_pick p1 p2 p3 ((p4.toUInt32 >>> ((2 : Int32) &&& 31).toUInt32).toInt32)) (own_pick p1 p2 p3 ((p4.toUInt32 >>> ((4 : Int32) &&& 31).toUInt32).toInt32)) (own_pick p1 p2 p3 ((p4.toUInt32 >>> ((6 : Int32) &&& 31).toUInt32).toInt32)) (own_pick p1 p2 p3 ((p4.toUInt32 >>> ((8 : Int32) &&& 31).toUInt32).toInt32))))]))
    refine o_aload X_132 hx (hb hby at_129) rfl rfl ?_
    refine o_iconst X_132 hx 2 (hb hby at_131) rfl ?_
    obtain ⟨_, _, ⟨T_136, L_136, k_136, n_136⟩, -, X_136, ⟨Lc_136, hQ_136, l_136, y_136, z_136⟩, st_136⟩ := Jvm.LawKit.callS X_132 hx (y := (⟨"com/example/ordinance/ordinance/policy/PartFinderBordersPinLaw", "ref", "([II)I"⟩ : MethodName)) hown (mvT hZ (hw _ (List.mem_of_getElem? (i := 10) rfl))) (mvT hZ (hw _ (List.mem_of_getElem? (i := 11) rfl))) (mvT hZ (hw _ (List.mem_of_getElem? (i := 3) rfl))) (mvT hZ (hw _ (List.mem_of_getElem? (i := 12) rfl))) (by decide) (backOf (W := 1) (rmref2 l Z a0 hw [] b_1 k_1 (.int (0 : Int32)) (own_pick p1 p2 p3 p4) (own_pick p1 p2 p3 ((p4.toUInt32 >>> ((2 : Int32) &&& 31).toUInt32).toInt32)) (own_pick p1 p2 p3 ((p4.toUInt32 >>> ((4 : Int32) &&& 31).toUInt32).toInt32)) (own_pick p1 p2 p3 ((p4.toUInt32 >>> ((6 : Int32) &&& 31).toUInt32).toInt32)) (own_pick p1 p2 p3 ((p4.toUInt32 >>> ((8 : Int32) &&& 31).toUInt32).toInt32)) T_127.heap n0 Zs_134 Fa_133) hZ (hw _ (List.mem_of_getElem? (i := 12) rfl)) (hw _ (List.mem_of_getElem? (i := 3) rfl)) (by decide) (by decide)) (g := (mkF m 132 #[iv p1, iv p2, iv p3, iv p4, iv p5, rv b_1, iv 5, rv b__127] [(.int 2), (.ref b_1), (.int (own_ref2 (own_pick p1 p2 p3 p4) (own_pick p1 p2 p3 ((p4.toUInt32 >>> ((2 : Int32) &&& 31).toUInt32).toInt32)) (own_pick p1 p2 p3 ((p4.toUInt32 >>> ((4 : Int32) &&& 31).toUInt32).toInt32)) (own_pick p1 p2 p3 ((p4.toUInt32 >>> ((6 : Int32) &&& 31).toUInt32).toInt32)) (own_pick p1 p2 p3 ((p4.toUInt32 >>> ((8 : Int32) &&& 31).toUInt32).toInt32))))])) rfl (by rw [hml]; rfl) (argsL := [(.ref b_1), (.int 2)]) (rest := [(.int (own_ref2 (own_pick p1 p2 p3 p4) (own_pick p1 p2 p3 ((p4.toUInt32 >>> ((2 : Int32) &&& 31).toUInt32).toInt32)) (own_pick p1 p2 p3 ((p4.toUInt32 >>> ((4 : Int32) &&& 31).toUInt32).toInt32)) (own_pick p1 p2 p3 ((p4.toUInt32 >>> ((6 : Int32) &&& 31).toUInt32).toInt32)) (own_pick p1 p2 p3 ((p4.toUInt32 >>> ((8 : Int32) &&& 31).toUInt32).toInt32))))]) (lenOf pd_4 rfl) rfl (by show 2 * 0 + _ ≤ _; exact Nat.le_of_eq rfl) (hb hby at_132) (fun _ _ => ⟨rfl, e_132, (by decide : 2 + 0 ≤ _), (by decide : 10 + 0 ≤ _)⟩)
    dsimp only [Pt.U, Pt.locs, Pt.cells, Pt.slots] at X_136 l_136 y_136 z_136 st_136 hQ_136
    subst l_136 y_136 z_136
    obtain ⟨rfl, Nq_136, e_136⟩ := hQ_136
    have N_136 := Fr.app N_132 Nq_136
    refine own_st st_136 ?_
    show own_Go _ _ _ _ (T_136.setTop (mkF m 135 #[iv p1, iv p2, iv p3, iv p4, iv p5, rv b_1, iv 5, rv b__127] [(.int (own_ref2 (own_pick p1 p2 p3 p4) (own_pick p1 p2 p3 ((p4.toUInt32 >>> ((2 : Int32) &&& 31).toUInt32).toInt32)) (own_pick p1 p2 p3 ((p4.toUInt32 >>> ((4 : Int32) &&& 31).toUInt32).toInt32)) (own_pick p1 p2 p3 ((p4.toUInt32 >>> ((6 : Int32) &&& 31).toUInt32).toInt32)) (own_pick p1 p2 p3 ((p4.toUInt32 >>> ((8 : Int32) &&& 31).toUInt32).toInt32)))), (.int (own_ref2 (own_pick p1 p2 p3 p4) (own_pick p1 p2 p3 ((p4.toUInt32 >>> ((2 : Int32) &&& 31).toUInt32).toInt32)) (own_pick p1 p2 p3 ((p4.toUInt32 >>> ((4 : Int32) &&& 31).toUInt32).toInt32)) (own_pick p1 p2 p3 ((p4.toUInt32 >>> ((6 : Int32) &&& 31).toUInt32).toInt32)) (own_pick p1 p2 p3 ((p4.toUInt32 >>> ((8 : Int32) &&& 31).toUInt32).toInt32))))]))
    refine o_icmpYes X_136 hx (pc' := 140) (hb hby at_135) (teq (rfl : (own_ref2 (own_pick p1 p2 p3 p4) (own_pick p1 p2 p3 ((p4.toUInt32 >>> ((2 : Int32) &&& 31).toUInt32).toInt32)) (own_pick p1 p2 p3 ((p4.toUInt32 >>> ((4 : Int32) &&& 31).toUInt32).toInt32)) (own_pick p1 p2 p3 ((p4.toUInt32 >>> ((6 : Int32) &&& 31).toUInt32).toInt32)) (own_pick p1 p2 p3 ((p4.toUInt32 >>> ((8 : Int32) &&& 31).toUInt32).toInt32))) = (own_ref2 (own_pick p1 p2 p3 p4) (own_pick p1 p2 p3 ((p4.toUInt32 >>> ((2 : Int32) &&& 31).toUInt32).toInt32)) (own_pick p1 p2 p3 ((p4.toUInt32 >>> ((4 : Int32) &&& 31).toUInt32).toInt32)) (own_pick p1 p2 p3 ((p4.toUInt32 >>> ((6 : Int32) &&& 31).toUInt32).toInt32)) (own_pick p1 p2 p3 ((p4.toUInt32 >>> ((8 : Int32) &&& 31).toUInt32).toInt32))))).1 (by decide) (by decide) ?_
    refine o_iload X_136 hx (hb hby at_140) rfl ?_
    refine o_iconst X_136 hx 2 (hb hby at_142) rfl ?_
    refine o_icmpNo X_136 hx (hb hby at_143) (tlt (by decide : (2 : Int32) < (5 : Int32))).2.2.2 ?_
    refine o_aload X_136 hx (hb hby at_146) rfl rfl ?_
    refine o_iconst X_136 hx 2 (hb hby at_148) rfl ?_
    obtain ⟨cl_137, Ar_137, qk_137, Sz_137, Ng_137, Hs_137, Gs_137⟩ := id Fq_127_0
    refine own_st (X_136.iaload hx (j := (2 : Int32)) (v := (.int (own_ref3 (own_pick p1 p2 p3 p4) (own_pick p1 p2 p3 ((p4.toUInt32 >>> ((2 : Int32) &&& 31).toUInt32).toInt32)) (own_pick p1 p2 p3 ((p4.toUInt32 >>> ((4 : Int32) &&& 31).toUInt32).toInt32)) (own_pick p1 p2 p3 ((p4.toUInt32 >>> ((6 : Int32) &&& 31).toUInt32).toInt32)) (own_pick p1 p2 p3 ((p4.toUInt32 >>> ((8 : Int32) &&& 31).toUInt32).toInt32))))) (by rw [e_136]; exact Ar_137.1) (State.isArrayOf_alike hZ.alike Ar_137.2.1) Ar_137.2.2 (inb_of Sz_137 ⟨by decide, by decide⟩) (Hs_137.at (j := (2 : Int32)) (inb_of Sz_137 ⟨by decide, by decide⟩) rfl) (g := (mkF m 149 #[iv p1, iv p2, iv p3, iv p4, iv p5, rv b_1, iv 5, rv b__127] [(.int 2), (.ref b__127)])) rfl rfl (hb hby at_149)) ?_
    show own_Go _ _ _ _ (T_136.setTop (mkF m 150 #[iv p1, iv p2, iv p3, iv p4, iv p5, rv b_1, iv 5, rv b__127] [(.int (own_ref3 (own_pick p1 p2 p3 p4) (own_pick p1 p2 p3 ((p4.toUInt32 >>> ((2 : Int32) &&& 31).toUInt32).toInt32)) (own_pick p1 p2 p3 ((p4.toUInt32 >>> ((4 : Int32) &&& 31).toUInt32).toInt32)) (own_pick p1 p2 p3 ((p4.toUInt32 >>> ((6 : Int32) &&& 31).toUInt32).toInt32)) (own_pick p1 p2 p3 ((p4.toUInt32 >>> ((8 : Int32) &&& 31).toUInt32).toInt32))))]))
    refine o_aload X_136 hx (hb hby at_150) rfl rfl ?_
    refine o_iconst X_136 hx 3 (hb hby at_152) rfl ?_
    obtain ⟨_, _, ⟨T_138, L_138, k_138, n_138⟩, -, X_138, ⟨Lc_138, hQ_138, l_138, y_138, z_138⟩, st_138⟩ := Jvm.LawKit.callS X_136 hx (y := (⟨"com/example/ordinance/ordinance/policy/PartFinderBordersPinLaw", "ref", "([II)I"⟩ : MethodName)) hown (mvT hZ (hw _ (List.mem_of_getElem? (i := 10) rfl))) (mvT hZ (hw _ (List.mem_of_getElem? (i := 11) rfl))) (mvT hZ (hw _ (List.mem_of_getElem? (i := 3) rfl))) (mvT hZ (hw _ (List.mem_of_getElem? (i := 12) rfl))) (by decide) (backOf (W := 1) (rmref3 l Z a0 hw [] b_1 k_1 (.int (0 : Int32)) (own_pick p1 p2 p3 p4) (own_pick p1 p2 p3 ((p4.toUInt32 >>> ((2 : Int32) &&& 31).toUInt32).toInt32)) (own_pick p1 p2 p3 ((p4.toUInt32 >>> ((4 : Int32) &&& 31).toUInt32).toInt32)) (own_pick p1 p2 p3 ((p4.toUInt32 >>> ((6 : Int32) &&& 31).toUInt32).toInt32)) (own_pick p1 p2 p3 ((p4.toUInt32 >>> ((8 : Int32) &&& 31).toUInt32).toInt32)) T_127.heap n0 Zs_134 Fa_133) hZ (hw _ (List.mem_of_getElem? (i := 12) rfl)) (hw _ (List.mem_of_getElem? (i := 3) rfl)) (by decide) (by decide)) (g := (mkF m 153 #[iv p1, iv p2, iv p3, iv p4, iv p5, rv b_1, iv 5, rv b__127] [(.int 3), (.ref b_1), (.int (own_ref3 (own_pick p1 p2 p3 p4) (own_pick p1 p2 p3 ((p4.toUInt32 >>> ((2 : Int32) &&& 31).toUInt32).toInt32)) (own_pick p1 p2 p3 ((p4.toUInt32 >>> ((4 : Int32) &&& 31).toUInt32).toInt32)) (own_pick p1 p2 p3 ((p4.toUInt32 >>> ((6 : Int32) &&& 31).toUInt32).toInt32)) (own_pick p1 p2 p3 ((p4.toUInt32 >>> ((8 : Int32) &&& 31).toUInt32).toInt32))))])) rfl (by rw [hml]; rfl) (argsL := [(.ref b_1), (.int 3)]) (rest := [(.int (own_ref3 (own_pick p1 p2 p3 p4) (own_pick p1 p2 p3 ((p4.toUInt32 >>> ((2 : Int32) &&& 31).toUInt32).toInt32)) (own_pick p1 p2 p3 ((p4.toUInt32 >>> ((4 : Int32) &&& 31).toUInt32).toInt32)) (own_pick p1 p2 p3 ((p4.toUInt32 >>> ((6 : Int32) &&& 31).toUInt32).toInt32)) (own_pick p1 p2 p3 ((p4.toUInt32 >>> ((8 : Int32) &&& 31).toUInt32).toInt32))))]) (lenOf pd_4 rfl) rfl (by show 2 * 0 + _ ≤ _; exact Nat.le_of_eq rfl) (hb hby at_153) (fun _ _ => ⟨rfl, e_136, (by decide : 2 + 0 ≤ _), (by decide : 10 + 0 ≤ _)⟩)
    dsimp only [Pt.U, Pt.locs, Pt.cells, Pt.slots] at X_138 l_138 y_138 z_138 st_138 hQ_138
    subst l_138 y_138 z_138
    obtain ⟨rfl, Nq_138, e_138⟩ := hQ_138
    have N_138 := Fr.app N_136 Nq_138
    refine own_st st_138 ?_
    show own_Go _ _ _ _ (T_138.setTop (mkF m 156 #[iv p1, iv p2, iv p3, iv p4, iv p5, rv b_1, iv 5, rv b__127] [(.int (own_ref3 (own_pick p1 p2 p3 p4) (own_pick p1 p2 p3 ((p4.toUInt32 >>> ((2 : Int32) &&& 31).toUInt32).toInt32)) (own_pick p1 p2 p3 ((p4.toUInt32 >>> ((4 : Int32) &&& 31).toUInt32).toInt32)) (own_pick p1 p2 p3 ((p4.toUInt32 >>> ((6 : Int32) &&& 31).toUInt32).toInt32)) (own_pick p1 p2 p3 ((p4.toUInt32 >>> ((8 : Int32) &&& 31).toUInt32).toInt32)))), (.int (own_ref3 (own_pick p1 p2 p3 p4) (own_pick p1 p2 p3 ((p4.toUInt32 >>> ((2 : Int32) &&& 31).toUInt32).toInt32)) (own_pick p1 p2 p3 ((p4.toUInt32 >>> ((4 : Int32) &&& 31).toUInt32).toInt32)) (own_pick p1 p2 p3 ((p4.toUInt32 >>> ((6 : Int32) &&& 31).toUInt32).toInt32)) (own_pick p1 p2 p3 ((p4.toUInt32 >>> ((8 : Int32) &&& 31).toUInt32).toInt32))))]))
    refine o_icmpYes X_138 hx (pc' := 161) (hb hby at_156) (teq (rfl : (own_ref3 (own_pick p1 p2 p3 p4) (own_pick p1 p2 p3 ((p4.toUInt32 >>> ((2 : Int32) &&& 31).toUInt32).toInt32)) (own_pick p1 p2 p3 ((p4.toUInt32 >>> ((4 : Int32) &&& 31).toUInt32).toInt32)) (own_pick p1 p2 p3 ((p4.toUInt32 >>> ((6 : Int32) &&& 31).toUInt32).toInt32)) (own_pick p1 p2 p3 ((p4.toUInt32 >>> ((8 : Int32) &&& 31).toUInt32).toInt32))) = (own_ref3 (own_pick p1 p2 p3 p4) (own_pick p1 p2 p3 ((p4.toUInt32 >>> ((2 : Int32) &&& 31).toUInt32).toInt32)) (own_pick p1 p2 p3 ((p4.toUInt32 >>> ((4 : Int32) &&& 31).toUInt32).toInt32)) (own_pick p1 p2 p3 ((p4.toUInt32 >>> ((6 : Int32) &&& 31).toUInt32).toInt32)) (own_pick p1 p2 p3 ((p4.toUInt32 >>> ((8 : Int32) &&& 31).toUInt32).toInt32))))).1 (by decide) (by decide) ?_
    refine o_iload X_138 hx (hb hby at_161) rfl ?_
    refine o_iconst X_138 hx 3 (hb hby at_163) rfl ?_
    refine o_icmpNo X_138 hx (hb hby at_164) (tlt (by decide : (3 : Int32) < (5 : Int32))).2.2.2 ?_
    refine o_aload X_138 hx (hb hby at_167) rfl rfl ?_
    refine o_iconst X_138 hx 3 (hb hby at_169) rfl ?_
    obtain ⟨cl_139, Ar_139, qk_139, Sz_139, Ng_139, Hs_139, Gs_139⟩ := id Fq_127_0
    refine own_st (X_138.iaload hx (j := (3 : Int32)) (v := (.int (own_ref4 (own_pick p1 p2 p3 p4) (own_pick p1 p2 p3 ((p4.toUInt32 >>> ((2 : Int32) &&& 31).toUInt32).toInt32)) (own_pick p1 p2 p3 ((p4.toUInt32 >>> ((4 : Int32) &&& 31).toUInt32).toInt32)) (own_pick p1 p2 p3 ((p4.toUInt32 >>> ((6 : Int32) &&& 31).toUInt32).toInt32)) (own_pick p1 p2 p3 ((p4.toUInt32 >>> ((8 : Int32) &&& 31).toUInt32).toInt32))))) (by rw [e_138]; exact Ar_139.1) (State.isArrayOf_alike hZ.alike Ar_139.2.1) Ar_139.2.2 (inb_of Sz_139 ⟨by decide, by decide⟩) (Hs_139.at (j := (3 : Int32)) (inb_of Sz_139 ⟨by decide, by decide⟩) rfl) (g := (mkF m 170 #[iv p1, iv p2, iv p3, iv p4, iv p5, rv b_1, iv 5, rv b__127] [(.int 3), (.ref b__127)])) rfl rfl (hb hby at_170)) ?_
    show own_Go _ _ _ _ (T_138.setTop (mkF m 171 #[iv p1, iv p2, iv p3, iv p4, iv p5, rv b_1, iv 5, rv b__127] [(.int (own_ref4 (own_pick p1 p2 p3 p4) (own_pick p1 p2 p3 ((p4.toUInt32 >>> ((2 : Int32) &&& 31).toUInt32).toInt32)) (own_pick p1 p2 p3 ((p4.toUInt32 >>> ((4 : Int32) &&& 31).toUInt32).toInt32)) (own_pick p1 p2 p3 ((p4.toUInt32 >>> ((6 : Int32) &&& 31).toUInt32).toInt32)) (own_pick p1 p2 p3 ((p4.toUInt32 >>> ((8 : Int32) &&& 31).toUInt32).toInt32))))]))
    refine o_aload X_138 hx (hb hby at_171) rfl rfl ?_
    refine o_iconst X_138 hx 4 (hb hby at_173) rfl ?_
    obtain ⟨_, _, ⟨T_140, L_140, k_140, n_140⟩, -, X_140, ⟨Lc_140, hQ_140, l_140, y_140, z_140⟩, st_140⟩ := Jvm.LawKit.callS X_138 hx (y := (⟨"com/example/ordinance/ordinance/policy/PartFinderBordersPinLaw", "ref", "([II)I"⟩ : MethodName)) hown (mvT hZ (hw _ (List.mem_of_getElem? (i := 10) rfl))) (mvT hZ (hw _ (List.mem_of_getElem? (i := 11) rfl))) (mvT hZ (hw _ (List.mem_of_getElem? (i := 3) rfl))) (mvT hZ (hw _ (List.mem_of_getElem? (i := 12) rfl))) (by decide) (backOf (W := 1) (rmref4 l Z a0 hw [] b_1 k_1 (.int (0 : Int32)) (own_pick p1 p2 p3 p4) (own_pick p1 p2 p3 ((p4.toUInt32 >>> ((2 : Int32) &&& 31).toUInt32).toInt32)) (own_pick p1 p2 p3 ((p4.toUInt32 >>> ((4 : Int32) &&& 31).toUInt32).toInt32)) (own_pick p1 p2 p3 ((p4.toUInt32 >>> ((6 : Int32) &&& 31).toUInt32).toInt32)) (own_pick p1 p2 p3 ((p4.toUInt32 >>> ((8 : Int32) &&& 31).toUInt32).toInt32)) T_127.heap n0 Zs_134 Fa_133) hZ (hw _ (List.mem_of_getElem? (i := 12) rfl)) (hw _ (List.mem_of_getElem? (i := 3) rfl)) (by decide) (by decide)) (g := (mkF m 174 #[iv p1, iv p2, iv p3, iv p4, iv p5, rv b_1, iv 5, rv b__127] [(.int 4), (.ref b_1), (.int (own_ref4 (own_pick p1 p2 p3 p4) (own_pick p1 p2 p3 ((p4.toUInt32 >>> ((2 : Int32) &&& 31).toUInt32).toInt32)) (own_pick p1 p2 p3 ((p4.toUInt32 >>> ((4 : Int32) &&& 31).toUInt32).toInt32)) (own_pick p1 p2 p3 ((p4.toUInt32 >>> ((6 : Int32) &&& 31).toUInt32).toInt32)) (own_pick p1 p2 p3 ((p4.toUInt32 >>> ((8 : Int32) &&& 31).toUInt32).toInt32))))])) rfl (by rw [hml]; rfl) (argsL := [(.ref b_1), (.int 4)]) (rest := [(.int (own_ref4 (own_pick p1 p2 p3 p4) (own_pick p1 p2 p3 ((p4.toUInt32 >>> ((2 : Int32) &&& 31).toUInt32).toInt32)) (own_pick p1 p2 p3 ((p4.toUInt32 >>> ((4 : Int32) &&& 31).toUInt32).toInt32)) (own_pick p1 p2 p3 ((p4.toUInt32 >>> ((6 : Int32) &&& 31).toUInt32).toInt32)) (own_pick p1 p2 p3 ((p4.toUInt32 >>> ((8 : Int32) &&& 31).toUInt32).toInt32))))]) (lenOf pd_4 rfl) rfl (by show 2 * 0 + _ ≤ _; exact Nat.le_of_eq rfl) (hb hby at_174) (fun _ _ => ⟨rfl, e_138, (by decide : 2 + 0 ≤ _), (by decide : 10 + 0 ≤ _)⟩)
    dsimp only [Pt.U, Pt.locs, Pt.cells, Pt.slots] at X_140 l_140 y_140 z_140 st_140 hQ_140
    subst l_140 y_140 z_140
    obtain ⟨rfl, Nq_140, e_140⟩ := hQ_140
    have N_140 := Fr.app N_138 Nq_140
    refine own_st st_140 ?_
    show own_Go _ _ _ _ (T_140.setTop (mkF m 177 #[iv p1, iv p2, iv p3, iv p4, iv p5, rv b_1, iv 5, rv b__127] [(.int (own_ref4 (own_pick p1 p2 p3 p4) (own_pick p1 p2 p3 ((p4.toUInt32 >>> ((2 : Int32) &&& 31).toUInt32).toInt32)) (own_pick p1 p2 p3 ((p4.toUInt32 >>> ((4 : Int32) &&& 31).toUInt32).toInt32)) (own_pick p1 p2 p3 ((p4.toUInt32 >>> ((6 : Int32) &&& 31).toUInt32).toInt32)) (own_pick p1 p2 p3 ((p4.toUInt32 >>> ((8 : Int32) &&& 31).toUInt32).toInt32)))), (.int (own_ref4 (own_pick p1 p2 p3 p4) (own_pick p1 p2 p3 ((p4.toUInt32 >>> ((2 : Int32) &&& 31).toUInt32).toInt32)) (own_pick p1 p2 p3 ((p4.toUInt32 >>> ((4 : Int32) &&& 31).toUInt32).toInt32)) (own_pick p1 p2 p3 ((p4.toUInt32 >>> ((6 : Int32) &&& 31).toUInt32).toInt32)) (own_pick p1 p2 p3 ((p4.toUInt32 >>> ((8 : Int32) &&& 31).toUInt32).toInt32))))]))
    refine o_icmpYes X_140 hx (pc' := 182) (hb hby at_177) (teq (rfl : (own_ref4 (own_pick p1 p2 p3 p4) (own_pick p1 p2 p3 ((p4.toUInt32 >>> ((2 : Int32) &&& 31).toUInt32).toInt32)) (own_pick p1 p2 p3 ((p4.toUInt32 >>> ((4 : Int32) &&& 31).toUInt32).toInt32)) (own_pick p1 p2 p3 ((p4.toUInt32 >>> ((6 : Int32) &&& 31).toUInt32).toInt32)) (own_pick p1 p2 p3 ((p4.toUInt32 >>> ((8 : Int32) &&& 31).toUInt32).toInt32))) = (own_ref4 (own_pick p1 p2 p3 p4) (own_pick p1 p2 p3 ((p4.toUInt32 >>> ((2 : Int32) &&& 31).toUInt32).toInt32)) (own_pick p1 p2 p3 ((p4.toUInt32 >>> ((4 : Int32) &&& 31).toUInt32).toInt32)) (own_pick p1 p2 p3 ((p4.toUInt32 >>> ((6 : Int32) &&& 31).toUInt32).toInt32)) (own_pick p1 p2 p3 ((p4.toUInt32 >>> ((8 : Int32) &&& 31).toUInt32).toInt32))))).1 (by decide) (by decide) ?_
    refine o_iload X_140 hx (hb hby at_182) rfl ?_
    refine o_iconst X_140 hx 4 (hb hby at_184) rfl ?_
    refine o_icmpNo X_140 hx (hb hby at_185) (tlt (by decide : (4 : Int32) < (5 : Int32))).2.2.2 ?_
    refine o_aload X_140 hx (hb hby at_188) rfl rfl ?_
    refine o_iconst X_140 hx 4 (hb hby at_190) rfl ?_
    obtain ⟨cl_141, Ar_141, qk_141, Sz_141, Ng_141, Hs_141, Gs_141⟩ := id Fq_127_0
    refine own_st (X_140.iaload hx (j := (4 : Int32)) (v := (.int (own_ref5 (own_pick p1 p2 p3 p4) (own_pick p1 p2 p3 ((p4.toUInt32 >>> ((2 : Int32) &&& 31).toUInt32).toInt32)) (own_pick p1 p2 p3 ((p4.toUInt32 >>> ((4 : Int32) &&& 31).toUInt32).toInt32)) (own_pick p1 p2 p3 ((p4.toUInt32 >>> ((6 : Int32) &&& 31).toUInt32).toInt32)) (own_pick p1 p2 p3 ((p4.toUInt32 >>> ((8 : Int32) &&& 31).toUInt32).toInt32))))) (by rw [e_140]; exact Ar_141.1) (State.isArrayOf_alike hZ.alike Ar_141.2.1) Ar_141.2.2 (inb_of Sz_141 ⟨by decide, by decide⟩) (Hs_141.at (j := (4 : Int32)) (inb_of Sz_141 ⟨by decide, by decide⟩) rfl) (g := (mkF m 191 #[iv p1, iv p2, iv p3, iv p4, iv p5, rv b_1, iv 5, rv b__127] [(.int 4), (.ref b__127)])) rfl rfl (hb hby at_191)) ?_
    show own_Go _ _ _ _ (T_140.setTop (mkF m 192 #[iv p1, iv p2, iv p3, iv p4, iv p5, rv b_1, iv 5, rv b__127] [(.int (own_ref5 (own_pick p1 p2 p3 p4) (own_pick p1 p2 p3 ((p4.toUInt32 >>> ((2 : Int32) &&& 31).toUInt32).toInt32)) (own_pick p1 p2 p3 ((p4.toUInt32 >>> ((4 : Int32) &&& 31).toUInt32).toInt32)) (own_pick p1 p2 p3 ((p4.toUInt32 >>> ((6 : Int32) &&& 31).toUInt32).toInt32)) (own_pick p1 p2 p3 ((p4.toUInt32 >>> ((8 : Int32) &&& 31).toUInt32).toInt32))))]))
    refine o_aload X_140 hx (hb hby at_192) rfl rfl ?_
    refine o_iconst X_140 hx 5 (hb hby at_194) rfl ?_
    obtain ⟨_, _, ⟨T_142, L_142, k_142, n_142⟩, -, X_142, ⟨Lc_142, hQ_142, l_142, y_142, z_142⟩, st_142⟩ := Jvm.LawKit.callS X_140 hx (y := (⟨"com/example/ordinance/ordinance/policy/PartFinderBordersPinLaw", "ref", "([II)I"⟩ : MethodName)) hown (mvT hZ (hw _ (List.mem_of_getElem? (i := 10) rfl))) (mvT hZ (hw _ (List.mem_of_getElem? (i := 11) rfl))) (mvT hZ (hw _ (List.mem_of_getElem? (i := 3) rfl))) (mvT hZ (hw _ (List.mem_of_getElem? (i := 12) rfl))) (by decide) (backOf (W := 1) (rmref5 l Z a0 hw [] b_1 k_1 (.int (0 : Int32)) (own_pick p1 p2 p3 p4) (own_pick p1 p2 p3 ((p4.toUInt32 >>> ((2 : Int32) &&& 31).toUInt32).toInt32)) (own_pick p1 p2 p3 ((p4.toUInt32 >>> ((4 : Int32) &&& 31).toUInt32).toInt32)) (own_pick p1 p2 p3 ((p4.toUInt32 >>> ((6 : Int32) &&& 31).toUInt32).toInt32)) (own_pick p1 p2 p3 ((p4.toUInt32 >>> ((8 : Int32) &&& 31).toUInt32).toInt32)) T_127.heap n0 Zs_134 Fa_133) hZ (hw _ (List.mem_of_getElem? (i := 12) rfl)) (hw _ (List.mem_of_getElem? (i := 3) rfl)) (by decide) (by decide)) (g := (mkF m 195 #[iv p1, iv p2, iv p3, iv p4, iv p5, rv b_1, iv 5, rv b__127] [(.int 5), (.ref b_1), (.int (own_ref5 (own_pick p1 p2 p3 p4) (own_pick p1 p2 p3 ((p4.toUInt32 >>> ((2 : Int32) &&& 31).toUInt32).toInt32)) (own_pick p1 p2 p3 ((p4.toUInt32 >>> ((4 : Int32) &&& 31).toUInt32).toInt32)) (own_pick p1 p2 p3 ((p4.toUInt32 >>> ((6 : Int32) &&& 31).toUInt32).toInt32)) (own_pick p1 p2 p3 ((p4.toUInt32 >>> ((8 : Int32) &&& 31).toUInt32).toInt32))))])) rfl (by rw [hml]; rfl) (argsL := [(.ref b_1), (.int 5)]) (rest := [(.int (own_ref5 (own_pick p1 p2 p3 p4) (own_pick p1 p2 p3 ((p4.toUInt32 >>> ((2 : Int32) &&& 31).toUInt32).toInt32)) (own_pick p1 p2 p3 ((p4.toUInt32 >>> ((4 : Int32) &&& 31).toUInt32).toInt32)) (own_pick p1 p2 p3 ((p4.toUInt32 >>> ((6 : Int32) &&& 31).toUInt32).toInt32)) (own_pick p1 p2 p3 ((p4.toUInt32 >>> ((8 : Int32) &&& 31).toUInt32).toInt32))))]) (lenOf pd_4 rfl) rfl (by show 2 * 0 + _ ≤ _; exact Nat.le_of_eq rfl) (hb hby at_195) (fun _ _ => ⟨rfl, e_140, (by decide : 2 + 0 ≤ _), (by decide : 10 + 0 ≤ _)⟩)
    dsimp only [Pt.U, Pt.locs, Pt.cells, Pt.slots] at X_142 l_142 y_142 z_142 st_142 hQ_142
    subst l_142 y_142 z_142
    obtain ⟨rfl, Nq_142, e_142⟩ := hQ_142
    have N_142 := Fr.app N_140 Nq_142
    refine own_st st_142 ?_
    show own_Go _ _ _ _ (T_142.setTop (mkF m 198 #[iv p1, iv p2, iv p3, iv p4, iv p5, rv b_1, iv 5, rv b__127] [(.int (own_ref5 (own_pick p1 p2 p3 p4) (own_pick p1 p2 p3 ((p4.toUInt32 >>> ((2 : Int32) &&& 31).toUInt32).toInt32)) (own_pick p1 p2 p3 ((p4.toUInt32 >>> ((4 : Int32) &&& 31).toUInt32).toInt32)) (own_pick p1 p2 p3 ((p4.toUInt32 >>> ((6 : Int32) &&& 31).toUInt32).toInt32)) (own_pick p1 p2 p3 ((p4.toUInt32 >>> ((8 : Int32) &&& 31).toUInt32).toInt32)))), (.int (own_ref5 (own_pick p1 p2 p3 p4) (own_pick p1 p2 p3 ((p4.toUInt32 >>> ((2 : Int32) &&& 31).toUInt32).toInt32)) (own_pick p1 p2 p3 ((p4.toUInt32 >>> ((4 : Int32) &&& 31).toUInt32).toInt32)) (own_pick p1 p2 p3 ((p4.toUInt32 >>> ((6 : Int32) &&& 31).toUInt32).toInt32)) (own_pick p1 p2 p3 ((p4.toUInt32 >>> ((8 : Int32) &&& 31).toUInt32).toInt32))))]))
    refine o_icmpYes X_142 hx (pc' := 203) (hb hby at_198) (teq (rfl : (own_ref5 (own_pick p1 p2 p3 p4) (own_pick p1 p2 p3 ((p4.toUInt32 >>> ((2 : Int32) &&& 31).toUInt32).toInt32)) (own_pick p1 p2 p3 ((p4.toUInt32 >>> ((4 : Int32) &&& 31).toUInt32).toInt32)) (own_pick p1 p2 p3 ((p4.toUInt32 >>> ((6 : Int32) &&& 31).toUInt32).toInt32)) (own_pick p1 p2 p3 ((p4.toUInt32 >>> ((8 : Int32) &&& 31).toUInt32).toInt32))) = (own_ref5 (own_pick p1 p2 p3 p4) (own_pick p1 p2 p3 ((p4.toUInt32 >>> ((2 : Int32) &&& 31).toUInt32).toInt32)) (own_pick p1 p2 p3 ((p4.toUInt32 >>> ((4 : Int32) &&& 31).toUInt32).toInt32)) (own_pick p1 p2 p3 ((p4.toUInt32 >>> ((6 : Int32) &&& 31).toUInt32).toInt32)) (own_pick p1 p2 p3 ((p4.toUInt32 >>> ((8 : Int32) &&& 31).toUInt32).toInt32))))).1 (by decide) (by decide) ?_
    refine o_aload X_142 hx (hb hby at_203) rfl rfl ?_
    refine o_iconst X_142 hx 0 (hb hby at_205) rfl ?_
    obtain ⟨cl_143, Ar_143, qk_143, Sz_143, Ng_143, Hs_143, Gs_143⟩ := id Fa_133
    refine own_st (X_142.iaload hx (j := (0 : Int32)) (v := (.int (own_pick p1 p2 p3 p4))) (by rw [e_142]; exact Ar_143.1) (State.isArrayOf_alike hZ.alike Ar_143.2.1) Ar_143.2.2 (inb_of Sz_143 ⟨by decide, by decide⟩) (Hs_143.at (j := (0 : Int32)) (inb_of Sz_143 ⟨by decide, by decide⟩) rfl) (g := (mkF m 206 #[iv p1, iv p2, iv p3, iv p4, iv p5, rv b_1, iv 5, rv b__127] [(.int 0), (.ref b_1)])) rfl rfl (hb hby at_206)) ?_
    show own_Go _ _ _ _ (T_142.setTop (mkF m 207 #[iv p1, iv p2, iv p3, iv p4, iv p5, rv b_1, iv 5, rv b__127] [(.int (own_pick p1 p2 p3 p4))]))
    refine o_iloadN X_142 hx (hb hby at_207) rfl ?_
    refine o_iloadN X_142 hx (hb hby at_208) rfl ?_
    refine o_iloadN X_142 hx (hb hby at_209) rfl ?_
    refine o_iloadN X_142 hx (hb hby at_210) rfl ?_
    obtain ⟨_, _, ⟨T_144, L_144, k_144, n_144⟩, -, X_144, ⟨Lc_144, hQ_144, l_144, y_144, z_144⟩, st_144⟩ := Jvm.LawKit.callS X_142 hx (y := (⟨"com/example/ordinance/ordinance/policy/PartFinderBordersPinLaw", "pick", "(IIII)I"⟩ : MethodName)) hown (mvT hZ (hw _ (List.mem_of_getElem? (i := 1) rfl))) (mvT hZ (hw _ (List.mem_of_getElem? (i := 2) rfl))) (mvT hZ (hw _ (List.mem_of_getElem? (i := 3) rfl))) (mvT hZ (hw _ (List.mem_of_getElem? (i := 4) rfl))) (by decide) (backOf (W := 1) (rm1 l Z a0 hw [] p1 p2 p3 p4  T_127.heap n0 Zs_134) hZ (hw _ (List.mem_of_getElem? (i := 4) rfl)) (hw _ (List.mem_of_getElem? (i := 3) rfl)) (by decide) (by decide)) (g := (mkF m 211 #[iv p1, iv p2, iv p3, iv p4, iv p5, rv b_1, iv 5, rv b__127] [(.int p4), (.int p3), (.int p2), (.int p1), (.int (own_pick p1 p2 p3 p4))])) rfl (by rw [hml]; rfl) (argsL := [(.int p1), (.int p2), (.int p3), (.int p4)]) (rest := [(.int (own_pick p1 p2 p3 p4))]) (lenOf pd_2 rfl) rfl (by show 2 * 0 + _ ≤ _; exact Nat.le_of_eq rfl) (hb hby at_211) (fun _ _ => ⟨rfl, e_142, (by decide : 2 + 0 ≤ _), (by decide : 10 + 0 ≤ _)⟩)
    dsimp only [Pt.U, Pt.locs, Pt.cells, Pt.slots] at X_144 l_144 y_144 z_144 st_144 hQ_144
    subst l_144 y_144 z_144
    obtain ⟨rfl, Nq_144, e_144⟩ := hQ_144
    have N_144 := Fr.app N_142 Nq_144
    refine own_st st_144 ?_
    show own_Go _ _ _ _ (T_144.setTop (mkF m 214 #[iv p1, iv p2, iv p3, iv p4, iv p5, rv b_1, iv 5, rv b__127] [(.int (own_pick p1 p2 p3 p4)), (.int (own_pick p1 p2 p3 p4))]))
    refine o_icmpNo X_144 hx (hb hby at_214) (teq (rfl : (own_pick p1 p2 p3 p4) = (own_pick p1 p2 p3 p4))).2 ?_
    refine o_aload X_144 hx (hb hby at_217) rfl rfl ?_
    refine o_iconst X_144 hx 1 (hb hby at_219) rfl ?_
    obtain ⟨cl_145, Ar_145, qk_145, Sz_145, Ng_145, Hs_145, Gs_145⟩ := id Fa_133
    refine own_st (X_144.iaload hx (j := (1 : Int32)) (v := (.int (own_pick p1 p2 p3 ((p4.toUInt32 >>> ((2 : Int32) &&& 31).toUInt32).toInt32)))) (by rw [e_144]; exact Ar_145.1) (State.isArrayOf_alike hZ.alike Ar_145.2.1) Ar_145.2.2 (inb_of Sz_145 ⟨by decide, by decide⟩) (Hs_145.at (j := (1 : Int32)) (inb_of Sz_145 ⟨by decide, by decide⟩) rfl) (g := (mkF m 220 #[iv p1, iv p2, iv p3, iv p4, iv p5, rv b_1, iv 5, rv b__127] [(.int 1), (.ref b_1)])) rfl rfl (hb hby at_220)) ?_
    show own_Go _ _ _ _ (T_144.setTop (mkF m 221 #[iv p1, iv p2, iv p3, iv p4, iv p5, rv b_1, iv 5, rv b__127] [(.int (own_pick p1 p2 p3 ((p4.toUInt32 >>> ((2 : Int32) &&& 31).toUInt32).toInt32)))]))
    refine o_iloadN X_144 hx (hb hby at_221) rfl ?_
    refine o_iloadN X_144 hx (hb hby at_222) rfl ?_
    refine o_iloadN X_144 hx (hb hby at_223) rfl ?_
    refine o_iloadN X_144 hx (hb hby at_224) rfl ?_
    refine o_iconst X_144 hx 2 (hb hby at_225) rfl ?_
    refine o_iushr X_144 hx (hb hby at_226) ?_
    obtain ⟨_, _, ⟨T_146, L_146, k_146, n_146⟩, -, X_146, ⟨Lc_146, hQ_146, l_146, y_146, z_146⟩, st_146⟩ := Jvm.LawKit.callS X_144 hx (y := (⟨"com/example/ordinance/ordinance/policy/PartFinderBordersPinLaw", "pick", "(IIII)I"⟩ : MethodName)) hown (mvT hZ (hw _ (List.mem_of_getElem? (i := 1) rfl))) (mvT hZ (hw _ (List.mem_of_getElem? (i := 2) rfl))) (mvT hZ (hw _ (List.mem_of_getElem? (i := 3) rfl))) (mvT hZ (hw _ (List.mem_of_getElem? (i := 4) rfl))) (by decide) (backOf (W := 1) (rm1 l Z a0 hw [] p1 p2 p3 ((p4.toUInt32 >>> ((2 : Int32) &&& 31).toUInt32).toInt32)  T_127.heap n0 Zs_134) hZ (hw _ (List.mem_of_getElem? (i := 4) rfl)) (hw _ (List.mem_of_getElem? (i := 3) rfl)) (by decide) (by decide)) (g := (mkF m 227 #[iv p1, iv p2, iv p3, iv p4, iv p5, rv b_1, iv 5, rv b__127] [(.int ((p4.toUInt32 >>> ((2 : Int32) &&& 31).toUInt32).toInt32)), (.int p3), (.int p2), (.int p1), (.int (own_pick p1 p2 p3 ((p4.toUInt32 >>> ((2 : Int32) &&& 31).toUInt32).toInt32)))])) rfl (by rw [hml]; rfl) (argsL := [(.int p1), (.int p2), (.int p3), (.int ((p4.toUInt32 >>> ((2 : Int32) &&& 31).toUInt32).toInt32))]) (rest := [(.int (own_pick p1 p2 p3 ((p4.toUInt32 >>> ((2 : Int32) &&& 31).toUInt32).toInt32)))]) (lenOf pd_2 rfl) rfl (by show 2 * 0 + _ ≤ _; exact Nat.le_of_eq rfl) (hb hby at_227) (fun _ _ => ⟨rfl, e_144, (by decide : 2 + 0 ≤ _), (by decide : 10 + 0 ≤ _)⟩)
    dsimp only [Pt.U, Pt.locs, Pt.cells, Pt.slots] at X_146 l_146 y_146 z_146 st_146 hQ_146
    subst l_146 y_146 z_146
    obtain ⟨rfl, Nq_146, e_146⟩ := hQ_146
    have N_146 := Fr.app N_144 Nq_146
    refine own_st st_146 ?_
    show own_Go _ _ _ _ (T_146.setTop (mkF m 230 #[iv p1, iv p2, iv p3, iv p4, iv p5, rv b_1, iv 5, rv b__127] [(.int (own_pick p1 p2 p3 ((p4.toUInt32 >>> ((2 : Int32) &&& 31).toUInt32).toInt32))), (.int (own_pick p1 p2 p3 ((p4.toUInt32 >>> ((2 : Int32) &&& 31).toUInt32).toInt32)))]))
    refine o_icmpNo X_146 hx (hb hby at_230) (teq (rfl : (own_pick p1 p2 p3 ((p4.toUInt32 >>> ((2 : Int32) &&& 31).toUInt32).toInt32)) = (own_pick p1 p2 p3 ((p4.toUInt32 >>> ((2 : Int32) &&& 31).toUInt32).toInt32)))).2 ?_
    refine o_aload X_146 hx (hb hby at_233) rfl rfl ?_
    refine o_iconst X_146 hx 2 (hb hby at_235) rfl ?_
    obtain ⟨cl_147, Ar_147, qk_147, Sz_147, Ng_147, Hs_147, Gs_147⟩ := id Fa_133
    refine own_st (X_146.iaload hx (j := (2 : Int32)) (v := (.int (own_pick p1 p2 p3 ((p4.toUInt32 >>> ((4 : Int32) &&& 31).toUInt32).toInt32)))) (by rw [e_146]; exact Ar_147.1) (State.isArrayOf_alike hZ.alike Ar_147.2.1) Ar_147.2.2 (inb_of Sz_147 ⟨by decide, by decide⟩) (Hs_147.at (j := (2 : Int32)) (inb_of Sz_147 ⟨by decide, by decide⟩) rfl) (g := (mkF m 236 #[iv p1, iv p2, iv p3, iv p4, iv p5, rv b_1, iv 5, rv b__127] [(.int 2), (.ref b_1)])) rfl rfl (hb hby at_236)) ?_
    show own_Go _ _ _ _ (T_146.setTop (mkF m 237 #[iv p1, iv p2, iv p3, iv p4, iv p5, rv b_1, iv 5, rv b__127] [(.int (own_pick p1 p2 p3 ((p4.toUInt32 >>> ((4 : Int32) &&& 31).toUInt32).toInt32)))]))
    refine o_iloadN X_146 hx (hb hby at_237) rfl ?_
    refine o_iloadN X_146 hx (hb hby at_238) rfl ?_
    refine o_iloadN X_146 hx (hb hby at_239) rfl ?_
    refine o_iloadN X_146 hx (hb hby at_240) rfl ?_
    refine o_iconst X_146 hx 4 (hb hby at_241) rfl ?_
    refine o_iushr X_146 hx (hb hby at_242) ?_
    obtain ⟨_, _, ⟨T_148, L_148, k_148, n_148⟩, -, X_148, ⟨Lc_148, hQ_148, l_148, y_148, z_148⟩, st_148⟩ := Jvm.LawKit.callS X_146 hx (y := (⟨"com/example/ordinance/ordinance/policy/PartFinderBordersPinLaw", "pick", "(IIII)I"⟩ : MethodName)) hown (mvT hZ (hw _ (List.mem_of_getElem? (i := 1) rfl))) (mvT hZ (hw _ (List.mem_of_getElem? (i := 2) rfl))) (mvT hZ (hw _ (List.mem_of_getElem? (i := 3) rfl))) (mvT hZ (hw _ (List.mem_of_getElem? (i := 4) rfl))) (by decide) (backOf (W := 1) (rm1 l Z a0 hw [] p1 p2 p3 ((p4.toUInt32 >>> ((4 : Int32) &&& 31).toUInt32).toInt32)  T_127.heap n0 Zs_134) hZ (hw _ (List.mem_of_getElem? (i := 4) rfl)) (hw _ (List.mem_of_getElem? (i := 3) rfl)) (by decide) (by decide)) (g := (mkF m 243 #[iv p1, iv p2, iv p3, iv p4, iv p5, rv b_1, iv 5, rv b__127] [(.int ((p4.toUInt32 >>> ((4 : Int32) &&& 31).toUInt32).toInt32)), (.int p3), (.int p2), (.int p1), (.int (own_pick p1 p2 p3 ((p4.toUInt32 >>> ((4 : Int32) &&& 31).toUInt32).toInt32)))])) rfl (by rw [hml]; rfl) (argsL := [(.int p1), (.int p2), (.int p3), (.int ((p4.toUInt32 >>> ((4 : Int32) &&& 31).toUInt32).toInt32))]) (rest := [(.int (own_pick p1 p2 p3 ((p4.toUInt32 >>> ((4 : Int32) &&& 31).toUInt32).toInt32)))]) (lenOf pd_2 rfl) rfl (by show 2 * 0 + _ ≤ _; exact Nat.le_of_eq rfl) (hb hby at_243) (fun _ _ => ⟨rfl, e_146, (by decide : 2 + 0 ≤ _), (by decide : 10 + 0 ≤ _)⟩)
    dsimp only [Pt.U, Pt.locs, Pt.cells, Pt.slots] at X_148 l_148 y_148 z_148 st_148 hQ_148
    subst l_148 y_148 z_148
    obtain ⟨rfl, Nq_148, e_148⟩ := hQ_148
    have N_148 := Fr.app N_146 Nq_148
    refine own_st st_148 ?_
    show own_Go _ _ _ _ (T_148.setTop (mkF m 246 #[iv p1, iv p2, iv p3, iv p4, iv p5, rv b_1, iv 5, rv b__127] [(.int (own_pick p1 p2 p3 ((p4.toUInt32 >>> ((4 : Int32) &&& 31).toUInt32).toInt32))), (.int (own_pick p1 p2 p3 ((p4.toUInt32 >>> ((4 : Int32) &&& 31).toUInt32).toInt32)))]))
    refine o_icmpNo X_148 hx (hb hby at_246) (teq (rfl : (own_pick p1 p2 p3 ((p4.toUInt32 >>> ((4 : Int32) &&& 31).toUInt32).toInt32)) = (own_pick p1 p2 p3 ((p4.toUInt32 >>> ((4 : Int32) &&& 31).toUInt32).toInt32)))).2 ?_
    refine o_aload X_148 hx (hb hby at_249) rfl rfl ?_
    refine o_iconst X_148 hx 3 (hb hby at_251) rfl ?_
    obtain ⟨cl_149, Ar_149, qk_149, Sz_149, Ng_149, Hs_149, Gs_149⟩ := id Fa_133
    refine own_st (X_148.iaload hx (j := (3 : Int32)) (v := (.int (own_pick p1 p2 p3 ((p4.toUInt32 >>> ((6 : Int32) &&& 31).toUInt32).toInt32)))) (by rw [e_148]; exact Ar_149.1) (State.isArrayOf_alike hZ.alike Ar_149.2.1) Ar_149.2.2 (inb_of Sz_149 ⟨by decide, by decide⟩) (Hs_149.at (j := (3 : Int32)) (inb_of Sz_149 ⟨by decide, by decide⟩) rfl) (g := (mkF m 252 #[iv p1, iv p2, iv p3, iv p4, iv p5, rv b_1, iv 5, rv b__127] [(.int 3), (.ref b_1)])) rfl rfl (hb hby at_252)) ?_
    show own_Go _ _ _ _ (T_148.setTop (mkF m 253 #[iv p1, iv p2, iv p3, iv p4, iv p5, rv b_1, iv 5, rv b__127] [(.int (own_pick p1 p2 p3 ((p4.toUInt32 >>> ((6 : Int32) &&& 31).toUInt32).toInt32)))]))
    refine o_iloadN X_148 hx (hb hby at_253) rfl ?_
    refine o_iloadN X_148 hx (hb hby at_254) rfl ?_
    refine o_iloadN X_148 hx (hb hby at_255) rfl ?_
    refine o_iloadN X_148 hx (hb hby at_256) rfl ?_
    refine o_bipush X_148 hx 6 (hb hby at_257) rfl ?_
    refine o_iushr X_148 hx (hb hby at_259) ?_
    obtain ⟨_, _, ⟨T_150, L_150, k_150, n_150⟩, -, X_150, ⟨Lc_150, hQ_150, l_150, y_150, z_150⟩, st_150⟩ := Jvm.LawKit.callS X_148 hx (y := (⟨"com/example/ordinance/ordinance/policy/PartFinderBordersPinLaw", "pick", "(IIII)I"⟩ : MethodName)) hown (mvT hZ (hw _ (List.mem_of_getElem? (i := 1) rfl))) (mvT hZ (hw _ (List.mem_of_getElem? (i := 2) rfl))) (mvT hZ (hw _ (List.mem_of_getElem? (i := 3) rfl))) (mvT hZ (hw _ (List.mem_of_getElem? (i := 4) rfl))) (by decide) (backOf (W := 1) (rm1 l Z a0 hw [] p1 p2 p3 ((p4.toUInt32 >>> ((6 : Int32) &&& 31).toUInt32).toInt32)  T_127.heap n0 Zs_134) hZ (hw _ (List.mem_of_getElem? (i := 4) rfl)) (hw _ (List.mem_of_getElem? (i := 3) rfl)) (by decide) (by decide)) (g := (mkF m 260 #[iv p1, iv p2, iv p3, iv p4, iv p5, rv b_1, iv 5, rv b__127] [(.int ((p4.toUInt32 >>> ((6 : Int32) &&& 31).toUInt32).toInt32)), (.int p3), (.int p2), (.int p1), (.int (own_pick p1 p2 p3 ((p4.toUInt32 >>> ((6 : Int32) &&& 31).toUInt32).toInt32)))])) rfl (by rw [hml]; rfl) (argsL := [(.int p1), (.int p2), (.int p3), (.int ((p4.toUInt32 >>> ((6 : Int32) &&& 31).toUInt32).toInt32))]) (rest := [(.int (own_pick p1 p2 p3 ((p4.toUInt32 >>> ((6 : Int32) &&& 31).toUInt32).toInt32)))]) (lenOf pd_2 rfl) rfl (by show 2 * 0 + _ ≤ _; exact Nat.le_of_eq rfl) (hb hby at_260) (fun _ _ => ⟨rfl, e_148, (by decide : 2 + 0 ≤ _), (by decide : 10 + 0 ≤ _)⟩)
    dsimp only [Pt.U, Pt.locs, Pt.cells, Pt.slots] at X_150 l_150 y_150 z_150 st_150 hQ_150
    subst l_150 y_150 z_150
    obtain ⟨rfl, Nq_150, e_150⟩ := hQ_150
    have N_150 := Fr.app N_148 Nq_150
    refine own_st st_150 ?_
    show own_Go _ _ _ _ (T_150.setTop (mkF m 263 #[iv p1, iv p2, iv p3, iv p4, iv p5, rv b_1, iv 5, rv b__127] [(.int (own_pick p1 p2 p3 ((p4.toUInt32 >>> ((6 : Int32) &&& 31).toUInt32).toInt32))), (.int (own_pick p1 p2 p3 ((p4.toUInt32 >>> ((6 : Int32) &&& 31).toUInt32).toInt32)))]))
    refine o_icmpNo X_150 hx (hb hby at_263) (teq (rfl : (own_pick p1 p2 p3 ((p4.toUInt32 >>> ((6 : Int32) &&& 31).toUInt32).toInt32)) = (own_pick p1 p2 p3 ((p4.toUInt32 >>> ((6 : Int32) &&& 31).toUInt32).toInt32)))).2 ?_
    refine o_aload X_150 hx (hb hby at_266) rfl rfl ?_
    refine o_iconst X_150 hx 4 (hb hby at_268) rfl ?_
    obtain ⟨cl_151, Ar_151, qk_151, Sz_151, Ng_151, Hs_151, Gs_151⟩ := id Fa_133
    refine own_st (X_150.iaload hx (j := (4 : Int32)) (v := (.int (own_pick p1 p2 p3 ((p4.toUInt32 >>> ((8 : Int32) &&& 31).toUInt32).toInt32)))) (by rw [e_150]; exact Ar_151.1) (State.isArrayOf_alike hZ.alike Ar_151.2.1) Ar_151.2.2 (inb_of Sz_151 ⟨by decide, by decide⟩) (Hs_151.at (j := (4 : Int32)) (inb_of Sz_151 ⟨by decide, by decide⟩) rfl) (g := (mkF m 269 #[iv p1, iv p2, iv p3, iv p4, iv p5, rv b_1, iv 5, rv b__127] [(.int 4), (.ref b_1)])) rfl rfl (hb hby at_269)) ?_
    show own_Go _ _ _ _ (T_150.setTop (mkF m 270 #[iv p1, iv p2, iv p3, iv p4, iv p5, rv b_1, iv 5, rv b__127] [(.int (own_pick p1 p2 p3 ((p4.toUInt32 >>> ((8 : Int32) &&& 31).toUInt32).toInt32)))]))
    refine o_iloadN X_150 hx (hb hby at_270) rfl ?_
    refine o_iloadN X_150 hx (hb hby at_271) rfl ?_
    refine o_iloadN X_150 hx (hb hby at_272) rfl ?_
    refine o_iloadN X_150 hx (hb hby at_273) rfl ?_
    refine o_bipush X_150 hx 8 (hb hby at_274) rfl ?_
    refine o_iushr X_150 hx (hb hby at_276) ?_
    obtain ⟨_, _, ⟨T_152, L_152, k_152, n_152⟩, -, X_152, ⟨Lc_152, hQ_152, l_152, y_152, z_152⟩, st_152⟩ := Jvm.LawKit.callS X_150 hx (y := (⟨"com/example/ordinance/ordinance/policy/PartFinderBordersPinLaw", "pick", "(IIII)I"⟩ : MethodName)) hown (mvT hZ (hw _ (List.mem_of_getElem? (i := 1) rfl))) (mvT hZ (hw _ (List.mem_of_getElem? (i := 2) rfl))) (mvT hZ (hw _ (List.mem_of_getElem? (i := 3) rfl))) (mvT hZ (hw _ (List.mem_of_getElem? (i := 4) rfl))) (by decide) (backOf (W := 1) (rm1 l Z a0 hw [] p1 p2 p3 ((p4.toUInt32 >>> ((8 : Int32) &&& 31).toUInt32).toInt32)  T_127.heap n0 Zs_134) hZ (hw _ (List.mem_of_getElem? (i := 4) rfl)) (hw _ (List.mem_of_getElem? (i := 3) rfl)) (by decide) (by decide)) (g := (mkF m 277 #[iv p1, iv p2, iv p3, iv p4, iv p5, rv b_1, iv 5, rv b__127] [(.int ((p4.toUInt32 >>> ((8 : Int32) &&& 31).toUInt32).toInt32)), (.int p3), (.int p2), (.int p1), (.int (own_pick p1 p2 p3 ((p4.toUInt32 >>> ((8 : Int32) &&& 31).toUInt32).toInt32)))])) rfl (by rw [hml]; rfl) (argsL := [(.int p1), (.int p2), (.int p3), (.int ((p4.toUInt32 >>> ((8 : Int32) &&& 31).toUInt32).toInt32))]) (rest := [(.int (own_pick p1 p2 p3 ((p4.toUInt32 >>> ((8 : Int32) &&& 31).toUInt32).toInt32)))]) (lenOf pd_2 rfl) rfl (by show 2 * 0 + _ ≤ _; exact Nat.le_of_eq rfl) (hb hby at_277) (fun _ _ => ⟨rfl, e_150, (by decide : 2 + 0 ≤ _), (by decide : 10 + 0 ≤ _)⟩)
    dsimp only [Pt.U, Pt.locs, Pt.cells, Pt.slots] at X_152 l_152 y_152 z_152 st_152 hQ_152
    subst l_152 y_152 z_152
    obtain ⟨rfl, Nq_152, e_152⟩ := hQ_152
    have N_152 := Fr.app N_150 Nq_152
    refine own_st st_152 ?_
    show own_Go _ _ _ _ (T_152.setTop (mkF m 280 #[iv p1, iv p2, iv p3, iv p4, iv p5, rv b_1, iv 5, rv b__127] [(.int (own_pick p1 p2 p3 ((p4.toUInt32 >>> ((8 : Int32) &&& 31).toUInt32).toInt32))), (.int (own_pick p1 p2 p3 ((p4.toUInt32 >>> ((8 : Int32) &&& 31).toUInt32).toInt32)))]))
    refine o_icmpNo X_152 hx (hb hby at_280) (teq (rfl : (own_pick p1 p2 p3 ((p4.toUInt32 >>> ((8 : Int32) &&& 31).toUInt32).toInt32)) = (own_pick p1 p2 p3 ((p4.toUInt32 >>> ((8 : Int32) &&& 31).toUInt32).toInt32)))).2 ?_
    refine o_iconst X_152 hx 1 (hb hby at_283) rfl ?_
    refine o_goto X_152 hx (pc' := 288) (hb hby at_284) (by decide) (by decide) ?_
    have Kp_153 : Keep h0 T_127.heap [] := (Kp_129.trans K_127 all0)
    exact own_end X_152 e_152 (v := some (.int (1 : Int32))) (fun h => by rw [Bd.returns] at h; cases h) hlk (fun fs hr => retN X_152 hx (z := (1 : Int32)) (t := .boolean) Bd.returns (by simp) (hb hby at_288) hr) (Q := Q_rm0 Z a0 p1 p2 p3 p4 p5 h0 n0) ⟨rfl, N_152, Kp_153⟩ (by decide) (by decide)
set_option maxRecDepth 65536 in
set_option maxHeartbeats 40000000 in
theorem comes_1 {Post : Tables → Env → Array Value → State → Outcome → State → Prop} (hpost : ∀ tb e args s v u, (limb_1_1.after args s (.returned v) u = true ∧ limb_1_2.after args s (.returned v) u = true ∧ True) → FrameEnd s (.returned v) u (Jvm.fieldLocs frame_1_writes args s ++ Jvm.arrayLocs frame_1_arrays args s ++ Jvm.staticLocs frame_1_statics s) 16 128 → Post tb e args s (.returned v) u) :
    ArmFor flags0 classFile x code maxLocals ret World_1 tables_1 room_1 Calls_1 rest_1 Pre_1 Post := by
  intro l hfl _ _ p e ha hc hk s m args below hf hA hF happ hP
  obtain ⟨hcalls, hrest, hpre⟩ := hP
  obtain ⟨-, -, -, hnamed, -, -, -, hat⟩ := (Spec.applies_iff hf).mp happ
  obtain ⟨hg, hn⟩ := and_e (Cond.before_iff.mp (show (Jvm.Cond.and given_1 narrow_1).before args s = true from hpre))
  obtain ⟨g1, g2⟩ := and_e hg
  obtain ⟨g3, g4⟩ := and_e g2
  obtain ⟨g5, g6⟩ := and_e g4
  obtain ⟨g7, g8⟩ := and_e g6
  obtain ⟨g9, g10⟩ := and_e g8
  obtain ⟨w0, w1, w2, w3, w4, rfl⟩ : ∃ w0 w1 w2 w3 w4 : Value, args = #[w0, w1, w2, w3, w4] := by
    have hs : args.size = 5 := by simpa [Cond.value, given_1] using g1
    obtain ⟨L⟩ := args
    match L, hs with
    | [w0, w1, w2, w3, w4], _ => exact ⟨w0, w1, w2, w3, w4, rfl⟩
  have hw := fun d (hd : d ∈ tables_1) => atoms_spec (ws := Jvm.Cond.code x code maxLocals ret :: tables_1) hat d (List.mem_cons_of_mem _ hd)
  have hfit : Fit s := fun {y c} hc i hi => by
    obtain ⟨ha, rfl⟩ := Array.getElem?_eq_some_iff.mp hc
    have q := List.all_eq_true.mp ((Array.all_eq_true_iff_forall_mem.mp hF) _ (Array.getElem_mem ha)) i (List.mem_range.mpr hi)
    simpa [Array.getElem?_eq_getElem hi] using q
  obtain ⟨i0, ei0⟩ := is_v g3
  obtain rfl : w0 = (.int i0) := Option.some.inj ei0
  obtain ⟨i1, ei1⟩ := is_v g5
  obtain rfl : w1 = (.int i1) := Option.some.inj ei1
  obtain ⟨i2, ei2⟩ := is_v g7
  obtain rfl : w2 = (.int i2) := Option.some.inj ei2
  obtain ⟨i3, ei3⟩ := is_v g9
  obtain rfl : w3 = (.int i3) := Option.some.inj ei3
  obtain ⟨i4, ei4⟩ := is_v g10
  obtain rfl : w4 = (.int i4) := Option.some.inj ei4
  obtain ⟨n, o, h1, h2, h3, _, L, rfl, ⟨rfl, N, -⟩, hq⟩ := rm0 l s _ hw tables_1 i0 i1 i2 i3 i4  s.heap s.heap.size (Nat.le_refl _)  p e ha hc hk s m _ below hf ((Spec.applies_iff_loose hf).mp happ).1 ⟨rfl, State.Warmed39.refl s, rfl⟩ trivial
  refine ⟨n, _, h1, h2, h3, hpost _ _ _ _ _ _ ⟨Cond.after_iff.mpr rfl, Cond.after_iff.mpr (eq_i res_at (Term.int_eval (1)) rfl), trivial⟩ ⟨hq.1, hq.2.1, (hq.2.2.sift fun y hy => Or.inr (N y hy)).mono (by decide) (by decide)⟩⟩
theorem main_1_1 : Claimed_1_1 := comes_1 fun _ _ _ _ _ _ h hF => ⟨h.1, hF⟩
theorem main_1_2 : Claimed_1_2 := comes_1 fun _ _ _ _ _ _ h hF => ⟨h.2.1, hF⟩
end Jvm.Pilot.@@N@@
namespace Jvm.Pilot.@@N@@
open Jvm Jvm.ClassFile Sem Op Lib Jvm.Free Jvm.Stand Jvm.Pilot.@@N@@.Jvm.D
/-! MADE BY PROGRAM (witnessworld.py) out of the Statement's table words and the real class files: 9 classes; the members and pool entries that the words name. The judged class is class 1, her method 1. -/
namespace start1
open Jvm.ClassFile
def u (s : String) : CpInfo := .utf8 (stringToUtf16 s)
/-- a pool by its gaps: so many unusable entries, then the entry; so many at the end -/
def gap : Nat → List CpInfo → List CpInfo
  | 0, r => r
  | n + 1, r => .unusable :: gap n r
def poolList (es : List (Nat × CpInfo)) (last : Nat) : List CpInfo := es.foldr (fun e r => gap e.1 (e.2 :: r)) (gap last [])
def pool (es : List (Nat × CpInfo)) (last : Nat) : Array CpInfo := ⟨poolList es last⟩
def fileOf (pool : Array CpInfo) (this : Nat) (attrs : Array Attribute := #[]) (ms : Array MethodInfo := #[]) (fl : Nat := 33) (sup : Nat := 0) (ifs : Array Nat := #[]) (fds : Array FieldInfo := #[]) : ClassFile where
  minorVersion := 0
  majorVersion := 65
  constantPool := pool
  accessFlags := fl
  thisClass := this
  superClass := sup
  interfaces := ifs
  fields := fds
  methods := ms
  attributes := attrs
def plain (name : String) (sup : Option ClassId) : Class where
  name := name
  kind := .ordinary
  loader := none
  accessFlags := 33
  super := sup
  interfaces := #[]
  cf := none
  fields := #[]
  methods := #[]
  instanceTypes := #[]
  staticTypes := #[]
  resolved := #[]
  callSites := []
  init := .initialized
  statics := none
  mirror := none

def pool0 : Array CpInfo := pool [(5, u "<init>"), (0, u "()V"), (1, .class_ 10), (1, u "java/lang/Object")] 113

def k0m0 : Method := { name := "<init>", desc := "()V", sig := { parameters := [], returnType := none }, accessFlags := 1, code := none }
/-- java/lang/Object -/
def k0 : Class := { plain "java/lang/Object" none with
  accessFlags := 33
  interfaces := #[]
  cf := some (fileOf pool0 8 #[] #[{ accessFlags := 1, nameIndex := 5, descriptorIndex := 6, attributes := #[] }] 33 0 #[] #[])
  fields := #[]
  methods := #[k0m0]
  instanceTypes := #[]
  staticTypes := #[]
  resolved := Array.replicate 124 none
  statics := none }

def pool1 : Array CpInfo := pool [(2, .class_ 4), (1, u "java/lang/Object"), (0, u "<init>"), (0, u "()V"), (0, .methodref 8 9), (0, .class_ 10), (0, .nameAndType 11 12), (0, u "com/example/ordinance/ordinance/policy/PartFinderBordersPinLaw"), (0, u "pick"), (0, u "(IIII)I"), (0, .integer 2147483647), (0, .methodref 15 16), (0, .class_ 17), (0, .nameAndType 18 19), (0, u "com/example/ordinance/ordinance/policy/PartFinder"), (0, u "borders"), (0, u "([II)[I"), (0, .methodref 8 21), (0, .nameAndType 22 23), (0, u "ref"), (0, u "([II)I"), (0, .methodref 8 25), (0, .nameAndType 26 27), (0, u "eq"), (0, u "([III)Z"), (2, u "law"), (0, u "(IIIII)Z")] 5

def k1m0 : Method := { name := "<init>", desc := "()V", sig := { parameters := [], returnType := none }, accessFlags := 1, code := none }
def k1c1 : Code := { maxStack := 7, maxLocals := 8, code := code, exceptionTable := #[], attributes := #[] }
def k1m1 : Method := { name := "law", desc := "(IIIII)Z", sig := { parameters := [.int, .int, .int, .int, .int], returnType := some .boolean }, accessFlags := 9, code := some k1c1 }
def k1c2 : Code := { maxStack := 2, maxLocals := 5, code := method_3_code, exceptionTable := #[], attributes := #[] }
def k1m2 : Method := { name := "pick", desc := "(IIII)I", sig := { parameters := [.int, .int, .int, .int], returnType := some .int }, accessFlags := 10, code := some k1c2 }
def k1c3 : Code := { maxStack := 4, maxLocals := 3, code := method_4_code, exceptionTable := #[], attributes := #[] }
def k1m3 : Method := { name := "eq", desc := "([III)Z", sig := { parameters := [(.array .int), .int, .int], returnType := some .boolean }, accessFlags := 10, code := some k1c3 }
def k1c4 : Code := { maxStack := 3, maxLocals := 2, code := method_5_code, exceptionTable := #[], attributes := #[] }
def k1m4 : Method := { name := "ref", desc := "([II)I", sig := { parameters := [(.array .int), .int], returnType := some .int }, accessFlags := 10, code := some k1c4 }
/-- com/example/ordinance/ordinance/policy/PartFinderBordersPinLaw -/
def k1 : Class := { plain "com/example/ordinance/ordinance/policy/PartFinderBordersPinLaw" (some 0) with
  accessFlags := 49
  interfaces := #[]
  cf := some (fileOf pool1 8 #[] #[{ accessFlags := 1, nameIndex := 5, descriptorIndex := 6, attributes := #[] }, { accessFlags := 9, nameIndex := 30, descriptorIndex := 31, attributes := #[] }, { accessFlags := 10, nameIndex := 11, descriptorIndex := 12, attributes := #[] }, { accessFlags := 10, nameIndex := 26, descriptorIndex := 27, attributes := #[] }, { accessFlags := 10, nameIndex := 22, descriptorIndex := 23, attributes := #[] }] 49 2 #[] #[])
  fields := #[]
  methods := #[k1m0, k1m1, k1m2, k1m3, k1m4]
  instanceTypes := #[]
  staticTypes := #[]
  resolved := Array.replicate 37 none
  statics := none }

def pool2 : Array CpInfo := pool [(2, .class_ 4), (1, u "java/lang/Object"), (24, .class_ 31), (1, u "com/example/ordinance/ordinance/policy/PartFinder"), (0, u "length"), (0, u "I"), (9, u "[[I"), (2, u "runs"), (21, u "offsets"), (0, u "[I"), (11, u "borders"), (0, .class_ 83), (0, u "com/example/ordinance/ordinance/policy/PartFinder$Reader"), (10, u "([II)[I")] 55

def k2c0 : Code := { maxStack := 3, maxLocals := 5, code := prog_23_method_3_code, exceptionTable := #[], attributes := #[] }
def k2m0 : Method := { name := "borders", desc := "([II)[I", sig := { parameters := [(.array .int), .int], returnType := some (.array .int) }, accessFlags := 8, code := some k2c0 }
/-- com/example/ordinance/ordinance/policy/PartFinder -/
def k2 : Class := { plain "com/example/ordinance/ordinance/policy/PartFinder" (some 0) with
  accessFlags := 48
  interfaces := #[]
  cf := some (fileOf pool2 29 #[.nestMembers #[82]] #[{ accessFlags := 8, nameIndex := 81, descriptorIndex := 94, attributes := #[] }] 48 2 #[] #[{ accessFlags := 18, nameIndex := 32, descriptorIndex := 33, attributes := #[] }, { accessFlags := 18, nameIndex := 46, descriptorIndex := 43, attributes := #[] }, { accessFlags := 18, nameIndex := 68, descriptorIndex := 69, attributes := #[] }, { accessFlags := 18, nameIndex := 81, descriptorIndex := 43, attributes := #[] }])
  fields := #[{ name := "length", type := .int, accessFlags := 18, slot := 0, constantValue := 0 }, { name := "runs", type := (.array (.array .int)), accessFlags := 18, slot := 1, constantValue := 0 }, { name := "offsets", type := (.array .int), accessFlags := 18, slot := 2, constantValue := 0 }, { name := "borders", type := (.array (.array .int)), accessFlags := 18, slot := 3, constantValue := 0 }]
  methods := #[k2m0]
  instanceTypes := #[.int, (.array (.array .int)), (.array .int), (.array (.array .int))]
  staticTypes := #[]
  resolved := Array.replicate 150 none
  statics := none }

def pool3 : Array CpInfo := pool [(1, u "java/lang/Cloneable"), (0, .class_ 1), (0, u "java/lang/Object"), (0, .class_ 3)] 3

/-- java/lang/Cloneable -/
def k3 : Class := { plain "java/lang/Cloneable" (some 0) with
  accessFlags := 1537
  interfaces := #[]
  cf := some (fileOf pool3 2 #[] #[] 1537 4 #[] #[])
  fields := #[]
  methods := #[]
  instanceTypes := #[]
  staticTypes := #[]
  resolved := Array.replicate 8 none
  statics := none }

def pool4 : Array CpInfo := pool [(1, u "java/io/Serializable"), (0, .class_ 1), (0, u "java/lang/Object"), (0, .class_ 3)] 3

/-- java/io/Serializable -/
def k4 : Class := { plain "java/io/Serializable" (some 0) with
  accessFlags := 1537
  interfaces := #[]
  cf := some (fileOf pool4 2 #[] #[] 1537 4 #[] #[])
  fields := #[]
  methods := #[]
  instanceTypes := #[]
  staticTypes := #[]
  resolved := Array.replicate 8 none
  statics := none }

/-- the primitive byte -/
def k5 : Class := { plain "byte" none with kind := .primitive 'B', accessFlags := 0x411 }
/-- [B -/
def k6 : Class := { plain "[B" (some 0) with kind := .array 5 .byte, interfaces := #[3, 4], accessFlags := 1041 }

/-- the primitive int -/
def k7 : Class := { plain "int" none with kind := .primitive 'I', accessFlags := 0x411 }
/-- [I -/
def k8 : Class := { plain "[I" (some 0) with kind := .array 7 .int, interfaces := #[3, 4], accessFlags := 1041 }

def heap : Heap := #[]
def classes : Array Class := #[k0, k1, k2, k3, k4, k5, k6, k7, k8]
def interned : List (Array UInt16 × Addr) := []
def slotsUsed : Nat := 0
def theMethod : MethodId := ⟨1, 1⟩
def args0 : Array Value := #[.int 1, .int 2, .int 3, .int 4, .int 5]
def aboutOver (below : List Frame) : State where
  vm := { classes := classes, interned := interned.toArray }
  heap := heap
  slotsUsed := slotsUsed
  threads := #[{ frames := .invoking theMethod args0 :: below }]
def below0 : List Frame := [.native { method := ⟨0, 0⟩, args := #[] }]
def about1 : State := aboutOver below0
def p0 : Program := .bare "" "" ""
def e0 : Env := launch0.env 0 0 0
theorem w_frames : about1.frames = Frame.invoking theMethod args0 :: below0 := rfl
set_option maxRecDepth 65536 in
theorem w_args : argsFit about1.vm theMethod args0 = true := by decide +kernel
set_option maxRecDepth 65536 in
theorem w_heap : heapFits about1 = true := by decide +kernel
set_option maxRecDepth 65536 in
theorem w_runnable : about1.curStatus? = some .runnable := by decide +kernel
set_option maxRecDepth 65536 in
theorem w_alone : about1.alone = true := by decide +kernel
set_option maxRecDepth 65536 in
theorem w_named : about1.methodNamed? x = some theMethod := by decide +kernel
set_option maxRecDepth 65536 in
theorem w_hears : about1.hears theMethod below0 = true := by decide +kernel
set_option maxRecDepth 65536 in
theorem w_ripe : about1.ripe theMethod args0 below0 = true := by decide +kernel
theorem w_running : about1.status = .running := rfl
set_option maxRecDepth 65536 in
theorem w_room : about1.hasRoom e0.platform room_1 = true :=
  launch0.hasRoom_least _ room_1 (by decide +kernel) (by decide +kernel) (by decide +kernel) (by decide +kernel) (by decide +kernel) (by decide +kernel)
theorem allAtoms_all (ts : List Jvm.Cond) (a : Array Jvm.Value) (st : Jvm.State) : (allAtoms ts).before a st = ts.all (fun c => c.before a st) := by
  induction ts with
  | nil => rfl
  | cons c t ih =>
    show (Jvm.Cond.and c (allAtoms t)).before a st = _
    rw [Jvm.Cond.before_and, ih, List.all_cons]
def words1 : List Jvm.Cond := Jvm.Cond.code x code maxLocals ret :: tables_1
/-- a 'code' word, met by the world's own term for the bytes: nothing is compared byte by byte -/
theorem code_word {y : MethodName} {bytes : ByteArray} {mx : Nat} {rt : Option FieldType} {a : Array Value} {s : State} {m : MethodId} {meth : Method} {c : Code} (h1 : s.methodNamed? y = some m) (h2 : s.vm.method? m = some meth) (h3 : meth.code = some c) (h4 : c.code = bytes)
    (h5 : (c.maxLocals == mx && c.exceptionTable.isEmpty && decide (c.maxStack ≤ mostOperands) && decide (meth.sig.returnType = rt) && !meth.locks && decide (parseMethodDescriptor y.desc = some meth.sig)) = true) : (Jvm.Cond.code y bytes mx rt).before a s = true := by
  simp only [Bool.and_eq_true, beq_iff_eq, Bool.not_eq_true', decide_eq_true_eq] at h5
  obtain ⟨⟨⟨⟨⟨g1, g2⟩, g3⟩, g4⟩, g5⟩, g6⟩ := h5
  simp [Cond.before, Cond.holds, Cond.value, h1, h2, h3, h4, g1, g2, g3, g4, g5, g6]
def isCode : Jvm.Cond → Bool
  | .code _ _ _ _ => true
  | _ => false
theorem all_split {L : List Jvm.Cond} {P : Jvm.Cond → Bool} (h1 : L.all (fun c => isCode c || P c) = true) (h2 : ∀ c ∈ L.filter isCode, P c = true) : L.all P = true := by
  refine List.all_eq_true.mpr fun c hc => ?_
  have h := List.all_eq_true.mp h1 c hc
  rcases Bool.eq_false_or_eq_true (isCode c) with hi | hi
  · exact h2 c (List.mem_filter.mpr ⟨hc, hi⟩)
  · simpa [hi] using h
set_option maxRecDepth 65536 in
theorem w_c0 : (Jvm.Cond.code x code maxLocals ret).before args0 about1 = true := code_word (m := ⟨1, 1⟩) (meth := k1m1) (c := k1c1) (by decide +kernel) rfl rfl rfl (by decide +kernel)
set_option maxRecDepth 65536 in
theorem w_c1 : (Jvm.Cond.code ({ cls := "com/example/ordinance/ordinance/policy/PartFinderBordersPinLaw", name := "pick", desc := "(IIII)I" } : Jvm.MethodName) method_3_code (5 : Nat) (Option.some Jvm.ClassFile.FieldType.int)).before args0 about1 = true := code_word (m := ⟨1, 2⟩) (meth := k1m2) (c := k1c2) (by decide +kernel) rfl rfl rfl (by decide +kernel)
set_option maxRecDepth 65536 in
theorem w_c2 : (Jvm.Cond.code ({ cls := "com/example/ordinance/ordinance/policy/PartFinder", name := "borders", desc := "([II)[I" } : Jvm.MethodName) prog_23_method_3_code (5 : Nat) (Option.some (Jvm.ClassFile.FieldType.array Jvm.ClassFile.FieldType.int))).before args0 about1 = true := code_word (m := ⟨2, 0⟩) (meth := k2m0) (c := k2c0) (by decide +kernel) rfl rfl rfl (by decide +kernel)
set_option maxRecDepth 65536 in
theorem w_c3 : (Jvm.Cond.code ({ cls := "com/example/ordinance/ordinance/policy/PartFinderBordersPinLaw", name := "ref", desc := "([II)I" } : Jvm.MethodName) method_5_code (2 : Nat) (Option.some Jvm.ClassFile.FieldType.int)).before args0 about1 = true := code_word (m := ⟨1, 4⟩) (meth := k1m4) (c := k1c4) (by decide +kernel) rfl rfl rfl (by decide +kernel)
set_option maxRecDepth 65536 in
theorem w_c4 : (Jvm.Cond.code ({ cls := "com/example/ordinance/ordinance/policy/PartFinderBordersPinLaw", name := "eq", desc := "([III)Z" } : Jvm.MethodName) method_4_code (3 : Nat) (Option.some Jvm.ClassFile.FieldType.boolean)).before args0 about1 = true := code_word (m := ⟨1, 3⟩) (meth := k1m3) (c := k1c3) (by decide +kernel) rfl rfl rfl (by decide +kernel)
def codes1 : List Jvm.Cond := [Jvm.Cond.code x code maxLocals ret, Jvm.Cond.code ({ cls := "com/example/ordinance/ordinance/policy/PartFinderBordersPinLaw", name := "pick", desc := "(IIII)I" } : Jvm.MethodName) method_3_code (5 : Nat) (Option.some Jvm.ClassFile.FieldType.int), Jvm.Cond.code ({ cls := "com/example/ordinance/ordinance/policy/PartFinder", name := "borders", desc := "([II)[I" } : Jvm.MethodName) prog_23_method_3_code (5 : Nat) (Option.some (Jvm.ClassFile.FieldType.array Jvm.ClassFile.FieldType.int)), Jvm.Cond.code ({ cls := "com/example/ordinance/ordinance/policy/PartFinderBordersPinLaw", name := "ref", desc := "([II)I" } : Jvm.MethodName) method_5_code (2 : Nat) (Option.some Jvm.ClassFile.FieldType.int), Jvm.Cond.code ({ cls := "com/example/ordinance/ordinance/policy/PartFinderBordersPinLaw", name := "eq", desc := "([III)Z" } : Jvm.MethodName) method_4_code (3 : Nat) (Option.some Jvm.ClassFile.FieldType.boolean)]
set_option maxRecDepth 65536 in
theorem codes_eq : words1.filter isCode = codes1 := rfl
theorem w_codes : ∀ c ∈ words1.filter isCode, c.before args0 about1 = true := by
  rw [codes_eq]
  intro c hc
  simp only [codes1, List.mem_cons, List.not_mem_nil, or_false] at hc
  rcases hc with rfl | rfl | rfl | rfl | rfl
  · exact w_c0
  · exact w_c1
  · exact w_c2
  · exact w_c3
  · exact w_c4
set_option maxRecDepth 65536 in
theorem w_t1 : words1.all (fun c => isCode c || c.before args0 about1) = true := by decide +kernel
theorem w_tables : (allAtoms (Jvm.Cond.code x code maxLocals ret :: tables_1)).before args0 about1 = true := by
  rw [allAtoms_all]
  show words1.all (fun c => c.before args0 about1) = true
  refine all_split ?_ w_codes
  rw [w_t1]
set_option maxRecDepth 65536 in
theorem w_case : (Jvm.Cond.and given_1 narrow_1).before args0 about1 = true := by decide +kernel
theorem w_applies : (headSpec (Jvm.Cond.code x code maxLocals ret :: tables_1) room_1).applies x e0.platform about1 = true :=
  (Spec.applies_iff w_frames).mpr ⟨w_running, w_runnable, w_alone, w_named, w_hears, w_ripe, w_room, w_tables⟩
theorem atStart : AtStart classFile x code maxLocals ret World_1 tables_1 room_1 Calls_1 rest_1 Pre_1 launch0 p0 e0 about1 theMethod args0 below0 :=
  ⟨lists_1, trivial, launch0.admits_env _ _ _, launch0.least_env, fairChoices_fair.cas, fairChoices_fair.clock, w_frames, w_args, w_heap, w_applies, trivial, trivial, w_case⟩
end start1
theorem witness_1 : WitnessClaimed_1 := ⟨start1.p0, start1.e0, start1.about1, start1.theMethod, start1.args0, start1.below0, start1.atStart⟩
end Jvm.Pilot.@@N@@
