import JvmDerived
import JvmDerived.Pilot.@@N@@Statement
import JvmDerived.Pilot.@@N@@Code
set_option linter.unusedVariables false
set_option linter.unusedSimpArgs false
namespace Jvm.RoadKit
open Sem ClassFile Op Lib Jvm.Stand Jvm.Free Jvm.LawKit
section New
variable {p : Program} {l : Launch} {e : Env} {R : Room} {s : State} {m : MethodId} {args : Array Value} {below : List Frame} {meth : Method} {c : Code} {T : State} {locs : List Loc} {cells slots : Nat}
theorem retI (X : Stand p l e R s m args below meth c T locs cells slots) (hx : p.tables.exec = Jvm.exec) {pc : Nat} {Ls : Array Slot} {z : Int32} {rest : List Value} (hret : meth.sig.returnType = some .int) (hd : decode c.code pc = .ok (.ireturn, 1)) {fs : List Frame}
    (hl : ∀ (f : JFrame) (acts : List Action), f.method = m → f.locked = none → f.entered = [] → (doReturn e (T.setTop f) acts (some (.int z))).1 = T.setFrames fs) : Steps p.tables e below (T.setTop (mkF m pc Ls (.int z :: rest))) (T.setFrames fs) := by
  have hm' : T.vm.method? m = some meth := X.method'
  have hn : narrow .int (.int z) = .int z := rfl
  show Steps p.tables e below (T.setTop { method := m, pc := pc, locals := Ls, stack := _ :: rest, locked := none }) _
  jvm_step X.here [X.here.top, hx, hd, hm', hret, hn]
  first | (intro acts; rw [hl _ acts rfl rfl rfl]) | rw [hl _ _ rfl rfl rfl]
  exact Steps.refl _
theorem own_retA (X : Stand p l e R s m args below meth c T locs cells slots) (hx : p.tables.exec = Jvm.exec) {pc : Nat} {Ls : Array Slot} {w : Value} {t : FieldType} {rest : List Value} (hret : meth.sig.returnType = some t) (ht : t.isReference = true) (hw : w.isRef = true) (hd : decode c.code pc = .ok (.areturn, 1)) {fs : List Frame}
    (hl : ∀ (f : JFrame) (acts : List Action), f.method = m → f.locked = none → f.entered = [] → (doReturn e (T.setTop f) acts (some w)).1 = T.setFrames fs) : Steps p.tables e below (T.setTop (mkF m pc Ls (w :: rest))) (T.setFrames fs) := by
  have hm' : T.vm.method? m = some meth := X.method'
  rcases ref_cases hw with rfl | ⟨z, rfl⟩
  all_goals
    show Steps p.tables e below (T.setTop { method := m, pc := pc, locals := Ls, stack := _ :: rest, locked := none }) _
    jvm_step X.here [X.here.top, hx, hd, hm', hret, Value.isRef]
    try (refine ⟨ht, ?_⟩)
    first | (intro acts; rw [hl _ acts rfl rfl rfl]) | rw [hl _ _ rfl rfl rfl]
    exact Steps.refl _
end New
/-- from U the run comes to an end of which P tells -/
def own_Go (tb : Tables) (e : Env) (below : List Frame) (P : Outcome → State → Prop) (U : State) : Prop := ∃ s₂ o, Steps tb e below U s₂ ∧ s₂.status = .running ∧ Ended s₂ below o ∧ P o s₂
theorem own_st {tb : Tables} {e : Env} {below : List Frame} {P : Outcome → State → Prop} {U V : State} (h : ∀ t, Steps tb e below V t → Steps tb e below U t) (g : own_Go tb e below P V) : own_Go tb e below P U := by
  obtain ⟨s₂, o, h1, r⟩ := g
  exact ⟨s₂, o, h _ h1, r⟩
theorem own_tr {tb : Tables} {e : Env} {below : List Frame} {P : Outcome → State → Prop} {U V : State} (h : Steps tb e below U V) (g : own_Go tb e below P V) : own_Go tb e below P U := by
  obtain ⟨s₂, o, h1, r⟩ := g
  exact ⟨s₂, o, h.trans h1, r⟩
theorem own_end {p : Program} {l : Launch} {e : Env} {R : Room} {s : State} {m : MethodId} {args : Array Value} {below : List Frame} {meth : Method} {c : Code} {T : State} {locs : List Loc} {cells slots : Nat} (X : Stand p l e R s m args below meth c T locs cells slots) {h : Heap} (eT : T.heap = h) {v : Option Value} (hv : meth.sig.returnType = none → v = none) (hlk : meth.locks = false) {g : JFrame}
    (hst : ∀ fs, (∀ (f : JFrame) (acts : List Action), f.method = m → f.locked = none → f.entered = [] → (doReturn e (T.setTop f) acts v).1 = T.setFrames fs) → Steps p.tables e below (T.setTop g) (T.setFrames fs))
    {Q : Option Value → Heap → List Loc → Prop} (hQ : Q v h locs) {cc ss : Nat} (hc : cells ≤ cc) (hs : slots ≤ ss) :
    own_Go p.tables e below (fun o U' => ∃ v L, o = .returned v ∧ Q v U'.heap L ∧ FrameEnd s o U' L cc ss) (T.setTop g) := by
  subst eT
  obtain ⟨fs, hr, hrun, hended, hW, hsame⟩ := X.leave (v := v) hv hlk
  exact ⟨_, _, hst fs hr, hrun, hended, _, _, rfl, hQ, ⟨_, rfl⟩, hW, hsame.mono hc hs⟩
section Steps2
variable {p : Program} {l : Launch} {e : Env} {R : Room} {s : State} {m : MethodId} {args : Array Value} {below : List Frame} {meth : Method} {c : Code} {T : State} {locs : List Loc} {cells slots : Nat} {P : Outcome → State → Prop} {pc : Nat} {Ls : Array Slot} {st : List Value}
theorem o_iloadN (X : Stand p l e R s m args below meth c T locs cells slots) (hx : p.tables.exec = Jvm.exec) {k : Fin 4} {v : Int32} (hd : decode c.code pc = .ok (.iload_n k, 1)) (hl : Ls[k.val]? = some (.val (.int v))) (g : own_Go p.tables e below P (T.setTop (mkF m (pc + 1) Ls (.int v :: st)))) : own_Go p.tables e below P (T.setTop (mkF m pc Ls st)) := own_st (fun t k => XS.iloadN X.here hx rfl hd hl k) g
theorem o_iload (X : Stand p l e R s m args below meth c T locs cells slots) (hx : p.tables.exec = Jvm.exec) {k : Nat} {v : Int32} (hd : decode c.code pc = .ok (.iload k, 2)) (hl : Ls[k]? = some (.val (.int v))) (g : own_Go p.tables e below P (T.setTop (mkF m (pc + 2) Ls (.int v :: st)))) : own_Go p.tables e below P (T.setTop (mkF m pc Ls st)) := own_st (fun t k => XS.iload X.here hx rfl hd hl k) g
theorem o_lloadN (X : Stand p l e R s m args below meth c T locs cells slots) (hx : p.tables.exec = Jvm.exec) {k : Fin 4} {v : Int64} (hd : decode c.code pc = .ok (.lload_n k, 1)) (hl : Ls[k.val]? = some (.val (.long v))) (g : own_Go p.tables e below P (T.setTop (mkF m (pc + 1) Ls (.long v :: st)))) : own_Go p.tables e below P (T.setTop (mkF m pc Ls st)) := own_st (fun t k => XS.lloadN X.here hx rfl hd hl k) g
theorem o_lload (X : Stand p l e R s m args below meth c T locs cells slots) (hx : p.tables.exec = Jvm.exec) {k : Nat} {v : Int64} (hd : decode c.code pc = .ok (.lload k, 2)) (hl : Ls[k]? = some (.val (.long v))) (g : own_Go p.tables e below P (T.setTop (mkF m (pc + 2) Ls (.long v :: st)))) : own_Go p.tables e below P (T.setTop (mkF m pc Ls st)) := own_st (fun t k => XS.lload X.here hx rfl hd hl k) g
theorem o_aloadN (X : Stand p l e R s m args below meth c T locs cells slots) (hx : p.tables.exec = Jvm.exec) {k : Fin 4} {v : Value} (hd : decode c.code pc = .ok (.aload_n k, 1)) (hl : Ls[k.val]? = some (.val v)) (hv : v.isRef = true) (g : own_Go p.tables e below P (T.setTop (mkF m (pc + 1) Ls (v :: st)))) : own_Go p.tables e below P (T.setTop (mkF m pc Ls st)) := own_st (fun t k => XS.aloadN X.here hx rfl hd hl hv k) g
theorem o_aload (X : Stand p l e R s m args below meth c T locs cells slots) (hx : p.tables.exec = Jvm.exec) {k : Nat} {v : Value} (hd : decode c.code pc = .ok (.aload k, 2)) (hl : Ls[k]? = some (.val v)) (hv : v.isRef = true) (g : own_Go p.tables e below P (T.setTop (mkF m (pc + 2) Ls (v :: st)))) : own_Go p.tables e below P (T.setTop (mkF m pc Ls st)) := own_st (fun t k => XS.aload X.here hx rfl hd hl hv k) g
theorem o_istoreN (X : Stand p l e R s m args below meth c T locs cells slots) (hx : p.tables.exec = Jvm.exec) {k : Fin 4} {v : Int32} {l' : Array Slot} (hd : decode c.code pc = .ok (.istore_n k, 1)) (hl : storeLocals Ls k.val (.int v) = some l') (g : own_Go p.tables e below P (T.setTop (mkF m (pc + 1) l' st))) : own_Go p.tables e below P (T.setTop (mkF m pc Ls (.int v :: st))) := own_st (fun t k => XS.istoreN X.here hx rfl hd rfl hl k) g
theorem o_istore (X : Stand p l e R s m args below meth c T locs cells slots) (hx : p.tables.exec = Jvm.exec) {k : Nat} {v : Int32} {l' : Array Slot} (hd : decode c.code pc = .ok (.istore k, 2)) (hl : storeLocals Ls k (.int v) = some l') (g : own_Go p.tables e below P (T.setTop (mkF m (pc + 2) l' st))) : own_Go p.tables e below P (T.setTop (mkF m pc Ls (.int v :: st))) := own_st (fun t k => XS.istore X.here hx rfl hd rfl hl k) g
theorem o_lstoreN (X : Stand p l e R s m args below meth c T locs cells slots) (hx : p.tables.exec = Jvm.exec) {k : Fin 4} {v : Int64} {l' : Array Slot} (hd : decode c.code pc = .ok (.lstore_n k, 1)) (hl : storeLocals Ls k.val (.long v) = some l') (g : own_Go p.tables e below P (T.setTop (mkF m (pc + 1) l' st))) : own_Go p.tables e below P (T.setTop (mkF m pc Ls (.long v :: st))) := own_st (fun t k => XS.lstoreN X.here hx rfl hd rfl hl k) g
theorem o_lstore (X : Stand p l e R s m args below meth c T locs cells slots) (hx : p.tables.exec = Jvm.exec) {k : Nat} {v : Int64} {l' : Array Slot} (hd : decode c.code pc = .ok (.lstore k, 2)) (hl : storeLocals Ls k (.long v) = some l') (g : own_Go p.tables e below P (T.setTop (mkF m (pc + 2) l' st))) : own_Go p.tables e below P (T.setTop (mkF m pc Ls (.long v :: st))) := own_st (fun t k => XS.lstore X.here hx rfl hd rfl hl k) g
theorem o_astoreN (X : Stand p l e R s m args below meth c T locs cells slots) (hx : p.tables.exec = Jvm.exec) {k : Fin 4} {v : Value} {l' : Array Slot} (hd : decode c.code pc = .ok (.astore_n k, 1)) (hv : v.isRef = true) (hl : storeLocals Ls k.val v = some l') (g : own_Go p.tables e below P (T.setTop (mkF m (pc + 1) l' st))) : own_Go p.tables e below P (T.setTop (mkF m pc Ls (v :: st))) := own_st (fun t k => XS.astoreN X.here hx rfl hd rfl hv hl k) g
theorem o_astore (X : Stand p l e R s m args below meth c T locs cells slots) (hx : p.tables.exec = Jvm.exec) {k : Nat} {v : Value} {l' : Array Slot} (hd : decode c.code pc = .ok (.astore k, 2)) (hv : v.isRef = true) (hl : storeLocals Ls k v = some l') (g : own_Go p.tables e below P (T.setTop (mkF m (pc + 2) l' st))) : own_Go p.tables e below P (T.setTop (mkF m pc Ls (v :: st))) := own_st (fun t k => XS.astore X.here hx rfl hd rfl hv hl k) g
theorem o_iconst (X : Stand p l e R s m args below meth c T locs cells slots) (hx : p.tables.exec = Jvm.exec) {i : Int} (z : Int32) (hd : decode c.code pc = .ok (.iconst i, 1)) (hz : Int32.ofInt i = z) (g : own_Go p.tables e below P (T.setTop (mkF m (pc + 1) Ls (.int z :: st)))) : own_Go p.tables e below P (T.setTop (mkF m pc Ls st)) := by subst hz; exact own_st (fun t k => XS.iconst X.here hx rfl hd k) g
theorem o_bipush (X : Stand p l e R s m args below meth c T locs cells slots) (hx : p.tables.exec = Jvm.exec) {i : Int} (z : Int32) (hd : decode c.code pc = .ok (.bipush i, 2)) (hz : (Int8.ofInt i).toInt32 = z) (g : own_Go p.tables e below P (T.setTop (mkF m (pc + 2) Ls (.int z :: st)))) : own_Go p.tables e below P (T.setTop (mkF m pc Ls st)) := by subst hz; exact own_st (fun t k => XS.bipush X.here hx rfl hd k) g
theorem o_sipush (X : Stand p l e R s m args below meth c T locs cells slots) (hx : p.tables.exec = Jvm.exec) {i : Int} (z : Int32) (hd : decode c.code pc = .ok (.sipush i, 3)) (hz : (Int16.ofInt i).toInt32 = z) (g : own_Go p.tables e below P (T.setTop (mkF m (pc + 3) Ls (.int z :: st)))) : own_Go p.tables e below P (T.setTop (mkF m pc Ls st)) := by subst hz; exact own_st (fun t k => XS.sipush X.here hx rfl hd k) g
theorem o_lconst (X : Stand p l e R s m args below meth c T locs cells slots) (hx : p.tables.exec = Jvm.exec) {i : Fin 2} (z : Int64) (hd : decode c.code pc = .ok (.lconst i, 1)) (hz : Int64.ofNat i = z) (g : own_Go p.tables e below P (T.setTop (mkF m (pc + 1) Ls (.long z :: st)))) : own_Go p.tables e below P (T.setTop (mkF m pc Ls st)) := by subst hz; exact own_st (fun t k => XS.lconst X.here hx rfl hd k) g
theorem o_aconstNull (X : Stand p l e R s m args below meth c T locs cells slots) (hx : p.tables.exec = Jvm.exec) (hd : decode c.code pc = .ok (.aconst_null, 1)) (g : own_Go p.tables e below P (T.setTop (mkF m (pc + 1) Ls (.null :: st)))) : own_Go p.tables e below P (T.setTop (mkF m pc Ls st)) := own_st (fun t k => XS.aconstNull X.here hx rfl hd k) g
theorem o_iadd (X : Stand p l e R s m args below meth c T locs cells slots) (hx : p.tables.exec = Jvm.exec) {x y : Int32} (hd : decode c.code pc = .ok (.iadd, 1)) (g : own_Go p.tables e below P (T.setTop (mkF m (pc + 1) Ls (.int (x + y) :: st)))) : own_Go p.tables e below P (T.setTop (mkF m pc Ls (.int y :: .int x :: st))) := own_st (fun t k => XS.iadd X.here hx rfl hd rfl k) g
theorem o_ladd (X : Stand p l e R s m args below meth c T locs cells slots) (hx : p.tables.exec = Jvm.exec) {x y : Int64} (hd : decode c.code pc = .ok (.ladd, 1)) (g : own_Go p.tables e below P (T.setTop (mkF m (pc + 1) Ls (.long (x + y) :: st)))) : own_Go p.tables e below P (T.setTop (mkF m pc Ls (.long y :: .long x :: st))) := own_st (fun t k => XS.ladd X.here hx rfl hd rfl k) g
theorem o_isub (X : Stand p l e R s m args below meth c T locs cells slots) (hx : p.tables.exec = Jvm.exec) {x y : Int32} (hd : decode c.code pc = .ok (.isub, 1)) (g : own_Go p.tables e below P (T.setTop (mkF m (pc + 1) Ls (.int (x - y) :: st)))) : own_Go p.tables e below P (T.setTop (mkF m pc Ls (.int y :: .int x :: st))) := own_st (fun t k => XS.isub X.here hx rfl hd rfl k) g
theorem o_lsub (X : Stand p l e R s m args below meth c T locs cells slots) (hx : p.tables.exec = Jvm.exec) {x y : Int64} (hd : decode c.code pc = .ok (.lsub, 1)) (g : own_Go p.tables e below P (T.setTop (mkF m (pc + 1) Ls (.long (x - y) :: st)))) : own_Go p.tables e below P (T.setTop (mkF m pc Ls (.long y :: .long x :: st))) := own_st (fun t k => XS.lsub X.here hx rfl hd rfl k) g
theorem o_imul (X : Stand p l e R s m args below meth c T locs cells slots) (hx : p.tables.exec = Jvm.exec) {x y : Int32} (hd : decode c.code pc = .ok (.imul, 1)) (g : own_Go p.tables e below P (T.setTop (mkF m (pc + 1) Ls (.int (x * y) :: st)))) : own_Go p.tables e below P (T.setTop (mkF m pc Ls (.int y :: .int x :: st))) := own_st (fun t k => XS.imul X.here hx rfl hd rfl k) g
theorem o_lmul (X : Stand p l e R s m args below meth c T locs cells slots) (hx : p.tables.exec = Jvm.exec) {x y : Int64} (hd : decode c.code pc = .ok (.lmul, 1)) (g : own_Go p.tables e below P (T.setTop (mkF m (pc + 1) Ls (.long (x * y) :: st)))) : own_Go p.tables e below P (T.setTop (mkF m pc Ls (.long y :: .long x :: st))) := own_st (fun t k => XS.lmul X.here hx rfl hd rfl k) g
theorem o_iand (X : Stand p l e R s m args below meth c T locs cells slots) (hx : p.tables.exec = Jvm.exec) {x y : Int32} (hd : decode c.code pc = .ok (.iand, 1)) (g : own_Go p.tables e below P (T.setTop (mkF m (pc + 1) Ls (.int (x &&& y) :: st)))) : own_Go p.tables e below P (T.setTop (mkF m pc Ls (.int y :: .int x :: st))) := own_st (fun t k => XS.iand X.here hx rfl hd rfl k) g
theorem o_land (X : Stand p l e R s m args below meth c T locs cells slots) (hx : p.tables.exec = Jvm.exec) {x y : Int64} (hd : decode c.code pc = .ok (.land, 1)) (g : own_Go p.tables e below P (T.setTop (mkF m (pc + 1) Ls (.long (x &&& y) :: st)))) : own_Go p.tables e below P (T.setTop (mkF m pc Ls (.long y :: .long x :: st))) := own_st (fun t k => XS.land X.here hx rfl hd rfl k) g
theorem o_ior (X : Stand p l e R s m args below meth c T locs cells slots) (hx : p.tables.exec = Jvm.exec) {x y : Int32} (hd : decode c.code pc = .ok (.ior, 1)) (g : own_Go p.tables e below P (T.setTop (mkF m (pc + 1) Ls (.int (x ||| y) :: st)))) : own_Go p.tables e below P (T.setTop (mkF m pc Ls (.int y :: .int x :: st))) := own_st (fun t k => XS.ior X.here hx rfl hd rfl k) g
theorem o_lor (X : Stand p l e R s m args below meth c T locs cells slots) (hx : p.tables.exec = Jvm.exec) {x y : Int64} (hd : decode c.code pc = .ok (.lor, 1)) (g : own_Go p.tables e below P (T.setTop (mkF m (pc + 1) Ls (.long (x ||| y) :: st)))) : own_Go p.tables e below P (T.setTop (mkF m pc Ls (.long y :: .long x :: st))) := own_st (fun t k => XS.lor X.here hx rfl hd rfl k) g
theorem o_ixor (X : Stand p l e R s m args below meth c T locs cells slots) (hx : p.tables.exec = Jvm.exec) {x y : Int32} (hd : decode c.code pc = .ok (.ixor, 1)) (g : own_Go p.tables e below P (T.setTop (mkF m (pc + 1) Ls (.int (x ^^^ y) :: st)))) : own_Go p.tables e below P (T.setTop (mkF m pc Ls (.int y :: .int x :: st))) := own_st (fun t k => XS.ixor X.here hx rfl hd rfl k) g
theorem o_lxor (X : Stand p l e R s m args below meth c T locs cells slots) (hx : p.tables.exec = Jvm.exec) {x y : Int64} (hd : decode c.code pc = .ok (.lxor, 1)) (g : own_Go p.tables e below P (T.setTop (mkF m (pc + 1) Ls (.long (x ^^^ y) :: st)))) : own_Go p.tables e below P (T.setTop (mkF m pc Ls (.long y :: .long x :: st))) := own_st (fun t k => XS.lxor X.here hx rfl hd rfl k) g
theorem o_idiv (X : Stand p l e R s m args below meth c T locs cells slots) (hx : p.tables.exec = Jvm.exec) {x y : Int32} (hd : decode c.code pc = .ok (.idiv, 1)) (hy : y ≠ 0) (g : own_Go p.tables e below P (T.setTop (mkF m (pc + 1) Ls (.int (x / y) :: st)))) : own_Go p.tables e below P (T.setTop (mkF m pc Ls (.int y :: .int x :: st))) := own_st (fun t k => XS.idiv X.here hx rfl hd rfl hy k) g
theorem o_irem (X : Stand p l e R s m args below meth c T locs cells slots) (hx : p.tables.exec = Jvm.exec) {x y : Int32} (hd : decode c.code pc = .ok (.irem, 1)) (hy : y ≠ 0) (g : own_Go p.tables e below P (T.setTop (mkF m (pc + 1) Ls (.int (x - x / y * y) :: st)))) : own_Go p.tables e below P (T.setTop (mkF m pc Ls (.int y :: .int x :: st))) := own_st (fun t k => XS.irem X.here hx rfl hd rfl hy k) g
theorem o_ldiv (X : Stand p l e R s m args below meth c T locs cells slots) (hx : p.tables.exec = Jvm.exec) {x y : Int64} (hd : decode c.code pc = .ok (.ldiv, 1)) (hy : y ≠ 0) (g : own_Go p.tables e below P (T.setTop (mkF m (pc + 1) Ls (.long (x / y) :: st)))) : own_Go p.tables e below P (T.setTop (mkF m pc Ls (.long y :: .long x :: st))) := own_st (fun t k => XS.ldiv X.here hx rfl hd rfl hy k) g
theorem o_lrem (X : Stand p l e R s m args below meth c T locs cells slots) (hx : p.tables.exec = Jvm.exec) {x y : Int64} (hd : decode c.code pc = .ok (.lrem, 1)) (hy : y ≠ 0) (g : own_Go p.tables e below P (T.setTop (mkF m (pc + 1) Ls (.long (x - x / y * y) :: st)))) : own_Go p.tables e below P (T.setTop (mkF m pc Ls (.long y :: .long x :: st))) := own_st (fun t k => XS.lrem X.here hx rfl hd rfl hy k) g
theorem o_ineg (X : Stand p l e R s m args below meth c T locs cells slots) (hx : p.tables.exec = Jvm.exec) {x : Int32} (hd : decode c.code pc = .ok (.ineg, 1)) (g : own_Go p.tables e below P (T.setTop (mkF m (pc + 1) Ls (.int ((-x)) :: st)))) : own_Go p.tables e below P (T.setTop (mkF m pc Ls (.int x :: st))) := own_st (fun t k => XS.ineg X.here hx rfl hd rfl k) g
theorem o_lneg (X : Stand p l e R s m args below meth c T locs cells slots) (hx : p.tables.exec = Jvm.exec) {x : Int64} (hd : decode c.code pc = .ok (.lneg, 1)) (g : own_Go p.tables e below P (T.setTop (mkF m (pc + 1) Ls (.long ((-x)) :: st)))) : own_Go p.tables e below P (T.setTop (mkF m pc Ls (.long x :: st))) := own_st (fun t k => XS.lneg X.here hx rfl hd rfl k) g
theorem o_i2l (X : Stand p l e R s m args below meth c T locs cells slots) (hx : p.tables.exec = Jvm.exec) {x : Int32} (hd : decode c.code pc = .ok (.i2l, 1)) (g : own_Go p.tables e below P (T.setTop (mkF m (pc + 1) Ls (.long (x.toInt64) :: st)))) : own_Go p.tables e below P (T.setTop (mkF m pc Ls (.int x :: st))) := own_st (fun t k => XS.i2l X.here hx rfl hd rfl k) g
theorem o_l2i (X : Stand p l e R s m args below meth c T locs cells slots) (hx : p.tables.exec = Jvm.exec) {x : Int64} (hd : decode c.code pc = .ok (.l2i, 1)) (g : own_Go p.tables e below P (T.setTop (mkF m (pc + 1) Ls (.int (x.toInt32) :: st)))) : own_Go p.tables e below P (T.setTop (mkF m pc Ls (.long x :: st))) := own_st (fun t k => XS.l2i X.here hx rfl hd rfl k) g
theorem o_i2b (X : Stand p l e R s m args below meth c T locs cells slots) (hx : p.tables.exec = Jvm.exec) {x : Int32} (hd : decode c.code pc = .ok (.i2b, 1)) (g : own_Go p.tables e below P (T.setTop (mkF m (pc + 1) Ls (.int (x.toInt8.toInt32) :: st)))) : own_Go p.tables e below P (T.setTop (mkF m pc Ls (.int x :: st))) := own_st (fun t k => XS.i2b X.here hx rfl hd rfl k) g
theorem o_i2s (X : Stand p l e R s m args below meth c T locs cells slots) (hx : p.tables.exec = Jvm.exec) {x : Int32} (hd : decode c.code pc = .ok (.i2s, 1)) (g : own_Go p.tables e below P (T.setTop (mkF m (pc + 1) Ls (.int (x.toInt16.toInt32) :: st)))) : own_Go p.tables e below P (T.setTop (mkF m pc Ls (.int x :: st))) := own_st (fun t k => XS.i2s X.here hx rfl hd rfl k) g
theorem o_i2c (X : Stand p l e R s m args below meth c T locs cells slots) (hx : p.tables.exec = Jvm.exec) {x : Int32} (hd : decode c.code pc = .ok (.i2c, 1)) (g : own_Go p.tables e below P (T.setTop (mkF m (pc + 1) Ls (.int (x.toUInt32.toUInt16.toUInt32.toInt32) :: st)))) : own_Go p.tables e below P (T.setTop (mkF m pc Ls (.int x :: st))) := own_st (fun t k => XS.i2c X.here hx rfl hd rfl k) g
theorem o_ishl (X : Stand p l e R s m args below meth c T locs cells slots) (hx : p.tables.exec = Jvm.exec) {x : Int32} {y : Int32} (hd : decode c.code pc = .ok (.ishl, 1)) (g : own_Go p.tables e below P (T.setTop (mkF m (pc + 1) Ls (.int (x <<< (y &&& 31)) :: st)))) : own_Go p.tables e below P (T.setTop (mkF m pc Ls (.int y :: .int x :: st))) := own_st (fun t k => XS.ishl X.here hx rfl hd rfl k) g
theorem o_ishr (X : Stand p l e R s m args below meth c T locs cells slots) (hx : p.tables.exec = Jvm.exec) {x : Int32} {y : Int32} (hd : decode c.code pc = .ok (.ishr, 1)) (g : own_Go p.tables e below P (T.setTop (mkF m (pc + 1) Ls (.int (x >>> (y &&& 31)) :: st)))) : own_Go p.tables e below P (T.setTop (mkF m pc Ls (.int y :: .int x :: st))) := own_st (fun t k => XS.ishr X.here hx rfl hd rfl k) g
theorem o_iushr (X : Stand p l e R s m args below meth c T locs cells slots) (hx : p.tables.exec = Jvm.exec) {x : Int32} {y : Int32} (hd : decode c.code pc = .ok (.iushr, 1)) (g : own_Go p.tables e below P (T.setTop (mkF m (pc + 1) Ls (.int ((x.toUInt32 >>> (y &&& 31).toUInt32).toInt32) :: st)))) : own_Go p.tables e below P (T.setTop (mkF m pc Ls (.int y :: .int x :: st))) := own_st (fun t k => XS.iushr X.here hx rfl hd rfl k) g
theorem o_lshl (X : Stand p l e R s m args below meth c T locs cells slots) (hx : p.tables.exec = Jvm.exec) {x : Int64} {y : Int32} (hd : decode c.code pc = .ok (.lshl, 1)) (g : own_Go p.tables e below P (T.setTop (mkF m (pc + 1) Ls (.long (x <<< (y &&& 0x3f).toInt64) :: st)))) : own_Go p.tables e below P (T.setTop (mkF m pc Ls (.int y :: .long x :: st))) := own_st (fun t k => XS.lshl X.here hx rfl hd rfl k) g
theorem o_lshr (X : Stand p l e R s m args below meth c T locs cells slots) (hx : p.tables.exec = Jvm.exec) {x : Int64} {y : Int32} (hd : decode c.code pc = .ok (.lshr, 1)) (g : own_Go p.tables e below P (T.setTop (mkF m (pc + 1) Ls (.long (x >>> (y &&& 0x3f).toInt64) :: st)))) : own_Go p.tables e below P (T.setTop (mkF m pc Ls (.int y :: .long x :: st))) := own_st (fun t k => XS.lshr X.here hx rfl hd rfl k) g
theorem o_lushr (X : Stand p l e R s m args below meth c T locs cells slots) (hx : p.tables.exec = Jvm.exec) {x : Int64} {y : Int32} (hd : decode c.code pc = .ok (.lushr, 1)) (g : own_Go p.tables e below P (T.setTop (mkF m (pc + 1) Ls (.long ((x.toUInt64 >>> (y &&& 0x3f).toInt64.toUInt64).toInt64) :: st)))) : own_Go p.tables e below P (T.setTop (mkF m pc Ls (.int y :: .long x :: st))) := own_st (fun t k => XS.lushr X.here hx rfl hd rfl k) g
theorem o_lcmp (X : Stand p l e R s m args below meth c T locs cells slots) (hx : p.tables.exec = Jvm.exec) {x y : Int64} (hd : decode c.code pc = .ok (.lcmp, 1)) (g : own_Go p.tables e below P (T.setTop (mkF m (pc + 1) Ls (.int (lcmpW x y) :: st)))) : own_Go p.tables e below P (T.setTop (mkF m pc Ls (.long y :: .long x :: st))) := own_st (fun t k => XS.lcmp X.here hx rfl hd rfl k) g
theorem o_iinc (X : Stand p l e R s m args below meth c T locs cells slots) (hx : p.tables.exec = Jvm.exec) {k : Nat} {cst : Int} {x : Int32} {l' : Array Slot} (hd : decode c.code pc = .ok (.iinc k cst, 3)) (hl : Ls[k]? = some (.val (.int x))) (hl' : storeLocals Ls k (.int (x + Int32.ofInt cst)) = some l') (g : own_Go p.tables e below P (T.setTop (mkF m (pc + 3) l' st))) : own_Go p.tables e below P (T.setTop (mkF m pc Ls st)) := own_st (fun t k => XS.iinc X.here hx rfl hd hl hl' k) g
theorem o_dup (X : Stand p l e R s m args below meth c T locs cells slots) (hx : p.tables.exec = Jvm.exec) {x : Value} (hd : decode c.code pc = .ok (.dup, 1)) (hc : x.category = 1) (g : own_Go p.tables e below P (T.setTop (mkF m (pc + 1) Ls (x :: x :: st)))) : own_Go p.tables e below P (T.setTop (mkF m pc Ls (x :: st))) := own_st (fun t k => XS.dup X.here hx rfl hd rfl hc k) g
theorem o_pop (X : Stand p l e R s m args below meth c T locs cells slots) (hx : p.tables.exec = Jvm.exec) {x : Value} (hd : decode c.code pc = .ok (.pop, 1)) (hc : x.category = 1) (g : own_Go p.tables e below P (T.setTop (mkF m (pc + 1) Ls st))) : own_Go p.tables e below P (T.setTop (mkF m pc Ls (x :: st))) := own_st (fun t k => XS.pop X.here hx rfl hd rfl hc k) g
theorem o_dupX1 (X : Stand p l e R s m args below meth c T locs cells slots) (hx : p.tables.exec = Jvm.exec) {x y : Value} (hd : decode c.code pc = .ok (.dup_x1, 1)) (hc : x.category = 1) (hc' : y.category = 1) (g : own_Go p.tables e below P (T.setTop (mkF m (pc + 1) Ls (x :: y :: x :: st)))) : own_Go p.tables e below P (T.setTop (mkF m pc Ls (x :: y :: st))) := own_st (fun t k => XS.dupX1 X.here hx rfl hd rfl hc hc' k) g
theorem o_dup2 (X : Stand p l e R s m args below meth c T locs cells slots) (hx : p.tables.exec = Jvm.exec) {x y : Value} (hd : decode c.code pc = .ok (.dup2, 1)) (hc : x.category = 1) (hc' : y.category = 1) (g : own_Go p.tables e below P (T.setTop (mkF m (pc + 1) Ls (x :: y :: x :: y :: st)))) : own_Go p.tables e below P (T.setTop (mkF m pc Ls (x :: y :: st))) := own_st (fun t k => Jvm.Free.XT.dup2 X.here hx rfl hd rfl hc hc' k) g
theorem o_goto (X : Stand p l e R s m args below meth c T locs cells slots) (hx : p.tables.exec = Jvm.exec) {o : Int} {pc' : Nat} (hd : decode c.code pc = .ok (.goto o, 3)) (ho : 0 ≤ (pc : Int) + o) (hp : ((pc : Int) + o).toNat = pc') (g : own_Go p.tables e below P (T.setTop (mkF m pc' Ls st))) : own_Go p.tables e below P (T.setTop (mkF m pc Ls st)) := own_st (fun t k => XS.goto X.here hx rfl rfl hd ho hp k) g
theorem o_ifYes (X : Stand p l e R s m args below meth c T locs cells slots) (hx : p.tables.exec = Jvm.exec) {cd : ClassFile.Cond} {x : Int32} {o : Int} {pc' : Nat} (hd : decode c.code pc = .ok (.ifCond cd o, 3)) (hc : if_icmp.holds cd x 0 = true) (ho : 0 ≤ (pc : Int) + o) (hp : ((pc : Int) + o).toNat = pc') (g : own_Go p.tables e below P (T.setTop (mkF m pc' Ls st))) : own_Go p.tables e below P (T.setTop (mkF m pc Ls (.int x :: st))) := own_st (fun t k => XS.ifYes X.here hx rfl rfl hd rfl ((if0 _ _).trans hc) ho hp k) g
theorem o_ifNo (X : Stand p l e R s m args below meth c T locs cells slots) (hx : p.tables.exec = Jvm.exec) {cd : ClassFile.Cond} {x : Int32} {o : Int} (hd : decode c.code pc = .ok (.ifCond cd o, 3)) (hc : if_icmp.holds cd x 0 = false) (g : own_Go p.tables e below P (T.setTop (mkF m (pc + 3) Ls st))) : own_Go p.tables e below P (T.setTop (mkF m pc Ls (.int x :: st))) := own_st (fun t k => XS.ifNo X.here hx rfl hd rfl ((if0 _ _).trans hc) k) g
theorem o_icmpYes (X : Stand p l e R s m args below meth c T locs cells slots) (hx : p.tables.exec = Jvm.exec) {cd : ClassFile.Cond} {x y : Int32} {o : Int} {pc' : Nat} (hd : decode c.code pc = .ok (.if_icmp cd o, 3)) (hc : if_icmp.holds cd x y = true) (ho : 0 ≤ (pc : Int) + o) (hp : ((pc : Int) + o).toNat = pc') (g : own_Go p.tables e below P (T.setTop (mkF m pc' Ls st))) : own_Go p.tables e below P (T.setTop (mkF m pc Ls (.int y :: .int x :: st))) := own_st (fun t k => XS.icmpYes X.here hx rfl rfl hd rfl hc ho hp k) g
theorem o_icmpNo (X : Stand p l e R s m args below meth c T locs cells slots) (hx : p.tables.exec = Jvm.exec) {cd : ClassFile.Cond} {x y : Int32} {o : Int} (hd : decode c.code pc = .ok (.if_icmp cd o, 3)) (hc : if_icmp.holds cd x y = false) (g : own_Go p.tables e below P (T.setTop (mkF m (pc + 3) Ls st))) : own_Go p.tables e below P (T.setTop (mkF m pc Ls (.int y :: .int x :: st))) := own_st (fun t k => XS.icmpNo X.here hx rfl hd rfl hc k) g
theorem o_ifnullYes (X : Stand p l e R s m args below meth c T locs cells slots) (hx : p.tables.exec = Jvm.exec) {o : Int} {pc' : Nat} (hd : decode c.code pc = .ok (.ifnull o, 3)) (ho : 0 ≤ (pc : Int) + o) (hp : ((pc : Int) + o).toNat = pc') (g : own_Go p.tables e below P (T.setTop (mkF m pc' Ls st))) : own_Go p.tables e below P (T.setTop (mkF m pc Ls (.null :: st))) := own_st (fun t k => XS.ifnullYes X.here hx rfl rfl hd rfl ho hp k) g
theorem o_ifnullNo (X : Stand p l e R s m args below meth c T locs cells slots) (hx : p.tables.exec = Jvm.exec) {o : Int} {b : Addr} (hd : decode c.code pc = .ok (.ifnull o, 3)) (g : own_Go p.tables e below P (T.setTop (mkF m (pc + 3) Ls st))) : own_Go p.tables e below P (T.setTop (mkF m pc Ls (.ref b :: st))) := own_st (fun t k => XS.ifnullNo X.here hx rfl hd rfl k) g
theorem o_ifnonnullNo (X : Stand p l e R s m args below meth c T locs cells slots) (hx : p.tables.exec = Jvm.exec) {o : Int} (hd : decode c.code pc = .ok (.ifnonnull o, 3)) (g : own_Go p.tables e below P (T.setTop (mkF m (pc + 3) Ls st))) : own_Go p.tables e below P (T.setTop (mkF m pc Ls (.null :: st))) := own_st (fun t k => XS.ifnonnullNo X.here hx rfl hd rfl k) g
theorem o_ifnonnullYes (X : Stand p l e R s m args below meth c T locs cells slots) (hx : p.tables.exec = Jvm.exec) {o : Int} {b : Addr} {pc' : Nat} (hd : decode c.code pc = .ok (.ifnonnull o, 3)) (ho : 0 ≤ (pc : Int) + o) (hp : ((pc : Int) + o).toNat = pc') (g : own_Go p.tables e below P (T.setTop (mkF m pc' Ls st))) : own_Go p.tables e below P (T.setTop (mkF m pc Ls (.ref b :: st))) := own_st (fun t k => XS.ifnonnullYes X.here hx rfl rfl hd rfl ho hp k) g
theorem o_ldc (X : Stand p l e R s m args below meth c T locs cells slots) (hx : p.tables.exec = Jvm.exec) {own : String} {index : Nat} {v : Int32} (hown : s.vm.findClass own = some m.cls) (hd : decode c.code pc = .ok (.ldc index, 2)) (hk : (Cond.constant own index v).before args s = true) (g : own_Go p.tables e below P (T.setTop (mkF m (pc + 2) Ls (.int v :: st)))) : own_Go p.tables e below P (T.setTop (mkF m pc Ls st)) := own_st (X.ldcInt hx hown hk (g := mkF m pc Ls st) rfl hd) g
theorem o_ldc2 (X : Stand p l e R s m args below meth c T locs cells slots) (hx : p.tables.exec = Jvm.exec) {own : String} {index : Nat} {v : Int64} (hown : s.vm.findClass own = some m.cls) (hd : decode c.code pc = .ok (.ldc2_w index, 3)) (hk : (Cond.constantLong own index v).before args s = true) (g : own_Go p.tables e below P (T.setTop (mkF m (pc + 3) Ls (.long v :: st)))) : own_Go p.tables e below P (T.setTop (mkF m pc Ls st)) := own_st (X.ldc2Long hx hown hk (g := mkF m pc Ls st) rfl hd) g
end Steps2
end Jvm.RoadKit
namespace Jvm.Pilot.@@N@@
open Jvm Jvm.ClassFile Sem Op Lib Jvm.Free Jvm.Stand Jvm.LawKit Jvm.RoadKit Bundle Jvm.Pilot.@@N@@.Jvm.D
theorem pn_1 : plainName "com/example/ordinance/ordinance/cli/ExitCodeWorsePinLaw" = true := by first | (simp [plainName, overriddenIn]; done) | decide +kernel
theorem d1_0 : decode method_2_code 0 = .ok (.iload_n 0, 1) := by decide +kernel
theorem d1_1 : decode method_2_code 1 = .ok (.ifCond .ne 7, 3) := by decide +kernel
theorem d1_4 : decode method_2_code 4 = .ok (.getstatic 7, 3) := by decide +kernel
theorem d1_7 : decode method_2_code 7 = .ok (.areturn, 1) := by decide +kernel
theorem ef_rmpick0 (m : MethodId) (p1 : Int32) : entryFrame m #[(.int p1)] 1 = mkF m 0 #[iv p1] [] := by first | (simp [entryFrame, mkF, argsToLocals, Value.category]; done) | rfl
def Q_rmpick0 (Z : State) (a0 : Array Value) (p1 : Int32) (ad : Addr) (ai : Addr) (ab : Addr) (h0 : Heap) (n0 : Nat) (v : Option Value) (h : Heap) (L : List Loc) : Prop := v = some (.ref ad) ∧ Fr n0 L ∧ h = h0
set_option maxRecDepth 65536 in
set_option maxHeartbeats 40000000 in
theorem rmpick0 (l : Launch) (Z : State) (a0 : Array Value) (hw : ∀ d ∈ tables_1, d.before a0 Z = true) (ws : List Jvm.Cond) (p1 : Int32) (ad : Addr) (ai : Addr) (ab : Addr) (h0 : Heap) (n0 : Nat) (Z0 : n0 ≤ h0.size) (S0 : Sta Z h0 "com/example/ordinance/ordinance/cli/ExitCode" "DONE" "Lcom/example/ordinance/ordinance/cli/ExitCode;" (.ref ad)) (S1 : Sta Z h0 "com/example/ordinance/ordinance/cli/ExitCode" "INVALID_INPUT" "Lcom/example/ordinance/ordinance/cli/ExitCode;" (.ref ai)) (S2 : Sta Z h0 "com/example/ordinance/ordinance/cli/ExitCode" "BAD_INVOCATION" "Lcom/example/ordinance/ordinance/cli/ExitCode;" (.ref ab)) (hp : p1 = (0 : Int32)) :
    MetFree l (⟨"com/example/ordinance/ordinance/cli/ExitCodeWorsePinLaw", "pick", "(I)Lcom/example/ordinance/ordinance/cli/ExitCode;"⟩ : MethodName) (head1 (Jvm.Cond.code (⟨"com/example/ordinance/ordinance/cli/ExitCodeWorsePinLaw", "pick", "(I)Lcom/example/ordinance/ordinance/cli/ExitCode;"⟩ : MethodName) method_2_code 1 (some (.object "com/example/ordinance/ordinance/cli/ExitCode")) :: ws) ({ frames := 0, cells := 0, slots := 0, locals := 0 } : Room)) (fun a U => a = #[(.int p1)] ∧ Z.Warmed39 U.vm ∧ U.heap = h0) (fun _ _ _ _ _ => True) (fun _ U o U' => ∃ v L, o = .returned v ∧ Q_rmpick0 Z a0 p1 ad ai ab h0 n0 v U'.heap L ∧ FrameEnd U o U' L ({ frames := 0, cells := 0, slots := 0, locals := 0 } : Room).cells ({ frames := 0, cells := 0, slots := 0, locals := 0 } : Room).slots) := by
  refine MetFree.of_bodySF (plainFor_of_name pn_1) hisR ?_
  intro p e s m args below meth c s₁ Bd hml0 hP hK
  obtain ⟨rfl, hZ, hh⟩ := hP
  have hx := Bd.exec
  have hby := Bd.bytes
  have hml : c.maxLocals = 1 := hml0
  have hown : s.vm.findClass "com/example/ordinance/ordinance/cli/ExitCodeWorsePinLaw" = some m.cls := findClass_of_methodNamed Bd.named
  have hnm := (name_of_methodNamed Bd.named Bd.method).1
  have hlk : meth.locks = false := BodyLoose.notSynchronized (by assumption)
  have X0 : Stand p l e ({ frames := 0, cells := 0, slots := 0, locals := 0 } : Room) s m #[(.int p1)] below meth c s₁ [] 0 0 := Stand.of_body Bd
  have e0 : s₁.heap = h0 := by rw [← hh, Bd.state]; rfl
  have N0 := Fr.nil n0
  show own_Go p.tables e below (fun o U' => ∃ v L, o = .returned v ∧ Q_rmpick0 Z a0 p1 ad ai ab h0 n0 v U'.heap L ∧ FrameEnd s o U' L ({ frames := 0, cells := 0, slots := 0, locals := 0 } : Room).cells ({ frames := 0, cells := 0, slots := 0, locals := 0 } : Room).slots) (s₁.setTop (entryFrame m #[(.int p1)] 1))
  refine own_st (fun t k => castTop (ef_rmpick0 m p1) k) ?_
  show own_Go _ _ _ _ (s₁.setTop (mkF m 0 #[iv p1] []))
  refine o_iloadN X0 hx (hb hby d1_0) rfl ?_
  refine o_ifNo X0 hx (hb hby d1_1) (teq hp).2 ?_
  obtain ⟨T1, X1, e1, st1⟩ := getS2 X0 hx hZ hown (host := "") (Or.inl (hw _ (List.mem_of_getElem? (i := 5) rfl))) Via.refl e0 S0 (g := (mkF m 4 #[iv p1] [])) rfl (hb hby d1_4)
  refine own_st st1 ?_
  show own_Go _ _ _ _ (T1.setTop (mkF m 7 #[iv p1] [(.ref ad)]))
  exact own_end X1 e1 (v := some (.ref ad)) (fun h => by rw [Bd.returns] at h; cases h) hlk (fun fs hr => own_retA X1 hx Bd.returns rfl rfl (hb hby d1_7) hr) (Q := Q_rmpick0 Z a0 p1 ad ai ab h0 n0) ⟨rfl, N0, rfl⟩ (by decide) (by decide)
theorem d1_8 : decode method_2_code 8 = .ok (.iload_n 0, 1) := by decide +kernel
theorem d1_9 : decode method_2_code 9 = .ok (.iconst 1, 1) := by decide +kernel
theorem d1_10 : decode method_2_code 10 = .ok (.if_icmp .ne 7, 3) := by decide +kernel
theorem d1_13 : decode method_2_code 13 = .ok (.getstatic 13, 3) := by decide +kernel
theorem d1_16 : decode method_2_code 16 = .ok (.areturn, 1) := by decide +kernel
theorem ef_rmpick1 (m : MethodId) (p1 : Int32) : entryFrame m #[(.int p1)] 1 = mkF m 0 #[iv p1] [] := by first | (simp [entryFrame, mkF, argsToLocals, Value.category]; done) | rfl
def Q_rmpick1 (Z : State) (a0 : Array Value) (p1 : Int32) (ad : Addr) (ai : Addr) (ab : Addr) (h0 : Heap) (n0 : Nat) (v : Option Value) (h : Heap) (L : List Loc) : Prop := v = some (.ref ai) ∧ Fr n0 L ∧ h = h0
set_option maxRecDepth 65536 in
set_option maxHeartbeats 40000000 in
theorem rmpick1 (l : Launch) (Z : State) (a0 : Array Value) (hw : ∀ d ∈ tables_1, d.before a0 Z = true) (ws : List Jvm.Cond) (p1 : Int32) (ad : Addr) (ai : Addr) (ab : Addr) (h0 : Heap) (n0 : Nat) (Z0 : n0 ≤ h0.size) (S0 : Sta Z h0 "com/example/ordinance/ordinance/cli/ExitCode" "DONE" "Lcom/example/ordinance/ordinance/cli/ExitCode;" (.ref ad)) (S1 : Sta Z h0 "com/example/ordinance/ordinance/cli/ExitCode" "INVALID_INPUT" "Lcom/example/ordinance/ordinance/cli/ExitCode;" (.ref ai)) (S2 : Sta Z h0 "com/example/ordinance/ordinance/cli/ExitCode" "BAD_INVOCATION" "Lcom/example/ordinance/ordinance/cli/ExitCode;" (.ref ab)) (hp : p1 = (1 : Int32)) :
    MetFree l (⟨"com/example/ordinance/ordinance/cli/ExitCodeWorsePinLaw", "pick", "(I)Lcom/example/ordinance/ordinance/cli/ExitCode;"⟩ : MethodName) (head1 (Jvm.Cond.code (⟨"com/example/ordinance/ordinance/cli/ExitCodeWorsePinLaw", "pick", "(I)Lcom/example/ordinance/ordinance/cli/ExitCode;"⟩ : MethodName) method_2_code 1 (some (.object "com/example/ordinance/ordinance/cli/ExitCode")) :: ws) ({ frames := 0, cells := 0, slots := 0, locals := 0 } : Room)) (fun a U => a = #[(.int p1)] ∧ Z.Warmed39 U.vm ∧ U.heap = h0) (fun _ _ _ _ _ => True) (fun _ U o U' => ∃ v L, o = .returned v ∧ Q_rmpick1 Z a0 p1 ad ai ab h0 n0 v U'.heap L ∧ FrameEnd U o U' L ({ frames := 0, cells := 0, slots := 0, locals := 0 } : Room).cells ({ frames := 0, cells := 0, slots := 0, locals := 0 } : Room).slots) := by
  refine MetFree.of_bodySF (plainFor_of_name pn_1) hisR ?_
  intro p e s m args below meth c s₁ Bd hml0 hP hK
  obtain ⟨rfl, hZ, hh⟩ := hP
  have hx := Bd.exec
  have hby := Bd.bytes
  have hml : c.maxLocals = 1 := hml0
  have hown : s.vm.findClass "com/example/ordinance/ordinance/cli/ExitCodeWorsePinLaw" = some m.cls := findClass_of_methodNamed Bd.named
  have hnm := (name_of_methodNamed Bd.named Bd.method).1
  have hlk : meth.locks = false := BodyLoose.notSynchronized (by assumption)
  have X0 : Stand p l e ({ frames := 0, cells := 0, slots := 0, locals := 0 } : Room) s m #[(.int p1)] below meth c s₁ [] 0 0 := Stand.of_body Bd
  have e0 : s₁.heap = h0 := by rw [← hh, Bd.state]; rfl
  have N0 := Fr.nil n0
  show own_Go p.tables e below (fun o U' => ∃ v L, o = .returned v ∧ Q_rmpick1 Z a0 p1 ad ai ab h0 n0 v U'.heap L ∧ FrameEnd s o U' L ({ frames := 0, cells := 0, slots := 0, locals := 0 } : Room).cells ({ frames := 0, cells := 0, slots := 0, locals := 0 } : Room).slots) (s₁.setTop (entryFrame m #[(.int p1)] 1))
  refine own_st (fun t k => castTop (ef_rmpick1 m p1) k) ?_
  show own_Go _ _ _ _ (s₁.setTop (mkF m 0 #[iv p1] []))
  refine o_iloadN X0 hx (hb hby d1_0) rfl ?_
  refine o_ifYes X0 hx (pc' := 8) (hb hby d1_1) (feq (fun h => absurd (hp.symm.trans h) (by decide))).2 (by decide) (by decide) ?_
  refine o_iloadN X0 hx (hb hby d1_8) rfl ?_
  refine o_iconst X0 hx 1 (hb hby d1_9) rfl ?_
  refine o_icmpNo X0 hx (hb hby d1_10) (teq hp).2 ?_
  obtain ⟨T1, X1, e1, st1⟩ := getS2 X0 hx hZ hown (host := "") (Or.inl (hw _ (List.mem_of_getElem? (i := 21) rfl))) Via.refl e0 S1 (g := (mkF m 13 #[iv p1] [])) rfl (hb hby d1_13)
  refine own_st st1 ?_
  show own_Go _ _ _ _ (T1.setTop (mkF m 16 #[iv p1] [(.ref ai)]))
  exact own_end X1 e1 (v := some (.ref ai)) (fun h => by rw [Bd.returns] at h; cases h) hlk (fun fs hr => own_retA X1 hx Bd.returns rfl rfl (hb hby d1_16) hr) (Q := Q_rmpick1 Z a0 p1 ad ai ab h0 n0) ⟨rfl, N0, rfl⟩ (by decide) (by decide)
theorem d1_17 : decode method_2_code 17 = .ok (.getstatic 16, 3) := by decide +kernel
theorem d1_20 : decode method_2_code 20 = .ok (.areturn, 1) := by decide +kernel
theorem ef_rmpick2 (m : MethodId) (p1 : Int32) : entryFrame m #[(.int p1)] 1 = mkF m 0 #[iv p1] [] := by first | (simp [entryFrame, mkF, argsToLocals, Value.category]; done) | rfl
def Q_rmpick2 (Z : State) (a0 : Array Value) (p1 : Int32) (ad : Addr) (ai : Addr) (ab : Addr) (h0 : Heap) (n0 : Nat) (v : Option Value) (h : Heap) (L : List Loc) : Prop := v = some (.ref ab) ∧ Fr n0 L ∧ h = h0
set_option maxRecDepth 65536 in
set_option maxHeartbeats 40000000 in
theorem rmpick2 (l : Launch) (Z : State) (a0 : Array Value) (hw : ∀ d ∈ tables_1, d.before a0 Z = true) (ws : List Jvm.Cond) (p1 : Int32) (ad : Addr) (ai : Addr) (ab : Addr) (h0 : Heap) (n0 : Nat) (Z0 : n0 ≤ h0.size) (S0 : Sta Z h0 "com/example/ordinance/ordinance/cli/ExitCode" "DONE" "Lcom/example/ordinance/ordinance/cli/ExitCode;" (.ref ad)) (S1 : Sta Z h0 "com/example/ordinance/ordinance/cli/ExitCode" "INVALID_INPUT" "Lcom/example/ordinance/ordinance/cli/ExitCode;" (.ref ai)) (S2 : Sta Z h0 "com/example/ordinance/ordinance/cli/ExitCode" "BAD_INVOCATION" "Lcom/example/ordinance/ordinance/cli/ExitCode;" (.ref ab)) (hp : p1 = (2 : Int32)) :
    MetFree l (⟨"com/example/ordinance/ordinance/cli/ExitCodeWorsePinLaw", "pick", "(I)Lcom/example/ordinance/ordinance/cli/ExitCode;"⟩ : MethodName) (head1 (Jvm.Cond.code (⟨"com/example/ordinance/ordinance/cli/ExitCodeWorsePinLaw", "pick", "(I)Lcom/example/ordinance/ordinance/cli/ExitCode;"⟩ : MethodName) method_2_code 1 (some (.object "com/example/ordinance/ordinance/cli/ExitCode")) :: ws) ({ frames := 0, cells := 0, slots := 0, locals := 0 } : Room)) (fun a U => a = #[(.int p1)] ∧ Z.Warmed39 U.vm ∧ U.heap = h0) (fun _ _ _ _ _ => True) (fun _ U o U' => ∃ v L, o = .returned v ∧ Q_rmpick2 Z a0 p1 ad ai ab h0 n0 v U'.heap L ∧ FrameEnd U o U' L ({ frames := 0, cells := 0, slots := 0, locals := 0 } : Room).cells ({ frames := 0, cells := 0, slots := 0, locals := 0 } : Room).slots) := by
  refine MetFree.of_bodySF (plainFor_of_name pn_1) hisR ?_
  intro p e s m args below meth c s₁ Bd hml0 hP hK
  obtain ⟨rfl, hZ, hh⟩ := hP
  have hx := Bd.exec
  have hby := Bd.bytes
  have hml : c.maxLocals = 1 := hml0
  have hown : s.vm.findClass "com/example/ordinance/ordinance/cli/ExitCodeWorsePinLaw" = some m.cls := findClass_of_methodNamed Bd.named
  have hnm := (name_of_methodNamed Bd.named Bd.method).1
  have hlk : meth.locks = false := BodyLoose.notSynchronized (by assumption)
  have X0 : Stand p l e ({ frames := 0, cells := 0, slots := 0, locals := 0 } : Room) s m #[(.int p1)] below meth c s₁ [] 0 0 := Stand.of_body Bd
  have e0 : s₁.heap = h0 := by rw [← hh, Bd.state]; rfl
  have N0 := Fr.nil n0
  show own_Go p.tables e below (fun o U' => ∃ v L, o = .returned v ∧ Q_rmpick2 Z a0 p1 ad ai ab h0 n0 v U'.heap L ∧ FrameEnd s o U' L ({ frames := 0, cells := 0, slots := 0, locals := 0 } : Room).cells ({ frames := 0, cells := 0, slots := 0, locals := 0 } : Room).slots) (s₁.setTop (entryFrame m #[(.int p1)] 1))
  refine own_st (fun t k => castTop (ef_rmpick2 m p1) k) ?_
  show own_Go _ _ _ _ (s₁.setTop (mkF m 0 #[iv p1] []))
  refine o_iloadN X0 hx (hb hby d1_0) rfl ?_
  refine o_ifYes X0 hx (pc' := 8) (hb hby d1_1) (feq (fun h => absurd (hp.symm.trans h) (by decide))).2 (by decide) (by decide) ?_
  refine o_iloadN X0 hx (hb hby d1_8) rfl ?_
  refine o_iconst X0 hx 1 (hb hby d1_9) rfl ?_
  refine o_icmpYes X0 hx (pc' := 17) (hb hby d1_10) (feq (fun h => absurd (hp.symm.trans h) (by decide))).2 (by decide) (by decide) ?_
  obtain ⟨T1, X1, e1, st1⟩ := getS2 X0 hx hZ hown (host := "") (Or.inl (hw _ (List.mem_of_getElem? (i := 19) rfl))) Via.refl e0 S2 (g := (mkF m 17 #[iv p1] [])) rfl (hb hby d1_17)
  refine own_st st1 ?_
  show own_Go _ _ _ _ (T1.setTop (mkF m 20 #[iv p1] [(.ref ab)]))
  exact own_end X1 e1 (v := some (.ref ab)) (fun h => by rw [Bd.returns] at h; cases h) hlk (fun fs hr => own_retA X1 hx Bd.returns rfl rfl (hb hby d1_20) hr) (Q := Q_rmpick2 Z a0 p1 ad ai ab h0 n0) ⟨rfl, N0, rfl⟩ (by decide) (by decide)
def own_max (p1 : Int32) (p2 : Int32)  : Int32 := (if p1 < p2 then p2 else p1)
theorem d3_0 : decode jdk_29_method_65_code 0 = .ok (.iload_n 0, 1) := by decide +kernel
theorem d3_1 : decode jdk_29_method_65_code 1 = .ok (.iload_n 1, 1) := by decide +kernel
theorem d3_2 : decode jdk_29_method_65_code 2 = .ok (.if_icmp .lt 7, 3) := by decide +kernel
theorem d3_9 : decode jdk_29_method_65_code 9 = .ok (.iload_n 1, 1) := by decide +kernel
theorem d3_10 : decode jdk_29_method_65_code 10 = .ok (.ireturn, 1) := by decide +kernel
theorem d3_5 : decode jdk_29_method_65_code 5 = .ok (.iload_n 0, 1) := by decide +kernel
theorem d3_6 : decode jdk_29_method_65_code 6 = .ok (.goto 4, 3) := by decide +kernel
theorem ef_rm3 (m : MethodId) (p1 : Int32) (p2 : Int32) : entryFrame m #[(.int p1), (.int p2)] 2 = mkF m 0 #[iv p1, iv p2] [] := by first | (simp [entryFrame, mkF, argsToLocals, Value.category]; done) | rfl
def Q_rm3 (Z : State) (a0 : Array Value) (p1 : Int32) (p2 : Int32)  (h0 : Heap) (n0 : Nat) (v : Option Value) (h : Heap) (L : List Loc) : Prop := v = some (.int (own_max p1 p2)) ∧ Fr n0 L ∧ h = h0
set_option maxRecDepth 65536 in
set_option maxHeartbeats 40000000 in
theorem rm3 (l : Launch) (Z : State) (a0 : Array Value) (hw : ∀ d ∈ tables_1, d.before a0 Z = true) (ws : List Jvm.Cond) (p1 : Int32) (p2 : Int32)  (h0 : Heap) (n0 : Nat) (Z0 : n0 ≤ h0.size) :
    MetFree l (⟨"java/lang/Math", "max", "(II)I"⟩ : MethodName) (head1 (Jvm.Cond.code (⟨"java/lang/Math", "max", "(II)I"⟩ : MethodName) jdk_29_method_65_code 2 (some .int) :: ws) ({ frames := 0, cells := 0, slots := 0, locals := 0 } : Room)) (fun a U => a = #[(.int p1), (.int p2)] ∧ Z.Warmed39 U.vm ∧ U.heap = h0) (fun _ _ _ _ _ => True) (fun _ U o U' => ∃ v L, o = .returned v ∧ Q_rm3 Z a0 p1 p2 h0 n0 v U'.heap L ∧ FrameEnd U o U' L ({ frames := 0, cells := 0, slots := 0, locals := 0 } : Room).cells ({ frames := 0, cells := 0, slots := 0, locals := 0 } : Room).slots) := by
  refine MetFree.of_bodySF (Jvm.Free.JP.mathPlain rfl (by decide +kernel)) hisR ?_
  intro p e s m args below meth c s₁ Bd hml0 hP hK
  obtain ⟨rfl, hZ, hh⟩ := hP
  have hx := Bd.exec
  have hby := Bd.bytes
  have hml : c.maxLocals = 2 := hml0
  have hown : s.vm.findClass "java/lang/Math" = some m.cls := findClass_of_methodNamed Bd.named
  have hnm := (name_of_methodNamed Bd.named Bd.method).1
  have hlk : meth.locks = false := BodyLoose.notSynchronized (by assumption)
  have X0 : Stand p l e ({ frames := 0, cells := 0, slots := 0, locals := 0 } : Room) s m #[(.int p1), (.int p2)] below meth c s₁ [] 0 0 := Stand.of_body Bd
  have e0 : s₁.heap = h0 := by rw [← hh, Bd.state]; rfl
  have N0 := Fr.nil n0
  show own_Go p.tables e below (fun o U' => ∃ v L, o = .returned v ∧ Q_rm3 Z a0 p1 p2 h0 n0 v U'.heap L ∧ FrameEnd s o U' L ({ frames := 0, cells := 0, slots := 0, locals := 0 } : Room).cells ({ frames := 0, cells := 0, slots := 0, locals := 0 } : Room).slots) (s₁.setTop (entryFrame m #[(.int p1), (.int p2)] 2))
  refine own_st (fun t k => castTop (ef_rm3 m p1 p2) k) ?_
  have hv : own_max p1 p2 = (if p1 < p2 then p2 else p1) := rfl
  show own_Go _ _ _ _ (s₁.setTop (mkF m 0 #[iv p1, iv p2] []))
  refine o_iloadN X0 hx (hb hby d3_0) rfl ?_
  refine o_iloadN X0 hx (hb hby d3_1) rfl ?_
  by_cases hc2_1 : p1 < p2
  · have hv2 := hv.trans (if_pos hc2_1)
    refine o_icmpYes X0 hx (pc' := 9) (hb hby d3_2) (tlt hc2_1).1 (by decide) (by decide) ?_
    refine o_iloadN X0 hx (hb hby d3_9) rfl ?_
    exact own_end X0 e0 (v := some (.int p2)) (fun h => by rw [Bd.returns] at h; cases h) hlk (fun fs hr => retI X0 hx Bd.returns (hb hby d3_10) hr) (Q := Q_rm3 Z a0 p1 p2 h0 n0) ⟨(congrArg (fun z => some (Value.int z)) hv2.symm), N0, rfl⟩ (by decide) (by decide)
  · have hv3 := hv.trans (if_neg hc2_1)
    refine o_icmpNo X0 hx (hb hby d3_2) (flt hc2_1).1 ?_
    refine o_iloadN X0 hx (hb hby d3_5) rfl ?_
    refine o_goto X0 hx (pc' := 10) (hb hby d3_6) (by decide) (by decide) ?_
    exact own_end X0 e0 (v := some (.int p1)) (fun h => by rw [Bd.returns] at h; cases h) hlk (fun fs hr => retI X0 hx Bd.returns (hb hby d3_10) hr) (Q := Q_rm3 Z a0 p1 p2 h0 n0) ⟨(congrArg (fun z => some (Value.int z)) hv3.symm), N0, rfl⟩ (by decide) (by decide)
def own_worse (a1 : Addr) (a2 : Addr) (w1 : Int32) (w2 : Int32) : Addr := (if w1 < w2 then a2 else a1)
theorem pn_2 : plainName "com/example/ordinance/ordinance/cli/ExitCode" = true := by first | (simp [plainName, overriddenIn]; done) | decide +kernel
theorem d2_0 : decode prog_2_method_5_code 0 = .ok (.aload_n 1, 1) := by decide +kernel
theorem d2_1 : decode prog_2_method_5_code 1 = .ok (.getfield 32, 3) := by decide +kernel
theorem d2_4 : decode prog_2_method_5_code 4 = .ok (.aload_n 0, 1) := by decide +kernel
theorem d2_5 : decode prog_2_method_5_code 5 = .ok (.getfield 32, 3) := by decide +kernel
theorem d2_8 : decode prog_2_method_5_code 8 = .ok (.if_icmp .le 7, 3) := by decide +kernel
theorem d2_11 : decode prog_2_method_5_code 11 = .ok (.aload_n 1, 1) := by decide +kernel
theorem d2_12 : decode prog_2_method_5_code 12 = .ok (.goto 4, 3) := by decide +kernel
theorem d2_16 : decode prog_2_method_5_code 16 = .ok (.areturn, 1) := by decide +kernel
theorem d2_15 : decode prog_2_method_5_code 15 = .ok (.aload_n 0, 1) := by decide +kernel
theorem ef_rm2 (m : MethodId) (a1 : Addr) (a2 : Addr) : entryFrame m #[(.ref a1), (.ref a2)] 2 = mkF m 0 #[rv a1, rv a2] [] := by first | (simp [entryFrame, mkF, argsToLocals, Value.category]; done) | rfl
def Q_rm2 (Z : State) (a0 : Array Value) (a1 : Addr) (a2 : Addr) (w1 : Int32) (w2 : Int32) (h0 : Heap) (n0 : Nat) (v : Option Value) (h : Heap) (L : List Loc) : Prop := v = some (.ref (own_worse a1 a2 w1 w2)) ∧ Fr n0 L ∧ h = h0
set_option maxRecDepth 65536 in
set_option maxHeartbeats 40000000 in
theorem rm2 (l : Launch) (Z : State) (a0 : Array Value) (hw : ∀ d ∈ tables_1, d.before a0 Z = true) (ws : List Jvm.Cond) (a1 : Addr) (a2 : Addr) (w1 : Int32) (w2 : Int32) (h0 : Heap) (n0 : Nat) (Z0 : n0 ≤ h0.size) (F1 : Fld Z h0 a1 "com/example/ordinance/ordinance/cli/ExitCode" "status" "I" (.int w1)) (F2 : Fld Z h0 a2 "com/example/ordinance/ordinance/cli/ExitCode" "status" "I" (.int w2)) :
    MetFree l (⟨"com/example/ordinance/ordinance/cli/ExitCode", "worse", "(Lcom/example/ordinance/ordinance/cli/ExitCode;)Lcom/example/ordinance/ordinance/cli/ExitCode;"⟩ : MethodName) (head1 (Jvm.Cond.code (⟨"com/example/ordinance/ordinance/cli/ExitCode", "worse", "(Lcom/example/ordinance/ordinance/cli/ExitCode;)Lcom/example/ordinance/ordinance/cli/ExitCode;"⟩ : MethodName) prog_2_method_5_code 2 (some (.object "com/example/ordinance/ordinance/cli/ExitCode")) :: ws) ({ frames := 0, cells := 0, slots := 0, locals := 0 } : Room)) (fun a U => a = #[(.ref a1), (.ref a2)] ∧ Z.Warmed39 U.vm ∧ U.heap = h0) (fun _ _ _ _ _ => True) (fun _ U o U' => ∃ v L, o = .returned v ∧ Q_rm2 Z a0 a1 a2 w1 w2 h0 n0 v U'.heap L ∧ FrameEnd U o U' L ({ frames := 0, cells := 0, slots := 0, locals := 0 } : Room).cells ({ frames := 0, cells := 0, slots := 0, locals := 0 } : Room).slots) := by
  refine MetFree.of_bodySF (plainFor_of_name pn_2) hisR ?_
  intro p e s m args below meth c s₁ Bd hml0 hP hK
  obtain ⟨rfl, hZ, hh⟩ := hP
  have hx := Bd.exec
  have hby := Bd.bytes
  have hml : c.maxLocals = 2 := hml0
  have hown : s.vm.findClass "com/example/ordinance/ordinance/cli/ExitCode" = some m.cls := findClass_of_methodNamed Bd.named
  have hnm := (name_of_methodNamed Bd.named Bd.method).1
  have hlk : meth.locks = false := BodyLoose.notSynchronized (by assumption)
  have X0 : Stand p l e ({ frames := 0, cells := 0, slots := 0, locals := 0 } : Room) s m #[(.ref a1), (.ref a2)] below meth c s₁ [] 0 0 := Stand.of_body Bd
  have e0 : s₁.heap = h0 := by rw [← hh, Bd.state]; rfl
  have N0 := Fr.nil n0
  show own_Go p.tables e below (fun o U' => ∃ v L, o = .returned v ∧ Q_rm2 Z a0 a1 a2 w1 w2 h0 n0 v U'.heap L ∧ FrameEnd s o U' L ({ frames := 0, cells := 0, slots := 0, locals := 0 } : Room).cells ({ frames := 0, cells := 0, slots := 0, locals := 0 } : Room).slots) (s₁.setTop (entryFrame m #[(.ref a1), (.ref a2)] 2))
  refine own_st (fun t k => castTop (ef_rm2 m a1 a2) k) ?_
  have hv : own_worse a1 a2 w1 w2 = (if w1 < w2 then a2 else a1) := rfl
  show own_Go _ _ _ _ (s₁.setTop (mkF m 0 #[rv a1, rv a2] []))
  refine o_aloadN X0 hx (hb hby d2_0) rfl rfl ?_
  obtain ⟨T1, X1, e1, st1⟩ := getF X0 hx hZ hown (host := "") (Or.inl (hw _ (List.mem_of_getElem? (i := 13) rfl))) Via.refl e0 F2 (g := (mkF m 1 #[rv a1, rv a2] [(.ref a2)])) rfl rfl (hb hby d2_1)
  refine own_st st1 ?_
  show own_Go _ _ _ _ (T1.setTop (mkF m 4 #[rv a1, rv a2] [(.int w2)]))
  refine o_aloadN X1 hx (hb hby d2_4) rfl rfl ?_
  obtain ⟨T2, X2, e2, st2⟩ := getF X1 hx hZ hown (host := "") (Or.inl (hw _ (List.mem_of_getElem? (i := 13) rfl))) Via.refl e1 F1 (g := (mkF m 5 #[rv a1, rv a2] [(.ref a1), (.int w2)])) rfl rfl (hb hby d2_5)
  refine own_st st2 ?_
  show own_Go _ _ _ _ (T2.setTop (mkF m 8 #[rv a1, rv a2] [(.int w1), (.int w2)]))
  by_cases hc8_3 : w1 < w2
  · have hv4 := hv.trans (if_pos hc8_3)
    refine o_icmpNo X2 hx (hb hby d2_8) (tlt hc8_3).2.2.2 ?_
    refine o_aloadN X2 hx (hb hby d2_11) rfl rfl ?_
    refine o_goto X2 hx (pc' := 16) (hb hby d2_12) (by decide) (by decide) ?_
    exact own_end X2 e2 (v := some (.ref a2)) (fun h => by rw [Bd.returns] at h; cases h) hlk (fun fs hr => own_retA X2 hx Bd.returns rfl rfl (hb hby d2_16) hr) (Q := Q_rm2 Z a0 a1 a2 w1 w2 h0 n0) ⟨(congrArg (fun z => some (Value.ref z)) hv4.symm), N0, rfl⟩ (by decide) (by decide)
  · have hv5 := hv.trans (if_neg hc8_3)
    refine o_icmpYes X2 hx (pc' := 15) (hb hby d2_8) (flt hc8_3).2.2.2 (by decide) (by decide) ?_
    refine o_aloadN X2 hx (hb hby d2_15) rfl rfl ?_
    exact own_end X2 e2 (v := some (.ref a1)) (fun h => by rw [Bd.returns] at h; cases h) hlk (fun fs hr => own_retA X2 hx Bd.returns rfl rfl (hb hby d2_16) hr) (Q := Q_rm2 Z a0 a1 a2 w1 w2 h0 n0) ⟨(congrArg (fun z => some (Value.ref z)) hv5.symm), N0, rfl⟩ (by decide) (by decide)
theorem own_three (x : Int32) : ((x &&& (2147483647 : Int32)) - (x &&& (2147483647 : Int32)) / (3 : Int32) * (3 : Int32)) = (0 : Int32) ∨ ((x &&& (2147483647 : Int32)) - (x &&& (2147483647 : Int32)) / (3 : Int32) * (3 : Int32)) = (1 : Int32) ∨ ((x &&& (2147483647 : Int32)) - (x &&& (2147483647 : Int32)) / (3 : Int32) * (3 : Int32)) = (2 : Int32) := by
  generalize hy : x &&& (2147483647 : Int32) = y
  have h0 : 0 ≤ y.toInt := by rw [← hy]; exact (c_and x (2147483647 : Int32) (by decide)).1
  have hq := (c_idiv y (3 : Int32) 3 rfl (by decide)).1 h0
  have hm := c_imul (y / (3 : Int32)) (3 : Int32)
  have hs := c_isub y (y / (3 : Int32) * (3 : Int32))
  have e3 : (3 : Int32).toInt = 3 := rfl
  rw [hq, e3] at hm
  have b1 := y.toInt_lt
  have b2 := (y / (3 : Int32) * (3 : Int32)).toInt_lt; have b3 := (y / (3 : Int32) * (3 : Int32)).le_toInt
  have b4 := (y - y / (3 : Int32) * (3 : Int32)).toInt_lt; have b5 := (y - y / (3 : Int32) * (3 : Int32)).le_toInt
  have e : ∀ n : Int32, (y - y / (3 : Int32) * (3 : Int32) = n) ↔ ((y - y / (3 : Int32) * (3 : Int32)).toInt = n.toInt) := fun n => Int32.toInt_inj.symm
  simp only [e]
  show (y - y / (3 : Int32) * (3 : Int32)).toInt = 0 ∨ (y - y / (3 : Int32) * (3 : Int32)).toInt = 1 ∨ (y - y / (3 : Int32) * (3 : Int32)).toInt = 2
  omega
theorem pd_1 : parseMethodDescriptor "(I)Lcom/example/ordinance/ordinance/cli/ExitCode;" = some ⟨[.int], some (.object "com/example/ordinance/ordinance/cli/ExitCode")⟩ := by decide +kernel
theorem pd_2 : parseMethodDescriptor "(Lcom/example/ordinance/ordinance/cli/ExitCode;)Lcom/example/ordinance/ordinance/cli/ExitCode;" = some ⟨[(.object "com/example/ordinance/ordinance/cli/ExitCode")], some (.object "com/example/ordinance/ordinance/cli/ExitCode")⟩ := by decide +kernel
theorem pd_3 : parseMethodDescriptor "(II)I" = some ⟨[.int, .int], some .int⟩ := by decide +kernel
theorem ef_rm0 (m : MethodId) (p1 : Int32) (p2 : Int32) : entryFrame m #[(.int p1), (.int p2)] maxLocals = mkF m 0 #[iv p1, iv p2, .unset, .unset, .unset] [] := by first | (simp [entryFrame, mkF, argsToLocals, Value.category, maxLocals]; done) | rfl
def Q_rm0 (Z : State) (a0 : Array Value) (p1 : Int32) (p2 : Int32) (ad : Addr) (ai : Addr) (ab : Addr) (h0 : Heap) (n0 : Nat) (v : Option Value) (h : Heap) (L : List Loc) : Prop := v = some (.int (1 : Int32)) ∧ Fr n0 L ∧ Keep h0 h []
set_option maxRecDepth 65536 in
set_option maxHeartbeats 40000000 in
theorem rm0 (l : Launch) (Z : State) (a0 : Array Value) (hw : ∀ d ∈ tables_1, d.before a0 Z = true) (ws : List Jvm.Cond) (p1 : Int32) (p2 : Int32) (ad : Addr) (ai : Addr) (ab : Addr) (h0 : Heap) (n0 : Nat) (Z0 : n0 ≤ h0.size) (S0 : Sta Z h0 "com/example/ordinance/ordinance/cli/ExitCode" "DONE" "Lcom/example/ordinance/ordinance/cli/ExitCode;" (.ref ad)) (S1 : Sta Z h0 "com/example/ordinance/ordinance/cli/ExitCode" "INVALID_INPUT" "Lcom/example/ordinance/ordinance/cli/ExitCode;" (.ref ai)) (S2 : Sta Z h0 "com/example/ordinance/ordinance/cli/ExitCode" "BAD_INVOCATION" "Lcom/example/ordinance/ordinance/cli/ExitCode;" (.ref ab)) (E0 : Exa Z h0 ad "com/example/ordinance/ordinance/cli/ExitCode") (E1 : Exa Z h0 ai "com/example/ordinance/ordinance/cli/ExitCode") (E2 : Exa Z h0 ab "com/example/ordinance/ordinance/cli/ExitCode") (F0 : Fld Z h0 ad "com/example/ordinance/ordinance/cli/ExitCode" "status" "I" (.int (0 : Int32))) (F1 : Fld Z h0 ai "com/example/ordinance/ordinance/cli/ExitCode" "status" "I" (.int (1 : Int32))) (F2 : Fld Z h0 ab "com/example/ordinance/ordinance/cli/ExitCode" "status" "I" (.int (2 : Int32))) :
    MetFree l x (head1 (Jvm.Cond.code x code maxLocals ret :: ws) room_1) (fun a U => a = #[(.int p1), (.int p2)] ∧ Z.Warmed39 U.vm ∧ U.heap = h0) (fun _ _ _ _ _ => True) (fun _ U o U' => ∃ v L, o = .returned v ∧ Q_rm0 Z a0 p1 p2 ad ai ab h0 n0 v U'.heap L ∧ FrameEnd U o U' L room_1.cells room_1.slots) := by
  refine MetFree.of_bodySF (plainFor_of_name pn_1) hisR ?_
  intro p e s m args below meth c s₁ Bd hml0 hP hK
  obtain ⟨rfl, hZ, hh⟩ := hP
  have hx := Bd.exec
  have hby := Bd.bytes
  have hml : c.maxLocals = 5 := hml0
  have hown : s.vm.findClass "com/example/ordinance/ordinance/cli/ExitCodeWorsePinLaw" = some m.cls := findClass_of_methodNamed Bd.named
  have hnm := (name_of_methodNamed Bd.named Bd.method).1
  have hlk : meth.locks = false := BodyLoose.notSynchronized (by assumption)
  have X0 : Stand p l e room_1 s m #[(.int p1), (.int p2)] below meth c s₁ [] 0 0 := Stand.of_body Bd
  have e0 : s₁.heap = h0 := by rw [← hh, Bd.state]; rfl
  have N0 := Fr.nil n0
  show own_Go p.tables e below (fun o U' => ∃ v L, o = .returned v ∧ Q_rm0 Z a0 p1 p2 ad ai ab h0 n0 v U'.heap L ∧ FrameEnd s o U' L room_1.cells room_1.slots) (s₁.setTop (entryFrame m #[(.int p1), (.int p2)] maxLocals))
  refine own_st (fun t k => castTop (ef_rm0 m p1 p2) k) ?_
  show own_Go _ _ _ _ (s₁.setTop (mkF m 0 #[iv p1, iv p2, .unset, .unset, .unset] []))
  refine o_iloadN X0 hx (hb hby at_0) rfl ?_
  refine o_ldc X0 hx hown (hb hby at_1) (mvT hZ (hw _ (List.mem_of_getElem? (i := 0) rfl))) ?_
  refine o_iand X0 hx (hb hby at_3) ?_
  refine o_iconst X0 hx 3 (hb hby at_4) rfl ?_
  refine o_irem X0 hx (hb hby at_5) (by decide) ?_
  refine o_istoreN X0 hx (hb hby at_6) (l' := #[iv p1, iv p2, iv ((p1 &&& (2147483647 : Int32)) - (p1 &&& (2147483647 : Int32)) / (3 : Int32) * (3 : Int32)), .unset, .unset]) rfl ?_
  refine o_iloadN X0 hx (hb hby at_7) rfl ?_
  refine o_ldc X0 hx hown (hb hby at_8) (mvT hZ (hw _ (List.mem_of_getElem? (i := 0) rfl))) ?_
  refine o_iand X0 hx (hb hby at_10) ?_
  refine o_iconst X0 hx 3 (hb hby at_11) rfl ?_
  refine o_irem X0 hx (hb hby at_12) (by decide) ?_
  refine o_istoreN X0 hx (hb hby at_13) (l' := #[iv p1, iv p2, iv ((p1 &&& (2147483647 : Int32)) - (p1 &&& (2147483647 : Int32)) / (3 : Int32) * (3 : Int32)), iv ((p2 &&& (2147483647 : Int32)) - (p2 &&& (2147483647 : Int32)) / (3 : Int32) * (3 : Int32)), .unset]) rfl ?_
  rcases own_three p1 with hI | hI | hI
  · rcases own_three p2 with hJ | hJ | hJ
    · show own_Go _ _ _ _ (s₁.setTop (mkF m 14 #[iv p1, iv p2, iv ((p1 &&& (2147483647 : Int32)) - (p1 &&& (2147483647 : Int32)) / (3 : Int32) * (3 : Int32)), iv ((p2 &&& (2147483647 : Int32)) - (p2 &&& (2147483647 : Int32)) / (3 : Int32) * (3 : Int32)), .unset] []))
      refine o_iloadN X0 hx (hb hby at_14) rfl ?_
      obtain ⟨_, _, ⟨T1, L1, k1, n1⟩, -, X1, ⟨Lc1, hQ1, l1, y1, z1⟩, st1⟩ := Jvm.LawKit.callS X0 hx (y := (⟨"com/example/ordinance/ordinance/cli/ExitCodeWorsePinLaw", "pick", "(I)Lcom/example/ordinance/ordinance/cli/ExitCode;"⟩ : MethodName)) hown (mvT hZ (hw _ (List.mem_of_getElem? (i := 1) rfl))) (mvT hZ (hw _ (List.mem_of_getElem? (i := 2) rfl))) (mvT hZ (hw _ (List.mem_of_getElem? (i := 3) rfl))) (mvT hZ (hw _ (List.mem_of_getElem? (i := 4) rfl))) (by decide) (backOf (W := 0) (rmpick0 l Z a0 hw [] ((p1 &&& (2147483647 : Int32)) - (p1 &&& (2147483647 : Int32)) / (3 : Int32) * (3 : Int32)) ad ai ab h0 n0 Z0 S0 S1 S2 hI) hZ (hw _ (List.mem_of_getElem? (i := 4) rfl)) (hw _ (List.mem_of_getElem? (i := 3) rfl)) (by decide) (by decide)) (g := (mkF m 15 #[iv p1, iv p2, iv ((p1 &&& (2147483647 : Int32)) - (p1 &&& (2147483647 : Int32)) / (3 : Int32) * (3 : Int32)), iv ((p2 &&& (2147483647 : Int32)) - (p2 &&& (2147483647 : Int32)) / (3 : Int32) * (3 : Int32)), .unset] [(.int ((p1 &&& (2147483647 : Int32)) - (p1 &&& (2147483647 : Int32)) / (3 : Int32) * (3 : Int32)))])) rfl (by rw [hml]; rfl) (argsL := [(.int ((p1 &&& (2147483647 : Int32)) - (p1 &&& (2147483647 : Int32)) / (3 : Int32) * (3 : Int32)))]) (rest := []) (lenOf pd_1 rfl) rfl (by show 2 * 0 + _ ≤ _; exact Nat.le_of_eq rfl) (hb hby at_15) (fun _ _ => ⟨rfl, e0, (by decide : 0 + 0 ≤ _), (by decide : 0 + 0 ≤ _)⟩)
      dsimp only [Pt.U, Pt.locs, Pt.cells, Pt.slots] at X1 l1 y1 z1 st1 hQ1
      subst l1 y1 z1
      obtain ⟨rfl, Nq1, e1⟩ := hQ1
      have N1 := Fr.app N0 Nq1
      refine own_st st1 ?_
      show own_Go _ _ _ _ (T1.setTop (mkF m 18 #[iv p1, iv p2, iv ((p1 &&& (2147483647 : Int32)) - (p1 &&& (2147483647 : Int32)) / (3 : Int32) * (3 : Int32)), iv ((p2 &&& (2147483647 : Int32)) - (p2 &&& (2147483647 : Int32)) / (3 : Int32) * (3 : Int32)), .unset] [(.ref ad)]))
      refine o_iloadN X1 hx (hb hby at_18) rfl ?_
      obtain ⟨_, _, ⟨T2, L2, k2, n2⟩, -, X2, ⟨Lc2, hQ2, l2, y2, z2⟩, st2⟩ := Jvm.LawKit.callS X1 hx (y := (⟨"com/example/ordinance/ordinance/cli/ExitCodeWorsePinLaw", "pick", "(I)Lcom/example/ordinance/ordinance/cli/ExitCode;"⟩ : MethodName)) hown (mvT hZ (hw _ (List.mem_of_getElem? (i := 1) rfl))) (mvT hZ (hw _ (List.mem_of_getElem? (i := 2) rfl))) (mvT hZ (hw _ (List.mem_of_getElem? (i := 3) rfl))) (mvT hZ (hw _ (List.mem_of_getElem? (i := 4) rfl))) (by decide) (backOf (W := 1) (rmpick0 l Z a0 hw [] ((p2 &&& (2147483647 : Int32)) - (p2 &&& (2147483647 : Int32)) / (3 : Int32) * (3 : Int32)) ad ai ab h0 n0 Z0 S0 S1 S2 hJ) hZ (hw _ (List.mem_of_getElem? (i := 4) rfl)) (hw _ (List.mem_of_getElem? (i := 3) rfl)) (by decide) (by decide)) (g := (mkF m 19 #[iv p1, iv p2, iv ((p1 &&& (2147483647 : Int32)) - (p1 &&& (2147483647 : Int32)) / (3 : Int32) * (3 : Int32)), iv ((p2 &&& (2147483647 : Int32)) - (p2 &&& (2147483647 : Int32)) / (3 : Int32) * (3 : Int32)), .unset] [(.int ((p2 &&& (2147483647 : Int32)) - (p2 &&& (2147483647 : Int32)) / (3 : Int32) * (3 : Int32))), (.ref ad)])) rfl (by rw [hml]; rfl) (argsL := [(.int ((p2 &&& (2147483647 : Int32)) - (p2 &&& (2147483647 : Int32)) / (3 : Int32) * (3 : Int32)))]) (rest := [(.ref ad)]) (lenOf pd_1 rfl) rfl (by show 2 * 0 + _ ≤ _; exact Nat.le_of_eq rfl) (hb hby at_19) (fun _ _ => ⟨rfl, e1, (by decide : 0 + 0 ≤ _), (by decide : 0 + 0 ≤ _)⟩)
      dsimp only [Pt.U, Pt.locs, Pt.cells, Pt.slots] at X2 l2 y2 z2 st2 hQ2
      subst l2 y2 z2
      obtain ⟨rfl, Nq2, e2⟩ := hQ2
      have N2 := Fr.app N1 Nq2
      refine own_st st2 ?_
      show own_Go _ _ _ _ (T2.setTop (mkF m 22 #[iv p1, iv p2, iv ((p1 &&& (2147483647 : Int32)) - (p1 &&& (2147483647 : Int32)) / (3 : Int32) * (3 : Int32)), iv ((p2 &&& (2147483647 : Int32)) - (p2 &&& (2147483647 : Int32)) / (3 : Int32) * (3 : Int32)), .unset] [(.ref ad), (.ref ad)]))
      obtain ⟨cq3, kq3, q3a, q3b, q3c⟩ := isOf hZ e2 E0
      obtain ⟨_, _, ⟨T3, L3, k3, n3⟩, -, X3, ⟨Lc3, hQ3, l3, y3, z3⟩, st3⟩ := X2.virtualBack hx (y := (⟨"com/example/ordinance/ordinance/cli/ExitCode", "worse", "(Lcom/example/ordinance/ordinance/cli/ExitCode;)Lcom/example/ordinance/ordinance/cli/ExitCode;"⟩ : MethodName)) (z := (⟨"com/example/ordinance/ordinance/cli/ExitCode", "worse", "(Lcom/example/ordinance/ordinance/cli/ExitCode;)Lcom/example/ordinance/ordinance/cli/ExitCode;"⟩ : MethodName)) hown (mvT hZ (hw _ (List.mem_of_getElem? (i := 8) rfl))) (mvT hZ (hw _ (List.mem_of_getElem? (i := 9) rfl))) (notFace_of_selects (args := #[]) (mvT hZ (hw _ (List.mem_of_getElem? (i := 11) rfl)))) (mvT hZ (hw _ (List.mem_of_getElem? (i := 11) rfl))) (mvT hZ (hw _ (List.mem_of_getElem? (i := 10) rfl))) (by decide) (backOf (W := 0) (rm2 l Z a0 hw [] ad ad (0 : Int32) (0 : Int32) h0 n0 Z0 F0 F0) hZ (hw _ (List.mem_of_getElem? (i := 12) rfl)) (hw _ (List.mem_of_getElem? (i := 6) rfl)) (by decide) (by decide)) q3a q3c (g := (mkF m 22 #[iv p1, iv p2, iv ((p1 &&& (2147483647 : Int32)) - (p1 &&& (2147483647 : Int32)) / (3 : Int32) * (3 : Int32)), iv ((p2 &&& (2147483647 : Int32)) - (p2 &&& (2147483647 : Int32)) / (3 : Int32) * (3 : Int32)), .unset] [(.ref ad), (.ref ad)])) rfl (by rw [hml]; rfl) (Steps.refl _) (argsL := [(.ref ad)]) (rest := []) (lenOf pd_2 rfl) rfl (by show 2 * 0 + _ ≤ _; exact Nat.le_of_eq rfl) (hb hby at_22) (fun _ _ => ⟨rfl, e2, (by decide : 0 + 0 ≤ _), (by decide : 0 + 0 ≤ _)⟩)
      dsimp only [Pt.U, Pt.locs, Pt.cells, Pt.slots] at X3 l3 y3 z3 st3 hQ3
      subst l3 y3 z3
      obtain ⟨rfl, Nq3, e3⟩ := hQ3
      have N3 := Fr.app N2 Nq3
      refine own_tr st3 ?_
      show own_Go _ _ _ _ (T3.setTop (mkF m 25 #[iv p1, iv p2, iv ((p1 &&& (2147483647 : Int32)) - (p1 &&& (2147483647 : Int32)) / (3 : Int32) * (3 : Int32)), iv ((p2 &&& (2147483647 : Int32)) - (p2 &&& (2147483647 : Int32)) / (3 : Int32) * (3 : Int32)), .unset] [(.ref (own_worse ad ad (0 : Int32) (0 : Int32)))]))
      refine o_astore X3 hx (hb hby at_25) rfl (l' := #[iv p1, iv p2, iv ((p1 &&& (2147483647 : Int32)) - (p1 &&& (2147483647 : Int32)) / (3 : Int32) * (3 : Int32)), iv ((p2 &&& (2147483647 : Int32)) - (p2 &&& (2147483647 : Int32)) / (3 : Int32) * (3 : Int32)), rv (own_worse ad ad (0 : Int32) (0 : Int32))]) rfl ?_
      refine o_aload X3 hx (hb hby at_27) rfl rfl ?_
      refine o_iloadN X3 hx (hb hby at_29) rfl ?_
      refine o_iloadN X3 hx (hb hby at_30) rfl ?_
      obtain ⟨_, _, ⟨T4, L4, k4, n4⟩, -, X4, ⟨Lc4, hQ4, l4, y4, z4⟩, st4⟩ := Jvm.LawKit.callS X3 hx (y := (⟨"java/lang/Math", "max", "(II)I"⟩ : MethodName)) hown (mvT hZ (hw _ (List.mem_of_getElem? (i := 15) rfl))) (mvT hZ (hw _ (List.mem_of_getElem? (i := 16) rfl))) (mvT hZ (hw _ (List.mem_of_getElem? (i := 17) rfl))) (mvT hZ (hw _ (List.mem_of_getElem? (i := 18) rfl))) (by decide) (backOf (W := 1) (rm3 l Z a0 hw [] ((p1 &&& (2147483647 : Int32)) - (p1 &&& (2147483647 : Int32)) / (3 : Int32) * (3 : Int32)) ((p2 &&& (2147483647 : Int32)) - (p2 &&& (2147483647 : Int32)) / (3 : Int32) * (3 : Int32))  h0 n0 Z0) hZ (hw _ (List.mem_of_getElem? (i := 18) rfl)) (hw _ (List.mem_of_getElem? (i := 17) rfl)) (by decide) (by decide)) (g := (mkF m 31 #[iv p1, iv p2, iv ((p1 &&& (2147483647 : Int32)) - (p1 &&& (2147483647 : Int32)) / (3 : Int32) * (3 : Int32)), iv ((p2 &&& (2147483647 : Int32)) - (p2 &&& (2147483647 : Int32)) / (3 : Int32) * (3 : Int32)), rv (own_worse ad ad (0 : Int32) (0 : Int32))] [(.int ((p2 &&& (2147483647 : Int32)) - (p2 &&& (2147483647 : Int32)) / (3 : Int32) * (3 : Int32))), (.int ((p1 &&& (2147483647 : Int32)) - (p1 &&& (2147483647 : Int32)) / (3 : Int32) * (3 : Int32))), (.ref (own_worse ad ad (0 : Int32) (0 : Int32)))])) rfl (by rw [hml]; rfl) (argsL := [(.int ((p1 &&& (2147483647 : Int32)) - (p1 &&& (2147483647 : Int32)) / (3 : Int32) * (3 : Int32))), (.int ((p2 &&& (2147483647 : Int32)) - (p2 &&& (2147483647 : Int32)) / (3 : Int32) * (3 : Int32)))]) (rest := [(.ref (own_worse ad ad (0 : Int32) (0 : Int32)))]) (lenOf pd_3 rfl) rfl (by show 2 * 0 + _ ≤ _; exact Nat.le_of_eq rfl) (hb hby at_31) (fun _ _ => ⟨rfl, e3, (by decide : 0 + 0 ≤ _), (by decide : 0 + 0 ≤ _)⟩)
      dsimp only [Pt.U, Pt.locs, Pt.cells, Pt.slots] at X4 l4 y4 z4 st4 hQ4
      subst l4 y4 z4
      obtain ⟨rfl, Nq4, e4⟩ := hQ4
      have N4 := Fr.app N3 Nq4
      refine own_st st4 ?_
      show own_Go _ _ _ _ (T4.setTop (mkF m 34 #[iv p1, iv p2, iv ((p1 &&& (2147483647 : Int32)) - (p1 &&& (2147483647 : Int32)) / (3 : Int32) * (3 : Int32)), iv ((p2 &&& (2147483647 : Int32)) - (p2 &&& (2147483647 : Int32)) / (3 : Int32) * (3 : Int32)), rv (own_worse ad ad (0 : Int32) (0 : Int32))] [(.int (own_max ((p1 &&& (2147483647 : Int32)) - (p1 &&& (2147483647 : Int32)) / (3 : Int32) * (3 : Int32)) ((p2 &&& (2147483647 : Int32)) - (p2 &&& (2147483647 : Int32)) / (3 : Int32) * (3 : Int32)))), (.ref (own_worse ad ad (0 : Int32) (0 : Int32)))]))
      obtain ⟨_, _, ⟨T5, L5, k5, n5⟩, -, X5, ⟨Lc5, hQ5, l5, y5, z5⟩, st5⟩ := Jvm.LawKit.callS X4 hx (y := (⟨"com/example/ordinance/ordinance/cli/ExitCodeWorsePinLaw", "pick", "(I)Lcom/example/ordinance/ordinance/cli/ExitCode;"⟩ : MethodName)) hown (mvT hZ (hw _ (List.mem_of_getElem? (i := 1) rfl))) (mvT hZ (hw _ (List.mem_of_getElem? (i := 2) rfl))) (mvT hZ (hw _ (List.mem_of_getElem? (i := 3) rfl))) (mvT hZ (hw _ (List.mem_of_getElem? (i := 4) rfl))) (by decide) (backOf (W := 1) (rmpick0 l Z a0 hw [] (own_max ((p1 &&& (2147483647 : Int32)) - (p1 &&& (2147483647 : Int32)) / (3 : Int32) * (3 : Int32)) ((p2 &&& (2147483647 : Int32)) - (p2 &&& (2147483647 : Int32)) / (3 : Int32) * (3 : Int32))) ad ai ab h0 n0 Z0 S0 S1 S2 (by rw [hI, hJ]; rfl)) hZ (hw _ (List.mem_of_getElem? (i := 4) rfl)) (hw _ (List.mem_of_getElem? (i := 3) rfl)) (by decide) (by decide)) (g := (mkF m 34 #[iv p1, iv p2, iv ((p1 &&& (2147483647 : Int32)) - (p1 &&& (2147483647 : Int32)) / (3 : Int32) * (3 : Int32)), iv ((p2 &&& (2147483647 : Int32)) - (p2 &&& (2147483647 : Int32)) / (3 : Int32) * (3 : Int32)), rv (own_worse ad ad (0 : Int32) (0 : Int32))] [(.int (own_max ((p1 &&& (2147483647 : Int32)) - (p1 &&& (2147483647 : Int32)) / (3 : Int32) * (3 : Int32)) ((p2 &&& (2147483647 : Int32)) - (p2 &&& (2147483647 : Int32)) / (3 : Int32) * (3 : Int32)))), (.ref (own_worse ad ad (0 : Int32) (0 : Int32)))])) rfl (by rw [hml]; rfl) (argsL := [(.int (own_max ((p1 &&& (2147483647 : Int32)) - (p1 &&& (2147483647 : Int32)) / (3 : Int32) * (3 : Int32)) ((p2 &&& (2147483647 : Int32)) - (p2 &&& (2147483647 : Int32)) / (3 : Int32) * (3 : Int32))))]) (rest := [(.ref (own_worse ad ad (0 : Int32) (0 : Int32)))]) (lenOf pd_1 rfl) rfl (by show 2 * 0 + _ ≤ _; exact Nat.le_of_eq rfl) (hb hby at_34) (fun _ _ => ⟨rfl, e4, (by decide : 0 + 0 ≤ _), (by decide : 0 + 0 ≤ _)⟩)
      dsimp only [Pt.U, Pt.locs, Pt.cells, Pt.slots] at X5 l5 y5 z5 st5 hQ5
      subst l5 y5 z5
      obtain ⟨rfl, Nq5, e5⟩ := hQ5
      have N5 := Fr.app N4 Nq5
      refine own_st st5 ?_
      show own_Go _ _ _ _ (T5.setTop (mkF m 37 #[iv p1, iv p2, iv ((p1 &&& (2147483647 : Int32)) - (p1 &&& (2147483647 : Int32)) / (3 : Int32) * (3 : Int32)), iv ((p2 &&& (2147483647 : Int32)) - (p2 &&& (2147483647 : Int32)) / (3 : Int32) * (3 : Int32)), rv (own_worse ad ad (0 : Int32) (0 : Int32))] [(.ref ad), (.ref (own_worse ad ad (0 : Int32) (0 : Int32)))]))
      refine own_st (fun t k => Jvm.RoadKit.acmp (g := (mkF m 37 #[iv p1, iv p2, iv ((p1 &&& (2147483647 : Int32)) - (p1 &&& (2147483647 : Int32)) / (3 : Int32) * (3 : Int32)), iv ((p2 &&& (2147483647 : Int32)) - (p2 &&& (2147483647 : Int32)) / (3 : Int32) * (3 : Int32)), rv (own_worse ad ad (0 : Int32) (0 : Int32))] [(.ref ad), (.ref (own_worse ad ad (0 : Int32) (0 : Int32)))])) X5 hx rfl rfl rfl (pc0 := 37) (pc' := 40) (same := true) rfl (hb hby at_37) rfl (decide_eq_true (congrArg Value.ref (rfl : own_worse ad ad (0 : Int32) (0 : Int32) = ad))) (by decide) (by decide) k) ?_
      show own_Go _ _ _ _ (T5.setTop (mkF m 40 #[iv p1, iv p2, iv ((p1 &&& (2147483647 : Int32)) - (p1 &&& (2147483647 : Int32)) / (3 : Int32) * (3 : Int32)), iv ((p2 &&& (2147483647 : Int32)) - (p2 &&& (2147483647 : Int32)) / (3 : Int32) * (3 : Int32)), rv (own_worse ad ad (0 : Int32) (0 : Int32))] []))
      refine o_iconst X5 hx 1 (hb hby at_40) rfl ?_
      refine o_goto X5 hx (pc' := 45) (hb hby at_41) (by decide) (by decide) ?_
      exact own_end X5 e5 (v := some (.int (1 : Int32))) (fun h => by rw [Bd.returns] at h; cases h) hlk (fun fs hr => retN X5 hx (z := (1 : Int32)) (t := .boolean) Bd.returns (by simp) (hb hby at_45) hr) (Q := Q_rm0 Z a0 p1 p2 ad ai ab h0 n0) ⟨rfl, N5, (Keep.refl h0 [])⟩ (by decide) (by decide)
    · show own_Go _ _ _ _ (s₁.setTop (mkF m 14 #[iv p1, iv p2, iv ((p1 &&& (2147483647 : Int32)) - (p1 &&& (2147483647 : Int32)) / (3 : Int32) * (3 : Int32)), iv ((p2 &&& (2147483647 : Int32)) - (p2 &&& (2147483647 : Int32)) / (3 : Int32) * (3 : Int32)), .unset] []))
      refine o_iloadN X0 hx (hb hby at_14) rfl ?_
      obtain ⟨_, _, ⟨T6, L6, k6, n6⟩, -, X6, ⟨Lc6, hQ6, l6, y6, z6⟩, st6⟩ := Jvm.LawKit.callS X0 hx (y := (⟨"com/example/ordinance/ordinance/cli/ExitCodeWorsePinLaw", "pick", "(I)Lcom/example/ordinance/ordinance/cli/ExitCode;"⟩ : MethodName)) hown (mvT hZ (hw _ (List.mem_of_getElem? (i := 1) rfl))) (mvT hZ (hw _ (List.mem_of_getElem? (i := 2) rfl))) (mvT hZ (hw _ (List.mem_of_getElem? (i := 3) rfl))) (mvT hZ (hw _ (List.mem_of_getElem? (i := 4) rfl))) (by decide) (backOf (W := 0) (rmpick0 l Z a0 hw [] ((p1 &&& (2147483647 : Int32)) - (p1 &&& (2147483647 : Int32)) / (3 : Int32) * (3 : Int32)) ad ai ab h0 n0 Z0 S0 S1 S2 hI) hZ (hw _ (List.mem_of_getElem? (i := 4) rfl)) (hw _ (List.mem_of_getElem? (i := 3) rfl)) (by decide) (by decide)) (g := (mkF m 15 #[iv p1, iv p2, iv ((p1 &&& (2147483647 : Int32)) - (p1 &&& (2147483647 : Int32)) / (3 : Int32) * (3 : Int32)), iv ((p2 &&& (2147483647 : Int32)) - (p2 &&& (2147483647 : Int32)) / (3 : Int32) * (3 : Int32)), .unset] [(.int ((p1 &&& (2147483647 : Int32)) - (p1 &&& (2147483647 : Int32)) / (3 : Int32) * (3 : Int32)))])) rfl (by rw [hml]; rfl) (argsL := [(.int ((p1 &&& (2147483647 : Int32)) - (p1 &&& (2147483647 : Int32)) / (3 : Int32) * (3 : Int32)))]) (rest := []) (lenOf pd_1 rfl) rfl (by show 2 * 0 + _ ≤ _; exact Nat.le_of_eq rfl) (hb hby at_15) (fun _ _ => ⟨rfl, e0, (by decide : 0 + 0 ≤ _), (by decide : 0 + 0 ≤ _)⟩)
      dsimp only [Pt.U, Pt.locs, Pt.cells, Pt.slots] at X6 l6 y6 z6 st6 hQ6
      subst l6 y6 z6
      obtain ⟨rfl, Nq6, e6⟩ := hQ6
      have N6 := Fr.app N0 Nq6
      refine own_st st6 ?_
      show own_Go _ _ _ _ (T6.setTop (mkF m 18 #[iv p1, iv p2, iv ((p1 &&& (2147483647 : Int32)) - (p1 &&& (2147483647 : Int32)) / (3 : Int32) * (3 : Int32)), iv ((p2 &&& (2147483647 : Int32)) - (p2 &&& (2147483647 : Int32)) / (3 : Int32) * (3 : Int32)), .unset] [(.ref ad)]))
      refine o_iloadN X6 hx (hb hby at_18) rfl ?_
      obtain ⟨_, _, ⟨T7, L7, k7, n7⟩, -, X7, ⟨Lc7, hQ7, l7, y7, z7⟩, st7⟩ := Jvm.LawKit.callS X6 hx (y := (⟨"com/example/ordinance/ordinance/cli/ExitCodeWorsePinLaw", "pick", "(I)Lcom/example/ordinance/ordinance/cli/ExitCode;"⟩ : MethodName)) hown (mvT hZ (hw _ (List.mem_of_getElem? (i := 1) rfl))) (mvT hZ (hw _ (List.mem_of_getElem? (i := 2) rfl))) (mvT hZ (hw _ (List.mem_of_getElem? (i := 3) rfl))) (mvT hZ (hw _ (List.mem_of_getElem? (i := 4) rfl))) (by decide) (backOf (W := 1) (rmpick1 l Z a0 hw [] ((p2 &&& (2147483647 : Int32)) - (p2 &&& (2147483647 : Int32)) / (3 : Int32) * (3 : Int32)) ad ai ab h0 n0 Z0 S0 S1 S2 hJ) hZ (hw _ (List.mem_of_getElem? (i := 4) rfl)) (hw _ (List.mem_of_getElem? (i := 3) rfl)) (by decide) (by decide)) (g := (mkF m 19 #[iv p1, iv p2, iv ((p1 &&& (2147483647 : Int32)) - (p1 &&& (2147483647 : Int32)) / (3 : Int32) * (3 : Int32)), iv ((p2 &&& (2147483647 : Int32)) - (p2 &&& (2147483647 : Int32)) / (3 : Int32) * (3 : Int32)), .unset] [(.int ((p2 &&& (2147483647 : Int32)) - (p2 &&& (2147483647 : Int32)) / (3 : Int32) * (3 : Int32))), (.ref ad)])) rfl (by rw [hml]; rfl) (argsL := [(.int ((p2 &&& (2147483647 : Int32)) - (p2 &&& (2147483647 : Int32)) / (3 : Int32) * (3 : Int32)))]) (rest := [(.ref ad)]) (lenOf pd_1 rfl) rfl (by show 2 * 0 + _ ≤ _; exact Nat.le_of_eq rfl) (hb hby at_19) (fun _ _ => ⟨rfl, e6, (by decide : 0 + 0 ≤ _), (by decide : 0 + 0 ≤ _)⟩)
      dsimp only [Pt.U, Pt.locs, Pt.cells, Pt.slots] at X7 l7 y7 z7 st7 hQ7
      subst l7 y7 z7
      obtain ⟨rfl, Nq7, e7⟩ := hQ7
      have N7 := Fr.app N6 Nq7
      refine own_st st7 ?_
      show own_Go _ _ _ _ (T7.setTop (mkF m 22 #[iv p1, iv p2, iv ((p1 &&& (2147483647 : Int32)) - (p1 &&& (2147483647 : Int32)) / (3 : Int32) * (3 : Int32)), iv ((p2 &&& (2147483647 : Int32)) - (p2 &&& (2147483647 : Int32)) / (3 : Int32) * (3 : Int32)), .unset] [(.ref ai), (.ref ad)]))
      obtain ⟨cq8, kq8, q8a, q8b, q8c⟩ := isOf hZ e7 E0
      obtain ⟨_, _, ⟨T8, L8, k8, n8⟩, -, X8, ⟨Lc8, hQ8, l8, y8, z8⟩, st8⟩ := X7.virtualBack hx (y := (⟨"com/example/ordinance/ordinance/cli/ExitCode", "worse", "(Lcom/example/ordinance/ordinance/cli/ExitCode;)Lcom/example/ordinance/ordinance/cli/ExitCode;"⟩ : MethodName)) (z := (⟨"com/example/ordinance/ordinance/cli/ExitCode", "worse", "(Lcom/example/ordinance/ordinance/cli/ExitCode;)Lcom/example/ordinance/ordinance/cli/ExitCode;"⟩ : MethodName)) hown (mvT hZ (hw _ (List.mem_of_getElem? (i := 8) rfl))) (mvT hZ (hw _ (List.mem_of_getElem? (i := 9) rfl))) (notFace_of_selects (args := #[]) (mvT hZ (hw _ (List.mem_of_getElem? (i := 11) rfl)))) (mvT hZ (hw _ (List.mem_of_getElem? (i := 11) rfl))) (mvT hZ (hw _ (List.mem_of_getElem? (i := 10) rfl))) (by decide) (backOf (W := 0) (rm2 l Z a0 hw [] ad ai (0 : Int32) (1 : Int32) h0 n0 Z0 F0 F1) hZ (hw _ (List.mem_of_getElem? (i := 12) rfl)) (hw _ (List.mem_of_getElem? (i := 6) rfl)) (by decide) (by decide)) q8a q8c (g := (mkF m 22 #[iv p1, iv p2, iv ((p1 &&& (2147483647 : Int32)) - (p1 &&& (2147483647 : Int32)) / (3 : Int32) * (3 : Int32)), iv ((p2 &&& (2147483647 : Int32)) - (p2 &&& (2147483647 : Int32)) / (3 : Int32) * (3 : Int32)), .unset] [(.ref ai), (.ref ad)])) rfl (by rw [hml]; rfl) (Steps.refl _) (argsL := [(.ref ai)]) (rest := []) (lenOf pd_2 rfl) rfl (by show 2 * 0 + _ ≤ _; exact Nat.le_of_eq rfl) (hb hby at_22) (fun _ _ => ⟨rfl, e7, (by decide : 0 + 0 ≤ _), (by decide : 0 + 0 ≤ _)⟩)
      dsimp only [Pt.U, Pt.locs, Pt.cells, Pt.slots] at X8 l8 y8 z8 st8 hQ8
      subst l8 y8 z8
      obtain ⟨rfl, Nq8, e8⟩ := hQ8
      have N8 := Fr.app N7 Nq8
      refine own_tr st8 ?_
      show own_Go _ _ _ _ (T8.setTop (mkF m 25 #[iv p1, iv p2, iv ((p1 &&& (2147483647 : Int32)) - (p1 &&& (2147483647 : Int32)) / (3 : Int32) * (3 : Int32)), iv ((p2 &&& (2147483647 : Int32)) - (p2 &&& (2147483647 : Int32)) / (3 : Int32) * (3 : Int32)), .unset] [(.ref (own_worse ad ai (0 : Int32) (1 : Int32)))]))
      refine o_astore X8 hx (hb hby at_25) rfl (l' := #[iv p1, iv p2, iv ((p1 &&& (2147483647 : Int32)) - (p1 &&& (2147483647 : Int32)) / (3 : Int32) * (3 : Int32)), iv ((p2 &&& (2147483647 : Int32)) - (p2 &&& (2147483647 : Int32)) / (3 : Int32) * (3 : Int32)), rv (own_worse ad ai (0 : Int32) (1 : Int32))]) rfl ?_
      refine o_aload X8 hx (hb hby at_27) rfl rfl ?_
      refine o_iloadN X8 hx (hb hby at_29) rfl ?_
      refine o_iloadN X8 hx (hb hby at_30) rfl ?_
      obtain ⟨_, _, ⟨T9, L9, k9, n9⟩, -, X9, ⟨Lc9, hQ9, l9, y9, z9⟩, st9⟩ := Jvm.LawKit.callS X8 hx (y := (⟨"java/lang/Math", "max", "(II)I"⟩ : MethodName)) hown (mvT hZ (hw _ (List.mem_of_getElem? (i := 15) rfl))) (mvT hZ (hw _ (List.mem_of_getElem? (i := 16) rfl))) (mvT hZ (hw _ (List.mem_of_getElem? (i := 17) rfl))) (mvT hZ (hw _ (List.mem_of_getElem? (i := 18) rfl))) (by decide) (backOf (W := 1) (rm3 l Z a0 hw [] ((p1 &&& (2147483647 : Int32)) - (p1 &&& (2147483647 : Int32)) / (3 : Int32) * (3 : Int32)) ((p2 &&& (2147483647 : Int32)) - (p2 &&& (2147483647 : Int32)) / (3 : Int32) * (3 : Int32))  h0 n0 Z0) hZ (hw _ (List.mem_of_getElem? (i := 18) rfl)) (hw _ (List.mem_of_getElem? (i := 17) rfl)) (by decide) (by decide)) (g := (mkF m 31 #[iv p1, iv p2, iv ((p1 &&& (2147483647 : Int32)) - (p1 &&& (2147483647 : Int32)) / (3 : Int32) * (3 : Int32)), iv ((p2 &&& (2147483647 : Int32)) - (p2 &&& (2147483647 : Int32)) / (3 : Int32) * (3 : Int32)), rv (own_worse ad ai (0 : Int32) (1 : Int32))] [(.int ((p2 &&& (2147483647 : Int32)) - (p2 &&& (2147483647 : Int32)) / (3 : Int32) * (3 : Int32))), (.int ((p1 &&& (2147483647 : Int32)) - (p1 &&& (2147483647 : Int32)) / (3 : Int32) * (3 : Int32))), (.ref (own_worse ad ai (0 : Int32) (1 : Int32)))])) rfl (by rw [hml]; rfl) (argsL := [(.int ((p1 &&& (2147483647 : Int32)) - (p1 &&& (2147483647 : Int32)) / (3 : Int32) * (3 : Int32))), (.int ((p2 &&& (2147483647 : Int32)) - (p2 &&& (2147483647 : Int32)) / (3 : Int32) * (3 : Int32)))]) (rest := [(.ref (own_worse ad ai (0 : Int32) (1 : Int32)))]) (lenOf pd_3 rfl) rfl (by show 2 * 0 + _ ≤ _; exact Nat.le_of_eq rfl) (hb hby at_31) (fun _ _ => ⟨rfl, e8, (by decide : 0 + 0 ≤ _), (by decide : 0 + 0 ≤ _)⟩)
      dsimp only [Pt.U, Pt.locs, Pt.cells, Pt.slots] at X9 l9 y9 z9 st9 hQ9
      subst l9 y9 z9
      obtain ⟨rfl, Nq9, e9⟩ := hQ9
      have N9 := Fr.app N8 Nq9
      refine own_st st9 ?_
      show own_Go _ _ _ _ (T9.setTop (mkF m 34 #[iv p1, iv p2, iv ((p1 &&& (2147483647 : Int32)) - (p1 &&& (2147483647 : Int32)) / (3 : Int32) * (3 : Int32)), iv ((p2 &&& (2147483647 : Int32)) - (p2 &&& (2147483647 : Int32)) / (3 : Int32) * (3 : Int32)), rv (own_worse ad ai (0 : Int32) (1 : Int32))] [(.int (own_max ((p1 &&& (2147483647 : Int32)) - (p1 &&& (2147483647 : Int32)) / (3 : Int32) * (3 : Int32)) ((p2 &&& (2147483647 : Int32)) - (p2 &&& (2147483647 : Int32)) / (3 : Int32) * (3 : Int32)))), (.ref (own_worse ad ai (0 : Int32) (1 : Int32)))]))
      obtain ⟨_, _, ⟨T10, L10, k10, n10⟩, -, X10, ⟨Lc10, hQ10, l10, y10, z10⟩, st10⟩ := Jvm.LawKit.callS X9 hx (y := (⟨"com/example/ordinance/ordinance/cli/ExitCodeWorsePinLaw", "pick", "(I)Lcom/example/ordinance/ordinance/cli/ExitCode;"⟩ : MethodName)) hown (mvT hZ (hw _ (List.mem_of_getElem? (i := 1) rfl))) (mvT hZ (hw _ (List.mem_of_getElem? (i := 2) rfl))) (mvT hZ (hw _ (List.mem_of_getElem? (i := 3) rfl))) (mvT hZ (hw _ (List.mem_of_getElem? (i := 4) rfl))) (by decide) (backOf (W := 1) (rmpick1 l Z a0 hw [] (own_max ((p1 &&& (2147483647 : Int32)) - (p1 &&& (2147483647 : Int32)) / (3 : Int32) * (3 : Int32)) ((p2 &&& (2147483647 : Int32)) - (p2 &&& (2147483647 : Int32)) / (3 : Int32) * (3 : Int32))) ad ai ab h0 n0 Z0 S0 S1 S2 (by rw [hI, hJ]; rfl)) hZ (hw _ (List.mem_of_getElem? (i := 4) rfl)) (hw _ (List.mem_of_getElem? (i := 3) rfl)) (by decide) (by decide)) (g := (mkF m 34 #[iv p1, iv p2, iv ((p1 &&& (2147483647 : Int32)) - (p1 &&& (2147483647 : Int32)) / (3 : Int32) * (3 : Int32)), iv ((p2 &&& (2147483647 : Int32)) - (p2 &&& (2147483647 : Int32)) / (3 : Int32) * (3 : Int32)), rv (own_worse ad ai (0 : Int32) (1 : Int32))] [(.int (own_max ((p1 &&& (2147483647 : Int32)) - (p1 &&& (2147483647 : Int32)) / (3 : Int32) * (3 : Int32)) ((p2 &&& (2147483647 : Int32)) - (p2 &&& (2147483647 : Int32)) / (3 : Int32) * (3 : Int32)))), (.ref (own_worse ad ai (0 : Int32) (1 : Int32)))])) rfl (by rw [hml]; rfl) (argsL := [(.int (own_max ((p1 &&& (2147483647 : Int32)) - (p1 &&& (2147483647 : Int32)) / (3 : Int32) * (3 : Int32)) ((p2 &&& (2147483647 : Int32)) - (p2 &&& (2147483647 : Int32)) / (3 : Int32) * (3 : Int32))))]) (rest := [(.ref (own_worse ad ai (0 : Int32) (1 : Int32)))]) (lenOf pd_1 rfl) rfl (by show 2 * 0 + _ ≤ _; exact Nat.le_of_eq rfl) (hb hby at_34) (fun _ _ => ⟨rfl, e9, (by decide : 0 + 0 ≤ _), (by decide : 0 + 0 ≤ _)⟩)
      dsimp only [Pt.U, Pt.locs, Pt.cells, Pt.slots] at X10 l10 y10 z10 st10 hQ10
      subst l10 y10 z10
      obtain ⟨rfl, Nq10, e10⟩ := hQ10
      have N10 := Fr.app N9 Nq10
      refine own_st st10 ?_
      show own_Go _ _ _ _ (T10.setTop (mkF m 37 #[iv p1, iv p2, iv ((p1 &&& (2147483647 : Int32)) - (p1 &&& (2147483647 : Int32)) / (3 : Int32) * (3 : Int32)), iv ((p2 &&& (2147483647 : Int32)) - (p2 &&& (2147483647 : Int32)) / (3 : Int32) * (3 : Int32)), rv (own_worse ad ai (0 : Int32) (1 : Int32))] [(.ref ai), (.ref (own_worse ad ai (0 : Int32) (1 : Int32)))]))
      refine own_st (fun t k => Jvm.RoadKit.acmp (g := (mkF m 37 #[iv p1, iv p2, iv ((p1 &&& (2147483647 : Int32)) - (p1 &&& (2147483647 : Int32)) / (3 : Int32) * (3 : Int32)), iv ((p2 &&& (2147483647 : Int32)) - (p2 &&& (2147483647 : Int32)) / (3 : Int32) * (3 : Int32)), rv (own_worse ad ai (0 : Int32) (1 : Int32))] [(.ref ai), (.ref (own_worse ad ai (0 : Int32) (1 : Int32)))])) X10 hx rfl rfl rfl (pc0 := 37) (pc' := 40) (same := true) rfl (hb hby at_37) rfl (decide_eq_true (congrArg Value.ref (rfl : own_worse ad ai (0 : Int32) (1 : Int32) = ai))) (by decide) (by decide) k) ?_
      show own_Go _ _ _ _ (T10.setTop (mkF m 40 #[iv p1, iv p2, iv ((p1 &&& (2147483647 : Int32)) - (p1 &&& (2147483647 : Int32)) / (3 : Int32) * (3 : Int32)), iv ((p2 &&& (2147483647 : Int32)) - (p2 &&& (2147483647 : Int32)) / (3 : Int32) * (3 : Int32)), rv (own_worse ad ai (0 : Int32) (1 : Int32))] []))
      refine o_iconst X10 hx 1 (hb hby at_40) rfl ?_
      refine o_goto X10 hx (pc' := 45) (hb hby at_41) (by decide) (by decide) ?_
      exact own_end X10 e10 (v := some (.int (1 : Int32))) (fun h => by rw [Bd.returns] at h; cases h) hlk (fun fs hr => retN X10 hx (z := (1 : Int32)) (t := .boolean) Bd.returns (by simp) (hb hby at_45) hr) (Q := Q_rm0 Z a0 p1 p2 ad ai ab h0 n0) ⟨rfl, N10, (Keep.refl h0 [])⟩ (by decide) (by decide)
    · show own_Go _ _ _ _ (s₁.setTop (mkF m 14 #[iv p1, iv p2, iv ((p1 &&& (2147483647 : Int32)) - (p1 &&& (2147483647 : Int32)) / (3 : Int32) * (3 : Int32)), iv ((p2 &&& (2147483647 : Int32)) - (p2 &&& (2147483647 : Int32)) / (3 : Int32) * (3 : Int32)), .unset] []))
      refine o_iloadN X0 hx (hb hby at_14) rfl ?_
      obtain ⟨_, _, ⟨T11, L11, k11, n11⟩, -, X11, ⟨Lc11, hQ11, l11, y11, z11⟩, st11⟩ := Jvm.LawKit.callS X0 hx (y := (⟨"com/example/ordinance/ordinance/cli/ExitCodeWorsePinLaw", "pick", "(I)Lcom/example/ordinance/ordinance/cli/ExitCode;"⟩ : MethodName)) hown (mvT hZ (hw _ (List.mem_of_getElem? (i := 1) rfl))) (mvT hZ (hw _ (List.mem_of_getElem? (i := 2) rfl))) (mvT hZ (hw _ (List.mem_of_getElem? (i := 3) rfl))) (mvT hZ (hw _ (List.mem_of_getElem? (i := 4) rfl))) (by decide) (backOf (W := 0) (rmpick0 l Z a0 hw [] ((p1 &&& (2147483647 : Int32)) - (p1 &&& (2147483647 : Int32)) / (3 : Int32) * (3 : Int32)) ad ai ab h0 n0 Z0 S0 S1 S2 hI) hZ (hw _ (List.mem_of_getElem? (i := 4) rfl)) (hw _ (List.mem_of_getElem? (i := 3) rfl)) (by decide) (by decide)) (g := (mkF m 15 #[iv p1, iv p2, iv ((p1 &&& (2147483647 : Int32)) - (p1 &&& (2147483647 : Int32)) / (3 : Int32) * (3 : Int32)), iv ((p2 &&& (2147483647 : Int32)) - (p2 &&& (2147483647 : Int32)) / (3 : Int32) * (3 : Int32)), .unset] [(.int ((p1 &&& (2147483647 : Int32)) - (p1 &&& (2147483647 : Int32)) / (3 : Int32) * (3 : Int32)))])) rfl (by rw [hml]; rfl) (argsL := [(.int ((p1 &&& (2147483647 : Int32)) - (p1 &&& (2147483647 : Int32)) / (3 : Int32) * (3 : Int32)))]) (rest := []) (lenOf pd_1 rfl) rfl (by show 2 * 0 + _ ≤ _; exact Nat.le_of_eq rfl) (hb hby at_15) (fun _ _ => ⟨rfl, e0, (by decide : 0 + 0 ≤ _), (by decide : 0 + 0 ≤ _)⟩)
      dsimp only [Pt.U, Pt.locs, Pt.cells, Pt.slots] at X11 l11 y11 z11 st11 hQ11
      subst l11 y11 z11
      obtain ⟨rfl, Nq11, e11⟩ := hQ11
      have N11 := Fr.app N0 Nq11
      refine own_st st11 ?_
      show own_Go _ _ _ _ (T11.setTop (mkF m 18 #[iv p1, iv p2, iv ((p1 &&& (2147483647 : Int32)) - (p1 &&& (2147483647 : Int32)) / (3 : Int32) * (3 : Int32)), iv ((p2 &&& (2147483647 : Int32)) - (p2 &&& (2147483647 : Int32)) / (3 : Int32) * (3 : Int32)), .unset] [(.ref ad)]))
      refine o_iloadN X11 hx (hb hby at_18) rfl ?_
      obtain ⟨_, _, ⟨T12, L12, k12, n12⟩, -, X12, ⟨Lc12, hQ12, l12, y12, z12⟩, st12⟩ := Jvm.LawKit.callS X11 hx (y := (⟨"com/example/ordinance/ordinance/cli/ExitCodeWorsePinLaw", "pick", "(I)Lcom/example/ordinance/ordinance/cli/ExitCode;"⟩ : MethodName)) hown (mvT hZ (hw _ (List.mem_of_getElem? (i := 1) rfl))) (mvT hZ (hw _ (List.mem_of_getElem? (i := 2) rfl))) (mvT hZ (hw _ (List.mem_of_getElem? (i := 3) rfl))) (mvT hZ (hw _ (List.mem_of_getElem? (i := 4) rfl))) (by decide) (backOf (W := 1) (rmpick2 l Z a0 hw [] ((p2 &&& (2147483647 : Int32)) - (p2 &&& (2147483647 : Int32)) / (3 : Int32) * (3 : Int32)) ad ai ab h0 n0 Z0 S0 S1 S2 hJ) hZ (hw _ (List.mem_of_getElem? (i := 4) rfl)) (hw _ (List.mem_of_getElem? (i := 3) rfl)) (by decide) (by decide)) (g := (mkF m 19 #[iv p1, iv p2, iv ((p1 &&& (2147483647 : Int32)) - (p1 &&& (2147483647 : Int32)) / (3 : Int32) * (3 : Int32)), iv ((p2 &&& (2147483647 : Int32)) - (p2 &&& (2147483647 : Int32)) / (3 : Int32) * (3 : Int32)), .unset] [(.int ((p2 &&& (2147483647 : Int32)) - (p2 &&& (2147483647 : Int32)) / (3 : Int32) * (3 : Int32))), (.ref ad)])) rfl (by rw [hml]; rfl) (argsL := [(.int ((p2 &&& (2147483647 : Int32)) - (p2 &&& (2147483647 : Int32)) / (3 : Int32) * (3 : Int32)))]) (rest := [(.ref ad)]) (lenOf pd_1 rfl) rfl (by show 2 * 0 + _ ≤ _; exact Nat.le_of_eq rfl) (hb hby at_19) (fun _ _ => ⟨rfl, e11, (by decide : 0 + 0 ≤ _), (by decide : 0 + 0 ≤ _)⟩)
      dsimp only [Pt.U, Pt.locs, Pt.cells, Pt.slots] at X12 l12 y12 z12 st12 hQ12
      subst l12 y12 z12
      obtain ⟨rfl, Nq12, e12⟩ := hQ12
      have N12 := Fr.app N11 Nq12
      refine own_st st12 ?_
      show own_Go _ _ _ _ (T12.setTop (mkF m 22 #[iv p1, iv p2, iv ((p1 &&& (2147483647 : Int32)) - (p1 &&& (2147483647 : Int32)) / (3 : Int32) * (3 : Int32)), iv ((p2 &&& (2147483647 : Int32)) - (p2 &&& (2147483647 : Int32)) / (3 : Int32) * (3 : Int32)), .unset] [(.ref ab), (.ref ad)]))
      obtain ⟨cq13, kq13, q13a, q13b, q13c⟩ := isOf hZ e12 E0
      obtain ⟨_, _, ⟨T13, L13, k13, n13⟩, -, X13, ⟨Lc13, hQ13, l13, y13, z13⟩, st13⟩ := X12.virtualBack hx (y := (⟨"com/example/ordinance/ordinance/cli/ExitCode", "worse", "(Lcom/example/ordinance/ordinance/cli/ExitCode;)Lcom/example/ordinance/ordinance/cli/ExitCode;"⟩ : MethodName)) (z := (⟨"com/example/ordinance/ordinance/cli/ExitCode", "worse", "(Lcom/example/ordinance/ordinance/cli/ExitCode;)Lcom/example/ordinance/ordinance/cli/ExitCode;"⟩ : MethodName)) hown (mvT hZ (hw _ (List.mem_of_getElem? (i := 8) rfl))) (mvT hZ (hw _ (List.mem_of_getElem? (i := 9) rfl))) (notFace_of_selects (args := #[]) (mvT hZ (hw _ (List.mem_of_getElem? (i := 11) rfl)))) (mvT hZ (hw _ (List.mem_of_getElem? (i := 11) rfl))) (mvT hZ (hw _ (List.mem_of_getElem? (i := 10) rfl))) (by decide) (backOf (W := 0) (rm2 l Z a0 hw [] ad ab (0 : Int32) (2 : Int32) h0 n0 Z0 F0 F2) hZ (hw _ (List.mem_of_getElem? (i := 12) rfl)) (hw _ (List.mem_of_getElem? (i := 6) rfl)) (by decide) (by decide)) q13a q13c (g := (mkF m 22 #[iv p1, iv p2, iv ((p1 &&& (2147483647 : Int32)) - (p1 &&& (2147483647 : Int32)) / (3 : Int32) * (3 : Int32)), iv ((p2 &&& (2147483647 : Int32)) - (p2 &&& (2147483647 : Int32)) / (3 : Int32) * (3 : Int32)), .unset] [(.ref ab), (.ref ad)])) rfl (by rw [hml]; rfl) (Steps.refl _) (argsL := [(.ref ab)]) (rest := []) (lenOf pd_2 rfl) rfl (by show 2 * 0 + _ ≤ _; exact Nat.le_of_eq rfl) (hb hby at_22) (fun _ _ => ⟨rfl, e12, (by decide : 0 + 0 ≤ _), (by decide : 0 + 0 ≤ _)⟩)
      dsimp only [Pt.U, Pt.locs, Pt.cells, Pt.slots] at X13 l13 y13 z13 st13 hQ13
      subst l13 y13 z13
      obtain ⟨rfl, Nq13, e13⟩ := hQ13
      have N13 := Fr.app N12 Nq13
      refine own_tr st13 ?_
      show own_Go _ _ _ _ (T13.setTop (mkF m 25 #[iv p1, iv p2, iv ((p1 &&& (2147483647 : Int32)) - (p1 &&& (2147483647 : Int32)) / (3 : Int32) * (3 : Int32)), iv ((p2 &&& (2147483647 : Int32)) - (p2 &&& (2147483647 : Int32)) / (3 : Int32) * (3 : Int32)), .unset] [(.ref (own_worse ad ab (0 : Int32) (2 : Int32)))]))
      refine o_astore X13 hx (hb hby at_25) rfl (l' := #[iv p1, iv p2, iv ((p1 &&& (2147483647 : Int32)) - (p1 &&& (2147483647 : Int32)) / (3 : Int32) * (3 : Int32)), iv ((p2 &&& (2147483647 : Int32)) - (p2 &&& (2147483647 : Int32)) / (3 : Int32) * (3 : Int32)), rv (own_worse ad ab (0 : Int32) (2 : Int32))]) rfl ?_
      refine o_aload X13 hx (hb hby at_27) rfl rfl ?_
      refine o_iloadN X13 hx (hb hby at_29) rfl ?_
      refine o_iloadN X13 hx (hb hby at_30) rfl ?_
      obtain ⟨_, _, ⟨T14, L14, k14, n14⟩, -, X14, ⟨Lc14, hQ14, l14, y14, z14⟩, st14⟩ := Jvm.LawKit.callS X13 hx (y := (⟨"java/lang/Math", "max", "(II)I"⟩ : MethodName)) hown (mvT hZ (hw _ (List.mem_of_getElem? (i := 15) rfl))) (mvT hZ (hw _ (List.mem_of_getElem? (i := 16) rfl))) (mvT hZ (hw _ (List.mem_of_getElem? (i := 17) rfl))) (mvT hZ (hw _ (List.mem_of_getElem? (i := 18) rfl))) (by decide) (backOf (W := 1) (rm3 l Z a0 hw [] ((p1 &&& (2147483647 : Int32)) - (p1 &&& (2147483647 : Int32)) / (3 : Int32) * (3 : Int32)) ((p2 &&& (2147483647 : Int32)) - (p2 &&& (2147483647 : Int32)) / (3 : Int32) * (3 : Int32))  h0 n0 Z0) hZ (hw _ (List.mem_of_getElem? (i := 18) rfl)) (hw _ (List.mem_of_getElem? (i := 17) rfl)) (by decide) (by decide)) (g := (mkF m 31 #[iv p1, iv p2, iv ((p1 &&& (2147483647 : Int32)) - (p1 &&& (2147483647 : Int32)) / (3 : Int32) * (3 : Int32)), iv ((p2 &&& (2147483647 : Int32)) - (p2 &&& (2147483647 : Int32)) / (3 : Int32) * (3 : Int32)), rv (own_worse ad ab (0 : Int32) (2 : Int32))] [(.int ((p2 &&& (2147483647 : Int32)) - (p2 &&& (2147483647 : Int32)) / (3 : Int32) * (3 : Int32))), (.int ((p1 &&& (2147483647 : Int32)) - (p1 &&& (2147483647 : Int32)) / (3 : Int32) * (3 : Int32))), (.ref (own_worse ad ab (0 : Int32) (2 : Int32)))])) rfl (by rw [hml]; rfl) (argsL := [(.int ((p1 &&& (2147483647 : Int32)) - (p1 &&& (2147483647 : Int32)) / (3 : Int32) * (3 : Int32))), (.int ((p2 &&& (2147483647 : Int32)) - (p2 &&& (2147483647 : Int32)) / (3 : Int32) * (3 : Int32)))]) (rest := [(.ref (own_worse ad ab (0 : Int32) (2 : Int32)))]) (lenOf pd_3 rfl) rfl (by show 2 * 0 + _ ≤ _; exact Nat.le_of_eq rfl) (hb hby at_31) (fun _ _ => ⟨rfl, e13, (by decide : 0 + 0 ≤ _), (by decide : 0 + 0 ≤ _)⟩)
      dsimp only [Pt.U, Pt.locs, Pt.cells, Pt.slots] at X14 l14 y14 z14 st14 hQ14
      subst l14 y14 z14
      obtain ⟨rfl, Nq14, e14⟩ := hQ14
      have N14 := Fr.app N13 Nq14
      refine own_st st14 ?_
      show own_Go _ _ _ _ (T14.setTop (mkF m 34 #[iv p1, iv p2, iv ((p1 &&& (2147483647 : Int32)) - (p1 &&& (2147483647 : Int32)) / (3 : Int32) * (3 : Int32)), iv ((p2 &&& (2147483647 : Int32)) - (p2 &&& (2147483647 : Int32)) / (3 : Int32) * (3 : Int32)), rv (own_worse ad ab (0 : Int32) (2 : Int32))] [(.int (own_max ((p1 &&& (2147483647 : Int32)) - (p1 &&& (2147483647 : Int32)) / (3 : Int32) * (3 : Int32)) ((p2 &&& (2147483647 : Int32)) - (p2 &&& (2147483647 : Int32)) / (3 : Int32) * (3 : Int32)))), (.ref (own_worse ad ab (0 : Int32) (2 : Int32)))]))
      obtain ⟨_, _, ⟨T15, L15, k15, n15⟩, -, X15, ⟨Lc15, hQ15, l15, y15, z15⟩, st15⟩ := Jvm.LawKit.callS X14 hx (y := (⟨"com/example/ordinance/ordinance/cli/ExitCodeWorsePinLaw", "pick", "(I)Lcom/example/ordinance/ordinance/cli/ExitCode;"⟩ : MethodName)) hown (mvT hZ (hw _ (List.mem_of_getElem? (i := 1) rfl))) (mvT hZ (hw _ (List.mem_of_getElem? (i := 2) rfl))) (mvT hZ (hw _ (List.mem_of_getElem? (i := 3) rfl))) (mvT hZ (hw _ (List.mem_of_getElem? (i := 4) rfl))) (by decide) (backOf (W := 1) (rmpick2 l Z a0 hw [] (own_max ((p1 &&& (2147483647 : Int32)) - (p1 &&& (2147483647 : Int32)) / (3 : Int32) * (3 : Int32)) ((p2 &&& (2147483647 : Int32)) - (p2 &&& (2147483647 : Int32)) / (3 : Int32) * (3 : Int32))) ad ai ab h0 n0 Z0 S0 S1 S2 (by rw [hI, hJ]; rfl)) hZ (hw _ (List.mem_of_getElem? (i := 4) rfl)) (hw _ (List.mem_of_getElem? (i := 3) rfl)) (by decide) (by decide)) (g := (mkF m 34 #[iv p1, iv p2, iv ((p1 &&& (2147483647 : Int32)) - (p1 &&& (2147483647 : Int32)) / (3 : Int32) * (3 : Int32)), iv ((p2 &&& (2147483647 : Int32)) - (p2 &&& (2147483647 : Int32)) / (3 : Int32) * (3 : Int32)), rv (own_worse ad ab (0 : Int32) (2 : Int32))] [(.int (own_max ((p1 &&& (2147483647 : Int32)) - (p1 &&& (2147483647 : Int32)) / (3 : Int32) * (3 : Int32)) ((p2 &&& (2147483647 : Int32)) - (p2 &&& (2147483647 : Int32)) / (3 : Int32) * (3 : Int32)))), (.ref (own_worse ad ab (0 : Int32) (2 : Int32)))])) rfl (by rw [hml]; rfl) (argsL := [(.int (own_max ((p1 &&& (2147483647 : Int32)) - (p1 &&& (2147483647 : Int32)) / (3 : Int32) * (3 : Int32)) ((p2 &&& (2147483647 : Int32)) - (p2 &&& (2147483647 : Int32)) / (3 : Int32) * (3 : Int32))))]) (rest := [(.ref (own_worse ad ab (0 : Int32) (2 : Int32)))]) (lenOf pd_1 rfl) rfl (by show 2 * 0 + _ ≤ _; exact Nat.le_of_eq rfl) (hb hby at_34) (fun _ _ => ⟨rfl, e14, (by decide : 0 + 0 ≤ _), (by decide : 0 + 0 ≤ _)⟩)
      dsimp only [Pt.U, Pt.locs, Pt.cells, Pt.slots] at X15 l15 y15 z15 st15 hQ15
      subst l15 y15 z15
      obtain ⟨rfl, Nq15, e15⟩ := hQ15
      have N15 := Fr.app N14 Nq15
      refine own_st st15 ?_
      show own_Go _ _ _ _ (T15.setTop (mkF m 37 #[iv p1, iv p2, iv ((p1 &&& (2147483647 : Int32)) - (p1 &&& (2147483647 : Int32)) / (3 : Int32) * (3 : Int32)), iv ((p2 &&& (2147483647 : Int32)) - (p2 &&& (2147483647 : Int32)) / (3 : Int32) * (3 : Int32)), rv (own_worse ad ab (0 : Int32) (2 : Int32))] [(.ref ab), (.ref (own_worse ad ab (0 : Int32) (2 : Int32)))]))
      refine own_st (fun t k => Jvm.RoadKit.acmp (g := (mkF m 37 #[iv p1, iv p2, iv ((p1 &&& (2147483647 : Int32)) - (p1 &&& (2147483647 : Int32)) / (3 : Int32) * (3 : Int32)), iv ((p2 &&& (2147483647 : Int32)) - (p2 &&& (2147483647 : Int32)) / (3 : Int32) * (3 : Int32)), rv (own_worse ad ab (0 : Int32) (2 : Int32))] [(.ref ab), (.ref (own_worse ad ab (0 : Int32) (2 : Int32)))])) X15 hx rfl rfl rfl (pc0 := 37) (pc' := 40) (same := true) rfl (hb hby at_37) rfl (decide_eq_true (congrArg Value.ref (rfl : own_worse ad ab (0 : Int32) (2 : Int32) = ab))) (by decide) (by decide) k) ?_
      show own_Go _ _ _ _ (T15.setTop (mkF m 40 #[iv p1, iv p2, iv ((p1 &&& (2147483647 : Int32)) - (p1 &&& (2147483647 : Int32)) / (3 : Int32) * (3 : Int32)), iv ((p2 &&& (2147483647 : Int32)) - (p2 &&& (2147483647 : Int32)) / (3 : Int32) * (3 : Int32)), rv (own_worse ad ab (0 : Int32) (2 : Int32))] []))
      refine o_iconst X15 hx 1 (hb hby at_40) rfl ?_
      refine o_goto X15 hx (pc' := 45) (hb hby at_41) (by decide) (by decide) ?_
      exact own_end X15 e15 (v := some (.int (1 : Int32))) (fun h => by rw [Bd.returns] at h; cases h) hlk (fun fs hr => retN X15 hx (z := (1 : Int32)) (t := .boolean) Bd.returns (by simp) (hb hby at_45) hr) (Q := Q_rm0 Z a0 p1 p2 ad ai ab h0 n0) ⟨rfl, N15, (Keep.refl h0 [])⟩ (by decide) (by decide)
  · rcases own_three p2 with hJ | hJ | hJ
    · show own_Go _ _ _ _ (s₁.setTop (mkF m 14 #[iv p1, iv p2, iv ((p1 &&& (2147483647 : Int32)) - (p1 &&& (2147483647 : Int32)) / (3 : Int32) * (3 : Int32)), iv ((p2 &&& (2147483647 : Int32)) - (p2 &&& (2147483647 : Int32)) / (3 : Int32) * (3 : Int32)), .unset] []))
      refine o_iloadN X0 hx (hb hby at_14) rfl ?_
      obtain ⟨_, _, ⟨T16, L16, k16, n16⟩, -, X16, ⟨Lc16, hQ16, l16, y16, z16⟩, st16⟩ := Jvm.LawKit.callS X0 hx (y := (⟨"com/example/ordinance/ordinance/cli/ExitCodeWorsePinLaw", "pick", "(I)Lcom/example/ordinance/ordinance/cli/ExitCode;"⟩ : MethodName)) hown (mvT hZ (hw _ (List.mem_of_getElem? (i := 1) rfl))) (mvT hZ (hw _ (List.mem_of_getElem? (i := 2) rfl))) (mvT hZ (hw _ (List.mem_of_getElem? (i := 3) rfl))) (mvT hZ (hw _ (List.mem_of_getElem? (i := 4) rfl))) (by decide) (backOf (W := 0) (rmpick1 l Z a0 hw [] ((p1 &&& (2147483647 : Int32)) - (p1 &&& (2147483647 : Int32)) / (3 : Int32) * (3 : Int32)) ad ai ab h0 n0 Z0 S0 S1 S2 hI) hZ (hw _ (List.mem_of_getElem? (i := 4) rfl)) (hw _ (List.mem_of_getElem? (i := 3) rfl)) (by decide) (by decide)) (g := (mkF m 15 #[iv p1, iv p2, iv ((p1 &&& (2147483647 : Int32)) - (p1 &&& (2147483647 : Int32)) / (3 : Int32) * (3 : Int32)), iv ((p2 &&& (2147483647 : Int32)) - (p2 &&& (2147483647 : Int32)) / (3 : Int32) * (3 : Int32)), .unset] [(.int ((p1 &&& (2147483647 : Int32)) - (p1 &&& (2147483647 : Int32)) / (3 : Int32) * (3 : Int32)))])) rfl (by rw [hml]; rfl) (argsL := [(.int ((p1 &&& (2147483647 : Int32)) - (p1 &&& (2147483647 : Int32)) / (3 : Int32) * (3 : Int32)))]) (rest := []) (lenOf pd_1 rfl) rfl (by show 2 * 0 + _ ≤ _; exact Nat.le_of_eq rfl) (hb hby at_15) (fun _ _ => ⟨rfl, e0, (by decide : 0 + 0 ≤ _), (by decide : 0 + 0 ≤ _)⟩)
      dsimp only [Pt.U, Pt.locs, Pt.cells, Pt.slots] at X16 l16 y16 z16 st16 hQ16
      subst l16 y16 z16
      obtain ⟨rfl, Nq16, e16⟩ := hQ16
      have N16 := Fr.app N0 Nq16
      refine own_st st16 ?_
      show own_Go _ _ _ _ (T16.setTop (mkF m 18 #[iv p1, iv p2, iv ((p1 &&& (2147483647 : Int32)) - (p1 &&& (2147483647 : Int32)) / (3 : Int32) * (3 : Int32)), iv ((p2 &&& (2147483647 : Int32)) - (p2 &&& (2147483647 : Int32)) / (3 : Int32) * (3 : Int32)), .unset] [(.ref ai)]))
      refine o_iloadN X16 hx (hb hby at_18) rfl ?_
      obtain ⟨_, _, ⟨T17, L17, k17, n17⟩, -, X17, ⟨Lc17, hQ17, l17, y17, z17⟩, st17⟩ := Jvm.LawKit.callS X16 hx (y := (⟨"com/example/ordinance/ordinance/cli/ExitCodeWorsePinLaw", "pick", "(I)Lcom/example/ordinance/ordinance/cli/ExitCode;"⟩ : MethodName)) hown (mvT hZ (hw _ (List.mem_of_getElem? (i := 1) rfl))) (mvT hZ (hw _ (List.mem_of_getElem? (i := 2) rfl))) (mvT hZ (hw _ (List.mem_of_getElem? (i := 3) rfl))) (mvT hZ (hw _ (List.mem_of_getElem? (i := 4) rfl))) (by decide) (backOf (W := 1) (rmpick0 l Z a0 hw [] ((p2 &&& (2147483647 : Int32)) - (p2 &&& (2147483647 : Int32)) / (3 : Int32) * (3 : Int32)) ad ai ab h0 n0 Z0 S0 S1 S2 hJ) hZ (hw _ (List.mem_of_getElem? (i := 4) rfl)) (hw _ (List.mem_of_getElem? (i := 3) rfl)) (by decide) (by decide)) (g := (mkF m 19 #[iv p1, iv p2, iv ((p1 &&& (2147483647 : Int32)) - (p1 &&& (2147483647 : Int32)) / (3 : Int32) * (3 : Int32)), iv ((p2 &&& (2147483647 : Int32)) - (p2 &&& (2147483647 : Int32)) / (3 : Int32) * (3 : Int32)), .unset] [(.int ((p2 &&& (2147483647 : Int32)) - (p2 &&& (2147483647 : Int32)) / (3 : Int32) * (3 : Int32))), (.ref ai)])) rfl (by rw [hml]; rfl) (argsL := [(.int ((p2 &&& (2147483647 : Int32)) - (p2 &&& (2147483647 : Int32)) / (3 : Int32) * (3 : Int32)))]) (rest := [(.ref ai)]) (lenOf pd_1 rfl) rfl (by show 2 * 0 + _ ≤ _; exact Nat.le_of_eq rfl) (hb hby at_19) (fun _ _ => ⟨rfl, e16, (by decide : 0 + 0 ≤ _), (by decide : 0 + 0 ≤ _)⟩)
      dsimp only [Pt.U, Pt.locs, Pt.cells, Pt.slots] at X17 l17 y17 z17 st17 hQ17
      subst l17 y17 z17
      obtain ⟨rfl, Nq17, e17⟩ := hQ17
      have N17 := Fr.app N16 Nq17
      refine own_st st17 ?_
      show own_Go _ _ _ _ (T17.setTop (mkF m 22 #[iv p1, iv p2, iv ((p1 &&& (2147483647 : Int32)) - (p1 &&& (2147483647 : Int32)) / (3 : Int32) * (3 : Int32)), iv ((p2 &&& (2147483647 : Int32)) - (p2 &&& (2147483647 : Int32)) / (3 : Int32) * (3 : Int32)), .unset] [(.ref ad), (.ref ai)]))
      obtain ⟨cq18, kq18, q18a, q18b, q18c⟩ := isOf hZ e17 E1
      obtain ⟨_, _, ⟨T18, L18, k18, n18⟩, -, X18, ⟨Lc18, hQ18, l18, y18, z18⟩, st18⟩ := X17.virtualBack hx (y := (⟨"com/example/ordinance/ordinance/cli/ExitCode", "worse", "(Lcom/example/ordinance/ordinance/cli/ExitCode;)Lcom/example/ordinance/ordinance/cli/ExitCode;"⟩ : MethodName)) (z := (⟨"com/example/ordinance/ordinance/cli/ExitCode", "worse", "(Lcom/example/ordinance/ordinance/cli/ExitCode;)Lcom/example/ordinance/ordinance/cli/ExitCode;"⟩ : MethodName)) hown (mvT hZ (hw _ (List.mem_of_getElem? (i := 8) rfl))) (mvT hZ (hw _ (List.mem_of_getElem? (i := 9) rfl))) (notFace_of_selects (args := #[]) (mvT hZ (hw _ (List.mem_of_getElem? (i := 11) rfl)))) (mvT hZ (hw _ (List.mem_of_getElem? (i := 11) rfl))) (mvT hZ (hw _ (List.mem_of_getElem? (i := 10) rfl))) (by decide) (backOf (W := 0) (rm2 l Z a0 hw [] ai ad (1 : Int32) (0 : Int32) h0 n0 Z0 F1 F0) hZ (hw _ (List.mem_of_getElem? (i := 12) rfl)) (hw _ (List.mem_of_getElem? (i := 6) rfl)) (by decide) (by decide)) q18a q18c (g := (mkF m 22 #[iv p1, iv p2, iv ((p1 &&& (2147483647 : Int32)) - (p1 &&& (2147483647 : Int32)) / (3 : Int32) * (3 : Int32)), iv ((p2 &&& (2147483647 : Int32)) - (p2 &&& (2147483647 : Int32)) / (3 : Int32) * (3 : Int32)), .unset] [(.ref ad), (.ref ai)])) rfl (by rw [hml]; rfl) (Steps.refl _) (argsL := [(.ref ad)]) (rest := []) (lenOf pd_2 rfl) rfl (by show 2 * 0 + _ ≤ _; exact Nat.le_of_eq rfl) (hb hby at_22) (fun _ _ => ⟨rfl, e17, (by decide : 0 + 0 ≤ _), (by decide : 0 + 0 ≤ _)⟩)
      dsimp only [Pt.U, Pt.locs, Pt.cells, Pt.slots] at X18 l18 y18 z18 st18 hQ18
      subst l18 y18 z18
      obtain ⟨rfl, Nq18, e18⟩ := hQ18
      have N18 := Fr.app N17 Nq18
      refine own_tr st18 ?_
      show own_Go _ _ _ _ (T18.setTop (mkF m 25 #[iv p1, iv p2, iv ((p1 &&& (2147483647 : Int32)) - (p1 &&& (2147483647 : Int32)) / (3 : Int32) * (3 : Int32)), iv ((p2 &&& (2147483647 : Int32)) - (p2 &&& (2147483647 : Int32)) / (3 : Int32) * (3 : Int32)), .unset] [(.ref (own_worse ai ad (1 : Int32) (0 : Int32)))]))
      refine o_astore X18 hx (hb hby at_25) rfl (l' := #[iv p1, iv p2, iv ((p1 &&& (2147483647 : Int32)) - (p1 &&& (2147483647 : Int32)) / (3 : Int32) * (3 : Int32)), iv ((p2 &&& (2147483647 : Int32)) - (p2 &&& (2147483647 : Int32)) / (3 : Int32) * (3 : Int32)), rv (own_worse ai ad (1 : Int32) (0 : Int32))]) rfl ?_
      refine o_aload X18 hx (hb hby at_27) rfl rfl ?_
      refine o_iloadN X18 hx (hb hby at_29) rfl ?_
      refine o_iloadN X18 hx (hb hby at_30) rfl ?_
      obtain ⟨_, _, ⟨T19, L19, k19, n19⟩, -, X19, ⟨Lc19, hQ19, l19, y19, z19⟩, st19⟩ := Jvm.LawKit.callS X18 hx (y := (⟨"java/lang/Math", "max", "(II)I"⟩ : MethodName)) hown (mvT hZ (hw _ (List.mem_of_getElem? (i := 15) rfl))) (mvT hZ (hw _ (List.mem_of_getElem? (i := 16) rfl))) (mvT hZ (hw _ (List.mem_of_getElem? (i := 17) rfl))) (mvT hZ (hw _ (List.mem_of_getElem? (i := 18) rfl))) (by decide) (backOf (W := 1) (rm3 l Z a0 hw [] ((p1 &&& (2147483647 : Int32)) - (p1 &&& (2147483647 : Int32)) / (3 : Int32) * (3 : Int32)) ((p2 &&& (2147483647 : Int32)) - (p2 &&& (2147483647 : Int32)) / (3 : Int32) * (3 : Int32))  h0 n0 Z0) hZ (hw _ (List.mem_of_getElem? (i := 18) rfl)) (hw _ (List.mem_of_getElem? (i := 17) rfl)) (by decide) (by decide)) (g := (mkF m 31 #[iv p1, iv p2, iv ((p1 &&& (2147483647 : Int32)) - (p1 &&& (2147483647 : Int32)) / (3 : Int32) * (3 : Int32)), iv ((p2 &&& (2147483647 : Int32)) - (p2 &&& (2147483647 : Int32)) / (3 : Int32) * (3 : Int32)), rv (own_worse ai ad (1 : Int32) (0 : Int32))] [(.int ((p2 &&& (2147483647 : Int32)) - (p2 &&& (2147483647 : Int32)) / (3 : Int32) * (3 : Int32))), (.int ((p1 &&& (2147483647 : Int32)) - (p1 &&& (2147483647 : Int32)) / (3 : Int32) * (3 : Int32))), (.ref (own_worse ai ad (1 : Int32) (0 : Int32)))])) rfl (by rw [hml]; rfl) (argsL := [(.int ((p1 &&& (2147483647 : Int32)) - (p1 &&& (2147483647 : Int32)) / (3 : Int32) * (3 : Int32))), (.int ((p2 &&& (2147483647 : Int32)) - (p2 &&& (2147483647 : Int32)) / (3 : Int32) * (3 : Int32)))]) (rest := [(.ref (own_worse ai ad (1 : Int32) (0 : Int32)))]) (lenOf pd_3 rfl) rfl (by show 2 * 0 + _ ≤ _; exact Nat.le_of_eq rfl) (hb hby at_31) (fun _ _ => ⟨rfl, e18, (by decide : 0 + 0 ≤ _), (by decide : 0 + 0 ≤ _)⟩)
      dsimp only [Pt.U, Pt.locs, Pt.cells, Pt.slots] at X19 l19 y19 z19 st19 hQ19
      subst l19 y19 z19
      obtain ⟨rfl, Nq19, e19⟩ := hQ19
      have N19 := Fr.app N18 Nq19
      refine own_st st19 ?_
      show own_Go _ _ _ _ (T19.setTop (mkF m 34 #[iv p1, iv p2, iv ((p1 &&& (2147483647 : Int32)) - (p1 &&& (2147483647 : Int32)) / (3 : Int32) * (3 : Int32)), iv ((p2 &&& (2147483647 : Int32)) - (p2 &&& (2147483647 : Int32)) / (3 : Int32) * (3 : Int32)), rv (own_worse ai ad (1 : Int32) (0 : Int32))] [(.int (own_max ((p1 &&& (2147483647 : Int32)) - (p1 &&& (2147483647 : Int32)) / (3 : Int32) * (3 : Int32)) ((p2 &&& (2147483647 : Int32)) - (p2 &&& (2147483647 : Int32)) / (3 : Int32) * (3 : Int32)))), (.ref (own_worse ai ad (1 : Int32) (0 : Int32)))]))
      obtain ⟨_, _, ⟨T20, L20, k20, n20⟩, -, X20, ⟨Lc20, hQ20, l20, y20, z20⟩, st20⟩ := Jvm.LawKit.callS X19 hx (y := (⟨"com/example/ordinance/ordinance/cli/ExitCodeWorsePinLaw", "pick", "(I)Lcom/example/ordinance/ordinance/cli/ExitCode;"⟩ : MethodName)) hown (mvT hZ (hw _ (List.mem_of_getElem? (i := 1) rfl))) (mvT hZ (hw _ (List.mem_of_getElem? (i := 2) rfl))) (mvT hZ (hw _ (List.mem_of_getElem? (i := 3) rfl))) (mvT hZ (hw _ (List.mem_of_getElem? (i := 4) rfl))) (by decide) (backOf (W := 1) (rmpick1 l Z a0 hw [] (own_max ((p1 &&& (2147483647 : Int32)) - (p1 &&& (2147483647 : Int32)) / (3 : Int32) * (3 : Int32)) ((p2 &&& (2147483647 : Int32)) - (p2 &&& (2147483647 : Int32)) / (3 : Int32) * (3 : Int32))) ad ai ab h0 n0 Z0 S0 S1 S2 (by rw [hI, hJ]; rfl)) hZ (hw _ (List.mem_of_getElem? (i := 4) rfl)) (hw _ (List.mem_of_getElem? (i := 3) rfl)) (by decide) (by decide)) (g := (mkF m 34 #[iv p1, iv p2, iv ((p1 &&& (2147483647 : Int32)) - (p1 &&& (2147483647 : Int32)) / (3 : Int32) * (3 : Int32)), iv ((p2 &&& (2147483647 : Int32)) - (p2 &&& (2147483647 : Int32)) / (3 : Int32) * (3 : Int32)), rv (own_worse ai ad (1 : Int32) (0 : Int32))] [(.int (own_max ((p1 &&& (2147483647 : Int32)) - (p1 &&& (2147483647 : Int32)) / (3 : Int32) * (3 : Int32)) ((p2 &&& (2147483647 : Int32)) - (p2 &&& (2147483647 : Int32)) / (3 : Int32) * (3 : Int32)))), (.ref (own_worse ai ad (1 : Int32) (0 : Int32)))])) rfl (by rw [hml]; rfl) (argsL := [(.int (own_max ((p1 &&& (2147483647 : Int32)) - (p1 &&& (2147483647 : Int32)) / (3 : Int32) * (3 : Int32)) ((p2 &&& (2147483647 : Int32)) - (p2 &&& (2147483647 : Int32)) / (3 : Int32) * (3 : Int32))))]) (rest := [(.ref (own_worse ai ad (1 : Int32) (0 : Int32)))]) (lenOf pd_1 rfl) rfl (by show 2 * 0 + _ ≤ _; exact Nat.le_of_eq rfl) (hb hby at_34) (fun _ _ => ⟨rfl, e19, (by decide : 0 + 0 ≤ _), (by decide : 0 + 0 ≤ _)⟩)
      dsimp only [Pt.U, Pt.locs, Pt.cells, Pt.slots] at X20 l20 y20 z20 st20 hQ20
      subst l20 y20 z20
      obtain ⟨rfl, Nq20, e20⟩ := hQ20
      have N20 := Fr.app N19 Nq20
      refine own_st st20 ?_
      show own_Go _ _ _ _ (T20.setTop (mkF m 37 #[iv p1, iv p2, iv ((p1 &&& (2147483647 : Int32)) - (p1 &&& (2147483647 : Int32)) / (3 : Int32) * (3 : Int32)), iv ((p2 &&& (2147483647 : Int32)) - (p2 &&& (2147483647 : Int32)) / (3 : Int32) * (3 : Int32)), rv (own_worse ai ad (1 : Int32) (0 : Int32))] [(.ref ai), (.ref (own_worse ai ad (1 : Int32) (0 : Int32)))]))
      refine own_st (fun t k => Jvm.RoadKit.acmp (g := (mkF m 37 #[iv p1, iv p2, iv ((p1 &&& (2147483647 : Int32)) - (p1 &&& (2147483647 : Int32)) / (3 : Int32) * (3 : Int32)), iv ((p2 &&& (2147483647 : Int32)) - (p2 &&& (2147483647 : Int32)) / (3 : Int32) * (3 : Int32)), rv (own_worse ai ad (1 : Int32) (0 : Int32))] [(.ref ai), (.ref (own_worse ai ad (1 : Int32) (0 : Int32)))])) X20 hx rfl rfl rfl (pc0 := 37) (pc' := 40) (same := true) rfl (hb hby at_37) rfl (decide_eq_true (congrArg Value.ref (rfl : own_worse ai ad (1 : Int32) (0 : Int32) = ai))) (by decide) (by decide) k) ?_
      show own_Go _ _ _ _ (T20.setTop (mkF m 40 #[iv p1, iv p2, iv ((p1 &&& (2147483647 : Int32)) - (p1 &&& (2147483647 : Int32)) / (3 : Int32) * (3 : Int32)), iv ((p2 &&& (2147483647 : Int32)) - (p2 &&& (2147483647 : Int32)) / (3 : Int32) * (3 : Int32)), rv (own_worse ai ad (1 : Int32) (0 : Int32))] []))
      refine o_iconst X20 hx 1 (hb hby at_40) rfl ?_
      refine o_goto X20 hx (pc' := 45) (hb hby at_41) (by decide) (by decide) ?_
      exact own_end X20 e20 (v := some (.int (1 : Int32))) (fun h => by rw [Bd.returns] at h; cases h) hlk (fun fs hr => retN X20 hx (z := (1 : Int32)) (t := .boolean) Bd.returns (by simp) (hb hby at_45) hr) (Q := Q_rm0 Z a0 p1 p2 ad ai ab h0 n0) ⟨rfl, N20, (Keep.refl h0 [])⟩ (by decide) (by decide)
    · show own_Go _ _ _ _ (s₁.setTop (mkF m 14 #[iv p1, iv p2, iv ((p1 &&& (2147483647 : Int32)) - (p1 &&& (2147483647 : Int32)) / (3 : Int32) * (3 : Int32)), iv ((p2 &&& (2147483647 : Int32)) - (p2 &&& (2147483647 : Int32)) / (3 : Int32) * (3 : Int32)), .unset] []))
      refine o_iloadN X0 hx (hb hby at_14) rfl ?_
      obtain ⟨_, _, ⟨T21, L21, k21, n21⟩, -, X21, ⟨Lc21, hQ21, l21, y21, z21⟩, st21⟩ := Jvm.LawKit.callS X0 hx (y := (⟨"com/example/ordinance/ordinance/cli/ExitCodeWorsePinLaw", "pick", "(I)Lcom/example/ordinance/ordinance/cli/ExitCode;"⟩ : MethodName)) hown (mvT hZ (hw _ (List.mem_of_getElem? (i := 1) rfl))) (mvT hZ (hw _ (List.mem_of_getElem? (i := 2) rfl))) (mvT hZ (hw _ (List.mem_of_getElem? (i := 3) rfl))) (mvT hZ (hw _ (List.mem_of_getElem? (i := 4) rfl))) (by decide) (backOf (W := 0) (rmpick1 l Z a0 hw [] ((p1 &&& (2147483647 : Int32)) - (p1 &&& (2147483647 : Int32)) / (3 : Int32) * (3 : Int32)) ad ai ab h0 n0 Z0 S0 S1 S2 hI) hZ (hw _ (List.mem_of_getElem? (i := 4) rfl)) (hw _ (List.mem_of_getElem? (i := 3) rfl)) (by decide) (by decide)) (g := (mkF m 15 #[iv p1, iv p2, iv ((p1 &&& (2147483647 : Int32)) - (p1 &&& (2147483647 : Int32)) / (3 : Int32) * (3 : Int32)), iv ((p2 &&& (2147483647 : Int32)) - (p2 &&& (2147483647 : Int32)) / (3 : Int32) * (3 : Int32)), .unset] [(.int ((p1 &&& (2147483647 : Int32)) - (p1 &&& (2147483647 : Int32)) / (3 : Int32) * (3 : Int32)))])) rfl (by rw [hml]; rfl) (argsL := [(.int ((p1 &&& (2147483647 : Int32)) - (p1 &&& (2147483647 : Int32)) / (3 : Int32) * (3 : Int32)))]) (rest := []) (lenOf pd_1 rfl) rfl (by show 2 * 0 + _ ≤ _; exact Nat.le_of_eq rfl) (hb hby at_15) (fun _ _ => ⟨rfl, e0, (by decide : 0 + 0 ≤ _), (by decide : 0 + 0 ≤ _)⟩)
      dsimp only [Pt.U, Pt.locs, Pt.cells, Pt.slots] at X21 l21 y21 z21 st21 hQ21
      subst l21 y21 z21
      obtain ⟨rfl, Nq21, e21⟩ := hQ21
      have N21 := Fr.app N0 Nq21
      refine own_st st21 ?_
      show own_Go _ _ _ _ (T21.setTop (mkF m 18 #[iv p1, iv p2, iv ((p1 &&& (2147483647 : Int32)) - (p1 &&& (2147483647 : Int32)) / (3 : Int32) * (3 : Int32)), iv ((p2 &&& (2147483647 : Int32)) - (p2 &&& (2147483647 : Int32)) / (3 : Int32) * (3 : Int32)), .unset] [(.ref ai)]))
      refine o_iloadN X21 hx (hb hby at_18) rfl ?_
      obtain ⟨_, _, ⟨T22, L22, k22, n22⟩, -, X22, ⟨Lc22, hQ22, l22, y22, z22⟩, st22⟩ := Jvm.LawKit.callS X21 hx (y := (⟨"com/example/ordinance/ordinance/cli/ExitCodeWorsePinLaw", "pick", "(I)Lcom/example/ordinance/ordinance/cli/ExitCode;"⟩ : MethodName)) hown (mvT hZ (hw _ (List.mem_of_getElem? (i := 1) rfl))) (mvT hZ (hw _ (List.mem_of_getElem? (i := 2) rfl))) (mvT hZ (hw _ (List.mem_of_getElem? (i := 3) rfl))) (mvT hZ (hw _ (List.mem_of_getElem? (i := 4) rfl))) (by decide) (backOf (W := 1) (rmpick1 l Z a0 hw [] ((p2 &&& (2147483647 : Int32)) - (p2 &&& (2147483647 : Int32)) / (3 : Int32) * (3 : Int32)) ad ai ab h0 n0 Z0 S0 S1 S2 hJ) hZ (hw _ (List.mem_of_getElem? (i := 4) rfl)) (hw _ (List.mem_of_getElem? (i := 3) rfl)) (by decide) (by decide)) (g := (mkF m 19 #[iv p1, iv p2, iv ((p1 &&& (2147483647 : Int32)) - (p1 &&& (2147483647 : Int32)) / (3 : Int32) * (3 : Int32)), iv ((p2 &&& (2147483647 : Int32)) - (p2 &&& (2147483647 : Int32)) / (3 : Int32) * (3 : Int32)), .unset] [(.int ((p2 &&& (2147483647 : Int32)) - (p2 &&& (2147483647 : Int32)) / (3 : Int32) * (3 : Int32))), (.ref ai)])) rfl (by rw [hml]; rfl) (argsL := [(.int ((p2 &&& (2147483647 : Int32)) - (p2 &&& (2147483647 : Int32)) / (3 : Int32) * (3 : Int32)))]) (rest := [(.ref ai)]) (lenOf pd_1 rfl) rfl (by show 2 * 0 + _ ≤ _; exact Nat.le_of_eq rfl) (hb hby at_19) (fun _ _ => ⟨rfl, e21, (by decide : 0 + 0 ≤ _), (by decide : 0 + 0 ≤ _)⟩)
      dsimp only [Pt.U, Pt.locs, Pt.cells, Pt.slots] at X22 l22 y22 z22 st22 hQ22
      subst l22 y22 z22
      obtain ⟨rfl, Nq22, e22⟩ := hQ22
      have N22 := Fr.app N21 Nq22
      refine own_st st22 ?_
      show own_Go _ _ _ _ (T22.setTop (mkF m 22 #[iv p1, iv p2, iv ((p1 &&& (2147483647 : Int32)) - (p1 &&& (2147483647 : Int32)) / (3 : Int32) * (3 : Int32)), iv ((p2 &&& (2147483647 : Int32)) - (p2 &&& (2147483647 : Int32)) / (3 : Int32) * (3 : Int32)), .unset] [(.ref ai), (.ref ai)]))
      obtain ⟨cq23, kq23, q23a, q23b, q23c⟩ := isOf hZ e22 E1
      obtain ⟨_, _, ⟨T23, L23, k23, n23⟩, -, X23, ⟨Lc23, hQ23, l23, y23, z23⟩, st23⟩ := X22.virtualBack hx (y := (⟨"com/example/ordinance/ordinance/cli/ExitCode", "worse", "(Lcom/example/ordinance/ordinance/cli/ExitCode;)Lcom/example/ordinance/ordinance/cli/ExitCode;"⟩ : MethodName)) (z := (⟨"com/example/ordinance/ordinance/cli/ExitCode", "worse", "(Lcom/example/ordinance/ordinance/cli/ExitCode;)Lcom/example/ordinance/ordinance/cli/ExitCode;"⟩ : MethodName)) hown (mvT hZ (hw _ (List.mem_of_getElem? (i := 8) rfl))) (mvT hZ (hw _ (List.mem_of_getElem? (i := 9) rfl))) (notFace_of_selects (args := #[]) (mvT hZ (hw _ (List.mem_of_getElem? (i := 11) rfl)))) (mvT hZ (hw _ (List.mem_of_getElem? (i := 11) rfl))) (mvT hZ (hw _ (List.mem_of_getElem? (i := 10) rfl))) (by decide) (backOf (W := 0) (rm2 l Z a0 hw [] ai ai (1 : Int32) (1 : Int32) h0 n0 Z0 F1 F1) hZ (hw _ (List.mem_of_getElem? (i := 12) rfl)) (hw _ (List.mem_of_getElem? (i := 6) rfl)) (by decide) (by decide)) q23a q23c (g := (mkF m 22 #[iv p1, iv p2, iv ((p1 &&& (2147483647 : Int32)) - (p1 &&& (2147483647 : Int32)) / (3 : Int32) * (3 : Int32)), iv ((p2 &&& (2147483647 : Int32)) - (p2 &&& (2147483647 : Int32)) / (3 : Int32) * (3 : Int32)), .unset] [(.ref ai), (.ref ai)])) rfl (by rw [hml]; rfl) (Steps.refl _) (argsL := [(.ref ai)]) (rest := []) (lenOf pd_2 rfl) rfl (by show 2 * 0 + _ ≤ _; exact Nat.le_of_eq rfl) (hb hby at_22) (fun _ _ => ⟨rfl, e22, (by decide : 0 + 0 ≤ _), (by decide : 0 + 0 ≤ _)⟩)
      dsimp only [Pt.U, Pt.locs, Pt.cells, Pt.slots] at X23 l23 y23 z23 st23 hQ23
      subst l23 y23 z23
      obtain ⟨rfl, Nq23, e23⟩ := hQ23
      have N23 := Fr.app N22 Nq23
      refine own_tr st23 ?_
      show own_Go _ _ _ _ (T23.setTop (mkF m 25 #[iv p1, iv p2, iv ((p1 &&& (2147483647 : Int32)) - (p1 &&& (2147483647 : Int32)) / (3 : Int32) * (3 : Int32)), iv ((p2 &&& (2147483647 : Int32)) - (p2 &&& (2147483647 : Int32)) / (3 : Int32) * (3 : Int32)), .unset] [(.ref (own_worse ai ai (1 : Int32) (1 : Int32)))]))
      refine o_astore X23 hx (hb hby at_25) rfl (l' := #[iv p1, iv p2, iv ((p1 &&& (2147483647 : Int32)) - (p1 &&& (2147483647 : Int32)) / (3 : Int32) * (3 : Int32)), iv ((p2 &&& (2147483647 : Int32)) - (p2 &&& (2147483647 : Int32)) / (3 : Int32) * (3 : Int32)), rv (own_worse ai ai (1 : Int32) (1 : Int32))]) rfl ?_
      refine o_aload X23 hx (hb hby at_27) rfl rfl ?_
      refine o_iloadN X23 hx (hb hby at_29) rfl ?_
      refine o_iloadN X23 hx (hb hby at_30) rfl ?_
      obtain ⟨_, _, ⟨T24, L24, k24, n24⟩, -, X24, ⟨Lc24, hQ24, l24, y24, z24⟩, st24⟩ := Jvm.LawKit.callS X23 hx (y := (⟨"java/lang/Math", "max", "(II)I"⟩ : MethodName)) hown (mvT hZ (hw _ (List.mem_of_getElem? (i := 15) rfl))) (mvT hZ (hw _ (List.mem_of_getElem? (i := 16) rfl))) (mvT hZ (hw _ (List.mem_of_getElem? (i := 17) rfl))) (mvT hZ (hw _ (List.mem_of_getElem? (i := 18) rfl))) (by decide) (backOf (W := 1) (rm3 l Z a0 hw [] ((p1 &&& (2147483647 : Int32)) - (p1 &&& (2147483647 : Int32)) / (3 : Int32) * (3 : Int32)) ((p2 &&& (2147483647 : Int32)) - (p2 &&& (2147483647 : Int32)) / (3 : Int32) * (3 : Int32))  h0 n0 Z0) hZ (hw _ (List.mem_of_getElem? (i := 18) rfl)) (hw _ (List.mem_of_getElem? (i := 17) rfl)) (by decide) (by decide)) (g := (mkF m 31 #[iv p1, iv p2, iv ((p1 &&& (2147483647 : Int32)) - (p1 &&& (2147483647 : Int32)) / (3 : Int32) * (3 : Int32)), iv ((p2 &&& (2147483647 : Int32)) - (p2 &&& (2147483647 : Int32)) / (3 : Int32) * (3 : Int32)), rv (own_worse ai ai (1 : Int32) (1 : Int32))] [(.int ((p2 &&& (2147483647 : Int32)) - (p2 &&& (2147483647 : Int32)) / (3 : Int32) * (3 : Int32))), (.int ((p1 &&& (2147483647 : Int32)) - (p1 &&& (2147483647 : Int32)) / (3 : Int32) * (3 : Int32))), (.ref (own_worse ai ai (1 : Int32) (1 : Int32)))])) rfl (by rw [hml]; rfl) (argsL := [(.int ((p1 &&& (2147483647 : Int32)) - (p1 &&& (2147483647 : Int32)) / (3 : Int32) * (3 : Int32))), (.int ((p2 &&& (2147483647 : Int32)) - (p2 &&& (2147483647 : Int32)) / (3 : Int32) * (3 : Int32)))]) (rest := [(.ref (own_worse ai ai (1 : Int32) (1 : Int32)))]) (lenOf pd_3 rfl) rfl (by show 2 * 0 + _ ≤ _; exact Nat.le_of_eq rfl) (hb hby at_31) (fun _ _ => ⟨rfl, e23, (by decide : 0 + 0 ≤ _), (by decide : 0 + 0 ≤ _)⟩)
      dsimp only [Pt.U, Pt.locs, Pt.cells, Pt.slots] at X24 l24 y24 z24 st24 hQ24
      subst l24 y24 z24
      obtain ⟨rfl, Nq24, e24⟩ := hQ24
      have N24 := Fr.app N23 Nq24
      refine own_st st24 ?_
      show own_Go _ _ _ _ (T24.setTop (mkF m 34 #[iv p1, iv p2, iv ((p1 &&& (2147483647 : Int32)) - (p1 &&& (2147483647 : Int32)) / (3 : Int32) * (3 : Int32)), iv ((p2 &&& (2147483647 : Int32)) - (p2 &&& (2147483647 : Int32)) / (3 : Int32) * (3 : Int32)), rv (own_worse ai ai (1 : Int32) (1 : Int32))] [(.int (own_max ((p1 &&& (2147483647 : Int32)) - (p1 &&& (2147483647 : Int32)) / (3 : Int32) * (3 : Int32)) ((p2 &&& (2147483647 : Int32)) - (p2 &&& (2147483647 : Int32)) / (3 : Int32) * (3 : Int32)))), (.ref (own_worse ai ai (1 : Int32) (1 : Int32)))]))
      obtain ⟨_, _, ⟨T25, L25, k25, n25⟩, -, X25, ⟨Lc25, hQ25, l25, y25, z25⟩, st25⟩ := Jvm.LawKit.callS X24 hx (y := (⟨"com/example/ordinance/ordinance/cli/ExitCodeWorsePinLaw", "pick", "(I)Lcom/example/ordinance/ordinance/cli/ExitCode;"⟩ : MethodName)) hown (mvT hZ (hw _ (List.mem_of_getElem? (i := 1) rfl))) (mvT hZ (hw _ (List.mem_of_getElem? (i := 2) rfl))) (mvT hZ (hw _ (List.mem_of_getElem? (i := 3) rfl))) (mvT hZ (hw _ (List.mem_of_getElem? (i := 4) rfl))) (by decide) (backOf (W := 1) (rmpick1 l Z a0 hw [] (own_max ((p1 &&& (2147483647 : Int32)) - (p1 &&& (2147483647 : Int32)) / (3 : Int32) * (3 : Int32)) ((p2 &&& (2147483647 : Int32)) - (p2 &&& (2147483647 : Int32)) / (3 : Int32) * (3 : Int32))) ad ai ab h0 n0 Z0 S0 S1 S2 (by rw [hI, hJ]; rfl)) hZ (hw _ (List.mem_of_getElem? (i := 4) rfl)) (hw _ (List.mem_of_getElem? (i := 3) rfl)) (by decide) (by decide)) (g := (mkF m 34 #[iv p1, iv p2, iv ((p1 &&& (2147483647 : Int32)) - (p1 &&& (2147483647 : Int32)) / (3 : Int32) * (3 : Int32)), iv ((p2 &&& (2147483647 : Int32)) - (p2 &&& (2147483647 : Int32)) / (3 : Int32) * (3 : Int32)), rv (own_worse ai ai (1 : Int32) (1 : Int32))] [(.int (own_max ((p1 &&& (2147483647 : Int32)) - (p1 &&& (2147483647 : Int32)) / (3 : Int32) * (3 : Int32)) ((p2 &&& (2147483647 : Int32)) - (p2 &&& (2147483647 : Int32)) / (3 : Int32) * (3 : Int32)))), (.ref (own_worse ai ai (1 : Int32) (1 : Int32)))])) rfl (by rw [hml]; rfl) (argsL := [(.int (own_max ((p1 &&& (2147483647 : Int32)) - (p1 &&& (2147483647 : Int32)) / (3 : Int32) * (3 : Int32)) ((p2 &&& (2147483647 : Int32)) - (p2 &&& (2147483647 : Int32)) / (3 : Int32) * (3 : Int32))))]) (rest := [(.ref (own_worse ai ai (1 : Int32) (1 : Int32)))]) (lenOf pd_1 rfl) rfl (by show 2 * 0 + _ ≤ _; exact Nat.le_of_eq rfl) (hb hby at_34) (fun _ _ => ⟨rfl, e24, (by decide : 0 + 0 ≤ _), (by decide : 0 + 0 ≤ _)⟩)
      dsimp only [Pt.U, Pt.locs, Pt.cells, Pt.slots] at X25 l25 y25 z25 st25 hQ25
      subst l25 y25 z25
      obtain ⟨rfl, Nq25, e25⟩ := hQ25
      have N25 := Fr.app N24 Nq25
      refine own_st st25 ?_
      show own_Go _ _ _ _ (T25.setTop (mkF m 37 #[iv p1, iv p2, iv ((p1 &&& (2147483647 : Int32)) - (p1 &&& (2147483647 : Int32)) / (3 : Int32) * (3 : Int32)), iv ((p2 &&& (2147483647 : Int32)) - (p2 &&& (2147483647 : Int32)) / (3 : Int32) * (3 : Int32)), rv (own_worse ai ai (1 : Int32) (1 : Int32))] [(.ref ai), (.ref (own_worse ai ai (1 : Int32) (1 : Int32)))]))
      refine own_st (fun t k => Jvm.RoadKit.acmp (g := (mkF m 37 #[iv p1, iv p2, iv ((p1 &&& (2147483647 : Int32)) - (p1 &&& (2147483647 : Int32)) / (3 : Int32) * (3 : Int32)), iv ((p2 &&& (2147483647 : Int32)) - (p2 &&& (2147483647 : Int32)) / (3 : Int32) * (3 : Int32)), rv (own_worse ai ai (1 : Int32) (1 : Int32))] [(.ref ai), (.ref (own_worse ai ai (1 : Int32) (1 : Int32)))])) X25 hx rfl rfl rfl (pc0 := 37) (pc' := 40) (same := true) rfl (hb hby at_37) rfl (decide_eq_true (congrArg Value.ref (rfl : own_worse ai ai (1 : Int32) (1 : Int32) = ai))) (by decide) (by decide) k) ?_
      show own_Go _ _ _ _ (T25.setTop (mkF m 40 #[iv p1, iv p2, iv ((p1 &&& (2147483647 : Int32)) - (p1 &&& (2147483647 : Int32)) / (3 : Int32) * (3 : Int32)), iv ((p2 &&& (2147483647 : Int32)) - (p2 &&& (2147483647 : Int32)) / (3 : Int32) * (3 : Int32)), rv (own_worse ai ai (1 : Int32) (1 : Int32))] []))
      refine o_iconst X25 hx 1 (hb hby at_40) rfl ?_
      refine o_goto X25 hx (pc' := 45) (hb hby at_41) (by decide) (by decide) ?_
      exact own_end X25 e25 (v := some (.int (1 : Int32))) (fun h => by rw [Bd.returns] at h; cases h) hlk (fun fs hr => retN X25 hx (z := (1 : Int32)) (t := .boolean) Bd.returns (by simp) (hb hby at_45) hr) (Q := Q_rm0 Z a0 p1 p2 ad ai ab h0 n0) ⟨rfl, N25, (Keep.refl h0 [])⟩ (by decide) (by decide)
    · show own_Go _ _ _ _ (s₁.setTop (mkF m 14 #[iv p1, iv p2, iv ((p1 &&& (2147483647 : Int32)) - (p1 &&& (2147483647 : Int32)) / (3 : Int32) * (3 : Int32)), iv ((p2 &&& (2147483647 : Int32)) - (p2 &&& (2147483647 : Int32)) / (3 : Int32) * (3 : Int32)), .unset] []))
      refine o_iloadN X0 hx (hb hby at_14) rfl ?_
      obtain ⟨_, _, ⟨T26, L26, k26, n26⟩, -, X26, ⟨Lc26, hQ26, l26, y26, z26⟩, st26⟩ := Jvm.LawKit.callS X0 hx (y := (⟨"com/example/ordinance/ordinance/cli/ExitCodeWorsePinLaw", "pick", "(I)Lcom/example/ordinance/ordinance/cli/ExitCode;"⟩ : MethodName)) hown (mvT hZ (hw _ (List.mem_of_getElem? (i := 1) rfl))) (mvT hZ (hw _ (List.mem_of_getElem? (i := 2) rfl))) (mvT hZ (hw _ (List.mem_of_getElem? (i := 3) rfl))) (mvT hZ (hw _ (List.mem_of_getElem? (i := 4) rfl))) (by decide) (backOf (W := 0) (rmpick1 l Z a0 hw [] ((p1 &&& (2147483647 : Int32)) - (p1 &&& (2147483647 : Int32)) / (3 : Int32) * (3 : Int32)) ad ai ab h0 n0 Z0 S0 S1 S2 hI) hZ (hw _ (List.mem_of_getElem? (i := 4) rfl)) (hw _ (List.mem_of_getElem? (i := 3) rfl)) (by decide) (by decide)) (g := (mkF m 15 #[iv p1, iv p2, iv ((p1 &&& (2147483647 : Int32)) - (p1 &&& (2147483647 : Int32)) / (3 : Int32) * (3 : Int32)), iv ((p2 &&& (2147483647 : Int32)) - (p2 &&& (2147483647 : Int32)) / (3 : Int32) * (3 : Int32)), .unset] [(.int ((p1 &&& (2147483647 : Int32)) - (p1 &&& (2147483647 : Int32)) / (3 : Int32) * (3 : Int32)))])) rfl (by rw [hml]; rfl) (argsL := [(.int ((p1 &&& (2147483647 : Int32)) - (p1 &&& (2147483647 : Int32)) / (3 : Int32) * (3 : Int32)))]) (rest := []) (lenOf pd_1 rfl) rfl (by show 2 * 0 + _ ≤ _; exact Nat.le_of_eq rfl) (hb hby at_15) (fun _ _ => ⟨rfl, e0, (by decide : 0 + 0 ≤ _), (by decide : 0 + 0 ≤ _)⟩)
      dsimp only [Pt.U, Pt.locs, Pt.cells, Pt.slots] at X26 l26 y26 z26 st26 hQ26
      subst l26 y26 z26
      obtain ⟨rfl, Nq26, e26⟩ := hQ26
      have N26 := Fr.app N0 Nq26
      refine own_st st26 ?_
      show own_Go _ _ _ _ (T26.setTop (mkF m 18 #[iv p1, iv p2, iv ((p1 &&& (2147483647 : Int32)) - (p1 &&& (2147483647 : Int32)) / (3 : Int32) * (3 : Int32)), iv ((p2 &&& (2147483647 : Int32)) - (p2 &&& (2147483647 : Int32)) / (3 : Int32) * (3 : Int32)), .unset] [(.ref ai)]))
      refine o_iloadN X26 hx (hb hby at_18) rfl ?_
      obtain ⟨_, _, ⟨T27, L27, k27, n27⟩, -, X27, ⟨Lc27, hQ27, l27, y27, z27⟩, st27⟩ := Jvm.LawKit.callS X26 hx (y := (⟨"com/example/ordinance/ordinance/cli/ExitCodeWorsePinLaw", "pick", "(I)Lcom/example/ordinance/ordinance/cli/ExitCode;"⟩ : MethodName)) hown (mvT hZ (hw _ (List.mem_of_getElem? (i := 1) rfl))) (mvT hZ (hw _ (List.mem_of_getElem? (i := 2) rfl))) (mvT hZ (hw _ (List.mem_of_getElem? (i := 3) rfl))) (mvT hZ (hw _ (List.mem_of_getElem? (i := 4) rfl))) (by decide) (backOf (W := 1) (rmpick2 l Z a0 hw [] ((p2 &&& (2147483647 : Int32)) - (p2 &&& (2147483647 : Int32)) / (3 : Int32) * (3 : Int32)) ad ai ab h0 n0 Z0 S0 S1 S2 hJ) hZ (hw _ (List.mem_of_getElem? (i := 4) rfl)) (hw _ (List.mem_of_getElem? (i := 3) rfl)) (by decide) (by decide)) (g := (mkF m 19 #[iv p1, iv p2, iv ((p1 &&& (2147483647 : Int32)) - (p1 &&& (2147483647 : Int32)) / (3 : Int32) * (3 : Int32)), iv ((p2 &&& (2147483647 : Int32)) - (p2 &&& (2147483647 : Int32)) / (3 : Int32) * (3 : Int32)), .unset] [(.int ((p2 &&& (2147483647 : Int32)) - (p2 &&& (2147483647 : Int32)) / (3 : Int32) * (3 : Int32))), (.ref ai)])) rfl (by rw [hml]; rfl) (argsL := [(.int ((p2 &&& (2147483647 : Int32)) - (p2 &&& (2147483647 : Int32)) / (3 : Int32) * (3 : Int32)))]) (rest := [(.ref ai)]) (lenOf pd_1 rfl) rfl (by show 2 * 0 + _ ≤ _; exact Nat.le_of_eq rfl) (hb hby at_19) (fun _ _ => ⟨rfl, e26, (by decide : 0 + 0 ≤ _), (by decide : 0 + 0 ≤ _)⟩)
      dsimp only [Pt.U, Pt.locs, Pt.cells, Pt.slots] at X27 l27 y27 z27 st27 hQ27
      subst l27 y27 z27
      obtain ⟨rfl, Nq27, e27⟩ := hQ27
      have N27 := Fr.app N26 Nq27
      refine own_st st27 ?_
      show own_Go _ _ _ _ (T27.setTop (mkF m 22 #[iv p1, iv p2, iv ((p1 &&& (2147483647 : Int32)) - (p1 &&& (2147483647 : Int32)) / (3 : Int32) * (3 : Int32)), iv ((p2 &&& (2147483647 : Int32)) - (p2 &&& (2147483647 : Int32)) / (3 : Int32) * (3 : Int32)), .unset] [(.ref ab), (.ref ai)]))
      obtain ⟨cq28, kq28, q28a, q28b, q28c⟩ := isOf hZ e27 E1
      obtain ⟨_, _, ⟨T28, L28, k28, n28⟩, -, X28, ⟨Lc28, hQ28, l28, y28, z28⟩, st28⟩ := X27.virtualBack hx (y := (⟨"com/example/ordinance/ordinance/cli/ExitCode", "worse", "(Lcom/example/ordinance/ordinance/cli/ExitCode;)Lcom/example/ordinance/ordinance/cli/ExitCode;"⟩ : MethodName)) (z := (⟨"com/example/ordinance/ordinance/cli/ExitCode", "worse", "(Lcom/example/ordinance/ordinance/cli/ExitCode;)Lcom/example/ordinance/ordinance/cli/ExitCode;"⟩ : MethodName)) hown (mvT hZ (hw _ (List.mem_of_getElem? (i := 8) rfl))) (mvT hZ (hw _ (List.mem_of_getElem? (i := 9) rfl))) (notFace_of_selects (args := #[]) (mvT hZ (hw _ (List.mem_of_getElem? (i := 11) rfl)))) (mvT hZ (hw _ (List.mem_of_getElem? (i := 11) rfl))) (mvT hZ (hw _ (List.mem_of_getElem? (i := 10) rfl))) (by decide) (backOf (W := 0) (rm2 l Z a0 hw [] ai ab (1 : Int32) (2 : Int32) h0 n0 Z0 F1 F2) hZ (hw _ (List.mem_of_getElem? (i := 12) rfl)) (hw _ (List.mem_of_getElem? (i := 6) rfl)) (by decide) (by decide)) q28a q28c (g := (mkF m 22 #[iv p1, iv p2, iv ((p1 &&& (2147483647 : Int32)) - (p1 &&& (2147483647 : Int32)) / (3 : Int32) * (3 : Int32)), iv ((p2 &&& (2147483647 : Int32)) - (p2 &&& (2147483647 : Int32)) / (3 : Int32) * (3 : Int32)), .unset] [(.ref ab), (.ref ai)])) rfl (by rw [hml]; rfl) (Steps.refl _) (argsL := [(.ref ab)]) (rest := []) (lenOf pd_2 rfl) rfl (by show 2 * 0 + _ ≤ _; exact Nat.le_of_eq rfl) (hb hby at_22) (fun _ _ => ⟨rfl, e27, (by decide : 0 + 0 ≤ _), (by decide : 0 + 0 ≤ _)⟩)
      dsimp only [Pt.U, Pt.locs, Pt.cells, Pt.slots] at X28 l28 y28 z28 st28 hQ28
      subst l28 y28 z28
      obtain ⟨rfl, Nq28, e28⟩ := hQ28
      have N28 := Fr.app N27 Nq28
      refine own_tr st28 ?_
      show own_Go _ _ _ _ (T28.setTop (mkF m 25 #[iv p1, iv p2, iv ((p1 &&& (2147483647 : Int32)) - (p1 &&& (2147483647 : Int32)) / (3 : Int32) * (3 : Int32)), iv ((p2 &&& (2147483647 : Int32)) - (p2 &&& (2147483647 : Int32)) / (3 : Int32) * (3 : Int32)), .unset] [(.ref (own_worse ai ab (1 : Int32) (2 : Int32)))]))
      refine o_astore X28 hx (hb hby at_25) rfl (l' := #[iv p1, iv p2, iv ((p1 &&& (2147483647 : Int32)) - (p1 &&& (2147483647 : Int32)) / (3 : Int32) * (3 : Int32)), iv ((p2 &&& (2147483647 : Int32)) - (p2 &&& (2147483647 : Int32)) / (3 : Int32) * (3 : Int32)), rv (own_worse ai ab (1 : Int32) (2 : Int32))]) rfl ?_
      refine o_aload X28 hx (hb hby at_27) rfl rfl ?_
      refine o_iloadN X28 hx (hb hby at_29) rfl ?_
      refine o_iloadN X28 hx (hb hby at_30) rfl ?_
      obtain ⟨_, _, ⟨T29, L29, k29, n29⟩, -, X29, ⟨Lc29, hQ29, l29, y29, z29⟩, st29⟩ := Jvm.LawKit.callS X28 hx (y := (⟨"java/lang/Math", "max", "(II)I"⟩ : MethodName)) hown (mvT hZ (hw _ (List.mem_of_getElem? (i := 15) rfl))) (mvT hZ (hw _ (List.mem_of_getElem? (i := 16) rfl))) (mvT hZ (hw _ (List.mem_of_getElem? (i := 17) rfl))) (mvT hZ (hw _ (List.mem_of_getElem? (i := 18) rfl))) (by decide) (backOf (W := 1) (rm3 l Z a0 hw [] ((p1 &&& (2147483647 : Int32)) - (p1 &&& (2147483647 : Int32)) / (3 : Int32) * (3 : Int32)) ((p2 &&& (2147483647 : Int32)) - (p2 &&& (2147483647 : Int32)) / (3 : Int32) * (3 : Int32))  h0 n0 Z0) hZ (hw _ (List.mem_of_getElem? (i := 18) rfl)) (hw _ (List.mem_of_getElem? (i := 17) rfl)) (by decide) (by decide)) (g := (mkF m 31 #[iv p1, iv p2, iv ((p1 &&& (2147483647 : Int32)) - (p1 &&& (2147483647 : Int32)) / (3 : Int32) * (3 : Int32)), iv ((p2 &&& (2147483647 : Int32)) - (p2 &&& (2147483647 : Int32)) / (3 : Int32) * (3 : Int32)), rv (own_worse ai ab (1 : Int32) (2 : Int32))] [(.int ((p2 &&& (2147483647 : Int32)) - (p2 &&& (2147483647 : Int32)) / (3 : Int32) * (3 : Int32))), (.int ((p1 &&& (2147483647 : Int32)) - (p1 &&& (2147483647 : Int32)) / (3 : Int32) * (3 : Int32))), (.ref (own_worse ai ab (1 : Int32) (2 : Int32)))])) rfl (by rw [hml]; rfl) (argsL := [(.int ((p1 &&& (2147483647 : Int32)) - (p1 &&& (2147483647 : Int32)) / (3 : Int32) * (3 : Int32))), (.int ((p2 &&& (2147483647 : Int32)) - (p2 &&& (2147483647 : Int32)) / (3 : Int32) * (3 : Int32)))]) (rest := [(.ref (own_worse ai ab (1 : Int32) (2 : Int32)))]) (lenOf pd_3 rfl) rfl (by show 2 * 0 + _ ≤ _; exact Nat.le_of_eq rfl) (hb hby at_31) (fun _ _ => ⟨rfl, e28, (by decide : 0 + 0 ≤ _), (by decide : 0 + 0 ≤ _)⟩)
      dsimp only [Pt.U, Pt.locs, Pt.cells, Pt.slots] at X29 l29 y29 z29 st29 hQ29
      subst l29 y29 z29
      obtain ⟨rfl, Nq29, e29⟩ := hQ29
      have N29 := Fr.app N28 Nq29
      refine own_st st29 ?_
      show own_Go _ _ _ _ (T29.setTop (mkF m 34 #[iv p1, iv p2, iv ((p1 &&& (2147483647 : Int32)) - (p1 &&& (2147483647 : Int32)) / (3 : Int32) * (3 : Int32)), iv ((p2 &&& (2147483647 : Int32)) - (p2 &&& (2147483647 : Int32)) / (3 : Int32) * (3 : Int32)), rv (own_worse ai ab (1 : Int32) (2 : Int32))] [(.int (own_max ((p1 &&& (2147483647 : Int32)) - (p1 &&& (2147483647 : Int32)) / (3 : Int32) * (3 : Int32)) ((p2 &&& (2147483647 : Int32)) - (p2 &&& (2147483647 : Int32)) / (3 : Int32) * (3 : Int32)))), (.ref (own_worse ai ab (1 : Int32) (2 : Int32)))]))
      obtain ⟨_, _, ⟨T30, L30, k30, n30⟩, -, X30, ⟨Lc30, hQ30, l30, y30, z30⟩, st30⟩ := Jvm.LawKit.callS X29 hx (y := (⟨"com/example/ordinance/ordinance/cli/ExitCodeWorsePinLaw", "pick", "(I)Lcom/example/ordinance/ordinance/cli/ExitCode;"⟩ : MethodName)) hown (mvT hZ (hw _ (List.mem_of_getElem? (i := 1) rfl))) (mvT hZ (hw _ (List.mem_of_getElem? (i := 2) rfl))) (mvT hZ (hw _ (List.mem_of_getElem? (i := 3) rfl))) (mvT hZ (hw _ (List.mem_of_getElem? (i := 4) rfl))) (by decide) (backOf (W := 1) (rmpick2 l Z a0 hw [] (own_max ((p1 &&& (2147483647 : Int32)) - (p1 &&& (2147483647 : Int32)) / (3 : Int32) * (3 : Int32)) ((p2 &&& (2147483647 : Int32)) - (p2 &&& (2147483647 : Int32)) / (3 : Int32) * (3 : Int32))) ad ai ab h0 n0 Z0 S0 S1 S2 (by rw [hI, hJ]; rfl)) hZ (hw _ (List.mem_of_getElem? (i := 4) rfl)) (hw _ (List.mem_of_getElem? (i := 3) rfl)) (by decide) (by decide)) (g := (mkF m 34 #[iv p1, iv p2, iv ((p1 &&& (2147483647 : Int32)) - (p1 &&& (2147483647 : Int32)) / (3 : Int32) * (3 : Int32)), iv ((p2 &&& (2147483647 : Int32)) - (p2 &&& (2147483647 : Int32)) / (3 : Int32) * (3 : Int32)), rv (own_worse ai ab (1 : Int32) (2 : Int32))] [(.int (own_max ((p1 &&& (2147483647 : Int32)) - (p1 &&& (2147483647 : Int32)) / (3 : Int32) * (3 : Int32)) ((p2 &&& (2147483647 : Int32)) - (p2 &&& (2147483647 : Int32)) / (3 : Int32) * (3 : Int32)))), (.ref (own_worse ai ab (1 : Int32) (2 : Int32)))])) rfl (by rw [hml]; rfl) (argsL := [(.int (own_max ((p1 &&& (2147483647 : Int32)) - (p1 &&& (2147483647 : Int32)) / (3 : Int32) * (3 : Int32)) ((p2 &&& (2147483647 : Int32)) - (p2 &&& (2147483647 : Int32)) / (3 : Int32) * (3 : Int32))))]) (rest := [(.ref (own_worse ai ab (1 : Int32) (2 : Int32)))]) (lenOf pd_1 rfl) rfl (by show 2 * 0 + _ ≤ _; exact Nat.le_of_eq rfl) (hb hby at_34) (fun _ _ => ⟨rfl, e29, (by decide : 0 + 0 ≤ _), (by decide : 0 + 0 ≤ _)⟩)
      dsimp only [Pt.U, Pt.locs, Pt.cells, Pt.slots] at X30 l30 y30 z30 st30 hQ30
      subst l30 y30 z30
      obtain ⟨rfl, Nq30, e30⟩ := hQ30
      have N30 := Fr.app N29 Nq30
      refine own_st st30 ?_
      show own_Go _ _ _ _ (T30.setTop (mkF m 37 #[iv p1, iv p2, iv ((p1 &&& (2147483647 : Int32)) - (p1 &&& (2147483647 : Int32)) / (3 : Int32) * (3 : Int32)), iv ((p2 &&& (2147483647 : Int32)) - (p2 &&& (2147483647 : Int32)) / (3 : Int32) * (3 : Int32)), rv (own_worse ai ab (1 : Int32) (2 : Int32))] [(.ref ab), (.ref (own_worse ai ab (1 : Int32) (2 : Int32)))]))
      refine own_st (fun t k => Jvm.RoadKit.acmp (g := (mkF m 37 #[iv p1, iv p2, iv ((p1 &&& (2147483647 : Int32)) - (p1 &&& (2147483647 : Int32)) / (3 : Int32) * (3 : Int32)), iv ((p2 &&& (2147483647 : Int32)) - (p2 &&& (2147483647 : Int32)) / (3 : Int32) * (3 : Int32)), rv (own_worse ai ab (1 : Int32) (2 : Int32))] [(.ref ab), (.ref (own_worse ai ab (1 : Int32) (2 : Int32)))])) X30 hx rfl rfl rfl (pc0 := 37) (pc' := 40) (same := true) rfl (hb hby at_37) rfl (decide_eq_true (congrArg Value.ref (rfl : own_worse ai ab (1 : Int32) (2 : Int32) = ab))) (by decide) (by decide) k) ?_
      show own_Go _ _ _ _ (T30.setTop (mkF m 40 #[iv p1, iv p2, iv ((p1 &&& (2147483647 : Int32)) - (p1 &&& (2147483647 : Int32)) / (3 : Int32) * (3 : Int32)), iv ((p2 &&& (2147483647 : Int32)) - (p2 &&& (2147483647 : Int32)) / (3 : Int32) * (3 : Int32)), rv (own_worse ai ab (1 : Int32) (2 : Int32))] []))
      refine o_iconst X30 hx 1 (hb hby at_40) rfl ?_
      refine o_goto X30 hx (pc' := 45) (hb hby at_41) (by decide) (by decide) ?_
      exact own_end X30 e30 (v := some (.int (1 : Int32))) (fun h => by rw [Bd.returns] at h; cases h) hlk (fun fs hr => retN X30 hx (z := (1 : Int32)) (t := .boolean) Bd.returns (by simp) (hb hby at_45) hr) (Q := Q_rm0 Z a0 p1 p2 ad ai ab h0 n0) ⟨rfl, N30, (Keep.refl h0 [])⟩ (by decide) (by decide)
  · rcases own_three p2 with hJ | hJ | hJ
    · show own_Go _ _ _ _ (s₁.setTop (mkF m 14 #[iv p1, iv p2, iv ((p1 &&& (2147483647 : Int32)) - (p1 &&& (2147483647 : Int32)) / (3 : Int32) * (3 : Int32)), iv ((p2 &&& (2147483647 : Int32)) - (p2 &&& (2147483647 : Int32)) / (3 : Int32) * (3 : Int32)), .unset] []))
      refine o_iloadN X0 hx (hb hby at_14) rfl ?_
      obtain ⟨_, _, ⟨T31, L31, k31, n31⟩, -, X31, ⟨Lc31, hQ31, l31, y31, z31⟩, st31⟩ := Jvm.LawKit.callS X0 hx (y := (⟨"com/example/ordinance/ordinance/cli/ExitCodeWorsePinLaw", "pick", "(I)Lcom/example/ordinance/ordinance/cli/ExitCode;"⟩ : MethodName)) hown (mvT hZ (hw _ (List.mem_of_getElem? (i := 1) rfl))) (mvT hZ (hw _ (List.mem_of_getElem? (i := 2) rfl))) (mvT hZ (hw _ (List.mem_of_getElem? (i := 3) rfl))) (mvT hZ (hw _ (List.mem_of_getElem? (i := 4) rfl))) (by decide) (backOf (W := 0) (rmpick2 l Z a0 hw [] ((p1 &&& (2147483647 : Int32)) - (p1 &&& (2147483647 : Int32)) / (3 : Int32) * (3 : Int32)) ad ai ab h0 n0 Z0 S0 S1 S2 hI) hZ (hw _ (List.mem_of_getElem? (i := 4) rfl)) (hw _ (List.mem_of_getElem? (i := 3) rfl)) (by decide) (by decide)) (g := (mkF m 15 #[iv p1, iv p2, iv ((p1 &&& (2147483647 : Int32)) - (p1 &&& (2147483647 : Int32)) / (3 : Int32) * (3 : Int32)), iv ((p2 &&& (2147483647 : Int32)) - (p2 &&& (2147483647 : Int32)) / (3 : Int32) * (3 : Int32)), .unset] [(.int ((p1 &&& (2147483647 : Int32)) - (p1 &&& (2147483647 : Int32)) / (3 : Int32) * (3 : Int32)))])) rfl (by rw [hml]; rfl) (argsL := [(.int ((p1 &&& (2147483647 : Int32)) - (p1 &&& (2147483647 : Int32)) / (3 : Int32) * (3 : Int32)))]) (rest := []) (lenOf pd_1 rfl) rfl (by show 2 * 0 + _ ≤ _; exact Nat.le_of_eq rfl) (hb hby at_15) (fun _ _ => ⟨rfl, e0, (by decide : 0 + 0 ≤ _), (by decide : 0 + 0 ≤ _)⟩)
      dsimp only [Pt.U, Pt.locs, Pt.cells, Pt.slots] at X31 l31 y31 z31 st31 hQ31
      subst l31 y31 z31
      obtain ⟨rfl, Nq31, e31⟩ := hQ31
      have N31 := Fr.app N0 Nq31
      refine own_st st31 ?_
      show own_Go _ _ _ _ (T31.setTop (mkF m 18 #[iv p1, iv p2, iv ((p1 &&& (2147483647 : Int32)) - (p1 &&& (2147483647 : Int32)) / (3 : Int32) * (3 : Int32)), iv ((p2 &&& (2147483647 : Int32)) - (p2 &&& (2147483647 : Int32)) / (3 : Int32) * (3 : Int32)), .unset] [(.ref ab)]))
      refine o_iloadN X31 hx (hb hby at_18) rfl ?_
      obtain ⟨_, _, ⟨T32, L32, k32, n32⟩, -, X32, ⟨Lc32, hQ32, l32, y32, z32⟩, st32⟩ := Jvm.LawKit.callS X31 hx (y := (⟨"com/example/ordinance/ordinance/cli/ExitCodeWorsePinLaw", "pick", "(I)Lcom/example/ordinance/ordinance/cli/ExitCode;"⟩ : MethodName)) hown (mvT hZ (hw _ (List.mem_of_getElem? (i := 1) rfl))) (mvT hZ (hw _ (List.mem_of_getElem? (i := 2) rfl))) (mvT hZ (hw _ (List.mem_of_getElem? (i := 3) rfl))) (mvT hZ (hw _ (List.mem_of_getElem? (i := 4) rfl))) (by decide) (backOf (W := 1) (rmpick0 l Z a0 hw [] ((p2 &&& (2147483647 : Int32)) - (p2 &&& (2147483647 : Int32)) / (3 : Int32) * (3 : Int32)) ad ai ab h0 n0 Z0 S0 S1 S2 hJ) hZ (hw _ (List.mem_of_getElem? (i := 4) rfl)) (hw _ (List.mem_of_getElem? (i := 3) rfl)) (by decide) (by decide)) (g := (mkF m 19 #[iv p1, iv p2, iv ((p1 &&& (2147483647 : Int32)) - (p1 &&& (2147483647 : Int32)) / (3 : Int32) * (3 : Int32)), iv ((p2 &&& (2147483647 : Int32)) - (p2 &&& (2147483647 : Int32)) / (3 : Int32) * (3 : Int32)), .unset] [(.int ((p2 &&& (2147483647 : Int32)) - (p2 &&& (2147483647 : Int32)) / (3 : Int32) * (3 : Int32))), (.ref ab)])) rfl (by rw [hml]; rfl) (argsL := [(.int ((p2 &&& (2147483647 : Int32)) - (p2 &&& (2147483647 : Int32)) / (3 : Int32) * (3 : Int32)))]) (rest := [(.ref ab)]) (lenOf pd_1 rfl) rfl (by show 2 * 0 + _ ≤ _; exact Nat.le_of_eq rfl) (hb hby at_19) (fun _ _ => ⟨rfl, e31, (by decide : 0 + 0 ≤ _), (by decide : 0 + 0 ≤ _)⟩)
      dsimp only [Pt.U, Pt.locs, Pt.cells, Pt.slots] at X32 l32 y32 z32 st32 hQ32
      subst l32 y32 z32
      obtain ⟨rfl, Nq32, e32⟩ := hQ32
      have N32 := Fr.app N31 Nq32
      refine own_st st32 ?_
      show own_Go _ _ _ _ (T32.setTop (mkF m 22 #[iv p1, iv p2, iv ((p1 &&& (2147483647 : Int32)) - (p1 &&& (2147483647 : Int32)) / (3 : Int32) * (3 : Int32)), iv ((p2 &&& (2147483647 : Int32)) - (p2 &&& (2147483647 : Int32)) / (3 : Int32) * (3 : Int32)), .unset] [(.ref ad), (.ref ab)]))
      obtain ⟨cq33, kq33, q33a, q33b, q33c⟩ := isOf hZ e32 E2
      obtain ⟨_, _, ⟨T33, L33, k33, n33⟩, -, X33, ⟨Lc33, hQ33, l33, y33, z33⟩, st33⟩ := X32.virtualBack hx (y := (⟨"com/example/ordinance/ordinance/cli/ExitCode", "worse", "(Lcom/example/ordinance/ordinance/cli/ExitCode;)Lcom/example/ordinance/ordinance/cli/ExitCode;"⟩ : MethodName)) (z := (⟨"com/example/ordinance/ordinance/cli/ExitCode", "worse", "(Lcom/example/ordinance/ordinance/cli/ExitCode;)Lcom/example/ordinance/ordinance/cli/ExitCode;"⟩ : MethodName)) hown (mvT hZ (hw _ (List.mem_of_getElem? (i := 8) rfl))) (mvT hZ (hw _ (List.mem_of_getElem? (i := 9) rfl))) (notFace_of_selects (args := #[]) (mvT hZ (hw _ (List.mem_of_getElem? (i := 11) rfl)))) (mvT hZ (hw _ (List.mem_of_getElem? (i := 11) rfl))) (mvT hZ (hw _ (List.mem_of_getElem? (i := 10) rfl))) (by decide) (backOf (W := 0) (rm2 l Z a0 hw [] ab ad (2 : Int32) (0 : Int32) h0 n0 Z0 F2 F0) hZ (hw _ (List.mem_of_getElem? (i := 12) rfl)) (hw _ (List.mem_of_getElem? (i := 6) rfl)) (by decide) (by decide)) q33a q33c (g := (mkF m 22 #[iv p1, iv p2, iv ((p1 &&& (2147483647 : Int32)) - (p1 &&& (2147483647 : Int32)) / (3 : Int32) * (3 : Int32)), iv ((p2 &&& (2147483647 : Int32)) - (p2 &&& (2147483647 : Int32)) / (3 : Int32) * (3 : Int32)), .unset] [(.ref ad), (.ref ab)])) rfl (by rw [hml]; rfl) (Steps.refl _) (argsL := [(.ref ad)]) (rest := []) (lenOf pd_2 rfl) rfl (by show 2 * 0 + _ ≤ _; exact Nat.le_of_eq rfl) (hb hby at_22) (fun _ _ => ⟨rfl, e32, (by decide : 0 + 0 ≤ _), (by decide : 0 + 0 ≤ _)⟩)
      dsimp only [Pt.U, Pt.locs, Pt.cells, Pt.slots] at X33 l33 y33 z33 st33 hQ33
      subst l33 y33 z33
      obtain ⟨rfl, Nq33, e33⟩ := hQ33
      have N33 := Fr.app N32 Nq33
      refine own_tr st33 ?_
      show own_Go _ _ _ _ (T33.setTop (mkF m 25 #[iv p1, iv p2, iv ((p1 &&& (2147483647 : Int32)) - (p1 &&& (2147483647 : Int32)) / (3 : Int32) * (3 : Int32)), iv ((p2 &&& (2147483647 : Int32)) - (p2 &&& (2147483647 : Int32)) / (3 : Int32) * (3 : Int32)), .unset] [(.ref (own_worse ab ad (2 : Int32) (0 : Int32)))]))
      refine o_astore X33 hx (hb hby at_25) rfl (l' := #[iv p1, iv p2, iv ((p1 &&& (2147483647 : Int32)) - (p1 &&& (2147483647 : Int32)) / (3 : Int32) * (3 : Int32)), iv ((p2 &&& (2147483647 : Int32)) - (p2 &&& (2147483647 : Int32)) / (3 : Int32) * (3 : Int32)), rv (own_worse ab ad (2 : Int32) (0 : Int32))]) rfl ?_
      refine o_aload X33 hx (hb hby at_27) rfl rfl ?_
      refine o_iloadN X33 hx (hb hby at_29) rfl ?_
      refine o_iloadN X33 hx (hb hby at_30) rfl ?_
      obtain ⟨_, _, ⟨T34, L34, k34, n34⟩, -, X34, ⟨Lc34, hQ34, l34, y34, z34⟩, st34⟩ := Jvm.LawKit.callS X33 hx (y := (⟨"java/lang/Math", "max", "(II)I"⟩ : MethodName)) hown (mvT hZ (hw _ (List.mem_of_getElem? (i := 15) rfl))) (mvT hZ (hw _ (List.mem_of_getElem? (i := 16) rfl))) (mvT hZ (hw _ (List.mem_of_getElem? (i := 17) rfl))) (mvT hZ (hw _ (List.mem_of_getElem? (i := 18) rfl))) (by decide) (backOf (W := 1) (rm3 l Z a0 hw [] ((p1 &&& (2147483647 : Int32)) - (p1 &&& (2147483647 : Int32)) / (3 : Int32) * (3 : Int32)) ((p2 &&& (2147483647 : Int32)) - (p2 &&& (2147483647 : Int32)) / (3 : Int32) * (3 : Int32))  h0 n0 Z0) hZ (hw _ (List.mem_of_getElem? (i := 18) rfl)) (hw _ (List.mem_of_getElem? (i := 17) rfl)) (by decide) (by decide)) (g := (mkF m 31 #[iv p1, iv p2, iv ((p1 &&& (2147483647 : Int32)) - (p1 &&& (2147483647 : Int32)) / (3 : Int32) * (3 : Int32)), iv ((p2 &&& (2147483647 : Int32)) - (p2 &&& (2147483647 : Int32)) / (3 : Int32) * (3 : Int32)), rv (own_worse ab ad (2 : Int32) (0 : Int32))] [(.int ((p2 &&& (2147483647 : Int32)) - (p2 &&& (2147483647 : Int32)) / (3 : Int32) * (3 : Int32))), (.int ((p1 &&& (2147483647 : Int32)) - (p1 &&& (2147483647 : Int32)) / (3 : Int32) * (3 : Int32))), (.ref (own_worse ab ad (2 : Int32) (0 : Int32)))])) rfl (by rw [hml]; rfl) (argsL := [(.int ((p1 &&& (2147483647 : Int32)) - (p1 &&& (2147483647 : Int32)) / (3 : Int32) * (3 : Int32))), (.int ((p2 &&& (2147483647 : Int32)) - (p2 &&& (2147483647 : Int32)) / (3 : Int32) * (3 : Int32)))]) (rest := [(.ref (own_worse ab ad (2 : Int32) (0 : Int32)))]) (lenOf pd_3 rfl) rfl (by show 2 * 0 + _ ≤ _; exact Nat.le_of_eq rfl) (hb hby at_31) (fun _ _ => ⟨rfl, e33, (by decide : 0 + 0 ≤ _), (by decide : 0 + 0 ≤ _)⟩)
      dsimp only [Pt.U, Pt.locs, Pt.cells, Pt.slots] at X34 l34 y34 z34 st34 hQ34
      subst l34 y34 z34
      obtain ⟨rfl, Nq34, e34⟩ := hQ34
      have N34 := Fr.app N33 Nq34
      refine own_st st34 ?_
      show own_Go _ _ _ _ (T34.setTop (mkF m 34 #[iv p1, iv p2, iv ((p1 &&& (2147483647 : Int32)) - (p1 &&& (2147483647 : Int32)) / (3 : Int32) * (3 : Int32)), iv ((p2 &&& (2147483647 : Int32)) - (p2 &&& (2147483647 : Int32)) / (3 : Int32) * (3 : Int32)), rv (own_worse ab ad (2 : Int32) (0 : Int32))] [(.int (own_max ((p1 &&& (2147483647 : Int32)) - (p1 &&& (2147483647 : Int32)) / (3 : Int32) * (3 : Int32)) ((p2 &&& (2147483647 : Int32)) - (p2 &&& (2147483647 : Int32)) / (3 : Int32) * (3 : Int32)))), (.ref (own_worse ab ad (2 : Int32) (0 : Int32)))]))
      obtain ⟨_, _, ⟨T35, L35, k35, n35⟩, -, X35, ⟨Lc35, hQ35, l35, y35, z35⟩, st35⟩ := Jvm.LawKit.callS X34 hx (y := (⟨"com/example/ordinance/ordinance/cli/ExitCodeWorsePinLaw", "pick", "(I)Lcom/example/ordinance/ordinance/cli/ExitCode;"⟩ : MethodName)) hown (mvT hZ (hw _ (List.mem_of_getElem? (i := 1) rfl))) (mvT hZ (hw _ (List.mem_of_getElem? (i := 2) rfl))) (mvT hZ (hw _ (List.mem_of_getElem? (i := 3) rfl))) (mvT hZ (hw _ (List.mem_of_getElem? (i := 4) rfl))) (by decide) (backOf (W := 1) (rmpick2 l Z a0 hw [] (own_max ((p1 &&& (2147483647 : Int32)) - (p1 &&& (2147483647 : Int32)) / (3 : Int32) * (3 : Int32)) ((p2 &&& (2147483647 : Int32)) - (p2 &&& (2147483647 : Int32)) / (3 : Int32) * (3 : Int32))) ad ai ab h0 n0 Z0 S0 S1 S2 (by rw [hI, hJ]; rfl)) hZ (hw _ (List.mem_of_getElem? (i := 4) rfl)) (hw _ (List.mem_of_getElem? (i := 3) rfl)) (by decide) (by decide)) (g := (mkF m 34 #[iv p1, iv p2, iv ((p1 &&& (2147483647 : Int32)) - (p1 &&& (2147483647 : Int32)) / (3 : Int32) * (3 : Int32)), iv ((p2 &&& (2147483647 : Int32)) - (p2 &&& (2147483647 : Int32)) / (3 : Int32) * (3 : Int32)), rv (own_worse ab ad (2 : Int32) (0 : Int32))] [(.int (own_max ((p1 &&& (2147483647 : Int32)) - (p1 &&& (2147483647 : Int32)) / (3 : Int32) * (3 : Int32)) ((p2 &&& (2147483647 : Int32)) - (p2 &&& (2147483647 : Int32)) / (3 : Int32) * (3 : Int32)))), (.ref (own_worse ab ad (2 : Int32) (0 : Int32)))])) rfl (by rw [hml]; rfl) (argsL := [(.int (own_max ((p1 &&& (2147483647 : Int32)) - (p1 &&& (2147483647 : Int32)) / (3 : Int32) * (3 : Int32)) ((p2 &&& (2147483647 : Int32)) - (p2 &&& (2147483647 : Int32)) / (3 : Int32) * (3 : Int32))))]) (rest := [(.ref (own_worse ab ad (2 : Int32) (0 : Int32)))]) (lenOf pd_1 rfl) rfl (by show 2 * 0 + _ ≤ _; exact Nat.le_of_eq rfl) (hb hby at_34) (fun _ _ => ⟨rfl, e34, (by decide : 0 + 0 ≤ _), (by decide : 0 + 0 ≤ _)⟩)
      dsimp only [Pt.U, Pt.locs, Pt.cells, Pt.slots] at X35 l35 y35 z35 st35 hQ35
      subst l35 y35 z35
      obtain ⟨rfl, Nq35, e35⟩ := hQ35
      have N35 := Fr.app N34 Nq35
      refine own_st st35 ?_
      show own_Go _ _ _ _ (T35.setTop (mkF m 37 #[iv p1, iv p2, iv ((p1 &&& (2147483647 : Int32)) - (p1 &&& (2147483647 : Int32)) / (3 : Int32) * (3 : Int32)), iv ((p2 &&& (2147483647 : Int32)) - (p2 &&& (2147483647 : Int32)) / (3 : Int32) * (3 : Int32)), rv (own_worse ab ad (2 : Int32) (0 : Int32))] [(.ref ab), (.ref (own_worse ab ad (2 : Int32) (0 : Int32)))]))
      refine own_st (fun t k => Jvm.RoadKit.acmp (g := (mkF m 37 #[iv p1, iv p2, iv ((p1 &&& (2147483647 : Int32)) - (p1 &&& (2147483647 : Int32)) / (3 : Int32) * (3 : Int32)), iv ((p2 &&& (2147483647 : Int32)) - (p2 &&& (2147483647 : Int32)) / (3 : Int32) * (3 : Int32)), rv (own_worse ab ad (2 : Int32) (0 : Int32))] [(.ref ab), (.ref (own_worse ab ad (2 : Int32) (0 : Int32)))])) X35 hx rfl rfl rfl (pc0 := 37) (pc' := 40) (same := true) rfl (hb hby at_37) rfl (decide_eq_true (congrArg Value.ref (rfl : own_worse ab ad (2 : Int32) (0 : Int32) = ab))) (by decide) (by decide) k) ?_
      show own_Go _ _ _ _ (T35.setTop (mkF m 40 #[iv p1, iv p2, iv ((p1 &&& (2147483647 : Int32)) - (p1 &&& (2147483647 : Int32)) / (3 : Int32) * (3 : Int32)), iv ((p2 &&& (2147483647 : Int32)) - (p2 &&& (2147483647 : Int32)) / (3 : Int32) * (3 : Int32)), rv (own_worse ab ad (2 : Int32) (0 : Int32))] []))
      refine o_iconst X35 hx 1 (hb hby at_40) rfl ?_
      refine o_goto X35 hx (pc' := 45) (hb hby at_41) (by decide) (by decide) ?_
      exact own_end X35 e35 (v := some (.int (1 : Int32))) (fun h => by rw [Bd.returns] at h; cases h) hlk (fun fs hr => retN X35 hx (z := (1 : Int32)) (t := .boolean) Bd.returns (by simp) (hb hby at_45) hr) (Q := Q_rm0 Z a0 p1 p2 ad ai ab h0 n0) ⟨rfl, N35, (Keep.refl h0 [])⟩ (by decide) (by decide)
    · show own_Go _ _ _ _ (s₁.setTop (mkF m 14 #[iv p1, iv p2, iv ((p1 &&& (2147483647 : Int32)) - (p1 &&& (2147483647 : Int32)) / (3 : Int32) * (3 : Int32)), iv ((p2 &&& (2147483647 : Int32)) - (p2 &&& (2147483647 : Int32)) / (3 : Int32) * (3 : Int32)), .unset] []))
      refine o_iloadN X0 hx (hb hby at_14) rfl ?_
      obtain ⟨_, _, ⟨T36, L36, k36, n36⟩, -, X36, ⟨Lc36, hQ36, l36, y36, z36⟩, st36⟩ := Jvm.LawKit.callS X0 hx (y := (⟨"com/example/ordinance/ordinance/cli/ExitCodeWorsePinLaw", "pick", "(I)Lcom/example/ordinance/ordinance/cli/ExitCode;"⟩ : MethodName)) hown (mvT hZ (hw _ (List.mem_of_getElem? (i := 1) rfl))) (mvT hZ (hw _ (List.mem_of_getElem? (i := 2) rfl))) (mvT hZ (hw _ (List.mem_of_getElem? (i := 3) rfl))) (mvT hZ (hw _ (List.mem_of_getElem? (i := 4) rfl))) (by decide) (backOf (W := 0) (rmpick2 l Z a0 hw [] ((p1 &&& (2147483647 : Int32)) - (p1 &&& (2147483647 : Int32)) / (3 : Int32) * (3 : Int32)) ad ai ab h0 n0 Z0 S0 S1 S2 hI) hZ (hw _ (List.mem_of_getElem? (i := 4) rfl)) (hw _ (List.mem_of_getElem? (i := 3) rfl)) (by decide) (by decide)) (g := (mkF m 15 #[iv p1, iv p2, iv ((p1 &&& (2147483647 : Int32)) - (p1 &&& (2147483647 : Int32)) / (3 : Int32) * (3 : Int32)), iv ((p2 &&& (2147483647 : Int32)) - (p2 &&& (2147483647 : Int32)) / (3 : Int32) * (3 : Int32)), .unset] [(.int ((p1 &&& (2147483647 : Int32)) - (p1 &&& (2147483647 : Int32)) / (3 : Int32) * (3 : Int32)))])) rfl (by rw [hml]; rfl) (argsL := [(.int ((p1 &&& (2147483647 : Int32)) - (p1 &&& (2147483647 : Int32)) / (3 : Int32) * (3 : Int32)))]) (rest := []) (lenOf pd_1 rfl) rfl (by show 2 * 0 + _ ≤ _; exact Nat.le_of_eq rfl) (hb hby at_15) (fun _ _ => ⟨rfl, e0, (by decide : 0 + 0 ≤ _), (by decide : 0 + 0 ≤ _)⟩)
      dsimp only [Pt.U, Pt.locs, Pt.cells, Pt.slots] at X36 l36 y36 z36 st36 hQ36
      subst l36 y36 z36
      obtain ⟨rfl, Nq36, e36⟩ := hQ36
      have N36 := Fr.app N0 Nq36
      refine own_st st36 ?_
      show own_Go _ _ _ _ (T36.setTop (mkF m 18 #[iv p1, iv p2, iv ((p1 &&& (2147483647 : Int32)) - (p1 &&& (2147483647 : Int32)) / (3 : Int32) * (3 : Int32)), iv ((p2 &&& (2147483647 : Int32)) - (p2 &&& (2147483647 : Int32)) / (3 : Int32) * (3 : Int32)), .unset] [(.ref ab)]))
      refine o_iloadN X36 hx (hb hby at_18) rfl ?_
      obtain ⟨_, _, ⟨T37, L37, k37, n37⟩, -, X37, ⟨Lc37, hQ37, l37, y37, z37⟩, st37⟩ := Jvm.LawKit.callS X36 hx (y := (⟨"com/example/ordinance/ordinance/cli/ExitCodeWorsePinLaw", "pick", "(I)Lcom/example/ordinance/ordinance/cli/ExitCode;"⟩ : MethodName)) hown (mvT hZ (hw _ (List.mem_of_getElem? (i := 1) rfl))) (mvT hZ (hw _ (List.mem_of_getElem? (i := 2) rfl))) (mvT hZ (hw _ (List.mem_of_getElem? (i := 3) rfl))) (mvT hZ (hw _ (List.mem_of_getElem? (i := 4) rfl))) (by decide) (backOf (W := 1) (rmpick1 l Z a0 hw [] ((p2 &&& (2147483647 : Int32)) - (p2 &&& (2147483647 : Int32)) / (3 : Int32) * (3 : Int32)) ad ai ab h0 n0 Z0 S0 S1 S2 hJ) hZ (hw _ (List.mem_of_getElem? (i := 4) rfl)) (hw _ (List.mem_of_getElem? (i := 3) rfl)) (by decide) (by decide)) (g := (mkF m 19 #[iv p1, iv p2, iv ((p1 &&& (2147483647 : Int32)) - (p1 &&& (2147483647 : Int32)) / (3 : Int32) * (3 : Int32)), iv ((p2 &&& (2147483647 : Int32)) - (p2 &&& (2147483647 : Int32)) / (3 : Int32) * (3 : Int32)), .unset] [(.int ((p2 &&& (2147483647 : Int32)) - (p2 &&& (2147483647 : Int32)) / (3 : Int32) * (3 : Int32))), (.ref ab)])) rfl (by rw [hml]; rfl) (argsL := [(.int ((p2 &&& (2147483647 : Int32)) - (p2 &&& (2147483647 : Int32)) / (3 : Int32) * (3 : Int32)))]) (rest := [(.ref ab)]) (lenOf pd_1 rfl) rfl (by show 2 * 0 + _ ≤ _; exact Nat.le_of_eq rfl) (hb hby at_19) (fun _ _ => ⟨rfl, e36, (by decide : 0 + 0 ≤ _), (by decide : 0 + 0 ≤ _)⟩)
      dsimp only [Pt.U, Pt.locs, Pt.cells, Pt.slots] at X37 l37 y37 z37 st37 hQ37
      subst l37 y37 z37
      obtain ⟨rfl, Nq37, e37⟩ := hQ37
      have N37 := Fr.app N36 Nq37
      refine own_st st37 ?_
      show own_Go _ _ _ _ (T37.setTop (mkF m 22 #[iv p1, iv p2, iv ((p1 &&& (2147483647 : Int32)) - (p1 &&& (2147483647 : Int32)) / (3 : Int32) * (3 : Int32)), iv ((p2 &&& (2147483647 : Int32)) - (p2 &&& (2147483647 : Int32)) / (3 : Int32) * (3 : Int32)), .unset] [(.ref ai), (.ref ab)]))
      obtain ⟨cq38, kq38, q38a, q38b, q38c⟩ := isOf hZ e37 E2
      obtain ⟨_, _, ⟨T38, L38, k38, n38⟩, -, X38, ⟨Lc38, hQ38, l38, y38, z38⟩, st38⟩ := X37.virtualBack hx (y := (⟨"com/example/ordinance/ordinance/cli/ExitCode", "worse", "(Lcom/example/ordinance/ordinance/cli/ExitCode;)Lcom/example/ordinance/ordinance/cli/ExitCode;"⟩ : MethodName)) (z := (⟨"com/example/ordinance/ordinance/cli/ExitCode", "worse", "(Lcom/example/ordinance/ordinance/cli/ExitCode;)Lcom/example/ordinance/ordinance/cli/ExitCode;"⟩ : MethodName)) hown (mvT hZ (hw _ (List.mem_of_getElem? (i := 8) rfl))) (mvT hZ (hw _ (List.mem_of_getElem? (i := 9) rfl))) (notFace_of_selects (args := #[]) (mvT hZ (hw _ (List.mem_of_getElem? (i := 11) rfl)))) (mvT hZ (hw _ (List.mem_of_getElem? (i := 11) rfl))) (mvT hZ (hw _ (List.mem_of_getElem? (i := 10) rfl))) (by decide) (backOf (W := 0) (rm2 l Z a0 hw [] ab ai (2 : Int32) (1 : Int32) h0 n0 Z0 F2 F1) hZ (hw _ (List.mem_of_getElem? (i := 12) rfl)) (hw _ (List.mem_of_getElem? (i := 6) rfl)) (by decide) (by decide)) q38a q38c (g := (mkF m 22 #[iv p1, iv p2, iv ((p1 &&& (2147483647 : Int32)) - (p1 &&& (2147483647 : Int32)) / (3 : Int32) * (3 : Int32)), iv ((p2 &&& (2147483647 : Int32)) - (p2 &&& (2147483647 : Int32)) / (3 : Int32) * (3 : Int32)), .unset] [(.ref ai), (.ref ab)])) rfl (by rw [hml]; rfl) (Steps.refl _) (argsL := [(.ref ai)]) (rest := []) (lenOf pd_2 rfl) rfl (by show 2 * 0 + _ ≤ _; exact Nat.le_of_eq rfl) (hb hby at_22) (fun _ _ => ⟨rfl, e37, (by decide : 0 + 0 ≤ _), (by decide : 0 + 0 ≤ _)⟩)
      dsimp only [Pt.U, Pt.locs, Pt.cells, Pt.slots] at X38 l38 y38 z38 st38 hQ38
      subst l38 y38 z38
      obtain ⟨rfl, Nq38, e38⟩ := hQ38
      have N38 := Fr.app N37 Nq38
      refine own_tr st38 ?_
      show own_Go _ _ _ _ (T38.setTop (mkF m 25 #[iv p1, iv p2, iv ((p1 &&& (2147483647 : Int32)) - (p1 &&& (2147483647 : Int32)) / (3 : Int32) * (3 : Int32)), iv ((p2 &&& (2147483647 : Int32)) - (p2 &&& (2147483647 : Int32)) / (3 : Int32) * (3 : Int32)), .unset] [(.ref (own_worse ab ai (2 : Int32) (1 : Int32)))]))
      refine o_astore X38 hx (hb hby at_25) rfl (l' := #[iv p1, iv p2, iv ((p1 &&& (2147483647 : Int32)) - (p1 &&& (2147483647 : Int32)) / (3 : Int32) * (3 : Int32)), iv ((p2 &&& (2147483647 : Int32)) - (p2 &&& (2147483647 : Int32)) / (3 : Int32) * (3 : Int32)), rv (own_worse ab ai (2 : Int32) (1 : Int32))]) rfl ?_
      refine o_aload X38 hx (hb hby at_27) rfl rfl ?_
      refine o_iloadN X38 hx (hb hby at_29) rfl ?_
      refine o_iloadN X38 hx (hb hby at_30) rfl ?_
      obtain ⟨_, _, ⟨T39, L39, k39, n39⟩, -, X39, ⟨Lc39, hQ39, l39, y39, z39⟩, st39⟩ := Jvm.LawKit.callS X38 hx (y := (⟨"java/lang/Math", "max", "(II)I"⟩ : MethodName)) hown (mvT hZ (hw _ (List.mem_of_getElem? (i := 15) rfl))) (mvT hZ (hw _ (List.mem_of_getElem? (i := 16) rfl))) (mvT hZ (hw _ (List.mem_of_getElem? (i := 17) rfl))) (mvT hZ (hw _ (List.mem_of_getElem? (i := 18) rfl))) (by decide) (backOf (W := 1) (rm3 l Z a0 hw [] ((p1 &&& (2147483647 : Int32)) - (p1 &&& (2147483647 : Int32)) / (3 : Int32) * (3 : Int32)) ((p2 &&& (2147483647 : Int32)) - (p2 &&& (2147483647 : Int32)) / (3 : Int32) * (3 : Int32))  h0 n0 Z0) hZ (hw _ (List.mem_of_getElem? (i := 18) rfl)) (hw _ (List.mem_of_getElem? (i := 17) rfl)) (by decide) (by decide)) (g := (mkF m 31 #[iv p1, iv p2, iv ((p1 &&& (2147483647 : Int32)) - (p1 &&& (2147483647 : Int32)) / (3 : Int32) * (3 : Int32)), iv ((p2 &&& (2147483647 : Int32)) - (p2 &&& (2147483647 : Int32)) / (3 : Int32) * (3 : Int32)), rv (own_worse ab ai (2 : Int32) (1 : Int32))] [(.int ((p2 &&& (2147483647 : Int32)) - (p2 &&& (2147483647 : Int32)) / (3 : Int32) * (3 : Int32))), (.int ((p1 &&& (2147483647 : Int32)) - (p1 &&& (2147483647 : Int32)) / (3 : Int32) * (3 : Int32))), (.ref (own_worse ab ai (2 : Int32) (1 : Int32)))])) rfl (by rw [hml]; rfl) (argsL := [(.int ((p1 &&& (2147483647 : Int32)) - (p1 &&& (2147483647 : Int32)) / (3 : Int32) * (3 : Int32))), (.int ((p2 &&& (2147483647 : Int32)) - (p2 &&& (2147483647 : Int32)) / (3 : Int32) * (3 : Int32)))]) (rest := [(.ref (own_worse ab ai (2 : Int32) (1 : Int32)))]) (lenOf pd_3 rfl) rfl (by show 2 * 0 + _ ≤ _; exact Nat.le_of_eq rfl) (hb hby at_31) (fun _ _ => ⟨rfl, e38, (by decide : 0 + 0 ≤ _), (by decide : 0 + 0 ≤ _)⟩)
      dsimp only [Pt.U, Pt.locs, Pt.cells, Pt.slots] at X39 l39 y39 z39 st39 hQ39
      subst l39 y39 z39
      obtain ⟨rfl, Nq39, e39⟩ := hQ39
      have N39 := Fr.app N38 Nq39
      refine own_st st39 ?_
      show own_Go _ _ _ _ (T39.setTop (mkF m 34 #[iv p1, iv p2, iv ((p1 &&& (2147483647 : Int32)) - (p1 &&& (2147483647 : Int32)) / (3 : Int32) * (3 : Int32)), iv ((p2 &&& (2147483647 : Int32)) - (p2 &&& (2147483647 : Int32)) / (3 : Int32) * (3 : Int32)), rv (own_worse ab ai (2 : Int32) (1 : Int32))] [(.int (own_max ((p1 &&& (2147483647 : Int32)) - (p1 &&& (2147483647 : Int32)) / (3 : Int32) * (3 : Int32)) ((p2 &&& (2147483647 : Int32)) - (p2 &&& (2147483647 : Int32)) / (3 : Int32) * (3 : Int32)))), (.ref (own_worse ab ai (2 : Int32) (1 : Int32)))]))
      obtain ⟨_, _, ⟨T40, L40, k40, n40⟩, -, X40, ⟨Lc40, hQ40, l40, y40, z40⟩, st40⟩ := Jvm.LawKit.callS X39 hx (y := (⟨"com/example/ordinance/ordinance/cli/ExitCodeWorsePinLaw", "pick", "(I)Lcom/example/ordinance/ordinance/cli/ExitCode;"⟩ : MethodName)) hown (mvT hZ (hw _ (List.mem_of_getElem? (i := 1) rfl))) (mvT hZ (hw _ (List.mem_of_getElem? (i := 2) rfl))) (mvT hZ (hw _ (List.mem_of_getElem? (i := 3) rfl))) (mvT hZ (hw _ (List.mem_of_getElem? (i := 4) rfl))) (by decide) (backOf (W := 1) (rmpick2 l Z a0 hw [] (own_max ((p1 &&& (2147483647 : Int32)) - (p1 &&& (2147483647 : Int32)) / (3 : Int32) * (3 : Int32)) ((p2 &&& (2147483647 : Int32)) - (p2 &&& (2147483647 : Int32)) / (3 : Int32) * (3 : Int32))) ad ai ab h0 n0 Z0 S0 S1 S2 (by rw [hI, hJ]; rfl)) hZ (hw _ (List.mem_of_getElem? (i := 4) rfl)) (hw _ (List.mem_of_getElem? (i := 3) rfl)) (by decide) (by decide)) (g := (mkF m 34 #[iv p1, iv p2, iv ((p1 &&& (2147483647 : Int32)) - (p1 &&& (2147483647 : Int32)) / (3 : Int32) * (3 : Int32)), iv ((p2 &&& (2147483647 : Int32)) - (p2 &&& (2147483647 : Int32)) / (3 : Int32) * (3 : Int32)), rv (own_worse ab ai (2 : Int32) (1 : Int32))] [(.int (own_max ((p1 &&& (2147483647 : Int32)) - (p1 &&& (2147483647 : Int32)) / (3 : Int32) * (3 : Int32)) ((p2 &&& (2147483647 : Int32)) - (p2 &&& (2147483647 : Int32)) / (3 : Int32) * (3 : Int32)))), (.ref (own_worse ab ai (2 : Int32) (1 : Int32)))])) rfl (by rw [hml]; rfl) (argsL := [(.int (own_max ((p1 &&& (2147483647 : Int32)) - (p1 &&& (2147483647 : Int32)) / (3 : Int32) * (3 : Int32)) ((p2 &&& (2147483647 : Int32)) - (p2 &&& (2147483647 : Int32)) / (3 : Int32) * (3 : Int32))))]) (rest := [(.ref (own_worse ab ai (2 : Int32) (1 : Int32)))]) (lenOf pd_1 rfl) rfl (by show 2 * 0 + _ ≤ _; exact Nat.le_of_eq rfl) (hb hby at_34) (fun _ _ => ⟨rfl, e39, (by decide : 0 + 0 ≤ _), (by decide : 0 + 0 ≤ _)⟩)
      dsimp only [Pt.U, Pt.locs, Pt.cells, Pt.slots] at X40 l40 y40 z40 st40 hQ40
      subst l40 y40 z40
      obtain ⟨rfl, Nq40, e40⟩ := hQ40
      have N40 := Fr.app N39 Nq40
      refine own_st st40 ?_
      show own_Go _ _ _ _ (T40.setTop (mkF m 37 #[iv p1, iv p2, iv ((p1 &&& (2147483647 : Int32)) - (p1 &&& (2147483647 : Int32)) / (3 : Int32) * (3 : Int32)), iv ((p2 &&& (2147483647 : Int32)) - (p2 &&& (2147483647 : Int32)) / (3 : Int32) * (3 : Int32)), rv (own_worse ab ai (2 : Int32) (1 : Int32))] [(.ref ab), (.ref (own_worse ab ai (2 : Int32) (1 : Int32)))]))
      refine own_st (fun t k => Jvm.RoadKit.acmp (g := (mkF m 37 #[iv p1, iv p2, iv ((p1 &&& (2147483647 : Int32)) - (p1 &&& (2147483647 : Int32)) / (3 : Int32) * (3 : Int32)), iv ((p2 &&& (2147483647 : Int32)) - (p2 &&& (2147483647 : Int32)) / (3 : Int32) * (3 : Int32)), rv (own_worse ab ai (2 : Int32) (1 : Int32))] [(.ref ab), (.ref (own_worse ab ai (2 : Int32) (1 : Int32)))])) X40 hx rfl rfl rfl (pc0 := 37) (pc' := 40) (same := true) rfl (hb hby at_37) rfl (decide_eq_true (congrArg Value.ref (rfl : own_worse ab ai (2 : Int32) (1 : Int32) = ab))) (by decide) (by decide) k) ?_
      show own_Go _ _ _ _ (T40.setTop (mkF m 40 #[iv p1, iv p2, iv ((p1 &&& (2147483647 : Int32)) - (p1 &&& (2147483647 : Int32)) / (3 : Int32) * (3 : Int32)), iv ((p2 &&& (2147483647 : Int32)) - (p2 &&& (2147483647 : Int32)) / (3 : Int32) * (3 : Int32)), rv (own_worse ab ai (2 : Int32) (1 : Int32))] []))
      refine o_iconst X40 hx 1 (hb hby at_40) rfl ?_
      refine o_goto X40 hx (pc' := 45) (hb hby at_41) (by decide) (by decide) ?_
      exact own_end X40 e40 (v := some (.int (1 : Int32))) (fun h => by rw [Bd.returns] at h; cases h) hlk (fun fs hr => retN X40 hx (z := (1 : Int32)) (t := .boolean) Bd.returns (by simp) (hb hby at_45) hr) (Q := Q_rm0 Z a0 p1 p2 ad ai ab h0 n0) ⟨rfl, N40, (Keep.refl h0 [])⟩ (by decide) (by decide)
    · show own_Go _ _ _ _ (s₁.setTop (mkF m 14 #[iv p1, iv p2, iv ((p1 &&& (2147483647 : Int32)) - (p1 &&& (2147483647 : Int32)) / (3 : Int32) * (3 : Int32)), iv ((p2 &&& (2147483647 : Int32)) - (p2 &&& (2147483647 : Int32)) / (3 : Int32) * (3 : Int32)), .unset] []))
      refine o_iloadN X0 hx (hb hby at_14) rfl ?_
      obtain ⟨_, _, ⟨T41, L41, k41, n41⟩, -, X41, ⟨Lc41, hQ41, l41, y41, z41⟩, st41⟩ := Jvm.LawKit.callS X0 hx (y := (⟨"com/example/ordinance/ordinance/cli/ExitCodeWorsePinLaw", "pick", "(I)Lcom/example/ordinance/ordinance/cli/ExitCode;"⟩ : MethodName)) hown (mvT hZ (hw _ (List.mem_of_getElem? (i := 1) rfl))) (mvT hZ (hw _ (List.mem_of_getElem? (i := 2) rfl))) (mvT hZ (hw _ (List.mem_of_getElem? (i := 3) rfl))) (mvT hZ (hw _ (List.mem_of_getElem? (i := 4) rfl))) (by decide) (backOf (W := 0) (rmpick2 l Z a0 hw [] ((p1 &&& (2147483647 : Int32)) - (p1 &&& (2147483647 : Int32)) / (3 : Int32) * (3 : Int32)) ad ai ab h0 n0 Z0 S0 S1 S2 hI) hZ (hw _ (List.mem_of_getElem? (i := 4) rfl)) (hw _ (List.mem_of_getElem? (i := 3) rfl)) (by decide) (by decide)) (g := (mkF m 15 #[iv p1, iv p2, iv ((p1 &&& (2147483647 : Int32)) - (p1 &&& (2147483647 : Int32)) / (3 : Int32) * (3 : Int32)), iv ((p2 &&& (2147483647 : Int32)) - (p2 &&& (2147483647 : Int32)) / (3 : Int32) * (3 : Int32)), .unset] [(.int ((p1 &&& (2147483647 : Int32)) - (p1 &&& (2147483647 : Int32)) / (3 : Int32) * (3 : Int32)))])) rfl (by rw [hml]; rfl) (argsL := [(.int ((p1 &&& (2147483647 : Int32)) - (p1 &&& (2147483647 : Int32)) / (3 : Int32) * (3 : Int32)))]) (rest := []) (lenOf pd_1 rfl) rfl (by show 2 * 0 + _ ≤ _; exact Nat.le_of_eq rfl) (hb hby at_15) (fun _ _ => ⟨rfl, e0, (by decide : 0 + 0 ≤ _), (by decide : 0 + 0 ≤ _)⟩)
      dsimp only [Pt.U, Pt.locs, Pt.cells, Pt.slots] at X41 l41 y41 z41 st41 hQ41
      subst l41 y41 z41
      obtain ⟨rfl, Nq41, e41⟩ := hQ41
      have N41 := Fr.app N0 Nq41
      refine own_st st41 ?_
      show own_Go _ _ _ _ (T41.setTop (mkF m 18 #[iv p1, iv p2, iv ((p1 &&& (2147483647 : Int32)) - (p1 &&& (2147483647 : Int32)) / (3 : Int32) * (3 : Int32)), iv ((p2 &&& (2147483647 : Int32)) - (p2 &&& (2147483647 : Int32)) / (3 : Int32) * (3 : Int32)), .unset] [(.ref ab)]))
      refine o_iloadN X41 hx (hb hby at_18) rfl ?_
      obtain ⟨_, _, ⟨T42, L42, k42, n42⟩, -, X42, ⟨Lc42, hQ42, l42, y42, z42⟩, st42⟩ := Jvm.LawKit.callS X41 hx (y := (⟨"com/example/ordinance/ordinance/cli/ExitCodeWorsePinLaw", "pick", "(I)Lcom/example/ordinance/ordinance/cli/ExitCode;"⟩ : MethodName)) hown (mvT hZ (hw _ (List.mem_of_getElem? (i := 1) rfl))) (mvT hZ (hw _ (List.mem_of_getElem? (i := 2) rfl))) (mvT hZ (hw _ (List.mem_of_getElem? (i := 3) rfl))) (mvT hZ (hw _ (List.mem_of_getElem? (i := 4) rfl))) (by decide) (backOf (W := 1) (rmpick2 l Z a0 hw [] ((p2 &&& (2147483647 : Int32)) - (p2 &&& (2147483647 : Int32)) / (3 : Int32) * (3 : Int32)) ad ai ab h0 n0 Z0 S0 S1 S2 hJ) hZ (hw _ (List.mem_of_getElem? (i := 4) rfl)) (hw _ (List.mem_of_getElem? (i := 3) rfl)) (by decide) (by decide)) (g := (mkF m 19 #[iv p1, iv p2, iv ((p1 &&& (2147483647 : Int32)) - (p1 &&& (2147483647 : Int32)) / (3 : Int32) * (3 : Int32)), iv ((p2 &&& (2147483647 : Int32)) - (p2 &&& (2147483647 : Int32)) / (3 : Int32) * (3 : Int32)), .unset] [(.int ((p2 &&& (2147483647 : Int32)) - (p2 &&& (2147483647 : Int32)) / (3 : Int32) * (3 : Int32))), (.ref ab)])) rfl (by rw [hml]; rfl) (argsL := [(.int ((p2 &&& (2147483647 : Int32)) - (p2 &&& (2147483647 : Int32)) / (3 : Int32) * (3 : Int32)))]) (rest := [(.ref ab)]) (lenOf pd_1 rfl) rfl (by show 2 * 0 + _ ≤ _; exact Nat.le_of_eq rfl) (hb hby at_19) (fun _ _ => ⟨rfl, e41, (by decide : 0 + 0 ≤ _), (by decide : 0 + 0 ≤ _)⟩)
      dsimp only [Pt.U, Pt.locs, Pt.cells, Pt.slots] at X42 l42 y42 z42 st42 hQ42
      subst l42 y42 z42
      obtain ⟨rfl, Nq42, e42⟩ := hQ42
      have N42 := Fr.app N41 Nq42
      refine own_st st42 ?_
      show own_Go _ _ _ _ (T42.setTop (mkF m 22 #[iv p1, iv p2, iv ((p1 &&& (2147483647 : Int32)) - (p1 &&& (2147483647 : Int32)) / (3 : Int32) * (3 : Int32)), iv ((p2 &&& (2147483647 : Int32)) - (p2 &&& (2147483647 : Int32)) / (3 : Int32) * (3 : Int32)), .unset] [(.ref ab), (.ref ab)]))
      obtain ⟨cq43, kq43, q43a, q43b, q43c⟩ := isOf hZ e42 E2
      obtain ⟨_, _, ⟨T43, L43, k43, n43⟩, -, X43, ⟨Lc43, hQ43, l43, y43, z43⟩, st43⟩ := X42.virtualBack hx (y := (⟨"com/example/ordinance/ordinance/cli/ExitCode", "worse", "(Lcom/example/ordinance/ordinance/cli/ExitCode;)Lcom/example/ordinance/ordinance/cli/ExitCode;"⟩ : MethodName)) (z := (⟨"com/example/ordinance/ordinance/cli/ExitCode", "worse", "(Lcom/example/ordinance/ordinance/cli/ExitCode;)Lcom/example/ordinance/ordinance/cli/ExitCode;"⟩ : MethodName)) hown (mvT hZ (hw _ (List.mem_of_getElem? (i := 8) rfl))) (mvT hZ (hw _ (List.mem_of_getElem? (i := 9) rfl))) (notFace_of_selects (args := #[]) (mvT hZ (hw _ (List.mem_of_getElem? (i := 11) rfl)))) (mvT hZ (hw _ (List.mem_of_getElem? (i := 11) rfl))) (mvT hZ (hw _ (List.mem_of_getElem? (i := 10) rfl))) (by decide) (backOf (W := 0) (rm2 l Z a0 hw [] ab ab (2 : Int32) (2 : Int32) h0 n0 Z0 F2 F2) hZ (hw _ (List.mem_of_getElem? (i := 12) rfl)) (hw _ (List.mem_of_getElem? (i := 6) rfl)) (by decide) (by decide)) q43a q43c (g := (mkF m 22 #[iv p1, iv p2, iv ((p1 &&& (2147483647 : Int32)) - (p1 &&& (2147483647 : Int32)) / (3 : Int32) * (3 : Int32)), iv ((p2 &&& (2147483647 : Int32)) - (p2 &&& (2147483647 : Int32)) / (3 : Int32) * (3 : Int32)), .unset] [(.ref ab), (.ref ab)])) rfl (by rw [hml]; rfl) (Steps.refl _) (argsL := [(.ref ab)]) (rest := []) (lenOf pd_2 rfl) rfl (by show 2 * 0 + _ ≤ _; exact Nat.le_of_eq rfl) (hb hby at_22) (fun _ _ => ⟨rfl, e42, (by decide : 0 + 0 ≤ _), (by decide : 0 + 0 ≤ _)⟩)
      dsimp only [Pt.U, Pt.locs, Pt.cells, Pt.slots] at X43 l43 y43 z43 st43 hQ43
      subst l43 y43 z43
      obtain ⟨rfl, Nq43, e43⟩ := hQ43
      have N43 := Fr.app N42 Nq43
      refine own_tr st43 ?_
      show own_Go _ _ _ _ (T43.setTop (mkF m 25 #[iv p1, iv p2, iv ((p1 &&& (2147483647 : Int32)) - (p1 &&& (2147483647 : Int32)) / (3 : Int32) * (3 : Int32)), iv ((p2 &&& (2147483647 : Int32)) - (p2 &&& (2147483647 : Int32)) / (3 : Int32) * (3 : Int32)), .unset] [(.ref (own_worse ab ab (2 : Int32) (2 : Int32)))]))
      refine o_astore X43 hx (hb hby at_25) rfl (l' := #[iv p1, iv p2, iv ((p1 &&& (2147483647 : Int32)) - (p1 &&& (2147483647 : Int32)) / (3 : Int32) * (3 : Int32)), iv ((p2 &&& (2147483647 : Int32)) - (p2 &&& (2147483647 : Int32)) / (3 : Int32) * (3 : Int32)), rv (own_worse ab ab (2 : Int32) (2 : Int32))]) rfl ?_
      refine o_aload X43 hx (hb hby at_27) rfl rfl ?_
      refine o_iloadN X43 hx (hb hby at_29) rfl ?_
      refine o_iloadN X43 hx (hb hby at_30) rfl ?_
      obtain ⟨_, _, ⟨T44, L44, k44, n44⟩, -, X44, ⟨Lc44, hQ44, l44, y44, z44⟩, st44⟩ := Jvm.LawKit.callS X43 hx (y := (⟨"java/lang/Math", "max", "(II)I"⟩ : MethodName)) hown (mvT hZ (hw _ (List.mem_of_getElem? (i := 15) rfl))) (mvT hZ (hw _ (List.mem_of_getElem? (i := 16) rfl))) (mvT hZ (hw _ (List.mem_of_getElem? (i := 17) rfl))) (mvT hZ (hw _ (List.mem_of_getElem? (i := 18) rfl))) (by decide) (backOf (W := 1) (rm3 l Z a0 hw [] ((p1 &&& (2147483647 : Int32)) - (p1 &&& (2147483647 : Int32)) / (3 : Int32) * (3 : Int32)) ((p2 &&& (2147483647 : Int32)) - (p2 &&& (2147483647 : Int32)) / (3 : Int32) * (3 : Int32))  h0 n0 Z0) hZ (hw _ (List.mem_of_getElem? (i := 18) rfl)) (hw _ (List.mem_of_getElem? (i := 17) rfl)) (by decide) (by decide)) (g := (mkF m 31 #[iv p1, iv p2, iv ((p1 &&& (2147483647 : Int32)) - (p1 &&& (2147483647 : Int32)) / (3 : Int32) * (3 : Int32)), iv ((p2 &&& (2147483647 : Int32)) - (p2 &&& (2147483647 : Int32)) / (3 : Int32) * (3 : Int32)), rv (own_worse ab ab (2 : Int32) (2 : Int32))] [(.int ((p2 &&& (2147483647 : Int32)) - (p2 &&& (2147483647 : Int32)) / (3 : Int32) * (3 : Int32))), (.int ((p1 &&& (2147483647 : Int32)) - (p1 &&& (2147483647 : Int32)) / (3 : Int32) * (3 : Int32))), (.ref (own_worse ab ab (2 : Int32) (2 : Int32)))])) rfl (by rw [hml]; rfl) (argsL := [(.int ((p1 &&& (2147483647 : Int32)) - (p1 &&& (2147483647 : Int32)) / (3 : Int32) * (3 : Int32))), (.int ((p2 &&& (2147483647 : Int32)) - (p2 &&& (2147483647 : Int32)) / (3 : Int32) * (3 : Int32)))]) (rest := [(.ref (own_worse ab ab (2 : Int32) (2 : Int32)))]) (lenOf pd_3 rfl) rfl (by show 2 * 0 + _ ≤ _; exact Nat.le_of_eq rfl) (hb hby at_31) (fun _ _ => ⟨rfl, e43, (by decide : 0 + 0 ≤ _), (by decide : 0 + 0 ≤ _)⟩)
      dsimp only [Pt.U, Pt.locs, Pt.cells, Pt.slots] at X44 l44 y44 z44 st44 hQ44
      subst l44 y44 z44
      obtain ⟨rfl, Nq44, e44⟩ := hQ44
      have N44 := Fr.app N43 Nq44
      refine own_st st44 ?_
      show own_Go _ _ _ _ (T44.setTop (mkF m 34 #[iv p1, iv p2, iv ((p1 &&& (2147483647 : Int32)) - (p1 &&& (2147483647 : Int32)) / (3 : Int32) * (3 : Int32)), iv ((p2 &&& (2147483647 : Int32)) - (p2 &&& (2147483647 : Int32)) / (3 : Int32) * (3 : Int32)), rv (own_worse ab ab (2 : Int32) (2 : Int32))] [(.int (own_max ((p1 &&& (2147483647 : Int32)) - (p1 &&& (2147483647 : Int32)) / (3 : Int32) * (3 : Int32)) ((p2 &&& (2147483647 : Int32)) - (p2 &&& (2147483647 : Int32)) / (3 : Int32) * (3 : Int32)))), (.ref (own_worse ab ab (2 : Int32) (2 : Int32)))]))
      obtain ⟨_, _, ⟨T45, L45, k45, n45⟩, -, X45, ⟨Lc45, hQ45, l45, y45, z45⟩, st45⟩ := Jvm.LawKit.callS X44 hx (y := (⟨"com/example/ordinance/ordinance/cli/ExitCodeWorsePinLaw", "pick", "(I)Lcom/example/ordinance/ordinance/cli/ExitCode;"⟩ : MethodName)) hown (mvT hZ (hw _ (List.mem_of_getElem? (i := 1) rfl))) (mvT hZ (hw _ (List.mem_of_getElem? (i := 2) rfl))) (mvT hZ (hw _ (List.mem_of_getElem? (i := 3) rfl))) (mvT hZ (hw _ (List.mem_of_getElem? (i := 4) rfl))) (by decide) (backOf (W := 1) (rmpick2 l Z a0 hw [] (own_max ((p1 &&& (2147483647 : Int32)) - (p1 &&& (2147483647 : Int32)) / (3 : Int32) * (3 : Int32)) ((p2 &&& (2147483647 : Int32)) - (p2 &&& (2147483647 : Int32)) / (3 : Int32) * (3 : Int32))) ad ai ab h0 n0 Z0 S0 S1 S2 (by rw [hI, hJ]; rfl)) hZ (hw _ (List.mem_of_getElem? (i := 4) rfl)) (hw _ (List.mem_of_getElem? (i := 3) rfl)) (by decide) (by decide)) (g := (mkF m 34 #[iv p1, iv p2, iv ((p1 &&& (2147483647 : Int32)) - (p1 &&& (2147483647 : Int32)) / (3 : Int32) * (3 : Int32)), iv ((p2 &&& (2147483647 : Int32)) - (p2 &&& (2147483647 : Int32)) / (3 : Int32) * (3 : Int32)), rv (own_worse ab ab (2 : Int32) (2 : Int32))] [(.int (own_max ((p1 &&& (2147483647 : Int32)) - (p1 &&& (2147483647 : Int32)) / (3 : Int32) * (3 : Int32)) ((p2 &&& (2147483647 : Int32)) - (p2 &&& (2147483647 : Int32)) / (3 : Int32) * (3 : Int32)))), (.ref (own_worse ab ab (2 : Int32) (2 : Int32)))])) rfl (by rw [hml]; rfl) (argsL := [(.int (own_max ((p1 &&& (2147483647 : Int32)) - (p1 &&& (2147483647 : Int32)) / (3 : Int32) * (3 : Int32)) ((p2 &&& (2147483647 : Int32)) - (p2 &&& (2147483647 : Int32)) / (3 : Int32) * (3 : Int32))))]) (rest := [(.ref (own_worse ab ab (2 : Int32) (2 : Int32)))]) (lenOf pd_1 rfl) rfl (by show 2 * 0 + _ ≤ _; exact Nat.le_of_eq rfl) (hb hby at_34) (fun _ _ => ⟨rfl, e44, (by decide : 0 + 0 ≤ _), (by decide : 0 + 0 ≤ _)⟩)
      dsimp only [Pt.U, Pt.locs, Pt.cells, Pt.slots] at X45 l45 y45 z45 st45 hQ45
      subst l45 y45 z45
      obtain ⟨rfl, Nq45, e45⟩ := hQ45
      have N45 := Fr.app N44 Nq45
      refine own_st st45 ?_
      show own_Go _ _ _ _ (T45.setTop (mkF m 37 #[iv p1, iv p2, iv ((p1 &&& (2147483647 : Int32)) - (p1 &&& (2147483647 : Int32)) / (3 : Int32) * (3 : Int32)), iv ((p2 &&& (2147483647 : Int32)) - (p2 &&& (2147483647 : Int32)) / (3 : Int32) * (3 : Int32)), rv (own_worse ab ab (2 : Int32) (2 : Int32))] [(.ref ab), (.ref (own_worse ab ab (2 : Int32) (2 : Int32)))]))
      refine own_st (fun t k => Jvm.RoadKit.acmp (g := (mkF m 37 #[iv p1, iv p2, iv ((p1 &&& (2147483647 : Int32)) - (p1 &&& (2147483647 : Int32)) / (3 : Int32) * (3 : Int32)), iv ((p2 &&& (2147483647 : Int32)) - (p2 &&& (2147483647 : Int32)) / (3 : Int32) * (3 : Int32)), rv (own_worse ab ab (2 : Int32) (2 : Int32))] [(.ref ab), (.ref (own_worse ab ab (2 : Int32) (2 : Int32)))])) X45 hx rfl rfl rfl (pc0 := 37) (pc' := 40) (same := true) rfl (hb hby at_37) rfl (decide_eq_true (congrArg Value.ref (rfl : own_worse ab ab (2 : Int32) (2 : Int32) = ab))) (by decide) (by decide) k) ?_
      show own_Go _ _ _ _ (T45.setTop (mkF m 40 #[iv p1, iv p2, iv ((p1 &&& (2147483647 : Int32)) - (p1 &&& (2147483647 : Int32)) / (3 : Int32) * (3 : Int32)), iv ((p2 &&& (2147483647 : Int32)) - (p2 &&& (2147483647 : Int32)) / (3 : Int32) * (3 : Int32)), rv (own_worse ab ab (2 : Int32) (2 : Int32))] []))
      refine o_iconst X45 hx 1 (hb hby at_40) rfl ?_
      refine o_goto X45 hx (pc' := 45) (hb hby at_41) (by decide) (by decide) ?_
      exact own_end X45 e45 (v := some (.int (1 : Int32))) (fun h => by rw [Bd.returns] at h; cases h) hlk (fun fs hr => retN X45 hx (z := (1 : Int32)) (t := .boolean) Bd.returns (by simp) (hb hby at_45) hr) (Q := Q_rm0 Z a0 p1 p2 ad ai ab h0 n0) ⟨rfl, N45, (Keep.refl h0 [])⟩ (by decide) (by decide)
theorem own_eqI {args : Array Value} {first s : State} {o : Option Outcome} {idx : List Nat} {t : Term} {n : Int32} (h : (Cond.eq t (.int n)).value args first o s idx = some true) : t.eval args first o idx s = some (.int n) := by
  obtain ⟨x, y, h1, h2, h3, h4⟩ := cmp_v (Or.inl h)
  cases (Term.int_eval n).symm.trans h2
  obtain ⟨z, rfl⟩ := h4
  rw [h1, gotT (Cond.eq_ints h1 (Term.int_eval n)) h]
set_option maxRecDepth 65536 in
set_option maxHeartbeats 40000000 in
theorem comes_1 {Post : Tables → Env → Array Value → State → Outcome → State → Prop} (hpost : ∀ tb e args s v u, (limb_1_1.after args s (.returned v) u = true ∧ limb_1_2.after args s (.returned v) u = true ∧ True) → FrameEnd s (.returned v) u (Jvm.fieldLocs frame_1_writes args s ++ Jvm.arrayLocs frame_1_arrays args s ++ Jvm.staticLocs frame_1_statics s) 0 0 → Post tb e args s (.returned v) u) :
    ArmFor flags0 classFile x code maxLocals ret World_1 tables_1 room_1 Calls_1 rest_1 Pre_1 Post := by
  intro l hfl _ _ p e ha hc hk s m args below hf hA hF happ hP
  obtain ⟨hcalls, hrest, hpre⟩ := hP
  obtain ⟨-, -, -, hnamed, -, -, -, hat⟩ := (Spec.applies_iff hf).mp happ
  obtain ⟨hg, hn⟩ := and_e (Cond.before_iff.mp (show (Jvm.Cond.and given_1 narrow_1).before args s = true from hpre))
  obtain ⟨g1, g2⟩ := and_e hg
  obtain ⟨g3, g4⟩ := and_e g2
  obtain ⟨w0, w1, rfl⟩ : ∃ w0 w1 : Value, args = #[w0, w1] := by
    have hs : args.size = 2 := by simpa [Cond.value, given_1] using g1
    obtain ⟨L⟩ := args
    match L, hs with
    | [w0, w1], _ => exact ⟨w0, w1, rfl⟩
  have hw := fun d (hd : d ∈ tables_1) => atoms_spec (ws := Jvm.Cond.code x code maxLocals ret :: tables_1) hat d (List.mem_cons_of_mem _ hd)
  have hfit : Fit s := fun {y c} hc i hi => by
    obtain ⟨ha, rfl⟩ := Array.getElem?_eq_some_iff.mp hc
    have q := List.all_eq_true.mp ((Array.all_eq_true_iff_forall_mem.mp hF) _ (Array.getElem_mem ha)) i (List.mem_range.mpr hi)
    simpa [Array.getElem?_eq_getElem hi] using q
  obtain ⟨i0, ei0⟩ := is_v g3
  obtain rfl : w0 = (.int i0) := Option.some.inj ei0
  obtain ⟨i1, ei1⟩ := is_v g4
  obtain rfl : w1 = (.int i1) := Option.some.inj ei1
  obtain ⟨n1, m1⟩ := and_e hn
  obtain ⟨n2, m2⟩ := and_e m1
  obtain ⟨n3, m3⟩ := and_e m2
  obtain ⟨n4, m4⟩ := and_e m3
  obtain ⟨n5, n6⟩ := and_e m4
  obtain ⟨ad, evd⟩ := exa_v n1
  obtain ⟨ab, evb⟩ := exa_v n3
  obtain ⟨ai, evi⟩ := exa_v n4
  obtain ⟨n, o, h1, h2, h3, _, L, rfl, ⟨rfl, N, -⟩, hq⟩ := rm0 l s _ hw tables_1 i0 i1 ad ai ab s.heap s.heap.size (Nat.le_refl _) (Sta.start evd (Or.inr ⟨hw _ (List.mem_of_getElem? (i := 6) rfl), hw _ (List.mem_of_getElem? (i := 7) rfl)⟩)) (Sta.start evi (Or.inr ⟨hw _ (List.mem_of_getElem? (i := 6) rfl), hw _ (List.mem_of_getElem? (i := 22) rfl)⟩)) (Sta.start evb (Or.inr ⟨hw _ (List.mem_of_getElem? (i := 6) rfl), hw _ (List.mem_of_getElem? (i := 20) rfl)⟩)) (Exa.start evd n1) (Exa.start evi n4) (Exa.start evb n3) (Fld.start ((fld_at evd).symm.trans (own_eqI n2))) (Fld.start ((fld_at evi).symm.trans (own_eqI n5))) (Fld.start ((fld_at evb).symm.trans (own_eqI n6))) p e ha hc hk s m _ below hf ((Spec.applies_iff_loose hf).mp happ).1 ⟨rfl, State.Warmed39.refl s, rfl⟩ trivial
  refine ⟨n, _, h1, h2, h3, hpost _ _ _ _ _ _ ⟨Cond.after_iff.mpr rfl, Cond.after_iff.mpr (eq_i res_at (Term.int_eval (1)) rfl), trivial⟩ ⟨hq.1, hq.2.1, (hq.2.2.sift fun y hy => Or.inr (N y hy)).mono (by decide) (by decide)⟩⟩
theorem main_1_1 : Claimed_1_1 := comes_1 fun _ _ _ _ _ _ h hF => ⟨h.1, hF⟩
theorem main_1_2 : Claimed_1_2 := comes_1 fun _ _ _ _ _ _ h hF => ⟨h.2.1, hF⟩
end Jvm.Pilot.@@N@@
namespace Jvm.Pilot.@@N@@
open Jvm Jvm.ClassFile Sem Op Lib Jvm.Free Jvm.Stand Jvm.Pilot.@@N@@.Jvm.D
/-! MADE BY PROGRAM (witnessworld.py) out of the Statement's table words and the real class files: 13 classes; the members and pool entries that the words name. The judged class is class 1, her method 2. -/
namespace start1
open Jvm.ClassFile
def u (s : String) : CpInfo := .utf8 (stringToUtf16 s)
/-- a pool by its gaps: so many unusable entries, then the entry; so many at the end -/
def gap : Nat → List CpInfo → List CpInfo
  | 0, r => r
  | n + 1, r => .unusable :: gap n r
def poolList (es : List (Nat × CpInfo)) (last : Nat) : List CpInfo := es.foldr (fun e r => gap e.1 (e.2 :: r)) (gap last [])
def pool (es : List (Nat × CpInfo)) (last : Nat) : Array CpInfo := ⟨poolList es last⟩
def fileOf (pool : Array CpInfo) (this : Nat) (attrs : Array Attribute := #[]) (ms : Array MethodInfo := #[]) (fl : Nat := 33) (sup : Nat := 0) (ifs : Array Nat := #[]) (fds : Array FieldInfo := #[]) : ClassFile where
  minorVersion := 0
  majorVersion := 65
  constantPool := pool
  accessFlags := fl
  thisClass := this
  superClass := sup
  interfaces := ifs
  fields := fds
  methods := ms
  attributes := attrs
def plain (name : String) (sup : Option ClassId) : Class where
  name := name
  kind := .ordinary
  loader := none
  accessFlags := 33
  super := sup
  interfaces := #[]
  cf := none
  fields := #[]
  methods := #[]
  instanceTypes := #[]
  staticTypes := #[]
  resolved := #[]
  callSites := []
  init := .initialized
  statics := none
  mirror := none

def pool0 : Array CpInfo := pool [(5, u "<init>"), (0, u "()V"), (1, .class_ 10), (1, u "java/lang/Object")] 113

def k0m0 : Method := { name := "<init>", desc := "()V", sig := { parameters := [], returnType := none }, accessFlags := 1, code := none }
/-- java/lang/Object -/
def k0 : Class := { plain "java/lang/Object" none with
  accessFlags := 33
  interfaces := #[]
  cf := some (fileOf pool0 8 #[] #[{ accessFlags := 1, nameIndex := 5, descriptorIndex := 6, attributes := #[] }] 33 0 #[] #[])
  fields := #[]
  methods := #[k0m0]
  instanceTypes := #[]
  staticTypes := #[]
  resolved := Array.replicate 124 none
  statics := none }

def pool1 : Array CpInfo := pool [(2, .class_ 4), (1, u "java/lang/Object"), (0, u "<init>"), (0, u "()V"), (0, .fieldref 8 9), (0, .class_ 10), (0, .nameAndType 11 12), (0, u "com/example/ordinance/ordinance/cli/ExitCode"), (0, u "DONE"), (0, u "Lcom/example/ordinance/ordinance/cli/ExitCode;"), (0, .fieldref 8 14), (0, .nameAndType 15 12), (0, u "INVALID_INPUT"), (0, .fieldref 8 17), (0, .nameAndType 18 12), (0, u "BAD_INVOCATION"), (0, .integer 2147483647), (0, .methodref 21 22), (0, .class_ 23), (0, .nameAndType 24 25), (0, u "com/example/ordinance/ordinance/cli/ExitCodeWorsePinLaw"), (0, u "pick"), (0, u "(I)Lcom/example/ordinance/ordinance/cli/ExitCode;"), (0, .methodref 8 27), (0, .nameAndType 28 29), (0, u "worse"), (0, u "(Lcom/example/ordinance/ordinance/cli/ExitCode;)Lcom/example/ordinance/ordinance/cli/ExitCode;"), (0, .methodref 31 32), (0, .class_ 33), (0, .nameAndType 34 35), (0, u "java/lang/Math"), (0, u "max"), (0, u "(II)I"), (3, u "law"), (0, u "(II)Z")] 2

def k1m0 : Method := { name := "<init>", desc := "()V", sig := { parameters := [], returnType := none }, accessFlags := 1, code := none }
def k1c1 : Code := { maxStack := 2, maxLocals := 1, code := method_2_code, exceptionTable := #[], attributes := #[] }
def k1m1 : Method := { name := "pick", desc := "(I)Lcom/example/ordinance/ordinance/cli/ExitCode;", sig := { parameters := [.int], returnType := some (.object "com/example/ordinance/ordinance/cli/ExitCode") }, accessFlags := 10, code := some k1c1 }
def k1c2 : Code := { maxStack := 3, maxLocals := 5, code := code, exceptionTable := #[], attributes := #[] }
def k1m2 : Method := { name := "law", desc := "(II)Z", sig := { parameters := [.int, .int], returnType := some .boolean }, accessFlags := 9, code := some k1c2 }
/-- com/example/ordinance/ordinance/cli/ExitCodeWorsePinLaw -/
def k1 : Class := { plain "com/example/ordinance/ordinance/cli/ExitCodeWorsePinLaw" (some 0) with
  accessFlags := 49
  interfaces := #[]
  cf := some (fileOf pool1 21 #[] #[{ accessFlags := 1, nameIndex := 5, descriptorIndex := 6, attributes := #[] }, { accessFlags := 10, nameIndex := 24, descriptorIndex := 25, attributes := #[] }, { accessFlags := 9, nameIndex := 39, descriptorIndex := 40, attributes := #[] }] 49 2 #[] #[])
  fields := #[]
  methods := #[k1m0, k1m1, k1m2]
  instanceTypes := #[]
  staticTypes := #[]
  resolved := Array.replicate 43 none
  statics := none }

def pool2 : Array CpInfo := pool [(1, .class_ 2), (0, u "java/lang/constant/Constable"), (0, .class_ 4), (0, u "java/lang/Object")] 6

/-- java/lang/constant/Constable -/
def k2 : Class := { plain "java/lang/constant/Constable" (some 0) with
  accessFlags := 1537
  interfaces := #[]
  cf := some (fileOf pool2 1 #[] #[] 1537 3 #[] #[])
  fields := #[]
  methods := #[]
  instanceTypes := #[]
  staticTypes := #[]
  resolved := Array.replicate 11 none
  statics := none }

def pool3 : Array CpInfo := pool [(1, .class_ 2), (0, u "java/lang/Comparable"), (0, .class_ 4), (0, u "java/lang/Object")] 7

/-- java/lang/Comparable -/
def k3 : Class := { plain "java/lang/Comparable" (some 0) with
  accessFlags := 1537
  interfaces := #[]
  cf := some (fileOf pool3 1 #[] #[] 1537 3 #[] #[])
  fields := #[]
  methods := #[]
  instanceTypes := #[]
  staticTypes := #[]
  resolved := Array.replicate 12 none
  statics := none }

def pool4 : Array CpInfo := pool [(1, .class_ 2), (0, u "java/io/Serializable"), (0, .class_ 4), (0, u "java/lang/Object")] 2

/-- java/io/Serializable -/
def k4 : Class := { plain "java/io/Serializable" (some 0) with
  accessFlags := 1537
  interfaces := #[]
  cf := some (fileOf pool4 1 #[] #[] 1537 3 #[] #[])
  fields := #[]
  methods := #[]
  instanceTypes := #[]
  staticTypes := #[]
  resolved := Array.replicate 7 none
  statics := none }

def pool5 : Array CpInfo := pool [(2, .class_ 4), (1, u "java/lang/Enum"), (0, u "name"), (0, u "Ljava/lang/String;"), (2, u "ordinal"), (0, u "I"), (1, .class_ 14), (1, u "java/lang/Object"), (4, u "hash"), (86, .class_ 108), (1, u "java/lang/Enum$EnumDesc"), (2, .class_ 112), (0, u "java/lang/constant/Constable"), (0, .class_ 114), (0, u "java/lang/Comparable"), (0, .class_ 116), (0, u "java/io/Serializable")] 87

/-- java/lang/Enum -/
def k5 : Class := { plain "java/lang/Enum" (some 0) with
  accessFlags := 1057
  interfaces := #[2, 3, 4]
  cf := some (fileOf pool5 2 #[.nestMembers #[106]] #[] 1057 12 #[111, 113, 115] #[{ accessFlags := 18, nameIndex := 5, descriptorIndex := 6, attributes := #[] }, { accessFlags := 18, nameIndex := 9, descriptorIndex := 10, attributes := #[] }, { accessFlags := 2, nameIndex := 19, descriptorIndex := 10, attributes := #[] }])
  fields := #[{ name := "name", type := (.object "java/lang/String"), accessFlags := 18, slot := 0, constantValue := 0 }, { name := "ordinal", type := .int, accessFlags := 18, slot := 1, constantValue := 0 }, { name := "hash", type := .int, accessFlags := 2, slot := 2, constantValue := 0 }]
  methods := #[]
  instanceTypes := #[(.object "java/lang/String"), .int, .int]
  staticTypes := #[]
  resolved := Array.replicate 204 none
  statics := none }

def pool6 : Array CpInfo := pool [(1, .class_ 2), (0, u "com/example/ordinance/ordinance/cli/ExitCode"), (2, u "DONE"), (0, u "Lcom/example/ordinance/ordinance/cli/ExitCode;"), (2, u "INVALID_INPUT"), (2, u "BAD_INVOCATION"), (2, u "$VALUES"), (0, u "[Lcom/example/ordinance/ordinance/cli/ExitCode;"), (6, .class_ 25), (1, u "java/lang/Enum"), (6, .fieldref 1 33), (0, .nameAndType 34 35), (0, u "status"), (0, u "I"), (18, u "worse"), (0, u "(Lcom/example/ordinance/ordinance/cli/ExitCode;)Lcom/example/ordinance/ordinance/cli/ExitCode;")] 6

def k6c0 : Code := { maxStack := 2, maxLocals := 2, code := prog_2_method_5_code, exceptionTable := #[], attributes := #[] }
def k6m0 : Method := { name := "worse", desc := "(Lcom/example/ordinance/ordinance/cli/ExitCode;)Lcom/example/ordinance/ordinance/cli/ExitCode;", sig := { parameters := [(.object "com/example/ordinance/ordinance/cli/ExitCode")], returnType := some (.object "com/example/ordinance/ordinance/cli/ExitCode") }, accessFlags := 1, code := some k6c0 }
/-- com/example/ordinance/ordinance/cli/ExitCode -/
def k6 : Class := { plain "com/example/ordinance/ordinance/cli/ExitCode" (some 5) with
  accessFlags := 16433
  interfaces := #[]
  cf := some (fileOf pool6 1 #[] #[{ accessFlags := 1, nameIndex := 54, descriptorIndex := 55, attributes := #[] }] 16433 23 #[] #[{ accessFlags := 16409, nameIndex := 5, descriptorIndex := 6, attributes := #[] }, { accessFlags := 16409, nameIndex := 9, descriptorIndex := 6, attributes := #[] }, { accessFlags := 16409, nameIndex := 12, descriptorIndex := 6, attributes := #[] }, { accessFlags := 18, nameIndex := 34, descriptorIndex := 35, attributes := #[] }, { accessFlags := 4122, nameIndex := 15, descriptorIndex := 16, attributes := #[] }])
  fields := #[{ name := "DONE", type := (.object "com/example/ordinance/ordinance/cli/ExitCode"), accessFlags := 16409, slot := 0, constantValue := 0 }, { name := "INVALID_INPUT", type := (.object "com/example/ordinance/ordinance/cli/ExitCode"), accessFlags := 16409, slot := 1, constantValue := 0 }, { name := "BAD_INVOCATION", type := (.object "com/example/ordinance/ordinance/cli/ExitCode"), accessFlags := 16409, slot := 2, constantValue := 0 }, { name := "status", type := .int, accessFlags := 18, slot := 3, constantValue := 0 }, { name := "$VALUES", type := (.array (.object "com/example/ordinance/ordinance/cli/ExitCode")), accessFlags := 4122, slot := 3, constantValue := 0 }]
  methods := #[k6m0]
  instanceTypes := #[(.object "java/lang/String"), .int, .int, .int]
  staticTypes := #[(.object "com/example/ordinance/ordinance/cli/ExitCode"), (.object "com/example/ordinance/ordinance/cli/ExitCode"), (.object "com/example/ordinance/ordinance/cli/ExitCode"), (.array (.object "com/example/ordinance/ordinance/cli/ExitCode"))]
  resolved := Array.replicate 62 none
  statics := some 0 }

def pool7 : Array CpInfo := pool [(1, .class_ 2), (0, u "java/lang/Math"), (1, .class_ 6), (1, u "java/lang/Object"), (0, u "<init>"), (0, u "()V"), (89, .class_ 100), (1, u "java/lang/Math$RandomNumberGeneratorHolder"), (71, u "negativeZeroFloatBits"), (0, u "J"), (2, u "negativeZeroDoubleBits"), (21, u "max"), (46, u "$assertionsDisabled"), (0, u "Z"), (88, u "(II)I"), (2, u "twoToTheDoubleScaleDown"), (0, u "D"), (4, u "twoToTheDoubleScaleUp"), (9, u "E"), (3, u "PI"), (2, u "TAU"), (2, u "DEGREES_TO_RADIANS"), (0, u "RADIANS_TO_DEGREES")] 94

def k7m0 : Method := { name := "<init>", desc := "()V", sig := { parameters := [], returnType := none }, accessFlags := 2, code := none }
def k7c1 : Code := { maxStack := 2, maxLocals := 2, code := jdk_29_method_65_code, exceptionTable := #[], attributes := #[] }
def k7m1 : Method := { name := "max", desc := "(II)I", sig := { parameters := [.int, .int], returnType := some .int }, accessFlags := 9, code := some k7c1 }
/-- java/lang/Math -/
def k7 : Class := { plain "java/lang/Math" (some 0) with
  accessFlags := 49
  interfaces := #[]
  cf := some (fileOf pool7 1 #[.nestMembers #[98]] #[{ accessFlags := 2, nameIndex := 7, descriptorIndex := 8, attributes := #[] }, { accessFlags := 9, nameIndex := 198, descriptorIndex := 335, attributes := #[] }] 49 4 #[] #[{ accessFlags := 25, nameIndex := 354, descriptorIndex := 339, attributes := #[] }, { accessFlags := 25, nameIndex := 358, descriptorIndex := 339, attributes := #[] }, { accessFlags := 25, nameIndex := 361, descriptorIndex := 339, attributes := #[] }, { accessFlags := 26, nameIndex := 364, descriptorIndex := 339, attributes := #[] }, { accessFlags := 26, nameIndex := 365, descriptorIndex := 339, attributes := #[] }, { accessFlags := 26, nameIndex := 172, descriptorIndex := 173, attributes := #[] }, { accessFlags := 26, nameIndex := 176, descriptorIndex := 173, attributes := #[] }, { accessFlags := 8, nameIndex := 344, descriptorIndex := 339, attributes := #[] }, { accessFlags := 8, nameIndex := 338, descriptorIndex := 339, attributes := #[] }, { accessFlags := 4120, nameIndex := 245, descriptorIndex := 246, attributes := #[] }])
  fields := #[{ name := "E", type := .double, accessFlags := 25, slot := 0, constantValue := 0 }, { name := "PI", type := .double, accessFlags := 25, slot := 1, constantValue := 0 }, { name := "TAU", type := .double, accessFlags := 25, slot := 2, constantValue := 0 }, { name := "DEGREES_TO_RADIANS", type := .double, accessFlags := 26, slot := 3, constantValue := 0 }, { name := "RADIANS_TO_DEGREES", type := .double, accessFlags := 26, slot := 4, constantValue := 0 }, { name := "negativeZeroFloatBits", type := .long, accessFlags := 26, slot := 5, constantValue := 0 }, { name := "negativeZeroDoubleBits", type := .long, accessFlags := 26, slot := 6, constantValue := 0 }, { name := "twoToTheDoubleScaleUp", type := .double, accessFlags := 8, slot := 7, constantValue := 0 }, { name := "twoToTheDoubleScaleDown", type := .double, accessFlags := 8, slot := 8, constantValue := 0 }, { name := "$assertionsDisabled", type := .boolean, accessFlags := 4120, slot := 9, constantValue := 0 }]
  methods := #[k7m0, k7m1]
  instanceTypes := #[]
  staticTypes := #[.double, .double, .double, .double, .double, .long, .long, .double, .double, .boolean]
  resolved := Array.replicate 460 none
  statics := none }

def pool8 : Array CpInfo := pool [(1, u "java/lang/Cloneable"), (0, .class_ 1), (0, u "java/lang/Object"), (0, .class_ 3)] 3

/-- java/lang/Cloneable -/
def k8 : Class := { plain "java/lang/Cloneable" (some 0) with
  accessFlags := 1537
  interfaces := #[]
  cf := some (fileOf pool8 2 #[] #[] 1537 4 #[] #[])
  fields := #[]
  methods := #[]
  instanceTypes := #[]
  staticTypes := #[]
  resolved := Array.replicate 8 none
  statics := none }

/-- the primitive byte -/
def k9 : Class := { plain "byte" none with kind := .primitive 'B', accessFlags := 0x411 }
/-- [B -/
def k10 : Class := { plain "[B" (some 0) with kind := .array 9 .byte, interfaces := #[8, 4], accessFlags := 1041 }

/-- the primitive int -/
def k11 : Class := { plain "int" none with kind := .primitive 'I', accessFlags := 0x411 }
/-- [I -/
def k12 : Class := { plain "[I" (some 0) with kind := .array 11 .int, interfaces := #[8, 4], accessFlags := 1041 }

def heap : Heap := #[{ cls := 6, slots := #[.ref 1, .ref 2, .ref 3, .null], vm := .statics 6 },
  { cls := 6, slots := #[.null, .int 0, .int 0, .int 0], vm := .none },
  { cls := 6, slots := #[.null, .int 1, .int 0, .int 1], vm := .none },
  { cls := 6, slots := #[.null, .int 2, .int 0, .int 2], vm := .none }]
def classes : Array Class := #[k0, k1, k2, k3, k4, k5, k6, k7, k8, k9, k10, k11, k12]
def interned : List (Array UInt16 × Addr) := []
def slotsUsed : Nat := 16
def theMethod : MethodId := ⟨1, 2⟩
def args0 : Array Value := #[.int 1, .int 2]
def aboutOver (below : List Frame) : State where
  vm := { classes := classes, interned := interned.toArray }
  heap := heap
  slotsUsed := slotsUsed
  threads := #[{ frames := .invoking theMethod args0 :: below }]
def below0 : List Frame := [.native { method := ⟨0, 0⟩, args := #[] }]
def about1 : State := aboutOver below0
def p0 : Program := .bare "" "" ""
def e0 : Env := launch0.env 0 0 0
theorem w_frames : about1.frames = Frame.invoking theMethod args0 :: below0 := rfl
set_option maxRecDepth 65536 in
theorem w_args : argsFit about1.vm theMethod args0 = true := by decide +kernel
set_option maxRecDepth 65536 in
theorem w_heap : heapFits about1 = true := by decide +kernel
set_option maxRecDepth 65536 in
theorem w_runnable : about1.curStatus? = some .runnable := by decide +kernel
set_option maxRecDepth 65536 in
theorem w_alone : about1.alone = true := by decide +kernel
set_option maxRecDepth 65536 in
theorem w_named : about1.methodNamed? x = some theMethod := by decide +kernel
set_option maxRecDepth 65536 in
theorem w_hears : about1.hears theMethod below0 = true := by decide +kernel
set_option maxRecDepth 65536 in
theorem w_ripe : about1.ripe theMethod args0 below0 = true := by decide +kernel
theorem w_running : about1.status = .running := rfl
set_option maxRecDepth 65536 in
theorem w_room : about1.hasRoom e0.platform room_1 = true :=
  launch0.hasRoom_least _ room_1 (by decide +kernel) (by decide +kernel) (by decide +kernel) (by decide +kernel) (by decide +kernel) (by decide +kernel)
theorem allAtoms_all (ts : List Jvm.Cond) (a : Array Jvm.Value) (st : Jvm.State) : (allAtoms ts).before a st = ts.all (fun c => c.before a st) := by
  induction ts with
  | nil => rfl
  | cons c t ih =>
    show (Jvm.Cond.and c (allAtoms t)).before a st = _
    rw [Jvm.Cond.before_and, ih, List.all_cons]
def words1 : List Jvm.Cond := Jvm.Cond.code x code maxLocals ret :: tables_1
/-- a 'code' word, met by the world's own term for the bytes: nothing is compared byte by byte -/
theorem code_word {y : MethodName} {bytes : ByteArray} {mx : Nat} {rt : Option FieldType} {a : Array Value} {s : State} {m : MethodId} {meth : Method} {c : Code} (h1 : s.methodNamed? y = some m) (h2 : s.vm.method? m = some meth) (h3 : meth.code = some c) (h4 : c.code = bytes)
    (h5 : (c.maxLocals == mx && c.exceptionTable.isEmpty && decide (c.maxStack ≤ mostOperands) && decide (meth.sig.returnType = rt) && !meth.locks && decide (parseMethodDescriptor y.desc = some meth.sig)) = true) : (Jvm.Cond.code y bytes mx rt).before a s = true := by
  simp only [Bool.and_eq_true, beq_iff_eq, Bool.not_eq_true', decide_eq_true_eq] at h5
  obtain ⟨⟨⟨⟨⟨g1, g2⟩, g3⟩, g4⟩, g5⟩, g6⟩ := h5
  simp [Cond.before, Cond.holds, Cond.value, h1, h2, h3, h4, g1, g2, g3, g4, g5, g6]
def isCode : Jvm.Cond → Bool
  | .code _ _ _ _ => true
  | _ => false
theorem all_split {L : List Jvm.Cond} {P : Jvm.Cond → Bool} (h1 : L.all (fun c => isCode c || P c) = true) (h2 : ∀ c ∈ L.filter isCode, P c = true) : L.all P = true := by
  refine List.all_eq_true.mpr fun c hc => ?_
  have h := List.all_eq_true.mp h1 c hc
  rcases Bool.eq_false_or_eq_true (isCode c) with hi | hi
  · exact h2 c (List.mem_filter.mpr ⟨hc, hi⟩)
  · simpa [hi] using h
set_option maxRecDepth 65536 in
theorem w_c0 : (Jvm.Cond.code x code maxLocals ret).before args0 about1 = true := code_word (m := ⟨1, 2⟩) (meth := k1m2) (c := k1c2) (by decide +kernel) rfl rfl rfl (by decide +kernel)
set_option maxRecDepth 65536 in
theorem w_c1 : (Jvm.Cond.code ({ cls := "com/example/ordinance/ordinance/cli/ExitCodeWorsePinLaw", name := "pick", desc := "(I)Lcom/example/ordinance/ordinance/cli/ExitCode;" } : Jvm.MethodName) method_2_code (1 : Nat) (Option.some (Jvm.ClassFile.FieldType.object "com/example/ordinance/ordinance/cli/ExitCode"))).before args0 about1 = true := code_word (m := ⟨1, 1⟩) (meth := k1m1) (c := k1c1) (by decide +kernel) rfl rfl rfl (by decide +kernel)
set_option maxRecDepth 65536 in
theorem w_c2 : (Jvm.Cond.code ({ cls := "com/example/ordinance/ordinance/cli/ExitCode", name := "worse", desc := "(Lcom/example/ordinance/ordinance/cli/ExitCode;)Lcom/example/ordinance/ordinance/cli/ExitCode;" } : Jvm.MethodName) prog_2_method_5_code (2 : Nat) (Option.some (Jvm.ClassFile.FieldType.object "com/example/ordinance/ordinance/cli/ExitCode"))).before args0 about1 = true := code_word (m := ⟨6, 0⟩) (meth := k6m0) (c := k6c0) (by decide +kernel) rfl rfl rfl (by decide +kernel)
set_option maxRecDepth 65536 in
theorem w_c3 : (Jvm.Cond.code ({ cls := "java/lang/Math", name := "max", desc := "(II)I" } : Jvm.MethodName) jdk_29_method_65_code (2 : Nat) (Option.some Jvm.ClassFile.FieldType.int)).before args0 about1 = true := code_word (m := ⟨7, 1⟩) (meth := k7m1) (c := k7c1) (by decide +kernel) rfl rfl rfl (by decide +kernel)
def codes1 : List Jvm.Cond := [Jvm.Cond.code x code maxLocals ret, Jvm.Cond.code ({ cls := "com/example/ordinance/ordinance/cli/ExitCodeWorsePinLaw", name := "pick", desc := "(I)Lcom/example/ordinance/ordinance/cli/ExitCode;" } : Jvm.MethodName) method_2_code (1 : Nat) (Option.some (Jvm.ClassFile.FieldType.object "com/example/ordinance/ordinance/cli/ExitCode")), Jvm.Cond.code ({ cls := "com/example/ordinance/ordinance/cli/ExitCode", name := "worse", desc := "(Lcom/example/ordinance/ordinance/cli/ExitCode;)Lcom/example/ordinance/ordinance/cli/ExitCode;" } : Jvm.MethodName) prog_2_method_5_code (2 : Nat) (Option.some (Jvm.ClassFile.FieldType.object "com/example/ordinance/ordinance/cli/ExitCode")), Jvm.Cond.code ({ cls := "java/lang/Math", name := "max", desc := "(II)I" } : Jvm.MethodName) jdk_29_method_65_code (2 : Nat) (Option.some Jvm.ClassFile.FieldType.int)]
set_option maxRecDepth 65536 in
theorem codes_eq : words1.filter isCode = codes1 := rfl
theorem w_codes : ∀ c ∈ words1.filter isCode, c.before args0 about1 = true := by
  rw [codes_eq]
  intro c hc
  simp only [codes1, List.mem_cons, List.not_mem_nil, or_false] at hc
  rcases hc with rfl | rfl | rfl | rfl
  · exact w_c0
  · exact w_c1
  · exact w_c2
  · exact w_c3
set_option maxRecDepth 65536 in
theorem w_t1 : words1.all (fun c => isCode c || c.before args0 about1) = true := by decide +kernel
theorem w_tables : (allAtoms (Jvm.Cond.code x code maxLocals ret :: tables_1)).before args0 about1 = true := by
  rw [allAtoms_all]
  show words1.all (fun c => c.before args0 about1) = true
  refine all_split ?_ w_codes
  rw [w_t1]
set_option maxRecDepth 65536 in
theorem w_case : (Jvm.Cond.and given_1 narrow_1).before args0 about1 = true := by decide +kernel
theorem w_applies : (headSpec (Jvm.Cond.code x code maxLocals ret :: tables_1) room_1).applies x e0.platform about1 = true :=
  (Spec.applies_iff w_frames).mpr ⟨w_running, w_runnable, w_alone, w_named, w_hears, w_ripe, w_room, w_tables⟩
theorem atStart : AtStart classFile x code maxLocals ret World_1 tables_1 room_1 Calls_1 rest_1 Pre_1 launch0 p0 e0 about1 theMethod args0 below0 :=
  ⟨lists_1, trivial, launch0.admits_env _ _ _, launch0.least_env, fairChoices_fair.cas, fairChoices_fair.clock, w_frames, w_args, w_heap, w_applies, trivial, trivial, w_case⟩
end start1
theorem witness_1 : WitnessClaimed_1 := ⟨start1.p0, start1.e0, start1.about1, start1.theMethod, start1.args0, start1.below0, start1.atStart⟩
end Jvm.Pilot.@@N@@
