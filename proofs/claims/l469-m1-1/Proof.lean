import JvmDerived
import JvmDerived.Pilot.@@N@@Statement
import JvmDerived.Pilot.@@N@@Code
set_option linter.unusedVariables false
set_option linter.unusedSimpArgs false

namespace Jvm.RoadKit
open Sem ClassFile Op Lib Jvm.Stand Jvm.Free Jvm.LawKit
section New
variable {p : Program} {l : Launch} {e : Env} {R : Room} {s : State} {m : MethodId} {args : Array Value} {below : List Frame} {meth : Method} {c : Code} {T : State} {locs : List Loc} {cells slots : Nat}
theorem retI (X : Stand p l e R s m args below meth c T locs cells slots) (hx : p.tables.exec = Jvm.exec) {pc : Nat} {Ls : Array Slot} {z : Int32} {rest : List Value} (hret : meth.sig.returnType = some .int) (hd : decode c.code pc = .ok (.ireturn, 1)) {fs : List Frame}
    (hl : ∀ (f : JFrame) (acts : List Action), f.method = m → f.locked = none → f.entered = [] → (doReturn e (T.setTop f) acts (some (.int z))).1 = T.setFrames fs) : Steps p.tables e below (T.setTop (mkF m pc Ls (.int z :: rest))) (T.setFrames fs) := by
  have hm' : T.vm.method? m = some meth := X.method'
  have hn : narrow .int (.int z) = .int z := rfl
  show Steps p.tables e below (T.setTop { method := m, pc := pc, locals := Ls, stack := _ :: rest, locked := none }) _
  jvm_step X.here [X.here.top, hx, hd, hm', hret, hn]
  first | (intro acts; rw [hl _ acts rfl rfl rfl]) | rw [hl _ _ rfl rfl rfl]
  exact Steps.refl _

/-- from A the run ends, and R holds of the end -/
def own_Fin (tb : Tables) (e : Env) (below : List Frame) (R : State → Outcome → Prop) (A : State) : Prop := ∃ t o, Steps tb e below A t ∧ R t o
def own_R (s : State) (below : List Frame) (Q : Option Value → Heap → List Loc → Prop) (C S : Nat) (t : State) (o : Outcome) : Prop :=
  t.status = .running ∧ Ended t below o ∧ ∃ v L, o = .returned v ∧ Q v t.heap L ∧ FrameEnd s o t L C S
theorem own_pre {tb : Tables} {e : Env} {below : List Frame} {R : State → Outcome → Prop} {A A' : State} (h : ∀ t, Steps tb e below A' t → Steps tb e below A t) (k : own_Fin tb e below R A') : own_Fin tb e below R A := by
  obtain ⟨t, o, h1, h2⟩ := k; exact ⟨t, o, h t h1, h2⟩
theorem own_start {tb : Tables} {e : Env} {below : List Frame} {s T : State} {Q : Option Value → Heap → List Loc → Prop} {C S : Nat} {g g' : JFrame} (q : g = g') (k : own_Fin tb e below (own_R s below Q C S) (T.setTop g')) :
    ∃ s₂ o, Steps tb e below (T.setTop g) s₂ ∧ s₂.status = .running ∧ Ended s₂ below o ∧ ∃ v L, o = .returned v ∧ Q v s₂.heap L ∧ FrameEnd s o s₂ L C S := by
  subst q; exact k
theorem own_ret {Q : Option Value → Heap → List Loc → Prop} {C S : Nat} {A : State} {v : Option Value} (X : Stand p l e R s m args below meth c T locs cells slots) (hv : meth.sig.returnType = none → v = none) (hlocks : meth.locks = false) (hc : cells ≤ C) (hs : slots ≤ S) (hQ : Q v T.heap locs)
    (hstep : ∀ fs, (∀ (f : JFrame) (acts : List Action), f.method = m → f.locked = none → f.entered = [] → (doReturn e (T.setTop f) acts v).1 = T.setFrames fs) → Steps p.tables e below A (T.setFrames fs)) : own_Fin p.tables e below (own_R s below Q C S) A := by
  obtain ⟨fs, hr, hrun, hended, hW, hsame⟩ := X.leave hv hlocks
  exact ⟨_, _, hstep fs hr, hrun, hended, _, _, rfl, hQ, ⟨_, rfl⟩, hW, hsame.mono hc hs⟩
theorem own_ltN {a b : Nat} (h : a < b) : @LT.lt Nat instLTNat a b := h
theorem own_leN {a b : Nat} (h : a ≤ b) : @LE.le Nat instLENat a b := h
theorem own_neN {a b : Nat} (h : @LT.lt Nat instLTNat a b) : a ≠ b := Nat.ne_of_lt h
theorem own_neN' {a b : Nat} (h : @LT.lt Nat instLTNat b a) : a ≠ b := Nat.ne_of_gt h
theorem own_selp {y : MethodName} {s : State} {args : Array Value} {n : Nat} (hy : y.cls ≠ "java/lang/invoke/MethodHandle" ∧ y.cls ≠ "java/lang/invoke/VarHandle")
    (hins : (Cond.instantiable y.cls n).before args s = true) (hpriv : (Cond.privateMethod y).before args s = true) (hinst : (Cond.instanceMethod y).before args s = true) : (Cond.selects y.cls y y).before args s = true := by
  obtain ⟨c, k, hc, hk, -, hniab, -, -⟩ := Cond.instantiable_spec hins
  exact selects_self_of_private hc hk (Bool.or_eq_false_iff.mp hniab).1 (Cond.privateMethod_at hpriv) hinst hy
def own_QV (h0 : Heap) (n0 : Nat) (v : Option Value) (h : Heap) (L : List Loc) : Prop := v = none ∧ Fr n0 L ∧ h = h0
def own_QP (r : Value) (h0 : Heap) (n0 : Nat) (v : Option Value) (h : Heap) (L : List Loc) : Prop := v = some r ∧ Fr n0 L ∧ h = h0
def own_at (code : ByteArray) (pc : Nat) (i : Instr) (n pc' : Nat) : Prop := decode code pc = .ok (i, n) ∧ pc + n = pc'
section Steps1
variable {p : Program} {l : Launch} {e : Env} {R : Room} {s : State} {m : MethodId} {args : Array Value} {below : List Frame} {meth : Method} {c : Code} {T : State} {locs : List Loc} {cells slots : Nat} {code : ByteArray} {Rr : State → Outcome → Prop} {Ls : Array Slot} {st : List Value} {pc pc' : Nat}
theorem o_iloadN (X : Stand p l e R s m args below meth c T locs cells slots) (hx : p.tables.exec = Jvm.exec) (hby : c.code = code) {k : Fin 4} {v : Int32} (hd : own_at code pc (.iload_n k) 1 pc') (hl : Ls[k.val]? = some (.val (.int v)))
    (h : own_Fin p.tables e below Rr (T.setTop (mkF m pc' Ls (.int v :: st)))) : own_Fin p.tables e below Rr (T.setTop (mkF m pc Ls (st))) := by
  obtain ⟨hd, rfl⟩ := hd; subst hby
  exact own_pre (fun t k => XS.iloadN X.here hx rfl hd hl k) h
theorem o_iload (X : Stand p l e R s m args below meth c T locs cells slots) (hx : p.tables.exec = Jvm.exec) (hby : c.code = code) {k : Nat} {v : Int32} (hd : own_at code pc (.iload k) 2 pc') (hl : Ls[k]? = some (.val (.int v)))
    (h : own_Fin p.tables e below Rr (T.setTop (mkF m pc' Ls (.int v :: st)))) : own_Fin p.tables e below Rr (T.setTop (mkF m pc Ls (st))) := by
  obtain ⟨hd, rfl⟩ := hd; subst hby
  exact own_pre (fun t k => XS.iload X.here hx rfl hd hl k) h
theorem o_istoreN (X : Stand p l e R s m args below meth c T locs cells slots) (hx : p.tables.exec = Jvm.exec) (hby : c.code = code) {k : Fin 4} {v : Int32} {l' : Array Slot} (hd : own_at code pc (.istore_n k) 1 pc') (hl : storeLocals Ls k.val (.int v) = some l')
    (h : own_Fin p.tables e below Rr (T.setTop (mkF m pc' l' (st)))) : own_Fin p.tables e below Rr (T.setTop (mkF m pc Ls (.int v :: st))) := by
  obtain ⟨hd, rfl⟩ := hd; subst hby
  exact own_pre (fun t k => XS.istoreN X.here hx rfl hd rfl hl k) h
theorem o_istore (X : Stand p l e R s m args below meth c T locs cells slots) (hx : p.tables.exec = Jvm.exec) (hby : c.code = code) {k : Nat} {v : Int32} {l' : Array Slot} (hd : own_at code pc (.istore k) 2 pc') (hl : storeLocals Ls k (.int v) = some l')
    (h : own_Fin p.tables e below Rr (T.setTop (mkF m pc' l' (st)))) : own_Fin p.tables e below Rr (T.setTop (mkF m pc Ls (.int v :: st))) := by
  obtain ⟨hd, rfl⟩ := hd; subst hby
  exact own_pre (fun t k => XS.istore X.here hx rfl hd rfl hl k) h
theorem o_lloadN (X : Stand p l e R s m args below meth c T locs cells slots) (hx : p.tables.exec = Jvm.exec) (hby : c.code = code) {k : Fin 4} {v : Int64} (hd : own_at code pc (.lload_n k) 1 pc') (hl : Ls[k.val]? = some (.val (.long v)))
    (h : own_Fin p.tables e below Rr (T.setTop (mkF m pc' Ls (.long v :: st)))) : own_Fin p.tables e below Rr (T.setTop (mkF m pc Ls (st))) := by
  obtain ⟨hd, rfl⟩ := hd; subst hby
  exact own_pre (fun t k => XS.lloadN X.here hx rfl hd hl k) h
theorem o_lload (X : Stand p l e R s m args below meth c T locs cells slots) (hx : p.tables.exec = Jvm.exec) (hby : c.code = code) {k : Nat} {v : Int64} (hd : own_at code pc (.lload k) 2 pc') (hl : Ls[k]? = some (.val (.long v)))
    (h : own_Fin p.tables e below Rr (T.setTop (mkF m pc' Ls (.long v :: st)))) : own_Fin p.tables e below Rr (T.setTop (mkF m pc Ls (st))) := by
  obtain ⟨hd, rfl⟩ := hd; subst hby
  exact own_pre (fun t k => XS.lload X.here hx rfl hd hl k) h
theorem o_lstoreN (X : Stand p l e R s m args below meth c T locs cells slots) (hx : p.tables.exec = Jvm.exec) (hby : c.code = code) {k : Fin 4} {v : Int64} {l' : Array Slot} (hd : own_at code pc (.lstore_n k) 1 pc') (hl : storeLocals Ls k.val (.long v) = some l')
    (h : own_Fin p.tables e below Rr (T.setTop (mkF m pc' l' (st)))) : own_Fin p.tables e below Rr (T.setTop (mkF m pc Ls (.long v :: st))) := by
  obtain ⟨hd, rfl⟩ := hd; subst hby
  exact own_pre (fun t k => XS.lstoreN X.here hx rfl hd rfl hl k) h
theorem o_lstore (X : Stand p l e R s m args below meth c T locs cells slots) (hx : p.tables.exec = Jvm.exec) (hby : c.code = code) {k : Nat} {v : Int64} {l' : Array Slot} (hd : own_at code pc (.lstore k) 2 pc') (hl : storeLocals Ls k (.long v) = some l')
    (h : own_Fin p.tables e below Rr (T.setTop (mkF m pc' l' (st)))) : own_Fin p.tables e below Rr (T.setTop (mkF m pc Ls (.long v :: st))) := by
  obtain ⟨hd, rfl⟩ := hd; subst hby
  exact own_pre (fun t k => XS.lstore X.here hx rfl hd rfl hl k) h
theorem o_aloadN (X : Stand p l e R s m args below meth c T locs cells slots) (hx : p.tables.exec = Jvm.exec) (hby : c.code = code) {k : Fin 4} {v : Value} (hd : own_at code pc (.aload_n k) 1 pc') (hl : Ls[k.val]? = some (.val v)) (hv : v.isRef = true)
    (h : own_Fin p.tables e below Rr (T.setTop (mkF m pc' Ls (v :: st)))) : own_Fin p.tables e below Rr (T.setTop (mkF m pc Ls (st))) := by
  obtain ⟨hd, rfl⟩ := hd; subst hby
  exact own_pre (fun t k => XS.aloadN X.here hx rfl hd hl hv k) h
theorem o_aload (X : Stand p l e R s m args below meth c T locs cells slots) (hx : p.tables.exec = Jvm.exec) (hby : c.code = code) {k : Nat} {v : Value} (hd : own_at code pc (.aload k) 2 pc') (hl : Ls[k]? = some (.val v)) (hv : v.isRef = true)
    (h : own_Fin p.tables e below Rr (T.setTop (mkF m pc' Ls (v :: st)))) : own_Fin p.tables e below Rr (T.setTop (mkF m pc Ls (st))) := by
  obtain ⟨hd, rfl⟩ := hd; subst hby
  exact own_pre (fun t k => XS.aload X.here hx rfl hd hl hv k) h
theorem o_astoreN (X : Stand p l e R s m args below meth c T locs cells slots) (hx : p.tables.exec = Jvm.exec) (hby : c.code = code) {k : Fin 4} {v : Value} {l' : Array Slot} (hd : own_at code pc (.astore_n k) 1 pc') (hv : v.isRef = true) (hl : storeLocals Ls k.val v = some l')
    (h : own_Fin p.tables e below Rr (T.setTop (mkF m pc' l' (st)))) : own_Fin p.tables e below Rr (T.setTop (mkF m pc Ls (v :: st))) := by
  obtain ⟨hd, rfl⟩ := hd; subst hby
  exact own_pre (fun t k => XS.astoreN X.here hx rfl hd rfl hv hl k) h
theorem o_astore (X : Stand p l e R s m args below meth c T locs cells slots) (hx : p.tables.exec = Jvm.exec) (hby : c.code = code) {k : Nat} {v : Value} {l' : Array Slot} (hd : own_at code pc (.astore k) 2 pc') (hv : v.isRef = true) (hl : storeLocals Ls k v = some l')
    (h : own_Fin p.tables e below Rr (T.setTop (mkF m pc' l' (st)))) : own_Fin p.tables e below Rr (T.setTop (mkF m pc Ls (v :: st))) := by
  obtain ⟨hd, rfl⟩ := hd; subst hby
  exact own_pre (fun t k => XS.astore X.here hx rfl hd rfl hv hl k) h
theorem o_iconst (X : Stand p l e R s m args below meth c T locs cells slots) (hx : p.tables.exec = Jvm.exec) (hby : c.code = code) {i : Int} {v : Int32} (hd : own_at code pc (.iconst i) 1 pc') (hv : Int32.ofInt i = v)
    (h : own_Fin p.tables e below Rr (T.setTop (mkF m pc' Ls (.int v :: st)))) : own_Fin p.tables e below Rr (T.setTop (mkF m pc Ls (st))) := by
  obtain ⟨hd, rfl⟩ := hd; subst hby
  exact own_pre (fun t k => by subst hv; exact XS.iconst X.here hx rfl hd k) h
theorem o_bipush (X : Stand p l e R s m args below meth c T locs cells slots) (hx : p.tables.exec = Jvm.exec) (hby : c.code = code) {i : Int} {v : Int32} (hd : own_at code pc (.bipush i) 2 pc') (hv : (Int8.ofInt i).toInt32 = v)
    (h : own_Fin p.tables e below Rr (T.setTop (mkF m pc' Ls (.int v :: st)))) : own_Fin p.tables e below Rr (T.setTop (mkF m pc Ls (st))) := by
  obtain ⟨hd, rfl⟩ := hd; subst hby
  exact own_pre (fun t k => by subst hv; exact XS.bipush X.here hx rfl hd k) h
theorem o_sipush (X : Stand p l e R s m args below meth c T locs cells slots) (hx : p.tables.exec = Jvm.exec) (hby : c.code = code) {i : Int} {v : Int32} (hd : own_at code pc (.sipush i) 3 pc') (hv : (Int16.ofInt i).toInt32 = v)
    (h : own_Fin p.tables e below Rr (T.setTop (mkF m pc' Ls (.int v :: st)))) : own_Fin p.tables e below Rr (T.setTop (mkF m pc Ls (st))) := by
  obtain ⟨hd, rfl⟩ := hd; subst hby
  exact own_pre (fun t k => by subst hv; exact XS.sipush X.here hx rfl hd k) h
theorem o_lconst (X : Stand p l e R s m args below meth c T locs cells slots) (hx : p.tables.exec = Jvm.exec) (hby : c.code = code) {i : Fin 2} {v : Int64} (hd : own_at code pc (.lconst i) 1 pc') (hv : Int64.ofNat i = v)
    (h : own_Fin p.tables e below Rr (T.setTop (mkF m pc' Ls (.long v :: st)))) : own_Fin p.tables e below Rr (T.setTop (mkF m pc Ls (st))) := by
  obtain ⟨hd, rfl⟩ := hd; subst hby
  exact own_pre (fun t k => by subst hv; exact XS.lconst X.here hx rfl hd k) h
theorem o_anull (X : Stand p l e R s m args below meth c T locs cells slots) (hx : p.tables.exec = Jvm.exec) (hby : c.code = code)  (hd : own_at code pc (.aconst_null) 1 pc') 
    (h : own_Fin p.tables e below Rr (T.setTop (mkF m pc' Ls (.null :: st)))) : own_Fin p.tables e below Rr (T.setTop (mkF m pc Ls (st))) := by
  obtain ⟨hd, rfl⟩ := hd; subst hby
  exact own_pre (fun t k => XS.aconstNull X.here hx rfl hd k) h
theorem o_iadd (X : Stand p l e R s m args below meth c T locs cells slots) (hx : p.tables.exec = Jvm.exec) (hby : c.code = code) {x y : Int32} (hd : own_at code pc (.iadd) 1 pc') 
    (h : own_Fin p.tables e below Rr (T.setTop (mkF m pc' Ls (.int (x + y) :: st)))) : own_Fin p.tables e below Rr (T.setTop (mkF m pc Ls (.int y :: .int x :: st))) := by
  obtain ⟨hd, rfl⟩ := hd; subst hby
  exact own_pre (fun t k => XS.iadd X.here hx rfl hd rfl k) h
theorem o_ladd (X : Stand p l e R s m args below meth c T locs cells slots) (hx : p.tables.exec = Jvm.exec) (hby : c.code = code) {x y : Int64} (hd : own_at code pc (.ladd) 1 pc') 
    (h : own_Fin p.tables e below Rr (T.setTop (mkF m pc' Ls (.long (x + y) :: st)))) : own_Fin p.tables e below Rr (T.setTop (mkF m pc Ls (.long y :: .long x :: st))) := by
  obtain ⟨hd, rfl⟩ := hd; subst hby
  exact own_pre (fun t k => XS.ladd X.here hx rfl hd rfl k) h
theorem o_isub (X : Stand p l e R s m args below meth c T locs cells slots) (hx : p.tables.exec = Jvm.exec) (hby : c.code = code) {x y : Int32} (hd : own_at code pc (.isub) 1 pc') 
    (h : own_Fin p.tables e below Rr (T.setTop (mkF m pc' Ls (.int (x - y) :: st)))) : own_Fin p.tables e below Rr (T.setTop (mkF m pc Ls (.int y :: .int x :: st))) := by
  obtain ⟨hd, rfl⟩ := hd; subst hby
  exact own_pre (fun t k => XS.isub X.here hx rfl hd rfl k) h
theorem o_lsub (X : Stand p l e R s m args below meth c T locs cells slots) (hx : p.tables.exec = Jvm.exec) (hby : c.code = code) {x y : Int64} (hd : own_at code pc (.lsub) 1 pc') 
    (h : own_Fin p.tables e below Rr (T.setTop (mkF m pc' Ls (.long (x - y) :: st)))) : own_Fin p.tables e below Rr (T.setTop (mkF m pc Ls (.long y :: .long x :: st))) := by
  obtain ⟨hd, rfl⟩ := hd; subst hby
  exact own_pre (fun t k => XS.lsub X.here hx rfl hd rfl k) h
theorem o_imul (X : Stand p l e R s m args below meth c T locs cells slots) (hx : p.tables.exec = Jvm.exec) (hby : c.code = code) {x y : Int32} (hd : own_at code pc (.imul) 1 pc') 
    (h : own_Fin p.tables e below Rr (T.setTop (mkF m pc' Ls (.int (x * y) :: st)))) : own_Fin p.tables e below Rr (T.setTop (mkF m pc Ls (.int y :: .int x :: st))) := by
  obtain ⟨hd, rfl⟩ := hd; subst hby
  exact own_pre (fun t k => XS.imul X.here hx rfl hd rfl k) h
theorem o_lmul (X : Stand p l e R s m args below meth c T locs cells slots) (hx : p.tables.exec = Jvm.exec) (hby : c.code = code) {x y : Int64} (hd : own_at code pc (.lmul) 1 pc') 
    (h : own_Fin p.tables e below Rr (T.setTop (mkF m pc' Ls (.long (x * y) :: st)))) : own_Fin p.tables e below Rr (T.setTop (mkF m pc Ls (.long y :: .long x :: st))) := by
  obtain ⟨hd, rfl⟩ := hd; subst hby
  exact own_pre (fun t k => XS.lmul X.here hx rfl hd rfl k) h
theorem o_iand (X : Stand p l e R s m args below meth c T locs cells slots) (hx : p.tables.exec = Jvm.exec) (hby : c.code = code) {x y : Int32} (hd : own_at code pc (.iand) 1 pc') 
    (h : own_Fin p.tables e below Rr (T.setTop (mkF m pc' Ls (.int (x &&& y) :: st)))) : own_Fin p.tables e below Rr (T.setTop (mkF m pc Ls (.int y :: .int x :: st))) := by
  obtain ⟨hd, rfl⟩ := hd; subst hby
  exact own_pre (fun t k => XS.iand X.here hx rfl hd rfl k) h
theorem o_land (X : Stand p l e R s m args below meth c T locs cells slots) (hx : p.tables.exec = Jvm.exec) (hby : c.code = code) {x y : Int64} (hd : own_at code pc (.land) 1 pc') 
    (h : own_Fin p.tables e below Rr (T.setTop (mkF m pc' Ls (.long (x &&& y) :: st)))) : own_Fin p.tables e below Rr (T.setTop (mkF m pc Ls (.long y :: .long x :: st))) := by
  obtain ⟨hd, rfl⟩ := hd; subst hby
  exact own_pre (fun t k => XS.land X.here hx rfl hd rfl k) h
theorem o_ior (X : Stand p l e R s m args below meth c T locs cells slots) (hx : p.tables.exec = Jvm.exec) (hby : c.code = code) {x y : Int32} (hd : own_at code pc (.ior) 1 pc') 
    (h : own_Fin p.tables e below Rr (T.setTop (mkF m pc' Ls (.int (x ||| y) :: st)))) : own_Fin p.tables e below Rr (T.setTop (mkF m pc Ls (.int y :: .int x :: st))) := by
  obtain ⟨hd, rfl⟩ := hd; subst hby
  exact own_pre (fun t k => XS.ior X.here hx rfl hd rfl k) h
theorem o_lor (X : Stand p l e R s m args below meth c T locs cells slots) (hx : p.tables.exec = Jvm.exec) (hby : c.code = code) {x y : Int64} (hd : own_at code pc (.lor) 1 pc') 
    (h : own_Fin p.tables e below Rr (T.setTop (mkF m pc' Ls (.long (x ||| y) :: st)))) : own_Fin p.tables e below Rr (T.setTop (mkF m pc Ls (.long y :: .long x :: st))) := by
  obtain ⟨hd, rfl⟩ := hd; subst hby
  exact own_pre (fun t k => XS.lor X.here hx rfl hd rfl k) h
theorem o_ixor (X : Stand p l e R s m args below meth c T locs cells slots) (hx : p.tables.exec = Jvm.exec) (hby : c.code = code) {x y : Int32} (hd : own_at code pc (.ixor) 1 pc') 
    (h : own_Fin p.tables e below Rr (T.setTop (mkF m pc' Ls (.int (x ^^^ y) :: st)))) : own_Fin p.tables e below Rr (T.setTop (mkF m pc Ls (.int y :: .int x :: st))) := by
  obtain ⟨hd, rfl⟩ := hd; subst hby
  exact own_pre (fun t k => XS.ixor X.here hx rfl hd rfl k) h
theorem o_lxor (X : Stand p l e R s m args below meth c T locs cells slots) (hx : p.tables.exec = Jvm.exec) (hby : c.code = code) {x y : Int64} (hd : own_at code pc (.lxor) 1 pc') 
    (h : own_Fin p.tables e below Rr (T.setTop (mkF m pc' Ls (.long (x ^^^ y) :: st)))) : own_Fin p.tables e below Rr (T.setTop (mkF m pc Ls (.long y :: .long x :: st))) := by
  obtain ⟨hd, rfl⟩ := hd; subst hby
  exact own_pre (fun t k => XS.lxor X.here hx rfl hd rfl k) h
theorem o_ishl (X : Stand p l e R s m args below meth c T locs cells slots) (hx : p.tables.exec = Jvm.exec) (hby : c.code = code) {x y : Int32} (hd : own_at code pc (.ishl) 1 pc') 
    (h : own_Fin p.tables e below Rr (T.setTop (mkF m pc' Ls (.int (x <<< (y &&& 31)) :: st)))) : own_Fin p.tables e below Rr (T.setTop (mkF m pc Ls (.int y :: .int x :: st))) := by
  obtain ⟨hd, rfl⟩ := hd; subst hby
  exact own_pre (fun t k => XS.ishl X.here hx rfl hd rfl k) h
theorem o_ishr (X : Stand p l e R s m args below meth c T locs cells slots) (hx : p.tables.exec = Jvm.exec) (hby : c.code = code) {x y : Int32} (hd : own_at code pc (.ishr) 1 pc') 
    (h : own_Fin p.tables e below Rr (T.setTop (mkF m pc' Ls (.int (x >>> (y &&& 31)) :: st)))) : own_Fin p.tables e below Rr (T.setTop (mkF m pc Ls (.int y :: .int x :: st))) := by
  obtain ⟨hd, rfl⟩ := hd; subst hby
  exact own_pre (fun t k => XS.ishr X.here hx rfl hd rfl k) h
theorem o_iushr (X : Stand p l e R s m args below meth c T locs cells slots) (hx : p.tables.exec = Jvm.exec) (hby : c.code = code) {x y : Int32} (hd : own_at code pc (.iushr) 1 pc') 
    (h : own_Fin p.tables e below Rr (T.setTop (mkF m pc' Ls (.int ((x.toUInt32 >>> (y &&& 31).toUInt32).toInt32) :: st)))) : own_Fin p.tables e below Rr (T.setTop (mkF m pc Ls (.int y :: .int x :: st))) := by
  obtain ⟨hd, rfl⟩ := hd; subst hby
  exact own_pre (fun t k => XS.iushr X.here hx rfl hd rfl k) h
theorem o_lshl (X : Stand p l e R s m args below meth c T locs cells slots) (hx : p.tables.exec = Jvm.exec) (hby : c.code = code) {x : Int64} {y : Int32} (hd : own_at code pc (.lshl) 1 pc') 
    (h : own_Fin p.tables e below Rr (T.setTop (mkF m pc' Ls (.long (x <<< (y &&& 0x3f).toInt64) :: st)))) : own_Fin p.tables e below Rr (T.setTop (mkF m pc Ls (.int y :: .long x :: st))) := by
  obtain ⟨hd, rfl⟩ := hd; subst hby
  exact own_pre (fun t k => XS.lshl X.here hx rfl hd rfl k) h
theorem o_lshr (X : Stand p l e R s m args below meth c T locs cells slots) (hx : p.tables.exec = Jvm.exec) (hby : c.code = code) {x : Int64} {y : Int32} (hd : own_at code pc (.lshr) 1 pc') 
    (h : own_Fin p.tables e below Rr (T.setTop (mkF m pc' Ls (.long (x >>> (y &&& 0x3f).toInt64) :: st)))) : own_Fin p.tables e below Rr (T.setTop (mkF m pc Ls (.int y :: .long x :: st))) := by
  obtain ⟨hd, rfl⟩ := hd; subst hby
  exact own_pre (fun t k => XS.lshr X.here hx rfl hd rfl k) h
theorem o_lushr (X : Stand p l e R s m args below meth c T locs cells slots) (hx : p.tables.exec = Jvm.exec) (hby : c.code = code) {x : Int64} {y : Int32} (hd : own_at code pc (.lushr) 1 pc') 
    (h : own_Fin p.tables e below Rr (T.setTop (mkF m pc' Ls (.long ((x.toUInt64 >>> (y &&& 0x3f).toInt64.toUInt64).toInt64) :: st)))) : own_Fin p.tables e below Rr (T.setTop (mkF m pc Ls (.int y :: .long x :: st))) := by
  obtain ⟨hd, rfl⟩ := hd; subst hby
  exact own_pre (fun t k => XS.lushr X.here hx rfl hd rfl k) h
theorem o_ineg (X : Stand p l e R s m args below meth c T locs cells slots) (hx : p.tables.exec = Jvm.exec) (hby : c.code = code) {x : Int32} (hd : own_at code pc (.ineg) 1 pc') 
    (h : own_Fin p.tables e below Rr (T.setTop (mkF m pc' Ls (.int (-x) :: st)))) : own_Fin p.tables e below Rr (T.setTop (mkF m pc Ls (.int x :: st))) := by
  obtain ⟨hd, rfl⟩ := hd; subst hby
  exact own_pre (fun t k => XS.ineg X.here hx rfl hd rfl k) h
theorem o_lneg (X : Stand p l e R s m args below meth c T locs cells slots) (hx : p.tables.exec = Jvm.exec) (hby : c.code = code) {x : Int64} (hd : own_at code pc (.lneg) 1 pc') 
    (h : own_Fin p.tables e below Rr (T.setTop (mkF m pc' Ls (.long (-x) :: st)))) : own_Fin p.tables e below Rr (T.setTop (mkF m pc Ls (.long x :: st))) := by
  obtain ⟨hd, rfl⟩ := hd; subst hby
  exact own_pre (fun t k => XS.lneg X.here hx rfl hd rfl k) h
theorem o_i2l (X : Stand p l e R s m args below meth c T locs cells slots) (hx : p.tables.exec = Jvm.exec) (hby : c.code = code) {x : Int32} (hd : own_at code pc (.i2l) 1 pc') 
    (h : own_Fin p.tables e below Rr (T.setTop (mkF m pc' Ls (.long (x.toInt64) :: st)))) : own_Fin p.tables e below Rr (T.setTop (mkF m pc Ls (.int x :: st))) := by
  obtain ⟨hd, rfl⟩ := hd; subst hby
  exact own_pre (fun t k => XS.i2l X.here hx rfl hd rfl k) h
theorem o_l2i (X : Stand p l e R s m args below meth c T locs cells slots) (hx : p.tables.exec = Jvm.exec) (hby : c.code = code) {x : Int64} (hd : own_at code pc (.l2i) 1 pc') 
    (h : own_Fin p.tables e below Rr (T.setTop (mkF m pc' Ls (.int (x.toInt32) :: st)))) : own_Fin p.tables e below Rr (T.setTop (mkF m pc Ls (.long x :: st))) := by
  obtain ⟨hd, rfl⟩ := hd; subst hby
  exact own_pre (fun t k => XS.l2i X.here hx rfl hd rfl k) h
theorem o_i2b (X : Stand p l e R s m args below meth c T locs cells slots) (hx : p.tables.exec = Jvm.exec) (hby : c.code = code) {x : Int32} (hd : own_at code pc (.i2b) 1 pc') 
    (h : own_Fin p.tables e below Rr (T.setTop (mkF m pc' Ls (.int (x.toInt8.toInt32) :: st)))) : own_Fin p.tables e below Rr (T.setTop (mkF m pc Ls (.int x :: st))) := by
  obtain ⟨hd, rfl⟩ := hd; subst hby
  exact own_pre (fun t k => XS.i2b X.here hx rfl hd rfl k) h
theorem o_i2s (X : Stand p l e R s m args below meth c T locs cells slots) (hx : p.tables.exec = Jvm.exec) (hby : c.code = code) {x : Int32} (hd : own_at code pc (.i2s) 1 pc') 
    (h : own_Fin p.tables e below Rr (T.setTop (mkF m pc' Ls (.int (x.toInt16.toInt32) :: st)))) : own_Fin p.tables e below Rr (T.setTop (mkF m pc Ls (.int x :: st))) := by
  obtain ⟨hd, rfl⟩ := hd; subst hby
  exact own_pre (fun t k => XS.i2s X.here hx rfl hd rfl k) h
theorem o_i2c (X : Stand p l e R s m args below meth c T locs cells slots) (hx : p.tables.exec = Jvm.exec) (hby : c.code = code) {x : Int32} (hd : own_at code pc (.i2c) 1 pc') 
    (h : own_Fin p.tables e below Rr (T.setTop (mkF m pc' Ls (.int (x.toUInt32.toUInt16.toUInt32.toInt32) :: st)))) : own_Fin p.tables e below Rr (T.setTop (mkF m pc Ls (.int x :: st))) := by
  obtain ⟨hd, rfl⟩ := hd; subst hby
  exact own_pre (fun t k => XS.i2c X.here hx rfl hd rfl k) h
theorem o_idiv (X : Stand p l e R s m args below meth c T locs cells slots) (hx : p.tables.exec = Jvm.exec) (hby : c.code = code) {x y : Int32} (hd : own_at code pc (.idiv) 1 pc') (hy : y ≠ 0)
    (h : own_Fin p.tables e below Rr (T.setTop (mkF m pc' Ls (.int (x / y) :: st)))) : own_Fin p.tables e below Rr (T.setTop (mkF m pc Ls (.int y :: .int x :: st))) := by
  obtain ⟨hd, rfl⟩ := hd; subst hby
  exact own_pre (fun t k => XS.idiv X.here hx rfl hd rfl hy k) h
theorem o_ldiv (X : Stand p l e R s m args below meth c T locs cells slots) (hx : p.tables.exec = Jvm.exec) (hby : c.code = code) {x y : Int64} (hd : own_at code pc (.ldiv) 1 pc') (hy : y ≠ 0)
    (h : own_Fin p.tables e below Rr (T.setTop (mkF m pc' Ls (.long (x / y) :: st)))) : own_Fin p.tables e below Rr (T.setTop (mkF m pc Ls (.long y :: .long x :: st))) := by
  obtain ⟨hd, rfl⟩ := hd; subst hby
  exact own_pre (fun t k => XS.ldiv X.here hx rfl hd rfl hy k) h
theorem o_irem (X : Stand p l e R s m args below meth c T locs cells slots) (hx : p.tables.exec = Jvm.exec) (hby : c.code = code) {x y : Int32} (hd : own_at code pc (.irem) 1 pc') (hy : y ≠ 0)
    (h : own_Fin p.tables e below Rr (T.setTop (mkF m pc' Ls (.int (x % y) :: st)))) : own_Fin p.tables e below Rr (T.setTop (mkF m pc Ls (.int y :: .int x :: st))) := by
  obtain ⟨hd, rfl⟩ := hd; subst hby
  exact own_pre (fun t k => iremM X hx rfl hd rfl hy k) h
theorem o_lcmp (X : Stand p l e R s m args below meth c T locs cells slots) (hx : p.tables.exec = Jvm.exec) (hby : c.code = code) {x y : Int64} (hd : own_at code pc (.lcmp) 1 pc') 
    (h : own_Fin p.tables e below Rr (T.setTop (mkF m pc' Ls (.int (lcmpW x y) :: st)))) : own_Fin p.tables e below Rr (T.setTop (mkF m pc Ls (.long y :: .long x :: st))) := by
  obtain ⟨hd, rfl⟩ := hd; subst hby
  exact own_pre (fun t k => XS.lcmp X.here hx rfl hd rfl k) h
theorem o_iinc (X : Stand p l e R s m args below meth c T locs cells slots) (hx : p.tables.exec = Jvm.exec) (hby : c.code = code) {k : Nat} {i : Int} {x : Int32} {l' : Array Slot} (hd : own_at code pc (.iinc k i) 3 pc') (hl : Ls[k]? = some (.val (.int x))) (hl' : storeLocals Ls k (.int (x + Int32.ofInt i)) = some l')
    (h : own_Fin p.tables e below Rr (T.setTop (mkF m pc' l' (st)))) : own_Fin p.tables e below Rr (T.setTop (mkF m pc Ls (st))) := by
  obtain ⟨hd, rfl⟩ := hd; subst hby
  exact own_pre (fun t k => XS.iinc X.here hx rfl hd hl hl' k) h
theorem o_dup (X : Stand p l e R s m args below meth c T locs cells slots) (hx : p.tables.exec = Jvm.exec) (hby : c.code = code) {v : Value} (hd : own_at code pc (.dup) 1 pc') (hv : v.category = 1)
    (h : own_Fin p.tables e below Rr (T.setTop (mkF m pc' Ls (v :: v :: st)))) : own_Fin p.tables e below Rr (T.setTop (mkF m pc Ls (v :: st))) := by
  obtain ⟨hd, rfl⟩ := hd; subst hby
  exact own_pre (fun t k => XS.dup X.here hx rfl hd rfl hv k) h
theorem o_pop (X : Stand p l e R s m args below meth c T locs cells slots) (hx : p.tables.exec = Jvm.exec) (hby : c.code = code) {v : Value} (hd : own_at code pc (.pop) 1 pc') (hv : v.category = 1)
    (h : own_Fin p.tables e below Rr (T.setTop (mkF m pc' Ls (st)))) : own_Fin p.tables e below Rr (T.setTop (mkF m pc Ls (v :: st))) := by
  obtain ⟨hd, rfl⟩ := hd; subst hby
  exact own_pre (fun t k => XS.pop X.here hx rfl hd rfl hv k) h
theorem o_dupX1 (X : Stand p l e R s m args below meth c T locs cells slots) (hx : p.tables.exec = Jvm.exec) (hby : c.code = code) {v w : Value} (hd : own_at code pc (.dup_x1) 1 pc') (hv : v.category = 1) (hw : w.category = 1)
    (h : own_Fin p.tables e below Rr (T.setTop (mkF m pc' Ls (v :: w :: v :: st)))) : own_Fin p.tables e below Rr (T.setTop (mkF m pc Ls (v :: w :: st))) := by
  obtain ⟨hd, rfl⟩ := hd; subst hby
  exact own_pre (fun t k => XS.dupX1 X.here hx rfl hd rfl hv hw k) h
theorem o_goto (X : Stand p l e R s m args below meth c T locs cells slots) (hx : p.tables.exec = Jvm.exec) (hby : c.code = code) {o : Int} {q : Nat} (hd : own_at code pc (.goto o) 3 pc') (ho : 0 ≤ (pc : Int) + o) (hp : ((pc : Int) + o).toNat = q)
    (h : own_Fin p.tables e below Rr (T.setTop (mkF m q Ls st))) : own_Fin p.tables e below Rr (T.setTop (mkF m pc Ls st)) := by
  obtain ⟨hd, rfl⟩ := hd; subst hby
  exact own_pre (fun t k => XS.goto X.here hx rfl (pc0 := pc) (pc' := q) rfl hd ho hp k) h
theorem o_ifY (X : Stand p l e R s m args below meth c T locs cells slots) (hx : p.tables.exec = Jvm.exec) (hby : c.code = code) {cd : ClassFile.Cond} {o : Int} {x : Int32} {q : Nat} (hd : own_at code pc (.ifCond cd o) 3 pc') (hc : ifCond.holds cd x = true) (ho : 0 ≤ (pc : Int) + o) (hp : ((pc : Int) + o).toNat = q)
    (h : own_Fin p.tables e below Rr (T.setTop (mkF m q Ls st))) : own_Fin p.tables e below Rr (T.setTop (mkF m pc Ls (.int x :: st))) := by
  obtain ⟨hd, rfl⟩ := hd; subst hby
  exact own_pre (fun t k => XS.ifYes X.here hx rfl (pc0 := pc) (pc' := q) rfl hd rfl hc ho hp k) h
theorem o_ifN (X : Stand p l e R s m args below meth c T locs cells slots) (hx : p.tables.exec = Jvm.exec) (hby : c.code = code) {cd : ClassFile.Cond} {o : Int} {x : Int32} (hd : own_at code pc (.ifCond cd o) 3 pc') (hc : ifCond.holds cd x = false)
    (h : own_Fin p.tables e below Rr (T.setTop (mkF m pc' Ls st))) : own_Fin p.tables e below Rr (T.setTop (mkF m pc Ls (.int x :: st))) := by
  obtain ⟨hd, rfl⟩ := hd; subst hby
  exact own_pre (fun t k => XS.ifNo X.here hx rfl hd rfl hc k) h
theorem o_icmpY (X : Stand p l e R s m args below meth c T locs cells slots) (hx : p.tables.exec = Jvm.exec) (hby : c.code = code) {cd : ClassFile.Cond} {o : Int} {x y : Int32} {q : Nat} (hd : own_at code pc (.if_icmp cd o) 3 pc') (hc : if_icmp.holds cd x y = true) (ho : 0 ≤ (pc : Int) + o) (hp : ((pc : Int) + o).toNat = q)
    (h : own_Fin p.tables e below Rr (T.setTop (mkF m q Ls st))) : own_Fin p.tables e below Rr (T.setTop (mkF m pc Ls (.int y :: .int x :: st))) := by
  obtain ⟨hd, rfl⟩ := hd; subst hby
  exact own_pre (fun t k => XS.icmpYes X.here hx rfl (pc0 := pc) (pc' := q) rfl hd rfl hc ho hp k) h
theorem o_icmpN (X : Stand p l e R s m args below meth c T locs cells slots) (hx : p.tables.exec = Jvm.exec) (hby : c.code = code) {cd : ClassFile.Cond} {o : Int} {x y : Int32} (hd : own_at code pc (.if_icmp cd o) 3 pc') (hc : if_icmp.holds cd x y = false)
    (h : own_Fin p.tables e below Rr (T.setTop (mkF m pc' Ls st))) : own_Fin p.tables e below Rr (T.setTop (mkF m pc Ls (.int y :: .int x :: st))) := by
  obtain ⟨hd, rfl⟩ := hd; subst hby
  exact own_pre (fun t k => XS.icmpNo X.here hx rfl hd rfl hc k) h
theorem o_ldc (X : Stand p l e R s m args below meth c T locs cells slots) (hx : p.tables.exec = Jvm.exec) (hby : c.code = code) {own : String} {index : Nat} {v : Int32} (hown : s.vm.findClass own = some m.cls) (hc : (Cond.constant own index v).before args s = true) (hd : own_at code pc (.ldc index) 2 pc')
    (h : own_Fin p.tables e below Rr (T.setTop (mkF m pc' Ls (.int v :: st)))) : own_Fin p.tables e below Rr (T.setTop (mkF m pc Ls st)) := by
  obtain ⟨hd, rfl⟩ := hd; subst hby
  exact own_pre (fun t k => X.ldcInt hx hown hc (g := mkF m pc Ls st) rfl hd t k) h
theorem o_ldc2 (X : Stand p l e R s m args below meth c T locs cells slots) (hx : p.tables.exec = Jvm.exec) (hby : c.code = code) {own : String} {index : Nat} {v : Int64} (hown : s.vm.findClass own = some m.cls) (hc : (Cond.constantLong own index v).before args s = true) (hd : own_at code pc (.ldc2_w index) 3 pc')
    (h : own_Fin p.tables e below Rr (T.setTop (mkF m pc' Ls (.long v :: st)))) : own_Fin p.tables e below Rr (T.setTop (mkF m pc Ls st)) := by
  obtain ⟨hd, rfl⟩ := hd; subst hby
  exact own_pre (fun t k => X.ldc2Long hx hown hc (g := mkF m pc Ls st) rfl hd t k) h
end Steps1

end New
end Jvm.RoadKit
namespace Jvm.Pilot.@@N@@
open Jvm Jvm.ClassFile Sem Op Lib Jvm.Free Jvm.Stand Jvm.LawKit Jvm.RoadKit Bundle Jvm.Pilot.@@N@@.Jvm.D
theorem own_wd {Z : State} {a0 : Array Value} (hw : ∀ d ∈ tables_1, d.before a0 Z = true) {i : Nat} {d : Jvm.Cond} (h : tables_1[i]? = some d) : d.before a0 Z = true := hw _ (List.mem_of_getElem? h)
def own_Q0 (n0 : Nat) (v : Option Value) (h : Heap) (L : List Loc) : Prop := v = some (.int 1) ∧ Fr n0 L
theorem D2_0 : own_at jdk_30_method_1_code 0 (.aload_n 0) 1 1 := ⟨by decide +kernel, rfl⟩
theorem D2_1 : own_at jdk_30_method_1_code 1 (.invokespecial 1) 3 4 := ⟨by decide +kernel, rfl⟩
theorem D2_4 : own_at jdk_30_method_1_code 4 (.return_) 1 5 := ⟨by decide +kernel, rfl⟩
theorem pn_java_lang_Record : plainName "java/lang/Record" = true := by first | (simp [plainName, overriddenIn]; done) | decide +kernel
theorem ef_rmR (m : MethodId) (a1 : Addr) : entryFrame m #[(.ref a1)] 1 = mkF m 0 #[.val (.ref a1)] [] := by first | (simp [entryFrame, mkF, argsToLocals, Value.category]; done) | rfl
set_option maxRecDepth 65536 in
set_option maxHeartbeats 40000000 in
theorem rmR (l : Launch) (Z : State) (a0 : Array Value) (hw : ∀ d ∈ tables_1, d.before a0 Z = true) (ws : List Jvm.Cond) (a1 : Addr)  (h0 : Heap) (n0 : Nat) (Z0 : n0 ≤ h0.size)  :
    MetFree l (⟨"java/lang/Record", "<init>", "()V"⟩ : MethodName) (head1 (Jvm.Cond.code (⟨"java/lang/Record", "<init>", "()V"⟩ : MethodName) jdk_30_method_1_code 1 none :: ws) ({ frames := 1, cells := 0, slots := 0, locals := 12 } : Room)) (fun a U => a = #[(.ref a1)] ∧ Z.Warmed39 U.vm ∧ U.heap = h0) (fun _ _ _ _ _ => True) (fun _ U o U' => ∃ v L, o = .returned v ∧ own_QV h0 n0 v U'.heap L ∧ FrameEnd U o U' L ({ frames := 1, cells := 0, slots := 0, locals := 12 } : Room).cells ({ frames := 1, cells := 0, slots := 0, locals := 12 } : Room).slots) := by
  refine MetFree.of_bodySF (plainFor_of_name pn_java_lang_Record) hisR ?_
  intro p e s m args below meth c s₁ Bd hml0 hP hK
  obtain ⟨rfl, hZ, hh⟩ := hP
  have hx := Bd.exec
  have hby := Bd.bytes
  have hml : c.maxLocals = 1 := hml0
  have hown : s.vm.findClass "java/lang/Record" = some m.cls := findClass_of_methodNamed Bd.named
  have hnm := (name_of_methodNamed Bd.named Bd.method).1
  have X0 : Stand p l e ({ frames := 1, cells := 0, slots := 0, locals := 12 } : Room) s m #[(.ref a1)] below meth c s₁ [] 0 0 := Stand.of_body Bd
  have e0 : s₁.heap = h0 := by rw [← hh, Bd.state]; rfl
  have N0 := Fr.nil n0
  refine own_start (ef_rmR m a1) ?_
  refine o_aloadN X0 hx hby D2_0 rfl rfl ?_
  obtain ⟨T1, X1, e1, st1⟩ := initO X0 hx hZ hown (own_wd hw (i := 21) rfl) (own_wd hw (i := 22) rfl) (own_wd hw (i := 23) rfl) e0 (g := (mkF m 1 #[.val (.ref a1)] [(.ref a1)])) rfl (by rw [hml]; rfl) rfl (hb hby D2_1.1) (by decide) (W := 0) (by show 2 * 0 + _ ≤ _; exact Nat.le_of_eq rfl) (by decide)
  refine own_pre (A' := T1.setTop (mkF m 4 #[.val (.ref a1)] [])) st1 ?_
  exact own_ret (v := none) X1 (fun h => by first | rfl | (rw [Bd.returns] at h; cases h)) (BodyLoose.notSynchronized Bd) (by decide) (by decide) (⟨rfl, N0, e1⟩) (fun fs hr => X1.returnOut hx Bd.returns (hb hby D2_4.1) hr)
def own_QI (Z : State) (a1 : Addr) (q0 q1 q2 q3 q4 q5 q6 q7 q8 q9 : Int64) (h0 : Heap) (n0 : Nat) (v : Option Value) (h : Heap) (L : List Loc) : Prop := v = none ∧ Fr n0 L ∧ Keep h0 h [a1] ∧ Exa Z h a1 "dev/twotier/CacheCounters" ∧ Fld Z h a1 "dev/twotier/CacheCounters" "localHits" "J" (.long q0) ∧ Fld Z h a1 "dev/twotier/CacheCounters" "localMisses" "J" (.long q1) ∧ Fld Z h a1 "dev/twotier/CacheCounters" "redisHits" "J" (.long q2) ∧ Fld Z h a1 "dev/twotier/CacheCounters" "redisMisses" "J" (.long q3) ∧ Fld Z h a1 "dev/twotier/CacheCounters" "puts" "J" (.long q4) ∧ Fld Z h a1 "dev/twotier/CacheCounters" "loadSuccesses" "J" (.long q5) ∧ Fld Z h a1 "dev/twotier/CacheCounters" "loadFailures" "J" (.long q6) ∧ Fld Z h a1 "dev/twotier/CacheCounters" "localEvictions" "J" (.long q7) ∧ Fld Z h a1 "dev/twotier/CacheCounters" "invalidations" "J" (.long q8) ∧ Fld Z h a1 "dev/twotier/CacheCounters" "redisErrors" "J" (.long q9)
theorem pd__40_41V : parseMethodDescriptor "()V" = some ⟨[], none⟩ := by decide +kernel
theorem D1_0 : own_at prog_3_method_1_code 0 (.aload_n 0) 1 1 := ⟨by decide +kernel, rfl⟩
theorem D1_1 : own_at prog_3_method_1_code 1 (.invokespecial 1) 3 4 := ⟨by decide +kernel, rfl⟩
theorem D1_4 : own_at prog_3_method_1_code 4 (.aload_n 0) 1 5 := ⟨by decide +kernel, rfl⟩
theorem D1_5 : own_at prog_3_method_1_code 5 (.lload_n 1) 1 6 := ⟨by decide +kernel, rfl⟩
theorem D1_6 : own_at prog_3_method_1_code 6 (.putfield 7) 3 9 := ⟨by decide +kernel, rfl⟩
theorem D1_9 : own_at prog_3_method_1_code 9 (.aload_n 0) 1 10 := ⟨by decide +kernel, rfl⟩
theorem D1_10 : own_at prog_3_method_1_code 10 (.lload_n 3) 1 11 := ⟨by decide +kernel, rfl⟩
theorem D1_11 : own_at prog_3_method_1_code 11 (.putfield 13) 3 14 := ⟨by decide +kernel, rfl⟩
theorem D1_14 : own_at prog_3_method_1_code 14 (.aload_n 0) 1 15 := ⟨by decide +kernel, rfl⟩
theorem D1_15 : own_at prog_3_method_1_code 15 (.lload 5) 2 17 := ⟨by decide +kernel, rfl⟩
theorem D1_17 : own_at prog_3_method_1_code 17 (.putfield 16) 3 20 := ⟨by decide +kernel, rfl⟩
theorem D1_20 : own_at prog_3_method_1_code 20 (.aload_n 0) 1 21 := ⟨by decide +kernel, rfl⟩
theorem D1_21 : own_at prog_3_method_1_code 21 (.lload 7) 2 23 := ⟨by decide +kernel, rfl⟩
theorem D1_23 : own_at prog_3_method_1_code 23 (.putfield 19) 3 26 := ⟨by decide +kernel, rfl⟩
theorem D1_26 : own_at prog_3_method_1_code 26 (.aload_n 0) 1 27 := ⟨by decide +kernel, rfl⟩
theorem D1_27 : own_at prog_3_method_1_code 27 (.lload 9) 2 29 := ⟨by decide +kernel, rfl⟩
theorem D1_29 : own_at prog_3_method_1_code 29 (.putfield 22) 3 32 := ⟨by decide +kernel, rfl⟩
theorem D1_32 : own_at prog_3_method_1_code 32 (.aload_n 0) 1 33 := ⟨by decide +kernel, rfl⟩
theorem D1_33 : own_at prog_3_method_1_code 33 (.lload 11) 2 35 := ⟨by decide +kernel, rfl⟩
theorem D1_35 : own_at prog_3_method_1_code 35 (.putfield 25) 3 38 := ⟨by decide +kernel, rfl⟩
theorem D1_38 : own_at prog_3_method_1_code 38 (.aload_n 0) 1 39 := ⟨by decide +kernel, rfl⟩
theorem D1_39 : own_at prog_3_method_1_code 39 (.lload 13) 2 41 := ⟨by decide +kernel, rfl⟩
theorem D1_41 : own_at prog_3_method_1_code 41 (.putfield 28) 3 44 := ⟨by decide +kernel, rfl⟩
theorem D1_44 : own_at prog_3_method_1_code 44 (.aload_n 0) 1 45 := ⟨by decide +kernel, rfl⟩
theorem D1_45 : own_at prog_3_method_1_code 45 (.lload 15) 2 47 := ⟨by decide +kernel, rfl⟩
theorem D1_47 : own_at prog_3_method_1_code 47 (.putfield 31) 3 50 := ⟨by decide +kernel, rfl⟩
theorem D1_50 : own_at prog_3_method_1_code 50 (.aload_n 0) 1 51 := ⟨by decide +kernel, rfl⟩
theorem D1_51 : own_at prog_3_method_1_code 51 (.lload 17) 2 53 := ⟨by decide +kernel, rfl⟩
theorem D1_53 : own_at prog_3_method_1_code 53 (.putfield 34) 3 56 := ⟨by decide +kernel, rfl⟩
theorem D1_56 : own_at prog_3_method_1_code 56 (.aload_n 0) 1 57 := ⟨by decide +kernel, rfl⟩
theorem D1_57 : own_at prog_3_method_1_code 57 (.lload 19) 2 59 := ⟨by decide +kernel, rfl⟩
theorem D1_59 : own_at prog_3_method_1_code 59 (.putfield 37) 3 62 := ⟨by decide +kernel, rfl⟩
theorem D1_62 : own_at prog_3_method_1_code 62 (.return_) 1 63 := ⟨by decide +kernel, rfl⟩
theorem pn_dev_twotier_CacheCounters : plainName "dev/twotier/CacheCounters" = true := by first | (simp [plainName, overriddenIn]; done) | decide +kernel
theorem ef_rmI (m : MethodId) (a1 : Addr) (q0 : Int64) (q1 : Int64) (q2 : Int64) (q3 : Int64) (q4 : Int64) (q5 : Int64) (q6 : Int64) (q7 : Int64) (q8 : Int64) (q9 : Int64) : entryFrame m #[(.ref a1), (.long q0), (.long q1), (.long q2), (.long q3), (.long q4), (.long q5), (.long q6), (.long q7), (.long q8), (.long q9)] 21 = mkF m 0 #[.val (.ref a1), .val (.long q0), .second, .val (.long q1), .second, .val (.long q2), .second, .val (.long q3), .second, .val (.long q4), .second, .val (.long q5), .second, .val (.long q6), .second, .val (.long q7), .second, .val (.long q8), .second, .val (.long q9), .second] [] := by first | (simp [entryFrame, mkF, argsToLocals, Value.category]; done) | rfl
set_option maxRecDepth 65536 in
set_option maxHeartbeats 40000000 in
theorem rmI (l : Launch) (Z : State) (a0 : Array Value) (hw : ∀ d ∈ tables_1, d.before a0 Z = true) (ws : List Jvm.Cond) (a1 : Addr) (q0 : Int64) (q1 : Int64) (q2 : Int64) (q3 : Int64) (q4 : Int64) (q5 : Int64) (q6 : Int64) (q7 : Int64) (q8 : Int64) (q9 : Int64) (u0 u1 u2 u3 u4 u5 u6 u7 u8 u9 : Value) (h0 : Heap) (n0 : Nat) (Z0 : n0 ≤ h0.size) (gn_a1 : n0 ≤ a1) (E_a1 : Exa Z h0 a1 "dev/twotier/CacheCounters") (F_localHits : Fld Z h0 a1 "dev/twotier/CacheCounters" "localHits" "J" u0) (F_localMisses : Fld Z h0 a1 "dev/twotier/CacheCounters" "localMisses" "J" u1) (F_redisHits : Fld Z h0 a1 "dev/twotier/CacheCounters" "redisHits" "J" u2) (F_redisMisses : Fld Z h0 a1 "dev/twotier/CacheCounters" "redisMisses" "J" u3) (F_puts : Fld Z h0 a1 "dev/twotier/CacheCounters" "puts" "J" u4) (F_loadSuccesses : Fld Z h0 a1 "dev/twotier/CacheCounters" "loadSuccesses" "J" u5) (F_loadFailures : Fld Z h0 a1 "dev/twotier/CacheCounters" "loadFailures" "J" u6) (F_localEvictions : Fld Z h0 a1 "dev/twotier/CacheCounters" "localEvictions" "J" u7) (F_invalidations : Fld Z h0 a1 "dev/twotier/CacheCounters" "invalidations" "J" u8) (F_redisErrors : Fld Z h0 a1 "dev/twotier/CacheCounters" "redisErrors" "J" u9) :
    MetFree l (⟨"dev/twotier/CacheCounters", "<init>", "(JJJJJJJJJJ)V"⟩ : MethodName) (head1 (Jvm.Cond.code (⟨"dev/twotier/CacheCounters", "<init>", "(JJJJJJJJJJ)V"⟩ : MethodName) prog_3_method_1_code 21 none :: ws) ({ frames := 2, cells := 0, slots := 0, locals := 24 } : Room)) (fun a U => a = #[(.ref a1), (.long q0), (.long q1), (.long q2), (.long q3), (.long q4), (.long q5), (.long q6), (.long q7), (.long q8), (.long q9)] ∧ Z.Warmed39 U.vm ∧ U.heap = h0) (fun _ _ _ _ _ => True) (fun _ U o U' => ∃ v L, o = .returned v ∧ own_QI Z a1 q0 q1 q2 q3 q4 q5 q6 q7 q8 q9 h0 n0 v U'.heap L ∧ FrameEnd U o U' L ({ frames := 2, cells := 0, slots := 0, locals := 24 } : Room).cells ({ frames := 2, cells := 0, slots := 0, locals := 24 } : Room).slots) := by
  refine MetFree.of_bodySF (plainFor_of_name pn_dev_twotier_CacheCounters) hisR ?_
  intro p e s m args below meth c s₁ Bd hml0 hP hK
  obtain ⟨rfl, hZ, hh⟩ := hP
  have hx := Bd.exec
  have hby := Bd.bytes
  have hml : c.maxLocals = 21 := hml0
  have hown : s.vm.findClass "dev/twotier/CacheCounters" = some m.cls := findClass_of_methodNamed Bd.named
  have hnm := (name_of_methodNamed Bd.named Bd.method).1
  have X0 : Stand p l e ({ frames := 2, cells := 0, slots := 0, locals := 24 } : Room) s m #[(.ref a1), (.long q0), (.long q1), (.long q2), (.long q3), (.long q4), (.long q5), (.long q6), (.long q7), (.long q8), (.long q9)] below meth c s₁ [] 0 0 := Stand.of_body Bd
  have e0 : s₁.heap = h0 := by rw [← hh, Bd.state]; rfl
  have N0 := Fr.nil n0
  refine own_start (ef_rmI m a1 q0 q1 q2 q3 q4 q5 q6 q7 q8 q9) ?_
  have lt_a1 := own_ltN E_a1.lt
  refine o_aloadN X0 hx hby D1_0 rfl rfl ?_
  obtain ⟨_, _, ⟨T1, L1, k1, n1⟩, -, X1, ⟨Lc1, hQ1, l1, y1, z1⟩, st1⟩ := X0.specialBack hx (y := (⟨"java/lang/Record", "<init>", "()V"⟩ : MethodName)) rfl hown (mvT hZ (own_wd hw (i := 16) rfl)) (mvT hZ (own_wd hw (i := 17) rfl)) (mvT hZ (own_wd hw (i := 20) rfl)) (by decide) (backOf (W := 0) (rmR l Z a0 hw [] a1  h0 n0 Z0 ) hZ (own_wd hw (i := 20) rfl) (own_wd hw (i := 19) rfl) (by decide) (by decide)) (g := (mkF m 1 #[.val (.ref a1), .val (.long q0), .second, .val (.long q1), .second, .val (.long q2), .second, .val (.long q3), .second, .val (.long q4), .second, .val (.long q5), .second, .val (.long q6), .second, .val (.long q7), .second, .val (.long q8), .second, .val (.long q9), .second] [(.ref a1)])) rfl (by rw [hml]; rfl) (Steps.refl _) (a := a1) (argsL := []) (rest := []) (lenOf pd__40_41V rfl) rfl (by show 2 * 0 + _ ≤ _; exact Nat.le_of_eq rfl) (hb hby D1_1.1) (fun _ _ => ⟨rfl, e0, (by decide : 0 + 0 ≤ _), (by decide : 0 + 0 ≤ _)⟩)
  dsimp only [Pt.U, Pt.locs, Pt.cells, Pt.slots] at X1 l1 y1 z1 st1 hQ1
  subst l1 y1 z1
  obtain ⟨rfl, N1q, e1⟩ := hQ1
  have N1 := Fr.app N0 N1q
  refine own_pre (A' := T1.setTop (mkF m 4 #[.val (.ref a1), .val (.long q0), .second, .val (.long q1), .second, .val (.long q2), .second, .val (.long q3), .second, .val (.long q4), .second, .val (.long q5), .second, .val (.long q6), .second, .val (.long q7), .second, .val (.long q8), .second, .val (.long q9), .second] [])) (fun t k => st1.trans k) ?_
  refine o_aloadN X1 hx hby D1_4 rfl rfl ?_
  refine o_lloadN X1 hx hby D1_5 rfl ?_
  obtain ⟨T2, h2, X2, e2, W2, st2⟩ := putF X1 hx hZ hown (host := "") (Or.inl (own_wd hw (i := 24) rfl)) Via.refl e1 F_localHits E_a1 (Or.inr ⟨(own_wd hw (i := 25) rfl), rfl, hnm⟩) (own_wd hw (i := 11) rfl) (ty := .long) (by decide) rfl rfl (g := (mkF m 6 #[.val (.ref a1), .val (.long q0), .second, .val (.long q1), .second, .val (.long q2), .second, .val (.long q3), .second, .val (.long q4), .second, .val (.long q5), .second, .val (.long q6), .second, .val (.long q7), .second, .val (.long q8), .second, .val (.long q9), .second] [(.long q0), (.ref a1)])) rfl rfl (hb hby D1_6.1)
  have Fw2 := F_localHits.same W2
  have sz2 := own_leN (Keep.of_wr W2).1
  have N2 := Fr.snoc X2 N1 gn_a1
  refine own_pre (A' := T2.setTop (mkF m 9 #[.val (.ref a1), .val (.long q0), .second, .val (.long q1), .second, .val (.long q2), .second, .val (.long q3), .second, .val (.long q4), .second, .val (.long q5), .second, .val (.long q6), .second, .val (.long q7), .second, .val (.long q8), .second, .val (.long q9), .second] [])) st2 ?_
  refine o_aloadN X2 hx hby D1_9 rfl rfl ?_
  refine o_lloadN X2 hx hby D1_10 rfl ?_
  have c4_F_a1_localMisses := (F_localMisses.other W2 (Or.inr (Jvm.RoadKit.slot_ne (Or.inr (own_wd hw (i := 27) rfl)) (Or.inr (own_wd hw (i := 25) rfl)) (by decide) (t := .long) (t' := .long) (by decide) (by decide))))
  have c5_E_a1 := (E_a1.wr W2)
  obtain ⟨T3, h3, X3, e3, W3, st3⟩ := putF X2 hx hZ hown (host := "") (Or.inl (own_wd hw (i := 26) rfl)) Via.refl e2 c4_F_a1_localMisses c5_E_a1 (Or.inr ⟨(own_wd hw (i := 27) rfl), rfl, hnm⟩) (own_wd hw (i := 11) rfl) (ty := .long) (by decide) rfl rfl (g := (mkF m 11 #[.val (.ref a1), .val (.long q0), .second, .val (.long q1), .second, .val (.long q2), .second, .val (.long q3), .second, .val (.long q4), .second, .val (.long q5), .second, .val (.long q6), .second, .val (.long q7), .second, .val (.long q8), .second, .val (.long q9), .second] [(.long q1), (.ref a1)])) rfl rfl (hb hby D1_11.1)
  have Fw3 := c4_F_a1_localMisses.same W3
  have sz3 := own_leN (Keep.of_wr W3).1
  have N3 := Fr.snoc X3 N2 gn_a1
  refine own_pre (A' := T3.setTop (mkF m 14 #[.val (.ref a1), .val (.long q0), .second, .val (.long q1), .second, .val (.long q2), .second, .val (.long q3), .second, .val (.long q4), .second, .val (.long q5), .second, .val (.long q6), .second, .val (.long q7), .second, .val (.long q8), .second, .val (.long q9), .second] [])) st3 ?_
  refine o_aloadN X3 hx hby D1_14 rfl rfl ?_
  refine o_lload X3 hx hby D1_15 rfl ?_
  have c7_F_a1_redisHits := ((F_redisHits.other W2 (Or.inr (Jvm.RoadKit.slot_ne (Or.inr (own_wd hw (i := 29) rfl)) (Or.inr (own_wd hw (i := 25) rfl)) (by decide) (t := .long) (t' := .long) (by decide) (by decide)))).other W3 (Or.inr (Jvm.RoadKit.slot_ne (Or.inr (own_wd hw (i := 29) rfl)) (Or.inr (own_wd hw (i := 27) rfl)) (by decide) (t := .long) (t' := .long) (by decide) (by decide))))
  have c8_E_a1 := (c5_E_a1.wr W3)
  obtain ⟨T6, h6, X6, e6, W6, st6⟩ := putF X3 hx hZ hown (host := "") (Or.inl (own_wd hw (i := 28) rfl)) Via.refl e3 c7_F_a1_redisHits c8_E_a1 (Or.inr ⟨(own_wd hw (i := 29) rfl), rfl, hnm⟩) (own_wd hw (i := 11) rfl) (ty := .long) (by decide) rfl rfl (g := (mkF m 17 #[.val (.ref a1), .val (.long q0), .second, .val (.long q1), .second, .val (.long q2), .second, .val (.long q3), .second, .val (.long q4), .second, .val (.long q5), .second, .val (.long q6), .second, .val (.long q7), .second, .val (.long q8), .second, .val (.long q9), .second] [(.long q2), (.ref a1)])) rfl rfl (hb hby D1_17.1)
  have Fw6 := c7_F_a1_redisHits.same W6
  have sz6 := own_leN (Keep.of_wr W6).1
  have N6 := Fr.snoc X6 N3 gn_a1
  refine own_pre (A' := T6.setTop (mkF m 20 #[.val (.ref a1), .val (.long q0), .second, .val (.long q1), .second, .val (.long q2), .second, .val (.long q3), .second, .val (.long q4), .second, .val (.long q5), .second, .val (.long q6), .second, .val (.long q7), .second, .val (.long q8), .second, .val (.long q9), .second] [])) st6 ?_
  refine o_aloadN X6 hx hby D1_20 rfl rfl ?_
  refine o_lload X6 hx hby D1_21 rfl ?_
  have c10_F_a1_redisMisses := (((F_redisMisses.other W2 (Or.inr (Jvm.RoadKit.slot_ne (Or.inr (own_wd hw (i := 31) rfl)) (Or.inr (own_wd hw (i := 25) rfl)) (by decide) (t := .long) (t' := .long) (by decide) (by decide)))).other W3 (Or.inr (Jvm.RoadKit.slot_ne (Or.inr (own_wd hw (i := 31) rfl)) (Or.inr (own_wd hw (i := 27) rfl)) (by decide) (t := .long) (t' := .long) (by decide) (by decide)))).other W6 (Or.inr (Jvm.RoadKit.slot_ne (Or.inr (own_wd hw (i := 31) rfl)) (Or.inr (own_wd hw (i := 29) rfl)) (by decide) (t := .long) (t' := .long) (by decide) (by decide))))
  have c11_E_a1 := (c8_E_a1.wr W6)
  obtain ⟨T9, h9, X9, e9, W9, st9⟩ := putF X6 hx hZ hown (host := "") (Or.inl (own_wd hw (i := 30) rfl)) Via.refl e6 c10_F_a1_redisMisses c11_E_a1 (Or.inr ⟨(own_wd hw (i := 31) rfl), rfl, hnm⟩) (own_wd hw (i := 11) rfl) (ty := .long) (by decide) rfl rfl (g := (mkF m 23 #[.val (.ref a1), .val (.long q0), .second, .val (.long q1), .second, .val (.long q2), .second, .val (.long q3), .second, .val (.long q4), .second, .val (.long q5), .second, .val (.long q6), .second, .val (.long q7), .second, .val (.long q8), .second, .val (.long q9), .second] [(.long q3), (.ref a1)])) rfl rfl (hb hby D1_23.1)
  have Fw9 := c10_F_a1_redisMisses.same W9
  have sz9 := own_leN (Keep.of_wr W9).1
  have N9 := Fr.snoc X9 N6 gn_a1
  refine own_pre (A' := T9.setTop (mkF m 26 #[.val (.ref a1), .val (.long q0), .second, .val (.long q1), .second, .val (.long q2), .second, .val (.long q3), .second, .val (.long q4), .second, .val (.long q5), .second, .val (.long q6), .second, .val (.long q7), .second, .val (.long q8), .second, .val (.long q9), .second] [])) st9 ?_
  refine o_aloadN X9 hx hby D1_26 rfl rfl ?_
  refine o_lload X9 hx hby D1_27 rfl ?_
  have c13_F_a1_puts := ((((F_puts.other W2 (Or.inr (Jvm.RoadKit.slot_ne (Or.inr (own_wd hw (i := 33) rfl)) (Or.inr (own_wd hw (i := 25) rfl)) (by decide) (t := .long) (t' := .long) (by decide) (by decide)))).other W3 (Or.inr (Jvm.RoadKit.slot_ne (Or.inr (own_wd hw (i := 33) rfl)) (Or.inr (own_wd hw (i := 27) rfl)) (by decide) (t := .long) (t' := .long) (by decide) (by decide)))).other W6 (Or.inr (Jvm.RoadKit.slot_ne (Or.inr (own_wd hw (i := 33) rfl)) (Or.inr (own_wd hw (i := 29) rfl)) (by decide) (t := .long) (t' := .long) (by decide) (by decide)))).other W9 (Or.inr (Jvm.RoadKit.slot_ne (Or.inr (own_wd hw (i := 33) rfl)) (Or.inr (own_wd hw (i := 31) rfl)) (by decide) (t := .long) (t' := .long) (by decide) (by decide))))
  have c14_E_a1 := (c11_E_a1.wr W9)
  obtain ⟨T12, h12, X12, e12, W12, st12⟩ := putF X9 hx hZ hown (host := "") (Or.inl (own_wd hw (i := 32) rfl)) Via.refl e9 c13_F_a1_puts c14_E_a1 (Or.inr ⟨(own_wd hw (i := 33) rfl), rfl, hnm⟩) (own_wd hw (i := 11) rfl) (ty := .long) (by decide) rfl rfl (g := (mkF m 29 #[.val (.ref a1), .val (.long q0), .second, .val (.long q1), .second, .val (.long q2), .second, .val (.long q3), .second, .val (.long q4), .second, .val (.long q5), .second, .val (.long q6), .second, .val (.long q7), .second, .val (.long q8), .second, .val (.long q9), .second] [(.long q4), (.ref a1)])) rfl rfl (hb hby D1_29.1)
  have Fw12 := c13_F_a1_puts.same W12
  have sz12 := own_leN (Keep.of_wr W12).1
  have N12 := Fr.snoc X12 N9 gn_a1
  refine own_pre (A' := T12.setTop (mkF m 32 #[.val (.ref a1), .val (.long q0), .second, .val (.long q1), .second, .val (.long q2), .second, .val (.long q3), .second, .val (.long q4), .second, .val (.long q5), .second, .val (.long q6), .second, .val (.long q7), .second, .val (.long q8), .second, .val (.long q9), .second] [])) st12 ?_
  refine o_aloadN X12 hx hby D1_32 rfl rfl ?_
  refine o_lload X12 hx hby D1_33 rfl ?_
  have c16_F_a1_loadSuccesses := (((((F_loadSuccesses.other W2 (Or.inr (Jvm.RoadKit.slot_ne (Or.inr (own_wd hw (i := 35) rfl)) (Or.inr (own_wd hw (i := 25) rfl)) (by decide) (t := .long) (t' := .long) (by decide) (by decide)))).other W3 (Or.inr (Jvm.RoadKit.slot_ne (Or.inr (own_wd hw (i := 35) rfl)) (Or.inr (own_wd hw (i := 27) rfl)) (by decide) (t := .long) (t' := .long) (by decide) (by decide)))).other W6 (Or.inr (Jvm.RoadKit.slot_ne (Or.inr (own_wd hw (i := 35) rfl)) (Or.inr (own_wd hw (i := 29) rfl)) (by decide) (t := .long) (t' := .long) (by decide) (by decide)))).other W9 (Or.inr (Jvm.RoadKit.slot_ne (Or.inr (own_wd hw (i := 35) rfl)) (Or.inr (own_wd hw (i := 31) rfl)) (by decide) (t := .long) (t' := .long) (by decide) (by decide)))).other W12 (Or.inr (Jvm.RoadKit.slot_ne (Or.inr (own_wd hw (i := 35) rfl)) (Or.inr (own_wd hw (i := 33) rfl)) (by decide) (t := .long) (t' := .long) (by decide) (by decide))))
  have c17_E_a1 := (c14_E_a1.wr W12)
  obtain ⟨T15, h15, X15, e15, W15, st15⟩ := putF X12 hx hZ hown (host := "") (Or.inl (own_wd hw (i := 34) rfl)) Via.refl e12 c16_F_a1_loadSuccesses c17_E_a1 (Or.inr ⟨(own_wd hw (i := 35) rfl), rfl, hnm⟩) (own_wd hw (i := 11) rfl) (ty := .long) (by decide) rfl rfl (g := (mkF m 35 #[.val (.ref a1), .val (.long q0), .second, .val (.long q1), .second, .val (.long q2), .second, .val (.long q3), .second, .val (.long q4), .second, .val (.long q5), .second, .val (.long q6), .second, .val (.long q7), .second, .val (.long q8), .second, .val (.long q9), .second] [(.long q5), (.ref a1)])) rfl rfl (hb hby D1_35.1)
  have Fw15 := c16_F_a1_loadSuccesses.same W15
  have sz15 := own_leN (Keep.of_wr W15).1
  have N15 := Fr.snoc X15 N12 gn_a1
  refine own_pre (A' := T15.setTop (mkF m 38 #[.val (.ref a1), .val (.long q0), .second, .val (.long q1), .second, .val (.long q2), .second, .val (.long q3), .second, .val (.long q4), .second, .val (.long q5), .second, .val (.long q6), .second, .val (.long q7), .second, .val (.long q8), .second, .val (.long q9), .second] [])) st15 ?_
  refine o_aloadN X15 hx hby D1_38 rfl rfl ?_
  refine o_lload X15 hx hby D1_39 rfl ?_
  have c19_F_a1_loadFailures := ((((((F_loadFailures.other W2 (Or.inr (Jvm.RoadKit.slot_ne (Or.inr (own_wd hw (i := 37) rfl)) (Or.inr (own_wd hw (i := 25) rfl)) (by decide) (t := .long) (t' := .long) (by decide) (by decide)))).other W3 (Or.inr (Jvm.RoadKit.slot_ne (Or.inr (own_wd hw (i := 37) rfl)) (Or.inr (own_wd hw (i := 27) rfl)) (by decide) (t := .long) (t' := .long) (by decide) (by decide)))).other W6 (Or.inr (Jvm.RoadKit.slot_ne (Or.inr (own_wd hw (i := 37) rfl)) (Or.inr (own_wd hw (i := 29) rfl)) (by decide) (t := .long) (t' := .long) (by decide) (by decide)))).other W9 (Or.inr (Jvm.RoadKit.slot_ne (Or.inr (own_wd hw (i := 37) rfl)) (Or.inr (own_wd hw (i := 31) rfl)) (by decide) (t := .long) (t' := .long) (by decide) (by decide)))).other W12 (Or.inr (Jvm.RoadKit.slot_ne (Or.inr (own_wd hw (i := 37) rfl)) (Or.inr (own_wd hw (i := 33) rfl)) (by decide) (t := .long) (t' := .long) (by decide) (by decide)))).other W15 (Or.inr (Jvm.RoadKit.slot_ne (Or.inr (own_wd hw (i := 37) rfl)) (Or.inr (own_wd hw (i := 35) rfl)) (by decide) (t := .long) (t' := .long) (by decide) (by decide))))
  have c20_E_a1 := (c17_E_a1.wr W15)
  obtain ⟨T18, h18, X18, e18, W18, st18⟩ := putF X15 hx hZ hown (host := "") (Or.inl (own_wd hw (i := 36) rfl)) Via.refl e15 c19_F_a1_loadFailures c20_E_a1 (Or.inr ⟨(own_wd hw (i := 37) rfl), rfl, hnm⟩) (own_wd hw (i := 11) rfl) (ty := .long) (by decide) rfl rfl (g := (mkF m 41 #[.val (.ref a1), .val (.long q0), .second, .val (.long q1), .second, .val (.long q2), .second, .val (.long q3), .second, .val (.long q4), .second, .val (.long q5), .second, .val (.long q6), .second, .val (.long q7), .second, .val (.long q8), .second, .val (.long q9), .second] [(.long q6), (.ref a1)])) rfl rfl (hb hby D1_41.1)
  have Fw18 := c19_F_a1_loadFailures.same W18
  have sz18 := own_leN (Keep.of_wr W18).1
  have N18 := Fr.snoc X18 N15 gn_a1
  refine own_pre (A' := T18.setTop (mkF m 44 #[.val (.ref a1), .val (.long q0), .second, .val (.long q1), .second, .val (.long q2), .second, .val (.long q3), .second, .val (.long q4), .second, .val (.long q5), .second, .val (.long q6), .second, .val (.long q7), .second, .val (.long q8), .second, .val (.long q9), .second] [])) st18 ?_
  refine o_aloadN X18 hx hby D1_44 rfl rfl ?_
  refine o_lload X18 hx hby D1_45 rfl ?_
  have c22_F_a1_localEvictions := (((((((F_localEvictions.other W2 (Or.inr (Jvm.RoadKit.slot_ne (Or.inr (own_wd hw (i := 39) rfl)) (Or.inr (own_wd hw (i := 25) rfl)) (by decide) (t := .long) (t' := .long) (by decide) (by decide)))).other W3 (Or.inr (Jvm.RoadKit.slot_ne (Or.inr (own_wd hw (i := 39) rfl)) (Or.inr (own_wd hw (i := 27) rfl)) (by decide) (t := .long) (t' := .long) (by decide) (by decide)))).other W6 (Or.inr (Jvm.RoadKit.slot_ne (Or.inr (own_wd hw (i := 39) rfl)) (Or.inr (own_wd hw (i := 29) rfl)) (by decide) (t := .long) (t' := .long) (by decide) (by decide)))).other W9 (Or.inr (Jvm.RoadKit.slot_ne (Or.inr (own_wd hw (i := 39) rfl)) (Or.inr (own_wd hw (i := 31) rfl)) (by decide) (t := .long) (t' := .long) (by decide) (by decide)))).other W12 (Or.inr (Jvm.RoadKit.slot_ne (Or.inr (own_wd hw (i := 39) rfl)) (Or.inr (own_wd hw (i := 33) rfl)) (by decide) (t := .long) (t' := .long) (by decide) (by decide)))).other W15 (Or.inr (Jvm.RoadKit.slot_ne (Or.inr (own_wd hw (i := 39) rfl)) (Or.inr (own_wd hw (i := 35) rfl)) (by decide) (t := .long) (t' := .long) (by decide) (by decide)))).other W18 (Or.inr (Jvm.RoadKit.slot_ne (Or.inr (own_wd hw (i := 39) rfl)) (Or.inr (own_wd hw (i := 37) rfl)) (by decide) (t := .long) (t' := .long) (by decide) (by decide))))
  have c23_E_a1 := (c20_E_a1.wr W18)
  obtain ⟨T21, h21, X21, e21, W21, st21⟩ := putF X18 hx hZ hown (host := "") (Or.inl (own_wd hw (i := 38) rfl)) Via.refl e18 c22_F_a1_localEvictions c23_E_a1 (Or.inr ⟨(own_wd hw (i := 39) rfl), rfl, hnm⟩) (own_wd hw (i := 11) rfl) (ty := .long) (by decide) rfl rfl (g := (mkF m 47 #[.val (.ref a1), .val (.long q0), .second, .val (.long q1), .second, .val (.long q2), .second, .val (.long q3), .second, .val (.long q4), .second, .val (.long q5), .second, .val (.long q6), .second, .val (.long q7), .second, .val (.long q8), .second, .val (.long q9), .second] [(.long q7), (.ref a1)])) rfl rfl (hb hby D1_47.1)
  have Fw21 := c22_F_a1_localEvictions.same W21
  have sz21 := own_leN (Keep.of_wr W21).1
  have N21 := Fr.snoc X21 N18 gn_a1
  refine own_pre (A' := T21.setTop (mkF m 50 #[.val (.ref a1), .val (.long q0), .second, .val (.long q1), .second, .val (.long q2), .second, .val (.long q3), .second, .val (.long q4), .second, .val (.long q5), .second, .val (.long q6), .second, .val (.long q7), .second, .val (.long q8), .second, .val (.long q9), .second] [])) st21 ?_
  refine o_aloadN X21 hx hby D1_50 rfl rfl ?_
  refine o_lload X21 hx hby D1_51 rfl ?_
  have c25_F_a1_invalidations := ((((((((F_invalidations.other W2 (Or.inr (Jvm.RoadKit.slot_ne (Or.inr (own_wd hw (i := 41) rfl)) (Or.inr (own_wd hw (i := 25) rfl)) (by decide) (t := .long) (t' := .long) (by decide) (by decide)))).other W3 (Or.inr (Jvm.RoadKit.slot_ne (Or.inr (own_wd hw (i := 41) rfl)) (Or.inr (own_wd hw (i := 27) rfl)) (by decide) (t := .long) (t' := .long) (by decide) (by decide)))).other W6 (Or.inr (Jvm.RoadKit.slot_ne (Or.inr (own_wd hw (i := 41) rfl)) (Or.inr (own_wd hw (i := 29) rfl)) (by decide) (t := .long) (t' := .long) (by decide) (by decide)))).other W9 (Or.inr (Jvm.RoadKit.slot_ne (Or.inr (own_wd hw (i := 41) rfl)) (Or.inr (own_wd hw (i := 31) rfl)) (by decide) (t := .long) (t' := .long) (by decide) (by decide)))).other W12 (Or.inr (Jvm.RoadKit.slot_ne (Or.inr (own_wd hw (i := 41) rfl)) (Or.inr (own_wd hw (i := 33) rfl)) (by decide) (t := .long) (t' := .long) (by decide) (by decide)))).other W15 (Or.inr (Jvm.RoadKit.slot_ne (Or.inr (own_wd hw (i := 41) rfl)) (Or.inr (own_wd hw (i := 35) rfl)) (by decide) (t := .long) (t' := .long) (by decide) (by decide)))).other W18 (Or.inr (Jvm.RoadKit.slot_ne (Or.inr (own_wd hw (i := 41) rfl)) (Or.inr (own_wd hw (i := 37) rfl)) (by decide) (t := .long) (t' := .long) (by decide) (by decide)))).other W21 (Or.inr (Jvm.RoadKit.slot_ne (Or.inr (own_wd hw (i := 41) rfl)) (Or.inr (own_wd hw (i := 39) rfl)) (by decide) (t := .long) (t' := .long) (by decide) (by decide))))
  have c26_E_a1 := (c23_E_a1.wr W21)
  obtain ⟨T24, h24, X24, e24, W24, st24⟩ := putF X21 hx hZ hown (host := "") (Or.inl (own_wd hw (i := 40) rfl)) Via.refl e21 c25_F_a1_invalidations c26_E_a1 (Or.inr ⟨(own_wd hw (i := 41) rfl), rfl, hnm⟩) (own_wd hw (i := 11) rfl) (ty := .long) (by decide) rfl rfl (g := (mkF m 53 #[.val (.ref a1), .val (.long q0), .second, .val (.long q1), .second, .val (.long q2), .second, .val (.long q3), .second, .val (.long q4), .second, .val (.long q5), .second, .val (.long q6), .second, .val (.long q7), .second, .val (.long q8), .second, .val (.long q9), .second] [(.long q8), (.ref a1)])) rfl rfl (hb hby D1_53.1)
  have Fw24 := c25_F_a1_invalidations.same W24
  have sz24 := own_leN (Keep.of_wr W24).1
  have N24 := Fr.snoc X24 N21 gn_a1
  refine own_pre (A' := T24.setTop (mkF m 56 #[.val (.ref a1), .val (.long q0), .second, .val (.long q1), .second, .val (.long q2), .second, .val (.long q3), .second, .val (.long q4), .second, .val (.long q5), .second, .val (.long q6), .second, .val (.long q7), .second, .val (.long q8), .second, .val (.long q9), .second] [])) st24 ?_
  refine o_aloadN X24 hx hby D1_56 rfl rfl ?_
  refine o_lload X24 hx hby D1_57 rfl ?_
  have c28_F_a1_redisErrors := (((((((((F_redisErrors.other W2 (Or.inr (Jvm.RoadKit.slot_ne (Or.inr (own_wd hw (i := 43) rfl)) (Or.inr (own_wd hw (i := 25) rfl)) (by decide) (t := .long) (t' := .long) (by decide) (by decide)))).other W3 (Or.inr (Jvm.RoadKit.slot_ne (Or.inr (own_wd hw (i := 43) rfl)) (Or.inr (own_wd hw (i := 27) rfl)) (by decide) (t := .long) (t' := .long) (by decide) (by decide)))).other W6 (Or.inr (Jvm.RoadKit.slot_ne (Or.inr (own_wd hw (i := 43) rfl)) (Or.inr (own_wd hw (i := 29) rfl)) (by decide) (t := .long) (t' := .long) (by decide) (by decide)))).other W9 (Or.inr (Jvm.RoadKit.slot_ne (Or.inr (own_wd hw (i := 43) rfl)) (Or.inr (own_wd hw (i := 31) rfl)) (by decide) (t := .long) (t' := .long) (by decide) (by decide)))).other W12 (Or.inr (Jvm.RoadKit.slot_ne (Or.inr (own_wd hw (i := 43) rfl)) (Or.inr (own_wd hw (i := 33) rfl)) (by decide) (t := .long) (t' := .long) (by decide) (by decide)))).other W15 (Or.inr (Jvm.RoadKit.slot_ne (Or.inr (own_wd hw (i := 43) rfl)) (Or.inr (own_wd hw (i := 35) rfl)) (by decide) (t := .long) (t' := .long) (by decide) (by decide)))).other W18 (Or.inr (Jvm.RoadKit.slot_ne (Or.inr (own_wd hw (i := 43) rfl)) (Or.inr (own_wd hw (i := 37) rfl)) (by decide) (t := .long) (t' := .long) (by decide) (by decide)))).other W21 (Or.inr (Jvm.RoadKit.slot_ne (Or.inr (own_wd hw (i := 43) rfl)) (Or.inr (own_wd hw (i := 39) rfl)) (by decide) (t := .long) (t' := .long) (by decide) (by decide)))).other W24 (Or.inr (Jvm.RoadKit.slot_ne (Or.inr (own_wd hw (i := 43) rfl)) (Or.inr (own_wd hw (i := 41) rfl)) (by decide) (t := .long) (t' := .long) (by decide) (by decide))))
  have c29_E_a1 := (c26_E_a1.wr W24)
  obtain ⟨T27, h27, X27, e27, W27, st27⟩ := putF X24 hx hZ hown (host := "") (Or.inl (own_wd hw (i := 42) rfl)) Via.refl e24 c28_F_a1_redisErrors c29_E_a1 (Or.inr ⟨(own_wd hw (i := 43) rfl), rfl, hnm⟩) (own_wd hw (i := 11) rfl) (ty := .long) (by decide) rfl rfl (g := (mkF m 59 #[.val (.ref a1), .val (.long q0), .second, .val (.long q1), .second, .val (.long q2), .second, .val (.long q3), .second, .val (.long q4), .second, .val (.long q5), .second, .val (.long q6), .second, .val (.long q7), .second, .val (.long q8), .second, .val (.long q9), .second] [(.long q9), (.ref a1)])) rfl rfl (hb hby D1_59.1)
  have Fw27 := c28_F_a1_redisErrors.same W27
  have sz27 := own_leN (Keep.of_wr W27).1
  have N27 := Fr.snoc X27 N24 gn_a1
  refine own_pre (A' := T27.setTop (mkF m 62 #[.val (.ref a1), .val (.long q0), .second, .val (.long q1), .second, .val (.long q2), .second, .val (.long q3), .second, .val (.long q4), .second, .val (.long q5), .second, .val (.long q6), .second, .val (.long q7), .second, .val (.long q8), .second, .val (.long q9), .second] [])) st27 ?_
  have c30_E_a1 := (c29_E_a1.wr W27)
  have c31_F_a1_localHits := (((((((((Fw2.other W3 (Or.inr (Jvm.RoadKit.slot_ne (Or.inr (own_wd hw (i := 25) rfl)) (Or.inr (own_wd hw (i := 27) rfl)) (by decide) (t := .long) (t' := .long) (by decide) (by decide)))).other W6 (Or.inr (Jvm.RoadKit.slot_ne (Or.inr (own_wd hw (i := 25) rfl)) (Or.inr (own_wd hw (i := 29) rfl)) (by decide) (t := .long) (t' := .long) (by decide) (by decide)))).other W9 (Or.inr (Jvm.RoadKit.slot_ne (Or.inr (own_wd hw (i := 25) rfl)) (Or.inr (own_wd hw (i := 31) rfl)) (by decide) (t := .long) (t' := .long) (by decide) (by decide)))).other W12 (Or.inr (Jvm.RoadKit.slot_ne (Or.inr (own_wd hw (i := 25) rfl)) (Or.inr (own_wd hw (i := 33) rfl)) (by decide) (t := .long) (t' := .long) (by decide) (by decide)))).other W15 (Or.inr (Jvm.RoadKit.slot_ne (Or.inr (own_wd hw (i := 25) rfl)) (Or.inr (own_wd hw (i := 35) rfl)) (by decide) (t := .long) (t' := .long) (by decide) (by decide)))).other W18 (Or.inr (Jvm.RoadKit.slot_ne (Or.inr (own_wd hw (i := 25) rfl)) (Or.inr (own_wd hw (i := 37) rfl)) (by decide) (t := .long) (t' := .long) (by decide) (by decide)))).other W21 (Or.inr (Jvm.RoadKit.slot_ne (Or.inr (own_wd hw (i := 25) rfl)) (Or.inr (own_wd hw (i := 39) rfl)) (by decide) (t := .long) (t' := .long) (by decide) (by decide)))).other W24 (Or.inr (Jvm.RoadKit.slot_ne (Or.inr (own_wd hw (i := 25) rfl)) (Or.inr (own_wd hw (i := 41) rfl)) (by decide) (t := .long) (t' := .long) (by decide) (by decide)))).other W27 (Or.inr (Jvm.RoadKit.slot_ne (Or.inr (own_wd hw (i := 25) rfl)) (Or.inr (own_wd hw (i := 43) rfl)) (by decide) (t := .long) (t' := .long) (by decide) (by decide))))
  have c32_F_a1_localMisses := ((((((((Fw3.other W6 (Or.inr (Jvm.RoadKit.slot_ne (Or.inr (own_wd hw (i := 27) rfl)) (Or.inr (own_wd hw (i := 29) rfl)) (by decide) (t := .long) (t' := .long) (by decide) (by decide)))).other W9 (Or.inr (Jvm.RoadKit.slot_ne (Or.inr (own_wd hw (i := 27) rfl)) (Or.inr (own_wd hw (i := 31) rfl)) (by decide) (t := .long) (t' := .long) (by decide) (by decide)))).other W12 (Or.inr (Jvm.RoadKit.slot_ne (Or.inr (own_wd hw (i := 27) rfl)) (Or.inr (own_wd hw (i := 33) rfl)) (by decide) (t := .long) (t' := .long) (by decide) (by decide)))).other W15 (Or.inr (Jvm.RoadKit.slot_ne (Or.inr (own_wd hw (i := 27) rfl)) (Or.inr (own_wd hw (i := 35) rfl)) (by decide) (t := .long) (t' := .long) (by decide) (by decide)))).other W18 (Or.inr (Jvm.RoadKit.slot_ne (Or.inr (own_wd hw (i := 27) rfl)) (Or.inr (own_wd hw (i := 37) rfl)) (by decide) (t := .long) (t' := .long) (by decide) (by decide)))).other W21 (Or.inr (Jvm.RoadKit.slot_ne (Or.inr (own_wd hw (i := 27) rfl)) (Or.inr (own_wd hw (i := 39) rfl)) (by decide) (t := .long) (t' := .long) (by decide) (by decide)))).other W24 (Or.inr (Jvm.RoadKit.slot_ne (Or.inr (own_wd hw (i := 27) rfl)) (Or.inr (own_wd hw (i := 41) rfl)) (by decide) (t := .long) (t' := .long) (by decide) (by decide)))).other W27 (Or.inr (Jvm.RoadKit.slot_ne (Or.inr (own_wd hw (i := 27) rfl)) (Or.inr (own_wd hw (i := 43) rfl)) (by decide) (t := .long) (t' := .long) (by decide) (by decide))))
  have c33_F_a1_redisHits := (((((((Fw6.other W9 (Or.inr (Jvm.RoadKit.slot_ne (Or.inr (own_wd hw (i := 29) rfl)) (Or.inr (own_wd hw (i := 31) rfl)) (by decide) (t := .long) (t' := .long) (by decide) (by decide)))).other W12 (Or.inr (Jvm.RoadKit.slot_ne (Or.inr (own_wd hw (i := 29) rfl)) (Or.inr (own_wd hw (i := 33) rfl)) (by decide) (t := .long) (t' := .long) (by decide) (by decide)))).other W15 (Or.inr (Jvm.RoadKit.slot_ne (Or.inr (own_wd hw (i := 29) rfl)) (Or.inr (own_wd hw (i := 35) rfl)) (by decide) (t := .long) (t' := .long) (by decide) (by decide)))).other W18 (Or.inr (Jvm.RoadKit.slot_ne (Or.inr (own_wd hw (i := 29) rfl)) (Or.inr (own_wd hw (i := 37) rfl)) (by decide) (t := .long) (t' := .long) (by decide) (by decide)))).other W21 (Or.inr (Jvm.RoadKit.slot_ne (Or.inr (own_wd hw (i := 29) rfl)) (Or.inr (own_wd hw (i := 39) rfl)) (by decide) (t := .long) (t' := .long) (by decide) (by decide)))).other W24 (Or.inr (Jvm.RoadKit.slot_ne (Or.inr (own_wd hw (i := 29) rfl)) (Or.inr (own_wd hw (i := 41) rfl)) (by decide) (t := .long) (t' := .long) (by decide) (by decide)))).other W27 (Or.inr (Jvm.RoadKit.slot_ne (Or.inr (own_wd hw (i := 29) rfl)) (Or.inr (own_wd hw (i := 43) rfl)) (by decide) (t := .long) (t' := .long) (by decide) (by decide))))
  have c34_F_a1_redisMisses := ((((((Fw9.other W12 (Or.inr (Jvm.RoadKit.slot_ne (Or.inr (own_wd hw (i := 31) rfl)) (Or.inr (own_wd hw (i := 33) rfl)) (by decide) (t := .long) (t' := .long) (by decide) (by decide)))).other W15 (Or.inr (Jvm.RoadKit.slot_ne (Or.inr (own_wd hw (i := 31) rfl)) (Or.inr (own_wd hw (i := 35) rfl)) (by decide) (t := .long) (t' := .long) (by decide) (by decide)))).other W18 (Or.inr (Jvm.RoadKit.slot_ne (Or.inr (own_wd hw (i := 31) rfl)) (Or.inr (own_wd hw (i := 37) rfl)) (by decide) (t := .long) (t' := .long) (by decide) (by decide)))).other W21 (Or.inr (Jvm.RoadKit.slot_ne (Or.inr (own_wd hw (i := 31) rfl)) (Or.inr (own_wd hw (i := 39) rfl)) (by decide) (t := .long) (t' := .long) (by decide) (by decide)))).other W24 (Or.inr (Jvm.RoadKit.slot_ne (Or.inr (own_wd hw (i := 31) rfl)) (Or.inr (own_wd hw (i := 41) rfl)) (by decide) (t := .long) (t' := .long) (by decide) (by decide)))).other W27 (Or.inr (Jvm.RoadKit.slot_ne (Or.inr (own_wd hw (i := 31) rfl)) (Or.inr (own_wd hw (i := 43) rfl)) (by decide) (t := .long) (t' := .long) (by decide) (by decide))))
  have c35_F_a1_puts := (((((Fw12.other W15 (Or.inr (Jvm.RoadKit.slot_ne (Or.inr (own_wd hw (i := 33) rfl)) (Or.inr (own_wd hw (i := 35) rfl)) (by decide) (t := .long) (t' := .long) (by decide) (by decide)))).other W18 (Or.inr (Jvm.RoadKit.slot_ne (Or.inr (own_wd hw (i := 33) rfl)) (Or.inr (own_wd hw (i := 37) rfl)) (by decide) (t := .long) (t' := .long) (by decide) (by decide)))).other W21 (Or.inr (Jvm.RoadKit.slot_ne (Or.inr (own_wd hw (i := 33) rfl)) (Or.inr (own_wd hw (i := 39) rfl)) (by decide) (t := .long) (t' := .long) (by decide) (by decide)))).other W24 (Or.inr (Jvm.RoadKit.slot_ne (Or.inr (own_wd hw (i := 33) rfl)) (Or.inr (own_wd hw (i := 41) rfl)) (by decide) (t := .long) (t' := .long) (by decide) (by decide)))).other W27 (Or.inr (Jvm.RoadKit.slot_ne (Or.inr (own_wd hw (i := 33) rfl)) (Or.inr (own_wd hw (i := 43) rfl)) (by decide) (t := .long) (t' := .long) (by decide) (by decide))))
  have c36_F_a1_loadSuccesses := ((((Fw15.other W18 (Or.inr (Jvm.RoadKit.slot_ne (Or.inr (own_wd hw (i := 35) rfl)) (Or.inr (own_wd hw (i := 37) rfl)) (by decide) (t := .long) (t' := .long) (by decide) (by decide)))).other W21 (Or.inr (Jvm.RoadKit.slot_ne (Or.inr (own_wd hw (i := 35) rfl)) (Or.inr (own_wd hw (i := 39) rfl)) (by decide) (t := .long) (t' := .long) (by decide) (by decide)))).other W24 (Or.inr (Jvm.RoadKit.slot_ne (Or.inr (own_wd hw (i := 35) rfl)) (Or.inr (own_wd hw (i := 41) rfl)) (by decide) (t := .long) (t' := .long) (by decide) (by decide)))).other W27 (Or.inr (Jvm.RoadKit.slot_ne (Or.inr (own_wd hw (i := 35) rfl)) (Or.inr (own_wd hw (i := 43) rfl)) (by decide) (t := .long) (t' := .long) (by decide) (by decide))))
  have c37_F_a1_loadFailures := (((Fw18.other W21 (Or.inr (Jvm.RoadKit.slot_ne (Or.inr (own_wd hw (i := 37) rfl)) (Or.inr (own_wd hw (i := 39) rfl)) (by decide) (t := .long) (t' := .long) (by decide) (by decide)))).other W24 (Or.inr (Jvm.RoadKit.slot_ne (Or.inr (own_wd hw (i := 37) rfl)) (Or.inr (own_wd hw (i := 41) rfl)) (by decide) (t := .long) (t' := .long) (by decide) (by decide)))).other W27 (Or.inr (Jvm.RoadKit.slot_ne (Or.inr (own_wd hw (i := 37) rfl)) (Or.inr (own_wd hw (i := 43) rfl)) (by decide) (t := .long) (t' := .long) (by decide) (by decide))))
  have c38_F_a1_localEvictions := ((Fw21.other W24 (Or.inr (Jvm.RoadKit.slot_ne (Or.inr (own_wd hw (i := 39) rfl)) (Or.inr (own_wd hw (i := 41) rfl)) (by decide) (t := .long) (t' := .long) (by decide) (by decide)))).other W27 (Or.inr (Jvm.RoadKit.slot_ne (Or.inr (own_wd hw (i := 39) rfl)) (Or.inr (own_wd hw (i := 43) rfl)) (by decide) (t := .long) (t' := .long) (by decide) (by decide))))
  have c39_F_a1_invalidations := (Fw24.other W27 (Or.inr (Jvm.RoadKit.slot_ne (Or.inr (own_wd hw (i := 41) rfl)) (Or.inr (own_wd hw (i := 43) rfl)) (by decide) (t := .long) (t' := .long) (by decide) (by decide))))
  have KK : Keep h0 h27 [a1] := (((((((((((Keep.refl h0 [a1]).wr W2 (Or.inl (by simp))).wr W3 (Or.inl (by simp))).wr W6 (Or.inl (by simp))).wr W9 (Or.inl (by simp))).wr W12 (Or.inl (by simp))).wr W15 (Or.inl (by simp))).wr W18 (Or.inl (by simp))).wr W21 (Or.inl (by simp))).wr W24 (Or.inl (by simp))).wr W27 (Or.inl (by simp)))
  exact own_ret (v := none) X27 (fun h => by first | rfl | (rw [Bd.returns] at h; cases h)) (BodyLoose.notSynchronized Bd) (by decide) (by decide) (by rw [e27]; exact ⟨rfl, N27, KK, c30_E_a1, c31_F_a1_localHits, c32_F_a1_localMisses, c33_F_a1_redisHits, c34_F_a1_redisMisses, c35_F_a1_puts, c36_F_a1_loadSuccesses, c37_F_a1_loadFailures, c38_F_a1_localEvictions, c39_F_a1_invalidations, Fw27⟩) (fun fs hr => X27.returnOut hx Bd.returns (hb hby D1_62.1) hr)
def own_QPl (Z : State) (x0 x1 x2 x3 x4 x5 x6 x7 x8 x9 y0 y1 y2 y3 y4 y5 y6 y7 y8 y9 : Int64) (h0 : Heap) (n0 : Nat) (v : Option Value) (h : Heap) (L : List Loc) : Prop := ∃ r : Nat, v = some (.ref r) ∧ Fr n0 L ∧ Keep h0 h [] ∧ Exa Z h r "dev/twotier/CacheCounters" ∧ Fld Z h r "dev/twotier/CacheCounters" "localHits" "J" (.long (x0 + y0)) ∧ Fld Z h r "dev/twotier/CacheCounters" "localMisses" "J" (.long (x1 + y1)) ∧ Fld Z h r "dev/twotier/CacheCounters" "redisHits" "J" (.long (x2 + y2)) ∧ Fld Z h r "dev/twotier/CacheCounters" "redisMisses" "J" (.long (x3 + y3)) ∧ Fld Z h r "dev/twotier/CacheCounters" "puts" "J" (.long (x4 + y4)) ∧ Fld Z h r "dev/twotier/CacheCounters" "loadSuccesses" "J" (.long (x5 + y5)) ∧ Fld Z h r "dev/twotier/CacheCounters" "loadFailures" "J" (.long (x6 + y6)) ∧ Fld Z h r "dev/twotier/CacheCounters" "localEvictions" "J" (.long (x7 + y7)) ∧ Fld Z h r "dev/twotier/CacheCounters" "invalidations" "J" (.long (x8 + y8)) ∧ Fld Z h r "dev/twotier/CacheCounters" "redisErrors" "J" (.long (x9 + y9))
theorem pd__40JJJJJJJJJJ_41V : parseMethodDescriptor "(JJJJJJJJJJ)V" = some ⟨[.long, .long, .long, .long, .long, .long, .long, .long, .long, .long], none⟩ := by decide +kernel
theorem D4_0 : own_at prog_3_method_2_code 0 (.new 8) 3 3 := ⟨by decide +kernel, rfl⟩
theorem D4_3 : own_at prog_3_method_2_code 3 (.dup) 1 4 := ⟨by decide +kernel, rfl⟩
theorem D4_4 : own_at prog_3_method_2_code 4 (.aload_n 0) 1 5 := ⟨by decide +kernel, rfl⟩
theorem D4_5 : own_at prog_3_method_2_code 5 (.getfield 7) 3 8 := ⟨by decide +kernel, rfl⟩
theorem D4_8 : own_at prog_3_method_2_code 8 (.aload_n 1) 1 9 := ⟨by decide +kernel, rfl⟩
theorem D4_9 : own_at prog_3_method_2_code 9 (.getfield 7) 3 12 := ⟨by decide +kernel, rfl⟩
theorem D4_12 : own_at prog_3_method_2_code 12 (.ladd) 1 13 := ⟨by decide +kernel, rfl⟩
theorem D4_13 : own_at prog_3_method_2_code 13 (.aload_n 0) 1 14 := ⟨by decide +kernel, rfl⟩
theorem D4_14 : own_at prog_3_method_2_code 14 (.getfield 13) 3 17 := ⟨by decide +kernel, rfl⟩
theorem D4_17 : own_at prog_3_method_2_code 17 (.aload_n 1) 1 18 := ⟨by decide +kernel, rfl⟩
theorem D4_18 : own_at prog_3_method_2_code 18 (.getfield 13) 3 21 := ⟨by decide +kernel, rfl⟩
theorem D4_21 : own_at prog_3_method_2_code 21 (.ladd) 1 22 := ⟨by decide +kernel, rfl⟩
theorem D4_22 : own_at prog_3_method_2_code 22 (.aload_n 0) 1 23 := ⟨by decide +kernel, rfl⟩
theorem D4_23 : own_at prog_3_method_2_code 23 (.getfield 16) 3 26 := ⟨by decide +kernel, rfl⟩
theorem D4_26 : own_at prog_3_method_2_code 26 (.aload_n 1) 1 27 := ⟨by decide +kernel, rfl⟩
theorem D4_27 : own_at prog_3_method_2_code 27 (.getfield 16) 3 30 := ⟨by decide +kernel, rfl⟩
theorem D4_30 : own_at prog_3_method_2_code 30 (.ladd) 1 31 := ⟨by decide +kernel, rfl⟩
theorem D4_31 : own_at prog_3_method_2_code 31 (.aload_n 0) 1 32 := ⟨by decide +kernel, rfl⟩
theorem D4_32 : own_at prog_3_method_2_code 32 (.getfield 19) 3 35 := ⟨by decide +kernel, rfl⟩
theorem D4_35 : own_at prog_3_method_2_code 35 (.aload_n 1) 1 36 := ⟨by decide +kernel, rfl⟩
theorem D4_36 : own_at prog_3_method_2_code 36 (.getfield 19) 3 39 := ⟨by decide +kernel, rfl⟩
theorem D4_39 : own_at prog_3_method_2_code 39 (.ladd) 1 40 := ⟨by decide +kernel, rfl⟩
theorem D4_40 : own_at prog_3_method_2_code 40 (.aload_n 0) 1 41 := ⟨by decide +kernel, rfl⟩
theorem D4_41 : own_at prog_3_method_2_code 41 (.getfield 22) 3 44 := ⟨by decide +kernel, rfl⟩
theorem D4_44 : own_at prog_3_method_2_code 44 (.aload_n 1) 1 45 := ⟨by decide +kernel, rfl⟩
theorem D4_45 : own_at prog_3_method_2_code 45 (.getfield 22) 3 48 := ⟨by decide +kernel, rfl⟩
theorem D4_48 : own_at prog_3_method_2_code 48 (.ladd) 1 49 := ⟨by decide +kernel, rfl⟩
theorem D4_49 : own_at prog_3_method_2_code 49 (.aload_n 0) 1 50 := ⟨by decide +kernel, rfl⟩
theorem D4_50 : own_at prog_3_method_2_code 50 (.getfield 25) 3 53 := ⟨by decide +kernel, rfl⟩
theorem D4_53 : own_at prog_3_method_2_code 53 (.aload_n 1) 1 54 := ⟨by decide +kernel, rfl⟩
theorem D4_54 : own_at prog_3_method_2_code 54 (.getfield 25) 3 57 := ⟨by decide +kernel, rfl⟩
theorem D4_57 : own_at prog_3_method_2_code 57 (.ladd) 1 58 := ⟨by decide +kernel, rfl⟩
theorem D4_58 : own_at prog_3_method_2_code 58 (.aload_n 0) 1 59 := ⟨by decide +kernel, rfl⟩
theorem D4_59 : own_at prog_3_method_2_code 59 (.getfield 28) 3 62 := ⟨by decide +kernel, rfl⟩
theorem D4_62 : own_at prog_3_method_2_code 62 (.aload_n 1) 1 63 := ⟨by decide +kernel, rfl⟩
theorem D4_63 : own_at prog_3_method_2_code 63 (.getfield 28) 3 66 := ⟨by decide +kernel, rfl⟩
theorem D4_66 : own_at prog_3_method_2_code 66 (.ladd) 1 67 := ⟨by decide +kernel, rfl⟩
theorem D4_67 : own_at prog_3_method_2_code 67 (.aload_n 0) 1 68 := ⟨by decide +kernel, rfl⟩
theorem D4_68 : own_at prog_3_method_2_code 68 (.getfield 31) 3 71 := ⟨by decide +kernel, rfl⟩
theorem D4_71 : own_at prog_3_method_2_code 71 (.aload_n 1) 1 72 := ⟨by decide +kernel, rfl⟩
theorem D4_72 : own_at prog_3_method_2_code 72 (.getfield 31) 3 75 := ⟨by decide +kernel, rfl⟩
theorem D4_75 : own_at prog_3_method_2_code 75 (.ladd) 1 76 := ⟨by decide +kernel, rfl⟩
theorem D4_76 : own_at prog_3_method_2_code 76 (.aload_n 0) 1 77 := ⟨by decide +kernel, rfl⟩
theorem D4_77 : own_at prog_3_method_2_code 77 (.getfield 34) 3 80 := ⟨by decide +kernel, rfl⟩
theorem D4_80 : own_at prog_3_method_2_code 80 (.aload_n 1) 1 81 := ⟨by decide +kernel, rfl⟩
theorem D4_81 : own_at prog_3_method_2_code 81 (.getfield 34) 3 84 := ⟨by decide +kernel, rfl⟩
theorem D4_84 : own_at prog_3_method_2_code 84 (.ladd) 1 85 := ⟨by decide +kernel, rfl⟩
theorem D4_85 : own_at prog_3_method_2_code 85 (.aload_n 0) 1 86 := ⟨by decide +kernel, rfl⟩
theorem D4_86 : own_at prog_3_method_2_code 86 (.getfield 37) 3 89 := ⟨by decide +kernel, rfl⟩
theorem D4_89 : own_at prog_3_method_2_code 89 (.aload_n 1) 1 90 := ⟨by decide +kernel, rfl⟩
theorem D4_90 : own_at prog_3_method_2_code 90 (.getfield 37) 3 93 := ⟨by decide +kernel, rfl⟩
theorem D4_93 : own_at prog_3_method_2_code 93 (.ladd) 1 94 := ⟨by decide +kernel, rfl⟩
theorem D4_94 : own_at prog_3_method_2_code 94 (.invokespecial 40) 3 97 := ⟨by decide +kernel, rfl⟩
theorem D4_97 : own_at prog_3_method_2_code 97 (.areturn) 1 98 := ⟨by decide +kernel, rfl⟩
theorem ef_rmP (m : MethodId) (a1 : Addr) (a2 : Addr) : entryFrame m #[(.ref a1), (.ref a2)] 2 = mkF m 0 #[.val (.ref a1), .val (.ref a2)] [] := by first | (simp [entryFrame, mkF, argsToLocals, Value.category]; done) | rfl
set_option maxRecDepth 65536 in
set_option maxHeartbeats 40000000 in
theorem rmP (l : Launch) (Z : State) (a0 : Array Value) (hw : ∀ d ∈ tables_1, d.before a0 Z = true) (ws : List Jvm.Cond) (a1 : Addr) (a2 : Addr) (x0 x1 x2 x3 x4 x5 x6 x7 x8 x9 y0 y1 y2 y3 y4 y5 y6 y7 y8 y9 : Int64) (h0 : Heap) (n0 : Nat) (Z0 : n0 ≤ h0.size) (Fa_localHits : Fld Z h0 a1 "dev/twotier/CacheCounters" "localHits" "J" (.long x0)) (Fa_localMisses : Fld Z h0 a1 "dev/twotier/CacheCounters" "localMisses" "J" (.long x1)) (Fa_redisHits : Fld Z h0 a1 "dev/twotier/CacheCounters" "redisHits" "J" (.long x2)) (Fa_redisMisses : Fld Z h0 a1 "dev/twotier/CacheCounters" "redisMisses" "J" (.long x3)) (Fa_puts : Fld Z h0 a1 "dev/twotier/CacheCounters" "puts" "J" (.long x4)) (Fa_loadSuccesses : Fld Z h0 a1 "dev/twotier/CacheCounters" "loadSuccesses" "J" (.long x5)) (Fa_loadFailures : Fld Z h0 a1 "dev/twotier/CacheCounters" "loadFailures" "J" (.long x6)) (Fa_localEvictions : Fld Z h0 a1 "dev/twotier/CacheCounters" "localEvictions" "J" (.long x7)) (Fa_invalidations : Fld Z h0 a1 "dev/twotier/CacheCounters" "invalidations" "J" (.long x8)) (Fa_redisErrors : Fld Z h0 a1 "dev/twotier/CacheCounters" "redisErrors" "J" (.long x9)) (Fb_localHits : Fld Z h0 a2 "dev/twotier/CacheCounters" "localHits" "J" (.long y0)) (Fb_localMisses : Fld Z h0 a2 "dev/twotier/CacheCounters" "localMisses" "J" (.long y1)) (Fb_redisHits : Fld Z h0 a2 "dev/twotier/CacheCounters" "redisHits" "J" (.long y2)) (Fb_redisMisses : Fld Z h0 a2 "dev/twotier/CacheCounters" "redisMisses" "J" (.long y3)) (Fb_puts : Fld Z h0 a2 "dev/twotier/CacheCounters" "puts" "J" (.long y4)) (Fb_loadSuccesses : Fld Z h0 a2 "dev/twotier/CacheCounters" "loadSuccesses" "J" (.long y5)) (Fb_loadFailures : Fld Z h0 a2 "dev/twotier/CacheCounters" "loadFailures" "J" (.long y6)) (Fb_localEvictions : Fld Z h0 a2 "dev/twotier/CacheCounters" "localEvictions" "J" (.long y7)) (Fb_invalidations : Fld Z h0 a2 "dev/twotier/CacheCounters" "invalidations" "J" (.long y8)) (Fb_redisErrors : Fld Z h0 a2 "dev/twotier/CacheCounters" "redisErrors" "J" (.long y9)) :
    MetFree l (⟨"dev/twotier/CacheCounters", "plus", "(Ldev/twotier/CacheCounters;)Ldev/twotier/CacheCounters;"⟩ : MethodName) (head1 (Jvm.Cond.code (⟨"dev/twotier/CacheCounters", "plus", "(Ldev/twotier/CacheCounters;)Ldev/twotier/CacheCounters;"⟩ : MethodName) prog_3_method_2_code 2 (some (.object "dev/twotier/CacheCounters")) :: ws) ({ frames := 3, cells := 1, slots := 10, locals := 57 } : Room)) (fun a U => a = #[(.ref a1), (.ref a2)] ∧ Z.Warmed39 U.vm ∧ U.heap = h0) (fun _ _ _ _ _ => True) (fun _ U o U' => ∃ v L, o = .returned v ∧ own_QPl Z x0 x1 x2 x3 x4 x5 x6 x7 x8 x9 y0 y1 y2 y3 y4 y5 y6 y7 y8 y9 h0 n0 v U'.heap L ∧ FrameEnd U o U' L ({ frames := 3, cells := 1, slots := 10, locals := 57 } : Room).cells ({ frames := 3, cells := 1, slots := 10, locals := 57 } : Room).slots) := by
  refine MetFree.of_bodySF (plainFor_of_name pn_dev_twotier_CacheCounters) hisR ?_
  intro p e s m args below meth c s₁ Bd hml0 hP hK
  obtain ⟨rfl, hZ, hh⟩ := hP
  have hx := Bd.exec
  have hby := Bd.bytes
  have hml : c.maxLocals = 2 := hml0
  have hown : s.vm.findClass "dev/twotier/CacheCounters" = some m.cls := findClass_of_methodNamed Bd.named
  have hnm := (name_of_methodNamed Bd.named Bd.method).1
  have X0 : Stand p l e ({ frames := 3, cells := 1, slots := 10, locals := 57 } : Room) s m #[(.ref a1), (.ref a2)] below meth c s₁ [] 0 0 := Stand.of_body Bd
  have e0 : s₁.heap = h0 := by rw [← hh, Bd.state]; rfl
  have N0 := Fr.nil n0
  refine own_start (ef_rmP m a1 a2) ?_
  obtain ⟨T1, h1, X1, e1, E1, A1, D1, -, st1⟩ := newO X0 hx hZ hown (own_wd hw (i := 49) rfl) (own_wd hw (i := 11) rfl) (own_wd hw (i := 12) rfl) e0 (g := (mkF m 0 #[.val (.ref a1), .val (.ref a2)] [])) rfl (hb hby D4_0.1) (by decide) (by decide)
  obtain ⟨b1, g1⟩ : ∃ z : Nat, z = h0.size := ⟨_, rfl⟩
  rw [← g1] at A1 D1 st1
  have sz1 := own_leN E1.1
  have gn_b1 : n0 ≤ b1 := by omega
  have lt_b1 := own_ltN A1.lt
  have F_localHits_b1 : Fld Z h1 b1 "dev/twotier/CacheCounters" "localHits" "J" (.long (0 : Int64)) := D1 (Or.inr (own_wd hw (i := 25) rfl)) (ty := .long) (by decide)
  have F_localMisses_b1 : Fld Z h1 b1 "dev/twotier/CacheCounters" "localMisses" "J" (.long (0 : Int64)) := D1 (Or.inr (own_wd hw (i := 27) rfl)) (ty := .long) (by decide)
  have F_redisHits_b1 : Fld Z h1 b1 "dev/twotier/CacheCounters" "redisHits" "J" (.long (0 : Int64)) := D1 (Or.inr (own_wd hw (i := 29) rfl)) (ty := .long) (by decide)
  have F_redisMisses_b1 : Fld Z h1 b1 "dev/twotier/CacheCounters" "redisMisses" "J" (.long (0 : Int64)) := D1 (Or.inr (own_wd hw (i := 31) rfl)) (ty := .long) (by decide)
  have F_puts_b1 : Fld Z h1 b1 "dev/twotier/CacheCounters" "puts" "J" (.long (0 : Int64)) := D1 (Or.inr (own_wd hw (i := 33) rfl)) (ty := .long) (by decide)
  have F_loadSuccesses_b1 : Fld Z h1 b1 "dev/twotier/CacheCounters" "loadSuccesses" "J" (.long (0 : Int64)) := D1 (Or.inr (own_wd hw (i := 35) rfl)) (ty := .long) (by decide)
  have F_loadFailures_b1 : Fld Z h1 b1 "dev/twotier/CacheCounters" "loadFailures" "J" (.long (0 : Int64)) := D1 (Or.inr (own_wd hw (i := 37) rfl)) (ty := .long) (by decide)
  have F_localEvictions_b1 : Fld Z h1 b1 "dev/twotier/CacheCounters" "localEvictions" "J" (.long (0 : Int64)) := D1 (Or.inr (own_wd hw (i := 39) rfl)) (ty := .long) (by decide)
  have F_invalidations_b1 : Fld Z h1 b1 "dev/twotier/CacheCounters" "invalidations" "J" (.long (0 : Int64)) := D1 (Or.inr (own_wd hw (i := 41) rfl)) (ty := .long) (by decide)
  have F_redisErrors_b1 : Fld Z h1 b1 "dev/twotier/CacheCounters" "redisErrors" "J" (.long (0 : Int64)) := D1 (Or.inr (own_wd hw (i := 43) rfl)) (ty := .long) (by decide)
  refine own_pre (A' := T1.setTop (mkF m 3 #[.val (.ref a1), .val (.ref a2)] [(.ref b1)])) st1 ?_
  refine o_dup X1 hx hby D4_3 rfl ?_
  refine o_aloadN X1 hx hby D4_4 rfl rfl ?_
  have c3_F_a1_localHits := (Fa_localHits.ext E1)
  obtain ⟨T2, X2, e2, st2⟩ := getF X1 hx hZ hown (host := "") (Or.inl (own_wd hw (i := 24) rfl)) Via.refl e1 c3_F_a1_localHits (g := (mkF m 5 #[.val (.ref a1), .val (.ref a2)] [(.ref a1), (.ref b1), (.ref b1)])) rfl rfl (hb hby D4_5.1)
  refine own_pre (A' := T2.setTop (mkF m 8 #[.val (.ref a1), .val (.ref a2)] [(.long x0), (.ref b1), (.ref b1)])) st2 ?_
  refine o_aloadN X2 hx hby D4_8 rfl rfl ?_
  have c5_F_a2_localHits := (Fb_localHits.ext E1)
  obtain ⟨T4, X4, e4, st4⟩ := getF X2 hx hZ hown (host := "") (Or.inl (own_wd hw (i := 24) rfl)) Via.refl e2 c5_F_a2_localHits (g := (mkF m 9 #[.val (.ref a1), .val (.ref a2)] [(.ref a2), (.long x0), (.ref b1), (.ref b1)])) rfl rfl (hb hby D4_9.1)
  refine own_pre (A' := T4.setTop (mkF m 12 #[.val (.ref a1), .val (.ref a2)] [(.long y0), (.long x0), (.ref b1), (.ref b1)])) st4 ?_
  refine o_ladd X4 hx hby D4_12 ?_
  refine o_aloadN X4 hx hby D4_13 rfl rfl ?_
  have c7_F_a1_localMisses := (Fa_localMisses.ext E1)
  obtain ⟨T6, X6, e6, st6⟩ := getF X4 hx hZ hown (host := "") (Or.inl (own_wd hw (i := 26) rfl)) Via.refl e4 c7_F_a1_localMisses (g := (mkF m 14 #[.val (.ref a1), .val (.ref a2)] [(.ref a1), (.long (x0 + y0)), (.ref b1), (.ref b1)])) rfl rfl (hb hby D4_14.1)
  refine own_pre (A' := T6.setTop (mkF m 17 #[.val (.ref a1), .val (.ref a2)] [(.long x1), (.long (x0 + y0)), (.ref b1), (.ref b1)])) st6 ?_
  refine o_aloadN X6 hx hby D4_17 rfl rfl ?_
  have c9_F_a2_localMisses := (Fb_localMisses.ext E1)
  obtain ⟨T8, X8, e8, st8⟩ := getF X6 hx hZ hown (host := "") (Or.inl (own_wd hw (i := 26) rfl)) Via.refl e6 c9_F_a2_localMisses (g := (mkF m 18 #[.val (.ref a1), .val (.ref a2)] [(.ref a2), (.long x1), (.long (x0 + y0)), (.ref b1), (.ref b1)])) rfl rfl (hb hby D4_18.1)
  refine own_pre (A' := T8.setTop (mkF m 21 #[.val (.ref a1), .val (.ref a2)] [(.long y1), (.long x1), (.long (x0 + y0)), (.ref b1), (.ref b1)])) st8 ?_
  refine o_ladd X8 hx hby D4_21 ?_
  refine o_aloadN X8 hx hby D4_22 rfl rfl ?_
  have c11_F_a1_redisHits := (Fa_redisHits.ext E1)
  obtain ⟨T10, X10, e10, st10⟩ := getF X8 hx hZ hown (host := "") (Or.inl (own_wd hw (i := 28) rfl)) Via.refl e8 c11_F_a1_redisHits (g := (mkF m 23 #[.val (.ref a1), .val (.ref a2)] [(.ref a1), (.long (x1 + y1)), (.long (x0 + y0)), (.ref b1), (.ref b1)])) rfl rfl (hb hby D4_23.1)
  refine own_pre (A' := T10.setTop (mkF m 26 #[.val (.ref a1), .val (.ref a2)] [(.long x2), (.long (x1 + y1)), (.long (x0 + y0)), (.ref b1), (.ref b1)])) st10 ?_
  refine o_aloadN X10 hx hby D4_26 rfl rfl ?_
  have c13_F_a2_redisHits := (Fb_redisHits.ext E1)
  obtain ⟨T12, X12, e12, st12⟩ := getF X10 hx hZ hown (host := "") (Or.inl (own_wd hw (i := 28) rfl)) Via.refl e10 c13_F_a2_redisHits (g := (mkF m 27 #[.val (.ref a1), .val (.ref a2)] [(.ref a2), (.long x2), (.long (x1 + y1)), (.long (x0 + y0)), (.ref b1), (.ref b1)])) rfl rfl (hb hby D4_27.1)
  refine own_pre (A' := T12.setTop (mkF m 30 #[.val (.ref a1), .val (.ref a2)] [(.long y2), (.long x2), (.long (x1 + y1)), (.long (x0 + y0)), (.ref b1), (.ref b1)])) st12 ?_
  refine o_ladd X12 hx hby D4_30 ?_
  refine o_aloadN X12 hx hby D4_31 rfl rfl ?_
  have c15_F_a1_redisMisses := (Fa_redisMisses.ext E1)
  obtain ⟨T14, X14, e14, st14⟩ := getF X12 hx hZ hown (host := "") (Or.inl (own_wd hw (i := 30) rfl)) Via.refl e12 c15_F_a1_redisMisses (g := (mkF m 32 #[.val (.ref a1), .val (.ref a2)] [(.ref a1), (.long (x2 + y2)), (.long (x1 + y1)), (.long (x0 + y0)), (.ref b1), (.ref b1)])) rfl rfl (hb hby D4_32.1)
  refine own_pre (A' := T14.setTop (mkF m 35 #[.val (.ref a1), .val (.ref a2)] [(.long x3), (.long (x2 + y2)), (.long (x1 + y1)), (.long (x0 + y0)), (.ref b1), (.ref b1)])) st14 ?_
  refine o_aloadN X14 hx hby D4_35 rfl rfl ?_
  have c17_F_a2_redisMisses := (Fb_redisMisses.ext E1)
  obtain ⟨T16, X16, e16, st16⟩ := getF X14 hx hZ hown (host := "") (Or.inl (own_wd hw (i := 30) rfl)) Via.refl e14 c17_F_a2_redisMisses (g := (mkF m 36 #[.val (.ref a1), .val (.ref a2)] [(.ref a2), (.long x3), (.long (x2 + y2)), (.long (x1 + y1)), (.long (x0 + y0)), (.ref b1), (.ref b1)])) rfl rfl (hb hby D4_36.1)
  refine own_pre (A' := T16.setTop (mkF m 39 #[.val (.ref a1), .val (.ref a2)] [(.long y3), (.long x3), (.long (x2 + y2)), (.long (x1 + y1)), (.long (x0 + y0)), (.ref b1), (.ref b1)])) st16 ?_
  refine o_ladd X16 hx hby D4_39 ?_
  refine o_aloadN X16 hx hby D4_40 rfl rfl ?_
  have c19_F_a1_puts := (Fa_puts.ext E1)
  obtain ⟨T18, X18, e18, st18⟩ := getF X16 hx hZ hown (host := "") (Or.inl (own_wd hw (i := 32) rfl)) Via.refl e16 c19_F_a1_puts (g := (mkF m 41 #[.val (.ref a1), .val (.ref a2)] [(.ref a1), (.long (x3 + y3)), (.long (x2 + y2)), (.long (x1 + y1)), (.long (x0 + y0)), (.ref b1), (.ref b1)])) rfl rfl (hb hby D4_41.1)
  refine own_pre (A' := T18.setTop (mkF m 44 #[.val (.ref a1), .val (.ref a2)] [(.long x4), (.long (x3 + y3)), (.long (x2 + y2)), (.long (x1 + y1)), (.long (x0 + y0)), (.ref b1), (.ref b1)])) st18 ?_
  refine o_aloadN X18 hx hby D4_44 rfl rfl ?_
  have c21_F_a2_puts := (Fb_puts.ext E1)
  obtain ⟨T20, X20, e20, st20⟩ := getF X18 hx hZ hown (host := "") (Or.inl (own_wd hw (i := 32) rfl)) Via.refl e18 c21_F_a2_puts (g := (mkF m 45 #[.val (.ref a1), .val (.ref a2)] [(.ref a2), (.long x4), (.long (x3 + y3)), (.long (x2 + y2)), (.long (x1 + y1)), (.long (x0 + y0)), (.ref b1), (.ref b1)])) rfl rfl (hb hby D4_45.1)
  refine own_pre (A' := T20.setTop (mkF m 48 #[.val (.ref a1), .val (.ref a2)] [(.long y4), (.long x4), (.long (x3 + y3)), (.long (x2 + y2)), (.long (x1 + y1)), (.long (x0 + y0)), (.ref b1), (.ref b1)])) st20 ?_
  refine o_ladd X20 hx hby D4_48 ?_
  refine o_aloadN X20 hx hby D4_49 rfl rfl ?_
  have c23_F_a1_loadSuccesses := (Fa_loadSuccesses.ext E1)
  obtain ⟨T22, X22, e22, st22⟩ := getF X20 hx hZ hown (host := "") (Or.inl (own_wd hw (i := 34) rfl)) Via.refl e20 c23_F_a1_loadSuccesses (g := (mkF m 50 #[.val (.ref a1), .val (.ref a2)] [(.ref a1), (.long (x4 + y4)), (.long (x3 + y3)), (.long (x2 + y2)), (.long (x1 + y1)), (.long (x0 + y0)), (.ref b1), (.ref b1)])) rfl rfl (hb hby D4_50.1)
  refine own_pre (A' := T22.setTop (mkF m 53 #[.val (.ref a1), .val (.ref a2)] [(.long x5), (.long (x4 + y4)), (.long (x3 + y3)), (.long (x2 + y2)), (.long (x1 + y1)), (.long (x0 + y0)), (.ref b1), (.ref b1)])) st22 ?_
  refine o_aloadN X22 hx hby D4_53 rfl rfl ?_
  have c25_F_a2_loadSuccesses := (Fb_loadSuccesses.ext E1)
  obtain ⟨T24, X24, e24, st24⟩ := getF X22 hx hZ hown (host := "") (Or.inl (own_wd hw (i := 34) rfl)) Via.refl e22 c25_F_a2_loadSuccesses (g := (mkF m 54 #[.val (.ref a1), .val (.ref a2)] [(.ref a2), (.long x5), (.long (x4 + y4)), (.long (x3 + y3)), (.long (x2 + y2)), (.long (x1 + y1)), (.long (x0 + y0)), (.ref b1), (.ref b1)])) rfl rfl (hb hby D4_54.1)
  refine own_pre (A' := T24.setTop (mkF m 57 #[.val (.ref a1), .val (.ref a2)] [(.long y5), (.long x5), (.long (x4 + y4)), (.long (x3 + y3)), (.long (x2 + y2)), (.long (x1 + y1)), (.long (x0 + y0)), (.ref b1), (.ref b1)])) st24 ?_
  refine o_ladd X24 hx hby D4_57 ?_
  refine o_aloadN X24 hx hby D4_58 rfl rfl ?_
  have c27_F_a1_loadFailures := (Fa_loadFailures.ext E1)
  obtain ⟨T26, X26, e26, st26⟩ := getF X24 hx hZ hown (host := "") (Or.inl (own_wd hw (i := 36) rfl)) Via.refl e24 c27_F_a1_loadFailures (g := (mkF m 59 #[.val (.ref a1), .val (.ref a2)] [(.ref a1), (.long (x5 + y5)), (.long (x4 + y4)), (.long (x3 + y3)), (.long (x2 + y2)), (.long (x1 + y1)), (.long (x0 + y0)), (.ref b1), (.ref b1)])) rfl rfl (hb hby D4_59.1)
  refine own_pre (A' := T26.setTop (mkF m 62 #[.val (.ref a1), .val (.ref a2)] [(.long x6), (.long (x5 + y5)), (.long (x4 + y4)), (.long (x3 + y3)), (.long (x2 + y2)), (.long (x1 + y1)), (.long (x0 + y0)), (.ref b1), (.ref b1)])) st26 ?_
  refine o_aloadN X26 hx hby D4_62 rfl rfl ?_
  have c29_F_a2_loadFailures := (Fb_loadFailures.ext E1)
  obtain ⟨T28, X28, e28, st28⟩ := getF X26 hx hZ hown (host := "") (Or.inl (own_wd hw (i := 36) rfl)) Via.refl e26 c29_F_a2_loadFailures (g := (mkF m 63 #[.val (.ref a1), .val (.ref a2)] [(.ref a2), (.long x6), (.long (x5 + y5)), (.long (x4 + y4)), (.long (x3 + y3)), (.long (x2 + y2)), (.long (x1 + y1)), (.long (x0 + y0)), (.ref b1), (.ref b1)])) rfl rfl (hb hby D4_63.1)
  refine own_pre (A' := T28.setTop (mkF m 66 #[.val (.ref a1), .val (.ref a2)] [(.long y6), (.long x6), (.long (x5 + y5)), (.long (x4 + y4)), (.long (x3 + y3)), (.long (x2 + y2)), (.long (x1 + y1)), (.long (x0 + y0)), (.ref b1), (.ref b1)])) st28 ?_
  refine o_ladd X28 hx hby D4_66 ?_
  refine o_aloadN X28 hx hby D4_67 rfl rfl ?_
  have c31_F_a1_localEvictions := (Fa_localEvictions.ext E1)
  obtain ⟨T30, X30, e30, st30⟩ := getF X28 hx hZ hown (host := "") (Or.inl (own_wd hw (i := 38) rfl)) Via.refl e28 c31_F_a1_localEvictions (g := (mkF m 68 #[.val (.ref a1), .val (.ref a2)] [(.ref a1), (.long (x6 + y6)), (.long (x5 + y5)), (.long (x4 + y4)), (.long (x3 + y3)), (.long (x2 + y2)), (.long (x1 + y1)), (.long (x0 + y0)), (.ref b1), (.ref b1)])) rfl rfl (hb hby D4_68.1)
  refine own_pre (A' := T30.setTop (mkF m 71 #[.val (.ref a1), .val (.ref a2)] [(.long x7), (.long (x6 + y6)), (.long (x5 + y5)), (.long (x4 + y4)), (.long (x3 + y3)), (.long (x2 + y2)), (.long (x1 + y1)), (.long (x0 + y0)), (.ref b1), (.ref b1)])) st30 ?_
  refine o_aloadN X30 hx hby D4_71 rfl rfl ?_
  have c33_F_a2_localEvictions := (Fb_localEvictions.ext E1)
  obtain ⟨T32, X32, e32, st32⟩ := getF X30 hx hZ hown (host := "") (Or.inl (own_wd hw (i := 38) rfl)) Via.refl e30 c33_F_a2_localEvictions (g := (mkF m 72 #[.val (.ref a1), .val (.ref a2)] [(.ref a2), (.long x7), (.long (x6 + y6)), (.long (x5 + y5)), (.long (x4 + y4)), (.long (x3 + y3)), (.long (x2 + y2)), (.long (x1 + y1)), (.long (x0 + y0)), (.ref b1), (.ref b1)])) rfl rfl (hb hby D4_72.1)
  refine own_pre (A' := T32.setTop (mkF m 75 #[.val (.ref a1), .val (.ref a2)] [(.long y7), (.long x7), (.long (x6 + y6)), (.long (x5 + y5)), (.long (x4 + y4)), (.long (x3 + y3)), (.long (x2 + y2)), (.long (x1 + y1)), (.long (x0 + y0)), (.ref b1), (.ref b1)])) st32 ?_
  refine o_ladd X32 hx hby D4_75 ?_
  refine o_aloadN X32 hx hby D4_76 rfl rfl ?_
  have c35_F_a1_invalidations := (Fa_invalidations.ext E1)
  obtain ⟨T34, X34, e34, st34⟩ := getF X32 hx hZ hown (host := "") (Or.inl (own_wd hw (i := 40) rfl)) Via.refl e32 c35_F_a1_invalidations (g := (mkF m 77 #[.val (.ref a1), .val (.ref a2)] [(.ref a1), (.long (x7 + y7)), (.long (x6 + y6)), (.long (x5 + y5)), (.long (x4 + y4)), (.long (x3 + y3)), (.long (x2 + y2)), (.long (x1 + y1)), (.long (x0 + y0)), (.ref b1), (.ref b1)])) rfl rfl (hb hby D4_77.1)
  refine own_pre (A' := T34.setTop (mkF m 80 #[.val (.ref a1), .val (.ref a2)] [(.long x8), (.long (x7 + y7)), (.long (x6 + y6)), (.long (x5 + y5)), (.long (x4 + y4)), (.long (x3 + y3)), (.long (x2 + y2)), (.long (x1 + y1)), (.long (x0 + y0)), (.ref b1), (.ref b1)])) st34 ?_
  refine o_aloadN X34 hx hby D4_80 rfl rfl ?_
  have c37_F_a2_invalidations := (Fb_invalidations.ext E1)
  obtain ⟨T36, X36, e36, st36⟩ := getF X34 hx hZ hown (host := "") (Or.inl (own_wd hw (i := 40) rfl)) Via.refl e34 c37_F_a2_invalidations (g := (mkF m 81 #[.val (.ref a1), .val (.ref a2)] [(.ref a2), (.long x8), (.long (x7 + y7)), (.long (x6 + y6)), (.long (x5 + y5)), (.long (x4 + y4)), (.long (x3 + y3)), (.long (x2 + y2)), (.long (x1 + y1)), (.long (x0 + y0)), (.ref b1), (.ref b1)])) rfl rfl (hb hby D4_81.1)
  refine own_pre (A' := T36.setTop (mkF m 84 #[.val (.ref a1), .val (.ref a2)] [(.long y8), (.long x8), (.long (x7 + y7)), (.long (x6 + y6)), (.long (x5 + y5)), (.long (x4 + y4)), (.long (x3 + y3)), (.long (x2 + y2)), (.long (x1 + y1)), (.long (x0 + y0)), (.ref b1), (.ref b1)])) st36 ?_
  refine o_ladd X36 hx hby D4_84 ?_
  refine o_aloadN X36 hx hby D4_85 rfl rfl ?_
  have c39_F_a1_redisErrors := (Fa_redisErrors.ext E1)
  obtain ⟨T38, X38, e38, st38⟩ := getF X36 hx hZ hown (host := "") (Or.inl (own_wd hw (i := 42) rfl)) Via.refl e36 c39_F_a1_redisErrors (g := (mkF m 86 #[.val (.ref a1), .val (.ref a2)] [(.ref a1), (.long (x8 + y8)), (.long (x7 + y7)), (.long (x6 + y6)), (.long (x5 + y5)), (.long (x4 + y4)), (.long (x3 + y3)), (.long (x2 + y2)), (.long (x1 + y1)), (.long (x0 + y0)), (.ref b1), (.ref b1)])) rfl rfl (hb hby D4_86.1)
  refine own_pre (A' := T38.setTop (mkF m 89 #[.val (.ref a1), .val (.ref a2)] [(.long x9), (.long (x8 + y8)), (.long (x7 + y7)), (.long (x6 + y6)), (.long (x5 + y5)), (.long (x4 + y4)), (.long (x3 + y3)), (.long (x2 + y2)), (.long (x1 + y1)), (.long (x0 + y0)), (.ref b1), (.ref b1)])) st38 ?_
  refine o_aloadN X38 hx hby D4_89 rfl rfl ?_
  have c41_F_a2_redisErrors := (Fb_redisErrors.ext E1)
  obtain ⟨T40, X40, e40, st40⟩ := getF X38 hx hZ hown (host := "") (Or.inl (own_wd hw (i := 42) rfl)) Via.refl e38 c41_F_a2_redisErrors (g := (mkF m 90 #[.val (.ref a1), .val (.ref a2)] [(.ref a2), (.long x9), (.long (x8 + y8)), (.long (x7 + y7)), (.long (x6 + y6)), (.long (x5 + y5)), (.long (x4 + y4)), (.long (x3 + y3)), (.long (x2 + y2)), (.long (x1 + y1)), (.long (x0 + y0)), (.ref b1), (.ref b1)])) rfl rfl (hb hby D4_90.1)
  refine own_pre (A' := T40.setTop (mkF m 93 #[.val (.ref a1), .val (.ref a2)] [(.long y9), (.long x9), (.long (x8 + y8)), (.long (x7 + y7)), (.long (x6 + y6)), (.long (x5 + y5)), (.long (x4 + y4)), (.long (x3 + y3)), (.long (x2 + y2)), (.long (x1 + y1)), (.long (x0 + y0)), (.ref b1), (.ref b1)])) st40 ?_
  refine o_ladd X40 hx hby D4_93 ?_
  obtain ⟨_, _, ⟨T42, L42, k42, n42⟩, -, X42, ⟨Lc42, hQ42, l42, y42, z42⟩, st42⟩ := X40.specialBack hx (y := (⟨"dev/twotier/CacheCounters", "<init>", "(JJJJJJJJJJ)V"⟩ : MethodName)) rfl hown (mvT hZ (own_wd hw (i := 50) rfl)) (mvT hZ (own_wd hw (i := 14) rfl)) (mvT hZ (own_wd hw (i := 15) rfl)) (by decide) (backOf (W := 1) (rmI l Z a0 hw [] b1 (x0 + y0) (x1 + y1) (x2 + y2) (x3 + y3) (x4 + y4) (x5 + y5) (x6 + y6) (x7 + y7) (x8 + y8) (x9 + y9) _ _ _ _ _ _ _ _ _ _ h1 n0 (own_leN (by omega)) gn_b1 A1 F_localHits_b1 F_localMisses_b1 F_redisHits_b1 F_redisMisses_b1 F_puts_b1 F_loadSuccesses_b1 F_loadFailures_b1 F_localEvictions_b1 F_invalidations_b1 F_redisErrors_b1) hZ (own_wd hw (i := 15) rfl) (own_wd hw (i := 12) rfl) (by decide) (by decide)) (g := (mkF m 94 #[.val (.ref a1), .val (.ref a2)] [(.long (x9 + y9)), (.long (x8 + y8)), (.long (x7 + y7)), (.long (x6 + y6)), (.long (x5 + y5)), (.long (x4 + y4)), (.long (x3 + y3)), (.long (x2 + y2)), (.long (x1 + y1)), (.long (x0 + y0)), (.ref b1), (.ref b1)])) rfl (by rw [hml]; rfl) (Steps.refl _) (a := b1) (argsL := [(.long (x0 + y0)), (.long (x1 + y1)), (.long (x2 + y2)), (.long (x3 + y3)), (.long (x4 + y4)), (.long (x5 + y5)), (.long (x6 + y6)), (.long (x7 + y7)), (.long (x8 + y8)), (.long (x9 + y9))]) (rest := [(.ref b1)]) (lenOf pd__40JJJJJJJJJJ_41V rfl) rfl (by show 2 * 0 + _ ≤ _; exact Nat.le_of_eq rfl) (hb hby D4_94.1) (fun _ _ => ⟨rfl, e40, (by decide : 1 + 0 ≤ _), (by decide : 10 + 0 ≤ _)⟩)
  dsimp only [Pt.U, Pt.locs, Pt.cells, Pt.slots] at X42 l42 y42 z42 st42 hQ42
  subst l42 y42 z42
  obtain ⟨rfl, N42q, K42, Ei42, Fi42_localHits, Fi42_localMisses, Fi42_redisHits, Fi42_redisMisses, Fi42_puts, Fi42_loadSuccesses, Fi42_loadFailures, Fi42_localEvictions, Fi42_invalidations, Fi42_redisErrors⟩ := hQ42
  have sz42 := own_leN K42.1
  have N42 := Fr.app N0 N42q
  refine own_pre (A' := T42.setTop (mkF m 97 #[.val (.ref a1), .val (.ref a2)] [(.ref b1)])) (fun t k => st42.trans k) ?_
  have KK : Keep h0 T42.heap [] := (((Keep.refl h0 []).ext E1).trans K42 (allS (Or.inr (own_leN (by omega))) all0))
  exact own_ret (v := some (.ref b1)) X42 (fun h => by first | rfl | (rw [Bd.returns] at h; cases h)) (BodyLoose.notSynchronized Bd) (by decide) (by decide) (⟨b1, rfl, N42, KK, Ei42, Fi42_localHits, Fi42_localMisses, Fi42_redisHits, Fi42_redisMisses, Fi42_puts, Fi42_loadSuccesses, Fi42_loadFailures, Fi42_localEvictions, Fi42_invalidations, Fi42_redisErrors⟩) (fun fs hr => retOut X42 hx Bd.returns rfl (Or.inr (Or.inr (Or.inr (Or.inr ⟨rfl, rfl, rfl⟩)))) (hb hby D4_97.1) hr)
theorem D5_0 : own_at prog_3_method_6_code 0 (.aload_n 0) 1 1 := ⟨by decide +kernel, rfl⟩
theorem D5_1 : own_at prog_3_method_6_code 1 (.getfield 7) 3 4 := ⟨by decide +kernel, rfl⟩
theorem D5_4 : own_at prog_3_method_6_code 4 (.lreturn) 1 5 := ⟨by decide +kernel, rfl⟩
theorem ef_rmG_localHits (m : MethodId) (a1 : Addr) : entryFrame m #[(.ref a1)] 1 = mkF m 0 #[.val (.ref a1)] [] := by first | (simp [entryFrame, mkF, argsToLocals, Value.category]; done) | rfl
set_option maxRecDepth 65536 in
set_option maxHeartbeats 40000000 in
theorem rmG_localHits (l : Launch) (Z : State) (a0 : Array Value) (hw : ∀ d ∈ tables_1, d.before a0 Z = true) (ws : List Jvm.Cond) (a1 : Addr) (x0 : Int64) (h0 : Heap) (n0 : Nat) (Z0 : n0 ≤ h0.size) (F0 : Fld Z h0 a1 "dev/twotier/CacheCounters" "localHits" "J" (.long x0)) :
    MetFree l (⟨"dev/twotier/CacheCounters", "localHits", "()J"⟩ : MethodName) (head1 (Jvm.Cond.code (⟨"dev/twotier/CacheCounters", "localHits", "()J"⟩ : MethodName) prog_3_method_6_code 1 (some .long) :: ws) ({ frames := 0, cells := 0, slots := 0, locals := 0 } : Room)) (fun a U => a = #[(.ref a1)] ∧ Z.Warmed39 U.vm ∧ U.heap = h0) (fun _ _ _ _ _ => True) (fun _ U o U' => ∃ v L, o = .returned v ∧ own_QP (.long x0) h0 n0 v U'.heap L ∧ FrameEnd U o U' L ({ frames := 0, cells := 0, slots := 0, locals := 0 } : Room).cells ({ frames := 0, cells := 0, slots := 0, locals := 0 } : Room).slots) := by
  refine MetFree.of_bodySF (plainFor_of_name pn_dev_twotier_CacheCounters) hisR ?_
  intro p e s m args below meth c s₁ Bd hml0 hP hK
  obtain ⟨rfl, hZ, hh⟩ := hP
  have hx := Bd.exec
  have hby := Bd.bytes
  have hml : c.maxLocals = 1 := hml0
  have hown : s.vm.findClass "dev/twotier/CacheCounters" = some m.cls := findClass_of_methodNamed Bd.named
  have hnm := (name_of_methodNamed Bd.named Bd.method).1
  have X0 : Stand p l e ({ frames := 0, cells := 0, slots := 0, locals := 0 } : Room) s m #[(.ref a1)] below meth c s₁ [] 0 0 := Stand.of_body Bd
  have e0 : s₁.heap = h0 := by rw [← hh, Bd.state]; rfl
  have N0 := Fr.nil n0
  refine own_start (ef_rmG_localHits m a1) ?_
  refine o_aloadN X0 hx hby D5_0 rfl rfl ?_
  obtain ⟨T1, X1, e1, st1⟩ := getF X0 hx hZ hown (host := "") (Or.inl (own_wd hw (i := 24) rfl)) Via.refl e0 F0 (g := (mkF m 1 #[.val (.ref a1)] [(.ref a1)])) rfl rfl (hb hby D5_1.1)
  refine own_pre (A' := T1.setTop (mkF m 4 #[.val (.ref a1)] [(.long x0)])) st1 ?_
  exact own_ret (v := some (.long x0)) X1 (fun h => by first | rfl | (rw [Bd.returns] at h; cases h)) (BodyLoose.notSynchronized Bd) (by decide) (by decide) (⟨rfl, N0, e1⟩) (fun fs hr => X1.lreturnOut hx Bd.returns (hb hby D5_4.1) hr)
theorem D6_0 : own_at prog_3_method_7_code 0 (.aload_n 0) 1 1 := ⟨by decide +kernel, rfl⟩
theorem D6_1 : own_at prog_3_method_7_code 1 (.getfield 13) 3 4 := ⟨by decide +kernel, rfl⟩
theorem D6_4 : own_at prog_3_method_7_code 4 (.lreturn) 1 5 := ⟨by decide +kernel, rfl⟩
theorem ef_rmG_localMisses (m : MethodId) (a1 : Addr) : entryFrame m #[(.ref a1)] 1 = mkF m 0 #[.val (.ref a1)] [] := by first | (simp [entryFrame, mkF, argsToLocals, Value.category]; done) | rfl
set_option maxRecDepth 65536 in
set_option maxHeartbeats 40000000 in
theorem rmG_localMisses (l : Launch) (Z : State) (a0 : Array Value) (hw : ∀ d ∈ tables_1, d.before a0 Z = true) (ws : List Jvm.Cond) (a1 : Addr) (x0 : Int64) (h0 : Heap) (n0 : Nat) (Z0 : n0 ≤ h0.size) (F0 : Fld Z h0 a1 "dev/twotier/CacheCounters" "localMisses" "J" (.long x0)) :
    MetFree l (⟨"dev/twotier/CacheCounters", "localMisses", "()J"⟩ : MethodName) (head1 (Jvm.Cond.code (⟨"dev/twotier/CacheCounters", "localMisses", "()J"⟩ : MethodName) prog_3_method_7_code 1 (some .long) :: ws) ({ frames := 0, cells := 0, slots := 0, locals := 0 } : Room)) (fun a U => a = #[(.ref a1)] ∧ Z.Warmed39 U.vm ∧ U.heap = h0) (fun _ _ _ _ _ => True) (fun _ U o U' => ∃ v L, o = .returned v ∧ own_QP (.long x0) h0 n0 v U'.heap L ∧ FrameEnd U o U' L ({ frames := 0, cells := 0, slots := 0, locals := 0 } : Room).cells ({ frames := 0, cells := 0, slots := 0, locals := 0 } : Room).slots) := by
  refine MetFree.of_bodySF (plainFor_of_name pn_dev_twotier_CacheCounters) hisR ?_
  intro p e s m args below meth c s₁ Bd hml0 hP hK
  obtain ⟨rfl, hZ, hh⟩ := hP
  have hx := Bd.exec
  have hby := Bd.bytes
  have hml : c.maxLocals = 1 := hml0
  have hown : s.vm.findClass "dev/twotier/CacheCounters" = some m.cls := findClass_of_methodNamed Bd.named
  have hnm := (name_of_methodNamed Bd.named Bd.method).1
  have X0 : Stand p l e ({ frames := 0, cells := 0, slots := 0, locals := 0 } : Room) s m #[(.ref a1)] below meth c s₁ [] 0 0 := Stand.of_body Bd
  have e0 : s₁.heap = h0 := by rw [← hh, Bd.state]; rfl
  have N0 := Fr.nil n0
  refine own_start (ef_rmG_localMisses m a1) ?_
  refine o_aloadN X0 hx hby D6_0 rfl rfl ?_
  obtain ⟨T1, X1, e1, st1⟩ := getF X0 hx hZ hown (host := "") (Or.inl (own_wd hw (i := 26) rfl)) Via.refl e0 F0 (g := (mkF m 1 #[.val (.ref a1)] [(.ref a1)])) rfl rfl (hb hby D6_1.1)
  refine own_pre (A' := T1.setTop (mkF m 4 #[.val (.ref a1)] [(.long x0)])) st1 ?_
  exact own_ret (v := some (.long x0)) X1 (fun h => by first | rfl | (rw [Bd.returns] at h; cases h)) (BodyLoose.notSynchronized Bd) (by decide) (by decide) (⟨rfl, N0, e1⟩) (fun fs hr => X1.lreturnOut hx Bd.returns (hb hby D6_4.1) hr)
theorem D7_0 : own_at prog_3_method_8_code 0 (.aload_n 0) 1 1 := ⟨by decide +kernel, rfl⟩
theorem D7_1 : own_at prog_3_method_8_code 1 (.getfield 16) 3 4 := ⟨by decide +kernel, rfl⟩
theorem D7_4 : own_at prog_3_method_8_code 4 (.lreturn) 1 5 := ⟨by decide +kernel, rfl⟩
theorem ef_rmG_redisHits (m : MethodId) (a1 : Addr) : entryFrame m #[(.ref a1)] 1 = mkF m 0 #[.val (.ref a1)] [] := by first | (simp [entryFrame, mkF, argsToLocals, Value.category]; done) | rfl
set_option maxRecDepth 65536 in
set_option maxHeartbeats 40000000 in
theorem rmG_redisHits (l : Launch) (Z : State) (a0 : Array Value) (hw : ∀ d ∈ tables_1, d.before a0 Z = true) (ws : List Jvm.Cond) (a1 : Addr) (x0 : Int64) (h0 : Heap) (n0 : Nat) (Z0 : n0 ≤ h0.size) (F0 : Fld Z h0 a1 "dev/twotier/CacheCounters" "redisHits" "J" (.long x0)) :
    MetFree l (⟨"dev/twotier/CacheCounters", "redisHits", "()J"⟩ : MethodName) (head1 (Jvm.Cond.code (⟨"dev/twotier/CacheCounters", "redisHits", "()J"⟩ : MethodName) prog_3_method_8_code 1 (some .long) :: ws) ({ frames := 0, cells := 0, slots := 0, locals := 0 } : Room)) (fun a U => a = #[(.ref a1)] ∧ Z.Warmed39 U.vm ∧ U.heap = h0) (fun _ _ _ _ _ => True) (fun _ U o U' => ∃ v L, o = .returned v ∧ own_QP (.long x0) h0 n0 v U'.heap L ∧ FrameEnd U o U' L ({ frames := 0, cells := 0, slots := 0, locals := 0 } : Room).cells ({ frames := 0, cells := 0, slots := 0, locals := 0 } : Room).slots) := by
  refine MetFree.of_bodySF (plainFor_of_name pn_dev_twotier_CacheCounters) hisR ?_
  intro p e s m args below meth c s₁ Bd hml0 hP hK
  obtain ⟨rfl, hZ, hh⟩ := hP
  have hx := Bd.exec
  have hby := Bd.bytes
  have hml : c.maxLocals = 1 := hml0
  have hown : s.vm.findClass "dev/twotier/CacheCounters" = some m.cls := findClass_of_methodNamed Bd.named
  have hnm := (name_of_methodNamed Bd.named Bd.method).1
  have X0 : Stand p l e ({ frames := 0, cells := 0, slots := 0, locals := 0 } : Room) s m #[(.ref a1)] below meth c s₁ [] 0 0 := Stand.of_body Bd
  have e0 : s₁.heap = h0 := by rw [← hh, Bd.state]; rfl
  have N0 := Fr.nil n0
  refine own_start (ef_rmG_redisHits m a1) ?_
  refine o_aloadN X0 hx hby D7_0 rfl rfl ?_
  obtain ⟨T1, X1, e1, st1⟩ := getF X0 hx hZ hown (host := "") (Or.inl (own_wd hw (i := 28) rfl)) Via.refl e0 F0 (g := (mkF m 1 #[.val (.ref a1)] [(.ref a1)])) rfl rfl (hb hby D7_1.1)
  refine own_pre (A' := T1.setTop (mkF m 4 #[.val (.ref a1)] [(.long x0)])) st1 ?_
  exact own_ret (v := some (.long x0)) X1 (fun h => by first | rfl | (rw [Bd.returns] at h; cases h)) (BodyLoose.notSynchronized Bd) (by decide) (by decide) (⟨rfl, N0, e1⟩) (fun fs hr => X1.lreturnOut hx Bd.returns (hb hby D7_4.1) hr)
theorem D8_0 : own_at prog_3_method_9_code 0 (.aload_n 0) 1 1 := ⟨by decide +kernel, rfl⟩
theorem D8_1 : own_at prog_3_method_9_code 1 (.getfield 19) 3 4 := ⟨by decide +kernel, rfl⟩
theorem D8_4 : own_at prog_3_method_9_code 4 (.lreturn) 1 5 := ⟨by decide +kernel, rfl⟩
theorem ef_rmG_redisMisses (m : MethodId) (a1 : Addr) : entryFrame m #[(.ref a1)] 1 = mkF m 0 #[.val (.ref a1)] [] := by first | (simp [entryFrame, mkF, argsToLocals, Value.category]; done) | rfl
set_option maxRecDepth 65536 in
set_option maxHeartbeats 40000000 in
theorem rmG_redisMisses (l : Launch) (Z : State) (a0 : Array Value) (hw : ∀ d ∈ tables_1, d.before a0 Z = true) (ws : List Jvm.Cond) (a1 : Addr) (x0 : Int64) (h0 : Heap) (n0 : Nat) (Z0 : n0 ≤ h0.size) (F0 : Fld Z h0 a1 "dev/twotier/CacheCounters" "redisMisses" "J" (.long x0)) :
    MetFree l (⟨"dev/twotier/CacheCounters", "redisMisses", "()J"⟩ : MethodName) (head1 (Jvm.Cond.code (⟨"dev/twotier/CacheCounters", "redisMisses", "()J"⟩ : MethodName) prog_3_method_9_code 1 (some .long) :: ws) ({ frames := 0, cells := 0, slots := 0, locals := 0 } : Room)) (fun a U => a = #[(.ref a1)] ∧ Z.Warmed39 U.vm ∧ U.heap = h0) (fun _ _ _ _ _ => True) (fun _ U o U' => ∃ v L, o = .returned v ∧ own_QP (.long x0) h0 n0 v U'.heap L ∧ FrameEnd U o U' L ({ frames := 0, cells := 0, slots := 0, locals := 0 } : Room).cells ({ frames := 0, cells := 0, slots := 0, locals := 0 } : Room).slots) := by
  refine MetFree.of_bodySF (plainFor_of_name pn_dev_twotier_CacheCounters) hisR ?_
  intro p e s m args below meth c s₁ Bd hml0 hP hK
  obtain ⟨rfl, hZ, hh⟩ := hP
  have hx := Bd.exec
  have hby := Bd.bytes
  have hml : c.maxLocals = 1 := hml0
  have hown : s.vm.findClass "dev/twotier/CacheCounters" = some m.cls := findClass_of_methodNamed Bd.named
  have hnm := (name_of_methodNamed Bd.named Bd.method).1
  have X0 : Stand p l e ({ frames := 0, cells := 0, slots := 0, locals := 0 } : Room) s m #[(.ref a1)] below meth c s₁ [] 0 0 := Stand.of_body Bd
  have e0 : s₁.heap = h0 := by rw [← hh, Bd.state]; rfl
  have N0 := Fr.nil n0
  refine own_start (ef_rmG_redisMisses m a1) ?_
  refine o_aloadN X0 hx hby D8_0 rfl rfl ?_
  obtain ⟨T1, X1, e1, st1⟩ := getF X0 hx hZ hown (host := "") (Or.inl (own_wd hw (i := 30) rfl)) Via.refl e0 F0 (g := (mkF m 1 #[.val (.ref a1)] [(.ref a1)])) rfl rfl (hb hby D8_1.1)
  refine own_pre (A' := T1.setTop (mkF m 4 #[.val (.ref a1)] [(.long x0)])) st1 ?_
  exact own_ret (v := some (.long x0)) X1 (fun h => by first | rfl | (rw [Bd.returns] at h; cases h)) (BodyLoose.notSynchronized Bd) (by decide) (by decide) (⟨rfl, N0, e1⟩) (fun fs hr => X1.lreturnOut hx Bd.returns (hb hby D8_4.1) hr)
theorem D9_0 : own_at prog_3_method_10_code 0 (.aload_n 0) 1 1 := ⟨by decide +kernel, rfl⟩
theorem D9_1 : own_at prog_3_method_10_code 1 (.getfield 22) 3 4 := ⟨by decide +kernel, rfl⟩
theorem D9_4 : own_at prog_3_method_10_code 4 (.lreturn) 1 5 := ⟨by decide +kernel, rfl⟩
theorem ef_rmG_puts (m : MethodId) (a1 : Addr) : entryFrame m #[(.ref a1)] 1 = mkF m 0 #[.val (.ref a1)] [] := by first | (simp [entryFrame, mkF, argsToLocals, Value.category]; done) | rfl
set_option maxRecDepth 65536 in
set_option maxHeartbeats 40000000 in
theorem rmG_puts (l : Launch) (Z : State) (a0 : Array Value) (hw : ∀ d ∈ tables_1, d.before a0 Z = true) (ws : List Jvm.Cond) (a1 : Addr) (x0 : Int64) (h0 : Heap) (n0 : Nat) (Z0 : n0 ≤ h0.size) (F0 : Fld Z h0 a1 "dev/twotier/CacheCounters" "puts" "J" (.long x0)) :
    MetFree l (⟨"dev/twotier/CacheCounters", "puts", "()J"⟩ : MethodName) (head1 (Jvm.Cond.code (⟨"dev/twotier/CacheCounters", "puts", "()J"⟩ : MethodName) prog_3_method_10_code 1 (some .long) :: ws) ({ frames := 0, cells := 0, slots := 0, locals := 0 } : Room)) (fun a U => a = #[(.ref a1)] ∧ Z.Warmed39 U.vm ∧ U.heap = h0) (fun _ _ _ _ _ => True) (fun _ U o U' => ∃ v L, o = .returned v ∧ own_QP (.long x0) h0 n0 v U'.heap L ∧ FrameEnd U o U' L ({ frames := 0, cells := 0, slots := 0, locals := 0 } : Room).cells ({ frames := 0, cells := 0, slots := 0, locals := 0 } : Room).slots) := by
  refine MetFree.of_bodySF (plainFor_of_name pn_dev_twotier_CacheCounters) hisR ?_
  intro p e s m args below meth c s₁ Bd hml0 hP hK
  obtain ⟨rfl, hZ, hh⟩ := hP
  have hx := Bd.exec
  have hby := Bd.bytes
  have hml : c.maxLocals = 1 := hml0
  have hown : s.vm.findClass "dev/twotier/CacheCounters" = some m.cls := findClass_of_methodNamed Bd.named
  have hnm := (name_of_methodNamed Bd.named Bd.method).1
  have X0 : Stand p l e ({ frames := 0, cells := 0, slots := 0, locals := 0 } : Room) s m #[(.ref a1)] below meth c s₁ [] 0 0 := Stand.of_body Bd
  have e0 : s₁.heap = h0 := by rw [← hh, Bd.state]; rfl
  have N0 := Fr.nil n0
  refine own_start (ef_rmG_puts m a1) ?_
  refine o_aloadN X0 hx hby D9_0 rfl rfl ?_
  obtain ⟨T1, X1, e1, st1⟩ := getF X0 hx hZ hown (host := "") (Or.inl (own_wd hw (i := 32) rfl)) Via.refl e0 F0 (g := (mkF m 1 #[.val (.ref a1)] [(.ref a1)])) rfl rfl (hb hby D9_1.1)
  refine own_pre (A' := T1.setTop (mkF m 4 #[.val (.ref a1)] [(.long x0)])) st1 ?_
  exact own_ret (v := some (.long x0)) X1 (fun h => by first | rfl | (rw [Bd.returns] at h; cases h)) (BodyLoose.notSynchronized Bd) (by decide) (by decide) (⟨rfl, N0, e1⟩) (fun fs hr => X1.lreturnOut hx Bd.returns (hb hby D9_4.1) hr)
theorem D10_0 : own_at prog_3_method_11_code 0 (.aload_n 0) 1 1 := ⟨by decide +kernel, rfl⟩
theorem D10_1 : own_at prog_3_method_11_code 1 (.getfield 25) 3 4 := ⟨by decide +kernel, rfl⟩
theorem D10_4 : own_at prog_3_method_11_code 4 (.lreturn) 1 5 := ⟨by decide +kernel, rfl⟩
theorem ef_rmG_loadSuccesses (m : MethodId) (a1 : Addr) : entryFrame m #[(.ref a1)] 1 = mkF m 0 #[.val (.ref a1)] [] := by first | (simp [entryFrame, mkF, argsToLocals, Value.category]; done) | rfl
set_option maxRecDepth 65536 in
set_option maxHeartbeats 40000000 in
theorem rmG_loadSuccesses (l : Launch) (Z : State) (a0 : Array Value) (hw : ∀ d ∈ tables_1, d.before a0 Z = true) (ws : List Jvm.Cond) (a1 : Addr) (x0 : Int64) (h0 : Heap) (n0 : Nat) (Z0 : n0 ≤ h0.size) (F0 : Fld Z h0 a1 "dev/twotier/CacheCounters" "loadSuccesses" "J" (.long x0)) :
    MetFree l (⟨"dev/twotier/CacheCounters", "loadSuccesses", "()J"⟩ : MethodName) (head1 (Jvm.Cond.code (⟨"dev/twotier/CacheCounters", "loadSuccesses", "()J"⟩ : MethodName) prog_3_method_11_code 1 (some .long) :: ws) ({ frames := 0, cells := 0, slots := 0, locals := 0 } : Room)) (fun a U => a = #[(.ref a1)] ∧ Z.Warmed39 U.vm ∧ U.heap = h0) (fun _ _ _ _ _ => True) (fun _ U o U' => ∃ v L, o = .returned v ∧ own_QP (.long x0) h0 n0 v U'.heap L ∧ FrameEnd U o U' L ({ frames := 0, cells := 0, slots := 0, locals := 0 } : Room).cells ({ frames := 0, cells := 0, slots := 0, locals := 0 } : Room).slots) := by
  refine MetFree.of_bodySF (plainFor_of_name pn_dev_twotier_CacheCounters) hisR ?_
  intro p e s m args below meth c s₁ Bd hml0 hP hK
  obtain ⟨rfl, hZ, hh⟩ := hP
  have hx := Bd.exec
  have hby := Bd.bytes
  have hml : c.maxLocals = 1 := hml0
  have hown : s.vm.findClass "dev/twotier/CacheCounters" = some m.cls := findClass_of_methodNamed Bd.named
  have hnm := (name_of_methodNamed Bd.named Bd.method).1
  have X0 : Stand p l e ({ frames := 0, cells := 0, slots := 0, locals := 0 } : Room) s m #[(.ref a1)] below meth c s₁ [] 0 0 := Stand.of_body Bd
  have e0 : s₁.heap = h0 := by rw [← hh, Bd.state]; rfl
  have N0 := Fr.nil n0
  refine own_start (ef_rmG_loadSuccesses m a1) ?_
  refine o_aloadN X0 hx hby D10_0 rfl rfl ?_
  obtain ⟨T1, X1, e1, st1⟩ := getF X0 hx hZ hown (host := "") (Or.inl (own_wd hw (i := 34) rfl)) Via.refl e0 F0 (g := (mkF m 1 #[.val (.ref a1)] [(.ref a1)])) rfl rfl (hb hby D10_1.1)
  refine own_pre (A' := T1.setTop (mkF m 4 #[.val (.ref a1)] [(.long x0)])) st1 ?_
  exact own_ret (v := some (.long x0)) X1 (fun h => by first | rfl | (rw [Bd.returns] at h; cases h)) (BodyLoose.notSynchronized Bd) (by decide) (by decide) (⟨rfl, N0, e1⟩) (fun fs hr => X1.lreturnOut hx Bd.returns (hb hby D10_4.1) hr)
theorem D11_0 : own_at prog_3_method_12_code 0 (.aload_n 0) 1 1 := ⟨by decide +kernel, rfl⟩
theorem D11_1 : own_at prog_3_method_12_code 1 (.getfield 28) 3 4 := ⟨by decide +kernel, rfl⟩
theorem D11_4 : own_at prog_3_method_12_code 4 (.lreturn) 1 5 := ⟨by decide +kernel, rfl⟩
theorem ef_rmG_loadFailures (m : MethodId) (a1 : Addr) : entryFrame m #[(.ref a1)] 1 = mkF m 0 #[.val (.ref a1)] [] := by first | (simp [entryFrame, mkF, argsToLocals, Value.category]; done) | rfl
set_option maxRecDepth 65536 in
set_option maxHeartbeats 40000000 in
theorem rmG_loadFailures (l : Launch) (Z : State) (a0 : Array Value) (hw : ∀ d ∈ tables_1, d.before a0 Z = true) (ws : List Jvm.Cond) (a1 : Addr) (x0 : Int64) (h0 : Heap) (n0 : Nat) (Z0 : n0 ≤ h0.size) (F0 : Fld Z h0 a1 "dev/twotier/CacheCounters" "loadFailures" "J" (.long x0)) :
    MetFree l (⟨"dev/twotier/CacheCounters", "loadFailures", "()J"⟩ : MethodName) (head1 (Jvm.Cond.code (⟨"dev/twotier/CacheCounters", "loadFailures", "()J"⟩ : MethodName) prog_3_method_12_code 1 (some .long) :: ws) ({ frames := 0, cells := 0, slots := 0, locals := 0 } : Room)) (fun a U => a = #[(.ref a1)] ∧ Z.Warmed39 U.vm ∧ U.heap = h0) (fun _ _ _ _ _ => True) (fun _ U o U' => ∃ v L, o = .returned v ∧ own_QP (.long x0) h0 n0 v U'.heap L ∧ FrameEnd U o U' L ({ frames := 0, cells := 0, slots := 0, locals := 0 } : Room).cells ({ frames := 0, cells := 0, slots := 0, locals := 0 } : Room).slots) := by
  refine MetFree.of_bodySF (plainFor_of_name pn_dev_twotier_CacheCounters) hisR ?_
  intro p e s m args below meth c s₁ Bd hml0 hP hK
  obtain ⟨rfl, hZ, hh⟩ := hP
  have hx := Bd.exec
  have hby := Bd.bytes
  have hml : c.maxLocals = 1 := hml0
  have hown : s.vm.findClass "dev/twotier/CacheCounters" = some m.cls := findClass_of_methodNamed Bd.named
  have hnm := (name_of_methodNamed Bd.named Bd.method).1
  have X0 : Stand p l e ({ frames := 0, cells := 0, slots := 0, locals := 0 } : Room) s m #[(.ref a1)] below meth c s₁ [] 0 0 := Stand.of_body Bd
  have e0 : s₁.heap = h0 := by rw [← hh, Bd.state]; rfl
  have N0 := Fr.nil n0
  refine own_start (ef_rmG_loadFailures m a1) ?_
  refine o_aloadN X0 hx hby D11_0 rfl rfl ?_
  obtain ⟨T1, X1, e1, st1⟩ := getF X0 hx hZ hown (host := "") (Or.inl (own_wd hw (i := 36) rfl)) Via.refl e0 F0 (g := (mkF m 1 #[.val (.ref a1)] [(.ref a1)])) rfl rfl (hb hby D11_1.1)
  refine own_pre (A' := T1.setTop (mkF m 4 #[.val (.ref a1)] [(.long x0)])) st1 ?_
  exact own_ret (v := some (.long x0)) X1 (fun h => by first | rfl | (rw [Bd.returns] at h; cases h)) (BodyLoose.notSynchronized Bd) (by decide) (by decide) (⟨rfl, N0, e1⟩) (fun fs hr => X1.lreturnOut hx Bd.returns (hb hby D11_4.1) hr)
theorem D12_0 : own_at prog_3_method_13_code 0 (.aload_n 0) 1 1 := ⟨by decide +kernel, rfl⟩
theorem D12_1 : own_at prog_3_method_13_code 1 (.getfield 31) 3 4 := ⟨by decide +kernel, rfl⟩
theorem D12_4 : own_at prog_3_method_13_code 4 (.lreturn) 1 5 := ⟨by decide +kernel, rfl⟩
theorem ef_rmG_localEvictions (m : MethodId) (a1 : Addr) : entryFrame m #[(.ref a1)] 1 = mkF m 0 #[.val (.ref a1)] [] := by first | (simp [entryFrame, mkF, argsToLocals, Value.category]; done) | rfl
set_option maxRecDepth 65536 in
set_option maxHeartbeats 40000000 in
theorem rmG_localEvictions (l : Launch) (Z : State) (a0 : Array Value) (hw : ∀ d ∈ tables_1, d.before a0 Z = true) (ws : List Jvm.Cond) (a1 : Addr) (x0 : Int64) (h0 : Heap) (n0 : Nat) (Z0 : n0 ≤ h0.size) (F0 : Fld Z h0 a1 "dev/twotier/CacheCounters" "localEvictions" "J" (.long x0)) :
    MetFree l (⟨"dev/twotier/CacheCounters", "localEvictions", "()J"⟩ : MethodName) (head1 (Jvm.Cond.code (⟨"dev/twotier/CacheCounters", "localEvictions", "()J"⟩ : MethodName) prog_3_method_13_code 1 (some .long) :: ws) ({ frames := 0, cells := 0, slots := 0, locals := 0 } : Room)) (fun a U => a = #[(.ref a1)] ∧ Z.Warmed39 U.vm ∧ U.heap = h0) (fun _ _ _ _ _ => True) (fun _ U o U' => ∃ v L, o = .returned v ∧ own_QP (.long x0) h0 n0 v U'.heap L ∧ FrameEnd U o U' L ({ frames := 0, cells := 0, slots := 0, locals := 0 } : Room).cells ({ frames := 0, cells := 0, slots := 0, locals := 0 } : Room).slots) := by
  refine MetFree.of_bodySF (plainFor_of_name pn_dev_twotier_CacheCounters) hisR ?_
  intro p e s m args below meth c s₁ Bd hml0 hP hK
  obtain ⟨rfl, hZ, hh⟩ := hP
  have hx := Bd.exec
  have hby := Bd.bytes
  have hml : c.maxLocals = 1 := hml0
  have hown : s.vm.findClass "dev/twotier/CacheCounters" = some m.cls := findClass_of_methodNamed Bd.named
  have hnm := (name_of_methodNamed Bd.named Bd.method).1
  have X0 : Stand p l e ({ frames := 0, cells := 0, slots := 0, locals := 0 } : Room) s m #[(.ref a1)] below meth c s₁ [] 0 0 := Stand.of_body Bd
  have e0 : s₁.heap = h0 := by rw [← hh, Bd.state]; rfl
  have N0 := Fr.nil n0
  refine own_start (ef_rmG_localEvictions m a1) ?_
  refine o_aloadN X0 hx hby D12_0 rfl rfl ?_
  obtain ⟨T1, X1, e1, st1⟩ := getF X0 hx hZ hown (host := "") (Or.inl (own_wd hw (i := 38) rfl)) Via.refl e0 F0 (g := (mkF m 1 #[.val (.ref a1)] [(.ref a1)])) rfl rfl (hb hby D12_1.1)
  refine own_pre (A' := T1.setTop (mkF m 4 #[.val (.ref a1)] [(.long x0)])) st1 ?_
  exact own_ret (v := some (.long x0)) X1 (fun h => by first | rfl | (rw [Bd.returns] at h; cases h)) (BodyLoose.notSynchronized Bd) (by decide) (by decide) (⟨rfl, N0, e1⟩) (fun fs hr => X1.lreturnOut hx Bd.returns (hb hby D12_4.1) hr)
theorem D13_0 : own_at prog_3_method_14_code 0 (.aload_n 0) 1 1 := ⟨by decide +kernel, rfl⟩
theorem D13_1 : own_at prog_3_method_14_code 1 (.getfield 34) 3 4 := ⟨by decide +kernel, rfl⟩
theorem D13_4 : own_at prog_3_method_14_code 4 (.lreturn) 1 5 := ⟨by decide +kernel, rfl⟩
theorem ef_rmG_invalidations (m : MethodId) (a1 : Addr) : entryFrame m #[(.ref a1)] 1 = mkF m 0 #[.val (.ref a1)] [] := by first | (simp [entryFrame, mkF, argsToLocals, Value.category]; done) | rfl
set_option maxRecDepth 65536 in
set_option maxHeartbeats 40000000 in
theorem rmG_invalidations (l : Launch) (Z : State) (a0 : Array Value) (hw : ∀ d ∈ tables_1, d.before a0 Z = true) (ws : List Jvm.Cond) (a1 : Addr) (x0 : Int64) (h0 : Heap) (n0 : Nat) (Z0 : n0 ≤ h0.size) (F0 : Fld Z h0 a1 "dev/twotier/CacheCounters" "invalidations" "J" (.long x0)) :
    MetFree l (⟨"dev/twotier/CacheCounters", "invalidations", "()J"⟩ : MethodName) (head1 (Jvm.Cond.code (⟨"dev/twotier/CacheCounters", "invalidations", "()J"⟩ : MethodName) prog_3_method_14_code 1 (some .long) :: ws) ({ frames := 0, cells := 0, slots := 0, locals := 0 } : Room)) (fun a U => a = #[(.ref a1)] ∧ Z.Warmed39 U.vm ∧ U.heap = h0) (fun _ _ _ _ _ => True) (fun _ U o U' => ∃ v L, o = .returned v ∧ own_QP (.long x0) h0 n0 v U'.heap L ∧ FrameEnd U o U' L ({ frames := 0, cells := 0, slots := 0, locals := 0 } : Room).cells ({ frames := 0, cells := 0, slots := 0, locals := 0 } : Room).slots) := by
  refine MetFree.of_bodySF (plainFor_of_name pn_dev_twotier_CacheCounters) hisR ?_
  intro p e s m args below meth c s₁ Bd hml0 hP hK
  obtain ⟨rfl, hZ, hh⟩ := hP
  have hx := Bd.exec
  have hby := Bd.bytes
  have hml : c.maxLocals = 1 := hml0
  have hown : s.vm.findClass "dev/twotier/CacheCounters" = some m.cls := findClass_of_methodNamed Bd.named
  have hnm := (name_of_methodNamed Bd.named Bd.method).1
  have X0 : Stand p l e ({ frames := 0, cells := 0, slots := 0, locals := 0 } : Room) s m #[(.ref a1)] below meth c s₁ [] 0 0 := Stand.of_body Bd
  have e0 : s₁.heap = h0 := by rw [← hh, Bd.state]; rfl
  have N0 := Fr.nil n0
  refine own_start (ef_rmG_invalidations m a1) ?_
  refine o_aloadN X0 hx hby D13_0 rfl rfl ?_
  obtain ⟨T1, X1, e1, st1⟩ := getF X0 hx hZ hown (host := "") (Or.inl (own_wd hw (i := 40) rfl)) Via.refl e0 F0 (g := (mkF m 1 #[.val (.ref a1)] [(.ref a1)])) rfl rfl (hb hby D13_1.1)
  refine own_pre (A' := T1.setTop (mkF m 4 #[.val (.ref a1)] [(.long x0)])) st1 ?_
  exact own_ret (v := some (.long x0)) X1 (fun h => by first | rfl | (rw [Bd.returns] at h; cases h)) (BodyLoose.notSynchronized Bd) (by decide) (by decide) (⟨rfl, N0, e1⟩) (fun fs hr => X1.lreturnOut hx Bd.returns (hb hby D13_4.1) hr)
theorem D14_0 : own_at prog_3_method_15_code 0 (.aload_n 0) 1 1 := ⟨by decide +kernel, rfl⟩
theorem D14_1 : own_at prog_3_method_15_code 1 (.getfield 37) 3 4 := ⟨by decide +kernel, rfl⟩
theorem D14_4 : own_at prog_3_method_15_code 4 (.lreturn) 1 5 := ⟨by decide +kernel, rfl⟩
theorem ef_rmG_redisErrors (m : MethodId) (a1 : Addr) : entryFrame m #[(.ref a1)] 1 = mkF m 0 #[.val (.ref a1)] [] := by first | (simp [entryFrame, mkF, argsToLocals, Value.category]; done) | rfl
set_option maxRecDepth 65536 in
set_option maxHeartbeats 40000000 in
theorem rmG_redisErrors (l : Launch) (Z : State) (a0 : Array Value) (hw : ∀ d ∈ tables_1, d.before a0 Z = true) (ws : List Jvm.Cond) (a1 : Addr) (x0 : Int64) (h0 : Heap) (n0 : Nat) (Z0 : n0 ≤ h0.size) (F0 : Fld Z h0 a1 "dev/twotier/CacheCounters" "redisErrors" "J" (.long x0)) :
    MetFree l (⟨"dev/twotier/CacheCounters", "redisErrors", "()J"⟩ : MethodName) (head1 (Jvm.Cond.code (⟨"dev/twotier/CacheCounters", "redisErrors", "()J"⟩ : MethodName) prog_3_method_15_code 1 (some .long) :: ws) ({ frames := 0, cells := 0, slots := 0, locals := 0 } : Room)) (fun a U => a = #[(.ref a1)] ∧ Z.Warmed39 U.vm ∧ U.heap = h0) (fun _ _ _ _ _ => True) (fun _ U o U' => ∃ v L, o = .returned v ∧ own_QP (.long x0) h0 n0 v U'.heap L ∧ FrameEnd U o U' L ({ frames := 0, cells := 0, slots := 0, locals := 0 } : Room).cells ({ frames := 0, cells := 0, slots := 0, locals := 0 } : Room).slots) := by
  refine MetFree.of_bodySF (plainFor_of_name pn_dev_twotier_CacheCounters) hisR ?_
  intro p e s m args below meth c s₁ Bd hml0 hP hK
  obtain ⟨rfl, hZ, hh⟩ := hP
  have hx := Bd.exec
  have hby := Bd.bytes
  have hml : c.maxLocals = 1 := hml0
  have hown : s.vm.findClass "dev/twotier/CacheCounters" = some m.cls := findClass_of_methodNamed Bd.named
  have hnm := (name_of_methodNamed Bd.named Bd.method).1
  have X0 : Stand p l e ({ frames := 0, cells := 0, slots := 0, locals := 0 } : Room) s m #[(.ref a1)] below meth c s₁ [] 0 0 := Stand.of_body Bd
  have e0 : s₁.heap = h0 := by rw [← hh, Bd.state]; rfl
  have N0 := Fr.nil n0
  refine own_start (ef_rmG_redisErrors m a1) ?_
  refine o_aloadN X0 hx hby D14_0 rfl rfl ?_
  obtain ⟨T1, X1, e1, st1⟩ := getF X0 hx hZ hown (host := "") (Or.inl (own_wd hw (i := 42) rfl)) Via.refl e0 F0 (g := (mkF m 1 #[.val (.ref a1)] [(.ref a1)])) rfl rfl (hb hby D14_1.1)
  refine own_pre (A' := T1.setTop (mkF m 4 #[.val (.ref a1)] [(.long x0)])) st1 ?_
  exact own_ret (v := some (.long x0)) X1 (fun h => by first | rfl | (rw [Bd.returns] at h; cases h)) (BodyLoose.notSynchronized Bd) (by decide) (by decide) (⟨rfl, N0, e1⟩) (fun fs hr => X1.lreturnOut hx Bd.returns (hb hby D14_4.1) hr)
theorem pd__40Ldev_47twotier_47CacheCounters_59_41Ldev_47twotier_47CacheCounters_59 : parseMethodDescriptor "(Ldev/twotier/CacheCounters;)Ldev/twotier/CacheCounters;" = some ⟨[(.object "dev/twotier/CacheCounters")], some (.object "dev/twotier/CacheCounters")⟩ := by decide +kernel
theorem pd__40_41J : parseMethodDescriptor "()J" = some ⟨[], some .long⟩ := by decide +kernel
theorem D0_0 : own_at code 0 (.lload_n 0) 1 1 := ⟨at_0, rfl⟩
theorem D0_1 : own_at code 1 (.lstore 12) 2 3 := ⟨at_1, rfl⟩
theorem D0_3 : own_at code 3 (.lload_n 2) 1 4 := ⟨at_3, rfl⟩
theorem D0_4 : own_at code 4 (.lstore 14) 2 6 := ⟨at_4, rfl⟩
theorem D0_6 : own_at code 6 (.lload 4) 2 8 := ⟨at_6, rfl⟩
theorem D0_8 : own_at code 8 (.lstore 16) 2 10 := ⟨at_8, rfl⟩
theorem D0_10 : own_at code 10 (.lload 6) 2 12 := ⟨at_10, rfl⟩
theorem D0_12 : own_at code 12 (.lstore 18) 2 14 := ⟨at_12, rfl⟩
theorem D0_14 : own_at code 14 (.lload 8) 2 16 := ⟨at_14, rfl⟩
theorem D0_16 : own_at code 16 (.lstore 20) 2 18 := ⟨at_16, rfl⟩
theorem D0_18 : own_at code 18 (.lload 10) 2 20 := ⟨at_18, rfl⟩
theorem D0_20 : own_at code 20 (.lstore 22) 2 22 := ⟨at_20, rfl⟩
theorem D0_22 : own_at code 22 (.lload_n 0) 1 23 := ⟨at_22, rfl⟩
theorem D0_23 : own_at code 23 (.ldc2_w 7) 3 26 := ⟨at_23, rfl⟩
theorem D0_26 : own_at code 26 (.lmul) 1 27 := ⟨at_26, rfl⟩
theorem D0_27 : own_at code 27 (.lstore 24) 2 29 := ⟨at_27, rfl⟩
theorem D0_29 : own_at code 29 (.lload_n 2) 1 30 := ⟨at_29, rfl⟩
theorem D0_30 : own_at code 30 (.ldc2_w 9) 3 33 := ⟨at_30, rfl⟩
theorem D0_33 : own_at code 33 (.lmul) 1 34 := ⟨at_33, rfl⟩
theorem D0_34 : own_at code 34 (.lstore 26) 2 36 := ⟨at_34, rfl⟩
theorem D0_36 : own_at code 36 (.lload 4) 2 38 := ⟨at_36, rfl⟩
theorem D0_38 : own_at code 38 (.ldc2_w 11) 3 41 := ⟨at_38, rfl⟩
theorem D0_41 : own_at code 41 (.lmul) 1 42 := ⟨at_41, rfl⟩
theorem D0_42 : own_at code 42 (.lstore 28) 2 44 := ⟨at_42, rfl⟩
theorem D0_44 : own_at code 44 (.lload 6) 2 46 := ⟨at_44, rfl⟩
theorem D0_46 : own_at code 46 (.ldc2_w 13) 3 49 := ⟨at_46, rfl⟩
theorem D0_49 : own_at code 49 (.lmul) 1 50 := ⟨at_49, rfl⟩
theorem D0_50 : own_at code 50 (.lstore 30) 2 52 := ⟨at_50, rfl⟩
theorem D0_52 : own_at code 52 (.lload 10) 2 54 := ⟨at_52, rfl⟩
theorem D0_54 : own_at code 54 (.lstore 32) 2 56 := ⟨at_54, rfl⟩
theorem D0_56 : own_at code 56 (.lload 8) 2 58 := ⟨at_56, rfl⟩
theorem D0_58 : own_at code 58 (.ldc2_w 7) 3 61 := ⟨at_58, rfl⟩
theorem D0_61 : own_at code 61 (.lmul) 1 62 := ⟨at_61, rfl⟩
theorem D0_62 : own_at code 62 (.lstore 34) 2 64 := ⟨at_62, rfl⟩
theorem D0_64 : own_at code 64 (.lload 6) 2 66 := ⟨at_64, rfl⟩
theorem D0_66 : own_at code 66 (.ldc2_w 9) 3 69 := ⟨at_66, rfl⟩
theorem D0_69 : own_at code 69 (.lmul) 1 70 := ⟨at_69, rfl⟩
theorem D0_70 : own_at code 70 (.lstore 36) 2 72 := ⟨at_70, rfl⟩
theorem D0_72 : own_at code 72 (.lload 4) 2 74 := ⟨at_72, rfl⟩
theorem D0_74 : own_at code 74 (.ldc2_w 15) 3 77 := ⟨at_74, rfl⟩
theorem D0_77 : own_at code 77 (.lmul) 1 78 := ⟨at_77, rfl⟩
theorem D0_78 : own_at code 78 (.lstore 38) 2 80 := ⟨at_78, rfl⟩
theorem D0_80 : own_at code 80 (.lload_n 2) 1 81 := ⟨at_80, rfl⟩
theorem D0_81 : own_at code 81 (.ldc2_w 17) 3 84 := ⟨at_81, rfl⟩
theorem D0_84 : own_at code 84 (.lmul) 1 85 := ⟨at_84, rfl⟩
theorem D0_85 : own_at code 85 (.lstore 40) 2 87 := ⟨at_85, rfl⟩
theorem D0_87 : own_at code 87 (.lload_n 0) 1 88 := ⟨at_87, rfl⟩
theorem D0_88 : own_at code 88 (.ldc2_w 19) 3 91 := ⟨at_88, rfl⟩
theorem D0_91 : own_at code 91 (.lmul) 1 92 := ⟨at_91, rfl⟩
theorem D0_92 : own_at code 92 (.lstore 42) 2 94 := ⟨at_92, rfl⟩
theorem D0_94 : own_at code 94 (.lload 8) 2 96 := ⟨at_94, rfl⟩
theorem D0_96 : own_at code 96 (.lstore 44) 2 98 := ⟨at_96, rfl⟩
theorem D0_98 : own_at code 98 (.lload 10) 2 100 := ⟨at_98, rfl⟩
theorem D0_100 : own_at code 100 (.ldc2_w 21) 3 103 := ⟨at_100, rfl⟩
theorem D0_103 : own_at code 103 (.lmul) 1 104 := ⟨at_103, rfl⟩
theorem D0_104 : own_at code 104 (.lstore 46) 2 106 := ⟨at_104, rfl⟩
theorem D0_106 : own_at code 106 (.lload 8) 2 108 := ⟨at_106, rfl⟩
theorem D0_108 : own_at code 108 (.ldc2_w 23) 3 111 := ⟨at_108, rfl⟩
theorem D0_111 : own_at code 111 (.lmul) 1 112 := ⟨at_111, rfl⟩
theorem D0_112 : own_at code 112 (.lstore 48) 2 114 := ⟨at_112, rfl⟩
theorem D0_114 : own_at code 114 (.lload 6) 2 116 := ⟨at_114, rfl⟩
theorem D0_116 : own_at code 116 (.ldc2_w 25) 3 119 := ⟨at_116, rfl⟩
theorem D0_119 : own_at code 119 (.lmul) 1 120 := ⟨at_119, rfl⟩
theorem D0_120 : own_at code 120 (.lstore 50) 2 122 := ⟨at_120, rfl⟩
theorem D0_122 : own_at code 122 (.new 27) 3 125 := ⟨at_122, rfl⟩
theorem D0_125 : own_at code 125 (.dup) 1 126 := ⟨at_125, rfl⟩
theorem D0_126 : own_at code 126 (.lload 12) 2 128 := ⟨at_126, rfl⟩
theorem D0_128 : own_at code 128 (.lload 14) 2 130 := ⟨at_128, rfl⟩
theorem D0_130 : own_at code 130 (.lload 16) 2 132 := ⟨at_130, rfl⟩
theorem D0_132 : own_at code 132 (.lload 18) 2 134 := ⟨at_132, rfl⟩
theorem D0_134 : own_at code 134 (.lload 20) 2 136 := ⟨at_134, rfl⟩
theorem D0_136 : own_at code 136 (.lload 22) 2 138 := ⟨at_136, rfl⟩
theorem D0_138 : own_at code 138 (.lload 24) 2 140 := ⟨at_138, rfl⟩
theorem D0_140 : own_at code 140 (.lload 26) 2 142 := ⟨at_140, rfl⟩
theorem D0_142 : own_at code 142 (.lload 28) 2 144 := ⟨at_142, rfl⟩
theorem D0_144 : own_at code 144 (.lload 30) 2 146 := ⟨at_144, rfl⟩
theorem D0_146 : own_at code 146 (.invokespecial 29) 3 149 := ⟨at_146, rfl⟩
theorem D0_149 : own_at code 149 (.astore 52) 2 151 := ⟨at_149, rfl⟩
theorem D0_151 : own_at code 151 (.new 27) 3 154 := ⟨at_151, rfl⟩
theorem D0_154 : own_at code 154 (.dup) 1 155 := ⟨at_154, rfl⟩
theorem D0_155 : own_at code 155 (.lload 32) 2 157 := ⟨at_155, rfl⟩
theorem D0_157 : own_at code 157 (.lload 34) 2 159 := ⟨at_157, rfl⟩
theorem D0_159 : own_at code 159 (.lload 36) 2 161 := ⟨at_159, rfl⟩
theorem D0_161 : own_at code 161 (.lload 38) 2 163 := ⟨at_161, rfl⟩
theorem D0_163 : own_at code 163 (.lload 40) 2 165 := ⟨at_163, rfl⟩
theorem D0_165 : own_at code 165 (.lload 42) 2 167 := ⟨at_165, rfl⟩
theorem D0_167 : own_at code 167 (.lload 44) 2 169 := ⟨at_167, rfl⟩
theorem D0_169 : own_at code 169 (.lload 46) 2 171 := ⟨at_169, rfl⟩
theorem D0_171 : own_at code 171 (.lload 48) 2 173 := ⟨at_171, rfl⟩
theorem D0_173 : own_at code 173 (.lload 50) 2 175 := ⟨at_173, rfl⟩
theorem D0_175 : own_at code 175 (.invokespecial 29) 3 178 := ⟨at_175, rfl⟩
theorem D0_178 : own_at code 178 (.astore 53) 2 180 := ⟨at_178, rfl⟩
theorem D0_180 : own_at code 180 (.aload 52) 2 182 := ⟨at_180, rfl⟩
theorem D0_182 : own_at code 182 (.aload 53) 2 184 := ⟨at_182, rfl⟩
theorem D0_184 : own_at code 184 (.invokevirtual 32) 3 187 := ⟨at_184, rfl⟩
theorem D0_187 : own_at code 187 (.astore 54) 2 189 := ⟨at_187, rfl⟩
theorem D0_189 : own_at code 189 (.aload 54) 2 191 := ⟨at_189, rfl⟩
theorem D0_191 : own_at code 191 (.invokevirtual 36) 3 194 := ⟨at_191, rfl⟩
theorem D0_194 : own_at code 194 (.lload 12) 2 196 := ⟨at_194, rfl⟩
theorem D0_196 : own_at code 196 (.lload 32) 2 198 := ⟨at_196, rfl⟩
theorem D0_198 : own_at code 198 (.ladd) 1 199 := ⟨at_198, rfl⟩
theorem D0_199 : own_at code 199 (.lcmp) 1 200 := ⟨at_199, rfl⟩
theorem D0_200 : own_at code 200 (.ifCond .ne 133) 3 203 := ⟨at_200, rfl⟩
theorem D0_203 : own_at code 203 (.aload 54) 2 205 := ⟨at_203, rfl⟩
theorem D0_205 : own_at code 205 (.invokevirtual 40) 3 208 := ⟨at_205, rfl⟩
theorem D0_208 : own_at code 208 (.lload 14) 2 210 := ⟨at_208, rfl⟩
theorem D0_210 : own_at code 210 (.lload 34) 2 212 := ⟨at_210, rfl⟩
theorem D0_212 : own_at code 212 (.ladd) 1 213 := ⟨at_212, rfl⟩
theorem D0_213 : own_at code 213 (.lcmp) 1 214 := ⟨at_213, rfl⟩
theorem D0_214 : own_at code 214 (.ifCond .ne 119) 3 217 := ⟨at_214, rfl⟩
theorem D0_217 : own_at code 217 (.aload 54) 2 219 := ⟨at_217, rfl⟩
theorem D0_219 : own_at code 219 (.invokevirtual 43) 3 222 := ⟨at_219, rfl⟩
theorem D0_222 : own_at code 222 (.lload 16) 2 224 := ⟨at_222, rfl⟩
theorem D0_224 : own_at code 224 (.lload 36) 2 226 := ⟨at_224, rfl⟩
theorem D0_226 : own_at code 226 (.ladd) 1 227 := ⟨at_226, rfl⟩
theorem D0_227 : own_at code 227 (.lcmp) 1 228 := ⟨at_227, rfl⟩
theorem D0_228 : own_at code 228 (.ifCond .ne 105) 3 231 := ⟨at_228, rfl⟩
theorem D0_231 : own_at code 231 (.aload 54) 2 233 := ⟨at_231, rfl⟩
theorem D0_233 : own_at code 233 (.invokevirtual 46) 3 236 := ⟨at_233, rfl⟩
theorem D0_236 : own_at code 236 (.lload 18) 2 238 := ⟨at_236, rfl⟩
theorem D0_238 : own_at code 238 (.lload 38) 2 240 := ⟨at_238, rfl⟩
theorem D0_240 : own_at code 240 (.ladd) 1 241 := ⟨at_240, rfl⟩
theorem D0_241 : own_at code 241 (.lcmp) 1 242 := ⟨at_241, rfl⟩
theorem D0_242 : own_at code 242 (.ifCond .ne 91) 3 245 := ⟨at_242, rfl⟩
theorem D0_245 : own_at code 245 (.aload 54) 2 247 := ⟨at_245, rfl⟩
theorem D0_247 : own_at code 247 (.invokevirtual 49) 3 250 := ⟨at_247, rfl⟩
theorem D0_250 : own_at code 250 (.lload 20) 2 252 := ⟨at_250, rfl⟩
theorem D0_252 : own_at code 252 (.lload 40) 2 254 := ⟨at_252, rfl⟩
theorem D0_254 : own_at code 254 (.ladd) 1 255 := ⟨at_254, rfl⟩
theorem D0_255 : own_at code 255 (.lcmp) 1 256 := ⟨at_255, rfl⟩
theorem D0_256 : own_at code 256 (.ifCond .ne 77) 3 259 := ⟨at_256, rfl⟩
theorem D0_259 : own_at code 259 (.aload 54) 2 261 := ⟨at_259, rfl⟩
theorem D0_261 : own_at code 261 (.invokevirtual 52) 3 264 := ⟨at_261, rfl⟩
theorem D0_264 : own_at code 264 (.lload 22) 2 266 := ⟨at_264, rfl⟩
theorem D0_266 : own_at code 266 (.lload 42) 2 268 := ⟨at_266, rfl⟩
theorem D0_268 : own_at code 268 (.ladd) 1 269 := ⟨at_268, rfl⟩
theorem D0_269 : own_at code 269 (.lcmp) 1 270 := ⟨at_269, rfl⟩
theorem D0_270 : own_at code 270 (.ifCond .ne 63) 3 273 := ⟨at_270, rfl⟩
theorem D0_273 : own_at code 273 (.aload 54) 2 275 := ⟨at_273, rfl⟩
theorem D0_275 : own_at code 275 (.invokevirtual 55) 3 278 := ⟨at_275, rfl⟩
theorem D0_278 : own_at code 278 (.lload 24) 2 280 := ⟨at_278, rfl⟩
theorem D0_280 : own_at code 280 (.lload 44) 2 282 := ⟨at_280, rfl⟩
theorem D0_282 : own_at code 282 (.ladd) 1 283 := ⟨at_282, rfl⟩
theorem D0_283 : own_at code 283 (.lcmp) 1 284 := ⟨at_283, rfl⟩
theorem D0_284 : own_at code 284 (.ifCond .ne 49) 3 287 := ⟨at_284, rfl⟩
theorem D0_287 : own_at code 287 (.aload 54) 2 289 := ⟨at_287, rfl⟩
theorem D0_289 : own_at code 289 (.invokevirtual 58) 3 292 := ⟨at_289, rfl⟩
theorem D0_292 : own_at code 292 (.lload 26) 2 294 := ⟨at_292, rfl⟩
theorem D0_294 : own_at code 294 (.lload 46) 2 296 := ⟨at_294, rfl⟩
theorem D0_296 : own_at code 296 (.ladd) 1 297 := ⟨at_296, rfl⟩
theorem D0_297 : own_at code 297 (.lcmp) 1 298 := ⟨at_297, rfl⟩
theorem D0_298 : own_at code 298 (.ifCond .ne 35) 3 301 := ⟨at_298, rfl⟩
theorem D0_301 : own_at code 301 (.aload 54) 2 303 := ⟨at_301, rfl⟩
theorem D0_303 : own_at code 303 (.invokevirtual 61) 3 306 := ⟨at_303, rfl⟩
theorem D0_306 : own_at code 306 (.lload 28) 2 308 := ⟨at_306, rfl⟩
theorem D0_308 : own_at code 308 (.lload 48) 2 310 := ⟨at_308, rfl⟩
theorem D0_310 : own_at code 310 (.ladd) 1 311 := ⟨at_310, rfl⟩
theorem D0_311 : own_at code 311 (.lcmp) 1 312 := ⟨at_311, rfl⟩
theorem D0_312 : own_at code 312 (.ifCond .ne 21) 3 315 := ⟨at_312, rfl⟩
theorem D0_315 : own_at code 315 (.aload 54) 2 317 := ⟨at_315, rfl⟩
theorem D0_317 : own_at code 317 (.invokevirtual 64) 3 320 := ⟨at_317, rfl⟩
theorem D0_320 : own_at code 320 (.lload 30) 2 322 := ⟨at_320, rfl⟩
theorem D0_322 : own_at code 322 (.lload 50) 2 324 := ⟨at_322, rfl⟩
theorem D0_324 : own_at code 324 (.ladd) 1 325 := ⟨at_324, rfl⟩
theorem D0_325 : own_at code 325 (.lcmp) 1 326 := ⟨at_325, rfl⟩
theorem D0_326 : own_at code 326 (.ifCond .ne 7) 3 329 := ⟨at_326, rfl⟩
theorem D0_329 : own_at code 329 (.iconst 1) 1 330 := ⟨at_329, rfl⟩
theorem D0_330 : own_at code 330 (.goto 4) 3 333 := ⟨at_330, rfl⟩
theorem D0_334 : own_at code 334 (.ireturn) 1 335 := ⟨at_334, rfl⟩
theorem pn_dev_twotier_CacheCountersPlusPinLaw : plainName "dev/twotier/CacheCountersPlusPinLaw" = true := by first | (simp [plainName, overriddenIn]; done) | decide +kernel
theorem ef_rm0 (m : MethodId) (p0 : Int64) (p1 : Int64) (p2 : Int64) (p3 : Int64) (p4 : Int64) (p5 : Int64) : entryFrame m #[(.long p0), (.long p1), (.long p2), (.long p3), (.long p4), (.long p5)] maxLocals = mkF m 0 #[.val (.long p0), .second, .val (.long p1), .second, .val (.long p2), .second, .val (.long p3), .second, .val (.long p4), .second, .val (.long p5), .second, .unset, .unset, .unset, .unset, .unset, .unset, .unset, .unset, .unset, .unset, .unset, .unset, .unset, .unset, .unset, .unset, .unset, .unset, .unset, .unset, .unset, .unset, .unset, .unset, .unset, .unset, .unset, .unset, .unset, .unset, .unset, .unset, .unset, .unset, .unset, .unset, .unset, .unset, .unset, .unset, .unset, .unset, .unset] [] := by first | (simp [entryFrame, mkF, argsToLocals, Value.category, maxLocals]; done) | rfl
set_option maxRecDepth 65536 in
set_option maxHeartbeats 40000000 in
theorem rm0 (l : Launch) (Z : State) (a0 : Array Value) (hw : ∀ d ∈ tables_1, d.before a0 Z = true) (ws : List Jvm.Cond) (p0 : Int64) (p1 : Int64) (p2 : Int64) (p3 : Int64) (p4 : Int64) (p5 : Int64)  (h0 : Heap) (n0 : Nat) (Z0 : n0 ≤ h0.size)  :
    MetFree l x (head1 (Jvm.Cond.code x code maxLocals ret :: ws) room_1) (fun a U => a = #[(.long p0), (.long p1), (.long p2), (.long p3), (.long p4), (.long p5)] ∧ Z.Warmed39 U.vm ∧ U.heap = h0) (fun _ _ _ _ _ => True) (fun _ U o U' => ∃ v L, o = .returned v ∧ own_Q0 n0 v U'.heap L ∧ FrameEnd U o U' L room_1.cells room_1.slots) := by
  refine MetFree.of_bodySF (plainFor_of_name pn_dev_twotier_CacheCountersPlusPinLaw) hisR ?_
  intro p e s m args below meth c s₁ Bd hml0 hP hK
  obtain ⟨rfl, hZ, hh⟩ := hP
  have hx := Bd.exec
  have hby := Bd.bytes
  have hml : c.maxLocals = 55 := hml0
  have hown : s.vm.findClass "dev/twotier/CacheCountersPlusPinLaw" = some m.cls := findClass_of_methodNamed Bd.named
  have hnm := (name_of_methodNamed Bd.named Bd.method).1
  have X0 : Stand p l e room_1 s m #[(.long p0), (.long p1), (.long p2), (.long p3), (.long p4), (.long p5)] below meth c s₁ [] 0 0 := Stand.of_body Bd
  have e0 : s₁.heap = h0 := by rw [← hh, Bd.state]; rfl
  have N0 := Fr.nil n0
  refine own_start (ef_rm0 m p0 p1 p2 p3 p4 p5) ?_
  refine o_lloadN X0 hx hby D0_0 rfl ?_
  refine o_lstore X0 hx hby D0_1 (l' := #[.val (.long p0), .second, .val (.long p1), .second, .val (.long p2), .second, .val (.long p3), .second, .val (.long p4), .second, .val (.long p5), .second, .val (.long p0), .second, .unset, .unset, .unset, .unset, .unset, .unset, .unset, .unset, .unset, .unset, .unset, .unset, .unset, .unset, .unset, .unset, .unset, .unset, .unset, .unset, .unset, .unset, .unset, .unset, .unset, .unset, .unset, .unset, .unset, .unset, .unset, .unset, .unset, .unset, .unset, .unset, .unset, .unset, .unset, .unset, .unset]) rfl ?_
  refine o_lloadN X0 hx hby D0_3 rfl ?_
  refine o_lstore X0 hx hby D0_4 (l' := #[.val (.long p0), .second, .val (.long p1), .second, .val (.long p2), .second, .val (.long p3), .second, .val (.long p4), .second, .val (.long p5), .second, .val (.long p0), .second, .val (.long p1), .second, .unset, .unset, .unset, .unset, .unset, .unset, .unset, .unset, .unset, .unset, .unset, .unset, .unset, .unset, .unset, .unset, .unset, .unset, .unset, .unset, .unset, .unset, .unset, .unset, .unset, .unset, .unset, .unset, .unset, .unset, .unset, .unset, .unset, .unset, .unset, .unset, .unset, .unset, .unset]) rfl ?_
  refine o_lload X0 hx hby D0_6 rfl ?_
  refine o_lstore X0 hx hby D0_8 (l' := #[.val (.long p0), .second, .val (.long p1), .second, .val (.long p2), .second, .val (.long p3), .second, .val (.long p4), .second, .val (.long p5), .second, .val (.long p0), .second, .val (.long p1), .second, .val (.long p2), .second, .unset, .unset, .unset, .unset, .unset, .unset, .unset, .unset, .unset, .unset, .unset, .unset, .unset, .unset, .unset, .unset, .unset, .unset, .unset, .unset, .unset, .unset, .unset, .unset, .unset, .unset, .unset, .unset, .unset, .unset, .unset, .unset, .unset, .unset, .unset, .unset, .unset]) rfl ?_
  refine o_lload X0 hx hby D0_10 rfl ?_
  refine o_lstore X0 hx hby D0_12 (l' := #[.val (.long p0), .second, .val (.long p1), .second, .val (.long p2), .second, .val (.long p3), .second, .val (.long p4), .second, .val (.long p5), .second, .val (.long p0), .second, .val (.long p1), .second, .val (.long p2), .second, .val (.long p3), .second, .unset, .unset, .unset, .unset, .unset, .unset, .unset, .unset, .unset, .unset, .unset, .unset, .unset, .unset, .unset, .unset, .unset, .unset, .unset, .unset, .unset, .unset, .unset, .unset, .unset, .unset, .unset, .unset, .unset, .unset, .unset, .unset, .unset, .unset, .unset]) rfl ?_
  refine o_lload X0 hx hby D0_14 rfl ?_
  refine o_lstore X0 hx hby D0_16 (l' := #[.val (.long p0), .second, .val (.long p1), .second, .val (.long p2), .second, .val (.long p3), .second, .val (.long p4), .second, .val (.long p5), .second, .val (.long p0), .second, .val (.long p1), .second, .val (.long p2), .second, .val (.long p3), .second, .val (.long p4), .second, .unset, .unset, .unset, .unset, .unset, .unset, .unset, .unset, .unset, .unset, .unset, .unset, .unset, .unset, .unset, .unset, .unset, .unset, .unset, .unset, .unset, .unset, .unset, .unset, .unset, .unset, .unset, .unset, .unset, .unset, .unset, .unset, .unset]) rfl ?_
  refine o_lload X0 hx hby D0_18 rfl ?_
  refine o_lstore X0 hx hby D0_20 (l' := #[.val (.long p0), .second, .val (.long p1), .second, .val (.long p2), .second, .val (.long p3), .second, .val (.long p4), .second, .val (.long p5), .second, .val (.long p0), .second, .val (.long p1), .second, .val (.long p2), .second, .val (.long p3), .second, .val (.long p4), .second, .val (.long p5), .second, .unset, .unset, .unset, .unset, .unset, .unset, .unset, .unset, .unset, .unset, .unset, .unset, .unset, .unset, .unset, .unset, .unset, .unset, .unset, .unset, .unset, .unset, .unset, .unset, .unset, .unset, .unset, .unset, .unset, .unset, .unset]) rfl ?_
  refine o_lloadN X0 hx hby D0_22 rfl ?_
  refine o_ldc2 X0 hx hby hown (mvT hZ (own_wd hw (i := 0) rfl)) D0_23 ?_
  refine o_lmul X0 hx hby D0_26 ?_
  refine o_lstore X0 hx hby D0_27 (l' := #[.val (.long p0), .second, .val (.long p1), .second, .val (.long p2), .second, .val (.long p3), .second, .val (.long p4), .second, .val (.long p5), .second, .val (.long p0), .second, .val (.long p1), .second, .val (.long p2), .second, .val (.long p3), .second, .val (.long p4), .second, .val (.long p5), .second, .val (.long (p0 * (3 : Int64))), .second, .unset, .unset, .unset, .unset, .unset, .unset, .unset, .unset, .unset, .unset, .unset, .unset, .unset, .unset, .unset, .unset, .unset, .unset, .unset, .unset, .unset, .unset, .unset, .unset, .unset, .unset, .unset, .unset, .unset]) rfl ?_
  refine o_lloadN X0 hx hby D0_29 rfl ?_
  refine o_ldc2 X0 hx hby hown (mvT hZ (own_wd hw (i := 1) rfl)) D0_30 ?_
  refine o_lmul X0 hx hby D0_33 ?_
  refine o_lstore X0 hx hby D0_34 (l' := #[.val (.long p0), .second, .val (.long p1), .second, .val (.long p2), .second, .val (.long p3), .second, .val (.long p4), .second, .val (.long p5), .second, .val (.long p0), .second, .val (.long p1), .second, .val (.long p2), .second, .val (.long p3), .second, .val (.long p4), .second, .val (.long p5), .second, .val (.long (p0 * (3 : Int64))), .second, .val (.long (p1 * (5 : Int64))), .second, .unset, .unset, .unset, .unset, .unset, .unset, .unset, .unset, .unset, .unset, .unset, .unset, .unset, .unset, .unset, .unset, .unset, .unset, .unset, .unset, .unset, .unset, .unset, .unset, .unset, .unset, .unset]) rfl ?_
  refine o_lload X0 hx hby D0_36 rfl ?_
  refine o_ldc2 X0 hx hby hown (mvT hZ (own_wd hw (i := 2) rfl)) D0_38 ?_
  refine o_lmul X0 hx hby D0_41 ?_
  refine o_lstore X0 hx hby D0_42 (l' := #[.val (.long p0), .second, .val (.long p1), .second, .val (.long p2), .second, .val (.long p3), .second, .val (.long p4), .second, .val (.long p5), .second, .val (.long p0), .second, .val (.long p1), .second, .val (.long p2), .second, .val (.long p3), .second, .val (.long p4), .second, .val (.long p5), .second, .val (.long (p0 * (3 : Int64))), .second, .val (.long (p1 * (5 : Int64))), .second, .val (.long (p2 * (7 : Int64))), .second, .unset, .unset, .unset, .unset, .unset, .unset, .unset, .unset, .unset, .unset, .unset, .unset, .unset, .unset, .unset, .unset, .unset, .unset, .unset, .unset, .unset, .unset, .unset, .unset, .unset]) rfl ?_
  refine o_lload X0 hx hby D0_44 rfl ?_
  refine o_ldc2 X0 hx hby hown (mvT hZ (own_wd hw (i := 3) rfl)) D0_46 ?_
  refine o_lmul X0 hx hby D0_49 ?_
  refine o_lstore X0 hx hby D0_50 (l' := #[.val (.long p0), .second, .val (.long p1), .second, .val (.long p2), .second, .val (.long p3), .second, .val (.long p4), .second, .val (.long p5), .second, .val (.long p0), .second, .val (.long p1), .second, .val (.long p2), .second, .val (.long p3), .second, .val (.long p4), .second, .val (.long p5), .second, .val (.long (p0 * (3 : Int64))), .second, .val (.long (p1 * (5 : Int64))), .second, .val (.long (p2 * (7 : Int64))), .second, .val (.long (p3 * (11 : Int64))), .second, .unset, .unset, .unset, .unset, .unset, .unset, .unset, .unset, .unset, .unset, .unset, .unset, .unset, .unset, .unset, .unset, .unset, .unset, .unset, .unset, .unset, .unset, .unset]) rfl ?_
  refine o_lload X0 hx hby D0_52 rfl ?_
  refine o_lstore X0 hx hby D0_54 (l' := #[.val (.long p0), .second, .val (.long p1), .second, .val (.long p2), .second, .val (.long p3), .second, .val (.long p4), .second, .val (.long p5), .second, .val (.long p0), .second, .val (.long p1), .second, .val (.long p2), .second, .val (.long p3), .second, .val (.long p4), .second, .val (.long p5), .second, .val (.long (p0 * (3 : Int64))), .second, .val (.long (p1 * (5 : Int64))), .second, .val (.long (p2 * (7 : Int64))), .second, .val (.long (p3 * (11 : Int64))), .second, .val (.long p5), .second, .unset, .unset, .unset, .unset, .unset, .unset, .unset, .unset, .unset, .unset, .unset, .unset, .unset, .unset, .unset, .unset, .unset, .unset, .unset, .unset, .unset]) rfl ?_
  refine o_lload X0 hx hby D0_56 rfl ?_
  refine o_ldc2 X0 hx hby hown (mvT hZ (own_wd hw (i := 0) rfl)) D0_58 ?_
  refine o_lmul X0 hx hby D0_61 ?_
  refine o_lstore X0 hx hby D0_62 (l' := #[.val (.long p0), .second, .val (.long p1), .second, .val (.long p2), .second, .val (.long p3), .second, .val (.long p4), .second, .val (.long p5), .second, .val (.long p0), .second, .val (.long p1), .second, .val (.long p2), .second, .val (.long p3), .second, .val (.long p4), .second, .val (.long p5), .second, .val (.long (p0 * (3 : Int64))), .second, .val (.long (p1 * (5 : Int64))), .second, .val (.long (p2 * (7 : Int64))), .second, .val (.long (p3 * (11 : Int64))), .second, .val (.long p5), .second, .val (.long (p4 * (3 : Int64))), .second, .unset, .unset, .unset, .unset, .unset, .unset, .unset, .unset, .unset, .unset, .unset, .unset, .unset, .unset, .unset, .unset, .unset, .unset, .unset]) rfl ?_
  refine o_lload X0 hx hby D0_64 rfl ?_
  refine o_ldc2 X0 hx hby hown (mvT hZ (own_wd hw (i := 1) rfl)) D0_66 ?_
  refine o_lmul X0 hx hby D0_69 ?_
  refine o_lstore X0 hx hby D0_70 (l' := #[.val (.long p0), .second, .val (.long p1), .second, .val (.long p2), .second, .val (.long p3), .second, .val (.long p4), .second, .val (.long p5), .second, .val (.long p0), .second, .val (.long p1), .second, .val (.long p2), .second, .val (.long p3), .second, .val (.long p4), .second, .val (.long p5), .second, .val (.long (p0 * (3 : Int64))), .second, .val (.long (p1 * (5 : Int64))), .second, .val (.long (p2 * (7 : Int64))), .second, .val (.long (p3 * (11 : Int64))), .second, .val (.long p5), .second, .val (.long (p4 * (3 : Int64))), .second, .val (.long (p3 * (5 : Int64))), .second, .unset, .unset, .unset, .unset, .unset, .unset, .unset, .unset, .unset, .unset, .unset, .unset, .unset, .unset, .unset, .unset, .unset]) rfl ?_
  refine o_lload X0 hx hby D0_72 rfl ?_
  refine o_ldc2 X0 hx hby hown (mvT hZ (own_wd hw (i := 4) rfl)) D0_74 ?_
  refine o_lmul X0 hx hby D0_77 ?_
  refine o_lstore X0 hx hby D0_78 (l' := #[.val (.long p0), .second, .val (.long p1), .second, .val (.long p2), .second, .val (.long p3), .second, .val (.long p4), .second, .val (.long p5), .second, .val (.long p0), .second, .val (.long p1), .second, .val (.long p2), .second, .val (.long p3), .second, .val (.long p4), .second, .val (.long p5), .second, .val (.long (p0 * (3 : Int64))), .second, .val (.long (p1 * (5 : Int64))), .second, .val (.long (p2 * (7 : Int64))), .second, .val (.long (p3 * (11 : Int64))), .second, .val (.long p5), .second, .val (.long (p4 * (3 : Int64))), .second, .val (.long (p3 * (5 : Int64))), .second, .val (.long (p2 * (13 : Int64))), .second, .unset, .unset, .unset, .unset, .unset, .unset, .unset, .unset, .unset, .unset, .unset, .unset, .unset, .unset, .unset]) rfl ?_
  refine o_lloadN X0 hx hby D0_80 rfl ?_
  refine o_ldc2 X0 hx hby hown (mvT hZ (own_wd hw (i := 5) rfl)) D0_81 ?_
  refine o_lmul X0 hx hby D0_84 ?_
  refine o_lstore X0 hx hby D0_85 (l' := #[.val (.long p0), .second, .val (.long p1), .second, .val (.long p2), .second, .val (.long p3), .second, .val (.long p4), .second, .val (.long p5), .second, .val (.long p0), .second, .val (.long p1), .second, .val (.long p2), .second, .val (.long p3), .second, .val (.long p4), .second, .val (.long p5), .second, .val (.long (p0 * (3 : Int64))), .second, .val (.long (p1 * (5 : Int64))), .second, .val (.long (p2 * (7 : Int64))), .second, .val (.long (p3 * (11 : Int64))), .second, .val (.long p5), .second, .val (.long (p4 * (3 : Int64))), .second, .val (.long (p3 * (5 : Int64))), .second, .val (.long (p2 * (13 : Int64))), .second, .val (.long (p1 * (17 : Int64))), .second, .unset, .unset, .unset, .unset, .unset, .unset, .unset, .unset, .unset, .unset, .unset, .unset, .unset]) rfl ?_
  refine o_lloadN X0 hx hby D0_87 rfl ?_
  refine o_ldc2 X0 hx hby hown (mvT hZ (own_wd hw (i := 6) rfl)) D0_88 ?_
  refine o_lmul X0 hx hby D0_91 ?_
  refine o_lstore X0 hx hby D0_92 (l' := #[.val (.long p0), .second, .val (.long p1), .second, .val (.long p2), .second, .val (.long p3), .second, .val (.long p4), .second, .val (.long p5), .second, .val (.long p0), .second, .val (.long p1), .second, .val (.long p2), .second, .val (.long p3), .second, .val (.long p4), .second, .val (.long p5), .second, .val (.long (p0 * (3 : Int64))), .second, .val (.long (p1 * (5 : Int64))), .second, .val (.long (p2 * (7 : Int64))), .second, .val (.long (p3 * (11 : Int64))), .second, .val (.long p5), .second, .val (.long (p4 * (3 : Int64))), .second, .val (.long (p3 * (5 : Int64))), .second, .val (.long (p2 * (13 : Int64))), .second, .val (.long (p1 * (17 : Int64))), .second, .val (.long (p0 * (19 : Int64))), .second, .unset, .unset, .unset, .unset, .unset, .unset, .unset, .unset, .unset, .unset, .unset]) rfl ?_
  refine o_lload X0 hx hby D0_94 rfl ?_
  refine o_lstore X0 hx hby D0_96 (l' := #[.val (.long p0), .second, .val (.long p1), .second, .val (.long p2), .second, .val (.long p3), .second, .val (.long p4), .second, .val (.long p5), .second, .val (.long p0), .second, .val (.long p1), .second, .val (.long p2), .second, .val (.long p3), .second, .val (.long p4), .second, .val (.long p5), .second, .val (.long (p0 * (3 : Int64))), .second, .val (.long (p1 * (5 : Int64))), .second, .val (.long (p2 * (7 : Int64))), .second, .val (.long (p3 * (11 : Int64))), .second, .val (.long p5), .second, .val (.long (p4 * (3 : Int64))), .second, .val (.long (p3 * (5 : Int64))), .second, .val (.long (p2 * (13 : Int64))), .second, .val (.long (p1 * (17 : Int64))), .second, .val (.long (p0 * (19 : Int64))), .second, .val (.long p4), .second, .unset, .unset, .unset, .unset, .unset, .unset, .unset, .unset, .unset]) rfl ?_
  refine o_lload X0 hx hby D0_98 rfl ?_
  refine o_ldc2 X0 hx hby hown (mvT hZ (own_wd hw (i := 7) rfl)) D0_100 ?_
  refine o_lmul X0 hx hby D0_103 ?_
  refine o_lstore X0 hx hby D0_104 (l' := #[.val (.long p0), .second, .val (.long p1), .second, .val (.long p2), .second, .val (.long p3), .second, .val (.long p4), .second, .val (.long p5), .second, .val (.long p0), .second, .val (.long p1), .second, .val (.long p2), .second, .val (.long p3), .second, .val (.long p4), .second, .val (.long p5), .second, .val (.long (p0 * (3 : Int64))), .second, .val (.long (p1 * (5 : Int64))), .second, .val (.long (p2 * (7 : Int64))), .second, .val (.long (p3 * (11 : Int64))), .second, .val (.long p5), .second, .val (.long (p4 * (3 : Int64))), .second, .val (.long (p3 * (5 : Int64))), .second, .val (.long (p2 * (13 : Int64))), .second, .val (.long (p1 * (17 : Int64))), .second, .val (.long (p0 * (19 : Int64))), .second, .val (.long p4), .second, .val (.long (p5 * (23 : Int64))), .second, .unset, .unset, .unset, .unset, .unset, .unset, .unset]) rfl ?_
  refine o_lload X0 hx hby D0_106 rfl ?_
  refine o_ldc2 X0 hx hby hown (mvT hZ (own_wd hw (i := 8) rfl)) D0_108 ?_
  refine o_lmul X0 hx hby D0_111 ?_
  refine o_lstore X0 hx hby D0_112 (l' := #[.val (.long p0), .second, .val (.long p1), .second, .val (.long p2), .second, .val (.long p3), .second, .val (.long p4), .second, .val (.long p5), .second, .val (.long p0), .second, .val (.long p1), .second, .val (.long p2), .second, .val (.long p3), .second, .val (.long p4), .second, .val (.long p5), .second, .val (.long (p0 * (3 : Int64))), .second, .val (.long (p1 * (5 : Int64))), .second, .val (.long (p2 * (7 : Int64))), .second, .val (.long (p3 * (11 : Int64))), .second, .val (.long p5), .second, .val (.long (p4 * (3 : Int64))), .second, .val (.long (p3 * (5 : Int64))), .second, .val (.long (p2 * (13 : Int64))), .second, .val (.long (p1 * (17 : Int64))), .second, .val (.long (p0 * (19 : Int64))), .second, .val (.long p4), .second, .val (.long (p5 * (23 : Int64))), .second, .val (.long (p4 * (29 : Int64))), .second, .unset, .unset, .unset, .unset, .unset]) rfl ?_
  refine o_lload X0 hx hby D0_114 rfl ?_
  refine o_ldc2 X0 hx hby hown (mvT hZ (own_wd hw (i := 9) rfl)) D0_116 ?_
  refine o_lmul X0 hx hby D0_119 ?_
  refine o_lstore X0 hx hby D0_120 (l' := #[.val (.long p0), .second, .val (.long p1), .second, .val (.long p2), .second, .val (.long p3), .second, .val (.long p4), .second, .val (.long p5), .second, .val (.long p0), .second, .val (.long p1), .second, .val (.long p2), .second, .val (.long p3), .second, .val (.long p4), .second, .val (.long p5), .second, .val (.long (p0 * (3 : Int64))), .second, .val (.long (p1 * (5 : Int64))), .second, .val (.long (p2 * (7 : Int64))), .second, .val (.long (p3 * (11 : Int64))), .second, .val (.long p5), .second, .val (.long (p4 * (3 : Int64))), .second, .val (.long (p3 * (5 : Int64))), .second, .val (.long (p2 * (13 : Int64))), .second, .val (.long (p1 * (17 : Int64))), .second, .val (.long (p0 * (19 : Int64))), .second, .val (.long p4), .second, .val (.long (p5 * (23 : Int64))), .second, .val (.long (p4 * (29 : Int64))), .second, .val (.long (p3 * (31 : Int64))), .second, .unset, .unset, .unset]) rfl ?_
  obtain ⟨T1, h1, X1, e1, E1, A1, D1, -, st1⟩ := newO X0 hx hZ hown (own_wd hw (i := 10) rfl) (own_wd hw (i := 11) rfl) (own_wd hw (i := 12) rfl) e0 (g := (mkF m 122 #[.val (.long p0), .second, .val (.long p1), .second, .val (.long p2), .second, .val (.long p3), .second, .val (.long p4), .second, .val (.long p5), .second, .val (.long p0), .second, .val (.long p1), .second, .val (.long p2), .second, .val (.long p3), .second, .val (.long p4), .second, .val (.long p5), .second, .val (.long (p0 * (3 : Int64))), .second, .val (.long (p1 * (5 : Int64))), .second, .val (.long (p2 * (7 : Int64))), .second, .val (.long (p3 * (11 : Int64))), .second, .val (.long p5), .second, .val (.long (p4 * (3 : Int64))), .second, .val (.long (p3 * (5 : Int64))), .second, .val (.long (p2 * (13 : Int64))), .second, .val (.long (p1 * (17 : Int64))), .second, .val (.long (p0 * (19 : Int64))), .second, .val (.long p4), .second, .val (.long (p5 * (23 : Int64))), .second, .val (.long (p4 * (29 : Int64))), .second, .val (.long (p3 * (31 : Int64))), .second, .unset, .unset, .unset] [])) rfl (hb hby D0_122.1) (by decide) (by decide)
  obtain ⟨b1, g1⟩ : ∃ z : Nat, z = h0.size := ⟨_, rfl⟩
  rw [← g1] at A1 D1 st1
  have sz1 := own_leN E1.1
  have gn_b1 : n0 ≤ b1 := by omega
  have lt_b1 := own_ltN A1.lt
  have F_localHits_b1 : Fld Z h1 b1 "dev/twotier/CacheCounters" "localHits" "J" (.long (0 : Int64)) := D1 (Or.inr (own_wd hw (i := 25) rfl)) (ty := .long) (by decide)
  have F_localMisses_b1 : Fld Z h1 b1 "dev/twotier/CacheCounters" "localMisses" "J" (.long (0 : Int64)) := D1 (Or.inr (own_wd hw (i := 27) rfl)) (ty := .long) (by decide)
  have F_redisHits_b1 : Fld Z h1 b1 "dev/twotier/CacheCounters" "redisHits" "J" (.long (0 : Int64)) := D1 (Or.inr (own_wd hw (i := 29) rfl)) (ty := .long) (by decide)
  have F_redisMisses_b1 : Fld Z h1 b1 "dev/twotier/CacheCounters" "redisMisses" "J" (.long (0 : Int64)) := D1 (Or.inr (own_wd hw (i := 31) rfl)) (ty := .long) (by decide)
  have F_puts_b1 : Fld Z h1 b1 "dev/twotier/CacheCounters" "puts" "J" (.long (0 : Int64)) := D1 (Or.inr (own_wd hw (i := 33) rfl)) (ty := .long) (by decide)
  have F_loadSuccesses_b1 : Fld Z h1 b1 "dev/twotier/CacheCounters" "loadSuccesses" "J" (.long (0 : Int64)) := D1 (Or.inr (own_wd hw (i := 35) rfl)) (ty := .long) (by decide)
  have F_loadFailures_b1 : Fld Z h1 b1 "dev/twotier/CacheCounters" "loadFailures" "J" (.long (0 : Int64)) := D1 (Or.inr (own_wd hw (i := 37) rfl)) (ty := .long) (by decide)
  have F_localEvictions_b1 : Fld Z h1 b1 "dev/twotier/CacheCounters" "localEvictions" "J" (.long (0 : Int64)) := D1 (Or.inr (own_wd hw (i := 39) rfl)) (ty := .long) (by decide)
  have F_invalidations_b1 : Fld Z h1 b1 "dev/twotier/CacheCounters" "invalidations" "J" (.long (0 : Int64)) := D1 (Or.inr (own_wd hw (i := 41) rfl)) (ty := .long) (by decide)
  have F_redisErrors_b1 : Fld Z h1 b1 "dev/twotier/CacheCounters" "redisErrors" "J" (.long (0 : Int64)) := D1 (Or.inr (own_wd hw (i := 43) rfl)) (ty := .long) (by decide)
  refine own_pre (A' := T1.setTop (mkF m 125 #[.val (.long p0), .second, .val (.long p1), .second, .val (.long p2), .second, .val (.long p3), .second, .val (.long p4), .second, .val (.long p5), .second, .val (.long p0), .second, .val (.long p1), .second, .val (.long p2), .second, .val (.long p3), .second, .val (.long p4), .second, .val (.long p5), .second, .val (.long (p0 * (3 : Int64))), .second, .val (.long (p1 * (5 : Int64))), .second, .val (.long (p2 * (7 : Int64))), .second, .val (.long (p3 * (11 : Int64))), .second, .val (.long p5), .second, .val (.long (p4 * (3 : Int64))), .second, .val (.long (p3 * (5 : Int64))), .second, .val (.long (p2 * (13 : Int64))), .second, .val (.long (p1 * (17 : Int64))), .second, .val (.long (p0 * (19 : Int64))), .second, .val (.long p4), .second, .val (.long (p5 * (23 : Int64))), .second, .val (.long (p4 * (29 : Int64))), .second, .val (.long (p3 * (31 : Int64))), .second, .unset, .unset, .unset] [(.ref b1)])) st1 ?_
  refine o_dup X1 hx hby D0_125 rfl ?_
  refine o_lload X1 hx hby D0_126 rfl ?_
  refine o_lload X1 hx hby D0_128 rfl ?_
  refine o_lload X1 hx hby D0_130 rfl ?_
  refine o_lload X1 hx hby D0_132 rfl ?_
  refine o_lload X1 hx hby D0_134 rfl ?_
  refine o_lload X1 hx hby D0_136 rfl ?_
  refine o_lload X1 hx hby D0_138 rfl ?_
  refine o_lload X1 hx hby D0_140 rfl ?_
  refine o_lload X1 hx hby D0_142 rfl ?_
  refine o_lload X1 hx hby D0_144 rfl ?_
  obtain ⟨_, _, ⟨T2, L2, k2, n2⟩, -, X2, ⟨Lc2, hQ2, l2, y2, z2⟩, st2⟩ := X1.specialBack hx (y := (⟨"dev/twotier/CacheCounters", "<init>", "(JJJJJJJJJJ)V"⟩ : MethodName)) rfl hown (mvT hZ (own_wd hw (i := 13) rfl)) (mvT hZ (own_wd hw (i := 14) rfl)) (mvT hZ (own_wd hw (i := 15) rfl)) (by decide) (backOf (W := 1) (rmI l Z a0 hw [] b1 p0 p1 p2 p3 p4 p5 (p0 * (3 : Int64)) (p1 * (5 : Int64)) (p2 * (7 : Int64)) (p3 * (11 : Int64)) _ _ _ _ _ _ _ _ _ _ h1 n0 (own_leN (by omega)) gn_b1 A1 F_localHits_b1 F_localMisses_b1 F_redisHits_b1 F_redisMisses_b1 F_puts_b1 F_loadSuccesses_b1 F_loadFailures_b1 F_localEvictions_b1 F_invalidations_b1 F_redisErrors_b1) hZ (own_wd hw (i := 15) rfl) (own_wd hw (i := 12) rfl) (by decide) (by decide)) (g := (mkF m 146 #[.val (.long p0), .second, .val (.long p1), .second, .val (.long p2), .second, .val (.long p3), .second, .val (.long p4), .second, .val (.long p5), .second, .val (.long p0), .second, .val (.long p1), .second, .val (.long p2), .second, .val (.long p3), .second, .val (.long p4), .second, .val (.long p5), .second, .val (.long (p0 * (3 : Int64))), .second, .val (.long (p1 * (5 : Int64))), .second, .val (.long (p2 * (7 : Int64))), .second, .val (.long (p3 * (11 : Int64))), .second, .val (.long p5), .second, .val (.long (p4 * (3 : Int64))), .second, .val (.long (p3 * (5 : Int64))), .second, .val (.long (p2 * (13 : Int64))), .second, .val (.long (p1 * (17 : Int64))), .second, .val (.long (p0 * (19 : Int64))), .second, .val (.long p4), .second, .val (.long (p5 * (23 : Int64))), .second, .val (.long (p4 * (29 : Int64))), .second, .val (.long (p3 * (31 : Int64))), .second, .unset, .unset, .unset] [(.long (p3 * (11 : Int64))), (.long (p2 * (7 : Int64))), (.long (p1 * (5 : Int64))), (.long (p0 * (3 : Int64))), (.long p5), (.long p4), (.long p3), (.long p2), (.long p1), (.long p0), (.ref b1), (.ref b1)])) rfl (by rw [hml]; rfl) (Steps.refl _) (a := b1) (argsL := [(.long p0), (.long p1), (.long p2), (.long p3), (.long p4), (.long p5), (.long (p0 * (3 : Int64))), (.long (p1 * (5 : Int64))), (.long (p2 * (7 : Int64))), (.long (p3 * (11 : Int64)))]) (rest := [(.ref b1)]) (lenOf pd__40JJJJJJJJJJ_41V rfl) rfl (by show 2 * 0 + _ ≤ _; exact Nat.le_of_eq rfl) (hb hby D0_146.1) (fun _ _ => ⟨rfl, e1, (by decide : 1 + 0 ≤ _), (by decide : 10 + 0 ≤ _)⟩)
  dsimp only [Pt.U, Pt.locs, Pt.cells, Pt.slots] at X2 l2 y2 z2 st2 hQ2
  subst l2 y2 z2
  obtain ⟨rfl, N2q, K2, Ei2, Fi2_localHits, Fi2_localMisses, Fi2_redisHits, Fi2_redisMisses, Fi2_puts, Fi2_loadSuccesses, Fi2_loadFailures, Fi2_localEvictions, Fi2_invalidations, Fi2_redisErrors⟩ := hQ2
  have sz2 := own_leN K2.1
  have N2 := Fr.app N0 N2q
  refine own_pre (A' := T2.setTop (mkF m 149 #[.val (.long p0), .second, .val (.long p1), .second, .val (.long p2), .second, .val (.long p3), .second, .val (.long p4), .second, .val (.long p5), .second, .val (.long p0), .second, .val (.long p1), .second, .val (.long p2), .second, .val (.long p3), .second, .val (.long p4), .second, .val (.long p5), .second, .val (.long (p0 * (3 : Int64))), .second, .val (.long (p1 * (5 : Int64))), .second, .val (.long (p2 * (7 : Int64))), .second, .val (.long (p3 * (11 : Int64))), .second, .val (.long p5), .second, .val (.long (p4 * (3 : Int64))), .second, .val (.long (p3 * (5 : Int64))), .second, .val (.long (p2 * (13 : Int64))), .second, .val (.long (p1 * (17 : Int64))), .second, .val (.long (p0 * (19 : Int64))), .second, .val (.long p4), .second, .val (.long (p5 * (23 : Int64))), .second, .val (.long (p4 * (29 : Int64))), .second, .val (.long (p3 * (31 : Int64))), .second, .unset, .unset, .unset] [(.ref b1)])) (fun t k => st2.trans k) ?_
  refine o_astore X2 hx hby D0_149 rfl (l' := #[.val (.long p0), .second, .val (.long p1), .second, .val (.long p2), .second, .val (.long p3), .second, .val (.long p4), .second, .val (.long p5), .second, .val (.long p0), .second, .val (.long p1), .second, .val (.long p2), .second, .val (.long p3), .second, .val (.long p4), .second, .val (.long p5), .second, .val (.long (p0 * (3 : Int64))), .second, .val (.long (p1 * (5 : Int64))), .second, .val (.long (p2 * (7 : Int64))), .second, .val (.long (p3 * (11 : Int64))), .second, .val (.long p5), .second, .val (.long (p4 * (3 : Int64))), .second, .val (.long (p3 * (5 : Int64))), .second, .val (.long (p2 * (13 : Int64))), .second, .val (.long (p1 * (17 : Int64))), .second, .val (.long (p0 * (19 : Int64))), .second, .val (.long p4), .second, .val (.long (p5 * (23 : Int64))), .second, .val (.long (p4 * (29 : Int64))), .second, .val (.long (p3 * (31 : Int64))), .second, .val (.ref b1), .unset, .unset]) rfl ?_
  obtain ⟨T3, h3, X3, e3, E3, A3, D3, -, st3⟩ := newO X2 hx hZ hown (own_wd hw (i := 10) rfl) (own_wd hw (i := 11) rfl) (own_wd hw (i := 12) rfl) rfl (g := (mkF m 151 #[.val (.long p0), .second, .val (.long p1), .second, .val (.long p2), .second, .val (.long p3), .second, .val (.long p4), .second, .val (.long p5), .second, .val (.long p0), .second, .val (.long p1), .second, .val (.long p2), .second, .val (.long p3), .second, .val (.long p4), .second, .val (.long p5), .second, .val (.long (p0 * (3 : Int64))), .second, .val (.long (p1 * (5 : Int64))), .second, .val (.long (p2 * (7 : Int64))), .second, .val (.long (p3 * (11 : Int64))), .second, .val (.long p5), .second, .val (.long (p4 * (3 : Int64))), .second, .val (.long (p3 * (5 : Int64))), .second, .val (.long (p2 * (13 : Int64))), .second, .val (.long (p1 * (17 : Int64))), .second, .val (.long (p0 * (19 : Int64))), .second, .val (.long p4), .second, .val (.long (p5 * (23 : Int64))), .second, .val (.long (p4 * (29 : Int64))), .second, .val (.long (p3 * (31 : Int64))), .second, .val (.ref b1), .unset, .unset] [])) rfl (hb hby D0_151.1) (by decide) (by decide)
  obtain ⟨b3, g3⟩ : ∃ z : Nat, z = T2.heap.size := ⟨_, rfl⟩
  rw [← g3] at A3 D3 st3
  have sz3 := own_leN E3.1
  have gn_b3 : n0 ≤ b3 := by omega
  have lt_b3 := own_ltN A3.lt
  have F_localHits_b3 : Fld Z h3 b3 "dev/twotier/CacheCounters" "localHits" "J" (.long (0 : Int64)) := D3 (Or.inr (own_wd hw (i := 25) rfl)) (ty := .long) (by decide)
  have F_localMisses_b3 : Fld Z h3 b3 "dev/twotier/CacheCounters" "localMisses" "J" (.long (0 : Int64)) := D3 (Or.inr (own_wd hw (i := 27) rfl)) (ty := .long) (by decide)
  have F_redisHits_b3 : Fld Z h3 b3 "dev/twotier/CacheCounters" "redisHits" "J" (.long (0 : Int64)) := D3 (Or.inr (own_wd hw (i := 29) rfl)) (ty := .long) (by decide)
  have F_redisMisses_b3 : Fld Z h3 b3 "dev/twotier/CacheCounters" "redisMisses" "J" (.long (0 : Int64)) := D3 (Or.inr (own_wd hw (i := 31) rfl)) (ty := .long) (by decide)
  have F_puts_b3 : Fld Z h3 b3 "dev/twotier/CacheCounters" "puts" "J" (.long (0 : Int64)) := D3 (Or.inr (own_wd hw (i := 33) rfl)) (ty := .long) (by decide)
  have F_loadSuccesses_b3 : Fld Z h3 b3 "dev/twotier/CacheCounters" "loadSuccesses" "J" (.long (0 : Int64)) := D3 (Or.inr (own_wd hw (i := 35) rfl)) (ty := .long) (by decide)
  have F_loadFailures_b3 : Fld Z h3 b3 "dev/twotier/CacheCounters" "loadFailures" "J" (.long (0 : Int64)) := D3 (Or.inr (own_wd hw (i := 37) rfl)) (ty := .long) (by decide)
  have F_localEvictions_b3 : Fld Z h3 b3 "dev/twotier/CacheCounters" "localEvictions" "J" (.long (0 : Int64)) := D3 (Or.inr (own_wd hw (i := 39) rfl)) (ty := .long) (by decide)
  have F_invalidations_b3 : Fld Z h3 b3 "dev/twotier/CacheCounters" "invalidations" "J" (.long (0 : Int64)) := D3 (Or.inr (own_wd hw (i := 41) rfl)) (ty := .long) (by decide)
  have F_redisErrors_b3 : Fld Z h3 b3 "dev/twotier/CacheCounters" "redisErrors" "J" (.long (0 : Int64)) := D3 (Or.inr (own_wd hw (i := 43) rfl)) (ty := .long) (by decide)
  refine own_pre (A' := T3.setTop (mkF m 154 #[.val (.long p0), .second, .val (.long p1), .second, .val (.long p2), .second, .val (.long p3), .second, .val (.long p4), .second, .val (.long p5), .second, .val (.long p0), .second, .val (.long p1), .second, .val (.long p2), .second, .val (.long p3), .second, .val (.long p4), .second, .val (.long p5), .second, .val (.long (p0 * (3 : Int64))), .second, .val (.long (p1 * (5 : Int64))), .second, .val (.long (p2 * (7 : Int64))), .second, .val (.long (p3 * (11 : Int64))), .second, .val (.long p5), .second, .val (.long (p4 * (3 : Int64))), .second, .val (.long (p3 * (5 : Int64))), .second, .val (.long (p2 * (13 : Int64))), .second, .val (.long (p1 * (17 : Int64))), .second, .val (.long (p0 * (19 : Int64))), .second, .val (.long p4), .second, .val (.long (p5 * (23 : Int64))), .second, .val (.long (p4 * (29 : Int64))), .second, .val (.long (p3 * (31 : Int64))), .second, .val (.ref b1), .unset, .unset] [(.ref b3)])) st3 ?_
  refine o_dup X3 hx hby D0_154 rfl ?_
  refine o_lload X3 hx hby D0_155 rfl ?_
  refine o_lload X3 hx hby D0_157 rfl ?_
  refine o_lload X3 hx hby D0_159 rfl ?_
  refine o_lload X3 hx hby D0_161 rfl ?_
  refine o_lload X3 hx hby D0_163 rfl ?_
  refine o_lload X3 hx hby D0_165 rfl ?_
  refine o_lload X3 hx hby D0_167 rfl ?_
  refine o_lload X3 hx hby D0_169 rfl ?_
  refine o_lload X3 hx hby D0_171 rfl ?_
  refine o_lload X3 hx hby D0_173 rfl ?_
  obtain ⟨_, _, ⟨T4, L4, k4, n4⟩, -, X4, ⟨Lc4, hQ4, l4, y4, z4⟩, st4⟩ := X3.specialBack hx (y := (⟨"dev/twotier/CacheCounters", "<init>", "(JJJJJJJJJJ)V"⟩ : MethodName)) rfl hown (mvT hZ (own_wd hw (i := 13) rfl)) (mvT hZ (own_wd hw (i := 14) rfl)) (mvT hZ (own_wd hw (i := 15) rfl)) (by decide) (backOf (W := 1) (rmI l Z a0 hw [] b3 p5 (p4 * (3 : Int64)) (p3 * (5 : Int64)) (p2 * (13 : Int64)) (p1 * (17 : Int64)) (p0 * (19 : Int64)) p4 (p5 * (23 : Int64)) (p4 * (29 : Int64)) (p3 * (31 : Int64)) _ _ _ _ _ _ _ _ _ _ h3 n0 (own_leN (by omega)) gn_b3 A3 F_localHits_b3 F_localMisses_b3 F_redisHits_b3 F_redisMisses_b3 F_puts_b3 F_loadSuccesses_b3 F_loadFailures_b3 F_localEvictions_b3 F_invalidations_b3 F_redisErrors_b3) hZ (own_wd hw (i := 15) rfl) (own_wd hw (i := 12) rfl) (by decide) (by decide)) (g := (mkF m 175 #[.val (.long p0), .second, .val (.long p1), .second, .val (.long p2), .second, .val (.long p3), .second, .val (.long p4), .second, .val (.long p5), .second, .val (.long p0), .second, .val (.long p1), .second, .val (.long p2), .second, .val (.long p3), .second, .val (.long p4), .second, .val (.long p5), .second, .val (.long (p0 * (3 : Int64))), .second, .val (.long (p1 * (5 : Int64))), .second, .val (.long (p2 * (7 : Int64))), .second, .val (.long (p3 * (11 : Int64))), .second, .val (.long p5), .second, .val (.long (p4 * (3 : Int64))), .second, .val (.long (p3 * (5 : Int64))), .second, .val (.long (p2 * (13 : Int64))), .second, .val (.long (p1 * (17 : Int64))), .second, .val (.long (p0 * (19 : Int64))), .second, .val (.long p4), .second, .val (.long (p5 * (23 : Int64))), .second, .val (.long (p4 * (29 : Int64))), .second, .val (.long (p3 * (31 : Int64))), .second, .val (.ref b1), .unset, .unset] [(.long (p3 * (31 : Int64))), (.long (p4 * (29 : Int64))), (.long (p5 * (23 : Int64))), (.long p4), (.long (p0 * (19 : Int64))), (.long (p1 * (17 : Int64))), (.long (p2 * (13 : Int64))), (.long (p3 * (5 : Int64))), (.long (p4 * (3 : Int64))), (.long p5), (.ref b3), (.ref b3)])) rfl (by rw [hml]; rfl) (Steps.refl _) (a := b3) (argsL := [(.long p5), (.long (p4 * (3 : Int64))), (.long (p3 * (5 : Int64))), (.long (p2 * (13 : Int64))), (.long (p1 * (17 : Int64))), (.long (p0 * (19 : Int64))), (.long p4), (.long (p5 * (23 : Int64))), (.long (p4 * (29 : Int64))), (.long (p3 * (31 : Int64)))]) (rest := [(.ref b3)]) (lenOf pd__40JJJJJJJJJJ_41V rfl) rfl (by show 2 * 0 + _ ≤ _; exact Nat.le_of_eq rfl) (hb hby D0_175.1) (fun _ _ => ⟨rfl, e3, (by decide : 2 + 0 ≤ _), (by decide : 20 + 0 ≤ _)⟩)
  dsimp only [Pt.U, Pt.locs, Pt.cells, Pt.slots] at X4 l4 y4 z4 st4 hQ4
  subst l4 y4 z4
  obtain ⟨rfl, N4q, K4, Ei4, Fi4_localHits, Fi4_localMisses, Fi4_redisHits, Fi4_redisMisses, Fi4_puts, Fi4_loadSuccesses, Fi4_loadFailures, Fi4_localEvictions, Fi4_invalidations, Fi4_redisErrors⟩ := hQ4
  have sz4 := own_leN K4.1
  have N4 := Fr.app N2 N4q
  refine own_pre (A' := T4.setTop (mkF m 178 #[.val (.long p0), .second, .val (.long p1), .second, .val (.long p2), .second, .val (.long p3), .second, .val (.long p4), .second, .val (.long p5), .second, .val (.long p0), .second, .val (.long p1), .second, .val (.long p2), .second, .val (.long p3), .second, .val (.long p4), .second, .val (.long p5), .second, .val (.long (p0 * (3 : Int64))), .second, .val (.long (p1 * (5 : Int64))), .second, .val (.long (p2 * (7 : Int64))), .second, .val (.long (p3 * (11 : Int64))), .second, .val (.long p5), .second, .val (.long (p4 * (3 : Int64))), .second, .val (.long (p3 * (5 : Int64))), .second, .val (.long (p2 * (13 : Int64))), .second, .val (.long (p1 * (17 : Int64))), .second, .val (.long (p0 * (19 : Int64))), .second, .val (.long p4), .second, .val (.long (p5 * (23 : Int64))), .second, .val (.long (p4 * (29 : Int64))), .second, .val (.long (p3 * (31 : Int64))), .second, .val (.ref b1), .unset, .unset] [(.ref b3)])) (fun t k => st4.trans k) ?_
  refine o_astore X4 hx hby D0_178 rfl (l' := #[.val (.long p0), .second, .val (.long p1), .second, .val (.long p2), .second, .val (.long p3), .second, .val (.long p4), .second, .val (.long p5), .second, .val (.long p0), .second, .val (.long p1), .second, .val (.long p2), .second, .val (.long p3), .second, .val (.long p4), .second, .val (.long p5), .second, .val (.long (p0 * (3 : Int64))), .second, .val (.long (p1 * (5 : Int64))), .second, .val (.long (p2 * (7 : Int64))), .second, .val (.long (p3 * (11 : Int64))), .second, .val (.long p5), .second, .val (.long (p4 * (3 : Int64))), .second, .val (.long (p3 * (5 : Int64))), .second, .val (.long (p2 * (13 : Int64))), .second, .val (.long (p1 * (17 : Int64))), .second, .val (.long (p0 * (19 : Int64))), .second, .val (.long p4), .second, .val (.long (p5 * (23 : Int64))), .second, .val (.long (p4 * (29 : Int64))), .second, .val (.long (p3 * (31 : Int64))), .second, .val (.ref b1), .val (.ref b3), .unset]) rfl ?_
  refine o_aload X4 hx hby D0_180 rfl rfl ?_
  refine o_aload X4 hx hby D0_182 rfl rfl ?_
  have c6_F_b1_localHits := ((Fi2_localHits.ext E3).keep K4 (ninS (by first | exact own_neN (by omega) | exact own_neN' (by omega)) nin0))
  have c7_F_b1_localMisses := ((Fi2_localMisses.ext E3).keep K4 (ninS (by first | exact own_neN (by omega) | exact own_neN' (by omega)) nin0))
  have c8_F_b1_redisHits := ((Fi2_redisHits.ext E3).keep K4 (ninS (by first | exact own_neN (by omega) | exact own_neN' (by omega)) nin0))
  have c9_F_b1_redisMisses := ((Fi2_redisMisses.ext E3).keep K4 (ninS (by first | exact own_neN (by omega) | exact own_neN' (by omega)) nin0))
  have c10_F_b1_puts := ((Fi2_puts.ext E3).keep K4 (ninS (by first | exact own_neN (by omega) | exact own_neN' (by omega)) nin0))
  have c11_F_b1_loadSuccesses := ((Fi2_loadSuccesses.ext E3).keep K4 (ninS (by first | exact own_neN (by omega) | exact own_neN' (by omega)) nin0))
  have c12_F_b1_loadFailures := ((Fi2_loadFailures.ext E3).keep K4 (ninS (by first | exact own_neN (by omega) | exact own_neN' (by omega)) nin0))
  have c13_F_b1_localEvictions := ((Fi2_localEvictions.ext E3).keep K4 (ninS (by first | exact own_neN (by omega) | exact own_neN' (by omega)) nin0))
  have c14_F_b1_invalidations := ((Fi2_invalidations.ext E3).keep K4 (ninS (by first | exact own_neN (by omega) | exact own_neN' (by omega)) nin0))
  have c15_F_b1_redisErrors := ((Fi2_redisErrors.ext E3).keep K4 (ninS (by first | exact own_neN (by omega) | exact own_neN' (by omega)) nin0))
  have c16_E_b1 := ((Ei2.ext E3).keep K4)
  obtain ⟨cq5, kq5, q5a, q5b, q5c⟩ := isOf hZ rfl c16_E_b1
  obtain ⟨_, _, ⟨T5, L5, k5, n5⟩, -, X5, ⟨Lc5, hQ5, l5, y5, z5⟩, st5⟩ := X4.virtualBack hx (y := (⟨"dev/twotier/CacheCounters", "plus", "(Ldev/twotier/CacheCounters;)Ldev/twotier/CacheCounters;"⟩ : MethodName)) (z := (⟨"dev/twotier/CacheCounters", "plus", "(Ldev/twotier/CacheCounters;)Ldev/twotier/CacheCounters;"⟩ : MethodName)) hown (mvT hZ (own_wd hw (i := 44) rfl)) (mvT hZ (own_wd hw (i := 45) rfl)) (notFace_of_selects (args := #[]) (mvT hZ (own_wd hw (i := 47) rfl))) (mvT hZ (own_wd hw (i := 47) rfl)) (mvT hZ (own_wd hw (i := 46) rfl)) (by decide) (backOf (W := 0) (rmP l Z a0 hw [] b1 b3 p0 p1 p2 p3 p4 p5 (p0 * (3 : Int64)) (p1 * (5 : Int64)) (p2 * (7 : Int64)) (p3 * (11 : Int64)) p5 (p4 * (3 : Int64)) (p3 * (5 : Int64)) (p2 * (13 : Int64)) (p1 * (17 : Int64)) (p0 * (19 : Int64)) p4 (p5 * (23 : Int64)) (p4 * (29 : Int64)) (p3 * (31 : Int64)) T4.heap n0 (own_leN (by omega)) c6_F_b1_localHits c7_F_b1_localMisses c8_F_b1_redisHits c9_F_b1_redisMisses c10_F_b1_puts c11_F_b1_loadSuccesses c12_F_b1_loadFailures c13_F_b1_localEvictions c14_F_b1_invalidations c15_F_b1_redisErrors Fi4_localHits Fi4_localMisses Fi4_redisHits Fi4_redisMisses Fi4_puts Fi4_loadSuccesses Fi4_loadFailures Fi4_localEvictions Fi4_invalidations Fi4_redisErrors) hZ (own_wd hw (i := 48) rfl) (own_wd hw (i := 12) rfl) (by decide) (by decide)) q5a q5c (g := (mkF m 184 #[.val (.long p0), .second, .val (.long p1), .second, .val (.long p2), .second, .val (.long p3), .second, .val (.long p4), .second, .val (.long p5), .second, .val (.long p0), .second, .val (.long p1), .second, .val (.long p2), .second, .val (.long p3), .second, .val (.long p4), .second, .val (.long p5), .second, .val (.long (p0 * (3 : Int64))), .second, .val (.long (p1 * (5 : Int64))), .second, .val (.long (p2 * (7 : Int64))), .second, .val (.long (p3 * (11 : Int64))), .second, .val (.long p5), .second, .val (.long (p4 * (3 : Int64))), .second, .val (.long (p3 * (5 : Int64))), .second, .val (.long (p2 * (13 : Int64))), .second, .val (.long (p1 * (17 : Int64))), .second, .val (.long (p0 * (19 : Int64))), .second, .val (.long p4), .second, .val (.long (p5 * (23 : Int64))), .second, .val (.long (p4 * (29 : Int64))), .second, .val (.long (p3 * (31 : Int64))), .second, .val (.ref b1), .val (.ref b3), .unset] [(.ref b3), (.ref b1)])) rfl (by rw [hml]; rfl) (Steps.refl _) (argsL := [(.ref b3)]) (rest := []) (lenOf pd__40Ldev_47twotier_47CacheCounters_59_41Ldev_47twotier_47CacheCounters_59 rfl) rfl (by show 2 * 0 + _ ≤ _; exact Nat.le_of_eq rfl) (hb hby D0_184.1) (fun _ _ => ⟨rfl, rfl, (by decide : 2 + 1 ≤ _), (by decide : 20 + 10 ≤ _)⟩)
  dsimp only [Pt.U, Pt.locs, Pt.cells, Pt.slots] at X5 l5 y5 z5 st5 hQ5
  subst l5 y5 z5
  obtain ⟨r5, rfl, N5q, K5, Ep5, Fp5_localHits, Fp5_localMisses, Fp5_redisHits, Fp5_redisMisses, Fp5_puts, Fp5_loadSuccesses, Fp5_loadFailures, Fp5_localEvictions, Fp5_invalidations, Fp5_redisErrors⟩ := hQ5
  have sz5 := own_leN K5.1
  have N5 := Fr.app N4 N5q
  refine own_pre (A' := T5.setTop (mkF m 187 #[.val (.long p0), .second, .val (.long p1), .second, .val (.long p2), .second, .val (.long p3), .second, .val (.long p4), .second, .val (.long p5), .second, .val (.long p0), .second, .val (.long p1), .second, .val (.long p2), .second, .val (.long p3), .second, .val (.long p4), .second, .val (.long p5), .second, .val (.long (p0 * (3 : Int64))), .second, .val (.long (p1 * (5 : Int64))), .second, .val (.long (p2 * (7 : Int64))), .second, .val (.long (p3 * (11 : Int64))), .second, .val (.long p5), .second, .val (.long (p4 * (3 : Int64))), .second, .val (.long (p3 * (5 : Int64))), .second, .val (.long (p2 * (13 : Int64))), .second, .val (.long (p1 * (17 : Int64))), .second, .val (.long (p0 * (19 : Int64))), .second, .val (.long p4), .second, .val (.long (p5 * (23 : Int64))), .second, .val (.long (p4 * (29 : Int64))), .second, .val (.long (p3 * (31 : Int64))), .second, .val (.ref b1), .val (.ref b3), .unset] [(.ref r5)])) (fun t k => st5.trans k) ?_
  refine o_astore X5 hx hby D0_187 rfl (l' := #[.val (.long p0), .second, .val (.long p1), .second, .val (.long p2), .second, .val (.long p3), .second, .val (.long p4), .second, .val (.long p5), .second, .val (.long p0), .second, .val (.long p1), .second, .val (.long p2), .second, .val (.long p3), .second, .val (.long p4), .second, .val (.long p5), .second, .val (.long (p0 * (3 : Int64))), .second, .val (.long (p1 * (5 : Int64))), .second, .val (.long (p2 * (7 : Int64))), .second, .val (.long (p3 * (11 : Int64))), .second, .val (.long p5), .second, .val (.long (p4 * (3 : Int64))), .second, .val (.long (p3 * (5 : Int64))), .second, .val (.long (p2 * (13 : Int64))), .second, .val (.long (p1 * (17 : Int64))), .second, .val (.long (p0 * (19 : Int64))), .second, .val (.long p4), .second, .val (.long (p5 * (23 : Int64))), .second, .val (.long (p4 * (29 : Int64))), .second, .val (.long (p3 * (31 : Int64))), .second, .val (.ref b1), .val (.ref b3), .val (.ref r5)]) rfl ?_
  refine o_aload X5 hx hby D0_189 rfl rfl ?_
  obtain ⟨cq17, kq17, q17a, q17b, q17c⟩ := isOf hZ rfl Ep5
  obtain ⟨_, _, ⟨T17, L17, k17, n17⟩, -, X17, ⟨Lc17, hQ17, l17, y17, z17⟩, st17⟩ := X5.virtualBack hx (y := (⟨"dev/twotier/CacheCounters", "localHits", "()J"⟩ : MethodName)) (z := (⟨"dev/twotier/CacheCounters", "localHits", "()J"⟩ : MethodName)) hown (mvT hZ (own_wd hw (i := 51) rfl)) (mvT hZ (own_wd hw (i := 52) rfl)) (notFace_of_selects (args := #[]) (mvT hZ (own_wd hw (i := 54) rfl))) (mvT hZ (own_wd hw (i := 54) rfl)) (mvT hZ (own_wd hw (i := 53) rfl)) (by decide) (backOf (W := 0) (rmG_localHits l Z a0 hw [] r5 (p0 + p5) T5.heap n0 (own_leN (by omega)) Fp5_localHits) hZ (own_wd hw (i := 55) rfl) (own_wd hw (i := 12) rfl) (by decide) (by decide)) q17a q17c (g := (mkF m 191 #[.val (.long p0), .second, .val (.long p1), .second, .val (.long p2), .second, .val (.long p3), .second, .val (.long p4), .second, .val (.long p5), .second, .val (.long p0), .second, .val (.long p1), .second, .val (.long p2), .second, .val (.long p3), .second, .val (.long p4), .second, .val (.long p5), .second, .val (.long (p0 * (3 : Int64))), .second, .val (.long (p1 * (5 : Int64))), .second, .val (.long (p2 * (7 : Int64))), .second, .val (.long (p3 * (11 : Int64))), .second, .val (.long p5), .second, .val (.long (p4 * (3 : Int64))), .second, .val (.long (p3 * (5 : Int64))), .second, .val (.long (p2 * (13 : Int64))), .second, .val (.long (p1 * (17 : Int64))), .second, .val (.long (p0 * (19 : Int64))), .second, .val (.long p4), .second, .val (.long (p5 * (23 : Int64))), .second, .val (.long (p4 * (29 : Int64))), .second, .val (.long (p3 * (31 : Int64))), .second, .val (.ref b1), .val (.ref b3), .val (.ref r5)] [(.ref r5)])) rfl (by rw [hml]; rfl) (Steps.refl _) (argsL := []) (rest := []) (lenOf pd__40_41J rfl) rfl (by show 2 * 0 + _ ≤ _; exact Nat.le_of_eq rfl) (hb hby D0_191.1) (fun _ _ => ⟨rfl, rfl, (by decide : 3 + 0 ≤ _), (by decide : 30 + 0 ≤ _)⟩)
  dsimp only [Pt.U, Pt.locs, Pt.cells, Pt.slots] at X17 l17 y17 z17 st17 hQ17
  subst l17 y17 z17
  obtain ⟨rfl, N17q, e17⟩ := hQ17
  have N17 := Fr.app N5 N17q
  refine own_pre (A' := T17.setTop (mkF m 194 #[.val (.long p0), .second, .val (.long p1), .second, .val (.long p2), .second, .val (.long p3), .second, .val (.long p4), .second, .val (.long p5), .second, .val (.long p0), .second, .val (.long p1), .second, .val (.long p2), .second, .val (.long p3), .second, .val (.long p4), .second, .val (.long p5), .second, .val (.long (p0 * (3 : Int64))), .second, .val (.long (p1 * (5 : Int64))), .second, .val (.long (p2 * (7 : Int64))), .second, .val (.long (p3 * (11 : Int64))), .second, .val (.long p5), .second, .val (.long (p4 * (3 : Int64))), .second, .val (.long (p3 * (5 : Int64))), .second, .val (.long (p2 * (13 : Int64))), .second, .val (.long (p1 * (17 : Int64))), .second, .val (.long (p0 * (19 : Int64))), .second, .val (.long p4), .second, .val (.long (p5 * (23 : Int64))), .second, .val (.long (p4 * (29 : Int64))), .second, .val (.long (p3 * (31 : Int64))), .second, .val (.ref b1), .val (.ref b3), .val (.ref r5)] [(.long (p0 + p5))])) (fun t k => st17.trans k) ?_
  refine o_lload X17 hx hby D0_194 rfl ?_
  refine o_lload X17 hx hby D0_196 rfl ?_
  refine o_ladd X17 hx hby D0_198 ?_
  refine o_lcmp X17 hx hby D0_199 ?_
  refine o_ifN X17 hx hby D0_200 ((if0 _ _).trans (teq ((lw_eq (p0 + p5) (p0 + p5)).mpr (rfl : (p0 + p5) = (p0 + p5)))).2) ?_
  refine o_aload X17 hx hby D0_203 rfl rfl ?_
  obtain ⟨cq18, kq18, q18a, q18b, q18c⟩ := isOf hZ e17 Ep5
  obtain ⟨_, _, ⟨T18, L18, k18, n18⟩, -, X18, ⟨Lc18, hQ18, l18, y18, z18⟩, st18⟩ := X17.virtualBack hx (y := (⟨"dev/twotier/CacheCounters", "localMisses", "()J"⟩ : MethodName)) (z := (⟨"dev/twotier/CacheCounters", "localMisses", "()J"⟩ : MethodName)) hown (mvT hZ (own_wd hw (i := 56) rfl)) (mvT hZ (own_wd hw (i := 57) rfl)) (notFace_of_selects (args := #[]) (mvT hZ (own_wd hw (i := 59) rfl))) (mvT hZ (own_wd hw (i := 59) rfl)) (mvT hZ (own_wd hw (i := 58) rfl)) (by decide) (backOf (W := 0) (rmG_localMisses l Z a0 hw [] r5 (p1 + (p4 * (3 : Int64))) T5.heap n0 (own_leN (by omega)) Fp5_localMisses) hZ (own_wd hw (i := 60) rfl) (own_wd hw (i := 12) rfl) (by decide) (by decide)) q18a q18c (g := (mkF m 205 #[.val (.long p0), .second, .val (.long p1), .second, .val (.long p2), .second, .val (.long p3), .second, .val (.long p4), .second, .val (.long p5), .second, .val (.long p0), .second, .val (.long p1), .second, .val (.long p2), .second, .val (.long p3), .second, .val (.long p4), .second, .val (.long p5), .second, .val (.long (p0 * (3 : Int64))), .second, .val (.long (p1 * (5 : Int64))), .second, .val (.long (p2 * (7 : Int64))), .second, .val (.long (p3 * (11 : Int64))), .second, .val (.long p5), .second, .val (.long (p4 * (3 : Int64))), .second, .val (.long (p3 * (5 : Int64))), .second, .val (.long (p2 * (13 : Int64))), .second, .val (.long (p1 * (17 : Int64))), .second, .val (.long (p0 * (19 : Int64))), .second, .val (.long p4), .second, .val (.long (p5 * (23 : Int64))), .second, .val (.long (p4 * (29 : Int64))), .second, .val (.long (p3 * (31 : Int64))), .second, .val (.ref b1), .val (.ref b3), .val (.ref r5)] [(.ref r5)])) rfl (by rw [hml]; rfl) (Steps.refl _) (argsL := []) (rest := []) (lenOf pd__40_41J rfl) rfl (by show 2 * 0 + _ ≤ _; exact Nat.le_of_eq rfl) (hb hby D0_205.1) (fun _ _ => ⟨rfl, e17, (by decide : 3 + 0 ≤ _), (by decide : 30 + 0 ≤ _)⟩)
  dsimp only [Pt.U, Pt.locs, Pt.cells, Pt.slots] at X18 l18 y18 z18 st18 hQ18
  subst l18 y18 z18
  obtain ⟨rfl, N18q, e18⟩ := hQ18
  have N18 := Fr.app N17 N18q
  refine own_pre (A' := T18.setTop (mkF m 208 #[.val (.long p0), .second, .val (.long p1), .second, .val (.long p2), .second, .val (.long p3), .second, .val (.long p4), .second, .val (.long p5), .second, .val (.long p0), .second, .val (.long p1), .second, .val (.long p2), .second, .val (.long p3), .second, .val (.long p4), .second, .val (.long p5), .second, .val (.long (p0 * (3 : Int64))), .second, .val (.long (p1 * (5 : Int64))), .second, .val (.long (p2 * (7 : Int64))), .second, .val (.long (p3 * (11 : Int64))), .second, .val (.long p5), .second, .val (.long (p4 * (3 : Int64))), .second, .val (.long (p3 * (5 : Int64))), .second, .val (.long (p2 * (13 : Int64))), .second, .val (.long (p1 * (17 : Int64))), .second, .val (.long (p0 * (19 : Int64))), .second, .val (.long p4), .second, .val (.long (p5 * (23 : Int64))), .second, .val (.long (p4 * (29 : Int64))), .second, .val (.long (p3 * (31 : Int64))), .second, .val (.ref b1), .val (.ref b3), .val (.ref r5)] [(.long (p1 + (p4 * (3 : Int64))))])) (fun t k => st18.trans k) ?_
  refine o_lload X18 hx hby D0_208 rfl ?_
  refine o_lload X18 hx hby D0_210 rfl ?_
  refine o_ladd X18 hx hby D0_212 ?_
  refine o_lcmp X18 hx hby D0_213 ?_
  refine o_ifN X18 hx hby D0_214 ((if0 _ _).trans (teq ((lw_eq (p1 + (p4 * (3 : Int64))) (p1 + (p4 * (3 : Int64)))).mpr (rfl : (p1 + (p4 * (3 : Int64))) = (p1 + (p4 * (3 : Int64)))))).2) ?_
  refine o_aload X18 hx hby D0_217 rfl rfl ?_
  obtain ⟨cq19, kq19, q19a, q19b, q19c⟩ := isOf hZ e18 Ep5
  obtain ⟨_, _, ⟨T19, L19, k19, n19⟩, -, X19, ⟨Lc19, hQ19, l19, y19, z19⟩, st19⟩ := X18.virtualBack hx (y := (⟨"dev/twotier/CacheCounters", "redisHits", "()J"⟩ : MethodName)) (z := (⟨"dev/twotier/CacheCounters", "redisHits", "()J"⟩ : MethodName)) hown (mvT hZ (own_wd hw (i := 61) rfl)) (mvT hZ (own_wd hw (i := 62) rfl)) (notFace_of_selects (args := #[]) (mvT hZ (own_wd hw (i := 64) rfl))) (mvT hZ (own_wd hw (i := 64) rfl)) (mvT hZ (own_wd hw (i := 63) rfl)) (by decide) (backOf (W := 0) (rmG_redisHits l Z a0 hw [] r5 (p2 + (p3 * (5 : Int64))) T5.heap n0 (own_leN (by omega)) Fp5_redisHits) hZ (own_wd hw (i := 65) rfl) (own_wd hw (i := 12) rfl) (by decide) (by decide)) q19a q19c (g := (mkF m 219 #[.val (.long p0), .second, .val (.long p1), .second, .val (.long p2), .second, .val (.long p3), .second, .val (.long p4), .second, .val (.long p5), .second, .val (.long p0), .second, .val (.long p1), .second, .val (.long p2), .second, .val (.long p3), .second, .val (.long p4), .second, .val (.long p5), .second, .val (.long (p0 * (3 : Int64))), .second, .val (.long (p1 * (5 : Int64))), .second, .val (.long (p2 * (7 : Int64))), .second, .val (.long (p3 * (11 : Int64))), .second, .val (.long p5), .second, .val (.long (p4 * (3 : Int64))), .second, .val (.long (p3 * (5 : Int64))), .second, .val (.long (p2 * (13 : Int64))), .second, .val (.long (p1 * (17 : Int64))), .second, .val (.long (p0 * (19 : Int64))), .second, .val (.long p4), .second, .val (.long (p5 * (23 : Int64))), .second, .val (.long (p4 * (29 : Int64))), .second, .val (.long (p3 * (31 : Int64))), .second, .val (.ref b1), .val (.ref b3), .val (.ref r5)] [(.ref r5)])) rfl (by rw [hml]; rfl) (Steps.refl _) (argsL := []) (rest := []) (lenOf pd__40_41J rfl) rfl (by show 2 * 0 + _ ≤ _; exact Nat.le_of_eq rfl) (hb hby D0_219.1) (fun _ _ => ⟨rfl, e18, (by decide : 3 + 0 ≤ _), (by decide : 30 + 0 ≤ _)⟩)
  dsimp only [Pt.U, Pt.locs, Pt.cells, Pt.slots] at X19 l19 y19 z19 st19 hQ19
  subst l19 y19 z19
  obtain ⟨rfl, N19q, e19⟩ := hQ19
  have N19 := Fr.app N18 N19q
  refine own_pre (A' := T19.setTop (mkF m 222 #[.val (.long p0), .second, .val (.long p1), .second, .val (.long p2), .second, .val (.long p3), .second, .val (.long p4), .second, .val (.long p5), .second, .val (.long p0), .second, .val (.long p1), .second, .val (.long p2), .second, .val (.long p3), .second, .val (.long p4), .second, .val (.long p5), .second, .val (.long (p0 * (3 : Int64))), .second, .val (.long (p1 * (5 : Int64))), .second, .val (.long (p2 * (7 : Int64))), .second, .val (.long (p3 * (11 : Int64))), .second, .val (.long p5), .second, .val (.long (p4 * (3 : Int64))), .second, .val (.long (p3 * (5 : Int64))), .second, .val (.long (p2 * (13 : Int64))), .second, .val (.long (p1 * (17 : Int64))), .second, .val (.long (p0 * (19 : Int64))), .second, .val (.long p4), .second, .val (.long (p5 * (23 : Int64))), .second, .val (.long (p4 * (29 : Int64))), .second, .val (.long (p3 * (31 : Int64))), .second, .val (.ref b1), .val (.ref b3), .val (.ref r5)] [(.long (p2 + (p3 * (5 : Int64))))])) (fun t k => st19.trans k) ?_
  refine o_lload X19 hx hby D0_222 rfl ?_
  refine o_lload X19 hx hby D0_224 rfl ?_
  refine o_ladd X19 hx hby D0_226 ?_
  refine o_lcmp X19 hx hby D0_227 ?_
  refine o_ifN X19 hx hby D0_228 ((if0 _ _).trans (teq ((lw_eq (p2 + (p3 * (5 : Int64))) (p2 + (p3 * (5 : Int64)))).mpr (rfl : (p2 + (p3 * (5 : Int64))) = (p2 + (p3 * (5 : Int64)))))).2) ?_
  refine o_aload X19 hx hby D0_231 rfl rfl ?_
  obtain ⟨cq20, kq20, q20a, q20b, q20c⟩ := isOf hZ e19 Ep5
  obtain ⟨_, _, ⟨T20, L20, k20, n20⟩, -, X20, ⟨Lc20, hQ20, l20, y20, z20⟩, st20⟩ := X19.virtualBack hx (y := (⟨"dev/twotier/CacheCounters", "redisMisses", "()J"⟩ : MethodName)) (z := (⟨"dev/twotier/CacheCounters", "redisMisses", "()J"⟩ : MethodName)) hown (mvT hZ (own_wd hw (i := 66) rfl)) (mvT hZ (own_wd hw (i := 67) rfl)) (notFace_of_selects (args := #[]) (mvT hZ (own_wd hw (i := 69) rfl))) (mvT hZ (own_wd hw (i := 69) rfl)) (mvT hZ (own_wd hw (i := 68) rfl)) (by decide) (backOf (W := 0) (rmG_redisMisses l Z a0 hw [] r5 (p3 + (p2 * (13 : Int64))) T5.heap n0 (own_leN (by omega)) Fp5_redisMisses) hZ (own_wd hw (i := 70) rfl) (own_wd hw (i := 12) rfl) (by decide) (by decide)) q20a q20c (g := (mkF m 233 #[.val (.long p0), .second, .val (.long p1), .second, .val (.long p2), .second, .val (.long p3), .second, .val (.long p4), .second, .val (.long p5), .second, .val (.long p0), .second, .val (.long p1), .second, .val (.long p2), .second, .val (.long p3), .second, .val (.long p4), .second, .val (.long p5), .second, .val (.long (p0 * (3 : Int64))), .second, .val (.long (p1 * (5 : Int64))), .second, .val (.long (p2 * (7 : Int64))), .second, .val (.long (p3 * (11 : Int64))), .second, .val (.long p5), .second, .val (.long (p4 * (3 : Int64))), .second, .val (.long (p3 * (5 : Int64))), .second, .val (.long (p2 * (13 : Int64))), .second, .val (.long (p1 * (17 : Int64))), .second, .val (.long (p0 * (19 : Int64))), .second, .val (.long p4), .second, .val (.long (p5 * (23 : Int64))), .second, .val (.long (p4 * (29 : Int64))), .second, .val (.long (p3 * (31 : Int64))), .second, .val (.ref b1), .val (.ref b3), .val (.ref r5)] [(.ref r5)])) rfl (by rw [hml]; rfl) (Steps.refl _) (argsL := []) (rest := []) (lenOf pd__40_41J rfl) rfl (by show 2 * 0 + _ ≤ _; exact Nat.le_of_eq rfl) (hb hby D0_233.1) (fun _ _ => ⟨rfl, e19, (by decide : 3 + 0 ≤ _), (by decide : 30 + 0 ≤ _)⟩)
  dsimp only [Pt.U, Pt.locs, Pt.cells, Pt.slots] at X20 l20 y20 z20 st20 hQ20
  subst l20 y20 z20
  obtain ⟨rfl, N20q, e20⟩ := hQ20
  have N20 := Fr.app N19 N20q
  refine own_pre (A' := T20.setTop (mkF m 236 #[.val (.long p0), .second, .val (.long p1), .second, .val (.long p2), .second, .val (.long p3), .second, .val (.long p4), .second, .val (.long p5), .second, .val (.long p0), .second, .val (.long p1), .second, .val (.long p2), .second, .val (.long p3), .second, .val (.long p4), .second, .val (.long p5), .second, .val (.long (p0 * (3 : Int64))), .second, .val (.long (p1 * (5 : Int64))), .second, .val (.long (p2 * (7 : Int64))), .second, .val (.long (p3 * (11 : Int64))), .second, .val (.long p5), .second, .val (.long (p4 * (3 : Int64))), .second, .val (.long (p3 * (5 : Int64))), .second, .val (.long (p2 * (13 : Int64))), .second, .val (.long (p1 * (17 : Int64))), .second, .val (.long (p0 * (19 : Int64))), .second, .val (.long p4), .second, .val (.long (p5 * (23 : Int64))), .second, .val (.long (p4 * (29 : Int64))), .second, .val (.long (p3 * (31 : Int64))), .second, .val (.ref b1), .val (.ref b3), .val (.ref r5)] [(.long (p3 + (p2 * (13 : Int64))))])) (fun t k => st20.trans k) ?_
  refine o_lload X20 hx hby D0_236 rfl ?_
  refine o_lload X20 hx hby D0_238 rfl ?_
  refine o_ladd X20 hx hby D0_240 ?_
  refine o_lcmp X20 hx hby D0_241 ?_
  refine o_ifN X20 hx hby D0_242 ((if0 _ _).trans (teq ((lw_eq (p3 + (p2 * (13 : Int64))) (p3 + (p2 * (13 : Int64)))).mpr (rfl : (p3 + (p2 * (13 : Int64))) = (p3 + (p2 * (13 : Int64)))))).2) ?_
  refine o_aload X20 hx hby D0_245 rfl rfl ?_
  obtain ⟨cq21, kq21, q21a, q21b, q21c⟩ := isOf hZ e20 Ep5
  obtain ⟨_, _, ⟨T21, L21, k21, n21⟩, -, X21, ⟨Lc21, hQ21, l21, y21, z21⟩, st21⟩ := X20.virtualBack hx (y := (⟨"dev/twotier/CacheCounters", "puts", "()J"⟩ : MethodName)) (z := (⟨"dev/twotier/CacheCounters", "puts", "()J"⟩ : MethodName)) hown (mvT hZ (own_wd hw (i := 71) rfl)) (mvT hZ (own_wd hw (i := 72) rfl)) (notFace_of_selects (args := #[]) (mvT hZ (own_wd hw (i := 74) rfl))) (mvT hZ (own_wd hw (i := 74) rfl)) (mvT hZ (own_wd hw (i := 73) rfl)) (by decide) (backOf (W := 0) (rmG_puts l Z a0 hw [] r5 (p4 + (p1 * (17 : Int64))) T5.heap n0 (own_leN (by omega)) Fp5_puts) hZ (own_wd hw (i := 75) rfl) (own_wd hw (i := 12) rfl) (by decide) (by decide)) q21a q21c (g := (mkF m 247 #[.val (.long p0), .second, .val (.long p1), .second, .val (.long p2), .second, .val (.long p3), .second, .val (.long p4), .second, .val (.long p5), .second, .val (.long p0), .second, .val (.long p1), .second, .val (.long p2), .second, .val (.long p3), .second, .val (.long p4), .second, .val (.long p5), .second, .val (.long (p0 * (3 : Int64))), .second, .val (.long (p1 * (5 : Int64))), .second, .val (.long (p2 * (7 : Int64))), .second, .val (.long (p3 * (11 : Int64))), .second, .val (.long p5), .second, .val (.long (p4 * (3 : Int64))), .second, .val (.long (p3 * (5 : Int64))), .second, .val (.long (p2 * (13 : Int64))), .second, .val (.long (p1 * (17 : Int64))), .second, .val (.long (p0 * (19 : Int64))), .second, .val (.long p4), .second, .val (.long (p5 * (23 : Int64))), .second, .val (.long (p4 * (29 : Int64))), .second, .val (.long (p3 * (31 : Int64))), .second, .val (.ref b1), .val (.ref b3), .val (.ref r5)] [(.ref r5)])) rfl (by rw [hml]; rfl) (Steps.refl _) (argsL := []) (rest := []) (lenOf pd__40_41J rfl) rfl (by show 2 * 0 + _ ≤ _; exact Nat.le_of_eq rfl) (hb hby D0_247.1) (fun _ _ => ⟨rfl, e20, (by decide : 3 + 0 ≤ _), (by decide : 30 + 0 ≤ _)⟩)
  dsimp only [Pt.U, Pt.locs, Pt.cells, Pt.slots] at X21 l21 y21 z21 st21 hQ21
  subst l21 y21 z21
  obtain ⟨rfl, N21q, e21⟩ := hQ21
  have N21 := Fr.app N20 N21q
  refine own_pre (A' := T21.setTop (mkF m 250 #[.val (.long p0), .second, .val (.long p1), .second, .val (.long p2), .second, .val (.long p3), .second, .val (.long p4), .second, .val (.long p5), .second, .val (.long p0), .second, .val (.long p1), .second, .val (.long p2), .second, .val (.long p3), .second, .val (.long p4), .second, .val (.long p5), .second, .val (.long (p0 * (3 : Int64))), .second, .val (.long (p1 * (5 : Int64))), .second, .val (.long (p2 * (7 : Int64))), .second, .val (.long (p3 * (11 : Int64))), .second, .val (.long p5), .second, .val (.long (p4 * (3 : Int64))), .second, .val (.long (p3 * (5 : Int64))), .second, .val (.long (p2 * (13 : Int64))), .second, .val (.long (p1 * (17 : Int64))), .second, .val (.long (p0 * (19 : Int64))), .second, .val (.long p4), .second, .val (.long (p5 * (23 : Int64))), .second, .val (.long (p4 * (29 : Int64))), .second, .val (.long (p3 * (31 : Int64))), .second, .val (.ref b1), .val (.ref b3), .val (.ref r5)] [(.long (p4 + (p1 * (17 : Int64))))])) (fun t k => st21.trans k) ?_
  refine o_lload X21 hx hby D0_250 rfl ?_
  refine o_lload X21 hx hby D0_252 rfl ?_
  refine o_ladd X21 hx hby D0_254 ?_
  refine o_lcmp X21 hx hby D0_255 ?_
  refine o_ifN X21 hx hby D0_256 ((if0 _ _).trans (teq ((lw_eq (p4 + (p1 * (17 : Int64))) (p4 + (p1 * (17 : Int64)))).mpr (rfl : (p4 + (p1 * (17 : Int64))) = (p4 + (p1 * (17 : Int64)))))).2) ?_
  refine o_aload X21 hx hby D0_259 rfl rfl ?_
  obtain ⟨cq22, kq22, q22a, q22b, q22c⟩ := isOf hZ e21 Ep5
  obtain ⟨_, _, ⟨T22, L22, k22, n22⟩, -, X22, ⟨Lc22, hQ22, l22, y22, z22⟩, st22⟩ := X21.virtualBack hx (y := (⟨"dev/twotier/CacheCounters", "loadSuccesses", "()J"⟩ : MethodName)) (z := (⟨"dev/twotier/CacheCounters", "loadSuccesses", "()J"⟩ : MethodName)) hown (mvT hZ (own_wd hw (i := 76) rfl)) (mvT hZ (own_wd hw (i := 77) rfl)) (notFace_of_selects (args := #[]) (mvT hZ (own_wd hw (i := 79) rfl))) (mvT hZ (own_wd hw (i := 79) rfl)) (mvT hZ (own_wd hw (i := 78) rfl)) (by decide) (backOf (W := 0) (rmG_loadSuccesses l Z a0 hw [] r5 (p5 + (p0 * (19 : Int64))) T5.heap n0 (own_leN (by omega)) Fp5_loadSuccesses) hZ (own_wd hw (i := 80) rfl) (own_wd hw (i := 12) rfl) (by decide) (by decide)) q22a q22c (g := (mkF m 261 #[.val (.long p0), .second, .val (.long p1), .second, .val (.long p2), .second, .val (.long p3), .second, .val (.long p4), .second, .val (.long p5), .second, .val (.long p0), .second, .val (.long p1), .second, .val (.long p2), .second, .val (.long p3), .second, .val (.long p4), .second, .val (.long p5), .second, .val (.long (p0 * (3 : Int64))), .second, .val (.long (p1 * (5 : Int64))), .second, .val (.long (p2 * (7 : Int64))), .second, .val (.long (p3 * (11 : Int64))), .second, .val (.long p5), .second, .val (.long (p4 * (3 : Int64))), .second, .val (.long (p3 * (5 : Int64))), .second, .val (.long (p2 * (13 : Int64))), .second, .val (.long (p1 * (17 : Int64))), .second, .val (.long (p0 * (19 : Int64))), .second, .val (.long p4), .second, .val (.long (p5 * (23 : Int64))), .second, .val (.long (p4 * (29 : Int64))), .second, .val (.long (p3 * (31 : Int64))), .second, .val (.ref b1), .val (.ref b3), .val (.ref r5)] [(.ref r5)])) rfl (by rw [hml]; rfl) (Steps.refl _) (argsL := []) (rest := []) (lenOf pd__40_41J rfl) rfl (by show 2 * 0 + _ ≤ _; exact Nat.le_of_eq rfl) (hb hby D0_261.1) (fun _ _ => ⟨rfl, e21, (by decide : 3 + 0 ≤ _), (by decide : 30 + 0 ≤ _)⟩)
  dsimp only [Pt.U, Pt.locs, Pt.cells, Pt.slots] at X22 l22 y22 z22 st22 hQ22
  subst l22 y22 z22
  obtain ⟨rfl, N22q, e22⟩ := hQ22
  have N22 := Fr.app N21 N22q
  refine own_pre (A' := T22.setTop (mkF m 264 #[.val (.long p0), .second, .val (.long p1), .second, .val (.long p2), .second, .val (.long p3), .second, .val (.long p4), .second, .val (.long p5), .second, .val (.long p0), .second, .val (.long p1), .second, .val (.long p2), .second, .val (.long p3), .second, .val (.long p4), .second, .val (.long p5), .second, .val (.long (p0 * (3 : Int64))), .second, .val (.long (p1 * (5 : Int64))), .second, .val (.long (p2 * (7 : Int64))), .second, .val (.long (p3 * (11 : Int64))), .second, .val (.long p5), .second, .val (.long (p4 * (3 : Int64))), .second, .val (.long (p3 * (5 : Int64))), .second, .val (.long (p2 * (13 : Int64))), .second, .val (.long (p1 * (17 : Int64))), .second, .val (.long (p0 * (19 : Int64))), .second, .val (.long p4), .second, .val (.long (p5 * (23 : Int64))), .second, .val (.long (p4 * (29 : Int64))), .second, .val (.long (p3 * (31 : Int64))), .second, .val (.ref b1), .val (.ref b3), .val (.ref r5)] [(.long (p5 + (p0 * (19 : Int64))))])) (fun t k => st22.trans k) ?_
  refine o_lload X22 hx hby D0_264 rfl ?_
  refine o_lload X22 hx hby D0_266 rfl ?_
  refine o_ladd X22 hx hby D0_268 ?_
  refine o_lcmp X22 hx hby D0_269 ?_
  refine o_ifN X22 hx hby D0_270 ((if0 _ _).trans (teq ((lw_eq (p5 + (p0 * (19 : Int64))) (p5 + (p0 * (19 : Int64)))).mpr (rfl : (p5 + (p0 * (19 : Int64))) = (p5 + (p0 * (19 : Int64)))))).2) ?_
  refine o_aload X22 hx hby D0_273 rfl rfl ?_
  obtain ⟨cq23, kq23, q23a, q23b, q23c⟩ := isOf hZ e22 Ep5
  obtain ⟨_, _, ⟨T23, L23, k23, n23⟩, -, X23, ⟨Lc23, hQ23, l23, y23, z23⟩, st23⟩ := X22.virtualBack hx (y := (⟨"dev/twotier/CacheCounters", "loadFailures", "()J"⟩ : MethodName)) (z := (⟨"dev/twotier/CacheCounters", "loadFailures", "()J"⟩ : MethodName)) hown (mvT hZ (own_wd hw (i := 81) rfl)) (mvT hZ (own_wd hw (i := 82) rfl)) (notFace_of_selects (args := #[]) (mvT hZ (own_wd hw (i := 84) rfl))) (mvT hZ (own_wd hw (i := 84) rfl)) (mvT hZ (own_wd hw (i := 83) rfl)) (by decide) (backOf (W := 0) (rmG_loadFailures l Z a0 hw [] r5 ((p0 * (3 : Int64)) + p4) T5.heap n0 (own_leN (by omega)) Fp5_loadFailures) hZ (own_wd hw (i := 85) rfl) (own_wd hw (i := 12) rfl) (by decide) (by decide)) q23a q23c (g := (mkF m 275 #[.val (.long p0), .second, .val (.long p1), .second, .val (.long p2), .second, .val (.long p3), .second, .val (.long p4), .second, .val (.long p5), .second, .val (.long p0), .second, .val (.long p1), .second, .val (.long p2), .second, .val (.long p3), .second, .val (.long p4), .second, .val (.long p5), .second, .val (.long (p0 * (3 : Int64))), .second, .val (.long (p1 * (5 : Int64))), .second, .val (.long (p2 * (7 : Int64))), .second, .val (.long (p3 * (11 : Int64))), .second, .val (.long p5), .second, .val (.long (p4 * (3 : Int64))), .second, .val (.long (p3 * (5 : Int64))), .second, .val (.long (p2 * (13 : Int64))), .second, .val (.long (p1 * (17 : Int64))), .second, .val (.long (p0 * (19 : Int64))), .second, .val (.long p4), .second, .val (.long (p5 * (23 : Int64))), .second, .val (.long (p4 * (29 : Int64))), .second, .val (.long (p3 * (31 : Int64))), .second, .val (.ref b1), .val (.ref b3), .val (.ref r5)] [(.ref r5)])) rfl (by rw [hml]; rfl) (Steps.refl _) (argsL := []) (rest := []) (lenOf pd__40_41J rfl) rfl (by show 2 * 0 + _ ≤ _; exact Nat.le_of_eq rfl) (hb hby D0_275.1) (fun _ _ => ⟨rfl, e22, (by decide : 3 + 0 ≤ _), (by decide : 30 + 0 ≤ _)⟩)
  dsimp only [Pt.U, Pt.locs, Pt.cells, Pt.slots] at X23 l23 y23 z23 st23 hQ23
  subst l23 y23 z23
  obtain ⟨rfl, N23q, e23⟩ := hQ23
  have N23 := Fr.app N22 N23q
  refine own_pre (A' := T23.setTop (mkF m 278 #[.val (.long p0), .second, .val (.long p1), .second, .val (.long p2), .second, .val (.long p3), .second, .val (.long p4), .second, .val (.long p5), .second, .val (.long p0), .second, .val (.long p1), .second, .val (.long p2), .second, .val (.long p3), .second, .val (.long p4), .second, .val (.long p5), .second, .val (.long (p0 * (3 : Int64))), .second, .val (.long (p1 * (5 : Int64))), .second, .val (.long (p2 * (7 : Int64))), .second, .val (.long (p3 * (11 : Int64))), .second, .val (.long p5), .second, .val (.long (p4 * (3 : Int64))), .second, .val (.long (p3 * (5 : Int64))), .second, .val (.long (p2 * (13 : Int64))), .second, .val (.long (p1 * (17 : Int64))), .second, .val (.long (p0 * (19 : Int64))), .second, .val (.long p4), .second, .val (.long (p5 * (23 : Int64))), .second, .val (.long (p4 * (29 : Int64))), .second, .val (.long (p3 * (31 : Int64))), .second, .val (.ref b1), .val (.ref b3), .val (.ref r5)] [(.long ((p0 * (3 : Int64)) + p4))])) (fun t k => st23.trans k) ?_
  refine o_lload X23 hx hby D0_278 rfl ?_
  refine o_lload X23 hx hby D0_280 rfl ?_
  refine o_ladd X23 hx hby D0_282 ?_
  refine o_lcmp X23 hx hby D0_283 ?_
  refine o_ifN X23 hx hby D0_284 ((if0 _ _).trans (teq ((lw_eq ((p0 * (3 : Int64)) + p4) ((p0 * (3 : Int64)) + p4)).mpr (rfl : ((p0 * (3 : Int64)) + p4) = ((p0 * (3 : Int64)) + p4)))).2) ?_
  refine o_aload X23 hx hby D0_287 rfl rfl ?_
  obtain ⟨cq24, kq24, q24a, q24b, q24c⟩ := isOf hZ e23 Ep5
  obtain ⟨_, _, ⟨T24, L24, k24, n24⟩, -, X24, ⟨Lc24, hQ24, l24, y24, z24⟩, st24⟩ := X23.virtualBack hx (y := (⟨"dev/twotier/CacheCounters", "localEvictions", "()J"⟩ : MethodName)) (z := (⟨"dev/twotier/CacheCounters", "localEvictions", "()J"⟩ : MethodName)) hown (mvT hZ (own_wd hw (i := 86) rfl)) (mvT hZ (own_wd hw (i := 87) rfl)) (notFace_of_selects (args := #[]) (mvT hZ (own_wd hw (i := 89) rfl))) (mvT hZ (own_wd hw (i := 89) rfl)) (mvT hZ (own_wd hw (i := 88) rfl)) (by decide) (backOf (W := 0) (rmG_localEvictions l Z a0 hw [] r5 ((p1 * (5 : Int64)) + (p5 * (23 : Int64))) T5.heap n0 (own_leN (by omega)) Fp5_localEvictions) hZ (own_wd hw (i := 90) rfl) (own_wd hw (i := 12) rfl) (by decide) (by decide)) q24a q24c (g := (mkF m 289 #[.val (.long p0), .second, .val (.long p1), .second, .val (.long p2), .second, .val (.long p3), .second, .val (.long p4), .second, .val (.long p5), .second, .val (.long p0), .second, .val (.long p1), .second, .val (.long p2), .second, .val (.long p3), .second, .val (.long p4), .second, .val (.long p5), .second, .val (.long (p0 * (3 : Int64))), .second, .val (.long (p1 * (5 : Int64))), .second, .val (.long (p2 * (7 : Int64))), .second, .val (.long (p3 * (11 : Int64))), .second, .val (.long p5), .second, .val (.long (p4 * (3 : Int64))), .second, .val (.long (p3 * (5 : Int64))), .second, .val (.long (p2 * (13 : Int64))), .second, .val (.long (p1 * (17 : Int64))), .second, .val (.long (p0 * (19 : Int64))), .second, .val (.long p4), .second, .val (.long (p5 * (23 : Int64))), .second, .val (.long (p4 * (29 : Int64))), .second, .val (.long (p3 * (31 : Int64))), .second, .val (.ref b1), .val (.ref b3), .val (.ref r5)] [(.ref r5)])) rfl (by rw [hml]; rfl) (Steps.refl _) (argsL := []) (rest := []) (lenOf pd__40_41J rfl) rfl (by show 2 * 0 + _ ≤ _; exact Nat.le_of_eq rfl) (hb hby D0_289.1) (fun _ _ => ⟨rfl, e23, (by decide : 3 + 0 ≤ _), (by decide : 30 + 0 ≤ _)⟩)
  dsimp only [Pt.U, Pt.locs, Pt.cells, Pt.slots] at X24 l24 y24 z24 st24 hQ24
  subst l24 y24 z24
  obtain ⟨rfl, N24q, e24⟩ := hQ24
  have N24 := Fr.app N23 N24q
  refine own_pre (A' := T24.setTop (mkF m 292 #[.val (.long p0), .second, .val (.long p1), .second, .val (.long p2), .second, .val (.long p3), .second, .val (.long p4), .second, .val (.long p5), .second, .val (.long p0), .second, .val (.long p1), .second, .val (.long p2), .second, .val (.long p3), .second, .val (.long p4), .second, .val (.long p5), .second, .val (.long (p0 * (3 : Int64))), .second, .val (.long (p1 * (5 : Int64))), .second, .val (.long (p2 * (7 : Int64))), .second, .val (.long (p3 * (11 : Int64))), .second, .val (.long p5), .second, .val (.long (p4 * (3 : Int64))), .second, .val (.long (p3 * (5 : Int64))), .second, .val (.long (p2 * (13 : Int64))), .second, .val (.long (p1 * (17 : Int64))), .second, .val (.long (p0 * (19 : Int64))), .second, .val (.long p4), .second, .val (.long (p5 * (23 : Int64))), .second, .val (.long (p4 * (29 : Int64))), .second, .val (.long (p3 * (31 : Int64))), .second, .val (.ref b1), .val (.ref b3), .val (.ref r5)] [(.long ((p1 * (5 : Int64)) + (p5 * (23 : Int64))))])) (fun t k => st24.trans k) ?_
  refine o_lload X24 hx hby D0_292 rfl ?_
  refine o_lload X24 hx hby D0_294 rfl ?_
  refine o_ladd X24 hx hby D0_296 ?_
  refine o_lcmp X24 hx hby D0_297 ?_
  refine o_ifN X24 hx hby D0_298 ((if0 _ _).trans (teq ((lw_eq ((p1 * (5 : Int64)) + (p5 * (23 : Int64))) ((p1 * (5 : Int64)) + (p5 * (23 : Int64)))).mpr (rfl : ((p1 * (5 : Int64)) + (p5 * (23 : Int64))) = ((p1 * (5 : Int64)) + (p5 * (23 : Int64)))))).2) ?_
  refine o_aload X24 hx hby D0_301 rfl rfl ?_
  obtain ⟨cq25, kq25, q25a, q25b, q25c⟩ := isOf hZ e24 Ep5
  obtain ⟨_, _, ⟨T25, L25, k25, n25⟩, -, X25, ⟨Lc25, hQ25, l25, y25, z25⟩, st25⟩ := X24.virtualBack hx (y := (⟨"dev/twotier/CacheCounters", "invalidations", "()J"⟩ : MethodName)) (z := (⟨"dev/twotier/CacheCounters", "invalidations", "()J"⟩ : MethodName)) hown (mvT hZ (own_wd hw (i := 91) rfl)) (mvT hZ (own_wd hw (i := 92) rfl)) (notFace_of_selects (args := #[]) (mvT hZ (own_wd hw (i := 94) rfl))) (mvT hZ (own_wd hw (i := 94) rfl)) (mvT hZ (own_wd hw (i := 93) rfl)) (by decide) (backOf (W := 0) (rmG_invalidations l Z a0 hw [] r5 ((p2 * (7 : Int64)) + (p4 * (29 : Int64))) T5.heap n0 (own_leN (by omega)) Fp5_invalidations) hZ (own_wd hw (i := 95) rfl) (own_wd hw (i := 12) rfl) (by decide) (by decide)) q25a q25c (g := (mkF m 303 #[.val (.long p0), .second, .val (.long p1), .second, .val (.long p2), .second, .val (.long p3), .second, .val (.long p4), .second, .val (.long p5), .second, .val (.long p0), .second, .val (.long p1), .second, .val (.long p2), .second, .val (.long p3), .second, .val (.long p4), .second, .val (.long p5), .second, .val (.long (p0 * (3 : Int64))), .second, .val (.long (p1 * (5 : Int64))), .second, .val (.long (p2 * (7 : Int64))), .second, .val (.long (p3 * (11 : Int64))), .second, .val (.long p5), .second, .val (.long (p4 * (3 : Int64))), .second, .val (.long (p3 * (5 : Int64))), .second, .val (.long (p2 * (13 : Int64))), .second, .val (.long (p1 * (17 : Int64))), .second, .val (.long (p0 * (19 : Int64))), .second, .val (.long p4), .second, .val (.long (p5 * (23 : Int64))), .second, .val (.long (p4 * (29 : Int64))), .second, .val (.long (p3 * (31 : Int64))), .second, .val (.ref b1), .val (.ref b3), .val (.ref r5)] [(.ref r5)])) rfl (by rw [hml]; rfl) (Steps.refl _) (argsL := []) (rest := []) (lenOf pd__40_41J rfl) rfl (by show 2 * 0 + _ ≤ _; exact Nat.le_of_eq rfl) (hb hby D0_303.1) (fun _ _ => ⟨rfl, e24, (by decide : 3 + 0 ≤ _), (by decide : 30 + 0 ≤ _)⟩)
  dsimp only [Pt.U, Pt.locs, Pt.cells, Pt.slots] at X25 l25 y25 z25 st25 hQ25
  subst l25 y25 z25
  obtain ⟨rfl, N25q, e25⟩ := hQ25
  have N25 := Fr.app N24 N25q
  refine own_pre (A' := T25.setTop (mkF m 306 #[.val (.long p0), .second, .val (.long p1), .second, .val (.long p2), .second, .val (.long p3), .second, .val (.long p4), .second, .val (.long p5), .second, .val (.long p0), .second, .val (.long p1), .second, .val (.long p2), .second, .val (.long p3), .second, .val (.long p4), .second, .val (.long p5), .second, .val (.long (p0 * (3 : Int64))), .second, .val (.long (p1 * (5 : Int64))), .second, .val (.long (p2 * (7 : Int64))), .second, .val (.long (p3 * (11 : Int64))), .second, .val (.long p5), .second, .val (.long (p4 * (3 : Int64))), .second, .val (.long (p3 * (5 : Int64))), .second, .val (.long (p2 * (13 : Int64))), .second, .val (.long (p1 * (17 : Int64))), .second, .val (.long (p0 * (19 : Int64))), .second, .val (.long p4), .second, .val (.long (p5 * (23 : Int64))), .second, .val (.long (p4 * (29 : Int64))), .second, .val (.long (p3 * (31 : Int64))), .second, .val (.ref b1), .val (.ref b3), .val (.ref r5)] [(.long ((p2 * (7 : Int64)) + (p4 * (29 : Int64))))])) (fun t k => st25.trans k) ?_
  refine o_lload X25 hx hby D0_306 rfl ?_
  refine o_lload X25 hx hby D0_308 rfl ?_
  refine o_ladd X25 hx hby D0_310 ?_
  refine o_lcmp X25 hx hby D0_311 ?_
  refine o_ifN X25 hx hby D0_312 ((if0 _ _).trans (teq ((lw_eq ((p2 * (7 : Int64)) + (p4 * (29 : Int64))) ((p2 * (7 : Int64)) + (p4 * (29 : Int64)))).mpr (rfl : ((p2 * (7 : Int64)) + (p4 * (29 : Int64))) = ((p2 * (7 : Int64)) + (p4 * (29 : Int64)))))).2) ?_
  refine o_aload X25 hx hby D0_315 rfl rfl ?_
  obtain ⟨cq26, kq26, q26a, q26b, q26c⟩ := isOf hZ e25 Ep5
  obtain ⟨_, _, ⟨T26, L26, k26, n26⟩, -, X26, ⟨Lc26, hQ26, l26, y26, z26⟩, st26⟩ := X25.virtualBack hx (y := (⟨"dev/twotier/CacheCounters", "redisErrors", "()J"⟩ : MethodName)) (z := (⟨"dev/twotier/CacheCounters", "redisErrors", "()J"⟩ : MethodName)) hown (mvT hZ (own_wd hw (i := 96) rfl)) (mvT hZ (own_wd hw (i := 97) rfl)) (notFace_of_selects (args := #[]) (mvT hZ (own_wd hw (i := 99) rfl))) (mvT hZ (own_wd hw (i := 99) rfl)) (mvT hZ (own_wd hw (i := 98) rfl)) (by decide) (backOf (W := 0) (rmG_redisErrors l Z a0 hw [] r5 ((p3 * (11 : Int64)) + (p3 * (31 : Int64))) T5.heap n0 (own_leN (by omega)) Fp5_redisErrors) hZ (own_wd hw (i := 100) rfl) (own_wd hw (i := 12) rfl) (by decide) (by decide)) q26a q26c (g := (mkF m 317 #[.val (.long p0), .second, .val (.long p1), .second, .val (.long p2), .second, .val (.long p3), .second, .val (.long p4), .second, .val (.long p5), .second, .val (.long p0), .second, .val (.long p1), .second, .val (.long p2), .second, .val (.long p3), .second, .val (.long p4), .second, .val (.long p5), .second, .val (.long (p0 * (3 : Int64))), .second, .val (.long (p1 * (5 : Int64))), .second, .val (.long (p2 * (7 : Int64))), .second, .val (.long (p3 * (11 : Int64))), .second, .val (.long p5), .second, .val (.long (p4 * (3 : Int64))), .second, .val (.long (p3 * (5 : Int64))), .second, .val (.long (p2 * (13 : Int64))), .second, .val (.long (p1 * (17 : Int64))), .second, .val (.long (p0 * (19 : Int64))), .second, .val (.long p4), .second, .val (.long (p5 * (23 : Int64))), .second, .val (.long (p4 * (29 : Int64))), .second, .val (.long (p3 * (31 : Int64))), .second, .val (.ref b1), .val (.ref b3), .val (.ref r5)] [(.ref r5)])) rfl (by rw [hml]; rfl) (Steps.refl _) (argsL := []) (rest := []) (lenOf pd__40_41J rfl) rfl (by show 2 * 0 + _ ≤ _; exact Nat.le_of_eq rfl) (hb hby D0_317.1) (fun _ _ => ⟨rfl, e25, (by decide : 3 + 0 ≤ _), (by decide : 30 + 0 ≤ _)⟩)
  dsimp only [Pt.U, Pt.locs, Pt.cells, Pt.slots] at X26 l26 y26 z26 st26 hQ26
  subst l26 y26 z26
  obtain ⟨rfl, N26q, e26⟩ := hQ26
  have N26 := Fr.app N25 N26q
  refine own_pre (A' := T26.setTop (mkF m 320 #[.val (.long p0), .second, .val (.long p1), .second, .val (.long p2), .second, .val (.long p3), .second, .val (.long p4), .second, .val (.long p5), .second, .val (.long p0), .second, .val (.long p1), .second, .val (.long p2), .second, .val (.long p3), .second, .val (.long p4), .second, .val (.long p5), .second, .val (.long (p0 * (3 : Int64))), .second, .val (.long (p1 * (5 : Int64))), .second, .val (.long (p2 * (7 : Int64))), .second, .val (.long (p3 * (11 : Int64))), .second, .val (.long p5), .second, .val (.long (p4 * (3 : Int64))), .second, .val (.long (p3 * (5 : Int64))), .second, .val (.long (p2 * (13 : Int64))), .second, .val (.long (p1 * (17 : Int64))), .second, .val (.long (p0 * (19 : Int64))), .second, .val (.long p4), .second, .val (.long (p5 * (23 : Int64))), .second, .val (.long (p4 * (29 : Int64))), .second, .val (.long (p3 * (31 : Int64))), .second, .val (.ref b1), .val (.ref b3), .val (.ref r5)] [(.long ((p3 * (11 : Int64)) + (p3 * (31 : Int64))))])) (fun t k => st26.trans k) ?_
  refine o_lload X26 hx hby D0_320 rfl ?_
  refine o_lload X26 hx hby D0_322 rfl ?_
  refine o_ladd X26 hx hby D0_324 ?_
  refine o_lcmp X26 hx hby D0_325 ?_
  refine o_ifN X26 hx hby D0_326 ((if0 _ _).trans (teq ((lw_eq ((p3 * (11 : Int64)) + (p3 * (31 : Int64))) ((p3 * (11 : Int64)) + (p3 * (31 : Int64)))).mpr (rfl : ((p3 * (11 : Int64)) + (p3 * (31 : Int64))) = ((p3 * (11 : Int64)) + (p3 * (31 : Int64)))))).2) ?_
  refine o_iconst X26 hx hby D0_329 (v := 1) rfl ?_
  refine o_goto X26 hx hby D0_330 (q := 334) (by decide) (by decide) ?_
  exact own_ret (v := some (.int (1 : Int32))) X26 (fun h => by first | rfl | (rw [Bd.returns] at h; cases h)) (BodyLoose.notSynchronized Bd) (by decide) (by decide) (⟨rfl, N26⟩) (fun fs hr => retN X26 hx (t := .boolean) Bd.returns (by simp) (hb hby D0_334.1) hr)
set_option maxRecDepth 65536 in
set_option maxHeartbeats 40000000 in
theorem comes_1 {Post : Tables → Env → Array Value → State → Outcome → State → Prop} (hpost : ∀ tb e args s v u, (limb_1_1.after args s (.returned v) u = true ∧ limb_1_2.after args s (.returned v) u = true ∧ True) → FrameEnd s (.returned v) u (Jvm.fieldLocs frame_1_writes args s ++ Jvm.arrayLocs frame_1_arrays args s ++ Jvm.staticLocs frame_1_statics s) 16 128 → Post tb e args s (.returned v) u) :
    ArmFor flags0 classFile x code maxLocals ret World_1 tables_1 room_1 Calls_1 rest_1 Pre_1 Post := by
  intro l hfl _ _ p e ha hc hk s m args below hf hA hF happ hP
  obtain ⟨hcalls, hrest, hpre⟩ := hP
  obtain ⟨-, -, -, hnamed, -, -, -, hat⟩ := (Spec.applies_iff hf).mp happ
  obtain ⟨hg, hn⟩ := and_e (Cond.before_iff.mp (show (Jvm.Cond.and given_1 narrow_1).before args s = true from hpre))
  obtain ⟨gc, gr0⟩ := and_e hg
  obtain ⟨ga0, gr1⟩ := and_e gr0
  obtain ⟨ga1, gr2⟩ := and_e gr1
  obtain ⟨ga2, gr3⟩ := and_e gr2
  obtain ⟨ga3, gr4⟩ := and_e gr3
  obtain ⟨ga4, gr5⟩ := and_e gr4
  obtain ⟨w0, w1, w2, w3, w4, w5, rfl⟩ : ∃ w0 w1 w2 w3 w4 w5 : Value, args = #[w0, w1, w2, w3, w4, w5] := by
    have hs : args.size = 6 := by simpa [Cond.value, given_1] using gc
    obtain ⟨L⟩ := args
    match L, hs with
    | [w0, w1, w2, w3, w4, w5], _ => exact ⟨w0, w1, w2, w3, w4, w5, rfl⟩
  have hw := fun d (hd : d ∈ tables_1) => atoms_spec (ws := Jvm.Cond.code x code maxLocals ret :: tables_1) hat d (List.mem_cons_of_mem _ hd)
  obtain ⟨i0, ei0⟩ := isL_v ga0
  obtain rfl : w0 = (.long i0) := Option.some.inj ei0
  obtain ⟨i1, ei1⟩ := isL_v ga1
  obtain rfl : w1 = (.long i1) := Option.some.inj ei1
  obtain ⟨i2, ei2⟩ := isL_v ga2
  obtain rfl : w2 = (.long i2) := Option.some.inj ei2
  obtain ⟨i3, ei3⟩ := isL_v ga3
  obtain rfl : w3 = (.long i3) := Option.some.inj ei3
  obtain ⟨i4, ei4⟩ := isL_v ga4
  obtain rfl : w4 = (.long i4) := Option.some.inj ei4
  obtain ⟨i5, ei5⟩ := isL_v gr5
  obtain rfl : w5 = (.long i5) := Option.some.inj ei5
  obtain ⟨n, o, h1, h2, h3, _, L, rfl, ⟨rfl, N⟩, hq⟩ := rm0 l s _ hw tables_1 i0 i1 i2 i3 i4 i5 s.heap s.heap.size (Nat.le_refl _)  p e ha hc hk s m _ below hf ((Spec.applies_iff_loose hf).mp happ).1 ⟨rfl, State.Warmed39.refl s, rfl⟩ trivial
  refine ⟨n, _, h1, h2, h3, hpost _ _ _ _ _ _ ⟨Cond.after_iff.mpr rfl, Cond.after_iff.mpr (eq_i res_at (Term.int_eval (1)) rfl), trivial⟩ ⟨hq.1, hq.2.1, (hq.2.2.sift fun y hy => Or.inr (N y hy)).mono (by decide) (by decide)⟩⟩
theorem main_1_1 : Claimed_1_1 := comes_1 fun _ _ _ _ _ _ h hF => ⟨h.1, hF⟩
theorem main_1_2 : Claimed_1_2 := comes_1 fun _ _ _ _ _ _ h hF => ⟨h.2.1, hF⟩
end Jvm.Pilot.@@N@@
namespace Jvm.Pilot.@@N@@
open Jvm Jvm.ClassFile Sem Op Lib Jvm.Free Jvm.Stand Jvm.Pilot.@@N@@.Jvm.D
/-! MADE BY PROGRAM (witnessworld.py) out of the Statement's table words and the real class files: 10 classes; the members and pool entries that the words name. The judged class is class 1, her method 1. -/
namespace start1
open Jvm.ClassFile
def u (s : String) : CpInfo := .utf8 (stringToUtf16 s)
/-- a pool by its gaps: so many unusable entries, then the entry; so many at the end -/
def gap : Nat → List CpInfo → List CpInfo
  | 0, r => r
  | n + 1, r => .unusable :: gap n r
def poolList (es : List (Nat × CpInfo)) (last : Nat) : List CpInfo := es.foldr (fun e r => gap e.1 (e.2 :: r)) (gap last [])
def pool (es : List (Nat × CpInfo)) (last : Nat) : Array CpInfo := ⟨poolList es last⟩
def fileOf (pool : Array CpInfo) (this : Nat) (attrs : Array Attribute := #[]) (ms : Array MethodInfo := #[]) (fl : Nat := 33) (sup : Nat := 0) (ifs : Array Nat := #[]) (fds : Array FieldInfo := #[]) : ClassFile where
  minorVersion := 0
  majorVersion := 65
  constantPool := pool
  accessFlags := fl
  thisClass := this
  superClass := sup
  interfaces := ifs
  fields := fds
  methods := ms
  attributes := attrs
def plain (name : String) (sup : Option ClassId) : Class where
  name := name
  kind := .ordinary
  loader := none
  accessFlags := 33
  super := sup
  interfaces := #[]
  cf := none
  fields := #[]
  methods := #[]
  instanceTypes := #[]
  staticTypes := #[]
  resolved := #[]
  callSites := []
  init := .initialized
  statics := none
  mirror := none

def pool0 : Array CpInfo := pool [(5, u "<init>"), (0, u "()V"), (1, .class_ 10), (1, u "java/lang/Object")] 113

def k0c0 : Code := { maxStack := 0, maxLocals := 1, code := object_method_1_code, exceptionTable := #[], attributes := #[] }
def k0m0 : Method := { name := "<init>", desc := "()V", sig := { parameters := [], returnType := none }, accessFlags := 1, code := some k0c0 }
/-- java/lang/Object -/
def k0 : Class := { plain "java/lang/Object" none with
  accessFlags := 33
  interfaces := #[]
  cf := some (fileOf pool0 8 #[] #[{ accessFlags := 1, nameIndex := 5, descriptorIndex := 6, attributes := #[] }] 33 0 #[] #[])
  fields := #[]
  methods := #[k0m0]
  instanceTypes := #[]
  staticTypes := #[]
  resolved := Array.replicate 124 none
  statics := none }

def pool1 : Array CpInfo := pool [(2, .class_ 4), (1, u "java/lang/Object"), (0, u "<init>"), (0, u "()V"), (0, .long 3), (1, .long 5), (1, .long 7), (1, .long 11), (1, .long 13), (1, .long 17), (1, .long 19), (1, .long 23), (1, .long 29), (1, .long 31), (1, .class_ 28), (0, u "dev/twotier/CacheCounters"), (0, .methodref 27 30), (0, .nameAndType 5 31), (0, u "(JJJJJJJJJJ)V"), (0, .methodref 27 33), (0, .nameAndType 34 35), (0, u "plus"), (0, u "(Ldev/twotier/CacheCounters;)Ldev/twotier/CacheCounters;"), (0, .methodref 27 37), (0, .nameAndType 38 39), (0, u "localHits"), (0, u "()J"), (0, .methodref 27 41), (0, .nameAndType 42 39), (0, u "localMisses"), (0, .methodref 27 44), (0, .nameAndType 45 39), (0, u "redisHits"), (0, .methodref 27 47), (0, .nameAndType 48 39), (0, u "redisMisses"), (0, .methodref 27 50), (0, .nameAndType 51 39), (0, u "puts"), (0, .methodref 27 53), (0, .nameAndType 54 39), (0, u "loadSuccesses"), (0, .methodref 27 56), (0, .nameAndType 57 39), (0, u "loadFailures"), (0, .methodref 27 59), (0, .nameAndType 60 39), (0, u "localEvictions"), (0, .methodref 27 62), (0, .nameAndType 63 39), (0, u "invalidations"), (0, .methodref 27 65), (0, .nameAndType 66 39), (0, u "redisErrors"), (0, .class_ 68), (0, u "dev/twotier/CacheCountersPlusPinLaw"), (2, u "law"), (0, u "(JJJJJJ)Z")] 3

def k1m0 : Method := { name := "<init>", desc := "()V", sig := { parameters := [], returnType := none }, accessFlags := 1, code := none }
def k1c1 : Code := { maxStack := 22, maxLocals := 55, code := code, exceptionTable := #[], attributes := #[] }
def k1m1 : Method := { name := "law", desc := "(JJJJJJ)Z", sig := { parameters := [.long, .long, .long, .long, .long, .long], returnType := some .boolean }, accessFlags := 9, code := some k1c1 }
/-- dev/twotier/CacheCountersPlusPinLaw -/
def k1 : Class := { plain "dev/twotier/CacheCountersPlusPinLaw" (some 0) with
  accessFlags := 49
  interfaces := #[]
  cf := some (fileOf pool1 67 #[] #[{ accessFlags := 1, nameIndex := 5, descriptorIndex := 6, attributes := #[] }, { accessFlags := 9, nameIndex := 71, descriptorIndex := 72, attributes := #[] }] 49 2 #[] #[])
  fields := #[]
  methods := #[k1m0, k1m1]
  instanceTypes := #[]
  staticTypes := #[]
  resolved := Array.replicate 76 none
  statics := none }

def pool2 : Array CpInfo := pool [(1, .methodref 2 3), (0, .class_ 4), (0, .nameAndType 5 6), (0, u "java/lang/Object"), (0, u "<init>"), (0, u "()V"), (0, .class_ 8), (0, u "java/lang/Record")] 13

def k2c0 : Code := { maxStack := 1, maxLocals := 1, code := jdk_30_method_1_code, exceptionTable := #[], attributes := #[] }
def k2m0 : Method := { name := "<init>", desc := "()V", sig := { parameters := [], returnType := none }, accessFlags := 4, code := some k2c0 }
/-- java/lang/Record -/
def k2 : Class := { plain "java/lang/Record" (some 0) with
  accessFlags := 1057
  interfaces := #[]
  cf := some (fileOf pool2 7 #[] #[{ accessFlags := 4, nameIndex := 5, descriptorIndex := 6, attributes := #[] }] 1057 2 #[] #[])
  fields := #[]
  methods := #[k2m0]
  instanceTypes := #[]
  staticTypes := #[]
  resolved := Array.replicate 22 none
  statics := none }

def pool3 : Array CpInfo := pool [(1, .methodref 2 3), (0, .class_ 4), (0, .nameAndType 5 6), (0, u "java/lang/Record"), (0, u "<init>"), (0, u "()V"), (0, .fieldref 8 9), (0, .class_ 10), (0, .nameAndType 11 12), (0, u "dev/twotier/CacheCounters"), (0, u "localHits"), (0, u "J"), (0, .fieldref 8 14), (0, .nameAndType 15 12), (0, u "localMisses"), (0, .fieldref 8 17), (0, .nameAndType 18 12), (0, u "redisHits"), (0, .fieldref 8 20), (0, .nameAndType 21 12), (0, u "redisMisses"), (0, .fieldref 8 23), (0, .nameAndType 24 12), (0, u "puts"), (0, .fieldref 8 26), (0, .nameAndType 27 12), (0, u "loadSuccesses"), (0, .fieldref 8 29), (0, .nameAndType 30 12), (0, u "loadFailures"), (0, .fieldref 8 32), (0, .nameAndType 33 12), (0, u "localEvictions"), (0, .fieldref 8 35), (0, .nameAndType 36 12), (0, u "invalidations"), (0, .fieldref 8 38), (0, .nameAndType 39 12), (0, u "redisErrors"), (0, .methodref 8 41), (0, .nameAndType 5 42), (0, u "(JJJJJJJJJJ)V"), (14, u "NONE"), (0, u "Ldev/twotier/CacheCounters;"), (3, u "plus"), (0, u "(Ldev/twotier/CacheCounters;)Ldev/twotier/CacheCounters;"), (3, u "()J")] 30

def k3c0 : Code := { maxStack := 3, maxLocals := 21, code := prog_3_method_1_code, exceptionTable := #[], attributes := #[] }
def k3m0 : Method := { name := "<init>", desc := "(JJJJJJJJJJ)V", sig := { parameters := [.long, .long, .long, .long, .long, .long, .long, .long, .long, .long], returnType := none }, accessFlags := 1, code := some k3c0 }
def k3c1 : Code := { maxStack := 24, maxLocals := 2, code := prog_3_method_2_code, exceptionTable := #[], attributes := #[] }
def k3m1 : Method := { name := "plus", desc := "(Ldev/twotier/CacheCounters;)Ldev/twotier/CacheCounters;", sig := { parameters := [(.object "dev/twotier/CacheCounters")], returnType := some (.object "dev/twotier/CacheCounters") }, accessFlags := 1, code := some k3c1 }
def k3c2 : Code := { maxStack := 2, maxLocals := 1, code := prog_3_method_6_code, exceptionTable := #[], attributes := #[] }
def k3m2 : Method := { name := "localHits", desc := "()J", sig := { parameters := [], returnType := some .long }, accessFlags := 1, code := some k3c2 }
def k3c3 : Code := { maxStack := 2, maxLocals := 1, code := prog_3_method_7_code, exceptionTable := #[], attributes := #[] }
def k3m3 : Method := { name := "localMisses", desc := "()J", sig := { parameters := [], returnType := some .long }, accessFlags := 1, code := some k3c3 }
def k3c4 : Code := { maxStack := 2, maxLocals := 1, code := prog_3_method_8_code, exceptionTable := #[], attributes := #[] }
def k3m4 : Method := { name := "redisHits", desc := "()J", sig := { parameters := [], returnType := some .long }, accessFlags := 1, code := some k3c4 }
def k3c5 : Code := { maxStack := 2, maxLocals := 1, code := prog_3_method_9_code, exceptionTable := #[], attributes := #[] }
def k3m5 : Method := { name := "redisMisses", desc := "()J", sig := { parameters := [], returnType := some .long }, accessFlags := 1, code := some k3c5 }
def k3c6 : Code := { maxStack := 2, maxLocals := 1, code := prog_3_method_10_code, exceptionTable := #[], attributes := #[] }
def k3m6 : Method := { name := "puts", desc := "()J", sig := { parameters := [], returnType := some .long }, accessFlags := 1, code := some k3c6 }
def k3c7 : Code := { maxStack := 2, maxLocals := 1, code := prog_3_method_11_code, exceptionTable := #[], attributes := #[] }
def k3m7 : Method := { name := "loadSuccesses", desc := "()J", sig := { parameters := [], returnType := some .long }, accessFlags := 1, code := some k3c7 }
def k3c8 : Code := { maxStack := 2, maxLocals := 1, code := prog_3_method_12_code, exceptionTable := #[], attributes := #[] }
def k3m8 : Method := { name := "loadFailures", desc := "()J", sig := { parameters := [], returnType := some .long }, accessFlags := 1, code := some k3c8 }
def k3c9 : Code := { maxStack := 2, maxLocals := 1, code := prog_3_method_13_code, exceptionTable := #[], attributes := #[] }
def k3m9 : Method := { name := "localEvictions", desc := "()J", sig := { parameters := [], returnType := some .long }, accessFlags := 1, code := some k3c9 }
def k3c10 : Code := { maxStack := 2, maxLocals := 1, code := prog_3_method_14_code, exceptionTable := #[], attributes := #[] }
def k3m10 : Method := { name := "invalidations", desc := "()J", sig := { parameters := [], returnType := some .long }, accessFlags := 1, code := some k3c10 }
def k3c11 : Code := { maxStack := 2, maxLocals := 1, code := prog_3_method_15_code, exceptionTable := #[], attributes := #[] }
def k3m11 : Method := { name := "redisErrors", desc := "()J", sig := { parameters := [], returnType := some .long }, accessFlags := 1, code := some k3c11 }
/-- dev/twotier/CacheCounters -/
def k3 : Class := { plain "dev/twotier/CacheCounters" (some 2) with
  accessFlags := 49
  interfaces := #[]
  cf := some (fileOf pool3 8 #[] #[{ accessFlags := 1, nameIndex := 5, descriptorIndex := 42, attributes := #[] }, { accessFlags := 1, nameIndex := 62, descriptorIndex := 63, attributes := #[] }, { accessFlags := 1, nameIndex := 11, descriptorIndex := 67, attributes := #[] }, { accessFlags := 1, nameIndex := 15, descriptorIndex := 67, attributes := #[] }, { accessFlags := 1, nameIndex := 18, descriptorIndex := 67, attributes := #[] }, { accessFlags := 1, nameIndex := 21, descriptorIndex := 67, attributes := #[] }, { accessFlags := 1, nameIndex := 24, descriptorIndex := 67, attributes := #[] }, { accessFlags := 1, nameIndex := 27, descriptorIndex := 67, attributes := #[] }, { accessFlags := 1, nameIndex := 30, descriptorIndex := 67, attributes := #[] }, { accessFlags := 1, nameIndex := 33, descriptorIndex := 67, attributes := #[] }, { accessFlags := 1, nameIndex := 36, descriptorIndex := 67, attributes := #[] }, { accessFlags := 1, nameIndex := 39, descriptorIndex := 67, attributes := #[] }] 49 2 #[] #[{ accessFlags := 18, nameIndex := 11, descriptorIndex := 12, attributes := #[] }, { accessFlags := 18, nameIndex := 15, descriptorIndex := 12, attributes := #[] }, { accessFlags := 18, nameIndex := 18, descriptorIndex := 12, attributes := #[] }, { accessFlags := 18, nameIndex := 21, descriptorIndex := 12, attributes := #[] }, { accessFlags := 18, nameIndex := 24, descriptorIndex := 12, attributes := #[] }, { accessFlags := 18, nameIndex := 27, descriptorIndex := 12, attributes := #[] }, { accessFlags := 18, nameIndex := 30, descriptorIndex := 12, attributes := #[] }, { accessFlags := 18, nameIndex := 33, descriptorIndex := 12, attributes := #[] }, { accessFlags := 18, nameIndex := 36, descriptorIndex := 12, attributes := #[] }, { accessFlags := 18, nameIndex := 39, descriptorIndex := 12, attributes := #[] }, { accessFlags := 25, nameIndex := 57, descriptorIndex := 58, attributes := #[] }])
  fields := #[{ name := "localHits", type := .long, accessFlags := 18, slot := 0, constantValue := 0 }, { name := "localMisses", type := .long, accessFlags := 18, slot := 1, constantValue := 0 }, { name := "redisHits", type := .long, accessFlags := 18, slot := 2, constantValue := 0 }, { name := "redisMisses", type := .long, accessFlags := 18, slot := 3, constantValue := 0 }, { name := "puts", type := .long, accessFlags := 18, slot := 4, constantValue := 0 }, { name := "loadSuccesses", type := .long, accessFlags := 18, slot := 5, constantValue := 0 }, { name := "loadFailures", type := .long, accessFlags := 18, slot := 6, constantValue := 0 }, { name := "localEvictions", type := .long, accessFlags := 18, slot := 7, constantValue := 0 }, { name := "invalidations", type := .long, accessFlags := 18, slot := 8, constantValue := 0 }, { name := "redisErrors", type := .long, accessFlags := 18, slot := 9, constantValue := 0 }, { name := "NONE", type := (.object "dev/twotier/CacheCounters"), accessFlags := 25, slot := 0, constantValue := 0 }]
  methods := #[k3m0, k3m1, k3m2, k3m3, k3m4, k3m5, k3m6, k3m7, k3m8, k3m9, k3m10, k3m11]
  instanceTypes := #[.long, .long, .long, .long, .long, .long, .long, .long, .long, .long]
  staticTypes := #[(.object "dev/twotier/CacheCounters")]
  resolved := Array.replicate 98 none
  statics := none }

def pool4 : Array CpInfo := pool [(1, u "java/lang/Cloneable"), (0, .class_ 1), (0, u "java/lang/Object"), (0, .class_ 3)] 3

/-- java/lang/Cloneable -/
def k4 : Class := { plain "java/lang/Cloneable" (some 0) with
  accessFlags := 1537
  interfaces := #[]
  cf := some (fileOf pool4 2 #[] #[] 1537 4 #[] #[])
  fields := #[]
  methods := #[]
  instanceTypes := #[]
  staticTypes := #[]
  resolved := Array.replicate 8 none
  statics := none }

def pool5 : Array CpInfo := pool [(1, u "java/io/Serializable"), (0, .class_ 1), (0, u "java/lang/Object"), (0, .class_ 3)] 3

/-- java/io/Serializable -/
def k5 : Class := { plain "java/io/Serializable" (some 0) with
  accessFlags := 1537
  interfaces := #[]
  cf := some (fileOf pool5 2 #[] #[] 1537 4 #[] #[])
  fields := #[]
  methods := #[]
  instanceTypes := #[]
  staticTypes := #[]
  resolved := Array.replicate 8 none
  statics := none }

/-- the primitive byte -/
def k6 : Class := { plain "byte" none with kind := .primitive 'B', accessFlags := 0x411 }
/-- [B -/
def k7 : Class := { plain "[B" (some 0) with kind := .array 6 .byte, interfaces := #[4, 5], accessFlags := 1041 }

/-- the primitive int -/
def k8 : Class := { plain "int" none with kind := .primitive 'I', accessFlags := 0x411 }
/-- [I -/
def k9 : Class := { plain "[I" (some 0) with kind := .array 8 .int, interfaces := #[4, 5], accessFlags := 1041 }

def heap : Heap := #[]
def classes : Array Class := #[k0, k1, k2, k3, k4, k5, k6, k7, k8, k9]
def interned : List (Array UInt16 × Addr) := []
def slotsUsed : Nat := 0
def theMethod : MethodId := ⟨1, 1⟩
def args0 : Array Value := #[.long 5, .long 6, .long 7, .long 8, .long 9, .long 10]
def aboutOver (below : List Frame) : State where
  vm := { classes := classes, interned := interned.toArray }
  heap := heap
  slotsUsed := slotsUsed
  threads := #[{ frames := .invoking theMethod args0 :: below }]
def below0 : List Frame := [.native { method := ⟨0, 0⟩, args := #[] }]
def about1 : State := aboutOver below0
def p0 : Program := .bare "" "" ""
def e0 : Env := launch0.env 0 0 0
theorem w_frames : about1.frames = Frame.invoking theMethod args0 :: below0 := rfl
set_option maxRecDepth 65536 in
theorem w_args : argsFit about1.vm theMethod args0 = true := by decide +kernel
set_option maxRecDepth 65536 in
theorem w_heap : heapFits about1 = true := by decide +kernel
set_option maxRecDepth 65536 in
theorem w_runnable : about1.curStatus? = some .runnable := by decide +kernel
set_option maxRecDepth 65536 in
theorem w_alone : about1.alone = true := by decide +kernel
set_option maxRecDepth 65536 in
theorem w_named : about1.methodNamed? x = some theMethod := by decide +kernel
set_option maxRecDepth 65536 in
theorem w_hears : about1.hears theMethod below0 = true := by decide +kernel
set_option maxRecDepth 65536 in
theorem w_ripe : about1.ripe theMethod args0 below0 = true := by decide +kernel
theorem w_running : about1.status = .running := rfl
set_option maxRecDepth 65536 in
theorem w_room : about1.hasRoom e0.platform room_1 = true :=
  launch0.hasRoom_least _ room_1 (by decide +kernel) (by decide +kernel) (by decide +kernel) (by decide +kernel) (by decide +kernel) (by decide +kernel)
theorem allAtoms_all (ts : List Jvm.Cond) (a : Array Jvm.Value) (st : Jvm.State) : (allAtoms ts).before a st = ts.all (fun c => c.before a st) := by
  induction ts with
  | nil => rfl
  | cons c t ih =>
    show (Jvm.Cond.and c (allAtoms t)).before a st = _
    rw [Jvm.Cond.before_and, ih, List.all_cons]
def words1 : List Jvm.Cond := Jvm.Cond.code x code maxLocals ret :: tables_1
/-- a 'code' word, met by the world's own term for the bytes: nothing is compared byte by byte -/
theorem code_word {y : MethodName} {bytes : ByteArray} {mx : Nat} {rt : Option FieldType} {a : Array Value} {s : State} {m : MethodId} {meth : Method} {c : Code} (h1 : s.methodNamed? y = some m) (h2 : s.vm.method? m = some meth) (h3 : meth.code = some c) (h4 : c.code = bytes)
    (h5 : (c.maxLocals == mx && c.exceptionTable.isEmpty && decide (c.maxStack ≤ mostOperands) && decide (meth.sig.returnType = rt) && !meth.locks && decide (parseMethodDescriptor y.desc = some meth.sig)) = true) : (Jvm.Cond.code y bytes mx rt).before a s = true := by
  simp only [Bool.and_eq_true, beq_iff_eq, Bool.not_eq_true', decide_eq_true_eq] at h5
  obtain ⟨⟨⟨⟨⟨g1, g2⟩, g3⟩, g4⟩, g5⟩, g6⟩ := h5
  simp [Cond.before, Cond.holds, Cond.value, h1, h2, h3, h4, g1, g2, g3, g4, g5, g6]
def isCode : Jvm.Cond → Bool
  | .code _ _ _ _ => true
  | _ => false
theorem all_split {L : List Jvm.Cond} {P : Jvm.Cond → Bool} (h1 : L.all (fun c => isCode c || P c) = true) (h2 : ∀ c ∈ L.filter isCode, P c = true) : L.all P = true := by
  refine List.all_eq_true.mpr fun c hc => ?_
  have h := List.all_eq_true.mp h1 c hc
  rcases Bool.eq_false_or_eq_true (isCode c) with hi | hi
  · exact h2 c (List.mem_filter.mpr ⟨hc, hi⟩)
  · simpa [hi] using h
set_option maxRecDepth 65536 in
theorem w_c0 : (Jvm.Cond.code x code maxLocals ret).before args0 about1 = true := code_word (m := ⟨1, 1⟩) (meth := k1m1) (c := k1c1) (by decide +kernel) rfl rfl rfl (by decide +kernel)
set_option maxRecDepth 65536 in
theorem w_c1 : (Jvm.Cond.code ({ cls := "dev/twotier/CacheCounters", name := "<init>", desc := "(JJJJJJJJJJ)V" } : Jvm.MethodName) prog_3_method_1_code (21 : Nat) (Option.none : Option Jvm.ClassFile.FieldType)).before args0 about1 = true := code_word (m := ⟨3, 0⟩) (meth := k3m0) (c := k3c0) (by decide +kernel) rfl rfl rfl (by decide +kernel)
set_option maxRecDepth 65536 in
theorem w_c2 : (Jvm.Cond.code ({ cls := "java/lang/Record", name := "<init>", desc := "()V" } : Jvm.MethodName) jdk_30_method_1_code (1 : Nat) (Option.none : Option Jvm.ClassFile.FieldType)).before args0 about1 = true := code_word (m := ⟨2, 0⟩) (meth := k2m0) (c := k2c0) (by decide +kernel) rfl rfl rfl (by decide +kernel)
set_option maxRecDepth 65536 in
theorem w_c3 : (Jvm.Cond.code ({ cls := "java/lang/Object", name := "<init>", desc := "()V" } : Jvm.MethodName) object_method_1_code (1 : Nat) (Option.none : Option Jvm.ClassFile.FieldType)).before args0 about1 = true := code_word (m := ⟨0, 0⟩) (meth := k0m0) (c := k0c0) (by decide +kernel) rfl rfl rfl (by decide +kernel)
set_option maxRecDepth 65536 in
theorem w_c4 : (Jvm.Cond.code ({ cls := "dev/twotier/CacheCounters", name := "plus", desc := "(Ldev/twotier/CacheCounters;)Ldev/twotier/CacheCounters;" } : Jvm.MethodName) prog_3_method_2_code (2 : Nat) (Option.some (Jvm.ClassFile.FieldType.object "dev/twotier/CacheCounters"))).before args0 about1 = true := code_word (m := ⟨3, 1⟩) (meth := k3m1) (c := k3c1) (by decide +kernel) rfl rfl rfl (by decide +kernel)
set_option maxRecDepth 65536 in
theorem w_c5 : (Jvm.Cond.code ({ cls := "dev/twotier/CacheCounters", name := "localHits", desc := "()J" } : Jvm.MethodName) prog_3_method_6_code (1 : Nat) (Option.some Jvm.ClassFile.FieldType.long)).before args0 about1 = true := code_word (m := ⟨3, 2⟩) (meth := k3m2) (c := k3c2) (by decide +kernel) rfl rfl rfl (by decide +kernel)
set_option maxRecDepth 65536 in
theorem w_c6 : (Jvm.Cond.code ({ cls := "dev/twotier/CacheCounters", name := "localMisses", desc := "()J" } : Jvm.MethodName) prog_3_method_7_code (1 : Nat) (Option.some Jvm.ClassFile.FieldType.long)).before args0 about1 = true := code_word (m := ⟨3, 3⟩) (meth := k3m3) (c := k3c3) (by decide +kernel) rfl rfl rfl (by decide +kernel)
set_option maxRecDepth 65536 in
theorem w_c7 : (Jvm.Cond.code ({ cls := "dev/twotier/CacheCounters", name := "redisHits", desc := "()J" } : Jvm.MethodName) prog_3_method_8_code (1 : Nat) (Option.some Jvm.ClassFile.FieldType.long)).before args0 about1 = true := code_word (m := ⟨3, 4⟩) (meth := k3m4) (c := k3c4) (by decide +kernel) rfl rfl rfl (by decide +kernel)
set_option maxRecDepth 65536 in
theorem w_c8 : (Jvm.Cond.code ({ cls := "dev/twotier/CacheCounters", name := "redisMisses", desc := "()J" } : Jvm.MethodName) prog_3_method_9_code (1 : Nat) (Option.some Jvm.ClassFile.FieldType.long)).before args0 about1 = true := code_word (m := ⟨3, 5⟩) (meth := k3m5) (c := k3c5) (by decide +kernel) rfl rfl rfl (by decide +kernel)
set_option maxRecDepth 65536 in
theorem w_c9 : (Jvm.Cond.code ({ cls := "dev/twotier/CacheCounters", name := "puts", desc := "()J" } : Jvm.MethodName) prog_3_method_10_code (1 : Nat) (Option.some Jvm.ClassFile.FieldType.long)).before args0 about1 = true := code_word (m := ⟨3, 6⟩) (meth := k3m6) (c := k3c6) (by decide +kernel) rfl rfl rfl (by decide +kernel)
set_option maxRecDepth 65536 in
theorem w_c10 : (Jvm.Cond.code ({ cls := "dev/twotier/CacheCounters", name := "loadSuccesses", desc := "()J" } : Jvm.MethodName) prog_3_method_11_code (1 : Nat) (Option.some Jvm.ClassFile.FieldType.long)).before args0 about1 = true := code_word (m := ⟨3, 7⟩) (meth := k3m7) (c := k3c7) (by decide +kernel) rfl rfl rfl (by decide +kernel)
set_option maxRecDepth 65536 in
theorem w_c11 : (Jvm.Cond.code ({ cls := "dev/twotier/CacheCounters", name := "loadFailures", desc := "()J" } : Jvm.MethodName) prog_3_method_12_code (1 : Nat) (Option.some Jvm.ClassFile.FieldType.long)).before args0 about1 = true := code_word (m := ⟨3, 8⟩) (meth := k3m8) (c := k3c8) (by decide +kernel) rfl rfl rfl (by decide +kernel)
set_option maxRecDepth 65536 in
theorem w_c12 : (Jvm.Cond.code ({ cls := "dev/twotier/CacheCounters", name := "localEvictions", desc := "()J" } : Jvm.MethodName) prog_3_method_13_code (1 : Nat) (Option.some Jvm.ClassFile.FieldType.long)).before args0 about1 = true := code_word (m := ⟨3, 9⟩) (meth := k3m9) (c := k3c9) (by decide +kernel) rfl rfl rfl (by decide +kernel)
set_option maxRecDepth 65536 in
theorem w_c13 : (Jvm.Cond.code ({ cls := "dev/twotier/CacheCounters", name := "invalidations", desc := "()J" } : Jvm.MethodName) prog_3_method_14_code (1 : Nat) (Option.some Jvm.ClassFile.FieldType.long)).before args0 about1 = true := code_word (m := ⟨3, 10⟩) (meth := k3m10) (c := k3c10) (by decide +kernel) rfl rfl rfl (by decide +kernel)
set_option maxRecDepth 65536 in
theorem w_c14 : (Jvm.Cond.code ({ cls := "dev/twotier/CacheCounters", name := "redisErrors", desc := "()J" } : Jvm.MethodName) prog_3_method_15_code (1 : Nat) (Option.some Jvm.ClassFile.FieldType.long)).before args0 about1 = true := code_word (m := ⟨3, 11⟩) (meth := k3m11) (c := k3c11) (by decide +kernel) rfl rfl rfl (by decide +kernel)
def codes1 : List Jvm.Cond := [Jvm.Cond.code x code maxLocals ret, Jvm.Cond.code ({ cls := "dev/twotier/CacheCounters", name := "<init>", desc := "(JJJJJJJJJJ)V" } : Jvm.MethodName) prog_3_method_1_code (21 : Nat) (Option.none : Option Jvm.ClassFile.FieldType), Jvm.Cond.code ({ cls := "java/lang/Record", name := "<init>", desc := "()V" } : Jvm.MethodName) jdk_30_method_1_code (1 : Nat) (Option.none : Option Jvm.ClassFile.FieldType), Jvm.Cond.code ({ cls := "java/lang/Object", name := "<init>", desc := "()V" } : Jvm.MethodName) object_method_1_code (1 : Nat) (Option.none : Option Jvm.ClassFile.FieldType), Jvm.Cond.code ({ cls := "dev/twotier/CacheCounters", name := "plus", desc := "(Ldev/twotier/CacheCounters;)Ldev/twotier/CacheCounters;" } : Jvm.MethodName) prog_3_method_2_code (2 : Nat) (Option.some (Jvm.ClassFile.FieldType.object "dev/twotier/CacheCounters")), Jvm.Cond.code ({ cls := "dev/twotier/CacheCounters", name := "localHits", desc := "()J" } : Jvm.MethodName) prog_3_method_6_code (1 : Nat) (Option.some Jvm.ClassFile.FieldType.long), Jvm.Cond.code ({ cls := "dev/twotier/CacheCounters", name := "localMisses", desc := "()J" } : Jvm.MethodName) prog_3_method_7_code (1 : Nat) (Option.some Jvm.ClassFile.FieldType.long), Jvm.Cond.code ({ cls := "dev/twotier/CacheCounters", name := "redisHits", desc := "()J" } : Jvm.MethodName) prog_3_method_8_code (1 : Nat) (Option.some Jvm.ClassFile.FieldType.long), Jvm.Cond.code ({ cls := "dev/twotier/CacheCounters", name := "redisMisses", desc := "()J" } : Jvm.MethodName) prog_3_method_9_code (1 : Nat) (Option.some Jvm.ClassFile.FieldType.long), Jvm.Cond.code ({ cls := "dev/twotier/CacheCounters", name := "puts", desc := "()J" } : Jvm.MethodName) prog_3_method_10_code (1 : Nat) (Option.some Jvm.ClassFile.FieldType.long), Jvm.Cond.code ({ cls := "dev/twotier/CacheCounters", name := "loadSuccesses", desc := "()J" } : Jvm.MethodName) prog_3_method_11_code (1 : Nat) (Option.some Jvm.ClassFile.FieldType.long), Jvm.Cond.code ({ cls := "dev/twotier/CacheCounters", name := "loadFailures", desc := "()J" } : Jvm.MethodName) prog_3_method_12_code (1 : Nat) (Option.some Jvm.ClassFile.FieldType.long), Jvm.Cond.code ({ cls := "dev/twotier/CacheCounters", name := "localEvictions", desc := "()J" } : Jvm.MethodName) prog_3_method_13_code (1 : Nat) (Option.some Jvm.ClassFile.FieldType.long), Jvm.Cond.code ({ cls := "dev/twotier/CacheCounters", name := "invalidations", desc := "()J" } : Jvm.MethodName) prog_3_method_14_code (1 : Nat) (Option.some Jvm.ClassFile.FieldType.long), Jvm.Cond.code ({ cls := "dev/twotier/CacheCounters", name := "redisErrors", desc := "()J" } : Jvm.MethodName) prog_3_method_15_code (1 : Nat) (Option.some Jvm.ClassFile.FieldType.long)]
set_option maxRecDepth 65536 in
theorem codes_eq : words1.filter isCode = codes1 := rfl
theorem w_codes : ∀ c ∈ words1.filter isCode, c.before args0 about1 = true := by
  rw [codes_eq]
  intro c hc
  simp only [codes1, List.mem_cons, List.not_mem_nil, or_false] at hc
  rcases hc with rfl | rfl | rfl | rfl | rfl | rfl | rfl | rfl | rfl | rfl | rfl | rfl | rfl | rfl | rfl
  · exact w_c0
  · exact w_c1
  · exact w_c2
  · exact w_c3
  · exact w_c4
  · exact w_c5
  · exact w_c6
  · exact w_c7
  · exact w_c8
  · exact w_c9
  · exact w_c10
  · exact w_c11
  · exact w_c12
  · exact w_c13
  · exact w_c14
set_option maxRecDepth 65536 in
theorem w_t1 : (words1.take 24).all (fun c => isCode c || c.before args0 about1) = true := by decide +kernel
set_option maxRecDepth 65536 in
theorem w_t2 : ((words1.drop 24).take 24).all (fun c => isCode c || c.before args0 about1) = true := by decide +kernel
set_option maxRecDepth 65536 in
theorem w_t3 : (((words1.drop 24).drop 24).take 24).all (fun c => isCode c || c.before args0 about1) = true := by decide +kernel
set_option maxRecDepth 65536 in
theorem w_t4 : ((((words1.drop 24).drop 24).drop 24).take 24).all (fun c => isCode c || c.before args0 about1) = true := by decide +kernel
set_option maxRecDepth 65536 in
theorem w_t5 : ((((words1.drop 24).drop 24).drop 24).drop 24).all (fun c => isCode c || c.before args0 about1) = true := by decide +kernel
theorem w_tables : (allAtoms (Jvm.Cond.code x code maxLocals ret :: tables_1)).before args0 about1 = true := by
  rw [allAtoms_all]
  show words1.all (fun c => c.before args0 about1) = true
  refine all_split ?_ w_codes
  rw [← List.take_append_drop 24 words1, List.all_append, w_t1, ← List.take_append_drop 24 (words1.drop 24), List.all_append, w_t2, ← List.take_append_drop 24 ((words1.drop 24).drop 24), List.all_append, w_t3, ← List.take_append_drop 24 (((words1.drop 24).drop 24).drop 24), List.all_append, w_t4, w_t5]
  rfl
set_option maxRecDepth 65536 in
theorem w_case : (Jvm.Cond.and given_1 narrow_1).before args0 about1 = true := by decide +kernel
theorem w_applies : (headSpec (Jvm.Cond.code x code maxLocals ret :: tables_1) room_1).applies x e0.platform about1 = true :=
  (Spec.applies_iff w_frames).mpr ⟨w_running, w_runnable, w_alone, w_named, w_hears, w_ripe, w_room, w_tables⟩
theorem atStart : AtStart classFile x code maxLocals ret World_1 tables_1 room_1 Calls_1 rest_1 Pre_1 launch0 p0 e0 about1 theMethod args0 below0 :=
  ⟨lists_1, trivial, launch0.admits_env _ _ _, launch0.least_env, fairChoices_fair.cas, fairChoices_fair.clock, w_frames, w_args, w_heap, w_applies, trivial, trivial, w_case⟩
end start1
theorem witness_1 : WitnessClaimed_1 := ⟨start1.p0, start1.e0, start1.about1, start1.theMethod, start1.args0, start1.below0, start1.atStart⟩
end Jvm.Pilot.@@N@@
