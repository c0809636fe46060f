import JvmDerived
import JvmDerived.Pilot.@@N@@Statement
import JvmDerived.Pilot.@@N@@Code
set_option linter.unusedVariables false
set_option linter.unusedSimpArgs false
@@BLOCK:NumsL.lean.txt@@
namespace Jvm.RoadKit
open Sem ClassFile Op Lib Jvm.Stand Jvm.Free Jvm.LawKit
section New
variable {p : Program} {l : Launch} {e : Env} {R : Room} {s : State} {m : MethodId} {args : Array Value} {below : List Frame} {meth : Method} {c : Code} {T : State} {locs : List Loc} {cells slots : Nat}
theorem retI (X : Stand p l e R s m args below meth c T locs cells slots) (hx : p.tables.exec = Jvm.exec) {pc : Nat} {Ls : Array Slot} {z : Int32} {rest : List Value} (hret : meth.sig.returnType = some .int) (hd : decode c.code pc = .ok (.ireturn, 1)) {fs : List Frame}
    (hl : ∀ (f : JFrame) (acts : List Action), f.method = m → f.locked = none → f.entered = [] → (doReturn e (T.setTop f) acts (some (.int z))).1 = T.setFrames fs) : Steps p.tables e below (T.setTop (mkF m pc Ls (.int z :: rest))) (T.setFrames fs) := by
  have hm' : T.vm.method? m = some meth := X.method'
  have hn : narrow .int (.int z) = .int z := rfl
  show Steps p.tables e below (T.setTop { method := m, pc := pc, locals := Ls, stack := _ :: rest, locked := none }) _
  jvm_step X.here [X.here.top, hx, hd, hm', hret, hn]
  first | (intro acts; rw [hl _ acts rfl rfl rfl]) | rw [hl _ _ rfl rfl rfl]
  exact Steps.refl _

/-- from A the run ends, and R holds of the end -/
def own_Fin (tb : Tables) (e : Env) (below : List Frame) (R : State → Outcome → Prop) (A : State) : Prop := ∃ t o, Steps tb e below A t ∧ R t o
def own_R (s : State) (below : List Frame) (Q : Option Value → Heap → List Loc → Prop) (C S : Nat) (t : State) (o : Outcome) : Prop :=
  t.status = .running ∧ Ended t below o ∧ ∃ v L, o = .returned v ∧ Q v t.heap L ∧ FrameEnd s o t L C S
theorem own_pre {tb : Tables} {e : Env} {below : List Frame} {R : State → Outcome → Prop} {A A' : State} (h : ∀ t, Steps tb e below A' t → Steps tb e below A t) (k : own_Fin tb e below R A') : own_Fin tb e below R A := by
  obtain ⟨t, o, h1, h2⟩ := k; exact ⟨t, o, h t h1, h2⟩
theorem own_start {tb : Tables} {e : Env} {below : List Frame} {s T : State} {Q : Option Value → Heap → List Loc → Prop} {C S : Nat} {g g' : JFrame} (q : g = g') (k : own_Fin tb e below (own_R s below Q C S) (T.setTop g')) :
    ∃ s₂ o, Steps tb e below (T.setTop g) s₂ ∧ s₂.status = .running ∧ Ended s₂ below o ∧ ∃ v L, o = .returned v ∧ Q v s₂.heap L ∧ FrameEnd s o s₂ L C S := by
  subst q; exact k
theorem own_ret {Q : Option Value → Heap → List Loc → Prop} {C S : Nat} {A : State} {v : Option Value} (X : Stand p l e R s m args below meth c T locs cells slots) (hv : meth.sig.returnType = none → v = none) (hlocks : meth.locks = false) (hc : cells ≤ C) (hs : slots ≤ S) (hQ : Q v T.heap locs)
    (hstep : ∀ fs, (∀ (f : JFrame) (acts : List Action), f.method = m → f.locked = none → f.entered = [] → (doReturn e (T.setTop f) acts v).1 = T.setFrames fs) → Steps p.tables e below A (T.setFrames fs)) : own_Fin p.tables e below (own_R s below Q C S) A := by
  obtain ⟨fs, hr, hrun, hended, hW, hsame⟩ := X.leave hv hlocks
  exact ⟨_, _, hstep fs hr, hrun, hended, _, _, rfl, hQ, ⟨_, rfl⟩, hW, hsame.mono hc hs⟩
theorem own_ltN {a b : Nat} (h : a < b) : @LT.lt Nat instLTNat a b := h
theorem own_leN {a b : Nat} (h : a ≤ b) : @LE.le Nat instLENat a b := h
theorem own_neN {a b : Nat} (h : @LT.lt Nat instLTNat a b) : a ≠ b := Nat.ne_of_lt h
theorem own_neN' {a b : Nat} (h : @LT.lt Nat instLTNat b a) : a ≠ b := Nat.ne_of_gt h
theorem own_selp {y : MethodName} {s : State} {args : Array Value} {n : Nat} (hy : y.cls ≠ "java/lang/invoke/MethodHandle" ∧ y.cls ≠ "java/lang/invoke/VarHandle")
    (hins : (Cond.instantiable y.cls n).before args s = true) (hpriv : (Cond.privateMethod y).before args s = true) (hinst : (Cond.instanceMethod y).before args s = true) : (Cond.selects y.cls y y).before args s = true := by
  obtain ⟨c, k, hc, hk, -, hniab, -, -⟩ := Cond.instantiable_spec hins
  exact selects_self_of_private hc hk (Bool.or_eq_false_iff.mp hniab).1 (Cond.privateMethod_at hpriv) hinst hy
def own_QV (h0 : Heap) (n0 : Nat) (v : Option Value) (h : Heap) (L : List Loc) : Prop := v = none ∧ Fr n0 L ∧ h = h0
def own_QP (r : Value) (h0 : Heap) (n0 : Nat) (v : Option Value) (h : Heap) (L : List Loc) : Prop := v = some r ∧ Fr n0 L ∧ h = h0
def own_at (code : ByteArray) (pc : Nat) (i : Instr) (n pc' : Nat) : Prop := decode code pc = .ok (i, n) ∧ pc + n = pc'
section Steps1
variable {p : Program} {l : Launch} {e : Env} {R : Room} {s : State} {m : MethodId} {args : Array Value} {below : List Frame} {meth : Method} {c : Code} {T : State} {locs : List Loc} {cells slots : Nat} {code : ByteArray} {Rr : State → Outcome → Prop} {Ls : Array Slot} {st : List Value} {pc pc' : Nat}
theorem o_iloadN (X : Stand p l e R s m args below meth c T locs cells slots) (hx : p.tables.exec = Jvm.exec) (hby : c.code = code) {k : Fin 4} {v : Int32} (hd : own_at code pc (.iload_n k) 1 pc') (hl : Ls[k.val]? = some (.val (.int v)))
    (h : own_Fin p.tables e below Rr (T.setTop (mkF m pc' Ls (.int v :: st)))) : own_Fin p.tables e below Rr (T.setTop (mkF m pc Ls (st))) := by
  obtain ⟨hd, rfl⟩ := hd; subst hby
  exact own_pre (fun t k => XS.iloadN X.here hx rfl hd hl k) h
theorem o_iload (X : Stand p l e R s m args below meth c T locs cells slots) (hx : p.tables.exec = Jvm.exec) (hby : c.code = code) {k : Nat} {v : Int32} (hd : own_at code pc (.iload k) 2 pc') (hl : Ls[k]? = some (.val (.int v)))
    (h : own_Fin p.tables e below Rr (T.setTop (mkF m pc' Ls (.int v :: st)))) : own_Fin p.tables e below Rr (T.setTop (mkF m pc Ls (st))) := by
  obtain ⟨hd, rfl⟩ := hd; subst hby
  exact own_pre (fun t k => XS.iload X.here hx rfl hd hl k) h
theorem o_istoreN (X : Stand p l e R s m args below meth c T locs cells slots) (hx : p.tables.exec = Jvm.exec) (hby : c.code = code) {k : Fin 4} {v : Int32} {l' : Array Slot} (hd : own_at code pc (.istore_n k) 1 pc') (hl : storeLocals Ls k.val (.int v) = some l')
    (h : own_Fin p.tables e below Rr (T.setTop (mkF m pc' l' (st)))) : own_Fin p.tables e below Rr (T.setTop (mkF m pc Ls (.int v :: st))) := by
  obtain ⟨hd, rfl⟩ := hd; subst hby
  exact own_pre (fun t k => XS.istoreN X.here hx rfl hd rfl hl k) h
theorem o_istore (X : Stand p l e R s m args below meth c T locs cells slots) (hx : p.tables.exec = Jvm.exec) (hby : c.code = code) {k : Nat} {v : Int32} {l' : Array Slot} (hd : own_at code pc (.istore k) 2 pc') (hl : storeLocals Ls k (.int v) = some l')
    (h : own_Fin p.tables e below Rr (T.setTop (mkF m pc' l' (st)))) : own_Fin p.tables e below Rr (T.setTop (mkF m pc Ls (.int v :: st))) := by
  obtain ⟨hd, rfl⟩ := hd; subst hby
  exact own_pre (fun t k => XS.istore X.here hx rfl hd rfl hl k) h
theorem o_lloadN (X : Stand p l e R s m args below meth c T locs cells slots) (hx : p.tables.exec = Jvm.exec) (hby : c.code = code) {k : Fin 4} {v : Int64} (hd : own_at code pc (.lload_n k) 1 pc') (hl : Ls[k.val]? = some (.val (.long v)))
    (h : own_Fin p.tables e below Rr (T.setTop (mkF m pc' Ls (.long v :: st)))) : own_Fin p.tables e below Rr (T.setTop (mkF m pc Ls (st))) := by
  obtain ⟨hd, rfl⟩ := hd; subst hby
  exact own_pre (fun t k => XS.lloadN X.here hx rfl hd hl k) h
theorem o_lload (X : Stand p l e R s m args below meth c T locs cells slots) (hx : p.tables.exec = Jvm.exec) (hby : c.code = code) {k : Nat} {v : Int64} (hd : own_at code pc (.lload k) 2 pc') (hl : Ls[k]? = some (.val (.long v)))
    (h : own_Fin p.tables e below Rr (T.setTop (mkF m pc' Ls (.long v :: st)))) : own_Fin p.tables e below Rr (T.setTop (mkF m pc Ls (st))) := by
  obtain ⟨hd, rfl⟩ := hd; subst hby
  exact own_pre (fun t k => XS.lload X.here hx rfl hd hl k) h
theorem o_lstoreN (X : Stand p l e R s m args below meth c T locs cells slots) (hx : p.tables.exec = Jvm.exec) (hby : c.code = code) {k : Fin 4} {v : Int64} {l' : Array Slot} (hd : own_at code pc (.lstore_n k) 1 pc') (hl : storeLocals Ls k.val (.long v) = some l')
    (h : own_Fin p.tables e below Rr (T.setTop (mkF m pc' l' (st)))) : own_Fin p.tables e below Rr (T.setTop (mkF m pc Ls (.long v :: st))) := by
  obtain ⟨hd, rfl⟩ := hd; subst hby
  exact own_pre (fun t k => XS.lstoreN X.here hx rfl hd rfl hl k) h
theorem o_lstore (X : Stand p l e R s m args below meth c T locs cells slots) (hx : p.tables.exec = Jvm.exec) (hby : c.code = code) {k : Nat} {v : Int64} {l' : Array Slot} (hd : own_at code pc (.lstore k) 2 pc') (hl : storeLocals Ls k (.long v) = some l')
    (h : own_Fin p.tables e below Rr (T.setTop (mkF m pc' l' (st)))) : own_Fin p.tables e below Rr (T.setTop (mkF m pc Ls (.long v :: st))) := by
  obtain ⟨hd, rfl⟩ := hd; subst hby
  exact own_pre (fun t k => XS.lstore X.here hx rfl hd rfl hl k) h
theorem o_aloadN (X : Stand p l e R s m args below meth c T locs cells slots) (hx : p.tables.exec = Jvm.exec) (hby : c.code = code) {k : Fin 4} {v : Value} (hd : own_at code pc (.aload_n k) 1 pc') (hl : Ls[k.val]? = some (.val v)) (hv : v.isRef = true)
    (h : own_Fin p.tables e below Rr (T.setTop (mkF m pc' Ls (v :: st)))) : own_Fin p.tables e below Rr (T.setTop (mkF m pc Ls (st))) := by
  obtain ⟨hd, rfl⟩ := hd; subst hby
  exact own_pre (fun t k => XS.aloadN X.here hx rfl hd hl hv k) h
theorem o_aload (X : Stand p l e R s m args below meth c T locs cells slots) (hx : p.tables.exec = Jvm.exec) (hby : c.code = code) {k : Nat} {v : Value} (hd : own_at code pc (.aload k) 2 pc') (hl : Ls[k]? = some (.val v)) (hv : v.isRef = true)
    (h : own_Fin p.tables e below Rr (T.setTop (mkF m pc' Ls (v :: st)))) : own_Fin p.tables e below Rr (T.setTop (mkF m pc Ls (st))) := by
  obtain ⟨hd, rfl⟩ := hd; subst hby
  exact own_pre (fun t k => XS.aload X.here hx rfl hd hl hv k) h
theorem o_astoreN (X : Stand p l e R s m args below meth c T locs cells slots) (hx : p.tables.exec = Jvm.exec) (hby : c.code = code) {k : Fin 4} {v : Value} {l' : Array Slot} (hd : own_at code pc (.astore_n k) 1 pc') (hv : v.isRef = true) (hl : storeLocals Ls k.val v = some l')
    (h : own_Fin p.tables e below Rr (T.setTop (mkF m pc' l' (st)))) : own_Fin p.tables e below Rr (T.setTop (mkF m pc Ls (v :: st))) := by
  obtain ⟨hd, rfl⟩ := hd; subst hby
  exact own_pre (fun t k => XS.astoreN X.here hx rfl hd rfl hv hl k) h
theorem o_astore (X : Stand p l e R s m args below meth c T locs cells slots) (hx : p.tables.exec = Jvm.exec) (hby : c.code = code) {k : Nat} {v : Value} {l' : Array Slot} (hd : own_at code pc (.astore k) 2 pc') (hv : v.isRef = true) (hl : storeLocals Ls k v = some l')
    (h : own_Fin p.tables e below Rr (T.setTop (mkF m pc' l' (st)))) : own_Fin p.tables e below Rr (T.setTop (mkF m pc Ls (v :: st))) := by
  obtain ⟨hd, rfl⟩ := hd; subst hby
  exact own_pre (fun t k => XS.astore X.here hx rfl hd rfl hv hl k) h
theorem o_iconst (X : Stand p l e R s m args below meth c T locs cells slots) (hx : p.tables.exec = Jvm.exec) (hby : c.code = code) {i : Int} {v : Int32} (hd : own_at code pc (.iconst i) 1 pc') (hv : Int32.ofInt i = v)
    (h : own_Fin p.tables e below Rr (T.setTop (mkF m pc' Ls (.int v :: st)))) : own_Fin p.tables e below Rr (T.setTop (mkF m pc Ls (st))) := by
  obtain ⟨hd, rfl⟩ := hd; subst hby
  exact own_pre (fun t k => by subst hv; exact XS.iconst X.here hx rfl hd k) h
theorem o_bipush (X : Stand p l e R s m args below meth c T locs cells slots) (hx : p.tables.exec = Jvm.exec) (hby : c.code = code) {i : Int} {v : Int32} (hd : own_at code pc (.bipush i) 2 pc') (hv : (Int8.ofInt i).toInt32 = v)
    (h : own_Fin p.tables e below Rr (T.setTop (mkF m pc' Ls (.int v :: st)))) : own_Fin p.tables e below Rr (T.setTop (mkF m pc Ls (st))) := by
  obtain ⟨hd, rfl⟩ := hd; subst hby
  exact own_pre (fun t k => by subst hv; exact XS.bipush X.here hx rfl hd k) h
theorem o_sipush (X : Stand p l e R s m args below meth c T locs cells slots) (hx : p.tables.exec = Jvm.exec) (hby : c.code = code) {i : Int} {v : Int32} (hd : own_at code pc (.sipush i) 3 pc') (hv : (Int16.ofInt i).toInt32 = v)
    (h : own_Fin p.tables e below Rr (T.setTop (mkF m pc' Ls (.int v :: st)))) : own_Fin p.tables e below Rr (T.setTop (mkF m pc Ls (st))) := by
  obtain ⟨hd, rfl⟩ := hd; subst hby
  exact own_pre (fun t k => by subst hv; exact XS.sipush X.here hx rfl hd k) h
theorem o_lconst (X : Stand p l e R s m args below meth c T locs cells slots) (hx : p.tables.exec = Jvm.exec) (hby : c.code = code) {i : Fin 2} {v : Int64} (hd : own_at code pc (.lconst i) 1 pc') (hv : Int64.ofNat i = v)
    (h : own_Fin p.tables e below Rr (T.setTop (mkF m pc' Ls (.long v :: st)))) : own_Fin p.tables e below Rr (T.setTop (mkF m pc Ls (st))) := by
  obtain ⟨hd, rfl⟩ := hd; subst hby
  exact own_pre (fun t k => by subst hv; exact XS.lconst X.here hx rfl hd k) h
theorem o_anull (X : Stand p l e R s m args below meth c T locs cells slots) (hx : p.tables.exec = Jvm.exec) (hby : c.code = code)  (hd : own_at code pc (.aconst_null) 1 pc') 
    (h : own_Fin p.tables e below Rr (T.setTop (mkF m pc' Ls (.null :: st)))) : own_Fin p.tables e below Rr (T.setTop (mkF m pc Ls (st))) := by
  obtain ⟨hd, rfl⟩ := hd; subst hby
  exact own_pre (fun t k => XS.aconstNull X.here hx rfl hd k) h
theorem o_iadd (X : Stand p l e R s m args below meth c T locs cells slots) (hx : p.tables.exec = Jvm.exec) (hby : c.code = code) {x y : Int32} (hd : own_at code pc (.iadd) 1 pc') 
    (h : own_Fin p.tables e below Rr (T.setTop (mkF m pc' Ls (.int (x + y) :: st)))) : own_Fin p.tables e below Rr (T.setTop (mkF m pc Ls (.int y :: .int x :: st))) := by
  obtain ⟨hd, rfl⟩ := hd; subst hby
  exact own_pre (fun t k => XS.iadd X.here hx rfl hd rfl k) h
theorem o_ladd (X : Stand p l e R s m args below meth c T locs cells slots) (hx : p.tables.exec = Jvm.exec) (hby : c.code = code) {x y : Int64} (hd : own_at code pc (.ladd) 1 pc') 
    (h : own_Fin p.tables e below Rr (T.setTop (mkF m pc' Ls (.long (x + y) :: st)))) : own_Fin p.tables e below Rr (T.setTop (mkF m pc Ls (.long y :: .long x :: st))) := by
  obtain ⟨hd, rfl⟩ := hd; subst hby
  exact own_pre (fun t k => XS.ladd X.here hx rfl hd rfl k) h
theorem o_isub (X : Stand p l e R s m args below meth c T locs cells slots) (hx : p.tables.exec = Jvm.exec) (hby : c.code = code) {x y : Int32} (hd : own_at code pc (.isub) 1 pc') 
    (h : own_Fin p.tables e below Rr (T.setTop (mkF m pc' Ls (.int (x - y) :: st)))) : own_Fin p.tables e below Rr (T.setTop (mkF m pc Ls (.int y :: .int x :: st))) := by
  obtain ⟨hd, rfl⟩ := hd; subst hby
  exact own_pre (fun t k => XS.isub X.here hx rfl hd rfl k) h
theorem o_lsub (X : Stand p l e R s m args below meth c T locs cells slots) (hx : p.tables.exec = Jvm.exec) (hby : c.code = code) {x y : Int64} (hd : own_at code pc (.lsub) 1 pc') 
    (h : own_Fin p.tables e below Rr (T.setTop (mkF m pc' Ls (.long (x - y) :: st)))) : own_Fin p.tables e below Rr (T.setTop (mkF m pc Ls (.long y :: .long x :: st))) := by
  obtain ⟨hd, rfl⟩ := hd; subst hby
  exact own_pre (fun t k => XS.lsub X.here hx rfl hd rfl k) h
theorem o_imul (X : Stand p l e R s m args below meth c T locs cells slots) (hx : p.tables.exec = Jvm.exec) (hby : c.code = code) {x y : Int32} (hd : own_at code pc (.imul) 1 pc') 
    (h : own_Fin p.tables e below Rr (T.setTop (mkF m pc' Ls (.int (x * y) :: st)))) : own_Fin p.tables e below Rr (T.setTop (mkF m pc Ls (.int y :: .int x :: st))) := by
  obtain ⟨hd, rfl⟩ := hd; subst hby
  exact own_pre (fun t k => XS.imul X.here hx rfl hd rfl k) h
theorem o_lmul (X : Stand p l e R s m args below meth c T locs cells slots) (hx : p.tables.exec = Jvm.exec) (hby : c.code = code) {x y : Int64} (hd : own_at code pc (.lmul) 1 pc') 
    (h : own_Fin p.tables e below Rr (T.setTop (mkF m pc' Ls (.long (x * y) :: st)))) : own_Fin p.tables e below Rr (T.setTop (mkF m pc Ls (.long y :: .long x :: st))) := by
  obtain ⟨hd, rfl⟩ := hd; subst hby
  exact own_pre (fun t k => XS.lmul X.here hx rfl hd rfl k) h
theorem o_iand (X : Stand p l e R s m args below meth c T locs cells slots) (hx : p.tables.exec = Jvm.exec) (hby : c.code = code) {x y : Int32} (hd : own_at code pc (.iand) 1 pc') 
    (h : own_Fin p.tables e below Rr (T.setTop (mkF m pc' Ls (.int (x &&& y) :: st)))) : own_Fin p.tables e below Rr (T.setTop (mkF m pc Ls (.int y :: .int x :: st))) := by
  obtain ⟨hd, rfl⟩ := hd; subst hby
  exact own_pre (fun t k => XS.iand X.here hx rfl hd rfl k) h
theorem o_land (X : Stand p l e R s m args below meth c T locs cells slots) (hx : p.tables.exec = Jvm.exec) (hby : c.code = code) {x y : Int64} (hd : own_at code pc (.land) 1 pc') 
    (h : own_Fin p.tables e below Rr (T.setTop (mkF m pc' Ls (.long (x &&& y) :: st)))) : own_Fin p.tables e below Rr (T.setTop (mkF m pc Ls (.long y :: .long x :: st))) := by
  obtain ⟨hd, rfl⟩ := hd; subst hby
  exact own_pre (fun t k => XS.land X.here hx rfl hd rfl k) h
theorem o_ior (X : Stand p l e R s m args below meth c T locs cells slots) (hx : p.tables.exec = Jvm.exec) (hby : c.code = code) {x y : Int32} (hd : own_at code pc (.ior) 1 pc') 
    (h : own_Fin p.tables e below Rr (T.setTop (mkF m pc' Ls (.int (x ||| y) :: st)))) : own_Fin p.tables e below Rr (T.setTop (mkF m pc Ls (.int y :: .int x :: st))) := by
  obtain ⟨hd, rfl⟩ := hd; subst hby
  exact own_pre (fun t k => XS.ior X.here hx rfl hd rfl k) h
theorem o_lor (X : Stand p l e R s m args below meth c T locs cells slots) (hx : p.tables.exec = Jvm.exec) (hby : c.code = code) {x y : Int64} (hd : own_at code pc (.lor) 1 pc') 
    (h : own_Fin p.tables e below Rr (T.setTop (mkF m pc' Ls (.long (x ||| y) :: st)))) : own_Fin p.tables e below Rr (T.setTop (mkF m pc Ls (.long y :: .long x :: st))) := by
  obtain ⟨hd, rfl⟩ := hd; subst hby
  exact own_pre (fun t k => XS.lor X.here hx rfl hd rfl k) h
theorem o_ixor (X : Stand p l e R s m args below meth c T locs cells slots) (hx : p.tables.exec = Jvm.exec) (hby : c.code = code) {x y : Int32} (hd : own_at code pc (.ixor) 1 pc') 
    (h : own_Fin p.tables e below Rr (T.setTop (mkF m pc' Ls (.int (x ^^^ y) :: st)))) : own_Fin p.tables e below Rr (T.setTop (mkF m pc Ls (.int y :: .int x :: st))) := by
  obtain ⟨hd, rfl⟩ := hd; subst hby
  exact own_pre (fun t k => XS.ixor X.here hx rfl hd rfl k) h
theorem o_lxor (X : Stand p l e R s m args below meth c T locs cells slots) (hx : p.tables.exec = Jvm.exec) (hby : c.code = code) {x y : Int64} (hd : own_at code pc (.lxor) 1 pc') 
    (h : own_Fin p.tables e below Rr (T.setTop (mkF m pc' Ls (.long (x ^^^ y) :: st)))) : own_Fin p.tables e below Rr (T.setTop (mkF m pc Ls (.long y :: .long x :: st))) := by
  obtain ⟨hd, rfl⟩ := hd; subst hby
  exact own_pre (fun t k => XS.lxor X.here hx rfl hd rfl k) h
theorem o_ishl (X : Stand p l e R s m args below meth c T locs cells slots) (hx : p.tables.exec = Jvm.exec) (hby : c.code = code) {x y : Int32} (hd : own_at code pc (.ishl) 1 pc') 
    (h : own_Fin p.tables e below Rr (T.setTop (mkF m pc' Ls (.int (x <<< (y &&& 31)) :: st)))) : own_Fin p.tables e below Rr (T.setTop (mkF m pc Ls (.int y :: .int x :: st))) := by
  obtain ⟨hd, rfl⟩ := hd; subst hby
  exact own_pre (fun t k => XS.ishl X.here hx rfl hd rfl k) h
theorem o_ishr (X : Stand p l e R s m args below meth c T locs cells slots) (hx : p.tables.exec = Jvm.exec) (hby : c.code = code) {x y : Int32} (hd : own_at code pc (.ishr) 1 pc') 
    (h : own_Fin p.tables e below Rr (T.setTop (mkF m pc' Ls (.int (x >>> (y &&& 31)) :: st)))) : own_Fin p.tables e below Rr (T.setTop (mkF m pc Ls (.int y :: .int x :: st))) := by
  obtain ⟨hd, rfl⟩ := hd; subst hby
  exact own_pre (fun t k => XS.ishr X.here hx rfl hd rfl k) h
theorem o_iushr (X : Stand p l e R s m args below meth c T locs cells slots) (hx : p.tables.exec = Jvm.exec) (hby : c.code = code) {x y : Int32} (hd : own_at code pc (.iushr) 1 pc') 
    (h : own_Fin p.tables e below Rr (T.setTop (mkF m pc' Ls (.int ((x.toUInt32 >>> (y &&& 31).toUInt32).toInt32) :: st)))) : own_Fin p.tables e below Rr (T.setTop (mkF m pc Ls (.int y :: .int x :: st))) := by
  obtain ⟨hd, rfl⟩ := hd; subst hby
  exact own_pre (fun t k => XS.iushr X.here hx rfl hd rfl k) h
theorem o_lshl (X : Stand p l e R s m args below meth c T locs cells slots) (hx : p.tables.exec = Jvm.exec) (hby : c.code = code) {x : Int64} {y : Int32} (hd : own_at code pc (.lshl) 1 pc') 
    (h : own_Fin p.tables e below Rr (T.setTop (mkF m pc' Ls (.long (x <<< (y &&& 0x3f).toInt64) :: st)))) : own_Fin p.tables e below Rr (T.setTop (mkF m pc Ls (.int y :: .long x :: st))) := by
  obtain ⟨hd, rfl⟩ := hd; subst hby
  exact own_pre (fun t k => XS.lshl X.here hx rfl hd rfl k) h
theorem o_lshr (X : Stand p l e R s m args below meth c T locs cells slots) (hx : p.tables.exec = Jvm.exec) (hby : c.code = code) {x : Int64} {y : Int32} (hd : own_at code pc (.lshr) 1 pc') 
    (h : own_Fin p.tables e below Rr (T.setTop (mkF m pc' Ls (.long (x >>> (y &&& 0x3f).toInt64) :: st)))) : own_Fin p.tables e below Rr (T.setTop (mkF m pc Ls (.int y :: .long x :: st))) := by
  obtain ⟨hd, rfl⟩ := hd; subst hby
  exact own_pre (fun t k => XS.lshr X.here hx rfl hd rfl k) h
theorem o_lushr (X : Stand p l e R s m args below meth c T locs cells slots) (hx : p.tables.exec = Jvm.exec) (hby : c.code = code) {x : Int64} {y : Int32} (hd : own_at code pc (.lushr) 1 pc') 
    (h : own_Fin p.tables e below Rr (T.setTop (mkF m pc' Ls (.long ((x.toUInt64 >>> (y &&& 0x3f).toInt64.toUInt64).toInt64) :: st)))) : own_Fin p.tables e below Rr (T.setTop (mkF m pc Ls (.int y :: .long x :: st))) := by
  obtain ⟨hd, rfl⟩ := hd; subst hby
  exact own_pre (fun t k => XS.lushr X.here hx rfl hd rfl k) h
theorem o_ineg (X : Stand p l e R s m args below meth c T locs cells slots) (hx : p.tables.exec = Jvm.exec) (hby : c.code = code) {x : Int32} (hd : own_at code pc (.ineg) 1 pc') 
    (h : own_Fin p.tables e below Rr (T.setTop (mkF m pc' Ls (.int (-x) :: st)))) : own_Fin p.tables e below Rr (T.setTop (mkF m pc Ls (.int x :: st))) := by
  obtain ⟨hd, rfl⟩ := hd; subst hby
  exact own_pre (fun t k => XS.ineg X.here hx rfl hd rfl k) h
theorem o_lneg (X : Stand p l e R s m args below meth c T locs cells slots) (hx : p.tables.exec = Jvm.exec) (hby : c.code = code) {x : Int64} (hd : own_at code pc (.lneg) 1 pc') 
    (h : own_Fin p.tables e below Rr (T.setTop (mkF m pc' Ls (.long (-x) :: st)))) : own_Fin p.tables e below Rr (T.setTop (mkF m pc Ls (.long x :: st))) := by
  obtain ⟨hd, rfl⟩ := hd; subst hby
  exact own_pre (fun t k => XS.lneg X.here hx rfl hd rfl k) h
theorem o_i2l (X : Stand p l e R s m args below meth c T locs cells slots) (hx : p.tables.exec = Jvm.exec) (hby : c.code = code) {x : Int32} (hd : own_at code pc (.i2l) 1 pc') 
    (h : own_Fin p.tables e below Rr (T.setTop (mkF m pc' Ls (.long (x.toInt64) :: st)))) : own_Fin p.tables e below Rr (T.setTop (mkF m pc Ls (.int x :: st))) := by
  obtain ⟨hd, rfl⟩ := hd; subst hby
  exact own_pre (fun t k => XS.i2l X.here hx rfl hd rfl k) h
theorem o_l2i (X : Stand p l e R s m args below meth c T locs cells slots) (hx : p.tables.exec = Jvm.exec) (hby : c.code = code) {x : Int64} (hd : own_at code pc (.l2i) 1 pc') 
    (h : own_Fin p.tables e below Rr (T.setTop (mkF m pc' Ls (.int (x.toInt32) :: st)))) : own_Fin p.tables e below Rr (T.setTop (mkF m pc Ls (.long x :: st))) := by
  obtain ⟨hd, rfl⟩ := hd; subst hby
  exact own_pre (fun t k => XS.l2i X.here hx rfl hd rfl k) h
theorem o_i2b (X : Stand p l e R s m args below meth c T locs cells slots) (hx : p.tables.exec = Jvm.exec) (hby : c.code = code) {x : Int32} (hd : own_at code pc (.i2b) 1 pc') 
    (h : own_Fin p.tables e below Rr (T.setTop (mkF m pc' Ls (.int (x.toInt8.toInt32) :: st)))) : own_Fin p.tables e below Rr (T.setTop (mkF m pc Ls (.int x :: st))) := by
  obtain ⟨hd, rfl⟩ := hd; subst hby
  exact own_pre (fun t k => XS.i2b X.here hx rfl hd rfl k) h
theorem o_i2s (X : Stand p l e R s m args below meth c T locs cells slots) (hx : p.tables.exec = Jvm.exec) (hby : c.code = code) {x : Int32} (hd : own_at code pc (.i2s) 1 pc') 
    (h : own_Fin p.tables e below Rr (T.setTop (mkF m pc' Ls (.int (x.toInt16.toInt32) :: st)))) : own_Fin p.tables e below Rr (T.setTop (mkF m pc Ls (.int x :: st))) := by
  obtain ⟨hd, rfl⟩ := hd; subst hby
  exact own_pre (fun t k => XS.i2s X.here hx rfl hd rfl k) h
theorem o_i2c (X : Stand p l e R s m args below meth c T locs cells slots) (hx : p.tables.exec = Jvm.exec) (hby : c.code = code) {x : Int32} (hd : own_at code pc (.i2c) 1 pc') 
    (h : own_Fin p.tables e below Rr (T.setTop (mkF m pc' Ls (.int (x.toUInt32.toUInt16.toUInt32.toInt32) :: st)))) : own_Fin p.tables e below Rr (T.setTop (mkF m pc Ls (.int x :: st))) := by
  obtain ⟨hd, rfl⟩ := hd; subst hby
  exact own_pre (fun t k => XS.i2c X.here hx rfl hd rfl k) h
theorem o_idiv (X : Stand p l e R s m args below meth c T locs cells slots) (hx : p.tables.exec = Jvm.exec) (hby : c.code = code) {x y : Int32} (hd : own_at code pc (.idiv) 1 pc') (hy : y ≠ 0)
    (h : own_Fin p.tables e below Rr (T.setTop (mkF m pc' Ls (.int (x / y) :: st)))) : own_Fin p.tables e below Rr (T.setTop (mkF m pc Ls (.int y :: .int x :: st))) := by
  obtain ⟨hd, rfl⟩ := hd; subst hby
  exact own_pre (fun t k => XS.idiv X.here hx rfl hd rfl hy k) h
theorem o_ldiv (X : Stand p l e R s m args below meth c T locs cells slots) (hx : p.tables.exec = Jvm.exec) (hby : c.code = code) {x y : Int64} (hd : own_at code pc (.ldiv) 1 pc') (hy : y ≠ 0)
    (h : own_Fin p.tables e below Rr (T.setTop (mkF m pc' Ls (.long (x / y) :: st)))) : own_Fin p.tables e below Rr (T.setTop (mkF m pc Ls (.long y :: .long x :: st))) := by
  obtain ⟨hd, rfl⟩ := hd; subst hby
  exact own_pre (fun t k => XS.ldiv X.here hx rfl hd rfl hy k) h
theorem o_irem (X : Stand p l e R s m args below meth c T locs cells slots) (hx : p.tables.exec = Jvm.exec) (hby : c.code = code) {x y : Int32} (hd : own_at code pc (.irem) 1 pc') (hy : y ≠ 0)
    (h : own_Fin p.tables e below Rr (T.setTop (mkF m pc' Ls (.int (x % y) :: st)))) : own_Fin p.tables e below Rr (T.setTop (mkF m pc Ls (.int y :: .int x :: st))) := by
  obtain ⟨hd, rfl⟩ := hd; subst hby
  exact own_pre (fun t k => iremM X hx rfl hd rfl hy k) h
theorem o_lcmp (X : Stand p l e R s m args below meth c T locs cells slots) (hx : p.tables.exec = Jvm.exec) (hby : c.code = code) {x y : Int64} (hd : own_at code pc (.lcmp) 1 pc') 
    (h : own_Fin p.tables e below Rr (T.setTop (mkF m pc' Ls (.int (lcmpW x y) :: st)))) : own_Fin p.tables e below Rr (T.setTop (mkF m pc Ls (.long y :: .long x :: st))) := by
  obtain ⟨hd, rfl⟩ := hd; subst hby
  exact own_pre (fun t k => XS.lcmp X.here hx rfl hd rfl k) h
theorem o_iinc (X : Stand p l e R s m args below meth c T locs cells slots) (hx : p.tables.exec = Jvm.exec) (hby : c.code = code) {k : Nat} {i : Int} {x : Int32} {l' : Array Slot} (hd : own_at code pc (.iinc k i) 3 pc') (hl : Ls[k]? = some (.val (.int x))) (hl' : storeLocals Ls k (.int (x + Int32.ofInt i)) = some l')
    (h : own_Fin p.tables e below Rr (T.setTop (mkF m pc' l' (st)))) : own_Fin p.tables e below Rr (T.setTop (mkF m pc Ls (st))) := by
  obtain ⟨hd, rfl⟩ := hd; subst hby
  exact own_pre (fun t k => XS.iinc X.here hx rfl hd hl hl' k) h
theorem o_dup (X : Stand p l e R s m args below meth c T locs cells slots) (hx : p.tables.exec = Jvm.exec) (hby : c.code = code) {v : Value} (hd : own_at code pc (.dup) 1 pc') (hv : v.category = 1)
    (h : own_Fin p.tables e below Rr (T.setTop (mkF m pc' Ls (v :: v :: st)))) : own_Fin p.tables e below Rr (T.setTop (mkF m pc Ls (v :: st))) := by
  obtain ⟨hd, rfl⟩ := hd; subst hby
  exact own_pre (fun t k => XS.dup X.here hx rfl hd rfl hv k) h
theorem o_pop (X : Stand p l e R s m args below meth c T locs cells slots) (hx : p.tables.exec = Jvm.exec) (hby : c.code = code) {v : Value} (hd : own_at code pc (.pop) 1 pc') (hv : v.category = 1)
    (h : own_Fin p.tables e below Rr (T.setTop (mkF m pc' Ls (st)))) : own_Fin p.tables e below Rr (T.setTop (mkF m pc Ls (v :: st))) := by
  obtain ⟨hd, rfl⟩ := hd; subst hby
  exact own_pre (fun t k => XS.pop X.here hx rfl hd rfl hv k) h
theorem o_dupX1 (X : Stand p l e R s m args below meth c T locs cells slots) (hx : p.tables.exec = Jvm.exec) (hby : c.code = code) {v w : Value} (hd : own_at code pc (.dup_x1) 1 pc') (hv : v.category = 1) (hw : w.category = 1)
    (h : own_Fin p.tables e below Rr (T.setTop (mkF m pc' Ls (v :: w :: v :: st)))) : own_Fin p.tables e below Rr (T.setTop (mkF m pc Ls (v :: w :: st))) := by
  obtain ⟨hd, rfl⟩ := hd; subst hby
  exact own_pre (fun t k => XS.dupX1 X.here hx rfl hd rfl hv hw k) h
theorem o_goto (X : Stand p l e R s m args below meth c T locs cells slots) (hx : p.tables.exec = Jvm.exec) (hby : c.code = code) {o : Int} {q : Nat} (hd : own_at code pc (.goto o) 3 pc') (ho : 0 ≤ (pc : Int) + o) (hp : ((pc : Int) + o).toNat = q)
    (h : own_Fin p.tables e below Rr (T.setTop (mkF m q Ls st))) : own_Fin p.tables e below Rr (T.setTop (mkF m pc Ls st)) := by
  obtain ⟨hd, rfl⟩ := hd; subst hby
  exact own_pre (fun t k => XS.goto X.here hx rfl (pc0 := pc) (pc' := q) rfl hd ho hp k) h
theorem o_ifY (X : Stand p l e R s m args below meth c T locs cells slots) (hx : p.tables.exec = Jvm.exec) (hby : c.code = code) {cd : ClassFile.Cond} {o : Int} {x : Int32} {q : Nat} (hd : own_at code pc (.ifCond cd o) 3 pc') (hc : ifCond.holds cd x = true) (ho : 0 ≤ (pc : Int) + o) (hp : ((pc : Int) + o).toNat = q)
    (h : own_Fin p.tables e below Rr (T.setTop (mkF m q Ls st))) : own_Fin p.tables e below Rr (T.setTop (mkF m pc Ls (.int x :: st))) := by
  obtain ⟨hd, rfl⟩ := hd; subst hby
  exact own_pre (fun t k => XS.ifYes X.here hx rfl (pc0 := pc) (pc' := q) rfl hd rfl hc ho hp k) h
theorem o_ifN (X : Stand p l e R s m args below meth c T locs cells slots) (hx : p.tables.exec = Jvm.exec) (hby : c.code = code) {cd : ClassFile.Cond} {o : Int} {x : Int32} (hd : own_at code pc (.ifCond cd o) 3 pc') (hc : ifCond.holds cd x = false)
    (h : own_Fin p.tables e below Rr (T.setTop (mkF m pc' Ls st))) : own_Fin p.tables e below Rr (T.setTop (mkF m pc Ls (.int x :: st))) := by
  obtain ⟨hd, rfl⟩ := hd; subst hby
  exact own_pre (fun t k => XS.ifNo X.here hx rfl hd rfl hc k) h
theorem o_icmpY (X : Stand p l e R s m args below meth c T locs cells slots) (hx : p.tables.exec = Jvm.exec) (hby : c.code = code) {cd : ClassFile.Cond} {o : Int} {x y : Int32} {q : Nat} (hd : own_at code pc (.if_icmp cd o) 3 pc') (hc : if_icmp.holds cd x y = true) (ho : 0 ≤ (pc : Int) + o) (hp : ((pc : Int) + o).toNat = q)
    (h : own_Fin p.tables e below Rr (T.setTop (mkF m q Ls st))) : own_Fin p.tables e below Rr (T.setTop (mkF m pc Ls (.int y :: .int x :: st))) := by
  obtain ⟨hd, rfl⟩ := hd; subst hby
  exact own_pre (fun t k => XS.icmpYes X.here hx rfl (pc0 := pc) (pc' := q) rfl hd rfl hc ho hp k) h
theorem o_icmpN (X : Stand p l e R s m args below meth c T locs cells slots) (hx : p.tables.exec = Jvm.exec) (hby : c.code = code) {cd : ClassFile.Cond} {o : Int} {x y : Int32} (hd : own_at code pc (.if_icmp cd o) 3 pc') (hc : if_icmp.holds cd x y = false)
    (h : own_Fin p.tables e below Rr (T.setTop (mkF m pc' Ls st))) : own_Fin p.tables e below Rr (T.setTop (mkF m pc Ls (.int y :: .int x :: st))) := by
  obtain ⟨hd, rfl⟩ := hd; subst hby
  exact own_pre (fun t k => XS.icmpNo X.here hx rfl hd rfl hc k) h
theorem o_ldc (X : Stand p l e R s m args below meth c T locs cells slots) (hx : p.tables.exec = Jvm.exec) (hby : c.code = code) {own : String} {index : Nat} {v : Int32} (hown : s.vm.findClass own = some m.cls) (hc : (Cond.constant own index v).before args s = true) (hd : own_at code pc (.ldc index) 2 pc')
    (h : own_Fin p.tables e below Rr (T.setTop (mkF m pc' Ls (.int v :: st)))) : own_Fin p.tables e below Rr (T.setTop (mkF m pc Ls st)) := by
  obtain ⟨hd, rfl⟩ := hd; subst hby
  exact own_pre (fun t k => X.ldcInt hx hown hc (g := mkF m pc Ls st) rfl hd t k) h
theorem o_ldc2 (X : Stand p l e R s m args below meth c T locs cells slots) (hx : p.tables.exec = Jvm.exec) (hby : c.code = code) {own : String} {index : Nat} {v : Int64} (hown : s.vm.findClass own = some m.cls) (hc : (Cond.constantLong own index v).before args s = true) (hd : own_at code pc (.ldc2_w index) 3 pc')
    (h : own_Fin p.tables e below Rr (T.setTop (mkF m pc' Ls (.long v :: st)))) : own_Fin p.tables e below Rr (T.setTop (mkF m pc Ls st)) := by
  obtain ⟨hd, rfl⟩ := hd; subst hby
  exact own_pre (fun t k => X.ldc2Long hx hown hc (g := mkF m pc Ls st) rfl hd t k) h
end Steps1

end New
end Jvm.RoadKit
namespace Jvm.Pilot.@@N@@
open Jvm Jvm.ClassFile Sem Op Lib Jvm.Free Jvm.Stand Jvm.LawKit Jvm.RoadKit Bundle Jvm.Pilot.@@N@@.Jvm.D
theorem own_wd {Z : State} {a0 : Array Value} (hw : ∀ d ∈ tables_1, d.before a0 Z = true) {i : Nat} {d : Jvm.Cond} (h : tables_1[i]? = some d) : d.before a0 Z = true := hw _ (List.mem_of_getElem? h)
def own_Q0 (n0 : Nat) (v : Option Value) (h : Heap) (L : List Loc) : Prop := v = some (.int 1) ∧ Fr n0 L
def own_plus (a b : Int64) : Int64 := if ((9223372036854775807 : Int64) - b) < a then (9223372036854775807 : Int64) else a + b
theorem own_nn (x : Int64) : ¬ ((x &&& (9223372036854775807 : Int64)) < (0 : Int64)) := by
  have e1 : (x &&& (9223372036854775807 : Int64)).toInt = x.toInt % 2 ^ 63 := Jvm.Kit.i64_mask x (9223372036854775807 : Int64) (k := 63) (by decide) (by decide)
  rw [Int64.lt_iff_toInt_lt, e1]
  have : (0 : Int64).toInt = 0 := rfl
  omega
theorem own_pl {a b : Int64} (pa : ¬ a < (0 : Int64)) (pb : ¬ b < (0 : Int64)) : own_plus a b = if a + b < (0 : Int64) then (9223372036854775807 : Int64) else a + b := by
  have k0 : (0 : Int64).toInt = 0 := rfl
  have kM : (9223372036854775807 : Int64).toInt = 2 ^ 63 - 1 := rfl
  have b1 := a.toInt_lt
  have b2 := b.toInt_lt
  rw [Int64.lt_iff_toInt_lt, k0] at pa pb
  have e1 : ((9223372036854775807 : Int64) - b).toInt = 2 ^ 63 - 1 - b.toInt := by rw [Jvm.Kit.i64_sub (by omega) (by omega), kM]
  have e2 : (a + b).toInt = (a.toInt + b.toInt).bmod (2 ^ 64) := Int64.toInt_add a b
  rw [own_plus]
  by_cases h : a.toInt + b.toInt < 2 ^ 63
  · rw [Int.bmod_eq_of_le (by omega) (by omega)] at e2
    rw [if_neg (by rw [Int64.lt_iff_toInt_lt, e1]; omega), if_neg (by rw [Int64.lt_iff_toInt_lt, e2, k0]; omega)]
  · have e3 : (a.toInt + b.toInt).bmod (2 ^ 64) = a.toInt + b.toInt - 2 ^ 64 := by
      rw [Int.bmod_def]; omega
    rw [if_pos (by rw [Int64.lt_iff_toInt_lt, e1]; omega), if_pos (by rw [Int64.lt_iff_toInt_lt, e2, e3, k0]; omega)]
theorem D1_0 : own_at prog_104_method_11_code 0 (.lload_n 0) 1 1 := ⟨by decide +kernel, rfl⟩
theorem D1_1 : own_at prog_104_method_11_code 1 (.ldc2_w 155) 3 4 := ⟨by decide +kernel, rfl⟩
theorem D1_4 : own_at prog_104_method_11_code 4 (.lload_n 2) 1 5 := ⟨by decide +kernel, rfl⟩
theorem D1_5 : own_at prog_104_method_11_code 5 (.lsub) 1 6 := ⟨by decide +kernel, rfl⟩
theorem D1_6 : own_at prog_104_method_11_code 6 (.lcmp) 1 7 := ⟨by decide +kernel, rfl⟩
theorem D1_7 : own_at prog_104_method_11_code 7 (.ifCond .le 9) 3 10 := ⟨by decide +kernel, rfl⟩
theorem D1_10 : own_at prog_104_method_11_code 10 (.ldc2_w 155) 3 13 := ⟨by decide +kernel, rfl⟩
theorem D1_13 : own_at prog_104_method_11_code 13 (.goto 6) 3 16 := ⟨by decide +kernel, rfl⟩
theorem D1_16 : own_at prog_104_method_11_code 16 (.lload_n 0) 1 17 := ⟨by decide +kernel, rfl⟩
theorem D1_17 : own_at prog_104_method_11_code 17 (.lload_n 2) 1 18 := ⟨by decide +kernel, rfl⟩
theorem D1_18 : own_at prog_104_method_11_code 18 (.ladd) 1 19 := ⟨by decide +kernel, rfl⟩
theorem D1_19 : own_at prog_104_method_11_code 19 (.lreturn) 1 20 := ⟨by decide +kernel, rfl⟩
theorem pn_com_example_ostraval_ostraval_Table : plainName "com/example/ostraval/ostraval/Table" = true := by first | (simp [plainName, overriddenIn]; done) | decide +kernel
theorem ef_rm1 (m : MethodId) (p0 : Int64) (p1 : Int64) : entryFrame m #[(.long p0), (.long p1)] 4 = mkF m 0 #[.val (.long p0), .second, .val (.long p1), .second] [] := by first | (simp [entryFrame, mkF, argsToLocals, Value.category]; done) | rfl
set_option maxRecDepth 65536 in
set_option maxHeartbeats 40000000 in
theorem rm1 (l : Launch) (Z : State) (a0 : Array Value) (hw : ∀ d ∈ tables_1, d.before a0 Z = true) (ws : List Jvm.Cond) (p0 : Int64) (p1 : Int64)  (h0 : Heap) (n0 : Nat) (Z0 : n0 ≤ h0.size)  :
    MetFree l (⟨"com/example/ostraval/ostraval/Table", "plus", "(JJ)J"⟩ : MethodName) (head1 (Jvm.Cond.code (⟨"com/example/ostraval/ostraval/Table", "plus", "(JJ)J"⟩ : MethodName) prog_104_method_11_code 4 (some .long) :: ws) ({ frames := 0, cells := 0, slots := 0, locals := 0 } : Room)) (fun a U => a = #[(.long p0), (.long p1)] ∧ Z.Warmed39 U.vm ∧ U.heap = h0) (fun _ _ _ _ _ => True) (fun _ U o U' => ∃ v L, o = .returned v ∧ own_QP (.long (own_plus p0 p1)) h0 n0 v U'.heap L ∧ FrameEnd U o U' L ({ frames := 0, cells := 0, slots := 0, locals := 0 } : Room).cells ({ frames := 0, cells := 0, slots := 0, locals := 0 } : Room).slots) := by
  refine MetFree.of_bodySF (plainFor_of_name pn_com_example_ostraval_ostraval_Table) hisR ?_
  intro p e s m args below meth c s₁ Bd hml0 hP hK
  obtain ⟨rfl, hZ, hh⟩ := hP
  have hx := Bd.exec
  have hby := Bd.bytes
  have hml : c.maxLocals = 4 := hml0
  have hown : s.vm.findClass "com/example/ostraval/ostraval/Table" = some m.cls := findClass_of_methodNamed Bd.named
  have hnm := (name_of_methodNamed Bd.named Bd.method).1
  have X0 : Stand p l e ({ frames := 0, cells := 0, slots := 0, locals := 0 } : Room) s m #[(.long p0), (.long p1)] below meth c s₁ [] 0 0 := Stand.of_body Bd
  have e0 : s₁.heap = h0 := by rw [← hh, Bd.state]; rfl
  have N0 := Fr.nil n0
  refine own_start (ef_rm1 m p0 p1) ?_
  refine o_lloadN X0 hx hby D1_0 rfl ?_
  refine o_ldc2 X0 hx hby hown (mvT hZ (own_wd hw (i := 5) rfl)) D1_1 ?_
  refine o_lloadN X0 hx hby D1_4 rfl ?_
  refine o_lsub X0 hx hby D1_5 ?_
  refine o_lcmp X0 hx hby D1_6 ?_
  by_cases hc7_1 : ((9223372036854775807 : Int64) - p1) < p0
  · skip
    refine o_ifN X0 hx hby D1_7 ((if0 _ _).trans (tlt ((lw_gt p0 ((9223372036854775807 : Int64) - p1)).mpr hc7_1)).2.2.2) ?_
    refine o_ldc2 X0 hx hby hown (mvT hZ (own_wd hw (i := 5) rfl)) D1_10 ?_
    refine o_goto X0 hx hby D1_13 (q := 19) (by decide) (by decide) ?_
    exact own_ret (v := some (.long (9223372036854775807 : Int64))) X0 (fun h => by first | rfl | (rw [Bd.returns] at h; cases h)) (BodyLoose.notSynchronized Bd) (by decide) (by decide) (⟨by rw [own_plus, if_pos hc7_1], N0, e0⟩) (fun fs hr => X0.lreturnOut hx Bd.returns (hb hby D1_19.1) hr)
  · skip
    refine o_ifY X0 hx hby D1_7 ((if0 _ _).trans (flt (fun q => hc7_1 ((lw_gt p0 ((9223372036854775807 : Int64) - p1)).mp q))).2.2.2) (q := 16) (by decide) (by decide) ?_
    refine o_lloadN X0 hx hby D1_16 rfl ?_
    refine o_lloadN X0 hx hby D1_17 rfl ?_
    refine o_ladd X0 hx hby D1_18 ?_
    exact own_ret (v := some (.long (p0 + p1))) X0 (fun h => by first | rfl | (rw [Bd.returns] at h; cases h)) (BodyLoose.notSynchronized Bd) (by decide) (by decide) (⟨by rw [own_plus, if_neg hc7_1], N0, e0⟩) (fun fs hr => X0.lreturnOut hx Bd.returns (hb hby D1_19.1) hr)
theorem pd__40JJ_41J : parseMethodDescriptor "(JJ)J" = some ⟨[.long, .long], some .long⟩ := by decide +kernel
theorem D0_0 : own_at code 0 (.lload_n 0) 1 1 := ⟨at_0, rfl⟩
theorem D0_1 : own_at code 1 (.ldc2_w 9) 3 4 := ⟨at_1, rfl⟩
theorem D0_4 : own_at code 4 (.land) 1 5 := ⟨at_4, rfl⟩
theorem D0_5 : own_at code 5 (.lstore 6) 2 7 := ⟨at_5, rfl⟩
theorem D0_7 : own_at code 7 (.iload 4) 2 9 := ⟨at_7, rfl⟩
theorem D0_9 : own_at code 9 (.iconst 1) 1 10 := ⟨at_9, rfl⟩
theorem D0_10 : own_at code 10 (.iand) 1 11 := ⟨at_10, rfl⟩
theorem D0_11 : own_at code 11 (.ifCond .eq 26) 3 14 := ⟨at_11, rfl⟩
theorem D0_14 : own_at code 14 (.ldc2_w 9) 3 17 := ⟨at_14, rfl⟩
theorem D0_17 : own_at code 17 (.lload 6) 2 19 := ⟨at_17, rfl⟩
theorem D0_19 : own_at code 19 (.lsub) 1 20 := ⟨at_19, rfl⟩
theorem D0_20 : own_at code 20 (.iload 5) 2 22 := ⟨at_20, rfl⟩
theorem D0_22 : own_at code 22 (.iconst 3) 1 23 := ⟨at_22, rfl⟩
theorem D0_23 : own_at code 23 (.iand) 1 24 := ⟨at_23, rfl⟩
theorem D0_24 : own_at code 24 (.iconst 1) 1 25 := ⟨at_24, rfl⟩
theorem D0_25 : own_at code 25 (.isub) 1 26 := ⟨at_25, rfl⟩
theorem D0_26 : own_at code 26 (.i2l) 1 27 := ⟨at_26, rfl⟩
theorem D0_27 : own_at code 27 (.ladd) 1 28 := ⟨at_27, rfl⟩
theorem D0_28 : own_at code 28 (.ldc2_w 9) 3 31 := ⟨at_28, rfl⟩
theorem D0_31 : own_at code 31 (.land) 1 32 := ⟨at_31, rfl⟩
theorem D0_32 : own_at code 32 (.lstore 8) 2 34 := ⟨at_32, rfl⟩
theorem D0_34 : own_at code 34 (.goto 10) 3 37 := ⟨at_34, rfl⟩
theorem D0_37 : own_at code 37 (.lload_n 2) 1 38 := ⟨at_37, rfl⟩
theorem D0_38 : own_at code 38 (.ldc2_w 9) 3 41 := ⟨at_38, rfl⟩
theorem D0_41 : own_at code 41 (.land) 1 42 := ⟨at_41, rfl⟩
theorem D0_42 : own_at code 42 (.lstore 8) 2 44 := ⟨at_42, rfl⟩
theorem D0_44 : own_at code 44 (.iload 4) 2 46 := ⟨at_44, rfl⟩
theorem D0_46 : own_at code 46 (.iconst 2) 1 47 := ⟨at_46, rfl⟩
theorem D0_47 : own_at code 47 (.iand) 1 48 := ⟨at_47, rfl⟩
theorem D0_48 : own_at code 48 (.ifCond .eq 15) 3 51 := ⟨at_48, rfl⟩
theorem D0_51 : own_at code 51 (.lload 6) 2 53 := ⟨at_51, rfl⟩
theorem D0_53 : own_at code 53 (.lstore 10) 2 55 := ⟨at_53, rfl⟩
theorem D0_55 : own_at code 55 (.lload 8) 2 57 := ⟨at_55, rfl⟩
theorem D0_57 : own_at code 57 (.lstore 6) 2 59 := ⟨at_57, rfl⟩
theorem D0_59 : own_at code 59 (.lload 10) 2 61 := ⟨at_59, rfl⟩
theorem D0_61 : own_at code 61 (.lstore 8) 2 63 := ⟨at_61, rfl⟩
theorem D0_63 : own_at code 63 (.lload 6) 2 65 := ⟨at_63, rfl⟩
theorem D0_65 : own_at code 65 (.lload 8) 2 67 := ⟨at_65, rfl⟩
theorem D0_67 : own_at code 67 (.ladd) 1 68 := ⟨at_67, rfl⟩
theorem D0_68 : own_at code 68 (.lstore 10) 2 70 := ⟨at_68, rfl⟩
theorem D0_70 : own_at code 70 (.lload 10) 2 72 := ⟨at_70, rfl⟩
theorem D0_72 : own_at code 72 (.lconst 0) 1 73 := ⟨at_72, rfl⟩
theorem D0_73 : own_at code 73 (.lcmp) 1 74 := ⟨at_73, rfl⟩
theorem D0_74 : own_at code 74 (.ifCond .ge 9) 3 77 := ⟨at_74, rfl⟩
theorem D0_77 : own_at code 77 (.ldc2_w 9) 3 80 := ⟨at_77, rfl⟩
theorem D0_80 : own_at code 80 (.goto 5) 3 83 := ⟨at_80, rfl⟩
theorem D0_83 : own_at code 83 (.lload 10) 2 85 := ⟨at_83, rfl⟩
theorem D0_85 : own_at code 85 (.lstore 12) 2 87 := ⟨at_85, rfl⟩
theorem D0_87 : own_at code 87 (.lload 6) 2 89 := ⟨at_87, rfl⟩
theorem D0_89 : own_at code 89 (.lload 8) 2 91 := ⟨at_89, rfl⟩
theorem D0_91 : own_at code 91 (.invokestatic 11) 3 94 := ⟨at_91, rfl⟩
theorem D0_94 : own_at code 94 (.lload 12) 2 96 := ⟨at_94, rfl⟩
theorem D0_96 : own_at code 96 (.lcmp) 1 97 := ⟨at_96, rfl⟩
theorem D0_97 : own_at code 97 (.ifCond .ne 7) 3 100 := ⟨at_97, rfl⟩
theorem D0_100 : own_at code 100 (.iconst 1) 1 101 := ⟨at_100, rfl⟩
theorem D0_101 : own_at code 101 (.goto 4) 3 104 := ⟨at_101, rfl⟩
theorem D0_105 : own_at code 105 (.ireturn) 1 106 := ⟨at_105, rfl⟩
theorem pn_com_example_ostraval_ostraval_TablePlusPinLaw : plainName "com/example/ostraval/ostraval/TablePlusPinLaw" = true := by first | (simp [plainName, overriddenIn]; done) | decide +kernel
theorem ef_rm0 (m : MethodId) (p0 : Int64) (p1 : Int64) (p2 : Int32) (p3 : Int32) : entryFrame m #[(.long p0), (.long p1), (.int p2), (.int p3)] maxLocals = mkF m 0 #[.val (.long p0), .second, .val (.long p1), .second, .val (.int p2), .val (.int p3), .unset, .unset, .unset, .unset, .unset, .unset, .unset, .unset] [] := by first | (simp [entryFrame, mkF, argsToLocals, Value.category, maxLocals]; done) | rfl
set_option maxRecDepth 65536 in
set_option maxHeartbeats 40000000 in
theorem rm0 (l : Launch) (Z : State) (a0 : Array Value) (hw : ∀ d ∈ tables_1, d.before a0 Z = true) (ws : List Jvm.Cond) (p0 : Int64) (p1 : Int64) (p2 : Int32) (p3 : Int32)  (h0 : Heap) (n0 : Nat) (Z0 : n0 ≤ h0.size)  :
    MetFree l x (head1 (Jvm.Cond.code x code maxLocals ret :: ws) room_1) (fun a U => a = #[(.long p0), (.long p1), (.int p2), (.int p3)] ∧ Z.Warmed39 U.vm ∧ U.heap = h0) (fun _ _ _ _ _ => True) (fun _ U o U' => ∃ v L, o = .returned v ∧ own_Q0 n0 v U'.heap L ∧ FrameEnd U o U' L room_1.cells room_1.slots) := by
  refine MetFree.of_bodySF (plainFor_of_name pn_com_example_ostraval_ostraval_TablePlusPinLaw) hisR ?_
  intro p e s m args below meth c s₁ Bd hml0 hP hK
  obtain ⟨rfl, hZ, hh⟩ := hP
  have hx := Bd.exec
  have hby := Bd.bytes
  have hml : c.maxLocals = 14 := hml0
  have hown : s.vm.findClass "com/example/ostraval/ostraval/TablePlusPinLaw" = some m.cls := findClass_of_methodNamed Bd.named
  have hnm := (name_of_methodNamed Bd.named Bd.method).1
  have X0 : Stand p l e room_1 s m #[(.long p0), (.long p1), (.int p2), (.int p3)] below meth c s₁ [] 0 0 := Stand.of_body Bd
  have e0 : s₁.heap = h0 := by rw [← hh, Bd.state]; rfl
  have N0 := Fr.nil n0
  refine own_start (ef_rm0 m p0 p1 p2 p3) ?_
  refine o_lloadN X0 hx hby D0_0 rfl ?_
  refine o_ldc2 X0 hx hby hown (mvT hZ (own_wd hw (i := 0) rfl)) D0_1 ?_
  refine o_land X0 hx hby D0_4 ?_
  refine o_lstore X0 hx hby D0_5 (l' := #[.val (.long p0), .second, .val (.long p1), .second, .val (.int p2), .val (.int p3), .val (.long (p0 &&& (9223372036854775807 : Int64))), .second, .unset, .unset, .unset, .unset, .unset, .unset]) rfl ?_
  generalize hav : (p0 &&& (9223372036854775807 : Int64)) = av
  have pav : ¬ (av < (0 : Int64)) := by rw [← hav]; exact own_nn _
  refine o_iload X0 hx hby D0_7 rfl ?_
  refine o_iconst X0 hx hby D0_9 (v := 1) rfl ?_
  refine o_iand X0 hx hby D0_10 ?_
  by_cases hc11_1 : (p2 &&& (1 : Int32)) = (0 : Int32)
  · skip
    refine o_ifY X0 hx hby D0_11 ((if0 _ _).trans (teq hc11_1).1) (q := 37) (by decide) (by decide) ?_
    refine o_lloadN X0 hx hby D0_37 rfl ?_
    refine o_ldc2 X0 hx hby hown (mvT hZ (own_wd hw (i := 0) rfl)) D0_38 ?_
    refine o_land X0 hx hby D0_41 ?_
    refine o_lstore X0 hx hby D0_42 (l' := #[.val (.long p0), .second, .val (.long p1), .second, .val (.int p2), .val (.int p3), .val (.long av), .second, .val (.long (p1 &&& (9223372036854775807 : Int64))), .second, .unset, .unset, .unset, .unset]) rfl ?_
    generalize hbv : (p1 &&& (9223372036854775807 : Int64)) = bv
    have pbv : ¬ (bv < (0 : Int64)) := by rw [← hbv]; exact own_nn _
    refine o_iload X0 hx hby D0_44 rfl ?_
    refine o_iconst X0 hx hby D0_46 (v := 2) rfl ?_
    refine o_iand X0 hx hby D0_47 ?_
    by_cases hc48_2 : (p2 &&& (2 : Int32)) = (0 : Int32)
    · skip
      refine o_ifY X0 hx hby D0_48 ((if0 _ _).trans (teq hc48_2).1) (q := 63) (by decide) (by decide) ?_
      refine o_lload X0 hx hby D0_63 rfl ?_
      refine o_lload X0 hx hby D0_65 rfl ?_
      refine o_ladd X0 hx hby D0_67 ?_
      refine o_lstore X0 hx hby D0_68 (l' := #[.val (.long p0), .second, .val (.long p1), .second, .val (.int p2), .val (.int p3), .val (.long av), .second, .val (.long bv), .second, .val (.long (av + bv)), .second, .unset, .unset]) rfl ?_
      refine o_lload X0 hx hby D0_70 rfl ?_
      refine o_lconst X0 hx hby D0_72 (v := 0) rfl ?_
      refine o_lcmp X0 hx hby D0_73 ?_
      by_cases hc74_3 : (av + bv) < (0 : Int64)
      · skip
        refine o_ifN X0 hx hby D0_74 ((if0 _ _).trans (tlt ((lw_lt (av + bv) (0 : Int64)).mpr hc74_3)).2.1) ?_
        refine o_ldc2 X0 hx hby hown (mvT hZ (own_wd hw (i := 0) rfl)) D0_77 ?_
        refine o_goto X0 hx hby D0_80 (q := 85) (by decide) (by decide) ?_
        refine o_lstore X0 hx hby D0_85 (l' := #[.val (.long p0), .second, .val (.long p1), .second, .val (.int p2), .val (.int p3), .val (.long av), .second, .val (.long bv), .second, .val (.long (av + bv)), .second, .val (.long (9223372036854775807 : Int64)), .second]) rfl ?_
        refine o_lload X0 hx hby D0_87 rfl ?_
        refine o_lload X0 hx hby D0_89 rfl ?_
        obtain ⟨_, _, ⟨T4, L4, k4, n4⟩, -, X4, ⟨Lc4, hQ4, l4, y4, z4⟩, st4⟩ := Jvm.LawKit.callS X0 hx (y := (⟨"com/example/ostraval/ostraval/Table", "plus", "(JJ)J"⟩ : MethodName)) hown (mvT hZ (own_wd hw (i := 1) rfl)) (mvT hZ (own_wd hw (i := 2) rfl)) (mvT hZ (own_wd hw (i := 3) rfl)) (mvT hZ (own_wd hw (i := 4) rfl)) (by decide) (backOf (W := 0) (rm1 l Z a0 hw [] av bv  h0 n0 Z0 ) hZ (own_wd hw (i := 4) rfl) (own_wd hw (i := 3) rfl) (by decide) (by decide)) (g := (mkF m 91 #[.val (.long p0), .second, .val (.long p1), .second, .val (.int p2), .val (.int p3), .val (.long av), .second, .val (.long bv), .second, .val (.long (av + bv)), .second, .val (.long (9223372036854775807 : Int64)), .second] [(.long bv), (.long av)])) rfl (by rw [hml]; rfl) (argsL := [(.long av), (.long bv)]) (rest := []) (lenOf pd__40JJ_41J rfl) rfl (by show 2 * 0 + _ ≤ _; exact Nat.le_of_eq rfl) (hb hby D0_91.1) (fun _ _ => ⟨rfl, e0, (by decide : 0 + 0 ≤ _), (by decide : 0 + 0 ≤ _)⟩)
        dsimp only [Pt.U, Pt.locs, Pt.cells, Pt.slots] at X4 l4 y4 z4 st4 hQ4
        subst l4 y4 z4
        obtain ⟨rfl, N4q, e4⟩ := hQ4
        have N4 := Fr.app N0 N4q
        refine own_pre (A' := T4.setTop (mkF m 94 #[.val (.long p0), .second, .val (.long p1), .second, .val (.int p2), .val (.int p3), .val (.long av), .second, .val (.long bv), .second, .val (.long (av + bv)), .second, .val (.long (9223372036854775807 : Int64)), .second] [(.long (own_plus av bv))])) st4 ?_
        refine o_lload X4 hx hby D0_94 rfl ?_
        refine o_lcmp X4 hx hby D0_96 ?_
        refine o_ifN X4 hx hby D0_97 ((if0 _ _).trans (teq ((lw_eq (own_plus av bv) (9223372036854775807 : Int64)).mpr (by rw [own_pl pav pbv, if_pos hc74_3] : (own_plus av bv) = (9223372036854775807 : Int64)))).2) ?_
        refine o_iconst X4 hx hby D0_100 (v := 1) rfl ?_
        refine o_goto X4 hx hby D0_101 (q := 105) (by decide) (by decide) ?_
        exact own_ret (v := some (.int (1 : Int32))) X4 (fun h => by first | rfl | (rw [Bd.returns] at h; cases h)) (BodyLoose.notSynchronized Bd) (by decide) (by decide) (⟨rfl, N4⟩) (fun fs hr => retN X4 hx (t := .boolean) Bd.returns (by simp) (hb hby D0_105.1) hr)
      · skip
        refine o_ifY X0 hx hby D0_74 ((if0 _ _).trans (flt (fun q => hc74_3 ((lw_lt (av + bv) (0 : Int64)).mp q))).2.1) (q := 83) (by decide) (by decide) ?_
        refine o_lload X0 hx hby D0_83 rfl ?_
        refine o_lstore X0 hx hby D0_85 (l' := #[.val (.long p0), .second, .val (.long p1), .second, .val (.int p2), .val (.int p3), .val (.long av), .second, .val (.long bv), .second, .val (.long (av + bv)), .second, .val (.long (av + bv)), .second]) rfl ?_
        refine o_lload X0 hx hby D0_87 rfl ?_
        refine o_lload X0 hx hby D0_89 rfl ?_
        obtain ⟨_, _, ⟨T5, L5, k5, n5⟩, -, X5, ⟨Lc5, hQ5, l5, y5, z5⟩, st5⟩ := Jvm.LawKit.callS X0 hx (y := (⟨"com/example/ostraval/ostraval/Table", "plus", "(JJ)J"⟩ : MethodName)) hown (mvT hZ (own_wd hw (i := 1) rfl)) (mvT hZ (own_wd hw (i := 2) rfl)) (mvT hZ (own_wd hw (i := 3) rfl)) (mvT hZ (own_wd hw (i := 4) rfl)) (by decide) (backOf (W := 0) (rm1 l Z a0 hw [] av bv  h0 n0 Z0 ) hZ (own_wd hw (i := 4) rfl) (own_wd hw (i := 3) rfl) (by decide) (by decide)) (g := (mkF m 91 #[.val (.long p0), .second, .val (.long p1), .second, .val (.int p2), .val (.int p3), .val (.long av), .second, .val (.long bv), .second, .val (.long (av + bv)), .second, .val (.long (av + bv)), .second] [(.long bv), (.long av)])) rfl (by rw [hml]; rfl) (argsL := [(.long av), (.long bv)]) (rest := []) (lenOf pd__40JJ_41J rfl) rfl (by show 2 * 0 + _ ≤ _; exact Nat.le_of_eq rfl) (hb hby D0_91.1) (fun _ _ => ⟨rfl, e0, (by decide : 0 + 0 ≤ _), (by decide : 0 + 0 ≤ _)⟩)
        dsimp only [Pt.U, Pt.locs, Pt.cells, Pt.slots] at X5 l5 y5 z5 st5 hQ5
        subst l5 y5 z5
        obtain ⟨rfl, N5q, e5⟩ := hQ5
        have N5 := Fr.app N0 N5q
        refine own_pre (A' := T5.setTop (mkF m 94 #[.val (.long p0), .second, .val (.long p1), .second, .val (.int p2), .val (.int p3), .val (.long av), .second, .val (.long bv), .second, .val (.long (av + bv)), .second, .val (.long (av + bv)), .second] [(.long (own_plus av bv))])) st5 ?_
        refine o_lload X5 hx hby D0_94 rfl ?_
        refine o_lcmp X5 hx hby D0_96 ?_
        refine o_ifN X5 hx hby D0_97 ((if0 _ _).trans (teq ((lw_eq (own_plus av bv) (av + bv)).mpr (by rw [own_pl pav pbv, if_neg hc74_3] : (own_plus av bv) = (av + bv)))).2) ?_
        refine o_iconst X5 hx hby D0_100 (v := 1) rfl ?_
        refine o_goto X5 hx hby D0_101 (q := 105) (by decide) (by decide) ?_
        exact own_ret (v := some (.int (1 : Int32))) X5 (fun h => by first | rfl | (rw [Bd.returns] at h; cases h)) (BodyLoose.notSynchronized Bd) (by decide) (by decide) (⟨rfl, N5⟩) (fun fs hr => retN X5 hx (t := .boolean) Bd.returns (by simp) (hb hby D0_105.1) hr)
    · skip
      refine o_ifN X0 hx hby D0_48 ((if0 _ _).trans (feq hc48_2).1) ?_
      refine o_lload X0 hx hby D0_51 rfl ?_
      refine o_lstore X0 hx hby D0_53 (l' := #[.val (.long p0), .second, .val (.long p1), .second, .val (.int p2), .val (.int p3), .val (.long av), .second, .val (.long bv), .second, .val (.long av), .second, .unset, .unset]) rfl ?_
      refine o_lload X0 hx hby D0_55 rfl ?_
      refine o_lstore X0 hx hby D0_57 (l' := #[.val (.long p0), .second, .val (.long p1), .second, .val (.int p2), .val (.int p3), .val (.long bv), .second, .val (.long bv), .second, .val (.long av), .second, .unset, .unset]) rfl ?_
      refine o_lload X0 hx hby D0_59 rfl ?_
      refine o_lstore X0 hx hby D0_61 (l' := #[.val (.long p0), .second, .val (.long p1), .second, .val (.int p2), .val (.int p3), .val (.long bv), .second, .val (.long av), .second, .val (.long av), .second, .unset, .unset]) rfl ?_
      refine o_lload X0 hx hby D0_63 rfl ?_
      refine o_lload X0 hx hby D0_65 rfl ?_
      refine o_ladd X0 hx hby D0_67 ?_
      refine o_lstore X0 hx hby D0_68 (l' := #[.val (.long p0), .second, .val (.long p1), .second, .val (.int p2), .val (.int p3), .val (.long bv), .second, .val (.long av), .second, .val (.long (bv + av)), .second, .unset, .unset]) rfl ?_
      refine o_lload X0 hx hby D0_70 rfl ?_
      refine o_lconst X0 hx hby D0_72 (v := 0) rfl ?_
      refine o_lcmp X0 hx hby D0_73 ?_
      by_cases hc74_6 : (bv + av) < (0 : Int64)
      · skip
        refine o_ifN X0 hx hby D0_74 ((if0 _ _).trans (tlt ((lw_lt (bv + av) (0 : Int64)).mpr hc74_6)).2.1) ?_
        refine o_ldc2 X0 hx hby hown (mvT hZ (own_wd hw (i := 0) rfl)) D0_77 ?_
        refine o_goto X0 hx hby D0_80 (q := 85) (by decide) (by decide) ?_
        refine o_lstore X0 hx hby D0_85 (l' := #[.val (.long p0), .second, .val (.long p1), .second, .val (.int p2), .val (.int p3), .val (.long bv), .second, .val (.long av), .second, .val (.long (bv + av)), .second, .val (.long (9223372036854775807 : Int64)), .second]) rfl ?_
        refine o_lload X0 hx hby D0_87 rfl ?_
        refine o_lload X0 hx hby D0_89 rfl ?_
        obtain ⟨_, _, ⟨T7, L7, k7, n7⟩, -, X7, ⟨Lc7, hQ7, l7, y7, z7⟩, st7⟩ := Jvm.LawKit.callS X0 hx (y := (⟨"com/example/ostraval/ostraval/Table", "plus", "(JJ)J"⟩ : MethodName)) hown (mvT hZ (own_wd hw (i := 1) rfl)) (mvT hZ (own_wd hw (i := 2) rfl)) (mvT hZ (own_wd hw (i := 3) rfl)) (mvT hZ (own_wd hw (i := 4) rfl)) (by decide) (backOf (W := 0) (rm1 l Z a0 hw [] bv av  h0 n0 Z0 ) hZ (own_wd hw (i := 4) rfl) (own_wd hw (i := 3) rfl) (by decide) (by decide)) (g := (mkF m 91 #[.val (.long p0), .second, .val (.long p1), .second, .val (.int p2), .val (.int p3), .val (.long bv), .second, .val (.long av), .second, .val (.long (bv + av)), .second, .val (.long (9223372036854775807 : Int64)), .second] [(.long av), (.long bv)])) rfl (by rw [hml]; rfl) (argsL := [(.long bv), (.long av)]) (rest := []) (lenOf pd__40JJ_41J rfl) rfl (by show 2 * 0 + _ ≤ _; exact Nat.le_of_eq rfl) (hb hby D0_91.1) (fun _ _ => ⟨rfl, e0, (by decide : 0 + 0 ≤ _), (by decide : 0 + 0 ≤ _)⟩)
        dsimp only [Pt.U, Pt.locs, Pt.cells, Pt.slots] at X7 l7 y7 z7 st7 hQ7
        subst l7 y7 z7
        obtain ⟨rfl, N7q, e7⟩ := hQ7
        have N7 := Fr.app N0 N7q
        refine own_pre (A' := T7.setTop (mkF m 94 #[.val (.long p0), .second, .val (.long p1), .second, .val (.int p2), .val (.int p3), .val (.long bv), .second, .val (.long av), .second, .val (.long (bv + av)), .second, .val (.long (9223372036854775807 : Int64)), .second] [(.long (own_plus bv av))])) st7 ?_
        refine o_lload X7 hx hby D0_94 rfl ?_
        refine o_lcmp X7 hx hby D0_96 ?_
        refine o_ifN X7 hx hby D0_97 ((if0 _ _).trans (teq ((lw_eq (own_plus bv av) (9223372036854775807 : Int64)).mpr (by rw [own_pl pbv pav, if_pos hc74_6] : (own_plus bv av) = (9223372036854775807 : Int64)))).2) ?_
        refine o_iconst X7 hx hby D0_100 (v := 1) rfl ?_
        refine o_goto X7 hx hby D0_101 (q := 105) (by decide) (by decide) ?_
        exact own_ret (v := some (.int (1 : Int32))) X7 (fun h => by first | rfl | (rw [Bd.returns] at h; cases h)) (BodyLoose.notSynchronized Bd) (by decide) (by decide) (⟨rfl, N7⟩) (fun fs hr => retN X7 hx (t := .boolean) Bd.returns (by simp) (hb hby D0_105.1) hr)
      · skip
        refine o_ifY X0 hx hby D0_74 ((if0 _ _).trans (flt (fun q => hc74_6 ((lw_lt (bv + av) (0 : Int64)).mp q))).2.1) (q := 83) (by decide) (by decide) ?_
        refine o_lload X0 hx hby D0_83 rfl ?_
        refine o_lstore X0 hx hby D0_85 (l' := #[.val (.long p0), .second, .val (.long p1), .second, .val (.int p2), .val (.int p3), .val (.long bv), .second, .val (.long av), .second, .val (.long (bv + av)), .second, .val (.long (bv + av)), .second]) rfl ?_
        refine o_lload X0 hx hby D0_87 rfl ?_
        refine o_lload X0 hx hby D0_89 rfl ?_
        obtain ⟨_, _, ⟨T8, L8, k8, n8⟩, -, X8, ⟨Lc8, hQ8, l8, y8, z8⟩, st8⟩ := Jvm.LawKit.callS X0 hx (y := (⟨"com/example/ostraval/ostraval/Table", "plus", "(JJ)J"⟩ : MethodName)) hown (mvT hZ (own_wd hw (i := 1) rfl)) (mvT hZ (own_wd hw (i := 2) rfl)) (mvT hZ (own_wd hw (i := 3) rfl)) (mvT hZ (own_wd hw (i := 4) rfl)) (by decide) (backOf (W := 0) (rm1 l Z a0 hw [] bv av  h0 n0 Z0 ) hZ (own_wd hw (i := 4) rfl) (own_wd hw (i := 3) rfl) (by decide) (by decide)) (g := (mkF m 91 #[.val (.long p0), .second, .val (.long p1), .second, .val (.int p2), .val (.int p3), .val (.long bv), .second, .val (.long av), .second, .val (.long (bv + av)), .second, .val (.long (bv + av)), .second] [(.long av), (.long bv)])) rfl (by rw [hml]; rfl) (argsL := [(.long bv), (.long av)]) (rest := []) (lenOf pd__40JJ_41J rfl) rfl (by show 2 * 0 + _ ≤ _; exact Nat.le_of_eq rfl) (hb hby D0_91.1) (fun _ _ => ⟨rfl, e0, (by decide : 0 + 0 ≤ _), (by decide : 0 + 0 ≤ _)⟩)
        dsimp only [Pt.U, Pt.locs, Pt.cells, Pt.slots] at X8 l8 y8 z8 st8 hQ8
        subst l8 y8 z8
        obtain ⟨rfl, N8q, e8⟩ := hQ8
        have N8 := Fr.app N0 N8q
        refine own_pre (A' := T8.setTop (mkF m 94 #[.val (.long p0), .second, .val (.long p1), .second, .val (.int p2), .val (.int p3), .val (.long bv), .second, .val (.long av), .second, .val (.long (bv + av)), .second, .val (.long (bv + av)), .second] [(.long (own_plus bv av))])) st8 ?_
        refine o_lload X8 hx hby D0_94 rfl ?_
        refine o_lcmp X8 hx hby D0_96 ?_
        refine o_ifN X8 hx hby D0_97 ((if0 _ _).trans (teq ((lw_eq (own_plus bv av) (bv + av)).mpr (by rw [own_pl pbv pav, if_neg hc74_6] : (own_plus bv av) = (bv + av)))).2) ?_
        refine o_iconst X8 hx hby D0_100 (v := 1) rfl ?_
        refine o_goto X8 hx hby D0_101 (q := 105) (by decide) (by decide) ?_
        exact own_ret (v := some (.int (1 : Int32))) X8 (fun h => by first | rfl | (rw [Bd.returns] at h; cases h)) (BodyLoose.notSynchronized Bd) (by decide) (by decide) (⟨rfl, N8⟩) (fun fs hr => retN X8 hx (t := .boolean) Bd.returns (by simp) (hb hby D0_105.1) hr)
  · skip
    refine o_ifN X0 hx hby D0_11 ((if0 _ _).trans (feq hc11_1).1) ?_
    refine o_ldc2 X0 hx hby hown (mvT hZ (own_wd hw (i := 0) rfl)) D0_14 ?_
    refine o_lload X0 hx hby D0_17 rfl ?_
    refine o_lsub X0 hx hby D0_19 ?_
    refine o_iload X0 hx hby D0_20 rfl ?_
    refine o_iconst X0 hx hby D0_22 (v := 3) rfl ?_
    refine o_iand X0 hx hby D0_23 ?_
    refine o_iconst X0 hx hby D0_24 (v := 1) rfl ?_
    refine o_isub X0 hx hby D0_25 ?_
    refine o_i2l X0 hx hby D0_26 ?_
    refine o_ladd X0 hx hby D0_27 ?_
    refine o_ldc2 X0 hx hby hown (mvT hZ (own_wd hw (i := 0) rfl)) D0_28 ?_
    refine o_land X0 hx hby D0_31 ?_
    refine o_lstore X0 hx hby D0_32 (l' := #[.val (.long p0), .second, .val (.long p1), .second, .val (.int p2), .val (.int p3), .val (.long av), .second, .val (.long ((((9223372036854775807 : Int64) - av) + ((((p3 &&& (3 : Int32)) - (1 : Int32))).toInt64)) &&& (9223372036854775807 : Int64))), .second, .unset, .unset, .unset, .unset]) rfl ?_
    generalize hbv : ((((9223372036854775807 : Int64) - av) + ((((p3 &&& (3 : Int32)) - (1 : Int32))).toInt64)) &&& (9223372036854775807 : Int64)) = bv
    have pbv : ¬ (bv < (0 : Int64)) := by rw [← hbv]; exact own_nn _
    refine o_goto X0 hx hby D0_34 (q := 44) (by decide) (by decide) ?_
    refine o_iload X0 hx hby D0_44 rfl ?_
    refine o_iconst X0 hx hby D0_46 (v := 2) rfl ?_
    refine o_iand X0 hx hby D0_47 ?_
    by_cases hc48_9 : (p2 &&& (2 : Int32)) = (0 : Int32)
    · skip
      refine o_ifY X0 hx hby D0_48 ((if0 _ _).trans (teq hc48_9).1) (q := 63) (by decide) (by decide) ?_
      refine o_lload X0 hx hby D0_63 rfl ?_
      refine o_lload X0 hx hby D0_65 rfl ?_
      refine o_ladd X0 hx hby D0_67 ?_
      refine o_lstore X0 hx hby D0_68 (l' := #[.val (.long p0), .second, .val (.long p1), .second, .val (.int p2), .val (.int p3), .val (.long av), .second, .val (.long bv), .second, .val (.long (av + bv)), .second, .unset, .unset]) rfl ?_
      refine o_lload X0 hx hby D0_70 rfl ?_
      refine o_lconst X0 hx hby D0_72 (v := 0) rfl ?_
      refine o_lcmp X0 hx hby D0_73 ?_
      by_cases hc74_10 : (av + bv) < (0 : Int64)
      · skip
        refine o_ifN X0 hx hby D0_74 ((if0 _ _).trans (tlt ((lw_lt (av + bv) (0 : Int64)).mpr hc74_10)).2.1) ?_
        refine o_ldc2 X0 hx hby hown (mvT hZ (own_wd hw (i := 0) rfl)) D0_77 ?_
        refine o_goto X0 hx hby D0_80 (q := 85) (by decide) (by decide) ?_
        refine o_lstore X0 hx hby D0_85 (l' := #[.val (.long p0), .second, .val (.long p1), .second, .val (.int p2), .val (.int p3), .val (.long av), .second, .val (.long bv), .second, .val (.long (av + bv)), .second, .val (.long (9223372036854775807 : Int64)), .second]) rfl ?_
        refine o_lload X0 hx hby D0_87 rfl ?_
        refine o_lload X0 hx hby D0_89 rfl ?_
        obtain ⟨_, _, ⟨T11, L11, k11, n11⟩, -, X11, ⟨Lc11, hQ11, l11, y11, z11⟩, st11⟩ := Jvm.LawKit.callS X0 hx (y := (⟨"com/example/ostraval/ostraval/Table", "plus", "(JJ)J"⟩ : MethodName)) hown (mvT hZ (own_wd hw (i := 1) rfl)) (mvT hZ (own_wd hw (i := 2) rfl)) (mvT hZ (own_wd hw (i := 3) rfl)) (mvT hZ (own_wd hw (i := 4) rfl)) (by decide) (backOf (W := 0) (rm1 l Z a0 hw [] av bv  h0 n0 Z0 ) hZ (own_wd hw (i := 4) rfl) (own_wd hw (i := 3) rfl) (by decide) (by decide)) (g := (mkF m 91 #[.val (.long p0), .second, .val (.long p1), .second, .val (.int p2), .val (.int p3), .val (.long av), .second, .val (.long bv), .second, .val (.long (av + bv)), .second, .val (.long (9223372036854775807 : Int64)), .second] [(.long bv), (.long av)])) rfl (by rw [hml]; rfl) (argsL := [(.long av), (.long bv)]) (rest := []) (lenOf pd__40JJ_41J rfl) rfl (by show 2 * 0 + _ ≤ _; exact Nat.le_of_eq rfl) (hb hby D0_91.1) (fun _ _ => ⟨rfl, e0, (by decide : 0 + 0 ≤ _), (by decide : 0 + 0 ≤ _)⟩)
        dsimp only [Pt.U, Pt.locs, Pt.cells, Pt.slots] at X11 l11 y11 z11 st11 hQ11
        subst l11 y11 z11
        obtain ⟨rfl, N11q, e11⟩ := hQ11
        have N11 := Fr.app N0 N11q
        refine own_pre (A' := T11.setTop (mkF m 94 #[.val (.long p0), .second, .val (.long p1), .second, .val (.int p2), .val (.int p3), .val (.long av), .second, .val (.long bv), .second, .val (.long (av + bv)), .second, .val (.long (9223372036854775807 : Int64)), .second] [(.long (own_plus av bv))])) st11 ?_
        refine o_lload X11 hx hby D0_94 rfl ?_
        refine o_lcmp X11 hx hby D0_96 ?_
        refine o_ifN X11 hx hby D0_97 ((if0 _ _).trans (teq ((lw_eq (own_plus av bv) (9223372036854775807 : Int64)).mpr (by rw [own_pl pav pbv, if_pos hc74_10] : (own_plus av bv) = (9223372036854775807 : Int64)))).2) ?_
        refine o_iconst X11 hx hby D0_100 (v := 1) rfl ?_
        refine o_goto X11 hx hby D0_101 (q := 105) (by decide) (by decide) ?_
        exact own_ret (v := some (.int (1 : Int32))) X11 (fun h => by first | rfl | (rw [Bd.returns] at h; cases h)) (BodyLoose.notSynchronized Bd) (by decide) (by decide) (⟨rfl, N11⟩) (fun fs hr => retN X11 hx (t := .boolean) Bd.returns (by simp) (hb hby D0_105.1) hr)
      · skip
        refine o_ifY X0 hx hby D0_74 ((if0 _ _).trans (flt (fun q => hc74_10 ((lw_lt (av + bv) (0 : Int64)).mp q))).2.1) (q := 83) (by decide) (by decide) ?_
        refine o_lload X0 hx hby D0_83 rfl ?_
        refine o_lstore X0 hx hby D0_85 (l' := #[.val (.long p0), .second, .val (.long p1), .second, .val (.int p2), .val (.int p3), .val (.long av), .second, .val (.long bv), .second, .val (.long (av + bv)), .second, .val (.long (av + bv)), .second]) rfl ?_
        refine o_lload X0 hx hby D0_87 rfl ?_
        refine o_lload X0 hx hby D0_89 rfl ?_
        obtain ⟨_, _, ⟨T12, L12, k12, n12⟩, -, X12, ⟨Lc12, hQ12, l12, y12, z12⟩, st12⟩ := Jvm.LawKit.callS X0 hx (y := (⟨"com/example/ostraval/ostraval/Table", "plus", "(JJ)J"⟩ : MethodName)) hown (mvT hZ (own_wd hw (i := 1) rfl)) (mvT hZ (own_wd hw (i := 2) rfl)) (mvT hZ (own_wd hw (i := 3) rfl)) (mvT hZ (own_wd hw (i := 4) rfl)) (by decide) (backOf (W := 0) (rm1 l Z a0 hw [] av bv  h0 n0 Z0 ) hZ (own_wd hw (i := 4) rfl) (own_wd hw (i := 3) rfl) (by decide) (by decide)) (g := (mkF m 91 #[.val (.long p0), .second, .val (.long p1), .second, .val (.int p2), .val (.int p3), .val (.long av), .second, .val (.long bv), .second, .val (.long (av + bv)), .second, .val (.long (av + bv)), .second] [(.long bv), (.long av)])) rfl (by rw [hml]; rfl) (argsL := [(.long av), (.long bv)]) (rest := []) (lenOf pd__40JJ_41J rfl) rfl (by show 2 * 0 + _ ≤ _; exact Nat.le_of_eq rfl) (hb hby D0_91.1) (fun _ _ => ⟨rfl, e0, (by decide : 0 + 0 ≤ _), (by decide : 0 + 0 ≤ _)⟩)
        dsimp only [Pt.U, Pt.locs, Pt.cells, Pt.slots] at X12 l12 y12 z12 st12 hQ12
        subst l12 y12 z12
        obtain ⟨rfl, N12q, e12⟩ := hQ12
        have N12 := Fr.app N0 N12q
        refine own_pre (A' := T12.setTop (mkF m 94 #[.val (.long p0), .second, .val (.long p1), .second, .val (.int p2), .val (.int p3), .val (.long av), .second, .val (.long bv), .second, .val (.long (av + bv)), .second, .val (.long (av + bv)), .second] [(.long (own_plus av bv))])) st12 ?_
        refine o_lload X12 hx hby D0_94 rfl ?_
        refine o_lcmp X12 hx hby D0_96 ?_
        refine o_ifN X12 hx hby D0_97 ((if0 _ _).trans (teq ((lw_eq (own_plus av bv) (av + bv)).mpr (by rw [own_pl pav pbv, if_neg hc74_10] : (own_plus av bv) = (av + bv)))).2) ?_
        refine o_iconst X12 hx hby D0_100 (v := 1) rfl ?_
        refine o_goto X12 hx hby D0_101 (q := 105) (by decide) (by decide) ?_
        exact own_ret (v := some (.int (1 : Int32))) X12 (fun h => by first | rfl | (rw [Bd.returns] at h; cases h)) (BodyLoose.notSynchronized Bd) (by decide) (by decide) (⟨rfl, N12⟩) (fun fs hr => retN X12 hx (t := .boolean) Bd.returns (by simp) (hb hby D0_105.1) hr)
    · skip
      refine o_ifN X0 hx hby D0_48 ((if0 _ _).trans (feq hc48_9).1) ?_
      refine o_lload X0 hx hby D0_51 rfl ?_
      refine o_lstore X0 hx hby D0_53 (l' := #[.val (.long p0), .second, .val (.long p1), .second, .val (.int p2), .val (.int p3), .val (.long av), .second, .val (.long bv), .second, .val (.long av), .second, .unset, .unset]) rfl ?_
      refine o_lload X0 hx hby D0_55 rfl ?_
      refine o_lstore X0 hx hby D0_57 (l' := #[.val (.long p0), .second, .val (.long p1), .second, .val (.int p2), .val (.int p3), .val (.long bv), .second, .val (.long bv), .second, .val (.long av), .second, .unset, .unset]) rfl ?_
      refine o_lload X0 hx hby D0_59 rfl ?_
      refine o_lstore X0 hx hby D0_61 (l' := #[.val (.long p0), .second, .val (.long p1), .second, .val (.int p2), .val (.int p3), .val (.long bv), .second, .val (.long av), .second, .val (.long av), .second, .unset, .unset]) rfl ?_
      refine o_lload X0 hx hby D0_63 rfl ?_
      refine o_lload X0 hx hby D0_65 rfl ?_
      refine o_ladd X0 hx hby D0_67 ?_
      refine o_lstore X0 hx hby D0_68 (l' := #[.val (.long p0), .second, .val (.long p1), .second, .val (.int p2), .val (.int p3), .val (.long bv), .second, .val (.long av), .second, .val (.long (bv + av)), .second, .unset, .unset]) rfl ?_
      refine o_lload X0 hx hby D0_70 rfl ?_
      refine o_lconst X0 hx hby D0_72 (v := 0) rfl ?_
      refine o_lcmp X0 hx hby D0_73 ?_
      by_cases hc74_13 : (bv + av) < (0 : Int64)
      · skip
        refine o_ifN X0 hx hby D0_74 ((if0 _ _).trans (tlt ((lw_lt (bv + av) (0 : Int64)).mpr hc74_13)).2.1) ?_
        refine o_ldc2 X0 hx hby hown (mvT hZ (own_wd hw (i := 0) rfl)) D0_77 ?_
        refine o_goto X0 hx hby D0_80 (q := 85) (by decide) (by decide) ?_
        refine o_lstore X0 hx hby D0_85 (l' := #[.val (.long p0), .second, .val (.long p1), .second, .val (.int p2), .val (.int p3), .val (.long bv), .second, .val (.long av), .second, .val (.long (bv + av)), .second, .val (.long (9223372036854775807 : Int64)), .second]) rfl ?_
        refine o_lload X0 hx hby D0_87 rfl ?_
        refine o_lload X0 hx hby D0_89 rfl ?_
        obtain ⟨_, _, ⟨T14, L14, k14, n14⟩, -, X14, ⟨Lc14, hQ14, l14, y14, z14⟩, st14⟩ := Jvm.LawKit.callS X0 hx (y := (⟨"com/example/ostraval/ostraval/Table", "plus", "(JJ)J"⟩ : MethodName)) hown (mvT hZ (own_wd hw (i := 1) rfl)) (mvT hZ (own_wd hw (i := 2) rfl)) (mvT hZ (own_wd hw (i := 3) rfl)) (mvT hZ (own_wd hw (i := 4) rfl)) (by decide) (backOf (W := 0) (rm1 l Z a0 hw [] bv av  h0 n0 Z0 ) hZ (own_wd hw (i := 4) rfl) (own_wd hw (i := 3) rfl) (by decide) (by decide)) (g := (mkF m 91 #[.val (.long p0), .second, .val (.long p1), .second, .val (.int p2), .val (.int p3), .val (.long bv), .second, .val (.long av), .second, .val (.long (bv + av)), .second, .val (.long (9223372036854775807 : Int64)), .second] [(.long av), (.long bv)])) rfl (by rw [hml]; rfl) (argsL := [(.long bv), (.long av)]) (rest := []) (lenOf pd__40JJ_41J rfl) rfl (by show 2 * 0 + _ ≤ _; exact Nat.le_of_eq rfl) (hb hby D0_91.1) (fun _ _ => ⟨rfl, e0, (by decide : 0 + 0 ≤ _), (by decide : 0 + 0 ≤ _)⟩)
        dsimp only [Pt.U, Pt.locs, Pt.cells, Pt.slots] at X14 l14 y14 z14 st14 hQ14
        subst l14 y14 z14
        obtain ⟨rfl, N14q, e14⟩ := hQ14
        have N14 := Fr.app N0 N14q
        refine own_pre (A' := T14.setTop (mkF m 94 #[.val (.long p0), .second, .val (.long p1), .second, .val (.int p2), .val (.int p3), .val (.long bv), .second, .val (.long av), .second, .val (.long (bv + av)), .second, .val (.long (9223372036854775807 : Int64)), .second] [(.long (own_plus bv av))])) st14 ?_
        refine o_lload X14 hx hby D0_94 rfl ?_
        refine o_lcmp X14 hx hby D0_96 ?_
        refine o_ifN X14 hx hby D0_97 ((if0 _ _).trans (teq ((lw_eq (own_plus bv av) (9223372036854775807 : Int64)).mpr (by rw [own_pl pbv pav, if_pos hc74_13] : (own_plus bv av) = (9223372036854775807 : Int64)))).2) ?_
        refine o_iconst X14 hx hby D0_100 (v := 1) rfl ?_
        refine o_goto X14 hx hby D0_101 (q := 105) (by decide) (by decide) ?_
        exact own_ret (v := some (.int (1 : Int32))) X14 (fun h => by first | rfl | (rw [Bd.returns] at h; cases h)) (BodyLoose.notSynchronized Bd) (by decide) (by decide) (⟨rfl, N14⟩) (fun fs hr => retN X14 hx (t := .boolean) Bd.returns (by simp) (hb hby D0_105.1) hr)
      · skip
        refine o_ifY X0 hx hby D0_74 ((if0 _ _).trans (flt (fun q => hc74_13 ((lw_lt (bv + av) (0 : Int64)).mp q))).2.1) (q := 83) (by decide) (by decide) ?_
        refine o_lload X0 hx hby D0_83 rfl ?_
        refine o_lstore X0 hx hby D0_85 (l' := #[.val (.long p0), .second, .val (.long p1), .second, .val (.int p2), .val (.int p3), .val (.long bv), .second, .val (.long av), .second, .val (.long (bv + av)), .second, .val (.long (bv + av)), .second]) rfl ?_
        refine o_lload X0 hx hby D0_87 rfl ?_
        refine o_lload X0 hx hby D0_89 rfl ?_
        obtain ⟨_, _, ⟨T15, L15, k15, n15⟩, -, X15, ⟨Lc15, hQ15, l15, y15, z15⟩, st15⟩ := Jvm.LawKit.callS X0 hx (y := (⟨"com/example/ostraval/ostraval/Table", "plus", "(JJ)J"⟩ : MethodName)) hown (mvT hZ (own_wd hw (i := 1) rfl)) (mvT hZ (own_wd hw (i := 2) rfl)) (mvT hZ (own_wd hw (i := 3) rfl)) (mvT hZ (own_wd hw (i := 4) rfl)) (by decide) (backOf (W := 0) (rm1 l Z a0 hw [] bv av  h0 n0 Z0 ) hZ (own_wd hw (i := 4) rfl) (own_wd hw (i := 3) rfl) (by decide) (by decide)) (g := (mkF m 91 #[.val (.long p0), .second, .val (.long p1), .second, .val (.int p2), .val (.int p3), .val (.long bv), .second, .val (.long av), .second, .val (.long (bv + av)), .second, .val (.long (bv + av)), .second] [(.long av), (.long bv)])) rfl (by rw [hml]; rfl) (argsL := [(.long bv), (.long av)]) (rest := []) (lenOf pd__40JJ_41J rfl) rfl (by show 2 * 0 + _ ≤ _; exact Nat.le_of_eq rfl) (hb hby D0_91.1) (fun _ _ => ⟨rfl, e0, (by decide : 0 + 0 ≤ _), (by decide : 0 + 0 ≤ _)⟩)
        dsimp only [Pt.U, Pt.locs, Pt.cells, Pt.slots] at X15 l15 y15 z15 st15 hQ15
        subst l15 y15 z15
        obtain ⟨rfl, N15q, e15⟩ := hQ15
        have N15 := Fr.app N0 N15q
        refine own_pre (A' := T15.setTop (mkF m 94 #[.val (.long p0), .second, .val (.long p1), .second, .val (.int p2), .val (.int p3), .val (.long bv), .second, .val (.long av), .second, .val (.long (bv + av)), .second, .val (.long (bv + av)), .second] [(.long (own_plus bv av))])) st15 ?_
        refine o_lload X15 hx hby D0_94 rfl ?_
        refine o_lcmp X15 hx hby D0_96 ?_
        refine o_ifN X15 hx hby D0_97 ((if0 _ _).trans (teq ((lw_eq (own_plus bv av) (bv + av)).mpr (by rw [own_pl pbv pav, if_neg hc74_13] : (own_plus bv av) = (bv + av)))).2) ?_
        refine o_iconst X15 hx hby D0_100 (v := 1) rfl ?_
        refine o_goto X15 hx hby D0_101 (q := 105) (by decide) (by decide) ?_
        exact own_ret (v := some (.int (1 : Int32))) X15 (fun h => by first | rfl | (rw [Bd.returns] at h; cases h)) (BodyLoose.notSynchronized Bd) (by decide) (by decide) (⟨rfl, N15⟩) (fun fs hr => retN X15 hx (t := .boolean) Bd.returns (by simp) (hb hby D0_105.1) hr)
set_option maxRecDepth 65536 in
set_option maxHeartbeats 40000000 in
theorem comes_1 {Post : Tables → Env → Array Value → State → Outcome → State → Prop} (hpost : ∀ tb e args s v u, (limb_1_1.after args s (.returned v) u = true ∧ limb_1_2.after args s (.returned v) u = true ∧ True) → FrameEnd s (.returned v) u (Jvm.fieldLocs frame_1_writes args s ++ Jvm.arrayLocs frame_1_arrays args s ++ Jvm.staticLocs frame_1_statics s) 0 0 → Post tb e args s (.returned v) u) :
    ArmFor flags0 classFile x code maxLocals ret World_1 tables_1 room_1 Calls_1 rest_1 Pre_1 Post := by
  intro l hfl _ _ p e ha hc hk s m args below hf hA hF happ hP
  obtain ⟨hcalls, hrest, hpre⟩ := hP
  obtain ⟨-, -, -, hnamed, -, -, -, hat⟩ := (Spec.applies_iff hf).mp happ
  obtain ⟨hg, hn⟩ := and_e (Cond.before_iff.mp (show (Jvm.Cond.and given_1 narrow_1).before args s = true from hpre))
  obtain ⟨gc, gr0⟩ := and_e hg
  obtain ⟨ga0, gr1⟩ := and_e gr0
  obtain ⟨ga1, gr2⟩ := and_e gr1
  obtain ⟨ga2, gr3⟩ := and_e gr2
  obtain ⟨w0, w1, w2, w3, rfl⟩ : ∃ w0 w1 w2 w3 : Value, args = #[w0, w1, w2, w3] := by
    have hs : args.size = 4 := by simpa [Cond.value, given_1] using gc
    obtain ⟨L⟩ := args
    match L, hs with
    | [w0, w1, w2, w3], _ => exact ⟨w0, w1, w2, w3, rfl⟩
  have hw := fun d (hd : d ∈ tables_1) => atoms_spec (ws := Jvm.Cond.code x code maxLocals ret :: tables_1) hat d (List.mem_cons_of_mem _ hd)
  obtain ⟨i0, ei0⟩ := isL_v ga0
  obtain rfl : w0 = (.long i0) := Option.some.inj ei0
  obtain ⟨i1, ei1⟩ := isL_v ga1
  obtain rfl : w1 = (.long i1) := Option.some.inj ei1
  obtain ⟨i2, ei2⟩ := is_v ga2
  obtain rfl : w2 = (.int i2) := Option.some.inj ei2
  obtain ⟨i3, ei3⟩ := is_v gr3
  obtain rfl : w3 = (.int i3) := Option.some.inj ei3
  obtain ⟨n, o, h1, h2, h3, _, L, rfl, ⟨rfl, N⟩, hq⟩ := rm0 l s _ hw tables_1 i0 i1 i2 i3 s.heap s.heap.size (Nat.le_refl _)  p e ha hc hk s m _ below hf ((Spec.applies_iff_loose hf).mp happ).1 ⟨rfl, State.Warmed39.refl s, rfl⟩ trivial
  refine ⟨n, _, h1, h2, h3, hpost _ _ _ _ _ _ ⟨Cond.after_iff.mpr rfl, Cond.after_iff.mpr (eq_i res_at (Term.int_eval (1)) rfl), trivial⟩ ⟨hq.1, hq.2.1, (hq.2.2.sift fun y hy => Or.inr (N y hy)).mono (by decide) (by decide)⟩⟩
theorem main_1_1 : Claimed_1_1 := comes_1 fun _ _ _ _ _ _ h hF => ⟨h.1, hF⟩
theorem main_1_2 : Claimed_1_2 := comes_1 fun _ _ _ _ _ _ h hF => ⟨h.2.1, hF⟩
end Jvm.Pilot.@@N@@
namespace Jvm.Pilot.@@N@@
open Jvm Jvm.ClassFile Sem Op Lib Jvm.Free Jvm.Stand Jvm.Pilot.@@N@@.Jvm.D
/-! MADE BY PROGRAM (witnessworld.py) out of the Statement's table words and the real class files: 9 classes; the members and pool entries that the words name. The judged class is class 1, her method 1. -/
namespace start1
open Jvm.ClassFile
def u (s : String) : CpInfo := .utf8 (stringToUtf16 s)
/-- a pool by its gaps: so many unusable entries, then the entry; so many at the end -/
def gap : Nat → List CpInfo → List CpInfo
  | 0, r => r
  | n + 1, r => .unusable :: gap n r
def poolList (es : List (Nat × CpInfo)) (last : Nat) : List CpInfo := es.foldr (fun e r => gap e.1 (e.2 :: r)) (gap last [])
def pool (es : List (Nat × CpInfo)) (last : Nat) : Array CpInfo := ⟨poolList es last⟩
def fileOf (pool : Array CpInfo) (this : Nat) (attrs : Array Attribute := #[]) (ms : Array MethodInfo := #[]) (fl : Nat := 33) (sup : Nat := 0) (ifs : Array Nat := #[]) (fds : Array FieldInfo := #[]) : ClassFile where
  minorVersion := 0
  majorVersion := 65
  constantPool := pool
  accessFlags := fl
  thisClass := this
  superClass := sup
  interfaces := ifs
  fields := fds
  methods := ms
  attributes := attrs
def plain (name : String) (sup : Option ClassId) : Class where
  name := name
  kind := .ordinary
  loader := none
  accessFlags := 33
  super := sup
  interfaces := #[]
  cf := none
  fields := #[]
  methods := #[]
  instanceTypes := #[]
  staticTypes := #[]
  resolved := #[]
  callSites := []
  init := .initialized
  statics := none
  mirror := none

def pool0 : Array CpInfo := pool [(5, u "<init>"), (0, u "()V"), (1, .class_ 10), (1, u "java/lang/Object")] 113

def k0m0 : Method := { name := "<init>", desc := "()V", sig := { parameters := [], returnType := none }, accessFlags := 1, code := none }
/-- java/lang/Object -/
def k0 : Class := { plain "java/lang/Object" none with
  accessFlags := 33
  interfaces := #[]
  cf := some (fileOf pool0 8 #[] #[{ accessFlags := 1, nameIndex := 5, descriptorIndex := 6, attributes := #[] }] 33 0 #[] #[])
  fields := #[]
  methods := #[k0m0]
  instanceTypes := #[]
  staticTypes := #[]
  resolved := Array.replicate 124 none
  statics := none }

def pool1 : Array CpInfo := pool [(2, .class_ 4), (1, u "java/lang/Object"), (0, u "<init>"), (0, u "()V"), (2, .long 9223372036854775807), (1, .methodref 12 13), (0, .class_ 14), (0, .nameAndType 15 16), (0, u "com/example/ostraval/ostraval/Table"), (0, u "plus"), (0, u "(JJ)J"), (0, .class_ 18), (0, u "com/example/ostraval/ostraval/TablePlusPinLaw"), (2, u "law"), (0, u "(JJII)Z")] 3

def k1m0 : Method := { name := "<init>", desc := "()V", sig := { parameters := [], returnType := none }, accessFlags := 2, code := none }
def k1c1 : Code := { maxStack := 4, maxLocals := 14, code := code, exceptionTable := #[], attributes := #[] }
def k1m1 : Method := { name := "law", desc := "(JJII)Z", sig := { parameters := [.long, .long, .int, .int], returnType := some .boolean }, accessFlags := 9, code := some k1c1 }
/-- com/example/ostraval/ostraval/TablePlusPinLaw -/
def k1 : Class := { plain "com/example/ostraval/ostraval/TablePlusPinLaw" (some 0) with
  accessFlags := 49
  interfaces := #[]
  cf := some (fileOf pool1 17 #[] #[{ accessFlags := 2, nameIndex := 5, descriptorIndex := 6, attributes := #[] }, { accessFlags := 9, nameIndex := 21, descriptorIndex := 22, attributes := #[] }] 49 2 #[] #[])
  fields := #[]
  methods := #[k1m0, k1m1]
  instanceTypes := #[]
  staticTypes := #[]
  resolved := Array.replicate 26 none
  statics := none }

def pool2 : Array CpInfo := pool [(2, .class_ 4), (1, u "java/lang/Object"), (61, .class_ 68), (1, u "com/example/ostraval/ostraval/Table"), (4, u "plus"), (0, u "(JJ)J"), (15, u "format"), (0, u "Lcom/example/ostraval/ostraval/TableFormat;"), (2, u "records"), (0, u "Ljava/util/List;"), (2, u "invalidator"), (0, u "Ljava/lang/String;"), (2, u "timestamp"), (0, u "Ljava/lang/Long;"), (2, u "quality"), (0, u "Ljava/lang/Integer;"), (8, u "extent"), (0, u "J"), (37, .long 9223372036854775807), (1, .class_ 158), (0, u "com/example/ostraval/ostraval/Table$Conversion"), (52, .class_ 212), (0, u "com/example/ostraval/ostraval/Table$Comparison"), (46, u "EMPTY"), (0, u "Lcom/example/ostraval/ostraval/Table;")] 60

def k2c0 : Code := { maxStack := 6, maxLocals := 4, code := prog_104_method_11_code, exceptionTable := #[], attributes := #[] }
def k2m0 : Method := { name := "plus", desc := "(JJ)J", sig := { parameters := [.long, .long], returnType := some .long }, accessFlags := 8, code := some k2c0 }
/-- com/example/ostraval/ostraval/Table -/
def k2 : Class := { plain "com/example/ostraval/ostraval/Table" (some 0) with
  accessFlags := 48
  interfaces := #[]
  cf := some (fileOf pool2 66 #[.nestMembers #[211, 157]] #[{ accessFlags := 8, nameIndex := 73, descriptorIndex := 74, attributes := #[] }] 48 2 #[] #[{ accessFlags := 24, nameIndex := 259, descriptorIndex := 260, attributes := #[] }, { accessFlags := 18, nameIndex := 90, descriptorIndex := 91, attributes := #[] }, { accessFlags := 18, nameIndex := 94, descriptorIndex := 95, attributes := #[] }, { accessFlags := 18, nameIndex := 98, descriptorIndex := 99, attributes := #[] }, { accessFlags := 18, nameIndex := 102, descriptorIndex := 103, attributes := #[] }, { accessFlags := 18, nameIndex := 106, descriptorIndex := 107, attributes := #[] }, { accessFlags := 18, nameIndex := 116, descriptorIndex := 117, attributes := #[] }])
  fields := #[{ name := "EMPTY", type := (.object "com/example/ostraval/ostraval/Table"), accessFlags := 24, slot := 0, constantValue := 0 }, { name := "format", type := (.object "com/example/ostraval/ostraval/TableFormat"), accessFlags := 18, slot := 0, constantValue := 0 }, { name := "records", type := (.object "java/util/List"), accessFlags := 18, slot := 1, constantValue := 0 }, { name := "invalidator", type := (.object "java/lang/String"), accessFlags := 18, slot := 2, constantValue := 0 }, { name := "timestamp", type := (.object "java/lang/Long"), accessFlags := 18, slot := 3, constantValue := 0 }, { name := "quality", type := (.object "java/lang/Integer"), accessFlags := 18, slot := 4, constantValue := 0 }, { name := "extent", type := .long, accessFlags := 18, slot := 5, constantValue := 0 }]
  methods := #[k2m0]
  instanceTypes := #[(.object "com/example/ostraval/ostraval/TableFormat"), (.object "java/util/List"), (.object "java/lang/String"), (.object "java/lang/Long"), (.object "java/lang/Integer"), .long]
  staticTypes := #[(.object "com/example/ostraval/ostraval/Table")]
  resolved := Array.replicate 321 none
  statics := none }

def pool3 : Array CpInfo := pool [(1, u "java/lang/Cloneable"), (0, .class_ 1), (0, u "java/lang/Object"), (0, .class_ 3)] 3

/-- java/lang/Cloneable -/
def k3 : Class := { plain "java/lang/Cloneable" (some 0) with
  accessFlags := 1537
  interfaces := #[]
  cf := some (fileOf pool3 2 #[] #[] 1537 4 #[] #[])
  fields := #[]
  methods := #[]
  instanceTypes := #[]
  staticTypes := #[]
  resolved := Array.replicate 8 none
  statics := none }

def pool4 : Array CpInfo := pool [(1, u "java/io/Serializable"), (0, .class_ 1), (0, u "java/lang/Object"), (0, .class_ 3)] 3

/-- java/io/Serializable -/
def k4 : Class := { plain "java/io/Serializable" (some 0) with
  accessFlags := 1537
  interfaces := #[]
  cf := some (fileOf pool4 2 #[] #[] 1537 4 #[] #[])
  fields := #[]
  methods := #[]
  instanceTypes := #[]
  staticTypes := #[]
  resolved := Array.replicate 8 none
  statics := none }

/-- the primitive byte -/
def k5 : Class := { plain "byte" none with kind := .primitive 'B', accessFlags := 0x411 }
/-- [B -/
def k6 : Class := { plain "[B" (some 0) with kind := .array 5 .byte, interfaces := #[3, 4], accessFlags := 1041 }

/-- the primitive int -/
def k7 : Class := { plain "int" none with kind := .primitive 'I', accessFlags := 0x411 }
/-- [I -/
def k8 : Class := { plain "[I" (some 0) with kind := .array 7 .int, interfaces := #[3, 4], accessFlags := 1041 }

def heap : Heap := #[]
def classes : Array Class := #[k0, k1, k2, k3, k4, k5, k6, k7, k8]
def interned : List (Array UInt16 × Addr) := []
def slotsUsed : Nat := 0
def theMethod : MethodId := ⟨1, 1⟩
def args0 : Array Value := #[.long 5, .long 6, .int 1, .int 2]
def aboutOver (below : List Frame) : State where
  vm := { classes := classes, interned := interned.toArray }
  heap := heap
  slotsUsed := slotsUsed
  threads := #[{ frames := .invoking theMethod args0 :: below }]
def below0 : List Frame := [.native { method := ⟨0, 0⟩, args := #[] }]
def about1 : State := aboutOver below0
def p0 : Program := .bare "" "" ""
def e0 : Env := launch0.env 0 0 0
theorem w_frames : about1.frames = Frame.invoking theMethod args0 :: below0 := rfl
set_option maxRecDepth 65536 in
theorem w_args : argsFit about1.vm theMethod args0 = true := by decide +kernel
set_option maxRecDepth 65536 in
theorem w_heap : heapFits about1 = true := by decide +kernel
set_option maxRecDepth 65536 in
theorem w_runnable : about1.curStatus? = some .runnable := by decide +kernel
set_option maxRecDepth 65536 in
theorem w_alone : about1.alone = true := by decide +kernel
set_option maxRecDepth 65536 in
theorem w_named : about1.methodNamed? x = some theMethod := by decide +kernel
set_option maxRecDepth 65536 in
theorem w_hears : about1.hears theMethod below0 = true := by decide +kernel
set_option maxRecDepth 65536 in
theorem w_ripe : about1.ripe theMethod args0 below0 = true := by decide +kernel
theorem w_running : about1.status = .running := rfl
set_option maxRecDepth 65536 in
theorem w_room : about1.hasRoom e0.platform room_1 = true :=
  launch0.hasRoom_least _ room_1 (by decide +kernel) (by decide +kernel) (by decide +kernel) (by decide +kernel) (by decide +kernel) (by decide +kernel)
theorem allAtoms_all (ts : List Jvm.Cond) (a : Array Jvm.Value) (st : Jvm.State) : (allAtoms ts).before a st = ts.all (fun c => c.before a st) := by
  induction ts with
  | nil => rfl
  | cons c t ih =>
    show (Jvm.Cond.and c (allAtoms t)).before a st = _
    rw [Jvm.Cond.before_and, ih, List.all_cons]
def words1 : List Jvm.Cond := Jvm.Cond.code x code maxLocals ret :: tables_1
/-- a 'code' word, met by the world's own term for the bytes: nothing is compared byte by byte -/
theorem code_word {y : MethodName} {bytes : ByteArray} {mx : Nat} {rt : Option FieldType} {a : Array Value} {s : State} {m : MethodId} {meth : Method} {c : Code} (h1 : s.methodNamed? y = some m) (h2 : s.vm.method? m = some meth) (h3 : meth.code = some c) (h4 : c.code = bytes)
    (h5 : (c.maxLocals == mx && c.exceptionTable.isEmpty && decide (c.maxStack ≤ mostOperands) && decide (meth.sig.returnType = rt) && !meth.locks && decide (parseMethodDescriptor y.desc = some meth.sig)) = true) : (Jvm.Cond.code y bytes mx rt).before a s = true := by
  simp only [Bool.and_eq_true, beq_iff_eq, Bool.not_eq_true', decide_eq_true_eq] at h5
  obtain ⟨⟨⟨⟨⟨g1, g2⟩, g3⟩, g4⟩, g5⟩, g6⟩ := h5
  simp [Cond.before, Cond.holds, Cond.value, h1, h2, h3, h4, g1, g2, g3, g4, g5, g6]
def isCode : Jvm.Cond → Bool
  | .code _ _ _ _ => true
  | _ => false
theorem all_split {L : List Jvm.Cond} {P : Jvm.Cond → Bool} (h1 : L.all (fun c => isCode c || P c) = true) (h2 : ∀ c ∈ L.filter isCode, P c = true) : L.all P = true := by
  refine List.all_eq_true.mpr fun c hc => ?_
  have h := List.all_eq_true.mp h1 c hc
  rcases Bool.eq_false_or_eq_true (isCode c) with hi | hi
  · exact h2 c (List.mem_filter.mpr ⟨hc, hi⟩)
  · simpa [hi] using h
set_option maxRecDepth 65536 in
theorem w_c0 : (Jvm.Cond.code x code maxLocals ret).before args0 about1 = true := code_word (m := ⟨1, 1⟩) (meth := k1m1) (c := k1c1) (by decide +kernel) rfl rfl rfl (by decide +kernel)
set_option maxRecDepth 65536 in
theorem w_c1 : (Jvm.Cond.code ({ cls := "com/example/ostraval/ostraval/Table", name := "plus", desc := "(JJ)J" } : Jvm.MethodName) prog_104_method_11_code (4 : Nat) (Option.some Jvm.ClassFile.FieldType.long)).before args0 about1 = true := code_word (m := ⟨2, 0⟩) (meth := k2m0) (c := k2c0) (by decide +kernel) rfl rfl rfl (by decide +kernel)
def codes1 : List Jvm.Cond := [Jvm.Cond.code x code maxLocals ret, Jvm.Cond.code ({ cls := "com/example/ostraval/ostraval/Table", name := "plus", desc := "(JJ)J" } : Jvm.MethodName) prog_104_method_11_code (4 : Nat) (Option.some Jvm.ClassFile.FieldType.long)]
set_option maxRecDepth 65536 in
theorem codes_eq : words1.filter isCode = codes1 := rfl
theorem w_codes : ∀ c ∈ words1.filter isCode, c.before args0 about1 = true := by
  rw [codes_eq]
  intro c hc
  simp only [codes1, List.mem_cons, List.not_mem_nil, or_false] at hc
  rcases hc with rfl | rfl
  · exact w_c0
  · exact w_c1
set_option maxRecDepth 65536 in
theorem w_t1 : words1.all (fun c => isCode c || c.before args0 about1) = true := by decide +kernel
theorem w_tables : (allAtoms (Jvm.Cond.code x code maxLocals ret :: tables_1)).before args0 about1 = true := by
  rw [allAtoms_all]
  show words1.all (fun c => c.before args0 about1) = true
  refine all_split ?_ w_codes
  rw [w_t1]
set_option maxRecDepth 65536 in
theorem w_case : (Jvm.Cond.and given_1 narrow_1).before args0 about1 = true := by decide +kernel
theorem w_applies : (headSpec (Jvm.Cond.code x code maxLocals ret :: tables_1) room_1).applies x e0.platform about1 = true :=
  (Spec.applies_iff w_frames).mpr ⟨w_running, w_runnable, w_alone, w_named, w_hears, w_ripe, w_room, w_tables⟩
theorem atStart : AtStart classFile x code maxLocals ret World_1 tables_1 room_1 Calls_1 rest_1 Pre_1 launch0 p0 e0 about1 theMethod args0 below0 :=
  ⟨lists_1, trivial, launch0.admits_env _ _ _, launch0.least_env, fairChoices_fair.cas, fairChoices_fair.clock, w_frames, w_args, w_heap, w_applies, trivial, trivial, w_case⟩
end start1
theorem witness_1 : WitnessClaimed_1 := ⟨start1.p0, start1.e0, start1.about1, start1.theMethod, start1.args0, start1.below0, start1.atStart⟩
end Jvm.Pilot.@@N@@
