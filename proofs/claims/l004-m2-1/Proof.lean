import JvmDerived
import JvmDerived.Pilot.@@N@@Statement
import JvmDerived.Pilot.@@N@@Code
set_option linter.unusedVariables false
set_option linter.unusedSimpArgs false
@@BLOCK:NumsL.lean.txt@@
namespace Jvm.RoadKit
open Sem ClassFile Op Lib Jvm.Stand Jvm.Free Jvm.LawKit
section New
variable {p : Program} {l : Launch} {e : Env} {R : Room} {s : State} {m : MethodId} {args : Array Value} {below : List Frame} {meth : Method} {c : Code} {T : State} {locs : List Loc} {cells slots : Nat}
theorem retI (X : Stand p l e R s m args below meth c T locs cells slots) (hx : p.tables.exec = Jvm.exec) {pc : Nat} {Ls : Array Slot} {z : Int32} {rest : List Value} (hret : meth.sig.returnType = some .int) (hd : decode c.code pc = .ok (.ireturn, 1)) {fs : List Frame}
    (hl : ∀ (f : JFrame) (acts : List Action), f.method = m → f.locked = none → f.entered = [] → (doReturn e (T.setTop f) acts (some (.int z))).1 = T.setFrames fs) : Steps p.tables e below (T.setTop (mkF m pc Ls (.int z :: rest))) (T.setFrames fs) := by
  have hm' : T.vm.method? m = some meth := X.method'
  have hn : narrow .int (.int z) = .int z := rfl
  show Steps p.tables e below (T.setTop { method := m, pc := pc, locals := Ls, stack := _ :: rest, locked := none }) _
  jvm_step X.here [X.here.top, hx, hd, hm', hret, hn]
  first | (intro acts; rw [hl _ acts rfl rfl rfl]) | rw [hl _ _ rfl rfl rfl]
  exact Steps.refl _

/-- from A the run ends, and R holds of the end -/
def own_Fin (tb : Tables) (e : Env) (below : List Frame) (R : State → Outcome → Prop) (A : State) : Prop := ∃ t o, Steps tb e below A t ∧ R t o
def own_R (s : State) (below : List Frame) (Q : Option Value → Heap → List Loc → Prop) (C S : Nat) (t : State) (o : Outcome) : Prop :=
  t.status = .running ∧ Ended t below o ∧ ∃ v L, o = .returned v ∧ Q v t.heap L ∧ FrameEnd s o t L C S
theorem own_pre {tb : Tables} {e : Env} {below : List Frame} {R : State → Outcome → Prop} {A A' : State} (h : ∀ t, Steps tb e below A' t → Steps tb e below A t) (k : own_Fin tb e below R A') : own_Fin tb e below R A := by
  obtain ⟨t, o, h1, h2⟩ := k; exact ⟨t, o, h t h1, h2⟩
theorem own_start {tb : Tables} {e : Env} {below : List Frame} {s T : State} {Q : Option Value → Heap → List Loc → Prop} {C S : Nat} {g g' : JFrame} (q : g = g') (k : own_Fin tb e below (own_R s below Q C S) (T.setTop g')) :
    ∃ s₂ o, Steps tb e below (T.setTop g) s₂ ∧ s₂.status = .running ∧ Ended s₂ below o ∧ ∃ v L, o = .returned v ∧ Q v s₂.heap L ∧ FrameEnd s o s₂ L C S := by
  subst q; exact k
theorem own_ret {Q : Option Value → Heap → List Loc → Prop} {C S : Nat} {A : State} {v : Option Value} (X : Stand p l e R s m args below meth c T locs cells slots) (hv : meth.sig.returnType = none → v = none) (hlocks : meth.locks = false) (hc : cells ≤ C) (hs : slots ≤ S) (hQ : Q v T.heap locs)
    (hstep : ∀ fs, (∀ (f : JFrame) (acts : List Action), f.method = m → f.locked = none → f.entered = [] → (doReturn e (T.setTop f) acts v).1 = T.setFrames fs) → Steps p.tables e below A (T.setFrames fs)) : own_Fin p.tables e below (own_R s below Q C S) A := by
  obtain ⟨fs, hr, hrun, hended, hW, hsame⟩ := X.leave hv hlocks
  exact ⟨_, _, hstep fs hr, hrun, hended, _, _, rfl, hQ, ⟨_, rfl⟩, hW, hsame.mono hc hs⟩
theorem own_ltN {a b : Nat} (h : a < b) : @LT.lt Nat instLTNat a b := h
theorem own_leN {a b : Nat} (h : a ≤ b) : @LE.le Nat instLENat a b := h
theorem own_neN {a b : Nat} (h : @LT.lt Nat instLTNat a b) : a ≠ b := Nat.ne_of_lt h
theorem own_neN' {a b : Nat} (h : @LT.lt Nat instLTNat b a) : a ≠ b := Nat.ne_of_gt h
theorem own_selp {y : MethodName} {s : State} {args : Array Value} {n : Nat} (hy : y.cls ≠ "java/lang/invoke/MethodHandle" ∧ y.cls ≠ "java/lang/invoke/VarHandle")
    (hins : (Cond.instantiable y.cls n).before args s = true) (hpriv : (Cond.privateMethod y).before args s = true) (hinst : (Cond.instanceMethod y).before args s = true) : (Cond.selects y.cls y y).before args s = true := by
  obtain ⟨c, k, hc, hk, -, hniab, -, -⟩ := Cond.instantiable_spec hins
  exact selects_self_of_private hc hk (Bool.or_eq_false_iff.mp hniab).1 (Cond.privateMethod_at hpriv) hinst hy
def own_QV (h0 : Heap) (n0 : Nat) (v : Option Value) (h : Heap) (L : List Loc) : Prop := v = none ∧ Fr n0 L ∧ h = h0
def own_QP (r : Value) (h0 : Heap) (n0 : Nat) (v : Option Value) (h : Heap) (L : List Loc) : Prop := v = some r ∧ Fr n0 L ∧ h = h0
def own_at (code : ByteArray) (pc : Nat) (i : Instr) (n pc' : Nat) : Prop := decode code pc = .ok (i, n) ∧ pc + n = pc'
section Steps1
variable {p : Program} {l : Launch} {e : Env} {R : Room} {s : State} {m : MethodId} {args : Array Value} {below : List Frame} {meth : Method} {c : Code} {T : State} {locs : List Loc} {cells slots : Nat} {code : ByteArray} {Rr : State → Outcome → Prop} {Ls : Array Slot} {st : List Value} {pc pc' : Nat}
theorem o_iloadN (X : Stand p l e R s m args below meth c T locs cells slots) (hx : p.tables.exec = Jvm.exec) (hby : c.code = code) {k : Fin 4} {v : Int32} (hd : own_at code pc (.iload_n k) 1 pc') (hl : Ls[k.val]? = some (.val (.int v)))
    (h : own_Fin p.tables e below Rr (T.setTop (mkF m pc' Ls (.int v :: st)))) : own_Fin p.tables e below Rr (T.setTop (mkF m pc Ls (st))) := by
  obtain ⟨hd, rfl⟩ := hd; subst hby
  exact own_pre (fun t k => XS.iloadN X.here hx rfl hd hl k) h
theorem o_iload (X : Stand p l e R s m args below meth c T locs cells slots) (hx : p.tables.exec = Jvm.exec) (hby : c.code = code) {k : Nat} {v : Int32} (hd : own_at code pc (.iload k) 2 pc') (hl : Ls[k]? = some (.val (.int v)))
    (h : own_Fin p.tables e below Rr (T.setTop (mkF m pc' Ls (.int v :: st)))) : own_Fin p.tables e below Rr (T.setTop (mkF m pc Ls (st))) := by
  obtain ⟨hd, rfl⟩ := hd; subst hby
  exact own_pre (fun t k => XS.iload X.here hx rfl hd hl k) h
theorem o_istoreN (X : Stand p l e R s m args below meth c T locs cells slots) (hx : p.tables.exec = Jvm.exec) (hby : c.code = code) {k : Fin 4} {v : Int32} {l' : Array Slot} (hd : own_at code pc (.istore_n k) 1 pc') (hl : storeLocals Ls k.val (.int v) = some l')
    (h : own_Fin p.tables e below Rr (T.setTop (mkF m pc' l' (st)))) : own_Fin p.tables e below Rr (T.setTop (mkF m pc Ls (.int v :: st))) := by
  obtain ⟨hd, rfl⟩ := hd; subst hby
  exact own_pre (fun t k => XS.istoreN X.here hx rfl hd rfl hl k) h
theorem o_istore (X : Stand p l e R s m args below meth c T locs cells slots) (hx : p.tables.exec = Jvm.exec) (hby : c.code = code) {k : Nat} {v : Int32} {l' : Array Slot} (hd : own_at code pc (.istore k) 2 pc') (hl : storeLocals Ls k (.int v) = some l')
    (h : own_Fin p.tables e below Rr (T.setTop (mkF m pc' l' (st)))) : own_Fin p.tables e below Rr (T.setTop (mkF m pc Ls (.int v :: st))) := by
  obtain ⟨hd, rfl⟩ := hd; subst hby
  exact own_pre (fun t k => XS.istore X.here hx rfl hd rfl hl k) h
theorem o_lloadN (X : Stand p l e R s m args below meth c T locs cells slots) (hx : p.tables.exec = Jvm.exec) (hby : c.code = code) {k : Fin 4} {v : Int64} (hd : own_at code pc (.lload_n k) 1 pc') (hl : Ls[k.val]? = some (.val (.long v)))
    (h : own_Fin p.tables e below Rr (T.setTop (mkF m pc' Ls (.long v :: st)))) : own_Fin p.tables e below Rr (T.setTop (mkF m pc Ls (st))) := by
  obtain ⟨hd, rfl⟩ := hd; subst hby
  exact own_pre (fun t k => XS.lloadN X.here hx rfl hd hl k) h
theorem o_lload (X : Stand p l e R s m args below meth c T locs cells slots) (hx : p.tables.exec = Jvm.exec) (hby : c.code = code) {k : Nat} {v : Int64} (hd : own_at code pc (.lload k) 2 pc') (hl : Ls[k]? = some (.val (.long v)))
    (h : own_Fin p.tables e below Rr (T.setTop (mkF m pc' Ls (.long v :: st)))) : own_Fin p.tables e below Rr (T.setTop (mkF m pc Ls (st))) := by
  obtain ⟨hd, rfl⟩ := hd; subst hby
  exact own_pre (fun t k => XS.lload X.here hx rfl hd hl k) h
theorem o_lstoreN (X : Stand p l e R s m args below meth c T locs cells slots) (hx : p.tables.exec = Jvm.exec) (hby : c.code = code) {k : Fin 4} {v : Int64} {l' : Array Slot} (hd : own_at code pc (.lstore_n k) 1 pc') (hl : storeLocals Ls k.val (.long v) = some l')
    (h : own_Fin p.tables e below Rr (T.setTop (mkF m pc' l' (st)))) : own_Fin p.tables e below Rr (T.setTop (mkF m pc Ls (.long v :: st))) := by
  obtain ⟨hd, rfl⟩ := hd; subst hby
  exact own_pre (fun t k => XS.lstoreN X.here hx rfl hd rfl hl k) h
theorem o_lstore (X : Stand p l e R s m args below meth c T locs cells slots) (hx : p.tables.exec = Jvm.exec) (hby : c.code = code) {k : Nat} {v : Int64} {l' : Array Slot} (hd : own_at code pc (.lstore k) 2 pc') (hl : storeLocals Ls k (.long v) = some l')
    (h : own_Fin p.tables e below Rr (T.setTop (mkF m pc' l' (st)))) : own_Fin p.tables e below Rr (T.setTop (mkF m pc Ls (.long v :: st))) := by
  obtain ⟨hd, rfl⟩ := hd; subst hby
  exact own_pre (fun t k => XS.lstore X.here hx rfl hd rfl hl k) h
theorem o_aloadN (X : Stand p l e R s m args below meth c T locs cells slots) (hx : p.tables.exec = Jvm.exec) (hby : c.code = code) {k : Fin 4} {v : Value} (hd : own_at code pc (.aload_n k) 1 pc') (hl : Ls[k.val]? = some (.val v)) (hv : v.isRef = true)
    (h : own_Fin p.tables e below Rr (T.setTop (mkF m pc' Ls (v :: st)))) : own_Fin p.tables e below Rr (T.setTop (mkF m pc Ls (st))) := by
  obtain ⟨hd, rfl⟩ := hd; subst hby
  exact own_pre (fun t k => XS.aloadN X.here hx rfl hd hl hv k) h
theorem o_aload (X : Stand p l e R s m args below meth c T locs cells slots) (hx : p.tables.exec = Jvm.exec) (hby : c.code = code) {k : Nat} {v : Value} (hd : own_at code pc (.aload k) 2 pc') (hl : Ls[k]? = some (.val v)) (hv : v.isRef = true)
    (h : own_Fin p.tables e below Rr (T.setTop (mkF m pc' Ls (v :: st)))) : own_Fin p.tables e below Rr (T.setTop (mkF m pc Ls (st))) := by
  obtain ⟨hd, rfl⟩ := hd; subst hby
  exact own_pre (fun t k => XS.aload X.here hx rfl hd hl hv k) h
theorem o_astoreN (X : Stand p l e R s m args below meth c T locs cells slots) (hx : p.tables.exec = Jvm.exec) (hby : c.code = code) {k : Fin 4} {v : Value} {l' : Array Slot} (hd : own_at code pc (.astore_n k) 1 pc') (hv : v.isRef = true) (hl : storeLocals Ls k.val v = some l')
    (h : own_Fin p.tables e below Rr (T.setTop (mkF m pc' l' (st)))) : own_Fin p.tables e below Rr (T.setTop (mkF m pc Ls (v :: st))) := by
  obtain ⟨hd, rfl⟩ := hd; subst hby
  exact own_pre (fun t k => XS.astoreN X.here hx rfl hd rfl hv hl k) h
theorem o_astore (X : Stand p l e R s m args below meth c T locs cells slots) (hx : p.tables.exec = Jvm.exec) (hby : c.code = code) {k : Nat} {v : Value} {l' : Array Slot} (hd : own_at code pc (.astore k) 2 pc') (hv : v.isRef = true) (hl : storeLocals Ls k v = some l')
    (h : own_Fin p.tables e below Rr (T.setTop (mkF m pc' l' (st)))) : own_Fin p.tables e below Rr (T.setTop (mkF m pc Ls (v :: st))) := by
  obtain ⟨hd, rfl⟩ := hd; subst hby
  exact own_pre (fun t k => XS.astore X.here hx rfl hd rfl hv hl k) h
theorem o_iconst (X : Stand p l e R s m args below meth c T locs cells slots) (hx : p.tables.exec = Jvm.exec) (hby : c.code = code) {i : Int} {v : Int32} (hd : own_at code pc (.iconst i) 1 pc') (hv : Int32.ofInt i = v)
    (h : own_Fin p.tables e below Rr (T.setTop (mkF m pc' Ls (.int v :: st)))) : own_Fin p.tables e below Rr (T.setTop (mkF m pc Ls (st))) := by
  obtain ⟨hd, rfl⟩ := hd; subst hby
  exact own_pre (fun t k => by subst hv; exact XS.iconst X.here hx rfl hd k) h
theorem o_bipush (X : Stand p l e R s m args below meth c T locs cells slots) (hx : p.tables.exec = Jvm.exec) (hby : c.code = code) {i : Int} {v : Int32} (hd : own_at code pc (.bipush i) 2 pc') (hv : (Int8.ofInt i).toInt32 = v)
    (h : own_Fin p.tables e below Rr (T.setTop (mkF m pc' Ls (.int v :: st)))) : own_Fin p.tables e below Rr (T.setTop (mkF m pc Ls (st))) := by
  obtain ⟨hd, rfl⟩ := hd; subst hby
  exact own_pre (fun t k => by subst hv; exact XS.bipush X.here hx rfl hd k) h
theorem o_sipush (X : Stand p l e R s m args below meth c T locs cells slots) (hx : p.tables.exec = Jvm.exec) (hby : c.code = code) {i : Int} {v : Int32} (hd : own_at code pc (.sipush i) 3 pc') (hv : (Int16.ofInt i).toInt32 = v)
    (h : own_Fin p.tables e below Rr (T.setTop (mkF m pc' Ls (.int v :: st)))) : own_Fin p.tables e below Rr (T.setTop (mkF m pc Ls (st))) := by
  obtain ⟨hd, rfl⟩ := hd; subst hby
  exact own_pre (fun t k => by subst hv; exact XS.sipush X.here hx rfl hd k) h
theorem o_lconst (X : Stand p l e R s m args below meth c T locs cells slots) (hx : p.tables.exec = Jvm.exec) (hby : c.code = code) {i : Fin 2} {v : Int64} (hd : own_at code pc (.lconst i) 1 pc') (hv : Int64.ofNat i = v)
    (h : own_Fin p.tables e below Rr (T.setTop (mkF m pc' Ls (.long v :: st)))) : own_Fin p.tables e below Rr (T.setTop (mkF m pc Ls (st))) := by
  obtain ⟨hd, rfl⟩ := hd; subst hby
  exact own_pre (fun t k => by subst hv; exact XS.lconst X.here hx rfl hd k) h
theorem o_anull (X : Stand p l e R s m args below meth c T locs cells slots) (hx : p.tables.exec = Jvm.exec) (hby : c.code = code)  (hd : own_at code pc (.aconst_null) 1 pc') 
    (h : own_Fin p.tables e below Rr (T.setTop (mkF m pc' Ls (.null :: st)))) : own_Fin p.tables e below Rr (T.setTop (mkF m pc Ls (st))) := by
  obtain ⟨hd, rfl⟩ := hd; subst hby
  exact own_pre (fun t k => XS.aconstNull X.here hx rfl hd k) h
theorem o_iadd (X : Stand p l e R s m args below meth c T locs cells slots) (hx : p.tables.exec = Jvm.exec) (hby : c.code = code) {x y : Int32} (hd : own_at code pc (.iadd) 1 pc') 
    (h : own_Fin p.tables e below Rr (T.setTop (mkF m pc' Ls (.int (x + y) :: st)))) : own_Fin p.tables e below Rr (T.setTop (mkF m pc Ls (.int y :: .int x :: st))) := by
  obtain ⟨hd, rfl⟩ := hd; subst hby
  exact own_pre (fun t k => XS.iadd X.here hx rfl hd rfl k) h
theorem o_ladd (X : Stand p l e R s m args below meth c T locs cells slots) (hx : p.tables.exec = Jvm.exec) (hby : c.code = code) {x y : Int64} (hd : own_at code pc (.ladd) 1 pc') 
    (h : own_Fin p.tables e below Rr (T.setTop (mkF m pc' Ls (.long (x + y) :: st)))) : own_Fin p.tables e below Rr (T.setTop (mkF m pc Ls (.long y :: .long x :: st))) := by
  obtain ⟨hd, rfl⟩ := hd; subst hby
  exact own_pre (fun t k => XS.ladd X.here hx rfl hd rfl k) h
theorem o_isub (X : Stand p l e R s m args below meth c T locs cells slots) (hx : p.tables.exec = Jvm.exec) (hby : c.code = code) {x y : Int32} (hd : own_at code pc (.isub) 1 pc') 
    (h : own_Fin p.tables e below Rr (T.setTop (mkF m pc' Ls (.int (x - y) :: st)))) : own_Fin p.tables e below Rr (T.setTop (mkF m pc Ls (.int y :: .int x :: st))) := by
  obtain ⟨hd, rfl⟩ := hd; subst hby
  exact own_pre (fun t k => XS.isub X.here hx rfl hd rfl k) h
theorem o_lsub (X : Stand p l e R s m args below meth c T locs cells slots) (hx : p.tables.exec = Jvm.exec) (hby : c.code = code) {x y : Int64} (hd : own_at code pc (.lsub) 1 pc') 
    (h : own_Fin p.tables e below Rr (T.setTop (mkF m pc' Ls (.long (x - y) :: st)))) : own_Fin p.tables e below Rr (T.setTop (mkF m pc Ls (.long y :: .long x :: st))) := by
  obtain ⟨hd, rfl⟩ := hd; subst hby
  exact own_pre (fun t k => XS.lsub X.here hx rfl hd rfl k) h
theorem o_imul (X : Stand p l e R s m args below meth c T locs cells slots) (hx : p.tables.exec = Jvm.exec) (hby : c.code = code) {x y : Int32} (hd : own_at code pc (.imul) 1 pc') 
    (h : own_Fin p.tables e below Rr (T.setTop (mkF m pc' Ls (.int (x * y) :: st)))) : own_Fin p.tables e below Rr (T.setTop (mkF m pc Ls (.int y :: .int x :: st))) := by
  obtain ⟨hd, rfl⟩ := hd; subst hby
  exact own_pre (fun t k => XS.imul X.here hx rfl hd rfl k) h
theorem o_lmul (X : Stand p l e R s m args below meth c T locs cells slots) (hx : p.tables.exec = Jvm.exec) (hby : c.code = code) {x y : Int64} (hd : own_at code pc (.lmul) 1 pc') 
    (h : own_Fin p.tables e below Rr (T.setTop (mkF m pc' Ls (.long (x * y) :: st)))) : own_Fin p.tables e below Rr (T.setTop (mkF m pc Ls (.long y :: .long x :: st))) := by
  obtain ⟨hd, rfl⟩ := hd; subst hby
  exact own_pre (fun t k => XS.lmul X.here hx rfl hd rfl k) h
theorem o_iand (X : Stand p l e R s m args below meth c T locs cells slots) (hx : p.tables.exec = Jvm.exec) (hby : c.code = code) {x y : Int32} (hd : own_at code pc (.iand) 1 pc') 
    (h : own_Fin p.tables e below Rr (T.setTop (mkF m pc' Ls (.int (x &&& y) :: st)))) : own_Fin p.tables e below Rr (T.setTop (mkF m pc Ls (.int y :: .int x :: st))) := by
  obtain ⟨hd, rfl⟩ := hd; subst hby
  exact own_pre (fun t k => XS.iand X.here hx rfl hd rfl k) h
theorem o_land (X : Stand p l e R s m args below meth c T locs cells slots) (hx : p.tables.exec = Jvm.exec) (hby : c.code = code) {x y : Int64} (hd : own_at code pc (.land) 1 pc') 
    (h : own_Fin p.tables e below Rr (T.setTop (mkF m pc' Ls (.long (x &&& y) :: st)))) : own_Fin p.tables e below Rr (T.setTop (mkF m pc Ls (.long y :: .long x :: st))) := by
  obtain ⟨hd, rfl⟩ := hd; subst hby
  exact own_pre (fun t k => XS.land X.here hx rfl hd rfl k) h
theorem o_ior (X : Stand p l e R s m args below meth c T locs cells slots) (hx : p.tables.exec = Jvm.exec) (hby : c.code = code) {x y : Int32} (hd : own_at code pc (.ior) 1 pc') 
    (h : own_Fin p.tables e below Rr (T.setTop (mkF m pc' Ls (.int (x ||| y) :: st)))) : own_Fin p.tables e below Rr (T.setTop (mkF m pc Ls (.int y :: .int x :: st))) := by
  obtain ⟨hd, rfl⟩ := hd; subst hby
  exact own_pre (fun t k => XS.ior X.here hx rfl hd rfl k) h
theorem o_lor (X : Stand p l e R s m args below meth c T locs cells slots) (hx : p.tables.exec = Jvm.exec) (hby : c.code = code) {x y : Int64} (hd : own_at code pc (.lor) 1 pc') 
    (h : own_Fin p.tables e below Rr (T.setTop (mkF m pc' Ls (.long (x ||| y) :: st)))) : own_Fin p.tables e below Rr (T.setTop (mkF m pc Ls (.long y :: .long x :: st))) := by
  obtain ⟨hd, rfl⟩ := hd; subst hby
  exact own_pre (fun t k => XS.lor X.here hx rfl hd rfl k) h
theorem o_ixor (X : Stand p l e R s m args below meth c T locs cells slots) (hx : p.tables.exec = Jvm.exec) (hby : c.code = code) {x y : Int32} (hd : own_at code pc (.ixor) 1 pc') 
    (h : own_Fin p.tables e below Rr (T.setTop (mkF m pc' Ls (.int (x ^^^ y) :: st)))) : own_Fin p.tables e below Rr (T.setTop (mkF m pc Ls (.int y :: .int x :: st))) := by
  obtain ⟨hd, rfl⟩ := hd; subst hby
  exact own_pre (fun t k => XS.ixor X.here hx rfl hd rfl k) h
theorem o_lxor (X : Stand p l e R s m args below meth c T locs cells slots) (hx : p.tables.exec = Jvm.exec) (hby : c.code = code) {x y : Int64} (hd : own_at code pc (.lxor) 1 pc') 
    (h : own_Fin p.tables e below Rr (T.setTop (mkF m pc' Ls (.long (x ^^^ y) :: st)))) : own_Fin p.tables e below Rr (T.setTop (mkF m pc Ls (.long y :: .long x :: st))) := by
  obtain ⟨hd, rfl⟩ := hd; subst hby
  exact own_pre (fun t k => XS.lxor X.here hx rfl hd rfl k) h
theorem o_ishl (X : Stand p l e R s m args below meth c T locs cells slots) (hx : p.tables.exec = Jvm.exec) (hby : c.code = code) {x y : Int32} (hd : own_at code pc (.ishl) 1 pc') 
    (h : own_Fin p.tables e below Rr (T.setTop (mkF m pc' Ls (.int (x <<< (y &&& 31)) :: st)))) : own_Fin p.tables e below Rr (T.setTop (mkF m pc Ls (.int y :: .int x :: st))) := by
  obtain ⟨hd, rfl⟩ := hd; subst hby
  exact own_pre (fun t k => XS.ishl X.here hx rfl hd rfl k) h
theorem o_ishr (X : Stand p l e R s m args below meth c T locs cells slots) (hx : p.tables.exec = Jvm.exec) (hby : c.code = code) {x y : Int32} (hd : own_at code pc (.ishr) 1 pc') 
    (h : own_Fin p.tables e below Rr (T.setTop (mkF m pc' Ls (.int (x >>> (y &&& 31)) :: st)))) : own_Fin p.tables e below Rr (T.setTop (mkF m pc Ls (.int y :: .int x :: st))) := by
  obtain ⟨hd, rfl⟩ := hd; subst hby
  exact own_pre (fun t k => XS.ishr X.here hx rfl hd rfl k) h
theorem o_iushr (X : Stand p l e R s m args below meth c T locs cells slots) (hx : p.tables.exec = Jvm.exec) (hby : c.code = code) {x y : Int32} (hd : own_at code pc (.iushr) 1 pc') 
    (h : own_Fin p.tables e below Rr (T.setTop (mkF m pc' Ls (.int ((x.toUInt32 >>> (y &&& 31).toUInt32).toInt32) :: st)))) : own_Fin p.tables e below Rr (T.setTop (mkF m pc Ls (.int y :: .int x :: st))) := by
  obtain ⟨hd, rfl⟩ := hd; subst hby
  exact own_pre (fun t k => XS.iushr X.here hx rfl hd rfl k) h
theorem o_lshl (X : Stand p l e R s m args below meth c T locs cells slots) (hx : p.tables.exec = Jvm.exec) (hby : c.code = code) {x : Int64} {y : Int32} (hd : own_at code pc (.lshl) 1 pc') 
    (h : own_Fin p.tables e below Rr (T.setTop (mkF m pc' Ls (.long (x <<< (y &&& 0x3f).toInt64) :: st)))) : own_Fin p.tables e below Rr (T.setTop (mkF m pc Ls (.int y :: .long x :: st))) := by
  obtain ⟨hd, rfl⟩ := hd; subst hby
  exact own_pre (fun t k => XS.lshl X.here hx rfl hd rfl k) h
theorem o_lshr (X : Stand p l e R s m args below meth c T locs cells slots) (hx : p.tables.exec = Jvm.exec) (hby : c.code = code) {x : Int64} {y : Int32} (hd : own_at code pc (.lshr) 1 pc') 
    (h : own_Fin p.tables e below Rr (T.setTop (mkF m pc' Ls (.long (x >>> (y &&& 0x3f).toInt64) :: st)))) : own_Fin p.tables e below Rr (T.setTop (mkF m pc Ls (.int y :: .long x :: st))) := by
  obtain ⟨hd, rfl⟩ := hd; subst hby
  exact own_pre (fun t k => XS.lshr X.here hx rfl hd rfl k) h
theorem o_lushr (X : Stand p l e R s m args below meth c T locs cells slots) (hx : p.tables.exec = Jvm.exec) (hby : c.code = code) {x : Int64} {y : Int32} (hd : own_at code pc (.lushr) 1 pc') 
    (h : own_Fin p.tables e below Rr (T.setTop (mkF m pc' Ls (.long ((x.toUInt64 >>> (y &&& 0x3f).toInt64.toUInt64).toInt64) :: st)))) : own_Fin p.tables e below Rr (T.setTop (mkF m pc Ls (.int y :: .long x :: st))) := by
  obtain ⟨hd, rfl⟩ := hd; subst hby
  exact own_pre (fun t k => XS.lushr X.here hx rfl hd rfl k) h
theorem o_ineg (X : Stand p l e R s m args below meth c T locs cells slots) (hx : p.tables.exec = Jvm.exec) (hby : c.code = code) {x : Int32} (hd : own_at code pc (.ineg) 1 pc') 
    (h : own_Fin p.tables e below Rr (T.setTop (mkF m pc' Ls (.int (-x) :: st)))) : own_Fin p.tables e below Rr (T.setTop (mkF m pc Ls (.int x :: st))) := by
  obtain ⟨hd, rfl⟩ := hd; subst hby
  exact own_pre (fun t k => XS.ineg X.here hx rfl hd rfl k) h
theorem o_lneg (X : Stand p l e R s m args below meth c T locs cells slots) (hx : p.tables.exec = Jvm.exec) (hby : c.code = code) {x : Int64} (hd : own_at code pc (.lneg) 1 pc') 
    (h : own_Fin p.tables e below Rr (T.setTop (mkF m pc' Ls (.long (-x) :: st)))) : own_Fin p.tables e below Rr (T.setTop (mkF m pc Ls (.long x :: st))) := by
  obtain ⟨hd, rfl⟩ := hd; subst hby
  exact own_pre (fun t k => XS.lneg X.here hx rfl hd rfl k) h
theorem o_i2l (X : Stand p l e R s m args below meth c T locs cells slots) (hx : p.tables.exec = Jvm.exec) (hby : c.code = code) {x : Int32} (hd : own_at code pc (.i2l) 1 pc') 
    (h : own_Fin p.tables e below Rr (T.setTop (mkF m pc' Ls (.long (x.toInt64) :: st)))) : own_Fin p.tables e below Rr (T.setTop (mkF m pc Ls (.int x :: st))) := by
  obtain ⟨hd, rfl⟩ := hd; subst hby
  exact own_pre (fun t k => XS.i2l X.here hx rfl hd rfl k) h
theorem o_l2i (X : Stand p l e R s m args below meth c T locs cells slots) (hx : p.tables.exec = Jvm.exec) (hby : c.code = code) {x : Int64} (hd : own_at code pc (.l2i) 1 pc') 
    (h : own_Fin p.tables e below Rr (T.setTop (mkF m pc' Ls (.int (x.toInt32) :: st)))) : own_Fin p.tables e below Rr (T.setTop (mkF m pc Ls (.long x :: st))) := by
  obtain ⟨hd, rfl⟩ := hd; subst hby
  exact own_pre (fun t k => XS.l2i X.here hx rfl hd rfl k) h
theorem o_i2b (X : Stand p l e R s m args below meth c T locs cells slots) (hx : p.tables.exec = Jvm.exec) (hby : c.code = code) {x : Int32} (hd : own_at code pc (.i2b) 1 pc') 
    (h : own_Fin p.tables e below Rr (T.setTop (mkF m pc' Ls (.int (x.toInt8.toInt32) :: st)))) : own_Fin p.tables e below Rr (T.setTop (mkF m pc Ls (.int x :: st))) := by
  obtain ⟨hd, rfl⟩ := hd; subst hby
  exact own_pre (fun t k => XS.i2b X.here hx rfl hd rfl k) h
theorem o_i2s (X : Stand p l e R s m args below meth c T locs cells slots) (hx : p.tables.exec = Jvm.exec) (hby : c.code = code) {x : Int32} (hd : own_at code pc (.i2s) 1 pc') 
    (h : own_Fin p.tables e below Rr (T.setTop (mkF m pc' Ls (.int (x.toInt16.toInt32) :: st)))) : own_Fin p.tables e below Rr (T.setTop (mkF m pc Ls (.int x :: st))) := by
  obtain ⟨hd, rfl⟩ := hd; subst hby
  exact own_pre (fun t k => XS.i2s X.here hx rfl hd rfl k) h
theorem o_i2c (X : Stand p l e R s m args below meth c T locs cells slots) (hx : p.tables.exec = Jvm.exec) (hby : c.code = code) {x : Int32} (hd : own_at code pc (.i2c) 1 pc') 
    (h : own_Fin p.tables e below Rr (T.setTop (mkF m pc' Ls (.int (x.toUInt32.toUInt16.toUInt32.toInt32) :: st)))) : own_Fin p.tables e below Rr (T.setTop (mkF m pc Ls (.int x :: st))) := by
  obtain ⟨hd, rfl⟩ := hd; subst hby
  exact own_pre (fun t k => XS.i2c X.here hx rfl hd rfl k) h
theorem o_idiv (X : Stand p l e R s m args below meth c T locs cells slots) (hx : p.tables.exec = Jvm.exec) (hby : c.code = code) {x y : Int32} (hd : own_at code pc (.idiv) 1 pc') (hy : y ≠ 0)
    (h : own_Fin p.tables e below Rr (T.setTop (mkF m pc' Ls (.int (x / y) :: st)))) : own_Fin p.tables e below Rr (T.setTop (mkF m pc Ls (.int y :: .int x :: st))) := by
  obtain ⟨hd, rfl⟩ := hd; subst hby
  exact own_pre (fun t k => XS.idiv X.here hx rfl hd rfl hy k) h
theorem o_ldiv (X : Stand p l e R s m args below meth c T locs cells slots) (hx : p.tables.exec = Jvm.exec) (hby : c.code = code) {x y : Int64} (hd : own_at code pc (.ldiv) 1 pc') (hy : y ≠ 0)
    (h : own_Fin p.tables e below Rr (T.setTop (mkF m pc' Ls (.long (x / y) :: st)))) : own_Fin p.tables e below Rr (T.setTop (mkF m pc Ls (.long y :: .long x :: st))) := by
  obtain ⟨hd, rfl⟩ := hd; subst hby
  exact own_pre (fun t k => XS.ldiv X.here hx rfl hd rfl hy k) h
theorem o_irem (X : Stand p l e R s m args below meth c T locs cells slots) (hx : p.tables.exec = Jvm.exec) (hby : c.code = code) {x y : Int32} (hd : own_at code pc (.irem) 1 pc') (hy : y ≠ 0)
    (h : own_Fin p.tables e below Rr (T.setTop (mkF m pc' Ls (.int (x % y) :: st)))) : own_Fin p.tables e below Rr (T.setTop (mkF m pc Ls (.int y :: .int x :: st))) := by
  obtain ⟨hd, rfl⟩ := hd; subst hby
  exact own_pre (fun t k => iremM X hx rfl hd rfl hy k) h
theorem o_lcmp (X : Stand p l e R s m args below meth c T locs cells slots) (hx : p.tables.exec = Jvm.exec) (hby : c.code = code) {x y : Int64} (hd : own_at code pc (.lcmp) 1 pc') 
    (h : own_Fin p.tables e below Rr (T.setTop (mkF m pc' Ls (.int (lcmpW x y) :: st)))) : own_Fin p.tables e below Rr (T.setTop (mkF m pc Ls (.long y :: .long x :: st))) := by
  obtain ⟨hd, rfl⟩ := hd; subst hby
  exact own_pre (fun t k => XS.lcmp X.here hx rfl hd rfl k) h
theorem o_iinc (X : Stand p l e R s m args below meth c T locs cells slots) (hx : p.tables.exec = Jvm.exec) (hby : c.code = code) {k : Nat} {i : Int} {x : Int32} {l' : Array Slot} (hd : own_at code pc (.iinc k i) 3 pc') (hl : Ls[k]? = some (.val (.int x))) (hl' : storeLocals Ls k (.int (x + Int32.ofInt i)) = some l')
    (h : own_Fin p.tables e below Rr (T.setTop (mkF m pc' l' (st)))) : own_Fin p.tables e below Rr (T.setTop (mkF m pc Ls (st))) := by
  obtain ⟨hd, rfl⟩ := hd; subst hby
  exact own_pre (fun t k => XS.iinc X.here hx rfl hd hl hl' k) h
theorem o_dup (X : Stand p l e R s m args below meth c T locs cells slots) (hx : p.tables.exec = Jvm.exec) (hby : c.code = code) {v : Value} (hd : own_at code pc (.dup) 1 pc') (hv : v.category = 1)
    (h : own_Fin p.tables e below Rr (T.setTop (mkF m pc' Ls (v :: v :: st)))) : own_Fin p.tables e below Rr (T.setTop (mkF m pc Ls (v :: st))) := by
  obtain ⟨hd, rfl⟩ := hd; subst hby
  exact own_pre (fun t k => XS.dup X.here hx rfl hd rfl hv k) h
theorem o_pop (X : Stand p l e R s m args below meth c T locs cells slots) (hx : p.tables.exec = Jvm.exec) (hby : c.code = code) {v : Value} (hd : own_at code pc (.pop) 1 pc') (hv : v.category = 1)
    (h : own_Fin p.tables e below Rr (T.setTop (mkF m pc' Ls (st)))) : own_Fin p.tables e below Rr (T.setTop (mkF m pc Ls (v :: st))) := by
  obtain ⟨hd, rfl⟩ := hd; subst hby
  exact own_pre (fun t k => XS.pop X.here hx rfl hd rfl hv k) h
theorem o_dupX1 (X : Stand p l e R s m args below meth c T locs cells slots) (hx : p.tables.exec = Jvm.exec) (hby : c.code = code) {v w : Value} (hd : own_at code pc (.dup_x1) 1 pc') (hv : v.category = 1) (hw : w.category = 1)
    (h : own_Fin p.tables e below Rr (T.setTop (mkF m pc' Ls (v :: w :: v :: st)))) : own_Fin p.tables e below Rr (T.setTop (mkF m pc Ls (v :: w :: st))) := by
  obtain ⟨hd, rfl⟩ := hd; subst hby
  exact own_pre (fun t k => XS.dupX1 X.here hx rfl hd rfl hv hw k) h
theorem o_goto (X : Stand p l e R s m args below meth c T locs cells slots) (hx : p.tables.exec = Jvm.exec) (hby : c.code = code) {o : Int} {q : Nat} (hd : own_at code pc (.goto o) 3 pc') (ho : 0 ≤ (pc : Int) + o) (hp : ((pc : Int) + o).toNat = q)
    (h : own_Fin p.tables e below Rr (T.setTop (mkF m q Ls st))) : own_Fin p.tables e below Rr (T.setTop (mkF m pc Ls st)) := by
  obtain ⟨hd, rfl⟩ := hd; subst hby
  exact own_pre (fun t k => XS.goto X.here hx rfl (pc0 := pc) (pc' := q) rfl hd ho hp k) h
theorem o_ifY (X : Stand p l e R s m args below meth c T locs cells slots) (hx : p.tables.exec = Jvm.exec) (hby : c.code = code) {cd : ClassFile.Cond} {o : Int} {x : Int32} {q : Nat} (hd : own_at code pc (.ifCond cd o) 3 pc') (hc : ifCond.holds cd x = true) (ho : 0 ≤ (pc : Int) + o) (hp : ((pc : Int) + o).toNat = q)
    (h : own_Fin p.tables e below Rr (T.setTop (mkF m q Ls st))) : own_Fin p.tables e below Rr (T.setTop (mkF m pc Ls (.int x :: st))) := by
  obtain ⟨hd, rfl⟩ := hd; subst hby
  exact own_pre (fun t k => XS.ifYes X.here hx rfl (pc0 := pc) (pc' := q) rfl hd rfl hc ho hp k) h
theorem o_ifN (X : Stand p l e R s m args below meth c T locs cells slots) (hx : p.tables.exec = Jvm.exec) (hby : c.code = code) {cd : ClassFile.Cond} {o : Int} {x : Int32} (hd : own_at code pc (.ifCond cd o) 3 pc') (hc : ifCond.holds cd x = false)
    (h : own_Fin p.tables e below Rr (T.setTop (mkF m pc' Ls st))) : own_Fin p.tables e below Rr (T.setTop (mkF m pc Ls (.int x :: st))) := by
  obtain ⟨hd, rfl⟩ := hd; subst hby
  exact own_pre (fun t k => XS.ifNo X.here hx rfl hd rfl hc k) h
theorem o_icmpY (X : Stand p l e R s m args below meth c T locs cells slots) (hx : p.tables.exec = Jvm.exec) (hby : c.code = code) {cd : ClassFile.Cond} {o : Int} {x y : Int32} {q : Nat} (hd : own_at code pc (.if_icmp cd o) 3 pc') (hc : if_icmp.holds cd x y = true) (ho : 0 ≤ (pc : Int) + o) (hp : ((pc : Int) + o).toNat = q)
    (h : own_Fin p.tables e below Rr (T.setTop (mkF m q Ls st))) : own_Fin p.tables e below Rr (T.setTop (mkF m pc Ls (.int y :: .int x :: st))) := by
  obtain ⟨hd, rfl⟩ := hd; subst hby
  exact own_pre (fun t k => XS.icmpYes X.here hx rfl (pc0 := pc) (pc' := q) rfl hd rfl hc ho hp k) h
theorem o_icmpN (X : Stand p l e R s m args below meth c T locs cells slots) (hx : p.tables.exec = Jvm.exec) (hby : c.code = code) {cd : ClassFile.Cond} {o : Int} {x y : Int32} (hd : own_at code pc (.if_icmp cd o) 3 pc') (hc : if_icmp.holds cd x y = false)
    (h : own_Fin p.tables e below Rr (T.setTop (mkF m pc' Ls st))) : own_Fin p.tables e below Rr (T.setTop (mkF m pc Ls (.int y :: .int x :: st))) := by
  obtain ⟨hd, rfl⟩ := hd; subst hby
  exact own_pre (fun t k => XS.icmpNo X.here hx rfl hd rfl hc k) h
theorem o_ldc (X : Stand p l e R s m args below meth c T locs cells slots) (hx : p.tables.exec = Jvm.exec) (hby : c.code = code) {own : String} {index : Nat} {v : Int32} (hown : s.vm.findClass own = some m.cls) (hc : (Cond.constant own index v).before args s = true) (hd : own_at code pc (.ldc index) 2 pc')
    (h : own_Fin p.tables e below Rr (T.setTop (mkF m pc' Ls (.int v :: st)))) : own_Fin p.tables e below Rr (T.setTop (mkF m pc Ls st)) := by
  obtain ⟨hd, rfl⟩ := hd; subst hby
  exact own_pre (fun t k => X.ldcInt hx hown hc (g := mkF m pc Ls st) rfl hd t k) h
theorem o_ldc2 (X : Stand p l e R s m args below meth c T locs cells slots) (hx : p.tables.exec = Jvm.exec) (hby : c.code = code) {own : String} {index : Nat} {v : Int64} (hown : s.vm.findClass own = some m.cls) (hc : (Cond.constantLong own index v).before args s = true) (hd : own_at code pc (.ldc2_w index) 3 pc')
    (h : own_Fin p.tables e below Rr (T.setTop (mkF m pc' Ls (.long v :: st)))) : own_Fin p.tables e below Rr (T.setTop (mkF m pc Ls st)) := by
  obtain ⟨hd, rfl⟩ := hd; subst hby
  exact own_pre (fun t k => X.ldc2Long hx hown hc (g := mkF m pc Ls st) rfl hd t k) h
end Steps1

end New
end Jvm.RoadKit
namespace Jvm.Pilot.@@N@@
open Jvm Jvm.ClassFile Sem Op Lib Jvm.Free Jvm.Stand Jvm.LawKit Jvm.RoadKit Bundle Jvm.Pilot.@@N@@.Jvm.D
theorem own_wd {Z : State} {a0 : Array Value} (hw : ∀ d ∈ tables_1, d.before a0 Z = true) {i : Nat} {d : Jvm.Cond} (h : tables_1[i]? = some d) : d.before a0 Z = true := hw _ (List.mem_of_getElem? h)
def own_Q0 (n0 : Nat) (v : Option Value) (h : Heap) (L : List Loc) : Prop := v = some (.int 1) ∧ Fr n0 L
theorem own_pos (x : Int32) (h : ¬ (x &&& 2147483647) = 0) : ¬ ((x &&& 2147483647) < (1 : Int32)) := by
  have e1 : (x &&& 2147483647).toInt = x.toInt % 2 ^ 31 := Jvm.Kit.i32_mask x 2147483647 (k := 31) (by decide) (by decide)
  intro q
  rw [Int32.lt_iff_toInt_lt] at q
  apply h
  rw [← Int32.toInt_inj]
  rw [e1] at *
  have : (1 : Int32).toInt = 1 := rfl
  have : (0 : Int32).toInt = 0 := rfl
  omega
theorem D1_0 : own_at prog_20_method_2_code 0 (.iload_n 0) 1 1 := ⟨by decide +kernel, rfl⟩
theorem D1_1 : own_at prog_20_method_2_code 1 (.iconst 1) 1 2 := ⟨by decide +kernel, rfl⟩
theorem D1_2 : own_at prog_20_method_2_code 2 (.if_icmp .ge 17) 3 5 := ⟨by decide +kernel, rfl⟩
theorem D1_19 : own_at prog_20_method_2_code 19 (.iload_n 0) 1 20 := ⟨by decide +kernel, rfl⟩
theorem D1_20 : own_at prog_20_method_2_code 20 (.ireturn) 1 21 := ⟨by decide +kernel, rfl⟩
theorem pn_com_example_tidings_tidings_internal_ExecutorTopic : plainName "com/example/tidings/tidings/internal/ExecutorTopic" = true := by first | (simp [plainName, overriddenIn]; done) | decide +kernel
theorem ef_rm1 (m : MethodId) (p0 : Int32) : entryFrame m #[(.int p0)] 1 = mkF m 0 #[.val (.int p0)] [] := by first | (simp [entryFrame, mkF, argsToLocals, Value.category]; done) | rfl
set_option maxRecDepth 65536 in
set_option maxHeartbeats 40000000 in
theorem rm1 (l : Launch) (Z : State) (a0 : Array Value) (hw : ∀ d ∈ tables_1, d.before a0 Z = true) (ws : List Jvm.Cond) (p0 : Int32)  (h0 : Heap) (n0 : Nat) (Z0 : n0 ≤ h0.size) (hp : ¬ (p0 < (1 : Int32))) :
    MetFree l (⟨"com/example/tidings/tidings/internal/ExecutorTopic", "requireBufferSize", "(I)I"⟩ : MethodName) (head1 (Jvm.Cond.code (⟨"com/example/tidings/tidings/internal/ExecutorTopic", "requireBufferSize", "(I)I"⟩ : MethodName) prog_20_method_2_code 1 (some .int) :: ws) ({ frames := 0, cells := 0, slots := 0, locals := 0 } : Room)) (fun a U => a = #[(.int p0)] ∧ Z.Warmed39 U.vm ∧ U.heap = h0) (fun _ _ _ _ _ => True) (fun _ U o U' => ∃ v L, o = .returned v ∧ own_QP (.int p0) h0 n0 v U'.heap L ∧ FrameEnd U o U' L ({ frames := 0, cells := 0, slots := 0, locals := 0 } : Room).cells ({ frames := 0, cells := 0, slots := 0, locals := 0 } : Room).slots) := by
  refine MetFree.of_bodySF (plainFor_of_name pn_com_example_tidings_tidings_internal_ExecutorTopic) hisR ?_
  intro p e s m args below meth c s₁ Bd hml0 hP hK
  obtain ⟨rfl, hZ, hh⟩ := hP
  have hx := Bd.exec
  have hby := Bd.bytes
  have hml : c.maxLocals = 1 := hml0
  have hown : s.vm.findClass "com/example/tidings/tidings/internal/ExecutorTopic" = some m.cls := findClass_of_methodNamed Bd.named
  have hnm := (name_of_methodNamed Bd.named Bd.method).1
  have X0 : Stand p l e ({ frames := 0, cells := 0, slots := 0, locals := 0 } : Room) s m #[(.int p0)] below meth c s₁ [] 0 0 := Stand.of_body Bd
  have e0 : s₁.heap = h0 := by rw [← hh, Bd.state]; rfl
  have N0 := Fr.nil n0
  refine own_start (ef_rm1 m p0) ?_
  refine o_iloadN X0 hx hby D1_0 rfl ?_
  refine o_iconst X0 hx hby D1_1 (v := 1) rfl ?_
  refine o_icmpY X0 hx hby D1_2 (flt (hp : ¬ (p0 < (1 : Int32)))).2.1 (q := 19) (by decide) (by decide) ?_
  refine o_iloadN X0 hx hby D1_19 rfl ?_
  exact own_ret (v := some (.int p0)) X0 (fun h => by first | rfl | (rw [Bd.returns] at h; cases h)) (BodyLoose.notSynchronized Bd) (by decide) (by decide) (⟨rfl, N0, e0⟩) (fun fs hr => retI X0 hx Bd.returns (hb hby D1_20.1) hr)
theorem pd__40I_41I : parseMethodDescriptor "(I)I" = some ⟨[.int], some .int⟩ := by decide +kernel
theorem D0_0 : own_at code 0 (.iload_n 0) 1 1 := ⟨at_0, rfl⟩
theorem D0_1 : own_at code 1 (.ldc 7) 2 3 := ⟨at_1, rfl⟩
theorem D0_3 : own_at code 3 (.iand) 1 4 := ⟨at_3, rfl⟩
theorem D0_4 : own_at code 4 (.istore_n 1) 1 5 := ⟨at_4, rfl⟩
theorem D0_5 : own_at code 5 (.iload_n 1) 1 6 := ⟨at_5, rfl⟩
theorem D0_6 : own_at code 6 (.ifCond .ne 5) 3 9 := ⟨at_6, rfl⟩
theorem D0_9 : own_at code 9 (.iconst 1) 1 10 := ⟨at_9, rfl⟩
theorem D0_10 : own_at code 10 (.istore_n 1) 1 11 := ⟨at_10, rfl⟩
theorem D0_11 : own_at code 11 (.iload_n 1) 1 12 := ⟨at_11, rfl⟩
theorem D0_12 : own_at code 12 (.invokestatic 8) 3 15 := ⟨at_12, rfl⟩
theorem D0_15 : own_at code 15 (.istore_n 2) 1 16 := ⟨at_15, rfl⟩
theorem D0_16 : own_at code 16 (.iload_n 2) 1 17 := ⟨at_16, rfl⟩
theorem D0_17 : own_at code 17 (.iload_n 1) 1 18 := ⟨at_17, rfl⟩
theorem D0_18 : own_at code 18 (.if_icmp .ne 7) 3 21 := ⟨at_18, rfl⟩
theorem D0_21 : own_at code 21 (.iconst 1) 1 22 := ⟨at_21, rfl⟩
theorem D0_22 : own_at code 22 (.goto 4) 3 25 := ⟨at_22, rfl⟩
theorem D0_26 : own_at code 26 (.ireturn) 1 27 := ⟨at_26, rfl⟩
theorem pn_com_example_tidings_tidings_internal_ExecutorTopicRequireBufferSizePinLaw : plainName "com/example/tidings/tidings/internal/ExecutorTopicRequireBufferSizePinLaw" = true := by first | (simp [plainName, overriddenIn]; done) | decide +kernel
theorem ef_rm0 (m : MethodId) (p0 : Int32) : entryFrame m #[(.int p0)] maxLocals = mkF m 0 #[.val (.int p0), .unset, .unset] [] := by first | (simp [entryFrame, mkF, argsToLocals, Value.category, maxLocals]; done) | rfl
set_option maxRecDepth 65536 in
set_option maxHeartbeats 40000000 in
theorem rm0 (l : Launch) (Z : State) (a0 : Array Value) (hw : ∀ d ∈ tables_1, d.before a0 Z = true) (ws : List Jvm.Cond) (p0 : Int32)  (h0 : Heap) (n0 : Nat) (Z0 : n0 ≤ h0.size)  :
    MetFree l x (head1 (Jvm.Cond.code x code maxLocals ret :: ws) room_1) (fun a U => a = #[(.int p0)] ∧ Z.Warmed39 U.vm ∧ U.heap = h0) (fun _ _ _ _ _ => True) (fun _ U o U' => ∃ v L, o = .returned v ∧ own_Q0 n0 v U'.heap L ∧ FrameEnd U o U' L room_1.cells room_1.slots) := by
  refine MetFree.of_bodySF (plainFor_of_name pn_com_example_tidings_tidings_internal_ExecutorTopicRequireBufferSizePinLaw) hisR ?_
  intro p e s m args below meth c s₁ Bd hml0 hP hK
  obtain ⟨rfl, hZ, hh⟩ := hP
  have hx := Bd.exec
  have hby := Bd.bytes
  have hml : c.maxLocals = 3 := hml0
  have hown : s.vm.findClass "com/example/tidings/tidings/internal/ExecutorTopicRequireBufferSizePinLaw" = some m.cls := findClass_of_methodNamed Bd.named
  have hnm := (name_of_methodNamed Bd.named Bd.method).1
  have X0 : Stand p l e room_1 s m #[(.int p0)] below meth c s₁ [] 0 0 := Stand.of_body Bd
  have e0 : s₁.heap = h0 := by rw [← hh, Bd.state]; rfl
  have N0 := Fr.nil n0
  refine own_start (ef_rm0 m p0) ?_
  refine o_iloadN X0 hx hby D0_0 rfl ?_
  refine o_ldc X0 hx hby hown (mvT hZ (own_wd hw (i := 0) rfl)) D0_1 ?_
  refine o_iand X0 hx hby D0_3 ?_
  refine o_istoreN X0 hx hby D0_4 (l' := #[.val (.int p0), .val (.int (p0 &&& (2147483647 : Int32))), .unset]) rfl ?_
  refine o_iloadN X0 hx hby D0_5 rfl ?_
  by_cases hc6_1 : (p0 &&& (2147483647 : Int32)) = (0 : Int32)
  · skip
    refine o_ifN X0 hx hby D0_6 ((if0 _ _).trans (teq hc6_1).2) ?_
    refine o_iconst X0 hx hby D0_9 (v := 1) rfl ?_
    refine o_istoreN X0 hx hby D0_10 (l' := #[.val (.int p0), .val (.int (1 : Int32)), .unset]) rfl ?_
    refine o_iloadN X0 hx hby D0_11 rfl ?_
    obtain ⟨_, _, ⟨T2, L2, k2, n2⟩, -, X2, ⟨Lc2, hQ2, l2, y2, z2⟩, st2⟩ := Jvm.LawKit.callS X0 hx (y := (⟨"com/example/tidings/tidings/internal/ExecutorTopic", "requireBufferSize", "(I)I"⟩ : MethodName)) hown (mvT hZ (own_wd hw (i := 1) rfl)) (mvT hZ (own_wd hw (i := 2) rfl)) (mvT hZ (own_wd hw (i := 3) rfl)) (mvT hZ (own_wd hw (i := 4) rfl)) (by decide) (backOf (W := 0) (rm1 l Z a0 hw [] (1 : Int32)  h0 n0 Z0 (by decide)) hZ (own_wd hw (i := 4) rfl) (own_wd hw (i := 3) rfl) (by decide) (by decide)) (g := (mkF m 12 #[.val (.int p0), .val (.int (1 : Int32)), .unset] [(.int (1 : Int32))])) rfl (by rw [hml]; rfl) (argsL := [(.int (1 : Int32))]) (rest := []) (lenOf pd__40I_41I rfl) rfl (by show 2 * 0 + _ ≤ _; exact Nat.le_of_eq rfl) (hb hby D0_12.1) (fun _ _ => ⟨rfl, e0, (by decide : 0 + 0 ≤ _), (by decide : 0 + 0 ≤ _)⟩)
    dsimp only [Pt.U, Pt.locs, Pt.cells, Pt.slots] at X2 l2 y2 z2 st2 hQ2
    subst l2 y2 z2
    obtain ⟨rfl, N2q, e2⟩ := hQ2
    have N2 := Fr.app N0 N2q
    refine own_pre (A' := T2.setTop (mkF m 15 #[.val (.int p0), .val (.int (1 : Int32)), .unset] [(.int (1 : Int32))])) st2 ?_
    refine o_istoreN X2 hx hby D0_15 (l' := #[.val (.int p0), .val (.int (1 : Int32)), .val (.int (1 : Int32))]) rfl ?_
    refine o_iloadN X2 hx hby D0_16 rfl ?_
    refine o_iloadN X2 hx hby D0_17 rfl ?_
    refine o_icmpN X2 hx hby D0_18 (teq (rfl : (1 : Int32) = (1 : Int32))).2 ?_
    refine o_iconst X2 hx hby D0_21 (v := 1) rfl ?_
    refine o_goto X2 hx hby D0_22 (q := 26) (by decide) (by decide) ?_
    exact own_ret (v := some (.int (1 : Int32))) X2 (fun h => by first | rfl | (rw [Bd.returns] at h; cases h)) (BodyLoose.notSynchronized Bd) (by decide) (by decide) (⟨rfl, N2⟩) (fun fs hr => retN X2 hx (t := .boolean) Bd.returns (by simp) (hb hby D0_26.1) hr)
  · skip
    refine o_ifY X0 hx hby D0_6 ((if0 _ _).trans (feq hc6_1).2) (q := 11) (by decide) (by decide) ?_
    refine o_iloadN X0 hx hby D0_11 rfl ?_
    obtain ⟨_, _, ⟨T3, L3, k3, n3⟩, -, X3, ⟨Lc3, hQ3, l3, y3, z3⟩, st3⟩ := Jvm.LawKit.callS X0 hx (y := (⟨"com/example/tidings/tidings/internal/ExecutorTopic", "requireBufferSize", "(I)I"⟩ : MethodName)) hown (mvT hZ (own_wd hw (i := 1) rfl)) (mvT hZ (own_wd hw (i := 2) rfl)) (mvT hZ (own_wd hw (i := 3) rfl)) (mvT hZ (own_wd hw (i := 4) rfl)) (by decide) (backOf (W := 0) (rm1 l Z a0 hw [] (p0 &&& (2147483647 : Int32))  h0 n0 Z0 (own_pos p0 hc6_1)) hZ (own_wd hw (i := 4) rfl) (own_wd hw (i := 3) rfl) (by decide) (by decide)) (g := (mkF m 12 #[.val (.int p0), .val (.int (p0 &&& (2147483647 : Int32))), .unset] [(.int (p0 &&& (2147483647 : Int32)))])) rfl (by rw [hml]; rfl) (argsL := [(.int (p0 &&& (2147483647 : Int32)))]) (rest := []) (lenOf pd__40I_41I rfl) rfl (by show 2 * 0 + _ ≤ _; exact Nat.le_of_eq rfl) (hb hby D0_12.1) (fun _ _ => ⟨rfl, e0, (by decide : 0 + 0 ≤ _), (by decide : 0 + 0 ≤ _)⟩)
    dsimp only [Pt.U, Pt.locs, Pt.cells, Pt.slots] at X3 l3 y3 z3 st3 hQ3
    subst l3 y3 z3
    obtain ⟨rfl, N3q, e3⟩ := hQ3
    have N3 := Fr.app N0 N3q
    refine own_pre (A' := T3.setTop (mkF m 15 #[.val (.int p0), .val (.int (p0 &&& (2147483647 : Int32))), .unset] [(.int (p0 &&& (2147483647 : Int32)))])) st3 ?_
    refine o_istoreN X3 hx hby D0_15 (l' := #[.val (.int p0), .val (.int (p0 &&& (2147483647 : Int32))), .val (.int (p0 &&& (2147483647 : Int32)))]) rfl ?_
    refine o_iloadN X3 hx hby D0_16 rfl ?_
    refine o_iloadN X3 hx hby D0_17 rfl ?_
    refine o_icmpN X3 hx hby D0_18 (teq (rfl : (p0 &&& (2147483647 : Int32)) = (p0 &&& (2147483647 : Int32)))).2 ?_
    refine o_iconst X3 hx hby D0_21 (v := 1) rfl ?_
    refine o_goto X3 hx hby D0_22 (q := 26) (by decide) (by decide) ?_
    exact own_ret (v := some (.int (1 : Int32))) X3 (fun h => by first | rfl | (rw [Bd.returns] at h; cases h)) (BodyLoose.notSynchronized Bd) (by decide) (by decide) (⟨rfl, N3⟩) (fun fs hr => retN X3 hx (t := .boolean) Bd.returns (by simp) (hb hby D0_26.1) hr)
set_option maxRecDepth 65536 in
set_option maxHeartbeats 40000000 in
theorem comes_1 {Post : Tables → Env → Array Value → State → Outcome → State → Prop} (hpost : ∀ tb e args s v u, (limb_1_1.after args s (.returned v) u = true ∧ limb_1_2.after args s (.returned v) u = true ∧ True) → FrameEnd s (.returned v) u (Jvm.fieldLocs frame_1_writes args s ++ Jvm.arrayLocs frame_1_arrays args s ++ Jvm.staticLocs frame_1_statics s) 0 0 → Post tb e args s (.returned v) u) :
    ArmFor flags0 classFile x code maxLocals ret World_1 tables_1 room_1 Calls_1 rest_1 Pre_1 Post := by
  intro l hfl _ _ p e ha hc hk s m args below hf hA hF happ hP
  obtain ⟨hcalls, hrest, hpre⟩ := hP
  obtain ⟨-, -, -, hnamed, -, -, -, hat⟩ := (Spec.applies_iff hf).mp happ
  obtain ⟨hg, hn⟩ := and_e (Cond.before_iff.mp (show (Jvm.Cond.and given_1 narrow_1).before args s = true from hpre))
  obtain ⟨gc, gr0⟩ := and_e hg
  obtain ⟨w0, rfl⟩ : ∃ w0 : Value, args = #[w0] := by
    have hs : args.size = 1 := by simpa [Cond.value, given_1] using gc
    obtain ⟨L⟩ := args
    match L, hs with
    | [w0], _ => exact ⟨w0, rfl⟩
  have hw := fun d (hd : d ∈ tables_1) => atoms_spec (ws := Jvm.Cond.code x code maxLocals ret :: tables_1) hat d (List.mem_cons_of_mem _ hd)
  obtain ⟨i0, ei0⟩ := is_v gr0
  obtain rfl : w0 = (.int i0) := Option.some.inj ei0
  obtain ⟨n, o, h1, h2, h3, _, L, rfl, ⟨rfl, N⟩, hq⟩ := rm0 l s _ hw tables_1 i0 s.heap s.heap.size (Nat.le_refl _)  p e ha hc hk s m _ below hf ((Spec.applies_iff_loose hf).mp happ).1 ⟨rfl, State.Warmed39.refl s, rfl⟩ trivial
  refine ⟨n, _, h1, h2, h3, hpost _ _ _ _ _ _ ⟨Cond.after_iff.mpr rfl, Cond.after_iff.mpr (eq_i res_at (Term.int_eval (1)) rfl), trivial⟩ ⟨hq.1, hq.2.1, (hq.2.2.sift fun y hy => Or.inr (N y hy)).mono (by decide) (by decide)⟩⟩
theorem main_1_1 : Claimed_1_1 := comes_1 fun _ _ _ _ _ _ h hF => ⟨h.1, hF⟩
theorem main_1_2 : Claimed_1_2 := comes_1 fun _ _ _ _ _ _ h hF => ⟨h.2.1, hF⟩
end Jvm.Pilot.@@N@@
namespace Jvm.Pilot.@@N@@
open Jvm Jvm.ClassFile Sem Op Lib Jvm.Free Jvm.Stand Jvm.Pilot.@@N@@.Jvm.D
/-! MADE BY PROGRAM (witnessworld.py) out of the Statement's table words and the real class files: 11 classes; the members and pool entries that the words name. The judged class is class 1, her method 1. -/
namespace start1
open Jvm.ClassFile
def u (s : String) : CpInfo := .utf8 (stringToUtf16 s)
/-- a pool by its gaps: so many unusable entries, then the entry; so many at the end -/
def gap : Nat → List CpInfo → List CpInfo
  | 0, r => r
  | n + 1, r => .unusable :: gap n r
def poolList (es : List (Nat × CpInfo)) (last : Nat) : List CpInfo := es.foldr (fun e r => gap e.1 (e.2 :: r)) (gap last [])
def pool (es : List (Nat × CpInfo)) (last : Nat) : Array CpInfo := ⟨poolList es last⟩
def fileOf (pool : Array CpInfo) (this : Nat) (attrs : Array Attribute := #[]) (ms : Array MethodInfo := #[]) (fl : Nat := 33) (sup : Nat := 0) (ifs : Array Nat := #[]) (fds : Array FieldInfo := #[]) : ClassFile where
  minorVersion := 0
  majorVersion := 65
  constantPool := pool
  accessFlags := fl
  thisClass := this
  superClass := sup
  interfaces := ifs
  fields := fds
  methods := ms
  attributes := attrs
def plain (name : String) (sup : Option ClassId) : Class where
  name := name
  kind := .ordinary
  loader := none
  accessFlags := 33
  super := sup
  interfaces := #[]
  cf := none
  fields := #[]
  methods := #[]
  instanceTypes := #[]
  staticTypes := #[]
  resolved := #[]
  callSites := []
  init := .initialized
  statics := none
  mirror := none

def pool0 : Array CpInfo := pool [(5, u "<init>"), (0, u "()V"), (1, .class_ 10), (1, u "java/lang/Object")] 113

def k0m0 : Method := { name := "<init>", desc := "()V", sig := { parameters := [], returnType := none }, accessFlags := 1, code := none }
/-- java/lang/Object -/
def k0 : Class := { plain "java/lang/Object" none with
  accessFlags := 33
  interfaces := #[]
  cf := some (fileOf pool0 8 #[] #[{ accessFlags := 1, nameIndex := 5, descriptorIndex := 6, attributes := #[] }] 33 0 #[] #[])
  fields := #[]
  methods := #[k0m0]
  instanceTypes := #[]
  staticTypes := #[]
  resolved := Array.replicate 124 none
  statics := none }

def pool1 : Array CpInfo := pool [(2, .class_ 4), (1, u "java/lang/Object"), (0, u "<init>"), (0, u "()V"), (0, .integer 2147483647), (0, .methodref 9 10), (0, .class_ 11), (0, .nameAndType 12 13), (0, u "com/example/tidings/tidings/internal/ExecutorTopic"), (0, u "requireBufferSize"), (0, u "(I)I"), (0, .class_ 15), (0, u "com/example/tidings/tidings/internal/ExecutorTopicRequireBufferSizePinLaw"), (2, u "law"), (0, u "(I)Z")] 3

def k1m0 : Method := { name := "<init>", desc := "()V", sig := { parameters := [], returnType := none }, accessFlags := 2, code := none }
def k1c1 : Code := { maxStack := 2, maxLocals := 3, code := code, exceptionTable := #[], attributes := #[] }
def k1m1 : Method := { name := "law", desc := "(I)Z", sig := { parameters := [.int], returnType := some .boolean }, accessFlags := 9, code := some k1c1 }
/-- com/example/tidings/tidings/internal/ExecutorTopicRequireBufferSizePinLaw -/
def k1 : Class := { plain "com/example/tidings/tidings/internal/ExecutorTopicRequireBufferSizePinLaw" (some 0) with
  accessFlags := 49
  interfaces := #[]
  cf := some (fileOf pool1 14 #[] #[{ accessFlags := 2, nameIndex := 5, descriptorIndex := 6, attributes := #[] }, { accessFlags := 9, nameIndex := 18, descriptorIndex := 19, attributes := #[] }] 49 2 #[] #[])
  fields := #[]
  methods := #[k1m0, k1m1]
  instanceTypes := #[]
  staticTypes := #[]
  resolved := Array.replicate 23 none
  statics := none }

def pool2 : Array CpInfo := pool [(2, .class_ 4), (1, u "com/example/tidings/tidings/Topic"), (3, .class_ 10), (1, u "com/example/tidings/tidings/Topic$Builder"), (10, .class_ 22), (0, u "java/lang/Object")] 43

/-- com/example/tidings/tidings/Topic -/
def k2 : Class := { plain "com/example/tidings/tidings/Topic" (some 0) with
  accessFlags := 1537
  interfaces := #[]
  cf := some (fileOf pool2 2 #[.nestMembers #[8]] #[] 1537 21 #[] #[])
  fields := #[]
  methods := #[]
  instanceTypes := #[]
  staticTypes := #[]
  resolved := Array.replicate 66 none
  statics := none }

def pool3 : Array CpInfo := pool [(2, .class_ 4), (1, u "java/lang/Object"), (3, .class_ 10), (1, u "com/example/tidings/tidings/internal/AbstractTopic"), (0, u "lock"), (0, u "Ljava/lang/Object;"), (5, u "owners"), (0, u "Ljava/lang/ref/ReferenceQueue;"), (18, u "name"), (0, u "Ljava/lang/String;"), (2, u "failureHandler"), (0, u "Lcom/example/tidings/tidings/FailureHandler;"), (2, u "cascadeLimit"), (0, u "I"), (2, u "none"), (0, u "[Lcom/example/tidings/tidings/internal/AbstractSubscription;"), (2, u "slots"), (0, .class_ 56), (0, u "com/example/tidings/tidings/internal/AbstractTopic$Snapshot"), (5, u "snapshot"), (0, u "Lcom/example/tidings/tidings/internal/AbstractTopic$Snapshot;"), (65, u "closed"), (0, u "Z"), (2, u "cause"), (0, u "Ljava/lang/Throwable;"), (20, u "removals"), (2, u "live"), (13, u "used"), (81, .class_ 255), (0, u "com/example/tidings/tidings/Topic")] 84

/-- com/example/tidings/tidings/internal/AbstractTopic -/
def k3 : Class := { plain "com/example/tidings/tidings/internal/AbstractTopic" (some 0) with
  accessFlags := 1056
  interfaces := #[2]
  cf := some (fileOf pool3 8 #[.nestMembers #[55]] #[] 1056 2 #[254] #[{ accessFlags := 18, nameIndex := 38, descriptorIndex := 39, attributes := #[] }, { accessFlags := 18, nameIndex := 42, descriptorIndex := 43, attributes := #[] }, { accessFlags := 18, nameIndex := 46, descriptorIndex := 47, attributes := #[] }, { accessFlags := 18, nameIndex := 11, descriptorIndex := 12, attributes := #[] }, { accessFlags := 18, nameIndex := 18, descriptorIndex := 19, attributes := #[] }, { accessFlags := 18, nameIndex := 50, descriptorIndex := 51, attributes := #[] }, { accessFlags := 2, nameIndex := 54, descriptorIndex := 51, attributes := #[] }, { accessFlags := 2, nameIndex := 172, descriptorIndex := 47, attributes := #[] }, { accessFlags := 2, nameIndex := 158, descriptorIndex := 47, attributes := #[] }, { accessFlags := 2, nameIndex := 155, descriptorIndex := 47, attributes := #[] }, { accessFlags := 66, nameIndex := 62, descriptorIndex := 63, attributes := #[] }, { accessFlags := 66, nameIndex := 129, descriptorIndex := 130, attributes := #[] }, { accessFlags := 2, nameIndex := 133, descriptorIndex := 134, attributes := #[] }])
  fields := #[{ name := "name", type := (.object "java/lang/String"), accessFlags := 18, slot := 0, constantValue := 0 }, { name := "failureHandler", type := (.object "com/example/tidings/tidings/FailureHandler"), accessFlags := 18, slot := 1, constantValue := 0 }, { name := "cascadeLimit", type := .int, accessFlags := 18, slot := 2, constantValue := 0 }, { name := "lock", type := (.object "java/lang/Object"), accessFlags := 18, slot := 3, constantValue := 0 }, { name := "owners", type := (.object "java/lang/ref/ReferenceQueue"), accessFlags := 18, slot := 4, constantValue := 0 }, { name := "none", type := (.array (.object "com/example/tidings/tidings/internal/AbstractSubscription")), accessFlags := 18, slot := 5, constantValue := 0 }, { name := "slots", type := (.array (.object "com/example/tidings/tidings/internal/AbstractSubscription")), accessFlags := 2, slot := 6, constantValue := 0 }, { name := "used", type := .int, accessFlags := 2, slot := 7, constantValue := 0 }, { name := "live", type := .int, accessFlags := 2, slot := 8, constantValue := 0 }, { name := "removals", type := .int, accessFlags := 2, slot := 9, constantValue := 0 }, { name := "snapshot", type := (.object "com/example/tidings/tidings/internal/AbstractTopic$Snapshot"), accessFlags := 66, slot := 10, constantValue := 0 }, { name := "closed", type := .boolean, accessFlags := 66, slot := 11, constantValue := 0 }, { name := "cause", type := (.object "java/lang/Throwable"), accessFlags := 2, slot := 12, constantValue := 0 }]
  methods := #[]
  instanceTypes := #[(.object "java/lang/String"), (.object "com/example/tidings/tidings/FailureHandler"), .int, (.object "java/lang/Object"), (.object "java/lang/ref/ReferenceQueue"), (.array (.object "com/example/tidings/tidings/internal/AbstractSubscription")), (.array (.object "com/example/tidings/tidings/internal/AbstractSubscription")), .int, .int, .int, (.object "com/example/tidings/tidings/internal/AbstractTopic$Snapshot"), .boolean, (.object "java/lang/Throwable")]
  staticTypes := #[]
  resolved := Array.replicate 340 none
  statics := none }

def pool4 : Array CpInfo := pool [(2, .class_ 4), (1, u "com/example/tidings/tidings/internal/ExecutorTopic"), (3, .class_ 10), (1, u "com/example/tidings/tidings/internal/AbstractTopic"), (10, u "closing"), (0, u "Ljava/util/Set;"), (7, u "reactions"), (0, u "Ljava/util/concurrent/atomic/AtomicLong;"), (2, u "offering"), (5, u "kept"), (0, u "Lcom/example/tidings/tidings/internal/FailureReport;"), (2, u "executor"), (0, u "Ljava/util/concurrent/Executor;"), (2, u "bufferSize"), (0, u "I"), (2, u "overflow"), (0, u "Lcom/example/tidings/tidings/Overflow;"), (19, .class_ 74), (0, u "com/example/tidings/tidings/internal/ExecutorTopic$Mailbox"), (14, u "requireBufferSize"), (0, u "(I)I"), (16, .class_ 108), (0, u "com/example/tidings/tidings/internal/ExecutorTopic$FlowMailbox"), (48, .class_ 158), (0, u "com/example/tidings/tidings/internal/ExecutorTopic$Publication"), (75, u "HANDLING"), (0, u "Ljava/lang/ThreadLocal;"), (152, .class_ 390), (1, u "com/example/tidings/tidings/internal/ExecutorTopic$Awaited"), (34, u "failed"), (0, u "Z"), (17, u "CLOSED"), (0, u "J"), (1, u "TOLD")] 105

def k4c0 : Code := { maxStack := 3, maxLocals := 1, code := prog_20_method_2_code, exceptionTable := #[], attributes := #[] }
def k4m0 : Method := { name := "requireBufferSize", desc := "(I)I", sig := { parameters := [.int], returnType := some .int }, accessFlags := 9, code := some k4c0 }
/-- com/example/tidings/tidings/internal/ExecutorTopic -/
def k4 : Class := { plain "com/example/tidings/tidings/internal/ExecutorTopic" (some 3) with
  accessFlags := 49
  interfaces := #[]
  cf := some (fileOf pool4 2 #[.nestMembers #[388, 157, 107, 73]] #[{ accessFlags := 9, nameIndex := 89, descriptorIndex := 90, attributes := #[] }] 49 8 #[] #[{ accessFlags := 26, nameIndex := 444, descriptorIndex := 445, attributes := #[] }, { accessFlags := 26, nameIndex := 447, descriptorIndex := 445, attributes := #[] }, { accessFlags := 26, nameIndex := 234, descriptorIndex := 235, attributes := #[] }, { accessFlags := 18, nameIndex := 44, descriptorIndex := 45, attributes := #[] }, { accessFlags := 18, nameIndex := 48, descriptorIndex := 49, attributes := #[] }, { accessFlags := 18, nameIndex := 52, descriptorIndex := 53, attributes := #[] }, { accessFlags := 18, nameIndex := 21, descriptorIndex := 22, attributes := #[] }, { accessFlags := 18, nameIndex := 30, descriptorIndex := 31, attributes := #[] }, { accessFlags := 18, nameIndex := 34, descriptorIndex := 31, attributes := #[] }, { accessFlags := 18, nameIndex := 40, descriptorIndex := 41, attributes := #[] }, { accessFlags := 66, nameIndex := 425, descriptorIndex := 426, attributes := #[] }])
  fields := #[{ name := "CLOSED", type := .long, accessFlags := 26, slot := 0, constantValue := 0 }, { name := "TOLD", type := .long, accessFlags := 26, slot := 1, constantValue := 0 }, { name := "HANDLING", type := (.object "java/lang/ThreadLocal"), accessFlags := 26, slot := 2, constantValue := 0 }, { name := "executor", type := (.object "java/util/concurrent/Executor"), accessFlags := 18, slot := 13, constantValue := 0 }, { name := "bufferSize", type := .int, accessFlags := 18, slot := 14, constantValue := 0 }, { name := "overflow", type := (.object "com/example/tidings/tidings/Overflow"), accessFlags := 18, slot := 15, constantValue := 0 }, { name := "closing", type := (.object "java/util/Set"), accessFlags := 18, slot := 16, constantValue := 0 }, { name := "reactions", type := (.object "java/util/concurrent/atomic/AtomicLong"), accessFlags := 18, slot := 17, constantValue := 0 }, { name := "offering", type := (.object "java/util/concurrent/atomic/AtomicLong"), accessFlags := 18, slot := 18, constantValue := 0 }, { name := "kept", type := (.object "com/example/tidings/tidings/internal/FailureReport"), accessFlags := 18, slot := 19, constantValue := 0 }, { name := "failed", type := .boolean, accessFlags := 66, slot := 20, constantValue := 0 }]
  methods := #[k4m0]
  instanceTypes := #[(.object "java/lang/String"), (.object "com/example/tidings/tidings/FailureHandler"), .int, (.object "java/lang/Object"), (.object "java/lang/ref/ReferenceQueue"), (.array (.object "com/example/tidings/tidings/internal/AbstractSubscription")), (.array (.object "com/example/tidings/tidings/internal/AbstractSubscription")), .int, .int, .int, (.object "com/example/tidings/tidings/internal/AbstractTopic$Snapshot"), .boolean, (.object "java/lang/Throwable"), (.object "java/util/concurrent/Executor"), .int, (.object "com/example/tidings/tidings/Overflow"), (.object "java/util/Set"), (.object "java/util/concurrent/atomic/AtomicLong"), (.object "java/util/concurrent/atomic/AtomicLong"), (.object "com/example/tidings/tidings/internal/FailureReport"), .boolean]
  staticTypes := #[.long, .long, (.object "java/lang/ThreadLocal")]
  resolved := Array.replicate 553 none
  statics := none }

def pool5 : Array CpInfo := pool [(1, u "java/lang/Cloneable"), (0, .class_ 1), (0, u "java/lang/Object"), (0, .class_ 3)] 3

/-- java/lang/Cloneable -/
def k5 : Class := { plain "java/lang/Cloneable" (some 0) with
  accessFlags := 1537
  interfaces := #[]
  cf := some (fileOf pool5 2 #[] #[] 1537 4 #[] #[])
  fields := #[]
  methods := #[]
  instanceTypes := #[]
  staticTypes := #[]
  resolved := Array.replicate 8 none
  statics := none }

def pool6 : Array CpInfo := pool [(1, u "java/io/Serializable"), (0, .class_ 1), (0, u "java/lang/Object"), (0, .class_ 3)] 3

/-- java/io/Serializable -/
def k6 : Class := { plain "java/io/Serializable" (some 0) with
  accessFlags := 1537
  interfaces := #[]
  cf := some (fileOf pool6 2 #[] #[] 1537 4 #[] #[])
  fields := #[]
  methods := #[]
  instanceTypes := #[]
  staticTypes := #[]
  resolved := Array.replicate 8 none
  statics := none }

/-- the primitive byte -/
def k7 : Class := { plain "byte" none with kind := .primitive 'B', accessFlags := 0x411 }
/-- [B -/
def k8 : Class := { plain "[B" (some 0) with kind := .array 7 .byte, interfaces := #[5, 6], accessFlags := 1041 }

/-- the primitive int -/
def k9 : Class := { plain "int" none with kind := .primitive 'I', accessFlags := 0x411 }
/-- [I -/
def k10 : Class := { plain "[I" (some 0) with kind := .array 9 .int, interfaces := #[5, 6], accessFlags := 1041 }

def heap : Heap := #[]
def classes : Array Class := #[k0, k1, k2, k3, k4, k5, k6, k7, k8, k9, k10]
def interned : List (Array UInt16 × Addr) := []
def slotsUsed : Nat := 0
def theMethod : MethodId := ⟨1, 1⟩
def args0 : Array Value := #[.int 5]
def aboutOver (below : List Frame) : State where
  vm := { classes := classes, interned := interned.toArray }
  heap := heap
  slotsUsed := slotsUsed
  threads := #[{ frames := .invoking theMethod args0 :: below }]
def below0 : List Frame := [.native { method := ⟨0, 0⟩, args := #[] }]
def about1 : State := aboutOver below0
def p0 : Program := .bare "" "" ""
def e0 : Env := launch0.env 0 0 0
theorem w_frames : about1.frames = Frame.invoking theMethod args0 :: below0 := rfl
set_option maxRecDepth 65536 in
theorem w_args : argsFit about1.vm theMethod args0 = true := by decide +kernel
set_option maxRecDepth 65536 in
theorem w_heap : heapFits about1 = true := by decide +kernel
set_option maxRecDepth 65536 in
theorem w_runnable : about1.curStatus? = some .runnable := by decide +kernel
set_option maxRecDepth 65536 in
theorem w_alone : about1.alone = true := by decide +kernel
set_option maxRecDepth 65536 in
theorem w_named : about1.methodNamed? x = some theMethod := by decide +kernel
set_option maxRecDepth 65536 in
theorem w_hears : about1.hears theMethod below0 = true := by decide +kernel
set_option maxRecDepth 65536 in
theorem w_ripe : about1.ripe theMethod args0 below0 = true := by decide +kernel
theorem w_running : about1.status = .running := rfl
set_option maxRecDepth 65536 in
theorem w_room : about1.hasRoom e0.platform room_1 = true :=
  launch0.hasRoom_least _ room_1 (by decide +kernel) (by decide +kernel) (by decide +kernel) (by decide +kernel) (by decide +kernel) (by decide +kernel)
theorem allAtoms_all (ts : List Jvm.Cond) (a : Array Jvm.Value) (st : Jvm.State) : (allAtoms ts).before a st = ts.all (fun c => c.before a st) := by
  induction ts with
  | nil => rfl
  | cons c t ih =>
    show (Jvm.Cond.and c (allAtoms t)).before a st = _
    rw [Jvm.Cond.before_and, ih, List.all_cons]
def words1 : List Jvm.Cond := Jvm.Cond.code x code maxLocals ret :: tables_1
/-- a 'code' word, met by the world's own term for the bytes: nothing is compared byte by byte -/
theorem code_word {y : MethodName} {bytes : ByteArray} {mx : Nat} {rt : Option FieldType} {a : Array Value} {s : State} {m : MethodId} {meth : Method} {c : Code} (h1 : s.methodNamed? y = some m) (h2 : s.vm.method? m = some meth) (h3 : meth.code = some c) (h4 : c.code = bytes)
    (h5 : (c.maxLocals == mx && c.exceptionTable.isEmpty && decide (c.maxStack ≤ mostOperands) && decide (meth.sig.returnType = rt) && !meth.locks && decide (parseMethodDescriptor y.desc = some meth.sig)) = true) : (Jvm.Cond.code y bytes mx rt).before a s = true := by
  simp only [Bool.and_eq_true, beq_iff_eq, Bool.not_eq_true', decide_eq_true_eq] at h5
  obtain ⟨⟨⟨⟨⟨g1, g2⟩, g3⟩, g4⟩, g5⟩, g6⟩ := h5
  simp [Cond.before, Cond.holds, Cond.value, h1, h2, h3, h4, g1, g2, g3, g4, g5, g6]
def isCode : Jvm.Cond → Bool
  | .code _ _ _ _ => true
  | _ => false
theorem all_split {L : List Jvm.Cond} {P : Jvm.Cond → Bool} (h1 : L.all (fun c => isCode c || P c) = true) (h2 : ∀ c ∈ L.filter isCode, P c = true) : L.all P = true := by
  refine List.all_eq_true.mpr fun c hc => ?_
  have h := List.all_eq_true.mp h1 c hc
  rcases Bool.eq_false_or_eq_true (isCode c) with hi | hi
  · exact h2 c (List.mem_filter.mpr ⟨hc, hi⟩)
  · simpa [hi] using h
set_option maxRecDepth 65536 in
theorem w_c0 : (Jvm.Cond.code x code maxLocals ret).before args0 about1 = true := code_word (m := ⟨1, 1⟩) (meth := k1m1) (c := k1c1) (by decide +kernel) rfl rfl rfl (by decide +kernel)
set_option maxRecDepth 65536 in
theorem w_c1 : (Jvm.Cond.code ({ cls := "com/example/tidings/tidings/internal/ExecutorTopic", name := "requireBufferSize", desc := "(I)I" } : Jvm.MethodName) prog_20_method_2_code (1 : Nat) (Option.some Jvm.ClassFile.FieldType.int)).before args0 about1 = true := code_word (m := ⟨4, 0⟩) (meth := k4m0) (c := k4c0) (by decide +kernel) rfl rfl rfl (by decide +kernel)
def codes1 : List Jvm.Cond := [Jvm.Cond.code x code maxLocals ret, Jvm.Cond.code ({ cls := "com/example/tidings/tidings/internal/ExecutorTopic", name := "requireBufferSize", desc := "(I)I" } : Jvm.MethodName) prog_20_method_2_code (1 : Nat) (Option.some Jvm.ClassFile.FieldType.int)]
set_option maxRecDepth 65536 in
theorem codes_eq : words1.filter isCode = codes1 := rfl
theorem w_codes : ∀ c ∈ words1.filter isCode, c.before args0 about1 = true := by
  rw [codes_eq]
  intro c hc
  simp only [codes1, List.mem_cons, List.not_mem_nil, or_false] at hc
  rcases hc with rfl | rfl
  · exact w_c0
  · exact w_c1
set_option maxRecDepth 65536 in
theorem w_t1 : words1.all (fun c => isCode c || c.before args0 about1) = true := by decide +kernel
theorem w_tables : (allAtoms (Jvm.Cond.code x code maxLocals ret :: tables_1)).before args0 about1 = true := by
  rw [allAtoms_all]
  show words1.all (fun c => c.before args0 about1) = true
  refine all_split ?_ w_codes
  rw [w_t1]
set_option maxRecDepth 65536 in
theorem w_case : (Jvm.Cond.and given_1 narrow_1).before args0 about1 = true := by decide +kernel
theorem w_applies : (headSpec (Jvm.Cond.code x code maxLocals ret :: tables_1) room_1).applies x e0.platform about1 = true :=
  (Spec.applies_iff w_frames).mpr ⟨w_running, w_runnable, w_alone, w_named, w_hears, w_ripe, w_room, w_tables⟩
theorem atStart : AtStart classFile x code maxLocals ret World_1 tables_1 room_1 Calls_1 rest_1 Pre_1 launch0 p0 e0 about1 theMethod args0 below0 :=
  ⟨lists_1, trivial, launch0.admits_env _ _ _, launch0.least_env, fairChoices_fair.cas, fairChoices_fair.clock, w_frames, w_args, w_heap, w_applies, trivial, trivial, w_case⟩
end start1
theorem witness_1 : WitnessClaimed_1 := ⟨start1.p0, start1.e0, start1.about1, start1.theMethod, start1.args0, start1.below0, start1.atStart⟩
end Jvm.Pilot.@@N@@
