import JvmDerived
import JvmDerived.Pilot.@@N@@Statement
import JvmDerived.Pilot.@@N@@Code
set_option linter.unusedVariables false
set_option linter.unusedSimpArgs false
@@BLOCK:NumsL.lean.txt@@
namespace Jvm.RoadKit
open Sem ClassFile Op Lib Jvm.Stand Jvm.Free Jvm.LawKit
section New
variable {p : Program} {l : Launch} {e : Env} {R : Room} {s : State} {m : MethodId} {args : Array Value} {below : List Frame} {meth : Method} {c : Code} {T : State} {locs : List Loc} {cells slots : Nat}
theorem retI (X : Stand p l e R s m args below meth c T locs cells slots) (hx : p.tables.exec = Jvm.exec) {pc : Nat} {Ls : Array Slot} {z : Int32} {rest : List Value} (hret : meth.sig.returnType = some .int) (hd : decode c.code pc = .ok (.ireturn, 1)) {fs : List Frame}
    (hl : ∀ (f : JFrame) (acts : List Action), f.method = m → f.locked = none → f.entered = [] → (doReturn e (T.setTop f) acts (some (.int z))).1 = T.setFrames fs) : Steps p.tables e below (T.setTop (mkF m pc Ls (.int z :: rest))) (T.setFrames fs) := by
  have hm' : T.vm.method? m = some meth := X.method'
  have hn : narrow .int (.int z) = .int z := rfl
  show Steps p.tables e below (T.setTop { method := m, pc := pc, locals := Ls, stack := _ :: rest, locked := none }) _
  jvm_step X.here [X.here.top, hx, hd, hm', hret, hn]
  first | (intro acts; rw [hl _ acts rfl rfl rfl]) | rw [hl _ _ rfl rfl rfl]
  exact Steps.refl _

/-- from A the run ends, and R holds of the end -/
def own_Fin (tb : Tables) (e : Env) (below : List Frame) (R : State → Outcome → Prop) (A : State) : Prop := ∃ t o, Steps tb e below A t ∧ R t o
def own_R (s : State) (below : List Frame) (Q : Option Value → Heap → List Loc → Prop) (C S : Nat) (t : State) (o : Outcome) : Prop :=
  t.status = .running ∧ Ended t below o ∧ ∃ v L, o = .returned v ∧ Q v t.heap L ∧ FrameEnd s o t L C S
theorem own_pre {tb : Tables} {e : Env} {below : List Frame} {R : State → Outcome → Prop} {A A' : State} (h : ∀ t, Steps tb e below A' t → Steps tb e below A t) (k : own_Fin tb e below R A') : own_Fin tb e below R A := by
  obtain ⟨t, o, h1, h2⟩ := k; exact ⟨t, o, h t h1, h2⟩
theorem own_start {tb : Tables} {e : Env} {below : List Frame} {s T : State} {Q : Option Value → Heap → List Loc → Prop} {C S : Nat} {g g' : JFrame} (q : g = g') (k : own_Fin tb e below (own_R s below Q C S) (T.setTop g')) :
    ∃ s₂ o, Steps tb e below (T.setTop g) s₂ ∧ s₂.status = .running ∧ Ended s₂ below o ∧ ∃ v L, o = .returned v ∧ Q v s₂.heap L ∧ FrameEnd s o s₂ L C S := by
  subst q; exact k
theorem own_ret {Q : Option Value → Heap → List Loc → Prop} {C S : Nat} {A : State} {v : Option Value} (X : Stand p l e R s m args below meth c T locs cells slots) (hv : meth.sig.returnType = none → v = none) (hlocks : meth.locks = false) (hc : cells ≤ C) (hs : slots ≤ S) (hQ : Q v T.heap locs)
    (hstep : ∀ fs, (∀ (f : JFrame) (acts : List Action), f.method = m → f.locked = none → f.entered = [] → (doReturn e (T.setTop f) acts v).1 = T.setFrames fs) → Steps p.tables e below A (T.setFrames fs)) : own_Fin p.tables e below (own_R s below Q C S) A := by
  obtain ⟨fs, hr, hrun, hended, hW, hsame⟩ := X.leave hv hlocks
  exact ⟨_, _, hstep fs hr, hrun, hended, _, _, rfl, hQ, ⟨_, rfl⟩, hW, hsame.mono hc hs⟩
theorem own_ltN {a b : Nat} (h : a < b) : @LT.lt Nat instLTNat a b := h
theorem own_leN {a b : Nat} (h : a ≤ b) : @LE.le Nat instLENat a b := h
theorem own_neN {a b : Nat} (h : @LT.lt Nat instLTNat a b) : a ≠ b := Nat.ne_of_lt h
theorem own_neN' {a b : Nat} (h : @LT.lt Nat instLTNat b a) : a ≠ b := Nat.ne_of_gt h
theorem own_selp {y : MethodName} {s : State} {args : Array Value} {n : Nat} (hy : y.cls ≠ "java/lang/invoke/MethodHandle" ∧ y.cls ≠ "java/lang/invoke/VarHandle")
    (hins : (Cond.instantiable y.cls n).before args s = true) (hpriv : (Cond.privateMethod y).before args s = true) (hinst : (Cond.instanceMethod y).before args s = true) : (Cond.selects y.cls y y).before args s = true := by
  obtain ⟨c, k, hc, hk, -, hniab, -, -⟩ := Cond.instantiable_spec hins
  exact selects_self_of_private hc hk (Bool.or_eq_false_iff.mp hniab).1 (Cond.privateMethod_at hpriv) hinst hy
def own_QV (h0 : Heap) (n0 : Nat) (v : Option Value) (h : Heap) (L : List Loc) : Prop := v = none ∧ Fr n0 L ∧ h = h0
def own_QP (r : Value) (h0 : Heap) (n0 : Nat) (v : Option Value) (h : Heap) (L : List Loc) : Prop := v = some r ∧ Fr n0 L ∧ h = h0
def own_at (code : ByteArray) (pc : Nat) (i : Instr) (n pc' : Nat) : Prop := decode code pc = .ok (i, n) ∧ pc + n = pc'
section Steps1
variable {p : Program} {l : Launch} {e : Env} {R : Room} {s : State} {m : MethodId} {args : Array Value} {below : List Frame} {meth : Method} {c : Code} {T : State} {locs : List Loc} {cells slots : Nat} {code : ByteArray} {Rr : State → Outcome → Prop} {Ls : Array Slot} {st : List Value} {pc pc' : Nat}
theorem o_iloadN (X : Stand p l e R s m args below meth c T locs cells slots) (hx : p.tables.exec = Jvm.exec) (hby : c.code = code) {k : Fin 4} {v : Int32} (hd : own_at code pc (.iload_n k) 1 pc') (hl : Ls[k.val]? = some (.val (.int v)))
    (h : own_Fin p.tables e below Rr (T.setTop (mkF m pc' Ls (.int v :: st)))) : own_Fin p.tables e below Rr (T.setTop (mkF m pc Ls (st))) := by
  obtain ⟨hd, rfl⟩ := hd; subst hby
  exact own_pre (fun t k => XS.iloadN X.here hx rfl hd hl k) h
theorem o_iload (X : Stand p l e R s m args below meth c T locs cells slots) (hx : p.tables.exec = Jvm.exec) (hby : c.code = code) {k : Nat} {v : Int32} (hd : own_at code pc (.iload k) 2 pc') (hl : Ls[k]? = some (.val (.int v)))
    (h : own_Fin p.tables e below Rr (T.setTop (mkF m pc' Ls (.int v :: st)))) : own_Fin p.tables e below Rr (T.setTop (mkF m pc Ls (st))) := by
  obtain ⟨hd, rfl⟩ := hd; subst hby
  exact own_pre (fun t k => XS.iload X.here hx rfl hd hl k) h
theorem o_istoreN (X : Stand p l e R s m args below meth c T locs cells slots) (hx : p.tables.exec = Jvm.exec) (hby : c.code = code) {k : Fin 4} {v : Int32} {l' : Array Slot} (hd : own_at code pc (.istore_n k) 1 pc') (hl : storeLocals Ls k.val (.int v) = some l')
    (h : own_Fin p.tables e below Rr (T.setTop (mkF m pc' l' (st)))) : own_Fin p.tables e below Rr (T.setTop (mkF m pc Ls (.int v :: st))) := by
  obtain ⟨hd, rfl⟩ := hd; subst hby
  exact own_pre (fun t k => XS.istoreN X.here hx rfl hd rfl hl k) h
theorem o_istore (X : Stand p l e R s m args below meth c T locs cells slots) (hx : p.tables.exec = Jvm.exec) (hby : c.code = code) {k : Nat} {v : Int32} {l' : Array Slot} (hd : own_at code pc (.istore k) 2 pc') (hl : storeLocals Ls k (.int v) = some l')
    (h : own_Fin p.tables e below Rr (T.setTop (mkF m pc' l' (st)))) : own_Fin p.tables e below Rr (T.setTop (mkF m pc Ls (.int v :: st))) := by
  obtain ⟨hd, rfl⟩ := hd; subst hby
  exact own_pre (fun t k => XS.istore X.here hx rfl hd rfl hl k) h
theorem o_lloadN (X : Stand p l e R s m args below meth c T locs cells slots) (hx : p.tables.exec = Jvm.exec) (hby : c.code = code) {k : Fin 4} {v : Int64} (hd : own_at code pc (.lload_n k) 1 pc') (hl : Ls[k.val]? = some (.val (.long v)))
    (h : own_Fin p.tables e below Rr (T.setTop (mkF m pc' Ls (.long v :: st)))) : own_Fin p.tables e below Rr (T.setTop (mkF m pc Ls (st))) := by
  obtain ⟨hd, rfl⟩ := hd; subst hby
  exact own_pre (fun t k => XS.lloadN X.here hx rfl hd hl k) h
theorem o_lload (X : Stand p l e R s m args below meth c T locs cells slots) (hx : p.tables.exec = Jvm.exec) (hby : c.code = code) {k : Nat} {v : Int64} (hd : own_at code pc (.lload k) 2 pc') (hl : Ls[k]? = some (.val (.long v)))
    (h : own_Fin p.tables e below Rr (T.setTop (mkF m pc' Ls (.long v :: st)))) : own_Fin p.tables e below Rr (T.setTop (mkF m pc Ls (st))) := by
  obtain ⟨hd, rfl⟩ := hd; subst hby
  exact own_pre (fun t k => XS.lload X.here hx rfl hd hl k) h
theorem o_lstoreN (X : Stand p l e R s m args below meth c T locs cells slots) (hx : p.tables.exec = Jvm.exec) (hby : c.code = code) {k : Fin 4} {v : Int64} {l' : Array Slot} (hd : own_at code pc (.lstore_n k) 1 pc') (hl : storeLocals Ls k.val (.long v) = some l')
    (h : own_Fin p.tables e below Rr (T.setTop (mkF m pc' l' (st)))) : own_Fin p.tables e below Rr (T.setTop (mkF m pc Ls (.long v :: st))) := by
  obtain ⟨hd, rfl⟩ := hd; subst hby
  exact own_pre (fun t k => XS.lstoreN X.here hx rfl hd rfl hl k) h
theorem o_lstore (X : Stand p l e R s m args below meth c T locs cells slots) (hx : p.tables.exec = Jvm.exec) (hby : c.code = code) {k : Nat} {v : Int64} {l' : Array Slot} (hd : own_at code pc (.lstore k) 2 pc') (hl : storeLocals Ls k (.long v) = some l')
    (h : own_Fin p.tables e below Rr (T.setTop (mkF m pc' l' (st)))) : own_Fin p.tables e below Rr (T.setTop (mkF m pc Ls (.long v :: st))) := by
  obtain ⟨hd, rfl⟩ := hd; subst hby
  exact own_pre (fun t k => XS.lstore X.here hx rfl hd rfl hl k) h
theorem o_aloadN (X : Stand p l e R s m args below meth c T locs cells slots) (hx : p.tables.exec = Jvm.exec) (hby : c.code = code) {k : Fin 4} {v : Value} (hd : own_at code pc (.aload_n k) 1 pc') (hl : Ls[k.val]? = some (.val v)) (hv : v.isRef = true)
    (h : own_Fin p.tables e below Rr (T.setTop (mkF m pc' Ls (v :: st)))) : own_Fin p.tables e below Rr (T.setTop (mkF m pc Ls (st))) := by
  obtain ⟨hd, rfl⟩ := hd; subst hby
  exact own_pre (fun t k => XS.aloadN X.here hx rfl hd hl hv k) h
theorem o_aload (X : Stand p l e R s m args below meth c T locs cells slots) (hx : p.tables.exec = Jvm.exec) (hby : c.code = code) {k : Nat} {v : Value} (hd : own_at code pc (.aload k) 2 pc') (hl : Ls[k]? = some (.val v)) (hv : v.isRef = true)
    (h : own_Fin p.tables e below Rr (T.setTop (mkF m pc' Ls (v :: st)))) : own_Fin p.tables e below Rr (T.setTop (mkF m pc Ls (st))) := by
  obtain ⟨hd, rfl⟩ := hd; subst hby
  exact own_pre (fun t k => XS.aload X.here hx rfl hd hl hv k) h
theorem o_astoreN (X : Stand p l e R s m args below meth c T locs cells slots) (hx : p.tables.exec = Jvm.exec) (hby : c.code = code) {k : Fin 4} {v : Value} {l' : Array Slot} (hd : own_at code pc (.astore_n k) 1 pc') (hv : v.isRef = true) (hl : storeLocals Ls k.val v = some l')
    (h : own_Fin p.tables e below Rr (T.setTop (mkF m pc' l' (st)))) : own_Fin p.tables e below Rr (T.setTop (mkF m pc Ls (v :: st))) := by
  obtain ⟨hd, rfl⟩ := hd; subst hby
  exact own_pre (fun t k => XS.astoreN X.here hx rfl hd rfl hv hl k) h
theorem o_astore (X : Stand p l e R s m args below meth c T locs cells slots) (hx : p.tables.exec = Jvm.exec) (hby : c.code = code) {k : Nat} {v : Value} {l' : Array Slot} (hd : own_at code pc (.astore k) 2 pc') (hv : v.isRef = true) (hl : storeLocals Ls k v = some l')
    (h : own_Fin p.tables e below Rr (T.setTop (mkF m pc' l' (st)))) : own_Fin p.tables e below Rr (T.setTop (mkF m pc Ls (v :: st))) := by
  obtain ⟨hd, rfl⟩ := hd; subst hby
  exact own_pre (fun t k => XS.astore X.here hx rfl hd rfl hv hl k) h
theorem o_iconst (X : Stand p l e R s m args below meth c T locs cells slots) (hx : p.tables.exec = Jvm.exec) (hby : c.code = code) {i : Int} {v : Int32} (hd : own_at code pc (.iconst i) 1 pc') (hv : Int32.ofInt i = v)
    (h : own_Fin p.tables e below Rr (T.setTop (mkF m pc' Ls (.int v :: st)))) : own_Fin p.tables e below Rr (T.setTop (mkF m pc Ls (st))) := by
  obtain ⟨hd, rfl⟩ := hd; subst hby
  exact own_pre (fun t k => by subst hv; exact XS.iconst X.here hx rfl hd k) h
theorem o_bipush (X : Stand p l e R s m args below meth c T locs cells slots) (hx : p.tables.exec = Jvm.exec) (hby : c.code = code) {i : Int} {v : Int32} (hd : own_at code pc (.bipush i) 2 pc') (hv : (Int8.ofInt i).toInt32 = v)
    (h : own_Fin p.tables e below Rr (T.setTop (mkF m pc' Ls (.int v :: st)))) : own_Fin p.tables e below Rr (T.setTop (mkF m pc Ls (st))) := by
  obtain ⟨hd, rfl⟩ := hd; subst hby
  exact own_pre (fun t k => by subst hv; exact XS.bipush X.here hx rfl hd k) h
theorem o_sipush (X : Stand p l e R s m args below meth c T locs cells slots) (hx : p.tables.exec = Jvm.exec) (hby : c.code = code) {i : Int} {v : Int32} (hd : own_at code pc (.sipush i) 3 pc') (hv : (Int16.ofInt i).toInt32 = v)
    (h : own_Fin p.tables e below Rr (T.setTop (mkF m pc' Ls (.int v :: st)))) : own_Fin p.tables e below Rr (T.setTop (mkF m pc Ls (st))) := by
  obtain ⟨hd, rfl⟩ := hd; subst hby
  exact own_pre (fun t k => by subst hv; exact XS.sipush X.here hx rfl hd k) h
theorem o_lconst (X : Stand p l e R s m args below meth c T locs cells slots) (hx : p.tables.exec = Jvm.exec) (hby : c.code = code) {i : Fin 2} {v : Int64} (hd : own_at code pc (.lconst i) 1 pc') (hv : Int64.ofNat i = v)
    (h : own_Fin p.tables e below Rr (T.setTop (mkF m pc' Ls (.long v :: st)))) : own_Fin p.tables e below Rr (T.setTop (mkF m pc Ls (st))) := by
  obtain ⟨hd, rfl⟩ := hd; subst hby
  exact own_pre (fun t k => by subst hv; exact XS.lconst X.here hx rfl hd k) h
theorem o_anull (X : Stand p l e R s m args below meth c T locs cells slots) (hx : p.tables.exec = Jvm.exec) (hby : c.code = code)  (hd : own_at code pc (.aconst_null) 1 pc') 
    (h : own_Fin p.tables e below Rr (T.setTop (mkF m pc' Ls (.null :: st)))) : own_Fin p.tables e below Rr (T.setTop (mkF m pc Ls (st))) := by
  obtain ⟨hd, rfl⟩ := hd; subst hby
  exact own_pre (fun t k => XS.aconstNull X.here hx rfl hd k) h
theorem o_iadd (X : Stand p l e R s m args below meth c T locs cells slots) (hx : p.tables.exec = Jvm.exec) (hby : c.code = code) {x y : Int32} (hd : own_at code pc (.iadd) 1 pc') 
    (h : own_Fin p.tables e below Rr (T.setTop (mkF m pc' Ls (.int (x + y) :: st)))) : own_Fin p.tables e below Rr (T.setTop (mkF m pc Ls (.int y :: .int x :: st))) := by
  obtain ⟨hd, rfl⟩ := hd; subst hby
  exact own_pre (fun t k => XS.iadd X.here hx rfl hd rfl k) h
theorem o_ladd (X : Stand p l e R s m args below meth c T locs cells slots) (hx : p.tables.exec = Jvm.exec) (hby : c.code = code) {x y : Int64} (hd : own_at code pc (.ladd) 1 pc') 
    (h : own_Fin p.tables e below Rr (T.setTop (mkF m pc' Ls (.long (x + y) :: st)))) : own_Fin p.tables e below Rr (T.setTop (mkF m pc Ls (.long y :: .long x :: st))) := by
  obtain ⟨hd, rfl⟩ := hd; subst hby
  exact own_pre (fun t k => XS.ladd X.here hx rfl hd rfl k) h
theorem o_isub (X : Stand p l e R s m args below meth c T locs cells slots) (hx : p.tables.exec = Jvm.exec) (hby : c.code = code) {x y : Int32} (hd : own_at code pc (.isub) 1 pc') 
    (h : own_Fin p.tables e below Rr (T.setTop (mkF m pc' Ls (.int (x - y) :: st)))) : own_Fin p.tables e below Rr (T.setTop (mkF m pc Ls (.int y :: .int x :: st))) := by
  obtain ⟨hd, rfl⟩ := hd; subst hby
  exact own_pre (fun t k => XS.isub X.here hx rfl hd rfl k) h
theorem o_lsub (X : Stand p l e R s m args below meth c T locs cells slots) (hx : p.tables.exec = Jvm.exec) (hby : c.code = code) {x y : Int64} (hd : own_at code pc (.lsub) 1 pc') 
    (h : own_Fin p.tables e below Rr (T.setTop (mkF m pc' Ls (.long (x - y) :: st)))) : own_Fin p.tables e below Rr (T.setTop (mkF m pc Ls (.long y :: .long x :: st))) := by
  obtain ⟨hd, rfl⟩ := hd; subst hby
  exact own_pre (fun t k => XS.lsub X.here hx rfl hd rfl k) h
theorem o_imul (X : Stand p l e R s m args below meth c T locs cells slots) (hx : p.tables.exec = Jvm.exec) (hby : c.code = code) {x y : Int32} (hd : own_at code pc (.imul) 1 pc') 
    (h : own_Fin p.tables e below Rr (T.setTop (mkF m pc' Ls (.int (x * y) :: st)))) : own_Fin p.tables e below Rr (T.setTop (mkF m pc Ls (.int y :: .int x :: st))) := by
  obtain ⟨hd, rfl⟩ := hd; subst hby
  exact own_pre (fun t k => XS.imul X.here hx rfl hd rfl k) h
theorem o_lmul (X : Stand p l e R s m args below meth c T locs cells slots) (hx : p.tables.exec = Jvm.exec) (hby : c.code = code) {x y : Int64} (hd : own_at code pc (.lmul) 1 pc') 
    (h : own_Fin p.tables e below Rr (T.setTop (mkF m pc' Ls (.long (x * y) :: st)))) : own_Fin p.tables e below Rr (T.setTop (mkF m pc Ls (.long y :: .long x :: st))) := by
  obtain ⟨hd, rfl⟩ := hd; subst hby
  exact own_pre (fun t k => XS.lmul X.here hx rfl hd rfl k) h
theorem o_iand (X : Stand p l e R s m args below meth c T locs cells slots) (hx : p.tables.exec = Jvm.exec) (hby : c.code = code) {x y : Int32} (hd : own_at code pc (.iand) 1 pc') 
    (h : own_Fin p.tables e below Rr (T.setTop (mkF m pc' Ls (.int (x &&& y) :: st)))) : own_Fin p.tables e below Rr (T.setTop (mkF m pc Ls (.int y :: .int x :: st))) := by
  obtain ⟨hd, rfl⟩ := hd; subst hby
  exact own_pre (fun t k => XS.iand X.here hx rfl hd rfl k) h
theorem o_land (X : Stand p l e R s m args below meth c T locs cells slots) (hx : p.tables.exec = Jvm.exec) (hby : c.code = code) {x y : Int64} (hd : own_at code pc (.land) 1 pc') 
    (h : own_Fin p.tables e below Rr (T.setTop (mkF m pc' Ls (.long (x &&& y) :: st)))) : own_Fin p.tables e below Rr (T.setTop (mkF m pc Ls (.long y :: .long x :: st))) := by
  obtain ⟨hd, rfl⟩ := hd; subst hby
  exact own_pre (fun t k => XS.land X.here hx rfl hd rfl k) h
theorem o_ior (X : Stand p l e R s m args below meth c T locs cells slots) (hx : p.tables.exec = Jvm.exec) (hby : c.code = code) {x y : Int32} (hd : own_at code pc (.ior) 1 pc') 
    (h : own_Fin p.tables e below Rr (T.setTop (mkF m pc' Ls (.int (x ||| y) :: st)))) : own_Fin p.tables e below Rr (T.setTop (mkF m pc Ls (.int y :: .int x :: st))) := by
  obtain ⟨hd, rfl⟩ := hd; subst hby
  exact own_pre (fun t k => XS.ior X.here hx rfl hd rfl k) h
theorem o_lor (X : Stand p l e R s m args below meth c T locs cells slots) (hx : p.tables.exec = Jvm.exec) (hby : c.code = code) {x y : Int64} (hd : own_at code pc (.lor) 1 pc') 
    (h : own_Fin p.tables e below Rr (T.setTop (mkF m pc' Ls (.long (x ||| y) :: st)))) : own_Fin p.tables e below Rr (T.setTop (mkF m pc Ls (.long y :: .long x :: st))) := by
  obtain ⟨hd, rfl⟩ := hd; subst hby
  exact own_pre (fun t k => XS.lor X.here hx rfl hd rfl k) h
theorem o_ixor (X : Stand p l e R s m args below meth c T locs cells slots) (hx : p.tables.exec = Jvm.exec) (hby : c.code = code) {x y : Int32} (hd : own_at code pc (.ixor) 1 pc') 
    (h : own_Fin p.tables e below Rr (T.setTop (mkF m pc' Ls (.int (x ^^^ y) :: st)))) : own_Fin p.tables e below Rr (T.setTop (mkF m pc Ls (.int y :: .int x :: st))) := by
  obtain ⟨hd, rfl⟩ := hd; subst hby
  exact own_pre (fun t k => XS.ixor X.here hx rfl hd rfl k) h
theorem o_lxor (X : Stand p l e R s m args below meth c T locs cells slots) (hx : p.tables.exec = Jvm.exec) (hby : c.code = code) {x y : Int64} (hd : own_at code pc (.lxor) 1 pc') 
    (h : own_Fin p.tables e below Rr (T.setTop (mkF m pc' Ls (.long (x ^^^ y) :: st)))) : own_Fin p.tables e below Rr (T.setTop (mkF m pc Ls (.long y :: .long x :: st))) := by
  obtain ⟨hd, rfl⟩ := hd; subst hby
  exact own_pre (fun t k => XS.lxor X.here hx rfl hd rfl k) h
theorem o_ishl (X : Stand p l e R s m args below meth c T locs cells slots) (hx : p.tables.exec = Jvm.exec) (hby : c.code = code) {x y : Int32} (hd : own_at code pc (.ishl) 1 pc') 
    (h : own_Fin p.tables e below Rr (T.setTop (mkF m pc' Ls (.int (x <<< (y &&& 31)) :: st)))) : own_Fin p.tables e below Rr (T.setTop (mkF m pc Ls (.int y :: .int x :: st))) := by
  obtain ⟨hd, rfl⟩ := hd; subst hby
  exact own_pre (fun t k => XS.ishl X.here hx rfl hd rfl k) h
theorem o_ishr (X : Stand p l e R s m args below meth c T locs cells slots) (hx : p.tables.exec = Jvm.exec) (hby : c.code = code) {x y : Int32} (hd : own_at code pc (.ishr) 1 pc') 
    (h : own_Fin p.tables e below Rr (T.setTop (mkF m pc' Ls (.int (x >>> (y &&& 31)) :: st)))) : own_Fin p.tables e below Rr (T.setTop (mkF m pc Ls (.int y :: .int x :: st))) := by
  obtain ⟨hd, rfl⟩ := hd; subst hby
  exact own_pre (fun t k => XS.ishr X.here hx rfl hd rfl k) h
theorem o_iushr (X : Stand p l e R s m args below meth c T locs cells slots) (hx : p.tables.exec = Jvm.exec) (hby : c.code = code) {x y : Int32} (hd : own_at code pc (.iushr) 1 pc') 
    (h : own_Fin p.tables e below Rr (T.setTop (mkF m pc' Ls (.int ((x.toUInt32 >>> (y &&& 31).toUInt32).toInt32) :: st)))) : own_Fin p.tables e below Rr (T.setTop (mkF m pc Ls (.int y :: .int x :: st))) := by
  obtain ⟨hd, rfl⟩ := hd; subst hby
  exact own_pre (fun t k => XS.iushr X.here hx rfl hd rfl k) h
theorem o_lshl (X : Stand p l e R s m args below meth c T locs cells slots) (hx : p.tables.exec = Jvm.exec) (hby : c.code = code) {x : Int64} {y : Int32} (hd : own_at code pc (.lshl) 1 pc') 
    (h : own_Fin p.tables e below Rr (T.setTop (mkF m pc' Ls (.long (x <<< (y &&& 0x3f).toInt64) :: st)))) : own_Fin p.tables e below Rr (T.setTop (mkF m pc Ls (.int y :: .long x :: st))) := by
  obtain ⟨hd, rfl⟩ := hd; subst hby
  exact own_pre (fun t k => XS.lshl X.here hx rfl hd rfl k) h
theorem o_lshr (X : Stand p l e R s m args below meth c T locs cells slots) (hx : p.tables.exec = Jvm.exec) (hby : c.code = code) {x : Int64} {y : Int32} (hd : own_at code pc (.lshr) 1 pc') 
    (h : own_Fin p.tables e below Rr (T.setTop (mkF m pc' Ls (.long (x >>> (y &&& 0x3f).toInt64) :: st)))) : own_Fin p.tables e below Rr (T.setTop (mkF m pc Ls (.int y :: .long x :: st))) := by
  obtain ⟨hd, rfl⟩ := hd; subst hby
  exact own_pre (fun t k => XS.lshr X.here hx rfl hd rfl k) h
theorem o_lushr (X : Stand p l e R s m args below meth c T locs cells slots) (hx : p.tables.exec = Jvm.exec) (hby : c.code = code) {x : Int64} {y : Int32} (hd : own_at code pc (.lushr) 1 pc') 
    (h : own_Fin p.tables e below Rr (T.setTop (mkF m pc' Ls (.long ((x.toUInt64 >>> (y &&& 0x3f).toInt64.toUInt64).toInt64) :: st)))) : own_Fin p.tables e below Rr (T.setTop (mkF m pc Ls (.int y :: .long x :: st))) := by
  obtain ⟨hd, rfl⟩ := hd; subst hby
  exact own_pre (fun t k => XS.lushr X.here hx rfl hd rfl k) h
theorem o_ineg (X : Stand p l e R s m args below meth c T locs cells slots) (hx : p.tables.exec = Jvm.exec) (hby : c.code = code) {x : Int32} (hd : own_at code pc (.ineg) 1 pc') 
    (h : own_Fin p.tables e below Rr (T.setTop (mkF m pc' Ls (.int (-x) :: st)))) : own_Fin p.tables e below Rr (T.setTop (mkF m pc Ls (.int x :: st))) := by
  obtain ⟨hd, rfl⟩ := hd; subst hby
  exact own_pre (fun t k => XS.ineg X.here hx rfl hd rfl k) h
theorem o_lneg (X : Stand p l e R s m args below meth c T locs cells slots) (hx : p.tables.exec = Jvm.exec) (hby : c.code = code) {x : Int64} (hd : own_at code pc (.lneg) 1 pc') 
    (h : own_Fin p.tables e below Rr (T.setTop (mkF m pc' Ls (.long (-x) :: st)))) : own_Fin p.tables e below Rr (T.setTop (mkF m pc Ls (.long x :: st))) := by
  obtain ⟨hd, rfl⟩ := hd; subst hby
  exact own_pre (fun t k => XS.lneg X.here hx rfl hd rfl k) h
theorem o_i2l (X : Stand p l e R s m args below meth c T locs cells slots) (hx : p.tables.exec = Jvm.exec) (hby : c.code = code) {x : Int32} (hd : own_at code pc (.i2l) 1 pc') 
    (h : own_Fin p.tables e below Rr (T.setTop (mkF m pc' Ls (.long (x.toInt64) :: st)))) : own_Fin p.tables e below Rr (T.setTop (mkF m pc Ls (.int x :: st))) := by
  obtain ⟨hd, rfl⟩ := hd; subst hby
  exact own_pre (fun t k => XS.i2l X.here hx rfl hd rfl k) h
theorem o_l2i (X : Stand p l e R s m args below meth c T locs cells slots) (hx : p.tables.exec = Jvm.exec) (hby : c.code = code) {x : Int64} (hd : own_at code pc (.l2i) 1 pc') 
    (h : own_Fin p.tables e below Rr (T.setTop (mkF m pc' Ls (.int (x.toInt32) :: st)))) : own_Fin p.tables e below Rr (T.setTop (mkF m pc Ls (.long x :: st))) := by
  obtain ⟨hd, rfl⟩ := hd; subst hby
  exact own_pre (fun t k => XS.l2i X.here hx rfl hd rfl k) h
theorem o_i2b (X : Stand p l e R s m args below meth c T locs cells slots) (hx : p.tables.exec = Jvm.exec) (hby : c.code = code) {x : Int32} (hd : own_at code pc (.i2b) 1 pc') 
    (h : own_Fin p.tables e below Rr (T.setTop (mkF m pc' Ls (.int (x.toInt8.toInt32) :: st)))) : own_Fin p.tables e below Rr (T.setTop (mkF m pc Ls (.int x :: st))) := by
  obtain ⟨hd, rfl⟩ := hd; subst hby
  exact own_pre (fun t k => XS.i2b X.here hx rfl hd rfl k) h
theorem o_i2s (X : Stand p l e R s m args below meth c T locs cells slots) (hx : p.tables.exec = Jvm.exec) (hby : c.code = code) {x : Int32} (hd : own_at code pc (.i2s) 1 pc') 
    (h : own_Fin p.tables e below Rr (T.setTop (mkF m pc' Ls (.int (x.toInt16.toInt32) :: st)))) : own_Fin p.tables e below Rr (T.setTop (mkF m pc Ls (.int x :: st))) := by
  obtain ⟨hd, rfl⟩ := hd; subst hby
  exact own_pre (fun t k => XS.i2s X.here hx rfl hd rfl k) h
theorem o_i2c (X : Stand p l e R s m args below meth c T locs cells slots) (hx : p.tables.exec = Jvm.exec) (hby : c.code = code) {x : Int32} (hd : own_at code pc (.i2c) 1 pc') 
    (h : own_Fin p.tables e below Rr (T.setTop (mkF m pc' Ls (.int (x.toUInt32.toUInt16.toUInt32.toInt32) :: st)))) : own_Fin p.tables e below Rr (T.setTop (mkF m pc Ls (.int x :: st))) := by
  obtain ⟨hd, rfl⟩ := hd; subst hby
  exact own_pre (fun t k => XS.i2c X.here hx rfl hd rfl k) h
theorem o_idiv (X : Stand p l e R s m args below meth c T locs cells slots) (hx : p.tables.exec = Jvm.exec) (hby : c.code = code) {x y : Int32} (hd : own_at code pc (.idiv) 1 pc') (hy : y ≠ 0)
    (h : own_Fin p.tables e below Rr (T.setTop (mkF m pc' Ls (.int (x / y) :: st)))) : own_Fin p.tables e below Rr (T.setTop (mkF m pc Ls (.int y :: .int x :: st))) := by
  obtain ⟨hd, rfl⟩ := hd; subst hby
  exact own_pre (fun t k => XS.idiv X.here hx rfl hd rfl hy k) h
theorem o_ldiv (X : Stand p l e R s m args below meth c T locs cells slots) (hx : p.tables.exec = Jvm.exec) (hby : c.code = code) {x y : Int64} (hd : own_at code pc (.ldiv) 1 pc') (hy : y ≠ 0)
    (h : own_Fin p.tables e below Rr (T.setTop (mkF m pc' Ls (.long (x / y) :: st)))) : own_Fin p.tables e below Rr (T.setTop (mkF m pc Ls (.long y :: .long x :: st))) := by
  obtain ⟨hd, rfl⟩ := hd; subst hby
  exact own_pre (fun t k => XS.ldiv X.here hx rfl hd rfl hy k) h
theorem o_irem (X : Stand p l e R s m args below meth c T locs cells slots) (hx : p.tables.exec = Jvm.exec) (hby : c.code = code) {x y : Int32} (hd : own_at code pc (.irem) 1 pc') (hy : y ≠ 0)
    (h : own_Fin p.tables e below Rr (T.setTop (mkF m pc' Ls (.int (x % y) :: st)))) : own_Fin p.tables e below Rr (T.setTop (mkF m pc Ls (.int y :: .int x :: st))) := by
  obtain ⟨hd, rfl⟩ := hd; subst hby
  exact own_pre (fun t k => iremM X hx rfl hd rfl hy k) h
theorem o_lcmp (X : Stand p l e R s m args below meth c T locs cells slots) (hx : p.tables.exec = Jvm.exec) (hby : c.code = code) {x y : Int64} (hd : own_at code pc (.lcmp) 1 pc') 
    (h : own_Fin p.tables e below Rr (T.setTop (mkF m pc' Ls (.int (lcmpW x y) :: st)))) : own_Fin p.tables e below Rr (T.setTop (mkF m pc Ls (.long y :: .long x :: st))) := by
  obtain ⟨hd, rfl⟩ := hd; subst hby
  exact own_pre (fun t k => XS.lcmp X.here hx rfl hd rfl k) h
theorem o_iinc (X : Stand p l e R s m args below meth c T locs cells slots) (hx : p.tables.exec = Jvm.exec) (hby : c.code = code) {k : Nat} {i : Int} {x : Int32} {l' : Array Slot} (hd : own_at code pc (.iinc k i) 3 pc') (hl : Ls[k]? = some (.val (.int x))) (hl' : storeLocals Ls k (.int (x + Int32.ofInt i)) = some l')
    (h : own_Fin p.tables e below Rr (T.setTop (mkF m pc' l' (st)))) : own_Fin p.tables e below Rr (T.setTop (mkF m pc Ls (st))) := by
  obtain ⟨hd, rfl⟩ := hd; subst hby
  exact own_pre (fun t k => XS.iinc X.here hx rfl hd hl hl' k) h
theorem o_dup (X : Stand p l e R s m args below meth c T locs cells slots) (hx : p.tables.exec = Jvm.exec) (hby : c.code = code) {v : Value} (hd : own_at code pc (.dup) 1 pc') (hv : v.category = 1)
    (h : own_Fin p.tables e below Rr (T.setTop (mkF m pc' Ls (v :: v :: st)))) : own_Fin p.tables e below Rr (T.setTop (mkF m pc Ls (v :: st))) := by
  obtain ⟨hd, rfl⟩ := hd; subst hby
  exact own_pre (fun t k => XS.dup X.here hx rfl hd rfl hv k) h
theorem o_pop (X : Stand p l e R s m args below meth c T locs cells slots) (hx : p.tables.exec = Jvm.exec) (hby : c.code = code) {v : Value} (hd : own_at code pc (.pop) 1 pc') (hv : v.category = 1)
    (h : own_Fin p.tables e below Rr (T.setTop (mkF m pc' Ls (st)))) : own_Fin p.tables e below Rr (T.setTop (mkF m pc Ls (v :: st))) := by
  obtain ⟨hd, rfl⟩ := hd; subst hby
  exact own_pre (fun t k => XS.pop X.here hx rfl hd rfl hv k) h
theorem o_dupX1 (X : Stand p l e R s m args below meth c T locs cells slots) (hx : p.tables.exec = Jvm.exec) (hby : c.code = code) {v w : Value} (hd : own_at code pc (.dup_x1) 1 pc') (hv : v.category = 1) (hw : w.category = 1)
    (h : own_Fin p.tables e below Rr (T.setTop (mkF m pc' Ls (v :: w :: v :: st)))) : own_Fin p.tables e below Rr (T.setTop (mkF m pc Ls (v :: w :: st))) := by
  obtain ⟨hd, rfl⟩ := hd; subst hby
  exact own_pre (fun t k => XS.dupX1 X.here hx rfl hd rfl hv hw k) h
theorem o_goto (X : Stand p l e R s m args below meth c T locs cells slots) (hx : p.tables.exec = Jvm.exec) (hby : c.code = code) {o : Int} {q : Nat} (hd : own_at code pc (.goto o) 3 pc') (ho : 0 ≤ (pc : Int) + o) (hp : ((pc : Int) + o).toNat = q)
    (h : own_Fin p.tables e below Rr (T.setTop (mkF m q Ls st))) : own_Fin p.tables e below Rr (T.setTop (mkF m pc Ls st)) := by
  obtain ⟨hd, rfl⟩ := hd; subst hby
  exact own_pre (fun t k => XS.goto X.here hx rfl (pc0 := pc) (pc' := q) rfl hd ho hp k) h
theorem o_ifY (X : Stand p l e R s m args below meth c T locs cells slots) (hx : p.tables.exec = Jvm.exec) (hby : c.code = code) {cd : ClassFile.Cond} {o : Int} {x : Int32} {q : Nat} (hd : own_at code pc (.ifCond cd o) 3 pc') (hc : ifCond.holds cd x = true) (ho : 0 ≤ (pc : Int) + o) (hp : ((pc : Int) + o).toNat = q)
    (h : own_Fin p.tables e below Rr (T.setTop (mkF m q Ls st))) : own_Fin p.tables e below Rr (T.setTop (mkF m pc Ls (.int x :: st))) := by
  obtain ⟨hd, rfl⟩ := hd; subst hby
  exact own_pre (fun t k => XS.ifYes X.here hx rfl (pc0 := pc) (pc' := q) rfl hd rfl hc ho hp k) h
theorem o_ifN (X : Stand p l e R s m args below meth c T locs cells slots) (hx : p.tables.exec = Jvm.exec) (hby : c.code = code) {cd : ClassFile.Cond} {o : Int} {x : Int32} (hd : own_at code pc (.ifCond cd o) 3 pc') (hc : ifCond.holds cd x = false)
    (h : own_Fin p.tables e below Rr (T.setTop (mkF m pc' Ls st))) : own_Fin p.tables e below Rr (T.setTop (mkF m pc Ls (.int x :: st))) := by
  obtain ⟨hd, rfl⟩ := hd; subst hby
  exact own_pre (fun t k => XS.ifNo X.here hx rfl hd rfl hc k) h
theorem o_icmpY (X : Stand p l e R s m args below meth c T locs cells slots) (hx : p.tables.exec = Jvm.exec) (hby : c.code = code) {cd : ClassFile.Cond} {o : Int} {x y : Int32} {q : Nat} (hd : own_at code pc (.if_icmp cd o) 3 pc') (hc : if_icmp.holds cd x y = true) (ho : 0 ≤ (pc : Int) + o) (hp : ((pc : Int) + o).toNat = q)
    (h : own_Fin p.tables e below Rr (T.setTop (mkF m q Ls st))) : own_Fin p.tables e below Rr (T.setTop (mkF m pc Ls (.int y :: .int x :: st))) := by
  obtain ⟨hd, rfl⟩ := hd; subst hby
  exact own_pre (fun t k => XS.icmpYes X.here hx rfl (pc0 := pc) (pc' := q) rfl hd rfl hc ho hp k) h
theorem o_icmpN (X : Stand p l e R s m args below meth c T locs cells slots) (hx : p.tables.exec = Jvm.exec) (hby : c.code = code) {cd : ClassFile.Cond} {o : Int} {x y : Int32} (hd : own_at code pc (.if_icmp cd o) 3 pc') (hc : if_icmp.holds cd x y = false)
    (h : own_Fin p.tables e below Rr (T.setTop (mkF m pc' Ls st))) : own_Fin p.tables e below Rr (T.setTop (mkF m pc Ls (.int y :: .int x :: st))) := by
  obtain ⟨hd, rfl⟩ := hd; subst hby
  exact own_pre (fun t k => XS.icmpNo X.here hx rfl hd rfl hc k) h
theorem o_ldc (X : Stand p l e R s m args below meth c T locs cells slots) (hx : p.tables.exec = Jvm.exec) (hby : c.code = code) {own : String} {index : Nat} {v : Int32} (hown : s.vm.findClass own = some m.cls) (hc : (Cond.constant own index v).before args s = true) (hd : own_at code pc (.ldc index) 2 pc')
    (h : own_Fin p.tables e below Rr (T.setTop (mkF m pc' Ls (.int v :: st)))) : own_Fin p.tables e below Rr (T.setTop (mkF m pc Ls st)) := by
  obtain ⟨hd, rfl⟩ := hd; subst hby
  exact own_pre (fun t k => X.ldcInt hx hown hc (g := mkF m pc Ls st) rfl hd t k) h
theorem o_ldc2 (X : Stand p l e R s m args below meth c T locs cells slots) (hx : p.tables.exec = Jvm.exec) (hby : c.code = code) {own : String} {index : Nat} {v : Int64} (hown : s.vm.findClass own = some m.cls) (hc : (Cond.constantLong own index v).before args s = true) (hd : own_at code pc (.ldc2_w index) 3 pc')
    (h : own_Fin p.tables e below Rr (T.setTop (mkF m pc' Ls (.long v :: st)))) : own_Fin p.tables e below Rr (T.setTop (mkF m pc Ls st)) := by
  obtain ⟨hd, rfl⟩ := hd; subst hby
  exact own_pre (fun t k => X.ldc2Long hx hown hc (g := mkF m pc Ls st) rfl hd t k) h
end Steps1

end New
end Jvm.RoadKit
namespace Jvm.Pilot.@@N@@
open Jvm Jvm.ClassFile Sem Op Lib Jvm.Free Jvm.Stand Jvm.LawKit Jvm.RoadKit Bundle Jvm.Pilot.@@N@@.Jvm.D
theorem own_wd {Z : State} {a0 : Array Value} (hw : ∀ d ∈ tables_1, d.before a0 Z = true) {i : Nat} {d : Jvm.Cond} (h : tables_1[i]? = some d) : d.before a0 Z = true := hw _ (List.mem_of_getElem? h)
def own_Q0 (n0 : Nat) (v : Option Value) (h : Heap) (L : List Loc) : Prop := v = some (.int 1) ∧ Fr n0 L
def own_Wr (Z : State) (h : Heap) (a1 bf : Addr) (kb : ClassId) (mg P pos : Int32) (x0 x1 x2 x3 x4 x5 x6 x7 : Value) : Prop := Exa Z h a1 "com/example/jetway/jetway/ajp/PacketWriter" ∧ Fld Z h a1 "com/example/jetway/jetway/ajp/PacketWriter" "magic" "I" (.int mg) ∧ Fld Z h a1 "com/example/jetway/jetway/ajp/PacketWriter" "packetSize" "I" (.int P) ∧ Fld Z h a1 "com/example/jetway/jetway/ajp/PacketWriter" "buffer" "[B" (.ref bf) ∧ Fld Z h a1 "com/example/jetway/jetway/ajp/PacketWriter" "position" "I" (.int pos) ∧ Arv Z h bf kb .byte P [x0, x1, x2, x3, x4, x5, x6, x7] (.int (0 : Int32)) ∧ Exa Z h bf "[B"
def own_hP (P : Int32) : Prop := 8 ≤ P.toInt ∧ P.toInt ≤ 263
theorem own_psz (x : Int32) : own_hP ((8 : Int32) + (x &&& (255 : Int32))) := by
  have e1 : (x &&& 255).toInt = x.toInt % 2 ^ 8 := Jvm.Kit.i32_mask x 255 (k := 8) (by decide) (by decide)
  have k8 : (8 : Int32).toInt = 8 := rfl
  have e2 : ((8 : Int32) + (x &&& (255 : Int32))).toInt = 8 + x.toInt % 2 ^ 8 := by rw [Jvm.Kit.i32_add (by rw [k8, e1]; omega) (by rw [k8, e1]; omega), k8, e1]
  constructor <;> rw [e2] <;> omega
theorem own_res {P a b : Int32} (h : own_hP P) (ha : 0 ≤ a.toInt) (hb : 0 ≤ b.toInt) (hab : a.toInt + b.toInt ≤ 8) : ¬ ((P - a) < b) ∧ ¬ (P < (a + b)) := by
  obtain ⟨h1, h2⟩ := h
  have e1 : (P - a).toInt = P.toInt - a.toInt := Jvm.Kit.i32_sub (by omega) (by omega)
  have e2 : (a + b).toInt = a.toInt + b.toInt := Jvm.Kit.i32_add (by omega) (by omega)
  constructor
  · rw [Int32.lt_iff_toInt_lt, e1]; omega
  · rw [Int32.lt_iff_toInt_lt, e2]; omega
theorem own_neg {P : Int32} (h : own_hP P) : ¬ P < 0 := by
  obtain ⟨h1, h2⟩ := h
  have k0 : (0 : Int32).toInt = 0 := rfl
  rw [Int32.lt_iff_toInt_lt, k0]; omega
theorem own_cap {P : Int32} (h : own_hP P) : P.toNatClampNeg ≤ 263 := by
  obtain ⟨h1, h2⟩ := h
  simp only [Int32.toNatClampNeg]; omega
theorem own_in {P j : Int32} (h : own_hP P) (hj : 0 ≤ j.toInt ∧ j.toInt < 8) : ¬ j < 0 ∧ j < P := by
  obtain ⟨h1, h2⟩ := h
  have k0 : (0 : Int32).toInt = 0 := rfl
  constructor
  · rw [Int32.lt_iff_toInt_lt, k0]; omega
  · rw [Int32.lt_iff_toInt_lt]; omega
theorem own_nP {P n : Int32} (h : own_hP P) (hn : n.toInt < 8) : ¬ (n = P) := by
  obtain ⟨h1, h2⟩ := h
  intro e; rw [e] at hn; omega
theorem own_mn {P n : Int32} (h : own_hP P) (hn : n.toInt ≤ 8) : (if n < P then n else P) = n := by
  obtain ⟨h1, h2⟩ := h
  by_cases q : n < P
  · rw [if_pos q]
  · rw [if_neg q]
    rw [Int32.lt_iff_toInt_lt] at q
    rw [← Int32.toInt_inj]; omega
theorem own_mnK {P : Int32} (h : own_hP P) : (if (1024 : Int32) < P then (1024 : Int32) else P) = P := by
  obtain ⟨h1, h2⟩ := h
  have k : (1024 : Int32).toInt = 1024 := rfl
  rw [if_neg (by rw [Int32.lt_iff_toInt_lt, k]; omega)]
theorem own_le8 {P n : Int32} (h : own_hP P) (hn : n.toInt ≤ 8) (h0 : 0 ≤ n.toInt) : (0 : Int32).toNatClampNeg + n.toNatClampNeg ≤ P.toNatClampNeg := by
  obtain ⟨h1, h2⟩ := h
  have k0 : (0 : Int32).toInt = 0 := rfl
  simp only [Int32.toNatClampNeg, k0]; omega
theorem D3_0 : own_at jdk_29_method_69_code 0 (.iload_n 0) 1 1 := ⟨by decide +kernel, rfl⟩
theorem D3_1 : own_at jdk_29_method_69_code 1 (.iload_n 1) 1 2 := ⟨by decide +kernel, rfl⟩
theorem D3_2 : own_at jdk_29_method_69_code 2 (.if_icmp .gt 7) 3 5 := ⟨by decide +kernel, rfl⟩
theorem D3_5 : own_at jdk_29_method_69_code 5 (.iload_n 0) 1 6 := ⟨by decide +kernel, rfl⟩
theorem D3_6 : own_at jdk_29_method_69_code 6 (.goto 4) 3 9 := ⟨by decide +kernel, rfl⟩
theorem D3_9 : own_at jdk_29_method_69_code 9 (.iload_n 1) 1 10 := ⟨by decide +kernel, rfl⟩
theorem D3_10 : own_at jdk_29_method_69_code 10 (.ireturn) 1 11 := ⟨by decide +kernel, rfl⟩
theorem ef_rmMin (m : MethodId) (p0 : Int32) (p1 : Int32) : entryFrame m #[(.int p0), (.int p1)] 2 = mkF m 0 #[.val (.int p0), .val (.int p1)] [] := by first | (simp [entryFrame, mkF, argsToLocals, Value.category]; done) | rfl
set_option maxRecDepth 65536 in
set_option maxHeartbeats 40000000 in
theorem rmMin (l : Launch) (Z : State) (a0 : Array Value) (hw : ∀ d ∈ tables_1, d.before a0 Z = true) (ws : List Jvm.Cond) (p0 : Int32) (p1 : Int32) (r : Int32) (h0 : Heap) (n0 : Nat) (Z0 : n0 ≤ h0.size) (hr : (if p1 < p0 then p1 else p0) = r) :
    MetFree l (⟨"java/lang/Math", "min", "(II)I"⟩ : MethodName) (head1 (Jvm.Cond.code (⟨"java/lang/Math", "min", "(II)I"⟩ : MethodName) jdk_29_method_69_code 2 (some .int) :: ws) ({ frames := 0, cells := 0, slots := 0, locals := 0 } : Room)) (fun a U => a = #[(.int p0), (.int p1)] ∧ Z.Warmed39 U.vm ∧ U.heap = h0) (fun _ _ _ _ _ => True) (fun _ U o U' => ∃ v L, o = .returned v ∧ own_QP (.int r) h0 n0 v U'.heap L ∧ FrameEnd U o U' L ({ frames := 0, cells := 0, slots := 0, locals := 0 } : Room).cells ({ frames := 0, cells := 0, slots := 0, locals := 0 } : Room).slots) := by
  refine MetFree.of_bodySF (Jvm.Free.JP.mathPlain rfl (by decide +kernel)) hisR ?_
  intro p e s m args below meth c s₁ Bd hml0 hP hK
  obtain ⟨rfl, hZ, hh⟩ := hP
  have hx := Bd.exec
  have hby := Bd.bytes
  have hml : c.maxLocals = 2 := hml0
  have hown : s.vm.findClass "java/lang/Math" = some m.cls := findClass_of_methodNamed Bd.named
  have hnm := (name_of_methodNamed Bd.named Bd.method).1
  have X0 : Stand p l e ({ frames := 0, cells := 0, slots := 0, locals := 0 } : Room) s m #[(.int p0), (.int p1)] below meth c s₁ [] 0 0 := Stand.of_body Bd
  have e0 : s₁.heap = h0 := by rw [← hh, Bd.state]; rfl
  have N0 := Fr.nil n0
  refine own_start (ef_rmMin m p0 p1) ?_
  refine o_iloadN X0 hx hby D3_0 rfl ?_
  refine o_iloadN X0 hx hby D3_1 rfl ?_
  by_cases hc2_1 : p1 < p0
  · skip
    refine o_icmpY X0 hx hby D3_2 (tlt hc2_1).2.2.1 (q := 9) (by decide) (by decide) ?_
    refine o_iloadN X0 hx hby D3_9 rfl ?_
    exact own_ret (v := some (.int p1)) X0 (fun h => by first | rfl | (rw [Bd.returns] at h; cases h)) (BodyLoose.notSynchronized Bd) (by decide) (by decide) (⟨by rw [← hr, if_pos hc2_1], N0, e0⟩) (fun fs hr => retI X0 hx Bd.returns (hb hby D3_10.1) hr)
  · skip
    refine o_icmpN X0 hx hby D3_2 (flt hc2_1).2.2.1 ?_
    refine o_iloadN X0 hx hby D3_5 rfl ?_
    refine o_goto X0 hx hby D3_6 (q := 10) (by decide) (by decide) ?_
    exact own_ret (v := some (.int p0)) X0 (fun h => by first | rfl | (rw [Bd.returns] at h; cases h)) (BodyLoose.notSynchronized Bd) (by decide) (by decide) (⟨by rw [← hr, if_neg hc2_1], N0, e0⟩) (fun fs hr => retI X0 hx Bd.returns (hb hby D3_10.1) hr)
def own_QI (Z : State) (a1 : Addr) (mg P : Int32) (h0 : Heap) (n0 : Nat) (v : Option Value) (h : Heap) (L : List Loc) : Prop := ∃ (bf : Nat) (kb : ClassId), v = none ∧ Fr n0 L ∧ Keep h0 h [a1] ∧ h0.size ≤ bf ∧ own_Wr Z h a1 bf kb mg P (4 : Int32) (.int (0 : Int32)) (.int (0 : Int32)) (.int (0 : Int32)) (.int (0 : Int32)) (.int (0 : Int32)) (.int (0 : Int32)) (.int (0 : Int32)) (.int (0 : Int32))
theorem pd__40II_41I : parseMethodDescriptor "(II)I" = some ⟨[.int, .int], some .int⟩ := by decide +kernel
theorem D1_0 : own_at prog_15_method_1_code 0 (.aload_n 0) 1 1 := ⟨by decide +kernel, rfl⟩
theorem D1_1 : own_at prog_15_method_1_code 1 (.invokespecial 1) 3 4 := ⟨by decide +kernel, rfl⟩
theorem D1_4 : own_at prog_15_method_1_code 4 (.aload_n 0) 1 5 := ⟨by decide +kernel, rfl⟩
theorem D1_5 : own_at prog_15_method_1_code 5 (.iconst 4) 1 6 := ⟨by decide +kernel, rfl⟩
theorem D1_6 : own_at prog_15_method_1_code 6 (.putfield 9) 3 9 := ⟨by decide +kernel, rfl⟩
theorem D1_9 : own_at prog_15_method_1_code 9 (.aload_n 0) 1 10 := ⟨by decide +kernel, rfl⟩
theorem D1_10 : own_at prog_15_method_1_code 10 (.iload_n 1) 1 11 := ⟨by decide +kernel, rfl⟩
theorem D1_11 : own_at prog_15_method_1_code 11 (.putfield 15) 3 14 := ⟨by decide +kernel, rfl⟩
theorem D1_14 : own_at prog_15_method_1_code 14 (.aload_n 0) 1 15 := ⟨by decide +kernel, rfl⟩
theorem D1_15 : own_at prog_15_method_1_code 15 (.iload_n 2) 1 16 := ⟨by decide +kernel, rfl⟩
theorem D1_16 : own_at prog_15_method_1_code 16 (.putfield 18) 3 19 := ⟨by decide +kernel, rfl⟩
theorem D1_19 : own_at prog_15_method_1_code 19 (.aload_n 0) 1 20 := ⟨by decide +kernel, rfl⟩
theorem D1_20 : own_at prog_15_method_1_code 20 (.iload_n 2) 1 21 := ⟨by decide +kernel, rfl⟩
theorem D1_21 : own_at prog_15_method_1_code 21 (.sipush 1024) 3 24 := ⟨by decide +kernel, rfl⟩
theorem D1_24 : own_at prog_15_method_1_code 24 (.invokestatic 21) 3 27 := ⟨by decide +kernel, rfl⟩
theorem D1_27 : own_at prog_15_method_1_code 27 (.newarray .byte) 2 29 := ⟨by decide +kernel, rfl⟩
theorem D1_29 : own_at prog_15_method_1_code 29 (.putfield 27) 3 32 := ⟨by decide +kernel, rfl⟩
theorem D1_32 : own_at prog_15_method_1_code 32 (.return_) 1 33 := ⟨by decide +kernel, rfl⟩
theorem pn_com_example_jetway_jetway_ajp_PacketWriter : plainName "com/example/jetway/jetway/ajp/PacketWriter" = true := by first | (simp [plainName, overriddenIn]; done) | decide +kernel
theorem ef_rmI (m : MethodId) (a1 : Addr) (mg : Int32) (P : Int32) : entryFrame m #[(.ref a1), (.int mg), (.int P)] 3 = mkF m 0 #[.val (.ref a1), .val (.int mg), .val (.int P)] [] := by first | (simp [entryFrame, mkF, argsToLocals, Value.category]; done) | rfl
set_option maxRecDepth 65536 in
set_option maxHeartbeats 40000000 in
theorem rmI (l : Launch) (Z : State) (a0 : Array Value) (hw : ∀ d ∈ tables_1, d.before a0 Z = true) (ws : List Jvm.Cond) (a1 : Addr) (mg : Int32) (P : Int32) (u0 u1 u2 u3 : Value) (h0 : Heap) (n0 : Nat) (Z0 : n0 ≤ h0.size) (gn_a1 : n0 ≤ a1) (hP : own_hP P) (E_a1 : Exa Z h0 a1 "com/example/jetway/jetway/ajp/PacketWriter") (F_position : Fld Z h0 a1 "com/example/jetway/jetway/ajp/PacketWriter" "position" "I" u0) (F_magic : Fld Z h0 a1 "com/example/jetway/jetway/ajp/PacketWriter" "magic" "I" u1) (F_packetSize : Fld Z h0 a1 "com/example/jetway/jetway/ajp/PacketWriter" "packetSize" "I" u2) (F_buffer : Fld Z h0 a1 "com/example/jetway/jetway/ajp/PacketWriter" "buffer" "[B" u3) :
    MetFree l (⟨"com/example/jetway/jetway/ajp/PacketWriter", "<init>", "(II)V"⟩ : MethodName) (head1 (Jvm.Cond.code (⟨"com/example/jetway/jetway/ajp/PacketWriter", "<init>", "(II)V"⟩ : MethodName) prog_15_method_1_code 3 none :: ws) ({ frames := 1, cells := 1, slots := 263, locals := 14 } : Room)) (fun a U => a = #[(.ref a1), (.int mg), (.int P)] ∧ Z.Warmed39 U.vm ∧ U.heap = h0) (fun _ _ _ _ _ => True) (fun _ U o U' => ∃ v L, o = .returned v ∧ own_QI Z a1 mg P h0 n0 v U'.heap L ∧ FrameEnd U o U' L ({ frames := 1, cells := 1, slots := 263, locals := 14 } : Room).cells ({ frames := 1, cells := 1, slots := 263, locals := 14 } : Room).slots) := by
  refine MetFree.of_bodySF (plainFor_of_name pn_com_example_jetway_jetway_ajp_PacketWriter) hisR ?_
  intro p e s m args below meth c s₁ Bd hml0 hP hK
  obtain ⟨rfl, hZ, hh⟩ := hP
  have hx := Bd.exec
  have hby := Bd.bytes
  have hml : c.maxLocals = 3 := hml0
  have hown : s.vm.findClass "com/example/jetway/jetway/ajp/PacketWriter" = some m.cls := findClass_of_methodNamed Bd.named
  have hnm := (name_of_methodNamed Bd.named Bd.method).1
  have X0 : Stand p l e ({ frames := 1, cells := 1, slots := 263, locals := 14 } : Room) s m #[(.ref a1), (.int mg), (.int P)] below meth c s₁ [] 0 0 := Stand.of_body Bd
  have e0 : s₁.heap = h0 := by rw [← hh, Bd.state]; rfl
  have N0 := Fr.nil n0
  refine own_start (ef_rmI m a1 mg P) ?_
  have lt_a1 := own_ltN E_a1.lt
  refine o_aloadN X0 hx hby D1_0 rfl rfl ?_
  obtain ⟨T1, X1, e1, st1⟩ := initO X0 hx hZ hown (own_wd hw (i := 7) rfl) (own_wd hw (i := 8) rfl) (own_wd hw (i := 9) rfl) e0 (g := (mkF m 1 #[.val (.ref a1), .val (.int mg), .val (.int P)] [(.ref a1)])) rfl (by rw [hml]; rfl) rfl (hb hby D1_1.1) (by decide) (W := 0) (by show 2 * 0 + _ ≤ _; exact Nat.le_of_eq rfl) (by decide)
  refine own_pre (A' := T1.setTop (mkF m 4 #[.val (.ref a1), .val (.int mg), .val (.int P)] [])) st1 ?_
  refine o_aloadN X1 hx hby D1_4 rfl rfl ?_
  refine o_iconst X1 hx hby D1_5 (v := 4) rfl ?_
  obtain ⟨T2, h2, X2, e2, W2, st2⟩ := putF X1 hx hZ hown (host := "") (Or.inl (own_wd hw (i := 10) rfl)) Via.refl e1 F_position E_a1 (Or.inl (own_wd hw (i := 11) rfl)) (own_wd hw (i := 2) rfl) (ty := .int) (by decide) rfl rfl (g := (mkF m 6 #[.val (.ref a1), .val (.int mg), .val (.int P)] [(.int (4 : Int32)), (.ref a1)])) rfl rfl (hb hby D1_6.1)
  have Fw2 := F_position.same W2
  have sz2 := own_leN (Keep.of_wr W2).1
  have N2 := Fr.snoc X2 N0 gn_a1
  refine own_pre (A' := T2.setTop (mkF m 9 #[.val (.ref a1), .val (.int mg), .val (.int P)] [])) st2 ?_
  refine o_aloadN X2 hx hby D1_9 rfl rfl ?_
  refine o_iloadN X2 hx hby D1_10 rfl ?_
  have c4_F_a1_magic := (F_magic.other W2 (Or.inr (Jvm.RoadKit.slot_ne (Or.inr (own_wd hw (i := 13) rfl)) (Or.inl (own_wd hw (i := 11) rfl)) (by decide) (t := .int) (t' := .int) (by decide) (by decide))))
  have c5_E_a1 := (E_a1.wr W2)
  obtain ⟨T3, h3, X3, e3, W3, st3⟩ := putF X2 hx hZ hown (host := "") (Or.inl (own_wd hw (i := 12) rfl)) Via.refl e2 c4_F_a1_magic c5_E_a1 (Or.inr ⟨(own_wd hw (i := 13) rfl), rfl, hnm⟩) (own_wd hw (i := 2) rfl) (ty := .int) (by decide) rfl rfl (g := (mkF m 11 #[.val (.ref a1), .val (.int mg), .val (.int P)] [(.int mg), (.ref a1)])) rfl rfl (hb hby D1_11.1)
  have Fw3 := c4_F_a1_magic.same W3
  have sz3 := own_leN (Keep.of_wr W3).1
  have N3 := Fr.snoc X3 N2 gn_a1
  refine own_pre (A' := T3.setTop (mkF m 14 #[.val (.ref a1), .val (.int mg), .val (.int P)] [])) st3 ?_
  refine o_aloadN X3 hx hby D1_14 rfl rfl ?_
  refine o_iloadN X3 hx hby D1_15 rfl ?_
  have c7_F_a1_packetSize := ((F_packetSize.other W2 (Or.inr (Jvm.RoadKit.slot_ne (Or.inr (own_wd hw (i := 15) rfl)) (Or.inl (own_wd hw (i := 11) rfl)) (by decide) (t := .int) (t' := .int) (by decide) (by decide)))).other W3 (Or.inr (Jvm.RoadKit.slot_ne (Or.inr (own_wd hw (i := 15) rfl)) (Or.inr (own_wd hw (i := 13) rfl)) (by decide) (t := .int) (t' := .int) (by decide) (by decide))))
  have c8_E_a1 := (c5_E_a1.wr W3)
  obtain ⟨T6, h6, X6, e6, W6, st6⟩ := putF X3 hx hZ hown (host := "") (Or.inl (own_wd hw (i := 14) rfl)) Via.refl e3 c7_F_a1_packetSize c8_E_a1 (Or.inr ⟨(own_wd hw (i := 15) rfl), rfl, hnm⟩) (own_wd hw (i := 2) rfl) (ty := .int) (by decide) rfl rfl (g := (mkF m 16 #[.val (.ref a1), .val (.int mg), .val (.int P)] [(.int P), (.ref a1)])) rfl rfl (hb hby D1_16.1)
  have Fw6 := c7_F_a1_packetSize.same W6
  have sz6 := own_leN (Keep.of_wr W6).1
  have N6 := Fr.snoc X6 N3 gn_a1
  refine own_pre (A' := T6.setTop (mkF m 19 #[.val (.ref a1), .val (.int mg), .val (.int P)] [])) st6 ?_
  refine o_aloadN X6 hx hby D1_19 rfl rfl ?_
  refine o_iloadN X6 hx hby D1_20 rfl ?_
  refine o_sipush X6 hx hby D1_21 (v := 1024) rfl ?_
  obtain ⟨_, _, ⟨T9, L9, k9, n9⟩, -, X9, ⟨Lc9, hQ9, l9, y9, z9⟩, st9⟩ := Jvm.LawKit.callS X6 hx (y := (⟨"java/lang/Math", "min", "(II)I"⟩ : MethodName)) hown (mvT hZ (own_wd hw (i := 16) rfl)) (mvT hZ (own_wd hw (i := 17) rfl)) (mvT hZ (own_wd hw (i := 18) rfl)) (mvT hZ (own_wd hw (i := 19) rfl)) (by decide) (backOf (W := 1) (rmMin l Z a0 hw [] P (1024 : Int32) P h6 n0 (own_leN (by omega)) (own_mnK hP)) hZ (own_wd hw (i := 19) rfl) (own_wd hw (i := 18) rfl) (by decide) (by decide)) (g := (mkF m 24 #[.val (.ref a1), .val (.int mg), .val (.int P)] [(.int (1024 : Int32)), (.int P), (.ref a1)])) rfl (by rw [hml]; rfl) (argsL := [(.int P), (.int (1024 : Int32))]) (rest := [(.ref a1)]) (lenOf pd__40II_41I rfl) rfl (by show 2 * 0 + _ ≤ _; exact Nat.le_of_eq rfl) (hb hby D1_24.1) (fun _ _ => ⟨rfl, e6, (by decide : 0 + 0 ≤ _), (by decide : 0 + 0 ≤ _)⟩)
  dsimp only [Pt.U, Pt.locs, Pt.cells, Pt.slots] at X9 l9 y9 z9 st9 hQ9
  subst l9 y9 z9
  obtain ⟨rfl, N9q, e9⟩ := hQ9
  have N9 := Fr.app N6 N9q
  refine own_pre (A' := T9.setTop (mkF m 27 #[.val (.ref a1), .val (.int mg), .val (.int P)] [(.int P), (.ref a1)])) st9 ?_
  obtain ⟨T10, h10, k10, X10, e10, E10, A10, Ex10, st10⟩ := newPE X9 hx hZ (own_wd hw (i := 20) rfl) e9 (g := (mkF m 27 #[.val (.ref a1), .val (.int mg), .val (.int P)] [(.int P), (.ref a1)])) rfl (hb hby D1_27.1) rfl (own_neg hP) (cap := 263) (own_cap hP) (by decide) (by decide) (by decide) (ad := "[B") (by first | rfl | decide)
  obtain ⟨b10, g10⟩ : ∃ z : Nat, z = h6.size := ⟨_, rfl⟩
  rw [← g10] at A10 Ex10 st10
  have sz10 := own_leN E10.1
  have gn_b10 : n0 ≤ b10 := by omega
  have V_b10 : Arv Z h10 b10 k10 .byte P [] (.int (0 : Int32)) := Arv.new A10 (own_neg hP)
  have lt_b10 := own_ltN V_b10.lt
  refine own_pre (A' := T10.setTop (mkF m 29 #[.val (.ref a1), .val (.int mg), .val (.int P)] [(.ref b10), (.ref a1)])) st10 ?_
  have c12_F_a1_buffer := ((((F_buffer.other W2 (Or.inr (Jvm.RoadKit.slot_ne (Or.inl (own_wd hw (i := 22) rfl)) (Or.inl (own_wd hw (i := 11) rfl)) (by decide) (t := (.array .byte)) (t' := .int) (by decide) (by decide)))).other W3 (Or.inr (Jvm.RoadKit.slot_ne (Or.inl (own_wd hw (i := 22) rfl)) (Or.inr (own_wd hw (i := 13) rfl)) (by decide) (t := (.array .byte)) (t' := .int) (by decide) (by decide)))).other W6 (Or.inr (Jvm.RoadKit.slot_ne (Or.inl (own_wd hw (i := 22) rfl)) (Or.inr (own_wd hw (i := 15) rfl)) (by decide) (t := (.array .byte)) (t' := .int) (by decide) (by decide)))).ext E10)
  have c13_E_a1 := ((c8_E_a1.wr W6).ext E10)
  obtain ⟨T11, h11, X11, e11, W11, st11⟩ := putF X10 hx hZ hown (host := "") (Or.inl (own_wd hw (i := 21) rfl)) Via.refl e10 c12_F_a1_buffer c13_E_a1 (Or.inl (own_wd hw (i := 22) rfl)) (own_wd hw (i := 2) rfl) (ty := (.array .byte)) (by decide) rfl rfl (g := (mkF m 29 #[.val (.ref a1), .val (.int mg), .val (.int P)] [(.ref b10), (.ref a1)])) rfl rfl (hb hby D1_29.1)
  have Fw11 := c12_F_a1_buffer.same W11
  have sz11 := own_leN (Keep.of_wr W11).1
  have N11 := Fr.snoc X11 N9 gn_a1
  refine own_pre (A' := T11.setTop (mkF m 32 #[.val (.ref a1), .val (.int mg), .val (.int P)] [])) st11 ?_
  have V8_b10 := V_b10.pad (pad_rep [] (.int (0 : Int32)) 8)
  have c15_E_a1 := (c13_E_a1.wr W11)
  have c16_F_a1_magic := (((Fw3.other W6 (Or.inr (Jvm.RoadKit.slot_ne (Or.inr (own_wd hw (i := 13) rfl)) (Or.inr (own_wd hw (i := 15) rfl)) (by decide) (t := .int) (t' := .int) (by decide) (by decide)))).ext E10).other W11 (Or.inr (Jvm.RoadKit.slot_ne (Or.inr (own_wd hw (i := 13) rfl)) (Or.inl (own_wd hw (i := 22) rfl)) (by decide) (t := .int) (t' := (.array .byte)) (by decide) (by decide))))
  have c17_F_a1_packetSize := ((Fw6.ext E10).other W11 (Or.inr (Jvm.RoadKit.slot_ne (Or.inr (own_wd hw (i := 15) rfl)) (Or.inl (own_wd hw (i := 22) rfl)) (by decide) (t := .int) (t' := (.array .byte)) (by decide) (by decide))))
  have c18_F_a1_position := ((((Fw2.other W3 (Or.inr (Jvm.RoadKit.slot_ne (Or.inl (own_wd hw (i := 11) rfl)) (Or.inr (own_wd hw (i := 13) rfl)) (by decide) (t := .int) (t' := .int) (by decide) (by decide)))).other W6 (Or.inr (Jvm.RoadKit.slot_ne (Or.inl (own_wd hw (i := 11) rfl)) (Or.inr (own_wd hw (i := 15) rfl)) (by decide) (t := .int) (t' := .int) (by decide) (by decide)))).ext E10).other W11 (Or.inr (Jvm.RoadKit.slot_ne (Or.inl (own_wd hw (i := 11) rfl)) (Or.inl (own_wd hw (i := 22) rfl)) (by decide) (t := .int) (t' := (.array .byte)) (by decide) (by decide))))
  have c19_V_b10 := (V8_b10.other W11 (by first | exact own_neN (by omega) | exact own_neN' (by omega)))
  have c20_E_b10 := (Ex10.wr W11)
  have KK : Keep h0 h11 [a1] := ((((((Keep.refl h0 [a1]).wr W2 (Or.inl (by simp))).wr W3 (Or.inl (by simp))).wr W6 (Or.inl (by simp))).ext E10).wr W11 (Or.inl (by simp)))
  exact own_ret (v := none) X11 (fun h => by first | rfl | (rw [Bd.returns] at h; cases h)) (BodyLoose.notSynchronized Bd) (by decide) (by decide) (by rw [e11]; exact ⟨b10, k10, rfl, N11, KK, own_leN (by omega), c15_E_a1, c16_F_a1_magic, c17_F_a1_packetSize, Fw11, c18_F_a1_position, c19_V_b10, c20_E_b10⟩) (fun fs hr => X11.returnOut hx Bd.returns (hb hby D1_32.1) hr)
theorem D9_0 : own_at prog_15_method_14_code 0 (.iload_n 1) 1 1 := ⟨by decide +kernel, rfl⟩
theorem D9_1 : own_at prog_15_method_14_code 1 (.aload_n 0) 1 2 := ⟨by decide +kernel, rfl⟩
theorem D9_2 : own_at prog_15_method_14_code 2 (.getfield 27) 3 5 := ⟨by decide +kernel, rfl⟩
theorem D9_5 : own_at prog_15_method_14_code 5 (.arraylength) 1 6 := ⟨by decide +kernel, rfl⟩
theorem D9_6 : own_at prog_15_method_14_code 6 (.if_icmp .le 32) 3 9 := ⟨by decide +kernel, rfl⟩
theorem D9_38 : own_at prog_15_method_14_code 38 (.return_) 1 39 := ⟨by decide +kernel, rfl⟩
theorem ef_rmG (m : MethodId) (a1 : Addr) (p1 : Int32) : entryFrame m #[(.ref a1), (.int p1)] 2 = mkF m 0 #[.val (.ref a1), .val (.int p1)] [] := by first | (simp [entryFrame, mkF, argsToLocals, Value.category]; done) | rfl
set_option maxRecDepth 65536 in
set_option maxHeartbeats 40000000 in
theorem rmG (l : Launch) (Z : State) (a0 : Array Value) (hw : ∀ d ∈ tables_1, d.before a0 Z = true) (ws : List Jvm.Cond) (a1 : Addr) (p1 : Int32) (bf : Addr) (kb : ClassId) (mg P pos : Int32) (x0 x1 x2 x3 x4 x5 x6 x7 : Value) (h0 : Heap) (n0 : Nat) (Z0 : n0 ≤ h0.size) (hW : own_Wr Z h0 a1 bf kb mg P pos x0 x1 x2 x3 x4 x5 x6 x7) (gn_a1 : n0 ≤ a1) (gn_bf : n0 ≤ bf) (nab : @LT.lt Nat instLTNat a1 bf) (hP : own_hP P) (hg : ¬ (P < p1)) :
    MetFree l (⟨"com/example/jetway/jetway/ajp/PacketWriter", "grow", "(I)V"⟩ : MethodName) (head1 (Jvm.Cond.code (⟨"com/example/jetway/jetway/ajp/PacketWriter", "grow", "(I)V"⟩ : MethodName) prog_15_method_14_code 2 none :: ws) ({ frames := 0, cells := 0, slots := 0, locals := 0 } : Room)) (fun a U => a = #[(.ref a1), (.int p1)] ∧ Z.Warmed39 U.vm ∧ U.heap = h0) (fun _ _ _ _ _ => True) (fun _ U o U' => ∃ v L, o = .returned v ∧ own_QV h0 n0 v U'.heap L ∧ FrameEnd U o U' L ({ frames := 0, cells := 0, slots := 0, locals := 0 } : Room).cells ({ frames := 0, cells := 0, slots := 0, locals := 0 } : Room).slots) := by
  refine MetFree.of_bodySF (plainFor_of_name pn_com_example_jetway_jetway_ajp_PacketWriter) hisR ?_
  intro p e s m args below meth c s₁ Bd hml0 hP hK
  obtain ⟨rfl, hZ, hh⟩ := hP
  have hx := Bd.exec
  have hby := Bd.bytes
  have hml : c.maxLocals = 2 := hml0
  have hown : s.vm.findClass "com/example/jetway/jetway/ajp/PacketWriter" = some m.cls := findClass_of_methodNamed Bd.named
  have hnm := (name_of_methodNamed Bd.named Bd.method).1
  have X0 : Stand p l e ({ frames := 0, cells := 0, slots := 0, locals := 0 } : Room) s m #[(.ref a1), (.int p1)] below meth c s₁ [] 0 0 := Stand.of_body Bd
  have e0 : s₁.heap = h0 := by rw [← hh, Bd.state]; rfl
  have N0 := Fr.nil n0
  refine own_start (ef_rmG m a1 p1) ?_
  obtain ⟨E_a1, Fm, Fp, Fb, Fo, Vb, E_bf⟩ := hW
  have lt_a1 := own_ltN E_a1.lt
  have lt_bf := own_ltN Vb.lt
  have gn_bf' := own_leN gn_bf
  have gn_a1' := own_leN gn_a1
  refine o_iloadN X0 hx hby D9_0 rfl ?_
  refine o_aloadN X0 hx hby D9_1 rfl rfl ?_
  obtain ⟨T1, X1, e1, st1⟩ := getF X0 hx hZ hown (host := "") (Or.inl (own_wd hw (i := 21) rfl)) Via.refl e0 Fb (g := (mkF m 2 #[.val (.ref a1), .val (.int p1)] [(.ref a1), (.int p1)])) rfl rfl (hb hby D9_2.1)
  refine own_pre (A' := T1.setTop (mkF m 5 #[.val (.ref a1), .val (.int p1)] [(.ref bf), (.int p1)])) st1 ?_
  obtain ⟨cl_bf_2, Ar_bf_2, q_bf_2, S_bf_2, N_bf_2, H_bf_2, G_bf_2⟩ := id Vb
  refine own_pre (A' := T1.setTop (mkF m 6 #[.val (.ref a1), .val (.int p1)] [(.int P), (.int p1)])) (fun t k => X1.arraylength hx (by rw [e1]; exact Ar_bf_2.1) (State.isArrayOf_alike hZ.alike Ar_bf_2.2.1) (g := (mkF m 5 #[.val (.ref a1), .val (.int p1)] [(.ref bf), (.int p1)])) rfl rfl (hb hby D9_5.1) _ (by rw [len_of S_bf_2 N_bf_2]; exact k)) ?_
  refine o_icmpY X1 hx hby D9_6 (flt (hg : ¬ (P < p1))).2.2.2 (q := 38) (by decide) (by decide) ?_
  exact own_ret (v := none) X1 (fun h => by first | rfl | (rw [Bd.returns] at h; cases h)) (BodyLoose.notSynchronized Bd) (by decide) (by decide) (⟨rfl, N0, e1⟩) (fun fs hr => X1.returnOut hx Bd.returns (hb hby D9_38.1) hr)
theorem pd__40I_41V : parseMethodDescriptor "(I)V" = some ⟨[.int], none⟩ := by decide +kernel
theorem D8_0 : own_at prog_15_method_13_code 0 (.iload_n 1) 1 1 := ⟨by decide +kernel, rfl⟩
theorem D8_1 : own_at prog_15_method_13_code 1 (.aload_n 0) 1 2 := ⟨by decide +kernel, rfl⟩
theorem D8_2 : own_at prog_15_method_13_code 2 (.getfield 18) 3 5 := ⟨by decide +kernel, rfl⟩
theorem D8_5 : own_at prog_15_method_13_code 5 (.aload_n 0) 1 6 := ⟨by decide +kernel, rfl⟩
theorem D8_6 : own_at prog_15_method_13_code 6 (.getfield 9) 3 9 := ⟨by decide +kernel, rfl⟩
theorem D8_9 : own_at prog_15_method_13_code 9 (.isub) 1 10 := ⟨by decide +kernel, rfl⟩
theorem D8_10 : own_at prog_15_method_13_code 10 (.if_icmp .le 24) 3 13 := ⟨by decide +kernel, rfl⟩
theorem D8_34 : own_at prog_15_method_13_code 34 (.aload_n 0) 1 35 := ⟨by decide +kernel, rfl⟩
theorem D8_35 : own_at prog_15_method_13_code 35 (.aload_n 0) 1 36 := ⟨by decide +kernel, rfl⟩
theorem D8_36 : own_at prog_15_method_13_code 36 (.getfield 9) 3 39 := ⟨by decide +kernel, rfl⟩
theorem D8_39 : own_at prog_15_method_13_code 39 (.iload_n 1) 1 40 := ⟨by decide +kernel, rfl⟩
theorem D8_40 : own_at prog_15_method_13_code 40 (.iadd) 1 41 := ⟨by decide +kernel, rfl⟩
theorem D8_41 : own_at prog_15_method_13_code 41 (.invokevirtual 69) 3 44 := ⟨by decide +kernel, rfl⟩
theorem D8_44 : own_at prog_15_method_13_code 44 (.return_) 1 45 := ⟨by decide +kernel, rfl⟩
theorem ef_rmR (m : MethodId) (a1 : Addr) (p1 : Int32) : entryFrame m #[(.ref a1), (.int p1)] 2 = mkF m 0 #[.val (.ref a1), .val (.int p1)] [] := by first | (simp [entryFrame, mkF, argsToLocals, Value.category]; done) | rfl
set_option maxRecDepth 65536 in
set_option maxHeartbeats 40000000 in
theorem rmR (l : Launch) (Z : State) (a0 : Array Value) (hw : ∀ d ∈ tables_1, d.before a0 Z = true) (ws : List Jvm.Cond) (a1 : Addr) (p1 : Int32) (bf : Addr) (kb : ClassId) (mg P pos : Int32) (x0 x1 x2 x3 x4 x5 x6 x7 : Value) (h0 : Heap) (n0 : Nat) (Z0 : n0 ≤ h0.size) (hW : own_Wr Z h0 a1 bf kb mg P pos x0 x1 x2 x3 x4 x5 x6 x7) (gn_a1 : n0 ≤ a1) (gn_bf : n0 ≤ bf) (nab : @LT.lt Nat instLTNat a1 bf) (hP : own_hP P) (hq : ¬ ((P - pos) < p1)) (hg : ¬ (P < (pos + p1))) :
    MetFree l (⟨"com/example/jetway/jetway/ajp/PacketWriter", "reserve", "(I)V"⟩ : MethodName) (head1 (Jvm.Cond.code (⟨"com/example/jetway/jetway/ajp/PacketWriter", "reserve", "(I)V"⟩ : MethodName) prog_15_method_13_code 2 none :: ws) ({ frames := 1, cells := 0, slots := 0, locals := 13 } : Room)) (fun a U => a = #[(.ref a1), (.int p1)] ∧ Z.Warmed39 U.vm ∧ U.heap = h0) (fun _ _ _ _ _ => True) (fun _ U o U' => ∃ v L, o = .returned v ∧ own_QV h0 n0 v U'.heap L ∧ FrameEnd U o U' L ({ frames := 1, cells := 0, slots := 0, locals := 13 } : Room).cells ({ frames := 1, cells := 0, slots := 0, locals := 13 } : Room).slots) := by
  refine MetFree.of_bodySF (plainFor_of_name pn_com_example_jetway_jetway_ajp_PacketWriter) hisR ?_
  intro p e s m args below meth c s₁ Bd hml0 hP hK
  obtain ⟨rfl, hZ, hh⟩ := hP
  have hx := Bd.exec
  have hby := Bd.bytes
  have hml : c.maxLocals = 2 := hml0
  have hown : s.vm.findClass "com/example/jetway/jetway/ajp/PacketWriter" = some m.cls := findClass_of_methodNamed Bd.named
  have hnm := (name_of_methodNamed Bd.named Bd.method).1
  have X0 : Stand p l e ({ frames := 1, cells := 0, slots := 0, locals := 13 } : Room) s m #[(.ref a1), (.int p1)] below meth c s₁ [] 0 0 := Stand.of_body Bd
  have e0 : s₁.heap = h0 := by rw [← hh, Bd.state]; rfl
  have N0 := Fr.nil n0
  refine own_start (ef_rmR m a1 p1) ?_
  have hW0 := hW
  obtain ⟨E_a1, Fm, Fp, Fb, Fo, Vb, E_bf⟩ := hW
  have lt_a1 := own_ltN E_a1.lt
  have lt_bf := own_ltN Vb.lt
  have gn_bf' := own_leN gn_bf
  have gn_a1' := own_leN gn_a1
  refine o_iloadN X0 hx hby D8_0 rfl ?_
  refine o_aloadN X0 hx hby D8_1 rfl rfl ?_
  obtain ⟨T1, X1, e1, st1⟩ := getF X0 hx hZ hown (host := "") (Or.inl (own_wd hw (i := 14) rfl)) Via.refl e0 Fp (g := (mkF m 2 #[.val (.ref a1), .val (.int p1)] [(.ref a1), (.int p1)])) rfl rfl (hb hby D8_2.1)
  refine own_pre (A' := T1.setTop (mkF m 5 #[.val (.ref a1), .val (.int p1)] [(.int P), (.int p1)])) st1 ?_
  refine o_aloadN X1 hx hby D8_5 rfl rfl ?_
  obtain ⟨T2, X2, e2, st2⟩ := getF X1 hx hZ hown (host := "") (Or.inl (own_wd hw (i := 10) rfl)) Via.refl e1 Fo (g := (mkF m 6 #[.val (.ref a1), .val (.int p1)] [(.ref a1), (.int P), (.int p1)])) rfl rfl (hb hby D8_6.1)
  refine own_pre (A' := T2.setTop (mkF m 9 #[.val (.ref a1), .val (.int p1)] [(.int pos), (.int P), (.int p1)])) st2 ?_
  refine o_isub X2 hx hby D8_9 ?_
  refine o_icmpY X2 hx hby D8_10 (flt (hq : ¬ ((P - pos) < p1))).2.2.2 (q := 34) (by decide) (by decide) ?_
  refine o_aloadN X2 hx hby D8_34 rfl rfl ?_
  refine o_aloadN X2 hx hby D8_35 rfl rfl ?_
  obtain ⟨T3, X3, e3, st3⟩ := getF X2 hx hZ hown (host := "") (Or.inl (own_wd hw (i := 10) rfl)) Via.refl e2 Fo (g := (mkF m 36 #[.val (.ref a1), .val (.int p1)] [(.ref a1), (.ref a1)])) rfl rfl (hb hby D8_36.1)
  refine own_pre (A' := T3.setTop (mkF m 39 #[.val (.ref a1), .val (.int p1)] [(.int pos), (.ref a1)])) st3 ?_
  refine o_iloadN X3 hx hby D8_39 rfl ?_
  refine o_iadd X3 hx hby D8_40 ?_
  obtain ⟨cq4, q4, q4'⟩ := E_a1.cell
  obtain ⟨_, _, ⟨T4, L4, k4, n4⟩, -, X4, ⟨Lc4, hQ4, l4, y4, z4⟩, st4⟩ := X3.privateBack hx (y := (⟨"com/example/jetway/jetway/ajp/PacketWriter", "grow", "(I)V"⟩ : MethodName)) hown (mvT hZ (own_wd hw (i := 50) rfl)) (mvT hZ (own_wd hw (i := 51) rfl)) (own_selp (by decide) (mvT hZ (own_wd hw (i := 2) rfl)) (mvP hZ (own_wd hw (i := 52) rfl)) (mvT hZ (own_wd hw (i := 51) rfl))) (Cond.privateMethod_at (mvP hZ (own_wd hw (i := 52) rfl) (args := #[]))) (mvT hZ (own_wd hw (i := 53) rfl)) (by decide) (backOf (W := 0) (rmG l Z a0 hw [] a1 (pos + p1) bf kb mg P pos x0 x1 x2 x3 x4 x5 x6 x7 h0 n0 Z0 hW0 gn_a1 gn_bf nab hP hg) hZ (own_wd hw (i := 53) rfl) (own_wd hw (i := 3) rfl) (by decide) (by decide)) (g := (mkF m 41 #[.val (.ref a1), .val (.int p1)] [(.int (pos + p1)), (.ref a1)])) rfl (by rw [hml]; rfl) (Steps.refl _) (a := a1) (by rw [e3]; exact q4) q4' (argsL := [(.int (pos + p1))]) (rest := []) (lenOf pd__40I_41V rfl) rfl (by show 2 * 0 + _ ≤ _; exact Nat.le_of_eq rfl) (hb hby D8_41.1) (fun _ _ => ⟨rfl, e3, (by decide : 0 + 0 ≤ _), (by decide : 0 + 0 ≤ _)⟩)
  dsimp only [Pt.U, Pt.locs, Pt.cells, Pt.slots] at X4 l4 y4 z4 st4 hQ4
  subst l4 y4 z4
  obtain ⟨rfl, N4q, e4⟩ := hQ4
  have N4 := Fr.app N0 N4q
  refine own_pre (A' := T4.setTop (mkF m 44 #[.val (.ref a1), .val (.int p1)] [])) (fun t k => st4.trans k) ?_
  exact own_ret (v := none) X4 (fun h => by first | rfl | (rw [Bd.returns] at h; cases h)) (BodyLoose.notSynchronized Bd) (by decide) (by decide) (⟨rfl, N4, e4⟩) (fun fs hr => X4.returnOut hx Bd.returns (hb hby D8_44.1) hr)
def own_QPut (Z : State) (a1 bf : Addr) (kb : ClassId) (mg P pos : Int32) (x0 x1 x2 x3 x4 x5 x6 x7 : Value) (h0 : Heap) (n0 : Nat) (v : Option Value) (h : Heap) (L : List Loc) : Prop := v = some (.ref a1) ∧ Fr n0 L ∧ Keep h0 h [a1, bf] ∧ own_Wr Z h a1 bf kb mg P pos x0 x1 x2 x3 x4 x5 x6 x7
theorem D7_0 : own_at prog_15_method_2_code 0 (.aload_n 0) 1 1 := ⟨by decide +kernel, rfl⟩
theorem D7_1 : own_at prog_15_method_2_code 1 (.iconst 1) 1 2 := ⟨by decide +kernel, rfl⟩
theorem D7_2 : own_at prog_15_method_2_code 2 (.invokevirtual 31) 3 5 := ⟨by decide +kernel, rfl⟩
theorem D7_5 : own_at prog_15_method_2_code 5 (.aload_n 0) 1 6 := ⟨by decide +kernel, rfl⟩
theorem D7_6 : own_at prog_15_method_2_code 6 (.getfield 27) 3 9 := ⟨by decide +kernel, rfl⟩
theorem D7_9 : own_at prog_15_method_2_code 9 (.aload_n 0) 1 10 := ⟨by decide +kernel, rfl⟩
theorem D7_10 : own_at prog_15_method_2_code 10 (.dup) 1 11 := ⟨by decide +kernel, rfl⟩
theorem D7_11 : own_at prog_15_method_2_code 11 (.getfield 9) 3 14 := ⟨by decide +kernel, rfl⟩
theorem D7_14 : own_at prog_15_method_2_code 14 (.dup_x1) 1 15 := ⟨by decide +kernel, rfl⟩
theorem D7_15 : own_at prog_15_method_2_code 15 (.iconst 1) 1 16 := ⟨by decide +kernel, rfl⟩
theorem D7_16 : own_at prog_15_method_2_code 16 (.iadd) 1 17 := ⟨by decide +kernel, rfl⟩
theorem D7_17 : own_at prog_15_method_2_code 17 (.putfield 9) 3 20 := ⟨by decide +kernel, rfl⟩
theorem D7_20 : own_at prog_15_method_2_code 20 (.iload_n 1) 1 21 := ⟨by decide +kernel, rfl⟩
theorem D7_21 : own_at prog_15_method_2_code 21 (.i2b) 1 22 := ⟨by decide +kernel, rfl⟩
theorem D7_22 : own_at prog_15_method_2_code 22 (.bastore) 1 23 := ⟨by decide +kernel, rfl⟩
theorem D7_23 : own_at prog_15_method_2_code 23 (.aload_n 0) 1 24 := ⟨by decide +kernel, rfl⟩
theorem D7_24 : own_at prog_15_method_2_code 24 (.areturn) 1 25 := ⟨by decide +kernel, rfl⟩
theorem ef_rmPB4 (m : MethodId) (a1 : Addr) (p1 : Int32) : entryFrame m #[(.ref a1), (.int p1)] 2 = mkF m 0 #[.val (.ref a1), .val (.int p1)] [] := by first | (simp [entryFrame, mkF, argsToLocals, Value.category]; done) | rfl
set_option maxRecDepth 65536 in
set_option maxHeartbeats 40000000 in
theorem rmPB4 (l : Launch) (Z : State) (a0 : Array Value) (hw : ∀ d ∈ tables_1, d.before a0 Z = true) (ws : List Jvm.Cond) (a1 : Addr) (p1 : Int32) (bf : Addr) (kb : ClassId) (mg P : Int32) (x0 x1 x2 x3 x4 x5 x6 x7 : Value) (h0 : Heap) (n0 : Nat) (Z0 : n0 ≤ h0.size) (hW : own_Wr Z h0 a1 bf kb mg P (4 : Int32) x0 x1 x2 x3 x4 x5 x6 x7) (gn_a1 : n0 ≤ a1) (gn_bf : n0 ≤ bf) (nab : @LT.lt Nat instLTNat a1 bf) (hP : own_hP P) :
    MetFree l (⟨"com/example/jetway/jetway/ajp/PacketWriter", "putByte", "(I)Lcom/example/jetway/jetway/ajp/PacketWriter;"⟩ : MethodName) (head1 (Jvm.Cond.code (⟨"com/example/jetway/jetway/ajp/PacketWriter", "putByte", "(I)Lcom/example/jetway/jetway/ajp/PacketWriter;"⟩ : MethodName) prog_15_method_2_code 2 (some (.object "com/example/jetway/jetway/ajp/PacketWriter")) :: ws) ({ frames := 2, cells := 0, slots := 0, locals := 26 } : Room)) (fun a U => a = #[(.ref a1), (.int p1)] ∧ Z.Warmed39 U.vm ∧ U.heap = h0) (fun _ _ _ _ _ => True) (fun _ U o U' => ∃ v L, o = .returned v ∧ own_QPut Z a1 bf kb mg P (5 : Int32) x0 x1 x2 x3 (.int (nar .byte ((p1).toInt8.toInt32))) x5 x6 x7 h0 n0 v U'.heap L ∧ FrameEnd U o U' L ({ frames := 2, cells := 0, slots := 0, locals := 26 } : Room).cells ({ frames := 2, cells := 0, slots := 0, locals := 26 } : Room).slots) := by
  refine MetFree.of_bodySF (plainFor_of_name pn_com_example_jetway_jetway_ajp_PacketWriter) hisR ?_
  intro p e s m args below meth c s₁ Bd hml0 hP hK
  obtain ⟨rfl, hZ, hh⟩ := hP
  have hx := Bd.exec
  have hby := Bd.bytes
  have hml : c.maxLocals = 2 := hml0
  have hown : s.vm.findClass "com/example/jetway/jetway/ajp/PacketWriter" = some m.cls := findClass_of_methodNamed Bd.named
  have hnm := (name_of_methodNamed Bd.named Bd.method).1
  have X0 : Stand p l e ({ frames := 2, cells := 0, slots := 0, locals := 26 } : Room) s m #[(.ref a1), (.int p1)] below meth c s₁ [] 0 0 := Stand.of_body Bd
  have e0 : s₁.heap = h0 := by rw [← hh, Bd.state]; rfl
  have N0 := Fr.nil n0
  refine own_start (ef_rmPB4 m a1 p1) ?_
  have hW0 := hW
  obtain ⟨E_a1, Fm, Fp, Fb, Fo, Vb, E_bf⟩ := hW
  have lt_a1 := own_ltN E_a1.lt
  have lt_bf := own_ltN Vb.lt
  have gn_bf' := own_leN gn_bf
  have gn_a1' := own_leN gn_a1
  refine o_aloadN X0 hx hby D7_0 rfl rfl ?_
  refine o_iconst X0 hx hby D7_1 (v := 1) rfl ?_
  obtain ⟨cq1, q1, q1'⟩ := E_a1.cell
  obtain ⟨_, _, ⟨T1, L1, k1, n1⟩, -, X1, ⟨Lc1, hQ1, l1, y1, z1⟩, st1⟩ := X0.privateBack hx (y := (⟨"com/example/jetway/jetway/ajp/PacketWriter", "reserve", "(I)V"⟩ : MethodName)) hown (mvT hZ (own_wd hw (i := 46) rfl)) (mvT hZ (own_wd hw (i := 47) rfl)) (own_selp (by decide) (mvT hZ (own_wd hw (i := 2) rfl)) (mvP hZ (own_wd hw (i := 48) rfl)) (mvT hZ (own_wd hw (i := 47) rfl))) (Cond.privateMethod_at (mvP hZ (own_wd hw (i := 48) rfl) (args := #[]))) (mvT hZ (own_wd hw (i := 49) rfl)) (by decide) (backOf (W := 0) (rmR l Z a0 hw [] a1 (1 : Int32) bf kb mg P (4 : Int32) x0 x1 x2 x3 x4 x5 x6 x7 h0 n0 Z0 hW0 gn_a1 gn_bf nab hP (own_res hP (by decide) (by decide) (by decide)).1 (own_res hP (by decide) (by decide) (by decide)).2) hZ (own_wd hw (i := 49) rfl) (own_wd hw (i := 3) rfl) (by decide) (by decide)) (g := (mkF m 2 #[.val (.ref a1), .val (.int p1)] [(.int (1 : Int32)), (.ref a1)])) rfl (by rw [hml]; rfl) (Steps.refl _) (a := a1) (by rw [e0]; exact q1) q1' (argsL := [(.int (1 : Int32))]) (rest := []) (lenOf pd__40I_41V rfl) rfl (by show 2 * 0 + _ ≤ _; exact Nat.le_of_eq rfl) (hb hby D7_2.1) (fun _ _ => ⟨rfl, e0, (by decide : 0 + 0 ≤ _), (by decide : 0 + 0 ≤ _)⟩)
  dsimp only [Pt.U, Pt.locs, Pt.cells, Pt.slots] at X1 l1 y1 z1 st1 hQ1
  subst l1 y1 z1
  obtain ⟨rfl, N1q, e1⟩ := hQ1
  have N1 := Fr.app N0 N1q
  refine own_pre (A' := T1.setTop (mkF m 5 #[.val (.ref a1), .val (.int p1)] [])) (fun t k => st1.trans k) ?_
  refine o_aloadN X1 hx hby D7_5 rfl rfl ?_
  obtain ⟨T2, X2, e2, st2⟩ := getF X1 hx hZ hown (host := "") (Or.inl (own_wd hw (i := 21) rfl)) Via.refl e1 Fb (g := (mkF m 6 #[.val (.ref a1), .val (.int p1)] [(.ref a1)])) rfl rfl (hb hby D7_6.1)
  refine own_pre (A' := T2.setTop (mkF m 9 #[.val (.ref a1), .val (.int p1)] [(.ref bf)])) st2 ?_
  refine o_aloadN X2 hx hby D7_9 rfl rfl ?_
  refine o_dup X2 hx hby D7_10 rfl ?_
  obtain ⟨T3, X3, e3, st3⟩ := getF X2 hx hZ hown (host := "") (Or.inl (own_wd hw (i := 10) rfl)) Via.refl e2 Fo (g := (mkF m 11 #[.val (.ref a1), .val (.int p1)] [(.ref a1), (.ref a1), (.ref bf)])) rfl rfl (hb hby D7_11.1)
  refine own_pre (A' := T3.setTop (mkF m 14 #[.val (.ref a1), .val (.int p1)] [(.int (4 : Int32)), (.ref a1), (.ref bf)])) st3 ?_
  refine o_dupX1 X3 hx hby D7_14 rfl rfl ?_
  refine o_iconst X3 hx hby D7_15 (v := 1) rfl ?_
  refine o_iadd X3 hx hby D7_16 ?_
  obtain ⟨T4, h4, X4, e4, W4, st4⟩ := putF X3 hx hZ hown (host := "") (Or.inl (own_wd hw (i := 10) rfl)) Via.refl e3 Fo E_a1 (Or.inl (own_wd hw (i := 11) rfl)) (own_wd hw (i := 2) rfl) (ty := .int) (by decide) rfl rfl (g := (mkF m 17 #[.val (.ref a1), .val (.int p1)] [(.int ((4 : Int32) + (1 : Int32))), (.ref a1), (.int (4 : Int32)), (.ref bf)])) rfl rfl (hb hby D7_17.1)
  have Fw4 := Fo.same W4
  have sz4 := own_leN (Keep.of_wr W4).1
  have N4 := Fr.snoc X4 N1 gn_a1
  refine own_pre (A' := T4.setTop (mkF m 20 #[.val (.ref a1), .val (.int p1)] [(.int (4 : Int32)), (.ref bf)])) st4 ?_
  have Fl5 : Fld Z h4 a1 "com/example/jetway/jetway/ajp/PacketWriter" "position" "I" (.int (5 : Int32)) := Fw4
  refine o_iloadN X4 hx hby D7_20 rfl ?_
  refine o_i2b X4 hx hby D7_21 ?_
  have c7_V_bf := (Vb.other W4 (by first | exact own_neN (by omega) | exact own_neN' (by omega)))
  obtain ⟨cl_bf_6, Ar_bf_6, q_bf_6, S_bf_6, N_bf_6, H_bf_6, G_bf_6⟩ := id c7_V_bf
  have hin_bf_6 : ¬ ((4 : Int32) < 0 ∨ cl_bf_6.slots.size ≤ ((4 : Int32)).toNatClampNeg) := inb_of S_bf_6 (own_in hP (by decide))
  obtain ⟨T6, h6, X6, e6, W6, st6⟩ := stB X4 hx hZ e4 Ar_bf_6 (j := (4 : Int32)) hin_bf_6 (g := (mkF m 22 #[.val (.ref a1), .val (.int p1)] [(.int ((p1).toInt8.toInt32)), (.int (4 : Int32)), (.ref bf)])) rfl rfl (hb hby D7_22.1)
  have V_bf_6 : Arv Z h6 bf kb .byte P [x0, x1, x2, x3, (.int (nar .byte ((p1).toInt8.toInt32))), x5, x6, x7] (.int (0 : Int32)) := Arv.set Ar_bf_6 q_bf_6 S_bf_6 N_bf_6 H_bf_6 G_bf_6 (fits_nar_byte _) W6 4 rfl (Nat.le_of_ble_eq_true rfl)
  have sz6 := own_leN (Keep.of_wr W6).1
  have N6 := Fr.snoc X6 N4 gn_bf
  refine own_pre (A' := T6.setTop (mkF m 23 #[.val (.ref a1), .val (.int p1)] [])) st6 ?_
  refine o_aloadN X6 hx hby D7_23 rfl rfl ?_
  have c8_E_a1 := ((E_a1.wr W4).wr W6)
  have c9_F_a1_magic := ((Fm.other W4 (Or.inr (Jvm.RoadKit.slot_ne (Or.inr (own_wd hw (i := 13) rfl)) (Or.inl (own_wd hw (i := 11) rfl)) (by decide) (t := .int) (t' := .int) (by decide) (by decide)))).other W6 (Or.inl (by first | exact own_neN (by omega) | exact own_neN' (by omega))))
  have c10_F_a1_packetSize := ((Fp.other W4 (Or.inr (Jvm.RoadKit.slot_ne (Or.inr (own_wd hw (i := 15) rfl)) (Or.inl (own_wd hw (i := 11) rfl)) (by decide) (t := .int) (t' := .int) (by decide) (by decide)))).other W6 (Or.inl (by first | exact own_neN (by omega) | exact own_neN' (by omega))))
  have c11_F_a1_buffer := ((Fb.other W4 (Or.inr (Jvm.RoadKit.slot_ne (Or.inl (own_wd hw (i := 22) rfl)) (Or.inl (own_wd hw (i := 11) rfl)) (by decide) (t := (.array .byte)) (t' := .int) (by decide) (by decide)))).other W6 (Or.inl (by first | exact own_neN (by omega) | exact own_neN' (by omega))))
  have c12_F_a1_position := (Fl5.other W6 (Or.inl (by first | exact own_neN (by omega) | exact own_neN' (by omega))))
  have c13_E_bf := ((E_bf.wr W4).wr W6)
  have KK : Keep h0 h6 [a1, bf] := (((Keep.refl h0 [a1, bf]).wr W4 (Or.inl (by simp))).wr W6 (Or.inl (by simp)))
  exact own_ret (v := some (.ref a1)) X6 (fun h => by first | rfl | (rw [Bd.returns] at h; cases h)) (BodyLoose.notSynchronized Bd) (by decide) (by decide) (by rw [e6]; exact ⟨rfl, N6, KK, ⟨c8_E_a1, c9_F_a1_magic, c10_F_a1_packetSize, c11_F_a1_buffer, c12_F_a1_position, V_bf_6, c13_E_bf⟩⟩) (fun fs hr => retOut X6 hx Bd.returns rfl (Or.inr (Or.inr (Or.inr (Or.inr ⟨rfl, rfl, rfl⟩)))) (hb hby D7_24.1) hr)
theorem ef_rmPB5 (m : MethodId) (a1 : Addr) (p1 : Int32) : entryFrame m #[(.ref a1), (.int p1)] 2 = mkF m 0 #[.val (.ref a1), .val (.int p1)] [] := by first | (simp [entryFrame, mkF, argsToLocals, Value.category]; done) | rfl
set_option maxRecDepth 65536 in
set_option maxHeartbeats 40000000 in
theorem rmPB5 (l : Launch) (Z : State) (a0 : Array Value) (hw : ∀ d ∈ tables_1, d.before a0 Z = true) (ws : List Jvm.Cond) (a1 : Addr) (p1 : Int32) (bf : Addr) (kb : ClassId) (mg P : Int32) (x0 x1 x2 x3 x4 x5 x6 x7 : Value) (h0 : Heap) (n0 : Nat) (Z0 : n0 ≤ h0.size) (hW : own_Wr Z h0 a1 bf kb mg P (5 : Int32) x0 x1 x2 x3 x4 x5 x6 x7) (gn_a1 : n0 ≤ a1) (gn_bf : n0 ≤ bf) (nab : @LT.lt Nat instLTNat a1 bf) (hP : own_hP P) :
    MetFree l (⟨"com/example/jetway/jetway/ajp/PacketWriter", "putByte", "(I)Lcom/example/jetway/jetway/ajp/PacketWriter;"⟩ : MethodName) (head1 (Jvm.Cond.code (⟨"com/example/jetway/jetway/ajp/PacketWriter", "putByte", "(I)Lcom/example/jetway/jetway/ajp/PacketWriter;"⟩ : MethodName) prog_15_method_2_code 2 (some (.object "com/example/jetway/jetway/ajp/PacketWriter")) :: ws) ({ frames := 2, cells := 0, slots := 0, locals := 26 } : Room)) (fun a U => a = #[(.ref a1), (.int p1)] ∧ Z.Warmed39 U.vm ∧ U.heap = h0) (fun _ _ _ _ _ => True) (fun _ U o U' => ∃ v L, o = .returned v ∧ own_QPut Z a1 bf kb mg P (6 : Int32) x0 x1 x2 x3 x4 (.int (nar .byte ((p1).toInt8.toInt32))) x6 x7 h0 n0 v U'.heap L ∧ FrameEnd U o U' L ({ frames := 2, cells := 0, slots := 0, locals := 26 } : Room).cells ({ frames := 2, cells := 0, slots := 0, locals := 26 } : Room).slots) := by
  refine MetFree.of_bodySF (plainFor_of_name pn_com_example_jetway_jetway_ajp_PacketWriter) hisR ?_
  intro p e s m args below meth c s₁ Bd hml0 hP hK
  obtain ⟨rfl, hZ, hh⟩ := hP
  have hx := Bd.exec
  have hby := Bd.bytes
  have hml : c.maxLocals = 2 := hml0
  have hown : s.vm.findClass "com/example/jetway/jetway/ajp/PacketWriter" = some m.cls := findClass_of_methodNamed Bd.named
  have hnm := (name_of_methodNamed Bd.named Bd.method).1
  have X0 : Stand p l e ({ frames := 2, cells := 0, slots := 0, locals := 26 } : Room) s m #[(.ref a1), (.int p1)] below meth c s₁ [] 0 0 := Stand.of_body Bd
  have e0 : s₁.heap = h0 := by rw [← hh, Bd.state]; rfl
  have N0 := Fr.nil n0
  refine own_start (ef_rmPB5 m a1 p1) ?_
  have hW0 := hW
  obtain ⟨E_a1, Fm, Fp, Fb, Fo, Vb, E_bf⟩ := hW
  have lt_a1 := own_ltN E_a1.lt
  have lt_bf := own_ltN Vb.lt
  have gn_bf' := own_leN gn_bf
  have gn_a1' := own_leN gn_a1
  refine o_aloadN X0 hx hby D7_0 rfl rfl ?_
  refine o_iconst X0 hx hby D7_1 (v := 1) rfl ?_
  obtain ⟨cq1, q1, q1'⟩ := E_a1.cell
  obtain ⟨_, _, ⟨T1, L1, k1, n1⟩, -, X1, ⟨Lc1, hQ1, l1, y1, z1⟩, st1⟩ := X0.privateBack hx (y := (⟨"com/example/jetway/jetway/ajp/PacketWriter", "reserve", "(I)V"⟩ : MethodName)) hown (mvT hZ (own_wd hw (i := 46) rfl)) (mvT hZ (own_wd hw (i := 47) rfl)) (own_selp (by decide) (mvT hZ (own_wd hw (i := 2) rfl)) (mvP hZ (own_wd hw (i := 48) rfl)) (mvT hZ (own_wd hw (i := 47) rfl))) (Cond.privateMethod_at (mvP hZ (own_wd hw (i := 48) rfl) (args := #[]))) (mvT hZ (own_wd hw (i := 49) rfl)) (by decide) (backOf (W := 0) (rmR l Z a0 hw [] a1 (1 : Int32) bf kb mg P (5 : Int32) x0 x1 x2 x3 x4 x5 x6 x7 h0 n0 Z0 hW0 gn_a1 gn_bf nab hP (own_res hP (by decide) (by decide) (by decide)).1 (own_res hP (by decide) (by decide) (by decide)).2) hZ (own_wd hw (i := 49) rfl) (own_wd hw (i := 3) rfl) (by decide) (by decide)) (g := (mkF m 2 #[.val (.ref a1), .val (.int p1)] [(.int (1 : Int32)), (.ref a1)])) rfl (by rw [hml]; rfl) (Steps.refl _) (a := a1) (by rw [e0]; exact q1) q1' (argsL := [(.int (1 : Int32))]) (rest := []) (lenOf pd__40I_41V rfl) rfl (by show 2 * 0 + _ ≤ _; exact Nat.le_of_eq rfl) (hb hby D7_2.1) (fun _ _ => ⟨rfl, e0, (by decide : 0 + 0 ≤ _), (by decide : 0 + 0 ≤ _)⟩)
  dsimp only [Pt.U, Pt.locs, Pt.cells, Pt.slots] at X1 l1 y1 z1 st1 hQ1
  subst l1 y1 z1
  obtain ⟨rfl, N1q, e1⟩ := hQ1
  have N1 := Fr.app N0 N1q
  refine own_pre (A' := T1.setTop (mkF m 5 #[.val (.ref a1), .val (.int p1)] [])) (fun t k => st1.trans k) ?_
  refine o_aloadN X1 hx hby D7_5 rfl rfl ?_
  obtain ⟨T2, X2, e2, st2⟩ := getF X1 hx hZ hown (host := "") (Or.inl (own_wd hw (i := 21) rfl)) Via.refl e1 Fb (g := (mkF m 6 #[.val (.ref a1), .val (.int p1)] [(.ref a1)])) rfl rfl (hb hby D7_6.1)
  refine own_pre (A' := T2.setTop (mkF m 9 #[.val (.ref a1), .val (.int p1)] [(.ref bf)])) st2 ?_
  refine o_aloadN X2 hx hby D7_9 rfl rfl ?_
  refine o_dup X2 hx hby D7_10 rfl ?_
  obtain ⟨T3, X3, e3, st3⟩ := getF X2 hx hZ hown (host := "") (Or.inl (own_wd hw (i := 10) rfl)) Via.refl e2 Fo (g := (mkF m 11 #[.val (.ref a1), .val (.int p1)] [(.ref a1), (.ref a1), (.ref bf)])) rfl rfl (hb hby D7_11.1)
  refine own_pre (A' := T3.setTop (mkF m 14 #[.val (.ref a1), .val (.int p1)] [(.int (5 : Int32)), (.ref a1), (.ref bf)])) st3 ?_
  refine o_dupX1 X3 hx hby D7_14 rfl rfl ?_
  refine o_iconst X3 hx hby D7_15 (v := 1) rfl ?_
  refine o_iadd X3 hx hby D7_16 ?_
  obtain ⟨T4, h4, X4, e4, W4, st4⟩ := putF X3 hx hZ hown (host := "") (Or.inl (own_wd hw (i := 10) rfl)) Via.refl e3 Fo E_a1 (Or.inl (own_wd hw (i := 11) rfl)) (own_wd hw (i := 2) rfl) (ty := .int) (by decide) rfl rfl (g := (mkF m 17 #[.val (.ref a1), .val (.int p1)] [(.int ((5 : Int32) + (1 : Int32))), (.ref a1), (.int (5 : Int32)), (.ref bf)])) rfl rfl (hb hby D7_17.1)
  have Fw4 := Fo.same W4
  have sz4 := own_leN (Keep.of_wr W4).1
  have N4 := Fr.snoc X4 N1 gn_a1
  refine own_pre (A' := T4.setTop (mkF m 20 #[.val (.ref a1), .val (.int p1)] [(.int (5 : Int32)), (.ref bf)])) st4 ?_
  have Fl5 : Fld Z h4 a1 "com/example/jetway/jetway/ajp/PacketWriter" "position" "I" (.int (6 : Int32)) := Fw4
  refine o_iloadN X4 hx hby D7_20 rfl ?_
  refine o_i2b X4 hx hby D7_21 ?_
  have c7_V_bf := (Vb.other W4 (by first | exact own_neN (by omega) | exact own_neN' (by omega)))
  obtain ⟨cl_bf_6, Ar_bf_6, q_bf_6, S_bf_6, N_bf_6, H_bf_6, G_bf_6⟩ := id c7_V_bf
  have hin_bf_6 : ¬ ((5 : Int32) < 0 ∨ cl_bf_6.slots.size ≤ ((5 : Int32)).toNatClampNeg) := inb_of S_bf_6 (own_in hP (by decide))
  obtain ⟨T6, h6, X6, e6, W6, st6⟩ := stB X4 hx hZ e4 Ar_bf_6 (j := (5 : Int32)) hin_bf_6 (g := (mkF m 22 #[.val (.ref a1), .val (.int p1)] [(.int ((p1).toInt8.toInt32)), (.int (5 : Int32)), (.ref bf)])) rfl rfl (hb hby D7_22.1)
  have V_bf_6 : Arv Z h6 bf kb .byte P [x0, x1, x2, x3, x4, (.int (nar .byte ((p1).toInt8.toInt32))), x6, x7] (.int (0 : Int32)) := Arv.set Ar_bf_6 q_bf_6 S_bf_6 N_bf_6 H_bf_6 G_bf_6 (fits_nar_byte _) W6 5 rfl (Nat.le_of_ble_eq_true rfl)
  have sz6 := own_leN (Keep.of_wr W6).1
  have N6 := Fr.snoc X6 N4 gn_bf
  refine own_pre (A' := T6.setTop (mkF m 23 #[.val (.ref a1), .val (.int p1)] [])) st6 ?_
  refine o_aloadN X6 hx hby D7_23 rfl rfl ?_
  have c8_E_a1 := ((E_a1.wr W4).wr W6)
  have c9_F_a1_magic := ((Fm.other W4 (Or.inr (Jvm.RoadKit.slot_ne (Or.inr (own_wd hw (i := 13) rfl)) (Or.inl (own_wd hw (i := 11) rfl)) (by decide) (t := .int) (t' := .int) (by decide) (by decide)))).other W6 (Or.inl (by first | exact own_neN (by omega) | exact own_neN' (by omega))))
  have c10_F_a1_packetSize := ((Fp.other W4 (Or.inr (Jvm.RoadKit.slot_ne (Or.inr (own_wd hw (i := 15) rfl)) (Or.inl (own_wd hw (i := 11) rfl)) (by decide) (t := .int) (t' := .int) (by decide) (by decide)))).other W6 (Or.inl (by first | exact own_neN (by omega) | exact own_neN' (by omega))))
  have c11_F_a1_buffer := ((Fb.other W4 (Or.inr (Jvm.RoadKit.slot_ne (Or.inl (own_wd hw (i := 22) rfl)) (Or.inl (own_wd hw (i := 11) rfl)) (by decide) (t := (.array .byte)) (t' := .int) (by decide) (by decide)))).other W6 (Or.inl (by first | exact own_neN (by omega) | exact own_neN' (by omega))))
  have c12_F_a1_position := (Fl5.other W6 (Or.inl (by first | exact own_neN (by omega) | exact own_neN' (by omega))))
  have c13_E_bf := ((E_bf.wr W4).wr W6)
  have KK : Keep h0 h6 [a1, bf] := (((Keep.refl h0 [a1, bf]).wr W4 (Or.inl (by simp))).wr W6 (Or.inl (by simp)))
  exact own_ret (v := some (.ref a1)) X6 (fun h => by first | rfl | (rw [Bd.returns] at h; cases h)) (BodyLoose.notSynchronized Bd) (by decide) (by decide) (by rw [e6]; exact ⟨rfl, N6, KK, ⟨c8_E_a1, c9_F_a1_magic, c10_F_a1_packetSize, c11_F_a1_buffer, c12_F_a1_position, V_bf_6, c13_E_bf⟩⟩) (fun fs hr => retOut X6 hx Bd.returns rfl (Or.inr (Or.inr (Or.inr (Or.inr ⟨rfl, rfl, rfl⟩)))) (hb hby D7_24.1) hr)
theorem D10_0 : own_at prog_15_method_4_code 0 (.aload_n 0) 1 1 := ⟨by decide +kernel, rfl⟩
theorem D10_1 : own_at prog_15_method_4_code 1 (.iconst 2) 1 2 := ⟨by decide +kernel, rfl⟩
theorem D10_2 : own_at prog_15_method_4_code 2 (.invokevirtual 31) 3 5 := ⟨by decide +kernel, rfl⟩
theorem D10_5 : own_at prog_15_method_4_code 5 (.aload_n 0) 1 6 := ⟨by decide +kernel, rfl⟩
theorem D10_6 : own_at prog_15_method_4_code 6 (.getfield 27) 3 9 := ⟨by decide +kernel, rfl⟩
theorem D10_9 : own_at prog_15_method_4_code 9 (.aload_n 0) 1 10 := ⟨by decide +kernel, rfl⟩
theorem D10_10 : own_at prog_15_method_4_code 10 (.dup) 1 11 := ⟨by decide +kernel, rfl⟩
theorem D10_11 : own_at prog_15_method_4_code 11 (.getfield 9) 3 14 := ⟨by decide +kernel, rfl⟩
theorem D10_14 : own_at prog_15_method_4_code 14 (.dup_x1) 1 15 := ⟨by decide +kernel, rfl⟩
theorem D10_15 : own_at prog_15_method_4_code 15 (.iconst 1) 1 16 := ⟨by decide +kernel, rfl⟩
theorem D10_16 : own_at prog_15_method_4_code 16 (.iadd) 1 17 := ⟨by decide +kernel, rfl⟩
theorem D10_17 : own_at prog_15_method_4_code 17 (.putfield 9) 3 20 := ⟨by decide +kernel, rfl⟩
theorem D10_20 : own_at prog_15_method_4_code 20 (.iload_n 1) 1 21 := ⟨by decide +kernel, rfl⟩
theorem D10_21 : own_at prog_15_method_4_code 21 (.bipush 8) 2 23 := ⟨by decide +kernel, rfl⟩
theorem D10_23 : own_at prog_15_method_4_code 23 (.iushr) 1 24 := ⟨by decide +kernel, rfl⟩
theorem D10_24 : own_at prog_15_method_4_code 24 (.i2b) 1 25 := ⟨by decide +kernel, rfl⟩
theorem D10_25 : own_at prog_15_method_4_code 25 (.bastore) 1 26 := ⟨by decide +kernel, rfl⟩
theorem D10_26 : own_at prog_15_method_4_code 26 (.aload_n 0) 1 27 := ⟨by decide +kernel, rfl⟩
theorem D10_27 : own_at prog_15_method_4_code 27 (.getfield 27) 3 30 := ⟨by decide +kernel, rfl⟩
theorem D10_30 : own_at prog_15_method_4_code 30 (.aload_n 0) 1 31 := ⟨by decide +kernel, rfl⟩
theorem D10_31 : own_at prog_15_method_4_code 31 (.dup) 1 32 := ⟨by decide +kernel, rfl⟩
theorem D10_32 : own_at prog_15_method_4_code 32 (.getfield 9) 3 35 := ⟨by decide +kernel, rfl⟩
theorem D10_35 : own_at prog_15_method_4_code 35 (.dup_x1) 1 36 := ⟨by decide +kernel, rfl⟩
theorem D10_36 : own_at prog_15_method_4_code 36 (.iconst 1) 1 37 := ⟨by decide +kernel, rfl⟩
theorem D10_37 : own_at prog_15_method_4_code 37 (.iadd) 1 38 := ⟨by decide +kernel, rfl⟩
theorem D10_38 : own_at prog_15_method_4_code 38 (.putfield 9) 3 41 := ⟨by decide +kernel, rfl⟩
theorem D10_41 : own_at prog_15_method_4_code 41 (.iload_n 1) 1 42 := ⟨by decide +kernel, rfl⟩
theorem D10_42 : own_at prog_15_method_4_code 42 (.i2b) 1 43 := ⟨by decide +kernel, rfl⟩
theorem D10_43 : own_at prog_15_method_4_code 43 (.bastore) 1 44 := ⟨by decide +kernel, rfl⟩
theorem D10_44 : own_at prog_15_method_4_code 44 (.aload_n 0) 1 45 := ⟨by decide +kernel, rfl⟩
theorem D10_45 : own_at prog_15_method_4_code 45 (.areturn) 1 46 := ⟨by decide +kernel, rfl⟩
theorem ef_rmPI (m : MethodId) (a1 : Addr) (p1 : Int32) : entryFrame m #[(.ref a1), (.int p1)] 2 = mkF m 0 #[.val (.ref a1), .val (.int p1)] [] := by first | (simp [entryFrame, mkF, argsToLocals, Value.category]; done) | rfl
set_option maxRecDepth 65536 in
set_option maxHeartbeats 40000000 in
theorem rmPI (l : Launch) (Z : State) (a0 : Array Value) (hw : ∀ d ∈ tables_1, d.before a0 Z = true) (ws : List Jvm.Cond) (a1 : Addr) (p1 : Int32) (bf : Addr) (kb : ClassId) (mg P : Int32) (x0 x1 x2 x3 x4 x5 x6 x7 : Value) (h0 : Heap) (n0 : Nat) (Z0 : n0 ≤ h0.size) (hW : own_Wr Z h0 a1 bf kb mg P (6 : Int32) x0 x1 x2 x3 x4 x5 x6 x7) (gn_a1 : n0 ≤ a1) (gn_bf : n0 ≤ bf) (nab : @LT.lt Nat instLTNat a1 bf) (hP : own_hP P) :
    MetFree l (⟨"com/example/jetway/jetway/ajp/PacketWriter", "putInt", "(I)Lcom/example/jetway/jetway/ajp/PacketWriter;"⟩ : MethodName) (head1 (Jvm.Cond.code (⟨"com/example/jetway/jetway/ajp/PacketWriter", "putInt", "(I)Lcom/example/jetway/jetway/ajp/PacketWriter;"⟩ : MethodName) prog_15_method_4_code 2 (some (.object "com/example/jetway/jetway/ajp/PacketWriter")) :: ws) ({ frames := 2, cells := 0, slots := 0, locals := 26 } : Room)) (fun a U => a = #[(.ref a1), (.int p1)] ∧ Z.Warmed39 U.vm ∧ U.heap = h0) (fun _ _ _ _ _ => True) (fun _ U o U' => ∃ v L, o = .returned v ∧ own_QPut Z a1 bf kb mg P (8 : Int32) x0 x1 x2 x3 x4 x5 (.int (nar .byte ((((p1.toUInt32 >>> ((8 : Int32) &&& 31).toUInt32).toInt32)).toInt8.toInt32))) (.int (nar .byte ((p1).toInt8.toInt32))) h0 n0 v U'.heap L ∧ FrameEnd U o U' L ({ frames := 2, cells := 0, slots := 0, locals := 26 } : Room).cells ({ frames := 2, cells := 0, slots := 0, locals := 26 } : Room).slots) := by
  refine MetFree.of_bodySF (plainFor_of_name pn_com_example_jetway_jetway_ajp_PacketWriter) hisR ?_
  intro p e s m args below meth c s₁ Bd hml0 hP hK
  obtain ⟨rfl, hZ, hh⟩ := hP
  have hx := Bd.exec
  have hby := Bd.bytes
  have hml : c.maxLocals = 2 := hml0
  have hown : s.vm.findClass "com/example/jetway/jetway/ajp/PacketWriter" = some m.cls := findClass_of_methodNamed Bd.named
  have hnm := (name_of_methodNamed Bd.named Bd.method).1
  have X0 : Stand p l e ({ frames := 2, cells := 0, slots := 0, locals := 26 } : Room) s m #[(.ref a1), (.int p1)] below meth c s₁ [] 0 0 := Stand.of_body Bd
  have e0 : s₁.heap = h0 := by rw [← hh, Bd.state]; rfl
  have N0 := Fr.nil n0
  refine own_start (ef_rmPI m a1 p1) ?_
  have hW0 := hW
  obtain ⟨E_a1, Fm, Fp, Fb, Fo, Vb, E_bf⟩ := hW
  have lt_a1 := own_ltN E_a1.lt
  have lt_bf := own_ltN Vb.lt
  have gn_bf' := own_leN gn_bf
  have gn_a1' := own_leN gn_a1
  refine o_aloadN X0 hx hby D10_0 rfl rfl ?_
  refine o_iconst X0 hx hby D10_1 (v := 2) rfl ?_
  obtain ⟨cq1, q1, q1'⟩ := E_a1.cell
  obtain ⟨_, _, ⟨T1, L1, k1, n1⟩, -, X1, ⟨Lc1, hQ1, l1, y1, z1⟩, st1⟩ := X0.privateBack hx (y := (⟨"com/example/jetway/jetway/ajp/PacketWriter", "reserve", "(I)V"⟩ : MethodName)) hown (mvT hZ (own_wd hw (i := 46) rfl)) (mvT hZ (own_wd hw (i := 47) rfl)) (own_selp (by decide) (mvT hZ (own_wd hw (i := 2) rfl)) (mvP hZ (own_wd hw (i := 48) rfl)) (mvT hZ (own_wd hw (i := 47) rfl))) (Cond.privateMethod_at (mvP hZ (own_wd hw (i := 48) rfl) (args := #[]))) (mvT hZ (own_wd hw (i := 49) rfl)) (by decide) (backOf (W := 0) (rmR l Z a0 hw [] a1 (2 : Int32) bf kb mg P (6 : Int32) x0 x1 x2 x3 x4 x5 x6 x7 h0 n0 Z0 hW0 gn_a1 gn_bf nab hP (own_res hP (by decide) (by decide) (by decide)).1 (own_res hP (by decide) (by decide) (by decide)).2) hZ (own_wd hw (i := 49) rfl) (own_wd hw (i := 3) rfl) (by decide) (by decide)) (g := (mkF m 2 #[.val (.ref a1), .val (.int p1)] [(.int (2 : Int32)), (.ref a1)])) rfl (by rw [hml]; rfl) (Steps.refl _) (a := a1) (by rw [e0]; exact q1) q1' (argsL := [(.int (2 : Int32))]) (rest := []) (lenOf pd__40I_41V rfl) rfl (by show 2 * 0 + _ ≤ _; exact Nat.le_of_eq rfl) (hb hby D10_2.1) (fun _ _ => ⟨rfl, e0, (by decide : 0 + 0 ≤ _), (by decide : 0 + 0 ≤ _)⟩)
  dsimp only [Pt.U, Pt.locs, Pt.cells, Pt.slots] at X1 l1 y1 z1 st1 hQ1
  subst l1 y1 z1
  obtain ⟨rfl, N1q, e1⟩ := hQ1
  have N1 := Fr.app N0 N1q
  refine own_pre (A' := T1.setTop (mkF m 5 #[.val (.ref a1), .val (.int p1)] [])) (fun t k => st1.trans k) ?_
  refine o_aloadN X1 hx hby D10_5 rfl rfl ?_
  obtain ⟨T2, X2, e2, st2⟩ := getF X1 hx hZ hown (host := "") (Or.inl (own_wd hw (i := 21) rfl)) Via.refl e1 Fb (g := (mkF m 6 #[.val (.ref a1), .val (.int p1)] [(.ref a1)])) rfl rfl (hb hby D10_6.1)
  refine own_pre (A' := T2.setTop (mkF m 9 #[.val (.ref a1), .val (.int p1)] [(.ref bf)])) st2 ?_
  refine o_aloadN X2 hx hby D10_9 rfl rfl ?_
  refine o_dup X2 hx hby D10_10 rfl ?_
  obtain ⟨T3, X3, e3, st3⟩ := getF X2 hx hZ hown (host := "") (Or.inl (own_wd hw (i := 10) rfl)) Via.refl e2 Fo (g := (mkF m 11 #[.val (.ref a1), .val (.int p1)] [(.ref a1), (.ref a1), (.ref bf)])) rfl rfl (hb hby D10_11.1)
  refine own_pre (A' := T3.setTop (mkF m 14 #[.val (.ref a1), .val (.int p1)] [(.int (6 : Int32)), (.ref a1), (.ref bf)])) st3 ?_
  refine o_dupX1 X3 hx hby D10_14 rfl rfl ?_
  refine o_iconst X3 hx hby D10_15 (v := 1) rfl ?_
  refine o_iadd X3 hx hby D10_16 ?_
  obtain ⟨T4, h4, X4, e4, W4, st4⟩ := putF X3 hx hZ hown (host := "") (Or.inl (own_wd hw (i := 10) rfl)) Via.refl e3 Fo E_a1 (Or.inl (own_wd hw (i := 11) rfl)) (own_wd hw (i := 2) rfl) (ty := .int) (by decide) rfl rfl (g := (mkF m 17 #[.val (.ref a1), .val (.int p1)] [(.int ((6 : Int32) + (1 : Int32))), (.ref a1), (.int (6 : Int32)), (.ref bf)])) rfl rfl (hb hby D10_17.1)
  have Fw4 := Fo.same W4
  have sz4 := own_leN (Keep.of_wr W4).1
  have N4 := Fr.snoc X4 N1 gn_a1
  refine own_pre (A' := T4.setTop (mkF m 20 #[.val (.ref a1), .val (.int p1)] [(.int (6 : Int32)), (.ref bf)])) st4 ?_
  have Fl5 : Fld Z h4 a1 "com/example/jetway/jetway/ajp/PacketWriter" "position" "I" (.int (7 : Int32)) := Fw4
  refine o_iloadN X4 hx hby D10_20 rfl ?_
  refine o_bipush X4 hx hby D10_21 (v := 8) rfl ?_
  refine o_iushr X4 hx hby D10_23 ?_
  refine o_i2b X4 hx hby D10_24 ?_
  have c7_V_bf := (Vb.other W4 (by first | exact own_neN (by omega) | exact own_neN' (by omega)))
  obtain ⟨cl_bf_6, Ar_bf_6, q_bf_6, S_bf_6, N_bf_6, H_bf_6, G_bf_6⟩ := id c7_V_bf
  have hin_bf_6 : ¬ ((6 : Int32) < 0 ∨ cl_bf_6.slots.size ≤ ((6 : Int32)).toNatClampNeg) := inb_of S_bf_6 (own_in hP (by decide))
  obtain ⟨T6, h6, X6, e6, W6, st6⟩ := stB X4 hx hZ e4 Ar_bf_6 (j := (6 : Int32)) hin_bf_6 (g := (mkF m 25 #[.val (.ref a1), .val (.int p1)] [(.int ((((p1.toUInt32 >>> ((8 : Int32) &&& 31).toUInt32).toInt32)).toInt8.toInt32)), (.int (6 : Int32)), (.ref bf)])) rfl rfl (hb hby D10_25.1)
  have V_bf_6 : Arv Z h6 bf kb .byte P [x0, x1, x2, x3, x4, x5, (.int (nar .byte ((((p1.toUInt32 >>> ((8 : Int32) &&& 31).toUInt32).toInt32)).toInt8.toInt32))), x7] (.int (0 : Int32)) := Arv.set Ar_bf_6 q_bf_6 S_bf_6 N_bf_6 H_bf_6 G_bf_6 (fits_nar_byte _) W6 6 rfl (Nat.le_of_ble_eq_true rfl)
  have sz6 := own_leN (Keep.of_wr W6).1
  have N6 := Fr.snoc X6 N4 gn_bf
  refine own_pre (A' := T6.setTop (mkF m 26 #[.val (.ref a1), .val (.int p1)] [])) st6 ?_
  refine o_aloadN X6 hx hby D10_26 rfl rfl ?_
  have c9_F_a1_buffer := ((Fb.other W4 (Or.inr (Jvm.RoadKit.slot_ne (Or.inl (own_wd hw (i := 22) rfl)) (Or.inl (own_wd hw (i := 11) rfl)) (by decide) (t := (.array .byte)) (t' := .int) (by decide) (by decide)))).other W6 (Or.inl (by first | exact own_neN (by omega) | exact own_neN' (by omega))))
  obtain ⟨T8, X8, e8, st8⟩ := getF X6 hx hZ hown (host := "") (Or.inl (own_wd hw (i := 21) rfl)) Via.refl e6 c9_F_a1_buffer (g := (mkF m 27 #[.val (.ref a1), .val (.int p1)] [(.ref a1)])) rfl rfl (hb hby D10_27.1)
  refine own_pre (A' := T8.setTop (mkF m 30 #[.val (.ref a1), .val (.int p1)] [(.ref bf)])) st8 ?_
  refine o_aloadN X8 hx hby D10_30 rfl rfl ?_
  refine o_dup X8 hx hby D10_31 rfl ?_
  have c11_F_a1_position := (Fl5.other W6 (Or.inl (by first | exact own_neN (by omega) | exact own_neN' (by omega))))
  obtain ⟨T10, X10, e10, st10⟩ := getF X8 hx hZ hown (host := "") (Or.inl (own_wd hw (i := 10) rfl)) Via.refl e8 c11_F_a1_position (g := (mkF m 32 #[.val (.ref a1), .val (.int p1)] [(.ref a1), (.ref a1), (.ref bf)])) rfl rfl (hb hby D10_32.1)
  refine own_pre (A' := T10.setTop (mkF m 35 #[.val (.ref a1), .val (.int p1)] [(.int (7 : Int32)), (.ref a1), (.ref bf)])) st10 ?_
  refine o_dupX1 X10 hx hby D10_35 rfl rfl ?_
  refine o_iconst X10 hx hby D10_36 (v := 1) rfl ?_
  refine o_iadd X10 hx hby D10_37 ?_
  have c13_E_a1 := ((E_a1.wr W4).wr W6)
  obtain ⟨T12, h12, X12, e12, W12, st12⟩ := putF X10 hx hZ hown (host := "") (Or.inl (own_wd hw (i := 10) rfl)) Via.refl e10 c11_F_a1_position c13_E_a1 (Or.inl (own_wd hw (i := 11) rfl)) (own_wd hw (i := 2) rfl) (ty := .int) (by decide) rfl rfl (g := (mkF m 38 #[.val (.ref a1), .val (.int p1)] [(.int ((7 : Int32) + (1 : Int32))), (.ref a1), (.int (7 : Int32)), (.ref bf)])) rfl rfl (hb hby D10_38.1)
  have Fw12 := c11_F_a1_position.same W12
  have sz12 := own_leN (Keep.of_wr W12).1
  have N12 := Fr.snoc X12 N6 gn_a1
  refine own_pre (A' := T12.setTop (mkF m 41 #[.val (.ref a1), .val (.int p1)] [(.int (7 : Int32)), (.ref bf)])) st12 ?_
  have Fl14 : Fld Z h12 a1 "com/example/jetway/jetway/ajp/PacketWriter" "position" "I" (.int (8 : Int32)) := Fw12
  refine o_iloadN X12 hx hby D10_41 rfl ?_
  refine o_i2b X12 hx hby D10_42 ?_
  have c16_V_bf := (V_bf_6.other W12 (by first | exact own_neN (by omega) | exact own_neN' (by omega)))
  obtain ⟨cl_bf_15, Ar_bf_15, q_bf_15, S_bf_15, N_bf_15, H_bf_15, G_bf_15⟩ := id c16_V_bf
  have hin_bf_15 : ¬ ((7 : Int32) < 0 ∨ cl_bf_15.slots.size ≤ ((7 : Int32)).toNatClampNeg) := inb_of S_bf_15 (own_in hP (by decide))
  obtain ⟨T15, h15, X15, e15, W15, st15⟩ := stB X12 hx hZ e12 Ar_bf_15 (j := (7 : Int32)) hin_bf_15 (g := (mkF m 43 #[.val (.ref a1), .val (.int p1)] [(.int ((p1).toInt8.toInt32)), (.int (7 : Int32)), (.ref bf)])) rfl rfl (hb hby D10_43.1)
  have V_bf_15 : Arv Z h15 bf kb .byte P [x0, x1, x2, x3, x4, x5, (.int (nar .byte ((((p1.toUInt32 >>> ((8 : Int32) &&& 31).toUInt32).toInt32)).toInt8.toInt32))), (.int (nar .byte ((p1).toInt8.toInt32)))] (.int (0 : Int32)) := Arv.set Ar_bf_15 q_bf_15 S_bf_15 N_bf_15 H_bf_15 G_bf_15 (fits_nar_byte _) W15 7 rfl (Nat.le_of_ble_eq_true rfl)
  have sz15 := own_leN (Keep.of_wr W15).1
  have N15 := Fr.snoc X15 N12 gn_bf
  refine own_pre (A' := T15.setTop (mkF m 44 #[.val (.ref a1), .val (.int p1)] [])) st15 ?_
  refine o_aloadN X15 hx hby D10_44 rfl rfl ?_
  have c17_E_a1 := ((c13_E_a1.wr W12).wr W15)
  have c18_F_a1_magic := ((((Fm.other W4 (Or.inr (Jvm.RoadKit.slot_ne (Or.inr (own_wd hw (i := 13) rfl)) (Or.inl (own_wd hw (i := 11) rfl)) (by decide) (t := .int) (t' := .int) (by decide) (by decide)))).other W6 (Or.inl (by first | exact own_neN (by omega) | exact own_neN' (by omega)))).other W12 (Or.inr (Jvm.RoadKit.slot_ne (Or.inr (own_wd hw (i := 13) rfl)) (Or.inl (own_wd hw (i := 11) rfl)) (by decide) (t := .int) (t' := .int) (by decide) (by decide)))).other W15 (Or.inl (by first | exact own_neN (by omega) | exact own_neN' (by omega))))
  have c19_F_a1_packetSize := ((((Fp.other W4 (Or.inr (Jvm.RoadKit.slot_ne (Or.inr (own_wd hw (i := 15) rfl)) (Or.inl (own_wd hw (i := 11) rfl)) (by decide) (t := .int) (t' := .int) (by decide) (by decide)))).other W6 (Or.inl (by first | exact own_neN (by omega) | exact own_neN' (by omega)))).other W12 (Or.inr (Jvm.RoadKit.slot_ne (Or.inr (own_wd hw (i := 15) rfl)) (Or.inl (own_wd hw (i := 11) rfl)) (by decide) (t := .int) (t' := .int) (by decide) (by decide)))).other W15 (Or.inl (by first | exact own_neN (by omega) | exact own_neN' (by omega))))
  have c20_F_a1_buffer := ((c9_F_a1_buffer.other W12 (Or.inr (Jvm.RoadKit.slot_ne (Or.inl (own_wd hw (i := 22) rfl)) (Or.inl (own_wd hw (i := 11) rfl)) (by decide) (t := (.array .byte)) (t' := .int) (by decide) (by decide)))).other W15 (Or.inl (by first | exact own_neN (by omega) | exact own_neN' (by omega))))
  have c21_F_a1_position := (Fl14.other W15 (Or.inl (by first | exact own_neN (by omega) | exact own_neN' (by omega))))
  have c22_E_bf := ((((E_bf.wr W4).wr W6).wr W12).wr W15)
  have KK : Keep h0 h15 [a1, bf] := (((((Keep.refl h0 [a1, bf]).wr W4 (Or.inl (by simp))).wr W6 (Or.inl (by simp))).wr W12 (Or.inl (by simp))).wr W15 (Or.inl (by simp)))
  exact own_ret (v := some (.ref a1)) X15 (fun h => by first | rfl | (rw [Bd.returns] at h; cases h)) (BodyLoose.notSynchronized Bd) (by decide) (by decide) (by rw [e15]; exact ⟨rfl, N15, KK, ⟨c17_E_a1, c18_F_a1_magic, c19_F_a1_packetSize, c20_F_a1_buffer, c21_F_a1_position, V_bf_15, c22_E_bf⟩⟩) (fun fs hr => retOut X15 hx Bd.returns rfl (Or.inr (Or.inr (Or.inr (Or.inr ⟨rfl, rfl, rfl⟩)))) (hb hby D10_45.1) hr)
def own_QF (Z : State) (a1 bf : Addr) (kb : ClassId) (mg P pos : Int32) (x0 x1 x2 x3 x4 x5 x6 x7 : Value) (h0 : Heap) (n0 : Nat) (v : Option Value) (h : Heap) (L : List Loc) : Prop := v = none ∧ Fr n0 L ∧ Keep h0 h [bf] ∧ own_Wr Z h a1 bf kb mg P pos (.int (nar .byte ((((mg.toUInt32 >>> ((8 : Int32) &&& 31).toUInt32).toInt32)).toInt8.toInt32))) (.int (nar .byte ((mg).toInt8.toInt32))) (.int (nar .byte (((((pos - (4 : Int32)).toUInt32 >>> ((8 : Int32) &&& 31).toUInt32).toInt32)).toInt8.toInt32))) (.int (nar .byte (((pos - (4 : Int32))).toInt8.toInt32))) x4 x5 x6 x7
theorem D5_0 : own_at prog_15_method_11_code 0 (.aload_n 0) 1 1 := ⟨by decide +kernel, rfl⟩
theorem D5_1 : own_at prog_15_method_11_code 1 (.getfield 9) 3 4 := ⟨by decide +kernel, rfl⟩
theorem D5_4 : own_at prog_15_method_11_code 4 (.iconst 4) 1 5 := ⟨by decide +kernel, rfl⟩
theorem D5_5 : own_at prog_15_method_11_code 5 (.isub) 1 6 := ⟨by decide +kernel, rfl⟩
theorem D5_6 : own_at prog_15_method_11_code 6 (.istore_n 1) 1 7 := ⟨by decide +kernel, rfl⟩
theorem D5_7 : own_at prog_15_method_11_code 7 (.aload_n 0) 1 8 := ⟨by decide +kernel, rfl⟩
theorem D5_8 : own_at prog_15_method_11_code 8 (.getfield 27) 3 11 := ⟨by decide +kernel, rfl⟩
theorem D5_11 : own_at prog_15_method_11_code 11 (.iconst 0) 1 12 := ⟨by decide +kernel, rfl⟩
theorem D5_12 : own_at prog_15_method_11_code 12 (.aload_n 0) 1 13 := ⟨by decide +kernel, rfl⟩
theorem D5_13 : own_at prog_15_method_11_code 13 (.getfield 15) 3 16 := ⟨by decide +kernel, rfl⟩
theorem D5_16 : own_at prog_15_method_11_code 16 (.bipush 8) 2 18 := ⟨by decide +kernel, rfl⟩
theorem D5_18 : own_at prog_15_method_11_code 18 (.iushr) 1 19 := ⟨by decide +kernel, rfl⟩
theorem D5_19 : own_at prog_15_method_11_code 19 (.i2b) 1 20 := ⟨by decide +kernel, rfl⟩
theorem D5_20 : own_at prog_15_method_11_code 20 (.bastore) 1 21 := ⟨by decide +kernel, rfl⟩
theorem D5_21 : own_at prog_15_method_11_code 21 (.aload_n 0) 1 22 := ⟨by decide +kernel, rfl⟩
theorem D5_22 : own_at prog_15_method_11_code 22 (.getfield 27) 3 25 := ⟨by decide +kernel, rfl⟩
theorem D5_25 : own_at prog_15_method_11_code 25 (.iconst 1) 1 26 := ⟨by decide +kernel, rfl⟩
theorem D5_26 : own_at prog_15_method_11_code 26 (.aload_n 0) 1 27 := ⟨by decide +kernel, rfl⟩
theorem D5_27 : own_at prog_15_method_11_code 27 (.getfield 15) 3 30 := ⟨by decide +kernel, rfl⟩
theorem D5_30 : own_at prog_15_method_11_code 30 (.i2b) 1 31 := ⟨by decide +kernel, rfl⟩
theorem D5_31 : own_at prog_15_method_11_code 31 (.bastore) 1 32 := ⟨by decide +kernel, rfl⟩
theorem D5_32 : own_at prog_15_method_11_code 32 (.aload_n 0) 1 33 := ⟨by decide +kernel, rfl⟩
theorem D5_33 : own_at prog_15_method_11_code 33 (.getfield 27) 3 36 := ⟨by decide +kernel, rfl⟩
theorem D5_36 : own_at prog_15_method_11_code 36 (.iconst 2) 1 37 := ⟨by decide +kernel, rfl⟩
theorem D5_37 : own_at prog_15_method_11_code 37 (.iload_n 1) 1 38 := ⟨by decide +kernel, rfl⟩
theorem D5_38 : own_at prog_15_method_11_code 38 (.bipush 8) 2 40 := ⟨by decide +kernel, rfl⟩
theorem D5_40 : own_at prog_15_method_11_code 40 (.iushr) 1 41 := ⟨by decide +kernel, rfl⟩
theorem D5_41 : own_at prog_15_method_11_code 41 (.i2b) 1 42 := ⟨by decide +kernel, rfl⟩
theorem D5_42 : own_at prog_15_method_11_code 42 (.bastore) 1 43 := ⟨by decide +kernel, rfl⟩
theorem D5_43 : own_at prog_15_method_11_code 43 (.aload_n 0) 1 44 := ⟨by decide +kernel, rfl⟩
theorem D5_44 : own_at prog_15_method_11_code 44 (.getfield 27) 3 47 := ⟨by decide +kernel, rfl⟩
theorem D5_47 : own_at prog_15_method_11_code 47 (.iconst 3) 1 48 := ⟨by decide +kernel, rfl⟩
theorem D5_48 : own_at prog_15_method_11_code 48 (.iload_n 1) 1 49 := ⟨by decide +kernel, rfl⟩
theorem D5_49 : own_at prog_15_method_11_code 49 (.i2b) 1 50 := ⟨by decide +kernel, rfl⟩
theorem D5_50 : own_at prog_15_method_11_code 50 (.bastore) 1 51 := ⟨by decide +kernel, rfl⟩
theorem D5_51 : own_at prog_15_method_11_code 51 (.return_) 1 52 := ⟨by decide +kernel, rfl⟩
theorem ef_rmF (m : MethodId) (a1 : Addr) : entryFrame m #[(.ref a1)] 2 = mkF m 0 #[.val (.ref a1), .unset] [] := by first | (simp [entryFrame, mkF, argsToLocals, Value.category]; done) | rfl
set_option maxRecDepth 65536 in
set_option maxHeartbeats 40000000 in
theorem rmF (l : Launch) (Z : State) (a0 : Array Value) (hw : ∀ d ∈ tables_1, d.before a0 Z = true) (ws : List Jvm.Cond) (a1 : Addr) (bf : Addr) (kb : ClassId) (mg P pos : Int32) (x0 x1 x2 x3 x4 x5 x6 x7 : Value) (h0 : Heap) (n0 : Nat) (Z0 : n0 ≤ h0.size) (hW : own_Wr Z h0 a1 bf kb mg P pos x0 x1 x2 x3 x4 x5 x6 x7) (gn_a1 : n0 ≤ a1) (gn_bf : n0 ≤ bf) (nab : @LT.lt Nat instLTNat a1 bf) (hP : own_hP P) :
    MetFree l (⟨"com/example/jetway/jetway/ajp/PacketWriter", "frame", "()V"⟩ : MethodName) (head1 (Jvm.Cond.code (⟨"com/example/jetway/jetway/ajp/PacketWriter", "frame", "()V"⟩ : MethodName) prog_15_method_11_code 2 none :: ws) ({ frames := 0, cells := 0, slots := 0, locals := 0 } : Room)) (fun a U => a = #[(.ref a1)] ∧ Z.Warmed39 U.vm ∧ U.heap = h0) (fun _ _ _ _ _ => True) (fun _ U o U' => ∃ v L, o = .returned v ∧ own_QF Z a1 bf kb mg P pos x0 x1 x2 x3 x4 x5 x6 x7 h0 n0 v U'.heap L ∧ FrameEnd U o U' L ({ frames := 0, cells := 0, slots := 0, locals := 0 } : Room).cells ({ frames := 0, cells := 0, slots := 0, locals := 0 } : Room).slots) := by
  refine MetFree.of_bodySF (plainFor_of_name pn_com_example_jetway_jetway_ajp_PacketWriter) hisR ?_
  intro p e s m args below meth c s₁ Bd hml0 hP hK
  obtain ⟨rfl, hZ, hh⟩ := hP
  have hx := Bd.exec
  have hby := Bd.bytes
  have hml : c.maxLocals = 2 := hml0
  have hown : s.vm.findClass "com/example/jetway/jetway/ajp/PacketWriter" = some m.cls := findClass_of_methodNamed Bd.named
  have hnm := (name_of_methodNamed Bd.named Bd.method).1
  have X0 : Stand p l e ({ frames := 0, cells := 0, slots := 0, locals := 0 } : Room) s m #[(.ref a1)] below meth c s₁ [] 0 0 := Stand.of_body Bd
  have e0 : s₁.heap = h0 := by rw [← hh, Bd.state]; rfl
  have N0 := Fr.nil n0
  refine own_start (ef_rmF m a1) ?_
  obtain ⟨E_a1, Fm, Fp, Fb, Fo, Vb, E_bf⟩ := hW
  have lt_a1 := own_ltN E_a1.lt
  have lt_bf := own_ltN Vb.lt
  have gn_bf' := own_leN gn_bf
  have gn_a1' := own_leN gn_a1
  refine o_aloadN X0 hx hby D5_0 rfl rfl ?_
  obtain ⟨T1, X1, e1, st1⟩ := getF X0 hx hZ hown (host := "") (Or.inl (own_wd hw (i := 10) rfl)) Via.refl e0 Fo (g := (mkF m 1 #[.val (.ref a1), .unset] [(.ref a1)])) rfl rfl (hb hby D5_1.1)
  refine own_pre (A' := T1.setTop (mkF m 4 #[.val (.ref a1), .unset] [(.int pos)])) st1 ?_
  refine o_iconst X1 hx hby D5_4 (v := 4) rfl ?_
  refine o_isub X1 hx hby D5_5 ?_
  refine o_istoreN X1 hx hby D5_6 (l' := #[.val (.ref a1), .val (.int (pos - (4 : Int32)))]) rfl ?_
  refine o_aloadN X1 hx hby D5_7 rfl rfl ?_
  obtain ⟨T2, X2, e2, st2⟩ := getF X1 hx hZ hown (host := "") (Or.inl (own_wd hw (i := 21) rfl)) Via.refl e1 Fb (g := (mkF m 8 #[.val (.ref a1), .val (.int (pos - (4 : Int32)))] [(.ref a1)])) rfl rfl (hb hby D5_8.1)
  refine own_pre (A' := T2.setTop (mkF m 11 #[.val (.ref a1), .val (.int (pos - (4 : Int32)))] [(.ref bf)])) st2 ?_
  refine o_iconst X2 hx hby D5_11 (v := 0) rfl ?_
  refine o_aloadN X2 hx hby D5_12 rfl rfl ?_
  obtain ⟨T3, X3, e3, st3⟩ := getF X2 hx hZ hown (host := "") (Or.inl (own_wd hw (i := 12) rfl)) Via.refl e2 Fm (g := (mkF m 13 #[.val (.ref a1), .val (.int (pos - (4 : Int32)))] [(.ref a1), (.int (0 : Int32)), (.ref bf)])) rfl rfl (hb hby D5_13.1)
  refine own_pre (A' := T3.setTop (mkF m 16 #[.val (.ref a1), .val (.int (pos - (4 : Int32)))] [(.int mg), (.int (0 : Int32)), (.ref bf)])) st3 ?_
  refine o_bipush X3 hx hby D5_16 (v := 8) rfl ?_
  refine o_iushr X3 hx hby D5_18 ?_
  refine o_i2b X3 hx hby D5_19 ?_
  obtain ⟨cl_bf_4, Ar_bf_4, q_bf_4, S_bf_4, N_bf_4, H_bf_4, G_bf_4⟩ := id Vb
  have hin_bf_4 : ¬ ((0 : Int32) < 0 ∨ cl_bf_4.slots.size ≤ ((0 : Int32)).toNatClampNeg) := inb_of S_bf_4 (own_in hP (by decide))
  obtain ⟨T4, h4, X4, e4, W4, st4⟩ := stB X3 hx hZ e3 Ar_bf_4 (j := (0 : Int32)) hin_bf_4 (g := (mkF m 20 #[.val (.ref a1), .val (.int (pos - (4 : Int32)))] [(.int ((((mg.toUInt32 >>> ((8 : Int32) &&& 31).toUInt32).toInt32)).toInt8.toInt32)), (.int (0 : Int32)), (.ref bf)])) rfl rfl (hb hby D5_20.1)
  have V_bf_4 : Arv Z h4 bf kb .byte P [(.int (nar .byte ((((mg.toUInt32 >>> ((8 : Int32) &&& 31).toUInt32).toInt32)).toInt8.toInt32))), x1, x2, x3, x4, x5, x6, x7] (.int (0 : Int32)) := Arv.set Ar_bf_4 q_bf_4 S_bf_4 N_bf_4 H_bf_4 G_bf_4 (fits_nar_byte _) W4 0 rfl (Nat.le_of_ble_eq_true rfl)
  have sz4 := own_leN (Keep.of_wr W4).1
  have N4 := Fr.snoc X4 N0 gn_bf
  refine own_pre (A' := T4.setTop (mkF m 21 #[.val (.ref a1), .val (.int (pos - (4 : Int32)))] [])) st4 ?_
  refine o_aloadN X4 hx hby D5_21 rfl rfl ?_
  have c6_F_a1_buffer := (Fb.other W4 (Or.inl (by first | exact own_neN (by omega) | exact own_neN' (by omega))))
  obtain ⟨T5, X5, e5, st5⟩ := getF X4 hx hZ hown (host := "") (Or.inl (own_wd hw (i := 21) rfl)) Via.refl e4 c6_F_a1_buffer (g := (mkF m 22 #[.val (.ref a1), .val (.int (pos - (4 : Int32)))] [(.ref a1)])) rfl rfl (hb hby D5_22.1)
  refine own_pre (A' := T5.setTop (mkF m 25 #[.val (.ref a1), .val (.int (pos - (4 : Int32)))] [(.ref bf)])) st5 ?_
  refine o_iconst X5 hx hby D5_25 (v := 1) rfl ?_
  refine o_aloadN X5 hx hby D5_26 rfl rfl ?_
  have c8_F_a1_magic := (Fm.other W4 (Or.inl (by first | exact own_neN (by omega) | exact own_neN' (by omega))))
  obtain ⟨T7, X7, e7, st7⟩ := getF X5 hx hZ hown (host := "") (Or.inl (own_wd hw (i := 12) rfl)) Via.refl e5 c8_F_a1_magic (g := (mkF m 27 #[.val (.ref a1), .val (.int (pos - (4 : Int32)))] [(.ref a1), (.int (1 : Int32)), (.ref bf)])) rfl rfl (hb hby D5_27.1)
  refine own_pre (A' := T7.setTop (mkF m 30 #[.val (.ref a1), .val (.int (pos - (4 : Int32)))] [(.int mg), (.int (1 : Int32)), (.ref bf)])) st7 ?_
  refine o_i2b X7 hx hby D5_30 ?_
  obtain ⟨cl_bf_9, Ar_bf_9, q_bf_9, S_bf_9, N_bf_9, H_bf_9, G_bf_9⟩ := id V_bf_4
  have hin_bf_9 : ¬ ((1 : Int32) < 0 ∨ cl_bf_9.slots.size ≤ ((1 : Int32)).toNatClampNeg) := inb_of S_bf_9 (own_in hP (by decide))
  obtain ⟨T9, h9, X9, e9, W9, st9⟩ := stB X7 hx hZ e7 Ar_bf_9 (j := (1 : Int32)) hin_bf_9 (g := (mkF m 31 #[.val (.ref a1), .val (.int (pos - (4 : Int32)))] [(.int ((mg).toInt8.toInt32)), (.int (1 : Int32)), (.ref bf)])) rfl rfl (hb hby D5_31.1)
  have V_bf_9 : Arv Z h9 bf kb .byte P [(.int (nar .byte ((((mg.toUInt32 >>> ((8 : Int32) &&& 31).toUInt32).toInt32)).toInt8.toInt32))), (.int (nar .byte ((mg).toInt8.toInt32))), x2, x3, x4, x5, x6, x7] (.int (0 : Int32)) := Arv.set Ar_bf_9 q_bf_9 S_bf_9 N_bf_9 H_bf_9 G_bf_9 (fits_nar_byte _) W9 1 rfl (Nat.le_of_ble_eq_true rfl)
  have sz9 := own_leN (Keep.of_wr W9).1
  have N9 := Fr.snoc X9 N4 gn_bf
  refine own_pre (A' := T9.setTop (mkF m 32 #[.val (.ref a1), .val (.int (pos - (4 : Int32)))] [])) st9 ?_
  refine o_aloadN X9 hx hby D5_32 rfl rfl ?_
  have c11_F_a1_buffer := (c6_F_a1_buffer.other W9 (Or.inl (by first | exact own_neN (by omega) | exact own_neN' (by omega))))
  obtain ⟨T10, X10, e10, st10⟩ := getF X9 hx hZ hown (host := "") (Or.inl (own_wd hw (i := 21) rfl)) Via.refl e9 c11_F_a1_buffer (g := (mkF m 33 #[.val (.ref a1), .val (.int (pos - (4 : Int32)))] [(.ref a1)])) rfl rfl (hb hby D5_33.1)
  refine own_pre (A' := T10.setTop (mkF m 36 #[.val (.ref a1), .val (.int (pos - (4 : Int32)))] [(.ref bf)])) st10 ?_
  refine o_iconst X10 hx hby D5_36 (v := 2) rfl ?_
  refine o_iloadN X10 hx hby D5_37 rfl ?_
  refine o_bipush X10 hx hby D5_38 (v := 8) rfl ?_
  refine o_iushr X10 hx hby D5_40 ?_
  refine o_i2b X10 hx hby D5_41 ?_
  obtain ⟨cl_bf_12, Ar_bf_12, q_bf_12, S_bf_12, N_bf_12, H_bf_12, G_bf_12⟩ := id V_bf_9
  have hin_bf_12 : ¬ ((2 : Int32) < 0 ∨ cl_bf_12.slots.size ≤ ((2 : Int32)).toNatClampNeg) := inb_of S_bf_12 (own_in hP (by decide))
  obtain ⟨T12, h12, X12, e12, W12, st12⟩ := stB X10 hx hZ e10 Ar_bf_12 (j := (2 : Int32)) hin_bf_12 (g := (mkF m 42 #[.val (.ref a1), .val (.int (pos - (4 : Int32)))] [(.int (((((pos - (4 : Int32)).toUInt32 >>> ((8 : Int32) &&& 31).toUInt32).toInt32)).toInt8.toInt32)), (.int (2 : Int32)), (.ref bf)])) rfl rfl (hb hby D5_42.1)
  have V_bf_12 : Arv Z h12 bf kb .byte P [(.int (nar .byte ((((mg.toUInt32 >>> ((8 : Int32) &&& 31).toUInt32).toInt32)).toInt8.toInt32))), (.int (nar .byte ((mg).toInt8.toInt32))), (.int (nar .byte (((((pos - (4 : Int32)).toUInt32 >>> ((8 : Int32) &&& 31).toUInt32).toInt32)).toInt8.toInt32))), x3, x4, x5, x6, x7] (.int (0 : Int32)) := Arv.set Ar_bf_12 q_bf_12 S_bf_12 N_bf_12 H_bf_12 G_bf_12 (fits_nar_byte _) W12 2 rfl (Nat.le_of_ble_eq_true rfl)
  have sz12 := own_leN (Keep.of_wr W12).1
  have N12 := Fr.snoc X12 N9 gn_bf
  refine own_pre (A' := T12.setTop (mkF m 43 #[.val (.ref a1), .val (.int (pos - (4 : Int32)))] [])) st12 ?_
  refine o_aloadN X12 hx hby D5_43 rfl rfl ?_
  have c14_F_a1_buffer := (c11_F_a1_buffer.other W12 (Or.inl (by first | exact own_neN (by omega) | exact own_neN' (by omega))))
  obtain ⟨T13, X13, e13, st13⟩ := getF X12 hx hZ hown (host := "") (Or.inl (own_wd hw (i := 21) rfl)) Via.refl e12 c14_F_a1_buffer (g := (mkF m 44 #[.val (.ref a1), .val (.int (pos - (4 : Int32)))] [(.ref a1)])) rfl rfl (hb hby D5_44.1)
  refine own_pre (A' := T13.setTop (mkF m 47 #[.val (.ref a1), .val (.int (pos - (4 : Int32)))] [(.ref bf)])) st13 ?_
  refine o_iconst X13 hx hby D5_47 (v := 3) rfl ?_
  refine o_iloadN X13 hx hby D5_48 rfl ?_
  refine o_i2b X13 hx hby D5_49 ?_
  obtain ⟨cl_bf_15, Ar_bf_15, q_bf_15, S_bf_15, N_bf_15, H_bf_15, G_bf_15⟩ := id V_bf_12
  have hin_bf_15 : ¬ ((3 : Int32) < 0 ∨ cl_bf_15.slots.size ≤ ((3 : Int32)).toNatClampNeg) := inb_of S_bf_15 (own_in hP (by decide))
  obtain ⟨T15, h15, X15, e15, W15, st15⟩ := stB X13 hx hZ e13 Ar_bf_15 (j := (3 : Int32)) hin_bf_15 (g := (mkF m 50 #[.val (.ref a1), .val (.int (pos - (4 : Int32)))] [(.int (((pos - (4 : Int32))).toInt8.toInt32)), (.int (3 : Int32)), (.ref bf)])) rfl rfl (hb hby D5_50.1)
  have V_bf_15 : Arv Z h15 bf kb .byte P [(.int (nar .byte ((((mg.toUInt32 >>> ((8 : Int32) &&& 31).toUInt32).toInt32)).toInt8.toInt32))), (.int (nar .byte ((mg).toInt8.toInt32))), (.int (nar .byte (((((pos - (4 : Int32)).toUInt32 >>> ((8 : Int32) &&& 31).toUInt32).toInt32)).toInt8.toInt32))), (.int (nar .byte (((pos - (4 : Int32))).toInt8.toInt32))), x4, x5, x6, x7] (.int (0 : Int32)) := Arv.set Ar_bf_15 q_bf_15 S_bf_15 N_bf_15 H_bf_15 G_bf_15 (fits_nar_byte _) W15 3 rfl (Nat.le_of_ble_eq_true rfl)
  have sz15 := own_leN (Keep.of_wr W15).1
  have N15 := Fr.snoc X15 N12 gn_bf
  refine own_pre (A' := T15.setTop (mkF m 51 #[.val (.ref a1), .val (.int (pos - (4 : Int32)))] [])) st15 ?_
  have c16_E_a1 := ((((E_a1.wr W4).wr W9).wr W12).wr W15)
  have c17_F_a1_magic := (((c8_F_a1_magic.other W9 (Or.inl (by first | exact own_neN (by omega) | exact own_neN' (by omega)))).other W12 (Or.inl (by first | exact own_neN (by omega) | exact own_neN' (by omega)))).other W15 (Or.inl (by first | exact own_neN (by omega) | exact own_neN' (by omega))))
  have c18_F_a1_packetSize := ((((Fp.other W4 (Or.inl (by first | exact own_neN (by omega) | exact own_neN' (by omega)))).other W9 (Or.inl (by first | exact own_neN (by omega) | exact own_neN' (by omega)))).other W12 (Or.inl (by first | exact own_neN (by omega) | exact own_neN' (by omega)))).other W15 (Or.inl (by first | exact own_neN (by omega) | exact own_neN' (by omega))))
  have c19_F_a1_buffer := (c14_F_a1_buffer.other W15 (Or.inl (by first | exact own_neN (by omega) | exact own_neN' (by omega))))
  have c20_F_a1_position := ((((Fo.other W4 (Or.inl (by first | exact own_neN (by omega) | exact own_neN' (by omega)))).other W9 (Or.inl (by first | exact own_neN (by omega) | exact own_neN' (by omega)))).other W12 (Or.inl (by first | exact own_neN (by omega) | exact own_neN' (by omega)))).other W15 (Or.inl (by first | exact own_neN (by omega) | exact own_neN' (by omega))))
  have c21_E_bf := ((((E_bf.wr W4).wr W9).wr W12).wr W15)
  have KK : Keep h0 h15 [bf] := (((((Keep.refl h0 [bf]).wr W4 (Or.inl (by simp))).wr W9 (Or.inl (by simp))).wr W12 (Or.inl (by simp))).wr W15 (Or.inl (by simp)))
  exact own_ret (v := none) X15 (fun h => by first | rfl | (rw [Bd.returns] at h; cases h)) (BodyLoose.notSynchronized Bd) (by decide) (by decide) (by rw [e15]; exact ⟨rfl, N15, KK, ⟨c16_E_a1, c17_F_a1_magic, c18_F_a1_packetSize, c19_F_a1_buffer, c20_F_a1_position, V_bf_15, c21_E_bf⟩⟩) (fun fs hr => X15.returnOut hx Bd.returns (hb hby D5_51.1) hr)
def own_QC4 (Z : State) (x0 x1 x2 x3 : Value) (h0 : Heap) (n0 : Nat) (v : Option Value) (h : Heap) (L : List Loc) : Prop := ∃ (r : Nat) (kr : ClassId), v = some (.ref r) ∧ Fr n0 L ∧ Keep h0 h [] ∧ h0.size ≤ r ∧ Arv Z h r kr .byte (4 : Int32) [x0, x1, x2, x3] (.int (0 : Int32))
theorem D6_0 : own_at jdk_65_method_121_code 0 (.iload_n 1) 1 1 := ⟨by decide +kernel, rfl⟩
theorem D6_1 : own_at jdk_65_method_121_code 1 (.aload_n 0) 1 2 := ⟨by decide +kernel, rfl⟩
theorem D6_2 : own_at jdk_65_method_121_code 2 (.arraylength) 1 3 := ⟨by decide +kernel, rfl⟩
theorem D6_3 : own_at jdk_65_method_121_code 3 (.if_icmp .ne 11) 3 6 := ⟨by decide +kernel, rfl⟩
theorem D6_14 : own_at jdk_65_method_121_code 14 (.iload_n 1) 1 15 := ⟨by decide +kernel, rfl⟩
theorem D6_15 : own_at jdk_65_method_121_code 15 (.newarray .byte) 2 17 := ⟨by decide +kernel, rfl⟩
theorem D6_17 : own_at jdk_65_method_121_code 17 (.astore_n 2) 1 18 := ⟨by decide +kernel, rfl⟩
theorem D6_18 : own_at jdk_65_method_121_code 18 (.aload_n 0) 1 19 := ⟨by decide +kernel, rfl⟩
theorem D6_19 : own_at jdk_65_method_121_code 19 (.iconst 0) 1 20 := ⟨by decide +kernel, rfl⟩
theorem D6_20 : own_at jdk_65_method_121_code 20 (.aload_n 2) 1 21 := ⟨by decide +kernel, rfl⟩
theorem D6_21 : own_at jdk_65_method_121_code 21 (.iconst 0) 1 22 := ⟨by decide +kernel, rfl⟩
theorem D6_22 : own_at jdk_65_method_121_code 22 (.aload_n 0) 1 23 := ⟨by decide +kernel, rfl⟩
theorem D6_23 : own_at jdk_65_method_121_code 23 (.arraylength) 1 24 := ⟨by decide +kernel, rfl⟩
theorem D6_24 : own_at jdk_65_method_121_code 24 (.iload_n 1) 1 25 := ⟨by decide +kernel, rfl⟩
theorem D6_25 : own_at jdk_65_method_121_code 25 (.invokestatic 304) 3 28 := ⟨by decide +kernel, rfl⟩
theorem D6_28 : own_at jdk_65_method_121_code 28 (.invokestatic 150) 3 31 := ⟨by decide +kernel, rfl⟩
theorem D6_31 : own_at jdk_65_method_121_code 31 (.aload_n 2) 1 32 := ⟨by decide +kernel, rfl⟩
theorem D6_32 : own_at jdk_65_method_121_code 32 (.areturn) 1 33 := ⟨by decide +kernel, rfl⟩
theorem pn_java_util_Arrays : plainName "java/util/Arrays" = true := by first | (simp [plainName, overriddenIn]; done) | decide +kernel
theorem ef_rmC4 (m : MethodId) (bf : Addr) : entryFrame m #[(.ref bf), (.int (4 : Int32))] 3 = mkF m 0 #[.val (.ref bf), .val (.int (4 : Int32)), .unset] [] := by first | (simp [entryFrame, mkF, argsToLocals, Value.category]; done) | rfl
set_option maxRecDepth 65536 in
set_option maxHeartbeats 40000000 in
theorem rmC4 (l : Launch) (Z : State) (a0 : Array Value) (hw : ∀ d ∈ tables_1, d.before a0 Z = true) (ws : List Jvm.Cond) (bf : Addr) (kb : ClassId) (P : Int32) (x0 x1 x2 x3 x4 x5 x6 x7 : Value) (h0 : Heap) (n0 : Nat) (Z0 : n0 ≤ h0.size) (Vb : Arv Z h0 bf kb .byte P [x0, x1, x2, x3, x4, x5, x6, x7] (.int (0 : Int32))) (E_bf : Exa Z h0 bf "[B") (hP : own_hP P) :
    MetFree l (⟨"java/util/Arrays", "copyOf", "([BI)[B"⟩ : MethodName) (head1 (Jvm.Cond.code (⟨"java/util/Arrays", "copyOf", "([BI)[B"⟩ : MethodName) jdk_65_method_121_code 3 (some (.array .byte)) :: ws) ({ frames := 1, cells := 1, slots := 4, locals := 18 } : Room)) (fun a U => a = #[(.ref bf), (.int (4 : Int32))] ∧ Z.Warmed39 U.vm ∧ U.heap = h0) (fun _ _ _ _ _ => True) (fun _ U o U' => ∃ v L, o = .returned v ∧ own_QC4 Z x0 x1 x2 x3 h0 n0 v U'.heap L ∧ FrameEnd U o U' L ({ frames := 1, cells := 1, slots := 4, locals := 18 } : Room).cells ({ frames := 1, cells := 1, slots := 4, locals := 18 } : Room).slots) := by
  refine MetFree.of_bodySF (plainFor_of_name pn_java_util_Arrays) hisR ?_
  intro p e s m args below meth c s₁ Bd hml0 hP hK
  obtain ⟨rfl, hZ, hh⟩ := hP
  have hx := Bd.exec
  have hby := Bd.bytes
  have hml : c.maxLocals = 3 := hml0
  have hown : s.vm.findClass "java/util/Arrays" = some m.cls := findClass_of_methodNamed Bd.named
  have hnm := (name_of_methodNamed Bd.named Bd.method).1
  have X0 : Stand p l e ({ frames := 1, cells := 1, slots := 4, locals := 18 } : Room) s m #[(.ref bf), (.int (4 : Int32))] below meth c s₁ [] 0 0 := Stand.of_body Bd
  have e0 : s₁.heap = h0 := by rw [← hh, Bd.state]; rfl
  have N0 := Fr.nil n0
  refine own_start (ef_rmC4 m bf) ?_
  have lt_bf := own_ltN Vb.lt
  refine o_iloadN X0 hx hby D6_0 rfl ?_
  refine o_aloadN X0 hx hby D6_1 rfl rfl ?_
  obtain ⟨cl_bf_1, Ar_bf_1, q_bf_1, S_bf_1, N_bf_1, H_bf_1, G_bf_1⟩ := id Vb
  refine own_pre (A' := s₁.setTop (mkF m 3 #[.val (.ref bf), .val (.int (4 : Int32)), .unset] [(.int P), (.int (4 : Int32))])) (fun t k => X0.arraylength hx (by rw [e0]; exact Ar_bf_1.1) (State.isArrayOf_alike hZ.alike Ar_bf_1.2.1) (g := (mkF m 2 #[.val (.ref bf), .val (.int (4 : Int32)), .unset] [(.ref bf), (.int (4 : Int32))])) rfl rfl (hb hby D6_2.1) _ (by rw [len_of S_bf_1 N_bf_1]; exact k)) ?_
  refine o_icmpY X0 hx hby D6_3 (feq (own_nP hP (by decide) : ¬ ((4 : Int32) = P))).2 (q := 14) (by decide) (by decide) ?_
  refine o_iloadN X0 hx hby D6_14 rfl ?_
  obtain ⟨T2, h2, k2, X2, e2, E2, A2, Ex2, st2⟩ := newPE X0 hx hZ (own_wd hw (i := 20) rfl) e0 (g := (mkF m 15 #[.val (.ref bf), .val (.int (4 : Int32)), .unset] [(.int (4 : Int32))])) rfl (hb hby D6_15.1) rfl (by decide) (cap := 4) (by decide) (by decide) (by decide) (by decide) (ad := "[B") (by first | rfl | decide)
  obtain ⟨b2, g2⟩ : ∃ z : Nat, z = h0.size := ⟨_, rfl⟩
  rw [← g2] at A2 Ex2 st2
  have sz2 := own_leN E2.1
  have gn_b2 : n0 ≤ b2 := by omega
  have V_b2 : Arv Z h2 b2 k2 .byte (4 : Int32) [(.int (0 : Int32)), (.int (0 : Int32)), (.int (0 : Int32)), (.int (0 : Int32))] (.int (0 : Int32)) := (Arv.new A2 (by decide)).pad (pad_rep [] (.int (0 : Int32)) 4)
  have lt_b2 := own_ltN V_b2.lt
  refine own_pre (A' := T2.setTop (mkF m 17 #[.val (.ref bf), .val (.int (4 : Int32)), .unset] [(.ref b2)])) st2 ?_
  refine o_astoreN X2 hx hby D6_17 rfl (l' := #[.val (.ref bf), .val (.int (4 : Int32)), .val (.ref b2)]) rfl ?_
  refine o_aloadN X2 hx hby D6_18 rfl rfl ?_
  refine o_iconst X2 hx hby D6_19 (v := 0) rfl ?_
  refine o_aloadN X2 hx hby D6_20 rfl rfl ?_
  refine o_iconst X2 hx hby D6_21 (v := 0) rfl ?_
  refine o_aloadN X2 hx hby D6_22 rfl rfl ?_
  have c4_V_bf := (Vb.ext E2)
  obtain ⟨cl_bf_3, Ar_bf_3, q_bf_3, S_bf_3, N_bf_3, H_bf_3, G_bf_3⟩ := id c4_V_bf
  refine own_pre (A' := T2.setTop (mkF m 24 #[.val (.ref bf), .val (.int (4 : Int32)), .val (.ref b2)] [(.int P), (.int (0 : Int32)), (.ref b2), (.int (0 : Int32)), (.ref bf)])) (fun t k => X2.arraylength hx (by rw [e2]; exact Ar_bf_3.1) (State.isArrayOf_alike hZ.alike Ar_bf_3.2.1) (g := (mkF m 23 #[.val (.ref bf), .val (.int (4 : Int32)), .val (.ref b2)] [(.ref bf), (.int (0 : Int32)), (.ref b2), (.int (0 : Int32)), (.ref bf)])) rfl rfl (hb hby D6_23.1) _ (by rw [len_of S_bf_3 N_bf_3]; exact k)) ?_
  refine o_iloadN X2 hx hby D6_24 rfl ?_
  obtain ⟨_, _, ⟨T5, L5, k5, n5⟩, -, X5, ⟨Lc5, hQ5, l5, y5, z5⟩, st5⟩ := Jvm.LawKit.callS X2 hx (y := (⟨"java/lang/Math", "min", "(II)I"⟩ : MethodName)) hown (mvT hZ (own_wd hw (i := 36) rfl)) (mvT hZ (own_wd hw (i := 17) rfl)) (mvT hZ (own_wd hw (i := 18) rfl)) (mvT hZ (own_wd hw (i := 19) rfl)) (by decide) (backOf (W := 4) (rmMin l Z a0 hw [] P (4 : Int32) (4 : Int32) h2 n0 (own_leN (by omega)) (own_mn hP (by decide))) hZ (own_wd hw (i := 19) rfl) (own_wd hw (i := 18) rfl) (by decide) (by decide)) (g := (mkF m 25 #[.val (.ref bf), .val (.int (4 : Int32)), .val (.ref b2)] [(.int (4 : Int32)), (.int P), (.int (0 : Int32)), (.ref b2), (.int (0 : Int32)), (.ref bf)])) rfl (by rw [hml]; rfl) (argsL := [(.int P), (.int (4 : Int32))]) (rest := [(.int (0 : Int32)), (.ref b2), (.int (0 : Int32)), (.ref bf)]) (lenOf pd__40II_41I rfl) rfl (by show 2 * 0 + _ ≤ _; exact Nat.le_of_eq rfl) (hb hby D6_25.1) (fun _ _ => ⟨rfl, e2, (by decide : 1 + 0 ≤ _), (by decide : 4 + 0 ≤ _)⟩)
  dsimp only [Pt.U, Pt.locs, Pt.cells, Pt.slots] at X5 l5 y5 z5 st5 hQ5
  subst l5 y5 z5
  obtain ⟨rfl, N5q, e5⟩ := hQ5
  have N5 := Fr.app N0 N5q
  refine own_pre (A' := T5.setTop (mkF m 28 #[.val (.ref bf), .val (.int (4 : Int32)), .val (.ref b2)] [(.int (4 : Int32)), (.int (0 : Int32)), (.ref b2), (.int (0 : Int32)), (.ref bf)])) st5 ?_
  obtain ⟨T6, h6, L6, X6, e6, N6, K6, V6, st6⟩ := cpA X5 hx hZ hown (own_wd hw (i := 37) rfl) (own_wd hw (i := 40) rfl) (own_wd hw (i := 38) rfl) (own_wd hw (i := 39) rfl) e5 c4_V_bf V_b2 (Or.inl ⟨rfl, rfl⟩) (sp := (0 : Int32)) (dp := (0 : Int32)) (nn := (4 : Int32)) (us := [x0, x1, x2, x3]) (by decide) (by decide) (by decide) (own_le8 hP (by decide) (by decide)) (by decide) rfl (by decide) N5 gn_b2 (g := (mkF m 28 #[.val (.ref bf), .val (.int (4 : Int32)), .val (.ref b2)] [(.int (4 : Int32)), (.int (0 : Int32)), (.ref b2), (.int (0 : Int32)), (.ref bf)])) rfl (by rw [hml]; rfl) rfl (hb hby D6_28.1) (by decide) (W := 0) (by show 2 * 0 + _ ≤ _; exact Nat.le_of_eq rfl) (by decide)
  have sz6 := own_leN K6.1
  have Vc6 : Arv Z h6 b2 k2 .byte (4 : Int32) [x0, x1, x2, x3] (.int (0 : Int32)) := V6
  refine own_pre (A' := T6.setTop (mkF m 31 #[.val (.ref bf), .val (.int (4 : Int32)), .val (.ref b2)] [])) st6 ?_
  refine o_aloadN X6 hx hby D6_31 rfl rfl ?_
  have KK : Keep h0 h6 [] := (((Keep.refl h0 []).ext E2).trans K6 (allS (Or.inr (own_leN (by omega))) all0))
  exact own_ret (v := some (.ref b2)) X6 (fun h => by first | rfl | (rw [Bd.returns] at h; cases h)) (BodyLoose.notSynchronized Bd) (by decide) (by decide) (by rw [e6]; exact ⟨b2, k2, rfl, N6, KK, own_leN (by omega), Vc6⟩) (fun fs hr => retOut X6 hx Bd.returns rfl (Or.inr (Or.inr (Or.inr (Or.inr ⟨rfl, rfl, rfl⟩)))) (hb hby D6_32.1) hr)
def own_QC5 (Z : State) (x0 x1 x2 x3 x4 : Value) (h0 : Heap) (n0 : Nat) (v : Option Value) (h : Heap) (L : List Loc) : Prop := ∃ (r : Nat) (kr : ClassId), v = some (.ref r) ∧ Fr n0 L ∧ Keep h0 h [] ∧ h0.size ≤ r ∧ Arv Z h r kr .byte (5 : Int32) [x0, x1, x2, x3, x4] (.int (0 : Int32))
theorem ef_rmC5 (m : MethodId) (bf : Addr) : entryFrame m #[(.ref bf), (.int (5 : Int32))] 3 = mkF m 0 #[.val (.ref bf), .val (.int (5 : Int32)), .unset] [] := by first | (simp [entryFrame, mkF, argsToLocals, Value.category]; done) | rfl
set_option maxRecDepth 65536 in
set_option maxHeartbeats 40000000 in
theorem rmC5 (l : Launch) (Z : State) (a0 : Array Value) (hw : ∀ d ∈ tables_1, d.before a0 Z = true) (ws : List Jvm.Cond) (bf : Addr) (kb : ClassId) (P : Int32) (x0 x1 x2 x3 x4 x5 x6 x7 : Value) (h0 : Heap) (n0 : Nat) (Z0 : n0 ≤ h0.size) (Vb : Arv Z h0 bf kb .byte P [x0, x1, x2, x3, x4, x5, x6, x7] (.int (0 : Int32))) (E_bf : Exa Z h0 bf "[B") (hP : own_hP P) :
    MetFree l (⟨"java/util/Arrays", "copyOf", "([BI)[B"⟩ : MethodName) (head1 (Jvm.Cond.code (⟨"java/util/Arrays", "copyOf", "([BI)[B"⟩ : MethodName) jdk_65_method_121_code 3 (some (.array .byte)) :: ws) ({ frames := 1, cells := 1, slots := 5, locals := 18 } : Room)) (fun a U => a = #[(.ref bf), (.int (5 : Int32))] ∧ Z.Warmed39 U.vm ∧ U.heap = h0) (fun _ _ _ _ _ => True) (fun _ U o U' => ∃ v L, o = .returned v ∧ own_QC5 Z x0 x1 x2 x3 x4 h0 n0 v U'.heap L ∧ FrameEnd U o U' L ({ frames := 1, cells := 1, slots := 5, locals := 18 } : Room).cells ({ frames := 1, cells := 1, slots := 5, locals := 18 } : Room).slots) := by
  refine MetFree.of_bodySF (plainFor_of_name pn_java_util_Arrays) hisR ?_
  intro p e s m args below meth c s₁ Bd hml0 hP hK
  obtain ⟨rfl, hZ, hh⟩ := hP
  have hx := Bd.exec
  have hby := Bd.bytes
  have hml : c.maxLocals = 3 := hml0
  have hown : s.vm.findClass "java/util/Arrays" = some m.cls := findClass_of_methodNamed Bd.named
  have hnm := (name_of_methodNamed Bd.named Bd.method).1
  have X0 : Stand p l e ({ frames := 1, cells := 1, slots := 5, locals := 18 } : Room) s m #[(.ref bf), (.int (5 : Int32))] below meth c s₁ [] 0 0 := Stand.of_body Bd
  have e0 : s₁.heap = h0 := by rw [← hh, Bd.state]; rfl
  have N0 := Fr.nil n0
  refine own_start (ef_rmC5 m bf) ?_
  have lt_bf := own_ltN Vb.lt
  refine o_iloadN X0 hx hby D6_0 rfl ?_
  refine o_aloadN X0 hx hby D6_1 rfl rfl ?_
  obtain ⟨cl_bf_1, Ar_bf_1, q_bf_1, S_bf_1, N_bf_1, H_bf_1, G_bf_1⟩ := id Vb
  refine own_pre (A' := s₁.setTop (mkF m 3 #[.val (.ref bf), .val (.int (5 : Int32)), .unset] [(.int P), (.int (5 : Int32))])) (fun t k => X0.arraylength hx (by rw [e0]; exact Ar_bf_1.1) (State.isArrayOf_alike hZ.alike Ar_bf_1.2.1) (g := (mkF m 2 #[.val (.ref bf), .val (.int (5 : Int32)), .unset] [(.ref bf), (.int (5 : Int32))])) rfl rfl (hb hby D6_2.1) _ (by rw [len_of S_bf_1 N_bf_1]; exact k)) ?_
  refine o_icmpY X0 hx hby D6_3 (feq (own_nP hP (by decide) : ¬ ((5 : Int32) = P))).2 (q := 14) (by decide) (by decide) ?_
  refine o_iloadN X0 hx hby D6_14 rfl ?_
  obtain ⟨T2, h2, k2, X2, e2, E2, A2, Ex2, st2⟩ := newPE X0 hx hZ (own_wd hw (i := 20) rfl) e0 (g := (mkF m 15 #[.val (.ref bf), .val (.int (5 : Int32)), .unset] [(.int (5 : Int32))])) rfl (hb hby D6_15.1) rfl (by decide) (cap := 5) (by decide) (by decide) (by decide) (by decide) (ad := "[B") (by first | rfl | decide)
  obtain ⟨b2, g2⟩ : ∃ z : Nat, z = h0.size := ⟨_, rfl⟩
  rw [← g2] at A2 Ex2 st2
  have sz2 := own_leN E2.1
  have gn_b2 : n0 ≤ b2 := by omega
  have V_b2 : Arv Z h2 b2 k2 .byte (5 : Int32) [(.int (0 : Int32)), (.int (0 : Int32)), (.int (0 : Int32)), (.int (0 : Int32)), (.int (0 : Int32))] (.int (0 : Int32)) := (Arv.new A2 (by decide)).pad (pad_rep [] (.int (0 : Int32)) 5)
  have lt_b2 := own_ltN V_b2.lt
  refine own_pre (A' := T2.setTop (mkF m 17 #[.val (.ref bf), .val (.int (5 : Int32)), .unset] [(.ref b2)])) st2 ?_
  refine o_astoreN X2 hx hby D6_17 rfl (l' := #[.val (.ref bf), .val (.int (5 : Int32)), .val (.ref b2)]) rfl ?_
  refine o_aloadN X2 hx hby D6_18 rfl rfl ?_
  refine o_iconst X2 hx hby D6_19 (v := 0) rfl ?_
  refine o_aloadN X2 hx hby D6_20 rfl rfl ?_
  refine o_iconst X2 hx hby D6_21 (v := 0) rfl ?_
  refine o_aloadN X2 hx hby D6_22 rfl rfl ?_
  have c4_V_bf := (Vb.ext E2)
  obtain ⟨cl_bf_3, Ar_bf_3, q_bf_3, S_bf_3, N_bf_3, H_bf_3, G_bf_3⟩ := id c4_V_bf
  refine own_pre (A' := T2.setTop (mkF m 24 #[.val (.ref bf), .val (.int (5 : Int32)), .val (.ref b2)] [(.int P), (.int (0 : Int32)), (.ref b2), (.int (0 : Int32)), (.ref bf)])) (fun t k => X2.arraylength hx (by rw [e2]; exact Ar_bf_3.1) (State.isArrayOf_alike hZ.alike Ar_bf_3.2.1) (g := (mkF m 23 #[.val (.ref bf), .val (.int (5 : Int32)), .val (.ref b2)] [(.ref bf), (.int (0 : Int32)), (.ref b2), (.int (0 : Int32)), (.ref bf)])) rfl rfl (hb hby D6_23.1) _ (by rw [len_of S_bf_3 N_bf_3]; exact k)) ?_
  refine o_iloadN X2 hx hby D6_24 rfl ?_
  obtain ⟨_, _, ⟨T5, L5, k5, n5⟩, -, X5, ⟨Lc5, hQ5, l5, y5, z5⟩, st5⟩ := Jvm.LawKit.callS X2 hx (y := (⟨"java/lang/Math", "min", "(II)I"⟩ : MethodName)) hown (mvT hZ (own_wd hw (i := 36) rfl)) (mvT hZ (own_wd hw (i := 17) rfl)) (mvT hZ (own_wd hw (i := 18) rfl)) (mvT hZ (own_wd hw (i := 19) rfl)) (by decide) (backOf (W := 4) (rmMin l Z a0 hw [] P (5 : Int32) (5 : Int32) h2 n0 (own_leN (by omega)) (own_mn hP (by decide))) hZ (own_wd hw (i := 19) rfl) (own_wd hw (i := 18) rfl) (by decide) (by decide)) (g := (mkF m 25 #[.val (.ref bf), .val (.int (5 : Int32)), .val (.ref b2)] [(.int (5 : Int32)), (.int P), (.int (0 : Int32)), (.ref b2), (.int (0 : Int32)), (.ref bf)])) rfl (by rw [hml]; rfl) (argsL := [(.int P), (.int (5 : Int32))]) (rest := [(.int (0 : Int32)), (.ref b2), (.int (0 : Int32)), (.ref bf)]) (lenOf pd__40II_41I rfl) rfl (by show 2 * 0 + _ ≤ _; exact Nat.le_of_eq rfl) (hb hby D6_25.1) (fun _ _ => ⟨rfl, e2, (by decide : 1 + 0 ≤ _), (by decide : 5 + 0 ≤ _)⟩)
  dsimp only [Pt.U, Pt.locs, Pt.cells, Pt.slots] at X5 l5 y5 z5 st5 hQ5
  subst l5 y5 z5
  obtain ⟨rfl, N5q, e5⟩ := hQ5
  have N5 := Fr.app N0 N5q
  refine own_pre (A' := T5.setTop (mkF m 28 #[.val (.ref bf), .val (.int (5 : Int32)), .val (.ref b2)] [(.int (5 : Int32)), (.int (0 : Int32)), (.ref b2), (.int (0 : Int32)), (.ref bf)])) st5 ?_
  obtain ⟨T6, h6, L6, X6, e6, N6, K6, V6, st6⟩ := cpA X5 hx hZ hown (own_wd hw (i := 37) rfl) (own_wd hw (i := 40) rfl) (own_wd hw (i := 38) rfl) (own_wd hw (i := 39) rfl) e5 c4_V_bf V_b2 (Or.inl ⟨rfl, rfl⟩) (sp := (0 : Int32)) (dp := (0 : Int32)) (nn := (5 : Int32)) (us := [x0, x1, x2, x3, x4]) (by decide) (by decide) (by decide) (own_le8 hP (by decide) (by decide)) (by decide) rfl (by decide) N5 gn_b2 (g := (mkF m 28 #[.val (.ref bf), .val (.int (5 : Int32)), .val (.ref b2)] [(.int (5 : Int32)), (.int (0 : Int32)), (.ref b2), (.int (0 : Int32)), (.ref bf)])) rfl (by rw [hml]; rfl) rfl (hb hby D6_28.1) (by decide) (W := 0) (by show 2 * 0 + _ ≤ _; exact Nat.le_of_eq rfl) (by decide)
  have sz6 := own_leN K6.1
  have Vc6 : Arv Z h6 b2 k2 .byte (5 : Int32) [x0, x1, x2, x3, x4] (.int (0 : Int32)) := V6
  refine own_pre (A' := T6.setTop (mkF m 31 #[.val (.ref bf), .val (.int (5 : Int32)), .val (.ref b2)] [])) st6 ?_
  refine o_aloadN X6 hx hby D6_31 rfl rfl ?_
  have KK : Keep h0 h6 [] := (((Keep.refl h0 []).ext E2).trans K6 (allS (Or.inr (own_leN (by omega))) all0))
  exact own_ret (v := some (.ref b2)) X6 (fun h => by first | rfl | (rw [Bd.returns] at h; cases h)) (BodyLoose.notSynchronized Bd) (by decide) (by decide) (by rw [e6]; exact ⟨b2, k2, rfl, N6, KK, own_leN (by omega), Vc6⟩) (fun fs hr => retOut X6 hx Bd.returns rfl (Or.inr (Or.inr (Or.inr (Or.inr ⟨rfl, rfl, rfl⟩)))) (hb hby D6_32.1) hr)
def own_QC6 (Z : State) (x0 x1 x2 x3 x4 x5 : Value) (h0 : Heap) (n0 : Nat) (v : Option Value) (h : Heap) (L : List Loc) : Prop := ∃ (r : Nat) (kr : ClassId), v = some (.ref r) ∧ Fr n0 L ∧ Keep h0 h [] ∧ h0.size ≤ r ∧ Arv Z h r kr .byte (6 : Int32) [x0, x1, x2, x3, x4, x5] (.int (0 : Int32))
theorem ef_rmC6 (m : MethodId) (bf : Addr) : entryFrame m #[(.ref bf), (.int (6 : Int32))] 3 = mkF m 0 #[.val (.ref bf), .val (.int (6 : Int32)), .unset] [] := by first | (simp [entryFrame, mkF, argsToLocals, Value.category]; done) | rfl
set_option maxRecDepth 65536 in
set_option maxHeartbeats 40000000 in
theorem rmC6 (l : Launch) (Z : State) (a0 : Array Value) (hw : ∀ d ∈ tables_1, d.before a0 Z = true) (ws : List Jvm.Cond) (bf : Addr) (kb : ClassId) (P : Int32) (x0 x1 x2 x3 x4 x5 x6 x7 : Value) (h0 : Heap) (n0 : Nat) (Z0 : n0 ≤ h0.size) (Vb : Arv Z h0 bf kb .byte P [x0, x1, x2, x3, x4, x5, x6, x7] (.int (0 : Int32))) (E_bf : Exa Z h0 bf "[B") (hP : own_hP P) :
    MetFree l (⟨"java/util/Arrays", "copyOf", "([BI)[B"⟩ : MethodName) (head1 (Jvm.Cond.code (⟨"java/util/Arrays", "copyOf", "([BI)[B"⟩ : MethodName) jdk_65_method_121_code 3 (some (.array .byte)) :: ws) ({ frames := 1, cells := 1, slots := 6, locals := 18 } : Room)) (fun a U => a = #[(.ref bf), (.int (6 : Int32))] ∧ Z.Warmed39 U.vm ∧ U.heap = h0) (fun _ _ _ _ _ => True) (fun _ U o U' => ∃ v L, o = .returned v ∧ own_QC6 Z x0 x1 x2 x3 x4 x5 h0 n0 v U'.heap L ∧ FrameEnd U o U' L ({ frames := 1, cells := 1, slots := 6, locals := 18 } : Room).cells ({ frames := 1, cells := 1, slots := 6, locals := 18 } : Room).slots) := by
  refine MetFree.of_bodySF (plainFor_of_name pn_java_util_Arrays) hisR ?_
  intro p e s m args below meth c s₁ Bd hml0 hP hK
  obtain ⟨rfl, hZ, hh⟩ := hP
  have hx := Bd.exec
  have hby := Bd.bytes
  have hml : c.maxLocals = 3 := hml0
  have hown : s.vm.findClass "java/util/Arrays" = some m.cls := findClass_of_methodNamed Bd.named
  have hnm := (name_of_methodNamed Bd.named Bd.method).1
  have X0 : Stand p l e ({ frames := 1, cells := 1, slots := 6, locals := 18 } : Room) s m #[(.ref bf), (.int (6 : Int32))] below meth c s₁ [] 0 0 := Stand.of_body Bd
  have e0 : s₁.heap = h0 := by rw [← hh, Bd.state]; rfl
  have N0 := Fr.nil n0
  refine own_start (ef_rmC6 m bf) ?_
  have lt_bf := own_ltN Vb.lt
  refine o_iloadN X0 hx hby D6_0 rfl ?_
  refine o_aloadN X0 hx hby D6_1 rfl rfl ?_
  obtain ⟨cl_bf_1, Ar_bf_1, q_bf_1, S_bf_1, N_bf_1, H_bf_1, G_bf_1⟩ := id Vb
  refine own_pre (A' := s₁.setTop (mkF m 3 #[.val (.ref bf), .val (.int (6 : Int32)), .unset] [(.int P), (.int (6 : Int32))])) (fun t k => X0.arraylength hx (by rw [e0]; exact Ar_bf_1.1) (State.isArrayOf_alike hZ.alike Ar_bf_1.2.1) (g := (mkF m 2 #[.val (.ref bf), .val (.int (6 : Int32)), .unset] [(.ref bf), (.int (6 : Int32))])) rfl rfl (hb hby D6_2.1) _ (by rw [len_of S_bf_1 N_bf_1]; exact k)) ?_
  refine o_icmpY X0 hx hby D6_3 (feq (own_nP hP (by decide) : ¬ ((6 : Int32) = P))).2 (q := 14) (by decide) (by decide) ?_
  refine o_iloadN X0 hx hby D6_14 rfl ?_
  obtain ⟨T2, h2, k2, X2, e2, E2, A2, Ex2, st2⟩ := newPE X0 hx hZ (own_wd hw (i := 20) rfl) e0 (g := (mkF m 15 #[.val (.ref bf), .val (.int (6 : Int32)), .unset] [(.int (6 : Int32))])) rfl (hb hby D6_15.1) rfl (by decide) (cap := 6) (by decide) (by decide) (by decide) (by decide) (ad := "[B") (by first | rfl | decide)
  obtain ⟨b2, g2⟩ : ∃ z : Nat, z = h0.size := ⟨_, rfl⟩
  rw [← g2] at A2 Ex2 st2
  have sz2 := own_leN E2.1
  have gn_b2 : n0 ≤ b2 := by omega
  have V_b2 : Arv Z h2 b2 k2 .byte (6 : Int32) [(.int (0 : Int32)), (.int (0 : Int32)), (.int (0 : Int32)), (.int (0 : Int32)), (.int (0 : Int32)), (.int (0 : Int32))] (.int (0 : Int32)) := (Arv.new A2 (by decide)).pad (pad_rep [] (.int (0 : Int32)) 6)
  have lt_b2 := own_ltN V_b2.lt
  refine own_pre (A' := T2.setTop (mkF m 17 #[.val (.ref bf), .val (.int (6 : Int32)), .unset] [(.ref b2)])) st2 ?_
  refine o_astoreN X2 hx hby D6_17 rfl (l' := #[.val (.ref bf), .val (.int (6 : Int32)), .val (.ref b2)]) rfl ?_
  refine o_aloadN X2 hx hby D6_18 rfl rfl ?_
  refine o_iconst X2 hx hby D6_19 (v := 0) rfl ?_
  refine o_aloadN X2 hx hby D6_20 rfl rfl ?_
  refine o_iconst X2 hx hby D6_21 (v := 0) rfl ?_
  refine o_aloadN X2 hx hby D6_22 rfl rfl ?_
  have c4_V_bf := (Vb.ext E2)
  obtain ⟨cl_bf_3, Ar_bf_3, q_bf_3, S_bf_3, N_bf_3, H_bf_3, G_bf_3⟩ := id c4_V_bf
  refine own_pre (A' := T2.setTop (mkF m 24 #[.val (.ref bf), .val (.int (6 : Int32)), .val (.ref b2)] [(.int P), (.int (0 : Int32)), (.ref b2), (.int (0 : Int32)), (.ref bf)])) (fun t k => X2.arraylength hx (by rw [e2]; exact Ar_bf_3.1) (State.isArrayOf_alike hZ.alike Ar_bf_3.2.1) (g := (mkF m 23 #[.val (.ref bf), .val (.int (6 : Int32)), .val (.ref b2)] [(.ref bf), (.int (0 : Int32)), (.ref b2), (.int (0 : Int32)), (.ref bf)])) rfl rfl (hb hby D6_23.1) _ (by rw [len_of S_bf_3 N_bf_3]; exact k)) ?_
  refine o_iloadN X2 hx hby D6_24 rfl ?_
  obtain ⟨_, _, ⟨T5, L5, k5, n5⟩, -, X5, ⟨Lc5, hQ5, l5, y5, z5⟩, st5⟩ := Jvm.LawKit.callS X2 hx (y := (⟨"java/lang/Math", "min", "(II)I"⟩ : MethodName)) hown (mvT hZ (own_wd hw (i := 36) rfl)) (mvT hZ (own_wd hw (i := 17) rfl)) (mvT hZ (own_wd hw (i := 18) rfl)) (mvT hZ (own_wd hw (i := 19) rfl)) (by decide) (backOf (W := 4) (rmMin l Z a0 hw [] P (6 : Int32) (6 : Int32) h2 n0 (own_leN (by omega)) (own_mn hP (by decide))) hZ (own_wd hw (i := 19) rfl) (own_wd hw (i := 18) rfl) (by decide) (by decide)) (g := (mkF m 25 #[.val (.ref bf), .val (.int (6 : Int32)), .val (.ref b2)] [(.int (6 : Int32)), (.int P), (.int (0 : Int32)), (.ref b2), (.int (0 : Int32)), (.ref bf)])) rfl (by rw [hml]; rfl) (argsL := [(.int P), (.int (6 : Int32))]) (rest := [(.int (0 : Int32)), (.ref b2), (.int (0 : Int32)), (.ref bf)]) (lenOf pd__40II_41I rfl) rfl (by show 2 * 0 + _ ≤ _; exact Nat.le_of_eq rfl) (hb hby D6_25.1) (fun _ _ => ⟨rfl, e2, (by decide : 1 + 0 ≤ _), (by decide : 6 + 0 ≤ _)⟩)
  dsimp only [Pt.U, Pt.locs, Pt.cells, Pt.slots] at X5 l5 y5 z5 st5 hQ5
  subst l5 y5 z5
  obtain ⟨rfl, N5q, e5⟩ := hQ5
  have N5 := Fr.app N0 N5q
  refine own_pre (A' := T5.setTop (mkF m 28 #[.val (.ref bf), .val (.int (6 : Int32)), .val (.ref b2)] [(.int (6 : Int32)), (.int (0 : Int32)), (.ref b2), (.int (0 : Int32)), (.ref bf)])) st5 ?_
  obtain ⟨T6, h6, L6, X6, e6, N6, K6, V6, st6⟩ := cpA X5 hx hZ hown (own_wd hw (i := 37) rfl) (own_wd hw (i := 40) rfl) (own_wd hw (i := 38) rfl) (own_wd hw (i := 39) rfl) e5 c4_V_bf V_b2 (Or.inl ⟨rfl, rfl⟩) (sp := (0 : Int32)) (dp := (0 : Int32)) (nn := (6 : Int32)) (us := [x0, x1, x2, x3, x4, x5]) (by decide) (by decide) (by decide) (own_le8 hP (by decide) (by decide)) (by decide) rfl (by decide) N5 gn_b2 (g := (mkF m 28 #[.val (.ref bf), .val (.int (6 : Int32)), .val (.ref b2)] [(.int (6 : Int32)), (.int (0 : Int32)), (.ref b2), (.int (0 : Int32)), (.ref bf)])) rfl (by rw [hml]; rfl) rfl (hb hby D6_28.1) (by decide) (W := 0) (by show 2 * 0 + _ ≤ _; exact Nat.le_of_eq rfl) (by decide)
  have sz6 := own_leN K6.1
  have Vc6 : Arv Z h6 b2 k2 .byte (6 : Int32) [x0, x1, x2, x3, x4, x5] (.int (0 : Int32)) := V6
  refine own_pre (A' := T6.setTop (mkF m 31 #[.val (.ref bf), .val (.int (6 : Int32)), .val (.ref b2)] [])) st6 ?_
  refine o_aloadN X6 hx hby D6_31 rfl rfl ?_
  have KK : Keep h0 h6 [] := (((Keep.refl h0 []).ext E2).trans K6 (allS (Or.inr (own_leN (by omega))) all0))
  exact own_ret (v := some (.ref b2)) X6 (fun h => by first | rfl | (rw [Bd.returns] at h; cases h)) (BodyLoose.notSynchronized Bd) (by decide) (by decide) (by rw [e6]; exact ⟨b2, k2, rfl, N6, KK, own_leN (by omega), Vc6⟩) (fun fs hr => retOut X6 hx Bd.returns rfl (Or.inr (Or.inr (Or.inr (Or.inr ⟨rfl, rfl, rfl⟩)))) (hb hby D6_32.1) hr)
def own_QC8 (Z : State) (x0 x1 x2 x3 x4 x5 x6 x7 : Value) (h0 : Heap) (n0 : Nat) (v : Option Value) (h : Heap) (L : List Loc) : Prop := ∃ (r : Nat) (kr : ClassId), v = some (.ref r) ∧ Fr n0 L ∧ Keep h0 h [] ∧ h0.size ≤ r ∧ Arv Z h r kr .byte (8 : Int32) [x0, x1, x2, x3, x4, x5, x6, x7] (.int (0 : Int32))
theorem D6_6 : own_at jdk_65_method_121_code 6 (.aload_n 0) 1 7 := ⟨by decide +kernel, rfl⟩
theorem D6_7 : own_at jdk_65_method_121_code 7 (.invokevirtual 310) 3 10 := ⟨by decide +kernel, rfl⟩
theorem D6_10 : own_at jdk_65_method_121_code 10 (.checkcast 311) 3 13 := ⟨by decide +kernel, rfl⟩
theorem D6_13 : own_at jdk_65_method_121_code 13 (.areturn) 1 14 := ⟨by decide +kernel, rfl⟩
theorem ef_rmC8 (m : MethodId) (bf : Addr) : entryFrame m #[(.ref bf), (.int (8 : Int32))] 3 = mkF m 0 #[.val (.ref bf), .val (.int (8 : Int32)), .unset] [] := by first | (simp [entryFrame, mkF, argsToLocals, Value.category]; done) | rfl
set_option maxRecDepth 65536 in
set_option maxHeartbeats 40000000 in
theorem rmC8 (l : Launch) (Z : State) (a0 : Array Value) (hw : ∀ d ∈ tables_1, d.before a0 Z = true) (ws : List Jvm.Cond) (bf : Addr) (kb : ClassId) (P : Int32) (x0 x1 x2 x3 x4 x5 x6 x7 : Value) (h0 : Heap) (n0 : Nat) (Z0 : n0 ≤ h0.size) (Vb : Arv Z h0 bf kb .byte P [x0, x1, x2, x3, x4, x5, x6, x7] (.int (0 : Int32))) (E_bf : Exa Z h0 bf "[B") (hP : own_hP P) :
    MetFree l (⟨"java/util/Arrays", "copyOf", "([BI)[B"⟩ : MethodName) (head1 (Jvm.Cond.code (⟨"java/util/Arrays", "copyOf", "([BI)[B"⟩ : MethodName) jdk_65_method_121_code 3 (some (.array .byte)) :: ws) ({ frames := 1, cells := 1, slots := 8, locals := 18 } : Room)) (fun a U => a = #[(.ref bf), (.int (8 : Int32))] ∧ Z.Warmed39 U.vm ∧ U.heap = h0) (fun _ _ _ _ _ => True) (fun _ U o U' => ∃ v L, o = .returned v ∧ own_QC8 Z x0 x1 x2 x3 x4 x5 x6 x7 h0 n0 v U'.heap L ∧ FrameEnd U o U' L ({ frames := 1, cells := 1, slots := 8, locals := 18 } : Room).cells ({ frames := 1, cells := 1, slots := 8, locals := 18 } : Room).slots) := by
  refine MetFree.of_bodySF (plainFor_of_name pn_java_util_Arrays) hisR ?_
  intro p e s m args below meth c s₁ Bd hml0 hP hK
  obtain ⟨rfl, hZ, hh⟩ := hP
  have hx := Bd.exec
  have hby := Bd.bytes
  have hml : c.maxLocals = 3 := hml0
  have hown : s.vm.findClass "java/util/Arrays" = some m.cls := findClass_of_methodNamed Bd.named
  have hnm := (name_of_methodNamed Bd.named Bd.method).1
  have X0 : Stand p l e ({ frames := 1, cells := 1, slots := 8, locals := 18 } : Room) s m #[(.ref bf), (.int (8 : Int32))] below meth c s₁ [] 0 0 := Stand.of_body Bd
  have e0 : s₁.heap = h0 := by rw [← hh, Bd.state]; rfl
  have N0 := Fr.nil n0
  refine own_start (ef_rmC8 m bf) ?_
  have lt_bf := own_ltN Vb.lt
  refine o_iloadN X0 hx hby D6_0 rfl ?_
  refine o_aloadN X0 hx hby D6_1 rfl rfl ?_
  obtain ⟨cl_bf_1, Ar_bf_1, q_bf_1, S_bf_1, N_bf_1, H_bf_1, G_bf_1⟩ := id Vb
  refine own_pre (A' := s₁.setTop (mkF m 3 #[.val (.ref bf), .val (.int (8 : Int32)), .unset] [(.int P), (.int (8 : Int32))])) (fun t k => X0.arraylength hx (by rw [e0]; exact Ar_bf_1.1) (State.isArrayOf_alike hZ.alike Ar_bf_1.2.1) (g := (mkF m 2 #[.val (.ref bf), .val (.int (8 : Int32)), .unset] [(.ref bf), (.int (8 : Int32))])) rfl rfl (hb hby D6_2.1) _ (by rw [len_of S_bf_1 N_bf_1]; exact k)) ?_
  by_cases hc3_2 : (8 : Int32) = P
  · skip
    refine o_icmpN X0 hx hby D6_3 (teq hc3_2).2 ?_
    refine o_aloadN X0 hx hby D6_6 rfl rfl ?_
    obtain ⟨cl3, Ar3, q3, S3, Ng3, Hh3, Gg3⟩ := id Vb
    have FC3 : FitC Z cl3 := fitC_of Ar3 fun i hi v hv => by rw [Hh3 i hi] at hv; cases hv; exact Gg3 i hi
    obtain ⟨T3, h3, X3, e3, E3, A3, Ex3, st3⟩ := cloneA X0 hx hZ hown (own_wd hw (i := 59) rfl) (own_wd hw (i := 60) rfl) (own_wd hw (i := 64) rfl) (own_wd hw (i := 62) rfl) (own_wd hw (i := 63) rfl) (own_wd hw (i := 65) rfl) e0 Ar3 E_bf FC3 (g := (mkF m 7 #[.val (.ref bf), .val (.int (8 : Int32)), .unset] [(.ref bf)])) rfl (by rw [hml]; rfl) rfl (hb hby D6_7.1) (by decide) (W := 0) (cap := 8) (by show 2 * 0 + _ ≤ _; exact Nat.le_of_eq rfl) (by decide) (by rw [S3, ← hc3_2]; decide) (by decide) (by decide)
    obtain ⟨b3, g3⟩ : ∃ z : Nat, z = h0.size := ⟨_, rfl⟩
    rw [← g3] at A3 Ex3 st3
    have sz3 := own_leN E3.1
    have gn_b3 : n0 ≤ b3 := by omega
    have lt_b3 := own_ltN Ex3.lt
    have Vc3 : Arv Z h3 b3 kb .byte (8 : Int32) [x0, x1, x2, x3, x4, x5, x6, x7] (.int (0 : Int32)) := by rw [hc3_2]; exact ⟨cloneOf cl3, A3, q3, S3, Ng3, Hh3, Gg3⟩
    refine own_pre (A' := T3.setTop (mkF m 10 #[.val (.ref bf), .val (.int (8 : Int32)), .unset] [(.ref b3)])) st3 ?_
    obtain ⟨T4, X4, e4, st4⟩ := castY X3 hx hZ hown (own_wd hw (i := 66) rfl) e3 (Ins.self Ex3) (g := (mkF m 10 #[.val (.ref bf), .val (.int (8 : Int32)), .unset] [(.ref b3)])) rfl rfl (hb hby D6_10.1)
    refine own_pre (A' := T4.setTop (mkF m 13 #[.val (.ref bf), .val (.int (8 : Int32)), .unset] [(.ref b3)])) st4 ?_
    have KK : Keep h0 h3 [] := ((Keep.refl h0 []).ext E3)
    exact own_ret (v := some (.ref b3)) X4 (fun h => by first | rfl | (rw [Bd.returns] at h; cases h)) (BodyLoose.notSynchronized Bd) (by decide) (by decide) (by rw [e4]; exact ⟨b3, kb, rfl, N0, KK, own_leN (by omega), Vc3⟩) (fun fs hr => retOut X4 hx Bd.returns rfl (Or.inr (Or.inr (Or.inr (Or.inr ⟨rfl, rfl, rfl⟩)))) (hb hby D6_13.1) hr)
  · skip
    refine o_icmpY X0 hx hby D6_3 (feq hc3_2).2 (q := 14) (by decide) (by decide) ?_
    refine o_iloadN X0 hx hby D6_14 rfl ?_
    obtain ⟨T5, h5, k5, X5, e5, E5, A5, Ex5, st5⟩ := newPE X0 hx hZ (own_wd hw (i := 20) rfl) e0 (g := (mkF m 15 #[.val (.ref bf), .val (.int (8 : Int32)), .unset] [(.int (8 : Int32))])) rfl (hb hby D6_15.1) rfl (by decide) (cap := 8) (by decide) (by decide) (by decide) (by decide) (ad := "[B") (by first | rfl | decide)
    obtain ⟨b5, g5⟩ : ∃ z : Nat, z = h0.size := ⟨_, rfl⟩
    rw [← g5] at A5 Ex5 st5
    have sz5 := own_leN E5.1
    have gn_b5 : n0 ≤ b5 := by omega
    have V_b5 : Arv Z h5 b5 k5 .byte (8 : Int32) [(.int (0 : Int32)), (.int (0 : Int32)), (.int (0 : Int32)), (.int (0 : Int32)), (.int (0 : Int32)), (.int (0 : Int32)), (.int (0 : Int32)), (.int (0 : Int32))] (.int (0 : Int32)) := (Arv.new A5 (by decide)).pad (pad_rep [] (.int (0 : Int32)) 8)
    have lt_b5 := own_ltN V_b5.lt
    refine own_pre (A' := T5.setTop (mkF m 17 #[.val (.ref bf), .val (.int (8 : Int32)), .unset] [(.ref b5)])) st5 ?_
    refine o_astoreN X5 hx hby D6_17 rfl (l' := #[.val (.ref bf), .val (.int (8 : Int32)), .val (.ref b5)]) rfl ?_
    refine o_aloadN X5 hx hby D6_18 rfl rfl ?_
    refine o_iconst X5 hx hby D6_19 (v := 0) rfl ?_
    refine o_aloadN X5 hx hby D6_20 rfl rfl ?_
    refine o_iconst X5 hx hby D6_21 (v := 0) rfl ?_
    refine o_aloadN X5 hx hby D6_22 rfl rfl ?_
    have c7_V_bf := (Vb.ext E5)
    obtain ⟨cl_bf_6, Ar_bf_6, q_bf_6, S_bf_6, N_bf_6, H_bf_6, G_bf_6⟩ := id c7_V_bf
    refine own_pre (A' := T5.setTop (mkF m 24 #[.val (.ref bf), .val (.int (8 : Int32)), .val (.ref b5)] [(.int P), (.int (0 : Int32)), (.ref b5), (.int (0 : Int32)), (.ref bf)])) (fun t k => X5.arraylength hx (by rw [e5]; exact Ar_bf_6.1) (State.isArrayOf_alike hZ.alike Ar_bf_6.2.1) (g := (mkF m 23 #[.val (.ref bf), .val (.int (8 : Int32)), .val (.ref b5)] [(.ref bf), (.int (0 : Int32)), (.ref b5), (.int (0 : Int32)), (.ref bf)])) rfl rfl (hb hby D6_23.1) _ (by rw [len_of S_bf_6 N_bf_6]; exact k)) ?_
    refine o_iloadN X5 hx hby D6_24 rfl ?_
    obtain ⟨_, _, ⟨T8, L8, k8, n8⟩, -, X8, ⟨Lc8, hQ8, l8, y8, z8⟩, st8⟩ := Jvm.LawKit.callS X5 hx (y := (⟨"java/lang/Math", "min", "(II)I"⟩ : MethodName)) hown (mvT hZ (own_wd hw (i := 36) rfl)) (mvT hZ (own_wd hw (i := 17) rfl)) (mvT hZ (own_wd hw (i := 18) rfl)) (mvT hZ (own_wd hw (i := 19) rfl)) (by decide) (backOf (W := 4) (rmMin l Z a0 hw [] P (8 : Int32) (8 : Int32) h5 n0 (own_leN (by omega)) (own_mn hP (by decide))) hZ (own_wd hw (i := 19) rfl) (own_wd hw (i := 18) rfl) (by decide) (by decide)) (g := (mkF m 25 #[.val (.ref bf), .val (.int (8 : Int32)), .val (.ref b5)] [(.int (8 : Int32)), (.int P), (.int (0 : Int32)), (.ref b5), (.int (0 : Int32)), (.ref bf)])) rfl (by rw [hml]; rfl) (argsL := [(.int P), (.int (8 : Int32))]) (rest := [(.int (0 : Int32)), (.ref b5), (.int (0 : Int32)), (.ref bf)]) (lenOf pd__40II_41I rfl) rfl (by show 2 * 0 + _ ≤ _; exact Nat.le_of_eq rfl) (hb hby D6_25.1) (fun _ _ => ⟨rfl, e5, (by decide : 1 + 0 ≤ _), (by decide : 8 + 0 ≤ _)⟩)
    dsimp only [Pt.U, Pt.locs, Pt.cells, Pt.slots] at X8 l8 y8 z8 st8 hQ8
    subst l8 y8 z8
    obtain ⟨rfl, N8q, e8⟩ := hQ8
    have N8 := Fr.app N0 N8q
    refine own_pre (A' := T8.setTop (mkF m 28 #[.val (.ref bf), .val (.int (8 : Int32)), .val (.ref b5)] [(.int (8 : Int32)), (.int (0 : Int32)), (.ref b5), (.int (0 : Int32)), (.ref bf)])) st8 ?_
    obtain ⟨T9, h9, L9, X9, e9, N9, K9, V9, st9⟩ := cpA X8 hx hZ hown (own_wd hw (i := 37) rfl) (own_wd hw (i := 40) rfl) (own_wd hw (i := 38) rfl) (own_wd hw (i := 39) rfl) e8 c7_V_bf V_b5 (Or.inl ⟨rfl, rfl⟩) (sp := (0 : Int32)) (dp := (0 : Int32)) (nn := (8 : Int32)) (us := [x0, x1, x2, x3, x4, x5, x6, x7]) (by decide) (by decide) (by decide) (own_le8 hP (by decide) (by decide)) (by decide) rfl (by decide) N8 gn_b5 (g := (mkF m 28 #[.val (.ref bf), .val (.int (8 : Int32)), .val (.ref b5)] [(.int (8 : Int32)), (.int (0 : Int32)), (.ref b5), (.int (0 : Int32)), (.ref bf)])) rfl (by rw [hml]; rfl) rfl (hb hby D6_28.1) (by decide) (W := 0) (by show 2 * 0 + _ ≤ _; exact Nat.le_of_eq rfl) (by decide)
    have sz9 := own_leN K9.1
    have Vc9 : Arv Z h9 b5 k5 .byte (8 : Int32) [x0, x1, x2, x3, x4, x5, x6, x7] (.int (0 : Int32)) := V9
    refine own_pre (A' := T9.setTop (mkF m 31 #[.val (.ref bf), .val (.int (8 : Int32)), .val (.ref b5)] [])) st9 ?_
    refine o_aloadN X9 hx hby D6_31 rfl rfl ?_
    have KK : Keep h0 h9 [] := (((Keep.refl h0 []).ext E5).trans K9 (allS (Or.inr (own_leN (by omega))) all0))
    exact own_ret (v := some (.ref b5)) X9 (fun h => by first | rfl | (rw [Bd.returns] at h; cases h)) (BodyLoose.notSynchronized Bd) (by decide) (by decide) (by rw [e9]; exact ⟨b5, k5, rfl, N9, KK, own_leN (by omega), Vc9⟩) (fun fs hr => retOut X9 hx Bd.returns rfl (Or.inr (Or.inr (Or.inr (Or.inr ⟨rfl, rfl, rfl⟩)))) (hb hby D6_32.1) hr)
def own_QT4 (Z : State) (a1 bf : Addr) (kb : ClassId) (mg P : Int32) (x0 x1 x2 x3 x4 x5 x6 x7 : Value) (h0 : Heap) (n0 : Nat) (v : Option Value) (h : Heap) (L : List Loc) : Prop := ∃ (r : Nat) (kr : ClassId), v = some (.ref r) ∧ Fr n0 L ∧ Keep h0 h [a1, bf] ∧ h0.size ≤ r ∧ Arv Z h r kr .byte (4 : Int32) [(.int (nar .byte ((((mg.toUInt32 >>> ((8 : Int32) &&& 31).toUInt32).toInt32)).toInt8.toInt32))), (.int (nar .byte ((mg).toInt8.toInt32))), (.int (nar .byte ((((((4 : Int32) - (4 : Int32)).toUInt32 >>> ((8 : Int32) &&& 31).toUInt32).toInt32)).toInt8.toInt32))), (.int (nar .byte ((((4 : Int32) - (4 : Int32))).toInt8.toInt32)))] (.int (0 : Int32)) ∧ own_Wr Z h a1 bf kb mg P (4 : Int32) (.int (nar .byte ((((mg.toUInt32 >>> ((8 : Int32) &&& 31).toUInt32).toInt32)).toInt8.toInt32))) (.int (nar .byte ((mg).toInt8.toInt32))) (.int (nar .byte ((((((4 : Int32) - (4 : Int32)).toUInt32 >>> ((8 : Int32) &&& 31).toUInt32).toInt32)).toInt8.toInt32))) (.int (nar .byte ((((4 : Int32) - (4 : Int32))).toInt8.toInt32))) x4 x5 x6 x7
theorem pd__40_41V : parseMethodDescriptor "()V" = some ⟨[], none⟩ := by decide +kernel
theorem pd__40_91BI_41_91B : parseMethodDescriptor "([BI)[B" = some ⟨[(.array .byte), .int], some (.array .byte)⟩ := by decide +kernel
theorem D4_0 : own_at prog_15_method_10_code 0 (.aload_n 0) 1 1 := ⟨by decide +kernel, rfl⟩
theorem D4_1 : own_at prog_15_method_10_code 1 (.invokevirtual 76) 3 4 := ⟨by decide +kernel, rfl⟩
theorem D4_4 : own_at prog_15_method_10_code 4 (.aload_n 0) 1 5 := ⟨by decide +kernel, rfl⟩
theorem D4_5 : own_at prog_15_method_10_code 5 (.getfield 27) 3 8 := ⟨by decide +kernel, rfl⟩
theorem D4_8 : own_at prog_15_method_10_code 8 (.aload_n 0) 1 9 := ⟨by decide +kernel, rfl⟩
theorem D4_9 : own_at prog_15_method_10_code 9 (.getfield 9) 3 12 := ⟨by decide +kernel, rfl⟩
theorem D4_12 : own_at prog_15_method_10_code 12 (.invokestatic 91) 3 15 := ⟨by decide +kernel, rfl⟩
theorem D4_15 : own_at prog_15_method_10_code 15 (.astore_n 1) 1 16 := ⟨by decide +kernel, rfl⟩
theorem D4_16 : own_at prog_15_method_10_code 16 (.aload_n 0) 1 17 := ⟨by decide +kernel, rfl⟩
theorem D4_17 : own_at prog_15_method_10_code 17 (.iconst 4) 1 18 := ⟨by decide +kernel, rfl⟩
theorem D4_18 : own_at prog_15_method_10_code 18 (.putfield 9) 3 21 := ⟨by decide +kernel, rfl⟩
theorem D4_21 : own_at prog_15_method_10_code 21 (.aload_n 1) 1 22 := ⟨by decide +kernel, rfl⟩
theorem D4_22 : own_at prog_15_method_10_code 22 (.areturn) 1 23 := ⟨by decide +kernel, rfl⟩
theorem ef_rmT4 (m : MethodId) (a1 : Addr) : entryFrame m #[(.ref a1)] 2 = mkF m 0 #[.val (.ref a1), .unset] [] := by first | (simp [entryFrame, mkF, argsToLocals, Value.category]; done) | rfl
set_option maxRecDepth 65536 in
set_option maxHeartbeats 40000000 in
theorem rmT4 (l : Launch) (Z : State) (a0 : Array Value) (hw : ∀ d ∈ tables_1, d.before a0 Z = true) (ws : List Jvm.Cond) (a1 : Addr) (bf : Addr) (kb : ClassId) (mg P : Int32) (x0 x1 x2 x3 x4 x5 x6 x7 : Value) (h0 : Heap) (n0 : Nat) (Z0 : n0 ≤ h0.size) (hW : own_Wr Z h0 a1 bf kb mg P (4 : Int32) x0 x1 x2 x3 x4 x5 x6 x7) (gn_a1 : n0 ≤ a1) (gn_bf : n0 ≤ bf) (nab : @LT.lt Nat instLTNat a1 bf) (hP : own_hP P) :
    MetFree l (⟨"com/example/jetway/jetway/ajp/PacketWriter", "toByteArray", "()[B"⟩ : MethodName) (head1 (Jvm.Cond.code (⟨"com/example/jetway/jetway/ajp/PacketWriter", "toByteArray", "()[B"⟩ : MethodName) prog_15_method_10_code 2 (some (.array .byte)) :: ws) ({ frames := 2, cells := 1, slots := 4, locals := 32 } : Room)) (fun a U => a = #[(.ref a1)] ∧ Z.Warmed39 U.vm ∧ U.heap = h0) (fun _ _ _ _ _ => True) (fun _ U o U' => ∃ v L, o = .returned v ∧ own_QT4 Z a1 bf kb mg P x0 x1 x2 x3 x4 x5 x6 x7 h0 n0 v U'.heap L ∧ FrameEnd U o U' L ({ frames := 2, cells := 1, slots := 4, locals := 32 } : Room).cells ({ frames := 2, cells := 1, slots := 4, locals := 32 } : Room).slots) := by
  refine MetFree.of_bodySF (plainFor_of_name pn_com_example_jetway_jetway_ajp_PacketWriter) hisR ?_
  intro p e s m args below meth c s₁ Bd hml0 hP hK
  obtain ⟨rfl, hZ, hh⟩ := hP
  have hx := Bd.exec
  have hby := Bd.bytes
  have hml : c.maxLocals = 2 := hml0
  have hown : s.vm.findClass "com/example/jetway/jetway/ajp/PacketWriter" = some m.cls := findClass_of_methodNamed Bd.named
  have hnm := (name_of_methodNamed Bd.named Bd.method).1
  have X0 : Stand p l e ({ frames := 2, cells := 1, slots := 4, locals := 32 } : Room) s m #[(.ref a1)] below meth c s₁ [] 0 0 := Stand.of_body Bd
  have e0 : s₁.heap = h0 := by rw [← hh, Bd.state]; rfl
  have N0 := Fr.nil n0
  refine own_start (ef_rmT4 m a1) ?_
  have hW0 := hW
  obtain ⟨E_a1, Fm, Fp, Fb, Fo, Vb, E_bf⟩ := hW
  have lt_a1 := own_ltN E_a1.lt
  have lt_bf := own_ltN Vb.lt
  have gn_bf' := own_leN gn_bf
  have gn_a1' := own_leN gn_a1
  refine o_aloadN X0 hx hby D4_0 rfl rfl ?_
  obtain ⟨cq1, q1, q1'⟩ := E_a1.cell
  obtain ⟨_, _, ⟨T1, L1, k1, n1⟩, -, X1, ⟨Lc1, hQ1, l1, y1, z1⟩, st1⟩ := X0.privateBack hx (y := (⟨"com/example/jetway/jetway/ajp/PacketWriter", "frame", "()V"⟩ : MethodName)) hown (mvT hZ (own_wd hw (i := 28) rfl)) (mvT hZ (own_wd hw (i := 29) rfl)) (own_selp (by decide) (mvT hZ (own_wd hw (i := 2) rfl)) (mvP hZ (own_wd hw (i := 30) rfl)) (mvT hZ (own_wd hw (i := 29) rfl))) (Cond.privateMethod_at (mvP hZ (own_wd hw (i := 30) rfl) (args := #[]))) (mvT hZ (own_wd hw (i := 31) rfl)) (by decide) (backOf (W := 0) (rmF l Z a0 hw [] a1 bf kb mg P (4 : Int32) x0 x1 x2 x3 x4 x5 x6 x7 h0 n0 Z0 hW0 gn_a1 gn_bf nab hP) hZ (own_wd hw (i := 31) rfl) (own_wd hw (i := 3) rfl) (by decide) (by decide)) (g := (mkF m 1 #[.val (.ref a1), .unset] [(.ref a1)])) rfl (by rw [hml]; rfl) (Steps.refl _) (a := a1) (by rw [e0]; exact q1) q1' (argsL := []) (rest := []) (lenOf pd__40_41V rfl) rfl (by show 2 * 0 + _ ≤ _; exact Nat.le_of_eq rfl) (hb hby D4_1.1) (fun _ _ => ⟨rfl, e0, (by decide : 0 + 0 ≤ _), (by decide : 0 + 0 ≤ _)⟩)
  dsimp only [Pt.U, Pt.locs, Pt.cells, Pt.slots] at X1 l1 y1 z1 st1 hQ1
  subst l1 y1 z1
  obtain ⟨rfl, N1q, K1, E_1, Fm_1, Fp_1, Fb_1, Fo_1, Vb_1, Eb_1⟩ := hQ1
  have sz1 := own_leN K1.1
  have N1 := Fr.app N0 N1q
  refine own_pre (A' := T1.setTop (mkF m 4 #[.val (.ref a1), .unset] [])) (fun t k => st1.trans k) ?_
  refine o_aloadN X1 hx hby D4_4 rfl rfl ?_
  obtain ⟨T2, X2, e2, st2⟩ := getF X1 hx hZ hown (host := "") (Or.inl (own_wd hw (i := 21) rfl)) Via.refl rfl Fb_1 (g := (mkF m 5 #[.val (.ref a1), .unset] [(.ref a1)])) rfl rfl (hb hby D4_5.1)
  refine own_pre (A' := T2.setTop (mkF m 8 #[.val (.ref a1), .unset] [(.ref bf)])) st2 ?_
  refine o_aloadN X2 hx hby D4_8 rfl rfl ?_
  obtain ⟨T3, X3, e3, st3⟩ := getF X2 hx hZ hown (host := "") (Or.inl (own_wd hw (i := 10) rfl)) Via.refl e2 Fo_1 (g := (mkF m 9 #[.val (.ref a1), .unset] [(.ref a1), (.ref bf)])) rfl rfl (hb hby D4_9.1)
  refine own_pre (A' := T3.setTop (mkF m 12 #[.val (.ref a1), .unset] [(.int (4 : Int32)), (.ref bf)])) st3 ?_
  obtain ⟨_, _, ⟨T4, L4, k4, n4⟩, -, X4, ⟨Lc4, hQ4, l4, y4, z4⟩, st4⟩ := Jvm.LawKit.callS X3 hx (y := (⟨"java/util/Arrays", "copyOf", "([BI)[B"⟩ : MethodName)) hown (mvT hZ (own_wd hw (i := 32) rfl)) (mvT hZ (own_wd hw (i := 33) rfl)) (mvT hZ (own_wd hw (i := 34) rfl)) (mvT hZ (own_wd hw (i := 35) rfl)) (by decide) (backOf (W := 0) (rmC4 l Z a0 hw [] bf kb P (.int (nar .byte ((((mg.toUInt32 >>> ((8 : Int32) &&& 31).toUInt32).toInt32)).toInt8.toInt32))) (.int (nar .byte ((mg).toInt8.toInt32))) (.int (nar .byte ((((((4 : Int32) - (4 : Int32)).toUInt32 >>> ((8 : Int32) &&& 31).toUInt32).toInt32)).toInt8.toInt32))) (.int (nar .byte ((((4 : Int32) - (4 : Int32))).toInt8.toInt32))) x4 x5 x6 x7 T1.heap n0 (own_leN (by omega)) Vb_1 Eb_1 hP) hZ (own_wd hw (i := 35) rfl) (own_wd hw (i := 34) rfl) (by decide) (by decide)) (g := (mkF m 12 #[.val (.ref a1), .unset] [(.int (4 : Int32)), (.ref bf)])) rfl (by rw [hml]; rfl) (argsL := [(.ref bf), (.int (4 : Int32))]) (rest := []) (lenOf pd__40_91BI_41_91B rfl) rfl (by show 2 * 0 + _ ≤ _; exact Nat.le_of_eq rfl) (hb hby D4_12.1) (fun _ _ => ⟨rfl, e3, (by decide : 0 + 1 ≤ _), (by decide : 0 + 4 ≤ _)⟩)
  dsimp only [Pt.U, Pt.locs, Pt.cells, Pt.slots] at X4 l4 y4 z4 st4 hQ4
  subst l4 y4 z4
  obtain ⟨r4, kr4, rfl, N4q, K4, ge4, Vr4⟩ := hQ4
  have sz4 := own_leN K4.1
  have ge4' := own_leN ge4
  have lt_r4 := own_ltN Vr4.lt
  have N4 := Fr.app N1 N4q
  refine own_pre (A' := T4.setTop (mkF m 15 #[.val (.ref a1), .unset] [(.ref r4)])) st4 ?_
  refine o_astoreN X4 hx hby D4_15 rfl (l' := #[.val (.ref a1), .val (.ref r4)]) rfl ?_
  refine o_aloadN X4 hx hby D4_16 rfl rfl ?_
  refine o_iconst X4 hx hby D4_17 (v := 4) rfl ?_
  have c6_F_a1_position := (Fo_1.keep K4 nin0)
  have c7_E_a1 := (E_1.keep K4)
  obtain ⟨T5, h5, X5, e5, W5, st5⟩ := putF X4 hx hZ hown (host := "") (Or.inl (own_wd hw (i := 10) rfl)) Via.refl rfl c6_F_a1_position c7_E_a1 (Or.inl (own_wd hw (i := 11) rfl)) (own_wd hw (i := 2) rfl) (ty := .int) (by decide) rfl rfl (g := (mkF m 18 #[.val (.ref a1), .val (.ref r4)] [(.int (4 : Int32)), (.ref a1)])) rfl rfl (hb hby D4_18.1)
  have Fw5 := c6_F_a1_position.same W5
  have sz5 := own_leN (Keep.of_wr W5).1
  have N5 := Fr.snoc X5 N4 gn_a1
  refine own_pre (A' := T5.setTop (mkF m 21 #[.val (.ref a1), .val (.ref r4)] [])) st5 ?_
  refine o_aloadN X5 hx hby D4_21 rfl rfl ?_
  have c8_V_r4 := (Vr4.other W5 (by first | exact own_neN (by omega) | exact own_neN' (by omega)))
  have c9_E_a1 := (c7_E_a1.wr W5)
  have c10_F_a1_magic := ((Fm_1.keep K4 nin0).other W5 (Or.inr (Jvm.RoadKit.slot_ne (Or.inr (own_wd hw (i := 13) rfl)) (Or.inl (own_wd hw (i := 11) rfl)) (by decide) (t := .int) (t' := .int) (by decide) (by decide))))
  have c11_F_a1_packetSize := ((Fp_1.keep K4 nin0).other W5 (Or.inr (Jvm.RoadKit.slot_ne (Or.inr (own_wd hw (i := 15) rfl)) (Or.inl (own_wd hw (i := 11) rfl)) (by decide) (t := .int) (t' := .int) (by decide) (by decide))))
  have c12_F_a1_buffer := ((Fb_1.keep K4 nin0).other W5 (Or.inr (Jvm.RoadKit.slot_ne (Or.inl (own_wd hw (i := 22) rfl)) (Or.inl (own_wd hw (i := 11) rfl)) (by decide) (t := (.array .byte)) (t' := .int) (by decide) (by decide))))
  have c13_V_bf := ((Vb_1.keep K4 nin0).other W5 (by first | exact own_neN (by omega) | exact own_neN' (by omega)))
  have c14_E_bf := ((Eb_1.keep K4).wr W5)
  have KK : Keep h0 h5 [a1, bf] := ((((Keep.refl h0 [a1, bf]).trans K1 (allS (Or.inl (by simp)) all0)).trans K4 all0).wr W5 (Or.inl (by simp)))
  exact own_ret (v := some (.ref r4)) X5 (fun h => by first | rfl | (rw [Bd.returns] at h; cases h)) (BodyLoose.notSynchronized Bd) (by decide) (by decide) (by rw [e5]; exact ⟨r4, kr4, rfl, N5, KK, own_leN (by omega), c8_V_r4, ⟨c9_E_a1, c10_F_a1_magic, c11_F_a1_packetSize, c12_F_a1_buffer, Fw5, c13_V_bf, c14_E_bf⟩⟩) (fun fs hr => retOut X5 hx Bd.returns rfl (Or.inr (Or.inr (Or.inr (Or.inr ⟨rfl, rfl, rfl⟩)))) (hb hby D4_22.1) hr)
def own_QT5 (Z : State) (a1 bf : Addr) (kb : ClassId) (mg P : Int32) (x0 x1 x2 x3 x4 x5 x6 x7 : Value) (h0 : Heap) (n0 : Nat) (v : Option Value) (h : Heap) (L : List Loc) : Prop := ∃ (r : Nat) (kr : ClassId), v = some (.ref r) ∧ Fr n0 L ∧ Keep h0 h [a1, bf] ∧ h0.size ≤ r ∧ Arv Z h r kr .byte (5 : Int32) [(.int (nar .byte ((((mg.toUInt32 >>> ((8 : Int32) &&& 31).toUInt32).toInt32)).toInt8.toInt32))), (.int (nar .byte ((mg).toInt8.toInt32))), (.int (nar .byte ((((((5 : Int32) - (4 : Int32)).toUInt32 >>> ((8 : Int32) &&& 31).toUInt32).toInt32)).toInt8.toInt32))), (.int (nar .byte ((((5 : Int32) - (4 : Int32))).toInt8.toInt32))), x4] (.int (0 : Int32)) ∧ own_Wr Z h a1 bf kb mg P (4 : Int32) (.int (nar .byte ((((mg.toUInt32 >>> ((8 : Int32) &&& 31).toUInt32).toInt32)).toInt8.toInt32))) (.int (nar .byte ((mg).toInt8.toInt32))) (.int (nar .byte ((((((5 : Int32) - (4 : Int32)).toUInt32 >>> ((8 : Int32) &&& 31).toUInt32).toInt32)).toInt8.toInt32))) (.int (nar .byte ((((5 : Int32) - (4 : Int32))).toInt8.toInt32))) x4 x5 x6 x7
theorem ef_rmT5 (m : MethodId) (a1 : Addr) : entryFrame m #[(.ref a1)] 2 = mkF m 0 #[.val (.ref a1), .unset] [] := by first | (simp [entryFrame, mkF, argsToLocals, Value.category]; done) | rfl
set_option maxRecDepth 65536 in
set_option maxHeartbeats 40000000 in
theorem rmT5 (l : Launch) (Z : State) (a0 : Array Value) (hw : ∀ d ∈ tables_1, d.before a0 Z = true) (ws : List Jvm.Cond) (a1 : Addr) (bf : Addr) (kb : ClassId) (mg P : Int32) (x0 x1 x2 x3 x4 x5 x6 x7 : Value) (h0 : Heap) (n0 : Nat) (Z0 : n0 ≤ h0.size) (hW : own_Wr Z h0 a1 bf kb mg P (5 : Int32) x0 x1 x2 x3 x4 x5 x6 x7) (gn_a1 : n0 ≤ a1) (gn_bf : n0 ≤ bf) (nab : @LT.lt Nat instLTNat a1 bf) (hP : own_hP P) :
    MetFree l (⟨"com/example/jetway/jetway/ajp/PacketWriter", "toByteArray", "()[B"⟩ : MethodName) (head1 (Jvm.Cond.code (⟨"com/example/jetway/jetway/ajp/PacketWriter", "toByteArray", "()[B"⟩ : MethodName) prog_15_method_10_code 2 (some (.array .byte)) :: ws) ({ frames := 2, cells := 1, slots := 5, locals := 32 } : Room)) (fun a U => a = #[(.ref a1)] ∧ Z.Warmed39 U.vm ∧ U.heap = h0) (fun _ _ _ _ _ => True) (fun _ U o U' => ∃ v L, o = .returned v ∧ own_QT5 Z a1 bf kb mg P x0 x1 x2 x3 x4 x5 x6 x7 h0 n0 v U'.heap L ∧ FrameEnd U o U' L ({ frames := 2, cells := 1, slots := 5, locals := 32 } : Room).cells ({ frames := 2, cells := 1, slots := 5, locals := 32 } : Room).slots) := by
  refine MetFree.of_bodySF (plainFor_of_name pn_com_example_jetway_jetway_ajp_PacketWriter) hisR ?_
  intro p e s m args below meth c s₁ Bd hml0 hP hK
  obtain ⟨rfl, hZ, hh⟩ := hP
  have hx := Bd.exec
  have hby := Bd.bytes
  have hml : c.maxLocals = 2 := hml0
  have hown : s.vm.findClass "com/example/jetway/jetway/ajp/PacketWriter" = some m.cls := findClass_of_methodNamed Bd.named
  have hnm := (name_of_methodNamed Bd.named Bd.method).1
  have X0 : Stand p l e ({ frames := 2, cells := 1, slots := 5, locals := 32 } : Room) s m #[(.ref a1)] below meth c s₁ [] 0 0 := Stand.of_body Bd
  have e0 : s₁.heap = h0 := by rw [← hh, Bd.state]; rfl
  have N0 := Fr.nil n0
  refine own_start (ef_rmT5 m a1) ?_
  have hW0 := hW
  obtain ⟨E_a1, Fm, Fp, Fb, Fo, Vb, E_bf⟩ := hW
  have lt_a1 := own_ltN E_a1.lt
  have lt_bf := own_ltN Vb.lt
  have gn_bf' := own_leN gn_bf
  have gn_a1' := own_leN gn_a1
  refine o_aloadN X0 hx hby D4_0 rfl rfl ?_
  obtain ⟨cq1, q1, q1'⟩ := E_a1.cell
  obtain ⟨_, _, ⟨T1, L1, k1, n1⟩, -, X1, ⟨Lc1, hQ1, l1, y1, z1⟩, st1⟩ := X0.privateBack hx (y := (⟨"com/example/jetway/jetway/ajp/PacketWriter", "frame", "()V"⟩ : MethodName)) hown (mvT hZ (own_wd hw (i := 28) rfl)) (mvT hZ (own_wd hw (i := 29) rfl)) (own_selp (by decide) (mvT hZ (own_wd hw (i := 2) rfl)) (mvP hZ (own_wd hw (i := 30) rfl)) (mvT hZ (own_wd hw (i := 29) rfl))) (Cond.privateMethod_at (mvP hZ (own_wd hw (i := 30) rfl) (args := #[]))) (mvT hZ (own_wd hw (i := 31) rfl)) (by decide) (backOf (W := 0) (rmF l Z a0 hw [] a1 bf kb mg P (5 : Int32) x0 x1 x2 x3 x4 x5 x6 x7 h0 n0 Z0 hW0 gn_a1 gn_bf nab hP) hZ (own_wd hw (i := 31) rfl) (own_wd hw (i := 3) rfl) (by decide) (by decide)) (g := (mkF m 1 #[.val (.ref a1), .unset] [(.ref a1)])) rfl (by rw [hml]; rfl) (Steps.refl _) (a := a1) (by rw [e0]; exact q1) q1' (argsL := []) (rest := []) (lenOf pd__40_41V rfl) rfl (by show 2 * 0 + _ ≤ _; exact Nat.le_of_eq rfl) (hb hby D4_1.1) (fun _ _ => ⟨rfl, e0, (by decide : 0 + 0 ≤ _), (by decide : 0 + 0 ≤ _)⟩)
  dsimp only [Pt.U, Pt.locs, Pt.cells, Pt.slots] at X1 l1 y1 z1 st1 hQ1
  subst l1 y1 z1
  obtain ⟨rfl, N1q, K1, E_1, Fm_1, Fp_1, Fb_1, Fo_1, Vb_1, Eb_1⟩ := hQ1
  have sz1 := own_leN K1.1
  have N1 := Fr.app N0 N1q
  refine own_pre (A' := T1.setTop (mkF m 4 #[.val (.ref a1), .unset] [])) (fun t k => st1.trans k) ?_
  refine o_aloadN X1 hx hby D4_4 rfl rfl ?_
  obtain ⟨T2, X2, e2, st2⟩ := getF X1 hx hZ hown (host := "") (Or.inl (own_wd hw (i := 21) rfl)) Via.refl rfl Fb_1 (g := (mkF m 5 #[.val (.ref a1), .unset] [(.ref a1)])) rfl rfl (hb hby D4_5.1)
  refine own_pre (A' := T2.setTop (mkF m 8 #[.val (.ref a1), .unset] [(.ref bf)])) st2 ?_
  refine o_aloadN X2 hx hby D4_8 rfl rfl ?_
  obtain ⟨T3, X3, e3, st3⟩ := getF X2 hx hZ hown (host := "") (Or.inl (own_wd hw (i := 10) rfl)) Via.refl e2 Fo_1 (g := (mkF m 9 #[.val (.ref a1), .unset] [(.ref a1), (.ref bf)])) rfl rfl (hb hby D4_9.1)
  refine own_pre (A' := T3.setTop (mkF m 12 #[.val (.ref a1), .unset] [(.int (5 : Int32)), (.ref bf)])) st3 ?_
  obtain ⟨_, _, ⟨T4, L4, k4, n4⟩, -, X4, ⟨Lc4, hQ4, l4, y4, z4⟩, st4⟩ := Jvm.LawKit.callS X3 hx (y := (⟨"java/util/Arrays", "copyOf", "([BI)[B"⟩ : MethodName)) hown (mvT hZ (own_wd hw (i := 32) rfl)) (mvT hZ (own_wd hw (i := 33) rfl)) (mvT hZ (own_wd hw (i := 34) rfl)) (mvT hZ (own_wd hw (i := 35) rfl)) (by decide) (backOf (W := 0) (rmC5 l Z a0 hw [] bf kb P (.int (nar .byte ((((mg.toUInt32 >>> ((8 : Int32) &&& 31).toUInt32).toInt32)).toInt8.toInt32))) (.int (nar .byte ((mg).toInt8.toInt32))) (.int (nar .byte ((((((5 : Int32) - (4 : Int32)).toUInt32 >>> ((8 : Int32) &&& 31).toUInt32).toInt32)).toInt8.toInt32))) (.int (nar .byte ((((5 : Int32) - (4 : Int32))).toInt8.toInt32))) x4 x5 x6 x7 T1.heap n0 (own_leN (by omega)) Vb_1 Eb_1 hP) hZ (own_wd hw (i := 35) rfl) (own_wd hw (i := 34) rfl) (by decide) (by decide)) (g := (mkF m 12 #[.val (.ref a1), .unset] [(.int (5 : Int32)), (.ref bf)])) rfl (by rw [hml]; rfl) (argsL := [(.ref bf), (.int (5 : Int32))]) (rest := []) (lenOf pd__40_91BI_41_91B rfl) rfl (by show 2 * 0 + _ ≤ _; exact Nat.le_of_eq rfl) (hb hby D4_12.1) (fun _ _ => ⟨rfl, e3, (by decide : 0 + 1 ≤ _), (by decide : 0 + 5 ≤ _)⟩)
  dsimp only [Pt.U, Pt.locs, Pt.cells, Pt.slots] at X4 l4 y4 z4 st4 hQ4
  subst l4 y4 z4
  obtain ⟨r4, kr4, rfl, N4q, K4, ge4, Vr4⟩ := hQ4
  have sz4 := own_leN K4.1
  have ge4' := own_leN ge4
  have lt_r4 := own_ltN Vr4.lt
  have N4 := Fr.app N1 N4q
  refine own_pre (A' := T4.setTop (mkF m 15 #[.val (.ref a1), .unset] [(.ref r4)])) st4 ?_
  refine o_astoreN X4 hx hby D4_15 rfl (l' := #[.val (.ref a1), .val (.ref r4)]) rfl ?_
  refine o_aloadN X4 hx hby D4_16 rfl rfl ?_
  refine o_iconst X4 hx hby D4_17 (v := 4) rfl ?_
  have c6_F_a1_position := (Fo_1.keep K4 nin0)
  have c7_E_a1 := (E_1.keep K4)
  obtain ⟨T5, h5, X5, e5, W5, st5⟩ := putF X4 hx hZ hown (host := "") (Or.inl (own_wd hw (i := 10) rfl)) Via.refl rfl c6_F_a1_position c7_E_a1 (Or.inl (own_wd hw (i := 11) rfl)) (own_wd hw (i := 2) rfl) (ty := .int) (by decide) rfl rfl (g := (mkF m 18 #[.val (.ref a1), .val (.ref r4)] [(.int (4 : Int32)), (.ref a1)])) rfl rfl (hb hby D4_18.1)
  have Fw5 := c6_F_a1_position.same W5
  have sz5 := own_leN (Keep.of_wr W5).1
  have N5 := Fr.snoc X5 N4 gn_a1
  refine own_pre (A' := T5.setTop (mkF m 21 #[.val (.ref a1), .val (.ref r4)] [])) st5 ?_
  refine o_aloadN X5 hx hby D4_21 rfl rfl ?_
  have c8_V_r4 := (Vr4.other W5 (by first | exact own_neN (by omega) | exact own_neN' (by omega)))
  have c9_E_a1 := (c7_E_a1.wr W5)
  have c10_F_a1_magic := ((Fm_1.keep K4 nin0).other W5 (Or.inr (Jvm.RoadKit.slot_ne (Or.inr (own_wd hw (i := 13) rfl)) (Or.inl (own_wd hw (i := 11) rfl)) (by decide) (t := .int) (t' := .int) (by decide) (by decide))))
  have c11_F_a1_packetSize := ((Fp_1.keep K4 nin0).other W5 (Or.inr (Jvm.RoadKit.slot_ne (Or.inr (own_wd hw (i := 15) rfl)) (Or.inl (own_wd hw (i := 11) rfl)) (by decide) (t := .int) (t' := .int) (by decide) (by decide))))
  have c12_F_a1_buffer := ((Fb_1.keep K4 nin0).other W5 (Or.inr (Jvm.RoadKit.slot_ne (Or.inl (own_wd hw (i := 22) rfl)) (Or.inl (own_wd hw (i := 11) rfl)) (by decide) (t := (.array .byte)) (t' := .int) (by decide) (by decide))))
  have c13_V_bf := ((Vb_1.keep K4 nin0).other W5 (by first | exact own_neN (by omega) | exact own_neN' (by omega)))
  have c14_E_bf := ((Eb_1.keep K4).wr W5)
  have KK : Keep h0 h5 [a1, bf] := ((((Keep.refl h0 [a1, bf]).trans K1 (allS (Or.inl (by simp)) all0)).trans K4 all0).wr W5 (Or.inl (by simp)))
  exact own_ret (v := some (.ref r4)) X5 (fun h => by first | rfl | (rw [Bd.returns] at h; cases h)) (BodyLoose.notSynchronized Bd) (by decide) (by decide) (by rw [e5]; exact ⟨r4, kr4, rfl, N5, KK, own_leN (by omega), c8_V_r4, ⟨c9_E_a1, c10_F_a1_magic, c11_F_a1_packetSize, c12_F_a1_buffer, Fw5, c13_V_bf, c14_E_bf⟩⟩) (fun fs hr => retOut X5 hx Bd.returns rfl (Or.inr (Or.inr (Or.inr (Or.inr ⟨rfl, rfl, rfl⟩)))) (hb hby D4_22.1) hr)
def own_QT6 (Z : State) (a1 bf : Addr) (kb : ClassId) (mg P : Int32) (x0 x1 x2 x3 x4 x5 x6 x7 : Value) (h0 : Heap) (n0 : Nat) (v : Option Value) (h : Heap) (L : List Loc) : Prop := ∃ (r : Nat) (kr : ClassId), v = some (.ref r) ∧ Fr n0 L ∧ Keep h0 h [a1, bf] ∧ h0.size ≤ r ∧ Arv Z h r kr .byte (6 : Int32) [(.int (nar .byte ((((mg.toUInt32 >>> ((8 : Int32) &&& 31).toUInt32).toInt32)).toInt8.toInt32))), (.int (nar .byte ((mg).toInt8.toInt32))), (.int (nar .byte ((((((6 : Int32) - (4 : Int32)).toUInt32 >>> ((8 : Int32) &&& 31).toUInt32).toInt32)).toInt8.toInt32))), (.int (nar .byte ((((6 : Int32) - (4 : Int32))).toInt8.toInt32))), x4, x5] (.int (0 : Int32)) ∧ own_Wr Z h a1 bf kb mg P (4 : Int32) (.int (nar .byte ((((mg.toUInt32 >>> ((8 : Int32) &&& 31).toUInt32).toInt32)).toInt8.toInt32))) (.int (nar .byte ((mg).toInt8.toInt32))) (.int (nar .byte ((((((6 : Int32) - (4 : Int32)).toUInt32 >>> ((8 : Int32) &&& 31).toUInt32).toInt32)).toInt8.toInt32))) (.int (nar .byte ((((6 : Int32) - (4 : Int32))).toInt8.toInt32))) x4 x5 x6 x7
theorem ef_rmT6 (m : MethodId) (a1 : Addr) : entryFrame m #[(.ref a1)] 2 = mkF m 0 #[.val (.ref a1), .unset] [] := by first | (simp [entryFrame, mkF, argsToLocals, Value.category]; done) | rfl
set_option maxRecDepth 65536 in
set_option maxHeartbeats 40000000 in
theorem rmT6 (l : Launch) (Z : State) (a0 : Array Value) (hw : ∀ d ∈ tables_1, d.before a0 Z = true) (ws : List Jvm.Cond) (a1 : Addr) (bf : Addr) (kb : ClassId) (mg P : Int32) (x0 x1 x2 x3 x4 x5 x6 x7 : Value) (h0 : Heap) (n0 : Nat) (Z0 : n0 ≤ h0.size) (hW : own_Wr Z h0 a1 bf kb mg P (6 : Int32) x0 x1 x2 x3 x4 x5 x6 x7) (gn_a1 : n0 ≤ a1) (gn_bf : n0 ≤ bf) (nab : @LT.lt Nat instLTNat a1 bf) (hP : own_hP P) :
    MetFree l (⟨"com/example/jetway/jetway/ajp/PacketWriter", "toByteArray", "()[B"⟩ : MethodName) (head1 (Jvm.Cond.code (⟨"com/example/jetway/jetway/ajp/PacketWriter", "toByteArray", "()[B"⟩ : MethodName) prog_15_method_10_code 2 (some (.array .byte)) :: ws) ({ frames := 2, cells := 1, slots := 6, locals := 32 } : Room)) (fun a U => a = #[(.ref a1)] ∧ Z.Warmed39 U.vm ∧ U.heap = h0) (fun _ _ _ _ _ => True) (fun _ U o U' => ∃ v L, o = .returned v ∧ own_QT6 Z a1 bf kb mg P x0 x1 x2 x3 x4 x5 x6 x7 h0 n0 v U'.heap L ∧ FrameEnd U o U' L ({ frames := 2, cells := 1, slots := 6, locals := 32 } : Room).cells ({ frames := 2, cells := 1, slots := 6, locals := 32 } : Room).slots) := by
  refine MetFree.of_bodySF (plainFor_of_name pn_com_example_jetway_jetway_ajp_PacketWriter) hisR ?_
  intro p e s m args below meth c s₁ Bd hml0 hP hK
  obtain ⟨rfl, hZ, hh⟩ := hP
  have hx := Bd.exec
  have hby := Bd.bytes
  have hml : c.maxLocals = 2 := hml0
  have hown : s.vm.findClass "com/example/jetway/jetway/ajp/PacketWriter" = some m.cls := findClass_of_methodNamed Bd.named
  have hnm := (name_of_methodNamed Bd.named Bd.method).1
  have X0 : Stand p l e ({ frames := 2, cells := 1, slots := 6, locals := 32 } : Room) s m #[(.ref a1)] below meth c s₁ [] 0 0 := Stand.of_body Bd
  have e0 : s₁.heap = h0 := by rw [← hh, Bd.state]; rfl
  have N0 := Fr.nil n0
  refine own_start (ef_rmT6 m a1) ?_
  have hW0 := hW
  obtain ⟨E_a1, Fm, Fp, Fb, Fo, Vb, E_bf⟩ := hW
  have lt_a1 := own_ltN E_a1.lt
  have lt_bf := own_ltN Vb.lt
  have gn_bf' := own_leN gn_bf
  have gn_a1' := own_leN gn_a1
  refine o_aloadN X0 hx hby D4_0 rfl rfl ?_
  obtain ⟨cq1, q1, q1'⟩ := E_a1.cell
  obtain ⟨_, _, ⟨T1, L1, k1, n1⟩, -, X1, ⟨Lc1, hQ1, l1, y1, z1⟩, st1⟩ := X0.privateBack hx (y := (⟨"com/example/jetway/jetway/ajp/PacketWriter", "frame", "()V"⟩ : MethodName)) hown (mvT hZ (own_wd hw (i := 28) rfl)) (mvT hZ (own_wd hw (i := 29) rfl)) (own_selp (by decide) (mvT hZ (own_wd hw (i := 2) rfl)) (mvP hZ (own_wd hw (i := 30) rfl)) (mvT hZ (own_wd hw (i := 29) rfl))) (Cond.privateMethod_at (mvP hZ (own_wd hw (i := 30) rfl) (args := #[]))) (mvT hZ (own_wd hw (i := 31) rfl)) (by decide) (backOf (W := 0) (rmF l Z a0 hw [] a1 bf kb mg P (6 : Int32) x0 x1 x2 x3 x4 x5 x6 x7 h0 n0 Z0 hW0 gn_a1 gn_bf nab hP) hZ (own_wd hw (i := 31) rfl) (own_wd hw (i := 3) rfl) (by decide) (by decide)) (g := (mkF m 1 #[.val (.ref a1), .unset] [(.ref a1)])) rfl (by rw [hml]; rfl) (Steps.refl _) (a := a1) (by rw [e0]; exact q1) q1' (argsL := []) (rest := []) (lenOf pd__40_41V rfl) rfl (by show 2 * 0 + _ ≤ _; exact Nat.le_of_eq rfl) (hb hby D4_1.1) (fun _ _ => ⟨rfl, e0, (by decide : 0 + 0 ≤ _), (by decide : 0 + 0 ≤ _)⟩)
  dsimp only [Pt.U, Pt.locs, Pt.cells, Pt.slots] at X1 l1 y1 z1 st1 hQ1
  subst l1 y1 z1
  obtain ⟨rfl, N1q, K1, E_1, Fm_1, Fp_1, Fb_1, Fo_1, Vb_1, Eb_1⟩ := hQ1
  have sz1 := own_leN K1.1
  have N1 := Fr.app N0 N1q
  refine own_pre (A' := T1.setTop (mkF m 4 #[.val (.ref a1), .unset] [])) (fun t k => st1.trans k) ?_
  refine o_aloadN X1 hx hby D4_4 rfl rfl ?_
  obtain ⟨T2, X2, e2, st2⟩ := getF X1 hx hZ hown (host := "") (Or.inl (own_wd hw (i := 21) rfl)) Via.refl rfl Fb_1 (g := (mkF m 5 #[.val (.ref a1), .unset] [(.ref a1)])) rfl rfl (hb hby D4_5.1)
  refine own_pre (A' := T2.setTop (mkF m 8 #[.val (.ref a1), .unset] [(.ref bf)])) st2 ?_
  refine o_aloadN X2 hx hby D4_8 rfl rfl ?_
  obtain ⟨T3, X3, e3, st3⟩ := getF X2 hx hZ hown (host := "") (Or.inl (own_wd hw (i := 10) rfl)) Via.refl e2 Fo_1 (g := (mkF m 9 #[.val (.ref a1), .unset] [(.ref a1), (.ref bf)])) rfl rfl (hb hby D4_9.1)
  refine own_pre (A' := T3.setTop (mkF m 12 #[.val (.ref a1), .unset] [(.int (6 : Int32)), (.ref bf)])) st3 ?_
  obtain ⟨_, _, ⟨T4, L4, k4, n4⟩, -, X4, ⟨Lc4, hQ4, l4, y4, z4⟩, st4⟩ := Jvm.LawKit.callS X3 hx (y := (⟨"java/util/Arrays", "copyOf", "([BI)[B"⟩ : MethodName)) hown (mvT hZ (own_wd hw (i := 32) rfl)) (mvT hZ (own_wd hw (i := 33) rfl)) (mvT hZ (own_wd hw (i := 34) rfl)) (mvT hZ (own_wd hw (i := 35) rfl)) (by decide) (backOf (W := 0) (rmC6 l Z a0 hw [] bf kb P (.int (nar .byte ((((mg.toUInt32 >>> ((8 : Int32) &&& 31).toUInt32).toInt32)).toInt8.toInt32))) (.int (nar .byte ((mg).toInt8.toInt32))) (.int (nar .byte ((((((6 : Int32) - (4 : Int32)).toUInt32 >>> ((8 : Int32) &&& 31).toUInt32).toInt32)).toInt8.toInt32))) (.int (nar .byte ((((6 : Int32) - (4 : Int32))).toInt8.toInt32))) x4 x5 x6 x7 T1.heap n0 (own_leN (by omega)) Vb_1 Eb_1 hP) hZ (own_wd hw (i := 35) rfl) (own_wd hw (i := 34) rfl) (by decide) (by decide)) (g := (mkF m 12 #[.val (.ref a1), .unset] [(.int (6 : Int32)), (.ref bf)])) rfl (by rw [hml]; rfl) (argsL := [(.ref bf), (.int (6 : Int32))]) (rest := []) (lenOf pd__40_91BI_41_91B rfl) rfl (by show 2 * 0 + _ ≤ _; exact Nat.le_of_eq rfl) (hb hby D4_12.1) (fun _ _ => ⟨rfl, e3, (by decide : 0 + 1 ≤ _), (by decide : 0 + 6 ≤ _)⟩)
  dsimp only [Pt.U, Pt.locs, Pt.cells, Pt.slots] at X4 l4 y4 z4 st4 hQ4
  subst l4 y4 z4
  obtain ⟨r4, kr4, rfl, N4q, K4, ge4, Vr4⟩ := hQ4
  have sz4 := own_leN K4.1
  have ge4' := own_leN ge4
  have lt_r4 := own_ltN Vr4.lt
  have N4 := Fr.app N1 N4q
  refine own_pre (A' := T4.setTop (mkF m 15 #[.val (.ref a1), .unset] [(.ref r4)])) st4 ?_
  refine o_astoreN X4 hx hby D4_15 rfl (l' := #[.val (.ref a1), .val (.ref r4)]) rfl ?_
  refine o_aloadN X4 hx hby D4_16 rfl rfl ?_
  refine o_iconst X4 hx hby D4_17 (v := 4) rfl ?_
  have c6_F_a1_position := (Fo_1.keep K4 nin0)
  have c7_E_a1 := (E_1.keep K4)
  obtain ⟨T5, h5, X5, e5, W5, st5⟩ := putF X4 hx hZ hown (host := "") (Or.inl (own_wd hw (i := 10) rfl)) Via.refl rfl c6_F_a1_position c7_E_a1 (Or.inl (own_wd hw (i := 11) rfl)) (own_wd hw (i := 2) rfl) (ty := .int) (by decide) rfl rfl (g := (mkF m 18 #[.val (.ref a1), .val (.ref r4)] [(.int (4 : Int32)), (.ref a1)])) rfl rfl (hb hby D4_18.1)
  have Fw5 := c6_F_a1_position.same W5
  have sz5 := own_leN (Keep.of_wr W5).1
  have N5 := Fr.snoc X5 N4 gn_a1
  refine own_pre (A' := T5.setTop (mkF m 21 #[.val (.ref a1), .val (.ref r4)] [])) st5 ?_
  refine o_aloadN X5 hx hby D4_21 rfl rfl ?_
  have c8_V_r4 := (Vr4.other W5 (by first | exact own_neN (by omega) | exact own_neN' (by omega)))
  have c9_E_a1 := (c7_E_a1.wr W5)
  have c10_F_a1_magic := ((Fm_1.keep K4 nin0).other W5 (Or.inr (Jvm.RoadKit.slot_ne (Or.inr (own_wd hw (i := 13) rfl)) (Or.inl (own_wd hw (i := 11) rfl)) (by decide) (t := .int) (t' := .int) (by decide) (by decide))))
  have c11_F_a1_packetSize := ((Fp_1.keep K4 nin0).other W5 (Or.inr (Jvm.RoadKit.slot_ne (Or.inr (own_wd hw (i := 15) rfl)) (Or.inl (own_wd hw (i := 11) rfl)) (by decide) (t := .int) (t' := .int) (by decide) (by decide))))
  have c12_F_a1_buffer := ((Fb_1.keep K4 nin0).other W5 (Or.inr (Jvm.RoadKit.slot_ne (Or.inl (own_wd hw (i := 22) rfl)) (Or.inl (own_wd hw (i := 11) rfl)) (by decide) (t := (.array .byte)) (t' := .int) (by decide) (by decide))))
  have c13_V_bf := ((Vb_1.keep K4 nin0).other W5 (by first | exact own_neN (by omega) | exact own_neN' (by omega)))
  have c14_E_bf := ((Eb_1.keep K4).wr W5)
  have KK : Keep h0 h5 [a1, bf] := ((((Keep.refl h0 [a1, bf]).trans K1 (allS (Or.inl (by simp)) all0)).trans K4 all0).wr W5 (Or.inl (by simp)))
  exact own_ret (v := some (.ref r4)) X5 (fun h => by first | rfl | (rw [Bd.returns] at h; cases h)) (BodyLoose.notSynchronized Bd) (by decide) (by decide) (by rw [e5]; exact ⟨r4, kr4, rfl, N5, KK, own_leN (by omega), c8_V_r4, ⟨c9_E_a1, c10_F_a1_magic, c11_F_a1_packetSize, c12_F_a1_buffer, Fw5, c13_V_bf, c14_E_bf⟩⟩) (fun fs hr => retOut X5 hx Bd.returns rfl (Or.inr (Or.inr (Or.inr (Or.inr ⟨rfl, rfl, rfl⟩)))) (hb hby D4_22.1) hr)
def own_QT8 (Z : State) (a1 bf : Addr) (kb : ClassId) (mg P : Int32) (x0 x1 x2 x3 x4 x5 x6 x7 : Value) (h0 : Heap) (n0 : Nat) (v : Option Value) (h : Heap) (L : List Loc) : Prop := ∃ (r : Nat) (kr : ClassId), v = some (.ref r) ∧ Fr n0 L ∧ Keep h0 h [a1, bf] ∧ h0.size ≤ r ∧ Arv Z h r kr .byte (8 : Int32) [(.int (nar .byte ((((mg.toUInt32 >>> ((8 : Int32) &&& 31).toUInt32).toInt32)).toInt8.toInt32))), (.int (nar .byte ((mg).toInt8.toInt32))), (.int (nar .byte ((((((8 : Int32) - (4 : Int32)).toUInt32 >>> ((8 : Int32) &&& 31).toUInt32).toInt32)).toInt8.toInt32))), (.int (nar .byte ((((8 : Int32) - (4 : Int32))).toInt8.toInt32))), x4, x5, x6, x7] (.int (0 : Int32)) ∧ own_Wr Z h a1 bf kb mg P (4 : Int32) (.int (nar .byte ((((mg.toUInt32 >>> ((8 : Int32) &&& 31).toUInt32).toInt32)).toInt8.toInt32))) (.int (nar .byte ((mg).toInt8.toInt32))) (.int (nar .byte ((((((8 : Int32) - (4 : Int32)).toUInt32 >>> ((8 : Int32) &&& 31).toUInt32).toInt32)).toInt8.toInt32))) (.int (nar .byte ((((8 : Int32) - (4 : Int32))).toInt8.toInt32))) x4 x5 x6 x7
theorem ef_rmT8 (m : MethodId) (a1 : Addr) : entryFrame m #[(.ref a1)] 2 = mkF m 0 #[.val (.ref a1), .unset] [] := by first | (simp [entryFrame, mkF, argsToLocals, Value.category]; done) | rfl
set_option maxRecDepth 65536 in
set_option maxHeartbeats 40000000 in
theorem rmT8 (l : Launch) (Z : State) (a0 : Array Value) (hw : ∀ d ∈ tables_1, d.before a0 Z = true) (ws : List Jvm.Cond) (a1 : Addr) (bf : Addr) (kb : ClassId) (mg P : Int32) (x0 x1 x2 x3 x4 x5 x6 x7 : Value) (h0 : Heap) (n0 : Nat) (Z0 : n0 ≤ h0.size) (hW : own_Wr Z h0 a1 bf kb mg P (8 : Int32) x0 x1 x2 x3 x4 x5 x6 x7) (gn_a1 : n0 ≤ a1) (gn_bf : n0 ≤ bf) (nab : @LT.lt Nat instLTNat a1 bf) (hP : own_hP P) :
    MetFree l (⟨"com/example/jetway/jetway/ajp/PacketWriter", "toByteArray", "()[B"⟩ : MethodName) (head1 (Jvm.Cond.code (⟨"com/example/jetway/jetway/ajp/PacketWriter", "toByteArray", "()[B"⟩ : MethodName) prog_15_method_10_code 2 (some (.array .byte)) :: ws) ({ frames := 2, cells := 1, slots := 8, locals := 32 } : Room)) (fun a U => a = #[(.ref a1)] ∧ Z.Warmed39 U.vm ∧ U.heap = h0) (fun _ _ _ _ _ => True) (fun _ U o U' => ∃ v L, o = .returned v ∧ own_QT8 Z a1 bf kb mg P x0 x1 x2 x3 x4 x5 x6 x7 h0 n0 v U'.heap L ∧ FrameEnd U o U' L ({ frames := 2, cells := 1, slots := 8, locals := 32 } : Room).cells ({ frames := 2, cells := 1, slots := 8, locals := 32 } : Room).slots) := by
  refine MetFree.of_bodySF (plainFor_of_name pn_com_example_jetway_jetway_ajp_PacketWriter) hisR ?_
  intro p e s m args below meth c s₁ Bd hml0 hP hK
  obtain ⟨rfl, hZ, hh⟩ := hP
  have hx := Bd.exec
  have hby := Bd.bytes
  have hml : c.maxLocals = 2 := hml0
  have hown : s.vm.findClass "com/example/jetway/jetway/ajp/PacketWriter" = some m.cls := findClass_of_methodNamed Bd.named
  have hnm := (name_of_methodNamed Bd.named Bd.method).1
  have X0 : Stand p l e ({ frames := 2, cells := 1, slots := 8, locals := 32 } : Room) s m #[(.ref a1)] below meth c s₁ [] 0 0 := Stand.of_body Bd
  have e0 : s₁.heap = h0 := by rw [← hh, Bd.state]; rfl
  have N0 := Fr.nil n0
  refine own_start (ef_rmT8 m a1) ?_
  have hW0 := hW
  obtain ⟨E_a1, Fm, Fp, Fb, Fo, Vb, E_bf⟩ := hW
  have lt_a1 := own_ltN E_a1.lt
  have lt_bf := own_ltN Vb.lt
  have gn_bf' := own_leN gn_bf
  have gn_a1' := own_leN gn_a1
  refine o_aloadN X0 hx hby D4_0 rfl rfl ?_
  obtain ⟨cq1, q1, q1'⟩ := E_a1.cell
  obtain ⟨_, _, ⟨T1, L1, k1, n1⟩, -, X1, ⟨Lc1, hQ1, l1, y1, z1⟩, st1⟩ := X0.privateBack hx (y := (⟨"com/example/jetway/jetway/ajp/PacketWriter", "frame", "()V"⟩ : MethodName)) hown (mvT hZ (own_wd hw (i := 28) rfl)) (mvT hZ (own_wd hw (i := 29) rfl)) (own_selp (by decide) (mvT hZ (own_wd hw (i := 2) rfl)) (mvP hZ (own_wd hw (i := 30) rfl)) (mvT hZ (own_wd hw (i := 29) rfl))) (Cond.privateMethod_at (mvP hZ (own_wd hw (i := 30) rfl) (args := #[]))) (mvT hZ (own_wd hw (i := 31) rfl)) (by decide) (backOf (W := 0) (rmF l Z a0 hw [] a1 bf kb mg P (8 : Int32) x0 x1 x2 x3 x4 x5 x6 x7 h0 n0 Z0 hW0 gn_a1 gn_bf nab hP) hZ (own_wd hw (i := 31) rfl) (own_wd hw (i := 3) rfl) (by decide) (by decide)) (g := (mkF m 1 #[.val (.ref a1), .unset] [(.ref a1)])) rfl (by rw [hml]; rfl) (Steps.refl _) (a := a1) (by rw [e0]; exact q1) q1' (argsL := []) (rest := []) (lenOf pd__40_41V rfl) rfl (by show 2 * 0 + _ ≤ _; exact Nat.le_of_eq rfl) (hb hby D4_1.1) (fun _ _ => ⟨rfl, e0, (by decide : 0 + 0 ≤ _), (by decide : 0 + 0 ≤ _)⟩)
  dsimp only [Pt.U, Pt.locs, Pt.cells, Pt.slots] at X1 l1 y1 z1 st1 hQ1
  subst l1 y1 z1
  obtain ⟨rfl, N1q, K1, E_1, Fm_1, Fp_1, Fb_1, Fo_1, Vb_1, Eb_1⟩ := hQ1
  have sz1 := own_leN K1.1
  have N1 := Fr.app N0 N1q
  refine own_pre (A' := T1.setTop (mkF m 4 #[.val (.ref a1), .unset] [])) (fun t k => st1.trans k) ?_
  refine o_aloadN X1 hx hby D4_4 rfl rfl ?_
  obtain ⟨T2, X2, e2, st2⟩ := getF X1 hx hZ hown (host := "") (Or.inl (own_wd hw (i := 21) rfl)) Via.refl rfl Fb_1 (g := (mkF m 5 #[.val (.ref a1), .unset] [(.ref a1)])) rfl rfl (hb hby D4_5.1)
  refine own_pre (A' := T2.setTop (mkF m 8 #[.val (.ref a1), .unset] [(.ref bf)])) st2 ?_
  refine o_aloadN X2 hx hby D4_8 rfl rfl ?_
  obtain ⟨T3, X3, e3, st3⟩ := getF X2 hx hZ hown (host := "") (Or.inl (own_wd hw (i := 10) rfl)) Via.refl e2 Fo_1 (g := (mkF m 9 #[.val (.ref a1), .unset] [(.ref a1), (.ref bf)])) rfl rfl (hb hby D4_9.1)
  refine own_pre (A' := T3.setTop (mkF m 12 #[.val (.ref a1), .unset] [(.int (8 : Int32)), (.ref bf)])) st3 ?_
  obtain ⟨_, _, ⟨T4, L4, k4, n4⟩, -, X4, ⟨Lc4, hQ4, l4, y4, z4⟩, st4⟩ := Jvm.LawKit.callS X3 hx (y := (⟨"java/util/Arrays", "copyOf", "([BI)[B"⟩ : MethodName)) hown (mvT hZ (own_wd hw (i := 32) rfl)) (mvT hZ (own_wd hw (i := 33) rfl)) (mvT hZ (own_wd hw (i := 34) rfl)) (mvT hZ (own_wd hw (i := 35) rfl)) (by decide) (backOf (W := 0) (rmC8 l Z a0 hw [] bf kb P (.int (nar .byte ((((mg.toUInt32 >>> ((8 : Int32) &&& 31).toUInt32).toInt32)).toInt8.toInt32))) (.int (nar .byte ((mg).toInt8.toInt32))) (.int (nar .byte ((((((8 : Int32) - (4 : Int32)).toUInt32 >>> ((8 : Int32) &&& 31).toUInt32).toInt32)).toInt8.toInt32))) (.int (nar .byte ((((8 : Int32) - (4 : Int32))).toInt8.toInt32))) x4 x5 x6 x7 T1.heap n0 (own_leN (by omega)) Vb_1 Eb_1 hP) hZ (own_wd hw (i := 35) rfl) (own_wd hw (i := 34) rfl) (by decide) (by decide)) (g := (mkF m 12 #[.val (.ref a1), .unset] [(.int (8 : Int32)), (.ref bf)])) rfl (by rw [hml]; rfl) (argsL := [(.ref bf), (.int (8 : Int32))]) (rest := []) (lenOf pd__40_91BI_41_91B rfl) rfl (by show 2 * 0 + _ ≤ _; exact Nat.le_of_eq rfl) (hb hby D4_12.1) (fun _ _ => ⟨rfl, e3, (by decide : 0 + 1 ≤ _), (by decide : 0 + 8 ≤ _)⟩)
  dsimp only [Pt.U, Pt.locs, Pt.cells, Pt.slots] at X4 l4 y4 z4 st4 hQ4
  subst l4 y4 z4
  obtain ⟨r4, kr4, rfl, N4q, K4, ge4, Vr4⟩ := hQ4
  have sz4 := own_leN K4.1
  have ge4' := own_leN ge4
  have lt_r4 := own_ltN Vr4.lt
  have N4 := Fr.app N1 N4q
  refine own_pre (A' := T4.setTop (mkF m 15 #[.val (.ref a1), .unset] [(.ref r4)])) st4 ?_
  refine o_astoreN X4 hx hby D4_15 rfl (l' := #[.val (.ref a1), .val (.ref r4)]) rfl ?_
  refine o_aloadN X4 hx hby D4_16 rfl rfl ?_
  refine o_iconst X4 hx hby D4_17 (v := 4) rfl ?_
  have c6_F_a1_position := (Fo_1.keep K4 nin0)
  have c7_E_a1 := (E_1.keep K4)
  obtain ⟨T5, h5, X5, e5, W5, st5⟩ := putF X4 hx hZ hown (host := "") (Or.inl (own_wd hw (i := 10) rfl)) Via.refl rfl c6_F_a1_position c7_E_a1 (Or.inl (own_wd hw (i := 11) rfl)) (own_wd hw (i := 2) rfl) (ty := .int) (by decide) rfl rfl (g := (mkF m 18 #[.val (.ref a1), .val (.ref r4)] [(.int (4 : Int32)), (.ref a1)])) rfl rfl (hb hby D4_18.1)
  have Fw5 := c6_F_a1_position.same W5
  have sz5 := own_leN (Keep.of_wr W5).1
  have N5 := Fr.snoc X5 N4 gn_a1
  refine own_pre (A' := T5.setTop (mkF m 21 #[.val (.ref a1), .val (.ref r4)] [])) st5 ?_
  refine o_aloadN X5 hx hby D4_21 rfl rfl ?_
  have c8_V_r4 := (Vr4.other W5 (by first | exact own_neN (by omega) | exact own_neN' (by omega)))
  have c9_E_a1 := (c7_E_a1.wr W5)
  have c10_F_a1_magic := ((Fm_1.keep K4 nin0).other W5 (Or.inr (Jvm.RoadKit.slot_ne (Or.inr (own_wd hw (i := 13) rfl)) (Or.inl (own_wd hw (i := 11) rfl)) (by decide) (t := .int) (t' := .int) (by decide) (by decide))))
  have c11_F_a1_packetSize := ((Fp_1.keep K4 nin0).other W5 (Or.inr (Jvm.RoadKit.slot_ne (Or.inr (own_wd hw (i := 15) rfl)) (Or.inl (own_wd hw (i := 11) rfl)) (by decide) (t := .int) (t' := .int) (by decide) (by decide))))
  have c12_F_a1_buffer := ((Fb_1.keep K4 nin0).other W5 (Or.inr (Jvm.RoadKit.slot_ne (Or.inl (own_wd hw (i := 22) rfl)) (Or.inl (own_wd hw (i := 11) rfl)) (by decide) (t := (.array .byte)) (t' := .int) (by decide) (by decide))))
  have c13_V_bf := ((Vb_1.keep K4 nin0).other W5 (by first | exact own_neN (by omega) | exact own_neN' (by omega)))
  have c14_E_bf := ((Eb_1.keep K4).wr W5)
  have KK : Keep h0 h5 [a1, bf] := ((((Keep.refl h0 [a1, bf]).trans K1 (allS (Or.inl (by simp)) all0)).trans K4 all0).wr W5 (Or.inl (by simp)))
  exact own_ret (v := some (.ref r4)) X5 (fun h => by first | rfl | (rw [Bd.returns] at h; cases h)) (BodyLoose.notSynchronized Bd) (by decide) (by decide) (by rw [e5]; exact ⟨r4, kr4, rfl, N5, KK, own_leN (by omega), c8_V_r4, ⟨c9_E_a1, c10_F_a1_magic, c11_F_a1_packetSize, c12_F_a1_buffer, Fw5, c13_V_bf, c14_E_bf⟩⟩) (fun fs hr => retOut X5 hx Bd.returns rfl (Or.inr (Or.inr (Or.inr (Or.inr ⟨rfl, rfl, rfl⟩)))) (hb hby D4_22.1) hr)

theorem own_ext {x y : Int32} (h : ∀ i, i < 32 → x.toBitVec.getLsbD i = y.toBitVec.getLsbD i) : x = y := by
  apply Int32.toBitVec_inj.mp
  exact BitVec.eq_of_getLsbD_eq h
theorem own_i8 (x : Int32) : nar .byte ((x).toInt8.toInt32) = x.toInt8.toInt32 := by
  show x.toInt8.toInt32.toInt8.toInt32 = x.toInt8.toInt32
  rw [Int8.toInt8_toInt32]
theorem own_byte (x : Int32) : (nar .byte ((x).toInt8.toInt32)) &&& (255 : Int32) = x &&& (255 : Int32) := by
  rw [own_i8]
  apply own_ext
  intro i hi
  have k : (255 : Int32).toBitVec = 255#32 := rfl
  rw [Int32.toBitVec_and, Int32.toBitVec_and, k, BitVec.getLsbD_and, BitVec.getLsbD_and]
  by_cases h8 : i < 8
  · have e : (x.toInt8.toInt32).toBitVec = (x.toBitVec.signExtend 8).signExtend 32 := by
      rw [Int8.toBitVec_toInt32, Int32.toBitVec_toInt8]
    rw [e, BitVec.getLsbD_signExtend, BitVec.getLsbD_signExtend]
    simp [h8, hi]
  · have z : (255#32).getLsbD i = false := by
      have : ∀ j : Fin 32, ¬ j.val < 8 → (255#32).getLsbD j.val = false := by decide
      exact this ⟨i, hi⟩ h8
    rw [z, Bool.and_false, Bool.and_false]
theorem own_cv (x : Int32) : 0 ≤ (x &&& (65535 : Int32)).toInt ∧ (x &&& (65535 : Int32)).toInt < 65536 := by
  have e1 : (x &&& 65535).toInt = x.toInt % 2 ^ 16 := Jvm.Kit.i32_mask x 65535 (k := 16) (by decide) (by decide)
  rw [e1]; omega
theorem own_hi {cv : Int32} (h : 0 ≤ cv.toInt ∧ cv.toInt < 65536) : (nar .byte ((((cv.toUInt32 >>> ((8 : Int32) &&& 31).toUInt32).toInt32)).toInt8.toInt32)) &&& (255 : Int32) = cv / (256 : Int32) := by
  rw [own_byte]
  have k : (256 : Int32).toInt = 256 := rfl
  have e1 : ((cv.toUInt32 >>> ((8 : Int32) &&& 31).toUInt32).toInt32).toInt = cv.toInt / 2 ^ 8 := Jvm.Kit.i32_iushr (Jvm.Kit.i32_nonneg.mpr h.1) (by decide) (by decide)
  rw [← Int32.toInt_inj, Jvm.Kit.i32_mask _ 255 (k := 8) (by decide) (by decide), e1, Jvm.Kit.i32_div (by rw [k]; omega), k, Int.tdiv_eq_ediv_of_nonneg h.1]
  omega
theorem own_lo {cv : Int32} (h : 0 ≤ cv.toInt ∧ cv.toInt < 65536) : (nar .byte ((cv).toInt8.toInt32)) &&& (255 : Int32) = cv % (256 : Int32) := by
  rw [own_byte]
  have k : (256 : Int32).toInt = 256 := rfl
  rw [← Int32.toInt_inj, Jvm.Kit.i32_mask _ 255 (k := 8) (by decide) (by decide), Jvm.Kit.i32_rem_nonneg h.1, k]
  rfl
def own_mag (mg m0 m1 : Int32) : Prop := ((nar .byte ((((mg.toUInt32 >>> ((8 : Int32) &&& 31).toUInt32).toInt32)).toInt8.toInt32)) &&& (255 : Int32)) = m0 ∧ ((nar .byte ((mg).toInt8.toInt32)) &&& (255 : Int32)) = m1
theorem own_four (x : Int32) : x &&& (3 : Int32) = 0 ∨ x &&& (3 : Int32) = 1 ∨ x &&& (3 : Int32) = 2 ∨ x &&& (3 : Int32) = 3 := by
  have e1 : (x &&& 3).toInt = x.toInt % 2 ^ 2 := Jvm.Kit.i32_mask x 3 (k := 2) (by decide) (by decide)
  have c0 : (0 : Int32).toInt = 0 := rfl
  have c1 : (1 : Int32).toInt = 1 := rfl
  have c2 : (2 : Int32).toInt = 2 := rfl
  have c3 : (3 : Int32).toInt = 3 := rfl
  simp only [← Int32.toInt_inj, c0, c1, c2, c3, e1]
  omega
theorem pd__40II_41V : parseMethodDescriptor "(II)V" = some ⟨[.int, .int], none⟩ := by decide +kernel
theorem pd__40_41_91B : parseMethodDescriptor "()[B" = some ⟨[], some (.array .byte)⟩ := by decide +kernel
theorem pd__40I_41Lcom_47example_47jetway_47jetway_47ajp_47PacketWriter_59 : parseMethodDescriptor "(I)Lcom/example/jetway/jetway/ajp/PacketWriter;" = some ⟨[.int], some (.object "com/example/jetway/jetway/ajp/PacketWriter")⟩ := by decide +kernel
theorem D0_0 : own_at code 0 (.iload_n 0) 1 1 := ⟨at_0, rfl⟩
theorem D0_1 : own_at code 1 (.iconst 1) 1 2 := ⟨at_1, rfl⟩
theorem D0_2 : own_at code 2 (.iand) 1 3 := ⟨at_2, rfl⟩
theorem D0_3 : own_at code 3 (.ifCond .eq 7) 3 6 := ⟨at_3, rfl⟩
theorem D0_6 : own_at code 6 (.iconst 1) 1 7 := ⟨at_6, rfl⟩
theorem D0_7 : own_at code 7 (.goto 4) 3 10 := ⟨at_7, rfl⟩
theorem D0_10 : own_at code 10 (.iconst 0) 1 11 := ⟨at_10, rfl⟩
theorem D0_11 : own_at code 11 (.istore 6) 2 13 := ⟨at_11, rfl⟩
theorem D0_13 : own_at code 13 (.iload_n 0) 1 14 := ⟨at_13, rfl⟩
theorem D0_14 : own_at code 14 (.iconst 1) 1 15 := ⟨at_14, rfl⟩
theorem D0_15 : own_at code 15 (.iushr) 1 16 := ⟨at_15, rfl⟩
theorem D0_16 : own_at code 16 (.iconst 3) 1 17 := ⟨at_16, rfl⟩
theorem D0_17 : own_at code 17 (.iand) 1 18 := ⟨at_17, rfl⟩
theorem D0_18 : own_at code 18 (.istore 7) 2 20 := ⟨at_18, rfl⟩
theorem D0_20 : own_at code 20 (.iload_n 0) 1 21 := ⟨at_20, rfl⟩
theorem D0_21 : own_at code 21 (.bipush 8) 2 23 := ⟨at_21, rfl⟩
theorem D0_23 : own_at code 23 (.iand) 1 24 := ⟨at_23, rfl⟩
theorem D0_24 : own_at code 24 (.ifCond .eq 7) 3 27 := ⟨at_24, rfl⟩
theorem D0_27 : own_at code 27 (.iconst 1) 1 28 := ⟨at_27, rfl⟩
theorem D0_28 : own_at code 28 (.goto 4) 3 31 := ⟨at_28, rfl⟩
theorem D0_31 : own_at code 31 (.iconst 0) 1 32 := ⟨at_31, rfl⟩
theorem D0_32 : own_at code 32 (.istore 8) 2 34 := ⟨at_32, rfl⟩
theorem D0_34 : own_at code 34 (.iload 6) 2 36 := ⟨at_34, rfl⟩
theorem D0_36 : own_at code 36 (.ifCond .eq 9) 3 39 := ⟨at_36, rfl⟩
theorem D0_39 : own_at code 39 (.sipush 16706) 3 42 := ⟨at_39, rfl⟩
theorem D0_42 : own_at code 42 (.goto 6) 3 45 := ⟨at_42, rfl⟩
theorem D0_45 : own_at code 45 (.sipush 4660) 3 48 := ⟨at_45, rfl⟩
theorem D0_48 : own_at code 48 (.istore 9) 2 50 := ⟨at_48, rfl⟩
theorem D0_50 : own_at code 50 (.iload 6) 2 52 := ⟨at_50, rfl⟩
theorem D0_52 : own_at code 52 (.ifCond .eq 8) 3 55 := ⟨at_52, rfl⟩
theorem D0_55 : own_at code 55 (.bipush 65) 2 57 := ⟨at_55, rfl⟩
theorem D0_57 : own_at code 57 (.goto 5) 3 60 := ⟨at_57, rfl⟩
theorem D0_60 : own_at code 60 (.bipush 18) 2 62 := ⟨at_60, rfl⟩
theorem D0_62 : own_at code 62 (.istore 10) 2 64 := ⟨at_62, rfl⟩
theorem D0_64 : own_at code 64 (.iload 6) 2 66 := ⟨at_64, rfl⟩
theorem D0_66 : own_at code 66 (.ifCond .eq 8) 3 69 := ⟨at_66, rfl⟩
theorem D0_69 : own_at code 69 (.bipush 66) 2 71 := ⟨at_69, rfl⟩
theorem D0_71 : own_at code 71 (.goto 5) 3 74 := ⟨at_71, rfl⟩
theorem D0_74 : own_at code 74 (.bipush 52) 2 76 := ⟨at_74, rfl⟩
theorem D0_76 : own_at code 76 (.istore 11) 2 78 := ⟨at_76, rfl⟩
theorem D0_78 : own_at code 78 (.bipush 8) 2 80 := ⟨at_78, rfl⟩
theorem D0_80 : own_at code 80 (.iload 4) 2 82 := ⟨at_80, rfl⟩
theorem D0_82 : own_at code 82 (.sipush 255) 3 85 := ⟨at_82, rfl⟩
theorem D0_85 : own_at code 85 (.iand) 1 86 := ⟨at_85, rfl⟩
theorem D0_86 : own_at code 86 (.iadd) 1 87 := ⟨at_86, rfl⟩
theorem D0_87 : own_at code 87 (.istore 12) 2 89 := ⟨at_87, rfl⟩
theorem D0_89 : own_at code 89 (.iload_n 3) 1 90 := ⟨at_89, rfl⟩
theorem D0_90 : own_at code 90 (.ldc 9) 2 92 := ⟨at_90, rfl⟩
theorem D0_92 : own_at code 92 (.iand) 1 93 := ⟨at_92, rfl⟩
theorem D0_93 : own_at code 93 (.istore 13) 2 95 := ⟨at_93, rfl⟩
theorem D0_95 : own_at code 95 (.new 10) 3 98 := ⟨at_95, rfl⟩
theorem D0_98 : own_at code 98 (.dup) 1 99 := ⟨at_98, rfl⟩
theorem D0_99 : own_at code 99 (.iload 9) 2 101 := ⟨at_99, rfl⟩
theorem D0_101 : own_at code 101 (.iload 12) 2 103 := ⟨at_101, rfl⟩
theorem D0_103 : own_at code 103 (.invokespecial 12) 3 106 := ⟨at_103, rfl⟩
theorem D0_106 : own_at code 106 (.astore 14) 2 108 := ⟨at_106, rfl⟩
theorem D0_108 : own_at code 108 (.iload 7) 2 110 := ⟨at_108, rfl⟩
theorem D0_110 : own_at code 110 (.iconst 1) 1 111 := ⟨at_110, rfl⟩
theorem D0_111 : own_at code 111 (.if_icmp .lt 10) 3 114 := ⟨at_111, rfl⟩
theorem D0_114 : own_at code 114 (.aload 14) 2 116 := ⟨at_114, rfl⟩
theorem D0_116 : own_at code 116 (.iload_n 1) 1 117 := ⟨at_116, rfl⟩
theorem D0_117 : own_at code 117 (.invokevirtual 15) 3 120 := ⟨at_117, rfl⟩
theorem D0_120 : own_at code 120 (.pop) 1 121 := ⟨at_120, rfl⟩
theorem D0_121 : own_at code 121 (.iload 7) 2 123 := ⟨at_121, rfl⟩
theorem D0_123 : own_at code 123 (.iconst 2) 1 124 := ⟨at_123, rfl⟩
theorem D0_124 : own_at code 124 (.if_icmp .lt 10) 3 127 := ⟨at_124, rfl⟩
theorem D0_127 : own_at code 127 (.aload 14) 2 129 := ⟨at_127, rfl⟩
theorem D0_129 : own_at code 129 (.iload_n 2) 1 130 := ⟨at_129, rfl⟩
theorem D0_130 : own_at code 130 (.invokevirtual 15) 3 133 := ⟨at_130, rfl⟩
theorem D0_133 : own_at code 133 (.pop) 1 134 := ⟨at_133, rfl⟩
theorem D0_134 : own_at code 134 (.iload 7) 2 136 := ⟨at_134, rfl⟩
theorem D0_136 : own_at code 136 (.iconst 3) 1 137 := ⟨at_136, rfl⟩
theorem D0_137 : own_at code 137 (.if_icmp .lt 11) 3 140 := ⟨at_137, rfl⟩
theorem D0_140 : own_at code 140 (.aload 14) 2 142 := ⟨at_140, rfl⟩
theorem D0_142 : own_at code 142 (.iload 13) 2 144 := ⟨at_142, rfl⟩
theorem D0_144 : own_at code 144 (.invokevirtual 19) 3 147 := ⟨at_144, rfl⟩
theorem D0_147 : own_at code 147 (.pop) 1 148 := ⟨at_147, rfl⟩
theorem D0_148 : own_at code 148 (.iload 7) 2 150 := ⟨at_148, rfl⟩
theorem D0_150 : own_at code 150 (.ifCond .ne 7) 3 153 := ⟨at_150, rfl⟩
theorem D0_153 : own_at code 153 (.iconst 0) 1 154 := ⟨at_153, rfl⟩
theorem D0_154 : own_at code 154 (.goto 24) 3 157 := ⟨at_154, rfl⟩
theorem D0_157 : own_at code 157 (.iload 7) 2 159 := ⟨at_157, rfl⟩
theorem D0_159 : own_at code 159 (.iconst 1) 1 160 := ⟨at_159, rfl⟩
theorem D0_160 : own_at code 160 (.if_icmp .ne 7) 3 163 := ⟨at_160, rfl⟩
theorem D0_163 : own_at code 163 (.iconst 1) 1 164 := ⟨at_163, rfl⟩
theorem D0_164 : own_at code 164 (.goto 14) 3 167 := ⟨at_164, rfl⟩
theorem D0_167 : own_at code 167 (.iload 7) 2 169 := ⟨at_167, rfl⟩
theorem D0_169 : own_at code 169 (.iconst 2) 1 170 := ⟨at_169, rfl⟩
theorem D0_170 : own_at code 170 (.if_icmp .ne 7) 3 173 := ⟨at_170, rfl⟩
theorem D0_173 : own_at code 173 (.iconst 2) 1 174 := ⟨at_173, rfl⟩
theorem D0_174 : own_at code 174 (.goto 4) 3 177 := ⟨at_174, rfl⟩
theorem D0_177 : own_at code 177 (.iconst 4) 1 178 := ⟨at_177, rfl⟩
theorem D0_178 : own_at code 178 (.istore 15) 2 180 := ⟨at_178, rfl⟩
theorem D0_180 : own_at code 180 (.aload 14) 2 182 := ⟨at_180, rfl⟩
theorem D0_182 : own_at code 182 (.invokevirtual 22) 3 185 := ⟨at_182, rfl⟩
theorem D0_185 : own_at code 185 (.astore 16) 2 187 := ⟨at_185, rfl⟩
theorem D0_187 : own_at code 187 (.aload 16) 2 189 := ⟨at_187, rfl⟩
theorem D0_189 : own_at code 189 (.arraylength) 1 190 := ⟨at_189, rfl⟩
theorem D0_190 : own_at code 190 (.iconst 4) 1 191 := ⟨at_190, rfl⟩
theorem D0_191 : own_at code 191 (.iload 15) 2 193 := ⟨at_191, rfl⟩
theorem D0_193 : own_at code 193 (.iadd) 1 194 := ⟨at_193, rfl⟩
theorem D0_194 : own_at code 194 (.if_icmp .eq 5) 3 197 := ⟨at_194, rfl⟩
theorem D0_199 : own_at code 199 (.aload 16) 2 201 := ⟨at_199, rfl⟩
theorem D0_201 : own_at code 201 (.iconst 0) 1 202 := ⟨at_201, rfl⟩
theorem D0_202 : own_at code 202 (.baload) 1 203 := ⟨at_202, rfl⟩
theorem D0_203 : own_at code 203 (.sipush 255) 3 206 := ⟨at_203, rfl⟩
theorem D0_206 : own_at code 206 (.iand) 1 207 := ⟨at_206, rfl⟩
theorem D0_207 : own_at code 207 (.iload 10) 2 209 := ⟨at_207, rfl⟩
theorem D0_209 : own_at code 209 (.if_icmp .ne 36) 3 212 := ⟨at_209, rfl⟩
theorem D0_212 : own_at code 212 (.aload 16) 2 214 := ⟨at_212, rfl⟩
theorem D0_214 : own_at code 214 (.iconst 1) 1 215 := ⟨at_214, rfl⟩
theorem D0_215 : own_at code 215 (.baload) 1 216 := ⟨at_215, rfl⟩
theorem D0_216 : own_at code 216 (.sipush 255) 3 219 := ⟨at_216, rfl⟩
theorem D0_219 : own_at code 219 (.iand) 1 220 := ⟨at_219, rfl⟩
theorem D0_220 : own_at code 220 (.iload 11) 2 222 := ⟨at_220, rfl⟩
theorem D0_222 : own_at code 222 (.if_icmp .ne 23) 3 225 := ⟨at_222, rfl⟩
theorem D0_225 : own_at code 225 (.aload 16) 2 227 := ⟨at_225, rfl⟩
theorem D0_227 : own_at code 227 (.iconst 2) 1 228 := ⟨at_227, rfl⟩
theorem D0_228 : own_at code 228 (.baload) 1 229 := ⟨at_228, rfl⟩
theorem D0_229 : own_at code 229 (.ifCond .ne 16) 3 232 := ⟨at_229, rfl⟩
theorem D0_232 : own_at code 232 (.aload 16) 2 234 := ⟨at_232, rfl⟩
theorem D0_234 : own_at code 234 (.iconst 3) 1 235 := ⟨at_234, rfl⟩
theorem D0_235 : own_at code 235 (.baload) 1 236 := ⟨at_235, rfl⟩
theorem D0_236 : own_at code 236 (.sipush 255) 3 239 := ⟨at_236, rfl⟩
theorem D0_239 : own_at code 239 (.iand) 1 240 := ⟨at_239, rfl⟩
theorem D0_240 : own_at code 240 (.iload 15) 2 242 := ⟨at_240, rfl⟩
theorem D0_242 : own_at code 242 (.if_icmp .eq 5) 3 245 := ⟨at_242, rfl⟩
theorem D0_247 : own_at code 247 (.iload 7) 2 249 := ⟨at_247, rfl⟩
theorem D0_249 : own_at code 249 (.iconst 1) 1 250 := ⟨at_249, rfl⟩
theorem D0_250 : own_at code 250 (.if_icmp .lt 21) 3 253 := ⟨at_250, rfl⟩
theorem D0_253 : own_at code 253 (.aload 16) 2 255 := ⟨at_253, rfl⟩
theorem D0_255 : own_at code 255 (.iconst 4) 1 256 := ⟨at_255, rfl⟩
theorem D0_256 : own_at code 256 (.baload) 1 257 := ⟨at_256, rfl⟩
theorem D0_257 : own_at code 257 (.sipush 255) 3 260 := ⟨at_257, rfl⟩
theorem D0_260 : own_at code 260 (.iand) 1 261 := ⟨at_260, rfl⟩
theorem D0_261 : own_at code 261 (.iload_n 1) 1 262 := ⟨at_261, rfl⟩
theorem D0_262 : own_at code 262 (.sipush 255) 3 265 := ⟨at_262, rfl⟩
theorem D0_265 : own_at code 265 (.iand) 1 266 := ⟨at_265, rfl⟩
theorem D0_266 : own_at code 266 (.if_icmp .eq 5) 3 269 := ⟨at_266, rfl⟩
theorem D0_271 : own_at code 271 (.iload 7) 2 273 := ⟨at_271, rfl⟩
theorem D0_273 : own_at code 273 (.iconst 2) 1 274 := ⟨at_273, rfl⟩
theorem D0_274 : own_at code 274 (.if_icmp .lt 21) 3 277 := ⟨at_274, rfl⟩
theorem D0_277 : own_at code 277 (.aload 16) 2 279 := ⟨at_277, rfl⟩
theorem D0_279 : own_at code 279 (.iconst 5) 1 280 := ⟨at_279, rfl⟩
theorem D0_280 : own_at code 280 (.baload) 1 281 := ⟨at_280, rfl⟩
theorem D0_281 : own_at code 281 (.sipush 255) 3 284 := ⟨at_281, rfl⟩
theorem D0_284 : own_at code 284 (.iand) 1 285 := ⟨at_284, rfl⟩
theorem D0_285 : own_at code 285 (.iload_n 2) 1 286 := ⟨at_285, rfl⟩
theorem D0_286 : own_at code 286 (.sipush 255) 3 289 := ⟨at_286, rfl⟩
theorem D0_289 : own_at code 289 (.iand) 1 290 := ⟨at_289, rfl⟩
theorem D0_290 : own_at code 290 (.if_icmp .eq 5) 3 293 := ⟨at_290, rfl⟩
theorem D0_295 : own_at code 295 (.iload 7) 2 297 := ⟨at_295, rfl⟩
theorem D0_297 : own_at code 297 (.iconst 3) 1 298 := ⟨at_297, rfl⟩
theorem D0_298 : own_at code 298 (.if_icmp .lt 41) 3 301 := ⟨at_298, rfl⟩
theorem D0_301 : own_at code 301 (.aload 16) 2 303 := ⟨at_301, rfl⟩
theorem D0_303 : own_at code 303 (.bipush 6) 2 305 := ⟨at_303, rfl⟩
theorem D0_305 : own_at code 305 (.baload) 1 306 := ⟨at_305, rfl⟩
theorem D0_306 : own_at code 306 (.sipush 255) 3 309 := ⟨at_306, rfl⟩
theorem D0_309 : own_at code 309 (.iand) 1 310 := ⟨at_309, rfl⟩
theorem D0_310 : own_at code 310 (.iload 13) 2 312 := ⟨at_310, rfl⟩
theorem D0_312 : own_at code 312 (.sipush 256) 3 315 := ⟨at_312, rfl⟩
theorem D0_315 : own_at code 315 (.idiv) 1 316 := ⟨at_315, rfl⟩
theorem D0_316 : own_at code 316 (.if_icmp .ne 21) 3 319 := ⟨at_316, rfl⟩
theorem D0_319 : own_at code 319 (.aload 16) 2 321 := ⟨at_319, rfl⟩
theorem D0_321 : own_at code 321 (.bipush 7) 2 323 := ⟨at_321, rfl⟩
theorem D0_323 : own_at code 323 (.baload) 1 324 := ⟨at_323, rfl⟩
theorem D0_324 : own_at code 324 (.sipush 255) 3 327 := ⟨at_324, rfl⟩
theorem D0_327 : own_at code 327 (.iand) 1 328 := ⟨at_327, rfl⟩
theorem D0_328 : own_at code 328 (.iload 13) 2 330 := ⟨at_328, rfl⟩
theorem D0_330 : own_at code 330 (.sipush 256) 3 333 := ⟨at_330, rfl⟩
theorem D0_333 : own_at code 333 (.irem) 1 334 := ⟨at_333, rfl⟩
theorem D0_334 : own_at code 334 (.if_icmp .eq 5) 3 337 := ⟨at_334, rfl⟩
theorem D0_339 : own_at code 339 (.iload 8) 2 341 := ⟨at_339, rfl⟩
theorem D0_341 : own_at code 341 (.ifCond .eq 11) 3 344 := ⟨at_341, rfl⟩
theorem D0_344 : own_at code 344 (.aload 14) 2 346 := ⟨at_344, rfl⟩
theorem D0_346 : own_at code 346 (.iload 5) 2 348 := ⟨at_346, rfl⟩
theorem D0_348 : own_at code 348 (.invokevirtual 15) 3 351 := ⟨at_348, rfl⟩
theorem D0_351 : own_at code 351 (.pop) 1 352 := ⟨at_351, rfl⟩
theorem D0_352 : own_at code 352 (.aload 14) 2 354 := ⟨at_352, rfl⟩
theorem D0_354 : own_at code 354 (.invokevirtual 22) 3 357 := ⟨at_354, rfl⟩
theorem D0_357 : own_at code 357 (.astore 17) 2 359 := ⟨at_357, rfl⟩
theorem D0_359 : own_at code 359 (.iload 8) 2 361 := ⟨at_359, rfl⟩
theorem D0_361 : own_at code 361 (.ifCond .eq 7) 3 364 := ⟨at_361, rfl⟩
theorem D0_364 : own_at code 364 (.iconst 1) 1 365 := ⟨at_364, rfl⟩
theorem D0_365 : own_at code 365 (.goto 4) 3 368 := ⟨at_365, rfl⟩
theorem D0_368 : own_at code 368 (.iconst 0) 1 369 := ⟨at_368, rfl⟩
theorem D0_369 : own_at code 369 (.istore 18) 2 371 := ⟨at_369, rfl⟩
theorem D0_371 : own_at code 371 (.aload 17) 2 373 := ⟨at_371, rfl⟩
theorem D0_373 : own_at code 373 (.arraylength) 1 374 := ⟨at_373, rfl⟩
theorem D0_374 : own_at code 374 (.iconst 4) 1 375 := ⟨at_374, rfl⟩
theorem D0_375 : own_at code 375 (.iload 18) 2 377 := ⟨at_375, rfl⟩
theorem D0_377 : own_at code 377 (.iadd) 1 378 := ⟨at_377, rfl⟩
theorem D0_378 : own_at code 378 (.if_icmp .eq 5) 3 381 := ⟨at_378, rfl⟩
theorem D0_383 : own_at code 383 (.aload 17) 2 385 := ⟨at_383, rfl⟩
theorem D0_385 : own_at code 385 (.iconst 0) 1 386 := ⟨at_385, rfl⟩
theorem D0_386 : own_at code 386 (.baload) 1 387 := ⟨at_386, rfl⟩
theorem D0_387 : own_at code 387 (.sipush 255) 3 390 := ⟨at_387, rfl⟩
theorem D0_390 : own_at code 390 (.iand) 1 391 := ⟨at_390, rfl⟩
theorem D0_391 : own_at code 391 (.iload 10) 2 393 := ⟨at_391, rfl⟩
theorem D0_393 : own_at code 393 (.if_icmp .ne 36) 3 396 := ⟨at_393, rfl⟩
theorem D0_396 : own_at code 396 (.aload 17) 2 398 := ⟨at_396, rfl⟩
theorem D0_398 : own_at code 398 (.iconst 1) 1 399 := ⟨at_398, rfl⟩
theorem D0_399 : own_at code 399 (.baload) 1 400 := ⟨at_399, rfl⟩
theorem D0_400 : own_at code 400 (.sipush 255) 3 403 := ⟨at_400, rfl⟩
theorem D0_403 : own_at code 403 (.iand) 1 404 := ⟨at_403, rfl⟩
theorem D0_404 : own_at code 404 (.iload 11) 2 406 := ⟨at_404, rfl⟩
theorem D0_406 : own_at code 406 (.if_icmp .ne 23) 3 409 := ⟨at_406, rfl⟩
theorem D0_409 : own_at code 409 (.aload 17) 2 411 := ⟨at_409, rfl⟩
theorem D0_411 : own_at code 411 (.iconst 2) 1 412 := ⟨at_411, rfl⟩
theorem D0_412 : own_at code 412 (.baload) 1 413 := ⟨at_412, rfl⟩
theorem D0_413 : own_at code 413 (.ifCond .ne 16) 3 416 := ⟨at_413, rfl⟩
theorem D0_416 : own_at code 416 (.aload 17) 2 418 := ⟨at_416, rfl⟩
theorem D0_418 : own_at code 418 (.iconst 3) 1 419 := ⟨at_418, rfl⟩
theorem D0_419 : own_at code 419 (.baload) 1 420 := ⟨at_419, rfl⟩
theorem D0_420 : own_at code 420 (.sipush 255) 3 423 := ⟨at_420, rfl⟩
theorem D0_423 : own_at code 423 (.iand) 1 424 := ⟨at_423, rfl⟩
theorem D0_424 : own_at code 424 (.iload 18) 2 426 := ⟨at_424, rfl⟩
theorem D0_426 : own_at code 426 (.if_icmp .eq 5) 3 429 := ⟨at_426, rfl⟩
theorem D0_431 : own_at code 431 (.iload 8) 2 433 := ⟨at_431, rfl⟩
theorem D0_433 : own_at code 433 (.ifCond .eq 22) 3 436 := ⟨at_433, rfl⟩
theorem D0_436 : own_at code 436 (.aload 17) 2 438 := ⟨at_436, rfl⟩
theorem D0_438 : own_at code 438 (.iconst 4) 1 439 := ⟨at_438, rfl⟩
theorem D0_439 : own_at code 439 (.baload) 1 440 := ⟨at_439, rfl⟩
theorem D0_440 : own_at code 440 (.sipush 255) 3 443 := ⟨at_440, rfl⟩
theorem D0_443 : own_at code 443 (.iand) 1 444 := ⟨at_443, rfl⟩
theorem D0_444 : own_at code 444 (.iload 5) 2 446 := ⟨at_444, rfl⟩
theorem D0_446 : own_at code 446 (.sipush 255) 3 449 := ⟨at_446, rfl⟩
theorem D0_449 : own_at code 449 (.iand) 1 450 := ⟨at_449, rfl⟩
theorem D0_450 : own_at code 450 (.if_icmp .eq 5) 3 453 := ⟨at_450, rfl⟩
theorem D0_455 : own_at code 455 (.iconst 1) 1 456 := ⟨at_455, rfl⟩
theorem D0_456 : own_at code 456 (.ireturn) 1 457 := ⟨at_456, rfl⟩
theorem pn_com_example_jetway_jetway_ajp_PacketWriterToByteArrayPinLaw : plainName "com/example/jetway/jetway/ajp/PacketWriterToByteArrayPinLaw" = true := by first | (simp [plainName, overriddenIn]; done) | decide +kernel
theorem ef_rm0 (m : MethodId) (p0 : Int32) (p1 : Int32) (p2 : Int32) (p3 : Int32) (p4 : Int32) (p5 : Int32) : entryFrame m #[(.int p0), (.int p1), (.int p2), (.int p3), (.int p4), (.int p5)] maxLocals = mkF m 0 #[.val (.int p0), .val (.int p1), .val (.int p2), .val (.int p3), .val (.int p4), .val (.int p5), .unset, .unset, .unset, .unset, .unset, .unset, .unset, .unset, .unset, .unset, .unset, .unset, .unset] [] := by first | (simp [entryFrame, mkF, argsToLocals, Value.category, maxLocals]; done) | rfl
set_option maxRecDepth 65536 in
set_option maxHeartbeats 40000000 in
theorem rm0 (l : Launch) (Z : State) (a0 : Array Value) (hw : ∀ d ∈ tables_1, d.before a0 Z = true) (ws : List Jvm.Cond) (p0 : Int32) (p1 : Int32) (p2 : Int32) (p3 : Int32) (p4 : Int32) (p5 : Int32)  (h0 : Heap) (n0 : Nat) (Z0 : n0 ≤ h0.size)  :
    MetFree l x (head1 (Jvm.Cond.code x code maxLocals ret :: ws) room_1) (fun a U => a = #[(.int p0), (.int p1), (.int p2), (.int p3), (.int p4), (.int p5)] ∧ Z.Warmed39 U.vm ∧ U.heap = h0) (fun _ _ _ _ _ => True) (fun _ U o U' => ∃ v L, o = .returned v ∧ own_Q0 n0 v U'.heap L ∧ FrameEnd U o U' L room_1.cells room_1.slots) := by
  refine MetFree.of_bodySF (plainFor_of_name pn_com_example_jetway_jetway_ajp_PacketWriterToByteArrayPinLaw) hisR ?_
  intro p e s m args below meth c s₁ Bd hml0 hP hK
  obtain ⟨rfl, hZ, hh⟩ := hP
  have hx := Bd.exec
  have hby := Bd.bytes
  have hml : c.maxLocals = 19 := hml0
  have hown : s.vm.findClass "com/example/jetway/jetway/ajp/PacketWriterToByteArrayPinLaw" = some m.cls := findClass_of_methodNamed Bd.named
  have hnm := (name_of_methodNamed Bd.named Bd.method).1
  have X0 : Stand p l e room_1 s m #[(.int p0), (.int p1), (.int p2), (.int p3), (.int p4), (.int p5)] below meth c s₁ [] 0 0 := Stand.of_body Bd
  have e0 : s₁.heap = h0 := by rw [← hh, Bd.state]; rfl
  have N0 := Fr.nil n0
  refine own_start (ef_rm0 m p0 p1 p2 p3 p4 p5) ?_
  have cut95 : ∀ (fr nn sc mg m0 m1 P cv : Int32), own_hP P → (0 ≤ cv.toInt ∧ cv.toInt < 65536) → own_mag mg m0 m1 → (nn = 0 ∨ nn = 1 ∨ nn = 2 ∨ nn = 3) → (sc = 1 ∨ sc = 0) → own_Fin p.tables e below (own_R s below (own_Q0 n0) room_1.cells room_1.slots) (s₁.setTop (mkF m 95 #[.val (.int p0), .val (.int p1), .val (.int p2), .val (.int p3), .val (.int p4), .val (.int p5), .val (.int fr), .val (.int nn), .val (.int sc), .val (.int mg), .val (.int m0), .val (.int m1), .val (.int P), .val (.int cv), .unset, .unset, .unset, .unset, .unset] [])) := by
    intro fr nn sc mg m0 m1 P cv hP hcv' hmg hnn hsc
    obtain ⟨T1, h1, X1, e1, E1, A1, D1, -, st1⟩ := newO X0 hx hZ hown (own_wd hw (i := 1) rfl) (own_wd hw (i := 2) rfl) (own_wd hw (i := 3) rfl) e0 (g := (mkF m 95 #[.val (.int p0), .val (.int p1), .val (.int p2), .val (.int p3), .val (.int p4), .val (.int p5), .val (.int fr), .val (.int nn), .val (.int sc), .val (.int mg), .val (.int m0), .val (.int m1), .val (.int P), .val (.int cv), .unset, .unset, .unset, .unset, .unset] [])) rfl (hb hby D0_95.1) (by decide) (by decide)
    obtain ⟨a1, g1⟩ : ∃ z : Nat, z = h0.size := ⟨_, rfl⟩
    rw [← g1] at A1 D1 st1
    have sz1 := own_leN E1.1
    have gn_a1 : n0 ≤ a1 := by omega
    have lt_a1 := own_ltN A1.lt
    have F_position_a1 : Fld Z h1 a1 "com/example/jetway/jetway/ajp/PacketWriter" "position" "I" (.int (0 : Int32)) := D1 (Or.inl (own_wd hw (i := 11) rfl)) (ty := .int) (by decide)
    have F_magic_a1 : Fld Z h1 a1 "com/example/jetway/jetway/ajp/PacketWriter" "magic" "I" (.int (0 : Int32)) := D1 (Or.inr (own_wd hw (i := 13) rfl)) (ty := .int) (by decide)
    have F_packetSize_a1 : Fld Z h1 a1 "com/example/jetway/jetway/ajp/PacketWriter" "packetSize" "I" (.int (0 : Int32)) := D1 (Or.inr (own_wd hw (i := 15) rfl)) (ty := .int) (by decide)
    have F_buffer_a1 : Fld Z h1 a1 "com/example/jetway/jetway/ajp/PacketWriter" "buffer" "[B" .null := D1 (Or.inl (own_wd hw (i := 22) rfl)) (ty := (.array .byte)) (by decide)
    refine own_pre (A' := T1.setTop (mkF m 98 #[.val (.int p0), .val (.int p1), .val (.int p2), .val (.int p3), .val (.int p4), .val (.int p5), .val (.int fr), .val (.int nn), .val (.int sc), .val (.int mg), .val (.int m0), .val (.int m1), .val (.int P), .val (.int cv), .unset, .unset, .unset, .unset, .unset] [(.ref a1)])) st1 ?_
    refine o_dup X1 hx hby D0_98 rfl ?_
    refine o_iload X1 hx hby D0_99 rfl ?_
    refine o_iload X1 hx hby D0_101 rfl ?_
    obtain ⟨_, _, ⟨T2, L2, k2, n2⟩, -, X2, ⟨Lc2, hQ2, l2, y2, z2⟩, st2⟩ := X1.specialBack hx (y := (⟨"com/example/jetway/jetway/ajp/PacketWriter", "<init>", "(II)V"⟩ : MethodName)) rfl hown (mvT hZ (own_wd hw (i := 4) rfl)) (mvT hZ (own_wd hw (i := 5) rfl)) (mvT hZ (own_wd hw (i := 6) rfl)) (by decide) (backOf (W := 1) (rmI l Z a0 hw [] a1 mg P _ _ _ _ h1 n0 (own_leN (by omega)) gn_a1 hP A1 F_position_a1 F_magic_a1 F_packetSize_a1 F_buffer_a1) hZ (own_wd hw (i := 6) rfl) (own_wd hw (i := 3) rfl) (by decide) (by decide)) (g := (mkF m 103 #[.val (.int p0), .val (.int p1), .val (.int p2), .val (.int p3), .val (.int p4), .val (.int p5), .val (.int fr), .val (.int nn), .val (.int sc), .val (.int mg), .val (.int m0), .val (.int m1), .val (.int P), .val (.int cv), .unset, .unset, .unset, .unset, .unset] [(.int P), (.int mg), (.ref a1), (.ref a1)])) rfl (by rw [hml]; rfl) (Steps.refl _) (a := a1) (argsL := [(.int mg), (.int P)]) (rest := [(.ref a1)]) (lenOf pd__40II_41V rfl) rfl (by show 2 * 0 + _ ≤ _; exact Nat.le_of_eq rfl) (hb hby D0_103.1) (fun _ _ => ⟨rfl, e1, (by decide : 1 + 1 ≤ _), (by decide : 4 + 263 ≤ _)⟩)
    dsimp only [Pt.U, Pt.locs, Pt.cells, Pt.slots] at X2 l2 y2 z2 st2 hQ2
    subst l2 y2 z2
    obtain ⟨bf, kb, rfl, N2q, K2, ge2, E_2, Fm_2, Fp_2, Fb_2, Fo_2, Vb_2, Eb_2⟩ := hQ2
    have sz2 := own_leN K2.1
    have ge2' := own_leN ge2
    have lt_bf := own_ltN Vb_2.lt
    have gn_bf : n0 ≤ bf := own_leN (by omega)
    have nab : @LT.lt Nat instLTNat a1 bf := by omega
    have N2 := Fr.app N0 N2q
    refine own_pre (A' := T2.setTop (mkF m 106 #[.val (.int p0), .val (.int p1), .val (.int p2), .val (.int p3), .val (.int p4), .val (.int p5), .val (.int fr), .val (.int nn), .val (.int sc), .val (.int mg), .val (.int m0), .val (.int m1), .val (.int P), .val (.int cv), .unset, .unset, .unset, .unset, .unset] [(.ref a1)])) (fun t k => st2.trans k) ?_
    refine o_astore X2 hx hby D0_106 rfl (l' := #[.val (.int p0), .val (.int p1), .val (.int p2), .val (.int p3), .val (.int p4), .val (.int p5), .val (.int fr), .val (.int nn), .val (.int sc), .val (.int mg), .val (.int m0), .val (.int m1), .val (.int P), .val (.int cv), .val (.ref a1), .unset, .unset, .unset, .unset]) rfl ?_
    rcases hnn with rfl | rfl | rfl | rfl
    · skip
      refine o_iload X2 hx hby D0_108 rfl ?_
      refine o_iconst X2 hx hby D0_110 (v := 1) rfl ?_
      refine o_icmpY X2 hx hby D0_111 (tlt (by decide : (0 : Int32) < (1 : Int32))).1 (q := 121) (by decide) (by decide) ?_
      refine o_iload X2 hx hby D0_121 rfl ?_
      refine o_iconst X2 hx hby D0_123 (v := 2) rfl ?_
      refine o_icmpY X2 hx hby D0_124 (tlt (by decide : (0 : Int32) < (2 : Int32))).1 (q := 134) (by decide) (by decide) ?_
      refine o_iload X2 hx hby D0_134 rfl ?_
      refine o_iconst X2 hx hby D0_136 (v := 3) rfl ?_
      refine o_icmpY X2 hx hby D0_137 (tlt (by decide : (0 : Int32) < (3 : Int32))).1 (q := 148) (by decide) (by decide) ?_
      refine o_iload X2 hx hby D0_148 rfl ?_
      refine o_ifN X2 hx hby D0_150 ((if0 _ _).trans (teq (by decide : (0 : Int32) = (0 : Int32))).2) ?_
      refine o_iconst X2 hx hby D0_153 (v := 0) rfl ?_
      refine o_goto X2 hx hby D0_154 (q := 178) (by decide) (by decide) ?_
      refine o_istore X2 hx hby D0_178 (l' := #[.val (.int p0), .val (.int p1), .val (.int p2), .val (.int p3), .val (.int p4), .val (.int p5), .val (.int fr), .val (.int (0 : Int32)), .val (.int sc), .val (.int mg), .val (.int m0), .val (.int m1), .val (.int P), .val (.int cv), .val (.ref a1), .val (.int (0 : Int32)), .unset, .unset, .unset]) rfl ?_
      refine o_aload X2 hx hby D0_180 rfl rfl ?_
      obtain ⟨cq3, kq3, q3a, q3b, q3c⟩ := isOf hZ rfl E_2
      obtain ⟨_, _, ⟨T3, L3, k3, n3⟩, -, X3, ⟨Lc3, hQ3, l3, y3, z3⟩, st3⟩ := X2.virtualBack hx (y := (⟨"com/example/jetway/jetway/ajp/PacketWriter", "toByteArray", "()[B"⟩ : MethodName)) (z := (⟨"com/example/jetway/jetway/ajp/PacketWriter", "toByteArray", "()[B"⟩ : MethodName)) hown (mvT hZ (own_wd hw (i := 23) rfl)) (mvT hZ (own_wd hw (i := 24) rfl)) (notFace_of_selects (args := #[]) (mvT hZ (own_wd hw (i := 26) rfl))) (mvT hZ (own_wd hw (i := 26) rfl)) (mvT hZ (own_wd hw (i := 25) rfl)) (by decide) (backOf (W := 0) (rmT4 l Z a0 hw [] a1 bf kb mg P (.int (0 : Int32)) (.int (0 : Int32)) (.int (0 : Int32)) (.int (0 : Int32)) (.int (0 : Int32)) (.int (0 : Int32)) (.int (0 : Int32)) (.int (0 : Int32)) T2.heap n0 (own_leN (by omega)) ⟨E_2, Fm_2, Fp_2, Fb_2, Fo_2, Vb_2, Eb_2⟩ gn_a1 gn_bf nab hP) hZ (own_wd hw (i := 27) rfl) (own_wd hw (i := 3) rfl) (by decide) (by decide)) q3a q3c (g := (mkF m 182 #[.val (.int p0), .val (.int p1), .val (.int p2), .val (.int p3), .val (.int p4), .val (.int p5), .val (.int fr), .val (.int (0 : Int32)), .val (.int sc), .val (.int mg), .val (.int m0), .val (.int m1), .val (.int P), .val (.int cv), .val (.ref a1), .val (.int (0 : Int32)), .unset, .unset, .unset] [(.ref a1)])) rfl (by rw [hml]; rfl) (Steps.refl _) (argsL := []) (rest := []) (lenOf pd__40_41_91B rfl) rfl (by show 2 * 0 + _ ≤ _; exact Nat.le_of_eq rfl) (hb hby D0_182.1) (fun _ _ => ⟨rfl, rfl, (by decide : 2 + 1 ≤ _), (by decide : 267 + 4 ≤ _)⟩)
      dsimp only [Pt.U, Pt.locs, Pt.cells, Pt.slots] at X3 l3 y3 z3 st3 hQ3
      subst l3 y3 z3
      obtain ⟨r3, kr3, rfl, N3q, K3, ge3, Vr3, E_3, Fm_3, Fp_3, Fb_3, Fo_3, Vb_3, Eb_3⟩ := hQ3
      have sz3 := own_leN K3.1
      have ge3' := own_leN ge3
      have lt_r3 := own_ltN Vr3.lt
      have N3 := Fr.app N2 N3q
      refine own_pre (A' := T3.setTop (mkF m 185 #[.val (.int p0), .val (.int p1), .val (.int p2), .val (.int p3), .val (.int p4), .val (.int p5), .val (.int fr), .val (.int (0 : Int32)), .val (.int sc), .val (.int mg), .val (.int m0), .val (.int m1), .val (.int P), .val (.int cv), .val (.ref a1), .val (.int (0 : Int32)), .unset, .unset, .unset] [(.ref r3)])) (fun t k => st3.trans k) ?_
      refine o_astore X3 hx hby D0_185 rfl (l' := #[.val (.int p0), .val (.int p1), .val (.int p2), .val (.int p3), .val (.int p4), .val (.int p5), .val (.int fr), .val (.int (0 : Int32)), .val (.int sc), .val (.int mg), .val (.int m0), .val (.int m1), .val (.int P), .val (.int cv), .val (.ref a1), .val (.int (0 : Int32)), .val (.ref r3), .unset, .unset]) rfl ?_
      refine o_aload X3 hx hby D0_187 rfl rfl ?_
      obtain ⟨cl_r3_4, Ar_r3_4, q_r3_4, S_r3_4, N_r3_4, H_r3_4, G_r3_4⟩ := id Vr3
      refine own_pre (A' := T3.setTop (mkF m 190 #[.val (.int p0), .val (.int p1), .val (.int p2), .val (.int p3), .val (.int p4), .val (.int p5), .val (.int fr), .val (.int (0 : Int32)), .val (.int sc), .val (.int mg), .val (.int m0), .val (.int m1), .val (.int P), .val (.int cv), .val (.ref a1), .val (.int (0 : Int32)), .val (.ref r3), .unset, .unset] [(.int (4 : Int32))])) (fun t k => X3.arraylength hx Ar_r3_4.1 (State.isArrayOf_alike hZ.alike Ar_r3_4.2.1) (g := (mkF m 189 #[.val (.int p0), .val (.int p1), .val (.int p2), .val (.int p3), .val (.int p4), .val (.int p5), .val (.int fr), .val (.int (0 : Int32)), .val (.int sc), .val (.int mg), .val (.int m0), .val (.int m1), .val (.int P), .val (.int cv), .val (.ref a1), .val (.int (0 : Int32)), .val (.ref r3), .unset, .unset] [(.ref r3)])) rfl rfl (hb hby D0_189.1) _ (by rw [len_of S_r3_4 N_r3_4]; exact k)) ?_
      refine o_iconst X3 hx hby D0_190 (v := 4) rfl ?_
      refine o_iload X3 hx hby D0_191 rfl ?_
      refine o_iadd X3 hx hby D0_193 ?_
      refine o_icmpY X3 hx hby D0_194 (teq (by decide : (4 : Int32) = ((4 : Int32) + (0 : Int32)))).1 (q := 199) (by decide) (by decide) ?_
      refine o_aload X3 hx hby D0_199 rfl rfl ?_
      refine o_iconst X3 hx hby D0_201 (v := 0) rfl ?_
      obtain ⟨cl_r3_5, Ar_r3_5, q_r3_5, S_r3_5, N_r3_5, H_r3_5, G_r3_5⟩ := id Vr3
      have hin_r3_5 : ¬ ((0 : Int32) < 0 ∨ cl_r3_5.slots.size ≤ ((0 : Int32)).toNatClampNeg) := inb_of S_r3_5 ⟨by decide, by decide⟩
      have hat_r3_5 : cl_r3_5.slots[((0 : Int32)).toNatClampNeg]? = some (.int (nar .byte ((((mg.toUInt32 >>> ((8 : Int32) &&& 31).toUInt32).toInt32)).toInt8.toInt32))) := H_r3_5.at hin_r3_5 (rfl)
      refine own_pre (A' := T3.setTop (mkF m 203 #[.val (.int p0), .val (.int p1), .val (.int p2), .val (.int p3), .val (.int p4), .val (.int p5), .val (.int fr), .val (.int (0 : Int32)), .val (.int sc), .val (.int mg), .val (.int m0), .val (.int m1), .val (.int P), .val (.int cv), .val (.ref a1), .val (.int (0 : Int32)), .val (.ref r3), .unset, .unset] [(.int (nar .byte ((((mg.toUInt32 >>> ((8 : Int32) &&& 31).toUInt32).toInt32)).toInt8.toInt32)))])) (fun t k => X3.baloadBytes hx (j := (0 : Int32)) (v := (.int (nar .byte ((((mg.toUInt32 >>> ((8 : Int32) &&& 31).toUInt32).toInt32)).toInt8.toInt32)))) Ar_r3_5.1 (State.isArrayOf_alike hZ.alike Ar_r3_5.2.1) Ar_r3_5.2.2 hin_r3_5 hat_r3_5 (g := (mkF m 202 #[.val (.int p0), .val (.int p1), .val (.int p2), .val (.int p3), .val (.int p4), .val (.int p5), .val (.int fr), .val (.int (0 : Int32)), .val (.int sc), .val (.int mg), .val (.int m0), .val (.int m1), .val (.int P), .val (.int cv), .val (.ref a1), .val (.int (0 : Int32)), .val (.ref r3), .unset, .unset] [(.int (0 : Int32)), (.ref r3)])) rfl rfl (hb hby D0_202.1) _ k) ?_
      refine o_sipush X3 hx hby D0_203 (v := 255) rfl ?_
      refine o_iand X3 hx hby D0_206 ?_
      refine o_iload X3 hx hby D0_207 rfl ?_
      refine o_icmpN X3 hx hby D0_209 (teq (hmg.1 : ((nar .byte ((((mg.toUInt32 >>> ((8 : Int32) &&& 31).toUInt32).toInt32)).toInt8.toInt32)) &&& (255 : Int32)) = m0)).2 ?_
      refine o_aload X3 hx hby D0_212 rfl rfl ?_
      refine o_iconst X3 hx hby D0_214 (v := 1) rfl ?_
      obtain ⟨cl_r3_6, Ar_r3_6, q_r3_6, S_r3_6, N_r3_6, H_r3_6, G_r3_6⟩ := id Vr3
      have hin_r3_6 : ¬ ((1 : Int32) < 0 ∨ cl_r3_6.slots.size ≤ ((1 : Int32)).toNatClampNeg) := inb_of S_r3_6 ⟨by decide, by decide⟩
      have hat_r3_6 : cl_r3_6.slots[((1 : Int32)).toNatClampNeg]? = some (.int (nar .byte ((mg).toInt8.toInt32))) := H_r3_6.at hin_r3_6 (rfl)
      refine own_pre (A' := T3.setTop (mkF m 216 #[.val (.int p0), .val (.int p1), .val (.int p2), .val (.int p3), .val (.int p4), .val (.int p5), .val (.int fr), .val (.int (0 : Int32)), .val (.int sc), .val (.int mg), .val (.int m0), .val (.int m1), .val (.int P), .val (.int cv), .val (.ref a1), .val (.int (0 : Int32)), .val (.ref r3), .unset, .unset] [(.int (nar .byte ((mg).toInt8.toInt32)))])) (fun t k => X3.baloadBytes hx (j := (1 : Int32)) (v := (.int (nar .byte ((mg).toInt8.toInt32)))) Ar_r3_6.1 (State.isArrayOf_alike hZ.alike Ar_r3_6.2.1) Ar_r3_6.2.2 hin_r3_6 hat_r3_6 (g := (mkF m 215 #[.val (.int p0), .val (.int p1), .val (.int p2), .val (.int p3), .val (.int p4), .val (.int p5), .val (.int fr), .val (.int (0 : Int32)), .val (.int sc), .val (.int mg), .val (.int m0), .val (.int m1), .val (.int P), .val (.int cv), .val (.ref a1), .val (.int (0 : Int32)), .val (.ref r3), .unset, .unset] [(.int (1 : Int32)), (.ref r3)])) rfl rfl (hb hby D0_215.1) _ k) ?_
      refine o_sipush X3 hx hby D0_216 (v := 255) rfl ?_
      refine o_iand X3 hx hby D0_219 ?_
      refine o_iload X3 hx hby D0_220 rfl ?_
      refine o_icmpN X3 hx hby D0_222 (teq (hmg.2 : ((nar .byte ((mg).toInt8.toInt32)) &&& (255 : Int32)) = m1)).2 ?_
      refine o_aload X3 hx hby D0_225 rfl rfl ?_
      refine o_iconst X3 hx hby D0_227 (v := 2) rfl ?_
      obtain ⟨cl_r3_7, Ar_r3_7, q_r3_7, S_r3_7, N_r3_7, H_r3_7, G_r3_7⟩ := id Vr3
      have hin_r3_7 : ¬ ((2 : Int32) < 0 ∨ cl_r3_7.slots.size ≤ ((2 : Int32)).toNatClampNeg) := inb_of S_r3_7 ⟨by decide, by decide⟩
      have hat_r3_7 : cl_r3_7.slots[((2 : Int32)).toNatClampNeg]? = some (.int (nar .byte ((((((4 : Int32) - (4 : Int32)).toUInt32 >>> ((8 : Int32) &&& 31).toUInt32).toInt32)).toInt8.toInt32))) := H_r3_7.at hin_r3_7 (rfl)
      refine own_pre (A' := T3.setTop (mkF m 229 #[.val (.int p0), .val (.int p1), .val (.int p2), .val (.int p3), .val (.int p4), .val (.int p5), .val (.int fr), .val (.int (0 : Int32)), .val (.int sc), .val (.int mg), .val (.int m0), .val (.int m1), .val (.int P), .val (.int cv), .val (.ref a1), .val (.int (0 : Int32)), .val (.ref r3), .unset, .unset] [(.int (nar .byte ((((((4 : Int32) - (4 : Int32)).toUInt32 >>> ((8 : Int32) &&& 31).toUInt32).toInt32)).toInt8.toInt32)))])) (fun t k => X3.baloadBytes hx (j := (2 : Int32)) (v := (.int (nar .byte ((((((4 : Int32) - (4 : Int32)).toUInt32 >>> ((8 : Int32) &&& 31).toUInt32).toInt32)).toInt8.toInt32)))) Ar_r3_7.1 (State.isArrayOf_alike hZ.alike Ar_r3_7.2.1) Ar_r3_7.2.2 hin_r3_7 hat_r3_7 (g := (mkF m 228 #[.val (.int p0), .val (.int p1), .val (.int p2), .val (.int p3), .val (.int p4), .val (.int p5), .val (.int fr), .val (.int (0 : Int32)), .val (.int sc), .val (.int mg), .val (.int m0), .val (.int m1), .val (.int P), .val (.int cv), .val (.ref a1), .val (.int (0 : Int32)), .val (.ref r3), .unset, .unset] [(.int (2 : Int32)), (.ref r3)])) rfl rfl (hb hby D0_228.1) _ k) ?_
      refine o_ifN X3 hx hby D0_229 ((if0 _ _).trans (teq (by decide : (nar .byte ((((((4 : Int32) - (4 : Int32)).toUInt32 >>> ((8 : Int32) &&& 31).toUInt32).toInt32)).toInt8.toInt32)) = (0 : Int32))).2) ?_
      refine o_aload X3 hx hby D0_232 rfl rfl ?_
      refine o_iconst X3 hx hby D0_234 (v := 3) rfl ?_
      obtain ⟨cl_r3_8, Ar_r3_8, q_r3_8, S_r3_8, N_r3_8, H_r3_8, G_r3_8⟩ := id Vr3
      have hin_r3_8 : ¬ ((3 : Int32) < 0 ∨ cl_r3_8.slots.size ≤ ((3 : Int32)).toNatClampNeg) := inb_of S_r3_8 ⟨by decide, by decide⟩
      have hat_r3_8 : cl_r3_8.slots[((3 : Int32)).toNatClampNeg]? = some (.int (nar .byte ((((4 : Int32) - (4 : Int32))).toInt8.toInt32))) := H_r3_8.at hin_r3_8 (rfl)
      refine own_pre (A' := T3.setTop (mkF m 236 #[.val (.int p0), .val (.int p1), .val (.int p2), .val (.int p3), .val (.int p4), .val (.int p5), .val (.int fr), .val (.int (0 : Int32)), .val (.int sc), .val (.int mg), .val (.int m0), .val (.int m1), .val (.int P), .val (.int cv), .val (.ref a1), .val (.int (0 : Int32)), .val (.ref r3), .unset, .unset] [(.int (nar .byte ((((4 : Int32) - (4 : Int32))).toInt8.toInt32)))])) (fun t k => X3.baloadBytes hx (j := (3 : Int32)) (v := (.int (nar .byte ((((4 : Int32) - (4 : Int32))).toInt8.toInt32)))) Ar_r3_8.1 (State.isArrayOf_alike hZ.alike Ar_r3_8.2.1) Ar_r3_8.2.2 hin_r3_8 hat_r3_8 (g := (mkF m 235 #[.val (.int p0), .val (.int p1), .val (.int p2), .val (.int p3), .val (.int p4), .val (.int p5), .val (.int fr), .val (.int (0 : Int32)), .val (.int sc), .val (.int mg), .val (.int m0), .val (.int m1), .val (.int P), .val (.int cv), .val (.ref a1), .val (.int (0 : Int32)), .val (.ref r3), .unset, .unset] [(.int (3 : Int32)), (.ref r3)])) rfl rfl (hb hby D0_235.1) _ k) ?_
      refine o_sipush X3 hx hby D0_236 (v := 255) rfl ?_
      refine o_iand X3 hx hby D0_239 ?_
      refine o_iload X3 hx hby D0_240 rfl ?_
      refine o_icmpY X3 hx hby D0_242 (teq (by decide : ((nar .byte ((((4 : Int32) - (4 : Int32))).toInt8.toInt32)) &&& (255 : Int32)) = (0 : Int32))).1 (q := 247) (by decide) (by decide) ?_
      refine o_iload X3 hx hby D0_247 rfl ?_
      refine o_iconst X3 hx hby D0_249 (v := 1) rfl ?_
      refine o_icmpY X3 hx hby D0_250 (tlt (by decide : (0 : Int32) < (1 : Int32))).1 (q := 271) (by decide) (by decide) ?_
      refine o_iload X3 hx hby D0_271 rfl ?_
      refine o_iconst X3 hx hby D0_273 (v := 2) rfl ?_
      refine o_icmpY X3 hx hby D0_274 (tlt (by decide : (0 : Int32) < (2 : Int32))).1 (q := 295) (by decide) (by decide) ?_
      refine o_iload X3 hx hby D0_295 rfl ?_
      refine o_iconst X3 hx hby D0_297 (v := 3) rfl ?_
      refine o_icmpY X3 hx hby D0_298 (tlt (by decide : (0 : Int32) < (3 : Int32))).1 (q := 339) (by decide) (by decide) ?_
      rcases hsc with rfl | rfl
      · skip
        refine o_iload X3 hx hby D0_339 rfl ?_
        refine o_ifN X3 hx hby D0_341 ((if0 _ _).trans (feq (by decide : ¬ ((1 : Int32) = (0 : Int32)))).1) ?_
        refine o_aload X3 hx hby D0_344 rfl rfl ?_
        refine o_iload X3 hx hby D0_346 rfl ?_
        obtain ⟨cq9, kq9, q9a, q9b, q9c⟩ := isOf hZ rfl E_3
        obtain ⟨_, _, ⟨T9, L9, k9, n9⟩, -, X9, ⟨Lc9, hQ9, l9, y9, z9⟩, st9⟩ := X3.virtualBack hx (y := (⟨"com/example/jetway/jetway/ajp/PacketWriter", "putByte", "(I)Lcom/example/jetway/jetway/ajp/PacketWriter;"⟩ : MethodName)) (z := (⟨"com/example/jetway/jetway/ajp/PacketWriter", "putByte", "(I)Lcom/example/jetway/jetway/ajp/PacketWriter;"⟩ : MethodName)) hown (mvT hZ (own_wd hw (i := 41) rfl)) (mvT hZ (own_wd hw (i := 42) rfl)) (notFace_of_selects (args := #[]) (mvT hZ (own_wd hw (i := 44) rfl))) (mvT hZ (own_wd hw (i := 44) rfl)) (mvT hZ (own_wd hw (i := 43) rfl)) (by decide) (backOf (W := 0) (rmPB4 l Z a0 hw [] a1 p5 bf kb mg P (.int (nar .byte ((((mg.toUInt32 >>> ((8 : Int32) &&& 31).toUInt32).toInt32)).toInt8.toInt32))) (.int (nar .byte ((mg).toInt8.toInt32))) (.int (nar .byte ((((((4 : Int32) - (4 : Int32)).toUInt32 >>> ((8 : Int32) &&& 31).toUInt32).toInt32)).toInt8.toInt32))) (.int (nar .byte ((((4 : Int32) - (4 : Int32))).toInt8.toInt32))) (.int (0 : Int32)) (.int (0 : Int32)) (.int (0 : Int32)) (.int (0 : Int32)) T3.heap n0 (own_leN (by omega)) ⟨E_3, Fm_3, Fp_3, Fb_3, Fo_3, Vb_3, Eb_3⟩ gn_a1 gn_bf nab hP) hZ (own_wd hw (i := 45) rfl) (own_wd hw (i := 3) rfl) (by decide) (by decide)) q9a q9c (g := (mkF m 348 #[.val (.int p0), .val (.int p1), .val (.int p2), .val (.int p3), .val (.int p4), .val (.int p5), .val (.int fr), .val (.int (0 : Int32)), .val (.int (1 : Int32)), .val (.int mg), .val (.int m0), .val (.int m1), .val (.int P), .val (.int cv), .val (.ref a1), .val (.int (0 : Int32)), .val (.ref r3), .unset, .unset] [(.int p5), (.ref a1)])) rfl (by rw [hml]; rfl) (Steps.refl _) (argsL := [(.int p5)]) (rest := []) (lenOf pd__40I_41Lcom_47example_47jetway_47jetway_47ajp_47PacketWriter_59 rfl) rfl (by show 2 * 0 + _ ≤ _; exact Nat.le_of_eq rfl) (hb hby D0_348.1) (fun _ _ => ⟨rfl, rfl, (by decide : 3 + 0 ≤ _), (by decide : 271 + 0 ≤ _)⟩)
        dsimp only [Pt.U, Pt.locs, Pt.cells, Pt.slots] at X9 l9 y9 z9 st9 hQ9
        subst l9 y9 z9
        obtain ⟨rfl, N9q, K9, E_9, Fm_9, Fp_9, Fb_9, Fo_9, Vb_9, Eb_9⟩ := hQ9
        have sz9 := own_leN K9.1
        have N9 := Fr.app N3 N9q
        refine own_pre (A' := T9.setTop (mkF m 351 #[.val (.int p0), .val (.int p1), .val (.int p2), .val (.int p3), .val (.int p4), .val (.int p5), .val (.int fr), .val (.int (0 : Int32)), .val (.int (1 : Int32)), .val (.int mg), .val (.int m0), .val (.int m1), .val (.int P), .val (.int cv), .val (.ref a1), .val (.int (0 : Int32)), .val (.ref r3), .unset, .unset] [(.ref a1)])) (fun t k => st9.trans k) ?_
        refine o_pop X9 hx hby D0_351 rfl ?_
        refine o_aload X9 hx hby D0_352 rfl rfl ?_
        obtain ⟨cq10, kq10, q10a, q10b, q10c⟩ := isOf hZ rfl E_9
        obtain ⟨_, _, ⟨T10, L10, k10, n10⟩, -, X10, ⟨Lc10, hQ10, l10, y10, z10⟩, st10⟩ := X9.virtualBack hx (y := (⟨"com/example/jetway/jetway/ajp/PacketWriter", "toByteArray", "()[B"⟩ : MethodName)) (z := (⟨"com/example/jetway/jetway/ajp/PacketWriter", "toByteArray", "()[B"⟩ : MethodName)) hown (mvT hZ (own_wd hw (i := 23) rfl)) (mvT hZ (own_wd hw (i := 24) rfl)) (notFace_of_selects (args := #[]) (mvT hZ (own_wd hw (i := 26) rfl))) (mvT hZ (own_wd hw (i := 26) rfl)) (mvT hZ (own_wd hw (i := 25) rfl)) (by decide) (backOf (W := 0) (rmT5 l Z a0 hw [] a1 bf kb mg P (.int (nar .byte ((((mg.toUInt32 >>> ((8 : Int32) &&& 31).toUInt32).toInt32)).toInt8.toInt32))) (.int (nar .byte ((mg).toInt8.toInt32))) (.int (nar .byte ((((((4 : Int32) - (4 : Int32)).toUInt32 >>> ((8 : Int32) &&& 31).toUInt32).toInt32)).toInt8.toInt32))) (.int (nar .byte ((((4 : Int32) - (4 : Int32))).toInt8.toInt32))) (.int (nar .byte ((p5).toInt8.toInt32))) (.int (0 : Int32)) (.int (0 : Int32)) (.int (0 : Int32)) T9.heap n0 (own_leN (by omega)) ⟨E_9, Fm_9, Fp_9, Fb_9, Fo_9, Vb_9, Eb_9⟩ gn_a1 gn_bf nab hP) hZ (own_wd hw (i := 27) rfl) (own_wd hw (i := 3) rfl) (by decide) (by decide)) q10a q10c (g := (mkF m 354 #[.val (.int p0), .val (.int p1), .val (.int p2), .val (.int p3), .val (.int p4), .val (.int p5), .val (.int fr), .val (.int (0 : Int32)), .val (.int (1 : Int32)), .val (.int mg), .val (.int m0), .val (.int m1), .val (.int P), .val (.int cv), .val (.ref a1), .val (.int (0 : Int32)), .val (.ref r3), .unset, .unset] [(.ref a1)])) rfl (by rw [hml]; rfl) (Steps.refl _) (argsL := []) (rest := []) (lenOf pd__40_41_91B rfl) rfl (by show 2 * 0 + _ ≤ _; exact Nat.le_of_eq rfl) (hb hby D0_354.1) (fun _ _ => ⟨rfl, rfl, (by decide : 3 + 1 ≤ _), (by decide : 271 + 5 ≤ _)⟩)
        dsimp only [Pt.U, Pt.locs, Pt.cells, Pt.slots] at X10 l10 y10 z10 st10 hQ10
        subst l10 y10 z10
        obtain ⟨r10, kr10, rfl, N10q, K10, ge10, Vr10, E_10, Fm_10, Fp_10, Fb_10, Fo_10, Vb_10, Eb_10⟩ := hQ10
        have sz10 := own_leN K10.1
        have ge10' := own_leN ge10
        have lt_r10 := own_ltN Vr10.lt
        have N10 := Fr.app N9 N10q
        refine own_pre (A' := T10.setTop (mkF m 357 #[.val (.int p0), .val (.int p1), .val (.int p2), .val (.int p3), .val (.int p4), .val (.int p5), .val (.int fr), .val (.int (0 : Int32)), .val (.int (1 : Int32)), .val (.int mg), .val (.int m0), .val (.int m1), .val (.int P), .val (.int cv), .val (.ref a1), .val (.int (0 : Int32)), .val (.ref r3), .unset, .unset] [(.ref r10)])) (fun t k => st10.trans k) ?_
        refine o_astore X10 hx hby D0_357 rfl (l' := #[.val (.int p0), .val (.int p1), .val (.int p2), .val (.int p3), .val (.int p4), .val (.int p5), .val (.int fr), .val (.int (0 : Int32)), .val (.int (1 : Int32)), .val (.int mg), .val (.int m0), .val (.int m1), .val (.int P), .val (.int cv), .val (.ref a1), .val (.int (0 : Int32)), .val (.ref r3), .val (.ref r10), .unset]) rfl ?_
        refine o_iload X10 hx hby D0_359 rfl ?_
        refine o_ifN X10 hx hby D0_361 ((if0 _ _).trans (feq (by decide : ¬ ((1 : Int32) = (0 : Int32)))).1) ?_
        refine o_iconst X10 hx hby D0_364 (v := 1) rfl ?_
        refine o_goto X10 hx hby D0_365 (q := 369) (by decide) (by decide) ?_
        refine o_istore X10 hx hby D0_369 (l' := #[.val (.int p0), .val (.int p1), .val (.int p2), .val (.int p3), .val (.int p4), .val (.int p5), .val (.int fr), .val (.int (0 : Int32)), .val (.int (1 : Int32)), .val (.int mg), .val (.int m0), .val (.int m1), .val (.int P), .val (.int cv), .val (.ref a1), .val (.int (0 : Int32)), .val (.ref r3), .val (.ref r10), .val (.int (1 : Int32))]) rfl ?_
        refine o_aload X10 hx hby D0_371 rfl rfl ?_
        obtain ⟨cl_r10_11, Ar_r10_11, q_r10_11, S_r10_11, N_r10_11, H_r10_11, G_r10_11⟩ := id Vr10
        refine own_pre (A' := T10.setTop (mkF m 374 #[.val (.int p0), .val (.int p1), .val (.int p2), .val (.int p3), .val (.int p4), .val (.int p5), .val (.int fr), .val (.int (0 : Int32)), .val (.int (1 : Int32)), .val (.int mg), .val (.int m0), .val (.int m1), .val (.int P), .val (.int cv), .val (.ref a1), .val (.int (0 : Int32)), .val (.ref r3), .val (.ref r10), .val (.int (1 : Int32))] [(.int (5 : Int32))])) (fun t k => X10.arraylength hx Ar_r10_11.1 (State.isArrayOf_alike hZ.alike Ar_r10_11.2.1) (g := (mkF m 373 #[.val (.int p0), .val (.int p1), .val (.int p2), .val (.int p3), .val (.int p4), .val (.int p5), .val (.int fr), .val (.int (0 : Int32)), .val (.int (1 : Int32)), .val (.int mg), .val (.int m0), .val (.int m1), .val (.int P), .val (.int cv), .val (.ref a1), .val (.int (0 : Int32)), .val (.ref r3), .val (.ref r10), .val (.int (1 : Int32))] [(.ref r10)])) rfl rfl (hb hby D0_373.1) _ (by rw [len_of S_r10_11 N_r10_11]; exact k)) ?_
        refine o_iconst X10 hx hby D0_374 (v := 4) rfl ?_
        refine o_iload X10 hx hby D0_375 rfl ?_
        refine o_iadd X10 hx hby D0_377 ?_
        refine o_icmpY X10 hx hby D0_378 (teq (by decide : (5 : Int32) = ((4 : Int32) + (1 : Int32)))).1 (q := 383) (by decide) (by decide) ?_
        refine o_aload X10 hx hby D0_383 rfl rfl ?_
        refine o_iconst X10 hx hby D0_385 (v := 0) rfl ?_
        obtain ⟨cl_r10_12, Ar_r10_12, q_r10_12, S_r10_12, N_r10_12, H_r10_12, G_r10_12⟩ := id Vr10
        have hin_r10_12 : ¬ ((0 : Int32) < 0 ∨ cl_r10_12.slots.size ≤ ((0 : Int32)).toNatClampNeg) := inb_of S_r10_12 ⟨by decide, by decide⟩
        have hat_r10_12 : cl_r10_12.slots[((0 : Int32)).toNatClampNeg]? = some (.int (nar .byte ((((mg.toUInt32 >>> ((8 : Int32) &&& 31).toUInt32).toInt32)).toInt8.toInt32))) := H_r10_12.at hin_r10_12 (rfl)
        refine own_pre (A' := T10.setTop (mkF m 387 #[.val (.int p0), .val (.int p1), .val (.int p2), .val (.int p3), .val (.int p4), .val (.int p5), .val (.int fr), .val (.int (0 : Int32)), .val (.int (1 : Int32)), .val (.int mg), .val (.int m0), .val (.int m1), .val (.int P), .val (.int cv), .val (.ref a1), .val (.int (0 : Int32)), .val (.ref r3), .val (.ref r10), .val (.int (1 : Int32))] [(.int (nar .byte ((((mg.toUInt32 >>> ((8 : Int32) &&& 31).toUInt32).toInt32)).toInt8.toInt32)))])) (fun t k => X10.baloadBytes hx (j := (0 : Int32)) (v := (.int (nar .byte ((((mg.toUInt32 >>> ((8 : Int32) &&& 31).toUInt32).toInt32)).toInt8.toInt32)))) Ar_r10_12.1 (State.isArrayOf_alike hZ.alike Ar_r10_12.2.1) Ar_r10_12.2.2 hin_r10_12 hat_r10_12 (g := (mkF m 386 #[.val (.int p0), .val (.int p1), .val (.int p2), .val (.int p3), .val (.int p4), .val (.int p5), .val (.int fr), .val (.int (0 : Int32)), .val (.int (1 : Int32)), .val (.int mg), .val (.int m0), .val (.int m1), .val (.int P), .val (.int cv), .val (.ref a1), .val (.int (0 : Int32)), .val (.ref r3), .val (.ref r10), .val (.int (1 : Int32))] [(.int (0 : Int32)), (.ref r10)])) rfl rfl (hb hby D0_386.1) _ k) ?_
        refine o_sipush X10 hx hby D0_387 (v := 255) rfl ?_
        refine o_iand X10 hx hby D0_390 ?_
        refine o_iload X10 hx hby D0_391 rfl ?_
        refine o_icmpN X10 hx hby D0_393 (teq (hmg.1 : ((nar .byte ((((mg.toUInt32 >>> ((8 : Int32) &&& 31).toUInt32).toInt32)).toInt8.toInt32)) &&& (255 : Int32)) = m0)).2 ?_
        refine o_aload X10 hx hby D0_396 rfl rfl ?_
        refine o_iconst X10 hx hby D0_398 (v := 1) rfl ?_
        obtain ⟨cl_r10_13, Ar_r10_13, q_r10_13, S_r10_13, N_r10_13, H_r10_13, G_r10_13⟩ := id Vr10
        have hin_r10_13 : ¬ ((1 : Int32) < 0 ∨ cl_r10_13.slots.size ≤ ((1 : Int32)).toNatClampNeg) := inb_of S_r10_13 ⟨by decide, by decide⟩
        have hat_r10_13 : cl_r10_13.slots[((1 : Int32)).toNatClampNeg]? = some (.int (nar .byte ((mg).toInt8.toInt32))) := H_r10_13.at hin_r10_13 (rfl)
        refine own_pre (A' := T10.setTop (mkF m 400 #[.val (.int p0), .val (.int p1), .val (.int p2), .val (.int p3), .val (.int p4), .val (.int p5), .val (.int fr), .val (.int (0 : Int32)), .val (.int (1 : Int32)), .val (.int mg), .val (.int m0), .val (.int m1), .val (.int P), .val (.int cv), .val (.ref a1), .val (.int (0 : Int32)), .val (.ref r3), .val (.ref r10), .val (.int (1 : Int32))] [(.int (nar .byte ((mg).toInt8.toInt32)))])) (fun t k => X10.baloadBytes hx (j := (1 : Int32)) (v := (.int (nar .byte ((mg).toInt8.toInt32)))) Ar_r10_13.1 (State.isArrayOf_alike hZ.alike Ar_r10_13.2.1) Ar_r10_13.2.2 hin_r10_13 hat_r10_13 (g := (mkF m 399 #[.val (.int p0), .val (.int p1), .val (.int p2), .val (.int p3), .val (.int p4), .val (.int p5), .val (.int fr), .val (.int (0 : Int32)), .val (.int (1 : Int32)), .val (.int mg), .val (.int m0), .val (.int m1), .val (.int P), .val (.int cv), .val (.ref a1), .val (.int (0 : Int32)), .val (.ref r3), .val (.ref r10), .val (.int (1 : Int32))] [(.int (1 : Int32)), (.ref r10)])) rfl rfl (hb hby D0_399.1) _ k) ?_
        refine o_sipush X10 hx hby D0_400 (v := 255) rfl ?_
        refine o_iand X10 hx hby D0_403 ?_
        refine o_iload X10 hx hby D0_404 rfl ?_
        refine o_icmpN X10 hx hby D0_406 (teq (hmg.2 : ((nar .byte ((mg).toInt8.toInt32)) &&& (255 : Int32)) = m1)).2 ?_
        refine o_aload X10 hx hby D0_409 rfl rfl ?_
        refine o_iconst X10 hx hby D0_411 (v := 2) rfl ?_
        obtain ⟨cl_r10_14, Ar_r10_14, q_r10_14, S_r10_14, N_r10_14, H_r10_14, G_r10_14⟩ := id Vr10
        have hin_r10_14 : ¬ ((2 : Int32) < 0 ∨ cl_r10_14.slots.size ≤ ((2 : Int32)).toNatClampNeg) := inb_of S_r10_14 ⟨by decide, by decide⟩
        have hat_r10_14 : cl_r10_14.slots[((2 : Int32)).toNatClampNeg]? = some (.int (nar .byte ((((((5 : Int32) - (4 : Int32)).toUInt32 >>> ((8 : Int32) &&& 31).toUInt32).toInt32)).toInt8.toInt32))) := H_r10_14.at hin_r10_14 (rfl)
        refine own_pre (A' := T10.setTop (mkF m 413 #[.val (.int p0), .val (.int p1), .val (.int p2), .val (.int p3), .val (.int p4), .val (.int p5), .val (.int fr), .val (.int (0 : Int32)), .val (.int (1 : Int32)), .val (.int mg), .val (.int m0), .val (.int m1), .val (.int P), .val (.int cv), .val (.ref a1), .val (.int (0 : Int32)), .val (.ref r3), .val (.ref r10), .val (.int (1 : Int32))] [(.int (nar .byte ((((((5 : Int32) - (4 : Int32)).toUInt32 >>> ((8 : Int32) &&& 31).toUInt32).toInt32)).toInt8.toInt32)))])) (fun t k => X10.baloadBytes hx (j := (2 : Int32)) (v := (.int (nar .byte ((((((5 : Int32) - (4 : Int32)).toUInt32 >>> ((8 : Int32) &&& 31).toUInt32).toInt32)).toInt8.toInt32)))) Ar_r10_14.1 (State.isArrayOf_alike hZ.alike Ar_r10_14.2.1) Ar_r10_14.2.2 hin_r10_14 hat_r10_14 (g := (mkF m 412 #[.val (.int p0), .val (.int p1), .val (.int p2), .val (.int p3), .val (.int p4), .val (.int p5), .val (.int fr), .val (.int (0 : Int32)), .val (.int (1 : Int32)), .val (.int mg), .val (.int m0), .val (.int m1), .val (.int P), .val (.int cv), .val (.ref a1), .val (.int (0 : Int32)), .val (.ref r3), .val (.ref r10), .val (.int (1 : Int32))] [(.int (2 : Int32)), (.ref r10)])) rfl rfl (hb hby D0_412.1) _ k) ?_
        refine o_ifN X10 hx hby D0_413 ((if0 _ _).trans (teq (by decide : (nar .byte ((((((5 : Int32) - (4 : Int32)).toUInt32 >>> ((8 : Int32) &&& 31).toUInt32).toInt32)).toInt8.toInt32)) = (0 : Int32))).2) ?_
        refine o_aload X10 hx hby D0_416 rfl rfl ?_
        refine o_iconst X10 hx hby D0_418 (v := 3) rfl ?_
        obtain ⟨cl_r10_15, Ar_r10_15, q_r10_15, S_r10_15, N_r10_15, H_r10_15, G_r10_15⟩ := id Vr10
        have hin_r10_15 : ¬ ((3 : Int32) < 0 ∨ cl_r10_15.slots.size ≤ ((3 : Int32)).toNatClampNeg) := inb_of S_r10_15 ⟨by decide, by decide⟩
        have hat_r10_15 : cl_r10_15.slots[((3 : Int32)).toNatClampNeg]? = some (.int (nar .byte ((((5 : Int32) - (4 : Int32))).toInt8.toInt32))) := H_r10_15.at hin_r10_15 (rfl)
        refine own_pre (A' := T10.setTop (mkF m 420 #[.val (.int p0), .val (.int p1), .val (.int p2), .val (.int p3), .val (.int p4), .val (.int p5), .val (.int fr), .val (.int (0 : Int32)), .val (.int (1 : Int32)), .val (.int mg), .val (.int m0), .val (.int m1), .val (.int P), .val (.int cv), .val (.ref a1), .val (.int (0 : Int32)), .val (.ref r3), .val (.ref r10), .val (.int (1 : Int32))] [(.int (nar .byte ((((5 : Int32) - (4 : Int32))).toInt8.toInt32)))])) (fun t k => X10.baloadBytes hx (j := (3 : Int32)) (v := (.int (nar .byte ((((5 : Int32) - (4 : Int32))).toInt8.toInt32)))) Ar_r10_15.1 (State.isArrayOf_alike hZ.alike Ar_r10_15.2.1) Ar_r10_15.2.2 hin_r10_15 hat_r10_15 (g := (mkF m 419 #[.val (.int p0), .val (.int p1), .val (.int p2), .val (.int p3), .val (.int p4), .val (.int p5), .val (.int fr), .val (.int (0 : Int32)), .val (.int (1 : Int32)), .val (.int mg), .val (.int m0), .val (.int m1), .val (.int P), .val (.int cv), .val (.ref a1), .val (.int (0 : Int32)), .val (.ref r3), .val (.ref r10), .val (.int (1 : Int32))] [(.int (3 : Int32)), (.ref r10)])) rfl rfl (hb hby D0_419.1) _ k) ?_
        refine o_sipush X10 hx hby D0_420 (v := 255) rfl ?_
        refine o_iand X10 hx hby D0_423 ?_
        refine o_iload X10 hx hby D0_424 rfl ?_
        refine o_icmpY X10 hx hby D0_426 (teq (by decide : ((nar .byte ((((5 : Int32) - (4 : Int32))).toInt8.toInt32)) &&& (255 : Int32)) = (1 : Int32))).1 (q := 431) (by decide) (by decide) ?_
        refine o_iload X10 hx hby D0_431 rfl ?_
        refine o_ifN X10 hx hby D0_433 ((if0 _ _).trans (feq (by decide : ¬ ((1 : Int32) = (0 : Int32)))).1) ?_
        refine o_aload X10 hx hby D0_436 rfl rfl ?_
        refine o_iconst X10 hx hby D0_438 (v := 4) rfl ?_
        obtain ⟨cl_r10_16, Ar_r10_16, q_r10_16, S_r10_16, N_r10_16, H_r10_16, G_r10_16⟩ := id Vr10
        have hin_r10_16 : ¬ ((4 : Int32) < 0 ∨ cl_r10_16.slots.size ≤ ((4 : Int32)).toNatClampNeg) := inb_of S_r10_16 ⟨by decide, by decide⟩
        have hat_r10_16 : cl_r10_16.slots[((4 : Int32)).toNatClampNeg]? = some (.int (nar .byte ((p5).toInt8.toInt32))) := H_r10_16.at hin_r10_16 (rfl)
        refine own_pre (A' := T10.setTop (mkF m 440 #[.val (.int p0), .val (.int p1), .val (.int p2), .val (.int p3), .val (.int p4), .val (.int p5), .val (.int fr), .val (.int (0 : Int32)), .val (.int (1 : Int32)), .val (.int mg), .val (.int m0), .val (.int m1), .val (.int P), .val (.int cv), .val (.ref a1), .val (.int (0 : Int32)), .val (.ref r3), .val (.ref r10), .val (.int (1 : Int32))] [(.int (nar .byte ((p5).toInt8.toInt32)))])) (fun t k => X10.baloadBytes hx (j := (4 : Int32)) (v := (.int (nar .byte ((p5).toInt8.toInt32)))) Ar_r10_16.1 (State.isArrayOf_alike hZ.alike Ar_r10_16.2.1) Ar_r10_16.2.2 hin_r10_16 hat_r10_16 (g := (mkF m 439 #[.val (.int p0), .val (.int p1), .val (.int p2), .val (.int p3), .val (.int p4), .val (.int p5), .val (.int fr), .val (.int (0 : Int32)), .val (.int (1 : Int32)), .val (.int mg), .val (.int m0), .val (.int m1), .val (.int P), .val (.int cv), .val (.ref a1), .val (.int (0 : Int32)), .val (.ref r3), .val (.ref r10), .val (.int (1 : Int32))] [(.int (4 : Int32)), (.ref r10)])) rfl rfl (hb hby D0_439.1) _ k) ?_
        refine o_sipush X10 hx hby D0_440 (v := 255) rfl ?_
        refine o_iand X10 hx hby D0_443 ?_
        refine o_iload X10 hx hby D0_444 rfl ?_
        refine o_sipush X10 hx hby D0_446 (v := 255) rfl ?_
        refine o_iand X10 hx hby D0_449 ?_
        refine o_icmpY X10 hx hby D0_450 (teq (own_byte _ : ((nar .byte ((p5).toInt8.toInt32)) &&& (255 : Int32)) = (p5 &&& (255 : Int32)))).1 (q := 455) (by decide) (by decide) ?_
        refine o_iconst X10 hx hby D0_455 (v := 1) rfl ?_
        exact own_ret (v := some (.int (1 : Int32))) X10 (fun h => by first | rfl | (rw [Bd.returns] at h; cases h)) (BodyLoose.notSynchronized Bd) (by decide) (by decide) (⟨rfl, N10⟩) (fun fs hr => retN X10 hx (t := .boolean) Bd.returns (by simp) (hb hby D0_456.1) hr)
      · skip
        refine o_iload X3 hx hby D0_339 rfl ?_
        refine o_ifY X3 hx hby D0_341 ((if0 _ _).trans (teq (by decide : (0 : Int32) = (0 : Int32))).1) (q := 352) (by decide) (by decide) ?_
        refine o_aload X3 hx hby D0_352 rfl rfl ?_
        obtain ⟨cq17, kq17, q17a, q17b, q17c⟩ := isOf hZ rfl E_3
        obtain ⟨_, _, ⟨T17, L17, k17, n17⟩, -, X17, ⟨Lc17, hQ17, l17, y17, z17⟩, st17⟩ := X3.virtualBack hx (y := (⟨"com/example/jetway/jetway/ajp/PacketWriter", "toByteArray", "()[B"⟩ : MethodName)) (z := (⟨"com/example/jetway/jetway/ajp/PacketWriter", "toByteArray", "()[B"⟩ : MethodName)) hown (mvT hZ (own_wd hw (i := 23) rfl)) (mvT hZ (own_wd hw (i := 24) rfl)) (notFace_of_selects (args := #[]) (mvT hZ (own_wd hw (i := 26) rfl))) (mvT hZ (own_wd hw (i := 26) rfl)) (mvT hZ (own_wd hw (i := 25) rfl)) (by decide) (backOf (W := 0) (rmT4 l Z a0 hw [] a1 bf kb mg P (.int (nar .byte ((((mg.toUInt32 >>> ((8 : Int32) &&& 31).toUInt32).toInt32)).toInt8.toInt32))) (.int (nar .byte ((mg).toInt8.toInt32))) (.int (nar .byte ((((((4 : Int32) - (4 : Int32)).toUInt32 >>> ((8 : Int32) &&& 31).toUInt32).toInt32)).toInt8.toInt32))) (.int (nar .byte ((((4 : Int32) - (4 : Int32))).toInt8.toInt32))) (.int (0 : Int32)) (.int (0 : Int32)) (.int (0 : Int32)) (.int (0 : Int32)) T3.heap n0 (own_leN (by omega)) ⟨E_3, Fm_3, Fp_3, Fb_3, Fo_3, Vb_3, Eb_3⟩ gn_a1 gn_bf nab hP) hZ (own_wd hw (i := 27) rfl) (own_wd hw (i := 3) rfl) (by decide) (by decide)) q17a q17c (g := (mkF m 354 #[.val (.int p0), .val (.int p1), .val (.int p2), .val (.int p3), .val (.int p4), .val (.int p5), .val (.int fr), .val (.int (0 : Int32)), .val (.int (0 : Int32)), .val (.int mg), .val (.int m0), .val (.int m1), .val (.int P), .val (.int cv), .val (.ref a1), .val (.int (0 : Int32)), .val (.ref r3), .unset, .unset] [(.ref a1)])) rfl (by rw [hml]; rfl) (Steps.refl _) (argsL := []) (rest := []) (lenOf pd__40_41_91B rfl) rfl (by show 2 * 0 + _ ≤ _; exact Nat.le_of_eq rfl) (hb hby D0_354.1) (fun _ _ => ⟨rfl, rfl, (by decide : 3 + 1 ≤ _), (by decide : 271 + 4 ≤ _)⟩)
        dsimp only [Pt.U, Pt.locs, Pt.cells, Pt.slots] at X17 l17 y17 z17 st17 hQ17
        subst l17 y17 z17
        obtain ⟨r17, kr17, rfl, N17q, K17, ge17, Vr17, E_17, Fm_17, Fp_17, Fb_17, Fo_17, Vb_17, Eb_17⟩ := hQ17
        have sz17 := own_leN K17.1
        have ge17' := own_leN ge17
        have lt_r17 := own_ltN Vr17.lt
        have N17 := Fr.app N3 N17q
        refine own_pre (A' := T17.setTop (mkF m 357 #[.val (.int p0), .val (.int p1), .val (.int p2), .val (.int p3), .val (.int p4), .val (.int p5), .val (.int fr), .val (.int (0 : Int32)), .val (.int (0 : Int32)), .val (.int mg), .val (.int m0), .val (.int m1), .val (.int P), .val (.int cv), .val (.ref a1), .val (.int (0 : Int32)), .val (.ref r3), .unset, .unset] [(.ref r17)])) (fun t k => st17.trans k) ?_
        refine o_astore X17 hx hby D0_357 rfl (l' := #[.val (.int p0), .val (.int p1), .val (.int p2), .val (.int p3), .val (.int p4), .val (.int p5), .val (.int fr), .val (.int (0 : Int32)), .val (.int (0 : Int32)), .val (.int mg), .val (.int m0), .val (.int m1), .val (.int P), .val (.int cv), .val (.ref a1), .val (.int (0 : Int32)), .val (.ref r3), .val (.ref r17), .unset]) rfl ?_
        refine o_iload X17 hx hby D0_359 rfl ?_
        refine o_ifY X17 hx hby D0_361 ((if0 _ _).trans (teq (by decide : (0 : Int32) = (0 : Int32))).1) (q := 368) (by decide) (by decide) ?_
        refine o_iconst X17 hx hby D0_368 (v := 0) rfl ?_
        refine o_istore X17 hx hby D0_369 (l' := #[.val (.int p0), .val (.int p1), .val (.int p2), .val (.int p3), .val (.int p4), .val (.int p5), .val (.int fr), .val (.int (0 : Int32)), .val (.int (0 : Int32)), .val (.int mg), .val (.int m0), .val (.int m1), .val (.int P), .val (.int cv), .val (.ref a1), .val (.int (0 : Int32)), .val (.ref r3), .val (.ref r17), .val (.int (0 : Int32))]) rfl ?_
        refine o_aload X17 hx hby D0_371 rfl rfl ?_
        obtain ⟨cl_r17_18, Ar_r17_18, q_r17_18, S_r17_18, N_r17_18, H_r17_18, G_r17_18⟩ := id Vr17
        refine own_pre (A' := T17.setTop (mkF m 374 #[.val (.int p0), .val (.int p1), .val (.int p2), .val (.int p3), .val (.int p4), .val (.int p5), .val (.int fr), .val (.int (0 : Int32)), .val (.int (0 : Int32)), .val (.int mg), .val (.int m0), .val (.int m1), .val (.int P), .val (.int cv), .val (.ref a1), .val (.int (0 : Int32)), .val (.ref r3), .val (.ref r17), .val (.int (0 : Int32))] [(.int (4 : Int32))])) (fun t k => X17.arraylength hx Ar_r17_18.1 (State.isArrayOf_alike hZ.alike Ar_r17_18.2.1) (g := (mkF m 373 #[.val (.int p0), .val (.int p1), .val (.int p2), .val (.int p3), .val (.int p4), .val (.int p5), .val (.int fr), .val (.int (0 : Int32)), .val (.int (0 : Int32)), .val (.int mg), .val (.int m0), .val (.int m1), .val (.int P), .val (.int cv), .val (.ref a1), .val (.int (0 : Int32)), .val (.ref r3), .val (.ref r17), .val (.int (0 : Int32))] [(.ref r17)])) rfl rfl (hb hby D0_373.1) _ (by rw [len_of S_r17_18 N_r17_18]; exact k)) ?_
        refine o_iconst X17 hx hby D0_374 (v := 4) rfl ?_
        refine o_iload X17 hx hby D0_375 rfl ?_
        refine o_iadd X17 hx hby D0_377 ?_
        refine o_icmpY X17 hx hby D0_378 (teq (by decide : (4 : Int32) = ((4 : Int32) + (0 : Int32)))).1 (q := 383) (by decide) (by decide) ?_
        refine o_aload X17 hx hby D0_383 rfl rfl ?_
        refine o_iconst X17 hx hby D0_385 (v := 0) rfl ?_
        obtain ⟨cl_r17_19, Ar_r17_19, q_r17_19, S_r17_19, N_r17_19, H_r17_19, G_r17_19⟩ := id Vr17
        have hin_r17_19 : ¬ ((0 : Int32) < 0 ∨ cl_r17_19.slots.size ≤ ((0 : Int32)).toNatClampNeg) := inb_of S_r17_19 ⟨by decide, by decide⟩
        have hat_r17_19 : cl_r17_19.slots[((0 : Int32)).toNatClampNeg]? = some (.int (nar .byte ((((mg.toUInt32 >>> ((8 : Int32) &&& 31).toUInt32).toInt32)).toInt8.toInt32))) := H_r17_19.at hin_r17_19 (rfl)
        refine own_pre (A' := T17.setTop (mkF m 387 #[.val (.int p0), .val (.int p1), .val (.int p2), .val (.int p3), .val (.int p4), .val (.int p5), .val (.int fr), .val (.int (0 : Int32)), .val (.int (0 : Int32)), .val (.int mg), .val (.int m0), .val (.int m1), .val (.int P), .val (.int cv), .val (.ref a1), .val (.int (0 : Int32)), .val (.ref r3), .val (.ref r17), .val (.int (0 : Int32))] [(.int (nar .byte ((((mg.toUInt32 >>> ((8 : Int32) &&& 31).toUInt32).toInt32)).toInt8.toInt32)))])) (fun t k => X17.baloadBytes hx (j := (0 : Int32)) (v := (.int (nar .byte ((((mg.toUInt32 >>> ((8 : Int32) &&& 31).toUInt32).toInt32)).toInt8.toInt32)))) Ar_r17_19.1 (State.isArrayOf_alike hZ.alike Ar_r17_19.2.1) Ar_r17_19.2.2 hin_r17_19 hat_r17_19 (g := (mkF m 386 #[.val (.int p0), .val (.int p1), .val (.int p2), .val (.int p3), .val (.int p4), .val (.int p5), .val (.int fr), .val (.int (0 : Int32)), .val (.int (0 : Int32)), .val (.int mg), .val (.int m0), .val (.int m1), .val (.int P), .val (.int cv), .val (.ref a1), .val (.int (0 : Int32)), .val (.ref r3), .val (.ref r17), .val (.int (0 : Int32))] [(.int (0 : Int32)), (.ref r17)])) rfl rfl (hb hby D0_386.1) _ k) ?_
        refine o_sipush X17 hx hby D0_387 (v := 255) rfl ?_
        refine o_iand X17 hx hby D0_390 ?_
        refine o_iload X17 hx hby D0_391 rfl ?_
        refine o_icmpN X17 hx hby D0_393 (teq (hmg.1 : ((nar .byte ((((mg.toUInt32 >>> ((8 : Int32) &&& 31).toUInt32).toInt32)).toInt8.toInt32)) &&& (255 : Int32)) = m0)).2 ?_
        refine o_aload X17 hx hby D0_396 rfl rfl ?_
        refine o_iconst X17 hx hby D0_398 (v := 1) rfl ?_
        obtain ⟨cl_r17_20, Ar_r17_20, q_r17_20, S_r17_20, N_r17_20, H_r17_20, G_r17_20⟩ := id Vr17
        have hin_r17_20 : ¬ ((1 : Int32) < 0 ∨ cl_r17_20.slots.size ≤ ((1 : Int32)).toNatClampNeg) := inb_of S_r17_20 ⟨by decide, by decide⟩
        have hat_r17_20 : cl_r17_20.slots[((1 : Int32)).toNatClampNeg]? = some (.int (nar .byte ((mg).toInt8.toInt32))) := H_r17_20.at hin_r17_20 (rfl)
        refine own_pre (A' := T17.setTop (mkF m 400 #[.val (.int p0), .val (.int p1), .val (.int p2), .val (.int p3), .val (.int p4), .val (.int p5), .val (.int fr), .val (.int (0 : Int32)), .val (.int (0 : Int32)), .val (.int mg), .val (.int m0), .val (.int m1), .val (.int P), .val (.int cv), .val (.ref a1), .val (.int (0 : Int32)), .val (.ref r3), .val (.ref r17), .val (.int (0 : Int32))] [(.int (nar .byte ((mg).toInt8.toInt32)))])) (fun t k => X17.baloadBytes hx (j := (1 : Int32)) (v := (.int (nar .byte ((mg).toInt8.toInt32)))) Ar_r17_20.1 (State.isArrayOf_alike hZ.alike Ar_r17_20.2.1) Ar_r17_20.2.2 hin_r17_20 hat_r17_20 (g := (mkF m 399 #[.val (.int p0), .val (.int p1), .val (.int p2), .val (.int p3), .val (.int p4), .val (.int p5), .val (.int fr), .val (.int (0 : Int32)), .val (.int (0 : Int32)), .val (.int mg), .val (.int m0), .val (.int m1), .val (.int P), .val (.int cv), .val (.ref a1), .val (.int (0 : Int32)), .val (.ref r3), .val (.ref r17), .val (.int (0 : Int32))] [(.int (1 : Int32)), (.ref r17)])) rfl rfl (hb hby D0_399.1) _ k) ?_
        refine o_sipush X17 hx hby D0_400 (v := 255) rfl ?_
        refine o_iand X17 hx hby D0_403 ?_
        refine o_iload X17 hx hby D0_404 rfl ?_
        refine o_icmpN X17 hx hby D0_406 (teq (hmg.2 : ((nar .byte ((mg).toInt8.toInt32)) &&& (255 : Int32)) = m1)).2 ?_
        refine o_aload X17 hx hby D0_409 rfl rfl ?_
        refine o_iconst X17 hx hby D0_411 (v := 2) rfl ?_
        obtain ⟨cl_r17_21, Ar_r17_21, q_r17_21, S_r17_21, N_r17_21, H_r17_21, G_r17_21⟩ := id Vr17
        have hin_r17_21 : ¬ ((2 : Int32) < 0 ∨ cl_r17_21.slots.size ≤ ((2 : Int32)).toNatClampNeg) := inb_of S_r17_21 ⟨by decide, by decide⟩
        have hat_r17_21 : cl_r17_21.slots[((2 : Int32)).toNatClampNeg]? = some (.int (nar .byte ((((((4 : Int32) - (4 : Int32)).toUInt32 >>> ((8 : Int32) &&& 31).toUInt32).toInt32)).toInt8.toInt32))) := H_r17_21.at hin_r17_21 (rfl)
        refine own_pre (A' := T17.setTop (mkF m 413 #[.val (.int p0), .val (.int p1), .val (.int p2), .val (.int p3), .val (.int p4), .val (.int p5), .val (.int fr), .val (.int (0 : Int32)), .val (.int (0 : Int32)), .val (.int mg), .val (.int m0), .val (.int m1), .val (.int P), .val (.int cv), .val (.ref a1), .val (.int (0 : Int32)), .val (.ref r3), .val (.ref r17), .val (.int (0 : Int32))] [(.int (nar .byte ((((((4 : Int32) - (4 : Int32)).toUInt32 >>> ((8 : Int32) &&& 31).toUInt32).toInt32)).toInt8.toInt32)))])) (fun t k => X17.baloadBytes hx (j := (2 : Int32)) (v := (.int (nar .byte ((((((4 : Int32) - (4 : Int32)).toUInt32 >>> ((8 : Int32) &&& 31).toUInt32).toInt32)).toInt8.toInt32)))) Ar_r17_21.1 (State.isArrayOf_alike hZ.alike Ar_r17_21.2.1) Ar_r17_21.2.2 hin_r17_21 hat_r17_21 (g := (mkF m 412 #[.val (.int p0), .val (.int p1), .val (.int p2), .val (.int p3), .val (.int p4), .val (.int p5), .val (.int fr), .val (.int (0 : Int32)), .val (.int (0 : Int32)), .val (.int mg), .val (.int m0), .val (.int m1), .val (.int P), .val (.int cv), .val (.ref a1), .val (.int (0 : Int32)), .val (.ref r3), .val (.ref r17), .val (.int (0 : Int32))] [(.int (2 : Int32)), (.ref r17)])) rfl rfl (hb hby D0_412.1) _ k) ?_
        refine o_ifN X17 hx hby D0_413 ((if0 _ _).trans (teq (by decide : (nar .byte ((((((4 : Int32) - (4 : Int32)).toUInt32 >>> ((8 : Int32) &&& 31).toUInt32).toInt32)).toInt8.toInt32)) = (0 : Int32))).2) ?_
        refine o_aload X17 hx hby D0_416 rfl rfl ?_
        refine o_iconst X17 hx hby D0_418 (v := 3) rfl ?_
        obtain ⟨cl_r17_22, Ar_r17_22, q_r17_22, S_r17_22, N_r17_22, H_r17_22, G_r17_22⟩ := id Vr17
        have hin_r17_22 : ¬ ((3 : Int32) < 0 ∨ cl_r17_22.slots.size ≤ ((3 : Int32)).toNatClampNeg) := inb_of S_r17_22 ⟨by decide, by decide⟩
        have hat_r17_22 : cl_r17_22.slots[((3 : Int32)).toNatClampNeg]? = some (.int (nar .byte ((((4 : Int32) - (4 : Int32))).toInt8.toInt32))) := H_r17_22.at hin_r17_22 (rfl)
        refine own_pre (A' := T17.setTop (mkF m 420 #[.val (.int p0), .val (.int p1), .val (.int p2), .val (.int p3), .val (.int p4), .val (.int p5), .val (.int fr), .val (.int (0 : Int32)), .val (.int (0 : Int32)), .val (.int mg), .val (.int m0), .val (.int m1), .val (.int P), .val (.int cv), .val (.ref a1), .val (.int (0 : Int32)), .val (.ref r3), .val (.ref r17), .val (.int (0 : Int32))] [(.int (nar .byte ((((4 : Int32) - (4 : Int32))).toInt8.toInt32)))])) (fun t k => X17.baloadBytes hx (j := (3 : Int32)) (v := (.int (nar .byte ((((4 : Int32) - (4 : Int32))).toInt8.toInt32)))) Ar_r17_22.1 (State.isArrayOf_alike hZ.alike Ar_r17_22.2.1) Ar_r17_22.2.2 hin_r17_22 hat_r17_22 (g := (mkF m 419 #[.val (.int p0), .val (.int p1), .val (.int p2), .val (.int p3), .val (.int p4), .val (.int p5), .val (.int fr), .val (.int (0 : Int32)), .val (.int (0 : Int32)), .val (.int mg), .val (.int m0), .val (.int m1), .val (.int P), .val (.int cv), .val (.ref a1), .val (.int (0 : Int32)), .val (.ref r3), .val (.ref r17), .val (.int (0 : Int32))] [(.int (3 : Int32)), (.ref r17)])) rfl rfl (hb hby D0_419.1) _ k) ?_
        refine o_sipush X17 hx hby D0_420 (v := 255) rfl ?_
        refine o_iand X17 hx hby D0_423 ?_
        refine o_iload X17 hx hby D0_424 rfl ?_
        refine o_icmpY X17 hx hby D0_426 (teq (by decide : ((nar .byte ((((4 : Int32) - (4 : Int32))).toInt8.toInt32)) &&& (255 : Int32)) = (0 : Int32))).1 (q := 431) (by decide) (by decide) ?_
        refine o_iload X17 hx hby D0_431 rfl ?_
        refine o_ifY X17 hx hby D0_433 ((if0 _ _).trans (teq (by decide : (0 : Int32) = (0 : Int32))).1) (q := 455) (by decide) (by decide) ?_
        refine o_iconst X17 hx hby D0_455 (v := 1) rfl ?_
        exact own_ret (v := some (.int (1 : Int32))) X17 (fun h => by first | rfl | (rw [Bd.returns] at h; cases h)) (BodyLoose.notSynchronized Bd) (by decide) (by decide) (⟨rfl, N17⟩) (fun fs hr => retN X17 hx (t := .boolean) Bd.returns (by simp) (hb hby D0_456.1) hr)
    · skip
      refine o_iload X2 hx hby D0_108 rfl ?_
      refine o_iconst X2 hx hby D0_110 (v := 1) rfl ?_
      refine o_icmpN X2 hx hby D0_111 (flt (by decide : ¬ ((1 : Int32) < (1 : Int32)))).1 ?_
      refine o_aload X2 hx hby D0_114 rfl rfl ?_
      refine o_iloadN X2 hx hby D0_116 rfl ?_
      obtain ⟨cq23, kq23, q23a, q23b, q23c⟩ := isOf hZ rfl E_2
      obtain ⟨_, _, ⟨T23, L23, k23, n23⟩, -, X23, ⟨Lc23, hQ23, l23, y23, z23⟩, st23⟩ := X2.virtualBack hx (y := (⟨"com/example/jetway/jetway/ajp/PacketWriter", "putByte", "(I)Lcom/example/jetway/jetway/ajp/PacketWriter;"⟩ : MethodName)) (z := (⟨"com/example/jetway/jetway/ajp/PacketWriter", "putByte", "(I)Lcom/example/jetway/jetway/ajp/PacketWriter;"⟩ : MethodName)) hown (mvT hZ (own_wd hw (i := 41) rfl)) (mvT hZ (own_wd hw (i := 42) rfl)) (notFace_of_selects (args := #[]) (mvT hZ (own_wd hw (i := 44) rfl))) (mvT hZ (own_wd hw (i := 44) rfl)) (mvT hZ (own_wd hw (i := 43) rfl)) (by decide) (backOf (W := 0) (rmPB4 l Z a0 hw [] a1 p1 bf kb mg P (.int (0 : Int32)) (.int (0 : Int32)) (.int (0 : Int32)) (.int (0 : Int32)) (.int (0 : Int32)) (.int (0 : Int32)) (.int (0 : Int32)) (.int (0 : Int32)) T2.heap n0 (own_leN (by omega)) ⟨E_2, Fm_2, Fp_2, Fb_2, Fo_2, Vb_2, Eb_2⟩ gn_a1 gn_bf nab hP) hZ (own_wd hw (i := 45) rfl) (own_wd hw (i := 3) rfl) (by decide) (by decide)) q23a q23c (g := (mkF m 117 #[.val (.int p0), .val (.int p1), .val (.int p2), .val (.int p3), .val (.int p4), .val (.int p5), .val (.int fr), .val (.int (1 : Int32)), .val (.int sc), .val (.int mg), .val (.int m0), .val (.int m1), .val (.int P), .val (.int cv), .val (.ref a1), .unset, .unset, .unset, .unset] [(.int p1), (.ref a1)])) rfl (by rw [hml]; rfl) (Steps.refl _) (argsL := [(.int p1)]) (rest := []) (lenOf pd__40I_41Lcom_47example_47jetway_47jetway_47ajp_47PacketWriter_59 rfl) rfl (by show 2 * 0 + _ ≤ _; exact Nat.le_of_eq rfl) (hb hby D0_117.1) (fun _ _ => ⟨rfl, rfl, (by decide : 2 + 0 ≤ _), (by decide : 267 + 0 ≤ _)⟩)
      dsimp only [Pt.U, Pt.locs, Pt.cells, Pt.slots] at X23 l23 y23 z23 st23 hQ23
      subst l23 y23 z23
      obtain ⟨rfl, N23q, K23, E_23, Fm_23, Fp_23, Fb_23, Fo_23, Vb_23, Eb_23⟩ := hQ23
      have sz23 := own_leN K23.1
      have N23 := Fr.app N2 N23q
      refine own_pre (A' := T23.setTop (mkF m 120 #[.val (.int p0), .val (.int p1), .val (.int p2), .val (.int p3), .val (.int p4), .val (.int p5), .val (.int fr), .val (.int (1 : Int32)), .val (.int sc), .val (.int mg), .val (.int m0), .val (.int m1), .val (.int P), .val (.int cv), .val (.ref a1), .unset, .unset, .unset, .unset] [(.ref a1)])) (fun t k => st23.trans k) ?_
      refine o_pop X23 hx hby D0_120 rfl ?_
      refine o_iload X23 hx hby D0_121 rfl ?_
      refine o_iconst X23 hx hby D0_123 (v := 2) rfl ?_
      refine o_icmpY X23 hx hby D0_124 (tlt (by decide : (1 : Int32) < (2 : Int32))).1 (q := 134) (by decide) (by decide) ?_
      refine o_iload X23 hx hby D0_134 rfl ?_
      refine o_iconst X23 hx hby D0_136 (v := 3) rfl ?_
      refine o_icmpY X23 hx hby D0_137 (tlt (by decide : (1 : Int32) < (3 : Int32))).1 (q := 148) (by decide) (by decide) ?_
      refine o_iload X23 hx hby D0_148 rfl ?_
      refine o_ifY X23 hx hby D0_150 ((if0 _ _).trans (feq (by decide : ¬ ((1 : Int32) = (0 : Int32)))).2) (q := 157) (by decide) (by decide) ?_
      refine o_iload X23 hx hby D0_157 rfl ?_
      refine o_iconst X23 hx hby D0_159 (v := 1) rfl ?_
      refine o_icmpN X23 hx hby D0_160 (teq (by decide : (1 : Int32) = (1 : Int32))).2 ?_
      refine o_iconst X23 hx hby D0_163 (v := 1) rfl ?_
      refine o_goto X23 hx hby D0_164 (q := 178) (by decide) (by decide) ?_
      refine o_istore X23 hx hby D0_178 (l' := #[.val (.int p0), .val (.int p1), .val (.int p2), .val (.int p3), .val (.int p4), .val (.int p5), .val (.int fr), .val (.int (1 : Int32)), .val (.int sc), .val (.int mg), .val (.int m0), .val (.int m1), .val (.int P), .val (.int cv), .val (.ref a1), .val (.int (1 : Int32)), .unset, .unset, .unset]) rfl ?_
      refine o_aload X23 hx hby D0_180 rfl rfl ?_
      obtain ⟨cq24, kq24, q24a, q24b, q24c⟩ := isOf hZ rfl E_23
      obtain ⟨_, _, ⟨T24, L24, k24, n24⟩, -, X24, ⟨Lc24, hQ24, l24, y24, z24⟩, st24⟩ := X23.virtualBack hx (y := (⟨"com/example/jetway/jetway/ajp/PacketWriter", "toByteArray", "()[B"⟩ : MethodName)) (z := (⟨"com/example/jetway/jetway/ajp/PacketWriter", "toByteArray", "()[B"⟩ : MethodName)) hown (mvT hZ (own_wd hw (i := 23) rfl)) (mvT hZ (own_wd hw (i := 24) rfl)) (notFace_of_selects (args := #[]) (mvT hZ (own_wd hw (i := 26) rfl))) (mvT hZ (own_wd hw (i := 26) rfl)) (mvT hZ (own_wd hw (i := 25) rfl)) (by decide) (backOf (W := 0) (rmT5 l Z a0 hw [] a1 bf kb mg P (.int (0 : Int32)) (.int (0 : Int32)) (.int (0 : Int32)) (.int (0 : Int32)) (.int (nar .byte ((p1).toInt8.toInt32))) (.int (0 : Int32)) (.int (0 : Int32)) (.int (0 : Int32)) T23.heap n0 (own_leN (by omega)) ⟨E_23, Fm_23, Fp_23, Fb_23, Fo_23, Vb_23, Eb_23⟩ gn_a1 gn_bf nab hP) hZ (own_wd hw (i := 27) rfl) (own_wd hw (i := 3) rfl) (by decide) (by decide)) q24a q24c (g := (mkF m 182 #[.val (.int p0), .val (.int p1), .val (.int p2), .val (.int p3), .val (.int p4), .val (.int p5), .val (.int fr), .val (.int (1 : Int32)), .val (.int sc), .val (.int mg), .val (.int m0), .val (.int m1), .val (.int P), .val (.int cv), .val (.ref a1), .val (.int (1 : Int32)), .unset, .unset, .unset] [(.ref a1)])) rfl (by rw [hml]; rfl) (Steps.refl _) (argsL := []) (rest := []) (lenOf pd__40_41_91B rfl) rfl (by show 2 * 0 + _ ≤ _; exact Nat.le_of_eq rfl) (hb hby D0_182.1) (fun _ _ => ⟨rfl, rfl, (by decide : 2 + 1 ≤ _), (by decide : 267 + 5 ≤ _)⟩)
      dsimp only [Pt.U, Pt.locs, Pt.cells, Pt.slots] at X24 l24 y24 z24 st24 hQ24
      subst l24 y24 z24
      obtain ⟨r24, kr24, rfl, N24q, K24, ge24, Vr24, E_24, Fm_24, Fp_24, Fb_24, Fo_24, Vb_24, Eb_24⟩ := hQ24
      have sz24 := own_leN K24.1
      have ge24' := own_leN ge24
      have lt_r24 := own_ltN Vr24.lt
      have N24 := Fr.app N23 N24q
      refine own_pre (A' := T24.setTop (mkF m 185 #[.val (.int p0), .val (.int p1), .val (.int p2), .val (.int p3), .val (.int p4), .val (.int p5), .val (.int fr), .val (.int (1 : Int32)), .val (.int sc), .val (.int mg), .val (.int m0), .val (.int m1), .val (.int P), .val (.int cv), .val (.ref a1), .val (.int (1 : Int32)), .unset, .unset, .unset] [(.ref r24)])) (fun t k => st24.trans k) ?_
      refine o_astore X24 hx hby D0_185 rfl (l' := #[.val (.int p0), .val (.int p1), .val (.int p2), .val (.int p3), .val (.int p4), .val (.int p5), .val (.int fr), .val (.int (1 : Int32)), .val (.int sc), .val (.int mg), .val (.int m0), .val (.int m1), .val (.int P), .val (.int cv), .val (.ref a1), .val (.int (1 : Int32)), .val (.ref r24), .unset, .unset]) rfl ?_
      refine o_aload X24 hx hby D0_187 rfl rfl ?_
      obtain ⟨cl_r24_25, Ar_r24_25, q_r24_25, S_r24_25, N_r24_25, H_r24_25, G_r24_25⟩ := id Vr24
      refine own_pre (A' := T24.setTop (mkF m 190 #[.val (.int p0), .val (.int p1), .val (.int p2), .val (.int p3), .val (.int p4), .val (.int p5), .val (.int fr), .val (.int (1 : Int32)), .val (.int sc), .val (.int mg), .val (.int m0), .val (.int m1), .val (.int P), .val (.int cv), .val (.ref a1), .val (.int (1 : Int32)), .val (.ref r24), .unset, .unset] [(.int (5 : Int32))])) (fun t k => X24.arraylength hx Ar_r24_25.1 (State.isArrayOf_alike hZ.alike Ar_r24_25.2.1) (g := (mkF m 189 #[.val (.int p0), .val (.int p1), .val (.int p2), .val (.int p3), .val (.int p4), .val (.int p5), .val (.int fr), .val (.int (1 : Int32)), .val (.int sc), .val (.int mg), .val (.int m0), .val (.int m1), .val (.int P), .val (.int cv), .val (.ref a1), .val (.int (1 : Int32)), .val (.ref r24), .unset, .unset] [(.ref r24)])) rfl rfl (hb hby D0_189.1) _ (by rw [len_of S_r24_25 N_r24_25]; exact k)) ?_
      refine o_iconst X24 hx hby D0_190 (v := 4) rfl ?_
      refine o_iload X24 hx hby D0_191 rfl ?_
      refine o_iadd X24 hx hby D0_193 ?_
      refine o_icmpY X24 hx hby D0_194 (teq (by decide : (5 : Int32) = ((4 : Int32) + (1 : Int32)))).1 (q := 199) (by decide) (by decide) ?_
      refine o_aload X24 hx hby D0_199 rfl rfl ?_
      refine o_iconst X24 hx hby D0_201 (v := 0) rfl ?_
      obtain ⟨cl_r24_26, Ar_r24_26, q_r24_26, S_r24_26, N_r24_26, H_r24_26, G_r24_26⟩ := id Vr24
      have hin_r24_26 : ¬ ((0 : Int32) < 0 ∨ cl_r24_26.slots.size ≤ ((0 : Int32)).toNatClampNeg) := inb_of S_r24_26 ⟨by decide, by decide⟩
      have hat_r24_26 : cl_r24_26.slots[((0 : Int32)).toNatClampNeg]? = some (.int (nar .byte ((((mg.toUInt32 >>> ((8 : Int32) &&& 31).toUInt32).toInt32)).toInt8.toInt32))) := H_r24_26.at hin_r24_26 (rfl)
      refine own_pre (A' := T24.setTop (mkF m 203 #[.val (.int p0), .val (.int p1), .val (.int p2), .val (.int p3), .val (.int p4), .val (.int p5), .val (.int fr), .val (.int (1 : Int32)), .val (.int sc), .val (.int mg), .val (.int m0), .val (.int m1), .val (.int P), .val (.int cv), .val (.ref a1), .val (.int (1 : Int32)), .val (.ref r24), .unset, .unset] [(.int (nar .byte ((((mg.toUInt32 >>> ((8 : Int32) &&& 31).toUInt32).toInt32)).toInt8.toInt32)))])) (fun t k => X24.baloadBytes hx (j := (0 : Int32)) (v := (.int (nar .byte ((((mg.toUInt32 >>> ((8 : Int32) &&& 31).toUInt32).toInt32)).toInt8.toInt32)))) Ar_r24_26.1 (State.isArrayOf_alike hZ.alike Ar_r24_26.2.1) Ar_r24_26.2.2 hin_r24_26 hat_r24_26 (g := (mkF m 202 #[.val (.int p0), .val (.int p1), .val (.int p2), .val (.int p3), .val (.int p4), .val (.int p5), .val (.int fr), .val (.int (1 : Int32)), .val (.int sc), .val (.int mg), .val (.int m0), .val (.int m1), .val (.int P), .val (.int cv), .val (.ref a1), .val (.int (1 : Int32)), .val (.ref r24), .unset, .unset] [(.int (0 : Int32)), (.ref r24)])) rfl rfl (hb hby D0_202.1) _ k) ?_
      refine o_sipush X24 hx hby D0_203 (v := 255) rfl ?_
      refine o_iand X24 hx hby D0_206 ?_
      refine o_iload X24 hx hby D0_207 rfl ?_
      refine o_icmpN X24 hx hby D0_209 (teq (hmg.1 : ((nar .byte ((((mg.toUInt32 >>> ((8 : Int32) &&& 31).toUInt32).toInt32)).toInt8.toInt32)) &&& (255 : Int32)) = m0)).2 ?_
      refine o_aload X24 hx hby D0_212 rfl rfl ?_
      refine o_iconst X24 hx hby D0_214 (v := 1) rfl ?_
      obtain ⟨cl_r24_27, Ar_r24_27, q_r24_27, S_r24_27, N_r24_27, H_r24_27, G_r24_27⟩ := id Vr24
      have hin_r24_27 : ¬ ((1 : Int32) < 0 ∨ cl_r24_27.slots.size ≤ ((1 : Int32)).toNatClampNeg) := inb_of S_r24_27 ⟨by decide, by decide⟩
      have hat_r24_27 : cl_r24_27.slots[((1 : Int32)).toNatClampNeg]? = some (.int (nar .byte ((mg).toInt8.toInt32))) := H_r24_27.at hin_r24_27 (rfl)
      refine own_pre (A' := T24.setTop (mkF m 216 #[.val (.int p0), .val (.int p1), .val (.int p2), .val (.int p3), .val (.int p4), .val (.int p5), .val (.int fr), .val (.int (1 : Int32)), .val (.int sc), .val (.int mg), .val (.int m0), .val (.int m1), .val (.int P), .val (.int cv), .val (.ref a1), .val (.int (1 : Int32)), .val (.ref r24), .unset, .unset] [(.int (nar .byte ((mg).toInt8.toInt32)))])) (fun t k => X24.baloadBytes hx (j := (1 : Int32)) (v := (.int (nar .byte ((mg).toInt8.toInt32)))) Ar_r24_27.1 (State.isArrayOf_alike hZ.alike Ar_r24_27.2.1) Ar_r24_27.2.2 hin_r24_27 hat_r24_27 (g := (mkF m 215 #[.val (.int p0), .val (.int p1), .val (.int p2), .val (.int p3), .val (.int p4), .val (.int p5), .val (.int fr), .val (.int (1 : Int32)), .val (.int sc), .val (.int mg), .val (.int m0), .val (.int m1), .val (.int P), .val (.int cv), .val (.ref a1), .val (.int (1 : Int32)), .val (.ref r24), .unset, .unset] [(.int (1 : Int32)), (.ref r24)])) rfl rfl (hb hby D0_215.1) _ k) ?_
      refine o_sipush X24 hx hby D0_216 (v := 255) rfl ?_
      refine o_iand X24 hx hby D0_219 ?_
      refine o_iload X24 hx hby D0_220 rfl ?_
      refine o_icmpN X24 hx hby D0_222 (teq (hmg.2 : ((nar .byte ((mg).toInt8.toInt32)) &&& (255 : Int32)) = m1)).2 ?_
      refine o_aload X24 hx hby D0_225 rfl rfl ?_
      refine o_iconst X24 hx hby D0_227 (v := 2) rfl ?_
      obtain ⟨cl_r24_28, Ar_r24_28, q_r24_28, S_r24_28, N_r24_28, H_r24_28, G_r24_28⟩ := id Vr24
      have hin_r24_28 : ¬ ((2 : Int32) < 0 ∨ cl_r24_28.slots.size ≤ ((2 : Int32)).toNatClampNeg) := inb_of S_r24_28 ⟨by decide, by decide⟩
      have hat_r24_28 : cl_r24_28.slots[((2 : Int32)).toNatClampNeg]? = some (.int (nar .byte ((((((5 : Int32) - (4 : Int32)).toUInt32 >>> ((8 : Int32) &&& 31).toUInt32).toInt32)).toInt8.toInt32))) := H_r24_28.at hin_r24_28 (rfl)
      refine own_pre (A' := T24.setTop (mkF m 229 #[.val (.int p0), .val (.int p1), .val (.int p2), .val (.int p3), .val (.int p4), .val (.int p5), .val (.int fr), .val (.int (1 : Int32)), .val (.int sc), .val (.int mg), .val (.int m0), .val (.int m1), .val (.int P), .val (.int cv), .val (.ref a1), .val (.int (1 : Int32)), .val (.ref r24), .unset, .unset] [(.int (nar .byte ((((((5 : Int32) - (4 : Int32)).toUInt32 >>> ((8 : Int32) &&& 31).toUInt32).toInt32)).toInt8.toInt32)))])) (fun t k => X24.baloadBytes hx (j := (2 : Int32)) (v := (.int (nar .byte ((((((5 : Int32) - (4 : Int32)).toUInt32 >>> ((8 : Int32) &&& 31).toUInt32).toInt32)).toInt8.toInt32)))) Ar_r24_28.1 (State.isArrayOf_alike hZ.alike Ar_r24_28.2.1) Ar_r24_28.2.2 hin_r24_28 hat_r24_28 (g := (mkF m 228 #[.val (.int p0), .val (.int p1), .val (.int p2), .val (.int p3), .val (.int p4), .val (.int p5), .val (.int fr), .val (.int (1 : Int32)), .val (.int sc), .val (.int mg), .val (.int m0), .val (.int m1), .val (.int P), .val (.int cv), .val (.ref a1), .val (.int (1 : Int32)), .val (.ref r24), .unset, .unset] [(.int (2 : Int32)), (.ref r24)])) rfl rfl (hb hby D0_228.1) _ k) ?_
      refine o_ifN X24 hx hby D0_229 ((if0 _ _).trans (teq (by decide : (nar .byte ((((((5 : Int32) - (4 : Int32)).toUInt32 >>> ((8 : Int32) &&& 31).toUInt32).toInt32)).toInt8.toInt32)) = (0 : Int32))).2) ?_
      refine o_aload X24 hx hby D0_232 rfl rfl ?_
      refine o_iconst X24 hx hby D0_234 (v := 3) rfl ?_
      obtain ⟨cl_r24_29, Ar_r24_29, q_r24_29, S_r24_29, N_r24_29, H_r24_29, G_r24_29⟩ := id Vr24
      have hin_r24_29 : ¬ ((3 : Int32) < 0 ∨ cl_r24_29.slots.size ≤ ((3 : Int32)).toNatClampNeg) := inb_of S_r24_29 ⟨by decide, by decide⟩
      have hat_r24_29 : cl_r24_29.slots[((3 : Int32)).toNatClampNeg]? = some (.int (nar .byte ((((5 : Int32) - (4 : Int32))).toInt8.toInt32))) := H_r24_29.at hin_r24_29 (rfl)
      refine own_pre (A' := T24.setTop (mkF m 236 #[.val (.int p0), .val (.int p1), .val (.int p2), .val (.int p3), .val (.int p4), .val (.int p5), .val (.int fr), .val (.int (1 : Int32)), .val (.int sc), .val (.int mg), .val (.int m0), .val (.int m1), .val (.int P), .val (.int cv), .val (.ref a1), .val (.int (1 : Int32)), .val (.ref r24), .unset, .unset] [(.int (nar .byte ((((5 : Int32) - (4 : Int32))).toInt8.toInt32)))])) (fun t k => X24.baloadBytes hx (j := (3 : Int32)) (v := (.int (nar .byte ((((5 : Int32) - (4 : Int32))).toInt8.toInt32)))) Ar_r24_29.1 (State.isArrayOf_alike hZ.alike Ar_r24_29.2.1) Ar_r24_29.2.2 hin_r24_29 hat_r24_29 (g := (mkF m 235 #[.val (.int p0), .val (.int p1), .val (.int p2), .val (.int p3), .val (.int p4), .val (.int p5), .val (.int fr), .val (.int (1 : Int32)), .val (.int sc), .val (.int mg), .val (.int m0), .val (.int m1), .val (.int P), .val (.int cv), .val (.ref a1), .val (.int (1 : Int32)), .val (.ref r24), .unset, .unset] [(.int (3 : Int32)), (.ref r24)])) rfl rfl (hb hby D0_235.1) _ k) ?_
      refine o_sipush X24 hx hby D0_236 (v := 255) rfl ?_
      refine o_iand X24 hx hby D0_239 ?_
      refine o_iload X24 hx hby D0_240 rfl ?_
      refine o_icmpY X24 hx hby D0_242 (teq (by decide : ((nar .byte ((((5 : Int32) - (4 : Int32))).toInt8.toInt32)) &&& (255 : Int32)) = (1 : Int32))).1 (q := 247) (by decide) (by decide) ?_
      refine o_iload X24 hx hby D0_247 rfl ?_
      refine o_iconst X24 hx hby D0_249 (v := 1) rfl ?_
      refine o_icmpN X24 hx hby D0_250 (flt (by decide : ¬ ((1 : Int32) < (1 : Int32)))).1 ?_
      refine o_aload X24 hx hby D0_253 rfl rfl ?_
      refine o_iconst X24 hx hby D0_255 (v := 4) rfl ?_
      obtain ⟨cl_r24_30, Ar_r24_30, q_r24_30, S_r24_30, N_r24_30, H_r24_30, G_r24_30⟩ := id Vr24
      have hin_r24_30 : ¬ ((4 : Int32) < 0 ∨ cl_r24_30.slots.size ≤ ((4 : Int32)).toNatClampNeg) := inb_of S_r24_30 ⟨by decide, by decide⟩
      have hat_r24_30 : cl_r24_30.slots[((4 : Int32)).toNatClampNeg]? = some (.int (nar .byte ((p1).toInt8.toInt32))) := H_r24_30.at hin_r24_30 (rfl)
      refine own_pre (A' := T24.setTop (mkF m 257 #[.val (.int p0), .val (.int p1), .val (.int p2), .val (.int p3), .val (.int p4), .val (.int p5), .val (.int fr), .val (.int (1 : Int32)), .val (.int sc), .val (.int mg), .val (.int m0), .val (.int m1), .val (.int P), .val (.int cv), .val (.ref a1), .val (.int (1 : Int32)), .val (.ref r24), .unset, .unset] [(.int (nar .byte ((p1).toInt8.toInt32)))])) (fun t k => X24.baloadBytes hx (j := (4 : Int32)) (v := (.int (nar .byte ((p1).toInt8.toInt32)))) Ar_r24_30.1 (State.isArrayOf_alike hZ.alike Ar_r24_30.2.1) Ar_r24_30.2.2 hin_r24_30 hat_r24_30 (g := (mkF m 256 #[.val (.int p0), .val (.int p1), .val (.int p2), .val (.int p3), .val (.int p4), .val (.int p5), .val (.int fr), .val (.int (1 : Int32)), .val (.int sc), .val (.int mg), .val (.int m0), .val (.int m1), .val (.int P), .val (.int cv), .val (.ref a1), .val (.int (1 : Int32)), .val (.ref r24), .unset, .unset] [(.int (4 : Int32)), (.ref r24)])) rfl rfl (hb hby D0_256.1) _ k) ?_
      refine o_sipush X24 hx hby D0_257 (v := 255) rfl ?_
      refine o_iand X24 hx hby D0_260 ?_
      refine o_iloadN X24 hx hby D0_261 rfl ?_
      refine o_sipush X24 hx hby D0_262 (v := 255) rfl ?_
      refine o_iand X24 hx hby D0_265 ?_
      refine o_icmpY X24 hx hby D0_266 (teq (own_byte _ : ((nar .byte ((p1).toInt8.toInt32)) &&& (255 : Int32)) = (p1 &&& (255 : Int32)))).1 (q := 271) (by decide) (by decide) ?_
      refine o_iload X24 hx hby D0_271 rfl ?_
      refine o_iconst X24 hx hby D0_273 (v := 2) rfl ?_
      refine o_icmpY X24 hx hby D0_274 (tlt (by decide : (1 : Int32) < (2 : Int32))).1 (q := 295) (by decide) (by decide) ?_
      refine o_iload X24 hx hby D0_295 rfl ?_
      refine o_iconst X24 hx hby D0_297 (v := 3) rfl ?_
      refine o_icmpY X24 hx hby D0_298 (tlt (by decide : (1 : Int32) < (3 : Int32))).1 (q := 339) (by decide) (by decide) ?_
      rcases hsc with rfl | rfl
      · skip
        refine o_iload X24 hx hby D0_339 rfl ?_
        refine o_ifN X24 hx hby D0_341 ((if0 _ _).trans (feq (by decide : ¬ ((1 : Int32) = (0 : Int32)))).1) ?_
        refine o_aload X24 hx hby D0_344 rfl rfl ?_
        refine o_iload X24 hx hby D0_346 rfl ?_
        obtain ⟨cq31, kq31, q31a, q31b, q31c⟩ := isOf hZ rfl E_24
        obtain ⟨_, _, ⟨T31, L31, k31, n31⟩, -, X31, ⟨Lc31, hQ31, l31, y31, z31⟩, st31⟩ := X24.virtualBack hx (y := (⟨"com/example/jetway/jetway/ajp/PacketWriter", "putByte", "(I)Lcom/example/jetway/jetway/ajp/PacketWriter;"⟩ : MethodName)) (z := (⟨"com/example/jetway/jetway/ajp/PacketWriter", "putByte", "(I)Lcom/example/jetway/jetway/ajp/PacketWriter;"⟩ : MethodName)) hown (mvT hZ (own_wd hw (i := 41) rfl)) (mvT hZ (own_wd hw (i := 42) rfl)) (notFace_of_selects (args := #[]) (mvT hZ (own_wd hw (i := 44) rfl))) (mvT hZ (own_wd hw (i := 44) rfl)) (mvT hZ (own_wd hw (i := 43) rfl)) (by decide) (backOf (W := 0) (rmPB4 l Z a0 hw [] a1 p5 bf kb mg P (.int (nar .byte ((((mg.toUInt32 >>> ((8 : Int32) &&& 31).toUInt32).toInt32)).toInt8.toInt32))) (.int (nar .byte ((mg).toInt8.toInt32))) (.int (nar .byte ((((((5 : Int32) - (4 : Int32)).toUInt32 >>> ((8 : Int32) &&& 31).toUInt32).toInt32)).toInt8.toInt32))) (.int (nar .byte ((((5 : Int32) - (4 : Int32))).toInt8.toInt32))) (.int (nar .byte ((p1).toInt8.toInt32))) (.int (0 : Int32)) (.int (0 : Int32)) (.int (0 : Int32)) T24.heap n0 (own_leN (by omega)) ⟨E_24, Fm_24, Fp_24, Fb_24, Fo_24, Vb_24, Eb_24⟩ gn_a1 gn_bf nab hP) hZ (own_wd hw (i := 45) rfl) (own_wd hw (i := 3) rfl) (by decide) (by decide)) q31a q31c (g := (mkF m 348 #[.val (.int p0), .val (.int p1), .val (.int p2), .val (.int p3), .val (.int p4), .val (.int p5), .val (.int fr), .val (.int (1 : Int32)), .val (.int (1 : Int32)), .val (.int mg), .val (.int m0), .val (.int m1), .val (.int P), .val (.int cv), .val (.ref a1), .val (.int (1 : Int32)), .val (.ref r24), .unset, .unset] [(.int p5), (.ref a1)])) rfl (by rw [hml]; rfl) (Steps.refl _) (argsL := [(.int p5)]) (rest := []) (lenOf pd__40I_41Lcom_47example_47jetway_47jetway_47ajp_47PacketWriter_59 rfl) rfl (by show 2 * 0 + _ ≤ _; exact Nat.le_of_eq rfl) (hb hby D0_348.1) (fun _ _ => ⟨rfl, rfl, (by decide : 3 + 0 ≤ _), (by decide : 272 + 0 ≤ _)⟩)
        dsimp only [Pt.U, Pt.locs, Pt.cells, Pt.slots] at X31 l31 y31 z31 st31 hQ31
        subst l31 y31 z31
        obtain ⟨rfl, N31q, K31, E_31, Fm_31, Fp_31, Fb_31, Fo_31, Vb_31, Eb_31⟩ := hQ31
        have sz31 := own_leN K31.1
        have N31 := Fr.app N24 N31q
        refine own_pre (A' := T31.setTop (mkF m 351 #[.val (.int p0), .val (.int p1), .val (.int p2), .val (.int p3), .val (.int p4), .val (.int p5), .val (.int fr), .val (.int (1 : Int32)), .val (.int (1 : Int32)), .val (.int mg), .val (.int m0), .val (.int m1), .val (.int P), .val (.int cv), .val (.ref a1), .val (.int (1 : Int32)), .val (.ref r24), .unset, .unset] [(.ref a1)])) (fun t k => st31.trans k) ?_
        refine o_pop X31 hx hby D0_351 rfl ?_
        refine o_aload X31 hx hby D0_352 rfl rfl ?_
        obtain ⟨cq32, kq32, q32a, q32b, q32c⟩ := isOf hZ rfl E_31
        obtain ⟨_, _, ⟨T32, L32, k32, n32⟩, -, X32, ⟨Lc32, hQ32, l32, y32, z32⟩, st32⟩ := X31.virtualBack hx (y := (⟨"com/example/jetway/jetway/ajp/PacketWriter", "toByteArray", "()[B"⟩ : MethodName)) (z := (⟨"com/example/jetway/jetway/ajp/PacketWriter", "toByteArray", "()[B"⟩ : MethodName)) hown (mvT hZ (own_wd hw (i := 23) rfl)) (mvT hZ (own_wd hw (i := 24) rfl)) (notFace_of_selects (args := #[]) (mvT hZ (own_wd hw (i := 26) rfl))) (mvT hZ (own_wd hw (i := 26) rfl)) (mvT hZ (own_wd hw (i := 25) rfl)) (by decide) (backOf (W := 0) (rmT5 l Z a0 hw [] a1 bf kb mg P (.int (nar .byte ((((mg.toUInt32 >>> ((8 : Int32) &&& 31).toUInt32).toInt32)).toInt8.toInt32))) (.int (nar .byte ((mg).toInt8.toInt32))) (.int (nar .byte ((((((5 : Int32) - (4 : Int32)).toUInt32 >>> ((8 : Int32) &&& 31).toUInt32).toInt32)).toInt8.toInt32))) (.int (nar .byte ((((5 : Int32) - (4 : Int32))).toInt8.toInt32))) (.int (nar .byte ((p5).toInt8.toInt32))) (.int (0 : Int32)) (.int (0 : Int32)) (.int (0 : Int32)) T31.heap n0 (own_leN (by omega)) ⟨E_31, Fm_31, Fp_31, Fb_31, Fo_31, Vb_31, Eb_31⟩ gn_a1 gn_bf nab hP) hZ (own_wd hw (i := 27) rfl) (own_wd hw (i := 3) rfl) (by decide) (by decide)) q32a q32c (g := (mkF m 354 #[.val (.int p0), .val (.int p1), .val (.int p2), .val (.int p3), .val (.int p4), .val (.int p5), .val (.int fr), .val (.int (1 : Int32)), .val (.int (1 : Int32)), .val (.int mg), .val (.int m0), .val (.int m1), .val (.int P), .val (.int cv), .val (.ref a1), .val (.int (1 : Int32)), .val (.ref r24), .unset, .unset] [(.ref a1)])) rfl (by rw [hml]; rfl) (Steps.refl _) (argsL := []) (rest := []) (lenOf pd__40_41_91B rfl) rfl (by show 2 * 0 + _ ≤ _; exact Nat.le_of_eq rfl) (hb hby D0_354.1) (fun _ _ => ⟨rfl, rfl, (by decide : 3 + 1 ≤ _), (by decide : 272 + 5 ≤ _)⟩)
        dsimp only [Pt.U, Pt.locs, Pt.cells, Pt.slots] at X32 l32 y32 z32 st32 hQ32
        subst l32 y32 z32
        obtain ⟨r32, kr32, rfl, N32q, K32, ge32, Vr32, E_32, Fm_32, Fp_32, Fb_32, Fo_32, Vb_32, Eb_32⟩ := hQ32
        have sz32 := own_leN K32.1
        have ge32' := own_leN ge32
        have lt_r32 := own_ltN Vr32.lt
        have N32 := Fr.app N31 N32q
        refine own_pre (A' := T32.setTop (mkF m 357 #[.val (.int p0), .val (.int p1), .val (.int p2), .val (.int p3), .val (.int p4), .val (.int p5), .val (.int fr), .val (.int (1 : Int32)), .val (.int (1 : Int32)), .val (.int mg), .val (.int m0), .val (.int m1), .val (.int P), .val (.int cv), .val (.ref a1), .val (.int (1 : Int32)), .val (.ref r24), .unset, .unset] [(.ref r32)])) (fun t k => st32.trans k) ?_
        refine o_astore X32 hx hby D0_357 rfl (l' := #[.val (.int p0), .val (.int p1), .val (.int p2), .val (.int p3), .val (.int p4), .val (.int p5), .val (.int fr), .val (.int (1 : Int32)), .val (.int (1 : Int32)), .val (.int mg), .val (.int m0), .val (.int m1), .val (.int P), .val (.int cv), .val (.ref a1), .val (.int (1 : Int32)), .val (.ref r24), .val (.ref r32), .unset]) rfl ?_
        refine o_iload X32 hx hby D0_359 rfl ?_
        refine o_ifN X32 hx hby D0_361 ((if0 _ _).trans (feq (by decide : ¬ ((1 : Int32) = (0 : Int32)))).1) ?_
        refine o_iconst X32 hx hby D0_364 (v := 1) rfl ?_
        refine o_goto X32 hx hby D0_365 (q := 369) (by decide) (by decide) ?_
        refine o_istore X32 hx hby D0_369 (l' := #[.val (.int p0), .val (.int p1), .val (.int p2), .val (.int p3), .val (.int p4), .val (.int p5), .val (.int fr), .val (.int (1 : Int32)), .val (.int (1 : Int32)), .val (.int mg), .val (.int m0), .val (.int m1), .val (.int P), .val (.int cv), .val (.ref a1), .val (.int (1 : Int32)), .val (.ref r24), .val (.ref r32), .val (.int (1 : Int32))]) rfl ?_
        refine o_aload X32 hx hby D0_371 rfl rfl ?_
        obtain ⟨cl_r32_33, Ar_r32_33, q_r32_33, S_r32_33, N_r32_33, H_r32_33, G_r32_33⟩ := id Vr32
        refine own_pre (A' := T32.setTop (mkF m 374 #[.val (.int p0), .val (.int p1), .val (.int p2), .val (.int p3), .val (.int p4), .val (.int p5), .val (.int fr), .val (.int (1 : Int32)), .val (.int (1 : Int32)), .val (.int mg), .val (.int m0), .val (.int m1), .val (.int P), .val (.int cv), .val (.ref a1), .val (.int (1 : Int32)), .val (.ref r24), .val (.ref r32), .val (.int (1 : Int32))] [(.int (5 : Int32))])) (fun t k => X32.arraylength hx Ar_r32_33.1 (State.isArrayOf_alike hZ.alike Ar_r32_33.2.1) (g := (mkF m 373 #[.val (.int p0), .val (.int p1), .val (.int p2), .val (.int p3), .val (.int p4), .val (.int p5), .val (.int fr), .val (.int (1 : Int32)), .val (.int (1 : Int32)), .val (.int mg), .val (.int m0), .val (.int m1), .val (.int P), .val (.int cv), .val (.ref a1), .val (.int (1 : Int32)), .val (.ref r24), .val (.ref r32), .val (.int (1 : Int32))] [(.ref r32)])) rfl rfl (hb hby D0_373.1) _ (by rw [len_of S_r32_33 N_r32_33]; exact k)) ?_
        refine o_iconst X32 hx hby D0_374 (v := 4) rfl ?_
        refine o_iload X32 hx hby D0_375 rfl ?_
        refine o_iadd X32 hx hby D0_377 ?_
        refine o_icmpY X32 hx hby D0_378 (teq (by decide : (5 : Int32) = ((4 : Int32) + (1 : Int32)))).1 (q := 383) (by decide) (by decide) ?_
        refine o_aload X32 hx hby D0_383 rfl rfl ?_
        refine o_iconst X32 hx hby D0_385 (v := 0) rfl ?_
        obtain ⟨cl_r32_34, Ar_r32_34, q_r32_34, S_r32_34, N_r32_34, H_r32_34, G_r32_34⟩ := id Vr32
        have hin_r32_34 : ¬ ((0 : Int32) < 0 ∨ cl_r32_34.slots.size ≤ ((0 : Int32)).toNatClampNeg) := inb_of S_r32_34 ⟨by decide, by decide⟩
        have hat_r32_34 : cl_r32_34.slots[((0 : Int32)).toNatClampNeg]? = some (.int (nar .byte ((((mg.toUInt32 >>> ((8 : Int32) &&& 31).toUInt32).toInt32)).toInt8.toInt32))) := H_r32_34.at hin_r32_34 (rfl)
        refine own_pre (A' := T32.setTop (mkF m 387 #[.val (.int p0), .val (.int p1), .val (.int p2), .val (.int p3), .val (.int p4), .val (.int p5), .val (.int fr), .val (.int (1 : Int32)), .val (.int (1 : Int32)), .val (.int mg), .val (.int m0), .val (.int m1), .val (.int P), .val (.int cv), .val (.ref a1), .val (.int (1 : Int32)), .val (.ref r24), .val (.ref r32), .val (.int (1 : Int32))] [(.int (nar .byte ((((mg.toUInt32 >>> ((8 : Int32) &&& 31).toUInt32).toInt32)).toInt8.toInt32)))])) (fun t k => X32.baloadBytes hx (j := (0 : Int32)) (v := (.int (nar .byte ((((mg.toUInt32 >>> ((8 : Int32) &&& 31).toUInt32).toInt32)).toInt8.toInt32)))) Ar_r32_34.1 (State.isArrayOf_alike hZ.alike Ar_r32_34.2.1) Ar_r32_34.2.2 hin_r32_34 hat_r32_34 (g := (mkF m 386 #[.val (.int p0), .val (.int p1), .val (.int p2), .val (.int p3), .val (.int p4), .val (.int p5), .val (.int fr), .val (.int (1 : Int32)), .val (.int (1 : Int32)), .val (.int mg), .val (.int m0), .val (.int m1), .val (.int P), .val (.int cv), .val (.ref a1), .val (.int (1 : Int32)), .val (.ref r24), .val (.ref r32), .val (.int (1 : Int32))] [(.int (0 : Int32)), (.ref r32)])) rfl rfl (hb hby D0_386.1) _ k) ?_
        refine o_sipush X32 hx hby D0_387 (v := 255) rfl ?_
        refine o_iand X32 hx hby D0_390 ?_
        refine o_iload X32 hx hby D0_391 rfl ?_
        refine o_icmpN X32 hx hby D0_393 (teq (hmg.1 : ((nar .byte ((((mg.toUInt32 >>> ((8 : Int32) &&& 31).toUInt32).toInt32)).toInt8.toInt32)) &&& (255 : Int32)) = m0)).2 ?_
        refine o_aload X32 hx hby D0_396 rfl rfl ?_
        refine o_iconst X32 hx hby D0_398 (v := 1) rfl ?_
        obtain ⟨cl_r32_35, Ar_r32_35, q_r32_35, S_r32_35, N_r32_35, H_r32_35, G_r32_35⟩ := id Vr32
        have hin_r32_35 : ¬ ((1 : Int32) < 0 ∨ cl_r32_35.slots.size ≤ ((1 : Int32)).toNatClampNeg) := inb_of S_r32_35 ⟨by decide, by decide⟩
        have hat_r32_35 : cl_r32_35.slots[((1 : Int32)).toNatClampNeg]? = some (.int (nar .byte ((mg).toInt8.toInt32))) := H_r32_35.at hin_r32_35 (rfl)
        refine own_pre (A' := T32.setTop (mkF m 400 #[.val (.int p0), .val (.int p1), .val (.int p2), .val (.int p3), .val (.int p4), .val (.int p5), .val (.int fr), .val (.int (1 : Int32)), .val (.int (1 : Int32)), .val (.int mg), .val (.int m0), .val (.int m1), .val (.int P), .val (.int cv), .val (.ref a1), .val (.int (1 : Int32)), .val (.ref r24), .val (.ref r32), .val (.int (1 : Int32))] [(.int (nar .byte ((mg).toInt8.toInt32)))])) (fun t k => X32.baloadBytes hx (j := (1 : Int32)) (v := (.int (nar .byte ((mg).toInt8.toInt32)))) Ar_r32_35.1 (State.isArrayOf_alike hZ.alike Ar_r32_35.2.1) Ar_r32_35.2.2 hin_r32_35 hat_r32_35 (g := (mkF m 399 #[.val (.int p0), .val (.int p1), .val (.int p2), .val (.int p3), .val (.int p4), .val (.int p5), .val (.int fr), .val (.int (1 : Int32)), .val (.int (1 : Int32)), .val (.int mg), .val (.int m0), .val (.int m1), .val (.int P), .val (.int cv), .val (.ref a1), .val (.int (1 : Int32)), .val (.ref r24), .val (.ref r32), .val (.int (1 : Int32))] [(.int (1 : Int32)), (.ref r32)])) rfl rfl (hb hby D0_399.1) _ k) ?_
        refine o_sipush X32 hx hby D0_400 (v := 255) rfl ?_
        refine o_iand X32 hx hby D0_403 ?_
        refine o_iload X32 hx hby D0_404 rfl ?_
        refine o_icmpN X32 hx hby D0_406 (teq (hmg.2 : ((nar .byte ((mg).toInt8.toInt32)) &&& (255 : Int32)) = m1)).2 ?_
        refine o_aload X32 hx hby D0_409 rfl rfl ?_
        refine o_iconst X32 hx hby D0_411 (v := 2) rfl ?_
        obtain ⟨cl_r32_36, Ar_r32_36, q_r32_36, S_r32_36, N_r32_36, H_r32_36, G_r32_36⟩ := id Vr32
        have hin_r32_36 : ¬ ((2 : Int32) < 0 ∨ cl_r32_36.slots.size ≤ ((2 : Int32)).toNatClampNeg) := inb_of S_r32_36 ⟨by decide, by decide⟩
        have hat_r32_36 : cl_r32_36.slots[((2 : Int32)).toNatClampNeg]? = some (.int (nar .byte ((((((5 : Int32) - (4 : Int32)).toUInt32 >>> ((8 : Int32) &&& 31).toUInt32).toInt32)).toInt8.toInt32))) := H_r32_36.at hin_r32_36 (rfl)
        refine own_pre (A' := T32.setTop (mkF m 413 #[.val (.int p0), .val (.int p1), .val (.int p2), .val (.int p3), .val (.int p4), .val (.int p5), .val (.int fr), .val (.int (1 : Int32)), .val (.int (1 : Int32)), .val (.int mg), .val (.int m0), .val (.int m1), .val (.int P), .val (.int cv), .val (.ref a1), .val (.int (1 : Int32)), .val (.ref r24), .val (.ref r32), .val (.int (1 : Int32))] [(.int (nar .byte ((((((5 : Int32) - (4 : Int32)).toUInt32 >>> ((8 : Int32) &&& 31).toUInt32).toInt32)).toInt8.toInt32)))])) (fun t k => X32.baloadBytes hx (j := (2 : Int32)) (v := (.int (nar .byte ((((((5 : Int32) - (4 : Int32)).toUInt32 >>> ((8 : Int32) &&& 31).toUInt32).toInt32)).toInt8.toInt32)))) Ar_r32_36.1 (State.isArrayOf_alike hZ.alike Ar_r32_36.2.1) Ar_r32_36.2.2 hin_r32_36 hat_r32_36 (g := (mkF m 412 #[.val (.int p0), .val (.int p1), .val (.int p2), .val (.int p3), .val (.int p4), .val (.int p5), .val (.int fr), .val (.int (1 : Int32)), .val (.int (1 : Int32)), .val (.int mg), .val (.int m0), .val (.int m1), .val (.int P), .val (.int cv), .val (.ref a1), .val (.int (1 : Int32)), .val (.ref r24), .val (.ref r32), .val (.int (1 : Int32))] [(.int (2 : Int32)), (.ref r32)])) rfl rfl (hb hby D0_412.1) _ k) ?_
        refine o_ifN X32 hx hby D0_413 ((if0 _ _).trans (teq (by decide : (nar .byte ((((((5 : Int32) - (4 : Int32)).toUInt32 >>> ((8 : Int32) &&& 31).toUInt32).toInt32)).toInt8.toInt32)) = (0 : Int32))).2) ?_
        refine o_aload X32 hx hby D0_416 rfl rfl ?_
        refine o_iconst X32 hx hby D0_418 (v := 3) rfl ?_
        obtain ⟨cl_r32_37, Ar_r32_37, q_r32_37, S_r32_37, N_r32_37, H_r32_37, G_r32_37⟩ := id Vr32
        have hin_r32_37 : ¬ ((3 : Int32) < 0 ∨ cl_r32_37.slots.size ≤ ((3 : Int32)).toNatClampNeg) := inb_of S_r32_37 ⟨by decide, by decide⟩
        have hat_r32_37 : cl_r32_37.slots[((3 : Int32)).toNatClampNeg]? = some (.int (nar .byte ((((5 : Int32) - (4 : Int32))).toInt8.toInt32))) := H_r32_37.at hin_r32_37 (rfl)
        refine own_pre (A' := T32.setTop (mkF m 420 #[.val (.int p0), .val (.int p1), .val (.int p2), .val (.int p3), .val (.int p4), .val (.int p5), .val (.int fr), .val (.int (1 : Int32)), .val (.int (1 : Int32)), .val (.int mg), .val (.int m0), .val (.int m1), .val (.int P), .val (.int cv), .val (.ref a1), .val (.int (1 : Int32)), .val (.ref r24), .val (.ref r32), .val (.int (1 : Int32))] [(.int (nar .byte ((((5 : Int32) - (4 : Int32))).toInt8.toInt32)))])) (fun t k => X32.baloadBytes hx (j := (3 : Int32)) (v := (.int (nar .byte ((((5 : Int32) - (4 : Int32))).toInt8.toInt32)))) Ar_r32_37.1 (State.isArrayOf_alike hZ.alike Ar_r32_37.2.1) Ar_r32_37.2.2 hin_r32_37 hat_r32_37 (g := (mkF m 419 #[.val (.int p0), .val (.int p1), .val (.int p2), .val (.int p3), .val (.int p4), .val (.int p5), .val (.int fr), .val (.int (1 : Int32)), .val (.int (1 : Int32)), .val (.int mg), .val (.int m0), .val (.int m1), .val (.int P), .val (.int cv), .val (.ref a1), .val (.int (1 : Int32)), .val (.ref r24), .val (.ref r32), .val (.int (1 : Int32))] [(.int (3 : Int32)), (.ref r32)])) rfl rfl (hb hby D0_419.1) _ k) ?_
        refine o_sipush X32 hx hby D0_420 (v := 255) rfl ?_
        refine o_iand X32 hx hby D0_423 ?_
        refine o_iload X32 hx hby D0_424 rfl ?_
        refine o_icmpY X32 hx hby D0_426 (teq (by decide : ((nar .byte ((((5 : Int32) - (4 : Int32))).toInt8.toInt32)) &&& (255 : Int32)) = (1 : Int32))).1 (q := 431) (by decide) (by decide) ?_
        refine o_iload X32 hx hby D0_431 rfl ?_
        refine o_ifN X32 hx hby D0_433 ((if0 _ _).trans (feq (by decide : ¬ ((1 : Int32) = (0 : Int32)))).1) ?_
        refine o_aload X32 hx hby D0_436 rfl rfl ?_
        refine o_iconst X32 hx hby D0_438 (v := 4) rfl ?_
        obtain ⟨cl_r32_38, Ar_r32_38, q_r32_38, S_r32_38, N_r32_38, H_r32_38, G_r32_38⟩ := id Vr32
        have hin_r32_38 : ¬ ((4 : Int32) < 0 ∨ cl_r32_38.slots.size ≤ ((4 : Int32)).toNatClampNeg) := inb_of S_r32_38 ⟨by decide, by decide⟩
        have hat_r32_38 : cl_r32_38.slots[((4 : Int32)).toNatClampNeg]? = some (.int (nar .byte ((p5).toInt8.toInt32))) := H_r32_38.at hin_r32_38 (rfl)
        refine own_pre (A' := T32.setTop (mkF m 440 #[.val (.int p0), .val (.int p1), .val (.int p2), .val (.int p3), .val (.int p4), .val (.int p5), .val (.int fr), .val (.int (1 : Int32)), .val (.int (1 : Int32)), .val (.int mg), .val (.int m0), .val (.int m1), .val (.int P), .val (.int cv), .val (.ref a1), .val (.int (1 : Int32)), .val (.ref r24), .val (.ref r32), .val (.int (1 : Int32))] [(.int (nar .byte ((p5).toInt8.toInt32)))])) (fun t k => X32.baloadBytes hx (j := (4 : Int32)) (v := (.int (nar .byte ((p5).toInt8.toInt32)))) Ar_r32_38.1 (State.isArrayOf_alike hZ.alike Ar_r32_38.2.1) Ar_r32_38.2.2 hin_r32_38 hat_r32_38 (g := (mkF m 439 #[.val (.int p0), .val (.int p1), .val (.int p2), .val (.int p3), .val (.int p4), .val (.int p5), .val (.int fr), .val (.int (1 : Int32)), .val (.int (1 : Int32)), .val (.int mg), .val (.int m0), .val (.int m1), .val (.int P), .val (.int cv), .val (.ref a1), .val (.int (1 : Int32)), .val (.ref r24), .val (.ref r32), .val (.int (1 : Int32))] [(.int (4 : Int32)), (.ref r32)])) rfl rfl (hb hby D0_439.1) _ k) ?_
        refine o_sipush X32 hx hby D0_440 (v := 255) rfl ?_
        refine o_iand X32 hx hby D0_443 ?_
        refine o_iload X32 hx hby D0_444 rfl ?_
        refine o_sipush X32 hx hby D0_446 (v := 255) rfl ?_
        refine o_iand X32 hx hby D0_449 ?_
        refine o_icmpY X32 hx hby D0_450 (teq (own_byte _ : ((nar .byte ((p5).toInt8.toInt32)) &&& (255 : Int32)) = (p5 &&& (255 : Int32)))).1 (q := 455) (by decide) (by decide) ?_
        refine o_iconst X32 hx hby D0_455 (v := 1) rfl ?_
        exact own_ret (v := some (.int (1 : Int32))) X32 (fun h => by first | rfl | (rw [Bd.returns] at h; cases h)) (BodyLoose.notSynchronized Bd) (by decide) (by decide) (⟨rfl, N32⟩) (fun fs hr => retN X32 hx (t := .boolean) Bd.returns (by simp) (hb hby D0_456.1) hr)
      · skip
        refine o_iload X24 hx hby D0_339 rfl ?_
        refine o_ifY X24 hx hby D0_341 ((if0 _ _).trans (teq (by decide : (0 : Int32) = (0 : Int32))).1) (q := 352) (by decide) (by decide) ?_
        refine o_aload X24 hx hby D0_352 rfl rfl ?_
        obtain ⟨cq39, kq39, q39a, q39b, q39c⟩ := isOf hZ rfl E_24
        obtain ⟨_, _, ⟨T39, L39, k39, n39⟩, -, X39, ⟨Lc39, hQ39, l39, y39, z39⟩, st39⟩ := X24.virtualBack hx (y := (⟨"com/example/jetway/jetway/ajp/PacketWriter", "toByteArray", "()[B"⟩ : MethodName)) (z := (⟨"com/example/jetway/jetway/ajp/PacketWriter", "toByteArray", "()[B"⟩ : MethodName)) hown (mvT hZ (own_wd hw (i := 23) rfl)) (mvT hZ (own_wd hw (i := 24) rfl)) (notFace_of_selects (args := #[]) (mvT hZ (own_wd hw (i := 26) rfl))) (mvT hZ (own_wd hw (i := 26) rfl)) (mvT hZ (own_wd hw (i := 25) rfl)) (by decide) (backOf (W := 0) (rmT4 l Z a0 hw [] a1 bf kb mg P (.int (nar .byte ((((mg.toUInt32 >>> ((8 : Int32) &&& 31).toUInt32).toInt32)).toInt8.toInt32))) (.int (nar .byte ((mg).toInt8.toInt32))) (.int (nar .byte ((((((5 : Int32) - (4 : Int32)).toUInt32 >>> ((8 : Int32) &&& 31).toUInt32).toInt32)).toInt8.toInt32))) (.int (nar .byte ((((5 : Int32) - (4 : Int32))).toInt8.toInt32))) (.int (nar .byte ((p1).toInt8.toInt32))) (.int (0 : Int32)) (.int (0 : Int32)) (.int (0 : Int32)) T24.heap n0 (own_leN (by omega)) ⟨E_24, Fm_24, Fp_24, Fb_24, Fo_24, Vb_24, Eb_24⟩ gn_a1 gn_bf nab hP) hZ (own_wd hw (i := 27) rfl) (own_wd hw (i := 3) rfl) (by decide) (by decide)) q39a q39c (g := (mkF m 354 #[.val (.int p0), .val (.int p1), .val (.int p2), .val (.int p3), .val (.int p4), .val (.int p5), .val (.int fr), .val (.int (1 : Int32)), .val (.int (0 : Int32)), .val (.int mg), .val (.int m0), .val (.int m1), .val (.int P), .val (.int cv), .val (.ref a1), .val (.int (1 : Int32)), .val (.ref r24), .unset, .unset] [(.ref a1)])) rfl (by rw [hml]; rfl) (Steps.refl _) (argsL := []) (rest := []) (lenOf pd__40_41_91B rfl) rfl (by show 2 * 0 + _ ≤ _; exact Nat.le_of_eq rfl) (hb hby D0_354.1) (fun _ _ => ⟨rfl, rfl, (by decide : 3 + 1 ≤ _), (by decide : 272 + 4 ≤ _)⟩)
        dsimp only [Pt.U, Pt.locs, Pt.cells, Pt.slots] at X39 l39 y39 z39 st39 hQ39
        subst l39 y39 z39
        obtain ⟨r39, kr39, rfl, N39q, K39, ge39, Vr39, E_39, Fm_39, Fp_39, Fb_39, Fo_39, Vb_39, Eb_39⟩ := hQ39
        have sz39 := own_leN K39.1
        have ge39' := own_leN ge39
        have lt_r39 := own_ltN Vr39.lt
        have N39 := Fr.app N24 N39q
        refine own_pre (A' := T39.setTop (mkF m 357 #[.val (.int p0), .val (.int p1), .val (.int p2), .val (.int p3), .val (.int p4), .val (.int p5), .val (.int fr), .val (.int (1 : Int32)), .val (.int (0 : Int32)), .val (.int mg), .val (.int m0), .val (.int m1), .val (.int P), .val (.int cv), .val (.ref a1), .val (.int (1 : Int32)), .val (.ref r24), .unset, .unset] [(.ref r39)])) (fun t k => st39.trans k) ?_
        refine o_astore X39 hx hby D0_357 rfl (l' := #[.val (.int p0), .val (.int p1), .val (.int p2), .val (.int p3), .val (.int p4), .val (.int p5), .val (.int fr), .val (.int (1 : Int32)), .val (.int (0 : Int32)), .val (.int mg), .val (.int m0), .val (.int m1), .val (.int P), .val (.int cv), .val (.ref a1), .val (.int (1 : Int32)), .val (.ref r24), .val (.ref r39), .unset]) rfl ?_
        refine o_iload X39 hx hby D0_359 rfl ?_
        refine o_ifY X39 hx hby D0_361 ((if0 _ _).trans (teq (by decide : (0 : Int32) = (0 : Int32))).1) (q := 368) (by decide) (by decide) ?_
        refine o_iconst X39 hx hby D0_368 (v := 0) rfl ?_
        refine o_istore X39 hx hby D0_369 (l' := #[.val (.int p0), .val (.int p1), .val (.int p2), .val (.int p3), .val (.int p4), .val (.int p5), .val (.int fr), .val (.int (1 : Int32)), .val (.int (0 : Int32)), .val (.int mg), .val (.int m0), .val (.int m1), .val (.int P), .val (.int cv), .val (.ref a1), .val (.int (1 : Int32)), .val (.ref r24), .val (.ref r39), .val (.int (0 : Int32))]) rfl ?_
        refine o_aload X39 hx hby D0_371 rfl rfl ?_
        obtain ⟨cl_r39_40, Ar_r39_40, q_r39_40, S_r39_40, N_r39_40, H_r39_40, G_r39_40⟩ := id Vr39
        refine own_pre (A' := T39.setTop (mkF m 374 #[.val (.int p0), .val (.int p1), .val (.int p2), .val (.int p3), .val (.int p4), .val (.int p5), .val (.int fr), .val (.int (1 : Int32)), .val (.int (0 : Int32)), .val (.int mg), .val (.int m0), .val (.int m1), .val (.int P), .val (.int cv), .val (.ref a1), .val (.int (1 : Int32)), .val (.ref r24), .val (.ref r39), .val (.int (0 : Int32))] [(.int (4 : Int32))])) (fun t k => X39.arraylength hx Ar_r39_40.1 (State.isArrayOf_alike hZ.alike Ar_r39_40.2.1) (g := (mkF m 373 #[.val (.int p0), .val (.int p1), .val (.int p2), .val (.int p3), .val (.int p4), .val (.int p5), .val (.int fr), .val (.int (1 : Int32)), .val (.int (0 : Int32)), .val (.int mg), .val (.int m0), .val (.int m1), .val (.int P), .val (.int cv), .val (.ref a1), .val (.int (1 : Int32)), .val (.ref r24), .val (.ref r39), .val (.int (0 : Int32))] [(.ref r39)])) rfl rfl (hb hby D0_373.1) _ (by rw [len_of S_r39_40 N_r39_40]; exact k)) ?_
        refine o_iconst X39 hx hby D0_374 (v := 4) rfl ?_
        refine o_iload X39 hx hby D0_375 rfl ?_
        refine o_iadd X39 hx hby D0_377 ?_
        refine o_icmpY X39 hx hby D0_378 (teq (by decide : (4 : Int32) = ((4 : Int32) + (0 : Int32)))).1 (q := 383) (by decide) (by decide) ?_
        refine o_aload X39 hx hby D0_383 rfl rfl ?_
        refine o_iconst X39 hx hby D0_385 (v := 0) rfl ?_
        obtain ⟨cl_r39_41, Ar_r39_41, q_r39_41, S_r39_41, N_r39_41, H_r39_41, G_r39_41⟩ := id Vr39
        have hin_r39_41 : ¬ ((0 : Int32) < 0 ∨ cl_r39_41.slots.size ≤ ((0 : Int32)).toNatClampNeg) := inb_of S_r39_41 ⟨by decide, by decide⟩
        have hat_r39_41 : cl_r39_41.slots[((0 : Int32)).toNatClampNeg]? = some (.int (nar .byte ((((mg.toUInt32 >>> ((8 : Int32) &&& 31).toUInt32).toInt32)).toInt8.toInt32))) := H_r39_41.at hin_r39_41 (rfl)
        refine own_pre (A' := T39.setTop (mkF m 387 #[.val (.int p0), .val (.int p1), .val (.int p2), .val (.int p3), .val (.int p4), .val (.int p5), .val (.int fr), .val (.int (1 : Int32)), .val (.int (0 : Int32)), .val (.int mg), .val (.int m0), .val (.int m1), .val (.int P), .val (.int cv), .val (.ref a1), .val (.int (1 : Int32)), .val (.ref r24), .val (.ref r39), .val (.int (0 : Int32))] [(.int (nar .byte ((((mg.toUInt32 >>> ((8 : Int32) &&& 31).toUInt32).toInt32)).toInt8.toInt32)))])) (fun t k => X39.baloadBytes hx (j := (0 : Int32)) (v := (.int (nar .byte ((((mg.toUInt32 >>> ((8 : Int32) &&& 31).toUInt32).toInt32)).toInt8.toInt32)))) Ar_r39_41.1 (State.isArrayOf_alike hZ.alike Ar_r39_41.2.1) Ar_r39_41.2.2 hin_r39_41 hat_r39_41 (g := (mkF m 386 #[.val (.int p0), .val (.int p1), .val (.int p2), .val (.int p3), .val (.int p4), .val (.int p5), .val (.int fr), .val (.int (1 : Int32)), .val (.int (0 : Int32)), .val (.int mg), .val (.int m0), .val (.int m1), .val (.int P), .val (.int cv), .val (.ref a1), .val (.int (1 : Int32)), .val (.ref r24), .val (.ref r39), .val (.int (0 : Int32))] [(.int (0 : Int32)), (.ref r39)])) rfl rfl (hb hby D0_386.1) _ k) ?_
        refine o_sipush X39 hx hby D0_387 (v := 255) rfl ?_
        refine o_iand X39 hx hby D0_390 ?_
        refine o_iload X39 hx hby D0_391 rfl ?_
        refine o_icmpN X39 hx hby D0_393 (teq (hmg.1 : ((nar .byte ((((mg.toUInt32 >>> ((8 : Int32) &&& 31).toUInt32).toInt32)).toInt8.toInt32)) &&& (255 : Int32)) = m0)).2 ?_
        refine o_aload X39 hx hby D0_396 rfl rfl ?_
        refine o_iconst X39 hx hby D0_398 (v := 1) rfl ?_
        obtain ⟨cl_r39_42, Ar_r39_42, q_r39_42, S_r39_42, N_r39_42, H_r39_42, G_r39_42⟩ := id Vr39
        have hin_r39_42 : ¬ ((1 : Int32) < 0 ∨ cl_r39_42.slots.size ≤ ((1 : Int32)).toNatClampNeg) := inb_of S_r39_42 ⟨by decide, by decide⟩
        have hat_r39_42 : cl_r39_42.slots[((1 : Int32)).toNatClampNeg]? = some (.int (nar .byte ((mg).toInt8.toInt32))) := H_r39_42.at hin_r39_42 (rfl)
        refine own_pre (A' := T39.setTop (mkF m 400 #[.val (.int p0), .val (.int p1), .val (.int p2), .val (.int p3), .val (.int p4), .val (.int p5), .val (.int fr), .val (.int (1 : Int32)), .val (.int (0 : Int32)), .val (.int mg), .val (.int m0), .val (.int m1), .val (.int P), .val (.int cv), .val (.ref a1), .val (.int (1 : Int32)), .val (.ref r24), .val (.ref r39), .val (.int (0 : Int32))] [(.int (nar .byte ((mg).toInt8.toInt32)))])) (fun t k => X39.baloadBytes hx (j := (1 : Int32)) (v := (.int (nar .byte ((mg).toInt8.toInt32)))) Ar_r39_42.1 (State.isArrayOf_alike hZ.alike Ar_r39_42.2.1) Ar_r39_42.2.2 hin_r39_42 hat_r39_42 (g := (mkF m 399 #[.val (.int p0), .val (.int p1), .val (.int p2), .val (.int p3), .val (.int p4), .val (.int p5), .val (.int fr), .val (.int (1 : Int32)), .val (.int (0 : Int32)), .val (.int mg), .val (.int m0), .val (.int m1), .val (.int P), .val (.int cv), .val (.ref a1), .val (.int (1 : Int32)), .val (.ref r24), .val (.ref r39), .val (.int (0 : Int32))] [(.int (1 : Int32)), (.ref r39)])) rfl rfl (hb hby D0_399.1) _ k) ?_
        refine o_sipush X39 hx hby D0_400 (v := 255) rfl ?_
        refine o_iand X39 hx hby D0_403 ?_
        refine o_iload X39 hx hby D0_404 rfl ?_
        refine o_icmpN X39 hx hby D0_406 (teq (hmg.2 : ((nar .byte ((mg).toInt8.toInt32)) &&& (255 : Int32)) = m1)).2 ?_
        refine o_aload X39 hx hby D0_409 rfl rfl ?_
        refine o_iconst X39 hx hby D0_411 (v := 2) rfl ?_
        obtain ⟨cl_r39_43, Ar_r39_43, q_r39_43, S_r39_43, N_r39_43, H_r39_43, G_r39_43⟩ := id Vr39
        have hin_r39_43 : ¬ ((2 : Int32) < 0 ∨ cl_r39_43.slots.size ≤ ((2 : Int32)).toNatClampNeg) := inb_of S_r39_43 ⟨by decide, by decide⟩
        have hat_r39_43 : cl_r39_43.slots[((2 : Int32)).toNatClampNeg]? = some (.int (nar .byte ((((((4 : Int32) - (4 : Int32)).toUInt32 >>> ((8 : Int32) &&& 31).toUInt32).toInt32)).toInt8.toInt32))) := H_r39_43.at hin_r39_43 (rfl)
        refine own_pre (A' := T39.setTop (mkF m 413 #[.val (.int p0), .val (.int p1), .val (.int p2), .val (.int p3), .val (.int p4), .val (.int p5), .val (.int fr), .val (.int (1 : Int32)), .val (.int (0 : Int32)), .val (.int mg), .val (.int m0), .val (.int m1), .val (.int P), .val (.int cv), .val (.ref a1), .val (.int (1 : Int32)), .val (.ref r24), .val (.ref r39), .val (.int (0 : Int32))] [(.int (nar .byte ((((((4 : Int32) - (4 : Int32)).toUInt32 >>> ((8 : Int32) &&& 31).toUInt32).toInt32)).toInt8.toInt32)))])) (fun t k => X39.baloadBytes hx (j := (2 : Int32)) (v := (.int (nar .byte ((((((4 : Int32) - (4 : Int32)).toUInt32 >>> ((8 : Int32) &&& 31).toUInt32).toInt32)).toInt8.toInt32)))) Ar_r39_43.1 (State.isArrayOf_alike hZ.alike Ar_r39_43.2.1) Ar_r39_43.2.2 hin_r39_43 hat_r39_43 (g := (mkF m 412 #[.val (.int p0), .val (.int p1), .val (.int p2), .val (.int p3), .val (.int p4), .val (.int p5), .val (.int fr), .val (.int (1 : Int32)), .val (.int (0 : Int32)), .val (.int mg), .val (.int m0), .val (.int m1), .val (.int P), .val (.int cv), .val (.ref a1), .val (.int (1 : Int32)), .val (.ref r24), .val (.ref r39), .val (.int (0 : Int32))] [(.int (2 : Int32)), (.ref r39)])) rfl rfl (hb hby D0_412.1) _ k) ?_
        refine o_ifN X39 hx hby D0_413 ((if0 _ _).trans (teq (by decide : (nar .byte ((((((4 : Int32) - (4 : Int32)).toUInt32 >>> ((8 : Int32) &&& 31).toUInt32).toInt32)).toInt8.toInt32)) = (0 : Int32))).2) ?_
        refine o_aload X39 hx hby D0_416 rfl rfl ?_
        refine o_iconst X39 hx hby D0_418 (v := 3) rfl ?_
        obtain ⟨cl_r39_44, Ar_r39_44, q_r39_44, S_r39_44, N_r39_44, H_r39_44, G_r39_44⟩ := id Vr39
        have hin_r39_44 : ¬ ((3 : Int32) < 0 ∨ cl_r39_44.slots.size ≤ ((3 : Int32)).toNatClampNeg) := inb_of S_r39_44 ⟨by decide, by decide⟩
        have hat_r39_44 : cl_r39_44.slots[((3 : Int32)).toNatClampNeg]? = some (.int (nar .byte ((((4 : Int32) - (4 : Int32))).toInt8.toInt32))) := H_r39_44.at hin_r39_44 (rfl)
        refine own_pre (A' := T39.setTop (mkF m 420 #[.val (.int p0), .val (.int p1), .val (.int p2), .val (.int p3), .val (.int p4), .val (.int p5), .val (.int fr), .val (.int (1 : Int32)), .val (.int (0 : Int32)), .val (.int mg), .val (.int m0), .val (.int m1), .val (.int P), .val (.int cv), .val (.ref a1), .val (.int (1 : Int32)), .val (.ref r24), .val (.ref r39), .val (.int (0 : Int32))] [(.int (nar .byte ((((4 : Int32) - (4 : Int32))).toInt8.toInt32)))])) (fun t k => X39.baloadBytes hx (j := (3 : Int32)) (v := (.int (nar .byte ((((4 : Int32) - (4 : Int32))).toInt8.toInt32)))) Ar_r39_44.1 (State.isArrayOf_alike hZ.alike Ar_r39_44.2.1) Ar_r39_44.2.2 hin_r39_44 hat_r39_44 (g := (mkF m 419 #[.val (.int p0), .val (.int p1), .val (.int p2), .val (.int p3), .val (.int p4), .val (.int p5), .val (.int fr), .val (.int (1 : Int32)), .val (.int (0 : Int32)), .val (.int mg), .val (.int m0), .val (.int m1), .val (.int P), .val (.int cv), .val (.ref a1), .val (.int (1 : Int32)), .val (.ref r24), .val (.ref r39), .val (.int (0 : Int32))] [(.int (3 : Int32)), (.ref r39)])) rfl rfl (hb hby D0_419.1) _ k) ?_
        refine o_sipush X39 hx hby D0_420 (v := 255) rfl ?_
        refine o_iand X39 hx hby D0_423 ?_
        refine o_iload X39 hx hby D0_424 rfl ?_
        refine o_icmpY X39 hx hby D0_426 (teq (by decide : ((nar .byte ((((4 : Int32) - (4 : Int32))).toInt8.toInt32)) &&& (255 : Int32)) = (0 : Int32))).1 (q := 431) (by decide) (by decide) ?_
        refine o_iload X39 hx hby D0_431 rfl ?_
        refine o_ifY X39 hx hby D0_433 ((if0 _ _).trans (teq (by decide : (0 : Int32) = (0 : Int32))).1) (q := 455) (by decide) (by decide) ?_
        refine o_iconst X39 hx hby D0_455 (v := 1) rfl ?_
        exact own_ret (v := some (.int (1 : Int32))) X39 (fun h => by first | rfl | (rw [Bd.returns] at h; cases h)) (BodyLoose.notSynchronized Bd) (by decide) (by decide) (⟨rfl, N39⟩) (fun fs hr => retN X39 hx (t := .boolean) Bd.returns (by simp) (hb hby D0_456.1) hr)
    · skip
      refine o_iload X2 hx hby D0_108 rfl ?_
      refine o_iconst X2 hx hby D0_110 (v := 1) rfl ?_
      refine o_icmpN X2 hx hby D0_111 (flt (by decide : ¬ ((2 : Int32) < (1 : Int32)))).1 ?_
      refine o_aload X2 hx hby D0_114 rfl rfl ?_
      refine o_iloadN X2 hx hby D0_116 rfl ?_
      obtain ⟨cq45, kq45, q45a, q45b, q45c⟩ := isOf hZ rfl E_2
      obtain ⟨_, _, ⟨T45, L45, k45, n45⟩, -, X45, ⟨Lc45, hQ45, l45, y45, z45⟩, st45⟩ := X2.virtualBack hx (y := (⟨"com/example/jetway/jetway/ajp/PacketWriter", "putByte", "(I)Lcom/example/jetway/jetway/ajp/PacketWriter;"⟩ : MethodName)) (z := (⟨"com/example/jetway/jetway/ajp/PacketWriter", "putByte", "(I)Lcom/example/jetway/jetway/ajp/PacketWriter;"⟩ : MethodName)) hown (mvT hZ (own_wd hw (i := 41) rfl)) (mvT hZ (own_wd hw (i := 42) rfl)) (notFace_of_selects (args := #[]) (mvT hZ (own_wd hw (i := 44) rfl))) (mvT hZ (own_wd hw (i := 44) rfl)) (mvT hZ (own_wd hw (i := 43) rfl)) (by decide) (backOf (W := 0) (rmPB4 l Z a0 hw [] a1 p1 bf kb mg P (.int (0 : Int32)) (.int (0 : Int32)) (.int (0 : Int32)) (.int (0 : Int32)) (.int (0 : Int32)) (.int (0 : Int32)) (.int (0 : Int32)) (.int (0 : Int32)) T2.heap n0 (own_leN (by omega)) ⟨E_2, Fm_2, Fp_2, Fb_2, Fo_2, Vb_2, Eb_2⟩ gn_a1 gn_bf nab hP) hZ (own_wd hw (i := 45) rfl) (own_wd hw (i := 3) rfl) (by decide) (by decide)) q45a q45c (g := (mkF m 117 #[.val (.int p0), .val (.int p1), .val (.int p2), .val (.int p3), .val (.int p4), .val (.int p5), .val (.int fr), .val (.int (2 : Int32)), .val (.int sc), .val (.int mg), .val (.int m0), .val (.int m1), .val (.int P), .val (.int cv), .val (.ref a1), .unset, .unset, .unset, .unset] [(.int p1), (.ref a1)])) rfl (by rw [hml]; rfl) (Steps.refl _) (argsL := [(.int p1)]) (rest := []) (lenOf pd__40I_41Lcom_47example_47jetway_47jetway_47ajp_47PacketWriter_59 rfl) rfl (by show 2 * 0 + _ ≤ _; exact Nat.le_of_eq rfl) (hb hby D0_117.1) (fun _ _ => ⟨rfl, rfl, (by decide : 2 + 0 ≤ _), (by decide : 267 + 0 ≤ _)⟩)
      dsimp only [Pt.U, Pt.locs, Pt.cells, Pt.slots] at X45 l45 y45 z45 st45 hQ45
      subst l45 y45 z45
      obtain ⟨rfl, N45q, K45, E_45, Fm_45, Fp_45, Fb_45, Fo_45, Vb_45, Eb_45⟩ := hQ45
      have sz45 := own_leN K45.1
      have N45 := Fr.app N2 N45q
      refine own_pre (A' := T45.setTop (mkF m 120 #[.val (.int p0), .val (.int p1), .val (.int p2), .val (.int p3), .val (.int p4), .val (.int p5), .val (.int fr), .val (.int (2 : Int32)), .val (.int sc), .val (.int mg), .val (.int m0), .val (.int m1), .val (.int P), .val (.int cv), .val (.ref a1), .unset, .unset, .unset, .unset] [(.ref a1)])) (fun t k => st45.trans k) ?_
      refine o_pop X45 hx hby D0_120 rfl ?_
      refine o_iload X45 hx hby D0_121 rfl ?_
      refine o_iconst X45 hx hby D0_123 (v := 2) rfl ?_
      refine o_icmpN X45 hx hby D0_124 (flt (by decide : ¬ ((2 : Int32) < (2 : Int32)))).1 ?_
      refine o_aload X45 hx hby D0_127 rfl rfl ?_
      refine o_iloadN X45 hx hby D0_129 rfl ?_
      obtain ⟨cq46, kq46, q46a, q46b, q46c⟩ := isOf hZ rfl E_45
      obtain ⟨_, _, ⟨T46, L46, k46, n46⟩, -, X46, ⟨Lc46, hQ46, l46, y46, z46⟩, st46⟩ := X45.virtualBack hx (y := (⟨"com/example/jetway/jetway/ajp/PacketWriter", "putByte", "(I)Lcom/example/jetway/jetway/ajp/PacketWriter;"⟩ : MethodName)) (z := (⟨"com/example/jetway/jetway/ajp/PacketWriter", "putByte", "(I)Lcom/example/jetway/jetway/ajp/PacketWriter;"⟩ : MethodName)) hown (mvT hZ (own_wd hw (i := 41) rfl)) (mvT hZ (own_wd hw (i := 42) rfl)) (notFace_of_selects (args := #[]) (mvT hZ (own_wd hw (i := 44) rfl))) (mvT hZ (own_wd hw (i := 44) rfl)) (mvT hZ (own_wd hw (i := 43) rfl)) (by decide) (backOf (W := 0) (rmPB5 l Z a0 hw [] a1 p2 bf kb mg P (.int (0 : Int32)) (.int (0 : Int32)) (.int (0 : Int32)) (.int (0 : Int32)) (.int (nar .byte ((p1).toInt8.toInt32))) (.int (0 : Int32)) (.int (0 : Int32)) (.int (0 : Int32)) T45.heap n0 (own_leN (by omega)) ⟨E_45, Fm_45, Fp_45, Fb_45, Fo_45, Vb_45, Eb_45⟩ gn_a1 gn_bf nab hP) hZ (own_wd hw (i := 45) rfl) (own_wd hw (i := 3) rfl) (by decide) (by decide)) q46a q46c (g := (mkF m 130 #[.val (.int p0), .val (.int p1), .val (.int p2), .val (.int p3), .val (.int p4), .val (.int p5), .val (.int fr), .val (.int (2 : Int32)), .val (.int sc), .val (.int mg), .val (.int m0), .val (.int m1), .val (.int P), .val (.int cv), .val (.ref a1), .unset, .unset, .unset, .unset] [(.int p2), (.ref a1)])) rfl (by rw [hml]; rfl) (Steps.refl _) (argsL := [(.int p2)]) (rest := []) (lenOf pd__40I_41Lcom_47example_47jetway_47jetway_47ajp_47PacketWriter_59 rfl) rfl (by show 2 * 0 + _ ≤ _; exact Nat.le_of_eq rfl) (hb hby D0_130.1) (fun _ _ => ⟨rfl, rfl, (by decide : 2 + 0 ≤ _), (by decide : 267 + 0 ≤ _)⟩)
      dsimp only [Pt.U, Pt.locs, Pt.cells, Pt.slots] at X46 l46 y46 z46 st46 hQ46
      subst l46 y46 z46
      obtain ⟨rfl, N46q, K46, E_46, Fm_46, Fp_46, Fb_46, Fo_46, Vb_46, Eb_46⟩ := hQ46
      have sz46 := own_leN K46.1
      have N46 := Fr.app N45 N46q
      refine own_pre (A' := T46.setTop (mkF m 133 #[.val (.int p0), .val (.int p1), .val (.int p2), .val (.int p3), .val (.int p4), .val (.int p5), .val (.int fr), .val (.int (2 : Int32)), .val (.int sc), .val (.int mg), .val (.int m0), .val (.int m1), .val (.int P), .val (.int cv), .val (.ref a1), .unset, .unset, .unset, .unset] [(.ref a1)])) (fun t k => st46.trans k) ?_
      refine o_pop X46 hx hby D0_133 rfl ?_
      refine o_iload X46 hx hby D0_134 rfl ?_
      refine o_iconst X46 hx hby D0_136 (v := 3) rfl ?_
      refine o_icmpY X46 hx hby D0_137 (tlt (by decide : (2 : Int32) < (3 : Int32))).1 (q := 148) (by decide) (by decide) ?_
      refine o_iload X46 hx hby D0_148 rfl ?_
      refine o_ifY X46 hx hby D0_150 ((if0 _ _).trans (feq (by decide : ¬ ((2 : Int32) = (0 : Int32)))).2) (q := 157) (by decide) (by decide) ?_
      refine o_iload X46 hx hby D0_157 rfl ?_
      refine o_iconst X46 hx hby D0_159 (v := 1) rfl ?_
      refine o_icmpY X46 hx hby D0_160 (feq (by decide : ¬ ((2 : Int32) = (1 : Int32)))).2 (q := 167) (by decide) (by decide) ?_
      refine o_iload X46 hx hby D0_167 rfl ?_
      refine o_iconst X46 hx hby D0_169 (v := 2) rfl ?_
      refine o_icmpN X46 hx hby D0_170 (teq (by decide : (2 : Int32) = (2 : Int32))).2 ?_
      refine o_iconst X46 hx hby D0_173 (v := 2) rfl ?_
      refine o_goto X46 hx hby D0_174 (q := 178) (by decide) (by decide) ?_
      refine o_istore X46 hx hby D0_178 (l' := #[.val (.int p0), .val (.int p1), .val (.int p2), .val (.int p3), .val (.int p4), .val (.int p5), .val (.int fr), .val (.int (2 : Int32)), .val (.int sc), .val (.int mg), .val (.int m0), .val (.int m1), .val (.int P), .val (.int cv), .val (.ref a1), .val (.int (2 : Int32)), .unset, .unset, .unset]) rfl ?_
      refine o_aload X46 hx hby D0_180 rfl rfl ?_
      obtain ⟨cq47, kq47, q47a, q47b, q47c⟩ := isOf hZ rfl E_46
      obtain ⟨_, _, ⟨T47, L47, k47, n47⟩, -, X47, ⟨Lc47, hQ47, l47, y47, z47⟩, st47⟩ := X46.virtualBack hx (y := (⟨"com/example/jetway/jetway/ajp/PacketWriter", "toByteArray", "()[B"⟩ : MethodName)) (z := (⟨"com/example/jetway/jetway/ajp/PacketWriter", "toByteArray", "()[B"⟩ : MethodName)) hown (mvT hZ (own_wd hw (i := 23) rfl)) (mvT hZ (own_wd hw (i := 24) rfl)) (notFace_of_selects (args := #[]) (mvT hZ (own_wd hw (i := 26) rfl))) (mvT hZ (own_wd hw (i := 26) rfl)) (mvT hZ (own_wd hw (i := 25) rfl)) (by decide) (backOf (W := 0) (rmT6 l Z a0 hw [] a1 bf kb mg P (.int (0 : Int32)) (.int (0 : Int32)) (.int (0 : Int32)) (.int (0 : Int32)) (.int (nar .byte ((p1).toInt8.toInt32))) (.int (nar .byte ((p2).toInt8.toInt32))) (.int (0 : Int32)) (.int (0 : Int32)) T46.heap n0 (own_leN (by omega)) ⟨E_46, Fm_46, Fp_46, Fb_46, Fo_46, Vb_46, Eb_46⟩ gn_a1 gn_bf nab hP) hZ (own_wd hw (i := 27) rfl) (own_wd hw (i := 3) rfl) (by decide) (by decide)) q47a q47c (g := (mkF m 182 #[.val (.int p0), .val (.int p1), .val (.int p2), .val (.int p3), .val (.int p4), .val (.int p5), .val (.int fr), .val (.int (2 : Int32)), .val (.int sc), .val (.int mg), .val (.int m0), .val (.int m1), .val (.int P), .val (.int cv), .val (.ref a1), .val (.int (2 : Int32)), .unset, .unset, .unset] [(.ref a1)])) rfl (by rw [hml]; rfl) (Steps.refl _) (argsL := []) (rest := []) (lenOf pd__40_41_91B rfl) rfl (by show 2 * 0 + _ ≤ _; exact Nat.le_of_eq rfl) (hb hby D0_182.1) (fun _ _ => ⟨rfl, rfl, (by decide : 2 + 1 ≤ _), (by decide : 267 + 6 ≤ _)⟩)
      dsimp only [Pt.U, Pt.locs, Pt.cells, Pt.slots] at X47 l47 y47 z47 st47 hQ47
      subst l47 y47 z47
      obtain ⟨r47, kr47, rfl, N47q, K47, ge47, Vr47, E_47, Fm_47, Fp_47, Fb_47, Fo_47, Vb_47, Eb_47⟩ := hQ47
      have sz47 := own_leN K47.1
      have ge47' := own_leN ge47
      have lt_r47 := own_ltN Vr47.lt
      have N47 := Fr.app N46 N47q
      refine own_pre (A' := T47.setTop (mkF m 185 #[.val (.int p0), .val (.int p1), .val (.int p2), .val (.int p3), .val (.int p4), .val (.int p5), .val (.int fr), .val (.int (2 : Int32)), .val (.int sc), .val (.int mg), .val (.int m0), .val (.int m1), .val (.int P), .val (.int cv), .val (.ref a1), .val (.int (2 : Int32)), .unset, .unset, .unset] [(.ref r47)])) (fun t k => st47.trans k) ?_
      refine o_astore X47 hx hby D0_185 rfl (l' := #[.val (.int p0), .val (.int p1), .val (.int p2), .val (.int p3), .val (.int p4), .val (.int p5), .val (.int fr), .val (.int (2 : Int32)), .val (.int sc), .val (.int mg), .val (.int m0), .val (.int m1), .val (.int P), .val (.int cv), .val (.ref a1), .val (.int (2 : Int32)), .val (.ref r47), .unset, .unset]) rfl ?_
      refine o_aload X47 hx hby D0_187 rfl rfl ?_
      obtain ⟨cl_r47_48, Ar_r47_48, q_r47_48, S_r47_48, N_r47_48, H_r47_48, G_r47_48⟩ := id Vr47
      refine own_pre (A' := T47.setTop (mkF m 190 #[.val (.int p0), .val (.int p1), .val (.int p2), .val (.int p3), .val (.int p4), .val (.int p5), .val (.int fr), .val (.int (2 : Int32)), .val (.int sc), .val (.int mg), .val (.int m0), .val (.int m1), .val (.int P), .val (.int cv), .val (.ref a1), .val (.int (2 : Int32)), .val (.ref r47), .unset, .unset] [(.int (6 : Int32))])) (fun t k => X47.arraylength hx Ar_r47_48.1 (State.isArrayOf_alike hZ.alike Ar_r47_48.2.1) (g := (mkF m 189 #[.val (.int p0), .val (.int p1), .val (.int p2), .val (.int p3), .val (.int p4), .val (.int p5), .val (.int fr), .val (.int (2 : Int32)), .val (.int sc), .val (.int mg), .val (.int m0), .val (.int m1), .val (.int P), .val (.int cv), .val (.ref a1), .val (.int (2 : Int32)), .val (.ref r47), .unset, .unset] [(.ref r47)])) rfl rfl (hb hby D0_189.1) _ (by rw [len_of S_r47_48 N_r47_48]; exact k)) ?_
      refine o_iconst X47 hx hby D0_190 (v := 4) rfl ?_
      refine o_iload X47 hx hby D0_191 rfl ?_
      refine o_iadd X47 hx hby D0_193 ?_
      refine o_icmpY X47 hx hby D0_194 (teq (by decide : (6 : Int32) = ((4 : Int32) + (2 : Int32)))).1 (q := 199) (by decide) (by decide) ?_
      refine o_aload X47 hx hby D0_199 rfl rfl ?_
      refine o_iconst X47 hx hby D0_201 (v := 0) rfl ?_
      obtain ⟨cl_r47_49, Ar_r47_49, q_r47_49, S_r47_49, N_r47_49, H_r47_49, G_r47_49⟩ := id Vr47
      have hin_r47_49 : ¬ ((0 : Int32) < 0 ∨ cl_r47_49.slots.size ≤ ((0 : Int32)).toNatClampNeg) := inb_of S_r47_49 ⟨by decide, by decide⟩
      have hat_r47_49 : cl_r47_49.slots[((0 : Int32)).toNatClampNeg]? = some (.int (nar .byte ((((mg.toUInt32 >>> ((8 : Int32) &&& 31).toUInt32).toInt32)).toInt8.toInt32))) := H_r47_49.at hin_r47_49 (rfl)
      refine own_pre (A' := T47.setTop (mkF m 203 #[.val (.int p0), .val (.int p1), .val (.int p2), .val (.int p3), .val (.int p4), .val (.int p5), .val (.int fr), .val (.int (2 : Int32)), .val (.int sc), .val (.int mg), .val (.int m0), .val (.int m1), .val (.int P), .val (.int cv), .val (.ref a1), .val (.int (2 : Int32)), .val (.ref r47), .unset, .unset] [(.int (nar .byte ((((mg.toUInt32 >>> ((8 : Int32) &&& 31).toUInt32).toInt32)).toInt8.toInt32)))])) (fun t k => X47.baloadBytes hx (j := (0 : Int32)) (v := (.int (nar .byte ((((mg.toUInt32 >>> ((8 : Int32) &&& 31).toUInt32).toInt32)).toInt8.toInt32)))) Ar_r47_49.1 (State.isArrayOf_alike hZ.alike Ar_r47_49.2.1) Ar_r47_49.2.2 hin_r47_49 hat_r47_49 (g := (mkF m 202 #[.val (.int p0), .val (.int p1), .val (.int p2), .val (.int p3), .val (.int p4), .val (.int p5), .val (.int fr), .val (.int (2 : Int32)), .val (.int sc), .val (.int mg), .val (.int m0), .val (.int m1), .val (.int P), .val (.int cv), .val (.ref a1), .val (.int (2 : Int32)), .val (.ref r47), .unset, .unset] [(.int (0 : Int32)), (.ref r47)])) rfl rfl (hb hby D0_202.1) _ k) ?_
      refine o_sipush X47 hx hby D0_203 (v := 255) rfl ?_
      refine o_iand X47 hx hby D0_206 ?_
      refine o_iload X47 hx hby D0_207 rfl ?_
      refine o_icmpN X47 hx hby D0_209 (teq (hmg.1 : ((nar .byte ((((mg.toUInt32 >>> ((8 : Int32) &&& 31).toUInt32).toInt32)).toInt8.toInt32)) &&& (255 : Int32)) = m0)).2 ?_
      refine o_aload X47 hx hby D0_212 rfl rfl ?_
      refine o_iconst X47 hx hby D0_214 (v := 1) rfl ?_
      obtain ⟨cl_r47_50, Ar_r47_50, q_r47_50, S_r47_50, N_r47_50, H_r47_50, G_r47_50⟩ := id Vr47
      have hin_r47_50 : ¬ ((1 : Int32) < 0 ∨ cl_r47_50.slots.size ≤ ((1 : Int32)).toNatClampNeg) := inb_of S_r47_50 ⟨by decide, by decide⟩
      have hat_r47_50 : cl_r47_50.slots[((1 : Int32)).toNatClampNeg]? = some (.int (nar .byte ((mg).toInt8.toInt32))) := H_r47_50.at hin_r47_50 (rfl)
      refine own_pre (A' := T47.setTop (mkF m 216 #[.val (.int p0), .val (.int p1), .val (.int p2), .val (.int p3), .val (.int p4), .val (.int p5), .val (.int fr), .val (.int (2 : Int32)), .val (.int sc), .val (.int mg), .val (.int m0), .val (.int m1), .val (.int P), .val (.int cv), .val (.ref a1), .val (.int (2 : Int32)), .val (.ref r47), .unset, .unset] [(.int (nar .byte ((mg).toInt8.toInt32)))])) (fun t k => X47.baloadBytes hx (j := (1 : Int32)) (v := (.int (nar .byte ((mg).toInt8.toInt32)))) Ar_r47_50.1 (State.isArrayOf_alike hZ.alike Ar_r47_50.2.1) Ar_r47_50.2.2 hin_r47_50 hat_r47_50 (g := (mkF m 215 #[.val (.int p0), .val (.int p1), .val (.int p2), .val (.int p3), .val (.int p4), .val (.int p5), .val (.int fr), .val (.int (2 : Int32)), .val (.int sc), .val (.int mg), .val (.int m0), .val (.int m1), .val (.int P), .val (.int cv), .val (.ref a1), .val (.int (2 : Int32)), .val (.ref r47), .unset, .unset] [(.int (1 : Int32)), (.ref r47)])) rfl rfl (hb hby D0_215.1) _ k) ?_
      refine o_sipush X47 hx hby D0_216 (v := 255) rfl ?_
      refine o_iand X47 hx hby D0_219 ?_
      refine o_iload X47 hx hby D0_220 rfl ?_
      refine o_icmpN X47 hx hby D0_222 (teq (hmg.2 : ((nar .byte ((mg).toInt8.toInt32)) &&& (255 : Int32)) = m1)).2 ?_
      refine o_aload X47 hx hby D0_225 rfl rfl ?_
      refine o_iconst X47 hx hby D0_227 (v := 2) rfl ?_
      obtain ⟨cl_r47_51, Ar_r47_51, q_r47_51, S_r47_51, N_r47_51, H_r47_51, G_r47_51⟩ := id Vr47
      have hin_r47_51 : ¬ ((2 : Int32) < 0 ∨ cl_r47_51.slots.size ≤ ((2 : Int32)).toNatClampNeg) := inb_of S_r47_51 ⟨by decide, by decide⟩
      have hat_r47_51 : cl_r47_51.slots[((2 : Int32)).toNatClampNeg]? = some (.int (nar .byte ((((((6 : Int32) - (4 : Int32)).toUInt32 >>> ((8 : Int32) &&& 31).toUInt32).toInt32)).toInt8.toInt32))) := H_r47_51.at hin_r47_51 (rfl)
      refine own_pre (A' := T47.setTop (mkF m 229 #[.val (.int p0), .val (.int p1), .val (.int p2), .val (.int p3), .val (.int p4), .val (.int p5), .val (.int fr), .val (.int (2 : Int32)), .val (.int sc), .val (.int mg), .val (.int m0), .val (.int m1), .val (.int P), .val (.int cv), .val (.ref a1), .val (.int (2 : Int32)), .val (.ref r47), .unset, .unset] [(.int (nar .byte ((((((6 : Int32) - (4 : Int32)).toUInt32 >>> ((8 : Int32) &&& 31).toUInt32).toInt32)).toInt8.toInt32)))])) (fun t k => X47.baloadBytes hx (j := (2 : Int32)) (v := (.int (nar .byte ((((((6 : Int32) - (4 : Int32)).toUInt32 >>> ((8 : Int32) &&& 31).toUInt32).toInt32)).toInt8.toInt32)))) Ar_r47_51.1 (State.isArrayOf_alike hZ.alike Ar_r47_51.2.1) Ar_r47_51.2.2 hin_r47_51 hat_r47_51 (g := (mkF m 228 #[.val (.int p0), .val (.int p1), .val (.int p2), .val (.int p3), .val (.int p4), .val (.int p5), .val (.int fr), .val (.int (2 : Int32)), .val (.int sc), .val (.int mg), .val (.int m0), .val (.int m1), .val (.int P), .val (.int cv), .val (.ref a1), .val (.int (2 : Int32)), .val (.ref r47), .unset, .unset] [(.int (2 : Int32)), (.ref r47)])) rfl rfl (hb hby D0_228.1) _ k) ?_
      refine o_ifN X47 hx hby D0_229 ((if0 _ _).trans (teq (by decide : (nar .byte ((((((6 : Int32) - (4 : Int32)).toUInt32 >>> ((8 : Int32) &&& 31).toUInt32).toInt32)).toInt8.toInt32)) = (0 : Int32))).2) ?_
      refine o_aload X47 hx hby D0_232 rfl rfl ?_
      refine o_iconst X47 hx hby D0_234 (v := 3) rfl ?_
      obtain ⟨cl_r47_52, Ar_r47_52, q_r47_52, S_r47_52, N_r47_52, H_r47_52, G_r47_52⟩ := id Vr47
      have hin_r47_52 : ¬ ((3 : Int32) < 0 ∨ cl_r47_52.slots.size ≤ ((3 : Int32)).toNatClampNeg) := inb_of S_r47_52 ⟨by decide, by decide⟩
      have hat_r47_52 : cl_r47_52.slots[((3 : Int32)).toNatClampNeg]? = some (.int (nar .byte ((((6 : Int32) - (4 : Int32))).toInt8.toInt32))) := H_r47_52.at hin_r47_52 (rfl)
      refine own_pre (A' := T47.setTop (mkF m 236 #[.val (.int p0), .val (.int p1), .val (.int p2), .val (.int p3), .val (.int p4), .val (.int p5), .val (.int fr), .val (.int (2 : Int32)), .val (.int sc), .val (.int mg), .val (.int m0), .val (.int m1), .val (.int P), .val (.int cv), .val (.ref a1), .val (.int (2 : Int32)), .val (.ref r47), .unset, .unset] [(.int (nar .byte ((((6 : Int32) - (4 : Int32))).toInt8.toInt32)))])) (fun t k => X47.baloadBytes hx (j := (3 : Int32)) (v := (.int (nar .byte ((((6 : Int32) - (4 : Int32))).toInt8.toInt32)))) Ar_r47_52.1 (State.isArrayOf_alike hZ.alike Ar_r47_52.2.1) Ar_r47_52.2.2 hin_r47_52 hat_r47_52 (g := (mkF m 235 #[.val (.int p0), .val (.int p1), .val (.int p2), .val (.int p3), .val (.int p4), .val (.int p5), .val (.int fr), .val (.int (2 : Int32)), .val (.int sc), .val (.int mg), .val (.int m0), .val (.int m1), .val (.int P), .val (.int cv), .val (.ref a1), .val (.int (2 : Int32)), .val (.ref r47), .unset, .unset] [(.int (3 : Int32)), (.ref r47)])) rfl rfl (hb hby D0_235.1) _ k) ?_
      refine o_sipush X47 hx hby D0_236 (v := 255) rfl ?_
      refine o_iand X47 hx hby D0_239 ?_
      refine o_iload X47 hx hby D0_240 rfl ?_
      refine o_icmpY X47 hx hby D0_242 (teq (by decide : ((nar .byte ((((6 : Int32) - (4 : Int32))).toInt8.toInt32)) &&& (255 : Int32)) = (2 : Int32))).1 (q := 247) (by decide) (by decide) ?_
      refine o_iload X47 hx hby D0_247 rfl ?_
      refine o_iconst X47 hx hby D0_249 (v := 1) rfl ?_
      refine o_icmpN X47 hx hby D0_250 (flt (by decide : ¬ ((2 : Int32) < (1 : Int32)))).1 ?_
      refine o_aload X47 hx hby D0_253 rfl rfl ?_
      refine o_iconst X47 hx hby D0_255 (v := 4) rfl ?_
      obtain ⟨cl_r47_53, Ar_r47_53, q_r47_53, S_r47_53, N_r47_53, H_r47_53, G_r47_53⟩ := id Vr47
      have hin_r47_53 : ¬ ((4 : Int32) < 0 ∨ cl_r47_53.slots.size ≤ ((4 : Int32)).toNatClampNeg) := inb_of S_r47_53 ⟨by decide, by decide⟩
      have hat_r47_53 : cl_r47_53.slots[((4 : Int32)).toNatClampNeg]? = some (.int (nar .byte ((p1).toInt8.toInt32))) := H_r47_53.at hin_r47_53 (rfl)
      refine own_pre (A' := T47.setTop (mkF m 257 #[.val (.int p0), .val (.int p1), .val (.int p2), .val (.int p3), .val (.int p4), .val (.int p5), .val (.int fr), .val (.int (2 : Int32)), .val (.int sc), .val (.int mg), .val (.int m0), .val (.int m1), .val (.int P), .val (.int cv), .val (.ref a1), .val (.int (2 : Int32)), .val (.ref r47), .unset, .unset] [(.int (nar .byte ((p1).toInt8.toInt32)))])) (fun t k => X47.baloadBytes hx (j := (4 : Int32)) (v := (.int (nar .byte ((p1).toInt8.toInt32)))) Ar_r47_53.1 (State.isArrayOf_alike hZ.alike Ar_r47_53.2.1) Ar_r47_53.2.2 hin_r47_53 hat_r47_53 (g := (mkF m 256 #[.val (.int p0), .val (.int p1), .val (.int p2), .val (.int p3), .val (.int p4), .val (.int p5), .val (.int fr), .val (.int (2 : Int32)), .val (.int sc), .val (.int mg), .val (.int m0), .val (.int m1), .val (.int P), .val (.int cv), .val (.ref a1), .val (.int (2 : Int32)), .val (.ref r47), .unset, .unset] [(.int (4 : Int32)), (.ref r47)])) rfl rfl (hb hby D0_256.1) _ k) ?_
      refine o_sipush X47 hx hby D0_257 (v := 255) rfl ?_
      refine o_iand X47 hx hby D0_260 ?_
      refine o_iloadN X47 hx hby D0_261 rfl ?_
      refine o_sipush X47 hx hby D0_262 (v := 255) rfl ?_
      refine o_iand X47 hx hby D0_265 ?_
      refine o_icmpY X47 hx hby D0_266 (teq (own_byte _ : ((nar .byte ((p1).toInt8.toInt32)) &&& (255 : Int32)) = (p1 &&& (255 : Int32)))).1 (q := 271) (by decide) (by decide) ?_
      refine o_iload X47 hx hby D0_271 rfl ?_
      refine o_iconst X47 hx hby D0_273 (v := 2) rfl ?_
      refine o_icmpN X47 hx hby D0_274 (flt (by decide : ¬ ((2 : Int32) < (2 : Int32)))).1 ?_
      refine o_aload X47 hx hby D0_277 rfl rfl ?_
      refine o_iconst X47 hx hby D0_279 (v := 5) rfl ?_
      obtain ⟨cl_r47_54, Ar_r47_54, q_r47_54, S_r47_54, N_r47_54, H_r47_54, G_r47_54⟩ := id Vr47
      have hin_r47_54 : ¬ ((5 : Int32) < 0 ∨ cl_r47_54.slots.size ≤ ((5 : Int32)).toNatClampNeg) := inb_of S_r47_54 ⟨by decide, by decide⟩
      have hat_r47_54 : cl_r47_54.slots[((5 : Int32)).toNatClampNeg]? = some (.int (nar .byte ((p2).toInt8.toInt32))) := H_r47_54.at hin_r47_54 (rfl)
      refine own_pre (A' := T47.setTop (mkF m 281 #[.val (.int p0), .val (.int p1), .val (.int p2), .val (.int p3), .val (.int p4), .val (.int p5), .val (.int fr), .val (.int (2 : Int32)), .val (.int sc), .val (.int mg), .val (.int m0), .val (.int m1), .val (.int P), .val (.int cv), .val (.ref a1), .val (.int (2 : Int32)), .val (.ref r47), .unset, .unset] [(.int (nar .byte ((p2).toInt8.toInt32)))])) (fun t k => X47.baloadBytes hx (j := (5 : Int32)) (v := (.int (nar .byte ((p2).toInt8.toInt32)))) Ar_r47_54.1 (State.isArrayOf_alike hZ.alike Ar_r47_54.2.1) Ar_r47_54.2.2 hin_r47_54 hat_r47_54 (g := (mkF m 280 #[.val (.int p0), .val (.int p1), .val (.int p2), .val (.int p3), .val (.int p4), .val (.int p5), .val (.int fr), .val (.int (2 : Int32)), .val (.int sc), .val (.int mg), .val (.int m0), .val (.int m1), .val (.int P), .val (.int cv), .val (.ref a1), .val (.int (2 : Int32)), .val (.ref r47), .unset, .unset] [(.int (5 : Int32)), (.ref r47)])) rfl rfl (hb hby D0_280.1) _ k) ?_
      refine o_sipush X47 hx hby D0_281 (v := 255) rfl ?_
      refine o_iand X47 hx hby D0_284 ?_
      refine o_iloadN X47 hx hby D0_285 rfl ?_
      refine o_sipush X47 hx hby D0_286 (v := 255) rfl ?_
      refine o_iand X47 hx hby D0_289 ?_
      refine o_icmpY X47 hx hby D0_290 (teq (own_byte _ : ((nar .byte ((p2).toInt8.toInt32)) &&& (255 : Int32)) = (p2 &&& (255 : Int32)))).1 (q := 295) (by decide) (by decide) ?_
      refine o_iload X47 hx hby D0_295 rfl ?_
      refine o_iconst X47 hx hby D0_297 (v := 3) rfl ?_
      refine o_icmpY X47 hx hby D0_298 (tlt (by decide : (2 : Int32) < (3 : Int32))).1 (q := 339) (by decide) (by decide) ?_
      rcases hsc with rfl | rfl
      · skip
        refine o_iload X47 hx hby D0_339 rfl ?_
        refine o_ifN X47 hx hby D0_341 ((if0 _ _).trans (feq (by decide : ¬ ((1 : Int32) = (0 : Int32)))).1) ?_
        refine o_aload X47 hx hby D0_344 rfl rfl ?_
        refine o_iload X47 hx hby D0_346 rfl ?_
        obtain ⟨cq55, kq55, q55a, q55b, q55c⟩ := isOf hZ rfl E_47
        obtain ⟨_, _, ⟨T55, L55, k55, n55⟩, -, X55, ⟨Lc55, hQ55, l55, y55, z55⟩, st55⟩ := X47.virtualBack hx (y := (⟨"com/example/jetway/jetway/ajp/PacketWriter", "putByte", "(I)Lcom/example/jetway/jetway/ajp/PacketWriter;"⟩ : MethodName)) (z := (⟨"com/example/jetway/jetway/ajp/PacketWriter", "putByte", "(I)Lcom/example/jetway/jetway/ajp/PacketWriter;"⟩ : MethodName)) hown (mvT hZ (own_wd hw (i := 41) rfl)) (mvT hZ (own_wd hw (i := 42) rfl)) (notFace_of_selects (args := #[]) (mvT hZ (own_wd hw (i := 44) rfl))) (mvT hZ (own_wd hw (i := 44) rfl)) (mvT hZ (own_wd hw (i := 43) rfl)) (by decide) (backOf (W := 0) (rmPB4 l Z a0 hw [] a1 p5 bf kb mg P (.int (nar .byte ((((mg.toUInt32 >>> ((8 : Int32) &&& 31).toUInt32).toInt32)).toInt8.toInt32))) (.int (nar .byte ((mg).toInt8.toInt32))) (.int (nar .byte ((((((6 : Int32) - (4 : Int32)).toUInt32 >>> ((8 : Int32) &&& 31).toUInt32).toInt32)).toInt8.toInt32))) (.int (nar .byte ((((6 : Int32) - (4 : Int32))).toInt8.toInt32))) (.int (nar .byte ((p1).toInt8.toInt32))) (.int (nar .byte ((p2).toInt8.toInt32))) (.int (0 : Int32)) (.int (0 : Int32)) T47.heap n0 (own_leN (by omega)) ⟨E_47, Fm_47, Fp_47, Fb_47, Fo_47, Vb_47, Eb_47⟩ gn_a1 gn_bf nab hP) hZ (own_wd hw (i := 45) rfl) (own_wd hw (i := 3) rfl) (by decide) (by decide)) q55a q55c (g := (mkF m 348 #[.val (.int p0), .val (.int p1), .val (.int p2), .val (.int p3), .val (.int p4), .val (.int p5), .val (.int fr), .val (.int (2 : Int32)), .val (.int (1 : Int32)), .val (.int mg), .val (.int m0), .val (.int m1), .val (.int P), .val (.int cv), .val (.ref a1), .val (.int (2 : Int32)), .val (.ref r47), .unset, .unset] [(.int p5), (.ref a1)])) rfl (by rw [hml]; rfl) (Steps.refl _) (argsL := [(.int p5)]) (rest := []) (lenOf pd__40I_41Lcom_47example_47jetway_47jetway_47ajp_47PacketWriter_59 rfl) rfl (by show 2 * 0 + _ ≤ _; exact Nat.le_of_eq rfl) (hb hby D0_348.1) (fun _ _ => ⟨rfl, rfl, (by decide : 3 + 0 ≤ _), (by decide : 273 + 0 ≤ _)⟩)
        dsimp only [Pt.U, Pt.locs, Pt.cells, Pt.slots] at X55 l55 y55 z55 st55 hQ55
        subst l55 y55 z55
        obtain ⟨rfl, N55q, K55, E_55, Fm_55, Fp_55, Fb_55, Fo_55, Vb_55, Eb_55⟩ := hQ55
        have sz55 := own_leN K55.1
        have N55 := Fr.app N47 N55q
        refine own_pre (A' := T55.setTop (mkF m 351 #[.val (.int p0), .val (.int p1), .val (.int p2), .val (.int p3), .val (.int p4), .val (.int p5), .val (.int fr), .val (.int (2 : Int32)), .val (.int (1 : Int32)), .val (.int mg), .val (.int m0), .val (.int m1), .val (.int P), .val (.int cv), .val (.ref a1), .val (.int (2 : Int32)), .val (.ref r47), .unset, .unset] [(.ref a1)])) (fun t k => st55.trans k) ?_
        refine o_pop X55 hx hby D0_351 rfl ?_
        refine o_aload X55 hx hby D0_352 rfl rfl ?_
        obtain ⟨cq56, kq56, q56a, q56b, q56c⟩ := isOf hZ rfl E_55
        obtain ⟨_, _, ⟨T56, L56, k56, n56⟩, -, X56, ⟨Lc56, hQ56, l56, y56, z56⟩, st56⟩ := X55.virtualBack hx (y := (⟨"com/example/jetway/jetway/ajp/PacketWriter", "toByteArray", "()[B"⟩ : MethodName)) (z := (⟨"com/example/jetway/jetway/ajp/PacketWriter", "toByteArray", "()[B"⟩ : MethodName)) hown (mvT hZ (own_wd hw (i := 23) rfl)) (mvT hZ (own_wd hw (i := 24) rfl)) (notFace_of_selects (args := #[]) (mvT hZ (own_wd hw (i := 26) rfl))) (mvT hZ (own_wd hw (i := 26) rfl)) (mvT hZ (own_wd hw (i := 25) rfl)) (by decide) (backOf (W := 0) (rmT5 l Z a0 hw [] a1 bf kb mg P (.int (nar .byte ((((mg.toUInt32 >>> ((8 : Int32) &&& 31).toUInt32).toInt32)).toInt8.toInt32))) (.int (nar .byte ((mg).toInt8.toInt32))) (.int (nar .byte ((((((6 : Int32) - (4 : Int32)).toUInt32 >>> ((8 : Int32) &&& 31).toUInt32).toInt32)).toInt8.toInt32))) (.int (nar .byte ((((6 : Int32) - (4 : Int32))).toInt8.toInt32))) (.int (nar .byte ((p5).toInt8.toInt32))) (.int (nar .byte ((p2).toInt8.toInt32))) (.int (0 : Int32)) (.int (0 : Int32)) T55.heap n0 (own_leN (by omega)) ⟨E_55, Fm_55, Fp_55, Fb_55, Fo_55, Vb_55, Eb_55⟩ gn_a1 gn_bf nab hP) hZ (own_wd hw (i := 27) rfl) (own_wd hw (i := 3) rfl) (by decide) (by decide)) q56a q56c (g := (mkF m 354 #[.val (.int p0), .val (.int p1), .val (.int p2), .val (.int p3), .val (.int p4), .val (.int p5), .val (.int fr), .val (.int (2 : Int32)), .val (.int (1 : Int32)), .val (.int mg), .val (.int m0), .val (.int m1), .val (.int P), .val (.int cv), .val (.ref a1), .val (.int (2 : Int32)), .val (.ref r47), .unset, .unset] [(.ref a1)])) rfl (by rw [hml]; rfl) (Steps.refl _) (argsL := []) (rest := []) (lenOf pd__40_41_91B rfl) rfl (by show 2 * 0 + _ ≤ _; exact Nat.le_of_eq rfl) (hb hby D0_354.1) (fun _ _ => ⟨rfl, rfl, (by decide : 3 + 1 ≤ _), (by decide : 273 + 5 ≤ _)⟩)
        dsimp only [Pt.U, Pt.locs, Pt.cells, Pt.slots] at X56 l56 y56 z56 st56 hQ56
        subst l56 y56 z56
        obtain ⟨r56, kr56, rfl, N56q, K56, ge56, Vr56, E_56, Fm_56, Fp_56, Fb_56, Fo_56, Vb_56, Eb_56⟩ := hQ56
        have sz56 := own_leN K56.1
        have ge56' := own_leN ge56
        have lt_r56 := own_ltN Vr56.lt
        have N56 := Fr.app N55 N56q
        refine own_pre (A' := T56.setTop (mkF m 357 #[.val (.int p0), .val (.int p1), .val (.int p2), .val (.int p3), .val (.int p4), .val (.int p5), .val (.int fr), .val (.int (2 : Int32)), .val (.int (1 : Int32)), .val (.int mg), .val (.int m0), .val (.int m1), .val (.int P), .val (.int cv), .val (.ref a1), .val (.int (2 : Int32)), .val (.ref r47), .unset, .unset] [(.ref r56)])) (fun t k => st56.trans k) ?_
        refine o_astore X56 hx hby D0_357 rfl (l' := #[.val (.int p0), .val (.int p1), .val (.int p2), .val (.int p3), .val (.int p4), .val (.int p5), .val (.int fr), .val (.int (2 : Int32)), .val (.int (1 : Int32)), .val (.int mg), .val (.int m0), .val (.int m1), .val (.int P), .val (.int cv), .val (.ref a1), .val (.int (2 : Int32)), .val (.ref r47), .val (.ref r56), .unset]) rfl ?_
        refine o_iload X56 hx hby D0_359 rfl ?_
        refine o_ifN X56 hx hby D0_361 ((if0 _ _).trans (feq (by decide : ¬ ((1 : Int32) = (0 : Int32)))).1) ?_
        refine o_iconst X56 hx hby D0_364 (v := 1) rfl ?_
        refine o_goto X56 hx hby D0_365 (q := 369) (by decide) (by decide) ?_
        refine o_istore X56 hx hby D0_369 (l' := #[.val (.int p0), .val (.int p1), .val (.int p2), .val (.int p3), .val (.int p4), .val (.int p5), .val (.int fr), .val (.int (2 : Int32)), .val (.int (1 : Int32)), .val (.int mg), .val (.int m0), .val (.int m1), .val (.int P), .val (.int cv), .val (.ref a1), .val (.int (2 : Int32)), .val (.ref r47), .val (.ref r56), .val (.int (1 : Int32))]) rfl ?_
        refine o_aload X56 hx hby D0_371 rfl rfl ?_
        obtain ⟨cl_r56_57, Ar_r56_57, q_r56_57, S_r56_57, N_r56_57, H_r56_57, G_r56_57⟩ := id Vr56
        refine own_pre (A' := T56.setTop (mkF m 374 #[.val (.int p0), .val (.int p1), .val (.int p2), .val (.int p3), .val (.int p4), .val (.int p5), .val (.int fr), .val (.int (2 : Int32)), .val (.int (1 : Int32)), .val (.int mg), .val (.int m0), .val (.int m1), .val (.int P), .val (.int cv), .val (.ref a1), .val (.int (2 : Int32)), .val (.ref r47), .val (.ref r56), .val (.int (1 : Int32))] [(.int (5 : Int32))])) (fun t k => X56.arraylength hx Ar_r56_57.1 (State.isArrayOf_alike hZ.alike Ar_r56_57.2.1) (g := (mkF m 373 #[.val (.int p0), .val (.int p1), .val (.int p2), .val (.int p3), .val (.int p4), .val (.int p5), .val (.int fr), .val (.int (2 : Int32)), .val (.int (1 : Int32)), .val (.int mg), .val (.int m0), .val (.int m1), .val (.int P), .val (.int cv), .val (.ref a1), .val (.int (2 : Int32)), .val (.ref r47), .val (.ref r56), .val (.int (1 : Int32))] [(.ref r56)])) rfl rfl (hb hby D0_373.1) _ (by rw [len_of S_r56_57 N_r56_57]; exact k)) ?_
        refine o_iconst X56 hx hby D0_374 (v := 4) rfl ?_
        refine o_iload X56 hx hby D0_375 rfl ?_
        refine o_iadd X56 hx hby D0_377 ?_
        refine o_icmpY X56 hx hby D0_378 (teq (by decide : (5 : Int32) = ((4 : Int32) + (1 : Int32)))).1 (q := 383) (by decide) (by decide) ?_
        refine o_aload X56 hx hby D0_383 rfl rfl ?_
        refine o_iconst X56 hx hby D0_385 (v := 0) rfl ?_
        obtain ⟨cl_r56_58, Ar_r56_58, q_r56_58, S_r56_58, N_r56_58, H_r56_58, G_r56_58⟩ := id Vr56
        have hin_r56_58 : ¬ ((0 : Int32) < 0 ∨ cl_r56_58.slots.size ≤ ((0 : Int32)).toNatClampNeg) := inb_of S_r56_58 ⟨by decide, by decide⟩
        have hat_r56_58 : cl_r56_58.slots[((0 : Int32)).toNatClampNeg]? = some (.int (nar .byte ((((mg.toUInt32 >>> ((8 : Int32) &&& 31).toUInt32).toInt32)).toInt8.toInt32))) := H_r56_58.at hin_r56_58 (rfl)
        refine own_pre (A' := T56.setTop (mkF m 387 #[.val (.int p0), .val (.int p1), .val (.int p2), .val (.int p3), .val (.int p4), .val (.int p5), .val (.int fr), .val (.int (2 : Int32)), .val (.int (1 : Int32)), .val (.int mg), .val (.int m0), .val (.int m1), .val (.int P), .val (.int cv), .val (.ref a1), .val (.int (2 : Int32)), .val (.ref r47), .val (.ref r56), .val (.int (1 : Int32))] [(.int (nar .byte ((((mg.toUInt32 >>> ((8 : Int32) &&& 31).toUInt32).toInt32)).toInt8.toInt32)))])) (fun t k => X56.baloadBytes hx (j := (0 : Int32)) (v := (.int (nar .byte ((((mg.toUInt32 >>> ((8 : Int32) &&& 31).toUInt32).toInt32)).toInt8.toInt32)))) Ar_r56_58.1 (State.isArrayOf_alike hZ.alike Ar_r56_58.2.1) Ar_r56_58.2.2 hin_r56_58 hat_r56_58 (g := (mkF m 386 #[.val (.int p0), .val (.int p1), .val (.int p2), .val (.int p3), .val (.int p4), .val (.int p5), .val (.int fr), .val (.int (2 : Int32)), .val (.int (1 : Int32)), .val (.int mg), .val (.int m0), .val (.int m1), .val (.int P), .val (.int cv), .val (.ref a1), .val (.int (2 : Int32)), .val (.ref r47), .val (.ref r56), .val (.int (1 : Int32))] [(.int (0 : Int32)), (.ref r56)])) rfl rfl (hb hby D0_386.1) _ k) ?_
        refine o_sipush X56 hx hby D0_387 (v := 255) rfl ?_
        refine o_iand X56 hx hby D0_390 ?_
        refine o_iload X56 hx hby D0_391 rfl ?_
        refine o_icmpN X56 hx hby D0_393 (teq (hmg.1 : ((nar .byte ((((mg.toUInt32 >>> ((8 : Int32) &&& 31).toUInt32).toInt32)).toInt8.toInt32)) &&& (255 : Int32)) = m0)).2 ?_
        refine o_aload X56 hx hby D0_396 rfl rfl ?_
        refine o_iconst X56 hx hby D0_398 (v := 1) rfl ?_
        obtain ⟨cl_r56_59, Ar_r56_59, q_r56_59, S_r56_59, N_r56_59, H_r56_59, G_r56_59⟩ := id Vr56
        have hin_r56_59 : ¬ ((1 : Int32) < 0 ∨ cl_r56_59.slots.size ≤ ((1 : Int32)).toNatClampNeg) := inb_of S_r56_59 ⟨by decide, by decide⟩
        have hat_r56_59 : cl_r56_59.slots[((1 : Int32)).toNatClampNeg]? = some (.int (nar .byte ((mg).toInt8.toInt32))) := H_r56_59.at hin_r56_59 (rfl)
        refine own_pre (A' := T56.setTop (mkF m 400 #[.val (.int p0), .val (.int p1), .val (.int p2), .val (.int p3), .val (.int p4), .val (.int p5), .val (.int fr), .val (.int (2 : Int32)), .val (.int (1 : Int32)), .val (.int mg), .val (.int m0), .val (.int m1), .val (.int P), .val (.int cv), .val (.ref a1), .val (.int (2 : Int32)), .val (.ref r47), .val (.ref r56), .val (.int (1 : Int32))] [(.int (nar .byte ((mg).toInt8.toInt32)))])) (fun t k => X56.baloadBytes hx (j := (1 : Int32)) (v := (.int (nar .byte ((mg).toInt8.toInt32)))) Ar_r56_59.1 (State.isArrayOf_alike hZ.alike Ar_r56_59.2.1) Ar_r56_59.2.2 hin_r56_59 hat_r56_59 (g := (mkF m 399 #[.val (.int p0), .val (.int p1), .val (.int p2), .val (.int p3), .val (.int p4), .val (.int p5), .val (.int fr), .val (.int (2 : Int32)), .val (.int (1 : Int32)), .val (.int mg), .val (.int m0), .val (.int m1), .val (.int P), .val (.int cv), .val (.ref a1), .val (.int (2 : Int32)), .val (.ref r47), .val (.ref r56), .val (.int (1 : Int32))] [(.int (1 : Int32)), (.ref r56)])) rfl rfl (hb hby D0_399.1) _ k) ?_
        refine o_sipush X56 hx hby D0_400 (v := 255) rfl ?_
        refine o_iand X56 hx hby D0_403 ?_
        refine o_iload X56 hx hby D0_404 rfl ?_
        refine o_icmpN X56 hx hby D0_406 (teq (hmg.2 : ((nar .byte ((mg).toInt8.toInt32)) &&& (255 : Int32)) = m1)).2 ?_
        refine o_aload X56 hx hby D0_409 rfl rfl ?_
        refine o_iconst X56 hx hby D0_411 (v := 2) rfl ?_
        obtain ⟨cl_r56_60, Ar_r56_60, q_r56_60, S_r56_60, N_r56_60, H_r56_60, G_r56_60⟩ := id Vr56
        have hin_r56_60 : ¬ ((2 : Int32) < 0 ∨ cl_r56_60.slots.size ≤ ((2 : Int32)).toNatClampNeg) := inb_of S_r56_60 ⟨by decide, by decide⟩
        have hat_r56_60 : cl_r56_60.slots[((2 : Int32)).toNatClampNeg]? = some (.int (nar .byte ((((((5 : Int32) - (4 : Int32)).toUInt32 >>> ((8 : Int32) &&& 31).toUInt32).toInt32)).toInt8.toInt32))) := H_r56_60.at hin_r56_60 (rfl)
        refine own_pre (A' := T56.setTop (mkF m 413 #[.val (.int p0), .val (.int p1), .val (.int p2), .val (.int p3), .val (.int p4), .val (.int p5), .val (.int fr), .val (.int (2 : Int32)), .val (.int (1 : Int32)), .val (.int mg), .val (.int m0), .val (.int m1), .val (.int P), .val (.int cv), .val (.ref a1), .val (.int (2 : Int32)), .val (.ref r47), .val (.ref r56), .val (.int (1 : Int32))] [(.int (nar .byte ((((((5 : Int32) - (4 : Int32)).toUInt32 >>> ((8 : Int32) &&& 31).toUInt32).toInt32)).toInt8.toInt32)))])) (fun t k => X56.baloadBytes hx (j := (2 : Int32)) (v := (.int (nar .byte ((((((5 : Int32) - (4 : Int32)).toUInt32 >>> ((8 : Int32) &&& 31).toUInt32).toInt32)).toInt8.toInt32)))) Ar_r56_60.1 (State.isArrayOf_alike hZ.alike Ar_r56_60.2.1) Ar_r56_60.2.2 hin_r56_60 hat_r56_60 (g := (mkF m 412 #[.val (.int p0), .val (.int p1), .val (.int p2), .val (.int p3), .val (.int p4), .val (.int p5), .val (.int fr), .val (.int (2 : Int32)), .val (.int (1 : Int32)), .val (.int mg), .val (.int m0), .val (.int m1), .val (.int P), .val (.int cv), .val (.ref a1), .val (.int (2 : Int32)), .val (.ref r47), .val (.ref r56), .val (.int (1 : Int32))] [(.int (2 : Int32)), (.ref r56)])) rfl rfl (hb hby D0_412.1) _ k) ?_
        refine o_ifN X56 hx hby D0_413 ((if0 _ _).trans (teq (by decide : (nar .byte ((((((5 : Int32) - (4 : Int32)).toUInt32 >>> ((8 : Int32) &&& 31).toUInt32).toInt32)).toInt8.toInt32)) = (0 : Int32))).2) ?_
        refine o_aload X56 hx hby D0_416 rfl rfl ?_
        refine o_iconst X56 hx hby D0_418 (v := 3) rfl ?_
        obtain ⟨cl_r56_61, Ar_r56_61, q_r56_61, S_r56_61, N_r56_61, H_r56_61, G_r56_61⟩ := id Vr56
        have hin_r56_61 : ¬ ((3 : Int32) < 0 ∨ cl_r56_61.slots.size ≤ ((3 : Int32)).toNatClampNeg) := inb_of S_r56_61 ⟨by decide, by decide⟩
        have hat_r56_61 : cl_r56_61.slots[((3 : Int32)).toNatClampNeg]? = some (.int (nar .byte ((((5 : Int32) - (4 : Int32))).toInt8.toInt32))) := H_r56_61.at hin_r56_61 (rfl)
        refine own_pre (A' := T56.setTop (mkF m 420 #[.val (.int p0), .val (.int p1), .val (.int p2), .val (.int p3), .val (.int p4), .val (.int p5), .val (.int fr), .val (.int (2 : Int32)), .val (.int (1 : Int32)), .val (.int mg), .val (.int m0), .val (.int m1), .val (.int P), .val (.int cv), .val (.ref a1), .val (.int (2 : Int32)), .val (.ref r47), .val (.ref r56), .val (.int (1 : Int32))] [(.int (nar .byte ((((5 : Int32) - (4 : Int32))).toInt8.toInt32)))])) (fun t k => X56.baloadBytes hx (j := (3 : Int32)) (v := (.int (nar .byte ((((5 : Int32) - (4 : Int32))).toInt8.toInt32)))) Ar_r56_61.1 (State.isArrayOf_alike hZ.alike Ar_r56_61.2.1) Ar_r56_61.2.2 hin_r56_61 hat_r56_61 (g := (mkF m 419 #[.val (.int p0), .val (.int p1), .val (.int p2), .val (.int p3), .val (.int p4), .val (.int p5), .val (.int fr), .val (.int (2 : Int32)), .val (.int (1 : Int32)), .val (.int mg), .val (.int m0), .val (.int m1), .val (.int P), .val (.int cv), .val (.ref a1), .val (.int (2 : Int32)), .val (.ref r47), .val (.ref r56), .val (.int (1 : Int32))] [(.int (3 : Int32)), (.ref r56)])) rfl rfl (hb hby D0_419.1) _ k) ?_
        refine o_sipush X56 hx hby D0_420 (v := 255) rfl ?_
        refine o_iand X56 hx hby D0_423 ?_
        refine o_iload X56 hx hby D0_424 rfl ?_
        refine o_icmpY X56 hx hby D0_426 (teq (by decide : ((nar .byte ((((5 : Int32) - (4 : Int32))).toInt8.toInt32)) &&& (255 : Int32)) = (1 : Int32))).1 (q := 431) (by decide) (by decide) ?_
        refine o_iload X56 hx hby D0_431 rfl ?_
        refine o_ifN X56 hx hby D0_433 ((if0 _ _).trans (feq (by decide : ¬ ((1 : Int32) = (0 : Int32)))).1) ?_
        refine o_aload X56 hx hby D0_436 rfl rfl ?_
        refine o_iconst X56 hx hby D0_438 (v := 4) rfl ?_
        obtain ⟨cl_r56_62, Ar_r56_62, q_r56_62, S_r56_62, N_r56_62, H_r56_62, G_r56_62⟩ := id Vr56
        have hin_r56_62 : ¬ ((4 : Int32) < 0 ∨ cl_r56_62.slots.size ≤ ((4 : Int32)).toNatClampNeg) := inb_of S_r56_62 ⟨by decide, by decide⟩
        have hat_r56_62 : cl_r56_62.slots[((4 : Int32)).toNatClampNeg]? = some (.int (nar .byte ((p5).toInt8.toInt32))) := H_r56_62.at hin_r56_62 (rfl)
        refine own_pre (A' := T56.setTop (mkF m 440 #[.val (.int p0), .val (.int p1), .val (.int p2), .val (.int p3), .val (.int p4), .val (.int p5), .val (.int fr), .val (.int (2 : Int32)), .val (.int (1 : Int32)), .val (.int mg), .val (.int m0), .val (.int m1), .val (.int P), .val (.int cv), .val (.ref a1), .val (.int (2 : Int32)), .val (.ref r47), .val (.ref r56), .val (.int (1 : Int32))] [(.int (nar .byte ((p5).toInt8.toInt32)))])) (fun t k => X56.baloadBytes hx (j := (4 : Int32)) (v := (.int (nar .byte ((p5).toInt8.toInt32)))) Ar_r56_62.1 (State.isArrayOf_alike hZ.alike Ar_r56_62.2.1) Ar_r56_62.2.2 hin_r56_62 hat_r56_62 (g := (mkF m 439 #[.val (.int p0), .val (.int p1), .val (.int p2), .val (.int p3), .val (.int p4), .val (.int p5), .val (.int fr), .val (.int (2 : Int32)), .val (.int (1 : Int32)), .val (.int mg), .val (.int m0), .val (.int m1), .val (.int P), .val (.int cv), .val (.ref a1), .val (.int (2 : Int32)), .val (.ref r47), .val (.ref r56), .val (.int (1 : Int32))] [(.int (4 : Int32)), (.ref r56)])) rfl rfl (hb hby D0_439.1) _ k) ?_
        refine o_sipush X56 hx hby D0_440 (v := 255) rfl ?_
        refine o_iand X56 hx hby D0_443 ?_
        refine o_iload X56 hx hby D0_444 rfl ?_
        refine o_sipush X56 hx hby D0_446 (v := 255) rfl ?_
        refine o_iand X56 hx hby D0_449 ?_
        refine o_icmpY X56 hx hby D0_450 (teq (own_byte _ : ((nar .byte ((p5).toInt8.toInt32)) &&& (255 : Int32)) = (p5 &&& (255 : Int32)))).1 (q := 455) (by decide) (by decide) ?_
        refine o_iconst X56 hx hby D0_455 (v := 1) rfl ?_
        exact own_ret (v := some (.int (1 : Int32))) X56 (fun h => by first | rfl | (rw [Bd.returns] at h; cases h)) (BodyLoose.notSynchronized Bd) (by decide) (by decide) (⟨rfl, N56⟩) (fun fs hr => retN X56 hx (t := .boolean) Bd.returns (by simp) (hb hby D0_456.1) hr)
      · skip
        refine o_iload X47 hx hby D0_339 rfl ?_
        refine o_ifY X47 hx hby D0_341 ((if0 _ _).trans (teq (by decide : (0 : Int32) = (0 : Int32))).1) (q := 352) (by decide) (by decide) ?_
        refine o_aload X47 hx hby D0_352 rfl rfl ?_
        obtain ⟨cq63, kq63, q63a, q63b, q63c⟩ := isOf hZ rfl E_47
        obtain ⟨_, _, ⟨T63, L63, k63, n63⟩, -, X63, ⟨Lc63, hQ63, l63, y63, z63⟩, st63⟩ := X47.virtualBack hx (y := (⟨"com/example/jetway/jetway/ajp/PacketWriter", "toByteArray", "()[B"⟩ : MethodName)) (z := (⟨"com/example/jetway/jetway/ajp/PacketWriter", "toByteArray", "()[B"⟩ : MethodName)) hown (mvT hZ (own_wd hw (i := 23) rfl)) (mvT hZ (own_wd hw (i := 24) rfl)) (notFace_of_selects (args := #[]) (mvT hZ (own_wd hw (i := 26) rfl))) (mvT hZ (own_wd hw (i := 26) rfl)) (mvT hZ (own_wd hw (i := 25) rfl)) (by decide) (backOf (W := 0) (rmT4 l Z a0 hw [] a1 bf kb mg P (.int (nar .byte ((((mg.toUInt32 >>> ((8 : Int32) &&& 31).toUInt32).toInt32)).toInt8.toInt32))) (.int (nar .byte ((mg).toInt8.toInt32))) (.int (nar .byte ((((((6 : Int32) - (4 : Int32)).toUInt32 >>> ((8 : Int32) &&& 31).toUInt32).toInt32)).toInt8.toInt32))) (.int (nar .byte ((((6 : Int32) - (4 : Int32))).toInt8.toInt32))) (.int (nar .byte ((p1).toInt8.toInt32))) (.int (nar .byte ((p2).toInt8.toInt32))) (.int (0 : Int32)) (.int (0 : Int32)) T47.heap n0 (own_leN (by omega)) ⟨E_47, Fm_47, Fp_47, Fb_47, Fo_47, Vb_47, Eb_47⟩ gn_a1 gn_bf nab hP) hZ (own_wd hw (i := 27) rfl) (own_wd hw (i := 3) rfl) (by decide) (by decide)) q63a q63c (g := (mkF m 354 #[.val (.int p0), .val (.int p1), .val (.int p2), .val (.int p3), .val (.int p4), .val (.int p5), .val (.int fr), .val (.int (2 : Int32)), .val (.int (0 : Int32)), .val (.int mg), .val (.int m0), .val (.int m1), .val (.int P), .val (.int cv), .val (.ref a1), .val (.int (2 : Int32)), .val (.ref r47), .unset, .unset] [(.ref a1)])) rfl (by rw [hml]; rfl) (Steps.refl _) (argsL := []) (rest := []) (lenOf pd__40_41_91B rfl) rfl (by show 2 * 0 + _ ≤ _; exact Nat.le_of_eq rfl) (hb hby D0_354.1) (fun _ _ => ⟨rfl, rfl, (by decide : 3 + 1 ≤ _), (by decide : 273 + 4 ≤ _)⟩)
        dsimp only [Pt.U, Pt.locs, Pt.cells, Pt.slots] at X63 l63 y63 z63 st63 hQ63
        subst l63 y63 z63
        obtain ⟨r63, kr63, rfl, N63q, K63, ge63, Vr63, E_63, Fm_63, Fp_63, Fb_63, Fo_63, Vb_63, Eb_63⟩ := hQ63
        have sz63 := own_leN K63.1
        have ge63' := own_leN ge63
        have lt_r63 := own_ltN Vr63.lt
        have N63 := Fr.app N47 N63q
        refine own_pre (A' := T63.setTop (mkF m 357 #[.val (.int p0), .val (.int p1), .val (.int p2), .val (.int p3), .val (.int p4), .val (.int p5), .val (.int fr), .val (.int (2 : Int32)), .val (.int (0 : Int32)), .val (.int mg), .val (.int m0), .val (.int m1), .val (.int P), .val (.int cv), .val (.ref a1), .val (.int (2 : Int32)), .val (.ref r47), .unset, .unset] [(.ref r63)])) (fun t k => st63.trans k) ?_
        refine o_astore X63 hx hby D0_357 rfl (l' := #[.val (.int p0), .val (.int p1), .val (.int p2), .val (.int p3), .val (.int p4), .val (.int p5), .val (.int fr), .val (.int (2 : Int32)), .val (.int (0 : Int32)), .val (.int mg), .val (.int m0), .val (.int m1), .val (.int P), .val (.int cv), .val (.ref a1), .val (.int (2 : Int32)), .val (.ref r47), .val (.ref r63), .unset]) rfl ?_
        refine o_iload X63 hx hby D0_359 rfl ?_
        refine o_ifY X63 hx hby D0_361 ((if0 _ _).trans (teq (by decide : (0 : Int32) = (0 : Int32))).1) (q := 368) (by decide) (by decide) ?_
        refine o_iconst X63 hx hby D0_368 (v := 0) rfl ?_
        refine o_istore X63 hx hby D0_369 (l' := #[.val (.int p0), .val (.int p1), .val (.int p2), .val (.int p3), .val (.int p4), .val (.int p5), .val (.int fr), .val (.int (2 : Int32)), .val (.int (0 : Int32)), .val (.int mg), .val (.int m0), .val (.int m1), .val (.int P), .val (.int cv), .val (.ref a1), .val (.int (2 : Int32)), .val (.ref r47), .val (.ref r63), .val (.int (0 : Int32))]) rfl ?_
        refine o_aload X63 hx hby D0_371 rfl rfl ?_
        obtain ⟨cl_r63_64, Ar_r63_64, q_r63_64, S_r63_64, N_r63_64, H_r63_64, G_r63_64⟩ := id Vr63
        refine own_pre (A' := T63.setTop (mkF m 374 #[.val (.int p0), .val (.int p1), .val (.int p2), .val (.int p3), .val (.int p4), .val (.int p5), .val (.int fr), .val (.int (2 : Int32)), .val (.int (0 : Int32)), .val (.int mg), .val (.int m0), .val (.int m1), .val (.int P), .val (.int cv), .val (.ref a1), .val (.int (2 : Int32)), .val (.ref r47), .val (.ref r63), .val (.int (0 : Int32))] [(.int (4 : Int32))])) (fun t k => X63.arraylength hx Ar_r63_64.1 (State.isArrayOf_alike hZ.alike Ar_r63_64.2.1) (g := (mkF m 373 #[.val (.int p0), .val (.int p1), .val (.int p2), .val (.int p3), .val (.int p4), .val (.int p5), .val (.int fr), .val (.int (2 : Int32)), .val (.int (0 : Int32)), .val (.int mg), .val (.int m0), .val (.int m1), .val (.int P), .val (.int cv), .val (.ref a1), .val (.int (2 : Int32)), .val (.ref r47), .val (.ref r63), .val (.int (0 : Int32))] [(.ref r63)])) rfl rfl (hb hby D0_373.1) _ (by rw [len_of S_r63_64 N_r63_64]; exact k)) ?_
        refine o_iconst X63 hx hby D0_374 (v := 4) rfl ?_
        refine o_iload X63 hx hby D0_375 rfl ?_
        refine o_iadd X63 hx hby D0_377 ?_
        refine o_icmpY X63 hx hby D0_378 (teq (by decide : (4 : Int32) = ((4 : Int32) + (0 : Int32)))).1 (q := 383) (by decide) (by decide) ?_
        refine o_aload X63 hx hby D0_383 rfl rfl ?_
        refine o_iconst X63 hx hby D0_385 (v := 0) rfl ?_
        obtain ⟨cl_r63_65, Ar_r63_65, q_r63_65, S_r63_65, N_r63_65, H_r63_65, G_r63_65⟩ := id Vr63
        have hin_r63_65 : ¬ ((0 : Int32) < 0 ∨ cl_r63_65.slots.size ≤ ((0 : Int32)).toNatClampNeg) := inb_of S_r63_65 ⟨by decide, by decide⟩
        have hat_r63_65 : cl_r63_65.slots[((0 : Int32)).toNatClampNeg]? = some (.int (nar .byte ((((mg.toUInt32 >>> ((8 : Int32) &&& 31).toUInt32).toInt32)).toInt8.toInt32))) := H_r63_65.at hin_r63_65 (rfl)
        refine own_pre (A' := T63.setTop (mkF m 387 #[.val (.int p0), .val (.int p1), .val (.int p2), .val (.int p3), .val (.int p4), .val (.int p5), .val (.int fr), .val (.int (2 : Int32)), .val (.int (0 : Int32)), .val (.int mg), .val (.int m0), .val (.int m1), .val (.int P), .val (.int cv), .val (.ref a1), .val (.int (2 : Int32)), .val (.ref r47), .val (.ref r63), .val (.int (0 : Int32))] [(.int (nar .byte ((((mg.toUInt32 >>> ((8 : Int32) &&& 31).toUInt32).toInt32)).toInt8.toInt32)))])) (fun t k => X63.baloadBytes hx (j := (0 : Int32)) (v := (.int (nar .byte ((((mg.toUInt32 >>> ((8 : Int32) &&& 31).toUInt32).toInt32)).toInt8.toInt32)))) Ar_r63_65.1 (State.isArrayOf_alike hZ.alike Ar_r63_65.2.1) Ar_r63_65.2.2 hin_r63_65 hat_r63_65 (g := (mkF m 386 #[.val (.int p0), .val (.int p1), .val (.int p2), .val (.int p3), .val (.int p4), .val (.int p5), .val (.int fr), .val (.int (2 : Int32)), .val (.int (0 : Int32)), .val (.int mg), .val (.int m0), .val (.int m1), .val (.int P), .val (.int cv), .val (.ref a1), .val (.int (2 : Int32)), .val (.ref r47), .val (.ref r63), .val (.int (0 : Int32))] [(.int (0 : Int32)), (.ref r63)])) rfl rfl (hb hby D0_386.1) _ k) ?_
        refine o_sipush X63 hx hby D0_387 (v := 255) rfl ?_
        refine o_iand X63 hx hby D0_390 ?_
        refine o_iload X63 hx hby D0_391 rfl ?_
        refine o_icmpN X63 hx hby D0_393 (teq (hmg.1 : ((nar .byte ((((mg.toUInt32 >>> ((8 : Int32) &&& 31).toUInt32).toInt32)).toInt8.toInt32)) &&& (255 : Int32)) = m0)).2 ?_
        refine o_aload X63 hx hby D0_396 rfl rfl ?_
        refine o_iconst X63 hx hby D0_398 (v := 1) rfl ?_
        obtain ⟨cl_r63_66, Ar_r63_66, q_r63_66, S_r63_66, N_r63_66, H_r63_66, G_r63_66⟩ := id Vr63
        have hin_r63_66 : ¬ ((1 : Int32) < 0 ∨ cl_r63_66.slots.size ≤ ((1 : Int32)).toNatClampNeg) := inb_of S_r63_66 ⟨by decide, by decide⟩
        have hat_r63_66 : cl_r63_66.slots[((1 : Int32)).toNatClampNeg]? = some (.int (nar .byte ((mg).toInt8.toInt32))) := H_r63_66.at hin_r63_66 (rfl)
        refine own_pre (A' := T63.setTop (mkF m 400 #[.val (.int p0), .val (.int p1), .val (.int p2), .val (.int p3), .val (.int p4), .val (.int p5), .val (.int fr), .val (.int (2 : Int32)), .val (.int (0 : Int32)), .val (.int mg), .val (.int m0), .val (.int m1), .val (.int P), .val (.int cv), .val (.ref a1), .val (.int (2 : Int32)), .val (.ref r47), .val (.ref r63), .val (.int (0 : Int32))] [(.int (nar .byte ((mg).toInt8.toInt32)))])) (fun t k => X63.baloadBytes hx (j := (1 : Int32)) (v := (.int (nar .byte ((mg).toInt8.toInt32)))) Ar_r63_66.1 (State.isArrayOf_alike hZ.alike Ar_r63_66.2.1) Ar_r63_66.2.2 hin_r63_66 hat_r63_66 (g := (mkF m 399 #[.val (.int p0), .val (.int p1), .val (.int p2), .val (.int p3), .val (.int p4), .val (.int p5), .val (.int fr), .val (.int (2 : Int32)), .val (.int (0 : Int32)), .val (.int mg), .val (.int m0), .val (.int m1), .val (.int P), .val (.int cv), .val (.ref a1), .val (.int (2 : Int32)), .val (.ref r47), .val (.ref r63), .val (.int (0 : Int32))] [(.int (1 : Int32)), (.ref r63)])) rfl rfl (hb hby D0_399.1) _ k) ?_
        refine o_sipush X63 hx hby D0_400 (v := 255) rfl ?_
        refine o_iand X63 hx hby D0_403 ?_
        refine o_iload X63 hx hby D0_404 rfl ?_
        refine o_icmpN X63 hx hby D0_406 (teq (hmg.2 : ((nar .byte ((mg).toInt8.toInt32)) &&& (255 : Int32)) = m1)).2 ?_
        refine o_aload X63 hx hby D0_409 rfl rfl ?_
        refine o_iconst X63 hx hby D0_411 (v := 2) rfl ?_
        obtain ⟨cl_r63_67, Ar_r63_67, q_r63_67, S_r63_67, N_r63_67, H_r63_67, G_r63_67⟩ := id Vr63
        have hin_r63_67 : ¬ ((2 : Int32) < 0 ∨ cl_r63_67.slots.size ≤ ((2 : Int32)).toNatClampNeg) := inb_of S_r63_67 ⟨by decide, by decide⟩
        have hat_r63_67 : cl_r63_67.slots[((2 : Int32)).toNatClampNeg]? = some (.int (nar .byte ((((((4 : Int32) - (4 : Int32)).toUInt32 >>> ((8 : Int32) &&& 31).toUInt32).toInt32)).toInt8.toInt32))) := H_r63_67.at hin_r63_67 (rfl)
        refine own_pre (A' := T63.setTop (mkF m 413 #[.val (.int p0), .val (.int p1), .val (.int p2), .val (.int p3), .val (.int p4), .val (.int p5), .val (.int fr), .val (.int (2 : Int32)), .val (.int (0 : Int32)), .val (.int mg), .val (.int m0), .val (.int m1), .val (.int P), .val (.int cv), .val (.ref a1), .val (.int (2 : Int32)), .val (.ref r47), .val (.ref r63), .val (.int (0 : Int32))] [(.int (nar .byte ((((((4 : Int32) - (4 : Int32)).toUInt32 >>> ((8 : Int32) &&& 31).toUInt32).toInt32)).toInt8.toInt32)))])) (fun t k => X63.baloadBytes hx (j := (2 : Int32)) (v := (.int (nar .byte ((((((4 : Int32) - (4 : Int32)).toUInt32 >>> ((8 : Int32) &&& 31).toUInt32).toInt32)).toInt8.toInt32)))) Ar_r63_67.1 (State.isArrayOf_alike hZ.alike Ar_r63_67.2.1) Ar_r63_67.2.2 hin_r63_67 hat_r63_67 (g := (mkF m 412 #[.val (.int p0), .val (.int p1), .val (.int p2), .val (.int p3), .val (.int p4), .val (.int p5), .val (.int fr), .val (.int (2 : Int32)), .val (.int (0 : Int32)), .val (.int mg), .val (.int m0), .val (.int m1), .val (.int P), .val (.int cv), .val (.ref a1), .val (.int (2 : Int32)), .val (.ref r47), .val (.ref r63), .val (.int (0 : Int32))] [(.int (2 : Int32)), (.ref r63)])) rfl rfl (hb hby D0_412.1) _ k) ?_
        refine o_ifN X63 hx hby D0_413 ((if0 _ _).trans (teq (by decide : (nar .byte ((((((4 : Int32) - (4 : Int32)).toUInt32 >>> ((8 : Int32) &&& 31).toUInt32).toInt32)).toInt8.toInt32)) = (0 : Int32))).2) ?_
        refine o_aload X63 hx hby D0_416 rfl rfl ?_
        refine o_iconst X63 hx hby D0_418 (v := 3) rfl ?_
        obtain ⟨cl_r63_68, Ar_r63_68, q_r63_68, S_r63_68, N_r63_68, H_r63_68, G_r63_68⟩ := id Vr63
        have hin_r63_68 : ¬ ((3 : Int32) < 0 ∨ cl_r63_68.slots.size ≤ ((3 : Int32)).toNatClampNeg) := inb_of S_r63_68 ⟨by decide, by decide⟩
        have hat_r63_68 : cl_r63_68.slots[((3 : Int32)).toNatClampNeg]? = some (.int (nar .byte ((((4 : Int32) - (4 : Int32))).toInt8.toInt32))) := H_r63_68.at hin_r63_68 (rfl)
        refine own_pre (A' := T63.setTop (mkF m 420 #[.val (.int p0), .val (.int p1), .val (.int p2), .val (.int p3), .val (.int p4), .val (.int p5), .val (.int fr), .val (.int (2 : Int32)), .val (.int (0 : Int32)), .val (.int mg), .val (.int m0), .val (.int m1), .val (.int P), .val (.int cv), .val (.ref a1), .val (.int (2 : Int32)), .val (.ref r47), .val (.ref r63), .val (.int (0 : Int32))] [(.int (nar .byte ((((4 : Int32) - (4 : Int32))).toInt8.toInt32)))])) (fun t k => X63.baloadBytes hx (j := (3 : Int32)) (v := (.int (nar .byte ((((4 : Int32) - (4 : Int32))).toInt8.toInt32)))) Ar_r63_68.1 (State.isArrayOf_alike hZ.alike Ar_r63_68.2.1) Ar_r63_68.2.2 hin_r63_68 hat_r63_68 (g := (mkF m 419 #[.val (.int p0), .val (.int p1), .val (.int p2), .val (.int p3), .val (.int p4), .val (.int p5), .val (.int fr), .val (.int (2 : Int32)), .val (.int (0 : Int32)), .val (.int mg), .val (.int m0), .val (.int m1), .val (.int P), .val (.int cv), .val (.ref a1), .val (.int (2 : Int32)), .val (.ref r47), .val (.ref r63), .val (.int (0 : Int32))] [(.int (3 : Int32)), (.ref r63)])) rfl rfl (hb hby D0_419.1) _ k) ?_
        refine o_sipush X63 hx hby D0_420 (v := 255) rfl ?_
        refine o_iand X63 hx hby D0_423 ?_
        refine o_iload X63 hx hby D0_424 rfl ?_
        refine o_icmpY X63 hx hby D0_426 (teq (by decide : ((nar .byte ((((4 : Int32) - (4 : Int32))).toInt8.toInt32)) &&& (255 : Int32)) = (0 : Int32))).1 (q := 431) (by decide) (by decide) ?_
        refine o_iload X63 hx hby D0_431 rfl ?_
        refine o_ifY X63 hx hby D0_433 ((if0 _ _).trans (teq (by decide : (0 : Int32) = (0 : Int32))).1) (q := 455) (by decide) (by decide) ?_
        refine o_iconst X63 hx hby D0_455 (v := 1) rfl ?_
        exact own_ret (v := some (.int (1 : Int32))) X63 (fun h => by first | rfl | (rw [Bd.returns] at h; cases h)) (BodyLoose.notSynchronized Bd) (by decide) (by decide) (⟨rfl, N63⟩) (fun fs hr => retN X63 hx (t := .boolean) Bd.returns (by simp) (hb hby D0_456.1) hr)
    · skip
      refine o_iload X2 hx hby D0_108 rfl ?_
      refine o_iconst X2 hx hby D0_110 (v := 1) rfl ?_
      refine o_icmpN X2 hx hby D0_111 (flt (by decide : ¬ ((3 : Int32) < (1 : Int32)))).1 ?_
      refine o_aload X2 hx hby D0_114 rfl rfl ?_
      refine o_iloadN X2 hx hby D0_116 rfl ?_
      obtain ⟨cq69, kq69, q69a, q69b, q69c⟩ := isOf hZ rfl E_2
      obtain ⟨_, _, ⟨T69, L69, k69, n69⟩, -, X69, ⟨Lc69, hQ69, l69, y69, z69⟩, st69⟩ := X2.virtualBack hx (y := (⟨"com/example/jetway/jetway/ajp/PacketWriter", "putByte", "(I)Lcom/example/jetway/jetway/ajp/PacketWriter;"⟩ : MethodName)) (z := (⟨"com/example/jetway/jetway/ajp/PacketWriter", "putByte", "(I)Lcom/example/jetway/jetway/ajp/PacketWriter;"⟩ : MethodName)) hown (mvT hZ (own_wd hw (i := 41) rfl)) (mvT hZ (own_wd hw (i := 42) rfl)) (notFace_of_selects (args := #[]) (mvT hZ (own_wd hw (i := 44) rfl))) (mvT hZ (own_wd hw (i := 44) rfl)) (mvT hZ (own_wd hw (i := 43) rfl)) (by decide) (backOf (W := 0) (rmPB4 l Z a0 hw [] a1 p1 bf kb mg P (.int (0 : Int32)) (.int (0 : Int32)) (.int (0 : Int32)) (.int (0 : Int32)) (.int (0 : Int32)) (.int (0 : Int32)) (.int (0 : Int32)) (.int (0 : Int32)) T2.heap n0 (own_leN (by omega)) ⟨E_2, Fm_2, Fp_2, Fb_2, Fo_2, Vb_2, Eb_2⟩ gn_a1 gn_bf nab hP) hZ (own_wd hw (i := 45) rfl) (own_wd hw (i := 3) rfl) (by decide) (by decide)) q69a q69c (g := (mkF m 117 #[.val (.int p0), .val (.int p1), .val (.int p2), .val (.int p3), .val (.int p4), .val (.int p5), .val (.int fr), .val (.int (3 : Int32)), .val (.int sc), .val (.int mg), .val (.int m0), .val (.int m1), .val (.int P), .val (.int cv), .val (.ref a1), .unset, .unset, .unset, .unset] [(.int p1), (.ref a1)])) rfl (by rw [hml]; rfl) (Steps.refl _) (argsL := [(.int p1)]) (rest := []) (lenOf pd__40I_41Lcom_47example_47jetway_47jetway_47ajp_47PacketWriter_59 rfl) rfl (by show 2 * 0 + _ ≤ _; exact Nat.le_of_eq rfl) (hb hby D0_117.1) (fun _ _ => ⟨rfl, rfl, (by decide : 2 + 0 ≤ _), (by decide : 267 + 0 ≤ _)⟩)
      dsimp only [Pt.U, Pt.locs, Pt.cells, Pt.slots] at X69 l69 y69 z69 st69 hQ69
      subst l69 y69 z69
      obtain ⟨rfl, N69q, K69, E_69, Fm_69, Fp_69, Fb_69, Fo_69, Vb_69, Eb_69⟩ := hQ69
      have sz69 := own_leN K69.1
      have N69 := Fr.app N2 N69q
      refine own_pre (A' := T69.setTop (mkF m 120 #[.val (.int p0), .val (.int p1), .val (.int p2), .val (.int p3), .val (.int p4), .val (.int p5), .val (.int fr), .val (.int (3 : Int32)), .val (.int sc), .val (.int mg), .val (.int m0), .val (.int m1), .val (.int P), .val (.int cv), .val (.ref a1), .unset, .unset, .unset, .unset] [(.ref a1)])) (fun t k => st69.trans k) ?_
      refine o_pop X69 hx hby D0_120 rfl ?_
      refine o_iload X69 hx hby D0_121 rfl ?_
      refine o_iconst X69 hx hby D0_123 (v := 2) rfl ?_
      refine o_icmpN X69 hx hby D0_124 (flt (by decide : ¬ ((3 : Int32) < (2 : Int32)))).1 ?_
      refine o_aload X69 hx hby D0_127 rfl rfl ?_
      refine o_iloadN X69 hx hby D0_129 rfl ?_
      obtain ⟨cq70, kq70, q70a, q70b, q70c⟩ := isOf hZ rfl E_69
      obtain ⟨_, _, ⟨T70, L70, k70, n70⟩, -, X70, ⟨Lc70, hQ70, l70, y70, z70⟩, st70⟩ := X69.virtualBack hx (y := (⟨"com/example/jetway/jetway/ajp/PacketWriter", "putByte", "(I)Lcom/example/jetway/jetway/ajp/PacketWriter;"⟩ : MethodName)) (z := (⟨"com/example/jetway/jetway/ajp/PacketWriter", "putByte", "(I)Lcom/example/jetway/jetway/ajp/PacketWriter;"⟩ : MethodName)) hown (mvT hZ (own_wd hw (i := 41) rfl)) (mvT hZ (own_wd hw (i := 42) rfl)) (notFace_of_selects (args := #[]) (mvT hZ (own_wd hw (i := 44) rfl))) (mvT hZ (own_wd hw (i := 44) rfl)) (mvT hZ (own_wd hw (i := 43) rfl)) (by decide) (backOf (W := 0) (rmPB5 l Z a0 hw [] a1 p2 bf kb mg P (.int (0 : Int32)) (.int (0 : Int32)) (.int (0 : Int32)) (.int (0 : Int32)) (.int (nar .byte ((p1).toInt8.toInt32))) (.int (0 : Int32)) (.int (0 : Int32)) (.int (0 : Int32)) T69.heap n0 (own_leN (by omega)) ⟨E_69, Fm_69, Fp_69, Fb_69, Fo_69, Vb_69, Eb_69⟩ gn_a1 gn_bf nab hP) hZ (own_wd hw (i := 45) rfl) (own_wd hw (i := 3) rfl) (by decide) (by decide)) q70a q70c (g := (mkF m 130 #[.val (.int p0), .val (.int p1), .val (.int p2), .val (.int p3), .val (.int p4), .val (.int p5), .val (.int fr), .val (.int (3 : Int32)), .val (.int sc), .val (.int mg), .val (.int m0), .val (.int m1), .val (.int P), .val (.int cv), .val (.ref a1), .unset, .unset, .unset, .unset] [(.int p2), (.ref a1)])) rfl (by rw [hml]; rfl) (Steps.refl _) (argsL := [(.int p2)]) (rest := []) (lenOf pd__40I_41Lcom_47example_47jetway_47jetway_47ajp_47PacketWriter_59 rfl) rfl (by show 2 * 0 + _ ≤ _; exact Nat.le_of_eq rfl) (hb hby D0_130.1) (fun _ _ => ⟨rfl, rfl, (by decide : 2 + 0 ≤ _), (by decide : 267 + 0 ≤ _)⟩)
      dsimp only [Pt.U, Pt.locs, Pt.cells, Pt.slots] at X70 l70 y70 z70 st70 hQ70
      subst l70 y70 z70
      obtain ⟨rfl, N70q, K70, E_70, Fm_70, Fp_70, Fb_70, Fo_70, Vb_70, Eb_70⟩ := hQ70
      have sz70 := own_leN K70.1
      have N70 := Fr.app N69 N70q
      refine own_pre (A' := T70.setTop (mkF m 133 #[.val (.int p0), .val (.int p1), .val (.int p2), .val (.int p3), .val (.int p4), .val (.int p5), .val (.int fr), .val (.int (3 : Int32)), .val (.int sc), .val (.int mg), .val (.int m0), .val (.int m1), .val (.int P), .val (.int cv), .val (.ref a1), .unset, .unset, .unset, .unset] [(.ref a1)])) (fun t k => st70.trans k) ?_
      refine o_pop X70 hx hby D0_133 rfl ?_
      refine o_iload X70 hx hby D0_134 rfl ?_
      refine o_iconst X70 hx hby D0_136 (v := 3) rfl ?_
      refine o_icmpN X70 hx hby D0_137 (flt (by decide : ¬ ((3 : Int32) < (3 : Int32)))).1 ?_
      refine o_aload X70 hx hby D0_140 rfl rfl ?_
      refine o_iload X70 hx hby D0_142 rfl ?_
      obtain ⟨cq71, kq71, q71a, q71b, q71c⟩ := isOf hZ rfl E_70
      obtain ⟨_, _, ⟨T71, L71, k71, n71⟩, -, X71, ⟨Lc71, hQ71, l71, y71, z71⟩, st71⟩ := X70.virtualBack hx (y := (⟨"com/example/jetway/jetway/ajp/PacketWriter", "putInt", "(I)Lcom/example/jetway/jetway/ajp/PacketWriter;"⟩ : MethodName)) (z := (⟨"com/example/jetway/jetway/ajp/PacketWriter", "putInt", "(I)Lcom/example/jetway/jetway/ajp/PacketWriter;"⟩ : MethodName)) hown (mvT hZ (own_wd hw (i := 54) rfl)) (mvT hZ (own_wd hw (i := 55) rfl)) (notFace_of_selects (args := #[]) (mvT hZ (own_wd hw (i := 57) rfl))) (mvT hZ (own_wd hw (i := 57) rfl)) (mvT hZ (own_wd hw (i := 56) rfl)) (by decide) (backOf (W := 0) (rmPI l Z a0 hw [] a1 cv bf kb mg P (.int (0 : Int32)) (.int (0 : Int32)) (.int (0 : Int32)) (.int (0 : Int32)) (.int (nar .byte ((p1).toInt8.toInt32))) (.int (nar .byte ((p2).toInt8.toInt32))) (.int (0 : Int32)) (.int (0 : Int32)) T70.heap n0 (own_leN (by omega)) ⟨E_70, Fm_70, Fp_70, Fb_70, Fo_70, Vb_70, Eb_70⟩ gn_a1 gn_bf nab hP) hZ (own_wd hw (i := 58) rfl) (own_wd hw (i := 3) rfl) (by decide) (by decide)) q71a q71c (g := (mkF m 144 #[.val (.int p0), .val (.int p1), .val (.int p2), .val (.int p3), .val (.int p4), .val (.int p5), .val (.int fr), .val (.int (3 : Int32)), .val (.int sc), .val (.int mg), .val (.int m0), .val (.int m1), .val (.int P), .val (.int cv), .val (.ref a1), .unset, .unset, .unset, .unset] [(.int cv), (.ref a1)])) rfl (by rw [hml]; rfl) (Steps.refl _) (argsL := [(.int cv)]) (rest := []) (lenOf pd__40I_41Lcom_47example_47jetway_47jetway_47ajp_47PacketWriter_59 rfl) rfl (by show 2 * 0 + _ ≤ _; exact Nat.le_of_eq rfl) (hb hby D0_144.1) (fun _ _ => ⟨rfl, rfl, (by decide : 2 + 0 ≤ _), (by decide : 267 + 0 ≤ _)⟩)
      dsimp only [Pt.U, Pt.locs, Pt.cells, Pt.slots] at X71 l71 y71 z71 st71 hQ71
      subst l71 y71 z71
      obtain ⟨rfl, N71q, K71, E_71, Fm_71, Fp_71, Fb_71, Fo_71, Vb_71, Eb_71⟩ := hQ71
      have sz71 := own_leN K71.1
      have N71 := Fr.app N70 N71q
      refine own_pre (A' := T71.setTop (mkF m 147 #[.val (.int p0), .val (.int p1), .val (.int p2), .val (.int p3), .val (.int p4), .val (.int p5), .val (.int fr), .val (.int (3 : Int32)), .val (.int sc), .val (.int mg), .val (.int m0), .val (.int m1), .val (.int P), .val (.int cv), .val (.ref a1), .unset, .unset, .unset, .unset] [(.ref a1)])) (fun t k => st71.trans k) ?_
      refine o_pop X71 hx hby D0_147 rfl ?_
      refine o_iload X71 hx hby D0_148 rfl ?_
      refine o_ifY X71 hx hby D0_150 ((if0 _ _).trans (feq (by decide : ¬ ((3 : Int32) = (0 : Int32)))).2) (q := 157) (by decide) (by decide) ?_
      refine o_iload X71 hx hby D0_157 rfl ?_
      refine o_iconst X71 hx hby D0_159 (v := 1) rfl ?_
      refine o_icmpY X71 hx hby D0_160 (feq (by decide : ¬ ((3 : Int32) = (1 : Int32)))).2 (q := 167) (by decide) (by decide) ?_
      refine o_iload X71 hx hby D0_167 rfl ?_
      refine o_iconst X71 hx hby D0_169 (v := 2) rfl ?_
      refine o_icmpY X71 hx hby D0_170 (feq (by decide : ¬ ((3 : Int32) = (2 : Int32)))).2 (q := 177) (by decide) (by decide) ?_
      refine o_iconst X71 hx hby D0_177 (v := 4) rfl ?_
      refine o_istore X71 hx hby D0_178 (l' := #[.val (.int p0), .val (.int p1), .val (.int p2), .val (.int p3), .val (.int p4), .val (.int p5), .val (.int fr), .val (.int (3 : Int32)), .val (.int sc), .val (.int mg), .val (.int m0), .val (.int m1), .val (.int P), .val (.int cv), .val (.ref a1), .val (.int (4 : Int32)), .unset, .unset, .unset]) rfl ?_
      refine o_aload X71 hx hby D0_180 rfl rfl ?_
      obtain ⟨cq72, kq72, q72a, q72b, q72c⟩ := isOf hZ rfl E_71
      obtain ⟨_, _, ⟨T72, L72, k72, n72⟩, -, X72, ⟨Lc72, hQ72, l72, y72, z72⟩, st72⟩ := X71.virtualBack hx (y := (⟨"com/example/jetway/jetway/ajp/PacketWriter", "toByteArray", "()[B"⟩ : MethodName)) (z := (⟨"com/example/jetway/jetway/ajp/PacketWriter", "toByteArray", "()[B"⟩ : MethodName)) hown (mvT hZ (own_wd hw (i := 23) rfl)) (mvT hZ (own_wd hw (i := 24) rfl)) (notFace_of_selects (args := #[]) (mvT hZ (own_wd hw (i := 26) rfl))) (mvT hZ (own_wd hw (i := 26) rfl)) (mvT hZ (own_wd hw (i := 25) rfl)) (by decide) (backOf (W := 0) (rmT8 l Z a0 hw [] a1 bf kb mg P (.int (0 : Int32)) (.int (0 : Int32)) (.int (0 : Int32)) (.int (0 : Int32)) (.int (nar .byte ((p1).toInt8.toInt32))) (.int (nar .byte ((p2).toInt8.toInt32))) (.int (nar .byte ((((cv.toUInt32 >>> ((8 : Int32) &&& 31).toUInt32).toInt32)).toInt8.toInt32))) (.int (nar .byte ((cv).toInt8.toInt32))) T71.heap n0 (own_leN (by omega)) ⟨E_71, Fm_71, Fp_71, Fb_71, Fo_71, Vb_71, Eb_71⟩ gn_a1 gn_bf nab hP) hZ (own_wd hw (i := 27) rfl) (own_wd hw (i := 3) rfl) (by decide) (by decide)) q72a q72c (g := (mkF m 182 #[.val (.int p0), .val (.int p1), .val (.int p2), .val (.int p3), .val (.int p4), .val (.int p5), .val (.int fr), .val (.int (3 : Int32)), .val (.int sc), .val (.int mg), .val (.int m0), .val (.int m1), .val (.int P), .val (.int cv), .val (.ref a1), .val (.int (4 : Int32)), .unset, .unset, .unset] [(.ref a1)])) rfl (by rw [hml]; rfl) (Steps.refl _) (argsL := []) (rest := []) (lenOf pd__40_41_91B rfl) rfl (by show 2 * 0 + _ ≤ _; exact Nat.le_of_eq rfl) (hb hby D0_182.1) (fun _ _ => ⟨rfl, rfl, (by decide : 2 + 1 ≤ _), (by decide : 267 + 8 ≤ _)⟩)
      dsimp only [Pt.U, Pt.locs, Pt.cells, Pt.slots] at X72 l72 y72 z72 st72 hQ72
      subst l72 y72 z72
      obtain ⟨r72, kr72, rfl, N72q, K72, ge72, Vr72, E_72, Fm_72, Fp_72, Fb_72, Fo_72, Vb_72, Eb_72⟩ := hQ72
      have sz72 := own_leN K72.1
      have ge72' := own_leN ge72
      have lt_r72 := own_ltN Vr72.lt
      have N72 := Fr.app N71 N72q
      refine own_pre (A' := T72.setTop (mkF m 185 #[.val (.int p0), .val (.int p1), .val (.int p2), .val (.int p3), .val (.int p4), .val (.int p5), .val (.int fr), .val (.int (3 : Int32)), .val (.int sc), .val (.int mg), .val (.int m0), .val (.int m1), .val (.int P), .val (.int cv), .val (.ref a1), .val (.int (4 : Int32)), .unset, .unset, .unset] [(.ref r72)])) (fun t k => st72.trans k) ?_
      refine o_astore X72 hx hby D0_185 rfl (l' := #[.val (.int p0), .val (.int p1), .val (.int p2), .val (.int p3), .val (.int p4), .val (.int p5), .val (.int fr), .val (.int (3 : Int32)), .val (.int sc), .val (.int mg), .val (.int m0), .val (.int m1), .val (.int P), .val (.int cv), .val (.ref a1), .val (.int (4 : Int32)), .val (.ref r72), .unset, .unset]) rfl ?_
      refine o_aload X72 hx hby D0_187 rfl rfl ?_
      obtain ⟨cl_r72_73, Ar_r72_73, q_r72_73, S_r72_73, N_r72_73, H_r72_73, G_r72_73⟩ := id Vr72
      refine own_pre (A' := T72.setTop (mkF m 190 #[.val (.int p0), .val (.int p1), .val (.int p2), .val (.int p3), .val (.int p4), .val (.int p5), .val (.int fr), .val (.int (3 : Int32)), .val (.int sc), .val (.int mg), .val (.int m0), .val (.int m1), .val (.int P), .val (.int cv), .val (.ref a1), .val (.int (4 : Int32)), .val (.ref r72), .unset, .unset] [(.int (8 : Int32))])) (fun t k => X72.arraylength hx Ar_r72_73.1 (State.isArrayOf_alike hZ.alike Ar_r72_73.2.1) (g := (mkF m 189 #[.val (.int p0), .val (.int p1), .val (.int p2), .val (.int p3), .val (.int p4), .val (.int p5), .val (.int fr), .val (.int (3 : Int32)), .val (.int sc), .val (.int mg), .val (.int m0), .val (.int m1), .val (.int P), .val (.int cv), .val (.ref a1), .val (.int (4 : Int32)), .val (.ref r72), .unset, .unset] [(.ref r72)])) rfl rfl (hb hby D0_189.1) _ (by rw [len_of S_r72_73 N_r72_73]; exact k)) ?_
      refine o_iconst X72 hx hby D0_190 (v := 4) rfl ?_
      refine o_iload X72 hx hby D0_191 rfl ?_
      refine o_iadd X72 hx hby D0_193 ?_
      refine o_icmpY X72 hx hby D0_194 (teq (by decide : (8 : Int32) = ((4 : Int32) + (4 : Int32)))).1 (q := 199) (by decide) (by decide) ?_
      refine o_aload X72 hx hby D0_199 rfl rfl ?_
      refine o_iconst X72 hx hby D0_201 (v := 0) rfl ?_
      obtain ⟨cl_r72_74, Ar_r72_74, q_r72_74, S_r72_74, N_r72_74, H_r72_74, G_r72_74⟩ := id Vr72
      have hin_r72_74 : ¬ ((0 : Int32) < 0 ∨ cl_r72_74.slots.size ≤ ((0 : Int32)).toNatClampNeg) := inb_of S_r72_74 ⟨by decide, by decide⟩
      have hat_r72_74 : cl_r72_74.slots[((0 : Int32)).toNatClampNeg]? = some (.int (nar .byte ((((mg.toUInt32 >>> ((8 : Int32) &&& 31).toUInt32).toInt32)).toInt8.toInt32))) := H_r72_74.at hin_r72_74 (rfl)
      refine own_pre (A' := T72.setTop (mkF m 203 #[.val (.int p0), .val (.int p1), .val (.int p2), .val (.int p3), .val (.int p4), .val (.int p5), .val (.int fr), .val (.int (3 : Int32)), .val (.int sc), .val (.int mg), .val (.int m0), .val (.int m1), .val (.int P), .val (.int cv), .val (.ref a1), .val (.int (4 : Int32)), .val (.ref r72), .unset, .unset] [(.int (nar .byte ((((mg.toUInt32 >>> ((8 : Int32) &&& 31).toUInt32).toInt32)).toInt8.toInt32)))])) (fun t k => X72.baloadBytes hx (j := (0 : Int32)) (v := (.int (nar .byte ((((mg.toUInt32 >>> ((8 : Int32) &&& 31).toUInt32).toInt32)).toInt8.toInt32)))) Ar_r72_74.1 (State.isArrayOf_alike hZ.alike Ar_r72_74.2.1) Ar_r72_74.2.2 hin_r72_74 hat_r72_74 (g := (mkF m 202 #[.val (.int p0), .val (.int p1), .val (.int p2), .val (.int p3), .val (.int p4), .val (.int p5), .val (.int fr), .val (.int (3 : Int32)), .val (.int sc), .val (.int mg), .val (.int m0), .val (.int m1), .val (.int P), .val (.int cv), .val (.ref a1), .val (.int (4 : Int32)), .val (.ref r72), .unset, .unset] [(.int (0 : Int32)), (.ref r72)])) rfl rfl (hb hby D0_202.1) _ k) ?_
      refine o_sipush X72 hx hby D0_203 (v := 255) rfl ?_
      refine o_iand X72 hx hby D0_206 ?_
      refine o_iload X72 hx hby D0_207 rfl ?_
      refine o_icmpN X72 hx hby D0_209 (teq (hmg.1 : ((nar .byte ((((mg.toUInt32 >>> ((8 : Int32) &&& 31).toUInt32).toInt32)).toInt8.toInt32)) &&& (255 : Int32)) = m0)).2 ?_
      refine o_aload X72 hx hby D0_212 rfl rfl ?_
      refine o_iconst X72 hx hby D0_214 (v := 1) rfl ?_
      obtain ⟨cl_r72_75, Ar_r72_75, q_r72_75, S_r72_75, N_r72_75, H_r72_75, G_r72_75⟩ := id Vr72
      have hin_r72_75 : ¬ ((1 : Int32) < 0 ∨ cl_r72_75.slots.size ≤ ((1 : Int32)).toNatClampNeg) := inb_of S_r72_75 ⟨by decide, by decide⟩
      have hat_r72_75 : cl_r72_75.slots[((1 : Int32)).toNatClampNeg]? = some (.int (nar .byte ((mg).toInt8.toInt32))) := H_r72_75.at hin_r72_75 (rfl)
      refine own_pre (A' := T72.setTop (mkF m 216 #[.val (.int p0), .val (.int p1), .val (.int p2), .val (.int p3), .val (.int p4), .val (.int p5), .val (.int fr), .val (.int (3 : Int32)), .val (.int sc), .val (.int mg), .val (.int m0), .val (.int m1), .val (.int P), .val (.int cv), .val (.ref a1), .val (.int (4 : Int32)), .val (.ref r72), .unset, .unset] [(.int (nar .byte ((mg).toInt8.toInt32)))])) (fun t k => X72.baloadBytes hx (j := (1 : Int32)) (v := (.int (nar .byte ((mg).toInt8.toInt32)))) Ar_r72_75.1 (State.isArrayOf_alike hZ.alike Ar_r72_75.2.1) Ar_r72_75.2.2 hin_r72_75 hat_r72_75 (g := (mkF m 215 #[.val (.int p0), .val (.int p1), .val (.int p2), .val (.int p3), .val (.int p4), .val (.int p5), .val (.int fr), .val (.int (3 : Int32)), .val (.int sc), .val (.int mg), .val (.int m0), .val (.int m1), .val (.int P), .val (.int cv), .val (.ref a1), .val (.int (4 : Int32)), .val (.ref r72), .unset, .unset] [(.int (1 : Int32)), (.ref r72)])) rfl rfl (hb hby D0_215.1) _ k) ?_
      refine o_sipush X72 hx hby D0_216 (v := 255) rfl ?_
      refine o_iand X72 hx hby D0_219 ?_
      refine o_iload X72 hx hby D0_220 rfl ?_
      refine o_icmpN X72 hx hby D0_222 (teq (hmg.2 : ((nar .byte ((mg).toInt8.toInt32)) &&& (255 : Int32)) = m1)).2 ?_
      refine o_aload X72 hx hby D0_225 rfl rfl ?_
      refine o_iconst X72 hx hby D0_227 (v := 2) rfl ?_
      obtain ⟨cl_r72_76, Ar_r72_76, q_r72_76, S_r72_76, N_r72_76, H_r72_76, G_r72_76⟩ := id Vr72
      have hin_r72_76 : ¬ ((2 : Int32) < 0 ∨ cl_r72_76.slots.size ≤ ((2 : Int32)).toNatClampNeg) := inb_of S_r72_76 ⟨by decide, by decide⟩
      have hat_r72_76 : cl_r72_76.slots[((2 : Int32)).toNatClampNeg]? = some (.int (nar .byte ((((((8 : Int32) - (4 : Int32)).toUInt32 >>> ((8 : Int32) &&& 31).toUInt32).toInt32)).toInt8.toInt32))) := H_r72_76.at hin_r72_76 (rfl)
      refine own_pre (A' := T72.setTop (mkF m 229 #[.val (.int p0), .val (.int p1), .val (.int p2), .val (.int p3), .val (.int p4), .val (.int p5), .val (.int fr), .val (.int (3 : Int32)), .val (.int sc), .val (.int mg), .val (.int m0), .val (.int m1), .val (.int P), .val (.int cv), .val (.ref a1), .val (.int (4 : Int32)), .val (.ref r72), .unset, .unset] [(.int (nar .byte ((((((8 : Int32) - (4 : Int32)).toUInt32 >>> ((8 : Int32) &&& 31).toUInt32).toInt32)).toInt8.toInt32)))])) (fun t k => X72.baloadBytes hx (j := (2 : Int32)) (v := (.int (nar .byte ((((((8 : Int32) - (4 : Int32)).toUInt32 >>> ((8 : Int32) &&& 31).toUInt32).toInt32)).toInt8.toInt32)))) Ar_r72_76.1 (State.isArrayOf_alike hZ.alike Ar_r72_76.2.1) Ar_r72_76.2.2 hin_r72_76 hat_r72_76 (g := (mkF m 228 #[.val (.int p0), .val (.int p1), .val (.int p2), .val (.int p3), .val (.int p4), .val (.int p5), .val (.int fr), .val (.int (3 : Int32)), .val (.int sc), .val (.int mg), .val (.int m0), .val (.int m1), .val (.int P), .val (.int cv), .val (.ref a1), .val (.int (4 : Int32)), .val (.ref r72), .unset, .unset] [(.int (2 : Int32)), (.ref r72)])) rfl rfl (hb hby D0_228.1) _ k) ?_
      refine o_ifN X72 hx hby D0_229 ((if0 _ _).trans (teq (by decide : (nar .byte ((((((8 : Int32) - (4 : Int32)).toUInt32 >>> ((8 : Int32) &&& 31).toUInt32).toInt32)).toInt8.toInt32)) = (0 : Int32))).2) ?_
      refine o_aload X72 hx hby D0_232 rfl rfl ?_
      refine o_iconst X72 hx hby D0_234 (v := 3) rfl ?_
      obtain ⟨cl_r72_77, Ar_r72_77, q_r72_77, S_r72_77, N_r72_77, H_r72_77, G_r72_77⟩ := id Vr72
      have hin_r72_77 : ¬ ((3 : Int32) < 0 ∨ cl_r72_77.slots.size ≤ ((3 : Int32)).toNatClampNeg) := inb_of S_r72_77 ⟨by decide, by decide⟩
      have hat_r72_77 : cl_r72_77.slots[((3 : Int32)).toNatClampNeg]? = some (.int (nar .byte ((((8 : Int32) - (4 : Int32))).toInt8.toInt32))) := H_r72_77.at hin_r72_77 (rfl)
      refine own_pre (A' := T72.setTop (mkF m 236 #[.val (.int p0), .val (.int p1), .val (.int p2), .val (.int p3), .val (.int p4), .val (.int p5), .val (.int fr), .val (.int (3 : Int32)), .val (.int sc), .val (.int mg), .val (.int m0), .val (.int m1), .val (.int P), .val (.int cv), .val (.ref a1), .val (.int (4 : Int32)), .val (.ref r72), .unset, .unset] [(.int (nar .byte ((((8 : Int32) - (4 : Int32))).toInt8.toInt32)))])) (fun t k => X72.baloadBytes hx (j := (3 : Int32)) (v := (.int (nar .byte ((((8 : Int32) - (4 : Int32))).toInt8.toInt32)))) Ar_r72_77.1 (State.isArrayOf_alike hZ.alike Ar_r72_77.2.1) Ar_r72_77.2.2 hin_r72_77 hat_r72_77 (g := (mkF m 235 #[.val (.int p0), .val (.int p1), .val (.int p2), .val (.int p3), .val (.int p4), .val (.int p5), .val (.int fr), .val (.int (3 : Int32)), .val (.int sc), .val (.int mg), .val (.int m0), .val (.int m1), .val (.int P), .val (.int cv), .val (.ref a1), .val (.int (4 : Int32)), .val (.ref r72), .unset, .unset] [(.int (3 : Int32)), (.ref r72)])) rfl rfl (hb hby D0_235.1) _ k) ?_
      refine o_sipush X72 hx hby D0_236 (v := 255) rfl ?_
      refine o_iand X72 hx hby D0_239 ?_
      refine o_iload X72 hx hby D0_240 rfl ?_
      refine o_icmpY X72 hx hby D0_242 (teq (by decide : ((nar .byte ((((8 : Int32) - (4 : Int32))).toInt8.toInt32)) &&& (255 : Int32)) = (4 : Int32))).1 (q := 247) (by decide) (by decide) ?_
      refine o_iload X72 hx hby D0_247 rfl ?_
      refine o_iconst X72 hx hby D0_249 (v := 1) rfl ?_
      refine o_icmpN X72 hx hby D0_250 (flt (by decide : ¬ ((3 : Int32) < (1 : Int32)))).1 ?_
      refine o_aload X72 hx hby D0_253 rfl rfl ?_
      refine o_iconst X72 hx hby D0_255 (v := 4) rfl ?_
      obtain ⟨cl_r72_78, Ar_r72_78, q_r72_78, S_r72_78, N_r72_78, H_r72_78, G_r72_78⟩ := id Vr72
      have hin_r72_78 : ¬ ((4 : Int32) < 0 ∨ cl_r72_78.slots.size ≤ ((4 : Int32)).toNatClampNeg) := inb_of S_r72_78 ⟨by decide, by decide⟩
      have hat_r72_78 : cl_r72_78.slots[((4 : Int32)).toNatClampNeg]? = some (.int (nar .byte ((p1).toInt8.toInt32))) := H_r72_78.at hin_r72_78 (rfl)
      refine own_pre (A' := T72.setTop (mkF m 257 #[.val (.int p0), .val (.int p1), .val (.int p2), .val (.int p3), .val (.int p4), .val (.int p5), .val (.int fr), .val (.int (3 : Int32)), .val (.int sc), .val (.int mg), .val (.int m0), .val (.int m1), .val (.int P), .val (.int cv), .val (.ref a1), .val (.int (4 : Int32)), .val (.ref r72), .unset, .unset] [(.int (nar .byte ((p1).toInt8.toInt32)))])) (fun t k => X72.baloadBytes hx (j := (4 : Int32)) (v := (.int (nar .byte ((p1).toInt8.toInt32)))) Ar_r72_78.1 (State.isArrayOf_alike hZ.alike Ar_r72_78.2.1) Ar_r72_78.2.2 hin_r72_78 hat_r72_78 (g := (mkF m 256 #[.val (.int p0), .val (.int p1), .val (.int p2), .val (.int p3), .val (.int p4), .val (.int p5), .val (.int fr), .val (.int (3 : Int32)), .val (.int sc), .val (.int mg), .val (.int m0), .val (.int m1), .val (.int P), .val (.int cv), .val (.ref a1), .val (.int (4 : Int32)), .val (.ref r72), .unset, .unset] [(.int (4 : Int32)), (.ref r72)])) rfl rfl (hb hby D0_256.1) _ k) ?_
      refine o_sipush X72 hx hby D0_257 (v := 255) rfl ?_
      refine o_iand X72 hx hby D0_260 ?_
      refine o_iloadN X72 hx hby D0_261 rfl ?_
      refine o_sipush X72 hx hby D0_262 (v := 255) rfl ?_
      refine o_iand X72 hx hby D0_265 ?_
      refine o_icmpY X72 hx hby D0_266 (teq (own_byte _ : ((nar .byte ((p1).toInt8.toInt32)) &&& (255 : Int32)) = (p1 &&& (255 : Int32)))).1 (q := 271) (by decide) (by decide) ?_
      refine o_iload X72 hx hby D0_271 rfl ?_
      refine o_iconst X72 hx hby D0_273 (v := 2) rfl ?_
      refine o_icmpN X72 hx hby D0_274 (flt (by decide : ¬ ((3 : Int32) < (2 : Int32)))).1 ?_
      refine o_aload X72 hx hby D0_277 rfl rfl ?_
      refine o_iconst X72 hx hby D0_279 (v := 5) rfl ?_
      obtain ⟨cl_r72_79, Ar_r72_79, q_r72_79, S_r72_79, N_r72_79, H_r72_79, G_r72_79⟩ := id Vr72
      have hin_r72_79 : ¬ ((5 : Int32) < 0 ∨ cl_r72_79.slots.size ≤ ((5 : Int32)).toNatClampNeg) := inb_of S_r72_79 ⟨by decide, by decide⟩
      have hat_r72_79 : cl_r72_79.slots[((5 : Int32)).toNatClampNeg]? = some (.int (nar .byte ((p2).toInt8.toInt32))) := H_r72_79.at hin_r72_79 (rfl)
      refine own_pre (A' := T72.setTop (mkF m 281 #[.val (.int p0), .val (.int p1), .val (.int p2), .val (.int p3), .val (.int p4), .val (.int p5), .val (.int fr), .val (.int (3 : Int32)), .val (.int sc), .val (.int mg), .val (.int m0), .val (.int m1), .val (.int P), .val (.int cv), .val (.ref a1), .val (.int (4 : Int32)), .val (.ref r72), .unset, .unset] [(.int (nar .byte ((p2).toInt8.toInt32)))])) (fun t k => X72.baloadBytes hx (j := (5 : Int32)) (v := (.int (nar .byte ((p2).toInt8.toInt32)))) Ar_r72_79.1 (State.isArrayOf_alike hZ.alike Ar_r72_79.2.1) Ar_r72_79.2.2 hin_r72_79 hat_r72_79 (g := (mkF m 280 #[.val (.int p0), .val (.int p1), .val (.int p2), .val (.int p3), .val (.int p4), .val (.int p5), .val (.int fr), .val (.int (3 : Int32)), .val (.int sc), .val (.int mg), .val (.int m0), .val (.int m1), .val (.int P), .val (.int cv), .val (.ref a1), .val (.int (4 : Int32)), .val (.ref r72), .unset, .unset] [(.int (5 : Int32)), (.ref r72)])) rfl rfl (hb hby D0_280.1) _ k) ?_
      refine o_sipush X72 hx hby D0_281 (v := 255) rfl ?_
      refine o_iand X72 hx hby D0_284 ?_
      refine o_iloadN X72 hx hby D0_285 rfl ?_
      refine o_sipush X72 hx hby D0_286 (v := 255) rfl ?_
      refine o_iand X72 hx hby D0_289 ?_
      refine o_icmpY X72 hx hby D0_290 (teq (own_byte _ : ((nar .byte ((p2).toInt8.toInt32)) &&& (255 : Int32)) = (p2 &&& (255 : Int32)))).1 (q := 295) (by decide) (by decide) ?_
      refine o_iload X72 hx hby D0_295 rfl ?_
      refine o_iconst X72 hx hby D0_297 (v := 3) rfl ?_
      refine o_icmpN X72 hx hby D0_298 (flt (by decide : ¬ ((3 : Int32) < (3 : Int32)))).1 ?_
      refine o_aload X72 hx hby D0_301 rfl rfl ?_
      refine o_bipush X72 hx hby D0_303 (v := 6) rfl ?_
      obtain ⟨cl_r72_80, Ar_r72_80, q_r72_80, S_r72_80, N_r72_80, H_r72_80, G_r72_80⟩ := id Vr72
      have hin_r72_80 : ¬ ((6 : Int32) < 0 ∨ cl_r72_80.slots.size ≤ ((6 : Int32)).toNatClampNeg) := inb_of S_r72_80 ⟨by decide, by decide⟩
      have hat_r72_80 : cl_r72_80.slots[((6 : Int32)).toNatClampNeg]? = some (.int (nar .byte ((((cv.toUInt32 >>> ((8 : Int32) &&& 31).toUInt32).toInt32)).toInt8.toInt32))) := H_r72_80.at hin_r72_80 (rfl)
      refine own_pre (A' := T72.setTop (mkF m 306 #[.val (.int p0), .val (.int p1), .val (.int p2), .val (.int p3), .val (.int p4), .val (.int p5), .val (.int fr), .val (.int (3 : Int32)), .val (.int sc), .val (.int mg), .val (.int m0), .val (.int m1), .val (.int P), .val (.int cv), .val (.ref a1), .val (.int (4 : Int32)), .val (.ref r72), .unset, .unset] [(.int (nar .byte ((((cv.toUInt32 >>> ((8 : Int32) &&& 31).toUInt32).toInt32)).toInt8.toInt32)))])) (fun t k => X72.baloadBytes hx (j := (6 : Int32)) (v := (.int (nar .byte ((((cv.toUInt32 >>> ((8 : Int32) &&& 31).toUInt32).toInt32)).toInt8.toInt32)))) Ar_r72_80.1 (State.isArrayOf_alike hZ.alike Ar_r72_80.2.1) Ar_r72_80.2.2 hin_r72_80 hat_r72_80 (g := (mkF m 305 #[.val (.int p0), .val (.int p1), .val (.int p2), .val (.int p3), .val (.int p4), .val (.int p5), .val (.int fr), .val (.int (3 : Int32)), .val (.int sc), .val (.int mg), .val (.int m0), .val (.int m1), .val (.int P), .val (.int cv), .val (.ref a1), .val (.int (4 : Int32)), .val (.ref r72), .unset, .unset] [(.int (6 : Int32)), (.ref r72)])) rfl rfl (hb hby D0_305.1) _ k) ?_
      refine o_sipush X72 hx hby D0_306 (v := 255) rfl ?_
      refine o_iand X72 hx hby D0_309 ?_
      refine o_iload X72 hx hby D0_310 rfl ?_
      refine o_sipush X72 hx hby D0_312 (v := 256) rfl ?_
      refine o_idiv X72 hx hby D0_315 (by decide) ?_
      refine o_icmpN X72 hx hby D0_316 (teq (own_hi hcv' : ((nar .byte ((((cv.toUInt32 >>> ((8 : Int32) &&& 31).toUInt32).toInt32)).toInt8.toInt32)) &&& (255 : Int32)) = (cv / (256 : Int32)))).2 ?_
      refine o_aload X72 hx hby D0_319 rfl rfl ?_
      refine o_bipush X72 hx hby D0_321 (v := 7) rfl ?_
      obtain ⟨cl_r72_81, Ar_r72_81, q_r72_81, S_r72_81, N_r72_81, H_r72_81, G_r72_81⟩ := id Vr72
      have hin_r72_81 : ¬ ((7 : Int32) < 0 ∨ cl_r72_81.slots.size ≤ ((7 : Int32)).toNatClampNeg) := inb_of S_r72_81 ⟨by decide, by decide⟩
      have hat_r72_81 : cl_r72_81.slots[((7 : Int32)).toNatClampNeg]? = some (.int (nar .byte ((cv).toInt8.toInt32))) := H_r72_81.at hin_r72_81 (rfl)
      refine own_pre (A' := T72.setTop (mkF m 324 #[.val (.int p0), .val (.int p1), .val (.int p2), .val (.int p3), .val (.int p4), .val (.int p5), .val (.int fr), .val (.int (3 : Int32)), .val (.int sc), .val (.int mg), .val (.int m0), .val (.int m1), .val (.int P), .val (.int cv), .val (.ref a1), .val (.int (4 : Int32)), .val (.ref r72), .unset, .unset] [(.int (nar .byte ((cv).toInt8.toInt32)))])) (fun t k => X72.baloadBytes hx (j := (7 : Int32)) (v := (.int (nar .byte ((cv).toInt8.toInt32)))) Ar_r72_81.1 (State.isArrayOf_alike hZ.alike Ar_r72_81.2.1) Ar_r72_81.2.2 hin_r72_81 hat_r72_81 (g := (mkF m 323 #[.val (.int p0), .val (.int p1), .val (.int p2), .val (.int p3), .val (.int p4), .val (.int p5), .val (.int fr), .val (.int (3 : Int32)), .val (.int sc), .val (.int mg), .val (.int m0), .val (.int m1), .val (.int P), .val (.int cv), .val (.ref a1), .val (.int (4 : Int32)), .val (.ref r72), .unset, .unset] [(.int (7 : Int32)), (.ref r72)])) rfl rfl (hb hby D0_323.1) _ k) ?_
      refine o_sipush X72 hx hby D0_324 (v := 255) rfl ?_
      refine o_iand X72 hx hby D0_327 ?_
      refine o_iload X72 hx hby D0_328 rfl ?_
      refine o_sipush X72 hx hby D0_330 (v := 256) rfl ?_
      refine o_irem X72 hx hby D0_333 (by decide) ?_
      refine o_icmpY X72 hx hby D0_334 (teq (own_lo hcv' : ((nar .byte ((cv).toInt8.toInt32)) &&& (255 : Int32)) = (cv % (256 : Int32)))).1 (q := 339) (by decide) (by decide) ?_
      rcases hsc with rfl | rfl
      · skip
        refine o_iload X72 hx hby D0_339 rfl ?_
        refine o_ifN X72 hx hby D0_341 ((if0 _ _).trans (feq (by decide : ¬ ((1 : Int32) = (0 : Int32)))).1) ?_
        refine o_aload X72 hx hby D0_344 rfl rfl ?_
        refine o_iload X72 hx hby D0_346 rfl ?_
        obtain ⟨cq82, kq82, q82a, q82b, q82c⟩ := isOf hZ rfl E_72
        obtain ⟨_, _, ⟨T82, L82, k82, n82⟩, -, X82, ⟨Lc82, hQ82, l82, y82, z82⟩, st82⟩ := X72.virtualBack hx (y := (⟨"com/example/jetway/jetway/ajp/PacketWriter", "putByte", "(I)Lcom/example/jetway/jetway/ajp/PacketWriter;"⟩ : MethodName)) (z := (⟨"com/example/jetway/jetway/ajp/PacketWriter", "putByte", "(I)Lcom/example/jetway/jetway/ajp/PacketWriter;"⟩ : MethodName)) hown (mvT hZ (own_wd hw (i := 41) rfl)) (mvT hZ (own_wd hw (i := 42) rfl)) (notFace_of_selects (args := #[]) (mvT hZ (own_wd hw (i := 44) rfl))) (mvT hZ (own_wd hw (i := 44) rfl)) (mvT hZ (own_wd hw (i := 43) rfl)) (by decide) (backOf (W := 0) (rmPB4 l Z a0 hw [] a1 p5 bf kb mg P (.int (nar .byte ((((mg.toUInt32 >>> ((8 : Int32) &&& 31).toUInt32).toInt32)).toInt8.toInt32))) (.int (nar .byte ((mg).toInt8.toInt32))) (.int (nar .byte ((((((8 : Int32) - (4 : Int32)).toUInt32 >>> ((8 : Int32) &&& 31).toUInt32).toInt32)).toInt8.toInt32))) (.int (nar .byte ((((8 : Int32) - (4 : Int32))).toInt8.toInt32))) (.int (nar .byte ((p1).toInt8.toInt32))) (.int (nar .byte ((p2).toInt8.toInt32))) (.int (nar .byte ((((cv.toUInt32 >>> ((8 : Int32) &&& 31).toUInt32).toInt32)).toInt8.toInt32))) (.int (nar .byte ((cv).toInt8.toInt32))) T72.heap n0 (own_leN (by omega)) ⟨E_72, Fm_72, Fp_72, Fb_72, Fo_72, Vb_72, Eb_72⟩ gn_a1 gn_bf nab hP) hZ (own_wd hw (i := 45) rfl) (own_wd hw (i := 3) rfl) (by decide) (by decide)) q82a q82c (g := (mkF m 348 #[.val (.int p0), .val (.int p1), .val (.int p2), .val (.int p3), .val (.int p4), .val (.int p5), .val (.int fr), .val (.int (3 : Int32)), .val (.int (1 : Int32)), .val (.int mg), .val (.int m0), .val (.int m1), .val (.int P), .val (.int cv), .val (.ref a1), .val (.int (4 : Int32)), .val (.ref r72), .unset, .unset] [(.int p5), (.ref a1)])) rfl (by rw [hml]; rfl) (Steps.refl _) (argsL := [(.int p5)]) (rest := []) (lenOf pd__40I_41Lcom_47example_47jetway_47jetway_47ajp_47PacketWriter_59 rfl) rfl (by show 2 * 0 + _ ≤ _; exact Nat.le_of_eq rfl) (hb hby D0_348.1) (fun _ _ => ⟨rfl, rfl, (by decide : 3 + 0 ≤ _), (by decide : 275 + 0 ≤ _)⟩)
        dsimp only [Pt.U, Pt.locs, Pt.cells, Pt.slots] at X82 l82 y82 z82 st82 hQ82
        subst l82 y82 z82
        obtain ⟨rfl, N82q, K82, E_82, Fm_82, Fp_82, Fb_82, Fo_82, Vb_82, Eb_82⟩ := hQ82
        have sz82 := own_leN K82.1
        have N82 := Fr.app N72 N82q
        refine own_pre (A' := T82.setTop (mkF m 351 #[.val (.int p0), .val (.int p1), .val (.int p2), .val (.int p3), .val (.int p4), .val (.int p5), .val (.int fr), .val (.int (3 : Int32)), .val (.int (1 : Int32)), .val (.int mg), .val (.int m0), .val (.int m1), .val (.int P), .val (.int cv), .val (.ref a1), .val (.int (4 : Int32)), .val (.ref r72), .unset, .unset] [(.ref a1)])) (fun t k => st82.trans k) ?_
        refine o_pop X82 hx hby D0_351 rfl ?_
        refine o_aload X82 hx hby D0_352 rfl rfl ?_
        obtain ⟨cq83, kq83, q83a, q83b, q83c⟩ := isOf hZ rfl E_82
        obtain ⟨_, _, ⟨T83, L83, k83, n83⟩, -, X83, ⟨Lc83, hQ83, l83, y83, z83⟩, st83⟩ := X82.virtualBack hx (y := (⟨"com/example/jetway/jetway/ajp/PacketWriter", "toByteArray", "()[B"⟩ : MethodName)) (z := (⟨"com/example/jetway/jetway/ajp/PacketWriter", "toByteArray", "()[B"⟩ : MethodName)) hown (mvT hZ (own_wd hw (i := 23) rfl)) (mvT hZ (own_wd hw (i := 24) rfl)) (notFace_of_selects (args := #[]) (mvT hZ (own_wd hw (i := 26) rfl))) (mvT hZ (own_wd hw (i := 26) rfl)) (mvT hZ (own_wd hw (i := 25) rfl)) (by decide) (backOf (W := 0) (rmT5 l Z a0 hw [] a1 bf kb mg P (.int (nar .byte ((((mg.toUInt32 >>> ((8 : Int32) &&& 31).toUInt32).toInt32)).toInt8.toInt32))) (.int (nar .byte ((mg).toInt8.toInt32))) (.int (nar .byte ((((((8 : Int32) - (4 : Int32)).toUInt32 >>> ((8 : Int32) &&& 31).toUInt32).toInt32)).toInt8.toInt32))) (.int (nar .byte ((((8 : Int32) - (4 : Int32))).toInt8.toInt32))) (.int (nar .byte ((p5).toInt8.toInt32))) (.int (nar .byte ((p2).toInt8.toInt32))) (.int (nar .byte ((((cv.toUInt32 >>> ((8 : Int32) &&& 31).toUInt32).toInt32)).toInt8.toInt32))) (.int (nar .byte ((cv).toInt8.toInt32))) T82.heap n0 (own_leN (by omega)) ⟨E_82, Fm_82, Fp_82, Fb_82, Fo_82, Vb_82, Eb_82⟩ gn_a1 gn_bf nab hP) hZ (own_wd hw (i := 27) rfl) (own_wd hw (i := 3) rfl) (by decide) (by decide)) q83a q83c (g := (mkF m 354 #[.val (.int p0), .val (.int p1), .val (.int p2), .val (.int p3), .val (.int p4), .val (.int p5), .val (.int fr), .val (.int (3 : Int32)), .val (.int (1 : Int32)), .val (.int mg), .val (.int m0), .val (.int m1), .val (.int P), .val (.int cv), .val (.ref a1), .val (.int (4 : Int32)), .val (.ref r72), .unset, .unset] [(.ref a1)])) rfl (by rw [hml]; rfl) (Steps.refl _) (argsL := []) (rest := []) (lenOf pd__40_41_91B rfl) rfl (by show 2 * 0 + _ ≤ _; exact Nat.le_of_eq rfl) (hb hby D0_354.1) (fun _ _ => ⟨rfl, rfl, (by decide : 3 + 1 ≤ _), (by decide : 275 + 5 ≤ _)⟩)
        dsimp only [Pt.U, Pt.locs, Pt.cells, Pt.slots] at X83 l83 y83 z83 st83 hQ83
        subst l83 y83 z83
        obtain ⟨r83, kr83, rfl, N83q, K83, ge83, Vr83, E_83, Fm_83, Fp_83, Fb_83, Fo_83, Vb_83, Eb_83⟩ := hQ83
        have sz83 := own_leN K83.1
        have ge83' := own_leN ge83
        have lt_r83 := own_ltN Vr83.lt
        have N83 := Fr.app N82 N83q
        refine own_pre (A' := T83.setTop (mkF m 357 #[.val (.int p0), .val (.int p1), .val (.int p2), .val (.int p3), .val (.int p4), .val (.int p5), .val (.int fr), .val (.int (3 : Int32)), .val (.int (1 : Int32)), .val (.int mg), .val (.int m0), .val (.int m1), .val (.int P), .val (.int cv), .val (.ref a1), .val (.int (4 : Int32)), .val (.ref r72), .unset, .unset] [(.ref r83)])) (fun t k => st83.trans k) ?_
        refine o_astore X83 hx hby D0_357 rfl (l' := #[.val (.int p0), .val (.int p1), .val (.int p2), .val (.int p3), .val (.int p4), .val (.int p5), .val (.int fr), .val (.int (3 : Int32)), .val (.int (1 : Int32)), .val (.int mg), .val (.int m0), .val (.int m1), .val (.int P), .val (.int cv), .val (.ref a1), .val (.int (4 : Int32)), .val (.ref r72), .val (.ref r83), .unset]) rfl ?_
        refine o_iload X83 hx hby D0_359 rfl ?_
        refine o_ifN X83 hx hby D0_361 ((if0 _ _).trans (feq (by decide : ¬ ((1 : Int32) = (0 : Int32)))).1) ?_
        refine o_iconst X83 hx hby D0_364 (v := 1) rfl ?_
        refine o_goto X83 hx hby D0_365 (q := 369) (by decide) (by decide) ?_
        refine o_istore X83 hx hby D0_369 (l' := #[.val (.int p0), .val (.int p1), .val (.int p2), .val (.int p3), .val (.int p4), .val (.int p5), .val (.int fr), .val (.int (3 : Int32)), .val (.int (1 : Int32)), .val (.int mg), .val (.int m0), .val (.int m1), .val (.int P), .val (.int cv), .val (.ref a1), .val (.int (4 : Int32)), .val (.ref r72), .val (.ref r83), .val (.int (1 : Int32))]) rfl ?_
        refine o_aload X83 hx hby D0_371 rfl rfl ?_
        obtain ⟨cl_r83_84, Ar_r83_84, q_r83_84, S_r83_84, N_r83_84, H_r83_84, G_r83_84⟩ := id Vr83
        refine own_pre (A' := T83.setTop (mkF m 374 #[.val (.int p0), .val (.int p1), .val (.int p2), .val (.int p3), .val (.int p4), .val (.int p5), .val (.int fr), .val (.int (3 : Int32)), .val (.int (1 : Int32)), .val (.int mg), .val (.int m0), .val (.int m1), .val (.int P), .val (.int cv), .val (.ref a1), .val (.int (4 : Int32)), .val (.ref r72), .val (.ref r83), .val (.int (1 : Int32))] [(.int (5 : Int32))])) (fun t k => X83.arraylength hx Ar_r83_84.1 (State.isArrayOf_alike hZ.alike Ar_r83_84.2.1) (g := (mkF m 373 #[.val (.int p0), .val (.int p1), .val (.int p2), .val (.int p3), .val (.int p4), .val (.int p5), .val (.int fr), .val (.int (3 : Int32)), .val (.int (1 : Int32)), .val (.int mg), .val (.int m0), .val (.int m1), .val (.int P), .val (.int cv), .val (.ref a1), .val (.int (4 : Int32)), .val (.ref r72), .val (.ref r83), .val (.int (1 : Int32))] [(.ref r83)])) rfl rfl (hb hby D0_373.1) _ (by rw [len_of S_r83_84 N_r83_84]; exact k)) ?_
        refine o_iconst X83 hx hby D0_374 (v := 4) rfl ?_
        refine o_iload X83 hx hby D0_375 rfl ?_
        refine o_iadd X83 hx hby D0_377 ?_
        refine o_icmpY X83 hx hby D0_378 (teq (by decide : (5 : Int32) = ((4 : Int32) + (1 : Int32)))).1 (q := 383) (by decide) (by decide) ?_
        refine o_aload X83 hx hby D0_383 rfl rfl ?_
        refine o_iconst X83 hx hby D0_385 (v := 0) rfl ?_
        obtain ⟨cl_r83_85, Ar_r83_85, q_r83_85, S_r83_85, N_r83_85, H_r83_85, G_r83_85⟩ := id Vr83
        have hin_r83_85 : ¬ ((0 : Int32) < 0 ∨ cl_r83_85.slots.size ≤ ((0 : Int32)).toNatClampNeg) := inb_of S_r83_85 ⟨by decide, by decide⟩
        have hat_r83_85 : cl_r83_85.slots[((0 : Int32)).toNatClampNeg]? = some (.int (nar .byte ((((mg.toUInt32 >>> ((8 : Int32) &&& 31).toUInt32).toInt32)).toInt8.toInt32))) := H_r83_85.at hin_r83_85 (rfl)
        refine own_pre (A' := T83.setTop (mkF m 387 #[.val (.int p0), .val (.int p1), .val (.int p2), .val (.int p3), .val (.int p4), .val (.int p5), .val (.int fr), .val (.int (3 : Int32)), .val (.int (1 : Int32)), .val (.int mg), .val (.int m0), .val (.int m1), .val (.int P), .val (.int cv), .val (.ref a1), .val (.int (4 : Int32)), .val (.ref r72), .val (.ref r83), .val (.int (1 : Int32))] [(.int (nar .byte ((((mg.toUInt32 >>> ((8 : Int32) &&& 31).toUInt32).toInt32)).toInt8.toInt32)))])) (fun t k => X83.baloadBytes hx (j := (0 : Int32)) (v := (.int (nar .byte ((((mg.toUInt32 >>> ((8 : Int32) &&& 31).toUInt32).toInt32)).toInt8.toInt32)))) Ar_r83_85.1 (State.isArrayOf_alike hZ.alike Ar_r83_85.2.1) Ar_r83_85.2.2 hin_r83_85 hat_r83_85 (g := (mkF m 386 #[.val (.int p0), .val (.int p1), .val (.int p2), .val (.int p3), .val (.int p4), .val (.int p5), .val (.int fr), .val (.int (3 : Int32)), .val (.int (1 : Int32)), .val (.int mg), .val (.int m0), .val (.int m1), .val (.int P), .val (.int cv), .val (.ref a1), .val (.int (4 : Int32)), .val (.ref r72), .val (.ref r83), .val (.int (1 : Int32))] [(.int (0 : Int32)), (.ref r83)])) rfl rfl (hb hby D0_386.1) _ k) ?_
        refine o_sipush X83 hx hby D0_387 (v := 255) rfl ?_
        refine o_iand X83 hx hby D0_390 ?_
        refine o_iload X83 hx hby D0_391 rfl ?_
        refine o_icmpN X83 hx hby D0_393 (teq (hmg.1 : ((nar .byte ((((mg.toUInt32 >>> ((8 : Int32) &&& 31).toUInt32).toInt32)).toInt8.toInt32)) &&& (255 : Int32)) = m0)).2 ?_
        refine o_aload X83 hx hby D0_396 rfl rfl ?_
        refine o_iconst X83 hx hby D0_398 (v := 1) rfl ?_
        obtain ⟨cl_r83_86, Ar_r83_86, q_r83_86, S_r83_86, N_r83_86, H_r83_86, G_r83_86⟩ := id Vr83
        have hin_r83_86 : ¬ ((1 : Int32) < 0 ∨ cl_r83_86.slots.size ≤ ((1 : Int32)).toNatClampNeg) := inb_of S_r83_86 ⟨by decide, by decide⟩
        have hat_r83_86 : cl_r83_86.slots[((1 : Int32)).toNatClampNeg]? = some (.int (nar .byte ((mg).toInt8.toInt32))) := H_r83_86.at hin_r83_86 (rfl)
        refine own_pre (A' := T83.setTop (mkF m 400 #[.val (.int p0), .val (.int p1), .val (.int p2), .val (.int p3), .val (.int p4), .val (.int p5), .val (.int fr), .val (.int (3 : Int32)), .val (.int (1 : Int32)), .val (.int mg), .val (.int m0), .val (.int m1), .val (.int P), .val (.int cv), .val (.ref a1), .val (.int (4 : Int32)), .val (.ref r72), .val (.ref r83), .val (.int (1 : Int32))] [(.int (nar .byte ((mg).toInt8.toInt32)))])) (fun t k => X83.baloadBytes hx (j := (1 : Int32)) (v := (.int (nar .byte ((mg).toInt8.toInt32)))) Ar_r83_86.1 (State.isArrayOf_alike hZ.alike Ar_r83_86.2.1) Ar_r83_86.2.2 hin_r83_86 hat_r83_86 (g := (mkF m 399 #[.val (.int p0), .val (.int p1), .val (.int p2), .val (.int p3), .val (.int p4), .val (.int p5), .val (.int fr), .val (.int (3 : Int32)), .val (.int (1 : Int32)), .val (.int mg), .val (.int m0), .val (.int m1), .val (.int P), .val (.int cv), .val (.ref a1), .val (.int (4 : Int32)), .val (.ref r72), .val (.ref r83), .val (.int (1 : Int32))] [(.int (1 : Int32)), (.ref r83)])) rfl rfl (hb hby D0_399.1) _ k) ?_
        refine o_sipush X83 hx hby D0_400 (v := 255) rfl ?_
        refine o_iand X83 hx hby D0_403 ?_
        refine o_iload X83 hx hby D0_404 rfl ?_
        refine o_icmpN X83 hx hby D0_406 (teq (hmg.2 : ((nar .byte ((mg).toInt8.toInt32)) &&& (255 : Int32)) = m1)).2 ?_
        refine o_aload X83 hx hby D0_409 rfl rfl ?_
        refine o_iconst X83 hx hby D0_411 (v := 2) rfl ?_
        obtain ⟨cl_r83_87, Ar_r83_87, q_r83_87, S_r83_87, N_r83_87, H_r83_87, G_r83_87⟩ := id Vr83
        have hin_r83_87 : ¬ ((2 : Int32) < 0 ∨ cl_r83_87.slots.size ≤ ((2 : Int32)).toNatClampNeg) := inb_of S_r83_87 ⟨by decide, by decide⟩
        have hat_r83_87 : cl_r83_87.slots[((2 : Int32)).toNatClampNeg]? = some (.int (nar .byte ((((((5 : Int32) - (4 : Int32)).toUInt32 >>> ((8 : Int32) &&& 31).toUInt32).toInt32)).toInt8.toInt32))) := H_r83_87.at hin_r83_87 (rfl)
        refine own_pre (A' := T83.setTop (mkF m 413 #[.val (.int p0), .val (.int p1), .val (.int p2), .val (.int p3), .val (.int p4), .val (.int p5), .val (.int fr), .val (.int (3 : Int32)), .val (.int (1 : Int32)), .val (.int mg), .val (.int m0), .val (.int m1), .val (.int P), .val (.int cv), .val (.ref a1), .val (.int (4 : Int32)), .val (.ref r72), .val (.ref r83), .val (.int (1 : Int32))] [(.int (nar .byte ((((((5 : Int32) - (4 : Int32)).toUInt32 >>> ((8 : Int32) &&& 31).toUInt32).toInt32)).toInt8.toInt32)))])) (fun t k => X83.baloadBytes hx (j := (2 : Int32)) (v := (.int (nar .byte ((((((5 : Int32) - (4 : Int32)).toUInt32 >>> ((8 : Int32) &&& 31).toUInt32).toInt32)).toInt8.toInt32)))) Ar_r83_87.1 (State.isArrayOf_alike hZ.alike Ar_r83_87.2.1) Ar_r83_87.2.2 hin_r83_87 hat_r83_87 (g := (mkF m 412 #[.val (.int p0), .val (.int p1), .val (.int p2), .val (.int p3), .val (.int p4), .val (.int p5), .val (.int fr), .val (.int (3 : Int32)), .val (.int (1 : Int32)), .val (.int mg), .val (.int m0), .val (.int m1), .val (.int P), .val (.int cv), .val (.ref a1), .val (.int (4 : Int32)), .val (.ref r72), .val (.ref r83), .val (.int (1 : Int32))] [(.int (2 : Int32)), (.ref r83)])) rfl rfl (hb hby D0_412.1) _ k) ?_
        refine o_ifN X83 hx hby D0_413 ((if0 _ _).trans (teq (by decide : (nar .byte ((((((5 : Int32) - (4 : Int32)).toUInt32 >>> ((8 : Int32) &&& 31).toUInt32).toInt32)).toInt8.toInt32)) = (0 : Int32))).2) ?_
        refine o_aload X83 hx hby D0_416 rfl rfl ?_
        refine o_iconst X83 hx hby D0_418 (v := 3) rfl ?_
        obtain ⟨cl_r83_88, Ar_r83_88, q_r83_88, S_r83_88, N_r83_88, H_r83_88, G_r83_88⟩ := id Vr83
        have hin_r83_88 : ¬ ((3 : Int32) < 0 ∨ cl_r83_88.slots.size ≤ ((3 : Int32)).toNatClampNeg) := inb_of S_r83_88 ⟨by decide, by decide⟩
        have hat_r83_88 : cl_r83_88.slots[((3 : Int32)).toNatClampNeg]? = some (.int (nar .byte ((((5 : Int32) - (4 : Int32))).toInt8.toInt32))) := H_r83_88.at hin_r83_88 (rfl)
        refine own_pre (A' := T83.setTop (mkF m 420 #[.val (.int p0), .val (.int p1), .val (.int p2), .val (.int p3), .val (.int p4), .val (.int p5), .val (.int fr), .val (.int (3 : Int32)), .val (.int (1 : Int32)), .val (.int mg), .val (.int m0), .val (.int m1), .val (.int P), .val (.int cv), .val (.ref a1), .val (.int (4 : Int32)), .val (.ref r72), .val (.ref r83), .val (.int (1 : Int32))] [(.int (nar .byte ((((5 : Int32) - (4 : Int32))).toInt8.toInt32)))])) (fun t k => X83.baloadBytes hx (j := (3 : Int32)) (v := (.int (nar .byte ((((5 : Int32) - (4 : Int32))).toInt8.toInt32)))) Ar_r83_88.1 (State.isArrayOf_alike hZ.alike Ar_r83_88.2.1) Ar_r83_88.2.2 hin_r83_88 hat_r83_88 (g := (mkF m 419 #[.val (.int p0), .val (.int p1), .val (.int p2), .val (.int p3), .val (.int p4), .val (.int p5), .val (.int fr), .val (.int (3 : Int32)), .val (.int (1 : Int32)), .val (.int mg), .val (.int m0), .val (.int m1), .val (.int P), .val (.int cv), .val (.ref a1), .val (.int (4 : Int32)), .val (.ref r72), .val (.ref r83), .val (.int (1 : Int32))] [(.int (3 : Int32)), (.ref r83)])) rfl rfl (hb hby D0_419.1) _ k) ?_
        refine o_sipush X83 hx hby D0_420 (v := 255) rfl ?_
        refine o_iand X83 hx hby D0_423 ?_
        refine o_iload X83 hx hby D0_424 rfl ?_
        refine o_icmpY X83 hx hby D0_426 (teq (by decide : ((nar .byte ((((5 : Int32) - (4 : Int32))).toInt8.toInt32)) &&& (255 : Int32)) = (1 : Int32))).1 (q := 431) (by decide) (by decide) ?_
        refine o_iload X83 hx hby D0_431 rfl ?_
        refine o_ifN X83 hx hby D0_433 ((if0 _ _).trans (feq (by decide : ¬ ((1 : Int32) = (0 : Int32)))).1) ?_
        refine o_aload X83 hx hby D0_436 rfl rfl ?_
        refine o_iconst X83 hx hby D0_438 (v := 4) rfl ?_
        obtain ⟨cl_r83_89, Ar_r83_89, q_r83_89, S_r83_89, N_r83_89, H_r83_89, G_r83_89⟩ := id Vr83
        have hin_r83_89 : ¬ ((4 : Int32) < 0 ∨ cl_r83_89.slots.size ≤ ((4 : Int32)).toNatClampNeg) := inb_of S_r83_89 ⟨by decide, by decide⟩
        have hat_r83_89 : cl_r83_89.slots[((4 : Int32)).toNatClampNeg]? = some (.int (nar .byte ((p5).toInt8.toInt32))) := H_r83_89.at hin_r83_89 (rfl)
        refine own_pre (A' := T83.setTop (mkF m 440 #[.val (.int p0), .val (.int p1), .val (.int p2), .val (.int p3), .val (.int p4), .val (.int p5), .val (.int fr), .val (.int (3 : Int32)), .val (.int (1 : Int32)), .val (.int mg), .val (.int m0), .val (.int m1), .val (.int P), .val (.int cv), .val (.ref a1), .val (.int (4 : Int32)), .val (.ref r72), .val (.ref r83), .val (.int (1 : Int32))] [(.int (nar .byte ((p5).toInt8.toInt32)))])) (fun t k => X83.baloadBytes hx (j := (4 : Int32)) (v := (.int (nar .byte ((p5).toInt8.toInt32)))) Ar_r83_89.1 (State.isArrayOf_alike hZ.alike Ar_r83_89.2.1) Ar_r83_89.2.2 hin_r83_89 hat_r83_89 (g := (mkF m 439 #[.val (.int p0), .val (.int p1), .val (.int p2), .val (.int p3), .val (.int p4), .val (.int p5), .val (.int fr), .val (.int (3 : Int32)), .val (.int (1 : Int32)), .val (.int mg), .val (.int m0), .val (.int m1), .val (.int P), .val (.int cv), .val (.ref a1), .val (.int (4 : Int32)), .val (.ref r72), .val (.ref r83), .val (.int (1 : Int32))] [(.int (4 : Int32)), (.ref r83)])) rfl rfl (hb hby D0_439.1) _ k) ?_
        refine o_sipush X83 hx hby D0_440 (v := 255) rfl ?_
        refine o_iand X83 hx hby D0_443 ?_
        refine o_iload X83 hx hby D0_444 rfl ?_
        refine o_sipush X83 hx hby D0_446 (v := 255) rfl ?_
        refine o_iand X83 hx hby D0_449 ?_
        refine o_icmpY X83 hx hby D0_450 (teq (own_byte _ : ((nar .byte ((p5).toInt8.toInt32)) &&& (255 : Int32)) = (p5 &&& (255 : Int32)))).1 (q := 455) (by decide) (by decide) ?_
        refine o_iconst X83 hx hby D0_455 (v := 1) rfl ?_
        exact own_ret (v := some (.int (1 : Int32))) X83 (fun h => by first | rfl | (rw [Bd.returns] at h; cases h)) (BodyLoose.notSynchronized Bd) (by decide) (by decide) (⟨rfl, N83⟩) (fun fs hr => retN X83 hx (t := .boolean) Bd.returns (by simp) (hb hby D0_456.1) hr)
      · skip
        refine o_iload X72 hx hby D0_339 rfl ?_
        refine o_ifY X72 hx hby D0_341 ((if0 _ _).trans (teq (by decide : (0 : Int32) = (0 : Int32))).1) (q := 352) (by decide) (by decide) ?_
        refine o_aload X72 hx hby D0_352 rfl rfl ?_
        obtain ⟨cq90, kq90, q90a, q90b, q90c⟩ := isOf hZ rfl E_72
        obtain ⟨_, _, ⟨T90, L90, k90, n90⟩, -, X90, ⟨Lc90, hQ90, l90, y90, z90⟩, st90⟩ := X72.virtualBack hx (y := (⟨"com/example/jetway/jetway/ajp/PacketWriter", "toByteArray", "()[B"⟩ : MethodName)) (z := (⟨"com/example/jetway/jetway/ajp/PacketWriter", "toByteArray", "()[B"⟩ : MethodName)) hown (mvT hZ (own_wd hw (i := 23) rfl)) (mvT hZ (own_wd hw (i := 24) rfl)) (notFace_of_selects (args := #[]) (mvT hZ (own_wd hw (i := 26) rfl))) (mvT hZ (own_wd hw (i := 26) rfl)) (mvT hZ (own_wd hw (i := 25) rfl)) (by decide) (backOf (W := 0) (rmT4 l Z a0 hw [] a1 bf kb mg P (.int (nar .byte ((((mg.toUInt32 >>> ((8 : Int32) &&& 31).toUInt32).toInt32)).toInt8.toInt32))) (.int (nar .byte ((mg).toInt8.toInt32))) (.int (nar .byte ((((((8 : Int32) - (4 : Int32)).toUInt32 >>> ((8 : Int32) &&& 31).toUInt32).toInt32)).toInt8.toInt32))) (.int (nar .byte ((((8 : Int32) - (4 : Int32))).toInt8.toInt32))) (.int (nar .byte ((p1).toInt8.toInt32))) (.int (nar .byte ((p2).toInt8.toInt32))) (.int (nar .byte ((((cv.toUInt32 >>> ((8 : Int32) &&& 31).toUInt32).toInt32)).toInt8.toInt32))) (.int (nar .byte ((cv).toInt8.toInt32))) T72.heap n0 (own_leN (by omega)) ⟨E_72, Fm_72, Fp_72, Fb_72, Fo_72, Vb_72, Eb_72⟩ gn_a1 gn_bf nab hP) hZ (own_wd hw (i := 27) rfl) (own_wd hw (i := 3) rfl) (by decide) (by decide)) q90a q90c (g := (mkF m 354 #[.val (.int p0), .val (.int p1), .val (.int p2), .val (.int p3), .val (.int p4), .val (.int p5), .val (.int fr), .val (.int (3 : Int32)), .val (.int (0 : Int32)), .val (.int mg), .val (.int m0), .val (.int m1), .val (.int P), .val (.int cv), .val (.ref a1), .val (.int (4 : Int32)), .val (.ref r72), .unset, .unset] [(.ref a1)])) rfl (by rw [hml]; rfl) (Steps.refl _) (argsL := []) (rest := []) (lenOf pd__40_41_91B rfl) rfl (by show 2 * 0 + _ ≤ _; exact Nat.le_of_eq rfl) (hb hby D0_354.1) (fun _ _ => ⟨rfl, rfl, (by decide : 3 + 1 ≤ _), (by decide : 275 + 4 ≤ _)⟩)
        dsimp only [Pt.U, Pt.locs, Pt.cells, Pt.slots] at X90 l90 y90 z90 st90 hQ90
        subst l90 y90 z90
        obtain ⟨r90, kr90, rfl, N90q, K90, ge90, Vr90, E_90, Fm_90, Fp_90, Fb_90, Fo_90, Vb_90, Eb_90⟩ := hQ90
        have sz90 := own_leN K90.1
        have ge90' := own_leN ge90
        have lt_r90 := own_ltN Vr90.lt
        have N90 := Fr.app N72 N90q
        refine own_pre (A' := T90.setTop (mkF m 357 #[.val (.int p0), .val (.int p1), .val (.int p2), .val (.int p3), .val (.int p4), .val (.int p5), .val (.int fr), .val (.int (3 : Int32)), .val (.int (0 : Int32)), .val (.int mg), .val (.int m0), .val (.int m1), .val (.int P), .val (.int cv), .val (.ref a1), .val (.int (4 : Int32)), .val (.ref r72), .unset, .unset] [(.ref r90)])) (fun t k => st90.trans k) ?_
        refine o_astore X90 hx hby D0_357 rfl (l' := #[.val (.int p0), .val (.int p1), .val (.int p2), .val (.int p3), .val (.int p4), .val (.int p5), .val (.int fr), .val (.int (3 : Int32)), .val (.int (0 : Int32)), .val (.int mg), .val (.int m0), .val (.int m1), .val (.int P), .val (.int cv), .val (.ref a1), .val (.int (4 : Int32)), .val (.ref r72), .val (.ref r90), .unset]) rfl ?_
        refine o_iload X90 hx hby D0_359 rfl ?_
        refine o_ifY X90 hx hby D0_361 ((if0 _ _).trans (teq (by decide : (0 : Int32) = (0 : Int32))).1) (q := 368) (by decide) (by decide) ?_
        refine o_iconst X90 hx hby D0_368 (v := 0) rfl ?_
        refine o_istore X90 hx hby D0_369 (l' := #[.val (.int p0), .val (.int p1), .val (.int p2), .val (.int p3), .val (.int p4), .val (.int p5), .val (.int fr), .val (.int (3 : Int32)), .val (.int (0 : Int32)), .val (.int mg), .val (.int m0), .val (.int m1), .val (.int P), .val (.int cv), .val (.ref a1), .val (.int (4 : Int32)), .val (.ref r72), .val (.ref r90), .val (.int (0 : Int32))]) rfl ?_
        refine o_aload X90 hx hby D0_371 rfl rfl ?_
        obtain ⟨cl_r90_91, Ar_r90_91, q_r90_91, S_r90_91, N_r90_91, H_r90_91, G_r90_91⟩ := id Vr90
        refine own_pre (A' := T90.setTop (mkF m 374 #[.val (.int p0), .val (.int p1), .val (.int p2), .val (.int p3), .val (.int p4), .val (.int p5), .val (.int fr), .val (.int (3 : Int32)), .val (.int (0 : Int32)), .val (.int mg), .val (.int m0), .val (.int m1), .val (.int P), .val (.int cv), .val (.ref a1), .val (.int (4 : Int32)), .val (.ref r72), .val (.ref r90), .val (.int (0 : Int32))] [(.int (4 : Int32))])) (fun t k => X90.arraylength hx Ar_r90_91.1 (State.isArrayOf_alike hZ.alike Ar_r90_91.2.1) (g := (mkF m 373 #[.val (.int p0), .val (.int p1), .val (.int p2), .val (.int p3), .val (.int p4), .val (.int p5), .val (.int fr), .val (.int (3 : Int32)), .val (.int (0 : Int32)), .val (.int mg), .val (.int m0), .val (.int m1), .val (.int P), .val (.int cv), .val (.ref a1), .val (.int (4 : Int32)), .val (.ref r72), .val (.ref r90), .val (.int (0 : Int32))] [(.ref r90)])) rfl rfl (hb hby D0_373.1) _ (by rw [len_of S_r90_91 N_r90_91]; exact k)) ?_
        refine o_iconst X90 hx hby D0_374 (v := 4) rfl ?_
        refine o_iload X90 hx hby D0_375 rfl ?_
        refine o_iadd X90 hx hby D0_377 ?_
        refine o_icmpY X90 hx hby D0_378 (teq (by decide : (4 : Int32) = ((4 : Int32) + (0 : Int32)))).1 (q := 383) (by decide) (by decide) ?_
        refine o_aload X90 hx hby D0_383 rfl rfl ?_
        refine o_iconst X90 hx hby D0_385 (v := 0) rfl ?_
        obtain ⟨cl_r90_92, Ar_r90_92, q_r90_92, S_r90_92, N_r90_92, H_r90_92, G_r90_92⟩ := id Vr90
        have hin_r90_92 : ¬ ((0 : Int32) < 0 ∨ cl_r90_92.slots.size ≤ ((0 : Int32)).toNatClampNeg) := inb_of S_r90_92 ⟨by decide, by decide⟩
        have hat_r90_92 : cl_r90_92.slots[((0 : Int32)).toNatClampNeg]? = some (.int (nar .byte ((((mg.toUInt32 >>> ((8 : Int32) &&& 31).toUInt32).toInt32)).toInt8.toInt32))) := H_r90_92.at hin_r90_92 (rfl)
        refine own_pre (A' := T90.setTop (mkF m 387 #[.val (.int p0), .val (.int p1), .val (.int p2), .val (.int p3), .val (.int p4), .val (.int p5), .val (.int fr), .val (.int (3 : Int32)), .val (.int (0 : Int32)), .val (.int mg), .val (.int m0), .val (.int m1), .val (.int P), .val (.int cv), .val (.ref a1), .val (.int (4 : Int32)), .val (.ref r72), .val (.ref r90), .val (.int (0 : Int32))] [(.int (nar .byte ((((mg.toUInt32 >>> ((8 : Int32) &&& 31).toUInt32).toInt32)).toInt8.toInt32)))])) (fun t k => X90.baloadBytes hx (j := (0 : Int32)) (v := (.int (nar .byte ((((mg.toUInt32 >>> ((8 : Int32) &&& 31).toUInt32).toInt32)).toInt8.toInt32)))) Ar_r90_92.1 (State.isArrayOf_alike hZ.alike Ar_r90_92.2.1) Ar_r90_92.2.2 hin_r90_92 hat_r90_92 (g := (mkF m 386 #[.val (.int p0), .val (.int p1), .val (.int p2), .val (.int p3), .val (.int p4), .val (.int p5), .val (.int fr), .val (.int (3 : Int32)), .val (.int (0 : Int32)), .val (.int mg), .val (.int m0), .val (.int m1), .val (.int P), .val (.int cv), .val (.ref a1), .val (.int (4 : Int32)), .val (.ref r72), .val (.ref r90), .val (.int (0 : Int32))] [(.int (0 : Int32)), (.ref r90)])) rfl rfl (hb hby D0_386.1) _ k) ?_
        refine o_sipush X90 hx hby D0_387 (v := 255) rfl ?_
        refine o_iand X90 hx hby D0_390 ?_
        refine o_iload X90 hx hby D0_391 rfl ?_
        refine o_icmpN X90 hx hby D0_393 (teq (hmg.1 : ((nar .byte ((((mg.toUInt32 >>> ((8 : Int32) &&& 31).toUInt32).toInt32)).toInt8.toInt32)) &&& (255 : Int32)) = m0)).2 ?_
        refine o_aload X90 hx hby D0_396 rfl rfl ?_
        refine o_iconst X90 hx hby D0_398 (v := 1) rfl ?_
        obtain ⟨cl_r90_93, Ar_r90_93, q_r90_93, S_r90_93, N_r90_93, H_r90_93, G_r90_93⟩ := id Vr90
        have hin_r90_93 : ¬ ((1 : Int32) < 0 ∨ cl_r90_93.slots.size ≤ ((1 : Int32)).toNatClampNeg) := inb_of S_r90_93 ⟨by decide, by decide⟩
        have hat_r90_93 : cl_r90_93.slots[((1 : Int32)).toNatClampNeg]? = some (.int (nar .byte ((mg).toInt8.toInt32))) := H_r90_93.at hin_r90_93 (rfl)
        refine own_pre (A' := T90.setTop (mkF m 400 #[.val (.int p0), .val (.int p1), .val (.int p2), .val (.int p3), .val (.int p4), .val (.int p5), .val (.int fr), .val (.int (3 : Int32)), .val (.int (0 : Int32)), .val (.int mg), .val (.int m0), .val (.int m1), .val (.int P), .val (.int cv), .val (.ref a1), .val (.int (4 : Int32)), .val (.ref r72), .val (.ref r90), .val (.int (0 : Int32))] [(.int (nar .byte ((mg).toInt8.toInt32)))])) (fun t k => X90.baloadBytes hx (j := (1 : Int32)) (v := (.int (nar .byte ((mg).toInt8.toInt32)))) Ar_r90_93.1 (State.isArrayOf_alike hZ.alike Ar_r90_93.2.1) Ar_r90_93.2.2 hin_r90_93 hat_r90_93 (g := (mkF m 399 #[.val (.int p0), .val (.int p1), .val (.int p2), .val (.int p3), .val (.int p4), .val (.int p5), .val (.int fr), .val (.int (3 : Int32)), .val (.int (0 : Int32)), .val (.int mg), .val (.int m0), .val (.int m1), .val (.int P), .val (.int cv), .val (.ref a1), .val (.int (4 : Int32)), .val (.ref r72), .val (.ref r90), .val (.int (0 : Int32))] [(.int (1 : Int32)), (.ref r90)])) rfl rfl (hb hby D0_399.1) _ k) ?_
        refine o_sipush X90 hx hby D0_400 (v := 255) rfl ?_
        refine o_iand X90 hx hby D0_403 ?_
        refine o_iload X90 hx hby D0_404 rfl ?_
        refine o_icmpN X90 hx hby D0_406 (teq (hmg.2 : ((nar .byte ((mg).toInt8.toInt32)) &&& (255 : Int32)) = m1)).2 ?_
        refine o_aload X90 hx hby D0_409 rfl rfl ?_
        refine o_iconst X90 hx hby D0_411 (v := 2) rfl ?_
        obtain ⟨cl_r90_94, Ar_r90_94, q_r90_94, S_r90_94, N_r90_94, H_r90_94, G_r90_94⟩ := id Vr90
        have hin_r90_94 : ¬ ((2 : Int32) < 0 ∨ cl_r90_94.slots.size ≤ ((2 : Int32)).toNatClampNeg) := inb_of S_r90_94 ⟨by decide, by decide⟩
        have hat_r90_94 : cl_r90_94.slots[((2 : Int32)).toNatClampNeg]? = some (.int (nar .byte ((((((4 : Int32) - (4 : Int32)).toUInt32 >>> ((8 : Int32) &&& 31).toUInt32).toInt32)).toInt8.toInt32))) := H_r90_94.at hin_r90_94 (rfl)
        refine own_pre (A' := T90.setTop (mkF m 413 #[.val (.int p0), .val (.int p1), .val (.int p2), .val (.int p3), .val (.int p4), .val (.int p5), .val (.int fr), .val (.int (3 : Int32)), .val (.int (0 : Int32)), .val (.int mg), .val (.int m0), .val (.int m1), .val (.int P), .val (.int cv), .val (.ref a1), .val (.int (4 : Int32)), .val (.ref r72), .val (.ref r90), .val (.int (0 : Int32))] [(.int (nar .byte ((((((4 : Int32) - (4 : Int32)).toUInt32 >>> ((8 : Int32) &&& 31).toUInt32).toInt32)).toInt8.toInt32)))])) (fun t k => X90.baloadBytes hx (j := (2 : Int32)) (v := (.int (nar .byte ((((((4 : Int32) - (4 : Int32)).toUInt32 >>> ((8 : Int32) &&& 31).toUInt32).toInt32)).toInt8.toInt32)))) Ar_r90_94.1 (State.isArrayOf_alike hZ.alike Ar_r90_94.2.1) Ar_r90_94.2.2 hin_r90_94 hat_r90_94 (g := (mkF m 412 #[.val (.int p0), .val (.int p1), .val (.int p2), .val (.int p3), .val (.int p4), .val (.int p5), .val (.int fr), .val (.int (3 : Int32)), .val (.int (0 : Int32)), .val (.int mg), .val (.int m0), .val (.int m1), .val (.int P), .val (.int cv), .val (.ref a1), .val (.int (4 : Int32)), .val (.ref r72), .val (.ref r90), .val (.int (0 : Int32))] [(.int (2 : Int32)), (.ref r90)])) rfl rfl (hb hby D0_412.1) _ k) ?_
        refine o_ifN X90 hx hby D0_413 ((if0 _ _).trans (teq (by decide : (nar .byte ((((((4 : Int32) - (4 : Int32)).toUInt32 >>> ((8 : Int32) &&& 31).toUInt32).toInt32)).toInt8.toInt32)) = (0 : Int32))).2) ?_
        refine o_aload X90 hx hby D0_416 rfl rfl ?_
        refine o_iconst X90 hx hby D0_418 (v := 3) rfl ?_
        obtain ⟨cl_r90_95, Ar_r90_95, q_r90_95, S_r90_95, N_r90_95, H_r90_95, G_r90_95⟩ := id Vr90
        have hin_r90_95 : ¬ ((3 : Int32) < 0 ∨ cl_r90_95.slots.size ≤ ((3 : Int32)).toNatClampNeg) := inb_of S_r90_95 ⟨by decide, by decide⟩
        have hat_r90_95 : cl_r90_95.slots[((3 : Int32)).toNatClampNeg]? = some (.int (nar .byte ((((4 : Int32) - (4 : Int32))).toInt8.toInt32))) := H_r90_95.at hin_r90_95 (rfl)
        refine own_pre (A' := T90.setTop (mkF m 420 #[.val (.int p0), .val (.int p1), .val (.int p2), .val (.int p3), .val (.int p4), .val (.int p5), .val (.int fr), .val (.int (3 : Int32)), .val (.int (0 : Int32)), .val (.int mg), .val (.int m0), .val (.int m1), .val (.int P), .val (.int cv), .val (.ref a1), .val (.int (4 : Int32)), .val (.ref r72), .val (.ref r90), .val (.int (0 : Int32))] [(.int (nar .byte ((((4 : Int32) - (4 : Int32))).toInt8.toInt32)))])) (fun t k => X90.baloadBytes hx (j := (3 : Int32)) (v := (.int (nar .byte ((((4 : Int32) - (4 : Int32))).toInt8.toInt32)))) Ar_r90_95.1 (State.isArrayOf_alike hZ.alike Ar_r90_95.2.1) Ar_r90_95.2.2 hin_r90_95 hat_r90_95 (g := (mkF m 419 #[.val (.int p0), .val (.int p1), .val (.int p2), .val (.int p3), .val (.int p4), .val (.int p5), .val (.int fr), .val (.int (3 : Int32)), .val (.int (0 : Int32)), .val (.int mg), .val (.int m0), .val (.int m1), .val (.int P), .val (.int cv), .val (.ref a1), .val (.int (4 : Int32)), .val (.ref r72), .val (.ref r90), .val (.int (0 : Int32))] [(.int (3 : Int32)), (.ref r90)])) rfl rfl (hb hby D0_419.1) _ k) ?_
        refine o_sipush X90 hx hby D0_420 (v := 255) rfl ?_
        refine o_iand X90 hx hby D0_423 ?_
        refine o_iload X90 hx hby D0_424 rfl ?_
        refine o_icmpY X90 hx hby D0_426 (teq (by decide : ((nar .byte ((((4 : Int32) - (4 : Int32))).toInt8.toInt32)) &&& (255 : Int32)) = (0 : Int32))).1 (q := 431) (by decide) (by decide) ?_
        refine o_iload X90 hx hby D0_431 rfl ?_
        refine o_ifY X90 hx hby D0_433 ((if0 _ _).trans (teq (by decide : (0 : Int32) = (0 : Int32))).1) (q := 455) (by decide) (by decide) ?_
        refine o_iconst X90 hx hby D0_455 (v := 1) rfl ?_
        exact own_ret (v := some (.int (1 : Int32))) X90 (fun h => by first | rfl | (rw [Bd.returns] at h; cases h)) (BodyLoose.notSynchronized Bd) (by decide) (by decide) (⟨rfl, N90⟩) (fun fs hr => retN X90 hx (t := .boolean) Bd.returns (by simp) (hb hby D0_456.1) hr)
  refine o_iloadN X0 hx hby D0_0 rfl ?_
  refine o_iconst X0 hx hby D0_1 (v := 1) rfl ?_
  refine o_iand X0 hx hby D0_2 ?_
  by_cases hc3_96 : (p0 &&& (1 : Int32)) = (0 : Int32)
  · skip
    refine o_ifY X0 hx hby D0_3 ((if0 _ _).trans (teq hc3_96).1) (q := 10) (by decide) (by decide) ?_
    refine o_iconst X0 hx hby D0_10 (v := 0) rfl ?_
    refine o_istore X0 hx hby D0_11 (l' := #[.val (.int p0), .val (.int p1), .val (.int p2), .val (.int p3), .val (.int p4), .val (.int p5), .val (.int (0 : Int32)), .unset, .unset, .unset, .unset, .unset, .unset, .unset, .unset, .unset, .unset, .unset, .unset]) rfl ?_
    refine o_iloadN X0 hx hby D0_13 rfl ?_
    refine o_iconst X0 hx hby D0_14 (v := 1) rfl ?_
    refine o_iushr X0 hx hby D0_15 ?_
    refine o_iconst X0 hx hby D0_16 (v := 3) rfl ?_
    refine o_iand X0 hx hby D0_17 ?_
    refine o_istore X0 hx hby D0_18 (l' := #[.val (.int p0), .val (.int p1), .val (.int p2), .val (.int p3), .val (.int p4), .val (.int p5), .val (.int (0 : Int32)), .val (.int (((p0.toUInt32 >>> ((1 : Int32) &&& 31).toUInt32).toInt32) &&& (3 : Int32))), .unset, .unset, .unset, .unset, .unset, .unset, .unset, .unset, .unset, .unset, .unset]) rfl ?_
    refine o_iloadN X0 hx hby D0_20 rfl ?_
    refine o_bipush X0 hx hby D0_21 (v := 8) rfl ?_
    refine o_iand X0 hx hby D0_23 ?_
    by_cases hc24_97 : (p0 &&& (8 : Int32)) = (0 : Int32)
    · skip
      refine o_ifY X0 hx hby D0_24 ((if0 _ _).trans (teq hc24_97).1) (q := 31) (by decide) (by decide) ?_
      refine o_iconst X0 hx hby D0_31 (v := 0) rfl ?_
      refine o_istore X0 hx hby D0_32 (l' := #[.val (.int p0), .val (.int p1), .val (.int p2), .val (.int p3), .val (.int p4), .val (.int p5), .val (.int (0 : Int32)), .val (.int (((p0.toUInt32 >>> ((1 : Int32) &&& 31).toUInt32).toInt32) &&& (3 : Int32))), .val (.int (0 : Int32)), .unset, .unset, .unset, .unset, .unset, .unset, .unset, .unset, .unset, .unset]) rfl ?_
      refine o_iload X0 hx hby D0_34 rfl ?_
      refine o_ifY X0 hx hby D0_36 ((if0 _ _).trans (teq (rfl : (0 : Int32) = (0 : Int32))).1) (q := 45) (by decide) (by decide) ?_
      refine o_sipush X0 hx hby D0_45 (v := 4660) rfl ?_
      refine o_istore X0 hx hby D0_48 (l' := #[.val (.int p0), .val (.int p1), .val (.int p2), .val (.int p3), .val (.int p4), .val (.int p5), .val (.int (0 : Int32)), .val (.int (((p0.toUInt32 >>> ((1 : Int32) &&& 31).toUInt32).toInt32) &&& (3 : Int32))), .val (.int (0 : Int32)), .val (.int (4660 : Int32)), .unset, .unset, .unset, .unset, .unset, .unset, .unset, .unset, .unset]) rfl ?_
      refine o_iload X0 hx hby D0_50 rfl ?_
      refine o_ifY X0 hx hby D0_52 ((if0 _ _).trans (teq (rfl : (0 : Int32) = (0 : Int32))).1) (q := 60) (by decide) (by decide) ?_
      refine o_bipush X0 hx hby D0_60 (v := 18) rfl ?_
      refine o_istore X0 hx hby D0_62 (l' := #[.val (.int p0), .val (.int p1), .val (.int p2), .val (.int p3), .val (.int p4), .val (.int p5), .val (.int (0 : Int32)), .val (.int (((p0.toUInt32 >>> ((1 : Int32) &&& 31).toUInt32).toInt32) &&& (3 : Int32))), .val (.int (0 : Int32)), .val (.int (4660 : Int32)), .val (.int (18 : Int32)), .unset, .unset, .unset, .unset, .unset, .unset, .unset, .unset]) rfl ?_
      refine o_iload X0 hx hby D0_64 rfl ?_
      refine o_ifY X0 hx hby D0_66 ((if0 _ _).trans (teq (rfl : (0 : Int32) = (0 : Int32))).1) (q := 74) (by decide) (by decide) ?_
      refine o_bipush X0 hx hby D0_74 (v := 52) rfl ?_
      refine o_istore X0 hx hby D0_76 (l' := #[.val (.int p0), .val (.int p1), .val (.int p2), .val (.int p3), .val (.int p4), .val (.int p5), .val (.int (0 : Int32)), .val (.int (((p0.toUInt32 >>> ((1 : Int32) &&& 31).toUInt32).toInt32) &&& (3 : Int32))), .val (.int (0 : Int32)), .val (.int (4660 : Int32)), .val (.int (18 : Int32)), .val (.int (52 : Int32)), .unset, .unset, .unset, .unset, .unset, .unset, .unset]) rfl ?_
      refine o_bipush X0 hx hby D0_78 (v := 8) rfl ?_
      refine o_iload X0 hx hby D0_80 rfl ?_
      refine o_sipush X0 hx hby D0_82 (v := 255) rfl ?_
      refine o_iand X0 hx hby D0_85 ?_
      refine o_iadd X0 hx hby D0_86 ?_
      refine o_istore X0 hx hby D0_87 (l' := #[.val (.int p0), .val (.int p1), .val (.int p2), .val (.int p3), .val (.int p4), .val (.int p5), .val (.int (0 : Int32)), .val (.int (((p0.toUInt32 >>> ((1 : Int32) &&& 31).toUInt32).toInt32) &&& (3 : Int32))), .val (.int (0 : Int32)), .val (.int (4660 : Int32)), .val (.int (18 : Int32)), .val (.int (52 : Int32)), .val (.int ((8 : Int32) + (p4 &&& (255 : Int32)))), .unset, .unset, .unset, .unset, .unset, .unset]) rfl ?_
      refine o_iloadN X0 hx hby D0_89 rfl ?_
      refine o_ldc X0 hx hby hown (mvT hZ (own_wd hw (i := 0) rfl)) D0_90 ?_
      refine o_iand X0 hx hby D0_92 ?_
      refine o_istore X0 hx hby D0_93 (l' := #[.val (.int p0), .val (.int p1), .val (.int p2), .val (.int p3), .val (.int p4), .val (.int p5), .val (.int (0 : Int32)), .val (.int (((p0.toUInt32 >>> ((1 : Int32) &&& 31).toUInt32).toInt32) &&& (3 : Int32))), .val (.int (0 : Int32)), .val (.int (4660 : Int32)), .val (.int (18 : Int32)), .val (.int (52 : Int32)), .val (.int ((8 : Int32) + (p4 &&& (255 : Int32)))), .val (.int (p3 &&& (65535 : Int32))), .unset, .unset, .unset, .unset, .unset]) rfl ?_
      exact cut95 _ _ _ _ _ _ _ _ (own_psz _) (own_cv _) ⟨by decide, by decide⟩ (own_four _) (Or.inr rfl)
    · skip
      refine o_ifN X0 hx hby D0_24 ((if0 _ _).trans (feq hc24_97).1) ?_
      refine o_iconst X0 hx hby D0_27 (v := 1) rfl ?_
      refine o_goto X0 hx hby D0_28 (q := 32) (by decide) (by decide) ?_
      refine o_istore X0 hx hby D0_32 (l' := #[.val (.int p0), .val (.int p1), .val (.int p2), .val (.int p3), .val (.int p4), .val (.int p5), .val (.int (0 : Int32)), .val (.int (((p0.toUInt32 >>> ((1 : Int32) &&& 31).toUInt32).toInt32) &&& (3 : Int32))), .val (.int (1 : Int32)), .unset, .unset, .unset, .unset, .unset, .unset, .unset, .unset, .unset, .unset]) rfl ?_
      refine o_iload X0 hx hby D0_34 rfl ?_
      refine o_ifY X0 hx hby D0_36 ((if0 _ _).trans (teq (rfl : (0 : Int32) = (0 : Int32))).1) (q := 45) (by decide) (by decide) ?_
      refine o_sipush X0 hx hby D0_45 (v := 4660) rfl ?_
      refine o_istore X0 hx hby D0_48 (l' := #[.val (.int p0), .val (.int p1), .val (.int p2), .val (.int p3), .val (.int p4), .val (.int p5), .val (.int (0 : Int32)), .val (.int (((p0.toUInt32 >>> ((1 : Int32) &&& 31).toUInt32).toInt32) &&& (3 : Int32))), .val (.int (1 : Int32)), .val (.int (4660 : Int32)), .unset, .unset, .unset, .unset, .unset, .unset, .unset, .unset, .unset]) rfl ?_
      refine o_iload X0 hx hby D0_50 rfl ?_
      refine o_ifY X0 hx hby D0_52 ((if0 _ _).trans (teq (rfl : (0 : Int32) = (0 : Int32))).1) (q := 60) (by decide) (by decide) ?_
      refine o_bipush X0 hx hby D0_60 (v := 18) rfl ?_
      refine o_istore X0 hx hby D0_62 (l' := #[.val (.int p0), .val (.int p1), .val (.int p2), .val (.int p3), .val (.int p4), .val (.int p5), .val (.int (0 : Int32)), .val (.int (((p0.toUInt32 >>> ((1 : Int32) &&& 31).toUInt32).toInt32) &&& (3 : Int32))), .val (.int (1 : Int32)), .val (.int (4660 : Int32)), .val (.int (18 : Int32)), .unset, .unset, .unset, .unset, .unset, .unset, .unset, .unset]) rfl ?_
      refine o_iload X0 hx hby D0_64 rfl ?_
      refine o_ifY X0 hx hby D0_66 ((if0 _ _).trans (teq (rfl : (0 : Int32) = (0 : Int32))).1) (q := 74) (by decide) (by decide) ?_
      refine o_bipush X0 hx hby D0_74 (v := 52) rfl ?_
      refine o_istore X0 hx hby D0_76 (l' := #[.val (.int p0), .val (.int p1), .val (.int p2), .val (.int p3), .val (.int p4), .val (.int p5), .val (.int (0 : Int32)), .val (.int (((p0.toUInt32 >>> ((1 : Int32) &&& 31).toUInt32).toInt32) &&& (3 : Int32))), .val (.int (1 : Int32)), .val (.int (4660 : Int32)), .val (.int (18 : Int32)), .val (.int (52 : Int32)), .unset, .unset, .unset, .unset, .unset, .unset, .unset]) rfl ?_
      refine o_bipush X0 hx hby D0_78 (v := 8) rfl ?_
      refine o_iload X0 hx hby D0_80 rfl ?_
      refine o_sipush X0 hx hby D0_82 (v := 255) rfl ?_
      refine o_iand X0 hx hby D0_85 ?_
      refine o_iadd X0 hx hby D0_86 ?_
      refine o_istore X0 hx hby D0_87 (l' := #[.val (.int p0), .val (.int p1), .val (.int p2), .val (.int p3), .val (.int p4), .val (.int p5), .val (.int (0 : Int32)), .val (.int (((p0.toUInt32 >>> ((1 : Int32) &&& 31).toUInt32).toInt32) &&& (3 : Int32))), .val (.int (1 : Int32)), .val (.int (4660 : Int32)), .val (.int (18 : Int32)), .val (.int (52 : Int32)), .val (.int ((8 : Int32) + (p4 &&& (255 : Int32)))), .unset, .unset, .unset, .unset, .unset, .unset]) rfl ?_
      refine o_iloadN X0 hx hby D0_89 rfl ?_
      refine o_ldc X0 hx hby hown (mvT hZ (own_wd hw (i := 0) rfl)) D0_90 ?_
      refine o_iand X0 hx hby D0_92 ?_
      refine o_istore X0 hx hby D0_93 (l' := #[.val (.int p0), .val (.int p1), .val (.int p2), .val (.int p3), .val (.int p4), .val (.int p5), .val (.int (0 : Int32)), .val (.int (((p0.toUInt32 >>> ((1 : Int32) &&& 31).toUInt32).toInt32) &&& (3 : Int32))), .val (.int (1 : Int32)), .val (.int (4660 : Int32)), .val (.int (18 : Int32)), .val (.int (52 : Int32)), .val (.int ((8 : Int32) + (p4 &&& (255 : Int32)))), .val (.int (p3 &&& (65535 : Int32))), .unset, .unset, .unset, .unset, .unset]) rfl ?_
      exact cut95 _ _ _ _ _ _ _ _ (own_psz _) (own_cv _) ⟨by decide, by decide⟩ (own_four _) (Or.inl rfl)
  · skip
    refine o_ifN X0 hx hby D0_3 ((if0 _ _).trans (feq hc3_96).1) ?_
    refine o_iconst X0 hx hby D0_6 (v := 1) rfl ?_
    refine o_goto X0 hx hby D0_7 (q := 11) (by decide) (by decide) ?_
    refine o_istore X0 hx hby D0_11 (l' := #[.val (.int p0), .val (.int p1), .val (.int p2), .val (.int p3), .val (.int p4), .val (.int p5), .val (.int (1 : Int32)), .unset, .unset, .unset, .unset, .unset, .unset, .unset, .unset, .unset, .unset, .unset, .unset]) rfl ?_
    refine o_iloadN X0 hx hby D0_13 rfl ?_
    refine o_iconst X0 hx hby D0_14 (v := 1) rfl ?_
    refine o_iushr X0 hx hby D0_15 ?_
    refine o_iconst X0 hx hby D0_16 (v := 3) rfl ?_
    refine o_iand X0 hx hby D0_17 ?_
    refine o_istore X0 hx hby D0_18 (l' := #[.val (.int p0), .val (.int p1), .val (.int p2), .val (.int p3), .val (.int p4), .val (.int p5), .val (.int (1 : Int32)), .val (.int (((p0.toUInt32 >>> ((1 : Int32) &&& 31).toUInt32).toInt32) &&& (3 : Int32))), .unset, .unset, .unset, .unset, .unset, .unset, .unset, .unset, .unset, .unset, .unset]) rfl ?_
    refine o_iloadN X0 hx hby D0_20 rfl ?_
    refine o_bipush X0 hx hby D0_21 (v := 8) rfl ?_
    refine o_iand X0 hx hby D0_23 ?_
    by_cases hc24_98 : (p0 &&& (8 : Int32)) = (0 : Int32)
    · skip
      refine o_ifY X0 hx hby D0_24 ((if0 _ _).trans (teq hc24_98).1) (q := 31) (by decide) (by decide) ?_
      refine o_iconst X0 hx hby D0_31 (v := 0) rfl ?_
      refine o_istore X0 hx hby D0_32 (l' := #[.val (.int p0), .val (.int p1), .val (.int p2), .val (.int p3), .val (.int p4), .val (.int p5), .val (.int (1 : Int32)), .val (.int (((p0.toUInt32 >>> ((1 : Int32) &&& 31).toUInt32).toInt32) &&& (3 : Int32))), .val (.int (0 : Int32)), .unset, .unset, .unset, .unset, .unset, .unset, .unset, .unset, .unset, .unset]) rfl ?_
      refine o_iload X0 hx hby D0_34 rfl ?_
      refine o_ifN X0 hx hby D0_36 ((if0 _ _).trans (feq (by decide : ¬ ((1 : Int32) = (0 : Int32)))).1) ?_
      refine o_sipush X0 hx hby D0_39 (v := 16706) rfl ?_
      refine o_goto X0 hx hby D0_42 (q := 48) (by decide) (by decide) ?_
      refine o_istore X0 hx hby D0_48 (l' := #[.val (.int p0), .val (.int p1), .val (.int p2), .val (.int p3), .val (.int p4), .val (.int p5), .val (.int (1 : Int32)), .val (.int (((p0.toUInt32 >>> ((1 : Int32) &&& 31).toUInt32).toInt32) &&& (3 : Int32))), .val (.int (0 : Int32)), .val (.int (16706 : Int32)), .unset, .unset, .unset, .unset, .unset, .unset, .unset, .unset, .unset]) rfl ?_
      refine o_iload X0 hx hby D0_50 rfl ?_
      refine o_ifN X0 hx hby D0_52 ((if0 _ _).trans (feq (by decide : ¬ ((1 : Int32) = (0 : Int32)))).1) ?_
      refine o_bipush X0 hx hby D0_55 (v := 65) rfl ?_
      refine o_goto X0 hx hby D0_57 (q := 62) (by decide) (by decide) ?_
      refine o_istore X0 hx hby D0_62 (l' := #[.val (.int p0), .val (.int p1), .val (.int p2), .val (.int p3), .val (.int p4), .val (.int p5), .val (.int (1 : Int32)), .val (.int (((p0.toUInt32 >>> ((1 : Int32) &&& 31).toUInt32).toInt32) &&& (3 : Int32))), .val (.int (0 : Int32)), .val (.int (16706 : Int32)), .val (.int (65 : Int32)), .unset, .unset, .unset, .unset, .unset, .unset, .unset, .unset]) rfl ?_
      refine o_iload X0 hx hby D0_64 rfl ?_
      refine o_ifN X0 hx hby D0_66 ((if0 _ _).trans (feq (by decide : ¬ ((1 : Int32) = (0 : Int32)))).1) ?_
      refine o_bipush X0 hx hby D0_69 (v := 66) rfl ?_
      refine o_goto X0 hx hby D0_71 (q := 76) (by decide) (by decide) ?_
      refine o_istore X0 hx hby D0_76 (l' := #[.val (.int p0), .val (.int p1), .val (.int p2), .val (.int p3), .val (.int p4), .val (.int p5), .val (.int (1 : Int32)), .val (.int (((p0.toUInt32 >>> ((1 : Int32) &&& 31).toUInt32).toInt32) &&& (3 : Int32))), .val (.int (0 : Int32)), .val (.int (16706 : Int32)), .val (.int (65 : Int32)), .val (.int (66 : Int32)), .unset, .unset, .unset, .unset, .unset, .unset, .unset]) rfl ?_
      refine o_bipush X0 hx hby D0_78 (v := 8) rfl ?_
      refine o_iload X0 hx hby D0_80 rfl ?_
      refine o_sipush X0 hx hby D0_82 (v := 255) rfl ?_
      refine o_iand X0 hx hby D0_85 ?_
      refine o_iadd X0 hx hby D0_86 ?_
      refine o_istore X0 hx hby D0_87 (l' := #[.val (.int p0), .val (.int p1), .val (.int p2), .val (.int p3), .val (.int p4), .val (.int p5), .val (.int (1 : Int32)), .val (.int (((p0.toUInt32 >>> ((1 : Int32) &&& 31).toUInt32).toInt32) &&& (3 : Int32))), .val (.int (0 : Int32)), .val (.int (16706 : Int32)), .val (.int (65 : Int32)), .val (.int (66 : Int32)), .val (.int ((8 : Int32) + (p4 &&& (255 : Int32)))), .unset, .unset, .unset, .unset, .unset, .unset]) rfl ?_
      refine o_iloadN X0 hx hby D0_89 rfl ?_
      refine o_ldc X0 hx hby hown (mvT hZ (own_wd hw (i := 0) rfl)) D0_90 ?_
      refine o_iand X0 hx hby D0_92 ?_
      refine o_istore X0 hx hby D0_93 (l' := #[.val (.int p0), .val (.int p1), .val (.int p2), .val (.int p3), .val (.int p4), .val (.int p5), .val (.int (1 : Int32)), .val (.int (((p0.toUInt32 >>> ((1 : Int32) &&& 31).toUInt32).toInt32) &&& (3 : Int32))), .val (.int (0 : Int32)), .val (.int (16706 : Int32)), .val (.int (65 : Int32)), .val (.int (66 : Int32)), .val (.int ((8 : Int32) + (p4 &&& (255 : Int32)))), .val (.int (p3 &&& (65535 : Int32))), .unset, .unset, .unset, .unset, .unset]) rfl ?_
      exact cut95 _ _ _ _ _ _ _ _ (own_psz _) (own_cv _) ⟨by decide, by decide⟩ (own_four _) (Or.inr rfl)
    · skip
      refine o_ifN X0 hx hby D0_24 ((if0 _ _).trans (feq hc24_98).1) ?_
      refine o_iconst X0 hx hby D0_27 (v := 1) rfl ?_
      refine o_goto X0 hx hby D0_28 (q := 32) (by decide) (by decide) ?_
      refine o_istore X0 hx hby D0_32 (l' := #[.val (.int p0), .val (.int p1), .val (.int p2), .val (.int p3), .val (.int p4), .val (.int p5), .val (.int (1 : Int32)), .val (.int (((p0.toUInt32 >>> ((1 : Int32) &&& 31).toUInt32).toInt32) &&& (3 : Int32))), .val (.int (1 : Int32)), .unset, .unset, .unset, .unset, .unset, .unset, .unset, .unset, .unset, .unset]) rfl ?_
      refine o_iload X0 hx hby D0_34 rfl ?_
      refine o_ifN X0 hx hby D0_36 ((if0 _ _).trans (feq (by decide : ¬ ((1 : Int32) = (0 : Int32)))).1) ?_
      refine o_sipush X0 hx hby D0_39 (v := 16706) rfl ?_
      refine o_goto X0 hx hby D0_42 (q := 48) (by decide) (by decide) ?_
      refine o_istore X0 hx hby D0_48 (l' := #[.val (.int p0), .val (.int p1), .val (.int p2), .val (.int p3), .val (.int p4), .val (.int p5), .val (.int (1 : Int32)), .val (.int (((p0.toUInt32 >>> ((1 : Int32) &&& 31).toUInt32).toInt32) &&& (3 : Int32))), .val (.int (1 : Int32)), .val (.int (16706 : Int32)), .unset, .unset, .unset, .unset, .unset, .unset, .unset, .unset, .unset]) rfl ?_
      refine o_iload X0 hx hby D0_50 rfl ?_
      refine o_ifN X0 hx hby D0_52 ((if0 _ _).trans (feq (by decide : ¬ ((1 : Int32) = (0 : Int32)))).1) ?_
      refine o_bipush X0 hx hby D0_55 (v := 65) rfl ?_
      refine o_goto X0 hx hby D0_57 (q := 62) (by decide) (by decide) ?_
      refine o_istore X0 hx hby D0_62 (l' := #[.val (.int p0), .val (.int p1), .val (.int p2), .val (.int p3), .val (.int p4), .val (.int p5), .val (.int (1 : Int32)), .val (.int (((p0.toUInt32 >>> ((1 : Int32) &&& 31).toUInt32).toInt32) &&& (3 : Int32))), .val (.int (1 : Int32)), .val (.int (16706 : Int32)), .val (.int (65 : Int32)), .unset, .unset, .unset, .unset, .unset, .unset, .unset, .unset]) rfl ?_
      refine o_iload X0 hx hby D0_64 rfl ?_
      refine o_ifN X0 hx hby D0_66 ((if0 _ _).trans (feq (by decide : ¬ ((1 : Int32) = (0 : Int32)))).1) ?_
      refine o_bipush X0 hx hby D0_69 (v := 66) rfl ?_
      refine o_goto X0 hx hby D0_71 (q := 76) (by decide) (by decide) ?_
      refine o_istore X0 hx hby D0_76 (l' := #[.val (.int p0), .val (.int p1), .val (.int p2), .val (.int p3), .val (.int p4), .val (.int p5), .val (.int (1 : Int32)), .val (.int (((p0.toUInt32 >>> ((1 : Int32) &&& 31).toUInt32).toInt32) &&& (3 : Int32))), .val (.int (1 : Int32)), .val (.int (16706 : Int32)), .val (.int (65 : Int32)), .val (.int (66 : Int32)), .unset, .unset, .unset, .unset, .unset, .unset, .unset]) rfl ?_
      refine o_bipush X0 hx hby D0_78 (v := 8) rfl ?_
      refine o_iload X0 hx hby D0_80 rfl ?_
      refine o_sipush X0 hx hby D0_82 (v := 255) rfl ?_
      refine o_iand X0 hx hby D0_85 ?_
      refine o_iadd X0 hx hby D0_86 ?_
      refine o_istore X0 hx hby D0_87 (l' := #[.val (.int p0), .val (.int p1), .val (.int p2), .val (.int p3), .val (.int p4), .val (.int p5), .val (.int (1 : Int32)), .val (.int (((p0.toUInt32 >>> ((1 : Int32) &&& 31).toUInt32).toInt32) &&& (3 : Int32))), .val (.int (1 : Int32)), .val (.int (16706 : Int32)), .val (.int (65 : Int32)), .val (.int (66 : Int32)), .val (.int ((8 : Int32) + (p4 &&& (255 : Int32)))), .unset, .unset, .unset, .unset, .unset, .unset]) rfl ?_
      refine o_iloadN X0 hx hby D0_89 rfl ?_
      refine o_ldc X0 hx hby hown (mvT hZ (own_wd hw (i := 0) rfl)) D0_90 ?_
      refine o_iand X0 hx hby D0_92 ?_
      refine o_istore X0 hx hby D0_93 (l' := #[.val (.int p0), .val (.int p1), .val (.int p2), .val (.int p3), .val (.int p4), .val (.int p5), .val (.int (1 : Int32)), .val (.int (((p0.toUInt32 >>> ((1 : Int32) &&& 31).toUInt32).toInt32) &&& (3 : Int32))), .val (.int (1 : Int32)), .val (.int (16706 : Int32)), .val (.int (65 : Int32)), .val (.int (66 : Int32)), .val (.int ((8 : Int32) + (p4 &&& (255 : Int32)))), .val (.int (p3 &&& (65535 : Int32))), .unset, .unset, .unset, .unset, .unset]) rfl ?_
      exact cut95 _ _ _ _ _ _ _ _ (own_psz _) (own_cv _) ⟨by decide, by decide⟩ (own_four _) (Or.inl rfl)
set_option maxRecDepth 65536 in
set_option maxHeartbeats 40000000 in
theorem comes_1 {Post : Tables → Env → Array Value → State → Outcome → State → Prop} (hpost : ∀ tb e args s v u, (limb_1_1.after args s (.returned v) u = true ∧ limb_1_2.after args s (.returned v) u = true ∧ True) → FrameEnd s (.returned v) u (Jvm.fieldLocs frame_1_writes args s ++ Jvm.arrayLocs frame_1_arrays args s ++ Jvm.staticLocs frame_1_statics s) 16 640 → Post tb e args s (.returned v) u) :
    ArmFor flags0 classFile x code maxLocals ret World_1 tables_1 room_1 Calls_1 rest_1 Pre_1 Post := by
  intro l hfl _ _ p e ha hc hk s m args below hf hA hF happ hP
  obtain ⟨hcalls, hrest, hpre⟩ := hP
  obtain ⟨-, -, -, hnamed, -, -, -, hat⟩ := (Spec.applies_iff hf).mp happ
  obtain ⟨hg, hn⟩ := and_e (Cond.before_iff.mp (show (Jvm.Cond.and given_1 narrow_1).before args s = true from hpre))
  obtain ⟨gc, gr0⟩ := and_e hg
  obtain ⟨ga0, gr1⟩ := and_e gr0
  obtain ⟨ga1, gr2⟩ := and_e gr1
  obtain ⟨ga2, gr3⟩ := and_e gr2
  obtain ⟨ga3, gr4⟩ := and_e gr3
  obtain ⟨ga4, gr5⟩ := and_e gr4
  obtain ⟨w0, w1, w2, w3, w4, w5, rfl⟩ : ∃ w0 w1 w2 w3 w4 w5 : Value, args = #[w0, w1, w2, w3, w4, w5] := by
    have hs : args.size = 6 := by simpa [Cond.value, given_1] using gc
    obtain ⟨L⟩ := args
    match L, hs with
    | [w0, w1, w2, w3, w4, w5], _ => exact ⟨w0, w1, w2, w3, w4, w5, rfl⟩
  have hw := fun d (hd : d ∈ tables_1) => atoms_spec (ws := Jvm.Cond.code x code maxLocals ret :: tables_1) hat d (List.mem_cons_of_mem _ hd)
  obtain ⟨i0, ei0⟩ := is_v ga0
  obtain rfl : w0 = (.int i0) := Option.some.inj ei0
  obtain ⟨i1, ei1⟩ := is_v ga1
  obtain rfl : w1 = (.int i1) := Option.some.inj ei1
  obtain ⟨i2, ei2⟩ := is_v ga2
  obtain rfl : w2 = (.int i2) := Option.some.inj ei2
  obtain ⟨i3, ei3⟩ := is_v ga3
  obtain rfl : w3 = (.int i3) := Option.some.inj ei3
  obtain ⟨i4, ei4⟩ := is_v ga4
  obtain rfl : w4 = (.int i4) := Option.some.inj ei4
  obtain ⟨i5, ei5⟩ := is_v gr5
  obtain rfl : w5 = (.int i5) := Option.some.inj ei5
  obtain ⟨n, o, h1, h2, h3, _, L, rfl, ⟨rfl, N⟩, hq⟩ := rm0 l s _ hw tables_1 i0 i1 i2 i3 i4 i5 s.heap s.heap.size (Nat.le_refl _)  p e ha hc hk s m _ below hf ((Spec.applies_iff_loose hf).mp happ).1 ⟨rfl, State.Warmed39.refl s, rfl⟩ trivial
  refine ⟨n, _, h1, h2, h3, hpost _ _ _ _ _ _ ⟨Cond.after_iff.mpr rfl, Cond.after_iff.mpr (eq_i res_at (Term.int_eval (1)) rfl), trivial⟩ ⟨hq.1, hq.2.1, (hq.2.2.sift fun y hy => Or.inr (N y hy)).mono (by decide) (by decide)⟩⟩
theorem main_1_1 : Claimed_1_1 := comes_1 fun _ _ _ _ _ _ h hF => ⟨h.1, hF⟩
theorem main_1_2 : Claimed_1_2 := comes_1 fun _ _ _ _ _ _ h hF => ⟨h.2.1, hF⟩
end Jvm.Pilot.@@N@@
namespace Jvm.Pilot.@@N@@
open Jvm Jvm.ClassFile Sem Op Lib Jvm.Free Jvm.Stand Jvm.Pilot.@@N@@.Jvm.D
/-! MADE BY PROGRAM (witnessworld.py) out of the Statement's table words and the real class files: 12 classes; the members and pool entries that the words name. The judged class is class 1, her method 1. -/
namespace start1
open Jvm.ClassFile
def u (s : String) : CpInfo := .utf8 (stringToUtf16 s)
/-- a pool by its gaps: so many unusable entries, then the entry; so many at the end -/
def gap : Nat → List CpInfo → List CpInfo
  | 0, r => r
  | n + 1, r => .unusable :: gap n r
def poolList (es : List (Nat × CpInfo)) (last : Nat) : List CpInfo := es.foldr (fun e r => gap e.1 (e.2 :: r)) (gap last [])
def pool (es : List (Nat × CpInfo)) (last : Nat) : Array CpInfo := ⟨poolList es last⟩
def fileOf (pool : Array CpInfo) (this : Nat) (attrs : Array Attribute := #[]) (ms : Array MethodInfo := #[]) (fl : Nat := 33) (sup : Nat := 0) (ifs : Array Nat := #[]) (fds : Array FieldInfo := #[]) : ClassFile where
  minorVersion := 0
  majorVersion := 65
  constantPool := pool
  accessFlags := fl
  thisClass := this
  superClass := sup
  interfaces := ifs
  fields := fds
  methods := ms
  attributes := attrs
def plain (name : String) (sup : Option ClassId) : Class where
  name := name
  kind := .ordinary
  loader := none
  accessFlags := 33
  super := sup
  interfaces := #[]
  cf := none
  fields := #[]
  methods := #[]
  instanceTypes := #[]
  staticTypes := #[]
  resolved := #[]
  callSites := []
  init := .initialized
  statics := none
  mirror := none

def pool0 : Array CpInfo := pool [(5, u "<init>"), (0, u "()V"), (1, .class_ 10), (1, u "java/lang/Object"), (85, u "clone"), (0, u "()Ljava/lang/Object;")] 26

def k0c0 : Code := { maxStack := 0, maxLocals := 1, code := object_method_1_code, exceptionTable := #[], attributes := #[] }
def k0m0 : Method := { name := "<init>", desc := "()V", sig := { parameters := [], returnType := none }, accessFlags := 1, code := some k0c0 }
def k0m1 : Method := { name := "clone", desc := "()Ljava/lang/Object;", sig := { parameters := [], returnType := some (.object "java/lang/Object") }, accessFlags := 260, code := none }
/-- java/lang/Object -/
def k0 : Class := { plain "java/lang/Object" none with
  accessFlags := 33
  interfaces := #[]
  cf := some (fileOf pool0 8 #[] #[{ accessFlags := 1, nameIndex := 5, descriptorIndex := 6, attributes := #[] }, { accessFlags := 260, nameIndex := 96, descriptorIndex := 97, attributes := #[] }] 33 0 #[] #[])
  fields := #[]
  methods := #[k0m0, k0m1]
  instanceTypes := #[]
  staticTypes := #[]
  resolved := Array.replicate 124 none
  statics := none }

def pool1 : Array CpInfo := pool [(2, .class_ 4), (1, u "java/lang/Object"), (0, u "<init>"), (0, u "()V"), (2, .integer 65535), (0, .class_ 11), (0, u "com/example/jetway/jetway/ajp/PacketWriter"), (0, .methodref 10 13), (0, .nameAndType 5 14), (0, u "(II)V"), (0, .methodref 10 16), (0, .nameAndType 17 18), (0, u "putByte"), (0, u "(I)Lcom/example/jetway/jetway/ajp/PacketWriter;"), (0, .methodref 10 20), (0, .nameAndType 21 18), (0, u "putInt"), (0, .methodref 10 23), (0, .nameAndType 24 25), (0, u "toByteArray"), (0, u "()[B"), (0, .class_ 27), (0, u "com/example/jetway/jetway/ajp/PacketWriterToByteArrayPinLaw"), (2, u "law"), (0, u "(IIIIII)Z")] 8

def k1m0 : Method := { name := "<init>", desc := "()V", sig := { parameters := [], returnType := none }, accessFlags := 1, code := none }
def k1c1 : Code := { maxStack := 4, maxLocals := 19, code := code, exceptionTable := #[], attributes := #[] }
def k1m1 : Method := { name := "law", desc := "(IIIIII)Z", sig := { parameters := [.int, .int, .int, .int, .int, .int], returnType := some .boolean }, accessFlags := 9, code := some k1c1 }
/-- com/example/jetway/jetway/ajp/PacketWriterToByteArrayPinLaw -/
def k1 : Class := { plain "com/example/jetway/jetway/ajp/PacketWriterToByteArrayPinLaw" (some 0) with
  accessFlags := 49
  interfaces := #[]
  cf := some (fileOf pool1 26 #[] #[{ accessFlags := 1, nameIndex := 5, descriptorIndex := 6, attributes := #[] }, { accessFlags := 9, nameIndex := 30, descriptorIndex := 31, attributes := #[] }] 49 2 #[] #[])
  fields := #[]
  methods := #[k1m0, k1m1]
  instanceTypes := #[]
  staticTypes := #[]
  resolved := Array.replicate 40 none
  statics := none }

def pool2 : Array CpInfo := pool [(1, .methodref 2 3), (0, .class_ 4), (0, .nameAndType 5 6), (0, u "java/lang/Object"), (0, u "<init>"), (0, u "()V"), (2, .fieldref 10 11), (0, .class_ 12), (0, .nameAndType 13 14), (0, u "com/example/jetway/jetway/ajp/PacketWriter"), (0, u "position"), (0, u "I"), (0, .fieldref 10 16), (0, .nameAndType 17 14), (0, u "magic"), (0, .fieldref 10 19), (0, .nameAndType 20 14), (0, u "packetSize"), (0, .methodref 22 23), (0, .class_ 24), (0, .nameAndType 25 26), (0, u "java/lang/Math"), (0, u "min"), (0, u "(II)I"), (0, .fieldref 10 28), (0, .nameAndType 29 30), (0, u "buffer"), (0, u "[B"), (0, .methodref 10 32), (0, .nameAndType 33 34), (0, u "reserve"), (0, u "(I)V"), (2, u "putByte"), (0, u "(I)Lcom/example/jetway/jetway/ajp/PacketWriter;"), (14, u "putInt"), (15, .methodref 10 70), (0, .nameAndType 71 34), (0, u "grow"), (4, .methodref 10 77), (0, .nameAndType 78 6), (0, u "frame"), (12, .methodref 92 93), (0, .class_ 94), (0, .nameAndType 95 96), (0, u "java/util/Arrays"), (0, u "copyOf"), (0, u "([BI)[B"), (12, u "FIRST_CAPACITY"), (2, u "(II)V"), (18, u "toByteArray"), (0, u "()[B")] 17

def k2c0 : Code := { maxStack := 3, maxLocals := 3, code := prog_15_method_1_code, exceptionTable := #[], attributes := #[] }
def k2m0 : Method := { name := "<init>", desc := "(II)V", sig := { parameters := [.int, .int], returnType := none }, accessFlags := 1, code := some k2c0 }
def k2c1 : Code := { maxStack := 5, maxLocals := 2, code := prog_15_method_2_code, exceptionTable := #[], attributes := #[] }
def k2m1 : Method := { name := "putByte", desc := "(I)Lcom/example/jetway/jetway/ajp/PacketWriter;", sig := { parameters := [.int], returnType := some (.object "com/example/jetway/jetway/ajp/PacketWriter") }, accessFlags := 1, code := some k2c1 }
def k2c2 : Code := { maxStack := 5, maxLocals := 2, code := prog_15_method_4_code, exceptionTable := #[], attributes := #[] }
def k2m2 : Method := { name := "putInt", desc := "(I)Lcom/example/jetway/jetway/ajp/PacketWriter;", sig := { parameters := [.int], returnType := some (.object "com/example/jetway/jetway/ajp/PacketWriter") }, accessFlags := 1, code := some k2c2 }
def k2c3 : Code := { maxStack := 2, maxLocals := 2, code := prog_15_method_10_code, exceptionTable := #[], attributes := #[] }
def k2m3 : Method := { name := "toByteArray", desc := "()[B", sig := { parameters := [], returnType := some (.array .byte) }, accessFlags := 0, code := some k2c3 }
def k2c4 : Code := { maxStack := 4, maxLocals := 2, code := prog_15_method_11_code, exceptionTable := #[], attributes := #[] }
def k2m4 : Method := { name := "frame", desc := "()V", sig := { parameters := [], returnType := none }, accessFlags := 2, code := some k2c4 }
def k2c5 : Code := { maxStack := 3, maxLocals := 2, code := prog_15_method_13_code, exceptionTable := #[], attributes := #[] }
def k2m5 : Method := { name := "reserve", desc := "(I)V", sig := { parameters := [.int], returnType := none }, accessFlags := 2, code := some k2c5 }
def k2c6 : Code := { maxStack := 6, maxLocals := 2, code := prog_15_method_14_code, exceptionTable := #[], attributes := #[] }
def k2m6 : Method := { name := "grow", desc := "(I)V", sig := { parameters := [.int], returnType := none }, accessFlags := 2, code := some k2c6 }
/-- com/example/jetway/jetway/ajp/PacketWriter -/
def k2 : Class := { plain "com/example/jetway/jetway/ajp/PacketWriter" (some 0) with
  accessFlags := 49
  interfaces := #[]
  cf := some (fileOf pool2 10 #[] #[{ accessFlags := 1, nameIndex := 5, descriptorIndex := 112, attributes := #[] }, { accessFlags := 1, nameIndex := 37, descriptorIndex := 38, attributes := #[] }, { accessFlags := 1, nameIndex := 53, descriptorIndex := 38, attributes := #[] }, { accessFlags := 0, nameIndex := 131, descriptorIndex := 132, attributes := #[] }, { accessFlags := 2, nameIndex := 78, descriptorIndex := 6, attributes := #[] }, { accessFlags := 2, nameIndex := 33, descriptorIndex := 34, attributes := #[] }, { accessFlags := 2, nameIndex := 71, descriptorIndex := 34, attributes := #[] }] 49 2 #[] #[{ accessFlags := 26, nameIndex := 109, descriptorIndex := 14, attributes := #[] }, { accessFlags := 18, nameIndex := 17, descriptorIndex := 14, attributes := #[] }, { accessFlags := 18, nameIndex := 20, descriptorIndex := 14, attributes := #[] }, { accessFlags := 2, nameIndex := 29, descriptorIndex := 30, attributes := #[] }, { accessFlags := 2, nameIndex := 13, descriptorIndex := 14, attributes := #[] }])
  fields := #[{ name := "FIRST_CAPACITY", type := .int, accessFlags := 26, slot := 0, constantValue := 0 }, { name := "magic", type := .int, accessFlags := 18, slot := 0, constantValue := 0 }, { name := "packetSize", type := .int, accessFlags := 18, slot := 1, constantValue := 0 }, { name := "buffer", type := (.array .byte), accessFlags := 2, slot := 2, constantValue := 0 }, { name := "position", type := .int, accessFlags := 2, slot := 3, constantValue := 0 }]
  methods := #[k2m0, k2m1, k2m2, k2m3, k2m4, k2m5, k2m6]
  instanceTypes := #[.int, .int, (.array .byte), .int]
  staticTypes := #[.int]
  resolved := Array.replicate 150 none
  statics := none }

def pool3 : Array CpInfo := pool [(1, .class_ 2), (0, u "java/lang/Math"), (1, .class_ 6), (1, u "java/lang/Object"), (0, u "<init>"), (0, u "()V"), (89, .class_ 100), (1, u "java/lang/Math$RandomNumberGeneratorHolder"), (71, u "negativeZeroFloatBits"), (0, u "J"), (2, u "negativeZeroDoubleBits"), (24, u "min"), (43, u "$assertionsDisabled"), (0, u "Z"), (88, u "(II)I"), (2, u "twoToTheDoubleScaleDown"), (0, u "D"), (4, u "twoToTheDoubleScaleUp"), (9, u "E"), (3, u "PI"), (2, u "TAU"), (2, u "DEGREES_TO_RADIANS"), (0, u "RADIANS_TO_DEGREES")] 94

def k3m0 : Method := { name := "<init>", desc := "()V", sig := { parameters := [], returnType := none }, accessFlags := 2, code := none }
def k3c1 : Code := { maxStack := 2, maxLocals := 2, code := jdk_29_method_69_code, exceptionTable := #[], attributes := #[] }
def k3m1 : Method := { name := "min", desc := "(II)I", sig := { parameters := [.int, .int], returnType := some .int }, accessFlags := 9, code := some k3c1 }
/-- java/lang/Math -/
def k3 : Class := { plain "java/lang/Math" (some 0) with
  accessFlags := 49
  interfaces := #[]
  cf := some (fileOf pool3 1 #[.nestMembers #[98]] #[{ accessFlags := 2, nameIndex := 7, descriptorIndex := 8, attributes := #[] }, { accessFlags := 9, nameIndex := 201, descriptorIndex := 335, attributes := #[] }] 49 4 #[] #[{ accessFlags := 25, nameIndex := 354, descriptorIndex := 339, attributes := #[] }, { accessFlags := 25, nameIndex := 358, descriptorIndex := 339, attributes := #[] }, { accessFlags := 25, nameIndex := 361, descriptorIndex := 339, attributes := #[] }, { accessFlags := 26, nameIndex := 364, descriptorIndex := 339, attributes := #[] }, { accessFlags := 26, nameIndex := 365, descriptorIndex := 339, attributes := #[] }, { accessFlags := 26, nameIndex := 172, descriptorIndex := 173, attributes := #[] }, { accessFlags := 26, nameIndex := 176, descriptorIndex := 173, attributes := #[] }, { accessFlags := 8, nameIndex := 344, descriptorIndex := 339, attributes := #[] }, { accessFlags := 8, nameIndex := 338, descriptorIndex := 339, attributes := #[] }, { accessFlags := 4120, nameIndex := 245, descriptorIndex := 246, attributes := #[] }])
  fields := #[{ name := "E", type := .double, accessFlags := 25, slot := 0, constantValue := 0 }, { name := "PI", type := .double, accessFlags := 25, slot := 1, constantValue := 0 }, { name := "TAU", type := .double, accessFlags := 25, slot := 2, constantValue := 0 }, { name := "DEGREES_TO_RADIANS", type := .double, accessFlags := 26, slot := 3, constantValue := 0 }, { name := "RADIANS_TO_DEGREES", type := .double, accessFlags := 26, slot := 4, constantValue := 0 }, { name := "negativeZeroFloatBits", type := .long, accessFlags := 26, slot := 5, constantValue := 0 }, { name := "negativeZeroDoubleBits", type := .long, accessFlags := 26, slot := 6, constantValue := 0 }, { name := "twoToTheDoubleScaleUp", type := .double, accessFlags := 8, slot := 7, constantValue := 0 }, { name := "twoToTheDoubleScaleDown", type := .double, accessFlags := 8, slot := 8, constantValue := 0 }, { name := "$assertionsDisabled", type := .boolean, accessFlags := 4120, slot := 9, constantValue := 0 }]
  methods := #[k3m0, k3m1]
  instanceTypes := #[]
  staticTypes := #[.double, .double, .double, .double, .double, .long, .long, .double, .double, .boolean]
  resolved := Array.replicate 460 none
  statics := none }

def pool4 : Array CpInfo := pool [(2, .class_ 4), (1, u "java/lang/Object"), (0, u "<init>"), (0, u "()V"), (7, .class_ 16), (1, u "java/util/Arrays"), (57, .class_ 76), (1, u "java/util/Arrays$NaturalOrder"), (32, u "()Ljava/lang/Object;"), (3, .class_ 115), (1, u "java/util/Arrays$LegacyMergeSort"), (1, u "Z"), (10, .nameAndType 129 109), (0, u "clone"), (20, .methodref 151 152), (0, .class_ 153), (0, .nameAndType 154 155), (0, u "java/lang/System"), (0, u "arraycopy"), (0, u "(Ljava/lang/Object;ILjava/lang/Object;II)V"), (146, u "copyOf"), (1, .methodref 305 306), (0, .class_ 307), (0, .nameAndType 308 309), (0, u "java/lang/Math"), (0, u "min"), (0, u "(II)I"), (0, .methodref 311 128), (0, .class_ 312), (0, u "[B"), (62, .class_ 376), (0, u "java/util/Arrays$ArrayList"), (68, u "$assertionsDisabled"), (269, u "MIN_ARRAY_SORT_GRAN"), (0, u "I"), (2, u "INSERTIONSORT_THRESHOLD"), (149, u "([BI)[B"), (105, .class_ 976), (0, u "java/util/Arrays$ArrayItr")] 52

def k4m0 : Method := { name := "<init>", desc := "()V", sig := { parameters := [], returnType := none }, accessFlags := 2, code := none }
def k4c1 : Code := { maxStack := 6, maxLocals := 3, code := jdk_65_method_121_code, exceptionTable := #[], attributes := #[] }
def k4m1 : Method := { name := "copyOf", desc := "([BI)[B", sig := { parameters := [(.array .byte), .int], returnType := some (.array .byte) }, accessFlags := 9, code := some k4c1 }
/-- java/util/Arrays -/
def k4 : Class := { plain "java/util/Arrays" (some 0) with
  accessFlags := 49
  interfaces := #[]
  cf := some (fileOf pool4 14 #[.nestMembers #[975, 375, 113, 74]] #[{ accessFlags := 2, nameIndex := 5, descriptorIndex := 6, attributes := #[] }, { accessFlags := 9, nameIndex := 302, descriptorIndex := 869, attributes := #[] }] 49 2 #[] #[{ accessFlags := 26, nameIndex := 715, descriptorIndex := 716, attributes := #[] }, { accessFlags := 26, nameIndex := 719, descriptorIndex := 716, attributes := #[] }, { accessFlags := 4120, nameIndex := 445, descriptorIndex := 117, attributes := #[] }])
  fields := #[{ name := "MIN_ARRAY_SORT_GRAN", type := .int, accessFlags := 26, slot := 0, constantValue := 0 }, { name := "INSERTIONSORT_THRESHOLD", type := .int, accessFlags := 26, slot := 1, constantValue := 0 }, { name := "$assertionsDisabled", type := .boolean, accessFlags := 4120, slot := 2, constantValue := 0 }]
  methods := #[k4m0, k4m1]
  instanceTypes := #[]
  staticTypes := #[.int, .int, .boolean]
  resolved := Array.replicate 1029 none
  statics := none }

def pool5 : Array CpInfo := pool [(2, .class_ 4), (1, u "java/lang/Object"), (0, u "<init>"), (0, u "()V"), (1, .class_ 10), (1, u "java/lang/System"), (0, u "allowSecurityManager"), (0, u "I"), (16, u "cons"), (0, u "Ljava/io/Console;"), (77, .class_ 110), (1, u "java/lang/System$CallersHolder"), (43, u "initialErrStream"), (0, u "Ljava/io/PrintStream;"), (19, u "security"), (0, u "Ljava/lang/SecurityManager;"), (31, .class_ 209), (0, u "java/lang/System$1"), (7, u "props"), (0, u "Ljava/util/Properties;"), (2, u "lineSeparator"), (0, u "Ljava/lang/String;"), (96, .class_ 321), (1, u "java/lang/System$LoggerFinder"), (5, .class_ 328), (0, u "java/lang/System$Logger"), (67, u "err"), (2, u "out"), (91, u "notSupportedJnuEncoding"), (15, u "in"), (17, u "initialIn"), (0, u "Ljava/io/InputStream;"), (35, u "bootLayer"), (0, u "Ljava/lang/ModuleLayer;"), (99, .class_ 664), (0, u "java/lang/System$2"), (9, u "NEVER"), (2, u "MAYBE"), (49, u "arraycopy"), (0, u "(Ljava/lang/Object;ILjava/lang/Object;II)V"), (72, .class_ 802), (0, u "java/lang/System$Logger$Level")] 31

def k5m0 : Method := { name := "<init>", desc := "()V", sig := { parameters := [], returnType := none }, accessFlags := 2, code := none }
def k5m1 : Method := { name := "arraycopy", desc := "(Ljava/lang/Object;ILjava/lang/Object;II)V", sig := { parameters := [(.object "java/lang/Object"), .int, (.object "java/lang/Object"), .int, .int], returnType := none }, accessFlags := 265, code := none }
/-- java/lang/System -/
def k5 : Class := { plain "java/lang/System" (some 0) with
  accessFlags := 49
  interfaces := #[]
  cf := some (fileOf pool5 8 #[.nestMembers #[319, 327, 801, 108, 663, 208]] #[{ accessFlags := 2, nameIndex := 5, descriptorIndex := 6, attributes := #[] }, { accessFlags := 265, nameIndex := 727, descriptorIndex := 728, attributes := #[] }] 49 2 #[] #[{ accessFlags := 25, nameIndex := 507, descriptorIndex := 526, attributes := #[] }, { accessFlags := 25, nameIndex := 399, descriptorIndex := 155, attributes := #[] }, { accessFlags := 25, nameIndex := 396, descriptorIndex := 155, attributes := #[] }, { accessFlags := 10, nameIndex := 525, descriptorIndex := 526, attributes := #[] }, { accessFlags := 26, nameIndex := 674, descriptorIndex := 12, attributes := #[] }, { accessFlags := 26, nameIndex := 677, descriptorIndex := 12, attributes := #[] }, { accessFlags := 10, nameIndex := 11, descriptorIndex := 12, attributes := #[] }, { accessFlags := 74, nameIndex := 175, descriptorIndex := 176, attributes := #[] }, { accessFlags := 10, nameIndex := 491, descriptorIndex := 222, attributes := #[] }, { accessFlags := 74, nameIndex := 29, descriptorIndex := 30, attributes := #[] }, { accessFlags := 74, nameIndex := 154, descriptorIndex := 155, attributes := #[] }, { accessFlags := 10, nameIndex := 217, descriptorIndex := 218, attributes := #[] }, { accessFlags := 10, nameIndex := 221, descriptorIndex := 222, attributes := #[] }, { accessFlags := 8, nameIndex := 562, descriptorIndex := 563, attributes := #[] }])
  fields := #[{ name := "in", type := (.object "java/io/InputStream"), accessFlags := 25, slot := 0, constantValue := 0 }, { name := "out", type := (.object "java/io/PrintStream"), accessFlags := 25, slot := 1, constantValue := 0 }, { name := "err", type := (.object "java/io/PrintStream"), accessFlags := 25, slot := 2, constantValue := 0 }, { name := "initialIn", type := (.object "java/io/InputStream"), accessFlags := 10, slot := 3, constantValue := 0 }, { name := "NEVER", type := .int, accessFlags := 26, slot := 4, constantValue := 0 }, { name := "MAYBE", type := .int, accessFlags := 26, slot := 5, constantValue := 0 }, { name := "allowSecurityManager", type := .int, accessFlags := 10, slot := 6, constantValue := 0 }, { name := "security", type := (.object "java/lang/SecurityManager"), accessFlags := 74, slot := 7, constantValue := 0 }, { name := "notSupportedJnuEncoding", type := (.object "java/lang/String"), accessFlags := 10, slot := 8, constantValue := 0 }, { name := "cons", type := (.object "java/io/Console"), accessFlags := 74, slot := 9, constantValue := 0 }, { name := "initialErrStream", type := (.object "java/io/PrintStream"), accessFlags := 74, slot := 10, constantValue := 0 }, { name := "props", type := (.object "java/util/Properties"), accessFlags := 10, slot := 11, constantValue := 0 }, { name := "lineSeparator", type := (.object "java/lang/String"), accessFlags := 10, slot := 12, constantValue := 0 }, { name := "bootLayer", type := (.object "java/lang/ModuleLayer"), accessFlags := 8, slot := 13, constantValue := 0 }]
  methods := #[k5m0, k5m1]
  instanceTypes := #[]
  staticTypes := #[(.object "java/io/InputStream"), (.object "java/io/PrintStream"), (.object "java/io/PrintStream"), (.object "java/io/InputStream"), .int, .int, .int, (.object "java/lang/SecurityManager"), (.object "java/lang/String"), (.object "java/io/Console"), (.object "java/io/PrintStream"), (.object "java/util/Properties"), (.object "java/lang/String"), (.object "java/lang/ModuleLayer")]
  resolved := Array.replicate 834 none
  statics := none }

def pool6 : Array CpInfo := pool [(1, .class_ 2), (0, u "java/lang/Cloneable"), (0, .class_ 4), (0, u "java/lang/Object")] 2

/-- java/lang/Cloneable -/
def k6 : Class := { plain "java/lang/Cloneable" (some 0) with
  accessFlags := 1537
  interfaces := #[]
  cf := some (fileOf pool6 1 #[] #[] 1537 3 #[] #[])
  fields := #[]
  methods := #[]
  instanceTypes := #[]
  staticTypes := #[]
  resolved := Array.replicate 7 none
  statics := none }

def pool7 : Array CpInfo := pool [(1, u "java/io/Serializable"), (0, .class_ 1), (0, u "java/lang/Object"), (0, .class_ 3)] 3

/-- java/io/Serializable -/
def k7 : Class := { plain "java/io/Serializable" (some 0) with
  accessFlags := 1537
  interfaces := #[]
  cf := some (fileOf pool7 2 #[] #[] 1537 4 #[] #[])
  fields := #[]
  methods := #[]
  instanceTypes := #[]
  staticTypes := #[]
  resolved := Array.replicate 8 none
  statics := none }

/-- the primitive byte -/
def k8 : Class := { plain "byte" none with kind := .primitive 'B', accessFlags := 0x411 }
/-- [B -/
def k9 : Class := { plain "[B" (some 0) with kind := .array 8 .byte, interfaces := #[6, 7], accessFlags := 1041 }

/-- the primitive int -/
def k10 : Class := { plain "int" none with kind := .primitive 'I', accessFlags := 0x411 }
/-- [I -/
def k11 : Class := { plain "[I" (some 0) with kind := .array 10 .int, interfaces := #[6, 7], accessFlags := 1041 }

def heap : Heap := #[]
def classes : Array Class := #[k0, k1, k2, k3, k4, k5, k6, k7, k8, k9, k10, k11]
def interned : List (Array UInt16 × Addr) := []
def slotsUsed : Nat := 0
def theMethod : MethodId := ⟨1, 1⟩
def args0 : Array Value := #[.int 13, .int 6, .int 7, .int 8, .int 9, .int 10]
def aboutOver (below : List Frame) : State where
  vm := { classes := classes, interned := interned.toArray }
  heap := heap
  slotsUsed := slotsUsed
  threads := #[{ frames := .invoking theMethod args0 :: below }]
def below0 : List Frame := [.native { method := ⟨0, 0⟩, args := #[] }]
def about1 : State := aboutOver below0
def p0 : Program := .bare "" "" ""
def e0 : Env := launch0.env 0 0 0
theorem w_frames : about1.frames = Frame.invoking theMethod args0 :: below0 := rfl
set_option maxRecDepth 65536 in
theorem w_args : argsFit about1.vm theMethod args0 = true := by decide +kernel
set_option maxRecDepth 65536 in
theorem w_heap : heapFits about1 = true := by decide +kernel
set_option maxRecDepth 65536 in
theorem w_runnable : about1.curStatus? = some .runnable := by decide +kernel
set_option maxRecDepth 65536 in
theorem w_alone : about1.alone = true := by decide +kernel
set_option maxRecDepth 65536 in
theorem w_named : about1.methodNamed? x = some theMethod := by decide +kernel
set_option maxRecDepth 65536 in
theorem w_hears : about1.hears theMethod below0 = true := by decide +kernel
set_option maxRecDepth 65536 in
theorem w_ripe : about1.ripe theMethod args0 below0 = true := by decide +kernel
theorem w_running : about1.status = .running := rfl
set_option maxRecDepth 65536 in
theorem w_room : about1.hasRoom e0.platform room_1 = true :=
  launch0.hasRoom_least _ room_1 (by decide +kernel) (by decide +kernel) (by decide +kernel) (by decide +kernel) (by decide +kernel) (by decide +kernel)
theorem allAtoms_all (ts : List Jvm.Cond) (a : Array Jvm.Value) (st : Jvm.State) : (allAtoms ts).before a st = ts.all (fun c => c.before a st) := by
  induction ts with
  | nil => rfl
  | cons c t ih =>
    show (Jvm.Cond.and c (allAtoms t)).before a st = _
    rw [Jvm.Cond.before_and, ih, List.all_cons]
def words1 : List Jvm.Cond := Jvm.Cond.code x code maxLocals ret :: tables_1
/-- a 'code' word, met by the world's own term for the bytes: nothing is compared byte by byte -/
theorem code_word {y : MethodName} {bytes : ByteArray} {mx : Nat} {rt : Option FieldType} {a : Array Value} {s : State} {m : MethodId} {meth : Method} {c : Code} (h1 : s.methodNamed? y = some m) (h2 : s.vm.method? m = some meth) (h3 : meth.code = some c) (h4 : c.code = bytes)
    (h5 : (c.maxLocals == mx && c.exceptionTable.isEmpty && decide (c.maxStack ≤ mostOperands) && decide (meth.sig.returnType = rt) && !meth.locks && decide (parseMethodDescriptor y.desc = some meth.sig)) = true) : (Jvm.Cond.code y bytes mx rt).before a s = true := by
  simp only [Bool.and_eq_true, beq_iff_eq, Bool.not_eq_true', decide_eq_true_eq] at h5
  obtain ⟨⟨⟨⟨⟨g1, g2⟩, g3⟩, g4⟩, g5⟩, g6⟩ := h5
  simp [Cond.before, Cond.holds, Cond.value, h1, h2, h3, h4, g1, g2, g3, g4, g5, g6]
def isCode : Jvm.Cond → Bool
  | .code _ _ _ _ => true
  | _ => false
theorem all_split {L : List Jvm.Cond} {P : Jvm.Cond → Bool} (h1 : L.all (fun c => isCode c || P c) = true) (h2 : ∀ c ∈ L.filter isCode, P c = true) : L.all P = true := by
  refine List.all_eq_true.mpr fun c hc => ?_
  have h := List.all_eq_true.mp h1 c hc
  rcases Bool.eq_false_or_eq_true (isCode c) with hi | hi
  · exact h2 c (List.mem_filter.mpr ⟨hc, hi⟩)
  · simpa [hi] using h
set_option maxRecDepth 65536 in
theorem w_c0 : (Jvm.Cond.code x code maxLocals ret).before args0 about1 = true := code_word (m := ⟨1, 1⟩) (meth := k1m1) (c := k1c1) (by decide +kernel) rfl rfl rfl (by decide +kernel)
set_option maxRecDepth 65536 in
theorem w_c1 : (Jvm.Cond.code ({ cls := "com/example/jetway/jetway/ajp/PacketWriter", name := "<init>", desc := "(II)V" } : Jvm.MethodName) prog_15_method_1_code (3 : Nat) (Option.none : Option Jvm.ClassFile.FieldType)).before args0 about1 = true := code_word (m := ⟨2, 0⟩) (meth := k2m0) (c := k2c0) (by decide +kernel) rfl rfl rfl (by decide +kernel)
set_option maxRecDepth 65536 in
theorem w_c2 : (Jvm.Cond.code ({ cls := "java/lang/Object", name := "<init>", desc := "()V" } : Jvm.MethodName) object_method_1_code (1 : Nat) (Option.none : Option Jvm.ClassFile.FieldType)).before args0 about1 = true := code_word (m := ⟨0, 0⟩) (meth := k0m0) (c := k0c0) (by decide +kernel) rfl rfl rfl (by decide +kernel)
set_option maxRecDepth 65536 in
theorem w_c3 : (Jvm.Cond.code ({ cls := "java/lang/Math", name := "min", desc := "(II)I" } : Jvm.MethodName) jdk_29_method_69_code (2 : Nat) (Option.some Jvm.ClassFile.FieldType.int)).before args0 about1 = true := code_word (m := ⟨3, 1⟩) (meth := k3m1) (c := k3c1) (by decide +kernel) rfl rfl rfl (by decide +kernel)
set_option maxRecDepth 65536 in
theorem w_c4 : (Jvm.Cond.code ({ cls := "com/example/jetway/jetway/ajp/PacketWriter", name := "toByteArray", desc := "()[B" } : Jvm.MethodName) prog_15_method_10_code (2 : Nat) (Option.some (Jvm.ClassFile.FieldType.array Jvm.ClassFile.FieldType.byte))).before args0 about1 = true := code_word (m := ⟨2, 3⟩) (meth := k2m3) (c := k2c3) (by decide +kernel) rfl rfl rfl (by decide +kernel)
set_option maxRecDepth 65536 in
theorem w_c5 : (Jvm.Cond.code ({ cls := "com/example/jetway/jetway/ajp/PacketWriter", name := "frame", desc := "()V" } : Jvm.MethodName) prog_15_method_11_code (2 : Nat) (Option.none : Option Jvm.ClassFile.FieldType)).before args0 about1 = true := code_word (m := ⟨2, 4⟩) (meth := k2m4) (c := k2c4) (by decide +kernel) rfl rfl rfl (by decide +kernel)
set_option maxRecDepth 65536 in
theorem w_c6 : (Jvm.Cond.code ({ cls := "java/util/Arrays", name := "copyOf", desc := "([BI)[B" } : Jvm.MethodName) jdk_65_method_121_code (3 : Nat) (Option.some (Jvm.ClassFile.FieldType.array Jvm.ClassFile.FieldType.byte))).before args0 about1 = true := code_word (m := ⟨4, 1⟩) (meth := k4m1) (c := k4c1) (by decide +kernel) rfl rfl rfl (by decide +kernel)
set_option maxRecDepth 65536 in
theorem w_c7 : (Jvm.Cond.code ({ cls := "com/example/jetway/jetway/ajp/PacketWriter", name := "putByte", desc := "(I)Lcom/example/jetway/jetway/ajp/PacketWriter;" } : Jvm.MethodName) prog_15_method_2_code (2 : Nat) (Option.some (Jvm.ClassFile.FieldType.object "com/example/jetway/jetway/ajp/PacketWriter"))).before args0 about1 = true := code_word (m := ⟨2, 1⟩) (meth := k2m1) (c := k2c1) (by decide +kernel) rfl rfl rfl (by decide +kernel)
set_option maxRecDepth 65536 in
theorem w_c8 : (Jvm.Cond.code ({ cls := "com/example/jetway/jetway/ajp/PacketWriter", name := "reserve", desc := "(I)V" } : Jvm.MethodName) prog_15_method_13_code (2 : Nat) (Option.none : Option Jvm.ClassFile.FieldType)).before args0 about1 = true := code_word (m := ⟨2, 5⟩) (meth := k2m5) (c := k2c5) (by decide +kernel) rfl rfl rfl (by decide +kernel)
set_option maxRecDepth 65536 in
theorem w_c9 : (Jvm.Cond.code ({ cls := "com/example/jetway/jetway/ajp/PacketWriter", name := "grow", desc := "(I)V" } : Jvm.MethodName) prog_15_method_14_code (2 : Nat) (Option.none : Option Jvm.ClassFile.FieldType)).before args0 about1 = true := code_word (m := ⟨2, 6⟩) (meth := k2m6) (c := k2c6) (by decide +kernel) rfl rfl rfl (by decide +kernel)
set_option maxRecDepth 65536 in
theorem w_c10 : (Jvm.Cond.code ({ cls := "com/example/jetway/jetway/ajp/PacketWriter", name := "putInt", desc := "(I)Lcom/example/jetway/jetway/ajp/PacketWriter;" } : Jvm.MethodName) prog_15_method_4_code (2 : Nat) (Option.some (Jvm.ClassFile.FieldType.object "com/example/jetway/jetway/ajp/PacketWriter"))).before args0 about1 = true := code_word (m := ⟨2, 2⟩) (meth := k2m2) (c := k2c2) (by decide +kernel) rfl rfl rfl (by decide +kernel)
def codes1 : List Jvm.Cond := [Jvm.Cond.code x code maxLocals ret, Jvm.Cond.code ({ cls := "com/example/jetway/jetway/ajp/PacketWriter", name := "<init>", desc := "(II)V" } : Jvm.MethodName) prog_15_method_1_code (3 : Nat) (Option.none : Option Jvm.ClassFile.FieldType), Jvm.Cond.code ({ cls := "java/lang/Object", name := "<init>", desc := "()V" } : Jvm.MethodName) object_method_1_code (1 : Nat) (Option.none : Option Jvm.ClassFile.FieldType), Jvm.Cond.code ({ cls := "java/lang/Math", name := "min", desc := "(II)I" } : Jvm.MethodName) jdk_29_method_69_code (2 : Nat) (Option.some Jvm.ClassFile.FieldType.int), Jvm.Cond.code ({ cls := "com/example/jetway/jetway/ajp/PacketWriter", name := "toByteArray", desc := "()[B" } : Jvm.MethodName) prog_15_method_10_code (2 : Nat) (Option.some (Jvm.ClassFile.FieldType.array Jvm.ClassFile.FieldType.byte)), Jvm.Cond.code ({ cls := "com/example/jetway/jetway/ajp/PacketWriter", name := "frame", desc := "()V" } : Jvm.MethodName) prog_15_method_11_code (2 : Nat) (Option.none : Option Jvm.ClassFile.FieldType), Jvm.Cond.code ({ cls := "java/util/Arrays", name := "copyOf", desc := "([BI)[B" } : Jvm.MethodName) jdk_65_method_121_code (3 : Nat) (Option.some (Jvm.ClassFile.FieldType.array Jvm.ClassFile.FieldType.byte)), Jvm.Cond.code ({ cls := "com/example/jetway/jetway/ajp/PacketWriter", name := "putByte", desc := "(I)Lcom/example/jetway/jetway/ajp/PacketWriter;" } : Jvm.MethodName) prog_15_method_2_code (2 : Nat) (Option.some (Jvm.ClassFile.FieldType.object "com/example/jetway/jetway/ajp/PacketWriter")), Jvm.Cond.code ({ cls := "com/example/jetway/jetway/ajp/PacketWriter", name := "reserve", desc := "(I)V" } : Jvm.MethodName) prog_15_method_13_code (2 : Nat) (Option.none : Option Jvm.ClassFile.FieldType), Jvm.Cond.code ({ cls := "com/example/jetway/jetway/ajp/PacketWriter", name := "grow", desc := "(I)V" } : Jvm.MethodName) prog_15_method_14_code (2 : Nat) (Option.none : Option Jvm.ClassFile.FieldType), Jvm.Cond.code ({ cls := "com/example/jetway/jetway/ajp/PacketWriter", name := "putInt", desc := "(I)Lcom/example/jetway/jetway/ajp/PacketWriter;" } : Jvm.MethodName) prog_15_method_4_code (2 : Nat) (Option.some (Jvm.ClassFile.FieldType.object "com/example/jetway/jetway/ajp/PacketWriter"))]
set_option maxRecDepth 65536 in
theorem codes_eq : words1.filter isCode = codes1 := rfl
theorem w_codes : ∀ c ∈ words1.filter isCode, c.before args0 about1 = true := by
  rw [codes_eq]
  intro c hc
  simp only [codes1, List.mem_cons, List.not_mem_nil, or_false] at hc
  rcases hc with rfl | rfl | rfl | rfl | rfl | rfl | rfl | rfl | rfl | rfl | rfl
  · exact w_c0
  · exact w_c1
  · exact w_c2
  · exact w_c3
  · exact w_c4
  · exact w_c5
  · exact w_c6
  · exact w_c7
  · exact w_c8
  · exact w_c9
  · exact w_c10
set_option maxRecDepth 65536 in
theorem w_t1 : (words1.take 24).all (fun c => isCode c || c.before args0 about1) = true := by decide +kernel
set_option maxRecDepth 65536 in
theorem w_t2 : ((words1.drop 24).take 24).all (fun c => isCode c || c.before args0 about1) = true := by decide +kernel
set_option maxRecDepth 65536 in
theorem w_t3 : ((words1.drop 24).drop 24).all (fun c => isCode c || c.before args0 about1) = true := by decide +kernel
theorem w_tables : (allAtoms (Jvm.Cond.code x code maxLocals ret :: tables_1)).before args0 about1 = true := by
  rw [allAtoms_all]
  show words1.all (fun c => c.before args0 about1) = true
  refine all_split ?_ w_codes
  rw [← List.take_append_drop 24 words1, List.all_append, w_t1, ← List.take_append_drop 24 (words1.drop 24), List.all_append, w_t2, w_t3]
  rfl
set_option maxRecDepth 65536 in
theorem w_case : (Jvm.Cond.and given_1 narrow_1).before args0 about1 = true := by decide +kernel
theorem w_applies : (headSpec (Jvm.Cond.code x code maxLocals ret :: tables_1) room_1).applies x e0.platform about1 = true :=
  (Spec.applies_iff w_frames).mpr ⟨w_running, w_runnable, w_alone, w_named, w_hears, w_ripe, w_room, w_tables⟩
theorem atStart : AtStart classFile x code maxLocals ret World_1 tables_1 room_1 Calls_1 rest_1 Pre_1 launch0 p0 e0 about1 theMethod args0 below0 :=
  ⟨lists_1, trivial, launch0.admits_env _ _ _, launch0.least_env, fairChoices_fair.cas, fairChoices_fair.clock, w_frames, w_args, w_heap, w_applies, trivial, trivial, w_case⟩
end start1
theorem witness_1 : WitnessClaimed_1 := ⟨start1.p0, start1.e0, start1.about1, start1.theMethod, start1.args0, start1.below0, start1.atStart⟩
end Jvm.Pilot.@@N@@
