import JvmDerived
import JvmDerived.Pilot.@@N@@Statement
import JvmDerived.Pilot.@@N@@Code
set_option linter.unusedVariables false
set_option linter.unusedSimpArgs false
@@BLOCK:NumsL.lean.txt@@
namespace Jvm.RoadKit
open Sem ClassFile Op Lib Jvm.Stand Jvm.Free Jvm.LawKit
section New
variable {p : Program} {l : Launch} {e : Env} {R : Room} {s : State} {m : MethodId} {args : Array Value} {below : List Frame} {meth : Method} {c : Code} {T : State} {locs : List Loc} {cells slots : Nat}
theorem retI (X : Stand p l e R s m args below meth c T locs cells slots) (hx : p.tables.exec = Jvm.exec) {pc : Nat} {Ls : Array Slot} {z : Int32} {rest : List Value} (hret : meth.sig.returnType = some .int) (hd : decode c.code pc = .ok (.ireturn, 1)) {fs : List Frame}
    (hl : ∀ (f : JFrame) (acts : List Action), f.method = m → f.locked = none → f.entered = [] → (doReturn e (T.setTop f) acts (some (.int z))).1 = T.setFrames fs) : Steps p.tables e below (T.setTop (mkF m pc Ls (.int z :: rest))) (T.setFrames fs) := by
  have hm' : T.vm.method? m = some meth := X.method'
  have hn : narrow .int (.int z) = .int z := rfl
  show Steps p.tables e below (T.setTop { method := m, pc := pc, locals := Ls, stack := _ :: rest, locked := none }) _
  jvm_step X.here [X.here.top, hx, hd, hm', hret, hn]
  first | (intro acts; rw [hl _ acts rfl rfl rfl]) | rw [hl _ _ rfl rfl rfl]
  exact Steps.refl _

/-- from A the run ends, and R holds of the end -/
def own_Fin (tb : Tables) (e : Env) (below : List Frame) (R : State → Outcome → Prop) (A : State) : Prop := ∃ t o, Steps tb e below A t ∧ R t o
def own_R (s : State) (below : List Frame) (Q : Option Value → Heap → List Loc → Prop) (C S : Nat) (t : State) (o : Outcome) : Prop :=
  t.status = .running ∧ Ended t below o ∧ ∃ v L, o = .returned v ∧ Q v t.heap L ∧ FrameEnd s o t L C S
theorem own_pre {tb : Tables} {e : Env} {below : List Frame} {R : State → Outcome → Prop} {A A' : State} (h : ∀ t, Steps tb e below A' t → Steps tb e below A t) (k : own_Fin tb e below R A') : own_Fin tb e below R A := by
  obtain ⟨t, o, h1, h2⟩ := k; exact ⟨t, o, h t h1, h2⟩
theorem own_start {tb : Tables} {e : Env} {below : List Frame} {s T : State} {Q : Option Value → Heap → List Loc → Prop} {C S : Nat} {g g' : JFrame} (q : g = g') (k : own_Fin tb e below (own_R s below Q C S) (T.setTop g')) :
    ∃ s₂ o, Steps tb e below (T.setTop g) s₂ ∧ s₂.status = .running ∧ Ended s₂ below o ∧ ∃ v L, o = .returned v ∧ Q v s₂.heap L ∧ FrameEnd s o s₂ L C S := by
  subst q; exact k
theorem own_ret {Q : Option Value → Heap → List Loc → Prop} {C S : Nat} {A : State} {v : Option Value} (X : Stand p l e R s m args below meth c T locs cells slots) (hv : meth.sig.returnType = none → v = none) (hlocks : meth.locks = false) (hc : cells ≤ C) (hs : slots ≤ S) (hQ : Q v T.heap locs)
    (hstep : ∀ fs, (∀ (f : JFrame) (acts : List Action), f.method = m → f.locked = none → f.entered = [] → (doReturn e (T.setTop f) acts v).1 = T.setFrames fs) → Steps p.tables e below A (T.setFrames fs)) : own_Fin p.tables e below (own_R s below Q C S) A := by
  obtain ⟨fs, hr, hrun, hended, hW, hsame⟩ := X.leave hv hlocks
  exact ⟨_, _, hstep fs hr, hrun, hended, _, _, rfl, hQ, ⟨_, rfl⟩, hW, hsame.mono hc hs⟩
theorem own_ltN {a b : Nat} (h : a < b) : @LT.lt Nat instLTNat a b := h
theorem own_leN {a b : Nat} (h : a ≤ b) : @LE.le Nat instLENat a b := h
theorem own_neN {a b : Nat} (h : @LT.lt Nat instLTNat a b) : a ≠ b := Nat.ne_of_lt h
theorem own_neN' {a b : Nat} (h : @LT.lt Nat instLTNat b a) : a ≠ b := Nat.ne_of_gt h
theorem own_selp {y : MethodName} {s : State} {args : Array Value} {n : Nat} (hy : y.cls ≠ "java/lang/invoke/MethodHandle" ∧ y.cls ≠ "java/lang/invoke/VarHandle")
    (hins : (Cond.instantiable y.cls n).before args s = true) (hpriv : (Cond.privateMethod y).before args s = true) (hinst : (Cond.instanceMethod y).before args s = true) : (Cond.selects y.cls y y).before args s = true := by
  obtain ⟨c, k, hc, hk, -, hniab, -, -⟩ := Cond.instantiable_spec hins
  exact selects_self_of_private hc hk (Bool.or_eq_false_iff.mp hniab).1 (Cond.privateMethod_at hpriv) hinst hy
def own_QV (h0 : Heap) (n0 : Nat) (v : Option Value) (h : Heap) (L : List Loc) : Prop := v = none ∧ Fr n0 L ∧ h = h0
def own_QP (r : Value) (h0 : Heap) (n0 : Nat) (v : Option Value) (h : Heap) (L : List Loc) : Prop := v = some r ∧ Fr n0 L ∧ h = h0
def own_at (code : ByteArray) (pc : Nat) (i : Instr) (n pc' : Nat) : Prop := decode code pc = .ok (i, n) ∧ pc + n = pc'
section Steps1
variable {p : Program} {l : Launch} {e : Env} {R : Room} {s : State} {m : MethodId} {args : Array Value} {below : List Frame} {meth : Method} {c : Code} {T : State} {locs : List Loc} {cells slots : Nat} {code : ByteArray} {Rr : State → Outcome → Prop} {Ls : Array Slot} {st : List Value} {pc pc' : Nat}
theorem o_iloadN (X : Stand p l e R s m args below meth c T locs cells slots) (hx : p.tables.exec = Jvm.exec) (hby : c.code = code) {k : Fin 4} {v : Int32} (hd : own_at code pc (.iload_n k) 1 pc') (hl : Ls[k.val]? = some (.val (.int v)))
    (h : own_Fin p.tables e below Rr (T.setTop (mkF m pc' Ls (.int v :: st)))) : own_Fin p.tables e below Rr (T.setTop (mkF m pc Ls (st))) := by
  obtain ⟨hd, rfl⟩ := hd; subst hby
  exact own_pre (fun t k => XS.iloadN X.here hx rfl hd hl k) h
theorem o_iload (X : Stand p l e R s m args below meth c T locs cells slots) (hx : p.tables.exec = Jvm.exec) (hby : c.code = code) {k : Nat} {v : Int32} (hd : own_at code pc (.iload k) 2 pc') (hl : Ls[k]? = some (.val (.int v)))
    (h : own_Fin p.tables e below Rr (T.setTop (mkF m pc' Ls (.int v :: st)))) : own_Fin p.tables e below Rr (T.setTop (mkF m pc Ls (st))) := by
  obtain ⟨hd, rfl⟩ := hd; subst hby
  exact own_pre (fun t k => XS.iload X.here hx rfl hd hl k) h
theorem o_istoreN (X : Stand p l e R s m args below meth c T locs cells slots) (hx : p.tables.exec = Jvm.exec) (hby : c.code = code) {k : Fin 4} {v : Int32} {l' : Array Slot} (hd : own_at code pc (.istore_n k) 1 pc') (hl : storeLocals Ls k.val (.int v) = some l')
    (h : own_Fin p.tables e below Rr (T.setTop (mkF m pc' l' (st)))) : own_Fin p.tables e below Rr (T.setTop (mkF m pc Ls (.int v :: st))) := by
  obtain ⟨hd, rfl⟩ := hd; subst hby
  exact own_pre (fun t k => XS.istoreN X.here hx rfl hd rfl hl k) h
theorem o_istore (X : Stand p l e R s m args below meth c T locs cells slots) (hx : p.tables.exec = Jvm.exec) (hby : c.code = code) {k : Nat} {v : Int32} {l' : Array Slot} (hd : own_at code pc (.istore k) 2 pc') (hl : storeLocals Ls k (.int v) = some l')
    (h : own_Fin p.tables e below Rr (T.setTop (mkF m pc' l' (st)))) : own_Fin p.tables e below Rr (T.setTop (mkF m pc Ls (.int v :: st))) := by
  obtain ⟨hd, rfl⟩ := hd; subst hby
  exact own_pre (fun t k => XS.istore X.here hx rfl hd rfl hl k) h
theorem o_lloadN (X : Stand p l e R s m args below meth c T locs cells slots) (hx : p.tables.exec = Jvm.exec) (hby : c.code = code) {k : Fin 4} {v : Int64} (hd : own_at code pc (.lload_n k) 1 pc') (hl : Ls[k.val]? = some (.val (.long v)))
    (h : own_Fin p.tables e below Rr (T.setTop (mkF m pc' Ls (.long v :: st)))) : own_Fin p.tables e below Rr (T.setTop (mkF m pc Ls (st))) := by
  obtain ⟨hd, rfl⟩ := hd; subst hby
  exact own_pre (fun t k => XS.lloadN X.here hx rfl hd hl k) h
theorem o_lload (X : Stand p l e R s m args below meth c T locs cells slots) (hx : p.tables.exec = Jvm.exec) (hby : c.code = code) {k : Nat} {v : Int64} (hd : own_at code pc (.lload k) 2 pc') (hl : Ls[k]? = some (.val (.long v)))
    (h : own_Fin p.tables e below Rr (T.setTop (mkF m pc' Ls (.long v :: st)))) : own_Fin p.tables e below Rr (T.setTop (mkF m pc Ls (st))) := by
  obtain ⟨hd, rfl⟩ := hd; subst hby
  exact own_pre (fun t k => XS.lload X.here hx rfl hd hl k) h
theorem o_lstoreN (X : Stand p l e R s m args below meth c T locs cells slots) (hx : p.tables.exec = Jvm.exec) (hby : c.code = code) {k : Fin 4} {v : Int64} {l' : Array Slot} (hd : own_at code pc (.lstore_n k) 1 pc') (hl : storeLocals Ls k.val (.long v) = some l')
    (h : own_Fin p.tables e below Rr (T.setTop (mkF m pc' l' (st)))) : own_Fin p.tables e below Rr (T.setTop (mkF m pc Ls (.long v :: st))) := by
  obtain ⟨hd, rfl⟩ := hd; subst hby
  exact own_pre (fun t k => XS.lstoreN X.here hx rfl hd rfl hl k) h
theorem o_lstore (X : Stand p l e R s m args below meth c T locs cells slots) (hx : p.tables.exec = Jvm.exec) (hby : c.code = code) {k : Nat} {v : Int64} {l' : Array Slot} (hd : own_at code pc (.lstore k) 2 pc') (hl : storeLocals Ls k (.long v) = some l')
    (h : own_Fin p.tables e below Rr (T.setTop (mkF m pc' l' (st)))) : own_Fin p.tables e below Rr (T.setTop (mkF m pc Ls (.long v :: st))) := by
  obtain ⟨hd, rfl⟩ := hd; subst hby
  exact own_pre (fun t k => XS.lstore X.here hx rfl hd rfl hl k) h
theorem o_aloadN (X : Stand p l e R s m args below meth c T locs cells slots) (hx : p.tables.exec = Jvm.exec) (hby : c.code = code) {k : Fin 4} {v : Value} (hd : own_at code pc (.aload_n k) 1 pc') (hl : Ls[k.val]? = some (.val v)) (hv : v.isRef = true)
    (h : own_Fin p.tables e below Rr (T.setTop (mkF m pc' Ls (v :: st)))) : own_Fin p.tables e below Rr (T.setTop (mkF m pc Ls (st))) := by
  obtain ⟨hd, rfl⟩ := hd; subst hby
  exact own_pre (fun t k => XS.aloadN X.here hx rfl hd hl hv k) h
theorem o_aload (X : Stand p l e R s m args below meth c T locs cells slots) (hx : p.tables.exec = Jvm.exec) (hby : c.code = code) {k : Nat} {v : Value} (hd : own_at code pc (.aload k) 2 pc') (hl : Ls[k]? = some (.val v)) (hv : v.isRef = true)
    (h : own_Fin p.tables e below Rr (T.setTop (mkF m pc' Ls (v :: st)))) : own_Fin p.tables e below Rr (T.setTop (mkF m pc Ls (st))) := by
  obtain ⟨hd, rfl⟩ := hd; subst hby
  exact own_pre (fun t k => XS.aload X.here hx rfl hd hl hv k) h
theorem o_astoreN (X : Stand p l e R s m args below meth c T locs cells slots) (hx : p.tables.exec = Jvm.exec) (hby : c.code = code) {k : Fin 4} {v : Value} {l' : Array Slot} (hd : own_at code pc (.astore_n k) 1 pc') (hv : v.isRef = true) (hl : storeLocals Ls k.val v = some l')
    (h : own_Fin p.tables e below Rr (T.setTop (mkF m pc' l' (st)))) : own_Fin p.tables e below Rr (T.setTop (mkF m pc Ls (v :: st))) := by
  obtain ⟨hd, rfl⟩ := hd; subst hby
  exact own_pre (fun t k => XS.astoreN X.here hx rfl hd rfl hv hl k) h
theorem o_astore (X : Stand p l e R s m args below meth c T locs cells slots) (hx : p.tables.exec = Jvm.exec) (hby : c.code = code) {k : Nat} {v : Value} {l' : Array Slot} (hd : own_at code pc (.astore k) 2 pc') (hv : v.isRef = true) (hl : storeLocals Ls k v = some l')
    (h : own_Fin p.tables e below Rr (T.setTop (mkF m pc' l' (st)))) : own_Fin p.tables e below Rr (T.setTop (mkF m pc Ls (v :: st))) := by
  obtain ⟨hd, rfl⟩ := hd; subst hby
  exact own_pre (fun t k => XS.astore X.here hx rfl hd rfl hv hl k) h
theorem o_iconst (X : Stand p l e R s m args below meth c T locs cells slots) (hx : p.tables.exec = Jvm.exec) (hby : c.code = code) {i : Int} {v : Int32} (hd : own_at code pc (.iconst i) 1 pc') (hv : Int32.ofInt i = v)
    (h : own_Fin p.tables e below Rr (T.setTop (mkF m pc' Ls (.int v :: st)))) : own_Fin p.tables e below Rr (T.setTop (mkF m pc Ls (st))) := by
  obtain ⟨hd, rfl⟩ := hd; subst hby
  exact own_pre (fun t k => by subst hv; exact XS.iconst X.here hx rfl hd k) h
theorem o_bipush (X : Stand p l e R s m args below meth c T locs cells slots) (hx : p.tables.exec = Jvm.exec) (hby : c.code = code) {i : Int} {v : Int32} (hd : own_at code pc (.bipush i) 2 pc') (hv : (Int8.ofInt i).toInt32 = v)
    (h : own_Fin p.tables e below Rr (T.setTop (mkF m pc' Ls (.int v :: st)))) : own_Fin p.tables e below Rr (T.setTop (mkF m pc Ls (st))) := by
  obtain ⟨hd, rfl⟩ := hd; subst hby
  exact own_pre (fun t k => by subst hv; exact XS.bipush X.here hx rfl hd k) h
theorem o_sipush (X : Stand p l e R s m args below meth c T locs cells slots) (hx : p.tables.exec = Jvm.exec) (hby : c.code = code) {i : Int} {v : Int32} (hd : own_at code pc (.sipush i) 3 pc') (hv : (Int16.ofInt i).toInt32 = v)
    (h : own_Fin p.tables e below Rr (T.setTop (mkF m pc' Ls (.int v :: st)))) : own_Fin p.tables e below Rr (T.setTop (mkF m pc Ls (st))) := by
  obtain ⟨hd, rfl⟩ := hd; subst hby
  exact own_pre (fun t k => by subst hv; exact XS.sipush X.here hx rfl hd k) h
theorem o_lconst (X : Stand p l e R s m args below meth c T locs cells slots) (hx : p.tables.exec = Jvm.exec) (hby : c.code = code) {i : Fin 2} {v : Int64} (hd : own_at code pc (.lconst i) 1 pc') (hv : Int64.ofNat i = v)
    (h : own_Fin p.tables e below Rr (T.setTop (mkF m pc' Ls (.long v :: st)))) : own_Fin p.tables e below Rr (T.setTop (mkF m pc Ls (st))) := by
  obtain ⟨hd, rfl⟩ := hd; subst hby
  exact own_pre (fun t k => by subst hv; exact XS.lconst X.here hx rfl hd k) h
theorem o_anull (X : Stand p l e R s m args below meth c T locs cells slots) (hx : p.tables.exec = Jvm.exec) (hby : c.code = code)  (hd : own_at code pc (.aconst_null) 1 pc') 
    (h : own_Fin p.tables e below Rr (T.setTop (mkF m pc' Ls (.null :: st)))) : own_Fin p.tables e below Rr (T.setTop (mkF m pc Ls (st))) := by
  obtain ⟨hd, rfl⟩ := hd; subst hby
  exact own_pre (fun t k => XS.aconstNull X.here hx rfl hd k) h
theorem o_iadd (X : Stand p l e R s m args below meth c T locs cells slots) (hx : p.tables.exec = Jvm.exec) (hby : c.code = code) {x y : Int32} (hd : own_at code pc (.iadd) 1 pc') 
    (h : own_Fin p.tables e below Rr (T.setTop (mkF m pc' Ls (.int (x + y) :: st)))) : own_Fin p.tables e below Rr (T.setTop (mkF m pc Ls (.int y :: .int x :: st))) := by
  obtain ⟨hd, rfl⟩ := hd; subst hby
  exact own_pre (fun t k => XS.iadd X.here hx rfl hd rfl k) h
theorem o_ladd (X : Stand p l e R s m args below meth c T locs cells slots) (hx : p.tables.exec = Jvm.exec) (hby : c.code = code) {x y : Int64} (hd : own_at code pc (.ladd) 1 pc') 
    (h : own_Fin p.tables e below Rr (T.setTop (mkF m pc' Ls (.long (x + y) :: st)))) : own_Fin p.tables e below Rr (T.setTop (mkF m pc Ls (.long y :: .long x :: st))) := by
  obtain ⟨hd, rfl⟩ := hd; subst hby
  exact own_pre (fun t k => XS.ladd X.here hx rfl hd rfl k) h
theorem o_isub (X : Stand p l e R s m args below meth c T locs cells slots) (hx : p.tables.exec = Jvm.exec) (hby : c.code = code) {x y : Int32} (hd : own_at code pc (.isub) 1 pc') 
    (h : own_Fin p.tables e below Rr (T.setTop (mkF m pc' Ls (.int (x - y) :: st)))) : own_Fin p.tables e below Rr (T.setTop (mkF m pc Ls (.int y :: .int x :: st))) := by
  obtain ⟨hd, rfl⟩ := hd; subst hby
  exact own_pre (fun t k => XS.isub X.here hx rfl hd rfl k) h
theorem o_lsub (X : Stand p l e R s m args below meth c T locs cells slots) (hx : p.tables.exec = Jvm.exec) (hby : c.code = code) {x y : Int64} (hd : own_at code pc (.lsub) 1 pc') 
    (h : own_Fin p.tables e below Rr (T.setTop (mkF m pc' Ls (.long (x - y) :: st)))) : own_Fin p.tables e below Rr (T.setTop (mkF m pc Ls (.long y :: .long x :: st))) := by
  obtain ⟨hd, rfl⟩ := hd; subst hby
  exact own_pre (fun t k => XS.lsub X.here hx rfl hd rfl k) h
theorem o_imul (X : Stand p l e R s m args below meth c T locs cells slots) (hx : p.tables.exec = Jvm.exec) (hby : c.code = code) {x y : Int32} (hd : own_at code pc (.imul) 1 pc') 
    (h : own_Fin p.tables e below Rr (T.setTop (mkF m pc' Ls (.int (x * y) :: st)))) : own_Fin p.tables e below Rr (T.setTop (mkF m pc Ls (.int y :: .int x :: st))) := by
  obtain ⟨hd, rfl⟩ := hd; subst hby
  exact own_pre (fun t k => XS.imul X.here hx rfl hd rfl k) h
theorem o_lmul (X : Stand p l e R s m args below meth c T locs cells slots) (hx : p.tables.exec = Jvm.exec) (hby : c.code = code) {x y : Int64} (hd : own_at code pc (.lmul) 1 pc') 
    (h : own_Fin p.tables e below Rr (T.setTop (mkF m pc' Ls (.long (x * y) :: st)))) : own_Fin p.tables e below Rr (T.setTop (mkF m pc Ls (.long y :: .long x :: st))) := by
  obtain ⟨hd, rfl⟩ := hd; subst hby
  exact own_pre (fun t k => XS.lmul X.here hx rfl hd rfl k) h
theorem o_iand (X : Stand p l e R s m args below meth c T locs cells slots) (hx : p.tables.exec = Jvm.exec) (hby : c.code = code) {x y : Int32} (hd : own_at code pc (.iand) 1 pc') 
    (h : own_Fin p.tables e below Rr (T.setTop (mkF m pc' Ls (.int (x &&& y) :: st)))) : own_Fin p.tables e below Rr (T.setTop (mkF m pc Ls (.int y :: .int x :: st))) := by
  obtain ⟨hd, rfl⟩ := hd; subst hby
  exact own_pre (fun t k => XS.iand X.here hx rfl hd rfl k) h
theorem o_land (X : Stand p l e R s m args below meth c T locs cells slots) (hx : p.tables.exec = Jvm.exec) (hby : c.code = code) {x y : Int64} (hd : own_at code pc (.land) 1 pc') 
    (h : own_Fin p.tables e below Rr (T.setTop (mkF m pc' Ls (.long (x &&& y) :: st)))) : own_Fin p.tables e below Rr (T.setTop (mkF m pc Ls (.long y :: .long x :: st))) := by
  obtain ⟨hd, rfl⟩ := hd; subst hby
  exact own_pre (fun t k => XS.land X.here hx rfl hd rfl k) h
theorem o_ior (X : Stand p l e R s m args below meth c T locs cells slots) (hx : p.tables.exec = Jvm.exec) (hby : c.code = code) {x y : Int32} (hd : own_at code pc (.ior) 1 pc') 
    (h : own_Fin p.tables e below Rr (T.setTop (mkF m pc' Ls (.int (x ||| y) :: st)))) : own_Fin p.tables e below Rr (T.setTop (mkF m pc Ls (.int y :: .int x :: st))) := by
  obtain ⟨hd, rfl⟩ := hd; subst hby
  exact own_pre (fun t k => XS.ior X.here hx rfl hd rfl k) h
theorem o_lor (X : Stand p l e R s m args below meth c T locs cells slots) (hx : p.tables.exec = Jvm.exec) (hby : c.code = code) {x y : Int64} (hd : own_at code pc (.lor) 1 pc') 
    (h : own_Fin p.tables e below Rr (T.setTop (mkF m pc' Ls (.long (x ||| y) :: st)))) : own_Fin p.tables e below Rr (T.setTop (mkF m pc Ls (.long y :: .long x :: st))) := by
  obtain ⟨hd, rfl⟩ := hd; subst hby
  exact own_pre (fun t k => XS.lor X.here hx rfl hd rfl k) h
theorem o_ixor (X : Stand p l e R s m args below meth c T locs cells slots) (hx : p.tables.exec = Jvm.exec) (hby : c.code = code) {x y : Int32} (hd : own_at code pc (.ixor) 1 pc') 
    (h : own_Fin p.tables e below Rr (T.setTop (mkF m pc' Ls (.int (x ^^^ y) :: st)))) : own_Fin p.tables e below Rr (T.setTop (mkF m pc Ls (.int y :: .int x :: st))) := by
  obtain ⟨hd, rfl⟩ := hd; subst hby
  exact own_pre (fun t k => XS.ixor X.here hx rfl hd rfl k) h
theorem o_lxor (X : Stand p l e R s m args below meth c T locs cells slots) (hx : p.tables.exec = Jvm.exec) (hby : c.code = code) {x y : Int64} (hd : own_at code pc (.lxor) 1 pc') 
    (h : own_Fin p.tables e below Rr (T.setTop (mkF m pc' Ls (.long (x ^^^ y) :: st)))) : own_Fin p.tables e below Rr (T.setTop (mkF m pc Ls (.long y :: .long x :: st))) := by
  obtain ⟨hd, rfl⟩ := hd; subst hby
  exact own_pre (fun t k => XS.lxor X.here hx rfl hd rfl k) h
theorem o_ishl (X : Stand p l e R s m args below meth c T locs cells slots) (hx : p.tables.exec = Jvm.exec) (hby : c.code = code) {x y : Int32} (hd : own_at code pc (.ishl) 1 pc') 
    (h : own_Fin p.tables e below Rr (T.setTop (mkF m pc' Ls (.int (x <<< (y &&& 31)) :: st)))) : own_Fin p.tables e below Rr (T.setTop (mkF m pc Ls (.int y :: .int x :: st))) := by
  obtain ⟨hd, rfl⟩ := hd; subst hby
  exact own_pre (fun t k => XS.ishl X.here hx rfl hd rfl k) h
theorem o_ishr (X : Stand p l e R s m args below meth c T locs cells slots) (hx : p.tables.exec = Jvm.exec) (hby : c.code = code) {x y : Int32} (hd : own_at code pc (.ishr) 1 pc') 
    (h : own_Fin p.tables e below Rr (T.setTop (mkF m pc' Ls (.int (x >>> (y &&& 31)) :: st)))) : own_Fin p.tables e below Rr (T.setTop (mkF m pc Ls (.int y :: .int x :: st))) := by
  obtain ⟨hd, rfl⟩ := hd; subst hby
  exact own_pre (fun t k => XS.ishr X.here hx rfl hd rfl k) h
theorem o_iushr (X : Stand p l e R s m args below meth c T locs cells slots) (hx : p.tables.exec = Jvm.exec) (hby : c.code = code) {x y : Int32} (hd : own_at code pc (.iushr) 1 pc') 
    (h : own_Fin p.tables e below Rr (T.setTop (mkF m pc' Ls (.int ((x.toUInt32 >>> (y &&& 31).toUInt32).toInt32) :: st)))) : own_Fin p.tables e below Rr (T.setTop (mkF m pc Ls (.int y :: .int x :: st))) := by
  obtain ⟨hd, rfl⟩ := hd; subst hby
  exact own_pre (fun t k => XS.iushr X.here hx rfl hd rfl k) h
theorem o_lshl (X : Stand p l e R s m args below meth c T locs cells slots) (hx : p.tables.exec = Jvm.exec) (hby : c.code = code) {x : Int64} {y : Int32} (hd : own_at code pc (.lshl) 1 pc') 
    (h : own_Fin p.tables e below Rr (T.setTop (mkF m pc' Ls (.long (x <<< (y &&& 0x3f).toInt64) :: st)))) : own_Fin p.tables e below Rr (T.setTop (mkF m pc Ls (.int y :: .long x :: st))) := by
  obtain ⟨hd, rfl⟩ := hd; subst hby
  exact own_pre (fun t k => XS.lshl X.here hx rfl hd rfl k) h
theorem o_lshr (X : Stand p l e R s m args below meth c T locs cells slots) (hx : p.tables.exec = Jvm.exec) (hby : c.code = code) {x : Int64} {y : Int32} (hd : own_at code pc (.lshr) 1 pc') 
    (h : own_Fin p.tables e below Rr (T.setTop (mkF m pc' Ls (.long (x >>> (y &&& 0x3f).toInt64) :: st)))) : own_Fin p.tables e below Rr (T.setTop (mkF m pc Ls (.int y :: .long x :: st))) := by
  obtain ⟨hd, rfl⟩ := hd; subst hby
  exact own_pre (fun t k => XS.lshr X.here hx rfl hd rfl k) h
theorem o_lushr (X : Stand p l e R s m args below meth c T locs cells slots) (hx : p.tables.exec = Jvm.exec) (hby : c.code = code) {x : Int64} {y : Int32} (hd : own_at code pc (.lushr) 1 pc') 
    (h : own_Fin p.tables e below Rr (T.setTop (mkF m pc' Ls (.long ((x.toUInt64 >>> (y &&& 0x3f).toInt64.toUInt64).toInt64) :: st)))) : own_Fin p.tables e below Rr (T.setTop (mkF m pc Ls (.int y :: .long x :: st))) := by
  obtain ⟨hd, rfl⟩ := hd; subst hby
  exact own_pre (fun t k => XS.lushr X.here hx rfl hd rfl k) h
theorem o_ineg (X : Stand p l e R s m args below meth c T locs cells slots) (hx : p.tables.exec = Jvm.exec) (hby : c.code = code) {x : Int32} (hd : own_at code pc (.ineg) 1 pc') 
    (h : own_Fin p.tables e below Rr (T.setTop (mkF m pc' Ls (.int (-x) :: st)))) : own_Fin p.tables e below Rr (T.setTop (mkF m pc Ls (.int x :: st))) := by
  obtain ⟨hd, rfl⟩ := hd; subst hby
  exact own_pre (fun t k => XS.ineg X.here hx rfl hd rfl k) h
theorem o_lneg (X : Stand p l e R s m args below meth c T locs cells slots) (hx : p.tables.exec = Jvm.exec) (hby : c.code = code) {x : Int64} (hd : own_at code pc (.lneg) 1 pc') 
    (h : own_Fin p.tables e below Rr (T.setTop (mkF m pc' Ls (.long (-x) :: st)))) : own_Fin p.tables e below Rr (T.setTop (mkF m pc Ls (.long x :: st))) := by
  obtain ⟨hd, rfl⟩ := hd; subst hby
  exact own_pre (fun t k => XS.lneg X.here hx rfl hd rfl k) h
theorem o_i2l (X : Stand p l e R s m args below meth c T locs cells slots) (hx : p.tables.exec = Jvm.exec) (hby : c.code = code) {x : Int32} (hd : own_at code pc (.i2l) 1 pc') 
    (h : own_Fin p.tables e below Rr (T.setTop (mkF m pc' Ls (.long (x.toInt64) :: st)))) : own_Fin p.tables e below Rr (T.setTop (mkF m pc Ls (.int x :: st))) := by
  obtain ⟨hd, rfl⟩ := hd; subst hby
  exact own_pre (fun t k => XS.i2l X.here hx rfl hd rfl k) h
theorem o_l2i (X : Stand p l e R s m args below meth c T locs cells slots) (hx : p.tables.exec = Jvm.exec) (hby : c.code = code) {x : Int64} (hd : own_at code pc (.l2i) 1 pc') 
    (h : own_Fin p.tables e below Rr (T.setTop (mkF m pc' Ls (.int (x.toInt32) :: st)))) : own_Fin p.tables e below Rr (T.setTop (mkF m pc Ls (.long x :: st))) := by
  obtain ⟨hd, rfl⟩ := hd; subst hby
  exact own_pre (fun t k => XS.l2i X.here hx rfl hd rfl k) h
theorem o_i2b (X : Stand p l e R s m args below meth c T locs cells slots) (hx : p.tables.exec = Jvm.exec) (hby : c.code = code) {x : Int32} (hd : own_at code pc (.i2b) 1 pc') 
    (h : own_Fin p.tables e below Rr (T.setTop (mkF m pc' Ls (.int (x.toInt8.toInt32) :: st)))) : own_Fin p.tables e below Rr (T.setTop (mkF m pc Ls (.int x :: st))) := by
  obtain ⟨hd, rfl⟩ := hd; subst hby
  exact own_pre (fun t k => XS.i2b X.here hx rfl hd rfl k) h
theorem o_i2s (X : Stand p l e R s m args below meth c T locs cells slots) (hx : p.tables.exec = Jvm.exec) (hby : c.code = code) {x : Int32} (hd : own_at code pc (.i2s) 1 pc') 
    (h : own_Fin p.tables e below Rr (T.setTop (mkF m pc' Ls (.int (x.toInt16.toInt32) :: st)))) : own_Fin p.tables e below Rr (T.setTop (mkF m pc Ls (.int x :: st))) := by
  obtain ⟨hd, rfl⟩ := hd; subst hby
  exact own_pre (fun t k => XS.i2s X.here hx rfl hd rfl k) h
theorem o_i2c (X : Stand p l e R s m args below meth c T locs cells slots) (hx : p.tables.exec = Jvm.exec) (hby : c.code = code) {x : Int32} (hd : own_at code pc (.i2c) 1 pc') 
    (h : own_Fin p.tables e below Rr (T.setTop (mkF m pc' Ls (.int (x.toUInt32.toUInt16.toUInt32.toInt32) :: st)))) : own_Fin p.tables e below Rr (T.setTop (mkF m pc Ls (.int x :: st))) := by
  obtain ⟨hd, rfl⟩ := hd; subst hby
  exact own_pre (fun t k => XS.i2c X.here hx rfl hd rfl k) h
theorem o_idiv (X : Stand p l e R s m args below meth c T locs cells slots) (hx : p.tables.exec = Jvm.exec) (hby : c.code = code) {x y : Int32} (hd : own_at code pc (.idiv) 1 pc') (hy : y ≠ 0)
    (h : own_Fin p.tables e below Rr (T.setTop (mkF m pc' Ls (.int (x / y) :: st)))) : own_Fin p.tables e below Rr (T.setTop (mkF m pc Ls (.int y :: .int x :: st))) := by
  obtain ⟨hd, rfl⟩ := hd; subst hby
  exact own_pre (fun t k => XS.idiv X.here hx rfl hd rfl hy k) h
theorem o_ldiv (X : Stand p l e R s m args below meth c T locs cells slots) (hx : p.tables.exec = Jvm.exec) (hby : c.code = code) {x y : Int64} (hd : own_at code pc (.ldiv) 1 pc') (hy : y ≠ 0)
    (h : own_Fin p.tables e below Rr (T.setTop (mkF m pc' Ls (.long (x / y) :: st)))) : own_Fin p.tables e below Rr (T.setTop (mkF m pc Ls (.long y :: .long x :: st))) := by
  obtain ⟨hd, rfl⟩ := hd; subst hby
  exact own_pre (fun t k => XS.ldiv X.here hx rfl hd rfl hy k) h
theorem o_irem (X : Stand p l e R s m args below meth c T locs cells slots) (hx : p.tables.exec = Jvm.exec) (hby : c.code = code) {x y : Int32} (hd : own_at code pc (.irem) 1 pc') (hy : y ≠ 0)
    (h : own_Fin p.tables e below Rr (T.setTop (mkF m pc' Ls (.int (x % y) :: st)))) : own_Fin p.tables e below Rr (T.setTop (mkF m pc Ls (.int y :: .int x :: st))) := by
  obtain ⟨hd, rfl⟩ := hd; subst hby
  exact own_pre (fun t k => iremM X hx rfl hd rfl hy k) h
theorem o_lcmp (X : Stand p l e R s m args below meth c T locs cells slots) (hx : p.tables.exec = Jvm.exec) (hby : c.code = code) {x y : Int64} (hd : own_at code pc (.lcmp) 1 pc') 
    (h : own_Fin p.tables e below Rr (T.setTop (mkF m pc' Ls (.int (lcmpW x y) :: st)))) : own_Fin p.tables e below Rr (T.setTop (mkF m pc Ls (.long y :: .long x :: st))) := by
  obtain ⟨hd, rfl⟩ := hd; subst hby
  exact own_pre (fun t k => XS.lcmp X.here hx rfl hd rfl k) h
theorem o_iinc (X : Stand p l e R s m args below meth c T locs cells slots) (hx : p.tables.exec = Jvm.exec) (hby : c.code = code) {k : Nat} {i : Int} {x : Int32} {l' : Array Slot} (hd : own_at code pc (.iinc k i) 3 pc') (hl : Ls[k]? = some (.val (.int x))) (hl' : storeLocals Ls k (.int (x + Int32.ofInt i)) = some l')
    (h : own_Fin p.tables e below Rr (T.setTop (mkF m pc' l' (st)))) : own_Fin p.tables e below Rr (T.setTop (mkF m pc Ls (st))) := by
  obtain ⟨hd, rfl⟩ := hd; subst hby
  exact own_pre (fun t k => XS.iinc X.here hx rfl hd hl hl' k) h
theorem o_dup (X : Stand p l e R s m args below meth c T locs cells slots) (hx : p.tables.exec = Jvm.exec) (hby : c.code = code) {v : Value} (hd : own_at code pc (.dup) 1 pc') (hv : v.category = 1)
    (h : own_Fin p.tables e below Rr (T.setTop (mkF m pc' Ls (v :: v :: st)))) : own_Fin p.tables e below Rr (T.setTop (mkF m pc Ls (v :: st))) := by
  obtain ⟨hd, rfl⟩ := hd; subst hby
  exact own_pre (fun t k => XS.dup X.here hx rfl hd rfl hv k) h
theorem o_pop (X : Stand p l e R s m args below meth c T locs cells slots) (hx : p.tables.exec = Jvm.exec) (hby : c.code = code) {v : Value} (hd : own_at code pc (.pop) 1 pc') (hv : v.category = 1)
    (h : own_Fin p.tables e below Rr (T.setTop (mkF m pc' Ls (st)))) : own_Fin p.tables e below Rr (T.setTop (mkF m pc Ls (v :: st))) := by
  obtain ⟨hd, rfl⟩ := hd; subst hby
  exact own_pre (fun t k => XS.pop X.here hx rfl hd rfl hv k) h
theorem o_dupX1 (X : Stand p l e R s m args below meth c T locs cells slots) (hx : p.tables.exec = Jvm.exec) (hby : c.code = code) {v w : Value} (hd : own_at code pc (.dup_x1) 1 pc') (hv : v.category = 1) (hw : w.category = 1)
    (h : own_Fin p.tables e below Rr (T.setTop (mkF m pc' Ls (v :: w :: v :: st)))) : own_Fin p.tables e below Rr (T.setTop (mkF m pc Ls (v :: w :: st))) := by
  obtain ⟨hd, rfl⟩ := hd; subst hby
  exact own_pre (fun t k => XS.dupX1 X.here hx rfl hd rfl hv hw k) h
theorem o_goto (X : Stand p l e R s m args below meth c T locs cells slots) (hx : p.tables.exec = Jvm.exec) (hby : c.code = code) {o : Int} {q : Nat} (hd : own_at code pc (.goto o) 3 pc') (ho : 0 ≤ (pc : Int) + o) (hp : ((pc : Int) + o).toNat = q)
    (h : own_Fin p.tables e below Rr (T.setTop (mkF m q Ls st))) : own_Fin p.tables e below Rr (T.setTop (mkF m pc Ls st)) := by
  obtain ⟨hd, rfl⟩ := hd; subst hby
  exact own_pre (fun t k => XS.goto X.here hx rfl (pc0 := pc) (pc' := q) rfl hd ho hp k) h
theorem o_ifY (X : Stand p l e R s m args below meth c T locs cells slots) (hx : p.tables.exec = Jvm.exec) (hby : c.code = code) {cd : ClassFile.Cond} {o : Int} {x : Int32} {q : Nat} (hd : own_at code pc (.ifCond cd o) 3 pc') (hc : ifCond.holds cd x = true) (ho : 0 ≤ (pc : Int) + o) (hp : ((pc : Int) + o).toNat = q)
    (h : own_Fin p.tables e below Rr (T.setTop (mkF m q Ls st))) : own_Fin p.tables e below Rr (T.setTop (mkF m pc Ls (.int x :: st))) := by
  obtain ⟨hd, rfl⟩ := hd; subst hby
  exact own_pre (fun t k => XS.ifYes X.here hx rfl (pc0 := pc) (pc' := q) rfl hd rfl hc ho hp k) h
theorem o_ifN (X : Stand p l e R s m args below meth c T locs cells slots) (hx : p.tables.exec = Jvm.exec) (hby : c.code = code) {cd : ClassFile.Cond} {o : Int} {x : Int32} (hd : own_at code pc (.ifCond cd o) 3 pc') (hc : ifCond.holds cd x = false)
    (h : own_Fin p.tables e below Rr (T.setTop (mkF m pc' Ls st))) : own_Fin p.tables e below Rr (T.setTop (mkF m pc Ls (.int x :: st))) := by
  obtain ⟨hd, rfl⟩ := hd; subst hby
  exact own_pre (fun t k => XS.ifNo X.here hx rfl hd rfl hc k) h
theorem o_icmpY (X : Stand p l e R s m args below meth c T locs cells slots) (hx : p.tables.exec = Jvm.exec) (hby : c.code = code) {cd : ClassFile.Cond} {o : Int} {x y : Int32} {q : Nat} (hd : own_at code pc (.if_icmp cd o) 3 pc') (hc : if_icmp.holds cd x y = true) (ho : 0 ≤ (pc : Int) + o) (hp : ((pc : Int) + o).toNat = q)
    (h : own_Fin p.tables e below Rr (T.setTop (mkF m q Ls st))) : own_Fin p.tables e below Rr (T.setTop (mkF m pc Ls (.int y :: .int x :: st))) := by
  obtain ⟨hd, rfl⟩ := hd; subst hby
  exact own_pre (fun t k => XS.icmpYes X.here hx rfl (pc0 := pc) (pc' := q) rfl hd rfl hc ho hp k) h
theorem o_icmpN (X : Stand p l e R s m args below meth c T locs cells slots) (hx : p.tables.exec = Jvm.exec) (hby : c.code = code) {cd : ClassFile.Cond} {o : Int} {x y : Int32} (hd : own_at code pc (.if_icmp cd o) 3 pc') (hc : if_icmp.holds cd x y = false)
    (h : own_Fin p.tables e below Rr (T.setTop (mkF m pc' Ls st))) : own_Fin p.tables e below Rr (T.setTop (mkF m pc Ls (.int y :: .int x :: st))) := by
  obtain ⟨hd, rfl⟩ := hd; subst hby
  exact own_pre (fun t k => XS.icmpNo X.here hx rfl hd rfl hc k) h
theorem o_ldc (X : Stand p l e R s m args below meth c T locs cells slots) (hx : p.tables.exec = Jvm.exec) (hby : c.code = code) {own : String} {index : Nat} {v : Int32} (hown : s.vm.findClass own = some m.cls) (hc : (Cond.constant own index v).before args s = true) (hd : own_at code pc (.ldc index) 2 pc')
    (h : own_Fin p.tables e below Rr (T.setTop (mkF m pc' Ls (.int v :: st)))) : own_Fin p.tables e below Rr (T.setTop (mkF m pc Ls st)) := by
  obtain ⟨hd, rfl⟩ := hd; subst hby
  exact own_pre (fun t k => X.ldcInt hx hown hc (g := mkF m pc Ls st) rfl hd t k) h
theorem o_ldc2 (X : Stand p l e R s m args below meth c T locs cells slots) (hx : p.tables.exec = Jvm.exec) (hby : c.code = code) {own : String} {index : Nat} {v : Int64} (hown : s.vm.findClass own = some m.cls) (hc : (Cond.constantLong own index v).before args s = true) (hd : own_at code pc (.ldc2_w index) 3 pc')
    (h : own_Fin p.tables e below Rr (T.setTop (mkF m pc' Ls (.long v :: st)))) : own_Fin p.tables e below Rr (T.setTop (mkF m pc Ls st)) := by
  obtain ⟨hd, rfl⟩ := hd; subst hby
  exact own_pre (fun t k => X.ldc2Long hx hown hc (g := mkF m pc Ls st) rfl hd t k) h
end Steps1

end New
end Jvm.RoadKit
namespace Jvm.Pilot.@@N@@
open Jvm Jvm.ClassFile Sem Op Lib Jvm.Free Jvm.Stand Jvm.LawKit Jvm.RoadKit Bundle Jvm.Pilot.@@N@@.Jvm.D
theorem own_wd {Z : State} {a0 : Array Value} (hw : ∀ d ∈ tables_1, d.before a0 Z = true) {i : Nat} {d : Jvm.Cond} (h : tables_1[i]? = some d) : d.before a0 Z = true := hw _ (List.mem_of_getElem? h)
def own_Q0 (n0 : Nat) (v : Option Value) (h : Heap) (L : List Loc) : Prop := v = some (.int 1) ∧ Fr n0 L

def own_l8 (c : Int32) : Int32 := nar .byte ((c).toInt8.toInt32)
def own_lo (c : Int32) : Int32 := nar .byte (((c >>> ((0 : Int32) &&& 31))).toInt8.toInt32)
def own_hi (c : Int32) : Int32 := nar .byte (((c >>> ((8 : Int32) &&& 31))).toInt8.toInt32)
def own_gc (c : Int32) : Int32 := nar .char ((((((own_lo c) &&& (255 : Int32)) <<< ((0 : Int32) &&& 31)) ||| (((own_hi c) &&& (255 : Int32)) <<< ((8 : Int32) &&& 31)))).toUInt32.toUInt16.toUInt32.toInt32)
def own_ch16 (c : Int32) : Prop := 0 ≤ c.toInt ∧ c.toInt < 65536
theorem own_ext {x y : Int32} (h : ∀ i, i < 32 → x.toBitVec.getLsbD i = y.toBitVec.getLsbD i) : x = y := by
  apply Int32.toBitVec_inj.mp
  exact BitVec.eq_of_getLsbD_eq h
theorem own_i8 (x : Int32) : nar .byte ((x).toInt8.toInt32) = x.toInt8.toInt32 := by
  show x.toInt8.toInt32.toInt8.toInt32 = x.toInt8.toInt32
  rw [Int8.toInt8_toInt32]
theorem own_byte (x : Int32) : (nar .byte ((x).toInt8.toInt32)) &&& (255 : Int32) = x &&& (255 : Int32) := by
  rw [own_i8]
  apply own_ext
  intro i hi
  have k : (255 : Int32).toBitVec = 255#32 := rfl
  rw [Int32.toBitVec_and, Int32.toBitVec_and, k, BitVec.getLsbD_and, BitVec.getLsbD_and]
  by_cases h8 : i < 8
  · have e : (x.toInt8.toInt32).toBitVec = (x.toBitVec.signExtend 8).signExtend 32 := by
      rw [Int8.toBitVec_toInt32, Int32.toBitVec_toInt8]
    rw [e, BitVec.getLsbD_signExtend, BitVec.getLsbD_signExtend]
    simp [h8, hi]
  · have z : (255#32).getLsbD i = false := by
      have : ∀ j : Fin 32, ¬ j.val < 8 → (255#32).getLsbD j.val = false := by decide
      exact this ⟨i, hi⟩ h8
    rw [z, Bool.and_false, Bool.and_false]
def own_ST (Z : State) (cs : Int32) (vf : Value) : Prop := Sta Z Z.heap "java/lang/String" "COMPACT_STRINGS" "Z" (.int cs) ∧ Sta Z Z.heap "java/lang/StringUTF16" "$assertionsDisabled" "Z" (.int (1 : Int32)) ∧ Sta Z Z.heap "java/lang/StringUTF16" "HI_BYTE_SHIFT" "I" (.int (0 : Int32)) ∧ Sta Z Z.heap "java/lang/StringUTF16" "LO_BYTE_SHIFT" "I" (.int (8 : Int32)) ∧ Sta Z Z.heap "jdk/internal/util/Preconditions" "SIOOBE_FORMATTER" "Ljava/util/function/BiFunction;" vf ∧ (¬ cs = (0 : Int32)) ∧ vf.isRef = true

theorem own_c16 (y : Int32) : nar .char y = y &&& (65535 : Int32) := by
  show y.toUInt32.toUInt16.toUInt32.toInt32 = _
  apply own_ext
  intro i hi
  have k : (65535 : Int32).toBitVec = 65535#32 := rfl
  have e : (y.toUInt32.toUInt16.toUInt32.toInt32).toBitVec = (y.toBitVec.setWidth 16).setWidth 32 := rfl
  rw [e, Int32.toBitVec_and, k, BitVec.getLsbD_and, BitVec.getLsbD_setWidth, BitVec.getLsbD_setWidth]
  have z : ∀ j : Fin 32, (65535#32).getLsbD j.val = decide (j.val < 16) := by decide
  rw [z ⟨i, hi⟩]
  by_cases h : i < 16 <;> simp [h, hi]
theorem own_n16 (y : Int32) : own_ch16 (nar .char y) := by
  have e1 : (y &&& 65535).toInt = y.toInt % 2 ^ 16 := Jvm.Kit.i32_mask y 65535 (k := 16) (by decide) (by decide)
  unfold own_ch16
  rw [own_c16, e1]; omega
theorem own_nc {c : Int32} (h : own_ch16 c) : nar .char c = c := by
  have e1 : (c &&& 65535).toInt = c.toInt % 2 ^ 16 := Jvm.Kit.i32_mask c 65535 (k := 16) (by decide) (by decide)
  obtain ⟨h1, h2⟩ := h
  rw [own_c16, ← Int32.toInt_inj, e1]; omega
theorem own_hib {c : Int32} (h : own_ch16 c) {i : Nat} (h16 : 16 ≤ i) : c.toBitVec.getLsbD i = false := by
  have e := own_nc h
  rw [own_c16] at e
  have k : (65535 : Int32).toBitVec = 65535#32 := rfl
  by_cases hi : i < 32
  · have z : ∀ j : Fin 32, (65535#32).getLsbD j.val = decide (j.val < 16) := by decide
    rw [← e, Int32.toBitVec_and, k, BitVec.getLsbD_and, z ⟨i, hi⟩]
    simp; omega
  · exact BitVec.getLsbD_of_ge _ _ (by omega)
theorem own_gcEq {c : Int32} (h : own_ch16 c) : own_gc c = c := by
  have e0 : own_lo c &&& (255 : Int32) = c &&& (255 : Int32) := by
    rw [own_lo, own_byte]
    have : c >>> ((0 : Int32) &&& 31) = c := by
      apply Int32.toBitVec_inj.mp
      show c.toBitVec.sshiftRight' _ = _
      simp [BitVec.sshiftRight', BitVec.sshiftRight_zero]
    rw [this]
  have e1 : own_hi c &&& (255 : Int32) = (c >>> ((8 : Int32) &&& 31)) &&& (255 : Int32) := by rw [own_hi, own_byte]
  rw [own_gc, e0, e1]
  show nar .char (nar .char _) = c
  rw [own_nc (own_n16 _), own_c16]
  apply own_ext
  intro i hi
  have k : (65535 : Int32).toBitVec = 65535#32 := rfl
  have k2 : (255 : Int32).toBitVec = 255#32 := rfl
  have z : ∀ j : Fin 32, (65535#32).getLsbD j.val = decide (j.val < 16) := by decide
  have z2 : ∀ j : Fin 32, (255#32).getLsbD j.val = decide (j.val < 8) := by decide
  have s0 : ∀ x : Int32, (x <<< ((0 : Int32) &&& 31)).toBitVec = x.toBitVec := fun x => by
    show x.toBitVec <<< (_ : BitVec 32) = _
    simp
  have s8 : ∀ x : Int32, (x <<< ((8 : Int32) &&& 31)).toBitVec = x.toBitVec <<< (8 : Nat) := fun x => by
    show x.toBitVec <<< (_ : BitVec 32) = _
    rfl
  have r8 : (c >>> ((8 : Int32) &&& 31)).toBitVec = c.toBitVec.sshiftRight 8 := by
    show c.toBitVec.sshiftRight' _ = _
    rfl
  rw [Int32.toBitVec_and, k, BitVec.getLsbD_and, z ⟨i, hi⟩, Int32.toBitVec_or, BitVec.getLsbD_or, s0, s8, Int32.toBitVec_and, Int32.toBitVec_and, k2, r8, BitVec.getLsbD_and, z2 ⟨i, hi⟩, BitVec.getLsbD_shiftLeft, BitVec.getLsbD_and, BitVec.getLsbD_sshiftRight]
  by_cases h8 : i < 8
  · have h16 : i < 16 := by omega
    simp [h8, h16]
  · by_cases h16 : i < 16
    · have h24 : i - 8 < 32 := by omega
      rw [z2 ⟨i - 8, h24⟩]
      have a1 : i - 8 < 8 := by omega
      have a2 : 8 + (i - 8) = i := by omega
      simp [h8, h16, hi, a1, a2, h24]
    · rw [own_hib h (by omega)]
      simp [h16]
theorem D22_0 : own_at jdk_52_method_3_code 0 (.iload_n 0) 1 1 := ⟨by decide +kernel, rfl⟩
theorem D22_1 : own_at jdk_52_method_3_code 1 (.ifCond .ge 11) 3 4 := ⟨by decide +kernel, rfl⟩
theorem D22_12 : own_at jdk_52_method_3_code 12 (.iload_n 0) 1 13 := ⟨by decide +kernel, rfl⟩
theorem D22_13 : own_at jdk_52_method_3_code 13 (.ldc 20) 2 15 := ⟨by decide +kernel, rfl⟩
theorem D22_15 : own_at jdk_52_method_3_code 15 (.if_icmp .lt 40) 3 18 := ⟨by decide +kernel, rfl⟩
theorem D22_55 : own_at jdk_52_method_3_code 55 (.iload_n 0) 1 56 := ⟨by decide +kernel, rfl⟩
theorem D22_56 : own_at jdk_52_method_3_code 56 (.iconst 1) 1 57 := ⟨by decide +kernel, rfl⟩
theorem D22_57 : own_at jdk_52_method_3_code 57 (.ishl) 1 58 := ⟨by decide +kernel, rfl⟩
theorem D22_58 : own_at jdk_52_method_3_code 58 (.ireturn) 1 59 := ⟨by decide +kernel, rfl⟩
theorem pn_java_lang_StringUTF16 : plainName "java/lang/StringUTF16" = true := by first | (simp [plainName, overriddenIn]; done) | decide +kernel
theorem ef_rs_nbl1 (m : MethodId)  : entryFrame m #[(.int (1 : Int32))] 1 = mkF m 0 #[.val (.int (1 : Int32))] [] := by first | (simp [entryFrame, mkF, argsToLocals, Value.category]; done) | rfl
set_option maxRecDepth 65536 in
set_option maxHeartbeats 40000000 in
theorem rs_nbl1 (l : Launch) (Z : State) (a0 : Array Value) (hw : ∀ d ∈ tables_1, d.before a0 Z = true) (ws : List Jvm.Cond)   (h0 : Heap) (n0 : Nat) (Z0 : n0 ≤ h0.size)  :
    MetFree l (⟨"java/lang/StringUTF16", "newBytesLength", "(I)I"⟩ : MethodName) (head1 (Jvm.Cond.code (⟨"java/lang/StringUTF16", "newBytesLength", "(I)I"⟩ : MethodName) jdk_52_method_3_code 1 (some .int) :: ws) ({ frames := 0, cells := 0, slots := 0, locals := 0 } : Room)) (fun a U => a = #[(.int (1 : Int32))] ∧ Z.Warmed39 U.vm ∧ U.heap = h0) (fun _ _ _ _ _ => True) (fun _ U o U' => ∃ v L, o = .returned v ∧ own_QP (.int (2 : Int32)) h0 n0 v U'.heap L ∧ FrameEnd U o U' L ({ frames := 0, cells := 0, slots := 0, locals := 0 } : Room).cells ({ frames := 0, cells := 0, slots := 0, locals := 0 } : Room).slots) := by
  refine MetFree.of_bodySF (plainFor_of_name pn_java_lang_StringUTF16) hisR ?_
  intro p e s m args below meth c s₁ Bd hml0 hP hK
  obtain ⟨rfl, hZ, hh⟩ := hP
  have hx := Bd.exec
  have hby := Bd.bytes
  have hml : c.maxLocals = 1 := hml0
  have hown : s.vm.findClass "java/lang/StringUTF16" = some m.cls := findClass_of_methodNamed Bd.named
  have hnm := (name_of_methodNamed Bd.named Bd.method).1
  have X0 : Stand p l e ({ frames := 0, cells := 0, slots := 0, locals := 0 } : Room) s m #[(.int (1 : Int32))] below meth c s₁ [] 0 0 := Stand.of_body Bd
  have e0 : s₁.heap = h0 := by rw [← hh, Bd.state]; rfl
  have N0 := Fr.nil n0
  refine own_start (ef_rs_nbl1 m ) ?_
  refine o_iloadN X0 hx hby D22_0 rfl ?_
  refine o_ifY X0 hx hby D22_1 ((if0 _ _).trans (flt (by decide : ¬ ((1 : Int32) < (0 : Int32)))).2.1) (q := 12) (by decide) (by decide) ?_
  refine o_iloadN X0 hx hby D22_12 rfl ?_
  refine o_ldc X0 hx hby hown (mvT hZ (own_wd hw (i := 96) rfl)) D22_13 ?_
  refine o_icmpY X0 hx hby D22_15 (tlt (by decide : (1 : Int32) < (1073741823 : Int32))).1 (q := 55) (by decide) (by decide) ?_
  refine o_iloadN X0 hx hby D22_55 rfl ?_
  refine o_iconst X0 hx hby D22_56 (v := 1) rfl ?_
  refine o_ishl X0 hx hby D22_57 ?_
  rw [(by decide : ((1 : Int32) <<< ((1 : Int32) &&& 31)) = (2 : Int32))]
  exact own_ret (v := some (.int (2 : Int32))) X0 (fun h => by first | rfl | (rw [Bd.returns] at h; cases h)) (BodyLoose.notSynchronized Bd) (by decide) (by decide) (⟨rfl, N0, e0⟩) (fun fs hr => retI X0 hx Bd.returns (hb hby D22_58.1) hr)
def own_QNb1 (Z : State) (h0 : Heap) (n0 : Nat) (v : Option Value) (h : Heap) (L : List Loc) : Prop := ∃ (r : Nat) (kr : ClassId), v = some (.ref r) ∧ Fr n0 L ∧ Keep h0 h [] ∧ h0.size ≤ r ∧ Arv Z h r kr .byte (2 : Int32) [(.int (0 : Int32)), (.int (0 : Int32))] (.int (0 : Int32))
theorem pd__40I_41I : parseMethodDescriptor "(I)I" = some ⟨[.int], some .int⟩ := by decide +kernel
theorem D21_0 : own_at jdk_52_method_2_code 0 (.iload_n 0) 1 1 := ⟨by decide +kernel, rfl⟩
theorem D21_1 : own_at jdk_52_method_2_code 1 (.invokestatic 11) 3 4 := ⟨by decide +kernel, rfl⟩
theorem D21_4 : own_at jdk_52_method_2_code 4 (.newarray .byte) 2 6 := ⟨by decide +kernel, rfl⟩
theorem D21_6 : own_at jdk_52_method_2_code 6 (.areturn) 1 7 := ⟨by decide +kernel, rfl⟩
theorem ef_rs_nbf1 (m : MethodId)  : entryFrame m #[(.int (1 : Int32))] 1 = mkF m 0 #[.val (.int (1 : Int32))] [] := by first | (simp [entryFrame, mkF, argsToLocals, Value.category]; done) | rfl
set_option maxRecDepth 65536 in
set_option maxHeartbeats 40000000 in
theorem rs_nbf1 (l : Launch) (Z : State) (a0 : Array Value) (hw : ∀ d ∈ tables_1, d.before a0 Z = true) (ws : List Jvm.Cond)   (h0 : Heap) (n0 : Nat) (Z0 : n0 ≤ h0.size)  :
    MetFree l (⟨"java/lang/StringUTF16", "newBytesFor", "(I)[B"⟩ : MethodName) (head1 (Jvm.Cond.code (⟨"java/lang/StringUTF16", "newBytesFor", "(I)[B"⟩ : MethodName) jdk_52_method_2_code 1 (some (.array .byte)) :: ws) ({ frames := 1, cells := 1, slots := 2, locals := 12 } : Room)) (fun a U => a = #[(.int (1 : Int32))] ∧ Z.Warmed39 U.vm ∧ U.heap = h0) (fun _ _ _ _ _ => True) (fun _ U o U' => ∃ v L, o = .returned v ∧ own_QNb1 Z h0 n0 v U'.heap L ∧ FrameEnd U o U' L ({ frames := 1, cells := 1, slots := 2, locals := 12 } : Room).cells ({ frames := 1, cells := 1, slots := 2, locals := 12 } : Room).slots) := by
  refine MetFree.of_bodySF (plainFor_of_name pn_java_lang_StringUTF16) hisR ?_
  intro p e s m args below meth c s₁ Bd hml0 hP hK
  obtain ⟨rfl, hZ, hh⟩ := hP
  have hx := Bd.exec
  have hby := Bd.bytes
  have hml : c.maxLocals = 1 := hml0
  have hown : s.vm.findClass "java/lang/StringUTF16" = some m.cls := findClass_of_methodNamed Bd.named
  have hnm := (name_of_methodNamed Bd.named Bd.method).1
  have X0 : Stand p l e ({ frames := 1, cells := 1, slots := 2, locals := 12 } : Room) s m #[(.int (1 : Int32))] below meth c s₁ [] 0 0 := Stand.of_body Bd
  have e0 : s₁.heap = h0 := by rw [← hh, Bd.state]; rfl
  have N0 := Fr.nil n0
  refine own_start (ef_rs_nbf1 m ) ?_
  refine o_iloadN X0 hx hby D21_0 rfl ?_
  obtain ⟨_, _, ⟨T1, L1, k1, n1⟩, -, X1, ⟨Lc1, hQ1, l1, y1, z1⟩, st1⟩ := Jvm.LawKit.callS X0 hx (y := (⟨"java/lang/StringUTF16", "newBytesLength", "(I)I"⟩ : MethodName)) hown (mvT hZ (own_wd hw (i := 93) rfl)) (mvT hZ (own_wd hw (i := 94) rfl)) (mvT hZ (own_wd hw (i := 72) rfl)) (mvT hZ (own_wd hw (i := 95) rfl)) (by decide) (backOf (W := 0) (rs_nbl1 l Z a0 hw []  h0 n0 Z0) hZ (own_wd hw (i := 95) rfl) (own_wd hw (i := 72) rfl) (by decide) (by decide)) (g := (mkF m 1 #[.val (.int (1 : Int32))] [(.int (1 : Int32))])) rfl (by rw [hml]; rfl) (argsL := [(.int (1 : Int32))]) (rest := []) (lenOf pd__40I_41I rfl) rfl (by show 2 * 0 + _ ≤ _; exact Nat.le_of_eq rfl) (hb hby D21_1.1) (fun _ _ => ⟨rfl, e0, (by decide : 0 + 0 ≤ _), (by decide : 0 + 0 ≤ _)⟩)
  dsimp only [Pt.U, Pt.locs, Pt.cells, Pt.slots] at X1 l1 y1 z1 st1 hQ1
  subst l1 y1 z1
  obtain ⟨rfl, N1q, e1⟩ := hQ1
  have N1 := Fr.app N0 N1q
  refine own_pre (A' := T1.setTop (mkF m 4 #[.val (.int (1 : Int32))] [(.int (2 : Int32))])) st1 ?_
  obtain ⟨T2, h2, k2, X2, e2, E2, A2, Ex2, st2⟩ := newPE X1 hx hZ (own_wd hw (i := 19) rfl) e1 (g := (mkF m 4 #[.val (.int (1 : Int32))] [(.int (2 : Int32))])) rfl (hb hby D21_4.1) rfl (by decide) (cap := 2) (by decide) (by decide) (by decide) (by decide) (ad := "[B") (by first | rfl | decide)
  obtain ⟨b2, g2⟩ : ∃ z : Nat, z = h0.size := ⟨_, rfl⟩
  rw [← g2] at A2 Ex2 st2
  have sz2 := own_leN E2.1
  have gn_b2 : n0 ≤ b2 := by omega
  have V_b2 : Arv Z h2 b2 k2 .byte (2 : Int32) [(.int (0 : Int32)), (.int (0 : Int32))] (.int (0 : Int32)) := (Arv.new A2 (by decide)).pad (pad_rep [] (.int (0 : Int32)) 2)
  have lt_b2 := own_ltN V_b2.lt
  refine own_pre (A' := T2.setTop (mkF m 6 #[.val (.int (1 : Int32))] [(.ref b2)])) st2 ?_
  have KK : Keep h0 h2 [] := ((Keep.refl h0 []).ext E2)
  exact own_ret (v := some (.ref b2)) X2 (fun h => by first | rfl | (rw [Bd.returns] at h; cases h)) (BodyLoose.notSynchronized Bd) (by decide) (by decide) (by rw [e2]; exact ⟨b2, k2, rfl, N1, KK, own_leN (by omega), V_b2⟩) (fun fs hr => retOut X2 hx Bd.returns rfl (Or.inr (Or.inr (Or.inr (Or.inr ⟨rfl, rfl, rfl⟩)))) (hb hby D21_6.1) hr)
theorem ef_rs_nbl2 (m : MethodId)  : entryFrame m #[(.int (2 : Int32))] 1 = mkF m 0 #[.val (.int (2 : Int32))] [] := by first | (simp [entryFrame, mkF, argsToLocals, Value.category]; done) | rfl
set_option maxRecDepth 65536 in
set_option maxHeartbeats 40000000 in
theorem rs_nbl2 (l : Launch) (Z : State) (a0 : Array Value) (hw : ∀ d ∈ tables_1, d.before a0 Z = true) (ws : List Jvm.Cond)   (h0 : Heap) (n0 : Nat) (Z0 : n0 ≤ h0.size)  :
    MetFree l (⟨"java/lang/StringUTF16", "newBytesLength", "(I)I"⟩ : MethodName) (head1 (Jvm.Cond.code (⟨"java/lang/StringUTF16", "newBytesLength", "(I)I"⟩ : MethodName) jdk_52_method_3_code 1 (some .int) :: ws) ({ frames := 0, cells := 0, slots := 0, locals := 0 } : Room)) (fun a U => a = #[(.int (2 : Int32))] ∧ Z.Warmed39 U.vm ∧ U.heap = h0) (fun _ _ _ _ _ => True) (fun _ U o U' => ∃ v L, o = .returned v ∧ own_QP (.int (4 : Int32)) h0 n0 v U'.heap L ∧ FrameEnd U o U' L ({ frames := 0, cells := 0, slots := 0, locals := 0 } : Room).cells ({ frames := 0, cells := 0, slots := 0, locals := 0 } : Room).slots) := by
  refine MetFree.of_bodySF (plainFor_of_name pn_java_lang_StringUTF16) hisR ?_
  intro p e s m args below meth c s₁ Bd hml0 hP hK
  obtain ⟨rfl, hZ, hh⟩ := hP
  have hx := Bd.exec
  have hby := Bd.bytes
  have hml : c.maxLocals = 1 := hml0
  have hown : s.vm.findClass "java/lang/StringUTF16" = some m.cls := findClass_of_methodNamed Bd.named
  have hnm := (name_of_methodNamed Bd.named Bd.method).1
  have X0 : Stand p l e ({ frames := 0, cells := 0, slots := 0, locals := 0 } : Room) s m #[(.int (2 : Int32))] below meth c s₁ [] 0 0 := Stand.of_body Bd
  have e0 : s₁.heap = h0 := by rw [← hh, Bd.state]; rfl
  have N0 := Fr.nil n0
  refine own_start (ef_rs_nbl2 m ) ?_
  refine o_iloadN X0 hx hby D22_0 rfl ?_
  refine o_ifY X0 hx hby D22_1 ((if0 _ _).trans (flt (by decide : ¬ ((2 : Int32) < (0 : Int32)))).2.1) (q := 12) (by decide) (by decide) ?_
  refine o_iloadN X0 hx hby D22_12 rfl ?_
  refine o_ldc X0 hx hby hown (mvT hZ (own_wd hw (i := 96) rfl)) D22_13 ?_
  refine o_icmpY X0 hx hby D22_15 (tlt (by decide : (2 : Int32) < (1073741823 : Int32))).1 (q := 55) (by decide) (by decide) ?_
  refine o_iloadN X0 hx hby D22_55 rfl ?_
  refine o_iconst X0 hx hby D22_56 (v := 1) rfl ?_
  refine o_ishl X0 hx hby D22_57 ?_
  rw [(by decide : ((2 : Int32) <<< ((1 : Int32) &&& 31)) = (4 : Int32))]
  exact own_ret (v := some (.int (4 : Int32))) X0 (fun h => by first | rfl | (rw [Bd.returns] at h; cases h)) (BodyLoose.notSynchronized Bd) (by decide) (by decide) (⟨rfl, N0, e0⟩) (fun fs hr => retI X0 hx Bd.returns (hb hby D22_58.1) hr)
def own_QNb2 (Z : State) (h0 : Heap) (n0 : Nat) (v : Option Value) (h : Heap) (L : List Loc) : Prop := ∃ (r : Nat) (kr : ClassId), v = some (.ref r) ∧ Fr n0 L ∧ Keep h0 h [] ∧ h0.size ≤ r ∧ Arv Z h r kr .byte (4 : Int32) [(.int (0 : Int32)), (.int (0 : Int32)), (.int (0 : Int32)), (.int (0 : Int32))] (.int (0 : Int32))
theorem ef_rs_nbf2 (m : MethodId)  : entryFrame m #[(.int (2 : Int32))] 1 = mkF m 0 #[.val (.int (2 : Int32))] [] := by first | (simp [entryFrame, mkF, argsToLocals, Value.category]; done) | rfl
set_option maxRecDepth 65536 in
set_option maxHeartbeats 40000000 in
theorem rs_nbf2 (l : Launch) (Z : State) (a0 : Array Value) (hw : ∀ d ∈ tables_1, d.before a0 Z = true) (ws : List Jvm.Cond)   (h0 : Heap) (n0 : Nat) (Z0 : n0 ≤ h0.size)  :
    MetFree l (⟨"java/lang/StringUTF16", "newBytesFor", "(I)[B"⟩ : MethodName) (head1 (Jvm.Cond.code (⟨"java/lang/StringUTF16", "newBytesFor", "(I)[B"⟩ : MethodName) jdk_52_method_2_code 1 (some (.array .byte)) :: ws) ({ frames := 1, cells := 1, slots := 4, locals := 12 } : Room)) (fun a U => a = #[(.int (2 : Int32))] ∧ Z.Warmed39 U.vm ∧ U.heap = h0) (fun _ _ _ _ _ => True) (fun _ U o U' => ∃ v L, o = .returned v ∧ own_QNb2 Z h0 n0 v U'.heap L ∧ FrameEnd U o U' L ({ frames := 1, cells := 1, slots := 4, locals := 12 } : Room).cells ({ frames := 1, cells := 1, slots := 4, locals := 12 } : Room).slots) := by
  refine MetFree.of_bodySF (plainFor_of_name pn_java_lang_StringUTF16) hisR ?_
  intro p e s m args below meth c s₁ Bd hml0 hP hK
  obtain ⟨rfl, hZ, hh⟩ := hP
  have hx := Bd.exec
  have hby := Bd.bytes
  have hml : c.maxLocals = 1 := hml0
  have hown : s.vm.findClass "java/lang/StringUTF16" = some m.cls := findClass_of_methodNamed Bd.named
  have hnm := (name_of_methodNamed Bd.named Bd.method).1
  have X0 : Stand p l e ({ frames := 1, cells := 1, slots := 4, locals := 12 } : Room) s m #[(.int (2 : Int32))] below meth c s₁ [] 0 0 := Stand.of_body Bd
  have e0 : s₁.heap = h0 := by rw [← hh, Bd.state]; rfl
  have N0 := Fr.nil n0
  refine own_start (ef_rs_nbf2 m ) ?_
  refine o_iloadN X0 hx hby D21_0 rfl ?_
  obtain ⟨_, _, ⟨T1, L1, k1, n1⟩, -, X1, ⟨Lc1, hQ1, l1, y1, z1⟩, st1⟩ := Jvm.LawKit.callS X0 hx (y := (⟨"java/lang/StringUTF16", "newBytesLength", "(I)I"⟩ : MethodName)) hown (mvT hZ (own_wd hw (i := 93) rfl)) (mvT hZ (own_wd hw (i := 94) rfl)) (mvT hZ (own_wd hw (i := 72) rfl)) (mvT hZ (own_wd hw (i := 95) rfl)) (by decide) (backOf (W := 0) (rs_nbl2 l Z a0 hw []  h0 n0 Z0) hZ (own_wd hw (i := 95) rfl) (own_wd hw (i := 72) rfl) (by decide) (by decide)) (g := (mkF m 1 #[.val (.int (2 : Int32))] [(.int (2 : Int32))])) rfl (by rw [hml]; rfl) (argsL := [(.int (2 : Int32))]) (rest := []) (lenOf pd__40I_41I rfl) rfl (by show 2 * 0 + _ ≤ _; exact Nat.le_of_eq rfl) (hb hby D21_1.1) (fun _ _ => ⟨rfl, e0, (by decide : 0 + 0 ≤ _), (by decide : 0 + 0 ≤ _)⟩)
  dsimp only [Pt.U, Pt.locs, Pt.cells, Pt.slots] at X1 l1 y1 z1 st1 hQ1
  subst l1 y1 z1
  obtain ⟨rfl, N1q, e1⟩ := hQ1
  have N1 := Fr.app N0 N1q
  refine own_pre (A' := T1.setTop (mkF m 4 #[.val (.int (2 : Int32))] [(.int (4 : Int32))])) st1 ?_
  obtain ⟨T2, h2, k2, X2, e2, E2, A2, Ex2, st2⟩ := newPE X1 hx hZ (own_wd hw (i := 19) rfl) e1 (g := (mkF m 4 #[.val (.int (2 : Int32))] [(.int (4 : Int32))])) rfl (hb hby D21_4.1) rfl (by decide) (cap := 4) (by decide) (by decide) (by decide) (by decide) (ad := "[B") (by first | rfl | decide)
  obtain ⟨b2, g2⟩ : ∃ z : Nat, z = h0.size := ⟨_, rfl⟩
  rw [← g2] at A2 Ex2 st2
  have sz2 := own_leN E2.1
  have gn_b2 : n0 ≤ b2 := by omega
  have V_b2 : Arv Z h2 b2 k2 .byte (4 : Int32) [(.int (0 : Int32)), (.int (0 : Int32)), (.int (0 : Int32)), (.int (0 : Int32))] (.int (0 : Int32)) := (Arv.new A2 (by decide)).pad (pad_rep [] (.int (0 : Int32)) 4)
  have lt_b2 := own_ltN V_b2.lt
  refine own_pre (A' := T2.setTop (mkF m 6 #[.val (.int (2 : Int32))] [(.ref b2)])) st2 ?_
  have KK : Keep h0 h2 [] := ((Keep.refl h0 []).ext E2)
  exact own_ret (v := some (.ref b2)) X2 (fun h => by first | rfl | (rw [Bd.returns] at h; cases h)) (BodyLoose.notSynchronized Bd) (by decide) (by decide) (by rw [e2]; exact ⟨b2, k2, rfl, N1, KK, own_leN (by omega), V_b2⟩) (fun fs hr => retOut X2 hx Bd.returns rfl (Or.inr (Or.inr (Or.inr (Or.inr ⟨rfl, rfl, rfl⟩)))) (hb hby D21_6.1) hr)
theorem ef_rs_nbl3 (m : MethodId)  : entryFrame m #[(.int (3 : Int32))] 1 = mkF m 0 #[.val (.int (3 : Int32))] [] := by first | (simp [entryFrame, mkF, argsToLocals, Value.category]; done) | rfl
set_option maxRecDepth 65536 in
set_option maxHeartbeats 40000000 in
theorem rs_nbl3 (l : Launch) (Z : State) (a0 : Array Value) (hw : ∀ d ∈ tables_1, d.before a0 Z = true) (ws : List Jvm.Cond)   (h0 : Heap) (n0 : Nat) (Z0 : n0 ≤ h0.size)  :
    MetFree l (⟨"java/lang/StringUTF16", "newBytesLength", "(I)I"⟩ : MethodName) (head1 (Jvm.Cond.code (⟨"java/lang/StringUTF16", "newBytesLength", "(I)I"⟩ : MethodName) jdk_52_method_3_code 1 (some .int) :: ws) ({ frames := 0, cells := 0, slots := 0, locals := 0 } : Room)) (fun a U => a = #[(.int (3 : Int32))] ∧ Z.Warmed39 U.vm ∧ U.heap = h0) (fun _ _ _ _ _ => True) (fun _ U o U' => ∃ v L, o = .returned v ∧ own_QP (.int (6 : Int32)) h0 n0 v U'.heap L ∧ FrameEnd U o U' L ({ frames := 0, cells := 0, slots := 0, locals := 0 } : Room).cells ({ frames := 0, cells := 0, slots := 0, locals := 0 } : Room).slots) := by
  refine MetFree.of_bodySF (plainFor_of_name pn_java_lang_StringUTF16) hisR ?_
  intro p e s m args below meth c s₁ Bd hml0 hP hK
  obtain ⟨rfl, hZ, hh⟩ := hP
  have hx := Bd.exec
  have hby := Bd.bytes
  have hml : c.maxLocals = 1 := hml0
  have hown : s.vm.findClass "java/lang/StringUTF16" = some m.cls := findClass_of_methodNamed Bd.named
  have hnm := (name_of_methodNamed Bd.named Bd.method).1
  have X0 : Stand p l e ({ frames := 0, cells := 0, slots := 0, locals := 0 } : Room) s m #[(.int (3 : Int32))] below meth c s₁ [] 0 0 := Stand.of_body Bd
  have e0 : s₁.heap = h0 := by rw [← hh, Bd.state]; rfl
  have N0 := Fr.nil n0
  refine own_start (ef_rs_nbl3 m ) ?_
  refine o_iloadN X0 hx hby D22_0 rfl ?_
  refine o_ifY X0 hx hby D22_1 ((if0 _ _).trans (flt (by decide : ¬ ((3 : Int32) < (0 : Int32)))).2.1) (q := 12) (by decide) (by decide) ?_
  refine o_iloadN X0 hx hby D22_12 rfl ?_
  refine o_ldc X0 hx hby hown (mvT hZ (own_wd hw (i := 96) rfl)) D22_13 ?_
  refine o_icmpY X0 hx hby D22_15 (tlt (by decide : (3 : Int32) < (1073741823 : Int32))).1 (q := 55) (by decide) (by decide) ?_
  refine o_iloadN X0 hx hby D22_55 rfl ?_
  refine o_iconst X0 hx hby D22_56 (v := 1) rfl ?_
  refine o_ishl X0 hx hby D22_57 ?_
  rw [(by decide : ((3 : Int32) <<< ((1 : Int32) &&& 31)) = (6 : Int32))]
  exact own_ret (v := some (.int (6 : Int32))) X0 (fun h => by first | rfl | (rw [Bd.returns] at h; cases h)) (BodyLoose.notSynchronized Bd) (by decide) (by decide) (⟨rfl, N0, e0⟩) (fun fs hr => retI X0 hx Bd.returns (hb hby D22_58.1) hr)
def own_QNb3 (Z : State) (h0 : Heap) (n0 : Nat) (v : Option Value) (h : Heap) (L : List Loc) : Prop := ∃ (r : Nat) (kr : ClassId), v = some (.ref r) ∧ Fr n0 L ∧ Keep h0 h [] ∧ h0.size ≤ r ∧ Arv Z h r kr .byte (6 : Int32) [(.int (0 : Int32)), (.int (0 : Int32)), (.int (0 : Int32)), (.int (0 : Int32)), (.int (0 : Int32)), (.int (0 : Int32))] (.int (0 : Int32))
theorem ef_rs_nbf3 (m : MethodId)  : entryFrame m #[(.int (3 : Int32))] 1 = mkF m 0 #[.val (.int (3 : Int32))] [] := by first | (simp [entryFrame, mkF, argsToLocals, Value.category]; done) | rfl
set_option maxRecDepth 65536 in
set_option maxHeartbeats 40000000 in
theorem rs_nbf3 (l : Launch) (Z : State) (a0 : Array Value) (hw : ∀ d ∈ tables_1, d.before a0 Z = true) (ws : List Jvm.Cond)   (h0 : Heap) (n0 : Nat) (Z0 : n0 ≤ h0.size)  :
    MetFree l (⟨"java/lang/StringUTF16", "newBytesFor", "(I)[B"⟩ : MethodName) (head1 (Jvm.Cond.code (⟨"java/lang/StringUTF16", "newBytesFor", "(I)[B"⟩ : MethodName) jdk_52_method_2_code 1 (some (.array .byte)) :: ws) ({ frames := 1, cells := 1, slots := 6, locals := 12 } : Room)) (fun a U => a = #[(.int (3 : Int32))] ∧ Z.Warmed39 U.vm ∧ U.heap = h0) (fun _ _ _ _ _ => True) (fun _ U o U' => ∃ v L, o = .returned v ∧ own_QNb3 Z h0 n0 v U'.heap L ∧ FrameEnd U o U' L ({ frames := 1, cells := 1, slots := 6, locals := 12 } : Room).cells ({ frames := 1, cells := 1, slots := 6, locals := 12 } : Room).slots) := by
  refine MetFree.of_bodySF (plainFor_of_name pn_java_lang_StringUTF16) hisR ?_
  intro p e s m args below meth c s₁ Bd hml0 hP hK
  obtain ⟨rfl, hZ, hh⟩ := hP
  have hx := Bd.exec
  have hby := Bd.bytes
  have hml : c.maxLocals = 1 := hml0
  have hown : s.vm.findClass "java/lang/StringUTF16" = some m.cls := findClass_of_methodNamed Bd.named
  have hnm := (name_of_methodNamed Bd.named Bd.method).1
  have X0 : Stand p l e ({ frames := 1, cells := 1, slots := 6, locals := 12 } : Room) s m #[(.int (3 : Int32))] below meth c s₁ [] 0 0 := Stand.of_body Bd
  have e0 : s₁.heap = h0 := by rw [← hh, Bd.state]; rfl
  have N0 := Fr.nil n0
  refine own_start (ef_rs_nbf3 m ) ?_
  refine o_iloadN X0 hx hby D21_0 rfl ?_
  obtain ⟨_, _, ⟨T1, L1, k1, n1⟩, -, X1, ⟨Lc1, hQ1, l1, y1, z1⟩, st1⟩ := Jvm.LawKit.callS X0 hx (y := (⟨"java/lang/StringUTF16", "newBytesLength", "(I)I"⟩ : MethodName)) hown (mvT hZ (own_wd hw (i := 93) rfl)) (mvT hZ (own_wd hw (i := 94) rfl)) (mvT hZ (own_wd hw (i := 72) rfl)) (mvT hZ (own_wd hw (i := 95) rfl)) (by decide) (backOf (W := 0) (rs_nbl3 l Z a0 hw []  h0 n0 Z0) hZ (own_wd hw (i := 95) rfl) (own_wd hw (i := 72) rfl) (by decide) (by decide)) (g := (mkF m 1 #[.val (.int (3 : Int32))] [(.int (3 : Int32))])) rfl (by rw [hml]; rfl) (argsL := [(.int (3 : Int32))]) (rest := []) (lenOf pd__40I_41I rfl) rfl (by show 2 * 0 + _ ≤ _; exact Nat.le_of_eq rfl) (hb hby D21_1.1) (fun _ _ => ⟨rfl, e0, (by decide : 0 + 0 ≤ _), (by decide : 0 + 0 ≤ _)⟩)
  dsimp only [Pt.U, Pt.locs, Pt.cells, Pt.slots] at X1 l1 y1 z1 st1 hQ1
  subst l1 y1 z1
  obtain ⟨rfl, N1q, e1⟩ := hQ1
  have N1 := Fr.app N0 N1q
  refine own_pre (A' := T1.setTop (mkF m 4 #[.val (.int (3 : Int32))] [(.int (6 : Int32))])) st1 ?_
  obtain ⟨T2, h2, k2, X2, e2, E2, A2, Ex2, st2⟩ := newPE X1 hx hZ (own_wd hw (i := 19) rfl) e1 (g := (mkF m 4 #[.val (.int (3 : Int32))] [(.int (6 : Int32))])) rfl (hb hby D21_4.1) rfl (by decide) (cap := 6) (by decide) (by decide) (by decide) (by decide) (ad := "[B") (by first | rfl | decide)
  obtain ⟨b2, g2⟩ : ∃ z : Nat, z = h0.size := ⟨_, rfl⟩
  rw [← g2] at A2 Ex2 st2
  have sz2 := own_leN E2.1
  have gn_b2 : n0 ≤ b2 := by omega
  have V_b2 : Arv Z h2 b2 k2 .byte (6 : Int32) [(.int (0 : Int32)), (.int (0 : Int32)), (.int (0 : Int32)), (.int (0 : Int32)), (.int (0 : Int32)), (.int (0 : Int32))] (.int (0 : Int32)) := (Arv.new A2 (by decide)).pad (pad_rep [] (.int (0 : Int32)) 6)
  have lt_b2 := own_ltN V_b2.lt
  refine own_pre (A' := T2.setTop (mkF m 6 #[.val (.int (3 : Int32))] [(.ref b2)])) st2 ?_
  have KK : Keep h0 h2 [] := ((Keep.refl h0 []).ext E2)
  exact own_ret (v := some (.ref b2)) X2 (fun h => by first | rfl | (rw [Bd.returns] at h; cases h)) (BodyLoose.notSynchronized Bd) (by decide) (by decide) (by rw [e2]; exact ⟨b2, k2, rfl, N1, KK, own_leN (by omega), V_b2⟩) (fun fs hr => retOut X2 hx Bd.returns rfl (Or.inr (Or.inr (Or.inr (Or.inr ⟨rfl, rfl, rfl⟩)))) (hb hby D21_6.1) hr)
def own_QPc10 (Z : State) (ba : Addr) (kb : ClassId) (p2 : Int32) (x0 x1 : Value) (h0 : Heap) (n0 : Nat) (v : Option Value) (h : Heap) (L : List Loc) : Prop := v = none ∧ Fr n0 L ∧ Keep h0 h [ba] ∧ Arv Z h ba kb .byte (2 : Int32) [(.int (own_lo p2)), (.int (own_hi p2))] (.int (0 : Int32))
theorem D23_0 : own_at jdk_52_method_4_code 0 (.getstatic 44) 3 3 := ⟨by decide +kernel, rfl⟩
theorem D23_3 : own_at jdk_52_method_4_code 3 (.ifCond .ne 25) 3 6 := ⟨by decide +kernel, rfl⟩
theorem D23_28 : own_at jdk_52_method_4_code 28 (.iload_n 1) 1 29 := ⟨by decide +kernel, rfl⟩
theorem D23_29 : own_at jdk_52_method_4_code 29 (.iconst 1) 1 30 := ⟨by decide +kernel, rfl⟩
theorem D23_30 : own_at jdk_52_method_4_code 30 (.ishl) 1 31 := ⟨by decide +kernel, rfl⟩
theorem D23_31 : own_at jdk_52_method_4_code 31 (.istore_n 1) 1 32 := ⟨by decide +kernel, rfl⟩
theorem D23_32 : own_at jdk_52_method_4_code 32 (.aload_n 0) 1 33 := ⟨by decide +kernel, rfl⟩
theorem D23_33 : own_at jdk_52_method_4_code 33 (.iload_n 1) 1 34 := ⟨by decide +kernel, rfl⟩
theorem D23_34 : own_at jdk_52_method_4_code 34 (.iinc 1 1) 3 37 := ⟨by decide +kernel, rfl⟩
theorem D23_37 : own_at jdk_52_method_4_code 37 (.iload_n 2) 1 38 := ⟨by decide +kernel, rfl⟩
theorem D23_38 : own_at jdk_52_method_4_code 38 (.getstatic 59) 3 41 := ⟨by decide +kernel, rfl⟩
theorem D23_41 : own_at jdk_52_method_4_code 41 (.ishr) 1 42 := ⟨by decide +kernel, rfl⟩
theorem D23_42 : own_at jdk_52_method_4_code 42 (.i2b) 1 43 := ⟨by decide +kernel, rfl⟩
theorem D23_43 : own_at jdk_52_method_4_code 43 (.bastore) 1 44 := ⟨by decide +kernel, rfl⟩
theorem D23_44 : own_at jdk_52_method_4_code 44 (.aload_n 0) 1 45 := ⟨by decide +kernel, rfl⟩
theorem D23_45 : own_at jdk_52_method_4_code 45 (.iload_n 1) 1 46 := ⟨by decide +kernel, rfl⟩
theorem D23_46 : own_at jdk_52_method_4_code 46 (.iload_n 2) 1 47 := ⟨by decide +kernel, rfl⟩
theorem D23_47 : own_at jdk_52_method_4_code 47 (.getstatic 63) 3 50 := ⟨by decide +kernel, rfl⟩
theorem D23_50 : own_at jdk_52_method_4_code 50 (.ishr) 1 51 := ⟨by decide +kernel, rfl⟩
theorem D23_51 : own_at jdk_52_method_4_code 51 (.i2b) 1 52 := ⟨by decide +kernel, rfl⟩
theorem D23_52 : own_at jdk_52_method_4_code 52 (.bastore) 1 53 := ⟨by decide +kernel, rfl⟩
theorem D23_53 : own_at jdk_52_method_4_code 53 (.return_) 1 54 := ⟨by decide +kernel, rfl⟩
theorem ef_rs_pc10 (m : MethodId) (ba : Addr) (p2 : Int32) : entryFrame m #[(.ref ba), (.int (0 : Int32)), (.int p2)] 3 = mkF m 0 #[.val (.ref ba), .val (.int (0 : Int32)), .val (.int p2)] [] := by first | (simp [entryFrame, mkF, argsToLocals, Value.category]; done) | rfl
set_option maxRecDepth 65536 in
set_option maxHeartbeats 40000000 in
theorem rs_pc10 (l : Launch) (Z : State) (a0 : Array Value) (hw : ∀ d ∈ tables_1, d.before a0 Z = true) (ws : List Jvm.Cond) (ba : Addr) (p2 : Int32) (kb : ClassId) (x0 x1 : Value) (cs : Int32) (vf : Value) (h0 : Heap) (n0 : Nat) (Z0 : n0 ≤ h0.size) (hST : own_ST Z cs vf) (O0 : Old Z n0 h0) (gn_ba : n0 ≤ ba) (Vb : Arv Z h0 ba kb .byte (2 : Int32) [x0, x1] (.int (0 : Int32))) :
    MetFree l (⟨"java/lang/StringUTF16", "putChar", "([BII)V"⟩ : MethodName) (head1 (Jvm.Cond.code (⟨"java/lang/StringUTF16", "putChar", "([BII)V"⟩ : MethodName) jdk_52_method_4_code 3 none :: ws) ({ frames := 0, cells := 0, slots := 0, locals := 0 } : Room)) (fun a U => a = #[(.ref ba), (.int (0 : Int32)), (.int p2)] ∧ Z.Warmed39 U.vm ∧ U.heap = h0) (fun _ _ _ _ _ => True) (fun _ U o U' => ∃ v L, o = .returned v ∧ own_QPc10 Z ba kb p2 x0 x1 h0 n0 v U'.heap L ∧ FrameEnd U o U' L ({ frames := 0, cells := 0, slots := 0, locals := 0 } : Room).cells ({ frames := 0, cells := 0, slots := 0, locals := 0 } : Room).slots) := by
  refine MetFree.of_bodySF (plainFor_of_name pn_java_lang_StringUTF16) hisR ?_
  intro p e s m args below meth c s₁ Bd hml0 hP hK
  obtain ⟨rfl, hZ, hh⟩ := hP
  have hx := Bd.exec
  have hby := Bd.bytes
  have hml : c.maxLocals = 3 := hml0
  have hown : s.vm.findClass "java/lang/StringUTF16" = some m.cls := findClass_of_methodNamed Bd.named
  have hnm := (name_of_methodNamed Bd.named Bd.method).1
  have X0 : Stand p l e ({ frames := 0, cells := 0, slots := 0, locals := 0 } : Room) s m #[(.ref ba), (.int (0 : Int32)), (.int p2)] below meth c s₁ [] 0 0 := Stand.of_body Bd
  have e0 : s₁.heap = h0 := by rw [← hh, Bd.state]; rfl
  have N0 := Fr.nil n0
  refine own_start (ef_rs_pc10 m ba p2) ?_
  obtain ⟨S_cs, S_ad, S_hb, S_lb, S_sf, hcs, hvf⟩ := hST
  have lt_ba := own_ltN Vb.lt
  obtain ⟨T1, X1, e1, st1⟩ := getS2 X0 hx hZ hown (host := "") (Or.inl (own_wd hw (i := 100) rfl)) Via.refl e0 (S_ad.ext O0.2) (g := (mkF m 0 #[.val (.ref ba), .val (.int (0 : Int32)), .val (.int p2)] [])) rfl (hb hby D23_0.1)
  refine own_pre (A' := T1.setTop (mkF m 3 #[.val (.ref ba), .val (.int (0 : Int32)), .val (.int p2)] [(.int (1 : Int32))])) st1 ?_
  refine o_ifY X1 hx hby D23_3 ((if0 _ _).trans (feq (by decide : ¬ ((1 : Int32) = (0 : Int32)))).2) (q := 28) (by decide) (by decide) ?_
  refine o_iloadN X1 hx hby D23_28 rfl ?_
  refine o_iconst X1 hx hby D23_29 (v := 1) rfl ?_
  refine o_ishl X1 hx hby D23_30 ?_
  rw [(by decide : ((0 : Int32) <<< ((1 : Int32) &&& 31)) = (0 : Int32))]
  refine o_istoreN X1 hx hby D23_31 (l' := #[.val (.ref ba), .val (.int (0 : Int32)), .val (.int p2)]) rfl ?_
  refine o_aloadN X1 hx hby D23_32 rfl rfl ?_
  refine o_iloadN X1 hx hby D23_33 rfl ?_
  refine o_iinc X1 hx hby D23_34 rfl (l' := #[.val (.ref ba), .val (.int ((0 : Int32) + (1 : Int32))), .val (.int p2)]) rfl ?_
  rw [(by decide : ((0 : Int32) + (1 : Int32)) = (1 : Int32))]
  refine o_iloadN X1 hx hby D23_37 rfl ?_
  obtain ⟨T2, X2, e2, st2⟩ := getS2 X1 hx hZ hown (host := "") (Or.inl (own_wd hw (i := 101) rfl)) Via.refl e1 (S_hb.ext O0.2) (g := (mkF m 38 #[.val (.ref ba), .val (.int (1 : Int32)), .val (.int p2)] [(.int p2), (.int (0 : Int32)), (.ref ba)])) rfl (hb hby D23_38.1)
  refine own_pre (A' := T2.setTop (mkF m 41 #[.val (.ref ba), .val (.int (1 : Int32)), .val (.int p2)] [(.int (0 : Int32)), (.int p2), (.int (0 : Int32)), (.ref ba)])) st2 ?_
  refine o_ishr X2 hx hby D23_41 ?_
  refine o_i2b X2 hx hby D23_42 ?_
  obtain ⟨cl_ba_3, Ar_ba_3, q_ba_3, S_ba_3, N_ba_3, H_ba_3, G_ba_3⟩ := id Vb
  have hin_ba_3 : ¬ ((0 : Int32) < 0 ∨ cl_ba_3.slots.size ≤ ((0 : Int32)).toNatClampNeg) := inb_of S_ba_3 ⟨by decide, by decide⟩
  obtain ⟨T3, h3, X3, e3, W3, st3⟩ := stB X2 hx hZ e2 Ar_ba_3 (j := (0 : Int32)) hin_ba_3 (g := (mkF m 43 #[.val (.ref ba), .val (.int (1 : Int32)), .val (.int p2)] [(.int (((p2 >>> ((0 : Int32) &&& 31))).toInt8.toInt32)), (.int (0 : Int32)), (.ref ba)])) rfl rfl (hb hby D23_43.1)
  have V_ba_3 : Arv Z h3 ba kb .byte (2 : Int32) [(.int (nar .byte (((p2 >>> ((0 : Int32) &&& 31))).toInt8.toInt32))), x1] (.int (0 : Int32)) := Arv.set Ar_ba_3 q_ba_3 S_ba_3 N_ba_3 H_ba_3 G_ba_3 (fits_nar_byte _) W3 0 rfl (Nat.le_of_ble_eq_true rfl)
  have sz3 := own_leN (Keep.of_wr W3).1
  have N3 := Fr.snoc X3 N0 gn_ba
  refine own_pre (A' := T3.setTop (mkF m 44 #[.val (.ref ba), .val (.int (1 : Int32)), .val (.int p2)] [])) st3 ?_
  refine o_aloadN X3 hx hby D23_44 rfl rfl ?_
  refine o_iloadN X3 hx hby D23_45 rfl ?_
  refine o_iloadN X3 hx hby D23_46 rfl ?_
  have c5_O := (O0.wr W3 gn_ba)
  obtain ⟨T4, X4, e4, st4⟩ := getS2 X3 hx hZ hown (host := "") (Or.inl (own_wd hw (i := 102) rfl)) Via.refl e3 (S_lb.ext c5_O.2) (g := (mkF m 47 #[.val (.ref ba), .val (.int (1 : Int32)), .val (.int p2)] [(.int p2), (.int (1 : Int32)), (.ref ba)])) rfl (hb hby D23_47.1)
  refine own_pre (A' := T4.setTop (mkF m 50 #[.val (.ref ba), .val (.int (1 : Int32)), .val (.int p2)] [(.int (8 : Int32)), (.int p2), (.int (1 : Int32)), (.ref ba)])) st4 ?_
  refine o_ishr X4 hx hby D23_50 ?_
  refine o_i2b X4 hx hby D23_51 ?_
  obtain ⟨cl_ba_6, Ar_ba_6, q_ba_6, S_ba_6, N_ba_6, H_ba_6, G_ba_6⟩ := id V_ba_3
  have hin_ba_6 : ¬ ((1 : Int32) < 0 ∨ cl_ba_6.slots.size ≤ ((1 : Int32)).toNatClampNeg) := inb_of S_ba_6 ⟨by decide, by decide⟩
  obtain ⟨T6, h6, X6, e6, W6, st6⟩ := stB X4 hx hZ e4 Ar_ba_6 (j := (1 : Int32)) hin_ba_6 (g := (mkF m 52 #[.val (.ref ba), .val (.int (1 : Int32)), .val (.int p2)] [(.int (((p2 >>> ((8 : Int32) &&& 31))).toInt8.toInt32)), (.int (1 : Int32)), (.ref ba)])) rfl rfl (hb hby D23_52.1)
  have V_ba_6 : Arv Z h6 ba kb .byte (2 : Int32) [(.int (nar .byte (((p2 >>> ((0 : Int32) &&& 31))).toInt8.toInt32))), (.int (nar .byte (((p2 >>> ((8 : Int32) &&& 31))).toInt8.toInt32)))] (.int (0 : Int32)) := Arv.set Ar_ba_6 q_ba_6 S_ba_6 N_ba_6 H_ba_6 G_ba_6 (fits_nar_byte _) W6 1 rfl (Nat.le_of_ble_eq_true rfl)
  have sz6 := own_leN (Keep.of_wr W6).1
  have N6 := Fr.snoc X6 N3 gn_ba
  refine own_pre (A' := T6.setTop (mkF m 53 #[.val (.ref ba), .val (.int (1 : Int32)), .val (.int p2)] [])) st6 ?_
  have KK : Keep h0 h6 [ba] := (((Keep.refl h0 [ba]).wr W3 (Or.inl (by simp))).wr W6 (Or.inl (by simp)))
  have VV : Arv Z h6 ba kb .byte (2 : Int32) [(.int (own_lo p2)), (.int (own_hi p2))] (.int (0 : Int32)) := V_ba_6
  exact own_ret (v := none) X6 (fun h => by first | rfl | (rw [Bd.returns] at h; cases h)) (BodyLoose.notSynchronized Bd) (by decide) (by decide) (by rw [e6]; exact ⟨rfl, N6, KK, VV⟩) (fun fs hr => X6.returnOut hx Bd.returns (hb hby D23_53.1) hr)
theorem D24_0 : own_at jdk_52_method_5_code 0 (.getstatic 44) 3 3 := ⟨by decide +kernel, rfl⟩
theorem D24_3 : own_at jdk_52_method_5_code 3 (.ifCond .ne 25) 3 6 := ⟨by decide +kernel, rfl⟩
theorem D24_28 : own_at jdk_52_method_5_code 28 (.iload_n 1) 1 29 := ⟨by decide +kernel, rfl⟩
theorem D24_29 : own_at jdk_52_method_5_code 29 (.iconst 1) 1 30 := ⟨by decide +kernel, rfl⟩
theorem D24_30 : own_at jdk_52_method_5_code 30 (.ishl) 1 31 := ⟨by decide +kernel, rfl⟩
theorem D24_31 : own_at jdk_52_method_5_code 31 (.istore_n 1) 1 32 := ⟨by decide +kernel, rfl⟩
theorem D24_32 : own_at jdk_52_method_5_code 32 (.aload_n 0) 1 33 := ⟨by decide +kernel, rfl⟩
theorem D24_33 : own_at jdk_52_method_5_code 33 (.iload_n 1) 1 34 := ⟨by decide +kernel, rfl⟩
theorem D24_34 : own_at jdk_52_method_5_code 34 (.iinc 1 1) 3 37 := ⟨by decide +kernel, rfl⟩
theorem D24_37 : own_at jdk_52_method_5_code 37 (.baload) 1 38 := ⟨by decide +kernel, rfl⟩
theorem D24_38 : own_at jdk_52_method_5_code 38 (.sipush 255) 3 41 := ⟨by decide +kernel, rfl⟩
theorem D24_41 : own_at jdk_52_method_5_code 41 (.iand) 1 42 := ⟨by decide +kernel, rfl⟩
theorem D24_42 : own_at jdk_52_method_5_code 42 (.getstatic 59) 3 45 := ⟨by decide +kernel, rfl⟩
theorem D24_45 : own_at jdk_52_method_5_code 45 (.ishl) 1 46 := ⟨by decide +kernel, rfl⟩
theorem D24_46 : own_at jdk_52_method_5_code 46 (.aload_n 0) 1 47 := ⟨by decide +kernel, rfl⟩
theorem D24_47 : own_at jdk_52_method_5_code 47 (.iload_n 1) 1 48 := ⟨by decide +kernel, rfl⟩
theorem D24_48 : own_at jdk_52_method_5_code 48 (.baload) 1 49 := ⟨by decide +kernel, rfl⟩
theorem D24_49 : own_at jdk_52_method_5_code 49 (.sipush 255) 3 52 := ⟨by decide +kernel, rfl⟩
theorem D24_52 : own_at jdk_52_method_5_code 52 (.iand) 1 53 := ⟨by decide +kernel, rfl⟩
theorem D24_53 : own_at jdk_52_method_5_code 53 (.getstatic 63) 3 56 := ⟨by decide +kernel, rfl⟩
theorem D24_56 : own_at jdk_52_method_5_code 56 (.ishl) 1 57 := ⟨by decide +kernel, rfl⟩
theorem D24_57 : own_at jdk_52_method_5_code 57 (.ior) 1 58 := ⟨by decide +kernel, rfl⟩
theorem D24_58 : own_at jdk_52_method_5_code 58 (.i2c) 1 59 := ⟨by decide +kernel, rfl⟩
theorem D24_59 : own_at jdk_52_method_5_code 59 (.ireturn) 1 60 := ⟨by decide +kernel, rfl⟩
theorem ef_rs_gc10 (m : MethodId) (ba : Addr) : entryFrame m #[(.ref ba), (.int (0 : Int32))] 2 = mkF m 0 #[.val (.ref ba), .val (.int (0 : Int32))] [] := by first | (simp [entryFrame, mkF, argsToLocals, Value.category]; done) | rfl
set_option maxRecDepth 65536 in
set_option maxHeartbeats 40000000 in
theorem rs_gc10 (l : Launch) (Z : State) (a0 : Array Value) (hw : ∀ d ∈ tables_1, d.before a0 Z = true) (ws : List Jvm.Cond) (ba : Addr) (kb : ClassId) (c0 : Int32) (cs : Int32) (vf : Value) (h0 : Heap) (n0 : Nat) (Z0 : n0 ≤ h0.size) (hST : own_ST Z cs vf) (O0 : Old Z n0 h0) (Vb : Arv Z h0 ba kb .byte (2 : Int32) [(.int (own_lo c0)), (.int (own_hi c0))] (.int (0 : Int32))) (hc : own_ch16 c0) :
    MetFree l (⟨"java/lang/StringUTF16", "getChar", "([BI)C"⟩ : MethodName) (head1 (Jvm.Cond.code (⟨"java/lang/StringUTF16", "getChar", "([BI)C"⟩ : MethodName) jdk_52_method_5_code 2 (some .char) :: ws) ({ frames := 0, cells := 0, slots := 0, locals := 0 } : Room)) (fun a U => a = #[(.ref ba), (.int (0 : Int32))] ∧ Z.Warmed39 U.vm ∧ U.heap = h0) (fun _ _ _ _ _ => True) (fun _ U o U' => ∃ v L, o = .returned v ∧ own_QP (.int c0) h0 n0 v U'.heap L ∧ FrameEnd U o U' L ({ frames := 0, cells := 0, slots := 0, locals := 0 } : Room).cells ({ frames := 0, cells := 0, slots := 0, locals := 0 } : Room).slots) := by
  refine MetFree.of_bodySF (plainFor_of_name pn_java_lang_StringUTF16) hisR ?_
  intro p e s m args below meth c s₁ Bd hml0 hP hK
  obtain ⟨rfl, hZ, hh⟩ := hP
  have hx := Bd.exec
  have hby := Bd.bytes
  have hml : c.maxLocals = 2 := hml0
  have hown : s.vm.findClass "java/lang/StringUTF16" = some m.cls := findClass_of_methodNamed Bd.named
  have hnm := (name_of_methodNamed Bd.named Bd.method).1
  have X0 : Stand p l e ({ frames := 0, cells := 0, slots := 0, locals := 0 } : Room) s m #[(.ref ba), (.int (0 : Int32))] below meth c s₁ [] 0 0 := Stand.of_body Bd
  have e0 : s₁.heap = h0 := by rw [← hh, Bd.state]; rfl
  have N0 := Fr.nil n0
  refine own_start (ef_rs_gc10 m ba) ?_
  obtain ⟨S_cs, S_ad, S_hb, S_lb, S_sf, hcs, hvf⟩ := hST
  have lt_ba := own_ltN Vb.lt
  obtain ⟨T1, X1, e1, st1⟩ := getS2 X0 hx hZ hown (host := "") (Or.inl (own_wd hw (i := 100) rfl)) Via.refl e0 (S_ad.ext O0.2) (g := (mkF m 0 #[.val (.ref ba), .val (.int (0 : Int32))] [])) rfl (hb hby D24_0.1)
  refine own_pre (A' := T1.setTop (mkF m 3 #[.val (.ref ba), .val (.int (0 : Int32))] [(.int (1 : Int32))])) st1 ?_
  refine o_ifY X1 hx hby D24_3 ((if0 _ _).trans (feq (by decide : ¬ ((1 : Int32) = (0 : Int32)))).2) (q := 28) (by decide) (by decide) ?_
  refine o_iloadN X1 hx hby D24_28 rfl ?_
  refine o_iconst X1 hx hby D24_29 (v := 1) rfl ?_
  refine o_ishl X1 hx hby D24_30 ?_
  rw [(by decide : ((0 : Int32) <<< ((1 : Int32) &&& 31)) = (0 : Int32))]
  refine o_istoreN X1 hx hby D24_31 (l' := #[.val (.ref ba), .val (.int (0 : Int32))]) rfl ?_
  refine o_aloadN X1 hx hby D24_32 rfl rfl ?_
  refine o_iloadN X1 hx hby D24_33 rfl ?_
  refine o_iinc X1 hx hby D24_34 rfl (l' := #[.val (.ref ba), .val (.int ((0 : Int32) + (1 : Int32)))]) rfl ?_
  rw [(by decide : ((0 : Int32) + (1 : Int32)) = (1 : Int32))]
  obtain ⟨cl_ba_2, Ar_ba_2, q_ba_2, S_ba_2, N_ba_2, H_ba_2, G_ba_2⟩ := id Vb
  have hin_ba_2 : ¬ ((0 : Int32) < 0 ∨ cl_ba_2.slots.size ≤ ((0 : Int32)).toNatClampNeg) := inb_of S_ba_2 ⟨by decide, by decide⟩
  have hat_ba_2 : cl_ba_2.slots[((0 : Int32)).toNatClampNeg]? = some (.int (own_lo c0)) := H_ba_2.at hin_ba_2 (rfl)
  refine own_pre (A' := T1.setTop (mkF m 38 #[.val (.ref ba), .val (.int (1 : Int32))] [(.int (own_lo c0))])) (fun t k => X1.baloadBytes hx (j := (0 : Int32)) (v := (.int (own_lo c0))) (by rw [e1]; exact Ar_ba_2.1) (State.isArrayOf_alike hZ.alike Ar_ba_2.2.1) Ar_ba_2.2.2 hin_ba_2 hat_ba_2 (g := (mkF m 37 #[.val (.ref ba), .val (.int (1 : Int32))] [(.int (0 : Int32)), (.ref ba)])) rfl rfl (hb hby D24_37.1) _ k) ?_
  refine o_sipush X1 hx hby D24_38 (v := 255) rfl ?_
  refine o_iand X1 hx hby D24_41 ?_
  obtain ⟨T3, X3, e3, st3⟩ := getS2 X1 hx hZ hown (host := "") (Or.inl (own_wd hw (i := 101) rfl)) Via.refl e1 (S_hb.ext O0.2) (g := (mkF m 42 #[.val (.ref ba), .val (.int (1 : Int32))] [(.int ((own_lo c0) &&& (255 : Int32)))])) rfl (hb hby D24_42.1)
  refine own_pre (A' := T3.setTop (mkF m 45 #[.val (.ref ba), .val (.int (1 : Int32))] [(.int (0 : Int32)), (.int ((own_lo c0) &&& (255 : Int32)))])) st3 ?_
  refine o_ishl X3 hx hby D24_45 ?_
  refine o_aloadN X3 hx hby D24_46 rfl rfl ?_
  refine o_iloadN X3 hx hby D24_47 rfl ?_
  obtain ⟨cl_ba_4, Ar_ba_4, q_ba_4, S_ba_4, N_ba_4, H_ba_4, G_ba_4⟩ := id Vb
  have hin_ba_4 : ¬ ((1 : Int32) < 0 ∨ cl_ba_4.slots.size ≤ ((1 : Int32)).toNatClampNeg) := inb_of S_ba_4 ⟨by decide, by decide⟩
  have hat_ba_4 : cl_ba_4.slots[((1 : Int32)).toNatClampNeg]? = some (.int (own_hi c0)) := H_ba_4.at hin_ba_4 (rfl)
  refine own_pre (A' := T3.setTop (mkF m 49 #[.val (.ref ba), .val (.int (1 : Int32))] [(.int (own_hi c0)), (.int (((own_lo c0) &&& (255 : Int32)) <<< ((0 : Int32) &&& 31)))])) (fun t k => X3.baloadBytes hx (j := (1 : Int32)) (v := (.int (own_hi c0))) (by rw [e3]; exact Ar_ba_4.1) (State.isArrayOf_alike hZ.alike Ar_ba_4.2.1) Ar_ba_4.2.2 hin_ba_4 hat_ba_4 (g := (mkF m 48 #[.val (.ref ba), .val (.int (1 : Int32))] [(.int (1 : Int32)), (.ref ba), (.int (((own_lo c0) &&& (255 : Int32)) <<< ((0 : Int32) &&& 31)))])) rfl rfl (hb hby D24_48.1) _ k) ?_
  refine o_sipush X3 hx hby D24_49 (v := 255) rfl ?_
  refine o_iand X3 hx hby D24_52 ?_
  obtain ⟨T5, X5, e5, st5⟩ := getS2 X3 hx hZ hown (host := "") (Or.inl (own_wd hw (i := 102) rfl)) Via.refl e3 (S_lb.ext O0.2) (g := (mkF m 53 #[.val (.ref ba), .val (.int (1 : Int32))] [(.int ((own_hi c0) &&& (255 : Int32))), (.int (((own_lo c0) &&& (255 : Int32)) <<< ((0 : Int32) &&& 31)))])) rfl (hb hby D24_53.1)
  refine own_pre (A' := T5.setTop (mkF m 56 #[.val (.ref ba), .val (.int (1 : Int32))] [(.int (8 : Int32)), (.int ((own_hi c0) &&& (255 : Int32))), (.int (((own_lo c0) &&& (255 : Int32)) <<< ((0 : Int32) &&& 31)))])) st5 ?_
  refine o_ishl X5 hx hby D24_56 ?_
  refine o_ior X5 hx hby D24_57 ?_
  refine o_i2c X5 hx hby D24_58 ?_
  exact own_ret (v := some (.int (own_gc c0))) X5 (fun h => by first | rfl | (rw [Bd.returns] at h; cases h)) (BodyLoose.notSynchronized Bd) (by decide) (by decide) (⟨by rw [own_gcEq hc], N0, e5⟩) (fun fs hr => retN X5 hx (t := .char) Bd.returns (by simp) (hb hby D24_59.1) hr)
def own_QPc20 (Z : State) (ba : Addr) (kb : ClassId) (p2 : Int32) (x0 x1 x2 x3 : Value) (h0 : Heap) (n0 : Nat) (v : Option Value) (h : Heap) (L : List Loc) : Prop := v = none ∧ Fr n0 L ∧ Keep h0 h [ba] ∧ Arv Z h ba kb .byte (4 : Int32) [(.int (own_lo p2)), (.int (own_hi p2)), x2, x3] (.int (0 : Int32))
theorem ef_rs_pc20 (m : MethodId) (ba : Addr) (p2 : Int32) : entryFrame m #[(.ref ba), (.int (0 : Int32)), (.int p2)] 3 = mkF m 0 #[.val (.ref ba), .val (.int (0 : Int32)), .val (.int p2)] [] := by first | (simp [entryFrame, mkF, argsToLocals, Value.category]; done) | rfl
set_option maxRecDepth 65536 in
set_option maxHeartbeats 40000000 in
theorem rs_pc20 (l : Launch) (Z : State) (a0 : Array Value) (hw : ∀ d ∈ tables_1, d.before a0 Z = true) (ws : List Jvm.Cond) (ba : Addr) (p2 : Int32) (kb : ClassId) (x0 x1 x2 x3 : Value) (cs : Int32) (vf : Value) (h0 : Heap) (n0 : Nat) (Z0 : n0 ≤ h0.size) (hST : own_ST Z cs vf) (O0 : Old Z n0 h0) (gn_ba : n0 ≤ ba) (Vb : Arv Z h0 ba kb .byte (4 : Int32) [x0, x1, x2, x3] (.int (0 : Int32))) :
    MetFree l (⟨"java/lang/StringUTF16", "putChar", "([BII)V"⟩ : MethodName) (head1 (Jvm.Cond.code (⟨"java/lang/StringUTF16", "putChar", "([BII)V"⟩ : MethodName) jdk_52_method_4_code 3 none :: ws) ({ frames := 0, cells := 0, slots := 0, locals := 0 } : Room)) (fun a U => a = #[(.ref ba), (.int (0 : Int32)), (.int p2)] ∧ Z.Warmed39 U.vm ∧ U.heap = h0) (fun _ _ _ _ _ => True) (fun _ U o U' => ∃ v L, o = .returned v ∧ own_QPc20 Z ba kb p2 x0 x1 x2 x3 h0 n0 v U'.heap L ∧ FrameEnd U o U' L ({ frames := 0, cells := 0, slots := 0, locals := 0 } : Room).cells ({ frames := 0, cells := 0, slots := 0, locals := 0 } : Room).slots) := by
  refine MetFree.of_bodySF (plainFor_of_name pn_java_lang_StringUTF16) hisR ?_
  intro p e s m args below meth c s₁ Bd hml0 hP hK
  obtain ⟨rfl, hZ, hh⟩ := hP
  have hx := Bd.exec
  have hby := Bd.bytes
  have hml : c.maxLocals = 3 := hml0
  have hown : s.vm.findClass "java/lang/StringUTF16" = some m.cls := findClass_of_methodNamed Bd.named
  have hnm := (name_of_methodNamed Bd.named Bd.method).1
  have X0 : Stand p l e ({ frames := 0, cells := 0, slots := 0, locals := 0 } : Room) s m #[(.ref ba), (.int (0 : Int32)), (.int p2)] below meth c s₁ [] 0 0 := Stand.of_body Bd
  have e0 : s₁.heap = h0 := by rw [← hh, Bd.state]; rfl
  have N0 := Fr.nil n0
  refine own_start (ef_rs_pc20 m ba p2) ?_
  obtain ⟨S_cs, S_ad, S_hb, S_lb, S_sf, hcs, hvf⟩ := hST
  have lt_ba := own_ltN Vb.lt
  obtain ⟨T1, X1, e1, st1⟩ := getS2 X0 hx hZ hown (host := "") (Or.inl (own_wd hw (i := 100) rfl)) Via.refl e0 (S_ad.ext O0.2) (g := (mkF m 0 #[.val (.ref ba), .val (.int (0 : Int32)), .val (.int p2)] [])) rfl (hb hby D23_0.1)
  refine own_pre (A' := T1.setTop (mkF m 3 #[.val (.ref ba), .val (.int (0 : Int32)), .val (.int p2)] [(.int (1 : Int32))])) st1 ?_
  refine o_ifY X1 hx hby D23_3 ((if0 _ _).trans (feq (by decide : ¬ ((1 : Int32) = (0 : Int32)))).2) (q := 28) (by decide) (by decide) ?_
  refine o_iloadN X1 hx hby D23_28 rfl ?_
  refine o_iconst X1 hx hby D23_29 (v := 1) rfl ?_
  refine o_ishl X1 hx hby D23_30 ?_
  rw [(by decide : ((0 : Int32) <<< ((1 : Int32) &&& 31)) = (0 : Int32))]
  refine o_istoreN X1 hx hby D23_31 (l' := #[.val (.ref ba), .val (.int (0 : Int32)), .val (.int p2)]) rfl ?_
  refine o_aloadN X1 hx hby D23_32 rfl rfl ?_
  refine o_iloadN X1 hx hby D23_33 rfl ?_
  refine o_iinc X1 hx hby D23_34 rfl (l' := #[.val (.ref ba), .val (.int ((0 : Int32) + (1 : Int32))), .val (.int p2)]) rfl ?_
  rw [(by decide : ((0 : Int32) + (1 : Int32)) = (1 : Int32))]
  refine o_iloadN X1 hx hby D23_37 rfl ?_
  obtain ⟨T2, X2, e2, st2⟩ := getS2 X1 hx hZ hown (host := "") (Or.inl (own_wd hw (i := 101) rfl)) Via.refl e1 (S_hb.ext O0.2) (g := (mkF m 38 #[.val (.ref ba), .val (.int (1 : Int32)), .val (.int p2)] [(.int p2), (.int (0 : Int32)), (.ref ba)])) rfl (hb hby D23_38.1)
  refine own_pre (A' := T2.setTop (mkF m 41 #[.val (.ref ba), .val (.int (1 : Int32)), .val (.int p2)] [(.int (0 : Int32)), (.int p2), (.int (0 : Int32)), (.ref ba)])) st2 ?_
  refine o_ishr X2 hx hby D23_41 ?_
  refine o_i2b X2 hx hby D23_42 ?_
  obtain ⟨cl_ba_3, Ar_ba_3, q_ba_3, S_ba_3, N_ba_3, H_ba_3, G_ba_3⟩ := id Vb
  have hin_ba_3 : ¬ ((0 : Int32) < 0 ∨ cl_ba_3.slots.size ≤ ((0 : Int32)).toNatClampNeg) := inb_of S_ba_3 ⟨by decide, by decide⟩
  obtain ⟨T3, h3, X3, e3, W3, st3⟩ := stB X2 hx hZ e2 Ar_ba_3 (j := (0 : Int32)) hin_ba_3 (g := (mkF m 43 #[.val (.ref ba), .val (.int (1 : Int32)), .val (.int p2)] [(.int (((p2 >>> ((0 : Int32) &&& 31))).toInt8.toInt32)), (.int (0 : Int32)), (.ref ba)])) rfl rfl (hb hby D23_43.1)
  have V_ba_3 : Arv Z h3 ba kb .byte (4 : Int32) [(.int (nar .byte (((p2 >>> ((0 : Int32) &&& 31))).toInt8.toInt32))), x1, x2, x3] (.int (0 : Int32)) := Arv.set Ar_ba_3 q_ba_3 S_ba_3 N_ba_3 H_ba_3 G_ba_3 (fits_nar_byte _) W3 0 rfl (Nat.le_of_ble_eq_true rfl)
  have sz3 := own_leN (Keep.of_wr W3).1
  have N3 := Fr.snoc X3 N0 gn_ba
  refine own_pre (A' := T3.setTop (mkF m 44 #[.val (.ref ba), .val (.int (1 : Int32)), .val (.int p2)] [])) st3 ?_
  refine o_aloadN X3 hx hby D23_44 rfl rfl ?_
  refine o_iloadN X3 hx hby D23_45 rfl ?_
  refine o_iloadN X3 hx hby D23_46 rfl ?_
  have c5_O := (O0.wr W3 gn_ba)
  obtain ⟨T4, X4, e4, st4⟩ := getS2 X3 hx hZ hown (host := "") (Or.inl (own_wd hw (i := 102) rfl)) Via.refl e3 (S_lb.ext c5_O.2) (g := (mkF m 47 #[.val (.ref ba), .val (.int (1 : Int32)), .val (.int p2)] [(.int p2), (.int (1 : Int32)), (.ref ba)])) rfl (hb hby D23_47.1)
  refine own_pre (A' := T4.setTop (mkF m 50 #[.val (.ref ba), .val (.int (1 : Int32)), .val (.int p2)] [(.int (8 : Int32)), (.int p2), (.int (1 : Int32)), (.ref ba)])) st4 ?_
  refine o_ishr X4 hx hby D23_50 ?_
  refine o_i2b X4 hx hby D23_51 ?_
  obtain ⟨cl_ba_6, Ar_ba_6, q_ba_6, S_ba_6, N_ba_6, H_ba_6, G_ba_6⟩ := id V_ba_3
  have hin_ba_6 : ¬ ((1 : Int32) < 0 ∨ cl_ba_6.slots.size ≤ ((1 : Int32)).toNatClampNeg) := inb_of S_ba_6 ⟨by decide, by decide⟩
  obtain ⟨T6, h6, X6, e6, W6, st6⟩ := stB X4 hx hZ e4 Ar_ba_6 (j := (1 : Int32)) hin_ba_6 (g := (mkF m 52 #[.val (.ref ba), .val (.int (1 : Int32)), .val (.int p2)] [(.int (((p2 >>> ((8 : Int32) &&& 31))).toInt8.toInt32)), (.int (1 : Int32)), (.ref ba)])) rfl rfl (hb hby D23_52.1)
  have V_ba_6 : Arv Z h6 ba kb .byte (4 : Int32) [(.int (nar .byte (((p2 >>> ((0 : Int32) &&& 31))).toInt8.toInt32))), (.int (nar .byte (((p2 >>> ((8 : Int32) &&& 31))).toInt8.toInt32))), x2, x3] (.int (0 : Int32)) := Arv.set Ar_ba_6 q_ba_6 S_ba_6 N_ba_6 H_ba_6 G_ba_6 (fits_nar_byte _) W6 1 rfl (Nat.le_of_ble_eq_true rfl)
  have sz6 := own_leN (Keep.of_wr W6).1
  have N6 := Fr.snoc X6 N3 gn_ba
  refine own_pre (A' := T6.setTop (mkF m 53 #[.val (.ref ba), .val (.int (1 : Int32)), .val (.int p2)] [])) st6 ?_
  have KK : Keep h0 h6 [ba] := (((Keep.refl h0 [ba]).wr W3 (Or.inl (by simp))).wr W6 (Or.inl (by simp)))
  have VV : Arv Z h6 ba kb .byte (4 : Int32) [(.int (own_lo p2)), (.int (own_hi p2)), x2, x3] (.int (0 : Int32)) := V_ba_6
  exact own_ret (v := none) X6 (fun h => by first | rfl | (rw [Bd.returns] at h; cases h)) (BodyLoose.notSynchronized Bd) (by decide) (by decide) (by rw [e6]; exact ⟨rfl, N6, KK, VV⟩) (fun fs hr => X6.returnOut hx Bd.returns (hb hby D23_53.1) hr)
theorem ef_rs_gc20 (m : MethodId) (ba : Addr) : entryFrame m #[(.ref ba), (.int (0 : Int32))] 2 = mkF m 0 #[.val (.ref ba), .val (.int (0 : Int32))] [] := by first | (simp [entryFrame, mkF, argsToLocals, Value.category]; done) | rfl
set_option maxRecDepth 65536 in
set_option maxHeartbeats 40000000 in
theorem rs_gc20 (l : Launch) (Z : State) (a0 : Array Value) (hw : ∀ d ∈ tables_1, d.before a0 Z = true) (ws : List Jvm.Cond) (ba : Addr) (kb : ClassId) (c0 c1 : Int32) (cs : Int32) (vf : Value) (h0 : Heap) (n0 : Nat) (Z0 : n0 ≤ h0.size) (hST : own_ST Z cs vf) (O0 : Old Z n0 h0) (Vb : Arv Z h0 ba kb .byte (4 : Int32) [(.int (own_lo c0)), (.int (own_hi c0)), (.int (own_lo c1)), (.int (own_hi c1))] (.int (0 : Int32))) (hc : own_ch16 c0) :
    MetFree l (⟨"java/lang/StringUTF16", "getChar", "([BI)C"⟩ : MethodName) (head1 (Jvm.Cond.code (⟨"java/lang/StringUTF16", "getChar", "([BI)C"⟩ : MethodName) jdk_52_method_5_code 2 (some .char) :: ws) ({ frames := 0, cells := 0, slots := 0, locals := 0 } : Room)) (fun a U => a = #[(.ref ba), (.int (0 : Int32))] ∧ Z.Warmed39 U.vm ∧ U.heap = h0) (fun _ _ _ _ _ => True) (fun _ U o U' => ∃ v L, o = .returned v ∧ own_QP (.int c0) h0 n0 v U'.heap L ∧ FrameEnd U o U' L ({ frames := 0, cells := 0, slots := 0, locals := 0 } : Room).cells ({ frames := 0, cells := 0, slots := 0, locals := 0 } : Room).slots) := by
  refine MetFree.of_bodySF (plainFor_of_name pn_java_lang_StringUTF16) hisR ?_
  intro p e s m args below meth c s₁ Bd hml0 hP hK
  obtain ⟨rfl, hZ, hh⟩ := hP
  have hx := Bd.exec
  have hby := Bd.bytes
  have hml : c.maxLocals = 2 := hml0
  have hown : s.vm.findClass "java/lang/StringUTF16" = some m.cls := findClass_of_methodNamed Bd.named
  have hnm := (name_of_methodNamed Bd.named Bd.method).1
  have X0 : Stand p l e ({ frames := 0, cells := 0, slots := 0, locals := 0 } : Room) s m #[(.ref ba), (.int (0 : Int32))] below meth c s₁ [] 0 0 := Stand.of_body Bd
  have e0 : s₁.heap = h0 := by rw [← hh, Bd.state]; rfl
  have N0 := Fr.nil n0
  refine own_start (ef_rs_gc20 m ba) ?_
  obtain ⟨S_cs, S_ad, S_hb, S_lb, S_sf, hcs, hvf⟩ := hST
  have lt_ba := own_ltN Vb.lt
  obtain ⟨T1, X1, e1, st1⟩ := getS2 X0 hx hZ hown (host := "") (Or.inl (own_wd hw (i := 100) rfl)) Via.refl e0 (S_ad.ext O0.2) (g := (mkF m 0 #[.val (.ref ba), .val (.int (0 : Int32))] [])) rfl (hb hby D24_0.1)
  refine own_pre (A' := T1.setTop (mkF m 3 #[.val (.ref ba), .val (.int (0 : Int32))] [(.int (1 : Int32))])) st1 ?_
  refine o_ifY X1 hx hby D24_3 ((if0 _ _).trans (feq (by decide : ¬ ((1 : Int32) = (0 : Int32)))).2) (q := 28) (by decide) (by decide) ?_
  refine o_iloadN X1 hx hby D24_28 rfl ?_
  refine o_iconst X1 hx hby D24_29 (v := 1) rfl ?_
  refine o_ishl X1 hx hby D24_30 ?_
  rw [(by decide : ((0 : Int32) <<< ((1 : Int32) &&& 31)) = (0 : Int32))]
  refine o_istoreN X1 hx hby D24_31 (l' := #[.val (.ref ba), .val (.int (0 : Int32))]) rfl ?_
  refine o_aloadN X1 hx hby D24_32 rfl rfl ?_
  refine o_iloadN X1 hx hby D24_33 rfl ?_
  refine o_iinc X1 hx hby D24_34 rfl (l' := #[.val (.ref ba), .val (.int ((0 : Int32) + (1 : Int32)))]) rfl ?_
  rw [(by decide : ((0 : Int32) + (1 : Int32)) = (1 : Int32))]
  obtain ⟨cl_ba_2, Ar_ba_2, q_ba_2, S_ba_2, N_ba_2, H_ba_2, G_ba_2⟩ := id Vb
  have hin_ba_2 : ¬ ((0 : Int32) < 0 ∨ cl_ba_2.slots.size ≤ ((0 : Int32)).toNatClampNeg) := inb_of S_ba_2 ⟨by decide, by decide⟩
  have hat_ba_2 : cl_ba_2.slots[((0 : Int32)).toNatClampNeg]? = some (.int (own_lo c0)) := H_ba_2.at hin_ba_2 (rfl)
  refine own_pre (A' := T1.setTop (mkF m 38 #[.val (.ref ba), .val (.int (1 : Int32))] [(.int (own_lo c0))])) (fun t k => X1.baloadBytes hx (j := (0 : Int32)) (v := (.int (own_lo c0))) (by rw [e1]; exact Ar_ba_2.1) (State.isArrayOf_alike hZ.alike Ar_ba_2.2.1) Ar_ba_2.2.2 hin_ba_2 hat_ba_2 (g := (mkF m 37 #[.val (.ref ba), .val (.int (1 : Int32))] [(.int (0 : Int32)), (.ref ba)])) rfl rfl (hb hby D24_37.1) _ k) ?_
  refine o_sipush X1 hx hby D24_38 (v := 255) rfl ?_
  refine o_iand X1 hx hby D24_41 ?_
  obtain ⟨T3, X3, e3, st3⟩ := getS2 X1 hx hZ hown (host := "") (Or.inl (own_wd hw (i := 101) rfl)) Via.refl e1 (S_hb.ext O0.2) (g := (mkF m 42 #[.val (.ref ba), .val (.int (1 : Int32))] [(.int ((own_lo c0) &&& (255 : Int32)))])) rfl (hb hby D24_42.1)
  refine own_pre (A' := T3.setTop (mkF m 45 #[.val (.ref ba), .val (.int (1 : Int32))] [(.int (0 : Int32)), (.int ((own_lo c0) &&& (255 : Int32)))])) st3 ?_
  refine o_ishl X3 hx hby D24_45 ?_
  refine o_aloadN X3 hx hby D24_46 rfl rfl ?_
  refine o_iloadN X3 hx hby D24_47 rfl ?_
  obtain ⟨cl_ba_4, Ar_ba_4, q_ba_4, S_ba_4, N_ba_4, H_ba_4, G_ba_4⟩ := id Vb
  have hin_ba_4 : ¬ ((1 : Int32) < 0 ∨ cl_ba_4.slots.size ≤ ((1 : Int32)).toNatClampNeg) := inb_of S_ba_4 ⟨by decide, by decide⟩
  have hat_ba_4 : cl_ba_4.slots[((1 : Int32)).toNatClampNeg]? = some (.int (own_hi c0)) := H_ba_4.at hin_ba_4 (rfl)
  refine own_pre (A' := T3.setTop (mkF m 49 #[.val (.ref ba), .val (.int (1 : Int32))] [(.int (own_hi c0)), (.int (((own_lo c0) &&& (255 : Int32)) <<< ((0 : Int32) &&& 31)))])) (fun t k => X3.baloadBytes hx (j := (1 : Int32)) (v := (.int (own_hi c0))) (by rw [e3]; exact Ar_ba_4.1) (State.isArrayOf_alike hZ.alike Ar_ba_4.2.1) Ar_ba_4.2.2 hin_ba_4 hat_ba_4 (g := (mkF m 48 #[.val (.ref ba), .val (.int (1 : Int32))] [(.int (1 : Int32)), (.ref ba), (.int (((own_lo c0) &&& (255 : Int32)) <<< ((0 : Int32) &&& 31)))])) rfl rfl (hb hby D24_48.1) _ k) ?_
  refine o_sipush X3 hx hby D24_49 (v := 255) rfl ?_
  refine o_iand X3 hx hby D24_52 ?_
  obtain ⟨T5, X5, e5, st5⟩ := getS2 X3 hx hZ hown (host := "") (Or.inl (own_wd hw (i := 102) rfl)) Via.refl e3 (S_lb.ext O0.2) (g := (mkF m 53 #[.val (.ref ba), .val (.int (1 : Int32))] [(.int ((own_hi c0) &&& (255 : Int32))), (.int (((own_lo c0) &&& (255 : Int32)) <<< ((0 : Int32) &&& 31)))])) rfl (hb hby D24_53.1)
  refine own_pre (A' := T5.setTop (mkF m 56 #[.val (.ref ba), .val (.int (1 : Int32))] [(.int (8 : Int32)), (.int ((own_hi c0) &&& (255 : Int32))), (.int (((own_lo c0) &&& (255 : Int32)) <<< ((0 : Int32) &&& 31)))])) st5 ?_
  refine o_ishl X5 hx hby D24_56 ?_
  refine o_ior X5 hx hby D24_57 ?_
  refine o_i2c X5 hx hby D24_58 ?_
  exact own_ret (v := some (.int (own_gc c0))) X5 (fun h => by first | rfl | (rw [Bd.returns] at h; cases h)) (BodyLoose.notSynchronized Bd) (by decide) (by decide) (⟨by rw [own_gcEq hc], N0, e5⟩) (fun fs hr => retN X5 hx (t := .char) Bd.returns (by simp) (hb hby D24_59.1) hr)
def own_QPc21 (Z : State) (ba : Addr) (kb : ClassId) (p2 : Int32) (x0 x1 x2 x3 : Value) (h0 : Heap) (n0 : Nat) (v : Option Value) (h : Heap) (L : List Loc) : Prop := v = none ∧ Fr n0 L ∧ Keep h0 h [ba] ∧ Arv Z h ba kb .byte (4 : Int32) [x0, x1, (.int (own_lo p2)), (.int (own_hi p2))] (.int (0 : Int32))
theorem ef_rs_pc21 (m : MethodId) (ba : Addr) (p2 : Int32) : entryFrame m #[(.ref ba), (.int (1 : Int32)), (.int p2)] 3 = mkF m 0 #[.val (.ref ba), .val (.int (1 : Int32)), .val (.int p2)] [] := by first | (simp [entryFrame, mkF, argsToLocals, Value.category]; done) | rfl
set_option maxRecDepth 65536 in
set_option maxHeartbeats 40000000 in
theorem rs_pc21 (l : Launch) (Z : State) (a0 : Array Value) (hw : ∀ d ∈ tables_1, d.before a0 Z = true) (ws : List Jvm.Cond) (ba : Addr) (p2 : Int32) (kb : ClassId) (x0 x1 x2 x3 : Value) (cs : Int32) (vf : Value) (h0 : Heap) (n0 : Nat) (Z0 : n0 ≤ h0.size) (hST : own_ST Z cs vf) (O0 : Old Z n0 h0) (gn_ba : n0 ≤ ba) (Vb : Arv Z h0 ba kb .byte (4 : Int32) [x0, x1, x2, x3] (.int (0 : Int32))) :
    MetFree l (⟨"java/lang/StringUTF16", "putChar", "([BII)V"⟩ : MethodName) (head1 (Jvm.Cond.code (⟨"java/lang/StringUTF16", "putChar", "([BII)V"⟩ : MethodName) jdk_52_method_4_code 3 none :: ws) ({ frames := 0, cells := 0, slots := 0, locals := 0 } : Room)) (fun a U => a = #[(.ref ba), (.int (1 : Int32)), (.int p2)] ∧ Z.Warmed39 U.vm ∧ U.heap = h0) (fun _ _ _ _ _ => True) (fun _ U o U' => ∃ v L, o = .returned v ∧ own_QPc21 Z ba kb p2 x0 x1 x2 x3 h0 n0 v U'.heap L ∧ FrameEnd U o U' L ({ frames := 0, cells := 0, slots := 0, locals := 0 } : Room).cells ({ frames := 0, cells := 0, slots := 0, locals := 0 } : Room).slots) := by
  refine MetFree.of_bodySF (plainFor_of_name pn_java_lang_StringUTF16) hisR ?_
  intro p e s m args below meth c s₁ Bd hml0 hP hK
  obtain ⟨rfl, hZ, hh⟩ := hP
  have hx := Bd.exec
  have hby := Bd.bytes
  have hml : c.maxLocals = 3 := hml0
  have hown : s.vm.findClass "java/lang/StringUTF16" = some m.cls := findClass_of_methodNamed Bd.named
  have hnm := (name_of_methodNamed Bd.named Bd.method).1
  have X0 : Stand p l e ({ frames := 0, cells := 0, slots := 0, locals := 0 } : Room) s m #[(.ref ba), (.int (1 : Int32)), (.int p2)] below meth c s₁ [] 0 0 := Stand.of_body Bd
  have e0 : s₁.heap = h0 := by rw [← hh, Bd.state]; rfl
  have N0 := Fr.nil n0
  refine own_start (ef_rs_pc21 m ba p2) ?_
  obtain ⟨S_cs, S_ad, S_hb, S_lb, S_sf, hcs, hvf⟩ := hST
  have lt_ba := own_ltN Vb.lt
  obtain ⟨T1, X1, e1, st1⟩ := getS2 X0 hx hZ hown (host := "") (Or.inl (own_wd hw (i := 100) rfl)) Via.refl e0 (S_ad.ext O0.2) (g := (mkF m 0 #[.val (.ref ba), .val (.int (1 : Int32)), .val (.int p2)] [])) rfl (hb hby D23_0.1)
  refine own_pre (A' := T1.setTop (mkF m 3 #[.val (.ref ba), .val (.int (1 : Int32)), .val (.int p2)] [(.int (1 : Int32))])) st1 ?_
  refine o_ifY X1 hx hby D23_3 ((if0 _ _).trans (feq (by decide : ¬ ((1 : Int32) = (0 : Int32)))).2) (q := 28) (by decide) (by decide) ?_
  refine o_iloadN X1 hx hby D23_28 rfl ?_
  refine o_iconst X1 hx hby D23_29 (v := 1) rfl ?_
  refine o_ishl X1 hx hby D23_30 ?_
  rw [(by decide : ((1 : Int32) <<< ((1 : Int32) &&& 31)) = (2 : Int32))]
  refine o_istoreN X1 hx hby D23_31 (l' := #[.val (.ref ba), .val (.int (2 : Int32)), .val (.int p2)]) rfl ?_
  refine o_aloadN X1 hx hby D23_32 rfl rfl ?_
  refine o_iloadN X1 hx hby D23_33 rfl ?_
  refine o_iinc X1 hx hby D23_34 rfl (l' := #[.val (.ref ba), .val (.int ((2 : Int32) + (1 : Int32))), .val (.int p2)]) rfl ?_
  rw [(by decide : ((2 : Int32) + (1 : Int32)) = (3 : Int32))]
  refine o_iloadN X1 hx hby D23_37 rfl ?_
  obtain ⟨T2, X2, e2, st2⟩ := getS2 X1 hx hZ hown (host := "") (Or.inl (own_wd hw (i := 101) rfl)) Via.refl e1 (S_hb.ext O0.2) (g := (mkF m 38 #[.val (.ref ba), .val (.int (3 : Int32)), .val (.int p2)] [(.int p2), (.int (2 : Int32)), (.ref ba)])) rfl (hb hby D23_38.1)
  refine own_pre (A' := T2.setTop (mkF m 41 #[.val (.ref ba), .val (.int (3 : Int32)), .val (.int p2)] [(.int (0 : Int32)), (.int p2), (.int (2 : Int32)), (.ref ba)])) st2 ?_
  refine o_ishr X2 hx hby D23_41 ?_
  refine o_i2b X2 hx hby D23_42 ?_
  obtain ⟨cl_ba_3, Ar_ba_3, q_ba_3, S_ba_3, N_ba_3, H_ba_3, G_ba_3⟩ := id Vb
  have hin_ba_3 : ¬ ((2 : Int32) < 0 ∨ cl_ba_3.slots.size ≤ ((2 : Int32)).toNatClampNeg) := inb_of S_ba_3 ⟨by decide, by decide⟩
  obtain ⟨T3, h3, X3, e3, W3, st3⟩ := stB X2 hx hZ e2 Ar_ba_3 (j := (2 : Int32)) hin_ba_3 (g := (mkF m 43 #[.val (.ref ba), .val (.int (3 : Int32)), .val (.int p2)] [(.int (((p2 >>> ((0 : Int32) &&& 31))).toInt8.toInt32)), (.int (2 : Int32)), (.ref ba)])) rfl rfl (hb hby D23_43.1)
  have V_ba_3 : Arv Z h3 ba kb .byte (4 : Int32) [x0, x1, (.int (nar .byte (((p2 >>> ((0 : Int32) &&& 31))).toInt8.toInt32))), x3] (.int (0 : Int32)) := Arv.set Ar_ba_3 q_ba_3 S_ba_3 N_ba_3 H_ba_3 G_ba_3 (fits_nar_byte _) W3 2 rfl (Nat.le_of_ble_eq_true rfl)
  have sz3 := own_leN (Keep.of_wr W3).1
  have N3 := Fr.snoc X3 N0 gn_ba
  refine own_pre (A' := T3.setTop (mkF m 44 #[.val (.ref ba), .val (.int (3 : Int32)), .val (.int p2)] [])) st3 ?_
  refine o_aloadN X3 hx hby D23_44 rfl rfl ?_
  refine o_iloadN X3 hx hby D23_45 rfl ?_
  refine o_iloadN X3 hx hby D23_46 rfl ?_
  have c5_O := (O0.wr W3 gn_ba)
  obtain ⟨T4, X4, e4, st4⟩ := getS2 X3 hx hZ hown (host := "") (Or.inl (own_wd hw (i := 102) rfl)) Via.refl e3 (S_lb.ext c5_O.2) (g := (mkF m 47 #[.val (.ref ba), .val (.int (3 : Int32)), .val (.int p2)] [(.int p2), (.int (3 : Int32)), (.ref ba)])) rfl (hb hby D23_47.1)
  refine own_pre (A' := T4.setTop (mkF m 50 #[.val (.ref ba), .val (.int (3 : Int32)), .val (.int p2)] [(.int (8 : Int32)), (.int p2), (.int (3 : Int32)), (.ref ba)])) st4 ?_
  refine o_ishr X4 hx hby D23_50 ?_
  refine o_i2b X4 hx hby D23_51 ?_
  obtain ⟨cl_ba_6, Ar_ba_6, q_ba_6, S_ba_6, N_ba_6, H_ba_6, G_ba_6⟩ := id V_ba_3
  have hin_ba_6 : ¬ ((3 : Int32) < 0 ∨ cl_ba_6.slots.size ≤ ((3 : Int32)).toNatClampNeg) := inb_of S_ba_6 ⟨by decide, by decide⟩
  obtain ⟨T6, h6, X6, e6, W6, st6⟩ := stB X4 hx hZ e4 Ar_ba_6 (j := (3 : Int32)) hin_ba_6 (g := (mkF m 52 #[.val (.ref ba), .val (.int (3 : Int32)), .val (.int p2)] [(.int (((p2 >>> ((8 : Int32) &&& 31))).toInt8.toInt32)), (.int (3 : Int32)), (.ref ba)])) rfl rfl (hb hby D23_52.1)
  have V_ba_6 : Arv Z h6 ba kb .byte (4 : Int32) [x0, x1, (.int (nar .byte (((p2 >>> ((0 : Int32) &&& 31))).toInt8.toInt32))), (.int (nar .byte (((p2 >>> ((8 : Int32) &&& 31))).toInt8.toInt32)))] (.int (0 : Int32)) := Arv.set Ar_ba_6 q_ba_6 S_ba_6 N_ba_6 H_ba_6 G_ba_6 (fits_nar_byte _) W6 3 rfl (Nat.le_of_ble_eq_true rfl)
  have sz6 := own_leN (Keep.of_wr W6).1
  have N6 := Fr.snoc X6 N3 gn_ba
  refine own_pre (A' := T6.setTop (mkF m 53 #[.val (.ref ba), .val (.int (3 : Int32)), .val (.int p2)] [])) st6 ?_
  have KK : Keep h0 h6 [ba] := (((Keep.refl h0 [ba]).wr W3 (Or.inl (by simp))).wr W6 (Or.inl (by simp)))
  have VV : Arv Z h6 ba kb .byte (4 : Int32) [x0, x1, (.int (own_lo p2)), (.int (own_hi p2))] (.int (0 : Int32)) := V_ba_6
  exact own_ret (v := none) X6 (fun h => by first | rfl | (rw [Bd.returns] at h; cases h)) (BodyLoose.notSynchronized Bd) (by decide) (by decide) (by rw [e6]; exact ⟨rfl, N6, KK, VV⟩) (fun fs hr => X6.returnOut hx Bd.returns (hb hby D23_53.1) hr)
theorem ef_rs_gc21 (m : MethodId) (ba : Addr) : entryFrame m #[(.ref ba), (.int (1 : Int32))] 2 = mkF m 0 #[.val (.ref ba), .val (.int (1 : Int32))] [] := by first | (simp [entryFrame, mkF, argsToLocals, Value.category]; done) | rfl
set_option maxRecDepth 65536 in
set_option maxHeartbeats 40000000 in
theorem rs_gc21 (l : Launch) (Z : State) (a0 : Array Value) (hw : ∀ d ∈ tables_1, d.before a0 Z = true) (ws : List Jvm.Cond) (ba : Addr) (kb : ClassId) (c0 c1 : Int32) (cs : Int32) (vf : Value) (h0 : Heap) (n0 : Nat) (Z0 : n0 ≤ h0.size) (hST : own_ST Z cs vf) (O0 : Old Z n0 h0) (Vb : Arv Z h0 ba kb .byte (4 : Int32) [(.int (own_lo c0)), (.int (own_hi c0)), (.int (own_lo c1)), (.int (own_hi c1))] (.int (0 : Int32))) (hc : own_ch16 c1) :
    MetFree l (⟨"java/lang/StringUTF16", "getChar", "([BI)C"⟩ : MethodName) (head1 (Jvm.Cond.code (⟨"java/lang/StringUTF16", "getChar", "([BI)C"⟩ : MethodName) jdk_52_method_5_code 2 (some .char) :: ws) ({ frames := 0, cells := 0, slots := 0, locals := 0 } : Room)) (fun a U => a = #[(.ref ba), (.int (1 : Int32))] ∧ Z.Warmed39 U.vm ∧ U.heap = h0) (fun _ _ _ _ _ => True) (fun _ U o U' => ∃ v L, o = .returned v ∧ own_QP (.int c1) h0 n0 v U'.heap L ∧ FrameEnd U o U' L ({ frames := 0, cells := 0, slots := 0, locals := 0 } : Room).cells ({ frames := 0, cells := 0, slots := 0, locals := 0 } : Room).slots) := by
  refine MetFree.of_bodySF (plainFor_of_name pn_java_lang_StringUTF16) hisR ?_
  intro p e s m args below meth c s₁ Bd hml0 hP hK
  obtain ⟨rfl, hZ, hh⟩ := hP
  have hx := Bd.exec
  have hby := Bd.bytes
  have hml : c.maxLocals = 2 := hml0
  have hown : s.vm.findClass "java/lang/StringUTF16" = some m.cls := findClass_of_methodNamed Bd.named
  have hnm := (name_of_methodNamed Bd.named Bd.method).1
  have X0 : Stand p l e ({ frames := 0, cells := 0, slots := 0, locals := 0 } : Room) s m #[(.ref ba), (.int (1 : Int32))] below meth c s₁ [] 0 0 := Stand.of_body Bd
  have e0 : s₁.heap = h0 := by rw [← hh, Bd.state]; rfl
  have N0 := Fr.nil n0
  refine own_start (ef_rs_gc21 m ba) ?_
  obtain ⟨S_cs, S_ad, S_hb, S_lb, S_sf, hcs, hvf⟩ := hST
  have lt_ba := own_ltN Vb.lt
  obtain ⟨T1, X1, e1, st1⟩ := getS2 X0 hx hZ hown (host := "") (Or.inl (own_wd hw (i := 100) rfl)) Via.refl e0 (S_ad.ext O0.2) (g := (mkF m 0 #[.val (.ref ba), .val (.int (1 : Int32))] [])) rfl (hb hby D24_0.1)
  refine own_pre (A' := T1.setTop (mkF m 3 #[.val (.ref ba), .val (.int (1 : Int32))] [(.int (1 : Int32))])) st1 ?_
  refine o_ifY X1 hx hby D24_3 ((if0 _ _).trans (feq (by decide : ¬ ((1 : Int32) = (0 : Int32)))).2) (q := 28) (by decide) (by decide) ?_
  refine o_iloadN X1 hx hby D24_28 rfl ?_
  refine o_iconst X1 hx hby D24_29 (v := 1) rfl ?_
  refine o_ishl X1 hx hby D24_30 ?_
  rw [(by decide : ((1 : Int32) <<< ((1 : Int32) &&& 31)) = (2 : Int32))]
  refine o_istoreN X1 hx hby D24_31 (l' := #[.val (.ref ba), .val (.int (2 : Int32))]) rfl ?_
  refine o_aloadN X1 hx hby D24_32 rfl rfl ?_
  refine o_iloadN X1 hx hby D24_33 rfl ?_
  refine o_iinc X1 hx hby D24_34 rfl (l' := #[.val (.ref ba), .val (.int ((2 : Int32) + (1 : Int32)))]) rfl ?_
  rw [(by decide : ((2 : Int32) + (1 : Int32)) = (3 : Int32))]
  obtain ⟨cl_ba_2, Ar_ba_2, q_ba_2, S_ba_2, N_ba_2, H_ba_2, G_ba_2⟩ := id Vb
  have hin_ba_2 : ¬ ((2 : Int32) < 0 ∨ cl_ba_2.slots.size ≤ ((2 : Int32)).toNatClampNeg) := inb_of S_ba_2 ⟨by decide, by decide⟩
  have hat_ba_2 : cl_ba_2.slots[((2 : Int32)).toNatClampNeg]? = some (.int (own_lo c1)) := H_ba_2.at hin_ba_2 (rfl)
  refine own_pre (A' := T1.setTop (mkF m 38 #[.val (.ref ba), .val (.int (3 : Int32))] [(.int (own_lo c1))])) (fun t k => X1.baloadBytes hx (j := (2 : Int32)) (v := (.int (own_lo c1))) (by rw [e1]; exact Ar_ba_2.1) (State.isArrayOf_alike hZ.alike Ar_ba_2.2.1) Ar_ba_2.2.2 hin_ba_2 hat_ba_2 (g := (mkF m 37 #[.val (.ref ba), .val (.int (3 : Int32))] [(.int (2 : Int32)), (.ref ba)])) rfl rfl (hb hby D24_37.1) _ k) ?_
  refine o_sipush X1 hx hby D24_38 (v := 255) rfl ?_
  refine o_iand X1 hx hby D24_41 ?_
  obtain ⟨T3, X3, e3, st3⟩ := getS2 X1 hx hZ hown (host := "") (Or.inl (own_wd hw (i := 101) rfl)) Via.refl e1 (S_hb.ext O0.2) (g := (mkF m 42 #[.val (.ref ba), .val (.int (3 : Int32))] [(.int ((own_lo c1) &&& (255 : Int32)))])) rfl (hb hby D24_42.1)
  refine own_pre (A' := T3.setTop (mkF m 45 #[.val (.ref ba), .val (.int (3 : Int32))] [(.int (0 : Int32)), (.int ((own_lo c1) &&& (255 : Int32)))])) st3 ?_
  refine o_ishl X3 hx hby D24_45 ?_
  refine o_aloadN X3 hx hby D24_46 rfl rfl ?_
  refine o_iloadN X3 hx hby D24_47 rfl ?_
  obtain ⟨cl_ba_4, Ar_ba_4, q_ba_4, S_ba_4, N_ba_4, H_ba_4, G_ba_4⟩ := id Vb
  have hin_ba_4 : ¬ ((3 : Int32) < 0 ∨ cl_ba_4.slots.size ≤ ((3 : Int32)).toNatClampNeg) := inb_of S_ba_4 ⟨by decide, by decide⟩
  have hat_ba_4 : cl_ba_4.slots[((3 : Int32)).toNatClampNeg]? = some (.int (own_hi c1)) := H_ba_4.at hin_ba_4 (rfl)
  refine own_pre (A' := T3.setTop (mkF m 49 #[.val (.ref ba), .val (.int (3 : Int32))] [(.int (own_hi c1)), (.int (((own_lo c1) &&& (255 : Int32)) <<< ((0 : Int32) &&& 31)))])) (fun t k => X3.baloadBytes hx (j := (3 : Int32)) (v := (.int (own_hi c1))) (by rw [e3]; exact Ar_ba_4.1) (State.isArrayOf_alike hZ.alike Ar_ba_4.2.1) Ar_ba_4.2.2 hin_ba_4 hat_ba_4 (g := (mkF m 48 #[.val (.ref ba), .val (.int (3 : Int32))] [(.int (3 : Int32)), (.ref ba), (.int (((own_lo c1) &&& (255 : Int32)) <<< ((0 : Int32) &&& 31)))])) rfl rfl (hb hby D24_48.1) _ k) ?_
  refine o_sipush X3 hx hby D24_49 (v := 255) rfl ?_
  refine o_iand X3 hx hby D24_52 ?_
  obtain ⟨T5, X5, e5, st5⟩ := getS2 X3 hx hZ hown (host := "") (Or.inl (own_wd hw (i := 102) rfl)) Via.refl e3 (S_lb.ext O0.2) (g := (mkF m 53 #[.val (.ref ba), .val (.int (3 : Int32))] [(.int ((own_hi c1) &&& (255 : Int32))), (.int (((own_lo c1) &&& (255 : Int32)) <<< ((0 : Int32) &&& 31)))])) rfl (hb hby D24_53.1)
  refine own_pre (A' := T5.setTop (mkF m 56 #[.val (.ref ba), .val (.int (3 : Int32))] [(.int (8 : Int32)), (.int ((own_hi c1) &&& (255 : Int32))), (.int (((own_lo c1) &&& (255 : Int32)) <<< ((0 : Int32) &&& 31)))])) st5 ?_
  refine o_ishl X5 hx hby D24_56 ?_
  refine o_ior X5 hx hby D24_57 ?_
  refine o_i2c X5 hx hby D24_58 ?_
  exact own_ret (v := some (.int (own_gc c1))) X5 (fun h => by first | rfl | (rw [Bd.returns] at h; cases h)) (BodyLoose.notSynchronized Bd) (by decide) (by decide) (⟨by rw [own_gcEq hc], N0, e5⟩) (fun fs hr => retN X5 hx (t := .char) Bd.returns (by simp) (hb hby D24_59.1) hr)
def own_QPc30 (Z : State) (ba : Addr) (kb : ClassId) (p2 : Int32) (x0 x1 x2 x3 x4 x5 : Value) (h0 : Heap) (n0 : Nat) (v : Option Value) (h : Heap) (L : List Loc) : Prop := v = none ∧ Fr n0 L ∧ Keep h0 h [ba] ∧ Arv Z h ba kb .byte (6 : Int32) [(.int (own_lo p2)), (.int (own_hi p2)), x2, x3, x4, x5] (.int (0 : Int32))
theorem ef_rs_pc30 (m : MethodId) (ba : Addr) (p2 : Int32) : entryFrame m #[(.ref ba), (.int (0 : Int32)), (.int p2)] 3 = mkF m 0 #[.val (.ref ba), .val (.int (0 : Int32)), .val (.int p2)] [] := by first | (simp [entryFrame, mkF, argsToLocals, Value.category]; done) | rfl
set_option maxRecDepth 65536 in
set_option maxHeartbeats 40000000 in
theorem rs_pc30 (l : Launch) (Z : State) (a0 : Array Value) (hw : ∀ d ∈ tables_1, d.before a0 Z = true) (ws : List Jvm.Cond) (ba : Addr) (p2 : Int32) (kb : ClassId) (x0 x1 x2 x3 x4 x5 : Value) (cs : Int32) (vf : Value) (h0 : Heap) (n0 : Nat) (Z0 : n0 ≤ h0.size) (hST : own_ST Z cs vf) (O0 : Old Z n0 h0) (gn_ba : n0 ≤ ba) (Vb : Arv Z h0 ba kb .byte (6 : Int32) [x0, x1, x2, x3, x4, x5] (.int (0 : Int32))) :
    MetFree l (⟨"java/lang/StringUTF16", "putChar", "([BII)V"⟩ : MethodName) (head1 (Jvm.Cond.code (⟨"java/lang/StringUTF16", "putChar", "([BII)V"⟩ : MethodName) jdk_52_method_4_code 3 none :: ws) ({ frames := 0, cells := 0, slots := 0, locals := 0 } : Room)) (fun a U => a = #[(.ref ba), (.int (0 : Int32)), (.int p2)] ∧ Z.Warmed39 U.vm ∧ U.heap = h0) (fun _ _ _ _ _ => True) (fun _ U o U' => ∃ v L, o = .returned v ∧ own_QPc30 Z ba kb p2 x0 x1 x2 x3 x4 x5 h0 n0 v U'.heap L ∧ FrameEnd U o U' L ({ frames := 0, cells := 0, slots := 0, locals := 0 } : Room).cells ({ frames := 0, cells := 0, slots := 0, locals := 0 } : Room).slots) := by
  refine MetFree.of_bodySF (plainFor_of_name pn_java_lang_StringUTF16) hisR ?_
  intro p e s m args below meth c s₁ Bd hml0 hP hK
  obtain ⟨rfl, hZ, hh⟩ := hP
  have hx := Bd.exec
  have hby := Bd.bytes
  have hml : c.maxLocals = 3 := hml0
  have hown : s.vm.findClass "java/lang/StringUTF16" = some m.cls := findClass_of_methodNamed Bd.named
  have hnm := (name_of_methodNamed Bd.named Bd.method).1
  have X0 : Stand p l e ({ frames := 0, cells := 0, slots := 0, locals := 0 } : Room) s m #[(.ref ba), (.int (0 : Int32)), (.int p2)] below meth c s₁ [] 0 0 := Stand.of_body Bd
  have e0 : s₁.heap = h0 := by rw [← hh, Bd.state]; rfl
  have N0 := Fr.nil n0
  refine own_start (ef_rs_pc30 m ba p2) ?_
  obtain ⟨S_cs, S_ad, S_hb, S_lb, S_sf, hcs, hvf⟩ := hST
  have lt_ba := own_ltN Vb.lt
  obtain ⟨T1, X1, e1, st1⟩ := getS2 X0 hx hZ hown (host := "") (Or.inl (own_wd hw (i := 100) rfl)) Via.refl e0 (S_ad.ext O0.2) (g := (mkF m 0 #[.val (.ref ba), .val (.int (0 : Int32)), .val (.int p2)] [])) rfl (hb hby D23_0.1)
  refine own_pre (A' := T1.setTop (mkF m 3 #[.val (.ref ba), .val (.int (0 : Int32)), .val (.int p2)] [(.int (1 : Int32))])) st1 ?_
  refine o_ifY X1 hx hby D23_3 ((if0 _ _).trans (feq (by decide : ¬ ((1 : Int32) = (0 : Int32)))).2) (q := 28) (by decide) (by decide) ?_
  refine o_iloadN X1 hx hby D23_28 rfl ?_
  refine o_iconst X1 hx hby D23_29 (v := 1) rfl ?_
  refine o_ishl X1 hx hby D23_30 ?_
  rw [(by decide : ((0 : Int32) <<< ((1 : Int32) &&& 31)) = (0 : Int32))]
  refine o_istoreN X1 hx hby D23_31 (l' := #[.val (.ref ba), .val (.int (0 : Int32)), .val (.int p2)]) rfl ?_
  refine o_aloadN X1 hx hby D23_32 rfl rfl ?_
  refine o_iloadN X1 hx hby D23_33 rfl ?_
  refine o_iinc X1 hx hby D23_34 rfl (l' := #[.val (.ref ba), .val (.int ((0 : Int32) + (1 : Int32))), .val (.int p2)]) rfl ?_
  rw [(by decide : ((0 : Int32) + (1 : Int32)) = (1 : Int32))]
  refine o_iloadN X1 hx hby D23_37 rfl ?_
  obtain ⟨T2, X2, e2, st2⟩ := getS2 X1 hx hZ hown (host := "") (Or.inl (own_wd hw (i := 101) rfl)) Via.refl e1 (S_hb.ext O0.2) (g := (mkF m 38 #[.val (.ref ba), .val (.int (1 : Int32)), .val (.int p2)] [(.int p2), (.int (0 : Int32)), (.ref ba)])) rfl (hb hby D23_38.1)
  refine own_pre (A' := T2.setTop (mkF m 41 #[.val (.ref ba), .val (.int (1 : Int32)), .val (.int p2)] [(.int (0 : Int32)), (.int p2), (.int (0 : Int32)), (.ref ba)])) st2 ?_
  refine o_ishr X2 hx hby D23_41 ?_
  refine o_i2b X2 hx hby D23_42 ?_
  obtain ⟨cl_ba_3, Ar_ba_3, q_ba_3, S_ba_3, N_ba_3, H_ba_3, G_ba_3⟩ := id Vb
  have hin_ba_3 : ¬ ((0 : Int32) < 0 ∨ cl_ba_3.slots.size ≤ ((0 : Int32)).toNatClampNeg) := inb_of S_ba_3 ⟨by decide, by decide⟩
  obtain ⟨T3, h3, X3, e3, W3, st3⟩ := stB X2 hx hZ e2 Ar_ba_3 (j := (0 : Int32)) hin_ba_3 (g := (mkF m 43 #[.val (.ref ba), .val (.int (1 : Int32)), .val (.int p2)] [(.int (((p2 >>> ((0 : Int32) &&& 31))).toInt8.toInt32)), (.int (0 : Int32)), (.ref ba)])) rfl rfl (hb hby D23_43.1)
  have V_ba_3 : Arv Z h3 ba kb .byte (6 : Int32) [(.int (nar .byte (((p2 >>> ((0 : Int32) &&& 31))).toInt8.toInt32))), x1, x2, x3, x4, x5] (.int (0 : Int32)) := Arv.set Ar_ba_3 q_ba_3 S_ba_3 N_ba_3 H_ba_3 G_ba_3 (fits_nar_byte _) W3 0 rfl (Nat.le_of_ble_eq_true rfl)
  have sz3 := own_leN (Keep.of_wr W3).1
  have N3 := Fr.snoc X3 N0 gn_ba
  refine own_pre (A' := T3.setTop (mkF m 44 #[.val (.ref ba), .val (.int (1 : Int32)), .val (.int p2)] [])) st3 ?_
  refine o_aloadN X3 hx hby D23_44 rfl rfl ?_
  refine o_iloadN X3 hx hby D23_45 rfl ?_
  refine o_iloadN X3 hx hby D23_46 rfl ?_
  have c5_O := (O0.wr W3 gn_ba)
  obtain ⟨T4, X4, e4, st4⟩ := getS2 X3 hx hZ hown (host := "") (Or.inl (own_wd hw (i := 102) rfl)) Via.refl e3 (S_lb.ext c5_O.2) (g := (mkF m 47 #[.val (.ref ba), .val (.int (1 : Int32)), .val (.int p2)] [(.int p2), (.int (1 : Int32)), (.ref ba)])) rfl (hb hby D23_47.1)
  refine own_pre (A' := T4.setTop (mkF m 50 #[.val (.ref ba), .val (.int (1 : Int32)), .val (.int p2)] [(.int (8 : Int32)), (.int p2), (.int (1 : Int32)), (.ref ba)])) st4 ?_
  refine o_ishr X4 hx hby D23_50 ?_
  refine o_i2b X4 hx hby D23_51 ?_
  obtain ⟨cl_ba_6, Ar_ba_6, q_ba_6, S_ba_6, N_ba_6, H_ba_6, G_ba_6⟩ := id V_ba_3
  have hin_ba_6 : ¬ ((1 : Int32) < 0 ∨ cl_ba_6.slots.size ≤ ((1 : Int32)).toNatClampNeg) := inb_of S_ba_6 ⟨by decide, by decide⟩
  obtain ⟨T6, h6, X6, e6, W6, st6⟩ := stB X4 hx hZ e4 Ar_ba_6 (j := (1 : Int32)) hin_ba_6 (g := (mkF m 52 #[.val (.ref ba), .val (.int (1 : Int32)), .val (.int p2)] [(.int (((p2 >>> ((8 : Int32) &&& 31))).toInt8.toInt32)), (.int (1 : Int32)), (.ref ba)])) rfl rfl (hb hby D23_52.1)
  have V_ba_6 : Arv Z h6 ba kb .byte (6 : Int32) [(.int (nar .byte (((p2 >>> ((0 : Int32) &&& 31))).toInt8.toInt32))), (.int (nar .byte (((p2 >>> ((8 : Int32) &&& 31))).toInt8.toInt32))), x2, x3, x4, x5] (.int (0 : Int32)) := Arv.set Ar_ba_6 q_ba_6 S_ba_6 N_ba_6 H_ba_6 G_ba_6 (fits_nar_byte _) W6 1 rfl (Nat.le_of_ble_eq_true rfl)
  have sz6 := own_leN (Keep.of_wr W6).1
  have N6 := Fr.snoc X6 N3 gn_ba
  refine own_pre (A' := T6.setTop (mkF m 53 #[.val (.ref ba), .val (.int (1 : Int32)), .val (.int p2)] [])) st6 ?_
  have KK : Keep h0 h6 [ba] := (((Keep.refl h0 [ba]).wr W3 (Or.inl (by simp))).wr W6 (Or.inl (by simp)))
  have VV : Arv Z h6 ba kb .byte (6 : Int32) [(.int (own_lo p2)), (.int (own_hi p2)), x2, x3, x4, x5] (.int (0 : Int32)) := V_ba_6
  exact own_ret (v := none) X6 (fun h => by first | rfl | (rw [Bd.returns] at h; cases h)) (BodyLoose.notSynchronized Bd) (by decide) (by decide) (by rw [e6]; exact ⟨rfl, N6, KK, VV⟩) (fun fs hr => X6.returnOut hx Bd.returns (hb hby D23_53.1) hr)
theorem ef_rs_gc30 (m : MethodId) (ba : Addr) : entryFrame m #[(.ref ba), (.int (0 : Int32))] 2 = mkF m 0 #[.val (.ref ba), .val (.int (0 : Int32))] [] := by first | (simp [entryFrame, mkF, argsToLocals, Value.category]; done) | rfl
set_option maxRecDepth 65536 in
set_option maxHeartbeats 40000000 in
theorem rs_gc30 (l : Launch) (Z : State) (a0 : Array Value) (hw : ∀ d ∈ tables_1, d.before a0 Z = true) (ws : List Jvm.Cond) (ba : Addr) (kb : ClassId) (c0 c1 c2 : Int32) (cs : Int32) (vf : Value) (h0 : Heap) (n0 : Nat) (Z0 : n0 ≤ h0.size) (hST : own_ST Z cs vf) (O0 : Old Z n0 h0) (Vb : Arv Z h0 ba kb .byte (6 : Int32) [(.int (own_lo c0)), (.int (own_hi c0)), (.int (own_lo c1)), (.int (own_hi c1)), (.int (own_lo c2)), (.int (own_hi c2))] (.int (0 : Int32))) (hc : own_ch16 c0) :
    MetFree l (⟨"java/lang/StringUTF16", "getChar", "([BI)C"⟩ : MethodName) (head1 (Jvm.Cond.code (⟨"java/lang/StringUTF16", "getChar", "([BI)C"⟩ : MethodName) jdk_52_method_5_code 2 (some .char) :: ws) ({ frames := 0, cells := 0, slots := 0, locals := 0 } : Room)) (fun a U => a = #[(.ref ba), (.int (0 : Int32))] ∧ Z.Warmed39 U.vm ∧ U.heap = h0) (fun _ _ _ _ _ => True) (fun _ U o U' => ∃ v L, o = .returned v ∧ own_QP (.int c0) h0 n0 v U'.heap L ∧ FrameEnd U o U' L ({ frames := 0, cells := 0, slots := 0, locals := 0 } : Room).cells ({ frames := 0, cells := 0, slots := 0, locals := 0 } : Room).slots) := by
  refine MetFree.of_bodySF (plainFor_of_name pn_java_lang_StringUTF16) hisR ?_
  intro p e s m args below meth c s₁ Bd hml0 hP hK
  obtain ⟨rfl, hZ, hh⟩ := hP
  have hx := Bd.exec
  have hby := Bd.bytes
  have hml : c.maxLocals = 2 := hml0
  have hown : s.vm.findClass "java/lang/StringUTF16" = some m.cls := findClass_of_methodNamed Bd.named
  have hnm := (name_of_methodNamed Bd.named Bd.method).1
  have X0 : Stand p l e ({ frames := 0, cells := 0, slots := 0, locals := 0 } : Room) s m #[(.ref ba), (.int (0 : Int32))] below meth c s₁ [] 0 0 := Stand.of_body Bd
  have e0 : s₁.heap = h0 := by rw [← hh, Bd.state]; rfl
  have N0 := Fr.nil n0
  refine own_start (ef_rs_gc30 m ba) ?_
  obtain ⟨S_cs, S_ad, S_hb, S_lb, S_sf, hcs, hvf⟩ := hST
  have lt_ba := own_ltN Vb.lt
  obtain ⟨T1, X1, e1, st1⟩ := getS2 X0 hx hZ hown (host := "") (Or.inl (own_wd hw (i := 100) rfl)) Via.refl e0 (S_ad.ext O0.2) (g := (mkF m 0 #[.val (.ref ba), .val (.int (0 : Int32))] [])) rfl (hb hby D24_0.1)
  refine own_pre (A' := T1.setTop (mkF m 3 #[.val (.ref ba), .val (.int (0 : Int32))] [(.int (1 : Int32))])) st1 ?_
  refine o_ifY X1 hx hby D24_3 ((if0 _ _).trans (feq (by decide : ¬ ((1 : Int32) = (0 : Int32)))).2) (q := 28) (by decide) (by decide) ?_
  refine o_iloadN X1 hx hby D24_28 rfl ?_
  refine o_iconst X1 hx hby D24_29 (v := 1) rfl ?_
  refine o_ishl X1 hx hby D24_30 ?_
  rw [(by decide : ((0 : Int32) <<< ((1 : Int32) &&& 31)) = (0 : Int32))]
  refine o_istoreN X1 hx hby D24_31 (l' := #[.val (.ref ba), .val (.int (0 : Int32))]) rfl ?_
  refine o_aloadN X1 hx hby D24_32 rfl rfl ?_
  refine o_iloadN X1 hx hby D24_33 rfl ?_
  refine o_iinc X1 hx hby D24_34 rfl (l' := #[.val (.ref ba), .val (.int ((0 : Int32) + (1 : Int32)))]) rfl ?_
  rw [(by decide : ((0 : Int32) + (1 : Int32)) = (1 : Int32))]
  obtain ⟨cl_ba_2, Ar_ba_2, q_ba_2, S_ba_2, N_ba_2, H_ba_2, G_ba_2⟩ := id Vb
  have hin_ba_2 : ¬ ((0 : Int32) < 0 ∨ cl_ba_2.slots.size ≤ ((0 : Int32)).toNatClampNeg) := inb_of S_ba_2 ⟨by decide, by decide⟩
  have hat_ba_2 : cl_ba_2.slots[((0 : Int32)).toNatClampNeg]? = some (.int (own_lo c0)) := H_ba_2.at hin_ba_2 (rfl)
  refine own_pre (A' := T1.setTop (mkF m 38 #[.val (.ref ba), .val (.int (1 : Int32))] [(.int (own_lo c0))])) (fun t k => X1.baloadBytes hx (j := (0 : Int32)) (v := (.int (own_lo c0))) (by rw [e1]; exact Ar_ba_2.1) (State.isArrayOf_alike hZ.alike Ar_ba_2.2.1) Ar_ba_2.2.2 hin_ba_2 hat_ba_2 (g := (mkF m 37 #[.val (.ref ba), .val (.int (1 : Int32))] [(.int (0 : Int32)), (.ref ba)])) rfl rfl (hb hby D24_37.1) _ k) ?_
  refine o_sipush X1 hx hby D24_38 (v := 255) rfl ?_
  refine o_iand X1 hx hby D24_41 ?_
  obtain ⟨T3, X3, e3, st3⟩ := getS2 X1 hx hZ hown (host := "") (Or.inl (own_wd hw (i := 101) rfl)) Via.refl e1 (S_hb.ext O0.2) (g := (mkF m 42 #[.val (.ref ba), .val (.int (1 : Int32))] [(.int ((own_lo c0) &&& (255 : Int32)))])) rfl (hb hby D24_42.1)
  refine own_pre (A' := T3.setTop (mkF m 45 #[.val (.ref ba), .val (.int (1 : Int32))] [(.int (0 : Int32)), (.int ((own_lo c0) &&& (255 : Int32)))])) st3 ?_
  refine o_ishl X3 hx hby D24_45 ?_
  refine o_aloadN X3 hx hby D24_46 rfl rfl ?_
  refine o_iloadN X3 hx hby D24_47 rfl ?_
  obtain ⟨cl_ba_4, Ar_ba_4, q_ba_4, S_ba_4, N_ba_4, H_ba_4, G_ba_4⟩ := id Vb
  have hin_ba_4 : ¬ ((1 : Int32) < 0 ∨ cl_ba_4.slots.size ≤ ((1 : Int32)).toNatClampNeg) := inb_of S_ba_4 ⟨by decide, by decide⟩
  have hat_ba_4 : cl_ba_4.slots[((1 : Int32)).toNatClampNeg]? = some (.int (own_hi c0)) := H_ba_4.at hin_ba_4 (rfl)
  refine own_pre (A' := T3.setTop (mkF m 49 #[.val (.ref ba), .val (.int (1 : Int32))] [(.int (own_hi c0)), (.int (((own_lo c0) &&& (255 : Int32)) <<< ((0 : Int32) &&& 31)))])) (fun t k => X3.baloadBytes hx (j := (1 : Int32)) (v := (.int (own_hi c0))) (by rw [e3]; exact Ar_ba_4.1) (State.isArrayOf_alike hZ.alike Ar_ba_4.2.1) Ar_ba_4.2.2 hin_ba_4 hat_ba_4 (g := (mkF m 48 #[.val (.ref ba), .val (.int (1 : Int32))] [(.int (1 : Int32)), (.ref ba), (.int (((own_lo c0) &&& (255 : Int32)) <<< ((0 : Int32) &&& 31)))])) rfl rfl (hb hby D24_48.1) _ k) ?_
  refine o_sipush X3 hx hby D24_49 (v := 255) rfl ?_
  refine o_iand X3 hx hby D24_52 ?_
  obtain ⟨T5, X5, e5, st5⟩ := getS2 X3 hx hZ hown (host := "") (Or.inl (own_wd hw (i := 102) rfl)) Via.refl e3 (S_lb.ext O0.2) (g := (mkF m 53 #[.val (.ref ba), .val (.int (1 : Int32))] [(.int ((own_hi c0) &&& (255 : Int32))), (.int (((own_lo c0) &&& (255 : Int32)) <<< ((0 : Int32) &&& 31)))])) rfl (hb hby D24_53.1)
  refine own_pre (A' := T5.setTop (mkF m 56 #[.val (.ref ba), .val (.int (1 : Int32))] [(.int (8 : Int32)), (.int ((own_hi c0) &&& (255 : Int32))), (.int (((own_lo c0) &&& (255 : Int32)) <<< ((0 : Int32) &&& 31)))])) st5 ?_
  refine o_ishl X5 hx hby D24_56 ?_
  refine o_ior X5 hx hby D24_57 ?_
  refine o_i2c X5 hx hby D24_58 ?_
  exact own_ret (v := some (.int (own_gc c0))) X5 (fun h => by first | rfl | (rw [Bd.returns] at h; cases h)) (BodyLoose.notSynchronized Bd) (by decide) (by decide) (⟨by rw [own_gcEq hc], N0, e5⟩) (fun fs hr => retN X5 hx (t := .char) Bd.returns (by simp) (hb hby D24_59.1) hr)
def own_QPc31 (Z : State) (ba : Addr) (kb : ClassId) (p2 : Int32) (x0 x1 x2 x3 x4 x5 : Value) (h0 : Heap) (n0 : Nat) (v : Option Value) (h : Heap) (L : List Loc) : Prop := v = none ∧ Fr n0 L ∧ Keep h0 h [ba] ∧ Arv Z h ba kb .byte (6 : Int32) [x0, x1, (.int (own_lo p2)), (.int (own_hi p2)), x4, x5] (.int (0 : Int32))
theorem ef_rs_pc31 (m : MethodId) (ba : Addr) (p2 : Int32) : entryFrame m #[(.ref ba), (.int (1 : Int32)), (.int p2)] 3 = mkF m 0 #[.val (.ref ba), .val (.int (1 : Int32)), .val (.int p2)] [] := by first | (simp [entryFrame, mkF, argsToLocals, Value.category]; done) | rfl
set_option maxRecDepth 65536 in
set_option maxHeartbeats 40000000 in
theorem rs_pc31 (l : Launch) (Z : State) (a0 : Array Value) (hw : ∀ d ∈ tables_1, d.before a0 Z = true) (ws : List Jvm.Cond) (ba : Addr) (p2 : Int32) (kb : ClassId) (x0 x1 x2 x3 x4 x5 : Value) (cs : Int32) (vf : Value) (h0 : Heap) (n0 : Nat) (Z0 : n0 ≤ h0.size) (hST : own_ST Z cs vf) (O0 : Old Z n0 h0) (gn_ba : n0 ≤ ba) (Vb : Arv Z h0 ba kb .byte (6 : Int32) [x0, x1, x2, x3, x4, x5] (.int (0 : Int32))) :
    MetFree l (⟨"java/lang/StringUTF16", "putChar", "([BII)V"⟩ : MethodName) (head1 (Jvm.Cond.code (⟨"java/lang/StringUTF16", "putChar", "([BII)V"⟩ : MethodName) jdk_52_method_4_code 3 none :: ws) ({ frames := 0, cells := 0, slots := 0, locals := 0 } : Room)) (fun a U => a = #[(.ref ba), (.int (1 : Int32)), (.int p2)] ∧ Z.Warmed39 U.vm ∧ U.heap = h0) (fun _ _ _ _ _ => True) (fun _ U o U' => ∃ v L, o = .returned v ∧ own_QPc31 Z ba kb p2 x0 x1 x2 x3 x4 x5 h0 n0 v U'.heap L ∧ FrameEnd U o U' L ({ frames := 0, cells := 0, slots := 0, locals := 0 } : Room).cells ({ frames := 0, cells := 0, slots := 0, locals := 0 } : Room).slots) := by
  refine MetFree.of_bodySF (plainFor_of_name pn_java_lang_StringUTF16) hisR ?_
  intro p e s m args below meth c s₁ Bd hml0 hP hK
  obtain ⟨rfl, hZ, hh⟩ := hP
  have hx := Bd.exec
  have hby := Bd.bytes
  have hml : c.maxLocals = 3 := hml0
  have hown : s.vm.findClass "java/lang/StringUTF16" = some m.cls := findClass_of_methodNamed Bd.named
  have hnm := (name_of_methodNamed Bd.named Bd.method).1
  have X0 : Stand p l e ({ frames := 0, cells := 0, slots := 0, locals := 0 } : Room) s m #[(.ref ba), (.int (1 : Int32)), (.int p2)] below meth c s₁ [] 0 0 := Stand.of_body Bd
  have e0 : s₁.heap = h0 := by rw [← hh, Bd.state]; rfl
  have N0 := Fr.nil n0
  refine own_start (ef_rs_pc31 m ba p2) ?_
  obtain ⟨S_cs, S_ad, S_hb, S_lb, S_sf, hcs, hvf⟩ := hST
  have lt_ba := own_ltN Vb.lt
  obtain ⟨T1, X1, e1, st1⟩ := getS2 X0 hx hZ hown (host := "") (Or.inl (own_wd hw (i := 100) rfl)) Via.refl e0 (S_ad.ext O0.2) (g := (mkF m 0 #[.val (.ref ba), .val (.int (1 : Int32)), .val (.int p2)] [])) rfl (hb hby D23_0.1)
  refine own_pre (A' := T1.setTop (mkF m 3 #[.val (.ref ba), .val (.int (1 : Int32)), .val (.int p2)] [(.int (1 : Int32))])) st1 ?_
  refine o_ifY X1 hx hby D23_3 ((if0 _ _).trans (feq (by decide : ¬ ((1 : Int32) = (0 : Int32)))).2) (q := 28) (by decide) (by decide) ?_
  refine o_iloadN X1 hx hby D23_28 rfl ?_
  refine o_iconst X1 hx hby D23_29 (v := 1) rfl ?_
  refine o_ishl X1 hx hby D23_30 ?_
  rw [(by decide : ((1 : Int32) <<< ((1 : Int32) &&& 31)) = (2 : Int32))]
  refine o_istoreN X1 hx hby D23_31 (l' := #[.val (.ref ba), .val (.int (2 : Int32)), .val (.int p2)]) rfl ?_
  refine o_aloadN X1 hx hby D23_32 rfl rfl ?_
  refine o_iloadN X1 hx hby D23_33 rfl ?_
  refine o_iinc X1 hx hby D23_34 rfl (l' := #[.val (.ref ba), .val (.int ((2 : Int32) + (1 : Int32))), .val (.int p2)]) rfl ?_
  rw [(by decide : ((2 : Int32) + (1 : Int32)) = (3 : Int32))]
  refine o_iloadN X1 hx hby D23_37 rfl ?_
  obtain ⟨T2, X2, e2, st2⟩ := getS2 X1 hx hZ hown (host := "") (Or.inl (own_wd hw (i := 101) rfl)) Via.refl e1 (S_hb.ext O0.2) (g := (mkF m 38 #[.val (.ref ba), .val (.int (3 : Int32)), .val (.int p2)] [(.int p2), (.int (2 : Int32)), (.ref ba)])) rfl (hb hby D23_38.1)
  refine own_pre (A' := T2.setTop (mkF m 41 #[.val (.ref ba), .val (.int (3 : Int32)), .val (.int p2)] [(.int (0 : Int32)), (.int p2), (.int (2 : Int32)), (.ref ba)])) st2 ?_
  refine o_ishr X2 hx hby D23_41 ?_
  refine o_i2b X2 hx hby D23_42 ?_
  obtain ⟨cl_ba_3, Ar_ba_3, q_ba_3, S_ba_3, N_ba_3, H_ba_3, G_ba_3⟩ := id Vb
  have hin_ba_3 : ¬ ((2 : Int32) < 0 ∨ cl_ba_3.slots.size ≤ ((2 : Int32)).toNatClampNeg) := inb_of S_ba_3 ⟨by decide, by decide⟩
  obtain ⟨T3, h3, X3, e3, W3, st3⟩ := stB X2 hx hZ e2 Ar_ba_3 (j := (2 : Int32)) hin_ba_3 (g := (mkF m 43 #[.val (.ref ba), .val (.int (3 : Int32)), .val (.int p2)] [(.int (((p2 >>> ((0 : Int32) &&& 31))).toInt8.toInt32)), (.int (2 : Int32)), (.ref ba)])) rfl rfl (hb hby D23_43.1)
  have V_ba_3 : Arv Z h3 ba kb .byte (6 : Int32) [x0, x1, (.int (nar .byte (((p2 >>> ((0 : Int32) &&& 31))).toInt8.toInt32))), x3, x4, x5] (.int (0 : Int32)) := Arv.set Ar_ba_3 q_ba_3 S_ba_3 N_ba_3 H_ba_3 G_ba_3 (fits_nar_byte _) W3 2 rfl (Nat.le_of_ble_eq_true rfl)
  have sz3 := own_leN (Keep.of_wr W3).1
  have N3 := Fr.snoc X3 N0 gn_ba
  refine own_pre (A' := T3.setTop (mkF m 44 #[.val (.ref ba), .val (.int (3 : Int32)), .val (.int p2)] [])) st3 ?_
  refine o_aloadN X3 hx hby D23_44 rfl rfl ?_
  refine o_iloadN X3 hx hby D23_45 rfl ?_
  refine o_iloadN X3 hx hby D23_46 rfl ?_
  have c5_O := (O0.wr W3 gn_ba)
  obtain ⟨T4, X4, e4, st4⟩ := getS2 X3 hx hZ hown (host := "") (Or.inl (own_wd hw (i := 102) rfl)) Via.refl e3 (S_lb.ext c5_O.2) (g := (mkF m 47 #[.val (.ref ba), .val (.int (3 : Int32)), .val (.int p2)] [(.int p2), (.int (3 : Int32)), (.ref ba)])) rfl (hb hby D23_47.1)
  refine own_pre (A' := T4.setTop (mkF m 50 #[.val (.ref ba), .val (.int (3 : Int32)), .val (.int p2)] [(.int (8 : Int32)), (.int p2), (.int (3 : Int32)), (.ref ba)])) st4 ?_
  refine o_ishr X4 hx hby D23_50 ?_
  refine o_i2b X4 hx hby D23_51 ?_
  obtain ⟨cl_ba_6, Ar_ba_6, q_ba_6, S_ba_6, N_ba_6, H_ba_6, G_ba_6⟩ := id V_ba_3
  have hin_ba_6 : ¬ ((3 : Int32) < 0 ∨ cl_ba_6.slots.size ≤ ((3 : Int32)).toNatClampNeg) := inb_of S_ba_6 ⟨by decide, by decide⟩
  obtain ⟨T6, h6, X6, e6, W6, st6⟩ := stB X4 hx hZ e4 Ar_ba_6 (j := (3 : Int32)) hin_ba_6 (g := (mkF m 52 #[.val (.ref ba), .val (.int (3 : Int32)), .val (.int p2)] [(.int (((p2 >>> ((8 : Int32) &&& 31))).toInt8.toInt32)), (.int (3 : Int32)), (.ref ba)])) rfl rfl (hb hby D23_52.1)
  have V_ba_6 : Arv Z h6 ba kb .byte (6 : Int32) [x0, x1, (.int (nar .byte (((p2 >>> ((0 : Int32) &&& 31))).toInt8.toInt32))), (.int (nar .byte (((p2 >>> ((8 : Int32) &&& 31))).toInt8.toInt32))), x4, x5] (.int (0 : Int32)) := Arv.set Ar_ba_6 q_ba_6 S_ba_6 N_ba_6 H_ba_6 G_ba_6 (fits_nar_byte _) W6 3 rfl (Nat.le_of_ble_eq_true rfl)
  have sz6 := own_leN (Keep.of_wr W6).1
  have N6 := Fr.snoc X6 N3 gn_ba
  refine own_pre (A' := T6.setTop (mkF m 53 #[.val (.ref ba), .val (.int (3 : Int32)), .val (.int p2)] [])) st6 ?_
  have KK : Keep h0 h6 [ba] := (((Keep.refl h0 [ba]).wr W3 (Or.inl (by simp))).wr W6 (Or.inl (by simp)))
  have VV : Arv Z h6 ba kb .byte (6 : Int32) [x0, x1, (.int (own_lo p2)), (.int (own_hi p2)), x4, x5] (.int (0 : Int32)) := V_ba_6
  exact own_ret (v := none) X6 (fun h => by first | rfl | (rw [Bd.returns] at h; cases h)) (BodyLoose.notSynchronized Bd) (by decide) (by decide) (by rw [e6]; exact ⟨rfl, N6, KK, VV⟩) (fun fs hr => X6.returnOut hx Bd.returns (hb hby D23_53.1) hr)
theorem ef_rs_gc31 (m : MethodId) (ba : Addr) : entryFrame m #[(.ref ba), (.int (1 : Int32))] 2 = mkF m 0 #[.val (.ref ba), .val (.int (1 : Int32))] [] := by first | (simp [entryFrame, mkF, argsToLocals, Value.category]; done) | rfl
set_option maxRecDepth 65536 in
set_option maxHeartbeats 40000000 in
theorem rs_gc31 (l : Launch) (Z : State) (a0 : Array Value) (hw : ∀ d ∈ tables_1, d.before a0 Z = true) (ws : List Jvm.Cond) (ba : Addr) (kb : ClassId) (c0 c1 c2 : Int32) (cs : Int32) (vf : Value) (h0 : Heap) (n0 : Nat) (Z0 : n0 ≤ h0.size) (hST : own_ST Z cs vf) (O0 : Old Z n0 h0) (Vb : Arv Z h0 ba kb .byte (6 : Int32) [(.int (own_lo c0)), (.int (own_hi c0)), (.int (own_lo c1)), (.int (own_hi c1)), (.int (own_lo c2)), (.int (own_hi c2))] (.int (0 : Int32))) (hc : own_ch16 c1) :
    MetFree l (⟨"java/lang/StringUTF16", "getChar", "([BI)C"⟩ : MethodName) (head1 (Jvm.Cond.code (⟨"java/lang/StringUTF16", "getChar", "([BI)C"⟩ : MethodName) jdk_52_method_5_code 2 (some .char) :: ws) ({ frames := 0, cells := 0, slots := 0, locals := 0 } : Room)) (fun a U => a = #[(.ref ba), (.int (1 : Int32))] ∧ Z.Warmed39 U.vm ∧ U.heap = h0) (fun _ _ _ _ _ => True) (fun _ U o U' => ∃ v L, o = .returned v ∧ own_QP (.int c1) h0 n0 v U'.heap L ∧ FrameEnd U o U' L ({ frames := 0, cells := 0, slots := 0, locals := 0 } : Room).cells ({ frames := 0, cells := 0, slots := 0, locals := 0 } : Room).slots) := by
  refine MetFree.of_bodySF (plainFor_of_name pn_java_lang_StringUTF16) hisR ?_
  intro p e s m args below meth c s₁ Bd hml0 hP hK
  obtain ⟨rfl, hZ, hh⟩ := hP
  have hx := Bd.exec
  have hby := Bd.bytes
  have hml : c.maxLocals = 2 := hml0
  have hown : s.vm.findClass "java/lang/StringUTF16" = some m.cls := findClass_of_methodNamed Bd.named
  have hnm := (name_of_methodNamed Bd.named Bd.method).1
  have X0 : Stand p l e ({ frames := 0, cells := 0, slots := 0, locals := 0 } : Room) s m #[(.ref ba), (.int (1 : Int32))] below meth c s₁ [] 0 0 := Stand.of_body Bd
  have e0 : s₁.heap = h0 := by rw [← hh, Bd.state]; rfl
  have N0 := Fr.nil n0
  refine own_start (ef_rs_gc31 m ba) ?_
  obtain ⟨S_cs, S_ad, S_hb, S_lb, S_sf, hcs, hvf⟩ := hST
  have lt_ba := own_ltN Vb.lt
  obtain ⟨T1, X1, e1, st1⟩ := getS2 X0 hx hZ hown (host := "") (Or.inl (own_wd hw (i := 100) rfl)) Via.refl e0 (S_ad.ext O0.2) (g := (mkF m 0 #[.val (.ref ba), .val (.int (1 : Int32))] [])) rfl (hb hby D24_0.1)
  refine own_pre (A' := T1.setTop (mkF m 3 #[.val (.ref ba), .val (.int (1 : Int32))] [(.int (1 : Int32))])) st1 ?_
  refine o_ifY X1 hx hby D24_3 ((if0 _ _).trans (feq (by decide : ¬ ((1 : Int32) = (0 : Int32)))).2) (q := 28) (by decide) (by decide) ?_
  refine o_iloadN X1 hx hby D24_28 rfl ?_
  refine o_iconst X1 hx hby D24_29 (v := 1) rfl ?_
  refine o_ishl X1 hx hby D24_30 ?_
  rw [(by decide : ((1 : Int32) <<< ((1 : Int32) &&& 31)) = (2 : Int32))]
  refine o_istoreN X1 hx hby D24_31 (l' := #[.val (.ref ba), .val (.int (2 : Int32))]) rfl ?_
  refine o_aloadN X1 hx hby D24_32 rfl rfl ?_
  refine o_iloadN X1 hx hby D24_33 rfl ?_
  refine o_iinc X1 hx hby D24_34 rfl (l' := #[.val (.ref ba), .val (.int ((2 : Int32) + (1 : Int32)))]) rfl ?_
  rw [(by decide : ((2 : Int32) + (1 : Int32)) = (3 : Int32))]
  obtain ⟨cl_ba_2, Ar_ba_2, q_ba_2, S_ba_2, N_ba_2, H_ba_2, G_ba_2⟩ := id Vb
  have hin_ba_2 : ¬ ((2 : Int32) < 0 ∨ cl_ba_2.slots.size ≤ ((2 : Int32)).toNatClampNeg) := inb_of S_ba_2 ⟨by decide, by decide⟩
  have hat_ba_2 : cl_ba_2.slots[((2 : Int32)).toNatClampNeg]? = some (.int (own_lo c1)) := H_ba_2.at hin_ba_2 (rfl)
  refine own_pre (A' := T1.setTop (mkF m 38 #[.val (.ref ba), .val (.int (3 : Int32))] [(.int (own_lo c1))])) (fun t k => X1.baloadBytes hx (j := (2 : Int32)) (v := (.int (own_lo c1))) (by rw [e1]; exact Ar_ba_2.1) (State.isArrayOf_alike hZ.alike Ar_ba_2.2.1) Ar_ba_2.2.2 hin_ba_2 hat_ba_2 (g := (mkF m 37 #[.val (.ref ba), .val (.int (3 : Int32))] [(.int (2 : Int32)), (.ref ba)])) rfl rfl (hb hby D24_37.1) _ k) ?_
  refine o_sipush X1 hx hby D24_38 (v := 255) rfl ?_
  refine o_iand X1 hx hby D24_41 ?_
  obtain ⟨T3, X3, e3, st3⟩ := getS2 X1 hx hZ hown (host := "") (Or.inl (own_wd hw (i := 101) rfl)) Via.refl e1 (S_hb.ext O0.2) (g := (mkF m 42 #[.val (.ref ba), .val (.int (3 : Int32))] [(.int ((own_lo c1) &&& (255 : Int32)))])) rfl (hb hby D24_42.1)
  refine own_pre (A' := T3.setTop (mkF m 45 #[.val (.ref ba), .val (.int (3 : Int32))] [(.int (0 : Int32)), (.int ((own_lo c1) &&& (255 : Int32)))])) st3 ?_
  refine o_ishl X3 hx hby D24_45 ?_
  refine o_aloadN X3 hx hby D24_46 rfl rfl ?_
  refine o_iloadN X3 hx hby D24_47 rfl ?_
  obtain ⟨cl_ba_4, Ar_ba_4, q_ba_4, S_ba_4, N_ba_4, H_ba_4, G_ba_4⟩ := id Vb
  have hin_ba_4 : ¬ ((3 : Int32) < 0 ∨ cl_ba_4.slots.size ≤ ((3 : Int32)).toNatClampNeg) := inb_of S_ba_4 ⟨by decide, by decide⟩
  have hat_ba_4 : cl_ba_4.slots[((3 : Int32)).toNatClampNeg]? = some (.int (own_hi c1)) := H_ba_4.at hin_ba_4 (rfl)
  refine own_pre (A' := T3.setTop (mkF m 49 #[.val (.ref ba), .val (.int (3 : Int32))] [(.int (own_hi c1)), (.int (((own_lo c1) &&& (255 : Int32)) <<< ((0 : Int32) &&& 31)))])) (fun t k => X3.baloadBytes hx (j := (3 : Int32)) (v := (.int (own_hi c1))) (by rw [e3]; exact Ar_ba_4.1) (State.isArrayOf_alike hZ.alike Ar_ba_4.2.1) Ar_ba_4.2.2 hin_ba_4 hat_ba_4 (g := (mkF m 48 #[.val (.ref ba), .val (.int (3 : Int32))] [(.int (3 : Int32)), (.ref ba), (.int (((own_lo c1) &&& (255 : Int32)) <<< ((0 : Int32) &&& 31)))])) rfl rfl (hb hby D24_48.1) _ k) ?_
  refine o_sipush X3 hx hby D24_49 (v := 255) rfl ?_
  refine o_iand X3 hx hby D24_52 ?_
  obtain ⟨T5, X5, e5, st5⟩ := getS2 X3 hx hZ hown (host := "") (Or.inl (own_wd hw (i := 102) rfl)) Via.refl e3 (S_lb.ext O0.2) (g := (mkF m 53 #[.val (.ref ba), .val (.int (3 : Int32))] [(.int ((own_hi c1) &&& (255 : Int32))), (.int (((own_lo c1) &&& (255 : Int32)) <<< ((0 : Int32) &&& 31)))])) rfl (hb hby D24_53.1)
  refine own_pre (A' := T5.setTop (mkF m 56 #[.val (.ref ba), .val (.int (3 : Int32))] [(.int (8 : Int32)), (.int ((own_hi c1) &&& (255 : Int32))), (.int (((own_lo c1) &&& (255 : Int32)) <<< ((0 : Int32) &&& 31)))])) st5 ?_
  refine o_ishl X5 hx hby D24_56 ?_
  refine o_ior X5 hx hby D24_57 ?_
  refine o_i2c X5 hx hby D24_58 ?_
  exact own_ret (v := some (.int (own_gc c1))) X5 (fun h => by first | rfl | (rw [Bd.returns] at h; cases h)) (BodyLoose.notSynchronized Bd) (by decide) (by decide) (⟨by rw [own_gcEq hc], N0, e5⟩) (fun fs hr => retN X5 hx (t := .char) Bd.returns (by simp) (hb hby D24_59.1) hr)
def own_QPc32 (Z : State) (ba : Addr) (kb : ClassId) (p2 : Int32) (x0 x1 x2 x3 x4 x5 : Value) (h0 : Heap) (n0 : Nat) (v : Option Value) (h : Heap) (L : List Loc) : Prop := v = none ∧ Fr n0 L ∧ Keep h0 h [ba] ∧ Arv Z h ba kb .byte (6 : Int32) [x0, x1, x2, x3, (.int (own_lo p2)), (.int (own_hi p2))] (.int (0 : Int32))
theorem ef_rs_pc32 (m : MethodId) (ba : Addr) (p2 : Int32) : entryFrame m #[(.ref ba), (.int (2 : Int32)), (.int p2)] 3 = mkF m 0 #[.val (.ref ba), .val (.int (2 : Int32)), .val (.int p2)] [] := by first | (simp [entryFrame, mkF, argsToLocals, Value.category]; done) | rfl
set_option maxRecDepth 65536 in
set_option maxHeartbeats 40000000 in
theorem rs_pc32 (l : Launch) (Z : State) (a0 : Array Value) (hw : ∀ d ∈ tables_1, d.before a0 Z = true) (ws : List Jvm.Cond) (ba : Addr) (p2 : Int32) (kb : ClassId) (x0 x1 x2 x3 x4 x5 : Value) (cs : Int32) (vf : Value) (h0 : Heap) (n0 : Nat) (Z0 : n0 ≤ h0.size) (hST : own_ST Z cs vf) (O0 : Old Z n0 h0) (gn_ba : n0 ≤ ba) (Vb : Arv Z h0 ba kb .byte (6 : Int32) [x0, x1, x2, x3, x4, x5] (.int (0 : Int32))) :
    MetFree l (⟨"java/lang/StringUTF16", "putChar", "([BII)V"⟩ : MethodName) (head1 (Jvm.Cond.code (⟨"java/lang/StringUTF16", "putChar", "([BII)V"⟩ : MethodName) jdk_52_method_4_code 3 none :: ws) ({ frames := 0, cells := 0, slots := 0, locals := 0 } : Room)) (fun a U => a = #[(.ref ba), (.int (2 : Int32)), (.int p2)] ∧ Z.Warmed39 U.vm ∧ U.heap = h0) (fun _ _ _ _ _ => True) (fun _ U o U' => ∃ v L, o = .returned v ∧ own_QPc32 Z ba kb p2 x0 x1 x2 x3 x4 x5 h0 n0 v U'.heap L ∧ FrameEnd U o U' L ({ frames := 0, cells := 0, slots := 0, locals := 0 } : Room).cells ({ frames := 0, cells := 0, slots := 0, locals := 0 } : Room).slots) := by
  refine MetFree.of_bodySF (plainFor_of_name pn_java_lang_StringUTF16) hisR ?_
  intro p e s m args below meth c s₁ Bd hml0 hP hK
  obtain ⟨rfl, hZ, hh⟩ := hP
  have hx := Bd.exec
  have hby := Bd.bytes
  have hml : c.maxLocals = 3 := hml0
  have hown : s.vm.findClass "java/lang/StringUTF16" = some m.cls := findClass_of_methodNamed Bd.named
  have hnm := (name_of_methodNamed Bd.named Bd.method).1
  have X0 : Stand p l e ({ frames := 0, cells := 0, slots := 0, locals := 0 } : Room) s m #[(.ref ba), (.int (2 : Int32)), (.int p2)] below meth c s₁ [] 0 0 := Stand.of_body Bd
  have e0 : s₁.heap = h0 := by rw [← hh, Bd.state]; rfl
  have N0 := Fr.nil n0
  refine own_start (ef_rs_pc32 m ba p2) ?_
  obtain ⟨S_cs, S_ad, S_hb, S_lb, S_sf, hcs, hvf⟩ := hST
  have lt_ba := own_ltN Vb.lt
  obtain ⟨T1, X1, e1, st1⟩ := getS2 X0 hx hZ hown (host := "") (Or.inl (own_wd hw (i := 100) rfl)) Via.refl e0 (S_ad.ext O0.2) (g := (mkF m 0 #[.val (.ref ba), .val (.int (2 : Int32)), .val (.int p2)] [])) rfl (hb hby D23_0.1)
  refine own_pre (A' := T1.setTop (mkF m 3 #[.val (.ref ba), .val (.int (2 : Int32)), .val (.int p2)] [(.int (1 : Int32))])) st1 ?_
  refine o_ifY X1 hx hby D23_3 ((if0 _ _).trans (feq (by decide : ¬ ((1 : Int32) = (0 : Int32)))).2) (q := 28) (by decide) (by decide) ?_
  refine o_iloadN X1 hx hby D23_28 rfl ?_
  refine o_iconst X1 hx hby D23_29 (v := 1) rfl ?_
  refine o_ishl X1 hx hby D23_30 ?_
  rw [(by decide : ((2 : Int32) <<< ((1 : Int32) &&& 31)) = (4 : Int32))]
  refine o_istoreN X1 hx hby D23_31 (l' := #[.val (.ref ba), .val (.int (4 : Int32)), .val (.int p2)]) rfl ?_
  refine o_aloadN X1 hx hby D23_32 rfl rfl ?_
  refine o_iloadN X1 hx hby D23_33 rfl ?_
  refine o_iinc X1 hx hby D23_34 rfl (l' := #[.val (.ref ba), .val (.int ((4 : Int32) + (1 : Int32))), .val (.int p2)]) rfl ?_
  rw [(by decide : ((4 : Int32) + (1 : Int32)) = (5 : Int32))]
  refine o_iloadN X1 hx hby D23_37 rfl ?_
  obtain ⟨T2, X2, e2, st2⟩ := getS2 X1 hx hZ hown (host := "") (Or.inl (own_wd hw (i := 101) rfl)) Via.refl e1 (S_hb.ext O0.2) (g := (mkF m 38 #[.val (.ref ba), .val (.int (5 : Int32)), .val (.int p2)] [(.int p2), (.int (4 : Int32)), (.ref ba)])) rfl (hb hby D23_38.1)
  refine own_pre (A' := T2.setTop (mkF m 41 #[.val (.ref ba), .val (.int (5 : Int32)), .val (.int p2)] [(.int (0 : Int32)), (.int p2), (.int (4 : Int32)), (.ref ba)])) st2 ?_
  refine o_ishr X2 hx hby D23_41 ?_
  refine o_i2b X2 hx hby D23_42 ?_
  obtain ⟨cl_ba_3, Ar_ba_3, q_ba_3, S_ba_3, N_ba_3, H_ba_3, G_ba_3⟩ := id Vb
  have hin_ba_3 : ¬ ((4 : Int32) < 0 ∨ cl_ba_3.slots.size ≤ ((4 : Int32)).toNatClampNeg) := inb_of S_ba_3 ⟨by decide, by decide⟩
  obtain ⟨T3, h3, X3, e3, W3, st3⟩ := stB X2 hx hZ e2 Ar_ba_3 (j := (4 : Int32)) hin_ba_3 (g := (mkF m 43 #[.val (.ref ba), .val (.int (5 : Int32)), .val (.int p2)] [(.int (((p2 >>> ((0 : Int32) &&& 31))).toInt8.toInt32)), (.int (4 : Int32)), (.ref ba)])) rfl rfl (hb hby D23_43.1)
  have V_ba_3 : Arv Z h3 ba kb .byte (6 : Int32) [x0, x1, x2, x3, (.int (nar .byte (((p2 >>> ((0 : Int32) &&& 31))).toInt8.toInt32))), x5] (.int (0 : Int32)) := Arv.set Ar_ba_3 q_ba_3 S_ba_3 N_ba_3 H_ba_3 G_ba_3 (fits_nar_byte _) W3 4 rfl (Nat.le_of_ble_eq_true rfl)
  have sz3 := own_leN (Keep.of_wr W3).1
  have N3 := Fr.snoc X3 N0 gn_ba
  refine own_pre (A' := T3.setTop (mkF m 44 #[.val (.ref ba), .val (.int (5 : Int32)), .val (.int p2)] [])) st3 ?_
  refine o_aloadN X3 hx hby D23_44 rfl rfl ?_
  refine o_iloadN X3 hx hby D23_45 rfl ?_
  refine o_iloadN X3 hx hby D23_46 rfl ?_
  have c5_O := (O0.wr W3 gn_ba)
  obtain ⟨T4, X4, e4, st4⟩ := getS2 X3 hx hZ hown (host := "") (Or.inl (own_wd hw (i := 102) rfl)) Via.refl e3 (S_lb.ext c5_O.2) (g := (mkF m 47 #[.val (.ref ba), .val (.int (5 : Int32)), .val (.int p2)] [(.int p2), (.int (5 : Int32)), (.ref ba)])) rfl (hb hby D23_47.1)
  refine own_pre (A' := T4.setTop (mkF m 50 #[.val (.ref ba), .val (.int (5 : Int32)), .val (.int p2)] [(.int (8 : Int32)), (.int p2), (.int (5 : Int32)), (.ref ba)])) st4 ?_
  refine o_ishr X4 hx hby D23_50 ?_
  refine o_i2b X4 hx hby D23_51 ?_
  obtain ⟨cl_ba_6, Ar_ba_6, q_ba_6, S_ba_6, N_ba_6, H_ba_6, G_ba_6⟩ := id V_ba_3
  have hin_ba_6 : ¬ ((5 : Int32) < 0 ∨ cl_ba_6.slots.size ≤ ((5 : Int32)).toNatClampNeg) := inb_of S_ba_6 ⟨by decide, by decide⟩
  obtain ⟨T6, h6, X6, e6, W6, st6⟩ := stB X4 hx hZ e4 Ar_ba_6 (j := (5 : Int32)) hin_ba_6 (g := (mkF m 52 #[.val (.ref ba), .val (.int (5 : Int32)), .val (.int p2)] [(.int (((p2 >>> ((8 : Int32) &&& 31))).toInt8.toInt32)), (.int (5 : Int32)), (.ref ba)])) rfl rfl (hb hby D23_52.1)
  have V_ba_6 : Arv Z h6 ba kb .byte (6 : Int32) [x0, x1, x2, x3, (.int (nar .byte (((p2 >>> ((0 : Int32) &&& 31))).toInt8.toInt32))), (.int (nar .byte (((p2 >>> ((8 : Int32) &&& 31))).toInt8.toInt32)))] (.int (0 : Int32)) := Arv.set Ar_ba_6 q_ba_6 S_ba_6 N_ba_6 H_ba_6 G_ba_6 (fits_nar_byte _) W6 5 rfl (Nat.le_of_ble_eq_true rfl)
  have sz6 := own_leN (Keep.of_wr W6).1
  have N6 := Fr.snoc X6 N3 gn_ba
  refine own_pre (A' := T6.setTop (mkF m 53 #[.val (.ref ba), .val (.int (5 : Int32)), .val (.int p2)] [])) st6 ?_
  have KK : Keep h0 h6 [ba] := (((Keep.refl h0 [ba]).wr W3 (Or.inl (by simp))).wr W6 (Or.inl (by simp)))
  have VV : Arv Z h6 ba kb .byte (6 : Int32) [x0, x1, x2, x3, (.int (own_lo p2)), (.int (own_hi p2))] (.int (0 : Int32)) := V_ba_6
  exact own_ret (v := none) X6 (fun h => by first | rfl | (rw [Bd.returns] at h; cases h)) (BodyLoose.notSynchronized Bd) (by decide) (by decide) (by rw [e6]; exact ⟨rfl, N6, KK, VV⟩) (fun fs hr => X6.returnOut hx Bd.returns (hb hby D23_53.1) hr)
theorem ef_rs_gc32 (m : MethodId) (ba : Addr) : entryFrame m #[(.ref ba), (.int (2 : Int32))] 2 = mkF m 0 #[.val (.ref ba), .val (.int (2 : Int32))] [] := by first | (simp [entryFrame, mkF, argsToLocals, Value.category]; done) | rfl
set_option maxRecDepth 65536 in
set_option maxHeartbeats 40000000 in
theorem rs_gc32 (l : Launch) (Z : State) (a0 : Array Value) (hw : ∀ d ∈ tables_1, d.before a0 Z = true) (ws : List Jvm.Cond) (ba : Addr) (kb : ClassId) (c0 c1 c2 : Int32) (cs : Int32) (vf : Value) (h0 : Heap) (n0 : Nat) (Z0 : n0 ≤ h0.size) (hST : own_ST Z cs vf) (O0 : Old Z n0 h0) (Vb : Arv Z h0 ba kb .byte (6 : Int32) [(.int (own_lo c0)), (.int (own_hi c0)), (.int (own_lo c1)), (.int (own_hi c1)), (.int (own_lo c2)), (.int (own_hi c2))] (.int (0 : Int32))) (hc : own_ch16 c2) :
    MetFree l (⟨"java/lang/StringUTF16", "getChar", "([BI)C"⟩ : MethodName) (head1 (Jvm.Cond.code (⟨"java/lang/StringUTF16", "getChar", "([BI)C"⟩ : MethodName) jdk_52_method_5_code 2 (some .char) :: ws) ({ frames := 0, cells := 0, slots := 0, locals := 0 } : Room)) (fun a U => a = #[(.ref ba), (.int (2 : Int32))] ∧ Z.Warmed39 U.vm ∧ U.heap = h0) (fun _ _ _ _ _ => True) (fun _ U o U' => ∃ v L, o = .returned v ∧ own_QP (.int c2) h0 n0 v U'.heap L ∧ FrameEnd U o U' L ({ frames := 0, cells := 0, slots := 0, locals := 0 } : Room).cells ({ frames := 0, cells := 0, slots := 0, locals := 0 } : Room).slots) := by
  refine MetFree.of_bodySF (plainFor_of_name pn_java_lang_StringUTF16) hisR ?_
  intro p e s m args below meth c s₁ Bd hml0 hP hK
  obtain ⟨rfl, hZ, hh⟩ := hP
  have hx := Bd.exec
  have hby := Bd.bytes
  have hml : c.maxLocals = 2 := hml0
  have hown : s.vm.findClass "java/lang/StringUTF16" = some m.cls := findClass_of_methodNamed Bd.named
  have hnm := (name_of_methodNamed Bd.named Bd.method).1
  have X0 : Stand p l e ({ frames := 0, cells := 0, slots := 0, locals := 0 } : Room) s m #[(.ref ba), (.int (2 : Int32))] below meth c s₁ [] 0 0 := Stand.of_body Bd
  have e0 : s₁.heap = h0 := by rw [← hh, Bd.state]; rfl
  have N0 := Fr.nil n0
  refine own_start (ef_rs_gc32 m ba) ?_
  obtain ⟨S_cs, S_ad, S_hb, S_lb, S_sf, hcs, hvf⟩ := hST
  have lt_ba := own_ltN Vb.lt
  obtain ⟨T1, X1, e1, st1⟩ := getS2 X0 hx hZ hown (host := "") (Or.inl (own_wd hw (i := 100) rfl)) Via.refl e0 (S_ad.ext O0.2) (g := (mkF m 0 #[.val (.ref ba), .val (.int (2 : Int32))] [])) rfl (hb hby D24_0.1)
  refine own_pre (A' := T1.setTop (mkF m 3 #[.val (.ref ba), .val (.int (2 : Int32))] [(.int (1 : Int32))])) st1 ?_
  refine o_ifY X1 hx hby D24_3 ((if0 _ _).trans (feq (by decide : ¬ ((1 : Int32) = (0 : Int32)))).2) (q := 28) (by decide) (by decide) ?_
  refine o_iloadN X1 hx hby D24_28 rfl ?_
  refine o_iconst X1 hx hby D24_29 (v := 1) rfl ?_
  refine o_ishl X1 hx hby D24_30 ?_
  rw [(by decide : ((2 : Int32) <<< ((1 : Int32) &&& 31)) = (4 : Int32))]
  refine o_istoreN X1 hx hby D24_31 (l' := #[.val (.ref ba), .val (.int (4 : Int32))]) rfl ?_
  refine o_aloadN X1 hx hby D24_32 rfl rfl ?_
  refine o_iloadN X1 hx hby D24_33 rfl ?_
  refine o_iinc X1 hx hby D24_34 rfl (l' := #[.val (.ref ba), .val (.int ((4 : Int32) + (1 : Int32)))]) rfl ?_
  rw [(by decide : ((4 : Int32) + (1 : Int32)) = (5 : Int32))]
  obtain ⟨cl_ba_2, Ar_ba_2, q_ba_2, S_ba_2, N_ba_2, H_ba_2, G_ba_2⟩ := id Vb
  have hin_ba_2 : ¬ ((4 : Int32) < 0 ∨ cl_ba_2.slots.size ≤ ((4 : Int32)).toNatClampNeg) := inb_of S_ba_2 ⟨by decide, by decide⟩
  have hat_ba_2 : cl_ba_2.slots[((4 : Int32)).toNatClampNeg]? = some (.int (own_lo c2)) := H_ba_2.at hin_ba_2 (rfl)
  refine own_pre (A' := T1.setTop (mkF m 38 #[.val (.ref ba), .val (.int (5 : Int32))] [(.int (own_lo c2))])) (fun t k => X1.baloadBytes hx (j := (4 : Int32)) (v := (.int (own_lo c2))) (by rw [e1]; exact Ar_ba_2.1) (State.isArrayOf_alike hZ.alike Ar_ba_2.2.1) Ar_ba_2.2.2 hin_ba_2 hat_ba_2 (g := (mkF m 37 #[.val (.ref ba), .val (.int (5 : Int32))] [(.int (4 : Int32)), (.ref ba)])) rfl rfl (hb hby D24_37.1) _ k) ?_
  refine o_sipush X1 hx hby D24_38 (v := 255) rfl ?_
  refine o_iand X1 hx hby D24_41 ?_
  obtain ⟨T3, X3, e3, st3⟩ := getS2 X1 hx hZ hown (host := "") (Or.inl (own_wd hw (i := 101) rfl)) Via.refl e1 (S_hb.ext O0.2) (g := (mkF m 42 #[.val (.ref ba), .val (.int (5 : Int32))] [(.int ((own_lo c2) &&& (255 : Int32)))])) rfl (hb hby D24_42.1)
  refine own_pre (A' := T3.setTop (mkF m 45 #[.val (.ref ba), .val (.int (5 : Int32))] [(.int (0 : Int32)), (.int ((own_lo c2) &&& (255 : Int32)))])) st3 ?_
  refine o_ishl X3 hx hby D24_45 ?_
  refine o_aloadN X3 hx hby D24_46 rfl rfl ?_
  refine o_iloadN X3 hx hby D24_47 rfl ?_
  obtain ⟨cl_ba_4, Ar_ba_4, q_ba_4, S_ba_4, N_ba_4, H_ba_4, G_ba_4⟩ := id Vb
  have hin_ba_4 : ¬ ((5 : Int32) < 0 ∨ cl_ba_4.slots.size ≤ ((5 : Int32)).toNatClampNeg) := inb_of S_ba_4 ⟨by decide, by decide⟩
  have hat_ba_4 : cl_ba_4.slots[((5 : Int32)).toNatClampNeg]? = some (.int (own_hi c2)) := H_ba_4.at hin_ba_4 (rfl)
  refine own_pre (A' := T3.setTop (mkF m 49 #[.val (.ref ba), .val (.int (5 : Int32))] [(.int (own_hi c2)), (.int (((own_lo c2) &&& (255 : Int32)) <<< ((0 : Int32) &&& 31)))])) (fun t k => X3.baloadBytes hx (j := (5 : Int32)) (v := (.int (own_hi c2))) (by rw [e3]; exact Ar_ba_4.1) (State.isArrayOf_alike hZ.alike Ar_ba_4.2.1) Ar_ba_4.2.2 hin_ba_4 hat_ba_4 (g := (mkF m 48 #[.val (.ref ba), .val (.int (5 : Int32))] [(.int (5 : Int32)), (.ref ba), (.int (((own_lo c2) &&& (255 : Int32)) <<< ((0 : Int32) &&& 31)))])) rfl rfl (hb hby D24_48.1) _ k) ?_
  refine o_sipush X3 hx hby D24_49 (v := 255) rfl ?_
  refine o_iand X3 hx hby D24_52 ?_
  obtain ⟨T5, X5, e5, st5⟩ := getS2 X3 hx hZ hown (host := "") (Or.inl (own_wd hw (i := 102) rfl)) Via.refl e3 (S_lb.ext O0.2) (g := (mkF m 53 #[.val (.ref ba), .val (.int (5 : Int32))] [(.int ((own_hi c2) &&& (255 : Int32))), (.int (((own_lo c2) &&& (255 : Int32)) <<< ((0 : Int32) &&& 31)))])) rfl (hb hby D24_53.1)
  refine own_pre (A' := T5.setTop (mkF m 56 #[.val (.ref ba), .val (.int (5 : Int32))] [(.int (8 : Int32)), (.int ((own_hi c2) &&& (255 : Int32))), (.int (((own_lo c2) &&& (255 : Int32)) <<< ((0 : Int32) &&& 31)))])) st5 ?_
  refine o_ishl X5 hx hby D24_56 ?_
  refine o_ior X5 hx hby D24_57 ?_
  refine o_i2c X5 hx hby D24_58 ?_
  exact own_ret (v := some (.int (own_gc c2))) X5 (fun h => by first | rfl | (rw [Bd.returns] at h; cases h)) (BodyLoose.notSynchronized Bd) (by decide) (by decide) (⟨by rw [own_gcEq hc], N0, e5⟩) (fun fs hr => retN X5 hx (t := .char) Bd.returns (by simp) (hb hby D24_59.1) hr)
def own_QTb1 (Z : State) (c0 : Int32) (h0 : Heap) (n0 : Nat) (v : Option Value) (h : Heap) (L : List Loc) : Prop := ∃ (r : Nat) (kr : ClassId), v = some (.ref r) ∧ Fr n0 L ∧ Keep h0 h [] ∧ h0.size ≤ r ∧ Arv Z h r kr .byte (2 : Int32) [(.int (own_lo c0)), (.int (own_hi c0))] (.int (0 : Int32))
theorem pd__40I_41_91B : parseMethodDescriptor "(I)[B" = some ⟨[.int], some (.array .byte)⟩ := by decide +kernel
theorem pd__40_91BII_41V : parseMethodDescriptor "([BII)V" = some ⟨[(.array .byte), .int, .int], none⟩ := by decide +kernel
theorem D20_0 : own_at jdk_52_method_14_code 0 (.iload_n 2) 1 1 := ⟨by decide +kernel, rfl⟩
theorem D20_1 : own_at jdk_52_method_14_code 1 (.invokestatic 107) 3 4 := ⟨by decide +kernel, rfl⟩
theorem D20_4 : own_at jdk_52_method_14_code 4 (.astore_n 3) 1 5 := ⟨by decide +kernel, rfl⟩
theorem D20_5 : own_at jdk_52_method_14_code 5 (.iconst 0) 1 6 := ⟨by decide +kernel, rfl⟩
theorem D20_6 : own_at jdk_52_method_14_code 6 (.istore 4) 2 8 := ⟨by decide +kernel, rfl⟩
theorem D20_8 : own_at jdk_52_method_14_code 8 (.iload 4) 2 10 := ⟨by decide +kernel, rfl⟩
theorem D20_10 : own_at jdk_52_method_14_code 10 (.iload_n 2) 1 11 := ⟨by decide +kernel, rfl⟩
theorem D20_11 : own_at jdk_52_method_14_code 11 (.if_icmp .ge 21) 3 14 := ⟨by decide +kernel, rfl⟩
theorem D20_14 : own_at jdk_52_method_14_code 14 (.aload_n 3) 1 15 := ⟨by decide +kernel, rfl⟩
theorem D20_15 : own_at jdk_52_method_14_code 15 (.iload 4) 2 17 := ⟨by decide +kernel, rfl⟩
theorem D20_17 : own_at jdk_52_method_14_code 17 (.aload_n 0) 1 18 := ⟨by decide +kernel, rfl⟩
theorem D20_18 : own_at jdk_52_method_14_code 18 (.iload_n 1) 1 19 := ⟨by decide +kernel, rfl⟩
theorem D20_19 : own_at jdk_52_method_14_code 19 (.caload) 1 20 := ⟨by decide +kernel, rfl⟩
theorem D20_20 : own_at jdk_52_method_14_code 20 (.invokestatic 111) 3 23 := ⟨by decide +kernel, rfl⟩
theorem D20_23 : own_at jdk_52_method_14_code 23 (.iinc 1 1) 3 26 := ⟨by decide +kernel, rfl⟩
theorem D20_26 : own_at jdk_52_method_14_code 26 (.iinc 4 1) 3 29 := ⟨by decide +kernel, rfl⟩
theorem D20_29 : own_at jdk_52_method_14_code 29 (.goto (-21)) 3 32 := ⟨by decide +kernel, rfl⟩
theorem D20_32 : own_at jdk_52_method_14_code 32 (.aload_n 3) 1 33 := ⟨by decide +kernel, rfl⟩
theorem D20_33 : own_at jdk_52_method_14_code 33 (.areturn) 1 34 := ⟨by decide +kernel, rfl⟩
theorem ef_rs_tb1 (m : MethodId) (ca : Addr) : entryFrame m #[(.ref ca), (.int (0 : Int32)), (.int (1 : Int32))] 5 = mkF m 0 #[.val (.ref ca), .val (.int (0 : Int32)), .val (.int (1 : Int32)), .unset, .unset] [] := by first | (simp [entryFrame, mkF, argsToLocals, Value.category]; done) | rfl
set_option maxRecDepth 65536 in
set_option maxHeartbeats 40000000 in
theorem rs_tb1 (l : Launch) (Z : State) (a0 : Array Value) (hw : ∀ d ∈ tables_1, d.before a0 Z = true) (ws : List Jvm.Cond) (ca : Addr) (kc : ClassId) (c0 : Int32) (cs : Int32) (vf : Value) (h0 : Heap) (n0 : Nat) (Z0 : n0 ≤ h0.size) (hST : own_ST Z cs vf) (O0 : Old Z n0 h0) (Vc : Arv Z h0 ca kc .char (1 : Int32) [(.int c0)] (.int (0 : Int32))) :
    MetFree l (⟨"java/lang/StringUTF16", "toBytes", "([CII)[B"⟩ : MethodName) (head1 (Jvm.Cond.code (⟨"java/lang/StringUTF16", "toBytes", "([CII)[B"⟩ : MethodName) jdk_52_method_14_code 5 (some (.array .byte)) :: ws) ({ frames := 2, cells := 1, slots := 2, locals := 24 } : Room)) (fun a U => a = #[(.ref ca), (.int (0 : Int32)), (.int (1 : Int32))] ∧ Z.Warmed39 U.vm ∧ U.heap = h0) (fun _ _ _ _ _ => True) (fun _ U o U' => ∃ v L, o = .returned v ∧ own_QTb1 Z c0 h0 n0 v U'.heap L ∧ FrameEnd U o U' L ({ frames := 2, cells := 1, slots := 2, locals := 24 } : Room).cells ({ frames := 2, cells := 1, slots := 2, locals := 24 } : Room).slots) := by
  refine MetFree.of_bodySF (plainFor_of_name pn_java_lang_StringUTF16) hisR ?_
  intro p e s m args below meth c s₁ Bd hml0 hP hK
  obtain ⟨rfl, hZ, hh⟩ := hP
  have hx := Bd.exec
  have hby := Bd.bytes
  have hml : c.maxLocals = 5 := hml0
  have hown : s.vm.findClass "java/lang/StringUTF16" = some m.cls := findClass_of_methodNamed Bd.named
  have hnm := (name_of_methodNamed Bd.named Bd.method).1
  have X0 : Stand p l e ({ frames := 2, cells := 1, slots := 2, locals := 24 } : Room) s m #[(.ref ca), (.int (0 : Int32)), (.int (1 : Int32))] below meth c s₁ [] 0 0 := Stand.of_body Bd
  have e0 : s₁.heap = h0 := by rw [← hh, Bd.state]; rfl
  have N0 := Fr.nil n0
  refine own_start (ef_rs_tb1 m ca) ?_
  have hST0 := hST
  obtain ⟨S_cs, S_ad, S_hb, S_lb, S_sf, hcs, hvf⟩ := hST
  have lt_ca := own_ltN Vc.lt
  refine o_iloadN X0 hx hby D20_0 rfl ?_
  obtain ⟨_, _, ⟨T1, L1, k1, n1⟩, -, X1, ⟨Lc1, hQ1, l1, y1, z1⟩, st1⟩ := Jvm.LawKit.callS X0 hx (y := (⟨"java/lang/StringUTF16", "newBytesFor", "(I)[B"⟩ : MethodName)) hown (mvT hZ (own_wd hw (i := 90) rfl)) (mvT hZ (own_wd hw (i := 91) rfl)) (mvT hZ (own_wd hw (i := 72) rfl)) (mvT hZ (own_wd hw (i := 92) rfl)) (by decide) (backOf (W := 0) (rs_nbf1 l Z a0 hw []  h0 n0 Z0 ) hZ (own_wd hw (i := 92) rfl) (own_wd hw (i := 72) rfl) (by decide) (by decide)) (g := (mkF m 1 #[.val (.ref ca), .val (.int (0 : Int32)), .val (.int (1 : Int32)), .unset, .unset] [(.int (1 : Int32))])) rfl (by rw [hml]; rfl) (argsL := [(.int (1 : Int32))]) (rest := []) (lenOf pd__40I_41_91B rfl) rfl (by show 2 * 0 + _ ≤ _; exact Nat.le_of_eq rfl) (hb hby D20_1.1) (fun _ _ => ⟨rfl, e0, (by decide : 0 + 1 ≤ _), (by decide : 0 + 2 ≤ _)⟩)
  dsimp only [Pt.U, Pt.locs, Pt.cells, Pt.slots] at X1 l1 y1 z1 st1 hQ1
  subst l1 y1 z1
  obtain ⟨r1, kr1, rfl, N1q, K1, ge1, Vr1⟩ := hQ1
  have sz1 := own_leN K1.1
  have ge1' := own_leN ge1
  have lt_r1 := own_ltN Vr1.lt
  have gn_r1 : n0 ≤ r1 := own_leN (by omega)
  have N1 := Fr.app N0 N1q
  refine own_pre (A' := T1.setTop (mkF m 4 #[.val (.ref ca), .val (.int (0 : Int32)), .val (.int (1 : Int32)), .unset, .unset] [(.ref r1)])) st1 ?_
  refine o_astoreN X1 hx hby D20_4 rfl (l' := #[.val (.ref ca), .val (.int (0 : Int32)), .val (.int (1 : Int32)), .val (.ref r1), .unset]) rfl ?_
  refine o_iconst X1 hx hby D20_5 (v := 0) rfl ?_
  refine o_istore X1 hx hby D20_6 (l' := #[.val (.ref ca), .val (.int (0 : Int32)), .val (.int (1 : Int32)), .val (.ref r1), .val (.int (0 : Int32))]) rfl ?_
  refine o_iload X1 hx hby D20_8 rfl ?_
  refine o_iloadN X1 hx hby D20_10 rfl ?_
  refine o_icmpN X1 hx hby D20_11 (tlt (by decide : (0 : Int32) < (1 : Int32))).2.1 ?_
  refine o_aloadN X1 hx hby D20_14 rfl rfl ?_
  refine o_iload X1 hx hby D20_15 rfl ?_
  refine o_aloadN X1 hx hby D20_17 rfl rfl ?_
  refine o_iloadN X1 hx hby D20_18 rfl ?_
  have c3_V_ca := (Vc.keep K1 nin0)
  obtain ⟨cl_ca_2, Ar_ca_2, q_ca_2, S_ca_2, N_ca_2, H_ca_2, G_ca_2⟩ := id c3_V_ca
  have hin_ca_2 : ¬ ((0 : Int32) < 0 ∨ cl_ca_2.slots.size ≤ ((0 : Int32)).toNatClampNeg) := inb_of S_ca_2 ⟨by decide, by decide⟩
  have hat_ca_2 : cl_ca_2.slots[((0 : Int32)).toNatClampNeg]? = some (.int c0) := H_ca_2.at hin_ca_2 (rfl)
  refine own_pre (A' := T1.setTop (mkF m 20 #[.val (.ref ca), .val (.int (0 : Int32)), .val (.int (1 : Int32)), .val (.ref r1), .val (.int (0 : Int32))] [(.int c0), (.int (0 : Int32)), (.ref r1)])) (fun t k => X1.caload hx (j := (0 : Int32)) (v := (.int c0)) Ar_ca_2.1 (State.isArrayOf_alike hZ.alike Ar_ca_2.2.1) Ar_ca_2.2.2 hin_ca_2 hat_ca_2 (g := (mkF m 19 #[.val (.ref ca), .val (.int (0 : Int32)), .val (.int (1 : Int32)), .val (.ref r1), .val (.int (0 : Int32))] [(.int (0 : Int32)), (.ref ca), (.int (0 : Int32)), (.ref r1)])) rfl rfl (hb hby D20_19.1) _ k) ?_
  have c5_O := (O0.keep K1 all0)
  obtain ⟨_, _, ⟨T4, L4, k4, n4⟩, -, X4, ⟨Lc4, hQ4, l4, y4, z4⟩, st4⟩ := Jvm.LawKit.callS X1 hx (y := (⟨"java/lang/StringUTF16", "putChar", "([BII)V"⟩ : MethodName)) hown (mvT hZ (own_wd hw (i := 97) rfl)) (mvT hZ (own_wd hw (i := 98) rfl)) (mvT hZ (own_wd hw (i := 72) rfl)) (mvT hZ (own_wd hw (i := 99) rfl)) (by decide) (backOf (W := 0) (rs_pc10 l Z a0 hw [] r1 c0 kr1 (.int (0 : Int32)) (.int (0 : Int32)) cs vf T1.heap n0 (own_leN (by omega)) hST0 c5_O gn_r1 Vr1) hZ (own_wd hw (i := 99) rfl) (own_wd hw (i := 72) rfl) (by decide) (by decide)) (g := (mkF m 20 #[.val (.ref ca), .val (.int (0 : Int32)), .val (.int (1 : Int32)), .val (.ref r1), .val (.int (0 : Int32))] [(.int c0), (.int (0 : Int32)), (.ref r1)])) rfl (by rw [hml]; rfl) (argsL := [(.ref r1), (.int (0 : Int32)), (.int c0)]) (rest := []) (lenOf pd__40_91BII_41V rfl) rfl (by show 2 * 0 + _ ≤ _; exact Nat.le_of_eq rfl) (hb hby D20_20.1) (fun _ _ => ⟨rfl, rfl, (by decide : 1 + 0 ≤ _), (by decide : 2 + 0 ≤ _)⟩)
  dsimp only [Pt.U, Pt.locs, Pt.cells, Pt.slots] at X4 l4 y4 z4 st4 hQ4
  subst l4 y4 z4
  obtain ⟨rfl, N4q, K4, Vp4⟩ := hQ4
  have sz4 := own_leN K4.1
  have N4 := Fr.app N1 N4q
  refine own_pre (A' := T4.setTop (mkF m 23 #[.val (.ref ca), .val (.int (0 : Int32)), .val (.int (1 : Int32)), .val (.ref r1), .val (.int (0 : Int32))] [])) st4 ?_
  refine o_iinc X4 hx hby D20_23 rfl (l' := #[.val (.ref ca), .val (.int ((0 : Int32) + (1 : Int32))), .val (.int (1 : Int32)), .val (.ref r1), .val (.int (0 : Int32))]) rfl ?_
  rw [(by decide : ((0 : Int32) + (1 : Int32)) = (1 : Int32))]
  refine o_iinc X4 hx hby D20_26 rfl (l' := #[.val (.ref ca), .val (.int (1 : Int32)), .val (.int (1 : Int32)), .val (.ref r1), .val (.int ((0 : Int32) + (1 : Int32)))]) rfl ?_
  rw [(by decide : ((0 : Int32) + (1 : Int32)) = (1 : Int32))]
  refine o_goto X4 hx hby D20_29 (q := 8) (by decide) (by decide) ?_
  refine o_iload X4 hx hby D20_8 rfl ?_
  refine o_iloadN X4 hx hby D20_10 rfl ?_
  refine o_icmpY X4 hx hby D20_11 (flt (by decide : ¬ ((1 : Int32) < (1 : Int32)))).2.1 (q := 32) (by decide) (by decide) ?_
  refine o_aloadN X4 hx hby D20_32 rfl rfl ?_
  have KK : Keep h0 T4.heap [] := (((Keep.refl h0 []).trans K1 all0).trans K4 (allS (Or.inr (own_leN (by omega))) all0))
  exact own_ret (v := some (.ref r1)) X4 (fun h => by first | rfl | (rw [Bd.returns] at h; cases h)) (BodyLoose.notSynchronized Bd) (by decide) (by decide) (⟨r1, kr1, rfl, N4, KK, own_leN (by omega), Vp4⟩) (fun fs hr => retOut X4 hx Bd.returns rfl (Or.inr (Or.inr (Or.inr (Or.inr ⟨rfl, rfl, rfl⟩)))) (hb hby D20_33.1) hr)
def own_Q51 (Z : State) (dst : Addr) (kd : ClassId) (c0 : Int32) (h0 : Heap) (n0 : Nat) (v : Option Value) (h : Heap) (L : List Loc) : Prop := Fr n0 L ∧ Keep h0 h [dst] ∧ ((v = some (.int (1 : Int32)) ∧ (¬ ((255 : Int32) < c0)) ∧ Arv Z h dst kd .byte (1 : Int32) [(.int (own_l8 c0))] (.int (0 : Int32))) ∨ (v = some (.int (0 : Int32)) ∧ (255 : Int32) < c0))
theorem D16_0 : own_at jdk_52_method_21_code 0 (.iconst 0) 1 1 := ⟨by decide +kernel, rfl⟩
theorem D16_1 : own_at jdk_52_method_21_code 1 (.istore 5) 2 3 := ⟨by decide +kernel, rfl⟩
theorem D16_3 : own_at jdk_52_method_21_code 3 (.iload 5) 2 5 := ⟨by decide +kernel, rfl⟩
theorem D16_5 : own_at jdk_52_method_21_code 5 (.iload 4) 2 7 := ⟨by decide +kernel, rfl⟩
theorem D16_7 : own_at jdk_52_method_21_code 7 (.if_icmp .ge 37) 3 10 := ⟨by decide +kernel, rfl⟩
theorem D16_10 : own_at jdk_52_method_21_code 10 (.aload_n 0) 1 11 := ⟨by decide +kernel, rfl⟩
theorem D16_11 : own_at jdk_52_method_21_code 11 (.iload_n 1) 1 12 := ⟨by decide +kernel, rfl⟩
theorem D16_12 : own_at jdk_52_method_21_code 12 (.caload) 1 13 := ⟨by decide +kernel, rfl⟩
theorem D16_13 : own_at jdk_52_method_21_code 13 (.istore 6) 2 15 := ⟨by decide +kernel, rfl⟩
theorem D16_15 : own_at jdk_52_method_21_code 15 (.iload 6) 2 17 := ⟨by decide +kernel, rfl⟩
theorem D16_17 : own_at jdk_52_method_21_code 17 (.sipush 255) 3 20 := ⟨by decide +kernel, rfl⟩
theorem D16_20 : own_at jdk_52_method_21_code 20 (.if_icmp .le 6) 3 23 := ⟨by decide +kernel, rfl⟩
theorem D16_23 : own_at jdk_52_method_21_code 23 (.iload 5) 2 25 := ⟨by decide +kernel, rfl⟩
theorem D16_25 : own_at jdk_52_method_21_code 25 (.ireturn) 1 26 := ⟨by decide +kernel, rfl⟩
theorem D16_26 : own_at jdk_52_method_21_code 26 (.aload_n 2) 1 27 := ⟨by decide +kernel, rfl⟩
theorem D16_27 : own_at jdk_52_method_21_code 27 (.iload_n 3) 1 28 := ⟨by decide +kernel, rfl⟩
theorem D16_28 : own_at jdk_52_method_21_code 28 (.iload 6) 2 30 := ⟨by decide +kernel, rfl⟩
theorem D16_30 : own_at jdk_52_method_21_code 30 (.i2b) 1 31 := ⟨by decide +kernel, rfl⟩
theorem D16_31 : own_at jdk_52_method_21_code 31 (.bastore) 1 32 := ⟨by decide +kernel, rfl⟩
theorem D16_32 : own_at jdk_52_method_21_code 32 (.iinc 1 1) 3 35 := ⟨by decide +kernel, rfl⟩
theorem D16_35 : own_at jdk_52_method_21_code 35 (.iinc 3 1) 3 38 := ⟨by decide +kernel, rfl⟩
theorem D16_38 : own_at jdk_52_method_21_code 38 (.iinc 5 1) 3 41 := ⟨by decide +kernel, rfl⟩
theorem D16_41 : own_at jdk_52_method_21_code 41 (.goto (-38)) 3 44 := ⟨by decide +kernel, rfl⟩
theorem D16_44 : own_at jdk_52_method_21_code 44 (.iload 4) 2 46 := ⟨by decide +kernel, rfl⟩
theorem D16_46 : own_at jdk_52_method_21_code 46 (.ireturn) 1 47 := ⟨by decide +kernel, rfl⟩
theorem ef_rs_c51 (m : MethodId) (ca : Addr) (dst : Addr) : entryFrame m #[(.ref ca), (.int (0 : Int32)), (.ref dst), (.int (0 : Int32)), (.int (1 : Int32))] 7 = mkF m 0 #[.val (.ref ca), .val (.int (0 : Int32)), .val (.ref dst), .val (.int (0 : Int32)), .val (.int (1 : Int32)), .unset, .unset] [] := by first | (simp [entryFrame, mkF, argsToLocals, Value.category]; done) | rfl
set_option maxRecDepth 65536 in
set_option maxHeartbeats 40000000 in
theorem rs_c51 (l : Launch) (Z : State) (a0 : Array Value) (hw : ∀ d ∈ tables_1, d.before a0 Z = true) (ws : List Jvm.Cond) (ca : Addr) (dst : Addr) (kc kd : ClassId) (c0 : Int32) (h0 : Heap) (n0 : Nat) (Z0 : n0 ≤ h0.size) (Vc : Arv Z h0 ca kc .char (1 : Int32) [(.int c0)] (.int (0 : Int32))) (Vd : Arv Z h0 dst kd .byte (1 : Int32) [(.int (0 : Int32))] (.int (0 : Int32))) (gn_dst : n0 ≤ dst) (ncd : @LT.lt Nat instLTNat ca dst) :
    MetFree l (⟨"java/lang/StringUTF16", "compress", "([CI[BII)I"⟩ : MethodName) (head1 (Jvm.Cond.code (⟨"java/lang/StringUTF16", "compress", "([CI[BII)I"⟩ : MethodName) jdk_52_method_21_code 7 (some .int) :: ws) ({ frames := 0, cells := 0, slots := 0, locals := 0 } : Room)) (fun a U => a = #[(.ref ca), (.int (0 : Int32)), (.ref dst), (.int (0 : Int32)), (.int (1 : Int32))] ∧ Z.Warmed39 U.vm ∧ U.heap = h0) (fun _ _ _ _ _ => True) (fun _ U o U' => ∃ v L, o = .returned v ∧ own_Q51 Z dst kd c0 h0 n0 v U'.heap L ∧ FrameEnd U o U' L ({ frames := 0, cells := 0, slots := 0, locals := 0 } : Room).cells ({ frames := 0, cells := 0, slots := 0, locals := 0 } : Room).slots) := by
  refine MetFree.of_bodySF (plainFor_of_name pn_java_lang_StringUTF16) hisR ?_
  intro p e s m args below meth c s₁ Bd hml0 hP hK
  obtain ⟨rfl, hZ, hh⟩ := hP
  have hx := Bd.exec
  have hby := Bd.bytes
  have hml : c.maxLocals = 7 := hml0
  have hown : s.vm.findClass "java/lang/StringUTF16" = some m.cls := findClass_of_methodNamed Bd.named
  have hnm := (name_of_methodNamed Bd.named Bd.method).1
  have X0 : Stand p l e ({ frames := 0, cells := 0, slots := 0, locals := 0 } : Room) s m #[(.ref ca), (.int (0 : Int32)), (.ref dst), (.int (0 : Int32)), (.int (1 : Int32))] below meth c s₁ [] 0 0 := Stand.of_body Bd
  have e0 : s₁.heap = h0 := by rw [← hh, Bd.state]; rfl
  have N0 := Fr.nil n0
  refine own_start (ef_rs_c51 m ca dst) ?_
  have lt_ca := own_ltN Vc.lt
  have lt_dst := own_ltN Vd.lt
  refine o_iconst X0 hx hby D16_0 (v := 0) rfl ?_
  refine o_istore X0 hx hby D16_1 (l' := #[.val (.ref ca), .val (.int (0 : Int32)), .val (.ref dst), .val (.int (0 : Int32)), .val (.int (1 : Int32)), .val (.int (0 : Int32)), .unset]) rfl ?_
  refine o_iload X0 hx hby D16_3 rfl ?_
  refine o_iload X0 hx hby D16_5 rfl ?_
  refine o_icmpN X0 hx hby D16_7 (tlt (by decide : (0 : Int32) < (1 : Int32))).2.1 ?_
  refine o_aloadN X0 hx hby D16_10 rfl rfl ?_
  refine o_iloadN X0 hx hby D16_11 rfl ?_
  obtain ⟨cl_ca_1, Ar_ca_1, q_ca_1, S_ca_1, N_ca_1, H_ca_1, G_ca_1⟩ := id Vc
  have hin_ca_1 : ¬ ((0 : Int32) < 0 ∨ cl_ca_1.slots.size ≤ ((0 : Int32)).toNatClampNeg) := inb_of S_ca_1 ⟨by decide, by decide⟩
  have hat_ca_1 : cl_ca_1.slots[((0 : Int32)).toNatClampNeg]? = some (.int c0) := H_ca_1.at hin_ca_1 (rfl)
  refine own_pre (A' := s₁.setTop (mkF m 13 #[.val (.ref ca), .val (.int (0 : Int32)), .val (.ref dst), .val (.int (0 : Int32)), .val (.int (1 : Int32)), .val (.int (0 : Int32)), .unset] [(.int c0)])) (fun t k => X0.caload hx (j := (0 : Int32)) (v := (.int c0)) (by rw [e0]; exact Ar_ca_1.1) (State.isArrayOf_alike hZ.alike Ar_ca_1.2.1) Ar_ca_1.2.2 hin_ca_1 hat_ca_1 (g := (mkF m 12 #[.val (.ref ca), .val (.int (0 : Int32)), .val (.ref dst), .val (.int (0 : Int32)), .val (.int (1 : Int32)), .val (.int (0 : Int32)), .unset] [(.int (0 : Int32)), (.ref ca)])) rfl rfl (hb hby D16_12.1) _ k) ?_
  refine o_istore X0 hx hby D16_13 (l' := #[.val (.ref ca), .val (.int (0 : Int32)), .val (.ref dst), .val (.int (0 : Int32)), .val (.int (1 : Int32)), .val (.int (0 : Int32)), .val (.int c0)]) rfl ?_
  refine o_iload X0 hx hby D16_15 rfl ?_
  refine o_sipush X0 hx hby D16_17 (v := 255) rfl ?_
  by_cases hc20_2 : (255 : Int32) < c0
  · skip
    refine o_icmpN X0 hx hby D16_20 (tlt hc20_2).2.2.2 ?_
    refine o_iload X0 hx hby D16_23 rfl ?_
    have KK : Keep h0 h0 [dst] := (Keep.refl h0 [dst])
    exact own_ret (v := some (.int (0 : Int32))) X0 (fun h => by first | rfl | (rw [Bd.returns] at h; cases h)) (BodyLoose.notSynchronized Bd) (by decide) (by decide) (by rw [e0]; exact ⟨N0, KK, (Or.inr ⟨rfl, hc20_2⟩)⟩) (fun fs hr => retI X0 hx Bd.returns (hb hby D16_25.1) hr)
  · skip
    refine o_icmpY X0 hx hby D16_20 (flt hc20_2).2.2.2 (q := 26) (by decide) (by decide) ?_
    refine o_aloadN X0 hx hby D16_26 rfl rfl ?_
    refine o_iloadN X0 hx hby D16_27 rfl ?_
    refine o_iload X0 hx hby D16_28 rfl ?_
    refine o_i2b X0 hx hby D16_30 ?_
    obtain ⟨cl_dst_3, Ar_dst_3, q_dst_3, S_dst_3, N_dst_3, H_dst_3, G_dst_3⟩ := id Vd
    have hin_dst_3 : ¬ ((0 : Int32) < 0 ∨ cl_dst_3.slots.size ≤ ((0 : Int32)).toNatClampNeg) := inb_of S_dst_3 ⟨by decide, by decide⟩
    obtain ⟨T3, h3, X3, e3, W3, st3⟩ := stB X0 hx hZ e0 Ar_dst_3 (j := (0 : Int32)) hin_dst_3 (g := (mkF m 31 #[.val (.ref ca), .val (.int (0 : Int32)), .val (.ref dst), .val (.int (0 : Int32)), .val (.int (1 : Int32)), .val (.int (0 : Int32)), .val (.int c0)] [(.int ((c0).toInt8.toInt32)), (.int (0 : Int32)), (.ref dst)])) rfl rfl (hb hby D16_31.1)
    have V_dst_3 : Arv Z h3 dst kd .byte (1 : Int32) [(.int (nar .byte ((c0).toInt8.toInt32)))] (.int (0 : Int32)) := Arv.set Ar_dst_3 q_dst_3 S_dst_3 N_dst_3 H_dst_3 G_dst_3 (fits_nar_byte _) W3 0 rfl (Nat.le_of_ble_eq_true rfl)
    have sz3 := own_leN (Keep.of_wr W3).1
    have N3 := Fr.snoc X3 N0 gn_dst
    refine own_pre (A' := T3.setTop (mkF m 32 #[.val (.ref ca), .val (.int (0 : Int32)), .val (.ref dst), .val (.int (0 : Int32)), .val (.int (1 : Int32)), .val (.int (0 : Int32)), .val (.int c0)] [])) st3 ?_
    refine o_iinc X3 hx hby D16_32 rfl (l' := #[.val (.ref ca), .val (.int ((0 : Int32) + (1 : Int32))), .val (.ref dst), .val (.int (0 : Int32)), .val (.int (1 : Int32)), .val (.int (0 : Int32)), .val (.int c0)]) rfl ?_
    rw [(by decide : ((0 : Int32) + (1 : Int32)) = (1 : Int32))]
    refine o_iinc X3 hx hby D16_35 rfl (l' := #[.val (.ref ca), .val (.int (1 : Int32)), .val (.ref dst), .val (.int ((0 : Int32) + (1 : Int32))), .val (.int (1 : Int32)), .val (.int (0 : Int32)), .val (.int c0)]) rfl ?_
    rw [(by decide : ((0 : Int32) + (1 : Int32)) = (1 : Int32))]
    refine o_iinc X3 hx hby D16_38 rfl (l' := #[.val (.ref ca), .val (.int (1 : Int32)), .val (.ref dst), .val (.int (1 : Int32)), .val (.int (1 : Int32)), .val (.int ((0 : Int32) + (1 : Int32))), .val (.int c0)]) rfl ?_
    rw [(by decide : ((0 : Int32) + (1 : Int32)) = (1 : Int32))]
    refine o_goto X3 hx hby D16_41 (q := 3) (by decide) (by decide) ?_
    refine o_iload X3 hx hby D16_3 rfl ?_
    refine o_iload X3 hx hby D16_5 rfl ?_
    refine o_icmpY X3 hx hby D16_7 (flt (by decide : ¬ ((1 : Int32) < (1 : Int32)))).2.1 (q := 44) (by decide) (by decide) ?_
    refine o_iload X3 hx hby D16_44 rfl ?_
    have KK : Keep h0 h3 [dst] := ((Keep.refl h0 [dst]).wr W3 (Or.inl (by simp)))
    have VV : Arv Z h3 dst kd .byte (1 : Int32) [(.int (own_l8 c0))] (.int (0 : Int32)) := V_dst_3
    exact own_ret (v := some (.int (1 : Int32))) X3 (fun h => by first | rfl | (rw [Bd.returns] at h; cases h)) (BodyLoose.notSynchronized Bd) (by decide) (by decide) (by rw [e3]; exact ⟨N3, KK, (Or.inl ⟨rfl, hc20_2, VV⟩)⟩) (fun fs hr => retI X3 hx Bd.returns (hb hby D16_46.1) hr)
def own_Q31 (Z : State) (c0 : Int32) (h0 : Heap) (n0 : Nat) (v : Option Value) (h : Heap) (L : List Loc) : Prop := ∃ (r : Nat) (kr : ClassId), v = some (.ref r) ∧ Fr n0 L ∧ Keep h0 h [] ∧ h0.size ≤ r ∧ (((¬ ((255 : Int32) < c0)) ∧ Arv Z h r kr .byte (1 : Int32) [(.int (own_l8 c0))] (.int (0 : Int32))) ∨ Arv Z h r kr .byte (2 : Int32) [(.int (own_lo c0)), (.int (own_hi c0))] (.int (0 : Int32)))
theorem pd__40_91CI_91BII_41I : parseMethodDescriptor "([CI[BII)I" = some ⟨[(.array .char), .int, (.array .byte), .int, .int], some .int⟩ := by decide +kernel
theorem pd__40_91CII_41_91B : parseMethodDescriptor "([CII)[B" = some ⟨[(.array .char), .int, .int], some (.array .byte)⟩ := by decide +kernel
theorem pd__40_91BI_41C : parseMethodDescriptor "([BI)C" = some ⟨[(.array .byte), .int], some .char⟩ := by decide +kernel
theorem D15_0 : own_at jdk_52_method_16_code 0 (.iload_n 2) 1 1 := ⟨by decide +kernel, rfl⟩
theorem D15_1 : own_at jdk_52_method_16_code 1 (.newarray .byte) 2 3 := ⟨by decide +kernel, rfl⟩
theorem D15_3 : own_at jdk_52_method_16_code 3 (.astore_n 3) 1 4 := ⟨by decide +kernel, rfl⟩
theorem D15_4 : own_at jdk_52_method_16_code 4 (.aload_n 0) 1 5 := ⟨by decide +kernel, rfl⟩
theorem D15_5 : own_at jdk_52_method_16_code 5 (.iload_n 1) 1 6 := ⟨by decide +kernel, rfl⟩
theorem D15_6 : own_at jdk_52_method_16_code 6 (.aload_n 3) 1 7 := ⟨by decide +kernel, rfl⟩
theorem D15_7 : own_at jdk_52_method_16_code 7 (.iconst 0) 1 8 := ⟨by decide +kernel, rfl⟩
theorem D15_8 : own_at jdk_52_method_16_code 8 (.iload_n 2) 1 9 := ⟨by decide +kernel, rfl⟩
theorem D15_9 : own_at jdk_52_method_16_code 9 (.invokestatic 115) 3 12 := ⟨by decide +kernel, rfl⟩
theorem D15_12 : own_at jdk_52_method_16_code 12 (.istore 4) 2 14 := ⟨by decide +kernel, rfl⟩
theorem D15_14 : own_at jdk_52_method_16_code 14 (.iload 4) 2 16 := ⟨by decide +kernel, rfl⟩
theorem D15_16 : own_at jdk_52_method_16_code 16 (.iload_n 2) 1 17 := ⟨by decide +kernel, rfl⟩
theorem D15_17 : own_at jdk_52_method_16_code 17 (.if_icmp .eq 40) 3 20 := ⟨by decide +kernel, rfl⟩
theorem D15_20 : own_at jdk_52_method_16_code 20 (.aload_n 0) 1 21 := ⟨by decide +kernel, rfl⟩
theorem D15_21 : own_at jdk_52_method_16_code 21 (.iload_n 1) 1 22 := ⟨by decide +kernel, rfl⟩
theorem D15_22 : own_at jdk_52_method_16_code 22 (.iload_n 2) 1 23 := ⟨by decide +kernel, rfl⟩
theorem D15_23 : own_at jdk_52_method_16_code 23 (.invokestatic 119) 3 26 := ⟨by decide +kernel, rfl⟩
theorem D15_26 : own_at jdk_52_method_16_code 26 (.astore 5) 2 28 := ⟨by decide +kernel, rfl⟩
theorem D15_28 : own_at jdk_52_method_16_code 28 (.aload 5) 2 30 := ⟨by decide +kernel, rfl⟩
theorem D15_30 : own_at jdk_52_method_16_code 30 (.iload 4) 2 32 := ⟨by decide +kernel, rfl⟩
theorem D15_32 : own_at jdk_52_method_16_code 32 (.invokestatic 71) 3 35 := ⟨by decide +kernel, rfl⟩
theorem D15_35 : own_at jdk_52_method_16_code 35 (.sipush 255) 3 38 := ⟨by decide +kernel, rfl⟩
theorem D15_38 : own_at jdk_52_method_16_code 38 (.if_icmp .gt 16) 3 41 := ⟨by decide +kernel, rfl⟩
theorem D15_54 : own_at jdk_52_method_16_code 54 (.aload 5) 2 56 := ⟨by decide +kernel, rfl⟩
theorem D15_56 : own_at jdk_52_method_16_code 56 (.areturn) 1 57 := ⟨by decide +kernel, rfl⟩
theorem D15_57 : own_at jdk_52_method_16_code 57 (.aload_n 3) 1 58 := ⟨by decide +kernel, rfl⟩
theorem D15_58 : own_at jdk_52_method_16_code 58 (.areturn) 1 59 := ⟨by decide +kernel, rfl⟩
theorem ef_rs_c31 (m : MethodId) (ca : Addr) : entryFrame m #[(.ref ca), (.int (0 : Int32)), (.int (1 : Int32))] 6 = mkF m 0 #[.val (.ref ca), .val (.int (0 : Int32)), .val (.int (1 : Int32)), .unset, .unset, .unset] [] := by first | (simp [entryFrame, mkF, argsToLocals, Value.category]; done) | rfl
set_option maxRecDepth 65536 in
set_option maxHeartbeats 40000000 in
theorem rs_c31 (l : Launch) (Z : State) (a0 : Array Value) (hw : ∀ d ∈ tables_1, d.before a0 Z = true) (ws : List Jvm.Cond) (ca : Addr) (kc : ClassId) (c0 : Int32) (cs : Int32) (vf : Value) (h0 : Heap) (n0 : Nat) (Z0 : n0 ≤ h0.size) (hST : own_ST Z cs vf) (O0 : Old Z n0 h0) (Vc : Arv Z h0 ca kc .char (1 : Int32) [(.int c0)] (.int (0 : Int32))) (hc0 : own_ch16 c0) :
    MetFree l (⟨"java/lang/StringUTF16", "compress", "([CII)[B"⟩ : MethodName) (head1 (Jvm.Cond.code (⟨"java/lang/StringUTF16", "compress", "([CII)[B"⟩ : MethodName) jdk_52_method_16_code 6 (some (.array .byte)) :: ws) ({ frames := 3, cells := 2, slots := 3, locals := 40 } : Room)) (fun a U => a = #[(.ref ca), (.int (0 : Int32)), (.int (1 : Int32))] ∧ Z.Warmed39 U.vm ∧ U.heap = h0) (fun _ _ _ _ _ => True) (fun _ U o U' => ∃ v L, o = .returned v ∧ own_Q31 Z c0 h0 n0 v U'.heap L ∧ FrameEnd U o U' L ({ frames := 3, cells := 2, slots := 3, locals := 40 } : Room).cells ({ frames := 3, cells := 2, slots := 3, locals := 40 } : Room).slots) := by
  refine MetFree.of_bodySF (plainFor_of_name pn_java_lang_StringUTF16) hisR ?_
  intro p e s m args below meth c s₁ Bd hml0 hP hK
  obtain ⟨rfl, hZ, hh⟩ := hP
  have hx := Bd.exec
  have hby := Bd.bytes
  have hml : c.maxLocals = 6 := hml0
  have hown : s.vm.findClass "java/lang/StringUTF16" = some m.cls := findClass_of_methodNamed Bd.named
  have hnm := (name_of_methodNamed Bd.named Bd.method).1
  have X0 : Stand p l e ({ frames := 3, cells := 2, slots := 3, locals := 40 } : Room) s m #[(.ref ca), (.int (0 : Int32)), (.int (1 : Int32))] below meth c s₁ [] 0 0 := Stand.of_body Bd
  have e0 : s₁.heap = h0 := by rw [← hh, Bd.state]; rfl
  have N0 := Fr.nil n0
  refine own_start (ef_rs_c31 m ca) ?_
  have hST0 := hST
  obtain ⟨S_cs, S_ad, S_hb, S_lb, S_sf, hcs, hvf⟩ := hST
  have lt_ca := own_ltN Vc.lt
  refine o_iloadN X0 hx hby D15_0 rfl ?_
  obtain ⟨T1, h1, k1, X1, e1, E1, A1, Ex1, st1⟩ := newPE X0 hx hZ (own_wd hw (i := 19) rfl) e0 (g := (mkF m 1 #[.val (.ref ca), .val (.int (0 : Int32)), .val (.int (1 : Int32)), .unset, .unset, .unset] [(.int (1 : Int32))])) rfl (hb hby D15_1.1) rfl (by decide) (cap := 1) (by decide) (by decide) (by decide) (by decide) (ad := "[B") (by first | rfl | decide)
  obtain ⟨b1, g1⟩ : ∃ z : Nat, z = h0.size := ⟨_, rfl⟩
  rw [← g1] at A1 Ex1 st1
  have sz1 := own_leN E1.1
  have gn_b1 : n0 ≤ b1 := by omega
  have V_b1 : Arv Z h1 b1 k1 .byte (1 : Int32) [(.int (0 : Int32))] (.int (0 : Int32)) := (Arv.new A1 (by decide)).pad (pad_rep [] (.int (0 : Int32)) 1)
  have lt_b1 := own_ltN V_b1.lt
  refine own_pre (A' := T1.setTop (mkF m 3 #[.val (.ref ca), .val (.int (0 : Int32)), .val (.int (1 : Int32)), .unset, .unset, .unset] [(.ref b1)])) st1 ?_
  refine o_astoreN X1 hx hby D15_3 rfl (l' := #[.val (.ref ca), .val (.int (0 : Int32)), .val (.int (1 : Int32)), .val (.ref b1), .unset, .unset]) rfl ?_
  refine o_aloadN X1 hx hby D15_4 rfl rfl ?_
  refine o_iloadN X1 hx hby D15_5 rfl ?_
  refine o_aloadN X1 hx hby D15_6 rfl rfl ?_
  refine o_iconst X1 hx hby D15_7 (v := 0) rfl ?_
  refine o_iloadN X1 hx hby D15_8 rfl ?_
  have c3_V_ca := (Vc.ext E1)
  obtain ⟨_, _, ⟨T2, L2, k2, n2⟩, -, X2, ⟨Lc2, hQ2, l2, y2, z2⟩, st2⟩ := Jvm.LawKit.callS X1 hx (y := (⟨"java/lang/StringUTF16", "compress", "([CI[BII)I"⟩ : MethodName)) hown (mvT hZ (own_wd hw (i := 74) rfl)) (mvT hZ (own_wd hw (i := 75) rfl)) (mvT hZ (own_wd hw (i := 72) rfl)) (mvT hZ (own_wd hw (i := 76) rfl)) (by decide) (backOf (W := 0) (rs_c51 l Z a0 hw [] ca b1 kc k1 c0 h1 n0 (own_leN (by omega)) c3_V_ca V_b1 gn_b1 (by omega)) hZ (own_wd hw (i := 76) rfl) (own_wd hw (i := 72) rfl) (by decide) (by decide)) (g := (mkF m 9 #[.val (.ref ca), .val (.int (0 : Int32)), .val (.int (1 : Int32)), .val (.ref b1), .unset, .unset] [(.int (1 : Int32)), (.int (0 : Int32)), (.ref b1), (.int (0 : Int32)), (.ref ca)])) rfl (by rw [hml]; rfl) (argsL := [(.ref ca), (.int (0 : Int32)), (.ref b1), (.int (0 : Int32)), (.int (1 : Int32))]) (rest := []) (lenOf pd__40_91CI_91BII_41I rfl) rfl (by show 2 * 0 + _ ≤ _; exact Nat.le_of_eq rfl) (hb hby D15_9.1) (fun _ _ => ⟨rfl, e1, (by decide : 1 + 0 ≤ _), (by decide : 1 + 0 ≤ _)⟩)
  dsimp only [Pt.U, Pt.locs, Pt.cells, Pt.slots] at X2 l2 y2 z2 st2 hQ2
  subst l2 y2 z2
  obtain ⟨N2q, K2, hw2⟩ := hQ2
  have sz2 := own_leN K2.1
  have N2 := Fr.app N0 N2q
  rcases hw2 with ⟨rfl, hl0, V5⟩ | ⟨rfl, hh0⟩
  · skip
    refine own_pre (A' := T2.setTop (mkF m 12 #[.val (.ref ca), .val (.int (0 : Int32)), .val (.int (1 : Int32)), .val (.ref b1), .unset, .unset] [(.int (1 : Int32))])) st2 ?_
    refine o_istore X2 hx hby D15_12 (l' := #[.val (.ref ca), .val (.int (0 : Int32)), .val (.int (1 : Int32)), .val (.ref b1), .val (.int (1 : Int32)), .unset]) rfl ?_
    refine o_iload X2 hx hby D15_14 rfl ?_
    refine o_iloadN X2 hx hby D15_16 rfl ?_
    refine o_icmpY X2 hx hby D15_17 (teq (by decide : (1 : Int32) = (1 : Int32))).1 (q := 57) (by decide) (by decide) ?_
    refine o_aloadN X2 hx hby D15_57 rfl rfl ?_
    have KK : Keep h0 T2.heap [] := (((Keep.refl h0 []).ext E1).trans K2 (allS (Or.inr (own_leN (by omega))) all0))
    exact own_ret (v := some (.ref b1)) X2 (fun h => by first | rfl | (rw [Bd.returns] at h; cases h)) (BodyLoose.notSynchronized Bd) (by decide) (by decide) (⟨b1, k1, rfl, N2, KK, own_leN (by omega), Or.inl ⟨hl0, V5⟩⟩) (fun fs hr => retOut X2 hx Bd.returns rfl (Or.inr (Or.inr (Or.inr (Or.inr ⟨rfl, rfl, rfl⟩)))) (hb hby D15_58.1) hr)
  · skip
    refine own_pre (A' := T2.setTop (mkF m 12 #[.val (.ref ca), .val (.int (0 : Int32)), .val (.int (1 : Int32)), .val (.ref b1), .unset, .unset] [(.int (0 : Int32))])) st2 ?_
    refine o_istore X2 hx hby D15_12 (l' := #[.val (.ref ca), .val (.int (0 : Int32)), .val (.int (1 : Int32)), .val (.ref b1), .val (.int (0 : Int32)), .unset]) rfl ?_
    refine o_iload X2 hx hby D15_14 rfl ?_
    refine o_iloadN X2 hx hby D15_16 rfl ?_
    refine o_icmpN X2 hx hby D15_17 (feq (by decide : ¬ ((0 : Int32) = (1 : Int32)))).1 ?_
    refine o_aloadN X2 hx hby D15_20 rfl rfl ?_
    refine o_iloadN X2 hx hby D15_21 rfl ?_
    refine o_iloadN X2 hx hby D15_22 rfl ?_
    have c5_O := ((O0.ext E1).keep K2 (allS gn_b1 all0))
    have c6_V_ca := (c3_V_ca.keep K2 (ninS (by first | exact own_neN (by omega) | exact own_neN' (by omega) | assumption) nin0))
    obtain ⟨_, _, ⟨T4, L4, k4, n4⟩, -, X4, ⟨Lc4, hQ4, l4, y4, z4⟩, st4⟩ := Jvm.LawKit.callS X2 hx (y := (⟨"java/lang/StringUTF16", "toBytes", "([CII)[B"⟩ : MethodName)) hown (mvT hZ (own_wd hw (i := 87) rfl)) (mvT hZ (own_wd hw (i := 88) rfl)) (mvT hZ (own_wd hw (i := 72) rfl)) (mvT hZ (own_wd hw (i := 89) rfl)) (by decide) (backOf (W := 0) (rs_tb1 l Z a0 hw [] ca kc c0 cs vf T2.heap n0 (own_leN (by omega)) hST0 c5_O c6_V_ca) hZ (own_wd hw (i := 89) rfl) (own_wd hw (i := 72) rfl) (by decide) (by decide)) (g := (mkF m 23 #[.val (.ref ca), .val (.int (0 : Int32)), .val (.int (1 : Int32)), .val (.ref b1), .val (.int (0 : Int32)), .unset] [(.int (1 : Int32)), (.int (0 : Int32)), (.ref ca)])) rfl (by rw [hml]; rfl) (argsL := [(.ref ca), (.int (0 : Int32)), (.int (1 : Int32))]) (rest := []) (lenOf pd__40_91CII_41_91B rfl) rfl (by show 2 * 0 + _ ≤ _; exact Nat.le_of_eq rfl) (hb hby D15_23.1) (fun _ _ => ⟨rfl, rfl, (by decide : 1 + 1 ≤ _), (by decide : 1 + 2 ≤ _)⟩)
    dsimp only [Pt.U, Pt.locs, Pt.cells, Pt.slots] at X4 l4 y4 z4 st4 hQ4
    subst l4 y4 z4
    obtain ⟨r4, kr4, rfl, N4q, K4, ge4, Vr4⟩ := hQ4
    have sz4 := own_leN K4.1
    have ge4' := own_leN ge4
    have lt_r4 := own_ltN Vr4.lt
    have gn_r4 : n0 ≤ r4 := own_leN (by omega)
    have N4 := Fr.app N2 N4q
    refine own_pre (A' := T4.setTop (mkF m 26 #[.val (.ref ca), .val (.int (0 : Int32)), .val (.int (1 : Int32)), .val (.ref b1), .val (.int (0 : Int32)), .unset] [(.ref r4)])) st4 ?_
    refine o_astore X4 hx hby D15_26 rfl (l' := #[.val (.ref ca), .val (.int (0 : Int32)), .val (.int (1 : Int32)), .val (.ref b1), .val (.int (0 : Int32)), .val (.ref r4)]) rfl ?_
    refine o_aload X4 hx hby D15_28 rfl rfl ?_
    refine o_iload X4 hx hby D15_30 rfl ?_
    have c8_O := (c5_O.keep K4 all0)
    obtain ⟨_, _, ⟨T7, L7, k7, n7⟩, -, X7, ⟨Lc7, hQ7, l7, y7, z7⟩, st7⟩ := Jvm.LawKit.callS X4 hx (y := (⟨"java/lang/StringUTF16", "getChar", "([BI)C"⟩ : MethodName)) hown (mvT hZ (own_wd hw (i := 103) rfl)) (mvT hZ (own_wd hw (i := 104) rfl)) (mvT hZ (own_wd hw (i := 72) rfl)) (mvT hZ (own_wd hw (i := 105) rfl)) (by decide) (backOf (W := 0) (rs_gc10 l Z a0 hw [] r4 kr4 c0 cs vf T4.heap n0 (own_leN (by omega)) hST0 c8_O Vr4 hc0) hZ (own_wd hw (i := 105) rfl) (own_wd hw (i := 72) rfl) (by decide) (by decide)) (g := (mkF m 32 #[.val (.ref ca), .val (.int (0 : Int32)), .val (.int (1 : Int32)), .val (.ref b1), .val (.int (0 : Int32)), .val (.ref r4)] [(.int (0 : Int32)), (.ref r4)])) rfl (by rw [hml]; rfl) (argsL := [(.ref r4), (.int (0 : Int32))]) (rest := []) (lenOf pd__40_91BI_41C rfl) rfl (by show 2 * 0 + _ ≤ _; exact Nat.le_of_eq rfl) (hb hby D15_32.1) (fun _ _ => ⟨rfl, rfl, (by decide : 2 + 0 ≤ _), (by decide : 3 + 0 ≤ _)⟩)
    dsimp only [Pt.U, Pt.locs, Pt.cells, Pt.slots] at X7 l7 y7 z7 st7 hQ7
    subst l7 y7 z7
    obtain ⟨rfl, N7q, e7⟩ := hQ7
    have N7 := Fr.app N4 N7q
    refine own_pre (A' := T7.setTop (mkF m 35 #[.val (.ref ca), .val (.int (0 : Int32)), .val (.int (1 : Int32)), .val (.ref b1), .val (.int (0 : Int32)), .val (.ref r4)] [(.int c0)])) st7 ?_
    refine o_sipush X7 hx hby D15_35 (v := 255) rfl ?_
    refine o_icmpY X7 hx hby D15_38 (tlt (hh0 : (255 : Int32) < c0)).2.2.1 (q := 54) (by decide) (by decide) ?_
    refine o_aload X7 hx hby D15_54 rfl rfl ?_
    have KK : Keep h0 T4.heap [] := ((((Keep.refl h0 []).ext E1).trans K2 (allS (Or.inr (own_leN (by omega))) all0)).trans K4 all0)
    exact own_ret (v := some (.ref r4)) X7 (fun h => by first | rfl | (rw [Bd.returns] at h; cases h)) (BodyLoose.notSynchronized Bd) (by decide) (by decide) (by rw [e7]; exact ⟨r4, kr4, rfl, N7, KK, own_leN (by omega), Or.inr Vr4⟩) (fun fs hr => retOut X7 hx Bd.returns rfl (Or.inr (Or.inr (Or.inr (Or.inr ⟨rfl, rfl, rfl⟩)))) (hb hby D15_56.1) hr)
theorem D17_0 : own_at jdk_52_method_15_code 0 (.iload_n 1) 1 1 := ⟨by decide +kernel, rfl⟩
theorem D17_1 : own_at jdk_52_method_15_code 1 (.aload_n 0) 1 2 := ⟨by decide +kernel, rfl⟩
theorem D17_2 : own_at jdk_52_method_15_code 2 (.arraylength) 1 3 := ⟨by decide +kernel, rfl⟩
theorem D17_3 : own_at jdk_52_method_15_code 3 (.isub) 1 4 := ⟨by decide +kernel, rfl⟩
theorem D17_4 : own_at jdk_52_method_15_code 4 (.bipush 31) 2 6 := ⟨by decide +kernel, rfl⟩
theorem D17_6 : own_at jdk_52_method_15_code 6 (.iushr) 1 7 := ⟨by decide +kernel, rfl⟩
theorem D17_7 : own_at jdk_52_method_15_code 7 (.i2b) 1 8 := ⟨by decide +kernel, rfl⟩
theorem D17_8 : own_at jdk_52_method_15_code 8 (.ireturn) 1 9 := ⟨by decide +kernel, rfl⟩
theorem ef_rs_cd1_1 (m : MethodId) (ba : Addr) : entryFrame m #[(.ref ba), (.int (1 : Int32))] 2 = mkF m 0 #[.val (.ref ba), .val (.int (1 : Int32))] [] := by first | (simp [entryFrame, mkF, argsToLocals, Value.category]; done) | rfl
set_option maxRecDepth 65536 in
set_option maxHeartbeats 40000000 in
theorem rs_cd1_1 (l : Launch) (Z : State) (a0 : Array Value) (hw : ∀ d ∈ tables_1, d.before a0 Z = true) (ws : List Jvm.Cond) (ba : Addr) (kb : ClassId) (xs : List Value) (h0 : Heap) (n0 : Nat) (Z0 : n0 ≤ h0.size) (Vb : Arv Z h0 ba kb .byte (1 : Int32) xs (.int (0 : Int32))) :
    MetFree l (⟨"java/lang/StringUTF16", "coderFromArrayLen", "([BI)B"⟩ : MethodName) (head1 (Jvm.Cond.code (⟨"java/lang/StringUTF16", "coderFromArrayLen", "([BI)B"⟩ : MethodName) jdk_52_method_15_code 2 (some .byte) :: ws) ({ frames := 0, cells := 0, slots := 0, locals := 0 } : Room)) (fun a U => a = #[(.ref ba), (.int (1 : Int32))] ∧ Z.Warmed39 U.vm ∧ U.heap = h0) (fun _ _ _ _ _ => True) (fun _ U o U' => ∃ v L, o = .returned v ∧ own_QP (.int (0 : Int32)) h0 n0 v U'.heap L ∧ FrameEnd U o U' L ({ frames := 0, cells := 0, slots := 0, locals := 0 } : Room).cells ({ frames := 0, cells := 0, slots := 0, locals := 0 } : Room).slots) := by
  refine MetFree.of_bodySF (plainFor_of_name pn_java_lang_StringUTF16) hisR ?_
  intro p e s m args below meth c s₁ Bd hml0 hP hK
  obtain ⟨rfl, hZ, hh⟩ := hP
  have hx := Bd.exec
  have hby := Bd.bytes
  have hml : c.maxLocals = 2 := hml0
  have hown : s.vm.findClass "java/lang/StringUTF16" = some m.cls := findClass_of_methodNamed Bd.named
  have hnm := (name_of_methodNamed Bd.named Bd.method).1
  have X0 : Stand p l e ({ frames := 0, cells := 0, slots := 0, locals := 0 } : Room) s m #[(.ref ba), (.int (1 : Int32))] below meth c s₁ [] 0 0 := Stand.of_body Bd
  have e0 : s₁.heap = h0 := by rw [← hh, Bd.state]; rfl
  have N0 := Fr.nil n0
  refine own_start (ef_rs_cd1_1 m ba) ?_
  refine o_iloadN X0 hx hby D17_0 rfl ?_
  refine o_aloadN X0 hx hby D17_1 rfl rfl ?_
  obtain ⟨cl_ba_1, Ar_ba_1, q_ba_1, S_ba_1, N_ba_1, H_ba_1, G_ba_1⟩ := id Vb
  refine own_pre (A' := s₁.setTop (mkF m 3 #[.val (.ref ba), .val (.int (1 : Int32))] [(.int (1 : Int32)), (.int (1 : Int32))])) (fun t k => X0.arraylength hx (by rw [e0]; exact Ar_ba_1.1) (State.isArrayOf_alike hZ.alike Ar_ba_1.2.1) (g := (mkF m 2 #[.val (.ref ba), .val (.int (1 : Int32))] [(.ref ba), (.int (1 : Int32))])) rfl rfl (hb hby D17_2.1) _ (by rw [len_of S_ba_1 N_ba_1]; exact k)) ?_
  refine o_isub X0 hx hby D17_3 ?_
  rw [(by decide : ((1 : Int32) - (1 : Int32)) = (0 : Int32))]
  refine o_bipush X0 hx hby D17_4 (v := 31) rfl ?_
  refine o_iushr X0 hx hby D17_6 ?_
  rw [(by decide : (((0 : Int32).toUInt32 >>> ((31 : Int32) &&& 31).toUInt32).toInt32) = (0 : Int32))]
  refine o_i2b X0 hx hby D17_7 ?_
  rw [(by decide : (((0 : Int32)).toInt8.toInt32) = (0 : Int32))]
  exact own_ret (v := some (.int (0 : Int32))) X0 (fun h => by first | rfl | (rw [Bd.returns] at h; cases h)) (BodyLoose.notSynchronized Bd) (by decide) (by decide) (⟨rfl, N0, e0⟩) (fun fs hr => retN X0 hx (t := .byte) Bd.returns (by simp) (hb hby D17_8.1) hr)
theorem ef_rs_cd1_2 (m : MethodId) (ba : Addr) : entryFrame m #[(.ref ba), (.int (1 : Int32))] 2 = mkF m 0 #[.val (.ref ba), .val (.int (1 : Int32))] [] := by first | (simp [entryFrame, mkF, argsToLocals, Value.category]; done) | rfl
set_option maxRecDepth 65536 in
set_option maxHeartbeats 40000000 in
theorem rs_cd1_2 (l : Launch) (Z : State) (a0 : Array Value) (hw : ∀ d ∈ tables_1, d.before a0 Z = true) (ws : List Jvm.Cond) (ba : Addr) (kb : ClassId) (xs : List Value) (h0 : Heap) (n0 : Nat) (Z0 : n0 ≤ h0.size) (Vb : Arv Z h0 ba kb .byte (2 : Int32) xs (.int (0 : Int32))) :
    MetFree l (⟨"java/lang/StringUTF16", "coderFromArrayLen", "([BI)B"⟩ : MethodName) (head1 (Jvm.Cond.code (⟨"java/lang/StringUTF16", "coderFromArrayLen", "([BI)B"⟩ : MethodName) jdk_52_method_15_code 2 (some .byte) :: ws) ({ frames := 0, cells := 0, slots := 0, locals := 0 } : Room)) (fun a U => a = #[(.ref ba), (.int (1 : Int32))] ∧ Z.Warmed39 U.vm ∧ U.heap = h0) (fun _ _ _ _ _ => True) (fun _ U o U' => ∃ v L, o = .returned v ∧ own_QP (.int (1 : Int32)) h0 n0 v U'.heap L ∧ FrameEnd U o U' L ({ frames := 0, cells := 0, slots := 0, locals := 0 } : Room).cells ({ frames := 0, cells := 0, slots := 0, locals := 0 } : Room).slots) := by
  refine MetFree.of_bodySF (plainFor_of_name pn_java_lang_StringUTF16) hisR ?_
  intro p e s m args below meth c s₁ Bd hml0 hP hK
  obtain ⟨rfl, hZ, hh⟩ := hP
  have hx := Bd.exec
  have hby := Bd.bytes
  have hml : c.maxLocals = 2 := hml0
  have hown : s.vm.findClass "java/lang/StringUTF16" = some m.cls := findClass_of_methodNamed Bd.named
  have hnm := (name_of_methodNamed Bd.named Bd.method).1
  have X0 : Stand p l e ({ frames := 0, cells := 0, slots := 0, locals := 0 } : Room) s m #[(.ref ba), (.int (1 : Int32))] below meth c s₁ [] 0 0 := Stand.of_body Bd
  have e0 : s₁.heap = h0 := by rw [← hh, Bd.state]; rfl
  have N0 := Fr.nil n0
  refine own_start (ef_rs_cd1_2 m ba) ?_
  refine o_iloadN X0 hx hby D17_0 rfl ?_
  refine o_aloadN X0 hx hby D17_1 rfl rfl ?_
  obtain ⟨cl_ba_1, Ar_ba_1, q_ba_1, S_ba_1, N_ba_1, H_ba_1, G_ba_1⟩ := id Vb
  refine own_pre (A' := s₁.setTop (mkF m 3 #[.val (.ref ba), .val (.int (1 : Int32))] [(.int (2 : Int32)), (.int (1 : Int32))])) (fun t k => X0.arraylength hx (by rw [e0]; exact Ar_ba_1.1) (State.isArrayOf_alike hZ.alike Ar_ba_1.2.1) (g := (mkF m 2 #[.val (.ref ba), .val (.int (1 : Int32))] [(.ref ba), (.int (1 : Int32))])) rfl rfl (hb hby D17_2.1) _ (by rw [len_of S_ba_1 N_ba_1]; exact k)) ?_
  refine o_isub X0 hx hby D17_3 ?_
  rw [(by decide : ((1 : Int32) - (2 : Int32)) = (-1 : Int32))]
  refine o_bipush X0 hx hby D17_4 (v := 31) rfl ?_
  refine o_iushr X0 hx hby D17_6 ?_
  rw [(by decide : (((-1 : Int32).toUInt32 >>> ((31 : Int32) &&& 31).toUInt32).toInt32) = (1 : Int32))]
  refine o_i2b X0 hx hby D17_7 ?_
  rw [(by decide : (((1 : Int32)).toInt8.toInt32) = (1 : Int32))]
  exact own_ret (v := some (.int (1 : Int32))) X0 (fun h => by first | rfl | (rw [Bd.returns] at h; cases h)) (BodyLoose.notSynchronized Bd) (by decide) (by decide) (⟨rfl, N0, e0⟩) (fun fs hr => retN X0 hx (t := .byte) Bd.returns (by simp) (hb hby D17_8.1) hr)
def own_Str1 (Z : State) (h : Heap) (st vb : Addr) (kb : ClassId) (c0 : Int32) : Prop := Exa Z h st "java/lang/String" ∧ Fld Z h st "java/lang/String" "value" "[B" (.ref vb) ∧ ((Fld Z h st "java/lang/String" "coder" "B" (.int 0) ∧ (¬ ((255 : Int32) < c0)) ∧ Arv Z h vb kb .byte (1 : Int32) [(.int (own_l8 c0))] (.int (0 : Int32))) ∨ (Fld Z h st "java/lang/String" "coder" "B" (.int 1) ∧ Arv Z h vb kb .byte (2 : Int32) [(.int (own_lo c0)), (.int (own_hi c0))] (.int (0 : Int32))))
def own_QI1 (Z : State) (a1 : Addr) (c0 : Int32) (h0 : Heap) (n0 : Nat) (v : Option Value) (h : Heap) (L : List Loc) : Prop := ∃ (vb : Nat) (kb : ClassId), v = none ∧ Fr n0 L ∧ Keep h0 h [a1] ∧ h0.size ≤ vb ∧ own_Str1 Z h a1 vb kb c0
theorem pd__40_91BI_41B : parseMethodDescriptor "([BI)B" = some ⟨[(.array .byte), .int], some .byte⟩ := by decide +kernel
theorem D3_0 : own_at jdk_42_method_149_code 0 (.aload_n 0) 1 1 := ⟨by decide +kernel, rfl⟩
theorem D3_1 : own_at jdk_42_method_149_code 1 (.invokespecial 1) 3 4 := ⟨by decide +kernel, rfl⟩
theorem D3_4 : own_at jdk_42_method_149_code 4 (.iload_n 3) 1 5 := ⟨by decide +kernel, rfl⟩
theorem D3_5 : own_at jdk_42_method_149_code 5 (.ifCond .ne 22) 3 8 := ⟨by decide +kernel, rfl⟩
theorem D3_27 : own_at jdk_42_method_149_code 27 (.getstatic 38) 3 30 := ⟨by decide +kernel, rfl⟩
theorem D3_30 : own_at jdk_42_method_149_code 30 (.ifCond .eq 28) 3 33 := ⟨by decide +kernel, rfl⟩
theorem D3_33 : own_at jdk_42_method_149_code 33 (.aload_n 1) 1 34 := ⟨by decide +kernel, rfl⟩
theorem D3_34 : own_at jdk_42_method_149_code 34 (.iload_n 2) 1 35 := ⟨by decide +kernel, rfl⟩
theorem D3_35 : own_at jdk_42_method_149_code 35 (.iload_n 3) 1 36 := ⟨by decide +kernel, rfl⟩
theorem D3_36 : own_at jdk_42_method_149_code 36 (.invokestatic 177) 3 39 := ⟨by decide +kernel, rfl⟩
theorem D3_39 : own_at jdk_42_method_149_code 39 (.astore 5) 2 41 := ⟨by decide +kernel, rfl⟩
theorem D3_41 : own_at jdk_42_method_149_code 41 (.aload_n 0) 1 42 := ⟨by decide +kernel, rfl⟩
theorem D3_42 : own_at jdk_42_method_149_code 42 (.aload 5) 2 44 := ⟨by decide +kernel, rfl⟩
theorem D3_44 : own_at jdk_42_method_149_code 44 (.iload_n 3) 1 45 := ⟨by decide +kernel, rfl⟩
theorem D3_45 : own_at jdk_42_method_149_code 45 (.invokestatic 47) 3 48 := ⟨by decide +kernel, rfl⟩
theorem D3_48 : own_at jdk_42_method_149_code 48 (.putfield 15) 3 51 := ⟨by decide +kernel, rfl⟩
theorem D3_51 : own_at jdk_42_method_149_code 51 (.aload_n 0) 1 52 := ⟨by decide +kernel, rfl⟩
theorem D3_52 : own_at jdk_42_method_149_code 52 (.aload 5) 2 54 := ⟨by decide +kernel, rfl⟩
theorem D3_54 : own_at jdk_42_method_149_code 54 (.putfield 9) 3 57 := ⟨by decide +kernel, rfl⟩
theorem D3_57 : own_at jdk_42_method_149_code 57 (.return_) 1 58 := ⟨by decide +kernel, rfl⟩
theorem pn_java_lang_String : plainName "java/lang/String" = true := by first | (simp [plainName, overriddenIn]; done) | decide +kernel
theorem ef_rs_i41 (m : MethodId) (a1 : Addr) (ca : Addr) : entryFrame m #[(.ref a1), (.ref ca), (.int (0 : Int32)), (.int (1 : Int32)), .null] 6 = mkF m 0 #[.val (.ref a1), .val (.ref ca), .val (.int (0 : Int32)), .val (.int (1 : Int32)), .val .null, .unset] [] := by first | (simp [entryFrame, mkF, argsToLocals, Value.category]; done) | rfl
set_option maxRecDepth 65536 in
set_option maxHeartbeats 40000000 in
theorem rs_i41 (l : Launch) (Z : State) (a0 : Array Value) (hw : ∀ d ∈ tables_1, d.before a0 Z = true) (ws : List Jvm.Cond) (a1 : Addr) (ca : Addr) (kc : ClassId) (c0 : Int32) (u0 u1 : Value) (cs : Int32) (vf : Value) (h0 : Heap) (n0 : Nat) (Z0 : n0 ≤ h0.size) (hST : own_ST Z cs vf) (O0 : Old Z n0 h0) (Vc : Arv Z h0 ca kc .char (1 : Int32) [(.int c0)] (.int (0 : Int32))) (hc0 : own_ch16 c0) (gn_a1 : n0 ≤ a1) (E_a1 : Exa Z h0 a1 "java/lang/String") (F_v : Fld Z h0 a1 "java/lang/String" "value" "[B" u0) (F_c : Fld Z h0 a1 "java/lang/String" "coder" "B" u1) :
    MetFree l (⟨"java/lang/String", "<init>", "([CIILjava/lang/Void;)V"⟩ : MethodName) (head1 (Jvm.Cond.code (⟨"java/lang/String", "<init>", "([CIILjava/lang/Void;)V"⟩ : MethodName) jdk_42_method_149_code 6 none :: ws) ({ frames := 4, cells := 2, slots := 3, locals := 57 } : Room)) (fun a U => a = #[(.ref a1), (.ref ca), (.int (0 : Int32)), (.int (1 : Int32)), .null] ∧ Z.Warmed39 U.vm ∧ U.heap = h0) (fun _ _ _ _ _ => True) (fun _ U o U' => ∃ v L, o = .returned v ∧ own_QI1 Z a1 c0 h0 n0 v U'.heap L ∧ FrameEnd U o U' L ({ frames := 4, cells := 2, slots := 3, locals := 57 } : Room).cells ({ frames := 4, cells := 2, slots := 3, locals := 57 } : Room).slots) := by
  refine MetFree.of_bodySF (plainFor_of_name pn_java_lang_String) hisR ?_
  intro p e s m args below meth c s₁ Bd hml0 hP hK
  obtain ⟨rfl, hZ, hh⟩ := hP
  have hx := Bd.exec
  have hby := Bd.bytes
  have hml : c.maxLocals = 6 := hml0
  have hown : s.vm.findClass "java/lang/String" = some m.cls := findClass_of_methodNamed Bd.named
  have hnm := (name_of_methodNamed Bd.named Bd.method).1
  have X0 : Stand p l e ({ frames := 4, cells := 2, slots := 3, locals := 57 } : Room) s m #[(.ref a1), (.ref ca), (.int (0 : Int32)), (.int (1 : Int32)), .null] below meth c s₁ [] 0 0 := Stand.of_body Bd
  have e0 : s₁.heap = h0 := by rw [← hh, Bd.state]; rfl
  have N0 := Fr.nil n0
  refine own_start (ef_rs_i41 m a1 ca) ?_
  have hST0 := hST
  obtain ⟨S_cs, S_ad, S_hb, S_lb, S_sf, hcs, hvf⟩ := hST
  have lt_ca := own_ltN Vc.lt
  have lt_a1 := own_ltN E_a1.lt
  refine o_aloadN X0 hx hby D3_0 rfl rfl ?_
  obtain ⟨T1, X1, e1, st1⟩ := initO X0 hx hZ hown (own_wd hw (i := 15) rfl) (own_wd hw (i := 16) rfl) (own_wd hw (i := 17) rfl) e0 (g := (mkF m 1 #[.val (.ref a1), .val (.ref ca), .val (.int (0 : Int32)), .val (.int (1 : Int32)), .val .null, .unset] [(.ref a1)])) rfl (by rw [hml]; rfl) rfl (hb hby D3_1.1) (by decide) (W := 0) (by show 2 * 0 + _ ≤ _; exact Nat.le_of_eq rfl) (by decide)
  refine own_pre (A' := T1.setTop (mkF m 4 #[.val (.ref a1), .val (.ref ca), .val (.int (0 : Int32)), .val (.int (1 : Int32)), .val .null, .unset] [])) st1 ?_
  refine o_iloadN X1 hx hby D3_4 rfl ?_
  refine o_ifY X1 hx hby D3_5 ((if0 _ _).trans (feq (by decide : ¬ ((1 : Int32) = (0 : Int32)))).2) (q := 27) (by decide) (by decide) ?_
  obtain ⟨T2, X2, e2, st2⟩ := getS2 X1 hx hZ hown (host := "") (Or.inl (own_wd hw (i := 45) rfl)) Via.refl e1 (S_cs.ext O0.2) (g := (mkF m 27 #[.val (.ref a1), .val (.ref ca), .val (.int (0 : Int32)), .val (.int (1 : Int32)), .val .null, .unset] [])) rfl (hb hby D3_27.1)
  refine own_pre (A' := T2.setTop (mkF m 30 #[.val (.ref a1), .val (.ref ca), .val (.int (0 : Int32)), .val (.int (1 : Int32)), .val .null, .unset] [(.int cs)])) st2 ?_
  refine o_ifN X2 hx hby D3_30 ((if0 _ _).trans (feq (hcs : ¬ (cs = (0 : Int32)))).1) ?_
  refine o_aloadN X2 hx hby D3_33 rfl rfl ?_
  refine o_iloadN X2 hx hby D3_34 rfl ?_
  refine o_iloadN X2 hx hby D3_35 rfl ?_
  obtain ⟨_, _, ⟨T3, L3, k3, n3⟩, -, X3, ⟨Lc3, hQ3, l3, y3, z3⟩, st3⟩ := Jvm.LawKit.callS X2 hx (y := (⟨"java/lang/StringUTF16", "compress", "([CII)[B"⟩ : MethodName)) hown (mvT hZ (own_wd hw (i := 70) rfl)) (mvT hZ (own_wd hw (i := 71) rfl)) (mvT hZ (own_wd hw (i := 72) rfl)) (mvT hZ (own_wd hw (i := 73) rfl)) (by decide) (backOf (W := 0) (rs_c31 l Z a0 hw [] ca kc c0 cs vf h0 n0 (own_leN (by omega)) hST0 O0 Vc hc0) hZ (own_wd hw (i := 73) rfl) (own_wd hw (i := 72) rfl) (by decide) (by decide)) (g := (mkF m 36 #[.val (.ref a1), .val (.ref ca), .val (.int (0 : Int32)), .val (.int (1 : Int32)), .val .null, .unset] [(.int (1 : Int32)), (.int (0 : Int32)), (.ref ca)])) rfl (by rw [hml]; rfl) (argsL := [(.ref ca), (.int (0 : Int32)), (.int (1 : Int32))]) (rest := []) (lenOf pd__40_91CII_41_91B rfl) rfl (by show 2 * 0 + _ ≤ _; exact Nat.le_of_eq rfl) (hb hby D3_36.1) (fun _ _ => ⟨rfl, e2, (by decide : 0 + 2 ≤ _), (by decide : 0 + 3 ≤ _)⟩)
  dsimp only [Pt.U, Pt.locs, Pt.cells, Pt.slots] at X3 l3 y3 z3 st3 hQ3
  subst l3 y3 z3
  obtain ⟨r3, kr3, rfl, N3q, K3, ge3, hw3⟩ := hQ3
  have sz3 := own_leN K3.1
  have ge3' := own_leN ge3
  have N3 := Fr.app N0 N3q
  refine own_pre (A' := T3.setTop (mkF m 39 #[.val (.ref a1), .val (.ref ca), .val (.int (0 : Int32)), .val (.int (1 : Int32)), .val .null, .unset] [(.ref r3)])) st3 ?_
  rcases hw3 with ⟨hl0, Vr⟩ | Vr
  · have lt_r3 := own_ltN Vr.lt
    refine o_astore X3 hx hby D3_39 rfl (l' := #[.val (.ref a1), .val (.ref ca), .val (.int (0 : Int32)), .val (.int (1 : Int32)), .val .null, .val (.ref r3)]) rfl ?_
    refine o_aloadN X3 hx hby D3_41 rfl rfl ?_
    refine o_aload X3 hx hby D3_42 rfl rfl ?_
    refine o_iloadN X3 hx hby D3_44 rfl ?_
    obtain ⟨_, _, ⟨T4, L4, k4, n4⟩, -, X4, ⟨Lc4, hQ4, l4, y4, z4⟩, st4⟩ := Jvm.LawKit.callS X3 hx (y := (⟨"java/lang/StringUTF16", "coderFromArrayLen", "([BI)B"⟩ : MethodName)) hown (mvT hZ (own_wd hw (i := 77) rfl)) (mvT hZ (own_wd hw (i := 78) rfl)) (mvT hZ (own_wd hw (i := 72) rfl)) (mvT hZ (own_wd hw (i := 79) rfl)) (by decide) (backOf (W := 1) (rs_cd1_1 l Z a0 hw [] r3 kr3 [(.int (own_l8 c0))] T3.heap n0 (own_leN (by omega)) Vr) hZ (own_wd hw (i := 79) rfl) (own_wd hw (i := 72) rfl) (by decide) (by decide)) (g := (mkF m 45 #[.val (.ref a1), .val (.ref ca), .val (.int (0 : Int32)), .val (.int (1 : Int32)), .val .null, .val (.ref r3)] [(.int (1 : Int32)), (.ref r3), (.ref a1)])) rfl (by rw [hml]; rfl) (argsL := [(.ref r3), (.int (1 : Int32))]) (rest := [(.ref a1)]) (lenOf pd__40_91BI_41B rfl) rfl (by show 2 * 0 + _ ≤ _; exact Nat.le_of_eq rfl) (hb hby D3_45.1) (fun _ _ => ⟨rfl, rfl, (by decide : 2 + 0 ≤ _), (by decide : 3 + 0 ≤ _)⟩)
    dsimp only [Pt.U, Pt.locs, Pt.cells, Pt.slots] at X4 l4 y4 z4 st4 hQ4
    subst l4 y4 z4
    obtain ⟨rfl, N4q, e4⟩ := hQ4
    have N4 := Fr.app N3 N4q
    refine own_pre (A' := T4.setTop (mkF m 48 #[.val (.ref a1), .val (.ref ca), .val (.int (0 : Int32)), .val (.int (1 : Int32)), .val .null, .val (.ref r3)] [(.int (0 : Int32)), (.ref a1)])) st4 ?_
    have c6_F_a1_coder := (F_c.keep K3 nin0)
    have c7_E_a1 := (E_a1.keep K3)
    obtain ⟨T5, h5, X5, e5, W5, st5⟩ := putFN X4 hx hZ hown (own_wd hw (i := 25) rfl) Via.refl e4 c6_F_a1_coder c7_E_a1 (Or.inr ⟨(own_wd hw (i := 21) rfl), rfl, hnm⟩) (own_wd hw (i := 6) rfl) (ty := .byte) (v' := (.int (0 : Int32))) (by decide) rfl rfl (g := (mkF m 48 #[.val (.ref a1), .val (.ref ca), .val (.int (0 : Int32)), .val (.int (1 : Int32)), .val .null, .val (.ref r3)] [(.int (0 : Int32)), (.ref a1)])) rfl rfl (hb hby D3_48.1)
    have Fw5 := c6_F_a1_coder.same W5
    have sz5 := own_leN (Keep.of_wr W5).1
    have N5 := Fr.snoc X5 N4 gn_a1
    refine own_pre (A' := T5.setTop (mkF m 51 #[.val (.ref a1), .val (.ref ca), .val (.int (0 : Int32)), .val (.int (1 : Int32)), .val .null, .val (.ref r3)] [])) st5 ?_
    refine o_aloadN X5 hx hby D3_51 rfl rfl ?_
    refine o_aload X5 hx hby D3_52 rfl rfl ?_
    have c9_F_a1_value := ((F_v.keep K3 nin0).other W5 (Or.inr (Jvm.RoadKit.slot_ne (Or.inr (own_wd hw (i := 20) rfl)) (Or.inr (own_wd hw (i := 21) rfl)) (by decide) (t := (.array .byte)) (t' := .byte) (by decide) (by decide))))
    have c10_E_a1 := (c7_E_a1.wr W5)
    obtain ⟨T8, h8, X8, e8, W8, st8⟩ := putF X5 hx hZ hown (host := "") (Or.inl (own_wd hw (i := 24) rfl)) Via.refl e5 c9_F_a1_value c10_E_a1 (Or.inr ⟨(own_wd hw (i := 20) rfl), rfl, hnm⟩) (own_wd hw (i := 6) rfl) (ty := (.array .byte)) (by decide) rfl rfl (g := (mkF m 54 #[.val (.ref a1), .val (.ref ca), .val (.int (0 : Int32)), .val (.int (1 : Int32)), .val .null, .val (.ref r3)] [(.ref r3), (.ref a1)])) rfl rfl (hb hby D3_54.1)
    have Fw8 := c9_F_a1_value.same W8
    have sz8 := own_leN (Keep.of_wr W8).1
    have N8 := Fr.snoc X8 N5 gn_a1
    refine own_pre (A' := T8.setTop (mkF m 57 #[.val (.ref a1), .val (.ref ca), .val (.int (0 : Int32)), .val (.int (1 : Int32)), .val .null, .val (.ref r3)] [])) st8 ?_
    have c11_E_a1 := (c10_E_a1.wr W8)
    have c12_F_a1_coder := (Fw5.other W8 (Or.inr (Jvm.RoadKit.slot_ne (Or.inr (own_wd hw (i := 21) rfl)) (Or.inr (own_wd hw (i := 20) rfl)) (by decide) (t := .byte) (t' := (.array .byte)) (by decide) (by decide))))
    have c13_V_r3 := ((Vr.other W5 (by first | exact own_neN (by omega) | exact own_neN' (by omega) | assumption)).other W8 (by first | exact own_neN (by omega) | exact own_neN' (by omega) | assumption))
    have KK : Keep h0 h8 [a1] := ((((Keep.refl h0 [a1]).trans K3 all0).wr W5 (Or.inl (by simp))).wr W8 (Or.inl (by simp)))
    exact own_ret (v := none) X8 (fun h => by first | rfl | (rw [Bd.returns] at h; cases h)) (BodyLoose.notSynchronized Bd) (by decide) (by decide) (by rw [e8]; exact ⟨r3, kr3, rfl, N8, KK, own_leN (by omega), c11_E_a1, Fw8, Or.inl ⟨c12_F_a1_coder, hl0, c13_V_r3⟩⟩) (fun fs hr => X8.returnOut hx Bd.returns (hb hby D3_57.1) hr)
  · have lt_r3 := own_ltN Vr.lt
    refine o_astore X3 hx hby D3_39 rfl (l' := #[.val (.ref a1), .val (.ref ca), .val (.int (0 : Int32)), .val (.int (1 : Int32)), .val .null, .val (.ref r3)]) rfl ?_
    refine o_aloadN X3 hx hby D3_41 rfl rfl ?_
    refine o_aload X3 hx hby D3_42 rfl rfl ?_
    refine o_iloadN X3 hx hby D3_44 rfl ?_
    obtain ⟨_, _, ⟨T14, L14, k14, n14⟩, -, X14, ⟨Lc14, hQ14, l14, y14, z14⟩, st14⟩ := Jvm.LawKit.callS X3 hx (y := (⟨"java/lang/StringUTF16", "coderFromArrayLen", "([BI)B"⟩ : MethodName)) hown (mvT hZ (own_wd hw (i := 77) rfl)) (mvT hZ (own_wd hw (i := 78) rfl)) (mvT hZ (own_wd hw (i := 72) rfl)) (mvT hZ (own_wd hw (i := 79) rfl)) (by decide) (backOf (W := 1) (rs_cd1_2 l Z a0 hw [] r3 kr3 [(.int (own_lo c0)), (.int (own_hi c0))] T3.heap n0 (own_leN (by omega)) Vr) hZ (own_wd hw (i := 79) rfl) (own_wd hw (i := 72) rfl) (by decide) (by decide)) (g := (mkF m 45 #[.val (.ref a1), .val (.ref ca), .val (.int (0 : Int32)), .val (.int (1 : Int32)), .val .null, .val (.ref r3)] [(.int (1 : Int32)), (.ref r3), (.ref a1)])) rfl (by rw [hml]; rfl) (argsL := [(.ref r3), (.int (1 : Int32))]) (rest := [(.ref a1)]) (lenOf pd__40_91BI_41B rfl) rfl (by show 2 * 0 + _ ≤ _; exact Nat.le_of_eq rfl) (hb hby D3_45.1) (fun _ _ => ⟨rfl, rfl, (by decide : 2 + 0 ≤ _), (by decide : 3 + 0 ≤ _)⟩)
    dsimp only [Pt.U, Pt.locs, Pt.cells, Pt.slots] at X14 l14 y14 z14 st14 hQ14
    subst l14 y14 z14
    obtain ⟨rfl, N14q, e14⟩ := hQ14
    have N14 := Fr.app N3 N14q
    refine own_pre (A' := T14.setTop (mkF m 48 #[.val (.ref a1), .val (.ref ca), .val (.int (0 : Int32)), .val (.int (1 : Int32)), .val .null, .val (.ref r3)] [(.int (1 : Int32)), (.ref a1)])) st14 ?_
    have c16_F_a1_coder := (F_c.keep K3 nin0)
    have c17_E_a1 := (E_a1.keep K3)
    obtain ⟨T15, h15, X15, e15, W15, st15⟩ := putFN X14 hx hZ hown (own_wd hw (i := 25) rfl) Via.refl e14 c16_F_a1_coder c17_E_a1 (Or.inr ⟨(own_wd hw (i := 21) rfl), rfl, hnm⟩) (own_wd hw (i := 6) rfl) (ty := .byte) (v' := (.int (1 : Int32))) (by decide) rfl rfl (g := (mkF m 48 #[.val (.ref a1), .val (.ref ca), .val (.int (0 : Int32)), .val (.int (1 : Int32)), .val .null, .val (.ref r3)] [(.int (1 : Int32)), (.ref a1)])) rfl rfl (hb hby D3_48.1)
    have Fw15 := c16_F_a1_coder.same W15
    have sz15 := own_leN (Keep.of_wr W15).1
    have N15 := Fr.snoc X15 N14 gn_a1
    refine own_pre (A' := T15.setTop (mkF m 51 #[.val (.ref a1), .val (.ref ca), .val (.int (0 : Int32)), .val (.int (1 : Int32)), .val .null, .val (.ref r3)] [])) st15 ?_
    refine o_aloadN X15 hx hby D3_51 rfl rfl ?_
    refine o_aload X15 hx hby D3_52 rfl rfl ?_
    have c19_F_a1_value := ((F_v.keep K3 nin0).other W15 (Or.inr (Jvm.RoadKit.slot_ne (Or.inr (own_wd hw (i := 20) rfl)) (Or.inr (own_wd hw (i := 21) rfl)) (by decide) (t := (.array .byte)) (t' := .byte) (by decide) (by decide))))
    have c20_E_a1 := (c17_E_a1.wr W15)
    obtain ⟨T18, h18, X18, e18, W18, st18⟩ := putF X15 hx hZ hown (host := "") (Or.inl (own_wd hw (i := 24) rfl)) Via.refl e15 c19_F_a1_value c20_E_a1 (Or.inr ⟨(own_wd hw (i := 20) rfl), rfl, hnm⟩) (own_wd hw (i := 6) rfl) (ty := (.array .byte)) (by decide) rfl rfl (g := (mkF m 54 #[.val (.ref a1), .val (.ref ca), .val (.int (0 : Int32)), .val (.int (1 : Int32)), .val .null, .val (.ref r3)] [(.ref r3), (.ref a1)])) rfl rfl (hb hby D3_54.1)
    have Fw18 := c19_F_a1_value.same W18
    have sz18 := own_leN (Keep.of_wr W18).1
    have N18 := Fr.snoc X18 N15 gn_a1
    refine own_pre (A' := T18.setTop (mkF m 57 #[.val (.ref a1), .val (.ref ca), .val (.int (0 : Int32)), .val (.int (1 : Int32)), .val .null, .val (.ref r3)] [])) st18 ?_
    have c21_E_a1 := (c20_E_a1.wr W18)
    have c22_F_a1_coder := (Fw15.other W18 (Or.inr (Jvm.RoadKit.slot_ne (Or.inr (own_wd hw (i := 21) rfl)) (Or.inr (own_wd hw (i := 20) rfl)) (by decide) (t := .byte) (t' := (.array .byte)) (by decide) (by decide))))
    have c23_V_r3 := ((Vr.other W15 (by first | exact own_neN (by omega) | exact own_neN' (by omega) | assumption)).other W18 (by first | exact own_neN (by omega) | exact own_neN' (by omega) | assumption))
    have KK : Keep h0 h18 [a1] := ((((Keep.refl h0 [a1]).trans K3 all0).wr W15 (Or.inl (by simp))).wr W18 (Or.inl (by simp)))
    exact own_ret (v := none) X18 (fun h => by first | rfl | (rw [Bd.returns] at h; cases h)) (BodyLoose.notSynchronized Bd) (by decide) (by decide) (by rw [e18]; exact ⟨r3, kr3, rfl, N18, KK, own_leN (by omega), c21_E_a1, Fw18, Or.inr ⟨c22_F_a1_coder, c23_V_r3⟩⟩) (fun fs hr => X18.returnOut hx Bd.returns (hb hby D3_57.1) hr)
theorem pd__40_91CIILjava_47lang_47Void_59_41V : parseMethodDescriptor "([CIILjava/lang/Void;)V" = some ⟨[(.array .char), .int, .int, (.object "java/lang/Void")], none⟩ := by decide +kernel
theorem D2_0 : own_at jdk_42_method_3_code 0 (.aload_n 0) 1 1 := ⟨by decide +kernel, rfl⟩
theorem D2_1 : own_at jdk_42_method_3_code 1 (.aload_n 1) 1 2 := ⟨by decide +kernel, rfl⟩
theorem D2_2 : own_at jdk_42_method_3_code 2 (.iconst 0) 1 3 := ⟨by decide +kernel, rfl⟩
theorem D2_3 : own_at jdk_42_method_3_code 3 (.aload_n 1) 1 4 := ⟨by decide +kernel, rfl⟩
theorem D2_4 : own_at jdk_42_method_3_code 4 (.arraylength) 1 5 := ⟨by decide +kernel, rfl⟩
theorem D2_5 : own_at jdk_42_method_3_code 5 (.aconst_null) 1 6 := ⟨by decide +kernel, rfl⟩
theorem D2_6 : own_at jdk_42_method_3_code 6 (.invokespecial 27) 3 9 := ⟨by decide +kernel, rfl⟩
theorem D2_9 : own_at jdk_42_method_3_code 9 (.return_) 1 10 := ⟨by decide +kernel, rfl⟩
theorem ef_rs_i11 (m : MethodId) (a1 : Addr) (ca : Addr) : entryFrame m #[(.ref a1), (.ref ca)] 2 = mkF m 0 #[.val (.ref a1), .val (.ref ca)] [] := by first | (simp [entryFrame, mkF, argsToLocals, Value.category]; done) | rfl
set_option maxRecDepth 65536 in
set_option maxHeartbeats 40000000 in
theorem rs_i11 (l : Launch) (Z : State) (a0 : Array Value) (hw : ∀ d ∈ tables_1, d.before a0 Z = true) (ws : List Jvm.Cond) (a1 : Addr) (ca : Addr) (kc : ClassId) (c0 : Int32) (u0 u1 : Value) (cs : Int32) (vf : Value) (h0 : Heap) (n0 : Nat) (Z0 : n0 ≤ h0.size) (hST : own_ST Z cs vf) (O0 : Old Z n0 h0) (Vc : Arv Z h0 ca kc .char (1 : Int32) [(.int c0)] (.int (0 : Int32))) (hc0 : own_ch16 c0) (gn_a1 : n0 ≤ a1) (E_a1 : Exa Z h0 a1 "java/lang/String") (F_v : Fld Z h0 a1 "java/lang/String" "value" "[B" u0) (F_c : Fld Z h0 a1 "java/lang/String" "coder" "B" u1) :
    MetFree l (⟨"java/lang/String", "<init>", "([C)V"⟩ : MethodName) (head1 (Jvm.Cond.code (⟨"java/lang/String", "<init>", "([C)V"⟩ : MethodName) jdk_42_method_3_code 2 none :: ws) ({ frames := 5, cells := 2, slots := 3, locals := 74 } : Room)) (fun a U => a = #[(.ref a1), (.ref ca)] ∧ Z.Warmed39 U.vm ∧ U.heap = h0) (fun _ _ _ _ _ => True) (fun _ U o U' => ∃ v L, o = .returned v ∧ own_QI1 Z a1 c0 h0 n0 v U'.heap L ∧ FrameEnd U o U' L ({ frames := 5, cells := 2, slots := 3, locals := 74 } : Room).cells ({ frames := 5, cells := 2, slots := 3, locals := 74 } : Room).slots) := by
  refine MetFree.of_bodySF (plainFor_of_name pn_java_lang_String) hisR ?_
  intro p e s m args below meth c s₁ Bd hml0 hP hK
  obtain ⟨rfl, hZ, hh⟩ := hP
  have hx := Bd.exec
  have hby := Bd.bytes
  have hml : c.maxLocals = 2 := hml0
  have hown : s.vm.findClass "java/lang/String" = some m.cls := findClass_of_methodNamed Bd.named
  have hnm := (name_of_methodNamed Bd.named Bd.method).1
  have X0 : Stand p l e ({ frames := 5, cells := 2, slots := 3, locals := 74 } : Room) s m #[(.ref a1), (.ref ca)] below meth c s₁ [] 0 0 := Stand.of_body Bd
  have e0 : s₁.heap = h0 := by rw [← hh, Bd.state]; rfl
  have N0 := Fr.nil n0
  refine own_start (ef_rs_i11 m a1 ca) ?_
  have hST0 := hST
  refine o_aloadN X0 hx hby D2_0 rfl rfl ?_
  refine o_aloadN X0 hx hby D2_1 rfl rfl ?_
  refine o_iconst X0 hx hby D2_2 (v := 0) rfl ?_
  refine o_aloadN X0 hx hby D2_3 rfl rfl ?_
  obtain ⟨cl_ca_1, Ar_ca_1, q_ca_1, S_ca_1, N_ca_1, H_ca_1, G_ca_1⟩ := id Vc
  refine own_pre (A' := s₁.setTop (mkF m 5 #[.val (.ref a1), .val (.ref ca)] [(.int (1 : Int32)), (.int (0 : Int32)), (.ref ca), (.ref a1)])) (fun t k => X0.arraylength hx (by rw [e0]; exact Ar_ca_1.1) (State.isArrayOf_alike hZ.alike Ar_ca_1.2.1) (g := (mkF m 4 #[.val (.ref a1), .val (.ref ca)] [(.ref ca), (.int (0 : Int32)), (.ref ca), (.ref a1)])) rfl rfl (hb hby D2_4.1) _ (by rw [len_of S_ca_1 N_ca_1]; exact k)) ?_
  refine o_anull X0 hx hby D2_5 ?_
  obtain ⟨_, _, ⟨T2, L2, k2, n2⟩, -, X2, ⟨Lc2, hQ2, l2, y2, z2⟩, st2⟩ := X0.specialBack hx (y := (⟨"java/lang/String", "<init>", "([CIILjava/lang/Void;)V"⟩ : MethodName)) rfl hown (mvT hZ (own_wd hw (i := 11) rfl)) (mvT hZ (own_wd hw (i := 12) rfl)) (mvT hZ (own_wd hw (i := 14) rfl)) (by decide) (backOf (W := 0) (rs_i41 l Z a0 hw [] a1 ca kc c0 u0 u1 cs vf h0 n0 Z0 hST0 O0 Vc hc0 gn_a1 E_a1 F_v F_c) hZ (own_wd hw (i := 14) rfl) (own_wd hw (i := 7) rfl) (by decide) (by decide)) (g := (mkF m 6 #[.val (.ref a1), .val (.ref ca)] [.null, (.int (1 : Int32)), (.int (0 : Int32)), (.ref ca), (.ref a1)])) rfl (by rw [hml]; rfl) (Steps.refl _) (a := a1) (argsL := [(.ref ca), (.int (0 : Int32)), (.int (1 : Int32)), .null]) (rest := []) (lenOf pd__40_91CIILjava_47lang_47Void_59_41V rfl) rfl (by show 2 * 0 + _ ≤ _; exact Nat.le_of_eq rfl) (hb hby D2_6.1) (fun _ _ => ⟨rfl, e0, (by decide : 0 + 2 ≤ _), (by decide : 0 + 3 ≤ _)⟩)
  dsimp only [Pt.U, Pt.locs, Pt.cells, Pt.slots] at X2 l2 y2 z2 st2 hQ2
  subst l2 y2 z2
  obtain ⟨vb, kb, rfl, N2q, K2, ge2, Str2⟩ := hQ2
  have N2 := Fr.app N0 N2q
  refine own_pre (A' := T2.setTop (mkF m 9 #[.val (.ref a1), .val (.ref ca)] [])) (fun t k => st2.trans k) ?_
  exact own_ret (v := none) X2 (fun h => by first | rfl | (rw [Bd.returns] at h; cases h)) (BodyLoose.notSynchronized Bd) (by decide) (by decide) (⟨vb, kb, rfl, N2, K2, ge2, Str2⟩) (fun fs hr => X2.returnOut hx Bd.returns (hb hby D2_9.1) hr)
def own_QTb2 (Z : State) (c0 c1 : Int32) (h0 : Heap) (n0 : Nat) (v : Option Value) (h : Heap) (L : List Loc) : Prop := ∃ (r : Nat) (kr : ClassId), v = some (.ref r) ∧ Fr n0 L ∧ Keep h0 h [] ∧ h0.size ≤ r ∧ Arv Z h r kr .byte (4 : Int32) [(.int (own_lo c0)), (.int (own_hi c0)), (.int (own_lo c1)), (.int (own_hi c1))] (.int (0 : Int32))
theorem ef_rs_tb2 (m : MethodId) (ca : Addr) : entryFrame m #[(.ref ca), (.int (0 : Int32)), (.int (2 : Int32))] 5 = mkF m 0 #[.val (.ref ca), .val (.int (0 : Int32)), .val (.int (2 : Int32)), .unset, .unset] [] := by first | (simp [entryFrame, mkF, argsToLocals, Value.category]; done) | rfl
set_option maxRecDepth 65536 in
set_option maxHeartbeats 40000000 in
theorem rs_tb2 (l : Launch) (Z : State) (a0 : Array Value) (hw : ∀ d ∈ tables_1, d.before a0 Z = true) (ws : List Jvm.Cond) (ca : Addr) (kc : ClassId) (c0 c1 : Int32) (cs : Int32) (vf : Value) (h0 : Heap) (n0 : Nat) (Z0 : n0 ≤ h0.size) (hST : own_ST Z cs vf) (O0 : Old Z n0 h0) (Vc : Arv Z h0 ca kc .char (2 : Int32) [(.int c0), (.int c1)] (.int (0 : Int32))) :
    MetFree l (⟨"java/lang/StringUTF16", "toBytes", "([CII)[B"⟩ : MethodName) (head1 (Jvm.Cond.code (⟨"java/lang/StringUTF16", "toBytes", "([CII)[B"⟩ : MethodName) jdk_52_method_14_code 5 (some (.array .byte)) :: ws) ({ frames := 2, cells := 1, slots := 4, locals := 24 } : Room)) (fun a U => a = #[(.ref ca), (.int (0 : Int32)), (.int (2 : Int32))] ∧ Z.Warmed39 U.vm ∧ U.heap = h0) (fun _ _ _ _ _ => True) (fun _ U o U' => ∃ v L, o = .returned v ∧ own_QTb2 Z c0 c1 h0 n0 v U'.heap L ∧ FrameEnd U o U' L ({ frames := 2, cells := 1, slots := 4, locals := 24 } : Room).cells ({ frames := 2, cells := 1, slots := 4, locals := 24 } : Room).slots) := by
  refine MetFree.of_bodySF (plainFor_of_name pn_java_lang_StringUTF16) hisR ?_
  intro p e s m args below meth c s₁ Bd hml0 hP hK
  obtain ⟨rfl, hZ, hh⟩ := hP
  have hx := Bd.exec
  have hby := Bd.bytes
  have hml : c.maxLocals = 5 := hml0
  have hown : s.vm.findClass "java/lang/StringUTF16" = some m.cls := findClass_of_methodNamed Bd.named
  have hnm := (name_of_methodNamed Bd.named Bd.method).1
  have X0 : Stand p l e ({ frames := 2, cells := 1, slots := 4, locals := 24 } : Room) s m #[(.ref ca), (.int (0 : Int32)), (.int (2 : Int32))] below meth c s₁ [] 0 0 := Stand.of_body Bd
  have e0 : s₁.heap = h0 := by rw [← hh, Bd.state]; rfl
  have N0 := Fr.nil n0
  refine own_start (ef_rs_tb2 m ca) ?_
  have hST0 := hST
  obtain ⟨S_cs, S_ad, S_hb, S_lb, S_sf, hcs, hvf⟩ := hST
  have lt_ca := own_ltN Vc.lt
  refine o_iloadN X0 hx hby D20_0 rfl ?_
  obtain ⟨_, _, ⟨T1, L1, k1, n1⟩, -, X1, ⟨Lc1, hQ1, l1, y1, z1⟩, st1⟩ := Jvm.LawKit.callS X0 hx (y := (⟨"java/lang/StringUTF16", "newBytesFor", "(I)[B"⟩ : MethodName)) hown (mvT hZ (own_wd hw (i := 90) rfl)) (mvT hZ (own_wd hw (i := 91) rfl)) (mvT hZ (own_wd hw (i := 72) rfl)) (mvT hZ (own_wd hw (i := 92) rfl)) (by decide) (backOf (W := 0) (rs_nbf2 l Z a0 hw []  h0 n0 Z0 ) hZ (own_wd hw (i := 92) rfl) (own_wd hw (i := 72) rfl) (by decide) (by decide)) (g := (mkF m 1 #[.val (.ref ca), .val (.int (0 : Int32)), .val (.int (2 : Int32)), .unset, .unset] [(.int (2 : Int32))])) rfl (by rw [hml]; rfl) (argsL := [(.int (2 : Int32))]) (rest := []) (lenOf pd__40I_41_91B rfl) rfl (by show 2 * 0 + _ ≤ _; exact Nat.le_of_eq rfl) (hb hby D20_1.1) (fun _ _ => ⟨rfl, e0, (by decide : 0 + 1 ≤ _), (by decide : 0 + 4 ≤ _)⟩)
  dsimp only [Pt.U, Pt.locs, Pt.cells, Pt.slots] at X1 l1 y1 z1 st1 hQ1
  subst l1 y1 z1
  obtain ⟨r1, kr1, rfl, N1q, K1, ge1, Vr1⟩ := hQ1
  have sz1 := own_leN K1.1
  have ge1' := own_leN ge1
  have lt_r1 := own_ltN Vr1.lt
  have gn_r1 : n0 ≤ r1 := own_leN (by omega)
  have N1 := Fr.app N0 N1q
  refine own_pre (A' := T1.setTop (mkF m 4 #[.val (.ref ca), .val (.int (0 : Int32)), .val (.int (2 : Int32)), .unset, .unset] [(.ref r1)])) st1 ?_
  refine o_astoreN X1 hx hby D20_4 rfl (l' := #[.val (.ref ca), .val (.int (0 : Int32)), .val (.int (2 : Int32)), .val (.ref r1), .unset]) rfl ?_
  refine o_iconst X1 hx hby D20_5 (v := 0) rfl ?_
  refine o_istore X1 hx hby D20_6 (l' := #[.val (.ref ca), .val (.int (0 : Int32)), .val (.int (2 : Int32)), .val (.ref r1), .val (.int (0 : Int32))]) rfl ?_
  refine o_iload X1 hx hby D20_8 rfl ?_
  refine o_iloadN X1 hx hby D20_10 rfl ?_
  refine o_icmpN X1 hx hby D20_11 (tlt (by decide : (0 : Int32) < (2 : Int32))).2.1 ?_
  refine o_aloadN X1 hx hby D20_14 rfl rfl ?_
  refine o_iload X1 hx hby D20_15 rfl ?_
  refine o_aloadN X1 hx hby D20_17 rfl rfl ?_
  refine o_iloadN X1 hx hby D20_18 rfl ?_
  have c3_V_ca := (Vc.keep K1 nin0)
  obtain ⟨cl_ca_2, Ar_ca_2, q_ca_2, S_ca_2, N_ca_2, H_ca_2, G_ca_2⟩ := id c3_V_ca
  have hin_ca_2 : ¬ ((0 : Int32) < 0 ∨ cl_ca_2.slots.size ≤ ((0 : Int32)).toNatClampNeg) := inb_of S_ca_2 ⟨by decide, by decide⟩
  have hat_ca_2 : cl_ca_2.slots[((0 : Int32)).toNatClampNeg]? = some (.int c0) := H_ca_2.at hin_ca_2 (rfl)
  refine own_pre (A' := T1.setTop (mkF m 20 #[.val (.ref ca), .val (.int (0 : Int32)), .val (.int (2 : Int32)), .val (.ref r1), .val (.int (0 : Int32))] [(.int c0), (.int (0 : Int32)), (.ref r1)])) (fun t k => X1.caload hx (j := (0 : Int32)) (v := (.int c0)) Ar_ca_2.1 (State.isArrayOf_alike hZ.alike Ar_ca_2.2.1) Ar_ca_2.2.2 hin_ca_2 hat_ca_2 (g := (mkF m 19 #[.val (.ref ca), .val (.int (0 : Int32)), .val (.int (2 : Int32)), .val (.ref r1), .val (.int (0 : Int32))] [(.int (0 : Int32)), (.ref ca), (.int (0 : Int32)), (.ref r1)])) rfl rfl (hb hby D20_19.1) _ k) ?_
  have c5_O := (O0.keep K1 all0)
  obtain ⟨_, _, ⟨T4, L4, k4, n4⟩, -, X4, ⟨Lc4, hQ4, l4, y4, z4⟩, st4⟩ := Jvm.LawKit.callS X1 hx (y := (⟨"java/lang/StringUTF16", "putChar", "([BII)V"⟩ : MethodName)) hown (mvT hZ (own_wd hw (i := 97) rfl)) (mvT hZ (own_wd hw (i := 98) rfl)) (mvT hZ (own_wd hw (i := 72) rfl)) (mvT hZ (own_wd hw (i := 99) rfl)) (by decide) (backOf (W := 0) (rs_pc20 l Z a0 hw [] r1 c0 kr1 (.int (0 : Int32)) (.int (0 : Int32)) (.int (0 : Int32)) (.int (0 : Int32)) cs vf T1.heap n0 (own_leN (by omega)) hST0 c5_O gn_r1 Vr1) hZ (own_wd hw (i := 99) rfl) (own_wd hw (i := 72) rfl) (by decide) (by decide)) (g := (mkF m 20 #[.val (.ref ca), .val (.int (0 : Int32)), .val (.int (2 : Int32)), .val (.ref r1), .val (.int (0 : Int32))] [(.int c0), (.int (0 : Int32)), (.ref r1)])) rfl (by rw [hml]; rfl) (argsL := [(.ref r1), (.int (0 : Int32)), (.int c0)]) (rest := []) (lenOf pd__40_91BII_41V rfl) rfl (by show 2 * 0 + _ ≤ _; exact Nat.le_of_eq rfl) (hb hby D20_20.1) (fun _ _ => ⟨rfl, rfl, (by decide : 1 + 0 ≤ _), (by decide : 4 + 0 ≤ _)⟩)
  dsimp only [Pt.U, Pt.locs, Pt.cells, Pt.slots] at X4 l4 y4 z4 st4 hQ4
  subst l4 y4 z4
  obtain ⟨rfl, N4q, K4, Vp4⟩ := hQ4
  have sz4 := own_leN K4.1
  have N4 := Fr.app N1 N4q
  refine own_pre (A' := T4.setTop (mkF m 23 #[.val (.ref ca), .val (.int (0 : Int32)), .val (.int (2 : Int32)), .val (.ref r1), .val (.int (0 : Int32))] [])) st4 ?_
  refine o_iinc X4 hx hby D20_23 rfl (l' := #[.val (.ref ca), .val (.int ((0 : Int32) + (1 : Int32))), .val (.int (2 : Int32)), .val (.ref r1), .val (.int (0 : Int32))]) rfl ?_
  rw [(by decide : ((0 : Int32) + (1 : Int32)) = (1 : Int32))]
  refine o_iinc X4 hx hby D20_26 rfl (l' := #[.val (.ref ca), .val (.int (1 : Int32)), .val (.int (2 : Int32)), .val (.ref r1), .val (.int ((0 : Int32) + (1 : Int32)))]) rfl ?_
  rw [(by decide : ((0 : Int32) + (1 : Int32)) = (1 : Int32))]
  refine o_goto X4 hx hby D20_29 (q := 8) (by decide) (by decide) ?_
  refine o_iload X4 hx hby D20_8 rfl ?_
  refine o_iloadN X4 hx hby D20_10 rfl ?_
  refine o_icmpN X4 hx hby D20_11 (tlt (by decide : (1 : Int32) < (2 : Int32))).2.1 ?_
  refine o_aloadN X4 hx hby D20_14 rfl rfl ?_
  refine o_iload X4 hx hby D20_15 rfl ?_
  refine o_aloadN X4 hx hby D20_17 rfl rfl ?_
  refine o_iloadN X4 hx hby D20_18 rfl ?_
  have c7_V_ca := (c3_V_ca.keep K4 (ninS (by first | exact own_neN (by omega) | exact own_neN' (by omega) | assumption) nin0))
  obtain ⟨cl_ca_6, Ar_ca_6, q_ca_6, S_ca_6, N_ca_6, H_ca_6, G_ca_6⟩ := id c7_V_ca
  have hin_ca_6 : ¬ ((1 : Int32) < 0 ∨ cl_ca_6.slots.size ≤ ((1 : Int32)).toNatClampNeg) := inb_of S_ca_6 ⟨by decide, by decide⟩
  have hat_ca_6 : cl_ca_6.slots[((1 : Int32)).toNatClampNeg]? = some (.int c1) := H_ca_6.at hin_ca_6 (rfl)
  refine own_pre (A' := T4.setTop (mkF m 20 #[.val (.ref ca), .val (.int (1 : Int32)), .val (.int (2 : Int32)), .val (.ref r1), .val (.int (1 : Int32))] [(.int c1), (.int (1 : Int32)), (.ref r1)])) (fun t k => X4.caload hx (j := (1 : Int32)) (v := (.int c1)) Ar_ca_6.1 (State.isArrayOf_alike hZ.alike Ar_ca_6.2.1) Ar_ca_6.2.2 hin_ca_6 hat_ca_6 (g := (mkF m 19 #[.val (.ref ca), .val (.int (1 : Int32)), .val (.int (2 : Int32)), .val (.ref r1), .val (.int (1 : Int32))] [(.int (1 : Int32)), (.ref ca), (.int (1 : Int32)), (.ref r1)])) rfl rfl (hb hby D20_19.1) _ k) ?_
  have c9_O := (c5_O.keep K4 (allS gn_r1 all0))
  obtain ⟨_, _, ⟨T8, L8, k8, n8⟩, -, X8, ⟨Lc8, hQ8, l8, y8, z8⟩, st8⟩ := Jvm.LawKit.callS X4 hx (y := (⟨"java/lang/StringUTF16", "putChar", "([BII)V"⟩ : MethodName)) hown (mvT hZ (own_wd hw (i := 97) rfl)) (mvT hZ (own_wd hw (i := 98) rfl)) (mvT hZ (own_wd hw (i := 72) rfl)) (mvT hZ (own_wd hw (i := 99) rfl)) (by decide) (backOf (W := 0) (rs_pc21 l Z a0 hw [] r1 c1 kr1 (.int (own_lo c0)) (.int (own_hi c0)) (.int (0 : Int32)) (.int (0 : Int32)) cs vf T4.heap n0 (own_leN (by omega)) hST0 c9_O gn_r1 Vp4) hZ (own_wd hw (i := 99) rfl) (own_wd hw (i := 72) rfl) (by decide) (by decide)) (g := (mkF m 20 #[.val (.ref ca), .val (.int (1 : Int32)), .val (.int (2 : Int32)), .val (.ref r1), .val (.int (1 : Int32))] [(.int c1), (.int (1 : Int32)), (.ref r1)])) rfl (by rw [hml]; rfl) (argsL := [(.ref r1), (.int (1 : Int32)), (.int c1)]) (rest := []) (lenOf pd__40_91BII_41V rfl) rfl (by show 2 * 0 + _ ≤ _; exact Nat.le_of_eq rfl) (hb hby D20_20.1) (fun _ _ => ⟨rfl, rfl, (by decide : 1 + 0 ≤ _), (by decide : 4 + 0 ≤ _)⟩)
  dsimp only [Pt.U, Pt.locs, Pt.cells, Pt.slots] at X8 l8 y8 z8 st8 hQ8
  subst l8 y8 z8
  obtain ⟨rfl, N8q, K8, Vp8⟩ := hQ8
  have sz8 := own_leN K8.1
  have N8 := Fr.app N4 N8q
  refine own_pre (A' := T8.setTop (mkF m 23 #[.val (.ref ca), .val (.int (1 : Int32)), .val (.int (2 : Int32)), .val (.ref r1), .val (.int (1 : Int32))] [])) st8 ?_
  refine o_iinc X8 hx hby D20_23 rfl (l' := #[.val (.ref ca), .val (.int ((1 : Int32) + (1 : Int32))), .val (.int (2 : Int32)), .val (.ref r1), .val (.int (1 : Int32))]) rfl ?_
  rw [(by decide : ((1 : Int32) + (1 : Int32)) = (2 : Int32))]
  refine o_iinc X8 hx hby D20_26 rfl (l' := #[.val (.ref ca), .val (.int (2 : Int32)), .val (.int (2 : Int32)), .val (.ref r1), .val (.int ((1 : Int32) + (1 : Int32)))]) rfl ?_
  rw [(by decide : ((1 : Int32) + (1 : Int32)) = (2 : Int32))]
  refine o_goto X8 hx hby D20_29 (q := 8) (by decide) (by decide) ?_
  refine o_iload X8 hx hby D20_8 rfl ?_
  refine o_iloadN X8 hx hby D20_10 rfl ?_
  refine o_icmpY X8 hx hby D20_11 (flt (by decide : ¬ ((2 : Int32) < (2 : Int32)))).2.1 (q := 32) (by decide) (by decide) ?_
  refine o_aloadN X8 hx hby D20_32 rfl rfl ?_
  have KK : Keep h0 T8.heap [] := ((((Keep.refl h0 []).trans K1 all0).trans K4 (allS (Or.inr (own_leN (by omega))) all0)).trans K8 (allS (Or.inr (own_leN (by omega))) all0))
  exact own_ret (v := some (.ref r1)) X8 (fun h => by first | rfl | (rw [Bd.returns] at h; cases h)) (BodyLoose.notSynchronized Bd) (by decide) (by decide) (⟨r1, kr1, rfl, N8, KK, own_leN (by omega), Vp8⟩) (fun fs hr => retOut X8 hx Bd.returns rfl (Or.inr (Or.inr (Or.inr (Or.inr ⟨rfl, rfl, rfl⟩)))) (hb hby D20_33.1) hr)
def own_Q52 (Z : State) (dst : Addr) (kd : ClassId) (c0 c1 : Int32) (h0 : Heap) (n0 : Nat) (v : Option Value) (h : Heap) (L : List Loc) : Prop := Fr n0 L ∧ Keep h0 h [dst] ∧ ((v = some (.int (2 : Int32)) ∧ (¬ ((255 : Int32) < c0)) ∧ (¬ ((255 : Int32) < c1)) ∧ Arv Z h dst kd .byte (2 : Int32) [(.int (own_l8 c0)), (.int (own_l8 c1))] (.int (0 : Int32))) ∨ (v = some (.int (0 : Int32)) ∧ (255 : Int32) < c0) ∨ (v = some (.int (1 : Int32)) ∧ (255 : Int32) < c1))
theorem ef_rs_c52 (m : MethodId) (ca : Addr) (dst : Addr) : entryFrame m #[(.ref ca), (.int (0 : Int32)), (.ref dst), (.int (0 : Int32)), (.int (2 : Int32))] 7 = mkF m 0 #[.val (.ref ca), .val (.int (0 : Int32)), .val (.ref dst), .val (.int (0 : Int32)), .val (.int (2 : Int32)), .unset, .unset] [] := by first | (simp [entryFrame, mkF, argsToLocals, Value.category]; done) | rfl
set_option maxRecDepth 65536 in
set_option maxHeartbeats 40000000 in
theorem rs_c52 (l : Launch) (Z : State) (a0 : Array Value) (hw : ∀ d ∈ tables_1, d.before a0 Z = true) (ws : List Jvm.Cond) (ca : Addr) (dst : Addr) (kc kd : ClassId) (c0 c1 : Int32) (h0 : Heap) (n0 : Nat) (Z0 : n0 ≤ h0.size) (Vc : Arv Z h0 ca kc .char (2 : Int32) [(.int c0), (.int c1)] (.int (0 : Int32))) (Vd : Arv Z h0 dst kd .byte (2 : Int32) [(.int (0 : Int32)), (.int (0 : Int32))] (.int (0 : Int32))) (gn_dst : n0 ≤ dst) (ncd : @LT.lt Nat instLTNat ca dst) :
    MetFree l (⟨"java/lang/StringUTF16", "compress", "([CI[BII)I"⟩ : MethodName) (head1 (Jvm.Cond.code (⟨"java/lang/StringUTF16", "compress", "([CI[BII)I"⟩ : MethodName) jdk_52_method_21_code 7 (some .int) :: ws) ({ frames := 0, cells := 0, slots := 0, locals := 0 } : Room)) (fun a U => a = #[(.ref ca), (.int (0 : Int32)), (.ref dst), (.int (0 : Int32)), (.int (2 : Int32))] ∧ Z.Warmed39 U.vm ∧ U.heap = h0) (fun _ _ _ _ _ => True) (fun _ U o U' => ∃ v L, o = .returned v ∧ own_Q52 Z dst kd c0 c1 h0 n0 v U'.heap L ∧ FrameEnd U o U' L ({ frames := 0, cells := 0, slots := 0, locals := 0 } : Room).cells ({ frames := 0, cells := 0, slots := 0, locals := 0 } : Room).slots) := by
  refine MetFree.of_bodySF (plainFor_of_name pn_java_lang_StringUTF16) hisR ?_
  intro p e s m args below meth c s₁ Bd hml0 hP hK
  obtain ⟨rfl, hZ, hh⟩ := hP
  have hx := Bd.exec
  have hby := Bd.bytes
  have hml : c.maxLocals = 7 := hml0
  have hown : s.vm.findClass "java/lang/StringUTF16" = some m.cls := findClass_of_methodNamed Bd.named
  have hnm := (name_of_methodNamed Bd.named Bd.method).1
  have X0 : Stand p l e ({ frames := 0, cells := 0, slots := 0, locals := 0 } : Room) s m #[(.ref ca), (.int (0 : Int32)), (.ref dst), (.int (0 : Int32)), (.int (2 : Int32))] below meth c s₁ [] 0 0 := Stand.of_body Bd
  have e0 : s₁.heap = h0 := by rw [← hh, Bd.state]; rfl
  have N0 := Fr.nil n0
  refine own_start (ef_rs_c52 m ca dst) ?_
  have lt_ca := own_ltN Vc.lt
  have lt_dst := own_ltN Vd.lt
  refine o_iconst X0 hx hby D16_0 (v := 0) rfl ?_
  refine o_istore X0 hx hby D16_1 (l' := #[.val (.ref ca), .val (.int (0 : Int32)), .val (.ref dst), .val (.int (0 : Int32)), .val (.int (2 : Int32)), .val (.int (0 : Int32)), .unset]) rfl ?_
  refine o_iload X0 hx hby D16_3 rfl ?_
  refine o_iload X0 hx hby D16_5 rfl ?_
  refine o_icmpN X0 hx hby D16_7 (tlt (by decide : (0 : Int32) < (2 : Int32))).2.1 ?_
  refine o_aloadN X0 hx hby D16_10 rfl rfl ?_
  refine o_iloadN X0 hx hby D16_11 rfl ?_
  obtain ⟨cl_ca_1, Ar_ca_1, q_ca_1, S_ca_1, N_ca_1, H_ca_1, G_ca_1⟩ := id Vc
  have hin_ca_1 : ¬ ((0 : Int32) < 0 ∨ cl_ca_1.slots.size ≤ ((0 : Int32)).toNatClampNeg) := inb_of S_ca_1 ⟨by decide, by decide⟩
  have hat_ca_1 : cl_ca_1.slots[((0 : Int32)).toNatClampNeg]? = some (.int c0) := H_ca_1.at hin_ca_1 (rfl)
  refine own_pre (A' := s₁.setTop (mkF m 13 #[.val (.ref ca), .val (.int (0 : Int32)), .val (.ref dst), .val (.int (0 : Int32)), .val (.int (2 : Int32)), .val (.int (0 : Int32)), .unset] [(.int c0)])) (fun t k => X0.caload hx (j := (0 : Int32)) (v := (.int c0)) (by rw [e0]; exact Ar_ca_1.1) (State.isArrayOf_alike hZ.alike Ar_ca_1.2.1) Ar_ca_1.2.2 hin_ca_1 hat_ca_1 (g := (mkF m 12 #[.val (.ref ca), .val (.int (0 : Int32)), .val (.ref dst), .val (.int (0 : Int32)), .val (.int (2 : Int32)), .val (.int (0 : Int32)), .unset] [(.int (0 : Int32)), (.ref ca)])) rfl rfl (hb hby D16_12.1) _ k) ?_
  refine o_istore X0 hx hby D16_13 (l' := #[.val (.ref ca), .val (.int (0 : Int32)), .val (.ref dst), .val (.int (0 : Int32)), .val (.int (2 : Int32)), .val (.int (0 : Int32)), .val (.int c0)]) rfl ?_
  refine o_iload X0 hx hby D16_15 rfl ?_
  refine o_sipush X0 hx hby D16_17 (v := 255) rfl ?_
  by_cases hc20_2 : (255 : Int32) < c0
  · skip
    refine o_icmpN X0 hx hby D16_20 (tlt hc20_2).2.2.2 ?_
    refine o_iload X0 hx hby D16_23 rfl ?_
    have KK : Keep h0 h0 [dst] := (Keep.refl h0 [dst])
    exact own_ret (v := some (.int (0 : Int32))) X0 (fun h => by first | rfl | (rw [Bd.returns] at h; cases h)) (BodyLoose.notSynchronized Bd) (by decide) (by decide) (by rw [e0]; exact ⟨N0, KK, (Or.inr (Or.inl ⟨rfl, hc20_2⟩))⟩) (fun fs hr => retI X0 hx Bd.returns (hb hby D16_25.1) hr)
  · skip
    refine o_icmpY X0 hx hby D16_20 (flt hc20_2).2.2.2 (q := 26) (by decide) (by decide) ?_
    refine o_aloadN X0 hx hby D16_26 rfl rfl ?_
    refine o_iloadN X0 hx hby D16_27 rfl ?_
    refine o_iload X0 hx hby D16_28 rfl ?_
    refine o_i2b X0 hx hby D16_30 ?_
    obtain ⟨cl_dst_3, Ar_dst_3, q_dst_3, S_dst_3, N_dst_3, H_dst_3, G_dst_3⟩ := id Vd
    have hin_dst_3 : ¬ ((0 : Int32) < 0 ∨ cl_dst_3.slots.size ≤ ((0 : Int32)).toNatClampNeg) := inb_of S_dst_3 ⟨by decide, by decide⟩
    obtain ⟨T3, h3, X3, e3, W3, st3⟩ := stB X0 hx hZ e0 Ar_dst_3 (j := (0 : Int32)) hin_dst_3 (g := (mkF m 31 #[.val (.ref ca), .val (.int (0 : Int32)), .val (.ref dst), .val (.int (0 : Int32)), .val (.int (2 : Int32)), .val (.int (0 : Int32)), .val (.int c0)] [(.int ((c0).toInt8.toInt32)), (.int (0 : Int32)), (.ref dst)])) rfl rfl (hb hby D16_31.1)
    have V_dst_3 : Arv Z h3 dst kd .byte (2 : Int32) [(.int (nar .byte ((c0).toInt8.toInt32))), (.int (0 : Int32))] (.int (0 : Int32)) := Arv.set Ar_dst_3 q_dst_3 S_dst_3 N_dst_3 H_dst_3 G_dst_3 (fits_nar_byte _) W3 0 rfl (Nat.le_of_ble_eq_true rfl)
    have sz3 := own_leN (Keep.of_wr W3).1
    have N3 := Fr.snoc X3 N0 gn_dst
    refine own_pre (A' := T3.setTop (mkF m 32 #[.val (.ref ca), .val (.int (0 : Int32)), .val (.ref dst), .val (.int (0 : Int32)), .val (.int (2 : Int32)), .val (.int (0 : Int32)), .val (.int c0)] [])) st3 ?_
    refine o_iinc X3 hx hby D16_32 rfl (l' := #[.val (.ref ca), .val (.int ((0 : Int32) + (1 : Int32))), .val (.ref dst), .val (.int (0 : Int32)), .val (.int (2 : Int32)), .val (.int (0 : Int32)), .val (.int c0)]) rfl ?_
    rw [(by decide : ((0 : Int32) + (1 : Int32)) = (1 : Int32))]
    refine o_iinc X3 hx hby D16_35 rfl (l' := #[.val (.ref ca), .val (.int (1 : Int32)), .val (.ref dst), .val (.int ((0 : Int32) + (1 : Int32))), .val (.int (2 : Int32)), .val (.int (0 : Int32)), .val (.int c0)]) rfl ?_
    rw [(by decide : ((0 : Int32) + (1 : Int32)) = (1 : Int32))]
    refine o_iinc X3 hx hby D16_38 rfl (l' := #[.val (.ref ca), .val (.int (1 : Int32)), .val (.ref dst), .val (.int (1 : Int32)), .val (.int (2 : Int32)), .val (.int ((0 : Int32) + (1 : Int32))), .val (.int c0)]) rfl ?_
    rw [(by decide : ((0 : Int32) + (1 : Int32)) = (1 : Int32))]
    refine o_goto X3 hx hby D16_41 (q := 3) (by decide) (by decide) ?_
    refine o_iload X3 hx hby D16_3 rfl ?_
    refine o_iload X3 hx hby D16_5 rfl ?_
    refine o_icmpN X3 hx hby D16_7 (tlt (by decide : (1 : Int32) < (2 : Int32))).2.1 ?_
    refine o_aloadN X3 hx hby D16_10 rfl rfl ?_
    refine o_iloadN X3 hx hby D16_11 rfl ?_
    have c5_V_ca := (Vc.other W3 (by first | exact own_neN (by omega) | exact own_neN' (by omega) | assumption))
    obtain ⟨cl_ca_4, Ar_ca_4, q_ca_4, S_ca_4, N_ca_4, H_ca_4, G_ca_4⟩ := id c5_V_ca
    have hin_ca_4 : ¬ ((1 : Int32) < 0 ∨ cl_ca_4.slots.size ≤ ((1 : Int32)).toNatClampNeg) := inb_of S_ca_4 ⟨by decide, by decide⟩
    have hat_ca_4 : cl_ca_4.slots[((1 : Int32)).toNatClampNeg]? = some (.int c1) := H_ca_4.at hin_ca_4 (rfl)
    refine own_pre (A' := T3.setTop (mkF m 13 #[.val (.ref ca), .val (.int (1 : Int32)), .val (.ref dst), .val (.int (1 : Int32)), .val (.int (2 : Int32)), .val (.int (1 : Int32)), .val (.int c0)] [(.int c1)])) (fun t k => X3.caload hx (j := (1 : Int32)) (v := (.int c1)) (by rw [e3]; exact Ar_ca_4.1) (State.isArrayOf_alike hZ.alike Ar_ca_4.2.1) Ar_ca_4.2.2 hin_ca_4 hat_ca_4 (g := (mkF m 12 #[.val (.ref ca), .val (.int (1 : Int32)), .val (.ref dst), .val (.int (1 : Int32)), .val (.int (2 : Int32)), .val (.int (1 : Int32)), .val (.int c0)] [(.int (1 : Int32)), (.ref ca)])) rfl rfl (hb hby D16_12.1) _ k) ?_
    refine o_istore X3 hx hby D16_13 (l' := #[.val (.ref ca), .val (.int (1 : Int32)), .val (.ref dst), .val (.int (1 : Int32)), .val (.int (2 : Int32)), .val (.int (1 : Int32)), .val (.int c1)]) rfl ?_
    refine o_iload X3 hx hby D16_15 rfl ?_
    refine o_sipush X3 hx hby D16_17 (v := 255) rfl ?_
    by_cases hc20_6 : (255 : Int32) < c1
    · skip
      refine o_icmpN X3 hx hby D16_20 (tlt hc20_6).2.2.2 ?_
      refine o_iload X3 hx hby D16_23 rfl ?_
      have KK : Keep h0 h3 [dst] := ((Keep.refl h0 [dst]).wr W3 (Or.inl (by simp)))
      exact own_ret (v := some (.int (1 : Int32))) X3 (fun h => by first | rfl | (rw [Bd.returns] at h; cases h)) (BodyLoose.notSynchronized Bd) (by decide) (by decide) (by rw [e3]; exact ⟨N3, KK, (Or.inr (Or.inr ⟨rfl, hc20_6⟩))⟩) (fun fs hr => retI X3 hx Bd.returns (hb hby D16_25.1) hr)
    · skip
      refine o_icmpY X3 hx hby D16_20 (flt hc20_6).2.2.2 (q := 26) (by decide) (by decide) ?_
      refine o_aloadN X3 hx hby D16_26 rfl rfl ?_
      refine o_iloadN X3 hx hby D16_27 rfl ?_
      refine o_iload X3 hx hby D16_28 rfl ?_
      refine o_i2b X3 hx hby D16_30 ?_
      obtain ⟨cl_dst_7, Ar_dst_7, q_dst_7, S_dst_7, N_dst_7, H_dst_7, G_dst_7⟩ := id V_dst_3
      have hin_dst_7 : ¬ ((1 : Int32) < 0 ∨ cl_dst_7.slots.size ≤ ((1 : Int32)).toNatClampNeg) := inb_of S_dst_7 ⟨by decide, by decide⟩
      obtain ⟨T7, h7, X7, e7, W7, st7⟩ := stB X3 hx hZ e3 Ar_dst_7 (j := (1 : Int32)) hin_dst_7 (g := (mkF m 31 #[.val (.ref ca), .val (.int (1 : Int32)), .val (.ref dst), .val (.int (1 : Int32)), .val (.int (2 : Int32)), .val (.int (1 : Int32)), .val (.int c1)] [(.int ((c1).toInt8.toInt32)), (.int (1 : Int32)), (.ref dst)])) rfl rfl (hb hby D16_31.1)
      have V_dst_7 : Arv Z h7 dst kd .byte (2 : Int32) [(.int (nar .byte ((c0).toInt8.toInt32))), (.int (nar .byte ((c1).toInt8.toInt32)))] (.int (0 : Int32)) := Arv.set Ar_dst_7 q_dst_7 S_dst_7 N_dst_7 H_dst_7 G_dst_7 (fits_nar_byte _) W7 1 rfl (Nat.le_of_ble_eq_true rfl)
      have sz7 := own_leN (Keep.of_wr W7).1
      have N7 := Fr.snoc X7 N3 gn_dst
      refine own_pre (A' := T7.setTop (mkF m 32 #[.val (.ref ca), .val (.int (1 : Int32)), .val (.ref dst), .val (.int (1 : Int32)), .val (.int (2 : Int32)), .val (.int (1 : Int32)), .val (.int c1)] [])) st7 ?_
      refine o_iinc X7 hx hby D16_32 rfl (l' := #[.val (.ref ca), .val (.int ((1 : Int32) + (1 : Int32))), .val (.ref dst), .val (.int (1 : Int32)), .val (.int (2 : Int32)), .val (.int (1 : Int32)), .val (.int c1)]) rfl ?_
      rw [(by decide : ((1 : Int32) + (1 : Int32)) = (2 : Int32))]
      refine o_iinc X7 hx hby D16_35 rfl (l' := #[.val (.ref ca), .val (.int (2 : Int32)), .val (.ref dst), .val (.int ((1 : Int32) + (1 : Int32))), .val (.int (2 : Int32)), .val (.int (1 : Int32)), .val (.int c1)]) rfl ?_
      rw [(by decide : ((1 : Int32) + (1 : Int32)) = (2 : Int32))]
      refine o_iinc X7 hx hby D16_38 rfl (l' := #[.val (.ref ca), .val (.int (2 : Int32)), .val (.ref dst), .val (.int (2 : Int32)), .val (.int (2 : Int32)), .val (.int ((1 : Int32) + (1 : Int32))), .val (.int c1)]) rfl ?_
      rw [(by decide : ((1 : Int32) + (1 : Int32)) = (2 : Int32))]
      refine o_goto X7 hx hby D16_41 (q := 3) (by decide) (by decide) ?_
      refine o_iload X7 hx hby D16_3 rfl ?_
      refine o_iload X7 hx hby D16_5 rfl ?_
      refine o_icmpY X7 hx hby D16_7 (flt (by decide : ¬ ((2 : Int32) < (2 : Int32)))).2.1 (q := 44) (by decide) (by decide) ?_
      refine o_iload X7 hx hby D16_44 rfl ?_
      have KK : Keep h0 h7 [dst] := (((Keep.refl h0 [dst]).wr W3 (Or.inl (by simp))).wr W7 (Or.inl (by simp)))
      have VV : Arv Z h7 dst kd .byte (2 : Int32) [(.int (own_l8 c0)), (.int (own_l8 c1))] (.int (0 : Int32)) := V_dst_7
      exact own_ret (v := some (.int (2 : Int32))) X7 (fun h => by first | rfl | (rw [Bd.returns] at h; cases h)) (BodyLoose.notSynchronized Bd) (by decide) (by decide) (by rw [e7]; exact ⟨N7, KK, (Or.inl ⟨rfl, hc20_2, hc20_6, VV⟩)⟩) (fun fs hr => retI X7 hx Bd.returns (hb hby D16_46.1) hr)
def own_Q32 (Z : State) (c0 c1 : Int32) (h0 : Heap) (n0 : Nat) (v : Option Value) (h : Heap) (L : List Loc) : Prop := ∃ (r : Nat) (kr : ClassId), v = some (.ref r) ∧ Fr n0 L ∧ Keep h0 h [] ∧ h0.size ≤ r ∧ (((¬ ((255 : Int32) < c0)) ∧ (¬ ((255 : Int32) < c1)) ∧ Arv Z h r kr .byte (2 : Int32) [(.int (own_l8 c0)), (.int (own_l8 c1))] (.int (0 : Int32))) ∨ Arv Z h r kr .byte (4 : Int32) [(.int (own_lo c0)), (.int (own_hi c0)), (.int (own_lo c1)), (.int (own_hi c1))] (.int (0 : Int32)))
theorem ef_rs_c32 (m : MethodId) (ca : Addr) : entryFrame m #[(.ref ca), (.int (0 : Int32)), (.int (2 : Int32))] 6 = mkF m 0 #[.val (.ref ca), .val (.int (0 : Int32)), .val (.int (2 : Int32)), .unset, .unset, .unset] [] := by first | (simp [entryFrame, mkF, argsToLocals, Value.category]; done) | rfl
set_option maxRecDepth 65536 in
set_option maxHeartbeats 40000000 in
theorem rs_c32 (l : Launch) (Z : State) (a0 : Array Value) (hw : ∀ d ∈ tables_1, d.before a0 Z = true) (ws : List Jvm.Cond) (ca : Addr) (kc : ClassId) (c0 c1 : Int32) (cs : Int32) (vf : Value) (h0 : Heap) (n0 : Nat) (Z0 : n0 ≤ h0.size) (hST : own_ST Z cs vf) (O0 : Old Z n0 h0) (Vc : Arv Z h0 ca kc .char (2 : Int32) [(.int c0), (.int c1)] (.int (0 : Int32))) (hc0 : own_ch16 c0) (hc1 : own_ch16 c1) :
    MetFree l (⟨"java/lang/StringUTF16", "compress", "([CII)[B"⟩ : MethodName) (head1 (Jvm.Cond.code (⟨"java/lang/StringUTF16", "compress", "([CII)[B"⟩ : MethodName) jdk_52_method_16_code 6 (some (.array .byte)) :: ws) ({ frames := 3, cells := 2, slots := 6, locals := 40 } : Room)) (fun a U => a = #[(.ref ca), (.int (0 : Int32)), (.int (2 : Int32))] ∧ Z.Warmed39 U.vm ∧ U.heap = h0) (fun _ _ _ _ _ => True) (fun _ U o U' => ∃ v L, o = .returned v ∧ own_Q32 Z c0 c1 h0 n0 v U'.heap L ∧ FrameEnd U o U' L ({ frames := 3, cells := 2, slots := 6, locals := 40 } : Room).cells ({ frames := 3, cells := 2, slots := 6, locals := 40 } : Room).slots) := by
  refine MetFree.of_bodySF (plainFor_of_name pn_java_lang_StringUTF16) hisR ?_
  intro p e s m args below meth c s₁ Bd hml0 hP hK
  obtain ⟨rfl, hZ, hh⟩ := hP
  have hx := Bd.exec
  have hby := Bd.bytes
  have hml : c.maxLocals = 6 := hml0
  have hown : s.vm.findClass "java/lang/StringUTF16" = some m.cls := findClass_of_methodNamed Bd.named
  have hnm := (name_of_methodNamed Bd.named Bd.method).1
  have X0 : Stand p l e ({ frames := 3, cells := 2, slots := 6, locals := 40 } : Room) s m #[(.ref ca), (.int (0 : Int32)), (.int (2 : Int32))] below meth c s₁ [] 0 0 := Stand.of_body Bd
  have e0 : s₁.heap = h0 := by rw [← hh, Bd.state]; rfl
  have N0 := Fr.nil n0
  refine own_start (ef_rs_c32 m ca) ?_
  have hST0 := hST
  obtain ⟨S_cs, S_ad, S_hb, S_lb, S_sf, hcs, hvf⟩ := hST
  have lt_ca := own_ltN Vc.lt
  refine o_iloadN X0 hx hby D15_0 rfl ?_
  obtain ⟨T1, h1, k1, X1, e1, E1, A1, Ex1, st1⟩ := newPE X0 hx hZ (own_wd hw (i := 19) rfl) e0 (g := (mkF m 1 #[.val (.ref ca), .val (.int (0 : Int32)), .val (.int (2 : Int32)), .unset, .unset, .unset] [(.int (2 : Int32))])) rfl (hb hby D15_1.1) rfl (by decide) (cap := 2) (by decide) (by decide) (by decide) (by decide) (ad := "[B") (by first | rfl | decide)
  obtain ⟨b1, g1⟩ : ∃ z : Nat, z = h0.size := ⟨_, rfl⟩
  rw [← g1] at A1 Ex1 st1
  have sz1 := own_leN E1.1
  have gn_b1 : n0 ≤ b1 := by omega
  have V_b1 : Arv Z h1 b1 k1 .byte (2 : Int32) [(.int (0 : Int32)), (.int (0 : Int32))] (.int (0 : Int32)) := (Arv.new A1 (by decide)).pad (pad_rep [] (.int (0 : Int32)) 2)
  have lt_b1 := own_ltN V_b1.lt
  refine own_pre (A' := T1.setTop (mkF m 3 #[.val (.ref ca), .val (.int (0 : Int32)), .val (.int (2 : Int32)), .unset, .unset, .unset] [(.ref b1)])) st1 ?_
  refine o_astoreN X1 hx hby D15_3 rfl (l' := #[.val (.ref ca), .val (.int (0 : Int32)), .val (.int (2 : Int32)), .val (.ref b1), .unset, .unset]) rfl ?_
  refine o_aloadN X1 hx hby D15_4 rfl rfl ?_
  refine o_iloadN X1 hx hby D15_5 rfl ?_
  refine o_aloadN X1 hx hby D15_6 rfl rfl ?_
  refine o_iconst X1 hx hby D15_7 (v := 0) rfl ?_
  refine o_iloadN X1 hx hby D15_8 rfl ?_
  have c3_V_ca := (Vc.ext E1)
  obtain ⟨_, _, ⟨T2, L2, k2, n2⟩, -, X2, ⟨Lc2, hQ2, l2, y2, z2⟩, st2⟩ := Jvm.LawKit.callS X1 hx (y := (⟨"java/lang/StringUTF16", "compress", "([CI[BII)I"⟩ : MethodName)) hown (mvT hZ (own_wd hw (i := 74) rfl)) (mvT hZ (own_wd hw (i := 75) rfl)) (mvT hZ (own_wd hw (i := 72) rfl)) (mvT hZ (own_wd hw (i := 76) rfl)) (by decide) (backOf (W := 0) (rs_c52 l Z a0 hw [] ca b1 kc k1 c0 c1 h1 n0 (own_leN (by omega)) c3_V_ca V_b1 gn_b1 (by omega)) hZ (own_wd hw (i := 76) rfl) (own_wd hw (i := 72) rfl) (by decide) (by decide)) (g := (mkF m 9 #[.val (.ref ca), .val (.int (0 : Int32)), .val (.int (2 : Int32)), .val (.ref b1), .unset, .unset] [(.int (2 : Int32)), (.int (0 : Int32)), (.ref b1), (.int (0 : Int32)), (.ref ca)])) rfl (by rw [hml]; rfl) (argsL := [(.ref ca), (.int (0 : Int32)), (.ref b1), (.int (0 : Int32)), (.int (2 : Int32))]) (rest := []) (lenOf pd__40_91CI_91BII_41I rfl) rfl (by show 2 * 0 + _ ≤ _; exact Nat.le_of_eq rfl) (hb hby D15_9.1) (fun _ _ => ⟨rfl, e1, (by decide : 1 + 0 ≤ _), (by decide : 2 + 0 ≤ _)⟩)
  dsimp only [Pt.U, Pt.locs, Pt.cells, Pt.slots] at X2 l2 y2 z2 st2 hQ2
  subst l2 y2 z2
  obtain ⟨N2q, K2, hw2⟩ := hQ2
  have sz2 := own_leN K2.1
  have N2 := Fr.app N0 N2q
  rcases hw2 with ⟨rfl, hl0, hl1, V5⟩ | ⟨rfl, hh0⟩ | ⟨rfl, hh1⟩
  · skip
    refine own_pre (A' := T2.setTop (mkF m 12 #[.val (.ref ca), .val (.int (0 : Int32)), .val (.int (2 : Int32)), .val (.ref b1), .unset, .unset] [(.int (2 : Int32))])) st2 ?_
    refine o_istore X2 hx hby D15_12 (l' := #[.val (.ref ca), .val (.int (0 : Int32)), .val (.int (2 : Int32)), .val (.ref b1), .val (.int (2 : Int32)), .unset]) rfl ?_
    refine o_iload X2 hx hby D15_14 rfl ?_
    refine o_iloadN X2 hx hby D15_16 rfl ?_
    refine o_icmpY X2 hx hby D15_17 (teq (by decide : (2 : Int32) = (2 : Int32))).1 (q := 57) (by decide) (by decide) ?_
    refine o_aloadN X2 hx hby D15_57 rfl rfl ?_
    have KK : Keep h0 T2.heap [] := (((Keep.refl h0 []).ext E1).trans K2 (allS (Or.inr (own_leN (by omega))) all0))
    exact own_ret (v := some (.ref b1)) X2 (fun h => by first | rfl | (rw [Bd.returns] at h; cases h)) (BodyLoose.notSynchronized Bd) (by decide) (by decide) (⟨b1, k1, rfl, N2, KK, own_leN (by omega), Or.inl ⟨hl0, hl1, V5⟩⟩) (fun fs hr => retOut X2 hx Bd.returns rfl (Or.inr (Or.inr (Or.inr (Or.inr ⟨rfl, rfl, rfl⟩)))) (hb hby D15_58.1) hr)
  · skip
    refine own_pre (A' := T2.setTop (mkF m 12 #[.val (.ref ca), .val (.int (0 : Int32)), .val (.int (2 : Int32)), .val (.ref b1), .unset, .unset] [(.int (0 : Int32))])) st2 ?_
    refine o_istore X2 hx hby D15_12 (l' := #[.val (.ref ca), .val (.int (0 : Int32)), .val (.int (2 : Int32)), .val (.ref b1), .val (.int (0 : Int32)), .unset]) rfl ?_
    refine o_iload X2 hx hby D15_14 rfl ?_
    refine o_iloadN X2 hx hby D15_16 rfl ?_
    refine o_icmpN X2 hx hby D15_17 (feq (by decide : ¬ ((0 : Int32) = (2 : Int32)))).1 ?_
    refine o_aloadN X2 hx hby D15_20 rfl rfl ?_
    refine o_iloadN X2 hx hby D15_21 rfl ?_
    refine o_iloadN X2 hx hby D15_22 rfl ?_
    have c5_O := ((O0.ext E1).keep K2 (allS gn_b1 all0))
    have c6_V_ca := (c3_V_ca.keep K2 (ninS (by first | exact own_neN (by omega) | exact own_neN' (by omega) | assumption) nin0))
    obtain ⟨_, _, ⟨T4, L4, k4, n4⟩, -, X4, ⟨Lc4, hQ4, l4, y4, z4⟩, st4⟩ := Jvm.LawKit.callS X2 hx (y := (⟨"java/lang/StringUTF16", "toBytes", "([CII)[B"⟩ : MethodName)) hown (mvT hZ (own_wd hw (i := 87) rfl)) (mvT hZ (own_wd hw (i := 88) rfl)) (mvT hZ (own_wd hw (i := 72) rfl)) (mvT hZ (own_wd hw (i := 89) rfl)) (by decide) (backOf (W := 0) (rs_tb2 l Z a0 hw [] ca kc c0 c1 cs vf T2.heap n0 (own_leN (by omega)) hST0 c5_O c6_V_ca) hZ (own_wd hw (i := 89) rfl) (own_wd hw (i := 72) rfl) (by decide) (by decide)) (g := (mkF m 23 #[.val (.ref ca), .val (.int (0 : Int32)), .val (.int (2 : Int32)), .val (.ref b1), .val (.int (0 : Int32)), .unset] [(.int (2 : Int32)), (.int (0 : Int32)), (.ref ca)])) rfl (by rw [hml]; rfl) (argsL := [(.ref ca), (.int (0 : Int32)), (.int (2 : Int32))]) (rest := []) (lenOf pd__40_91CII_41_91B rfl) rfl (by show 2 * 0 + _ ≤ _; exact Nat.le_of_eq rfl) (hb hby D15_23.1) (fun _ _ => ⟨rfl, rfl, (by decide : 1 + 1 ≤ _), (by decide : 2 + 4 ≤ _)⟩)
    dsimp only [Pt.U, Pt.locs, Pt.cells, Pt.slots] at X4 l4 y4 z4 st4 hQ4
    subst l4 y4 z4
    obtain ⟨r4, kr4, rfl, N4q, K4, ge4, Vr4⟩ := hQ4
    have sz4 := own_leN K4.1
    have ge4' := own_leN ge4
    have lt_r4 := own_ltN Vr4.lt
    have gn_r4 : n0 ≤ r4 := own_leN (by omega)
    have N4 := Fr.app N2 N4q
    refine own_pre (A' := T4.setTop (mkF m 26 #[.val (.ref ca), .val (.int (0 : Int32)), .val (.int (2 : Int32)), .val (.ref b1), .val (.int (0 : Int32)), .unset] [(.ref r4)])) st4 ?_
    refine o_astore X4 hx hby D15_26 rfl (l' := #[.val (.ref ca), .val (.int (0 : Int32)), .val (.int (2 : Int32)), .val (.ref b1), .val (.int (0 : Int32)), .val (.ref r4)]) rfl ?_
    refine o_aload X4 hx hby D15_28 rfl rfl ?_
    refine o_iload X4 hx hby D15_30 rfl ?_
    have c8_O := (c5_O.keep K4 all0)
    obtain ⟨_, _, ⟨T7, L7, k7, n7⟩, -, X7, ⟨Lc7, hQ7, l7, y7, z7⟩, st7⟩ := Jvm.LawKit.callS X4 hx (y := (⟨"java/lang/StringUTF16", "getChar", "([BI)C"⟩ : MethodName)) hown (mvT hZ (own_wd hw (i := 103) rfl)) (mvT hZ (own_wd hw (i := 104) rfl)) (mvT hZ (own_wd hw (i := 72) rfl)) (mvT hZ (own_wd hw (i := 105) rfl)) (by decide) (backOf (W := 0) (rs_gc20 l Z a0 hw [] r4 kr4 c0 c1 cs vf T4.heap n0 (own_leN (by omega)) hST0 c8_O Vr4 hc0) hZ (own_wd hw (i := 105) rfl) (own_wd hw (i := 72) rfl) (by decide) (by decide)) (g := (mkF m 32 #[.val (.ref ca), .val (.int (0 : Int32)), .val (.int (2 : Int32)), .val (.ref b1), .val (.int (0 : Int32)), .val (.ref r4)] [(.int (0 : Int32)), (.ref r4)])) rfl (by rw [hml]; rfl) (argsL := [(.ref r4), (.int (0 : Int32))]) (rest := []) (lenOf pd__40_91BI_41C rfl) rfl (by show 2 * 0 + _ ≤ _; exact Nat.le_of_eq rfl) (hb hby D15_32.1) (fun _ _ => ⟨rfl, rfl, (by decide : 2 + 0 ≤ _), (by decide : 6 + 0 ≤ _)⟩)
    dsimp only [Pt.U, Pt.locs, Pt.cells, Pt.slots] at X7 l7 y7 z7 st7 hQ7
    subst l7 y7 z7
    obtain ⟨rfl, N7q, e7⟩ := hQ7
    have N7 := Fr.app N4 N7q
    refine own_pre (A' := T7.setTop (mkF m 35 #[.val (.ref ca), .val (.int (0 : Int32)), .val (.int (2 : Int32)), .val (.ref b1), .val (.int (0 : Int32)), .val (.ref r4)] [(.int c0)])) st7 ?_
    refine o_sipush X7 hx hby D15_35 (v := 255) rfl ?_
    refine o_icmpY X7 hx hby D15_38 (tlt (hh0 : (255 : Int32) < c0)).2.2.1 (q := 54) (by decide) (by decide) ?_
    refine o_aload X7 hx hby D15_54 rfl rfl ?_
    have KK : Keep h0 T4.heap [] := ((((Keep.refl h0 []).ext E1).trans K2 (allS (Or.inr (own_leN (by omega))) all0)).trans K4 all0)
    exact own_ret (v := some (.ref r4)) X7 (fun h => by first | rfl | (rw [Bd.returns] at h; cases h)) (BodyLoose.notSynchronized Bd) (by decide) (by decide) (by rw [e7]; exact ⟨r4, kr4, rfl, N7, KK, own_leN (by omega), Or.inr Vr4⟩) (fun fs hr => retOut X7 hx Bd.returns rfl (Or.inr (Or.inr (Or.inr (Or.inr ⟨rfl, rfl, rfl⟩)))) (hb hby D15_56.1) hr)
  · skip
    refine own_pre (A' := T2.setTop (mkF m 12 #[.val (.ref ca), .val (.int (0 : Int32)), .val (.int (2 : Int32)), .val (.ref b1), .unset, .unset] [(.int (1 : Int32))])) st2 ?_
    refine o_istore X2 hx hby D15_12 (l' := #[.val (.ref ca), .val (.int (0 : Int32)), .val (.int (2 : Int32)), .val (.ref b1), .val (.int (1 : Int32)), .unset]) rfl ?_
    refine o_iload X2 hx hby D15_14 rfl ?_
    refine o_iloadN X2 hx hby D15_16 rfl ?_
    refine o_icmpN X2 hx hby D15_17 (feq (by decide : ¬ ((1 : Int32) = (2 : Int32)))).1 ?_
    refine o_aloadN X2 hx hby D15_20 rfl rfl ?_
    refine o_iloadN X2 hx hby D15_21 rfl ?_
    refine o_iloadN X2 hx hby D15_22 rfl ?_
    have c10_O := ((O0.ext E1).keep K2 (allS gn_b1 all0))
    have c11_V_ca := (c3_V_ca.keep K2 (ninS (by first | exact own_neN (by omega) | exact own_neN' (by omega) | assumption) nin0))
    obtain ⟨_, _, ⟨T9, L9, k9, n9⟩, -, X9, ⟨Lc9, hQ9, l9, y9, z9⟩, st9⟩ := Jvm.LawKit.callS X2 hx (y := (⟨"java/lang/StringUTF16", "toBytes", "([CII)[B"⟩ : MethodName)) hown (mvT hZ (own_wd hw (i := 87) rfl)) (mvT hZ (own_wd hw (i := 88) rfl)) (mvT hZ (own_wd hw (i := 72) rfl)) (mvT hZ (own_wd hw (i := 89) rfl)) (by decide) (backOf (W := 0) (rs_tb2 l Z a0 hw [] ca kc c0 c1 cs vf T2.heap n0 (own_leN (by omega)) hST0 c10_O c11_V_ca) hZ (own_wd hw (i := 89) rfl) (own_wd hw (i := 72) rfl) (by decide) (by decide)) (g := (mkF m 23 #[.val (.ref ca), .val (.int (0 : Int32)), .val (.int (2 : Int32)), .val (.ref b1), .val (.int (1 : Int32)), .unset] [(.int (2 : Int32)), (.int (0 : Int32)), (.ref ca)])) rfl (by rw [hml]; rfl) (argsL := [(.ref ca), (.int (0 : Int32)), (.int (2 : Int32))]) (rest := []) (lenOf pd__40_91CII_41_91B rfl) rfl (by show 2 * 0 + _ ≤ _; exact Nat.le_of_eq rfl) (hb hby D15_23.1) (fun _ _ => ⟨rfl, rfl, (by decide : 1 + 1 ≤ _), (by decide : 2 + 4 ≤ _)⟩)
    dsimp only [Pt.U, Pt.locs, Pt.cells, Pt.slots] at X9 l9 y9 z9 st9 hQ9
    subst l9 y9 z9
    obtain ⟨r9, kr9, rfl, N9q, K9, ge9, Vr9⟩ := hQ9
    have sz9 := own_leN K9.1
    have ge9' := own_leN ge9
    have lt_r9 := own_ltN Vr9.lt
    have gn_r9 : n0 ≤ r9 := own_leN (by omega)
    have N9 := Fr.app N2 N9q
    refine own_pre (A' := T9.setTop (mkF m 26 #[.val (.ref ca), .val (.int (0 : Int32)), .val (.int (2 : Int32)), .val (.ref b1), .val (.int (1 : Int32)), .unset] [(.ref r9)])) st9 ?_
    refine o_astore X9 hx hby D15_26 rfl (l' := #[.val (.ref ca), .val (.int (0 : Int32)), .val (.int (2 : Int32)), .val (.ref b1), .val (.int (1 : Int32)), .val (.ref r9)]) rfl ?_
    refine o_aload X9 hx hby D15_28 rfl rfl ?_
    refine o_iload X9 hx hby D15_30 rfl ?_
    have c13_O := (c10_O.keep K9 all0)
    obtain ⟨_, _, ⟨T12, L12, k12, n12⟩, -, X12, ⟨Lc12, hQ12, l12, y12, z12⟩, st12⟩ := Jvm.LawKit.callS X9 hx (y := (⟨"java/lang/StringUTF16", "getChar", "([BI)C"⟩ : MethodName)) hown (mvT hZ (own_wd hw (i := 103) rfl)) (mvT hZ (own_wd hw (i := 104) rfl)) (mvT hZ (own_wd hw (i := 72) rfl)) (mvT hZ (own_wd hw (i := 105) rfl)) (by decide) (backOf (W := 0) (rs_gc21 l Z a0 hw [] r9 kr9 c0 c1 cs vf T9.heap n0 (own_leN (by omega)) hST0 c13_O Vr9 hc1) hZ (own_wd hw (i := 105) rfl) (own_wd hw (i := 72) rfl) (by decide) (by decide)) (g := (mkF m 32 #[.val (.ref ca), .val (.int (0 : Int32)), .val (.int (2 : Int32)), .val (.ref b1), .val (.int (1 : Int32)), .val (.ref r9)] [(.int (1 : Int32)), (.ref r9)])) rfl (by rw [hml]; rfl) (argsL := [(.ref r9), (.int (1 : Int32))]) (rest := []) (lenOf pd__40_91BI_41C rfl) rfl (by show 2 * 0 + _ ≤ _; exact Nat.le_of_eq rfl) (hb hby D15_32.1) (fun _ _ => ⟨rfl, rfl, (by decide : 2 + 0 ≤ _), (by decide : 6 + 0 ≤ _)⟩)
    dsimp only [Pt.U, Pt.locs, Pt.cells, Pt.slots] at X12 l12 y12 z12 st12 hQ12
    subst l12 y12 z12
    obtain ⟨rfl, N12q, e12⟩ := hQ12
    have N12 := Fr.app N9 N12q
    refine own_pre (A' := T12.setTop (mkF m 35 #[.val (.ref ca), .val (.int (0 : Int32)), .val (.int (2 : Int32)), .val (.ref b1), .val (.int (1 : Int32)), .val (.ref r9)] [(.int c1)])) st12 ?_
    refine o_sipush X12 hx hby D15_35 (v := 255) rfl ?_
    refine o_icmpY X12 hx hby D15_38 (tlt (hh1 : (255 : Int32) < c1)).2.2.1 (q := 54) (by decide) (by decide) ?_
    refine o_aload X12 hx hby D15_54 rfl rfl ?_
    have KK : Keep h0 T9.heap [] := ((((Keep.refl h0 []).ext E1).trans K2 (allS (Or.inr (own_leN (by omega))) all0)).trans K9 all0)
    exact own_ret (v := some (.ref r9)) X12 (fun h => by first | rfl | (rw [Bd.returns] at h; cases h)) (BodyLoose.notSynchronized Bd) (by decide) (by decide) (by rw [e12]; exact ⟨r9, kr9, rfl, N12, KK, own_leN (by omega), Or.inr Vr9⟩) (fun fs hr => retOut X12 hx Bd.returns rfl (Or.inr (Or.inr (Or.inr (Or.inr ⟨rfl, rfl, rfl⟩)))) (hb hby D15_56.1) hr)
theorem ef_rs_cd2_2 (m : MethodId) (ba : Addr) : entryFrame m #[(.ref ba), (.int (2 : Int32))] 2 = mkF m 0 #[.val (.ref ba), .val (.int (2 : Int32))] [] := by first | (simp [entryFrame, mkF, argsToLocals, Value.category]; done) | rfl
set_option maxRecDepth 65536 in
set_option maxHeartbeats 40000000 in
theorem rs_cd2_2 (l : Launch) (Z : State) (a0 : Array Value) (hw : ∀ d ∈ tables_1, d.before a0 Z = true) (ws : List Jvm.Cond) (ba : Addr) (kb : ClassId) (xs : List Value) (h0 : Heap) (n0 : Nat) (Z0 : n0 ≤ h0.size) (Vb : Arv Z h0 ba kb .byte (2 : Int32) xs (.int (0 : Int32))) :
    MetFree l (⟨"java/lang/StringUTF16", "coderFromArrayLen", "([BI)B"⟩ : MethodName) (head1 (Jvm.Cond.code (⟨"java/lang/StringUTF16", "coderFromArrayLen", "([BI)B"⟩ : MethodName) jdk_52_method_15_code 2 (some .byte) :: ws) ({ frames := 0, cells := 0, slots := 0, locals := 0 } : Room)) (fun a U => a = #[(.ref ba), (.int (2 : Int32))] ∧ Z.Warmed39 U.vm ∧ U.heap = h0) (fun _ _ _ _ _ => True) (fun _ U o U' => ∃ v L, o = .returned v ∧ own_QP (.int (0 : Int32)) h0 n0 v U'.heap L ∧ FrameEnd U o U' L ({ frames := 0, cells := 0, slots := 0, locals := 0 } : Room).cells ({ frames := 0, cells := 0, slots := 0, locals := 0 } : Room).slots) := by
  refine MetFree.of_bodySF (plainFor_of_name pn_java_lang_StringUTF16) hisR ?_
  intro p e s m args below meth c s₁ Bd hml0 hP hK
  obtain ⟨rfl, hZ, hh⟩ := hP
  have hx := Bd.exec
  have hby := Bd.bytes
  have hml : c.maxLocals = 2 := hml0
  have hown : s.vm.findClass "java/lang/StringUTF16" = some m.cls := findClass_of_methodNamed Bd.named
  have hnm := (name_of_methodNamed Bd.named Bd.method).1
  have X0 : Stand p l e ({ frames := 0, cells := 0, slots := 0, locals := 0 } : Room) s m #[(.ref ba), (.int (2 : Int32))] below meth c s₁ [] 0 0 := Stand.of_body Bd
  have e0 : s₁.heap = h0 := by rw [← hh, Bd.state]; rfl
  have N0 := Fr.nil n0
  refine own_start (ef_rs_cd2_2 m ba) ?_
  refine o_iloadN X0 hx hby D17_0 rfl ?_
  refine o_aloadN X0 hx hby D17_1 rfl rfl ?_
  obtain ⟨cl_ba_1, Ar_ba_1, q_ba_1, S_ba_1, N_ba_1, H_ba_1, G_ba_1⟩ := id Vb
  refine own_pre (A' := s₁.setTop (mkF m 3 #[.val (.ref ba), .val (.int (2 : Int32))] [(.int (2 : Int32)), (.int (2 : Int32))])) (fun t k => X0.arraylength hx (by rw [e0]; exact Ar_ba_1.1) (State.isArrayOf_alike hZ.alike Ar_ba_1.2.1) (g := (mkF m 2 #[.val (.ref ba), .val (.int (2 : Int32))] [(.ref ba), (.int (2 : Int32))])) rfl rfl (hb hby D17_2.1) _ (by rw [len_of S_ba_1 N_ba_1]; exact k)) ?_
  refine o_isub X0 hx hby D17_3 ?_
  rw [(by decide : ((2 : Int32) - (2 : Int32)) = (0 : Int32))]
  refine o_bipush X0 hx hby D17_4 (v := 31) rfl ?_
  refine o_iushr X0 hx hby D17_6 ?_
  rw [(by decide : (((0 : Int32).toUInt32 >>> ((31 : Int32) &&& 31).toUInt32).toInt32) = (0 : Int32))]
  refine o_i2b X0 hx hby D17_7 ?_
  rw [(by decide : (((0 : Int32)).toInt8.toInt32) = (0 : Int32))]
  exact own_ret (v := some (.int (0 : Int32))) X0 (fun h => by first | rfl | (rw [Bd.returns] at h; cases h)) (BodyLoose.notSynchronized Bd) (by decide) (by decide) (⟨rfl, N0, e0⟩) (fun fs hr => retN X0 hx (t := .byte) Bd.returns (by simp) (hb hby D17_8.1) hr)
theorem ef_rs_cd2_4 (m : MethodId) (ba : Addr) : entryFrame m #[(.ref ba), (.int (2 : Int32))] 2 = mkF m 0 #[.val (.ref ba), .val (.int (2 : Int32))] [] := by first | (simp [entryFrame, mkF, argsToLocals, Value.category]; done) | rfl
set_option maxRecDepth 65536 in
set_option maxHeartbeats 40000000 in
theorem rs_cd2_4 (l : Launch) (Z : State) (a0 : Array Value) (hw : ∀ d ∈ tables_1, d.before a0 Z = true) (ws : List Jvm.Cond) (ba : Addr) (kb : ClassId) (xs : List Value) (h0 : Heap) (n0 : Nat) (Z0 : n0 ≤ h0.size) (Vb : Arv Z h0 ba kb .byte (4 : Int32) xs (.int (0 : Int32))) :
    MetFree l (⟨"java/lang/StringUTF16", "coderFromArrayLen", "([BI)B"⟩ : MethodName) (head1 (Jvm.Cond.code (⟨"java/lang/StringUTF16", "coderFromArrayLen", "([BI)B"⟩ : MethodName) jdk_52_method_15_code 2 (some .byte) :: ws) ({ frames := 0, cells := 0, slots := 0, locals := 0 } : Room)) (fun a U => a = #[(.ref ba), (.int (2 : Int32))] ∧ Z.Warmed39 U.vm ∧ U.heap = h0) (fun _ _ _ _ _ => True) (fun _ U o U' => ∃ v L, o = .returned v ∧ own_QP (.int (1 : Int32)) h0 n0 v U'.heap L ∧ FrameEnd U o U' L ({ frames := 0, cells := 0, slots := 0, locals := 0 } : Room).cells ({ frames := 0, cells := 0, slots := 0, locals := 0 } : Room).slots) := by
  refine MetFree.of_bodySF (plainFor_of_name pn_java_lang_StringUTF16) hisR ?_
  intro p e s m args below meth c s₁ Bd hml0 hP hK
  obtain ⟨rfl, hZ, hh⟩ := hP
  have hx := Bd.exec
  have hby := Bd.bytes
  have hml : c.maxLocals = 2 := hml0
  have hown : s.vm.findClass "java/lang/StringUTF16" = some m.cls := findClass_of_methodNamed Bd.named
  have hnm := (name_of_methodNamed Bd.named Bd.method).1
  have X0 : Stand p l e ({ frames := 0, cells := 0, slots := 0, locals := 0 } : Room) s m #[(.ref ba), (.int (2 : Int32))] below meth c s₁ [] 0 0 := Stand.of_body Bd
  have e0 : s₁.heap = h0 := by rw [← hh, Bd.state]; rfl
  have N0 := Fr.nil n0
  refine own_start (ef_rs_cd2_4 m ba) ?_
  refine o_iloadN X0 hx hby D17_0 rfl ?_
  refine o_aloadN X0 hx hby D17_1 rfl rfl ?_
  obtain ⟨cl_ba_1, Ar_ba_1, q_ba_1, S_ba_1, N_ba_1, H_ba_1, G_ba_1⟩ := id Vb
  refine own_pre (A' := s₁.setTop (mkF m 3 #[.val (.ref ba), .val (.int (2 : Int32))] [(.int (4 : Int32)), (.int (2 : Int32))])) (fun t k => X0.arraylength hx (by rw [e0]; exact Ar_ba_1.1) (State.isArrayOf_alike hZ.alike Ar_ba_1.2.1) (g := (mkF m 2 #[.val (.ref ba), .val (.int (2 : Int32))] [(.ref ba), (.int (2 : Int32))])) rfl rfl (hb hby D17_2.1) _ (by rw [len_of S_ba_1 N_ba_1]; exact k)) ?_
  refine o_isub X0 hx hby D17_3 ?_
  rw [(by decide : ((2 : Int32) - (4 : Int32)) = (-2 : Int32))]
  refine o_bipush X0 hx hby D17_4 (v := 31) rfl ?_
  refine o_iushr X0 hx hby D17_6 ?_
  rw [(by decide : (((-2 : Int32).toUInt32 >>> ((31 : Int32) &&& 31).toUInt32).toInt32) = (1 : Int32))]
  refine o_i2b X0 hx hby D17_7 ?_
  rw [(by decide : (((1 : Int32)).toInt8.toInt32) = (1 : Int32))]
  exact own_ret (v := some (.int (1 : Int32))) X0 (fun h => by first | rfl | (rw [Bd.returns] at h; cases h)) (BodyLoose.notSynchronized Bd) (by decide) (by decide) (⟨rfl, N0, e0⟩) (fun fs hr => retN X0 hx (t := .byte) Bd.returns (by simp) (hb hby D17_8.1) hr)
def own_Str2 (Z : State) (h : Heap) (st vb : Addr) (kb : ClassId) (c0 c1 : Int32) : Prop := Exa Z h st "java/lang/String" ∧ Fld Z h st "java/lang/String" "value" "[B" (.ref vb) ∧ ((Fld Z h st "java/lang/String" "coder" "B" (.int 0) ∧ (¬ ((255 : Int32) < c0)) ∧ (¬ ((255 : Int32) < c1)) ∧ Arv Z h vb kb .byte (2 : Int32) [(.int (own_l8 c0)), (.int (own_l8 c1))] (.int (0 : Int32))) ∨ (Fld Z h st "java/lang/String" "coder" "B" (.int 1) ∧ Arv Z h vb kb .byte (4 : Int32) [(.int (own_lo c0)), (.int (own_hi c0)), (.int (own_lo c1)), (.int (own_hi c1))] (.int (0 : Int32))))
def own_QI2 (Z : State) (a1 : Addr) (c0 c1 : Int32) (h0 : Heap) (n0 : Nat) (v : Option Value) (h : Heap) (L : List Loc) : Prop := ∃ (vb : Nat) (kb : ClassId), v = none ∧ Fr n0 L ∧ Keep h0 h [a1] ∧ h0.size ≤ vb ∧ own_Str2 Z h a1 vb kb c0 c1
theorem ef_rs_i42 (m : MethodId) (a1 : Addr) (ca : Addr) : entryFrame m #[(.ref a1), (.ref ca), (.int (0 : Int32)), (.int (2 : Int32)), .null] 6 = mkF m 0 #[.val (.ref a1), .val (.ref ca), .val (.int (0 : Int32)), .val (.int (2 : Int32)), .val .null, .unset] [] := by first | (simp [entryFrame, mkF, argsToLocals, Value.category]; done) | rfl
set_option maxRecDepth 65536 in
set_option maxHeartbeats 40000000 in
theorem rs_i42 (l : Launch) (Z : State) (a0 : Array Value) (hw : ∀ d ∈ tables_1, d.before a0 Z = true) (ws : List Jvm.Cond) (a1 : Addr) (ca : Addr) (kc : ClassId) (c0 c1 : Int32) (u0 u1 : Value) (cs : Int32) (vf : Value) (h0 : Heap) (n0 : Nat) (Z0 : n0 ≤ h0.size) (hST : own_ST Z cs vf) (O0 : Old Z n0 h0) (Vc : Arv Z h0 ca kc .char (2 : Int32) [(.int c0), (.int c1)] (.int (0 : Int32))) (hc0 : own_ch16 c0) (hc1 : own_ch16 c1) (gn_a1 : n0 ≤ a1) (E_a1 : Exa Z h0 a1 "java/lang/String") (F_v : Fld Z h0 a1 "java/lang/String" "value" "[B" u0) (F_c : Fld Z h0 a1 "java/lang/String" "coder" "B" u1) :
    MetFree l (⟨"java/lang/String", "<init>", "([CIILjava/lang/Void;)V"⟩ : MethodName) (head1 (Jvm.Cond.code (⟨"java/lang/String", "<init>", "([CIILjava/lang/Void;)V"⟩ : MethodName) jdk_42_method_149_code 6 none :: ws) ({ frames := 4, cells := 2, slots := 6, locals := 57 } : Room)) (fun a U => a = #[(.ref a1), (.ref ca), (.int (0 : Int32)), (.int (2 : Int32)), .null] ∧ Z.Warmed39 U.vm ∧ U.heap = h0) (fun _ _ _ _ _ => True) (fun _ U o U' => ∃ v L, o = .returned v ∧ own_QI2 Z a1 c0 c1 h0 n0 v U'.heap L ∧ FrameEnd U o U' L ({ frames := 4, cells := 2, slots := 6, locals := 57 } : Room).cells ({ frames := 4, cells := 2, slots := 6, locals := 57 } : Room).slots) := by
  refine MetFree.of_bodySF (plainFor_of_name pn_java_lang_String) hisR ?_
  intro p e s m args below meth c s₁ Bd hml0 hP hK
  obtain ⟨rfl, hZ, hh⟩ := hP
  have hx := Bd.exec
  have hby := Bd.bytes
  have hml : c.maxLocals = 6 := hml0
  have hown : s.vm.findClass "java/lang/String" = some m.cls := findClass_of_methodNamed Bd.named
  have hnm := (name_of_methodNamed Bd.named Bd.method).1
  have X0 : Stand p l e ({ frames := 4, cells := 2, slots := 6, locals := 57 } : Room) s m #[(.ref a1), (.ref ca), (.int (0 : Int32)), (.int (2 : Int32)), .null] below meth c s₁ [] 0 0 := Stand.of_body Bd
  have e0 : s₁.heap = h0 := by rw [← hh, Bd.state]; rfl
  have N0 := Fr.nil n0
  refine own_start (ef_rs_i42 m a1 ca) ?_
  have hST0 := hST
  obtain ⟨S_cs, S_ad, S_hb, S_lb, S_sf, hcs, hvf⟩ := hST
  have lt_ca := own_ltN Vc.lt
  have lt_a1 := own_ltN E_a1.lt
  refine o_aloadN X0 hx hby D3_0 rfl rfl ?_
  obtain ⟨T1, X1, e1, st1⟩ := initO X0 hx hZ hown (own_wd hw (i := 15) rfl) (own_wd hw (i := 16) rfl) (own_wd hw (i := 17) rfl) e0 (g := (mkF m 1 #[.val (.ref a1), .val (.ref ca), .val (.int (0 : Int32)), .val (.int (2 : Int32)), .val .null, .unset] [(.ref a1)])) rfl (by rw [hml]; rfl) rfl (hb hby D3_1.1) (by decide) (W := 0) (by show 2 * 0 + _ ≤ _; exact Nat.le_of_eq rfl) (by decide)
  refine own_pre (A' := T1.setTop (mkF m 4 #[.val (.ref a1), .val (.ref ca), .val (.int (0 : Int32)), .val (.int (2 : Int32)), .val .null, .unset] [])) st1 ?_
  refine o_iloadN X1 hx hby D3_4 rfl ?_
  refine o_ifY X1 hx hby D3_5 ((if0 _ _).trans (feq (by decide : ¬ ((2 : Int32) = (0 : Int32)))).2) (q := 27) (by decide) (by decide) ?_
  obtain ⟨T2, X2, e2, st2⟩ := getS2 X1 hx hZ hown (host := "") (Or.inl (own_wd hw (i := 45) rfl)) Via.refl e1 (S_cs.ext O0.2) (g := (mkF m 27 #[.val (.ref a1), .val (.ref ca), .val (.int (0 : Int32)), .val (.int (2 : Int32)), .val .null, .unset] [])) rfl (hb hby D3_27.1)
  refine own_pre (A' := T2.setTop (mkF m 30 #[.val (.ref a1), .val (.ref ca), .val (.int (0 : Int32)), .val (.int (2 : Int32)), .val .null, .unset] [(.int cs)])) st2 ?_
  refine o_ifN X2 hx hby D3_30 ((if0 _ _).trans (feq (hcs : ¬ (cs = (0 : Int32)))).1) ?_
  refine o_aloadN X2 hx hby D3_33 rfl rfl ?_
  refine o_iloadN X2 hx hby D3_34 rfl ?_
  refine o_iloadN X2 hx hby D3_35 rfl ?_
  obtain ⟨_, _, ⟨T3, L3, k3, n3⟩, -, X3, ⟨Lc3, hQ3, l3, y3, z3⟩, st3⟩ := Jvm.LawKit.callS X2 hx (y := (⟨"java/lang/StringUTF16", "compress", "([CII)[B"⟩ : MethodName)) hown (mvT hZ (own_wd hw (i := 70) rfl)) (mvT hZ (own_wd hw (i := 71) rfl)) (mvT hZ (own_wd hw (i := 72) rfl)) (mvT hZ (own_wd hw (i := 73) rfl)) (by decide) (backOf (W := 0) (rs_c32 l Z a0 hw [] ca kc c0 c1 cs vf h0 n0 (own_leN (by omega)) hST0 O0 Vc hc0 hc1) hZ (own_wd hw (i := 73) rfl) (own_wd hw (i := 72) rfl) (by decide) (by decide)) (g := (mkF m 36 #[.val (.ref a1), .val (.ref ca), .val (.int (0 : Int32)), .val (.int (2 : Int32)), .val .null, .unset] [(.int (2 : Int32)), (.int (0 : Int32)), (.ref ca)])) rfl (by rw [hml]; rfl) (argsL := [(.ref ca), (.int (0 : Int32)), (.int (2 : Int32))]) (rest := []) (lenOf pd__40_91CII_41_91B rfl) rfl (by show 2 * 0 + _ ≤ _; exact Nat.le_of_eq rfl) (hb hby D3_36.1) (fun _ _ => ⟨rfl, e2, (by decide : 0 + 2 ≤ _), (by decide : 0 + 6 ≤ _)⟩)
  dsimp only [Pt.U, Pt.locs, Pt.cells, Pt.slots] at X3 l3 y3 z3 st3 hQ3
  subst l3 y3 z3
  obtain ⟨r3, kr3, rfl, N3q, K3, ge3, hw3⟩ := hQ3
  have sz3 := own_leN K3.1
  have ge3' := own_leN ge3
  have N3 := Fr.app N0 N3q
  refine own_pre (A' := T3.setTop (mkF m 39 #[.val (.ref a1), .val (.ref ca), .val (.int (0 : Int32)), .val (.int (2 : Int32)), .val .null, .unset] [(.ref r3)])) st3 ?_
  rcases hw3 with ⟨hl0, hl1, Vr⟩ | Vr
  · have lt_r3 := own_ltN Vr.lt
    refine o_astore X3 hx hby D3_39 rfl (l' := #[.val (.ref a1), .val (.ref ca), .val (.int (0 : Int32)), .val (.int (2 : Int32)), .val .null, .val (.ref r3)]) rfl ?_
    refine o_aloadN X3 hx hby D3_41 rfl rfl ?_
    refine o_aload X3 hx hby D3_42 rfl rfl ?_
    refine o_iloadN X3 hx hby D3_44 rfl ?_
    obtain ⟨_, _, ⟨T4, L4, k4, n4⟩, -, X4, ⟨Lc4, hQ4, l4, y4, z4⟩, st4⟩ := Jvm.LawKit.callS X3 hx (y := (⟨"java/lang/StringUTF16", "coderFromArrayLen", "([BI)B"⟩ : MethodName)) hown (mvT hZ (own_wd hw (i := 77) rfl)) (mvT hZ (own_wd hw (i := 78) rfl)) (mvT hZ (own_wd hw (i := 72) rfl)) (mvT hZ (own_wd hw (i := 79) rfl)) (by decide) (backOf (W := 1) (rs_cd2_2 l Z a0 hw [] r3 kr3 [(.int (own_l8 c0)), (.int (own_l8 c1))] T3.heap n0 (own_leN (by omega)) Vr) hZ (own_wd hw (i := 79) rfl) (own_wd hw (i := 72) rfl) (by decide) (by decide)) (g := (mkF m 45 #[.val (.ref a1), .val (.ref ca), .val (.int (0 : Int32)), .val (.int (2 : Int32)), .val .null, .val (.ref r3)] [(.int (2 : Int32)), (.ref r3), (.ref a1)])) rfl (by rw [hml]; rfl) (argsL := [(.ref r3), (.int (2 : Int32))]) (rest := [(.ref a1)]) (lenOf pd__40_91BI_41B rfl) rfl (by show 2 * 0 + _ ≤ _; exact Nat.le_of_eq rfl) (hb hby D3_45.1) (fun _ _ => ⟨rfl, rfl, (by decide : 2 + 0 ≤ _), (by decide : 6 + 0 ≤ _)⟩)
    dsimp only [Pt.U, Pt.locs, Pt.cells, Pt.slots] at X4 l4 y4 z4 st4 hQ4
    subst l4 y4 z4
    obtain ⟨rfl, N4q, e4⟩ := hQ4
    have N4 := Fr.app N3 N4q
    refine own_pre (A' := T4.setTop (mkF m 48 #[.val (.ref a1), .val (.ref ca), .val (.int (0 : Int32)), .val (.int (2 : Int32)), .val .null, .val (.ref r3)] [(.int (0 : Int32)), (.ref a1)])) st4 ?_
    have c6_F_a1_coder := (F_c.keep K3 nin0)
    have c7_E_a1 := (E_a1.keep K3)
    obtain ⟨T5, h5, X5, e5, W5, st5⟩ := putFN X4 hx hZ hown (own_wd hw (i := 25) rfl) Via.refl e4 c6_F_a1_coder c7_E_a1 (Or.inr ⟨(own_wd hw (i := 21) rfl), rfl, hnm⟩) (own_wd hw (i := 6) rfl) (ty := .byte) (v' := (.int (0 : Int32))) (by decide) rfl rfl (g := (mkF m 48 #[.val (.ref a1), .val (.ref ca), .val (.int (0 : Int32)), .val (.int (2 : Int32)), .val .null, .val (.ref r3)] [(.int (0 : Int32)), (.ref a1)])) rfl rfl (hb hby D3_48.1)
    have Fw5 := c6_F_a1_coder.same W5
    have sz5 := own_leN (Keep.of_wr W5).1
    have N5 := Fr.snoc X5 N4 gn_a1
    refine own_pre (A' := T5.setTop (mkF m 51 #[.val (.ref a1), .val (.ref ca), .val (.int (0 : Int32)), .val (.int (2 : Int32)), .val .null, .val (.ref r3)] [])) st5 ?_
    refine o_aloadN X5 hx hby D3_51 rfl rfl ?_
    refine o_aload X5 hx hby D3_52 rfl rfl ?_
    have c9_F_a1_value := ((F_v.keep K3 nin0).other W5 (Or.inr (Jvm.RoadKit.slot_ne (Or.inr (own_wd hw (i := 20) rfl)) (Or.inr (own_wd hw (i := 21) rfl)) (by decide) (t := (.array .byte)) (t' := .byte) (by decide) (by decide))))
    have c10_E_a1 := (c7_E_a1.wr W5)
    obtain ⟨T8, h8, X8, e8, W8, st8⟩ := putF X5 hx hZ hown (host := "") (Or.inl (own_wd hw (i := 24) rfl)) Via.refl e5 c9_F_a1_value c10_E_a1 (Or.inr ⟨(own_wd hw (i := 20) rfl), rfl, hnm⟩) (own_wd hw (i := 6) rfl) (ty := (.array .byte)) (by decide) rfl rfl (g := (mkF m 54 #[.val (.ref a1), .val (.ref ca), .val (.int (0 : Int32)), .val (.int (2 : Int32)), .val .null, .val (.ref r3)] [(.ref r3), (.ref a1)])) rfl rfl (hb hby D3_54.1)
    have Fw8 := c9_F_a1_value.same W8
    have sz8 := own_leN (Keep.of_wr W8).1
    have N8 := Fr.snoc X8 N5 gn_a1
    refine own_pre (A' := T8.setTop (mkF m 57 #[.val (.ref a1), .val (.ref ca), .val (.int (0 : Int32)), .val (.int (2 : Int32)), .val .null, .val (.ref r3)] [])) st8 ?_
    have c11_E_a1 := (c10_E_a1.wr W8)
    have c12_F_a1_coder := (Fw5.other W8 (Or.inr (Jvm.RoadKit.slot_ne (Or.inr (own_wd hw (i := 21) rfl)) (Or.inr (own_wd hw (i := 20) rfl)) (by decide) (t := .byte) (t' := (.array .byte)) (by decide) (by decide))))
    have c13_V_r3 := ((Vr.other W5 (by first | exact own_neN (by omega) | exact own_neN' (by omega) | assumption)).other W8 (by first | exact own_neN (by omega) | exact own_neN' (by omega) | assumption))
    have KK : Keep h0 h8 [a1] := ((((Keep.refl h0 [a1]).trans K3 all0).wr W5 (Or.inl (by simp))).wr W8 (Or.inl (by simp)))
    exact own_ret (v := none) X8 (fun h => by first | rfl | (rw [Bd.returns] at h; cases h)) (BodyLoose.notSynchronized Bd) (by decide) (by decide) (by rw [e8]; exact ⟨r3, kr3, rfl, N8, KK, own_leN (by omega), c11_E_a1, Fw8, Or.inl ⟨c12_F_a1_coder, hl0, hl1, c13_V_r3⟩⟩) (fun fs hr => X8.returnOut hx Bd.returns (hb hby D3_57.1) hr)
  · have lt_r3 := own_ltN Vr.lt
    refine o_astore X3 hx hby D3_39 rfl (l' := #[.val (.ref a1), .val (.ref ca), .val (.int (0 : Int32)), .val (.int (2 : Int32)), .val .null, .val (.ref r3)]) rfl ?_
    refine o_aloadN X3 hx hby D3_41 rfl rfl ?_
    refine o_aload X3 hx hby D3_42 rfl rfl ?_
    refine o_iloadN X3 hx hby D3_44 rfl ?_
    obtain ⟨_, _, ⟨T14, L14, k14, n14⟩, -, X14, ⟨Lc14, hQ14, l14, y14, z14⟩, st14⟩ := Jvm.LawKit.callS X3 hx (y := (⟨"java/lang/StringUTF16", "coderFromArrayLen", "([BI)B"⟩ : MethodName)) hown (mvT hZ (own_wd hw (i := 77) rfl)) (mvT hZ (own_wd hw (i := 78) rfl)) (mvT hZ (own_wd hw (i := 72) rfl)) (mvT hZ (own_wd hw (i := 79) rfl)) (by decide) (backOf (W := 1) (rs_cd2_4 l Z a0 hw [] r3 kr3 [(.int (own_lo c0)), (.int (own_hi c0)), (.int (own_lo c1)), (.int (own_hi c1))] T3.heap n0 (own_leN (by omega)) Vr) hZ (own_wd hw (i := 79) rfl) (own_wd hw (i := 72) rfl) (by decide) (by decide)) (g := (mkF m 45 #[.val (.ref a1), .val (.ref ca), .val (.int (0 : Int32)), .val (.int (2 : Int32)), .val .null, .val (.ref r3)] [(.int (2 : Int32)), (.ref r3), (.ref a1)])) rfl (by rw [hml]; rfl) (argsL := [(.ref r3), (.int (2 : Int32))]) (rest := [(.ref a1)]) (lenOf pd__40_91BI_41B rfl) rfl (by show 2 * 0 + _ ≤ _; exact Nat.le_of_eq rfl) (hb hby D3_45.1) (fun _ _ => ⟨rfl, rfl, (by decide : 2 + 0 ≤ _), (by decide : 6 + 0 ≤ _)⟩)
    dsimp only [Pt.U, Pt.locs, Pt.cells, Pt.slots] at X14 l14 y14 z14 st14 hQ14
    subst l14 y14 z14
    obtain ⟨rfl, N14q, e14⟩ := hQ14
    have N14 := Fr.app N3 N14q
    refine own_pre (A' := T14.setTop (mkF m 48 #[.val (.ref a1), .val (.ref ca), .val (.int (0 : Int32)), .val (.int (2 : Int32)), .val .null, .val (.ref r3)] [(.int (1 : Int32)), (.ref a1)])) st14 ?_
    have c16_F_a1_coder := (F_c.keep K3 nin0)
    have c17_E_a1 := (E_a1.keep K3)
    obtain ⟨T15, h15, X15, e15, W15, st15⟩ := putFN X14 hx hZ hown (own_wd hw (i := 25) rfl) Via.refl e14 c16_F_a1_coder c17_E_a1 (Or.inr ⟨(own_wd hw (i := 21) rfl), rfl, hnm⟩) (own_wd hw (i := 6) rfl) (ty := .byte) (v' := (.int (1 : Int32))) (by decide) rfl rfl (g := (mkF m 48 #[.val (.ref a1), .val (.ref ca), .val (.int (0 : Int32)), .val (.int (2 : Int32)), .val .null, .val (.ref r3)] [(.int (1 : Int32)), (.ref a1)])) rfl rfl (hb hby D3_48.1)
    have Fw15 := c16_F_a1_coder.same W15
    have sz15 := own_leN (Keep.of_wr W15).1
    have N15 := Fr.snoc X15 N14 gn_a1
    refine own_pre (A' := T15.setTop (mkF m 51 #[.val (.ref a1), .val (.ref ca), .val (.int (0 : Int32)), .val (.int (2 : Int32)), .val .null, .val (.ref r3)] [])) st15 ?_
    refine o_aloadN X15 hx hby D3_51 rfl rfl ?_
    refine o_aload X15 hx hby D3_52 rfl rfl ?_
    have c19_F_a1_value := ((F_v.keep K3 nin0).other W15 (Or.inr (Jvm.RoadKit.slot_ne (Or.inr (own_wd hw (i := 20) rfl)) (Or.inr (own_wd hw (i := 21) rfl)) (by decide) (t := (.array .byte)) (t' := .byte) (by decide) (by decide))))
    have c20_E_a1 := (c17_E_a1.wr W15)
    obtain ⟨T18, h18, X18, e18, W18, st18⟩ := putF X15 hx hZ hown (host := "") (Or.inl (own_wd hw (i := 24) rfl)) Via.refl e15 c19_F_a1_value c20_E_a1 (Or.inr ⟨(own_wd hw (i := 20) rfl), rfl, hnm⟩) (own_wd hw (i := 6) rfl) (ty := (.array .byte)) (by decide) rfl rfl (g := (mkF m 54 #[.val (.ref a1), .val (.ref ca), .val (.int (0 : Int32)), .val (.int (2 : Int32)), .val .null, .val (.ref r3)] [(.ref r3), (.ref a1)])) rfl rfl (hb hby D3_54.1)
    have Fw18 := c19_F_a1_value.same W18
    have sz18 := own_leN (Keep.of_wr W18).1
    have N18 := Fr.snoc X18 N15 gn_a1
    refine own_pre (A' := T18.setTop (mkF m 57 #[.val (.ref a1), .val (.ref ca), .val (.int (0 : Int32)), .val (.int (2 : Int32)), .val .null, .val (.ref r3)] [])) st18 ?_
    have c21_E_a1 := (c20_E_a1.wr W18)
    have c22_F_a1_coder := (Fw15.other W18 (Or.inr (Jvm.RoadKit.slot_ne (Or.inr (own_wd hw (i := 21) rfl)) (Or.inr (own_wd hw (i := 20) rfl)) (by decide) (t := .byte) (t' := (.array .byte)) (by decide) (by decide))))
    have c23_V_r3 := ((Vr.other W15 (by first | exact own_neN (by omega) | exact own_neN' (by omega) | assumption)).other W18 (by first | exact own_neN (by omega) | exact own_neN' (by omega) | assumption))
    have KK : Keep h0 h18 [a1] := ((((Keep.refl h0 [a1]).trans K3 all0).wr W15 (Or.inl (by simp))).wr W18 (Or.inl (by simp)))
    exact own_ret (v := none) X18 (fun h => by first | rfl | (rw [Bd.returns] at h; cases h)) (BodyLoose.notSynchronized Bd) (by decide) (by decide) (by rw [e18]; exact ⟨r3, kr3, rfl, N18, KK, own_leN (by omega), c21_E_a1, Fw18, Or.inr ⟨c22_F_a1_coder, c23_V_r3⟩⟩) (fun fs hr => X18.returnOut hx Bd.returns (hb hby D3_57.1) hr)
theorem ef_rs_i12 (m : MethodId) (a1 : Addr) (ca : Addr) : entryFrame m #[(.ref a1), (.ref ca)] 2 = mkF m 0 #[.val (.ref a1), .val (.ref ca)] [] := by first | (simp [entryFrame, mkF, argsToLocals, Value.category]; done) | rfl
set_option maxRecDepth 65536 in
set_option maxHeartbeats 40000000 in
theorem rs_i12 (l : Launch) (Z : State) (a0 : Array Value) (hw : ∀ d ∈ tables_1, d.before a0 Z = true) (ws : List Jvm.Cond) (a1 : Addr) (ca : Addr) (kc : ClassId) (c0 c1 : Int32) (u0 u1 : Value) (cs : Int32) (vf : Value) (h0 : Heap) (n0 : Nat) (Z0 : n0 ≤ h0.size) (hST : own_ST Z cs vf) (O0 : Old Z n0 h0) (Vc : Arv Z h0 ca kc .char (2 : Int32) [(.int c0), (.int c1)] (.int (0 : Int32))) (hc0 : own_ch16 c0) (hc1 : own_ch16 c1) (gn_a1 : n0 ≤ a1) (E_a1 : Exa Z h0 a1 "java/lang/String") (F_v : Fld Z h0 a1 "java/lang/String" "value" "[B" u0) (F_c : Fld Z h0 a1 "java/lang/String" "coder" "B" u1) :
    MetFree l (⟨"java/lang/String", "<init>", "([C)V"⟩ : MethodName) (head1 (Jvm.Cond.code (⟨"java/lang/String", "<init>", "([C)V"⟩ : MethodName) jdk_42_method_3_code 2 none :: ws) ({ frames := 5, cells := 2, slots := 6, locals := 74 } : Room)) (fun a U => a = #[(.ref a1), (.ref ca)] ∧ Z.Warmed39 U.vm ∧ U.heap = h0) (fun _ _ _ _ _ => True) (fun _ U o U' => ∃ v L, o = .returned v ∧ own_QI2 Z a1 c0 c1 h0 n0 v U'.heap L ∧ FrameEnd U o U' L ({ frames := 5, cells := 2, slots := 6, locals := 74 } : Room).cells ({ frames := 5, cells := 2, slots := 6, locals := 74 } : Room).slots) := by
  refine MetFree.of_bodySF (plainFor_of_name pn_java_lang_String) hisR ?_
  intro p e s m args below meth c s₁ Bd hml0 hP hK
  obtain ⟨rfl, hZ, hh⟩ := hP
  have hx := Bd.exec
  have hby := Bd.bytes
  have hml : c.maxLocals = 2 := hml0
  have hown : s.vm.findClass "java/lang/String" = some m.cls := findClass_of_methodNamed Bd.named
  have hnm := (name_of_methodNamed Bd.named Bd.method).1
  have X0 : Stand p l e ({ frames := 5, cells := 2, slots := 6, locals := 74 } : Room) s m #[(.ref a1), (.ref ca)] below meth c s₁ [] 0 0 := Stand.of_body Bd
  have e0 : s₁.heap = h0 := by rw [← hh, Bd.state]; rfl
  have N0 := Fr.nil n0
  refine own_start (ef_rs_i12 m a1 ca) ?_
  have hST0 := hST
  refine o_aloadN X0 hx hby D2_0 rfl rfl ?_
  refine o_aloadN X0 hx hby D2_1 rfl rfl ?_
  refine o_iconst X0 hx hby D2_2 (v := 0) rfl ?_
  refine o_aloadN X0 hx hby D2_3 rfl rfl ?_
  obtain ⟨cl_ca_1, Ar_ca_1, q_ca_1, S_ca_1, N_ca_1, H_ca_1, G_ca_1⟩ := id Vc
  refine own_pre (A' := s₁.setTop (mkF m 5 #[.val (.ref a1), .val (.ref ca)] [(.int (2 : Int32)), (.int (0 : Int32)), (.ref ca), (.ref a1)])) (fun t k => X0.arraylength hx (by rw [e0]; exact Ar_ca_1.1) (State.isArrayOf_alike hZ.alike Ar_ca_1.2.1) (g := (mkF m 4 #[.val (.ref a1), .val (.ref ca)] [(.ref ca), (.int (0 : Int32)), (.ref ca), (.ref a1)])) rfl rfl (hb hby D2_4.1) _ (by rw [len_of S_ca_1 N_ca_1]; exact k)) ?_
  refine o_anull X0 hx hby D2_5 ?_
  obtain ⟨_, _, ⟨T2, L2, k2, n2⟩, -, X2, ⟨Lc2, hQ2, l2, y2, z2⟩, st2⟩ := X0.specialBack hx (y := (⟨"java/lang/String", "<init>", "([CIILjava/lang/Void;)V"⟩ : MethodName)) rfl hown (mvT hZ (own_wd hw (i := 11) rfl)) (mvT hZ (own_wd hw (i := 12) rfl)) (mvT hZ (own_wd hw (i := 14) rfl)) (by decide) (backOf (W := 0) (rs_i42 l Z a0 hw [] a1 ca kc c0 c1 u0 u1 cs vf h0 n0 Z0 hST0 O0 Vc hc0 hc1 gn_a1 E_a1 F_v F_c) hZ (own_wd hw (i := 14) rfl) (own_wd hw (i := 7) rfl) (by decide) (by decide)) (g := (mkF m 6 #[.val (.ref a1), .val (.ref ca)] [.null, (.int (2 : Int32)), (.int (0 : Int32)), (.ref ca), (.ref a1)])) rfl (by rw [hml]; rfl) (Steps.refl _) (a := a1) (argsL := [(.ref ca), (.int (0 : Int32)), (.int (2 : Int32)), .null]) (rest := []) (lenOf pd__40_91CIILjava_47lang_47Void_59_41V rfl) rfl (by show 2 * 0 + _ ≤ _; exact Nat.le_of_eq rfl) (hb hby D2_6.1) (fun _ _ => ⟨rfl, e0, (by decide : 0 + 2 ≤ _), (by decide : 0 + 6 ≤ _)⟩)
  dsimp only [Pt.U, Pt.locs, Pt.cells, Pt.slots] at X2 l2 y2 z2 st2 hQ2
  subst l2 y2 z2
  obtain ⟨vb, kb, rfl, N2q, K2, ge2, Str2⟩ := hQ2
  have N2 := Fr.app N0 N2q
  refine own_pre (A' := T2.setTop (mkF m 9 #[.val (.ref a1), .val (.ref ca)] [])) (fun t k => st2.trans k) ?_
  exact own_ret (v := none) X2 (fun h => by first | rfl | (rw [Bd.returns] at h; cases h)) (BodyLoose.notSynchronized Bd) (by decide) (by decide) (⟨vb, kb, rfl, N2, K2, ge2, Str2⟩) (fun fs hr => X2.returnOut hx Bd.returns (hb hby D2_9.1) hr)
def own_QTb3 (Z : State) (c0 c1 c2 : Int32) (h0 : Heap) (n0 : Nat) (v : Option Value) (h : Heap) (L : List Loc) : Prop := ∃ (r : Nat) (kr : ClassId), v = some (.ref r) ∧ Fr n0 L ∧ Keep h0 h [] ∧ h0.size ≤ r ∧ Arv Z h r kr .byte (6 : Int32) [(.int (own_lo c0)), (.int (own_hi c0)), (.int (own_lo c1)), (.int (own_hi c1)), (.int (own_lo c2)), (.int (own_hi c2))] (.int (0 : Int32))
theorem ef_rs_tb3 (m : MethodId) (ca : Addr) : entryFrame m #[(.ref ca), (.int (0 : Int32)), (.int (3 : Int32))] 5 = mkF m 0 #[.val (.ref ca), .val (.int (0 : Int32)), .val (.int (3 : Int32)), .unset, .unset] [] := by first | (simp [entryFrame, mkF, argsToLocals, Value.category]; done) | rfl
set_option maxRecDepth 65536 in
set_option maxHeartbeats 40000000 in
theorem rs_tb3 (l : Launch) (Z : State) (a0 : Array Value) (hw : ∀ d ∈ tables_1, d.before a0 Z = true) (ws : List Jvm.Cond) (ca : Addr) (kc : ClassId) (c0 c1 c2 : Int32) (cs : Int32) (vf : Value) (h0 : Heap) (n0 : Nat) (Z0 : n0 ≤ h0.size) (hST : own_ST Z cs vf) (O0 : Old Z n0 h0) (Vc : Arv Z h0 ca kc .char (3 : Int32) [(.int c0), (.int c1), (.int c2)] (.int (0 : Int32))) :
    MetFree l (⟨"java/lang/StringUTF16", "toBytes", "([CII)[B"⟩ : MethodName) (head1 (Jvm.Cond.code (⟨"java/lang/StringUTF16", "toBytes", "([CII)[B"⟩ : MethodName) jdk_52_method_14_code 5 (some (.array .byte)) :: ws) ({ frames := 2, cells := 1, slots := 6, locals := 24 } : Room)) (fun a U => a = #[(.ref ca), (.int (0 : Int32)), (.int (3 : Int32))] ∧ Z.Warmed39 U.vm ∧ U.heap = h0) (fun _ _ _ _ _ => True) (fun _ U o U' => ∃ v L, o = .returned v ∧ own_QTb3 Z c0 c1 c2 h0 n0 v U'.heap L ∧ FrameEnd U o U' L ({ frames := 2, cells := 1, slots := 6, locals := 24 } : Room).cells ({ frames := 2, cells := 1, slots := 6, locals := 24 } : Room).slots) := by
  refine MetFree.of_bodySF (plainFor_of_name pn_java_lang_StringUTF16) hisR ?_
  intro p e s m args below meth c s₁ Bd hml0 hP hK
  obtain ⟨rfl, hZ, hh⟩ := hP
  have hx := Bd.exec
  have hby := Bd.bytes
  have hml : c.maxLocals = 5 := hml0
  have hown : s.vm.findClass "java/lang/StringUTF16" = some m.cls := findClass_of_methodNamed Bd.named
  have hnm := (name_of_methodNamed Bd.named Bd.method).1
  have X0 : Stand p l e ({ frames := 2, cells := 1, slots := 6, locals := 24 } : Room) s m #[(.ref ca), (.int (0 : Int32)), (.int (3 : Int32))] below meth c s₁ [] 0 0 := Stand.of_body Bd
  have e0 : s₁.heap = h0 := by rw [← hh, Bd.state]; rfl
  have N0 := Fr.nil n0
  refine own_start (ef_rs_tb3 m ca) ?_
  have hST0 := hST
  obtain ⟨S_cs, S_ad, S_hb, S_lb, S_sf, hcs, hvf⟩ := hST
  have lt_ca := own_ltN Vc.lt
  refine o_iloadN X0 hx hby D20_0 rfl ?_
  obtain ⟨_, _, ⟨T1, L1, k1, n1⟩, -, X1, ⟨Lc1, hQ1, l1, y1, z1⟩, st1⟩ := Jvm.LawKit.callS X0 hx (y := (⟨"java/lang/StringUTF16", "newBytesFor", "(I)[B"⟩ : MethodName)) hown (mvT hZ (own_wd hw (i := 90) rfl)) (mvT hZ (own_wd hw (i := 91) rfl)) (mvT hZ (own_wd hw (i := 72) rfl)) (mvT hZ (own_wd hw (i := 92) rfl)) (by decide) (backOf (W := 0) (rs_nbf3 l Z a0 hw []  h0 n0 Z0 ) hZ (own_wd hw (i := 92) rfl) (own_wd hw (i := 72) rfl) (by decide) (by decide)) (g := (mkF m 1 #[.val (.ref ca), .val (.int (0 : Int32)), .val (.int (3 : Int32)), .unset, .unset] [(.int (3 : Int32))])) rfl (by rw [hml]; rfl) (argsL := [(.int (3 : Int32))]) (rest := []) (lenOf pd__40I_41_91B rfl) rfl (by show 2 * 0 + _ ≤ _; exact Nat.le_of_eq rfl) (hb hby D20_1.1) (fun _ _ => ⟨rfl, e0, (by decide : 0 + 1 ≤ _), (by decide : 0 + 6 ≤ _)⟩)
  dsimp only [Pt.U, Pt.locs, Pt.cells, Pt.slots] at X1 l1 y1 z1 st1 hQ1
  subst l1 y1 z1
  obtain ⟨r1, kr1, rfl, N1q, K1, ge1, Vr1⟩ := hQ1
  have sz1 := own_leN K1.1
  have ge1' := own_leN ge1
  have lt_r1 := own_ltN Vr1.lt
  have gn_r1 : n0 ≤ r1 := own_leN (by omega)
  have N1 := Fr.app N0 N1q
  refine own_pre (A' := T1.setTop (mkF m 4 #[.val (.ref ca), .val (.int (0 : Int32)), .val (.int (3 : Int32)), .unset, .unset] [(.ref r1)])) st1 ?_
  refine o_astoreN X1 hx hby D20_4 rfl (l' := #[.val (.ref ca), .val (.int (0 : Int32)), .val (.int (3 : Int32)), .val (.ref r1), .unset]) rfl ?_
  refine o_iconst X1 hx hby D20_5 (v := 0) rfl ?_
  refine o_istore X1 hx hby D20_6 (l' := #[.val (.ref ca), .val (.int (0 : Int32)), .val (.int (3 : Int32)), .val (.ref r1), .val (.int (0 : Int32))]) rfl ?_
  refine o_iload X1 hx hby D20_8 rfl ?_
  refine o_iloadN X1 hx hby D20_10 rfl ?_
  refine o_icmpN X1 hx hby D20_11 (tlt (by decide : (0 : Int32) < (3 : Int32))).2.1 ?_
  refine o_aloadN X1 hx hby D20_14 rfl rfl ?_
  refine o_iload X1 hx hby D20_15 rfl ?_
  refine o_aloadN X1 hx hby D20_17 rfl rfl ?_
  refine o_iloadN X1 hx hby D20_18 rfl ?_
  have c3_V_ca := (Vc.keep K1 nin0)
  obtain ⟨cl_ca_2, Ar_ca_2, q_ca_2, S_ca_2, N_ca_2, H_ca_2, G_ca_2⟩ := id c3_V_ca
  have hin_ca_2 : ¬ ((0 : Int32) < 0 ∨ cl_ca_2.slots.size ≤ ((0 : Int32)).toNatClampNeg) := inb_of S_ca_2 ⟨by decide, by decide⟩
  have hat_ca_2 : cl_ca_2.slots[((0 : Int32)).toNatClampNeg]? = some (.int c0) := H_ca_2.at hin_ca_2 (rfl)
  refine own_pre (A' := T1.setTop (mkF m 20 #[.val (.ref ca), .val (.int (0 : Int32)), .val (.int (3 : Int32)), .val (.ref r1), .val (.int (0 : Int32))] [(.int c0), (.int (0 : Int32)), (.ref r1)])) (fun t k => X1.caload hx (j := (0 : Int32)) (v := (.int c0)) Ar_ca_2.1 (State.isArrayOf_alike hZ.alike Ar_ca_2.2.1) Ar_ca_2.2.2 hin_ca_2 hat_ca_2 (g := (mkF m 19 #[.val (.ref ca), .val (.int (0 : Int32)), .val (.int (3 : Int32)), .val (.ref r1), .val (.int (0 : Int32))] [(.int (0 : Int32)), (.ref ca), (.int (0 : Int32)), (.ref r1)])) rfl rfl (hb hby D20_19.1) _ k) ?_
  have c5_O := (O0.keep K1 all0)
  obtain ⟨_, _, ⟨T4, L4, k4, n4⟩, -, X4, ⟨Lc4, hQ4, l4, y4, z4⟩, st4⟩ := Jvm.LawKit.callS X1 hx (y := (⟨"java/lang/StringUTF16", "putChar", "([BII)V"⟩ : MethodName)) hown (mvT hZ (own_wd hw (i := 97) rfl)) (mvT hZ (own_wd hw (i := 98) rfl)) (mvT hZ (own_wd hw (i := 72) rfl)) (mvT hZ (own_wd hw (i := 99) rfl)) (by decide) (backOf (W := 0) (rs_pc30 l Z a0 hw [] r1 c0 kr1 (.int (0 : Int32)) (.int (0 : Int32)) (.int (0 : Int32)) (.int (0 : Int32)) (.int (0 : Int32)) (.int (0 : Int32)) cs vf T1.heap n0 (own_leN (by omega)) hST0 c5_O gn_r1 Vr1) hZ (own_wd hw (i := 99) rfl) (own_wd hw (i := 72) rfl) (by decide) (by decide)) (g := (mkF m 20 #[.val (.ref ca), .val (.int (0 : Int32)), .val (.int (3 : Int32)), .val (.ref r1), .val (.int (0 : Int32))] [(.int c0), (.int (0 : Int32)), (.ref r1)])) rfl (by rw [hml]; rfl) (argsL := [(.ref r1), (.int (0 : Int32)), (.int c0)]) (rest := []) (lenOf pd__40_91BII_41V rfl) rfl (by show 2 * 0 + _ ≤ _; exact Nat.le_of_eq rfl) (hb hby D20_20.1) (fun _ _ => ⟨rfl, rfl, (by decide : 1 + 0 ≤ _), (by decide : 6 + 0 ≤ _)⟩)
  dsimp only [Pt.U, Pt.locs, Pt.cells, Pt.slots] at X4 l4 y4 z4 st4 hQ4
  subst l4 y4 z4
  obtain ⟨rfl, N4q, K4, Vp4⟩ := hQ4
  have sz4 := own_leN K4.1
  have N4 := Fr.app N1 N4q
  refine own_pre (A' := T4.setTop (mkF m 23 #[.val (.ref ca), .val (.int (0 : Int32)), .val (.int (3 : Int32)), .val (.ref r1), .val (.int (0 : Int32))] [])) st4 ?_
  refine o_iinc X4 hx hby D20_23 rfl (l' := #[.val (.ref ca), .val (.int ((0 : Int32) + (1 : Int32))), .val (.int (3 : Int32)), .val (.ref r1), .val (.int (0 : Int32))]) rfl ?_
  rw [(by decide : ((0 : Int32) + (1 : Int32)) = (1 : Int32))]
  refine o_iinc X4 hx hby D20_26 rfl (l' := #[.val (.ref ca), .val (.int (1 : Int32)), .val (.int (3 : Int32)), .val (.ref r1), .val (.int ((0 : Int32) + (1 : Int32)))]) rfl ?_
  rw [(by decide : ((0 : Int32) + (1 : Int32)) = (1 : Int32))]
  refine o_goto X4 hx hby D20_29 (q := 8) (by decide) (by decide) ?_
  refine o_iload X4 hx hby D20_8 rfl ?_
  refine o_iloadN X4 hx hby D20_10 rfl ?_
  refine o_icmpN X4 hx hby D20_11 (tlt (by decide : (1 : Int32) < (3 : Int32))).2.1 ?_
  refine o_aloadN X4 hx hby D20_14 rfl rfl ?_
  refine o_iload X4 hx hby D20_15 rfl ?_
  refine o_aloadN X4 hx hby D20_17 rfl rfl ?_
  refine o_iloadN X4 hx hby D20_18 rfl ?_
  have c7_V_ca := (c3_V_ca.keep K4 (ninS (by first | exact own_neN (by omega) | exact own_neN' (by omega) | assumption) nin0))
  obtain ⟨cl_ca_6, Ar_ca_6, q_ca_6, S_ca_6, N_ca_6, H_ca_6, G_ca_6⟩ := id c7_V_ca
  have hin_ca_6 : ¬ ((1 : Int32) < 0 ∨ cl_ca_6.slots.size ≤ ((1 : Int32)).toNatClampNeg) := inb_of S_ca_6 ⟨by decide, by decide⟩
  have hat_ca_6 : cl_ca_6.slots[((1 : Int32)).toNatClampNeg]? = some (.int c1) := H_ca_6.at hin_ca_6 (rfl)
  refine own_pre (A' := T4.setTop (mkF m 20 #[.val (.ref ca), .val (.int (1 : Int32)), .val (.int (3 : Int32)), .val (.ref r1), .val (.int (1 : Int32))] [(.int c1), (.int (1 : Int32)), (.ref r1)])) (fun t k => X4.caload hx (j := (1 : Int32)) (v := (.int c1)) Ar_ca_6.1 (State.isArrayOf_alike hZ.alike Ar_ca_6.2.1) Ar_ca_6.2.2 hin_ca_6 hat_ca_6 (g := (mkF m 19 #[.val (.ref ca), .val (.int (1 : Int32)), .val (.int (3 : Int32)), .val (.ref r1), .val (.int (1 : Int32))] [(.int (1 : Int32)), (.ref ca), (.int (1 : Int32)), (.ref r1)])) rfl rfl (hb hby D20_19.1) _ k) ?_
  have c9_O := (c5_O.keep K4 (allS gn_r1 all0))
  obtain ⟨_, _, ⟨T8, L8, k8, n8⟩, -, X8, ⟨Lc8, hQ8, l8, y8, z8⟩, st8⟩ := Jvm.LawKit.callS X4 hx (y := (⟨"java/lang/StringUTF16", "putChar", "([BII)V"⟩ : MethodName)) hown (mvT hZ (own_wd hw (i := 97) rfl)) (mvT hZ (own_wd hw (i := 98) rfl)) (mvT hZ (own_wd hw (i := 72) rfl)) (mvT hZ (own_wd hw (i := 99) rfl)) (by decide) (backOf (W := 0) (rs_pc31 l Z a0 hw [] r1 c1 kr1 (.int (own_lo c0)) (.int (own_hi c0)) (.int (0 : Int32)) (.int (0 : Int32)) (.int (0 : Int32)) (.int (0 : Int32)) cs vf T4.heap n0 (own_leN (by omega)) hST0 c9_O gn_r1 Vp4) hZ (own_wd hw (i := 99) rfl) (own_wd hw (i := 72) rfl) (by decide) (by decide)) (g := (mkF m 20 #[.val (.ref ca), .val (.int (1 : Int32)), .val (.int (3 : Int32)), .val (.ref r1), .val (.int (1 : Int32))] [(.int c1), (.int (1 : Int32)), (.ref r1)])) rfl (by rw [hml]; rfl) (argsL := [(.ref r1), (.int (1 : Int32)), (.int c1)]) (rest := []) (lenOf pd__40_91BII_41V rfl) rfl (by show 2 * 0 + _ ≤ _; exact Nat.le_of_eq rfl) (hb hby D20_20.1) (fun _ _ => ⟨rfl, rfl, (by decide : 1 + 0 ≤ _), (by decide : 6 + 0 ≤ _)⟩)
  dsimp only [Pt.U, Pt.locs, Pt.cells, Pt.slots] at X8 l8 y8 z8 st8 hQ8
  subst l8 y8 z8
  obtain ⟨rfl, N8q, K8, Vp8⟩ := hQ8
  have sz8 := own_leN K8.1
  have N8 := Fr.app N4 N8q
  refine own_pre (A' := T8.setTop (mkF m 23 #[.val (.ref ca), .val (.int (1 : Int32)), .val (.int (3 : Int32)), .val (.ref r1), .val (.int (1 : Int32))] [])) st8 ?_
  refine o_iinc X8 hx hby D20_23 rfl (l' := #[.val (.ref ca), .val (.int ((1 : Int32) + (1 : Int32))), .val (.int (3 : Int32)), .val (.ref r1), .val (.int (1 : Int32))]) rfl ?_
  rw [(by decide : ((1 : Int32) + (1 : Int32)) = (2 : Int32))]
  refine o_iinc X8 hx hby D20_26 rfl (l' := #[.val (.ref ca), .val (.int (2 : Int32)), .val (.int (3 : Int32)), .val (.ref r1), .val (.int ((1 : Int32) + (1 : Int32)))]) rfl ?_
  rw [(by decide : ((1 : Int32) + (1 : Int32)) = (2 : Int32))]
  refine o_goto X8 hx hby D20_29 (q := 8) (by decide) (by decide) ?_
  refine o_iload X8 hx hby D20_8 rfl ?_
  refine o_iloadN X8 hx hby D20_10 rfl ?_
  refine o_icmpN X8 hx hby D20_11 (tlt (by decide : (2 : Int32) < (3 : Int32))).2.1 ?_
  refine o_aloadN X8 hx hby D20_14 rfl rfl ?_
  refine o_iload X8 hx hby D20_15 rfl ?_
  refine o_aloadN X8 hx hby D20_17 rfl rfl ?_
  refine o_iloadN X8 hx hby D20_18 rfl ?_
  have c11_V_ca := (c7_V_ca.keep K8 (ninS (by first | exact own_neN (by omega) | exact own_neN' (by omega) | assumption) nin0))
  obtain ⟨cl_ca_10, Ar_ca_10, q_ca_10, S_ca_10, N_ca_10, H_ca_10, G_ca_10⟩ := id c11_V_ca
  have hin_ca_10 : ¬ ((2 : Int32) < 0 ∨ cl_ca_10.slots.size ≤ ((2 : Int32)).toNatClampNeg) := inb_of S_ca_10 ⟨by decide, by decide⟩
  have hat_ca_10 : cl_ca_10.slots[((2 : Int32)).toNatClampNeg]? = some (.int c2) := H_ca_10.at hin_ca_10 (rfl)
  refine own_pre (A' := T8.setTop (mkF m 20 #[.val (.ref ca), .val (.int (2 : Int32)), .val (.int (3 : Int32)), .val (.ref r1), .val (.int (2 : Int32))] [(.int c2), (.int (2 : Int32)), (.ref r1)])) (fun t k => X8.caload hx (j := (2 : Int32)) (v := (.int c2)) Ar_ca_10.1 (State.isArrayOf_alike hZ.alike Ar_ca_10.2.1) Ar_ca_10.2.2 hin_ca_10 hat_ca_10 (g := (mkF m 19 #[.val (.ref ca), .val (.int (2 : Int32)), .val (.int (3 : Int32)), .val (.ref r1), .val (.int (2 : Int32))] [(.int (2 : Int32)), (.ref ca), (.int (2 : Int32)), (.ref r1)])) rfl rfl (hb hby D20_19.1) _ k) ?_
  have c13_O := (c9_O.keep K8 (allS gn_r1 all0))
  obtain ⟨_, _, ⟨T12, L12, k12, n12⟩, -, X12, ⟨Lc12, hQ12, l12, y12, z12⟩, st12⟩ := Jvm.LawKit.callS X8 hx (y := (⟨"java/lang/StringUTF16", "putChar", "([BII)V"⟩ : MethodName)) hown (mvT hZ (own_wd hw (i := 97) rfl)) (mvT hZ (own_wd hw (i := 98) rfl)) (mvT hZ (own_wd hw (i := 72) rfl)) (mvT hZ (own_wd hw (i := 99) rfl)) (by decide) (backOf (W := 0) (rs_pc32 l Z a0 hw [] r1 c2 kr1 (.int (own_lo c0)) (.int (own_hi c0)) (.int (own_lo c1)) (.int (own_hi c1)) (.int (0 : Int32)) (.int (0 : Int32)) cs vf T8.heap n0 (own_leN (by omega)) hST0 c13_O gn_r1 Vp8) hZ (own_wd hw (i := 99) rfl) (own_wd hw (i := 72) rfl) (by decide) (by decide)) (g := (mkF m 20 #[.val (.ref ca), .val (.int (2 : Int32)), .val (.int (3 : Int32)), .val (.ref r1), .val (.int (2 : Int32))] [(.int c2), (.int (2 : Int32)), (.ref r1)])) rfl (by rw [hml]; rfl) (argsL := [(.ref r1), (.int (2 : Int32)), (.int c2)]) (rest := []) (lenOf pd__40_91BII_41V rfl) rfl (by show 2 * 0 + _ ≤ _; exact Nat.le_of_eq rfl) (hb hby D20_20.1) (fun _ _ => ⟨rfl, rfl, (by decide : 1 + 0 ≤ _), (by decide : 6 + 0 ≤ _)⟩)
  dsimp only [Pt.U, Pt.locs, Pt.cells, Pt.slots] at X12 l12 y12 z12 st12 hQ12
  subst l12 y12 z12
  obtain ⟨rfl, N12q, K12, Vp12⟩ := hQ12
  have sz12 := own_leN K12.1
  have N12 := Fr.app N8 N12q
  refine own_pre (A' := T12.setTop (mkF m 23 #[.val (.ref ca), .val (.int (2 : Int32)), .val (.int (3 : Int32)), .val (.ref r1), .val (.int (2 : Int32))] [])) st12 ?_
  refine o_iinc X12 hx hby D20_23 rfl (l' := #[.val (.ref ca), .val (.int ((2 : Int32) + (1 : Int32))), .val (.int (3 : Int32)), .val (.ref r1), .val (.int (2 : Int32))]) rfl ?_
  rw [(by decide : ((2 : Int32) + (1 : Int32)) = (3 : Int32))]
  refine o_iinc X12 hx hby D20_26 rfl (l' := #[.val (.ref ca), .val (.int (3 : Int32)), .val (.int (3 : Int32)), .val (.ref r1), .val (.int ((2 : Int32) + (1 : Int32)))]) rfl ?_
  rw [(by decide : ((2 : Int32) + (1 : Int32)) = (3 : Int32))]
  refine o_goto X12 hx hby D20_29 (q := 8) (by decide) (by decide) ?_
  refine o_iload X12 hx hby D20_8 rfl ?_
  refine o_iloadN X12 hx hby D20_10 rfl ?_
  refine o_icmpY X12 hx hby D20_11 (flt (by decide : ¬ ((3 : Int32) < (3 : Int32)))).2.1 (q := 32) (by decide) (by decide) ?_
  refine o_aloadN X12 hx hby D20_32 rfl rfl ?_
  have KK : Keep h0 T12.heap [] := (((((Keep.refl h0 []).trans K1 all0).trans K4 (allS (Or.inr (own_leN (by omega))) all0)).trans K8 (allS (Or.inr (own_leN (by omega))) all0)).trans K12 (allS (Or.inr (own_leN (by omega))) all0))
  exact own_ret (v := some (.ref r1)) X12 (fun h => by first | rfl | (rw [Bd.returns] at h; cases h)) (BodyLoose.notSynchronized Bd) (by decide) (by decide) (⟨r1, kr1, rfl, N12, KK, own_leN (by omega), Vp12⟩) (fun fs hr => retOut X12 hx Bd.returns rfl (Or.inr (Or.inr (Or.inr (Or.inr ⟨rfl, rfl, rfl⟩)))) (hb hby D20_33.1) hr)
def own_Q53 (Z : State) (dst : Addr) (kd : ClassId) (c0 c1 c2 : Int32) (h0 : Heap) (n0 : Nat) (v : Option Value) (h : Heap) (L : List Loc) : Prop := Fr n0 L ∧ Keep h0 h [dst] ∧ ((v = some (.int (3 : Int32)) ∧ (¬ ((255 : Int32) < c0)) ∧ (¬ ((255 : Int32) < c1)) ∧ (¬ ((255 : Int32) < c2)) ∧ Arv Z h dst kd .byte (3 : Int32) [(.int (own_l8 c0)), (.int (own_l8 c1)), (.int (own_l8 c2))] (.int (0 : Int32))) ∨ (v = some (.int (0 : Int32)) ∧ (255 : Int32) < c0) ∨ (v = some (.int (1 : Int32)) ∧ (255 : Int32) < c1) ∨ (v = some (.int (2 : Int32)) ∧ (255 : Int32) < c2))
theorem ef_rs_c53 (m : MethodId) (ca : Addr) (dst : Addr) : entryFrame m #[(.ref ca), (.int (0 : Int32)), (.ref dst), (.int (0 : Int32)), (.int (3 : Int32))] 7 = mkF m 0 #[.val (.ref ca), .val (.int (0 : Int32)), .val (.ref dst), .val (.int (0 : Int32)), .val (.int (3 : Int32)), .unset, .unset] [] := by first | (simp [entryFrame, mkF, argsToLocals, Value.category]; done) | rfl
set_option maxRecDepth 65536 in
set_option maxHeartbeats 40000000 in
theorem rs_c53 (l : Launch) (Z : State) (a0 : Array Value) (hw : ∀ d ∈ tables_1, d.before a0 Z = true) (ws : List Jvm.Cond) (ca : Addr) (dst : Addr) (kc kd : ClassId) (c0 c1 c2 : Int32) (h0 : Heap) (n0 : Nat) (Z0 : n0 ≤ h0.size) (Vc : Arv Z h0 ca kc .char (3 : Int32) [(.int c0), (.int c1), (.int c2)] (.int (0 : Int32))) (Vd : Arv Z h0 dst kd .byte (3 : Int32) [(.int (0 : Int32)), (.int (0 : Int32)), (.int (0 : Int32))] (.int (0 : Int32))) (gn_dst : n0 ≤ dst) (ncd : @LT.lt Nat instLTNat ca dst) :
    MetFree l (⟨"java/lang/StringUTF16", "compress", "([CI[BII)I"⟩ : MethodName) (head1 (Jvm.Cond.code (⟨"java/lang/StringUTF16", "compress", "([CI[BII)I"⟩ : MethodName) jdk_52_method_21_code 7 (some .int) :: ws) ({ frames := 0, cells := 0, slots := 0, locals := 0 } : Room)) (fun a U => a = #[(.ref ca), (.int (0 : Int32)), (.ref dst), (.int (0 : Int32)), (.int (3 : Int32))] ∧ Z.Warmed39 U.vm ∧ U.heap = h0) (fun _ _ _ _ _ => True) (fun _ U o U' => ∃ v L, o = .returned v ∧ own_Q53 Z dst kd c0 c1 c2 h0 n0 v U'.heap L ∧ FrameEnd U o U' L ({ frames := 0, cells := 0, slots := 0, locals := 0 } : Room).cells ({ frames := 0, cells := 0, slots := 0, locals := 0 } : Room).slots) := by
  refine MetFree.of_bodySF (plainFor_of_name pn_java_lang_StringUTF16) hisR ?_
  intro p e s m args below meth c s₁ Bd hml0 hP hK
  obtain ⟨rfl, hZ, hh⟩ := hP
  have hx := Bd.exec
  have hby := Bd.bytes
  have hml : c.maxLocals = 7 := hml0
  have hown : s.vm.findClass "java/lang/StringUTF16" = some m.cls := findClass_of_methodNamed Bd.named
  have hnm := (name_of_methodNamed Bd.named Bd.method).1
  have X0 : Stand p l e ({ frames := 0, cells := 0, slots := 0, locals := 0 } : Room) s m #[(.ref ca), (.int (0 : Int32)), (.ref dst), (.int (0 : Int32)), (.int (3 : Int32))] below meth c s₁ [] 0 0 := Stand.of_body Bd
  have e0 : s₁.heap = h0 := by rw [← hh, Bd.state]; rfl
  have N0 := Fr.nil n0
  refine own_start (ef_rs_c53 m ca dst) ?_
  have lt_ca := own_ltN Vc.lt
  have lt_dst := own_ltN Vd.lt
  refine o_iconst X0 hx hby D16_0 (v := 0) rfl ?_
  refine o_istore X0 hx hby D16_1 (l' := #[.val (.ref ca), .val (.int (0 : Int32)), .val (.ref dst), .val (.int (0 : Int32)), .val (.int (3 : Int32)), .val (.int (0 : Int32)), .unset]) rfl ?_
  refine o_iload X0 hx hby D16_3 rfl ?_
  refine o_iload X0 hx hby D16_5 rfl ?_
  refine o_icmpN X0 hx hby D16_7 (tlt (by decide : (0 : Int32) < (3 : Int32))).2.1 ?_
  refine o_aloadN X0 hx hby D16_10 rfl rfl ?_
  refine o_iloadN X0 hx hby D16_11 rfl ?_
  obtain ⟨cl_ca_1, Ar_ca_1, q_ca_1, S_ca_1, N_ca_1, H_ca_1, G_ca_1⟩ := id Vc
  have hin_ca_1 : ¬ ((0 : Int32) < 0 ∨ cl_ca_1.slots.size ≤ ((0 : Int32)).toNatClampNeg) := inb_of S_ca_1 ⟨by decide, by decide⟩
  have hat_ca_1 : cl_ca_1.slots[((0 : Int32)).toNatClampNeg]? = some (.int c0) := H_ca_1.at hin_ca_1 (rfl)
  refine own_pre (A' := s₁.setTop (mkF m 13 #[.val (.ref ca), .val (.int (0 : Int32)), .val (.ref dst), .val (.int (0 : Int32)), .val (.int (3 : Int32)), .val (.int (0 : Int32)), .unset] [(.int c0)])) (fun t k => X0.caload hx (j := (0 : Int32)) (v := (.int c0)) (by rw [e0]; exact Ar_ca_1.1) (State.isArrayOf_alike hZ.alike Ar_ca_1.2.1) Ar_ca_1.2.2 hin_ca_1 hat_ca_1 (g := (mkF m 12 #[.val (.ref ca), .val (.int (0 : Int32)), .val (.ref dst), .val (.int (0 : Int32)), .val (.int (3 : Int32)), .val (.int (0 : Int32)), .unset] [(.int (0 : Int32)), (.ref ca)])) rfl rfl (hb hby D16_12.1) _ k) ?_
  refine o_istore X0 hx hby D16_13 (l' := #[.val (.ref ca), .val (.int (0 : Int32)), .val (.ref dst), .val (.int (0 : Int32)), .val (.int (3 : Int32)), .val (.int (0 : Int32)), .val (.int c0)]) rfl ?_
  refine o_iload X0 hx hby D16_15 rfl ?_
  refine o_sipush X0 hx hby D16_17 (v := 255) rfl ?_
  by_cases hc20_2 : (255 : Int32) < c0
  · skip
    refine o_icmpN X0 hx hby D16_20 (tlt hc20_2).2.2.2 ?_
    refine o_iload X0 hx hby D16_23 rfl ?_
    have KK : Keep h0 h0 [dst] := (Keep.refl h0 [dst])
    exact own_ret (v := some (.int (0 : Int32))) X0 (fun h => by first | rfl | (rw [Bd.returns] at h; cases h)) (BodyLoose.notSynchronized Bd) (by decide) (by decide) (by rw [e0]; exact ⟨N0, KK, (Or.inr (Or.inl ⟨rfl, hc20_2⟩))⟩) (fun fs hr => retI X0 hx Bd.returns (hb hby D16_25.1) hr)
  · skip
    refine o_icmpY X0 hx hby D16_20 (flt hc20_2).2.2.2 (q := 26) (by decide) (by decide) ?_
    refine o_aloadN X0 hx hby D16_26 rfl rfl ?_
    refine o_iloadN X0 hx hby D16_27 rfl ?_
    refine o_iload X0 hx hby D16_28 rfl ?_
    refine o_i2b X0 hx hby D16_30 ?_
    obtain ⟨cl_dst_3, Ar_dst_3, q_dst_3, S_dst_3, N_dst_3, H_dst_3, G_dst_3⟩ := id Vd
    have hin_dst_3 : ¬ ((0 : Int32) < 0 ∨ cl_dst_3.slots.size ≤ ((0 : Int32)).toNatClampNeg) := inb_of S_dst_3 ⟨by decide, by decide⟩
    obtain ⟨T3, h3, X3, e3, W3, st3⟩ := stB X0 hx hZ e0 Ar_dst_3 (j := (0 : Int32)) hin_dst_3 (g := (mkF m 31 #[.val (.ref ca), .val (.int (0 : Int32)), .val (.ref dst), .val (.int (0 : Int32)), .val (.int (3 : Int32)), .val (.int (0 : Int32)), .val (.int c0)] [(.int ((c0).toInt8.toInt32)), (.int (0 : Int32)), (.ref dst)])) rfl rfl (hb hby D16_31.1)
    have V_dst_3 : Arv Z h3 dst kd .byte (3 : Int32) [(.int (nar .byte ((c0).toInt8.toInt32))), (.int (0 : Int32)), (.int (0 : Int32))] (.int (0 : Int32)) := Arv.set Ar_dst_3 q_dst_3 S_dst_3 N_dst_3 H_dst_3 G_dst_3 (fits_nar_byte _) W3 0 rfl (Nat.le_of_ble_eq_true rfl)
    have sz3 := own_leN (Keep.of_wr W3).1
    have N3 := Fr.snoc X3 N0 gn_dst
    refine own_pre (A' := T3.setTop (mkF m 32 #[.val (.ref ca), .val (.int (0 : Int32)), .val (.ref dst), .val (.int (0 : Int32)), .val (.int (3 : Int32)), .val (.int (0 : Int32)), .val (.int c0)] [])) st3 ?_
    refine o_iinc X3 hx hby D16_32 rfl (l' := #[.val (.ref ca), .val (.int ((0 : Int32) + (1 : Int32))), .val (.ref dst), .val (.int (0 : Int32)), .val (.int (3 : Int32)), .val (.int (0 : Int32)), .val (.int c0)]) rfl ?_
    rw [(by decide : ((0 : Int32) + (1 : Int32)) = (1 : Int32))]
    refine o_iinc X3 hx hby D16_35 rfl (l' := #[.val (.ref ca), .val (.int (1 : Int32)), .val (.ref dst), .val (.int ((0 : Int32) + (1 : Int32))), .val (.int (3 : Int32)), .val (.int (0 : Int32)), .val (.int c0)]) rfl ?_
    rw [(by decide : ((0 : Int32) + (1 : Int32)) = (1 : Int32))]
    refine o_iinc X3 hx hby D16_38 rfl (l' := #[.val (.ref ca), .val (.int (1 : Int32)), .val (.ref dst), .val (.int (1 : Int32)), .val (.int (3 : Int32)), .val (.int ((0 : Int32) + (1 : Int32))), .val (.int c0)]) rfl ?_
    rw [(by decide : ((0 : Int32) + (1 : Int32)) = (1 : Int32))]
    refine o_goto X3 hx hby D16_41 (q := 3) (by decide) (by decide) ?_
    refine o_iload X3 hx hby D16_3 rfl ?_
    refine o_iload X3 hx hby D16_5 rfl ?_
    refine o_icmpN X3 hx hby D16_7 (tlt (by decide : (1 : Int32) < (3 : Int32))).2.1 ?_
    refine o_aloadN X3 hx hby D16_10 rfl rfl ?_
    refine o_iloadN X3 hx hby D16_11 rfl ?_
    have c5_V_ca := (Vc.other W3 (by first | exact own_neN (by omega) | exact own_neN' (by omega) | assumption))
    obtain ⟨cl_ca_4, Ar_ca_4, q_ca_4, S_ca_4, N_ca_4, H_ca_4, G_ca_4⟩ := id c5_V_ca
    have hin_ca_4 : ¬ ((1 : Int32) < 0 ∨ cl_ca_4.slots.size ≤ ((1 : Int32)).toNatClampNeg) := inb_of S_ca_4 ⟨by decide, by decide⟩
    have hat_ca_4 : cl_ca_4.slots[((1 : Int32)).toNatClampNeg]? = some (.int c1) := H_ca_4.at hin_ca_4 (rfl)
    refine own_pre (A' := T3.setTop (mkF m 13 #[.val (.ref ca), .val (.int (1 : Int32)), .val (.ref dst), .val (.int (1 : Int32)), .val (.int (3 : Int32)), .val (.int (1 : Int32)), .val (.int c0)] [(.int c1)])) (fun t k => X3.caload hx (j := (1 : Int32)) (v := (.int c1)) (by rw [e3]; exact Ar_ca_4.1) (State.isArrayOf_alike hZ.alike Ar_ca_4.2.1) Ar_ca_4.2.2 hin_ca_4 hat_ca_4 (g := (mkF m 12 #[.val (.ref ca), .val (.int (1 : Int32)), .val (.ref dst), .val (.int (1 : Int32)), .val (.int (3 : Int32)), .val (.int (1 : Int32)), .val (.int c0)] [(.int (1 : Int32)), (.ref ca)])) rfl rfl (hb hby D16_12.1) _ k) ?_
    refine o_istore X3 hx hby D16_13 (l' := #[.val (.ref ca), .val (.int (1 : Int32)), .val (.ref dst), .val (.int (1 : Int32)), .val (.int (3 : Int32)), .val (.int (1 : Int32)), .val (.int c1)]) rfl ?_
    refine o_iload X3 hx hby D16_15 rfl ?_
    refine o_sipush X3 hx hby D16_17 (v := 255) rfl ?_
    by_cases hc20_6 : (255 : Int32) < c1
    · skip
      refine o_icmpN X3 hx hby D16_20 (tlt hc20_6).2.2.2 ?_
      refine o_iload X3 hx hby D16_23 rfl ?_
      have KK : Keep h0 h3 [dst] := ((Keep.refl h0 [dst]).wr W3 (Or.inl (by simp)))
      exact own_ret (v := some (.int (1 : Int32))) X3 (fun h => by first | rfl | (rw [Bd.returns] at h; cases h)) (BodyLoose.notSynchronized Bd) (by decide) (by decide) (by rw [e3]; exact ⟨N3, KK, (Or.inr (Or.inr (Or.inl ⟨rfl, hc20_6⟩)))⟩) (fun fs hr => retI X3 hx Bd.returns (hb hby D16_25.1) hr)
    · skip
      refine o_icmpY X3 hx hby D16_20 (flt hc20_6).2.2.2 (q := 26) (by decide) (by decide) ?_
      refine o_aloadN X3 hx hby D16_26 rfl rfl ?_
      refine o_iloadN X3 hx hby D16_27 rfl ?_
      refine o_iload X3 hx hby D16_28 rfl ?_
      refine o_i2b X3 hx hby D16_30 ?_
      obtain ⟨cl_dst_7, Ar_dst_7, q_dst_7, S_dst_7, N_dst_7, H_dst_7, G_dst_7⟩ := id V_dst_3
      have hin_dst_7 : ¬ ((1 : Int32) < 0 ∨ cl_dst_7.slots.size ≤ ((1 : Int32)).toNatClampNeg) := inb_of S_dst_7 ⟨by decide, by decide⟩
      obtain ⟨T7, h7, X7, e7, W7, st7⟩ := stB X3 hx hZ e3 Ar_dst_7 (j := (1 : Int32)) hin_dst_7 (g := (mkF m 31 #[.val (.ref ca), .val (.int (1 : Int32)), .val (.ref dst), .val (.int (1 : Int32)), .val (.int (3 : Int32)), .val (.int (1 : Int32)), .val (.int c1)] [(.int ((c1).toInt8.toInt32)), (.int (1 : Int32)), (.ref dst)])) rfl rfl (hb hby D16_31.1)
      have V_dst_7 : Arv Z h7 dst kd .byte (3 : Int32) [(.int (nar .byte ((c0).toInt8.toInt32))), (.int (nar .byte ((c1).toInt8.toInt32))), (.int (0 : Int32))] (.int (0 : Int32)) := Arv.set Ar_dst_7 q_dst_7 S_dst_7 N_dst_7 H_dst_7 G_dst_7 (fits_nar_byte _) W7 1 rfl (Nat.le_of_ble_eq_true rfl)
      have sz7 := own_leN (Keep.of_wr W7).1
      have N7 := Fr.snoc X7 N3 gn_dst
      refine own_pre (A' := T7.setTop (mkF m 32 #[.val (.ref ca), .val (.int (1 : Int32)), .val (.ref dst), .val (.int (1 : Int32)), .val (.int (3 : Int32)), .val (.int (1 : Int32)), .val (.int c1)] [])) st7 ?_
      refine o_iinc X7 hx hby D16_32 rfl (l' := #[.val (.ref ca), .val (.int ((1 : Int32) + (1 : Int32))), .val (.ref dst), .val (.int (1 : Int32)), .val (.int (3 : Int32)), .val (.int (1 : Int32)), .val (.int c1)]) rfl ?_
      rw [(by decide : ((1 : Int32) + (1 : Int32)) = (2 : Int32))]
      refine o_iinc X7 hx hby D16_35 rfl (l' := #[.val (.ref ca), .val (.int (2 : Int32)), .val (.ref dst), .val (.int ((1 : Int32) + (1 : Int32))), .val (.int (3 : Int32)), .val (.int (1 : Int32)), .val (.int c1)]) rfl ?_
      rw [(by decide : ((1 : Int32) + (1 : Int32)) = (2 : Int32))]
      refine o_iinc X7 hx hby D16_38 rfl (l' := #[.val (.ref ca), .val (.int (2 : Int32)), .val (.ref dst), .val (.int (2 : Int32)), .val (.int (3 : Int32)), .val (.int ((1 : Int32) + (1 : Int32))), .val (.int c1)]) rfl ?_
      rw [(by decide : ((1 : Int32) + (1 : Int32)) = (2 : Int32))]
      refine o_goto X7 hx hby D16_41 (q := 3) (by decide) (by decide) ?_
      refine o_iload X7 hx hby D16_3 rfl ?_
      refine o_iload X7 hx hby D16_5 rfl ?_
      refine o_icmpN X7 hx hby D16_7 (tlt (by decide : (2 : Int32) < (3 : Int32))).2.1 ?_
      refine o_aloadN X7 hx hby D16_10 rfl rfl ?_
      refine o_iloadN X7 hx hby D16_11 rfl ?_
      have c9_V_ca := (c5_V_ca.other W7 (by first | exact own_neN (by omega) | exact own_neN' (by omega) | assumption))
      obtain ⟨cl_ca_8, Ar_ca_8, q_ca_8, S_ca_8, N_ca_8, H_ca_8, G_ca_8⟩ := id c9_V_ca
      have hin_ca_8 : ¬ ((2 : Int32) < 0 ∨ cl_ca_8.slots.size ≤ ((2 : Int32)).toNatClampNeg) := inb_of S_ca_8 ⟨by decide, by decide⟩
      have hat_ca_8 : cl_ca_8.slots[((2 : Int32)).toNatClampNeg]? = some (.int c2) := H_ca_8.at hin_ca_8 (rfl)
      refine own_pre (A' := T7.setTop (mkF m 13 #[.val (.ref ca), .val (.int (2 : Int32)), .val (.ref dst), .val (.int (2 : Int32)), .val (.int (3 : Int32)), .val (.int (2 : Int32)), .val (.int c1)] [(.int c2)])) (fun t k => X7.caload hx (j := (2 : Int32)) (v := (.int c2)) (by rw [e7]; exact Ar_ca_8.1) (State.isArrayOf_alike hZ.alike Ar_ca_8.2.1) Ar_ca_8.2.2 hin_ca_8 hat_ca_8 (g := (mkF m 12 #[.val (.ref ca), .val (.int (2 : Int32)), .val (.ref dst), .val (.int (2 : Int32)), .val (.int (3 : Int32)), .val (.int (2 : Int32)), .val (.int c1)] [(.int (2 : Int32)), (.ref ca)])) rfl rfl (hb hby D16_12.1) _ k) ?_
      refine o_istore X7 hx hby D16_13 (l' := #[.val (.ref ca), .val (.int (2 : Int32)), .val (.ref dst), .val (.int (2 : Int32)), .val (.int (3 : Int32)), .val (.int (2 : Int32)), .val (.int c2)]) rfl ?_
      refine o_iload X7 hx hby D16_15 rfl ?_
      refine o_sipush X7 hx hby D16_17 (v := 255) rfl ?_
      by_cases hc20_10 : (255 : Int32) < c2
      · skip
        refine o_icmpN X7 hx hby D16_20 (tlt hc20_10).2.2.2 ?_
        refine o_iload X7 hx hby D16_23 rfl ?_
        have KK : Keep h0 h7 [dst] := (((Keep.refl h0 [dst]).wr W3 (Or.inl (by simp))).wr W7 (Or.inl (by simp)))
        exact own_ret (v := some (.int (2 : Int32))) X7 (fun h => by first | rfl | (rw [Bd.returns] at h; cases h)) (BodyLoose.notSynchronized Bd) (by decide) (by decide) (by rw [e7]; exact ⟨N7, KK, (Or.inr (Or.inr (Or.inr ⟨rfl, hc20_10⟩)))⟩) (fun fs hr => retI X7 hx Bd.returns (hb hby D16_25.1) hr)
      · skip
        refine o_icmpY X7 hx hby D16_20 (flt hc20_10).2.2.2 (q := 26) (by decide) (by decide) ?_
        refine o_aloadN X7 hx hby D16_26 rfl rfl ?_
        refine o_iloadN X7 hx hby D16_27 rfl ?_
        refine o_iload X7 hx hby D16_28 rfl ?_
        refine o_i2b X7 hx hby D16_30 ?_
        obtain ⟨cl_dst_11, Ar_dst_11, q_dst_11, S_dst_11, N_dst_11, H_dst_11, G_dst_11⟩ := id V_dst_7
        have hin_dst_11 : ¬ ((2 : Int32) < 0 ∨ cl_dst_11.slots.size ≤ ((2 : Int32)).toNatClampNeg) := inb_of S_dst_11 ⟨by decide, by decide⟩
        obtain ⟨T11, h11, X11, e11, W11, st11⟩ := stB X7 hx hZ e7 Ar_dst_11 (j := (2 : Int32)) hin_dst_11 (g := (mkF m 31 #[.val (.ref ca), .val (.int (2 : Int32)), .val (.ref dst), .val (.int (2 : Int32)), .val (.int (3 : Int32)), .val (.int (2 : Int32)), .val (.int c2)] [(.int ((c2).toInt8.toInt32)), (.int (2 : Int32)), (.ref dst)])) rfl rfl (hb hby D16_31.1)
        have V_dst_11 : Arv Z h11 dst kd .byte (3 : Int32) [(.int (nar .byte ((c0).toInt8.toInt32))), (.int (nar .byte ((c1).toInt8.toInt32))), (.int (nar .byte ((c2).toInt8.toInt32)))] (.int (0 : Int32)) := Arv.set Ar_dst_11 q_dst_11 S_dst_11 N_dst_11 H_dst_11 G_dst_11 (fits_nar_byte _) W11 2 rfl (Nat.le_of_ble_eq_true rfl)
        have sz11 := own_leN (Keep.of_wr W11).1
        have N11 := Fr.snoc X11 N7 gn_dst
        refine own_pre (A' := T11.setTop (mkF m 32 #[.val (.ref ca), .val (.int (2 : Int32)), .val (.ref dst), .val (.int (2 : Int32)), .val (.int (3 : Int32)), .val (.int (2 : Int32)), .val (.int c2)] [])) st11 ?_
        refine o_iinc X11 hx hby D16_32 rfl (l' := #[.val (.ref ca), .val (.int ((2 : Int32) + (1 : Int32))), .val (.ref dst), .val (.int (2 : Int32)), .val (.int (3 : Int32)), .val (.int (2 : Int32)), .val (.int c2)]) rfl ?_
        rw [(by decide : ((2 : Int32) + (1 : Int32)) = (3 : Int32))]
        refine o_iinc X11 hx hby D16_35 rfl (l' := #[.val (.ref ca), .val (.int (3 : Int32)), .val (.ref dst), .val (.int ((2 : Int32) + (1 : Int32))), .val (.int (3 : Int32)), .val (.int (2 : Int32)), .val (.int c2)]) rfl ?_
        rw [(by decide : ((2 : Int32) + (1 : Int32)) = (3 : Int32))]
        refine o_iinc X11 hx hby D16_38 rfl (l' := #[.val (.ref ca), .val (.int (3 : Int32)), .val (.ref dst), .val (.int (3 : Int32)), .val (.int (3 : Int32)), .val (.int ((2 : Int32) + (1 : Int32))), .val (.int c2)]) rfl ?_
        rw [(by decide : ((2 : Int32) + (1 : Int32)) = (3 : Int32))]
        refine o_goto X11 hx hby D16_41 (q := 3) (by decide) (by decide) ?_
        refine o_iload X11 hx hby D16_3 rfl ?_
        refine o_iload X11 hx hby D16_5 rfl ?_
        refine o_icmpY X11 hx hby D16_7 (flt (by decide : ¬ ((3 : Int32) < (3 : Int32)))).2.1 (q := 44) (by decide) (by decide) ?_
        refine o_iload X11 hx hby D16_44 rfl ?_
        have KK : Keep h0 h11 [dst] := ((((Keep.refl h0 [dst]).wr W3 (Or.inl (by simp))).wr W7 (Or.inl (by simp))).wr W11 (Or.inl (by simp)))
        have VV : Arv Z h11 dst kd .byte (3 : Int32) [(.int (own_l8 c0)), (.int (own_l8 c1)), (.int (own_l8 c2))] (.int (0 : Int32)) := V_dst_11
        exact own_ret (v := some (.int (3 : Int32))) X11 (fun h => by first | rfl | (rw [Bd.returns] at h; cases h)) (BodyLoose.notSynchronized Bd) (by decide) (by decide) (by rw [e11]; exact ⟨N11, KK, (Or.inl ⟨rfl, hc20_2, hc20_6, hc20_10, VV⟩)⟩) (fun fs hr => retI X11 hx Bd.returns (hb hby D16_46.1) hr)
def own_Q33 (Z : State) (c0 c1 c2 : Int32) (h0 : Heap) (n0 : Nat) (v : Option Value) (h : Heap) (L : List Loc) : Prop := ∃ (r : Nat) (kr : ClassId), v = some (.ref r) ∧ Fr n0 L ∧ Keep h0 h [] ∧ h0.size ≤ r ∧ (((¬ ((255 : Int32) < c0)) ∧ (¬ ((255 : Int32) < c1)) ∧ (¬ ((255 : Int32) < c2)) ∧ Arv Z h r kr .byte (3 : Int32) [(.int (own_l8 c0)), (.int (own_l8 c1)), (.int (own_l8 c2))] (.int (0 : Int32))) ∨ Arv Z h r kr .byte (6 : Int32) [(.int (own_lo c0)), (.int (own_hi c0)), (.int (own_lo c1)), (.int (own_hi c1)), (.int (own_lo c2)), (.int (own_hi c2))] (.int (0 : Int32)))
theorem ef_rs_c33 (m : MethodId) (ca : Addr) : entryFrame m #[(.ref ca), (.int (0 : Int32)), (.int (3 : Int32))] 6 = mkF m 0 #[.val (.ref ca), .val (.int (0 : Int32)), .val (.int (3 : Int32)), .unset, .unset, .unset] [] := by first | (simp [entryFrame, mkF, argsToLocals, Value.category]; done) | rfl
set_option maxRecDepth 65536 in
set_option maxHeartbeats 40000000 in
theorem rs_c33 (l : Launch) (Z : State) (a0 : Array Value) (hw : ∀ d ∈ tables_1, d.before a0 Z = true) (ws : List Jvm.Cond) (ca : Addr) (kc : ClassId) (c0 c1 c2 : Int32) (cs : Int32) (vf : Value) (h0 : Heap) (n0 : Nat) (Z0 : n0 ≤ h0.size) (hST : own_ST Z cs vf) (O0 : Old Z n0 h0) (Vc : Arv Z h0 ca kc .char (3 : Int32) [(.int c0), (.int c1), (.int c2)] (.int (0 : Int32))) (hc0 : own_ch16 c0) (hc1 : own_ch16 c1) (hc2 : own_ch16 c2) :
    MetFree l (⟨"java/lang/StringUTF16", "compress", "([CII)[B"⟩ : MethodName) (head1 (Jvm.Cond.code (⟨"java/lang/StringUTF16", "compress", "([CII)[B"⟩ : MethodName) jdk_52_method_16_code 6 (some (.array .byte)) :: ws) ({ frames := 3, cells := 2, slots := 9, locals := 40 } : Room)) (fun a U => a = #[(.ref ca), (.int (0 : Int32)), (.int (3 : Int32))] ∧ Z.Warmed39 U.vm ∧ U.heap = h0) (fun _ _ _ _ _ => True) (fun _ U o U' => ∃ v L, o = .returned v ∧ own_Q33 Z c0 c1 c2 h0 n0 v U'.heap L ∧ FrameEnd U o U' L ({ frames := 3, cells := 2, slots := 9, locals := 40 } : Room).cells ({ frames := 3, cells := 2, slots := 9, locals := 40 } : Room).slots) := by
  refine MetFree.of_bodySF (plainFor_of_name pn_java_lang_StringUTF16) hisR ?_
  intro p e s m args below meth c s₁ Bd hml0 hP hK
  obtain ⟨rfl, hZ, hh⟩ := hP
  have hx := Bd.exec
  have hby := Bd.bytes
  have hml : c.maxLocals = 6 := hml0
  have hown : s.vm.findClass "java/lang/StringUTF16" = some m.cls := findClass_of_methodNamed Bd.named
  have hnm := (name_of_methodNamed Bd.named Bd.method).1
  have X0 : Stand p l e ({ frames := 3, cells := 2, slots := 9, locals := 40 } : Room) s m #[(.ref ca), (.int (0 : Int32)), (.int (3 : Int32))] below meth c s₁ [] 0 0 := Stand.of_body Bd
  have e0 : s₁.heap = h0 := by rw [← hh, Bd.state]; rfl
  have N0 := Fr.nil n0
  refine own_start (ef_rs_c33 m ca) ?_
  have hST0 := hST
  obtain ⟨S_cs, S_ad, S_hb, S_lb, S_sf, hcs, hvf⟩ := hST
  have lt_ca := own_ltN Vc.lt
  refine o_iloadN X0 hx hby D15_0 rfl ?_
  obtain ⟨T1, h1, k1, X1, e1, E1, A1, Ex1, st1⟩ := newPE X0 hx hZ (own_wd hw (i := 19) rfl) e0 (g := (mkF m 1 #[.val (.ref ca), .val (.int (0 : Int32)), .val (.int (3 : Int32)), .unset, .unset, .unset] [(.int (3 : Int32))])) rfl (hb hby D15_1.1) rfl (by decide) (cap := 3) (by decide) (by decide) (by decide) (by decide) (ad := "[B") (by first | rfl | decide)
  obtain ⟨b1, g1⟩ : ∃ z : Nat, z = h0.size := ⟨_, rfl⟩
  rw [← g1] at A1 Ex1 st1
  have sz1 := own_leN E1.1
  have gn_b1 : n0 ≤ b1 := by omega
  have V_b1 : Arv Z h1 b1 k1 .byte (3 : Int32) [(.int (0 : Int32)), (.int (0 : Int32)), (.int (0 : Int32))] (.int (0 : Int32)) := (Arv.new A1 (by decide)).pad (pad_rep [] (.int (0 : Int32)) 3)
  have lt_b1 := own_ltN V_b1.lt
  refine own_pre (A' := T1.setTop (mkF m 3 #[.val (.ref ca), .val (.int (0 : Int32)), .val (.int (3 : Int32)), .unset, .unset, .unset] [(.ref b1)])) st1 ?_
  refine o_astoreN X1 hx hby D15_3 rfl (l' := #[.val (.ref ca), .val (.int (0 : Int32)), .val (.int (3 : Int32)), .val (.ref b1), .unset, .unset]) rfl ?_
  refine o_aloadN X1 hx hby D15_4 rfl rfl ?_
  refine o_iloadN X1 hx hby D15_5 rfl ?_
  refine o_aloadN X1 hx hby D15_6 rfl rfl ?_
  refine o_iconst X1 hx hby D15_7 (v := 0) rfl ?_
  refine o_iloadN X1 hx hby D15_8 rfl ?_
  have c3_V_ca := (Vc.ext E1)
  obtain ⟨_, _, ⟨T2, L2, k2, n2⟩, -, X2, ⟨Lc2, hQ2, l2, y2, z2⟩, st2⟩ := Jvm.LawKit.callS X1 hx (y := (⟨"java/lang/StringUTF16", "compress", "([CI[BII)I"⟩ : MethodName)) hown (mvT hZ (own_wd hw (i := 74) rfl)) (mvT hZ (own_wd hw (i := 75) rfl)) (mvT hZ (own_wd hw (i := 72) rfl)) (mvT hZ (own_wd hw (i := 76) rfl)) (by decide) (backOf (W := 0) (rs_c53 l Z a0 hw [] ca b1 kc k1 c0 c1 c2 h1 n0 (own_leN (by omega)) c3_V_ca V_b1 gn_b1 (by omega)) hZ (own_wd hw (i := 76) rfl) (own_wd hw (i := 72) rfl) (by decide) (by decide)) (g := (mkF m 9 #[.val (.ref ca), .val (.int (0 : Int32)), .val (.int (3 : Int32)), .val (.ref b1), .unset, .unset] [(.int (3 : Int32)), (.int (0 : Int32)), (.ref b1), (.int (0 : Int32)), (.ref ca)])) rfl (by rw [hml]; rfl) (argsL := [(.ref ca), (.int (0 : Int32)), (.ref b1), (.int (0 : Int32)), (.int (3 : Int32))]) (rest := []) (lenOf pd__40_91CI_91BII_41I rfl) rfl (by show 2 * 0 + _ ≤ _; exact Nat.le_of_eq rfl) (hb hby D15_9.1) (fun _ _ => ⟨rfl, e1, (by decide : 1 + 0 ≤ _), (by decide : 3 + 0 ≤ _)⟩)
  dsimp only [Pt.U, Pt.locs, Pt.cells, Pt.slots] at X2 l2 y2 z2 st2 hQ2
  subst l2 y2 z2
  obtain ⟨N2q, K2, hw2⟩ := hQ2
  have sz2 := own_leN K2.1
  have N2 := Fr.app N0 N2q
  rcases hw2 with ⟨rfl, hl0, hl1, hl2, V5⟩ | ⟨rfl, hh0⟩ | ⟨rfl, hh1⟩ | ⟨rfl, hh2⟩
  · skip
    refine own_pre (A' := T2.setTop (mkF m 12 #[.val (.ref ca), .val (.int (0 : Int32)), .val (.int (3 : Int32)), .val (.ref b1), .unset, .unset] [(.int (3 : Int32))])) st2 ?_
    refine o_istore X2 hx hby D15_12 (l' := #[.val (.ref ca), .val (.int (0 : Int32)), .val (.int (3 : Int32)), .val (.ref b1), .val (.int (3 : Int32)), .unset]) rfl ?_
    refine o_iload X2 hx hby D15_14 rfl ?_
    refine o_iloadN X2 hx hby D15_16 rfl ?_
    refine o_icmpY X2 hx hby D15_17 (teq (by decide : (3 : Int32) = (3 : Int32))).1 (q := 57) (by decide) (by decide) ?_
    refine o_aloadN X2 hx hby D15_57 rfl rfl ?_
    have KK : Keep h0 T2.heap [] := (((Keep.refl h0 []).ext E1).trans K2 (allS (Or.inr (own_leN (by omega))) all0))
    exact own_ret (v := some (.ref b1)) X2 (fun h => by first | rfl | (rw [Bd.returns] at h; cases h)) (BodyLoose.notSynchronized Bd) (by decide) (by decide) (⟨b1, k1, rfl, N2, KK, own_leN (by omega), Or.inl ⟨hl0, hl1, hl2, V5⟩⟩) (fun fs hr => retOut X2 hx Bd.returns rfl (Or.inr (Or.inr (Or.inr (Or.inr ⟨rfl, rfl, rfl⟩)))) (hb hby D15_58.1) hr)
  · skip
    refine own_pre (A' := T2.setTop (mkF m 12 #[.val (.ref ca), .val (.int (0 : Int32)), .val (.int (3 : Int32)), .val (.ref b1), .unset, .unset] [(.int (0 : Int32))])) st2 ?_
    refine o_istore X2 hx hby D15_12 (l' := #[.val (.ref ca), .val (.int (0 : Int32)), .val (.int (3 : Int32)), .val (.ref b1), .val (.int (0 : Int32)), .unset]) rfl ?_
    refine o_iload X2 hx hby D15_14 rfl ?_
    refine o_iloadN X2 hx hby D15_16 rfl ?_
    refine o_icmpN X2 hx hby D15_17 (feq (by decide : ¬ ((0 : Int32) = (3 : Int32)))).1 ?_
    refine o_aloadN X2 hx hby D15_20 rfl rfl ?_
    refine o_iloadN X2 hx hby D15_21 rfl ?_
    refine o_iloadN X2 hx hby D15_22 rfl ?_
    have c5_O := ((O0.ext E1).keep K2 (allS gn_b1 all0))
    have c6_V_ca := (c3_V_ca.keep K2 (ninS (by first | exact own_neN (by omega) | exact own_neN' (by omega) | assumption) nin0))
    obtain ⟨_, _, ⟨T4, L4, k4, n4⟩, -, X4, ⟨Lc4, hQ4, l4, y4, z4⟩, st4⟩ := Jvm.LawKit.callS X2 hx (y := (⟨"java/lang/StringUTF16", "toBytes", "([CII)[B"⟩ : MethodName)) hown (mvT hZ (own_wd hw (i := 87) rfl)) (mvT hZ (own_wd hw (i := 88) rfl)) (mvT hZ (own_wd hw (i := 72) rfl)) (mvT hZ (own_wd hw (i := 89) rfl)) (by decide) (backOf (W := 0) (rs_tb3 l Z a0 hw [] ca kc c0 c1 c2 cs vf T2.heap n0 (own_leN (by omega)) hST0 c5_O c6_V_ca) hZ (own_wd hw (i := 89) rfl) (own_wd hw (i := 72) rfl) (by decide) (by decide)) (g := (mkF m 23 #[.val (.ref ca), .val (.int (0 : Int32)), .val (.int (3 : Int32)), .val (.ref b1), .val (.int (0 : Int32)), .unset] [(.int (3 : Int32)), (.int (0 : Int32)), (.ref ca)])) rfl (by rw [hml]; rfl) (argsL := [(.ref ca), (.int (0 : Int32)), (.int (3 : Int32))]) (rest := []) (lenOf pd__40_91CII_41_91B rfl) rfl (by show 2 * 0 + _ ≤ _; exact Nat.le_of_eq rfl) (hb hby D15_23.1) (fun _ _ => ⟨rfl, rfl, (by decide : 1 + 1 ≤ _), (by decide : 3 + 6 ≤ _)⟩)
    dsimp only [Pt.U, Pt.locs, Pt.cells, Pt.slots] at X4 l4 y4 z4 st4 hQ4
    subst l4 y4 z4
    obtain ⟨r4, kr4, rfl, N4q, K4, ge4, Vr4⟩ := hQ4
    have sz4 := own_leN K4.1
    have ge4' := own_leN ge4
    have lt_r4 := own_ltN Vr4.lt
    have gn_r4 : n0 ≤ r4 := own_leN (by omega)
    have N4 := Fr.app N2 N4q
    refine own_pre (A' := T4.setTop (mkF m 26 #[.val (.ref ca), .val (.int (0 : Int32)), .val (.int (3 : Int32)), .val (.ref b1), .val (.int (0 : Int32)), .unset] [(.ref r4)])) st4 ?_
    refine o_astore X4 hx hby D15_26 rfl (l' := #[.val (.ref ca), .val (.int (0 : Int32)), .val (.int (3 : Int32)), .val (.ref b1), .val (.int (0 : Int32)), .val (.ref r4)]) rfl ?_
    refine o_aload X4 hx hby D15_28 rfl rfl ?_
    refine o_iload X4 hx hby D15_30 rfl ?_
    have c8_O := (c5_O.keep K4 all0)
    obtain ⟨_, _, ⟨T7, L7, k7, n7⟩, -, X7, ⟨Lc7, hQ7, l7, y7, z7⟩, st7⟩ := Jvm.LawKit.callS X4 hx (y := (⟨"java/lang/StringUTF16", "getChar", "([BI)C"⟩ : MethodName)) hown (mvT hZ (own_wd hw (i := 103) rfl)) (mvT hZ (own_wd hw (i := 104) rfl)) (mvT hZ (own_wd hw (i := 72) rfl)) (mvT hZ (own_wd hw (i := 105) rfl)) (by decide) (backOf (W := 0) (rs_gc30 l Z a0 hw [] r4 kr4 c0 c1 c2 cs vf T4.heap n0 (own_leN (by omega)) hST0 c8_O Vr4 hc0) hZ (own_wd hw (i := 105) rfl) (own_wd hw (i := 72) rfl) (by decide) (by decide)) (g := (mkF m 32 #[.val (.ref ca), .val (.int (0 : Int32)), .val (.int (3 : Int32)), .val (.ref b1), .val (.int (0 : Int32)), .val (.ref r4)] [(.int (0 : Int32)), (.ref r4)])) rfl (by rw [hml]; rfl) (argsL := [(.ref r4), (.int (0 : Int32))]) (rest := []) (lenOf pd__40_91BI_41C rfl) rfl (by show 2 * 0 + _ ≤ _; exact Nat.le_of_eq rfl) (hb hby D15_32.1) (fun _ _ => ⟨rfl, rfl, (by decide : 2 + 0 ≤ _), (by decide : 9 + 0 ≤ _)⟩)
    dsimp only [Pt.U, Pt.locs, Pt.cells, Pt.slots] at X7 l7 y7 z7 st7 hQ7
    subst l7 y7 z7
    obtain ⟨rfl, N7q, e7⟩ := hQ7
    have N7 := Fr.app N4 N7q
    refine own_pre (A' := T7.setTop (mkF m 35 #[.val (.ref ca), .val (.int (0 : Int32)), .val (.int (3 : Int32)), .val (.ref b1), .val (.int (0 : Int32)), .val (.ref r4)] [(.int c0)])) st7 ?_
    refine o_sipush X7 hx hby D15_35 (v := 255) rfl ?_
    refine o_icmpY X7 hx hby D15_38 (tlt (hh0 : (255 : Int32) < c0)).2.2.1 (q := 54) (by decide) (by decide) ?_
    refine o_aload X7 hx hby D15_54 rfl rfl ?_
    have KK : Keep h0 T4.heap [] := ((((Keep.refl h0 []).ext E1).trans K2 (allS (Or.inr (own_leN (by omega))) all0)).trans K4 all0)
    exact own_ret (v := some (.ref r4)) X7 (fun h => by first | rfl | (rw [Bd.returns] at h; cases h)) (BodyLoose.notSynchronized Bd) (by decide) (by decide) (by rw [e7]; exact ⟨r4, kr4, rfl, N7, KK, own_leN (by omega), Or.inr Vr4⟩) (fun fs hr => retOut X7 hx Bd.returns rfl (Or.inr (Or.inr (Or.inr (Or.inr ⟨rfl, rfl, rfl⟩)))) (hb hby D15_56.1) hr)
  · skip
    refine own_pre (A' := T2.setTop (mkF m 12 #[.val (.ref ca), .val (.int (0 : Int32)), .val (.int (3 : Int32)), .val (.ref b1), .unset, .unset] [(.int (1 : Int32))])) st2 ?_
    refine o_istore X2 hx hby D15_12 (l' := #[.val (.ref ca), .val (.int (0 : Int32)), .val (.int (3 : Int32)), .val (.ref b1), .val (.int (1 : Int32)), .unset]) rfl ?_
    refine o_iload X2 hx hby D15_14 rfl ?_
    refine o_iloadN X2 hx hby D15_16 rfl ?_
    refine o_icmpN X2 hx hby D15_17 (feq (by decide : ¬ ((1 : Int32) = (3 : Int32)))).1 ?_
    refine o_aloadN X2 hx hby D15_20 rfl rfl ?_
    refine o_iloadN X2 hx hby D15_21 rfl ?_
    refine o_iloadN X2 hx hby D15_22 rfl ?_
    have c10_O := ((O0.ext E1).keep K2 (allS gn_b1 all0))
    have c11_V_ca := (c3_V_ca.keep K2 (ninS (by first | exact own_neN (by omega) | exact own_neN' (by omega) | assumption) nin0))
    obtain ⟨_, _, ⟨T9, L9, k9, n9⟩, -, X9, ⟨Lc9, hQ9, l9, y9, z9⟩, st9⟩ := Jvm.LawKit.callS X2 hx (y := (⟨"java/lang/StringUTF16", "toBytes", "([CII)[B"⟩ : MethodName)) hown (mvT hZ (own_wd hw (i := 87) rfl)) (mvT hZ (own_wd hw (i := 88) rfl)) (mvT hZ (own_wd hw (i := 72) rfl)) (mvT hZ (own_wd hw (i := 89) rfl)) (by decide) (backOf (W := 0) (rs_tb3 l Z a0 hw [] ca kc c0 c1 c2 cs vf T2.heap n0 (own_leN (by omega)) hST0 c10_O c11_V_ca) hZ (own_wd hw (i := 89) rfl) (own_wd hw (i := 72) rfl) (by decide) (by decide)) (g := (mkF m 23 #[.val (.ref ca), .val (.int (0 : Int32)), .val (.int (3 : Int32)), .val (.ref b1), .val (.int (1 : Int32)), .unset] [(.int (3 : Int32)), (.int (0 : Int32)), (.ref ca)])) rfl (by rw [hml]; rfl) (argsL := [(.ref ca), (.int (0 : Int32)), (.int (3 : Int32))]) (rest := []) (lenOf pd__40_91CII_41_91B rfl) rfl (by show 2 * 0 + _ ≤ _; exact Nat.le_of_eq rfl) (hb hby D15_23.1) (fun _ _ => ⟨rfl, rfl, (by decide : 1 + 1 ≤ _), (by decide : 3 + 6 ≤ _)⟩)
    dsimp only [Pt.U, Pt.locs, Pt.cells, Pt.slots] at X9 l9 y9 z9 st9 hQ9
    subst l9 y9 z9
    obtain ⟨r9, kr9, rfl, N9q, K9, ge9, Vr9⟩ := hQ9
    have sz9 := own_leN K9.1
    have ge9' := own_leN ge9
    have lt_r9 := own_ltN Vr9.lt
    have gn_r9 : n0 ≤ r9 := own_leN (by omega)
    have N9 := Fr.app N2 N9q
    refine own_pre (A' := T9.setTop (mkF m 26 #[.val (.ref ca), .val (.int (0 : Int32)), .val (.int (3 : Int32)), .val (.ref b1), .val (.int (1 : Int32)), .unset] [(.ref r9)])) st9 ?_
    refine o_astore X9 hx hby D15_26 rfl (l' := #[.val (.ref ca), .val (.int (0 : Int32)), .val (.int (3 : Int32)), .val (.ref b1), .val (.int (1 : Int32)), .val (.ref r9)]) rfl ?_
    refine o_aload X9 hx hby D15_28 rfl rfl ?_
    refine o_iload X9 hx hby D15_30 rfl ?_
    have c13_O := (c10_O.keep K9 all0)
    obtain ⟨_, _, ⟨T12, L12, k12, n12⟩, -, X12, ⟨Lc12, hQ12, l12, y12, z12⟩, st12⟩ := Jvm.LawKit.callS X9 hx (y := (⟨"java/lang/StringUTF16", "getChar", "([BI)C"⟩ : MethodName)) hown (mvT hZ (own_wd hw (i := 103) rfl)) (mvT hZ (own_wd hw (i := 104) rfl)) (mvT hZ (own_wd hw (i := 72) rfl)) (mvT hZ (own_wd hw (i := 105) rfl)) (by decide) (backOf (W := 0) (rs_gc31 l Z a0 hw [] r9 kr9 c0 c1 c2 cs vf T9.heap n0 (own_leN (by omega)) hST0 c13_O Vr9 hc1) hZ (own_wd hw (i := 105) rfl) (own_wd hw (i := 72) rfl) (by decide) (by decide)) (g := (mkF m 32 #[.val (.ref ca), .val (.int (0 : Int32)), .val (.int (3 : Int32)), .val (.ref b1), .val (.int (1 : Int32)), .val (.ref r9)] [(.int (1 : Int32)), (.ref r9)])) rfl (by rw [hml]; rfl) (argsL := [(.ref r9), (.int (1 : Int32))]) (rest := []) (lenOf pd__40_91BI_41C rfl) rfl (by show 2 * 0 + _ ≤ _; exact Nat.le_of_eq rfl) (hb hby D15_32.1) (fun _ _ => ⟨rfl, rfl, (by decide : 2 + 0 ≤ _), (by decide : 9 + 0 ≤ _)⟩)
    dsimp only [Pt.U, Pt.locs, Pt.cells, Pt.slots] at X12 l12 y12 z12 st12 hQ12
    subst l12 y12 z12
    obtain ⟨rfl, N12q, e12⟩ := hQ12
    have N12 := Fr.app N9 N12q
    refine own_pre (A' := T12.setTop (mkF m 35 #[.val (.ref ca), .val (.int (0 : Int32)), .val (.int (3 : Int32)), .val (.ref b1), .val (.int (1 : Int32)), .val (.ref r9)] [(.int c1)])) st12 ?_
    refine o_sipush X12 hx hby D15_35 (v := 255) rfl ?_
    refine o_icmpY X12 hx hby D15_38 (tlt (hh1 : (255 : Int32) < c1)).2.2.1 (q := 54) (by decide) (by decide) ?_
    refine o_aload X12 hx hby D15_54 rfl rfl ?_
    have KK : Keep h0 T9.heap [] := ((((Keep.refl h0 []).ext E1).trans K2 (allS (Or.inr (own_leN (by omega))) all0)).trans K9 all0)
    exact own_ret (v := some (.ref r9)) X12 (fun h => by first | rfl | (rw [Bd.returns] at h; cases h)) (BodyLoose.notSynchronized Bd) (by decide) (by decide) (by rw [e12]; exact ⟨r9, kr9, rfl, N12, KK, own_leN (by omega), Or.inr Vr9⟩) (fun fs hr => retOut X12 hx Bd.returns rfl (Or.inr (Or.inr (Or.inr (Or.inr ⟨rfl, rfl, rfl⟩)))) (hb hby D15_56.1) hr)
  · skip
    refine own_pre (A' := T2.setTop (mkF m 12 #[.val (.ref ca), .val (.int (0 : Int32)), .val (.int (3 : Int32)), .val (.ref b1), .unset, .unset] [(.int (2 : Int32))])) st2 ?_
    refine o_istore X2 hx hby D15_12 (l' := #[.val (.ref ca), .val (.int (0 : Int32)), .val (.int (3 : Int32)), .val (.ref b1), .val (.int (2 : Int32)), .unset]) rfl ?_
    refine o_iload X2 hx hby D15_14 rfl ?_
    refine o_iloadN X2 hx hby D15_16 rfl ?_
    refine o_icmpN X2 hx hby D15_17 (feq (by decide : ¬ ((2 : Int32) = (3 : Int32)))).1 ?_
    refine o_aloadN X2 hx hby D15_20 rfl rfl ?_
    refine o_iloadN X2 hx hby D15_21 rfl ?_
    refine o_iloadN X2 hx hby D15_22 rfl ?_
    have c15_O := ((O0.ext E1).keep K2 (allS gn_b1 all0))
    have c16_V_ca := (c3_V_ca.keep K2 (ninS (by first | exact own_neN (by omega) | exact own_neN' (by omega) | assumption) nin0))
    obtain ⟨_, _, ⟨T14, L14, k14, n14⟩, -, X14, ⟨Lc14, hQ14, l14, y14, z14⟩, st14⟩ := Jvm.LawKit.callS X2 hx (y := (⟨"java/lang/StringUTF16", "toBytes", "([CII)[B"⟩ : MethodName)) hown (mvT hZ (own_wd hw (i := 87) rfl)) (mvT hZ (own_wd hw (i := 88) rfl)) (mvT hZ (own_wd hw (i := 72) rfl)) (mvT hZ (own_wd hw (i := 89) rfl)) (by decide) (backOf (W := 0) (rs_tb3 l Z a0 hw [] ca kc c0 c1 c2 cs vf T2.heap n0 (own_leN (by omega)) hST0 c15_O c16_V_ca) hZ (own_wd hw (i := 89) rfl) (own_wd hw (i := 72) rfl) (by decide) (by decide)) (g := (mkF m 23 #[.val (.ref ca), .val (.int (0 : Int32)), .val (.int (3 : Int32)), .val (.ref b1), .val (.int (2 : Int32)), .unset] [(.int (3 : Int32)), (.int (0 : Int32)), (.ref ca)])) rfl (by rw [hml]; rfl) (argsL := [(.ref ca), (.int (0 : Int32)), (.int (3 : Int32))]) (rest := []) (lenOf pd__40_91CII_41_91B rfl) rfl (by show 2 * 0 + _ ≤ _; exact Nat.le_of_eq rfl) (hb hby D15_23.1) (fun _ _ => ⟨rfl, rfl, (by decide : 1 + 1 ≤ _), (by decide : 3 + 6 ≤ _)⟩)
    dsimp only [Pt.U, Pt.locs, Pt.cells, Pt.slots] at X14 l14 y14 z14 st14 hQ14
    subst l14 y14 z14
    obtain ⟨r14, kr14, rfl, N14q, K14, ge14, Vr14⟩ := hQ14
    have sz14 := own_leN K14.1
    have ge14' := own_leN ge14
    have lt_r14 := own_ltN Vr14.lt
    have gn_r14 : n0 ≤ r14 := own_leN (by omega)
    have N14 := Fr.app N2 N14q
    refine own_pre (A' := T14.setTop (mkF m 26 #[.val (.ref ca), .val (.int (0 : Int32)), .val (.int (3 : Int32)), .val (.ref b1), .val (.int (2 : Int32)), .unset] [(.ref r14)])) st14 ?_
    refine o_astore X14 hx hby D15_26 rfl (l' := #[.val (.ref ca), .val (.int (0 : Int32)), .val (.int (3 : Int32)), .val (.ref b1), .val (.int (2 : Int32)), .val (.ref r14)]) rfl ?_
    refine o_aload X14 hx hby D15_28 rfl rfl ?_
    refine o_iload X14 hx hby D15_30 rfl ?_
    have c18_O := (c15_O.keep K14 all0)
    obtain ⟨_, _, ⟨T17, L17, k17, n17⟩, -, X17, ⟨Lc17, hQ17, l17, y17, z17⟩, st17⟩ := Jvm.LawKit.callS X14 hx (y := (⟨"java/lang/StringUTF16", "getChar", "([BI)C"⟩ : MethodName)) hown (mvT hZ (own_wd hw (i := 103) rfl)) (mvT hZ (own_wd hw (i := 104) rfl)) (mvT hZ (own_wd hw (i := 72) rfl)) (mvT hZ (own_wd hw (i := 105) rfl)) (by decide) (backOf (W := 0) (rs_gc32 l Z a0 hw [] r14 kr14 c0 c1 c2 cs vf T14.heap n0 (own_leN (by omega)) hST0 c18_O Vr14 hc2) hZ (own_wd hw (i := 105) rfl) (own_wd hw (i := 72) rfl) (by decide) (by decide)) (g := (mkF m 32 #[.val (.ref ca), .val (.int (0 : Int32)), .val (.int (3 : Int32)), .val (.ref b1), .val (.int (2 : Int32)), .val (.ref r14)] [(.int (2 : Int32)), (.ref r14)])) rfl (by rw [hml]; rfl) (argsL := [(.ref r14), (.int (2 : Int32))]) (rest := []) (lenOf pd__40_91BI_41C rfl) rfl (by show 2 * 0 + _ ≤ _; exact Nat.le_of_eq rfl) (hb hby D15_32.1) (fun _ _ => ⟨rfl, rfl, (by decide : 2 + 0 ≤ _), (by decide : 9 + 0 ≤ _)⟩)
    dsimp only [Pt.U, Pt.locs, Pt.cells, Pt.slots] at X17 l17 y17 z17 st17 hQ17
    subst l17 y17 z17
    obtain ⟨rfl, N17q, e17⟩ := hQ17
    have N17 := Fr.app N14 N17q
    refine own_pre (A' := T17.setTop (mkF m 35 #[.val (.ref ca), .val (.int (0 : Int32)), .val (.int (3 : Int32)), .val (.ref b1), .val (.int (2 : Int32)), .val (.ref r14)] [(.int c2)])) st17 ?_
    refine o_sipush X17 hx hby D15_35 (v := 255) rfl ?_
    refine o_icmpY X17 hx hby D15_38 (tlt (hh2 : (255 : Int32) < c2)).2.2.1 (q := 54) (by decide) (by decide) ?_
    refine o_aload X17 hx hby D15_54 rfl rfl ?_
    have KK : Keep h0 T14.heap [] := ((((Keep.refl h0 []).ext E1).trans K2 (allS (Or.inr (own_leN (by omega))) all0)).trans K14 all0)
    exact own_ret (v := some (.ref r14)) X17 (fun h => by first | rfl | (rw [Bd.returns] at h; cases h)) (BodyLoose.notSynchronized Bd) (by decide) (by decide) (by rw [e17]; exact ⟨r14, kr14, rfl, N17, KK, own_leN (by omega), Or.inr Vr14⟩) (fun fs hr => retOut X17 hx Bd.returns rfl (Or.inr (Or.inr (Or.inr (Or.inr ⟨rfl, rfl, rfl⟩)))) (hb hby D15_56.1) hr)
theorem ef_rs_cd3_3 (m : MethodId) (ba : Addr) : entryFrame m #[(.ref ba), (.int (3 : Int32))] 2 = mkF m 0 #[.val (.ref ba), .val (.int (3 : Int32))] [] := by first | (simp [entryFrame, mkF, argsToLocals, Value.category]; done) | rfl
set_option maxRecDepth 65536 in
set_option maxHeartbeats 40000000 in
theorem rs_cd3_3 (l : Launch) (Z : State) (a0 : Array Value) (hw : ∀ d ∈ tables_1, d.before a0 Z = true) (ws : List Jvm.Cond) (ba : Addr) (kb : ClassId) (xs : List Value) (h0 : Heap) (n0 : Nat) (Z0 : n0 ≤ h0.size) (Vb : Arv Z h0 ba kb .byte (3 : Int32) xs (.int (0 : Int32))) :
    MetFree l (⟨"java/lang/StringUTF16", "coderFromArrayLen", "([BI)B"⟩ : MethodName) (head1 (Jvm.Cond.code (⟨"java/lang/StringUTF16", "coderFromArrayLen", "([BI)B"⟩ : MethodName) jdk_52_method_15_code 2 (some .byte) :: ws) ({ frames := 0, cells := 0, slots := 0, locals := 0 } : Room)) (fun a U => a = #[(.ref ba), (.int (3 : Int32))] ∧ Z.Warmed39 U.vm ∧ U.heap = h0) (fun _ _ _ _ _ => True) (fun _ U o U' => ∃ v L, o = .returned v ∧ own_QP (.int (0 : Int32)) h0 n0 v U'.heap L ∧ FrameEnd U o U' L ({ frames := 0, cells := 0, slots := 0, locals := 0 } : Room).cells ({ frames := 0, cells := 0, slots := 0, locals := 0 } : Room).slots) := by
  refine MetFree.of_bodySF (plainFor_of_name pn_java_lang_StringUTF16) hisR ?_
  intro p e s m args below meth c s₁ Bd hml0 hP hK
  obtain ⟨rfl, hZ, hh⟩ := hP
  have hx := Bd.exec
  have hby := Bd.bytes
  have hml : c.maxLocals = 2 := hml0
  have hown : s.vm.findClass "java/lang/StringUTF16" = some m.cls := findClass_of_methodNamed Bd.named
  have hnm := (name_of_methodNamed Bd.named Bd.method).1
  have X0 : Stand p l e ({ frames := 0, cells := 0, slots := 0, locals := 0 } : Room) s m #[(.ref ba), (.int (3 : Int32))] below meth c s₁ [] 0 0 := Stand.of_body Bd
  have e0 : s₁.heap = h0 := by rw [← hh, Bd.state]; rfl
  have N0 := Fr.nil n0
  refine own_start (ef_rs_cd3_3 m ba) ?_
  refine o_iloadN X0 hx hby D17_0 rfl ?_
  refine o_aloadN X0 hx hby D17_1 rfl rfl ?_
  obtain ⟨cl_ba_1, Ar_ba_1, q_ba_1, S_ba_1, N_ba_1, H_ba_1, G_ba_1⟩ := id Vb
  refine own_pre (A' := s₁.setTop (mkF m 3 #[.val (.ref ba), .val (.int (3 : Int32))] [(.int (3 : Int32)), (.int (3 : Int32))])) (fun t k => X0.arraylength hx (by rw [e0]; exact Ar_ba_1.1) (State.isArrayOf_alike hZ.alike Ar_ba_1.2.1) (g := (mkF m 2 #[.val (.ref ba), .val (.int (3 : Int32))] [(.ref ba), (.int (3 : Int32))])) rfl rfl (hb hby D17_2.1) _ (by rw [len_of S_ba_1 N_ba_1]; exact k)) ?_
  refine o_isub X0 hx hby D17_3 ?_
  rw [(by decide : ((3 : Int32) - (3 : Int32)) = (0 : Int32))]
  refine o_bipush X0 hx hby D17_4 (v := 31) rfl ?_
  refine o_iushr X0 hx hby D17_6 ?_
  rw [(by decide : (((0 : Int32).toUInt32 >>> ((31 : Int32) &&& 31).toUInt32).toInt32) = (0 : Int32))]
  refine o_i2b X0 hx hby D17_7 ?_
  rw [(by decide : (((0 : Int32)).toInt8.toInt32) = (0 : Int32))]
  exact own_ret (v := some (.int (0 : Int32))) X0 (fun h => by first | rfl | (rw [Bd.returns] at h; cases h)) (BodyLoose.notSynchronized Bd) (by decide) (by decide) (⟨rfl, N0, e0⟩) (fun fs hr => retN X0 hx (t := .byte) Bd.returns (by simp) (hb hby D17_8.1) hr)
theorem ef_rs_cd3_6 (m : MethodId) (ba : Addr) : entryFrame m #[(.ref ba), (.int (3 : Int32))] 2 = mkF m 0 #[.val (.ref ba), .val (.int (3 : Int32))] [] := by first | (simp [entryFrame, mkF, argsToLocals, Value.category]; done) | rfl
set_option maxRecDepth 65536 in
set_option maxHeartbeats 40000000 in
theorem rs_cd3_6 (l : Launch) (Z : State) (a0 : Array Value) (hw : ∀ d ∈ tables_1, d.before a0 Z = true) (ws : List Jvm.Cond) (ba : Addr) (kb : ClassId) (xs : List Value) (h0 : Heap) (n0 : Nat) (Z0 : n0 ≤ h0.size) (Vb : Arv Z h0 ba kb .byte (6 : Int32) xs (.int (0 : Int32))) :
    MetFree l (⟨"java/lang/StringUTF16", "coderFromArrayLen", "([BI)B"⟩ : MethodName) (head1 (Jvm.Cond.code (⟨"java/lang/StringUTF16", "coderFromArrayLen", "([BI)B"⟩ : MethodName) jdk_52_method_15_code 2 (some .byte) :: ws) ({ frames := 0, cells := 0, slots := 0, locals := 0 } : Room)) (fun a U => a = #[(.ref ba), (.int (3 : Int32))] ∧ Z.Warmed39 U.vm ∧ U.heap = h0) (fun _ _ _ _ _ => True) (fun _ U o U' => ∃ v L, o = .returned v ∧ own_QP (.int (1 : Int32)) h0 n0 v U'.heap L ∧ FrameEnd U o U' L ({ frames := 0, cells := 0, slots := 0, locals := 0 } : Room).cells ({ frames := 0, cells := 0, slots := 0, locals := 0 } : Room).slots) := by
  refine MetFree.of_bodySF (plainFor_of_name pn_java_lang_StringUTF16) hisR ?_
  intro p e s m args below meth c s₁ Bd hml0 hP hK
  obtain ⟨rfl, hZ, hh⟩ := hP
  have hx := Bd.exec
  have hby := Bd.bytes
  have hml : c.maxLocals = 2 := hml0
  have hown : s.vm.findClass "java/lang/StringUTF16" = some m.cls := findClass_of_methodNamed Bd.named
  have hnm := (name_of_methodNamed Bd.named Bd.method).1
  have X0 : Stand p l e ({ frames := 0, cells := 0, slots := 0, locals := 0 } : Room) s m #[(.ref ba), (.int (3 : Int32))] below meth c s₁ [] 0 0 := Stand.of_body Bd
  have e0 : s₁.heap = h0 := by rw [← hh, Bd.state]; rfl
  have N0 := Fr.nil n0
  refine own_start (ef_rs_cd3_6 m ba) ?_
  refine o_iloadN X0 hx hby D17_0 rfl ?_
  refine o_aloadN X0 hx hby D17_1 rfl rfl ?_
  obtain ⟨cl_ba_1, Ar_ba_1, q_ba_1, S_ba_1, N_ba_1, H_ba_1, G_ba_1⟩ := id Vb
  refine own_pre (A' := s₁.setTop (mkF m 3 #[.val (.ref ba), .val (.int (3 : Int32))] [(.int (6 : Int32)), (.int (3 : Int32))])) (fun t k => X0.arraylength hx (by rw [e0]; exact Ar_ba_1.1) (State.isArrayOf_alike hZ.alike Ar_ba_1.2.1) (g := (mkF m 2 #[.val (.ref ba), .val (.int (3 : Int32))] [(.ref ba), (.int (3 : Int32))])) rfl rfl (hb hby D17_2.1) _ (by rw [len_of S_ba_1 N_ba_1]; exact k)) ?_
  refine o_isub X0 hx hby D17_3 ?_
  rw [(by decide : ((3 : Int32) - (6 : Int32)) = (-3 : Int32))]
  refine o_bipush X0 hx hby D17_4 (v := 31) rfl ?_
  refine o_iushr X0 hx hby D17_6 ?_
  rw [(by decide : (((-3 : Int32).toUInt32 >>> ((31 : Int32) &&& 31).toUInt32).toInt32) = (1 : Int32))]
  refine o_i2b X0 hx hby D17_7 ?_
  rw [(by decide : (((1 : Int32)).toInt8.toInt32) = (1 : Int32))]
  exact own_ret (v := some (.int (1 : Int32))) X0 (fun h => by first | rfl | (rw [Bd.returns] at h; cases h)) (BodyLoose.notSynchronized Bd) (by decide) (by decide) (⟨rfl, N0, e0⟩) (fun fs hr => retN X0 hx (t := .byte) Bd.returns (by simp) (hb hby D17_8.1) hr)
def own_Str3 (Z : State) (h : Heap) (st vb : Addr) (kb : ClassId) (c0 c1 c2 : Int32) : Prop := Exa Z h st "java/lang/String" ∧ Fld Z h st "java/lang/String" "value" "[B" (.ref vb) ∧ ((Fld Z h st "java/lang/String" "coder" "B" (.int 0) ∧ (¬ ((255 : Int32) < c0)) ∧ (¬ ((255 : Int32) < c1)) ∧ (¬ ((255 : Int32) < c2)) ∧ Arv Z h vb kb .byte (3 : Int32) [(.int (own_l8 c0)), (.int (own_l8 c1)), (.int (own_l8 c2))] (.int (0 : Int32))) ∨ (Fld Z h st "java/lang/String" "coder" "B" (.int 1) ∧ Arv Z h vb kb .byte (6 : Int32) [(.int (own_lo c0)), (.int (own_hi c0)), (.int (own_lo c1)), (.int (own_hi c1)), (.int (own_lo c2)), (.int (own_hi c2))] (.int (0 : Int32))))
def own_QI3 (Z : State) (a1 : Addr) (c0 c1 c2 : Int32) (h0 : Heap) (n0 : Nat) (v : Option Value) (h : Heap) (L : List Loc) : Prop := ∃ (vb : Nat) (kb : ClassId), v = none ∧ Fr n0 L ∧ Keep h0 h [a1] ∧ h0.size ≤ vb ∧ own_Str3 Z h a1 vb kb c0 c1 c2
theorem ef_rs_i43 (m : MethodId) (a1 : Addr) (ca : Addr) : entryFrame m #[(.ref a1), (.ref ca), (.int (0 : Int32)), (.int (3 : Int32)), .null] 6 = mkF m 0 #[.val (.ref a1), .val (.ref ca), .val (.int (0 : Int32)), .val (.int (3 : Int32)), .val .null, .unset] [] := by first | (simp [entryFrame, mkF, argsToLocals, Value.category]; done) | rfl
set_option maxRecDepth 65536 in
set_option maxHeartbeats 40000000 in
theorem rs_i43 (l : Launch) (Z : State) (a0 : Array Value) (hw : ∀ d ∈ tables_1, d.before a0 Z = true) (ws : List Jvm.Cond) (a1 : Addr) (ca : Addr) (kc : ClassId) (c0 c1 c2 : Int32) (u0 u1 : Value) (cs : Int32) (vf : Value) (h0 : Heap) (n0 : Nat) (Z0 : n0 ≤ h0.size) (hST : own_ST Z cs vf) (O0 : Old Z n0 h0) (Vc : Arv Z h0 ca kc .char (3 : Int32) [(.int c0), (.int c1), (.int c2)] (.int (0 : Int32))) (hc0 : own_ch16 c0) (hc1 : own_ch16 c1) (hc2 : own_ch16 c2) (gn_a1 : n0 ≤ a1) (E_a1 : Exa Z h0 a1 "java/lang/String") (F_v : Fld Z h0 a1 "java/lang/String" "value" "[B" u0) (F_c : Fld Z h0 a1 "java/lang/String" "coder" "B" u1) :
    MetFree l (⟨"java/lang/String", "<init>", "([CIILjava/lang/Void;)V"⟩ : MethodName) (head1 (Jvm.Cond.code (⟨"java/lang/String", "<init>", "([CIILjava/lang/Void;)V"⟩ : MethodName) jdk_42_method_149_code 6 none :: ws) ({ frames := 4, cells := 2, slots := 9, locals := 57 } : Room)) (fun a U => a = #[(.ref a1), (.ref ca), (.int (0 : Int32)), (.int (3 : Int32)), .null] ∧ Z.Warmed39 U.vm ∧ U.heap = h0) (fun _ _ _ _ _ => True) (fun _ U o U' => ∃ v L, o = .returned v ∧ own_QI3 Z a1 c0 c1 c2 h0 n0 v U'.heap L ∧ FrameEnd U o U' L ({ frames := 4, cells := 2, slots := 9, locals := 57 } : Room).cells ({ frames := 4, cells := 2, slots := 9, locals := 57 } : Room).slots) := by
  refine MetFree.of_bodySF (plainFor_of_name pn_java_lang_String) hisR ?_
  intro p e s m args below meth c s₁ Bd hml0 hP hK
  obtain ⟨rfl, hZ, hh⟩ := hP
  have hx := Bd.exec
  have hby := Bd.bytes
  have hml : c.maxLocals = 6 := hml0
  have hown : s.vm.findClass "java/lang/String" = some m.cls := findClass_of_methodNamed Bd.named
  have hnm := (name_of_methodNamed Bd.named Bd.method).1
  have X0 : Stand p l e ({ frames := 4, cells := 2, slots := 9, locals := 57 } : Room) s m #[(.ref a1), (.ref ca), (.int (0 : Int32)), (.int (3 : Int32)), .null] below meth c s₁ [] 0 0 := Stand.of_body Bd
  have e0 : s₁.heap = h0 := by rw [← hh, Bd.state]; rfl
  have N0 := Fr.nil n0
  refine own_start (ef_rs_i43 m a1 ca) ?_
  have hST0 := hST
  obtain ⟨S_cs, S_ad, S_hb, S_lb, S_sf, hcs, hvf⟩ := hST
  have lt_ca := own_ltN Vc.lt
  have lt_a1 := own_ltN E_a1.lt
  refine o_aloadN X0 hx hby D3_0 rfl rfl ?_
  obtain ⟨T1, X1, e1, st1⟩ := initO X0 hx hZ hown (own_wd hw (i := 15) rfl) (own_wd hw (i := 16) rfl) (own_wd hw (i := 17) rfl) e0 (g := (mkF m 1 #[.val (.ref a1), .val (.ref ca), .val (.int (0 : Int32)), .val (.int (3 : Int32)), .val .null, .unset] [(.ref a1)])) rfl (by rw [hml]; rfl) rfl (hb hby D3_1.1) (by decide) (W := 0) (by show 2 * 0 + _ ≤ _; exact Nat.le_of_eq rfl) (by decide)
  refine own_pre (A' := T1.setTop (mkF m 4 #[.val (.ref a1), .val (.ref ca), .val (.int (0 : Int32)), .val (.int (3 : Int32)), .val .null, .unset] [])) st1 ?_
  refine o_iloadN X1 hx hby D3_4 rfl ?_
  refine o_ifY X1 hx hby D3_5 ((if0 _ _).trans (feq (by decide : ¬ ((3 : Int32) = (0 : Int32)))).2) (q := 27) (by decide) (by decide) ?_
  obtain ⟨T2, X2, e2, st2⟩ := getS2 X1 hx hZ hown (host := "") (Or.inl (own_wd hw (i := 45) rfl)) Via.refl e1 (S_cs.ext O0.2) (g := (mkF m 27 #[.val (.ref a1), .val (.ref ca), .val (.int (0 : Int32)), .val (.int (3 : Int32)), .val .null, .unset] [])) rfl (hb hby D3_27.1)
  refine own_pre (A' := T2.setTop (mkF m 30 #[.val (.ref a1), .val (.ref ca), .val (.int (0 : Int32)), .val (.int (3 : Int32)), .val .null, .unset] [(.int cs)])) st2 ?_
  refine o_ifN X2 hx hby D3_30 ((if0 _ _).trans (feq (hcs : ¬ (cs = (0 : Int32)))).1) ?_
  refine o_aloadN X2 hx hby D3_33 rfl rfl ?_
  refine o_iloadN X2 hx hby D3_34 rfl ?_
  refine o_iloadN X2 hx hby D3_35 rfl ?_
  obtain ⟨_, _, ⟨T3, L3, k3, n3⟩, -, X3, ⟨Lc3, hQ3, l3, y3, z3⟩, st3⟩ := Jvm.LawKit.callS X2 hx (y := (⟨"java/lang/StringUTF16", "compress", "([CII)[B"⟩ : MethodName)) hown (mvT hZ (own_wd hw (i := 70) rfl)) (mvT hZ (own_wd hw (i := 71) rfl)) (mvT hZ (own_wd hw (i := 72) rfl)) (mvT hZ (own_wd hw (i := 73) rfl)) (by decide) (backOf (W := 0) (rs_c33 l Z a0 hw [] ca kc c0 c1 c2 cs vf h0 n0 (own_leN (by omega)) hST0 O0 Vc hc0 hc1 hc2) hZ (own_wd hw (i := 73) rfl) (own_wd hw (i := 72) rfl) (by decide) (by decide)) (g := (mkF m 36 #[.val (.ref a1), .val (.ref ca), .val (.int (0 : Int32)), .val (.int (3 : Int32)), .val .null, .unset] [(.int (3 : Int32)), (.int (0 : Int32)), (.ref ca)])) rfl (by rw [hml]; rfl) (argsL := [(.ref ca), (.int (0 : Int32)), (.int (3 : Int32))]) (rest := []) (lenOf pd__40_91CII_41_91B rfl) rfl (by show 2 * 0 + _ ≤ _; exact Nat.le_of_eq rfl) (hb hby D3_36.1) (fun _ _ => ⟨rfl, e2, (by decide : 0 + 2 ≤ _), (by decide : 0 + 9 ≤ _)⟩)
  dsimp only [Pt.U, Pt.locs, Pt.cells, Pt.slots] at X3 l3 y3 z3 st3 hQ3
  subst l3 y3 z3
  obtain ⟨r3, kr3, rfl, N3q, K3, ge3, hw3⟩ := hQ3
  have sz3 := own_leN K3.1
  have ge3' := own_leN ge3
  have N3 := Fr.app N0 N3q
  refine own_pre (A' := T3.setTop (mkF m 39 #[.val (.ref a1), .val (.ref ca), .val (.int (0 : Int32)), .val (.int (3 : Int32)), .val .null, .unset] [(.ref r3)])) st3 ?_
  rcases hw3 with ⟨hl0, hl1, hl2, Vr⟩ | Vr
  · have lt_r3 := own_ltN Vr.lt
    refine o_astore X3 hx hby D3_39 rfl (l' := #[.val (.ref a1), .val (.ref ca), .val (.int (0 : Int32)), .val (.int (3 : Int32)), .val .null, .val (.ref r3)]) rfl ?_
    refine o_aloadN X3 hx hby D3_41 rfl rfl ?_
    refine o_aload X3 hx hby D3_42 rfl rfl ?_
    refine o_iloadN X3 hx hby D3_44 rfl ?_
    obtain ⟨_, _, ⟨T4, L4, k4, n4⟩, -, X4, ⟨Lc4, hQ4, l4, y4, z4⟩, st4⟩ := Jvm.LawKit.callS X3 hx (y := (⟨"java/lang/StringUTF16", "coderFromArrayLen", "([BI)B"⟩ : MethodName)) hown (mvT hZ (own_wd hw (i := 77) rfl)) (mvT hZ (own_wd hw (i := 78) rfl)) (mvT hZ (own_wd hw (i := 72) rfl)) (mvT hZ (own_wd hw (i := 79) rfl)) (by decide) (backOf (W := 1) (rs_cd3_3 l Z a0 hw [] r3 kr3 [(.int (own_l8 c0)), (.int (own_l8 c1)), (.int (own_l8 c2))] T3.heap n0 (own_leN (by omega)) Vr) hZ (own_wd hw (i := 79) rfl) (own_wd hw (i := 72) rfl) (by decide) (by decide)) (g := (mkF m 45 #[.val (.ref a1), .val (.ref ca), .val (.int (0 : Int32)), .val (.int (3 : Int32)), .val .null, .val (.ref r3)] [(.int (3 : Int32)), (.ref r3), (.ref a1)])) rfl (by rw [hml]; rfl) (argsL := [(.ref r3), (.int (3 : Int32))]) (rest := [(.ref a1)]) (lenOf pd__40_91BI_41B rfl) rfl (by show 2 * 0 + _ ≤ _; exact Nat.le_of_eq rfl) (hb hby D3_45.1) (fun _ _ => ⟨rfl, rfl, (by decide : 2 + 0 ≤ _), (by decide : 9 + 0 ≤ _)⟩)
    dsimp only [Pt.U, Pt.locs, Pt.cells, Pt.slots] at X4 l4 y4 z4 st4 hQ4
    subst l4 y4 z4
    obtain ⟨rfl, N4q, e4⟩ := hQ4
    have N4 := Fr.app N3 N4q
    refine own_pre (A' := T4.setTop (mkF m 48 #[.val (.ref a1), .val (.ref ca), .val (.int (0 : Int32)), .val (.int (3 : Int32)), .val .null, .val (.ref r3)] [(.int (0 : Int32)), (.ref a1)])) st4 ?_
    have c6_F_a1_coder := (F_c.keep K3 nin0)
    have c7_E_a1 := (E_a1.keep K3)
    obtain ⟨T5, h5, X5, e5, W5, st5⟩ := putFN X4 hx hZ hown (own_wd hw (i := 25) rfl) Via.refl e4 c6_F_a1_coder c7_E_a1 (Or.inr ⟨(own_wd hw (i := 21) rfl), rfl, hnm⟩) (own_wd hw (i := 6) rfl) (ty := .byte) (v' := (.int (0 : Int32))) (by decide) rfl rfl (g := (mkF m 48 #[.val (.ref a1), .val (.ref ca), .val (.int (0 : Int32)), .val (.int (3 : Int32)), .val .null, .val (.ref r3)] [(.int (0 : Int32)), (.ref a1)])) rfl rfl (hb hby D3_48.1)
    have Fw5 := c6_F_a1_coder.same W5
    have sz5 := own_leN (Keep.of_wr W5).1
    have N5 := Fr.snoc X5 N4 gn_a1
    refine own_pre (A' := T5.setTop (mkF m 51 #[.val (.ref a1), .val (.ref ca), .val (.int (0 : Int32)), .val (.int (3 : Int32)), .val .null, .val (.ref r3)] [])) st5 ?_
    refine o_aloadN X5 hx hby D3_51 rfl rfl ?_
    refine o_aload X5 hx hby D3_52 rfl rfl ?_
    have c9_F_a1_value := ((F_v.keep K3 nin0).other W5 (Or.inr (Jvm.RoadKit.slot_ne (Or.inr (own_wd hw (i := 20) rfl)) (Or.inr (own_wd hw (i := 21) rfl)) (by decide) (t := (.array .byte)) (t' := .byte) (by decide) (by decide))))
    have c10_E_a1 := (c7_E_a1.wr W5)
    obtain ⟨T8, h8, X8, e8, W8, st8⟩ := putF X5 hx hZ hown (host := "") (Or.inl (own_wd hw (i := 24) rfl)) Via.refl e5 c9_F_a1_value c10_E_a1 (Or.inr ⟨(own_wd hw (i := 20) rfl), rfl, hnm⟩) (own_wd hw (i := 6) rfl) (ty := (.array .byte)) (by decide) rfl rfl (g := (mkF m 54 #[.val (.ref a1), .val (.ref ca), .val (.int (0 : Int32)), .val (.int (3 : Int32)), .val .null, .val (.ref r3)] [(.ref r3), (.ref a1)])) rfl rfl (hb hby D3_54.1)
    have Fw8 := c9_F_a1_value.same W8
    have sz8 := own_leN (Keep.of_wr W8).1
    have N8 := Fr.snoc X8 N5 gn_a1
    refine own_pre (A' := T8.setTop (mkF m 57 #[.val (.ref a1), .val (.ref ca), .val (.int (0 : Int32)), .val (.int (3 : Int32)), .val .null, .val (.ref r3)] [])) st8 ?_
    have c11_E_a1 := (c10_E_a1.wr W8)
    have c12_F_a1_coder := (Fw5.other W8 (Or.inr (Jvm.RoadKit.slot_ne (Or.inr (own_wd hw (i := 21) rfl)) (Or.inr (own_wd hw (i := 20) rfl)) (by decide) (t := .byte) (t' := (.array .byte)) (by decide) (by decide))))
    have c13_V_r3 := ((Vr.other W5 (by first | exact own_neN (by omega) | exact own_neN' (by omega) | assumption)).other W8 (by first | exact own_neN (by omega) | exact own_neN' (by omega) | assumption))
    have KK : Keep h0 h8 [a1] := ((((Keep.refl h0 [a1]).trans K3 all0).wr W5 (Or.inl (by simp))).wr W8 (Or.inl (by simp)))
    exact own_ret (v := none) X8 (fun h => by first | rfl | (rw [Bd.returns] at h; cases h)) (BodyLoose.notSynchronized Bd) (by decide) (by decide) (by rw [e8]; exact ⟨r3, kr3, rfl, N8, KK, own_leN (by omega), c11_E_a1, Fw8, Or.inl ⟨c12_F_a1_coder, hl0, hl1, hl2, c13_V_r3⟩⟩) (fun fs hr => X8.returnOut hx Bd.returns (hb hby D3_57.1) hr)
  · have lt_r3 := own_ltN Vr.lt
    refine o_astore X3 hx hby D3_39 rfl (l' := #[.val (.ref a1), .val (.ref ca), .val (.int (0 : Int32)), .val (.int (3 : Int32)), .val .null, .val (.ref r3)]) rfl ?_
    refine o_aloadN X3 hx hby D3_41 rfl rfl ?_
    refine o_aload X3 hx hby D3_42 rfl rfl ?_
    refine o_iloadN X3 hx hby D3_44 rfl ?_
    obtain ⟨_, _, ⟨T14, L14, k14, n14⟩, -, X14, ⟨Lc14, hQ14, l14, y14, z14⟩, st14⟩ := Jvm.LawKit.callS X3 hx (y := (⟨"java/lang/StringUTF16", "coderFromArrayLen", "([BI)B"⟩ : MethodName)) hown (mvT hZ (own_wd hw (i := 77) rfl)) (mvT hZ (own_wd hw (i := 78) rfl)) (mvT hZ (own_wd hw (i := 72) rfl)) (mvT hZ (own_wd hw (i := 79) rfl)) (by decide) (backOf (W := 1) (rs_cd3_6 l Z a0 hw [] r3 kr3 [(.int (own_lo c0)), (.int (own_hi c0)), (.int (own_lo c1)), (.int (own_hi c1)), (.int (own_lo c2)), (.int (own_hi c2))] T3.heap n0 (own_leN (by omega)) Vr) hZ (own_wd hw (i := 79) rfl) (own_wd hw (i := 72) rfl) (by decide) (by decide)) (g := (mkF m 45 #[.val (.ref a1), .val (.ref ca), .val (.int (0 : Int32)), .val (.int (3 : Int32)), .val .null, .val (.ref r3)] [(.int (3 : Int32)), (.ref r3), (.ref a1)])) rfl (by rw [hml]; rfl) (argsL := [(.ref r3), (.int (3 : Int32))]) (rest := [(.ref a1)]) (lenOf pd__40_91BI_41B rfl) rfl (by show 2 * 0 + _ ≤ _; exact Nat.le_of_eq rfl) (hb hby D3_45.1) (fun _ _ => ⟨rfl, rfl, (by decide : 2 + 0 ≤ _), (by decide : 9 + 0 ≤ _)⟩)
    dsimp only [Pt.U, Pt.locs, Pt.cells, Pt.slots] at X14 l14 y14 z14 st14 hQ14
    subst l14 y14 z14
    obtain ⟨rfl, N14q, e14⟩ := hQ14
    have N14 := Fr.app N3 N14q
    refine own_pre (A' := T14.setTop (mkF m 48 #[.val (.ref a1), .val (.ref ca), .val (.int (0 : Int32)), .val (.int (3 : Int32)), .val .null, .val (.ref r3)] [(.int (1 : Int32)), (.ref a1)])) st14 ?_
    have c16_F_a1_coder := (F_c.keep K3 nin0)
    have c17_E_a1 := (E_a1.keep K3)
    obtain ⟨T15, h15, X15, e15, W15, st15⟩ := putFN X14 hx hZ hown (own_wd hw (i := 25) rfl) Via.refl e14 c16_F_a1_coder c17_E_a1 (Or.inr ⟨(own_wd hw (i := 21) rfl), rfl, hnm⟩) (own_wd hw (i := 6) rfl) (ty := .byte) (v' := (.int (1 : Int32))) (by decide) rfl rfl (g := (mkF m 48 #[.val (.ref a1), .val (.ref ca), .val (.int (0 : Int32)), .val (.int (3 : Int32)), .val .null, .val (.ref r3)] [(.int (1 : Int32)), (.ref a1)])) rfl rfl (hb hby D3_48.1)
    have Fw15 := c16_F_a1_coder.same W15
    have sz15 := own_leN (Keep.of_wr W15).1
    have N15 := Fr.snoc X15 N14 gn_a1
    refine own_pre (A' := T15.setTop (mkF m 51 #[.val (.ref a1), .val (.ref ca), .val (.int (0 : Int32)), .val (.int (3 : Int32)), .val .null, .val (.ref r3)] [])) st15 ?_
    refine o_aloadN X15 hx hby D3_51 rfl rfl ?_
    refine o_aload X15 hx hby D3_52 rfl rfl ?_
    have c19_F_a1_value := ((F_v.keep K3 nin0).other W15 (Or.inr (Jvm.RoadKit.slot_ne (Or.inr (own_wd hw (i := 20) rfl)) (Or.inr (own_wd hw (i := 21) rfl)) (by decide) (t := (.array .byte)) (t' := .byte) (by decide) (by decide))))
    have c20_E_a1 := (c17_E_a1.wr W15)
    obtain ⟨T18, h18, X18, e18, W18, st18⟩ := putF X15 hx hZ hown (host := "") (Or.inl (own_wd hw (i := 24) rfl)) Via.refl e15 c19_F_a1_value c20_E_a1 (Or.inr ⟨(own_wd hw (i := 20) rfl), rfl, hnm⟩) (own_wd hw (i := 6) rfl) (ty := (.array .byte)) (by decide) rfl rfl (g := (mkF m 54 #[.val (.ref a1), .val (.ref ca), .val (.int (0 : Int32)), .val (.int (3 : Int32)), .val .null, .val (.ref r3)] [(.ref r3), (.ref a1)])) rfl rfl (hb hby D3_54.1)
    have Fw18 := c19_F_a1_value.same W18
    have sz18 := own_leN (Keep.of_wr W18).1
    have N18 := Fr.snoc X18 N15 gn_a1
    refine own_pre (A' := T18.setTop (mkF m 57 #[.val (.ref a1), .val (.ref ca), .val (.int (0 : Int32)), .val (.int (3 : Int32)), .val .null, .val (.ref r3)] [])) st18 ?_
    have c21_E_a1 := (c20_E_a1.wr W18)
    have c22_F_a1_coder := (Fw15.other W18 (Or.inr (Jvm.RoadKit.slot_ne (Or.inr (own_wd hw (i := 21) rfl)) (Or.inr (own_wd hw (i := 20) rfl)) (by decide) (t := .byte) (t' := (.array .byte)) (by decide) (by decide))))
    have c23_V_r3 := ((Vr.other W15 (by first | exact own_neN (by omega) | exact own_neN' (by omega) | assumption)).other W18 (by first | exact own_neN (by omega) | exact own_neN' (by omega) | assumption))
    have KK : Keep h0 h18 [a1] := ((((Keep.refl h0 [a1]).trans K3 all0).wr W15 (Or.inl (by simp))).wr W18 (Or.inl (by simp)))
    exact own_ret (v := none) X18 (fun h => by first | rfl | (rw [Bd.returns] at h; cases h)) (BodyLoose.notSynchronized Bd) (by decide) (by decide) (by rw [e18]; exact ⟨r3, kr3, rfl, N18, KK, own_leN (by omega), c21_E_a1, Fw18, Or.inr ⟨c22_F_a1_coder, c23_V_r3⟩⟩) (fun fs hr => X18.returnOut hx Bd.returns (hb hby D3_57.1) hr)
theorem ef_rs_i13 (m : MethodId) (a1 : Addr) (ca : Addr) : entryFrame m #[(.ref a1), (.ref ca)] 2 = mkF m 0 #[.val (.ref a1), .val (.ref ca)] [] := by first | (simp [entryFrame, mkF, argsToLocals, Value.category]; done) | rfl
set_option maxRecDepth 65536 in
set_option maxHeartbeats 40000000 in
theorem rs_i13 (l : Launch) (Z : State) (a0 : Array Value) (hw : ∀ d ∈ tables_1, d.before a0 Z = true) (ws : List Jvm.Cond) (a1 : Addr) (ca : Addr) (kc : ClassId) (c0 c1 c2 : Int32) (u0 u1 : Value) (cs : Int32) (vf : Value) (h0 : Heap) (n0 : Nat) (Z0 : n0 ≤ h0.size) (hST : own_ST Z cs vf) (O0 : Old Z n0 h0) (Vc : Arv Z h0 ca kc .char (3 : Int32) [(.int c0), (.int c1), (.int c2)] (.int (0 : Int32))) (hc0 : own_ch16 c0) (hc1 : own_ch16 c1) (hc2 : own_ch16 c2) (gn_a1 : n0 ≤ a1) (E_a1 : Exa Z h0 a1 "java/lang/String") (F_v : Fld Z h0 a1 "java/lang/String" "value" "[B" u0) (F_c : Fld Z h0 a1 "java/lang/String" "coder" "B" u1) :
    MetFree l (⟨"java/lang/String", "<init>", "([C)V"⟩ : MethodName) (head1 (Jvm.Cond.code (⟨"java/lang/String", "<init>", "([C)V"⟩ : MethodName) jdk_42_method_3_code 2 none :: ws) ({ frames := 5, cells := 2, slots := 9, locals := 74 } : Room)) (fun a U => a = #[(.ref a1), (.ref ca)] ∧ Z.Warmed39 U.vm ∧ U.heap = h0) (fun _ _ _ _ _ => True) (fun _ U o U' => ∃ v L, o = .returned v ∧ own_QI3 Z a1 c0 c1 c2 h0 n0 v U'.heap L ∧ FrameEnd U o U' L ({ frames := 5, cells := 2, slots := 9, locals := 74 } : Room).cells ({ frames := 5, cells := 2, slots := 9, locals := 74 } : Room).slots) := by
  refine MetFree.of_bodySF (plainFor_of_name pn_java_lang_String) hisR ?_
  intro p e s m args below meth c s₁ Bd hml0 hP hK
  obtain ⟨rfl, hZ, hh⟩ := hP
  have hx := Bd.exec
  have hby := Bd.bytes
  have hml : c.maxLocals = 2 := hml0
  have hown : s.vm.findClass "java/lang/String" = some m.cls := findClass_of_methodNamed Bd.named
  have hnm := (name_of_methodNamed Bd.named Bd.method).1
  have X0 : Stand p l e ({ frames := 5, cells := 2, slots := 9, locals := 74 } : Room) s m #[(.ref a1), (.ref ca)] below meth c s₁ [] 0 0 := Stand.of_body Bd
  have e0 : s₁.heap = h0 := by rw [← hh, Bd.state]; rfl
  have N0 := Fr.nil n0
  refine own_start (ef_rs_i13 m a1 ca) ?_
  have hST0 := hST
  refine o_aloadN X0 hx hby D2_0 rfl rfl ?_
  refine o_aloadN X0 hx hby D2_1 rfl rfl ?_
  refine o_iconst X0 hx hby D2_2 (v := 0) rfl ?_
  refine o_aloadN X0 hx hby D2_3 rfl rfl ?_
  obtain ⟨cl_ca_1, Ar_ca_1, q_ca_1, S_ca_1, N_ca_1, H_ca_1, G_ca_1⟩ := id Vc
  refine own_pre (A' := s₁.setTop (mkF m 5 #[.val (.ref a1), .val (.ref ca)] [(.int (3 : Int32)), (.int (0 : Int32)), (.ref ca), (.ref a1)])) (fun t k => X0.arraylength hx (by rw [e0]; exact Ar_ca_1.1) (State.isArrayOf_alike hZ.alike Ar_ca_1.2.1) (g := (mkF m 4 #[.val (.ref a1), .val (.ref ca)] [(.ref ca), (.int (0 : Int32)), (.ref ca), (.ref a1)])) rfl rfl (hb hby D2_4.1) _ (by rw [len_of S_ca_1 N_ca_1]; exact k)) ?_
  refine o_anull X0 hx hby D2_5 ?_
  obtain ⟨_, _, ⟨T2, L2, k2, n2⟩, -, X2, ⟨Lc2, hQ2, l2, y2, z2⟩, st2⟩ := X0.specialBack hx (y := (⟨"java/lang/String", "<init>", "([CIILjava/lang/Void;)V"⟩ : MethodName)) rfl hown (mvT hZ (own_wd hw (i := 11) rfl)) (mvT hZ (own_wd hw (i := 12) rfl)) (mvT hZ (own_wd hw (i := 14) rfl)) (by decide) (backOf (W := 0) (rs_i43 l Z a0 hw [] a1 ca kc c0 c1 c2 u0 u1 cs vf h0 n0 Z0 hST0 O0 Vc hc0 hc1 hc2 gn_a1 E_a1 F_v F_c) hZ (own_wd hw (i := 14) rfl) (own_wd hw (i := 7) rfl) (by decide) (by decide)) (g := (mkF m 6 #[.val (.ref a1), .val (.ref ca)] [.null, (.int (3 : Int32)), (.int (0 : Int32)), (.ref ca), (.ref a1)])) rfl (by rw [hml]; rfl) (Steps.refl _) (a := a1) (argsL := [(.ref ca), (.int (0 : Int32)), (.int (3 : Int32)), .null]) (rest := []) (lenOf pd__40_91CIILjava_47lang_47Void_59_41V rfl) rfl (by show 2 * 0 + _ ≤ _; exact Nat.le_of_eq rfl) (hb hby D2_6.1) (fun _ _ => ⟨rfl, e0, (by decide : 0 + 2 ≤ _), (by decide : 0 + 9 ≤ _)⟩)
  dsimp only [Pt.U, Pt.locs, Pt.cells, Pt.slots] at X2 l2 y2 z2 st2 hQ2
  subst l2 y2 z2
  obtain ⟨vb, kb, rfl, N2q, K2, ge2, Str2⟩ := hQ2
  have N2 := Fr.app N0 N2q
  refine own_pre (A' := T2.setTop (mkF m 9 #[.val (.ref a1), .val (.ref ca)] [])) (fun t k => st2.trans k) ?_
  exact own_ret (v := none) X2 (fun h => by first | rfl | (rw [Bd.returns] at h; cases h)) (BodyLoose.notSynchronized Bd) (by decide) (by decide) (⟨vb, kb, rfl, N2, K2, ge2, Str2⟩) (fun fs hr => X2.returnOut hx Bd.returns (hb hby D2_9.1) hr)
def own_ix0 (ch : Int32) : Int32 := (-1 : Int32)
def own_ix1 (ch c0 : Int32) : Int32 := (if c0 = ch then (0 : Int32) else (-1 : Int32))
def own_ix2 (ch c0 c1 : Int32) : Int32 := (if c0 = ch then (0 : Int32) else (if c1 = ch then (1 : Int32) else (-1 : Int32)))
def own_ix3 (ch c0 c1 c2 : Int32) : Int32 := (if c0 = ch then (0 : Int32) else (if c1 = ch then (1 : Int32) else (if c2 = ch then (2 : Int32) else (-1 : Int32))))

def own_nl (ch : Int32) : Prop := ch = (10 : Int32) ∨ ch = (13 : Int32)
theorem own_lt8 {c : Int32} (h : own_ch16 c) (hl : ¬ ((255 : Int32) < c)) : c.toInt < 256 := by
  have k : (255 : Int32).toInt = 255 := rfl
  rw [Int32.lt_iff_toInt_lt, k] at hl; omega
theorem own_eqb {c ch : Int32} (h : own_ch16 c) (hl : ¬ ((255 : Int32) < c)) (hc : own_nl ch) : (own_l8 c = (ch).toInt8.toInt32) ↔ c = ch := by
  have l := own_lt8 h hl
  have h0 := h.1
  constructor
  · intro q
    have q2 : own_l8 c &&& (255 : Int32) = (ch).toInt8.toInt32 &&& (255 : Int32) := by rw [q]
    have e1 : own_l8 c &&& (255 : Int32) = c &&& (255 : Int32) := own_byte c
    have e2 : (ch).toInt8.toInt32 &&& (255 : Int32) = ch &&& (255 : Int32) := by rw [← own_i8]; exact own_byte ch
    rw [e1, e2] at q2
    have e3 : (c &&& 255).toInt = c.toInt % 2 ^ 8 := Jvm.Kit.i32_mask c 255 (k := 8) (by decide) (by decide)
    have e4 : (ch &&& 255).toInt = ch.toInt % 2 ^ 8 := Jvm.Kit.i32_mask ch 255 (k := 8) (by decide) (by decide)
    have q3 := congrArg Int32.toInt q2
    rw [e3, e4] at q3
    rw [← Int32.toInt_inj]
    have k10 : (10 : Int32).toInt = 10 := rfl
    have k13 : (13 : Int32).toInt = 13 := rfl
    rcases hc with rfl | rfl
    · rw [k10] at q3 ⊢; omega
    · rw [k13] at q3 ⊢; omega
  · intro q
    subst q
    exact own_i8 c
theorem own_nl0 {ch : Int32} (h : own_nl ch) : ¬ (ch < (0 : Int32)) := by rcases h with rfl | rfl <;> decide
theorem own_nl1 {ch : Int32} (h : own_nl ch) : ¬ ((255 : Int32) < ch) := by rcases h with rfl | rfl <;> decide
theorem own_nl2 {ch : Int32} (h : own_nl ch) : ch < (65536 : Int32) := by rcases h with rfl | rfl <;> decide
theorem D14_0 : own_at jdk_29_method_69_code 0 (.iload_n 0) 1 1 := ⟨by decide +kernel, rfl⟩
theorem D14_1 : own_at jdk_29_method_69_code 1 (.iload_n 1) 1 2 := ⟨by decide +kernel, rfl⟩
theorem D14_2 : own_at jdk_29_method_69_code 2 (.if_icmp .gt 7) 3 5 := ⟨by decide +kernel, rfl⟩
theorem D14_5 : own_at jdk_29_method_69_code 5 (.iload_n 0) 1 6 := ⟨by decide +kernel, rfl⟩
theorem D14_6 : own_at jdk_29_method_69_code 6 (.goto 4) 3 9 := ⟨by decide +kernel, rfl⟩
theorem D14_9 : own_at jdk_29_method_69_code 9 (.iload_n 1) 1 10 := ⟨by decide +kernel, rfl⟩
theorem D14_10 : own_at jdk_29_method_69_code 10 (.ireturn) 1 11 := ⟨by decide +kernel, rfl⟩
theorem ef_rs_min (m : MethodId) (p0 : Int32) (p1 : Int32) : entryFrame m #[(.int p0), (.int p1)] 2 = mkF m 0 #[.val (.int p0), .val (.int p1)] [] := by first | (simp [entryFrame, mkF, argsToLocals, Value.category]; done) | rfl
set_option maxRecDepth 65536 in
set_option maxHeartbeats 40000000 in
theorem rs_min (l : Launch) (Z : State) (a0 : Array Value) (hw : ∀ d ∈ tables_1, d.before a0 Z = true) (ws : List Jvm.Cond) (p0 : Int32) (p1 : Int32) (r : Int32) (h0 : Heap) (n0 : Nat) (Z0 : n0 ≤ h0.size) (hr : (if p1 < p0 then p1 else p0) = r) :
    MetFree l (⟨"java/lang/Math", "min", "(II)I"⟩ : MethodName) (head1 (Jvm.Cond.code (⟨"java/lang/Math", "min", "(II)I"⟩ : MethodName) jdk_29_method_69_code 2 (some .int) :: ws) ({ frames := 0, cells := 0, slots := 0, locals := 0 } : Room)) (fun a U => a = #[(.int p0), (.int p1)] ∧ Z.Warmed39 U.vm ∧ U.heap = h0) (fun _ _ _ _ _ => True) (fun _ U o U' => ∃ v L, o = .returned v ∧ own_QP (.int r) h0 n0 v U'.heap L ∧ FrameEnd U o U' L ({ frames := 0, cells := 0, slots := 0, locals := 0 } : Room).cells ({ frames := 0, cells := 0, slots := 0, locals := 0 } : Room).slots) := by
  refine MetFree.of_bodySF (Jvm.Free.JP.mathPlain rfl (by decide +kernel)) hisR ?_
  intro p e s m args below meth c s₁ Bd hml0 hP hK
  obtain ⟨rfl, hZ, hh⟩ := hP
  have hx := Bd.exec
  have hby := Bd.bytes
  have hml : c.maxLocals = 2 := hml0
  have hown : s.vm.findClass "java/lang/Math" = some m.cls := findClass_of_methodNamed Bd.named
  have hnm := (name_of_methodNamed Bd.named Bd.method).1
  have X0 : Stand p l e ({ frames := 0, cells := 0, slots := 0, locals := 0 } : Room) s m #[(.int p0), (.int p1)] below meth c s₁ [] 0 0 := Stand.of_body Bd
  have e0 : s₁.heap = h0 := by rw [← hh, Bd.state]; rfl
  have N0 := Fr.nil n0
  refine own_start (ef_rs_min m p0 p1) ?_
  refine o_iloadN X0 hx hby D14_0 rfl ?_
  refine o_iloadN X0 hx hby D14_1 rfl ?_
  by_cases hc2_1 : p1 < p0
  · skip
    refine o_icmpY X0 hx hby D14_2 (tlt hc2_1).2.2.1 (q := 9) (by decide) (by decide) ?_
    refine o_iloadN X0 hx hby D14_9 rfl ?_
    exact own_ret (v := some (.int p1)) X0 (fun h => by first | rfl | (rw [Bd.returns] at h; cases h)) (BodyLoose.notSynchronized Bd) (by decide) (by decide) (⟨by rw [← hr, if_pos hc2_1], N0, e0⟩) (fun fs hr => retI X0 hx Bd.returns (hb hby D14_10.1) hr)
  · skip
    refine o_icmpN X0 hx hby D14_2 (flt hc2_1).2.2.1 ?_
    refine o_iloadN X0 hx hby D14_5 rfl ?_
    refine o_goto X0 hx hby D14_6 (q := 10) (by decide) (by decide) ?_
    exact own_ret (v := some (.int p0)) X0 (fun h => by first | rfl | (rw [Bd.returns] at h; cases h)) (BodyLoose.notSynchronized Bd) (by decide) (by decide) (⟨by rw [← hr, if_neg hc2_1], N0, e0⟩) (fun fs hr => retI X0 hx Bd.returns (hb hby D14_10.1) hr)
theorem D13_0 : own_at jdk_29_method_65_code 0 (.iload_n 0) 1 1 := ⟨by decide +kernel, rfl⟩
theorem D13_1 : own_at jdk_29_method_65_code 1 (.iload_n 1) 1 2 := ⟨by decide +kernel, rfl⟩
theorem D13_2 : own_at jdk_29_method_65_code 2 (.if_icmp .lt 7) 3 5 := ⟨by decide +kernel, rfl⟩
theorem D13_5 : own_at jdk_29_method_65_code 5 (.iload_n 0) 1 6 := ⟨by decide +kernel, rfl⟩
theorem D13_6 : own_at jdk_29_method_65_code 6 (.goto 4) 3 9 := ⟨by decide +kernel, rfl⟩
theorem D13_9 : own_at jdk_29_method_65_code 9 (.iload_n 1) 1 10 := ⟨by decide +kernel, rfl⟩
theorem D13_10 : own_at jdk_29_method_65_code 10 (.ireturn) 1 11 := ⟨by decide +kernel, rfl⟩
theorem ef_rs_max (m : MethodId) (p0 : Int32) (p1 : Int32) : entryFrame m #[(.int p0), (.int p1)] 2 = mkF m 0 #[.val (.int p0), .val (.int p1)] [] := by first | (simp [entryFrame, mkF, argsToLocals, Value.category]; done) | rfl
set_option maxRecDepth 65536 in
set_option maxHeartbeats 40000000 in
theorem rs_max (l : Launch) (Z : State) (a0 : Array Value) (hw : ∀ d ∈ tables_1, d.before a0 Z = true) (ws : List Jvm.Cond) (p0 : Int32) (p1 : Int32) (r : Int32) (h0 : Heap) (n0 : Nat) (Z0 : n0 ≤ h0.size) (hr : (if p0 < p1 then p1 else p0) = r) :
    MetFree l (⟨"java/lang/Math", "max", "(II)I"⟩ : MethodName) (head1 (Jvm.Cond.code (⟨"java/lang/Math", "max", "(II)I"⟩ : MethodName) jdk_29_method_65_code 2 (some .int) :: ws) ({ frames := 0, cells := 0, slots := 0, locals := 0 } : Room)) (fun a U => a = #[(.int p0), (.int p1)] ∧ Z.Warmed39 U.vm ∧ U.heap = h0) (fun _ _ _ _ _ => True) (fun _ U o U' => ∃ v L, o = .returned v ∧ own_QP (.int r) h0 n0 v U'.heap L ∧ FrameEnd U o U' L ({ frames := 0, cells := 0, slots := 0, locals := 0 } : Room).cells ({ frames := 0, cells := 0, slots := 0, locals := 0 } : Room).slots) := by
  refine MetFree.of_bodySF (Jvm.Free.JP.mathPlain rfl (by decide +kernel)) hisR ?_
  intro p e s m args below meth c s₁ Bd hml0 hP hK
  obtain ⟨rfl, hZ, hh⟩ := hP
  have hx := Bd.exec
  have hby := Bd.bytes
  have hml : c.maxLocals = 2 := hml0
  have hown : s.vm.findClass "java/lang/Math" = some m.cls := findClass_of_methodNamed Bd.named
  have hnm := (name_of_methodNamed Bd.named Bd.method).1
  have X0 : Stand p l e ({ frames := 0, cells := 0, slots := 0, locals := 0 } : Room) s m #[(.int p0), (.int p1)] below meth c s₁ [] 0 0 := Stand.of_body Bd
  have e0 : s₁.heap = h0 := by rw [← hh, Bd.state]; rfl
  have N0 := Fr.nil n0
  refine own_start (ef_rs_max m p0 p1) ?_
  refine o_iloadN X0 hx hby D13_0 rfl ?_
  refine o_iloadN X0 hx hby D13_1 rfl ?_
  by_cases hc2_1 : p0 < p1
  · skip
    refine o_icmpY X0 hx hby D13_2 (tlt hc2_1).1 (q := 9) (by decide) (by decide) ?_
    refine o_iloadN X0 hx hby D13_9 rfl ?_
    exact own_ret (v := some (.int p1)) X0 (fun h => by first | rfl | (rw [Bd.returns] at h; cases h)) (BodyLoose.notSynchronized Bd) (by decide) (by decide) (⟨by rw [← hr, if_pos hc2_1], N0, e0⟩) (fun fs hr => retI X0 hx Bd.returns (hb hby D13_10.1) hr)
  · skip
    refine o_icmpN X0 hx hby D13_2 (flt hc2_1).1 ?_
    refine o_iloadN X0 hx hby D13_5 rfl ?_
    refine o_goto X0 hx hby D13_6 (q := 10) (by decide) (by decide) ?_
    exact own_ret (v := some (.int p0)) X0 (fun h => by first | rfl | (rw [Bd.returns] at h; cases h)) (BodyLoose.notSynchronized Bd) (by decide) (by decide) (⟨by rw [← hr, if_neg hc2_1], N0, e0⟩) (fun fs hr => retI X0 hx Bd.returns (hb hby D13_10.1) hr)
theorem D8_0 : own_at jdk_42_method_154_code 0 (.getstatic 38) 3 3 := ⟨by decide +kernel, rfl⟩
theorem D8_3 : own_at jdk_42_method_154_code 3 (.ifCond .eq 14) 3 6 := ⟨by decide +kernel, rfl⟩
theorem D8_6 : own_at jdk_42_method_154_code 6 (.aload_n 0) 1 7 := ⟨by decide +kernel, rfl⟩
theorem D8_7 : own_at jdk_42_method_154_code 7 (.getfield 15) 3 10 := ⟨by decide +kernel, rfl⟩
theorem D8_10 : own_at jdk_42_method_154_code 10 (.ifCond .ne 7) 3 13 := ⟨by decide +kernel, rfl⟩
theorem D8_13 : own_at jdk_42_method_154_code 13 (.iconst 1) 1 14 := ⟨by decide +kernel, rfl⟩
theorem D8_14 : own_at jdk_42_method_154_code 14 (.goto 4) 3 17 := ⟨by decide +kernel, rfl⟩
theorem D8_18 : own_at jdk_42_method_154_code 18 (.ireturn) 1 19 := ⟨by decide +kernel, rfl⟩
theorem ef_rs_il0 (m : MethodId) (st : Addr) : entryFrame m #[(.ref st)] 1 = mkF m 0 #[.val (.ref st)] [] := by first | (simp [entryFrame, mkF, argsToLocals, Value.category]; done) | rfl
set_option maxRecDepth 65536 in
set_option maxHeartbeats 40000000 in
theorem rs_il0 (l : Launch) (Z : State) (a0 : Array Value) (hw : ∀ d ∈ tables_1, d.before a0 Z = true) (ws : List Jvm.Cond) (st : Addr) (cs : Int32) (vf : Value) (h0 : Heap) (n0 : Nat) (Z0 : n0 ≤ h0.size) (hST : own_ST Z cs vf) (O0 : Old Z n0 h0) (F_c : Fld Z h0 st "java/lang/String" "coder" "B" (.int (0 : Int32))) :
    MetFree l (⟨"java/lang/String", "isLatin1", "()Z"⟩ : MethodName) (head1 (Jvm.Cond.code (⟨"java/lang/String", "isLatin1", "()Z"⟩ : MethodName) jdk_42_method_154_code 1 (some .boolean) :: ws) ({ frames := 0, cells := 0, slots := 0, locals := 0 } : Room)) (fun a U => a = #[(.ref st)] ∧ Z.Warmed39 U.vm ∧ U.heap = h0) (fun _ _ _ _ _ => True) (fun _ U o U' => ∃ v L, o = .returned v ∧ own_QP (.int (1 : Int32)) h0 n0 v U'.heap L ∧ FrameEnd U o U' L ({ frames := 0, cells := 0, slots := 0, locals := 0 } : Room).cells ({ frames := 0, cells := 0, slots := 0, locals := 0 } : Room).slots) := by
  refine MetFree.of_bodySF (plainFor_of_name pn_java_lang_String) hisR ?_
  intro p e s m args below meth c s₁ Bd hml0 hP hK
  obtain ⟨rfl, hZ, hh⟩ := hP
  have hx := Bd.exec
  have hby := Bd.bytes
  have hml : c.maxLocals = 1 := hml0
  have hown : s.vm.findClass "java/lang/String" = some m.cls := findClass_of_methodNamed Bd.named
  have hnm := (name_of_methodNamed Bd.named Bd.method).1
  have X0 : Stand p l e ({ frames := 0, cells := 0, slots := 0, locals := 0 } : Room) s m #[(.ref st)] below meth c s₁ [] 0 0 := Stand.of_body Bd
  have e0 : s₁.heap = h0 := by rw [← hh, Bd.state]; rfl
  have N0 := Fr.nil n0
  refine own_start (ef_rs_il0 m st) ?_
  obtain ⟨S_cs, S_ad, S_hb, S_lb, S_sf, hcs, hvf⟩ := hST
  obtain ⟨T1, X1, e1, st1⟩ := getS2 X0 hx hZ hown (host := "") (Or.inl (own_wd hw (i := 45) rfl)) Via.refl e0 (S_cs.ext O0.2) (g := (mkF m 0 #[.val (.ref st)] [])) rfl (hb hby D8_0.1)
  refine own_pre (A' := T1.setTop (mkF m 3 #[.val (.ref st)] [(.int cs)])) st1 ?_
  refine o_ifN X1 hx hby D8_3 ((if0 _ _).trans (feq (hcs : ¬ (cs = (0 : Int32)))).1) ?_
  refine o_aloadN X1 hx hby D8_6 rfl rfl ?_
  obtain ⟨T2, X2, e2, st2⟩ := getF X1 hx hZ hown (host := "") (Or.inl (own_wd hw (i := 25) rfl)) Via.refl e1 F_c (g := (mkF m 7 #[.val (.ref st)] [(.ref st)])) rfl rfl (hb hby D8_7.1)
  refine own_pre (A' := T2.setTop (mkF m 10 #[.val (.ref st)] [(.int (0 : Int32))])) st2 ?_
  refine o_ifN X2 hx hby D8_10 ((if0 _ _).trans (teq (by decide : (0 : Int32) = (0 : Int32))).2) ?_
  refine o_iconst X2 hx hby D8_13 (v := 1) rfl ?_
  refine o_goto X2 hx hby D8_14 (q := 18) (by decide) (by decide) ?_
  exact own_ret (v := some (.int (1 : Int32))) X2 (fun h => by first | rfl | (rw [Bd.returns] at h; cases h)) (BodyLoose.notSynchronized Bd) (by decide) (by decide) (⟨rfl, N0, e2⟩) (fun fs hr => retN X2 hx (t := .boolean) Bd.returns (by simp) (hb hby D8_18.1) hr)
theorem D10_0 : own_at jdk_42_method_152_code 0 (.getstatic 38) 3 3 := ⟨by decide +kernel, rfl⟩
theorem D10_3 : own_at jdk_42_method_152_code 3 (.ifCond .eq 10) 3 6 := ⟨by decide +kernel, rfl⟩
theorem D10_6 : own_at jdk_42_method_152_code 6 (.aload_n 0) 1 7 := ⟨by decide +kernel, rfl⟩
theorem D10_7 : own_at jdk_42_method_152_code 7 (.getfield 15) 3 10 := ⟨by decide +kernel, rfl⟩
theorem D10_10 : own_at jdk_42_method_152_code 10 (.goto 4) 3 13 := ⟨by decide +kernel, rfl⟩
theorem D10_14 : own_at jdk_42_method_152_code 14 (.ireturn) 1 15 := ⟨by decide +kernel, rfl⟩
theorem ef_rs_co0 (m : MethodId) (st : Addr) : entryFrame m #[(.ref st)] 1 = mkF m 0 #[.val (.ref st)] [] := by first | (simp [entryFrame, mkF, argsToLocals, Value.category]; done) | rfl
set_option maxRecDepth 65536 in
set_option maxHeartbeats 40000000 in
theorem rs_co0 (l : Launch) (Z : State) (a0 : Array Value) (hw : ∀ d ∈ tables_1, d.before a0 Z = true) (ws : List Jvm.Cond) (st : Addr) (cs : Int32) (vf : Value) (h0 : Heap) (n0 : Nat) (Z0 : n0 ≤ h0.size) (hST : own_ST Z cs vf) (O0 : Old Z n0 h0) (F_c : Fld Z h0 st "java/lang/String" "coder" "B" (.int (0 : Int32))) :
    MetFree l (⟨"java/lang/String", "coder", "()B"⟩ : MethodName) (head1 (Jvm.Cond.code (⟨"java/lang/String", "coder", "()B"⟩ : MethodName) jdk_42_method_152_code 1 (some .byte) :: ws) ({ frames := 0, cells := 0, slots := 0, locals := 0 } : Room)) (fun a U => a = #[(.ref st)] ∧ Z.Warmed39 U.vm ∧ U.heap = h0) (fun _ _ _ _ _ => True) (fun _ U o U' => ∃ v L, o = .returned v ∧ own_QP (.int (0 : Int32)) h0 n0 v U'.heap L ∧ FrameEnd U o U' L ({ frames := 0, cells := 0, slots := 0, locals := 0 } : Room).cells ({ frames := 0, cells := 0, slots := 0, locals := 0 } : Room).slots) := by
  refine MetFree.of_bodySF (plainFor_of_name pn_java_lang_String) hisR ?_
  intro p e s m args below meth c s₁ Bd hml0 hP hK
  obtain ⟨rfl, hZ, hh⟩ := hP
  have hx := Bd.exec
  have hby := Bd.bytes
  have hml : c.maxLocals = 1 := hml0
  have hown : s.vm.findClass "java/lang/String" = some m.cls := findClass_of_methodNamed Bd.named
  have hnm := (name_of_methodNamed Bd.named Bd.method).1
  have X0 : Stand p l e ({ frames := 0, cells := 0, slots := 0, locals := 0 } : Room) s m #[(.ref st)] below meth c s₁ [] 0 0 := Stand.of_body Bd
  have e0 : s₁.heap = h0 := by rw [← hh, Bd.state]; rfl
  have N0 := Fr.nil n0
  refine own_start (ef_rs_co0 m st) ?_
  obtain ⟨S_cs, S_ad, S_hb, S_lb, S_sf, hcs, hvf⟩ := hST
  obtain ⟨T1, X1, e1, st1⟩ := getS2 X0 hx hZ hown (host := "") (Or.inl (own_wd hw (i := 45) rfl)) Via.refl e0 (S_cs.ext O0.2) (g := (mkF m 0 #[.val (.ref st)] [])) rfl (hb hby D10_0.1)
  refine own_pre (A' := T1.setTop (mkF m 3 #[.val (.ref st)] [(.int cs)])) st1 ?_
  refine o_ifN X1 hx hby D10_3 ((if0 _ _).trans (feq (hcs : ¬ (cs = (0 : Int32)))).1) ?_
  refine o_aloadN X1 hx hby D10_6 rfl rfl ?_
  obtain ⟨T2, X2, e2, st2⟩ := getF X1 hx hZ hown (host := "") (Or.inl (own_wd hw (i := 25) rfl)) Via.refl e1 F_c (g := (mkF m 7 #[.val (.ref st)] [(.ref st)])) rfl rfl (hb hby D10_7.1)
  refine own_pre (A' := T2.setTop (mkF m 10 #[.val (.ref st)] [(.int (0 : Int32))])) st2 ?_
  refine o_goto X2 hx hby D10_10 (q := 14) (by decide) (by decide) ?_
  exact own_ret (v := some (.int (0 : Int32))) X2 (fun h => by first | rfl | (rw [Bd.returns] at h; cases h)) (BodyLoose.notSynchronized Bd) (by decide) (by decide) (⟨rfl, N0, e2⟩) (fun fs hr => retN X2 hx (t := .byte) Bd.returns (by simp) (hb hby D10_14.1) hr)
theorem D8_17 : own_at jdk_42_method_154_code 17 (.iconst 0) 1 18 := ⟨by decide +kernel, rfl⟩
theorem ef_rs_il1 (m : MethodId) (st : Addr) : entryFrame m #[(.ref st)] 1 = mkF m 0 #[.val (.ref st)] [] := by first | (simp [entryFrame, mkF, argsToLocals, Value.category]; done) | rfl
set_option maxRecDepth 65536 in
set_option maxHeartbeats 40000000 in
theorem rs_il1 (l : Launch) (Z : State) (a0 : Array Value) (hw : ∀ d ∈ tables_1, d.before a0 Z = true) (ws : List Jvm.Cond) (st : Addr) (cs : Int32) (vf : Value) (h0 : Heap) (n0 : Nat) (Z0 : n0 ≤ h0.size) (hST : own_ST Z cs vf) (O0 : Old Z n0 h0) (F_c : Fld Z h0 st "java/lang/String" "coder" "B" (.int (1 : Int32))) :
    MetFree l (⟨"java/lang/String", "isLatin1", "()Z"⟩ : MethodName) (head1 (Jvm.Cond.code (⟨"java/lang/String", "isLatin1", "()Z"⟩ : MethodName) jdk_42_method_154_code 1 (some .boolean) :: ws) ({ frames := 0, cells := 0, slots := 0, locals := 0 } : Room)) (fun a U => a = #[(.ref st)] ∧ Z.Warmed39 U.vm ∧ U.heap = h0) (fun _ _ _ _ _ => True) (fun _ U o U' => ∃ v L, o = .returned v ∧ own_QP (.int (0 : Int32)) h0 n0 v U'.heap L ∧ FrameEnd U o U' L ({ frames := 0, cells := 0, slots := 0, locals := 0 } : Room).cells ({ frames := 0, cells := 0, slots := 0, locals := 0 } : Room).slots) := by
  refine MetFree.of_bodySF (plainFor_of_name pn_java_lang_String) hisR ?_
  intro p e s m args below meth c s₁ Bd hml0 hP hK
  obtain ⟨rfl, hZ, hh⟩ := hP
  have hx := Bd.exec
  have hby := Bd.bytes
  have hml : c.maxLocals = 1 := hml0
  have hown : s.vm.findClass "java/lang/String" = some m.cls := findClass_of_methodNamed Bd.named
  have hnm := (name_of_methodNamed Bd.named Bd.method).1
  have X0 : Stand p l e ({ frames := 0, cells := 0, slots := 0, locals := 0 } : Room) s m #[(.ref st)] below meth c s₁ [] 0 0 := Stand.of_body Bd
  have e0 : s₁.heap = h0 := by rw [← hh, Bd.state]; rfl
  have N0 := Fr.nil n0
  refine own_start (ef_rs_il1 m st) ?_
  obtain ⟨S_cs, S_ad, S_hb, S_lb, S_sf, hcs, hvf⟩ := hST
  obtain ⟨T1, X1, e1, st1⟩ := getS2 X0 hx hZ hown (host := "") (Or.inl (own_wd hw (i := 45) rfl)) Via.refl e0 (S_cs.ext O0.2) (g := (mkF m 0 #[.val (.ref st)] [])) rfl (hb hby D8_0.1)
  refine own_pre (A' := T1.setTop (mkF m 3 #[.val (.ref st)] [(.int cs)])) st1 ?_
  refine o_ifN X1 hx hby D8_3 ((if0 _ _).trans (feq (hcs : ¬ (cs = (0 : Int32)))).1) ?_
  refine o_aloadN X1 hx hby D8_6 rfl rfl ?_
  obtain ⟨T2, X2, e2, st2⟩ := getF X1 hx hZ hown (host := "") (Or.inl (own_wd hw (i := 25) rfl)) Via.refl e1 F_c (g := (mkF m 7 #[.val (.ref st)] [(.ref st)])) rfl rfl (hb hby D8_7.1)
  refine own_pre (A' := T2.setTop (mkF m 10 #[.val (.ref st)] [(.int (1 : Int32))])) st2 ?_
  refine o_ifY X2 hx hby D8_10 ((if0 _ _).trans (feq (by decide : ¬ ((1 : Int32) = (0 : Int32)))).2) (q := 17) (by decide) (by decide) ?_
  refine o_iconst X2 hx hby D8_17 (v := 0) rfl ?_
  exact own_ret (v := some (.int (0 : Int32))) X2 (fun h => by first | rfl | (rw [Bd.returns] at h; cases h)) (BodyLoose.notSynchronized Bd) (by decide) (by decide) (⟨rfl, N0, e2⟩) (fun fs hr => retN X2 hx (t := .boolean) Bd.returns (by simp) (hb hby D8_18.1) hr)
theorem ef_rs_co1 (m : MethodId) (st : Addr) : entryFrame m #[(.ref st)] 1 = mkF m 0 #[.val (.ref st)] [] := by first | (simp [entryFrame, mkF, argsToLocals, Value.category]; done) | rfl
set_option maxRecDepth 65536 in
set_option maxHeartbeats 40000000 in
theorem rs_co1 (l : Launch) (Z : State) (a0 : Array Value) (hw : ∀ d ∈ tables_1, d.before a0 Z = true) (ws : List Jvm.Cond) (st : Addr) (cs : Int32) (vf : Value) (h0 : Heap) (n0 : Nat) (Z0 : n0 ≤ h0.size) (hST : own_ST Z cs vf) (O0 : Old Z n0 h0) (F_c : Fld Z h0 st "java/lang/String" "coder" "B" (.int (1 : Int32))) :
    MetFree l (⟨"java/lang/String", "coder", "()B"⟩ : MethodName) (head1 (Jvm.Cond.code (⟨"java/lang/String", "coder", "()B"⟩ : MethodName) jdk_42_method_152_code 1 (some .byte) :: ws) ({ frames := 0, cells := 0, slots := 0, locals := 0 } : Room)) (fun a U => a = #[(.ref st)] ∧ Z.Warmed39 U.vm ∧ U.heap = h0) (fun _ _ _ _ _ => True) (fun _ U o U' => ∃ v L, o = .returned v ∧ own_QP (.int (1 : Int32)) h0 n0 v U'.heap L ∧ FrameEnd U o U' L ({ frames := 0, cells := 0, slots := 0, locals := 0 } : Room).cells ({ frames := 0, cells := 0, slots := 0, locals := 0 } : Room).slots) := by
  refine MetFree.of_bodySF (plainFor_of_name pn_java_lang_String) hisR ?_
  intro p e s m args below meth c s₁ Bd hml0 hP hK
  obtain ⟨rfl, hZ, hh⟩ := hP
  have hx := Bd.exec
  have hby := Bd.bytes
  have hml : c.maxLocals = 1 := hml0
  have hown : s.vm.findClass "java/lang/String" = some m.cls := findClass_of_methodNamed Bd.named
  have hnm := (name_of_methodNamed Bd.named Bd.method).1
  have X0 : Stand p l e ({ frames := 0, cells := 0, slots := 0, locals := 0 } : Room) s m #[(.ref st)] below meth c s₁ [] 0 0 := Stand.of_body Bd
  have e0 : s₁.heap = h0 := by rw [← hh, Bd.state]; rfl
  have N0 := Fr.nil n0
  refine own_start (ef_rs_co1 m st) ?_
  obtain ⟨S_cs, S_ad, S_hb, S_lb, S_sf, hcs, hvf⟩ := hST
  obtain ⟨T1, X1, e1, st1⟩ := getS2 X0 hx hZ hown (host := "") (Or.inl (own_wd hw (i := 45) rfl)) Via.refl e0 (S_cs.ext O0.2) (g := (mkF m 0 #[.val (.ref st)] [])) rfl (hb hby D10_0.1)
  refine own_pre (A' := T1.setTop (mkF m 3 #[.val (.ref st)] [(.int cs)])) st1 ?_
  refine o_ifN X1 hx hby D10_3 ((if0 _ _).trans (feq (hcs : ¬ (cs = (0 : Int32)))).1) ?_
  refine o_aloadN X1 hx hby D10_6 rfl rfl ?_
  obtain ⟨T2, X2, e2, st2⟩ := getF X1 hx hZ hown (host := "") (Or.inl (own_wd hw (i := 25) rfl)) Via.refl e1 F_c (g := (mkF m 7 #[.val (.ref st)] [(.ref st)])) rfl rfl (hb hby D10_7.1)
  refine own_pre (A' := T2.setTop (mkF m 10 #[.val (.ref st)] [(.int (1 : Int32))])) st2 ?_
  refine o_goto X2 hx hby D10_10 (q := 14) (by decide) (by decide) ?_
  exact own_ret (v := some (.int (1 : Int32))) X2 (fun h => by first | rfl | (rw [Bd.returns] at h; cases h)) (BodyLoose.notSynchronized Bd) (by decide) (by decide) (⟨rfl, N0, e2⟩) (fun fs hr => retN X2 hx (t := .byte) Bd.returns (by simp) (hb hby D10_14.1) hr)
theorem pd__40_41B : parseMethodDescriptor "()B" = some ⟨[], some .byte⟩ := by decide +kernel
theorem D9_0 : own_at jdk_42_method_54_code 0 (.aload_n 0) 1 1 := ⟨by decide +kernel, rfl⟩
theorem D9_1 : own_at jdk_42_method_54_code 1 (.getfield 9) 3 4 := ⟨by decide +kernel, rfl⟩
theorem D9_4 : own_at jdk_42_method_54_code 4 (.arraylength) 1 5 := ⟨by decide +kernel, rfl⟩
theorem D9_5 : own_at jdk_42_method_54_code 5 (.aload_n 0) 1 6 := ⟨by decide +kernel, rfl⟩
theorem D9_6 : own_at jdk_42_method_54_code 6 (.invokevirtual 335) 3 9 := ⟨by decide +kernel, rfl⟩
theorem D9_9 : own_at jdk_42_method_54_code 9 (.ishr) 1 10 := ⟨by decide +kernel, rfl⟩
theorem D9_10 : own_at jdk_42_method_54_code 10 (.ireturn) 1 11 := ⟨by decide +kernel, rfl⟩
theorem ef_rs_ln00 (m : MethodId) (st : Addr) : entryFrame m #[(.ref st)] 1 = mkF m 0 #[.val (.ref st)] [] := by first | (simp [entryFrame, mkF, argsToLocals, Value.category]; done) | rfl
set_option maxRecDepth 65536 in
set_option maxHeartbeats 40000000 in
theorem rs_ln00 (l : Launch) (Z : State) (a0 : Array Value) (hw : ∀ d ∈ tables_1, d.before a0 Z = true) (ws : List Jvm.Cond) (st : Addr) (vb : Addr) (kb : ClassId) (xs : List Value) (cs : Int32) (vf : Value) (h0 : Heap) (n0 : Nat) (Z0 : n0 ≤ h0.size) (hST : own_ST Z cs vf) (O0 : Old Z n0 h0) (E_st : Exa Z h0 st "java/lang/String") (F_c : Fld Z h0 st "java/lang/String" "coder" "B" (.int (0 : Int32))) (F_v : Fld Z h0 st "java/lang/String" "value" "[B" (.ref vb)) (Vb : Arv Z h0 vb kb .byte (0 : Int32) xs (.int (0 : Int32))) :
    MetFree l (⟨"java/lang/String", "length", "()I"⟩ : MethodName) (head1 (Jvm.Cond.code (⟨"java/lang/String", "length", "()I"⟩ : MethodName) jdk_42_method_54_code 1 (some .int) :: ws) ({ frames := 1, cells := 0, slots := 0, locals := 13 } : Room)) (fun a U => a = #[(.ref st)] ∧ Z.Warmed39 U.vm ∧ U.heap = h0) (fun _ _ _ _ _ => True) (fun _ U o U' => ∃ v L, o = .returned v ∧ own_QP (.int (0 : Int32)) h0 n0 v U'.heap L ∧ FrameEnd U o U' L ({ frames := 1, cells := 0, slots := 0, locals := 13 } : Room).cells ({ frames := 1, cells := 0, slots := 0, locals := 13 } : Room).slots) := by
  refine MetFree.of_bodySF (plainFor_of_name pn_java_lang_String) hisR ?_
  intro p e s m args below meth c s₁ Bd hml0 hP hK
  obtain ⟨rfl, hZ, hh⟩ := hP
  have hx := Bd.exec
  have hby := Bd.bytes
  have hml : c.maxLocals = 1 := hml0
  have hown : s.vm.findClass "java/lang/String" = some m.cls := findClass_of_methodNamed Bd.named
  have hnm := (name_of_methodNamed Bd.named Bd.method).1
  have X0 : Stand p l e ({ frames := 1, cells := 0, slots := 0, locals := 13 } : Room) s m #[(.ref st)] below meth c s₁ [] 0 0 := Stand.of_body Bd
  have e0 : s₁.heap = h0 := by rw [← hh, Bd.state]; rfl
  have N0 := Fr.nil n0
  refine own_start (ef_rs_ln00 m st) ?_
  have hST0 := hST
  obtain ⟨S_cs, S_ad, S_hb, S_lb, S_sf, hcs, hvf⟩ := hST
  refine o_aloadN X0 hx hby D9_0 rfl rfl ?_
  obtain ⟨T1, X1, e1, st1⟩ := getF X0 hx hZ hown (host := "") (Or.inl (own_wd hw (i := 24) rfl)) Via.refl e0 F_v (g := (mkF m 1 #[.val (.ref st)] [(.ref st)])) rfl rfl (hb hby D9_1.1)
  refine own_pre (A' := T1.setTop (mkF m 4 #[.val (.ref st)] [(.ref vb)])) st1 ?_
  obtain ⟨cl_vb_2, Ar_vb_2, q_vb_2, S_vb_2, N_vb_2, H_vb_2, G_vb_2⟩ := id Vb
  refine own_pre (A' := T1.setTop (mkF m 5 #[.val (.ref st)] [(.int (0 : Int32))])) (fun t k => X1.arraylength hx (by rw [e1]; exact Ar_vb_2.1) (State.isArrayOf_alike hZ.alike Ar_vb_2.2.1) (g := (mkF m 4 #[.val (.ref st)] [(.ref vb)])) rfl rfl (hb hby D9_4.1) _ (by rw [len_of S_vb_2 N_vb_2]; exact k)) ?_
  refine o_aloadN X1 hx hby D9_5 rfl rfl ?_
  obtain ⟨cq3, kq3, q3a, q3b, q3c⟩ := isOf hZ e1 E_st
  obtain ⟨_, _, ⟨T3, L3, k3, n3⟩, -, X3, ⟨Lc3, hQ3, l3, y3, z3⟩, st3⟩ := X1.virtualBack hx (y := (⟨"java/lang/String", "coder", "()B"⟩ : MethodName)) (z := (⟨"java/lang/String", "coder", "()B"⟩ : MethodName)) hown (mvT hZ (own_wd hw (i := 51) rfl)) (mvT hZ (own_wd hw (i := 52) rfl)) (notFace_of_selects (args := #[]) (mvT hZ (own_wd hw (i := 54) rfl))) (mvT hZ (own_wd hw (i := 54) rfl)) (mvT hZ (own_wd hw (i := 53) rfl)) (by decide) (backOf (W := 1) (rs_co0 l Z a0 hw [] st cs vf h0 n0 Z0 hST0 O0 F_c) hZ (own_wd hw (i := 55) rfl) (own_wd hw (i := 7) rfl) (by decide) (by decide)) q3a q3c (g := (mkF m 6 #[.val (.ref st)] [(.ref st), (.int (0 : Int32))])) rfl (by rw [hml]; rfl) (Steps.refl _) (argsL := []) (rest := [(.int (0 : Int32))]) (lenOf pd__40_41B rfl) rfl (by show 2 * 0 + _ ≤ _; exact Nat.le_of_eq rfl) (hb hby D9_6.1) (fun _ _ => ⟨rfl, e1, (by decide : 0 + 0 ≤ _), (by decide : 0 + 0 ≤ _)⟩)
  dsimp only [Pt.U, Pt.locs, Pt.cells, Pt.slots] at X3 l3 y3 z3 st3 hQ3
  subst l3 y3 z3
  obtain ⟨rfl, N3q, e3⟩ := hQ3
  have N3 := Fr.app N0 N3q
  refine own_pre (A' := T3.setTop (mkF m 9 #[.val (.ref st)] [(.int (0 : Int32)), (.int (0 : Int32))])) (fun t k => st3.trans k) ?_
  refine o_ishr X3 hx hby D9_9 ?_
  rw [(by decide : ((0 : Int32) >>> ((0 : Int32) &&& 31)) = (0 : Int32))]
  exact own_ret (v := some (.int (0 : Int32))) X3 (fun h => by first | rfl | (rw [Bd.returns] at h; cases h)) (BodyLoose.notSynchronized Bd) (by decide) (by decide) (⟨rfl, N3, e3⟩) (fun fs hr => retI X3 hx Bd.returns (hb hby D9_10.1) hr)
theorem ef_rs_ln10 (m : MethodId) (st : Addr) : entryFrame m #[(.ref st)] 1 = mkF m 0 #[.val (.ref st)] [] := by first | (simp [entryFrame, mkF, argsToLocals, Value.category]; done) | rfl
set_option maxRecDepth 65536 in
set_option maxHeartbeats 40000000 in
theorem rs_ln10 (l : Launch) (Z : State) (a0 : Array Value) (hw : ∀ d ∈ tables_1, d.before a0 Z = true) (ws : List Jvm.Cond) (st : Addr) (vb : Addr) (kb : ClassId) (xs : List Value) (cs : Int32) (vf : Value) (h0 : Heap) (n0 : Nat) (Z0 : n0 ≤ h0.size) (hST : own_ST Z cs vf) (O0 : Old Z n0 h0) (E_st : Exa Z h0 st "java/lang/String") (F_c : Fld Z h0 st "java/lang/String" "coder" "B" (.int (0 : Int32))) (F_v : Fld Z h0 st "java/lang/String" "value" "[B" (.ref vb)) (Vb : Arv Z h0 vb kb .byte (1 : Int32) xs (.int (0 : Int32))) :
    MetFree l (⟨"java/lang/String", "length", "()I"⟩ : MethodName) (head1 (Jvm.Cond.code (⟨"java/lang/String", "length", "()I"⟩ : MethodName) jdk_42_method_54_code 1 (some .int) :: ws) ({ frames := 1, cells := 0, slots := 0, locals := 13 } : Room)) (fun a U => a = #[(.ref st)] ∧ Z.Warmed39 U.vm ∧ U.heap = h0) (fun _ _ _ _ _ => True) (fun _ U o U' => ∃ v L, o = .returned v ∧ own_QP (.int (1 : Int32)) h0 n0 v U'.heap L ∧ FrameEnd U o U' L ({ frames := 1, cells := 0, slots := 0, locals := 13 } : Room).cells ({ frames := 1, cells := 0, slots := 0, locals := 13 } : Room).slots) := by
  refine MetFree.of_bodySF (plainFor_of_name pn_java_lang_String) hisR ?_
  intro p e s m args below meth c s₁ Bd hml0 hP hK
  obtain ⟨rfl, hZ, hh⟩ := hP
  have hx := Bd.exec
  have hby := Bd.bytes
  have hml : c.maxLocals = 1 := hml0
  have hown : s.vm.findClass "java/lang/String" = some m.cls := findClass_of_methodNamed Bd.named
  have hnm := (name_of_methodNamed Bd.named Bd.method).1
  have X0 : Stand p l e ({ frames := 1, cells := 0, slots := 0, locals := 13 } : Room) s m #[(.ref st)] below meth c s₁ [] 0 0 := Stand.of_body Bd
  have e0 : s₁.heap = h0 := by rw [← hh, Bd.state]; rfl
  have N0 := Fr.nil n0
  refine own_start (ef_rs_ln10 m st) ?_
  have hST0 := hST
  obtain ⟨S_cs, S_ad, S_hb, S_lb, S_sf, hcs, hvf⟩ := hST
  refine o_aloadN X0 hx hby D9_0 rfl rfl ?_
  obtain ⟨T1, X1, e1, st1⟩ := getF X0 hx hZ hown (host := "") (Or.inl (own_wd hw (i := 24) rfl)) Via.refl e0 F_v (g := (mkF m 1 #[.val (.ref st)] [(.ref st)])) rfl rfl (hb hby D9_1.1)
  refine own_pre (A' := T1.setTop (mkF m 4 #[.val (.ref st)] [(.ref vb)])) st1 ?_
  obtain ⟨cl_vb_2, Ar_vb_2, q_vb_2, S_vb_2, N_vb_2, H_vb_2, G_vb_2⟩ := id Vb
  refine own_pre (A' := T1.setTop (mkF m 5 #[.val (.ref st)] [(.int (1 : Int32))])) (fun t k => X1.arraylength hx (by rw [e1]; exact Ar_vb_2.1) (State.isArrayOf_alike hZ.alike Ar_vb_2.2.1) (g := (mkF m 4 #[.val (.ref st)] [(.ref vb)])) rfl rfl (hb hby D9_4.1) _ (by rw [len_of S_vb_2 N_vb_2]; exact k)) ?_
  refine o_aloadN X1 hx hby D9_5 rfl rfl ?_
  obtain ⟨cq3, kq3, q3a, q3b, q3c⟩ := isOf hZ e1 E_st
  obtain ⟨_, _, ⟨T3, L3, k3, n3⟩, -, X3, ⟨Lc3, hQ3, l3, y3, z3⟩, st3⟩ := X1.virtualBack hx (y := (⟨"java/lang/String", "coder", "()B"⟩ : MethodName)) (z := (⟨"java/lang/String", "coder", "()B"⟩ : MethodName)) hown (mvT hZ (own_wd hw (i := 51) rfl)) (mvT hZ (own_wd hw (i := 52) rfl)) (notFace_of_selects (args := #[]) (mvT hZ (own_wd hw (i := 54) rfl))) (mvT hZ (own_wd hw (i := 54) rfl)) (mvT hZ (own_wd hw (i := 53) rfl)) (by decide) (backOf (W := 1) (rs_co0 l Z a0 hw [] st cs vf h0 n0 Z0 hST0 O0 F_c) hZ (own_wd hw (i := 55) rfl) (own_wd hw (i := 7) rfl) (by decide) (by decide)) q3a q3c (g := (mkF m 6 #[.val (.ref st)] [(.ref st), (.int (1 : Int32))])) rfl (by rw [hml]; rfl) (Steps.refl _) (argsL := []) (rest := [(.int (1 : Int32))]) (lenOf pd__40_41B rfl) rfl (by show 2 * 0 + _ ≤ _; exact Nat.le_of_eq rfl) (hb hby D9_6.1) (fun _ _ => ⟨rfl, e1, (by decide : 0 + 0 ≤ _), (by decide : 0 + 0 ≤ _)⟩)
  dsimp only [Pt.U, Pt.locs, Pt.cells, Pt.slots] at X3 l3 y3 z3 st3 hQ3
  subst l3 y3 z3
  obtain ⟨rfl, N3q, e3⟩ := hQ3
  have N3 := Fr.app N0 N3q
  refine own_pre (A' := T3.setTop (mkF m 9 #[.val (.ref st)] [(.int (0 : Int32)), (.int (1 : Int32))])) (fun t k => st3.trans k) ?_
  refine o_ishr X3 hx hby D9_9 ?_
  rw [(by decide : ((1 : Int32) >>> ((0 : Int32) &&& 31)) = (1 : Int32))]
  exact own_ret (v := some (.int (1 : Int32))) X3 (fun h => by first | rfl | (rw [Bd.returns] at h; cases h)) (BodyLoose.notSynchronized Bd) (by decide) (by decide) (⟨rfl, N3, e3⟩) (fun fs hr => retI X3 hx Bd.returns (hb hby D9_10.1) hr)
theorem ef_rs_ln11 (m : MethodId) (st : Addr) : entryFrame m #[(.ref st)] 1 = mkF m 0 #[.val (.ref st)] [] := by first | (simp [entryFrame, mkF, argsToLocals, Value.category]; done) | rfl
set_option maxRecDepth 65536 in
set_option maxHeartbeats 40000000 in
theorem rs_ln11 (l : Launch) (Z : State) (a0 : Array Value) (hw : ∀ d ∈ tables_1, d.before a0 Z = true) (ws : List Jvm.Cond) (st : Addr) (vb : Addr) (kb : ClassId) (xs : List Value) (cs : Int32) (vf : Value) (h0 : Heap) (n0 : Nat) (Z0 : n0 ≤ h0.size) (hST : own_ST Z cs vf) (O0 : Old Z n0 h0) (E_st : Exa Z h0 st "java/lang/String") (F_c : Fld Z h0 st "java/lang/String" "coder" "B" (.int (1 : Int32))) (F_v : Fld Z h0 st "java/lang/String" "value" "[B" (.ref vb)) (Vb : Arv Z h0 vb kb .byte (2 : Int32) xs (.int (0 : Int32))) :
    MetFree l (⟨"java/lang/String", "length", "()I"⟩ : MethodName) (head1 (Jvm.Cond.code (⟨"java/lang/String", "length", "()I"⟩ : MethodName) jdk_42_method_54_code 1 (some .int) :: ws) ({ frames := 1, cells := 0, slots := 0, locals := 13 } : Room)) (fun a U => a = #[(.ref st)] ∧ Z.Warmed39 U.vm ∧ U.heap = h0) (fun _ _ _ _ _ => True) (fun _ U o U' => ∃ v L, o = .returned v ∧ own_QP (.int (1 : Int32)) h0 n0 v U'.heap L ∧ FrameEnd U o U' L ({ frames := 1, cells := 0, slots := 0, locals := 13 } : Room).cells ({ frames := 1, cells := 0, slots := 0, locals := 13 } : Room).slots) := by
  refine MetFree.of_bodySF (plainFor_of_name pn_java_lang_String) hisR ?_
  intro p e s m args below meth c s₁ Bd hml0 hP hK
  obtain ⟨rfl, hZ, hh⟩ := hP
  have hx := Bd.exec
  have hby := Bd.bytes
  have hml : c.maxLocals = 1 := hml0
  have hown : s.vm.findClass "java/lang/String" = some m.cls := findClass_of_methodNamed Bd.named
  have hnm := (name_of_methodNamed Bd.named Bd.method).1
  have X0 : Stand p l e ({ frames := 1, cells := 0, slots := 0, locals := 13 } : Room) s m #[(.ref st)] below meth c s₁ [] 0 0 := Stand.of_body Bd
  have e0 : s₁.heap = h0 := by rw [← hh, Bd.state]; rfl
  have N0 := Fr.nil n0
  refine own_start (ef_rs_ln11 m st) ?_
  have hST0 := hST
  obtain ⟨S_cs, S_ad, S_hb, S_lb, S_sf, hcs, hvf⟩ := hST
  refine o_aloadN X0 hx hby D9_0 rfl rfl ?_
  obtain ⟨T1, X1, e1, st1⟩ := getF X0 hx hZ hown (host := "") (Or.inl (own_wd hw (i := 24) rfl)) Via.refl e0 F_v (g := (mkF m 1 #[.val (.ref st)] [(.ref st)])) rfl rfl (hb hby D9_1.1)
  refine own_pre (A' := T1.setTop (mkF m 4 #[.val (.ref st)] [(.ref vb)])) st1 ?_
  obtain ⟨cl_vb_2, Ar_vb_2, q_vb_2, S_vb_2, N_vb_2, H_vb_2, G_vb_2⟩ := id Vb
  refine own_pre (A' := T1.setTop (mkF m 5 #[.val (.ref st)] [(.int (2 : Int32))])) (fun t k => X1.arraylength hx (by rw [e1]; exact Ar_vb_2.1) (State.isArrayOf_alike hZ.alike Ar_vb_2.2.1) (g := (mkF m 4 #[.val (.ref st)] [(.ref vb)])) rfl rfl (hb hby D9_4.1) _ (by rw [len_of S_vb_2 N_vb_2]; exact k)) ?_
  refine o_aloadN X1 hx hby D9_5 rfl rfl ?_
  obtain ⟨cq3, kq3, q3a, q3b, q3c⟩ := isOf hZ e1 E_st
  obtain ⟨_, _, ⟨T3, L3, k3, n3⟩, -, X3, ⟨Lc3, hQ3, l3, y3, z3⟩, st3⟩ := X1.virtualBack hx (y := (⟨"java/lang/String", "coder", "()B"⟩ : MethodName)) (z := (⟨"java/lang/String", "coder", "()B"⟩ : MethodName)) hown (mvT hZ (own_wd hw (i := 51) rfl)) (mvT hZ (own_wd hw (i := 52) rfl)) (notFace_of_selects (args := #[]) (mvT hZ (own_wd hw (i := 54) rfl))) (mvT hZ (own_wd hw (i := 54) rfl)) (mvT hZ (own_wd hw (i := 53) rfl)) (by decide) (backOf (W := 1) (rs_co1 l Z a0 hw [] st cs vf h0 n0 Z0 hST0 O0 F_c) hZ (own_wd hw (i := 55) rfl) (own_wd hw (i := 7) rfl) (by decide) (by decide)) q3a q3c (g := (mkF m 6 #[.val (.ref st)] [(.ref st), (.int (2 : Int32))])) rfl (by rw [hml]; rfl) (Steps.refl _) (argsL := []) (rest := [(.int (2 : Int32))]) (lenOf pd__40_41B rfl) rfl (by show 2 * 0 + _ ≤ _; exact Nat.le_of_eq rfl) (hb hby D9_6.1) (fun _ _ => ⟨rfl, e1, (by decide : 0 + 0 ≤ _), (by decide : 0 + 0 ≤ _)⟩)
  dsimp only [Pt.U, Pt.locs, Pt.cells, Pt.slots] at X3 l3 y3 z3 st3 hQ3
  subst l3 y3 z3
  obtain ⟨rfl, N3q, e3⟩ := hQ3
  have N3 := Fr.app N0 N3q
  refine own_pre (A' := T3.setTop (mkF m 9 #[.val (.ref st)] [(.int (1 : Int32)), (.int (2 : Int32))])) (fun t k => st3.trans k) ?_
  refine o_ishr X3 hx hby D9_9 ?_
  rw [(by decide : ((2 : Int32) >>> ((1 : Int32) &&& 31)) = (1 : Int32))]
  exact own_ret (v := some (.int (1 : Int32))) X3 (fun h => by first | rfl | (rw [Bd.returns] at h; cases h)) (BodyLoose.notSynchronized Bd) (by decide) (by decide) (⟨rfl, N3, e3⟩) (fun fs hr => retI X3 hx Bd.returns (hb hby D9_10.1) hr)
theorem ef_rs_ln20 (m : MethodId) (st : Addr) : entryFrame m #[(.ref st)] 1 = mkF m 0 #[.val (.ref st)] [] := by first | (simp [entryFrame, mkF, argsToLocals, Value.category]; done) | rfl
set_option maxRecDepth 65536 in
set_option maxHeartbeats 40000000 in
theorem rs_ln20 (l : Launch) (Z : State) (a0 : Array Value) (hw : ∀ d ∈ tables_1, d.before a0 Z = true) (ws : List Jvm.Cond) (st : Addr) (vb : Addr) (kb : ClassId) (xs : List Value) (cs : Int32) (vf : Value) (h0 : Heap) (n0 : Nat) (Z0 : n0 ≤ h0.size) (hST : own_ST Z cs vf) (O0 : Old Z n0 h0) (E_st : Exa Z h0 st "java/lang/String") (F_c : Fld Z h0 st "java/lang/String" "coder" "B" (.int (0 : Int32))) (F_v : Fld Z h0 st "java/lang/String" "value" "[B" (.ref vb)) (Vb : Arv Z h0 vb kb .byte (2 : Int32) xs (.int (0 : Int32))) :
    MetFree l (⟨"java/lang/String", "length", "()I"⟩ : MethodName) (head1 (Jvm.Cond.code (⟨"java/lang/String", "length", "()I"⟩ : MethodName) jdk_42_method_54_code 1 (some .int) :: ws) ({ frames := 1, cells := 0, slots := 0, locals := 13 } : Room)) (fun a U => a = #[(.ref st)] ∧ Z.Warmed39 U.vm ∧ U.heap = h0) (fun _ _ _ _ _ => True) (fun _ U o U' => ∃ v L, o = .returned v ∧ own_QP (.int (2 : Int32)) h0 n0 v U'.heap L ∧ FrameEnd U o U' L ({ frames := 1, cells := 0, slots := 0, locals := 13 } : Room).cells ({ frames := 1, cells := 0, slots := 0, locals := 13 } : Room).slots) := by
  refine MetFree.of_bodySF (plainFor_of_name pn_java_lang_String) hisR ?_
  intro p e s m args below meth c s₁ Bd hml0 hP hK
  obtain ⟨rfl, hZ, hh⟩ := hP
  have hx := Bd.exec
  have hby := Bd.bytes
  have hml : c.maxLocals = 1 := hml0
  have hown : s.vm.findClass "java/lang/String" = some m.cls := findClass_of_methodNamed Bd.named
  have hnm := (name_of_methodNamed Bd.named Bd.method).1
  have X0 : Stand p l e ({ frames := 1, cells := 0, slots := 0, locals := 13 } : Room) s m #[(.ref st)] below meth c s₁ [] 0 0 := Stand.of_body Bd
  have e0 : s₁.heap = h0 := by rw [← hh, Bd.state]; rfl
  have N0 := Fr.nil n0
  refine own_start (ef_rs_ln20 m st) ?_
  have hST0 := hST
  obtain ⟨S_cs, S_ad, S_hb, S_lb, S_sf, hcs, hvf⟩ := hST
  refine o_aloadN X0 hx hby D9_0 rfl rfl ?_
  obtain ⟨T1, X1, e1, st1⟩ := getF X0 hx hZ hown (host := "") (Or.inl (own_wd hw (i := 24) rfl)) Via.refl e0 F_v (g := (mkF m 1 #[.val (.ref st)] [(.ref st)])) rfl rfl (hb hby D9_1.1)
  refine own_pre (A' := T1.setTop (mkF m 4 #[.val (.ref st)] [(.ref vb)])) st1 ?_
  obtain ⟨cl_vb_2, Ar_vb_2, q_vb_2, S_vb_2, N_vb_2, H_vb_2, G_vb_2⟩ := id Vb
  refine own_pre (A' := T1.setTop (mkF m 5 #[.val (.ref st)] [(.int (2 : Int32))])) (fun t k => X1.arraylength hx (by rw [e1]; exact Ar_vb_2.1) (State.isArrayOf_alike hZ.alike Ar_vb_2.2.1) (g := (mkF m 4 #[.val (.ref st)] [(.ref vb)])) rfl rfl (hb hby D9_4.1) _ (by rw [len_of S_vb_2 N_vb_2]; exact k)) ?_
  refine o_aloadN X1 hx hby D9_5 rfl rfl ?_
  obtain ⟨cq3, kq3, q3a, q3b, q3c⟩ := isOf hZ e1 E_st
  obtain ⟨_, _, ⟨T3, L3, k3, n3⟩, -, X3, ⟨Lc3, hQ3, l3, y3, z3⟩, st3⟩ := X1.virtualBack hx (y := (⟨"java/lang/String", "coder", "()B"⟩ : MethodName)) (z := (⟨"java/lang/String", "coder", "()B"⟩ : MethodName)) hown (mvT hZ (own_wd hw (i := 51) rfl)) (mvT hZ (own_wd hw (i := 52) rfl)) (notFace_of_selects (args := #[]) (mvT hZ (own_wd hw (i := 54) rfl))) (mvT hZ (own_wd hw (i := 54) rfl)) (mvT hZ (own_wd hw (i := 53) rfl)) (by decide) (backOf (W := 1) (rs_co0 l Z a0 hw [] st cs vf h0 n0 Z0 hST0 O0 F_c) hZ (own_wd hw (i := 55) rfl) (own_wd hw (i := 7) rfl) (by decide) (by decide)) q3a q3c (g := (mkF m 6 #[.val (.ref st)] [(.ref st), (.int (2 : Int32))])) rfl (by rw [hml]; rfl) (Steps.refl _) (argsL := []) (rest := [(.int (2 : Int32))]) (lenOf pd__40_41B rfl) rfl (by show 2 * 0 + _ ≤ _; exact Nat.le_of_eq rfl) (hb hby D9_6.1) (fun _ _ => ⟨rfl, e1, (by decide : 0 + 0 ≤ _), (by decide : 0 + 0 ≤ _)⟩)
  dsimp only [Pt.U, Pt.locs, Pt.cells, Pt.slots] at X3 l3 y3 z3 st3 hQ3
  subst l3 y3 z3
  obtain ⟨rfl, N3q, e3⟩ := hQ3
  have N3 := Fr.app N0 N3q
  refine own_pre (A' := T3.setTop (mkF m 9 #[.val (.ref st)] [(.int (0 : Int32)), (.int (2 : Int32))])) (fun t k => st3.trans k) ?_
  refine o_ishr X3 hx hby D9_9 ?_
  rw [(by decide : ((2 : Int32) >>> ((0 : Int32) &&& 31)) = (2 : Int32))]
  exact own_ret (v := some (.int (2 : Int32))) X3 (fun h => by first | rfl | (rw [Bd.returns] at h; cases h)) (BodyLoose.notSynchronized Bd) (by decide) (by decide) (⟨rfl, N3, e3⟩) (fun fs hr => retI X3 hx Bd.returns (hb hby D9_10.1) hr)
theorem ef_rs_ln21 (m : MethodId) (st : Addr) : entryFrame m #[(.ref st)] 1 = mkF m 0 #[.val (.ref st)] [] := by first | (simp [entryFrame, mkF, argsToLocals, Value.category]; done) | rfl
set_option maxRecDepth 65536 in
set_option maxHeartbeats 40000000 in
theorem rs_ln21 (l : Launch) (Z : State) (a0 : Array Value) (hw : ∀ d ∈ tables_1, d.before a0 Z = true) (ws : List Jvm.Cond) (st : Addr) (vb : Addr) (kb : ClassId) (xs : List Value) (cs : Int32) (vf : Value) (h0 : Heap) (n0 : Nat) (Z0 : n0 ≤ h0.size) (hST : own_ST Z cs vf) (O0 : Old Z n0 h0) (E_st : Exa Z h0 st "java/lang/String") (F_c : Fld Z h0 st "java/lang/String" "coder" "B" (.int (1 : Int32))) (F_v : Fld Z h0 st "java/lang/String" "value" "[B" (.ref vb)) (Vb : Arv Z h0 vb kb .byte (4 : Int32) xs (.int (0 : Int32))) :
    MetFree l (⟨"java/lang/String", "length", "()I"⟩ : MethodName) (head1 (Jvm.Cond.code (⟨"java/lang/String", "length", "()I"⟩ : MethodName) jdk_42_method_54_code 1 (some .int) :: ws) ({ frames := 1, cells := 0, slots := 0, locals := 13 } : Room)) (fun a U => a = #[(.ref st)] ∧ Z.Warmed39 U.vm ∧ U.heap = h0) (fun _ _ _ _ _ => True) (fun _ U o U' => ∃ v L, o = .returned v ∧ own_QP (.int (2 : Int32)) h0 n0 v U'.heap L ∧ FrameEnd U o U' L ({ frames := 1, cells := 0, slots := 0, locals := 13 } : Room).cells ({ frames := 1, cells := 0, slots := 0, locals := 13 } : Room).slots) := by
  refine MetFree.of_bodySF (plainFor_of_name pn_java_lang_String) hisR ?_
  intro p e s m args below meth c s₁ Bd hml0 hP hK
  obtain ⟨rfl, hZ, hh⟩ := hP
  have hx := Bd.exec
  have hby := Bd.bytes
  have hml : c.maxLocals = 1 := hml0
  have hown : s.vm.findClass "java/lang/String" = some m.cls := findClass_of_methodNamed Bd.named
  have hnm := (name_of_methodNamed Bd.named Bd.method).1
  have X0 : Stand p l e ({ frames := 1, cells := 0, slots := 0, locals := 13 } : Room) s m #[(.ref st)] below meth c s₁ [] 0 0 := Stand.of_body Bd
  have e0 : s₁.heap = h0 := by rw [← hh, Bd.state]; rfl
  have N0 := Fr.nil n0
  refine own_start (ef_rs_ln21 m st) ?_
  have hST0 := hST
  obtain ⟨S_cs, S_ad, S_hb, S_lb, S_sf, hcs, hvf⟩ := hST
  refine o_aloadN X0 hx hby D9_0 rfl rfl ?_
  obtain ⟨T1, X1, e1, st1⟩ := getF X0 hx hZ hown (host := "") (Or.inl (own_wd hw (i := 24) rfl)) Via.refl e0 F_v (g := (mkF m 1 #[.val (.ref st)] [(.ref st)])) rfl rfl (hb hby D9_1.1)
  refine own_pre (A' := T1.setTop (mkF m 4 #[.val (.ref st)] [(.ref vb)])) st1 ?_
  obtain ⟨cl_vb_2, Ar_vb_2, q_vb_2, S_vb_2, N_vb_2, H_vb_2, G_vb_2⟩ := id Vb
  refine own_pre (A' := T1.setTop (mkF m 5 #[.val (.ref st)] [(.int (4 : Int32))])) (fun t k => X1.arraylength hx (by rw [e1]; exact Ar_vb_2.1) (State.isArrayOf_alike hZ.alike Ar_vb_2.2.1) (g := (mkF m 4 #[.val (.ref st)] [(.ref vb)])) rfl rfl (hb hby D9_4.1) _ (by rw [len_of S_vb_2 N_vb_2]; exact k)) ?_
  refine o_aloadN X1 hx hby D9_5 rfl rfl ?_
  obtain ⟨cq3, kq3, q3a, q3b, q3c⟩ := isOf hZ e1 E_st
  obtain ⟨_, _, ⟨T3, L3, k3, n3⟩, -, X3, ⟨Lc3, hQ3, l3, y3, z3⟩, st3⟩ := X1.virtualBack hx (y := (⟨"java/lang/String", "coder", "()B"⟩ : MethodName)) (z := (⟨"java/lang/String", "coder", "()B"⟩ : MethodName)) hown (mvT hZ (own_wd hw (i := 51) rfl)) (mvT hZ (own_wd hw (i := 52) rfl)) (notFace_of_selects (args := #[]) (mvT hZ (own_wd hw (i := 54) rfl))) (mvT hZ (own_wd hw (i := 54) rfl)) (mvT hZ (own_wd hw (i := 53) rfl)) (by decide) (backOf (W := 1) (rs_co1 l Z a0 hw [] st cs vf h0 n0 Z0 hST0 O0 F_c) hZ (own_wd hw (i := 55) rfl) (own_wd hw (i := 7) rfl) (by decide) (by decide)) q3a q3c (g := (mkF m 6 #[.val (.ref st)] [(.ref st), (.int (4 : Int32))])) rfl (by rw [hml]; rfl) (Steps.refl _) (argsL := []) (rest := [(.int (4 : Int32))]) (lenOf pd__40_41B rfl) rfl (by show 2 * 0 + _ ≤ _; exact Nat.le_of_eq rfl) (hb hby D9_6.1) (fun _ _ => ⟨rfl, e1, (by decide : 0 + 0 ≤ _), (by decide : 0 + 0 ≤ _)⟩)
  dsimp only [Pt.U, Pt.locs, Pt.cells, Pt.slots] at X3 l3 y3 z3 st3 hQ3
  subst l3 y3 z3
  obtain ⟨rfl, N3q, e3⟩ := hQ3
  have N3 := Fr.app N0 N3q
  refine own_pre (A' := T3.setTop (mkF m 9 #[.val (.ref st)] [(.int (1 : Int32)), (.int (4 : Int32))])) (fun t k => st3.trans k) ?_
  refine o_ishr X3 hx hby D9_9 ?_
  rw [(by decide : ((4 : Int32) >>> ((1 : Int32) &&& 31)) = (2 : Int32))]
  exact own_ret (v := some (.int (2 : Int32))) X3 (fun h => by first | rfl | (rw [Bd.returns] at h; cases h)) (BodyLoose.notSynchronized Bd) (by decide) (by decide) (⟨rfl, N3, e3⟩) (fun fs hr => retI X3 hx Bd.returns (hb hby D9_10.1) hr)
theorem ef_rs_ln30 (m : MethodId) (st : Addr) : entryFrame m #[(.ref st)] 1 = mkF m 0 #[.val (.ref st)] [] := by first | (simp [entryFrame, mkF, argsToLocals, Value.category]; done) | rfl
set_option maxRecDepth 65536 in
set_option maxHeartbeats 40000000 in
theorem rs_ln30 (l : Launch) (Z : State) (a0 : Array Value) (hw : ∀ d ∈ tables_1, d.before a0 Z = true) (ws : List Jvm.Cond) (st : Addr) (vb : Addr) (kb : ClassId) (xs : List Value) (cs : Int32) (vf : Value) (h0 : Heap) (n0 : Nat) (Z0 : n0 ≤ h0.size) (hST : own_ST Z cs vf) (O0 : Old Z n0 h0) (E_st : Exa Z h0 st "java/lang/String") (F_c : Fld Z h0 st "java/lang/String" "coder" "B" (.int (0 : Int32))) (F_v : Fld Z h0 st "java/lang/String" "value" "[B" (.ref vb)) (Vb : Arv Z h0 vb kb .byte (3 : Int32) xs (.int (0 : Int32))) :
    MetFree l (⟨"java/lang/String", "length", "()I"⟩ : MethodName) (head1 (Jvm.Cond.code (⟨"java/lang/String", "length", "()I"⟩ : MethodName) jdk_42_method_54_code 1 (some .int) :: ws) ({ frames := 1, cells := 0, slots := 0, locals := 13 } : Room)) (fun a U => a = #[(.ref st)] ∧ Z.Warmed39 U.vm ∧ U.heap = h0) (fun _ _ _ _ _ => True) (fun _ U o U' => ∃ v L, o = .returned v ∧ own_QP (.int (3 : Int32)) h0 n0 v U'.heap L ∧ FrameEnd U o U' L ({ frames := 1, cells := 0, slots := 0, locals := 13 } : Room).cells ({ frames := 1, cells := 0, slots := 0, locals := 13 } : Room).slots) := by
  refine MetFree.of_bodySF (plainFor_of_name pn_java_lang_String) hisR ?_
  intro p e s m args below meth c s₁ Bd hml0 hP hK
  obtain ⟨rfl, hZ, hh⟩ := hP
  have hx := Bd.exec
  have hby := Bd.bytes
  have hml : c.maxLocals = 1 := hml0
  have hown : s.vm.findClass "java/lang/String" = some m.cls := findClass_of_methodNamed Bd.named
  have hnm := (name_of_methodNamed Bd.named Bd.method).1
  have X0 : Stand p l e ({ frames := 1, cells := 0, slots := 0, locals := 13 } : Room) s m #[(.ref st)] below meth c s₁ [] 0 0 := Stand.of_body Bd
  have e0 : s₁.heap = h0 := by rw [← hh, Bd.state]; rfl
  have N0 := Fr.nil n0
  refine own_start (ef_rs_ln30 m st) ?_
  have hST0 := hST
  obtain ⟨S_cs, S_ad, S_hb, S_lb, S_sf, hcs, hvf⟩ := hST
  refine o_aloadN X0 hx hby D9_0 rfl rfl ?_
  obtain ⟨T1, X1, e1, st1⟩ := getF X0 hx hZ hown (host := "") (Or.inl (own_wd hw (i := 24) rfl)) Via.refl e0 F_v (g := (mkF m 1 #[.val (.ref st)] [(.ref st)])) rfl rfl (hb hby D9_1.1)
  refine own_pre (A' := T1.setTop (mkF m 4 #[.val (.ref st)] [(.ref vb)])) st1 ?_
  obtain ⟨cl_vb_2, Ar_vb_2, q_vb_2, S_vb_2, N_vb_2, H_vb_2, G_vb_2⟩ := id Vb
  refine own_pre (A' := T1.setTop (mkF m 5 #[.val (.ref st)] [(.int (3 : Int32))])) (fun t k => X1.arraylength hx (by rw [e1]; exact Ar_vb_2.1) (State.isArrayOf_alike hZ.alike Ar_vb_2.2.1) (g := (mkF m 4 #[.val (.ref st)] [(.ref vb)])) rfl rfl (hb hby D9_4.1) _ (by rw [len_of S_vb_2 N_vb_2]; exact k)) ?_
  refine o_aloadN X1 hx hby D9_5 rfl rfl ?_
  obtain ⟨cq3, kq3, q3a, q3b, q3c⟩ := isOf hZ e1 E_st
  obtain ⟨_, _, ⟨T3, L3, k3, n3⟩, -, X3, ⟨Lc3, hQ3, l3, y3, z3⟩, st3⟩ := X1.virtualBack hx (y := (⟨"java/lang/String", "coder", "()B"⟩ : MethodName)) (z := (⟨"java/lang/String", "coder", "()B"⟩ : MethodName)) hown (mvT hZ (own_wd hw (i := 51) rfl)) (mvT hZ (own_wd hw (i := 52) rfl)) (notFace_of_selects (args := #[]) (mvT hZ (own_wd hw (i := 54) rfl))) (mvT hZ (own_wd hw (i := 54) rfl)) (mvT hZ (own_wd hw (i := 53) rfl)) (by decide) (backOf (W := 1) (rs_co0 l Z a0 hw [] st cs vf h0 n0 Z0 hST0 O0 F_c) hZ (own_wd hw (i := 55) rfl) (own_wd hw (i := 7) rfl) (by decide) (by decide)) q3a q3c (g := (mkF m 6 #[.val (.ref st)] [(.ref st), (.int (3 : Int32))])) rfl (by rw [hml]; rfl) (Steps.refl _) (argsL := []) (rest := [(.int (3 : Int32))]) (lenOf pd__40_41B rfl) rfl (by show 2 * 0 + _ ≤ _; exact Nat.le_of_eq rfl) (hb hby D9_6.1) (fun _ _ => ⟨rfl, e1, (by decide : 0 + 0 ≤ _), (by decide : 0 + 0 ≤ _)⟩)
  dsimp only [Pt.U, Pt.locs, Pt.cells, Pt.slots] at X3 l3 y3 z3 st3 hQ3
  subst l3 y3 z3
  obtain ⟨rfl, N3q, e3⟩ := hQ3
  have N3 := Fr.app N0 N3q
  refine own_pre (A' := T3.setTop (mkF m 9 #[.val (.ref st)] [(.int (0 : Int32)), (.int (3 : Int32))])) (fun t k => st3.trans k) ?_
  refine o_ishr X3 hx hby D9_9 ?_
  rw [(by decide : ((3 : Int32) >>> ((0 : Int32) &&& 31)) = (3 : Int32))]
  exact own_ret (v := some (.int (3 : Int32))) X3 (fun h => by first | rfl | (rw [Bd.returns] at h; cases h)) (BodyLoose.notSynchronized Bd) (by decide) (by decide) (⟨rfl, N3, e3⟩) (fun fs hr => retI X3 hx Bd.returns (hb hby D9_10.1) hr)
theorem ef_rs_ln31 (m : MethodId) (st : Addr) : entryFrame m #[(.ref st)] 1 = mkF m 0 #[.val (.ref st)] [] := by first | (simp [entryFrame, mkF, argsToLocals, Value.category]; done) | rfl
set_option maxRecDepth 65536 in
set_option maxHeartbeats 40000000 in
theorem rs_ln31 (l : Launch) (Z : State) (a0 : Array Value) (hw : ∀ d ∈ tables_1, d.before a0 Z = true) (ws : List Jvm.Cond) (st : Addr) (vb : Addr) (kb : ClassId) (xs : List Value) (cs : Int32) (vf : Value) (h0 : Heap) (n0 : Nat) (Z0 : n0 ≤ h0.size) (hST : own_ST Z cs vf) (O0 : Old Z n0 h0) (E_st : Exa Z h0 st "java/lang/String") (F_c : Fld Z h0 st "java/lang/String" "coder" "B" (.int (1 : Int32))) (F_v : Fld Z h0 st "java/lang/String" "value" "[B" (.ref vb)) (Vb : Arv Z h0 vb kb .byte (6 : Int32) xs (.int (0 : Int32))) :
    MetFree l (⟨"java/lang/String", "length", "()I"⟩ : MethodName) (head1 (Jvm.Cond.code (⟨"java/lang/String", "length", "()I"⟩ : MethodName) jdk_42_method_54_code 1 (some .int) :: ws) ({ frames := 1, cells := 0, slots := 0, locals := 13 } : Room)) (fun a U => a = #[(.ref st)] ∧ Z.Warmed39 U.vm ∧ U.heap = h0) (fun _ _ _ _ _ => True) (fun _ U o U' => ∃ v L, o = .returned v ∧ own_QP (.int (3 : Int32)) h0 n0 v U'.heap L ∧ FrameEnd U o U' L ({ frames := 1, cells := 0, slots := 0, locals := 13 } : Room).cells ({ frames := 1, cells := 0, slots := 0, locals := 13 } : Room).slots) := by
  refine MetFree.of_bodySF (plainFor_of_name pn_java_lang_String) hisR ?_
  intro p e s m args below meth c s₁ Bd hml0 hP hK
  obtain ⟨rfl, hZ, hh⟩ := hP
  have hx := Bd.exec
  have hby := Bd.bytes
  have hml : c.maxLocals = 1 := hml0
  have hown : s.vm.findClass "java/lang/String" = some m.cls := findClass_of_methodNamed Bd.named
  have hnm := (name_of_methodNamed Bd.named Bd.method).1
  have X0 : Stand p l e ({ frames := 1, cells := 0, slots := 0, locals := 13 } : Room) s m #[(.ref st)] below meth c s₁ [] 0 0 := Stand.of_body Bd
  have e0 : s₁.heap = h0 := by rw [← hh, Bd.state]; rfl
  have N0 := Fr.nil n0
  refine own_start (ef_rs_ln31 m st) ?_
  have hST0 := hST
  obtain ⟨S_cs, S_ad, S_hb, S_lb, S_sf, hcs, hvf⟩ := hST
  refine o_aloadN X0 hx hby D9_0 rfl rfl ?_
  obtain ⟨T1, X1, e1, st1⟩ := getF X0 hx hZ hown (host := "") (Or.inl (own_wd hw (i := 24) rfl)) Via.refl e0 F_v (g := (mkF m 1 #[.val (.ref st)] [(.ref st)])) rfl rfl (hb hby D9_1.1)
  refine own_pre (A' := T1.setTop (mkF m 4 #[.val (.ref st)] [(.ref vb)])) st1 ?_
  obtain ⟨cl_vb_2, Ar_vb_2, q_vb_2, S_vb_2, N_vb_2, H_vb_2, G_vb_2⟩ := id Vb
  refine own_pre (A' := T1.setTop (mkF m 5 #[.val (.ref st)] [(.int (6 : Int32))])) (fun t k => X1.arraylength hx (by rw [e1]; exact Ar_vb_2.1) (State.isArrayOf_alike hZ.alike Ar_vb_2.2.1) (g := (mkF m 4 #[.val (.ref st)] [(.ref vb)])) rfl rfl (hb hby D9_4.1) _ (by rw [len_of S_vb_2 N_vb_2]; exact k)) ?_
  refine o_aloadN X1 hx hby D9_5 rfl rfl ?_
  obtain ⟨cq3, kq3, q3a, q3b, q3c⟩ := isOf hZ e1 E_st
  obtain ⟨_, _, ⟨T3, L3, k3, n3⟩, -, X3, ⟨Lc3, hQ3, l3, y3, z3⟩, st3⟩ := X1.virtualBack hx (y := (⟨"java/lang/String", "coder", "()B"⟩ : MethodName)) (z := (⟨"java/lang/String", "coder", "()B"⟩ : MethodName)) hown (mvT hZ (own_wd hw (i := 51) rfl)) (mvT hZ (own_wd hw (i := 52) rfl)) (notFace_of_selects (args := #[]) (mvT hZ (own_wd hw (i := 54) rfl))) (mvT hZ (own_wd hw (i := 54) rfl)) (mvT hZ (own_wd hw (i := 53) rfl)) (by decide) (backOf (W := 1) (rs_co1 l Z a0 hw [] st cs vf h0 n0 Z0 hST0 O0 F_c) hZ (own_wd hw (i := 55) rfl) (own_wd hw (i := 7) rfl) (by decide) (by decide)) q3a q3c (g := (mkF m 6 #[.val (.ref st)] [(.ref st), (.int (6 : Int32))])) rfl (by rw [hml]; rfl) (Steps.refl _) (argsL := []) (rest := [(.int (6 : Int32))]) (lenOf pd__40_41B rfl) rfl (by show 2 * 0 + _ ≤ _; exact Nat.le_of_eq rfl) (hb hby D9_6.1) (fun _ _ => ⟨rfl, e1, (by decide : 0 + 0 ≤ _), (by decide : 0 + 0 ≤ _)⟩)
  dsimp only [Pt.U, Pt.locs, Pt.cells, Pt.slots] at X3 l3 y3 z3 st3 hQ3
  subst l3 y3 z3
  obtain ⟨rfl, N3q, e3⟩ := hQ3
  have N3 := Fr.app N0 N3q
  refine own_pre (A' := T3.setTop (mkF m 9 #[.val (.ref st)] [(.int (1 : Int32)), (.int (6 : Int32))])) (fun t k => st3.trans k) ?_
  refine o_ishr X3 hx hby D9_9 ?_
  rw [(by decide : ((6 : Int32) >>> ((1 : Int32) &&& 31)) = (3 : Int32))]
  exact own_ret (v := some (.int (3 : Int32))) X3 (fun h => by first | rfl | (rw [Bd.returns] at h; cases h)) (BodyLoose.notSynchronized Bd) (by decide) (by decide) (⟨rfl, N3, e3⟩) (fun fs hr => retI X3 hx Bd.returns (hb hby D9_10.1) hr)
theorem D12_0 : own_at jdk_43_method_4_code 0 (.iload_n 0) 1 1 := ⟨by decide +kernel, rfl⟩
theorem D12_1 : own_at jdk_43_method_4_code 1 (.ifCond .lt 14) 3 4 := ⟨by decide +kernel, rfl⟩
theorem D12_4 : own_at jdk_43_method_4_code 4 (.iload_n 0) 1 5 := ⟨by decide +kernel, rfl⟩
theorem D12_5 : own_at jdk_43_method_4_code 5 (.sipush 255) 3 8 := ⟨by decide +kernel, rfl⟩
theorem D12_8 : own_at jdk_43_method_4_code 8 (.if_icmp .gt 7) 3 11 := ⟨by decide +kernel, rfl⟩
theorem D12_11 : own_at jdk_43_method_4_code 11 (.iconst 1) 1 12 := ⟨by decide +kernel, rfl⟩
theorem D12_12 : own_at jdk_43_method_4_code 12 (.goto 4) 3 15 := ⟨by decide +kernel, rfl⟩
theorem D12_16 : own_at jdk_43_method_4_code 16 (.ireturn) 1 17 := ⟨by decide +kernel, rfl⟩
theorem pn_java_lang_StringLatin1 : plainName "java/lang/StringLatin1" = true := by first | (simp [plainName, overriddenIn]; done) | decide +kernel
theorem ef_rs_ce (m : MethodId) (p0 : Int32) : entryFrame m #[(.int p0)] 1 = mkF m 0 #[.val (.int p0)] [] := by first | (simp [entryFrame, mkF, argsToLocals, Value.category]; done) | rfl
set_option maxRecDepth 65536 in
set_option maxHeartbeats 40000000 in
theorem rs_ce (l : Launch) (Z : State) (a0 : Array Value) (hw : ∀ d ∈ tables_1, d.before a0 Z = true) (ws : List Jvm.Cond) (p0 : Int32)  (h0 : Heap) (n0 : Nat) (Z0 : n0 ≤ h0.size) (hn : own_nl p0) :
    MetFree l (⟨"java/lang/StringLatin1", "canEncode", "(I)Z"⟩ : MethodName) (head1 (Jvm.Cond.code (⟨"java/lang/StringLatin1", "canEncode", "(I)Z"⟩ : MethodName) jdk_43_method_4_code 1 (some .boolean) :: ws) ({ frames := 0, cells := 0, slots := 0, locals := 0 } : Room)) (fun a U => a = #[(.int p0)] ∧ Z.Warmed39 U.vm ∧ U.heap = h0) (fun _ _ _ _ _ => True) (fun _ U o U' => ∃ v L, o = .returned v ∧ own_QP (.int (1 : Int32)) h0 n0 v U'.heap L ∧ FrameEnd U o U' L ({ frames := 0, cells := 0, slots := 0, locals := 0 } : Room).cells ({ frames := 0, cells := 0, slots := 0, locals := 0 } : Room).slots) := by
  refine MetFree.of_bodySF (plainFor_of_name pn_java_lang_StringLatin1) hisR ?_
  intro p e s m args below meth c s₁ Bd hml0 hP hK
  obtain ⟨rfl, hZ, hh⟩ := hP
  have hx := Bd.exec
  have hby := Bd.bytes
  have hml : c.maxLocals = 1 := hml0
  have hown : s.vm.findClass "java/lang/StringLatin1" = some m.cls := findClass_of_methodNamed Bd.named
  have hnm := (name_of_methodNamed Bd.named Bd.method).1
  have X0 : Stand p l e ({ frames := 0, cells := 0, slots := 0, locals := 0 } : Room) s m #[(.int p0)] below meth c s₁ [] 0 0 := Stand.of_body Bd
  have e0 : s₁.heap = h0 := by rw [← hh, Bd.state]; rfl
  have N0 := Fr.nil n0
  refine own_start (ef_rs_ce m p0) ?_
  refine o_iloadN X0 hx hby D12_0 rfl ?_
  refine o_ifN X0 hx hby D12_1 ((if0 _ _).trans (flt (own_nl0 hn : ¬ (p0 < (0 : Int32)))).1) ?_
  refine o_iloadN X0 hx hby D12_4 rfl ?_
  refine o_sipush X0 hx hby D12_5 (v := 255) rfl ?_
  refine o_icmpN X0 hx hby D12_8 (flt (own_nl1 hn : ¬ ((255 : Int32) < p0))).2.2.1 ?_
  refine o_iconst X0 hx hby D12_11 (v := 1) rfl ?_
  refine o_goto X0 hx hby D12_12 (q := 16) (by decide) (by decide) ?_
  exact own_ret (v := some (.int (1 : Int32))) X0 (fun h => by first | rfl | (rw [Bd.returns] at h; cases h)) (BodyLoose.notSynchronized Bd) (by decide) (by decide) (⟨rfl, N0, e0⟩) (fun fs hr => retN X0 hx (t := .boolean) Bd.returns (by simp) (hb hby D12_16.1) hr)
theorem pd__40I_41Z : parseMethodDescriptor "(I)Z" = some ⟨[.int], some .boolean⟩ := by decide +kernel
theorem pd__40II_41I : parseMethodDescriptor "(II)I" = some ⟨[.int, .int], some .int⟩ := by decide +kernel
theorem D11_0 : own_at jdk_43_method_22_code 0 (.iload_n 1) 1 1 := ⟨by decide +kernel, rfl⟩
theorem D11_1 : own_at jdk_43_method_22_code 1 (.invokestatic 88) 3 4 := ⟨by decide +kernel, rfl⟩
theorem D11_4 : own_at jdk_43_method_22_code 4 (.ifCond .ne 5) 3 7 := ⟨by decide +kernel, rfl⟩
theorem D11_9 : own_at jdk_43_method_22_code 9 (.iload_n 2) 1 10 := ⟨by decide +kernel, rfl⟩
theorem D11_10 : own_at jdk_43_method_22_code 10 (.iconst 0) 1 11 := ⟨by decide +kernel, rfl⟩
theorem D11_11 : own_at jdk_43_method_22_code 11 (.invokestatic 92) 3 14 := ⟨by decide +kernel, rfl⟩
theorem D11_14 : own_at jdk_43_method_22_code 14 (.istore_n 2) 1 15 := ⟨by decide +kernel, rfl⟩
theorem D11_15 : own_at jdk_43_method_22_code 15 (.iload_n 3) 1 16 := ⟨by decide +kernel, rfl⟩
theorem D11_16 : own_at jdk_43_method_22_code 16 (.aload_n 0) 1 17 := ⟨by decide +kernel, rfl⟩
theorem D11_17 : own_at jdk_43_method_22_code 17 (.arraylength) 1 18 := ⟨by decide +kernel, rfl⟩
theorem D11_18 : own_at jdk_43_method_22_code 18 (.invokestatic 38) 3 21 := ⟨by decide +kernel, rfl⟩
theorem D11_21 : own_at jdk_43_method_22_code 21 (.istore_n 3) 1 22 := ⟨by decide +kernel, rfl⟩
theorem D11_22 : own_at jdk_43_method_22_code 22 (.iload_n 2) 1 23 := ⟨by decide +kernel, rfl⟩
theorem D11_23 : own_at jdk_43_method_22_code 23 (.iload_n 3) 1 24 := ⟨by decide +kernel, rfl⟩
theorem D11_24 : own_at jdk_43_method_22_code 24 (.if_icmp .lt 5) 3 27 := ⟨by decide +kernel, rfl⟩
theorem D11_27 : own_at jdk_43_method_22_code 27 (.iconst (-1)) 1 28 := ⟨by decide +kernel, rfl⟩
theorem D11_28 : own_at jdk_43_method_22_code 28 (.ireturn) 1 29 := ⟨by decide +kernel, rfl⟩
theorem ef_rs_li0 (m : MethodId) (vb : Addr) (ch : Int32) : entryFrame m #[(.ref vb), (.int ch), (.int (0 : Int32)), (.int (0 : Int32))] 4 = mkF m 0 #[.val (.ref vb), .val (.int ch), .val (.int (0 : Int32)), .val (.int (0 : Int32))] [] := by first | (simp [entryFrame, mkF, argsToLocals, Value.category]; done) | rfl
set_option maxRecDepth 65536 in
set_option maxHeartbeats 40000000 in
theorem rs_li0 (l : Launch) (Z : State) (a0 : Array Value) (hw : ∀ d ∈ tables_1, d.before a0 Z = true) (ws : List Jvm.Cond) (vb : Addr) (ch : Int32) (kb : ClassId)  (h0 : Heap) (n0 : Nat) (Z0 : n0 ≤ h0.size) (Vb : Arv Z h0 vb kb .byte (0 : Int32) [] (.int (0 : Int32)))  (hn : own_nl ch) :
    MetFree l (⟨"java/lang/StringLatin1", "indexOf", "([BIII)I"⟩ : MethodName) (head1 (Jvm.Cond.code (⟨"java/lang/StringLatin1", "indexOf", "([BIII)I"⟩ : MethodName) jdk_43_method_22_code 4 (some .int) :: ws) ({ frames := 1, cells := 0, slots := 0, locals := 13 } : Room)) (fun a U => a = #[(.ref vb), (.int ch), (.int (0 : Int32)), (.int (0 : Int32))] ∧ Z.Warmed39 U.vm ∧ U.heap = h0) (fun _ _ _ _ _ => True) (fun _ U o U' => ∃ v L, o = .returned v ∧ own_QP (.int (own_ix0 ch)) h0 n0 v U'.heap L ∧ FrameEnd U o U' L ({ frames := 1, cells := 0, slots := 0, locals := 13 } : Room).cells ({ frames := 1, cells := 0, slots := 0, locals := 13 } : Room).slots) := by
  refine MetFree.of_bodySF (plainFor_of_name pn_java_lang_StringLatin1) hisR ?_
  intro p e s m args below meth c s₁ Bd hml0 hP hK
  obtain ⟨rfl, hZ, hh⟩ := hP
  have hx := Bd.exec
  have hby := Bd.bytes
  have hml : c.maxLocals = 4 := hml0
  have hown : s.vm.findClass "java/lang/StringLatin1" = some m.cls := findClass_of_methodNamed Bd.named
  have hnm := (name_of_methodNamed Bd.named Bd.method).1
  have X0 : Stand p l e ({ frames := 1, cells := 0, slots := 0, locals := 13 } : Room) s m #[(.ref vb), (.int ch), (.int (0 : Int32)), (.int (0 : Int32))] below meth c s₁ [] 0 0 := Stand.of_body Bd
  have e0 : s₁.heap = h0 := by rw [← hh, Bd.state]; rfl
  have N0 := Fr.nil n0
  refine own_start (ef_rs_li0 m vb ch) ?_
  refine o_iloadN X0 hx hby D11_0 rfl ?_
  obtain ⟨_, _, ⟨T1, L1, k1, n1⟩, -, X1, ⟨Lc1, hQ1, l1, y1, z1⟩, st1⟩ := Jvm.LawKit.callS X0 hx (y := (⟨"java/lang/StringLatin1", "canEncode", "(I)Z"⟩ : MethodName)) hown (mvT hZ (own_wd hw (i := 60) rfl)) (mvT hZ (own_wd hw (i := 61) rfl)) (mvT hZ (own_wd hw (i := 58) rfl)) (mvT hZ (own_wd hw (i := 62) rfl)) (by decide) (backOf (W := 0) (rs_ce l Z a0 hw [] ch h0 n0 Z0 hn) hZ (own_wd hw (i := 62) rfl) (own_wd hw (i := 58) rfl) (by decide) (by decide)) (g := (mkF m 1 #[.val (.ref vb), .val (.int ch), .val (.int (0 : Int32)), .val (.int (0 : Int32))] [(.int ch)])) rfl (by rw [hml]; rfl) (argsL := [(.int ch)]) (rest := []) (lenOf pd__40I_41Z rfl) rfl (by show 2 * 0 + _ ≤ _; exact Nat.le_of_eq rfl) (hb hby D11_1.1) (fun _ _ => ⟨rfl, e0, (by decide : 0 + 0 ≤ _), (by decide : 0 + 0 ≤ _)⟩)
  dsimp only [Pt.U, Pt.locs, Pt.cells, Pt.slots] at X1 l1 y1 z1 st1 hQ1
  subst l1 y1 z1
  obtain ⟨rfl, N1q, e1⟩ := hQ1
  have N1 := Fr.app N0 N1q
  refine own_pre (A' := T1.setTop (mkF m 4 #[.val (.ref vb), .val (.int ch), .val (.int (0 : Int32)), .val (.int (0 : Int32))] [(.int (1 : Int32))])) st1 ?_
  refine o_ifY X1 hx hby D11_4 ((if0 _ _).trans (feq (by decide : ¬ ((1 : Int32) = (0 : Int32)))).2) (q := 9) (by decide) (by decide) ?_
  refine o_iloadN X1 hx hby D11_9 rfl ?_
  refine o_iconst X1 hx hby D11_10 (v := 0) rfl ?_
  obtain ⟨_, _, ⟨T2, L2, k2, n2⟩, -, X2, ⟨Lc2, hQ2, l2, y2, z2⟩, st2⟩ := Jvm.LawKit.callS X1 hx (y := (⟨"java/lang/Math", "max", "(II)I"⟩ : MethodName)) hown (mvT hZ (own_wd hw (i := 63) rfl)) (mvT hZ (own_wd hw (i := 64) rfl)) (mvT hZ (own_wd hw (i := 65) rfl)) (mvT hZ (own_wd hw (i := 66) rfl)) (by decide) (backOf (W := 0) (rs_max l Z a0 hw [] (0 : Int32) (0 : Int32) (0 : Int32) h0 n0 Z0 (by decide)) hZ (own_wd hw (i := 66) rfl) (own_wd hw (i := 65) rfl) (by decide) (by decide)) (g := (mkF m 11 #[.val (.ref vb), .val (.int ch), .val (.int (0 : Int32)), .val (.int (0 : Int32))] [(.int (0 : Int32)), (.int (0 : Int32))])) rfl (by rw [hml]; rfl) (argsL := [(.int (0 : Int32)), (.int (0 : Int32))]) (rest := []) (lenOf pd__40II_41I rfl) rfl (by show 2 * 0 + _ ≤ _; exact Nat.le_of_eq rfl) (hb hby D11_11.1) (fun _ _ => ⟨rfl, e1, (by decide : 0 + 0 ≤ _), (by decide : 0 + 0 ≤ _)⟩)
  dsimp only [Pt.U, Pt.locs, Pt.cells, Pt.slots] at X2 l2 y2 z2 st2 hQ2
  subst l2 y2 z2
  obtain ⟨rfl, N2q, e2⟩ := hQ2
  have N2 := Fr.app N1 N2q
  refine own_pre (A' := T2.setTop (mkF m 14 #[.val (.ref vb), .val (.int ch), .val (.int (0 : Int32)), .val (.int (0 : Int32))] [(.int (0 : Int32))])) st2 ?_
  refine o_istoreN X2 hx hby D11_14 (l' := #[.val (.ref vb), .val (.int ch), .val (.int (0 : Int32)), .val (.int (0 : Int32))]) rfl ?_
  refine o_iloadN X2 hx hby D11_15 rfl ?_
  refine o_aloadN X2 hx hby D11_16 rfl rfl ?_
  obtain ⟨cl_vb_3, Ar_vb_3, q_vb_3, S_vb_3, N_vb_3, H_vb_3, G_vb_3⟩ := id Vb
  refine own_pre (A' := T2.setTop (mkF m 18 #[.val (.ref vb), .val (.int ch), .val (.int (0 : Int32)), .val (.int (0 : Int32))] [(.int (0 : Int32)), (.int (0 : Int32))])) (fun t k => X2.arraylength hx (by rw [e2]; exact Ar_vb_3.1) (State.isArrayOf_alike hZ.alike Ar_vb_3.2.1) (g := (mkF m 17 #[.val (.ref vb), .val (.int ch), .val (.int (0 : Int32)), .val (.int (0 : Int32))] [(.ref vb), (.int (0 : Int32))])) rfl rfl (hb hby D11_17.1) _ (by rw [len_of S_vb_3 N_vb_3]; exact k)) ?_
  obtain ⟨_, _, ⟨T4, L4, k4, n4⟩, -, X4, ⟨Lc4, hQ4, l4, y4, z4⟩, st4⟩ := Jvm.LawKit.callS X2 hx (y := (⟨"java/lang/Math", "min", "(II)I"⟩ : MethodName)) hown (mvT hZ (own_wd hw (i := 67) rfl)) (mvT hZ (own_wd hw (i := 68) rfl)) (mvT hZ (own_wd hw (i := 65) rfl)) (mvT hZ (own_wd hw (i := 69) rfl)) (by decide) (backOf (W := 0) (rs_min l Z a0 hw [] (0 : Int32) (0 : Int32) (0 : Int32) h0 n0 Z0 (by decide)) hZ (own_wd hw (i := 69) rfl) (own_wd hw (i := 65) rfl) (by decide) (by decide)) (g := (mkF m 18 #[.val (.ref vb), .val (.int ch), .val (.int (0 : Int32)), .val (.int (0 : Int32))] [(.int (0 : Int32)), (.int (0 : Int32))])) rfl (by rw [hml]; rfl) (argsL := [(.int (0 : Int32)), (.int (0 : Int32))]) (rest := []) (lenOf pd__40II_41I rfl) rfl (by show 2 * 0 + _ ≤ _; exact Nat.le_of_eq rfl) (hb hby D11_18.1) (fun _ _ => ⟨rfl, e2, (by decide : 0 + 0 ≤ _), (by decide : 0 + 0 ≤ _)⟩)
  dsimp only [Pt.U, Pt.locs, Pt.cells, Pt.slots] at X4 l4 y4 z4 st4 hQ4
  subst l4 y4 z4
  obtain ⟨rfl, N4q, e4⟩ := hQ4
  have N4 := Fr.app N2 N4q
  refine own_pre (A' := T4.setTop (mkF m 21 #[.val (.ref vb), .val (.int ch), .val (.int (0 : Int32)), .val (.int (0 : Int32))] [(.int (0 : Int32))])) st4 ?_
  refine o_istoreN X4 hx hby D11_21 (l' := #[.val (.ref vb), .val (.int ch), .val (.int (0 : Int32)), .val (.int (0 : Int32))]) rfl ?_
  refine o_iloadN X4 hx hby D11_22 rfl ?_
  refine o_iloadN X4 hx hby D11_23 rfl ?_
  refine o_icmpN X4 hx hby D11_24 (flt (by decide : ¬ ((0 : Int32) < (0 : Int32)))).1 ?_
  refine o_iconst X4 hx hby D11_27 (v := -1) rfl ?_
  exact own_ret (v := some (.int (-1 : Int32))) X4 (fun h => by first | rfl | (rw [Bd.returns] at h; cases h)) (BodyLoose.notSynchronized Bd) (by decide) (by decide) (⟨rfl, N4, e4⟩) (fun fs hr => retI X4 hx Bd.returns (hb hby D11_28.1) hr)
theorem D19_0 : own_at jdk_43_method_23_code 0 (.iload_n 1) 1 1 := ⟨by decide +kernel, rfl⟩
theorem D19_1 : own_at jdk_43_method_23_code 1 (.i2b) 1 2 := ⟨by decide +kernel, rfl⟩
theorem D19_2 : own_at jdk_43_method_23_code 2 (.istore 4) 2 4 := ⟨by decide +kernel, rfl⟩
theorem D19_4 : own_at jdk_43_method_23_code 4 (.iload_n 2) 1 5 := ⟨by decide +kernel, rfl⟩
theorem D19_5 : own_at jdk_43_method_23_code 5 (.istore 5) 2 7 := ⟨by decide +kernel, rfl⟩
theorem D19_7 : own_at jdk_43_method_23_code 7 (.iload 5) 2 9 := ⟨by decide +kernel, rfl⟩
theorem D19_9 : own_at jdk_43_method_23_code 9 (.iload_n 3) 1 10 := ⟨by decide +kernel, rfl⟩
theorem D19_10 : own_at jdk_43_method_23_code 10 (.if_icmp .ge 21) 3 13 := ⟨by decide +kernel, rfl⟩
theorem D19_13 : own_at jdk_43_method_23_code 13 (.aload_n 0) 1 14 := ⟨by decide +kernel, rfl⟩
theorem D19_14 : own_at jdk_43_method_23_code 14 (.iload 5) 2 16 := ⟨by decide +kernel, rfl⟩
theorem D19_16 : own_at jdk_43_method_23_code 16 (.baload) 1 17 := ⟨by decide +kernel, rfl⟩
theorem D19_17 : own_at jdk_43_method_23_code 17 (.iload 4) 2 19 := ⟨by decide +kernel, rfl⟩
theorem D19_19 : own_at jdk_43_method_23_code 19 (.if_icmp .ne 6) 3 22 := ⟨by decide +kernel, rfl⟩
theorem D19_22 : own_at jdk_43_method_23_code 22 (.iload 5) 2 24 := ⟨by decide +kernel, rfl⟩
theorem D19_24 : own_at jdk_43_method_23_code 24 (.ireturn) 1 25 := ⟨by decide +kernel, rfl⟩
theorem D19_25 : own_at jdk_43_method_23_code 25 (.iinc 5 1) 3 28 := ⟨by decide +kernel, rfl⟩
theorem D19_28 : own_at jdk_43_method_23_code 28 (.goto (-21)) 3 31 := ⟨by decide +kernel, rfl⟩
theorem D19_31 : own_at jdk_43_method_23_code 31 (.iconst (-1)) 1 32 := ⟨by decide +kernel, rfl⟩
theorem D19_32 : own_at jdk_43_method_23_code 32 (.ireturn) 1 33 := ⟨by decide +kernel, rfl⟩
theorem ef_rs_lc1 (m : MethodId) (vb : Addr) (ch : Int32) : entryFrame m #[(.ref vb), (.int ch), (.int (0 : Int32)), (.int (1 : Int32))] 6 = mkF m 0 #[.val (.ref vb), .val (.int ch), .val (.int (0 : Int32)), .val (.int (1 : Int32)), .unset, .unset] [] := by first | (simp [entryFrame, mkF, argsToLocals, Value.category]; done) | rfl
set_option maxRecDepth 65536 in
set_option maxHeartbeats 40000000 in
theorem rs_lc1 (l : Launch) (Z : State) (a0 : Array Value) (hw : ∀ d ∈ tables_1, d.before a0 Z = true) (ws : List Jvm.Cond) (vb : Addr) (ch : Int32) (kb : ClassId) (c0 : Int32) (h0 : Heap) (n0 : Nat) (Z0 : n0 ≤ h0.size) (Vb : Arv Z h0 vb kb .byte (1 : Int32) [(.int (own_l8 c0))] (.int (0 : Int32))) (hc0 : own_ch16 c0) (hl0 : ¬ ((255 : Int32) < c0)) (hn : own_nl ch) :
    MetFree l (⟨"java/lang/StringLatin1", "indexOfChar", "([BIII)I"⟩ : MethodName) (head1 (Jvm.Cond.code (⟨"java/lang/StringLatin1", "indexOfChar", "([BIII)I"⟩ : MethodName) jdk_43_method_23_code 6 (some .int) :: ws) ({ frames := 0, cells := 0, slots := 0, locals := 0 } : Room)) (fun a U => a = #[(.ref vb), (.int ch), (.int (0 : Int32)), (.int (1 : Int32))] ∧ Z.Warmed39 U.vm ∧ U.heap = h0) (fun _ _ _ _ _ => True) (fun _ U o U' => ∃ v L, o = .returned v ∧ own_QP (.int (own_ix1 ch c0)) h0 n0 v U'.heap L ∧ FrameEnd U o U' L ({ frames := 0, cells := 0, slots := 0, locals := 0 } : Room).cells ({ frames := 0, cells := 0, slots := 0, locals := 0 } : Room).slots) := by
  refine MetFree.of_bodySF (plainFor_of_name pn_java_lang_StringLatin1) hisR ?_
  intro p e s m args below meth c s₁ Bd hml0 hP hK
  obtain ⟨rfl, hZ, hh⟩ := hP
  have hx := Bd.exec
  have hby := Bd.bytes
  have hml : c.maxLocals = 6 := hml0
  have hown : s.vm.findClass "java/lang/StringLatin1" = some m.cls := findClass_of_methodNamed Bd.named
  have hnm := (name_of_methodNamed Bd.named Bd.method).1
  have X0 : Stand p l e ({ frames := 0, cells := 0, slots := 0, locals := 0 } : Room) s m #[(.ref vb), (.int ch), (.int (0 : Int32)), (.int (1 : Int32))] below meth c s₁ [] 0 0 := Stand.of_body Bd
  have e0 : s₁.heap = h0 := by rw [← hh, Bd.state]; rfl
  have N0 := Fr.nil n0
  refine own_start (ef_rs_lc1 m vb ch) ?_
  refine o_iloadN X0 hx hby D19_0 rfl ?_
  refine o_i2b X0 hx hby D19_1 ?_
  refine o_istore X0 hx hby D19_2 (l' := #[.val (.ref vb), .val (.int ch), .val (.int (0 : Int32)), .val (.int (1 : Int32)), .val (.int ((ch).toInt8.toInt32)), .unset]) rfl ?_
  refine o_iloadN X0 hx hby D19_4 rfl ?_
  refine o_istore X0 hx hby D19_5 (l' := #[.val (.ref vb), .val (.int ch), .val (.int (0 : Int32)), .val (.int (1 : Int32)), .val (.int ((ch).toInt8.toInt32)), .val (.int (0 : Int32))]) rfl ?_
  refine o_iload X0 hx hby D19_7 rfl ?_
  refine o_iloadN X0 hx hby D19_9 rfl ?_
  refine o_icmpN X0 hx hby D19_10 (tlt (by decide : (0 : Int32) < (1 : Int32))).2.1 ?_
  refine o_aloadN X0 hx hby D19_13 rfl rfl ?_
  refine o_iload X0 hx hby D19_14 rfl ?_
  obtain ⟨cl_vb_1, Ar_vb_1, q_vb_1, S_vb_1, N_vb_1, H_vb_1, G_vb_1⟩ := id Vb
  have hin_vb_1 : ¬ ((0 : Int32) < 0 ∨ cl_vb_1.slots.size ≤ ((0 : Int32)).toNatClampNeg) := inb_of S_vb_1 ⟨by decide, by decide⟩
  have hat_vb_1 : cl_vb_1.slots[((0 : Int32)).toNatClampNeg]? = some (.int (own_l8 c0)) := H_vb_1.at hin_vb_1 (rfl)
  refine own_pre (A' := s₁.setTop (mkF m 17 #[.val (.ref vb), .val (.int ch), .val (.int (0 : Int32)), .val (.int (1 : Int32)), .val (.int ((ch).toInt8.toInt32)), .val (.int (0 : Int32))] [(.int (own_l8 c0))])) (fun t k => X0.baloadBytes hx (j := (0 : Int32)) (v := (.int (own_l8 c0))) (by rw [e0]; exact Ar_vb_1.1) (State.isArrayOf_alike hZ.alike Ar_vb_1.2.1) Ar_vb_1.2.2 hin_vb_1 hat_vb_1 (g := (mkF m 16 #[.val (.ref vb), .val (.int ch), .val (.int (0 : Int32)), .val (.int (1 : Int32)), .val (.int ((ch).toInt8.toInt32)), .val (.int (0 : Int32))] [(.int (0 : Int32)), (.ref vb)])) rfl rfl (hb hby D19_16.1) _ k) ?_
  refine o_iload X0 hx hby D19_17 rfl ?_
  by_cases hc19_2 : (own_l8 c0) = ((ch).toInt8.toInt32)
  · skip
    refine o_icmpN X0 hx hby D19_19 (teq hc19_2).2 ?_
    refine o_iload X0 hx hby D19_22 rfl ?_
    exact own_ret (v := some (.int (0 : Int32))) X0 (fun h => by first | rfl | (rw [Bd.returns] at h; cases h)) (BodyLoose.notSynchronized Bd) (by decide) (by decide) (⟨by rw [own_ix1, if_pos ((own_eqb hc0 hl0 hn).mp hc19_2)], N0, e0⟩) (fun fs hr => retI X0 hx Bd.returns (hb hby D19_24.1) hr)
  · skip
    refine o_icmpY X0 hx hby D19_19 (feq hc19_2).2 (q := 25) (by decide) (by decide) ?_
    refine o_iinc X0 hx hby D19_25 rfl (l' := #[.val (.ref vb), .val (.int ch), .val (.int (0 : Int32)), .val (.int (1 : Int32)), .val (.int ((ch).toInt8.toInt32)), .val (.int ((0 : Int32) + (1 : Int32)))]) rfl ?_
    rw [(by decide : ((0 : Int32) + (1 : Int32)) = (1 : Int32))]
    refine o_goto X0 hx hby D19_28 (q := 7) (by decide) (by decide) ?_
    refine o_iload X0 hx hby D19_7 rfl ?_
    refine o_iloadN X0 hx hby D19_9 rfl ?_
    refine o_icmpY X0 hx hby D19_10 (flt (by decide : ¬ ((1 : Int32) < (1 : Int32)))).2.1 (q := 31) (by decide) (by decide) ?_
    refine o_iconst X0 hx hby D19_31 (v := -1) rfl ?_
    exact own_ret (v := some (.int (-1 : Int32))) X0 (fun h => by first | rfl | (rw [Bd.returns] at h; cases h)) (BodyLoose.notSynchronized Bd) (by decide) (by decide) (⟨by rw [own_ix1, if_neg (fun q => hc19_2 ((own_eqb hc0 hl0 hn).mpr q))], N0, e0⟩) (fun fs hr => retI X0 hx Bd.returns (hb hby D19_32.1) hr)
theorem pd__40_91BIII_41I : parseMethodDescriptor "([BIII)I" = some ⟨[(.array .byte), .int, .int, .int], some .int⟩ := by decide +kernel
theorem D11_29 : own_at jdk_43_method_22_code 29 (.aload_n 0) 1 30 := ⟨by decide +kernel, rfl⟩
theorem D11_30 : own_at jdk_43_method_22_code 30 (.iload_n 1) 1 31 := ⟨by decide +kernel, rfl⟩
theorem D11_31 : own_at jdk_43_method_22_code 31 (.iload_n 2) 1 32 := ⟨by decide +kernel, rfl⟩
theorem D11_32 : own_at jdk_43_method_22_code 32 (.iload_n 3) 1 33 := ⟨by decide +kernel, rfl⟩
theorem D11_33 : own_at jdk_43_method_22_code 33 (.invokestatic 95) 3 36 := ⟨by decide +kernel, rfl⟩
theorem D11_36 : own_at jdk_43_method_22_code 36 (.ireturn) 1 37 := ⟨by decide +kernel, rfl⟩
theorem ef_rs_li1 (m : MethodId) (vb : Addr) (ch : Int32) : entryFrame m #[(.ref vb), (.int ch), (.int (0 : Int32)), (.int (1 : Int32))] 4 = mkF m 0 #[.val (.ref vb), .val (.int ch), .val (.int (0 : Int32)), .val (.int (1 : Int32))] [] := by first | (simp [entryFrame, mkF, argsToLocals, Value.category]; done) | rfl
set_option maxRecDepth 65536 in
set_option maxHeartbeats 40000000 in
theorem rs_li1 (l : Launch) (Z : State) (a0 : Array Value) (hw : ∀ d ∈ tables_1, d.before a0 Z = true) (ws : List Jvm.Cond) (vb : Addr) (ch : Int32) (kb : ClassId) (c0 : Int32) (h0 : Heap) (n0 : Nat) (Z0 : n0 ≤ h0.size) (Vb : Arv Z h0 vb kb .byte (1 : Int32) [(.int (own_l8 c0))] (.int (0 : Int32))) (hc0 : own_ch16 c0) (hl0 : ¬ ((255 : Int32) < c0)) (hn : own_nl ch) :
    MetFree l (⟨"java/lang/StringLatin1", "indexOf", "([BIII)I"⟩ : MethodName) (head1 (Jvm.Cond.code (⟨"java/lang/StringLatin1", "indexOf", "([BIII)I"⟩ : MethodName) jdk_43_method_22_code 4 (some .int) :: ws) ({ frames := 1, cells := 0, slots := 0, locals := 17 } : Room)) (fun a U => a = #[(.ref vb), (.int ch), (.int (0 : Int32)), (.int (1 : Int32))] ∧ Z.Warmed39 U.vm ∧ U.heap = h0) (fun _ _ _ _ _ => True) (fun _ U o U' => ∃ v L, o = .returned v ∧ own_QP (.int (own_ix1 ch c0)) h0 n0 v U'.heap L ∧ FrameEnd U o U' L ({ frames := 1, cells := 0, slots := 0, locals := 17 } : Room).cells ({ frames := 1, cells := 0, slots := 0, locals := 17 } : Room).slots) := by
  refine MetFree.of_bodySF (plainFor_of_name pn_java_lang_StringLatin1) hisR ?_
  intro p e s m args below meth c s₁ Bd hml0 hP hK
  obtain ⟨rfl, hZ, hh⟩ := hP
  have hx := Bd.exec
  have hby := Bd.bytes
  have hml : c.maxLocals = 4 := hml0
  have hown : s.vm.findClass "java/lang/StringLatin1" = some m.cls := findClass_of_methodNamed Bd.named
  have hnm := (name_of_methodNamed Bd.named Bd.method).1
  have X0 : Stand p l e ({ frames := 1, cells := 0, slots := 0, locals := 17 } : Room) s m #[(.ref vb), (.int ch), (.int (0 : Int32)), (.int (1 : Int32))] below meth c s₁ [] 0 0 := Stand.of_body Bd
  have e0 : s₁.heap = h0 := by rw [← hh, Bd.state]; rfl
  have N0 := Fr.nil n0
  refine own_start (ef_rs_li1 m vb ch) ?_
  refine o_iloadN X0 hx hby D11_0 rfl ?_
  obtain ⟨_, _, ⟨T1, L1, k1, n1⟩, -, X1, ⟨Lc1, hQ1, l1, y1, z1⟩, st1⟩ := Jvm.LawKit.callS X0 hx (y := (⟨"java/lang/StringLatin1", "canEncode", "(I)Z"⟩ : MethodName)) hown (mvT hZ (own_wd hw (i := 60) rfl)) (mvT hZ (own_wd hw (i := 61) rfl)) (mvT hZ (own_wd hw (i := 58) rfl)) (mvT hZ (own_wd hw (i := 62) rfl)) (by decide) (backOf (W := 0) (rs_ce l Z a0 hw [] ch h0 n0 Z0 hn) hZ (own_wd hw (i := 62) rfl) (own_wd hw (i := 58) rfl) (by decide) (by decide)) (g := (mkF m 1 #[.val (.ref vb), .val (.int ch), .val (.int (0 : Int32)), .val (.int (1 : Int32))] [(.int ch)])) rfl (by rw [hml]; rfl) (argsL := [(.int ch)]) (rest := []) (lenOf pd__40I_41Z rfl) rfl (by show 2 * 0 + _ ≤ _; exact Nat.le_of_eq rfl) (hb hby D11_1.1) (fun _ _ => ⟨rfl, e0, (by decide : 0 + 0 ≤ _), (by decide : 0 + 0 ≤ _)⟩)
  dsimp only [Pt.U, Pt.locs, Pt.cells, Pt.slots] at X1 l1 y1 z1 st1 hQ1
  subst l1 y1 z1
  obtain ⟨rfl, N1q, e1⟩ := hQ1
  have N1 := Fr.app N0 N1q
  refine own_pre (A' := T1.setTop (mkF m 4 #[.val (.ref vb), .val (.int ch), .val (.int (0 : Int32)), .val (.int (1 : Int32))] [(.int (1 : Int32))])) st1 ?_
  refine o_ifY X1 hx hby D11_4 ((if0 _ _).trans (feq (by decide : ¬ ((1 : Int32) = (0 : Int32)))).2) (q := 9) (by decide) (by decide) ?_
  refine o_iloadN X1 hx hby D11_9 rfl ?_
  refine o_iconst X1 hx hby D11_10 (v := 0) rfl ?_
  obtain ⟨_, _, ⟨T2, L2, k2, n2⟩, -, X2, ⟨Lc2, hQ2, l2, y2, z2⟩, st2⟩ := Jvm.LawKit.callS X1 hx (y := (⟨"java/lang/Math", "max", "(II)I"⟩ : MethodName)) hown (mvT hZ (own_wd hw (i := 63) rfl)) (mvT hZ (own_wd hw (i := 64) rfl)) (mvT hZ (own_wd hw (i := 65) rfl)) (mvT hZ (own_wd hw (i := 66) rfl)) (by decide) (backOf (W := 0) (rs_max l Z a0 hw [] (0 : Int32) (0 : Int32) (0 : Int32) h0 n0 Z0 (by decide)) hZ (own_wd hw (i := 66) rfl) (own_wd hw (i := 65) rfl) (by decide) (by decide)) (g := (mkF m 11 #[.val (.ref vb), .val (.int ch), .val (.int (0 : Int32)), .val (.int (1 : Int32))] [(.int (0 : Int32)), (.int (0 : Int32))])) rfl (by rw [hml]; rfl) (argsL := [(.int (0 : Int32)), (.int (0 : Int32))]) (rest := []) (lenOf pd__40II_41I rfl) rfl (by show 2 * 0 + _ ≤ _; exact Nat.le_of_eq rfl) (hb hby D11_11.1) (fun _ _ => ⟨rfl, e1, (by decide : 0 + 0 ≤ _), (by decide : 0 + 0 ≤ _)⟩)
  dsimp only [Pt.U, Pt.locs, Pt.cells, Pt.slots] at X2 l2 y2 z2 st2 hQ2
  subst l2 y2 z2
  obtain ⟨rfl, N2q, e2⟩ := hQ2
  have N2 := Fr.app N1 N2q
  refine own_pre (A' := T2.setTop (mkF m 14 #[.val (.ref vb), .val (.int ch), .val (.int (0 : Int32)), .val (.int (1 : Int32))] [(.int (0 : Int32))])) st2 ?_
  refine o_istoreN X2 hx hby D11_14 (l' := #[.val (.ref vb), .val (.int ch), .val (.int (0 : Int32)), .val (.int (1 : Int32))]) rfl ?_
  refine o_iloadN X2 hx hby D11_15 rfl ?_
  refine o_aloadN X2 hx hby D11_16 rfl rfl ?_
  obtain ⟨cl_vb_3, Ar_vb_3, q_vb_3, S_vb_3, N_vb_3, H_vb_3, G_vb_3⟩ := id Vb
  refine own_pre (A' := T2.setTop (mkF m 18 #[.val (.ref vb), .val (.int ch), .val (.int (0 : Int32)), .val (.int (1 : Int32))] [(.int (1 : Int32)), (.int (1 : Int32))])) (fun t k => X2.arraylength hx (by rw [e2]; exact Ar_vb_3.1) (State.isArrayOf_alike hZ.alike Ar_vb_3.2.1) (g := (mkF m 17 #[.val (.ref vb), .val (.int ch), .val (.int (0 : Int32)), .val (.int (1 : Int32))] [(.ref vb), (.int (1 : Int32))])) rfl rfl (hb hby D11_17.1) _ (by rw [len_of S_vb_3 N_vb_3]; exact k)) ?_
  obtain ⟨_, _, ⟨T4, L4, k4, n4⟩, -, X4, ⟨Lc4, hQ4, l4, y4, z4⟩, st4⟩ := Jvm.LawKit.callS X2 hx (y := (⟨"java/lang/Math", "min", "(II)I"⟩ : MethodName)) hown (mvT hZ (own_wd hw (i := 67) rfl)) (mvT hZ (own_wd hw (i := 68) rfl)) (mvT hZ (own_wd hw (i := 65) rfl)) (mvT hZ (own_wd hw (i := 69) rfl)) (by decide) (backOf (W := 0) (rs_min l Z a0 hw [] (1 : Int32) (1 : Int32) (1 : Int32) h0 n0 Z0 (by decide)) hZ (own_wd hw (i := 69) rfl) (own_wd hw (i := 65) rfl) (by decide) (by decide)) (g := (mkF m 18 #[.val (.ref vb), .val (.int ch), .val (.int (0 : Int32)), .val (.int (1 : Int32))] [(.int (1 : Int32)), (.int (1 : Int32))])) rfl (by rw [hml]; rfl) (argsL := [(.int (1 : Int32)), (.int (1 : Int32))]) (rest := []) (lenOf pd__40II_41I rfl) rfl (by show 2 * 0 + _ ≤ _; exact Nat.le_of_eq rfl) (hb hby D11_18.1) (fun _ _ => ⟨rfl, e2, (by decide : 0 + 0 ≤ _), (by decide : 0 + 0 ≤ _)⟩)
  dsimp only [Pt.U, Pt.locs, Pt.cells, Pt.slots] at X4 l4 y4 z4 st4 hQ4
  subst l4 y4 z4
  obtain ⟨rfl, N4q, e4⟩ := hQ4
  have N4 := Fr.app N2 N4q
  refine own_pre (A' := T4.setTop (mkF m 21 #[.val (.ref vb), .val (.int ch), .val (.int (0 : Int32)), .val (.int (1 : Int32))] [(.int (1 : Int32))])) st4 ?_
  refine o_istoreN X4 hx hby D11_21 (l' := #[.val (.ref vb), .val (.int ch), .val (.int (0 : Int32)), .val (.int (1 : Int32))]) rfl ?_
  refine o_iloadN X4 hx hby D11_22 rfl ?_
  refine o_iloadN X4 hx hby D11_23 rfl ?_
  refine o_icmpY X4 hx hby D11_24 (tlt (by decide : (0 : Int32) < (1 : Int32))).1 (q := 29) (by decide) (by decide) ?_
  refine o_aloadN X4 hx hby D11_29 rfl rfl ?_
  refine o_iloadN X4 hx hby D11_30 rfl ?_
  refine o_iloadN X4 hx hby D11_31 rfl ?_
  refine o_iloadN X4 hx hby D11_32 rfl ?_
  obtain ⟨_, _, ⟨T5, L5, k5, n5⟩, -, X5, ⟨Lc5, hQ5, l5, y5, z5⟩, st5⟩ := Jvm.LawKit.callS X4 hx (y := (⟨"java/lang/StringLatin1", "indexOfChar", "([BIII)I"⟩ : MethodName)) hown (mvT hZ (own_wd hw (i := 83) rfl)) (mvT hZ (own_wd hw (i := 84) rfl)) (mvT hZ (own_wd hw (i := 58) rfl)) (mvT hZ (own_wd hw (i := 85) rfl)) (by decide) (backOf (W := 0) (rs_lc1 l Z a0 hw [] vb ch kb c0 h0 n0 Z0 Vb hc0 hl0 hn) hZ (own_wd hw (i := 85) rfl) (own_wd hw (i := 58) rfl) (by decide) (by decide)) (g := (mkF m 33 #[.val (.ref vb), .val (.int ch), .val (.int (0 : Int32)), .val (.int (1 : Int32))] [(.int (1 : Int32)), (.int (0 : Int32)), (.int ch), (.ref vb)])) rfl (by rw [hml]; rfl) (argsL := [(.ref vb), (.int ch), (.int (0 : Int32)), (.int (1 : Int32))]) (rest := []) (lenOf pd__40_91BIII_41I rfl) rfl (by show 2 * 0 + _ ≤ _; exact Nat.le_of_eq rfl) (hb hby D11_33.1) (fun _ _ => ⟨rfl, e4, (by decide : 0 + 0 ≤ _), (by decide : 0 + 0 ≤ _)⟩)
  dsimp only [Pt.U, Pt.locs, Pt.cells, Pt.slots] at X5 l5 y5 z5 st5 hQ5
  subst l5 y5 z5
  obtain ⟨rfl, N5q, e5⟩ := hQ5
  have N5 := Fr.app N4 N5q
  refine own_pre (A' := T5.setTop (mkF m 36 #[.val (.ref vb), .val (.int ch), .val (.int (0 : Int32)), .val (.int (1 : Int32))] [(.int (own_ix1 ch c0))])) st5 ?_
  exact own_ret (v := some (.int (own_ix1 ch c0))) X5 (fun h => by first | rfl | (rw [Bd.returns] at h; cases h)) (BodyLoose.notSynchronized Bd) (by decide) (by decide) (⟨rfl, N5, e5⟩) (fun fs hr => retI X5 hx Bd.returns (hb hby D11_36.1) hr)
theorem ef_rs_lc2 (m : MethodId) (vb : Addr) (ch : Int32) : entryFrame m #[(.ref vb), (.int ch), (.int (0 : Int32)), (.int (2 : Int32))] 6 = mkF m 0 #[.val (.ref vb), .val (.int ch), .val (.int (0 : Int32)), .val (.int (2 : Int32)), .unset, .unset] [] := by first | (simp [entryFrame, mkF, argsToLocals, Value.category]; done) | rfl
set_option maxRecDepth 65536 in
set_option maxHeartbeats 40000000 in
theorem rs_lc2 (l : Launch) (Z : State) (a0 : Array Value) (hw : ∀ d ∈ tables_1, d.before a0 Z = true) (ws : List Jvm.Cond) (vb : Addr) (ch : Int32) (kb : ClassId) (c0 c1 : Int32) (h0 : Heap) (n0 : Nat) (Z0 : n0 ≤ h0.size) (Vb : Arv Z h0 vb kb .byte (2 : Int32) [(.int (own_l8 c0)), (.int (own_l8 c1))] (.int (0 : Int32))) (hc0 : own_ch16 c0) (hl0 : ¬ ((255 : Int32) < c0)) (hc1 : own_ch16 c1) (hl1 : ¬ ((255 : Int32) < c1)) (hn : own_nl ch) :
    MetFree l (⟨"java/lang/StringLatin1", "indexOfChar", "([BIII)I"⟩ : MethodName) (head1 (Jvm.Cond.code (⟨"java/lang/StringLatin1", "indexOfChar", "([BIII)I"⟩ : MethodName) jdk_43_method_23_code 6 (some .int) :: ws) ({ frames := 0, cells := 0, slots := 0, locals := 0 } : Room)) (fun a U => a = #[(.ref vb), (.int ch), (.int (0 : Int32)), (.int (2 : Int32))] ∧ Z.Warmed39 U.vm ∧ U.heap = h0) (fun _ _ _ _ _ => True) (fun _ U o U' => ∃ v L, o = .returned v ∧ own_QP (.int (own_ix2 ch c0 c1)) h0 n0 v U'.heap L ∧ FrameEnd U o U' L ({ frames := 0, cells := 0, slots := 0, locals := 0 } : Room).cells ({ frames := 0, cells := 0, slots := 0, locals := 0 } : Room).slots) := by
  refine MetFree.of_bodySF (plainFor_of_name pn_java_lang_StringLatin1) hisR ?_
  intro p e s m args below meth c s₁ Bd hml0 hP hK
  obtain ⟨rfl, hZ, hh⟩ := hP
  have hx := Bd.exec
  have hby := Bd.bytes
  have hml : c.maxLocals = 6 := hml0
  have hown : s.vm.findClass "java/lang/StringLatin1" = some m.cls := findClass_of_methodNamed Bd.named
  have hnm := (name_of_methodNamed Bd.named Bd.method).1
  have X0 : Stand p l e ({ frames := 0, cells := 0, slots := 0, locals := 0 } : Room) s m #[(.ref vb), (.int ch), (.int (0 : Int32)), (.int (2 : Int32))] below meth c s₁ [] 0 0 := Stand.of_body Bd
  have e0 : s₁.heap = h0 := by rw [← hh, Bd.state]; rfl
  have N0 := Fr.nil n0
  refine own_start (ef_rs_lc2 m vb ch) ?_
  refine o_iloadN X0 hx hby D19_0 rfl ?_
  refine o_i2b X0 hx hby D19_1 ?_
  refine o_istore X0 hx hby D19_2 (l' := #[.val (.ref vb), .val (.int ch), .val (.int (0 : Int32)), .val (.int (2 : Int32)), .val (.int ((ch).toInt8.toInt32)), .unset]) rfl ?_
  refine o_iloadN X0 hx hby D19_4 rfl ?_
  refine o_istore X0 hx hby D19_5 (l' := #[.val (.ref vb), .val (.int ch), .val (.int (0 : Int32)), .val (.int (2 : Int32)), .val (.int ((ch).toInt8.toInt32)), .val (.int (0 : Int32))]) rfl ?_
  refine o_iload X0 hx hby D19_7 rfl ?_
  refine o_iloadN X0 hx hby D19_9 rfl ?_
  refine o_icmpN X0 hx hby D19_10 (tlt (by decide : (0 : Int32) < (2 : Int32))).2.1 ?_
  refine o_aloadN X0 hx hby D19_13 rfl rfl ?_
  refine o_iload X0 hx hby D19_14 rfl ?_
  obtain ⟨cl_vb_1, Ar_vb_1, q_vb_1, S_vb_1, N_vb_1, H_vb_1, G_vb_1⟩ := id Vb
  have hin_vb_1 : ¬ ((0 : Int32) < 0 ∨ cl_vb_1.slots.size ≤ ((0 : Int32)).toNatClampNeg) := inb_of S_vb_1 ⟨by decide, by decide⟩
  have hat_vb_1 : cl_vb_1.slots[((0 : Int32)).toNatClampNeg]? = some (.int (own_l8 c0)) := H_vb_1.at hin_vb_1 (rfl)
  refine own_pre (A' := s₁.setTop (mkF m 17 #[.val (.ref vb), .val (.int ch), .val (.int (0 : Int32)), .val (.int (2 : Int32)), .val (.int ((ch).toInt8.toInt32)), .val (.int (0 : Int32))] [(.int (own_l8 c0))])) (fun t k => X0.baloadBytes hx (j := (0 : Int32)) (v := (.int (own_l8 c0))) (by rw [e0]; exact Ar_vb_1.1) (State.isArrayOf_alike hZ.alike Ar_vb_1.2.1) Ar_vb_1.2.2 hin_vb_1 hat_vb_1 (g := (mkF m 16 #[.val (.ref vb), .val (.int ch), .val (.int (0 : Int32)), .val (.int (2 : Int32)), .val (.int ((ch).toInt8.toInt32)), .val (.int (0 : Int32))] [(.int (0 : Int32)), (.ref vb)])) rfl rfl (hb hby D19_16.1) _ k) ?_
  refine o_iload X0 hx hby D19_17 rfl ?_
  by_cases hc19_2 : (own_l8 c0) = ((ch).toInt8.toInt32)
  · skip
    refine o_icmpN X0 hx hby D19_19 (teq hc19_2).2 ?_
    refine o_iload X0 hx hby D19_22 rfl ?_
    exact own_ret (v := some (.int (0 : Int32))) X0 (fun h => by first | rfl | (rw [Bd.returns] at h; cases h)) (BodyLoose.notSynchronized Bd) (by decide) (by decide) (⟨by rw [own_ix2, if_pos ((own_eqb hc0 hl0 hn).mp hc19_2)], N0, e0⟩) (fun fs hr => retI X0 hx Bd.returns (hb hby D19_24.1) hr)
  · skip
    refine o_icmpY X0 hx hby D19_19 (feq hc19_2).2 (q := 25) (by decide) (by decide) ?_
    refine o_iinc X0 hx hby D19_25 rfl (l' := #[.val (.ref vb), .val (.int ch), .val (.int (0 : Int32)), .val (.int (2 : Int32)), .val (.int ((ch).toInt8.toInt32)), .val (.int ((0 : Int32) + (1 : Int32)))]) rfl ?_
    rw [(by decide : ((0 : Int32) + (1 : Int32)) = (1 : Int32))]
    refine o_goto X0 hx hby D19_28 (q := 7) (by decide) (by decide) ?_
    refine o_iload X0 hx hby D19_7 rfl ?_
    refine o_iloadN X0 hx hby D19_9 rfl ?_
    refine o_icmpN X0 hx hby D19_10 (tlt (by decide : (1 : Int32) < (2 : Int32))).2.1 ?_
    refine o_aloadN X0 hx hby D19_13 rfl rfl ?_
    refine o_iload X0 hx hby D19_14 rfl ?_
    obtain ⟨cl_vb_3, Ar_vb_3, q_vb_3, S_vb_3, N_vb_3, H_vb_3, G_vb_3⟩ := id Vb
    have hin_vb_3 : ¬ ((1 : Int32) < 0 ∨ cl_vb_3.slots.size ≤ ((1 : Int32)).toNatClampNeg) := inb_of S_vb_3 ⟨by decide, by decide⟩
    have hat_vb_3 : cl_vb_3.slots[((1 : Int32)).toNatClampNeg]? = some (.int (own_l8 c1)) := H_vb_3.at hin_vb_3 (rfl)
    refine own_pre (A' := s₁.setTop (mkF m 17 #[.val (.ref vb), .val (.int ch), .val (.int (0 : Int32)), .val (.int (2 : Int32)), .val (.int ((ch).toInt8.toInt32)), .val (.int (1 : Int32))] [(.int (own_l8 c1))])) (fun t k => X0.baloadBytes hx (j := (1 : Int32)) (v := (.int (own_l8 c1))) (by rw [e0]; exact Ar_vb_3.1) (State.isArrayOf_alike hZ.alike Ar_vb_3.2.1) Ar_vb_3.2.2 hin_vb_3 hat_vb_3 (g := (mkF m 16 #[.val (.ref vb), .val (.int ch), .val (.int (0 : Int32)), .val (.int (2 : Int32)), .val (.int ((ch).toInt8.toInt32)), .val (.int (1 : Int32))] [(.int (1 : Int32)), (.ref vb)])) rfl rfl (hb hby D19_16.1) _ k) ?_
    refine o_iload X0 hx hby D19_17 rfl ?_
    by_cases hc19_4 : (own_l8 c1) = ((ch).toInt8.toInt32)
    · skip
      refine o_icmpN X0 hx hby D19_19 (teq hc19_4).2 ?_
      refine o_iload X0 hx hby D19_22 rfl ?_
      exact own_ret (v := some (.int (1 : Int32))) X0 (fun h => by first | rfl | (rw [Bd.returns] at h; cases h)) (BodyLoose.notSynchronized Bd) (by decide) (by decide) (⟨by rw [own_ix2, if_neg (fun q => hc19_2 ((own_eqb hc0 hl0 hn).mpr q)), if_pos ((own_eqb hc1 hl1 hn).mp hc19_4)], N0, e0⟩) (fun fs hr => retI X0 hx Bd.returns (hb hby D19_24.1) hr)
    · skip
      refine o_icmpY X0 hx hby D19_19 (feq hc19_4).2 (q := 25) (by decide) (by decide) ?_
      refine o_iinc X0 hx hby D19_25 rfl (l' := #[.val (.ref vb), .val (.int ch), .val (.int (0 : Int32)), .val (.int (2 : Int32)), .val (.int ((ch).toInt8.toInt32)), .val (.int ((1 : Int32) + (1 : Int32)))]) rfl ?_
      rw [(by decide : ((1 : Int32) + (1 : Int32)) = (2 : Int32))]
      refine o_goto X0 hx hby D19_28 (q := 7) (by decide) (by decide) ?_
      refine o_iload X0 hx hby D19_7 rfl ?_
      refine o_iloadN X0 hx hby D19_9 rfl ?_
      refine o_icmpY X0 hx hby D19_10 (flt (by decide : ¬ ((2 : Int32) < (2 : Int32)))).2.1 (q := 31) (by decide) (by decide) ?_
      refine o_iconst X0 hx hby D19_31 (v := -1) rfl ?_
      exact own_ret (v := some (.int (-1 : Int32))) X0 (fun h => by first | rfl | (rw [Bd.returns] at h; cases h)) (BodyLoose.notSynchronized Bd) (by decide) (by decide) (⟨by rw [own_ix2, if_neg (fun q => hc19_2 ((own_eqb hc0 hl0 hn).mpr q)), if_neg (fun q => hc19_4 ((own_eqb hc1 hl1 hn).mpr q))], N0, e0⟩) (fun fs hr => retI X0 hx Bd.returns (hb hby D19_32.1) hr)
theorem ef_rs_li2 (m : MethodId) (vb : Addr) (ch : Int32) : entryFrame m #[(.ref vb), (.int ch), (.int (0 : Int32)), (.int (2 : Int32))] 4 = mkF m 0 #[.val (.ref vb), .val (.int ch), .val (.int (0 : Int32)), .val (.int (2 : Int32))] [] := by first | (simp [entryFrame, mkF, argsToLocals, Value.category]; done) | rfl
set_option maxRecDepth 65536 in
set_option maxHeartbeats 40000000 in
theorem rs_li2 (l : Launch) (Z : State) (a0 : Array Value) (hw : ∀ d ∈ tables_1, d.before a0 Z = true) (ws : List Jvm.Cond) (vb : Addr) (ch : Int32) (kb : ClassId) (c0 c1 : Int32) (h0 : Heap) (n0 : Nat) (Z0 : n0 ≤ h0.size) (Vb : Arv Z h0 vb kb .byte (2 : Int32) [(.int (own_l8 c0)), (.int (own_l8 c1))] (.int (0 : Int32))) (hc0 : own_ch16 c0) (hl0 : ¬ ((255 : Int32) < c0)) (hc1 : own_ch16 c1) (hl1 : ¬ ((255 : Int32) < c1)) (hn : own_nl ch) :
    MetFree l (⟨"java/lang/StringLatin1", "indexOf", "([BIII)I"⟩ : MethodName) (head1 (Jvm.Cond.code (⟨"java/lang/StringLatin1", "indexOf", "([BIII)I"⟩ : MethodName) jdk_43_method_22_code 4 (some .int) :: ws) ({ frames := 1, cells := 0, slots := 0, locals := 17 } : Room)) (fun a U => a = #[(.ref vb), (.int ch), (.int (0 : Int32)), (.int (2 : Int32))] ∧ Z.Warmed39 U.vm ∧ U.heap = h0) (fun _ _ _ _ _ => True) (fun _ U o U' => ∃ v L, o = .returned v ∧ own_QP (.int (own_ix2 ch c0 c1)) h0 n0 v U'.heap L ∧ FrameEnd U o U' L ({ frames := 1, cells := 0, slots := 0, locals := 17 } : Room).cells ({ frames := 1, cells := 0, slots := 0, locals := 17 } : Room).slots) := by
  refine MetFree.of_bodySF (plainFor_of_name pn_java_lang_StringLatin1) hisR ?_
  intro p e s m args below meth c s₁ Bd hml0 hP hK
  obtain ⟨rfl, hZ, hh⟩ := hP
  have hx := Bd.exec
  have hby := Bd.bytes
  have hml : c.maxLocals = 4 := hml0
  have hown : s.vm.findClass "java/lang/StringLatin1" = some m.cls := findClass_of_methodNamed Bd.named
  have hnm := (name_of_methodNamed Bd.named Bd.method).1
  have X0 : Stand p l e ({ frames := 1, cells := 0, slots := 0, locals := 17 } : Room) s m #[(.ref vb), (.int ch), (.int (0 : Int32)), (.int (2 : Int32))] below meth c s₁ [] 0 0 := Stand.of_body Bd
  have e0 : s₁.heap = h0 := by rw [← hh, Bd.state]; rfl
  have N0 := Fr.nil n0
  refine own_start (ef_rs_li2 m vb ch) ?_
  refine o_iloadN X0 hx hby D11_0 rfl ?_
  obtain ⟨_, _, ⟨T1, L1, k1, n1⟩, -, X1, ⟨Lc1, hQ1, l1, y1, z1⟩, st1⟩ := Jvm.LawKit.callS X0 hx (y := (⟨"java/lang/StringLatin1", "canEncode", "(I)Z"⟩ : MethodName)) hown (mvT hZ (own_wd hw (i := 60) rfl)) (mvT hZ (own_wd hw (i := 61) rfl)) (mvT hZ (own_wd hw (i := 58) rfl)) (mvT hZ (own_wd hw (i := 62) rfl)) (by decide) (backOf (W := 0) (rs_ce l Z a0 hw [] ch h0 n0 Z0 hn) hZ (own_wd hw (i := 62) rfl) (own_wd hw (i := 58) rfl) (by decide) (by decide)) (g := (mkF m 1 #[.val (.ref vb), .val (.int ch), .val (.int (0 : Int32)), .val (.int (2 : Int32))] [(.int ch)])) rfl (by rw [hml]; rfl) (argsL := [(.int ch)]) (rest := []) (lenOf pd__40I_41Z rfl) rfl (by show 2 * 0 + _ ≤ _; exact Nat.le_of_eq rfl) (hb hby D11_1.1) (fun _ _ => ⟨rfl, e0, (by decide : 0 + 0 ≤ _), (by decide : 0 + 0 ≤ _)⟩)
  dsimp only [Pt.U, Pt.locs, Pt.cells, Pt.slots] at X1 l1 y1 z1 st1 hQ1
  subst l1 y1 z1
  obtain ⟨rfl, N1q, e1⟩ := hQ1
  have N1 := Fr.app N0 N1q
  refine own_pre (A' := T1.setTop (mkF m 4 #[.val (.ref vb), .val (.int ch), .val (.int (0 : Int32)), .val (.int (2 : Int32))] [(.int (1 : Int32))])) st1 ?_
  refine o_ifY X1 hx hby D11_4 ((if0 _ _).trans (feq (by decide : ¬ ((1 : Int32) = (0 : Int32)))).2) (q := 9) (by decide) (by decide) ?_
  refine o_iloadN X1 hx hby D11_9 rfl ?_
  refine o_iconst X1 hx hby D11_10 (v := 0) rfl ?_
  obtain ⟨_, _, ⟨T2, L2, k2, n2⟩, -, X2, ⟨Lc2, hQ2, l2, y2, z2⟩, st2⟩ := Jvm.LawKit.callS X1 hx (y := (⟨"java/lang/Math", "max", "(II)I"⟩ : MethodName)) hown (mvT hZ (own_wd hw (i := 63) rfl)) (mvT hZ (own_wd hw (i := 64) rfl)) (mvT hZ (own_wd hw (i := 65) rfl)) (mvT hZ (own_wd hw (i := 66) rfl)) (by decide) (backOf (W := 0) (rs_max l Z a0 hw [] (0 : Int32) (0 : Int32) (0 : Int32) h0 n0 Z0 (by decide)) hZ (own_wd hw (i := 66) rfl) (own_wd hw (i := 65) rfl) (by decide) (by decide)) (g := (mkF m 11 #[.val (.ref vb), .val (.int ch), .val (.int (0 : Int32)), .val (.int (2 : Int32))] [(.int (0 : Int32)), (.int (0 : Int32))])) rfl (by rw [hml]; rfl) (argsL := [(.int (0 : Int32)), (.int (0 : Int32))]) (rest := []) (lenOf pd__40II_41I rfl) rfl (by show 2 * 0 + _ ≤ _; exact Nat.le_of_eq rfl) (hb hby D11_11.1) (fun _ _ => ⟨rfl, e1, (by decide : 0 + 0 ≤ _), (by decide : 0 + 0 ≤ _)⟩)
  dsimp only [Pt.U, Pt.locs, Pt.cells, Pt.slots] at X2 l2 y2 z2 st2 hQ2
  subst l2 y2 z2
  obtain ⟨rfl, N2q, e2⟩ := hQ2
  have N2 := Fr.app N1 N2q
  refine own_pre (A' := T2.setTop (mkF m 14 #[.val (.ref vb), .val (.int ch), .val (.int (0 : Int32)), .val (.int (2 : Int32))] [(.int (0 : Int32))])) st2 ?_
  refine o_istoreN X2 hx hby D11_14 (l' := #[.val (.ref vb), .val (.int ch), .val (.int (0 : Int32)), .val (.int (2 : Int32))]) rfl ?_
  refine o_iloadN X2 hx hby D11_15 rfl ?_
  refine o_aloadN X2 hx hby D11_16 rfl rfl ?_
  obtain ⟨cl_vb_3, Ar_vb_3, q_vb_3, S_vb_3, N_vb_3, H_vb_3, G_vb_3⟩ := id Vb
  refine own_pre (A' := T2.setTop (mkF m 18 #[.val (.ref vb), .val (.int ch), .val (.int (0 : Int32)), .val (.int (2 : Int32))] [(.int (2 : Int32)), (.int (2 : Int32))])) (fun t k => X2.arraylength hx (by rw [e2]; exact Ar_vb_3.1) (State.isArrayOf_alike hZ.alike Ar_vb_3.2.1) (g := (mkF m 17 #[.val (.ref vb), .val (.int ch), .val (.int (0 : Int32)), .val (.int (2 : Int32))] [(.ref vb), (.int (2 : Int32))])) rfl rfl (hb hby D11_17.1) _ (by rw [len_of S_vb_3 N_vb_3]; exact k)) ?_
  obtain ⟨_, _, ⟨T4, L4, k4, n4⟩, -, X4, ⟨Lc4, hQ4, l4, y4, z4⟩, st4⟩ := Jvm.LawKit.callS X2 hx (y := (⟨"java/lang/Math", "min", "(II)I"⟩ : MethodName)) hown (mvT hZ (own_wd hw (i := 67) rfl)) (mvT hZ (own_wd hw (i := 68) rfl)) (mvT hZ (own_wd hw (i := 65) rfl)) (mvT hZ (own_wd hw (i := 69) rfl)) (by decide) (backOf (W := 0) (rs_min l Z a0 hw [] (2 : Int32) (2 : Int32) (2 : Int32) h0 n0 Z0 (by decide)) hZ (own_wd hw (i := 69) rfl) (own_wd hw (i := 65) rfl) (by decide) (by decide)) (g := (mkF m 18 #[.val (.ref vb), .val (.int ch), .val (.int (0 : Int32)), .val (.int (2 : Int32))] [(.int (2 : Int32)), (.int (2 : Int32))])) rfl (by rw [hml]; rfl) (argsL := [(.int (2 : Int32)), (.int (2 : Int32))]) (rest := []) (lenOf pd__40II_41I rfl) rfl (by show 2 * 0 + _ ≤ _; exact Nat.le_of_eq rfl) (hb hby D11_18.1) (fun _ _ => ⟨rfl, e2, (by decide : 0 + 0 ≤ _), (by decide : 0 + 0 ≤ _)⟩)
  dsimp only [Pt.U, Pt.locs, Pt.cells, Pt.slots] at X4 l4 y4 z4 st4 hQ4
  subst l4 y4 z4
  obtain ⟨rfl, N4q, e4⟩ := hQ4
  have N4 := Fr.app N2 N4q
  refine own_pre (A' := T4.setTop (mkF m 21 #[.val (.ref vb), .val (.int ch), .val (.int (0 : Int32)), .val (.int (2 : Int32))] [(.int (2 : Int32))])) st4 ?_
  refine o_istoreN X4 hx hby D11_21 (l' := #[.val (.ref vb), .val (.int ch), .val (.int (0 : Int32)), .val (.int (2 : Int32))]) rfl ?_
  refine o_iloadN X4 hx hby D11_22 rfl ?_
  refine o_iloadN X4 hx hby D11_23 rfl ?_
  refine o_icmpY X4 hx hby D11_24 (tlt (by decide : (0 : Int32) < (2 : Int32))).1 (q := 29) (by decide) (by decide) ?_
  refine o_aloadN X4 hx hby D11_29 rfl rfl ?_
  refine o_iloadN X4 hx hby D11_30 rfl ?_
  refine o_iloadN X4 hx hby D11_31 rfl ?_
  refine o_iloadN X4 hx hby D11_32 rfl ?_
  obtain ⟨_, _, ⟨T5, L5, k5, n5⟩, -, X5, ⟨Lc5, hQ5, l5, y5, z5⟩, st5⟩ := Jvm.LawKit.callS X4 hx (y := (⟨"java/lang/StringLatin1", "indexOfChar", "([BIII)I"⟩ : MethodName)) hown (mvT hZ (own_wd hw (i := 83) rfl)) (mvT hZ (own_wd hw (i := 84) rfl)) (mvT hZ (own_wd hw (i := 58) rfl)) (mvT hZ (own_wd hw (i := 85) rfl)) (by decide) (backOf (W := 0) (rs_lc2 l Z a0 hw [] vb ch kb c0 c1 h0 n0 Z0 Vb hc0 hl0 hc1 hl1 hn) hZ (own_wd hw (i := 85) rfl) (own_wd hw (i := 58) rfl) (by decide) (by decide)) (g := (mkF m 33 #[.val (.ref vb), .val (.int ch), .val (.int (0 : Int32)), .val (.int (2 : Int32))] [(.int (2 : Int32)), (.int (0 : Int32)), (.int ch), (.ref vb)])) rfl (by rw [hml]; rfl) (argsL := [(.ref vb), (.int ch), (.int (0 : Int32)), (.int (2 : Int32))]) (rest := []) (lenOf pd__40_91BIII_41I rfl) rfl (by show 2 * 0 + _ ≤ _; exact Nat.le_of_eq rfl) (hb hby D11_33.1) (fun _ _ => ⟨rfl, e4, (by decide : 0 + 0 ≤ _), (by decide : 0 + 0 ≤ _)⟩)
  dsimp only [Pt.U, Pt.locs, Pt.cells, Pt.slots] at X5 l5 y5 z5 st5 hQ5
  subst l5 y5 z5
  obtain ⟨rfl, N5q, e5⟩ := hQ5
  have N5 := Fr.app N4 N5q
  refine own_pre (A' := T5.setTop (mkF m 36 #[.val (.ref vb), .val (.int ch), .val (.int (0 : Int32)), .val (.int (2 : Int32))] [(.int (own_ix2 ch c0 c1))])) st5 ?_
  exact own_ret (v := some (.int (own_ix2 ch c0 c1))) X5 (fun h => by first | rfl | (rw [Bd.returns] at h; cases h)) (BodyLoose.notSynchronized Bd) (by decide) (by decide) (⟨rfl, N5, e5⟩) (fun fs hr => retI X5 hx Bd.returns (hb hby D11_36.1) hr)
theorem ef_rs_lc3 (m : MethodId) (vb : Addr) (ch : Int32) : entryFrame m #[(.ref vb), (.int ch), (.int (0 : Int32)), (.int (3 : Int32))] 6 = mkF m 0 #[.val (.ref vb), .val (.int ch), .val (.int (0 : Int32)), .val (.int (3 : Int32)), .unset, .unset] [] := by first | (simp [entryFrame, mkF, argsToLocals, Value.category]; done) | rfl
set_option maxRecDepth 65536 in
set_option maxHeartbeats 40000000 in
theorem rs_lc3 (l : Launch) (Z : State) (a0 : Array Value) (hw : ∀ d ∈ tables_1, d.before a0 Z = true) (ws : List Jvm.Cond) (vb : Addr) (ch : Int32) (kb : ClassId) (c0 c1 c2 : Int32) (h0 : Heap) (n0 : Nat) (Z0 : n0 ≤ h0.size) (Vb : Arv Z h0 vb kb .byte (3 : Int32) [(.int (own_l8 c0)), (.int (own_l8 c1)), (.int (own_l8 c2))] (.int (0 : Int32))) (hc0 : own_ch16 c0) (hl0 : ¬ ((255 : Int32) < c0)) (hc1 : own_ch16 c1) (hl1 : ¬ ((255 : Int32) < c1)) (hc2 : own_ch16 c2) (hl2 : ¬ ((255 : Int32) < c2)) (hn : own_nl ch) :
    MetFree l (⟨"java/lang/StringLatin1", "indexOfChar", "([BIII)I"⟩ : MethodName) (head1 (Jvm.Cond.code (⟨"java/lang/StringLatin1", "indexOfChar", "([BIII)I"⟩ : MethodName) jdk_43_method_23_code 6 (some .int) :: ws) ({ frames := 0, cells := 0, slots := 0, locals := 0 } : Room)) (fun a U => a = #[(.ref vb), (.int ch), (.int (0 : Int32)), (.int (3 : Int32))] ∧ Z.Warmed39 U.vm ∧ U.heap = h0) (fun _ _ _ _ _ => True) (fun _ U o U' => ∃ v L, o = .returned v ∧ own_QP (.int (own_ix3 ch c0 c1 c2)) h0 n0 v U'.heap L ∧ FrameEnd U o U' L ({ frames := 0, cells := 0, slots := 0, locals := 0 } : Room).cells ({ frames := 0, cells := 0, slots := 0, locals := 0 } : Room).slots) := by
  refine MetFree.of_bodySF (plainFor_of_name pn_java_lang_StringLatin1) hisR ?_
  intro p e s m args below meth c s₁ Bd hml0 hP hK
  obtain ⟨rfl, hZ, hh⟩ := hP
  have hx := Bd.exec
  have hby := Bd.bytes
  have hml : c.maxLocals = 6 := hml0
  have hown : s.vm.findClass "java/lang/StringLatin1" = some m.cls := findClass_of_methodNamed Bd.named
  have hnm := (name_of_methodNamed Bd.named Bd.method).1
  have X0 : Stand p l e ({ frames := 0, cells := 0, slots := 0, locals := 0 } : Room) s m #[(.ref vb), (.int ch), (.int (0 : Int32)), (.int (3 : Int32))] below meth c s₁ [] 0 0 := Stand.of_body Bd
  have e0 : s₁.heap = h0 := by rw [← hh, Bd.state]; rfl
  have N0 := Fr.nil n0
  refine own_start (ef_rs_lc3 m vb ch) ?_
  refine o_iloadN X0 hx hby D19_0 rfl ?_
  refine o_i2b X0 hx hby D19_1 ?_
  refine o_istore X0 hx hby D19_2 (l' := #[.val (.ref vb), .val (.int ch), .val (.int (0 : Int32)), .val (.int (3 : Int32)), .val (.int ((ch).toInt8.toInt32)), .unset]) rfl ?_
  refine o_iloadN X0 hx hby D19_4 rfl ?_
  refine o_istore X0 hx hby D19_5 (l' := #[.val (.ref vb), .val (.int ch), .val (.int (0 : Int32)), .val (.int (3 : Int32)), .val (.int ((ch).toInt8.toInt32)), .val (.int (0 : Int32))]) rfl ?_
  refine o_iload X0 hx hby D19_7 rfl ?_
  refine o_iloadN X0 hx hby D19_9 rfl ?_
  refine o_icmpN X0 hx hby D19_10 (tlt (by decide : (0 : Int32) < (3 : Int32))).2.1 ?_
  refine o_aloadN X0 hx hby D19_13 rfl rfl ?_
  refine o_iload X0 hx hby D19_14 rfl ?_
  obtain ⟨cl_vb_1, Ar_vb_1, q_vb_1, S_vb_1, N_vb_1, H_vb_1, G_vb_1⟩ := id Vb
  have hin_vb_1 : ¬ ((0 : Int32) < 0 ∨ cl_vb_1.slots.size ≤ ((0 : Int32)).toNatClampNeg) := inb_of S_vb_1 ⟨by decide, by decide⟩
  have hat_vb_1 : cl_vb_1.slots[((0 : Int32)).toNatClampNeg]? = some (.int (own_l8 c0)) := H_vb_1.at hin_vb_1 (rfl)
  refine own_pre (A' := s₁.setTop (mkF m 17 #[.val (.ref vb), .val (.int ch), .val (.int (0 : Int32)), .val (.int (3 : Int32)), .val (.int ((ch).toInt8.toInt32)), .val (.int (0 : Int32))] [(.int (own_l8 c0))])) (fun t k => X0.baloadBytes hx (j := (0 : Int32)) (v := (.int (own_l8 c0))) (by rw [e0]; exact Ar_vb_1.1) (State.isArrayOf_alike hZ.alike Ar_vb_1.2.1) Ar_vb_1.2.2 hin_vb_1 hat_vb_1 (g := (mkF m 16 #[.val (.ref vb), .val (.int ch), .val (.int (0 : Int32)), .val (.int (3 : Int32)), .val (.int ((ch).toInt8.toInt32)), .val (.int (0 : Int32))] [(.int (0 : Int32)), (.ref vb)])) rfl rfl (hb hby D19_16.1) _ k) ?_
  refine o_iload X0 hx hby D19_17 rfl ?_
  by_cases hc19_2 : (own_l8 c0) = ((ch).toInt8.toInt32)
  · skip
    refine o_icmpN X0 hx hby D19_19 (teq hc19_2).2 ?_
    refine o_iload X0 hx hby D19_22 rfl ?_
    exact own_ret (v := some (.int (0 : Int32))) X0 (fun h => by first | rfl | (rw [Bd.returns] at h; cases h)) (BodyLoose.notSynchronized Bd) (by decide) (by decide) (⟨by rw [own_ix3, if_pos ((own_eqb hc0 hl0 hn).mp hc19_2)], N0, e0⟩) (fun fs hr => retI X0 hx Bd.returns (hb hby D19_24.1) hr)
  · skip
    refine o_icmpY X0 hx hby D19_19 (feq hc19_2).2 (q := 25) (by decide) (by decide) ?_
    refine o_iinc X0 hx hby D19_25 rfl (l' := #[.val (.ref vb), .val (.int ch), .val (.int (0 : Int32)), .val (.int (3 : Int32)), .val (.int ((ch).toInt8.toInt32)), .val (.int ((0 : Int32) + (1 : Int32)))]) rfl ?_
    rw [(by decide : ((0 : Int32) + (1 : Int32)) = (1 : Int32))]
    refine o_goto X0 hx hby D19_28 (q := 7) (by decide) (by decide) ?_
    refine o_iload X0 hx hby D19_7 rfl ?_
    refine o_iloadN X0 hx hby D19_9 rfl ?_
    refine o_icmpN X0 hx hby D19_10 (tlt (by decide : (1 : Int32) < (3 : Int32))).2.1 ?_
    refine o_aloadN X0 hx hby D19_13 rfl rfl ?_
    refine o_iload X0 hx hby D19_14 rfl ?_
    obtain ⟨cl_vb_3, Ar_vb_3, q_vb_3, S_vb_3, N_vb_3, H_vb_3, G_vb_3⟩ := id Vb
    have hin_vb_3 : ¬ ((1 : Int32) < 0 ∨ cl_vb_3.slots.size ≤ ((1 : Int32)).toNatClampNeg) := inb_of S_vb_3 ⟨by decide, by decide⟩
    have hat_vb_3 : cl_vb_3.slots[((1 : Int32)).toNatClampNeg]? = some (.int (own_l8 c1)) := H_vb_3.at hin_vb_3 (rfl)
    refine own_pre (A' := s₁.setTop (mkF m 17 #[.val (.ref vb), .val (.int ch), .val (.int (0 : Int32)), .val (.int (3 : Int32)), .val (.int ((ch).toInt8.toInt32)), .val (.int (1 : Int32))] [(.int (own_l8 c1))])) (fun t k => X0.baloadBytes hx (j := (1 : Int32)) (v := (.int (own_l8 c1))) (by rw [e0]; exact Ar_vb_3.1) (State.isArrayOf_alike hZ.alike Ar_vb_3.2.1) Ar_vb_3.2.2 hin_vb_3 hat_vb_3 (g := (mkF m 16 #[.val (.ref vb), .val (.int ch), .val (.int (0 : Int32)), .val (.int (3 : Int32)), .val (.int ((ch).toInt8.toInt32)), .val (.int (1 : Int32))] [(.int (1 : Int32)), (.ref vb)])) rfl rfl (hb hby D19_16.1) _ k) ?_
    refine o_iload X0 hx hby D19_17 rfl ?_
    by_cases hc19_4 : (own_l8 c1) = ((ch).toInt8.toInt32)
    · skip
      refine o_icmpN X0 hx hby D19_19 (teq hc19_4).2 ?_
      refine o_iload X0 hx hby D19_22 rfl ?_
      exact own_ret (v := some (.int (1 : Int32))) X0 (fun h => by first | rfl | (rw [Bd.returns] at h; cases h)) (BodyLoose.notSynchronized Bd) (by decide) (by decide) (⟨by rw [own_ix3, if_neg (fun q => hc19_2 ((own_eqb hc0 hl0 hn).mpr q)), if_pos ((own_eqb hc1 hl1 hn).mp hc19_4)], N0, e0⟩) (fun fs hr => retI X0 hx Bd.returns (hb hby D19_24.1) hr)
    · skip
      refine o_icmpY X0 hx hby D19_19 (feq hc19_4).2 (q := 25) (by decide) (by decide) ?_
      refine o_iinc X0 hx hby D19_25 rfl (l' := #[.val (.ref vb), .val (.int ch), .val (.int (0 : Int32)), .val (.int (3 : Int32)), .val (.int ((ch).toInt8.toInt32)), .val (.int ((1 : Int32) + (1 : Int32)))]) rfl ?_
      rw [(by decide : ((1 : Int32) + (1 : Int32)) = (2 : Int32))]
      refine o_goto X0 hx hby D19_28 (q := 7) (by decide) (by decide) ?_
      refine o_iload X0 hx hby D19_7 rfl ?_
      refine o_iloadN X0 hx hby D19_9 rfl ?_
      refine o_icmpN X0 hx hby D19_10 (tlt (by decide : (2 : Int32) < (3 : Int32))).2.1 ?_
      refine o_aloadN X0 hx hby D19_13 rfl rfl ?_
      refine o_iload X0 hx hby D19_14 rfl ?_
      obtain ⟨cl_vb_5, Ar_vb_5, q_vb_5, S_vb_5, N_vb_5, H_vb_5, G_vb_5⟩ := id Vb
      have hin_vb_5 : ¬ ((2 : Int32) < 0 ∨ cl_vb_5.slots.size ≤ ((2 : Int32)).toNatClampNeg) := inb_of S_vb_5 ⟨by decide, by decide⟩
      have hat_vb_5 : cl_vb_5.slots[((2 : Int32)).toNatClampNeg]? = some (.int (own_l8 c2)) := H_vb_5.at hin_vb_5 (rfl)
      refine own_pre (A' := s₁.setTop (mkF m 17 #[.val (.ref vb), .val (.int ch), .val (.int (0 : Int32)), .val (.int (3 : Int32)), .val (.int ((ch).toInt8.toInt32)), .val (.int (2 : Int32))] [(.int (own_l8 c2))])) (fun t k => X0.baloadBytes hx (j := (2 : Int32)) (v := (.int (own_l8 c2))) (by rw [e0]; exact Ar_vb_5.1) (State.isArrayOf_alike hZ.alike Ar_vb_5.2.1) Ar_vb_5.2.2 hin_vb_5 hat_vb_5 (g := (mkF m 16 #[.val (.ref vb), .val (.int ch), .val (.int (0 : Int32)), .val (.int (3 : Int32)), .val (.int ((ch).toInt8.toInt32)), .val (.int (2 : Int32))] [(.int (2 : Int32)), (.ref vb)])) rfl rfl (hb hby D19_16.1) _ k) ?_
      refine o_iload X0 hx hby D19_17 rfl ?_
      by_cases hc19_6 : (own_l8 c2) = ((ch).toInt8.toInt32)
      · skip
        refine o_icmpN X0 hx hby D19_19 (teq hc19_6).2 ?_
        refine o_iload X0 hx hby D19_22 rfl ?_
        exact own_ret (v := some (.int (2 : Int32))) X0 (fun h => by first | rfl | (rw [Bd.returns] at h; cases h)) (BodyLoose.notSynchronized Bd) (by decide) (by decide) (⟨by rw [own_ix3, if_neg (fun q => hc19_2 ((own_eqb hc0 hl0 hn).mpr q)), if_neg (fun q => hc19_4 ((own_eqb hc1 hl1 hn).mpr q)), if_pos ((own_eqb hc2 hl2 hn).mp hc19_6)], N0, e0⟩) (fun fs hr => retI X0 hx Bd.returns (hb hby D19_24.1) hr)
      · skip
        refine o_icmpY X0 hx hby D19_19 (feq hc19_6).2 (q := 25) (by decide) (by decide) ?_
        refine o_iinc X0 hx hby D19_25 rfl (l' := #[.val (.ref vb), .val (.int ch), .val (.int (0 : Int32)), .val (.int (3 : Int32)), .val (.int ((ch).toInt8.toInt32)), .val (.int ((2 : Int32) + (1 : Int32)))]) rfl ?_
        rw [(by decide : ((2 : Int32) + (1 : Int32)) = (3 : Int32))]
        refine o_goto X0 hx hby D19_28 (q := 7) (by decide) (by decide) ?_
        refine o_iload X0 hx hby D19_7 rfl ?_
        refine o_iloadN X0 hx hby D19_9 rfl ?_
        refine o_icmpY X0 hx hby D19_10 (flt (by decide : ¬ ((3 : Int32) < (3 : Int32)))).2.1 (q := 31) (by decide) (by decide) ?_
        refine o_iconst X0 hx hby D19_31 (v := -1) rfl ?_
        exact own_ret (v := some (.int (-1 : Int32))) X0 (fun h => by first | rfl | (rw [Bd.returns] at h; cases h)) (BodyLoose.notSynchronized Bd) (by decide) (by decide) (⟨by rw [own_ix3, if_neg (fun q => hc19_2 ((own_eqb hc0 hl0 hn).mpr q)), if_neg (fun q => hc19_4 ((own_eqb hc1 hl1 hn).mpr q)), if_neg (fun q => hc19_6 ((own_eqb hc2 hl2 hn).mpr q))], N0, e0⟩) (fun fs hr => retI X0 hx Bd.returns (hb hby D19_32.1) hr)
theorem ef_rs_li3 (m : MethodId) (vb : Addr) (ch : Int32) : entryFrame m #[(.ref vb), (.int ch), (.int (0 : Int32)), (.int (3 : Int32))] 4 = mkF m 0 #[.val (.ref vb), .val (.int ch), .val (.int (0 : Int32)), .val (.int (3 : Int32))] [] := by first | (simp [entryFrame, mkF, argsToLocals, Value.category]; done) | rfl
set_option maxRecDepth 65536 in
set_option maxHeartbeats 40000000 in
theorem rs_li3 (l : Launch) (Z : State) (a0 : Array Value) (hw : ∀ d ∈ tables_1, d.before a0 Z = true) (ws : List Jvm.Cond) (vb : Addr) (ch : Int32) (kb : ClassId) (c0 c1 c2 : Int32) (h0 : Heap) (n0 : Nat) (Z0 : n0 ≤ h0.size) (Vb : Arv Z h0 vb kb .byte (3 : Int32) [(.int (own_l8 c0)), (.int (own_l8 c1)), (.int (own_l8 c2))] (.int (0 : Int32))) (hc0 : own_ch16 c0) (hl0 : ¬ ((255 : Int32) < c0)) (hc1 : own_ch16 c1) (hl1 : ¬ ((255 : Int32) < c1)) (hc2 : own_ch16 c2) (hl2 : ¬ ((255 : Int32) < c2)) (hn : own_nl ch) :
    MetFree l (⟨"java/lang/StringLatin1", "indexOf", "([BIII)I"⟩ : MethodName) (head1 (Jvm.Cond.code (⟨"java/lang/StringLatin1", "indexOf", "([BIII)I"⟩ : MethodName) jdk_43_method_22_code 4 (some .int) :: ws) ({ frames := 1, cells := 0, slots := 0, locals := 17 } : Room)) (fun a U => a = #[(.ref vb), (.int ch), (.int (0 : Int32)), (.int (3 : Int32))] ∧ Z.Warmed39 U.vm ∧ U.heap = h0) (fun _ _ _ _ _ => True) (fun _ U o U' => ∃ v L, o = .returned v ∧ own_QP (.int (own_ix3 ch c0 c1 c2)) h0 n0 v U'.heap L ∧ FrameEnd U o U' L ({ frames := 1, cells := 0, slots := 0, locals := 17 } : Room).cells ({ frames := 1, cells := 0, slots := 0, locals := 17 } : Room).slots) := by
  refine MetFree.of_bodySF (plainFor_of_name pn_java_lang_StringLatin1) hisR ?_
  intro p e s m args below meth c s₁ Bd hml0 hP hK
  obtain ⟨rfl, hZ, hh⟩ := hP
  have hx := Bd.exec
  have hby := Bd.bytes
  have hml : c.maxLocals = 4 := hml0
  have hown : s.vm.findClass "java/lang/StringLatin1" = some m.cls := findClass_of_methodNamed Bd.named
  have hnm := (name_of_methodNamed Bd.named Bd.method).1
  have X0 : Stand p l e ({ frames := 1, cells := 0, slots := 0, locals := 17 } : Room) s m #[(.ref vb), (.int ch), (.int (0 : Int32)), (.int (3 : Int32))] below meth c s₁ [] 0 0 := Stand.of_body Bd
  have e0 : s₁.heap = h0 := by rw [← hh, Bd.state]; rfl
  have N0 := Fr.nil n0
  refine own_start (ef_rs_li3 m vb ch) ?_
  refine o_iloadN X0 hx hby D11_0 rfl ?_
  obtain ⟨_, _, ⟨T1, L1, k1, n1⟩, -, X1, ⟨Lc1, hQ1, l1, y1, z1⟩, st1⟩ := Jvm.LawKit.callS X0 hx (y := (⟨"java/lang/StringLatin1", "canEncode", "(I)Z"⟩ : MethodName)) hown (mvT hZ (own_wd hw (i := 60) rfl)) (mvT hZ (own_wd hw (i := 61) rfl)) (mvT hZ (own_wd hw (i := 58) rfl)) (mvT hZ (own_wd hw (i := 62) rfl)) (by decide) (backOf (W := 0) (rs_ce l Z a0 hw [] ch h0 n0 Z0 hn) hZ (own_wd hw (i := 62) rfl) (own_wd hw (i := 58) rfl) (by decide) (by decide)) (g := (mkF m 1 #[.val (.ref vb), .val (.int ch), .val (.int (0 : Int32)), .val (.int (3 : Int32))] [(.int ch)])) rfl (by rw [hml]; rfl) (argsL := [(.int ch)]) (rest := []) (lenOf pd__40I_41Z rfl) rfl (by show 2 * 0 + _ ≤ _; exact Nat.le_of_eq rfl) (hb hby D11_1.1) (fun _ _ => ⟨rfl, e0, (by decide : 0 + 0 ≤ _), (by decide : 0 + 0 ≤ _)⟩)
  dsimp only [Pt.U, Pt.locs, Pt.cells, Pt.slots] at X1 l1 y1 z1 st1 hQ1
  subst l1 y1 z1
  obtain ⟨rfl, N1q, e1⟩ := hQ1
  have N1 := Fr.app N0 N1q
  refine own_pre (A' := T1.setTop (mkF m 4 #[.val (.ref vb), .val (.int ch), .val (.int (0 : Int32)), .val (.int (3 : Int32))] [(.int (1 : Int32))])) st1 ?_
  refine o_ifY X1 hx hby D11_4 ((if0 _ _).trans (feq (by decide : ¬ ((1 : Int32) = (0 : Int32)))).2) (q := 9) (by decide) (by decide) ?_
  refine o_iloadN X1 hx hby D11_9 rfl ?_
  refine o_iconst X1 hx hby D11_10 (v := 0) rfl ?_
  obtain ⟨_, _, ⟨T2, L2, k2, n2⟩, -, X2, ⟨Lc2, hQ2, l2, y2, z2⟩, st2⟩ := Jvm.LawKit.callS X1 hx (y := (⟨"java/lang/Math", "max", "(II)I"⟩ : MethodName)) hown (mvT hZ (own_wd hw (i := 63) rfl)) (mvT hZ (own_wd hw (i := 64) rfl)) (mvT hZ (own_wd hw (i := 65) rfl)) (mvT hZ (own_wd hw (i := 66) rfl)) (by decide) (backOf (W := 0) (rs_max l Z a0 hw [] (0 : Int32) (0 : Int32) (0 : Int32) h0 n0 Z0 (by decide)) hZ (own_wd hw (i := 66) rfl) (own_wd hw (i := 65) rfl) (by decide) (by decide)) (g := (mkF m 11 #[.val (.ref vb), .val (.int ch), .val (.int (0 : Int32)), .val (.int (3 : Int32))] [(.int (0 : Int32)), (.int (0 : Int32))])) rfl (by rw [hml]; rfl) (argsL := [(.int (0 : Int32)), (.int (0 : Int32))]) (rest := []) (lenOf pd__40II_41I rfl) rfl (by show 2 * 0 + _ ≤ _; exact Nat.le_of_eq rfl) (hb hby D11_11.1) (fun _ _ => ⟨rfl, e1, (by decide : 0 + 0 ≤ _), (by decide : 0 + 0 ≤ _)⟩)
  dsimp only [Pt.U, Pt.locs, Pt.cells, Pt.slots] at X2 l2 y2 z2 st2 hQ2
  subst l2 y2 z2
  obtain ⟨rfl, N2q, e2⟩ := hQ2
  have N2 := Fr.app N1 N2q
  refine own_pre (A' := T2.setTop (mkF m 14 #[.val (.ref vb), .val (.int ch), .val (.int (0 : Int32)), .val (.int (3 : Int32))] [(.int (0 : Int32))])) st2 ?_
  refine o_istoreN X2 hx hby D11_14 (l' := #[.val (.ref vb), .val (.int ch), .val (.int (0 : Int32)), .val (.int (3 : Int32))]) rfl ?_
  refine o_iloadN X2 hx hby D11_15 rfl ?_
  refine o_aloadN X2 hx hby D11_16 rfl rfl ?_
  obtain ⟨cl_vb_3, Ar_vb_3, q_vb_3, S_vb_3, N_vb_3, H_vb_3, G_vb_3⟩ := id Vb
  refine own_pre (A' := T2.setTop (mkF m 18 #[.val (.ref vb), .val (.int ch), .val (.int (0 : Int32)), .val (.int (3 : Int32))] [(.int (3 : Int32)), (.int (3 : Int32))])) (fun t k => X2.arraylength hx (by rw [e2]; exact Ar_vb_3.1) (State.isArrayOf_alike hZ.alike Ar_vb_3.2.1) (g := (mkF m 17 #[.val (.ref vb), .val (.int ch), .val (.int (0 : Int32)), .val (.int (3 : Int32))] [(.ref vb), (.int (3 : Int32))])) rfl rfl (hb hby D11_17.1) _ (by rw [len_of S_vb_3 N_vb_3]; exact k)) ?_
  obtain ⟨_, _, ⟨T4, L4, k4, n4⟩, -, X4, ⟨Lc4, hQ4, l4, y4, z4⟩, st4⟩ := Jvm.LawKit.callS X2 hx (y := (⟨"java/lang/Math", "min", "(II)I"⟩ : MethodName)) hown (mvT hZ (own_wd hw (i := 67) rfl)) (mvT hZ (own_wd hw (i := 68) rfl)) (mvT hZ (own_wd hw (i := 65) rfl)) (mvT hZ (own_wd hw (i := 69) rfl)) (by decide) (backOf (W := 0) (rs_min l Z a0 hw [] (3 : Int32) (3 : Int32) (3 : Int32) h0 n0 Z0 (by decide)) hZ (own_wd hw (i := 69) rfl) (own_wd hw (i := 65) rfl) (by decide) (by decide)) (g := (mkF m 18 #[.val (.ref vb), .val (.int ch), .val (.int (0 : Int32)), .val (.int (3 : Int32))] [(.int (3 : Int32)), (.int (3 : Int32))])) rfl (by rw [hml]; rfl) (argsL := [(.int (3 : Int32)), (.int (3 : Int32))]) (rest := []) (lenOf pd__40II_41I rfl) rfl (by show 2 * 0 + _ ≤ _; exact Nat.le_of_eq rfl) (hb hby D11_18.1) (fun _ _ => ⟨rfl, e2, (by decide : 0 + 0 ≤ _), (by decide : 0 + 0 ≤ _)⟩)
  dsimp only [Pt.U, Pt.locs, Pt.cells, Pt.slots] at X4 l4 y4 z4 st4 hQ4
  subst l4 y4 z4
  obtain ⟨rfl, N4q, e4⟩ := hQ4
  have N4 := Fr.app N2 N4q
  refine own_pre (A' := T4.setTop (mkF m 21 #[.val (.ref vb), .val (.int ch), .val (.int (0 : Int32)), .val (.int (3 : Int32))] [(.int (3 : Int32))])) st4 ?_
  refine o_istoreN X4 hx hby D11_21 (l' := #[.val (.ref vb), .val (.int ch), .val (.int (0 : Int32)), .val (.int (3 : Int32))]) rfl ?_
  refine o_iloadN X4 hx hby D11_22 rfl ?_
  refine o_iloadN X4 hx hby D11_23 rfl ?_
  refine o_icmpY X4 hx hby D11_24 (tlt (by decide : (0 : Int32) < (3 : Int32))).1 (q := 29) (by decide) (by decide) ?_
  refine o_aloadN X4 hx hby D11_29 rfl rfl ?_
  refine o_iloadN X4 hx hby D11_30 rfl ?_
  refine o_iloadN X4 hx hby D11_31 rfl ?_
  refine o_iloadN X4 hx hby D11_32 rfl ?_
  obtain ⟨_, _, ⟨T5, L5, k5, n5⟩, -, X5, ⟨Lc5, hQ5, l5, y5, z5⟩, st5⟩ := Jvm.LawKit.callS X4 hx (y := (⟨"java/lang/StringLatin1", "indexOfChar", "([BIII)I"⟩ : MethodName)) hown (mvT hZ (own_wd hw (i := 83) rfl)) (mvT hZ (own_wd hw (i := 84) rfl)) (mvT hZ (own_wd hw (i := 58) rfl)) (mvT hZ (own_wd hw (i := 85) rfl)) (by decide) (backOf (W := 0) (rs_lc3 l Z a0 hw [] vb ch kb c0 c1 c2 h0 n0 Z0 Vb hc0 hl0 hc1 hl1 hc2 hl2 hn) hZ (own_wd hw (i := 85) rfl) (own_wd hw (i := 58) rfl) (by decide) (by decide)) (g := (mkF m 33 #[.val (.ref vb), .val (.int ch), .val (.int (0 : Int32)), .val (.int (3 : Int32))] [(.int (3 : Int32)), (.int (0 : Int32)), (.int ch), (.ref vb)])) rfl (by rw [hml]; rfl) (argsL := [(.ref vb), (.int ch), (.int (0 : Int32)), (.int (3 : Int32))]) (rest := []) (lenOf pd__40_91BIII_41I rfl) rfl (by show 2 * 0 + _ ≤ _; exact Nat.le_of_eq rfl) (hb hby D11_33.1) (fun _ _ => ⟨rfl, e4, (by decide : 0 + 0 ≤ _), (by decide : 0 + 0 ≤ _)⟩)
  dsimp only [Pt.U, Pt.locs, Pt.cells, Pt.slots] at X5 l5 y5 z5 st5 hQ5
  subst l5 y5 z5
  obtain ⟨rfl, N5q, e5⟩ := hQ5
  have N5 := Fr.app N4 N5q
  refine own_pre (A' := T5.setTop (mkF m 36 #[.val (.ref vb), .val (.int ch), .val (.int (0 : Int32)), .val (.int (3 : Int32))] [(.int (own_ix3 ch c0 c1 c2))])) st5 ?_
  exact own_ret (v := some (.int (own_ix3 ch c0 c1 c2))) X5 (fun h => by first | rfl | (rw [Bd.returns] at h; cases h)) (BodyLoose.notSynchronized Bd) (by decide) (by decide) (⟨rfl, N5, e5⟩) (fun fs hr => retI X5 hx Bd.returns (hb hby D11_36.1) hr)
theorem D30_0 : own_at jdk_41_method_12_code 0 (.iload_n 0) 1 1 := ⟨by decide +kernel, rfl⟩
theorem D30_1 : own_at jdk_41_method_12_code 1 (.ifCond .lt 13) 3 4 := ⟨by decide +kernel, rfl⟩
theorem D30_4 : own_at jdk_41_method_12_code 4 (.iload_n 0) 1 5 := ⟨by decide +kernel, rfl⟩
theorem D30_5 : own_at jdk_41_method_12_code 5 (.iload_n 1) 1 6 := ⟨by decide +kernel, rfl⟩
theorem D30_6 : own_at jdk_41_method_12_code 6 (.if_icmp .gt 8) 3 9 := ⟨by decide +kernel, rfl⟩
theorem D30_9 : own_at jdk_41_method_12_code 9 (.iload_n 1) 1 10 := ⟨by decide +kernel, rfl⟩
theorem D30_10 : own_at jdk_41_method_12_code 10 (.iload_n 2) 1 11 := ⟨by decide +kernel, rfl⟩
theorem D30_11 : own_at jdk_41_method_12_code 11 (.if_icmp .le 11) 3 14 := ⟨by decide +kernel, rfl⟩
theorem D30_22 : own_at jdk_41_method_12_code 22 (.iload_n 0) 1 23 := ⟨by decide +kernel, rfl⟩
theorem D30_23 : own_at jdk_41_method_12_code 23 (.ireturn) 1 24 := ⟨by decide +kernel, rfl⟩
theorem pn_jdk_internal_util_Preconditions : plainName "jdk/internal/util/Preconditions" = true := by first | (simp [plainName, overriddenIn]; done) | decide +kernel
theorem ef_rs_cfn (m : MethodId) (p1 : Int32) : entryFrame m #[(.int (0 : Int32)), (.int p1), (.int p1), .null] 4 = mkF m 0 #[.val (.int (0 : Int32)), .val (.int p1), .val (.int p1), .val .null] [] := by first | (simp [entryFrame, mkF, argsToLocals, Value.category]; done) | rfl
set_option maxRecDepth 65536 in
set_option maxHeartbeats 40000000 in
theorem rs_cfn (l : Launch) (Z : State) (a0 : Array Value) (hw : ∀ d ∈ tables_1, d.before a0 Z = true) (ws : List Jvm.Cond) (p1 : Int32)  (h0 : Heap) (n0 : Nat) (Z0 : n0 ≤ h0.size) (hp : ¬ (p1 < (0 : Int32))) :
    MetFree l (⟨"jdk/internal/util/Preconditions", "checkFromToIndex", "(IIILjava/util/function/BiFunction;)I"⟩ : MethodName) (head1 (Jvm.Cond.code (⟨"jdk/internal/util/Preconditions", "checkFromToIndex", "(IIILjava/util/function/BiFunction;)I"⟩ : MethodName) jdk_41_method_12_code 4 (some .int) :: ws) ({ frames := 0, cells := 0, slots := 0, locals := 0 } : Room)) (fun a U => a = #[(.int (0 : Int32)), (.int p1), (.int p1), .null] ∧ Z.Warmed39 U.vm ∧ U.heap = h0) (fun _ _ _ _ _ => True) (fun _ U o U' => ∃ v L, o = .returned v ∧ own_QP (.int (0 : Int32)) h0 n0 v U'.heap L ∧ FrameEnd U o U' L ({ frames := 0, cells := 0, slots := 0, locals := 0 } : Room).cells ({ frames := 0, cells := 0, slots := 0, locals := 0 } : Room).slots) := by
  refine MetFree.of_bodySF (plainFor_of_name pn_jdk_internal_util_Preconditions) hisR ?_
  intro p e s m args below meth c s₁ Bd hml0 hP hK
  obtain ⟨rfl, hZ, hh⟩ := hP
  have hx := Bd.exec
  have hby := Bd.bytes
  have hml : c.maxLocals = 4 := hml0
  have hown : s.vm.findClass "jdk/internal/util/Preconditions" = some m.cls := findClass_of_methodNamed Bd.named
  have hnm := (name_of_methodNamed Bd.named Bd.method).1
  have X0 : Stand p l e ({ frames := 0, cells := 0, slots := 0, locals := 0 } : Room) s m #[(.int (0 : Int32)), (.int p1), (.int p1), .null] below meth c s₁ [] 0 0 := Stand.of_body Bd
  have e0 : s₁.heap = h0 := by rw [← hh, Bd.state]; rfl
  have N0 := Fr.nil n0
  refine own_start (ef_rs_cfn m p1) ?_
  refine o_iloadN X0 hx hby D30_0 rfl ?_
  refine o_ifN X0 hx hby D30_1 ((if0 _ _).trans (flt (by decide : ¬ ((0 : Int32) < (0 : Int32)))).1) ?_
  refine o_iloadN X0 hx hby D30_4 rfl ?_
  refine o_iloadN X0 hx hby D30_5 rfl ?_
  refine o_icmpN X0 hx hby D30_6 (flt (hp : ¬ (p1 < (0 : Int32)))).2.2.1 ?_
  refine o_iloadN X0 hx hby D30_9 rfl ?_
  refine o_iloadN X0 hx hby D30_10 rfl ?_
  refine o_icmpY X0 hx hby D30_11 (flt (Int32.lt_irrefl : ¬ (p1 < p1))).2.2.2 (q := 22) (by decide) (by decide) ?_
  refine o_iloadN X0 hx hby D30_22 rfl ?_
  exact own_ret (v := some (.int (0 : Int32))) X0 (fun h => by first | rfl | (rw [Bd.returns] at h; cases h)) (BodyLoose.notSynchronized Bd) (by decide) (by decide) (⟨rfl, N0, e0⟩) (fun fs hr => retI X0 hx Bd.returns (hb hby D30_23.1) hr)
theorem ef_rs_cfr (m : MethodId) (p1 : Int32) (fa : Addr) : entryFrame m #[(.int (0 : Int32)), (.int p1), (.int p1), (.ref fa)] 4 = mkF m 0 #[.val (.int (0 : Int32)), .val (.int p1), .val (.int p1), .val (.ref fa)] [] := by first | (simp [entryFrame, mkF, argsToLocals, Value.category]; done) | rfl
set_option maxRecDepth 65536 in
set_option maxHeartbeats 40000000 in
theorem rs_cfr (l : Launch) (Z : State) (a0 : Array Value) (hw : ∀ d ∈ tables_1, d.before a0 Z = true) (ws : List Jvm.Cond) (p1 : Int32) (fa : Addr)  (h0 : Heap) (n0 : Nat) (Z0 : n0 ≤ h0.size) (hp : ¬ (p1 < (0 : Int32))) :
    MetFree l (⟨"jdk/internal/util/Preconditions", "checkFromToIndex", "(IIILjava/util/function/BiFunction;)I"⟩ : MethodName) (head1 (Jvm.Cond.code (⟨"jdk/internal/util/Preconditions", "checkFromToIndex", "(IIILjava/util/function/BiFunction;)I"⟩ : MethodName) jdk_41_method_12_code 4 (some .int) :: ws) ({ frames := 0, cells := 0, slots := 0, locals := 0 } : Room)) (fun a U => a = #[(.int (0 : Int32)), (.int p1), (.int p1), (.ref fa)] ∧ Z.Warmed39 U.vm ∧ U.heap = h0) (fun _ _ _ _ _ => True) (fun _ U o U' => ∃ v L, o = .returned v ∧ own_QP (.int (0 : Int32)) h0 n0 v U'.heap L ∧ FrameEnd U o U' L ({ frames := 0, cells := 0, slots := 0, locals := 0 } : Room).cells ({ frames := 0, cells := 0, slots := 0, locals := 0 } : Room).slots) := by
  refine MetFree.of_bodySF (plainFor_of_name pn_jdk_internal_util_Preconditions) hisR ?_
  intro p e s m args below meth c s₁ Bd hml0 hP hK
  obtain ⟨rfl, hZ, hh⟩ := hP
  have hx := Bd.exec
  have hby := Bd.bytes
  have hml : c.maxLocals = 4 := hml0
  have hown : s.vm.findClass "jdk/internal/util/Preconditions" = some m.cls := findClass_of_methodNamed Bd.named
  have hnm := (name_of_methodNamed Bd.named Bd.method).1
  have X0 : Stand p l e ({ frames := 0, cells := 0, slots := 0, locals := 0 } : Room) s m #[(.int (0 : Int32)), (.int p1), (.int p1), (.ref fa)] below meth c s₁ [] 0 0 := Stand.of_body Bd
  have e0 : s₁.heap = h0 := by rw [← hh, Bd.state]; rfl
  have N0 := Fr.nil n0
  refine own_start (ef_rs_cfr m p1 fa) ?_
  refine o_iloadN X0 hx hby D30_0 rfl ?_
  refine o_ifN X0 hx hby D30_1 ((if0 _ _).trans (flt (by decide : ¬ ((0 : Int32) < (0 : Int32)))).1) ?_
  refine o_iloadN X0 hx hby D30_4 rfl ?_
  refine o_iloadN X0 hx hby D30_5 rfl ?_
  refine o_icmpN X0 hx hby D30_6 (flt (hp : ¬ (p1 < (0 : Int32)))).2.2.1 ?_
  refine o_iloadN X0 hx hby D30_9 rfl ?_
  refine o_iloadN X0 hx hby D30_10 rfl ?_
  refine o_icmpY X0 hx hby D30_11 (flt (Int32.lt_irrefl : ¬ (p1 < p1))).2.2.2 (q := 22) (by decide) (by decide) ?_
  refine o_iloadN X0 hx hby D30_22 rfl ?_
  exact own_ret (v := some (.int (0 : Int32))) X0 (fun h => by first | rfl | (rw [Bd.returns] at h; cases h)) (BodyLoose.notSynchronized Bd) (by decide) (by decide) (⟨rfl, N0, e0⟩) (fun fs hr => retI X0 hx Bd.returns (hb hby D30_23.1) hr)
theorem D28_0 : own_at jdk_52_method_6_code 0 (.aload_n 0) 1 1 := ⟨by decide +kernel, rfl⟩
theorem D28_1 : own_at jdk_52_method_6_code 1 (.arraylength) 1 2 := ⟨by decide +kernel, rfl⟩
theorem D28_2 : own_at jdk_52_method_6_code 2 (.iconst 1) 1 3 := ⟨by decide +kernel, rfl⟩
theorem D28_3 : own_at jdk_52_method_6_code 3 (.ishr) 1 4 := ⟨by decide +kernel, rfl⟩
theorem D28_4 : own_at jdk_52_method_6_code 4 (.ireturn) 1 5 := ⟨by decide +kernel, rfl⟩
theorem ef_rs_ul1 (m : MethodId) (vb : Addr) : entryFrame m #[(.ref vb)] 1 = mkF m 0 #[.val (.ref vb)] [] := by first | (simp [entryFrame, mkF, argsToLocals, Value.category]; done) | rfl
set_option maxRecDepth 65536 in
set_option maxHeartbeats 40000000 in
theorem rs_ul1 (l : Launch) (Z : State) (a0 : Array Value) (hw : ∀ d ∈ tables_1, d.before a0 Z = true) (ws : List Jvm.Cond) (vb : Addr) (kb : ClassId) (xs : List Value) (h0 : Heap) (n0 : Nat) (Z0 : n0 ≤ h0.size) (Vb : Arv Z h0 vb kb .byte (2 : Int32) xs (.int (0 : Int32))) :
    MetFree l (⟨"java/lang/StringUTF16", "length", "([B)I"⟩ : MethodName) (head1 (Jvm.Cond.code (⟨"java/lang/StringUTF16", "length", "([B)I"⟩ : MethodName) jdk_52_method_6_code 1 (some .int) :: ws) ({ frames := 0, cells := 0, slots := 0, locals := 0 } : Room)) (fun a U => a = #[(.ref vb)] ∧ Z.Warmed39 U.vm ∧ U.heap = h0) (fun _ _ _ _ _ => True) (fun _ U o U' => ∃ v L, o = .returned v ∧ own_QP (.int (1 : Int32)) h0 n0 v U'.heap L ∧ FrameEnd U o U' L ({ frames := 0, cells := 0, slots := 0, locals := 0 } : Room).cells ({ frames := 0, cells := 0, slots := 0, locals := 0 } : Room).slots) := by
  refine MetFree.of_bodySF (plainFor_of_name pn_java_lang_StringUTF16) hisR ?_
  intro p e s m args below meth c s₁ Bd hml0 hP hK
  obtain ⟨rfl, hZ, hh⟩ := hP
  have hx := Bd.exec
  have hby := Bd.bytes
  have hml : c.maxLocals = 1 := hml0
  have hown : s.vm.findClass "java/lang/StringUTF16" = some m.cls := findClass_of_methodNamed Bd.named
  have hnm := (name_of_methodNamed Bd.named Bd.method).1
  have X0 : Stand p l e ({ frames := 0, cells := 0, slots := 0, locals := 0 } : Room) s m #[(.ref vb)] below meth c s₁ [] 0 0 := Stand.of_body Bd
  have e0 : s₁.heap = h0 := by rw [← hh, Bd.state]; rfl
  have N0 := Fr.nil n0
  refine own_start (ef_rs_ul1 m vb) ?_
  refine o_aloadN X0 hx hby D28_0 rfl rfl ?_
  obtain ⟨cl_vb_1, Ar_vb_1, q_vb_1, S_vb_1, N_vb_1, H_vb_1, G_vb_1⟩ := id Vb
  refine own_pre (A' := s₁.setTop (mkF m 2 #[.val (.ref vb)] [(.int (2 : Int32))])) (fun t k => X0.arraylength hx (by rw [e0]; exact Ar_vb_1.1) (State.isArrayOf_alike hZ.alike Ar_vb_1.2.1) (g := (mkF m 1 #[.val (.ref vb)] [(.ref vb)])) rfl rfl (hb hby D28_1.1) _ (by rw [len_of S_vb_1 N_vb_1]; exact k)) ?_
  refine o_iconst X0 hx hby D28_2 (v := 1) rfl ?_
  refine o_ishr X0 hx hby D28_3 ?_
  rw [(by decide : ((2 : Int32) >>> ((1 : Int32) &&& 31)) = (1 : Int32))]
  exact own_ret (v := some (.int (1 : Int32))) X0 (fun h => by first | rfl | (rw [Bd.returns] at h; cases h)) (BodyLoose.notSynchronized Bd) (by decide) (by decide) (⟨rfl, N0, e0⟩) (fun fs hr => retI X0 hx Bd.returns (hb hby D28_4.1) hr)
theorem pd__40IIILjava_47util_47function_47BiFunction_59_41I : parseMethodDescriptor "(IIILjava/util/function/BiFunction;)I" = some ⟨[.int, .int, .int, (.object "java/util/function/BiFunction")], some .int⟩ := by decide +kernel
theorem D29_0 : own_at jdk_42_method_158_code 0 (.iload_n 0) 1 1 := ⟨by decide +kernel, rfl⟩
theorem D29_1 : own_at jdk_42_method_158_code 1 (.iload_n 1) 1 2 := ⟨by decide +kernel, rfl⟩
theorem D29_2 : own_at jdk_42_method_158_code 2 (.iload_n 2) 1 3 := ⟨by decide +kernel, rfl⟩
theorem D29_3 : own_at jdk_42_method_158_code 3 (.getstatic 1053) 3 6 := ⟨by decide +kernel, rfl⟩
theorem D29_6 : own_at jdk_42_method_158_code 6 (.invokestatic 1062) 3 9 := ⟨by decide +kernel, rfl⟩
theorem D29_9 : own_at jdk_42_method_158_code 9 (.pop) 1 10 := ⟨by decide +kernel, rfl⟩
theorem D29_10 : own_at jdk_42_method_158_code 10 (.return_) 1 11 := ⟨by decide +kernel, rfl⟩
theorem ef_rs_cb1 (m : MethodId)  : entryFrame m #[(.int (0 : Int32)), (.int (1 : Int32)), (.int (1 : Int32))] 3 = mkF m 0 #[.val (.int (0 : Int32)), .val (.int (1 : Int32)), .val (.int (1 : Int32))] [] := by first | (simp [entryFrame, mkF, argsToLocals, Value.category]; done) | rfl
set_option maxRecDepth 65536 in
set_option maxHeartbeats 40000000 in
theorem rs_cb1 (l : Launch) (Z : State) (a0 : Array Value) (hw : ∀ d ∈ tables_1, d.before a0 Z = true) (ws : List Jvm.Cond)  (cs : Int32) (vf : Value) (h0 : Heap) (n0 : Nat) (Z0 : n0 ≤ h0.size) (hST : own_ST Z cs vf) (O0 : Old Z n0 h0) :
    MetFree l (⟨"java/lang/String", "checkBoundsBeginEnd", "(III)V"⟩ : MethodName) (head1 (Jvm.Cond.code (⟨"java/lang/String", "checkBoundsBeginEnd", "(III)V"⟩ : MethodName) jdk_42_method_158_code 3 none :: ws) ({ frames := 1, cells := 0, slots := 0, locals := 15 } : Room)) (fun a U => a = #[(.int (0 : Int32)), (.int (1 : Int32)), (.int (1 : Int32))] ∧ Z.Warmed39 U.vm ∧ U.heap = h0) (fun _ _ _ _ _ => True) (fun _ U o U' => ∃ v L, o = .returned v ∧ own_QV h0 n0 v U'.heap L ∧ FrameEnd U o U' L ({ frames := 1, cells := 0, slots := 0, locals := 15 } : Room).cells ({ frames := 1, cells := 0, slots := 0, locals := 15 } : Room).slots) := by
  refine MetFree.of_bodySF (plainFor_of_name pn_java_lang_String) hisR ?_
  intro p e s m args below meth c s₁ Bd hml0 hP hK
  obtain ⟨rfl, hZ, hh⟩ := hP
  have hx := Bd.exec
  have hby := Bd.bytes
  have hml : c.maxLocals = 3 := hml0
  have hown : s.vm.findClass "java/lang/String" = some m.cls := findClass_of_methodNamed Bd.named
  have hnm := (name_of_methodNamed Bd.named Bd.method).1
  have X0 : Stand p l e ({ frames := 1, cells := 0, slots := 0, locals := 15 } : Room) s m #[(.int (0 : Int32)), (.int (1 : Int32)), (.int (1 : Int32))] below meth c s₁ [] 0 0 := Stand.of_body Bd
  have e0 : s₁.heap = h0 := by rw [← hh, Bd.state]; rfl
  have N0 := Fr.nil n0
  refine own_start (ef_rs_cb1 m ) ?_
  obtain ⟨S_cs, S_ad, S_hb, S_lb, S_sf, hcs, hvf⟩ := hST
  rcases ref_cases hvf with rfl | ⟨fa, rfl⟩
  · skip
    refine o_iloadN X0 hx hby D29_0 rfl ?_
    refine o_iloadN X0 hx hby D29_1 rfl ?_
    refine o_iloadN X0 hx hby D29_2 rfl ?_
    obtain ⟨T1, X1, e1, st1⟩ := getS2 X0 hx hZ hown (host := "") (Or.inl (own_wd hw (i := 124) rfl)) Via.refl e0 (S_sf.ext O0.2) (g := (mkF m 3 #[.val (.int (0 : Int32)), .val (.int (1 : Int32)), .val (.int (1 : Int32))] [(.int (1 : Int32)), (.int (1 : Int32)), (.int (0 : Int32))])) rfl (hb hby D29_3.1)
    refine own_pre (A' := T1.setTop (mkF m 6 #[.val (.int (0 : Int32)), .val (.int (1 : Int32)), .val (.int (1 : Int32))] [.null, (.int (1 : Int32)), (.int (1 : Int32)), (.int (0 : Int32))])) st1 ?_
    obtain ⟨_, _, ⟨T2, L2, k2, n2⟩, -, X2, ⟨Lc2, hQ2, l2, y2, z2⟩, st2⟩ := Jvm.LawKit.callS X1 hx (y := (⟨"jdk/internal/util/Preconditions", "checkFromToIndex", "(IIILjava/util/function/BiFunction;)I"⟩ : MethodName)) hown (mvT hZ (own_wd hw (i := 126) rfl)) (mvT hZ (own_wd hw (i := 127) rfl)) (mvT hZ (own_wd hw (i := 125) rfl)) (mvT hZ (own_wd hw (i := 128) rfl)) (by decide) (backOf (W := 0) (rs_cfn l Z a0 hw [] (1 : Int32) h0 n0 Z0 (by decide)) hZ (own_wd hw (i := 128) rfl) (own_wd hw (i := 125) rfl) (by decide) (by decide)) (g := (mkF m 6 #[.val (.int (0 : Int32)), .val (.int (1 : Int32)), .val (.int (1 : Int32))] [.null, (.int (1 : Int32)), (.int (1 : Int32)), (.int (0 : Int32))])) rfl (by rw [hml]; rfl) (argsL := [(.int (0 : Int32)), (.int (1 : Int32)), (.int (1 : Int32)), .null]) (rest := []) (lenOf pd__40IIILjava_47util_47function_47BiFunction_59_41I rfl) rfl (by show 2 * 0 + _ ≤ _; exact Nat.le_of_eq rfl) (hb hby D29_6.1) (fun _ _ => ⟨rfl, e1, (by decide : 0 + 0 ≤ _), (by decide : 0 + 0 ≤ _)⟩)
    dsimp only [Pt.U, Pt.locs, Pt.cells, Pt.slots] at X2 l2 y2 z2 st2 hQ2
    subst l2 y2 z2
    obtain ⟨rfl, N2q, e2⟩ := hQ2
    have N2 := Fr.app N0 N2q
    refine own_pre (A' := T2.setTop (mkF m 9 #[.val (.int (0 : Int32)), .val (.int (1 : Int32)), .val (.int (1 : Int32))] [(.int (0 : Int32))])) st2 ?_
    refine o_pop X2 hx hby D29_9 rfl ?_
    exact own_ret (v := none) X2 (fun h => by first | rfl | (rw [Bd.returns] at h; cases h)) (BodyLoose.notSynchronized Bd) (by decide) (by decide) (⟨rfl, N2, e2⟩) (fun fs hr => X2.returnOut hx Bd.returns (hb hby D29_10.1) hr)
  · skip
    refine o_iloadN X0 hx hby D29_0 rfl ?_
    refine o_iloadN X0 hx hby D29_1 rfl ?_
    refine o_iloadN X0 hx hby D29_2 rfl ?_
    obtain ⟨T3, X3, e3, st3⟩ := getS2 X0 hx hZ hown (host := "") (Or.inl (own_wd hw (i := 124) rfl)) Via.refl e0 (S_sf.ext O0.2) (g := (mkF m 3 #[.val (.int (0 : Int32)), .val (.int (1 : Int32)), .val (.int (1 : Int32))] [(.int (1 : Int32)), (.int (1 : Int32)), (.int (0 : Int32))])) rfl (hb hby D29_3.1)
    refine own_pre (A' := T3.setTop (mkF m 6 #[.val (.int (0 : Int32)), .val (.int (1 : Int32)), .val (.int (1 : Int32))] [(.ref fa), (.int (1 : Int32)), (.int (1 : Int32)), (.int (0 : Int32))])) st3 ?_
    obtain ⟨_, _, ⟨T4, L4, k4, n4⟩, -, X4, ⟨Lc4, hQ4, l4, y4, z4⟩, st4⟩ := Jvm.LawKit.callS X3 hx (y := (⟨"jdk/internal/util/Preconditions", "checkFromToIndex", "(IIILjava/util/function/BiFunction;)I"⟩ : MethodName)) hown (mvT hZ (own_wd hw (i := 126) rfl)) (mvT hZ (own_wd hw (i := 127) rfl)) (mvT hZ (own_wd hw (i := 125) rfl)) (mvT hZ (own_wd hw (i := 128) rfl)) (by decide) (backOf (W := 0) (rs_cfr l Z a0 hw [] (1 : Int32) fa h0 n0 Z0 (by decide)) hZ (own_wd hw (i := 128) rfl) (own_wd hw (i := 125) rfl) (by decide) (by decide)) (g := (mkF m 6 #[.val (.int (0 : Int32)), .val (.int (1 : Int32)), .val (.int (1 : Int32))] [(.ref fa), (.int (1 : Int32)), (.int (1 : Int32)), (.int (0 : Int32))])) rfl (by rw [hml]; rfl) (argsL := [(.int (0 : Int32)), (.int (1 : Int32)), (.int (1 : Int32)), (.ref fa)]) (rest := []) (lenOf pd__40IIILjava_47util_47function_47BiFunction_59_41I rfl) rfl (by show 2 * 0 + _ ≤ _; exact Nat.le_of_eq rfl) (hb hby D29_6.1) (fun _ _ => ⟨rfl, e3, (by decide : 0 + 0 ≤ _), (by decide : 0 + 0 ≤ _)⟩)
    dsimp only [Pt.U, Pt.locs, Pt.cells, Pt.slots] at X4 l4 y4 z4 st4 hQ4
    subst l4 y4 z4
    obtain ⟨rfl, N4q, e4⟩ := hQ4
    have N4 := Fr.app N0 N4q
    refine own_pre (A' := T4.setTop (mkF m 9 #[.val (.int (0 : Int32)), .val (.int (1 : Int32)), .val (.int (1 : Int32))] [(.int (0 : Int32))])) st4 ?_
    refine o_pop X4 hx hby D29_9 rfl ?_
    exact own_ret (v := none) X4 (fun h => by first | rfl | (rw [Bd.returns] at h; cases h)) (BodyLoose.notSynchronized Bd) (by decide) (by decide) (⟨rfl, N4, e4⟩) (fun fs hr => X4.returnOut hx Bd.returns (hb hby D29_10.1) hr)
theorem pd__40_91B_41I : parseMethodDescriptor "([B)I" = some ⟨[(.array .byte)], some .int⟩ := by decide +kernel
theorem pd__40III_41V : parseMethodDescriptor "(III)V" = some ⟨[.int, .int, .int], none⟩ := by decide +kernel
theorem D27_0 : own_at jdk_52_method_93_code 0 (.iload_n 0) 1 1 := ⟨by decide +kernel, rfl⟩
theorem D27_1 : own_at jdk_52_method_93_code 1 (.iload_n 1) 1 2 := ⟨by decide +kernel, rfl⟩
theorem D27_2 : own_at jdk_52_method_93_code 2 (.aload_n 2) 1 3 := ⟨by decide +kernel, rfl⟩
theorem D27_3 : own_at jdk_52_method_93_code 3 (.invokestatic 48) 3 6 := ⟨by decide +kernel, rfl⟩
theorem D27_6 : own_at jdk_52_method_93_code 6 (.invokestatic 241) 3 9 := ⟨by decide +kernel, rfl⟩
theorem D27_9 : own_at jdk_52_method_93_code 9 (.return_) 1 10 := ⟨by decide +kernel, rfl⟩
theorem ef_rs_cu1 (m : MethodId) (vb : Addr) : entryFrame m #[(.int (0 : Int32)), (.int (1 : Int32)), (.ref vb)] 3 = mkF m 0 #[.val (.int (0 : Int32)), .val (.int (1 : Int32)), .val (.ref vb)] [] := by first | (simp [entryFrame, mkF, argsToLocals, Value.category]; done) | rfl
set_option maxRecDepth 65536 in
set_option maxHeartbeats 40000000 in
theorem rs_cu1 (l : Launch) (Z : State) (a0 : Array Value) (hw : ∀ d ∈ tables_1, d.before a0 Z = true) (ws : List Jvm.Cond) (vb : Addr) (kb : ClassId) (c0 : Int32) (cs : Int32) (vf : Value) (h0 : Heap) (n0 : Nat) (Z0 : n0 ≤ h0.size) (hST : own_ST Z cs vf) (O0 : Old Z n0 h0) (Vb : Arv Z h0 vb kb .byte (2 : Int32) [(.int (own_lo c0)), (.int (own_hi c0))] (.int (0 : Int32))) :
    MetFree l (⟨"java/lang/StringUTF16", "checkBoundsBeginEnd", "(II[B)V"⟩ : MethodName) (head1 (Jvm.Cond.code (⟨"java/lang/StringUTF16", "checkBoundsBeginEnd", "(II[B)V"⟩ : MethodName) jdk_52_method_93_code 3 none :: ws) ({ frames := 2, cells := 0, slots := 0, locals := 29 } : Room)) (fun a U => a = #[(.int (0 : Int32)), (.int (1 : Int32)), (.ref vb)] ∧ Z.Warmed39 U.vm ∧ U.heap = h0) (fun _ _ _ _ _ => True) (fun _ U o U' => ∃ v L, o = .returned v ∧ own_QV h0 n0 v U'.heap L ∧ FrameEnd U o U' L ({ frames := 2, cells := 0, slots := 0, locals := 29 } : Room).cells ({ frames := 2, cells := 0, slots := 0, locals := 29 } : Room).slots) := by
  refine MetFree.of_bodySF (plainFor_of_name pn_java_lang_StringUTF16) hisR ?_
  intro p e s m args below meth c s₁ Bd hml0 hP hK
  obtain ⟨rfl, hZ, hh⟩ := hP
  have hx := Bd.exec
  have hby := Bd.bytes
  have hml : c.maxLocals = 3 := hml0
  have hown : s.vm.findClass "java/lang/StringUTF16" = some m.cls := findClass_of_methodNamed Bd.named
  have hnm := (name_of_methodNamed Bd.named Bd.method).1
  have X0 : Stand p l e ({ frames := 2, cells := 0, slots := 0, locals := 29 } : Room) s m #[(.int (0 : Int32)), (.int (1 : Int32)), (.ref vb)] below meth c s₁ [] 0 0 := Stand.of_body Bd
  have e0 : s₁.heap = h0 := by rw [← hh, Bd.state]; rfl
  have N0 := Fr.nil n0
  refine own_start (ef_rs_cu1 m vb) ?_
  have hST0 := hST
  obtain ⟨S_cs, S_ad, S_hb, S_lb, S_sf, hcs, hvf⟩ := hST
  refine o_iloadN X0 hx hby D27_0 rfl ?_
  refine o_iloadN X0 hx hby D27_1 rfl ?_
  refine o_aloadN X0 hx hby D27_2 rfl rfl ?_
  obtain ⟨_, _, ⟨T1, L1, k1, n1⟩, -, X1, ⟨Lc1, hQ1, l1, y1, z1⟩, st1⟩ := Jvm.LawKit.callS X0 hx (y := (⟨"java/lang/StringUTF16", "length", "([B)I"⟩ : MethodName)) hown (mvT hZ (own_wd hw (i := 118) rfl)) (mvT hZ (own_wd hw (i := 119) rfl)) (mvT hZ (own_wd hw (i := 72) rfl)) (mvT hZ (own_wd hw (i := 120) rfl)) (by decide) (backOf (W := 2) (rs_ul1 l Z a0 hw [] vb kb [(.int (own_lo c0)), (.int (own_hi c0))] h0 n0 Z0 Vb) hZ (own_wd hw (i := 120) rfl) (own_wd hw (i := 72) rfl) (by decide) (by decide)) (g := (mkF m 3 #[.val (.int (0 : Int32)), .val (.int (1 : Int32)), .val (.ref vb)] [(.ref vb), (.int (1 : Int32)), (.int (0 : Int32))])) rfl (by rw [hml]; rfl) (argsL := [(.ref vb)]) (rest := [(.int (1 : Int32)), (.int (0 : Int32))]) (lenOf pd__40_91B_41I rfl) rfl (by show 2 * 0 + _ ≤ _; exact Nat.le_of_eq rfl) (hb hby D27_3.1) (fun _ _ => ⟨rfl, e0, (by decide : 0 + 0 ≤ _), (by decide : 0 + 0 ≤ _)⟩)
  dsimp only [Pt.U, Pt.locs, Pt.cells, Pt.slots] at X1 l1 y1 z1 st1 hQ1
  subst l1 y1 z1
  obtain ⟨rfl, N1q, e1⟩ := hQ1
  have N1 := Fr.app N0 N1q
  refine own_pre (A' := T1.setTop (mkF m 6 #[.val (.int (0 : Int32)), .val (.int (1 : Int32)), .val (.ref vb)] [(.int (1 : Int32)), (.int (1 : Int32)), (.int (0 : Int32))])) st1 ?_
  obtain ⟨_, _, ⟨T2, L2, k2, n2⟩, -, X2, ⟨Lc2, hQ2, l2, y2, z2⟩, st2⟩ := Jvm.LawKit.callS X1 hx (y := (⟨"java/lang/String", "checkBoundsBeginEnd", "(III)V"⟩ : MethodName)) hown (mvT hZ (own_wd hw (i := 121) rfl)) (mvT hZ (own_wd hw (i := 122) rfl)) (mvT hZ (own_wd hw (i := 7) rfl)) (mvT hZ (own_wd hw (i := 123) rfl)) (by decide) (backOf (W := 0) (rs_cb1 l Z a0 hw [] cs vf h0 n0 Z0 hST0 O0) hZ (own_wd hw (i := 123) rfl) (own_wd hw (i := 7) rfl) (by decide) (by decide)) (g := (mkF m 6 #[.val (.int (0 : Int32)), .val (.int (1 : Int32)), .val (.ref vb)] [(.int (1 : Int32)), (.int (1 : Int32)), (.int (0 : Int32))])) rfl (by rw [hml]; rfl) (argsL := [(.int (0 : Int32)), (.int (1 : Int32)), (.int (1 : Int32))]) (rest := []) (lenOf pd__40III_41V rfl) rfl (by show 2 * 0 + _ ≤ _; exact Nat.le_of_eq rfl) (hb hby D27_6.1) (fun _ _ => ⟨rfl, e1, (by decide : 0 + 0 ≤ _), (by decide : 0 + 0 ≤ _)⟩)
  dsimp only [Pt.U, Pt.locs, Pt.cells, Pt.slots] at X2 l2 y2 z2 st2 hQ2
  subst l2 y2 z2
  obtain ⟨rfl, N2q, e2⟩ := hQ2
  have N2 := Fr.app N1 N2q
  refine own_pre (A' := T2.setTop (mkF m 9 #[.val (.int (0 : Int32)), .val (.int (1 : Int32)), .val (.ref vb)] [])) st2 ?_
  exact own_ret (v := none) X2 (fun h => by first | rfl | (rw [Bd.returns] at h; cases h)) (BodyLoose.notSynchronized Bd) (by decide) (by decide) (⟨rfl, N2, e2⟩) (fun fs hr => X2.returnOut hx Bd.returns (hb hby D27_9.1) hr)
theorem D31_0 : own_at jdk_52_method_48_code 0 (.iload_n 2) 1 1 := ⟨by decide +kernel, rfl⟩
theorem D31_1 : own_at jdk_52_method_48_code 1 (.istore 4) 2 3 := ⟨by decide +kernel, rfl⟩
theorem D31_3 : own_at jdk_52_method_48_code 3 (.iload 4) 2 5 := ⟨by decide +kernel, rfl⟩
theorem D31_5 : own_at jdk_52_method_48_code 5 (.iload_n 3) 1 6 := ⟨by decide +kernel, rfl⟩
theorem D31_6 : own_at jdk_52_method_48_code 6 (.if_icmp .ge 22) 3 9 := ⟨by decide +kernel, rfl⟩
theorem D31_9 : own_at jdk_52_method_48_code 9 (.aload_n 0) 1 10 := ⟨by decide +kernel, rfl⟩
theorem D31_10 : own_at jdk_52_method_48_code 10 (.iload 4) 2 12 := ⟨by decide +kernel, rfl⟩
theorem D31_12 : own_at jdk_52_method_48_code 12 (.invokestatic 71) 3 15 := ⟨by decide +kernel, rfl⟩
theorem D31_15 : own_at jdk_52_method_48_code 15 (.iload_n 1) 1 16 := ⟨by decide +kernel, rfl⟩
theorem D31_16 : own_at jdk_52_method_48_code 16 (.if_icmp .ne 6) 3 19 := ⟨by decide +kernel, rfl⟩
theorem D31_19 : own_at jdk_52_method_48_code 19 (.iload 4) 2 21 := ⟨by decide +kernel, rfl⟩
theorem D31_21 : own_at jdk_52_method_48_code 21 (.ireturn) 1 22 := ⟨by decide +kernel, rfl⟩
theorem D31_22 : own_at jdk_52_method_48_code 22 (.iinc 4 1) 3 25 := ⟨by decide +kernel, rfl⟩
theorem D31_25 : own_at jdk_52_method_48_code 25 (.goto (-22)) 3 28 := ⟨by decide +kernel, rfl⟩
theorem D31_28 : own_at jdk_52_method_48_code 28 (.iconst (-1)) 1 29 := ⟨by decide +kernel, rfl⟩
theorem D31_29 : own_at jdk_52_method_48_code 29 (.ireturn) 1 30 := ⟨by decide +kernel, rfl⟩
theorem ef_rs_uu1 (m : MethodId) (vb : Addr) (ch : Int32) : entryFrame m #[(.ref vb), (.int ch), (.int (0 : Int32)), (.int (1 : Int32))] 5 = mkF m 0 #[.val (.ref vb), .val (.int ch), .val (.int (0 : Int32)), .val (.int (1 : Int32)), .unset] [] := by first | (simp [entryFrame, mkF, argsToLocals, Value.category]; done) | rfl
set_option maxRecDepth 65536 in
set_option maxHeartbeats 40000000 in
theorem rs_uu1 (l : Launch) (Z : State) (a0 : Array Value) (hw : ∀ d ∈ tables_1, d.before a0 Z = true) (ws : List Jvm.Cond) (vb : Addr) (ch : Int32) (kb : ClassId) (c0 : Int32) (cs : Int32) (vf : Value) (h0 : Heap) (n0 : Nat) (Z0 : n0 ≤ h0.size) (hST : own_ST Z cs vf) (O0 : Old Z n0 h0) (Vb : Arv Z h0 vb kb .byte (2 : Int32) [(.int (own_lo c0)), (.int (own_hi c0))] (.int (0 : Int32))) (hc0 : own_ch16 c0) :
    MetFree l (⟨"java/lang/StringUTF16", "indexOfCharUnsafe", "([BIII)I"⟩ : MethodName) (head1 (Jvm.Cond.code (⟨"java/lang/StringUTF16", "indexOfCharUnsafe", "([BIII)I"⟩ : MethodName) jdk_52_method_48_code 5 (some .int) :: ws) ({ frames := 1, cells := 0, slots := 0, locals := 13 } : Room)) (fun a U => a = #[(.ref vb), (.int ch), (.int (0 : Int32)), (.int (1 : Int32))] ∧ Z.Warmed39 U.vm ∧ U.heap = h0) (fun _ _ _ _ _ => True) (fun _ U o U' => ∃ v L, o = .returned v ∧ own_QP (.int (own_ix1 ch c0)) h0 n0 v U'.heap L ∧ FrameEnd U o U' L ({ frames := 1, cells := 0, slots := 0, locals := 13 } : Room).cells ({ frames := 1, cells := 0, slots := 0, locals := 13 } : Room).slots) := by
  refine MetFree.of_bodySF (plainFor_of_name pn_java_lang_StringUTF16) hisR ?_
  intro p e s m args below meth c s₁ Bd hml0 hP hK
  obtain ⟨rfl, hZ, hh⟩ := hP
  have hx := Bd.exec
  have hby := Bd.bytes
  have hml : c.maxLocals = 5 := hml0
  have hown : s.vm.findClass "java/lang/StringUTF16" = some m.cls := findClass_of_methodNamed Bd.named
  have hnm := (name_of_methodNamed Bd.named Bd.method).1
  have X0 : Stand p l e ({ frames := 1, cells := 0, slots := 0, locals := 13 } : Room) s m #[(.ref vb), (.int ch), (.int (0 : Int32)), (.int (1 : Int32))] below meth c s₁ [] 0 0 := Stand.of_body Bd
  have e0 : s₁.heap = h0 := by rw [← hh, Bd.state]; rfl
  have N0 := Fr.nil n0
  refine own_start (ef_rs_uu1 m vb ch) ?_
  have hST0 := hST
  obtain ⟨S_cs, S_ad, S_hb, S_lb, S_sf, hcs, hvf⟩ := hST
  refine o_iloadN X0 hx hby D31_0 rfl ?_
  refine o_istore X0 hx hby D31_1 (l' := #[.val (.ref vb), .val (.int ch), .val (.int (0 : Int32)), .val (.int (1 : Int32)), .val (.int (0 : Int32))]) rfl ?_
  refine o_iload X0 hx hby D31_3 rfl ?_
  refine o_iloadN X0 hx hby D31_5 rfl ?_
  refine o_icmpN X0 hx hby D31_6 (tlt (by decide : (0 : Int32) < (1 : Int32))).2.1 ?_
  refine o_aloadN X0 hx hby D31_9 rfl rfl ?_
  refine o_iload X0 hx hby D31_10 rfl ?_
  obtain ⟨_, _, ⟨T1, L1, k1, n1⟩, -, X1, ⟨Lc1, hQ1, l1, y1, z1⟩, st1⟩ := Jvm.LawKit.callS X0 hx (y := (⟨"java/lang/StringUTF16", "getChar", "([BI)C"⟩ : MethodName)) hown (mvT hZ (own_wd hw (i := 103) rfl)) (mvT hZ (own_wd hw (i := 104) rfl)) (mvT hZ (own_wd hw (i := 72) rfl)) (mvT hZ (own_wd hw (i := 105) rfl)) (by decide) (backOf (W := 0) (rs_gc10 l Z a0 hw [] vb kb c0 cs vf h0 n0 Z0 hST0 O0 Vb hc0) hZ (own_wd hw (i := 105) rfl) (own_wd hw (i := 72) rfl) (by decide) (by decide)) (g := (mkF m 12 #[.val (.ref vb), .val (.int ch), .val (.int (0 : Int32)), .val (.int (1 : Int32)), .val (.int (0 : Int32))] [(.int (0 : Int32)), (.ref vb)])) rfl (by rw [hml]; rfl) (argsL := [(.ref vb), (.int (0 : Int32))]) (rest := []) (lenOf pd__40_91BI_41C rfl) rfl (by show 2 * 0 + _ ≤ _; exact Nat.le_of_eq rfl) (hb hby D31_12.1) (fun _ _ => ⟨rfl, e0, (by decide : 0 + 0 ≤ _), (by decide : 0 + 0 ≤ _)⟩)
  dsimp only [Pt.U, Pt.locs, Pt.cells, Pt.slots] at X1 l1 y1 z1 st1 hQ1
  subst l1 y1 z1
  obtain ⟨rfl, N1q, e1⟩ := hQ1
  have N1 := Fr.app N0 N1q
  refine own_pre (A' := T1.setTop (mkF m 15 #[.val (.ref vb), .val (.int ch), .val (.int (0 : Int32)), .val (.int (1 : Int32)), .val (.int (0 : Int32))] [(.int c0)])) st1 ?_
  refine o_iloadN X1 hx hby D31_15 rfl ?_
  by_cases hc16_2 : c0 = ch
  · skip
    refine o_icmpN X1 hx hby D31_16 (teq hc16_2).2 ?_
    refine o_iload X1 hx hby D31_19 rfl ?_
    exact own_ret (v := some (.int (0 : Int32))) X1 (fun h => by first | rfl | (rw [Bd.returns] at h; cases h)) (BodyLoose.notSynchronized Bd) (by decide) (by decide) (⟨by rw [own_ix1, if_pos hc16_2], N1, e1⟩) (fun fs hr => retI X1 hx Bd.returns (hb hby D31_21.1) hr)
  · skip
    refine o_icmpY X1 hx hby D31_16 (feq hc16_2).2 (q := 22) (by decide) (by decide) ?_
    refine o_iinc X1 hx hby D31_22 rfl (l' := #[.val (.ref vb), .val (.int ch), .val (.int (0 : Int32)), .val (.int (1 : Int32)), .val (.int ((0 : Int32) + (1 : Int32)))]) rfl ?_
    rw [(by decide : ((0 : Int32) + (1 : Int32)) = (1 : Int32))]
    refine o_goto X1 hx hby D31_25 (q := 3) (by decide) (by decide) ?_
    refine o_iload X1 hx hby D31_3 rfl ?_
    refine o_iloadN X1 hx hby D31_5 rfl ?_
    refine o_icmpY X1 hx hby D31_6 (flt (by decide : ¬ ((1 : Int32) < (1 : Int32)))).2.1 (q := 28) (by decide) (by decide) ?_
    refine o_iconst X1 hx hby D31_28 (v := -1) rfl ?_
    exact own_ret (v := some (.int (-1 : Int32))) X1 (fun h => by first | rfl | (rw [Bd.returns] at h; cases h)) (BodyLoose.notSynchronized Bd) (by decide) (by decide) (⟨by rw [own_ix1, if_neg hc16_2], N1, e1⟩) (fun fs hr => retI X1 hx Bd.returns (hb hby D31_29.1) hr)
theorem pd__40II_91B_41V : parseMethodDescriptor "(II[B)V" = some ⟨[.int, .int, (.array .byte)], none⟩ := by decide +kernel
theorem D26_0 : own_at jdk_52_method_47_code 0 (.iload_n 2) 1 1 := ⟨by decide +kernel, rfl⟩
theorem D26_1 : own_at jdk_52_method_47_code 1 (.iload_n 3) 1 2 := ⟨by decide +kernel, rfl⟩
theorem D26_2 : own_at jdk_52_method_47_code 2 (.aload_n 0) 1 3 := ⟨by decide +kernel, rfl⟩
theorem D26_3 : own_at jdk_52_method_47_code 3 (.invokestatic 96) 3 6 := ⟨by decide +kernel, rfl⟩
theorem D26_6 : own_at jdk_52_method_47_code 6 (.aload_n 0) 1 7 := ⟨by decide +kernel, rfl⟩
theorem D26_7 : own_at jdk_52_method_47_code 7 (.iload_n 1) 1 8 := ⟨by decide +kernel, rfl⟩
theorem D26_8 : own_at jdk_52_method_47_code 8 (.iload_n 2) 1 9 := ⟨by decide +kernel, rfl⟩
theorem D26_9 : own_at jdk_52_method_47_code 9 (.iload_n 3) 1 10 := ⟨by decide +kernel, rfl⟩
theorem D26_10 : own_at jdk_52_method_47_code 10 (.invokestatic 244) 3 13 := ⟨by decide +kernel, rfl⟩
theorem D26_13 : own_at jdk_52_method_47_code 13 (.ireturn) 1 14 := ⟨by decide +kernel, rfl⟩
theorem ef_rs_uc1 (m : MethodId) (vb : Addr) (ch : Int32) : entryFrame m #[(.ref vb), (.int ch), (.int (0 : Int32)), (.int (1 : Int32))] 4 = mkF m 0 #[.val (.ref vb), .val (.int ch), .val (.int (0 : Int32)), .val (.int (1 : Int32))] [] := by first | (simp [entryFrame, mkF, argsToLocals, Value.category]; done) | rfl
set_option maxRecDepth 65536 in
set_option maxHeartbeats 40000000 in
theorem rs_uc1 (l : Launch) (Z : State) (a0 : Array Value) (hw : ∀ d ∈ tables_1, d.before a0 Z = true) (ws : List Jvm.Cond) (vb : Addr) (ch : Int32) (kb : ClassId) (c0 : Int32) (cs : Int32) (vf : Value) (h0 : Heap) (n0 : Nat) (Z0 : n0 ≤ h0.size) (hST : own_ST Z cs vf) (O0 : Old Z n0 h0) (Vb : Arv Z h0 vb kb .byte (2 : Int32) [(.int (own_lo c0)), (.int (own_hi c0))] (.int (0 : Int32))) (hc0 : own_ch16 c0) :
    MetFree l (⟨"java/lang/StringUTF16", "indexOfChar", "([BIII)I"⟩ : MethodName) (head1 (Jvm.Cond.code (⟨"java/lang/StringUTF16", "indexOfChar", "([BIII)I"⟩ : MethodName) jdk_52_method_47_code 4 (some .int) :: ws) ({ frames := 3, cells := 0, slots := 0, locals := 43 } : Room)) (fun a U => a = #[(.ref vb), (.int ch), (.int (0 : Int32)), (.int (1 : Int32))] ∧ Z.Warmed39 U.vm ∧ U.heap = h0) (fun _ _ _ _ _ => True) (fun _ U o U' => ∃ v L, o = .returned v ∧ own_QP (.int (own_ix1 ch c0)) h0 n0 v U'.heap L ∧ FrameEnd U o U' L ({ frames := 3, cells := 0, slots := 0, locals := 43 } : Room).cells ({ frames := 3, cells := 0, slots := 0, locals := 43 } : Room).slots) := by
  refine MetFree.of_bodySF (plainFor_of_name pn_java_lang_StringUTF16) hisR ?_
  intro p e s m args below meth c s₁ Bd hml0 hP hK
  obtain ⟨rfl, hZ, hh⟩ := hP
  have hx := Bd.exec
  have hby := Bd.bytes
  have hml : c.maxLocals = 4 := hml0
  have hown : s.vm.findClass "java/lang/StringUTF16" = some m.cls := findClass_of_methodNamed Bd.named
  have hnm := (name_of_methodNamed Bd.named Bd.method).1
  have X0 : Stand p l e ({ frames := 3, cells := 0, slots := 0, locals := 43 } : Room) s m #[(.ref vb), (.int ch), (.int (0 : Int32)), (.int (1 : Int32))] below meth c s₁ [] 0 0 := Stand.of_body Bd
  have e0 : s₁.heap = h0 := by rw [← hh, Bd.state]; rfl
  have N0 := Fr.nil n0
  refine own_start (ef_rs_uc1 m vb ch) ?_
  have hST0 := hST
  obtain ⟨S_cs, S_ad, S_hb, S_lb, S_sf, hcs, hvf⟩ := hST
  refine o_iloadN X0 hx hby D26_0 rfl ?_
  refine o_iloadN X0 hx hby D26_1 rfl ?_
  refine o_aloadN X0 hx hby D26_2 rfl rfl ?_
  obtain ⟨_, _, ⟨T1, L1, k1, n1⟩, -, X1, ⟨Lc1, hQ1, l1, y1, z1⟩, st1⟩ := Jvm.LawKit.callS X0 hx (y := (⟨"java/lang/StringUTF16", "checkBoundsBeginEnd", "(II[B)V"⟩ : MethodName)) hown (mvT hZ (own_wd hw (i := 115) rfl)) (mvT hZ (own_wd hw (i := 116) rfl)) (mvT hZ (own_wd hw (i := 72) rfl)) (mvT hZ (own_wd hw (i := 117) rfl)) (by decide) (backOf (W := 0) (rs_cu1 l Z a0 hw [] vb kb c0 cs vf h0 n0 Z0 hST0 O0 Vb) hZ (own_wd hw (i := 117) rfl) (own_wd hw (i := 72) rfl) (by decide) (by decide)) (g := (mkF m 3 #[.val (.ref vb), .val (.int ch), .val (.int (0 : Int32)), .val (.int (1 : Int32))] [(.ref vb), (.int (1 : Int32)), (.int (0 : Int32))])) rfl (by rw [hml]; rfl) (argsL := [(.int (0 : Int32)), (.int (1 : Int32)), (.ref vb)]) (rest := []) (lenOf pd__40II_91B_41V rfl) rfl (by show 2 * 0 + _ ≤ _; exact Nat.le_of_eq rfl) (hb hby D26_3.1) (fun _ _ => ⟨rfl, e0, (by decide : 0 + 0 ≤ _), (by decide : 0 + 0 ≤ _)⟩)
  dsimp only [Pt.U, Pt.locs, Pt.cells, Pt.slots] at X1 l1 y1 z1 st1 hQ1
  subst l1 y1 z1
  obtain ⟨rfl, N1q, e1⟩ := hQ1
  have N1 := Fr.app N0 N1q
  refine own_pre (A' := T1.setTop (mkF m 6 #[.val (.ref vb), .val (.int ch), .val (.int (0 : Int32)), .val (.int (1 : Int32))] [])) st1 ?_
  refine o_aloadN X1 hx hby D26_6 rfl rfl ?_
  refine o_iloadN X1 hx hby D26_7 rfl ?_
  refine o_iloadN X1 hx hby D26_8 rfl ?_
  refine o_iloadN X1 hx hby D26_9 rfl ?_
  obtain ⟨_, _, ⟨T2, L2, k2, n2⟩, -, X2, ⟨Lc2, hQ2, l2, y2, z2⟩, st2⟩ := Jvm.LawKit.callS X1 hx (y := (⟨"java/lang/StringUTF16", "indexOfCharUnsafe", "([BIII)I"⟩ : MethodName)) hown (mvT hZ (own_wd hw (i := 129) rfl)) (mvT hZ (own_wd hw (i := 130) rfl)) (mvT hZ (own_wd hw (i := 72) rfl)) (mvT hZ (own_wd hw (i := 131) rfl)) (by decide) (backOf (W := 0) (rs_uu1 l Z a0 hw [] vb ch kb c0 cs vf h0 n0 Z0 hST0 O0 Vb hc0) hZ (own_wd hw (i := 131) rfl) (own_wd hw (i := 72) rfl) (by decide) (by decide)) (g := (mkF m 10 #[.val (.ref vb), .val (.int ch), .val (.int (0 : Int32)), .val (.int (1 : Int32))] [(.int (1 : Int32)), (.int (0 : Int32)), (.int ch), (.ref vb)])) rfl (by rw [hml]; rfl) (argsL := [(.ref vb), (.int ch), (.int (0 : Int32)), (.int (1 : Int32))]) (rest := []) (lenOf pd__40_91BIII_41I rfl) rfl (by show 2 * 0 + _ ≤ _; exact Nat.le_of_eq rfl) (hb hby D26_10.1) (fun _ _ => ⟨rfl, e1, (by decide : 0 + 0 ≤ _), (by decide : 0 + 0 ≤ _)⟩)
  dsimp only [Pt.U, Pt.locs, Pt.cells, Pt.slots] at X2 l2 y2 z2 st2 hQ2
  subst l2 y2 z2
  obtain ⟨rfl, N2q, e2⟩ := hQ2
  have N2 := Fr.app N1 N2q
  refine own_pre (A' := T2.setTop (mkF m 13 #[.val (.ref vb), .val (.int ch), .val (.int (0 : Int32)), .val (.int (1 : Int32))] [(.int (own_ix1 ch c0))])) st2 ?_
  exact own_ret (v := some (.int (own_ix1 ch c0))) X2 (fun h => by first | rfl | (rw [Bd.returns] at h; cases h)) (BodyLoose.notSynchronized Bd) (by decide) (by decide) (⟨rfl, N2, e2⟩) (fun fs hr => retI X2 hx Bd.returns (hb hby D26_13.1) hr)
theorem D25_0 : own_at jdk_52_method_40_code 0 (.iload_n 2) 1 1 := ⟨by decide +kernel, rfl⟩
theorem D25_1 : own_at jdk_52_method_40_code 1 (.iconst 0) 1 2 := ⟨by decide +kernel, rfl⟩
theorem D25_2 : own_at jdk_52_method_40_code 2 (.invokestatic 224) 3 5 := ⟨by decide +kernel, rfl⟩
theorem D25_5 : own_at jdk_52_method_40_code 5 (.istore_n 2) 1 6 := ⟨by decide +kernel, rfl⟩
theorem D25_6 : own_at jdk_52_method_40_code 6 (.iload_n 3) 1 7 := ⟨by decide +kernel, rfl⟩
theorem D25_7 : own_at jdk_52_method_40_code 7 (.aload_n 0) 1 8 := ⟨by decide +kernel, rfl⟩
theorem D25_8 : own_at jdk_52_method_40_code 8 (.arraylength) 1 9 := ⟨by decide +kernel, rfl⟩
theorem D25_9 : own_at jdk_52_method_40_code 9 (.iconst 1) 1 10 := ⟨by decide +kernel, rfl⟩
theorem D25_10 : own_at jdk_52_method_40_code 10 (.ishr) 1 11 := ⟨by decide +kernel, rfl⟩
theorem D25_11 : own_at jdk_52_method_40_code 11 (.invokestatic 183) 3 14 := ⟨by decide +kernel, rfl⟩
theorem D25_14 : own_at jdk_52_method_40_code 14 (.istore_n 3) 1 15 := ⟨by decide +kernel, rfl⟩
theorem D25_15 : own_at jdk_52_method_40_code 15 (.iload_n 2) 1 16 := ⟨by decide +kernel, rfl⟩
theorem D25_16 : own_at jdk_52_method_40_code 16 (.iload_n 3) 1 17 := ⟨by decide +kernel, rfl⟩
theorem D25_17 : own_at jdk_52_method_40_code 17 (.if_icmp .lt 5) 3 20 := ⟨by decide +kernel, rfl⟩
theorem D25_22 : own_at jdk_52_method_40_code 22 (.iload_n 1) 1 23 := ⟨by decide +kernel, rfl⟩
theorem D25_23 : own_at jdk_52_method_40_code 23 (.ldc 227) 2 25 := ⟨by decide +kernel, rfl⟩
theorem D25_25 : own_at jdk_52_method_40_code 25 (.if_icmp .ge 11) 3 28 := ⟨by decide +kernel, rfl⟩
theorem D25_28 : own_at jdk_52_method_40_code 28 (.aload_n 0) 1 29 := ⟨by decide +kernel, rfl⟩
theorem D25_29 : own_at jdk_52_method_40_code 29 (.iload_n 1) 1 30 := ⟨by decide +kernel, rfl⟩
theorem D25_30 : own_at jdk_52_method_40_code 30 (.iload_n 2) 1 31 := ⟨by decide +kernel, rfl⟩
theorem D25_31 : own_at jdk_52_method_40_code 31 (.iload_n 3) 1 32 := ⟨by decide +kernel, rfl⟩
theorem D25_32 : own_at jdk_52_method_40_code 32 (.invokestatic 228) 3 35 := ⟨by decide +kernel, rfl⟩
theorem D25_35 : own_at jdk_52_method_40_code 35 (.ireturn) 1 36 := ⟨by decide +kernel, rfl⟩
theorem ef_rs_ui1 (m : MethodId) (vb : Addr) (ch : Int32) : entryFrame m #[(.ref vb), (.int ch), (.int (0 : Int32)), (.int (1 : Int32))] 4 = mkF m 0 #[.val (.ref vb), .val (.int ch), .val (.int (0 : Int32)), .val (.int (1 : Int32))] [] := by first | (simp [entryFrame, mkF, argsToLocals, Value.category]; done) | rfl
set_option maxRecDepth 65536 in
set_option maxHeartbeats 40000000 in
theorem rs_ui1 (l : Launch) (Z : State) (a0 : Array Value) (hw : ∀ d ∈ tables_1, d.before a0 Z = true) (ws : List Jvm.Cond) (vb : Addr) (ch : Int32) (kb : ClassId) (c0 : Int32) (cs : Int32) (vf : Value) (h0 : Heap) (n0 : Nat) (Z0 : n0 ≤ h0.size) (hST : own_ST Z cs vf) (O0 : Old Z n0 h0) (Vb : Arv Z h0 vb kb .byte (2 : Int32) [(.int (own_lo c0)), (.int (own_hi c0))] (.int (0 : Int32))) (hc0 : own_ch16 c0) (hn : own_nl ch) :
    MetFree l (⟨"java/lang/StringUTF16", "indexOf", "([BIII)I"⟩ : MethodName) (head1 (Jvm.Cond.code (⟨"java/lang/StringUTF16", "indexOf", "([BIII)I"⟩ : MethodName) jdk_52_method_40_code 4 (some .int) :: ws) ({ frames := 4, cells := 0, slots := 0, locals := 58 } : Room)) (fun a U => a = #[(.ref vb), (.int ch), (.int (0 : Int32)), (.int (1 : Int32))] ∧ Z.Warmed39 U.vm ∧ U.heap = h0) (fun _ _ _ _ _ => True) (fun _ U o U' => ∃ v L, o = .returned v ∧ own_QP (.int (own_ix1 ch c0)) h0 n0 v U'.heap L ∧ FrameEnd U o U' L ({ frames := 4, cells := 0, slots := 0, locals := 58 } : Room).cells ({ frames := 4, cells := 0, slots := 0, locals := 58 } : Room).slots) := by
  refine MetFree.of_bodySF (plainFor_of_name pn_java_lang_StringUTF16) hisR ?_
  intro p e s m args below meth c s₁ Bd hml0 hP hK
  obtain ⟨rfl, hZ, hh⟩ := hP
  have hx := Bd.exec
  have hby := Bd.bytes
  have hml : c.maxLocals = 4 := hml0
  have hown : s.vm.findClass "java/lang/StringUTF16" = some m.cls := findClass_of_methodNamed Bd.named
  have hnm := (name_of_methodNamed Bd.named Bd.method).1
  have X0 : Stand p l e ({ frames := 4, cells := 0, slots := 0, locals := 58 } : Room) s m #[(.ref vb), (.int ch), (.int (0 : Int32)), (.int (1 : Int32))] below meth c s₁ [] 0 0 := Stand.of_body Bd
  have e0 : s₁.heap = h0 := by rw [← hh, Bd.state]; rfl
  have N0 := Fr.nil n0
  refine own_start (ef_rs_ui1 m vb ch) ?_
  have hST0 := hST
  obtain ⟨S_cs, S_ad, S_hb, S_lb, S_sf, hcs, hvf⟩ := hST
  refine o_iloadN X0 hx hby D25_0 rfl ?_
  refine o_iconst X0 hx hby D25_1 (v := 0) rfl ?_
  obtain ⟨_, _, ⟨T1, L1, k1, n1⟩, -, X1, ⟨Lc1, hQ1, l1, y1, z1⟩, st1⟩ := Jvm.LawKit.callS X0 hx (y := (⟨"java/lang/Math", "max", "(II)I"⟩ : MethodName)) hown (mvT hZ (own_wd hw (i := 109) rfl)) (mvT hZ (own_wd hw (i := 64) rfl)) (mvT hZ (own_wd hw (i := 65) rfl)) (mvT hZ (own_wd hw (i := 66) rfl)) (by decide) (backOf (W := 0) (rs_max l Z a0 hw [] (0 : Int32) (0 : Int32) (0 : Int32) h0 n0 Z0 (by decide)) hZ (own_wd hw (i := 66) rfl) (own_wd hw (i := 65) rfl) (by decide) (by decide)) (g := (mkF m 2 #[.val (.ref vb), .val (.int ch), .val (.int (0 : Int32)), .val (.int (1 : Int32))] [(.int (0 : Int32)), (.int (0 : Int32))])) rfl (by rw [hml]; rfl) (argsL := [(.int (0 : Int32)), (.int (0 : Int32))]) (rest := []) (lenOf pd__40II_41I rfl) rfl (by show 2 * 0 + _ ≤ _; exact Nat.le_of_eq rfl) (hb hby D25_2.1) (fun _ _ => ⟨rfl, e0, (by decide : 0 + 0 ≤ _), (by decide : 0 + 0 ≤ _)⟩)
  dsimp only [Pt.U, Pt.locs, Pt.cells, Pt.slots] at X1 l1 y1 z1 st1 hQ1
  subst l1 y1 z1
  obtain ⟨rfl, N1q, e1⟩ := hQ1
  have N1 := Fr.app N0 N1q
  refine own_pre (A' := T1.setTop (mkF m 5 #[.val (.ref vb), .val (.int ch), .val (.int (0 : Int32)), .val (.int (1 : Int32))] [(.int (0 : Int32))])) st1 ?_
  refine o_istoreN X1 hx hby D25_5 (l' := #[.val (.ref vb), .val (.int ch), .val (.int (0 : Int32)), .val (.int (1 : Int32))]) rfl ?_
  refine o_iloadN X1 hx hby D25_6 rfl ?_
  refine o_aloadN X1 hx hby D25_7 rfl rfl ?_
  obtain ⟨cl_vb_2, Ar_vb_2, q_vb_2, S_vb_2, N_vb_2, H_vb_2, G_vb_2⟩ := id Vb
  refine own_pre (A' := T1.setTop (mkF m 9 #[.val (.ref vb), .val (.int ch), .val (.int (0 : Int32)), .val (.int (1 : Int32))] [(.int (2 : Int32)), (.int (1 : Int32))])) (fun t k => X1.arraylength hx (by rw [e1]; exact Ar_vb_2.1) (State.isArrayOf_alike hZ.alike Ar_vb_2.2.1) (g := (mkF m 8 #[.val (.ref vb), .val (.int ch), .val (.int (0 : Int32)), .val (.int (1 : Int32))] [(.ref vb), (.int (1 : Int32))])) rfl rfl (hb hby D25_8.1) _ (by rw [len_of S_vb_2 N_vb_2]; exact k)) ?_
  refine o_iconst X1 hx hby D25_9 (v := 1) rfl ?_
  refine o_ishr X1 hx hby D25_10 ?_
  rw [(by decide : ((2 : Int32) >>> ((1 : Int32) &&& 31)) = (1 : Int32))]
  obtain ⟨_, _, ⟨T3, L3, k3, n3⟩, -, X3, ⟨Lc3, hQ3, l3, y3, z3⟩, st3⟩ := Jvm.LawKit.callS X1 hx (y := (⟨"java/lang/Math", "min", "(II)I"⟩ : MethodName)) hown (mvT hZ (own_wd hw (i := 110) rfl)) (mvT hZ (own_wd hw (i := 68) rfl)) (mvT hZ (own_wd hw (i := 65) rfl)) (mvT hZ (own_wd hw (i := 69) rfl)) (by decide) (backOf (W := 0) (rs_min l Z a0 hw [] (1 : Int32) (1 : Int32) (1 : Int32) h0 n0 Z0 (by decide)) hZ (own_wd hw (i := 69) rfl) (own_wd hw (i := 65) rfl) (by decide) (by decide)) (g := (mkF m 11 #[.val (.ref vb), .val (.int ch), .val (.int (0 : Int32)), .val (.int (1 : Int32))] [(.int (1 : Int32)), (.int (1 : Int32))])) rfl (by rw [hml]; rfl) (argsL := [(.int (1 : Int32)), (.int (1 : Int32))]) (rest := []) (lenOf pd__40II_41I rfl) rfl (by show 2 * 0 + _ ≤ _; exact Nat.le_of_eq rfl) (hb hby D25_11.1) (fun _ _ => ⟨rfl, e1, (by decide : 0 + 0 ≤ _), (by decide : 0 + 0 ≤ _)⟩)
  dsimp only [Pt.U, Pt.locs, Pt.cells, Pt.slots] at X3 l3 y3 z3 st3 hQ3
  subst l3 y3 z3
  obtain ⟨rfl, N3q, e3⟩ := hQ3
  have N3 := Fr.app N1 N3q
  refine own_pre (A' := T3.setTop (mkF m 14 #[.val (.ref vb), .val (.int ch), .val (.int (0 : Int32)), .val (.int (1 : Int32))] [(.int (1 : Int32))])) st3 ?_
  refine o_istoreN X3 hx hby D25_14 (l' := #[.val (.ref vb), .val (.int ch), .val (.int (0 : Int32)), .val (.int (1 : Int32))]) rfl ?_
  refine o_iloadN X3 hx hby D25_15 rfl ?_
  refine o_iloadN X3 hx hby D25_16 rfl ?_
  refine o_icmpY X3 hx hby D25_17 (tlt (by decide : (0 : Int32) < (1 : Int32))).1 (q := 22) (by decide) (by decide) ?_
  refine o_iloadN X3 hx hby D25_22 rfl ?_
  refine o_ldc X3 hx hby hown (mvT hZ (own_wd hw (i := 111) rfl)) D25_23 ?_
  refine o_icmpN X3 hx hby D25_25 (tlt (own_nl2 hn : ch < (65536 : Int32))).2.1 ?_
  refine o_aloadN X3 hx hby D25_28 rfl rfl ?_
  refine o_iloadN X3 hx hby D25_29 rfl ?_
  refine o_iloadN X3 hx hby D25_30 rfl ?_
  refine o_iloadN X3 hx hby D25_31 rfl ?_
  obtain ⟨_, _, ⟨T4, L4, k4, n4⟩, -, X4, ⟨Lc4, hQ4, l4, y4, z4⟩, st4⟩ := Jvm.LawKit.callS X3 hx (y := (⟨"java/lang/StringUTF16", "indexOfChar", "([BIII)I"⟩ : MethodName)) hown (mvT hZ (own_wd hw (i := 112) rfl)) (mvT hZ (own_wd hw (i := 113) rfl)) (mvT hZ (own_wd hw (i := 72) rfl)) (mvT hZ (own_wd hw (i := 114) rfl)) (by decide) (backOf (W := 0) (rs_uc1 l Z a0 hw [] vb ch kb c0 cs vf h0 n0 Z0 hST0 O0 Vb hc0) hZ (own_wd hw (i := 114) rfl) (own_wd hw (i := 72) rfl) (by decide) (by decide)) (g := (mkF m 32 #[.val (.ref vb), .val (.int ch), .val (.int (0 : Int32)), .val (.int (1 : Int32))] [(.int (1 : Int32)), (.int (0 : Int32)), (.int ch), (.ref vb)])) rfl (by rw [hml]; rfl) (argsL := [(.ref vb), (.int ch), (.int (0 : Int32)), (.int (1 : Int32))]) (rest := []) (lenOf pd__40_91BIII_41I rfl) rfl (by show 2 * 0 + _ ≤ _; exact Nat.le_of_eq rfl) (hb hby D25_32.1) (fun _ _ => ⟨rfl, e3, (by decide : 0 + 0 ≤ _), (by decide : 0 + 0 ≤ _)⟩)
  dsimp only [Pt.U, Pt.locs, Pt.cells, Pt.slots] at X4 l4 y4 z4 st4 hQ4
  subst l4 y4 z4
  obtain ⟨rfl, N4q, e4⟩ := hQ4
  have N4 := Fr.app N3 N4q
  refine own_pre (A' := T4.setTop (mkF m 35 #[.val (.ref vb), .val (.int ch), .val (.int (0 : Int32)), .val (.int (1 : Int32))] [(.int (own_ix1 ch c0))])) st4 ?_
  exact own_ret (v := some (.int (own_ix1 ch c0))) X4 (fun h => by first | rfl | (rw [Bd.returns] at h; cases h)) (BodyLoose.notSynchronized Bd) (by decide) (by decide) (⟨rfl, N4, e4⟩) (fun fs hr => retI X4 hx Bd.returns (hb hby D25_35.1) hr)
theorem ef_rs_ul2 (m : MethodId) (vb : Addr) : entryFrame m #[(.ref vb)] 1 = mkF m 0 #[.val (.ref vb)] [] := by first | (simp [entryFrame, mkF, argsToLocals, Value.category]; done) | rfl
set_option maxRecDepth 65536 in
set_option maxHeartbeats 40000000 in
theorem rs_ul2 (l : Launch) (Z : State) (a0 : Array Value) (hw : ∀ d ∈ tables_1, d.before a0 Z = true) (ws : List Jvm.Cond) (vb : Addr) (kb : ClassId) (xs : List Value) (h0 : Heap) (n0 : Nat) (Z0 : n0 ≤ h0.size) (Vb : Arv Z h0 vb kb .byte (4 : Int32) xs (.int (0 : Int32))) :
    MetFree l (⟨"java/lang/StringUTF16", "length", "([B)I"⟩ : MethodName) (head1 (Jvm.Cond.code (⟨"java/lang/StringUTF16", "length", "([B)I"⟩ : MethodName) jdk_52_method_6_code 1 (some .int) :: ws) ({ frames := 0, cells := 0, slots := 0, locals := 0 } : Room)) (fun a U => a = #[(.ref vb)] ∧ Z.Warmed39 U.vm ∧ U.heap = h0) (fun _ _ _ _ _ => True) (fun _ U o U' => ∃ v L, o = .returned v ∧ own_QP (.int (2 : Int32)) h0 n0 v U'.heap L ∧ FrameEnd U o U' L ({ frames := 0, cells := 0, slots := 0, locals := 0 } : Room).cells ({ frames := 0, cells := 0, slots := 0, locals := 0 } : Room).slots) := by
  refine MetFree.of_bodySF (plainFor_of_name pn_java_lang_StringUTF16) hisR ?_
  intro p e s m args below meth c s₁ Bd hml0 hP hK
  obtain ⟨rfl, hZ, hh⟩ := hP
  have hx := Bd.exec
  have hby := Bd.bytes
  have hml : c.maxLocals = 1 := hml0
  have hown : s.vm.findClass "java/lang/StringUTF16" = some m.cls := findClass_of_methodNamed Bd.named
  have hnm := (name_of_methodNamed Bd.named Bd.method).1
  have X0 : Stand p l e ({ frames := 0, cells := 0, slots := 0, locals := 0 } : Room) s m #[(.ref vb)] below meth c s₁ [] 0 0 := Stand.of_body Bd
  have e0 : s₁.heap = h0 := by rw [← hh, Bd.state]; rfl
  have N0 := Fr.nil n0
  refine own_start (ef_rs_ul2 m vb) ?_
  refine o_aloadN X0 hx hby D28_0 rfl rfl ?_
  obtain ⟨cl_vb_1, Ar_vb_1, q_vb_1, S_vb_1, N_vb_1, H_vb_1, G_vb_1⟩ := id Vb
  refine own_pre (A' := s₁.setTop (mkF m 2 #[.val (.ref vb)] [(.int (4 : Int32))])) (fun t k => X0.arraylength hx (by rw [e0]; exact Ar_vb_1.1) (State.isArrayOf_alike hZ.alike Ar_vb_1.2.1) (g := (mkF m 1 #[.val (.ref vb)] [(.ref vb)])) rfl rfl (hb hby D28_1.1) _ (by rw [len_of S_vb_1 N_vb_1]; exact k)) ?_
  refine o_iconst X0 hx hby D28_2 (v := 1) rfl ?_
  refine o_ishr X0 hx hby D28_3 ?_
  rw [(by decide : ((4 : Int32) >>> ((1 : Int32) &&& 31)) = (2 : Int32))]
  exact own_ret (v := some (.int (2 : Int32))) X0 (fun h => by first | rfl | (rw [Bd.returns] at h; cases h)) (BodyLoose.notSynchronized Bd) (by decide) (by decide) (⟨rfl, N0, e0⟩) (fun fs hr => retI X0 hx Bd.returns (hb hby D28_4.1) hr)
theorem ef_rs_cb2 (m : MethodId)  : entryFrame m #[(.int (0 : Int32)), (.int (2 : Int32)), (.int (2 : Int32))] 3 = mkF m 0 #[.val (.int (0 : Int32)), .val (.int (2 : Int32)), .val (.int (2 : Int32))] [] := by first | (simp [entryFrame, mkF, argsToLocals, Value.category]; done) | rfl
set_option maxRecDepth 65536 in
set_option maxHeartbeats 40000000 in
theorem rs_cb2 (l : Launch) (Z : State) (a0 : Array Value) (hw : ∀ d ∈ tables_1, d.before a0 Z = true) (ws : List Jvm.Cond)  (cs : Int32) (vf : Value) (h0 : Heap) (n0 : Nat) (Z0 : n0 ≤ h0.size) (hST : own_ST Z cs vf) (O0 : Old Z n0 h0) :
    MetFree l (⟨"java/lang/String", "checkBoundsBeginEnd", "(III)V"⟩ : MethodName) (head1 (Jvm.Cond.code (⟨"java/lang/String", "checkBoundsBeginEnd", "(III)V"⟩ : MethodName) jdk_42_method_158_code 3 none :: ws) ({ frames := 1, cells := 0, slots := 0, locals := 15 } : Room)) (fun a U => a = #[(.int (0 : Int32)), (.int (2 : Int32)), (.int (2 : Int32))] ∧ Z.Warmed39 U.vm ∧ U.heap = h0) (fun _ _ _ _ _ => True) (fun _ U o U' => ∃ v L, o = .returned v ∧ own_QV h0 n0 v U'.heap L ∧ FrameEnd U o U' L ({ frames := 1, cells := 0, slots := 0, locals := 15 } : Room).cells ({ frames := 1, cells := 0, slots := 0, locals := 15 } : Room).slots) := by
  refine MetFree.of_bodySF (plainFor_of_name pn_java_lang_String) hisR ?_
  intro p e s m args below meth c s₁ Bd hml0 hP hK
  obtain ⟨rfl, hZ, hh⟩ := hP
  have hx := Bd.exec
  have hby := Bd.bytes
  have hml : c.maxLocals = 3 := hml0
  have hown : s.vm.findClass "java/lang/String" = some m.cls := findClass_of_methodNamed Bd.named
  have hnm := (name_of_methodNamed Bd.named Bd.method).1
  have X0 : Stand p l e ({ frames := 1, cells := 0, slots := 0, locals := 15 } : Room) s m #[(.int (0 : Int32)), (.int (2 : Int32)), (.int (2 : Int32))] below meth c s₁ [] 0 0 := Stand.of_body Bd
  have e0 : s₁.heap = h0 := by rw [← hh, Bd.state]; rfl
  have N0 := Fr.nil n0
  refine own_start (ef_rs_cb2 m ) ?_
  obtain ⟨S_cs, S_ad, S_hb, S_lb, S_sf, hcs, hvf⟩ := hST
  rcases ref_cases hvf with rfl | ⟨fa, rfl⟩
  · skip
    refine o_iloadN X0 hx hby D29_0 rfl ?_
    refine o_iloadN X0 hx hby D29_1 rfl ?_
    refine o_iloadN X0 hx hby D29_2 rfl ?_
    obtain ⟨T1, X1, e1, st1⟩ := getS2 X0 hx hZ hown (host := "") (Or.inl (own_wd hw (i := 124) rfl)) Via.refl e0 (S_sf.ext O0.2) (g := (mkF m 3 #[.val (.int (0 : Int32)), .val (.int (2 : Int32)), .val (.int (2 : Int32))] [(.int (2 : Int32)), (.int (2 : Int32)), (.int (0 : Int32))])) rfl (hb hby D29_3.1)
    refine own_pre (A' := T1.setTop (mkF m 6 #[.val (.int (0 : Int32)), .val (.int (2 : Int32)), .val (.int (2 : Int32))] [.null, (.int (2 : Int32)), (.int (2 : Int32)), (.int (0 : Int32))])) st1 ?_
    obtain ⟨_, _, ⟨T2, L2, k2, n2⟩, -, X2, ⟨Lc2, hQ2, l2, y2, z2⟩, st2⟩ := Jvm.LawKit.callS X1 hx (y := (⟨"jdk/internal/util/Preconditions", "checkFromToIndex", "(IIILjava/util/function/BiFunction;)I"⟩ : MethodName)) hown (mvT hZ (own_wd hw (i := 126) rfl)) (mvT hZ (own_wd hw (i := 127) rfl)) (mvT hZ (own_wd hw (i := 125) rfl)) (mvT hZ (own_wd hw (i := 128) rfl)) (by decide) (backOf (W := 0) (rs_cfn l Z a0 hw [] (2 : Int32) h0 n0 Z0 (by decide)) hZ (own_wd hw (i := 128) rfl) (own_wd hw (i := 125) rfl) (by decide) (by decide)) (g := (mkF m 6 #[.val (.int (0 : Int32)), .val (.int (2 : Int32)), .val (.int (2 : Int32))] [.null, (.int (2 : Int32)), (.int (2 : Int32)), (.int (0 : Int32))])) rfl (by rw [hml]; rfl) (argsL := [(.int (0 : Int32)), (.int (2 : Int32)), (.int (2 : Int32)), .null]) (rest := []) (lenOf pd__40IIILjava_47util_47function_47BiFunction_59_41I rfl) rfl (by show 2 * 0 + _ ≤ _; exact Nat.le_of_eq rfl) (hb hby D29_6.1) (fun _ _ => ⟨rfl, e1, (by decide : 0 + 0 ≤ _), (by decide : 0 + 0 ≤ _)⟩)
    dsimp only [Pt.U, Pt.locs, Pt.cells, Pt.slots] at X2 l2 y2 z2 st2 hQ2
    subst l2 y2 z2
    obtain ⟨rfl, N2q, e2⟩ := hQ2
    have N2 := Fr.app N0 N2q
    refine own_pre (A' := T2.setTop (mkF m 9 #[.val (.int (0 : Int32)), .val (.int (2 : Int32)), .val (.int (2 : Int32))] [(.int (0 : Int32))])) st2 ?_
    refine o_pop X2 hx hby D29_9 rfl ?_
    exact own_ret (v := none) X2 (fun h => by first | rfl | (rw [Bd.returns] at h; cases h)) (BodyLoose.notSynchronized Bd) (by decide) (by decide) (⟨rfl, N2, e2⟩) (fun fs hr => X2.returnOut hx Bd.returns (hb hby D29_10.1) hr)
  · skip
    refine o_iloadN X0 hx hby D29_0 rfl ?_
    refine o_iloadN X0 hx hby D29_1 rfl ?_
    refine o_iloadN X0 hx hby D29_2 rfl ?_
    obtain ⟨T3, X3, e3, st3⟩ := getS2 X0 hx hZ hown (host := "") (Or.inl (own_wd hw (i := 124) rfl)) Via.refl e0 (S_sf.ext O0.2) (g := (mkF m 3 #[.val (.int (0 : Int32)), .val (.int (2 : Int32)), .val (.int (2 : Int32))] [(.int (2 : Int32)), (.int (2 : Int32)), (.int (0 : Int32))])) rfl (hb hby D29_3.1)
    refine own_pre (A' := T3.setTop (mkF m 6 #[.val (.int (0 : Int32)), .val (.int (2 : Int32)), .val (.int (2 : Int32))] [(.ref fa), (.int (2 : Int32)), (.int (2 : Int32)), (.int (0 : Int32))])) st3 ?_
    obtain ⟨_, _, ⟨T4, L4, k4, n4⟩, -, X4, ⟨Lc4, hQ4, l4, y4, z4⟩, st4⟩ := Jvm.LawKit.callS X3 hx (y := (⟨"jdk/internal/util/Preconditions", "checkFromToIndex", "(IIILjava/util/function/BiFunction;)I"⟩ : MethodName)) hown (mvT hZ (own_wd hw (i := 126) rfl)) (mvT hZ (own_wd hw (i := 127) rfl)) (mvT hZ (own_wd hw (i := 125) rfl)) (mvT hZ (own_wd hw (i := 128) rfl)) (by decide) (backOf (W := 0) (rs_cfr l Z a0 hw [] (2 : Int32) fa h0 n0 Z0 (by decide)) hZ (own_wd hw (i := 128) rfl) (own_wd hw (i := 125) rfl) (by decide) (by decide)) (g := (mkF m 6 #[.val (.int (0 : Int32)), .val (.int (2 : Int32)), .val (.int (2 : Int32))] [(.ref fa), (.int (2 : Int32)), (.int (2 : Int32)), (.int (0 : Int32))])) rfl (by rw [hml]; rfl) (argsL := [(.int (0 : Int32)), (.int (2 : Int32)), (.int (2 : Int32)), (.ref fa)]) (rest := []) (lenOf pd__40IIILjava_47util_47function_47BiFunction_59_41I rfl) rfl (by show 2 * 0 + _ ≤ _; exact Nat.le_of_eq rfl) (hb hby D29_6.1) (fun _ _ => ⟨rfl, e3, (by decide : 0 + 0 ≤ _), (by decide : 0 + 0 ≤ _)⟩)
    dsimp only [Pt.U, Pt.locs, Pt.cells, Pt.slots] at X4 l4 y4 z4 st4 hQ4
    subst l4 y4 z4
    obtain ⟨rfl, N4q, e4⟩ := hQ4
    have N4 := Fr.app N0 N4q
    refine own_pre (A' := T4.setTop (mkF m 9 #[.val (.int (0 : Int32)), .val (.int (2 : Int32)), .val (.int (2 : Int32))] [(.int (0 : Int32))])) st4 ?_
    refine o_pop X4 hx hby D29_9 rfl ?_
    exact own_ret (v := none) X4 (fun h => by first | rfl | (rw [Bd.returns] at h; cases h)) (BodyLoose.notSynchronized Bd) (by decide) (by decide) (⟨rfl, N4, e4⟩) (fun fs hr => X4.returnOut hx Bd.returns (hb hby D29_10.1) hr)
theorem ef_rs_cu2 (m : MethodId) (vb : Addr) : entryFrame m #[(.int (0 : Int32)), (.int (2 : Int32)), (.ref vb)] 3 = mkF m 0 #[.val (.int (0 : Int32)), .val (.int (2 : Int32)), .val (.ref vb)] [] := by first | (simp [entryFrame, mkF, argsToLocals, Value.category]; done) | rfl
set_option maxRecDepth 65536 in
set_option maxHeartbeats 40000000 in
theorem rs_cu2 (l : Launch) (Z : State) (a0 : Array Value) (hw : ∀ d ∈ tables_1, d.before a0 Z = true) (ws : List Jvm.Cond) (vb : Addr) (kb : ClassId) (c0 c1 : Int32) (cs : Int32) (vf : Value) (h0 : Heap) (n0 : Nat) (Z0 : n0 ≤ h0.size) (hST : own_ST Z cs vf) (O0 : Old Z n0 h0) (Vb : Arv Z h0 vb kb .byte (4 : Int32) [(.int (own_lo c0)), (.int (own_hi c0)), (.int (own_lo c1)), (.int (own_hi c1))] (.int (0 : Int32))) :
    MetFree l (⟨"java/lang/StringUTF16", "checkBoundsBeginEnd", "(II[B)V"⟩ : MethodName) (head1 (Jvm.Cond.code (⟨"java/lang/StringUTF16", "checkBoundsBeginEnd", "(II[B)V"⟩ : MethodName) jdk_52_method_93_code 3 none :: ws) ({ frames := 2, cells := 0, slots := 0, locals := 29 } : Room)) (fun a U => a = #[(.int (0 : Int32)), (.int (2 : Int32)), (.ref vb)] ∧ Z.Warmed39 U.vm ∧ U.heap = h0) (fun _ _ _ _ _ => True) (fun _ U o U' => ∃ v L, o = .returned v ∧ own_QV h0 n0 v U'.heap L ∧ FrameEnd U o U' L ({ frames := 2, cells := 0, slots := 0, locals := 29 } : Room).cells ({ frames := 2, cells := 0, slots := 0, locals := 29 } : Room).slots) := by
  refine MetFree.of_bodySF (plainFor_of_name pn_java_lang_StringUTF16) hisR ?_
  intro p e s m args below meth c s₁ Bd hml0 hP hK
  obtain ⟨rfl, hZ, hh⟩ := hP
  have hx := Bd.exec
  have hby := Bd.bytes
  have hml : c.maxLocals = 3 := hml0
  have hown : s.vm.findClass "java/lang/StringUTF16" = some m.cls := findClass_of_methodNamed Bd.named
  have hnm := (name_of_methodNamed Bd.named Bd.method).1
  have X0 : Stand p l e ({ frames := 2, cells := 0, slots := 0, locals := 29 } : Room) s m #[(.int (0 : Int32)), (.int (2 : Int32)), (.ref vb)] below meth c s₁ [] 0 0 := Stand.of_body Bd
  have e0 : s₁.heap = h0 := by rw [← hh, Bd.state]; rfl
  have N0 := Fr.nil n0
  refine own_start (ef_rs_cu2 m vb) ?_
  have hST0 := hST
  obtain ⟨S_cs, S_ad, S_hb, S_lb, S_sf, hcs, hvf⟩ := hST
  refine o_iloadN X0 hx hby D27_0 rfl ?_
  refine o_iloadN X0 hx hby D27_1 rfl ?_
  refine o_aloadN X0 hx hby D27_2 rfl rfl ?_
  obtain ⟨_, _, ⟨T1, L1, k1, n1⟩, -, X1, ⟨Lc1, hQ1, l1, y1, z1⟩, st1⟩ := Jvm.LawKit.callS X0 hx (y := (⟨"java/lang/StringUTF16", "length", "([B)I"⟩ : MethodName)) hown (mvT hZ (own_wd hw (i := 118) rfl)) (mvT hZ (own_wd hw (i := 119) rfl)) (mvT hZ (own_wd hw (i := 72) rfl)) (mvT hZ (own_wd hw (i := 120) rfl)) (by decide) (backOf (W := 2) (rs_ul2 l Z a0 hw [] vb kb [(.int (own_lo c0)), (.int (own_hi c0)), (.int (own_lo c1)), (.int (own_hi c1))] h0 n0 Z0 Vb) hZ (own_wd hw (i := 120) rfl) (own_wd hw (i := 72) rfl) (by decide) (by decide)) (g := (mkF m 3 #[.val (.int (0 : Int32)), .val (.int (2 : Int32)), .val (.ref vb)] [(.ref vb), (.int (2 : Int32)), (.int (0 : Int32))])) rfl (by rw [hml]; rfl) (argsL := [(.ref vb)]) (rest := [(.int (2 : Int32)), (.int (0 : Int32))]) (lenOf pd__40_91B_41I rfl) rfl (by show 2 * 0 + _ ≤ _; exact Nat.le_of_eq rfl) (hb hby D27_3.1) (fun _ _ => ⟨rfl, e0, (by decide : 0 + 0 ≤ _), (by decide : 0 + 0 ≤ _)⟩)
  dsimp only [Pt.U, Pt.locs, Pt.cells, Pt.slots] at X1 l1 y1 z1 st1 hQ1
  subst l1 y1 z1
  obtain ⟨rfl, N1q, e1⟩ := hQ1
  have N1 := Fr.app N0 N1q
  refine own_pre (A' := T1.setTop (mkF m 6 #[.val (.int (0 : Int32)), .val (.int (2 : Int32)), .val (.ref vb)] [(.int (2 : Int32)), (.int (2 : Int32)), (.int (0 : Int32))])) st1 ?_
  obtain ⟨_, _, ⟨T2, L2, k2, n2⟩, -, X2, ⟨Lc2, hQ2, l2, y2, z2⟩, st2⟩ := Jvm.LawKit.callS X1 hx (y := (⟨"java/lang/String", "checkBoundsBeginEnd", "(III)V"⟩ : MethodName)) hown (mvT hZ (own_wd hw (i := 121) rfl)) (mvT hZ (own_wd hw (i := 122) rfl)) (mvT hZ (own_wd hw (i := 7) rfl)) (mvT hZ (own_wd hw (i := 123) rfl)) (by decide) (backOf (W := 0) (rs_cb2 l Z a0 hw [] cs vf h0 n0 Z0 hST0 O0) hZ (own_wd hw (i := 123) rfl) (own_wd hw (i := 7) rfl) (by decide) (by decide)) (g := (mkF m 6 #[.val (.int (0 : Int32)), .val (.int (2 : Int32)), .val (.ref vb)] [(.int (2 : Int32)), (.int (2 : Int32)), (.int (0 : Int32))])) rfl (by rw [hml]; rfl) (argsL := [(.int (0 : Int32)), (.int (2 : Int32)), (.int (2 : Int32))]) (rest := []) (lenOf pd__40III_41V rfl) rfl (by show 2 * 0 + _ ≤ _; exact Nat.le_of_eq rfl) (hb hby D27_6.1) (fun _ _ => ⟨rfl, e1, (by decide : 0 + 0 ≤ _), (by decide : 0 + 0 ≤ _)⟩)
  dsimp only [Pt.U, Pt.locs, Pt.cells, Pt.slots] at X2 l2 y2 z2 st2 hQ2
  subst l2 y2 z2
  obtain ⟨rfl, N2q, e2⟩ := hQ2
  have N2 := Fr.app N1 N2q
  refine own_pre (A' := T2.setTop (mkF m 9 #[.val (.int (0 : Int32)), .val (.int (2 : Int32)), .val (.ref vb)] [])) st2 ?_
  exact own_ret (v := none) X2 (fun h => by first | rfl | (rw [Bd.returns] at h; cases h)) (BodyLoose.notSynchronized Bd) (by decide) (by decide) (⟨rfl, N2, e2⟩) (fun fs hr => X2.returnOut hx Bd.returns (hb hby D27_9.1) hr)
theorem ef_rs_uu2 (m : MethodId) (vb : Addr) (ch : Int32) : entryFrame m #[(.ref vb), (.int ch), (.int (0 : Int32)), (.int (2 : Int32))] 5 = mkF m 0 #[.val (.ref vb), .val (.int ch), .val (.int (0 : Int32)), .val (.int (2 : Int32)), .unset] [] := by first | (simp [entryFrame, mkF, argsToLocals, Value.category]; done) | rfl
set_option maxRecDepth 65536 in
set_option maxHeartbeats 40000000 in
theorem rs_uu2 (l : Launch) (Z : State) (a0 : Array Value) (hw : ∀ d ∈ tables_1, d.before a0 Z = true) (ws : List Jvm.Cond) (vb : Addr) (ch : Int32) (kb : ClassId) (c0 c1 : Int32) (cs : Int32) (vf : Value) (h0 : Heap) (n0 : Nat) (Z0 : n0 ≤ h0.size) (hST : own_ST Z cs vf) (O0 : Old Z n0 h0) (Vb : Arv Z h0 vb kb .byte (4 : Int32) [(.int (own_lo c0)), (.int (own_hi c0)), (.int (own_lo c1)), (.int (own_hi c1))] (.int (0 : Int32))) (hc0 : own_ch16 c0) (hc1 : own_ch16 c1) :
    MetFree l (⟨"java/lang/StringUTF16", "indexOfCharUnsafe", "([BIII)I"⟩ : MethodName) (head1 (Jvm.Cond.code (⟨"java/lang/StringUTF16", "indexOfCharUnsafe", "([BIII)I"⟩ : MethodName) jdk_52_method_48_code 5 (some .int) :: ws) ({ frames := 1, cells := 0, slots := 0, locals := 13 } : Room)) (fun a U => a = #[(.ref vb), (.int ch), (.int (0 : Int32)), (.int (2 : Int32))] ∧ Z.Warmed39 U.vm ∧ U.heap = h0) (fun _ _ _ _ _ => True) (fun _ U o U' => ∃ v L, o = .returned v ∧ own_QP (.int (own_ix2 ch c0 c1)) h0 n0 v U'.heap L ∧ FrameEnd U o U' L ({ frames := 1, cells := 0, slots := 0, locals := 13 } : Room).cells ({ frames := 1, cells := 0, slots := 0, locals := 13 } : Room).slots) := by
  refine MetFree.of_bodySF (plainFor_of_name pn_java_lang_StringUTF16) hisR ?_
  intro p e s m args below meth c s₁ Bd hml0 hP hK
  obtain ⟨rfl, hZ, hh⟩ := hP
  have hx := Bd.exec
  have hby := Bd.bytes
  have hml : c.maxLocals = 5 := hml0
  have hown : s.vm.findClass "java/lang/StringUTF16" = some m.cls := findClass_of_methodNamed Bd.named
  have hnm := (name_of_methodNamed Bd.named Bd.method).1
  have X0 : Stand p l e ({ frames := 1, cells := 0, slots := 0, locals := 13 } : Room) s m #[(.ref vb), (.int ch), (.int (0 : Int32)), (.int (2 : Int32))] below meth c s₁ [] 0 0 := Stand.of_body Bd
  have e0 : s₁.heap = h0 := by rw [← hh, Bd.state]; rfl
  have N0 := Fr.nil n0
  refine own_start (ef_rs_uu2 m vb ch) ?_
  have hST0 := hST
  obtain ⟨S_cs, S_ad, S_hb, S_lb, S_sf, hcs, hvf⟩ := hST
  refine o_iloadN X0 hx hby D31_0 rfl ?_
  refine o_istore X0 hx hby D31_1 (l' := #[.val (.ref vb), .val (.int ch), .val (.int (0 : Int32)), .val (.int (2 : Int32)), .val (.int (0 : Int32))]) rfl ?_
  refine o_iload X0 hx hby D31_3 rfl ?_
  refine o_iloadN X0 hx hby D31_5 rfl ?_
  refine o_icmpN X0 hx hby D31_6 (tlt (by decide : (0 : Int32) < (2 : Int32))).2.1 ?_
  refine o_aloadN X0 hx hby D31_9 rfl rfl ?_
  refine o_iload X0 hx hby D31_10 rfl ?_
  obtain ⟨_, _, ⟨T1, L1, k1, n1⟩, -, X1, ⟨Lc1, hQ1, l1, y1, z1⟩, st1⟩ := Jvm.LawKit.callS X0 hx (y := (⟨"java/lang/StringUTF16", "getChar", "([BI)C"⟩ : MethodName)) hown (mvT hZ (own_wd hw (i := 103) rfl)) (mvT hZ (own_wd hw (i := 104) rfl)) (mvT hZ (own_wd hw (i := 72) rfl)) (mvT hZ (own_wd hw (i := 105) rfl)) (by decide) (backOf (W := 0) (rs_gc20 l Z a0 hw [] vb kb c0 c1 cs vf h0 n0 Z0 hST0 O0 Vb hc0) hZ (own_wd hw (i := 105) rfl) (own_wd hw (i := 72) rfl) (by decide) (by decide)) (g := (mkF m 12 #[.val (.ref vb), .val (.int ch), .val (.int (0 : Int32)), .val (.int (2 : Int32)), .val (.int (0 : Int32))] [(.int (0 : Int32)), (.ref vb)])) rfl (by rw [hml]; rfl) (argsL := [(.ref vb), (.int (0 : Int32))]) (rest := []) (lenOf pd__40_91BI_41C rfl) rfl (by show 2 * 0 + _ ≤ _; exact Nat.le_of_eq rfl) (hb hby D31_12.1) (fun _ _ => ⟨rfl, e0, (by decide : 0 + 0 ≤ _), (by decide : 0 + 0 ≤ _)⟩)
  dsimp only [Pt.U, Pt.locs, Pt.cells, Pt.slots] at X1 l1 y1 z1 st1 hQ1
  subst l1 y1 z1
  obtain ⟨rfl, N1q, e1⟩ := hQ1
  have N1 := Fr.app N0 N1q
  refine own_pre (A' := T1.setTop (mkF m 15 #[.val (.ref vb), .val (.int ch), .val (.int (0 : Int32)), .val (.int (2 : Int32)), .val (.int (0 : Int32))] [(.int c0)])) st1 ?_
  refine o_iloadN X1 hx hby D31_15 rfl ?_
  by_cases hc16_2 : c0 = ch
  · skip
    refine o_icmpN X1 hx hby D31_16 (teq hc16_2).2 ?_
    refine o_iload X1 hx hby D31_19 rfl ?_
    exact own_ret (v := some (.int (0 : Int32))) X1 (fun h => by first | rfl | (rw [Bd.returns] at h; cases h)) (BodyLoose.notSynchronized Bd) (by decide) (by decide) (⟨by rw [own_ix2, if_pos hc16_2], N1, e1⟩) (fun fs hr => retI X1 hx Bd.returns (hb hby D31_21.1) hr)
  · skip
    refine o_icmpY X1 hx hby D31_16 (feq hc16_2).2 (q := 22) (by decide) (by decide) ?_
    refine o_iinc X1 hx hby D31_22 rfl (l' := #[.val (.ref vb), .val (.int ch), .val (.int (0 : Int32)), .val (.int (2 : Int32)), .val (.int ((0 : Int32) + (1 : Int32)))]) rfl ?_
    rw [(by decide : ((0 : Int32) + (1 : Int32)) = (1 : Int32))]
    refine o_goto X1 hx hby D31_25 (q := 3) (by decide) (by decide) ?_
    refine o_iload X1 hx hby D31_3 rfl ?_
    refine o_iloadN X1 hx hby D31_5 rfl ?_
    refine o_icmpN X1 hx hby D31_6 (tlt (by decide : (1 : Int32) < (2 : Int32))).2.1 ?_
    refine o_aloadN X1 hx hby D31_9 rfl rfl ?_
    refine o_iload X1 hx hby D31_10 rfl ?_
    obtain ⟨_, _, ⟨T3, L3, k3, n3⟩, -, X3, ⟨Lc3, hQ3, l3, y3, z3⟩, st3⟩ := Jvm.LawKit.callS X1 hx (y := (⟨"java/lang/StringUTF16", "getChar", "([BI)C"⟩ : MethodName)) hown (mvT hZ (own_wd hw (i := 103) rfl)) (mvT hZ (own_wd hw (i := 104) rfl)) (mvT hZ (own_wd hw (i := 72) rfl)) (mvT hZ (own_wd hw (i := 105) rfl)) (by decide) (backOf (W := 0) (rs_gc21 l Z a0 hw [] vb kb c0 c1 cs vf h0 n0 Z0 hST0 O0 Vb hc1) hZ (own_wd hw (i := 105) rfl) (own_wd hw (i := 72) rfl) (by decide) (by decide)) (g := (mkF m 12 #[.val (.ref vb), .val (.int ch), .val (.int (0 : Int32)), .val (.int (2 : Int32)), .val (.int (1 : Int32))] [(.int (1 : Int32)), (.ref vb)])) rfl (by rw [hml]; rfl) (argsL := [(.ref vb), (.int (1 : Int32))]) (rest := []) (lenOf pd__40_91BI_41C rfl) rfl (by show 2 * 0 + _ ≤ _; exact Nat.le_of_eq rfl) (hb hby D31_12.1) (fun _ _ => ⟨rfl, e1, (by decide : 0 + 0 ≤ _), (by decide : 0 + 0 ≤ _)⟩)
    dsimp only [Pt.U, Pt.locs, Pt.cells, Pt.slots] at X3 l3 y3 z3 st3 hQ3
    subst l3 y3 z3
    obtain ⟨rfl, N3q, e3⟩ := hQ3
    have N3 := Fr.app N1 N3q
    refine own_pre (A' := T3.setTop (mkF m 15 #[.val (.ref vb), .val (.int ch), .val (.int (0 : Int32)), .val (.int (2 : Int32)), .val (.int (1 : Int32))] [(.int c1)])) st3 ?_
    refine o_iloadN X3 hx hby D31_15 rfl ?_
    by_cases hc16_4 : c1 = ch
    · skip
      refine o_icmpN X3 hx hby D31_16 (teq hc16_4).2 ?_
      refine o_iload X3 hx hby D31_19 rfl ?_
      exact own_ret (v := some (.int (1 : Int32))) X3 (fun h => by first | rfl | (rw [Bd.returns] at h; cases h)) (BodyLoose.notSynchronized Bd) (by decide) (by decide) (⟨by rw [own_ix2, if_neg hc16_2, if_pos hc16_4], N3, e3⟩) (fun fs hr => retI X3 hx Bd.returns (hb hby D31_21.1) hr)
    · skip
      refine o_icmpY X3 hx hby D31_16 (feq hc16_4).2 (q := 22) (by decide) (by decide) ?_
      refine o_iinc X3 hx hby D31_22 rfl (l' := #[.val (.ref vb), .val (.int ch), .val (.int (0 : Int32)), .val (.int (2 : Int32)), .val (.int ((1 : Int32) + (1 : Int32)))]) rfl ?_
      rw [(by decide : ((1 : Int32) + (1 : Int32)) = (2 : Int32))]
      refine o_goto X3 hx hby D31_25 (q := 3) (by decide) (by decide) ?_
      refine o_iload X3 hx hby D31_3 rfl ?_
      refine o_iloadN X3 hx hby D31_5 rfl ?_
      refine o_icmpY X3 hx hby D31_6 (flt (by decide : ¬ ((2 : Int32) < (2 : Int32)))).2.1 (q := 28) (by decide) (by decide) ?_
      refine o_iconst X3 hx hby D31_28 (v := -1) rfl ?_
      exact own_ret (v := some (.int (-1 : Int32))) X3 (fun h => by first | rfl | (rw [Bd.returns] at h; cases h)) (BodyLoose.notSynchronized Bd) (by decide) (by decide) (⟨by rw [own_ix2, if_neg hc16_2, if_neg hc16_4], N3, e3⟩) (fun fs hr => retI X3 hx Bd.returns (hb hby D31_29.1) hr)
theorem ef_rs_uc2 (m : MethodId) (vb : Addr) (ch : Int32) : entryFrame m #[(.ref vb), (.int ch), (.int (0 : Int32)), (.int (2 : Int32))] 4 = mkF m 0 #[.val (.ref vb), .val (.int ch), .val (.int (0 : Int32)), .val (.int (2 : Int32))] [] := by first | (simp [entryFrame, mkF, argsToLocals, Value.category]; done) | rfl
set_option maxRecDepth 65536 in
set_option maxHeartbeats 40000000 in
theorem rs_uc2 (l : Launch) (Z : State) (a0 : Array Value) (hw : ∀ d ∈ tables_1, d.before a0 Z = true) (ws : List Jvm.Cond) (vb : Addr) (ch : Int32) (kb : ClassId) (c0 c1 : Int32) (cs : Int32) (vf : Value) (h0 : Heap) (n0 : Nat) (Z0 : n0 ≤ h0.size) (hST : own_ST Z cs vf) (O0 : Old Z n0 h0) (Vb : Arv Z h0 vb kb .byte (4 : Int32) [(.int (own_lo c0)), (.int (own_hi c0)), (.int (own_lo c1)), (.int (own_hi c1))] (.int (0 : Int32))) (hc0 : own_ch16 c0) (hc1 : own_ch16 c1) :
    MetFree l (⟨"java/lang/StringUTF16", "indexOfChar", "([BIII)I"⟩ : MethodName) (head1 (Jvm.Cond.code (⟨"java/lang/StringUTF16", "indexOfChar", "([BIII)I"⟩ : MethodName) jdk_52_method_47_code 4 (some .int) :: ws) ({ frames := 3, cells := 0, slots := 0, locals := 43 } : Room)) (fun a U => a = #[(.ref vb), (.int ch), (.int (0 : Int32)), (.int (2 : Int32))] ∧ Z.Warmed39 U.vm ∧ U.heap = h0) (fun _ _ _ _ _ => True) (fun _ U o U' => ∃ v L, o = .returned v ∧ own_QP (.int (own_ix2 ch c0 c1)) h0 n0 v U'.heap L ∧ FrameEnd U o U' L ({ frames := 3, cells := 0, slots := 0, locals := 43 } : Room).cells ({ frames := 3, cells := 0, slots := 0, locals := 43 } : Room).slots) := by
  refine MetFree.of_bodySF (plainFor_of_name pn_java_lang_StringUTF16) hisR ?_
  intro p e s m args below meth c s₁ Bd hml0 hP hK
  obtain ⟨rfl, hZ, hh⟩ := hP
  have hx := Bd.exec
  have hby := Bd.bytes
  have hml : c.maxLocals = 4 := hml0
  have hown : s.vm.findClass "java/lang/StringUTF16" = some m.cls := findClass_of_methodNamed Bd.named
  have hnm := (name_of_methodNamed Bd.named Bd.method).1
  have X0 : Stand p l e ({ frames := 3, cells := 0, slots := 0, locals := 43 } : Room) s m #[(.ref vb), (.int ch), (.int (0 : Int32)), (.int (2 : Int32))] below meth c s₁ [] 0 0 := Stand.of_body Bd
  have e0 : s₁.heap = h0 := by rw [← hh, Bd.state]; rfl
  have N0 := Fr.nil n0
  refine own_start (ef_rs_uc2 m vb ch) ?_
  have hST0 := hST
  obtain ⟨S_cs, S_ad, S_hb, S_lb, S_sf, hcs, hvf⟩ := hST
  refine o_iloadN X0 hx hby D26_0 rfl ?_
  refine o_iloadN X0 hx hby D26_1 rfl ?_
  refine o_aloadN X0 hx hby D26_2 rfl rfl ?_
  obtain ⟨_, _, ⟨T1, L1, k1, n1⟩, -, X1, ⟨Lc1, hQ1, l1, y1, z1⟩, st1⟩ := Jvm.LawKit.callS X0 hx (y := (⟨"java/lang/StringUTF16", "checkBoundsBeginEnd", "(II[B)V"⟩ : MethodName)) hown (mvT hZ (own_wd hw (i := 115) rfl)) (mvT hZ (own_wd hw (i := 116) rfl)) (mvT hZ (own_wd hw (i := 72) rfl)) (mvT hZ (own_wd hw (i := 117) rfl)) (by decide) (backOf (W := 0) (rs_cu2 l Z a0 hw [] vb kb c0 c1 cs vf h0 n0 Z0 hST0 O0 Vb) hZ (own_wd hw (i := 117) rfl) (own_wd hw (i := 72) rfl) (by decide) (by decide)) (g := (mkF m 3 #[.val (.ref vb), .val (.int ch), .val (.int (0 : Int32)), .val (.int (2 : Int32))] [(.ref vb), (.int (2 : Int32)), (.int (0 : Int32))])) rfl (by rw [hml]; rfl) (argsL := [(.int (0 : Int32)), (.int (2 : Int32)), (.ref vb)]) (rest := []) (lenOf pd__40II_91B_41V rfl) rfl (by show 2 * 0 + _ ≤ _; exact Nat.le_of_eq rfl) (hb hby D26_3.1) (fun _ _ => ⟨rfl, e0, (by decide : 0 + 0 ≤ _), (by decide : 0 + 0 ≤ _)⟩)
  dsimp only [Pt.U, Pt.locs, Pt.cells, Pt.slots] at X1 l1 y1 z1 st1 hQ1
  subst l1 y1 z1
  obtain ⟨rfl, N1q, e1⟩ := hQ1
  have N1 := Fr.app N0 N1q
  refine own_pre (A' := T1.setTop (mkF m 6 #[.val (.ref vb), .val (.int ch), .val (.int (0 : Int32)), .val (.int (2 : Int32))] [])) st1 ?_
  refine o_aloadN X1 hx hby D26_6 rfl rfl ?_
  refine o_iloadN X1 hx hby D26_7 rfl ?_
  refine o_iloadN X1 hx hby D26_8 rfl ?_
  refine o_iloadN X1 hx hby D26_9 rfl ?_
  obtain ⟨_, _, ⟨T2, L2, k2, n2⟩, -, X2, ⟨Lc2, hQ2, l2, y2, z2⟩, st2⟩ := Jvm.LawKit.callS X1 hx (y := (⟨"java/lang/StringUTF16", "indexOfCharUnsafe", "([BIII)I"⟩ : MethodName)) hown (mvT hZ (own_wd hw (i := 129) rfl)) (mvT hZ (own_wd hw (i := 130) rfl)) (mvT hZ (own_wd hw (i := 72) rfl)) (mvT hZ (own_wd hw (i := 131) rfl)) (by decide) (backOf (W := 0) (rs_uu2 l Z a0 hw [] vb ch kb c0 c1 cs vf h0 n0 Z0 hST0 O0 Vb hc0 hc1) hZ (own_wd hw (i := 131) rfl) (own_wd hw (i := 72) rfl) (by decide) (by decide)) (g := (mkF m 10 #[.val (.ref vb), .val (.int ch), .val (.int (0 : Int32)), .val (.int (2 : Int32))] [(.int (2 : Int32)), (.int (0 : Int32)), (.int ch), (.ref vb)])) rfl (by rw [hml]; rfl) (argsL := [(.ref vb), (.int ch), (.int (0 : Int32)), (.int (2 : Int32))]) (rest := []) (lenOf pd__40_91BIII_41I rfl) rfl (by show 2 * 0 + _ ≤ _; exact Nat.le_of_eq rfl) (hb hby D26_10.1) (fun _ _ => ⟨rfl, e1, (by decide : 0 + 0 ≤ _), (by decide : 0 + 0 ≤ _)⟩)
  dsimp only [Pt.U, Pt.locs, Pt.cells, Pt.slots] at X2 l2 y2 z2 st2 hQ2
  subst l2 y2 z2
  obtain ⟨rfl, N2q, e2⟩ := hQ2
  have N2 := Fr.app N1 N2q
  refine own_pre (A' := T2.setTop (mkF m 13 #[.val (.ref vb), .val (.int ch), .val (.int (0 : Int32)), .val (.int (2 : Int32))] [(.int (own_ix2 ch c0 c1))])) st2 ?_
  exact own_ret (v := some (.int (own_ix2 ch c0 c1))) X2 (fun h => by first | rfl | (rw [Bd.returns] at h; cases h)) (BodyLoose.notSynchronized Bd) (by decide) (by decide) (⟨rfl, N2, e2⟩) (fun fs hr => retI X2 hx Bd.returns (hb hby D26_13.1) hr)
theorem ef_rs_ui2 (m : MethodId) (vb : Addr) (ch : Int32) : entryFrame m #[(.ref vb), (.int ch), (.int (0 : Int32)), (.int (2 : Int32))] 4 = mkF m 0 #[.val (.ref vb), .val (.int ch), .val (.int (0 : Int32)), .val (.int (2 : Int32))] [] := by first | (simp [entryFrame, mkF, argsToLocals, Value.category]; done) | rfl
set_option maxRecDepth 65536 in
set_option maxHeartbeats 40000000 in
theorem rs_ui2 (l : Launch) (Z : State) (a0 : Array Value) (hw : ∀ d ∈ tables_1, d.before a0 Z = true) (ws : List Jvm.Cond) (vb : Addr) (ch : Int32) (kb : ClassId) (c0 c1 : Int32) (cs : Int32) (vf : Value) (h0 : Heap) (n0 : Nat) (Z0 : n0 ≤ h0.size) (hST : own_ST Z cs vf) (O0 : Old Z n0 h0) (Vb : Arv Z h0 vb kb .byte (4 : Int32) [(.int (own_lo c0)), (.int (own_hi c0)), (.int (own_lo c1)), (.int (own_hi c1))] (.int (0 : Int32))) (hc0 : own_ch16 c0) (hc1 : own_ch16 c1) (hn : own_nl ch) :
    MetFree l (⟨"java/lang/StringUTF16", "indexOf", "([BIII)I"⟩ : MethodName) (head1 (Jvm.Cond.code (⟨"java/lang/StringUTF16", "indexOf", "([BIII)I"⟩ : MethodName) jdk_52_method_40_code 4 (some .int) :: ws) ({ frames := 4, cells := 0, slots := 0, locals := 58 } : Room)) (fun a U => a = #[(.ref vb), (.int ch), (.int (0 : Int32)), (.int (2 : Int32))] ∧ Z.Warmed39 U.vm ∧ U.heap = h0) (fun _ _ _ _ _ => True) (fun _ U o U' => ∃ v L, o = .returned v ∧ own_QP (.int (own_ix2 ch c0 c1)) h0 n0 v U'.heap L ∧ FrameEnd U o U' L ({ frames := 4, cells := 0, slots := 0, locals := 58 } : Room).cells ({ frames := 4, cells := 0, slots := 0, locals := 58 } : Room).slots) := by
  refine MetFree.of_bodySF (plainFor_of_name pn_java_lang_StringUTF16) hisR ?_
  intro p e s m args below meth c s₁ Bd hml0 hP hK
  obtain ⟨rfl, hZ, hh⟩ := hP
  have hx := Bd.exec
  have hby := Bd.bytes
  have hml : c.maxLocals = 4 := hml0
  have hown : s.vm.findClass "java/lang/StringUTF16" = some m.cls := findClass_of_methodNamed Bd.named
  have hnm := (name_of_methodNamed Bd.named Bd.method).1
  have X0 : Stand p l e ({ frames := 4, cells := 0, slots := 0, locals := 58 } : Room) s m #[(.ref vb), (.int ch), (.int (0 : Int32)), (.int (2 : Int32))] below meth c s₁ [] 0 0 := Stand.of_body Bd
  have e0 : s₁.heap = h0 := by rw [← hh, Bd.state]; rfl
  have N0 := Fr.nil n0
  refine own_start (ef_rs_ui2 m vb ch) ?_
  have hST0 := hST
  obtain ⟨S_cs, S_ad, S_hb, S_lb, S_sf, hcs, hvf⟩ := hST
  refine o_iloadN X0 hx hby D25_0 rfl ?_
  refine o_iconst X0 hx hby D25_1 (v := 0) rfl ?_
  obtain ⟨_, _, ⟨T1, L1, k1, n1⟩, -, X1, ⟨Lc1, hQ1, l1, y1, z1⟩, st1⟩ := Jvm.LawKit.callS X0 hx (y := (⟨"java/lang/Math", "max", "(II)I"⟩ : MethodName)) hown (mvT hZ (own_wd hw (i := 109) rfl)) (mvT hZ (own_wd hw (i := 64) rfl)) (mvT hZ (own_wd hw (i := 65) rfl)) (mvT hZ (own_wd hw (i := 66) rfl)) (by decide) (backOf (W := 0) (rs_max l Z a0 hw [] (0 : Int32) (0 : Int32) (0 : Int32) h0 n0 Z0 (by decide)) hZ (own_wd hw (i := 66) rfl) (own_wd hw (i := 65) rfl) (by decide) (by decide)) (g := (mkF m 2 #[.val (.ref vb), .val (.int ch), .val (.int (0 : Int32)), .val (.int (2 : Int32))] [(.int (0 : Int32)), (.int (0 : Int32))])) rfl (by rw [hml]; rfl) (argsL := [(.int (0 : Int32)), (.int (0 : Int32))]) (rest := []) (lenOf pd__40II_41I rfl) rfl (by show 2 * 0 + _ ≤ _; exact Nat.le_of_eq rfl) (hb hby D25_2.1) (fun _ _ => ⟨rfl, e0, (by decide : 0 + 0 ≤ _), (by decide : 0 + 0 ≤ _)⟩)
  dsimp only [Pt.U, Pt.locs, Pt.cells, Pt.slots] at X1 l1 y1 z1 st1 hQ1
  subst l1 y1 z1
  obtain ⟨rfl, N1q, e1⟩ := hQ1
  have N1 := Fr.app N0 N1q
  refine own_pre (A' := T1.setTop (mkF m 5 #[.val (.ref vb), .val (.int ch), .val (.int (0 : Int32)), .val (.int (2 : Int32))] [(.int (0 : Int32))])) st1 ?_
  refine o_istoreN X1 hx hby D25_5 (l' := #[.val (.ref vb), .val (.int ch), .val (.int (0 : Int32)), .val (.int (2 : Int32))]) rfl ?_
  refine o_iloadN X1 hx hby D25_6 rfl ?_
  refine o_aloadN X1 hx hby D25_7 rfl rfl ?_
  obtain ⟨cl_vb_2, Ar_vb_2, q_vb_2, S_vb_2, N_vb_2, H_vb_2, G_vb_2⟩ := id Vb
  refine own_pre (A' := T1.setTop (mkF m 9 #[.val (.ref vb), .val (.int ch), .val (.int (0 : Int32)), .val (.int (2 : Int32))] [(.int (4 : Int32)), (.int (2 : Int32))])) (fun t k => X1.arraylength hx (by rw [e1]; exact Ar_vb_2.1) (State.isArrayOf_alike hZ.alike Ar_vb_2.2.1) (g := (mkF m 8 #[.val (.ref vb), .val (.int ch), .val (.int (0 : Int32)), .val (.int (2 : Int32))] [(.ref vb), (.int (2 : Int32))])) rfl rfl (hb hby D25_8.1) _ (by rw [len_of S_vb_2 N_vb_2]; exact k)) ?_
  refine o_iconst X1 hx hby D25_9 (v := 1) rfl ?_
  refine o_ishr X1 hx hby D25_10 ?_
  rw [(by decide : ((4 : Int32) >>> ((1 : Int32) &&& 31)) = (2 : Int32))]
  obtain ⟨_, _, ⟨T3, L3, k3, n3⟩, -, X3, ⟨Lc3, hQ3, l3, y3, z3⟩, st3⟩ := Jvm.LawKit.callS X1 hx (y := (⟨"java/lang/Math", "min", "(II)I"⟩ : MethodName)) hown (mvT hZ (own_wd hw (i := 110) rfl)) (mvT hZ (own_wd hw (i := 68) rfl)) (mvT hZ (own_wd hw (i := 65) rfl)) (mvT hZ (own_wd hw (i := 69) rfl)) (by decide) (backOf (W := 0) (rs_min l Z a0 hw [] (2 : Int32) (2 : Int32) (2 : Int32) h0 n0 Z0 (by decide)) hZ (own_wd hw (i := 69) rfl) (own_wd hw (i := 65) rfl) (by decide) (by decide)) (g := (mkF m 11 #[.val (.ref vb), .val (.int ch), .val (.int (0 : Int32)), .val (.int (2 : Int32))] [(.int (2 : Int32)), (.int (2 : Int32))])) rfl (by rw [hml]; rfl) (argsL := [(.int (2 : Int32)), (.int (2 : Int32))]) (rest := []) (lenOf pd__40II_41I rfl) rfl (by show 2 * 0 + _ ≤ _; exact Nat.le_of_eq rfl) (hb hby D25_11.1) (fun _ _ => ⟨rfl, e1, (by decide : 0 + 0 ≤ _), (by decide : 0 + 0 ≤ _)⟩)
  dsimp only [Pt.U, Pt.locs, Pt.cells, Pt.slots] at X3 l3 y3 z3 st3 hQ3
  subst l3 y3 z3
  obtain ⟨rfl, N3q, e3⟩ := hQ3
  have N3 := Fr.app N1 N3q
  refine own_pre (A' := T3.setTop (mkF m 14 #[.val (.ref vb), .val (.int ch), .val (.int (0 : Int32)), .val (.int (2 : Int32))] [(.int (2 : Int32))])) st3 ?_
  refine o_istoreN X3 hx hby D25_14 (l' := #[.val (.ref vb), .val (.int ch), .val (.int (0 : Int32)), .val (.int (2 : Int32))]) rfl ?_
  refine o_iloadN X3 hx hby D25_15 rfl ?_
  refine o_iloadN X3 hx hby D25_16 rfl ?_
  refine o_icmpY X3 hx hby D25_17 (tlt (by decide : (0 : Int32) < (2 : Int32))).1 (q := 22) (by decide) (by decide) ?_
  refine o_iloadN X3 hx hby D25_22 rfl ?_
  refine o_ldc X3 hx hby hown (mvT hZ (own_wd hw (i := 111) rfl)) D25_23 ?_
  refine o_icmpN X3 hx hby D25_25 (tlt (own_nl2 hn : ch < (65536 : Int32))).2.1 ?_
  refine o_aloadN X3 hx hby D25_28 rfl rfl ?_
  refine o_iloadN X3 hx hby D25_29 rfl ?_
  refine o_iloadN X3 hx hby D25_30 rfl ?_
  refine o_iloadN X3 hx hby D25_31 rfl ?_
  obtain ⟨_, _, ⟨T4, L4, k4, n4⟩, -, X4, ⟨Lc4, hQ4, l4, y4, z4⟩, st4⟩ := Jvm.LawKit.callS X3 hx (y := (⟨"java/lang/StringUTF16", "indexOfChar", "([BIII)I"⟩ : MethodName)) hown (mvT hZ (own_wd hw (i := 112) rfl)) (mvT hZ (own_wd hw (i := 113) rfl)) (mvT hZ (own_wd hw (i := 72) rfl)) (mvT hZ (own_wd hw (i := 114) rfl)) (by decide) (backOf (W := 0) (rs_uc2 l Z a0 hw [] vb ch kb c0 c1 cs vf h0 n0 Z0 hST0 O0 Vb hc0 hc1) hZ (own_wd hw (i := 114) rfl) (own_wd hw (i := 72) rfl) (by decide) (by decide)) (g := (mkF m 32 #[.val (.ref vb), .val (.int ch), .val (.int (0 : Int32)), .val (.int (2 : Int32))] [(.int (2 : Int32)), (.int (0 : Int32)), (.int ch), (.ref vb)])) rfl (by rw [hml]; rfl) (argsL := [(.ref vb), (.int ch), (.int (0 : Int32)), (.int (2 : Int32))]) (rest := []) (lenOf pd__40_91BIII_41I rfl) rfl (by show 2 * 0 + _ ≤ _; exact Nat.le_of_eq rfl) (hb hby D25_32.1) (fun _ _ => ⟨rfl, e3, (by decide : 0 + 0 ≤ _), (by decide : 0 + 0 ≤ _)⟩)
  dsimp only [Pt.U, Pt.locs, Pt.cells, Pt.slots] at X4 l4 y4 z4 st4 hQ4
  subst l4 y4 z4
  obtain ⟨rfl, N4q, e4⟩ := hQ4
  have N4 := Fr.app N3 N4q
  refine own_pre (A' := T4.setTop (mkF m 35 #[.val (.ref vb), .val (.int ch), .val (.int (0 : Int32)), .val (.int (2 : Int32))] [(.int (own_ix2 ch c0 c1))])) st4 ?_
  exact own_ret (v := some (.int (own_ix2 ch c0 c1))) X4 (fun h => by first | rfl | (rw [Bd.returns] at h; cases h)) (BodyLoose.notSynchronized Bd) (by decide) (by decide) (⟨rfl, N4, e4⟩) (fun fs hr => retI X4 hx Bd.returns (hb hby D25_35.1) hr)
theorem ef_rs_ul3 (m : MethodId) (vb : Addr) : entryFrame m #[(.ref vb)] 1 = mkF m 0 #[.val (.ref vb)] [] := by first | (simp [entryFrame, mkF, argsToLocals, Value.category]; done) | rfl
set_option maxRecDepth 65536 in
set_option maxHeartbeats 40000000 in
theorem rs_ul3 (l : Launch) (Z : State) (a0 : Array Value) (hw : ∀ d ∈ tables_1, d.before a0 Z = true) (ws : List Jvm.Cond) (vb : Addr) (kb : ClassId) (xs : List Value) (h0 : Heap) (n0 : Nat) (Z0 : n0 ≤ h0.size) (Vb : Arv Z h0 vb kb .byte (6 : Int32) xs (.int (0 : Int32))) :
    MetFree l (⟨"java/lang/StringUTF16", "length", "([B)I"⟩ : MethodName) (head1 (Jvm.Cond.code (⟨"java/lang/StringUTF16", "length", "([B)I"⟩ : MethodName) jdk_52_method_6_code 1 (some .int) :: ws) ({ frames := 0, cells := 0, slots := 0, locals := 0 } : Room)) (fun a U => a = #[(.ref vb)] ∧ Z.Warmed39 U.vm ∧ U.heap = h0) (fun _ _ _ _ _ => True) (fun _ U o U' => ∃ v L, o = .returned v ∧ own_QP (.int (3 : Int32)) h0 n0 v U'.heap L ∧ FrameEnd U o U' L ({ frames := 0, cells := 0, slots := 0, locals := 0 } : Room).cells ({ frames := 0, cells := 0, slots := 0, locals := 0 } : Room).slots) := by
  refine MetFree.of_bodySF (plainFor_of_name pn_java_lang_StringUTF16) hisR ?_
  intro p e s m args below meth c s₁ Bd hml0 hP hK
  obtain ⟨rfl, hZ, hh⟩ := hP
  have hx := Bd.exec
  have hby := Bd.bytes
  have hml : c.maxLocals = 1 := hml0
  have hown : s.vm.findClass "java/lang/StringUTF16" = some m.cls := findClass_of_methodNamed Bd.named
  have hnm := (name_of_methodNamed Bd.named Bd.method).1
  have X0 : Stand p l e ({ frames := 0, cells := 0, slots := 0, locals := 0 } : Room) s m #[(.ref vb)] below meth c s₁ [] 0 0 := Stand.of_body Bd
  have e0 : s₁.heap = h0 := by rw [← hh, Bd.state]; rfl
  have N0 := Fr.nil n0
  refine own_start (ef_rs_ul3 m vb) ?_
  refine o_aloadN X0 hx hby D28_0 rfl rfl ?_
  obtain ⟨cl_vb_1, Ar_vb_1, q_vb_1, S_vb_1, N_vb_1, H_vb_1, G_vb_1⟩ := id Vb
  refine own_pre (A' := s₁.setTop (mkF m 2 #[.val (.ref vb)] [(.int (6 : Int32))])) (fun t k => X0.arraylength hx (by rw [e0]; exact Ar_vb_1.1) (State.isArrayOf_alike hZ.alike Ar_vb_1.2.1) (g := (mkF m 1 #[.val (.ref vb)] [(.ref vb)])) rfl rfl (hb hby D28_1.1) _ (by rw [len_of S_vb_1 N_vb_1]; exact k)) ?_
  refine o_iconst X0 hx hby D28_2 (v := 1) rfl ?_
  refine o_ishr X0 hx hby D28_3 ?_
  rw [(by decide : ((6 : Int32) >>> ((1 : Int32) &&& 31)) = (3 : Int32))]
  exact own_ret (v := some (.int (3 : Int32))) X0 (fun h => by first | rfl | (rw [Bd.returns] at h; cases h)) (BodyLoose.notSynchronized Bd) (by decide) (by decide) (⟨rfl, N0, e0⟩) (fun fs hr => retI X0 hx Bd.returns (hb hby D28_4.1) hr)
theorem ef_rs_cb3 (m : MethodId)  : entryFrame m #[(.int (0 : Int32)), (.int (3 : Int32)), (.int (3 : Int32))] 3 = mkF m 0 #[.val (.int (0 : Int32)), .val (.int (3 : Int32)), .val (.int (3 : Int32))] [] := by first | (simp [entryFrame, mkF, argsToLocals, Value.category]; done) | rfl
set_option maxRecDepth 65536 in
set_option maxHeartbeats 40000000 in
theorem rs_cb3 (l : Launch) (Z : State) (a0 : Array Value) (hw : ∀ d ∈ tables_1, d.before a0 Z = true) (ws : List Jvm.Cond)  (cs : Int32) (vf : Value) (h0 : Heap) (n0 : Nat) (Z0 : n0 ≤ h0.size) (hST : own_ST Z cs vf) (O0 : Old Z n0 h0) :
    MetFree l (⟨"java/lang/String", "checkBoundsBeginEnd", "(III)V"⟩ : MethodName) (head1 (Jvm.Cond.code (⟨"java/lang/String", "checkBoundsBeginEnd", "(III)V"⟩ : MethodName) jdk_42_method_158_code 3 none :: ws) ({ frames := 1, cells := 0, slots := 0, locals := 15 } : Room)) (fun a U => a = #[(.int (0 : Int32)), (.int (3 : Int32)), (.int (3 : Int32))] ∧ Z.Warmed39 U.vm ∧ U.heap = h0) (fun _ _ _ _ _ => True) (fun _ U o U' => ∃ v L, o = .returned v ∧ own_QV h0 n0 v U'.heap L ∧ FrameEnd U o U' L ({ frames := 1, cells := 0, slots := 0, locals := 15 } : Room).cells ({ frames := 1, cells := 0, slots := 0, locals := 15 } : Room).slots) := by
  refine MetFree.of_bodySF (plainFor_of_name pn_java_lang_String) hisR ?_
  intro p e s m args below meth c s₁ Bd hml0 hP hK
  obtain ⟨rfl, hZ, hh⟩ := hP
  have hx := Bd.exec
  have hby := Bd.bytes
  have hml : c.maxLocals = 3 := hml0
  have hown : s.vm.findClass "java/lang/String" = some m.cls := findClass_of_methodNamed Bd.named
  have hnm := (name_of_methodNamed Bd.named Bd.method).1
  have X0 : Stand p l e ({ frames := 1, cells := 0, slots := 0, locals := 15 } : Room) s m #[(.int (0 : Int32)), (.int (3 : Int32)), (.int (3 : Int32))] below meth c s₁ [] 0 0 := Stand.of_body Bd
  have e0 : s₁.heap = h0 := by rw [← hh, Bd.state]; rfl
  have N0 := Fr.nil n0
  refine own_start (ef_rs_cb3 m ) ?_
  obtain ⟨S_cs, S_ad, S_hb, S_lb, S_sf, hcs, hvf⟩ := hST
  rcases ref_cases hvf with rfl | ⟨fa, rfl⟩
  · skip
    refine o_iloadN X0 hx hby D29_0 rfl ?_
    refine o_iloadN X0 hx hby D29_1 rfl ?_
    refine o_iloadN X0 hx hby D29_2 rfl ?_
    obtain ⟨T1, X1, e1, st1⟩ := getS2 X0 hx hZ hown (host := "") (Or.inl (own_wd hw (i := 124) rfl)) Via.refl e0 (S_sf.ext O0.2) (g := (mkF m 3 #[.val (.int (0 : Int32)), .val (.int (3 : Int32)), .val (.int (3 : Int32))] [(.int (3 : Int32)), (.int (3 : Int32)), (.int (0 : Int32))])) rfl (hb hby D29_3.1)
    refine own_pre (A' := T1.setTop (mkF m 6 #[.val (.int (0 : Int32)), .val (.int (3 : Int32)), .val (.int (3 : Int32))] [.null, (.int (3 : Int32)), (.int (3 : Int32)), (.int (0 : Int32))])) st1 ?_
    obtain ⟨_, _, ⟨T2, L2, k2, n2⟩, -, X2, ⟨Lc2, hQ2, l2, y2, z2⟩, st2⟩ := Jvm.LawKit.callS X1 hx (y := (⟨"jdk/internal/util/Preconditions", "checkFromToIndex", "(IIILjava/util/function/BiFunction;)I"⟩ : MethodName)) hown (mvT hZ (own_wd hw (i := 126) rfl)) (mvT hZ (own_wd hw (i := 127) rfl)) (mvT hZ (own_wd hw (i := 125) rfl)) (mvT hZ (own_wd hw (i := 128) rfl)) (by decide) (backOf (W := 0) (rs_cfn l Z a0 hw [] (3 : Int32) h0 n0 Z0 (by decide)) hZ (own_wd hw (i := 128) rfl) (own_wd hw (i := 125) rfl) (by decide) (by decide)) (g := (mkF m 6 #[.val (.int (0 : Int32)), .val (.int (3 : Int32)), .val (.int (3 : Int32))] [.null, (.int (3 : Int32)), (.int (3 : Int32)), (.int (0 : Int32))])) rfl (by rw [hml]; rfl) (argsL := [(.int (0 : Int32)), (.int (3 : Int32)), (.int (3 : Int32)), .null]) (rest := []) (lenOf pd__40IIILjava_47util_47function_47BiFunction_59_41I rfl) rfl (by show 2 * 0 + _ ≤ _; exact Nat.le_of_eq rfl) (hb hby D29_6.1) (fun _ _ => ⟨rfl, e1, (by decide : 0 + 0 ≤ _), (by decide : 0 + 0 ≤ _)⟩)
    dsimp only [Pt.U, Pt.locs, Pt.cells, Pt.slots] at X2 l2 y2 z2 st2 hQ2
    subst l2 y2 z2
    obtain ⟨rfl, N2q, e2⟩ := hQ2
    have N2 := Fr.app N0 N2q
    refine own_pre (A' := T2.setTop (mkF m 9 #[.val (.int (0 : Int32)), .val (.int (3 : Int32)), .val (.int (3 : Int32))] [(.int (0 : Int32))])) st2 ?_
    refine o_pop X2 hx hby D29_9 rfl ?_
    exact own_ret (v := none) X2 (fun h => by first | rfl | (rw [Bd.returns] at h; cases h)) (BodyLoose.notSynchronized Bd) (by decide) (by decide) (⟨rfl, N2, e2⟩) (fun fs hr => X2.returnOut hx Bd.returns (hb hby D29_10.1) hr)
  · skip
    refine o_iloadN X0 hx hby D29_0 rfl ?_
    refine o_iloadN X0 hx hby D29_1 rfl ?_
    refine o_iloadN X0 hx hby D29_2 rfl ?_
    obtain ⟨T3, X3, e3, st3⟩ := getS2 X0 hx hZ hown (host := "") (Or.inl (own_wd hw (i := 124) rfl)) Via.refl e0 (S_sf.ext O0.2) (g := (mkF m 3 #[.val (.int (0 : Int32)), .val (.int (3 : Int32)), .val (.int (3 : Int32))] [(.int (3 : Int32)), (.int (3 : Int32)), (.int (0 : Int32))])) rfl (hb hby D29_3.1)
    refine own_pre (A' := T3.setTop (mkF m 6 #[.val (.int (0 : Int32)), .val (.int (3 : Int32)), .val (.int (3 : Int32))] [(.ref fa), (.int (3 : Int32)), (.int (3 : Int32)), (.int (0 : Int32))])) st3 ?_
    obtain ⟨_, _, ⟨T4, L4, k4, n4⟩, -, X4, ⟨Lc4, hQ4, l4, y4, z4⟩, st4⟩ := Jvm.LawKit.callS X3 hx (y := (⟨"jdk/internal/util/Preconditions", "checkFromToIndex", "(IIILjava/util/function/BiFunction;)I"⟩ : MethodName)) hown (mvT hZ (own_wd hw (i := 126) rfl)) (mvT hZ (own_wd hw (i := 127) rfl)) (mvT hZ (own_wd hw (i := 125) rfl)) (mvT hZ (own_wd hw (i := 128) rfl)) (by decide) (backOf (W := 0) (rs_cfr l Z a0 hw [] (3 : Int32) fa h0 n0 Z0 (by decide)) hZ (own_wd hw (i := 128) rfl) (own_wd hw (i := 125) rfl) (by decide) (by decide)) (g := (mkF m 6 #[.val (.int (0 : Int32)), .val (.int (3 : Int32)), .val (.int (3 : Int32))] [(.ref fa), (.int (3 : Int32)), (.int (3 : Int32)), (.int (0 : Int32))])) rfl (by rw [hml]; rfl) (argsL := [(.int (0 : Int32)), (.int (3 : Int32)), (.int (3 : Int32)), (.ref fa)]) (rest := []) (lenOf pd__40IIILjava_47util_47function_47BiFunction_59_41I rfl) rfl (by show 2 * 0 + _ ≤ _; exact Nat.le_of_eq rfl) (hb hby D29_6.1) (fun _ _ => ⟨rfl, e3, (by decide : 0 + 0 ≤ _), (by decide : 0 + 0 ≤ _)⟩)
    dsimp only [Pt.U, Pt.locs, Pt.cells, Pt.slots] at X4 l4 y4 z4 st4 hQ4
    subst l4 y4 z4
    obtain ⟨rfl, N4q, e4⟩ := hQ4
    have N4 := Fr.app N0 N4q
    refine own_pre (A' := T4.setTop (mkF m 9 #[.val (.int (0 : Int32)), .val (.int (3 : Int32)), .val (.int (3 : Int32))] [(.int (0 : Int32))])) st4 ?_
    refine o_pop X4 hx hby D29_9 rfl ?_
    exact own_ret (v := none) X4 (fun h => by first | rfl | (rw [Bd.returns] at h; cases h)) (BodyLoose.notSynchronized Bd) (by decide) (by decide) (⟨rfl, N4, e4⟩) (fun fs hr => X4.returnOut hx Bd.returns (hb hby D29_10.1) hr)
theorem ef_rs_cu3 (m : MethodId) (vb : Addr) : entryFrame m #[(.int (0 : Int32)), (.int (3 : Int32)), (.ref vb)] 3 = mkF m 0 #[.val (.int (0 : Int32)), .val (.int (3 : Int32)), .val (.ref vb)] [] := by first | (simp [entryFrame, mkF, argsToLocals, Value.category]; done) | rfl
set_option maxRecDepth 65536 in
set_option maxHeartbeats 40000000 in
theorem rs_cu3 (l : Launch) (Z : State) (a0 : Array Value) (hw : ∀ d ∈ tables_1, d.before a0 Z = true) (ws : List Jvm.Cond) (vb : Addr) (kb : ClassId) (c0 c1 c2 : Int32) (cs : Int32) (vf : Value) (h0 : Heap) (n0 : Nat) (Z0 : n0 ≤ h0.size) (hST : own_ST Z cs vf) (O0 : Old Z n0 h0) (Vb : Arv Z h0 vb kb .byte (6 : Int32) [(.int (own_lo c0)), (.int (own_hi c0)), (.int (own_lo c1)), (.int (own_hi c1)), (.int (own_lo c2)), (.int (own_hi c2))] (.int (0 : Int32))) :
    MetFree l (⟨"java/lang/StringUTF16", "checkBoundsBeginEnd", "(II[B)V"⟩ : MethodName) (head1 (Jvm.Cond.code (⟨"java/lang/StringUTF16", "checkBoundsBeginEnd", "(II[B)V"⟩ : MethodName) jdk_52_method_93_code 3 none :: ws) ({ frames := 2, cells := 0, slots := 0, locals := 29 } : Room)) (fun a U => a = #[(.int (0 : Int32)), (.int (3 : Int32)), (.ref vb)] ∧ Z.Warmed39 U.vm ∧ U.heap = h0) (fun _ _ _ _ _ => True) (fun _ U o U' => ∃ v L, o = .returned v ∧ own_QV h0 n0 v U'.heap L ∧ FrameEnd U o U' L ({ frames := 2, cells := 0, slots := 0, locals := 29 } : Room).cells ({ frames := 2, cells := 0, slots := 0, locals := 29 } : Room).slots) := by
  refine MetFree.of_bodySF (plainFor_of_name pn_java_lang_StringUTF16) hisR ?_
  intro p e s m args below meth c s₁ Bd hml0 hP hK
  obtain ⟨rfl, hZ, hh⟩ := hP
  have hx := Bd.exec
  have hby := Bd.bytes
  have hml : c.maxLocals = 3 := hml0
  have hown : s.vm.findClass "java/lang/StringUTF16" = some m.cls := findClass_of_methodNamed Bd.named
  have hnm := (name_of_methodNamed Bd.named Bd.method).1
  have X0 : Stand p l e ({ frames := 2, cells := 0, slots := 0, locals := 29 } : Room) s m #[(.int (0 : Int32)), (.int (3 : Int32)), (.ref vb)] below meth c s₁ [] 0 0 := Stand.of_body Bd
  have e0 : s₁.heap = h0 := by rw [← hh, Bd.state]; rfl
  have N0 := Fr.nil n0
  refine own_start (ef_rs_cu3 m vb) ?_
  have hST0 := hST
  obtain ⟨S_cs, S_ad, S_hb, S_lb, S_sf, hcs, hvf⟩ := hST
  refine o_iloadN X0 hx hby D27_0 rfl ?_
  refine o_iloadN X0 hx hby D27_1 rfl ?_
  refine o_aloadN X0 hx hby D27_2 rfl rfl ?_
  obtain ⟨_, _, ⟨T1, L1, k1, n1⟩, -, X1, ⟨Lc1, hQ1, l1, y1, z1⟩, st1⟩ := Jvm.LawKit.callS X0 hx (y := (⟨"java/lang/StringUTF16", "length", "([B)I"⟩ : MethodName)) hown (mvT hZ (own_wd hw (i := 118) rfl)) (mvT hZ (own_wd hw (i := 119) rfl)) (mvT hZ (own_wd hw (i := 72) rfl)) (mvT hZ (own_wd hw (i := 120) rfl)) (by decide) (backOf (W := 2) (rs_ul3 l Z a0 hw [] vb kb [(.int (own_lo c0)), (.int (own_hi c0)), (.int (own_lo c1)), (.int (own_hi c1)), (.int (own_lo c2)), (.int (own_hi c2))] h0 n0 Z0 Vb) hZ (own_wd hw (i := 120) rfl) (own_wd hw (i := 72) rfl) (by decide) (by decide)) (g := (mkF m 3 #[.val (.int (0 : Int32)), .val (.int (3 : Int32)), .val (.ref vb)] [(.ref vb), (.int (3 : Int32)), (.int (0 : Int32))])) rfl (by rw [hml]; rfl) (argsL := [(.ref vb)]) (rest := [(.int (3 : Int32)), (.int (0 : Int32))]) (lenOf pd__40_91B_41I rfl) rfl (by show 2 * 0 + _ ≤ _; exact Nat.le_of_eq rfl) (hb hby D27_3.1) (fun _ _ => ⟨rfl, e0, (by decide : 0 + 0 ≤ _), (by decide : 0 + 0 ≤ _)⟩)
  dsimp only [Pt.U, Pt.locs, Pt.cells, Pt.slots] at X1 l1 y1 z1 st1 hQ1
  subst l1 y1 z1
  obtain ⟨rfl, N1q, e1⟩ := hQ1
  have N1 := Fr.app N0 N1q
  refine own_pre (A' := T1.setTop (mkF m 6 #[.val (.int (0 : Int32)), .val (.int (3 : Int32)), .val (.ref vb)] [(.int (3 : Int32)), (.int (3 : Int32)), (.int (0 : Int32))])) st1 ?_
  obtain ⟨_, _, ⟨T2, L2, k2, n2⟩, -, X2, ⟨Lc2, hQ2, l2, y2, z2⟩, st2⟩ := Jvm.LawKit.callS X1 hx (y := (⟨"java/lang/String", "checkBoundsBeginEnd", "(III)V"⟩ : MethodName)) hown (mvT hZ (own_wd hw (i := 121) rfl)) (mvT hZ (own_wd hw (i := 122) rfl)) (mvT hZ (own_wd hw (i := 7) rfl)) (mvT hZ (own_wd hw (i := 123) rfl)) (by decide) (backOf (W := 0) (rs_cb3 l Z a0 hw [] cs vf h0 n0 Z0 hST0 O0) hZ (own_wd hw (i := 123) rfl) (own_wd hw (i := 7) rfl) (by decide) (by decide)) (g := (mkF m 6 #[.val (.int (0 : Int32)), .val (.int (3 : Int32)), .val (.ref vb)] [(.int (3 : Int32)), (.int (3 : Int32)), (.int (0 : Int32))])) rfl (by rw [hml]; rfl) (argsL := [(.int (0 : Int32)), (.int (3 : Int32)), (.int (3 : Int32))]) (rest := []) (lenOf pd__40III_41V rfl) rfl (by show 2 * 0 + _ ≤ _; exact Nat.le_of_eq rfl) (hb hby D27_6.1) (fun _ _ => ⟨rfl, e1, (by decide : 0 + 0 ≤ _), (by decide : 0 + 0 ≤ _)⟩)
  dsimp only [Pt.U, Pt.locs, Pt.cells, Pt.slots] at X2 l2 y2 z2 st2 hQ2
  subst l2 y2 z2
  obtain ⟨rfl, N2q, e2⟩ := hQ2
  have N2 := Fr.app N1 N2q
  refine own_pre (A' := T2.setTop (mkF m 9 #[.val (.int (0 : Int32)), .val (.int (3 : Int32)), .val (.ref vb)] [])) st2 ?_
  exact own_ret (v := none) X2 (fun h => by first | rfl | (rw [Bd.returns] at h; cases h)) (BodyLoose.notSynchronized Bd) (by decide) (by decide) (⟨rfl, N2, e2⟩) (fun fs hr => X2.returnOut hx Bd.returns (hb hby D27_9.1) hr)
theorem ef_rs_uu3 (m : MethodId) (vb : Addr) (ch : Int32) : entryFrame m #[(.ref vb), (.int ch), (.int (0 : Int32)), (.int (3 : Int32))] 5 = mkF m 0 #[.val (.ref vb), .val (.int ch), .val (.int (0 : Int32)), .val (.int (3 : Int32)), .unset] [] := by first | (simp [entryFrame, mkF, argsToLocals, Value.category]; done) | rfl
set_option maxRecDepth 65536 in
set_option maxHeartbeats 40000000 in
theorem rs_uu3 (l : Launch) (Z : State) (a0 : Array Value) (hw : ∀ d ∈ tables_1, d.before a0 Z = true) (ws : List Jvm.Cond) (vb : Addr) (ch : Int32) (kb : ClassId) (c0 c1 c2 : Int32) (cs : Int32) (vf : Value) (h0 : Heap) (n0 : Nat) (Z0 : n0 ≤ h0.size) (hST : own_ST Z cs vf) (O0 : Old Z n0 h0) (Vb : Arv Z h0 vb kb .byte (6 : Int32) [(.int (own_lo c0)), (.int (own_hi c0)), (.int (own_lo c1)), (.int (own_hi c1)), (.int (own_lo c2)), (.int (own_hi c2))] (.int (0 : Int32))) (hc0 : own_ch16 c0) (hc1 : own_ch16 c1) (hc2 : own_ch16 c2) :
    MetFree l (⟨"java/lang/StringUTF16", "indexOfCharUnsafe", "([BIII)I"⟩ : MethodName) (head1 (Jvm.Cond.code (⟨"java/lang/StringUTF16", "indexOfCharUnsafe", "([BIII)I"⟩ : MethodName) jdk_52_method_48_code 5 (some .int) :: ws) ({ frames := 1, cells := 0, slots := 0, locals := 13 } : Room)) (fun a U => a = #[(.ref vb), (.int ch), (.int (0 : Int32)), (.int (3 : Int32))] ∧ Z.Warmed39 U.vm ∧ U.heap = h0) (fun _ _ _ _ _ => True) (fun _ U o U' => ∃ v L, o = .returned v ∧ own_QP (.int (own_ix3 ch c0 c1 c2)) h0 n0 v U'.heap L ∧ FrameEnd U o U' L ({ frames := 1, cells := 0, slots := 0, locals := 13 } : Room).cells ({ frames := 1, cells := 0, slots := 0, locals := 13 } : Room).slots) := by
  refine MetFree.of_bodySF (plainFor_of_name pn_java_lang_StringUTF16) hisR ?_
  intro p e s m args below meth c s₁ Bd hml0 hP hK
  obtain ⟨rfl, hZ, hh⟩ := hP
  have hx := Bd.exec
  have hby := Bd.bytes
  have hml : c.maxLocals = 5 := hml0
  have hown : s.vm.findClass "java/lang/StringUTF16" = some m.cls := findClass_of_methodNamed Bd.named
  have hnm := (name_of_methodNamed Bd.named Bd.method).1
  have X0 : Stand p l e ({ frames := 1, cells := 0, slots := 0, locals := 13 } : Room) s m #[(.ref vb), (.int ch), (.int (0 : Int32)), (.int (3 : Int32))] below meth c s₁ [] 0 0 := Stand.of_body Bd
  have e0 : s₁.heap = h0 := by rw [← hh, Bd.state]; rfl
  have N0 := Fr.nil n0
  refine own_start (ef_rs_uu3 m vb ch) ?_
  have hST0 := hST
  obtain ⟨S_cs, S_ad, S_hb, S_lb, S_sf, hcs, hvf⟩ := hST
  refine o_iloadN X0 hx hby D31_0 rfl ?_
  refine o_istore X0 hx hby D31_1 (l' := #[.val (.ref vb), .val (.int ch), .val (.int (0 : Int32)), .val (.int (3 : Int32)), .val (.int (0 : Int32))]) rfl ?_
  refine o_iload X0 hx hby D31_3 rfl ?_
  refine o_iloadN X0 hx hby D31_5 rfl ?_
  refine o_icmpN X0 hx hby D31_6 (tlt (by decide : (0 : Int32) < (3 : Int32))).2.1 ?_
  refine o_aloadN X0 hx hby D31_9 rfl rfl ?_
  refine o_iload X0 hx hby D31_10 rfl ?_
  obtain ⟨_, _, ⟨T1, L1, k1, n1⟩, -, X1, ⟨Lc1, hQ1, l1, y1, z1⟩, st1⟩ := Jvm.LawKit.callS X0 hx (y := (⟨"java/lang/StringUTF16", "getChar", "([BI)C"⟩ : MethodName)) hown (mvT hZ (own_wd hw (i := 103) rfl)) (mvT hZ (own_wd hw (i := 104) rfl)) (mvT hZ (own_wd hw (i := 72) rfl)) (mvT hZ (own_wd hw (i := 105) rfl)) (by decide) (backOf (W := 0) (rs_gc30 l Z a0 hw [] vb kb c0 c1 c2 cs vf h0 n0 Z0 hST0 O0 Vb hc0) hZ (own_wd hw (i := 105) rfl) (own_wd hw (i := 72) rfl) (by decide) (by decide)) (g := (mkF m 12 #[.val (.ref vb), .val (.int ch), .val (.int (0 : Int32)), .val (.int (3 : Int32)), .val (.int (0 : Int32))] [(.int (0 : Int32)), (.ref vb)])) rfl (by rw [hml]; rfl) (argsL := [(.ref vb), (.int (0 : Int32))]) (rest := []) (lenOf pd__40_91BI_41C rfl) rfl (by show 2 * 0 + _ ≤ _; exact Nat.le_of_eq rfl) (hb hby D31_12.1) (fun _ _ => ⟨rfl, e0, (by decide : 0 + 0 ≤ _), (by decide : 0 + 0 ≤ _)⟩)
  dsimp only [Pt.U, Pt.locs, Pt.cells, Pt.slots] at X1 l1 y1 z1 st1 hQ1
  subst l1 y1 z1
  obtain ⟨rfl, N1q, e1⟩ := hQ1
  have N1 := Fr.app N0 N1q
  refine own_pre (A' := T1.setTop (mkF m 15 #[.val (.ref vb), .val (.int ch), .val (.int (0 : Int32)), .val (.int (3 : Int32)), .val (.int (0 : Int32))] [(.int c0)])) st1 ?_
  refine o_iloadN X1 hx hby D31_15 rfl ?_
  by_cases hc16_2 : c0 = ch
  · skip
    refine o_icmpN X1 hx hby D31_16 (teq hc16_2).2 ?_
    refine o_iload X1 hx hby D31_19 rfl ?_
    exact own_ret (v := some (.int (0 : Int32))) X1 (fun h => by first | rfl | (rw [Bd.returns] at h; cases h)) (BodyLoose.notSynchronized Bd) (by decide) (by decide) (⟨by rw [own_ix3, if_pos hc16_2], N1, e1⟩) (fun fs hr => retI X1 hx Bd.returns (hb hby D31_21.1) hr)
  · skip
    refine o_icmpY X1 hx hby D31_16 (feq hc16_2).2 (q := 22) (by decide) (by decide) ?_
    refine o_iinc X1 hx hby D31_22 rfl (l' := #[.val (.ref vb), .val (.int ch), .val (.int (0 : Int32)), .val (.int (3 : Int32)), .val (.int ((0 : Int32) + (1 : Int32)))]) rfl ?_
    rw [(by decide : ((0 : Int32) + (1 : Int32)) = (1 : Int32))]
    refine o_goto X1 hx hby D31_25 (q := 3) (by decide) (by decide) ?_
    refine o_iload X1 hx hby D31_3 rfl ?_
    refine o_iloadN X1 hx hby D31_5 rfl ?_
    refine o_icmpN X1 hx hby D31_6 (tlt (by decide : (1 : Int32) < (3 : Int32))).2.1 ?_
    refine o_aloadN X1 hx hby D31_9 rfl rfl ?_
    refine o_iload X1 hx hby D31_10 rfl ?_
    obtain ⟨_, _, ⟨T3, L3, k3, n3⟩, -, X3, ⟨Lc3, hQ3, l3, y3, z3⟩, st3⟩ := Jvm.LawKit.callS X1 hx (y := (⟨"java/lang/StringUTF16", "getChar", "([BI)C"⟩ : MethodName)) hown (mvT hZ (own_wd hw (i := 103) rfl)) (mvT hZ (own_wd hw (i := 104) rfl)) (mvT hZ (own_wd hw (i := 72) rfl)) (mvT hZ (own_wd hw (i := 105) rfl)) (by decide) (backOf (W := 0) (rs_gc31 l Z a0 hw [] vb kb c0 c1 c2 cs vf h0 n0 Z0 hST0 O0 Vb hc1) hZ (own_wd hw (i := 105) rfl) (own_wd hw (i := 72) rfl) (by decide) (by decide)) (g := (mkF m 12 #[.val (.ref vb), .val (.int ch), .val (.int (0 : Int32)), .val (.int (3 : Int32)), .val (.int (1 : Int32))] [(.int (1 : Int32)), (.ref vb)])) rfl (by rw [hml]; rfl) (argsL := [(.ref vb), (.int (1 : Int32))]) (rest := []) (lenOf pd__40_91BI_41C rfl) rfl (by show 2 * 0 + _ ≤ _; exact Nat.le_of_eq rfl) (hb hby D31_12.1) (fun _ _ => ⟨rfl, e1, (by decide : 0 + 0 ≤ _), (by decide : 0 + 0 ≤ _)⟩)
    dsimp only [Pt.U, Pt.locs, Pt.cells, Pt.slots] at X3 l3 y3 z3 st3 hQ3
    subst l3 y3 z3
    obtain ⟨rfl, N3q, e3⟩ := hQ3
    have N3 := Fr.app N1 N3q
    refine own_pre (A' := T3.setTop (mkF m 15 #[.val (.ref vb), .val (.int ch), .val (.int (0 : Int32)), .val (.int (3 : Int32)), .val (.int (1 : Int32))] [(.int c1)])) st3 ?_
    refine o_iloadN X3 hx hby D31_15 rfl ?_
    by_cases hc16_4 : c1 = ch
    · skip
      refine o_icmpN X3 hx hby D31_16 (teq hc16_4).2 ?_
      refine o_iload X3 hx hby D31_19 rfl ?_
      exact own_ret (v := some (.int (1 : Int32))) X3 (fun h => by first | rfl | (rw [Bd.returns] at h; cases h)) (BodyLoose.notSynchronized Bd) (by decide) (by decide) (⟨by rw [own_ix3, if_neg hc16_2, if_pos hc16_4], N3, e3⟩) (fun fs hr => retI X3 hx Bd.returns (hb hby D31_21.1) hr)
    · skip
      refine o_icmpY X3 hx hby D31_16 (feq hc16_4).2 (q := 22) (by decide) (by decide) ?_
      refine o_iinc X3 hx hby D31_22 rfl (l' := #[.val (.ref vb), .val (.int ch), .val (.int (0 : Int32)), .val (.int (3 : Int32)), .val (.int ((1 : Int32) + (1 : Int32)))]) rfl ?_
      rw [(by decide : ((1 : Int32) + (1 : Int32)) = (2 : Int32))]
      refine o_goto X3 hx hby D31_25 (q := 3) (by decide) (by decide) ?_
      refine o_iload X3 hx hby D31_3 rfl ?_
      refine o_iloadN X3 hx hby D31_5 rfl ?_
      refine o_icmpN X3 hx hby D31_6 (tlt (by decide : (2 : Int32) < (3 : Int32))).2.1 ?_
      refine o_aloadN X3 hx hby D31_9 rfl rfl ?_
      refine o_iload X3 hx hby D31_10 rfl ?_
      obtain ⟨_, _, ⟨T5, L5, k5, n5⟩, -, X5, ⟨Lc5, hQ5, l5, y5, z5⟩, st5⟩ := Jvm.LawKit.callS X3 hx (y := (⟨"java/lang/StringUTF16", "getChar", "([BI)C"⟩ : MethodName)) hown (mvT hZ (own_wd hw (i := 103) rfl)) (mvT hZ (own_wd hw (i := 104) rfl)) (mvT hZ (own_wd hw (i := 72) rfl)) (mvT hZ (own_wd hw (i := 105) rfl)) (by decide) (backOf (W := 0) (rs_gc32 l Z a0 hw [] vb kb c0 c1 c2 cs vf h0 n0 Z0 hST0 O0 Vb hc2) hZ (own_wd hw (i := 105) rfl) (own_wd hw (i := 72) rfl) (by decide) (by decide)) (g := (mkF m 12 #[.val (.ref vb), .val (.int ch), .val (.int (0 : Int32)), .val (.int (3 : Int32)), .val (.int (2 : Int32))] [(.int (2 : Int32)), (.ref vb)])) rfl (by rw [hml]; rfl) (argsL := [(.ref vb), (.int (2 : Int32))]) (rest := []) (lenOf pd__40_91BI_41C rfl) rfl (by show 2 * 0 + _ ≤ _; exact Nat.le_of_eq rfl) (hb hby D31_12.1) (fun _ _ => ⟨rfl, e3, (by decide : 0 + 0 ≤ _), (by decide : 0 + 0 ≤ _)⟩)
      dsimp only [Pt.U, Pt.locs, Pt.cells, Pt.slots] at X5 l5 y5 z5 st5 hQ5
      subst l5 y5 z5
      obtain ⟨rfl, N5q, e5⟩ := hQ5
      have N5 := Fr.app N3 N5q
      refine own_pre (A' := T5.setTop (mkF m 15 #[.val (.ref vb), .val (.int ch), .val (.int (0 : Int32)), .val (.int (3 : Int32)), .val (.int (2 : Int32))] [(.int c2)])) st5 ?_
      refine o_iloadN X5 hx hby D31_15 rfl ?_
      by_cases hc16_6 : c2 = ch
      · skip
        refine o_icmpN X5 hx hby D31_16 (teq hc16_6).2 ?_
        refine o_iload X5 hx hby D31_19 rfl ?_
        exact own_ret (v := some (.int (2 : Int32))) X5 (fun h => by first | rfl | (rw [Bd.returns] at h; cases h)) (BodyLoose.notSynchronized Bd) (by decide) (by decide) (⟨by rw [own_ix3, if_neg hc16_2, if_neg hc16_4, if_pos hc16_6], N5, e5⟩) (fun fs hr => retI X5 hx Bd.returns (hb hby D31_21.1) hr)
      · skip
        refine o_icmpY X5 hx hby D31_16 (feq hc16_6).2 (q := 22) (by decide) (by decide) ?_
        refine o_iinc X5 hx hby D31_22 rfl (l' := #[.val (.ref vb), .val (.int ch), .val (.int (0 : Int32)), .val (.int (3 : Int32)), .val (.int ((2 : Int32) + (1 : Int32)))]) rfl ?_
        rw [(by decide : ((2 : Int32) + (1 : Int32)) = (3 : Int32))]
        refine o_goto X5 hx hby D31_25 (q := 3) (by decide) (by decide) ?_
        refine o_iload X5 hx hby D31_3 rfl ?_
        refine o_iloadN X5 hx hby D31_5 rfl ?_
        refine o_icmpY X5 hx hby D31_6 (flt (by decide : ¬ ((3 : Int32) < (3 : Int32)))).2.1 (q := 28) (by decide) (by decide) ?_
        refine o_iconst X5 hx hby D31_28 (v := -1) rfl ?_
        exact own_ret (v := some (.int (-1 : Int32))) X5 (fun h => by first | rfl | (rw [Bd.returns] at h; cases h)) (BodyLoose.notSynchronized Bd) (by decide) (by decide) (⟨by rw [own_ix3, if_neg hc16_2, if_neg hc16_4, if_neg hc16_6], N5, e5⟩) (fun fs hr => retI X5 hx Bd.returns (hb hby D31_29.1) hr)
theorem ef_rs_uc3 (m : MethodId) (vb : Addr) (ch : Int32) : entryFrame m #[(.ref vb), (.int ch), (.int (0 : Int32)), (.int (3 : Int32))] 4 = mkF m 0 #[.val (.ref vb), .val (.int ch), .val (.int (0 : Int32)), .val (.int (3 : Int32))] [] := by first | (simp [entryFrame, mkF, argsToLocals, Value.category]; done) | rfl
set_option maxRecDepth 65536 in
set_option maxHeartbeats 40000000 in
theorem rs_uc3 (l : Launch) (Z : State) (a0 : Array Value) (hw : ∀ d ∈ tables_1, d.before a0 Z = true) (ws : List Jvm.Cond) (vb : Addr) (ch : Int32) (kb : ClassId) (c0 c1 c2 : Int32) (cs : Int32) (vf : Value) (h0 : Heap) (n0 : Nat) (Z0 : n0 ≤ h0.size) (hST : own_ST Z cs vf) (O0 : Old Z n0 h0) (Vb : Arv Z h0 vb kb .byte (6 : Int32) [(.int (own_lo c0)), (.int (own_hi c0)), (.int (own_lo c1)), (.int (own_hi c1)), (.int (own_lo c2)), (.int (own_hi c2))] (.int (0 : Int32))) (hc0 : own_ch16 c0) (hc1 : own_ch16 c1) (hc2 : own_ch16 c2) :
    MetFree l (⟨"java/lang/StringUTF16", "indexOfChar", "([BIII)I"⟩ : MethodName) (head1 (Jvm.Cond.code (⟨"java/lang/StringUTF16", "indexOfChar", "([BIII)I"⟩ : MethodName) jdk_52_method_47_code 4 (some .int) :: ws) ({ frames := 3, cells := 0, slots := 0, locals := 43 } : Room)) (fun a U => a = #[(.ref vb), (.int ch), (.int (0 : Int32)), (.int (3 : Int32))] ∧ Z.Warmed39 U.vm ∧ U.heap = h0) (fun _ _ _ _ _ => True) (fun _ U o U' => ∃ v L, o = .returned v ∧ own_QP (.int (own_ix3 ch c0 c1 c2)) h0 n0 v U'.heap L ∧ FrameEnd U o U' L ({ frames := 3, cells := 0, slots := 0, locals := 43 } : Room).cells ({ frames := 3, cells := 0, slots := 0, locals := 43 } : Room).slots) := by
  refine MetFree.of_bodySF (plainFor_of_name pn_java_lang_StringUTF16) hisR ?_
  intro p e s m args below meth c s₁ Bd hml0 hP hK
  obtain ⟨rfl, hZ, hh⟩ := hP
  have hx := Bd.exec
  have hby := Bd.bytes
  have hml : c.maxLocals = 4 := hml0
  have hown : s.vm.findClass "java/lang/StringUTF16" = some m.cls := findClass_of_methodNamed Bd.named
  have hnm := (name_of_methodNamed Bd.named Bd.method).1
  have X0 : Stand p l e ({ frames := 3, cells := 0, slots := 0, locals := 43 } : Room) s m #[(.ref vb), (.int ch), (.int (0 : Int32)), (.int (3 : Int32))] below meth c s₁ [] 0 0 := Stand.of_body Bd
  have e0 : s₁.heap = h0 := by rw [← hh, Bd.state]; rfl
  have N0 := Fr.nil n0
  refine own_start (ef_rs_uc3 m vb ch) ?_
  have hST0 := hST
  obtain ⟨S_cs, S_ad, S_hb, S_lb, S_sf, hcs, hvf⟩ := hST
  refine o_iloadN X0 hx hby D26_0 rfl ?_
  refine o_iloadN X0 hx hby D26_1 rfl ?_
  refine o_aloadN X0 hx hby D26_2 rfl rfl ?_
  obtain ⟨_, _, ⟨T1, L1, k1, n1⟩, -, X1, ⟨Lc1, hQ1, l1, y1, z1⟩, st1⟩ := Jvm.LawKit.callS X0 hx (y := (⟨"java/lang/StringUTF16", "checkBoundsBeginEnd", "(II[B)V"⟩ : MethodName)) hown (mvT hZ (own_wd hw (i := 115) rfl)) (mvT hZ (own_wd hw (i := 116) rfl)) (mvT hZ (own_wd hw (i := 72) rfl)) (mvT hZ (own_wd hw (i := 117) rfl)) (by decide) (backOf (W := 0) (rs_cu3 l Z a0 hw [] vb kb c0 c1 c2 cs vf h0 n0 Z0 hST0 O0 Vb) hZ (own_wd hw (i := 117) rfl) (own_wd hw (i := 72) rfl) (by decide) (by decide)) (g := (mkF m 3 #[.val (.ref vb), .val (.int ch), .val (.int (0 : Int32)), .val (.int (3 : Int32))] [(.ref vb), (.int (3 : Int32)), (.int (0 : Int32))])) rfl (by rw [hml]; rfl) (argsL := [(.int (0 : Int32)), (.int (3 : Int32)), (.ref vb)]) (rest := []) (lenOf pd__40II_91B_41V rfl) rfl (by show 2 * 0 + _ ≤ _; exact Nat.le_of_eq rfl) (hb hby D26_3.1) (fun _ _ => ⟨rfl, e0, (by decide : 0 + 0 ≤ _), (by decide : 0 + 0 ≤ _)⟩)
  dsimp only [Pt.U, Pt.locs, Pt.cells, Pt.slots] at X1 l1 y1 z1 st1 hQ1
  subst l1 y1 z1
  obtain ⟨rfl, N1q, e1⟩ := hQ1
  have N1 := Fr.app N0 N1q
  refine own_pre (A' := T1.setTop (mkF m 6 #[.val (.ref vb), .val (.int ch), .val (.int (0 : Int32)), .val (.int (3 : Int32))] [])) st1 ?_
  refine o_aloadN X1 hx hby D26_6 rfl rfl ?_
  refine o_iloadN X1 hx hby D26_7 rfl ?_
  refine o_iloadN X1 hx hby D26_8 rfl ?_
  refine o_iloadN X1 hx hby D26_9 rfl ?_
  obtain ⟨_, _, ⟨T2, L2, k2, n2⟩, -, X2, ⟨Lc2, hQ2, l2, y2, z2⟩, st2⟩ := Jvm.LawKit.callS X1 hx (y := (⟨"java/lang/StringUTF16", "indexOfCharUnsafe", "([BIII)I"⟩ : MethodName)) hown (mvT hZ (own_wd hw (i := 129) rfl)) (mvT hZ (own_wd hw (i := 130) rfl)) (mvT hZ (own_wd hw (i := 72) rfl)) (mvT hZ (own_wd hw (i := 131) rfl)) (by decide) (backOf (W := 0) (rs_uu3 l Z a0 hw [] vb ch kb c0 c1 c2 cs vf h0 n0 Z0 hST0 O0 Vb hc0 hc1 hc2) hZ (own_wd hw (i := 131) rfl) (own_wd hw (i := 72) rfl) (by decide) (by decide)) (g := (mkF m 10 #[.val (.ref vb), .val (.int ch), .val (.int (0 : Int32)), .val (.int (3 : Int32))] [(.int (3 : Int32)), (.int (0 : Int32)), (.int ch), (.ref vb)])) rfl (by rw [hml]; rfl) (argsL := [(.ref vb), (.int ch), (.int (0 : Int32)), (.int (3 : Int32))]) (rest := []) (lenOf pd__40_91BIII_41I rfl) rfl (by show 2 * 0 + _ ≤ _; exact Nat.le_of_eq rfl) (hb hby D26_10.1) (fun _ _ => ⟨rfl, e1, (by decide : 0 + 0 ≤ _), (by decide : 0 + 0 ≤ _)⟩)
  dsimp only [Pt.U, Pt.locs, Pt.cells, Pt.slots] at X2 l2 y2 z2 st2 hQ2
  subst l2 y2 z2
  obtain ⟨rfl, N2q, e2⟩ := hQ2
  have N2 := Fr.app N1 N2q
  refine own_pre (A' := T2.setTop (mkF m 13 #[.val (.ref vb), .val (.int ch), .val (.int (0 : Int32)), .val (.int (3 : Int32))] [(.int (own_ix3 ch c0 c1 c2))])) st2 ?_
  exact own_ret (v := some (.int (own_ix3 ch c0 c1 c2))) X2 (fun h => by first | rfl | (rw [Bd.returns] at h; cases h)) (BodyLoose.notSynchronized Bd) (by decide) (by decide) (⟨rfl, N2, e2⟩) (fun fs hr => retI X2 hx Bd.returns (hb hby D26_13.1) hr)
theorem ef_rs_ui3 (m : MethodId) (vb : Addr) (ch : Int32) : entryFrame m #[(.ref vb), (.int ch), (.int (0 : Int32)), (.int (3 : Int32))] 4 = mkF m 0 #[.val (.ref vb), .val (.int ch), .val (.int (0 : Int32)), .val (.int (3 : Int32))] [] := by first | (simp [entryFrame, mkF, argsToLocals, Value.category]; done) | rfl
set_option maxRecDepth 65536 in
set_option maxHeartbeats 40000000 in
theorem rs_ui3 (l : Launch) (Z : State) (a0 : Array Value) (hw : ∀ d ∈ tables_1, d.before a0 Z = true) (ws : List Jvm.Cond) (vb : Addr) (ch : Int32) (kb : ClassId) (c0 c1 c2 : Int32) (cs : Int32) (vf : Value) (h0 : Heap) (n0 : Nat) (Z0 : n0 ≤ h0.size) (hST : own_ST Z cs vf) (O0 : Old Z n0 h0) (Vb : Arv Z h0 vb kb .byte (6 : Int32) [(.int (own_lo c0)), (.int (own_hi c0)), (.int (own_lo c1)), (.int (own_hi c1)), (.int (own_lo c2)), (.int (own_hi c2))] (.int (0 : Int32))) (hc0 : own_ch16 c0) (hc1 : own_ch16 c1) (hc2 : own_ch16 c2) (hn : own_nl ch) :
    MetFree l (⟨"java/lang/StringUTF16", "indexOf", "([BIII)I"⟩ : MethodName) (head1 (Jvm.Cond.code (⟨"java/lang/StringUTF16", "indexOf", "([BIII)I"⟩ : MethodName) jdk_52_method_40_code 4 (some .int) :: ws) ({ frames := 4, cells := 0, slots := 0, locals := 58 } : Room)) (fun a U => a = #[(.ref vb), (.int ch), (.int (0 : Int32)), (.int (3 : Int32))] ∧ Z.Warmed39 U.vm ∧ U.heap = h0) (fun _ _ _ _ _ => True) (fun _ U o U' => ∃ v L, o = .returned v ∧ own_QP (.int (own_ix3 ch c0 c1 c2)) h0 n0 v U'.heap L ∧ FrameEnd U o U' L ({ frames := 4, cells := 0, slots := 0, locals := 58 } : Room).cells ({ frames := 4, cells := 0, slots := 0, locals := 58 } : Room).slots) := by
  refine MetFree.of_bodySF (plainFor_of_name pn_java_lang_StringUTF16) hisR ?_
  intro p e s m args below meth c s₁ Bd hml0 hP hK
  obtain ⟨rfl, hZ, hh⟩ := hP
  have hx := Bd.exec
  have hby := Bd.bytes
  have hml : c.maxLocals = 4 := hml0
  have hown : s.vm.findClass "java/lang/StringUTF16" = some m.cls := findClass_of_methodNamed Bd.named
  have hnm := (name_of_methodNamed Bd.named Bd.method).1
  have X0 : Stand p l e ({ frames := 4, cells := 0, slots := 0, locals := 58 } : Room) s m #[(.ref vb), (.int ch), (.int (0 : Int32)), (.int (3 : Int32))] below meth c s₁ [] 0 0 := Stand.of_body Bd
  have e0 : s₁.heap = h0 := by rw [← hh, Bd.state]; rfl
  have N0 := Fr.nil n0
  refine own_start (ef_rs_ui3 m vb ch) ?_
  have hST0 := hST
  obtain ⟨S_cs, S_ad, S_hb, S_lb, S_sf, hcs, hvf⟩ := hST
  refine o_iloadN X0 hx hby D25_0 rfl ?_
  refine o_iconst X0 hx hby D25_1 (v := 0) rfl ?_
  obtain ⟨_, _, ⟨T1, L1, k1, n1⟩, -, X1, ⟨Lc1, hQ1, l1, y1, z1⟩, st1⟩ := Jvm.LawKit.callS X0 hx (y := (⟨"java/lang/Math", "max", "(II)I"⟩ : MethodName)) hown (mvT hZ (own_wd hw (i := 109) rfl)) (mvT hZ (own_wd hw (i := 64) rfl)) (mvT hZ (own_wd hw (i := 65) rfl)) (mvT hZ (own_wd hw (i := 66) rfl)) (by decide) (backOf (W := 0) (rs_max l Z a0 hw [] (0 : Int32) (0 : Int32) (0 : Int32) h0 n0 Z0 (by decide)) hZ (own_wd hw (i := 66) rfl) (own_wd hw (i := 65) rfl) (by decide) (by decide)) (g := (mkF m 2 #[.val (.ref vb), .val (.int ch), .val (.int (0 : Int32)), .val (.int (3 : Int32))] [(.int (0 : Int32)), (.int (0 : Int32))])) rfl (by rw [hml]; rfl) (argsL := [(.int (0 : Int32)), (.int (0 : Int32))]) (rest := []) (lenOf pd__40II_41I rfl) rfl (by show 2 * 0 + _ ≤ _; exact Nat.le_of_eq rfl) (hb hby D25_2.1) (fun _ _ => ⟨rfl, e0, (by decide : 0 + 0 ≤ _), (by decide : 0 + 0 ≤ _)⟩)
  dsimp only [Pt.U, Pt.locs, Pt.cells, Pt.slots] at X1 l1 y1 z1 st1 hQ1
  subst l1 y1 z1
  obtain ⟨rfl, N1q, e1⟩ := hQ1
  have N1 := Fr.app N0 N1q
  refine own_pre (A' := T1.setTop (mkF m 5 #[.val (.ref vb), .val (.int ch), .val (.int (0 : Int32)), .val (.int (3 : Int32))] [(.int (0 : Int32))])) st1 ?_
  refine o_istoreN X1 hx hby D25_5 (l' := #[.val (.ref vb), .val (.int ch), .val (.int (0 : Int32)), .val (.int (3 : Int32))]) rfl ?_
  refine o_iloadN X1 hx hby D25_6 rfl ?_
  refine o_aloadN X1 hx hby D25_7 rfl rfl ?_
  obtain ⟨cl_vb_2, Ar_vb_2, q_vb_2, S_vb_2, N_vb_2, H_vb_2, G_vb_2⟩ := id Vb
  refine own_pre (A' := T1.setTop (mkF m 9 #[.val (.ref vb), .val (.int ch), .val (.int (0 : Int32)), .val (.int (3 : Int32))] [(.int (6 : Int32)), (.int (3 : Int32))])) (fun t k => X1.arraylength hx (by rw [e1]; exact Ar_vb_2.1) (State.isArrayOf_alike hZ.alike Ar_vb_2.2.1) (g := (mkF m 8 #[.val (.ref vb), .val (.int ch), .val (.int (0 : Int32)), .val (.int (3 : Int32))] [(.ref vb), (.int (3 : Int32))])) rfl rfl (hb hby D25_8.1) _ (by rw [len_of S_vb_2 N_vb_2]; exact k)) ?_
  refine o_iconst X1 hx hby D25_9 (v := 1) rfl ?_
  refine o_ishr X1 hx hby D25_10 ?_
  rw [(by decide : ((6 : Int32) >>> ((1 : Int32) &&& 31)) = (3 : Int32))]
  obtain ⟨_, _, ⟨T3, L3, k3, n3⟩, -, X3, ⟨Lc3, hQ3, l3, y3, z3⟩, st3⟩ := Jvm.LawKit.callS X1 hx (y := (⟨"java/lang/Math", "min", "(II)I"⟩ : MethodName)) hown (mvT hZ (own_wd hw (i := 110) rfl)) (mvT hZ (own_wd hw (i := 68) rfl)) (mvT hZ (own_wd hw (i := 65) rfl)) (mvT hZ (own_wd hw (i := 69) rfl)) (by decide) (backOf (W := 0) (rs_min l Z a0 hw [] (3 : Int32) (3 : Int32) (3 : Int32) h0 n0 Z0 (by decide)) hZ (own_wd hw (i := 69) rfl) (own_wd hw (i := 65) rfl) (by decide) (by decide)) (g := (mkF m 11 #[.val (.ref vb), .val (.int ch), .val (.int (0 : Int32)), .val (.int (3 : Int32))] [(.int (3 : Int32)), (.int (3 : Int32))])) rfl (by rw [hml]; rfl) (argsL := [(.int (3 : Int32)), (.int (3 : Int32))]) (rest := []) (lenOf pd__40II_41I rfl) rfl (by show 2 * 0 + _ ≤ _; exact Nat.le_of_eq rfl) (hb hby D25_11.1) (fun _ _ => ⟨rfl, e1, (by decide : 0 + 0 ≤ _), (by decide : 0 + 0 ≤ _)⟩)
  dsimp only [Pt.U, Pt.locs, Pt.cells, Pt.slots] at X3 l3 y3 z3 st3 hQ3
  subst l3 y3 z3
  obtain ⟨rfl, N3q, e3⟩ := hQ3
  have N3 := Fr.app N1 N3q
  refine own_pre (A' := T3.setTop (mkF m 14 #[.val (.ref vb), .val (.int ch), .val (.int (0 : Int32)), .val (.int (3 : Int32))] [(.int (3 : Int32))])) st3 ?_
  refine o_istoreN X3 hx hby D25_14 (l' := #[.val (.ref vb), .val (.int ch), .val (.int (0 : Int32)), .val (.int (3 : Int32))]) rfl ?_
  refine o_iloadN X3 hx hby D25_15 rfl ?_
  refine o_iloadN X3 hx hby D25_16 rfl ?_
  refine o_icmpY X3 hx hby D25_17 (tlt (by decide : (0 : Int32) < (3 : Int32))).1 (q := 22) (by decide) (by decide) ?_
  refine o_iloadN X3 hx hby D25_22 rfl ?_
  refine o_ldc X3 hx hby hown (mvT hZ (own_wd hw (i := 111) rfl)) D25_23 ?_
  refine o_icmpN X3 hx hby D25_25 (tlt (own_nl2 hn : ch < (65536 : Int32))).2.1 ?_
  refine o_aloadN X3 hx hby D25_28 rfl rfl ?_
  refine o_iloadN X3 hx hby D25_29 rfl ?_
  refine o_iloadN X3 hx hby D25_30 rfl ?_
  refine o_iloadN X3 hx hby D25_31 rfl ?_
  obtain ⟨_, _, ⟨T4, L4, k4, n4⟩, -, X4, ⟨Lc4, hQ4, l4, y4, z4⟩, st4⟩ := Jvm.LawKit.callS X3 hx (y := (⟨"java/lang/StringUTF16", "indexOfChar", "([BIII)I"⟩ : MethodName)) hown (mvT hZ (own_wd hw (i := 112) rfl)) (mvT hZ (own_wd hw (i := 113) rfl)) (mvT hZ (own_wd hw (i := 72) rfl)) (mvT hZ (own_wd hw (i := 114) rfl)) (by decide) (backOf (W := 0) (rs_uc3 l Z a0 hw [] vb ch kb c0 c1 c2 cs vf h0 n0 Z0 hST0 O0 Vb hc0 hc1 hc2) hZ (own_wd hw (i := 114) rfl) (own_wd hw (i := 72) rfl) (by decide) (by decide)) (g := (mkF m 32 #[.val (.ref vb), .val (.int ch), .val (.int (0 : Int32)), .val (.int (3 : Int32))] [(.int (3 : Int32)), (.int (0 : Int32)), (.int ch), (.ref vb)])) rfl (by rw [hml]; rfl) (argsL := [(.ref vb), (.int ch), (.int (0 : Int32)), (.int (3 : Int32))]) (rest := []) (lenOf pd__40_91BIII_41I rfl) rfl (by show 2 * 0 + _ ≤ _; exact Nat.le_of_eq rfl) (hb hby D25_32.1) (fun _ _ => ⟨rfl, e3, (by decide : 0 + 0 ≤ _), (by decide : 0 + 0 ≤ _)⟩)
  dsimp only [Pt.U, Pt.locs, Pt.cells, Pt.slots] at X4 l4 y4 z4 st4 hQ4
  subst l4 y4 z4
  obtain ⟨rfl, N4q, e4⟩ := hQ4
  have N4 := Fr.app N3 N4q
  refine own_pre (A' := T4.setTop (mkF m 35 #[.val (.ref vb), .val (.int ch), .val (.int (0 : Int32)), .val (.int (3 : Int32))] [(.int (own_ix3 ch c0 c1 c2))])) st4 ?_
  exact own_ret (v := some (.int (own_ix3 ch c0 c1 c2))) X4 (fun h => by first | rfl | (rw [Bd.returns] at h; cases h)) (BodyLoose.notSynchronized Bd) (by decide) (by decide) (⟨rfl, N4, e4⟩) (fun fs hr => retI X4 hx Bd.returns (hb hby D25_35.1) hr)
def own_Str0 (Z : State) (h : Heap) (st vb : Addr) (kb : ClassId) : Prop := Exa Z h st "java/lang/String" ∧ Fld Z h st "java/lang/String" "value" "[B" (.ref vb) ∧ Fld Z h st "java/lang/String" "coder" "B" (.int 0) ∧ Arv Z h vb kb .byte (0 : Int32) [] (.int (0 : Int32))
theorem pd__40_41Z : parseMethodDescriptor "()Z" = some ⟨[], some .boolean⟩ := by decide +kernel
theorem pd__40_41I : parseMethodDescriptor "()I" = some ⟨[], some .int⟩ := by decide +kernel
theorem D7_0 : own_at jdk_42_method_80_code 0 (.aload_n 0) 1 1 := ⟨by decide +kernel, rfl⟩
theorem D7_1 : own_at jdk_42_method_80_code 1 (.invokevirtual 492) 3 4 := ⟨by decide +kernel, rfl⟩
theorem D7_4 : own_at jdk_42_method_80_code 4 (.ifCond .eq 19) 3 7 := ⟨by decide +kernel, rfl⟩
theorem D7_7 : own_at jdk_42_method_80_code 7 (.aload_n 0) 1 8 := ⟨by decide +kernel, rfl⟩
theorem D7_8 : own_at jdk_42_method_80_code 8 (.getfield 9) 3 11 := ⟨by decide +kernel, rfl⟩
theorem D7_11 : own_at jdk_42_method_80_code 11 (.iload_n 1) 1 12 := ⟨by decide +kernel, rfl⟩
theorem D7_12 : own_at jdk_42_method_80_code 12 (.iload_n 2) 1 13 := ⟨by decide +kernel, rfl⟩
theorem D7_13 : own_at jdk_42_method_80_code 13 (.aload_n 0) 1 14 := ⟨by decide +kernel, rfl⟩
theorem D7_14 : own_at jdk_42_method_80_code 14 (.invokevirtual 505) 3 17 := ⟨by decide +kernel, rfl⟩
theorem D7_17 : own_at jdk_42_method_80_code 17 (.invokestatic 637) 3 20 := ⟨by decide +kernel, rfl⟩
theorem D7_20 : own_at jdk_42_method_80_code 20 (.goto 16) 3 23 := ⟨by decide +kernel, rfl⟩
theorem D7_36 : own_at jdk_42_method_80_code 36 (.ireturn) 1 37 := ⟨by decide +kernel, rfl⟩
theorem ef_rs_x20 (m : MethodId) (st : Addr) (ch : Int32) : entryFrame m #[(.ref st), (.int ch), (.int (0 : Int32))] 3 = mkF m 0 #[.val (.ref st), .val (.int ch), .val (.int (0 : Int32))] [] := by first | (simp [entryFrame, mkF, argsToLocals, Value.category]; done) | rfl
set_option maxRecDepth 65536 in
set_option maxHeartbeats 40000000 in
theorem rs_x20 (l : Launch) (Z : State) (a0 : Array Value) (hw : ∀ d ∈ tables_1, d.before a0 Z = true) (ws : List Jvm.Cond) (st : Addr) (ch : Int32) (vb : Addr) (kb : ClassId)  (cs : Int32) (vf : Value) (h0 : Heap) (n0 : Nat) (Z0 : n0 ≤ h0.size) (hST : own_ST Z cs vf) (O0 : Old Z n0 h0) (hS : own_Str0 Z h0 st vb kb )  (hn : own_nl ch) :
    MetFree l (⟨"java/lang/String", "indexOf", "(II)I"⟩ : MethodName) (head1 (Jvm.Cond.code (⟨"java/lang/String", "indexOf", "(II)I"⟩ : MethodName) jdk_42_method_80_code 3 (some .int) :: ws) ({ frames := 2, cells := 0, slots := 0, locals := 28 } : Room)) (fun a U => a = #[(.ref st), (.int ch), (.int (0 : Int32))] ∧ Z.Warmed39 U.vm ∧ U.heap = h0) (fun _ _ _ _ _ => True) (fun _ U o U' => ∃ v L, o = .returned v ∧ own_QP (.int (own_ix0 ch)) h0 n0 v U'.heap L ∧ FrameEnd U o U' L ({ frames := 2, cells := 0, slots := 0, locals := 28 } : Room).cells ({ frames := 2, cells := 0, slots := 0, locals := 28 } : Room).slots) := by
  refine MetFree.of_bodySF (plainFor_of_name pn_java_lang_String) hisR ?_
  intro p e s m args below meth c s₁ Bd hml0 hP hK
  obtain ⟨rfl, hZ, hh⟩ := hP
  have hx := Bd.exec
  have hby := Bd.bytes
  have hml : c.maxLocals = 3 := hml0
  have hown : s.vm.findClass "java/lang/String" = some m.cls := findClass_of_methodNamed Bd.named
  have hnm := (name_of_methodNamed Bd.named Bd.method).1
  have X0 : Stand p l e ({ frames := 2, cells := 0, slots := 0, locals := 28 } : Room) s m #[(.ref st), (.int ch), (.int (0 : Int32))] below meth c s₁ [] 0 0 := Stand.of_body Bd
  have e0 : s₁.heap = h0 := by rw [← hh, Bd.state]; rfl
  have N0 := Fr.nil n0
  refine own_start (ef_rs_x20 m st ch) ?_
  have hST0 := hST
  obtain ⟨S_cs, S_ad, S_hb, S_lb, S_sf, hcs, hvf⟩ := hST
  obtain ⟨E_st, F_v, F_c, Vb⟩ := hS
  refine o_aloadN X0 hx hby D7_0 rfl rfl ?_
  obtain ⟨cq1, kq1, q1a, q1b, q1c⟩ := isOf hZ e0 E_st
  obtain ⟨_, _, ⟨T1, L1, k1, n1⟩, -, X1, ⟨Lc1, hQ1, l1, y1, z1⟩, st1⟩ := X0.virtualBack hx (y := (⟨"java/lang/String", "isLatin1", "()Z"⟩ : MethodName)) (z := (⟨"java/lang/String", "isLatin1", "()Z"⟩ : MethodName)) hown (mvT hZ (own_wd hw (i := 40) rfl)) (mvT hZ (own_wd hw (i := 41) rfl)) (notFace_of_selects (args := #[]) (mvT hZ (own_wd hw (i := 43) rfl))) (mvT hZ (own_wd hw (i := 43) rfl)) (mvT hZ (own_wd hw (i := 42) rfl)) (by decide) (backOf (W := 0) (rs_il0 l Z a0 hw [] st cs vf h0 n0 Z0 hST0 O0 F_c) hZ (own_wd hw (i := 44) rfl) (own_wd hw (i := 7) rfl) (by decide) (by decide)) q1a q1c (g := (mkF m 1 #[.val (.ref st), .val (.int ch), .val (.int (0 : Int32))] [(.ref st)])) rfl (by rw [hml]; rfl) (Steps.refl _) (argsL := []) (rest := []) (lenOf pd__40_41Z rfl) rfl (by show 2 * 0 + _ ≤ _; exact Nat.le_of_eq rfl) (hb hby D7_1.1) (fun _ _ => ⟨rfl, e0, (by decide : 0 + 0 ≤ _), (by decide : 0 + 0 ≤ _)⟩)
  dsimp only [Pt.U, Pt.locs, Pt.cells, Pt.slots] at X1 l1 y1 z1 st1 hQ1
  subst l1 y1 z1
  obtain ⟨rfl, N1q, e1⟩ := hQ1
  have N1 := Fr.app N0 N1q
  refine own_pre (A' := T1.setTop (mkF m 4 #[.val (.ref st), .val (.int ch), .val (.int (0 : Int32))] [(.int (1 : Int32))])) (fun t k => st1.trans k) ?_
  refine o_ifN X1 hx hby D7_4 ((if0 _ _).trans (feq (by decide : ¬ ((1 : Int32) = (0 : Int32)))).1) ?_
  refine o_aloadN X1 hx hby D7_7 rfl rfl ?_
  obtain ⟨T2, X2, e2, st2⟩ := getF X1 hx hZ hown (host := "") (Or.inl (own_wd hw (i := 24) rfl)) Via.refl e1 F_v (g := (mkF m 8 #[.val (.ref st), .val (.int ch), .val (.int (0 : Int32))] [(.ref st)])) rfl rfl (hb hby D7_8.1)
  refine own_pre (A' := T2.setTop (mkF m 11 #[.val (.ref st), .val (.int ch), .val (.int (0 : Int32))] [(.ref vb)])) st2 ?_
  refine o_iloadN X2 hx hby D7_11 rfl ?_
  refine o_iloadN X2 hx hby D7_12 rfl ?_
  refine o_aloadN X2 hx hby D7_13 rfl rfl ?_
  obtain ⟨cq3, kq3, q3a, q3b, q3c⟩ := isOf hZ e2 E_st
  obtain ⟨_, _, ⟨T3, L3, k3, n3⟩, -, X3, ⟨Lc3, hQ3, l3, y3, z3⟩, st3⟩ := X2.virtualBack hx (y := (⟨"java/lang/String", "length", "()I"⟩ : MethodName)) (z := (⟨"java/lang/String", "length", "()I"⟩ : MethodName)) hown (mvT hZ (own_wd hw (i := 46) rfl)) (mvT hZ (own_wd hw (i := 47) rfl)) (notFace_of_selects (args := #[]) (mvT hZ (own_wd hw (i := 49) rfl))) (mvT hZ (own_wd hw (i := 49) rfl)) (mvT hZ (own_wd hw (i := 48) rfl)) (by decide) (backOf (W := 3) (rs_ln00 l Z a0 hw [] st vb kb [] cs vf h0 n0 Z0 hST0 O0 E_st F_c F_v Vb) hZ (own_wd hw (i := 50) rfl) (own_wd hw (i := 7) rfl) (by decide) (by decide)) q3a q3c (g := (mkF m 14 #[.val (.ref st), .val (.int ch), .val (.int (0 : Int32))] [(.ref st), (.int (0 : Int32)), (.int ch), (.ref vb)])) rfl (by rw [hml]; rfl) (Steps.refl _) (argsL := []) (rest := [(.int (0 : Int32)), (.int ch), (.ref vb)]) (lenOf pd__40_41I rfl) rfl (by show 2 * 0 + _ ≤ _; exact Nat.le_of_eq rfl) (hb hby D7_14.1) (fun _ _ => ⟨rfl, e2, (by decide : 0 + 0 ≤ _), (by decide : 0 + 0 ≤ _)⟩)
  dsimp only [Pt.U, Pt.locs, Pt.cells, Pt.slots] at X3 l3 y3 z3 st3 hQ3
  subst l3 y3 z3
  obtain ⟨rfl, N3q, e3⟩ := hQ3
  have N3 := Fr.app N1 N3q
  refine own_pre (A' := T3.setTop (mkF m 17 #[.val (.ref st), .val (.int ch), .val (.int (0 : Int32))] [(.int (0 : Int32)), (.int (0 : Int32)), (.int ch), (.ref vb)])) (fun t k => st3.trans k) ?_
  obtain ⟨_, _, ⟨T4, L4, k4, n4⟩, -, X4, ⟨Lc4, hQ4, l4, y4, z4⟩, st4⟩ := Jvm.LawKit.callS X3 hx (y := (⟨"java/lang/StringLatin1", "indexOf", "([BIII)I"⟩ : MethodName)) hown (mvT hZ (own_wd hw (i := 56) rfl)) (mvT hZ (own_wd hw (i := 57) rfl)) (mvT hZ (own_wd hw (i := 58) rfl)) (mvT hZ (own_wd hw (i := 59) rfl)) (by decide) (backOf (W := 0) (rs_li0 l Z a0 hw [] vb ch kb  h0 n0 Z0 Vb  hn) hZ (own_wd hw (i := 59) rfl) (own_wd hw (i := 58) rfl) (by decide) (by decide)) (g := (mkF m 17 #[.val (.ref st), .val (.int ch), .val (.int (0 : Int32))] [(.int (0 : Int32)), (.int (0 : Int32)), (.int ch), (.ref vb)])) rfl (by rw [hml]; rfl) (argsL := [(.ref vb), (.int ch), (.int (0 : Int32)), (.int (0 : Int32))]) (rest := []) (lenOf pd__40_91BIII_41I rfl) rfl (by show 2 * 0 + _ ≤ _; exact Nat.le_of_eq rfl) (hb hby D7_17.1) (fun _ _ => ⟨rfl, e3, (by decide : 0 + 0 ≤ _), (by decide : 0 + 0 ≤ _)⟩)
  dsimp only [Pt.U, Pt.locs, Pt.cells, Pt.slots] at X4 l4 y4 z4 st4 hQ4
  subst l4 y4 z4
  obtain ⟨rfl, N4q, e4⟩ := hQ4
  have N4 := Fr.app N3 N4q
  refine own_pre (A' := T4.setTop (mkF m 20 #[.val (.ref st), .val (.int ch), .val (.int (0 : Int32))] [(.int (own_ix0 ch))])) st4 ?_
  refine o_goto X4 hx hby D7_20 (q := 36) (by decide) (by decide) ?_
  exact own_ret (v := some (.int (own_ix0 ch))) X4 (fun h => by first | rfl | (rw [Bd.returns] at h; cases h)) (BodyLoose.notSynchronized Bd) (by decide) (by decide) (⟨rfl, N4, e4⟩) (fun fs hr => retI X4 hx Bd.returns (hb hby D7_36.1) hr)
theorem D6_0 : own_at jdk_42_method_79_code 0 (.aload_n 0) 1 1 := ⟨by decide +kernel, rfl⟩
theorem D6_1 : own_at jdk_42_method_79_code 1 (.iload_n 1) 1 2 := ⟨by decide +kernel, rfl⟩
theorem D6_2 : own_at jdk_42_method_79_code 2 (.iconst 0) 1 3 := ⟨by decide +kernel, rfl⟩
theorem D6_3 : own_at jdk_42_method_79_code 3 (.invokevirtual 633) 3 6 := ⟨by decide +kernel, rfl⟩
theorem D6_6 : own_at jdk_42_method_79_code 6 (.ireturn) 1 7 := ⟨by decide +kernel, rfl⟩
theorem ef_rs_x10 (m : MethodId) (st : Addr) (ch : Int32) : entryFrame m #[(.ref st), (.int ch)] 2 = mkF m 0 #[.val (.ref st), .val (.int ch)] [] := by first | (simp [entryFrame, mkF, argsToLocals, Value.category]; done) | rfl
set_option maxRecDepth 65536 in
set_option maxHeartbeats 40000000 in
theorem rs_x10 (l : Launch) (Z : State) (a0 : Array Value) (hw : ∀ d ∈ tables_1, d.before a0 Z = true) (ws : List Jvm.Cond) (st : Addr) (ch : Int32) (vb : Addr) (kb : ClassId)  (cs : Int32) (vf : Value) (h0 : Heap) (n0 : Nat) (Z0 : n0 ≤ h0.size) (hST : own_ST Z cs vf) (O0 : Old Z n0 h0) (hS : own_Str0 Z h0 st vb kb )  (hn : own_nl ch) :
    MetFree l (⟨"java/lang/String", "indexOf", "(I)I"⟩ : MethodName) (head1 (Jvm.Cond.code (⟨"java/lang/String", "indexOf", "(I)I"⟩ : MethodName) jdk_42_method_79_code 2 (some .int) :: ws) ({ frames := 3, cells := 0, slots := 0, locals := 42 } : Room)) (fun a U => a = #[(.ref st), (.int ch)] ∧ Z.Warmed39 U.vm ∧ U.heap = h0) (fun _ _ _ _ _ => True) (fun _ U o U' => ∃ v L, o = .returned v ∧ own_QP (.int (own_ix0 ch)) h0 n0 v U'.heap L ∧ FrameEnd U o U' L ({ frames := 3, cells := 0, slots := 0, locals := 42 } : Room).cells ({ frames := 3, cells := 0, slots := 0, locals := 42 } : Room).slots) := by
  refine MetFree.of_bodySF (plainFor_of_name pn_java_lang_String) hisR ?_
  intro p e s m args below meth c s₁ Bd hml0 hP hK
  obtain ⟨rfl, hZ, hh⟩ := hP
  have hx := Bd.exec
  have hby := Bd.bytes
  have hml : c.maxLocals = 2 := hml0
  have hown : s.vm.findClass "java/lang/String" = some m.cls := findClass_of_methodNamed Bd.named
  have hnm := (name_of_methodNamed Bd.named Bd.method).1
  have X0 : Stand p l e ({ frames := 3, cells := 0, slots := 0, locals := 42 } : Room) s m #[(.ref st), (.int ch)] below meth c s₁ [] 0 0 := Stand.of_body Bd
  have e0 : s₁.heap = h0 := by rw [← hh, Bd.state]; rfl
  have N0 := Fr.nil n0
  refine own_start (ef_rs_x10 m st ch) ?_
  have hST0 := hST
  refine o_aloadN X0 hx hby D6_0 rfl rfl ?_
  refine o_iloadN X0 hx hby D6_1 rfl ?_
  refine o_iconst X0 hx hby D6_2 (v := 0) rfl ?_
  obtain ⟨cq1, kq1, q1a, q1b, q1c⟩ := isOf hZ e0 hS.1
  obtain ⟨_, _, ⟨T1, L1, k1, n1⟩, -, X1, ⟨Lc1, hQ1, l1, y1, z1⟩, st1⟩ := X0.virtualBack hx (y := (⟨"java/lang/String", "indexOf", "(II)I"⟩ : MethodName)) (z := (⟨"java/lang/String", "indexOf", "(II)I"⟩ : MethodName)) hown (mvT hZ (own_wd hw (i := 35) rfl)) (mvT hZ (own_wd hw (i := 36) rfl)) (notFace_of_selects (args := #[]) (mvT hZ (own_wd hw (i := 38) rfl))) (mvT hZ (own_wd hw (i := 38) rfl)) (mvT hZ (own_wd hw (i := 37) rfl)) (by decide) (backOf (W := 0) (rs_x20 l Z a0 hw [] st ch vb kb  cs vf h0 n0 Z0 hST0 O0 hS  hn) hZ (own_wd hw (i := 39) rfl) (own_wd hw (i := 7) rfl) (by decide) (by decide)) q1a q1c (g := (mkF m 3 #[.val (.ref st), .val (.int ch)] [(.int (0 : Int32)), (.int ch), (.ref st)])) rfl (by rw [hml]; rfl) (Steps.refl _) (argsL := [(.int ch), (.int (0 : Int32))]) (rest := []) (lenOf pd__40II_41I rfl) rfl (by show 2 * 0 + _ ≤ _; exact Nat.le_of_eq rfl) (hb hby D6_3.1) (fun _ _ => ⟨rfl, e0, (by decide : 0 + 0 ≤ _), (by decide : 0 + 0 ≤ _)⟩)
  dsimp only [Pt.U, Pt.locs, Pt.cells, Pt.slots] at X1 l1 y1 z1 st1 hQ1
  subst l1 y1 z1
  obtain ⟨rfl, N1q, e1⟩ := hQ1
  have N1 := Fr.app N0 N1q
  refine own_pre (A' := T1.setTop (mkF m 6 #[.val (.ref st), .val (.int ch)] [(.int (own_ix0 ch))])) (fun t k => st1.trans k) ?_
  exact own_ret (v := some (.int (own_ix0 ch))) X1 (fun h => by first | rfl | (rw [Bd.returns] at h; cases h)) (BodyLoose.notSynchronized Bd) (by decide) (by decide) (⟨rfl, N1, e1⟩) (fun fs hr => retI X1 hx Bd.returns (hb hby D6_6.1) hr)
theorem D7_23 : own_at jdk_42_method_80_code 23 (.aload_n 0) 1 24 := ⟨by decide +kernel, rfl⟩
theorem D7_24 : own_at jdk_42_method_80_code 24 (.getfield 9) 3 27 := ⟨by decide +kernel, rfl⟩
theorem D7_27 : own_at jdk_42_method_80_code 27 (.iload_n 1) 1 28 := ⟨by decide +kernel, rfl⟩
theorem D7_28 : own_at jdk_42_method_80_code 28 (.iload_n 2) 1 29 := ⟨by decide +kernel, rfl⟩
theorem D7_29 : own_at jdk_42_method_80_code 29 (.aload_n 0) 1 30 := ⟨by decide +kernel, rfl⟩
theorem D7_30 : own_at jdk_42_method_80_code 30 (.invokevirtual 505) 3 33 := ⟨by decide +kernel, rfl⟩
theorem D7_33 : own_at jdk_42_method_80_code 33 (.invokestatic 640) 3 36 := ⟨by decide +kernel, rfl⟩
theorem ef_rs_x21 (m : MethodId) (st : Addr) (ch : Int32) : entryFrame m #[(.ref st), (.int ch), (.int (0 : Int32))] 3 = mkF m 0 #[.val (.ref st), .val (.int ch), .val (.int (0 : Int32))] [] := by first | (simp [entryFrame, mkF, argsToLocals, Value.category]; done) | rfl
set_option maxRecDepth 65536 in
set_option maxHeartbeats 40000000 in
theorem rs_x21 (l : Launch) (Z : State) (a0 : Array Value) (hw : ∀ d ∈ tables_1, d.before a0 Z = true) (ws : List Jvm.Cond) (st : Addr) (ch : Int32) (vb : Addr) (kb : ClassId) (c0 : Int32) (cs : Int32) (vf : Value) (h0 : Heap) (n0 : Nat) (Z0 : n0 ≤ h0.size) (hST : own_ST Z cs vf) (O0 : Old Z n0 h0) (hS : own_Str1 Z h0 st vb kb c0) (hc0 : own_ch16 c0) (hn : own_nl ch) :
    MetFree l (⟨"java/lang/String", "indexOf", "(II)I"⟩ : MethodName) (head1 (Jvm.Cond.code (⟨"java/lang/String", "indexOf", "(II)I"⟩ : MethodName) jdk_42_method_80_code 3 (some .int) :: ws) ({ frames := 5, cells := 0, slots := 0, locals := 73 } : Room)) (fun a U => a = #[(.ref st), (.int ch), (.int (0 : Int32))] ∧ Z.Warmed39 U.vm ∧ U.heap = h0) (fun _ _ _ _ _ => True) (fun _ U o U' => ∃ v L, o = .returned v ∧ own_QP (.int (own_ix1 ch c0)) h0 n0 v U'.heap L ∧ FrameEnd U o U' L ({ frames := 5, cells := 0, slots := 0, locals := 73 } : Room).cells ({ frames := 5, cells := 0, slots := 0, locals := 73 } : Room).slots) := by
  refine MetFree.of_bodySF (plainFor_of_name pn_java_lang_String) hisR ?_
  intro p e s m args below meth c s₁ Bd hml0 hP hK
  obtain ⟨rfl, hZ, hh⟩ := hP
  have hx := Bd.exec
  have hby := Bd.bytes
  have hml : c.maxLocals = 3 := hml0
  have hown : s.vm.findClass "java/lang/String" = some m.cls := findClass_of_methodNamed Bd.named
  have hnm := (name_of_methodNamed Bd.named Bd.method).1
  have X0 : Stand p l e ({ frames := 5, cells := 0, slots := 0, locals := 73 } : Room) s m #[(.ref st), (.int ch), (.int (0 : Int32))] below meth c s₁ [] 0 0 := Stand.of_body Bd
  have e0 : s₁.heap = h0 := by rw [← hh, Bd.state]; rfl
  have N0 := Fr.nil n0
  refine own_start (ef_rs_x21 m st ch) ?_
  have hST0 := hST
  obtain ⟨S_cs, S_ad, S_hb, S_lb, S_sf, hcs, hvf⟩ := hST
  obtain ⟨E_st, F_v, ⟨F_c, hl0, Vb⟩ | ⟨F_c, Vb⟩⟩ := hS
  · skip
    refine o_aloadN X0 hx hby D7_0 rfl rfl ?_
    obtain ⟨cq1, kq1, q1a, q1b, q1c⟩ := isOf hZ e0 E_st
    obtain ⟨_, _, ⟨T1, L1, k1, n1⟩, -, X1, ⟨Lc1, hQ1, l1, y1, z1⟩, st1⟩ := X0.virtualBack hx (y := (⟨"java/lang/String", "isLatin1", "()Z"⟩ : MethodName)) (z := (⟨"java/lang/String", "isLatin1", "()Z"⟩ : MethodName)) hown (mvT hZ (own_wd hw (i := 40) rfl)) (mvT hZ (own_wd hw (i := 41) rfl)) (notFace_of_selects (args := #[]) (mvT hZ (own_wd hw (i := 43) rfl))) (mvT hZ (own_wd hw (i := 43) rfl)) (mvT hZ (own_wd hw (i := 42) rfl)) (by decide) (backOf (W := 0) (rs_il0 l Z a0 hw [] st cs vf h0 n0 Z0 hST0 O0 F_c) hZ (own_wd hw (i := 44) rfl) (own_wd hw (i := 7) rfl) (by decide) (by decide)) q1a q1c (g := (mkF m 1 #[.val (.ref st), .val (.int ch), .val (.int (0 : Int32))] [(.ref st)])) rfl (by rw [hml]; rfl) (Steps.refl _) (argsL := []) (rest := []) (lenOf pd__40_41Z rfl) rfl (by show 2 * 0 + _ ≤ _; exact Nat.le_of_eq rfl) (hb hby D7_1.1) (fun _ _ => ⟨rfl, e0, (by decide : 0 + 0 ≤ _), (by decide : 0 + 0 ≤ _)⟩)
    dsimp only [Pt.U, Pt.locs, Pt.cells, Pt.slots] at X1 l1 y1 z1 st1 hQ1
    subst l1 y1 z1
    obtain ⟨rfl, N1q, e1⟩ := hQ1
    have N1 := Fr.app N0 N1q
    refine own_pre (A' := T1.setTop (mkF m 4 #[.val (.ref st), .val (.int ch), .val (.int (0 : Int32))] [(.int (1 : Int32))])) (fun t k => st1.trans k) ?_
    refine o_ifN X1 hx hby D7_4 ((if0 _ _).trans (feq (by decide : ¬ ((1 : Int32) = (0 : Int32)))).1) ?_
    refine o_aloadN X1 hx hby D7_7 rfl rfl ?_
    obtain ⟨T2, X2, e2, st2⟩ := getF X1 hx hZ hown (host := "") (Or.inl (own_wd hw (i := 24) rfl)) Via.refl e1 F_v (g := (mkF m 8 #[.val (.ref st), .val (.int ch), .val (.int (0 : Int32))] [(.ref st)])) rfl rfl (hb hby D7_8.1)
    refine own_pre (A' := T2.setTop (mkF m 11 #[.val (.ref st), .val (.int ch), .val (.int (0 : Int32))] [(.ref vb)])) st2 ?_
    refine o_iloadN X2 hx hby D7_11 rfl ?_
    refine o_iloadN X2 hx hby D7_12 rfl ?_
    refine o_aloadN X2 hx hby D7_13 rfl rfl ?_
    obtain ⟨cq3, kq3, q3a, q3b, q3c⟩ := isOf hZ e2 E_st
    obtain ⟨_, _, ⟨T3, L3, k3, n3⟩, -, X3, ⟨Lc3, hQ3, l3, y3, z3⟩, st3⟩ := X2.virtualBack hx (y := (⟨"java/lang/String", "length", "()I"⟩ : MethodName)) (z := (⟨"java/lang/String", "length", "()I"⟩ : MethodName)) hown (mvT hZ (own_wd hw (i := 46) rfl)) (mvT hZ (own_wd hw (i := 47) rfl)) (notFace_of_selects (args := #[]) (mvT hZ (own_wd hw (i := 49) rfl))) (mvT hZ (own_wd hw (i := 49) rfl)) (mvT hZ (own_wd hw (i := 48) rfl)) (by decide) (backOf (W := 3) (rs_ln10 l Z a0 hw [] st vb kb [(.int (own_l8 c0))] cs vf h0 n0 Z0 hST0 O0 E_st F_c F_v Vb) hZ (own_wd hw (i := 50) rfl) (own_wd hw (i := 7) rfl) (by decide) (by decide)) q3a q3c (g := (mkF m 14 #[.val (.ref st), .val (.int ch), .val (.int (0 : Int32))] [(.ref st), (.int (0 : Int32)), (.int ch), (.ref vb)])) rfl (by rw [hml]; rfl) (Steps.refl _) (argsL := []) (rest := [(.int (0 : Int32)), (.int ch), (.ref vb)]) (lenOf pd__40_41I rfl) rfl (by show 2 * 0 + _ ≤ _; exact Nat.le_of_eq rfl) (hb hby D7_14.1) (fun _ _ => ⟨rfl, e2, (by decide : 0 + 0 ≤ _), (by decide : 0 + 0 ≤ _)⟩)
    dsimp only [Pt.U, Pt.locs, Pt.cells, Pt.slots] at X3 l3 y3 z3 st3 hQ3
    subst l3 y3 z3
    obtain ⟨rfl, N3q, e3⟩ := hQ3
    have N3 := Fr.app N1 N3q
    refine own_pre (A' := T3.setTop (mkF m 17 #[.val (.ref st), .val (.int ch), .val (.int (0 : Int32))] [(.int (1 : Int32)), (.int (0 : Int32)), (.int ch), (.ref vb)])) (fun t k => st3.trans k) ?_
    obtain ⟨_, _, ⟨T4, L4, k4, n4⟩, -, X4, ⟨Lc4, hQ4, l4, y4, z4⟩, st4⟩ := Jvm.LawKit.callS X3 hx (y := (⟨"java/lang/StringLatin1", "indexOf", "([BIII)I"⟩ : MethodName)) hown (mvT hZ (own_wd hw (i := 56) rfl)) (mvT hZ (own_wd hw (i := 57) rfl)) (mvT hZ (own_wd hw (i := 58) rfl)) (mvT hZ (own_wd hw (i := 59) rfl)) (by decide) (backOf (W := 0) (rs_li1 l Z a0 hw [] vb ch kb c0 h0 n0 Z0 Vb hc0 hl0 hn) hZ (own_wd hw (i := 59) rfl) (own_wd hw (i := 58) rfl) (by decide) (by decide)) (g := (mkF m 17 #[.val (.ref st), .val (.int ch), .val (.int (0 : Int32))] [(.int (1 : Int32)), (.int (0 : Int32)), (.int ch), (.ref vb)])) rfl (by rw [hml]; rfl) (argsL := [(.ref vb), (.int ch), (.int (0 : Int32)), (.int (1 : Int32))]) (rest := []) (lenOf pd__40_91BIII_41I rfl) rfl (by show 2 * 0 + _ ≤ _; exact Nat.le_of_eq rfl) (hb hby D7_17.1) (fun _ _ => ⟨rfl, e3, (by decide : 0 + 0 ≤ _), (by decide : 0 + 0 ≤ _)⟩)
    dsimp only [Pt.U, Pt.locs, Pt.cells, Pt.slots] at X4 l4 y4 z4 st4 hQ4
    subst l4 y4 z4
    obtain ⟨rfl, N4q, e4⟩ := hQ4
    have N4 := Fr.app N3 N4q
    refine own_pre (A' := T4.setTop (mkF m 20 #[.val (.ref st), .val (.int ch), .val (.int (0 : Int32))] [(.int (own_ix1 ch c0))])) st4 ?_
    refine o_goto X4 hx hby D7_20 (q := 36) (by decide) (by decide) ?_
    exact own_ret (v := some (.int (own_ix1 ch c0))) X4 (fun h => by first | rfl | (rw [Bd.returns] at h; cases h)) (BodyLoose.notSynchronized Bd) (by decide) (by decide) (⟨rfl, N4, e4⟩) (fun fs hr => retI X4 hx Bd.returns (hb hby D7_36.1) hr)
  · skip
    refine o_aloadN X0 hx hby D7_0 rfl rfl ?_
    obtain ⟨cq5, kq5, q5a, q5b, q5c⟩ := isOf hZ e0 E_st
    obtain ⟨_, _, ⟨T5, L5, k5, n5⟩, -, X5, ⟨Lc5, hQ5, l5, y5, z5⟩, st5⟩ := X0.virtualBack hx (y := (⟨"java/lang/String", "isLatin1", "()Z"⟩ : MethodName)) (z := (⟨"java/lang/String", "isLatin1", "()Z"⟩ : MethodName)) hown (mvT hZ (own_wd hw (i := 40) rfl)) (mvT hZ (own_wd hw (i := 41) rfl)) (notFace_of_selects (args := #[]) (mvT hZ (own_wd hw (i := 43) rfl))) (mvT hZ (own_wd hw (i := 43) rfl)) (mvT hZ (own_wd hw (i := 42) rfl)) (by decide) (backOf (W := 0) (rs_il1 l Z a0 hw [] st cs vf h0 n0 Z0 hST0 O0 F_c) hZ (own_wd hw (i := 44) rfl) (own_wd hw (i := 7) rfl) (by decide) (by decide)) q5a q5c (g := (mkF m 1 #[.val (.ref st), .val (.int ch), .val (.int (0 : Int32))] [(.ref st)])) rfl (by rw [hml]; rfl) (Steps.refl _) (argsL := []) (rest := []) (lenOf pd__40_41Z rfl) rfl (by show 2 * 0 + _ ≤ _; exact Nat.le_of_eq rfl) (hb hby D7_1.1) (fun _ _ => ⟨rfl, e0, (by decide : 0 + 0 ≤ _), (by decide : 0 + 0 ≤ _)⟩)
    dsimp only [Pt.U, Pt.locs, Pt.cells, Pt.slots] at X5 l5 y5 z5 st5 hQ5
    subst l5 y5 z5
    obtain ⟨rfl, N5q, e5⟩ := hQ5
    have N5 := Fr.app N0 N5q
    refine own_pre (A' := T5.setTop (mkF m 4 #[.val (.ref st), .val (.int ch), .val (.int (0 : Int32))] [(.int (0 : Int32))])) (fun t k => st5.trans k) ?_
    refine o_ifY X5 hx hby D7_4 ((if0 _ _).trans (teq (by decide : (0 : Int32) = (0 : Int32))).1) (q := 23) (by decide) (by decide) ?_
    refine o_aloadN X5 hx hby D7_23 rfl rfl ?_
    obtain ⟨T6, X6, e6, st6⟩ := getF X5 hx hZ hown (host := "") (Or.inl (own_wd hw (i := 24) rfl)) Via.refl e5 F_v (g := (mkF m 24 #[.val (.ref st), .val (.int ch), .val (.int (0 : Int32))] [(.ref st)])) rfl rfl (hb hby D7_24.1)
    refine own_pre (A' := T6.setTop (mkF m 27 #[.val (.ref st), .val (.int ch), .val (.int (0 : Int32))] [(.ref vb)])) st6 ?_
    refine o_iloadN X6 hx hby D7_27 rfl ?_
    refine o_iloadN X6 hx hby D7_28 rfl ?_
    refine o_aloadN X6 hx hby D7_29 rfl rfl ?_
    obtain ⟨cq7, kq7, q7a, q7b, q7c⟩ := isOf hZ e6 E_st
    obtain ⟨_, _, ⟨T7, L7, k7, n7⟩, -, X7, ⟨Lc7, hQ7, l7, y7, z7⟩, st7⟩ := X6.virtualBack hx (y := (⟨"java/lang/String", "length", "()I"⟩ : MethodName)) (z := (⟨"java/lang/String", "length", "()I"⟩ : MethodName)) hown (mvT hZ (own_wd hw (i := 46) rfl)) (mvT hZ (own_wd hw (i := 47) rfl)) (notFace_of_selects (args := #[]) (mvT hZ (own_wd hw (i := 49) rfl))) (mvT hZ (own_wd hw (i := 49) rfl)) (mvT hZ (own_wd hw (i := 48) rfl)) (by decide) (backOf (W := 3) (rs_ln11 l Z a0 hw [] st vb kb [(.int (own_lo c0)), (.int (own_hi c0))] cs vf h0 n0 Z0 hST0 O0 E_st F_c F_v Vb) hZ (own_wd hw (i := 50) rfl) (own_wd hw (i := 7) rfl) (by decide) (by decide)) q7a q7c (g := (mkF m 30 #[.val (.ref st), .val (.int ch), .val (.int (0 : Int32))] [(.ref st), (.int (0 : Int32)), (.int ch), (.ref vb)])) rfl (by rw [hml]; rfl) (Steps.refl _) (argsL := []) (rest := [(.int (0 : Int32)), (.int ch), (.ref vb)]) (lenOf pd__40_41I rfl) rfl (by show 2 * 0 + _ ≤ _; exact Nat.le_of_eq rfl) (hb hby D7_30.1) (fun _ _ => ⟨rfl, e6, (by decide : 0 + 0 ≤ _), (by decide : 0 + 0 ≤ _)⟩)
    dsimp only [Pt.U, Pt.locs, Pt.cells, Pt.slots] at X7 l7 y7 z7 st7 hQ7
    subst l7 y7 z7
    obtain ⟨rfl, N7q, e7⟩ := hQ7
    have N7 := Fr.app N5 N7q
    refine own_pre (A' := T7.setTop (mkF m 33 #[.val (.ref st), .val (.int ch), .val (.int (0 : Int32))] [(.int (1 : Int32)), (.int (0 : Int32)), (.int ch), (.ref vb)])) (fun t k => st7.trans k) ?_
    obtain ⟨_, _, ⟨T8, L8, k8, n8⟩, -, X8, ⟨Lc8, hQ8, l8, y8, z8⟩, st8⟩ := Jvm.LawKit.callS X7 hx (y := (⟨"java/lang/StringUTF16", "indexOf", "([BIII)I"⟩ : MethodName)) hown (mvT hZ (own_wd hw (i := 106) rfl)) (mvT hZ (own_wd hw (i := 107) rfl)) (mvT hZ (own_wd hw (i := 72) rfl)) (mvT hZ (own_wd hw (i := 108) rfl)) (by decide) (backOf (W := 0) (rs_ui1 l Z a0 hw [] vb ch kb c0 cs vf h0 n0 Z0 hST0 O0 Vb hc0 hn) hZ (own_wd hw (i := 108) rfl) (own_wd hw (i := 72) rfl) (by decide) (by decide)) (g := (mkF m 33 #[.val (.ref st), .val (.int ch), .val (.int (0 : Int32))] [(.int (1 : Int32)), (.int (0 : Int32)), (.int ch), (.ref vb)])) rfl (by rw [hml]; rfl) (argsL := [(.ref vb), (.int ch), (.int (0 : Int32)), (.int (1 : Int32))]) (rest := []) (lenOf pd__40_91BIII_41I rfl) rfl (by show 2 * 0 + _ ≤ _; exact Nat.le_of_eq rfl) (hb hby D7_33.1) (fun _ _ => ⟨rfl, e7, (by decide : 0 + 0 ≤ _), (by decide : 0 + 0 ≤ _)⟩)
    dsimp only [Pt.U, Pt.locs, Pt.cells, Pt.slots] at X8 l8 y8 z8 st8 hQ8
    subst l8 y8 z8
    obtain ⟨rfl, N8q, e8⟩ := hQ8
    have N8 := Fr.app N7 N8q
    refine own_pre (A' := T8.setTop (mkF m 36 #[.val (.ref st), .val (.int ch), .val (.int (0 : Int32))] [(.int (own_ix1 ch c0))])) st8 ?_
    exact own_ret (v := some (.int (own_ix1 ch c0))) X8 (fun h => by first | rfl | (rw [Bd.returns] at h; cases h)) (BodyLoose.notSynchronized Bd) (by decide) (by decide) (⟨rfl, N8, e8⟩) (fun fs hr => retI X8 hx Bd.returns (hb hby D7_36.1) hr)
theorem ef_rs_x11 (m : MethodId) (st : Addr) (ch : Int32) : entryFrame m #[(.ref st), (.int ch)] 2 = mkF m 0 #[.val (.ref st), .val (.int ch)] [] := by first | (simp [entryFrame, mkF, argsToLocals, Value.category]; done) | rfl
set_option maxRecDepth 65536 in
set_option maxHeartbeats 40000000 in
theorem rs_x11 (l : Launch) (Z : State) (a0 : Array Value) (hw : ∀ d ∈ tables_1, d.before a0 Z = true) (ws : List Jvm.Cond) (st : Addr) (ch : Int32) (vb : Addr) (kb : ClassId) (c0 : Int32) (cs : Int32) (vf : Value) (h0 : Heap) (n0 : Nat) (Z0 : n0 ≤ h0.size) (hST : own_ST Z cs vf) (O0 : Old Z n0 h0) (hS : own_Str1 Z h0 st vb kb c0) (hc0 : own_ch16 c0) (hn : own_nl ch) :
    MetFree l (⟨"java/lang/String", "indexOf", "(I)I"⟩ : MethodName) (head1 (Jvm.Cond.code (⟨"java/lang/String", "indexOf", "(I)I"⟩ : MethodName) jdk_42_method_79_code 2 (some .int) :: ws) ({ frames := 6, cells := 0, slots := 0, locals := 87 } : Room)) (fun a U => a = #[(.ref st), (.int ch)] ∧ Z.Warmed39 U.vm ∧ U.heap = h0) (fun _ _ _ _ _ => True) (fun _ U o U' => ∃ v L, o = .returned v ∧ own_QP (.int (own_ix1 ch c0)) h0 n0 v U'.heap L ∧ FrameEnd U o U' L ({ frames := 6, cells := 0, slots := 0, locals := 87 } : Room).cells ({ frames := 6, cells := 0, slots := 0, locals := 87 } : Room).slots) := by
  refine MetFree.of_bodySF (plainFor_of_name pn_java_lang_String) hisR ?_
  intro p e s m args below meth c s₁ Bd hml0 hP hK
  obtain ⟨rfl, hZ, hh⟩ := hP
  have hx := Bd.exec
  have hby := Bd.bytes
  have hml : c.maxLocals = 2 := hml0
  have hown : s.vm.findClass "java/lang/String" = some m.cls := findClass_of_methodNamed Bd.named
  have hnm := (name_of_methodNamed Bd.named Bd.method).1
  have X0 : Stand p l e ({ frames := 6, cells := 0, slots := 0, locals := 87 } : Room) s m #[(.ref st), (.int ch)] below meth c s₁ [] 0 0 := Stand.of_body Bd
  have e0 : s₁.heap = h0 := by rw [← hh, Bd.state]; rfl
  have N0 := Fr.nil n0
  refine own_start (ef_rs_x11 m st ch) ?_
  have hST0 := hST
  refine o_aloadN X0 hx hby D6_0 rfl rfl ?_
  refine o_iloadN X0 hx hby D6_1 rfl ?_
  refine o_iconst X0 hx hby D6_2 (v := 0) rfl ?_
  obtain ⟨cq1, kq1, q1a, q1b, q1c⟩ := isOf hZ e0 hS.1
  obtain ⟨_, _, ⟨T1, L1, k1, n1⟩, -, X1, ⟨Lc1, hQ1, l1, y1, z1⟩, st1⟩ := X0.virtualBack hx (y := (⟨"java/lang/String", "indexOf", "(II)I"⟩ : MethodName)) (z := (⟨"java/lang/String", "indexOf", "(II)I"⟩ : MethodName)) hown (mvT hZ (own_wd hw (i := 35) rfl)) (mvT hZ (own_wd hw (i := 36) rfl)) (notFace_of_selects (args := #[]) (mvT hZ (own_wd hw (i := 38) rfl))) (mvT hZ (own_wd hw (i := 38) rfl)) (mvT hZ (own_wd hw (i := 37) rfl)) (by decide) (backOf (W := 0) (rs_x21 l Z a0 hw [] st ch vb kb c0 cs vf h0 n0 Z0 hST0 O0 hS hc0 hn) hZ (own_wd hw (i := 39) rfl) (own_wd hw (i := 7) rfl) (by decide) (by decide)) q1a q1c (g := (mkF m 3 #[.val (.ref st), .val (.int ch)] [(.int (0 : Int32)), (.int ch), (.ref st)])) rfl (by rw [hml]; rfl) (Steps.refl _) (argsL := [(.int ch), (.int (0 : Int32))]) (rest := []) (lenOf pd__40II_41I rfl) rfl (by show 2 * 0 + _ ≤ _; exact Nat.le_of_eq rfl) (hb hby D6_3.1) (fun _ _ => ⟨rfl, e0, (by decide : 0 + 0 ≤ _), (by decide : 0 + 0 ≤ _)⟩)
  dsimp only [Pt.U, Pt.locs, Pt.cells, Pt.slots] at X1 l1 y1 z1 st1 hQ1
  subst l1 y1 z1
  obtain ⟨rfl, N1q, e1⟩ := hQ1
  have N1 := Fr.app N0 N1q
  refine own_pre (A' := T1.setTop (mkF m 6 #[.val (.ref st), .val (.int ch)] [(.int (own_ix1 ch c0))])) (fun t k => st1.trans k) ?_
  exact own_ret (v := some (.int (own_ix1 ch c0))) X1 (fun h => by first | rfl | (rw [Bd.returns] at h; cases h)) (BodyLoose.notSynchronized Bd) (by decide) (by decide) (⟨rfl, N1, e1⟩) (fun fs hr => retI X1 hx Bd.returns (hb hby D6_6.1) hr)
theorem ef_rs_x22 (m : MethodId) (st : Addr) (ch : Int32) : entryFrame m #[(.ref st), (.int ch), (.int (0 : Int32))] 3 = mkF m 0 #[.val (.ref st), .val (.int ch), .val (.int (0 : Int32))] [] := by first | (simp [entryFrame, mkF, argsToLocals, Value.category]; done) | rfl
set_option maxRecDepth 65536 in
set_option maxHeartbeats 40000000 in
theorem rs_x22 (l : Launch) (Z : State) (a0 : Array Value) (hw : ∀ d ∈ tables_1, d.before a0 Z = true) (ws : List Jvm.Cond) (st : Addr) (ch : Int32) (vb : Addr) (kb : ClassId) (c0 c1 : Int32) (cs : Int32) (vf : Value) (h0 : Heap) (n0 : Nat) (Z0 : n0 ≤ h0.size) (hST : own_ST Z cs vf) (O0 : Old Z n0 h0) (hS : own_Str2 Z h0 st vb kb c0 c1) (hc0 : own_ch16 c0) (hc1 : own_ch16 c1) (hn : own_nl ch) :
    MetFree l (⟨"java/lang/String", "indexOf", "(II)I"⟩ : MethodName) (head1 (Jvm.Cond.code (⟨"java/lang/String", "indexOf", "(II)I"⟩ : MethodName) jdk_42_method_80_code 3 (some .int) :: ws) ({ frames := 5, cells := 0, slots := 0, locals := 73 } : Room)) (fun a U => a = #[(.ref st), (.int ch), (.int (0 : Int32))] ∧ Z.Warmed39 U.vm ∧ U.heap = h0) (fun _ _ _ _ _ => True) (fun _ U o U' => ∃ v L, o = .returned v ∧ own_QP (.int (own_ix2 ch c0 c1)) h0 n0 v U'.heap L ∧ FrameEnd U o U' L ({ frames := 5, cells := 0, slots := 0, locals := 73 } : Room).cells ({ frames := 5, cells := 0, slots := 0, locals := 73 } : Room).slots) := by
  refine MetFree.of_bodySF (plainFor_of_name pn_java_lang_String) hisR ?_
  intro p e s m args below meth c s₁ Bd hml0 hP hK
  obtain ⟨rfl, hZ, hh⟩ := hP
  have hx := Bd.exec
  have hby := Bd.bytes
  have hml : c.maxLocals = 3 := hml0
  have hown : s.vm.findClass "java/lang/String" = some m.cls := findClass_of_methodNamed Bd.named
  have hnm := (name_of_methodNamed Bd.named Bd.method).1
  have X0 : Stand p l e ({ frames := 5, cells := 0, slots := 0, locals := 73 } : Room) s m #[(.ref st), (.int ch), (.int (0 : Int32))] below meth c s₁ [] 0 0 := Stand.of_body Bd
  have e0 : s₁.heap = h0 := by rw [← hh, Bd.state]; rfl
  have N0 := Fr.nil n0
  refine own_start (ef_rs_x22 m st ch) ?_
  have hST0 := hST
  obtain ⟨S_cs, S_ad, S_hb, S_lb, S_sf, hcs, hvf⟩ := hST
  obtain ⟨E_st, F_v, ⟨F_c, hl0, hl1, Vb⟩ | ⟨F_c, Vb⟩⟩ := hS
  · skip
    refine o_aloadN X0 hx hby D7_0 rfl rfl ?_
    obtain ⟨cq1, kq1, q1a, q1b, q1c⟩ := isOf hZ e0 E_st
    obtain ⟨_, _, ⟨T1, L1, k1, n1⟩, -, X1, ⟨Lc1, hQ1, l1, y1, z1⟩, st1⟩ := X0.virtualBack hx (y := (⟨"java/lang/String", "isLatin1", "()Z"⟩ : MethodName)) (z := (⟨"java/lang/String", "isLatin1", "()Z"⟩ : MethodName)) hown (mvT hZ (own_wd hw (i := 40) rfl)) (mvT hZ (own_wd hw (i := 41) rfl)) (notFace_of_selects (args := #[]) (mvT hZ (own_wd hw (i := 43) rfl))) (mvT hZ (own_wd hw (i := 43) rfl)) (mvT hZ (own_wd hw (i := 42) rfl)) (by decide) (backOf (W := 0) (rs_il0 l Z a0 hw [] st cs vf h0 n0 Z0 hST0 O0 F_c) hZ (own_wd hw (i := 44) rfl) (own_wd hw (i := 7) rfl) (by decide) (by decide)) q1a q1c (g := (mkF m 1 #[.val (.ref st), .val (.int ch), .val (.int (0 : Int32))] [(.ref st)])) rfl (by rw [hml]; rfl) (Steps.refl _) (argsL := []) (rest := []) (lenOf pd__40_41Z rfl) rfl (by show 2 * 0 + _ ≤ _; exact Nat.le_of_eq rfl) (hb hby D7_1.1) (fun _ _ => ⟨rfl, e0, (by decide : 0 + 0 ≤ _), (by decide : 0 + 0 ≤ _)⟩)
    dsimp only [Pt.U, Pt.locs, Pt.cells, Pt.slots] at X1 l1 y1 z1 st1 hQ1
    subst l1 y1 z1
    obtain ⟨rfl, N1q, e1⟩ := hQ1
    have N1 := Fr.app N0 N1q
    refine own_pre (A' := T1.setTop (mkF m 4 #[.val (.ref st), .val (.int ch), .val (.int (0 : Int32))] [(.int (1 : Int32))])) (fun t k => st1.trans k) ?_
    refine o_ifN X1 hx hby D7_4 ((if0 _ _).trans (feq (by decide : ¬ ((1 : Int32) = (0 : Int32)))).1) ?_
    refine o_aloadN X1 hx hby D7_7 rfl rfl ?_
    obtain ⟨T2, X2, e2, st2⟩ := getF X1 hx hZ hown (host := "") (Or.inl (own_wd hw (i := 24) rfl)) Via.refl e1 F_v (g := (mkF m 8 #[.val (.ref st), .val (.int ch), .val (.int (0 : Int32))] [(.ref st)])) rfl rfl (hb hby D7_8.1)
    refine own_pre (A' := T2.setTop (mkF m 11 #[.val (.ref st), .val (.int ch), .val (.int (0 : Int32))] [(.ref vb)])) st2 ?_
    refine o_iloadN X2 hx hby D7_11 rfl ?_
    refine o_iloadN X2 hx hby D7_12 rfl ?_
    refine o_aloadN X2 hx hby D7_13 rfl rfl ?_
    obtain ⟨cq3, kq3, q3a, q3b, q3c⟩ := isOf hZ e2 E_st
    obtain ⟨_, _, ⟨T3, L3, k3, n3⟩, -, X3, ⟨Lc3, hQ3, l3, y3, z3⟩, st3⟩ := X2.virtualBack hx (y := (⟨"java/lang/String", "length", "()I"⟩ : MethodName)) (z := (⟨"java/lang/String", "length", "()I"⟩ : MethodName)) hown (mvT hZ (own_wd hw (i := 46) rfl)) (mvT hZ (own_wd hw (i := 47) rfl)) (notFace_of_selects (args := #[]) (mvT hZ (own_wd hw (i := 49) rfl))) (mvT hZ (own_wd hw (i := 49) rfl)) (mvT hZ (own_wd hw (i := 48) rfl)) (by decide) (backOf (W := 3) (rs_ln20 l Z a0 hw [] st vb kb [(.int (own_l8 c0)), (.int (own_l8 c1))] cs vf h0 n0 Z0 hST0 O0 E_st F_c F_v Vb) hZ (own_wd hw (i := 50) rfl) (own_wd hw (i := 7) rfl) (by decide) (by decide)) q3a q3c (g := (mkF m 14 #[.val (.ref st), .val (.int ch), .val (.int (0 : Int32))] [(.ref st), (.int (0 : Int32)), (.int ch), (.ref vb)])) rfl (by rw [hml]; rfl) (Steps.refl _) (argsL := []) (rest := [(.int (0 : Int32)), (.int ch), (.ref vb)]) (lenOf pd__40_41I rfl) rfl (by show 2 * 0 + _ ≤ _; exact Nat.le_of_eq rfl) (hb hby D7_14.1) (fun _ _ => ⟨rfl, e2, (by decide : 0 + 0 ≤ _), (by decide : 0 + 0 ≤ _)⟩)
    dsimp only [Pt.U, Pt.locs, Pt.cells, Pt.slots] at X3 l3 y3 z3 st3 hQ3
    subst l3 y3 z3
    obtain ⟨rfl, N3q, e3⟩ := hQ3
    have N3 := Fr.app N1 N3q
    refine own_pre (A' := T3.setTop (mkF m 17 #[.val (.ref st), .val (.int ch), .val (.int (0 : Int32))] [(.int (2 : Int32)), (.int (0 : Int32)), (.int ch), (.ref vb)])) (fun t k => st3.trans k) ?_
    obtain ⟨_, _, ⟨T4, L4, k4, n4⟩, -, X4, ⟨Lc4, hQ4, l4, y4, z4⟩, st4⟩ := Jvm.LawKit.callS X3 hx (y := (⟨"java/lang/StringLatin1", "indexOf", "([BIII)I"⟩ : MethodName)) hown (mvT hZ (own_wd hw (i := 56) rfl)) (mvT hZ (own_wd hw (i := 57) rfl)) (mvT hZ (own_wd hw (i := 58) rfl)) (mvT hZ (own_wd hw (i := 59) rfl)) (by decide) (backOf (W := 0) (rs_li2 l Z a0 hw [] vb ch kb c0 c1 h0 n0 Z0 Vb hc0 hl0 hc1 hl1 hn) hZ (own_wd hw (i := 59) rfl) (own_wd hw (i := 58) rfl) (by decide) (by decide)) (g := (mkF m 17 #[.val (.ref st), .val (.int ch), .val (.int (0 : Int32))] [(.int (2 : Int32)), (.int (0 : Int32)), (.int ch), (.ref vb)])) rfl (by rw [hml]; rfl) (argsL := [(.ref vb), (.int ch), (.int (0 : Int32)), (.int (2 : Int32))]) (rest := []) (lenOf pd__40_91BIII_41I rfl) rfl (by show 2 * 0 + _ ≤ _; exact Nat.le_of_eq rfl) (hb hby D7_17.1) (fun _ _ => ⟨rfl, e3, (by decide : 0 + 0 ≤ _), (by decide : 0 + 0 ≤ _)⟩)
    dsimp only [Pt.U, Pt.locs, Pt.cells, Pt.slots] at X4 l4 y4 z4 st4 hQ4
    subst l4 y4 z4
    obtain ⟨rfl, N4q, e4⟩ := hQ4
    have N4 := Fr.app N3 N4q
    refine own_pre (A' := T4.setTop (mkF m 20 #[.val (.ref st), .val (.int ch), .val (.int (0 : Int32))] [(.int (own_ix2 ch c0 c1))])) st4 ?_
    refine o_goto X4 hx hby D7_20 (q := 36) (by decide) (by decide) ?_
    exact own_ret (v := some (.int (own_ix2 ch c0 c1))) X4 (fun h => by first | rfl | (rw [Bd.returns] at h; cases h)) (BodyLoose.notSynchronized Bd) (by decide) (by decide) (⟨rfl, N4, e4⟩) (fun fs hr => retI X4 hx Bd.returns (hb hby D7_36.1) hr)
  · skip
    refine o_aloadN X0 hx hby D7_0 rfl rfl ?_
    obtain ⟨cq5, kq5, q5a, q5b, q5c⟩ := isOf hZ e0 E_st
    obtain ⟨_, _, ⟨T5, L5, k5, n5⟩, -, X5, ⟨Lc5, hQ5, l5, y5, z5⟩, st5⟩ := X0.virtualBack hx (y := (⟨"java/lang/String", "isLatin1", "()Z"⟩ : MethodName)) (z := (⟨"java/lang/String", "isLatin1", "()Z"⟩ : MethodName)) hown (mvT hZ (own_wd hw (i := 40) rfl)) (mvT hZ (own_wd hw (i := 41) rfl)) (notFace_of_selects (args := #[]) (mvT hZ (own_wd hw (i := 43) rfl))) (mvT hZ (own_wd hw (i := 43) rfl)) (mvT hZ (own_wd hw (i := 42) rfl)) (by decide) (backOf (W := 0) (rs_il1 l Z a0 hw [] st cs vf h0 n0 Z0 hST0 O0 F_c) hZ (own_wd hw (i := 44) rfl) (own_wd hw (i := 7) rfl) (by decide) (by decide)) q5a q5c (g := (mkF m 1 #[.val (.ref st), .val (.int ch), .val (.int (0 : Int32))] [(.ref st)])) rfl (by rw [hml]; rfl) (Steps.refl _) (argsL := []) (rest := []) (lenOf pd__40_41Z rfl) rfl (by show 2 * 0 + _ ≤ _; exact Nat.le_of_eq rfl) (hb hby D7_1.1) (fun _ _ => ⟨rfl, e0, (by decide : 0 + 0 ≤ _), (by decide : 0 + 0 ≤ _)⟩)
    dsimp only [Pt.U, Pt.locs, Pt.cells, Pt.slots] at X5 l5 y5 z5 st5 hQ5
    subst l5 y5 z5
    obtain ⟨rfl, N5q, e5⟩ := hQ5
    have N5 := Fr.app N0 N5q
    refine own_pre (A' := T5.setTop (mkF m 4 #[.val (.ref st), .val (.int ch), .val (.int (0 : Int32))] [(.int (0 : Int32))])) (fun t k => st5.trans k) ?_
    refine o_ifY X5 hx hby D7_4 ((if0 _ _).trans (teq (by decide : (0 : Int32) = (0 : Int32))).1) (q := 23) (by decide) (by decide) ?_
    refine o_aloadN X5 hx hby D7_23 rfl rfl ?_
    obtain ⟨T6, X6, e6, st6⟩ := getF X5 hx hZ hown (host := "") (Or.inl (own_wd hw (i := 24) rfl)) Via.refl e5 F_v (g := (mkF m 24 #[.val (.ref st), .val (.int ch), .val (.int (0 : Int32))] [(.ref st)])) rfl rfl (hb hby D7_24.1)
    refine own_pre (A' := T6.setTop (mkF m 27 #[.val (.ref st), .val (.int ch), .val (.int (0 : Int32))] [(.ref vb)])) st6 ?_
    refine o_iloadN X6 hx hby D7_27 rfl ?_
    refine o_iloadN X6 hx hby D7_28 rfl ?_
    refine o_aloadN X6 hx hby D7_29 rfl rfl ?_
    obtain ⟨cq7, kq7, q7a, q7b, q7c⟩ := isOf hZ e6 E_st
    obtain ⟨_, _, ⟨T7, L7, k7, n7⟩, -, X7, ⟨Lc7, hQ7, l7, y7, z7⟩, st7⟩ := X6.virtualBack hx (y := (⟨"java/lang/String", "length", "()I"⟩ : MethodName)) (z := (⟨"java/lang/String", "length", "()I"⟩ : MethodName)) hown (mvT hZ (own_wd hw (i := 46) rfl)) (mvT hZ (own_wd hw (i := 47) rfl)) (notFace_of_selects (args := #[]) (mvT hZ (own_wd hw (i := 49) rfl))) (mvT hZ (own_wd hw (i := 49) rfl)) (mvT hZ (own_wd hw (i := 48) rfl)) (by decide) (backOf (W := 3) (rs_ln21 l Z a0 hw [] st vb kb [(.int (own_lo c0)), (.int (own_hi c0)), (.int (own_lo c1)), (.int (own_hi c1))] cs vf h0 n0 Z0 hST0 O0 E_st F_c F_v Vb) hZ (own_wd hw (i := 50) rfl) (own_wd hw (i := 7) rfl) (by decide) (by decide)) q7a q7c (g := (mkF m 30 #[.val (.ref st), .val (.int ch), .val (.int (0 : Int32))] [(.ref st), (.int (0 : Int32)), (.int ch), (.ref vb)])) rfl (by rw [hml]; rfl) (Steps.refl _) (argsL := []) (rest := [(.int (0 : Int32)), (.int ch), (.ref vb)]) (lenOf pd__40_41I rfl) rfl (by show 2 * 0 + _ ≤ _; exact Nat.le_of_eq rfl) (hb hby D7_30.1) (fun _ _ => ⟨rfl, e6, (by decide : 0 + 0 ≤ _), (by decide : 0 + 0 ≤ _)⟩)
    dsimp only [Pt.U, Pt.locs, Pt.cells, Pt.slots] at X7 l7 y7 z7 st7 hQ7
    subst l7 y7 z7
    obtain ⟨rfl, N7q, e7⟩ := hQ7
    have N7 := Fr.app N5 N7q
    refine own_pre (A' := T7.setTop (mkF m 33 #[.val (.ref st), .val (.int ch), .val (.int (0 : Int32))] [(.int (2 : Int32)), (.int (0 : Int32)), (.int ch), (.ref vb)])) (fun t k => st7.trans k) ?_
    obtain ⟨_, _, ⟨T8, L8, k8, n8⟩, -, X8, ⟨Lc8, hQ8, l8, y8, z8⟩, st8⟩ := Jvm.LawKit.callS X7 hx (y := (⟨"java/lang/StringUTF16", "indexOf", "([BIII)I"⟩ : MethodName)) hown (mvT hZ (own_wd hw (i := 106) rfl)) (mvT hZ (own_wd hw (i := 107) rfl)) (mvT hZ (own_wd hw (i := 72) rfl)) (mvT hZ (own_wd hw (i := 108) rfl)) (by decide) (backOf (W := 0) (rs_ui2 l Z a0 hw [] vb ch kb c0 c1 cs vf h0 n0 Z0 hST0 O0 Vb hc0 hc1 hn) hZ (own_wd hw (i := 108) rfl) (own_wd hw (i := 72) rfl) (by decide) (by decide)) (g := (mkF m 33 #[.val (.ref st), .val (.int ch), .val (.int (0 : Int32))] [(.int (2 : Int32)), (.int (0 : Int32)), (.int ch), (.ref vb)])) rfl (by rw [hml]; rfl) (argsL := [(.ref vb), (.int ch), (.int (0 : Int32)), (.int (2 : Int32))]) (rest := []) (lenOf pd__40_91BIII_41I rfl) rfl (by show 2 * 0 + _ ≤ _; exact Nat.le_of_eq rfl) (hb hby D7_33.1) (fun _ _ => ⟨rfl, e7, (by decide : 0 + 0 ≤ _), (by decide : 0 + 0 ≤ _)⟩)
    dsimp only [Pt.U, Pt.locs, Pt.cells, Pt.slots] at X8 l8 y8 z8 st8 hQ8
    subst l8 y8 z8
    obtain ⟨rfl, N8q, e8⟩ := hQ8
    have N8 := Fr.app N7 N8q
    refine own_pre (A' := T8.setTop (mkF m 36 #[.val (.ref st), .val (.int ch), .val (.int (0 : Int32))] [(.int (own_ix2 ch c0 c1))])) st8 ?_
    exact own_ret (v := some (.int (own_ix2 ch c0 c1))) X8 (fun h => by first | rfl | (rw [Bd.returns] at h; cases h)) (BodyLoose.notSynchronized Bd) (by decide) (by decide) (⟨rfl, N8, e8⟩) (fun fs hr => retI X8 hx Bd.returns (hb hby D7_36.1) hr)
theorem ef_rs_x12 (m : MethodId) (st : Addr) (ch : Int32) : entryFrame m #[(.ref st), (.int ch)] 2 = mkF m 0 #[.val (.ref st), .val (.int ch)] [] := by first | (simp [entryFrame, mkF, argsToLocals, Value.category]; done) | rfl
set_option maxRecDepth 65536 in
set_option maxHeartbeats 40000000 in
theorem rs_x12 (l : Launch) (Z : State) (a0 : Array Value) (hw : ∀ d ∈ tables_1, d.before a0 Z = true) (ws : List Jvm.Cond) (st : Addr) (ch : Int32) (vb : Addr) (kb : ClassId) (c0 c1 : Int32) (cs : Int32) (vf : Value) (h0 : Heap) (n0 : Nat) (Z0 : n0 ≤ h0.size) (hST : own_ST Z cs vf) (O0 : Old Z n0 h0) (hS : own_Str2 Z h0 st vb kb c0 c1) (hc0 : own_ch16 c0) (hc1 : own_ch16 c1) (hn : own_nl ch) :
    MetFree l (⟨"java/lang/String", "indexOf", "(I)I"⟩ : MethodName) (head1 (Jvm.Cond.code (⟨"java/lang/String", "indexOf", "(I)I"⟩ : MethodName) jdk_42_method_79_code 2 (some .int) :: ws) ({ frames := 6, cells := 0, slots := 0, locals := 87 } : Room)) (fun a U => a = #[(.ref st), (.int ch)] ∧ Z.Warmed39 U.vm ∧ U.heap = h0) (fun _ _ _ _ _ => True) (fun _ U o U' => ∃ v L, o = .returned v ∧ own_QP (.int (own_ix2 ch c0 c1)) h0 n0 v U'.heap L ∧ FrameEnd U o U' L ({ frames := 6, cells := 0, slots := 0, locals := 87 } : Room).cells ({ frames := 6, cells := 0, slots := 0, locals := 87 } : Room).slots) := by
  refine MetFree.of_bodySF (plainFor_of_name pn_java_lang_String) hisR ?_
  intro p e s m args below meth c s₁ Bd hml0 hP hK
  obtain ⟨rfl, hZ, hh⟩ := hP
  have hx := Bd.exec
  have hby := Bd.bytes
  have hml : c.maxLocals = 2 := hml0
  have hown : s.vm.findClass "java/lang/String" = some m.cls := findClass_of_methodNamed Bd.named
  have hnm := (name_of_methodNamed Bd.named Bd.method).1
  have X0 : Stand p l e ({ frames := 6, cells := 0, slots := 0, locals := 87 } : Room) s m #[(.ref st), (.int ch)] below meth c s₁ [] 0 0 := Stand.of_body Bd
  have e0 : s₁.heap = h0 := by rw [← hh, Bd.state]; rfl
  have N0 := Fr.nil n0
  refine own_start (ef_rs_x12 m st ch) ?_
  have hST0 := hST
  refine o_aloadN X0 hx hby D6_0 rfl rfl ?_
  refine o_iloadN X0 hx hby D6_1 rfl ?_
  refine o_iconst X0 hx hby D6_2 (v := 0) rfl ?_
  obtain ⟨cq1, kq1, q1a, q1b, q1c⟩ := isOf hZ e0 hS.1
  obtain ⟨_, _, ⟨T1, L1, k1, n1⟩, -, X1, ⟨Lc1, hQ1, l1, y1, z1⟩, st1⟩ := X0.virtualBack hx (y := (⟨"java/lang/String", "indexOf", "(II)I"⟩ : MethodName)) (z := (⟨"java/lang/String", "indexOf", "(II)I"⟩ : MethodName)) hown (mvT hZ (own_wd hw (i := 35) rfl)) (mvT hZ (own_wd hw (i := 36) rfl)) (notFace_of_selects (args := #[]) (mvT hZ (own_wd hw (i := 38) rfl))) (mvT hZ (own_wd hw (i := 38) rfl)) (mvT hZ (own_wd hw (i := 37) rfl)) (by decide) (backOf (W := 0) (rs_x22 l Z a0 hw [] st ch vb kb c0 c1 cs vf h0 n0 Z0 hST0 O0 hS hc0 hc1 hn) hZ (own_wd hw (i := 39) rfl) (own_wd hw (i := 7) rfl) (by decide) (by decide)) q1a q1c (g := (mkF m 3 #[.val (.ref st), .val (.int ch)] [(.int (0 : Int32)), (.int ch), (.ref st)])) rfl (by rw [hml]; rfl) (Steps.refl _) (argsL := [(.int ch), (.int (0 : Int32))]) (rest := []) (lenOf pd__40II_41I rfl) rfl (by show 2 * 0 + _ ≤ _; exact Nat.le_of_eq rfl) (hb hby D6_3.1) (fun _ _ => ⟨rfl, e0, (by decide : 0 + 0 ≤ _), (by decide : 0 + 0 ≤ _)⟩)
  dsimp only [Pt.U, Pt.locs, Pt.cells, Pt.slots] at X1 l1 y1 z1 st1 hQ1
  subst l1 y1 z1
  obtain ⟨rfl, N1q, e1⟩ := hQ1
  have N1 := Fr.app N0 N1q
  refine own_pre (A' := T1.setTop (mkF m 6 #[.val (.ref st), .val (.int ch)] [(.int (own_ix2 ch c0 c1))])) (fun t k => st1.trans k) ?_
  exact own_ret (v := some (.int (own_ix2 ch c0 c1))) X1 (fun h => by first | rfl | (rw [Bd.returns] at h; cases h)) (BodyLoose.notSynchronized Bd) (by decide) (by decide) (⟨rfl, N1, e1⟩) (fun fs hr => retI X1 hx Bd.returns (hb hby D6_6.1) hr)
theorem ef_rs_x23 (m : MethodId) (st : Addr) (ch : Int32) : entryFrame m #[(.ref st), (.int ch), (.int (0 : Int32))] 3 = mkF m 0 #[.val (.ref st), .val (.int ch), .val (.int (0 : Int32))] [] := by first | (simp [entryFrame, mkF, argsToLocals, Value.category]; done) | rfl
set_option maxRecDepth 65536 in
set_option maxHeartbeats 40000000 in
theorem rs_x23 (l : Launch) (Z : State) (a0 : Array Value) (hw : ∀ d ∈ tables_1, d.before a0 Z = true) (ws : List Jvm.Cond) (st : Addr) (ch : Int32) (vb : Addr) (kb : ClassId) (c0 c1 c2 : Int32) (cs : Int32) (vf : Value) (h0 : Heap) (n0 : Nat) (Z0 : n0 ≤ h0.size) (hST : own_ST Z cs vf) (O0 : Old Z n0 h0) (hS : own_Str3 Z h0 st vb kb c0 c1 c2) (hc0 : own_ch16 c0) (hc1 : own_ch16 c1) (hc2 : own_ch16 c2) (hn : own_nl ch) :
    MetFree l (⟨"java/lang/String", "indexOf", "(II)I"⟩ : MethodName) (head1 (Jvm.Cond.code (⟨"java/lang/String", "indexOf", "(II)I"⟩ : MethodName) jdk_42_method_80_code 3 (some .int) :: ws) ({ frames := 5, cells := 0, slots := 0, locals := 73 } : Room)) (fun a U => a = #[(.ref st), (.int ch), (.int (0 : Int32))] ∧ Z.Warmed39 U.vm ∧ U.heap = h0) (fun _ _ _ _ _ => True) (fun _ U o U' => ∃ v L, o = .returned v ∧ own_QP (.int (own_ix3 ch c0 c1 c2)) h0 n0 v U'.heap L ∧ FrameEnd U o U' L ({ frames := 5, cells := 0, slots := 0, locals := 73 } : Room).cells ({ frames := 5, cells := 0, slots := 0, locals := 73 } : Room).slots) := by
  refine MetFree.of_bodySF (plainFor_of_name pn_java_lang_String) hisR ?_
  intro p e s m args below meth c s₁ Bd hml0 hP hK
  obtain ⟨rfl, hZ, hh⟩ := hP
  have hx := Bd.exec
  have hby := Bd.bytes
  have hml : c.maxLocals = 3 := hml0
  have hown : s.vm.findClass "java/lang/String" = some m.cls := findClass_of_methodNamed Bd.named
  have hnm := (name_of_methodNamed Bd.named Bd.method).1
  have X0 : Stand p l e ({ frames := 5, cells := 0, slots := 0, locals := 73 } : Room) s m #[(.ref st), (.int ch), (.int (0 : Int32))] below meth c s₁ [] 0 0 := Stand.of_body Bd
  have e0 : s₁.heap = h0 := by rw [← hh, Bd.state]; rfl
  have N0 := Fr.nil n0
  refine own_start (ef_rs_x23 m st ch) ?_
  have hST0 := hST
  obtain ⟨S_cs, S_ad, S_hb, S_lb, S_sf, hcs, hvf⟩ := hST
  obtain ⟨E_st, F_v, ⟨F_c, hl0, hl1, hl2, Vb⟩ | ⟨F_c, Vb⟩⟩ := hS
  · skip
    refine o_aloadN X0 hx hby D7_0 rfl rfl ?_
    obtain ⟨cq1, kq1, q1a, q1b, q1c⟩ := isOf hZ e0 E_st
    obtain ⟨_, _, ⟨T1, L1, k1, n1⟩, -, X1, ⟨Lc1, hQ1, l1, y1, z1⟩, st1⟩ := X0.virtualBack hx (y := (⟨"java/lang/String", "isLatin1", "()Z"⟩ : MethodName)) (z := (⟨"java/lang/String", "isLatin1", "()Z"⟩ : MethodName)) hown (mvT hZ (own_wd hw (i := 40) rfl)) (mvT hZ (own_wd hw (i := 41) rfl)) (notFace_of_selects (args := #[]) (mvT hZ (own_wd hw (i := 43) rfl))) (mvT hZ (own_wd hw (i := 43) rfl)) (mvT hZ (own_wd hw (i := 42) rfl)) (by decide) (backOf (W := 0) (rs_il0 l Z a0 hw [] st cs vf h0 n0 Z0 hST0 O0 F_c) hZ (own_wd hw (i := 44) rfl) (own_wd hw (i := 7) rfl) (by decide) (by decide)) q1a q1c (g := (mkF m 1 #[.val (.ref st), .val (.int ch), .val (.int (0 : Int32))] [(.ref st)])) rfl (by rw [hml]; rfl) (Steps.refl _) (argsL := []) (rest := []) (lenOf pd__40_41Z rfl) rfl (by show 2 * 0 + _ ≤ _; exact Nat.le_of_eq rfl) (hb hby D7_1.1) (fun _ _ => ⟨rfl, e0, (by decide : 0 + 0 ≤ _), (by decide : 0 + 0 ≤ _)⟩)
    dsimp only [Pt.U, Pt.locs, Pt.cells, Pt.slots] at X1 l1 y1 z1 st1 hQ1
    subst l1 y1 z1
    obtain ⟨rfl, N1q, e1⟩ := hQ1
    have N1 := Fr.app N0 N1q
    refine own_pre (A' := T1.setTop (mkF m 4 #[.val (.ref st), .val (.int ch), .val (.int (0 : Int32))] [(.int (1 : Int32))])) (fun t k => st1.trans k) ?_
    refine o_ifN X1 hx hby D7_4 ((if0 _ _).trans (feq (by decide : ¬ ((1 : Int32) = (0 : Int32)))).1) ?_
    refine o_aloadN X1 hx hby D7_7 rfl rfl ?_
    obtain ⟨T2, X2, e2, st2⟩ := getF X1 hx hZ hown (host := "") (Or.inl (own_wd hw (i := 24) rfl)) Via.refl e1 F_v (g := (mkF m 8 #[.val (.ref st), .val (.int ch), .val (.int (0 : Int32))] [(.ref st)])) rfl rfl (hb hby D7_8.1)
    refine own_pre (A' := T2.setTop (mkF m 11 #[.val (.ref st), .val (.int ch), .val (.int (0 : Int32))] [(.ref vb)])) st2 ?_
    refine o_iloadN X2 hx hby D7_11 rfl ?_
    refine o_iloadN X2 hx hby D7_12 rfl ?_
    refine o_aloadN X2 hx hby D7_13 rfl rfl ?_
    obtain ⟨cq3, kq3, q3a, q3b, q3c⟩ := isOf hZ e2 E_st
    obtain ⟨_, _, ⟨T3, L3, k3, n3⟩, -, X3, ⟨Lc3, hQ3, l3, y3, z3⟩, st3⟩ := X2.virtualBack hx (y := (⟨"java/lang/String", "length", "()I"⟩ : MethodName)) (z := (⟨"java/lang/String", "length", "()I"⟩ : MethodName)) hown (mvT hZ (own_wd hw (i := 46) rfl)) (mvT hZ (own_wd hw (i := 47) rfl)) (notFace_of_selects (args := #[]) (mvT hZ (own_wd hw (i := 49) rfl))) (mvT hZ (own_wd hw (i := 49) rfl)) (mvT hZ (own_wd hw (i := 48) rfl)) (by decide) (backOf (W := 3) (rs_ln30 l Z a0 hw [] st vb kb [(.int (own_l8 c0)), (.int (own_l8 c1)), (.int (own_l8 c2))] cs vf h0 n0 Z0 hST0 O0 E_st F_c F_v Vb) hZ (own_wd hw (i := 50) rfl) (own_wd hw (i := 7) rfl) (by decide) (by decide)) q3a q3c (g := (mkF m 14 #[.val (.ref st), .val (.int ch), .val (.int (0 : Int32))] [(.ref st), (.int (0 : Int32)), (.int ch), (.ref vb)])) rfl (by rw [hml]; rfl) (Steps.refl _) (argsL := []) (rest := [(.int (0 : Int32)), (.int ch), (.ref vb)]) (lenOf pd__40_41I rfl) rfl (by show 2 * 0 + _ ≤ _; exact Nat.le_of_eq rfl) (hb hby D7_14.1) (fun _ _ => ⟨rfl, e2, (by decide : 0 + 0 ≤ _), (by decide : 0 + 0 ≤ _)⟩)
    dsimp only [Pt.U, Pt.locs, Pt.cells, Pt.slots] at X3 l3 y3 z3 st3 hQ3
    subst l3 y3 z3
    obtain ⟨rfl, N3q, e3⟩ := hQ3
    have N3 := Fr.app N1 N3q
    refine own_pre (A' := T3.setTop (mkF m 17 #[.val (.ref st), .val (.int ch), .val (.int (0 : Int32))] [(.int (3 : Int32)), (.int (0 : Int32)), (.int ch), (.ref vb)])) (fun t k => st3.trans k) ?_
    obtain ⟨_, _, ⟨T4, L4, k4, n4⟩, -, X4, ⟨Lc4, hQ4, l4, y4, z4⟩, st4⟩ := Jvm.LawKit.callS X3 hx (y := (⟨"java/lang/StringLatin1", "indexOf", "([BIII)I"⟩ : MethodName)) hown (mvT hZ (own_wd hw (i := 56) rfl)) (mvT hZ (own_wd hw (i := 57) rfl)) (mvT hZ (own_wd hw (i := 58) rfl)) (mvT hZ (own_wd hw (i := 59) rfl)) (by decide) (backOf (W := 0) (rs_li3 l Z a0 hw [] vb ch kb c0 c1 c2 h0 n0 Z0 Vb hc0 hl0 hc1 hl1 hc2 hl2 hn) hZ (own_wd hw (i := 59) rfl) (own_wd hw (i := 58) rfl) (by decide) (by decide)) (g := (mkF m 17 #[.val (.ref st), .val (.int ch), .val (.int (0 : Int32))] [(.int (3 : Int32)), (.int (0 : Int32)), (.int ch), (.ref vb)])) rfl (by rw [hml]; rfl) (argsL := [(.ref vb), (.int ch), (.int (0 : Int32)), (.int (3 : Int32))]) (rest := []) (lenOf pd__40_91BIII_41I rfl) rfl (by show 2 * 0 + _ ≤ _; exact Nat.le_of_eq rfl) (hb hby D7_17.1) (fun _ _ => ⟨rfl, e3, (by decide : 0 + 0 ≤ _), (by decide : 0 + 0 ≤ _)⟩)
    dsimp only [Pt.U, Pt.locs, Pt.cells, Pt.slots] at X4 l4 y4 z4 st4 hQ4
    subst l4 y4 z4
    obtain ⟨rfl, N4q, e4⟩ := hQ4
    have N4 := Fr.app N3 N4q
    refine own_pre (A' := T4.setTop (mkF m 20 #[.val (.ref st), .val (.int ch), .val (.int (0 : Int32))] [(.int (own_ix3 ch c0 c1 c2))])) st4 ?_
    refine o_goto X4 hx hby D7_20 (q := 36) (by decide) (by decide) ?_
    exact own_ret (v := some (.int (own_ix3 ch c0 c1 c2))) X4 (fun h => by first | rfl | (rw [Bd.returns] at h; cases h)) (BodyLoose.notSynchronized Bd) (by decide) (by decide) (⟨rfl, N4, e4⟩) (fun fs hr => retI X4 hx Bd.returns (hb hby D7_36.1) hr)
  · skip
    refine o_aloadN X0 hx hby D7_0 rfl rfl ?_
    obtain ⟨cq5, kq5, q5a, q5b, q5c⟩ := isOf hZ e0 E_st
    obtain ⟨_, _, ⟨T5, L5, k5, n5⟩, -, X5, ⟨Lc5, hQ5, l5, y5, z5⟩, st5⟩ := X0.virtualBack hx (y := (⟨"java/lang/String", "isLatin1", "()Z"⟩ : MethodName)) (z := (⟨"java/lang/String", "isLatin1", "()Z"⟩ : MethodName)) hown (mvT hZ (own_wd hw (i := 40) rfl)) (mvT hZ (own_wd hw (i := 41) rfl)) (notFace_of_selects (args := #[]) (mvT hZ (own_wd hw (i := 43) rfl))) (mvT hZ (own_wd hw (i := 43) rfl)) (mvT hZ (own_wd hw (i := 42) rfl)) (by decide) (backOf (W := 0) (rs_il1 l Z a0 hw [] st cs vf h0 n0 Z0 hST0 O0 F_c) hZ (own_wd hw (i := 44) rfl) (own_wd hw (i := 7) rfl) (by decide) (by decide)) q5a q5c (g := (mkF m 1 #[.val (.ref st), .val (.int ch), .val (.int (0 : Int32))] [(.ref st)])) rfl (by rw [hml]; rfl) (Steps.refl _) (argsL := []) (rest := []) (lenOf pd__40_41Z rfl) rfl (by show 2 * 0 + _ ≤ _; exact Nat.le_of_eq rfl) (hb hby D7_1.1) (fun _ _ => ⟨rfl, e0, (by decide : 0 + 0 ≤ _), (by decide : 0 + 0 ≤ _)⟩)
    dsimp only [Pt.U, Pt.locs, Pt.cells, Pt.slots] at X5 l5 y5 z5 st5 hQ5
    subst l5 y5 z5
    obtain ⟨rfl, N5q, e5⟩ := hQ5
    have N5 := Fr.app N0 N5q
    refine own_pre (A' := T5.setTop (mkF m 4 #[.val (.ref st), .val (.int ch), .val (.int (0 : Int32))] [(.int (0 : Int32))])) (fun t k => st5.trans k) ?_
    refine o_ifY X5 hx hby D7_4 ((if0 _ _).trans (teq (by decide : (0 : Int32) = (0 : Int32))).1) (q := 23) (by decide) (by decide) ?_
    refine o_aloadN X5 hx hby D7_23 rfl rfl ?_
    obtain ⟨T6, X6, e6, st6⟩ := getF X5 hx hZ hown (host := "") (Or.inl (own_wd hw (i := 24) rfl)) Via.refl e5 F_v (g := (mkF m 24 #[.val (.ref st), .val (.int ch), .val (.int (0 : Int32))] [(.ref st)])) rfl rfl (hb hby D7_24.1)
    refine own_pre (A' := T6.setTop (mkF m 27 #[.val (.ref st), .val (.int ch), .val (.int (0 : Int32))] [(.ref vb)])) st6 ?_
    refine o_iloadN X6 hx hby D7_27 rfl ?_
    refine o_iloadN X6 hx hby D7_28 rfl ?_
    refine o_aloadN X6 hx hby D7_29 rfl rfl ?_
    obtain ⟨cq7, kq7, q7a, q7b, q7c⟩ := isOf hZ e6 E_st
    obtain ⟨_, _, ⟨T7, L7, k7, n7⟩, -, X7, ⟨Lc7, hQ7, l7, y7, z7⟩, st7⟩ := X6.virtualBack hx (y := (⟨"java/lang/String", "length", "()I"⟩ : MethodName)) (z := (⟨"java/lang/String", "length", "()I"⟩ : MethodName)) hown (mvT hZ (own_wd hw (i := 46) rfl)) (mvT hZ (own_wd hw (i := 47) rfl)) (notFace_of_selects (args := #[]) (mvT hZ (own_wd hw (i := 49) rfl))) (mvT hZ (own_wd hw (i := 49) rfl)) (mvT hZ (own_wd hw (i := 48) rfl)) (by decide) (backOf (W := 3) (rs_ln31 l Z a0 hw [] st vb kb [(.int (own_lo c0)), (.int (own_hi c0)), (.int (own_lo c1)), (.int (own_hi c1)), (.int (own_lo c2)), (.int (own_hi c2))] cs vf h0 n0 Z0 hST0 O0 E_st F_c F_v Vb) hZ (own_wd hw (i := 50) rfl) (own_wd hw (i := 7) rfl) (by decide) (by decide)) q7a q7c (g := (mkF m 30 #[.val (.ref st), .val (.int ch), .val (.int (0 : Int32))] [(.ref st), (.int (0 : Int32)), (.int ch), (.ref vb)])) rfl (by rw [hml]; rfl) (Steps.refl _) (argsL := []) (rest := [(.int (0 : Int32)), (.int ch), (.ref vb)]) (lenOf pd__40_41I rfl) rfl (by show 2 * 0 + _ ≤ _; exact Nat.le_of_eq rfl) (hb hby D7_30.1) (fun _ _ => ⟨rfl, e6, (by decide : 0 + 0 ≤ _), (by decide : 0 + 0 ≤ _)⟩)
    dsimp only [Pt.U, Pt.locs, Pt.cells, Pt.slots] at X7 l7 y7 z7 st7 hQ7
    subst l7 y7 z7
    obtain ⟨rfl, N7q, e7⟩ := hQ7
    have N7 := Fr.app N5 N7q
    refine own_pre (A' := T7.setTop (mkF m 33 #[.val (.ref st), .val (.int ch), .val (.int (0 : Int32))] [(.int (3 : Int32)), (.int (0 : Int32)), (.int ch), (.ref vb)])) (fun t k => st7.trans k) ?_
    obtain ⟨_, _, ⟨T8, L8, k8, n8⟩, -, X8, ⟨Lc8, hQ8, l8, y8, z8⟩, st8⟩ := Jvm.LawKit.callS X7 hx (y := (⟨"java/lang/StringUTF16", "indexOf", "([BIII)I"⟩ : MethodName)) hown (mvT hZ (own_wd hw (i := 106) rfl)) (mvT hZ (own_wd hw (i := 107) rfl)) (mvT hZ (own_wd hw (i := 72) rfl)) (mvT hZ (own_wd hw (i := 108) rfl)) (by decide) (backOf (W := 0) (rs_ui3 l Z a0 hw [] vb ch kb c0 c1 c2 cs vf h0 n0 Z0 hST0 O0 Vb hc0 hc1 hc2 hn) hZ (own_wd hw (i := 108) rfl) (own_wd hw (i := 72) rfl) (by decide) (by decide)) (g := (mkF m 33 #[.val (.ref st), .val (.int ch), .val (.int (0 : Int32))] [(.int (3 : Int32)), (.int (0 : Int32)), (.int ch), (.ref vb)])) rfl (by rw [hml]; rfl) (argsL := [(.ref vb), (.int ch), (.int (0 : Int32)), (.int (3 : Int32))]) (rest := []) (lenOf pd__40_91BIII_41I rfl) rfl (by show 2 * 0 + _ ≤ _; exact Nat.le_of_eq rfl) (hb hby D7_33.1) (fun _ _ => ⟨rfl, e7, (by decide : 0 + 0 ≤ _), (by decide : 0 + 0 ≤ _)⟩)
    dsimp only [Pt.U, Pt.locs, Pt.cells, Pt.slots] at X8 l8 y8 z8 st8 hQ8
    subst l8 y8 z8
    obtain ⟨rfl, N8q, e8⟩ := hQ8
    have N8 := Fr.app N7 N8q
    refine own_pre (A' := T8.setTop (mkF m 36 #[.val (.ref st), .val (.int ch), .val (.int (0 : Int32))] [(.int (own_ix3 ch c0 c1 c2))])) st8 ?_
    exact own_ret (v := some (.int (own_ix3 ch c0 c1 c2))) X8 (fun h => by first | rfl | (rw [Bd.returns] at h; cases h)) (BodyLoose.notSynchronized Bd) (by decide) (by decide) (⟨rfl, N8, e8⟩) (fun fs hr => retI X8 hx Bd.returns (hb hby D7_36.1) hr)
theorem ef_rs_x13 (m : MethodId) (st : Addr) (ch : Int32) : entryFrame m #[(.ref st), (.int ch)] 2 = mkF m 0 #[.val (.ref st), .val (.int ch)] [] := by first | (simp [entryFrame, mkF, argsToLocals, Value.category]; done) | rfl
set_option maxRecDepth 65536 in
set_option maxHeartbeats 40000000 in
theorem rs_x13 (l : Launch) (Z : State) (a0 : Array Value) (hw : ∀ d ∈ tables_1, d.before a0 Z = true) (ws : List Jvm.Cond) (st : Addr) (ch : Int32) (vb : Addr) (kb : ClassId) (c0 c1 c2 : Int32) (cs : Int32) (vf : Value) (h0 : Heap) (n0 : Nat) (Z0 : n0 ≤ h0.size) (hST : own_ST Z cs vf) (O0 : Old Z n0 h0) (hS : own_Str3 Z h0 st vb kb c0 c1 c2) (hc0 : own_ch16 c0) (hc1 : own_ch16 c1) (hc2 : own_ch16 c2) (hn : own_nl ch) :
    MetFree l (⟨"java/lang/String", "indexOf", "(I)I"⟩ : MethodName) (head1 (Jvm.Cond.code (⟨"java/lang/String", "indexOf", "(I)I"⟩ : MethodName) jdk_42_method_79_code 2 (some .int) :: ws) ({ frames := 6, cells := 0, slots := 0, locals := 87 } : Room)) (fun a U => a = #[(.ref st), (.int ch)] ∧ Z.Warmed39 U.vm ∧ U.heap = h0) (fun _ _ _ _ _ => True) (fun _ U o U' => ∃ v L, o = .returned v ∧ own_QP (.int (own_ix3 ch c0 c1 c2)) h0 n0 v U'.heap L ∧ FrameEnd U o U' L ({ frames := 6, cells := 0, slots := 0, locals := 87 } : Room).cells ({ frames := 6, cells := 0, slots := 0, locals := 87 } : Room).slots) := by
  refine MetFree.of_bodySF (plainFor_of_name pn_java_lang_String) hisR ?_
  intro p e s m args below meth c s₁ Bd hml0 hP hK
  obtain ⟨rfl, hZ, hh⟩ := hP
  have hx := Bd.exec
  have hby := Bd.bytes
  have hml : c.maxLocals = 2 := hml0
  have hown : s.vm.findClass "java/lang/String" = some m.cls := findClass_of_methodNamed Bd.named
  have hnm := (name_of_methodNamed Bd.named Bd.method).1
  have X0 : Stand p l e ({ frames := 6, cells := 0, slots := 0, locals := 87 } : Room) s m #[(.ref st), (.int ch)] below meth c s₁ [] 0 0 := Stand.of_body Bd
  have e0 : s₁.heap = h0 := by rw [← hh, Bd.state]; rfl
  have N0 := Fr.nil n0
  refine own_start (ef_rs_x13 m st ch) ?_
  have hST0 := hST
  refine o_aloadN X0 hx hby D6_0 rfl rfl ?_
  refine o_iloadN X0 hx hby D6_1 rfl ?_
  refine o_iconst X0 hx hby D6_2 (v := 0) rfl ?_
  obtain ⟨cq1, kq1, q1a, q1b, q1c⟩ := isOf hZ e0 hS.1
  obtain ⟨_, _, ⟨T1, L1, k1, n1⟩, -, X1, ⟨Lc1, hQ1, l1, y1, z1⟩, st1⟩ := X0.virtualBack hx (y := (⟨"java/lang/String", "indexOf", "(II)I"⟩ : MethodName)) (z := (⟨"java/lang/String", "indexOf", "(II)I"⟩ : MethodName)) hown (mvT hZ (own_wd hw (i := 35) rfl)) (mvT hZ (own_wd hw (i := 36) rfl)) (notFace_of_selects (args := #[]) (mvT hZ (own_wd hw (i := 38) rfl))) (mvT hZ (own_wd hw (i := 38) rfl)) (mvT hZ (own_wd hw (i := 37) rfl)) (by decide) (backOf (W := 0) (rs_x23 l Z a0 hw [] st ch vb kb c0 c1 c2 cs vf h0 n0 Z0 hST0 O0 hS hc0 hc1 hc2 hn) hZ (own_wd hw (i := 39) rfl) (own_wd hw (i := 7) rfl) (by decide) (by decide)) q1a q1c (g := (mkF m 3 #[.val (.ref st), .val (.int ch)] [(.int (0 : Int32)), (.int ch), (.ref st)])) rfl (by rw [hml]; rfl) (Steps.refl _) (argsL := [(.int ch), (.int (0 : Int32))]) (rest := []) (lenOf pd__40II_41I rfl) rfl (by show 2 * 0 + _ ≤ _; exact Nat.le_of_eq rfl) (hb hby D6_3.1) (fun _ _ => ⟨rfl, e0, (by decide : 0 + 0 ≤ _), (by decide : 0 + 0 ≤ _)⟩)
  dsimp only [Pt.U, Pt.locs, Pt.cells, Pt.slots] at X1 l1 y1 z1 st1 hQ1
  subst l1 y1 z1
  obtain ⟨rfl, N1q, e1⟩ := hQ1
  have N1 := Fr.app N0 N1q
  refine own_pre (A' := T1.setTop (mkF m 6 #[.val (.ref st), .val (.int ch)] [(.int (own_ix3 ch c0 c1 c2))])) (fun t k => st1.trans k) ?_
  exact own_ret (v := some (.int (own_ix3 ch c0 c1 c2))) X1 (fun h => by first | rfl | (rw [Bd.returns] at h; cases h)) (BodyLoose.notSynchronized Bd) (by decide) (by decide) (⟨rfl, N1, e1⟩) (fun fs hr => retI X1 hx Bd.returns (hb hby D6_6.1) hr)

def own_EL : List (String × Nat) := [("java/lang/String", 7)]
def own_RS (Z : State) (s : State) (below : List Frame) (Q : Option Value → Heap → List Loc → Prop) (C S : Nat) (t : State) (o : Outcome) : Prop :=
  t.status = .running ∧ Ended t below o ∧ ∃ v L, o = .returned v ∧ Q v t.heap L ∧ CHr Z own_EL s.vm s.heap t.vm t.heap ∧ ReturnedEndW s o t L C S
theorem own_startS {tb : Tables} {e : Env} {below : List Frame} {Z s T : State} {Q : Option Value → Heap → List Loc → Prop} {C S : Nat} {g g' : JFrame} (q : g = g') (k : own_Fin tb e below (own_RS Z s below Q C S) (T.setTop g')) :
    ∃ s₂ o, Steps tb e below (T.setTop g) s₂ ∧ s₂.status = .running ∧ Ended s₂ below o ∧ ∃ v L, o = .returned v ∧ Q v s₂.heap L ∧ CHr Z own_EL s.vm s.heap s₂.vm s₂.heap ∧ ReturnedEndW s o s₂ L C S := by
  subst q; exact k
def own_RW (s : State) (below : List Frame) (Q : Option Value → Heap → List Loc → Prop) (C S : Nat) (t : State) (o : Outcome) : Prop :=
  t.status = .running ∧ Ended t below o ∧ ∃ v L, o = .returned v ∧ Q v t.heap L ∧ ReturnedEndW s o t L C S
theorem own_startW {tb : Tables} {e : Env} {below : List Frame} {s T : State} {Q : Option Value → Heap → List Loc → Prop} {C S : Nat} {g g' : JFrame} (q : g = g') (k : own_Fin tb e below (own_RW s below Q C S) (T.setTop g')) :
    ∃ s₂ o, Steps tb e below (T.setTop g) s₂ ∧ s₂.status = .running ∧ Ended s₂ below o ∧ ∃ v L, o = .returned v ∧ Q v s₂.heap L ∧ ReturnedEndW s o s₂ L C S := by
  subst q; exact k
section RetS
variable {p : Program} {l : Launch} {e : Env} {R : Room} {s : State} {m : MethodId} {args : Array Value} {below : List Frame} {meth : Method} {c : Code} {T : State} {locs : List Loc} {cells slots : Nat} {Z : State} {vm0 : Vm} {k0 : Nat}
theorem own_retS {Q : Option Value → Heap → List Loc → Prop} {C S : Nat} {A : State} {v : Option Value} (X : Stand p l e R (s.setVm vm0) m args below meth c T locs cells slots) (hS : s.Since vm0 k0) (hk : k0 ≤ T.heap.size) (hCH : CHr Z own_EL s.vm s.heap T.vm T.heap) (hv : meth.sig.returnType = none → v = none) (hlocks : meth.locks = false) (hc : cells ≤ C) (hs : slots ≤ S) (hQ : Q v T.heap locs)
    (hstep : ∀ fs, (∀ (f : JFrame) (acts : List Action), f.method = m → f.locked = none → f.entered = [] → (doReturn e (T.setTop f) acts v).1 = T.setFrames fs) → Steps p.tables e below A (T.setFrames fs)) : own_Fin p.tables e below (own_RS Z s below Q C S) A := by
  obtain ⟨fs, hr, hrun, hended, hW, hsame⟩ := X.leave hv hlocks
  obtain ⟨h1, h2, h3⟩ := hS.ended hW hk hsame
  exact ⟨_, _, hstep fs hr, hrun, hended, _, _, rfl, hQ, hCH, ⟨_, rfl⟩, h1, h2, h3.mono hc hs⟩
theorem own_retWS {Q : Option Value → Heap → List Loc → Prop} {C S : Nat} {A : State} {v : Option Value} (X : Stand p l e R (s.setVm vm0) m args below meth c T locs cells slots) (hS : s.Since vm0 k0) (hk : k0 ≤ T.heap.size) (hv : meth.sig.returnType = none → v = none) (hlocks : meth.locks = false) (hc : cells ≤ C) (hs : slots ≤ S) (hQ : Q v T.heap locs)
    (hstep : ∀ fs, (∀ (f : JFrame) (acts : List Action), f.method = m → f.locked = none → f.entered = [] → (doReturn e (T.setTop f) acts v).1 = T.setFrames fs) → Steps p.tables e below A (T.setFrames fs)) : own_Fin p.tables e below (own_RW s below Q C S) A := by
  obtain ⟨fs, hr, hrun, hended, hW, hsame⟩ := X.leave hv hlocks
  obtain ⟨h1, h2, h3⟩ := hS.ended hW hk hsame
  exact ⟨_, _, hstep fs hr, hrun, hended, _, _, rfl, hQ, ⟨_, rfl⟩, h1, h2, h3.mono hc hs⟩
theorem own_retW {Q : Option Value → Heap → List Loc → Prop} {C S : Nat} {A : State} {v : Option Value} (X : Stand p l e R s m args below meth c T locs cells slots) (hv : meth.sig.returnType = none → v = none) (hlocks : meth.locks = false) (hc : cells ≤ C) (hs : slots ≤ S) (hQ : Q v T.heap locs)
    (hstep : ∀ fs, (∀ (f : JFrame) (acts : List Action), f.method = m → f.locked = none → f.entered = [] → (doReturn e (T.setTop f) acts v).1 = T.setFrames fs) → Steps p.tables e below A (T.setFrames fs)) : own_Fin p.tables e below (own_RW s below Q C S) A := by
  obtain ⟨fs, hr, hrun, hended, hW, hsame⟩ := X.leave hv hlocks
  exact ⟨_, _, hstep fs hr, hrun, hended, _, _, rfl, hQ, ReturnedEndW.of_narrow ⟨_, rfl⟩ hW (hsame.mono hc hs)⟩
end RetS

theorem own_safe {Z : State} {EL : List (String × Nat)} {vm : Vm} {h : Heap} {x : Addr} (hal : Z.vm.Alike vm) (E : Exa Z h x "java/lang/String") (F : Fld Z h x "java/lang/String" "value" "[B" .null) : Safe Z EL vm h x := fun B => by
  obtain ⟨cell, k, e1, e2, e3, -, -⟩ := E
  obtain ⟨cell', cf, kf, i, f, g1, g2, g3, g4, -, -, g7⟩ := F
  obtain ⟨p, -, u, a, -, q, -, G, rfl | rfl⟩ := B
  · cases (show h[q.sa]? = some q.sC from G.ha).symm.trans g1
    obtain ⟨cS, ⟨⟨-, -, -, ⟨c1, k1, i1, f1, -⟩, -, -, -, v1, -⟩, -⟩, -⟩ := G
    obtain ⟨k3, e5, -⟩ := State.fieldFound?_setVm (s := Z) hal g2
    have e4 := (show (Wst Z vm h).fieldFound? _ _ _ = _ from e5).symm.trans f1
    simp only [Option.some.injEq, Prod.mk.injEq] at e4
    rw [← e4.2.2.2, g7] at v1
    simp at v1
  · cases (show h[q.sd]? = some q.SA from G.hd).symm.trans e1
    obtain ⟨cS, -, -, fb, -⟩ := G
    have fb' : Z.vm.findClass "[B" = some q.SA.cls := by rw [← hal.findClass]; exact fb
    obtain ⟨k1, q1, q2⟩ := Vm.findClass_spec fb'
    obtain ⟨k2, q3, q4⟩ := Vm.findClass_spec e2
    cases q1.symm.trans q3
    exact absurd (q2.symm.trans q4) (by decide)
theorem own_wS {Z : State} {a0 : Array Value} (hw : ∀ d ∈ tables_1, d.before a0 Z = true) : ∀ a ∈ Bundle.stringAtoms, a.before a0 Z = true := by
  intro a ha
  simp only [Bundle.stringAtoms, List.mem_cons, List.not_mem_nil, or_false] at ha
  rcases ha with rfl | rfl | rfl | rfl | rfl | rfl | rfl
  · exact (own_wd hw (i := 7) rfl)
  · exact (own_wd hw (i := 6) rfl)
  · exact (own_wd hw (i := 19) rfl)
  · exact (own_wd hw (i := 20) rfl)
  · exact (own_wd hw (i := 21) rfl)
  · exact (own_wd hw (i := 22) rfl)
  · exact (own_wd hw (i := 23) rfl)
theorem own_ew {Z : State} {a0 : Array Value} (hw : ∀ d ∈ tables_1, d.before a0 Z = true) : EW Z a0 own_EL := EW.cons (text := "") (own_wd hw (i := 18) rfl) (fun c hc => by cases hc) EW.nil
def own_QI0 (Z : State) (a1 : Addr) (h0 : Heap) (n0 : Nat) (v : Option Value) (h : Heap) (L : List Loc) : Prop := ∃ (vb : Nat) (kb : ClassId), v = none ∧ Fr n0 L ∧ Keep h0 h [a1] ∧ vb < h.size ∧ own_Str0 Z h a1 vb kb
theorem D3_8 : own_at jdk_42_method_149_code 8 (.aload_n 0) 1 9 := ⟨by decide +kernel, rfl⟩
theorem D3_9 : own_at jdk_42_method_149_code 9 (.ldc 7) 2 11 := ⟨by decide +kernel, rfl⟩
theorem D3_11 : own_at jdk_42_method_149_code 11 (.getfield 9) 3 14 := ⟨by decide +kernel, rfl⟩
theorem D3_14 : own_at jdk_42_method_149_code 14 (.putfield 9) 3 17 := ⟨by decide +kernel, rfl⟩
theorem D3_17 : own_at jdk_42_method_149_code 17 (.aload_n 0) 1 18 := ⟨by decide +kernel, rfl⟩
theorem D3_18 : own_at jdk_42_method_149_code 18 (.ldc 7) 2 20 := ⟨by decide +kernel, rfl⟩
theorem D3_20 : own_at jdk_42_method_149_code 20 (.getfield 15) 3 23 := ⟨by decide +kernel, rfl⟩
theorem D3_23 : own_at jdk_42_method_149_code 23 (.putfield 15) 3 26 := ⟨by decide +kernel, rfl⟩
theorem D3_26 : own_at jdk_42_method_149_code 26 (.return_) 1 27 := ⟨by decide +kernel, rfl⟩
theorem ef_rs_i40 (m : MethodId) (a1 : Addr) (ca : Addr) : entryFrame m #[(.ref a1), (.ref ca), (.int (0 : Int32)), (.int (0 : Int32)), .null] 6 = mkF m 0 #[.val (.ref a1), .val (.ref ca), .val (.int (0 : Int32)), .val (.int (0 : Int32)), .val .null, .unset] [] := by first | (simp [entryFrame, mkF, argsToLocals, Value.category]; done) | rfl
set_option maxRecDepth 65536 in
set_option maxHeartbeats 40000000 in
theorem rs_i40 (l : Launch) (Z : State) (a0 : Array Value) (hw : ∀ d ∈ tables_1, d.before a0 Z = true) (ws : List Jvm.Cond) (a1 : Addr) (ca : Addr) (u1 : Value) (h0 : Heap) (n0 : Nat) (Z0 : n0 ≤ h0.size) (gn_a1 : n0 ≤ a1) (E_a1 : Exa Z h0 a1 "java/lang/String") (F_v : Fld Z h0 a1 "java/lang/String" "value" "[B" .null) (F_c : Fld Z h0 a1 "java/lang/String" "coder" "B" u1) :
    MetFree l (⟨"java/lang/String", "<init>", "([CIILjava/lang/Void;)V"⟩ : MethodName) (head1 (Jvm.Cond.code (⟨"java/lang/String", "<init>", "([CIILjava/lang/Void;)V"⟩ : MethodName) jdk_42_method_149_code 6 none :: ws) ({ frames := 1, cells := 2, slots := 4, locals := 12 } : Room)) (fun a U => a = #[(.ref a1), (.ref ca), (.int (0 : Int32)), (.int (0 : Int32)), .null] ∧ Z.Warmed39 U.vm ∧ U.heap = h0 ∧ CHv Z own_EL U.vm h0) (fun _ _ _ _ _ => True) (fun _ U o U' => ∃ v L, o = .returned v ∧ own_QI0 Z a1 h0 n0 v U'.heap L ∧ CHr Z own_EL U.vm U.heap U'.vm U'.heap ∧ ReturnedEndW U o U' L ({ frames := 1, cells := 2, slots := 4, locals := 12 } : Room).cells ({ frames := 1, cells := 2, slots := 4, locals := 12 } : Room).slots) := by
  refine MetFree.of_bodySF (plainFor_of_name pn_java_lang_String) hisR ?_
  intro p e s m args below meth c s₁ Bd hml0 hP hK
  obtain ⟨rfl, hZ, hh, hCH⟩ := hP
  have hx := Bd.exec
  have hby := Bd.bytes
  have hml : c.maxLocals = 6 := hml0
  have hown : s.vm.findClass "java/lang/String" = some m.cls := findClass_of_methodNamed Bd.named
  have hnm := (name_of_methodNamed Bd.named Bd.method).1
  have X0 : Stand p l e ({ frames := 1, cells := 2, slots := 4, locals := 12 } : Room) s m #[(.ref a1), (.ref ca), (.int (0 : Int32)), (.int (0 : Int32)), .null] below meth c s₁ [] 0 0 := Stand.of_body Bd
  have e0 : s₁.heap = h0 := by rw [← hh, Bd.state]; rfl
  have N0 := Fr.nil n0
  refine own_startS (ef_rs_i40 m a1 ca) ?_
  have hZ0 := hZ
  have lt_a1 := own_ltN E_a1.lt
  refine o_aloadN X0 hx hby D3_0 rfl rfl ?_
  obtain ⟨T1, X1, e1, st1⟩ := initO X0 hx hZ hown (own_wd hw (i := 15) rfl) (own_wd hw (i := 16) rfl) (own_wd hw (i := 17) rfl) e0 (g := (mkF m 1 #[.val (.ref a1), .val (.ref ca), .val (.int (0 : Int32)), .val (.int (0 : Int32)), .val .null, .unset] [(.ref a1)])) rfl (by rw [hml]; rfl) rfl (hb hby D3_1.1) (by decide) (W := 0) (by show 2 * 0 + _ ≤ _; exact Nat.le_of_eq rfl) (by decide)
  refine own_pre (A' := T1.setTop (mkF m 4 #[.val (.ref a1), .val (.ref ca), .val (.int (0 : Int32)), .val (.int (0 : Int32)), .val .null, .unset] [])) st1 ?_
  refine o_iloadN X1 hx hby D3_4 rfl ?_
  refine o_ifN X1 hx hby D3_5 ((if0 _ _).trans (teq (rfl : (0 : Int32) = (0 : Int32))).2) ?_
  refine o_aloadN X1 hx hby D3_8 rfl rfl ?_
  have hEL := own_ew hw
  obtain ⟨sa, T2, h2, k2, sb, kb, X2, e2, E2, hS2, hk2, hZ, hown, Esa, Fsc, Fsv, Vsb, lta, ltb, CH2, Lit2, hsf2, st2⟩ := ldcCH (s := s) (vm0 := s.vm) (EL := own_EL) (own := "java/lang/String") (text := "") X1 hx hZ hown (own_wd hw (i := 18) rfl) (own_wS hw) e1 ((State.WarmedH.refl s).since h0.size) (Nat.le_refl _) hEL (by simp [own_EL]) hCH (vs := []) (z := (0 : Int32)) ⟨(fun c hc => by cases hc), rfl⟩ (by decide) rfl (g := (mkF m 9 #[.val (.ref a1), .val (.ref ca), .val (.int (0 : Int32)), .val (.int (0 : Int32)), .val .null, .unset] [(.ref a1)])) rfl (hb hby D3_9.1) (n := 0) (by decide) (by decide) (by decide) (by decide)
  have sz2 := own_leN E2.1
  have sa1 : Safe Z own_EL T2.vm h2 a1 := CH2.safe lt_a1 (own_safe hZ0.alike E_a1 F_v)
  have hk2' := own_leN hk2
  have na := hsf2 a1 sa1
  have na1 : sa ≠ a1 := na.1.symm
  have na2 : sb ≠ a1 := na.2.symm
  have ltb' := own_ltN ltb
  refine own_pre (A' := T2.setTop (mkF m 11 #[.val (.ref a1), .val (.ref ca), .val (.int (0 : Int32)), .val (.int (0 : Int32)), .val .null, .unset] [(.ref sa), (.ref a1)])) st2 ?_
  obtain ⟨T3, X3, e3, st3⟩ := getF X2 hx hZ hown (host := "") (Or.inl (own_wd hw (i := 24) rfl)) Via.refl e2 Fsv (g := (mkF m 11 #[.val (.ref a1), .val (.ref ca), .val (.int (0 : Int32)), .val (.int (0 : Int32)), .val .null, .unset] [(.ref sa), (.ref a1)])) rfl rfl (hb hby D3_11.1)
  refine own_pre (A' := T3.setTop (mkF m 14 #[.val (.ref a1), .val (.ref ca), .val (.int (0 : Int32)), .val (.int (0 : Int32)), .val .null, .unset] [(.ref sb), (.ref a1)])) st3 ?_
  have c5_F_a1_value := (F_v.ext E2)
  have c6_E_a1 := (E_a1.ext E2)
  obtain ⟨T4, h4, X4, e4, W4, st4⟩ := putF X3 hx hZ hown (host := "") (Or.inl (own_wd hw (i := 24) rfl)) Via.refl e3 c5_F_a1_value c6_E_a1 (Or.inr ⟨(own_wd hw (i := 20) rfl), rfl, hnm⟩) (own_wd hw (i := 6) rfl) (ty := (.array .byte)) (by decide) rfl rfl (g := (mkF m 14 #[.val (.ref a1), .val (.ref ca), .val (.int (0 : Int32)), .val (.int (0 : Int32)), .val .null, .unset] [(.ref sb), (.ref a1)])) rfl rfl (hb hby D3_14.1)
  have Fw4 := c5_F_a1_value.same W4
  have sz4 := own_leN (Keep.of_wr W4).1
  have N4 := Fr.snoc X4 N0 gn_a1
  refine own_pre (A' := T4.setTop (mkF m 17 #[.val (.ref a1), .val (.ref ca), .val (.int (0 : Int32)), .val (.int (0 : Int32)), .val .null, .unset] [])) st4 ?_
  refine o_aloadN X4 hx hby D3_17 rfl rfl ?_
  refine own_pre (A' := T4.setTop (mkF m 20 #[.val (.ref a1), .val (.ref ca), .val (.int (0 : Int32)), .val (.int (0 : Int32)), .val .null, .unset] [(.ref sa), (.ref a1)])) (ldcAgain (s := s) X4 hx hZ hown (own_wd hw (i := 18) rfl) Lit2 (g := (mkF m 18 #[.val (.ref a1), .val (.ref ca), .val (.int (0 : Int32)), .val (.int (0 : Int32)), .val .null, .unset] [(.ref a1)])) rfl (hb hby D3_18.1)) ?_
  have c8_F_sa_coder := (Fsc.other W4 (Or.inl (by first | exact own_neN (by omega) | exact own_neN' (by omega) | assumption)))
  obtain ⟨T7, X7, e7, st7⟩ := getF X4 hx hZ hown (host := "") (Or.inl (own_wd hw (i := 25) rfl)) Via.refl e4 c8_F_sa_coder (g := (mkF m 20 #[.val (.ref a1), .val (.ref ca), .val (.int (0 : Int32)), .val (.int (0 : Int32)), .val .null, .unset] [(.ref sa), (.ref a1)])) rfl rfl (hb hby D3_20.1)
  refine own_pre (A' := T7.setTop (mkF m 23 #[.val (.ref a1), .val (.ref ca), .val (.int (0 : Int32)), .val (.int (0 : Int32)), .val .null, .unset] [(.int (0 : Int32)), (.ref a1)])) st7 ?_
  have c10_F_a1_coder := ((F_c.ext E2).other W4 (Or.inr (Jvm.RoadKit.slot_ne (Or.inr (own_wd hw (i := 21) rfl)) (Or.inr (own_wd hw (i := 20) rfl)) (by decide) (t := .byte) (t' := (.array .byte)) (by decide) (by decide))))
  have c11_E_a1 := (c6_E_a1.wr W4)
  obtain ⟨T9, h9, X9, e9, W9, st9⟩ := putFN X7 hx hZ hown (own_wd hw (i := 25) rfl) Via.refl e7 c10_F_a1_coder c11_E_a1 (Or.inr ⟨(own_wd hw (i := 21) rfl), rfl, hnm⟩) (own_wd hw (i := 6) rfl) (ty := .byte) (v' := (.int (0 : Int32))) (by decide) rfl rfl (g := (mkF m 23 #[.val (.ref a1), .val (.ref ca), .val (.int (0 : Int32)), .val (.int (0 : Int32)), .val .null, .unset] [(.int (0 : Int32)), (.ref a1)])) rfl rfl (hb hby D3_23.1)
  have Fw9 := c10_F_a1_coder.same W9
  have sz9 := own_leN (Keep.of_wr W9).1
  have N9 := Fr.snoc X9 N4 gn_a1
  refine own_pre (A' := T9.setTop (mkF m 26 #[.val (.ref a1), .val (.ref ca), .val (.int (0 : Int32)), .val (.int (0 : Int32)), .val .null, .unset] [])) st9 ?_
  have c12_E_a1 := (c11_E_a1.wr W9)
  have c13_F_a1_value := (Fw4.other W9 (Or.inr (Jvm.RoadKit.slot_ne (Or.inr (own_wd hw (i := 20) rfl)) (Or.inr (own_wd hw (i := 21) rfl)) (by decide) (t := (.array .byte)) (t' := .byte) (by decide) (by decide))))
  have c14_V_sb := ((Vsb.other W4 (by first | exact own_neN (by omega) | exact own_neN' (by omega) | assumption)).other W9 (by first | exact own_neN (by omega) | exact own_neN' (by omega) | assumption))
  have KK : Keep h0 h9 [a1] := ((((Keep.refl h0 [a1]).ext E2).wr W4 (Or.inl (by simp))).wr W9 (Or.inl (by simp)))
  have C1 := CHr.wr W4 sa1 CH2.1
  have sa2 := Safe.wr W4 sa1 CH2.1 sa1
  have C2 := CHr.wr W9 sa2 C1.1
  have C3 := (CH2.trans C1).trans C2
  have C4 := C3.trans (CHv.at (s := s) X9 hZ hEL C3.1)
  exact own_retS (v := none) X9 hS2 (by rw [e9]; exact own_leN (by omega)) (by rw [e9, hh]; exact C4) (fun h => by first | rfl | (rw [Bd.returns] at h; cases h)) (BodyLoose.notSynchronized Bd) (by decide) (by decide) (by rw [e9]; exact ⟨sb, kb, rfl, N9, KK, own_leN (by omega), c12_E_a1, c13_F_a1_value, Fw9, c14_V_sb⟩) (fun fs hr => X9.returnOut hx Bd.returns (hb hby D3_26.1) hr)
theorem ef_rs_i10 (m : MethodId) (a1 : Addr) (ca : Addr) : entryFrame m #[(.ref a1), (.ref ca)] 2 = mkF m 0 #[.val (.ref a1), .val (.ref ca)] [] := by first | (simp [entryFrame, mkF, argsToLocals, Value.category]; done) | rfl
set_option maxRecDepth 65536 in
set_option maxHeartbeats 40000000 in
theorem rs_i10 (l : Launch) (Z : State) (a0 : Array Value) (hw : ∀ d ∈ tables_1, d.before a0 Z = true) (ws : List Jvm.Cond) (a1 : Addr) (ca : Addr) (kc : ClassId) (u1 : Value) (h0 : Heap) (n0 : Nat) (Z0 : n0 ≤ h0.size) (Vc : Arv Z h0 ca kc .char (0 : Int32) [] (.int (0 : Int32))) (gn_a1 : n0 ≤ a1) (E_a1 : Exa Z h0 a1 "java/lang/String") (F_v : Fld Z h0 a1 "java/lang/String" "value" "[B" .null) (F_c : Fld Z h0 a1 "java/lang/String" "coder" "B" u1) :
    MetFree l (⟨"java/lang/String", "<init>", "([C)V"⟩ : MethodName) (head1 (Jvm.Cond.code (⟨"java/lang/String", "<init>", "([C)V"⟩ : MethodName) jdk_42_method_3_code 2 none :: ws) ({ frames := 2, cells := 2, slots := 4, locals := 29 } : Room)) (fun a U => a = #[(.ref a1), (.ref ca)] ∧ Z.Warmed39 U.vm ∧ U.heap = h0 ∧ CHv Z own_EL U.vm h0) (fun _ _ _ _ _ => True) (fun _ U o U' => ∃ v L, o = .returned v ∧ own_QI0 Z a1 h0 n0 v U'.heap L ∧ CHr Z own_EL U.vm U.heap U'.vm U'.heap ∧ ReturnedEndW U o U' L ({ frames := 2, cells := 2, slots := 4, locals := 29 } : Room).cells ({ frames := 2, cells := 2, slots := 4, locals := 29 } : Room).slots) := by
  refine MetFree.of_bodySF (plainFor_of_name pn_java_lang_String) hisR ?_
  intro p e s m args below meth c s₁ Bd hml0 hP hK
  obtain ⟨rfl, hZ, hh, hCH⟩ := hP
  have hx := Bd.exec
  have hby := Bd.bytes
  have hml : c.maxLocals = 2 := hml0
  have hown : s.vm.findClass "java/lang/String" = some m.cls := findClass_of_methodNamed Bd.named
  have hnm := (name_of_methodNamed Bd.named Bd.method).1
  have X0 : Stand p l e ({ frames := 2, cells := 2, slots := 4, locals := 29 } : Room) s m #[(.ref a1), (.ref ca)] below meth c s₁ [] 0 0 := Stand.of_body Bd
  have e0 : s₁.heap = h0 := by rw [← hh, Bd.state]; rfl
  have N0 := Fr.nil n0
  refine own_startS (ef_rs_i10 m a1 ca) ?_
  refine o_aloadN X0 hx hby D2_0 rfl rfl ?_
  refine o_aloadN X0 hx hby D2_1 rfl rfl ?_
  refine o_iconst X0 hx hby D2_2 (v := 0) rfl ?_
  refine o_aloadN X0 hx hby D2_3 rfl rfl ?_
  obtain ⟨cl_ca_1, Ar_ca_1, q_ca_1, S_ca_1, N_ca_1, H_ca_1, G_ca_1⟩ := id Vc
  refine own_pre (A' := s₁.setTop (mkF m 5 #[.val (.ref a1), .val (.ref ca)] [(.int (0 : Int32)), (.int (0 : Int32)), (.ref ca), (.ref a1)])) (fun t k => X0.arraylength hx (by rw [e0]; exact Ar_ca_1.1) (State.isArrayOf_alike hZ.alike Ar_ca_1.2.1) (g := (mkF m 4 #[.val (.ref a1), .val (.ref ca)] [(.ref ca), (.int (0 : Int32)), (.ref ca), (.ref a1)])) rfl rfl (hb hby D2_4.1) _ (by rw [len_of S_ca_1 N_ca_1]; exact k)) ?_
  refine o_anull X0 hx hby D2_5 ?_
  obtain ⟨_, _, ⟨T2, L2, k2, n2⟩, -, X2, hS2, hg2, ⟨Lc2, hQ2, l2, y2, z2, CH2⟩, st2⟩ := Stand.specialBackS (s := s.setVm s.vm) X0 hx (y := (⟨"java/lang/String", "<init>", "([CIILjava/lang/Void;)V"⟩ : MethodName)) rfl hown (mvT (s := s.setVm s.vm) hZ (own_wd hw (i := 11) rfl)) (mvT (s := s.setVm s.vm) hZ (own_wd hw (i := 12) rfl)) (mvT (s := s.setVm s.vm) hZ (own_wd hw (i := 14) rfl)) (by decide) (backOfSH (s := s) (vm0 := s.vm) (W := 0) (rs_i40 l Z a0 hw [] a1 ca u1 h0 n0 (own_leN (by omega)) gn_a1 E_a1 F_v F_c) hZ (own_wd hw (i := 14) rfl) (own_wd hw (i := 7) rfl) (by decide) (by decide) (own_ew hw) (hCH)) (g := (mkF m 6 #[.val (.ref a1), .val (.ref ca)] [.null, (.int (0 : Int32)), (.int (0 : Int32)), (.ref ca), (.ref a1)])) rfl (by rw [hml]; rfl) (Steps.refl _) (a := a1) (argsL := [(.ref ca), (.int (0 : Int32)), (.int (0 : Int32)), .null]) (rest := []) (lenOf pd__40_91CIILjava_47lang_47Void_59_41V rfl) rfl (by show 2 * 0 + _ ≤ _; exact Nat.le_of_eq rfl) (hb hby D2_6.1) (fun _ _ => ⟨rfl, e0, (by decide : 0 + 2 ≤ _), (by decide : 0 + 4 ≤ _)⟩)
  dsimp only [Pt.U, Pt.locs, Pt.cells, Pt.slots] at X2 hS2 hg2 l2 y2 z2 st2 hQ2 CH2
  subst l2 y2 z2
  obtain ⟨vb, kb, rfl, N2q, K2, ltv2, Str2⟩ := hQ2
  have sz2 := own_leN K2.1
  have N2 := Fr.app N0 N2q
  have hZ : Z.Warmed39 (s.setVm T2.vm).vm := State.Warmed39.trans (t := s.setVm s.vm) hZ hS2.1
  have hown : (s.setVm T2.vm).vm.findClass "java/lang/String" = some m.cls := (hS2.1.alike.findClass _ _).trans hown
  have X2 : Stand p l e ({ frames := 2, cells := 2, slots := 4, locals := 29 } : Room) (s.setVm T2.vm) m _ below meth c T2 _ _ _ := X2
  refine own_pre (A' := T2.setTop (mkF m 9 #[.val (.ref a1), .val (.ref ca)] [])) (fun t k => st2.trans k) ?_
  exact own_retS (v := none) X2 hS2 (Nat.le_refl _) (by rw [hh]; exact CH2.trans (CHv.at (s := s) X2 hZ (own_ew hw) CH2.1)) (fun h => by first | rfl | (rw [Bd.returns] at h; cases h)) (BodyLoose.notSynchronized Bd) (by decide) (by decide) (⟨vb, kb, rfl, N2, K2, ltv2, Str2⟩) (fun fs hr => X2.returnOut hx Bd.returns (hb hby D2_9.1) hr)
def own_ch (p0 : Int32) : Int32 := if (((p0.toUInt32 >>> ((16 : Int32) &&& 31).toUInt32).toInt32) &&& (3 : Int32)) = (0 : Int32) then (10 : Int32) else if (((p0.toUInt32 >>> ((16 : Int32) &&& 31).toUInt32).toInt32) &&& (3 : Int32)) = (1 : Int32) then (13 : Int32) else nar .char ((p0 &&& (65535 : Int32)).toUInt32.toUInt16.toUInt32.toInt32)
theorem own_chR (x : Int32) : own_ch16 (own_ch x) := by
  unfold own_ch
  split
  · exact ⟨by decide, by decide⟩
  · split
    · exact ⟨by decide, by decide⟩
    · exact own_n16 _
theorem D1_0 : own_at method_2_code 0 (.iload_n 0) 1 1 := ⟨by decide +kernel, rfl⟩
theorem D1_1 : own_at method_2_code 1 (.bipush 16) 2 3 := ⟨by decide +kernel, rfl⟩
theorem D1_3 : own_at method_2_code 3 (.iushr) 1 4 := ⟨by decide +kernel, rfl⟩
theorem D1_4 : own_at method_2_code 4 (.iconst 3) 1 5 := ⟨by decide +kernel, rfl⟩
theorem D1_5 : own_at method_2_code 5 (.iand) 1 6 := ⟨by decide +kernel, rfl⟩
theorem D1_6 : own_at method_2_code 6 (.istore_n 1) 1 7 := ⟨by decide +kernel, rfl⟩
theorem D1_7 : own_at method_2_code 7 (.iload_n 1) 1 8 := ⟨by decide +kernel, rfl⟩
theorem D1_8 : own_at method_2_code 8 (.ifCond .ne 6) 3 11 := ⟨by decide +kernel, rfl⟩
theorem D1_11 : own_at method_2_code 11 (.bipush 10) 2 13 := ⟨by decide +kernel, rfl⟩
theorem D1_13 : own_at method_2_code 13 (.ireturn) 1 14 := ⟨by decide +kernel, rfl⟩
theorem D1_14 : own_at method_2_code 14 (.iload_n 1) 1 15 := ⟨by decide +kernel, rfl⟩
theorem D1_15 : own_at method_2_code 15 (.iconst 1) 1 16 := ⟨by decide +kernel, rfl⟩
theorem D1_16 : own_at method_2_code 16 (.if_icmp .ne 6) 3 19 := ⟨by decide +kernel, rfl⟩
theorem D1_19 : own_at method_2_code 19 (.bipush 13) 2 21 := ⟨by decide +kernel, rfl⟩
theorem D1_21 : own_at method_2_code 21 (.ireturn) 1 22 := ⟨by decide +kernel, rfl⟩
theorem D1_22 : own_at method_2_code 22 (.iload_n 0) 1 23 := ⟨by decide +kernel, rfl⟩
theorem D1_23 : own_at method_2_code 23 (.ldc 7) 2 25 := ⟨by decide +kernel, rfl⟩
theorem D1_25 : own_at method_2_code 25 (.iand) 1 26 := ⟨by decide +kernel, rfl⟩
theorem D1_26 : own_at method_2_code 26 (.i2c) 1 27 := ⟨by decide +kernel, rfl⟩
theorem D1_27 : own_at method_2_code 27 (.ireturn) 1 28 := ⟨by decide +kernel, rfl⟩
theorem pn_com_example_arrearwise_arrearwise_MailTextIsOneLinePinLaw : plainName "com/example/arrearwise/arrearwise/MailTextIsOneLinePinLaw" = true := by first | (simp [plainName, overriddenIn]; done) | decide +kernel
theorem ef_rm_ch (m : MethodId) (p0 : Int32) : entryFrame m #[(.int p0)] 2 = mkF m 0 #[.val (.int p0), .unset] [] := by first | (simp [entryFrame, mkF, argsToLocals, Value.category]; done) | rfl
set_option maxRecDepth 65536 in
set_option maxHeartbeats 40000000 in
theorem rm_ch (l : Launch) (Z : State) (a0 : Array Value) (hw : ∀ d ∈ tables_1, d.before a0 Z = true) (ws : List Jvm.Cond) (p0 : Int32)  (h0 : Heap) (n0 : Nat) (Z0 : n0 ≤ h0.size)  :
    MetFree l (⟨"com/example/arrearwise/arrearwise/MailTextIsOneLinePinLaw", "ch", "(I)C"⟩ : MethodName) (head1 (Jvm.Cond.code (⟨"com/example/arrearwise/arrearwise/MailTextIsOneLinePinLaw", "ch", "(I)C"⟩ : MethodName) method_2_code 2 (some .char) :: ws) ({ frames := 0, cells := 0, slots := 0, locals := 0 } : Room)) (fun a U => a = #[(.int p0)] ∧ Z.Warmed39 U.vm ∧ U.heap = h0) (fun _ _ _ _ _ => True) (fun _ U o U' => ∃ v L, o = .returned v ∧ own_QP (.int (own_ch p0)) h0 n0 v U'.heap L ∧ FrameEnd U o U' L ({ frames := 0, cells := 0, slots := 0, locals := 0 } : Room).cells ({ frames := 0, cells := 0, slots := 0, locals := 0 } : Room).slots) := by
  refine MetFree.of_bodySF (plainFor_of_name pn_com_example_arrearwise_arrearwise_MailTextIsOneLinePinLaw) hisR ?_
  intro p e s m args below meth c s₁ Bd hml0 hP hK
  obtain ⟨rfl, hZ, hh⟩ := hP
  have hx := Bd.exec
  have hby := Bd.bytes
  have hml : c.maxLocals = 2 := hml0
  have hown : s.vm.findClass "com/example/arrearwise/arrearwise/MailTextIsOneLinePinLaw" = some m.cls := findClass_of_methodNamed Bd.named
  have hnm := (name_of_methodNamed Bd.named Bd.method).1
  have X0 : Stand p l e ({ frames := 0, cells := 0, slots := 0, locals := 0 } : Room) s m #[(.int p0)] below meth c s₁ [] 0 0 := Stand.of_body Bd
  have e0 : s₁.heap = h0 := by rw [← hh, Bd.state]; rfl
  have N0 := Fr.nil n0
  refine own_start (ef_rm_ch m p0) ?_
  refine o_iloadN X0 hx hby D1_0 rfl ?_
  refine o_bipush X0 hx hby D1_1 (v := 16) rfl ?_
  refine o_iushr X0 hx hby D1_3 ?_
  refine o_iconst X0 hx hby D1_4 (v := 3) rfl ?_
  refine o_iand X0 hx hby D1_5 ?_
  refine o_istoreN X0 hx hby D1_6 (l' := #[.val (.int p0), .val (.int (((p0.toUInt32 >>> ((16 : Int32) &&& 31).toUInt32).toInt32) &&& (3 : Int32)))]) rfl ?_
  refine o_iloadN X0 hx hby D1_7 rfl ?_
  by_cases hc8_1 : (((p0.toUInt32 >>> ((16 : Int32) &&& 31).toUInt32).toInt32) &&& (3 : Int32)) = (0 : Int32)
  · skip
    refine o_ifN X0 hx hby D1_8 ((if0 _ _).trans (teq hc8_1).2) ?_
    refine o_bipush X0 hx hby D1_11 (v := 10) rfl ?_
    exact own_ret (v := some (.int (10 : Int32))) X0 (fun h => by first | rfl | (rw [Bd.returns] at h; cases h)) (BodyLoose.notSynchronized Bd) (by decide) (by decide) (⟨by rw [own_ch, if_pos hc8_1], N0, e0⟩) (fun fs hr => retN X0 hx (t := .char) Bd.returns (by simp) (hb hby D1_13.1) hr)
  · skip
    refine o_ifY X0 hx hby D1_8 ((if0 _ _).trans (feq hc8_1).2) (q := 14) (by decide) (by decide) ?_
    refine o_iloadN X0 hx hby D1_14 rfl ?_
    refine o_iconst X0 hx hby D1_15 (v := 1) rfl ?_
    by_cases hc16_2 : (((p0.toUInt32 >>> ((16 : Int32) &&& 31).toUInt32).toInt32) &&& (3 : Int32)) = (1 : Int32)
    · skip
      refine o_icmpN X0 hx hby D1_16 (teq hc16_2).2 ?_
      refine o_bipush X0 hx hby D1_19 (v := 13) rfl ?_
      exact own_ret (v := some (.int (13 : Int32))) X0 (fun h => by first | rfl | (rw [Bd.returns] at h; cases h)) (BodyLoose.notSynchronized Bd) (by decide) (by decide) (⟨by rw [own_ch, if_neg hc8_1, if_pos hc16_2], N0, e0⟩) (fun fs hr => retN X0 hx (t := .char) Bd.returns (by simp) (hb hby D1_21.1) hr)
    · skip
      refine o_icmpY X0 hx hby D1_16 (feq hc16_2).2 (q := 22) (by decide) (by decide) ?_
      refine o_iloadN X0 hx hby D1_22 rfl ?_
      refine o_ldc X0 hx hby hown (mvT hZ (own_wd hw (i := 86) rfl)) D1_23 ?_
      refine o_iand X0 hx hby D1_25 ?_
      refine o_i2c X0 hx hby D1_26 ?_
      exact own_ret (v := some (.int (nar .char (((p0 &&& (65535 : Int32))).toUInt32.toUInt16.toUInt32.toInt32)))) X0 (fun h => by first | rfl | (rw [Bd.returns] at h; cases h)) (BodyLoose.notSynchronized Bd) (by decide) (by decide) (⟨by rw [own_ch, if_neg hc8_1, if_neg hc16_2], N0, e0⟩) (fun fs hr => retN X0 hx (t := .char) Bd.returns (by simp) (hb hby D1_27.1) hr)
def own_brk (c : Int32) : Int32 := if c = (10 : Int32) then 1 else if c = (13 : Int32) then 1 else 0
theorem D18_0 : own_at method_3_code 0 (.iload_n 0) 1 1 := ⟨by decide +kernel, rfl⟩
theorem D18_1 : own_at method_3_code 1 (.bipush 10) 2 3 := ⟨by decide +kernel, rfl⟩
theorem D18_3 : own_at method_3_code 3 (.if_icmp .eq 9) 3 6 := ⟨by decide +kernel, rfl⟩
theorem D18_6 : own_at method_3_code 6 (.iload_n 0) 1 7 := ⟨by decide +kernel, rfl⟩
theorem D18_7 : own_at method_3_code 7 (.bipush 13) 2 9 := ⟨by decide +kernel, rfl⟩
theorem D18_9 : own_at method_3_code 9 (.if_icmp .ne 7) 3 12 := ⟨by decide +kernel, rfl⟩
theorem D18_12 : own_at method_3_code 12 (.iconst 1) 1 13 := ⟨by decide +kernel, rfl⟩
theorem D18_13 : own_at method_3_code 13 (.goto 4) 3 16 := ⟨by decide +kernel, rfl⟩
theorem D18_16 : own_at method_3_code 16 (.iconst 0) 1 17 := ⟨by decide +kernel, rfl⟩
theorem D18_17 : own_at method_3_code 17 (.ireturn) 1 18 := ⟨by decide +kernel, rfl⟩
theorem ef_rm_brk (m : MethodId) (p0 : Int32) : entryFrame m #[(.int p0)] 1 = mkF m 0 #[.val (.int p0)] [] := by first | (simp [entryFrame, mkF, argsToLocals, Value.category]; done) | rfl
set_option maxRecDepth 65536 in
set_option maxHeartbeats 40000000 in
theorem rm_brk (l : Launch) (Z : State) (a0 : Array Value) (hw : ∀ d ∈ tables_1, d.before a0 Z = true) (ws : List Jvm.Cond) (p0 : Int32)  (h0 : Heap) (n0 : Nat) (Z0 : n0 ≤ h0.size)  :
    MetFree l (⟨"com/example/arrearwise/arrearwise/MailTextIsOneLinePinLaw", "brk", "(C)Z"⟩ : MethodName) (head1 (Jvm.Cond.code (⟨"com/example/arrearwise/arrearwise/MailTextIsOneLinePinLaw", "brk", "(C)Z"⟩ : MethodName) method_3_code 1 (some .boolean) :: ws) ({ frames := 0, cells := 0, slots := 0, locals := 0 } : Room)) (fun a U => a = #[(.int p0)] ∧ Z.Warmed39 U.vm ∧ U.heap = h0) (fun _ _ _ _ _ => True) (fun _ U o U' => ∃ v L, o = .returned v ∧ own_QP (.int (own_brk p0)) h0 n0 v U'.heap L ∧ FrameEnd U o U' L ({ frames := 0, cells := 0, slots := 0, locals := 0 } : Room).cells ({ frames := 0, cells := 0, slots := 0, locals := 0 } : Room).slots) := by
  refine MetFree.of_bodySF (plainFor_of_name pn_com_example_arrearwise_arrearwise_MailTextIsOneLinePinLaw) hisR ?_
  intro p e s m args below meth c s₁ Bd hml0 hP hK
  obtain ⟨rfl, hZ, hh⟩ := hP
  have hx := Bd.exec
  have hby := Bd.bytes
  have hml : c.maxLocals = 1 := hml0
  have hown : s.vm.findClass "com/example/arrearwise/arrearwise/MailTextIsOneLinePinLaw" = some m.cls := findClass_of_methodNamed Bd.named
  have hnm := (name_of_methodNamed Bd.named Bd.method).1
  have X0 : Stand p l e ({ frames := 0, cells := 0, slots := 0, locals := 0 } : Room) s m #[(.int p0)] below meth c s₁ [] 0 0 := Stand.of_body Bd
  have e0 : s₁.heap = h0 := by rw [← hh, Bd.state]; rfl
  have N0 := Fr.nil n0
  refine own_start (ef_rm_brk m p0) ?_
  refine o_iloadN X0 hx hby D18_0 rfl ?_
  refine o_bipush X0 hx hby D18_1 (v := 10) rfl ?_
  by_cases hc3_1 : p0 = (10 : Int32)
  · skip
    refine o_icmpY X0 hx hby D18_3 (teq hc3_1).1 (q := 12) (by decide) (by decide) ?_
    refine o_iconst X0 hx hby D18_12 (v := 1) rfl ?_
    refine o_goto X0 hx hby D18_13 (q := 17) (by decide) (by decide) ?_
    exact own_ret (v := some (.int (1 : Int32))) X0 (fun h => by first | rfl | (rw [Bd.returns] at h; cases h)) (BodyLoose.notSynchronized Bd) (by decide) (by decide) (⟨by rw [own_brk, if_pos hc3_1], N0, e0⟩) (fun fs hr => retN X0 hx (t := .boolean) Bd.returns (by simp) (hb hby D18_17.1) hr)
  · skip
    refine o_icmpN X0 hx hby D18_3 (feq hc3_1).1 ?_
    refine o_iloadN X0 hx hby D18_6 rfl ?_
    refine o_bipush X0 hx hby D18_7 (v := 13) rfl ?_
    by_cases hc9_2 : p0 = (13 : Int32)
    · skip
      refine o_icmpN X0 hx hby D18_9 (teq hc9_2).2 ?_
      refine o_iconst X0 hx hby D18_12 (v := 1) rfl ?_
      refine o_goto X0 hx hby D18_13 (q := 17) (by decide) (by decide) ?_
      exact own_ret (v := some (.int (1 : Int32))) X0 (fun h => by first | rfl | (rw [Bd.returns] at h; cases h)) (BodyLoose.notSynchronized Bd) (by decide) (by decide) (⟨by rw [own_brk, if_neg hc3_1, if_pos hc9_2], N0, e0⟩) (fun fs hr => retN X0 hx (t := .boolean) Bd.returns (by simp) (hb hby D18_17.1) hr)
    · skip
      refine o_icmpY X0 hx hby D18_9 (feq hc9_2).2 (q := 16) (by decide) (by decide) ?_
      refine o_iconst X0 hx hby D18_16 (v := 0) rfl ?_
      exact own_ret (v := some (.int (0 : Int32))) X0 (fun h => by first | rfl | (rw [Bd.returns] at h; cases h)) (BodyLoose.notSynchronized Bd) (by decide) (by decide) (⟨by rw [own_brk, if_neg hc3_1, if_neg hc9_2], N0, e0⟩) (fun fs hr => retN X0 hx (t := .boolean) Bd.returns (by simp) (hb hby D18_17.1) hr)
def own_one0  : Int32 := if (own_ix0 (10 : Int32)) < (0 : Int32) then (if (own_ix0 (13 : Int32)) < (0 : Int32) then 1 else 0) else 0
theorem own_fin0  : own_one0  = 1 := by
  simp only [own_one0, own_ix0, own_brk]
  decide
theorem D5_0 : own_at prog_13_method_2_code 0 (.aload_n 0) 1 1 := ⟨by decide +kernel, rfl⟩
theorem D5_1 : own_at prog_13_method_2_code 1 (.bipush 10) 2 3 := ⟨by decide +kernel, rfl⟩
theorem D5_3 : own_at prog_13_method_2_code 3 (.invokevirtual 16) 3 6 := ⟨by decide +kernel, rfl⟩
theorem D5_6 : own_at prog_13_method_2_code 6 (.ifCond .ge 16) 3 9 := ⟨by decide +kernel, rfl⟩
theorem D5_9 : own_at prog_13_method_2_code 9 (.aload_n 0) 1 10 := ⟨by decide +kernel, rfl⟩
theorem D5_10 : own_at prog_13_method_2_code 10 (.bipush 13) 2 12 := ⟨by decide +kernel, rfl⟩
theorem D5_12 : own_at prog_13_method_2_code 12 (.invokevirtual 16) 3 15 := ⟨by decide +kernel, rfl⟩
theorem D5_15 : own_at prog_13_method_2_code 15 (.ifCond .ge 7) 3 18 := ⟨by decide +kernel, rfl⟩
theorem D5_18 : own_at prog_13_method_2_code 18 (.iconst 1) 1 19 := ⟨by decide +kernel, rfl⟩
theorem D5_19 : own_at prog_13_method_2_code 19 (.goto 4) 3 22 := ⟨by decide +kernel, rfl⟩
theorem D5_22 : own_at prog_13_method_2_code 22 (.iconst 0) 1 23 := ⟨by decide +kernel, rfl⟩
theorem D5_23 : own_at prog_13_method_2_code 23 (.ireturn) 1 24 := ⟨by decide +kernel, rfl⟩
theorem pn_com_example_arrearwise_arrearwise_MailText : plainName "com/example/arrearwise/arrearwise/MailText" = true := by first | (simp [plainName, overriddenIn]; done) | decide +kernel
theorem ef_rm_one0 (m : MethodId) (st : Addr) : entryFrame m #[(.ref st)] 1 = mkF m 0 #[.val (.ref st)] [] := by first | (simp [entryFrame, mkF, argsToLocals, Value.category]; done) | rfl
set_option maxRecDepth 65536 in
set_option maxHeartbeats 40000000 in
theorem rm_one0 (l : Launch) (Z : State) (a0 : Array Value) (hw : ∀ d ∈ tables_1, d.before a0 Z = true) (ws : List Jvm.Cond) (st : Addr) (vb : Addr) (kb : ClassId)  (cs : Int32) (vf : Value) (h0 : Heap) (n0 : Nat) (Z0 : n0 ≤ h0.size) (hST : own_ST Z cs vf) (O0 : Old Z n0 h0) (hS : own_Str0 Z h0 st vb kb )  :
    MetFree l (⟨"com/example/arrearwise/arrearwise/MailText", "isOneLine", "(Ljava/lang/String;)Z"⟩ : MethodName) (head1 (Jvm.Cond.code (⟨"com/example/arrearwise/arrearwise/MailText", "isOneLine", "(Ljava/lang/String;)Z"⟩ : MethodName) prog_13_method_2_code 1 (some .boolean) :: ws) ({ frames := 4, cells := 0, slots := 0, locals := 55 } : Room)) (fun a U => a = #[(.ref st)] ∧ Z.Warmed39 U.vm ∧ U.heap = h0) (fun _ _ _ _ _ => True) (fun _ U o U' => ∃ v L, o = .returned v ∧ own_QP (.int (own_one0 )) h0 n0 v U'.heap L ∧ FrameEnd U o U' L ({ frames := 4, cells := 0, slots := 0, locals := 55 } : Room).cells ({ frames := 4, cells := 0, slots := 0, locals := 55 } : Room).slots) := by
  refine MetFree.of_bodySF (plainFor_of_name pn_com_example_arrearwise_arrearwise_MailText) hisR ?_
  intro p e s m args below meth c s₁ Bd hml0 hP hK
  obtain ⟨rfl, hZ, hh⟩ := hP
  have hx := Bd.exec
  have hby := Bd.bytes
  have hml : c.maxLocals = 1 := hml0
  have hown : s.vm.findClass "com/example/arrearwise/arrearwise/MailText" = some m.cls := findClass_of_methodNamed Bd.named
  have hnm := (name_of_methodNamed Bd.named Bd.method).1
  have X0 : Stand p l e ({ frames := 4, cells := 0, slots := 0, locals := 55 } : Room) s m #[(.ref st)] below meth c s₁ [] 0 0 := Stand.of_body Bd
  have e0 : s₁.heap = h0 := by rw [← hh, Bd.state]; rfl
  have N0 := Fr.nil n0
  refine own_start (ef_rm_one0 m st) ?_
  have hST0 := hST
  refine o_aloadN X0 hx hby D5_0 rfl rfl ?_
  refine o_bipush X0 hx hby D5_1 (v := 10) rfl ?_
  obtain ⟨cq1, kq1, q1a, q1b, q1c⟩ := isOf hZ e0 hS.1
  obtain ⟨_, _, ⟨T1, L1, k1, n1⟩, -, X1, ⟨Lc1, hQ1, l1, y1, z1⟩, st1⟩ := X0.virtualBack hx (y := (⟨"java/lang/String", "indexOf", "(I)I"⟩ : MethodName)) (z := (⟨"java/lang/String", "indexOf", "(I)I"⟩ : MethodName)) hown (mvT hZ (own_wd hw (i := 30) rfl)) (mvT hZ (own_wd hw (i := 31) rfl)) (notFace_of_selects (args := #[]) (mvT hZ (own_wd hw (i := 33) rfl))) (mvT hZ (own_wd hw (i := 33) rfl)) (mvT hZ (own_wd hw (i := 32) rfl)) (by decide) (backOf (W := 0) (rs_x10 l Z a0 hw [] st (10 : Int32) vb kb  cs vf h0 n0 Z0 hST0 O0 hS  (by first | exact Or.inl rfl | exact Or.inr rfl)) hZ (own_wd hw (i := 34) rfl) (own_wd hw (i := 7) rfl) (by decide) (by decide)) q1a q1c (g := (mkF m 3 #[.val (.ref st)] [(.int (10 : Int32)), (.ref st)])) rfl (by rw [hml]; rfl) (Steps.refl _) (argsL := [(.int (10 : Int32))]) (rest := []) (lenOf pd__40I_41I rfl) rfl (by show 2 * 0 + _ ≤ _; exact Nat.le_of_eq rfl) (hb hby D5_3.1) (fun _ _ => ⟨rfl, e0, (by decide : 0 + 0 ≤ _), (by decide : 0 + 0 ≤ _)⟩)
  dsimp only [Pt.U, Pt.locs, Pt.cells, Pt.slots] at X1 l1 y1 z1 st1 hQ1
  subst l1 y1 z1
  obtain ⟨rfl, N1q, e1⟩ := hQ1
  have N1 := Fr.app N0 N1q
  refine own_pre (A' := T1.setTop (mkF m 6 #[.val (.ref st)] [(.int (own_ix0 (10 : Int32)))])) (fun t k => st1.trans k) ?_
  by_cases hc6_2 : (own_ix0 (10 : Int32)) < (0 : Int32)
  · skip
    refine o_ifN X1 hx hby D5_6 ((if0 _ _).trans (tlt hc6_2).2.1) ?_
    refine o_aloadN X1 hx hby D5_9 rfl rfl ?_
    refine o_bipush X1 hx hby D5_10 (v := 13) rfl ?_
    obtain ⟨cq3, kq3, q3a, q3b, q3c⟩ := isOf hZ e1 hS.1
    obtain ⟨_, _, ⟨T3, L3, k3, n3⟩, -, X3, ⟨Lc3, hQ3, l3, y3, z3⟩, st3⟩ := X1.virtualBack hx (y := (⟨"java/lang/String", "indexOf", "(I)I"⟩ : MethodName)) (z := (⟨"java/lang/String", "indexOf", "(I)I"⟩ : MethodName)) hown (mvT hZ (own_wd hw (i := 30) rfl)) (mvT hZ (own_wd hw (i := 31) rfl)) (notFace_of_selects (args := #[]) (mvT hZ (own_wd hw (i := 33) rfl))) (mvT hZ (own_wd hw (i := 33) rfl)) (mvT hZ (own_wd hw (i := 32) rfl)) (by decide) (backOf (W := 0) (rs_x10 l Z a0 hw [] st (13 : Int32) vb kb  cs vf h0 n0 Z0 hST0 O0 hS  (by first | exact Or.inl rfl | exact Or.inr rfl)) hZ (own_wd hw (i := 34) rfl) (own_wd hw (i := 7) rfl) (by decide) (by decide)) q3a q3c (g := (mkF m 12 #[.val (.ref st)] [(.int (13 : Int32)), (.ref st)])) rfl (by rw [hml]; rfl) (Steps.refl _) (argsL := [(.int (13 : Int32))]) (rest := []) (lenOf pd__40I_41I rfl) rfl (by show 2 * 0 + _ ≤ _; exact Nat.le_of_eq rfl) (hb hby D5_12.1) (fun _ _ => ⟨rfl, e1, (by decide : 0 + 0 ≤ _), (by decide : 0 + 0 ≤ _)⟩)
    dsimp only [Pt.U, Pt.locs, Pt.cells, Pt.slots] at X3 l3 y3 z3 st3 hQ3
    subst l3 y3 z3
    obtain ⟨rfl, N3q, e3⟩ := hQ3
    have N3 := Fr.app N1 N3q
    refine own_pre (A' := T3.setTop (mkF m 15 #[.val (.ref st)] [(.int (own_ix0 (13 : Int32)))])) (fun t k => st3.trans k) ?_
    by_cases hc15_4 : (own_ix0 (13 : Int32)) < (0 : Int32)
    · skip
      refine o_ifN X3 hx hby D5_15 ((if0 _ _).trans (tlt hc15_4).2.1) ?_
      refine o_iconst X3 hx hby D5_18 (v := 1) rfl ?_
      refine o_goto X3 hx hby D5_19 (q := 23) (by decide) (by decide) ?_
      exact own_ret (v := some (.int (1 : Int32))) X3 (fun h => by first | rfl | (rw [Bd.returns] at h; cases h)) (BodyLoose.notSynchronized Bd) (by decide) (by decide) (⟨by rw [own_one0, if_pos hc6_2, if_pos hc15_4], N3, e3⟩) (fun fs hr => retN X3 hx (t := .boolean) Bd.returns (by simp) (hb hby D5_23.1) hr)
    · skip
      refine o_ifY X3 hx hby D5_15 ((if0 _ _).trans (flt hc15_4).2.1) (q := 22) (by decide) (by decide) ?_
      refine o_iconst X3 hx hby D5_22 (v := 0) rfl ?_
      exact own_ret (v := some (.int (0 : Int32))) X3 (fun h => by first | rfl | (rw [Bd.returns] at h; cases h)) (BodyLoose.notSynchronized Bd) (by decide) (by decide) (⟨by rw [own_one0, if_pos hc6_2, if_neg hc15_4], N3, e3⟩) (fun fs hr => retN X3 hx (t := .boolean) Bd.returns (by simp) (hb hby D5_23.1) hr)
  · skip
    refine o_ifY X1 hx hby D5_6 ((if0 _ _).trans (flt hc6_2).2.1) (q := 22) (by decide) (by decide) ?_
    refine o_iconst X1 hx hby D5_22 (v := 0) rfl ?_
    exact own_ret (v := some (.int (0 : Int32))) X1 (fun h => by first | rfl | (rw [Bd.returns] at h; cases h)) (BodyLoose.notSynchronized Bd) (by decide) (by decide) (⟨by rw [own_one0, if_neg hc6_2], N1, e1⟩) (fun fs hr => retN X1 hx (t := .boolean) Bd.returns (by simp) (hb hby D5_23.1) hr)
def own_one1 (c0 : Int32) : Int32 := if (own_ix1 (10 : Int32) c0) < (0 : Int32) then (if (own_ix1 (13 : Int32) c0) < (0 : Int32) then 1 else 0) else 0
theorem own_fin1 (c0 : Int32) : own_one1 c0 = (if own_brk c0 = (0 : Int32) then 1 else 0) := by
  simp only [own_one1, own_ix1, own_brk]
  by_cases a0 : c0 = (10 : Int32) <;> by_cases b0 : c0 = (13 : Int32) <;>
    simp_all
theorem ef_rm_one1 (m : MethodId) (st : Addr) : entryFrame m #[(.ref st)] 1 = mkF m 0 #[.val (.ref st)] [] := by first | (simp [entryFrame, mkF, argsToLocals, Value.category]; done) | rfl
set_option maxRecDepth 65536 in
set_option maxHeartbeats 40000000 in
theorem rm_one1 (l : Launch) (Z : State) (a0 : Array Value) (hw : ∀ d ∈ tables_1, d.before a0 Z = true) (ws : List Jvm.Cond) (st : Addr) (vb : Addr) (kb : ClassId) (c0 : Int32) (cs : Int32) (vf : Value) (h0 : Heap) (n0 : Nat) (Z0 : n0 ≤ h0.size) (hST : own_ST Z cs vf) (O0 : Old Z n0 h0) (hS : own_Str1 Z h0 st vb kb c0) (hc0 : own_ch16 c0) :
    MetFree l (⟨"com/example/arrearwise/arrearwise/MailText", "isOneLine", "(Ljava/lang/String;)Z"⟩ : MethodName) (head1 (Jvm.Cond.code (⟨"com/example/arrearwise/arrearwise/MailText", "isOneLine", "(Ljava/lang/String;)Z"⟩ : MethodName) prog_13_method_2_code 1 (some .boolean) :: ws) ({ frames := 7, cells := 0, slots := 0, locals := 100 } : Room)) (fun a U => a = #[(.ref st)] ∧ Z.Warmed39 U.vm ∧ U.heap = h0) (fun _ _ _ _ _ => True) (fun _ U o U' => ∃ v L, o = .returned v ∧ own_QP (.int (own_one1 c0)) h0 n0 v U'.heap L ∧ FrameEnd U o U' L ({ frames := 7, cells := 0, slots := 0, locals := 100 } : Room).cells ({ frames := 7, cells := 0, slots := 0, locals := 100 } : Room).slots) := by
  refine MetFree.of_bodySF (plainFor_of_name pn_com_example_arrearwise_arrearwise_MailText) hisR ?_
  intro p e s m args below meth c s₁ Bd hml0 hP hK
  obtain ⟨rfl, hZ, hh⟩ := hP
  have hx := Bd.exec
  have hby := Bd.bytes
  have hml : c.maxLocals = 1 := hml0
  have hown : s.vm.findClass "com/example/arrearwise/arrearwise/MailText" = some m.cls := findClass_of_methodNamed Bd.named
  have hnm := (name_of_methodNamed Bd.named Bd.method).1
  have X0 : Stand p l e ({ frames := 7, cells := 0, slots := 0, locals := 100 } : Room) s m #[(.ref st)] below meth c s₁ [] 0 0 := Stand.of_body Bd
  have e0 : s₁.heap = h0 := by rw [← hh, Bd.state]; rfl
  have N0 := Fr.nil n0
  refine own_start (ef_rm_one1 m st) ?_
  have hST0 := hST
  refine o_aloadN X0 hx hby D5_0 rfl rfl ?_
  refine o_bipush X0 hx hby D5_1 (v := 10) rfl ?_
  obtain ⟨cq1, kq1, q1a, q1b, q1c⟩ := isOf hZ e0 hS.1
  obtain ⟨_, _, ⟨T1, L1, k1, n1⟩, -, X1, ⟨Lc1, hQ1, l1, y1, z1⟩, st1⟩ := X0.virtualBack hx (y := (⟨"java/lang/String", "indexOf", "(I)I"⟩ : MethodName)) (z := (⟨"java/lang/String", "indexOf", "(I)I"⟩ : MethodName)) hown (mvT hZ (own_wd hw (i := 30) rfl)) (mvT hZ (own_wd hw (i := 31) rfl)) (notFace_of_selects (args := #[]) (mvT hZ (own_wd hw (i := 33) rfl))) (mvT hZ (own_wd hw (i := 33) rfl)) (mvT hZ (own_wd hw (i := 32) rfl)) (by decide) (backOf (W := 0) (rs_x11 l Z a0 hw [] st (10 : Int32) vb kb c0 cs vf h0 n0 Z0 hST0 O0 hS hc0 (by first | exact Or.inl rfl | exact Or.inr rfl)) hZ (own_wd hw (i := 34) rfl) (own_wd hw (i := 7) rfl) (by decide) (by decide)) q1a q1c (g := (mkF m 3 #[.val (.ref st)] [(.int (10 : Int32)), (.ref st)])) rfl (by rw [hml]; rfl) (Steps.refl _) (argsL := [(.int (10 : Int32))]) (rest := []) (lenOf pd__40I_41I rfl) rfl (by show 2 * 0 + _ ≤ _; exact Nat.le_of_eq rfl) (hb hby D5_3.1) (fun _ _ => ⟨rfl, e0, (by decide : 0 + 0 ≤ _), (by decide : 0 + 0 ≤ _)⟩)
  dsimp only [Pt.U, Pt.locs, Pt.cells, Pt.slots] at X1 l1 y1 z1 st1 hQ1
  subst l1 y1 z1
  obtain ⟨rfl, N1q, e1⟩ := hQ1
  have N1 := Fr.app N0 N1q
  refine own_pre (A' := T1.setTop (mkF m 6 #[.val (.ref st)] [(.int (own_ix1 (10 : Int32) c0))])) (fun t k => st1.trans k) ?_
  by_cases hc6_2 : (own_ix1 (10 : Int32) c0) < (0 : Int32)
  · skip
    refine o_ifN X1 hx hby D5_6 ((if0 _ _).trans (tlt hc6_2).2.1) ?_
    refine o_aloadN X1 hx hby D5_9 rfl rfl ?_
    refine o_bipush X1 hx hby D5_10 (v := 13) rfl ?_
    obtain ⟨cq3, kq3, q3a, q3b, q3c⟩ := isOf hZ e1 hS.1
    obtain ⟨_, _, ⟨T3, L3, k3, n3⟩, -, X3, ⟨Lc3, hQ3, l3, y3, z3⟩, st3⟩ := X1.virtualBack hx (y := (⟨"java/lang/String", "indexOf", "(I)I"⟩ : MethodName)) (z := (⟨"java/lang/String", "indexOf", "(I)I"⟩ : MethodName)) hown (mvT hZ (own_wd hw (i := 30) rfl)) (mvT hZ (own_wd hw (i := 31) rfl)) (notFace_of_selects (args := #[]) (mvT hZ (own_wd hw (i := 33) rfl))) (mvT hZ (own_wd hw (i := 33) rfl)) (mvT hZ (own_wd hw (i := 32) rfl)) (by decide) (backOf (W := 0) (rs_x11 l Z a0 hw [] st (13 : Int32) vb kb c0 cs vf h0 n0 Z0 hST0 O0 hS hc0 (by first | exact Or.inl rfl | exact Or.inr rfl)) hZ (own_wd hw (i := 34) rfl) (own_wd hw (i := 7) rfl) (by decide) (by decide)) q3a q3c (g := (mkF m 12 #[.val (.ref st)] [(.int (13 : Int32)), (.ref st)])) rfl (by rw [hml]; rfl) (Steps.refl _) (argsL := [(.int (13 : Int32))]) (rest := []) (lenOf pd__40I_41I rfl) rfl (by show 2 * 0 + _ ≤ _; exact Nat.le_of_eq rfl) (hb hby D5_12.1) (fun _ _ => ⟨rfl, e1, (by decide : 0 + 0 ≤ _), (by decide : 0 + 0 ≤ _)⟩)
    dsimp only [Pt.U, Pt.locs, Pt.cells, Pt.slots] at X3 l3 y3 z3 st3 hQ3
    subst l3 y3 z3
    obtain ⟨rfl, N3q, e3⟩ := hQ3
    have N3 := Fr.app N1 N3q
    refine own_pre (A' := T3.setTop (mkF m 15 #[.val (.ref st)] [(.int (own_ix1 (13 : Int32) c0))])) (fun t k => st3.trans k) ?_
    by_cases hc15_4 : (own_ix1 (13 : Int32) c0) < (0 : Int32)
    · skip
      refine o_ifN X3 hx hby D5_15 ((if0 _ _).trans (tlt hc15_4).2.1) ?_
      refine o_iconst X3 hx hby D5_18 (v := 1) rfl ?_
      refine o_goto X3 hx hby D5_19 (q := 23) (by decide) (by decide) ?_
      exact own_ret (v := some (.int (1 : Int32))) X3 (fun h => by first | rfl | (rw [Bd.returns] at h; cases h)) (BodyLoose.notSynchronized Bd) (by decide) (by decide) (⟨by rw [own_one1, if_pos hc6_2, if_pos hc15_4], N3, e3⟩) (fun fs hr => retN X3 hx (t := .boolean) Bd.returns (by simp) (hb hby D5_23.1) hr)
    · skip
      refine o_ifY X3 hx hby D5_15 ((if0 _ _).trans (flt hc15_4).2.1) (q := 22) (by decide) (by decide) ?_
      refine o_iconst X3 hx hby D5_22 (v := 0) rfl ?_
      exact own_ret (v := some (.int (0 : Int32))) X3 (fun h => by first | rfl | (rw [Bd.returns] at h; cases h)) (BodyLoose.notSynchronized Bd) (by decide) (by decide) (⟨by rw [own_one1, if_pos hc6_2, if_neg hc15_4], N3, e3⟩) (fun fs hr => retN X3 hx (t := .boolean) Bd.returns (by simp) (hb hby D5_23.1) hr)
  · skip
    refine o_ifY X1 hx hby D5_6 ((if0 _ _).trans (flt hc6_2).2.1) (q := 22) (by decide) (by decide) ?_
    refine o_iconst X1 hx hby D5_22 (v := 0) rfl ?_
    exact own_ret (v := some (.int (0 : Int32))) X1 (fun h => by first | rfl | (rw [Bd.returns] at h; cases h)) (BodyLoose.notSynchronized Bd) (by decide) (by decide) (⟨by rw [own_one1, if_neg hc6_2], N1, e1⟩) (fun fs hr => retN X1 hx (t := .boolean) Bd.returns (by simp) (hb hby D5_23.1) hr)
def own_one2 (c0 c1 : Int32) : Int32 := if (own_ix2 (10 : Int32) c0 c1) < (0 : Int32) then (if (own_ix2 (13 : Int32) c0 c1) < (0 : Int32) then 1 else 0) else 0
theorem own_fin2 (c0 c1 : Int32) : own_one2 c0 c1 = (if own_brk c0 = (0 : Int32) then (if own_brk c1 = (0 : Int32) then 1 else 0) else 0) := by
  simp only [own_one2, own_ix2, own_brk]
  by_cases a0 : c0 = (10 : Int32) <;> by_cases b0 : c0 = (13 : Int32) <;>
  by_cases a1 : c1 = (10 : Int32) <;> by_cases b1 : c1 = (13 : Int32) <;>
    simp_all
theorem ef_rm_one2 (m : MethodId) (st : Addr) : entryFrame m #[(.ref st)] 1 = mkF m 0 #[.val (.ref st)] [] := by first | (simp [entryFrame, mkF, argsToLocals, Value.category]; done) | rfl
set_option maxRecDepth 65536 in
set_option maxHeartbeats 40000000 in
theorem rm_one2 (l : Launch) (Z : State) (a0 : Array Value) (hw : ∀ d ∈ tables_1, d.before a0 Z = true) (ws : List Jvm.Cond) (st : Addr) (vb : Addr) (kb : ClassId) (c0 c1 : Int32) (cs : Int32) (vf : Value) (h0 : Heap) (n0 : Nat) (Z0 : n0 ≤ h0.size) (hST : own_ST Z cs vf) (O0 : Old Z n0 h0) (hS : own_Str2 Z h0 st vb kb c0 c1) (hc0 : own_ch16 c0) (hc1 : own_ch16 c1) :
    MetFree l (⟨"com/example/arrearwise/arrearwise/MailText", "isOneLine", "(Ljava/lang/String;)Z"⟩ : MethodName) (head1 (Jvm.Cond.code (⟨"com/example/arrearwise/arrearwise/MailText", "isOneLine", "(Ljava/lang/String;)Z"⟩ : MethodName) prog_13_method_2_code 1 (some .boolean) :: ws) ({ frames := 7, cells := 0, slots := 0, locals := 100 } : Room)) (fun a U => a = #[(.ref st)] ∧ Z.Warmed39 U.vm ∧ U.heap = h0) (fun _ _ _ _ _ => True) (fun _ U o U' => ∃ v L, o = .returned v ∧ own_QP (.int (own_one2 c0 c1)) h0 n0 v U'.heap L ∧ FrameEnd U o U' L ({ frames := 7, cells := 0, slots := 0, locals := 100 } : Room).cells ({ frames := 7, cells := 0, slots := 0, locals := 100 } : Room).slots) := by
  refine MetFree.of_bodySF (plainFor_of_name pn_com_example_arrearwise_arrearwise_MailText) hisR ?_
  intro p e s m args below meth c s₁ Bd hml0 hP hK
  obtain ⟨rfl, hZ, hh⟩ := hP
  have hx := Bd.exec
  have hby := Bd.bytes
  have hml : c.maxLocals = 1 := hml0
  have hown : s.vm.findClass "com/example/arrearwise/arrearwise/MailText" = some m.cls := findClass_of_methodNamed Bd.named
  have hnm := (name_of_methodNamed Bd.named Bd.method).1
  have X0 : Stand p l e ({ frames := 7, cells := 0, slots := 0, locals := 100 } : Room) s m #[(.ref st)] below meth c s₁ [] 0 0 := Stand.of_body Bd
  have e0 : s₁.heap = h0 := by rw [← hh, Bd.state]; rfl
  have N0 := Fr.nil n0
  refine own_start (ef_rm_one2 m st) ?_
  have hST0 := hST
  refine o_aloadN X0 hx hby D5_0 rfl rfl ?_
  refine o_bipush X0 hx hby D5_1 (v := 10) rfl ?_
  obtain ⟨cq1, kq1, q1a, q1b, q1c⟩ := isOf hZ e0 hS.1
  obtain ⟨_, _, ⟨T1, L1, k1, n1⟩, -, X1, ⟨Lc1, hQ1, l1, y1, z1⟩, st1⟩ := X0.virtualBack hx (y := (⟨"java/lang/String", "indexOf", "(I)I"⟩ : MethodName)) (z := (⟨"java/lang/String", "indexOf", "(I)I"⟩ : MethodName)) hown (mvT hZ (own_wd hw (i := 30) rfl)) (mvT hZ (own_wd hw (i := 31) rfl)) (notFace_of_selects (args := #[]) (mvT hZ (own_wd hw (i := 33) rfl))) (mvT hZ (own_wd hw (i := 33) rfl)) (mvT hZ (own_wd hw (i := 32) rfl)) (by decide) (backOf (W := 0) (rs_x12 l Z a0 hw [] st (10 : Int32) vb kb c0 c1 cs vf h0 n0 Z0 hST0 O0 hS hc0 hc1 (by first | exact Or.inl rfl | exact Or.inr rfl)) hZ (own_wd hw (i := 34) rfl) (own_wd hw (i := 7) rfl) (by decide) (by decide)) q1a q1c (g := (mkF m 3 #[.val (.ref st)] [(.int (10 : Int32)), (.ref st)])) rfl (by rw [hml]; rfl) (Steps.refl _) (argsL := [(.int (10 : Int32))]) (rest := []) (lenOf pd__40I_41I rfl) rfl (by show 2 * 0 + _ ≤ _; exact Nat.le_of_eq rfl) (hb hby D5_3.1) (fun _ _ => ⟨rfl, e0, (by decide : 0 + 0 ≤ _), (by decide : 0 + 0 ≤ _)⟩)
  dsimp only [Pt.U, Pt.locs, Pt.cells, Pt.slots] at X1 l1 y1 z1 st1 hQ1
  subst l1 y1 z1
  obtain ⟨rfl, N1q, e1⟩ := hQ1
  have N1 := Fr.app N0 N1q
  refine own_pre (A' := T1.setTop (mkF m 6 #[.val (.ref st)] [(.int (own_ix2 (10 : Int32) c0 c1))])) (fun t k => st1.trans k) ?_
  by_cases hc6_2 : (own_ix2 (10 : Int32) c0 c1) < (0 : Int32)
  · skip
    refine o_ifN X1 hx hby D5_6 ((if0 _ _).trans (tlt hc6_2).2.1) ?_
    refine o_aloadN X1 hx hby D5_9 rfl rfl ?_
    refine o_bipush X1 hx hby D5_10 (v := 13) rfl ?_
    obtain ⟨cq3, kq3, q3a, q3b, q3c⟩ := isOf hZ e1 hS.1
    obtain ⟨_, _, ⟨T3, L3, k3, n3⟩, -, X3, ⟨Lc3, hQ3, l3, y3, z3⟩, st3⟩ := X1.virtualBack hx (y := (⟨"java/lang/String", "indexOf", "(I)I"⟩ : MethodName)) (z := (⟨"java/lang/String", "indexOf", "(I)I"⟩ : MethodName)) hown (mvT hZ (own_wd hw (i := 30) rfl)) (mvT hZ (own_wd hw (i := 31) rfl)) (notFace_of_selects (args := #[]) (mvT hZ (own_wd hw (i := 33) rfl))) (mvT hZ (own_wd hw (i := 33) rfl)) (mvT hZ (own_wd hw (i := 32) rfl)) (by decide) (backOf (W := 0) (rs_x12 l Z a0 hw [] st (13 : Int32) vb kb c0 c1 cs vf h0 n0 Z0 hST0 O0 hS hc0 hc1 (by first | exact Or.inl rfl | exact Or.inr rfl)) hZ (own_wd hw (i := 34) rfl) (own_wd hw (i := 7) rfl) (by decide) (by decide)) q3a q3c (g := (mkF m 12 #[.val (.ref st)] [(.int (13 : Int32)), (.ref st)])) rfl (by rw [hml]; rfl) (Steps.refl _) (argsL := [(.int (13 : Int32))]) (rest := []) (lenOf pd__40I_41I rfl) rfl (by show 2 * 0 + _ ≤ _; exact Nat.le_of_eq rfl) (hb hby D5_12.1) (fun _ _ => ⟨rfl, e1, (by decide : 0 + 0 ≤ _), (by decide : 0 + 0 ≤ _)⟩)
    dsimp only [Pt.U, Pt.locs, Pt.cells, Pt.slots] at X3 l3 y3 z3 st3 hQ3
    subst l3 y3 z3
    obtain ⟨rfl, N3q, e3⟩ := hQ3
    have N3 := Fr.app N1 N3q
    refine own_pre (A' := T3.setTop (mkF m 15 #[.val (.ref st)] [(.int (own_ix2 (13 : Int32) c0 c1))])) (fun t k => st3.trans k) ?_
    by_cases hc15_4 : (own_ix2 (13 : Int32) c0 c1) < (0 : Int32)
    · skip
      refine o_ifN X3 hx hby D5_15 ((if0 _ _).trans (tlt hc15_4).2.1) ?_
      refine o_iconst X3 hx hby D5_18 (v := 1) rfl ?_
      refine o_goto X3 hx hby D5_19 (q := 23) (by decide) (by decide) ?_
      exact own_ret (v := some (.int (1 : Int32))) X3 (fun h => by first | rfl | (rw [Bd.returns] at h; cases h)) (BodyLoose.notSynchronized Bd) (by decide) (by decide) (⟨by rw [own_one2, if_pos hc6_2, if_pos hc15_4], N3, e3⟩) (fun fs hr => retN X3 hx (t := .boolean) Bd.returns (by simp) (hb hby D5_23.1) hr)
    · skip
      refine o_ifY X3 hx hby D5_15 ((if0 _ _).trans (flt hc15_4).2.1) (q := 22) (by decide) (by decide) ?_
      refine o_iconst X3 hx hby D5_22 (v := 0) rfl ?_
      exact own_ret (v := some (.int (0 : Int32))) X3 (fun h => by first | rfl | (rw [Bd.returns] at h; cases h)) (BodyLoose.notSynchronized Bd) (by decide) (by decide) (⟨by rw [own_one2, if_pos hc6_2, if_neg hc15_4], N3, e3⟩) (fun fs hr => retN X3 hx (t := .boolean) Bd.returns (by simp) (hb hby D5_23.1) hr)
  · skip
    refine o_ifY X1 hx hby D5_6 ((if0 _ _).trans (flt hc6_2).2.1) (q := 22) (by decide) (by decide) ?_
    refine o_iconst X1 hx hby D5_22 (v := 0) rfl ?_
    exact own_ret (v := some (.int (0 : Int32))) X1 (fun h => by first | rfl | (rw [Bd.returns] at h; cases h)) (BodyLoose.notSynchronized Bd) (by decide) (by decide) (⟨by rw [own_one2, if_neg hc6_2], N1, e1⟩) (fun fs hr => retN X1 hx (t := .boolean) Bd.returns (by simp) (hb hby D5_23.1) hr)
def own_one3 (c0 c1 c2 : Int32) : Int32 := if (own_ix3 (10 : Int32) c0 c1 c2) < (0 : Int32) then (if (own_ix3 (13 : Int32) c0 c1 c2) < (0 : Int32) then 1 else 0) else 0
theorem own_fin3 (c0 c1 c2 : Int32) : own_one3 c0 c1 c2 = (if own_brk c0 = (0 : Int32) then (if own_brk c1 = (0 : Int32) then (if own_brk c2 = (0 : Int32) then 1 else 0) else 0) else 0) := by
  simp only [own_one3, own_ix3, own_brk]
  by_cases a0 : c0 = (10 : Int32) <;> by_cases b0 : c0 = (13 : Int32) <;>
  by_cases a1 : c1 = (10 : Int32) <;> by_cases b1 : c1 = (13 : Int32) <;>
  by_cases a2 : c2 = (10 : Int32) <;> by_cases b2 : c2 = (13 : Int32) <;>
    simp_all
theorem ef_rm_one3 (m : MethodId) (st : Addr) : entryFrame m #[(.ref st)] 1 = mkF m 0 #[.val (.ref st)] [] := by first | (simp [entryFrame, mkF, argsToLocals, Value.category]; done) | rfl
set_option maxRecDepth 65536 in
set_option maxHeartbeats 40000000 in
theorem rm_one3 (l : Launch) (Z : State) (a0 : Array Value) (hw : ∀ d ∈ tables_1, d.before a0 Z = true) (ws : List Jvm.Cond) (st : Addr) (vb : Addr) (kb : ClassId) (c0 c1 c2 : Int32) (cs : Int32) (vf : Value) (h0 : Heap) (n0 : Nat) (Z0 : n0 ≤ h0.size) (hST : own_ST Z cs vf) (O0 : Old Z n0 h0) (hS : own_Str3 Z h0 st vb kb c0 c1 c2) (hc0 : own_ch16 c0) (hc1 : own_ch16 c1) (hc2 : own_ch16 c2) :
    MetFree l (⟨"com/example/arrearwise/arrearwise/MailText", "isOneLine", "(Ljava/lang/String;)Z"⟩ : MethodName) (head1 (Jvm.Cond.code (⟨"com/example/arrearwise/arrearwise/MailText", "isOneLine", "(Ljava/lang/String;)Z"⟩ : MethodName) prog_13_method_2_code 1 (some .boolean) :: ws) ({ frames := 7, cells := 0, slots := 0, locals := 100 } : Room)) (fun a U => a = #[(.ref st)] ∧ Z.Warmed39 U.vm ∧ U.heap = h0) (fun _ _ _ _ _ => True) (fun _ U o U' => ∃ v L, o = .returned v ∧ own_QP (.int (own_one3 c0 c1 c2)) h0 n0 v U'.heap L ∧ FrameEnd U o U' L ({ frames := 7, cells := 0, slots := 0, locals := 100 } : Room).cells ({ frames := 7, cells := 0, slots := 0, locals := 100 } : Room).slots) := by
  refine MetFree.of_bodySF (plainFor_of_name pn_com_example_arrearwise_arrearwise_MailText) hisR ?_
  intro p e s m args below meth c s₁ Bd hml0 hP hK
  obtain ⟨rfl, hZ, hh⟩ := hP
  have hx := Bd.exec
  have hby := Bd.bytes
  have hml : c.maxLocals = 1 := hml0
  have hown : s.vm.findClass "com/example/arrearwise/arrearwise/MailText" = some m.cls := findClass_of_methodNamed Bd.named
  have hnm := (name_of_methodNamed Bd.named Bd.method).1
  have X0 : Stand p l e ({ frames := 7, cells := 0, slots := 0, locals := 100 } : Room) s m #[(.ref st)] below meth c s₁ [] 0 0 := Stand.of_body Bd
  have e0 : s₁.heap = h0 := by rw [← hh, Bd.state]; rfl
  have N0 := Fr.nil n0
  refine own_start (ef_rm_one3 m st) ?_
  have hST0 := hST
  refine o_aloadN X0 hx hby D5_0 rfl rfl ?_
  refine o_bipush X0 hx hby D5_1 (v := 10) rfl ?_
  obtain ⟨cq1, kq1, q1a, q1b, q1c⟩ := isOf hZ e0 hS.1
  obtain ⟨_, _, ⟨T1, L1, k1, n1⟩, -, X1, ⟨Lc1, hQ1, l1, y1, z1⟩, st1⟩ := X0.virtualBack hx (y := (⟨"java/lang/String", "indexOf", "(I)I"⟩ : MethodName)) (z := (⟨"java/lang/String", "indexOf", "(I)I"⟩ : MethodName)) hown (mvT hZ (own_wd hw (i := 30) rfl)) (mvT hZ (own_wd hw (i := 31) rfl)) (notFace_of_selects (args := #[]) (mvT hZ (own_wd hw (i := 33) rfl))) (mvT hZ (own_wd hw (i := 33) rfl)) (mvT hZ (own_wd hw (i := 32) rfl)) (by decide) (backOf (W := 0) (rs_x13 l Z a0 hw [] st (10 : Int32) vb kb c0 c1 c2 cs vf h0 n0 Z0 hST0 O0 hS hc0 hc1 hc2 (by first | exact Or.inl rfl | exact Or.inr rfl)) hZ (own_wd hw (i := 34) rfl) (own_wd hw (i := 7) rfl) (by decide) (by decide)) q1a q1c (g := (mkF m 3 #[.val (.ref st)] [(.int (10 : Int32)), (.ref st)])) rfl (by rw [hml]; rfl) (Steps.refl _) (argsL := [(.int (10 : Int32))]) (rest := []) (lenOf pd__40I_41I rfl) rfl (by show 2 * 0 + _ ≤ _; exact Nat.le_of_eq rfl) (hb hby D5_3.1) (fun _ _ => ⟨rfl, e0, (by decide : 0 + 0 ≤ _), (by decide : 0 + 0 ≤ _)⟩)
  dsimp only [Pt.U, Pt.locs, Pt.cells, Pt.slots] at X1 l1 y1 z1 st1 hQ1
  subst l1 y1 z1
  obtain ⟨rfl, N1q, e1⟩ := hQ1
  have N1 := Fr.app N0 N1q
  refine own_pre (A' := T1.setTop (mkF m 6 #[.val (.ref st)] [(.int (own_ix3 (10 : Int32) c0 c1 c2))])) (fun t k => st1.trans k) ?_
  by_cases hc6_2 : (own_ix3 (10 : Int32) c0 c1 c2) < (0 : Int32)
  · skip
    refine o_ifN X1 hx hby D5_6 ((if0 _ _).trans (tlt hc6_2).2.1) ?_
    refine o_aloadN X1 hx hby D5_9 rfl rfl ?_
    refine o_bipush X1 hx hby D5_10 (v := 13) rfl ?_
    obtain ⟨cq3, kq3, q3a, q3b, q3c⟩ := isOf hZ e1 hS.1
    obtain ⟨_, _, ⟨T3, L3, k3, n3⟩, -, X3, ⟨Lc3, hQ3, l3, y3, z3⟩, st3⟩ := X1.virtualBack hx (y := (⟨"java/lang/String", "indexOf", "(I)I"⟩ : MethodName)) (z := (⟨"java/lang/String", "indexOf", "(I)I"⟩ : MethodName)) hown (mvT hZ (own_wd hw (i := 30) rfl)) (mvT hZ (own_wd hw (i := 31) rfl)) (notFace_of_selects (args := #[]) (mvT hZ (own_wd hw (i := 33) rfl))) (mvT hZ (own_wd hw (i := 33) rfl)) (mvT hZ (own_wd hw (i := 32) rfl)) (by decide) (backOf (W := 0) (rs_x13 l Z a0 hw [] st (13 : Int32) vb kb c0 c1 c2 cs vf h0 n0 Z0 hST0 O0 hS hc0 hc1 hc2 (by first | exact Or.inl rfl | exact Or.inr rfl)) hZ (own_wd hw (i := 34) rfl) (own_wd hw (i := 7) rfl) (by decide) (by decide)) q3a q3c (g := (mkF m 12 #[.val (.ref st)] [(.int (13 : Int32)), (.ref st)])) rfl (by rw [hml]; rfl) (Steps.refl _) (argsL := [(.int (13 : Int32))]) (rest := []) (lenOf pd__40I_41I rfl) rfl (by show 2 * 0 + _ ≤ _; exact Nat.le_of_eq rfl) (hb hby D5_12.1) (fun _ _ => ⟨rfl, e1, (by decide : 0 + 0 ≤ _), (by decide : 0 + 0 ≤ _)⟩)
    dsimp only [Pt.U, Pt.locs, Pt.cells, Pt.slots] at X3 l3 y3 z3 st3 hQ3
    subst l3 y3 z3
    obtain ⟨rfl, N3q, e3⟩ := hQ3
    have N3 := Fr.app N1 N3q
    refine own_pre (A' := T3.setTop (mkF m 15 #[.val (.ref st)] [(.int (own_ix3 (13 : Int32) c0 c1 c2))])) (fun t k => st3.trans k) ?_
    by_cases hc15_4 : (own_ix3 (13 : Int32) c0 c1 c2) < (0 : Int32)
    · skip
      refine o_ifN X3 hx hby D5_15 ((if0 _ _).trans (tlt hc15_4).2.1) ?_
      refine o_iconst X3 hx hby D5_18 (v := 1) rfl ?_
      refine o_goto X3 hx hby D5_19 (q := 23) (by decide) (by decide) ?_
      exact own_ret (v := some (.int (1 : Int32))) X3 (fun h => by first | rfl | (rw [Bd.returns] at h; cases h)) (BodyLoose.notSynchronized Bd) (by decide) (by decide) (⟨by rw [own_one3, if_pos hc6_2, if_pos hc15_4], N3, e3⟩) (fun fs hr => retN X3 hx (t := .boolean) Bd.returns (by simp) (hb hby D5_23.1) hr)
    · skip
      refine o_ifY X3 hx hby D5_15 ((if0 _ _).trans (flt hc15_4).2.1) (q := 22) (by decide) (by decide) ?_
      refine o_iconst X3 hx hby D5_22 (v := 0) rfl ?_
      exact own_ret (v := some (.int (0 : Int32))) X3 (fun h => by first | rfl | (rw [Bd.returns] at h; cases h)) (BodyLoose.notSynchronized Bd) (by decide) (by decide) (⟨by rw [own_one3, if_pos hc6_2, if_neg hc15_4], N3, e3⟩) (fun fs hr => retN X3 hx (t := .boolean) Bd.returns (by simp) (hb hby D5_23.1) hr)
  · skip
    refine o_ifY X1 hx hby D5_6 ((if0 _ _).trans (flt hc6_2).2.1) (q := 22) (by decide) (by decide) ?_
    refine o_iconst X1 hx hby D5_22 (v := 0) rfl ?_
    exact own_ret (v := some (.int (0 : Int32))) X1 (fun h => by first | rfl | (rw [Bd.returns] at h; cases h)) (BodyLoose.notSynchronized Bd) (by decide) (by decide) (⟨by rw [own_one3, if_neg hc6_2], N1, e1⟩) (fun fs hr => retN X1 hx (t := .boolean) Bd.returns (by simp) (hb hby D5_23.1) hr)
theorem own_four (x : Int32) : x &&& (3 : Int32) = 0 ∨ x &&& (3 : Int32) = 1 ∨ x &&& (3 : Int32) = 2 ∨ x &&& (3 : Int32) = 3 := by
  have e1 : (x &&& 3).toInt = x.toInt % 2 ^ 2 := Jvm.Kit.i32_mask x 3 (k := 2) (by decide) (by decide)
  have c0 : (0 : Int32).toInt = 0 := rfl
  have c1 : (1 : Int32).toInt = 1 := rfl
  have c2 : (2 : Int32).toInt = 2 := rfl
  have c3 : (3 : Int32).toInt = 3 := rfl
  simp only [← Int32.toInt_inj, c0, c1, c2, c3, e1]
  omega
theorem pd__40I_41C : parseMethodDescriptor "(I)C" = some ⟨[.int], some .char⟩ := by decide +kernel
theorem pd__40_91C_41V : parseMethodDescriptor "([C)V" = some ⟨[(.array .char)], none⟩ := by decide +kernel
theorem pd__40Ljava_47lang_47String_59_41Z : parseMethodDescriptor "(Ljava/lang/String;)Z" = some ⟨[(.object "java/lang/String")], some .boolean⟩ := by decide +kernel
theorem pd__40C_41Z : parseMethodDescriptor "(C)Z" = some ⟨[.char], some .boolean⟩ := by decide +kernel
theorem D0_0 : own_at code 0 (.iload_n 0) 1 1 := ⟨at_0, rfl⟩
theorem D0_1 : own_at code 1 (.iconst 3) 1 2 := ⟨at_1, rfl⟩
theorem D0_2 : own_at code 2 (.iand) 1 3 := ⟨at_2, rfl⟩
theorem D0_3 : own_at code 3 (.istore 4) 2 5 := ⟨at_3, rfl⟩
theorem D0_5 : own_at code 5 (.iload_n 1) 1 6 := ⟨at_5, rfl⟩
theorem D0_6 : own_at code 6 (.invokestatic 8) 3 9 := ⟨at_6, rfl⟩
theorem D0_9 : own_at code 9 (.istore 5) 2 11 := ⟨at_9, rfl⟩
theorem D0_11 : own_at code 11 (.iload_n 2) 1 12 := ⟨at_11, rfl⟩
theorem D0_12 : own_at code 12 (.invokestatic 8) 3 15 := ⟨at_12, rfl⟩
theorem D0_15 : own_at code 15 (.istore 6) 2 17 := ⟨at_15, rfl⟩
theorem D0_17 : own_at code 17 (.iload_n 3) 1 18 := ⟨at_17, rfl⟩
theorem D0_18 : own_at code 18 (.invokestatic 8) 3 21 := ⟨at_18, rfl⟩
theorem D0_21 : own_at code 21 (.istore 7) 2 23 := ⟨at_21, rfl⟩
theorem D0_23 : own_at code 23 (.iload 4) 2 25 := ⟨at_23, rfl⟩
theorem D0_25 : own_at code 25 (.ifCond .ne 11) 3 28 := ⟨at_25, rfl⟩
theorem D0_28 : own_at code 28 (.iconst 0) 1 29 := ⟨at_28, rfl⟩
theorem D0_29 : own_at code 29 (.newarray .char) 2 31 := ⟨at_29, rfl⟩
theorem D0_31 : own_at code 31 (.astore 8) 2 33 := ⟨at_31, rfl⟩
theorem D0_33 : own_at code 33 (.goto 66) 3 36 := ⟨at_33, rfl⟩
theorem D0_36 : own_at code 36 (.iload 4) 2 38 := ⟨at_36, rfl⟩
theorem D0_38 : own_at code 38 (.iconst 1) 1 39 := ⟨at_38, rfl⟩
theorem D0_39 : own_at code 39 (.if_icmp .ne 16) 3 42 := ⟨at_39, rfl⟩
theorem D0_42 : own_at code 42 (.iconst 1) 1 43 := ⟨at_42, rfl⟩
theorem D0_43 : own_at code 43 (.newarray .char) 2 45 := ⟨at_43, rfl⟩
theorem D0_45 : own_at code 45 (.dup) 1 46 := ⟨at_45, rfl⟩
theorem D0_46 : own_at code 46 (.iconst 0) 1 47 := ⟨at_46, rfl⟩
theorem D0_47 : own_at code 47 (.iload 5) 2 49 := ⟨at_47, rfl⟩
theorem D0_49 : own_at code 49 (.castore) 1 50 := ⟨at_49, rfl⟩
theorem D0_50 : own_at code 50 (.astore 8) 2 52 := ⟨at_50, rfl⟩
theorem D0_52 : own_at code 52 (.goto 47) 3 55 := ⟨at_52, rfl⟩
theorem D0_55 : own_at code 55 (.iload 4) 2 57 := ⟨at_55, rfl⟩
theorem D0_57 : own_at code 57 (.iconst 2) 1 58 := ⟨at_57, rfl⟩
theorem D0_58 : own_at code 58 (.if_icmp .ne 21) 3 61 := ⟨at_58, rfl⟩
theorem D0_61 : own_at code 61 (.iconst 2) 1 62 := ⟨at_61, rfl⟩
theorem D0_62 : own_at code 62 (.newarray .char) 2 64 := ⟨at_62, rfl⟩
theorem D0_64 : own_at code 64 (.dup) 1 65 := ⟨at_64, rfl⟩
theorem D0_65 : own_at code 65 (.iconst 0) 1 66 := ⟨at_65, rfl⟩
theorem D0_66 : own_at code 66 (.iload 5) 2 68 := ⟨at_66, rfl⟩
theorem D0_68 : own_at code 68 (.castore) 1 69 := ⟨at_68, rfl⟩
theorem D0_69 : own_at code 69 (.dup) 1 70 := ⟨at_69, rfl⟩
theorem D0_70 : own_at code 70 (.iconst 1) 1 71 := ⟨at_70, rfl⟩
theorem D0_71 : own_at code 71 (.iload 6) 2 73 := ⟨at_71, rfl⟩
theorem D0_73 : own_at code 73 (.castore) 1 74 := ⟨at_73, rfl⟩
theorem D0_74 : own_at code 74 (.astore 8) 2 76 := ⟨at_74, rfl⟩
theorem D0_76 : own_at code 76 (.goto 23) 3 79 := ⟨at_76, rfl⟩
theorem D0_79 : own_at code 79 (.iconst 3) 1 80 := ⟨at_79, rfl⟩
theorem D0_80 : own_at code 80 (.newarray .char) 2 82 := ⟨at_80, rfl⟩
theorem D0_82 : own_at code 82 (.dup) 1 83 := ⟨at_82, rfl⟩
theorem D0_83 : own_at code 83 (.iconst 0) 1 84 := ⟨at_83, rfl⟩
theorem D0_84 : own_at code 84 (.iload 5) 2 86 := ⟨at_84, rfl⟩
theorem D0_86 : own_at code 86 (.castore) 1 87 := ⟨at_86, rfl⟩
theorem D0_87 : own_at code 87 (.dup) 1 88 := ⟨at_87, rfl⟩
theorem D0_88 : own_at code 88 (.iconst 1) 1 89 := ⟨at_88, rfl⟩
theorem D0_89 : own_at code 89 (.iload 6) 2 91 := ⟨at_89, rfl⟩
theorem D0_91 : own_at code 91 (.castore) 1 92 := ⟨at_91, rfl⟩
theorem D0_92 : own_at code 92 (.dup) 1 93 := ⟨at_92, rfl⟩
theorem D0_93 : own_at code 93 (.iconst 2) 1 94 := ⟨at_93, rfl⟩
theorem D0_94 : own_at code 94 (.iload 7) 2 96 := ⟨at_94, rfl⟩
theorem D0_96 : own_at code 96 (.castore) 1 97 := ⟨at_96, rfl⟩
theorem D0_97 : own_at code 97 (.astore 8) 2 99 := ⟨at_97, rfl⟩
theorem D0_99 : own_at code 99 (.new 14) 3 102 := ⟨at_99, rfl⟩
theorem D0_102 : own_at code 102 (.dup) 1 103 := ⟨at_102, rfl⟩
theorem D0_103 : own_at code 103 (.aload 8) 2 105 := ⟨at_103, rfl⟩
theorem D0_105 : own_at code 105 (.invokespecial 16) 3 108 := ⟨at_105, rfl⟩
theorem D0_108 : own_at code 108 (.astore 9) 2 110 := ⟨at_108, rfl⟩
theorem D0_110 : own_at code 110 (.iload 4) 2 112 := ⟨at_110, rfl⟩
theorem D0_112 : own_at code 112 (.ifCond .le 11) 3 115 := ⟨at_112, rfl⟩
theorem D0_115 : own_at code 115 (.iload 5) 2 117 := ⟨at_115, rfl⟩
theorem D0_117 : own_at code 117 (.invokestatic 19) 3 120 := ⟨at_117, rfl⟩
theorem D0_120 : own_at code 120 (.ifCond .ne 31) 3 123 := ⟨at_120, rfl⟩
theorem D0_123 : own_at code 123 (.iload 4) 2 125 := ⟨at_123, rfl⟩
theorem D0_125 : own_at code 125 (.iconst 1) 1 126 := ⟨at_125, rfl⟩
theorem D0_126 : own_at code 126 (.if_icmp .le 11) 3 129 := ⟨at_126, rfl⟩
theorem D0_129 : own_at code 129 (.iload 6) 2 131 := ⟨at_129, rfl⟩
theorem D0_131 : own_at code 131 (.invokestatic 19) 3 134 := ⟨at_131, rfl⟩
theorem D0_134 : own_at code 134 (.ifCond .ne 17) 3 137 := ⟨at_134, rfl⟩
theorem D0_137 : own_at code 137 (.iload 4) 2 139 := ⟨at_137, rfl⟩
theorem D0_139 : own_at code 139 (.iconst 2) 1 140 := ⟨at_139, rfl⟩
theorem D0_140 : own_at code 140 (.if_icmp .le 15) 3 143 := ⟨at_140, rfl⟩
theorem D0_143 : own_at code 143 (.iload 7) 2 145 := ⟨at_143, rfl⟩
theorem D0_145 : own_at code 145 (.invokestatic 19) 3 148 := ⟨at_145, rfl⟩
theorem D0_148 : own_at code 148 (.ifCond .eq 7) 3 151 := ⟨at_148, rfl⟩
theorem D0_151 : own_at code 151 (.iconst 1) 1 152 := ⟨at_151, rfl⟩
theorem D0_152 : own_at code 152 (.goto 4) 3 155 := ⟨at_152, rfl⟩
theorem D0_155 : own_at code 155 (.iconst 0) 1 156 := ⟨at_155, rfl⟩
theorem D0_156 : own_at code 156 (.istore 10) 2 158 := ⟨at_156, rfl⟩
theorem D0_158 : own_at code 158 (.aload 9) 2 160 := ⟨at_158, rfl⟩
theorem D0_160 : own_at code 160 (.invokestatic 23) 3 163 := ⟨at_160, rfl⟩
theorem D0_163 : own_at code 163 (.iload 10) 2 165 := ⟨at_163, rfl⟩
theorem D0_165 : own_at code 165 (.ifCond .ne 7) 3 168 := ⟨at_165, rfl⟩
theorem D0_168 : own_at code 168 (.iconst 1) 1 169 := ⟨at_168, rfl⟩
theorem D0_169 : own_at code 169 (.goto 4) 3 172 := ⟨at_169, rfl⟩
theorem D0_172 : own_at code 172 (.iconst 0) 1 173 := ⟨at_172, rfl⟩
theorem D0_173 : own_at code 173 (.if_icmp .ne 7) 3 176 := ⟨at_173, rfl⟩
theorem D0_176 : own_at code 176 (.iconst 1) 1 177 := ⟨at_176, rfl⟩
theorem D0_177 : own_at code 177 (.goto 4) 3 180 := ⟨at_177, rfl⟩
theorem D0_181 : own_at code 181 (.ireturn) 1 182 := ⟨at_181, rfl⟩
theorem ef_rm0 (m : MethodId) (p0 : Int32) (p1 : Int32) (p2 : Int32) (p3 : Int32) : entryFrame m #[(.int p0), (.int p1), (.int p2), (.int p3)] maxLocals = mkF m 0 #[.val (.int p0), .val (.int p1), .val (.int p2), .val (.int p3), .unset, .unset, .unset, .unset, .unset, .unset, .unset] [] := by first | (simp [entryFrame, mkF, argsToLocals, Value.category, maxLocals]; done) | rfl
set_option maxRecDepth 65536 in
set_option maxHeartbeats 40000000 in
theorem rm0 (l : Launch) (Z : State) (a0 : Array Value) (hw : ∀ d ∈ tables_1, d.before a0 Z = true) (ws : List Jvm.Cond) (p0 : Int32) (p1 : Int32) (p2 : Int32) (p3 : Int32) (cs : Int32) (vf : Value) (h0 : Heap) (n0 : Nat) (Z0 : n0 ≤ h0.size) (hST : own_ST Z cs vf) (O0 : Old Z n0 h0) :
    MetFree l x (head1 (Jvm.Cond.code x code maxLocals ret :: ws) room_1) (fun a U => a = #[(.int p0), (.int p1), (.int p2), (.int p3)] ∧ Z.Warmed39 U.vm ∧ U.heap = h0 ∧ CHv Z own_EL U.vm h0) (fun _ _ _ _ _ => True) (fun _ U o U' => ∃ v L, o = .returned v ∧ own_Q0 n0 v U'.heap L ∧ ReturnedEndW U o U' L room_1.cells room_1.slots) := by
  refine MetFree.of_bodySF (plainFor_of_name pn_com_example_arrearwise_arrearwise_MailTextIsOneLinePinLaw) hisR ?_
  intro p e s m args below meth c s₁ Bd hml0 hP hK
  obtain ⟨rfl, hZ, hh, hCH⟩ := hP
  have hx := Bd.exec
  have hby := Bd.bytes
  have hml : c.maxLocals = 11 := hml0
  have hown : s.vm.findClass "com/example/arrearwise/arrearwise/MailTextIsOneLinePinLaw" = some m.cls := findClass_of_methodNamed Bd.named
  have hnm := (name_of_methodNamed Bd.named Bd.method).1
  have X0 : Stand p l e room_1 s m #[(.int p0), (.int p1), (.int p2), (.int p3)] below meth c s₁ [] 0 0 := Stand.of_body Bd
  have e0 : s₁.heap = h0 := by rw [← hh, Bd.state]; rfl
  have N0 := Fr.nil n0
  refine own_startW (ef_rm0 m p0 p1 p2 p3) ?_
  have hST0 := hST
  obtain ⟨S_cs, S_ad, S_hb, S_lb, S_sf, hcs, hvf⟩ := hST
  refine o_iloadN X0 hx hby D0_0 rfl ?_
  refine o_iconst X0 hx hby D0_1 (v := 3) rfl ?_
  refine o_iand X0 hx hby D0_2 ?_
  refine o_istore X0 hx hby D0_3 (l' := #[.val (.int p0), .val (.int p1), .val (.int p2), .val (.int p3), .val (.int (p0 &&& (3 : Int32))), .unset, .unset, .unset, .unset, .unset, .unset]) rfl ?_
  refine o_iloadN X0 hx hby D0_5 rfl ?_
  obtain ⟨_, _, ⟨T1, L1, k1, n1⟩, -, X1, ⟨Lc1, hQ1, l1, y1, z1⟩, st1⟩ := Jvm.LawKit.callS X0 hx (y := (⟨"com/example/arrearwise/arrearwise/MailTextIsOneLinePinLaw", "ch", "(I)C"⟩ : MethodName)) hown (mvT hZ (own_wd hw (i := 0) rfl)) (mvT hZ (own_wd hw (i := 1) rfl)) (mvT hZ (own_wd hw (i := 2) rfl)) (mvT hZ (own_wd hw (i := 3) rfl)) (by decide) (backOf (W := 0) (rm_ch l Z a0 hw [] p1  h0 n0 Z0 ) hZ (own_wd hw (i := 3) rfl) (own_wd hw (i := 2) rfl) (by decide) (by decide)) (g := (mkF m 6 #[.val (.int p0), .val (.int p1), .val (.int p2), .val (.int p3), .val (.int (p0 &&& (3 : Int32))), .unset, .unset, .unset, .unset, .unset, .unset] [(.int p1)])) rfl (by rw [hml]; rfl) (argsL := [(.int p1)]) (rest := []) (lenOf pd__40I_41C rfl) rfl (by show 2 * 0 + _ ≤ _; exact Nat.le_of_eq rfl) (hb hby D0_6.1) (fun _ _ => ⟨rfl, e0, (by decide : 0 + 0 ≤ _), (by decide : 0 + 0 ≤ _)⟩)
  dsimp only [Pt.U, Pt.locs, Pt.cells, Pt.slots] at X1 l1 y1 z1 st1 hQ1
  subst l1 y1 z1
  obtain ⟨rfl, N1q, e1⟩ := hQ1
  have N1 := Fr.app N0 N1q
  refine own_pre (A' := T1.setTop (mkF m 9 #[.val (.int p0), .val (.int p1), .val (.int p2), .val (.int p3), .val (.int (p0 &&& (3 : Int32))), .unset, .unset, .unset, .unset, .unset, .unset] [(.int (own_ch p1))])) st1 ?_
  refine o_istore X1 hx hby D0_9 (l' := #[.val (.int p0), .val (.int p1), .val (.int p2), .val (.int p3), .val (.int (p0 &&& (3 : Int32))), .val (.int (own_ch p1)), .unset, .unset, .unset, .unset, .unset]) rfl ?_
  refine o_iloadN X1 hx hby D0_11 rfl ?_
  obtain ⟨_, _, ⟨T2, L2, k2, n2⟩, -, X2, ⟨Lc2, hQ2, l2, y2, z2⟩, st2⟩ := Jvm.LawKit.callS X1 hx (y := (⟨"com/example/arrearwise/arrearwise/MailTextIsOneLinePinLaw", "ch", "(I)C"⟩ : MethodName)) hown (mvT hZ (own_wd hw (i := 0) rfl)) (mvT hZ (own_wd hw (i := 1) rfl)) (mvT hZ (own_wd hw (i := 2) rfl)) (mvT hZ (own_wd hw (i := 3) rfl)) (by decide) (backOf (W := 0) (rm_ch l Z a0 hw [] p2  h0 n0 Z0 ) hZ (own_wd hw (i := 3) rfl) (own_wd hw (i := 2) rfl) (by decide) (by decide)) (g := (mkF m 12 #[.val (.int p0), .val (.int p1), .val (.int p2), .val (.int p3), .val (.int (p0 &&& (3 : Int32))), .val (.int (own_ch p1)), .unset, .unset, .unset, .unset, .unset] [(.int p2)])) rfl (by rw [hml]; rfl) (argsL := [(.int p2)]) (rest := []) (lenOf pd__40I_41C rfl) rfl (by show 2 * 0 + _ ≤ _; exact Nat.le_of_eq rfl) (hb hby D0_12.1) (fun _ _ => ⟨rfl, e1, (by decide : 0 + 0 ≤ _), (by decide : 0 + 0 ≤ _)⟩)
  dsimp only [Pt.U, Pt.locs, Pt.cells, Pt.slots] at X2 l2 y2 z2 st2 hQ2
  subst l2 y2 z2
  obtain ⟨rfl, N2q, e2⟩ := hQ2
  have N2 := Fr.app N1 N2q
  refine own_pre (A' := T2.setTop (mkF m 15 #[.val (.int p0), .val (.int p1), .val (.int p2), .val (.int p3), .val (.int (p0 &&& (3 : Int32))), .val (.int (own_ch p1)), .unset, .unset, .unset, .unset, .unset] [(.int (own_ch p2))])) st2 ?_
  refine o_istore X2 hx hby D0_15 (l' := #[.val (.int p0), .val (.int p1), .val (.int p2), .val (.int p3), .val (.int (p0 &&& (3 : Int32))), .val (.int (own_ch p1)), .val (.int (own_ch p2)), .unset, .unset, .unset, .unset]) rfl ?_
  refine o_iloadN X2 hx hby D0_17 rfl ?_
  obtain ⟨_, _, ⟨T3, L3, k3, n3⟩, -, X3, ⟨Lc3, hQ3, l3, y3, z3⟩, st3⟩ := Jvm.LawKit.callS X2 hx (y := (⟨"com/example/arrearwise/arrearwise/MailTextIsOneLinePinLaw", "ch", "(I)C"⟩ : MethodName)) hown (mvT hZ (own_wd hw (i := 0) rfl)) (mvT hZ (own_wd hw (i := 1) rfl)) (mvT hZ (own_wd hw (i := 2) rfl)) (mvT hZ (own_wd hw (i := 3) rfl)) (by decide) (backOf (W := 0) (rm_ch l Z a0 hw [] p3  h0 n0 Z0 ) hZ (own_wd hw (i := 3) rfl) (own_wd hw (i := 2) rfl) (by decide) (by decide)) (g := (mkF m 18 #[.val (.int p0), .val (.int p1), .val (.int p2), .val (.int p3), .val (.int (p0 &&& (3 : Int32))), .val (.int (own_ch p1)), .val (.int (own_ch p2)), .unset, .unset, .unset, .unset] [(.int p3)])) rfl (by rw [hml]; rfl) (argsL := [(.int p3)]) (rest := []) (lenOf pd__40I_41C rfl) rfl (by show 2 * 0 + _ ≤ _; exact Nat.le_of_eq rfl) (hb hby D0_18.1) (fun _ _ => ⟨rfl, e2, (by decide : 0 + 0 ≤ _), (by decide : 0 + 0 ≤ _)⟩)
  dsimp only [Pt.U, Pt.locs, Pt.cells, Pt.slots] at X3 l3 y3 z3 st3 hQ3
  subst l3 y3 z3
  obtain ⟨rfl, N3q, e3⟩ := hQ3
  have N3 := Fr.app N2 N3q
  refine own_pre (A' := T3.setTop (mkF m 21 #[.val (.int p0), .val (.int p1), .val (.int p2), .val (.int p3), .val (.int (p0 &&& (3 : Int32))), .val (.int (own_ch p1)), .val (.int (own_ch p2)), .unset, .unset, .unset, .unset] [(.int (own_ch p3))])) st3 ?_
  refine o_istore X3 hx hby D0_21 (l' := #[.val (.int p0), .val (.int p1), .val (.int p2), .val (.int p3), .val (.int (p0 &&& (3 : Int32))), .val (.int (own_ch p1)), .val (.int (own_ch p2)), .val (.int (own_ch p3)), .unset, .unset, .unset]) rfl ?_
  generalize hnn : (p0 &&& (3 : Int32)) = nn
  have hq := own_four p0
  rw [hnn] at hq
  have hc0 := own_chR p1
  generalize own_ch p1 = c0 at *
  have hc1 := own_chR p2
  generalize own_ch p2 = c1 at *
  have hc2 := own_chR p3
  generalize own_ch p3 = c2 at *
  rcases hq with rfl | rfl | rfl | rfl
  · skip
    refine o_iload X3 hx hby D0_23 rfl ?_
    refine o_ifN X3 hx hby D0_25 ((if0 _ _).trans (teq (by decide : (0 : Int32) = (0 : Int32))).2) ?_
    refine o_iconst X3 hx hby D0_28 (v := 0) rfl ?_
    obtain ⟨T4, h4, k4, X4, e4, E4, A4, Ex4, st4⟩ := newPE X3 hx hZ (own_wd hw (i := 4) rfl) e3 (g := (mkF m 29 #[.val (.int p0), .val (.int p1), .val (.int p2), .val (.int p3), .val (.int (0 : Int32)), .val (.int c0), .val (.int c1), .val (.int c2), .unset, .unset, .unset] [(.int (0 : Int32))])) rfl (hb hby D0_29.1) rfl (by decide) (cap := 0) (by decide) (by decide) (by decide) (by decide) (ad := "[C") (by first | rfl | decide)
    obtain ⟨b4, g4⟩ : ∃ z : Nat, z = h0.size := ⟨_, rfl⟩
    rw [← g4] at A4 Ex4 st4
    have sz4 := own_leN E4.1
    have gn_b4 : n0 ≤ b4 := by omega
    have V_b4 : Arv Z h4 b4 k4 .char (0 : Int32) [] (.int (0 : Int32)) := (Arv.new A4 (by decide)).pad (pad_rep [] (.int (0 : Int32)) 0)
    have lt_b4 := own_ltN V_b4.lt
    refine own_pre (A' := T4.setTop (mkF m 31 #[.val (.int p0), .val (.int p1), .val (.int p2), .val (.int p3), .val (.int (0 : Int32)), .val (.int c0), .val (.int c1), .val (.int c2), .unset, .unset, .unset] [(.ref b4)])) st4 ?_
    refine o_astore X4 hx hby D0_31 rfl (l' := #[.val (.int p0), .val (.int p1), .val (.int p2), .val (.int p3), .val (.int (0 : Int32)), .val (.int c0), .val (.int c1), .val (.int c2), .val (.ref b4), .unset, .unset]) rfl ?_
    refine o_goto X4 hx hby D0_33 (q := 99) (by decide) (by decide) ?_
    obtain ⟨T5, h5, X5, e5, E5, A5, D5, -, st5⟩ := newO X4 hx hZ hown (own_wd hw (i := 5) rfl) (own_wd hw (i := 6) rfl) (own_wd hw (i := 7) rfl) e4 (g := (mkF m 99 #[.val (.int p0), .val (.int p1), .val (.int p2), .val (.int p3), .val (.int (0 : Int32)), .val (.int c0), .val (.int c1), .val (.int c2), .val (.ref b4), .unset, .unset] [])) rfl (hb hby D0_99.1) (by decide) (by decide)
    obtain ⟨b5, g5⟩ : ∃ z : Nat, z = h4.size := ⟨_, rfl⟩
    rw [← g5] at A5 D5 st5
    have sz5 := own_leN E5.1
    have gn_b5 : n0 ≤ b5 := by omega
    have lt_b5 := own_ltN A5.lt
    have F_value_b5 : Fld Z h5 b5 "java/lang/String" "value" "[B" .null := D5 (Or.inr (own_wd hw (i := 20) rfl)) (ty := (.array .byte)) (by decide)
    have F_coder_b5 : Fld Z h5 b5 "java/lang/String" "coder" "B" (.int (0 : Int32)) := D5 (Or.inr (own_wd hw (i := 21) rfl)) (ty := .byte) (by decide)
    refine own_pre (A' := T5.setTop (mkF m 102 #[.val (.int p0), .val (.int p1), .val (.int p2), .val (.int p3), .val (.int (0 : Int32)), .val (.int c0), .val (.int c1), .val (.int c2), .val (.ref b4), .unset, .unset] [(.ref b5)])) st5 ?_
    refine o_dup X5 hx hby D0_102 rfl ?_
    refine o_aload X5 hx hby D0_103 rfl rfl ?_
    have c6_V_b4 := (V_b4.ext E5)
    obtain ⟨_, _, ⟨T7, L7, k7, n7⟩, -, X7, hS7, hg7, ⟨Lc7, hQ7, l7, y7, z7, CH7⟩, st7⟩ := Stand.specialBackS (s := s.setVm s.vm) X5 hx (y := (⟨"java/lang/String", "<init>", "([C)V"⟩ : MethodName)) rfl hown (mvT (s := s.setVm s.vm) hZ (own_wd hw (i := 8) rfl)) (mvT (s := s.setVm s.vm) hZ (own_wd hw (i := 9) rfl)) (mvT (s := s.setVm s.vm) hZ (own_wd hw (i := 10) rfl)) (by decide) (backOfSH (s := s) (vm0 := s.vm) (W := 1) (rs_i10 l Z a0 hw [] b5 b4 k4 _ h5 n0 (own_leN (by omega)) c6_V_b4 gn_b5 A5 F_value_b5 F_coder_b5) hZ (own_wd hw (i := 10) rfl) (own_wd hw (i := 7) rfl) (by decide) (by decide) (own_ew hw) ((CHv.ext E5 (CHv.ext E4 hCH)))) (g := (mkF m 105 #[.val (.int p0), .val (.int p1), .val (.int p2), .val (.int p3), .val (.int (0 : Int32)), .val (.int c0), .val (.int c1), .val (.int c2), .val (.ref b4), .unset, .unset] [(.ref b4), (.ref b5), (.ref b5)])) rfl (by rw [hml]; rfl) (Steps.refl _) (a := b5) (argsL := [(.ref b4)]) (rest := [(.ref b5)]) (lenOf pd__40_91C_41V rfl) rfl (by show 2 * 0 + _ ≤ _; exact Nat.le_of_eq rfl) (hb hby D0_105.1) (fun _ _ => ⟨rfl, e5, (by decide : 2 + 2 ≤ _), (by decide : 4 + 4 ≤ _)⟩)
    dsimp only [Pt.U, Pt.locs, Pt.cells, Pt.slots] at X7 hS7 hg7 l7 y7 z7 st7 hQ7 CH7
    subst l7 y7 z7
    obtain ⟨vb, kb, rfl, N7q, K7, ltv7, Str7⟩ := hQ7
    have sz7 := own_leN K7.1
    have N7 := Fr.app N3 N7q
    have hZ : Z.Warmed39 (s.setVm T7.vm).vm := State.Warmed39.trans (t := s.setVm s.vm) hZ hS7.1
    have hown : (s.setVm T7.vm).vm.findClass "com/example/arrearwise/arrearwise/MailTextIsOneLinePinLaw" = some m.cls := (hS7.1.alike.findClass _ _).trans hown
    have X7 : Stand p l e room_1 (s.setVm T7.vm) m _ below meth c T7 _ _ _ := X7
    refine own_pre (A' := T7.setTop (mkF m 108 #[.val (.int p0), .val (.int p1), .val (.int p2), .val (.int p3), .val (.int (0 : Int32)), .val (.int c0), .val (.int c1), .val (.int c2), .val (.ref b4), .unset, .unset] [(.ref b5)])) (fun t k => st7.trans k) ?_
    refine o_astore X7 hx hby D0_108 rfl (l' := #[.val (.int p0), .val (.int p1), .val (.int p2), .val (.int p3), .val (.int (0 : Int32)), .val (.int c0), .val (.int c1), .val (.int c2), .val (.ref b4), .val (.ref b5), .unset]) rfl ?_
    refine o_iload X7 hx hby D0_110 rfl ?_
    refine o_ifY X7 hx hby D0_112 ((if0 _ _).trans (flt (by decide : ¬ ((0 : Int32) < (0 : Int32)))).2.2.2) (q := 123) (by decide) (by decide) ?_
    refine o_iload X7 hx hby D0_123 rfl ?_
    refine o_iconst X7 hx hby D0_125 (v := 1) rfl ?_
    refine o_icmpY X7 hx hby D0_126 (flt (by decide : ¬ ((1 : Int32) < (0 : Int32)))).2.2.2 (q := 137) (by decide) (by decide) ?_
    refine o_iload X7 hx hby D0_137 rfl ?_
    refine o_iconst X7 hx hby D0_139 (v := 2) rfl ?_
    refine o_icmpY X7 hx hby D0_140 (flt (by decide : ¬ ((2 : Int32) < (0 : Int32)))).2.2.2 (q := 155) (by decide) (by decide) ?_
    refine o_iconst X7 hx hby D0_155 (v := 0) rfl ?_
    refine o_istore X7 hx hby D0_156 (l' := #[.val (.int p0), .val (.int p1), .val (.int p2), .val (.int p3), .val (.int (0 : Int32)), .val (.int c0), .val (.int c1), .val (.int c2), .val (.ref b4), .val (.ref b5), .val (.int (0 : Int32))]) rfl ?_
    refine o_aload X7 hx hby D0_158 rfl rfl ?_
    have c9_O := (((O0.ext E4).ext E5).keep K7 (allS gn_b5 all0))
    obtain ⟨_, _, ⟨T8, L8, k8, n8⟩, -, X8, ⟨Lc8, hQ8, l8, y8, z8⟩, st8⟩ := Jvm.LawKit.callS X7 hx (y := (⟨"com/example/arrearwise/arrearwise/MailText", "isOneLine", "(Ljava/lang/String;)Z"⟩ : MethodName)) hown (mvT hZ (own_wd hw (i := 26) rfl)) (mvT hZ (own_wd hw (i := 27) rfl)) (mvT hZ (own_wd hw (i := 28) rfl)) (mvT hZ (own_wd hw (i := 29) rfl)) (by decide) (backOf (W := 0) (rm_one0 l Z a0 hw [] b5 vb kb  cs vf T7.heap n0 (own_leN (by omega)) hST0 c9_O Str7 ) hZ (own_wd hw (i := 29) rfl) (own_wd hw (i := 28) rfl) (by decide) (by decide)) (g := (mkF m 160 #[.val (.int p0), .val (.int p1), .val (.int p2), .val (.int p3), .val (.int (0 : Int32)), .val (.int c0), .val (.int c1), .val (.int c2), .val (.ref b4), .val (.ref b5), .val (.int (0 : Int32))] [(.ref b5)])) rfl (by rw [hml]; rfl) (argsL := [(.ref b5)]) (rest := []) (lenOf pd__40Ljava_47lang_47String_59_41Z rfl) rfl (by show 2 * 0 + _ ≤ _; exact Nat.le_of_eq rfl) (hb hby D0_160.1) (fun _ _ => ⟨rfl, rfl, (by decide : 4 + 0 ≤ _), (by decide : 8 + 0 ≤ _)⟩)
    dsimp only [Pt.U, Pt.locs, Pt.cells, Pt.slots] at X8 l8 y8 z8 st8 hQ8
    subst l8 y8 z8
    obtain ⟨rfl, N8q, e8⟩ := hQ8
    have N8 := Fr.app N7 N8q
    refine own_pre (A' := T8.setTop (mkF m 163 #[.val (.int p0), .val (.int p1), .val (.int p2), .val (.int p3), .val (.int (0 : Int32)), .val (.int c0), .val (.int c1), .val (.int c2), .val (.ref b4), .val (.ref b5), .val (.int (0 : Int32))] [(.int (own_one0 ))])) st8 ?_
    refine o_iload X8 hx hby D0_163 rfl ?_
    refine o_ifN X8 hx hby D0_165 ((if0 _ _).trans (teq (by decide : (0 : Int32) = (0 : Int32))).2) ?_
    refine o_iconst X8 hx hby D0_168 (v := 1) rfl ?_
    refine o_goto X8 hx hby D0_169 (q := 173) (by decide) (by decide) ?_
    refine o_icmpN X8 hx hby D0_173 (teq (by rw [own_fin0] : (own_one0 ) = (1 : Int32))).2 ?_
    refine o_iconst X8 hx hby D0_176 (v := 1) rfl ?_
    refine o_goto X8 hx hby D0_177 (q := 181) (by decide) (by decide) ?_
    exact own_retWS (v := some (.int (1 : Int32))) X8 hS7 (by rw [e8]; exact Nat.le_refl _) (fun h => by first | rfl | (rw [Bd.returns] at h; cases h)) (BodyLoose.notSynchronized Bd) (by decide) (by decide) (⟨rfl, N8⟩) (fun fs hr => retN X8 hx (t := .boolean) Bd.returns (by simp) (hb hby D0_181.1) hr)
  · skip
    refine o_iload X3 hx hby D0_23 rfl ?_
    refine o_ifY X3 hx hby D0_25 ((if0 _ _).trans (feq (by decide : ¬ ((1 : Int32) = (0 : Int32)))).2) (q := 36) (by decide) (by decide) ?_
    refine o_iload X3 hx hby D0_36 rfl ?_
    refine o_iconst X3 hx hby D0_38 (v := 1) rfl ?_
    refine o_icmpN X3 hx hby D0_39 (teq (by decide : (1 : Int32) = (1 : Int32))).2 ?_
    refine o_iconst X3 hx hby D0_42 (v := 1) rfl ?_
    obtain ⟨T10, h10, k10, X10, e10, E10, A10, Ex10, st10⟩ := newPE X3 hx hZ (own_wd hw (i := 4) rfl) e3 (g := (mkF m 43 #[.val (.int p0), .val (.int p1), .val (.int p2), .val (.int p3), .val (.int (1 : Int32)), .val (.int c0), .val (.int c1), .val (.int c2), .unset, .unset, .unset] [(.int (1 : Int32))])) rfl (hb hby D0_43.1) rfl (by decide) (cap := 1) (by decide) (by decide) (by decide) (by decide) (ad := "[C") (by first | rfl | decide)
    obtain ⟨b10, g10⟩ : ∃ z : Nat, z = h0.size := ⟨_, rfl⟩
    rw [← g10] at A10 Ex10 st10
    have sz10 := own_leN E10.1
    have gn_b10 : n0 ≤ b10 := by omega
    have V_b10 : Arv Z h10 b10 k10 .char (1 : Int32) [(.int (0 : Int32))] (.int (0 : Int32)) := (Arv.new A10 (by decide)).pad (pad_rep [] (.int (0 : Int32)) 1)
    have lt_b10 := own_ltN V_b10.lt
    refine own_pre (A' := T10.setTop (mkF m 45 #[.val (.int p0), .val (.int p1), .val (.int p2), .val (.int p3), .val (.int (1 : Int32)), .val (.int c0), .val (.int c1), .val (.int c2), .unset, .unset, .unset] [(.ref b10)])) st10 ?_
    refine o_dup X10 hx hby D0_45 rfl ?_
    refine o_iconst X10 hx hby D0_46 (v := 0) rfl ?_
    refine o_iload X10 hx hby D0_47 rfl ?_
    obtain ⟨cl_b10_11, Ar_b10_11, q_b10_11, S_b10_11, N_b10_11, H_b10_11, G_b10_11⟩ := id V_b10
    have hin_b10_11 : ¬ ((0 : Int32) < 0 ∨ cl_b10_11.slots.size ≤ ((0 : Int32)).toNatClampNeg) := inb_of S_b10_11 ⟨by decide, by decide⟩
    obtain ⟨T11, h11, X11, e11, W11, st11⟩ := stC X10 hx hZ e10 Ar_b10_11 (j := (0 : Int32)) hin_b10_11 (g := (mkF m 49 #[.val (.int p0), .val (.int p1), .val (.int p2), .val (.int p3), .val (.int (1 : Int32)), .val (.int c0), .val (.int c1), .val (.int c2), .unset, .unset, .unset] [(.int c0), (.int (0 : Int32)), (.ref b10), (.ref b10)])) rfl rfl (hb hby D0_49.1)
    have V_b10_11 : Arv Z h11 b10 k10 .char (1 : Int32) [(.int (nar .char c0))] (.int (0 : Int32)) := Arv.set Ar_b10_11 q_b10_11 S_b10_11 N_b10_11 H_b10_11 G_b10_11 (fits_nar_char _) W11 0 rfl (Nat.le_of_ble_eq_true rfl)
    have sz11 := own_leN (Keep.of_wr W11).1
    have N11 := Fr.snoc X11 N3 gn_b10
    refine own_pre (A' := T11.setTop (mkF m 50 #[.val (.int p0), .val (.int p1), .val (.int p2), .val (.int p3), .val (.int (1 : Int32)), .val (.int c0), .val (.int c1), .val (.int c2), .unset, .unset, .unset] [(.ref b10)])) st11 ?_
    refine o_astore X11 hx hby D0_50 rfl (l' := #[.val (.int p0), .val (.int p1), .val (.int p2), .val (.int p3), .val (.int (1 : Int32)), .val (.int c0), .val (.int c1), .val (.int c2), .val (.ref b10), .unset, .unset]) rfl ?_
    refine o_goto X11 hx hby D0_52 (q := 99) (by decide) (by decide) ?_
    obtain ⟨T12, h12, X12, e12, E12, A12, D12, -, st12⟩ := newO X11 hx hZ hown (own_wd hw (i := 5) rfl) (own_wd hw (i := 6) rfl) (own_wd hw (i := 7) rfl) e11 (g := (mkF m 99 #[.val (.int p0), .val (.int p1), .val (.int p2), .val (.int p3), .val (.int (1 : Int32)), .val (.int c0), .val (.int c1), .val (.int c2), .val (.ref b10), .unset, .unset] [])) rfl (hb hby D0_99.1) (by decide) (by decide)
    obtain ⟨b12, g12⟩ : ∃ z : Nat, z = h11.size := ⟨_, rfl⟩
    rw [← g12] at A12 D12 st12
    have sz12 := own_leN E12.1
    have gn_b12 : n0 ≤ b12 := by omega
    have lt_b12 := own_ltN A12.lt
    have F_value_b12 : Fld Z h12 b12 "java/lang/String" "value" "[B" .null := D12 (Or.inr (own_wd hw (i := 20) rfl)) (ty := (.array .byte)) (by decide)
    have F_coder_b12 : Fld Z h12 b12 "java/lang/String" "coder" "B" (.int (0 : Int32)) := D12 (Or.inr (own_wd hw (i := 21) rfl)) (ty := .byte) (by decide)
    refine own_pre (A' := T12.setTop (mkF m 102 #[.val (.int p0), .val (.int p1), .val (.int p2), .val (.int p3), .val (.int (1 : Int32)), .val (.int c0), .val (.int c1), .val (.int c2), .val (.ref b10), .unset, .unset] [(.ref b12)])) st12 ?_
    refine o_dup X12 hx hby D0_102 rfl ?_
    refine o_aload X12 hx hby D0_103 rfl rfl ?_
    have c14_V_b10 := (V_b10_11.ext E12)
    have Vq13 : Arv Z h12 b10 k10 .char (1 : Int32) [(.int c0)] (.int (0 : Int32)) := by have q := c14_V_b10; simp only [own_nc hc0] at q; exact q
    have c15_O := (((O0.ext E10).wr W11 gn_b10).ext E12)
    obtain ⟨_, _, ⟨T13, L13, k13, n13⟩, -, X13, ⟨Lc13, hQ13, l13, y13, z13⟩, st13⟩ := X12.specialBack hx (y := (⟨"java/lang/String", "<init>", "([C)V"⟩ : MethodName)) rfl hown (mvT hZ (own_wd hw (i := 8) rfl)) (mvT hZ (own_wd hw (i := 9) rfl)) (mvT hZ (own_wd hw (i := 10) rfl)) (by decide) (backOf (W := 1) (rs_i11 l Z a0 hw [] b12 b10 k10 c0 _ _ cs vf h12 n0 (own_leN (by omega)) hST0 c15_O Vq13 hc0 gn_b12 A12 F_value_b12 F_coder_b12) hZ (own_wd hw (i := 10) rfl) (own_wd hw (i := 7) rfl) (by decide) (by decide)) (g := (mkF m 105 #[.val (.int p0), .val (.int p1), .val (.int p2), .val (.int p3), .val (.int (1 : Int32)), .val (.int c0), .val (.int c1), .val (.int c2), .val (.ref b10), .unset, .unset] [(.ref b10), (.ref b12), (.ref b12)])) rfl (by rw [hml]; rfl) (Steps.refl _) (a := b12) (argsL := [(.ref b10)]) (rest := [(.ref b12)]) (lenOf pd__40_91C_41V rfl) rfl (by show 2 * 0 + _ ≤ _; exact Nat.le_of_eq rfl) (hb hby D0_105.1) (fun _ _ => ⟨rfl, e12, (by decide : 2 + 2 ≤ _), (by decide : 5 + 3 ≤ _)⟩)
    dsimp only [Pt.U, Pt.locs, Pt.cells, Pt.slots] at X13 l13 y13 z13 st13 hQ13
    subst l13 y13 z13
    obtain ⟨vb, kb, rfl, N13q, K13, ge13, Str13⟩ := hQ13
    have sz13 := own_leN K13.1
    have N13 := Fr.app N11 N13q
    refine own_pre (A' := T13.setTop (mkF m 108 #[.val (.int p0), .val (.int p1), .val (.int p2), .val (.int p3), .val (.int (1 : Int32)), .val (.int c0), .val (.int c1), .val (.int c2), .val (.ref b10), .unset, .unset] [(.ref b12)])) (fun t k => st13.trans k) ?_
    refine o_astore X13 hx hby D0_108 rfl (l' := #[.val (.int p0), .val (.int p1), .val (.int p2), .val (.int p3), .val (.int (1 : Int32)), .val (.int c0), .val (.int c1), .val (.int c2), .val (.ref b10), .val (.ref b12), .unset]) rfl ?_
    refine o_iload X13 hx hby D0_110 rfl ?_
    refine o_ifN X13 hx hby D0_112 ((if0 _ _).trans (tlt (by decide : (0 : Int32) < (1 : Int32))).2.2.2) ?_
    refine o_iload X13 hx hby D0_115 rfl ?_
    obtain ⟨_, _, ⟨T16, L16, k16, n16⟩, -, X16, ⟨Lc16, hQ16, l16, y16, z16⟩, st16⟩ := Jvm.LawKit.callS X13 hx (y := (⟨"com/example/arrearwise/arrearwise/MailTextIsOneLinePinLaw", "brk", "(C)Z"⟩ : MethodName)) hown (mvT hZ (own_wd hw (i := 80) rfl)) (mvT hZ (own_wd hw (i := 81) rfl)) (mvT hZ (own_wd hw (i := 2) rfl)) (mvT hZ (own_wd hw (i := 82) rfl)) (by decide) (backOf (W := 0) (rm_brk l Z a0 hw [] c0  T13.heap n0 (by omega) ) hZ (own_wd hw (i := 82) rfl) (own_wd hw (i := 2) rfl) (by decide) (by decide)) (g := (mkF m 117 #[.val (.int p0), .val (.int p1), .val (.int p2), .val (.int p3), .val (.int (1 : Int32)), .val (.int c0), .val (.int c1), .val (.int c2), .val (.ref b10), .val (.ref b12), .unset] [(.int c0)])) rfl (by rw [hml]; rfl) (argsL := [(.int c0)]) (rest := []) (lenOf pd__40C_41Z rfl) rfl (by show 2 * 0 + _ ≤ _; exact Nat.le_of_eq rfl) (hb hby D0_117.1) (fun _ _ => ⟨rfl, rfl, (by decide : 4 + 0 ≤ _), (by decide : 8 + 0 ≤ _)⟩)
    dsimp only [Pt.U, Pt.locs, Pt.cells, Pt.slots] at X16 l16 y16 z16 st16 hQ16
    subst l16 y16 z16
    obtain ⟨rfl, N16q, e16⟩ := hQ16
    have N16 := Fr.app N13 N16q
    refine own_pre (A' := T16.setTop (mkF m 120 #[.val (.int p0), .val (.int p1), .val (.int p2), .val (.int p3), .val (.int (1 : Int32)), .val (.int c0), .val (.int c1), .val (.int c2), .val (.ref b10), .val (.ref b12), .unset] [(.int (own_brk c0))])) st16 ?_
    by_cases hc120_17 : (own_brk c0) = (0 : Int32)
    · skip
      refine o_ifN X16 hx hby D0_120 ((if0 _ _).trans (teq hc120_17).2) ?_
      refine o_iload X16 hx hby D0_123 rfl ?_
      refine o_iconst X16 hx hby D0_125 (v := 1) rfl ?_
      refine o_icmpY X16 hx hby D0_126 (flt (by decide : ¬ ((1 : Int32) < (1 : Int32)))).2.2.2 (q := 137) (by decide) (by decide) ?_
      refine o_iload X16 hx hby D0_137 rfl ?_
      refine o_iconst X16 hx hby D0_139 (v := 2) rfl ?_
      refine o_icmpY X16 hx hby D0_140 (flt (by decide : ¬ ((2 : Int32) < (1 : Int32)))).2.2.2 (q := 155) (by decide) (by decide) ?_
      refine o_iconst X16 hx hby D0_155 (v := 0) rfl ?_
      refine o_istore X16 hx hby D0_156 (l' := #[.val (.int p0), .val (.int p1), .val (.int p2), .val (.int p3), .val (.int (1 : Int32)), .val (.int c0), .val (.int c1), .val (.int c2), .val (.ref b10), .val (.ref b12), .val (.int (0 : Int32))]) rfl ?_
      refine o_aload X16 hx hby D0_158 rfl rfl ?_
      have c19_O := (c15_O.keep K13 (allS gn_b12 all0))
      obtain ⟨_, _, ⟨T18, L18, k18, n18⟩, -, X18, ⟨Lc18, hQ18, l18, y18, z18⟩, st18⟩ := Jvm.LawKit.callS X16 hx (y := (⟨"com/example/arrearwise/arrearwise/MailText", "isOneLine", "(Ljava/lang/String;)Z"⟩ : MethodName)) hown (mvT hZ (own_wd hw (i := 26) rfl)) (mvT hZ (own_wd hw (i := 27) rfl)) (mvT hZ (own_wd hw (i := 28) rfl)) (mvT hZ (own_wd hw (i := 29) rfl)) (by decide) (backOf (W := 0) (rm_one1 l Z a0 hw [] b12 vb kb c0 cs vf T13.heap n0 (own_leN (by omega)) hST0 c19_O Str13 hc0) hZ (own_wd hw (i := 29) rfl) (own_wd hw (i := 28) rfl) (by decide) (by decide)) (g := (mkF m 160 #[.val (.int p0), .val (.int p1), .val (.int p2), .val (.int p3), .val (.int (1 : Int32)), .val (.int c0), .val (.int c1), .val (.int c2), .val (.ref b10), .val (.ref b12), .val (.int (0 : Int32))] [(.ref b12)])) rfl (by rw [hml]; rfl) (argsL := [(.ref b12)]) (rest := []) (lenOf pd__40Ljava_47lang_47String_59_41Z rfl) rfl (by show 2 * 0 + _ ≤ _; exact Nat.le_of_eq rfl) (hb hby D0_160.1) (fun _ _ => ⟨rfl, e16, (by decide : 4 + 0 ≤ _), (by decide : 8 + 0 ≤ _)⟩)
      dsimp only [Pt.U, Pt.locs, Pt.cells, Pt.slots] at X18 l18 y18 z18 st18 hQ18
      subst l18 y18 z18
      obtain ⟨rfl, N18q, e18⟩ := hQ18
      have N18 := Fr.app N16 N18q
      refine own_pre (A' := T18.setTop (mkF m 163 #[.val (.int p0), .val (.int p1), .val (.int p2), .val (.int p3), .val (.int (1 : Int32)), .val (.int c0), .val (.int c1), .val (.int c2), .val (.ref b10), .val (.ref b12), .val (.int (0 : Int32))] [(.int (own_one1 c0))])) st18 ?_
      refine o_iload X18 hx hby D0_163 rfl ?_
      refine o_ifN X18 hx hby D0_165 ((if0 _ _).trans (teq (by decide : (0 : Int32) = (0 : Int32))).2) ?_
      refine o_iconst X18 hx hby D0_168 (v := 1) rfl ?_
      refine o_goto X18 hx hby D0_169 (q := 173) (by decide) (by decide) ?_
      refine o_icmpN X18 hx hby D0_173 (teq (by rw [own_fin1, if_pos hc120_17] : (own_one1 c0) = (1 : Int32))).2 ?_
      refine o_iconst X18 hx hby D0_176 (v := 1) rfl ?_
      refine o_goto X18 hx hby D0_177 (q := 181) (by decide) (by decide) ?_
      exact own_retW (v := some (.int (1 : Int32))) X18 (fun h => by first | rfl | (rw [Bd.returns] at h; cases h)) (BodyLoose.notSynchronized Bd) (by decide) (by decide) (⟨rfl, N18⟩) (fun fs hr => retN X18 hx (t := .boolean) Bd.returns (by simp) (hb hby D0_181.1) hr)
    · skip
      refine o_ifY X16 hx hby D0_120 ((if0 _ _).trans (feq hc120_17).2) (q := 151) (by decide) (by decide) ?_
      refine o_iconst X16 hx hby D0_151 (v := 1) rfl ?_
      refine o_goto X16 hx hby D0_152 (q := 156) (by decide) (by decide) ?_
      refine o_istore X16 hx hby D0_156 (l' := #[.val (.int p0), .val (.int p1), .val (.int p2), .val (.int p3), .val (.int (1 : Int32)), .val (.int c0), .val (.int c1), .val (.int c2), .val (.ref b10), .val (.ref b12), .val (.int (1 : Int32))]) rfl ?_
      refine o_aload X16 hx hby D0_158 rfl rfl ?_
      have c21_O := (c15_O.keep K13 (allS gn_b12 all0))
      obtain ⟨_, _, ⟨T20, L20, k20, n20⟩, -, X20, ⟨Lc20, hQ20, l20, y20, z20⟩, st20⟩ := Jvm.LawKit.callS X16 hx (y := (⟨"com/example/arrearwise/arrearwise/MailText", "isOneLine", "(Ljava/lang/String;)Z"⟩ : MethodName)) hown (mvT hZ (own_wd hw (i := 26) rfl)) (mvT hZ (own_wd hw (i := 27) rfl)) (mvT hZ (own_wd hw (i := 28) rfl)) (mvT hZ (own_wd hw (i := 29) rfl)) (by decide) (backOf (W := 0) (rm_one1 l Z a0 hw [] b12 vb kb c0 cs vf T13.heap n0 (own_leN (by omega)) hST0 c21_O Str13 hc0) hZ (own_wd hw (i := 29) rfl) (own_wd hw (i := 28) rfl) (by decide) (by decide)) (g := (mkF m 160 #[.val (.int p0), .val (.int p1), .val (.int p2), .val (.int p3), .val (.int (1 : Int32)), .val (.int c0), .val (.int c1), .val (.int c2), .val (.ref b10), .val (.ref b12), .val (.int (1 : Int32))] [(.ref b12)])) rfl (by rw [hml]; rfl) (argsL := [(.ref b12)]) (rest := []) (lenOf pd__40Ljava_47lang_47String_59_41Z rfl) rfl (by show 2 * 0 + _ ≤ _; exact Nat.le_of_eq rfl) (hb hby D0_160.1) (fun _ _ => ⟨rfl, e16, (by decide : 4 + 0 ≤ _), (by decide : 8 + 0 ≤ _)⟩)
      dsimp only [Pt.U, Pt.locs, Pt.cells, Pt.slots] at X20 l20 y20 z20 st20 hQ20
      subst l20 y20 z20
      obtain ⟨rfl, N20q, e20⟩ := hQ20
      have N20 := Fr.app N16 N20q
      refine own_pre (A' := T20.setTop (mkF m 163 #[.val (.int p0), .val (.int p1), .val (.int p2), .val (.int p3), .val (.int (1 : Int32)), .val (.int c0), .val (.int c1), .val (.int c2), .val (.ref b10), .val (.ref b12), .val (.int (1 : Int32))] [(.int (own_one1 c0))])) st20 ?_
      refine o_iload X20 hx hby D0_163 rfl ?_
      refine o_ifY X20 hx hby D0_165 ((if0 _ _).trans (feq (by decide : ¬ ((1 : Int32) = (0 : Int32)))).2) (q := 172) (by decide) (by decide) ?_
      refine o_iconst X20 hx hby D0_172 (v := 0) rfl ?_
      refine o_icmpN X20 hx hby D0_173 (teq (by rw [own_fin1, if_neg hc120_17] : (own_one1 c0) = (0 : Int32))).2 ?_
      refine o_iconst X20 hx hby D0_176 (v := 1) rfl ?_
      refine o_goto X20 hx hby D0_177 (q := 181) (by decide) (by decide) ?_
      exact own_retW (v := some (.int (1 : Int32))) X20 (fun h => by first | rfl | (rw [Bd.returns] at h; cases h)) (BodyLoose.notSynchronized Bd) (by decide) (by decide) (⟨rfl, N20⟩) (fun fs hr => retN X20 hx (t := .boolean) Bd.returns (by simp) (hb hby D0_181.1) hr)
  · skip
    refine o_iload X3 hx hby D0_23 rfl ?_
    refine o_ifY X3 hx hby D0_25 ((if0 _ _).trans (feq (by decide : ¬ ((2 : Int32) = (0 : Int32)))).2) (q := 36) (by decide) (by decide) ?_
    refine o_iload X3 hx hby D0_36 rfl ?_
    refine o_iconst X3 hx hby D0_38 (v := 1) rfl ?_
    refine o_icmpY X3 hx hby D0_39 (feq (by decide : ¬ ((2 : Int32) = (1 : Int32)))).2 (q := 55) (by decide) (by decide) ?_
    refine o_iload X3 hx hby D0_55 rfl ?_
    refine o_iconst X3 hx hby D0_57 (v := 2) rfl ?_
    refine o_icmpN X3 hx hby D0_58 (teq (by decide : (2 : Int32) = (2 : Int32))).2 ?_
    refine o_iconst X3 hx hby D0_61 (v := 2) rfl ?_
    obtain ⟨T22, h22, k22, X22, e22, E22, A22, Ex22, st22⟩ := newPE X3 hx hZ (own_wd hw (i := 4) rfl) e3 (g := (mkF m 62 #[.val (.int p0), .val (.int p1), .val (.int p2), .val (.int p3), .val (.int (2 : Int32)), .val (.int c0), .val (.int c1), .val (.int c2), .unset, .unset, .unset] [(.int (2 : Int32))])) rfl (hb hby D0_62.1) rfl (by decide) (cap := 2) (by decide) (by decide) (by decide) (by decide) (ad := "[C") (by first | rfl | decide)
    obtain ⟨b22, g22⟩ : ∃ z : Nat, z = h0.size := ⟨_, rfl⟩
    rw [← g22] at A22 Ex22 st22
    have sz22 := own_leN E22.1
    have gn_b22 : n0 ≤ b22 := by omega
    have V_b22 : Arv Z h22 b22 k22 .char (2 : Int32) [(.int (0 : Int32)), (.int (0 : Int32))] (.int (0 : Int32)) := (Arv.new A22 (by decide)).pad (pad_rep [] (.int (0 : Int32)) 2)
    have lt_b22 := own_ltN V_b22.lt
    refine own_pre (A' := T22.setTop (mkF m 64 #[.val (.int p0), .val (.int p1), .val (.int p2), .val (.int p3), .val (.int (2 : Int32)), .val (.int c0), .val (.int c1), .val (.int c2), .unset, .unset, .unset] [(.ref b22)])) st22 ?_
    refine o_dup X22 hx hby D0_64 rfl ?_
    refine o_iconst X22 hx hby D0_65 (v := 0) rfl ?_
    refine o_iload X22 hx hby D0_66 rfl ?_
    obtain ⟨cl_b22_23, Ar_b22_23, q_b22_23, S_b22_23, N_b22_23, H_b22_23, G_b22_23⟩ := id V_b22
    have hin_b22_23 : ¬ ((0 : Int32) < 0 ∨ cl_b22_23.slots.size ≤ ((0 : Int32)).toNatClampNeg) := inb_of S_b22_23 ⟨by decide, by decide⟩
    obtain ⟨T23, h23, X23, e23, W23, st23⟩ := stC X22 hx hZ e22 Ar_b22_23 (j := (0 : Int32)) hin_b22_23 (g := (mkF m 68 #[.val (.int p0), .val (.int p1), .val (.int p2), .val (.int p3), .val (.int (2 : Int32)), .val (.int c0), .val (.int c1), .val (.int c2), .unset, .unset, .unset] [(.int c0), (.int (0 : Int32)), (.ref b22), (.ref b22)])) rfl rfl (hb hby D0_68.1)
    have V_b22_23 : Arv Z h23 b22 k22 .char (2 : Int32) [(.int (nar .char c0)), (.int (0 : Int32))] (.int (0 : Int32)) := Arv.set Ar_b22_23 q_b22_23 S_b22_23 N_b22_23 H_b22_23 G_b22_23 (fits_nar_char _) W23 0 rfl (Nat.le_of_ble_eq_true rfl)
    have sz23 := own_leN (Keep.of_wr W23).1
    have N23 := Fr.snoc X23 N3 gn_b22
    refine own_pre (A' := T23.setTop (mkF m 69 #[.val (.int p0), .val (.int p1), .val (.int p2), .val (.int p3), .val (.int (2 : Int32)), .val (.int c0), .val (.int c1), .val (.int c2), .unset, .unset, .unset] [(.ref b22)])) st23 ?_
    refine o_dup X23 hx hby D0_69 rfl ?_
    refine o_iconst X23 hx hby D0_70 (v := 1) rfl ?_
    refine o_iload X23 hx hby D0_71 rfl ?_
    obtain ⟨cl_b22_24, Ar_b22_24, q_b22_24, S_b22_24, N_b22_24, H_b22_24, G_b22_24⟩ := id V_b22_23
    have hin_b22_24 : ¬ ((1 : Int32) < 0 ∨ cl_b22_24.slots.size ≤ ((1 : Int32)).toNatClampNeg) := inb_of S_b22_24 ⟨by decide, by decide⟩
    obtain ⟨T24, h24, X24, e24, W24, st24⟩ := stC X23 hx hZ e23 Ar_b22_24 (j := (1 : Int32)) hin_b22_24 (g := (mkF m 73 #[.val (.int p0), .val (.int p1), .val (.int p2), .val (.int p3), .val (.int (2 : Int32)), .val (.int c0), .val (.int c1), .val (.int c2), .unset, .unset, .unset] [(.int c1), (.int (1 : Int32)), (.ref b22), (.ref b22)])) rfl rfl (hb hby D0_73.1)
    have V_b22_24 : Arv Z h24 b22 k22 .char (2 : Int32) [(.int (nar .char c0)), (.int (nar .char c1))] (.int (0 : Int32)) := Arv.set Ar_b22_24 q_b22_24 S_b22_24 N_b22_24 H_b22_24 G_b22_24 (fits_nar_char _) W24 1 rfl (Nat.le_of_ble_eq_true rfl)
    have sz24 := own_leN (Keep.of_wr W24).1
    have N24 := Fr.snoc X24 N23 gn_b22
    refine own_pre (A' := T24.setTop (mkF m 74 #[.val (.int p0), .val (.int p1), .val (.int p2), .val (.int p3), .val (.int (2 : Int32)), .val (.int c0), .val (.int c1), .val (.int c2), .unset, .unset, .unset] [(.ref b22)])) st24 ?_
    refine o_astore X24 hx hby D0_74 rfl (l' := #[.val (.int p0), .val (.int p1), .val (.int p2), .val (.int p3), .val (.int (2 : Int32)), .val (.int c0), .val (.int c1), .val (.int c2), .val (.ref b22), .unset, .unset]) rfl ?_
    refine o_goto X24 hx hby D0_76 (q := 99) (by decide) (by decide) ?_
    obtain ⟨T25, h25, X25, e25, E25, A25, D25, -, st25⟩ := newO X24 hx hZ hown (own_wd hw (i := 5) rfl) (own_wd hw (i := 6) rfl) (own_wd hw (i := 7) rfl) e24 (g := (mkF m 99 #[.val (.int p0), .val (.int p1), .val (.int p2), .val (.int p3), .val (.int (2 : Int32)), .val (.int c0), .val (.int c1), .val (.int c2), .val (.ref b22), .unset, .unset] [])) rfl (hb hby D0_99.1) (by decide) (by decide)
    obtain ⟨b25, g25⟩ : ∃ z : Nat, z = h24.size := ⟨_, rfl⟩
    rw [← g25] at A25 D25 st25
    have sz25 := own_leN E25.1
    have gn_b25 : n0 ≤ b25 := by omega
    have lt_b25 := own_ltN A25.lt
    have F_value_b25 : Fld Z h25 b25 "java/lang/String" "value" "[B" .null := D25 (Or.inr (own_wd hw (i := 20) rfl)) (ty := (.array .byte)) (by decide)
    have F_coder_b25 : Fld Z h25 b25 "java/lang/String" "coder" "B" (.int (0 : Int32)) := D25 (Or.inr (own_wd hw (i := 21) rfl)) (ty := .byte) (by decide)
    refine own_pre (A' := T25.setTop (mkF m 102 #[.val (.int p0), .val (.int p1), .val (.int p2), .val (.int p3), .val (.int (2 : Int32)), .val (.int c0), .val (.int c1), .val (.int c2), .val (.ref b22), .unset, .unset] [(.ref b25)])) st25 ?_
    refine o_dup X25 hx hby D0_102 rfl ?_
    refine o_aload X25 hx hby D0_103 rfl rfl ?_
    have c27_V_b22 := (V_b22_24.ext E25)
    have Vq26 : Arv Z h25 b22 k22 .char (2 : Int32) [(.int c0), (.int c1)] (.int (0 : Int32)) := by have q := c27_V_b22; simp only [own_nc hc0, own_nc hc1] at q; exact q
    have c28_O := ((((O0.ext E22).wr W23 gn_b22).wr W24 gn_b22).ext E25)
    obtain ⟨_, _, ⟨T26, L26, k26, n26⟩, -, X26, ⟨Lc26, hQ26, l26, y26, z26⟩, st26⟩ := X25.specialBack hx (y := (⟨"java/lang/String", "<init>", "([C)V"⟩ : MethodName)) rfl hown (mvT hZ (own_wd hw (i := 8) rfl)) (mvT hZ (own_wd hw (i := 9) rfl)) (mvT hZ (own_wd hw (i := 10) rfl)) (by decide) (backOf (W := 1) (rs_i12 l Z a0 hw [] b25 b22 k22 c0 c1 _ _ cs vf h25 n0 (own_leN (by omega)) hST0 c28_O Vq26 hc0 hc1 gn_b25 A25 F_value_b25 F_coder_b25) hZ (own_wd hw (i := 10) rfl) (own_wd hw (i := 7) rfl) (by decide) (by decide)) (g := (mkF m 105 #[.val (.int p0), .val (.int p1), .val (.int p2), .val (.int p3), .val (.int (2 : Int32)), .val (.int c0), .val (.int c1), .val (.int c2), .val (.ref b22), .unset, .unset] [(.ref b22), (.ref b25), (.ref b25)])) rfl (by rw [hml]; rfl) (Steps.refl _) (a := b25) (argsL := [(.ref b22)]) (rest := [(.ref b25)]) (lenOf pd__40_91C_41V rfl) rfl (by show 2 * 0 + _ ≤ _; exact Nat.le_of_eq rfl) (hb hby D0_105.1) (fun _ _ => ⟨rfl, e25, (by decide : 2 + 2 ≤ _), (by decide : 6 + 6 ≤ _)⟩)
    dsimp only [Pt.U, Pt.locs, Pt.cells, Pt.slots] at X26 l26 y26 z26 st26 hQ26
    subst l26 y26 z26
    obtain ⟨vb, kb, rfl, N26q, K26, ge26, Str26⟩ := hQ26
    have sz26 := own_leN K26.1
    have N26 := Fr.app N24 N26q
    refine own_pre (A' := T26.setTop (mkF m 108 #[.val (.int p0), .val (.int p1), .val (.int p2), .val (.int p3), .val (.int (2 : Int32)), .val (.int c0), .val (.int c1), .val (.int c2), .val (.ref b22), .unset, .unset] [(.ref b25)])) (fun t k => st26.trans k) ?_
    refine o_astore X26 hx hby D0_108 rfl (l' := #[.val (.int p0), .val (.int p1), .val (.int p2), .val (.int p3), .val (.int (2 : Int32)), .val (.int c0), .val (.int c1), .val (.int c2), .val (.ref b22), .val (.ref b25), .unset]) rfl ?_
    refine o_iload X26 hx hby D0_110 rfl ?_
    refine o_ifN X26 hx hby D0_112 ((if0 _ _).trans (tlt (by decide : (0 : Int32) < (2 : Int32))).2.2.2) ?_
    refine o_iload X26 hx hby D0_115 rfl ?_
    obtain ⟨_, _, ⟨T29, L29, k29, n29⟩, -, X29, ⟨Lc29, hQ29, l29, y29, z29⟩, st29⟩ := Jvm.LawKit.callS X26 hx (y := (⟨"com/example/arrearwise/arrearwise/MailTextIsOneLinePinLaw", "brk", "(C)Z"⟩ : MethodName)) hown (mvT hZ (own_wd hw (i := 80) rfl)) (mvT hZ (own_wd hw (i := 81) rfl)) (mvT hZ (own_wd hw (i := 2) rfl)) (mvT hZ (own_wd hw (i := 82) rfl)) (by decide) (backOf (W := 0) (rm_brk l Z a0 hw [] c0  T26.heap n0 (by omega) ) hZ (own_wd hw (i := 82) rfl) (own_wd hw (i := 2) rfl) (by decide) (by decide)) (g := (mkF m 117 #[.val (.int p0), .val (.int p1), .val (.int p2), .val (.int p3), .val (.int (2 : Int32)), .val (.int c0), .val (.int c1), .val (.int c2), .val (.ref b22), .val (.ref b25), .unset] [(.int c0)])) rfl (by rw [hml]; rfl) (argsL := [(.int c0)]) (rest := []) (lenOf pd__40C_41Z rfl) rfl (by show 2 * 0 + _ ≤ _; exact Nat.le_of_eq rfl) (hb hby D0_117.1) (fun _ _ => ⟨rfl, rfl, (by decide : 4 + 0 ≤ _), (by decide : 12 + 0 ≤ _)⟩)
    dsimp only [Pt.U, Pt.locs, Pt.cells, Pt.slots] at X29 l29 y29 z29 st29 hQ29
    subst l29 y29 z29
    obtain ⟨rfl, N29q, e29⟩ := hQ29
    have N29 := Fr.app N26 N29q
    refine own_pre (A' := T29.setTop (mkF m 120 #[.val (.int p0), .val (.int p1), .val (.int p2), .val (.int p3), .val (.int (2 : Int32)), .val (.int c0), .val (.int c1), .val (.int c2), .val (.ref b22), .val (.ref b25), .unset] [(.int (own_brk c0))])) st29 ?_
    by_cases hc120_30 : (own_brk c0) = (0 : Int32)
    · skip
      refine o_ifN X29 hx hby D0_120 ((if0 _ _).trans (teq hc120_30).2) ?_
      refine o_iload X29 hx hby D0_123 rfl ?_
      refine o_iconst X29 hx hby D0_125 (v := 1) rfl ?_
      refine o_icmpN X29 hx hby D0_126 (tlt (by decide : (1 : Int32) < (2 : Int32))).2.2.2 ?_
      refine o_iload X29 hx hby D0_129 rfl ?_
      obtain ⟨_, _, ⟨T31, L31, k31, n31⟩, -, X31, ⟨Lc31, hQ31, l31, y31, z31⟩, st31⟩ := Jvm.LawKit.callS X29 hx (y := (⟨"com/example/arrearwise/arrearwise/MailTextIsOneLinePinLaw", "brk", "(C)Z"⟩ : MethodName)) hown (mvT hZ (own_wd hw (i := 80) rfl)) (mvT hZ (own_wd hw (i := 81) rfl)) (mvT hZ (own_wd hw (i := 2) rfl)) (mvT hZ (own_wd hw (i := 82) rfl)) (by decide) (backOf (W := 0) (rm_brk l Z a0 hw [] c1  T26.heap n0 (by omega) ) hZ (own_wd hw (i := 82) rfl) (own_wd hw (i := 2) rfl) (by decide) (by decide)) (g := (mkF m 131 #[.val (.int p0), .val (.int p1), .val (.int p2), .val (.int p3), .val (.int (2 : Int32)), .val (.int c0), .val (.int c1), .val (.int c2), .val (.ref b22), .val (.ref b25), .unset] [(.int c1)])) rfl (by rw [hml]; rfl) (argsL := [(.int c1)]) (rest := []) (lenOf pd__40C_41Z rfl) rfl (by show 2 * 0 + _ ≤ _; exact Nat.le_of_eq rfl) (hb hby D0_131.1) (fun _ _ => ⟨rfl, e29, (by decide : 4 + 0 ≤ _), (by decide : 12 + 0 ≤ _)⟩)
      dsimp only [Pt.U, Pt.locs, Pt.cells, Pt.slots] at X31 l31 y31 z31 st31 hQ31
      subst l31 y31 z31
      obtain ⟨rfl, N31q, e31⟩ := hQ31
      have N31 := Fr.app N29 N31q
      refine own_pre (A' := T31.setTop (mkF m 134 #[.val (.int p0), .val (.int p1), .val (.int p2), .val (.int p3), .val (.int (2 : Int32)), .val (.int c0), .val (.int c1), .val (.int c2), .val (.ref b22), .val (.ref b25), .unset] [(.int (own_brk c1))])) st31 ?_
      by_cases hc134_32 : (own_brk c1) = (0 : Int32)
      · skip
        refine o_ifN X31 hx hby D0_134 ((if0 _ _).trans (teq hc134_32).2) ?_
        refine o_iload X31 hx hby D0_137 rfl ?_
        refine o_iconst X31 hx hby D0_139 (v := 2) rfl ?_
        refine o_icmpY X31 hx hby D0_140 (flt (by decide : ¬ ((2 : Int32) < (2 : Int32)))).2.2.2 (q := 155) (by decide) (by decide) ?_
        refine o_iconst X31 hx hby D0_155 (v := 0) rfl ?_
        refine o_istore X31 hx hby D0_156 (l' := #[.val (.int p0), .val (.int p1), .val (.int p2), .val (.int p3), .val (.int (2 : Int32)), .val (.int c0), .val (.int c1), .val (.int c2), .val (.ref b22), .val (.ref b25), .val (.int (0 : Int32))]) rfl ?_
        refine o_aload X31 hx hby D0_158 rfl rfl ?_
        have c34_O := (c28_O.keep K26 (allS gn_b25 all0))
        obtain ⟨_, _, ⟨T33, L33, k33, n33⟩, -, X33, ⟨Lc33, hQ33, l33, y33, z33⟩, st33⟩ := Jvm.LawKit.callS X31 hx (y := (⟨"com/example/arrearwise/arrearwise/MailText", "isOneLine", "(Ljava/lang/String;)Z"⟩ : MethodName)) hown (mvT hZ (own_wd hw (i := 26) rfl)) (mvT hZ (own_wd hw (i := 27) rfl)) (mvT hZ (own_wd hw (i := 28) rfl)) (mvT hZ (own_wd hw (i := 29) rfl)) (by decide) (backOf (W := 0) (rm_one2 l Z a0 hw [] b25 vb kb c0 c1 cs vf T26.heap n0 (own_leN (by omega)) hST0 c34_O Str26 hc0 hc1) hZ (own_wd hw (i := 29) rfl) (own_wd hw (i := 28) rfl) (by decide) (by decide)) (g := (mkF m 160 #[.val (.int p0), .val (.int p1), .val (.int p2), .val (.int p3), .val (.int (2 : Int32)), .val (.int c0), .val (.int c1), .val (.int c2), .val (.ref b22), .val (.ref b25), .val (.int (0 : Int32))] [(.ref b25)])) rfl (by rw [hml]; rfl) (argsL := [(.ref b25)]) (rest := []) (lenOf pd__40Ljava_47lang_47String_59_41Z rfl) rfl (by show 2 * 0 + _ ≤ _; exact Nat.le_of_eq rfl) (hb hby D0_160.1) (fun _ _ => ⟨rfl, e31, (by decide : 4 + 0 ≤ _), (by decide : 12 + 0 ≤ _)⟩)
        dsimp only [Pt.U, Pt.locs, Pt.cells, Pt.slots] at X33 l33 y33 z33 st33 hQ33
        subst l33 y33 z33
        obtain ⟨rfl, N33q, e33⟩ := hQ33
        have N33 := Fr.app N31 N33q
        refine own_pre (A' := T33.setTop (mkF m 163 #[.val (.int p0), .val (.int p1), .val (.int p2), .val (.int p3), .val (.int (2 : Int32)), .val (.int c0), .val (.int c1), .val (.int c2), .val (.ref b22), .val (.ref b25), .val (.int (0 : Int32))] [(.int (own_one2 c0 c1))])) st33 ?_
        refine o_iload X33 hx hby D0_163 rfl ?_
        refine o_ifN X33 hx hby D0_165 ((if0 _ _).trans (teq (by decide : (0 : Int32) = (0 : Int32))).2) ?_
        refine o_iconst X33 hx hby D0_168 (v := 1) rfl ?_
        refine o_goto X33 hx hby D0_169 (q := 173) (by decide) (by decide) ?_
        refine o_icmpN X33 hx hby D0_173 (teq (by rw [own_fin2, if_pos hc120_30, if_pos hc134_32] : (own_one2 c0 c1) = (1 : Int32))).2 ?_
        refine o_iconst X33 hx hby D0_176 (v := 1) rfl ?_
        refine o_goto X33 hx hby D0_177 (q := 181) (by decide) (by decide) ?_
        exact own_retW (v := some (.int (1 : Int32))) X33 (fun h => by first | rfl | (rw [Bd.returns] at h; cases h)) (BodyLoose.notSynchronized Bd) (by decide) (by decide) (⟨rfl, N33⟩) (fun fs hr => retN X33 hx (t := .boolean) Bd.returns (by simp) (hb hby D0_181.1) hr)
      · skip
        refine o_ifY X31 hx hby D0_134 ((if0 _ _).trans (feq hc134_32).2) (q := 151) (by decide) (by decide) ?_
        refine o_iconst X31 hx hby D0_151 (v := 1) rfl ?_
        refine o_goto X31 hx hby D0_152 (q := 156) (by decide) (by decide) ?_
        refine o_istore X31 hx hby D0_156 (l' := #[.val (.int p0), .val (.int p1), .val (.int p2), .val (.int p3), .val (.int (2 : Int32)), .val (.int c0), .val (.int c1), .val (.int c2), .val (.ref b22), .val (.ref b25), .val (.int (1 : Int32))]) rfl ?_
        refine o_aload X31 hx hby D0_158 rfl rfl ?_
        have c36_O := (c28_O.keep K26 (allS gn_b25 all0))
        obtain ⟨_, _, ⟨T35, L35, k35, n35⟩, -, X35, ⟨Lc35, hQ35, l35, y35, z35⟩, st35⟩ := Jvm.LawKit.callS X31 hx (y := (⟨"com/example/arrearwise/arrearwise/MailText", "isOneLine", "(Ljava/lang/String;)Z"⟩ : MethodName)) hown (mvT hZ (own_wd hw (i := 26) rfl)) (mvT hZ (own_wd hw (i := 27) rfl)) (mvT hZ (own_wd hw (i := 28) rfl)) (mvT hZ (own_wd hw (i := 29) rfl)) (by decide) (backOf (W := 0) (rm_one2 l Z a0 hw [] b25 vb kb c0 c1 cs vf T26.heap n0 (own_leN (by omega)) hST0 c36_O Str26 hc0 hc1) hZ (own_wd hw (i := 29) rfl) (own_wd hw (i := 28) rfl) (by decide) (by decide)) (g := (mkF m 160 #[.val (.int p0), .val (.int p1), .val (.int p2), .val (.int p3), .val (.int (2 : Int32)), .val (.int c0), .val (.int c1), .val (.int c2), .val (.ref b22), .val (.ref b25), .val (.int (1 : Int32))] [(.ref b25)])) rfl (by rw [hml]; rfl) (argsL := [(.ref b25)]) (rest := []) (lenOf pd__40Ljava_47lang_47String_59_41Z rfl) rfl (by show 2 * 0 + _ ≤ _; exact Nat.le_of_eq rfl) (hb hby D0_160.1) (fun _ _ => ⟨rfl, e31, (by decide : 4 + 0 ≤ _), (by decide : 12 + 0 ≤ _)⟩)
        dsimp only [Pt.U, Pt.locs, Pt.cells, Pt.slots] at X35 l35 y35 z35 st35 hQ35
        subst l35 y35 z35
        obtain ⟨rfl, N35q, e35⟩ := hQ35
        have N35 := Fr.app N31 N35q
        refine own_pre (A' := T35.setTop (mkF m 163 #[.val (.int p0), .val (.int p1), .val (.int p2), .val (.int p3), .val (.int (2 : Int32)), .val (.int c0), .val (.int c1), .val (.int c2), .val (.ref b22), .val (.ref b25), .val (.int (1 : Int32))] [(.int (own_one2 c0 c1))])) st35 ?_
        refine o_iload X35 hx hby D0_163 rfl ?_
        refine o_ifY X35 hx hby D0_165 ((if0 _ _).trans (feq (by decide : ¬ ((1 : Int32) = (0 : Int32)))).2) (q := 172) (by decide) (by decide) ?_
        refine o_iconst X35 hx hby D0_172 (v := 0) rfl ?_
        refine o_icmpN X35 hx hby D0_173 (teq (by rw [own_fin2, if_pos hc120_30, if_neg hc134_32] : (own_one2 c0 c1) = (0 : Int32))).2 ?_
        refine o_iconst X35 hx hby D0_176 (v := 1) rfl ?_
        refine o_goto X35 hx hby D0_177 (q := 181) (by decide) (by decide) ?_
        exact own_retW (v := some (.int (1 : Int32))) X35 (fun h => by first | rfl | (rw [Bd.returns] at h; cases h)) (BodyLoose.notSynchronized Bd) (by decide) (by decide) (⟨rfl, N35⟩) (fun fs hr => retN X35 hx (t := .boolean) Bd.returns (by simp) (hb hby D0_181.1) hr)
    · skip
      refine o_ifY X29 hx hby D0_120 ((if0 _ _).trans (feq hc120_30).2) (q := 151) (by decide) (by decide) ?_
      refine o_iconst X29 hx hby D0_151 (v := 1) rfl ?_
      refine o_goto X29 hx hby D0_152 (q := 156) (by decide) (by decide) ?_
      refine o_istore X29 hx hby D0_156 (l' := #[.val (.int p0), .val (.int p1), .val (.int p2), .val (.int p3), .val (.int (2 : Int32)), .val (.int c0), .val (.int c1), .val (.int c2), .val (.ref b22), .val (.ref b25), .val (.int (1 : Int32))]) rfl ?_
      refine o_aload X29 hx hby D0_158 rfl rfl ?_
      have c38_O := (c28_O.keep K26 (allS gn_b25 all0))
      obtain ⟨_, _, ⟨T37, L37, k37, n37⟩, -, X37, ⟨Lc37, hQ37, l37, y37, z37⟩, st37⟩ := Jvm.LawKit.callS X29 hx (y := (⟨"com/example/arrearwise/arrearwise/MailText", "isOneLine", "(Ljava/lang/String;)Z"⟩ : MethodName)) hown (mvT hZ (own_wd hw (i := 26) rfl)) (mvT hZ (own_wd hw (i := 27) rfl)) (mvT hZ (own_wd hw (i := 28) rfl)) (mvT hZ (own_wd hw (i := 29) rfl)) (by decide) (backOf (W := 0) (rm_one2 l Z a0 hw [] b25 vb kb c0 c1 cs vf T26.heap n0 (own_leN (by omega)) hST0 c38_O Str26 hc0 hc1) hZ (own_wd hw (i := 29) rfl) (own_wd hw (i := 28) rfl) (by decide) (by decide)) (g := (mkF m 160 #[.val (.int p0), .val (.int p1), .val (.int p2), .val (.int p3), .val (.int (2 : Int32)), .val (.int c0), .val (.int c1), .val (.int c2), .val (.ref b22), .val (.ref b25), .val (.int (1 : Int32))] [(.ref b25)])) rfl (by rw [hml]; rfl) (argsL := [(.ref b25)]) (rest := []) (lenOf pd__40Ljava_47lang_47String_59_41Z rfl) rfl (by show 2 * 0 + _ ≤ _; exact Nat.le_of_eq rfl) (hb hby D0_160.1) (fun _ _ => ⟨rfl, e29, (by decide : 4 + 0 ≤ _), (by decide : 12 + 0 ≤ _)⟩)
      dsimp only [Pt.U, Pt.locs, Pt.cells, Pt.slots] at X37 l37 y37 z37 st37 hQ37
      subst l37 y37 z37
      obtain ⟨rfl, N37q, e37⟩ := hQ37
      have N37 := Fr.app N29 N37q
      refine own_pre (A' := T37.setTop (mkF m 163 #[.val (.int p0), .val (.int p1), .val (.int p2), .val (.int p3), .val (.int (2 : Int32)), .val (.int c0), .val (.int c1), .val (.int c2), .val (.ref b22), .val (.ref b25), .val (.int (1 : Int32))] [(.int (own_one2 c0 c1))])) st37 ?_
      refine o_iload X37 hx hby D0_163 rfl ?_
      refine o_ifY X37 hx hby D0_165 ((if0 _ _).trans (feq (by decide : ¬ ((1 : Int32) = (0 : Int32)))).2) (q := 172) (by decide) (by decide) ?_
      refine o_iconst X37 hx hby D0_172 (v := 0) rfl ?_
      refine o_icmpN X37 hx hby D0_173 (teq (by rw [own_fin2, if_neg hc120_30] : (own_one2 c0 c1) = (0 : Int32))).2 ?_
      refine o_iconst X37 hx hby D0_176 (v := 1) rfl ?_
      refine o_goto X37 hx hby D0_177 (q := 181) (by decide) (by decide) ?_
      exact own_retW (v := some (.int (1 : Int32))) X37 (fun h => by first | rfl | (rw [Bd.returns] at h; cases h)) (BodyLoose.notSynchronized Bd) (by decide) (by decide) (⟨rfl, N37⟩) (fun fs hr => retN X37 hx (t := .boolean) Bd.returns (by simp) (hb hby D0_181.1) hr)
  · skip
    refine o_iload X3 hx hby D0_23 rfl ?_
    refine o_ifY X3 hx hby D0_25 ((if0 _ _).trans (feq (by decide : ¬ ((3 : Int32) = (0 : Int32)))).2) (q := 36) (by decide) (by decide) ?_
    refine o_iload X3 hx hby D0_36 rfl ?_
    refine o_iconst X3 hx hby D0_38 (v := 1) rfl ?_
    refine o_icmpY X3 hx hby D0_39 (feq (by decide : ¬ ((3 : Int32) = (1 : Int32)))).2 (q := 55) (by decide) (by decide) ?_
    refine o_iload X3 hx hby D0_55 rfl ?_
    refine o_iconst X3 hx hby D0_57 (v := 2) rfl ?_
    refine o_icmpY X3 hx hby D0_58 (feq (by decide : ¬ ((3 : Int32) = (2 : Int32)))).2 (q := 79) (by decide) (by decide) ?_
    refine o_iconst X3 hx hby D0_79 (v := 3) rfl ?_
    obtain ⟨T39, h39, k39, X39, e39, E39, A39, Ex39, st39⟩ := newPE X3 hx hZ (own_wd hw (i := 4) rfl) e3 (g := (mkF m 80 #[.val (.int p0), .val (.int p1), .val (.int p2), .val (.int p3), .val (.int (3 : Int32)), .val (.int c0), .val (.int c1), .val (.int c2), .unset, .unset, .unset] [(.int (3 : Int32))])) rfl (hb hby D0_80.1) rfl (by decide) (cap := 3) (by decide) (by decide) (by decide) (by decide) (ad := "[C") (by first | rfl | decide)
    obtain ⟨b39, g39⟩ : ∃ z : Nat, z = h0.size := ⟨_, rfl⟩
    rw [← g39] at A39 Ex39 st39
    have sz39 := own_leN E39.1
    have gn_b39 : n0 ≤ b39 := by omega
    have V_b39 : Arv Z h39 b39 k39 .char (3 : Int32) [(.int (0 : Int32)), (.int (0 : Int32)), (.int (0 : Int32))] (.int (0 : Int32)) := (Arv.new A39 (by decide)).pad (pad_rep [] (.int (0 : Int32)) 3)
    have lt_b39 := own_ltN V_b39.lt
    refine own_pre (A' := T39.setTop (mkF m 82 #[.val (.int p0), .val (.int p1), .val (.int p2), .val (.int p3), .val (.int (3 : Int32)), .val (.int c0), .val (.int c1), .val (.int c2), .unset, .unset, .unset] [(.ref b39)])) st39 ?_
    refine o_dup X39 hx hby D0_82 rfl ?_
    refine o_iconst X39 hx hby D0_83 (v := 0) rfl ?_
    refine o_iload X39 hx hby D0_84 rfl ?_
    obtain ⟨cl_b39_40, Ar_b39_40, q_b39_40, S_b39_40, N_b39_40, H_b39_40, G_b39_40⟩ := id V_b39
    have hin_b39_40 : ¬ ((0 : Int32) < 0 ∨ cl_b39_40.slots.size ≤ ((0 : Int32)).toNatClampNeg) := inb_of S_b39_40 ⟨by decide, by decide⟩
    obtain ⟨T40, h40, X40, e40, W40, st40⟩ := stC X39 hx hZ e39 Ar_b39_40 (j := (0 : Int32)) hin_b39_40 (g := (mkF m 86 #[.val (.int p0), .val (.int p1), .val (.int p2), .val (.int p3), .val (.int (3 : Int32)), .val (.int c0), .val (.int c1), .val (.int c2), .unset, .unset, .unset] [(.int c0), (.int (0 : Int32)), (.ref b39), (.ref b39)])) rfl rfl (hb hby D0_86.1)
    have V_b39_40 : Arv Z h40 b39 k39 .char (3 : Int32) [(.int (nar .char c0)), (.int (0 : Int32)), (.int (0 : Int32))] (.int (0 : Int32)) := Arv.set Ar_b39_40 q_b39_40 S_b39_40 N_b39_40 H_b39_40 G_b39_40 (fits_nar_char _) W40 0 rfl (Nat.le_of_ble_eq_true rfl)
    have sz40 := own_leN (Keep.of_wr W40).1
    have N40 := Fr.snoc X40 N3 gn_b39
    refine own_pre (A' := T40.setTop (mkF m 87 #[.val (.int p0), .val (.int p1), .val (.int p2), .val (.int p3), .val (.int (3 : Int32)), .val (.int c0), .val (.int c1), .val (.int c2), .unset, .unset, .unset] [(.ref b39)])) st40 ?_
    refine o_dup X40 hx hby D0_87 rfl ?_
    refine o_iconst X40 hx hby D0_88 (v := 1) rfl ?_
    refine o_iload X40 hx hby D0_89 rfl ?_
    obtain ⟨cl_b39_41, Ar_b39_41, q_b39_41, S_b39_41, N_b39_41, H_b39_41, G_b39_41⟩ := id V_b39_40
    have hin_b39_41 : ¬ ((1 : Int32) < 0 ∨ cl_b39_41.slots.size ≤ ((1 : Int32)).toNatClampNeg) := inb_of S_b39_41 ⟨by decide, by decide⟩
    obtain ⟨T41, h41, X41, e41, W41, st41⟩ := stC X40 hx hZ e40 Ar_b39_41 (j := (1 : Int32)) hin_b39_41 (g := (mkF m 91 #[.val (.int p0), .val (.int p1), .val (.int p2), .val (.int p3), .val (.int (3 : Int32)), .val (.int c0), .val (.int c1), .val (.int c2), .unset, .unset, .unset] [(.int c1), (.int (1 : Int32)), (.ref b39), (.ref b39)])) rfl rfl (hb hby D0_91.1)
    have V_b39_41 : Arv Z h41 b39 k39 .char (3 : Int32) [(.int (nar .char c0)), (.int (nar .char c1)), (.int (0 : Int32))] (.int (0 : Int32)) := Arv.set Ar_b39_41 q_b39_41 S_b39_41 N_b39_41 H_b39_41 G_b39_41 (fits_nar_char _) W41 1 rfl (Nat.le_of_ble_eq_true rfl)
    have sz41 := own_leN (Keep.of_wr W41).1
    have N41 := Fr.snoc X41 N40 gn_b39
    refine own_pre (A' := T41.setTop (mkF m 92 #[.val (.int p0), .val (.int p1), .val (.int p2), .val (.int p3), .val (.int (3 : Int32)), .val (.int c0), .val (.int c1), .val (.int c2), .unset, .unset, .unset] [(.ref b39)])) st41 ?_
    refine o_dup X41 hx hby D0_92 rfl ?_
    refine o_iconst X41 hx hby D0_93 (v := 2) rfl ?_
    refine o_iload X41 hx hby D0_94 rfl ?_
    obtain ⟨cl_b39_42, Ar_b39_42, q_b39_42, S_b39_42, N_b39_42, H_b39_42, G_b39_42⟩ := id V_b39_41
    have hin_b39_42 : ¬ ((2 : Int32) < 0 ∨ cl_b39_42.slots.size ≤ ((2 : Int32)).toNatClampNeg) := inb_of S_b39_42 ⟨by decide, by decide⟩
    obtain ⟨T42, h42, X42, e42, W42, st42⟩ := stC X41 hx hZ e41 Ar_b39_42 (j := (2 : Int32)) hin_b39_42 (g := (mkF m 96 #[.val (.int p0), .val (.int p1), .val (.int p2), .val (.int p3), .val (.int (3 : Int32)), .val (.int c0), .val (.int c1), .val (.int c2), .unset, .unset, .unset] [(.int c2), (.int (2 : Int32)), (.ref b39), (.ref b39)])) rfl rfl (hb hby D0_96.1)
    have V_b39_42 : Arv Z h42 b39 k39 .char (3 : Int32) [(.int (nar .char c0)), (.int (nar .char c1)), (.int (nar .char c2))] (.int (0 : Int32)) := Arv.set Ar_b39_42 q_b39_42 S_b39_42 N_b39_42 H_b39_42 G_b39_42 (fits_nar_char _) W42 2 rfl (Nat.le_of_ble_eq_true rfl)
    have sz42 := own_leN (Keep.of_wr W42).1
    have N42 := Fr.snoc X42 N41 gn_b39
    refine own_pre (A' := T42.setTop (mkF m 97 #[.val (.int p0), .val (.int p1), .val (.int p2), .val (.int p3), .val (.int (3 : Int32)), .val (.int c0), .val (.int c1), .val (.int c2), .unset, .unset, .unset] [(.ref b39)])) st42 ?_
    refine o_astore X42 hx hby D0_97 rfl (l' := #[.val (.int p0), .val (.int p1), .val (.int p2), .val (.int p3), .val (.int (3 : Int32)), .val (.int c0), .val (.int c1), .val (.int c2), .val (.ref b39), .unset, .unset]) rfl ?_
    obtain ⟨T43, h43, X43, e43, E43, A43, D43, -, st43⟩ := newO X42 hx hZ hown (own_wd hw (i := 5) rfl) (own_wd hw (i := 6) rfl) (own_wd hw (i := 7) rfl) e42 (g := (mkF m 99 #[.val (.int p0), .val (.int p1), .val (.int p2), .val (.int p3), .val (.int (3 : Int32)), .val (.int c0), .val (.int c1), .val (.int c2), .val (.ref b39), .unset, .unset] [])) rfl (hb hby D0_99.1) (by decide) (by decide)
    obtain ⟨b43, g43⟩ : ∃ z : Nat, z = h42.size := ⟨_, rfl⟩
    rw [← g43] at A43 D43 st43
    have sz43 := own_leN E43.1
    have gn_b43 : n0 ≤ b43 := by omega
    have lt_b43 := own_ltN A43.lt
    have F_value_b43 : Fld Z h43 b43 "java/lang/String" "value" "[B" .null := D43 (Or.inr (own_wd hw (i := 20) rfl)) (ty := (.array .byte)) (by decide)
    have F_coder_b43 : Fld Z h43 b43 "java/lang/String" "coder" "B" (.int (0 : Int32)) := D43 (Or.inr (own_wd hw (i := 21) rfl)) (ty := .byte) (by decide)
    refine own_pre (A' := T43.setTop (mkF m 102 #[.val (.int p0), .val (.int p1), .val (.int p2), .val (.int p3), .val (.int (3 : Int32)), .val (.int c0), .val (.int c1), .val (.int c2), .val (.ref b39), .unset, .unset] [(.ref b43)])) st43 ?_
    refine o_dup X43 hx hby D0_102 rfl ?_
    refine o_aload X43 hx hby D0_103 rfl rfl ?_
    have c45_V_b39 := (V_b39_42.ext E43)
    have Vq44 : Arv Z h43 b39 k39 .char (3 : Int32) [(.int c0), (.int c1), (.int c2)] (.int (0 : Int32)) := by have q := c45_V_b39; simp only [own_nc hc0, own_nc hc1, own_nc hc2] at q; exact q
    have c46_O := (((((O0.ext E39).wr W40 gn_b39).wr W41 gn_b39).wr W42 gn_b39).ext E43)
    obtain ⟨_, _, ⟨T44, L44, k44, n44⟩, -, X44, ⟨Lc44, hQ44, l44, y44, z44⟩, st44⟩ := X43.specialBack hx (y := (⟨"java/lang/String", "<init>", "([C)V"⟩ : MethodName)) rfl hown (mvT hZ (own_wd hw (i := 8) rfl)) (mvT hZ (own_wd hw (i := 9) rfl)) (mvT hZ (own_wd hw (i := 10) rfl)) (by decide) (backOf (W := 1) (rs_i13 l Z a0 hw [] b43 b39 k39 c0 c1 c2 _ _ cs vf h43 n0 (own_leN (by omega)) hST0 c46_O Vq44 hc0 hc1 hc2 gn_b43 A43 F_value_b43 F_coder_b43) hZ (own_wd hw (i := 10) rfl) (own_wd hw (i := 7) rfl) (by decide) (by decide)) (g := (mkF m 105 #[.val (.int p0), .val (.int p1), .val (.int p2), .val (.int p3), .val (.int (3 : Int32)), .val (.int c0), .val (.int c1), .val (.int c2), .val (.ref b39), .unset, .unset] [(.ref b39), (.ref b43), (.ref b43)])) rfl (by rw [hml]; rfl) (Steps.refl _) (a := b43) (argsL := [(.ref b39)]) (rest := [(.ref b43)]) (lenOf pd__40_91C_41V rfl) rfl (by show 2 * 0 + _ ≤ _; exact Nat.le_of_eq rfl) (hb hby D0_105.1) (fun _ _ => ⟨rfl, e43, (by decide : 2 + 2 ≤ _), (by decide : 7 + 9 ≤ _)⟩)
    dsimp only [Pt.U, Pt.locs, Pt.cells, Pt.slots] at X44 l44 y44 z44 st44 hQ44
    subst l44 y44 z44
    obtain ⟨vb, kb, rfl, N44q, K44, ge44, Str44⟩ := hQ44
    have sz44 := own_leN K44.1
    have N44 := Fr.app N42 N44q
    refine own_pre (A' := T44.setTop (mkF m 108 #[.val (.int p0), .val (.int p1), .val (.int p2), .val (.int p3), .val (.int (3 : Int32)), .val (.int c0), .val (.int c1), .val (.int c2), .val (.ref b39), .unset, .unset] [(.ref b43)])) (fun t k => st44.trans k) ?_
    refine o_astore X44 hx hby D0_108 rfl (l' := #[.val (.int p0), .val (.int p1), .val (.int p2), .val (.int p3), .val (.int (3 : Int32)), .val (.int c0), .val (.int c1), .val (.int c2), .val (.ref b39), .val (.ref b43), .unset]) rfl ?_
    refine o_iload X44 hx hby D0_110 rfl ?_
    refine o_ifN X44 hx hby D0_112 ((if0 _ _).trans (tlt (by decide : (0 : Int32) < (3 : Int32))).2.2.2) ?_
    refine o_iload X44 hx hby D0_115 rfl ?_
    obtain ⟨_, _, ⟨T47, L47, k47, n47⟩, -, X47, ⟨Lc47, hQ47, l47, y47, z47⟩, st47⟩ := Jvm.LawKit.callS X44 hx (y := (⟨"com/example/arrearwise/arrearwise/MailTextIsOneLinePinLaw", "brk", "(C)Z"⟩ : MethodName)) hown (mvT hZ (own_wd hw (i := 80) rfl)) (mvT hZ (own_wd hw (i := 81) rfl)) (mvT hZ (own_wd hw (i := 2) rfl)) (mvT hZ (own_wd hw (i := 82) rfl)) (by decide) (backOf (W := 0) (rm_brk l Z a0 hw [] c0  T44.heap n0 (by omega) ) hZ (own_wd hw (i := 82) rfl) (own_wd hw (i := 2) rfl) (by decide) (by decide)) (g := (mkF m 117 #[.val (.int p0), .val (.int p1), .val (.int p2), .val (.int p3), .val (.int (3 : Int32)), .val (.int c0), .val (.int c1), .val (.int c2), .val (.ref b39), .val (.ref b43), .unset] [(.int c0)])) rfl (by rw [hml]; rfl) (argsL := [(.int c0)]) (rest := []) (lenOf pd__40C_41Z rfl) rfl (by show 2 * 0 + _ ≤ _; exact Nat.le_of_eq rfl) (hb hby D0_117.1) (fun _ _ => ⟨rfl, rfl, (by decide : 4 + 0 ≤ _), (by decide : 16 + 0 ≤ _)⟩)
    dsimp only [Pt.U, Pt.locs, Pt.cells, Pt.slots] at X47 l47 y47 z47 st47 hQ47
    subst l47 y47 z47
    obtain ⟨rfl, N47q, e47⟩ := hQ47
    have N47 := Fr.app N44 N47q
    refine own_pre (A' := T47.setTop (mkF m 120 #[.val (.int p0), .val (.int p1), .val (.int p2), .val (.int p3), .val (.int (3 : Int32)), .val (.int c0), .val (.int c1), .val (.int c2), .val (.ref b39), .val (.ref b43), .unset] [(.int (own_brk c0))])) st47 ?_
    by_cases hc120_48 : (own_brk c0) = (0 : Int32)
    · skip
      refine o_ifN X47 hx hby D0_120 ((if0 _ _).trans (teq hc120_48).2) ?_
      refine o_iload X47 hx hby D0_123 rfl ?_
      refine o_iconst X47 hx hby D0_125 (v := 1) rfl ?_
      refine o_icmpN X47 hx hby D0_126 (tlt (by decide : (1 : Int32) < (3 : Int32))).2.2.2 ?_
      refine o_iload X47 hx hby D0_129 rfl ?_
      obtain ⟨_, _, ⟨T49, L49, k49, n49⟩, -, X49, ⟨Lc49, hQ49, l49, y49, z49⟩, st49⟩ := Jvm.LawKit.callS X47 hx (y := (⟨"com/example/arrearwise/arrearwise/MailTextIsOneLinePinLaw", "brk", "(C)Z"⟩ : MethodName)) hown (mvT hZ (own_wd hw (i := 80) rfl)) (mvT hZ (own_wd hw (i := 81) rfl)) (mvT hZ (own_wd hw (i := 2) rfl)) (mvT hZ (own_wd hw (i := 82) rfl)) (by decide) (backOf (W := 0) (rm_brk l Z a0 hw [] c1  T44.heap n0 (by omega) ) hZ (own_wd hw (i := 82) rfl) (own_wd hw (i := 2) rfl) (by decide) (by decide)) (g := (mkF m 131 #[.val (.int p0), .val (.int p1), .val (.int p2), .val (.int p3), .val (.int (3 : Int32)), .val (.int c0), .val (.int c1), .val (.int c2), .val (.ref b39), .val (.ref b43), .unset] [(.int c1)])) rfl (by rw [hml]; rfl) (argsL := [(.int c1)]) (rest := []) (lenOf pd__40C_41Z rfl) rfl (by show 2 * 0 + _ ≤ _; exact Nat.le_of_eq rfl) (hb hby D0_131.1) (fun _ _ => ⟨rfl, e47, (by decide : 4 + 0 ≤ _), (by decide : 16 + 0 ≤ _)⟩)
      dsimp only [Pt.U, Pt.locs, Pt.cells, Pt.slots] at X49 l49 y49 z49 st49 hQ49
      subst l49 y49 z49
      obtain ⟨rfl, N49q, e49⟩ := hQ49
      have N49 := Fr.app N47 N49q
      refine own_pre (A' := T49.setTop (mkF m 134 #[.val (.int p0), .val (.int p1), .val (.int p2), .val (.int p3), .val (.int (3 : Int32)), .val (.int c0), .val (.int c1), .val (.int c2), .val (.ref b39), .val (.ref b43), .unset] [(.int (own_brk c1))])) st49 ?_
      by_cases hc134_50 : (own_brk c1) = (0 : Int32)
      · skip
        refine o_ifN X49 hx hby D0_134 ((if0 _ _).trans (teq hc134_50).2) ?_
        refine o_iload X49 hx hby D0_137 rfl ?_
        refine o_iconst X49 hx hby D0_139 (v := 2) rfl ?_
        refine o_icmpN X49 hx hby D0_140 (tlt (by decide : (2 : Int32) < (3 : Int32))).2.2.2 ?_
        refine o_iload X49 hx hby D0_143 rfl ?_
        obtain ⟨_, _, ⟨T51, L51, k51, n51⟩, -, X51, ⟨Lc51, hQ51, l51, y51, z51⟩, st51⟩ := Jvm.LawKit.callS X49 hx (y := (⟨"com/example/arrearwise/arrearwise/MailTextIsOneLinePinLaw", "brk", "(C)Z"⟩ : MethodName)) hown (mvT hZ (own_wd hw (i := 80) rfl)) (mvT hZ (own_wd hw (i := 81) rfl)) (mvT hZ (own_wd hw (i := 2) rfl)) (mvT hZ (own_wd hw (i := 82) rfl)) (by decide) (backOf (W := 0) (rm_brk l Z a0 hw [] c2  T44.heap n0 (by omega) ) hZ (own_wd hw (i := 82) rfl) (own_wd hw (i := 2) rfl) (by decide) (by decide)) (g := (mkF m 145 #[.val (.int p0), .val (.int p1), .val (.int p2), .val (.int p3), .val (.int (3 : Int32)), .val (.int c0), .val (.int c1), .val (.int c2), .val (.ref b39), .val (.ref b43), .unset] [(.int c2)])) rfl (by rw [hml]; rfl) (argsL := [(.int c2)]) (rest := []) (lenOf pd__40C_41Z rfl) rfl (by show 2 * 0 + _ ≤ _; exact Nat.le_of_eq rfl) (hb hby D0_145.1) (fun _ _ => ⟨rfl, e49, (by decide : 4 + 0 ≤ _), (by decide : 16 + 0 ≤ _)⟩)
        dsimp only [Pt.U, Pt.locs, Pt.cells, Pt.slots] at X51 l51 y51 z51 st51 hQ51
        subst l51 y51 z51
        obtain ⟨rfl, N51q, e51⟩ := hQ51
        have N51 := Fr.app N49 N51q
        refine own_pre (A' := T51.setTop (mkF m 148 #[.val (.int p0), .val (.int p1), .val (.int p2), .val (.int p3), .val (.int (3 : Int32)), .val (.int c0), .val (.int c1), .val (.int c2), .val (.ref b39), .val (.ref b43), .unset] [(.int (own_brk c2))])) st51 ?_
        by_cases hc148_52 : (own_brk c2) = (0 : Int32)
        · skip
          refine o_ifY X51 hx hby D0_148 ((if0 _ _).trans (teq hc148_52).1) (q := 155) (by decide) (by decide) ?_
          refine o_iconst X51 hx hby D0_155 (v := 0) rfl ?_
          refine o_istore X51 hx hby D0_156 (l' := #[.val (.int p0), .val (.int p1), .val (.int p2), .val (.int p3), .val (.int (3 : Int32)), .val (.int c0), .val (.int c1), .val (.int c2), .val (.ref b39), .val (.ref b43), .val (.int (0 : Int32))]) rfl ?_
          refine o_aload X51 hx hby D0_158 rfl rfl ?_
          have c54_O := (c46_O.keep K44 (allS gn_b43 all0))
          obtain ⟨_, _, ⟨T53, L53, k53, n53⟩, -, X53, ⟨Lc53, hQ53, l53, y53, z53⟩, st53⟩ := Jvm.LawKit.callS X51 hx (y := (⟨"com/example/arrearwise/arrearwise/MailText", "isOneLine", "(Ljava/lang/String;)Z"⟩ : MethodName)) hown (mvT hZ (own_wd hw (i := 26) rfl)) (mvT hZ (own_wd hw (i := 27) rfl)) (mvT hZ (own_wd hw (i := 28) rfl)) (mvT hZ (own_wd hw (i := 29) rfl)) (by decide) (backOf (W := 0) (rm_one3 l Z a0 hw [] b43 vb kb c0 c1 c2 cs vf T44.heap n0 (own_leN (by omega)) hST0 c54_O Str44 hc0 hc1 hc2) hZ (own_wd hw (i := 29) rfl) (own_wd hw (i := 28) rfl) (by decide) (by decide)) (g := (mkF m 160 #[.val (.int p0), .val (.int p1), .val (.int p2), .val (.int p3), .val (.int (3 : Int32)), .val (.int c0), .val (.int c1), .val (.int c2), .val (.ref b39), .val (.ref b43), .val (.int (0 : Int32))] [(.ref b43)])) rfl (by rw [hml]; rfl) (argsL := [(.ref b43)]) (rest := []) (lenOf pd__40Ljava_47lang_47String_59_41Z rfl) rfl (by show 2 * 0 + _ ≤ _; exact Nat.le_of_eq rfl) (hb hby D0_160.1) (fun _ _ => ⟨rfl, e51, (by decide : 4 + 0 ≤ _), (by decide : 16 + 0 ≤ _)⟩)
          dsimp only [Pt.U, Pt.locs, Pt.cells, Pt.slots] at X53 l53 y53 z53 st53 hQ53
          subst l53 y53 z53
          obtain ⟨rfl, N53q, e53⟩ := hQ53
          have N53 := Fr.app N51 N53q
          refine own_pre (A' := T53.setTop (mkF m 163 #[.val (.int p0), .val (.int p1), .val (.int p2), .val (.int p3), .val (.int (3 : Int32)), .val (.int c0), .val (.int c1), .val (.int c2), .val (.ref b39), .val (.ref b43), .val (.int (0 : Int32))] [(.int (own_one3 c0 c1 c2))])) st53 ?_
          refine o_iload X53 hx hby D0_163 rfl ?_
          refine o_ifN X53 hx hby D0_165 ((if0 _ _).trans (teq (by decide : (0 : Int32) = (0 : Int32))).2) ?_
          refine o_iconst X53 hx hby D0_168 (v := 1) rfl ?_
          refine o_goto X53 hx hby D0_169 (q := 173) (by decide) (by decide) ?_
          refine o_icmpN X53 hx hby D0_173 (teq (by rw [own_fin3, if_pos hc120_48, if_pos hc134_50, if_pos hc148_52] : (own_one3 c0 c1 c2) = (1 : Int32))).2 ?_
          refine o_iconst X53 hx hby D0_176 (v := 1) rfl ?_
          refine o_goto X53 hx hby D0_177 (q := 181) (by decide) (by decide) ?_
          exact own_retW (v := some (.int (1 : Int32))) X53 (fun h => by first | rfl | (rw [Bd.returns] at h; cases h)) (BodyLoose.notSynchronized Bd) (by decide) (by decide) (⟨rfl, N53⟩) (fun fs hr => retN X53 hx (t := .boolean) Bd.returns (by simp) (hb hby D0_181.1) hr)
        · skip
          refine o_ifN X51 hx hby D0_148 ((if0 _ _).trans (feq hc148_52).1) ?_
          refine o_iconst X51 hx hby D0_151 (v := 1) rfl ?_
          refine o_goto X51 hx hby D0_152 (q := 156) (by decide) (by decide) ?_
          refine o_istore X51 hx hby D0_156 (l' := #[.val (.int p0), .val (.int p1), .val (.int p2), .val (.int p3), .val (.int (3 : Int32)), .val (.int c0), .val (.int c1), .val (.int c2), .val (.ref b39), .val (.ref b43), .val (.int (1 : Int32))]) rfl ?_
          refine o_aload X51 hx hby D0_158 rfl rfl ?_
          have c56_O := (c46_O.keep K44 (allS gn_b43 all0))
          obtain ⟨_, _, ⟨T55, L55, k55, n55⟩, -, X55, ⟨Lc55, hQ55, l55, y55, z55⟩, st55⟩ := Jvm.LawKit.callS X51 hx (y := (⟨"com/example/arrearwise/arrearwise/MailText", "isOneLine", "(Ljava/lang/String;)Z"⟩ : MethodName)) hown (mvT hZ (own_wd hw (i := 26) rfl)) (mvT hZ (own_wd hw (i := 27) rfl)) (mvT hZ (own_wd hw (i := 28) rfl)) (mvT hZ (own_wd hw (i := 29) rfl)) (by decide) (backOf (W := 0) (rm_one3 l Z a0 hw [] b43 vb kb c0 c1 c2 cs vf T44.heap n0 (own_leN (by omega)) hST0 c56_O Str44 hc0 hc1 hc2) hZ (own_wd hw (i := 29) rfl) (own_wd hw (i := 28) rfl) (by decide) (by decide)) (g := (mkF m 160 #[.val (.int p0), .val (.int p1), .val (.int p2), .val (.int p3), .val (.int (3 : Int32)), .val (.int c0), .val (.int c1), .val (.int c2), .val (.ref b39), .val (.ref b43), .val (.int (1 : Int32))] [(.ref b43)])) rfl (by rw [hml]; rfl) (argsL := [(.ref b43)]) (rest := []) (lenOf pd__40Ljava_47lang_47String_59_41Z rfl) rfl (by show 2 * 0 + _ ≤ _; exact Nat.le_of_eq rfl) (hb hby D0_160.1) (fun _ _ => ⟨rfl, e51, (by decide : 4 + 0 ≤ _), (by decide : 16 + 0 ≤ _)⟩)
          dsimp only [Pt.U, Pt.locs, Pt.cells, Pt.slots] at X55 l55 y55 z55 st55 hQ55
          subst l55 y55 z55
          obtain ⟨rfl, N55q, e55⟩ := hQ55
          have N55 := Fr.app N51 N55q
          refine own_pre (A' := T55.setTop (mkF m 163 #[.val (.int p0), .val (.int p1), .val (.int p2), .val (.int p3), .val (.int (3 : Int32)), .val (.int c0), .val (.int c1), .val (.int c2), .val (.ref b39), .val (.ref b43), .val (.int (1 : Int32))] [(.int (own_one3 c0 c1 c2))])) st55 ?_
          refine o_iload X55 hx hby D0_163 rfl ?_
          refine o_ifY X55 hx hby D0_165 ((if0 _ _).trans (feq (by decide : ¬ ((1 : Int32) = (0 : Int32)))).2) (q := 172) (by decide) (by decide) ?_
          refine o_iconst X55 hx hby D0_172 (v := 0) rfl ?_
          refine o_icmpN X55 hx hby D0_173 (teq (by rw [own_fin3, if_pos hc120_48, if_pos hc134_50, if_neg hc148_52] : (own_one3 c0 c1 c2) = (0 : Int32))).2 ?_
          refine o_iconst X55 hx hby D0_176 (v := 1) rfl ?_
          refine o_goto X55 hx hby D0_177 (q := 181) (by decide) (by decide) ?_
          exact own_retW (v := some (.int (1 : Int32))) X55 (fun h => by first | rfl | (rw [Bd.returns] at h; cases h)) (BodyLoose.notSynchronized Bd) (by decide) (by decide) (⟨rfl, N55⟩) (fun fs hr => retN X55 hx (t := .boolean) Bd.returns (by simp) (hb hby D0_181.1) hr)
      · skip
        refine o_ifY X49 hx hby D0_134 ((if0 _ _).trans (feq hc134_50).2) (q := 151) (by decide) (by decide) ?_
        refine o_iconst X49 hx hby D0_151 (v := 1) rfl ?_
        refine o_goto X49 hx hby D0_152 (q := 156) (by decide) (by decide) ?_
        refine o_istore X49 hx hby D0_156 (l' := #[.val (.int p0), .val (.int p1), .val (.int p2), .val (.int p3), .val (.int (3 : Int32)), .val (.int c0), .val (.int c1), .val (.int c2), .val (.ref b39), .val (.ref b43), .val (.int (1 : Int32))]) rfl ?_
        refine o_aload X49 hx hby D0_158 rfl rfl ?_
        have c58_O := (c46_O.keep K44 (allS gn_b43 all0))
        obtain ⟨_, _, ⟨T57, L57, k57, n57⟩, -, X57, ⟨Lc57, hQ57, l57, y57, z57⟩, st57⟩ := Jvm.LawKit.callS X49 hx (y := (⟨"com/example/arrearwise/arrearwise/MailText", "isOneLine", "(Ljava/lang/String;)Z"⟩ : MethodName)) hown (mvT hZ (own_wd hw (i := 26) rfl)) (mvT hZ (own_wd hw (i := 27) rfl)) (mvT hZ (own_wd hw (i := 28) rfl)) (mvT hZ (own_wd hw (i := 29) rfl)) (by decide) (backOf (W := 0) (rm_one3 l Z a0 hw [] b43 vb kb c0 c1 c2 cs vf T44.heap n0 (own_leN (by omega)) hST0 c58_O Str44 hc0 hc1 hc2) hZ (own_wd hw (i := 29) rfl) (own_wd hw (i := 28) rfl) (by decide) (by decide)) (g := (mkF m 160 #[.val (.int p0), .val (.int p1), .val (.int p2), .val (.int p3), .val (.int (3 : Int32)), .val (.int c0), .val (.int c1), .val (.int c2), .val (.ref b39), .val (.ref b43), .val (.int (1 : Int32))] [(.ref b43)])) rfl (by rw [hml]; rfl) (argsL := [(.ref b43)]) (rest := []) (lenOf pd__40Ljava_47lang_47String_59_41Z rfl) rfl (by show 2 * 0 + _ ≤ _; exact Nat.le_of_eq rfl) (hb hby D0_160.1) (fun _ _ => ⟨rfl, e49, (by decide : 4 + 0 ≤ _), (by decide : 16 + 0 ≤ _)⟩)
        dsimp only [Pt.U, Pt.locs, Pt.cells, Pt.slots] at X57 l57 y57 z57 st57 hQ57
        subst l57 y57 z57
        obtain ⟨rfl, N57q, e57⟩ := hQ57
        have N57 := Fr.app N49 N57q
        refine own_pre (A' := T57.setTop (mkF m 163 #[.val (.int p0), .val (.int p1), .val (.int p2), .val (.int p3), .val (.int (3 : Int32)), .val (.int c0), .val (.int c1), .val (.int c2), .val (.ref b39), .val (.ref b43), .val (.int (1 : Int32))] [(.int (own_one3 c0 c1 c2))])) st57 ?_
        refine o_iload X57 hx hby D0_163 rfl ?_
        refine o_ifY X57 hx hby D0_165 ((if0 _ _).trans (feq (by decide : ¬ ((1 : Int32) = (0 : Int32)))).2) (q := 172) (by decide) (by decide) ?_
        refine o_iconst X57 hx hby D0_172 (v := 0) rfl ?_
        refine o_icmpN X57 hx hby D0_173 (teq (by rw [own_fin3, if_pos hc120_48, if_neg hc134_50] : (own_one3 c0 c1 c2) = (0 : Int32))).2 ?_
        refine o_iconst X57 hx hby D0_176 (v := 1) rfl ?_
        refine o_goto X57 hx hby D0_177 (q := 181) (by decide) (by decide) ?_
        exact own_retW (v := some (.int (1 : Int32))) X57 (fun h => by first | rfl | (rw [Bd.returns] at h; cases h)) (BodyLoose.notSynchronized Bd) (by decide) (by decide) (⟨rfl, N57⟩) (fun fs hr => retN X57 hx (t := .boolean) Bd.returns (by simp) (hb hby D0_181.1) hr)
    · skip
      refine o_ifY X47 hx hby D0_120 ((if0 _ _).trans (feq hc120_48).2) (q := 151) (by decide) (by decide) ?_
      refine o_iconst X47 hx hby D0_151 (v := 1) rfl ?_
      refine o_goto X47 hx hby D0_152 (q := 156) (by decide) (by decide) ?_
      refine o_istore X47 hx hby D0_156 (l' := #[.val (.int p0), .val (.int p1), .val (.int p2), .val (.int p3), .val (.int (3 : Int32)), .val (.int c0), .val (.int c1), .val (.int c2), .val (.ref b39), .val (.ref b43), .val (.int (1 : Int32))]) rfl ?_
      refine o_aload X47 hx hby D0_158 rfl rfl ?_
      have c60_O := (c46_O.keep K44 (allS gn_b43 all0))
      obtain ⟨_, _, ⟨T59, L59, k59, n59⟩, -, X59, ⟨Lc59, hQ59, l59, y59, z59⟩, st59⟩ := Jvm.LawKit.callS X47 hx (y := (⟨"com/example/arrearwise/arrearwise/MailText", "isOneLine", "(Ljava/lang/String;)Z"⟩ : MethodName)) hown (mvT hZ (own_wd hw (i := 26) rfl)) (mvT hZ (own_wd hw (i := 27) rfl)) (mvT hZ (own_wd hw (i := 28) rfl)) (mvT hZ (own_wd hw (i := 29) rfl)) (by decide) (backOf (W := 0) (rm_one3 l Z a0 hw [] b43 vb kb c0 c1 c2 cs vf T44.heap n0 (own_leN (by omega)) hST0 c60_O Str44 hc0 hc1 hc2) hZ (own_wd hw (i := 29) rfl) (own_wd hw (i := 28) rfl) (by decide) (by decide)) (g := (mkF m 160 #[.val (.int p0), .val (.int p1), .val (.int p2), .val (.int p3), .val (.int (3 : Int32)), .val (.int c0), .val (.int c1), .val (.int c2), .val (.ref b39), .val (.ref b43), .val (.int (1 : Int32))] [(.ref b43)])) rfl (by rw [hml]; rfl) (argsL := [(.ref b43)]) (rest := []) (lenOf pd__40Ljava_47lang_47String_59_41Z rfl) rfl (by show 2 * 0 + _ ≤ _; exact Nat.le_of_eq rfl) (hb hby D0_160.1) (fun _ _ => ⟨rfl, e47, (by decide : 4 + 0 ≤ _), (by decide : 16 + 0 ≤ _)⟩)
      dsimp only [Pt.U, Pt.locs, Pt.cells, Pt.slots] at X59 l59 y59 z59 st59 hQ59
      subst l59 y59 z59
      obtain ⟨rfl, N59q, e59⟩ := hQ59
      have N59 := Fr.app N47 N59q
      refine own_pre (A' := T59.setTop (mkF m 163 #[.val (.int p0), .val (.int p1), .val (.int p2), .val (.int p3), .val (.int (3 : Int32)), .val (.int c0), .val (.int c1), .val (.int c2), .val (.ref b39), .val (.ref b43), .val (.int (1 : Int32))] [(.int (own_one3 c0 c1 c2))])) st59 ?_
      refine o_iload X59 hx hby D0_163 rfl ?_
      refine o_ifY X59 hx hby D0_165 ((if0 _ _).trans (feq (by decide : ¬ ((1 : Int32) = (0 : Int32)))).2) (q := 172) (by decide) (by decide) ?_
      refine o_iconst X59 hx hby D0_172 (v := 0) rfl ?_
      refine o_icmpN X59 hx hby D0_173 (teq (by rw [own_fin3, if_neg hc120_48] : (own_one3 c0 c1 c2) = (0 : Int32))).2 ?_
      refine o_iconst X59 hx hby D0_176 (v := 1) rfl ?_
      refine o_goto X59 hx hby D0_177 (q := 181) (by decide) (by decide) ?_
      exact own_retW (v := some (.int (1 : Int32))) X59 (fun h => by first | rfl | (rw [Bd.returns] at h; cases h)) (BodyLoose.notSynchronized Bd) (by decide) (by decide) (⟨rfl, N59⟩) (fun fs hr => retN X59 hx (t := .boolean) Bd.returns (by simp) (hb hby D0_181.1) hr)
theorem own_sta {args : Array Value} {s : State} {C n d : String} {v : Int32} (h : (Jvm.Cond.eq (Jvm.Term.static C n d) (Jvm.Term.int v)).before args s = true) : (Jvm.Term.static C n d).eval args s none [] s = some (.int v) := Cond.eq_int h rfl
set_option maxRecDepth 65536 in
set_option maxHeartbeats 40000000 in
theorem comes_1 {Post : Tables → Env → Array Value → State → Outcome → State → Prop} (hpost : ∀ tb e args s v u, (limb_1_1.after args s (.returned v) u = true ∧ limb_1_2.after args s (.returned v) u = true ∧ True) → ReturnedEndW s (.returned v) u (Jvm.fieldLocs frame_1_writes args s ++ Jvm.arrayLocs frame_1_arrays args s ++ Jvm.staticLocs frame_1_statics s) 24 1152 → Post tb e args s (.returned v) u) :
    ArmFor flags0 classFile x code maxLocals ret World_1 tables_1 room_1 Calls_1 rest_1 Pre_1 Post := by
  intro l hfl _ _ p e ha hc hk s m args below hf hA hF happ hP
  obtain ⟨hcalls, hrest, hpre⟩ := hP
  obtain ⟨-, -, -, hnamed, -, -, -, hat⟩ := (Spec.applies_iff hf).mp happ
  obtain ⟨hg, hn⟩ := and_e (Cond.before_iff.mp (show (Jvm.Cond.and given_1 narrow_1).before args s = true from hpre))
  obtain ⟨gc, gr0⟩ := and_e hg
  obtain ⟨ga0, gr1⟩ := and_e gr0
  obtain ⟨ga1, gr2⟩ := and_e gr1
  obtain ⟨ga2, gr3⟩ := and_e gr2
  obtain ⟨w0, w1, w2, w3, rfl⟩ : ∃ w0 w1 w2 w3 : Value, args = #[w0, w1, w2, w3] := by
    have hs : args.size = 4 := by simpa [Cond.value, given_1] using gc
    obtain ⟨L⟩ := args
    match L, hs with
    | [w0, w1, w2, w3], _ => exact ⟨w0, w1, w2, w3, rfl⟩
  have hw := fun d (hd : d ∈ tables_1) => atoms_spec (ws := Jvm.Cond.code x code maxLocals ret :: tables_1) hat d (List.mem_cons_of_mem _ hd)
  obtain ⟨hsets, hown0⟩ := atoms_of _ (rest_1_c_eq ▸ (show rest_1_c.before _ s = true from hrest))
  obtain ⟨i0, ei0⟩ := is_v ga0
  obtain rfl : w0 = (.int i0) := Option.some.inj ei0
  obtain ⟨i1, ei1⟩ := is_v ga1
  obtain rfl : w1 = (.int i1) := Option.some.inj ei1
  obtain ⟨i2, ei2⟩ := is_v ga2
  obtain rfl : w2 = (.int i2) := Option.some.inj ei2
  obtain ⟨i3, ei3⟩ := is_v gr3
  obtain rfl : w3 = (.int i3) := Option.some.inj ei3
  obtain ⟨cs, hcs⟩ := is_v (Cond.before_iff.mp (hsets _ (List.mem_of_getElem? (i := 1) rfl)))
  have hcs0 : ¬ cs = (0 : Int32) := fun q => by
    have w := not_v (Cond.before_iff.mp (hsets _ (List.mem_of_getElem? (i := 2) rfl)))
    rw [eq_i hcs (Term.int_eval 0) (by rw [q])] at w
    cases w
  have S1 := Sta.start hcs (Or.inl (hsets _ (List.mem_of_getElem? (i := 0) rfl)))
  obtain ⟨vf, hvf, hvr⟩ := isR_v (Cond.before_iff.mp (hsets _ (List.mem_of_getElem? (i := 8) rfl)))
  have S5 := Sta.start hvf (Or.inl (hsets _ (List.mem_of_getElem? (i := 7) rfl)))
  have S2 := Sta.start (own_sta (hsets _ (List.mem_of_getElem? (i := 12) rfl))) (Or.inl (hsets _ (List.mem_of_getElem? (i := 11) rfl)))
  have S3 := Sta.start (own_sta (hsets _ (List.mem_of_getElem? (i := 15) rfl))) (Or.inl (hsets _ (List.mem_of_getElem? (i := 14) rfl)))
  have S4 := Sta.start (own_sta (hsets _ (List.mem_of_getElem? (i := 18) rfl))) (Or.inl (hsets _ (List.mem_of_getElem? (i := 17) rfl)))
  have hch : CHv s own_EL s.vm s.heap := CHv.start (own_ew hw) (fun p hp => hcalls.1 p (by simpa [own_EL, consts_1] using hp)) (by exact hsets _ (List.mem_of_getElem? (i := 2) rfl)) (own_wd hw (i := 19) rfl) (own_wd hw (i := 6) rfl)
  obtain ⟨n, o, h1, h2, h3, _, L, rfl, ⟨rfl, N⟩, hq⟩ := rm0 l s _ hw tables_1 i0 i1 i2 i3 cs vf s.heap s.heap.size (Nat.le_refl _) ⟨S1, S2, S3, S4, S5, hcs0, hvr⟩ (Old.start s) p e ha hc hk s m _ below hf ((Spec.applies_iff_loose hf).mp happ).1 ⟨rfl, State.Warmed39.refl s, rfl, hch⟩ trivial
  refine ⟨n, _, h1, h2, h3, hpost _ _ _ _ _ _ ⟨Cond.after_iff.mpr rfl, Cond.after_iff.mpr (eq_i res_at (Term.int_eval (1)) rfl), trivial⟩ ⟨hq.1, hq.2.1, hq.2.2.1, (hq.2.2.2.sift fun y hy => Or.inr (N y hy)).mono (by decide) (by decide)⟩⟩
theorem main_1_1 : Claimed_1_1 := comes_1 fun _ _ _ _ _ _ h hF => ⟨h.1, hF⟩
theorem main_1_2 : Claimed_1_2 := comes_1 fun _ _ _ _ _ _ h hF => ⟨h.2.1, hF⟩
end Jvm.Pilot.@@N@@
namespace Jvm.Pilot.@@N@@
open Jvm Jvm.ClassFile Sem Op Lib Jvm.Free Jvm.Stand Jvm.Pilot.@@N@@.Jvm.D
/-! MADE BY PROGRAM (witnessworld.py) out of the Statement's table words and the real class files: 21 classes; the members and pool entries that the words name. The judged class is class 1, her method 3. -/
namespace start1
open Jvm.ClassFile
def u (s : String) : CpInfo := .utf8 (stringToUtf16 s)
/-- a pool by its gaps: so many unusable entries, then the entry; so many at the end -/
def gap : Nat → List CpInfo → List CpInfo
  | 0, r => r
  | n + 1, r => .unusable :: gap n r
def poolList (es : List (Nat × CpInfo)) (last : Nat) : List CpInfo := es.foldr (fun e r => gap e.1 (e.2 :: r)) (gap last [])
def pool (es : List (Nat × CpInfo)) (last : Nat) : Array CpInfo := ⟨poolList es last⟩
def fileOf (pool : Array CpInfo) (this : Nat) (attrs : Array Attribute := #[]) (ms : Array MethodInfo := #[]) (fl : Nat := 33) (sup : Nat := 0) (ifs : Array Nat := #[]) (fds : Array FieldInfo := #[]) : ClassFile where
  minorVersion := 0
  majorVersion := 65
  constantPool := pool
  accessFlags := fl
  thisClass := this
  superClass := sup
  interfaces := ifs
  fields := fds
  methods := ms
  attributes := attrs
def plain (name : String) (sup : Option ClassId) : Class where
  name := name
  kind := .ordinary
  loader := none
  accessFlags := 33
  super := sup
  interfaces := #[]
  cf := none
  fields := #[]
  methods := #[]
  instanceTypes := #[]
  staticTypes := #[]
  resolved := #[]
  callSites := []
  init := .initialized
  statics := none
  mirror := none

def pool0 : Array CpInfo := pool [(5, u "<init>"), (0, u "()V"), (1, .class_ 10), (1, u "java/lang/Object")] 113

def k0c0 : Code := { maxStack := 0, maxLocals := 1, code := object_method_1_code, exceptionTable := #[], attributes := #[] }
def k0m0 : Method := { name := "<init>", desc := "()V", sig := { parameters := [], returnType := none }, accessFlags := 1, code := some k0c0 }
/-- java/lang/Object -/
def k0 : Class := { plain "java/lang/Object" none with
  accessFlags := 33
  interfaces := #[]
  cf := some (fileOf pool0 8 #[] #[{ accessFlags := 1, nameIndex := 5, descriptorIndex := 6, attributes := #[] }] 33 0 #[] #[])
  fields := #[]
  methods := #[k0m0]
  instanceTypes := #[]
  staticTypes := #[]
  resolved := Array.replicate 124 none
  statics := none }

def pool1 : Array CpInfo := pool [(2, .class_ 4), (1, u "java/lang/Object"), (0, u "<init>"), (0, u "()V"), (0, .integer 65535), (0, .methodref 9 10), (0, .class_ 11), (0, .nameAndType 12 13), (0, u "com/example/arrearwise/arrearwise/MailTextIsOneLinePinLaw"), (0, u "ch"), (0, u "(I)C"), (0, .class_ 15), (0, u "java/lang/String"), (0, .methodref 14 17), (0, .nameAndType 5 18), (0, u "([C)V"), (0, .methodref 9 20), (0, .nameAndType 21 22), (0, u "brk"), (0, u "(C)Z"), (0, .methodref 24 25), (0, .class_ 26), (0, .nameAndType 27 28), (0, u "com/example/arrearwise/arrearwise/MailText"), (0, u "isOneLine"), (0, u "(Ljava/lang/String;)Z"), (3, u "law"), (0, u "(IIII)Z")] 4

def k1m0 : Method := { name := "<init>", desc := "()V", sig := { parameters := [], returnType := none }, accessFlags := 2, code := none }
def k1c1 : Code := { maxStack := 2, maxLocals := 2, code := method_2_code, exceptionTable := #[], attributes := #[] }
def k1m1 : Method := { name := "ch", desc := "(I)C", sig := { parameters := [.int], returnType := some .char }, accessFlags := 10, code := some k1c1 }
def k1c2 : Code := { maxStack := 2, maxLocals := 1, code := method_3_code, exceptionTable := #[], attributes := #[] }
def k1m2 : Method := { name := "brk", desc := "(C)Z", sig := { parameters := [.char], returnType := some .boolean }, accessFlags := 10, code := some k1c2 }
def k1c3 : Code := { maxStack := 4, maxLocals := 11, code := code, exceptionTable := #[], attributes := #[] }
def k1m3 : Method := { name := "law", desc := "(IIII)Z", sig := { parameters := [.int, .int, .int, .int], returnType := some .boolean }, accessFlags := 9, code := some k1c3 }
/-- com/example/arrearwise/arrearwise/MailTextIsOneLinePinLaw -/
def k1 : Class := { plain "com/example/arrearwise/arrearwise/MailTextIsOneLinePinLaw" (some 0) with
  accessFlags := 49
  interfaces := #[]
  cf := some (fileOf pool1 9 #[] #[{ accessFlags := 2, nameIndex := 5, descriptorIndex := 6, attributes := #[] }, { accessFlags := 10, nameIndex := 12, descriptorIndex := 13, attributes := #[] }, { accessFlags := 10, nameIndex := 21, descriptorIndex := 22, attributes := #[] }, { accessFlags := 9, nameIndex := 32, descriptorIndex := 33, attributes := #[] }] 49 2 #[] #[])
  fields := #[]
  methods := #[k1m0, k1m1, k1m2, k1m3]
  instanceTypes := #[]
  staticTypes := #[]
  resolved := Array.replicate 38 none
  statics := none }

def pool2 : Array CpInfo := pool [(1, .class_ 2), (0, u "java/io/Serializable"), (0, .class_ 4), (0, u "java/lang/Object")] 2

/-- java/io/Serializable -/
def k2 : Class := { plain "java/io/Serializable" (some 0) with
  accessFlags := 1537
  interfaces := #[]
  cf := some (fileOf pool2 1 #[] #[] 1537 3 #[] #[])
  fields := #[]
  methods := #[]
  instanceTypes := #[]
  staticTypes := #[]
  resolved := Array.replicate 7 none
  statics := none }

def pool3 : Array CpInfo := pool [(1, .class_ 2), (0, u "java/lang/Comparable"), (0, .class_ 4), (0, u "java/lang/Object")] 7

/-- java/lang/Comparable -/
def k3 : Class := { plain "java/lang/Comparable" (some 0) with
  accessFlags := 1537
  interfaces := #[]
  cf := some (fileOf pool3 1 #[] #[] 1537 3 #[] #[])
  fields := #[]
  methods := #[]
  instanceTypes := #[]
  staticTypes := #[]
  resolved := Array.replicate 12 none
  statics := none }

def pool4 : Array CpInfo := pool [(2, .class_ 4), (1, u "java/lang/CharSequence"), (42, .class_ 48), (0, u "java/lang/CharSequence$1CodePointIterator"), (10, .class_ 60), (0, u "java/lang/CharSequence$1CharIterator"), (5, .class_ 67), (0, u "java/lang/Object")] 63

/-- java/lang/CharSequence -/
def k4 : Class := { plain "java/lang/CharSequence" (some 0) with
  accessFlags := 1537
  interfaces := #[]
  cf := some (fileOf pool4 2 #[.nestMembers #[47, 59]] #[] 1537 66 #[] #[])
  fields := #[]
  methods := #[]
  instanceTypes := #[]
  staticTypes := #[]
  resolved := Array.replicate 131 none
  statics := none }

def pool5 : Array CpInfo := pool [(1, .class_ 2), (0, u "java/lang/constant/Constable"), (0, .class_ 4), (0, u "java/lang/Object")] 6

/-- java/lang/constant/Constable -/
def k5 : Class := { plain "java/lang/constant/Constable" (some 0) with
  accessFlags := 1537
  interfaces := #[]
  cf := some (fileOf pool5 1 #[] #[] 1537 3 #[] #[])
  fields := #[]
  methods := #[]
  instanceTypes := #[]
  staticTypes := #[]
  resolved := Array.replicate 11 none
  statics := none }

def pool6 : Array CpInfo := pool [(1, .class_ 2), (0, u "java/lang/constant/ConstantDesc"), (0, .class_ 4), (0, u "java/lang/Object")] 32

/-- java/lang/constant/ConstantDesc -/
def k6 : Class := { plain "java/lang/constant/ConstantDesc" (some 0) with
  accessFlags := 1537
  interfaces := #[]
  cf := some (fileOf pool6 1 #[] #[] 1537 3 #[] #[])
  fields := #[]
  methods := #[]
  instanceTypes := #[]
  staticTypes := #[]
  resolved := Array.replicate 37 none
  statics := none }

def pool7 : Array CpInfo := pool [(1, .methodref 2 3), (0, .class_ 4), (0, .nameAndType 5 6), (0, u "java/lang/Object"), (0, u "<init>"), (0, u "()V"), (0, .string 8), (0, u ""), (0, .fieldref 10 11), (0, .class_ 12), (0, .nameAndType 13 14), (0, u "java/lang/String"), (0, u "value"), (0, u "[B"), (0, .fieldref 10 16), (0, .nameAndType 17 18), (0, u "coder"), (0, u "B"), (2, u "hash"), (0, u "I"), (2, u "hashIsZero"), (0, u "Z"), (0, .methodref 10 28), (0, .nameAndType 5 29), (0, u "([CIILjava/lang/Void;)V"), (8, .fieldref 10 39), (0, .nameAndType 40 26), (0, u "COMPACT_STRINGS"), (1, .class_ 44), (1, u "java/lang/StringUTF16"), (0, u "compress"), (1, .methodref 42 48), (0, .nameAndType 49 50), (0, u "coderFromArrayLen"), (0, u "([BI)B"), (56, .class_ 109), (1, u "java/lang/StringLatin1"), (32, u "()Z"), (34, .methodref 42 178), (0, .nameAndType 45 179), (0, u "([CII)[B"), (154, u "()I"), (0, .methodref 10 336), (0, .nameAndType 17 337), (0, u "()B"), (154, .methodref 10 493), (0, .nameAndType 494 142), (0, u "isLatin1"), (10, .methodref 10 506), (0, .nameAndType 507 334), (0, u "length"), (5, u "checkFromToIndex"), (9, u "checkBoundsBeginEnd"), (0, u "(III)V"), (50, .class_ 576), (0, u "java/lang/CharSequence"), (22, u "CASE_INSENSITIVE_ORDER"), (0, u "Ljava/util/Comparator;"), (32, .methodref 10 634), (0, .nameAndType 635 636), (0, u "indexOf"), (0, u "(II)I"), (0, .methodref 107 638), (0, .nameAndType 635 639), (0, u "([BIII)I"), (0, .methodref 42 638), (124, u "(I)I"), (244, u "([C)V"), (42, .fieldref 1054 1055), (0, .class_ 1056), (0, .nameAndType 1057 1058), (0, u "jdk/internal/util/Preconditions"), (0, u "SIOOBE_FORMATTER"), (0, u "Ljava/util/function/BiFunction;"), (3, .methodref 1054 1063), (0, .nameAndType 513 1064), (0, u "(IIILjava/util/function/BiFunction;)I"), (36, u "serialPersistentFields"), (0, u "[Ljava/io/ObjectStreamField;"), (0, .class_ 1104), (0, u "java/lang/String$CaseInsensitiveComparator"), (1, .class_ 1107), (0, u "java/io/Serializable"), (0, .class_ 1109), (0, u "java/lang/Comparable"), (0, .class_ 1111), (0, u "java/lang/constant/Constable"), (0, .class_ 1113), (0, u "java/lang/constant/ConstantDesc"), (2, u "serialVersionUID"), (0, u "J"), (3, u "REPL"), (0, u "C"), (2, u "LATIN1"), (1, u "UTF16")] 323

def k7m0 : Method := { name := "<init>", desc := "()V", sig := { parameters := [], returnType := none }, accessFlags := 1, code := none }
def k7c1 : Code := { maxStack := 5, maxLocals := 2, code := jdk_42_method_3_code, exceptionTable := #[], attributes := #[] }
def k7m1 : Method := { name := "<init>", desc := "([C)V", sig := { parameters := [(.array .char)], returnType := none }, accessFlags := 1, code := some k7c1 }
def k7c2 : Code := { maxStack := 2, maxLocals := 1, code := jdk_42_method_54_code, exceptionTable := #[], attributes := #[] }
def k7m2 : Method := { name := "length", desc := "()I", sig := { parameters := [], returnType := some .int }, accessFlags := 1, code := some k7c2 }
def k7c3 : Code := { maxStack := 3, maxLocals := 2, code := jdk_42_method_79_code, exceptionTable := #[], attributes := #[] }
def k7m3 : Method := { name := "indexOf", desc := "(I)I", sig := { parameters := [.int], returnType := some .int }, accessFlags := 1, code := some k7c3 }
def k7c4 : Code := { maxStack := 4, maxLocals := 3, code := jdk_42_method_80_code, exceptionTable := #[], attributes := #[] }
def k7m4 : Method := { name := "indexOf", desc := "(II)I", sig := { parameters := [.int, .int], returnType := some .int }, accessFlags := 1, code := some k7c4 }
def k7c5 : Code := { maxStack := 4, maxLocals := 6, code := jdk_42_method_149_code, exceptionTable := #[], attributes := #[] }
def k7m5 : Method := { name := "<init>", desc := "([CIILjava/lang/Void;)V", sig := { parameters := [(.array .char), .int, .int, (.object "java/lang/Void")], returnType := none }, accessFlags := 2, code := some k7c5 }
def k7c6 : Code := { maxStack := 1, maxLocals := 1, code := jdk_42_method_152_code, exceptionTable := #[], attributes := #[] }
def k7m6 : Method := { name := "coder", desc := "()B", sig := { parameters := [], returnType := some .byte }, accessFlags := 0, code := some k7c6 }
def k7c7 : Code := { maxStack := 1, maxLocals := 1, code := jdk_42_method_154_code, exceptionTable := #[], attributes := #[] }
def k7m7 : Method := { name := "isLatin1", desc := "()Z", sig := { parameters := [], returnType := some .boolean }, accessFlags := 0, code := some k7c7 }
def k7c8 : Code := { maxStack := 4, maxLocals := 3, code := jdk_42_method_158_code, exceptionTable := #[], attributes := #[] }
def k7m8 : Method := { name := "checkBoundsBeginEnd", desc := "(III)V", sig := { parameters := [.int, .int, .int], returnType := none }, accessFlags := 8, code := some k7c8 }
/-- java/lang/String -/
def k7 : Class := { plain "java/lang/String" (some 0) with
  accessFlags := 49
  interfaces := #[2, 3, 4, 5, 6]
  cf := some (fileOf pool7 10 #[.nestMembers #[1103]] #[{ accessFlags := 1, nameIndex := 5, descriptorIndex := 6, attributes := #[] }, { accessFlags := 1, nameIndex := 5, descriptorIndex := 1010, attributes := #[] }, { accessFlags := 1, nameIndex := 507, descriptorIndex := 334, attributes := #[] }, { accessFlags := 1, nameIndex := 635, descriptorIndex := 765, attributes := #[] }, { accessFlags := 1, nameIndex := 635, descriptorIndex := 636, attributes := #[] }, { accessFlags := 2, nameIndex := 5, descriptorIndex := 29, attributes := #[] }, { accessFlags := 0, nameIndex := 17, descriptorIndex := 337, attributes := #[] }, { accessFlags := 0, nameIndex := 494, descriptorIndex := 142, attributes := #[] }, { accessFlags := 8, nameIndex := 523, descriptorIndex := 524, attributes := #[] }] 49 2 #[1106, 1108, 575, 1110, 1112] #[{ accessFlags := 18, nameIndex := 13, descriptorIndex := 14, attributes := #[] }, { accessFlags := 18, nameIndex := 17, descriptorIndex := 18, attributes := #[] }, { accessFlags := 2, nameIndex := 21, descriptorIndex := 22, attributes := #[] }, { accessFlags := 2, nameIndex := 25, descriptorIndex := 26, attributes := #[] }, { accessFlags := 26, nameIndex := 1116, descriptorIndex := 1117, attributes := #[] }, { accessFlags := 24, nameIndex := 40, descriptorIndex := 26, attributes := #[] }, { accessFlags := 26, nameIndex := 1101, descriptorIndex := 1102, attributes := #[] }, { accessFlags := 26, nameIndex := 1121, descriptorIndex := 1122, attributes := #[] }, { accessFlags := 25, nameIndex := 599, descriptorIndex := 600, attributes := #[] }, { accessFlags := 24, nameIndex := 1125, descriptorIndex := 18, attributes := #[] }, { accessFlags := 24, nameIndex := 1127, descriptorIndex := 18, attributes := #[] }])
  fields := #[{ name := "value", type := (.array .byte), accessFlags := 18, slot := 0, constantValue := 0 }, { name := "coder", type := .byte, accessFlags := 18, slot := 1, constantValue := 0 }, { name := "hash", type := .int, accessFlags := 2, slot := 2, constantValue := 0 }, { name := "hashIsZero", type := .boolean, accessFlags := 2, slot := 3, constantValue := 0 }, { name := "serialVersionUID", type := .long, accessFlags := 26, slot := 0, constantValue := 0 }, { name := "COMPACT_STRINGS", type := .boolean, accessFlags := 24, slot := 1, constantValue := 0 }, { name := "serialPersistentFields", type := (.array (.object "java/io/ObjectStreamField")), accessFlags := 26, slot := 2, constantValue := 0 }, { name := "REPL", type := .char, accessFlags := 26, slot := 3, constantValue := 0 }, { name := "CASE_INSENSITIVE_ORDER", type := (.object "java/util/Comparator"), accessFlags := 25, slot := 4, constantValue := 0 }, { name := "LATIN1", type := .byte, accessFlags := 24, slot := 5, constantValue := 0 }, { name := "UTF16", type := .byte, accessFlags := 24, slot := 6, constantValue := 0 }]
  methods := #[k7m0, k7m1, k7m2, k7m3, k7m4, k7m5, k7m6, k7m7, k7m8]
  instanceTypes := #[(.array .byte), .byte, .int, .boolean]
  staticTypes := #[.long, .boolean, (.array (.object "java/io/ObjectStreamField")), .char, (.object "java/util/Comparator"), .byte, .byte]
  resolved := Array.replicate 1451 none
  statics := some 0 }

def pool8 : Array CpInfo := pool [(2, .class_ 4), (1, u "java/lang/Object"), (0, u "<init>"), (0, u "()V"), (4, .class_ 13), (1, u "com/example/arrearwise/arrearwise/MailText"), (0, u "text"), (0, u "Ljava/lang/StringBuilder;"), (0, .methodref 17 18), (0, .class_ 19), (0, .nameAndType 20 21), (0, u "java/lang/String"), (0, u "indexOf"), (0, u "(I)I"), (2, u "isOneLine"), (0, u "(Ljava/lang/String;)Z"), (189, u "HEX"), (0, u "[C"), (6, u "CRLF"), (0, u "Ljava/lang/String;"), (1, u "LINE_LENGTH"), (0, u "I"), (1, u "BODY_LINE_LENGTH"), (1, u "ENCODED_WORD_BYTES"), (1, u "ENCODED_WORD_START"), (2, u "ENCODED_WORD_MARK"), (0, u "ENCODED_WORD_END")] 38

def k8m0 : Method := { name := "<init>", desc := "()V", sig := { parameters := [], returnType := none }, accessFlags := 0, code := none }
def k8c1 : Code := { maxStack := 2, maxLocals := 1, code := prog_13_method_2_code, exceptionTable := #[], attributes := #[] }
def k8m1 : Method := { name := "isOneLine", desc := "(Ljava/lang/String;)Z", sig := { parameters := [(.object "java/lang/String")], returnType := some .boolean }, accessFlags := 8, code := some k8c1 }
/-- com/example/arrearwise/arrearwise/MailText -/
def k8 : Class := { plain "com/example/arrearwise/arrearwise/MailText" (some 0) with
  accessFlags := 48
  interfaces := #[]
  cf := some (fileOf pool8 11 #[] #[{ accessFlags := 0, nameIndex := 5, descriptorIndex := 6, attributes := #[] }, { accessFlags := 8, nameIndex := 24, descriptorIndex := 25, attributes := #[] }] 48 2 #[] #[{ accessFlags := 26, nameIndex := 223, descriptorIndex := 224, attributes := #[] }, { accessFlags := 26, nameIndex := 226, descriptorIndex := 227, attributes := #[] }, { accessFlags := 26, nameIndex := 229, descriptorIndex := 227, attributes := #[] }, { accessFlags := 26, nameIndex := 231, descriptorIndex := 227, attributes := #[] }, { accessFlags := 26, nameIndex := 233, descriptorIndex := 224, attributes := #[] }, { accessFlags := 26, nameIndex := 236, descriptorIndex := 224, attributes := #[] }, { accessFlags := 26, nameIndex := 237, descriptorIndex := 224, attributes := #[] }, { accessFlags := 26, nameIndex := 215, descriptorIndex := 216, attributes := #[] }, { accessFlags := 18, nameIndex := 14, descriptorIndex := 15, attributes := #[] }])
  fields := #[{ name := "CRLF", type := (.object "java/lang/String"), accessFlags := 26, slot := 0, constantValue := 0 }, { name := "LINE_LENGTH", type := .int, accessFlags := 26, slot := 1, constantValue := 0 }, { name := "BODY_LINE_LENGTH", type := .int, accessFlags := 26, slot := 2, constantValue := 0 }, { name := "ENCODED_WORD_BYTES", type := .int, accessFlags := 26, slot := 3, constantValue := 0 }, { name := "ENCODED_WORD_START", type := (.object "java/lang/String"), accessFlags := 26, slot := 4, constantValue := 0 }, { name := "ENCODED_WORD_MARK", type := (.object "java/lang/String"), accessFlags := 26, slot := 5, constantValue := 0 }, { name := "ENCODED_WORD_END", type := (.object "java/lang/String"), accessFlags := 26, slot := 6, constantValue := 0 }, { name := "HEX", type := (.array .char), accessFlags := 26, slot := 7, constantValue := 0 }, { name := "text", type := (.object "java/lang/StringBuilder"), accessFlags := 18, slot := 0, constantValue := 0 }]
  methods := #[k8m0, k8m1]
  instanceTypes := #[(.object "java/lang/StringBuilder")]
  staticTypes := #[(.object "java/lang/String"), .int, .int, .int, (.object "java/lang/String"), (.object "java/lang/String"), (.object "java/lang/String"), (.array .char)]
  resolved := Array.replicate 276 none
  statics := none }

def pool9 : Array CpInfo := pool [(4, .class_ 6), (1, u "java/lang/Object"), (0, u "<init>"), (0, u "()V"), (5, .class_ 16), (1, u "java/lang/StringLatin1"), (21, .methodref 39 40), (0, .class_ 41), (0, .nameAndType 42 43), (0, u "java/lang/Math"), (0, u "min"), (0, u "(II)I"), (44, .methodref 14 89), (0, .nameAndType 90 91), (0, u "canEncode"), (0, u "(I)Z"), (0, .methodref 39 93), (0, .nameAndType 94 43), (0, u "max"), (0, .methodref 14 96), (0, .nameAndType 97 98), (0, u "indexOfChar"), (0, u "([BIII)I"), (2, u "indexOf"), (19, u "$assertionsDisabled"), (0, u "Z"), (98, .class_ 223), (1, u "java/lang/StringLatin1$LinesSpliterator"), (166, .class_ 391), (0, u "java/lang/StringLatin1$CharsSpliterator")] 3

def k9m0 : Method := { name := "<init>", desc := "()V", sig := { parameters := [], returnType := none }, accessFlags := 0, code := none }
def k9c1 : Code := { maxStack := 2, maxLocals := 1, code := jdk_43_method_4_code, exceptionTable := #[], attributes := #[] }
def k9m1 : Method := { name := "canEncode", desc := "(I)Z", sig := { parameters := [.int], returnType := some .boolean }, accessFlags := 9, code := some k9c1 }
def k9c2 : Code := { maxStack := 4, maxLocals := 4, code := jdk_43_method_22_code, exceptionTable := #[], attributes := #[] }
def k9m2 : Method := { name := "indexOf", desc := "([BIII)I", sig := { parameters := [(.array .byte), .int, .int, .int], returnType := some .int }, accessFlags := 9, code := some k9c2 }
def k9c3 : Code := { maxStack := 2, maxLocals := 6, code := jdk_43_method_23_code, exceptionTable := #[], attributes := #[] }
def k9m3 : Method := { name := "indexOfChar", desc := "([BIII)I", sig := { parameters := [(.array .byte), .int, .int, .int], returnType := some .int }, accessFlags := 10, code := some k9c3 }
/-- java/lang/StringLatin1 -/
def k9 : Class := { plain "java/lang/StringLatin1" (some 0) with
  accessFlags := 48
  interfaces := #[]
  cf := some (fileOf pool9 14 #[.nestMembers #[390, 221]] #[{ accessFlags := 0, nameIndex := 7, descriptorIndex := 8, attributes := #[] }, { accessFlags := 9, nameIndex := 90, descriptorIndex := 91, attributes := #[] }, { accessFlags := 9, nameIndex := 101, descriptorIndex := 98, attributes := #[] }, { accessFlags := 10, nameIndex := 97, descriptorIndex := 98, attributes := #[] }] 48 4 #[] #[{ accessFlags := 4120, nameIndex := 121, descriptorIndex := 122, attributes := #[] }])
  fields := #[{ name := "$assertionsDisabled", type := .boolean, accessFlags := 4120, slot := 0, constantValue := 0 }]
  methods := #[k9m0, k9m1, k9m2, k9m3]
  instanceTypes := #[]
  staticTypes := #[.boolean]
  resolved := Array.replicate 395 none
  statics := none }

def pool10 : Array CpInfo := pool [(1, .class_ 2), (0, u "java/lang/Math"), (1, .class_ 6), (1, u "java/lang/Object"), (0, u "<init>"), (0, u "()V"), (89, .class_ 100), (1, u "java/lang/Math$RandomNumberGeneratorHolder"), (71, u "negativeZeroFloatBits"), (0, u "J"), (2, u "negativeZeroDoubleBits"), (21, u "max"), (2, u "min"), (43, u "$assertionsDisabled"), (0, u "Z"), (88, u "(II)I"), (2, u "twoToTheDoubleScaleDown"), (0, u "D"), (4, u "twoToTheDoubleScaleUp"), (9, u "E"), (3, u "PI"), (2, u "TAU"), (2, u "DEGREES_TO_RADIANS"), (0, u "RADIANS_TO_DEGREES")] 94

def k10m0 : Method := { name := "<init>", desc := "()V", sig := { parameters := [], returnType := none }, accessFlags := 2, code := none }
def k10c1 : Code := { maxStack := 2, maxLocals := 2, code := jdk_29_method_65_code, exceptionTable := #[], attributes := #[] }
def k10m1 : Method := { name := "max", desc := "(II)I", sig := { parameters := [.int, .int], returnType := some .int }, accessFlags := 9, code := some k10c1 }
def k10c2 : Code := { maxStack := 2, maxLocals := 2, code := jdk_29_method_69_code, exceptionTable := #[], attributes := #[] }
def k10m2 : Method := { name := "min", desc := "(II)I", sig := { parameters := [.int, .int], returnType := some .int }, accessFlags := 9, code := some k10c2 }
/-- java/lang/Math -/
def k10 : Class := { plain "java/lang/Math" (some 0) with
  accessFlags := 49
  interfaces := #[]
  cf := some (fileOf pool10 1 #[.nestMembers #[98]] #[{ accessFlags := 2, nameIndex := 7, descriptorIndex := 8, attributes := #[] }, { accessFlags := 9, nameIndex := 198, descriptorIndex := 335, attributes := #[] }, { accessFlags := 9, nameIndex := 201, descriptorIndex := 335, attributes := #[] }] 49 4 #[] #[{ accessFlags := 25, nameIndex := 354, descriptorIndex := 339, attributes := #[] }, { accessFlags := 25, nameIndex := 358, descriptorIndex := 339, attributes := #[] }, { accessFlags := 25, nameIndex := 361, descriptorIndex := 339, attributes := #[] }, { accessFlags := 26, nameIndex := 364, descriptorIndex := 339, attributes := #[] }, { accessFlags := 26, nameIndex := 365, descriptorIndex := 339, attributes := #[] }, { accessFlags := 26, nameIndex := 172, descriptorIndex := 173, attributes := #[] }, { accessFlags := 26, nameIndex := 176, descriptorIndex := 173, attributes := #[] }, { accessFlags := 8, nameIndex := 344, descriptorIndex := 339, attributes := #[] }, { accessFlags := 8, nameIndex := 338, descriptorIndex := 339, attributes := #[] }, { accessFlags := 4120, nameIndex := 245, descriptorIndex := 246, attributes := #[] }])
  fields := #[{ name := "E", type := .double, accessFlags := 25, slot := 0, constantValue := 0 }, { name := "PI", type := .double, accessFlags := 25, slot := 1, constantValue := 0 }, { name := "TAU", type := .double, accessFlags := 25, slot := 2, constantValue := 0 }, { name := "DEGREES_TO_RADIANS", type := .double, accessFlags := 26, slot := 3, constantValue := 0 }, { name := "RADIANS_TO_DEGREES", type := .double, accessFlags := 26, slot := 4, constantValue := 0 }, { name := "negativeZeroFloatBits", type := .long, accessFlags := 26, slot := 5, constantValue := 0 }, { name := "negativeZeroDoubleBits", type := .long, accessFlags := 26, slot := 6, constantValue := 0 }, { name := "twoToTheDoubleScaleUp", type := .double, accessFlags := 8, slot := 7, constantValue := 0 }, { name := "twoToTheDoubleScaleDown", type := .double, accessFlags := 8, slot := 8, constantValue := 0 }, { name := "$assertionsDisabled", type := .boolean, accessFlags := 4120, slot := 9, constantValue := 0 }]
  methods := #[k10m0, k10m1, k10m2]
  instanceTypes := #[]
  staticTypes := #[.double, .double, .double, .double, .double, .long, .long, .double, .double, .boolean]
  resolved := Array.replicate 460 none
  statics := none }

def pool11 : Array CpInfo := pool [(3, .class_ 4), (0, u "java/lang/String"), (1, .class_ 8), (1, u "java/lang/Object"), (0, u "<init>"), (0, u "()V"), (0, .methodref 12 13), (0, .class_ 14), (0, .nameAndType 15 16), (0, u "java/lang/StringUTF16"), (0, u "newBytesLength"), (0, u "(I)I"), (3, .integer 1073741823), (23, .fieldref 12 45), (0, .nameAndType 46 47), (0, u "$assertionsDisabled"), (0, u "Z"), (0, .methodref 12 49), (0, .nameAndType 50 51), (0, u "length"), (0, u "([B)I"), (7, .fieldref 12 60), (0, .nameAndType 61 62), (0, u "HI_BYTE_SHIFT"), (0, u "I"), (0, .fieldref 12 64), (0, .nameAndType 65 62), (0, u "LO_BYTE_SHIFT"), (5, .methodref 12 72), (0, .nameAndType 73 74), (0, u "getChar"), (0, u "([BI)C"), (21, .methodref 12 97), (0, .nameAndType 98 99), (0, u "checkBoundsBeginEnd"), (0, u "(II[B)V"), (7, .methodref 12 108), (0, .nameAndType 109 110), (0, u "newBytesFor"), (0, u "(I)[B"), (0, .methodref 12 112), (0, .nameAndType 113 114), (0, u "putChar"), (0, u "([BII)V"), (0, .methodref 12 116), (0, .nameAndType 117 118), (0, u "compress"), (0, u "([CI[BII)I"), (0, .methodref 12 120), (0, .nameAndType 121 122), (0, u "toBytes"), (0, u "([CII)[B"), (60, .methodref 184 185), (0, .class_ 186), (0, .nameAndType 187 188), (0, u "java/lang/Math"), (0, u "min"), (0, u "(II)I"), (35, .methodref 184 225), (0, .nameAndType 226 188), (0, u "max"), (0, .integer 65536), (0, .methodref 12 229), (0, .nameAndType 230 231), (0, u "indexOfChar"), (0, u "([BIII)I"), (9, .methodref 3 242), (0, .nameAndType 98 243), (0, u "(III)V"), (0, .methodref 12 245), (0, .nameAndType 246 231), (0, u "indexOfCharUnsafe"), (14, u "coderFromArrayLen"), (0, u "([BI)B"), (5, u "indexOf"), (100, .class_ 371), (1, u "java/lang/StringUTF16$LinesSpliterator"), (58, u "MAX_LENGTH"), (196, .class_ 628), (0, u "java/lang/StringUTF16$CodePointsSpliterator"), (0, .class_ 630), (0, u "java/lang/StringUTF16$CharsSpliterator")] 4

def k11m0 : Method := { name := "<init>", desc := "()V", sig := { parameters := [], returnType := none }, accessFlags := 0, code := none }
def k11c1 : Code := { maxStack := 1, maxLocals := 1, code := jdk_52_method_2_code, exceptionTable := #[], attributes := #[] }
def k11m1 : Method := { name := "newBytesFor", desc := "(I)[B", sig := { parameters := [.int], returnType := some (.array .byte) }, accessFlags := 9, code := some k11c1 }
def k11c2 : Code := { maxStack := 4, maxLocals := 1, code := jdk_52_method_3_code, exceptionTable := #[], attributes := #[] }
def k11m2 : Method := { name := "newBytesLength", desc := "(I)I", sig := { parameters := [.int], returnType := some .int }, accessFlags := 9, code := some k11c2 }
def k11c3 : Code := { maxStack := 4, maxLocals := 3, code := jdk_52_method_4_code, exceptionTable := #[], attributes := #[] }
def k11m3 : Method := { name := "putChar", desc := "([BII)V", sig := { parameters := [(.array .byte), .int, .int], returnType := none }, accessFlags := 8, code := some k11c3 }
def k11c4 : Code := { maxStack := 3, maxLocals := 2, code := jdk_52_method_5_code, exceptionTable := #[], attributes := #[] }
def k11m4 : Method := { name := "getChar", desc := "([BI)C", sig := { parameters := [(.array .byte), .int], returnType := some .char }, accessFlags := 8, code := some k11c4 }
def k11c5 : Code := { maxStack := 2, maxLocals := 1, code := jdk_52_method_6_code, exceptionTable := #[], attributes := #[] }
def k11m5 : Method := { name := "length", desc := "([B)I", sig := { parameters := [(.array .byte)], returnType := some .int }, accessFlags := 9, code := some k11c5 }
def k11c6 : Code := { maxStack := 4, maxLocals := 5, code := jdk_52_method_14_code, exceptionTable := #[], attributes := #[] }
def k11m6 : Method := { name := "toBytes", desc := "([CII)[B", sig := { parameters := [(.array .char), .int, .int], returnType := some (.array .byte) }, accessFlags := 9, code := some k11c6 }
def k11c7 : Code := { maxStack := 2, maxLocals := 2, code := jdk_52_method_15_code, exceptionTable := #[], attributes := #[] }
def k11m7 : Method := { name := "coderFromArrayLen", desc := "([BI)B", sig := { parameters := [(.array .byte), .int], returnType := some .byte }, accessFlags := 8, code := some k11c7 }
def k11c8 : Code := { maxStack := 5, maxLocals := 6, code := jdk_52_method_16_code, exceptionTable := #[], attributes := #[] }
def k11m8 : Method := { name := "compress", desc := "([CII)[B", sig := { parameters := [(.array .char), .int, .int], returnType := some (.array .byte) }, accessFlags := 9, code := some k11c8 }
def k11c9 : Code := { maxStack := 3, maxLocals := 7, code := jdk_52_method_21_code, exceptionTable := #[], attributes := #[] }
def k11m9 : Method := { name := "compress", desc := "([CI[BII)I", sig := { parameters := [(.array .char), .int, (.array .byte), .int, .int], returnType := some .int }, accessFlags := 9, code := some k11c9 }
def k11c10 : Code := { maxStack := 4, maxLocals := 4, code := jdk_52_method_40_code, exceptionTable := #[], attributes := #[] }
def k11m10 : Method := { name := "indexOf", desc := "([BIII)I", sig := { parameters := [(.array .byte), .int, .int, .int], returnType := some .int }, accessFlags := 9, code := some k11c10 }
def k11c11 : Code := { maxStack := 4, maxLocals := 4, code := jdk_52_method_47_code, exceptionTable := #[], attributes := #[] }
def k11m11 : Method := { name := "indexOfChar", desc := "([BIII)I", sig := { parameters := [(.array .byte), .int, .int, .int], returnType := some .int }, accessFlags := 10, code := some k11c11 }
def k11c12 : Code := { maxStack := 2, maxLocals := 5, code := jdk_52_method_48_code, exceptionTable := #[], attributes := #[] }
def k11m12 : Method := { name := "indexOfCharUnsafe", desc := "([BIII)I", sig := { parameters := [(.array .byte), .int, .int, .int], returnType := some .int }, accessFlags := 10, code := some k11c12 }
def k11c13 : Code := { maxStack := 3, maxLocals := 3, code := jdk_52_method_93_code, exceptionTable := #[], attributes := #[] }
def k11m13 : Method := { name := "checkBoundsBeginEnd", desc := "(II[B)V", sig := { parameters := [.int, .int, (.array .byte)], returnType := none }, accessFlags := 9, code := some k11c13 }
/-- java/lang/StringUTF16 -/
def k11 : Class := { plain "java/lang/StringUTF16" (some 0) with
  accessFlags := 48
  interfaces := #[]
  cf := some (fileOf pool11 12 #[.nestMembers #[627, 629, 369]] #[{ accessFlags := 0, nameIndex := 9, descriptorIndex := 10, attributes := #[] }, { accessFlags := 9, nameIndex := 109, descriptorIndex := 110, attributes := #[] }, { accessFlags := 9, nameIndex := 15, descriptorIndex := 16, attributes := #[] }, { accessFlags := 8, nameIndex := 113, descriptorIndex := 114, attributes := #[] }, { accessFlags := 8, nameIndex := 73, descriptorIndex := 74, attributes := #[] }, { accessFlags := 9, nameIndex := 50, descriptorIndex := 51, attributes := #[] }, { accessFlags := 9, nameIndex := 121, descriptorIndex := 122, attributes := #[] }, { accessFlags := 8, nameIndex := 261, descriptorIndex := 262, attributes := #[] }, { accessFlags := 9, nameIndex := 117, descriptorIndex := 122, attributes := #[] }, { accessFlags := 9, nameIndex := 117, descriptorIndex := 118, attributes := #[] }, { accessFlags := 9, nameIndex := 268, descriptorIndex := 231, attributes := #[] }, { accessFlags := 10, nameIndex := 230, descriptorIndex := 231, attributes := #[] }, { accessFlags := 10, nameIndex := 246, descriptorIndex := 231, attributes := #[] }, { accessFlags := 9, nameIndex := 98, descriptorIndex := 99, attributes := #[] }] 48 6 #[] #[{ accessFlags := 26, nameIndex := 61, descriptorIndex := 62, attributes := #[] }, { accessFlags := 26, nameIndex := 65, descriptorIndex := 62, attributes := #[] }, { accessFlags := 24, nameIndex := 430, descriptorIndex := 62, attributes := #[] }, { accessFlags := 4120, nameIndex := 46, descriptorIndex := 47, attributes := #[] }])
  fields := #[{ name := "HI_BYTE_SHIFT", type := .int, accessFlags := 26, slot := 0, constantValue := 0 }, { name := "LO_BYTE_SHIFT", type := .int, accessFlags := 26, slot := 1, constantValue := 0 }, { name := "MAX_LENGTH", type := .int, accessFlags := 24, slot := 2, constantValue := 0 }, { name := "$assertionsDisabled", type := .boolean, accessFlags := 4120, slot := 3, constantValue := 0 }]
  methods := #[k11m0, k11m1, k11m2, k11m3, k11m4, k11m5, k11m6, k11m7, k11m8, k11m9, k11m10, k11m11, k11m12, k11m13]
  instanceTypes := #[]
  staticTypes := #[.int, .int, .int, .boolean]
  resolved := Array.replicate 635 none
  statics := some 1 }

def pool12 : Array CpInfo := pool [(2, .class_ 4), (1, u "java/lang/Object"), (0, u "<init>"), (0, u "()V"), (17, .class_ 26), (1, u "jdk/internal/util/Preconditions"), (20, u "checkFromToIndex"), (7, .class_ 56), (0, u "jdk/internal/util/Preconditions$4"), (57, .class_ 115), (0, u "jdk/internal/util/Preconditions$1"), (7, u "SIOOBE_FORMATTER"), (0, u "Ljava/util/function/BiFunction;"), (0, .class_ 126), (0, u "jdk/internal/util/Preconditions$2"), (3, u "AIOOBE_FORMATTER"), (0, .class_ 132), (0, u "jdk/internal/util/Preconditions$3"), (3, u "IOOBE_FORMATTER"), (46, u "(IIILjava/util/function/BiFunction;)I")] 10

def k12m0 : Method := { name := "<init>", desc := "()V", sig := { parameters := [], returnType := none }, accessFlags := 1, code := none }
def k12c1 : Code := { maxStack := 4, maxLocals := 4, code := jdk_41_method_12_code, exceptionTable := #[], attributes := #[] }
def k12m1 : Method := { name := "checkFromToIndex", desc := "(IIILjava/util/function/BiFunction;)I", sig := { parameters := [.int, .int, .int, (.object "java/util/function/BiFunction")], returnType := some .int }, accessFlags := 9, code := some k12c1 }
/-- jdk/internal/util/Preconditions -/
def k12 : Class := { plain "jdk/internal/util/Preconditions" (some 0) with
  accessFlags := 33
  interfaces := #[]
  cf := some (fileOf pool12 24 #[.nestMembers #[55, 131, 125, 114]] #[{ accessFlags := 1, nameIndex := 5, descriptorIndex := 6, attributes := #[] }, { accessFlags := 9, nameIndex := 47, descriptorIndex := 183, attributes := #[] }] 33 2 #[] #[{ accessFlags := 25, nameIndex := 123, descriptorIndex := 124, attributes := #[] }, { accessFlags := 25, nameIndex := 130, descriptorIndex := 124, attributes := #[] }, { accessFlags := 25, nameIndex := 136, descriptorIndex := 124, attributes := #[] }])
  fields := #[{ name := "SIOOBE_FORMATTER", type := (.object "java/util/function/BiFunction"), accessFlags := 25, slot := 0, constantValue := 0 }, { name := "AIOOBE_FORMATTER", type := (.object "java/util/function/BiFunction"), accessFlags := 25, slot := 1, constantValue := 0 }, { name := "IOOBE_FORMATTER", type := (.object "java/util/function/BiFunction"), accessFlags := 25, slot := 2, constantValue := 0 }]
  methods := #[k12m0, k12m1]
  instanceTypes := #[]
  staticTypes := #[(.object "java/util/function/BiFunction"), (.object "java/util/function/BiFunction"), (.object "java/util/function/BiFunction")]
  resolved := Array.replicate 194 none
  statics := some 2 }

def pool13 : Array CpInfo := pool [(9, u "<init>"), (6, .class_ 18), (1, u "java/lang/Object"), (0, u "()V"), (1, .class_ 23), (1, u "jdk/internal/util/ArraysSupport"), (0, u "LOG2_ARRAY_LONG_INDEX_SCALE"), (0, u "I"), (2, u "U"), (0, u "Ljdk/internal/misc/Unsafe;"), (8, u "BIG_ENDIAN"), (0, u "Z"), (8, u "LOG2_BYTE_BIT_SIZE"), (4, u "LOG2_ARRAY_INT_INDEX_SCALE"), (54, u "JLA"), (0, u "Ljdk/internal/access/JavaLangAccess;"), (11, u "LOG2_ARRAY_BOOLEAN_INDEX_SCALE"), (9, u "LOG2_ARRAY_BYTE_INDEX_SCALE"), (5, u "LOG2_ARRAY_CHAR_INDEX_SCALE"), (5, u "LOG2_ARRAY_SHORT_INDEX_SCALE"), (18, u "LOG2_ARRAY_FLOAT_INDEX_SCALE"), (24, u "LOG2_ARRAY_DOUBLE_INDEX_SCALE"), (89, u "T_BOOLEAN"), (2, u "T_CHAR"), (1, u "T_FLOAT"), (1, u "T_DOUBLE"), (1, u "T_BYTE"), (1, u "T_SHORT"), (1, u "T_INT"), (1, u "T_LONG"), (1, u "SOFT_MAX_ARRAY_LENGTH")] 83

def k13m0 : Method := { name := "<init>", desc := "()V", sig := { parameters := [], returnType := none }, accessFlags := 2, code := none }
/-- jdk/internal/util/ArraysSupport -/
def k13 : Class := { plain "jdk/internal/util/ArraysSupport" (some 0) with
  accessFlags := 33
  interfaces := #[]
  cf := some (fileOf pool13 21 #[] #[{ accessFlags := 2, nameIndex := 9, descriptorIndex := 19, attributes := #[] }] 33 16 #[] #[{ accessFlags := 24, nameIndex := 28, descriptorIndex := 29, attributes := #[] }, { accessFlags := 26, nameIndex := 38, descriptorIndex := 39, attributes := #[] }, { accessFlags := 25, nameIndex := 121, descriptorIndex := 25, attributes := #[] }, { accessFlags := 25, nameIndex := 131, descriptorIndex := 25, attributes := #[] }, { accessFlags := 25, nameIndex := 137, descriptorIndex := 25, attributes := #[] }, { accessFlags := 25, nameIndex := 143, descriptorIndex := 25, attributes := #[] }, { accessFlags := 25, nameIndex := 53, descriptorIndex := 25, attributes := #[] }, { accessFlags := 25, nameIndex := 24, descriptorIndex := 25, attributes := #[] }, { accessFlags := 25, nameIndex := 162, descriptorIndex := 25, attributes := #[] }, { accessFlags := 25, nameIndex := 187, descriptorIndex := 25, attributes := #[] }, { accessFlags := 26, nameIndex := 48, descriptorIndex := 25, attributes := #[] }, { accessFlags := 25, nameIndex := 277, descriptorIndex := 25, attributes := #[] }, { accessFlags := 25, nameIndex := 280, descriptorIndex := 25, attributes := #[] }, { accessFlags := 25, nameIndex := 282, descriptorIndex := 25, attributes := #[] }, { accessFlags := 25, nameIndex := 284, descriptorIndex := 25, attributes := #[] }, { accessFlags := 25, nameIndex := 286, descriptorIndex := 25, attributes := #[] }, { accessFlags := 25, nameIndex := 288, descriptorIndex := 25, attributes := #[] }, { accessFlags := 25, nameIndex := 290, descriptorIndex := 25, attributes := #[] }, { accessFlags := 25, nameIndex := 292, descriptorIndex := 25, attributes := #[] }, { accessFlags := 26, nameIndex := 108, descriptorIndex := 109, attributes := #[] }, { accessFlags := 25, nameIndex := 294, descriptorIndex := 25, attributes := #[] }])
  fields := #[{ name := "U", type := (.object "jdk/internal/misc/Unsafe"), accessFlags := 24, slot := 0, constantValue := 0 }, { name := "BIG_ENDIAN", type := .boolean, accessFlags := 26, slot := 1, constantValue := 0 }, { name := "LOG2_ARRAY_BOOLEAN_INDEX_SCALE", type := .int, accessFlags := 25, slot := 2, constantValue := 0 }, { name := "LOG2_ARRAY_BYTE_INDEX_SCALE", type := .int, accessFlags := 25, slot := 3, constantValue := 0 }, { name := "LOG2_ARRAY_CHAR_INDEX_SCALE", type := .int, accessFlags := 25, slot := 4, constantValue := 0 }, { name := "LOG2_ARRAY_SHORT_INDEX_SCALE", type := .int, accessFlags := 25, slot := 5, constantValue := 0 }, { name := "LOG2_ARRAY_INT_INDEX_SCALE", type := .int, accessFlags := 25, slot := 6, constantValue := 0 }, { name := "LOG2_ARRAY_LONG_INDEX_SCALE", type := .int, accessFlags := 25, slot := 7, constantValue := 0 }, { name := "LOG2_ARRAY_FLOAT_INDEX_SCALE", type := .int, accessFlags := 25, slot := 8, constantValue := 0 }, { name := "LOG2_ARRAY_DOUBLE_INDEX_SCALE", type := .int, accessFlags := 25, slot := 9, constantValue := 0 }, { name := "LOG2_BYTE_BIT_SIZE", type := .int, accessFlags := 26, slot := 10, constantValue := 0 }, { name := "T_BOOLEAN", type := .int, accessFlags := 25, slot := 11, constantValue := 0 }, { name := "T_CHAR", type := .int, accessFlags := 25, slot := 12, constantValue := 0 }, { name := "T_FLOAT", type := .int, accessFlags := 25, slot := 13, constantValue := 0 }, { name := "T_DOUBLE", type := .int, accessFlags := 25, slot := 14, constantValue := 0 }, { name := "T_BYTE", type := .int, accessFlags := 25, slot := 15, constantValue := 0 }, { name := "T_SHORT", type := .int, accessFlags := 25, slot := 16, constantValue := 0 }, { name := "T_INT", type := .int, accessFlags := 25, slot := 17, constantValue := 0 }, { name := "T_LONG", type := .int, accessFlags := 25, slot := 18, constantValue := 0 }, { name := "JLA", type := (.object "jdk/internal/access/JavaLangAccess"), accessFlags := 26, slot := 19, constantValue := 0 }, { name := "SOFT_MAX_ARRAY_LENGTH", type := .int, accessFlags := 25, slot := 20, constantValue := 0 }]
  methods := #[k13m0]
  instanceTypes := #[]
  staticTypes := #[(.object "jdk/internal/misc/Unsafe"), .boolean, .int, .int, .int, .int, .int, .int, .int, .int, .int, .int, .int, .int, .int, .int, .int, .int, .int, (.object "jdk/internal/access/JavaLangAccess"), .int]
  resolved := Array.replicate 378 none
  statics := none }

def pool14 : Array CpInfo := pool [(1, u "java/lang/Cloneable"), (0, .class_ 1), (0, u "java/lang/Object"), (0, .class_ 3)] 3

/-- java/lang/Cloneable -/
def k14 : Class := { plain "java/lang/Cloneable" (some 0) with
  accessFlags := 1537
  interfaces := #[]
  cf := some (fileOf pool14 2 #[] #[] 1537 4 #[] #[])
  fields := #[]
  methods := #[]
  instanceTypes := #[]
  staticTypes := #[]
  resolved := Array.replicate 8 none
  statics := none }

/-- the primitive byte -/
def k15 : Class := { plain "byte" none with kind := .primitive 'B', accessFlags := 0x411 }
/-- [B -/
def k16 : Class := { plain "[B" (some 0) with kind := .array 15 .byte, interfaces := #[14, 2], accessFlags := 1041 }

/-- the primitive char -/
def k17 : Class := { plain "char" none with kind := .primitive 'C', accessFlags := 0x411 }
/-- [C -/
def k18 : Class := { plain "[C" (some 0) with kind := .array 17 .char, interfaces := #[14, 2], accessFlags := 1041 }

/-- the primitive int -/
def k19 : Class := { plain "int" none with kind := .primitive 'I', accessFlags := 0x411 }
/-- [I -/
def k20 : Class := { plain "[I" (some 0) with kind := .array 19 .int, interfaces := #[14, 2], accessFlags := 1041 }

def heap : Heap := #[{ cls := 7, slots := #[.long 0, .int 1, .null, .int 0, .null, .int 0, .int 0], vm := .statics 7 },
  { cls := 11, slots := #[.int 0, .int 8, .int 0, .int 1], vm := .statics 11 },
  { cls := 12, slots := #[.null, .null, .null], vm := .statics 12 }]
def classes : Array Class := #[k0, k1, k2, k3, k4, k5, k6, k7, k8, k9, k10, k11, k12, k13, k14, k15, k16, k17, k18, k19, k20]
def interned : List (Array UInt16 × Addr) := []
def slotsUsed : Nat := 14
def theMethod : MethodId := ⟨1, 3⟩
def args0 : Array Value := #[.int 3, .int 6, .int 7, .int 8]
def aboutOver (below : List Frame) : State where
  vm := { classes := classes, interned := interned.toArray }
  heap := heap
  slotsUsed := slotsUsed
  threads := #[{ frames := .invoking theMethod args0 :: below }]
def below0 : List Frame := [.native { method := ⟨0, 0⟩, args := #[] }]
def about1 : State := aboutOver below0
def p0 : Program := .bare "" "" ""
def e0 : Env := launch0.env 0 0 0
theorem w_frames : about1.frames = Frame.invoking theMethod args0 :: below0 := rfl
set_option maxRecDepth 65536 in
theorem w_args : argsFit about1.vm theMethod args0 = true := by decide +kernel
set_option maxRecDepth 65536 in
theorem w_heap : heapFits about1 = true := by decide +kernel
set_option maxRecDepth 65536 in
theorem w_runnable : about1.curStatus? = some .runnable := by decide +kernel
set_option maxRecDepth 65536 in
theorem w_alone : about1.alone = true := by decide +kernel
set_option maxRecDepth 65536 in
theorem w_named : about1.methodNamed? x = some theMethod := by decide +kernel
set_option maxRecDepth 65536 in
theorem w_hears : about1.hears theMethod below0 = true := by decide +kernel
set_option maxRecDepth 65536 in
theorem w_ripe : about1.ripe theMethod args0 below0 = true := by decide +kernel
theorem w_running : about1.status = .running := rfl
set_option maxRecDepth 65536 in
theorem w_room : about1.hasRoom e0.platform room_1 = true :=
  launch0.hasRoom_least _ room_1 (by decide +kernel) (by decide +kernel) (by decide +kernel) (by decide +kernel) (by decide +kernel) (by decide +kernel)
theorem allAtoms_all (ts : List Jvm.Cond) (a : Array Jvm.Value) (st : Jvm.State) : (allAtoms ts).before a st = ts.all (fun c => c.before a st) := by
  induction ts with
  | nil => rfl
  | cons c t ih =>
    show (Jvm.Cond.and c (allAtoms t)).before a st = _
    rw [Jvm.Cond.before_and, ih, List.all_cons]
def words1 : List Jvm.Cond := Jvm.Cond.code x code maxLocals ret :: tables_1
/-- a 'code' word, met by the world's own term for the bytes: nothing is compared byte by byte -/
theorem code_word {y : MethodName} {bytes : ByteArray} {mx : Nat} {rt : Option FieldType} {a : Array Value} {s : State} {m : MethodId} {meth : Method} {c : Code} (h1 : s.methodNamed? y = some m) (h2 : s.vm.method? m = some meth) (h3 : meth.code = some c) (h4 : c.code = bytes)
    (h5 : (c.maxLocals == mx && c.exceptionTable.isEmpty && decide (c.maxStack ≤ mostOperands) && decide (meth.sig.returnType = rt) && !meth.locks && decide (parseMethodDescriptor y.desc = some meth.sig)) = true) : (Jvm.Cond.code y bytes mx rt).before a s = true := by
  simp only [Bool.and_eq_true, beq_iff_eq, Bool.not_eq_true', decide_eq_true_eq] at h5
  obtain ⟨⟨⟨⟨⟨g1, g2⟩, g3⟩, g4⟩, g5⟩, g6⟩ := h5
  simp [Cond.before, Cond.holds, Cond.value, h1, h2, h3, h4, g1, g2, g3, g4, g5, g6]
def isCode : Jvm.Cond → Bool
  | .code _ _ _ _ => true
  | _ => false
theorem all_split {L : List Jvm.Cond} {P : Jvm.Cond → Bool} (h1 : L.all (fun c => isCode c || P c) = true) (h2 : ∀ c ∈ L.filter isCode, P c = true) : L.all P = true := by
  refine List.all_eq_true.mpr fun c hc => ?_
  have h := List.all_eq_true.mp h1 c hc
  rcases Bool.eq_false_or_eq_true (isCode c) with hi | hi
  · exact h2 c (List.mem_filter.mpr ⟨hc, hi⟩)
  · simpa [hi] using h
set_option maxRecDepth 65536 in
theorem w_c0 : (Jvm.Cond.code x code maxLocals ret).before args0 about1 = true := code_word (m := ⟨1, 3⟩) (meth := k1m3) (c := k1c3) (by decide +kernel) rfl rfl rfl (by decide +kernel)
set_option maxRecDepth 65536 in
theorem w_c1 : (Jvm.Cond.code ({ cls := "com/example/arrearwise/arrearwise/MailTextIsOneLinePinLaw", name := "ch", desc := "(I)C" } : Jvm.MethodName) method_2_code (2 : Nat) (Option.some Jvm.ClassFile.FieldType.char)).before args0 about1 = true := code_word (m := ⟨1, 1⟩) (meth := k1m1) (c := k1c1) (by decide +kernel) rfl rfl rfl (by decide +kernel)
set_option maxRecDepth 65536 in
theorem w_c2 : (Jvm.Cond.code ({ cls := "java/lang/String", name := "<init>", desc := "([C)V" } : Jvm.MethodName) jdk_42_method_3_code (2 : Nat) (Option.none : Option Jvm.ClassFile.FieldType)).before args0 about1 = true := code_word (m := ⟨7, 1⟩) (meth := k7m1) (c := k7c1) (by decide +kernel) rfl rfl rfl (by decide +kernel)
set_option maxRecDepth 65536 in
theorem w_c3 : (Jvm.Cond.code ({ cls := "java/lang/String", name := "<init>", desc := "([CIILjava/lang/Void;)V" } : Jvm.MethodName) jdk_42_method_149_code (6 : Nat) (Option.none : Option Jvm.ClassFile.FieldType)).before args0 about1 = true := code_word (m := ⟨7, 5⟩) (meth := k7m5) (c := k7c5) (by decide +kernel) rfl rfl rfl (by decide +kernel)
set_option maxRecDepth 65536 in
theorem w_c4 : (Jvm.Cond.code ({ cls := "java/lang/Object", name := "<init>", desc := "()V" } : Jvm.MethodName) object_method_1_code (1 : Nat) (Option.none : Option Jvm.ClassFile.FieldType)).before args0 about1 = true := code_word (m := ⟨0, 0⟩) (meth := k0m0) (c := k0c0) (by decide +kernel) rfl rfl rfl (by decide +kernel)
set_option maxRecDepth 65536 in
theorem w_c5 : (Jvm.Cond.code ({ cls := "com/example/arrearwise/arrearwise/MailText", name := "isOneLine", desc := "(Ljava/lang/String;)Z" } : Jvm.MethodName) prog_13_method_2_code (1 : Nat) (Option.some Jvm.ClassFile.FieldType.boolean)).before args0 about1 = true := code_word (m := ⟨8, 1⟩) (meth := k8m1) (c := k8c1) (by decide +kernel) rfl rfl rfl (by decide +kernel)
set_option maxRecDepth 65536 in
theorem w_c6 : (Jvm.Cond.code ({ cls := "java/lang/String", name := "indexOf", desc := "(I)I" } : Jvm.MethodName) jdk_42_method_79_code (2 : Nat) (Option.some Jvm.ClassFile.FieldType.int)).before args0 about1 = true := code_word (m := ⟨7, 3⟩) (meth := k7m3) (c := k7c3) (by decide +kernel) rfl rfl rfl (by decide +kernel)
set_option maxRecDepth 65536 in
theorem w_c7 : (Jvm.Cond.code ({ cls := "java/lang/String", name := "indexOf", desc := "(II)I" } : Jvm.MethodName) jdk_42_method_80_code (3 : Nat) (Option.some Jvm.ClassFile.FieldType.int)).before args0 about1 = true := code_word (m := ⟨7, 4⟩) (meth := k7m4) (c := k7c4) (by decide +kernel) rfl rfl rfl (by decide +kernel)
set_option maxRecDepth 65536 in
theorem w_c8 : (Jvm.Cond.code ({ cls := "java/lang/String", name := "isLatin1", desc := "()Z" } : Jvm.MethodName) jdk_42_method_154_code (1 : Nat) (Option.some Jvm.ClassFile.FieldType.boolean)).before args0 about1 = true := code_word (m := ⟨7, 7⟩) (meth := k7m7) (c := k7c7) (by decide +kernel) rfl rfl rfl (by decide +kernel)
set_option maxRecDepth 65536 in
theorem w_c9 : (Jvm.Cond.code ({ cls := "java/lang/String", name := "length", desc := "()I" } : Jvm.MethodName) jdk_42_method_54_code (1 : Nat) (Option.some Jvm.ClassFile.FieldType.int)).before args0 about1 = true := code_word (m := ⟨7, 2⟩) (meth := k7m2) (c := k7c2) (by decide +kernel) rfl rfl rfl (by decide +kernel)
set_option maxRecDepth 65536 in
theorem w_c10 : (Jvm.Cond.code ({ cls := "java/lang/String", name := "coder", desc := "()B" } : Jvm.MethodName) jdk_42_method_152_code (1 : Nat) (Option.some Jvm.ClassFile.FieldType.byte)).before args0 about1 = true := code_word (m := ⟨7, 6⟩) (meth := k7m6) (c := k7c6) (by decide +kernel) rfl rfl rfl (by decide +kernel)
set_option maxRecDepth 65536 in
theorem w_c11 : (Jvm.Cond.code ({ cls := "java/lang/StringLatin1", name := "indexOf", desc := "([BIII)I" } : Jvm.MethodName) jdk_43_method_22_code (4 : Nat) (Option.some Jvm.ClassFile.FieldType.int)).before args0 about1 = true := code_word (m := ⟨9, 2⟩) (meth := k9m2) (c := k9c2) (by decide +kernel) rfl rfl rfl (by decide +kernel)
set_option maxRecDepth 65536 in
theorem w_c12 : (Jvm.Cond.code ({ cls := "java/lang/StringLatin1", name := "canEncode", desc := "(I)Z" } : Jvm.MethodName) jdk_43_method_4_code (1 : Nat) (Option.some Jvm.ClassFile.FieldType.boolean)).before args0 about1 = true := code_word (m := ⟨9, 1⟩) (meth := k9m1) (c := k9c1) (by decide +kernel) rfl rfl rfl (by decide +kernel)
set_option maxRecDepth 65536 in
theorem w_c13 : (Jvm.Cond.code ({ cls := "java/lang/Math", name := "max", desc := "(II)I" } : Jvm.MethodName) jdk_29_method_65_code (2 : Nat) (Option.some Jvm.ClassFile.FieldType.int)).before args0 about1 = true := code_word (m := ⟨10, 1⟩) (meth := k10m1) (c := k10c1) (by decide +kernel) rfl rfl rfl (by decide +kernel)
set_option maxRecDepth 65536 in
theorem w_c14 : (Jvm.Cond.code ({ cls := "java/lang/Math", name := "min", desc := "(II)I" } : Jvm.MethodName) jdk_29_method_69_code (2 : Nat) (Option.some Jvm.ClassFile.FieldType.int)).before args0 about1 = true := code_word (m := ⟨10, 2⟩) (meth := k10m2) (c := k10c2) (by decide +kernel) rfl rfl rfl (by decide +kernel)
set_option maxRecDepth 65536 in
theorem w_c15 : (Jvm.Cond.code ({ cls := "java/lang/StringUTF16", name := "compress", desc := "([CII)[B" } : Jvm.MethodName) jdk_52_method_16_code (6 : Nat) (Option.some (Jvm.ClassFile.FieldType.array Jvm.ClassFile.FieldType.byte))).before args0 about1 = true := code_word (m := ⟨11, 8⟩) (meth := k11m8) (c := k11c8) (by decide +kernel) rfl rfl rfl (by decide +kernel)
set_option maxRecDepth 65536 in
theorem w_c16 : (Jvm.Cond.code ({ cls := "java/lang/StringUTF16", name := "compress", desc := "([CI[BII)I" } : Jvm.MethodName) jdk_52_method_21_code (7 : Nat) (Option.some Jvm.ClassFile.FieldType.int)).before args0 about1 = true := code_word (m := ⟨11, 9⟩) (meth := k11m9) (c := k11c9) (by decide +kernel) rfl rfl rfl (by decide +kernel)
set_option maxRecDepth 65536 in
theorem w_c17 : (Jvm.Cond.code ({ cls := "java/lang/StringUTF16", name := "coderFromArrayLen", desc := "([BI)B" } : Jvm.MethodName) jdk_52_method_15_code (2 : Nat) (Option.some Jvm.ClassFile.FieldType.byte)).before args0 about1 = true := code_word (m := ⟨11, 7⟩) (meth := k11m7) (c := k11c7) (by decide +kernel) rfl rfl rfl (by decide +kernel)
set_option maxRecDepth 65536 in
theorem w_c18 : (Jvm.Cond.code ({ cls := "com/example/arrearwise/arrearwise/MailTextIsOneLinePinLaw", name := "brk", desc := "(C)Z" } : Jvm.MethodName) method_3_code (1 : Nat) (Option.some Jvm.ClassFile.FieldType.boolean)).before args0 about1 = true := code_word (m := ⟨1, 2⟩) (meth := k1m2) (c := k1c2) (by decide +kernel) rfl rfl rfl (by decide +kernel)
set_option maxRecDepth 65536 in
theorem w_c19 : (Jvm.Cond.code ({ cls := "java/lang/StringLatin1", name := "indexOfChar", desc := "([BIII)I" } : Jvm.MethodName) jdk_43_method_23_code (6 : Nat) (Option.some Jvm.ClassFile.FieldType.int)).before args0 about1 = true := code_word (m := ⟨9, 3⟩) (meth := k9m3) (c := k9c3) (by decide +kernel) rfl rfl rfl (by decide +kernel)
set_option maxRecDepth 65536 in
theorem w_c20 : (Jvm.Cond.code ({ cls := "java/lang/StringUTF16", name := "toBytes", desc := "([CII)[B" } : Jvm.MethodName) jdk_52_method_14_code (5 : Nat) (Option.some (Jvm.ClassFile.FieldType.array Jvm.ClassFile.FieldType.byte))).before args0 about1 = true := code_word (m := ⟨11, 6⟩) (meth := k11m6) (c := k11c6) (by decide +kernel) rfl rfl rfl (by decide +kernel)
set_option maxRecDepth 65536 in
theorem w_c21 : (Jvm.Cond.code ({ cls := "java/lang/StringUTF16", name := "newBytesFor", desc := "(I)[B" } : Jvm.MethodName) jdk_52_method_2_code (1 : Nat) (Option.some (Jvm.ClassFile.FieldType.array Jvm.ClassFile.FieldType.byte))).before args0 about1 = true := code_word (m := ⟨11, 1⟩) (meth := k11m1) (c := k11c1) (by decide +kernel) rfl rfl rfl (by decide +kernel)
set_option maxRecDepth 65536 in
theorem w_c22 : (Jvm.Cond.code ({ cls := "java/lang/StringUTF16", name := "newBytesLength", desc := "(I)I" } : Jvm.MethodName) jdk_52_method_3_code (1 : Nat) (Option.some Jvm.ClassFile.FieldType.int)).before args0 about1 = true := code_word (m := ⟨11, 2⟩) (meth := k11m2) (c := k11c2) (by decide +kernel) rfl rfl rfl (by decide +kernel)
set_option maxRecDepth 65536 in
theorem w_c23 : (Jvm.Cond.code ({ cls := "java/lang/StringUTF16", name := "putChar", desc := "([BII)V" } : Jvm.MethodName) jdk_52_method_4_code (3 : Nat) (Option.none : Option Jvm.ClassFile.FieldType)).before args0 about1 = true := code_word (m := ⟨11, 3⟩) (meth := k11m3) (c := k11c3) (by decide +kernel) rfl rfl rfl (by decide +kernel)
set_option maxRecDepth 65536 in
theorem w_c24 : (Jvm.Cond.code ({ cls := "java/lang/StringUTF16", name := "getChar", desc := "([BI)C" } : Jvm.MethodName) jdk_52_method_5_code (2 : Nat) (Option.some Jvm.ClassFile.FieldType.char)).before args0 about1 = true := code_word (m := ⟨11, 4⟩) (meth := k11m4) (c := k11c4) (by decide +kernel) rfl rfl rfl (by decide +kernel)
set_option maxRecDepth 65536 in
theorem w_c25 : (Jvm.Cond.code ({ cls := "java/lang/StringUTF16", name := "indexOf", desc := "([BIII)I" } : Jvm.MethodName) jdk_52_method_40_code (4 : Nat) (Option.some Jvm.ClassFile.FieldType.int)).before args0 about1 = true := code_word (m := ⟨11, 10⟩) (meth := k11m10) (c := k11c10) (by decide +kernel) rfl rfl rfl (by decide +kernel)
set_option maxRecDepth 65536 in
theorem w_c26 : (Jvm.Cond.code ({ cls := "java/lang/StringUTF16", name := "indexOfChar", desc := "([BIII)I" } : Jvm.MethodName) jdk_52_method_47_code (4 : Nat) (Option.some Jvm.ClassFile.FieldType.int)).before args0 about1 = true := code_word (m := ⟨11, 11⟩) (meth := k11m11) (c := k11c11) (by decide +kernel) rfl rfl rfl (by decide +kernel)
set_option maxRecDepth 65536 in
theorem w_c27 : (Jvm.Cond.code ({ cls := "java/lang/StringUTF16", name := "checkBoundsBeginEnd", desc := "(II[B)V" } : Jvm.MethodName) jdk_52_method_93_code (3 : Nat) (Option.none : Option Jvm.ClassFile.FieldType)).before args0 about1 = true := code_word (m := ⟨11, 13⟩) (meth := k11m13) (c := k11c13) (by decide +kernel) rfl rfl rfl (by decide +kernel)
set_option maxRecDepth 65536 in
theorem w_c28 : (Jvm.Cond.code ({ cls := "java/lang/StringUTF16", name := "length", desc := "([B)I" } : Jvm.MethodName) jdk_52_method_6_code (1 : Nat) (Option.some Jvm.ClassFile.FieldType.int)).before args0 about1 = true := code_word (m := ⟨11, 5⟩) (meth := k11m5) (c := k11c5) (by decide +kernel) rfl rfl rfl (by decide +kernel)
set_option maxRecDepth 65536 in
theorem w_c29 : (Jvm.Cond.code ({ cls := "java/lang/String", name := "checkBoundsBeginEnd", desc := "(III)V" } : Jvm.MethodName) jdk_42_method_158_code (3 : Nat) (Option.none : Option Jvm.ClassFile.FieldType)).before args0 about1 = true := code_word (m := ⟨7, 8⟩) (meth := k7m8) (c := k7c8) (by decide +kernel) rfl rfl rfl (by decide +kernel)
set_option maxRecDepth 65536 in
theorem w_c30 : (Jvm.Cond.code ({ cls := "jdk/internal/util/Preconditions", name := "checkFromToIndex", desc := "(IIILjava/util/function/BiFunction;)I" } : Jvm.MethodName) jdk_41_method_12_code (4 : Nat) (Option.some Jvm.ClassFile.FieldType.int)).before args0 about1 = true := code_word (m := ⟨12, 1⟩) (meth := k12m1) (c := k12c1) (by decide +kernel) rfl rfl rfl (by decide +kernel)
set_option maxRecDepth 65536 in
theorem w_c31 : (Jvm.Cond.code ({ cls := "java/lang/StringUTF16", name := "indexOfCharUnsafe", desc := "([BIII)I" } : Jvm.MethodName) jdk_52_method_48_code (5 : Nat) (Option.some Jvm.ClassFile.FieldType.int)).before args0 about1 = true := code_word (m := ⟨11, 12⟩) (meth := k11m12) (c := k11c12) (by decide +kernel) rfl rfl rfl (by decide +kernel)
def codes1 : List Jvm.Cond := [Jvm.Cond.code x code maxLocals ret, Jvm.Cond.code ({ cls := "com/example/arrearwise/arrearwise/MailTextIsOneLinePinLaw", name := "ch", desc := "(I)C" } : Jvm.MethodName) method_2_code (2 : Nat) (Option.some Jvm.ClassFile.FieldType.char), Jvm.Cond.code ({ cls := "java/lang/String", name := "<init>", desc := "([C)V" } : Jvm.MethodName) jdk_42_method_3_code (2 : Nat) (Option.none : Option Jvm.ClassFile.FieldType), Jvm.Cond.code ({ cls := "java/lang/String", name := "<init>", desc := "([CIILjava/lang/Void;)V" } : Jvm.MethodName) jdk_42_method_149_code (6 : Nat) (Option.none : Option Jvm.ClassFile.FieldType), Jvm.Cond.code ({ cls := "java/lang/Object", name := "<init>", desc := "()V" } : Jvm.MethodName) object_method_1_code (1 : Nat) (Option.none : Option Jvm.ClassFile.FieldType), Jvm.Cond.code ({ cls := "com/example/arrearwise/arrearwise/MailText", name := "isOneLine", desc := "(Ljava/lang/String;)Z" } : Jvm.MethodName) prog_13_method_2_code (1 : Nat) (Option.some Jvm.ClassFile.FieldType.boolean), Jvm.Cond.code ({ cls := "java/lang/String", name := "indexOf", desc := "(I)I" } : Jvm.MethodName) jdk_42_method_79_code (2 : Nat) (Option.some Jvm.ClassFile.FieldType.int), Jvm.Cond.code ({ cls := "java/lang/String", name := "indexOf", desc := "(II)I" } : Jvm.MethodName) jdk_42_method_80_code (3 : Nat) (Option.some Jvm.ClassFile.FieldType.int), Jvm.Cond.code ({ cls := "java/lang/String", name := "isLatin1", desc := "()Z" } : Jvm.MethodName) jdk_42_method_154_code (1 : Nat) (Option.some Jvm.ClassFile.FieldType.boolean), Jvm.Cond.code ({ cls := "java/lang/String", name := "length", desc := "()I" } : Jvm.MethodName) jdk_42_method_54_code (1 : Nat) (Option.some Jvm.ClassFile.FieldType.int), Jvm.Cond.code ({ cls := "java/lang/String", name := "coder", desc := "()B" } : Jvm.MethodName) jdk_42_method_152_code (1 : Nat) (Option.some Jvm.ClassFile.FieldType.byte), Jvm.Cond.code ({ cls := "java/lang/StringLatin1", name := "indexOf", desc := "([BIII)I" } : Jvm.MethodName) jdk_43_method_22_code (4 : Nat) (Option.some Jvm.ClassFile.FieldType.int), Jvm.Cond.code ({ cls := "java/lang/StringLatin1", name := "canEncode", desc := "(I)Z" } : Jvm.MethodName) jdk_43_method_4_code (1 : Nat) (Option.some Jvm.ClassFile.FieldType.boolean), Jvm.Cond.code ({ cls := "java/lang/Math", name := "max", desc := "(II)I" } : Jvm.MethodName) jdk_29_method_65_code (2 : Nat) (Option.some Jvm.ClassFile.FieldType.int), Jvm.Cond.code ({ cls := "java/lang/Math", name := "min", desc := "(II)I" } : Jvm.MethodName) jdk_29_method_69_code (2 : Nat) (Option.some Jvm.ClassFile.FieldType.int), Jvm.Cond.code ({ cls := "java/lang/StringUTF16", name := "compress", desc := "([CII)[B" } : Jvm.MethodName) jdk_52_method_16_code (6 : Nat) (Option.some (Jvm.ClassFile.FieldType.array Jvm.ClassFile.FieldType.byte)), Jvm.Cond.code ({ cls := "java/lang/StringUTF16", name := "compress", desc := "([CI[BII)I" } : Jvm.MethodName) jdk_52_method_21_code (7 : Nat) (Option.some Jvm.ClassFile.FieldType.int), Jvm.Cond.code ({ cls := "java/lang/StringUTF16", name := "coderFromArrayLen", desc := "([BI)B" } : Jvm.MethodName) jdk_52_method_15_code (2 : Nat) (Option.some Jvm.ClassFile.FieldType.byte), Jvm.Cond.code ({ cls := "com/example/arrearwise/arrearwise/MailTextIsOneLinePinLaw", name := "brk", desc := "(C)Z" } : Jvm.MethodName) method_3_code (1 : Nat) (Option.some Jvm.ClassFile.FieldType.boolean), Jvm.Cond.code ({ cls := "java/lang/StringLatin1", name := "indexOfChar", desc := "([BIII)I" } : Jvm.MethodName) jdk_43_method_23_code (6 : Nat) (Option.some Jvm.ClassFile.FieldType.int), Jvm.Cond.code ({ cls := "java/lang/StringUTF16", name := "toBytes", desc := "([CII)[B" } : Jvm.MethodName) jdk_52_method_14_code (5 : Nat) (Option.some (Jvm.ClassFile.FieldType.array Jvm.ClassFile.FieldType.byte)), Jvm.Cond.code ({ cls := "java/lang/StringUTF16", name := "newBytesFor", desc := "(I)[B" } : Jvm.MethodName) jdk_52_method_2_code (1 : Nat) (Option.some (Jvm.ClassFile.FieldType.array Jvm.ClassFile.FieldType.byte)), Jvm.Cond.code ({ cls := "java/lang/StringUTF16", name := "newBytesLength", desc := "(I)I" } : Jvm.MethodName) jdk_52_method_3_code (1 : Nat) (Option.some Jvm.ClassFile.FieldType.int), Jvm.Cond.code ({ cls := "java/lang/StringUTF16", name := "putChar", desc := "([BII)V" } : Jvm.MethodName) jdk_52_method_4_code (3 : Nat) (Option.none : Option Jvm.ClassFile.FieldType), Jvm.Cond.code ({ cls := "java/lang/StringUTF16", name := "getChar", desc := "([BI)C" } : Jvm.MethodName) jdk_52_method_5_code (2 : Nat) (Option.some Jvm.ClassFile.FieldType.char), Jvm.Cond.code ({ cls := "java/lang/StringUTF16", name := "indexOf", desc := "([BIII)I" } : Jvm.MethodName) jdk_52_method_40_code (4 : Nat) (Option.some Jvm.ClassFile.FieldType.int), Jvm.Cond.code ({ cls := "java/lang/StringUTF16", name := "indexOfChar", desc := "([BIII)I" } : Jvm.MethodName) jdk_52_method_47_code (4 : Nat) (Option.some Jvm.ClassFile.FieldType.int), Jvm.Cond.code ({ cls := "java/lang/StringUTF16", name := "checkBoundsBeginEnd", desc := "(II[B)V" } : Jvm.MethodName) jdk_52_method_93_code (3 : Nat) (Option.none : Option Jvm.ClassFile.FieldType), Jvm.Cond.code ({ cls := "java/lang/StringUTF16", name := "length", desc := "([B)I" } : Jvm.MethodName) jdk_52_method_6_code (1 : Nat) (Option.some Jvm.ClassFile.FieldType.int), Jvm.Cond.code ({ cls := "java/lang/String", name := "checkBoundsBeginEnd", desc := "(III)V" } : Jvm.MethodName) jdk_42_method_158_code (3 : Nat) (Option.none : Option Jvm.ClassFile.FieldType), Jvm.Cond.code ({ cls := "jdk/internal/util/Preconditions", name := "checkFromToIndex", desc := "(IIILjava/util/function/BiFunction;)I" } : Jvm.MethodName) jdk_41_method_12_code (4 : Nat) (Option.some Jvm.ClassFile.FieldType.int), Jvm.Cond.code ({ cls := "java/lang/StringUTF16", name := "indexOfCharUnsafe", desc := "([BIII)I" } : Jvm.MethodName) jdk_52_method_48_code (5 : Nat) (Option.some Jvm.ClassFile.FieldType.int)]
set_option maxRecDepth 65536 in
theorem codes_eq : words1.filter isCode = codes1 := rfl
theorem w_codes : ∀ c ∈ words1.filter isCode, c.before args0 about1 = true := by
  rw [codes_eq]
  intro c hc
  simp only [codes1, List.mem_cons, List.not_mem_nil, or_false] at hc
  rcases hc with rfl | rfl | rfl | rfl | rfl | rfl | rfl | rfl | rfl | rfl | rfl | rfl | rfl | rfl | rfl | rfl | rfl | rfl | rfl | rfl | rfl | rfl | rfl | rfl | rfl | rfl | rfl | rfl | rfl | rfl | rfl | rfl
  · exact w_c0
  · exact w_c1
  · exact w_c2
  · exact w_c3
  · exact w_c4
  · exact w_c5
  · exact w_c6
  · exact w_c7
  · exact w_c8
  · exact w_c9
  · exact w_c10
  · exact w_c11
  · exact w_c12
  · exact w_c13
  · exact w_c14
  · exact w_c15
  · exact w_c16
  · exact w_c17
  · exact w_c18
  · exact w_c19
  · exact w_c20
  · exact w_c21
  · exact w_c22
  · exact w_c23
  · exact w_c24
  · exact w_c25
  · exact w_c26
  · exact w_c27
  · exact w_c28
  · exact w_c29
  · exact w_c30
  · exact w_c31
set_option maxRecDepth 65536 in
theorem w_t1 : (words1.take 24).all (fun c => isCode c || c.before args0 about1) = true := by decide +kernel
set_option maxRecDepth 65536 in
theorem w_t2 : ((words1.drop 24).take 24).all (fun c => isCode c || c.before args0 about1) = true := by decide +kernel
set_option maxRecDepth 65536 in
theorem w_t3 : (((words1.drop 24).drop 24).take 24).all (fun c => isCode c || c.before args0 about1) = true := by decide +kernel
set_option maxRecDepth 65536 in
theorem w_t4 : ((((words1.drop 24).drop 24).drop 24).take 24).all (fun c => isCode c || c.before args0 about1) = true := by decide +kernel
set_option maxRecDepth 65536 in
theorem w_t5 : (((((words1.drop 24).drop 24).drop 24).drop 24).take 24).all (fun c => isCode c || c.before args0 about1) = true := by decide +kernel
set_option maxRecDepth 65536 in
theorem w_t6 : (((((words1.drop 24).drop 24).drop 24).drop 24).drop 24).all (fun c => isCode c || c.before args0 about1) = true := by decide +kernel
theorem w_tables : (allAtoms (Jvm.Cond.code x code maxLocals ret :: tables_1)).before args0 about1 = true := by
  rw [allAtoms_all]
  show words1.all (fun c => c.before args0 about1) = true
  refine all_split ?_ w_codes
  rw [← List.take_append_drop 24 words1, List.all_append, w_t1, ← List.take_append_drop 24 (words1.drop 24), List.all_append, w_t2, ← List.take_append_drop 24 ((words1.drop 24).drop 24), List.all_append, w_t3, ← List.take_append_drop 24 (((words1.drop 24).drop 24).drop 24), List.all_append, w_t4, ← List.take_append_drop 24 ((((words1.drop 24).drop 24).drop 24).drop 24), List.all_append, w_t5, w_t6]
  rfl
set_option maxRecDepth 65536 in
theorem w_rest : rest_1_c.before args0 about1 = true := by decide +kernel
set_option maxRecDepth 65536 in
theorem w_case : (Jvm.Cond.and given_1 narrow_1).before args0 about1 = true := by decide +kernel
set_option maxRecDepth 65536 in
theorem w_consts : constsHeld consts_1 about1 := Jvm.Lit.constsHeldB_iff.mp (by decide +kernel)
theorem w_applies : (headSpec (Jvm.Cond.code x code maxLocals ret :: tables_1) room_1).applies x e0.platform about1 = true :=
  (Spec.applies_iff w_frames).mpr ⟨w_running, w_runnable, w_alone, w_named, w_hears, w_ripe, w_room, w_tables⟩
theorem atStart : AtStart classFile x code maxLocals ret World_1 tables_1 room_1 Calls_1 rest_1 Pre_1 launch0 p0 e0 about1 theMethod args0 below0 :=
  ⟨lists_1, trivial, launch0.admits_env _ _ _, launch0.least_env, fairChoices_fair.cas, fairChoices_fair.clock, w_frames, w_args, w_heap, w_applies, ⟨w_consts, trivial⟩, w_rest, w_case⟩
end start1
theorem witness_1 : WitnessClaimed_1 := ⟨start1.p0, start1.e0, start1.about1, start1.theMethod, start1.args0, start1.below0, start1.atStart⟩
end Jvm.Pilot.@@N@@
