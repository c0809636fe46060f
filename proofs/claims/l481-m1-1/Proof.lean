import JvmDerived
import JvmDerived.Pilot.@@N@@Statement
import JvmDerived.Pilot.@@N@@Code
set_option linter.unusedVariables false
set_option linter.unusedSimpArgs false
@@BLOCK:NumsL.lean.txt@@
namespace Jvm.RoadKit
open Sem ClassFile Op Lib Jvm.Stand Jvm.Free Jvm.LawKit
section New
variable {p : Program} {l : Launch} {e : Env} {R : Room} {s : State} {m : MethodId} {args : Array Value} {below : List Frame} {meth : Method} {c : Code} {T : State} {locs : List Loc} {cells slots : Nat}
theorem retI (X : Stand p l e R s m args below meth c T locs cells slots) (hx : p.tables.exec = Jvm.exec) {pc : Nat} {Ls : Array Slot} {z : Int32} {rest : List Value} (hret : meth.sig.returnType = some .int) (hd : decode c.code pc = .ok (.ireturn, 1)) {fs : List Frame}
    (hl : ∀ (f : JFrame) (acts : List Action), f.method = m → f.locked = none → f.entered = [] → (doReturn e (T.setTop f) acts (some (.int z))).1 = T.setFrames fs) : Steps p.tables e below (T.setTop (mkF m pc Ls (.int z :: rest))) (T.setFrames fs) := by
  have hm' : T.vm.method? m = some meth := X.method'
  have hn : narrow .int (.int z) = .int z := rfl
  show Steps p.tables e below (T.setTop { method := m, pc := pc, locals := Ls, stack := _ :: rest, locked := none }) _
  jvm_step X.here [X.here.top, hx, hd, hm', hret, hn]
  first | (intro acts; rw [hl _ acts rfl rfl rfl]) | rw [hl _ _ rfl rfl rfl]
  exact Steps.refl _

/-- from A the run ends, and R holds of the end -/
def own_Fin (tb : Tables) (e : Env) (below : List Frame) (R : State → Outcome → Prop) (A : State) : Prop := ∃ t o, Steps tb e below A t ∧ R t o
def own_R (s : State) (below : List Frame) (Q : Option Value → Heap → List Loc → Prop) (C S : Nat) (t : State) (o : Outcome) : Prop :=
  t.status = .running ∧ Ended t below o ∧ ∃ v L, o = .returned v ∧ Q v t.heap L ∧ FrameEnd s o t L C S
theorem own_pre {tb : Tables} {e : Env} {below : List Frame} {R : State → Outcome → Prop} {A A' : State} (h : ∀ t, Steps tb e below A' t → Steps tb e below A t) (k : own_Fin tb e below R A') : own_Fin tb e below R A := by
  obtain ⟨t, o, h1, h2⟩ := k; exact ⟨t, o, h t h1, h2⟩
theorem own_start {tb : Tables} {e : Env} {below : List Frame} {s T : State} {Q : Option Value → Heap → List Loc → Prop} {C S : Nat} {g g' : JFrame} (q : g = g') (k : own_Fin tb e below (own_R s below Q C S) (T.setTop g')) :
    ∃ s₂ o, Steps tb e below (T.setTop g) s₂ ∧ s₂.status = .running ∧ Ended s₂ below o ∧ ∃ v L, o = .returned v ∧ Q v s₂.heap L ∧ FrameEnd s o s₂ L C S := by
  subst q; exact k
theorem own_ret {Q : Option Value → Heap → List Loc → Prop} {C S : Nat} {A : State} {v : Option Value} (X : Stand p l e R s m args below meth c T locs cells slots) (hv : meth.sig.returnType = none → v = none) (hlocks : meth.locks = false) (hc : cells ≤ C) (hs : slots ≤ S) (hQ : Q v T.heap locs)
    (hstep : ∀ fs, (∀ (f : JFrame) (acts : List Action), f.method = m → f.locked = none → f.entered = [] → (doReturn e (T.setTop f) acts v).1 = T.setFrames fs) → Steps p.tables e below A (T.setFrames fs)) : own_Fin p.tables e below (own_R s below Q C S) A := by
  obtain ⟨fs, hr, hrun, hended, hW, hsame⟩ := X.leave hv hlocks
  exact ⟨_, _, hstep fs hr, hrun, hended, _, _, rfl, hQ, ⟨_, rfl⟩, hW, hsame.mono hc hs⟩
theorem own_ltN {a b : Nat} (h : a < b) : @LT.lt Nat instLTNat a b := h
theorem own_leN {a b : Nat} (h : a ≤ b) : @LE.le Nat instLENat a b := h
theorem own_neN {a b : Nat} (h : @LT.lt Nat instLTNat a b) : a ≠ b := Nat.ne_of_lt h
theorem own_neN' {a b : Nat} (h : @LT.lt Nat instLTNat b a) : a ≠ b := Nat.ne_of_gt h
theorem own_selp {y : MethodName} {s : State} {args : Array Value} {n : Nat} (hy : y.cls ≠ "java/lang/invoke/MethodHandle" ∧ y.cls ≠ "java/lang/invoke/VarHandle")
    (hins : (Cond.instantiable y.cls n).before args s = true) (hpriv : (Cond.privateMethod y).before args s = true) (hinst : (Cond.instanceMethod y).before args s = true) : (Cond.selects y.cls y y).before args s = true := by
  obtain ⟨c, k, hc, hk, -, hniab, -, -⟩ := Cond.instantiable_spec hins
  exact selects_self_of_private hc hk (Bool.or_eq_false_iff.mp hniab).1 (Cond.privateMethod_at hpriv) hinst hy
def own_QV (h0 : Heap) (n0 : Nat) (v : Option Value) (h : Heap) (L : List Loc) : Prop := v = none ∧ Fr n0 L ∧ h = h0
def own_QP (r : Value) (h0 : Heap) (n0 : Nat) (v : Option Value) (h : Heap) (L : List Loc) : Prop := v = some r ∧ Fr n0 L ∧ h = h0
def own_at (code : ByteArray) (pc : Nat) (i : Instr) (n pc' : Nat) : Prop := decode code pc = .ok (i, n) ∧ pc + n = pc'
section Steps1
variable {p : Program} {l : Launch} {e : Env} {R : Room} {s : State} {m : MethodId} {args : Array Value} {below : List Frame} {meth : Method} {c : Code} {T : State} {locs : List Loc} {cells slots : Nat} {code : ByteArray} {Rr : State → Outcome → Prop} {Ls : Array Slot} {st : List Value} {pc pc' : Nat}
theorem o_iloadN (X : Stand p l e R s m args below meth c T locs cells slots) (hx : p.tables.exec = Jvm.exec) (hby : c.code = code) {k : Fin 4} {v : Int32} (hd : own_at code pc (.iload_n k) 1 pc') (hl : Ls[k.val]? = some (.val (.int v)))
    (h : own_Fin p.tables e below Rr (T.setTop (mkF m pc' Ls (.int v :: st)))) : own_Fin p.tables e below Rr (T.setTop (mkF m pc Ls (st))) := by
  obtain ⟨hd, rfl⟩ := hd; subst hby
  exact own_pre (fun t k => XS.iloadN X.here hx rfl hd hl k) h
theorem o_iload (X : Stand p l e R s m args below meth c T locs cells slots) (hx : p.tables.exec = Jvm.exec) (hby : c.code = code) {k : Nat} {v : Int32} (hd : own_at code pc (.iload k) 2 pc') (hl : Ls[k]? = some (.val (.int v)))
    (h : own_Fin p.tables e below Rr (T.setTop (mkF m pc' Ls (.int v :: st)))) : own_Fin p.tables e below Rr (T.setTop (mkF m pc Ls (st))) := by
  obtain ⟨hd, rfl⟩ := hd; subst hby
  exact own_pre (fun t k => XS.iload X.here hx rfl hd hl k) h
theorem o_istoreN (X : Stand p l e R s m args below meth c T locs cells slots) (hx : p.tables.exec = Jvm.exec) (hby : c.code = code) {k : Fin 4} {v : Int32} {l' : Array Slot} (hd : own_at code pc (.istore_n k) 1 pc') (hl : storeLocals Ls k.val (.int v) = some l')
    (h : own_Fin p.tables e below Rr (T.setTop (mkF m pc' l' (st)))) : own_Fin p.tables e below Rr (T.setTop (mkF m pc Ls (.int v :: st))) := by
  obtain ⟨hd, rfl⟩ := hd; subst hby
  exact own_pre (fun t k => XS.istoreN X.here hx rfl hd rfl hl k) h
theorem o_istore (X : Stand p l e R s m args below meth c T locs cells slots) (hx : p.tables.exec = Jvm.exec) (hby : c.code = code) {k : Nat} {v : Int32} {l' : Array Slot} (hd : own_at code pc (.istore k) 2 pc') (hl : storeLocals Ls k (.int v) = some l')
    (h : own_Fin p.tables e below Rr (T.setTop (mkF m pc' l' (st)))) : own_Fin p.tables e below Rr (T.setTop (mkF m pc Ls (.int v :: st))) := by
  obtain ⟨hd, rfl⟩ := hd; subst hby
  exact own_pre (fun t k => XS.istore X.here hx rfl hd rfl hl k) h
theorem o_lloadN (X : Stand p l e R s m args below meth c T locs cells slots) (hx : p.tables.exec = Jvm.exec) (hby : c.code = code) {k : Fin 4} {v : Int64} (hd : own_at code pc (.lload_n k) 1 pc') (hl : Ls[k.val]? = some (.val (.long v)))
    (h : own_Fin p.tables e below Rr (T.setTop (mkF m pc' Ls (.long v :: st)))) : own_Fin p.tables e below Rr (T.setTop (mkF m pc Ls (st))) := by
  obtain ⟨hd, rfl⟩ := hd; subst hby
  exact own_pre (fun t k => XS.lloadN X.here hx rfl hd hl k) h
theorem o_lload (X : Stand p l e R s m args below meth c T locs cells slots) (hx : p.tables.exec = Jvm.exec) (hby : c.code = code) {k : Nat} {v : Int64} (hd : own_at code pc (.lload k) 2 pc') (hl : Ls[k]? = some (.val (.long v)))
    (h : own_Fin p.tables e below Rr (T.setTop (mkF m pc' Ls (.long v :: st)))) : own_Fin p.tables e below Rr (T.setTop (mkF m pc Ls (st))) := by
  obtain ⟨hd, rfl⟩ := hd; subst hby
  exact own_pre (fun t k => XS.lload X.here hx rfl hd hl k) h
theorem o_lstoreN (X : Stand p l e R s m args below meth c T locs cells slots) (hx : p.tables.exec = Jvm.exec) (hby : c.code = code) {k : Fin 4} {v : Int64} {l' : Array Slot} (hd : own_at code pc (.lstore_n k) 1 pc') (hl : storeLocals Ls k.val (.long v) = some l')
    (h : own_Fin p.tables e below Rr (T.setTop (mkF m pc' l' (st)))) : own_Fin p.tables e below Rr (T.setTop (mkF m pc Ls (.long v :: st))) := by
  obtain ⟨hd, rfl⟩ := hd; subst hby
  exact own_pre (fun t k => XS.lstoreN X.here hx rfl hd rfl hl k) h
theorem o_lstore (X : Stand p l e R s m args below meth c T locs cells slots) (hx : p.tables.exec = Jvm.exec) (hby : c.code = code) {k : Nat} {v : Int64} {l' : Array Slot} (hd : own_at code pc (.lstore k) 2 pc') (hl : storeLocals Ls k (.long v) = some l')
    (h : own_Fin p.tables e below Rr (T.setTop (mkF m pc' l' (st)))) : own_Fin p.tables e below Rr (T.setTop (mkF m pc Ls (.long v :: st))) := by
  obtain ⟨hd, rfl⟩ := hd; subst hby
  exact own_pre (fun t k => XS.lstore X.here hx rfl hd rfl hl k) h
theorem o_aloadN (X : Stand p l e R s m args below meth c T locs cells slots) (hx : p.tables.exec = Jvm.exec) (hby : c.code = code) {k : Fin 4} {v : Value} (hd : own_at code pc (.aload_n k) 1 pc') (hl : Ls[k.val]? = some (.val v)) (hv : v.isRef = true)
    (h : own_Fin p.tables e below Rr (T.setTop (mkF m pc' Ls (v :: st)))) : own_Fin p.tables e below Rr (T.setTop (mkF m pc Ls (st))) := by
  obtain ⟨hd, rfl⟩ := hd; subst hby
  exact own_pre (fun t k => XS.aloadN X.here hx rfl hd hl hv k) h
theorem o_aload (X : Stand p l e R s m args below meth c T locs cells slots) (hx : p.tables.exec = Jvm.exec) (hby : c.code = code) {k : Nat} {v : Value} (hd : own_at code pc (.aload k) 2 pc') (hl : Ls[k]? = some (.val v)) (hv : v.isRef = true)
    (h : own_Fin p.tables e below Rr (T.setTop (mkF m pc' Ls (v :: st)))) : own_Fin p.tables e below Rr (T.setTop (mkF m pc Ls (st))) := by
  obtain ⟨hd, rfl⟩ := hd; subst hby
  exact own_pre (fun t k => XS.aload X.here hx rfl hd hl hv k) h
theorem o_astoreN (X : Stand p l e R s m args below meth c T locs cells slots) (hx : p.tables.exec = Jvm.exec) (hby : c.code = code) {k : Fin 4} {v : Value} {l' : Array Slot} (hd : own_at code pc (.astore_n k) 1 pc') (hv : v.isRef = true) (hl : storeLocals Ls k.val v = some l')
    (h : own_Fin p.tables e below Rr (T.setTop (mkF m pc' l' (st)))) : own_Fin p.tables e below Rr (T.setTop (mkF m pc Ls (v :: st))) := by
  obtain ⟨hd, rfl⟩ := hd; subst hby
  exact own_pre (fun t k => XS.astoreN X.here hx rfl hd rfl hv hl k) h
theorem o_astore (X : Stand p l e R s m args below meth c T locs cells slots) (hx : p.tables.exec = Jvm.exec) (hby : c.code = code) {k : Nat} {v : Value} {l' : Array Slot} (hd : own_at code pc (.astore k) 2 pc') (hv : v.isRef = true) (hl : storeLocals Ls k v = some l')
    (h : own_Fin p.tables e below Rr (T.setTop (mkF m pc' l' (st)))) : own_Fin p.tables e below Rr (T.setTop (mkF m pc Ls (v :: st))) := by
  obtain ⟨hd, rfl⟩ := hd; subst hby
  exact own_pre (fun t k => XS.astore X.here hx rfl hd rfl hv hl k) h
theorem o_iconst (X : Stand p l e R s m args below meth c T locs cells slots) (hx : p.tables.exec = Jvm.exec) (hby : c.code = code) {i : Int} {v : Int32} (hd : own_at code pc (.iconst i) 1 pc') (hv : Int32.ofInt i = v)
    (h : own_Fin p.tables e below Rr (T.setTop (mkF m pc' Ls (.int v :: st)))) : own_Fin p.tables e below Rr (T.setTop (mkF m pc Ls (st))) := by
  obtain ⟨hd, rfl⟩ := hd; subst hby
  exact own_pre (fun t k => by subst hv; exact XS.iconst X.here hx rfl hd k) h
theorem o_bipush (X : Stand p l e R s m args below meth c T locs cells slots) (hx : p.tables.exec = Jvm.exec) (hby : c.code = code) {i : Int} {v : Int32} (hd : own_at code pc (.bipush i) 2 pc') (hv : (Int8.ofInt i).toInt32 = v)
    (h : own_Fin p.tables e below Rr (T.setTop (mkF m pc' Ls (.int v :: st)))) : own_Fin p.tables e below Rr (T.setTop (mkF m pc Ls (st))) := by
  obtain ⟨hd, rfl⟩ := hd; subst hby
  exact own_pre (fun t k => by subst hv; exact XS.bipush X.here hx rfl hd k) h
theorem o_sipush (X : Stand p l e R s m args below meth c T locs cells slots) (hx : p.tables.exec = Jvm.exec) (hby : c.code = code) {i : Int} {v : Int32} (hd : own_at code pc (.sipush i) 3 pc') (hv : (Int16.ofInt i).toInt32 = v)
    (h : own_Fin p.tables e below Rr (T.setTop (mkF m pc' Ls (.int v :: st)))) : own_Fin p.tables e below Rr (T.setTop (mkF m pc Ls (st))) := by
  obtain ⟨hd, rfl⟩ := hd; subst hby
  exact own_pre (fun t k => by subst hv; exact XS.sipush X.here hx rfl hd k) h
theorem o_lconst (X : Stand p l e R s m args below meth c T locs cells slots) (hx : p.tables.exec = Jvm.exec) (hby : c.code = code) {i : Fin 2} {v : Int64} (hd : own_at code pc (.lconst i) 1 pc') (hv : Int64.ofNat i = v)
    (h : own_Fin p.tables e below Rr (T.setTop (mkF m pc' Ls (.long v :: st)))) : own_Fin p.tables e below Rr (T.setTop (mkF m pc Ls (st))) := by
  obtain ⟨hd, rfl⟩ := hd; subst hby
  exact own_pre (fun t k => by subst hv; exact XS.lconst X.here hx rfl hd k) h
theorem o_anull (X : Stand p l e R s m args below meth c T locs cells slots) (hx : p.tables.exec = Jvm.exec) (hby : c.code = code)  (hd : own_at code pc (.aconst_null) 1 pc') 
    (h : own_Fin p.tables e below Rr (T.setTop (mkF m pc' Ls (.null :: st)))) : own_Fin p.tables e below Rr (T.setTop (mkF m pc Ls (st))) := by
  obtain ⟨hd, rfl⟩ := hd; subst hby
  exact own_pre (fun t k => XS.aconstNull X.here hx rfl hd k) h
theorem o_iadd (X : Stand p l e R s m args below meth c T locs cells slots) (hx : p.tables.exec = Jvm.exec) (hby : c.code = code) {x y : Int32} (hd : own_at code pc (.iadd) 1 pc') 
    (h : own_Fin p.tables e below Rr (T.setTop (mkF m pc' Ls (.int (x + y) :: st)))) : own_Fin p.tables e below Rr (T.setTop (mkF m pc Ls (.int y :: .int x :: st))) := by
  obtain ⟨hd, rfl⟩ := hd; subst hby
  exact own_pre (fun t k => XS.iadd X.here hx rfl hd rfl k) h
theorem o_ladd (X : Stand p l e R s m args below meth c T locs cells slots) (hx : p.tables.exec = Jvm.exec) (hby : c.code = code) {x y : Int64} (hd : own_at code pc (.ladd) 1 pc') 
    (h : own_Fin p.tables e below Rr (T.setTop (mkF m pc' Ls (.long (x + y) :: st)))) : own_Fin p.tables e below Rr (T.setTop (mkF m pc Ls (.long y :: .long x :: st))) := by
  obtain ⟨hd, rfl⟩ := hd; subst hby
  exact own_pre (fun t k => XS.ladd X.here hx rfl hd rfl k) h
theorem o_isub (X : Stand p l e R s m args below meth c T locs cells slots) (hx : p.tables.exec = Jvm.exec) (hby : c.code = code) {x y : Int32} (hd : own_at code pc (.isub) 1 pc') 
    (h : own_Fin p.tables e below Rr (T.setTop (mkF m pc' Ls (.int (x - y) :: st)))) : own_Fin p.tables e below Rr (T.setTop (mkF m pc Ls (.int y :: .int x :: st))) := by
  obtain ⟨hd, rfl⟩ := hd; subst hby
  exact own_pre (fun t k => XS.isub X.here hx rfl hd rfl k) h
theorem o_lsub (X : Stand p l e R s m args below meth c T locs cells slots) (hx : p.tables.exec = Jvm.exec) (hby : c.code = code) {x y : Int64} (hd : own_at code pc (.lsub) 1 pc') 
    (h : own_Fin p.tables e below Rr (T.setTop (mkF m pc' Ls (.long (x - y) :: st)))) : own_Fin p.tables e below Rr (T.setTop (mkF m pc Ls (.long y :: .long x :: st))) := by
  obtain ⟨hd, rfl⟩ := hd; subst hby
  exact own_pre (fun t k => XS.lsub X.here hx rfl hd rfl k) h
theorem o_imul (X : Stand p l e R s m args below meth c T locs cells slots) (hx : p.tables.exec = Jvm.exec) (hby : c.code = code) {x y : Int32} (hd : own_at code pc (.imul) 1 pc') 
    (h : own_Fin p.tables e below Rr (T.setTop (mkF m pc' Ls (.int (x * y) :: st)))) : own_Fin p.tables e below Rr (T.setTop (mkF m pc Ls (.int y :: .int x :: st))) := by
  obtain ⟨hd, rfl⟩ := hd; subst hby
  exact own_pre (fun t k => XS.imul X.here hx rfl hd rfl k) h
theorem o_lmul (X : Stand p l e R s m args below meth c T locs cells slots) (hx : p.tables.exec = Jvm.exec) (hby : c.code = code) {x y : Int64} (hd : own_at code pc (.lmul) 1 pc') 
    (h : own_Fin p.tables e below Rr (T.setTop (mkF m pc' Ls (.long (x * y) :: st)))) : own_Fin p.tables e below Rr (T.setTop (mkF m pc Ls (.long y :: .long x :: st))) := by
  obtain ⟨hd, rfl⟩ := hd; subst hby
  exact own_pre (fun t k => XS.lmul X.here hx rfl hd rfl k) h
theorem o_iand (X : Stand p l e R s m args below meth c T locs cells slots) (hx : p.tables.exec = Jvm.exec) (hby : c.code = code) {x y : Int32} (hd : own_at code pc (.iand) 1 pc') 
    (h : own_Fin p.tables e below Rr (T.setTop (mkF m pc' Ls (.int (x &&& y) :: st)))) : own_Fin p.tables e below Rr (T.setTop (mkF m pc Ls (.int y :: .int x :: st))) := by
  obtain ⟨hd, rfl⟩ := hd; subst hby
  exact own_pre (fun t k => XS.iand X.here hx rfl hd rfl k) h
theorem o_land (X : Stand p l e R s m args below meth c T locs cells slots) (hx : p.tables.exec = Jvm.exec) (hby : c.code = code) {x y : Int64} (hd : own_at code pc (.land) 1 pc') 
    (h : own_Fin p.tables e below Rr (T.setTop (mkF m pc' Ls (.long (x &&& y) :: st)))) : own_Fin p.tables e below Rr (T.setTop (mkF m pc Ls (.long y :: .long x :: st))) := by
  obtain ⟨hd, rfl⟩ := hd; subst hby
  exact own_pre (fun t k => XS.land X.here hx rfl hd rfl k) h
theorem o_ior (X : Stand p l e R s m args below meth c T locs cells slots) (hx : p.tables.exec = Jvm.exec) (hby : c.code = code) {x y : Int32} (hd : own_at code pc (.ior) 1 pc') 
    (h : own_Fin p.tables e below Rr (T.setTop (mkF m pc' Ls (.int (x ||| y) :: st)))) : own_Fin p.tables e below Rr (T.setTop (mkF m pc Ls (.int y :: .int x :: st))) := by
  obtain ⟨hd, rfl⟩ := hd; subst hby
  exact own_pre (fun t k => XS.ior X.here hx rfl hd rfl k) h
theorem o_lor (X : Stand p l e R s m args below meth c T locs cells slots) (hx : p.tables.exec = Jvm.exec) (hby : c.code = code) {x y : Int64} (hd : own_at code pc (.lor) 1 pc') 
    (h : own_Fin p.tables e below Rr (T.setTop (mkF m pc' Ls (.long (x ||| y) :: st)))) : own_Fin p.tables e below Rr (T.setTop (mkF m pc Ls (.long y :: .long x :: st))) := by
  obtain ⟨hd, rfl⟩ := hd; subst hby
  exact own_pre (fun t k => XS.lor X.here hx rfl hd rfl k) h
theorem o_ixor (X : Stand p l e R s m args below meth c T locs cells slots) (hx : p.tables.exec = Jvm.exec) (hby : c.code = code) {x y : Int32} (hd : own_at code pc (.ixor) 1 pc') 
    (h : own_Fin p.tables e below Rr (T.setTop (mkF m pc' Ls (.int (x ^^^ y) :: st)))) : own_Fin p.tables e below Rr (T.setTop (mkF m pc Ls (.int y :: .int x :: st))) := by
  obtain ⟨hd, rfl⟩ := hd; subst hby
  exact own_pre (fun t k => XS.ixor X.here hx rfl hd rfl k) h
theorem o_lxor (X : Stand p l e R s m args below meth c T locs cells slots) (hx : p.tables.exec = Jvm.exec) (hby : c.code = code) {x y : Int64} (hd : own_at code pc (.lxor) 1 pc') 
    (h : own_Fin p.tables e below Rr (T.setTop (mkF m pc' Ls (.long (x ^^^ y) :: st)))) : own_Fin p.tables e below Rr (T.setTop (mkF m pc Ls (.long y :: .long x :: st))) := by
  obtain ⟨hd, rfl⟩ := hd; subst hby
  exact own_pre (fun t k => XS.lxor X.here hx rfl hd rfl k) h
theorem o_ishl (X : Stand p l e R s m args below meth c T locs cells slots) (hx : p.tables.exec = Jvm.exec) (hby : c.code = code) {x y : Int32} (hd : own_at code pc (.ishl) 1 pc') 
    (h : own_Fin p.tables e below Rr (T.setTop (mkF m pc' Ls (.int (x <<< (y &&& 31)) :: st)))) : own_Fin p.tables e below Rr (T.setTop (mkF m pc Ls (.int y :: .int x :: st))) := by
  obtain ⟨hd, rfl⟩ := hd; subst hby
  exact own_pre (fun t k => XS.ishl X.here hx rfl hd rfl k) h
theorem o_ishr (X : Stand p l e R s m args below meth c T locs cells slots) (hx : p.tables.exec = Jvm.exec) (hby : c.code = code) {x y : Int32} (hd : own_at code pc (.ishr) 1 pc') 
    (h : own_Fin p.tables e below Rr (T.setTop (mkF m pc' Ls (.int (x >>> (y &&& 31)) :: st)))) : own_Fin p.tables e below Rr (T.setTop (mkF m pc Ls (.int y :: .int x :: st))) := by
  obtain ⟨hd, rfl⟩ := hd; subst hby
  exact own_pre (fun t k => XS.ishr X.here hx rfl hd rfl k) h
theorem o_iushr (X : Stand p l e R s m args below meth c T locs cells slots) (hx : p.tables.exec = Jvm.exec) (hby : c.code = code) {x y : Int32} (hd : own_at code pc (.iushr) 1 pc') 
    (h : own_Fin p.tables e below Rr (T.setTop (mkF m pc' Ls (.int ((x.toUInt32 >>> (y &&& 31).toUInt32).toInt32) :: st)))) : own_Fin p.tables e below Rr (T.setTop (mkF m pc Ls (.int y :: .int x :: st))) := by
  obtain ⟨hd, rfl⟩ := hd; subst hby
  exact own_pre (fun t k => XS.iushr X.here hx rfl hd rfl k) h
theorem o_lshl (X : Stand p l e R s m args below meth c T locs cells slots) (hx : p.tables.exec = Jvm.exec) (hby : c.code = code) {x : Int64} {y : Int32} (hd : own_at code pc (.lshl) 1 pc') 
    (h : own_Fin p.tables e below Rr (T.setTop (mkF m pc' Ls (.long (x <<< (y &&& 0x3f).toInt64) :: st)))) : own_Fin p.tables e below Rr (T.setTop (mkF m pc Ls (.int y :: .long x :: st))) := by
  obtain ⟨hd, rfl⟩ := hd; subst hby
  exact own_pre (fun t k => XS.lshl X.here hx rfl hd rfl k) h
theorem o_lshr (X : Stand p l e R s m args below meth c T locs cells slots) (hx : p.tables.exec = Jvm.exec) (hby : c.code = code) {x : Int64} {y : Int32} (hd : own_at code pc (.lshr) 1 pc') 
    (h : own_Fin p.tables e below Rr (T.setTop (mkF m pc' Ls (.long (x >>> (y &&& 0x3f).toInt64) :: st)))) : own_Fin p.tables e below Rr (T.setTop (mkF m pc Ls (.int y :: .long x :: st))) := by
  obtain ⟨hd, rfl⟩ := hd; subst hby
  exact own_pre (fun t k => XS.lshr X.here hx rfl hd rfl k) h
theorem o_lushr (X : Stand p l e R s m args below meth c T locs cells slots) (hx : p.tables.exec = Jvm.exec) (hby : c.code = code) {x : Int64} {y : Int32} (hd : own_at code pc (.lushr) 1 pc') 
    (h : own_Fin p.tables e below Rr (T.setTop (mkF m pc' Ls (.long ((x.toUInt64 >>> (y &&& 0x3f).toInt64.toUInt64).toInt64) :: st)))) : own_Fin p.tables e below Rr (T.setTop (mkF m pc Ls (.int y :: .long x :: st))) := by
  obtain ⟨hd, rfl⟩ := hd; subst hby
  exact own_pre (fun t k => XS.lushr X.here hx rfl hd rfl k) h
theorem o_ineg (X : Stand p l e R s m args below meth c T locs cells slots) (hx : p.tables.exec = Jvm.exec) (hby : c.code = code) {x : Int32} (hd : own_at code pc (.ineg) 1 pc') 
    (h : own_Fin p.tables e below Rr (T.setTop (mkF m pc' Ls (.int (-x) :: st)))) : own_Fin p.tables e below Rr (T.setTop (mkF m pc Ls (.int x :: st))) := by
  obtain ⟨hd, rfl⟩ := hd; subst hby
  exact own_pre (fun t k => XS.ineg X.here hx rfl hd rfl k) h
theorem o_lneg (X : Stand p l e R s m args below meth c T locs cells slots) (hx : p.tables.exec = Jvm.exec) (hby : c.code = code) {x : Int64} (hd : own_at code pc (.lneg) 1 pc') 
    (h : own_Fin p.tables e below Rr (T.setTop (mkF m pc' Ls (.long (-x) :: st)))) : own_Fin p.tables e below Rr (T.setTop (mkF m pc Ls (.long x :: st))) := by
  obtain ⟨hd, rfl⟩ := hd; subst hby
  exact own_pre (fun t k => XS.lneg X.here hx rfl hd rfl k) h
theorem o_i2l (X : Stand p l e R s m args below meth c T locs cells slots) (hx : p.tables.exec = Jvm.exec) (hby : c.code = code) {x : Int32} (hd : own_at code pc (.i2l) 1 pc') 
    (h : own_Fin p.tables e below Rr (T.setTop (mkF m pc' Ls (.long (x.toInt64) :: st)))) : own_Fin p.tables e below Rr (T.setTop (mkF m pc Ls (.int x :: st))) := by
  obtain ⟨hd, rfl⟩ := hd; subst hby
  exact own_pre (fun t k => XS.i2l X.here hx rfl hd rfl k) h
theorem o_l2i (X : Stand p l e R s m args below meth c T locs cells slots) (hx : p.tables.exec = Jvm.exec) (hby : c.code = code) {x : Int64} (hd : own_at code pc (.l2i) 1 pc') 
    (h : own_Fin p.tables e below Rr (T.setTop (mkF m pc' Ls (.int (x.toInt32) :: st)))) : own_Fin p.tables e below Rr (T.setTop (mkF m pc Ls (.long x :: st))) := by
  obtain ⟨hd, rfl⟩ := hd; subst hby
  exact own_pre (fun t k => XS.l2i X.here hx rfl hd rfl k) h
theorem o_i2b (X : Stand p l e R s m args below meth c T locs cells slots) (hx : p.tables.exec = Jvm.exec) (hby : c.code = code) {x : Int32} (hd : own_at code pc (.i2b) 1 pc') 
    (h : own_Fin p.tables e below Rr (T.setTop (mkF m pc' Ls (.int (x.toInt8.toInt32) :: st)))) : own_Fin p.tables e below Rr (T.setTop (mkF m pc Ls (.int x :: st))) := by
  obtain ⟨hd, rfl⟩ := hd; subst hby
  exact own_pre (fun t k => XS.i2b X.here hx rfl hd rfl k) h
theorem o_i2s (X : Stand p l e R s m args below meth c T locs cells slots) (hx : p.tables.exec = Jvm.exec) (hby : c.code = code) {x : Int32} (hd : own_at code pc (.i2s) 1 pc') 
    (h : own_Fin p.tables e below Rr (T.setTop (mkF m pc' Ls (.int (x.toInt16.toInt32) :: st)))) : own_Fin p.tables e below Rr (T.setTop (mkF m pc Ls (.int x :: st))) := by
  obtain ⟨hd, rfl⟩ := hd; subst hby
  exact own_pre (fun t k => XS.i2s X.here hx rfl hd rfl k) h
theorem o_i2c (X : Stand p l e R s m args below meth c T locs cells slots) (hx : p.tables.exec = Jvm.exec) (hby : c.code = code) {x : Int32} (hd : own_at code pc (.i2c) 1 pc') 
    (h : own_Fin p.tables e below Rr (T.setTop (mkF m pc' Ls (.int (x.toUInt32.toUInt16.toUInt32.toInt32) :: st)))) : own_Fin p.tables e below Rr (T.setTop (mkF m pc Ls (.int x :: st))) := by
  obtain ⟨hd, rfl⟩ := hd; subst hby
  exact own_pre (fun t k => XS.i2c X.here hx rfl hd rfl k) h
theorem o_idiv (X : Stand p l e R s m args below meth c T locs cells slots) (hx : p.tables.exec = Jvm.exec) (hby : c.code = code) {x y : Int32} (hd : own_at code pc (.idiv) 1 pc') (hy : y ≠ 0)
    (h : own_Fin p.tables e below Rr (T.setTop (mkF m pc' Ls (.int (x / y) :: st)))) : own_Fin p.tables e below Rr (T.setTop (mkF m pc Ls (.int y :: .int x :: st))) := by
  obtain ⟨hd, rfl⟩ := hd; subst hby
  exact own_pre (fun t k => XS.idiv X.here hx rfl hd rfl hy k) h
theorem o_ldiv (X : Stand p l e R s m args below meth c T locs cells slots) (hx : p.tables.exec = Jvm.exec) (hby : c.code = code) {x y : Int64} (hd : own_at code pc (.ldiv) 1 pc') (hy : y ≠ 0)
    (h : own_Fin p.tables e below Rr (T.setTop (mkF m pc' Ls (.long (x / y) :: st)))) : own_Fin p.tables e below Rr (T.setTop (mkF m pc Ls (.long y :: .long x :: st))) := by
  obtain ⟨hd, rfl⟩ := hd; subst hby
  exact own_pre (fun t k => XS.ldiv X.here hx rfl hd rfl hy k) h
theorem o_irem (X : Stand p l e R s m args below meth c T locs cells slots) (hx : p.tables.exec = Jvm.exec) (hby : c.code = code) {x y : Int32} (hd : own_at code pc (.irem) 1 pc') (hy : y ≠ 0)
    (h : own_Fin p.tables e below Rr (T.setTop (mkF m pc' Ls (.int (x % y) :: st)))) : own_Fin p.tables e below Rr (T.setTop (mkF m pc Ls (.int y :: .int x :: st))) := by
  obtain ⟨hd, rfl⟩ := hd; subst hby
  exact own_pre (fun t k => iremM X hx rfl hd rfl hy k) h
theorem o_lcmp (X : Stand p l e R s m args below meth c T locs cells slots) (hx : p.tables.exec = Jvm.exec) (hby : c.code = code) {x y : Int64} (hd : own_at code pc (.lcmp) 1 pc') 
    (h : own_Fin p.tables e below Rr (T.setTop (mkF m pc' Ls (.int (lcmpW x y) :: st)))) : own_Fin p.tables e below Rr (T.setTop (mkF m pc Ls (.long y :: .long x :: st))) := by
  obtain ⟨hd, rfl⟩ := hd; subst hby
  exact own_pre (fun t k => XS.lcmp X.here hx rfl hd rfl k) h
theorem o_iinc (X : Stand p l e R s m args below meth c T locs cells slots) (hx : p.tables.exec = Jvm.exec) (hby : c.code = code) {k : Nat} {i : Int} {x : Int32} {l' : Array Slot} (hd : own_at code pc (.iinc k i) 3 pc') (hl : Ls[k]? = some (.val (.int x))) (hl' : storeLocals Ls k (.int (x + Int32.ofInt i)) = some l')
    (h : own_Fin p.tables e below Rr (T.setTop (mkF m pc' l' (st)))) : own_Fin p.tables e below Rr (T.setTop (mkF m pc Ls (st))) := by
  obtain ⟨hd, rfl⟩ := hd; subst hby
  exact own_pre (fun t k => XS.iinc X.here hx rfl hd hl hl' k) h
theorem o_dup (X : Stand p l e R s m args below meth c T locs cells slots) (hx : p.tables.exec = Jvm.exec) (hby : c.code = code) {v : Value} (hd : own_at code pc (.dup) 1 pc') (hv : v.category = 1)
    (h : own_Fin p.tables e below Rr (T.setTop (mkF m pc' Ls (v :: v :: st)))) : own_Fin p.tables e below Rr (T.setTop (mkF m pc Ls (v :: st))) := by
  obtain ⟨hd, rfl⟩ := hd; subst hby
  exact own_pre (fun t k => XS.dup X.here hx rfl hd rfl hv k) h
theorem o_pop (X : Stand p l e R s m args below meth c T locs cells slots) (hx : p.tables.exec = Jvm.exec) (hby : c.code = code) {v : Value} (hd : own_at code pc (.pop) 1 pc') (hv : v.category = 1)
    (h : own_Fin p.tables e below Rr (T.setTop (mkF m pc' Ls (st)))) : own_Fin p.tables e below Rr (T.setTop (mkF m pc Ls (v :: st))) := by
  obtain ⟨hd, rfl⟩ := hd; subst hby
  exact own_pre (fun t k => XS.pop X.here hx rfl hd rfl hv k) h
theorem o_dupX1 (X : Stand p l e R s m args below meth c T locs cells slots) (hx : p.tables.exec = Jvm.exec) (hby : c.code = code) {v w : Value} (hd : own_at code pc (.dup_x1) 1 pc') (hv : v.category = 1) (hw : w.category = 1)
    (h : own_Fin p.tables e below Rr (T.setTop (mkF m pc' Ls (v :: w :: v :: st)))) : own_Fin p.tables e below Rr (T.setTop (mkF m pc Ls (v :: w :: st))) := by
  obtain ⟨hd, rfl⟩ := hd; subst hby
  exact own_pre (fun t k => XS.dupX1 X.here hx rfl hd rfl hv hw k) h
theorem o_goto (X : Stand p l e R s m args below meth c T locs cells slots) (hx : p.tables.exec = Jvm.exec) (hby : c.code = code) {o : Int} {q : Nat} (hd : own_at code pc (.goto o) 3 pc') (ho : 0 ≤ (pc : Int) + o) (hp : ((pc : Int) + o).toNat = q)
    (h : own_Fin p.tables e below Rr (T.setTop (mkF m q Ls st))) : own_Fin p.tables e below Rr (T.setTop (mkF m pc Ls st)) := by
  obtain ⟨hd, rfl⟩ := hd; subst hby
  exact own_pre (fun t k => XS.goto X.here hx rfl (pc0 := pc) (pc' := q) rfl hd ho hp k) h
theorem o_ifY (X : Stand p l e R s m args below meth c T locs cells slots) (hx : p.tables.exec = Jvm.exec) (hby : c.code = code) {cd : ClassFile.Cond} {o : Int} {x : Int32} {q : Nat} (hd : own_at code pc (.ifCond cd o) 3 pc') (hc : ifCond.holds cd x = true) (ho : 0 ≤ (pc : Int) + o) (hp : ((pc : Int) + o).toNat = q)
    (h : own_Fin p.tables e below Rr (T.setTop (mkF m q Ls st))) : own_Fin p.tables e below Rr (T.setTop (mkF m pc Ls (.int x :: st))) := by
  obtain ⟨hd, rfl⟩ := hd; subst hby
  exact own_pre (fun t k => XS.ifYes X.here hx rfl (pc0 := pc) (pc' := q) rfl hd rfl hc ho hp k) h
theorem o_ifN (X : Stand p l e R s m args below meth c T locs cells slots) (hx : p.tables.exec = Jvm.exec) (hby : c.code = code) {cd : ClassFile.Cond} {o : Int} {x : Int32} (hd : own_at code pc (.ifCond cd o) 3 pc') (hc : ifCond.holds cd x = false)
    (h : own_Fin p.tables e below Rr (T.setTop (mkF m pc' Ls st))) : own_Fin p.tables e below Rr (T.setTop (mkF m pc Ls (.int x :: st))) := by
  obtain ⟨hd, rfl⟩ := hd; subst hby
  exact own_pre (fun t k => XS.ifNo X.here hx rfl hd rfl hc k) h
theorem o_icmpY (X : Stand p l e R s m args below meth c T locs cells slots) (hx : p.tables.exec = Jvm.exec) (hby : c.code = code) {cd : ClassFile.Cond} {o : Int} {x y : Int32} {q : Nat} (hd : own_at code pc (.if_icmp cd o) 3 pc') (hc : if_icmp.holds cd x y = true) (ho : 0 ≤ (pc : Int) + o) (hp : ((pc : Int) + o).toNat = q)
    (h : own_Fin p.tables e below Rr (T.setTop (mkF m q Ls st))) : own_Fin p.tables e below Rr (T.setTop (mkF m pc Ls (.int y :: .int x :: st))) := by
  obtain ⟨hd, rfl⟩ := hd; subst hby
  exact own_pre (fun t k => XS.icmpYes X.here hx rfl (pc0 := pc) (pc' := q) rfl hd rfl hc ho hp k) h
theorem o_icmpN (X : Stand p l e R s m args below meth c T locs cells slots) (hx : p.tables.exec = Jvm.exec) (hby : c.code = code) {cd : ClassFile.Cond} {o : Int} {x y : Int32} (hd : own_at code pc (.if_icmp cd o) 3 pc') (hc : if_icmp.holds cd x y = false)
    (h : own_Fin p.tables e below Rr (T.setTop (mkF m pc' Ls st))) : own_Fin p.tables e below Rr (T.setTop (mkF m pc Ls (.int y :: .int x :: st))) := by
  obtain ⟨hd, rfl⟩ := hd; subst hby
  exact own_pre (fun t k => XS.icmpNo X.here hx rfl hd rfl hc k) h
theorem o_ldc (X : Stand p l e R s m args below meth c T locs cells slots) (hx : p.tables.exec = Jvm.exec) (hby : c.code = code) {own : String} {index : Nat} {v : Int32} (hown : s.vm.findClass own = some m.cls) (hc : (Cond.constant own index v).before args s = true) (hd : own_at code pc (.ldc index) 2 pc')
    (h : own_Fin p.tables e below Rr (T.setTop (mkF m pc' Ls (.int v :: st)))) : own_Fin p.tables e below Rr (T.setTop (mkF m pc Ls st)) := by
  obtain ⟨hd, rfl⟩ := hd; subst hby
  exact own_pre (fun t k => X.ldcInt hx hown hc (g := mkF m pc Ls st) rfl hd t k) h
theorem o_ldc2 (X : Stand p l e R s m args below meth c T locs cells slots) (hx : p.tables.exec = Jvm.exec) (hby : c.code = code) {own : String} {index : Nat} {v : Int64} (hown : s.vm.findClass own = some m.cls) (hc : (Cond.constantLong own index v).before args s = true) (hd : own_at code pc (.ldc2_w index) 3 pc')
    (h : own_Fin p.tables e below Rr (T.setTop (mkF m pc' Ls (.long v :: st)))) : own_Fin p.tables e below Rr (T.setTop (mkF m pc Ls st)) := by
  obtain ⟨hd, rfl⟩ := hd; subst hby
  exact own_pre (fun t k => X.ldc2Long hx hown hc (g := mkF m pc Ls st) rfl hd t k) h
end Steps1

end New
end Jvm.RoadKit
namespace Jvm.Pilot.@@N@@
open Jvm Jvm.ClassFile Sem Op Lib Jvm.Free Jvm.Stand Jvm.LawKit Jvm.RoadKit Bundle Jvm.Pilot.@@N@@.Jvm.D
theorem own_wd {Z : State} {a0 : Array Value} (hw : ∀ d ∈ tables_1, d.before a0 Z = true) {i : Nat} {d : Jvm.Cond} (h : tables_1[i]? = some d) : d.before a0 Z = true := hw _ (List.mem_of_getElem? h)
def own_Q0 (n0 : Nat) (v : Option Value) (h : Heap) (L : List Loc) : Prop := v = some (.int 1) ∧ Fr n0 L

def own_Pr (n : Int32) : Prop := 2 ≤ n.toInt ∧ ∀ d : Nat, 2 ≤ d → d * d ≤ n.toInt.toNat → ¬ n.toInt.toNat % d = 0
def own_Is (n r : Int32) : Prop := (r = 1 ∧ own_Pr n) ∨ (r = 0 ∧ ¬ own_Pr n)
theorem own_is (n : Int32) : ∃ r, own_Is n r := by
  by_cases h : own_Pr n
  · exact ⟨1, Or.inl ⟨rfl, h⟩⟩
  · exact ⟨0, Or.inr ⟨rfl, h⟩⟩
theorem own_k2 : (2 : Int32).toInt = 2 := rfl
theorem own_k0 : (0 : Int32).toInt = 0 := rfl
theorem own_kM : (2147483647 : Int32).toInt = 2147483647 := rfl
theorem own_low {n r : Int32} (hr : own_Is n r) (h : n < (2 : Int32)) : r = 0 := by
  rcases hr with ⟨rfl, hp⟩ | ⟨rfl, -⟩
  · rw [Int32.lt_iff_toInt_lt, own_k2] at h; have := hp.1; omega
  · rfl
theorem own_tn {k : Nat} (h : k ≤ 46342) : (Int32.ofNat k).toInt = k := Int32.toInt_ofNat_of_lt (by omega)
theorem own_one (k : Nat) : Int32.ofNat k + (1 : Int32) = Int32.ofNat (k + 1) := (Int32.ofNat_add k 1).symm
theorem own_sq64 {k : Nat} (h : k ≤ 46341) : ((Int32.ofNat k).toInt64 * (Int32.ofNat k).toInt64).toInt = ((k * k : Nat) : Int) := by
  have e : (Int32.ofNat k).toInt64.toInt = (k : Int) := by rw [Jvm.Kit.i64_of_i32, own_tn (by omega)]
  have hb : k * k ≤ 46341 * 46341 := Nat.mul_le_mul h h
  have e2 : (Int32.ofNat k).toInt64.toInt * (Int32.ofNat k).toInt64.toInt = ((k * k : Nat) : Int) := by rw [e, Int.natCast_mul]
  rw [Jvm.Kit.i64_mul (by rw [e2]; omega) (by rw [e2]; omega), e2]
theorem own_ltsq {n : Int32} {k : Nat} (h : k ≤ 46341) : (n.toInt64 < (Int32.ofNat k).toInt64 * (Int32.ofNat k).toInt64) ↔ n.toInt < ((k * k : Nat) : Int) := by
  rw [Int64.lt_iff_toInt_lt, own_sq64 h, Jvm.Kit.i64_of_i32]
theorem own_nz {k : Nat} (h2 : 2 ≤ k) (h : k ≤ 46341) : ¬ (Int32.ofNat k = (0 : Int32)) := by
  rw [← Int32.toInt_inj, own_tn (by omega), own_k0]; omega
theorem own_remz {n : Int32} {k : Nat} (h0 : 0 ≤ n.toInt) (h : k ≤ 46341) : (n % Int32.ofNat k = (0 : Int32)) ↔ n.toInt.toNat % k = 0 := by
  have e : n.toInt = (n.toInt.toNat : Int) := by omega
  rw [← Int32.toInt_inj, Jvm.Kit.i32_rem_nonneg h0, own_tn (by omega), own_k0]
  generalize n.toInt.toNat = N at e
  rw [e, ← Int.natCast_emod]
  omega
theorem own_sqle {k : Nat} (h : k * k ≤ 2147483647) : k ≤ 46340 := by
  by_cases q : k ≤ 46340
  · exact q
  · have : 46341 * 46341 ≤ k * k := Nat.mul_le_mul (by omega) (by omega)
    omega
theorem own_yes {n r : Int32} {k : Nat} (hr : own_Is n r) (h2 : ¬ n < (2 : Int32)) (hk : k ≤ 46341) (hi : ∀ j : Nat, 2 ≤ j → j < k → ¬ n.toInt.toNat % j = 0) (hx : n.toInt64 < (Int32.ofNat k).toInt64 * (Int32.ofNat k).toInt64) : r = 1 := by
  rcases hr with ⟨rfl, -⟩ | ⟨rfl, hn⟩
  · rfl
  · rw [own_ltsq hk] at hx
    rw [Int32.lt_iff_toInt_lt, own_k2] at h2
    exact absurd ⟨by omega, fun d hd hq => hi d hd (by
      by_cases q : d < k
      · exact q
      · have : k * k ≤ d * d := Nat.mul_le_mul (by omega) (by omega)
        omega)⟩ hn
theorem own_no {n r : Int32} {k : Nat} (hr : own_Is n r) (h2 : ¬ n < (2 : Int32)) (hk2 : 2 ≤ k) (hk : k ≤ 46341) (hx : ¬ n.toInt64 < (Int32.ofNat k).toInt64 * (Int32.ofNat k).toInt64) (hz : n % Int32.ofNat k = (0 : Int32)) : r = 0 := by
  rcases hr with ⟨rfl, hp⟩ | ⟨rfl, -⟩
  · rw [own_ltsq hk] at hx
    have h0 := hp.1
    rw [own_remz (by omega) hk] at hz
    exact absurd hz (hp.2 k hk2 (by omega))
  · rfl
theorem own_up {n : Int32} {k : Nat} (hk : k ≤ 46341) (hx : ¬ n.toInt64 < (Int32.ofNat k).toInt64 * (Int32.ofNat k).toInt64) : k + 1 ≤ 46341 := by
  rw [own_ltsq hk] at hx
  have := n.toInt_lt
  have := own_sqle (k := k) (by omega)
  omega
theorem own_inv {n : Int32} {k : Nat} (h2 : ¬ n < (2 : Int32)) (hk : k ≤ 46341) (hi : ∀ j : Nat, 2 ≤ j → j < k → ¬ n.toInt.toNat % j = 0) (hz : ¬ n % Int32.ofNat k = (0 : Int32)) : ∀ j : Nat, 2 ≤ j → j < k + 1 → ¬ n.toInt.toNat % j = 0 := by
  intro j hj hl
  rw [Int32.lt_iff_toInt_lt, own_k2] at h2
  by_cases q : j < k
  · exact hi j hj q
  · obtain rfl : j = k := by omega
    rwa [own_remz (by omega) hk] at hz
theorem D1_0 : own_at prog_15_method_3_code 0 (.iload_n 0) 1 1 := ⟨by decide +kernel, rfl⟩
theorem D1_1 : own_at prog_15_method_3_code 1 (.iconst 2) 1 2 := ⟨by decide +kernel, rfl⟩
theorem D1_2 : own_at prog_15_method_3_code 2 (.if_icmp .ge 5) 3 5 := ⟨by decide +kernel, rfl⟩
theorem D1_5 : own_at prog_15_method_3_code 5 (.iconst 0) 1 6 := ⟨by decide +kernel, rfl⟩
theorem D1_6 : own_at prog_15_method_3_code 6 (.ireturn) 1 7 := ⟨by decide +kernel, rfl⟩
theorem D1_7 : own_at prog_15_method_3_code 7 (.iconst 2) 1 8 := ⟨by decide +kernel, rfl⟩
theorem D1_8 : own_at prog_15_method_3_code 8 (.istore_n 1) 1 9 := ⟨by decide +kernel, rfl⟩
theorem D1_9 : own_at prog_15_method_3_code 9 (.iload_n 1) 1 10 := ⟨by decide +kernel, rfl⟩
theorem D1_10 : own_at prog_15_method_3_code 10 (.i2l) 1 11 := ⟨by decide +kernel, rfl⟩
theorem D1_11 : own_at prog_15_method_3_code 11 (.iload_n 1) 1 12 := ⟨by decide +kernel, rfl⟩
theorem D1_12 : own_at prog_15_method_3_code 12 (.i2l) 1 13 := ⟨by decide +kernel, rfl⟩
theorem D1_13 : own_at prog_15_method_3_code 13 (.lmul) 1 14 := ⟨by decide +kernel, rfl⟩
theorem D1_14 : own_at prog_15_method_3_code 14 (.iload_n 0) 1 15 := ⟨by decide +kernel, rfl⟩
theorem D1_15 : own_at prog_15_method_3_code 15 (.i2l) 1 16 := ⟨by decide +kernel, rfl⟩
theorem D1_16 : own_at prog_15_method_3_code 16 (.lcmp) 1 17 := ⟨by decide +kernel, rfl⟩
theorem D1_17 : own_at prog_15_method_3_code 17 (.ifCond .gt 17) 3 20 := ⟨by decide +kernel, rfl⟩
theorem D1_20 : own_at prog_15_method_3_code 20 (.iload_n 0) 1 21 := ⟨by decide +kernel, rfl⟩
theorem D1_21 : own_at prog_15_method_3_code 21 (.iload_n 1) 1 22 := ⟨by decide +kernel, rfl⟩
theorem D1_22 : own_at prog_15_method_3_code 22 (.irem) 1 23 := ⟨by decide +kernel, rfl⟩
theorem D1_23 : own_at prog_15_method_3_code 23 (.ifCond .ne 5) 3 26 := ⟨by decide +kernel, rfl⟩
theorem D1_26 : own_at prog_15_method_3_code 26 (.iconst 0) 1 27 := ⟨by decide +kernel, rfl⟩
theorem D1_27 : own_at prog_15_method_3_code 27 (.ireturn) 1 28 := ⟨by decide +kernel, rfl⟩
theorem D1_28 : own_at prog_15_method_3_code 28 (.iinc 1 1) 3 31 := ⟨by decide +kernel, rfl⟩
theorem D1_31 : own_at prog_15_method_3_code 31 (.goto (-22)) 3 34 := ⟨by decide +kernel, rfl⟩
theorem D1_34 : own_at prog_15_method_3_code 34 (.iconst 1) 1 35 := ⟨by decide +kernel, rfl⟩
theorem D1_35 : own_at prog_15_method_3_code 35 (.ireturn) 1 36 := ⟨by decide +kernel, rfl⟩
theorem pn_com_example_placer_placer_Maglev : plainName "com/example/placer/placer/Maglev" = true := by first | (simp [plainName, overriddenIn]; done) | decide +kernel
theorem ef_rm1 (m : MethodId) (p0 : Int32) : entryFrame m #[(.int p0)] 2 = mkF m 0 #[.val (.int p0), .unset] [] := by first | (simp [entryFrame, mkF, argsToLocals, Value.category]; done) | rfl
set_option maxRecDepth 65536 in
set_option maxHeartbeats 40000000 in
theorem rm1 (l : Launch) (Z : State) (a0 : Array Value) (hw : ∀ d ∈ tables_1, d.before a0 Z = true) (ws : List Jvm.Cond) (p0 : Int32) (r : Int32) (h0 : Heap) (n0 : Nat) (Z0 : n0 ≤ h0.size) (hr : own_Is p0 r) :
    MetFree l (⟨"com/example/placer/placer/Maglev", "isPrime", "(I)Z"⟩ : MethodName) (head1 (Jvm.Cond.code (⟨"com/example/placer/placer/Maglev", "isPrime", "(I)Z"⟩ : MethodName) prog_15_method_3_code 2 (some .boolean) :: ws) ({ frames := 0, cells := 0, slots := 0, locals := 0 } : Room)) (fun a U => a = #[(.int p0)] ∧ Z.Warmed39 U.vm ∧ U.heap = h0) (fun _ _ _ _ _ => True) (fun _ U o U' => ∃ v L, o = .returned v ∧ own_QP (.int r) h0 n0 v U'.heap L ∧ FrameEnd U o U' L ({ frames := 0, cells := 0, slots := 0, locals := 0 } : Room).cells ({ frames := 0, cells := 0, slots := 0, locals := 0 } : Room).slots) := by
  refine MetFree.of_bodySF (plainFor_of_name pn_com_example_placer_placer_Maglev) hisR ?_
  intro p e s m args below meth c s₁ Bd hml0 hP hK
  obtain ⟨rfl, hZ, hh⟩ := hP
  have hx := Bd.exec
  have hby := Bd.bytes
  have hml : c.maxLocals = 2 := hml0
  have hown : s.vm.findClass "com/example/placer/placer/Maglev" = some m.cls := findClass_of_methodNamed Bd.named
  have hnm := (name_of_methodNamed Bd.named Bd.method).1
  have X0 : Stand p l e ({ frames := 0, cells := 0, slots := 0, locals := 0 } : Room) s m #[(.int p0)] below meth c s₁ [] 0 0 := Stand.of_body Bd
  have e0 : s₁.heap = h0 := by rw [← hh, Bd.state]; rfl
  have N0 := Fr.nil n0
  refine own_start (ef_rm1 m p0) ?_
  by_cases h2 : p0 < (2 : Int32)
  · skip
    refine o_iloadN X0 hx hby D1_0 rfl ?_
    refine o_iconst X0 hx hby D1_1 (v := 2) rfl ?_
    refine o_icmpN X0 hx hby D1_2 (tlt (h2 : p0 < (2 : Int32))).2.1 ?_
    refine o_iconst X0 hx hby D1_5 (v := 0) rfl ?_
    exact own_ret (v := some (.int (0 : Int32))) X0 (fun h => by first | rfl | (rw [Bd.returns] at h; cases h)) (BodyLoose.notSynchronized Bd) (by decide) (by decide) (⟨by rw [own_low hr h2], N0, e0⟩) (fun fs hr => retN X0 hx (t := .boolean) Bd.returns (by simp) (hb hby D1_6.1) hr)
  have loop : ∀ (f k : Nat), 2 ≤ k → k ≤ 46341 → k + f = 46342 → (∀ j : Nat, 2 ≤ j → j < k → ¬ p0.toInt.toNat % j = 0) → own_Fin p.tables e below (own_R s below (own_QP (.int r) h0 n0) ({ frames := 0, cells := 0, slots := 0, locals := 0 } : Room).cells ({ frames := 0, cells := 0, slots := 0, locals := 0 } : Room).slots) (s₁.setTop (mkF m 9 #[.val (.int p0), .val (.int (Int32.ofNat k))] [])) := by
    intro f
    induction f with
    | zero => intro k h2k hk hf; omega
    | succ f ih =>
      intro k h2k hk hf hi
      refine o_iloadN X0 hx hby D1_9 rfl ?_
      refine o_i2l X0 hx hby D1_10 ?_
      refine o_iloadN X0 hx hby D1_11 rfl ?_
      refine o_i2l X0 hx hby D1_12 ?_
      refine o_lmul X0 hx hby D1_13 ?_
      refine o_iloadN X0 hx hby D1_14 rfl ?_
      refine o_i2l X0 hx hby D1_15 ?_
      refine o_lcmp X0 hx hby D1_16 ?_
      by_cases hc17_1 : ((p0).toInt64) < ((((Int32.ofNat k)).toInt64) * (((Int32.ofNat k)).toInt64))
      · skip
        refine o_ifY X0 hx hby D1_17 ((if0 _ _).trans (tlt ((lw_gt ((((Int32.ofNat k)).toInt64) * (((Int32.ofNat k)).toInt64)) ((p0).toInt64)).mpr hc17_1)).2.2.1) (q := 34) (by decide) (by decide) ?_
        refine o_iconst X0 hx hby D1_34 (v := 1) rfl ?_
        exact own_ret (v := some (.int (1 : Int32))) X0 (fun h => by first | rfl | (rw [Bd.returns] at h; cases h)) (BodyLoose.notSynchronized Bd) (by decide) (by decide) (⟨by rw [own_yes hr h2 hk hi hc17_1], N0, e0⟩) (fun fs hr => retN X0 hx (t := .boolean) Bd.returns (by simp) (hb hby D1_35.1) hr)
      · skip
        refine o_ifN X0 hx hby D1_17 ((if0 _ _).trans (flt (fun q => hc17_1 ((lw_gt ((((Int32.ofNat k)).toInt64) * (((Int32.ofNat k)).toInt64)) ((p0).toInt64)).mp q))).2.2.1) ?_
        refine o_iloadN X0 hx hby D1_20 rfl ?_
        refine o_iloadN X0 hx hby D1_21 rfl ?_
        refine o_irem X0 hx hby D1_22 (own_nz h2k hk) ?_
        by_cases hc23_2 : (p0 % (Int32.ofNat k)) = (0 : Int32)
        · skip
          refine o_ifN X0 hx hby D1_23 ((if0 _ _).trans (teq hc23_2).2) ?_
          refine o_iconst X0 hx hby D1_26 (v := 0) rfl ?_
          exact own_ret (v := some (.int (0 : Int32))) X0 (fun h => by first | rfl | (rw [Bd.returns] at h; cases h)) (BodyLoose.notSynchronized Bd) (by decide) (by decide) (⟨by rw [own_no hr h2 h2k hk hc17_1 hc23_2], N0, e0⟩) (fun fs hr => retN X0 hx (t := .boolean) Bd.returns (by simp) (hb hby D1_27.1) hr)
        · skip
          refine o_ifY X0 hx hby D1_23 ((if0 _ _).trans (feq hc23_2).2) (q := 28) (by decide) (by decide) ?_
          refine o_iinc X0 hx hby D1_28 rfl (l' := #[.val (.int p0), .val (.int ((Int32.ofNat k) + (1 : Int32)))]) rfl ?_
          refine o_goto X0 hx hby D1_31 (q := 9) (by decide) (by decide) ?_
          rw [own_one k]; exact ih (k + 1) (by omega) (own_up hk hc17_1) (by omega) (own_inv h2 hk hi hc23_2)
  refine o_iloadN X0 hx hby D1_0 rfl ?_
  refine o_iconst X0 hx hby D1_1 (v := 2) rfl ?_
  refine o_icmpY X0 hx hby D1_2 (flt (h2 : ¬ (p0 < (2 : Int32)))).2.1 (q := 7) (by decide) (by decide) ?_
  refine o_iconst X0 hx hby D1_7 (v := 2) rfl ?_
  refine o_istoreN X0 hx hby D1_8 (l' := #[.val (.int p0), .val (.int (2 : Int32))]) rfl ?_
  exact loop 46340 2 (by omega) (by omega) (by omega) (fun j a b => by omega)
def own_ok (m d : Int32) : Int32 := if m = d then 1 else if m % d = (0 : Int32) then 0 else 1
def own_small (m : Int32) : Int32 := if m < (2 : Int32) then 0 else if own_ok m (2 : Int32) = (0 : Int32) then 0 else if own_ok m (3 : Int32) = (0 : Int32) then 0 else if own_ok m (5 : Int32) = (0 : Int32) then 0 else if own_ok m (7 : Int32) = (0 : Int32) then 0 else if own_ok m (11 : Int32) = (0 : Int32) then 0 else if own_ok m (13 : Int32) = (0 : Int32) then 0 else if own_ok m (17 : Int32) = (0 : Int32) then 0 else if own_ok m (19 : Int32) = (0 : Int32) then 0 else if own_ok m (23 : Int32) = (0 : Int32) then 0 else if own_ok m (29 : Int32) = (0 : Int32) then 0 else if own_ok m (31 : Int32) = (0 : Int32) then 0 else 1
theorem D3_0 : own_at method_3_code 0 (.iload_n 0) 1 1 := ⟨by decide +kernel, rfl⟩
theorem D3_1 : own_at method_3_code 1 (.iload_n 1) 1 2 := ⟨by decide +kernel, rfl⟩
theorem D3_2 : own_at method_3_code 2 (.if_icmp .eq 9) 3 5 := ⟨by decide +kernel, rfl⟩
theorem D3_5 : own_at method_3_code 5 (.iload_n 0) 1 6 := ⟨by decide +kernel, rfl⟩
theorem D3_6 : own_at method_3_code 6 (.iload_n 1) 1 7 := ⟨by decide +kernel, rfl⟩
theorem D3_7 : own_at method_3_code 7 (.irem) 1 8 := ⟨by decide +kernel, rfl⟩
theorem D3_8 : own_at method_3_code 8 (.ifCond .eq 7) 3 11 := ⟨by decide +kernel, rfl⟩
theorem D3_11 : own_at method_3_code 11 (.iconst 1) 1 12 := ⟨by decide +kernel, rfl⟩
theorem D3_12 : own_at method_3_code 12 (.goto 4) 3 15 := ⟨by decide +kernel, rfl⟩
theorem D3_15 : own_at method_3_code 15 (.iconst 0) 1 16 := ⟨by decide +kernel, rfl⟩
theorem D3_16 : own_at method_3_code 16 (.ireturn) 1 17 := ⟨by decide +kernel, rfl⟩
theorem pn_com_example_placer_placer_MaglevIsPrimePinLaw : plainName "com/example/placer/placer/MaglevIsPrimePinLaw" = true := by first | (simp [plainName, overriddenIn]; done) | decide +kernel
theorem ef_rm3 (m : MethodId) (p0 : Int32) (p1 : Int32) : entryFrame m #[(.int p0), (.int p1)] 2 = mkF m 0 #[.val (.int p0), .val (.int p1)] [] := by first | (simp [entryFrame, mkF, argsToLocals, Value.category]; done) | rfl
set_option maxRecDepth 65536 in
set_option maxHeartbeats 40000000 in
theorem rm3 (l : Launch) (Z : State) (a0 : Array Value) (hw : ∀ d ∈ tables_1, d.before a0 Z = true) (ws : List Jvm.Cond) (p0 : Int32) (p1 : Int32)  (h0 : Heap) (n0 : Nat) (Z0 : n0 ≤ h0.size) (hd : ¬ (p1 = (0 : Int32))) :
    MetFree l (⟨"com/example/placer/placer/MaglevIsPrimePinLaw", "ok", "(II)Z"⟩ : MethodName) (head1 (Jvm.Cond.code (⟨"com/example/placer/placer/MaglevIsPrimePinLaw", "ok", "(II)Z"⟩ : MethodName) method_3_code 2 (some .boolean) :: ws) ({ frames := 0, cells := 0, slots := 0, locals := 0 } : Room)) (fun a U => a = #[(.int p0), (.int p1)] ∧ Z.Warmed39 U.vm ∧ U.heap = h0) (fun _ _ _ _ _ => True) (fun _ U o U' => ∃ v L, o = .returned v ∧ own_QP (.int (own_ok p0 p1)) h0 n0 v U'.heap L ∧ FrameEnd U o U' L ({ frames := 0, cells := 0, slots := 0, locals := 0 } : Room).cells ({ frames := 0, cells := 0, slots := 0, locals := 0 } : Room).slots) := by
  refine MetFree.of_bodySF (plainFor_of_name pn_com_example_placer_placer_MaglevIsPrimePinLaw) hisR ?_
  intro p e s m args below meth c s₁ Bd hml0 hP hK
  obtain ⟨rfl, hZ, hh⟩ := hP
  have hx := Bd.exec
  have hby := Bd.bytes
  have hml : c.maxLocals = 2 := hml0
  have hown : s.vm.findClass "com/example/placer/placer/MaglevIsPrimePinLaw" = some m.cls := findClass_of_methodNamed Bd.named
  have hnm := (name_of_methodNamed Bd.named Bd.method).1
  have X0 : Stand p l e ({ frames := 0, cells := 0, slots := 0, locals := 0 } : Room) s m #[(.int p0), (.int p1)] below meth c s₁ [] 0 0 := Stand.of_body Bd
  have e0 : s₁.heap = h0 := by rw [← hh, Bd.state]; rfl
  have N0 := Fr.nil n0
  refine own_start (ef_rm3 m p0 p1) ?_
  refine o_iloadN X0 hx hby D3_0 rfl ?_
  refine o_iloadN X0 hx hby D3_1 rfl ?_
  by_cases hc2_1 : p0 = p1
  · skip
    refine o_icmpY X0 hx hby D3_2 (teq hc2_1).1 (q := 11) (by decide) (by decide) ?_
    refine o_iconst X0 hx hby D3_11 (v := 1) rfl ?_
    refine o_goto X0 hx hby D3_12 (q := 16) (by decide) (by decide) ?_
    exact own_ret (v := some (.int (1 : Int32))) X0 (fun h => by first | rfl | (rw [Bd.returns] at h; cases h)) (BodyLoose.notSynchronized Bd) (by decide) (by decide) (⟨by rw [own_ok, if_pos hc2_1], N0, e0⟩) (fun fs hr => retN X0 hx (t := .boolean) Bd.returns (by simp) (hb hby D3_16.1) hr)
  · skip
    refine o_icmpN X0 hx hby D3_2 (feq hc2_1).1 ?_
    refine o_iloadN X0 hx hby D3_5 rfl ?_
    refine o_iloadN X0 hx hby D3_6 rfl ?_
    refine o_irem X0 hx hby D3_7 hd ?_
    by_cases hc8_2 : (p0 % p1) = (0 : Int32)
    · skip
      refine o_ifY X0 hx hby D3_8 ((if0 _ _).trans (teq hc8_2).1) (q := 15) (by decide) (by decide) ?_
      refine o_iconst X0 hx hby D3_15 (v := 0) rfl ?_
      exact own_ret (v := some (.int (0 : Int32))) X0 (fun h => by first | rfl | (rw [Bd.returns] at h; cases h)) (BodyLoose.notSynchronized Bd) (by decide) (by decide) (⟨by rw [own_ok, if_neg hc2_1, if_pos hc8_2], N0, e0⟩) (fun fs hr => retN X0 hx (t := .boolean) Bd.returns (by simp) (hb hby D3_16.1) hr)
    · skip
      refine o_ifN X0 hx hby D3_8 ((if0 _ _).trans (feq hc8_2).1) ?_
      refine o_iconst X0 hx hby D3_11 (v := 1) rfl ?_
      refine o_goto X0 hx hby D3_12 (q := 16) (by decide) (by decide) ?_
      exact own_ret (v := some (.int (1 : Int32))) X0 (fun h => by first | rfl | (rw [Bd.returns] at h; cases h)) (BodyLoose.notSynchronized Bd) (by decide) (by decide) (⟨by rw [own_ok, if_neg hc2_1, if_neg hc8_2], N0, e0⟩) (fun fs hr => retN X0 hx (t := .boolean) Bd.returns (by simp) (hb hby D3_16.1) hr)
theorem pd__40II_41Z : parseMethodDescriptor "(II)Z" = some ⟨[.int, .int], some .boolean⟩ := by decide +kernel
theorem D2_0 : own_at method_4_code 0 (.iload_n 0) 1 1 := ⟨by decide +kernel, rfl⟩
theorem D2_1 : own_at method_4_code 1 (.iconst 2) 1 2 := ⟨by decide +kernel, rfl⟩
theorem D2_2 : own_at method_4_code 2 (.if_icmp .ge 5) 3 5 := ⟨by decide +kernel, rfl⟩
theorem D2_5 : own_at method_4_code 5 (.iconst 0) 1 6 := ⟨by decide +kernel, rfl⟩
theorem D2_6 : own_at method_4_code 6 (.ireturn) 1 7 := ⟨by decide +kernel, rfl⟩
theorem D2_7 : own_at method_4_code 7 (.iload_n 0) 1 8 := ⟨by decide +kernel, rfl⟩
theorem D2_8 : own_at method_4_code 8 (.iconst 2) 1 9 := ⟨by decide +kernel, rfl⟩
theorem D2_9 : own_at method_4_code 9 (.invokestatic 29) 3 12 := ⟨by decide +kernel, rfl⟩
theorem D2_12 : own_at method_4_code 12 (.ifCond .eq 95) 3 15 := ⟨by decide +kernel, rfl⟩
theorem D2_15 : own_at method_4_code 15 (.iload_n 0) 1 16 := ⟨by decide +kernel, rfl⟩
theorem D2_16 : own_at method_4_code 16 (.iconst 3) 1 17 := ⟨by decide +kernel, rfl⟩
theorem D2_17 : own_at method_4_code 17 (.invokestatic 29) 3 20 := ⟨by decide +kernel, rfl⟩
theorem D2_20 : own_at method_4_code 20 (.ifCond .eq 87) 3 23 := ⟨by decide +kernel, rfl⟩
theorem D2_23 : own_at method_4_code 23 (.iload_n 0) 1 24 := ⟨by decide +kernel, rfl⟩
theorem D2_24 : own_at method_4_code 24 (.iconst 5) 1 25 := ⟨by decide +kernel, rfl⟩
theorem D2_25 : own_at method_4_code 25 (.invokestatic 29) 3 28 := ⟨by decide +kernel, rfl⟩
theorem D2_28 : own_at method_4_code 28 (.ifCond .eq 79) 3 31 := ⟨by decide +kernel, rfl⟩
theorem D2_31 : own_at method_4_code 31 (.iload_n 0) 1 32 := ⟨by decide +kernel, rfl⟩
theorem D2_32 : own_at method_4_code 32 (.bipush 7) 2 34 := ⟨by decide +kernel, rfl⟩
theorem D2_34 : own_at method_4_code 34 (.invokestatic 29) 3 37 := ⟨by decide +kernel, rfl⟩
theorem D2_37 : own_at method_4_code 37 (.ifCond .eq 70) 3 40 := ⟨by decide +kernel, rfl⟩
theorem D2_40 : own_at method_4_code 40 (.iload_n 0) 1 41 := ⟨by decide +kernel, rfl⟩
theorem D2_41 : own_at method_4_code 41 (.bipush 11) 2 43 := ⟨by decide +kernel, rfl⟩
theorem D2_43 : own_at method_4_code 43 (.invokestatic 29) 3 46 := ⟨by decide +kernel, rfl⟩
theorem D2_46 : own_at method_4_code 46 (.ifCond .eq 61) 3 49 := ⟨by decide +kernel, rfl⟩
theorem D2_49 : own_at method_4_code 49 (.iload_n 0) 1 50 := ⟨by decide +kernel, rfl⟩
theorem D2_50 : own_at method_4_code 50 (.bipush 13) 2 52 := ⟨by decide +kernel, rfl⟩
theorem D2_52 : own_at method_4_code 52 (.invokestatic 29) 3 55 := ⟨by decide +kernel, rfl⟩
theorem D2_55 : own_at method_4_code 55 (.ifCond .eq 52) 3 58 := ⟨by decide +kernel, rfl⟩
theorem D2_58 : own_at method_4_code 58 (.iload_n 0) 1 59 := ⟨by decide +kernel, rfl⟩
theorem D2_59 : own_at method_4_code 59 (.bipush 17) 2 61 := ⟨by decide +kernel, rfl⟩
theorem D2_61 : own_at method_4_code 61 (.invokestatic 29) 3 64 := ⟨by decide +kernel, rfl⟩
theorem D2_64 : own_at method_4_code 64 (.ifCond .eq 43) 3 67 := ⟨by decide +kernel, rfl⟩
theorem D2_67 : own_at method_4_code 67 (.iload_n 0) 1 68 := ⟨by decide +kernel, rfl⟩
theorem D2_68 : own_at method_4_code 68 (.bipush 19) 2 70 := ⟨by decide +kernel, rfl⟩
theorem D2_70 : own_at method_4_code 70 (.invokestatic 29) 3 73 := ⟨by decide +kernel, rfl⟩
theorem D2_73 : own_at method_4_code 73 (.ifCond .eq 34) 3 76 := ⟨by decide +kernel, rfl⟩
theorem D2_76 : own_at method_4_code 76 (.iload_n 0) 1 77 := ⟨by decide +kernel, rfl⟩
theorem D2_77 : own_at method_4_code 77 (.bipush 23) 2 79 := ⟨by decide +kernel, rfl⟩
theorem D2_79 : own_at method_4_code 79 (.invokestatic 29) 3 82 := ⟨by decide +kernel, rfl⟩
theorem D2_82 : own_at method_4_code 82 (.ifCond .eq 25) 3 85 := ⟨by decide +kernel, rfl⟩
theorem D2_85 : own_at method_4_code 85 (.iload_n 0) 1 86 := ⟨by decide +kernel, rfl⟩
theorem D2_86 : own_at method_4_code 86 (.bipush 29) 2 88 := ⟨by decide +kernel, rfl⟩
theorem D2_88 : own_at method_4_code 88 (.invokestatic 29) 3 91 := ⟨by decide +kernel, rfl⟩
theorem D2_91 : own_at method_4_code 91 (.ifCond .eq 16) 3 94 := ⟨by decide +kernel, rfl⟩
theorem D2_94 : own_at method_4_code 94 (.iload_n 0) 1 95 := ⟨by decide +kernel, rfl⟩
theorem D2_95 : own_at method_4_code 95 (.bipush 31) 2 97 := ⟨by decide +kernel, rfl⟩
theorem D2_97 : own_at method_4_code 97 (.invokestatic 29) 3 100 := ⟨by decide +kernel, rfl⟩
theorem D2_100 : own_at method_4_code 100 (.ifCond .eq 7) 3 103 := ⟨by decide +kernel, rfl⟩
theorem D2_103 : own_at method_4_code 103 (.iconst 1) 1 104 := ⟨by decide +kernel, rfl⟩
theorem D2_104 : own_at method_4_code 104 (.goto 4) 3 107 := ⟨by decide +kernel, rfl⟩
theorem D2_107 : own_at method_4_code 107 (.iconst 0) 1 108 := ⟨by decide +kernel, rfl⟩
theorem D2_108 : own_at method_4_code 108 (.ireturn) 1 109 := ⟨by decide +kernel, rfl⟩
theorem ef_rm2 (m : MethodId) (p0 : Int32) : entryFrame m #[(.int p0)] 1 = mkF m 0 #[.val (.int p0)] [] := by first | (simp [entryFrame, mkF, argsToLocals, Value.category]; done) | rfl
set_option maxRecDepth 65536 in
set_option maxHeartbeats 40000000 in
theorem rm2 (l : Launch) (Z : State) (a0 : Array Value) (hw : ∀ d ∈ tables_1, d.before a0 Z = true) (ws : List Jvm.Cond) (p0 : Int32)  (h0 : Heap) (n0 : Nat) (Z0 : n0 ≤ h0.size)  :
    MetFree l (⟨"com/example/placer/placer/MaglevIsPrimePinLaw", "smallPrime", "(I)Z"⟩ : MethodName) (head1 (Jvm.Cond.code (⟨"com/example/placer/placer/MaglevIsPrimePinLaw", "smallPrime", "(I)Z"⟩ : MethodName) method_4_code 1 (some .boolean) :: ws) ({ frames := 1, cells := 0, slots := 0, locals := 13 } : Room)) (fun a U => a = #[(.int p0)] ∧ Z.Warmed39 U.vm ∧ U.heap = h0) (fun _ _ _ _ _ => True) (fun _ U o U' => ∃ v L, o = .returned v ∧ own_QP (.int (own_small p0)) h0 n0 v U'.heap L ∧ FrameEnd U o U' L ({ frames := 1, cells := 0, slots := 0, locals := 13 } : Room).cells ({ frames := 1, cells := 0, slots := 0, locals := 13 } : Room).slots) := by
  refine MetFree.of_bodySF (plainFor_of_name pn_com_example_placer_placer_MaglevIsPrimePinLaw) hisR ?_
  intro p e s m args below meth c s₁ Bd hml0 hP hK
  obtain ⟨rfl, hZ, hh⟩ := hP
  have hx := Bd.exec
  have hby := Bd.bytes
  have hml : c.maxLocals = 1 := hml0
  have hown : s.vm.findClass "com/example/placer/placer/MaglevIsPrimePinLaw" = some m.cls := findClass_of_methodNamed Bd.named
  have hnm := (name_of_methodNamed Bd.named Bd.method).1
  have X0 : Stand p l e ({ frames := 1, cells := 0, slots := 0, locals := 13 } : Room) s m #[(.int p0)] below meth c s₁ [] 0 0 := Stand.of_body Bd
  have e0 : s₁.heap = h0 := by rw [← hh, Bd.state]; rfl
  have N0 := Fr.nil n0
  refine own_start (ef_rm2 m p0) ?_
  refine o_iloadN X0 hx hby D2_0 rfl ?_
  refine o_iconst X0 hx hby D2_1 (v := 2) rfl ?_
  by_cases hc2_1 : p0 < (2 : Int32)
  · skip
    refine o_icmpN X0 hx hby D2_2 (tlt hc2_1).2.1 ?_
    refine o_iconst X0 hx hby D2_5 (v := 0) rfl ?_
    exact own_ret (v := some (.int (0 : Int32))) X0 (fun h => by first | rfl | (rw [Bd.returns] at h; cases h)) (BodyLoose.notSynchronized Bd) (by decide) (by decide) (⟨by rw [own_small, if_pos hc2_1], N0, e0⟩) (fun fs hr => retN X0 hx (t := .boolean) Bd.returns (by simp) (hb hby D2_6.1) hr)
  · skip
    refine o_icmpY X0 hx hby D2_2 (flt hc2_1).2.1 (q := 7) (by decide) (by decide) ?_
    refine o_iloadN X0 hx hby D2_7 rfl ?_
    refine o_iconst X0 hx hby D2_8 (v := 2) rfl ?_
    obtain ⟨_, _, ⟨T2, L2, k2, n2⟩, -, X2, ⟨Lc2, hQ2, l2, y2, z2⟩, st2⟩ := Jvm.LawKit.callS X0 hx (y := (⟨"com/example/placer/placer/MaglevIsPrimePinLaw", "ok", "(II)Z"⟩ : MethodName)) hown (mvT hZ (own_wd hw (i := 18) rfl)) (mvT hZ (own_wd hw (i := 19) rfl)) (mvT hZ (own_wd hw (i := 16) rfl)) (mvT hZ (own_wd hw (i := 20) rfl)) (by decide) (backOf (W := 0) (rm3 l Z a0 hw [] p0 (2 : Int32)  h0 n0 Z0 (by decide)) hZ (own_wd hw (i := 20) rfl) (own_wd hw (i := 16) rfl) (by decide) (by decide)) (g := (mkF m 9 #[.val (.int p0)] [(.int (2 : Int32)), (.int p0)])) rfl (by rw [hml]; rfl) (argsL := [(.int p0), (.int (2 : Int32))]) (rest := []) (lenOf pd__40II_41Z rfl) rfl (by show 2 * 0 + _ ≤ _; exact Nat.le_of_eq rfl) (hb hby D2_9.1) (fun _ _ => ⟨rfl, e0, (by decide : 0 + 0 ≤ _), (by decide : 0 + 0 ≤ _)⟩)
    dsimp only [Pt.U, Pt.locs, Pt.cells, Pt.slots] at X2 l2 y2 z2 st2 hQ2
    subst l2 y2 z2
    obtain ⟨rfl, N2q, e2⟩ := hQ2
    have N2 := Fr.app N0 N2q
    refine own_pre (A' := T2.setTop (mkF m 12 #[.val (.int p0)] [(.int (own_ok p0 (2 : Int32)))])) st2 ?_
    by_cases hc12_3 : (own_ok p0 (2 : Int32)) = (0 : Int32)
    · skip
      refine o_ifY X2 hx hby D2_12 ((if0 _ _).trans (teq hc12_3).1) (q := 107) (by decide) (by decide) ?_
      refine o_iconst X2 hx hby D2_107 (v := 0) rfl ?_
      exact own_ret (v := some (.int (0 : Int32))) X2 (fun h => by first | rfl | (rw [Bd.returns] at h; cases h)) (BodyLoose.notSynchronized Bd) (by decide) (by decide) (⟨by rw [own_small, if_neg hc2_1, if_pos hc12_3], N2, e2⟩) (fun fs hr => retN X2 hx (t := .boolean) Bd.returns (by simp) (hb hby D2_108.1) hr)
    · skip
      refine o_ifN X2 hx hby D2_12 ((if0 _ _).trans (feq hc12_3).1) ?_
      refine o_iloadN X2 hx hby D2_15 rfl ?_
      refine o_iconst X2 hx hby D2_16 (v := 3) rfl ?_
      obtain ⟨_, _, ⟨T4, L4, k4, n4⟩, -, X4, ⟨Lc4, hQ4, l4, y4, z4⟩, st4⟩ := Jvm.LawKit.callS X2 hx (y := (⟨"com/example/placer/placer/MaglevIsPrimePinLaw", "ok", "(II)Z"⟩ : MethodName)) hown (mvT hZ (own_wd hw (i := 18) rfl)) (mvT hZ (own_wd hw (i := 19) rfl)) (mvT hZ (own_wd hw (i := 16) rfl)) (mvT hZ (own_wd hw (i := 20) rfl)) (by decide) (backOf (W := 0) (rm3 l Z a0 hw [] p0 (3 : Int32)  h0 n0 Z0 (by decide)) hZ (own_wd hw (i := 20) rfl) (own_wd hw (i := 16) rfl) (by decide) (by decide)) (g := (mkF m 17 #[.val (.int p0)] [(.int (3 : Int32)), (.int p0)])) rfl (by rw [hml]; rfl) (argsL := [(.int p0), (.int (3 : Int32))]) (rest := []) (lenOf pd__40II_41Z rfl) rfl (by show 2 * 0 + _ ≤ _; exact Nat.le_of_eq rfl) (hb hby D2_17.1) (fun _ _ => ⟨rfl, e2, (by decide : 0 + 0 ≤ _), (by decide : 0 + 0 ≤ _)⟩)
      dsimp only [Pt.U, Pt.locs, Pt.cells, Pt.slots] at X4 l4 y4 z4 st4 hQ4
      subst l4 y4 z4
      obtain ⟨rfl, N4q, e4⟩ := hQ4
      have N4 := Fr.app N2 N4q
      refine own_pre (A' := T4.setTop (mkF m 20 #[.val (.int p0)] [(.int (own_ok p0 (3 : Int32)))])) st4 ?_
      by_cases hc20_5 : (own_ok p0 (3 : Int32)) = (0 : Int32)
      · skip
        refine o_ifY X4 hx hby D2_20 ((if0 _ _).trans (teq hc20_5).1) (q := 107) (by decide) (by decide) ?_
        refine o_iconst X4 hx hby D2_107 (v := 0) rfl ?_
        exact own_ret (v := some (.int (0 : Int32))) X4 (fun h => by first | rfl | (rw [Bd.returns] at h; cases h)) (BodyLoose.notSynchronized Bd) (by decide) (by decide) (⟨by rw [own_small, if_neg hc2_1, if_neg hc12_3, if_pos hc20_5], N4, e4⟩) (fun fs hr => retN X4 hx (t := .boolean) Bd.returns (by simp) (hb hby D2_108.1) hr)
      · skip
        refine o_ifN X4 hx hby D2_20 ((if0 _ _).trans (feq hc20_5).1) ?_
        refine o_iloadN X4 hx hby D2_23 rfl ?_
        refine o_iconst X4 hx hby D2_24 (v := 5) rfl ?_
        obtain ⟨_, _, ⟨T6, L6, k6, n6⟩, -, X6, ⟨Lc6, hQ6, l6, y6, z6⟩, st6⟩ := Jvm.LawKit.callS X4 hx (y := (⟨"com/example/placer/placer/MaglevIsPrimePinLaw", "ok", "(II)Z"⟩ : MethodName)) hown (mvT hZ (own_wd hw (i := 18) rfl)) (mvT hZ (own_wd hw (i := 19) rfl)) (mvT hZ (own_wd hw (i := 16) rfl)) (mvT hZ (own_wd hw (i := 20) rfl)) (by decide) (backOf (W := 0) (rm3 l Z a0 hw [] p0 (5 : Int32)  h0 n0 Z0 (by decide)) hZ (own_wd hw (i := 20) rfl) (own_wd hw (i := 16) rfl) (by decide) (by decide)) (g := (mkF m 25 #[.val (.int p0)] [(.int (5 : Int32)), (.int p0)])) rfl (by rw [hml]; rfl) (argsL := [(.int p0), (.int (5 : Int32))]) (rest := []) (lenOf pd__40II_41Z rfl) rfl (by show 2 * 0 + _ ≤ _; exact Nat.le_of_eq rfl) (hb hby D2_25.1) (fun _ _ => ⟨rfl, e4, (by decide : 0 + 0 ≤ _), (by decide : 0 + 0 ≤ _)⟩)
        dsimp only [Pt.U, Pt.locs, Pt.cells, Pt.slots] at X6 l6 y6 z6 st6 hQ6
        subst l6 y6 z6
        obtain ⟨rfl, N6q, e6⟩ := hQ6
        have N6 := Fr.app N4 N6q
        refine own_pre (A' := T6.setTop (mkF m 28 #[.val (.int p0)] [(.int (own_ok p0 (5 : Int32)))])) st6 ?_
        by_cases hc28_7 : (own_ok p0 (5 : Int32)) = (0 : Int32)
        · skip
          refine o_ifY X6 hx hby D2_28 ((if0 _ _).trans (teq hc28_7).1) (q := 107) (by decide) (by decide) ?_
          refine o_iconst X6 hx hby D2_107 (v := 0) rfl ?_
          exact own_ret (v := some (.int (0 : Int32))) X6 (fun h => by first | rfl | (rw [Bd.returns] at h; cases h)) (BodyLoose.notSynchronized Bd) (by decide) (by decide) (⟨by rw [own_small, if_neg hc2_1, if_neg hc12_3, if_neg hc20_5, if_pos hc28_7], N6, e6⟩) (fun fs hr => retN X6 hx (t := .boolean) Bd.returns (by simp) (hb hby D2_108.1) hr)
        · skip
          refine o_ifN X6 hx hby D2_28 ((if0 _ _).trans (feq hc28_7).1) ?_
          refine o_iloadN X6 hx hby D2_31 rfl ?_
          refine o_bipush X6 hx hby D2_32 (v := 7) rfl ?_
          obtain ⟨_, _, ⟨T8, L8, k8, n8⟩, -, X8, ⟨Lc8, hQ8, l8, y8, z8⟩, st8⟩ := Jvm.LawKit.callS X6 hx (y := (⟨"com/example/placer/placer/MaglevIsPrimePinLaw", "ok", "(II)Z"⟩ : MethodName)) hown (mvT hZ (own_wd hw (i := 18) rfl)) (mvT hZ (own_wd hw (i := 19) rfl)) (mvT hZ (own_wd hw (i := 16) rfl)) (mvT hZ (own_wd hw (i := 20) rfl)) (by decide) (backOf (W := 0) (rm3 l Z a0 hw [] p0 (7 : Int32)  h0 n0 Z0 (by decide)) hZ (own_wd hw (i := 20) rfl) (own_wd hw (i := 16) rfl) (by decide) (by decide)) (g := (mkF m 34 #[.val (.int p0)] [(.int (7 : Int32)), (.int p0)])) rfl (by rw [hml]; rfl) (argsL := [(.int p0), (.int (7 : Int32))]) (rest := []) (lenOf pd__40II_41Z rfl) rfl (by show 2 * 0 + _ ≤ _; exact Nat.le_of_eq rfl) (hb hby D2_34.1) (fun _ _ => ⟨rfl, e6, (by decide : 0 + 0 ≤ _), (by decide : 0 + 0 ≤ _)⟩)
          dsimp only [Pt.U, Pt.locs, Pt.cells, Pt.slots] at X8 l8 y8 z8 st8 hQ8
          subst l8 y8 z8
          obtain ⟨rfl, N8q, e8⟩ := hQ8
          have N8 := Fr.app N6 N8q
          refine own_pre (A' := T8.setTop (mkF m 37 #[.val (.int p0)] [(.int (own_ok p0 (7 : Int32)))])) st8 ?_
          by_cases hc37_9 : (own_ok p0 (7 : Int32)) = (0 : Int32)
          · skip
            refine o_ifY X8 hx hby D2_37 ((if0 _ _).trans (teq hc37_9).1) (q := 107) (by decide) (by decide) ?_
            refine o_iconst X8 hx hby D2_107 (v := 0) rfl ?_
            exact own_ret (v := some (.int (0 : Int32))) X8 (fun h => by first | rfl | (rw [Bd.returns] at h; cases h)) (BodyLoose.notSynchronized Bd) (by decide) (by decide) (⟨by rw [own_small, if_neg hc2_1, if_neg hc12_3, if_neg hc20_5, if_neg hc28_7, if_pos hc37_9], N8, e8⟩) (fun fs hr => retN X8 hx (t := .boolean) Bd.returns (by simp) (hb hby D2_108.1) hr)
          · skip
            refine o_ifN X8 hx hby D2_37 ((if0 _ _).trans (feq hc37_9).1) ?_
            refine o_iloadN X8 hx hby D2_40 rfl ?_
            refine o_bipush X8 hx hby D2_41 (v := 11) rfl ?_
            obtain ⟨_, _, ⟨T10, L10, k10, n10⟩, -, X10, ⟨Lc10, hQ10, l10, y10, z10⟩, st10⟩ := Jvm.LawKit.callS X8 hx (y := (⟨"com/example/placer/placer/MaglevIsPrimePinLaw", "ok", "(II)Z"⟩ : MethodName)) hown (mvT hZ (own_wd hw (i := 18) rfl)) (mvT hZ (own_wd hw (i := 19) rfl)) (mvT hZ (own_wd hw (i := 16) rfl)) (mvT hZ (own_wd hw (i := 20) rfl)) (by decide) (backOf (W := 0) (rm3 l Z a0 hw [] p0 (11 : Int32)  h0 n0 Z0 (by decide)) hZ (own_wd hw (i := 20) rfl) (own_wd hw (i := 16) rfl) (by decide) (by decide)) (g := (mkF m 43 #[.val (.int p0)] [(.int (11 : Int32)), (.int p0)])) rfl (by rw [hml]; rfl) (argsL := [(.int p0), (.int (11 : Int32))]) (rest := []) (lenOf pd__40II_41Z rfl) rfl (by show 2 * 0 + _ ≤ _; exact Nat.le_of_eq rfl) (hb hby D2_43.1) (fun _ _ => ⟨rfl, e8, (by decide : 0 + 0 ≤ _), (by decide : 0 + 0 ≤ _)⟩)
            dsimp only [Pt.U, Pt.locs, Pt.cells, Pt.slots] at X10 l10 y10 z10 st10 hQ10
            subst l10 y10 z10
            obtain ⟨rfl, N10q, e10⟩ := hQ10
            have N10 := Fr.app N8 N10q
            refine own_pre (A' := T10.setTop (mkF m 46 #[.val (.int p0)] [(.int (own_ok p0 (11 : Int32)))])) st10 ?_
            by_cases hc46_11 : (own_ok p0 (11 : Int32)) = (0 : Int32)
            · skip
              refine o_ifY X10 hx hby D2_46 ((if0 _ _).trans (teq hc46_11).1) (q := 107) (by decide) (by decide) ?_
              refine o_iconst X10 hx hby D2_107 (v := 0) rfl ?_
              exact own_ret (v := some (.int (0 : Int32))) X10 (fun h => by first | rfl | (rw [Bd.returns] at h; cases h)) (BodyLoose.notSynchronized Bd) (by decide) (by decide) (⟨by rw [own_small, if_neg hc2_1, if_neg hc12_3, if_neg hc20_5, if_neg hc28_7, if_neg hc37_9, if_pos hc46_11], N10, e10⟩) (fun fs hr => retN X10 hx (t := .boolean) Bd.returns (by simp) (hb hby D2_108.1) hr)
            · skip
              refine o_ifN X10 hx hby D2_46 ((if0 _ _).trans (feq hc46_11).1) ?_
              refine o_iloadN X10 hx hby D2_49 rfl ?_
              refine o_bipush X10 hx hby D2_50 (v := 13) rfl ?_
              obtain ⟨_, _, ⟨T12, L12, k12, n12⟩, -, X12, ⟨Lc12, hQ12, l12, y12, z12⟩, st12⟩ := Jvm.LawKit.callS X10 hx (y := (⟨"com/example/placer/placer/MaglevIsPrimePinLaw", "ok", "(II)Z"⟩ : MethodName)) hown (mvT hZ (own_wd hw (i := 18) rfl)) (mvT hZ (own_wd hw (i := 19) rfl)) (mvT hZ (own_wd hw (i := 16) rfl)) (mvT hZ (own_wd hw (i := 20) rfl)) (by decide) (backOf (W := 0) (rm3 l Z a0 hw [] p0 (13 : Int32)  h0 n0 Z0 (by decide)) hZ (own_wd hw (i := 20) rfl) (own_wd hw (i := 16) rfl) (by decide) (by decide)) (g := (mkF m 52 #[.val (.int p0)] [(.int (13 : Int32)), (.int p0)])) rfl (by rw [hml]; rfl) (argsL := [(.int p0), (.int (13 : Int32))]) (rest := []) (lenOf pd__40II_41Z rfl) rfl (by show 2 * 0 + _ ≤ _; exact Nat.le_of_eq rfl) (hb hby D2_52.1) (fun _ _ => ⟨rfl, e10, (by decide : 0 + 0 ≤ _), (by decide : 0 + 0 ≤ _)⟩)
              dsimp only [Pt.U, Pt.locs, Pt.cells, Pt.slots] at X12 l12 y12 z12 st12 hQ12
              subst l12 y12 z12
              obtain ⟨rfl, N12q, e12⟩ := hQ12
              have N12 := Fr.app N10 N12q
              refine own_pre (A' := T12.setTop (mkF m 55 #[.val (.int p0)] [(.int (own_ok p0 (13 : Int32)))])) st12 ?_
              by_cases hc55_13 : (own_ok p0 (13 : Int32)) = (0 : Int32)
              · skip
                refine o_ifY X12 hx hby D2_55 ((if0 _ _).trans (teq hc55_13).1) (q := 107) (by decide) (by decide) ?_
                refine o_iconst X12 hx hby D2_107 (v := 0) rfl ?_
                exact own_ret (v := some (.int (0 : Int32))) X12 (fun h => by first | rfl | (rw [Bd.returns] at h; cases h)) (BodyLoose.notSynchronized Bd) (by decide) (by decide) (⟨by rw [own_small, if_neg hc2_1, if_neg hc12_3, if_neg hc20_5, if_neg hc28_7, if_neg hc37_9, if_neg hc46_11, if_pos hc55_13], N12, e12⟩) (fun fs hr => retN X12 hx (t := .boolean) Bd.returns (by simp) (hb hby D2_108.1) hr)
              · skip
                refine o_ifN X12 hx hby D2_55 ((if0 _ _).trans (feq hc55_13).1) ?_
                refine o_iloadN X12 hx hby D2_58 rfl ?_
                refine o_bipush X12 hx hby D2_59 (v := 17) rfl ?_
                obtain ⟨_, _, ⟨T14, L14, k14, n14⟩, -, X14, ⟨Lc14, hQ14, l14, y14, z14⟩, st14⟩ := Jvm.LawKit.callS X12 hx (y := (⟨"com/example/placer/placer/MaglevIsPrimePinLaw", "ok", "(II)Z"⟩ : MethodName)) hown (mvT hZ (own_wd hw (i := 18) rfl)) (mvT hZ (own_wd hw (i := 19) rfl)) (mvT hZ (own_wd hw (i := 16) rfl)) (mvT hZ (own_wd hw (i := 20) rfl)) (by decide) (backOf (W := 0) (rm3 l Z a0 hw [] p0 (17 : Int32)  h0 n0 Z0 (by decide)) hZ (own_wd hw (i := 20) rfl) (own_wd hw (i := 16) rfl) (by decide) (by decide)) (g := (mkF m 61 #[.val (.int p0)] [(.int (17 : Int32)), (.int p0)])) rfl (by rw [hml]; rfl) (argsL := [(.int p0), (.int (17 : Int32))]) (rest := []) (lenOf pd__40II_41Z rfl) rfl (by show 2 * 0 + _ ≤ _; exact Nat.le_of_eq rfl) (hb hby D2_61.1) (fun _ _ => ⟨rfl, e12, (by decide : 0 + 0 ≤ _), (by decide : 0 + 0 ≤ _)⟩)
                dsimp only [Pt.U, Pt.locs, Pt.cells, Pt.slots] at X14 l14 y14 z14 st14 hQ14
                subst l14 y14 z14
                obtain ⟨rfl, N14q, e14⟩ := hQ14
                have N14 := Fr.app N12 N14q
                refine own_pre (A' := T14.setTop (mkF m 64 #[.val (.int p0)] [(.int (own_ok p0 (17 : Int32)))])) st14 ?_
                by_cases hc64_15 : (own_ok p0 (17 : Int32)) = (0 : Int32)
                · skip
                  refine o_ifY X14 hx hby D2_64 ((if0 _ _).trans (teq hc64_15).1) (q := 107) (by decide) (by decide) ?_
                  refine o_iconst X14 hx hby D2_107 (v := 0) rfl ?_
                  exact own_ret (v := some (.int (0 : Int32))) X14 (fun h => by first | rfl | (rw [Bd.returns] at h; cases h)) (BodyLoose.notSynchronized Bd) (by decide) (by decide) (⟨by rw [own_small, if_neg hc2_1, if_neg hc12_3, if_neg hc20_5, if_neg hc28_7, if_neg hc37_9, if_neg hc46_11, if_neg hc55_13, if_pos hc64_15], N14, e14⟩) (fun fs hr => retN X14 hx (t := .boolean) Bd.returns (by simp) (hb hby D2_108.1) hr)
                · skip
                  refine o_ifN X14 hx hby D2_64 ((if0 _ _).trans (feq hc64_15).1) ?_
                  refine o_iloadN X14 hx hby D2_67 rfl ?_
                  refine o_bipush X14 hx hby D2_68 (v := 19) rfl ?_
                  obtain ⟨_, _, ⟨T16, L16, k16, n16⟩, -, X16, ⟨Lc16, hQ16, l16, y16, z16⟩, st16⟩ := Jvm.LawKit.callS X14 hx (y := (⟨"com/example/placer/placer/MaglevIsPrimePinLaw", "ok", "(II)Z"⟩ : MethodName)) hown (mvT hZ (own_wd hw (i := 18) rfl)) (mvT hZ (own_wd hw (i := 19) rfl)) (mvT hZ (own_wd hw (i := 16) rfl)) (mvT hZ (own_wd hw (i := 20) rfl)) (by decide) (backOf (W := 0) (rm3 l Z a0 hw [] p0 (19 : Int32)  h0 n0 Z0 (by decide)) hZ (own_wd hw (i := 20) rfl) (own_wd hw (i := 16) rfl) (by decide) (by decide)) (g := (mkF m 70 #[.val (.int p0)] [(.int (19 : Int32)), (.int p0)])) rfl (by rw [hml]; rfl) (argsL := [(.int p0), (.int (19 : Int32))]) (rest := []) (lenOf pd__40II_41Z rfl) rfl (by show 2 * 0 + _ ≤ _; exact Nat.le_of_eq rfl) (hb hby D2_70.1) (fun _ _ => ⟨rfl, e14, (by decide : 0 + 0 ≤ _), (by decide : 0 + 0 ≤ _)⟩)
                  dsimp only [Pt.U, Pt.locs, Pt.cells, Pt.slots] at X16 l16 y16 z16 st16 hQ16
                  subst l16 y16 z16
                  obtain ⟨rfl, N16q, e16⟩ := hQ16
                  have N16 := Fr.app N14 N16q
                  refine own_pre (A' := T16.setTop (mkF m 73 #[.val (.int p0)] [(.int (own_ok p0 (19 : Int32)))])) st16 ?_
                  by_cases hc73_17 : (own_ok p0 (19 : Int32)) = (0 : Int32)
                  · skip
                    refine o_ifY X16 hx hby D2_73 ((if0 _ _).trans (teq hc73_17).1) (q := 107) (by decide) (by decide) ?_
                    refine o_iconst X16 hx hby D2_107 (v := 0) rfl ?_
                    exact own_ret (v := some (.int (0 : Int32))) X16 (fun h => by first | rfl | (rw [Bd.returns] at h; cases h)) (BodyLoose.notSynchronized Bd) (by decide) (by decide) (⟨by rw [own_small, if_neg hc2_1, if_neg hc12_3, if_neg hc20_5, if_neg hc28_7, if_neg hc37_9, if_neg hc46_11, if_neg hc55_13, if_neg hc64_15, if_pos hc73_17], N16, e16⟩) (fun fs hr => retN X16 hx (t := .boolean) Bd.returns (by simp) (hb hby D2_108.1) hr)
                  · skip
                    refine o_ifN X16 hx hby D2_73 ((if0 _ _).trans (feq hc73_17).1) ?_
                    refine o_iloadN X16 hx hby D2_76 rfl ?_
                    refine o_bipush X16 hx hby D2_77 (v := 23) rfl ?_
                    obtain ⟨_, _, ⟨T18, L18, k18, n18⟩, -, X18, ⟨Lc18, hQ18, l18, y18, z18⟩, st18⟩ := Jvm.LawKit.callS X16 hx (y := (⟨"com/example/placer/placer/MaglevIsPrimePinLaw", "ok", "(II)Z"⟩ : MethodName)) hown (mvT hZ (own_wd hw (i := 18) rfl)) (mvT hZ (own_wd hw (i := 19) rfl)) (mvT hZ (own_wd hw (i := 16) rfl)) (mvT hZ (own_wd hw (i := 20) rfl)) (by decide) (backOf (W := 0) (rm3 l Z a0 hw [] p0 (23 : Int32)  h0 n0 Z0 (by decide)) hZ (own_wd hw (i := 20) rfl) (own_wd hw (i := 16) rfl) (by decide) (by decide)) (g := (mkF m 79 #[.val (.int p0)] [(.int (23 : Int32)), (.int p0)])) rfl (by rw [hml]; rfl) (argsL := [(.int p0), (.int (23 : Int32))]) (rest := []) (lenOf pd__40II_41Z rfl) rfl (by show 2 * 0 + _ ≤ _; exact Nat.le_of_eq rfl) (hb hby D2_79.1) (fun _ _ => ⟨rfl, e16, (by decide : 0 + 0 ≤ _), (by decide : 0 + 0 ≤ _)⟩)
                    dsimp only [Pt.U, Pt.locs, Pt.cells, Pt.slots] at X18 l18 y18 z18 st18 hQ18
                    subst l18 y18 z18
                    obtain ⟨rfl, N18q, e18⟩ := hQ18
                    have N18 := Fr.app N16 N18q
                    refine own_pre (A' := T18.setTop (mkF m 82 #[.val (.int p0)] [(.int (own_ok p0 (23 : Int32)))])) st18 ?_
                    by_cases hc82_19 : (own_ok p0 (23 : Int32)) = (0 : Int32)
                    · skip
                      refine o_ifY X18 hx hby D2_82 ((if0 _ _).trans (teq hc82_19).1) (q := 107) (by decide) (by decide) ?_
                      refine o_iconst X18 hx hby D2_107 (v := 0) rfl ?_
                      exact own_ret (v := some (.int (0 : Int32))) X18 (fun h => by first | rfl | (rw [Bd.returns] at h; cases h)) (BodyLoose.notSynchronized Bd) (by decide) (by decide) (⟨by rw [own_small, if_neg hc2_1, if_neg hc12_3, if_neg hc20_5, if_neg hc28_7, if_neg hc37_9, if_neg hc46_11, if_neg hc55_13, if_neg hc64_15, if_neg hc73_17, if_pos hc82_19], N18, e18⟩) (fun fs hr => retN X18 hx (t := .boolean) Bd.returns (by simp) (hb hby D2_108.1) hr)
                    · skip
                      refine o_ifN X18 hx hby D2_82 ((if0 _ _).trans (feq hc82_19).1) ?_
                      refine o_iloadN X18 hx hby D2_85 rfl ?_
                      refine o_bipush X18 hx hby D2_86 (v := 29) rfl ?_
                      obtain ⟨_, _, ⟨T20, L20, k20, n20⟩, -, X20, ⟨Lc20, hQ20, l20, y20, z20⟩, st20⟩ := Jvm.LawKit.callS X18 hx (y := (⟨"com/example/placer/placer/MaglevIsPrimePinLaw", "ok", "(II)Z"⟩ : MethodName)) hown (mvT hZ (own_wd hw (i := 18) rfl)) (mvT hZ (own_wd hw (i := 19) rfl)) (mvT hZ (own_wd hw (i := 16) rfl)) (mvT hZ (own_wd hw (i := 20) rfl)) (by decide) (backOf (W := 0) (rm3 l Z a0 hw [] p0 (29 : Int32)  h0 n0 Z0 (by decide)) hZ (own_wd hw (i := 20) rfl) (own_wd hw (i := 16) rfl) (by decide) (by decide)) (g := (mkF m 88 #[.val (.int p0)] [(.int (29 : Int32)), (.int p0)])) rfl (by rw [hml]; rfl) (argsL := [(.int p0), (.int (29 : Int32))]) (rest := []) (lenOf pd__40II_41Z rfl) rfl (by show 2 * 0 + _ ≤ _; exact Nat.le_of_eq rfl) (hb hby D2_88.1) (fun _ _ => ⟨rfl, e18, (by decide : 0 + 0 ≤ _), (by decide : 0 + 0 ≤ _)⟩)
                      dsimp only [Pt.U, Pt.locs, Pt.cells, Pt.slots] at X20 l20 y20 z20 st20 hQ20
                      subst l20 y20 z20
                      obtain ⟨rfl, N20q, e20⟩ := hQ20
                      have N20 := Fr.app N18 N20q
                      refine own_pre (A' := T20.setTop (mkF m 91 #[.val (.int p0)] [(.int (own_ok p0 (29 : Int32)))])) st20 ?_
                      by_cases hc91_21 : (own_ok p0 (29 : Int32)) = (0 : Int32)
                      · skip
                        refine o_ifY X20 hx hby D2_91 ((if0 _ _).trans (teq hc91_21).1) (q := 107) (by decide) (by decide) ?_
                        refine o_iconst X20 hx hby D2_107 (v := 0) rfl ?_
                        exact own_ret (v := some (.int (0 : Int32))) X20 (fun h => by first | rfl | (rw [Bd.returns] at h; cases h)) (BodyLoose.notSynchronized Bd) (by decide) (by decide) (⟨by rw [own_small, if_neg hc2_1, if_neg hc12_3, if_neg hc20_5, if_neg hc28_7, if_neg hc37_9, if_neg hc46_11, if_neg hc55_13, if_neg hc64_15, if_neg hc73_17, if_neg hc82_19, if_pos hc91_21], N20, e20⟩) (fun fs hr => retN X20 hx (t := .boolean) Bd.returns (by simp) (hb hby D2_108.1) hr)
                      · skip
                        refine o_ifN X20 hx hby D2_91 ((if0 _ _).trans (feq hc91_21).1) ?_
                        refine o_iloadN X20 hx hby D2_94 rfl ?_
                        refine o_bipush X20 hx hby D2_95 (v := 31) rfl ?_
                        obtain ⟨_, _, ⟨T22, L22, k22, n22⟩, -, X22, ⟨Lc22, hQ22, l22, y22, z22⟩, st22⟩ := Jvm.LawKit.callS X20 hx (y := (⟨"com/example/placer/placer/MaglevIsPrimePinLaw", "ok", "(II)Z"⟩ : MethodName)) hown (mvT hZ (own_wd hw (i := 18) rfl)) (mvT hZ (own_wd hw (i := 19) rfl)) (mvT hZ (own_wd hw (i := 16) rfl)) (mvT hZ (own_wd hw (i := 20) rfl)) (by decide) (backOf (W := 0) (rm3 l Z a0 hw [] p0 (31 : Int32)  h0 n0 Z0 (by decide)) hZ (own_wd hw (i := 20) rfl) (own_wd hw (i := 16) rfl) (by decide) (by decide)) (g := (mkF m 97 #[.val (.int p0)] [(.int (31 : Int32)), (.int p0)])) rfl (by rw [hml]; rfl) (argsL := [(.int p0), (.int (31 : Int32))]) (rest := []) (lenOf pd__40II_41Z rfl) rfl (by show 2 * 0 + _ ≤ _; exact Nat.le_of_eq rfl) (hb hby D2_97.1) (fun _ _ => ⟨rfl, e20, (by decide : 0 + 0 ≤ _), (by decide : 0 + 0 ≤ _)⟩)
                        dsimp only [Pt.U, Pt.locs, Pt.cells, Pt.slots] at X22 l22 y22 z22 st22 hQ22
                        subst l22 y22 z22
                        obtain ⟨rfl, N22q, e22⟩ := hQ22
                        have N22 := Fr.app N20 N22q
                        refine own_pre (A' := T22.setTop (mkF m 100 #[.val (.int p0)] [(.int (own_ok p0 (31 : Int32)))])) st22 ?_
                        by_cases hc100_23 : (own_ok p0 (31 : Int32)) = (0 : Int32)
                        · skip
                          refine o_ifY X22 hx hby D2_100 ((if0 _ _).trans (teq hc100_23).1) (q := 107) (by decide) (by decide) ?_
                          refine o_iconst X22 hx hby D2_107 (v := 0) rfl ?_
                          exact own_ret (v := some (.int (0 : Int32))) X22 (fun h => by first | rfl | (rw [Bd.returns] at h; cases h)) (BodyLoose.notSynchronized Bd) (by decide) (by decide) (⟨by rw [own_small, if_neg hc2_1, if_neg hc12_3, if_neg hc20_5, if_neg hc28_7, if_neg hc37_9, if_neg hc46_11, if_neg hc55_13, if_neg hc64_15, if_neg hc73_17, if_neg hc82_19, if_neg hc91_21, if_pos hc100_23], N22, e22⟩) (fun fs hr => retN X22 hx (t := .boolean) Bd.returns (by simp) (hb hby D2_108.1) hr)
                        · skip
                          refine o_ifN X22 hx hby D2_100 ((if0 _ _).trans (feq hc100_23).1) ?_
                          refine o_iconst X22 hx hby D2_103 (v := 1) rfl ?_
                          refine o_goto X22 hx hby D2_104 (q := 108) (by decide) (by decide) ?_
                          exact own_ret (v := some (.int (1 : Int32))) X22 (fun h => by first | rfl | (rw [Bd.returns] at h; cases h)) (BodyLoose.notSynchronized Bd) (by decide) (by decide) (⟨by rw [own_small, if_neg hc2_1, if_neg hc12_3, if_neg hc20_5, if_neg hc28_7, if_neg hc37_9, if_neg hc46_11, if_neg hc55_13, if_neg hc64_15, if_neg hc73_17, if_neg hc82_19, if_neg hc91_21, if_neg hc100_23], N22, e22⟩) (fun fs hr => retN X22 hx (t := .boolean) Bd.returns (by simp) (hb hby D2_108.1) hr)

def own_rng (n lo : Nat) : Nat → Bool
  | 0 => true
  | k + 1 => (n % (lo + k) != 0) && own_rng n lo k
def own_blk (n : Nat) : Nat → Bool
  | 0 => true
  | b + 1 => own_rng n (2 + 256 * b) 256 && own_blk n b
theorem own_rng_spec {n lo : Nat} : ∀ k, own_rng n lo k = true → ∀ d, lo ≤ d → d < lo + k → ¬ n % d = 0
  | 0, _, d, h1, h2 => by omega
  | k + 1, h, d, h1, h2 => by
    rw [own_rng, Bool.and_eq_true] at h
    by_cases q : d < lo + k
    · exact own_rng_spec k h.2 d h1 q
    · obtain rfl : d = lo + k := by omega
      have := h.1
      simpa using this
set_option maxRecDepth 65536 in
theorem own_blk_spec {n : Nat} : ∀ b, own_blk n b = true → ∀ d, 2 ≤ d → d < 2 + 256 * b → ¬ n % d = 0
  | 0, _, d, h1, h2 => by omega
  | b + 1, h, d, h1, h2 => by
    by_cases q : d < 2 + 256 * b
    · rw [own_blk, Bool.and_eq_true] at h
      exact own_blk_spec b h.2 d h1 q
    · have q1 : 2 + 256 * b ≤ d := by clear h; omega
      have q2 : d < 2 + 256 * b + 256 := by clear h; omega
      rw [own_blk, Bool.and_eq_true] at h
      exact own_rng_spec 256 h.1 d q1 q2
theorem own_prime {p : Int32} {n b : Nat} (e : p.toInt.toNat = n) (h2 : 2 ≤ n) (h : own_blk n b = true) (hb : n < (2 + 256 * b) * (2 + 256 * b)) : own_Pr p := by
  refine ⟨by omega, fun d h1 hd => ?_⟩
  rw [e] at hd ⊢
  refine own_blk_spec b h d h1 ?_
  by_cases q : d < 2 + 256 * b
  · exact q
  · have : (2 + 256 * b) * (2 + 256 * b) ≤ d * d := Nat.mul_le_mul (by omega) (by omega)
    omega
theorem own_c0 : own_blk 2147483647 182 = true := by decide +kernel
theorem own_p0 : own_Pr (2147483647 : Int32) := own_prime (n := 2147483647) (b := 182) rfl (by decide) own_c0 (by decide)
theorem own_c1 : own_blk 2147483629 182 = true := by decide +kernel
theorem own_p1 : own_Pr (2147483629 : Int32) := own_prime (n := 2147483629) (b := 182) rfl (by decide) own_c1 (by decide)
theorem own_c2 : own_blk 2147483587 182 = true := by decide +kernel
theorem own_p2 : own_Pr (2147483587 : Int32) := own_prime (n := 2147483587) (b := 182) rfl (by decide) own_c2 (by decide)
theorem own_c3 : own_blk 1000000007 124 = true := by decide +kernel
theorem own_p3 : own_Pr (1000000007 : Int32) := own_prime (n := 1000000007) (b := 124) rfl (by decide) own_c3 (by decide)
theorem own_c4 : own_blk 999999937 124 = true := by decide +kernel
theorem own_p4 : own_Pr (999999937 : Int32) := own_prime (n := 999999937) (b := 124) rfl (by decide) own_c4 (by decide)
theorem own_c5 : own_blk 65537 1 = true := by decide +kernel
theorem own_p5 : own_Pr (65537 : Int32) := own_prime (n := 65537) (b := 1) rfl (by decide) own_c5 (by decide)
theorem own_c6 : own_blk 65521 1 = true := by decide +kernel
theorem own_p6 : own_Pr (65521 : Int32) := own_prime (n := 65521) (b := 1) rfl (by decide) own_c6 (by decide)
theorem own_c7 : own_blk 46337 1 = true := by decide +kernel
theorem own_p7 : own_Pr (46337 : Int32) := own_prime (n := 46337) (b := 1) rfl (by decide) own_c7 (by decide)

theorem own_sm : ∀ k : Fin 1369, 2 ≤ k.val → (((∀ d : Fin 37, 2 ≤ d.val → d.val * d.val ≤ k.val → ¬ k.val % d.val = 0) ∧ own_small (Int32.ofNat k.val) = 1) ∨ ((¬ ∀ d : Fin 37, 2 ≤ d.val → d.val * d.val ≤ k.val → ¬ k.val % d.val = 0) ∧ own_small (Int32.ofNat k.val) = 0)) := by decide +kernel
theorem own_mode0 {n m r : Int32} (hm : n % (1369 : Int32) = m) (hr : own_Is m r) : r = own_small m := by
  by_cases h2 : m < (2 : Int32)
  · rw [own_low hr h2, own_small, if_pos h2]
  · have k : (1369 : Int32).toInt = 1369 := rfl
    have e : m.toInt = n.toInt.tmod 1369 := by rw [← hm, Jvm.Kit.i32_rem, k]
    have l : m.toInt < 1369 := by rw [e]; exact Int.tmod_lt_of_pos _ (by decide)
    rw [Int32.lt_iff_toInt_lt, own_k2] at h2
    have em : m = Int32.ofNat m.toInt.toNat := by
      rw [← Int32.toInt_inj, Int32.toInt_ofNat_of_lt (by omega)]; omega
    have key := own_sm ⟨m.toInt.toNat, by omega⟩ (by show 2 ≤ m.toInt.toNat; omega)
    dsimp only at key
    rw [← em] at key
    have iff : own_Pr m ↔ ∀ d : Fin 37, 2 ≤ d.val → d.val * d.val ≤ m.toInt.toNat → ¬ m.toInt.toNat % d.val = 0 := by
      constructor
      · intro h d; exact h.2 d.val
      · intro h
        refine ⟨by omega, fun d hd hq => ?_⟩
        have : d < 37 := by
          by_cases q : d < 37
          · exact q
          · have : 37 * 37 ≤ d * d := Nat.mul_le_mul (by omega) (by omega)
            omega
        exact h ⟨d, this⟩ hd hq
    rw [← iff] at key
    rcases hr with ⟨rfl, hp⟩ | ⟨rfl, hn⟩
    · rcases key with ⟨-, h⟩ | ⟨h, -⟩
      · exact h.symm
      · exact absurd hp h
    · rcases key with ⟨h, -⟩ | ⟨-, h⟩
      · exact absurd h hn
      · exact h.symm
theorem own_msk (a : Int32) : 0 ≤ (a &&& (2147483647 : Int32)).toInt := by
  have e1 : (a &&& 2147483647).toInt = a.toInt % 2 ^ 31 := Jvm.Kit.i32_mask a 2147483647 (k := 31) (by decide) (by decide)
  rw [e1]; omega
theorem own_x {a x : Int32} (hx : (2 : Int32) + (a &&& (2147483647 : Int32)) % (46339 : Int32) = x) : 2 ≤ x.toInt ∧ x.toInt ≤ 46340 := by
  have k : (46339 : Int32).toInt = 46339 := rfl
  have e1 : ((a &&& (2147483647 : Int32)) % (46339 : Int32)).toInt = (a &&& (2147483647 : Int32)).toInt % 46339 := by rw [Jvm.Kit.i32_rem_nonneg (own_msk a), k]
  have e2 : x.toInt = 2 + (a &&& (2147483647 : Int32)).toInt % 46339 := by
    rw [← hx, Jvm.Kit.i32_add (by rw [own_k2, e1]; omega) (by rw [own_k2, e1]; omega), own_k2, e1]
  omega
theorem own_xnz {x : Int32} (h : 2 ≤ x.toInt ∧ x.toInt ≤ 46340) : ¬ (x = (0 : Int32)) := by
  rw [← Int32.toInt_inj, own_k0]; omega
theorem own_h {x hi : Int32} (hx : 2 ≤ x.toInt ∧ x.toInt ≤ 46340) (hh : (2147483647 : Int32) / x = hi) : x.toInt ≤ hi.toInt ∧ hi.toInt * x.toInt ≤ 2147483647 := by
  obtain ⟨h1, h2⟩ := hx
  have e : hi.toInt = 2147483647 / x.toInt := by
    rw [← hh, Jvm.Kit.i32_div (by rw [own_kM]; omega), own_kM, Int.tdiv_eq_ediv_of_nonneg (by decide)]
  rw [e]
  refine ⟨(Int.le_ediv_iff_mul_le (by omega)).mpr ?_, Int.ediv_mul_le _ (by omega)⟩
  have q1 := Int.mul_le_mul_of_nonneg_right h2 (by omega : 0 ≤ x.toInt)
  omega
theorem own_dv {x hi : Int32} (hx : 2 ≤ x.toInt ∧ x.toInt ≤ 46340) (hh : x.toInt ≤ hi.toInt ∧ hi.toInt * x.toInt ≤ 2147483647) : ((hi - x) + (1 : Int32)).toInt = hi.toInt - x.toInt + 1 := by
  have k1 : (1 : Int32).toInt = 1 := rfl
  have b1 := hi.toInt_lt
  have e1 : (hi - x).toInt = hi.toInt - x.toInt := Jvm.Kit.i32_sub (by omega) (by omega)
  rw [Jvm.Kit.i32_add (by rw [e1, k1]; omega) (by rw [e1, k1]; omega), e1, k1]
theorem own_dvnz {x hi : Int32} (hx : 2 ≤ x.toInt ∧ x.toInt ≤ 46340) (hh : x.toInt ≤ hi.toInt ∧ hi.toInt * x.toInt ≤ 2147483647) : ¬ (((hi - x) + (1 : Int32)) = (0 : Int32)) := by
  rw [← Int32.toInt_inj, own_k0, own_dv hx hh]; omega
theorem own_y {b x hi y : Int32} (hx : 2 ≤ x.toInt ∧ x.toInt ≤ 46340) (hh : x.toInt ≤ hi.toInt ∧ hi.toInt * x.toInt ≤ 2147483647) (hy : x + (b &&& (2147483647 : Int32)) % ((hi - x) + (1 : Int32)) = y) : ¬ own_Pr (x * y) := by
  have e1 : ((b &&& (2147483647 : Int32)) % ((hi - x) + (1 : Int32))).toInt = (b &&& (2147483647 : Int32)).toInt % (hi.toInt - x.toInt + 1) := by rw [Jvm.Kit.i32_rem_nonneg (own_msk b), own_dv hx hh]
  have g1 := Int.emod_nonneg (b &&& (2147483647 : Int32)).toInt (by omega : hi.toInt - x.toInt + 1 ≠ 0)
  have g2 := Int.emod_lt_of_pos (b &&& (2147483647 : Int32)).toInt (by omega : 0 < hi.toInt - x.toInt + 1)
  generalize (b &&& (2147483647 : Int32)).toInt % (hi.toInt - x.toInt + 1) = q at e1 g1 g2
  have b1 := hi.toInt_lt
  have e2 : y.toInt = x.toInt + q := by
    rw [← hy, Jvm.Kit.i32_add (by rw [e1]; omega) (by rw [e1]; omega), e1]
  have q1 := Int.mul_le_mul_of_nonneg_right (by omega : y.toInt ≤ hi.toInt) (by omega : 0 ≤ x.toInt)
  have q2 := Int.mul_le_mul_of_nonneg_right (by omega : x.toInt ≤ y.toInt) (by omega : 0 ≤ x.toInt)
  have q3 : 0 ≤ x.toInt * x.toInt := Int.mul_nonneg (by omega) (by omega)
  have c1 : x.toInt * y.toInt = y.toInt * x.toInt := Int.mul_comm _ _
  have e3 : (x * y).toInt = x.toInt * y.toInt := Jvm.Kit.i32_mul (by omega) (by omega)
  rintro ⟨-, h⟩
  have ex : x.toInt = (x.toInt.toNat : Int) := by omega
  have ey : y.toInt = (y.toInt.toNat : Int) := by omega
  have en : (x * y).toInt.toNat = x.toInt.toNat * y.toInt.toNat := by
    rw [e3]
    generalize x.toInt.toNat = X at ex
    generalize y.toInt.toNat = Y at ey
    rw [ex, ey, ← Int.natCast_mul]
    rfl
  refine h x.toInt.toNat (by omega) ?_ ?_
  · rw [en]; exact Nat.mul_le_mul (Nat.le_refl _) (by omega)
  · rw [en]; exact Nat.mul_mod_right _ _
theorem own_r0 {n r : Int32} (hr : own_Is n r) (h : ¬ own_Pr n) : r = 0 := by
  rcases hr with ⟨rfl, hp⟩ | ⟨rfl, -⟩
  · exact absurd hp h
  · rfl
theorem own_idx (b : Int32) : (b &&& (2147483647 : Int32)) % (8 : Int32) = (0 : Int32) ∨ (b &&& (2147483647 : Int32)) % (8 : Int32) = (1 : Int32) ∨ (b &&& (2147483647 : Int32)) % (8 : Int32) = (2 : Int32) ∨ (b &&& (2147483647 : Int32)) % (8 : Int32) = (3 : Int32) ∨ (b &&& (2147483647 : Int32)) % (8 : Int32) = (4 : Int32) ∨ (b &&& (2147483647 : Int32)) % (8 : Int32) = (5 : Int32) ∨ (b &&& (2147483647 : Int32)) % (8 : Int32) = (6 : Int32) ∨ (b &&& (2147483647 : Int32)) % (8 : Int32) = (7 : Int32) := by
  have k : (8 : Int32).toInt = 8 := rfl
  have e1 : ((b &&& (2147483647 : Int32)) % (8 : Int32)).toInt = (b &&& (2147483647 : Int32)).toInt % 8 := by rw [Jvm.Kit.i32_rem_nonneg (own_msk b), k]
  generalize (b &&& (2147483647 : Int32)) % (8 : Int32) = q at e1
  generalize (b &&& (2147483647 : Int32)).toInt = z at e1
  have c0 : (0 : Int32).toInt = 0 := rfl
  have c1 : (1 : Int32).toInt = 1 := rfl
  have c2 : (2 : Int32).toInt = 2 := rfl
  have c3 : (3 : Int32).toInt = 3 := rfl
  have c4 : (4 : Int32).toInt = 4 := rfl
  have c5 : (5 : Int32).toInt = 5 := rfl
  have c6 : (6 : Int32).toInt = 6 := rfl
  have c7 : (7 : Int32).toInt = 7 := rfl
  simp only [← Int32.toInt_inj, c0, c1, c2, c3, c4, c5, c6, c7]
  omega
theorem own_two : own_Pr (2 : Int32) := by
  refine ⟨by decide, fun d h1 h2 => ?_⟩
  have : 2 * 2 ≤ d * d := Nat.mul_le_mul h1 h1
  have e : (2 : Int32).toInt.toNat = 2 := rfl
  omega
theorem own_m3a {n r : Int32} (hr : own_Is n r) (h : n = (2 : Int32)) : r = 1 := by
  subst h
  rcases hr with ⟨rfl, -⟩ | ⟨rfl, hn⟩
  · rfl
  · exact absurd own_two hn
theorem own_m3b {n r : Int32} (hr : own_Is n r) (h2 : ¬ (2 : Int32) < n) (h : ¬ n = (2 : Int32)) : r = 0 := by
  refine own_low hr ?_
  rw [Int32.lt_iff_toInt_lt, own_k2] at h2 ⊢
  rw [← Int32.toInt_inj, own_k2] at h
  omega
theorem own_n2 {n : Int32} (h : (2 : Int32) < n) : (n - (2 : Int32)).toInt = n.toInt - 2 ∧ 3 ≤ n.toInt := by
  rw [Int32.lt_iff_toInt_lt, own_k2] at h
  have := n.toInt_lt
  exact ⟨by rw [Jvm.Kit.i32_sub (by rw [own_k2]; omega) (by rw [own_k2]; omega), own_k2], by omega⟩
theorem own_n2nz {n : Int32} (h : (2 : Int32) < n) : ¬ ((n - (2 : Int32)) = (0 : Int32)) := by
  have := own_n2 h
  rw [← Int32.toInt_inj, own_k0, this.1]; omega
theorem own_d {a n d : Int32} (h : (2 : Int32) < n) (hd : (2 : Int32) + (a &&& (2147483647 : Int32)) % (n - (2 : Int32)) = d) : 2 ≤ d.toInt ∧ d.toInt < n.toInt := by
  obtain ⟨e0, h3⟩ := own_n2 h
  have e1 : ((a &&& (2147483647 : Int32)) % (n - (2 : Int32))).toInt = (a &&& (2147483647 : Int32)).toInt % (n.toInt - 2) := by rw [Jvm.Kit.i32_rem_nonneg (own_msk a), e0]
  have g1 := Int.emod_nonneg (a &&& (2147483647 : Int32)).toInt (by omega : n.toInt - 2 ≠ 0)
  have g2 := Int.emod_lt_of_pos (a &&& (2147483647 : Int32)).toInt (by omega : 0 < n.toInt - 2)
  generalize (a &&& (2147483647 : Int32)).toInt % (n.toInt - 2) = q at e1 g1 g2
  have b1 := n.toInt_lt
  have e2 : d.toInt = 2 + q := by
    rw [← hd, Jvm.Kit.i32_add (by rw [own_k2, e1]; omega) (by rw [own_k2, e1]; omega), own_k2, e1]
  omega
theorem own_dnz {n d : Int32} (h : 2 ≤ d.toInt ∧ d.toInt < n.toInt) : ¬ (d = (0 : Int32)) := by
  rw [← Int32.toInt_inj, own_k0]; omega
theorem own_nodiv {N D : Nat} (hp : ∀ d : Nat, 2 ≤ d → d * d ≤ N → ¬ N % d = 0) (h2 : 2 ≤ D) (hD : D < N) : ¬ N % D = 0 := by
  intro hz
  by_cases q : D * D ≤ N
  · exact hp D h2 q hz
  · have e : D * (N / D) = N := Nat.mul_div_cancel' (Nat.dvd_of_mod_eq_zero hz)
    generalize N / D = E at e
    subst e
    have hE : E < D := by
      by_cases w : E < D
      · exact w
      · have : D * D ≤ D * E := Nat.mul_le_mul (Nat.le_refl _) (by omega)
        omega
    have hE2 : 2 ≤ E := by
      by_cases w : 2 ≤ E
      · exact w
      · have : E = 0 ∨ E = 1 := by omega
        rcases this with rfl | rfl
        · simp at hD
        · simp at hD
    refine hp E hE2 (Nat.mul_le_mul (by omega) (Nat.le_refl _)) ?_
    exact Nat.mul_mod_left _ _
theorem own_m3c {n d r : Int32} (hr : own_Is n r) (h0 : ¬ r = (0 : Int32)) (h : 2 ≤ d.toInt ∧ d.toInt < n.toInt) : ¬ (n % d = (0 : Int32)) := by
  rcases hr with ⟨rfl, hp⟩ | ⟨rfl, -⟩
  · have key := own_nodiv hp.2 (by omega : 2 ≤ d.toInt.toNat) (by omega)
    have h1 := hp.1
    rw [← Int32.toInt_inj, Jvm.Kit.i32_rem_nonneg (by omega), own_k0]
    have en : n.toInt = (n.toInt.toNat : Int) := by omega
    have ed : d.toInt = (d.toInt.toNat : Int) := by omega
    generalize n.toInt.toNat = N at en key
    generalize d.toInt.toNat = D at ed key
    rw [en, ed, ← Int.natCast_emod]
    omega
  · exact absurd rfl h0
theorem pd__40I_41Z : parseMethodDescriptor "(I)Z" = some ⟨[.int], some .boolean⟩ := by decide +kernel
theorem D0_0 : own_at code 0 (.iload_n 3) 1 1 := ⟨at_0, rfl⟩
theorem D0_1 : own_at code 1 (.iconst 3) 1 2 := ⟨at_1, rfl⟩
theorem D0_2 : own_at code 2 (.iand) 1 3 := ⟨at_2, rfl⟩
theorem D0_3 : own_at code 3 (.istore 4) 2 5 := ⟨at_3, rfl⟩
theorem D0_5 : own_at code 5 (.iload 4) 2 7 := ⟨at_5, rfl⟩
theorem D0_7 : own_at code 7 (.ifCond .ne 29) 3 10 := ⟨at_7, rfl⟩
theorem D0_10 : own_at code 10 (.iload_n 2) 1 11 := ⟨at_10, rfl⟩
theorem D0_11 : own_at code 11 (.sipush 1369) 3 14 := ⟨at_11, rfl⟩
theorem D0_14 : own_at code 14 (.irem) 1 15 := ⟨at_14, rfl⟩
theorem D0_15 : own_at code 15 (.istore 5) 2 17 := ⟨at_15, rfl⟩
theorem D0_17 : own_at code 17 (.iload 5) 2 19 := ⟨at_17, rfl⟩
theorem D0_19 : own_at code 19 (.invokestatic 7) 3 22 := ⟨at_19, rfl⟩
theorem D0_22 : own_at code 22 (.iload 5) 2 24 := ⟨at_22, rfl⟩
theorem D0_24 : own_at code 24 (.invokestatic 13) 3 27 := ⟨at_24, rfl⟩
theorem D0_27 : own_at code 27 (.if_icmp .ne 7) 3 30 := ⟨at_27, rfl⟩
theorem D0_30 : own_at code 30 (.iconst 1) 1 31 := ⟨at_30, rfl⟩
theorem D0_31 : own_at code 31 (.goto 4) 3 34 := ⟨at_31, rfl⟩
theorem D0_35 : own_at code 35 (.ireturn) 1 36 := ⟨at_35, rfl⟩
theorem D0_36 : own_at code 36 (.iload 4) 2 38 := ⟨at_36, rfl⟩
theorem D0_38 : own_at code 38 (.iconst 1) 1 39 := ⟨at_38, rfl⟩
theorem D0_39 : own_at code 39 (.if_icmp .ne 55) 3 42 := ⟨at_39, rfl⟩
theorem D0_42 : own_at code 42 (.iconst 2) 1 43 := ⟨at_42, rfl⟩
theorem D0_43 : own_at code 43 (.iload_n 0) 1 44 := ⟨at_43, rfl⟩
theorem D0_44 : own_at code 44 (.ldc 18) 2 46 := ⟨at_44, rfl⟩
theorem D0_46 : own_at code 46 (.iand) 1 47 := ⟨at_46, rfl⟩
theorem D0_47 : own_at code 47 (.ldc 19) 2 49 := ⟨at_47, rfl⟩
theorem D0_49 : own_at code 49 (.irem) 1 50 := ⟨at_49, rfl⟩
theorem D0_50 : own_at code 50 (.iadd) 1 51 := ⟨at_50, rfl⟩
theorem D0_51 : own_at code 51 (.istore 5) 2 53 := ⟨at_51, rfl⟩
theorem D0_53 : own_at code 53 (.ldc 18) 2 55 := ⟨at_53, rfl⟩
theorem D0_55 : own_at code 55 (.iload 5) 2 57 := ⟨at_55, rfl⟩
theorem D0_57 : own_at code 57 (.idiv) 1 58 := ⟨at_57, rfl⟩
theorem D0_58 : own_at code 58 (.istore 6) 2 60 := ⟨at_58, rfl⟩
theorem D0_60 : own_at code 60 (.iload 5) 2 62 := ⟨at_60, rfl⟩
theorem D0_62 : own_at code 62 (.iload_n 1) 1 63 := ⟨at_62, rfl⟩
theorem D0_63 : own_at code 63 (.ldc 18) 2 65 := ⟨at_63, rfl⟩
theorem D0_65 : own_at code 65 (.iand) 1 66 := ⟨at_65, rfl⟩
theorem D0_66 : own_at code 66 (.iload 6) 2 68 := ⟨at_66, rfl⟩
theorem D0_68 : own_at code 68 (.iload 5) 2 70 := ⟨at_68, rfl⟩
theorem D0_70 : own_at code 70 (.isub) 1 71 := ⟨at_70, rfl⟩
theorem D0_71 : own_at code 71 (.iconst 1) 1 72 := ⟨at_71, rfl⟩
theorem D0_72 : own_at code 72 (.iadd) 1 73 := ⟨at_72, rfl⟩
theorem D0_73 : own_at code 73 (.irem) 1 74 := ⟨at_73, rfl⟩
theorem D0_74 : own_at code 74 (.iadd) 1 75 := ⟨at_74, rfl⟩
theorem D0_75 : own_at code 75 (.istore 7) 2 77 := ⟨at_75, rfl⟩
theorem D0_77 : own_at code 77 (.iload 5) 2 79 := ⟨at_77, rfl⟩
theorem D0_79 : own_at code 79 (.iload 7) 2 81 := ⟨at_79, rfl⟩
theorem D0_81 : own_at code 81 (.imul) 1 82 := ⟨at_81, rfl⟩
theorem D0_82 : own_at code 82 (.invokestatic 7) 3 85 := ⟨at_82, rfl⟩
theorem D0_85 : own_at code 85 (.ifCond .ne 7) 3 88 := ⟨at_85, rfl⟩
theorem D0_88 : own_at code 88 (.iconst 1) 1 89 := ⟨at_88, rfl⟩
theorem D0_89 : own_at code 89 (.goto 4) 3 92 := ⟨at_89, rfl⟩
theorem D0_93 : own_at code 93 (.ireturn) 1 94 := ⟨at_93, rfl⟩
theorem D0_94 : own_at code 94 (.iload 4) 2 96 := ⟨at_94, rfl⟩
theorem D0_96 : own_at code 96 (.iconst 2) 1 97 := ⟨at_96, rfl⟩
theorem D0_97 : own_at code 97 (.if_icmp .ne 65) 3 100 := ⟨at_97, rfl⟩
theorem D0_100 : own_at code 100 (.bipush 8) 2 102 := ⟨at_100, rfl⟩
theorem D0_102 : own_at code 102 (.newarray .int) 2 104 := ⟨at_102, rfl⟩
theorem D0_104 : own_at code 104 (.dup) 1 105 := ⟨at_104, rfl⟩
theorem D0_105 : own_at code 105 (.iconst 0) 1 106 := ⟨at_105, rfl⟩
theorem D0_106 : own_at code 106 (.ldc 18) 2 108 := ⟨at_106, rfl⟩
theorem D0_108 : own_at code 108 (.iastore) 1 109 := ⟨at_108, rfl⟩
theorem D0_109 : own_at code 109 (.dup) 1 110 := ⟨at_109, rfl⟩
theorem D0_110 : own_at code 110 (.iconst 1) 1 111 := ⟨at_110, rfl⟩
theorem D0_111 : own_at code 111 (.ldc 22) 2 113 := ⟨at_111, rfl⟩
theorem D0_113 : own_at code 113 (.iastore) 1 114 := ⟨at_113, rfl⟩
theorem D0_114 : own_at code 114 (.dup) 1 115 := ⟨at_114, rfl⟩
theorem D0_115 : own_at code 115 (.iconst 2) 1 116 := ⟨at_115, rfl⟩
theorem D0_116 : own_at code 116 (.ldc 23) 2 118 := ⟨at_116, rfl⟩
theorem D0_118 : own_at code 118 (.iastore) 1 119 := ⟨at_118, rfl⟩
theorem D0_119 : own_at code 119 (.dup) 1 120 := ⟨at_119, rfl⟩
theorem D0_120 : own_at code 120 (.iconst 3) 1 121 := ⟨at_120, rfl⟩
theorem D0_121 : own_at code 121 (.ldc 24) 2 123 := ⟨at_121, rfl⟩
theorem D0_123 : own_at code 123 (.iastore) 1 124 := ⟨at_123, rfl⟩
theorem D0_124 : own_at code 124 (.dup) 1 125 := ⟨at_124, rfl⟩
theorem D0_125 : own_at code 125 (.iconst 4) 1 126 := ⟨at_125, rfl⟩
theorem D0_126 : own_at code 126 (.ldc 25) 2 128 := ⟨at_126, rfl⟩
theorem D0_128 : own_at code 128 (.iastore) 1 129 := ⟨at_128, rfl⟩
theorem D0_129 : own_at code 129 (.dup) 1 130 := ⟨at_129, rfl⟩
theorem D0_130 : own_at code 130 (.iconst 5) 1 131 := ⟨at_130, rfl⟩
theorem D0_131 : own_at code 131 (.ldc 26) 2 133 := ⟨at_131, rfl⟩
theorem D0_133 : own_at code 133 (.iastore) 1 134 := ⟨at_133, rfl⟩
theorem D0_134 : own_at code 134 (.dup) 1 135 := ⟨at_134, rfl⟩
theorem D0_135 : own_at code 135 (.bipush 6) 2 137 := ⟨at_135, rfl⟩
theorem D0_137 : own_at code 137 (.ldc 27) 2 139 := ⟨at_137, rfl⟩
theorem D0_139 : own_at code 139 (.iastore) 1 140 := ⟨at_139, rfl⟩
theorem D0_140 : own_at code 140 (.dup) 1 141 := ⟨at_140, rfl⟩
theorem D0_141 : own_at code 141 (.bipush 7) 2 143 := ⟨at_141, rfl⟩
theorem D0_143 : own_at code 143 (.ldc 28) 2 145 := ⟨at_143, rfl⟩
theorem D0_145 : own_at code 145 (.iastore) 1 146 := ⟨at_145, rfl⟩
theorem D0_146 : own_at code 146 (.astore 5) 2 148 := ⟨at_146, rfl⟩
theorem D0_148 : own_at code 148 (.aload 5) 2 150 := ⟨at_148, rfl⟩
theorem D0_150 : own_at code 150 (.iload_n 1) 1 151 := ⟨at_150, rfl⟩
theorem D0_151 : own_at code 151 (.ldc 18) 2 153 := ⟨at_151, rfl⟩
theorem D0_153 : own_at code 153 (.iand) 1 154 := ⟨at_153, rfl⟩
theorem D0_154 : own_at code 154 (.bipush 8) 2 156 := ⟨at_154, rfl⟩
theorem D0_156 : own_at code 156 (.irem) 1 157 := ⟨at_156, rfl⟩
theorem D0_157 : own_at code 157 (.iaload) 1 158 := ⟨at_157, rfl⟩
theorem D0_158 : own_at code 158 (.invokestatic 7) 3 161 := ⟨at_158, rfl⟩
theorem D0_161 : own_at code 161 (.ireturn) 1 162 := ⟨at_161, rfl⟩
theorem D0_162 : own_at code 162 (.iload_n 2) 1 163 := ⟨at_162, rfl⟩
theorem D0_163 : own_at code 163 (.iconst 2) 1 164 := ⟨at_163, rfl⟩
theorem D0_164 : own_at code 164 (.if_icmp .gt 26) 3 167 := ⟨at_164, rfl⟩
theorem D0_167 : own_at code 167 (.iload_n 2) 1 168 := ⟨at_167, rfl⟩
theorem D0_168 : own_at code 168 (.invokestatic 7) 3 171 := ⟨at_168, rfl⟩
theorem D0_171 : own_at code 171 (.iload_n 2) 1 172 := ⟨at_171, rfl⟩
theorem D0_172 : own_at code 172 (.iconst 2) 1 173 := ⟨at_172, rfl⟩
theorem D0_173 : own_at code 173 (.if_icmp .ne 7) 3 176 := ⟨at_173, rfl⟩
theorem D0_176 : own_at code 176 (.iconst 1) 1 177 := ⟨at_176, rfl⟩
theorem D0_177 : own_at code 177 (.goto 4) 3 180 := ⟨at_177, rfl⟩
theorem D0_180 : own_at code 180 (.iconst 0) 1 181 := ⟨at_180, rfl⟩
theorem D0_181 : own_at code 181 (.if_icmp .ne 7) 3 184 := ⟨at_181, rfl⟩
theorem D0_184 : own_at code 184 (.iconst 1) 1 185 := ⟨at_184, rfl⟩
theorem D0_185 : own_at code 185 (.goto 4) 3 188 := ⟨at_185, rfl⟩
theorem D0_189 : own_at code 189 (.ireturn) 1 190 := ⟨at_189, rfl⟩
theorem D0_190 : own_at code 190 (.iconst 2) 1 191 := ⟨at_190, rfl⟩
theorem D0_191 : own_at code 191 (.iload_n 0) 1 192 := ⟨at_191, rfl⟩
theorem D0_192 : own_at code 192 (.ldc 18) 2 194 := ⟨at_192, rfl⟩
theorem D0_194 : own_at code 194 (.iand) 1 195 := ⟨at_194, rfl⟩
theorem D0_195 : own_at code 195 (.iload_n 2) 1 196 := ⟨at_195, rfl⟩
theorem D0_196 : own_at code 196 (.iconst 2) 1 197 := ⟨at_196, rfl⟩
theorem D0_197 : own_at code 197 (.isub) 1 198 := ⟨at_197, rfl⟩
theorem D0_198 : own_at code 198 (.irem) 1 199 := ⟨at_198, rfl⟩
theorem D0_199 : own_at code 199 (.iadd) 1 200 := ⟨at_199, rfl⟩
theorem D0_200 : own_at code 200 (.istore 5) 2 202 := ⟨at_200, rfl⟩
theorem D0_202 : own_at code 202 (.iload_n 2) 1 203 := ⟨at_202, rfl⟩
theorem D0_203 : own_at code 203 (.invokestatic 7) 3 206 := ⟨at_203, rfl⟩
theorem D0_206 : own_at code 206 (.ifCond .eq 10) 3 209 := ⟨at_206, rfl⟩
theorem D0_209 : own_at code 209 (.iload_n 2) 1 210 := ⟨at_209, rfl⟩
theorem D0_210 : own_at code 210 (.iload 5) 2 212 := ⟨at_210, rfl⟩
theorem D0_212 : own_at code 212 (.irem) 1 213 := ⟨at_212, rfl⟩
theorem D0_213 : own_at code 213 (.ifCond .eq 7) 3 216 := ⟨at_213, rfl⟩
theorem D0_216 : own_at code 216 (.iconst 1) 1 217 := ⟨at_216, rfl⟩
theorem D0_217 : own_at code 217 (.goto 4) 3 220 := ⟨at_217, rfl⟩
theorem D0_221 : own_at code 221 (.ireturn) 1 222 := ⟨at_221, rfl⟩
theorem ef_rm0 (m : MethodId) (p0 : Int32) (p1 : Int32) (p2 : Int32) (p3 : Int32) : entryFrame m #[(.int p0), (.int p1), (.int p2), (.int p3)] maxLocals = mkF m 0 #[.val (.int p0), .val (.int p1), .val (.int p2), .val (.int p3), .unset, .unset, .unset, .unset] [] := by first | (simp [entryFrame, mkF, argsToLocals, Value.category, maxLocals]; done) | rfl
set_option maxRecDepth 65536 in
set_option maxHeartbeats 40000000 in
theorem rm0 (l : Launch) (Z : State) (a0 : Array Value) (hw : ∀ d ∈ tables_1, d.before a0 Z = true) (ws : List Jvm.Cond) (p0 : Int32) (p1 : Int32) (p2 : Int32) (p3 : Int32)  (h0 : Heap) (n0 : Nat) (Z0 : n0 ≤ h0.size)  :
    MetFree l x (head1 (Jvm.Cond.code x code maxLocals ret :: ws) room_1) (fun a U => a = #[(.int p0), (.int p1), (.int p2), (.int p3)] ∧ Z.Warmed39 U.vm ∧ U.heap = h0) (fun _ _ _ _ _ => True) (fun _ U o U' => ∃ v L, o = .returned v ∧ own_Q0 n0 v U'.heap L ∧ FrameEnd U o U' L room_1.cells room_1.slots) := by
  refine MetFree.of_bodySF (plainFor_of_name pn_com_example_placer_placer_MaglevIsPrimePinLaw) hisR ?_
  intro p e s m args below meth c s₁ Bd hml0 hP hK
  obtain ⟨rfl, hZ, hh⟩ := hP
  have hx := Bd.exec
  have hby := Bd.bytes
  have hml : c.maxLocals = 8 := hml0
  have hown : s.vm.findClass "com/example/placer/placer/MaglevIsPrimePinLaw" = some m.cls := findClass_of_methodNamed Bd.named
  have hnm := (name_of_methodNamed Bd.named Bd.method).1
  have X0 : Stand p l e room_1 s m #[(.int p0), (.int p1), (.int p2), (.int p3)] below meth c s₁ [] 0 0 := Stand.of_body Bd
  have e0 : s₁.heap = h0 := by rw [← hh, Bd.state]; rfl
  have N0 := Fr.nil n0
  refine own_start (ef_rm0 m p0 p1 p2 p3) ?_
  refine o_iloadN X0 hx hby D0_0 rfl ?_
  refine o_iconst X0 hx hby D0_1 (v := 3) rfl ?_
  refine o_iand X0 hx hby D0_2 ?_
  refine o_istore X0 hx hby D0_3 (l' := #[.val (.int p0), .val (.int p1), .val (.int p2), .val (.int p3), .val (.int (p3 &&& (3 : Int32))), .unset, .unset, .unset]) rfl ?_
  generalize hmd : (p3 &&& (3 : Int32)) = md
  refine o_iload X0 hx hby D0_5 rfl ?_
  by_cases hc7_1 : md = (0 : Int32)
  · skip
    refine o_ifN X0 hx hby D0_7 ((if0 _ _).trans (teq hc7_1).2) ?_
    refine o_iloadN X0 hx hby D0_10 rfl ?_
    refine o_sipush X0 hx hby D0_11 (v := 1369) rfl ?_
    refine o_irem X0 hx hby D0_14 (by decide) ?_
    refine o_istore X0 hx hby D0_15 (l' := #[.val (.int p0), .val (.int p1), .val (.int p2), .val (.int p3), .val (.int md), .val (.int (p2 % (1369 : Int32))), .unset, .unset]) rfl ?_
    generalize hmm : (p2 % (1369 : Int32)) = mm
    refine o_iload X0 hx hby D0_17 rfl ?_
    obtain ⟨r2, hr2⟩ := own_is mm
    obtain ⟨_, _, ⟨T2, L2, k2, n2⟩, -, X2, ⟨Lc2, hQ2, l2, y2, z2⟩, st2⟩ := Jvm.LawKit.callS X0 hx (y := (⟨"com/example/placer/placer/Maglev", "isPrime", "(I)Z"⟩ : MethodName)) hown (mvT hZ (own_wd hw (i := 2) rfl)) (mvT hZ (own_wd hw (i := 3) rfl)) (mvT hZ (own_wd hw (i := 4) rfl)) (mvT hZ (own_wd hw (i := 5) rfl)) (by decide) (backOf (W := 0) (rm1 l Z a0 hw [] mm r2 h0 n0 Z0 hr2) hZ (own_wd hw (i := 5) rfl) (own_wd hw (i := 4) rfl) (by decide) (by decide)) (g := (mkF m 19 #[.val (.int p0), .val (.int p1), .val (.int p2), .val (.int p3), .val (.int md), .val (.int mm), .unset, .unset] [(.int mm)])) rfl (by rw [hml]; rfl) (argsL := [(.int mm)]) (rest := []) (lenOf pd__40I_41Z rfl) rfl (by show 2 * 0 + _ ≤ _; exact Nat.le_of_eq rfl) (hb hby D0_19.1) (fun _ _ => ⟨rfl, e0, (by decide : 0 + 0 ≤ _), (by decide : 0 + 0 ≤ _)⟩)
    dsimp only [Pt.U, Pt.locs, Pt.cells, Pt.slots] at X2 l2 y2 z2 st2 hQ2
    subst l2 y2 z2
    obtain ⟨rfl, N2q, e2⟩ := hQ2
    have N2 := Fr.app N0 N2q
    refine own_pre (A' := T2.setTop (mkF m 22 #[.val (.int p0), .val (.int p1), .val (.int p2), .val (.int p3), .val (.int md), .val (.int mm), .unset, .unset] [(.int r2)])) st2 ?_
    refine o_iload X2 hx hby D0_22 rfl ?_
    obtain ⟨_, _, ⟨T3, L3, k3, n3⟩, -, X3, ⟨Lc3, hQ3, l3, y3, z3⟩, st3⟩ := Jvm.LawKit.callS X2 hx (y := (⟨"com/example/placer/placer/MaglevIsPrimePinLaw", "smallPrime", "(I)Z"⟩ : MethodName)) hown (mvT hZ (own_wd hw (i := 14) rfl)) (mvT hZ (own_wd hw (i := 15) rfl)) (mvT hZ (own_wd hw (i := 16) rfl)) (mvT hZ (own_wd hw (i := 17) rfl)) (by decide) (backOf (W := 1) (rm2 l Z a0 hw [] mm  h0 n0 Z0 ) hZ (own_wd hw (i := 17) rfl) (own_wd hw (i := 16) rfl) (by decide) (by decide)) (g := (mkF m 24 #[.val (.int p0), .val (.int p1), .val (.int p2), .val (.int p3), .val (.int md), .val (.int mm), .unset, .unset] [(.int mm), (.int r2)])) rfl (by rw [hml]; rfl) (argsL := [(.int mm)]) (rest := [(.int r2)]) (lenOf pd__40I_41Z rfl) rfl (by show 2 * 0 + _ ≤ _; exact Nat.le_of_eq rfl) (hb hby D0_24.1) (fun _ _ => ⟨rfl, e2, (by decide : 0 + 0 ≤ _), (by decide : 0 + 0 ≤ _)⟩)
    dsimp only [Pt.U, Pt.locs, Pt.cells, Pt.slots] at X3 l3 y3 z3 st3 hQ3
    subst l3 y3 z3
    obtain ⟨rfl, N3q, e3⟩ := hQ3
    have N3 := Fr.app N2 N3q
    refine own_pre (A' := T3.setTop (mkF m 27 #[.val (.int p0), .val (.int p1), .val (.int p2), .val (.int p3), .val (.int md), .val (.int mm), .unset, .unset] [(.int (own_small mm)), (.int r2)])) st3 ?_
    refine o_icmpN X3 hx hby D0_27 (teq (own_mode0 hmm hr2 : r2 = (own_small mm))).2 ?_
    refine o_iconst X3 hx hby D0_30 (v := 1) rfl ?_
    refine o_goto X3 hx hby D0_31 (q := 35) (by decide) (by decide) ?_
    exact own_ret (v := some (.int (1 : Int32))) X3 (fun h => by first | rfl | (rw [Bd.returns] at h; cases h)) (BodyLoose.notSynchronized Bd) (by decide) (by decide) (⟨rfl, N3⟩) (fun fs hr => retN X3 hx (t := .boolean) Bd.returns (by simp) (hb hby D0_35.1) hr)
  · skip
    refine o_ifY X0 hx hby D0_7 ((if0 _ _).trans (feq hc7_1).2) (q := 36) (by decide) (by decide) ?_
    refine o_iload X0 hx hby D0_36 rfl ?_
    refine o_iconst X0 hx hby D0_38 (v := 1) rfl ?_
    by_cases hc39_4 : md = (1 : Int32)
    · skip
      refine o_icmpN X0 hx hby D0_39 (teq hc39_4).2 ?_
      refine o_iconst X0 hx hby D0_42 (v := 2) rfl ?_
      refine o_iloadN X0 hx hby D0_43 rfl ?_
      refine o_ldc X0 hx hby hown (mvT hZ (own_wd hw (i := 0) rfl)) D0_44 ?_
      refine o_iand X0 hx hby D0_46 ?_
      refine o_ldc X0 hx hby hown (mvT hZ (own_wd hw (i := 1) rfl)) D0_47 ?_
      refine o_irem X0 hx hby D0_49 (by decide) ?_
      refine o_iadd X0 hx hby D0_50 ?_
      refine o_istore X0 hx hby D0_51 (l' := #[.val (.int p0), .val (.int p1), .val (.int p2), .val (.int p3), .val (.int md), .val (.int ((2 : Int32) + ((p0 &&& (2147483647 : Int32)) % (46339 : Int32)))), .unset, .unset]) rfl ?_
      generalize hxv : ((2 : Int32) + ((p0 &&& (2147483647 : Int32)) % (46339 : Int32))) = xv
      have bxv := own_x hxv
      refine o_ldc X0 hx hby hown (mvT hZ (own_wd hw (i := 0) rfl)) D0_53 ?_
      refine o_iload X0 hx hby D0_55 rfl ?_
      refine o_idiv X0 hx hby D0_57 (own_xnz bxv) ?_
      refine o_istore X0 hx hby D0_58 (l' := #[.val (.int p0), .val (.int p1), .val (.int p2), .val (.int p3), .val (.int md), .val (.int xv), .val (.int ((2147483647 : Int32) / xv)), .unset]) rfl ?_
      generalize hhi : ((2147483647 : Int32) / xv) = hi
      have bhi := own_h bxv hhi
      refine o_iload X0 hx hby D0_60 rfl ?_
      refine o_iloadN X0 hx hby D0_62 rfl ?_
      refine o_ldc X0 hx hby hown (mvT hZ (own_wd hw (i := 0) rfl)) D0_63 ?_
      refine o_iand X0 hx hby D0_65 ?_
      refine o_iload X0 hx hby D0_66 rfl ?_
      refine o_iload X0 hx hby D0_68 rfl ?_
      refine o_isub X0 hx hby D0_70 ?_
      refine o_iconst X0 hx hby D0_71 (v := 1) rfl ?_
      refine o_iadd X0 hx hby D0_72 ?_
      refine o_irem X0 hx hby D0_73 (own_dvnz bxv bhi) ?_
      refine o_iadd X0 hx hby D0_74 ?_
      refine o_istore X0 hx hby D0_75 (l' := #[.val (.int p0), .val (.int p1), .val (.int p2), .val (.int p3), .val (.int md), .val (.int xv), .val (.int hi), .val (.int (xv + ((p1 &&& (2147483647 : Int32)) % ((hi - xv) + (1 : Int32)))))]) rfl ?_
      generalize hyv : (xv + ((p1 &&& (2147483647 : Int32)) % ((hi - xv) + (1 : Int32)))) = yv
      refine o_iload X0 hx hby D0_77 rfl ?_
      refine o_iload X0 hx hby D0_79 rfl ?_
      refine o_imul X0 hx hby D0_81 ?_
      obtain ⟨r5, hr5⟩ := own_is (xv * yv)
      obtain ⟨_, _, ⟨T5, L5, k5, n5⟩, -, X5, ⟨Lc5, hQ5, l5, y5, z5⟩, st5⟩ := Jvm.LawKit.callS X0 hx (y := (⟨"com/example/placer/placer/Maglev", "isPrime", "(I)Z"⟩ : MethodName)) hown (mvT hZ (own_wd hw (i := 2) rfl)) (mvT hZ (own_wd hw (i := 3) rfl)) (mvT hZ (own_wd hw (i := 4) rfl)) (mvT hZ (own_wd hw (i := 5) rfl)) (by decide) (backOf (W := 0) (rm1 l Z a0 hw [] (xv * yv) r5 h0 n0 Z0 hr5) hZ (own_wd hw (i := 5) rfl) (own_wd hw (i := 4) rfl) (by decide) (by decide)) (g := (mkF m 82 #[.val (.int p0), .val (.int p1), .val (.int p2), .val (.int p3), .val (.int md), .val (.int xv), .val (.int hi), .val (.int yv)] [(.int (xv * yv))])) rfl (by rw [hml]; rfl) (argsL := [(.int (xv * yv))]) (rest := []) (lenOf pd__40I_41Z rfl) rfl (by show 2 * 0 + _ ≤ _; exact Nat.le_of_eq rfl) (hb hby D0_82.1) (fun _ _ => ⟨rfl, e0, (by decide : 0 + 0 ≤ _), (by decide : 0 + 0 ≤ _)⟩)
      dsimp only [Pt.U, Pt.locs, Pt.cells, Pt.slots] at X5 l5 y5 z5 st5 hQ5
      subst l5 y5 z5
      obtain ⟨rfl, N5q, e5⟩ := hQ5
      have N5 := Fr.app N0 N5q
      refine own_pre (A' := T5.setTop (mkF m 85 #[.val (.int p0), .val (.int p1), .val (.int p2), .val (.int p3), .val (.int md), .val (.int xv), .val (.int hi), .val (.int yv)] [(.int r5)])) st5 ?_
      refine o_ifN X5 hx hby D0_85 ((if0 _ _).trans (teq (own_r0 hr5 (own_y bxv bhi hyv) : r5 = (0 : Int32))).2) ?_
      refine o_iconst X5 hx hby D0_88 (v := 1) rfl ?_
      refine o_goto X5 hx hby D0_89 (q := 93) (by decide) (by decide) ?_
      exact own_ret (v := some (.int (1 : Int32))) X5 (fun h => by first | rfl | (rw [Bd.returns] at h; cases h)) (BodyLoose.notSynchronized Bd) (by decide) (by decide) (⟨rfl, N5⟩) (fun fs hr => retN X5 hx (t := .boolean) Bd.returns (by simp) (hb hby D0_93.1) hr)
    · skip
      refine o_icmpY X0 hx hby D0_39 (feq hc39_4).2 (q := 94) (by decide) (by decide) ?_
      refine o_iload X0 hx hby D0_94 rfl ?_
      refine o_iconst X0 hx hby D0_96 (v := 2) rfl ?_
      by_cases hc97_6 : md = (2 : Int32)
      · skip
        refine o_icmpN X0 hx hby D0_97 (teq hc97_6).2 ?_
        refine o_bipush X0 hx hby D0_100 (v := 8) rfl ?_
        obtain ⟨T7, h7, k7, X7, e7, E7, A7, Ex7, st7⟩ := newPE X0 hx hZ (own_wd hw (i := 6) rfl) e0 (g := (mkF m 102 #[.val (.int p0), .val (.int p1), .val (.int p2), .val (.int p3), .val (.int md), .unset, .unset, .unset] [(.int (8 : Int32))])) rfl (hb hby D0_102.1) rfl (by decide) (cap := 8) (by decide) (by decide) (by decide) (by decide) (ad := "[I") (by first | rfl | decide)
        obtain ⟨b7, g7⟩ : ∃ z : Nat, z = h0.size := ⟨_, rfl⟩
        rw [← g7] at A7 Ex7 st7
        have sz7 := own_leN E7.1
        have gn_b7 : n0 ≤ b7 := by omega
        have V_b7 : Arv Z h7 b7 k7 .int (8 : Int32) [(.int (0 : Int32)), (.int (0 : Int32)), (.int (0 : Int32)), (.int (0 : Int32)), (.int (0 : Int32)), (.int (0 : Int32)), (.int (0 : Int32)), (.int (0 : Int32))] (.int (0 : Int32)) := (Arv.new A7 (by decide)).pad (pad_rep [] (.int (0 : Int32)) 8)
        have lt_b7 := own_ltN V_b7.lt
        refine own_pre (A' := T7.setTop (mkF m 104 #[.val (.int p0), .val (.int p1), .val (.int p2), .val (.int p3), .val (.int md), .unset, .unset, .unset] [(.ref b7)])) st7 ?_
        refine o_dup X7 hx hby D0_104 rfl ?_
        refine o_iconst X7 hx hby D0_105 (v := 0) rfl ?_
        refine o_ldc X7 hx hby hown (mvT hZ (own_wd hw (i := 0) rfl)) D0_106 ?_
        obtain ⟨cl_b7_8, Ar_b7_8, q_b7_8, S_b7_8, N_b7_8, H_b7_8, G_b7_8⟩ := id V_b7
        have hin_b7_8 : ¬ ((0 : Int32) < 0 ∨ cl_b7_8.slots.size ≤ ((0 : Int32)).toNatClampNeg) := inb_of S_b7_8 ⟨by decide, by decide⟩
        obtain ⟨T8, h8, X8, e8, W8, st8⟩ := stI X7 hx hZ e7 Ar_b7_8 (j := (0 : Int32)) hin_b7_8 (g := (mkF m 108 #[.val (.int p0), .val (.int p1), .val (.int p2), .val (.int p3), .val (.int md), .unset, .unset, .unset] [(.int (2147483647 : Int32)), (.int (0 : Int32)), (.ref b7), (.ref b7)])) rfl rfl (hb hby D0_108.1)
        have V_b7_8 : Arv Z h8 b7 k7 .int (8 : Int32) [(.int (2147483647 : Int32)), (.int (0 : Int32)), (.int (0 : Int32)), (.int (0 : Int32)), (.int (0 : Int32)), (.int (0 : Int32)), (.int (0 : Int32)), (.int (0 : Int32))] (.int (0 : Int32)) := Arv.set Ar_b7_8 q_b7_8 S_b7_8 N_b7_8 H_b7_8 G_b7_8 rfl W8 0 rfl (Nat.le_of_ble_eq_true rfl)
        have sz8 := own_leN (Keep.of_wr W8).1
        have N8 := Fr.snoc X8 N0 gn_b7
        refine own_pre (A' := T8.setTop (mkF m 109 #[.val (.int p0), .val (.int p1), .val (.int p2), .val (.int p3), .val (.int md), .unset, .unset, .unset] [(.ref b7)])) st8 ?_
        refine o_dup X8 hx hby D0_109 rfl ?_
        refine o_iconst X8 hx hby D0_110 (v := 1) rfl ?_
        refine o_ldc X8 hx hby hown (mvT hZ (own_wd hw (i := 7) rfl)) D0_111 ?_
        obtain ⟨cl_b7_9, Ar_b7_9, q_b7_9, S_b7_9, N_b7_9, H_b7_9, G_b7_9⟩ := id V_b7_8
        have hin_b7_9 : ¬ ((1 : Int32) < 0 ∨ cl_b7_9.slots.size ≤ ((1 : Int32)).toNatClampNeg) := inb_of S_b7_9 ⟨by decide, by decide⟩
        obtain ⟨T9, h9, X9, e9, W9, st9⟩ := stI X8 hx hZ e8 Ar_b7_9 (j := (1 : Int32)) hin_b7_9 (g := (mkF m 113 #[.val (.int p0), .val (.int p1), .val (.int p2), .val (.int p3), .val (.int md), .unset, .unset, .unset] [(.int (2147483629 : Int32)), (.int (1 : Int32)), (.ref b7), (.ref b7)])) rfl rfl (hb hby D0_113.1)
        have V_b7_9 : Arv Z h9 b7 k7 .int (8 : Int32) [(.int (2147483647 : Int32)), (.int (2147483629 : Int32)), (.int (0 : Int32)), (.int (0 : Int32)), (.int (0 : Int32)), (.int (0 : Int32)), (.int (0 : Int32)), (.int (0 : Int32))] (.int (0 : Int32)) := Arv.set Ar_b7_9 q_b7_9 S_b7_9 N_b7_9 H_b7_9 G_b7_9 rfl W9 1 rfl (Nat.le_of_ble_eq_true rfl)
        have sz9 := own_leN (Keep.of_wr W9).1
        have N9 := Fr.snoc X9 N8 gn_b7
        refine own_pre (A' := T9.setTop (mkF m 114 #[.val (.int p0), .val (.int p1), .val (.int p2), .val (.int p3), .val (.int md), .unset, .unset, .unset] [(.ref b7)])) st9 ?_
        refine o_dup X9 hx hby D0_114 rfl ?_
        refine o_iconst X9 hx hby D0_115 (v := 2) rfl ?_
        refine o_ldc X9 hx hby hown (mvT hZ (own_wd hw (i := 8) rfl)) D0_116 ?_
        obtain ⟨cl_b7_10, Ar_b7_10, q_b7_10, S_b7_10, N_b7_10, H_b7_10, G_b7_10⟩ := id V_b7_9
        have hin_b7_10 : ¬ ((2 : Int32) < 0 ∨ cl_b7_10.slots.size ≤ ((2 : Int32)).toNatClampNeg) := inb_of S_b7_10 ⟨by decide, by decide⟩
        obtain ⟨T10, h10, X10, e10, W10, st10⟩ := stI X9 hx hZ e9 Ar_b7_10 (j := (2 : Int32)) hin_b7_10 (g := (mkF m 118 #[.val (.int p0), .val (.int p1), .val (.int p2), .val (.int p3), .val (.int md), .unset, .unset, .unset] [(.int (2147483587 : Int32)), (.int (2 : Int32)), (.ref b7), (.ref b7)])) rfl rfl (hb hby D0_118.1)
        have V_b7_10 : Arv Z h10 b7 k7 .int (8 : Int32) [(.int (2147483647 : Int32)), (.int (2147483629 : Int32)), (.int (2147483587 : Int32)), (.int (0 : Int32)), (.int (0 : Int32)), (.int (0 : Int32)), (.int (0 : Int32)), (.int (0 : Int32))] (.int (0 : Int32)) := Arv.set Ar_b7_10 q_b7_10 S_b7_10 N_b7_10 H_b7_10 G_b7_10 rfl W10 2 rfl (Nat.le_of_ble_eq_true rfl)
        have sz10 := own_leN (Keep.of_wr W10).1
        have N10 := Fr.snoc X10 N9 gn_b7
        refine own_pre (A' := T10.setTop (mkF m 119 #[.val (.int p0), .val (.int p1), .val (.int p2), .val (.int p3), .val (.int md), .unset, .unset, .unset] [(.ref b7)])) st10 ?_
        refine o_dup X10 hx hby D0_119 rfl ?_
        refine o_iconst X10 hx hby D0_120 (v := 3) rfl ?_
        refine o_ldc X10 hx hby hown (mvT hZ (own_wd hw (i := 9) rfl)) D0_121 ?_
        obtain ⟨cl_b7_11, Ar_b7_11, q_b7_11, S_b7_11, N_b7_11, H_b7_11, G_b7_11⟩ := id V_b7_10
        have hin_b7_11 : ¬ ((3 : Int32) < 0 ∨ cl_b7_11.slots.size ≤ ((3 : Int32)).toNatClampNeg) := inb_of S_b7_11 ⟨by decide, by decide⟩
        obtain ⟨T11, h11, X11, e11, W11, st11⟩ := stI X10 hx hZ e10 Ar_b7_11 (j := (3 : Int32)) hin_b7_11 (g := (mkF m 123 #[.val (.int p0), .val (.int p1), .val (.int p2), .val (.int p3), .val (.int md), .unset, .unset, .unset] [(.int (1000000007 : Int32)), (.int (3 : Int32)), (.ref b7), (.ref b7)])) rfl rfl (hb hby D0_123.1)
        have V_b7_11 : Arv Z h11 b7 k7 .int (8 : Int32) [(.int (2147483647 : Int32)), (.int (2147483629 : Int32)), (.int (2147483587 : Int32)), (.int (1000000007 : Int32)), (.int (0 : Int32)), (.int (0 : Int32)), (.int (0 : Int32)), (.int (0 : Int32))] (.int (0 : Int32)) := Arv.set Ar_b7_11 q_b7_11 S_b7_11 N_b7_11 H_b7_11 G_b7_11 rfl W11 3 rfl (Nat.le_of_ble_eq_true rfl)
        have sz11 := own_leN (Keep.of_wr W11).1
        have N11 := Fr.snoc X11 N10 gn_b7
        refine own_pre (A' := T11.setTop (mkF m 124 #[.val (.int p0), .val (.int p1), .val (.int p2), .val (.int p3), .val (.int md), .unset, .unset, .unset] [(.ref b7)])) st11 ?_
        refine o_dup X11 hx hby D0_124 rfl ?_
        refine o_iconst X11 hx hby D0_125 (v := 4) rfl ?_
        refine o_ldc X11 hx hby hown (mvT hZ (own_wd hw (i := 10) rfl)) D0_126 ?_
        obtain ⟨cl_b7_12, Ar_b7_12, q_b7_12, S_b7_12, N_b7_12, H_b7_12, G_b7_12⟩ := id V_b7_11
        have hin_b7_12 : ¬ ((4 : Int32) < 0 ∨ cl_b7_12.slots.size ≤ ((4 : Int32)).toNatClampNeg) := inb_of S_b7_12 ⟨by decide, by decide⟩
        obtain ⟨T12, h12, X12, e12, W12, st12⟩ := stI X11 hx hZ e11 Ar_b7_12 (j := (4 : Int32)) hin_b7_12 (g := (mkF m 128 #[.val (.int p0), .val (.int p1), .val (.int p2), .val (.int p3), .val (.int md), .unset, .unset, .unset] [(.int (999999937 : Int32)), (.int (4 : Int32)), (.ref b7), (.ref b7)])) rfl rfl (hb hby D0_128.1)
        have V_b7_12 : Arv Z h12 b7 k7 .int (8 : Int32) [(.int (2147483647 : Int32)), (.int (2147483629 : Int32)), (.int (2147483587 : Int32)), (.int (1000000007 : Int32)), (.int (999999937 : Int32)), (.int (0 : Int32)), (.int (0 : Int32)), (.int (0 : Int32))] (.int (0 : Int32)) := Arv.set Ar_b7_12 q_b7_12 S_b7_12 N_b7_12 H_b7_12 G_b7_12 rfl W12 4 rfl (Nat.le_of_ble_eq_true rfl)
        have sz12 := own_leN (Keep.of_wr W12).1
        have N12 := Fr.snoc X12 N11 gn_b7
        refine own_pre (A' := T12.setTop (mkF m 129 #[.val (.int p0), .val (.int p1), .val (.int p2), .val (.int p3), .val (.int md), .unset, .unset, .unset] [(.ref b7)])) st12 ?_
        refine o_dup X12 hx hby D0_129 rfl ?_
        refine o_iconst X12 hx hby D0_130 (v := 5) rfl ?_
        refine o_ldc X12 hx hby hown (mvT hZ (own_wd hw (i := 11) rfl)) D0_131 ?_
        obtain ⟨cl_b7_13, Ar_b7_13, q_b7_13, S_b7_13, N_b7_13, H_b7_13, G_b7_13⟩ := id V_b7_12
        have hin_b7_13 : ¬ ((5 : Int32) < 0 ∨ cl_b7_13.slots.size ≤ ((5 : Int32)).toNatClampNeg) := inb_of S_b7_13 ⟨by decide, by decide⟩
        obtain ⟨T13, h13, X13, e13, W13, st13⟩ := stI X12 hx hZ e12 Ar_b7_13 (j := (5 : Int32)) hin_b7_13 (g := (mkF m 133 #[.val (.int p0), .val (.int p1), .val (.int p2), .val (.int p3), .val (.int md), .unset, .unset, .unset] [(.int (65537 : Int32)), (.int (5 : Int32)), (.ref b7), (.ref b7)])) rfl rfl (hb hby D0_133.1)
        have V_b7_13 : Arv Z h13 b7 k7 .int (8 : Int32) [(.int (2147483647 : Int32)), (.int (2147483629 : Int32)), (.int (2147483587 : Int32)), (.int (1000000007 : Int32)), (.int (999999937 : Int32)), (.int (65537 : Int32)), (.int (0 : Int32)), (.int (0 : Int32))] (.int (0 : Int32)) := Arv.set Ar_b7_13 q_b7_13 S_b7_13 N_b7_13 H_b7_13 G_b7_13 rfl W13 5 rfl (Nat.le_of_ble_eq_true rfl)
        have sz13 := own_leN (Keep.of_wr W13).1
        have N13 := Fr.snoc X13 N12 gn_b7
        refine own_pre (A' := T13.setTop (mkF m 134 #[.val (.int p0), .val (.int p1), .val (.int p2), .val (.int p3), .val (.int md), .unset, .unset, .unset] [(.ref b7)])) st13 ?_
        refine o_dup X13 hx hby D0_134 rfl ?_
        refine o_bipush X13 hx hby D0_135 (v := 6) rfl ?_
        refine o_ldc X13 hx hby hown (mvT hZ (own_wd hw (i := 12) rfl)) D0_137 ?_
        obtain ⟨cl_b7_14, Ar_b7_14, q_b7_14, S_b7_14, N_b7_14, H_b7_14, G_b7_14⟩ := id V_b7_13
        have hin_b7_14 : ¬ ((6 : Int32) < 0 ∨ cl_b7_14.slots.size ≤ ((6 : Int32)).toNatClampNeg) := inb_of S_b7_14 ⟨by decide, by decide⟩
        obtain ⟨T14, h14, X14, e14, W14, st14⟩ := stI X13 hx hZ e13 Ar_b7_14 (j := (6 : Int32)) hin_b7_14 (g := (mkF m 139 #[.val (.int p0), .val (.int p1), .val (.int p2), .val (.int p3), .val (.int md), .unset, .unset, .unset] [(.int (65521 : Int32)), (.int (6 : Int32)), (.ref b7), (.ref b7)])) rfl rfl (hb hby D0_139.1)
        have V_b7_14 : Arv Z h14 b7 k7 .int (8 : Int32) [(.int (2147483647 : Int32)), (.int (2147483629 : Int32)), (.int (2147483587 : Int32)), (.int (1000000007 : Int32)), (.int (999999937 : Int32)), (.int (65537 : Int32)), (.int (65521 : Int32)), (.int (0 : Int32))] (.int (0 : Int32)) := Arv.set Ar_b7_14 q_b7_14 S_b7_14 N_b7_14 H_b7_14 G_b7_14 rfl W14 6 rfl (Nat.le_of_ble_eq_true rfl)
        have sz14 := own_leN (Keep.of_wr W14).1
        have N14 := Fr.snoc X14 N13 gn_b7
        refine own_pre (A' := T14.setTop (mkF m 140 #[.val (.int p0), .val (.int p1), .val (.int p2), .val (.int p3), .val (.int md), .unset, .unset, .unset] [(.ref b7)])) st14 ?_
        refine o_dup X14 hx hby D0_140 rfl ?_
        refine o_bipush X14 hx hby D0_141 (v := 7) rfl ?_
        refine o_ldc X14 hx hby hown (mvT hZ (own_wd hw (i := 13) rfl)) D0_143 ?_
        obtain ⟨cl_b7_15, Ar_b7_15, q_b7_15, S_b7_15, N_b7_15, H_b7_15, G_b7_15⟩ := id V_b7_14
        have hin_b7_15 : ¬ ((7 : Int32) < 0 ∨ cl_b7_15.slots.size ≤ ((7 : Int32)).toNatClampNeg) := inb_of S_b7_15 ⟨by decide, by decide⟩
        obtain ⟨T15, h15, X15, e15, W15, st15⟩ := stI X14 hx hZ e14 Ar_b7_15 (j := (7 : Int32)) hin_b7_15 (g := (mkF m 145 #[.val (.int p0), .val (.int p1), .val (.int p2), .val (.int p3), .val (.int md), .unset, .unset, .unset] [(.int (46337 : Int32)), (.int (7 : Int32)), (.ref b7), (.ref b7)])) rfl rfl (hb hby D0_145.1)
        have V_b7_15 : Arv Z h15 b7 k7 .int (8 : Int32) [(.int (2147483647 : Int32)), (.int (2147483629 : Int32)), (.int (2147483587 : Int32)), (.int (1000000007 : Int32)), (.int (999999937 : Int32)), (.int (65537 : Int32)), (.int (65521 : Int32)), (.int (46337 : Int32))] (.int (0 : Int32)) := Arv.set Ar_b7_15 q_b7_15 S_b7_15 N_b7_15 H_b7_15 G_b7_15 rfl W15 7 rfl (Nat.le_of_ble_eq_true rfl)
        have sz15 := own_leN (Keep.of_wr W15).1
        have N15 := Fr.snoc X15 N14 gn_b7
        refine own_pre (A' := T15.setTop (mkF m 146 #[.val (.int p0), .val (.int p1), .val (.int p2), .val (.int p3), .val (.int md), .unset, .unset, .unset] [(.ref b7)])) st15 ?_
        refine o_astore X15 hx hby D0_146 rfl (l' := #[.val (.int p0), .val (.int p1), .val (.int p2), .val (.int p3), .val (.int md), .val (.ref b7), .unset, .unset]) rfl ?_
        refine o_aload X15 hx hby D0_148 rfl rfl ?_
        refine o_iloadN X15 hx hby D0_150 rfl ?_
        refine o_ldc X15 hx hby hown (mvT hZ (own_wd hw (i := 0) rfl)) D0_151 ?_
        refine o_iand X15 hx hby D0_153 ?_
        refine o_bipush X15 hx hby D0_154 (v := 8) rfl ?_
        refine o_irem X15 hx hby D0_156 (by decide) ?_
        rcases own_idx p1 with hi8 | hi8 | hi8 | hi8 | hi8 | hi8 | hi8 | hi8
        · rw [hi8]
          obtain ⟨cl_b7_16, Ar_b7_16, q_b7_16, S_b7_16, N_b7_16, H_b7_16, G_b7_16⟩ := id V_b7_15
          have hin_b7_16 : ¬ ((0 : Int32) < 0 ∨ cl_b7_16.slots.size ≤ ((0 : Int32)).toNatClampNeg) := inb_of S_b7_16 ⟨by decide, by decide⟩
          have hat_b7_16 : cl_b7_16.slots[((0 : Int32)).toNatClampNeg]? = some (.int (2147483647 : Int32)) := H_b7_16.at hin_b7_16 (rfl)
          refine own_pre (A' := T15.setTop (mkF m 158 #[.val (.int p0), .val (.int p1), .val (.int p2), .val (.int p3), .val (.int md), .val (.ref b7), .unset, .unset] [(.int (2147483647 : Int32))])) (fun t k => X15.iaload hx (j := (0 : Int32)) (v := (.int (2147483647 : Int32))) (by rw [e15]; exact Ar_b7_16.1) (State.isArrayOf_alike hZ.alike Ar_b7_16.2.1) Ar_b7_16.2.2 hin_b7_16 hat_b7_16 (g := (mkF m 157 #[.val (.int p0), .val (.int p1), .val (.int p2), .val (.int p3), .val (.int md), .val (.ref b7), .unset, .unset] [(.int (0 : Int32)), (.ref b7)])) rfl rfl (hb hby D0_157.1) _ k) ?_
          obtain ⟨_, _, ⟨T17, L17, k17, n17⟩, -, X17, ⟨Lc17, hQ17, l17, y17, z17⟩, st17⟩ := Jvm.LawKit.callS X15 hx (y := (⟨"com/example/placer/placer/Maglev", "isPrime", "(I)Z"⟩ : MethodName)) hown (mvT hZ (own_wd hw (i := 2) rfl)) (mvT hZ (own_wd hw (i := 3) rfl)) (mvT hZ (own_wd hw (i := 4) rfl)) (mvT hZ (own_wd hw (i := 5) rfl)) (by decide) (backOf (W := 0) (rm1 l Z a0 hw [] (2147483647 : Int32) (1 : Int32) h15 n0 (own_leN (by omega)) (Or.inl ⟨rfl, own_p0⟩)) hZ (own_wd hw (i := 5) rfl) (own_wd hw (i := 4) rfl) (by decide) (by decide)) (g := (mkF m 158 #[.val (.int p0), .val (.int p1), .val (.int p2), .val (.int p3), .val (.int md), .val (.ref b7), .unset, .unset] [(.int (2147483647 : Int32))])) rfl (by rw [hml]; rfl) (argsL := [(.int (2147483647 : Int32))]) (rest := []) (lenOf pd__40I_41Z rfl) rfl (by show 2 * 0 + _ ≤ _; exact Nat.le_of_eq rfl) (hb hby D0_158.1) (fun _ _ => ⟨rfl, e15, (by decide : 1 + 0 ≤ _), (by decide : 8 + 0 ≤ _)⟩)
          dsimp only [Pt.U, Pt.locs, Pt.cells, Pt.slots] at X17 l17 y17 z17 st17 hQ17
          subst l17 y17 z17
          obtain ⟨rfl, N17q, e17⟩ := hQ17
          have N17 := Fr.app N15 N17q
          refine own_pre (A' := T17.setTop (mkF m 161 #[.val (.int p0), .val (.int p1), .val (.int p2), .val (.int p3), .val (.int md), .val (.ref b7), .unset, .unset] [(.int (1 : Int32))])) st17 ?_
          exact own_ret (v := some (.int (1 : Int32))) X17 (fun h => by first | rfl | (rw [Bd.returns] at h; cases h)) (BodyLoose.notSynchronized Bd) (by decide) (by decide) (⟨rfl, N17⟩) (fun fs hr => retN X17 hx (t := .boolean) Bd.returns (by simp) (hb hby D0_161.1) hr)
        · rw [hi8]
          obtain ⟨cl_b7_18, Ar_b7_18, q_b7_18, S_b7_18, N_b7_18, H_b7_18, G_b7_18⟩ := id V_b7_15
          have hin_b7_18 : ¬ ((1 : Int32) < 0 ∨ cl_b7_18.slots.size ≤ ((1 : Int32)).toNatClampNeg) := inb_of S_b7_18 ⟨by decide, by decide⟩
          have hat_b7_18 : cl_b7_18.slots[((1 : Int32)).toNatClampNeg]? = some (.int (2147483629 : Int32)) := H_b7_18.at hin_b7_18 (rfl)
          refine own_pre (A' := T15.setTop (mkF m 158 #[.val (.int p0), .val (.int p1), .val (.int p2), .val (.int p3), .val (.int md), .val (.ref b7), .unset, .unset] [(.int (2147483629 : Int32))])) (fun t k => X15.iaload hx (j := (1 : Int32)) (v := (.int (2147483629 : Int32))) (by rw [e15]; exact Ar_b7_18.1) (State.isArrayOf_alike hZ.alike Ar_b7_18.2.1) Ar_b7_18.2.2 hin_b7_18 hat_b7_18 (g := (mkF m 157 #[.val (.int p0), .val (.int p1), .val (.int p2), .val (.int p3), .val (.int md), .val (.ref b7), .unset, .unset] [(.int (1 : Int32)), (.ref b7)])) rfl rfl (hb hby D0_157.1) _ k) ?_
          obtain ⟨_, _, ⟨T19, L19, k19, n19⟩, -, X19, ⟨Lc19, hQ19, l19, y19, z19⟩, st19⟩ := Jvm.LawKit.callS X15 hx (y := (⟨"com/example/placer/placer/Maglev", "isPrime", "(I)Z"⟩ : MethodName)) hown (mvT hZ (own_wd hw (i := 2) rfl)) (mvT hZ (own_wd hw (i := 3) rfl)) (mvT hZ (own_wd hw (i := 4) rfl)) (mvT hZ (own_wd hw (i := 5) rfl)) (by decide) (backOf (W := 0) (rm1 l Z a0 hw [] (2147483629 : Int32) (1 : Int32) h15 n0 (own_leN (by omega)) (Or.inl ⟨rfl, own_p1⟩)) hZ (own_wd hw (i := 5) rfl) (own_wd hw (i := 4) rfl) (by decide) (by decide)) (g := (mkF m 158 #[.val (.int p0), .val (.int p1), .val (.int p2), .val (.int p3), .val (.int md), .val (.ref b7), .unset, .unset] [(.int (2147483629 : Int32))])) rfl (by rw [hml]; rfl) (argsL := [(.int (2147483629 : Int32))]) (rest := []) (lenOf pd__40I_41Z rfl) rfl (by show 2 * 0 + _ ≤ _; exact Nat.le_of_eq rfl) (hb hby D0_158.1) (fun _ _ => ⟨rfl, e15, (by decide : 1 + 0 ≤ _), (by decide : 8 + 0 ≤ _)⟩)
          dsimp only [Pt.U, Pt.locs, Pt.cells, Pt.slots] at X19 l19 y19 z19 st19 hQ19
          subst l19 y19 z19
          obtain ⟨rfl, N19q, e19⟩ := hQ19
          have N19 := Fr.app N15 N19q
          refine own_pre (A' := T19.setTop (mkF m 161 #[.val (.int p0), .val (.int p1), .val (.int p2), .val (.int p3), .val (.int md), .val (.ref b7), .unset, .unset] [(.int (1 : Int32))])) st19 ?_
          exact own_ret (v := some (.int (1 : Int32))) X19 (fun h => by first | rfl | (rw [Bd.returns] at h; cases h)) (BodyLoose.notSynchronized Bd) (by decide) (by decide) (⟨rfl, N19⟩) (fun fs hr => retN X19 hx (t := .boolean) Bd.returns (by simp) (hb hby D0_161.1) hr)
        · rw [hi8]
          obtain ⟨cl_b7_20, Ar_b7_20, q_b7_20, S_b7_20, N_b7_20, H_b7_20, G_b7_20⟩ := id V_b7_15
          have hin_b7_20 : ¬ ((2 : Int32) < 0 ∨ cl_b7_20.slots.size ≤ ((2 : Int32)).toNatClampNeg) := inb_of S_b7_20 ⟨by decide, by decide⟩
          have hat_b7_20 : cl_b7_20.slots[((2 : Int32)).toNatClampNeg]? = some (.int (2147483587 : Int32)) := H_b7_20.at hin_b7_20 (rfl)
          refine own_pre (A' := T15.setTop (mkF m 158 #[.val (.int p0), .val (.int p1), .val (.int p2), .val (.int p3), .val (.int md), .val (.ref b7), .unset, .unset] [(.int (2147483587 : Int32))])) (fun t k => X15.iaload hx (j := (2 : Int32)) (v := (.int (2147483587 : Int32))) (by rw [e15]; exact Ar_b7_20.1) (State.isArrayOf_alike hZ.alike Ar_b7_20.2.1) Ar_b7_20.2.2 hin_b7_20 hat_b7_20 (g := (mkF m 157 #[.val (.int p0), .val (.int p1), .val (.int p2), .val (.int p3), .val (.int md), .val (.ref b7), .unset, .unset] [(.int (2 : Int32)), (.ref b7)])) rfl rfl (hb hby D0_157.1) _ k) ?_
          obtain ⟨_, _, ⟨T21, L21, k21, n21⟩, -, X21, ⟨Lc21, hQ21, l21, y21, z21⟩, st21⟩ := Jvm.LawKit.callS X15 hx (y := (⟨"com/example/placer/placer/Maglev", "isPrime", "(I)Z"⟩ : MethodName)) hown (mvT hZ (own_wd hw (i := 2) rfl)) (mvT hZ (own_wd hw (i := 3) rfl)) (mvT hZ (own_wd hw (i := 4) rfl)) (mvT hZ (own_wd hw (i := 5) rfl)) (by decide) (backOf (W := 0) (rm1 l Z a0 hw [] (2147483587 : Int32) (1 : Int32) h15 n0 (own_leN (by omega)) (Or.inl ⟨rfl, own_p2⟩)) hZ (own_wd hw (i := 5) rfl) (own_wd hw (i := 4) rfl) (by decide) (by decide)) (g := (mkF m 158 #[.val (.int p0), .val (.int p1), .val (.int p2), .val (.int p3), .val (.int md), .val (.ref b7), .unset, .unset] [(.int (2147483587 : Int32))])) rfl (by rw [hml]; rfl) (argsL := [(.int (2147483587 : Int32))]) (rest := []) (lenOf pd__40I_41Z rfl) rfl (by show 2 * 0 + _ ≤ _; exact Nat.le_of_eq rfl) (hb hby D0_158.1) (fun _ _ => ⟨rfl, e15, (by decide : 1 + 0 ≤ _), (by decide : 8 + 0 ≤ _)⟩)
          dsimp only [Pt.U, Pt.locs, Pt.cells, Pt.slots] at X21 l21 y21 z21 st21 hQ21
          subst l21 y21 z21
          obtain ⟨rfl, N21q, e21⟩ := hQ21
          have N21 := Fr.app N15 N21q
          refine own_pre (A' := T21.setTop (mkF m 161 #[.val (.int p0), .val (.int p1), .val (.int p2), .val (.int p3), .val (.int md), .val (.ref b7), .unset, .unset] [(.int (1 : Int32))])) st21 ?_
          exact own_ret (v := some (.int (1 : Int32))) X21 (fun h => by first | rfl | (rw [Bd.returns] at h; cases h)) (BodyLoose.notSynchronized Bd) (by decide) (by decide) (⟨rfl, N21⟩) (fun fs hr => retN X21 hx (t := .boolean) Bd.returns (by simp) (hb hby D0_161.1) hr)
        · rw [hi8]
          obtain ⟨cl_b7_22, Ar_b7_22, q_b7_22, S_b7_22, N_b7_22, H_b7_22, G_b7_22⟩ := id V_b7_15
          have hin_b7_22 : ¬ ((3 : Int32) < 0 ∨ cl_b7_22.slots.size ≤ ((3 : Int32)).toNatClampNeg) := inb_of S_b7_22 ⟨by decide, by decide⟩
          have hat_b7_22 : cl_b7_22.slots[((3 : Int32)).toNatClampNeg]? = some (.int (1000000007 : Int32)) := H_b7_22.at hin_b7_22 (rfl)
          refine own_pre (A' := T15.setTop (mkF m 158 #[.val (.int p0), .val (.int p1), .val (.int p2), .val (.int p3), .val (.int md), .val (.ref b7), .unset, .unset] [(.int (1000000007 : Int32))])) (fun t k => X15.iaload hx (j := (3 : Int32)) (v := (.int (1000000007 : Int32))) (by rw [e15]; exact Ar_b7_22.1) (State.isArrayOf_alike hZ.alike Ar_b7_22.2.1) Ar_b7_22.2.2 hin_b7_22 hat_b7_22 (g := (mkF m 157 #[.val (.int p0), .val (.int p1), .val (.int p2), .val (.int p3), .val (.int md), .val (.ref b7), .unset, .unset] [(.int (3 : Int32)), (.ref b7)])) rfl rfl (hb hby D0_157.1) _ k) ?_
          obtain ⟨_, _, ⟨T23, L23, k23, n23⟩, -, X23, ⟨Lc23, hQ23, l23, y23, z23⟩, st23⟩ := Jvm.LawKit.callS X15 hx (y := (⟨"com/example/placer/placer/Maglev", "isPrime", "(I)Z"⟩ : MethodName)) hown (mvT hZ (own_wd hw (i := 2) rfl)) (mvT hZ (own_wd hw (i := 3) rfl)) (mvT hZ (own_wd hw (i := 4) rfl)) (mvT hZ (own_wd hw (i := 5) rfl)) (by decide) (backOf (W := 0) (rm1 l Z a0 hw [] (1000000007 : Int32) (1 : Int32) h15 n0 (own_leN (by omega)) (Or.inl ⟨rfl, own_p3⟩)) hZ (own_wd hw (i := 5) rfl) (own_wd hw (i := 4) rfl) (by decide) (by decide)) (g := (mkF m 158 #[.val (.int p0), .val (.int p1), .val (.int p2), .val (.int p3), .val (.int md), .val (.ref b7), .unset, .unset] [(.int (1000000007 : Int32))])) rfl (by rw [hml]; rfl) (argsL := [(.int (1000000007 : Int32))]) (rest := []) (lenOf pd__40I_41Z rfl) rfl (by show 2 * 0 + _ ≤ _; exact Nat.le_of_eq rfl) (hb hby D0_158.1) (fun _ _ => ⟨rfl, e15, (by decide : 1 + 0 ≤ _), (by decide : 8 + 0 ≤ _)⟩)
          dsimp only [Pt.U, Pt.locs, Pt.cells, Pt.slots] at X23 l23 y23 z23 st23 hQ23
          subst l23 y23 z23
          obtain ⟨rfl, N23q, e23⟩ := hQ23
          have N23 := Fr.app N15 N23q
          refine own_pre (A' := T23.setTop (mkF m 161 #[.val (.int p0), .val (.int p1), .val (.int p2), .val (.int p3), .val (.int md), .val (.ref b7), .unset, .unset] [(.int (1 : Int32))])) st23 ?_
          exact own_ret (v := some (.int (1 : Int32))) X23 (fun h => by first | rfl | (rw [Bd.returns] at h; cases h)) (BodyLoose.notSynchronized Bd) (by decide) (by decide) (⟨rfl, N23⟩) (fun fs hr => retN X23 hx (t := .boolean) Bd.returns (by simp) (hb hby D0_161.1) hr)
        · rw [hi8]
          obtain ⟨cl_b7_24, Ar_b7_24, q_b7_24, S_b7_24, N_b7_24, H_b7_24, G_b7_24⟩ := id V_b7_15
          have hin_b7_24 : ¬ ((4 : Int32) < 0 ∨ cl_b7_24.slots.size ≤ ((4 : Int32)).toNatClampNeg) := inb_of S_b7_24 ⟨by decide, by decide⟩
          have hat_b7_24 : cl_b7_24.slots[((4 : Int32)).toNatClampNeg]? = some (.int (999999937 : Int32)) := H_b7_24.at hin_b7_24 (rfl)
          refine own_pre (A' := T15.setTop (mkF m 158 #[.val (.int p0), .val (.int p1), .val (.int p2), .val (.int p3), .val (.int md), .val (.ref b7), .unset, .unset] [(.int (999999937 : Int32))])) (fun t k => X15.iaload hx (j := (4 : Int32)) (v := (.int (999999937 : Int32))) (by rw [e15]; exact Ar_b7_24.1) (State.isArrayOf_alike hZ.alike Ar_b7_24.2.1) Ar_b7_24.2.2 hin_b7_24 hat_b7_24 (g := (mkF m 157 #[.val (.int p0), .val (.int p1), .val (.int p2), .val (.int p3), .val (.int md), .val (.ref b7), .unset, .unset] [(.int (4 : Int32)), (.ref b7)])) rfl rfl (hb hby D0_157.1) _ k) ?_
          obtain ⟨_, _, ⟨T25, L25, k25, n25⟩, -, X25, ⟨Lc25, hQ25, l25, y25, z25⟩, st25⟩ := Jvm.LawKit.callS X15 hx (y := (⟨"com/example/placer/placer/Maglev", "isPrime", "(I)Z"⟩ : MethodName)) hown (mvT hZ (own_wd hw (i := 2) rfl)) (mvT hZ (own_wd hw (i := 3) rfl)) (mvT hZ (own_wd hw (i := 4) rfl)) (mvT hZ (own_wd hw (i := 5) rfl)) (by decide) (backOf (W := 0) (rm1 l Z a0 hw [] (999999937 : Int32) (1 : Int32) h15 n0 (own_leN (by omega)) (Or.inl ⟨rfl, own_p4⟩)) hZ (own_wd hw (i := 5) rfl) (own_wd hw (i := 4) rfl) (by decide) (by decide)) (g := (mkF m 158 #[.val (.int p0), .val (.int p1), .val (.int p2), .val (.int p3), .val (.int md), .val (.ref b7), .unset, .unset] [(.int (999999937 : Int32))])) rfl (by rw [hml]; rfl) (argsL := [(.int (999999937 : Int32))]) (rest := []) (lenOf pd__40I_41Z rfl) rfl (by show 2 * 0 + _ ≤ _; exact Nat.le_of_eq rfl) (hb hby D0_158.1) (fun _ _ => ⟨rfl, e15, (by decide : 1 + 0 ≤ _), (by decide : 8 + 0 ≤ _)⟩)
          dsimp only [Pt.U, Pt.locs, Pt.cells, Pt.slots] at X25 l25 y25 z25 st25 hQ25
          subst l25 y25 z25
          obtain ⟨rfl, N25q, e25⟩ := hQ25
          have N25 := Fr.app N15 N25q
          refine own_pre (A' := T25.setTop (mkF m 161 #[.val (.int p0), .val (.int p1), .val (.int p2), .val (.int p3), .val (.int md), .val (.ref b7), .unset, .unset] [(.int (1 : Int32))])) st25 ?_
          exact own_ret (v := some (.int (1 : Int32))) X25 (fun h => by first | rfl | (rw [Bd.returns] at h; cases h)) (BodyLoose.notSynchronized Bd) (by decide) (by decide) (⟨rfl, N25⟩) (fun fs hr => retN X25 hx (t := .boolean) Bd.returns (by simp) (hb hby D0_161.1) hr)
        · rw [hi8]
          obtain ⟨cl_b7_26, Ar_b7_26, q_b7_26, S_b7_26, N_b7_26, H_b7_26, G_b7_26⟩ := id V_b7_15
          have hin_b7_26 : ¬ ((5 : Int32) < 0 ∨ cl_b7_26.slots.size ≤ ((5 : Int32)).toNatClampNeg) := inb_of S_b7_26 ⟨by decide, by decide⟩
          have hat_b7_26 : cl_b7_26.slots[((5 : Int32)).toNatClampNeg]? = some (.int (65537 : Int32)) := H_b7_26.at hin_b7_26 (rfl)
          refine own_pre (A' := T15.setTop (mkF m 158 #[.val (.int p0), .val (.int p1), .val (.int p2), .val (.int p3), .val (.int md), .val (.ref b7), .unset, .unset] [(.int (65537 : Int32))])) (fun t k => X15.iaload hx (j := (5 : Int32)) (v := (.int (65537 : Int32))) (by rw [e15]; exact Ar_b7_26.1) (State.isArrayOf_alike hZ.alike Ar_b7_26.2.1) Ar_b7_26.2.2 hin_b7_26 hat_b7_26 (g := (mkF m 157 #[.val (.int p0), .val (.int p1), .val (.int p2), .val (.int p3), .val (.int md), .val (.ref b7), .unset, .unset] [(.int (5 : Int32)), (.ref b7)])) rfl rfl (hb hby D0_157.1) _ k) ?_
          obtain ⟨_, _, ⟨T27, L27, k27, n27⟩, -, X27, ⟨Lc27, hQ27, l27, y27, z27⟩, st27⟩ := Jvm.LawKit.callS X15 hx (y := (⟨"com/example/placer/placer/Maglev", "isPrime", "(I)Z"⟩ : MethodName)) hown (mvT hZ (own_wd hw (i := 2) rfl)) (mvT hZ (own_wd hw (i := 3) rfl)) (mvT hZ (own_wd hw (i := 4) rfl)) (mvT hZ (own_wd hw (i := 5) rfl)) (by decide) (backOf (W := 0) (rm1 l Z a0 hw [] (65537 : Int32) (1 : Int32) h15 n0 (own_leN (by omega)) (Or.inl ⟨rfl, own_p5⟩)) hZ (own_wd hw (i := 5) rfl) (own_wd hw (i := 4) rfl) (by decide) (by decide)) (g := (mkF m 158 #[.val (.int p0), .val (.int p1), .val (.int p2), .val (.int p3), .val (.int md), .val (.ref b7), .unset, .unset] [(.int (65537 : Int32))])) rfl (by rw [hml]; rfl) (argsL := [(.int (65537 : Int32))]) (rest := []) (lenOf pd__40I_41Z rfl) rfl (by show 2 * 0 + _ ≤ _; exact Nat.le_of_eq rfl) (hb hby D0_158.1) (fun _ _ => ⟨rfl, e15, (by decide : 1 + 0 ≤ _), (by decide : 8 + 0 ≤ _)⟩)
          dsimp only [Pt.U, Pt.locs, Pt.cells, Pt.slots] at X27 l27 y27 z27 st27 hQ27
          subst l27 y27 z27
          obtain ⟨rfl, N27q, e27⟩ := hQ27
          have N27 := Fr.app N15 N27q
          refine own_pre (A' := T27.setTop (mkF m 161 #[.val (.int p0), .val (.int p1), .val (.int p2), .val (.int p3), .val (.int md), .val (.ref b7), .unset, .unset] [(.int (1 : Int32))])) st27 ?_
          exact own_ret (v := some (.int (1 : Int32))) X27 (fun h => by first | rfl | (rw [Bd.returns] at h; cases h)) (BodyLoose.notSynchronized Bd) (by decide) (by decide) (⟨rfl, N27⟩) (fun fs hr => retN X27 hx (t := .boolean) Bd.returns (by simp) (hb hby D0_161.1) hr)
        · rw [hi8]
          obtain ⟨cl_b7_28, Ar_b7_28, q_b7_28, S_b7_28, N_b7_28, H_b7_28, G_b7_28⟩ := id V_b7_15
          have hin_b7_28 : ¬ ((6 : Int32) < 0 ∨ cl_b7_28.slots.size ≤ ((6 : Int32)).toNatClampNeg) := inb_of S_b7_28 ⟨by decide, by decide⟩
          have hat_b7_28 : cl_b7_28.slots[((6 : Int32)).toNatClampNeg]? = some (.int (65521 : Int32)) := H_b7_28.at hin_b7_28 (rfl)
          refine own_pre (A' := T15.setTop (mkF m 158 #[.val (.int p0), .val (.int p1), .val (.int p2), .val (.int p3), .val (.int md), .val (.ref b7), .unset, .unset] [(.int (65521 : Int32))])) (fun t k => X15.iaload hx (j := (6 : Int32)) (v := (.int (65521 : Int32))) (by rw [e15]; exact Ar_b7_28.1) (State.isArrayOf_alike hZ.alike Ar_b7_28.2.1) Ar_b7_28.2.2 hin_b7_28 hat_b7_28 (g := (mkF m 157 #[.val (.int p0), .val (.int p1), .val (.int p2), .val (.int p3), .val (.int md), .val (.ref b7), .unset, .unset] [(.int (6 : Int32)), (.ref b7)])) rfl rfl (hb hby D0_157.1) _ k) ?_
          obtain ⟨_, _, ⟨T29, L29, k29, n29⟩, -, X29, ⟨Lc29, hQ29, l29, y29, z29⟩, st29⟩ := Jvm.LawKit.callS X15 hx (y := (⟨"com/example/placer/placer/Maglev", "isPrime", "(I)Z"⟩ : MethodName)) hown (mvT hZ (own_wd hw (i := 2) rfl)) (mvT hZ (own_wd hw (i := 3) rfl)) (mvT hZ (own_wd hw (i := 4) rfl)) (mvT hZ (own_wd hw (i := 5) rfl)) (by decide) (backOf (W := 0) (rm1 l Z a0 hw [] (65521 : Int32) (1 : Int32) h15 n0 (own_leN (by omega)) (Or.inl ⟨rfl, own_p6⟩)) hZ (own_wd hw (i := 5) rfl) (own_wd hw (i := 4) rfl) (by decide) (by decide)) (g := (mkF m 158 #[.val (.int p0), .val (.int p1), .val (.int p2), .val (.int p3), .val (.int md), .val (.ref b7), .unset, .unset] [(.int (65521 : Int32))])) rfl (by rw [hml]; rfl) (argsL := [(.int (65521 : Int32))]) (rest := []) (lenOf pd__40I_41Z rfl) rfl (by show 2 * 0 + _ ≤ _; exact Nat.le_of_eq rfl) (hb hby D0_158.1) (fun _ _ => ⟨rfl, e15, (by decide : 1 + 0 ≤ _), (by decide : 8 + 0 ≤ _)⟩)
          dsimp only [Pt.U, Pt.locs, Pt.cells, Pt.slots] at X29 l29 y29 z29 st29 hQ29
          subst l29 y29 z29
          obtain ⟨rfl, N29q, e29⟩ := hQ29
          have N29 := Fr.app N15 N29q
          refine own_pre (A' := T29.setTop (mkF m 161 #[.val (.int p0), .val (.int p1), .val (.int p2), .val (.int p3), .val (.int md), .val (.ref b7), .unset, .unset] [(.int (1 : Int32))])) st29 ?_
          exact own_ret (v := some (.int (1 : Int32))) X29 (fun h => by first | rfl | (rw [Bd.returns] at h; cases h)) (BodyLoose.notSynchronized Bd) (by decide) (by decide) (⟨rfl, N29⟩) (fun fs hr => retN X29 hx (t := .boolean) Bd.returns (by simp) (hb hby D0_161.1) hr)
        · rw [hi8]
          obtain ⟨cl_b7_30, Ar_b7_30, q_b7_30, S_b7_30, N_b7_30, H_b7_30, G_b7_30⟩ := id V_b7_15
          have hin_b7_30 : ¬ ((7 : Int32) < 0 ∨ cl_b7_30.slots.size ≤ ((7 : Int32)).toNatClampNeg) := inb_of S_b7_30 ⟨by decide, by decide⟩
          have hat_b7_30 : cl_b7_30.slots[((7 : Int32)).toNatClampNeg]? = some (.int (46337 : Int32)) := H_b7_30.at hin_b7_30 (rfl)
          refine own_pre (A' := T15.setTop (mkF m 158 #[.val (.int p0), .val (.int p1), .val (.int p2), .val (.int p3), .val (.int md), .val (.ref b7), .unset, .unset] [(.int (46337 : Int32))])) (fun t k => X15.iaload hx (j := (7 : Int32)) (v := (.int (46337 : Int32))) (by rw [e15]; exact Ar_b7_30.1) (State.isArrayOf_alike hZ.alike Ar_b7_30.2.1) Ar_b7_30.2.2 hin_b7_30 hat_b7_30 (g := (mkF m 157 #[.val (.int p0), .val (.int p1), .val (.int p2), .val (.int p3), .val (.int md), .val (.ref b7), .unset, .unset] [(.int (7 : Int32)), (.ref b7)])) rfl rfl (hb hby D0_157.1) _ k) ?_
          obtain ⟨_, _, ⟨T31, L31, k31, n31⟩, -, X31, ⟨Lc31, hQ31, l31, y31, z31⟩, st31⟩ := Jvm.LawKit.callS X15 hx (y := (⟨"com/example/placer/placer/Maglev", "isPrime", "(I)Z"⟩ : MethodName)) hown (mvT hZ (own_wd hw (i := 2) rfl)) (mvT hZ (own_wd hw (i := 3) rfl)) (mvT hZ (own_wd hw (i := 4) rfl)) (mvT hZ (own_wd hw (i := 5) rfl)) (by decide) (backOf (W := 0) (rm1 l Z a0 hw [] (46337 : Int32) (1 : Int32) h15 n0 (own_leN (by omega)) (Or.inl ⟨rfl, own_p7⟩)) hZ (own_wd hw (i := 5) rfl) (own_wd hw (i := 4) rfl) (by decide) (by decide)) (g := (mkF m 158 #[.val (.int p0), .val (.int p1), .val (.int p2), .val (.int p3), .val (.int md), .val (.ref b7), .unset, .unset] [(.int (46337 : Int32))])) rfl (by rw [hml]; rfl) (argsL := [(.int (46337 : Int32))]) (rest := []) (lenOf pd__40I_41Z rfl) rfl (by show 2 * 0 + _ ≤ _; exact Nat.le_of_eq rfl) (hb hby D0_158.1) (fun _ _ => ⟨rfl, e15, (by decide : 1 + 0 ≤ _), (by decide : 8 + 0 ≤ _)⟩)
          dsimp only [Pt.U, Pt.locs, Pt.cells, Pt.slots] at X31 l31 y31 z31 st31 hQ31
          subst l31 y31 z31
          obtain ⟨rfl, N31q, e31⟩ := hQ31
          have N31 := Fr.app N15 N31q
          refine own_pre (A' := T31.setTop (mkF m 161 #[.val (.int p0), .val (.int p1), .val (.int p2), .val (.int p3), .val (.int md), .val (.ref b7), .unset, .unset] [(.int (1 : Int32))])) st31 ?_
          exact own_ret (v := some (.int (1 : Int32))) X31 (fun h => by first | rfl | (rw [Bd.returns] at h; cases h)) (BodyLoose.notSynchronized Bd) (by decide) (by decide) (⟨rfl, N31⟩) (fun fs hr => retN X31 hx (t := .boolean) Bd.returns (by simp) (hb hby D0_161.1) hr)
      · skip
        refine o_icmpY X0 hx hby D0_97 (feq hc97_6).2 (q := 162) (by decide) (by decide) ?_
        refine o_iloadN X0 hx hby D0_162 rfl ?_
        refine o_iconst X0 hx hby D0_163 (v := 2) rfl ?_
        by_cases hc164_32 : (2 : Int32) < p2
        · skip
          refine o_icmpY X0 hx hby D0_164 (tlt hc164_32).2.2.1 (q := 190) (by decide) (by decide) ?_
          refine o_iconst X0 hx hby D0_190 (v := 2) rfl ?_
          refine o_iloadN X0 hx hby D0_191 rfl ?_
          refine o_ldc X0 hx hby hown (mvT hZ (own_wd hw (i := 0) rfl)) D0_192 ?_
          refine o_iand X0 hx hby D0_194 ?_
          refine o_iloadN X0 hx hby D0_195 rfl ?_
          refine o_iconst X0 hx hby D0_196 (v := 2) rfl ?_
          refine o_isub X0 hx hby D0_197 ?_
          refine o_irem X0 hx hby D0_198 (own_n2nz hc164_32) ?_
          refine o_iadd X0 hx hby D0_199 ?_
          refine o_istore X0 hx hby D0_200 (l' := #[.val (.int p0), .val (.int p1), .val (.int p2), .val (.int p3), .val (.int md), .val (.int ((2 : Int32) + ((p0 &&& (2147483647 : Int32)) % (p2 - (2 : Int32))))), .unset, .unset]) rfl ?_
          generalize hdv : ((2 : Int32) + ((p0 &&& (2147483647 : Int32)) % (p2 - (2 : Int32)))) = dv
          have bdv := own_d hc164_32 hdv
          refine o_iloadN X0 hx hby D0_202 rfl ?_
          obtain ⟨r33, hr33⟩ := own_is p2
          obtain ⟨_, _, ⟨T33, L33, k33, n33⟩, -, X33, ⟨Lc33, hQ33, l33, y33, z33⟩, st33⟩ := Jvm.LawKit.callS X0 hx (y := (⟨"com/example/placer/placer/Maglev", "isPrime", "(I)Z"⟩ : MethodName)) hown (mvT hZ (own_wd hw (i := 2) rfl)) (mvT hZ (own_wd hw (i := 3) rfl)) (mvT hZ (own_wd hw (i := 4) rfl)) (mvT hZ (own_wd hw (i := 5) rfl)) (by decide) (backOf (W := 0) (rm1 l Z a0 hw [] p2 r33 h0 n0 Z0 hr33) hZ (own_wd hw (i := 5) rfl) (own_wd hw (i := 4) rfl) (by decide) (by decide)) (g := (mkF m 203 #[.val (.int p0), .val (.int p1), .val (.int p2), .val (.int p3), .val (.int md), .val (.int dv), .unset, .unset] [(.int p2)])) rfl (by rw [hml]; rfl) (argsL := [(.int p2)]) (rest := []) (lenOf pd__40I_41Z rfl) rfl (by show 2 * 0 + _ ≤ _; exact Nat.le_of_eq rfl) (hb hby D0_203.1) (fun _ _ => ⟨rfl, e0, (by decide : 0 + 0 ≤ _), (by decide : 0 + 0 ≤ _)⟩)
          dsimp only [Pt.U, Pt.locs, Pt.cells, Pt.slots] at X33 l33 y33 z33 st33 hQ33
          subst l33 y33 z33
          obtain ⟨rfl, N33q, e33⟩ := hQ33
          have N33 := Fr.app N0 N33q
          refine own_pre (A' := T33.setTop (mkF m 206 #[.val (.int p0), .val (.int p1), .val (.int p2), .val (.int p3), .val (.int md), .val (.int dv), .unset, .unset] [(.int r33)])) st33 ?_
          by_cases hc206_34 : r33 = (0 : Int32)
          · skip
            refine o_ifY X33 hx hby D0_206 ((if0 _ _).trans (teq hc206_34).1) (q := 216) (by decide) (by decide) ?_
            refine o_iconst X33 hx hby D0_216 (v := 1) rfl ?_
            refine o_goto X33 hx hby D0_217 (q := 221) (by decide) (by decide) ?_
            exact own_ret (v := some (.int (1 : Int32))) X33 (fun h => by first | rfl | (rw [Bd.returns] at h; cases h)) (BodyLoose.notSynchronized Bd) (by decide) (by decide) (⟨rfl, N33⟩) (fun fs hr => retN X33 hx (t := .boolean) Bd.returns (by simp) (hb hby D0_221.1) hr)
          · skip
            refine o_ifN X33 hx hby D0_206 ((if0 _ _).trans (feq hc206_34).1) ?_
            refine o_iloadN X33 hx hby D0_209 rfl ?_
            refine o_iload X33 hx hby D0_210 rfl ?_
            refine o_irem X33 hx hby D0_212 (own_dnz bdv) ?_
            refine o_ifN X33 hx hby D0_213 ((if0 _ _).trans (feq (own_m3c hr33 hc206_34 bdv : ¬ ((p2 % dv) = (0 : Int32)))).1) ?_
            refine o_iconst X33 hx hby D0_216 (v := 1) rfl ?_
            refine o_goto X33 hx hby D0_217 (q := 221) (by decide) (by decide) ?_
            exact own_ret (v := some (.int (1 : Int32))) X33 (fun h => by first | rfl | (rw [Bd.returns] at h; cases h)) (BodyLoose.notSynchronized Bd) (by decide) (by decide) (⟨rfl, N33⟩) (fun fs hr => retN X33 hx (t := .boolean) Bd.returns (by simp) (hb hby D0_221.1) hr)
        · skip
          refine o_icmpN X0 hx hby D0_164 (flt hc164_32).2.2.1 ?_
          refine o_iloadN X0 hx hby D0_167 rfl ?_
          obtain ⟨r35, hr35⟩ := own_is p2
          obtain ⟨_, _, ⟨T35, L35, k35, n35⟩, -, X35, ⟨Lc35, hQ35, l35, y35, z35⟩, st35⟩ := Jvm.LawKit.callS X0 hx (y := (⟨"com/example/placer/placer/Maglev", "isPrime", "(I)Z"⟩ : MethodName)) hown (mvT hZ (own_wd hw (i := 2) rfl)) (mvT hZ (own_wd hw (i := 3) rfl)) (mvT hZ (own_wd hw (i := 4) rfl)) (mvT hZ (own_wd hw (i := 5) rfl)) (by decide) (backOf (W := 0) (rm1 l Z a0 hw [] p2 r35 h0 n0 Z0 hr35) hZ (own_wd hw (i := 5) rfl) (own_wd hw (i := 4) rfl) (by decide) (by decide)) (g := (mkF m 168 #[.val (.int p0), .val (.int p1), .val (.int p2), .val (.int p3), .val (.int md), .unset, .unset, .unset] [(.int p2)])) rfl (by rw [hml]; rfl) (argsL := [(.int p2)]) (rest := []) (lenOf pd__40I_41Z rfl) rfl (by show 2 * 0 + _ ≤ _; exact Nat.le_of_eq rfl) (hb hby D0_168.1) (fun _ _ => ⟨rfl, e0, (by decide : 0 + 0 ≤ _), (by decide : 0 + 0 ≤ _)⟩)
          dsimp only [Pt.U, Pt.locs, Pt.cells, Pt.slots] at X35 l35 y35 z35 st35 hQ35
          subst l35 y35 z35
          obtain ⟨rfl, N35q, e35⟩ := hQ35
          have N35 := Fr.app N0 N35q
          refine own_pre (A' := T35.setTop (mkF m 171 #[.val (.int p0), .val (.int p1), .val (.int p2), .val (.int p3), .val (.int md), .unset, .unset, .unset] [(.int r35)])) st35 ?_
          refine o_iloadN X35 hx hby D0_171 rfl ?_
          refine o_iconst X35 hx hby D0_172 (v := 2) rfl ?_
          by_cases hc173_36 : p2 = (2 : Int32)
          · skip
            refine o_icmpN X35 hx hby D0_173 (teq hc173_36).2 ?_
            refine o_iconst X35 hx hby D0_176 (v := 1) rfl ?_
            refine o_goto X35 hx hby D0_177 (q := 181) (by decide) (by decide) ?_
            refine o_icmpN X35 hx hby D0_181 (teq (own_m3a hr35 hc173_36 : r35 = (1 : Int32))).2 ?_
            refine o_iconst X35 hx hby D0_184 (v := 1) rfl ?_
            refine o_goto X35 hx hby D0_185 (q := 189) (by decide) (by decide) ?_
            exact own_ret (v := some (.int (1 : Int32))) X35 (fun h => by first | rfl | (rw [Bd.returns] at h; cases h)) (BodyLoose.notSynchronized Bd) (by decide) (by decide) (⟨rfl, N35⟩) (fun fs hr => retN X35 hx (t := .boolean) Bd.returns (by simp) (hb hby D0_189.1) hr)
          · skip
            refine o_icmpY X35 hx hby D0_173 (feq hc173_36).2 (q := 180) (by decide) (by decide) ?_
            refine o_iconst X35 hx hby D0_180 (v := 0) rfl ?_
            refine o_icmpN X35 hx hby D0_181 (teq (own_m3b hr35 hc164_32 hc173_36 : r35 = (0 : Int32))).2 ?_
            refine o_iconst X35 hx hby D0_184 (v := 1) rfl ?_
            refine o_goto X35 hx hby D0_185 (q := 189) (by decide) (by decide) ?_
            exact own_ret (v := some (.int (1 : Int32))) X35 (fun h => by first | rfl | (rw [Bd.returns] at h; cases h)) (BodyLoose.notSynchronized Bd) (by decide) (by decide) (⟨rfl, N35⟩) (fun fs hr => retN X35 hx (t := .boolean) Bd.returns (by simp) (hb hby D0_189.1) hr)
set_option maxRecDepth 65536 in
set_option maxHeartbeats 40000000 in
theorem comes_1 {Post : Tables → Env → Array Value → State → Outcome → State → Prop} (hpost : ∀ tb e args s v u, (limb_1_1.after args s (.returned v) u = true ∧ limb_1_2.after args s (.returned v) u = true ∧ True) → FrameEnd s (.returned v) u (Jvm.fieldLocs frame_1_writes args s ++ Jvm.arrayLocs frame_1_arrays args s ++ Jvm.staticLocs frame_1_statics s) 16 128 → Post tb e args s (.returned v) u) :
    ArmFor flags0 classFile x code maxLocals ret World_1 tables_1 room_1 Calls_1 rest_1 Pre_1 Post := by
  intro l hfl _ _ p e ha hc hk s m args below hf hA hF happ hP
  obtain ⟨hcalls, hrest, hpre⟩ := hP
  obtain ⟨-, -, -, hnamed, -, -, -, hat⟩ := (Spec.applies_iff hf).mp happ
  obtain ⟨hg, hn⟩ := and_e (Cond.before_iff.mp (show (Jvm.Cond.and given_1 narrow_1).before args s = true from hpre))
  obtain ⟨gc, gr0⟩ := and_e hg
  obtain ⟨ga0, gr1⟩ := and_e gr0
  obtain ⟨ga1, gr2⟩ := and_e gr1
  obtain ⟨ga2, gr3⟩ := and_e gr2
  obtain ⟨w0, w1, w2, w3, rfl⟩ : ∃ w0 w1 w2 w3 : Value, args = #[w0, w1, w2, w3] := by
    have hs : args.size = 4 := by simpa [Cond.value, given_1] using gc
    obtain ⟨L⟩ := args
    match L, hs with
    | [w0, w1, w2, w3], _ => exact ⟨w0, w1, w2, w3, rfl⟩
  have hw := fun d (hd : d ∈ tables_1) => atoms_spec (ws := Jvm.Cond.code x code maxLocals ret :: tables_1) hat d (List.mem_cons_of_mem _ hd)
  obtain ⟨i0, ei0⟩ := is_v ga0
  obtain rfl : w0 = (.int i0) := Option.some.inj ei0
  obtain ⟨i1, ei1⟩ := is_v ga1
  obtain rfl : w1 = (.int i1) := Option.some.inj ei1
  obtain ⟨i2, ei2⟩ := is_v ga2
  obtain rfl : w2 = (.int i2) := Option.some.inj ei2
  obtain ⟨i3, ei3⟩ := is_v gr3
  obtain rfl : w3 = (.int i3) := Option.some.inj ei3
  obtain ⟨n, o, h1, h2, h3, _, L, rfl, ⟨rfl, N⟩, hq⟩ := rm0 l s _ hw tables_1 i0 i1 i2 i3 s.heap s.heap.size (Nat.le_refl _)  p e ha hc hk s m _ below hf ((Spec.applies_iff_loose hf).mp happ).1 ⟨rfl, State.Warmed39.refl s, rfl⟩ trivial
  refine ⟨n, _, h1, h2, h3, hpost _ _ _ _ _ _ ⟨Cond.after_iff.mpr rfl, Cond.after_iff.mpr (eq_i res_at (Term.int_eval (1)) rfl), trivial⟩ ⟨hq.1, hq.2.1, (hq.2.2.sift fun y hy => Or.inr (N y hy)).mono (by decide) (by decide)⟩⟩
theorem main_1_1 : Claimed_1_1 := comes_1 fun _ _ _ _ _ _ h hF => ⟨h.1, hF⟩
theorem main_1_2 : Claimed_1_2 := comes_1 fun _ _ _ _ _ _ h hF => ⟨h.2.1, hF⟩
end Jvm.Pilot.@@N@@
namespace Jvm.Pilot.@@N@@
open Jvm Jvm.ClassFile Sem Op Lib Jvm.Free Jvm.Stand Jvm.Pilot.@@N@@.Jvm.D
/-! MADE BY PROGRAM (witnessworld.py) out of the Statement's table words and the real class files: 10 classes; the members and pool entries that the words name. The judged class is class 1, her method 1. -/
namespace start1
open Jvm.ClassFile
def u (s : String) : CpInfo := .utf8 (stringToUtf16 s)
/-- a pool by its gaps: so many unusable entries, then the entry; so many at the end -/
def gap : Nat → List CpInfo → List CpInfo
  | 0, r => r
  | n + 1, r => .unusable :: gap n r
def poolList (es : List (Nat × CpInfo)) (last : Nat) : List CpInfo := es.foldr (fun e r => gap e.1 (e.2 :: r)) (gap last [])
def pool (es : List (Nat × CpInfo)) (last : Nat) : Array CpInfo := ⟨poolList es last⟩
def fileOf (pool : Array CpInfo) (this : Nat) (attrs : Array Attribute := #[]) (ms : Array MethodInfo := #[]) (fl : Nat := 33) (sup : Nat := 0) (ifs : Array Nat := #[]) (fds : Array FieldInfo := #[]) : ClassFile where
  minorVersion := 0
  majorVersion := 65
  constantPool := pool
  accessFlags := fl
  thisClass := this
  superClass := sup
  interfaces := ifs
  fields := fds
  methods := ms
  attributes := attrs
def plain (name : String) (sup : Option ClassId) : Class where
  name := name
  kind := .ordinary
  loader := none
  accessFlags := 33
  super := sup
  interfaces := #[]
  cf := none
  fields := #[]
  methods := #[]
  instanceTypes := #[]
  staticTypes := #[]
  resolved := #[]
  callSites := []
  init := .initialized
  statics := none
  mirror := none

def pool0 : Array CpInfo := pool [(5, u "<init>"), (0, u "()V"), (1, .class_ 10), (1, u "java/lang/Object")] 113

def k0m0 : Method := { name := "<init>", desc := "()V", sig := { parameters := [], returnType := none }, accessFlags := 1, code := none }
/-- java/lang/Object -/
def k0 : Class := { plain "java/lang/Object" none with
  accessFlags := 33
  interfaces := #[]
  cf := some (fileOf pool0 8 #[] #[{ accessFlags := 1, nameIndex := 5, descriptorIndex := 6, attributes := #[] }] 33 0 #[] #[])
  fields := #[]
  methods := #[k0m0]
  instanceTypes := #[]
  staticTypes := #[]
  resolved := Array.replicate 124 none
  statics := none }

def pool1 : Array CpInfo := pool [(2, .class_ 4), (1, u "java/lang/Object"), (0, u "<init>"), (0, u "()V"), (0, .methodref 8 9), (0, .class_ 10), (0, .nameAndType 11 12), (0, u "com/example/placer/placer/Maglev"), (0, u "isPrime"), (0, u "(I)Z"), (0, .methodref 14 15), (0, .class_ 16), (0, .nameAndType 17 12), (0, u "com/example/placer/placer/MaglevIsPrimePinLaw"), (0, u "smallPrime"), (0, .integer 2147483647), (0, .integer 46339), (2, .integer 2147483629), (0, .integer 2147483587), (0, .integer 1000000007), (0, .integer 999999937), (0, .integer 65537), (0, .integer 65521), (0, .integer 46337), (0, .methodref 14 30), (0, .nameAndType 31 32), (0, u "ok"), (0, u "(II)Z"), (2, u "law"), (0, u "(IIII)Z")] 3

def k1m0 : Method := { name := "<init>", desc := "()V", sig := { parameters := [], returnType := none }, accessFlags := 2, code := none }
def k1c1 : Code := { maxStack := 4, maxLocals := 8, code := code, exceptionTable := #[], attributes := #[] }
def k1m1 : Method := { name := "law", desc := "(IIII)Z", sig := { parameters := [.int, .int, .int, .int], returnType := some .boolean }, accessFlags := 9, code := some k1c1 }
def k1c2 : Code := { maxStack := 2, maxLocals := 2, code := method_3_code, exceptionTable := #[], attributes := #[] }
def k1m2 : Method := { name := "ok", desc := "(II)Z", sig := { parameters := [.int, .int], returnType := some .boolean }, accessFlags := 10, code := some k1c2 }
def k1c3 : Code := { maxStack := 2, maxLocals := 1, code := method_4_code, exceptionTable := #[], attributes := #[] }
def k1m3 : Method := { name := "smallPrime", desc := "(I)Z", sig := { parameters := [.int], returnType := some .boolean }, accessFlags := 10, code := some k1c3 }
/-- com/example/placer/placer/MaglevIsPrimePinLaw -/
def k1 : Class := { plain "com/example/placer/placer/MaglevIsPrimePinLaw" (some 0) with
  accessFlags := 49
  interfaces := #[]
  cf := some (fileOf pool1 14 #[] #[{ accessFlags := 2, nameIndex := 5, descriptorIndex := 6, attributes := #[] }, { accessFlags := 9, nameIndex := 35, descriptorIndex := 36, attributes := #[] }, { accessFlags := 10, nameIndex := 31, descriptorIndex := 32, attributes := #[] }, { accessFlags := 10, nameIndex := 17, descriptorIndex := 12, attributes := #[] }] 49 2 #[] #[])
  fields := #[]
  methods := #[k1m0, k1m1, k1m2, k1m3]
  instanceTypes := #[]
  staticTypes := #[]
  resolved := Array.replicate 40 none
  statics := none }

def pool2 : Array CpInfo := pool [(12, .class_ 14), (1, u "com/example/placer/placer/Layout"), (29, .class_ 45), (0, u "java/lang/Object")] 39

/-- com/example/placer/placer/Layout -/
def k2 : Class := { plain "com/example/placer/placer/Layout" (some 0) with
  accessFlags := 1536
  interfaces := #[]
  cf := some (fileOf pool2 12 #[] #[] 1536 44 #[] #[])
  fields := #[]
  methods := #[]
  instanceTypes := #[]
  staticTypes := #[]
  resolved := Array.replicate 85 none
  statics := none }

def pool3 : Array CpInfo := pool [(2, .class_ 4), (1, u "java/lang/Object"), (7, .class_ 14), (1, u "com/example/placer/placer/Layout"), (7, .class_ 24), (1, u "com/example/placer/placer/Maglev"), (0, u "owners"), (0, u "[I"), (47, u "UNCLAIMED"), (0, u "I"), (8, u "isPrime"), (0, u "(I)Z")] 21

def k3c0 : Code := { maxStack := 4, maxLocals := 2, code := prog_15_method_3_code, exceptionTable := #[], attributes := #[] }
def k3m0 : Method := { name := "isPrime", desc := "(I)Z", sig := { parameters := [.int], returnType := some .boolean }, accessFlags := 8, code := some k3c0 }
/-- com/example/placer/placer/Maglev -/
def k3 : Class := { plain "com/example/placer/placer/Maglev" (some 0) with
  accessFlags := 48
  interfaces := #[2]
  cf := some (fileOf pool3 22 #[] #[{ accessFlags := 8, nameIndex := 84, descriptorIndex := 85, attributes := #[] }] 48 2 #[12] #[{ accessFlags := 26, nameIndex := 74, descriptorIndex := 75, attributes := #[] }, { accessFlags := 18, nameIndex := 25, descriptorIndex := 26, attributes := #[] }])
  fields := #[{ name := "UNCLAIMED", type := .int, accessFlags := 26, slot := 0, constantValue := 0 }, { name := "owners", type := (.array .int), accessFlags := 18, slot := 0, constantValue := 0 }]
  methods := #[k3m0]
  instanceTypes := #[(.array .int)]
  staticTypes := #[.int]
  resolved := Array.replicate 107 none
  statics := none }

def pool4 : Array CpInfo := pool [(1, u "java/lang/Cloneable"), (0, .class_ 1), (0, u "java/lang/Object"), (0, .class_ 3)] 3

/-- java/lang/Cloneable -/
def k4 : Class := { plain "java/lang/Cloneable" (some 0) with
  accessFlags := 1537
  interfaces := #[]
  cf := some (fileOf pool4 2 #[] #[] 1537 4 #[] #[])
  fields := #[]
  methods := #[]
  instanceTypes := #[]
  staticTypes := #[]
  resolved := Array.replicate 8 none
  statics := none }

def pool5 : Array CpInfo := pool [(1, u "java/io/Serializable"), (0, .class_ 1), (0, u "java/lang/Object"), (0, .class_ 3)] 3

/-- java/io/Serializable -/
def k5 : Class := { plain "java/io/Serializable" (some 0) with
  accessFlags := 1537
  interfaces := #[]
  cf := some (fileOf pool5 2 #[] #[] 1537 4 #[] #[])
  fields := #[]
  methods := #[]
  instanceTypes := #[]
  staticTypes := #[]
  resolved := Array.replicate 8 none
  statics := none }

/-- the primitive byte -/
def k6 : Class := { plain "byte" none with kind := .primitive 'B', accessFlags := 0x411 }
/-- [B -/
def k7 : Class := { plain "[B" (some 0) with kind := .array 6 .byte, interfaces := #[4, 5], accessFlags := 1041 }

/-- the primitive int -/
def k8 : Class := { plain "int" none with kind := .primitive 'I', accessFlags := 0x411 }
/-- [I -/
def k9 : Class := { plain "[I" (some 0) with kind := .array 8 .int, interfaces := #[4, 5], accessFlags := 1041 }

def heap : Heap := #[]
def classes : Array Class := #[k0, k1, k2, k3, k4, k5, k6, k7, k8, k9]
def interned : List (Array UInt16 × Addr) := []
def slotsUsed : Nat := 0
def theMethod : MethodId := ⟨1, 1⟩
def args0 : Array Value := #[.int 5, .int 6, .int 7, .int 0]
def aboutOver (below : List Frame) : State where
  vm := { classes := classes, interned := interned.toArray }
  heap := heap
  slotsUsed := slotsUsed
  threads := #[{ frames := .invoking theMethod args0 :: below }]
def below0 : List Frame := [.native { method := ⟨0, 0⟩, args := #[] }]
def about1 : State := aboutOver below0
def p0 : Program := .bare "" "" ""
def e0 : Env := launch0.env 0 0 0
theorem w_frames : about1.frames = Frame.invoking theMethod args0 :: below0 := rfl
set_option maxRecDepth 65536 in
theorem w_args : argsFit about1.vm theMethod args0 = true := by decide +kernel
set_option maxRecDepth 65536 in
theorem w_heap : heapFits about1 = true := by decide +kernel
set_option maxRecDepth 65536 in
theorem w_runnable : about1.curStatus? = some .runnable := by decide +kernel
set_option maxRecDepth 65536 in
theorem w_alone : about1.alone = true := by decide +kernel
set_option maxRecDepth 65536 in
theorem w_named : about1.methodNamed? x = some theMethod := by decide +kernel
set_option maxRecDepth 65536 in
theorem w_hears : about1.hears theMethod below0 = true := by decide +kernel
set_option maxRecDepth 65536 in
theorem w_ripe : about1.ripe theMethod args0 below0 = true := by decide +kernel
theorem w_running : about1.status = .running := rfl
set_option maxRecDepth 65536 in
theorem w_room : about1.hasRoom e0.platform room_1 = true :=
  launch0.hasRoom_least _ room_1 (by decide +kernel) (by decide +kernel) (by decide +kernel) (by decide +kernel) (by decide +kernel) (by decide +kernel)
theorem allAtoms_all (ts : List Jvm.Cond) (a : Array Jvm.Value) (st : Jvm.State) : (allAtoms ts).before a st = ts.all (fun c => c.before a st) := by
  induction ts with
  | nil => rfl
  | cons c t ih =>
    show (Jvm.Cond.and c (allAtoms t)).before a st = _
    rw [Jvm.Cond.before_and, ih, List.all_cons]
def words1 : List Jvm.Cond := Jvm.Cond.code x code maxLocals ret :: tables_1
/-- a 'code' word, met by the world's own term for the bytes: nothing is compared byte by byte -/
theorem code_word {y : MethodName} {bytes : ByteArray} {mx : Nat} {rt : Option FieldType} {a : Array Value} {s : State} {m : MethodId} {meth : Method} {c : Code} (h1 : s.methodNamed? y = some m) (h2 : s.vm.method? m = some meth) (h3 : meth.code = some c) (h4 : c.code = bytes)
    (h5 : (c.maxLocals == mx && c.exceptionTable.isEmpty && decide (c.maxStack ≤ mostOperands) && decide (meth.sig.returnType = rt) && !meth.locks && decide (parseMethodDescriptor y.desc = some meth.sig)) = true) : (Jvm.Cond.code y bytes mx rt).before a s = true := by
  simp only [Bool.and_eq_true, beq_iff_eq, Bool.not_eq_true', decide_eq_true_eq] at h5
  obtain ⟨⟨⟨⟨⟨g1, g2⟩, g3⟩, g4⟩, g5⟩, g6⟩ := h5
  simp [Cond.before, Cond.holds, Cond.value, h1, h2, h3, h4, g1, g2, g3, g4, g5, g6]
def isCode : Jvm.Cond → Bool
  | .code _ _ _ _ => true
  | _ => false
theorem all_split {L : List Jvm.Cond} {P : Jvm.Cond → Bool} (h1 : L.all (fun c => isCode c || P c) = true) (h2 : ∀ c ∈ L.filter isCode, P c = true) : L.all P = true := by
  refine List.all_eq_true.mpr fun c hc => ?_
  have h := List.all_eq_true.mp h1 c hc
  rcases Bool.eq_false_or_eq_true (isCode c) with hi | hi
  · exact h2 c (List.mem_filter.mpr ⟨hc, hi⟩)
  · simpa [hi] using h
set_option maxRecDepth 65536 in
theorem w_c0 : (Jvm.Cond.code x code maxLocals ret).before args0 about1 = true := code_word (m := ⟨1, 1⟩) (meth := k1m1) (c := k1c1) (by decide +kernel) rfl rfl rfl (by decide +kernel)
set_option maxRecDepth 65536 in
theorem w_c1 : (Jvm.Cond.code ({ cls := "com/example/placer/placer/Maglev", name := "isPrime", desc := "(I)Z" } : Jvm.MethodName) prog_15_method_3_code (2 : Nat) (Option.some Jvm.ClassFile.FieldType.boolean)).before args0 about1 = true := code_word (m := ⟨3, 0⟩) (meth := k3m0) (c := k3c0) (by decide +kernel) rfl rfl rfl (by decide +kernel)
set_option maxRecDepth 65536 in
theorem w_c2 : (Jvm.Cond.code ({ cls := "com/example/placer/placer/MaglevIsPrimePinLaw", name := "smallPrime", desc := "(I)Z" } : Jvm.MethodName) method_4_code (1 : Nat) (Option.some Jvm.ClassFile.FieldType.boolean)).before args0 about1 = true := code_word (m := ⟨1, 3⟩) (meth := k1m3) (c := k1c3) (by decide +kernel) rfl rfl rfl (by decide +kernel)
set_option maxRecDepth 65536 in
theorem w_c3 : (Jvm.Cond.code ({ cls := "com/example/placer/placer/MaglevIsPrimePinLaw", name := "ok", desc := "(II)Z" } : Jvm.MethodName) method_3_code (2 : Nat) (Option.some Jvm.ClassFile.FieldType.boolean)).before args0 about1 = true := code_word (m := ⟨1, 2⟩) (meth := k1m2) (c := k1c2) (by decide +kernel) rfl rfl rfl (by decide +kernel)
def codes1 : List Jvm.Cond := [Jvm.Cond.code x code maxLocals ret, Jvm.Cond.code ({ cls := "com/example/placer/placer/Maglev", name := "isPrime", desc := "(I)Z" } : Jvm.MethodName) prog_15_method_3_code (2 : Nat) (Option.some Jvm.ClassFile.FieldType.boolean), Jvm.Cond.code ({ cls := "com/example/placer/placer/MaglevIsPrimePinLaw", name := "smallPrime", desc := "(I)Z" } : Jvm.MethodName) method_4_code (1 : Nat) (Option.some Jvm.ClassFile.FieldType.boolean), Jvm.Cond.code ({ cls := "com/example/placer/placer/MaglevIsPrimePinLaw", name := "ok", desc := "(II)Z" } : Jvm.MethodName) method_3_code (2 : Nat) (Option.some Jvm.ClassFile.FieldType.boolean)]
set_option maxRecDepth 65536 in
theorem codes_eq : words1.filter isCode = codes1 := rfl
theorem w_codes : ∀ c ∈ words1.filter isCode, c.before args0 about1 = true := by
  rw [codes_eq]
  intro c hc
  simp only [codes1, List.mem_cons, List.not_mem_nil, or_false] at hc
  rcases hc with rfl | rfl | rfl | rfl
  · exact w_c0
  · exact w_c1
  · exact w_c2
  · exact w_c3
set_option maxRecDepth 65536 in
theorem w_t1 : words1.all (fun c => isCode c || c.before args0 about1) = true := by decide +kernel
theorem w_tables : (allAtoms (Jvm.Cond.code x code maxLocals ret :: tables_1)).before args0 about1 = true := by
  rw [allAtoms_all]
  show words1.all (fun c => c.before args0 about1) = true
  refine all_split ?_ w_codes
  rw [w_t1]
set_option maxRecDepth 65536 in
theorem w_case : (Jvm.Cond.and given_1 narrow_1).before args0 about1 = true := by decide +kernel
theorem w_applies : (headSpec (Jvm.Cond.code x code maxLocals ret :: tables_1) room_1).applies x e0.platform about1 = true :=
  (Spec.applies_iff w_frames).mpr ⟨w_running, w_runnable, w_alone, w_named, w_hears, w_ripe, w_room, w_tables⟩
theorem atStart : AtStart classFile x code maxLocals ret World_1 tables_1 room_1 Calls_1 rest_1 Pre_1 launch0 p0 e0 about1 theMethod args0 below0 :=
  ⟨lists_1, trivial, launch0.admits_env _ _ _, launch0.least_env, fairChoices_fair.cas, fairChoices_fair.clock, w_frames, w_args, w_heap, w_applies, trivial, trivial, w_case⟩
end start1
theorem witness_1 : WitnessClaimed_1 := ⟨start1.p0, start1.e0, start1.about1, start1.theMethod, start1.args0, start1.below0, start1.atStart⟩
end Jvm.Pilot.@@N@@
