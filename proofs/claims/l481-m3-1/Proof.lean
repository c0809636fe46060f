import JvmDerived
import JvmDerived.Pilot.@@N@@Statement
import JvmDerived.Pilot.@@N@@Code
set_option linter.unusedVariables false
set_option linter.unusedSimpArgs false
@@BLOCK:NumsL.lean.txt@@
namespace Jvm.RoadKit
open Sem ClassFile Op Lib Jvm.Stand Jvm.Free Jvm.LawKit
section New
variable {p : Program} {l : Launch} {e : Env} {R : Room} {s : State} {m : MethodId} {args : Array Value} {below : List Frame} {meth : Method} {c : Code} {T : State} {locs : List Loc} {cells slots : Nat}
theorem retI (X : Stand p l e R s m args below meth c T locs cells slots) (hx : p.tables.exec = Jvm.exec) {pc : Nat} {Ls : Array Slot} {z : Int32} {rest : List Value} (hret : meth.sig.returnType = some .int) (hd : decode c.code pc = .ok (.ireturn, 1)) {fs : List Frame}
    (hl : ∀ (f : JFrame) (acts : List Action), f.method = m → f.locked = none → f.entered = [] → (doReturn e (T.setTop f) acts (some (.int z))).1 = T.setFrames fs) : Steps p.tables e below (T.setTop (mkF m pc Ls (.int z :: rest))) (T.setFrames fs) := by
  have hm' : T.vm.method? m = some meth := X.method'
  have hn : narrow .int (.int z) = .int z := rfl
  show Steps p.tables e below (T.setTop { method := m, pc := pc, locals := Ls, stack := _ :: rest, locked := none }) _
  jvm_step X.here [X.here.top, hx, hd, hm', hret, hn]
  first | (intro acts; rw [hl _ acts rfl rfl rfl]) | rw [hl _ _ rfl rfl rfl]
  exact Steps.refl _

/-- from A the run ends, and R holds of the end -/
def own_Fin (tb : Tables) (e : Env) (below : List Frame) (R : State → Outcome → Prop) (A : State) : Prop := ∃ t o, Steps tb e below A t ∧ R t o
def own_R (s : State) (below : List Frame) (Q : Option Value → Heap → List Loc → Prop) (C S : Nat) (t : State) (o : Outcome) : Prop :=
  t.status = .running ∧ Ended t below o ∧ ∃ v L, o = .returned v ∧ Q v t.heap L ∧ FrameEnd s o t L C S
theorem own_pre {tb : Tables} {e : Env} {below : List Frame} {R : State → Outcome → Prop} {A A' : State} (h : ∀ t, Steps tb e below A' t → Steps tb e below A t) (k : own_Fin tb e below R A') : own_Fin tb e below R A := by
  obtain ⟨t, o, h1, h2⟩ := k; exact ⟨t, o, h t h1, h2⟩
theorem own_start {tb : Tables} {e : Env} {below : List Frame} {s T : State} {Q : Option Value → Heap → List Loc → Prop} {C S : Nat} {g g' : JFrame} (q : g = g') (k : own_Fin tb e below (own_R s below Q C S) (T.setTop g')) :
    ∃ s₂ o, Steps tb e below (T.setTop g) s₂ ∧ s₂.status = .running ∧ Ended s₂ below o ∧ ∃ v L, o = .returned v ∧ Q v s₂.heap L ∧ FrameEnd s o s₂ L C S := by
  subst q; exact k
theorem own_ret {Q : Option Value → Heap → List Loc → Prop} {C S : Nat} {A : State} {v : Option Value} (X : Stand p l e R s m args below meth c T locs cells slots) (hv : meth.sig.returnType = none → v = none) (hlocks : meth.locks = false) (hc : cells ≤ C) (hs : slots ≤ S) (hQ : Q v T.heap locs)
    (hstep : ∀ fs, (∀ (f : JFrame) (acts : List Action), f.method = m → f.locked = none → f.entered = [] → (doReturn e (T.setTop f) acts v).1 = T.setFrames fs) → Steps p.tables e below A (T.setFrames fs)) : own_Fin p.tables e below (own_R s below Q C S) A := by
  obtain ⟨fs, hr, hrun, hended, hW, hsame⟩ := X.leave hv hlocks
  exact ⟨_, _, hstep fs hr, hrun, hended, _, _, rfl, hQ, ⟨_, rfl⟩, hW, hsame.mono hc hs⟩
theorem own_ltN {a b : Nat} (h : a < b) : @LT.lt Nat instLTNat a b := h
theorem own_leN {a b : Nat} (h : a ≤ b) : @LE.le Nat instLENat a b := h
theorem own_neN {a b : Nat} (h : @LT.lt Nat instLTNat a b) : a ≠ b := Nat.ne_of_lt h
theorem own_neN' {a b : Nat} (h : @LT.lt Nat instLTNat b a) : a ≠ b := Nat.ne_of_gt h
theorem own_selp {y : MethodName} {s : State} {args : Array Value} {n : Nat} (hy : y.cls ≠ "java/lang/invoke/MethodHandle" ∧ y.cls ≠ "java/lang/invoke/VarHandle")
    (hins : (Cond.instantiable y.cls n).before args s = true) (hpriv : (Cond.privateMethod y).before args s = true) (hinst : (Cond.instanceMethod y).before args s = true) : (Cond.selects y.cls y y).before args s = true := by
  obtain ⟨c, k, hc, hk, -, hniab, -, -⟩ := Cond.instantiable_spec hins
  exact selects_self_of_private hc hk (Bool.or_eq_false_iff.mp hniab).1 (Cond.privateMethod_at hpriv) hinst hy
def own_QV (h0 : Heap) (n0 : Nat) (v : Option Value) (h : Heap) (L : List Loc) : Prop := v = none ∧ Fr n0 L ∧ h = h0
def own_QP (r : Value) (h0 : Heap) (n0 : Nat) (v : Option Value) (h : Heap) (L : List Loc) : Prop := v = some r ∧ Fr n0 L ∧ h = h0
def own_at (code : ByteArray) (pc : Nat) (i : Instr) (n pc' : Nat) : Prop := decode code pc = .ok (i, n) ∧ pc + n = pc'
section Steps1
variable {p : Program} {l : Launch} {e : Env} {R : Room} {s : State} {m : MethodId} {args : Array Value} {below : List Frame} {meth : Method} {c : Code} {T : State} {locs : List Loc} {cells slots : Nat} {code : ByteArray} {Rr : State → Outcome → Prop} {Ls : Array Slot} {st : List Value} {pc pc' : Nat}
theorem o_iloadN (X : Stand p l e R s m args below meth c T locs cells slots) (hx : p.tables.exec = Jvm.exec) (hby : c.code = code) {k : Fin 4} {v : Int32} (hd : own_at code pc (.iload_n k) 1 pc') (hl : Ls[k.val]? = some (.val (.int v)))
    (h : own_Fin p.tables e below Rr (T.setTop (mkF m pc' Ls (.int v :: st)))) : own_Fin p.tables e below Rr (T.setTop (mkF m pc Ls (st))) := by
  obtain ⟨hd, rfl⟩ := hd; subst hby
  exact own_pre (fun t k => XS.iloadN X.here hx rfl hd hl k) h
theorem o_iload (X : Stand p l e R s m args below meth c T locs cells slots) (hx : p.tables.exec = Jvm.exec) (hby : c.code = code) {k : Nat} {v : Int32} (hd : own_at code pc (.iload k) 2 pc') (hl : Ls[k]? = some (.val (.int v)))
    (h : own_Fin p.tables e below Rr (T.setTop (mkF m pc' Ls (.int v :: st)))) : own_Fin p.tables e below Rr (T.setTop (mkF m pc Ls (st))) := by
  obtain ⟨hd, rfl⟩ := hd; subst hby
  exact own_pre (fun t k => XS.iload X.here hx rfl hd hl k) h
theorem o_istoreN (X : Stand p l e R s m args below meth c T locs cells slots) (hx : p.tables.exec = Jvm.exec) (hby : c.code = code) {k : Fin 4} {v : Int32} {l' : Array Slot} (hd : own_at code pc (.istore_n k) 1 pc') (hl : storeLocals Ls k.val (.int v) = some l')
    (h : own_Fin p.tables e below Rr (T.setTop (mkF m pc' l' (st)))) : own_Fin p.tables e below Rr (T.setTop (mkF m pc Ls (.int v :: st))) := by
  obtain ⟨hd, rfl⟩ := hd; subst hby
  exact own_pre (fun t k => XS.istoreN X.here hx rfl hd rfl hl k) h
theorem o_istore (X : Stand p l e R s m args below meth c T locs cells slots) (hx : p.tables.exec = Jvm.exec) (hby : c.code = code) {k : Nat} {v : Int32} {l' : Array Slot} (hd : own_at code pc (.istore k) 2 pc') (hl : storeLocals Ls k (.int v) = some l')
    (h : own_Fin p.tables e below Rr (T.setTop (mkF m pc' l' (st)))) : own_Fin p.tables e below Rr (T.setTop (mkF m pc Ls (.int v :: st))) := by
  obtain ⟨hd, rfl⟩ := hd; subst hby
  exact own_pre (fun t k => XS.istore X.here hx rfl hd rfl hl k) h
theorem o_lloadN (X : Stand p l e R s m args below meth c T locs cells slots) (hx : p.tables.exec = Jvm.exec) (hby : c.code = code) {k : Fin 4} {v : Int64} (hd : own_at code pc (.lload_n k) 1 pc') (hl : Ls[k.val]? = some (.val (.long v)))
    (h : own_Fin p.tables e below Rr (T.setTop (mkF m pc' Ls (.long v :: st)))) : own_Fin p.tables e below Rr (T.setTop (mkF m pc Ls (st))) := by
  obtain ⟨hd, rfl⟩ := hd; subst hby
  exact own_pre (fun t k => XS.lloadN X.here hx rfl hd hl k) h
theorem o_lload (X : Stand p l e R s m args below meth c T locs cells slots) (hx : p.tables.exec = Jvm.exec) (hby : c.code = code) {k : Nat} {v : Int64} (hd : own_at code pc (.lload k) 2 pc') (hl : Ls[k]? = some (.val (.long v)))
    (h : own_Fin p.tables e below Rr (T.setTop (mkF m pc' Ls (.long v :: st)))) : own_Fin p.tables e below Rr (T.setTop (mkF m pc Ls (st))) := by
  obtain ⟨hd, rfl⟩ := hd; subst hby
  exact own_pre (fun t k => XS.lload X.here hx rfl hd hl k) h
theorem o_lstoreN (X : Stand p l e R s m args below meth c T locs cells slots) (hx : p.tables.exec = Jvm.exec) (hby : c.code = code) {k : Fin 4} {v : Int64} {l' : Array Slot} (hd : own_at code pc (.lstore_n k) 1 pc') (hl : storeLocals Ls k.val (.long v) = some l')
    (h : own_Fin p.tables e below Rr (T.setTop (mkF m pc' l' (st)))) : own_Fin p.tables e below Rr (T.setTop (mkF m pc Ls (.long v :: st))) := by
  obtain ⟨hd, rfl⟩ := hd; subst hby
  exact own_pre (fun t k => XS.lstoreN X.here hx rfl hd rfl hl k) h
theorem o_lstore (X : Stand p l e R s m args below meth c T locs cells slots) (hx : p.tables.exec = Jvm.exec) (hby : c.code = code) {k : Nat} {v : Int64} {l' : Array Slot} (hd : own_at code pc (.lstore k) 2 pc') (hl : storeLocals Ls k (.long v) = some l')
    (h : own_Fin p.tables e below Rr (T.setTop (mkF m pc' l' (st)))) : own_Fin p.tables e below Rr (T.setTop (mkF m pc Ls (.long v :: st))) := by
  obtain ⟨hd, rfl⟩ := hd; subst hby
  exact own_pre (fun t k => XS.lstore X.here hx rfl hd rfl hl k) h
theorem o_aloadN (X : Stand p l e R s m args below meth c T locs cells slots) (hx : p.tables.exec = Jvm.exec) (hby : c.code = code) {k : Fin 4} {v : Value} (hd : own_at code pc (.aload_n k) 1 pc') (hl : Ls[k.val]? = some (.val v)) (hv : v.isRef = true)
    (h : own_Fin p.tables e below Rr (T.setTop (mkF m pc' Ls (v :: st)))) : own_Fin p.tables e below Rr (T.setTop (mkF m pc Ls (st))) := by
  obtain ⟨hd, rfl⟩ := hd; subst hby
  exact own_pre (fun t k => XS.aloadN X.here hx rfl hd hl hv k) h
theorem o_aload (X : Stand p l e R s m args below meth c T locs cells slots) (hx : p.tables.exec = Jvm.exec) (hby : c.code = code) {k : Nat} {v : Value} (hd : own_at code pc (.aload k) 2 pc') (hl : Ls[k]? = some (.val v)) (hv : v.isRef = true)
    (h : own_Fin p.tables e below Rr (T.setTop (mkF m pc' Ls (v :: st)))) : own_Fin p.tables e below Rr (T.setTop (mkF m pc Ls (st))) := by
  obtain ⟨hd, rfl⟩ := hd; subst hby
  exact own_pre (fun t k => XS.aload X.here hx rfl hd hl hv k) h
theorem o_astoreN (X : Stand p l e R s m args below meth c T locs cells slots) (hx : p.tables.exec = Jvm.exec) (hby : c.code = code) {k : Fin 4} {v : Value} {l' : Array Slot} (hd : own_at code pc (.astore_n k) 1 pc') (hv : v.isRef = true) (hl : storeLocals Ls k.val v = some l')
    (h : own_Fin p.tables e below Rr (T.setTop (mkF m pc' l' (st)))) : own_Fin p.tables e below Rr (T.setTop (mkF m pc Ls (v :: st))) := by
  obtain ⟨hd, rfl⟩ := hd; subst hby
  exact own_pre (fun t k => XS.astoreN X.here hx rfl hd rfl hv hl k) h
theorem o_astore (X : Stand p l e R s m args below meth c T locs cells slots) (hx : p.tables.exec = Jvm.exec) (hby : c.code = code) {k : Nat} {v : Value} {l' : Array Slot} (hd : own_at code pc (.astore k) 2 pc') (hv : v.isRef = true) (hl : storeLocals Ls k v = some l')
    (h : own_Fin p.tables e below Rr (T.setTop (mkF m pc' l' (st)))) : own_Fin p.tables e below Rr (T.setTop (mkF m pc Ls (v :: st))) := by
  obtain ⟨hd, rfl⟩ := hd; subst hby
  exact own_pre (fun t k => XS.astore X.here hx rfl hd rfl hv hl k) h
theorem o_iconst (X : Stand p l e R s m args below meth c T locs cells slots) (hx : p.tables.exec = Jvm.exec) (hby : c.code = code) {i : Int} {v : Int32} (hd : own_at code pc (.iconst i) 1 pc') (hv : Int32.ofInt i = v)
    (h : own_Fin p.tables e below Rr (T.setTop (mkF m pc' Ls (.int v :: st)))) : own_Fin p.tables e below Rr (T.setTop (mkF m pc Ls (st))) := by
  obtain ⟨hd, rfl⟩ := hd; subst hby
  exact own_pre (fun t k => by subst hv; exact XS.iconst X.here hx rfl hd k) h
theorem o_bipush (X : Stand p l e R s m args below meth c T locs cells slots) (hx : p.tables.exec = Jvm.exec) (hby : c.code = code) {i : Int} {v : Int32} (hd : own_at code pc (.bipush i) 2 pc') (hv : (Int8.ofInt i).toInt32 = v)
    (h : own_Fin p.tables e below Rr (T.setTop (mkF m pc' Ls (.int v :: st)))) : own_Fin p.tables e below Rr (T.setTop (mkF m pc Ls (st))) := by
  obtain ⟨hd, rfl⟩ := hd; subst hby
  exact own_pre (fun t k => by subst hv; exact XS.bipush X.here hx rfl hd k) h
theorem o_sipush (X : Stand p l e R s m args below meth c T locs cells slots) (hx : p.tables.exec = Jvm.exec) (hby : c.code = code) {i : Int} {v : Int32} (hd : own_at code pc (.sipush i) 3 pc') (hv : (Int16.ofInt i).toInt32 = v)
    (h : own_Fin p.tables e below Rr (T.setTop (mkF m pc' Ls (.int v :: st)))) : own_Fin p.tables e below Rr (T.setTop (mkF m pc Ls (st))) := by
  obtain ⟨hd, rfl⟩ := hd; subst hby
  exact own_pre (fun t k => by subst hv; exact XS.sipush X.here hx rfl hd k) h
theorem o_lconst (X : Stand p l e R s m args below meth c T locs cells slots) (hx : p.tables.exec = Jvm.exec) (hby : c.code = code) {i : Fin 2} {v : Int64} (hd : own_at code pc (.lconst i) 1 pc') (hv : Int64.ofNat i = v)
    (h : own_Fin p.tables e below Rr (T.setTop (mkF m pc' Ls (.long v :: st)))) : own_Fin p.tables e below Rr (T.setTop (mkF m pc Ls (st))) := by
  obtain ⟨hd, rfl⟩ := hd; subst hby
  exact own_pre (fun t k => by subst hv; exact XS.lconst X.here hx rfl hd k) h
theorem o_anull (X : Stand p l e R s m args below meth c T locs cells slots) (hx : p.tables.exec = Jvm.exec) (hby : c.code = code)  (hd : own_at code pc (.aconst_null) 1 pc') 
    (h : own_Fin p.tables e below Rr (T.setTop (mkF m pc' Ls (.null :: st)))) : own_Fin p.tables e below Rr (T.setTop (mkF m pc Ls (st))) := by
  obtain ⟨hd, rfl⟩ := hd; subst hby
  exact own_pre (fun t k => XS.aconstNull X.here hx rfl hd k) h
theorem o_iadd (X : Stand p l e R s m args below meth c T locs cells slots) (hx : p.tables.exec = Jvm.exec) (hby : c.code = code) {x y : Int32} (hd : own_at code pc (.iadd) 1 pc') 
    (h : own_Fin p.tables e below Rr (T.setTop (mkF m pc' Ls (.int (x + y) :: st)))) : own_Fin p.tables e below Rr (T.setTop (mkF m pc Ls (.int y :: .int x :: st))) := by
  obtain ⟨hd, rfl⟩ := hd; subst hby
  exact own_pre (fun t k => XS.iadd X.here hx rfl hd rfl k) h
theorem o_ladd (X : Stand p l e R s m args below meth c T locs cells slots) (hx : p.tables.exec = Jvm.exec) (hby : c.code = code) {x y : Int64} (hd : own_at code pc (.ladd) 1 pc') 
    (h : own_Fin p.tables e below Rr (T.setTop (mkF m pc' Ls (.long (x + y) :: st)))) : own_Fin p.tables e below Rr (T.setTop (mkF m pc Ls (.long y :: .long x :: st))) := by
  obtain ⟨hd, rfl⟩ := hd; subst hby
  exact own_pre (fun t k => XS.ladd X.here hx rfl hd rfl k) h
theorem o_isub (X : Stand p l e R s m args below meth c T locs cells slots) (hx : p.tables.exec = Jvm.exec) (hby : c.code = code) {x y : Int32} (hd : own_at code pc (.isub) 1 pc') 
    (h : own_Fin p.tables e below Rr (T.setTop (mkF m pc' Ls (.int (x - y) :: st)))) : own_Fin p.tables e below Rr (T.setTop (mkF m pc Ls (.int y :: .int x :: st))) := by
  obtain ⟨hd, rfl⟩ := hd; subst hby
  exact own_pre (fun t k => XS.isub X.here hx rfl hd rfl k) h
theorem o_lsub (X : Stand p l e R s m args below meth c T locs cells slots) (hx : p.tables.exec = Jvm.exec) (hby : c.code = code) {x y : Int64} (hd : own_at code pc (.lsub) 1 pc') 
    (h : own_Fin p.tables e below Rr (T.setTop (mkF m pc' Ls (.long (x - y) :: st)))) : own_Fin p.tables e below Rr (T.setTop (mkF m pc Ls (.long y :: .long x :: st))) := by
  obtain ⟨hd, rfl⟩ := hd; subst hby
  exact own_pre (fun t k => XS.lsub X.here hx rfl hd rfl k) h
theorem o_imul (X : Stand p l e R s m args below meth c T locs cells slots) (hx : p.tables.exec = Jvm.exec) (hby : c.code = code) {x y : Int32} (hd : own_at code pc (.imul) 1 pc') 
    (h : own_Fin p.tables e below Rr (T.setTop (mkF m pc' Ls (.int (x * y) :: st)))) : own_Fin p.tables e below Rr (T.setTop (mkF m pc Ls (.int y :: .int x :: st))) := by
  obtain ⟨hd, rfl⟩ := hd; subst hby
  exact own_pre (fun t k => XS.imul X.here hx rfl hd rfl k) h
theorem o_lmul (X : Stand p l e R s m args below meth c T locs cells slots) (hx : p.tables.exec = Jvm.exec) (hby : c.code = code) {x y : Int64} (hd : own_at code pc (.lmul) 1 pc') 
    (h : own_Fin p.tables e below Rr (T.setTop (mkF m pc' Ls (.long (x * y) :: st)))) : own_Fin p.tables e below Rr (T.setTop (mkF m pc Ls (.long y :: .long x :: st))) := by
  obtain ⟨hd, rfl⟩ := hd; subst hby
  exact own_pre (fun t k => XS.lmul X.here hx rfl hd rfl k) h
theorem o_iand (X : Stand p l e R s m args below meth c T locs cells slots) (hx : p.tables.exec = Jvm.exec) (hby : c.code = code) {x y : Int32} (hd : own_at code pc (.iand) 1 pc') 
    (h : own_Fin p.tables e below Rr (T.setTop (mkF m pc' Ls (.int (x &&& y) :: st)))) : own_Fin p.tables e below Rr (T.setTop (mkF m pc Ls (.int y :: .int x :: st))) := by
  obtain ⟨hd, rfl⟩ := hd; subst hby
  exact own_pre (fun t k => XS.iand X.here hx rfl hd rfl k) h
theorem o_land (X : Stand p l e R s m args below meth c T locs cells slots) (hx : p.tables.exec = Jvm.exec) (hby : c.code = code) {x y : Int64} (hd : own_at code pc (.land) 1 pc') 
    (h : own_Fin p.tables e below Rr (T.setTop (mkF m pc' Ls (.long (x &&& y) :: st)))) : own_Fin p.tables e below Rr (T.setTop (mkF m pc Ls (.long y :: .long x :: st))) := by
  obtain ⟨hd, rfl⟩ := hd; subst hby
  exact own_pre (fun t k => XS.land X.here hx rfl hd rfl k) h
theorem o_ior (X : Stand p l e R s m args below meth c T locs cells slots) (hx : p.tables.exec = Jvm.exec) (hby : c.code = code) {x y : Int32} (hd : own_at code pc (.ior) 1 pc') 
    (h : own_Fin p.tables e below Rr (T.setTop (mkF m pc' Ls (.int (x ||| y) :: st)))) : own_Fin p.tables e below Rr (T.setTop (mkF m pc Ls (.int y :: .int x :: st))) := by
  obtain ⟨hd, rfl⟩ := hd; subst hby
  exact own_pre (fun t k => XS.ior X.here hx rfl hd rfl k) h
theorem o_lor (X : Stand p l e R s m args below meth c T locs cells slots) (hx : p.tables.exec = Jvm.exec) (hby : c.code = code) {x y : Int64} (hd : own_at code pc (.lor) 1 pc') 
    (h : own_Fin p.tables e below Rr (T.setTop (mkF m pc' Ls (.long (x ||| y) :: st)))) : own_Fin p.tables e below Rr (T.setTop (mkF m pc Ls (.long y :: .long x :: st))) := by
  obtain ⟨hd, rfl⟩ := hd; subst hby
  exact own_pre (fun t k => XS.lor X.here hx rfl hd rfl k) h
theorem o_ixor (X : Stand p l e R s m args below meth c T locs cells slots) (hx : p.tables.exec = Jvm.exec) (hby : c.code = code) {x y : Int32} (hd : own_at code pc (.ixor) 1 pc') 
    (h : own_Fin p.tables e below Rr (T.setTop (mkF m pc' Ls (.int (x ^^^ y) :: st)))) : own_Fin p.tables e below Rr (T.setTop (mkF m pc Ls (.int y :: .int x :: st))) := by
  obtain ⟨hd, rfl⟩ := hd; subst hby
  exact own_pre (fun t k => XS.ixor X.here hx rfl hd rfl k) h
theorem o_lxor (X : Stand p l e R s m args below meth c T locs cells slots) (hx : p.tables.exec = Jvm.exec) (hby : c.code = code) {x y : Int64} (hd : own_at code pc (.lxor) 1 pc') 
    (h : own_Fin p.tables e below Rr (T.setTop (mkF m pc' Ls (.long (x ^^^ y) :: st)))) : own_Fin p.tables e below Rr (T.setTop (mkF m pc Ls (.long y :: .long x :: st))) := by
  obtain ⟨hd, rfl⟩ := hd; subst hby
  exact own_pre (fun t k => XS.lxor X.here hx rfl hd rfl k) h
theorem o_ishl (X : Stand p l e R s m args below meth c T locs cells slots) (hx : p.tables.exec = Jvm.exec) (hby : c.code = code) {x y : Int32} (hd : own_at code pc (.ishl) 1 pc') 
    (h : own_Fin p.tables e below Rr (T.setTop (mkF m pc' Ls (.int (x <<< (y &&& 31)) :: st)))) : own_Fin p.tables e below Rr (T.setTop (mkF m pc Ls (.int y :: .int x :: st))) := by
  obtain ⟨hd, rfl⟩ := hd; subst hby
  exact own_pre (fun t k => XS.ishl X.here hx rfl hd rfl k) h
theorem o_ishr (X : Stand p l e R s m args below meth c T locs cells slots) (hx : p.tables.exec = Jvm.exec) (hby : c.code = code) {x y : Int32} (hd : own_at code pc (.ishr) 1 pc') 
    (h : own_Fin p.tables e below Rr (T.setTop (mkF m pc' Ls (.int (x >>> (y &&& 31)) :: st)))) : own_Fin p.tables e below Rr (T.setTop (mkF m pc Ls (.int y :: .int x :: st))) := by
  obtain ⟨hd, rfl⟩ := hd; subst hby
  exact own_pre (fun t k => XS.ishr X.here hx rfl hd rfl k) h
theorem o_iushr (X : Stand p l e R s m args below meth c T locs cells slots) (hx : p.tables.exec = Jvm.exec) (hby : c.code = code) {x y : Int32} (hd : own_at code pc (.iushr) 1 pc') 
    (h : own_Fin p.tables e below Rr (T.setTop (mkF m pc' Ls (.int ((x.toUInt32 >>> (y &&& 31).toUInt32).toInt32) :: st)))) : own_Fin p.tables e below Rr (T.setTop (mkF m pc Ls (.int y :: .int x :: st))) := by
  obtain ⟨hd, rfl⟩ := hd; subst hby
  exact own_pre (fun t k => XS.iushr X.here hx rfl hd rfl k) h
theorem o_lshl (X : Stand p l e R s m args below meth c T locs cells slots) (hx : p.tables.exec = Jvm.exec) (hby : c.code = code) {x : Int64} {y : Int32} (hd : own_at code pc (.lshl) 1 pc') 
    (h : own_Fin p.tables e below Rr (T.setTop (mkF m pc' Ls (.long (x <<< (y &&& 0x3f).toInt64) :: st)))) : own_Fin p.tables e below Rr (T.setTop (mkF m pc Ls (.int y :: .long x :: st))) := by
  obtain ⟨hd, rfl⟩ := hd; subst hby
  exact own_pre (fun t k => XS.lshl X.here hx rfl hd rfl k) h
theorem o_lshr (X : Stand p l e R s m args below meth c T locs cells slots) (hx : p.tables.exec = Jvm.exec) (hby : c.code = code) {x : Int64} {y : Int32} (hd : own_at code pc (.lshr) 1 pc') 
    (h : own_Fin p.tables e below Rr (T.setTop (mkF m pc' Ls (.long (x >>> (y &&& 0x3f).toInt64) :: st)))) : own_Fin p.tables e below Rr (T.setTop (mkF m pc Ls (.int y :: .long x :: st))) := by
  obtain ⟨hd, rfl⟩ := hd; subst hby
  exact own_pre (fun t k => XS.lshr X.here hx rfl hd rfl k) h
theorem o_lushr (X : Stand p l e R s m args below meth c T locs cells slots) (hx : p.tables.exec = Jvm.exec) (hby : c.code = code) {x : Int64} {y : Int32} (hd : own_at code pc (.lushr) 1 pc') 
    (h : own_Fin p.tables e below Rr (T.setTop (mkF m pc' Ls (.long ((x.toUInt64 >>> (y &&& 0x3f).toInt64.toUInt64).toInt64) :: st)))) : own_Fin p.tables e below Rr (T.setTop (mkF m pc Ls (.int y :: .long x :: st))) := by
  obtain ⟨hd, rfl⟩ := hd; subst hby
  exact own_pre (fun t k => XS.lushr X.here hx rfl hd rfl k) h
theorem o_ineg (X : Stand p l e R s m args below meth c T locs cells slots) (hx : p.tables.exec = Jvm.exec) (hby : c.code = code) {x : Int32} (hd : own_at code pc (.ineg) 1 pc') 
    (h : own_Fin p.tables e below Rr (T.setTop (mkF m pc' Ls (.int (-x) :: st)))) : own_Fin p.tables e below Rr (T.setTop (mkF m pc Ls (.int x :: st))) := by
  obtain ⟨hd, rfl⟩ := hd; subst hby
  exact own_pre (fun t k => XS.ineg X.here hx rfl hd rfl k) h
theorem o_lneg (X : Stand p l e R s m args below meth c T locs cells slots) (hx : p.tables.exec = Jvm.exec) (hby : c.code = code) {x : Int64} (hd : own_at code pc (.lneg) 1 pc') 
    (h : own_Fin p.tables e below Rr (T.setTop (mkF m pc' Ls (.long (-x) :: st)))) : own_Fin p.tables e below Rr (T.setTop (mkF m pc Ls (.long x :: st))) := by
  obtain ⟨hd, rfl⟩ := hd; subst hby
  exact own_pre (fun t k => XS.lneg X.here hx rfl hd rfl k) h
theorem o_i2l (X : Stand p l e R s m args below meth c T locs cells slots) (hx : p.tables.exec = Jvm.exec) (hby : c.code = code) {x : Int32} (hd : own_at code pc (.i2l) 1 pc') 
    (h : own_Fin p.tables e below Rr (T.setTop (mkF m pc' Ls (.long (x.toInt64) :: st)))) : own_Fin p.tables e below Rr (T.setTop (mkF m pc Ls (.int x :: st))) := by
  obtain ⟨hd, rfl⟩ := hd; subst hby
  exact own_pre (fun t k => XS.i2l X.here hx rfl hd rfl k) h
theorem o_l2i (X : Stand p l e R s m args below meth c T locs cells slots) (hx : p.tables.exec = Jvm.exec) (hby : c.code = code) {x : Int64} (hd : own_at code pc (.l2i) 1 pc') 
    (h : own_Fin p.tables e below Rr (T.setTop (mkF m pc' Ls (.int (x.toInt32) :: st)))) : own_Fin p.tables e below Rr (T.setTop (mkF m pc Ls (.long x :: st))) := by
  obtain ⟨hd, rfl⟩ := hd; subst hby
  exact own_pre (fun t k => XS.l2i X.here hx rfl hd rfl k) h
theorem o_i2b (X : Stand p l e R s m args below meth c T locs cells slots) (hx : p.tables.exec = Jvm.exec) (hby : c.code = code) {x : Int32} (hd : own_at code pc (.i2b) 1 pc') 
    (h : own_Fin p.tables e below Rr (T.setTop (mkF m pc' Ls (.int (x.toInt8.toInt32) :: st)))) : own_Fin p.tables e below Rr (T.setTop (mkF m pc Ls (.int x :: st))) := by
  obtain ⟨hd, rfl⟩ := hd; subst hby
  exact own_pre (fun t k => XS.i2b X.here hx rfl hd rfl k) h
theorem o_i2s (X : Stand p l e R s m args below meth c T locs cells slots) (hx : p.tables.exec = Jvm.exec) (hby : c.code = code) {x : Int32} (hd : own_at code pc (.i2s) 1 pc') 
    (h : own_Fin p.tables e below Rr (T.setTop (mkF m pc' Ls (.int (x.toInt16.toInt32) :: st)))) : own_Fin p.tables e below Rr (T.setTop (mkF m pc Ls (.int x :: st))) := by
  obtain ⟨hd, rfl⟩ := hd; subst hby
  exact own_pre (fun t k => XS.i2s X.here hx rfl hd rfl k) h
theorem o_i2c (X : Stand p l e R s m args below meth c T locs cells slots) (hx : p.tables.exec = Jvm.exec) (hby : c.code = code) {x : Int32} (hd : own_at code pc (.i2c) 1 pc') 
    (h : own_Fin p.tables e below Rr (T.setTop (mkF m pc' Ls (.int (x.toUInt32.toUInt16.toUInt32.toInt32) :: st)))) : own_Fin p.tables e below Rr (T.setTop (mkF m pc Ls (.int x :: st))) := by
  obtain ⟨hd, rfl⟩ := hd; subst hby
  exact own_pre (fun t k => XS.i2c X.here hx rfl hd rfl k) h
theorem o_idiv (X : Stand p l e R s m args below meth c T locs cells slots) (hx : p.tables.exec = Jvm.exec) (hby : c.code = code) {x y : Int32} (hd : own_at code pc (.idiv) 1 pc') (hy : y ≠ 0)
    (h : own_Fin p.tables e below Rr (T.setTop (mkF m pc' Ls (.int (x / y) :: st)))) : own_Fin p.tables e below Rr (T.setTop (mkF m pc Ls (.int y :: .int x :: st))) := by
  obtain ⟨hd, rfl⟩ := hd; subst hby
  exact own_pre (fun t k => XS.idiv X.here hx rfl hd rfl hy k) h
theorem o_ldiv (X : Stand p l e R s m args below meth c T locs cells slots) (hx : p.tables.exec = Jvm.exec) (hby : c.code = code) {x y : Int64} (hd : own_at code pc (.ldiv) 1 pc') (hy : y ≠ 0)
    (h : own_Fin p.tables e below Rr (T.setTop (mkF m pc' Ls (.long (x / y) :: st)))) : own_Fin p.tables e below Rr (T.setTop (mkF m pc Ls (.long y :: .long x :: st))) := by
  obtain ⟨hd, rfl⟩ := hd; subst hby
  exact own_pre (fun t k => XS.ldiv X.here hx rfl hd rfl hy k) h
theorem o_irem (X : Stand p l e R s m args below meth c T locs cells slots) (hx : p.tables.exec = Jvm.exec) (hby : c.code = code) {x y : Int32} (hd : own_at code pc (.irem) 1 pc') (hy : y ≠ 0)
    (h : own_Fin p.tables e below Rr (T.setTop (mkF m pc' Ls (.int (x % y) :: st)))) : own_Fin p.tables e below Rr (T.setTop (mkF m pc Ls (.int y :: .int x :: st))) := by
  obtain ⟨hd, rfl⟩ := hd; subst hby
  exact own_pre (fun t k => iremM X hx rfl hd rfl hy k) h
theorem o_lcmp (X : Stand p l e R s m args below meth c T locs cells slots) (hx : p.tables.exec = Jvm.exec) (hby : c.code = code) {x y : Int64} (hd : own_at code pc (.lcmp) 1 pc') 
    (h : own_Fin p.tables e below Rr (T.setTop (mkF m pc' Ls (.int (lcmpW x y) :: st)))) : own_Fin p.tables e below Rr (T.setTop (mkF m pc Ls (.long y :: .long x :: st))) := by
  obtain ⟨hd, rfl⟩ := hd; subst hby
  exact own_pre (fun t k => XS.lcmp X.here hx rfl hd rfl k) h
theorem o_iinc (X : Stand p l e R s m args below meth c T locs cells slots) (hx : p.tables.exec = Jvm.exec) (hby : c.code = code) {k : Nat} {i : Int} {x : Int32} {l' : Array Slot} (hd : own_at code pc (.iinc k i) 3 pc') (hl : Ls[k]? = some (.val (.int x))) (hl' : storeLocals Ls k (.int (x + Int32.ofInt i)) = some l')
    (h : own_Fin p.tables e below Rr (T.setTop (mkF m pc' l' (st)))) : own_Fin p.tables e below Rr (T.setTop (mkF m pc Ls (st))) := by
  obtain ⟨hd, rfl⟩ := hd; subst hby
  exact own_pre (fun t k => XS.iinc X.here hx rfl hd hl hl' k) h
theorem o_dup (X : Stand p l e R s m args below meth c T locs cells slots) (hx : p.tables.exec = Jvm.exec) (hby : c.code = code) {v : Value} (hd : own_at code pc (.dup) 1 pc') (hv : v.category = 1)
    (h : own_Fin p.tables e below Rr (T.setTop (mkF m pc' Ls (v :: v :: st)))) : own_Fin p.tables e below Rr (T.setTop (mkF m pc Ls (v :: st))) := by
  obtain ⟨hd, rfl⟩ := hd; subst hby
  exact own_pre (fun t k => XS.dup X.here hx rfl hd rfl hv k) h
theorem o_pop (X : Stand p l e R s m args below meth c T locs cells slots) (hx : p.tables.exec = Jvm.exec) (hby : c.code = code) {v : Value} (hd : own_at code pc (.pop) 1 pc') (hv : v.category = 1)
    (h : own_Fin p.tables e below Rr (T.setTop (mkF m pc' Ls (st)))) : own_Fin p.tables e below Rr (T.setTop (mkF m pc Ls (v :: st))) := by
  obtain ⟨hd, rfl⟩ := hd; subst hby
  exact own_pre (fun t k => XS.pop X.here hx rfl hd rfl hv k) h
theorem o_dupX1 (X : Stand p l e R s m args below meth c T locs cells slots) (hx : p.tables.exec = Jvm.exec) (hby : c.code = code) {v w : Value} (hd : own_at code pc (.dup_x1) 1 pc') (hv : v.category = 1) (hw : w.category = 1)
    (h : own_Fin p.tables e below Rr (T.setTop (mkF m pc' Ls (v :: w :: v :: st)))) : own_Fin p.tables e below Rr (T.setTop (mkF m pc Ls (v :: w :: st))) := by
  obtain ⟨hd, rfl⟩ := hd; subst hby
  exact own_pre (fun t k => XS.dupX1 X.here hx rfl hd rfl hv hw k) h
theorem o_goto (X : Stand p l e R s m args below meth c T locs cells slots) (hx : p.tables.exec = Jvm.exec) (hby : c.code = code) {o : Int} {q : Nat} (hd : own_at code pc (.goto o) 3 pc') (ho : 0 ≤ (pc : Int) + o) (hp : ((pc : Int) + o).toNat = q)
    (h : own_Fin p.tables e below Rr (T.setTop (mkF m q Ls st))) : own_Fin p.tables e below Rr (T.setTop (mkF m pc Ls st)) := by
  obtain ⟨hd, rfl⟩ := hd; subst hby
  exact own_pre (fun t k => XS.goto X.here hx rfl (pc0 := pc) (pc' := q) rfl hd ho hp k) h
theorem o_ifY (X : Stand p l e R s m args below meth c T locs cells slots) (hx : p.tables.exec = Jvm.exec) (hby : c.code = code) {cd : ClassFile.Cond} {o : Int} {x : Int32} {q : Nat} (hd : own_at code pc (.ifCond cd o) 3 pc') (hc : ifCond.holds cd x = true) (ho : 0 ≤ (pc : Int) + o) (hp : ((pc : Int) + o).toNat = q)
    (h : own_Fin p.tables e below Rr (T.setTop (mkF m q Ls st))) : own_Fin p.tables e below Rr (T.setTop (mkF m pc Ls (.int x :: st))) := by
  obtain ⟨hd, rfl⟩ := hd; subst hby
  exact own_pre (fun t k => XS.ifYes X.here hx rfl (pc0 := pc) (pc' := q) rfl hd rfl hc ho hp k) h
theorem o_ifN (X : Stand p l e R s m args below meth c T locs cells slots) (hx : p.tables.exec = Jvm.exec) (hby : c.code = code) {cd : ClassFile.Cond} {o : Int} {x : Int32} (hd : own_at code pc (.ifCond cd o) 3 pc') (hc : ifCond.holds cd x = false)
    (h : own_Fin p.tables e below Rr (T.setTop (mkF m pc' Ls st))) : own_Fin p.tables e below Rr (T.setTop (mkF m pc Ls (.int x :: st))) := by
  obtain ⟨hd, rfl⟩ := hd; subst hby
  exact own_pre (fun t k => XS.ifNo X.here hx rfl hd rfl hc k) h
theorem o_icmpY (X : Stand p l e R s m args below meth c T locs cells slots) (hx : p.tables.exec = Jvm.exec) (hby : c.code = code) {cd : ClassFile.Cond} {o : Int} {x y : Int32} {q : Nat} (hd : own_at code pc (.if_icmp cd o) 3 pc') (hc : if_icmp.holds cd x y = true) (ho : 0 ≤ (pc : Int) + o) (hp : ((pc : Int) + o).toNat = q)
    (h : own_Fin p.tables e below Rr (T.setTop (mkF m q Ls st))) : own_Fin p.tables e below Rr (T.setTop (mkF m pc Ls (.int y :: .int x :: st))) := by
  obtain ⟨hd, rfl⟩ := hd; subst hby
  exact own_pre (fun t k => XS.icmpYes X.here hx rfl (pc0 := pc) (pc' := q) rfl hd rfl hc ho hp k) h
theorem o_icmpN (X : Stand p l e R s m args below meth c T locs cells slots) (hx : p.tables.exec = Jvm.exec) (hby : c.code = code) {cd : ClassFile.Cond} {o : Int} {x y : Int32} (hd : own_at code pc (.if_icmp cd o) 3 pc') (hc : if_icmp.holds cd x y = false)
    (h : own_Fin p.tables e below Rr (T.setTop (mkF m pc' Ls st))) : own_Fin p.tables e below Rr (T.setTop (mkF m pc Ls (.int y :: .int x :: st))) := by
  obtain ⟨hd, rfl⟩ := hd; subst hby
  exact own_pre (fun t k => XS.icmpNo X.here hx rfl hd rfl hc k) h
theorem o_ldc (X : Stand p l e R s m args below meth c T locs cells slots) (hx : p.tables.exec = Jvm.exec) (hby : c.code = code) {own : String} {index : Nat} {v : Int32} (hown : s.vm.findClass own = some m.cls) (hc : (Cond.constant own index v).before args s = true) (hd : own_at code pc (.ldc index) 2 pc')
    (h : own_Fin p.tables e below Rr (T.setTop (mkF m pc' Ls (.int v :: st)))) : own_Fin p.tables e below Rr (T.setTop (mkF m pc Ls st)) := by
  obtain ⟨hd, rfl⟩ := hd; subst hby
  exact own_pre (fun t k => X.ldcInt hx hown hc (g := mkF m pc Ls st) rfl hd t k) h
theorem o_ldc2 (X : Stand p l e R s m args below meth c T locs cells slots) (hx : p.tables.exec = Jvm.exec) (hby : c.code = code) {own : String} {index : Nat} {v : Int64} (hown : s.vm.findClass own = some m.cls) (hc : (Cond.constantLong own index v).before args s = true) (hd : own_at code pc (.ldc2_w index) 3 pc')
    (h : own_Fin p.tables e below Rr (T.setTop (mkF m pc' Ls (.long v :: st)))) : own_Fin p.tables e below Rr (T.setTop (mkF m pc Ls st)) := by
  obtain ⟨hd, rfl⟩ := hd; subst hby
  exact own_pre (fun t k => X.ldc2Long hx hown hc (g := mkF m pc Ls st) rfl hd t k) h
end Steps1
section Calls
variable {p : Program} {l : Launch} {e : Env} {R : Room} {s : State} {m : MethodId} {args : Array Value} {below : List Frame} {meth : Method} {c : Code} {T : State} {locs : List Loc} {cells slots : Nat} {code : ByteArray} {Rr : State → Outcome → Prop} {Ls : Array Slot} {st : List Value} {pc pc' : Nat}
  {own : String} {index : Nat} {y z : MethodName} {bytes : ByteArray} {maxL : Nat} {ret : Option FieldType} {rm : Room} {as' : Array Value} {Q : Option Value → Heap → List Loc → Prop} {h : Heap} {Z : State} {a0 : Array Value} {W : Nat} {argsL rest : List Value} {a : Addr} {C : String}
def own_Mt (l : Launch) (y : MethodName) (bytes : ByteArray) (maxL : Nat) (ret : Option FieldType) (rm : Room) (as' : Array Value) (Z : State) (h : Heap) (Q : Option Value → Heap → List Loc → Prop) : Prop :=
  MetFree l y (head1 [Cond.code y bytes maxL ret] rm) (fun a U => a = as' ∧ Z.Warmed39 U.vm ∧ U.heap = h) (fun _ _ _ _ _ => True) (fun _ U o U' => ∃ v L, o = .returned v ∧ Q v U'.heap L ∧ FrameEnd U o U' L rm.cells rm.slots)
theorem own_sh {A' : State} (k : own_Fin p.tables e below Rr A') : own_Fin p.tables e below Rr A' := k
theorem kS (X : Stand p l e R s m args below meth c T locs cells slots) (hx : p.tables.exec = Jvm.exec) (hZ : Z.Warmed39 s.vm) (hown : s.vm.findClass own = some m.cls) (hby : c.code = code)
    (w1 : (Cond.methodLink own index y).before a0 Z = true) (w2 : (Cond.static y).before a0 Z = true) (w3 : (Cond.initialized y.cls).before a0 Z = true) (w4 : (Cond.code y bytes maxL ret).before a0 Z = true)
    (hM : own_Mt l y bytes maxL ret rm as' Z h Q) (hy : y.cls ≠ "java/lang/invoke/MethodHandle" ∧ y.cls ≠ "java/lang/invoke/VarHandle") (hf : rm.frames + 1 ≤ R.frames) (hl : W + (maxL + 11) + rm.locals ≤ R.locals) (hc : cells + rm.cells ≤ R.cells) (hs : slots + rm.slots ≤ R.slots)
    (hml : Ls.size = c.maxLocals) (argsL rest : List Value) (hlen : ∀ sig, parseMethodDescriptor y.desc = some sig → argsL.length = sig.parameters.length) (hW : (rest.map fun v => v.category).sum = W) (hst : st = argsL.reverse ++ rest) (hd : own_at code pc (.invokestatic index) 3 pc') (ha : argsL.toArray = as') (hT : T.heap = h)
    (k : ∀ v T' L, Stand p l e R s m args below meth c T' (locs ++ L) (cells + rm.cells) (slots + rm.slots) → Q v T'.heap L → own_Fin p.tables e below Rr (T'.setTop (mkF m pc' Ls (v.toList ++ rest)))) : own_Fin p.tables e below Rr (T.setTop (mkF m pc Ls st)) := by
  obtain ⟨hd, rfl⟩ := hd; subst hby hst ha hW
  obtain ⟨v, _, ⟨T', L', k', n'⟩, -, X', ⟨L, hQ, l1, y1, z1⟩, st1⟩ := Jvm.LawKit.callS X hx (y := y) hown (mvT hZ w1) (mvT hZ w2) (mvT hZ w3) (mvT hZ w4) hy (backOf (W := (rest.map fun v => v.category).sum) hM hZ w4 w3 hf hl) (g := mkF m pc Ls (argsL.reverse ++ rest)) rfl hml (argsL := argsL) (rest := rest) hlen rfl (by show 2 * 0 + _ ≤ _; omega) hd (fun _ _ => ⟨rfl, hT, hc, hs⟩)
  dsimp only [Pt.U, Pt.locs, Pt.cells, Pt.slots] at X' l1 y1 z1 st1 hQ
  subst l1 y1 z1
  exact own_pre (fun t q => st1 t q) (k v T' L X' hQ)
theorem kI (X : Stand p l e R s m args below meth c T locs cells slots) (hx : p.tables.exec = Jvm.exec) (hZ : Z.Warmed39 s.vm) (hown : s.vm.findClass own = some m.cls) (hby : c.code = code)
    (w1 : (Cond.methodLink own index y).before a0 Z = true) (w2 : (Cond.instanceMethod y).before a0 Z = true) (w3 : (Cond.initialized y.cls).before a0 Z = true) (w4 : (Cond.code y bytes maxL none).before a0 Z = true) (hy1 : y.name = "<init>")
    (hM : own_Mt l y bytes maxL none rm as' Z h Q) (hy : y.cls ≠ "java/lang/invoke/MethodHandle" ∧ y.cls ≠ "java/lang/invoke/VarHandle") (hf : rm.frames + 1 ≤ R.frames) (hl : W + (maxL + 11) + rm.locals ≤ R.locals) (hc : cells + rm.cells ≤ R.cells) (hs : slots + rm.slots ≤ R.slots)
    (hml : Ls.size = c.maxLocals) (argsL rest : List Value) (hlen : ∀ sig, parseMethodDescriptor y.desc = some sig → argsL.length = sig.parameters.length) (hW : (rest.map fun v => v.category).sum = W) (hst : st = argsL.reverse ++ .ref a :: rest) (hd : own_at code pc (.invokespecial index) 3 pc') (ha : (Value.ref a :: argsL).toArray = as') (hT : T.heap = h)
    (k : ∀ v T' L, Stand p l e R s m args below meth c T' (locs ++ L) (cells + rm.cells) (slots + rm.slots) → Q v T'.heap L → own_Fin p.tables e below Rr (T'.setTop (mkF m pc' Ls (v.toList ++ rest)))) : own_Fin p.tables e below Rr (T.setTop (mkF m pc Ls st)) := by
  obtain ⟨hd, rfl⟩ := hd; subst hby hst ha hW
  obtain ⟨v, _, ⟨T', L', k', n'⟩, -, X', ⟨L, hQ, l1, y1, z1⟩, st1⟩ := X.specialBack hx (y := y) hy1 hown (mvT hZ w1) (mvT hZ w2) (mvT hZ w4) hy (backOf (W := (rest.map fun v => v.category).sum) hM hZ w4 w3 hf hl) (g := mkF m pc Ls (argsL.reverse ++ .ref a :: rest)) rfl hml (Steps.refl _) (a := a) (argsL := argsL) (rest := rest) hlen rfl (by show 2 * 0 + _ ≤ _; omega) hd (fun _ _ => ⟨rfl, hT, hc, hs⟩)
  dsimp only [Pt.U, Pt.locs, Pt.cells, Pt.slots] at X' l1 y1 z1 st1 hQ
  subst l1 y1 z1
  exact own_pre (fun t q => st1.trans q) (k v T' L X' hQ)
theorem kV (X : Stand p l e R s m args below meth c T locs cells slots) (hx : p.tables.exec = Jvm.exec) (hZ : Z.Warmed39 s.vm) (hown : s.vm.findClass own = some m.cls) (hby : c.code = code)
    (w1 : (Cond.methodLink own index y).before a0 Z = true) (w2 : (Cond.declares y).before a0 Z = true) (w5 : (Cond.selects C y z).before a0 Z = true) (w6 : (Cond.instanceMethod z).before a0 Z = true) (w3 : (Cond.initialized z.cls).before a0 Z = true) (w4 : (Cond.code z bytes maxL ret).before a0 Z = true) (hnf : NotFace s y) (hE : Exa Z h a C)
    (hM : own_Mt l z bytes maxL ret rm as' Z h Q) (hy : y.cls ≠ "java/lang/invoke/MethodHandle" ∧ y.cls ≠ "java/lang/invoke/VarHandle") (hf : rm.frames + 1 ≤ R.frames) (hl : W + (maxL + 11) + rm.locals ≤ R.locals) (hc : cells + rm.cells ≤ R.cells) (hs : slots + rm.slots ≤ R.slots)
    (hml : Ls.size = c.maxLocals) (argsL rest : List Value) (hlen : ∀ sig, parseMethodDescriptor y.desc = some sig → argsL.length = sig.parameters.length) (hW : (rest.map fun v => v.category).sum = W) (hst : st = argsL.reverse ++ .ref a :: rest) (hd : own_at code pc (.invokevirtual index) 3 pc') (ha : (Value.ref a :: argsL).toArray = as') (hT : T.heap = h)
    (k : ∀ v T' L, Stand p l e R s m args below meth c T' (locs ++ L) (cells + rm.cells) (slots + rm.slots) → Q v T'.heap L → own_Fin p.tables e below Rr (T'.setTop (mkF m pc' Ls (v.toList ++ rest)))) : own_Fin p.tables e below Rr (T.setTop (mkF m pc Ls st)) := by
  obtain ⟨hd, rfl⟩ := hd; subst hby hst ha hW
  obtain ⟨cq, kq, qa, qb, qc⟩ := isOf hZ hT hE
  obtain ⟨v, _, ⟨T', L', k', n'⟩, -, X', ⟨L, hQ, l1, y1, z1⟩, st1⟩ := X.virtualBack hx (y := y) (z := z) hown (mvT hZ w1) (mvT hZ w2) hnf (mvT hZ w5) (mvT hZ w6) hy (backOf (W := (rest.map fun v => v.category).sum) hM hZ w4 w3 hf hl) qa qc (g := mkF m pc Ls (argsL.reverse ++ .ref a :: rest)) rfl hml (Steps.refl _) (argsL := argsL) (rest := rest) hlen rfl (by show 2 * 0 + _ ≤ _; omega) hd (fun _ _ => ⟨rfl, hT, hc, hs⟩)
  dsimp only [Pt.U, Pt.locs, Pt.cells, Pt.slots] at X' l1 y1 z1 st1 hQ
  subst l1 y1 z1
  exact own_pre (fun t q => st1.trans q) (k v T' L X' hQ)
theorem own_nf (hZ : Z.Warmed39 s.vm) (w5 : (Cond.selects C y y).before a0 Z = true) : NotFace s y := notFace_of_selects (args := #[]) (mvT hZ w5)
theorem kP {n : Nat} (X : Stand p l e R s m args below meth c T locs cells slots) (hx : p.tables.exec = Jvm.exec) (hZ : Z.Warmed39 s.vm) (hown : s.vm.findClass own = some m.cls) (hby : c.code = code)
    (w1 : (Cond.methodLink own index y).before a0 Z = true) (w2 : (Cond.instanceMethod y).before a0 Z = true) (w5 : (Cond.instantiable y.cls n).before a0 Z = true) (w6 : (Cond.privateMethod y).before a0 Z = true) (w3 : (Cond.initialized y.cls).before a0 Z = true) (w4 : (Cond.code y bytes maxL ret).before a0 Z = true) (hE : Exa Z h a C)
    (hM : own_Mt l y bytes maxL ret rm as' Z h Q) (hy : y.cls ≠ "java/lang/invoke/MethodHandle" ∧ y.cls ≠ "java/lang/invoke/VarHandle") (hf : rm.frames + 1 ≤ R.frames) (hl : W + (maxL + 11) + rm.locals ≤ R.locals) (hc : cells + rm.cells ≤ R.cells) (hs : slots + rm.slots ≤ R.slots)
    (hml : Ls.size = c.maxLocals) (argsL rest : List Value) (hlen : ∀ sig, parseMethodDescriptor y.desc = some sig → argsL.length = sig.parameters.length) (hW : (rest.map fun v => v.category).sum = W) (hst : st = argsL.reverse ++ .ref a :: rest) (hd : own_at code pc (.invokevirtual index) 3 pc') (ha : (Value.ref a :: argsL).toArray = as') (hT : T.heap = h)
    (k : ∀ v T' L, Stand p l e R s m args below meth c T' (locs ++ L) (cells + rm.cells) (slots + rm.slots) → Q v T'.heap L → own_Fin p.tables e below Rr (T'.setTop (mkF m pc' Ls (v.toList ++ rest)))) : own_Fin p.tables e below Rr (T.setTop (mkF m pc Ls st)) := by
  obtain ⟨hd, rfl⟩ := hd; subst hby hst ha hW
  obtain ⟨cq, q1, q2⟩ := hE.cell
  obtain ⟨v, _, ⟨T', L', k', n'⟩, -, X', ⟨L, hQ, l1, y1, z1⟩, st1⟩ := X.privateBack hx (y := y) hown (mvT hZ w1) (mvT hZ w2) (own_selp hy (mvT hZ w5) (mvP hZ w6) (mvT hZ w2)) (Cond.privateMethod_at (mvP hZ w6 (args := #[]))) (mvT hZ w4) hy (backOf (W := (rest.map fun v => v.category).sum) hM hZ w4 w3 hf hl) (g := mkF m pc Ls (argsL.reverse ++ .ref a :: rest)) rfl hml (Steps.refl _) (a := a) (by rw [hT]; exact q1) q2 (argsL := argsL) (rest := rest) hlen rfl (by show 2 * 0 + _ ≤ _; omega) hd (fun _ _ => ⟨rfl, hT, hc, hs⟩)
  dsimp only [Pt.U, Pt.locs, Pt.cells, Pt.slots] at X' l1 y1 z1 st1 hQ
  subst l1 y1 z1
  exact own_pre (fun t q => st1.trans q) (k v T' L X' hQ)
end Calls

end New
end Jvm.RoadKit
namespace Jvm.Pilot.@@N@@
open Jvm Jvm.ClassFile Sem Op Lib Jvm.Free Jvm.Stand Jvm.LawKit Jvm.RoadKit Bundle Jvm.Pilot.@@N@@.Jvm.D
theorem wd {Z : State} {a0 : Array Value} (hw : ∀ d ∈ tables_1, d.before a0 Z = true) (i : Nat) {d : Jvm.Cond} (h : tables_1[i]? = some d) : d.before a0 Z = true := hw _ (List.mem_of_getElem? h)
def own_Q0 (n0 : Nat) (v : Option Value) (h : Heap) (L : List Loc) : Prop := v = some (.int 1) ∧ Fr n0 L

def own_l8 (c : Int32) : Int32 := nar .byte ((c).toInt8.toInt32)
def own_lo (c : Int32) : Int32 := nar .byte (((c >>> ((0 : Int32) &&& 31))).toInt8.toInt32)
def own_hi (c : Int32) : Int32 := nar .byte (((c >>> ((8 : Int32) &&& 31))).toInt8.toInt32)
def own_gc (c : Int32) : Int32 := nar .char ((((((own_lo c) &&& (255 : Int32)) <<< ((0 : Int32) &&& 31)) ||| (((own_hi c) &&& (255 : Int32)) <<< ((8 : Int32) &&& 31)))).toUInt32.toUInt16.toUInt32.toInt32)
def own_ch16 (c : Int32) : Prop := 0 ≤ c.toInt ∧ c.toInt < 65536
theorem own_ext {x y : Int32} (h : ∀ i, i < 32 → x.toBitVec.getLsbD i = y.toBitVec.getLsbD i) : x = y := by
  apply Int32.toBitVec_inj.mp
  exact BitVec.eq_of_getLsbD_eq h
theorem own_i8 (x : Int32) : nar .byte ((x).toInt8.toInt32) = x.toInt8.toInt32 := by
  show x.toInt8.toInt32.toInt8.toInt32 = x.toInt8.toInt32
  rw [Int8.toInt8_toInt32]
theorem own_byte (x : Int32) : (nar .byte ((x).toInt8.toInt32)) &&& (255 : Int32) = x &&& (255 : Int32) := by
  rw [own_i8]
  apply own_ext
  intro i hi
  have k : (255 : Int32).toBitVec = 255#32 := rfl
  rw [Int32.toBitVec_and, Int32.toBitVec_and, k, BitVec.getLsbD_and, BitVec.getLsbD_and]
  by_cases h8 : i < 8
  · have e : (x.toInt8.toInt32).toBitVec = (x.toBitVec.signExtend 8).signExtend 32 := by
      rw [Int8.toBitVec_toInt32, Int32.toBitVec_toInt8]
    rw [e, BitVec.getLsbD_signExtend, BitVec.getLsbD_signExtend]
    simp [h8, hi]
  · have z : (255#32).getLsbD i = false := by
      have : ∀ j : Fin 32, ¬ j.val < 8 → (255#32).getLsbD j.val = false := by decide
      exact this ⟨i, hi⟩ h8
    rw [z, Bool.and_false, Bool.and_false]
def own_ST (Z : State) (cs : Int32) (vf : Value) : Prop := Sta Z Z.heap "java/lang/String" "COMPACT_STRINGS" "Z" (.int cs) ∧ Sta Z Z.heap "java/lang/StringUTF16" "$assertionsDisabled" "Z" (.int (1 : Int32)) ∧ Sta Z Z.heap "java/lang/StringUTF16" "HI_BYTE_SHIFT" "I" (.int (0 : Int32)) ∧ Sta Z Z.heap "java/lang/StringUTF16" "LO_BYTE_SHIFT" "I" (.int (8 : Int32)) ∧ Sta Z Z.heap "jdk/internal/util/Preconditions" "SIOOBE_FORMATTER" "Ljava/util/function/BiFunction;" vf ∧ (¬ cs = (0 : Int32)) ∧ vf.isRef = true

theorem own_c16 (y : Int32) : nar .char y = y &&& (65535 : Int32) := by
  show y.toUInt32.toUInt16.toUInt32.toInt32 = _
  apply own_ext
  intro i hi
  have k : (65535 : Int32).toBitVec = 65535#32 := rfl
  have e : (y.toUInt32.toUInt16.toUInt32.toInt32).toBitVec = (y.toBitVec.setWidth 16).setWidth 32 := rfl
  rw [e, Int32.toBitVec_and, k, BitVec.getLsbD_and, BitVec.getLsbD_setWidth, BitVec.getLsbD_setWidth]
  have z : ∀ j : Fin 32, (65535#32).getLsbD j.val = decide (j.val < 16) := by decide
  rw [z ⟨i, hi⟩]
  by_cases h : i < 16 <;> simp [h, hi]
theorem own_n16 (y : Int32) : own_ch16 (nar .char y) := by
  have e1 : (y &&& 65535).toInt = y.toInt % 2 ^ 16 := Jvm.Kit.i32_mask y 65535 (k := 16) (by decide) (by decide)
  unfold own_ch16
  rw [own_c16, e1]; omega
theorem own_nc {c : Int32} (h : own_ch16 c) : nar .char c = c := by
  have e1 : (c &&& 65535).toInt = c.toInt % 2 ^ 16 := Jvm.Kit.i32_mask c 65535 (k := 16) (by decide) (by decide)
  obtain ⟨h1, h2⟩ := h
  rw [own_c16, ← Int32.toInt_inj, e1]; omega
theorem own_hib {c : Int32} (h : own_ch16 c) {i : Nat} (h16 : 16 ≤ i) : c.toBitVec.getLsbD i = false := by
  have e := own_nc h
  rw [own_c16] at e
  have k : (65535 : Int32).toBitVec = 65535#32 := rfl
  by_cases hi : i < 32
  · have z : ∀ j : Fin 32, (65535#32).getLsbD j.val = decide (j.val < 16) := by decide
    rw [← e, Int32.toBitVec_and, k, BitVec.getLsbD_and, z ⟨i, hi⟩]
    simp; omega
  · exact BitVec.getLsbD_of_ge _ _ (by omega)
theorem own_gcEq {c : Int32} (h : own_ch16 c) : own_gc c = c := by
  have e0 : own_lo c &&& (255 : Int32) = c &&& (255 : Int32) := by
    rw [own_lo, own_byte]
    have : c >>> ((0 : Int32) &&& 31) = c := by
      apply Int32.toBitVec_inj.mp
      show c.toBitVec.sshiftRight' _ = _
      simp [BitVec.sshiftRight', BitVec.sshiftRight_zero]
    rw [this]
  have e1 : own_hi c &&& (255 : Int32) = (c >>> ((8 : Int32) &&& 31)) &&& (255 : Int32) := by rw [own_hi, own_byte]
  rw [own_gc, e0, e1]
  show nar .char (nar .char _) = c
  rw [own_nc (own_n16 _), own_c16]
  apply own_ext
  intro i hi
  have k : (65535 : Int32).toBitVec = 65535#32 := rfl
  have k2 : (255 : Int32).toBitVec = 255#32 := rfl
  have z : ∀ j : Fin 32, (65535#32).getLsbD j.val = decide (j.val < 16) := by decide
  have z2 : ∀ j : Fin 32, (255#32).getLsbD j.val = decide (j.val < 8) := by decide
  have s0 : ∀ x : Int32, (x <<< ((0 : Int32) &&& 31)).toBitVec = x.toBitVec := fun x => by
    show x.toBitVec <<< (_ : BitVec 32) = _
    simp
  have s8 : ∀ x : Int32, (x <<< ((8 : Int32) &&& 31)).toBitVec = x.toBitVec <<< (8 : Nat) := fun x => by
    show x.toBitVec <<< (_ : BitVec 32) = _
    rfl
  have r8 : (c >>> ((8 : Int32) &&& 31)).toBitVec = c.toBitVec.sshiftRight 8 := by
    show c.toBitVec.sshiftRight' _ = _
    rfl
  rw [Int32.toBitVec_and, k, BitVec.getLsbD_and, z ⟨i, hi⟩, Int32.toBitVec_or, BitVec.getLsbD_or, s0, s8, Int32.toBitVec_and, Int32.toBitVec_and, k2, r8, BitVec.getLsbD_and, z2 ⟨i, hi⟩, BitVec.getLsbD_shiftLeft, BitVec.getLsbD_and, BitVec.getLsbD_sshiftRight]
  by_cases h8 : i < 8
  · have h16 : i < 16 := by omega
    simp [h8, h16]
  · by_cases h16 : i < 16
    · have h24 : i - 8 < 32 := by omega
      rw [z2 ⟨i - 8, h24⟩]
      have a1 : i - 8 < 8 := by omega
      have a2 : 8 + (i - 8) = i := by omega
      simp [h8, h16, hi, a1, a2, h24]
    · rw [own_hib h (by omega)]
      simp [h16]
theorem D21_0 : own_at jdk_52_method_3_code 0 (.iload_n 0) 1 1 := ⟨by decide +kernel, rfl⟩
theorem D21_1 : own_at jdk_52_method_3_code 1 (.ifCond .ge 11) 3 4 := ⟨by decide +kernel, rfl⟩
theorem D21_12 : own_at jdk_52_method_3_code 12 (.iload_n 0) 1 13 := ⟨by decide +kernel, rfl⟩
theorem D21_13 : own_at jdk_52_method_3_code 13 (.ldc 20) 2 15 := ⟨by decide +kernel, rfl⟩
theorem D21_15 : own_at jdk_52_method_3_code 15 (.if_icmp .lt 40) 3 18 := ⟨by decide +kernel, rfl⟩
theorem D21_55 : own_at jdk_52_method_3_code 55 (.iload_n 0) 1 56 := ⟨by decide +kernel, rfl⟩
theorem D21_56 : own_at jdk_52_method_3_code 56 (.iconst 1) 1 57 := ⟨by decide +kernel, rfl⟩
theorem D21_57 : own_at jdk_52_method_3_code 57 (.ishl) 1 58 := ⟨by decide +kernel, rfl⟩
theorem D21_58 : own_at jdk_52_method_3_code 58 (.ireturn) 1 59 := ⟨by decide +kernel, rfl⟩
theorem pn_java_lang_StringUTF16 : plainName "java/lang/StringUTF16" = true := by first | (simp [plainName, overriddenIn]; done) | decide +kernel
theorem ef_rs_nbl1 (m : MethodId)  : entryFrame m #[(.int (1 : Int32))] 1 = mkF m 0 #[.val (.int (1 : Int32))] [] := by first | (simp [entryFrame, mkF, argsToLocals, Value.category]; done) | rfl
set_option maxRecDepth 65536 in
set_option maxHeartbeats 40000000 in
theorem rs_nbl1 (l : Launch) (Z : State) (a0 : Array Value) (hw : ∀ d ∈ tables_1, d.before a0 Z = true) (ws : List Jvm.Cond)   (h0 : Heap) (n0 : Nat) (Z0 : n0 ≤ h0.size)  :
    own_Mt l (⟨"java/lang/StringUTF16", "newBytesLength", "(I)I"⟩ : MethodName) jdk_52_method_3_code 1 (some .int) ({ frames := 0, cells := 0, slots := 0, locals := 0 } : Room) #[(.int (1 : Int32))] Z h0 (own_QP (.int (2 : Int32)) h0 n0) := by
  refine MetFree.of_bodySF (plainFor_of_name pn_java_lang_StringUTF16) hisR ?_
  intro p e s m args below meth c s₁ Bd hml0 hP hK
  obtain ⟨rfl, hZ, hh⟩ := hP
  have hx := Bd.exec
  have hby := Bd.bytes
  have hml : c.maxLocals = 1 := hml0
  have hown : s.vm.findClass "java/lang/StringUTF16" = some m.cls := findClass_of_methodNamed Bd.named
  have hnm := (name_of_methodNamed Bd.named Bd.method).1
  have X0 : Stand p l e ({ frames := 0, cells := 0, slots := 0, locals := 0 } : Room) s m #[(.int (1 : Int32))] below meth c s₁ [] 0 0 := Stand.of_body Bd
  have e0 : s₁.heap = h0 := by rw [← hh, Bd.state]; rfl
  have N0 := Fr.nil n0
  refine own_start (ef_rs_nbl1 m ) ?_
  refine o_iloadN X0 hx hby D21_0 rfl ?_
  refine o_ifY X0 hx hby D21_1 ((if0 _ _).trans (flt (by decide : ¬ ((1 : Int32) < (0 : Int32)))).2.1) (q := 12) (by decide) (by decide) ?_
  refine o_iloadN X0 hx hby D21_12 rfl ?_
  refine o_ldc X0 hx hby hown (mvT hZ (wd hw 92 rfl)) D21_13 ?_
  refine o_icmpY X0 hx hby D21_15 (tlt (by decide : (1 : Int32) < (1073741823 : Int32))).1 (q := 55) (by decide) (by decide) ?_
  refine o_iloadN X0 hx hby D21_55 rfl ?_
  refine o_iconst X0 hx hby D21_56 (v := 1) rfl ?_
  refine o_ishl X0 hx hby D21_57 ?_
  rw [(by decide : ((1 : Int32) <<< ((1 : Int32) &&& 31)) = (2 : Int32))]
  exact own_ret (v := some (.int (2 : Int32))) X0 (fun h => by first | rfl | (rw [Bd.returns] at h; cases h)) (BodyLoose.notSynchronized Bd) (by decide) (by decide) (⟨rfl, N0, e0⟩) (fun fs hr => retI X0 hx Bd.returns (hb hby D21_58.1) hr)
def own_QNb1 (Z : State) (h0 : Heap) (n0 : Nat) (v : Option Value) (h : Heap) (L : List Loc) : Prop := ∃ (r : Nat) (kr : ClassId), v = some (.ref r) ∧ Fr n0 L ∧ Keep h0 h [] ∧ h0.size ≤ r ∧ Arv Z h r kr .byte (2 : Int32) [(.int (0 : Int32)), (.int (0 : Int32))] (.int (0 : Int32))
theorem pd__40I_41I : parseMethodDescriptor "(I)I" = some ⟨[.int], some .int⟩ := by decide +kernel
theorem D20_0 : own_at jdk_52_method_2_code 0 (.iload_n 0) 1 1 := ⟨by decide +kernel, rfl⟩
theorem D20_1 : own_at jdk_52_method_2_code 1 (.invokestatic 11) 3 4 := ⟨by decide +kernel, rfl⟩
theorem D20_4 : own_at jdk_52_method_2_code 4 (.newarray .byte) 2 6 := ⟨by decide +kernel, rfl⟩
theorem D20_6 : own_at jdk_52_method_2_code 6 (.areturn) 1 7 := ⟨by decide +kernel, rfl⟩
theorem ef_rs_nbf1 (m : MethodId)  : entryFrame m #[(.int (1 : Int32))] 1 = mkF m 0 #[.val (.int (1 : Int32))] [] := by first | (simp [entryFrame, mkF, argsToLocals, Value.category]; done) | rfl
set_option maxRecDepth 65536 in
set_option maxHeartbeats 40000000 in
theorem rs_nbf1 (l : Launch) (Z : State) (a0 : Array Value) (hw : ∀ d ∈ tables_1, d.before a0 Z = true) (ws : List Jvm.Cond)   (h0 : Heap) (n0 : Nat) (Z0 : n0 ≤ h0.size)  :
    own_Mt l (⟨"java/lang/StringUTF16", "newBytesFor", "(I)[B"⟩ : MethodName) jdk_52_method_2_code 1 (some (.array .byte)) ({ frames := 1, cells := 1, slots := 2, locals := 12 } : Room) #[(.int (1 : Int32))] Z h0 (own_QNb1 Z h0 n0) := by
  refine MetFree.of_bodySF (plainFor_of_name pn_java_lang_StringUTF16) hisR ?_
  intro p e s m args below meth c s₁ Bd hml0 hP hK
  obtain ⟨rfl, hZ, hh⟩ := hP
  have hx := Bd.exec
  have hby := Bd.bytes
  have hml : c.maxLocals = 1 := hml0
  have hown : s.vm.findClass "java/lang/StringUTF16" = some m.cls := findClass_of_methodNamed Bd.named
  have hnm := (name_of_methodNamed Bd.named Bd.method).1
  have X0 : Stand p l e ({ frames := 1, cells := 1, slots := 2, locals := 12 } : Room) s m #[(.int (1 : Int32))] below meth c s₁ [] 0 0 := Stand.of_body Bd
  have e0 : s₁.heap = h0 := by rw [← hh, Bd.state]; rfl
  have N0 := Fr.nil n0
  refine own_start (ef_rs_nbf1 m ) ?_
  refine o_iloadN X0 hx hby D20_0 rfl ?_
  refine kS X0 hx hZ hown hby (wd hw 89 rfl) (wd hw 90 rfl) (wd hw 24 rfl) (wd hw 91 rfl) (rs_nbl1 l Z a0 hw []  h0 n0 Z0) (by decide) (by decide) (by decide) (by decide) (by decide) (by rw [hml]; rfl) [(.int (1 : Int32))] [] (lenOf pd__40I_41I rfl) (W := 0) rfl rfl D20_1 rfl e0 ?_
  intro v1 T1 L1 X1 hQ1
  obtain ⟨rfl, N1q, e1⟩ := hQ1
  have N1 := Fr.app N0 N1q
  refine own_sh (A' := T1.setTop (mkF m 4 _ [(.int (2 : Int32))])) ?_
  obtain ⟨T2, h2, k2, X2, e2, E2, A2, Ex2, st2⟩ := newPE X1 hx hZ (wd hw 26 rfl) e1 (g := (mkF m 4 #[.val (.int (1 : Int32))] [(.int (2 : Int32))])) rfl (hb hby D20_4.1) rfl (by decide) (cap := 2) (by decide) (by decide) (by decide) (by decide) (ad := "[B") (by first | rfl | decide)
  obtain ⟨b2, g2⟩ : ∃ z : Nat, z = h0.size := ⟨_, rfl⟩
  rw [← g2] at A2 Ex2 st2
  have sz2 := own_leN E2.1
  have gn_b2 : n0 ≤ b2 := by omega
  have V_b2 : Arv Z h2 b2 k2 .byte (2 : Int32) [(.int (0 : Int32)), (.int (0 : Int32))] (.int (0 : Int32)) := (Arv.new A2 (by decide)).pad (pad_rep [] (.int (0 : Int32)) 2)
  have lt_b2 := own_ltN V_b2.lt
  refine own_pre (A' := T2.setTop (mkF m 6 #[.val (.int (1 : Int32))] [(.ref b2)])) st2 ?_
  have KK : Keep h0 h2 [] := ((Keep.refl h0 []).ext E2)
  exact own_ret (v := some (.ref b2)) X2 (fun h => by first | rfl | (rw [Bd.returns] at h; cases h)) (BodyLoose.notSynchronized Bd) (by decide) (by decide) (by rw [e2]; exact ⟨b2, k2, rfl, N1, KK, own_leN (by omega), V_b2⟩) (fun fs hr => retOut X2 hx Bd.returns rfl (Or.inr (Or.inr (Or.inr (Or.inr ⟨rfl, rfl, rfl⟩)))) (hb hby D20_6.1) hr)
theorem ef_rs_nbl2 (m : MethodId)  : entryFrame m #[(.int (2 : Int32))] 1 = mkF m 0 #[.val (.int (2 : Int32))] [] := by first | (simp [entryFrame, mkF, argsToLocals, Value.category]; done) | rfl
set_option maxRecDepth 65536 in
set_option maxHeartbeats 40000000 in
theorem rs_nbl2 (l : Launch) (Z : State) (a0 : Array Value) (hw : ∀ d ∈ tables_1, d.before a0 Z = true) (ws : List Jvm.Cond)   (h0 : Heap) (n0 : Nat) (Z0 : n0 ≤ h0.size)  :
    own_Mt l (⟨"java/lang/StringUTF16", "newBytesLength", "(I)I"⟩ : MethodName) jdk_52_method_3_code 1 (some .int) ({ frames := 0, cells := 0, slots := 0, locals := 0 } : Room) #[(.int (2 : Int32))] Z h0 (own_QP (.int (4 : Int32)) h0 n0) := by
  refine MetFree.of_bodySF (plainFor_of_name pn_java_lang_StringUTF16) hisR ?_
  intro p e s m args below meth c s₁ Bd hml0 hP hK
  obtain ⟨rfl, hZ, hh⟩ := hP
  have hx := Bd.exec
  have hby := Bd.bytes
  have hml : c.maxLocals = 1 := hml0
  have hown : s.vm.findClass "java/lang/StringUTF16" = some m.cls := findClass_of_methodNamed Bd.named
  have hnm := (name_of_methodNamed Bd.named Bd.method).1
  have X0 : Stand p l e ({ frames := 0, cells := 0, slots := 0, locals := 0 } : Room) s m #[(.int (2 : Int32))] below meth c s₁ [] 0 0 := Stand.of_body Bd
  have e0 : s₁.heap = h0 := by rw [← hh, Bd.state]; rfl
  have N0 := Fr.nil n0
  refine own_start (ef_rs_nbl2 m ) ?_
  refine o_iloadN X0 hx hby D21_0 rfl ?_
  refine o_ifY X0 hx hby D21_1 ((if0 _ _).trans (flt (by decide : ¬ ((2 : Int32) < (0 : Int32)))).2.1) (q := 12) (by decide) (by decide) ?_
  refine o_iloadN X0 hx hby D21_12 rfl ?_
  refine o_ldc X0 hx hby hown (mvT hZ (wd hw 92 rfl)) D21_13 ?_
  refine o_icmpY X0 hx hby D21_15 (tlt (by decide : (2 : Int32) < (1073741823 : Int32))).1 (q := 55) (by decide) (by decide) ?_
  refine o_iloadN X0 hx hby D21_55 rfl ?_
  refine o_iconst X0 hx hby D21_56 (v := 1) rfl ?_
  refine o_ishl X0 hx hby D21_57 ?_
  rw [(by decide : ((2 : Int32) <<< ((1 : Int32) &&& 31)) = (4 : Int32))]
  exact own_ret (v := some (.int (4 : Int32))) X0 (fun h => by first | rfl | (rw [Bd.returns] at h; cases h)) (BodyLoose.notSynchronized Bd) (by decide) (by decide) (⟨rfl, N0, e0⟩) (fun fs hr => retI X0 hx Bd.returns (hb hby D21_58.1) hr)
def own_QNb2 (Z : State) (h0 : Heap) (n0 : Nat) (v : Option Value) (h : Heap) (L : List Loc) : Prop := ∃ (r : Nat) (kr : ClassId), v = some (.ref r) ∧ Fr n0 L ∧ Keep h0 h [] ∧ h0.size ≤ r ∧ Arv Z h r kr .byte (4 : Int32) [(.int (0 : Int32)), (.int (0 : Int32)), (.int (0 : Int32)), (.int (0 : Int32))] (.int (0 : Int32))
theorem ef_rs_nbf2 (m : MethodId)  : entryFrame m #[(.int (2 : Int32))] 1 = mkF m 0 #[.val (.int (2 : Int32))] [] := by first | (simp [entryFrame, mkF, argsToLocals, Value.category]; done) | rfl
set_option maxRecDepth 65536 in
set_option maxHeartbeats 40000000 in
theorem rs_nbf2 (l : Launch) (Z : State) (a0 : Array Value) (hw : ∀ d ∈ tables_1, d.before a0 Z = true) (ws : List Jvm.Cond)   (h0 : Heap) (n0 : Nat) (Z0 : n0 ≤ h0.size)  :
    own_Mt l (⟨"java/lang/StringUTF16", "newBytesFor", "(I)[B"⟩ : MethodName) jdk_52_method_2_code 1 (some (.array .byte)) ({ frames := 1, cells := 1, slots := 4, locals := 12 } : Room) #[(.int (2 : Int32))] Z h0 (own_QNb2 Z h0 n0) := by
  refine MetFree.of_bodySF (plainFor_of_name pn_java_lang_StringUTF16) hisR ?_
  intro p e s m args below meth c s₁ Bd hml0 hP hK
  obtain ⟨rfl, hZ, hh⟩ := hP
  have hx := Bd.exec
  have hby := Bd.bytes
  have hml : c.maxLocals = 1 := hml0
  have hown : s.vm.findClass "java/lang/StringUTF16" = some m.cls := findClass_of_methodNamed Bd.named
  have hnm := (name_of_methodNamed Bd.named Bd.method).1
  have X0 : Stand p l e ({ frames := 1, cells := 1, slots := 4, locals := 12 } : Room) s m #[(.int (2 : Int32))] below meth c s₁ [] 0 0 := Stand.of_body Bd
  have e0 : s₁.heap = h0 := by rw [← hh, Bd.state]; rfl
  have N0 := Fr.nil n0
  refine own_start (ef_rs_nbf2 m ) ?_
  refine o_iloadN X0 hx hby D20_0 rfl ?_
  refine kS X0 hx hZ hown hby (wd hw 89 rfl) (wd hw 90 rfl) (wd hw 24 rfl) (wd hw 91 rfl) (rs_nbl2 l Z a0 hw []  h0 n0 Z0) (by decide) (by decide) (by decide) (by decide) (by decide) (by rw [hml]; rfl) [(.int (2 : Int32))] [] (lenOf pd__40I_41I rfl) (W := 0) rfl rfl D20_1 rfl e0 ?_
  intro v1 T1 L1 X1 hQ1
  obtain ⟨rfl, N1q, e1⟩ := hQ1
  have N1 := Fr.app N0 N1q
  refine own_sh (A' := T1.setTop (mkF m 4 _ [(.int (4 : Int32))])) ?_
  obtain ⟨T2, h2, k2, X2, e2, E2, A2, Ex2, st2⟩ := newPE X1 hx hZ (wd hw 26 rfl) e1 (g := (mkF m 4 #[.val (.int (2 : Int32))] [(.int (4 : Int32))])) rfl (hb hby D20_4.1) rfl (by decide) (cap := 4) (by decide) (by decide) (by decide) (by decide) (ad := "[B") (by first | rfl | decide)
  obtain ⟨b2, g2⟩ : ∃ z : Nat, z = h0.size := ⟨_, rfl⟩
  rw [← g2] at A2 Ex2 st2
  have sz2 := own_leN E2.1
  have gn_b2 : n0 ≤ b2 := by omega
  have V_b2 : Arv Z h2 b2 k2 .byte (4 : Int32) [(.int (0 : Int32)), (.int (0 : Int32)), (.int (0 : Int32)), (.int (0 : Int32))] (.int (0 : Int32)) := (Arv.new A2 (by decide)).pad (pad_rep [] (.int (0 : Int32)) 4)
  have lt_b2 := own_ltN V_b2.lt
  refine own_pre (A' := T2.setTop (mkF m 6 #[.val (.int (2 : Int32))] [(.ref b2)])) st2 ?_
  have KK : Keep h0 h2 [] := ((Keep.refl h0 []).ext E2)
  exact own_ret (v := some (.ref b2)) X2 (fun h => by first | rfl | (rw [Bd.returns] at h; cases h)) (BodyLoose.notSynchronized Bd) (by decide) (by decide) (by rw [e2]; exact ⟨b2, k2, rfl, N1, KK, own_leN (by omega), V_b2⟩) (fun fs hr => retOut X2 hx Bd.returns rfl (Or.inr (Or.inr (Or.inr (Or.inr ⟨rfl, rfl, rfl⟩)))) (hb hby D20_6.1) hr)
theorem ef_rs_nbl3 (m : MethodId)  : entryFrame m #[(.int (3 : Int32))] 1 = mkF m 0 #[.val (.int (3 : Int32))] [] := by first | (simp [entryFrame, mkF, argsToLocals, Value.category]; done) | rfl
set_option maxRecDepth 65536 in
set_option maxHeartbeats 40000000 in
theorem rs_nbl3 (l : Launch) (Z : State) (a0 : Array Value) (hw : ∀ d ∈ tables_1, d.before a0 Z = true) (ws : List Jvm.Cond)   (h0 : Heap) (n0 : Nat) (Z0 : n0 ≤ h0.size)  :
    own_Mt l (⟨"java/lang/StringUTF16", "newBytesLength", "(I)I"⟩ : MethodName) jdk_52_method_3_code 1 (some .int) ({ frames := 0, cells := 0, slots := 0, locals := 0 } : Room) #[(.int (3 : Int32))] Z h0 (own_QP (.int (6 : Int32)) h0 n0) := by
  refine MetFree.of_bodySF (plainFor_of_name pn_java_lang_StringUTF16) hisR ?_
  intro p e s m args below meth c s₁ Bd hml0 hP hK
  obtain ⟨rfl, hZ, hh⟩ := hP
  have hx := Bd.exec
  have hby := Bd.bytes
  have hml : c.maxLocals = 1 := hml0
  have hown : s.vm.findClass "java/lang/StringUTF16" = some m.cls := findClass_of_methodNamed Bd.named
  have hnm := (name_of_methodNamed Bd.named Bd.method).1
  have X0 : Stand p l e ({ frames := 0, cells := 0, slots := 0, locals := 0 } : Room) s m #[(.int (3 : Int32))] below meth c s₁ [] 0 0 := Stand.of_body Bd
  have e0 : s₁.heap = h0 := by rw [← hh, Bd.state]; rfl
  have N0 := Fr.nil n0
  refine own_start (ef_rs_nbl3 m ) ?_
  refine o_iloadN X0 hx hby D21_0 rfl ?_
  refine o_ifY X0 hx hby D21_1 ((if0 _ _).trans (flt (by decide : ¬ ((3 : Int32) < (0 : Int32)))).2.1) (q := 12) (by decide) (by decide) ?_
  refine o_iloadN X0 hx hby D21_12 rfl ?_
  refine o_ldc X0 hx hby hown (mvT hZ (wd hw 92 rfl)) D21_13 ?_
  refine o_icmpY X0 hx hby D21_15 (tlt (by decide : (3 : Int32) < (1073741823 : Int32))).1 (q := 55) (by decide) (by decide) ?_
  refine o_iloadN X0 hx hby D21_55 rfl ?_
  refine o_iconst X0 hx hby D21_56 (v := 1) rfl ?_
  refine o_ishl X0 hx hby D21_57 ?_
  rw [(by decide : ((3 : Int32) <<< ((1 : Int32) &&& 31)) = (6 : Int32))]
  exact own_ret (v := some (.int (6 : Int32))) X0 (fun h => by first | rfl | (rw [Bd.returns] at h; cases h)) (BodyLoose.notSynchronized Bd) (by decide) (by decide) (⟨rfl, N0, e0⟩) (fun fs hr => retI X0 hx Bd.returns (hb hby D21_58.1) hr)
def own_QNb3 (Z : State) (h0 : Heap) (n0 : Nat) (v : Option Value) (h : Heap) (L : List Loc) : Prop := ∃ (r : Nat) (kr : ClassId), v = some (.ref r) ∧ Fr n0 L ∧ Keep h0 h [] ∧ h0.size ≤ r ∧ Arv Z h r kr .byte (6 : Int32) [(.int (0 : Int32)), (.int (0 : Int32)), (.int (0 : Int32)), (.int (0 : Int32)), (.int (0 : Int32)), (.int (0 : Int32))] (.int (0 : Int32))
theorem ef_rs_nbf3 (m : MethodId)  : entryFrame m #[(.int (3 : Int32))] 1 = mkF m 0 #[.val (.int (3 : Int32))] [] := by first | (simp [entryFrame, mkF, argsToLocals, Value.category]; done) | rfl
set_option maxRecDepth 65536 in
set_option maxHeartbeats 40000000 in
theorem rs_nbf3 (l : Launch) (Z : State) (a0 : Array Value) (hw : ∀ d ∈ tables_1, d.before a0 Z = true) (ws : List Jvm.Cond)   (h0 : Heap) (n0 : Nat) (Z0 : n0 ≤ h0.size)  :
    own_Mt l (⟨"java/lang/StringUTF16", "newBytesFor", "(I)[B"⟩ : MethodName) jdk_52_method_2_code 1 (some (.array .byte)) ({ frames := 1, cells := 1, slots := 6, locals := 12 } : Room) #[(.int (3 : Int32))] Z h0 (own_QNb3 Z h0 n0) := by
  refine MetFree.of_bodySF (plainFor_of_name pn_java_lang_StringUTF16) hisR ?_
  intro p e s m args below meth c s₁ Bd hml0 hP hK
  obtain ⟨rfl, hZ, hh⟩ := hP
  have hx := Bd.exec
  have hby := Bd.bytes
  have hml : c.maxLocals = 1 := hml0
  have hown : s.vm.findClass "java/lang/StringUTF16" = some m.cls := findClass_of_methodNamed Bd.named
  have hnm := (name_of_methodNamed Bd.named Bd.method).1
  have X0 : Stand p l e ({ frames := 1, cells := 1, slots := 6, locals := 12 } : Room) s m #[(.int (3 : Int32))] below meth c s₁ [] 0 0 := Stand.of_body Bd
  have e0 : s₁.heap = h0 := by rw [← hh, Bd.state]; rfl
  have N0 := Fr.nil n0
  refine own_start (ef_rs_nbf3 m ) ?_
  refine o_iloadN X0 hx hby D20_0 rfl ?_
  refine kS X0 hx hZ hown hby (wd hw 89 rfl) (wd hw 90 rfl) (wd hw 24 rfl) (wd hw 91 rfl) (rs_nbl3 l Z a0 hw []  h0 n0 Z0) (by decide) (by decide) (by decide) (by decide) (by decide) (by rw [hml]; rfl) [(.int (3 : Int32))] [] (lenOf pd__40I_41I rfl) (W := 0) rfl rfl D20_1 rfl e0 ?_
  intro v1 T1 L1 X1 hQ1
  obtain ⟨rfl, N1q, e1⟩ := hQ1
  have N1 := Fr.app N0 N1q
  refine own_sh (A' := T1.setTop (mkF m 4 _ [(.int (6 : Int32))])) ?_
  obtain ⟨T2, h2, k2, X2, e2, E2, A2, Ex2, st2⟩ := newPE X1 hx hZ (wd hw 26 rfl) e1 (g := (mkF m 4 #[.val (.int (3 : Int32))] [(.int (6 : Int32))])) rfl (hb hby D20_4.1) rfl (by decide) (cap := 6) (by decide) (by decide) (by decide) (by decide) (ad := "[B") (by first | rfl | decide)
  obtain ⟨b2, g2⟩ : ∃ z : Nat, z = h0.size := ⟨_, rfl⟩
  rw [← g2] at A2 Ex2 st2
  have sz2 := own_leN E2.1
  have gn_b2 : n0 ≤ b2 := by omega
  have V_b2 : Arv Z h2 b2 k2 .byte (6 : Int32) [(.int (0 : Int32)), (.int (0 : Int32)), (.int (0 : Int32)), (.int (0 : Int32)), (.int (0 : Int32)), (.int (0 : Int32))] (.int (0 : Int32)) := (Arv.new A2 (by decide)).pad (pad_rep [] (.int (0 : Int32)) 6)
  have lt_b2 := own_ltN V_b2.lt
  refine own_pre (A' := T2.setTop (mkF m 6 #[.val (.int (3 : Int32))] [(.ref b2)])) st2 ?_
  have KK : Keep h0 h2 [] := ((Keep.refl h0 []).ext E2)
  exact own_ret (v := some (.ref b2)) X2 (fun h => by first | rfl | (rw [Bd.returns] at h; cases h)) (BodyLoose.notSynchronized Bd) (by decide) (by decide) (by rw [e2]; exact ⟨b2, k2, rfl, N1, KK, own_leN (by omega), V_b2⟩) (fun fs hr => retOut X2 hx Bd.returns rfl (Or.inr (Or.inr (Or.inr (Or.inr ⟨rfl, rfl, rfl⟩)))) (hb hby D20_6.1) hr)
def own_QPc10 (Z : State) (ba : Addr) (kb : ClassId) (p2 : Int32) (x0 x1 : Value) (h0 : Heap) (n0 : Nat) (v : Option Value) (h : Heap) (L : List Loc) : Prop := v = none ∧ Fr n0 L ∧ Keep h0 h [ba] ∧ Arv Z h ba kb .byte (2 : Int32) [(.int (own_lo p2)), (.int (own_hi p2))] (.int (0 : Int32))
theorem D22_0 : own_at jdk_52_method_4_code 0 (.getstatic 44) 3 3 := ⟨by decide +kernel, rfl⟩
theorem D22_3 : own_at jdk_52_method_4_code 3 (.ifCond .ne 25) 3 6 := ⟨by decide +kernel, rfl⟩
theorem D22_28 : own_at jdk_52_method_4_code 28 (.iload_n 1) 1 29 := ⟨by decide +kernel, rfl⟩
theorem D22_29 : own_at jdk_52_method_4_code 29 (.iconst 1) 1 30 := ⟨by decide +kernel, rfl⟩
theorem D22_30 : own_at jdk_52_method_4_code 30 (.ishl) 1 31 := ⟨by decide +kernel, rfl⟩
theorem D22_31 : own_at jdk_52_method_4_code 31 (.istore_n 1) 1 32 := ⟨by decide +kernel, rfl⟩
theorem D22_32 : own_at jdk_52_method_4_code 32 (.aload_n 0) 1 33 := ⟨by decide +kernel, rfl⟩
theorem D22_33 : own_at jdk_52_method_4_code 33 (.iload_n 1) 1 34 := ⟨by decide +kernel, rfl⟩
theorem D22_34 : own_at jdk_52_method_4_code 34 (.iinc 1 1) 3 37 := ⟨by decide +kernel, rfl⟩
theorem D22_37 : own_at jdk_52_method_4_code 37 (.iload_n 2) 1 38 := ⟨by decide +kernel, rfl⟩
theorem D22_38 : own_at jdk_52_method_4_code 38 (.getstatic 59) 3 41 := ⟨by decide +kernel, rfl⟩
theorem D22_41 : own_at jdk_52_method_4_code 41 (.ishr) 1 42 := ⟨by decide +kernel, rfl⟩
theorem D22_42 : own_at jdk_52_method_4_code 42 (.i2b) 1 43 := ⟨by decide +kernel, rfl⟩
theorem D22_43 : own_at jdk_52_method_4_code 43 (.bastore) 1 44 := ⟨by decide +kernel, rfl⟩
theorem D22_44 : own_at jdk_52_method_4_code 44 (.aload_n 0) 1 45 := ⟨by decide +kernel, rfl⟩
theorem D22_45 : own_at jdk_52_method_4_code 45 (.iload_n 1) 1 46 := ⟨by decide +kernel, rfl⟩
theorem D22_46 : own_at jdk_52_method_4_code 46 (.iload_n 2) 1 47 := ⟨by decide +kernel, rfl⟩
theorem D22_47 : own_at jdk_52_method_4_code 47 (.getstatic 63) 3 50 := ⟨by decide +kernel, rfl⟩
theorem D22_50 : own_at jdk_52_method_4_code 50 (.ishr) 1 51 := ⟨by decide +kernel, rfl⟩
theorem D22_51 : own_at jdk_52_method_4_code 51 (.i2b) 1 52 := ⟨by decide +kernel, rfl⟩
theorem D22_52 : own_at jdk_52_method_4_code 52 (.bastore) 1 53 := ⟨by decide +kernel, rfl⟩
theorem D22_53 : own_at jdk_52_method_4_code 53 (.return_) 1 54 := ⟨by decide +kernel, rfl⟩
theorem ef_rs_pc10 (m : MethodId) (ba : Addr) (p2 : Int32) : entryFrame m #[(.ref ba), (.int (0 : Int32)), (.int p2)] 3 = mkF m 0 #[.val (.ref ba), .val (.int (0 : Int32)), .val (.int p2)] [] := by first | (simp [entryFrame, mkF, argsToLocals, Value.category]; done) | rfl
set_option maxRecDepth 65536 in
set_option maxHeartbeats 40000000 in
theorem rs_pc10 (l : Launch) (Z : State) (a0 : Array Value) (hw : ∀ d ∈ tables_1, d.before a0 Z = true) (ws : List Jvm.Cond) (ba : Addr) (p2 : Int32) (kb : ClassId) (x0 x1 : Value) (cs : Int32) (vf : Value) (h0 : Heap) (n0 : Nat) (Z0 : n0 ≤ h0.size) (hST : own_ST Z cs vf) (O0 : Old Z n0 h0) (gn_ba : n0 ≤ ba) (Vb : Arv Z h0 ba kb .byte (2 : Int32) [x0, x1] (.int (0 : Int32))) :
    own_Mt l (⟨"java/lang/StringUTF16", "putChar", "([BII)V"⟩ : MethodName) jdk_52_method_4_code 3 none ({ frames := 0, cells := 0, slots := 0, locals := 0 } : Room) #[(.ref ba), (.int (0 : Int32)), (.int p2)] Z h0 (own_QPc10 Z ba kb p2 x0 x1 h0 n0) := by
  refine MetFree.of_bodySF (plainFor_of_name pn_java_lang_StringUTF16) hisR ?_
  intro p e s m args below meth c s₁ Bd hml0 hP hK
  obtain ⟨rfl, hZ, hh⟩ := hP
  have hx := Bd.exec
  have hby := Bd.bytes
  have hml : c.maxLocals = 3 := hml0
  have hown : s.vm.findClass "java/lang/StringUTF16" = some m.cls := findClass_of_methodNamed Bd.named
  have hnm := (name_of_methodNamed Bd.named Bd.method).1
  have X0 : Stand p l e ({ frames := 0, cells := 0, slots := 0, locals := 0 } : Room) s m #[(.ref ba), (.int (0 : Int32)), (.int p2)] below meth c s₁ [] 0 0 := Stand.of_body Bd
  have e0 : s₁.heap = h0 := by rw [← hh, Bd.state]; rfl
  have N0 := Fr.nil n0
  refine own_start (ef_rs_pc10 m ba p2) ?_
  obtain ⟨S_cs, S_ad, S_hb, S_lb, S_sf, hcs, hvf⟩ := hST
  have lt_ba := own_ltN Vb.lt
  obtain ⟨T1, X1, e1, st1⟩ := getS2 X0 hx hZ hown (host := "") (Or.inl (wd hw 96 rfl)) Via.refl e0 (S_ad.ext O0.2) (g := (mkF m 0 #[.val (.ref ba), .val (.int (0 : Int32)), .val (.int p2)] [])) rfl (hb hby D22_0.1)
  refine own_pre (A' := T1.setTop (mkF m 3 #[.val (.ref ba), .val (.int (0 : Int32)), .val (.int p2)] [(.int (1 : Int32))])) st1 ?_
  refine o_ifY X1 hx hby D22_3 ((if0 _ _).trans (feq (by decide : ¬ ((1 : Int32) = (0 : Int32)))).2) (q := 28) (by decide) (by decide) ?_
  refine o_iloadN X1 hx hby D22_28 rfl ?_
  refine o_iconst X1 hx hby D22_29 (v := 1) rfl ?_
  refine o_ishl X1 hx hby D22_30 ?_
  rw [(by decide : ((0 : Int32) <<< ((1 : Int32) &&& 31)) = (0 : Int32))]
  refine o_istoreN X1 hx hby D22_31 (l' := #[.val (.ref ba), .val (.int (0 : Int32)), .val (.int p2)]) rfl ?_
  refine o_aloadN X1 hx hby D22_32 rfl rfl ?_
  refine o_iloadN X1 hx hby D22_33 rfl ?_
  refine o_iinc X1 hx hby D22_34 rfl (l' := #[.val (.ref ba), .val (.int ((0 : Int32) + (1 : Int32))), .val (.int p2)]) rfl ?_
  rw [(by decide : ((0 : Int32) + (1 : Int32)) = (1 : Int32))]
  refine o_iloadN X1 hx hby D22_37 rfl ?_
  obtain ⟨T2, X2, e2, st2⟩ := getS2 X1 hx hZ hown (host := "") (Or.inl (wd hw 97 rfl)) Via.refl e1 (S_hb.ext O0.2) (g := (mkF m 38 #[.val (.ref ba), .val (.int (1 : Int32)), .val (.int p2)] [(.int p2), (.int (0 : Int32)), (.ref ba)])) rfl (hb hby D22_38.1)
  refine own_pre (A' := T2.setTop (mkF m 41 #[.val (.ref ba), .val (.int (1 : Int32)), .val (.int p2)] [(.int (0 : Int32)), (.int p2), (.int (0 : Int32)), (.ref ba)])) st2 ?_
  refine o_ishr X2 hx hby D22_41 ?_
  refine o_i2b X2 hx hby D22_42 ?_
  obtain ⟨cl_ba_3, Ar_ba_3, q_ba_3, S_ba_3, N_ba_3, H_ba_3, G_ba_3⟩ := id Vb
  have hin_ba_3 : ¬ ((0 : Int32) < 0 ∨ cl_ba_3.slots.size ≤ ((0 : Int32)).toNatClampNeg) := inb_of S_ba_3 ⟨by decide, by decide⟩
  obtain ⟨T3, h3, X3, e3, W3, st3⟩ := stB X2 hx hZ e2 Ar_ba_3 (j := (0 : Int32)) hin_ba_3 (g := (mkF m 43 #[.val (.ref ba), .val (.int (1 : Int32)), .val (.int p2)] [(.int (((p2 >>> ((0 : Int32) &&& 31))).toInt8.toInt32)), (.int (0 : Int32)), (.ref ba)])) rfl rfl (hb hby D22_43.1)
  have V_ba_3 : Arv Z h3 ba kb .byte (2 : Int32) [(.int (nar .byte (((p2 >>> ((0 : Int32) &&& 31))).toInt8.toInt32))), x1] (.int (0 : Int32)) := Arv.set Ar_ba_3 q_ba_3 S_ba_3 N_ba_3 H_ba_3 G_ba_3 (fits_nar_byte _) W3 0 rfl (Nat.le_of_ble_eq_true rfl)
  have sz3 := own_leN (Keep.of_wr W3).1
  have N3 := Fr.snoc X3 N0 gn_ba
  refine own_pre (A' := T3.setTop (mkF m 44 #[.val (.ref ba), .val (.int (1 : Int32)), .val (.int p2)] [])) st3 ?_
  refine o_aloadN X3 hx hby D22_44 rfl rfl ?_
  refine o_iloadN X3 hx hby D22_45 rfl ?_
  refine o_iloadN X3 hx hby D22_46 rfl ?_
  have c5_O := (O0.wr W3 gn_ba)
  obtain ⟨T4, X4, e4, st4⟩ := getS2 X3 hx hZ hown (host := "") (Or.inl (wd hw 98 rfl)) Via.refl e3 (S_lb.ext c5_O.2) (g := (mkF m 47 #[.val (.ref ba), .val (.int (1 : Int32)), .val (.int p2)] [(.int p2), (.int (1 : Int32)), (.ref ba)])) rfl (hb hby D22_47.1)
  refine own_pre (A' := T4.setTop (mkF m 50 #[.val (.ref ba), .val (.int (1 : Int32)), .val (.int p2)] [(.int (8 : Int32)), (.int p2), (.int (1 : Int32)), (.ref ba)])) st4 ?_
  refine o_ishr X4 hx hby D22_50 ?_
  refine o_i2b X4 hx hby D22_51 ?_
  obtain ⟨cl_ba_6, Ar_ba_6, q_ba_6, S_ba_6, N_ba_6, H_ba_6, G_ba_6⟩ := id V_ba_3
  have hin_ba_6 : ¬ ((1 : Int32) < 0 ∨ cl_ba_6.slots.size ≤ ((1 : Int32)).toNatClampNeg) := inb_of S_ba_6 ⟨by decide, by decide⟩
  obtain ⟨T6, h6, X6, e6, W6, st6⟩ := stB X4 hx hZ e4 Ar_ba_6 (j := (1 : Int32)) hin_ba_6 (g := (mkF m 52 #[.val (.ref ba), .val (.int (1 : Int32)), .val (.int p2)] [(.int (((p2 >>> ((8 : Int32) &&& 31))).toInt8.toInt32)), (.int (1 : Int32)), (.ref ba)])) rfl rfl (hb hby D22_52.1)
  have V_ba_6 : Arv Z h6 ba kb .byte (2 : Int32) [(.int (nar .byte (((p2 >>> ((0 : Int32) &&& 31))).toInt8.toInt32))), (.int (nar .byte (((p2 >>> ((8 : Int32) &&& 31))).toInt8.toInt32)))] (.int (0 : Int32)) := Arv.set Ar_ba_6 q_ba_6 S_ba_6 N_ba_6 H_ba_6 G_ba_6 (fits_nar_byte _) W6 1 rfl (Nat.le_of_ble_eq_true rfl)
  have sz6 := own_leN (Keep.of_wr W6).1
  have N6 := Fr.snoc X6 N3 gn_ba
  refine own_pre (A' := T6.setTop (mkF m 53 #[.val (.ref ba), .val (.int (1 : Int32)), .val (.int p2)] [])) st6 ?_
  have KK : Keep h0 h6 [ba] := (((Keep.refl h0 [ba]).wr W3 (Or.inl (by simp))).wr W6 (Or.inl (by simp)))
  have VV : Arv Z h6 ba kb .byte (2 : Int32) [(.int (own_lo p2)), (.int (own_hi p2))] (.int (0 : Int32)) := V_ba_6
  exact own_ret (v := none) X6 (fun h => by first | rfl | (rw [Bd.returns] at h; cases h)) (BodyLoose.notSynchronized Bd) (by decide) (by decide) (by rw [e6]; exact ⟨rfl, N6, KK, VV⟩) (fun fs hr => X6.returnOut hx Bd.returns (hb hby D22_53.1) hr)
theorem D23_0 : own_at jdk_52_method_5_code 0 (.getstatic 44) 3 3 := ⟨by decide +kernel, rfl⟩
theorem D23_3 : own_at jdk_52_method_5_code 3 (.ifCond .ne 25) 3 6 := ⟨by decide +kernel, rfl⟩
theorem D23_28 : own_at jdk_52_method_5_code 28 (.iload_n 1) 1 29 := ⟨by decide +kernel, rfl⟩
theorem D23_29 : own_at jdk_52_method_5_code 29 (.iconst 1) 1 30 := ⟨by decide +kernel, rfl⟩
theorem D23_30 : own_at jdk_52_method_5_code 30 (.ishl) 1 31 := ⟨by decide +kernel, rfl⟩
theorem D23_31 : own_at jdk_52_method_5_code 31 (.istore_n 1) 1 32 := ⟨by decide +kernel, rfl⟩
theorem D23_32 : own_at jdk_52_method_5_code 32 (.aload_n 0) 1 33 := ⟨by decide +kernel, rfl⟩
theorem D23_33 : own_at jdk_52_method_5_code 33 (.iload_n 1) 1 34 := ⟨by decide +kernel, rfl⟩
theorem D23_34 : own_at jdk_52_method_5_code 34 (.iinc 1 1) 3 37 := ⟨by decide +kernel, rfl⟩
theorem D23_37 : own_at jdk_52_method_5_code 37 (.baload) 1 38 := ⟨by decide +kernel, rfl⟩
theorem D23_38 : own_at jdk_52_method_5_code 38 (.sipush 255) 3 41 := ⟨by decide +kernel, rfl⟩
theorem D23_41 : own_at jdk_52_method_5_code 41 (.iand) 1 42 := ⟨by decide +kernel, rfl⟩
theorem D23_42 : own_at jdk_52_method_5_code 42 (.getstatic 59) 3 45 := ⟨by decide +kernel, rfl⟩
theorem D23_45 : own_at jdk_52_method_5_code 45 (.ishl) 1 46 := ⟨by decide +kernel, rfl⟩
theorem D23_46 : own_at jdk_52_method_5_code 46 (.aload_n 0) 1 47 := ⟨by decide +kernel, rfl⟩
theorem D23_47 : own_at jdk_52_method_5_code 47 (.iload_n 1) 1 48 := ⟨by decide +kernel, rfl⟩
theorem D23_48 : own_at jdk_52_method_5_code 48 (.baload) 1 49 := ⟨by decide +kernel, rfl⟩
theorem D23_49 : own_at jdk_52_method_5_code 49 (.sipush 255) 3 52 := ⟨by decide +kernel, rfl⟩
theorem D23_52 : own_at jdk_52_method_5_code 52 (.iand) 1 53 := ⟨by decide +kernel, rfl⟩
theorem D23_53 : own_at jdk_52_method_5_code 53 (.getstatic 63) 3 56 := ⟨by decide +kernel, rfl⟩
theorem D23_56 : own_at jdk_52_method_5_code 56 (.ishl) 1 57 := ⟨by decide +kernel, rfl⟩
theorem D23_57 : own_at jdk_52_method_5_code 57 (.ior) 1 58 := ⟨by decide +kernel, rfl⟩
theorem D23_58 : own_at jdk_52_method_5_code 58 (.i2c) 1 59 := ⟨by decide +kernel, rfl⟩
theorem D23_59 : own_at jdk_52_method_5_code 59 (.ireturn) 1 60 := ⟨by decide +kernel, rfl⟩
theorem ef_rs_gc10 (m : MethodId) (ba : Addr) : entryFrame m #[(.ref ba), (.int (0 : Int32))] 2 = mkF m 0 #[.val (.ref ba), .val (.int (0 : Int32))] [] := by first | (simp [entryFrame, mkF, argsToLocals, Value.category]; done) | rfl
set_option maxRecDepth 65536 in
set_option maxHeartbeats 40000000 in
theorem rs_gc10 (l : Launch) (Z : State) (a0 : Array Value) (hw : ∀ d ∈ tables_1, d.before a0 Z = true) (ws : List Jvm.Cond) (ba : Addr) (kb : ClassId) (c0 : Int32) (cs : Int32) (vf : Value) (h0 : Heap) (n0 : Nat) (Z0 : n0 ≤ h0.size) (hST : own_ST Z cs vf) (O0 : Old Z n0 h0) (Vb : Arv Z h0 ba kb .byte (2 : Int32) [(.int (own_lo c0)), (.int (own_hi c0))] (.int (0 : Int32))) (hc : own_ch16 c0) :
    own_Mt l (⟨"java/lang/StringUTF16", "getChar", "([BI)C"⟩ : MethodName) jdk_52_method_5_code 2 (some .char) ({ frames := 0, cells := 0, slots := 0, locals := 0 } : Room) #[(.ref ba), (.int (0 : Int32))] Z h0 (own_QP (.int c0) h0 n0) := by
  refine MetFree.of_bodySF (plainFor_of_name pn_java_lang_StringUTF16) hisR ?_
  intro p e s m args below meth c s₁ Bd hml0 hP hK
  obtain ⟨rfl, hZ, hh⟩ := hP
  have hx := Bd.exec
  have hby := Bd.bytes
  have hml : c.maxLocals = 2 := hml0
  have hown : s.vm.findClass "java/lang/StringUTF16" = some m.cls := findClass_of_methodNamed Bd.named
  have hnm := (name_of_methodNamed Bd.named Bd.method).1
  have X0 : Stand p l e ({ frames := 0, cells := 0, slots := 0, locals := 0 } : Room) s m #[(.ref ba), (.int (0 : Int32))] below meth c s₁ [] 0 0 := Stand.of_body Bd
  have e0 : s₁.heap = h0 := by rw [← hh, Bd.state]; rfl
  have N0 := Fr.nil n0
  refine own_start (ef_rs_gc10 m ba) ?_
  obtain ⟨S_cs, S_ad, S_hb, S_lb, S_sf, hcs, hvf⟩ := hST
  have lt_ba := own_ltN Vb.lt
  obtain ⟨T1, X1, e1, st1⟩ := getS2 X0 hx hZ hown (host := "") (Or.inl (wd hw 96 rfl)) Via.refl e0 (S_ad.ext O0.2) (g := (mkF m 0 #[.val (.ref ba), .val (.int (0 : Int32))] [])) rfl (hb hby D23_0.1)
  refine own_pre (A' := T1.setTop (mkF m 3 #[.val (.ref ba), .val (.int (0 : Int32))] [(.int (1 : Int32))])) st1 ?_
  refine o_ifY X1 hx hby D23_3 ((if0 _ _).trans (feq (by decide : ¬ ((1 : Int32) = (0 : Int32)))).2) (q := 28) (by decide) (by decide) ?_
  refine o_iloadN X1 hx hby D23_28 rfl ?_
  refine o_iconst X1 hx hby D23_29 (v := 1) rfl ?_
  refine o_ishl X1 hx hby D23_30 ?_
  rw [(by decide : ((0 : Int32) <<< ((1 : Int32) &&& 31)) = (0 : Int32))]
  refine o_istoreN X1 hx hby D23_31 (l' := #[.val (.ref ba), .val (.int (0 : Int32))]) rfl ?_
  refine o_aloadN X1 hx hby D23_32 rfl rfl ?_
  refine o_iloadN X1 hx hby D23_33 rfl ?_
  refine o_iinc X1 hx hby D23_34 rfl (l' := #[.val (.ref ba), .val (.int ((0 : Int32) + (1 : Int32)))]) rfl ?_
  rw [(by decide : ((0 : Int32) + (1 : Int32)) = (1 : Int32))]
  obtain ⟨cl_ba_2, Ar_ba_2, q_ba_2, S_ba_2, N_ba_2, H_ba_2, G_ba_2⟩ := id Vb
  have hin_ba_2 : ¬ ((0 : Int32) < 0 ∨ cl_ba_2.slots.size ≤ ((0 : Int32)).toNatClampNeg) := inb_of S_ba_2 ⟨by decide, by decide⟩
  have hat_ba_2 : cl_ba_2.slots[((0 : Int32)).toNatClampNeg]? = some (.int (own_lo c0)) := H_ba_2.at hin_ba_2 (rfl)
  refine own_pre (A' := T1.setTop (mkF m 38 #[.val (.ref ba), .val (.int (1 : Int32))] [(.int (own_lo c0))])) (fun t k => X1.baloadBytes hx (j := (0 : Int32)) (v := (.int (own_lo c0))) (by rw [e1]; exact Ar_ba_2.1) (State.isArrayOf_alike hZ.alike Ar_ba_2.2.1) Ar_ba_2.2.2 hin_ba_2 hat_ba_2 (g := (mkF m 37 #[.val (.ref ba), .val (.int (1 : Int32))] [(.int (0 : Int32)), (.ref ba)])) rfl rfl (hb hby D23_37.1) _ k) ?_
  refine o_sipush X1 hx hby D23_38 (v := 255) rfl ?_
  refine o_iand X1 hx hby D23_41 ?_
  obtain ⟨T3, X3, e3, st3⟩ := getS2 X1 hx hZ hown (host := "") (Or.inl (wd hw 97 rfl)) Via.refl e1 (S_hb.ext O0.2) (g := (mkF m 42 #[.val (.ref ba), .val (.int (1 : Int32))] [(.int ((own_lo c0) &&& (255 : Int32)))])) rfl (hb hby D23_42.1)
  refine own_pre (A' := T3.setTop (mkF m 45 #[.val (.ref ba), .val (.int (1 : Int32))] [(.int (0 : Int32)), (.int ((own_lo c0) &&& (255 : Int32)))])) st3 ?_
  refine o_ishl X3 hx hby D23_45 ?_
  refine o_aloadN X3 hx hby D23_46 rfl rfl ?_
  refine o_iloadN X3 hx hby D23_47 rfl ?_
  obtain ⟨cl_ba_4, Ar_ba_4, q_ba_4, S_ba_4, N_ba_4, H_ba_4, G_ba_4⟩ := id Vb
  have hin_ba_4 : ¬ ((1 : Int32) < 0 ∨ cl_ba_4.slots.size ≤ ((1 : Int32)).toNatClampNeg) := inb_of S_ba_4 ⟨by decide, by decide⟩
  have hat_ba_4 : cl_ba_4.slots[((1 : Int32)).toNatClampNeg]? = some (.int (own_hi c0)) := H_ba_4.at hin_ba_4 (rfl)
  refine own_pre (A' := T3.setTop (mkF m 49 #[.val (.ref ba), .val (.int (1 : Int32))] [(.int (own_hi c0)), (.int (((own_lo c0) &&& (255 : Int32)) <<< ((0 : Int32) &&& 31)))])) (fun t k => X3.baloadBytes hx (j := (1 : Int32)) (v := (.int (own_hi c0))) (by rw [e3]; exact Ar_ba_4.1) (State.isArrayOf_alike hZ.alike Ar_ba_4.2.1) Ar_ba_4.2.2 hin_ba_4 hat_ba_4 (g := (mkF m 48 #[.val (.ref ba), .val (.int (1 : Int32))] [(.int (1 : Int32)), (.ref ba), (.int (((own_lo c0) &&& (255 : Int32)) <<< ((0 : Int32) &&& 31)))])) rfl rfl (hb hby D23_48.1) _ k) ?_
  refine o_sipush X3 hx hby D23_49 (v := 255) rfl ?_
  refine o_iand X3 hx hby D23_52 ?_
  obtain ⟨T5, X5, e5, st5⟩ := getS2 X3 hx hZ hown (host := "") (Or.inl (wd hw 98 rfl)) Via.refl e3 (S_lb.ext O0.2) (g := (mkF m 53 #[.val (.ref ba), .val (.int (1 : Int32))] [(.int ((own_hi c0) &&& (255 : Int32))), (.int (((own_lo c0) &&& (255 : Int32)) <<< ((0 : Int32) &&& 31)))])) rfl (hb hby D23_53.1)
  refine own_pre (A' := T5.setTop (mkF m 56 #[.val (.ref ba), .val (.int (1 : Int32))] [(.int (8 : Int32)), (.int ((own_hi c0) &&& (255 : Int32))), (.int (((own_lo c0) &&& (255 : Int32)) <<< ((0 : Int32) &&& 31)))])) st5 ?_
  refine o_ishl X5 hx hby D23_56 ?_
  refine o_ior X5 hx hby D23_57 ?_
  refine o_i2c X5 hx hby D23_58 ?_
  exact own_ret (v := some (.int (own_gc c0))) X5 (fun h => by first | rfl | (rw [Bd.returns] at h; cases h)) (BodyLoose.notSynchronized Bd) (by decide) (by decide) (⟨by rw [own_gcEq hc], N0, e5⟩) (fun fs hr => retN X5 hx (t := .char) Bd.returns (by simp) (hb hby D23_59.1) hr)
def own_QPc20 (Z : State) (ba : Addr) (kb : ClassId) (p2 : Int32) (x0 x1 x2 x3 : Value) (h0 : Heap) (n0 : Nat) (v : Option Value) (h : Heap) (L : List Loc) : Prop := v = none ∧ Fr n0 L ∧ Keep h0 h [ba] ∧ Arv Z h ba kb .byte (4 : Int32) [(.int (own_lo p2)), (.int (own_hi p2)), x2, x3] (.int (0 : Int32))
theorem ef_rs_pc20 (m : MethodId) (ba : Addr) (p2 : Int32) : entryFrame m #[(.ref ba), (.int (0 : Int32)), (.int p2)] 3 = mkF m 0 #[.val (.ref ba), .val (.int (0 : Int32)), .val (.int p2)] [] := by first | (simp [entryFrame, mkF, argsToLocals, Value.category]; done) | rfl
set_option maxRecDepth 65536 in
set_option maxHeartbeats 40000000 in
theorem rs_pc20 (l : Launch) (Z : State) (a0 : Array Value) (hw : ∀ d ∈ tables_1, d.before a0 Z = true) (ws : List Jvm.Cond) (ba : Addr) (p2 : Int32) (kb : ClassId) (x0 x1 x2 x3 : Value) (cs : Int32) (vf : Value) (h0 : Heap) (n0 : Nat) (Z0 : n0 ≤ h0.size) (hST : own_ST Z cs vf) (O0 : Old Z n0 h0) (gn_ba : n0 ≤ ba) (Vb : Arv Z h0 ba kb .byte (4 : Int32) [x0, x1, x2, x3] (.int (0 : Int32))) :
    own_Mt l (⟨"java/lang/StringUTF16", "putChar", "([BII)V"⟩ : MethodName) jdk_52_method_4_code 3 none ({ frames := 0, cells := 0, slots := 0, locals := 0 } : Room) #[(.ref ba), (.int (0 : Int32)), (.int p2)] Z h0 (own_QPc20 Z ba kb p2 x0 x1 x2 x3 h0 n0) := by
  refine MetFree.of_bodySF (plainFor_of_name pn_java_lang_StringUTF16) hisR ?_
  intro p e s m args below meth c s₁ Bd hml0 hP hK
  obtain ⟨rfl, hZ, hh⟩ := hP
  have hx := Bd.exec
  have hby := Bd.bytes
  have hml : c.maxLocals = 3 := hml0
  have hown : s.vm.findClass "java/lang/StringUTF16" = some m.cls := findClass_of_methodNamed Bd.named
  have hnm := (name_of_methodNamed Bd.named Bd.method).1
  have X0 : Stand p l e ({ frames := 0, cells := 0, slots := 0, locals := 0 } : Room) s m #[(.ref ba), (.int (0 : Int32)), (.int p2)] below meth c s₁ [] 0 0 := Stand.of_body Bd
  have e0 : s₁.heap = h0 := by rw [← hh, Bd.state]; rfl
  have N0 := Fr.nil n0
  refine own_start (ef_rs_pc20 m ba p2) ?_
  obtain ⟨S_cs, S_ad, S_hb, S_lb, S_sf, hcs, hvf⟩ := hST
  have lt_ba := own_ltN Vb.lt
  obtain ⟨T1, X1, e1, st1⟩ := getS2 X0 hx hZ hown (host := "") (Or.inl (wd hw 96 rfl)) Via.refl e0 (S_ad.ext O0.2) (g := (mkF m 0 #[.val (.ref ba), .val (.int (0 : Int32)), .val (.int p2)] [])) rfl (hb hby D22_0.1)
  refine own_pre (A' := T1.setTop (mkF m 3 #[.val (.ref ba), .val (.int (0 : Int32)), .val (.int p2)] [(.int (1 : Int32))])) st1 ?_
  refine o_ifY X1 hx hby D22_3 ((if0 _ _).trans (feq (by decide : ¬ ((1 : Int32) = (0 : Int32)))).2) (q := 28) (by decide) (by decide) ?_
  refine o_iloadN X1 hx hby D22_28 rfl ?_
  refine o_iconst X1 hx hby D22_29 (v := 1) rfl ?_
  refine o_ishl X1 hx hby D22_30 ?_
  rw [(by decide : ((0 : Int32) <<< ((1 : Int32) &&& 31)) = (0 : Int32))]
  refine o_istoreN X1 hx hby D22_31 (l' := #[.val (.ref ba), .val (.int (0 : Int32)), .val (.int p2)]) rfl ?_
  refine o_aloadN X1 hx hby D22_32 rfl rfl ?_
  refine o_iloadN X1 hx hby D22_33 rfl ?_
  refine o_iinc X1 hx hby D22_34 rfl (l' := #[.val (.ref ba), .val (.int ((0 : Int32) + (1 : Int32))), .val (.int p2)]) rfl ?_
  rw [(by decide : ((0 : Int32) + (1 : Int32)) = (1 : Int32))]
  refine o_iloadN X1 hx hby D22_37 rfl ?_
  obtain ⟨T2, X2, e2, st2⟩ := getS2 X1 hx hZ hown (host := "") (Or.inl (wd hw 97 rfl)) Via.refl e1 (S_hb.ext O0.2) (g := (mkF m 38 #[.val (.ref ba), .val (.int (1 : Int32)), .val (.int p2)] [(.int p2), (.int (0 : Int32)), (.ref ba)])) rfl (hb hby D22_38.1)
  refine own_pre (A' := T2.setTop (mkF m 41 #[.val (.ref ba), .val (.int (1 : Int32)), .val (.int p2)] [(.int (0 : Int32)), (.int p2), (.int (0 : Int32)), (.ref ba)])) st2 ?_
  refine o_ishr X2 hx hby D22_41 ?_
  refine o_i2b X2 hx hby D22_42 ?_
  obtain ⟨cl_ba_3, Ar_ba_3, q_ba_3, S_ba_3, N_ba_3, H_ba_3, G_ba_3⟩ := id Vb
  have hin_ba_3 : ¬ ((0 : Int32) < 0 ∨ cl_ba_3.slots.size ≤ ((0 : Int32)).toNatClampNeg) := inb_of S_ba_3 ⟨by decide, by decide⟩
  obtain ⟨T3, h3, X3, e3, W3, st3⟩ := stB X2 hx hZ e2 Ar_ba_3 (j := (0 : Int32)) hin_ba_3 (g := (mkF m 43 #[.val (.ref ba), .val (.int (1 : Int32)), .val (.int p2)] [(.int (((p2 >>> ((0 : Int32) &&& 31))).toInt8.toInt32)), (.int (0 : Int32)), (.ref ba)])) rfl rfl (hb hby D22_43.1)
  have V_ba_3 : Arv Z h3 ba kb .byte (4 : Int32) [(.int (nar .byte (((p2 >>> ((0 : Int32) &&& 31))).toInt8.toInt32))), x1, x2, x3] (.int (0 : Int32)) := Arv.set Ar_ba_3 q_ba_3 S_ba_3 N_ba_3 H_ba_3 G_ba_3 (fits_nar_byte _) W3 0 rfl (Nat.le_of_ble_eq_true rfl)
  have sz3 := own_leN (Keep.of_wr W3).1
  have N3 := Fr.snoc X3 N0 gn_ba
  refine own_pre (A' := T3.setTop (mkF m 44 #[.val (.ref ba), .val (.int (1 : Int32)), .val (.int p2)] [])) st3 ?_
  refine o_aloadN X3 hx hby D22_44 rfl rfl ?_
  refine o_iloadN X3 hx hby D22_45 rfl ?_
  refine o_iloadN X3 hx hby D22_46 rfl ?_
  have c5_O := (O0.wr W3 gn_ba)
  obtain ⟨T4, X4, e4, st4⟩ := getS2 X3 hx hZ hown (host := "") (Or.inl (wd hw 98 rfl)) Via.refl e3 (S_lb.ext c5_O.2) (g := (mkF m 47 #[.val (.ref ba), .val (.int (1 : Int32)), .val (.int p2)] [(.int p2), (.int (1 : Int32)), (.ref ba)])) rfl (hb hby D22_47.1)
  refine own_pre (A' := T4.setTop (mkF m 50 #[.val (.ref ba), .val (.int (1 : Int32)), .val (.int p2)] [(.int (8 : Int32)), (.int p2), (.int (1 : Int32)), (.ref ba)])) st4 ?_
  refine o_ishr X4 hx hby D22_50 ?_
  refine o_i2b X4 hx hby D22_51 ?_
  obtain ⟨cl_ba_6, Ar_ba_6, q_ba_6, S_ba_6, N_ba_6, H_ba_6, G_ba_6⟩ := id V_ba_3
  have hin_ba_6 : ¬ ((1 : Int32) < 0 ∨ cl_ba_6.slots.size ≤ ((1 : Int32)).toNatClampNeg) := inb_of S_ba_6 ⟨by decide, by decide⟩
  obtain ⟨T6, h6, X6, e6, W6, st6⟩ := stB X4 hx hZ e4 Ar_ba_6 (j := (1 : Int32)) hin_ba_6 (g := (mkF m 52 #[.val (.ref ba), .val (.int (1 : Int32)), .val (.int p2)] [(.int (((p2 >>> ((8 : Int32) &&& 31))).toInt8.toInt32)), (.int (1 : Int32)), (.ref ba)])) rfl rfl (hb hby D22_52.1)
  have V_ba_6 : Arv Z h6 ba kb .byte (4 : Int32) [(.int (nar .byte (((p2 >>> ((0 : Int32) &&& 31))).toInt8.toInt32))), (.int (nar .byte (((p2 >>> ((8 : Int32) &&& 31))).toInt8.toInt32))), x2, x3] (.int (0 : Int32)) := Arv.set Ar_ba_6 q_ba_6 S_ba_6 N_ba_6 H_ba_6 G_ba_6 (fits_nar_byte _) W6 1 rfl (Nat.le_of_ble_eq_true rfl)
  have sz6 := own_leN (Keep.of_wr W6).1
  have N6 := Fr.snoc X6 N3 gn_ba
  refine own_pre (A' := T6.setTop (mkF m 53 #[.val (.ref ba), .val (.int (1 : Int32)), .val (.int p2)] [])) st6 ?_
  have KK : Keep h0 h6 [ba] := (((Keep.refl h0 [ba]).wr W3 (Or.inl (by simp))).wr W6 (Or.inl (by simp)))
  have VV : Arv Z h6 ba kb .byte (4 : Int32) [(.int (own_lo p2)), (.int (own_hi p2)), x2, x3] (.int (0 : Int32)) := V_ba_6
  exact own_ret (v := none) X6 (fun h => by first | rfl | (rw [Bd.returns] at h; cases h)) (BodyLoose.notSynchronized Bd) (by decide) (by decide) (by rw [e6]; exact ⟨rfl, N6, KK, VV⟩) (fun fs hr => X6.returnOut hx Bd.returns (hb hby D22_53.1) hr)
theorem ef_rs_gc20 (m : MethodId) (ba : Addr) : entryFrame m #[(.ref ba), (.int (0 : Int32))] 2 = mkF m 0 #[.val (.ref ba), .val (.int (0 : Int32))] [] := by first | (simp [entryFrame, mkF, argsToLocals, Value.category]; done) | rfl
set_option maxRecDepth 65536 in
set_option maxHeartbeats 40000000 in
theorem rs_gc20 (l : Launch) (Z : State) (a0 : Array Value) (hw : ∀ d ∈ tables_1, d.before a0 Z = true) (ws : List Jvm.Cond) (ba : Addr) (kb : ClassId) (c0 c1 : Int32) (cs : Int32) (vf : Value) (h0 : Heap) (n0 : Nat) (Z0 : n0 ≤ h0.size) (hST : own_ST Z cs vf) (O0 : Old Z n0 h0) (Vb : Arv Z h0 ba kb .byte (4 : Int32) [(.int (own_lo c0)), (.int (own_hi c0)), (.int (own_lo c1)), (.int (own_hi c1))] (.int (0 : Int32))) (hc : own_ch16 c0) :
    own_Mt l (⟨"java/lang/StringUTF16", "getChar", "([BI)C"⟩ : MethodName) jdk_52_method_5_code 2 (some .char) ({ frames := 0, cells := 0, slots := 0, locals := 0 } : Room) #[(.ref ba), (.int (0 : Int32))] Z h0 (own_QP (.int c0) h0 n0) := by
  refine MetFree.of_bodySF (plainFor_of_name pn_java_lang_StringUTF16) hisR ?_
  intro p e s m args below meth c s₁ Bd hml0 hP hK
  obtain ⟨rfl, hZ, hh⟩ := hP
  have hx := Bd.exec
  have hby := Bd.bytes
  have hml : c.maxLocals = 2 := hml0
  have hown : s.vm.findClass "java/lang/StringUTF16" = some m.cls := findClass_of_methodNamed Bd.named
  have hnm := (name_of_methodNamed Bd.named Bd.method).1
  have X0 : Stand p l e ({ frames := 0, cells := 0, slots := 0, locals := 0 } : Room) s m #[(.ref ba), (.int (0 : Int32))] below meth c s₁ [] 0 0 := Stand.of_body Bd
  have e0 : s₁.heap = h0 := by rw [← hh, Bd.state]; rfl
  have N0 := Fr.nil n0
  refine own_start (ef_rs_gc20 m ba) ?_
  obtain ⟨S_cs, S_ad, S_hb, S_lb, S_sf, hcs, hvf⟩ := hST
  have lt_ba := own_ltN Vb.lt
  obtain ⟨T1, X1, e1, st1⟩ := getS2 X0 hx hZ hown (host := "") (Or.inl (wd hw 96 rfl)) Via.refl e0 (S_ad.ext O0.2) (g := (mkF m 0 #[.val (.ref ba), .val (.int (0 : Int32))] [])) rfl (hb hby D23_0.1)
  refine own_pre (A' := T1.setTop (mkF m 3 #[.val (.ref ba), .val (.int (0 : Int32))] [(.int (1 : Int32))])) st1 ?_
  refine o_ifY X1 hx hby D23_3 ((if0 _ _).trans (feq (by decide : ¬ ((1 : Int32) = (0 : Int32)))).2) (q := 28) (by decide) (by decide) ?_
  refine o_iloadN X1 hx hby D23_28 rfl ?_
  refine o_iconst X1 hx hby D23_29 (v := 1) rfl ?_
  refine o_ishl X1 hx hby D23_30 ?_
  rw [(by decide : ((0 : Int32) <<< ((1 : Int32) &&& 31)) = (0 : Int32))]
  refine o_istoreN X1 hx hby D23_31 (l' := #[.val (.ref ba), .val (.int (0 : Int32))]) rfl ?_
  refine o_aloadN X1 hx hby D23_32 rfl rfl ?_
  refine o_iloadN X1 hx hby D23_33 rfl ?_
  refine o_iinc X1 hx hby D23_34 rfl (l' := #[.val (.ref ba), .val (.int ((0 : Int32) + (1 : Int32)))]) rfl ?_
  rw [(by decide : ((0 : Int32) + (1 : Int32)) = (1 : Int32))]
  obtain ⟨cl_ba_2, Ar_ba_2, q_ba_2, S_ba_2, N_ba_2, H_ba_2, G_ba_2⟩ := id Vb
  have hin_ba_2 : ¬ ((0 : Int32) < 0 ∨ cl_ba_2.slots.size ≤ ((0 : Int32)).toNatClampNeg) := inb_of S_ba_2 ⟨by decide, by decide⟩
  have hat_ba_2 : cl_ba_2.slots[((0 : Int32)).toNatClampNeg]? = some (.int (own_lo c0)) := H_ba_2.at hin_ba_2 (rfl)
  refine own_pre (A' := T1.setTop (mkF m 38 #[.val (.ref ba), .val (.int (1 : Int32))] [(.int (own_lo c0))])) (fun t k => X1.baloadBytes hx (j := (0 : Int32)) (v := (.int (own_lo c0))) (by rw [e1]; exact Ar_ba_2.1) (State.isArrayOf_alike hZ.alike Ar_ba_2.2.1) Ar_ba_2.2.2 hin_ba_2 hat_ba_2 (g := (mkF m 37 #[.val (.ref ba), .val (.int (1 : Int32))] [(.int (0 : Int32)), (.ref ba)])) rfl rfl (hb hby D23_37.1) _ k) ?_
  refine o_sipush X1 hx hby D23_38 (v := 255) rfl ?_
  refine o_iand X1 hx hby D23_41 ?_
  obtain ⟨T3, X3, e3, st3⟩ := getS2 X1 hx hZ hown (host := "") (Or.inl (wd hw 97 rfl)) Via.refl e1 (S_hb.ext O0.2) (g := (mkF m 42 #[.val (.ref ba), .val (.int (1 : Int32))] [(.int ((own_lo c0) &&& (255 : Int32)))])) rfl (hb hby D23_42.1)
  refine own_pre (A' := T3.setTop (mkF m 45 #[.val (.ref ba), .val (.int (1 : Int32))] [(.int (0 : Int32)), (.int ((own_lo c0) &&& (255 : Int32)))])) st3 ?_
  refine o_ishl X3 hx hby D23_45 ?_
  refine o_aloadN X3 hx hby D23_46 rfl rfl ?_
  refine o_iloadN X3 hx hby D23_47 rfl ?_
  obtain ⟨cl_ba_4, Ar_ba_4, q_ba_4, S_ba_4, N_ba_4, H_ba_4, G_ba_4⟩ := id Vb
  have hin_ba_4 : ¬ ((1 : Int32) < 0 ∨ cl_ba_4.slots.size ≤ ((1 : Int32)).toNatClampNeg) := inb_of S_ba_4 ⟨by decide, by decide⟩
  have hat_ba_4 : cl_ba_4.slots[((1 : Int32)).toNatClampNeg]? = some (.int (own_hi c0)) := H_ba_4.at hin_ba_4 (rfl)
  refine own_pre (A' := T3.setTop (mkF m 49 #[.val (.ref ba), .val (.int (1 : Int32))] [(.int (own_hi c0)), (.int (((own_lo c0) &&& (255 : Int32)) <<< ((0 : Int32) &&& 31)))])) (fun t k => X3.baloadBytes hx (j := (1 : Int32)) (v := (.int (own_hi c0))) (by rw [e3]; exact Ar_ba_4.1) (State.isArrayOf_alike hZ.alike Ar_ba_4.2.1) Ar_ba_4.2.2 hin_ba_4 hat_ba_4 (g := (mkF m 48 #[.val (.ref ba), .val (.int (1 : Int32))] [(.int (1 : Int32)), (.ref ba), (.int (((own_lo c0) &&& (255 : Int32)) <<< ((0 : Int32) &&& 31)))])) rfl rfl (hb hby D23_48.1) _ k) ?_
  refine o_sipush X3 hx hby D23_49 (v := 255) rfl ?_
  refine o_iand X3 hx hby D23_52 ?_
  obtain ⟨T5, X5, e5, st5⟩ := getS2 X3 hx hZ hown (host := "") (Or.inl (wd hw 98 rfl)) Via.refl e3 (S_lb.ext O0.2) (g := (mkF m 53 #[.val (.ref ba), .val (.int (1 : Int32))] [(.int ((own_hi c0) &&& (255 : Int32))), (.int (((own_lo c0) &&& (255 : Int32)) <<< ((0 : Int32) &&& 31)))])) rfl (hb hby D23_53.1)
  refine own_pre (A' := T5.setTop (mkF m 56 #[.val (.ref ba), .val (.int (1 : Int32))] [(.int (8 : Int32)), (.int ((own_hi c0) &&& (255 : Int32))), (.int (((own_lo c0) &&& (255 : Int32)) <<< ((0 : Int32) &&& 31)))])) st5 ?_
  refine o_ishl X5 hx hby D23_56 ?_
  refine o_ior X5 hx hby D23_57 ?_
  refine o_i2c X5 hx hby D23_58 ?_
  exact own_ret (v := some (.int (own_gc c0))) X5 (fun h => by first | rfl | (rw [Bd.returns] at h; cases h)) (BodyLoose.notSynchronized Bd) (by decide) (by decide) (⟨by rw [own_gcEq hc], N0, e5⟩) (fun fs hr => retN X5 hx (t := .char) Bd.returns (by simp) (hb hby D23_59.1) hr)
def own_QPc21 (Z : State) (ba : Addr) (kb : ClassId) (p2 : Int32) (x0 x1 x2 x3 : Value) (h0 : Heap) (n0 : Nat) (v : Option Value) (h : Heap) (L : List Loc) : Prop := v = none ∧ Fr n0 L ∧ Keep h0 h [ba] ∧ Arv Z h ba kb .byte (4 : Int32) [x0, x1, (.int (own_lo p2)), (.int (own_hi p2))] (.int (0 : Int32))
theorem ef_rs_pc21 (m : MethodId) (ba : Addr) (p2 : Int32) : entryFrame m #[(.ref ba), (.int (1 : Int32)), (.int p2)] 3 = mkF m 0 #[.val (.ref ba), .val (.int (1 : Int32)), .val (.int p2)] [] := by first | (simp [entryFrame, mkF, argsToLocals, Value.category]; done) | rfl
set_option maxRecDepth 65536 in
set_option maxHeartbeats 40000000 in
theorem rs_pc21 (l : Launch) (Z : State) (a0 : Array Value) (hw : ∀ d ∈ tables_1, d.before a0 Z = true) (ws : List Jvm.Cond) (ba : Addr) (p2 : Int32) (kb : ClassId) (x0 x1 x2 x3 : Value) (cs : Int32) (vf : Value) (h0 : Heap) (n0 : Nat) (Z0 : n0 ≤ h0.size) (hST : own_ST Z cs vf) (O0 : Old Z n0 h0) (gn_ba : n0 ≤ ba) (Vb : Arv Z h0 ba kb .byte (4 : Int32) [x0, x1, x2, x3] (.int (0 : Int32))) :
    own_Mt l (⟨"java/lang/StringUTF16", "putChar", "([BII)V"⟩ : MethodName) jdk_52_method_4_code 3 none ({ frames := 0, cells := 0, slots := 0, locals := 0 } : Room) #[(.ref ba), (.int (1 : Int32)), (.int p2)] Z h0 (own_QPc21 Z ba kb p2 x0 x1 x2 x3 h0 n0) := by
  refine MetFree.of_bodySF (plainFor_of_name pn_java_lang_StringUTF16) hisR ?_
  intro p e s m args below meth c s₁ Bd hml0 hP hK
  obtain ⟨rfl, hZ, hh⟩ := hP
  have hx := Bd.exec
  have hby := Bd.bytes
  have hml : c.maxLocals = 3 := hml0
  have hown : s.vm.findClass "java/lang/StringUTF16" = some m.cls := findClass_of_methodNamed Bd.named
  have hnm := (name_of_methodNamed Bd.named Bd.method).1
  have X0 : Stand p l e ({ frames := 0, cells := 0, slots := 0, locals := 0 } : Room) s m #[(.ref ba), (.int (1 : Int32)), (.int p2)] below meth c s₁ [] 0 0 := Stand.of_body Bd
  have e0 : s₁.heap = h0 := by rw [← hh, Bd.state]; rfl
  have N0 := Fr.nil n0
  refine own_start (ef_rs_pc21 m ba p2) ?_
  obtain ⟨S_cs, S_ad, S_hb, S_lb, S_sf, hcs, hvf⟩ := hST
  have lt_ba := own_ltN Vb.lt
  obtain ⟨T1, X1, e1, st1⟩ := getS2 X0 hx hZ hown (host := "") (Or.inl (wd hw 96 rfl)) Via.refl e0 (S_ad.ext O0.2) (g := (mkF m 0 #[.val (.ref ba), .val (.int (1 : Int32)), .val (.int p2)] [])) rfl (hb hby D22_0.1)
  refine own_pre (A' := T1.setTop (mkF m 3 #[.val (.ref ba), .val (.int (1 : Int32)), .val (.int p2)] [(.int (1 : Int32))])) st1 ?_
  refine o_ifY X1 hx hby D22_3 ((if0 _ _).trans (feq (by decide : ¬ ((1 : Int32) = (0 : Int32)))).2) (q := 28) (by decide) (by decide) ?_
  refine o_iloadN X1 hx hby D22_28 rfl ?_
  refine o_iconst X1 hx hby D22_29 (v := 1) rfl ?_
  refine o_ishl X1 hx hby D22_30 ?_
  rw [(by decide : ((1 : Int32) <<< ((1 : Int32) &&& 31)) = (2 : Int32))]
  refine o_istoreN X1 hx hby D22_31 (l' := #[.val (.ref ba), .val (.int (2 : Int32)), .val (.int p2)]) rfl ?_
  refine o_aloadN X1 hx hby D22_32 rfl rfl ?_
  refine o_iloadN X1 hx hby D22_33 rfl ?_
  refine o_iinc X1 hx hby D22_34 rfl (l' := #[.val (.ref ba), .val (.int ((2 : Int32) + (1 : Int32))), .val (.int p2)]) rfl ?_
  rw [(by decide : ((2 : Int32) + (1 : Int32)) = (3 : Int32))]
  refine o_iloadN X1 hx hby D22_37 rfl ?_
  obtain ⟨T2, X2, e2, st2⟩ := getS2 X1 hx hZ hown (host := "") (Or.inl (wd hw 97 rfl)) Via.refl e1 (S_hb.ext O0.2) (g := (mkF m 38 #[.val (.ref ba), .val (.int (3 : Int32)), .val (.int p2)] [(.int p2), (.int (2 : Int32)), (.ref ba)])) rfl (hb hby D22_38.1)
  refine own_pre (A' := T2.setTop (mkF m 41 #[.val (.ref ba), .val (.int (3 : Int32)), .val (.int p2)] [(.int (0 : Int32)), (.int p2), (.int (2 : Int32)), (.ref ba)])) st2 ?_
  refine o_ishr X2 hx hby D22_41 ?_
  refine o_i2b X2 hx hby D22_42 ?_
  obtain ⟨cl_ba_3, Ar_ba_3, q_ba_3, S_ba_3, N_ba_3, H_ba_3, G_ba_3⟩ := id Vb
  have hin_ba_3 : ¬ ((2 : Int32) < 0 ∨ cl_ba_3.slots.size ≤ ((2 : Int32)).toNatClampNeg) := inb_of S_ba_3 ⟨by decide, by decide⟩
  obtain ⟨T3, h3, X3, e3, W3, st3⟩ := stB X2 hx hZ e2 Ar_ba_3 (j := (2 : Int32)) hin_ba_3 (g := (mkF m 43 #[.val (.ref ba), .val (.int (3 : Int32)), .val (.int p2)] [(.int (((p2 >>> ((0 : Int32) &&& 31))).toInt8.toInt32)), (.int (2 : Int32)), (.ref ba)])) rfl rfl (hb hby D22_43.1)
  have V_ba_3 : Arv Z h3 ba kb .byte (4 : Int32) [x0, x1, (.int (nar .byte (((p2 >>> ((0 : Int32) &&& 31))).toInt8.toInt32))), x3] (.int (0 : Int32)) := Arv.set Ar_ba_3 q_ba_3 S_ba_3 N_ba_3 H_ba_3 G_ba_3 (fits_nar_byte _) W3 2 rfl (Nat.le_of_ble_eq_true rfl)
  have sz3 := own_leN (Keep.of_wr W3).1
  have N3 := Fr.snoc X3 N0 gn_ba
  refine own_pre (A' := T3.setTop (mkF m 44 #[.val (.ref ba), .val (.int (3 : Int32)), .val (.int p2)] [])) st3 ?_
  refine o_aloadN X3 hx hby D22_44 rfl rfl ?_
  refine o_iloadN X3 hx hby D22_45 rfl ?_
  refine o_iloadN X3 hx hby D22_46 rfl ?_
  have c5_O := (O0.wr W3 gn_ba)
  obtain ⟨T4, X4, e4, st4⟩ := getS2 X3 hx hZ hown (host := "") (Or.inl (wd hw 98 rfl)) Via.refl e3 (S_lb.ext c5_O.2) (g := (mkF m 47 #[.val (.ref ba), .val (.int (3 : Int32)), .val (.int p2)] [(.int p2), (.int (3 : Int32)), (.ref ba)])) rfl (hb hby D22_47.1)
  refine own_pre (A' := T4.setTop (mkF m 50 #[.val (.ref ba), .val (.int (3 : Int32)), .val (.int p2)] [(.int (8 : Int32)), (.int p2), (.int (3 : Int32)), (.ref ba)])) st4 ?_
  refine o_ishr X4 hx hby D22_50 ?_
  refine o_i2b X4 hx hby D22_51 ?_
  obtain ⟨cl_ba_6, Ar_ba_6, q_ba_6, S_ba_6, N_ba_6, H_ba_6, G_ba_6⟩ := id V_ba_3
  have hin_ba_6 : ¬ ((3 : Int32) < 0 ∨ cl_ba_6.slots.size ≤ ((3 : Int32)).toNatClampNeg) := inb_of S_ba_6 ⟨by decide, by decide⟩
  obtain ⟨T6, h6, X6, e6, W6, st6⟩ := stB X4 hx hZ e4 Ar_ba_6 (j := (3 : Int32)) hin_ba_6 (g := (mkF m 52 #[.val (.ref ba), .val (.int (3 : Int32)), .val (.int p2)] [(.int (((p2 >>> ((8 : Int32) &&& 31))).toInt8.toInt32)), (.int (3 : Int32)), (.ref ba)])) rfl rfl (hb hby D22_52.1)
  have V_ba_6 : Arv Z h6 ba kb .byte (4 : Int32) [x0, x1, (.int (nar .byte (((p2 >>> ((0 : Int32) &&& 31))).toInt8.toInt32))), (.int (nar .byte (((p2 >>> ((8 : Int32) &&& 31))).toInt8.toInt32)))] (.int (0 : Int32)) := Arv.set Ar_ba_6 q_ba_6 S_ba_6 N_ba_6 H_ba_6 G_ba_6 (fits_nar_byte _) W6 3 rfl (Nat.le_of_ble_eq_true rfl)
  have sz6 := own_leN (Keep.of_wr W6).1
  have N6 := Fr.snoc X6 N3 gn_ba
  refine own_pre (A' := T6.setTop (mkF m 53 #[.val (.ref ba), .val (.int (3 : Int32)), .val (.int p2)] [])) st6 ?_
  have KK : Keep h0 h6 [ba] := (((Keep.refl h0 [ba]).wr W3 (Or.inl (by simp))).wr W6 (Or.inl (by simp)))
  have VV : Arv Z h6 ba kb .byte (4 : Int32) [x0, x1, (.int (own_lo p2)), (.int (own_hi p2))] (.int (0 : Int32)) := V_ba_6
  exact own_ret (v := none) X6 (fun h => by first | rfl | (rw [Bd.returns] at h; cases h)) (BodyLoose.notSynchronized Bd) (by decide) (by decide) (by rw [e6]; exact ⟨rfl, N6, KK, VV⟩) (fun fs hr => X6.returnOut hx Bd.returns (hb hby D22_53.1) hr)
theorem ef_rs_gc21 (m : MethodId) (ba : Addr) : entryFrame m #[(.ref ba), (.int (1 : Int32))] 2 = mkF m 0 #[.val (.ref ba), .val (.int (1 : Int32))] [] := by first | (simp [entryFrame, mkF, argsToLocals, Value.category]; done) | rfl
set_option maxRecDepth 65536 in
set_option maxHeartbeats 40000000 in
theorem rs_gc21 (l : Launch) (Z : State) (a0 : Array Value) (hw : ∀ d ∈ tables_1, d.before a0 Z = true) (ws : List Jvm.Cond) (ba : Addr) (kb : ClassId) (c0 c1 : Int32) (cs : Int32) (vf : Value) (h0 : Heap) (n0 : Nat) (Z0 : n0 ≤ h0.size) (hST : own_ST Z cs vf) (O0 : Old Z n0 h0) (Vb : Arv Z h0 ba kb .byte (4 : Int32) [(.int (own_lo c0)), (.int (own_hi c0)), (.int (own_lo c1)), (.int (own_hi c1))] (.int (0 : Int32))) (hc : own_ch16 c1) :
    own_Mt l (⟨"java/lang/StringUTF16", "getChar", "([BI)C"⟩ : MethodName) jdk_52_method_5_code 2 (some .char) ({ frames := 0, cells := 0, slots := 0, locals := 0 } : Room) #[(.ref ba), (.int (1 : Int32))] Z h0 (own_QP (.int c1) h0 n0) := by
  refine MetFree.of_bodySF (plainFor_of_name pn_java_lang_StringUTF16) hisR ?_
  intro p e s m args below meth c s₁ Bd hml0 hP hK
  obtain ⟨rfl, hZ, hh⟩ := hP
  have hx := Bd.exec
  have hby := Bd.bytes
  have hml : c.maxLocals = 2 := hml0
  have hown : s.vm.findClass "java/lang/StringUTF16" = some m.cls := findClass_of_methodNamed Bd.named
  have hnm := (name_of_methodNamed Bd.named Bd.method).1
  have X0 : Stand p l e ({ frames := 0, cells := 0, slots := 0, locals := 0 } : Room) s m #[(.ref ba), (.int (1 : Int32))] below meth c s₁ [] 0 0 := Stand.of_body Bd
  have e0 : s₁.heap = h0 := by rw [← hh, Bd.state]; rfl
  have N0 := Fr.nil n0
  refine own_start (ef_rs_gc21 m ba) ?_
  obtain ⟨S_cs, S_ad, S_hb, S_lb, S_sf, hcs, hvf⟩ := hST
  have lt_ba := own_ltN Vb.lt
  obtain ⟨T1, X1, e1, st1⟩ := getS2 X0 hx hZ hown (host := "") (Or.inl (wd hw 96 rfl)) Via.refl e0 (S_ad.ext O0.2) (g := (mkF m 0 #[.val (.ref ba), .val (.int (1 : Int32))] [])) rfl (hb hby D23_0.1)
  refine own_pre (A' := T1.setTop (mkF m 3 #[.val (.ref ba), .val (.int (1 : Int32))] [(.int (1 : Int32))])) st1 ?_
  refine o_ifY X1 hx hby D23_3 ((if0 _ _).trans (feq (by decide : ¬ ((1 : Int32) = (0 : Int32)))).2) (q := 28) (by decide) (by decide) ?_
  refine o_iloadN X1 hx hby D23_28 rfl ?_
  refine o_iconst X1 hx hby D23_29 (v := 1) rfl ?_
  refine o_ishl X1 hx hby D23_30 ?_
  rw [(by decide : ((1 : Int32) <<< ((1 : Int32) &&& 31)) = (2 : Int32))]
  refine o_istoreN X1 hx hby D23_31 (l' := #[.val (.ref ba), .val (.int (2 : Int32))]) rfl ?_
  refine o_aloadN X1 hx hby D23_32 rfl rfl ?_
  refine o_iloadN X1 hx hby D23_33 rfl ?_
  refine o_iinc X1 hx hby D23_34 rfl (l' := #[.val (.ref ba), .val (.int ((2 : Int32) + (1 : Int32)))]) rfl ?_
  rw [(by decide : ((2 : Int32) + (1 : Int32)) = (3 : Int32))]
  obtain ⟨cl_ba_2, Ar_ba_2, q_ba_2, S_ba_2, N_ba_2, H_ba_2, G_ba_2⟩ := id Vb
  have hin_ba_2 : ¬ ((2 : Int32) < 0 ∨ cl_ba_2.slots.size ≤ ((2 : Int32)).toNatClampNeg) := inb_of S_ba_2 ⟨by decide, by decide⟩
  have hat_ba_2 : cl_ba_2.slots[((2 : Int32)).toNatClampNeg]? = some (.int (own_lo c1)) := H_ba_2.at hin_ba_2 (rfl)
  refine own_pre (A' := T1.setTop (mkF m 38 #[.val (.ref ba), .val (.int (3 : Int32))] [(.int (own_lo c1))])) (fun t k => X1.baloadBytes hx (j := (2 : Int32)) (v := (.int (own_lo c1))) (by rw [e1]; exact Ar_ba_2.1) (State.isArrayOf_alike hZ.alike Ar_ba_2.2.1) Ar_ba_2.2.2 hin_ba_2 hat_ba_2 (g := (mkF m 37 #[.val (.ref ba), .val (.int (3 : Int32))] [(.int (2 : Int32)), (.ref ba)])) rfl rfl (hb hby D23_37.1) _ k) ?_
  refine o_sipush X1 hx hby D23_38 (v := 255) rfl ?_
  refine o_iand X1 hx hby D23_41 ?_
  obtain ⟨T3, X3, e3, st3⟩ := getS2 X1 hx hZ hown (host := "") (Or.inl (wd hw 97 rfl)) Via.refl e1 (S_hb.ext O0.2) (g := (mkF m 42 #[.val (.ref ba), .val (.int (3 : Int32))] [(.int ((own_lo c1) &&& (255 : Int32)))])) rfl (hb hby D23_42.1)
  refine own_pre (A' := T3.setTop (mkF m 45 #[.val (.ref ba), .val (.int (3 : Int32))] [(.int (0 : Int32)), (.int ((own_lo c1) &&& (255 : Int32)))])) st3 ?_
  refine o_ishl X3 hx hby D23_45 ?_
  refine o_aloadN X3 hx hby D23_46 rfl rfl ?_
  refine o_iloadN X3 hx hby D23_47 rfl ?_
  obtain ⟨cl_ba_4, Ar_ba_4, q_ba_4, S_ba_4, N_ba_4, H_ba_4, G_ba_4⟩ := id Vb
  have hin_ba_4 : ¬ ((3 : Int32) < 0 ∨ cl_ba_4.slots.size ≤ ((3 : Int32)).toNatClampNeg) := inb_of S_ba_4 ⟨by decide, by decide⟩
  have hat_ba_4 : cl_ba_4.slots[((3 : Int32)).toNatClampNeg]? = some (.int (own_hi c1)) := H_ba_4.at hin_ba_4 (rfl)
  refine own_pre (A' := T3.setTop (mkF m 49 #[.val (.ref ba), .val (.int (3 : Int32))] [(.int (own_hi c1)), (.int (((own_lo c1) &&& (255 : Int32)) <<< ((0 : Int32) &&& 31)))])) (fun t k => X3.baloadBytes hx (j := (3 : Int32)) (v := (.int (own_hi c1))) (by rw [e3]; exact Ar_ba_4.1) (State.isArrayOf_alike hZ.alike Ar_ba_4.2.1) Ar_ba_4.2.2 hin_ba_4 hat_ba_4 (g := (mkF m 48 #[.val (.ref ba), .val (.int (3 : Int32))] [(.int (3 : Int32)), (.ref ba), (.int (((own_lo c1) &&& (255 : Int32)) <<< ((0 : Int32) &&& 31)))])) rfl rfl (hb hby D23_48.1) _ k) ?_
  refine o_sipush X3 hx hby D23_49 (v := 255) rfl ?_
  refine o_iand X3 hx hby D23_52 ?_
  obtain ⟨T5, X5, e5, st5⟩ := getS2 X3 hx hZ hown (host := "") (Or.inl (wd hw 98 rfl)) Via.refl e3 (S_lb.ext O0.2) (g := (mkF m 53 #[.val (.ref ba), .val (.int (3 : Int32))] [(.int ((own_hi c1) &&& (255 : Int32))), (.int (((own_lo c1) &&& (255 : Int32)) <<< ((0 : Int32) &&& 31)))])) rfl (hb hby D23_53.1)
  refine own_pre (A' := T5.setTop (mkF m 56 #[.val (.ref ba), .val (.int (3 : Int32))] [(.int (8 : Int32)), (.int ((own_hi c1) &&& (255 : Int32))), (.int (((own_lo c1) &&& (255 : Int32)) <<< ((0 : Int32) &&& 31)))])) st5 ?_
  refine o_ishl X5 hx hby D23_56 ?_
  refine o_ior X5 hx hby D23_57 ?_
  refine o_i2c X5 hx hby D23_58 ?_
  exact own_ret (v := some (.int (own_gc c1))) X5 (fun h => by first | rfl | (rw [Bd.returns] at h; cases h)) (BodyLoose.notSynchronized Bd) (by decide) (by decide) (⟨by rw [own_gcEq hc], N0, e5⟩) (fun fs hr => retN X5 hx (t := .char) Bd.returns (by simp) (hb hby D23_59.1) hr)
def own_QPc30 (Z : State) (ba : Addr) (kb : ClassId) (p2 : Int32) (x0 x1 x2 x3 x4 x5 : Value) (h0 : Heap) (n0 : Nat) (v : Option Value) (h : Heap) (L : List Loc) : Prop := v = none ∧ Fr n0 L ∧ Keep h0 h [ba] ∧ Arv Z h ba kb .byte (6 : Int32) [(.int (own_lo p2)), (.int (own_hi p2)), x2, x3, x4, x5] (.int (0 : Int32))
theorem ef_rs_pc30 (m : MethodId) (ba : Addr) (p2 : Int32) : entryFrame m #[(.ref ba), (.int (0 : Int32)), (.int p2)] 3 = mkF m 0 #[.val (.ref ba), .val (.int (0 : Int32)), .val (.int p2)] [] := by first | (simp [entryFrame, mkF, argsToLocals, Value.category]; done) | rfl
set_option maxRecDepth 65536 in
set_option maxHeartbeats 40000000 in
theorem rs_pc30 (l : Launch) (Z : State) (a0 : Array Value) (hw : ∀ d ∈ tables_1, d.before a0 Z = true) (ws : List Jvm.Cond) (ba : Addr) (p2 : Int32) (kb : ClassId) (x0 x1 x2 x3 x4 x5 : Value) (cs : Int32) (vf : Value) (h0 : Heap) (n0 : Nat) (Z0 : n0 ≤ h0.size) (hST : own_ST Z cs vf) (O0 : Old Z n0 h0) (gn_ba : n0 ≤ ba) (Vb : Arv Z h0 ba kb .byte (6 : Int32) [x0, x1, x2, x3, x4, x5] (.int (0 : Int32))) :
    own_Mt l (⟨"java/lang/StringUTF16", "putChar", "([BII)V"⟩ : MethodName) jdk_52_method_4_code 3 none ({ frames := 0, cells := 0, slots := 0, locals := 0 } : Room) #[(.ref ba), (.int (0 : Int32)), (.int p2)] Z h0 (own_QPc30 Z ba kb p2 x0 x1 x2 x3 x4 x5 h0 n0) := by
  refine MetFree.of_bodySF (plainFor_of_name pn_java_lang_StringUTF16) hisR ?_
  intro p e s m args below meth c s₁ Bd hml0 hP hK
  obtain ⟨rfl, hZ, hh⟩ := hP
  have hx := Bd.exec
  have hby := Bd.bytes
  have hml : c.maxLocals = 3 := hml0
  have hown : s.vm.findClass "java/lang/StringUTF16" = some m.cls := findClass_of_methodNamed Bd.named
  have hnm := (name_of_methodNamed Bd.named Bd.method).1
  have X0 : Stand p l e ({ frames := 0, cells := 0, slots := 0, locals := 0 } : Room) s m #[(.ref ba), (.int (0 : Int32)), (.int p2)] below meth c s₁ [] 0 0 := Stand.of_body Bd
  have e0 : s₁.heap = h0 := by rw [← hh, Bd.state]; rfl
  have N0 := Fr.nil n0
  refine own_start (ef_rs_pc30 m ba p2) ?_
  obtain ⟨S_cs, S_ad, S_hb, S_lb, S_sf, hcs, hvf⟩ := hST
  have lt_ba := own_ltN Vb.lt
  obtain ⟨T1, X1, e1, st1⟩ := getS2 X0 hx hZ hown (host := "") (Or.inl (wd hw 96 rfl)) Via.refl e0 (S_ad.ext O0.2) (g := (mkF m 0 #[.val (.ref ba), .val (.int (0 : Int32)), .val (.int p2)] [])) rfl (hb hby D22_0.1)
  refine own_pre (A' := T1.setTop (mkF m 3 #[.val (.ref ba), .val (.int (0 : Int32)), .val (.int p2)] [(.int (1 : Int32))])) st1 ?_
  refine o_ifY X1 hx hby D22_3 ((if0 _ _).trans (feq (by decide : ¬ ((1 : Int32) = (0 : Int32)))).2) (q := 28) (by decide) (by decide) ?_
  refine o_iloadN X1 hx hby D22_28 rfl ?_
  refine o_iconst X1 hx hby D22_29 (v := 1) rfl ?_
  refine o_ishl X1 hx hby D22_30 ?_
  rw [(by decide : ((0 : Int32) <<< ((1 : Int32) &&& 31)) = (0 : Int32))]
  refine o_istoreN X1 hx hby D22_31 (l' := #[.val (.ref ba), .val (.int (0 : Int32)), .val (.int p2)]) rfl ?_
  refine o_aloadN X1 hx hby D22_32 rfl rfl ?_
  refine o_iloadN X1 hx hby D22_33 rfl ?_
  refine o_iinc X1 hx hby D22_34 rfl (l' := #[.val (.ref ba), .val (.int ((0 : Int32) + (1 : Int32))), .val (.int p2)]) rfl ?_
  rw [(by decide : ((0 : Int32) + (1 : Int32)) = (1 : Int32))]
  refine o_iloadN X1 hx hby D22_37 rfl ?_
  obtain ⟨T2, X2, e2, st2⟩ := getS2 X1 hx hZ hown (host := "") (Or.inl (wd hw 97 rfl)) Via.refl e1 (S_hb.ext O0.2) (g := (mkF m 38 #[.val (.ref ba), .val (.int (1 : Int32)), .val (.int p2)] [(.int p2), (.int (0 : Int32)), (.ref ba)])) rfl (hb hby D22_38.1)
  refine own_pre (A' := T2.setTop (mkF m 41 #[.val (.ref ba), .val (.int (1 : Int32)), .val (.int p2)] [(.int (0 : Int32)), (.int p2), (.int (0 : Int32)), (.ref ba)])) st2 ?_
  refine o_ishr X2 hx hby D22_41 ?_
  refine o_i2b X2 hx hby D22_42 ?_
  obtain ⟨cl_ba_3, Ar_ba_3, q_ba_3, S_ba_3, N_ba_3, H_ba_3, G_ba_3⟩ := id Vb
  have hin_ba_3 : ¬ ((0 : Int32) < 0 ∨ cl_ba_3.slots.size ≤ ((0 : Int32)).toNatClampNeg) := inb_of S_ba_3 ⟨by decide, by decide⟩
  obtain ⟨T3, h3, X3, e3, W3, st3⟩ := stB X2 hx hZ e2 Ar_ba_3 (j := (0 : Int32)) hin_ba_3 (g := (mkF m 43 #[.val (.ref ba), .val (.int (1 : Int32)), .val (.int p2)] [(.int (((p2 >>> ((0 : Int32) &&& 31))).toInt8.toInt32)), (.int (0 : Int32)), (.ref ba)])) rfl rfl (hb hby D22_43.1)
  have V_ba_3 : Arv Z h3 ba kb .byte (6 : Int32) [(.int (nar .byte (((p2 >>> ((0 : Int32) &&& 31))).toInt8.toInt32))), x1, x2, x3, x4, x5] (.int (0 : Int32)) := Arv.set Ar_ba_3 q_ba_3 S_ba_3 N_ba_3 H_ba_3 G_ba_3 (fits_nar_byte _) W3 0 rfl (Nat.le_of_ble_eq_true rfl)
  have sz3 := own_leN (Keep.of_wr W3).1
  have N3 := Fr.snoc X3 N0 gn_ba
  refine own_pre (A' := T3.setTop (mkF m 44 #[.val (.ref ba), .val (.int (1 : Int32)), .val (.int p2)] [])) st3 ?_
  refine o_aloadN X3 hx hby D22_44 rfl rfl ?_
  refine o_iloadN X3 hx hby D22_45 rfl ?_
  refine o_iloadN X3 hx hby D22_46 rfl ?_
  have c5_O := (O0.wr W3 gn_ba)
  obtain ⟨T4, X4, e4, st4⟩ := getS2 X3 hx hZ hown (host := "") (Or.inl (wd hw 98 rfl)) Via.refl e3 (S_lb.ext c5_O.2) (g := (mkF m 47 #[.val (.ref ba), .val (.int (1 : Int32)), .val (.int p2)] [(.int p2), (.int (1 : Int32)), (.ref ba)])) rfl (hb hby D22_47.1)
  refine own_pre (A' := T4.setTop (mkF m 50 #[.val (.ref ba), .val (.int (1 : Int32)), .val (.int p2)] [(.int (8 : Int32)), (.int p2), (.int (1 : Int32)), (.ref ba)])) st4 ?_
  refine o_ishr X4 hx hby D22_50 ?_
  refine o_i2b X4 hx hby D22_51 ?_
  obtain ⟨cl_ba_6, Ar_ba_6, q_ba_6, S_ba_6, N_ba_6, H_ba_6, G_ba_6⟩ := id V_ba_3
  have hin_ba_6 : ¬ ((1 : Int32) < 0 ∨ cl_ba_6.slots.size ≤ ((1 : Int32)).toNatClampNeg) := inb_of S_ba_6 ⟨by decide, by decide⟩
  obtain ⟨T6, h6, X6, e6, W6, st6⟩ := stB X4 hx hZ e4 Ar_ba_6 (j := (1 : Int32)) hin_ba_6 (g := (mkF m 52 #[.val (.ref ba), .val (.int (1 : Int32)), .val (.int p2)] [(.int (((p2 >>> ((8 : Int32) &&& 31))).toInt8.toInt32)), (.int (1 : Int32)), (.ref ba)])) rfl rfl (hb hby D22_52.1)
  have V_ba_6 : Arv Z h6 ba kb .byte (6 : Int32) [(.int (nar .byte (((p2 >>> ((0 : Int32) &&& 31))).toInt8.toInt32))), (.int (nar .byte (((p2 >>> ((8 : Int32) &&& 31))).toInt8.toInt32))), x2, x3, x4, x5] (.int (0 : Int32)) := Arv.set Ar_ba_6 q_ba_6 S_ba_6 N_ba_6 H_ba_6 G_ba_6 (fits_nar_byte _) W6 1 rfl (Nat.le_of_ble_eq_true rfl)
  have sz6 := own_leN (Keep.of_wr W6).1
  have N6 := Fr.snoc X6 N3 gn_ba
  refine own_pre (A' := T6.setTop (mkF m 53 #[.val (.ref ba), .val (.int (1 : Int32)), .val (.int p2)] [])) st6 ?_
  have KK : Keep h0 h6 [ba] := (((Keep.refl h0 [ba]).wr W3 (Or.inl (by simp))).wr W6 (Or.inl (by simp)))
  have VV : Arv Z h6 ba kb .byte (6 : Int32) [(.int (own_lo p2)), (.int (own_hi p2)), x2, x3, x4, x5] (.int (0 : Int32)) := V_ba_6
  exact own_ret (v := none) X6 (fun h => by first | rfl | (rw [Bd.returns] at h; cases h)) (BodyLoose.notSynchronized Bd) (by decide) (by decide) (by rw [e6]; exact ⟨rfl, N6, KK, VV⟩) (fun fs hr => X6.returnOut hx Bd.returns (hb hby D22_53.1) hr)
theorem ef_rs_gc30 (m : MethodId) (ba : Addr) : entryFrame m #[(.ref ba), (.int (0 : Int32))] 2 = mkF m 0 #[.val (.ref ba), .val (.int (0 : Int32))] [] := by first | (simp [entryFrame, mkF, argsToLocals, Value.category]; done) | rfl
set_option maxRecDepth 65536 in
set_option maxHeartbeats 40000000 in
theorem rs_gc30 (l : Launch) (Z : State) (a0 : Array Value) (hw : ∀ d ∈ tables_1, d.before a0 Z = true) (ws : List Jvm.Cond) (ba : Addr) (kb : ClassId) (c0 c1 c2 : Int32) (cs : Int32) (vf : Value) (h0 : Heap) (n0 : Nat) (Z0 : n0 ≤ h0.size) (hST : own_ST Z cs vf) (O0 : Old Z n0 h0) (Vb : Arv Z h0 ba kb .byte (6 : Int32) [(.int (own_lo c0)), (.int (own_hi c0)), (.int (own_lo c1)), (.int (own_hi c1)), (.int (own_lo c2)), (.int (own_hi c2))] (.int (0 : Int32))) (hc : own_ch16 c0) :
    own_Mt l (⟨"java/lang/StringUTF16", "getChar", "([BI)C"⟩ : MethodName) jdk_52_method_5_code 2 (some .char) ({ frames := 0, cells := 0, slots := 0, locals := 0 } : Room) #[(.ref ba), (.int (0 : Int32))] Z h0 (own_QP (.int c0) h0 n0) := by
  refine MetFree.of_bodySF (plainFor_of_name pn_java_lang_StringUTF16) hisR ?_
  intro p e s m args below meth c s₁ Bd hml0 hP hK
  obtain ⟨rfl, hZ, hh⟩ := hP
  have hx := Bd.exec
  have hby := Bd.bytes
  have hml : c.maxLocals = 2 := hml0
  have hown : s.vm.findClass "java/lang/StringUTF16" = some m.cls := findClass_of_methodNamed Bd.named
  have hnm := (name_of_methodNamed Bd.named Bd.method).1
  have X0 : Stand p l e ({ frames := 0, cells := 0, slots := 0, locals := 0 } : Room) s m #[(.ref ba), (.int (0 : Int32))] below meth c s₁ [] 0 0 := Stand.of_body Bd
  have e0 : s₁.heap = h0 := by rw [← hh, Bd.state]; rfl
  have N0 := Fr.nil n0
  refine own_start (ef_rs_gc30 m ba) ?_
  obtain ⟨S_cs, S_ad, S_hb, S_lb, S_sf, hcs, hvf⟩ := hST
  have lt_ba := own_ltN Vb.lt
  obtain ⟨T1, X1, e1, st1⟩ := getS2 X0 hx hZ hown (host := "") (Or.inl (wd hw 96 rfl)) Via.refl e0 (S_ad.ext O0.2) (g := (mkF m 0 #[.val (.ref ba), .val (.int (0 : Int32))] [])) rfl (hb hby D23_0.1)
  refine own_pre (A' := T1.setTop (mkF m 3 #[.val (.ref ba), .val (.int (0 : Int32))] [(.int (1 : Int32))])) st1 ?_
  refine o_ifY X1 hx hby D23_3 ((if0 _ _).trans (feq (by decide : ¬ ((1 : Int32) = (0 : Int32)))).2) (q := 28) (by decide) (by decide) ?_
  refine o_iloadN X1 hx hby D23_28 rfl ?_
  refine o_iconst X1 hx hby D23_29 (v := 1) rfl ?_
  refine o_ishl X1 hx hby D23_30 ?_
  rw [(by decide : ((0 : Int32) <<< ((1 : Int32) &&& 31)) = (0 : Int32))]
  refine o_istoreN X1 hx hby D23_31 (l' := #[.val (.ref ba), .val (.int (0 : Int32))]) rfl ?_
  refine o_aloadN X1 hx hby D23_32 rfl rfl ?_
  refine o_iloadN X1 hx hby D23_33 rfl ?_
  refine o_iinc X1 hx hby D23_34 rfl (l' := #[.val (.ref ba), .val (.int ((0 : Int32) + (1 : Int32)))]) rfl ?_
  rw [(by decide : ((0 : Int32) + (1 : Int32)) = (1 : Int32))]
  obtain ⟨cl_ba_2, Ar_ba_2, q_ba_2, S_ba_2, N_ba_2, H_ba_2, G_ba_2⟩ := id Vb
  have hin_ba_2 : ¬ ((0 : Int32) < 0 ∨ cl_ba_2.slots.size ≤ ((0 : Int32)).toNatClampNeg) := inb_of S_ba_2 ⟨by decide, by decide⟩
  have hat_ba_2 : cl_ba_2.slots[((0 : Int32)).toNatClampNeg]? = some (.int (own_lo c0)) := H_ba_2.at hin_ba_2 (rfl)
  refine own_pre (A' := T1.setTop (mkF m 38 #[.val (.ref ba), .val (.int (1 : Int32))] [(.int (own_lo c0))])) (fun t k => X1.baloadBytes hx (j := (0 : Int32)) (v := (.int (own_lo c0))) (by rw [e1]; exact Ar_ba_2.1) (State.isArrayOf_alike hZ.alike Ar_ba_2.2.1) Ar_ba_2.2.2 hin_ba_2 hat_ba_2 (g := (mkF m 37 #[.val (.ref ba), .val (.int (1 : Int32))] [(.int (0 : Int32)), (.ref ba)])) rfl rfl (hb hby D23_37.1) _ k) ?_
  refine o_sipush X1 hx hby D23_38 (v := 255) rfl ?_
  refine o_iand X1 hx hby D23_41 ?_
  obtain ⟨T3, X3, e3, st3⟩ := getS2 X1 hx hZ hown (host := "") (Or.inl (wd hw 97 rfl)) Via.refl e1 (S_hb.ext O0.2) (g := (mkF m 42 #[.val (.ref ba), .val (.int (1 : Int32))] [(.int ((own_lo c0) &&& (255 : Int32)))])) rfl (hb hby D23_42.1)
  refine own_pre (A' := T3.setTop (mkF m 45 #[.val (.ref ba), .val (.int (1 : Int32))] [(.int (0 : Int32)), (.int ((own_lo c0) &&& (255 : Int32)))])) st3 ?_
  refine o_ishl X3 hx hby D23_45 ?_
  refine o_aloadN X3 hx hby D23_46 rfl rfl ?_
  refine o_iloadN X3 hx hby D23_47 rfl ?_
  obtain ⟨cl_ba_4, Ar_ba_4, q_ba_4, S_ba_4, N_ba_4, H_ba_4, G_ba_4⟩ := id Vb
  have hin_ba_4 : ¬ ((1 : Int32) < 0 ∨ cl_ba_4.slots.size ≤ ((1 : Int32)).toNatClampNeg) := inb_of S_ba_4 ⟨by decide, by decide⟩
  have hat_ba_4 : cl_ba_4.slots[((1 : Int32)).toNatClampNeg]? = some (.int (own_hi c0)) := H_ba_4.at hin_ba_4 (rfl)
  refine own_pre (A' := T3.setTop (mkF m 49 #[.val (.ref ba), .val (.int (1 : Int32))] [(.int (own_hi c0)), (.int (((own_lo c0) &&& (255 : Int32)) <<< ((0 : Int32) &&& 31)))])) (fun t k => X3.baloadBytes hx (j := (1 : Int32)) (v := (.int (own_hi c0))) (by rw [e3]; exact Ar_ba_4.1) (State.isArrayOf_alike hZ.alike Ar_ba_4.2.1) Ar_ba_4.2.2 hin_ba_4 hat_ba_4 (g := (mkF m 48 #[.val (.ref ba), .val (.int (1 : Int32))] [(.int (1 : Int32)), (.ref ba), (.int (((own_lo c0) &&& (255 : Int32)) <<< ((0 : Int32) &&& 31)))])) rfl rfl (hb hby D23_48.1) _ k) ?_
  refine o_sipush X3 hx hby D23_49 (v := 255) rfl ?_
  refine o_iand X3 hx hby D23_52 ?_
  obtain ⟨T5, X5, e5, st5⟩ := getS2 X3 hx hZ hown (host := "") (Or.inl (wd hw 98 rfl)) Via.refl e3 (S_lb.ext O0.2) (g := (mkF m 53 #[.val (.ref ba), .val (.int (1 : Int32))] [(.int ((own_hi c0) &&& (255 : Int32))), (.int (((own_lo c0) &&& (255 : Int32)) <<< ((0 : Int32) &&& 31)))])) rfl (hb hby D23_53.1)
  refine own_pre (A' := T5.setTop (mkF m 56 #[.val (.ref ba), .val (.int (1 : Int32))] [(.int (8 : Int32)), (.int ((own_hi c0) &&& (255 : Int32))), (.int (((own_lo c0) &&& (255 : Int32)) <<< ((0 : Int32) &&& 31)))])) st5 ?_
  refine o_ishl X5 hx hby D23_56 ?_
  refine o_ior X5 hx hby D23_57 ?_
  refine o_i2c X5 hx hby D23_58 ?_
  exact own_ret (v := some (.int (own_gc c0))) X5 (fun h => by first | rfl | (rw [Bd.returns] at h; cases h)) (BodyLoose.notSynchronized Bd) (by decide) (by decide) (⟨by rw [own_gcEq hc], N0, e5⟩) (fun fs hr => retN X5 hx (t := .char) Bd.returns (by simp) (hb hby D23_59.1) hr)
def own_QPc31 (Z : State) (ba : Addr) (kb : ClassId) (p2 : Int32) (x0 x1 x2 x3 x4 x5 : Value) (h0 : Heap) (n0 : Nat) (v : Option Value) (h : Heap) (L : List Loc) : Prop := v = none ∧ Fr n0 L ∧ Keep h0 h [ba] ∧ Arv Z h ba kb .byte (6 : Int32) [x0, x1, (.int (own_lo p2)), (.int (own_hi p2)), x4, x5] (.int (0 : Int32))
theorem ef_rs_pc31 (m : MethodId) (ba : Addr) (p2 : Int32) : entryFrame m #[(.ref ba), (.int (1 : Int32)), (.int p2)] 3 = mkF m 0 #[.val (.ref ba), .val (.int (1 : Int32)), .val (.int p2)] [] := by first | (simp [entryFrame, mkF, argsToLocals, Value.category]; done) | rfl
set_option maxRecDepth 65536 in
set_option maxHeartbeats 40000000 in
theorem rs_pc31 (l : Launch) (Z : State) (a0 : Array Value) (hw : ∀ d ∈ tables_1, d.before a0 Z = true) (ws : List Jvm.Cond) (ba : Addr) (p2 : Int32) (kb : ClassId) (x0 x1 x2 x3 x4 x5 : Value) (cs : Int32) (vf : Value) (h0 : Heap) (n0 : Nat) (Z0 : n0 ≤ h0.size) (hST : own_ST Z cs vf) (O0 : Old Z n0 h0) (gn_ba : n0 ≤ ba) (Vb : Arv Z h0 ba kb .byte (6 : Int32) [x0, x1, x2, x3, x4, x5] (.int (0 : Int32))) :
    own_Mt l (⟨"java/lang/StringUTF16", "putChar", "([BII)V"⟩ : MethodName) jdk_52_method_4_code 3 none ({ frames := 0, cells := 0, slots := 0, locals := 0 } : Room) #[(.ref ba), (.int (1 : Int32)), (.int p2)] Z h0 (own_QPc31 Z ba kb p2 x0 x1 x2 x3 x4 x5 h0 n0) := by
  refine MetFree.of_bodySF (plainFor_of_name pn_java_lang_StringUTF16) hisR ?_
  intro p e s m args below meth c s₁ Bd hml0 hP hK
  obtain ⟨rfl, hZ, hh⟩ := hP
  have hx := Bd.exec
  have hby := Bd.bytes
  have hml : c.maxLocals = 3 := hml0
  have hown : s.vm.findClass "java/lang/StringUTF16" = some m.cls := findClass_of_methodNamed Bd.named
  have hnm := (name_of_methodNamed Bd.named Bd.method).1
  have X0 : Stand p l e ({ frames := 0, cells := 0, slots := 0, locals := 0 } : Room) s m #[(.ref ba), (.int (1 : Int32)), (.int p2)] below meth c s₁ [] 0 0 := Stand.of_body Bd
  have e0 : s₁.heap = h0 := by rw [← hh, Bd.state]; rfl
  have N0 := Fr.nil n0
  refine own_start (ef_rs_pc31 m ba p2) ?_
  obtain ⟨S_cs, S_ad, S_hb, S_lb, S_sf, hcs, hvf⟩ := hST
  have lt_ba := own_ltN Vb.lt
  obtain ⟨T1, X1, e1, st1⟩ := getS2 X0 hx hZ hown (host := "") (Or.inl (wd hw 96 rfl)) Via.refl e0 (S_ad.ext O0.2) (g := (mkF m 0 #[.val (.ref ba), .val (.int (1 : Int32)), .val (.int p2)] [])) rfl (hb hby D22_0.1)
  refine own_pre (A' := T1.setTop (mkF m 3 #[.val (.ref ba), .val (.int (1 : Int32)), .val (.int p2)] [(.int (1 : Int32))])) st1 ?_
  refine o_ifY X1 hx hby D22_3 ((if0 _ _).trans (feq (by decide : ¬ ((1 : Int32) = (0 : Int32)))).2) (q := 28) (by decide) (by decide) ?_
  refine o_iloadN X1 hx hby D22_28 rfl ?_
  refine o_iconst X1 hx hby D22_29 (v := 1) rfl ?_
  refine o_ishl X1 hx hby D22_30 ?_
  rw [(by decide : ((1 : Int32) <<< ((1 : Int32) &&& 31)) = (2 : Int32))]
  refine o_istoreN X1 hx hby D22_31 (l' := #[.val (.ref ba), .val (.int (2 : Int32)), .val (.int p2)]) rfl ?_
  refine o_aloadN X1 hx hby D22_32 rfl rfl ?_
  refine o_iloadN X1 hx hby D22_33 rfl ?_
  refine o_iinc X1 hx hby D22_34 rfl (l' := #[.val (.ref ba), .val (.int ((2 : Int32) + (1 : Int32))), .val (.int p2)]) rfl ?_
  rw [(by decide : ((2 : Int32) + (1 : Int32)) = (3 : Int32))]
  refine o_iloadN X1 hx hby D22_37 rfl ?_
  obtain ⟨T2, X2, e2, st2⟩ := getS2 X1 hx hZ hown (host := "") (Or.inl (wd hw 97 rfl)) Via.refl e1 (S_hb.ext O0.2) (g := (mkF m 38 #[.val (.ref ba), .val (.int (3 : Int32)), .val (.int p2)] [(.int p2), (.int (2 : Int32)), (.ref ba)])) rfl (hb hby D22_38.1)
  refine own_pre (A' := T2.setTop (mkF m 41 #[.val (.ref ba), .val (.int (3 : Int32)), .val (.int p2)] [(.int (0 : Int32)), (.int p2), (.int (2 : Int32)), (.ref ba)])) st2 ?_
  refine o_ishr X2 hx hby D22_41 ?_
  refine o_i2b X2 hx hby D22_42 ?_
  obtain ⟨cl_ba_3, Ar_ba_3, q_ba_3, S_ba_3, N_ba_3, H_ba_3, G_ba_3⟩ := id Vb
  have hin_ba_3 : ¬ ((2 : Int32) < 0 ∨ cl_ba_3.slots.size ≤ ((2 : Int32)).toNatClampNeg) := inb_of S_ba_3 ⟨by decide, by decide⟩
  obtain ⟨T3, h3, X3, e3, W3, st3⟩ := stB X2 hx hZ e2 Ar_ba_3 (j := (2 : Int32)) hin_ba_3 (g := (mkF m 43 #[.val (.ref ba), .val (.int (3 : Int32)), .val (.int p2)] [(.int (((p2 >>> ((0 : Int32) &&& 31))).toInt8.toInt32)), (.int (2 : Int32)), (.ref ba)])) rfl rfl (hb hby D22_43.1)
  have V_ba_3 : Arv Z h3 ba kb .byte (6 : Int32) [x0, x1, (.int (nar .byte (((p2 >>> ((0 : Int32) &&& 31))).toInt8.toInt32))), x3, x4, x5] (.int (0 : Int32)) := Arv.set Ar_ba_3 q_ba_3 S_ba_3 N_ba_3 H_ba_3 G_ba_3 (fits_nar_byte _) W3 2 rfl (Nat.le_of_ble_eq_true rfl)
  have sz3 := own_leN (Keep.of_wr W3).1
  have N3 := Fr.snoc X3 N0 gn_ba
  refine own_pre (A' := T3.setTop (mkF m 44 #[.val (.ref ba), .val (.int (3 : Int32)), .val (.int p2)] [])) st3 ?_
  refine o_aloadN X3 hx hby D22_44 rfl rfl ?_
  refine o_iloadN X3 hx hby D22_45 rfl ?_
  refine o_iloadN X3 hx hby D22_46 rfl ?_
  have c5_O := (O0.wr W3 gn_ba)
  obtain ⟨T4, X4, e4, st4⟩ := getS2 X3 hx hZ hown (host := "") (Or.inl (wd hw 98 rfl)) Via.refl e3 (S_lb.ext c5_O.2) (g := (mkF m 47 #[.val (.ref ba), .val (.int (3 : Int32)), .val (.int p2)] [(.int p2), (.int (3 : Int32)), (.ref ba)])) rfl (hb hby D22_47.1)
  refine own_pre (A' := T4.setTop (mkF m 50 #[.val (.ref ba), .val (.int (3 : Int32)), .val (.int p2)] [(.int (8 : Int32)), (.int p2), (.int (3 : Int32)), (.ref ba)])) st4 ?_
  refine o_ishr X4 hx hby D22_50 ?_
  refine o_i2b X4 hx hby D22_51 ?_
  obtain ⟨cl_ba_6, Ar_ba_6, q_ba_6, S_ba_6, N_ba_6, H_ba_6, G_ba_6⟩ := id V_ba_3
  have hin_ba_6 : ¬ ((3 : Int32) < 0 ∨ cl_ba_6.slots.size ≤ ((3 : Int32)).toNatClampNeg) := inb_of S_ba_6 ⟨by decide, by decide⟩
  obtain ⟨T6, h6, X6, e6, W6, st6⟩ := stB X4 hx hZ e4 Ar_ba_6 (j := (3 : Int32)) hin_ba_6 (g := (mkF m 52 #[.val (.ref ba), .val (.int (3 : Int32)), .val (.int p2)] [(.int (((p2 >>> ((8 : Int32) &&& 31))).toInt8.toInt32)), (.int (3 : Int32)), (.ref ba)])) rfl rfl (hb hby D22_52.1)
  have V_ba_6 : Arv Z h6 ba kb .byte (6 : Int32) [x0, x1, (.int (nar .byte (((p2 >>> ((0 : Int32) &&& 31))).toInt8.toInt32))), (.int (nar .byte (((p2 >>> ((8 : Int32) &&& 31))).toInt8.toInt32))), x4, x5] (.int (0 : Int32)) := Arv.set Ar_ba_6 q_ba_6 S_ba_6 N_ba_6 H_ba_6 G_ba_6 (fits_nar_byte _) W6 3 rfl (Nat.le_of_ble_eq_true rfl)
  have sz6 := own_leN (Keep.of_wr W6).1
  have N6 := Fr.snoc X6 N3 gn_ba
  refine own_pre (A' := T6.setTop (mkF m 53 #[.val (.ref ba), .val (.int (3 : Int32)), .val (.int p2)] [])) st6 ?_
  have KK : Keep h0 h6 [ba] := (((Keep.refl h0 [ba]).wr W3 (Or.inl (by simp))).wr W6 (Or.inl (by simp)))
  have VV : Arv Z h6 ba kb .byte (6 : Int32) [x0, x1, (.int (own_lo p2)), (.int (own_hi p2)), x4, x5] (.int (0 : Int32)) := V_ba_6
  exact own_ret (v := none) X6 (fun h => by first | rfl | (rw [Bd.returns] at h; cases h)) (BodyLoose.notSynchronized Bd) (by decide) (by decide) (by rw [e6]; exact ⟨rfl, N6, KK, VV⟩) (fun fs hr => X6.returnOut hx Bd.returns (hb hby D22_53.1) hr)
theorem ef_rs_gc31 (m : MethodId) (ba : Addr) : entryFrame m #[(.ref ba), (.int (1 : Int32))] 2 = mkF m 0 #[.val (.ref ba), .val (.int (1 : Int32))] [] := by first | (simp [entryFrame, mkF, argsToLocals, Value.category]; done) | rfl
set_option maxRecDepth 65536 in
set_option maxHeartbeats 40000000 in
theorem rs_gc31 (l : Launch) (Z : State) (a0 : Array Value) (hw : ∀ d ∈ tables_1, d.before a0 Z = true) (ws : List Jvm.Cond) (ba : Addr) (kb : ClassId) (c0 c1 c2 : Int32) (cs : Int32) (vf : Value) (h0 : Heap) (n0 : Nat) (Z0 : n0 ≤ h0.size) (hST : own_ST Z cs vf) (O0 : Old Z n0 h0) (Vb : Arv Z h0 ba kb .byte (6 : Int32) [(.int (own_lo c0)), (.int (own_hi c0)), (.int (own_lo c1)), (.int (own_hi c1)), (.int (own_lo c2)), (.int (own_hi c2))] (.int (0 : Int32))) (hc : own_ch16 c1) :
    own_Mt l (⟨"java/lang/StringUTF16", "getChar", "([BI)C"⟩ : MethodName) jdk_52_method_5_code 2 (some .char) ({ frames := 0, cells := 0, slots := 0, locals := 0 } : Room) #[(.ref ba), (.int (1 : Int32))] Z h0 (own_QP (.int c1) h0 n0) := by
  refine MetFree.of_bodySF (plainFor_of_name pn_java_lang_StringUTF16) hisR ?_
  intro p e s m args below meth c s₁ Bd hml0 hP hK
  obtain ⟨rfl, hZ, hh⟩ := hP
  have hx := Bd.exec
  have hby := Bd.bytes
  have hml : c.maxLocals = 2 := hml0
  have hown : s.vm.findClass "java/lang/StringUTF16" = some m.cls := findClass_of_methodNamed Bd.named
  have hnm := (name_of_methodNamed Bd.named Bd.method).1
  have X0 : Stand p l e ({ frames := 0, cells := 0, slots := 0, locals := 0 } : Room) s m #[(.ref ba), (.int (1 : Int32))] below meth c s₁ [] 0 0 := Stand.of_body Bd
  have e0 : s₁.heap = h0 := by rw [← hh, Bd.state]; rfl
  have N0 := Fr.nil n0
  refine own_start (ef_rs_gc31 m ba) ?_
  obtain ⟨S_cs, S_ad, S_hb, S_lb, S_sf, hcs, hvf⟩ := hST
  have lt_ba := own_ltN Vb.lt
  obtain ⟨T1, X1, e1, st1⟩ := getS2 X0 hx hZ hown (host := "") (Or.inl (wd hw 96 rfl)) Via.refl e0 (S_ad.ext O0.2) (g := (mkF m 0 #[.val (.ref ba), .val (.int (1 : Int32))] [])) rfl (hb hby D23_0.1)
  refine own_pre (A' := T1.setTop (mkF m 3 #[.val (.ref ba), .val (.int (1 : Int32))] [(.int (1 : Int32))])) st1 ?_
  refine o_ifY X1 hx hby D23_3 ((if0 _ _).trans (feq (by decide : ¬ ((1 : Int32) = (0 : Int32)))).2) (q := 28) (by decide) (by decide) ?_
  refine o_iloadN X1 hx hby D23_28 rfl ?_
  refine o_iconst X1 hx hby D23_29 (v := 1) rfl ?_
  refine o_ishl X1 hx hby D23_30 ?_
  rw [(by decide : ((1 : Int32) <<< ((1 : Int32) &&& 31)) = (2 : Int32))]
  refine o_istoreN X1 hx hby D23_31 (l' := #[.val (.ref ba), .val (.int (2 : Int32))]) rfl ?_
  refine o_aloadN X1 hx hby D23_32 rfl rfl ?_
  refine o_iloadN X1 hx hby D23_33 rfl ?_
  refine o_iinc X1 hx hby D23_34 rfl (l' := #[.val (.ref ba), .val (.int ((2 : Int32) + (1 : Int32)))]) rfl ?_
  rw [(by decide : ((2 : Int32) + (1 : Int32)) = (3 : Int32))]
  obtain ⟨cl_ba_2, Ar_ba_2, q_ba_2, S_ba_2, N_ba_2, H_ba_2, G_ba_2⟩ := id Vb
  have hin_ba_2 : ¬ ((2 : Int32) < 0 ∨ cl_ba_2.slots.size ≤ ((2 : Int32)).toNatClampNeg) := inb_of S_ba_2 ⟨by decide, by decide⟩
  have hat_ba_2 : cl_ba_2.slots[((2 : Int32)).toNatClampNeg]? = some (.int (own_lo c1)) := H_ba_2.at hin_ba_2 (rfl)
  refine own_pre (A' := T1.setTop (mkF m 38 #[.val (.ref ba), .val (.int (3 : Int32))] [(.int (own_lo c1))])) (fun t k => X1.baloadBytes hx (j := (2 : Int32)) (v := (.int (own_lo c1))) (by rw [e1]; exact Ar_ba_2.1) (State.isArrayOf_alike hZ.alike Ar_ba_2.2.1) Ar_ba_2.2.2 hin_ba_2 hat_ba_2 (g := (mkF m 37 #[.val (.ref ba), .val (.int (3 : Int32))] [(.int (2 : Int32)), (.ref ba)])) rfl rfl (hb hby D23_37.1) _ k) ?_
  refine o_sipush X1 hx hby D23_38 (v := 255) rfl ?_
  refine o_iand X1 hx hby D23_41 ?_
  obtain ⟨T3, X3, e3, st3⟩ := getS2 X1 hx hZ hown (host := "") (Or.inl (wd hw 97 rfl)) Via.refl e1 (S_hb.ext O0.2) (g := (mkF m 42 #[.val (.ref ba), .val (.int (3 : Int32))] [(.int ((own_lo c1) &&& (255 : Int32)))])) rfl (hb hby D23_42.1)
  refine own_pre (A' := T3.setTop (mkF m 45 #[.val (.ref ba), .val (.int (3 : Int32))] [(.int (0 : Int32)), (.int ((own_lo c1) &&& (255 : Int32)))])) st3 ?_
  refine o_ishl X3 hx hby D23_45 ?_
  refine o_aloadN X3 hx hby D23_46 rfl rfl ?_
  refine o_iloadN X3 hx hby D23_47 rfl ?_
  obtain ⟨cl_ba_4, Ar_ba_4, q_ba_4, S_ba_4, N_ba_4, H_ba_4, G_ba_4⟩ := id Vb
  have hin_ba_4 : ¬ ((3 : Int32) < 0 ∨ cl_ba_4.slots.size ≤ ((3 : Int32)).toNatClampNeg) := inb_of S_ba_4 ⟨by decide, by decide⟩
  have hat_ba_4 : cl_ba_4.slots[((3 : Int32)).toNatClampNeg]? = some (.int (own_hi c1)) := H_ba_4.at hin_ba_4 (rfl)
  refine own_pre (A' := T3.setTop (mkF m 49 #[.val (.ref ba), .val (.int (3 : Int32))] [(.int (own_hi c1)), (.int (((own_lo c1) &&& (255 : Int32)) <<< ((0 : Int32) &&& 31)))])) (fun t k => X3.baloadBytes hx (j := (3 : Int32)) (v := (.int (own_hi c1))) (by rw [e3]; exact Ar_ba_4.1) (State.isArrayOf_alike hZ.alike Ar_ba_4.2.1) Ar_ba_4.2.2 hin_ba_4 hat_ba_4 (g := (mkF m 48 #[.val (.ref ba), .val (.int (3 : Int32))] [(.int (3 : Int32)), (.ref ba), (.int (((own_lo c1) &&& (255 : Int32)) <<< ((0 : Int32) &&& 31)))])) rfl rfl (hb hby D23_48.1) _ k) ?_
  refine o_sipush X3 hx hby D23_49 (v := 255) rfl ?_
  refine o_iand X3 hx hby D23_52 ?_
  obtain ⟨T5, X5, e5, st5⟩ := getS2 X3 hx hZ hown (host := "") (Or.inl (wd hw 98 rfl)) Via.refl e3 (S_lb.ext O0.2) (g := (mkF m 53 #[.val (.ref ba), .val (.int (3 : Int32))] [(.int ((own_hi c1) &&& (255 : Int32))), (.int (((own_lo c1) &&& (255 : Int32)) <<< ((0 : Int32) &&& 31)))])) rfl (hb hby D23_53.1)
  refine own_pre (A' := T5.setTop (mkF m 56 #[.val (.ref ba), .val (.int (3 : Int32))] [(.int (8 : Int32)), (.int ((own_hi c1) &&& (255 : Int32))), (.int (((own_lo c1) &&& (255 : Int32)) <<< ((0 : Int32) &&& 31)))])) st5 ?_
  refine o_ishl X5 hx hby D23_56 ?_
  refine o_ior X5 hx hby D23_57 ?_
  refine o_i2c X5 hx hby D23_58 ?_
  exact own_ret (v := some (.int (own_gc c1))) X5 (fun h => by first | rfl | (rw [Bd.returns] at h; cases h)) (BodyLoose.notSynchronized Bd) (by decide) (by decide) (⟨by rw [own_gcEq hc], N0, e5⟩) (fun fs hr => retN X5 hx (t := .char) Bd.returns (by simp) (hb hby D23_59.1) hr)
def own_QPc32 (Z : State) (ba : Addr) (kb : ClassId) (p2 : Int32) (x0 x1 x2 x3 x4 x5 : Value) (h0 : Heap) (n0 : Nat) (v : Option Value) (h : Heap) (L : List Loc) : Prop := v = none ∧ Fr n0 L ∧ Keep h0 h [ba] ∧ Arv Z h ba kb .byte (6 : Int32) [x0, x1, x2, x3, (.int (own_lo p2)), (.int (own_hi p2))] (.int (0 : Int32))
theorem ef_rs_pc32 (m : MethodId) (ba : Addr) (p2 : Int32) : entryFrame m #[(.ref ba), (.int (2 : Int32)), (.int p2)] 3 = mkF m 0 #[.val (.ref ba), .val (.int (2 : Int32)), .val (.int p2)] [] := by first | (simp [entryFrame, mkF, argsToLocals, Value.category]; done) | rfl
set_option maxRecDepth 65536 in
set_option maxHeartbeats 40000000 in
theorem rs_pc32 (l : Launch) (Z : State) (a0 : Array Value) (hw : ∀ d ∈ tables_1, d.before a0 Z = true) (ws : List Jvm.Cond) (ba : Addr) (p2 : Int32) (kb : ClassId) (x0 x1 x2 x3 x4 x5 : Value) (cs : Int32) (vf : Value) (h0 : Heap) (n0 : Nat) (Z0 : n0 ≤ h0.size) (hST : own_ST Z cs vf) (O0 : Old Z n0 h0) (gn_ba : n0 ≤ ba) (Vb : Arv Z h0 ba kb .byte (6 : Int32) [x0, x1, x2, x3, x4, x5] (.int (0 : Int32))) :
    own_Mt l (⟨"java/lang/StringUTF16", "putChar", "([BII)V"⟩ : MethodName) jdk_52_method_4_code 3 none ({ frames := 0, cells := 0, slots := 0, locals := 0 } : Room) #[(.ref ba), (.int (2 : Int32)), (.int p2)] Z h0 (own_QPc32 Z ba kb p2 x0 x1 x2 x3 x4 x5 h0 n0) := by
  refine MetFree.of_bodySF (plainFor_of_name pn_java_lang_StringUTF16) hisR ?_
  intro p e s m args below meth c s₁ Bd hml0 hP hK
  obtain ⟨rfl, hZ, hh⟩ := hP
  have hx := Bd.exec
  have hby := Bd.bytes
  have hml : c.maxLocals = 3 := hml0
  have hown : s.vm.findClass "java/lang/StringUTF16" = some m.cls := findClass_of_methodNamed Bd.named
  have hnm := (name_of_methodNamed Bd.named Bd.method).1
  have X0 : Stand p l e ({ frames := 0, cells := 0, slots := 0, locals := 0 } : Room) s m #[(.ref ba), (.int (2 : Int32)), (.int p2)] below meth c s₁ [] 0 0 := Stand.of_body Bd
  have e0 : s₁.heap = h0 := by rw [← hh, Bd.state]; rfl
  have N0 := Fr.nil n0
  refine own_start (ef_rs_pc32 m ba p2) ?_
  obtain ⟨S_cs, S_ad, S_hb, S_lb, S_sf, hcs, hvf⟩ := hST
  have lt_ba := own_ltN Vb.lt
  obtain ⟨T1, X1, e1, st1⟩ := getS2 X0 hx hZ hown (host := "") (Or.inl (wd hw 96 rfl)) Via.refl e0 (S_ad.ext O0.2) (g := (mkF m 0 #[.val (.ref ba), .val (.int (2 : Int32)), .val (.int p2)] [])) rfl (hb hby D22_0.1)
  refine own_pre (A' := T1.setTop (mkF m 3 #[.val (.ref ba), .val (.int (2 : Int32)), .val (.int p2)] [(.int (1 : Int32))])) st1 ?_
  refine o_ifY X1 hx hby D22_3 ((if0 _ _).trans (feq (by decide : ¬ ((1 : Int32) = (0 : Int32)))).2) (q := 28) (by decide) (by decide) ?_
  refine o_iloadN X1 hx hby D22_28 rfl ?_
  refine o_iconst X1 hx hby D22_29 (v := 1) rfl ?_
  refine o_ishl X1 hx hby D22_30 ?_
  rw [(by decide : ((2 : Int32) <<< ((1 : Int32) &&& 31)) = (4 : Int32))]
  refine o_istoreN X1 hx hby D22_31 (l' := #[.val (.ref ba), .val (.int (4 : Int32)), .val (.int p2)]) rfl ?_
  refine o_aloadN X1 hx hby D22_32 rfl rfl ?_
  refine o_iloadN X1 hx hby D22_33 rfl ?_
  refine o_iinc X1 hx hby D22_34 rfl (l' := #[.val (.ref ba), .val (.int ((4 : Int32) + (1 : Int32))), .val (.int p2)]) rfl ?_
  rw [(by decide : ((4 : Int32) + (1 : Int32)) = (5 : Int32))]
  refine o_iloadN X1 hx hby D22_37 rfl ?_
  obtain ⟨T2, X2, e2, st2⟩ := getS2 X1 hx hZ hown (host := "") (Or.inl (wd hw 97 rfl)) Via.refl e1 (S_hb.ext O0.2) (g := (mkF m 38 #[.val (.ref ba), .val (.int (5 : Int32)), .val (.int p2)] [(.int p2), (.int (4 : Int32)), (.ref ba)])) rfl (hb hby D22_38.1)
  refine own_pre (A' := T2.setTop (mkF m 41 #[.val (.ref ba), .val (.int (5 : Int32)), .val (.int p2)] [(.int (0 : Int32)), (.int p2), (.int (4 : Int32)), (.ref ba)])) st2 ?_
  refine o_ishr X2 hx hby D22_41 ?_
  refine o_i2b X2 hx hby D22_42 ?_
  obtain ⟨cl_ba_3, Ar_ba_3, q_ba_3, S_ba_3, N_ba_3, H_ba_3, G_ba_3⟩ := id Vb
  have hin_ba_3 : ¬ ((4 : Int32) < 0 ∨ cl_ba_3.slots.size ≤ ((4 : Int32)).toNatClampNeg) := inb_of S_ba_3 ⟨by decide, by decide⟩
  obtain ⟨T3, h3, X3, e3, W3, st3⟩ := stB X2 hx hZ e2 Ar_ba_3 (j := (4 : Int32)) hin_ba_3 (g := (mkF m 43 #[.val (.ref ba), .val (.int (5 : Int32)), .val (.int p2)] [(.int (((p2 >>> ((0 : Int32) &&& 31))).toInt8.toInt32)), (.int (4 : Int32)), (.ref ba)])) rfl rfl (hb hby D22_43.1)
  have V_ba_3 : Arv Z h3 ba kb .byte (6 : Int32) [x0, x1, x2, x3, (.int (nar .byte (((p2 >>> ((0 : Int32) &&& 31))).toInt8.toInt32))), x5] (.int (0 : Int32)) := Arv.set Ar_ba_3 q_ba_3 S_ba_3 N_ba_3 H_ba_3 G_ba_3 (fits_nar_byte _) W3 4 rfl (Nat.le_of_ble_eq_true rfl)
  have sz3 := own_leN (Keep.of_wr W3).1
  have N3 := Fr.snoc X3 N0 gn_ba
  refine own_pre (A' := T3.setTop (mkF m 44 #[.val (.ref ba), .val (.int (5 : Int32)), .val (.int p2)] [])) st3 ?_
  refine o_aloadN X3 hx hby D22_44 rfl rfl ?_
  refine o_iloadN X3 hx hby D22_45 rfl ?_
  refine o_iloadN X3 hx hby D22_46 rfl ?_
  have c5_O := (O0.wr W3 gn_ba)
  obtain ⟨T4, X4, e4, st4⟩ := getS2 X3 hx hZ hown (host := "") (Or.inl (wd hw 98 rfl)) Via.refl e3 (S_lb.ext c5_O.2) (g := (mkF m 47 #[.val (.ref ba), .val (.int (5 : Int32)), .val (.int p2)] [(.int p2), (.int (5 : Int32)), (.ref ba)])) rfl (hb hby D22_47.1)
  refine own_pre (A' := T4.setTop (mkF m 50 #[.val (.ref ba), .val (.int (5 : Int32)), .val (.int p2)] [(.int (8 : Int32)), (.int p2), (.int (5 : Int32)), (.ref ba)])) st4 ?_
  refine o_ishr X4 hx hby D22_50 ?_
  refine o_i2b X4 hx hby D22_51 ?_
  obtain ⟨cl_ba_6, Ar_ba_6, q_ba_6, S_ba_6, N_ba_6, H_ba_6, G_ba_6⟩ := id V_ba_3
  have hin_ba_6 : ¬ ((5 : Int32) < 0 ∨ cl_ba_6.slots.size ≤ ((5 : Int32)).toNatClampNeg) := inb_of S_ba_6 ⟨by decide, by decide⟩
  obtain ⟨T6, h6, X6, e6, W6, st6⟩ := stB X4 hx hZ e4 Ar_ba_6 (j := (5 : Int32)) hin_ba_6 (g := (mkF m 52 #[.val (.ref ba), .val (.int (5 : Int32)), .val (.int p2)] [(.int (((p2 >>> ((8 : Int32) &&& 31))).toInt8.toInt32)), (.int (5 : Int32)), (.ref ba)])) rfl rfl (hb hby D22_52.1)
  have V_ba_6 : Arv Z h6 ba kb .byte (6 : Int32) [x0, x1, x2, x3, (.int (nar .byte (((p2 >>> ((0 : Int32) &&& 31))).toInt8.toInt32))), (.int (nar .byte (((p2 >>> ((8 : Int32) &&& 31))).toInt8.toInt32)))] (.int (0 : Int32)) := Arv.set Ar_ba_6 q_ba_6 S_ba_6 N_ba_6 H_ba_6 G_ba_6 (fits_nar_byte _) W6 5 rfl (Nat.le_of_ble_eq_true rfl)
  have sz6 := own_leN (Keep.of_wr W6).1
  have N6 := Fr.snoc X6 N3 gn_ba
  refine own_pre (A' := T6.setTop (mkF m 53 #[.val (.ref ba), .val (.int (5 : Int32)), .val (.int p2)] [])) st6 ?_
  have KK : Keep h0 h6 [ba] := (((Keep.refl h0 [ba]).wr W3 (Or.inl (by simp))).wr W6 (Or.inl (by simp)))
  have VV : Arv Z h6 ba kb .byte (6 : Int32) [x0, x1, x2, x3, (.int (own_lo p2)), (.int (own_hi p2))] (.int (0 : Int32)) := V_ba_6
  exact own_ret (v := none) X6 (fun h => by first | rfl | (rw [Bd.returns] at h; cases h)) (BodyLoose.notSynchronized Bd) (by decide) (by decide) (by rw [e6]; exact ⟨rfl, N6, KK, VV⟩) (fun fs hr => X6.returnOut hx Bd.returns (hb hby D22_53.1) hr)
theorem ef_rs_gc32 (m : MethodId) (ba : Addr) : entryFrame m #[(.ref ba), (.int (2 : Int32))] 2 = mkF m 0 #[.val (.ref ba), .val (.int (2 : Int32))] [] := by first | (simp [entryFrame, mkF, argsToLocals, Value.category]; done) | rfl
set_option maxRecDepth 65536 in
set_option maxHeartbeats 40000000 in
theorem rs_gc32 (l : Launch) (Z : State) (a0 : Array Value) (hw : ∀ d ∈ tables_1, d.before a0 Z = true) (ws : List Jvm.Cond) (ba : Addr) (kb : ClassId) (c0 c1 c2 : Int32) (cs : Int32) (vf : Value) (h0 : Heap) (n0 : Nat) (Z0 : n0 ≤ h0.size) (hST : own_ST Z cs vf) (O0 : Old Z n0 h0) (Vb : Arv Z h0 ba kb .byte (6 : Int32) [(.int (own_lo c0)), (.int (own_hi c0)), (.int (own_lo c1)), (.int (own_hi c1)), (.int (own_lo c2)), (.int (own_hi c2))] (.int (0 : Int32))) (hc : own_ch16 c2) :
    own_Mt l (⟨"java/lang/StringUTF16", "getChar", "([BI)C"⟩ : MethodName) jdk_52_method_5_code 2 (some .char) ({ frames := 0, cells := 0, slots := 0, locals := 0 } : Room) #[(.ref ba), (.int (2 : Int32))] Z h0 (own_QP (.int c2) h0 n0) := by
  refine MetFree.of_bodySF (plainFor_of_name pn_java_lang_StringUTF16) hisR ?_
  intro p e s m args below meth c s₁ Bd hml0 hP hK
  obtain ⟨rfl, hZ, hh⟩ := hP
  have hx := Bd.exec
  have hby := Bd.bytes
  have hml : c.maxLocals = 2 := hml0
  have hown : s.vm.findClass "java/lang/StringUTF16" = some m.cls := findClass_of_methodNamed Bd.named
  have hnm := (name_of_methodNamed Bd.named Bd.method).1
  have X0 : Stand p l e ({ frames := 0, cells := 0, slots := 0, locals := 0 } : Room) s m #[(.ref ba), (.int (2 : Int32))] below meth c s₁ [] 0 0 := Stand.of_body Bd
  have e0 : s₁.heap = h0 := by rw [← hh, Bd.state]; rfl
  have N0 := Fr.nil n0
  refine own_start (ef_rs_gc32 m ba) ?_
  obtain ⟨S_cs, S_ad, S_hb, S_lb, S_sf, hcs, hvf⟩ := hST
  have lt_ba := own_ltN Vb.lt
  obtain ⟨T1, X1, e1, st1⟩ := getS2 X0 hx hZ hown (host := "") (Or.inl (wd hw 96 rfl)) Via.refl e0 (S_ad.ext O0.2) (g := (mkF m 0 #[.val (.ref ba), .val (.int (2 : Int32))] [])) rfl (hb hby D23_0.1)
  refine own_pre (A' := T1.setTop (mkF m 3 #[.val (.ref ba), .val (.int (2 : Int32))] [(.int (1 : Int32))])) st1 ?_
  refine o_ifY X1 hx hby D23_3 ((if0 _ _).trans (feq (by decide : ¬ ((1 : Int32) = (0 : Int32)))).2) (q := 28) (by decide) (by decide) ?_
  refine o_iloadN X1 hx hby D23_28 rfl ?_
  refine o_iconst X1 hx hby D23_29 (v := 1) rfl ?_
  refine o_ishl X1 hx hby D23_30 ?_
  rw [(by decide : ((2 : Int32) <<< ((1 : Int32) &&& 31)) = (4 : Int32))]
  refine o_istoreN X1 hx hby D23_31 (l' := #[.val (.ref ba), .val (.int (4 : Int32))]) rfl ?_
  refine o_aloadN X1 hx hby D23_32 rfl rfl ?_
  refine o_iloadN X1 hx hby D23_33 rfl ?_
  refine o_iinc X1 hx hby D23_34 rfl (l' := #[.val (.ref ba), .val (.int ((4 : Int32) + (1 : Int32)))]) rfl ?_
  rw [(by decide : ((4 : Int32) + (1 : Int32)) = (5 : Int32))]
  obtain ⟨cl_ba_2, Ar_ba_2, q_ba_2, S_ba_2, N_ba_2, H_ba_2, G_ba_2⟩ := id Vb
  have hin_ba_2 : ¬ ((4 : Int32) < 0 ∨ cl_ba_2.slots.size ≤ ((4 : Int32)).toNatClampNeg) := inb_of S_ba_2 ⟨by decide, by decide⟩
  have hat_ba_2 : cl_ba_2.slots[((4 : Int32)).toNatClampNeg]? = some (.int (own_lo c2)) := H_ba_2.at hin_ba_2 (rfl)
  refine own_pre (A' := T1.setTop (mkF m 38 #[.val (.ref ba), .val (.int (5 : Int32))] [(.int (own_lo c2))])) (fun t k => X1.baloadBytes hx (j := (4 : Int32)) (v := (.int (own_lo c2))) (by rw [e1]; exact Ar_ba_2.1) (State.isArrayOf_alike hZ.alike Ar_ba_2.2.1) Ar_ba_2.2.2 hin_ba_2 hat_ba_2 (g := (mkF m 37 #[.val (.ref ba), .val (.int (5 : Int32))] [(.int (4 : Int32)), (.ref ba)])) rfl rfl (hb hby D23_37.1) _ k) ?_
  refine o_sipush X1 hx hby D23_38 (v := 255) rfl ?_
  refine o_iand X1 hx hby D23_41 ?_
  obtain ⟨T3, X3, e3, st3⟩ := getS2 X1 hx hZ hown (host := "") (Or.inl (wd hw 97 rfl)) Via.refl e1 (S_hb.ext O0.2) (g := (mkF m 42 #[.val (.ref ba), .val (.int (5 : Int32))] [(.int ((own_lo c2) &&& (255 : Int32)))])) rfl (hb hby D23_42.1)
  refine own_pre (A' := T3.setTop (mkF m 45 #[.val (.ref ba), .val (.int (5 : Int32))] [(.int (0 : Int32)), (.int ((own_lo c2) &&& (255 : Int32)))])) st3 ?_
  refine o_ishl X3 hx hby D23_45 ?_
  refine o_aloadN X3 hx hby D23_46 rfl rfl ?_
  refine o_iloadN X3 hx hby D23_47 rfl ?_
  obtain ⟨cl_ba_4, Ar_ba_4, q_ba_4, S_ba_4, N_ba_4, H_ba_4, G_ba_4⟩ := id Vb
  have hin_ba_4 : ¬ ((5 : Int32) < 0 ∨ cl_ba_4.slots.size ≤ ((5 : Int32)).toNatClampNeg) := inb_of S_ba_4 ⟨by decide, by decide⟩
  have hat_ba_4 : cl_ba_4.slots[((5 : Int32)).toNatClampNeg]? = some (.int (own_hi c2)) := H_ba_4.at hin_ba_4 (rfl)
  refine own_pre (A' := T3.setTop (mkF m 49 #[.val (.ref ba), .val (.int (5 : Int32))] [(.int (own_hi c2)), (.int (((own_lo c2) &&& (255 : Int32)) <<< ((0 : Int32) &&& 31)))])) (fun t k => X3.baloadBytes hx (j := (5 : Int32)) (v := (.int (own_hi c2))) (by rw [e3]; exact Ar_ba_4.1) (State.isArrayOf_alike hZ.alike Ar_ba_4.2.1) Ar_ba_4.2.2 hin_ba_4 hat_ba_4 (g := (mkF m 48 #[.val (.ref ba), .val (.int (5 : Int32))] [(.int (5 : Int32)), (.ref ba), (.int (((own_lo c2) &&& (255 : Int32)) <<< ((0 : Int32) &&& 31)))])) rfl rfl (hb hby D23_48.1) _ k) ?_
  refine o_sipush X3 hx hby D23_49 (v := 255) rfl ?_
  refine o_iand X3 hx hby D23_52 ?_
  obtain ⟨T5, X5, e5, st5⟩ := getS2 X3 hx hZ hown (host := "") (Or.inl (wd hw 98 rfl)) Via.refl e3 (S_lb.ext O0.2) (g := (mkF m 53 #[.val (.ref ba), .val (.int (5 : Int32))] [(.int ((own_hi c2) &&& (255 : Int32))), (.int (((own_lo c2) &&& (255 : Int32)) <<< ((0 : Int32) &&& 31)))])) rfl (hb hby D23_53.1)
  refine own_pre (A' := T5.setTop (mkF m 56 #[.val (.ref ba), .val (.int (5 : Int32))] [(.int (8 : Int32)), (.int ((own_hi c2) &&& (255 : Int32))), (.int (((own_lo c2) &&& (255 : Int32)) <<< ((0 : Int32) &&& 31)))])) st5 ?_
  refine o_ishl X5 hx hby D23_56 ?_
  refine o_ior X5 hx hby D23_57 ?_
  refine o_i2c X5 hx hby D23_58 ?_
  exact own_ret (v := some (.int (own_gc c2))) X5 (fun h => by first | rfl | (rw [Bd.returns] at h; cases h)) (BodyLoose.notSynchronized Bd) (by decide) (by decide) (⟨by rw [own_gcEq hc], N0, e5⟩) (fun fs hr => retN X5 hx (t := .char) Bd.returns (by simp) (hb hby D23_59.1) hr)
def own_QTb1 (Z : State) (c0 : Int32) (h0 : Heap) (n0 : Nat) (v : Option Value) (h : Heap) (L : List Loc) : Prop := ∃ (r : Nat) (kr : ClassId), v = some (.ref r) ∧ Fr n0 L ∧ Keep h0 h [] ∧ h0.size ≤ r ∧ Arv Z h r kr .byte (2 : Int32) [(.int (own_lo c0)), (.int (own_hi c0))] (.int (0 : Int32))
theorem pd__40I_41_91B : parseMethodDescriptor "(I)[B" = some ⟨[.int], some (.array .byte)⟩ := by decide +kernel
theorem pd__40_91BII_41V : parseMethodDescriptor "([BII)V" = some ⟨[(.array .byte), .int, .int], none⟩ := by decide +kernel
theorem D19_0 : own_at jdk_52_method_14_code 0 (.iload_n 2) 1 1 := ⟨by decide +kernel, rfl⟩
theorem D19_1 : own_at jdk_52_method_14_code 1 (.invokestatic 107) 3 4 := ⟨by decide +kernel, rfl⟩
theorem D19_4 : own_at jdk_52_method_14_code 4 (.astore_n 3) 1 5 := ⟨by decide +kernel, rfl⟩
theorem D19_5 : own_at jdk_52_method_14_code 5 (.iconst 0) 1 6 := ⟨by decide +kernel, rfl⟩
theorem D19_6 : own_at jdk_52_method_14_code 6 (.istore 4) 2 8 := ⟨by decide +kernel, rfl⟩
theorem D19_8 : own_at jdk_52_method_14_code 8 (.iload 4) 2 10 := ⟨by decide +kernel, rfl⟩
theorem D19_10 : own_at jdk_52_method_14_code 10 (.iload_n 2) 1 11 := ⟨by decide +kernel, rfl⟩
theorem D19_11 : own_at jdk_52_method_14_code 11 (.if_icmp .ge 21) 3 14 := ⟨by decide +kernel, rfl⟩
theorem D19_14 : own_at jdk_52_method_14_code 14 (.aload_n 3) 1 15 := ⟨by decide +kernel, rfl⟩
theorem D19_15 : own_at jdk_52_method_14_code 15 (.iload 4) 2 17 := ⟨by decide +kernel, rfl⟩
theorem D19_17 : own_at jdk_52_method_14_code 17 (.aload_n 0) 1 18 := ⟨by decide +kernel, rfl⟩
theorem D19_18 : own_at jdk_52_method_14_code 18 (.iload_n 1) 1 19 := ⟨by decide +kernel, rfl⟩
theorem D19_19 : own_at jdk_52_method_14_code 19 (.caload) 1 20 := ⟨by decide +kernel, rfl⟩
theorem D19_20 : own_at jdk_52_method_14_code 20 (.invokestatic 111) 3 23 := ⟨by decide +kernel, rfl⟩
theorem D19_23 : own_at jdk_52_method_14_code 23 (.iinc 1 1) 3 26 := ⟨by decide +kernel, rfl⟩
theorem D19_26 : own_at jdk_52_method_14_code 26 (.iinc 4 1) 3 29 := ⟨by decide +kernel, rfl⟩
theorem D19_29 : own_at jdk_52_method_14_code 29 (.goto (-21)) 3 32 := ⟨by decide +kernel, rfl⟩
theorem D19_32 : own_at jdk_52_method_14_code 32 (.aload_n 3) 1 33 := ⟨by decide +kernel, rfl⟩
theorem D19_33 : own_at jdk_52_method_14_code 33 (.areturn) 1 34 := ⟨by decide +kernel, rfl⟩
theorem ef_rs_tb1 (m : MethodId) (ca : Addr) : entryFrame m #[(.ref ca), (.int (0 : Int32)), (.int (1 : Int32))] 5 = mkF m 0 #[.val (.ref ca), .val (.int (0 : Int32)), .val (.int (1 : Int32)), .unset, .unset] [] := by first | (simp [entryFrame, mkF, argsToLocals, Value.category]; done) | rfl
set_option maxRecDepth 65536 in
set_option maxHeartbeats 40000000 in
theorem rs_tb1 (l : Launch) (Z : State) (a0 : Array Value) (hw : ∀ d ∈ tables_1, d.before a0 Z = true) (ws : List Jvm.Cond) (ca : Addr) (kc : ClassId) (c0 : Int32) (cs : Int32) (vf : Value) (h0 : Heap) (n0 : Nat) (Z0 : n0 ≤ h0.size) (hST : own_ST Z cs vf) (O0 : Old Z n0 h0) (Vc : Arv Z h0 ca kc .char (1 : Int32) [(.int c0)] (.int (0 : Int32))) :
    own_Mt l (⟨"java/lang/StringUTF16", "toBytes", "([CII)[B"⟩ : MethodName) jdk_52_method_14_code 5 (some (.array .byte)) ({ frames := 2, cells := 1, slots := 2, locals := 24 } : Room) #[(.ref ca), (.int (0 : Int32)), (.int (1 : Int32))] Z h0 (own_QTb1 Z c0 h0 n0) := by
  refine MetFree.of_bodySF (plainFor_of_name pn_java_lang_StringUTF16) hisR ?_
  intro p e s m args below meth c s₁ Bd hml0 hP hK
  obtain ⟨rfl, hZ, hh⟩ := hP
  have hx := Bd.exec
  have hby := Bd.bytes
  have hml : c.maxLocals = 5 := hml0
  have hown : s.vm.findClass "java/lang/StringUTF16" = some m.cls := findClass_of_methodNamed Bd.named
  have hnm := (name_of_methodNamed Bd.named Bd.method).1
  have X0 : Stand p l e ({ frames := 2, cells := 1, slots := 2, locals := 24 } : Room) s m #[(.ref ca), (.int (0 : Int32)), (.int (1 : Int32))] below meth c s₁ [] 0 0 := Stand.of_body Bd
  have e0 : s₁.heap = h0 := by rw [← hh, Bd.state]; rfl
  have N0 := Fr.nil n0
  refine own_start (ef_rs_tb1 m ca) ?_
  have hST0 := hST
  obtain ⟨S_cs, S_ad, S_hb, S_lb, S_sf, hcs, hvf⟩ := hST
  have lt_ca := own_ltN Vc.lt
  refine o_iloadN X0 hx hby D19_0 rfl ?_
  refine kS X0 hx hZ hown hby (wd hw 86 rfl) (wd hw 87 rfl) (wd hw 24 rfl) (wd hw 88 rfl) (rs_nbf1 l Z a0 hw []  h0 n0 Z0 ) (by decide) (by decide) (by decide) (by decide) (by decide) (by rw [hml]; rfl) [(.int (1 : Int32))] [] (lenOf pd__40I_41_91B rfl) (W := 0) rfl rfl D19_1 rfl e0 ?_
  intro v1 T1 L1 X1 hQ1
  obtain ⟨r1, kr1, rfl, N1q, K1, ge1, Vr1⟩ := hQ1
  have sz1 := own_leN K1.1
  have ge1' := own_leN ge1
  have lt_r1 := own_ltN Vr1.lt
  have gn_r1 : n0 ≤ r1 := own_leN (by omega)
  have N1 := Fr.app N0 N1q
  refine own_sh (A' := T1.setTop (mkF m 4 _ [(.ref r1)])) ?_
  refine o_astoreN X1 hx hby D19_4 rfl (l' := #[.val (.ref ca), .val (.int (0 : Int32)), .val (.int (1 : Int32)), .val (.ref r1), .unset]) rfl ?_
  refine o_iconst X1 hx hby D19_5 (v := 0) rfl ?_
  refine o_istore X1 hx hby D19_6 (l' := #[.val (.ref ca), .val (.int (0 : Int32)), .val (.int (1 : Int32)), .val (.ref r1), .val (.int (0 : Int32))]) rfl ?_
  refine o_iload X1 hx hby D19_8 rfl ?_
  refine o_iloadN X1 hx hby D19_10 rfl ?_
  refine o_icmpN X1 hx hby D19_11 (tlt (by decide : (0 : Int32) < (1 : Int32))).2.1 ?_
  refine o_aloadN X1 hx hby D19_14 rfl rfl ?_
  refine o_iload X1 hx hby D19_15 rfl ?_
  refine o_aloadN X1 hx hby D19_17 rfl rfl ?_
  refine o_iloadN X1 hx hby D19_18 rfl ?_
  have c3_V_ca := (Vc.keep K1 nin0)
  obtain ⟨cl_ca_2, Ar_ca_2, q_ca_2, S_ca_2, N_ca_2, H_ca_2, G_ca_2⟩ := id c3_V_ca
  have hin_ca_2 : ¬ ((0 : Int32) < 0 ∨ cl_ca_2.slots.size ≤ ((0 : Int32)).toNatClampNeg) := inb_of S_ca_2 ⟨by decide, by decide⟩
  have hat_ca_2 : cl_ca_2.slots[((0 : Int32)).toNatClampNeg]? = some (.int c0) := H_ca_2.at hin_ca_2 (rfl)
  refine own_pre (A' := T1.setTop (mkF m 20 #[.val (.ref ca), .val (.int (0 : Int32)), .val (.int (1 : Int32)), .val (.ref r1), .val (.int (0 : Int32))] [(.int c0), (.int (0 : Int32)), (.ref r1)])) (fun t k => X1.caload hx (j := (0 : Int32)) (v := (.int c0)) Ar_ca_2.1 (State.isArrayOf_alike hZ.alike Ar_ca_2.2.1) Ar_ca_2.2.2 hin_ca_2 hat_ca_2 (g := (mkF m 19 #[.val (.ref ca), .val (.int (0 : Int32)), .val (.int (1 : Int32)), .val (.ref r1), .val (.int (0 : Int32))] [(.int (0 : Int32)), (.ref ca), (.int (0 : Int32)), (.ref r1)])) rfl rfl (hb hby D19_19.1) _ k) ?_
  have c5_O := (O0.keep K1 all0)
  refine kS X1 hx hZ hown hby (wd hw 93 rfl) (wd hw 94 rfl) (wd hw 24 rfl) (wd hw 95 rfl) (rs_pc10 l Z a0 hw [] r1 c0 kr1 (.int (0 : Int32)) (.int (0 : Int32)) cs vf T1.heap n0 (own_leN (by omega)) hST0 c5_O gn_r1 Vr1) (by decide) (by decide) (by decide) (by decide) (by decide) (by rw [hml]; rfl) [(.ref r1), (.int (0 : Int32)), (.int c0)] [] (lenOf pd__40_91BII_41V rfl) (W := 0) rfl rfl D19_20 rfl rfl ?_
  intro v4 T4 L4 X4 hQ4
  obtain ⟨rfl, N4q, K4, Vp4⟩ := hQ4
  have sz4 := own_leN K4.1
  have N4 := Fr.app N1 N4q
  refine own_sh (A' := T4.setTop (mkF m 23 _ [])) ?_
  refine o_iinc X4 hx hby D19_23 rfl (l' := #[.val (.ref ca), .val (.int ((0 : Int32) + (1 : Int32))), .val (.int (1 : Int32)), .val (.ref r1), .val (.int (0 : Int32))]) rfl ?_
  rw [(by decide : ((0 : Int32) + (1 : Int32)) = (1 : Int32))]
  refine o_iinc X4 hx hby D19_26 rfl (l' := #[.val (.ref ca), .val (.int (1 : Int32)), .val (.int (1 : Int32)), .val (.ref r1), .val (.int ((0 : Int32) + (1 : Int32)))]) rfl ?_
  rw [(by decide : ((0 : Int32) + (1 : Int32)) = (1 : Int32))]
  refine o_goto X4 hx hby D19_29 (q := 8) (by decide) (by decide) ?_
  refine o_iload X4 hx hby D19_8 rfl ?_
  refine o_iloadN X4 hx hby D19_10 rfl ?_
  refine o_icmpY X4 hx hby D19_11 (flt (by decide : ¬ ((1 : Int32) < (1 : Int32)))).2.1 (q := 32) (by decide) (by decide) ?_
  refine o_aloadN X4 hx hby D19_32 rfl rfl ?_
  have KK : Keep h0 T4.heap [] := (((Keep.refl h0 []).trans K1 all0).trans K4 (allS (Or.inr (own_leN (by omega))) all0))
  exact own_ret (v := some (.ref r1)) X4 (fun h => by first | rfl | (rw [Bd.returns] at h; cases h)) (BodyLoose.notSynchronized Bd) (by decide) (by decide) (⟨r1, kr1, rfl, N4, KK, own_leN (by omega), Vp4⟩) (fun fs hr => retOut X4 hx Bd.returns rfl (Or.inr (Or.inr (Or.inr (Or.inr ⟨rfl, rfl, rfl⟩)))) (hb hby D19_33.1) hr)
def own_Q51 (Z : State) (dst : Addr) (kd : ClassId) (c0 : Int32) (h0 : Heap) (n0 : Nat) (v : Option Value) (h : Heap) (L : List Loc) : Prop := Fr n0 L ∧ Keep h0 h [dst] ∧ ((v = some (.int (1 : Int32)) ∧ (¬ ((255 : Int32) < c0)) ∧ Arv Z h dst kd .byte (1 : Int32) [(.int (own_l8 c0))] (.int (0 : Int32))) ∨ (v = some (.int (0 : Int32)) ∧ (255 : Int32) < c0))
theorem D7_0 : own_at jdk_52_method_21_code 0 (.iconst 0) 1 1 := ⟨by decide +kernel, rfl⟩
theorem D7_1 : own_at jdk_52_method_21_code 1 (.istore 5) 2 3 := ⟨by decide +kernel, rfl⟩
theorem D7_3 : own_at jdk_52_method_21_code 3 (.iload 5) 2 5 := ⟨by decide +kernel, rfl⟩
theorem D7_5 : own_at jdk_52_method_21_code 5 (.iload 4) 2 7 := ⟨by decide +kernel, rfl⟩
theorem D7_7 : own_at jdk_52_method_21_code 7 (.if_icmp .ge 37) 3 10 := ⟨by decide +kernel, rfl⟩
theorem D7_10 : own_at jdk_52_method_21_code 10 (.aload_n 0) 1 11 := ⟨by decide +kernel, rfl⟩
theorem D7_11 : own_at jdk_52_method_21_code 11 (.iload_n 1) 1 12 := ⟨by decide +kernel, rfl⟩
theorem D7_12 : own_at jdk_52_method_21_code 12 (.caload) 1 13 := ⟨by decide +kernel, rfl⟩
theorem D7_13 : own_at jdk_52_method_21_code 13 (.istore 6) 2 15 := ⟨by decide +kernel, rfl⟩
theorem D7_15 : own_at jdk_52_method_21_code 15 (.iload 6) 2 17 := ⟨by decide +kernel, rfl⟩
theorem D7_17 : own_at jdk_52_method_21_code 17 (.sipush 255) 3 20 := ⟨by decide +kernel, rfl⟩
theorem D7_20 : own_at jdk_52_method_21_code 20 (.if_icmp .le 6) 3 23 := ⟨by decide +kernel, rfl⟩
theorem D7_23 : own_at jdk_52_method_21_code 23 (.iload 5) 2 25 := ⟨by decide +kernel, rfl⟩
theorem D7_25 : own_at jdk_52_method_21_code 25 (.ireturn) 1 26 := ⟨by decide +kernel, rfl⟩
theorem D7_26 : own_at jdk_52_method_21_code 26 (.aload_n 2) 1 27 := ⟨by decide +kernel, rfl⟩
theorem D7_27 : own_at jdk_52_method_21_code 27 (.iload_n 3) 1 28 := ⟨by decide +kernel, rfl⟩
theorem D7_28 : own_at jdk_52_method_21_code 28 (.iload 6) 2 30 := ⟨by decide +kernel, rfl⟩
theorem D7_30 : own_at jdk_52_method_21_code 30 (.i2b) 1 31 := ⟨by decide +kernel, rfl⟩
theorem D7_31 : own_at jdk_52_method_21_code 31 (.bastore) 1 32 := ⟨by decide +kernel, rfl⟩
theorem D7_32 : own_at jdk_52_method_21_code 32 (.iinc 1 1) 3 35 := ⟨by decide +kernel, rfl⟩
theorem D7_35 : own_at jdk_52_method_21_code 35 (.iinc 3 1) 3 38 := ⟨by decide +kernel, rfl⟩
theorem D7_38 : own_at jdk_52_method_21_code 38 (.iinc 5 1) 3 41 := ⟨by decide +kernel, rfl⟩
theorem D7_41 : own_at jdk_52_method_21_code 41 (.goto (-38)) 3 44 := ⟨by decide +kernel, rfl⟩
theorem D7_44 : own_at jdk_52_method_21_code 44 (.iload 4) 2 46 := ⟨by decide +kernel, rfl⟩
theorem D7_46 : own_at jdk_52_method_21_code 46 (.ireturn) 1 47 := ⟨by decide +kernel, rfl⟩
theorem ef_rs_c51 (m : MethodId) (ca : Addr) (dst : Addr) : entryFrame m #[(.ref ca), (.int (0 : Int32)), (.ref dst), (.int (0 : Int32)), (.int (1 : Int32))] 7 = mkF m 0 #[.val (.ref ca), .val (.int (0 : Int32)), .val (.ref dst), .val (.int (0 : Int32)), .val (.int (1 : Int32)), .unset, .unset] [] := by first | (simp [entryFrame, mkF, argsToLocals, Value.category]; done) | rfl
set_option maxRecDepth 65536 in
set_option maxHeartbeats 40000000 in
theorem rs_c51 (l : Launch) (Z : State) (a0 : Array Value) (hw : ∀ d ∈ tables_1, d.before a0 Z = true) (ws : List Jvm.Cond) (ca : Addr) (dst : Addr) (kc kd : ClassId) (c0 : Int32) (h0 : Heap) (n0 : Nat) (Z0 : n0 ≤ h0.size) (Vc : Arv Z h0 ca kc .char (1 : Int32) [(.int c0)] (.int (0 : Int32))) (Vd : Arv Z h0 dst kd .byte (1 : Int32) [(.int (0 : Int32))] (.int (0 : Int32))) (gn_dst : n0 ≤ dst) (ncd : @LT.lt Nat instLTNat ca dst) :
    own_Mt l (⟨"java/lang/StringUTF16", "compress", "([CI[BII)I"⟩ : MethodName) jdk_52_method_21_code 7 (some .int) ({ frames := 0, cells := 0, slots := 0, locals := 0 } : Room) #[(.ref ca), (.int (0 : Int32)), (.ref dst), (.int (0 : Int32)), (.int (1 : Int32))] Z h0 (own_Q51 Z dst kd c0 h0 n0) := by
  refine MetFree.of_bodySF (plainFor_of_name pn_java_lang_StringUTF16) hisR ?_
  intro p e s m args below meth c s₁ Bd hml0 hP hK
  obtain ⟨rfl, hZ, hh⟩ := hP
  have hx := Bd.exec
  have hby := Bd.bytes
  have hml : c.maxLocals = 7 := hml0
  have hown : s.vm.findClass "java/lang/StringUTF16" = some m.cls := findClass_of_methodNamed Bd.named
  have hnm := (name_of_methodNamed Bd.named Bd.method).1
  have X0 : Stand p l e ({ frames := 0, cells := 0, slots := 0, locals := 0 } : Room) s m #[(.ref ca), (.int (0 : Int32)), (.ref dst), (.int (0 : Int32)), (.int (1 : Int32))] below meth c s₁ [] 0 0 := Stand.of_body Bd
  have e0 : s₁.heap = h0 := by rw [← hh, Bd.state]; rfl
  have N0 := Fr.nil n0
  refine own_start (ef_rs_c51 m ca dst) ?_
  have lt_ca := own_ltN Vc.lt
  have lt_dst := own_ltN Vd.lt
  refine o_iconst X0 hx hby D7_0 (v := 0) rfl ?_
  refine o_istore X0 hx hby D7_1 (l' := #[.val (.ref ca), .val (.int (0 : Int32)), .val (.ref dst), .val (.int (0 : Int32)), .val (.int (1 : Int32)), .val (.int (0 : Int32)), .unset]) rfl ?_
  refine o_iload X0 hx hby D7_3 rfl ?_
  refine o_iload X0 hx hby D7_5 rfl ?_
  refine o_icmpN X0 hx hby D7_7 (tlt (by decide : (0 : Int32) < (1 : Int32))).2.1 ?_
  refine o_aloadN X0 hx hby D7_10 rfl rfl ?_
  refine o_iloadN X0 hx hby D7_11 rfl ?_
  obtain ⟨cl_ca_1, Ar_ca_1, q_ca_1, S_ca_1, N_ca_1, H_ca_1, G_ca_1⟩ := id Vc
  have hin_ca_1 : ¬ ((0 : Int32) < 0 ∨ cl_ca_1.slots.size ≤ ((0 : Int32)).toNatClampNeg) := inb_of S_ca_1 ⟨by decide, by decide⟩
  have hat_ca_1 : cl_ca_1.slots[((0 : Int32)).toNatClampNeg]? = some (.int c0) := H_ca_1.at hin_ca_1 (rfl)
  refine own_pre (A' := s₁.setTop (mkF m 13 #[.val (.ref ca), .val (.int (0 : Int32)), .val (.ref dst), .val (.int (0 : Int32)), .val (.int (1 : Int32)), .val (.int (0 : Int32)), .unset] [(.int c0)])) (fun t k => X0.caload hx (j := (0 : Int32)) (v := (.int c0)) (by rw [e0]; exact Ar_ca_1.1) (State.isArrayOf_alike hZ.alike Ar_ca_1.2.1) Ar_ca_1.2.2 hin_ca_1 hat_ca_1 (g := (mkF m 12 #[.val (.ref ca), .val (.int (0 : Int32)), .val (.ref dst), .val (.int (0 : Int32)), .val (.int (1 : Int32)), .val (.int (0 : Int32)), .unset] [(.int (0 : Int32)), (.ref ca)])) rfl rfl (hb hby D7_12.1) _ k) ?_
  refine o_istore X0 hx hby D7_13 (l' := #[.val (.ref ca), .val (.int (0 : Int32)), .val (.ref dst), .val (.int (0 : Int32)), .val (.int (1 : Int32)), .val (.int (0 : Int32)), .val (.int c0)]) rfl ?_
  refine o_iload X0 hx hby D7_15 rfl ?_
  refine o_sipush X0 hx hby D7_17 (v := 255) rfl ?_
  by_cases hc20_2 : (255 : Int32) < c0
  · skip
    refine o_icmpN X0 hx hby D7_20 (tlt hc20_2).2.2.2 ?_
    refine o_iload X0 hx hby D7_23 rfl ?_
    have KK : Keep h0 h0 [dst] := (Keep.refl h0 [dst])
    exact own_ret (v := some (.int (0 : Int32))) X0 (fun h => by first | rfl | (rw [Bd.returns] at h; cases h)) (BodyLoose.notSynchronized Bd) (by decide) (by decide) (by rw [e0]; exact ⟨N0, KK, (Or.inr ⟨rfl, hc20_2⟩)⟩) (fun fs hr => retI X0 hx Bd.returns (hb hby D7_25.1) hr)
  · skip
    refine o_icmpY X0 hx hby D7_20 (flt hc20_2).2.2.2 (q := 26) (by decide) (by decide) ?_
    refine o_aloadN X0 hx hby D7_26 rfl rfl ?_
    refine o_iloadN X0 hx hby D7_27 rfl ?_
    refine o_iload X0 hx hby D7_28 rfl ?_
    refine o_i2b X0 hx hby D7_30 ?_
    obtain ⟨cl_dst_3, Ar_dst_3, q_dst_3, S_dst_3, N_dst_3, H_dst_3, G_dst_3⟩ := id Vd
    have hin_dst_3 : ¬ ((0 : Int32) < 0 ∨ cl_dst_3.slots.size ≤ ((0 : Int32)).toNatClampNeg) := inb_of S_dst_3 ⟨by decide, by decide⟩
    obtain ⟨T3, h3, X3, e3, W3, st3⟩ := stB X0 hx hZ e0 Ar_dst_3 (j := (0 : Int32)) hin_dst_3 (g := (mkF m 31 #[.val (.ref ca), .val (.int (0 : Int32)), .val (.ref dst), .val (.int (0 : Int32)), .val (.int (1 : Int32)), .val (.int (0 : Int32)), .val (.int c0)] [(.int ((c0).toInt8.toInt32)), (.int (0 : Int32)), (.ref dst)])) rfl rfl (hb hby D7_31.1)
    have V_dst_3 : Arv Z h3 dst kd .byte (1 : Int32) [(.int (nar .byte ((c0).toInt8.toInt32)))] (.int (0 : Int32)) := Arv.set Ar_dst_3 q_dst_3 S_dst_3 N_dst_3 H_dst_3 G_dst_3 (fits_nar_byte _) W3 0 rfl (Nat.le_of_ble_eq_true rfl)
    have sz3 := own_leN (Keep.of_wr W3).1
    have N3 := Fr.snoc X3 N0 gn_dst
    refine own_pre (A' := T3.setTop (mkF m 32 #[.val (.ref ca), .val (.int (0 : Int32)), .val (.ref dst), .val (.int (0 : Int32)), .val (.int (1 : Int32)), .val (.int (0 : Int32)), .val (.int c0)] [])) st3 ?_
    refine o_iinc X3 hx hby D7_32 rfl (l' := #[.val (.ref ca), .val (.int ((0 : Int32) + (1 : Int32))), .val (.ref dst), .val (.int (0 : Int32)), .val (.int (1 : Int32)), .val (.int (0 : Int32)), .val (.int c0)]) rfl ?_
    rw [(by decide : ((0 : Int32) + (1 : Int32)) = (1 : Int32))]
    refine o_iinc X3 hx hby D7_35 rfl (l' := #[.val (.ref ca), .val (.int (1 : Int32)), .val (.ref dst), .val (.int ((0 : Int32) + (1 : Int32))), .val (.int (1 : Int32)), .val (.int (0 : Int32)), .val (.int c0)]) rfl ?_
    rw [(by decide : ((0 : Int32) + (1 : Int32)) = (1 : Int32))]
    refine o_iinc X3 hx hby D7_38 rfl (l' := #[.val (.ref ca), .val (.int (1 : Int32)), .val (.ref dst), .val (.int (1 : Int32)), .val (.int (1 : Int32)), .val (.int ((0 : Int32) + (1 : Int32))), .val (.int c0)]) rfl ?_
    rw [(by decide : ((0 : Int32) + (1 : Int32)) = (1 : Int32))]
    refine o_goto X3 hx hby D7_41 (q := 3) (by decide) (by decide) ?_
    refine o_iload X3 hx hby D7_3 rfl ?_
    refine o_iload X3 hx hby D7_5 rfl ?_
    refine o_icmpY X3 hx hby D7_7 (flt (by decide : ¬ ((1 : Int32) < (1 : Int32)))).2.1 (q := 44) (by decide) (by decide) ?_
    refine o_iload X3 hx hby D7_44 rfl ?_
    have KK : Keep h0 h3 [dst] := ((Keep.refl h0 [dst]).wr W3 (Or.inl (by simp)))
    have VV : Arv Z h3 dst kd .byte (1 : Int32) [(.int (own_l8 c0))] (.int (0 : Int32)) := V_dst_3
    exact own_ret (v := some (.int (1 : Int32))) X3 (fun h => by first | rfl | (rw [Bd.returns] at h; cases h)) (BodyLoose.notSynchronized Bd) (by decide) (by decide) (by rw [e3]; exact ⟨N3, KK, (Or.inl ⟨rfl, hc20_2, VV⟩)⟩) (fun fs hr => retI X3 hx Bd.returns (hb hby D7_46.1) hr)
def own_Q31 (Z : State) (c0 : Int32) (h0 : Heap) (n0 : Nat) (v : Option Value) (h : Heap) (L : List Loc) : Prop := ∃ (r : Nat) (kr : ClassId), v = some (.ref r) ∧ Fr n0 L ∧ Keep h0 h [] ∧ h0.size ≤ r ∧ (((¬ ((255 : Int32) < c0)) ∧ Arv Z h r kr .byte (1 : Int32) [(.int (own_l8 c0))] (.int (0 : Int32))) ∨ Arv Z h r kr .byte (2 : Int32) [(.int (own_lo c0)), (.int (own_hi c0))] (.int (0 : Int32)))
theorem pd__40_91CI_91BII_41I : parseMethodDescriptor "([CI[BII)I" = some ⟨[(.array .char), .int, (.array .byte), .int, .int], some .int⟩ := by decide +kernel
theorem pd__40_91CII_41_91B : parseMethodDescriptor "([CII)[B" = some ⟨[(.array .char), .int, .int], some (.array .byte)⟩ := by decide +kernel
theorem pd__40_91BI_41C : parseMethodDescriptor "([BI)C" = some ⟨[(.array .byte), .int], some .char⟩ := by decide +kernel
theorem D6_0 : own_at jdk_52_method_16_code 0 (.iload_n 2) 1 1 := ⟨by decide +kernel, rfl⟩
theorem D6_1 : own_at jdk_52_method_16_code 1 (.newarray .byte) 2 3 := ⟨by decide +kernel, rfl⟩
theorem D6_3 : own_at jdk_52_method_16_code 3 (.astore_n 3) 1 4 := ⟨by decide +kernel, rfl⟩
theorem D6_4 : own_at jdk_52_method_16_code 4 (.aload_n 0) 1 5 := ⟨by decide +kernel, rfl⟩
theorem D6_5 : own_at jdk_52_method_16_code 5 (.iload_n 1) 1 6 := ⟨by decide +kernel, rfl⟩
theorem D6_6 : own_at jdk_52_method_16_code 6 (.aload_n 3) 1 7 := ⟨by decide +kernel, rfl⟩
theorem D6_7 : own_at jdk_52_method_16_code 7 (.iconst 0) 1 8 := ⟨by decide +kernel, rfl⟩
theorem D6_8 : own_at jdk_52_method_16_code 8 (.iload_n 2) 1 9 := ⟨by decide +kernel, rfl⟩
theorem D6_9 : own_at jdk_52_method_16_code 9 (.invokestatic 115) 3 12 := ⟨by decide +kernel, rfl⟩
theorem D6_12 : own_at jdk_52_method_16_code 12 (.istore 4) 2 14 := ⟨by decide +kernel, rfl⟩
theorem D6_14 : own_at jdk_52_method_16_code 14 (.iload 4) 2 16 := ⟨by decide +kernel, rfl⟩
theorem D6_16 : own_at jdk_52_method_16_code 16 (.iload_n 2) 1 17 := ⟨by decide +kernel, rfl⟩
theorem D6_17 : own_at jdk_52_method_16_code 17 (.if_icmp .eq 40) 3 20 := ⟨by decide +kernel, rfl⟩
theorem D6_20 : own_at jdk_52_method_16_code 20 (.aload_n 0) 1 21 := ⟨by decide +kernel, rfl⟩
theorem D6_21 : own_at jdk_52_method_16_code 21 (.iload_n 1) 1 22 := ⟨by decide +kernel, rfl⟩
theorem D6_22 : own_at jdk_52_method_16_code 22 (.iload_n 2) 1 23 := ⟨by decide +kernel, rfl⟩
theorem D6_23 : own_at jdk_52_method_16_code 23 (.invokestatic 119) 3 26 := ⟨by decide +kernel, rfl⟩
theorem D6_26 : own_at jdk_52_method_16_code 26 (.astore 5) 2 28 := ⟨by decide +kernel, rfl⟩
theorem D6_28 : own_at jdk_52_method_16_code 28 (.aload 5) 2 30 := ⟨by decide +kernel, rfl⟩
theorem D6_30 : own_at jdk_52_method_16_code 30 (.iload 4) 2 32 := ⟨by decide +kernel, rfl⟩
theorem D6_32 : own_at jdk_52_method_16_code 32 (.invokestatic 71) 3 35 := ⟨by decide +kernel, rfl⟩
theorem D6_35 : own_at jdk_52_method_16_code 35 (.sipush 255) 3 38 := ⟨by decide +kernel, rfl⟩
theorem D6_38 : own_at jdk_52_method_16_code 38 (.if_icmp .gt 16) 3 41 := ⟨by decide +kernel, rfl⟩
theorem D6_54 : own_at jdk_52_method_16_code 54 (.aload 5) 2 56 := ⟨by decide +kernel, rfl⟩
theorem D6_56 : own_at jdk_52_method_16_code 56 (.areturn) 1 57 := ⟨by decide +kernel, rfl⟩
theorem D6_57 : own_at jdk_52_method_16_code 57 (.aload_n 3) 1 58 := ⟨by decide +kernel, rfl⟩
theorem D6_58 : own_at jdk_52_method_16_code 58 (.areturn) 1 59 := ⟨by decide +kernel, rfl⟩
theorem ef_rs_c31 (m : MethodId) (ca : Addr) : entryFrame m #[(.ref ca), (.int (0 : Int32)), (.int (1 : Int32))] 6 = mkF m 0 #[.val (.ref ca), .val (.int (0 : Int32)), .val (.int (1 : Int32)), .unset, .unset, .unset] [] := by first | (simp [entryFrame, mkF, argsToLocals, Value.category]; done) | rfl
set_option maxRecDepth 65536 in
set_option maxHeartbeats 40000000 in
theorem rs_c31 (l : Launch) (Z : State) (a0 : Array Value) (hw : ∀ d ∈ tables_1, d.before a0 Z = true) (ws : List Jvm.Cond) (ca : Addr) (kc : ClassId) (c0 : Int32) (cs : Int32) (vf : Value) (h0 : Heap) (n0 : Nat) (Z0 : n0 ≤ h0.size) (hST : own_ST Z cs vf) (O0 : Old Z n0 h0) (Vc : Arv Z h0 ca kc .char (1 : Int32) [(.int c0)] (.int (0 : Int32))) (hc0 : own_ch16 c0) :
    own_Mt l (⟨"java/lang/StringUTF16", "compress", "([CII)[B"⟩ : MethodName) jdk_52_method_16_code 6 (some (.array .byte)) ({ frames := 3, cells := 2, slots := 3, locals := 40 } : Room) #[(.ref ca), (.int (0 : Int32)), (.int (1 : Int32))] Z h0 (own_Q31 Z c0 h0 n0) := by
  refine MetFree.of_bodySF (plainFor_of_name pn_java_lang_StringUTF16) hisR ?_
  intro p e s m args below meth c s₁ Bd hml0 hP hK
  obtain ⟨rfl, hZ, hh⟩ := hP
  have hx := Bd.exec
  have hby := Bd.bytes
  have hml : c.maxLocals = 6 := hml0
  have hown : s.vm.findClass "java/lang/StringUTF16" = some m.cls := findClass_of_methodNamed Bd.named
  have hnm := (name_of_methodNamed Bd.named Bd.method).1
  have X0 : Stand p l e ({ frames := 3, cells := 2, slots := 3, locals := 40 } : Room) s m #[(.ref ca), (.int (0 : Int32)), (.int (1 : Int32))] below meth c s₁ [] 0 0 := Stand.of_body Bd
  have e0 : s₁.heap = h0 := by rw [← hh, Bd.state]; rfl
  have N0 := Fr.nil n0
  refine own_start (ef_rs_c31 m ca) ?_
  have hST0 := hST
  obtain ⟨S_cs, S_ad, S_hb, S_lb, S_sf, hcs, hvf⟩ := hST
  have lt_ca := own_ltN Vc.lt
  refine o_iloadN X0 hx hby D6_0 rfl ?_
  obtain ⟨T1, h1, k1, X1, e1, E1, A1, Ex1, st1⟩ := newPE X0 hx hZ (wd hw 26 rfl) e0 (g := (mkF m 1 #[.val (.ref ca), .val (.int (0 : Int32)), .val (.int (1 : Int32)), .unset, .unset, .unset] [(.int (1 : Int32))])) rfl (hb hby D6_1.1) rfl (by decide) (cap := 1) (by decide) (by decide) (by decide) (by decide) (ad := "[B") (by first | rfl | decide)
  obtain ⟨b1, g1⟩ : ∃ z : Nat, z = h0.size := ⟨_, rfl⟩
  rw [← g1] at A1 Ex1 st1
  have sz1 := own_leN E1.1
  have gn_b1 : n0 ≤ b1 := by omega
  have V_b1 : Arv Z h1 b1 k1 .byte (1 : Int32) [(.int (0 : Int32))] (.int (0 : Int32)) := (Arv.new A1 (by decide)).pad (pad_rep [] (.int (0 : Int32)) 1)
  have lt_b1 := own_ltN V_b1.lt
  refine own_pre (A' := T1.setTop (mkF m 3 #[.val (.ref ca), .val (.int (0 : Int32)), .val (.int (1 : Int32)), .unset, .unset, .unset] [(.ref b1)])) st1 ?_
  refine o_astoreN X1 hx hby D6_3 rfl (l' := #[.val (.ref ca), .val (.int (0 : Int32)), .val (.int (1 : Int32)), .val (.ref b1), .unset, .unset]) rfl ?_
  refine o_aloadN X1 hx hby D6_4 rfl rfl ?_
  refine o_iloadN X1 hx hby D6_5 rfl ?_
  refine o_aloadN X1 hx hby D6_6 rfl rfl ?_
  refine o_iconst X1 hx hby D6_7 (v := 0) rfl ?_
  refine o_iloadN X1 hx hby D6_8 rfl ?_
  have c3_V_ca := (Vc.ext E1)
  refine kS X1 hx hZ hown hby (wd hw 27 rfl) (wd hw 28 rfl) (wd hw 24 rfl) (wd hw 29 rfl) (rs_c51 l Z a0 hw [] ca b1 kc k1 c0 h1 n0 (own_leN (by omega)) c3_V_ca V_b1 gn_b1 (by omega)) (by decide) (by decide) (by decide) (by decide) (by decide) (by rw [hml]; rfl) [(.ref ca), (.int (0 : Int32)), (.ref b1), (.int (0 : Int32)), (.int (1 : Int32))] [] (lenOf pd__40_91CI_91BII_41I rfl) (W := 0) rfl rfl D6_9 rfl e1 ?_
  intro v2 T2 L2 X2 hQ2
  obtain ⟨N2q, K2, hw2⟩ := hQ2
  have sz2 := own_leN K2.1
  have N2 := Fr.app N0 N2q
  rcases hw2 with ⟨rfl, hl0, V5⟩ | ⟨rfl, hh0⟩
  · skip
    refine own_sh (A' := T2.setTop (mkF m 12 _ [(.int (1 : Int32))])) ?_
    refine o_istore X2 hx hby D6_12 (l' := #[.val (.ref ca), .val (.int (0 : Int32)), .val (.int (1 : Int32)), .val (.ref b1), .val (.int (1 : Int32)), .unset]) rfl ?_
    refine o_iload X2 hx hby D6_14 rfl ?_
    refine o_iloadN X2 hx hby D6_16 rfl ?_
    refine o_icmpY X2 hx hby D6_17 (teq (by decide : (1 : Int32) = (1 : Int32))).1 (q := 57) (by decide) (by decide) ?_
    refine o_aloadN X2 hx hby D6_57 rfl rfl ?_
    have KK : Keep h0 T2.heap [] := (((Keep.refl h0 []).ext E1).trans K2 (allS (Or.inr (own_leN (by omega))) all0))
    exact own_ret (v := some (.ref b1)) X2 (fun h => by first | rfl | (rw [Bd.returns] at h; cases h)) (BodyLoose.notSynchronized Bd) (by decide) (by decide) (⟨b1, k1, rfl, N2, KK, own_leN (by omega), Or.inl ⟨hl0, V5⟩⟩) (fun fs hr => retOut X2 hx Bd.returns rfl (Or.inr (Or.inr (Or.inr (Or.inr ⟨rfl, rfl, rfl⟩)))) (hb hby D6_58.1) hr)
  · skip
    refine own_sh (A' := T2.setTop (mkF m 12 _ [(.int (0 : Int32))])) ?_
    refine o_istore X2 hx hby D6_12 (l' := #[.val (.ref ca), .val (.int (0 : Int32)), .val (.int (1 : Int32)), .val (.ref b1), .val (.int (0 : Int32)), .unset]) rfl ?_
    refine o_iload X2 hx hby D6_14 rfl ?_
    refine o_iloadN X2 hx hby D6_16 rfl ?_
    refine o_icmpN X2 hx hby D6_17 (feq (by decide : ¬ ((0 : Int32) = (1 : Int32)))).1 ?_
    refine o_aloadN X2 hx hby D6_20 rfl rfl ?_
    refine o_iloadN X2 hx hby D6_21 rfl ?_
    refine o_iloadN X2 hx hby D6_22 rfl ?_
    have c5_O := ((O0.ext E1).keep K2 (allS gn_b1 all0))
    have c6_V_ca := (c3_V_ca.keep K2 (ninS (by first | exact own_neN (by omega) | exact own_neN' (by omega) | assumption) nin0))
    refine kS X2 hx hZ hown hby (wd hw 83 rfl) (wd hw 84 rfl) (wd hw 24 rfl) (wd hw 85 rfl) (rs_tb1 l Z a0 hw [] ca kc c0 cs vf T2.heap n0 (own_leN (by omega)) hST0 c5_O c6_V_ca) (by decide) (by decide) (by decide) (by decide) (by decide) (by rw [hml]; rfl) [(.ref ca), (.int (0 : Int32)), (.int (1 : Int32))] [] (lenOf pd__40_91CII_41_91B rfl) (W := 0) rfl rfl D6_23 rfl rfl ?_
    intro v4 T4 L4 X4 hQ4
    obtain ⟨r4, kr4, rfl, N4q, K4, ge4, Vr4⟩ := hQ4
    have sz4 := own_leN K4.1
    have ge4' := own_leN ge4
    have lt_r4 := own_ltN Vr4.lt
    have gn_r4 : n0 ≤ r4 := own_leN (by omega)
    have N4 := Fr.app N2 N4q
    refine own_sh (A' := T4.setTop (mkF m 26 _ [(.ref r4)])) ?_
    refine o_astore X4 hx hby D6_26 rfl (l' := #[.val (.ref ca), .val (.int (0 : Int32)), .val (.int (1 : Int32)), .val (.ref b1), .val (.int (0 : Int32)), .val (.ref r4)]) rfl ?_
    refine o_aload X4 hx hby D6_28 rfl rfl ?_
    refine o_iload X4 hx hby D6_30 rfl ?_
    have c8_O := (c5_O.keep K4 all0)
    refine kS X4 hx hZ hown hby (wd hw 99 rfl) (wd hw 100 rfl) (wd hw 24 rfl) (wd hw 101 rfl) (rs_gc10 l Z a0 hw [] r4 kr4 c0 cs vf T4.heap n0 (own_leN (by omega)) hST0 c8_O Vr4 hc0) (by decide) (by decide) (by decide) (by decide) (by decide) (by rw [hml]; rfl) [(.ref r4), (.int (0 : Int32))] [] (lenOf pd__40_91BI_41C rfl) (W := 0) rfl rfl D6_32 rfl rfl ?_
    intro v7 T7 L7 X7 hQ7
    obtain ⟨rfl, N7q, e7⟩ := hQ7
    have N7 := Fr.app N4 N7q
    refine own_sh (A' := T7.setTop (mkF m 35 _ [(.int c0)])) ?_
    refine o_sipush X7 hx hby D6_35 (v := 255) rfl ?_
    refine o_icmpY X7 hx hby D6_38 (tlt (hh0 : (255 : Int32) < c0)).2.2.1 (q := 54) (by decide) (by decide) ?_
    refine o_aload X7 hx hby D6_54 rfl rfl ?_
    have KK : Keep h0 T4.heap [] := ((((Keep.refl h0 []).ext E1).trans K2 (allS (Or.inr (own_leN (by omega))) all0)).trans K4 all0)
    exact own_ret (v := some (.ref r4)) X7 (fun h => by first | rfl | (rw [Bd.returns] at h; cases h)) (BodyLoose.notSynchronized Bd) (by decide) (by decide) (by rw [e7]; exact ⟨r4, kr4, rfl, N7, KK, own_leN (by omega), Or.inr Vr4⟩) (fun fs hr => retOut X7 hx Bd.returns rfl (Or.inr (Or.inr (Or.inr (Or.inr ⟨rfl, rfl, rfl⟩)))) (hb hby D6_56.1) hr)
theorem D8_0 : own_at jdk_52_method_15_code 0 (.iload_n 1) 1 1 := ⟨by decide +kernel, rfl⟩
theorem D8_1 : own_at jdk_52_method_15_code 1 (.aload_n 0) 1 2 := ⟨by decide +kernel, rfl⟩
theorem D8_2 : own_at jdk_52_method_15_code 2 (.arraylength) 1 3 := ⟨by decide +kernel, rfl⟩
theorem D8_3 : own_at jdk_52_method_15_code 3 (.isub) 1 4 := ⟨by decide +kernel, rfl⟩
theorem D8_4 : own_at jdk_52_method_15_code 4 (.bipush 31) 2 6 := ⟨by decide +kernel, rfl⟩
theorem D8_6 : own_at jdk_52_method_15_code 6 (.iushr) 1 7 := ⟨by decide +kernel, rfl⟩
theorem D8_7 : own_at jdk_52_method_15_code 7 (.i2b) 1 8 := ⟨by decide +kernel, rfl⟩
theorem D8_8 : own_at jdk_52_method_15_code 8 (.ireturn) 1 9 := ⟨by decide +kernel, rfl⟩
theorem ef_rs_cd1_1 (m : MethodId) (ba : Addr) : entryFrame m #[(.ref ba), (.int (1 : Int32))] 2 = mkF m 0 #[.val (.ref ba), .val (.int (1 : Int32))] [] := by first | (simp [entryFrame, mkF, argsToLocals, Value.category]; done) | rfl
set_option maxRecDepth 65536 in
set_option maxHeartbeats 40000000 in
theorem rs_cd1_1 (l : Launch) (Z : State) (a0 : Array Value) (hw : ∀ d ∈ tables_1, d.before a0 Z = true) (ws : List Jvm.Cond) (ba : Addr) (kb : ClassId) (xs : List Value) (h0 : Heap) (n0 : Nat) (Z0 : n0 ≤ h0.size) (Vb : Arv Z h0 ba kb .byte (1 : Int32) xs (.int (0 : Int32))) :
    own_Mt l (⟨"java/lang/StringUTF16", "coderFromArrayLen", "([BI)B"⟩ : MethodName) jdk_52_method_15_code 2 (some .byte) ({ frames := 0, cells := 0, slots := 0, locals := 0 } : Room) #[(.ref ba), (.int (1 : Int32))] Z h0 (own_QP (.int (0 : Int32)) h0 n0) := by
  refine MetFree.of_bodySF (plainFor_of_name pn_java_lang_StringUTF16) hisR ?_
  intro p e s m args below meth c s₁ Bd hml0 hP hK
  obtain ⟨rfl, hZ, hh⟩ := hP
  have hx := Bd.exec
  have hby := Bd.bytes
  have hml : c.maxLocals = 2 := hml0
  have hown : s.vm.findClass "java/lang/StringUTF16" = some m.cls := findClass_of_methodNamed Bd.named
  have hnm := (name_of_methodNamed Bd.named Bd.method).1
  have X0 : Stand p l e ({ frames := 0, cells := 0, slots := 0, locals := 0 } : Room) s m #[(.ref ba), (.int (1 : Int32))] below meth c s₁ [] 0 0 := Stand.of_body Bd
  have e0 : s₁.heap = h0 := by rw [← hh, Bd.state]; rfl
  have N0 := Fr.nil n0
  refine own_start (ef_rs_cd1_1 m ba) ?_
  refine o_iloadN X0 hx hby D8_0 rfl ?_
  refine o_aloadN X0 hx hby D8_1 rfl rfl ?_
  obtain ⟨cl_ba_1, Ar_ba_1, q_ba_1, S_ba_1, N_ba_1, H_ba_1, G_ba_1⟩ := id Vb
  refine own_pre (A' := s₁.setTop (mkF m 3 #[.val (.ref ba), .val (.int (1 : Int32))] [(.int (1 : Int32)), (.int (1 : Int32))])) (fun t k => X0.arraylength hx (by rw [e0]; exact Ar_ba_1.1) (State.isArrayOf_alike hZ.alike Ar_ba_1.2.1) (g := (mkF m 2 #[.val (.ref ba), .val (.int (1 : Int32))] [(.ref ba), (.int (1 : Int32))])) rfl rfl (hb hby D8_2.1) _ (by rw [len_of S_ba_1 N_ba_1]; exact k)) ?_
  refine o_isub X0 hx hby D8_3 ?_
  rw [(by decide : ((1 : Int32) - (1 : Int32)) = (0 : Int32))]
  refine o_bipush X0 hx hby D8_4 (v := 31) rfl ?_
  refine o_iushr X0 hx hby D8_6 ?_
  rw [(by decide : (((0 : Int32).toUInt32 >>> ((31 : Int32) &&& 31).toUInt32).toInt32) = (0 : Int32))]
  refine o_i2b X0 hx hby D8_7 ?_
  rw [(by decide : (((0 : Int32)).toInt8.toInt32) = (0 : Int32))]
  exact own_ret (v := some (.int (0 : Int32))) X0 (fun h => by first | rfl | (rw [Bd.returns] at h; cases h)) (BodyLoose.notSynchronized Bd) (by decide) (by decide) (⟨rfl, N0, e0⟩) (fun fs hr => retN X0 hx (t := .byte) Bd.returns (by simp) (hb hby D8_8.1) hr)
theorem ef_rs_cd1_2 (m : MethodId) (ba : Addr) : entryFrame m #[(.ref ba), (.int (1 : Int32))] 2 = mkF m 0 #[.val (.ref ba), .val (.int (1 : Int32))] [] := by first | (simp [entryFrame, mkF, argsToLocals, Value.category]; done) | rfl
set_option maxRecDepth 65536 in
set_option maxHeartbeats 40000000 in
theorem rs_cd1_2 (l : Launch) (Z : State) (a0 : Array Value) (hw : ∀ d ∈ tables_1, d.before a0 Z = true) (ws : List Jvm.Cond) (ba : Addr) (kb : ClassId) (xs : List Value) (h0 : Heap) (n0 : Nat) (Z0 : n0 ≤ h0.size) (Vb : Arv Z h0 ba kb .byte (2 : Int32) xs (.int (0 : Int32))) :
    own_Mt l (⟨"java/lang/StringUTF16", "coderFromArrayLen", "([BI)B"⟩ : MethodName) jdk_52_method_15_code 2 (some .byte) ({ frames := 0, cells := 0, slots := 0, locals := 0 } : Room) #[(.ref ba), (.int (1 : Int32))] Z h0 (own_QP (.int (1 : Int32)) h0 n0) := by
  refine MetFree.of_bodySF (plainFor_of_name pn_java_lang_StringUTF16) hisR ?_
  intro p e s m args below meth c s₁ Bd hml0 hP hK
  obtain ⟨rfl, hZ, hh⟩ := hP
  have hx := Bd.exec
  have hby := Bd.bytes
  have hml : c.maxLocals = 2 := hml0
  have hown : s.vm.findClass "java/lang/StringUTF16" = some m.cls := findClass_of_methodNamed Bd.named
  have hnm := (name_of_methodNamed Bd.named Bd.method).1
  have X0 : Stand p l e ({ frames := 0, cells := 0, slots := 0, locals := 0 } : Room) s m #[(.ref ba), (.int (1 : Int32))] below meth c s₁ [] 0 0 := Stand.of_body Bd
  have e0 : s₁.heap = h0 := by rw [← hh, Bd.state]; rfl
  have N0 := Fr.nil n0
  refine own_start (ef_rs_cd1_2 m ba) ?_
  refine o_iloadN X0 hx hby D8_0 rfl ?_
  refine o_aloadN X0 hx hby D8_1 rfl rfl ?_
  obtain ⟨cl_ba_1, Ar_ba_1, q_ba_1, S_ba_1, N_ba_1, H_ba_1, G_ba_1⟩ := id Vb
  refine own_pre (A' := s₁.setTop (mkF m 3 #[.val (.ref ba), .val (.int (1 : Int32))] [(.int (2 : Int32)), (.int (1 : Int32))])) (fun t k => X0.arraylength hx (by rw [e0]; exact Ar_ba_1.1) (State.isArrayOf_alike hZ.alike Ar_ba_1.2.1) (g := (mkF m 2 #[.val (.ref ba), .val (.int (1 : Int32))] [(.ref ba), (.int (1 : Int32))])) rfl rfl (hb hby D8_2.1) _ (by rw [len_of S_ba_1 N_ba_1]; exact k)) ?_
  refine o_isub X0 hx hby D8_3 ?_
  rw [(by decide : ((1 : Int32) - (2 : Int32)) = (-1 : Int32))]
  refine o_bipush X0 hx hby D8_4 (v := 31) rfl ?_
  refine o_iushr X0 hx hby D8_6 ?_
  rw [(by decide : (((-1 : Int32).toUInt32 >>> ((31 : Int32) &&& 31).toUInt32).toInt32) = (1 : Int32))]
  refine o_i2b X0 hx hby D8_7 ?_
  rw [(by decide : (((1 : Int32)).toInt8.toInt32) = (1 : Int32))]
  exact own_ret (v := some (.int (1 : Int32))) X0 (fun h => by first | rfl | (rw [Bd.returns] at h; cases h)) (BodyLoose.notSynchronized Bd) (by decide) (by decide) (⟨rfl, N0, e0⟩) (fun fs hr => retN X0 hx (t := .byte) Bd.returns (by simp) (hb hby D8_8.1) hr)
def own_Str1 (Z : State) (h : Heap) (st vb : Addr) (kb : ClassId) (c0 : Int32) : Prop := Exa Z h st "java/lang/String" ∧ Fld Z h st "java/lang/String" "value" "[B" (.ref vb) ∧ ((Fld Z h st "java/lang/String" "coder" "B" (.int 0) ∧ (¬ ((255 : Int32) < c0)) ∧ Arv Z h vb kb .byte (1 : Int32) [(.int (own_l8 c0))] (.int (0 : Int32))) ∨ (Fld Z h st "java/lang/String" "coder" "B" (.int 1) ∧ Arv Z h vb kb .byte (2 : Int32) [(.int (own_lo c0)), (.int (own_hi c0))] (.int (0 : Int32))))
def own_QI1 (Z : State) (a1 : Addr) (c0 : Int32) (h0 : Heap) (n0 : Nat) (v : Option Value) (h : Heap) (L : List Loc) : Prop := ∃ (vb : Nat) (kb : ClassId), v = none ∧ Fr n0 L ∧ Keep h0 h [a1] ∧ h0.size ≤ vb ∧ own_Str1 Z h a1 vb kb c0
theorem pd__40_91BI_41B : parseMethodDescriptor "([BI)B" = some ⟨[(.array .byte), .int], some .byte⟩ := by decide +kernel
theorem D4_0 : own_at jdk_42_method_149_code 0 (.aload_n 0) 1 1 := ⟨by decide +kernel, rfl⟩
theorem D4_1 : own_at jdk_42_method_149_code 1 (.invokespecial 1) 3 4 := ⟨by decide +kernel, rfl⟩
theorem D4_4 : own_at jdk_42_method_149_code 4 (.iload_n 3) 1 5 := ⟨by decide +kernel, rfl⟩
theorem D4_5 : own_at jdk_42_method_149_code 5 (.ifCond .ne 22) 3 8 := ⟨by decide +kernel, rfl⟩
theorem D4_27 : own_at jdk_42_method_149_code 27 (.getstatic 38) 3 30 := ⟨by decide +kernel, rfl⟩
theorem D4_30 : own_at jdk_42_method_149_code 30 (.ifCond .eq 28) 3 33 := ⟨by decide +kernel, rfl⟩
theorem D4_33 : own_at jdk_42_method_149_code 33 (.aload_n 1) 1 34 := ⟨by decide +kernel, rfl⟩
theorem D4_34 : own_at jdk_42_method_149_code 34 (.iload_n 2) 1 35 := ⟨by decide +kernel, rfl⟩
theorem D4_35 : own_at jdk_42_method_149_code 35 (.iload_n 3) 1 36 := ⟨by decide +kernel, rfl⟩
theorem D4_36 : own_at jdk_42_method_149_code 36 (.invokestatic 177) 3 39 := ⟨by decide +kernel, rfl⟩
theorem D4_39 : own_at jdk_42_method_149_code 39 (.astore 5) 2 41 := ⟨by decide +kernel, rfl⟩
theorem D4_41 : own_at jdk_42_method_149_code 41 (.aload_n 0) 1 42 := ⟨by decide +kernel, rfl⟩
theorem D4_42 : own_at jdk_42_method_149_code 42 (.aload 5) 2 44 := ⟨by decide +kernel, rfl⟩
theorem D4_44 : own_at jdk_42_method_149_code 44 (.iload_n 3) 1 45 := ⟨by decide +kernel, rfl⟩
theorem D4_45 : own_at jdk_42_method_149_code 45 (.invokestatic 47) 3 48 := ⟨by decide +kernel, rfl⟩
theorem D4_48 : own_at jdk_42_method_149_code 48 (.putfield 15) 3 51 := ⟨by decide +kernel, rfl⟩
theorem D4_51 : own_at jdk_42_method_149_code 51 (.aload_n 0) 1 52 := ⟨by decide +kernel, rfl⟩
theorem D4_52 : own_at jdk_42_method_149_code 52 (.aload 5) 2 54 := ⟨by decide +kernel, rfl⟩
theorem D4_54 : own_at jdk_42_method_149_code 54 (.putfield 9) 3 57 := ⟨by decide +kernel, rfl⟩
theorem D4_57 : own_at jdk_42_method_149_code 57 (.return_) 1 58 := ⟨by decide +kernel, rfl⟩
theorem pn_java_lang_String : plainName "java/lang/String" = true := by first | (simp [plainName, overriddenIn]; done) | decide +kernel
theorem ef_rs_i41 (m : MethodId) (a1 : Addr) (ca : Addr) : entryFrame m #[(.ref a1), (.ref ca), (.int (0 : Int32)), (.int (1 : Int32)), .null] 6 = mkF m 0 #[.val (.ref a1), .val (.ref ca), .val (.int (0 : Int32)), .val (.int (1 : Int32)), .val .null, .unset] [] := by first | (simp [entryFrame, mkF, argsToLocals, Value.category]; done) | rfl
set_option maxRecDepth 65536 in
set_option maxHeartbeats 40000000 in
theorem rs_i41 (l : Launch) (Z : State) (a0 : Array Value) (hw : ∀ d ∈ tables_1, d.before a0 Z = true) (ws : List Jvm.Cond) (a1 : Addr) (ca : Addr) (kc : ClassId) (c0 : Int32) (u0 u1 : Value) (cs : Int32) (vf : Value) (h0 : Heap) (n0 : Nat) (Z0 : n0 ≤ h0.size) (hST : own_ST Z cs vf) (O0 : Old Z n0 h0) (Vc : Arv Z h0 ca kc .char (1 : Int32) [(.int c0)] (.int (0 : Int32))) (hc0 : own_ch16 c0) (gn_a1 : n0 ≤ a1) (E_a1 : Exa Z h0 a1 "java/lang/String") (F_v : Fld Z h0 a1 "java/lang/String" "value" "[B" u0) (F_c : Fld Z h0 a1 "java/lang/String" "coder" "B" u1) :
    own_Mt l (⟨"java/lang/String", "<init>", "([CIILjava/lang/Void;)V"⟩ : MethodName) jdk_42_method_149_code 6 none ({ frames := 4, cells := 2, slots := 3, locals := 57 } : Room) #[(.ref a1), (.ref ca), (.int (0 : Int32)), (.int (1 : Int32)), .null] Z h0 (own_QI1 Z a1 c0 h0 n0) := by
  refine MetFree.of_bodySF (plainFor_of_name pn_java_lang_String) hisR ?_
  intro p e s m args below meth c s₁ Bd hml0 hP hK
  obtain ⟨rfl, hZ, hh⟩ := hP
  have hx := Bd.exec
  have hby := Bd.bytes
  have hml : c.maxLocals = 6 := hml0
  have hown : s.vm.findClass "java/lang/String" = some m.cls := findClass_of_methodNamed Bd.named
  have hnm := (name_of_methodNamed Bd.named Bd.method).1
  have X0 : Stand p l e ({ frames := 4, cells := 2, slots := 3, locals := 57 } : Room) s m #[(.ref a1), (.ref ca), (.int (0 : Int32)), (.int (1 : Int32)), .null] below meth c s₁ [] 0 0 := Stand.of_body Bd
  have e0 : s₁.heap = h0 := by rw [← hh, Bd.state]; rfl
  have N0 := Fr.nil n0
  refine own_start (ef_rs_i41 m a1 ca) ?_
  have hST0 := hST
  obtain ⟨S_cs, S_ad, S_hb, S_lb, S_sf, hcs, hvf⟩ := hST
  have lt_ca := own_ltN Vc.lt
  have lt_a1 := own_ltN E_a1.lt
  refine o_aloadN X0 hx hby D4_0 rfl rfl ?_
  obtain ⟨T1, X1, e1, st1⟩ := initO X0 hx hZ hown (wd hw 18 rfl) (wd hw 19 rfl) (wd hw 20 rfl) e0 (g := (mkF m 1 #[.val (.ref a1), .val (.ref ca), .val (.int (0 : Int32)), .val (.int (1 : Int32)), .val .null, .unset] [(.ref a1)])) rfl (by rw [hml]; rfl) rfl (hb hby D4_1.1) (by decide) (W := 0) (by show 2 * 0 + _ ≤ _; exact Nat.le_of_eq rfl) (by decide)
  refine own_pre (A' := T1.setTop (mkF m 4 #[.val (.ref a1), .val (.ref ca), .val (.int (0 : Int32)), .val (.int (1 : Int32)), .val .null, .unset] [])) st1 ?_
  refine o_iloadN X1 hx hby D4_4 rfl ?_
  refine o_ifY X1 hx hby D4_5 ((if0 _ _).trans (feq (by decide : ¬ ((1 : Int32) = (0 : Int32)))).2) (q := 27) (by decide) (by decide) ?_
  obtain ⟨T2, X2, e2, st2⟩ := getS2 X1 hx hZ hown (host := "") (Or.inl (wd hw 21 rfl)) Via.refl e1 (S_cs.ext O0.2) (g := (mkF m 27 #[.val (.ref a1), .val (.ref ca), .val (.int (0 : Int32)), .val (.int (1 : Int32)), .val .null, .unset] [])) rfl (hb hby D4_27.1)
  refine own_pre (A' := T2.setTop (mkF m 30 #[.val (.ref a1), .val (.ref ca), .val (.int (0 : Int32)), .val (.int (1 : Int32)), .val .null, .unset] [(.int cs)])) st2 ?_
  refine o_ifN X2 hx hby D4_30 ((if0 _ _).trans (feq (hcs : ¬ (cs = (0 : Int32)))).1) ?_
  refine o_aloadN X2 hx hby D4_33 rfl rfl ?_
  refine o_iloadN X2 hx hby D4_34 rfl ?_
  refine o_iloadN X2 hx hby D4_35 rfl ?_
  refine kS X2 hx hZ hown hby (wd hw 22 rfl) (wd hw 23 rfl) (wd hw 24 rfl) (wd hw 25 rfl) (rs_c31 l Z a0 hw [] ca kc c0 cs vf h0 n0 (own_leN (by omega)) hST0 O0 Vc hc0) (by decide) (by decide) (by decide) (by decide) (by decide) (by rw [hml]; rfl) [(.ref ca), (.int (0 : Int32)), (.int (1 : Int32))] [] (lenOf pd__40_91CII_41_91B rfl) (W := 0) rfl rfl D4_36 rfl e2 ?_
  intro v3 T3 L3 X3 hQ3
  obtain ⟨r3, kr3, rfl, N3q, K3, ge3, hw3⟩ := hQ3
  have sz3 := own_leN K3.1
  have ge3' := own_leN ge3
  have N3 := Fr.app N0 N3q
  refine own_sh (A' := T3.setTop (mkF m 39 _ [(.ref r3)])) ?_
  rcases hw3 with ⟨hl0, Vr⟩ | Vr
  · have lt_r3 := own_ltN Vr.lt
    refine o_astore X3 hx hby D4_39 rfl (l' := #[.val (.ref a1), .val (.ref ca), .val (.int (0 : Int32)), .val (.int (1 : Int32)), .val .null, .val (.ref r3)]) rfl ?_
    refine o_aloadN X3 hx hby D4_41 rfl rfl ?_
    refine o_aload X3 hx hby D4_42 rfl rfl ?_
    refine o_iloadN X3 hx hby D4_44 rfl ?_
    refine kS X3 hx hZ hown hby (wd hw 30 rfl) (wd hw 31 rfl) (wd hw 24 rfl) (wd hw 32 rfl) (rs_cd1_1 l Z a0 hw [] r3 kr3 [(.int (own_l8 c0))] T3.heap n0 (own_leN (by omega)) Vr) (by decide) (by decide) (by decide) (by decide) (by decide) (by rw [hml]; rfl) [(.ref r3), (.int (1 : Int32))] [(.ref a1)] (lenOf pd__40_91BI_41B rfl) (W := 1) rfl rfl D4_45 rfl rfl ?_
    intro v4 T4 L4 X4 hQ4
    obtain ⟨rfl, N4q, e4⟩ := hQ4
    have N4 := Fr.app N3 N4q
    refine own_sh (A' := T4.setTop (mkF m 48 _ [(.int (0 : Int32)), (.ref a1)])) ?_
    have c6_F_a1_coder := (F_c.keep K3 nin0)
    have c7_E_a1 := (E_a1.keep K3)
    obtain ⟨T5, h5, X5, e5, W5, st5⟩ := putFN X4 hx hZ hown (wd hw 33 rfl) Via.refl e4 c6_F_a1_coder c7_E_a1 (Or.inr ⟨(wd hw 34 rfl), rfl, hnm⟩) (wd hw 9 rfl) (ty := .byte) (v' := (.int (0 : Int32))) (by decide) rfl rfl (g := (mkF m 48 #[.val (.ref a1), .val (.ref ca), .val (.int (0 : Int32)), .val (.int (1 : Int32)), .val .null, .val (.ref r3)] [(.int (0 : Int32)), (.ref a1)])) rfl rfl (hb hby D4_48.1)
    have Fw5 := c6_F_a1_coder.same W5
    have sz5 := own_leN (Keep.of_wr W5).1
    have N5 := Fr.snoc X5 N4 gn_a1
    refine own_pre (A' := T5.setTop (mkF m 51 #[.val (.ref a1), .val (.ref ca), .val (.int (0 : Int32)), .val (.int (1 : Int32)), .val .null, .val (.ref r3)] [])) st5 ?_
    refine o_aloadN X5 hx hby D4_51 rfl rfl ?_
    refine o_aload X5 hx hby D4_52 rfl rfl ?_
    have c9_F_a1_value := ((F_v.keep K3 nin0).other W5 (Or.inr (Jvm.RoadKit.slot_ne (Or.inr (wd hw 36 rfl)) (Or.inr (wd hw 34 rfl)) (by decide) (t := (.array .byte)) (t' := .byte) (by decide) (by decide))))
    have c10_E_a1 := (c7_E_a1.wr W5)
    obtain ⟨T8, h8, X8, e8, W8, st8⟩ := putF X5 hx hZ hown (host := "") (Or.inl (wd hw 35 rfl)) Via.refl e5 c9_F_a1_value c10_E_a1 (Or.inr ⟨(wd hw 36 rfl), rfl, hnm⟩) (wd hw 9 rfl) (ty := (.array .byte)) (by decide) rfl rfl (g := (mkF m 54 #[.val (.ref a1), .val (.ref ca), .val (.int (0 : Int32)), .val (.int (1 : Int32)), .val .null, .val (.ref r3)] [(.ref r3), (.ref a1)])) rfl rfl (hb hby D4_54.1)
    have Fw8 := c9_F_a1_value.same W8
    have sz8 := own_leN (Keep.of_wr W8).1
    have N8 := Fr.snoc X8 N5 gn_a1
    refine own_pre (A' := T8.setTop (mkF m 57 #[.val (.ref a1), .val (.ref ca), .val (.int (0 : Int32)), .val (.int (1 : Int32)), .val .null, .val (.ref r3)] [])) st8 ?_
    have c11_E_a1 := (c10_E_a1.wr W8)
    have c12_F_a1_coder := (Fw5.other W8 (Or.inr (Jvm.RoadKit.slot_ne (Or.inr (wd hw 34 rfl)) (Or.inr (wd hw 36 rfl)) (by decide) (t := .byte) (t' := (.array .byte)) (by decide) (by decide))))
    have c13_V_r3 := ((Vr.other W5 (by first | exact own_neN (by omega) | exact own_neN' (by omega) | assumption)).other W8 (by first | exact own_neN (by omega) | exact own_neN' (by omega) | assumption))
    have KK : Keep h0 h8 [a1] := ((((Keep.refl h0 [a1]).trans K3 all0).wr W5 (Or.inl (by simp))).wr W8 (Or.inl (by simp)))
    exact own_ret (v := none) X8 (fun h => by first | rfl | (rw [Bd.returns] at h; cases h)) (BodyLoose.notSynchronized Bd) (by decide) (by decide) (by rw [e8]; exact ⟨r3, kr3, rfl, N8, KK, own_leN (by omega), c11_E_a1, Fw8, Or.inl ⟨c12_F_a1_coder, hl0, c13_V_r3⟩⟩) (fun fs hr => X8.returnOut hx Bd.returns (hb hby D4_57.1) hr)
  · have lt_r3 := own_ltN Vr.lt
    refine o_astore X3 hx hby D4_39 rfl (l' := #[.val (.ref a1), .val (.ref ca), .val (.int (0 : Int32)), .val (.int (1 : Int32)), .val .null, .val (.ref r3)]) rfl ?_
    refine o_aloadN X3 hx hby D4_41 rfl rfl ?_
    refine o_aload X3 hx hby D4_42 rfl rfl ?_
    refine o_iloadN X3 hx hby D4_44 rfl ?_
    refine kS X3 hx hZ hown hby (wd hw 30 rfl) (wd hw 31 rfl) (wd hw 24 rfl) (wd hw 32 rfl) (rs_cd1_2 l Z a0 hw [] r3 kr3 [(.int (own_lo c0)), (.int (own_hi c0))] T3.heap n0 (own_leN (by omega)) Vr) (by decide) (by decide) (by decide) (by decide) (by decide) (by rw [hml]; rfl) [(.ref r3), (.int (1 : Int32))] [(.ref a1)] (lenOf pd__40_91BI_41B rfl) (W := 1) rfl rfl D4_45 rfl rfl ?_
    intro v14 T14 L14 X14 hQ14
    obtain ⟨rfl, N14q, e14⟩ := hQ14
    have N14 := Fr.app N3 N14q
    refine own_sh (A' := T14.setTop (mkF m 48 _ [(.int (1 : Int32)), (.ref a1)])) ?_
    have c16_F_a1_coder := (F_c.keep K3 nin0)
    have c17_E_a1 := (E_a1.keep K3)
    obtain ⟨T15, h15, X15, e15, W15, st15⟩ := putFN X14 hx hZ hown (wd hw 33 rfl) Via.refl e14 c16_F_a1_coder c17_E_a1 (Or.inr ⟨(wd hw 34 rfl), rfl, hnm⟩) (wd hw 9 rfl) (ty := .byte) (v' := (.int (1 : Int32))) (by decide) rfl rfl (g := (mkF m 48 #[.val (.ref a1), .val (.ref ca), .val (.int (0 : Int32)), .val (.int (1 : Int32)), .val .null, .val (.ref r3)] [(.int (1 : Int32)), (.ref a1)])) rfl rfl (hb hby D4_48.1)
    have Fw15 := c16_F_a1_coder.same W15
    have sz15 := own_leN (Keep.of_wr W15).1
    have N15 := Fr.snoc X15 N14 gn_a1
    refine own_pre (A' := T15.setTop (mkF m 51 #[.val (.ref a1), .val (.ref ca), .val (.int (0 : Int32)), .val (.int (1 : Int32)), .val .null, .val (.ref r3)] [])) st15 ?_
    refine o_aloadN X15 hx hby D4_51 rfl rfl ?_
    refine o_aload X15 hx hby D4_52 rfl rfl ?_
    have c19_F_a1_value := ((F_v.keep K3 nin0).other W15 (Or.inr (Jvm.RoadKit.slot_ne (Or.inr (wd hw 36 rfl)) (Or.inr (wd hw 34 rfl)) (by decide) (t := (.array .byte)) (t' := .byte) (by decide) (by decide))))
    have c20_E_a1 := (c17_E_a1.wr W15)
    obtain ⟨T18, h18, X18, e18, W18, st18⟩ := putF X15 hx hZ hown (host := "") (Or.inl (wd hw 35 rfl)) Via.refl e15 c19_F_a1_value c20_E_a1 (Or.inr ⟨(wd hw 36 rfl), rfl, hnm⟩) (wd hw 9 rfl) (ty := (.array .byte)) (by decide) rfl rfl (g := (mkF m 54 #[.val (.ref a1), .val (.ref ca), .val (.int (0 : Int32)), .val (.int (1 : Int32)), .val .null, .val (.ref r3)] [(.ref r3), (.ref a1)])) rfl rfl (hb hby D4_54.1)
    have Fw18 := c19_F_a1_value.same W18
    have sz18 := own_leN (Keep.of_wr W18).1
    have N18 := Fr.snoc X18 N15 gn_a1
    refine own_pre (A' := T18.setTop (mkF m 57 #[.val (.ref a1), .val (.ref ca), .val (.int (0 : Int32)), .val (.int (1 : Int32)), .val .null, .val (.ref r3)] [])) st18 ?_
    have c21_E_a1 := (c20_E_a1.wr W18)
    have c22_F_a1_coder := (Fw15.other W18 (Or.inr (Jvm.RoadKit.slot_ne (Or.inr (wd hw 34 rfl)) (Or.inr (wd hw 36 rfl)) (by decide) (t := .byte) (t' := (.array .byte)) (by decide) (by decide))))
    have c23_V_r3 := ((Vr.other W15 (by first | exact own_neN (by omega) | exact own_neN' (by omega) | assumption)).other W18 (by first | exact own_neN (by omega) | exact own_neN' (by omega) | assumption))
    have KK : Keep h0 h18 [a1] := ((((Keep.refl h0 [a1]).trans K3 all0).wr W15 (Or.inl (by simp))).wr W18 (Or.inl (by simp)))
    exact own_ret (v := none) X18 (fun h => by first | rfl | (rw [Bd.returns] at h; cases h)) (BodyLoose.notSynchronized Bd) (by decide) (by decide) (by rw [e18]; exact ⟨r3, kr3, rfl, N18, KK, own_leN (by omega), c21_E_a1, Fw18, Or.inr ⟨c22_F_a1_coder, c23_V_r3⟩⟩) (fun fs hr => X18.returnOut hx Bd.returns (hb hby D4_57.1) hr)
theorem pd__40_91CIILjava_47lang_47Void_59_41V : parseMethodDescriptor "([CIILjava/lang/Void;)V" = some ⟨[(.array .char), .int, .int, (.object "java/lang/Void")], none⟩ := by decide +kernel
theorem D3_0 : own_at jdk_42_method_3_code 0 (.aload_n 0) 1 1 := ⟨by decide +kernel, rfl⟩
theorem D3_1 : own_at jdk_42_method_3_code 1 (.aload_n 1) 1 2 := ⟨by decide +kernel, rfl⟩
theorem D3_2 : own_at jdk_42_method_3_code 2 (.iconst 0) 1 3 := ⟨by decide +kernel, rfl⟩
theorem D3_3 : own_at jdk_42_method_3_code 3 (.aload_n 1) 1 4 := ⟨by decide +kernel, rfl⟩
theorem D3_4 : own_at jdk_42_method_3_code 4 (.arraylength) 1 5 := ⟨by decide +kernel, rfl⟩
theorem D3_5 : own_at jdk_42_method_3_code 5 (.aconst_null) 1 6 := ⟨by decide +kernel, rfl⟩
theorem D3_6 : own_at jdk_42_method_3_code 6 (.invokespecial 27) 3 9 := ⟨by decide +kernel, rfl⟩
theorem D3_9 : own_at jdk_42_method_3_code 9 (.return_) 1 10 := ⟨by decide +kernel, rfl⟩
theorem ef_rs_i11 (m : MethodId) (a1 : Addr) (ca : Addr) : entryFrame m #[(.ref a1), (.ref ca)] 2 = mkF m 0 #[.val (.ref a1), .val (.ref ca)] [] := by first | (simp [entryFrame, mkF, argsToLocals, Value.category]; done) | rfl
set_option maxRecDepth 65536 in
set_option maxHeartbeats 40000000 in
theorem rs_i11 (l : Launch) (Z : State) (a0 : Array Value) (hw : ∀ d ∈ tables_1, d.before a0 Z = true) (ws : List Jvm.Cond) (a1 : Addr) (ca : Addr) (kc : ClassId) (c0 : Int32) (u0 u1 : Value) (cs : Int32) (vf : Value) (h0 : Heap) (n0 : Nat) (Z0 : n0 ≤ h0.size) (hST : own_ST Z cs vf) (O0 : Old Z n0 h0) (Vc : Arv Z h0 ca kc .char (1 : Int32) [(.int c0)] (.int (0 : Int32))) (hc0 : own_ch16 c0) (gn_a1 : n0 ≤ a1) (E_a1 : Exa Z h0 a1 "java/lang/String") (F_v : Fld Z h0 a1 "java/lang/String" "value" "[B" u0) (F_c : Fld Z h0 a1 "java/lang/String" "coder" "B" u1) :
    own_Mt l (⟨"java/lang/String", "<init>", "([C)V"⟩ : MethodName) jdk_42_method_3_code 2 none ({ frames := 5, cells := 2, slots := 3, locals := 74 } : Room) #[(.ref a1), (.ref ca)] Z h0 (own_QI1 Z a1 c0 h0 n0) := by
  refine MetFree.of_bodySF (plainFor_of_name pn_java_lang_String) hisR ?_
  intro p e s m args below meth c s₁ Bd hml0 hP hK
  obtain ⟨rfl, hZ, hh⟩ := hP
  have hx := Bd.exec
  have hby := Bd.bytes
  have hml : c.maxLocals = 2 := hml0
  have hown : s.vm.findClass "java/lang/String" = some m.cls := findClass_of_methodNamed Bd.named
  have hnm := (name_of_methodNamed Bd.named Bd.method).1
  have X0 : Stand p l e ({ frames := 5, cells := 2, slots := 3, locals := 74 } : Room) s m #[(.ref a1), (.ref ca)] below meth c s₁ [] 0 0 := Stand.of_body Bd
  have e0 : s₁.heap = h0 := by rw [← hh, Bd.state]; rfl
  have N0 := Fr.nil n0
  refine own_start (ef_rs_i11 m a1 ca) ?_
  have hST0 := hST
  refine o_aloadN X0 hx hby D3_0 rfl rfl ?_
  refine o_aloadN X0 hx hby D3_1 rfl rfl ?_
  refine o_iconst X0 hx hby D3_2 (v := 0) rfl ?_
  refine o_aloadN X0 hx hby D3_3 rfl rfl ?_
  obtain ⟨cl_ca_1, Ar_ca_1, q_ca_1, S_ca_1, N_ca_1, H_ca_1, G_ca_1⟩ := id Vc
  refine own_pre (A' := s₁.setTop (mkF m 5 #[.val (.ref a1), .val (.ref ca)] [(.int (1 : Int32)), (.int (0 : Int32)), (.ref ca), (.ref a1)])) (fun t k => X0.arraylength hx (by rw [e0]; exact Ar_ca_1.1) (State.isArrayOf_alike hZ.alike Ar_ca_1.2.1) (g := (mkF m 4 #[.val (.ref a1), .val (.ref ca)] [(.ref ca), (.int (0 : Int32)), (.ref ca), (.ref a1)])) rfl rfl (hb hby D3_4.1) _ (by rw [len_of S_ca_1 N_ca_1]; exact k)) ?_
  refine o_anull X0 hx hby D3_5 ?_
  refine kI X0 hx hZ hown hby (wd hw 14 rfl) (wd hw 15 rfl) (wd hw 10 rfl) (wd hw 17 rfl) rfl (rs_i41 l Z a0 hw [] a1 ca kc c0 u0 u1 cs vf h0 n0 Z0 hST0 O0 Vc hc0 gn_a1 E_a1 F_v F_c) (by decide) (by decide) (by decide) (by decide) (by decide) (by rw [hml]; rfl) [(.ref ca), (.int (0 : Int32)), (.int (1 : Int32)), .null] [] (lenOf pd__40_91CIILjava_47lang_47Void_59_41V rfl) (W := 0) rfl rfl D3_6 rfl e0 ?_
  intro v2 T2 L2 X2 hQ2
  obtain ⟨vb, kb, rfl, N2q, K2, ge2, Str2⟩ := hQ2
  have N2 := Fr.app N0 N2q
  refine own_sh (A' := T2.setTop (mkF m 9 _ [])) ?_
  exact own_ret (v := none) X2 (fun h => by first | rfl | (rw [Bd.returns] at h; cases h)) (BodyLoose.notSynchronized Bd) (by decide) (by decide) (⟨vb, kb, rfl, N2, K2, ge2, Str2⟩) (fun fs hr => X2.returnOut hx Bd.returns (hb hby D3_9.1) hr)
def own_QTb2 (Z : State) (c0 c1 : Int32) (h0 : Heap) (n0 : Nat) (v : Option Value) (h : Heap) (L : List Loc) : Prop := ∃ (r : Nat) (kr : ClassId), v = some (.ref r) ∧ Fr n0 L ∧ Keep h0 h [] ∧ h0.size ≤ r ∧ Arv Z h r kr .byte (4 : Int32) [(.int (own_lo c0)), (.int (own_hi c0)), (.int (own_lo c1)), (.int (own_hi c1))] (.int (0 : Int32))
theorem ef_rs_tb2 (m : MethodId) (ca : Addr) : entryFrame m #[(.ref ca), (.int (0 : Int32)), (.int (2 : Int32))] 5 = mkF m 0 #[.val (.ref ca), .val (.int (0 : Int32)), .val (.int (2 : Int32)), .unset, .unset] [] := by first | (simp [entryFrame, mkF, argsToLocals, Value.category]; done) | rfl
set_option maxRecDepth 65536 in
set_option maxHeartbeats 40000000 in
theorem rs_tb2 (l : Launch) (Z : State) (a0 : Array Value) (hw : ∀ d ∈ tables_1, d.before a0 Z = true) (ws : List Jvm.Cond) (ca : Addr) (kc : ClassId) (c0 c1 : Int32) (cs : Int32) (vf : Value) (h0 : Heap) (n0 : Nat) (Z0 : n0 ≤ h0.size) (hST : own_ST Z cs vf) (O0 : Old Z n0 h0) (Vc : Arv Z h0 ca kc .char (2 : Int32) [(.int c0), (.int c1)] (.int (0 : Int32))) :
    own_Mt l (⟨"java/lang/StringUTF16", "toBytes", "([CII)[B"⟩ : MethodName) jdk_52_method_14_code 5 (some (.array .byte)) ({ frames := 2, cells := 1, slots := 4, locals := 24 } : Room) #[(.ref ca), (.int (0 : Int32)), (.int (2 : Int32))] Z h0 (own_QTb2 Z c0 c1 h0 n0) := by
  refine MetFree.of_bodySF (plainFor_of_name pn_java_lang_StringUTF16) hisR ?_
  intro p e s m args below meth c s₁ Bd hml0 hP hK
  obtain ⟨rfl, hZ, hh⟩ := hP
  have hx := Bd.exec
  have hby := Bd.bytes
  have hml : c.maxLocals = 5 := hml0
  have hown : s.vm.findClass "java/lang/StringUTF16" = some m.cls := findClass_of_methodNamed Bd.named
  have hnm := (name_of_methodNamed Bd.named Bd.method).1
  have X0 : Stand p l e ({ frames := 2, cells := 1, slots := 4, locals := 24 } : Room) s m #[(.ref ca), (.int (0 : Int32)), (.int (2 : Int32))] below meth c s₁ [] 0 0 := Stand.of_body Bd
  have e0 : s₁.heap = h0 := by rw [← hh, Bd.state]; rfl
  have N0 := Fr.nil n0
  refine own_start (ef_rs_tb2 m ca) ?_
  have hST0 := hST
  obtain ⟨S_cs, S_ad, S_hb, S_lb, S_sf, hcs, hvf⟩ := hST
  have lt_ca := own_ltN Vc.lt
  refine o_iloadN X0 hx hby D19_0 rfl ?_
  refine kS X0 hx hZ hown hby (wd hw 86 rfl) (wd hw 87 rfl) (wd hw 24 rfl) (wd hw 88 rfl) (rs_nbf2 l Z a0 hw []  h0 n0 Z0 ) (by decide) (by decide) (by decide) (by decide) (by decide) (by rw [hml]; rfl) [(.int (2 : Int32))] [] (lenOf pd__40I_41_91B rfl) (W := 0) rfl rfl D19_1 rfl e0 ?_
  intro v1 T1 L1 X1 hQ1
  obtain ⟨r1, kr1, rfl, N1q, K1, ge1, Vr1⟩ := hQ1
  have sz1 := own_leN K1.1
  have ge1' := own_leN ge1
  have lt_r1 := own_ltN Vr1.lt
  have gn_r1 : n0 ≤ r1 := own_leN (by omega)
  have N1 := Fr.app N0 N1q
  refine own_sh (A' := T1.setTop (mkF m 4 _ [(.ref r1)])) ?_
  refine o_astoreN X1 hx hby D19_4 rfl (l' := #[.val (.ref ca), .val (.int (0 : Int32)), .val (.int (2 : Int32)), .val (.ref r1), .unset]) rfl ?_
  refine o_iconst X1 hx hby D19_5 (v := 0) rfl ?_
  refine o_istore X1 hx hby D19_6 (l' := #[.val (.ref ca), .val (.int (0 : Int32)), .val (.int (2 : Int32)), .val (.ref r1), .val (.int (0 : Int32))]) rfl ?_
  refine o_iload X1 hx hby D19_8 rfl ?_
  refine o_iloadN X1 hx hby D19_10 rfl ?_
  refine o_icmpN X1 hx hby D19_11 (tlt (by decide : (0 : Int32) < (2 : Int32))).2.1 ?_
  refine o_aloadN X1 hx hby D19_14 rfl rfl ?_
  refine o_iload X1 hx hby D19_15 rfl ?_
  refine o_aloadN X1 hx hby D19_17 rfl rfl ?_
  refine o_iloadN X1 hx hby D19_18 rfl ?_
  have c3_V_ca := (Vc.keep K1 nin0)
  obtain ⟨cl_ca_2, Ar_ca_2, q_ca_2, S_ca_2, N_ca_2, H_ca_2, G_ca_2⟩ := id c3_V_ca
  have hin_ca_2 : ¬ ((0 : Int32) < 0 ∨ cl_ca_2.slots.size ≤ ((0 : Int32)).toNatClampNeg) := inb_of S_ca_2 ⟨by decide, by decide⟩
  have hat_ca_2 : cl_ca_2.slots[((0 : Int32)).toNatClampNeg]? = some (.int c0) := H_ca_2.at hin_ca_2 (rfl)
  refine own_pre (A' := T1.setTop (mkF m 20 #[.val (.ref ca), .val (.int (0 : Int32)), .val (.int (2 : Int32)), .val (.ref r1), .val (.int (0 : Int32))] [(.int c0), (.int (0 : Int32)), (.ref r1)])) (fun t k => X1.caload hx (j := (0 : Int32)) (v := (.int c0)) Ar_ca_2.1 (State.isArrayOf_alike hZ.alike Ar_ca_2.2.1) Ar_ca_2.2.2 hin_ca_2 hat_ca_2 (g := (mkF m 19 #[.val (.ref ca), .val (.int (0 : Int32)), .val (.int (2 : Int32)), .val (.ref r1), .val (.int (0 : Int32))] [(.int (0 : Int32)), (.ref ca), (.int (0 : Int32)), (.ref r1)])) rfl rfl (hb hby D19_19.1) _ k) ?_
  have c5_O := (O0.keep K1 all0)
  refine kS X1 hx hZ hown hby (wd hw 93 rfl) (wd hw 94 rfl) (wd hw 24 rfl) (wd hw 95 rfl) (rs_pc20 l Z a0 hw [] r1 c0 kr1 (.int (0 : Int32)) (.int (0 : Int32)) (.int (0 : Int32)) (.int (0 : Int32)) cs vf T1.heap n0 (own_leN (by omega)) hST0 c5_O gn_r1 Vr1) (by decide) (by decide) (by decide) (by decide) (by decide) (by rw [hml]; rfl) [(.ref r1), (.int (0 : Int32)), (.int c0)] [] (lenOf pd__40_91BII_41V rfl) (W := 0) rfl rfl D19_20 rfl rfl ?_
  intro v4 T4 L4 X4 hQ4
  obtain ⟨rfl, N4q, K4, Vp4⟩ := hQ4
  have sz4 := own_leN K4.1
  have N4 := Fr.app N1 N4q
  refine own_sh (A' := T4.setTop (mkF m 23 _ [])) ?_
  refine o_iinc X4 hx hby D19_23 rfl (l' := #[.val (.ref ca), .val (.int ((0 : Int32) + (1 : Int32))), .val (.int (2 : Int32)), .val (.ref r1), .val (.int (0 : Int32))]) rfl ?_
  rw [(by decide : ((0 : Int32) + (1 : Int32)) = (1 : Int32))]
  refine o_iinc X4 hx hby D19_26 rfl (l' := #[.val (.ref ca), .val (.int (1 : Int32)), .val (.int (2 : Int32)), .val (.ref r1), .val (.int ((0 : Int32) + (1 : Int32)))]) rfl ?_
  rw [(by decide : ((0 : Int32) + (1 : Int32)) = (1 : Int32))]
  refine o_goto X4 hx hby D19_29 (q := 8) (by decide) (by decide) ?_
  refine o_iload X4 hx hby D19_8 rfl ?_
  refine o_iloadN X4 hx hby D19_10 rfl ?_
  refine o_icmpN X4 hx hby D19_11 (tlt (by decide : (1 : Int32) < (2 : Int32))).2.1 ?_
  refine o_aloadN X4 hx hby D19_14 rfl rfl ?_
  refine o_iload X4 hx hby D19_15 rfl ?_
  refine o_aloadN X4 hx hby D19_17 rfl rfl ?_
  refine o_iloadN X4 hx hby D19_18 rfl ?_
  have c7_V_ca := (c3_V_ca.keep K4 (ninS (by first | exact own_neN (by omega) | exact own_neN' (by omega) | assumption) nin0))
  obtain ⟨cl_ca_6, Ar_ca_6, q_ca_6, S_ca_6, N_ca_6, H_ca_6, G_ca_6⟩ := id c7_V_ca
  have hin_ca_6 : ¬ ((1 : Int32) < 0 ∨ cl_ca_6.slots.size ≤ ((1 : Int32)).toNatClampNeg) := inb_of S_ca_6 ⟨by decide, by decide⟩
  have hat_ca_6 : cl_ca_6.slots[((1 : Int32)).toNatClampNeg]? = some (.int c1) := H_ca_6.at hin_ca_6 (rfl)
  refine own_pre (A' := T4.setTop (mkF m 20 #[.val (.ref ca), .val (.int (1 : Int32)), .val (.int (2 : Int32)), .val (.ref r1), .val (.int (1 : Int32))] [(.int c1), (.int (1 : Int32)), (.ref r1)])) (fun t k => X4.caload hx (j := (1 : Int32)) (v := (.int c1)) Ar_ca_6.1 (State.isArrayOf_alike hZ.alike Ar_ca_6.2.1) Ar_ca_6.2.2 hin_ca_6 hat_ca_6 (g := (mkF m 19 #[.val (.ref ca), .val (.int (1 : Int32)), .val (.int (2 : Int32)), .val (.ref r1), .val (.int (1 : Int32))] [(.int (1 : Int32)), (.ref ca), (.int (1 : Int32)), (.ref r1)])) rfl rfl (hb hby D19_19.1) _ k) ?_
  have c9_O := (c5_O.keep K4 (allS gn_r1 all0))
  refine kS X4 hx hZ hown hby (wd hw 93 rfl) (wd hw 94 rfl) (wd hw 24 rfl) (wd hw 95 rfl) (rs_pc21 l Z a0 hw [] r1 c1 kr1 (.int (own_lo c0)) (.int (own_hi c0)) (.int (0 : Int32)) (.int (0 : Int32)) cs vf T4.heap n0 (own_leN (by omega)) hST0 c9_O gn_r1 Vp4) (by decide) (by decide) (by decide) (by decide) (by decide) (by rw [hml]; rfl) [(.ref r1), (.int (1 : Int32)), (.int c1)] [] (lenOf pd__40_91BII_41V rfl) (W := 0) rfl rfl D19_20 rfl rfl ?_
  intro v8 T8 L8 X8 hQ8
  obtain ⟨rfl, N8q, K8, Vp8⟩ := hQ8
  have sz8 := own_leN K8.1
  have N8 := Fr.app N4 N8q
  refine own_sh (A' := T8.setTop (mkF m 23 _ [])) ?_
  refine o_iinc X8 hx hby D19_23 rfl (l' := #[.val (.ref ca), .val (.int ((1 : Int32) + (1 : Int32))), .val (.int (2 : Int32)), .val (.ref r1), .val (.int (1 : Int32))]) rfl ?_
  rw [(by decide : ((1 : Int32) + (1 : Int32)) = (2 : Int32))]
  refine o_iinc X8 hx hby D19_26 rfl (l' := #[.val (.ref ca), .val (.int (2 : Int32)), .val (.int (2 : Int32)), .val (.ref r1), .val (.int ((1 : Int32) + (1 : Int32)))]) rfl ?_
  rw [(by decide : ((1 : Int32) + (1 : Int32)) = (2 : Int32))]
  refine o_goto X8 hx hby D19_29 (q := 8) (by decide) (by decide) ?_
  refine o_iload X8 hx hby D19_8 rfl ?_
  refine o_iloadN X8 hx hby D19_10 rfl ?_
  refine o_icmpY X8 hx hby D19_11 (flt (by decide : ¬ ((2 : Int32) < (2 : Int32)))).2.1 (q := 32) (by decide) (by decide) ?_
  refine o_aloadN X8 hx hby D19_32 rfl rfl ?_
  have KK : Keep h0 T8.heap [] := ((((Keep.refl h0 []).trans K1 all0).trans K4 (allS (Or.inr (own_leN (by omega))) all0)).trans K8 (allS (Or.inr (own_leN (by omega))) all0))
  exact own_ret (v := some (.ref r1)) X8 (fun h => by first | rfl | (rw [Bd.returns] at h; cases h)) (BodyLoose.notSynchronized Bd) (by decide) (by decide) (⟨r1, kr1, rfl, N8, KK, own_leN (by omega), Vp8⟩) (fun fs hr => retOut X8 hx Bd.returns rfl (Or.inr (Or.inr (Or.inr (Or.inr ⟨rfl, rfl, rfl⟩)))) (hb hby D19_33.1) hr)
def own_Q52 (Z : State) (dst : Addr) (kd : ClassId) (c0 c1 : Int32) (h0 : Heap) (n0 : Nat) (v : Option Value) (h : Heap) (L : List Loc) : Prop := Fr n0 L ∧ Keep h0 h [dst] ∧ ((v = some (.int (2 : Int32)) ∧ (¬ ((255 : Int32) < c0)) ∧ (¬ ((255 : Int32) < c1)) ∧ Arv Z h dst kd .byte (2 : Int32) [(.int (own_l8 c0)), (.int (own_l8 c1))] (.int (0 : Int32))) ∨ (v = some (.int (0 : Int32)) ∧ (255 : Int32) < c0) ∨ (v = some (.int (1 : Int32)) ∧ (255 : Int32) < c1))
theorem ef_rs_c52 (m : MethodId) (ca : Addr) (dst : Addr) : entryFrame m #[(.ref ca), (.int (0 : Int32)), (.ref dst), (.int (0 : Int32)), (.int (2 : Int32))] 7 = mkF m 0 #[.val (.ref ca), .val (.int (0 : Int32)), .val (.ref dst), .val (.int (0 : Int32)), .val (.int (2 : Int32)), .unset, .unset] [] := by first | (simp [entryFrame, mkF, argsToLocals, Value.category]; done) | rfl
set_option maxRecDepth 65536 in
set_option maxHeartbeats 40000000 in
theorem rs_c52 (l : Launch) (Z : State) (a0 : Array Value) (hw : ∀ d ∈ tables_1, d.before a0 Z = true) (ws : List Jvm.Cond) (ca : Addr) (dst : Addr) (kc kd : ClassId) (c0 c1 : Int32) (h0 : Heap) (n0 : Nat) (Z0 : n0 ≤ h0.size) (Vc : Arv Z h0 ca kc .char (2 : Int32) [(.int c0), (.int c1)] (.int (0 : Int32))) (Vd : Arv Z h0 dst kd .byte (2 : Int32) [(.int (0 : Int32)), (.int (0 : Int32))] (.int (0 : Int32))) (gn_dst : n0 ≤ dst) (ncd : @LT.lt Nat instLTNat ca dst) :
    own_Mt l (⟨"java/lang/StringUTF16", "compress", "([CI[BII)I"⟩ : MethodName) jdk_52_method_21_code 7 (some .int) ({ frames := 0, cells := 0, slots := 0, locals := 0 } : Room) #[(.ref ca), (.int (0 : Int32)), (.ref dst), (.int (0 : Int32)), (.int (2 : Int32))] Z h0 (own_Q52 Z dst kd c0 c1 h0 n0) := by
  refine MetFree.of_bodySF (plainFor_of_name pn_java_lang_StringUTF16) hisR ?_
  intro p e s m args below meth c s₁ Bd hml0 hP hK
  obtain ⟨rfl, hZ, hh⟩ := hP
  have hx := Bd.exec
  have hby := Bd.bytes
  have hml : c.maxLocals = 7 := hml0
  have hown : s.vm.findClass "java/lang/StringUTF16" = some m.cls := findClass_of_methodNamed Bd.named
  have hnm := (name_of_methodNamed Bd.named Bd.method).1
  have X0 : Stand p l e ({ frames := 0, cells := 0, slots := 0, locals := 0 } : Room) s m #[(.ref ca), (.int (0 : Int32)), (.ref dst), (.int (0 : Int32)), (.int (2 : Int32))] below meth c s₁ [] 0 0 := Stand.of_body Bd
  have e0 : s₁.heap = h0 := by rw [← hh, Bd.state]; rfl
  have N0 := Fr.nil n0
  refine own_start (ef_rs_c52 m ca dst) ?_
  have lt_ca := own_ltN Vc.lt
  have lt_dst := own_ltN Vd.lt
  refine o_iconst X0 hx hby D7_0 (v := 0) rfl ?_
  refine o_istore X0 hx hby D7_1 (l' := #[.val (.ref ca), .val (.int (0 : Int32)), .val (.ref dst), .val (.int (0 : Int32)), .val (.int (2 : Int32)), .val (.int (0 : Int32)), .unset]) rfl ?_
  refine o_iload X0 hx hby D7_3 rfl ?_
  refine o_iload X0 hx hby D7_5 rfl ?_
  refine o_icmpN X0 hx hby D7_7 (tlt (by decide : (0 : Int32) < (2 : Int32))).2.1 ?_
  refine o_aloadN X0 hx hby D7_10 rfl rfl ?_
  refine o_iloadN X0 hx hby D7_11 rfl ?_
  obtain ⟨cl_ca_1, Ar_ca_1, q_ca_1, S_ca_1, N_ca_1, H_ca_1, G_ca_1⟩ := id Vc
  have hin_ca_1 : ¬ ((0 : Int32) < 0 ∨ cl_ca_1.slots.size ≤ ((0 : Int32)).toNatClampNeg) := inb_of S_ca_1 ⟨by decide, by decide⟩
  have hat_ca_1 : cl_ca_1.slots[((0 : Int32)).toNatClampNeg]? = some (.int c0) := H_ca_1.at hin_ca_1 (rfl)
  refine own_pre (A' := s₁.setTop (mkF m 13 #[.val (.ref ca), .val (.int (0 : Int32)), .val (.ref dst), .val (.int (0 : Int32)), .val (.int (2 : Int32)), .val (.int (0 : Int32)), .unset] [(.int c0)])) (fun t k => X0.caload hx (j := (0 : Int32)) (v := (.int c0)) (by rw [e0]; exact Ar_ca_1.1) (State.isArrayOf_alike hZ.alike Ar_ca_1.2.1) Ar_ca_1.2.2 hin_ca_1 hat_ca_1 (g := (mkF m 12 #[.val (.ref ca), .val (.int (0 : Int32)), .val (.ref dst), .val (.int (0 : Int32)), .val (.int (2 : Int32)), .val (.int (0 : Int32)), .unset] [(.int (0 : Int32)), (.ref ca)])) rfl rfl (hb hby D7_12.1) _ k) ?_
  refine o_istore X0 hx hby D7_13 (l' := #[.val (.ref ca), .val (.int (0 : Int32)), .val (.ref dst), .val (.int (0 : Int32)), .val (.int (2 : Int32)), .val (.int (0 : Int32)), .val (.int c0)]) rfl ?_
  refine o_iload X0 hx hby D7_15 rfl ?_
  refine o_sipush X0 hx hby D7_17 (v := 255) rfl ?_
  by_cases hc20_2 : (255 : Int32) < c0
  · skip
    refine o_icmpN X0 hx hby D7_20 (tlt hc20_2).2.2.2 ?_
    refine o_iload X0 hx hby D7_23 rfl ?_
    have KK : Keep h0 h0 [dst] := (Keep.refl h0 [dst])
    exact own_ret (v := some (.int (0 : Int32))) X0 (fun h => by first | rfl | (rw [Bd.returns] at h; cases h)) (BodyLoose.notSynchronized Bd) (by decide) (by decide) (by rw [e0]; exact ⟨N0, KK, (Or.inr (Or.inl ⟨rfl, hc20_2⟩))⟩) (fun fs hr => retI X0 hx Bd.returns (hb hby D7_25.1) hr)
  · skip
    refine o_icmpY X0 hx hby D7_20 (flt hc20_2).2.2.2 (q := 26) (by decide) (by decide) ?_
    refine o_aloadN X0 hx hby D7_26 rfl rfl ?_
    refine o_iloadN X0 hx hby D7_27 rfl ?_
    refine o_iload X0 hx hby D7_28 rfl ?_
    refine o_i2b X0 hx hby D7_30 ?_
    obtain ⟨cl_dst_3, Ar_dst_3, q_dst_3, S_dst_3, N_dst_3, H_dst_3, G_dst_3⟩ := id Vd
    have hin_dst_3 : ¬ ((0 : Int32) < 0 ∨ cl_dst_3.slots.size ≤ ((0 : Int32)).toNatClampNeg) := inb_of S_dst_3 ⟨by decide, by decide⟩
    obtain ⟨T3, h3, X3, e3, W3, st3⟩ := stB X0 hx hZ e0 Ar_dst_3 (j := (0 : Int32)) hin_dst_3 (g := (mkF m 31 #[.val (.ref ca), .val (.int (0 : Int32)), .val (.ref dst), .val (.int (0 : Int32)), .val (.int (2 : Int32)), .val (.int (0 : Int32)), .val (.int c0)] [(.int ((c0).toInt8.toInt32)), (.int (0 : Int32)), (.ref dst)])) rfl rfl (hb hby D7_31.1)
    have V_dst_3 : Arv Z h3 dst kd .byte (2 : Int32) [(.int (nar .byte ((c0).toInt8.toInt32))), (.int (0 : Int32))] (.int (0 : Int32)) := Arv.set Ar_dst_3 q_dst_3 S_dst_3 N_dst_3 H_dst_3 G_dst_3 (fits_nar_byte _) W3 0 rfl (Nat.le_of_ble_eq_true rfl)
    have sz3 := own_leN (Keep.of_wr W3).1
    have N3 := Fr.snoc X3 N0 gn_dst
    refine own_pre (A' := T3.setTop (mkF m 32 #[.val (.ref ca), .val (.int (0 : Int32)), .val (.ref dst), .val (.int (0 : Int32)), .val (.int (2 : Int32)), .val (.int (0 : Int32)), .val (.int c0)] [])) st3 ?_
    refine o_iinc X3 hx hby D7_32 rfl (l' := #[.val (.ref ca), .val (.int ((0 : Int32) + (1 : Int32))), .val (.ref dst), .val (.int (0 : Int32)), .val (.int (2 : Int32)), .val (.int (0 : Int32)), .val (.int c0)]) rfl ?_
    rw [(by decide : ((0 : Int32) + (1 : Int32)) = (1 : Int32))]
    refine o_iinc X3 hx hby D7_35 rfl (l' := #[.val (.ref ca), .val (.int (1 : Int32)), .val (.ref dst), .val (.int ((0 : Int32) + (1 : Int32))), .val (.int (2 : Int32)), .val (.int (0 : Int32)), .val (.int c0)]) rfl ?_
    rw [(by decide : ((0 : Int32) + (1 : Int32)) = (1 : Int32))]
    refine o_iinc X3 hx hby D7_38 rfl (l' := #[.val (.ref ca), .val (.int (1 : Int32)), .val (.ref dst), .val (.int (1 : Int32)), .val (.int (2 : Int32)), .val (.int ((0 : Int32) + (1 : Int32))), .val (.int c0)]) rfl ?_
    rw [(by decide : ((0 : Int32) + (1 : Int32)) = (1 : Int32))]
    refine o_goto X3 hx hby D7_41 (q := 3) (by decide) (by decide) ?_
    refine o_iload X3 hx hby D7_3 rfl ?_
    refine o_iload X3 hx hby D7_5 rfl ?_
    refine o_icmpN X3 hx hby D7_7 (tlt (by decide : (1 : Int32) < (2 : Int32))).2.1 ?_
    refine o_aloadN X3 hx hby D7_10 rfl rfl ?_
    refine o_iloadN X3 hx hby D7_11 rfl ?_
    have c5_V_ca := (Vc.other W3 (by first | exact own_neN (by omega) | exact own_neN' (by omega) | assumption))
    obtain ⟨cl_ca_4, Ar_ca_4, q_ca_4, S_ca_4, N_ca_4, H_ca_4, G_ca_4⟩ := id c5_V_ca
    have hin_ca_4 : ¬ ((1 : Int32) < 0 ∨ cl_ca_4.slots.size ≤ ((1 : Int32)).toNatClampNeg) := inb_of S_ca_4 ⟨by decide, by decide⟩
    have hat_ca_4 : cl_ca_4.slots[((1 : Int32)).toNatClampNeg]? = some (.int c1) := H_ca_4.at hin_ca_4 (rfl)
    refine own_pre (A' := T3.setTop (mkF m 13 #[.val (.ref ca), .val (.int (1 : Int32)), .val (.ref dst), .val (.int (1 : Int32)), .val (.int (2 : Int32)), .val (.int (1 : Int32)), .val (.int c0)] [(.int c1)])) (fun t k => X3.caload hx (j := (1 : Int32)) (v := (.int c1)) (by rw [e3]; exact Ar_ca_4.1) (State.isArrayOf_alike hZ.alike Ar_ca_4.2.1) Ar_ca_4.2.2 hin_ca_4 hat_ca_4 (g := (mkF m 12 #[.val (.ref ca), .val (.int (1 : Int32)), .val (.ref dst), .val (.int (1 : Int32)), .val (.int (2 : Int32)), .val (.int (1 : Int32)), .val (.int c0)] [(.int (1 : Int32)), (.ref ca)])) rfl rfl (hb hby D7_12.1) _ k) ?_
    refine o_istore X3 hx hby D7_13 (l' := #[.val (.ref ca), .val (.int (1 : Int32)), .val (.ref dst), .val (.int (1 : Int32)), .val (.int (2 : Int32)), .val (.int (1 : Int32)), .val (.int c1)]) rfl ?_
    refine o_iload X3 hx hby D7_15 rfl ?_
    refine o_sipush X3 hx hby D7_17 (v := 255) rfl ?_
    by_cases hc20_6 : (255 : Int32) < c1
    · skip
      refine o_icmpN X3 hx hby D7_20 (tlt hc20_6).2.2.2 ?_
      refine o_iload X3 hx hby D7_23 rfl ?_
      have KK : Keep h0 h3 [dst] := ((Keep.refl h0 [dst]).wr W3 (Or.inl (by simp)))
      exact own_ret (v := some (.int (1 : Int32))) X3 (fun h => by first | rfl | (rw [Bd.returns] at h; cases h)) (BodyLoose.notSynchronized Bd) (by decide) (by decide) (by rw [e3]; exact ⟨N3, KK, (Or.inr (Or.inr ⟨rfl, hc20_6⟩))⟩) (fun fs hr => retI X3 hx Bd.returns (hb hby D7_25.1) hr)
    · skip
      refine o_icmpY X3 hx hby D7_20 (flt hc20_6).2.2.2 (q := 26) (by decide) (by decide) ?_
      refine o_aloadN X3 hx hby D7_26 rfl rfl ?_
      refine o_iloadN X3 hx hby D7_27 rfl ?_
      refine o_iload X3 hx hby D7_28 rfl ?_
      refine o_i2b X3 hx hby D7_30 ?_
      obtain ⟨cl_dst_7, Ar_dst_7, q_dst_7, S_dst_7, N_dst_7, H_dst_7, G_dst_7⟩ := id V_dst_3
      have hin_dst_7 : ¬ ((1 : Int32) < 0 ∨ cl_dst_7.slots.size ≤ ((1 : Int32)).toNatClampNeg) := inb_of S_dst_7 ⟨by decide, by decide⟩
      obtain ⟨T7, h7, X7, e7, W7, st7⟩ := stB X3 hx hZ e3 Ar_dst_7 (j := (1 : Int32)) hin_dst_7 (g := (mkF m 31 #[.val (.ref ca), .val (.int (1 : Int32)), .val (.ref dst), .val (.int (1 : Int32)), .val (.int (2 : Int32)), .val (.int (1 : Int32)), .val (.int c1)] [(.int ((c1).toInt8.toInt32)), (.int (1 : Int32)), (.ref dst)])) rfl rfl (hb hby D7_31.1)
      have V_dst_7 : Arv Z h7 dst kd .byte (2 : Int32) [(.int (nar .byte ((c0).toInt8.toInt32))), (.int (nar .byte ((c1).toInt8.toInt32)))] (.int (0 : Int32)) := Arv.set Ar_dst_7 q_dst_7 S_dst_7 N_dst_7 H_dst_7 G_dst_7 (fits_nar_byte _) W7 1 rfl (Nat.le_of_ble_eq_true rfl)
      have sz7 := own_leN (Keep.of_wr W7).1
      have N7 := Fr.snoc X7 N3 gn_dst
      refine own_pre (A' := T7.setTop (mkF m 32 #[.val (.ref ca), .val (.int (1 : Int32)), .val (.ref dst), .val (.int (1 : Int32)), .val (.int (2 : Int32)), .val (.int (1 : Int32)), .val (.int c1)] [])) st7 ?_
      refine o_iinc X7 hx hby D7_32 rfl (l' := #[.val (.ref ca), .val (.int ((1 : Int32) + (1 : Int32))), .val (.ref dst), .val (.int (1 : Int32)), .val (.int (2 : Int32)), .val (.int (1 : Int32)), .val (.int c1)]) rfl ?_
      rw [(by decide : ((1 : Int32) + (1 : Int32)) = (2 : Int32))]
      refine o_iinc X7 hx hby D7_35 rfl (l' := #[.val (.ref ca), .val (.int (2 : Int32)), .val (.ref dst), .val (.int ((1 : Int32) + (1 : Int32))), .val (.int (2 : Int32)), .val (.int (1 : Int32)), .val (.int c1)]) rfl ?_
      rw [(by decide : ((1 : Int32) + (1 : Int32)) = (2 : Int32))]
      refine o_iinc X7 hx hby D7_38 rfl (l' := #[.val (.ref ca), .val (.int (2 : Int32)), .val (.ref dst), .val (.int (2 : Int32)), .val (.int (2 : Int32)), .val (.int ((1 : Int32) + (1 : Int32))), .val (.int c1)]) rfl ?_
      rw [(by decide : ((1 : Int32) + (1 : Int32)) = (2 : Int32))]
      refine o_goto X7 hx hby D7_41 (q := 3) (by decide) (by decide) ?_
      refine o_iload X7 hx hby D7_3 rfl ?_
      refine o_iload X7 hx hby D7_5 rfl ?_
      refine o_icmpY X7 hx hby D7_7 (flt (by decide : ¬ ((2 : Int32) < (2 : Int32)))).2.1 (q := 44) (by decide) (by decide) ?_
      refine o_iload X7 hx hby D7_44 rfl ?_
      have KK : Keep h0 h7 [dst] := (((Keep.refl h0 [dst]).wr W3 (Or.inl (by simp))).wr W7 (Or.inl (by simp)))
      have VV : Arv Z h7 dst kd .byte (2 : Int32) [(.int (own_l8 c0)), (.int (own_l8 c1))] (.int (0 : Int32)) := V_dst_7
      exact own_ret (v := some (.int (2 : Int32))) X7 (fun h => by first | rfl | (rw [Bd.returns] at h; cases h)) (BodyLoose.notSynchronized Bd) (by decide) (by decide) (by rw [e7]; exact ⟨N7, KK, (Or.inl ⟨rfl, hc20_2, hc20_6, VV⟩)⟩) (fun fs hr => retI X7 hx Bd.returns (hb hby D7_46.1) hr)
def own_Q32 (Z : State) (c0 c1 : Int32) (h0 : Heap) (n0 : Nat) (v : Option Value) (h : Heap) (L : List Loc) : Prop := ∃ (r : Nat) (kr : ClassId), v = some (.ref r) ∧ Fr n0 L ∧ Keep h0 h [] ∧ h0.size ≤ r ∧ (((¬ ((255 : Int32) < c0)) ∧ (¬ ((255 : Int32) < c1)) ∧ Arv Z h r kr .byte (2 : Int32) [(.int (own_l8 c0)), (.int (own_l8 c1))] (.int (0 : Int32))) ∨ Arv Z h r kr .byte (4 : Int32) [(.int (own_lo c0)), (.int (own_hi c0)), (.int (own_lo c1)), (.int (own_hi c1))] (.int (0 : Int32)))
theorem ef_rs_c32 (m : MethodId) (ca : Addr) : entryFrame m #[(.ref ca), (.int (0 : Int32)), (.int (2 : Int32))] 6 = mkF m 0 #[.val (.ref ca), .val (.int (0 : Int32)), .val (.int (2 : Int32)), .unset, .unset, .unset] [] := by first | (simp [entryFrame, mkF, argsToLocals, Value.category]; done) | rfl
set_option maxRecDepth 65536 in
set_option maxHeartbeats 40000000 in
theorem rs_c32 (l : Launch) (Z : State) (a0 : Array Value) (hw : ∀ d ∈ tables_1, d.before a0 Z = true) (ws : List Jvm.Cond) (ca : Addr) (kc : ClassId) (c0 c1 : Int32) (cs : Int32) (vf : Value) (h0 : Heap) (n0 : Nat) (Z0 : n0 ≤ h0.size) (hST : own_ST Z cs vf) (O0 : Old Z n0 h0) (Vc : Arv Z h0 ca kc .char (2 : Int32) [(.int c0), (.int c1)] (.int (0 : Int32))) (hc0 : own_ch16 c0) (hc1 : own_ch16 c1) :
    own_Mt l (⟨"java/lang/StringUTF16", "compress", "([CII)[B"⟩ : MethodName) jdk_52_method_16_code 6 (some (.array .byte)) ({ frames := 3, cells := 2, slots := 6, locals := 40 } : Room) #[(.ref ca), (.int (0 : Int32)), (.int (2 : Int32))] Z h0 (own_Q32 Z c0 c1 h0 n0) := by
  refine MetFree.of_bodySF (plainFor_of_name pn_java_lang_StringUTF16) hisR ?_
  intro p e s m args below meth c s₁ Bd hml0 hP hK
  obtain ⟨rfl, hZ, hh⟩ := hP
  have hx := Bd.exec
  have hby := Bd.bytes
  have hml : c.maxLocals = 6 := hml0
  have hown : s.vm.findClass "java/lang/StringUTF16" = some m.cls := findClass_of_methodNamed Bd.named
  have hnm := (name_of_methodNamed Bd.named Bd.method).1
  have X0 : Stand p l e ({ frames := 3, cells := 2, slots := 6, locals := 40 } : Room) s m #[(.ref ca), (.int (0 : Int32)), (.int (2 : Int32))] below meth c s₁ [] 0 0 := Stand.of_body Bd
  have e0 : s₁.heap = h0 := by rw [← hh, Bd.state]; rfl
  have N0 := Fr.nil n0
  refine own_start (ef_rs_c32 m ca) ?_
  have hST0 := hST
  obtain ⟨S_cs, S_ad, S_hb, S_lb, S_sf, hcs, hvf⟩ := hST
  have lt_ca := own_ltN Vc.lt
  refine o_iloadN X0 hx hby D6_0 rfl ?_
  obtain ⟨T1, h1, k1, X1, e1, E1, A1, Ex1, st1⟩ := newPE X0 hx hZ (wd hw 26 rfl) e0 (g := (mkF m 1 #[.val (.ref ca), .val (.int (0 : Int32)), .val (.int (2 : Int32)), .unset, .unset, .unset] [(.int (2 : Int32))])) rfl (hb hby D6_1.1) rfl (by decide) (cap := 2) (by decide) (by decide) (by decide) (by decide) (ad := "[B") (by first | rfl | decide)
  obtain ⟨b1, g1⟩ : ∃ z : Nat, z = h0.size := ⟨_, rfl⟩
  rw [← g1] at A1 Ex1 st1
  have sz1 := own_leN E1.1
  have gn_b1 : n0 ≤ b1 := by omega
  have V_b1 : Arv Z h1 b1 k1 .byte (2 : Int32) [(.int (0 : Int32)), (.int (0 : Int32))] (.int (0 : Int32)) := (Arv.new A1 (by decide)).pad (pad_rep [] (.int (0 : Int32)) 2)
  have lt_b1 := own_ltN V_b1.lt
  refine own_pre (A' := T1.setTop (mkF m 3 #[.val (.ref ca), .val (.int (0 : Int32)), .val (.int (2 : Int32)), .unset, .unset, .unset] [(.ref b1)])) st1 ?_
  refine o_astoreN X1 hx hby D6_3 rfl (l' := #[.val (.ref ca), .val (.int (0 : Int32)), .val (.int (2 : Int32)), .val (.ref b1), .unset, .unset]) rfl ?_
  refine o_aloadN X1 hx hby D6_4 rfl rfl ?_
  refine o_iloadN X1 hx hby D6_5 rfl ?_
  refine o_aloadN X1 hx hby D6_6 rfl rfl ?_
  refine o_iconst X1 hx hby D6_7 (v := 0) rfl ?_
  refine o_iloadN X1 hx hby D6_8 rfl ?_
  have c3_V_ca := (Vc.ext E1)
  refine kS X1 hx hZ hown hby (wd hw 27 rfl) (wd hw 28 rfl) (wd hw 24 rfl) (wd hw 29 rfl) (rs_c52 l Z a0 hw [] ca b1 kc k1 c0 c1 h1 n0 (own_leN (by omega)) c3_V_ca V_b1 gn_b1 (by omega)) (by decide) (by decide) (by decide) (by decide) (by decide) (by rw [hml]; rfl) [(.ref ca), (.int (0 : Int32)), (.ref b1), (.int (0 : Int32)), (.int (2 : Int32))] [] (lenOf pd__40_91CI_91BII_41I rfl) (W := 0) rfl rfl D6_9 rfl e1 ?_
  intro v2 T2 L2 X2 hQ2
  obtain ⟨N2q, K2, hw2⟩ := hQ2
  have sz2 := own_leN K2.1
  have N2 := Fr.app N0 N2q
  rcases hw2 with ⟨rfl, hl0, hl1, V5⟩ | ⟨rfl, hh0⟩ | ⟨rfl, hh1⟩
  · skip
    refine own_sh (A' := T2.setTop (mkF m 12 _ [(.int (2 : Int32))])) ?_
    refine o_istore X2 hx hby D6_12 (l' := #[.val (.ref ca), .val (.int (0 : Int32)), .val (.int (2 : Int32)), .val (.ref b1), .val (.int (2 : Int32)), .unset]) rfl ?_
    refine o_iload X2 hx hby D6_14 rfl ?_
    refine o_iloadN X2 hx hby D6_16 rfl ?_
    refine o_icmpY X2 hx hby D6_17 (teq (by decide : (2 : Int32) = (2 : Int32))).1 (q := 57) (by decide) (by decide) ?_
    refine o_aloadN X2 hx hby D6_57 rfl rfl ?_
    have KK : Keep h0 T2.heap [] := (((Keep.refl h0 []).ext E1).trans K2 (allS (Or.inr (own_leN (by omega))) all0))
    exact own_ret (v := some (.ref b1)) X2 (fun h => by first | rfl | (rw [Bd.returns] at h; cases h)) (BodyLoose.notSynchronized Bd) (by decide) (by decide) (⟨b1, k1, rfl, N2, KK, own_leN (by omega), Or.inl ⟨hl0, hl1, V5⟩⟩) (fun fs hr => retOut X2 hx Bd.returns rfl (Or.inr (Or.inr (Or.inr (Or.inr ⟨rfl, rfl, rfl⟩)))) (hb hby D6_58.1) hr)
  · skip
    refine own_sh (A' := T2.setTop (mkF m 12 _ [(.int (0 : Int32))])) ?_
    refine o_istore X2 hx hby D6_12 (l' := #[.val (.ref ca), .val (.int (0 : Int32)), .val (.int (2 : Int32)), .val (.ref b1), .val (.int (0 : Int32)), .unset]) rfl ?_
    refine o_iload X2 hx hby D6_14 rfl ?_
    refine o_iloadN X2 hx hby D6_16 rfl ?_
    refine o_icmpN X2 hx hby D6_17 (feq (by decide : ¬ ((0 : Int32) = (2 : Int32)))).1 ?_
    refine o_aloadN X2 hx hby D6_20 rfl rfl ?_
    refine o_iloadN X2 hx hby D6_21 rfl ?_
    refine o_iloadN X2 hx hby D6_22 rfl ?_
    have c5_O := ((O0.ext E1).keep K2 (allS gn_b1 all0))
    have c6_V_ca := (c3_V_ca.keep K2 (ninS (by first | exact own_neN (by omega) | exact own_neN' (by omega) | assumption) nin0))
    refine kS X2 hx hZ hown hby (wd hw 83 rfl) (wd hw 84 rfl) (wd hw 24 rfl) (wd hw 85 rfl) (rs_tb2 l Z a0 hw [] ca kc c0 c1 cs vf T2.heap n0 (own_leN (by omega)) hST0 c5_O c6_V_ca) (by decide) (by decide) (by decide) (by decide) (by decide) (by rw [hml]; rfl) [(.ref ca), (.int (0 : Int32)), (.int (2 : Int32))] [] (lenOf pd__40_91CII_41_91B rfl) (W := 0) rfl rfl D6_23 rfl rfl ?_
    intro v4 T4 L4 X4 hQ4
    obtain ⟨r4, kr4, rfl, N4q, K4, ge4, Vr4⟩ := hQ4
    have sz4 := own_leN K4.1
    have ge4' := own_leN ge4
    have lt_r4 := own_ltN Vr4.lt
    have gn_r4 : n0 ≤ r4 := own_leN (by omega)
    have N4 := Fr.app N2 N4q
    refine own_sh (A' := T4.setTop (mkF m 26 _ [(.ref r4)])) ?_
    refine o_astore X4 hx hby D6_26 rfl (l' := #[.val (.ref ca), .val (.int (0 : Int32)), .val (.int (2 : Int32)), .val (.ref b1), .val (.int (0 : Int32)), .val (.ref r4)]) rfl ?_
    refine o_aload X4 hx hby D6_28 rfl rfl ?_
    refine o_iload X4 hx hby D6_30 rfl ?_
    have c8_O := (c5_O.keep K4 all0)
    refine kS X4 hx hZ hown hby (wd hw 99 rfl) (wd hw 100 rfl) (wd hw 24 rfl) (wd hw 101 rfl) (rs_gc20 l Z a0 hw [] r4 kr4 c0 c1 cs vf T4.heap n0 (own_leN (by omega)) hST0 c8_O Vr4 hc0) (by decide) (by decide) (by decide) (by decide) (by decide) (by rw [hml]; rfl) [(.ref r4), (.int (0 : Int32))] [] (lenOf pd__40_91BI_41C rfl) (W := 0) rfl rfl D6_32 rfl rfl ?_
    intro v7 T7 L7 X7 hQ7
    obtain ⟨rfl, N7q, e7⟩ := hQ7
    have N7 := Fr.app N4 N7q
    refine own_sh (A' := T7.setTop (mkF m 35 _ [(.int c0)])) ?_
    refine o_sipush X7 hx hby D6_35 (v := 255) rfl ?_
    refine o_icmpY X7 hx hby D6_38 (tlt (hh0 : (255 : Int32) < c0)).2.2.1 (q := 54) (by decide) (by decide) ?_
    refine o_aload X7 hx hby D6_54 rfl rfl ?_
    have KK : Keep h0 T4.heap [] := ((((Keep.refl h0 []).ext E1).trans K2 (allS (Or.inr (own_leN (by omega))) all0)).trans K4 all0)
    exact own_ret (v := some (.ref r4)) X7 (fun h => by first | rfl | (rw [Bd.returns] at h; cases h)) (BodyLoose.notSynchronized Bd) (by decide) (by decide) (by rw [e7]; exact ⟨r4, kr4, rfl, N7, KK, own_leN (by omega), Or.inr Vr4⟩) (fun fs hr => retOut X7 hx Bd.returns rfl (Or.inr (Or.inr (Or.inr (Or.inr ⟨rfl, rfl, rfl⟩)))) (hb hby D6_56.1) hr)
  · skip
    refine own_sh (A' := T2.setTop (mkF m 12 _ [(.int (1 : Int32))])) ?_
    refine o_istore X2 hx hby D6_12 (l' := #[.val (.ref ca), .val (.int (0 : Int32)), .val (.int (2 : Int32)), .val (.ref b1), .val (.int (1 : Int32)), .unset]) rfl ?_
    refine o_iload X2 hx hby D6_14 rfl ?_
    refine o_iloadN X2 hx hby D6_16 rfl ?_
    refine o_icmpN X2 hx hby D6_17 (feq (by decide : ¬ ((1 : Int32) = (2 : Int32)))).1 ?_
    refine o_aloadN X2 hx hby D6_20 rfl rfl ?_
    refine o_iloadN X2 hx hby D6_21 rfl ?_
    refine o_iloadN X2 hx hby D6_22 rfl ?_
    have c10_O := ((O0.ext E1).keep K2 (allS gn_b1 all0))
    have c11_V_ca := (c3_V_ca.keep K2 (ninS (by first | exact own_neN (by omega) | exact own_neN' (by omega) | assumption) nin0))
    refine kS X2 hx hZ hown hby (wd hw 83 rfl) (wd hw 84 rfl) (wd hw 24 rfl) (wd hw 85 rfl) (rs_tb2 l Z a0 hw [] ca kc c0 c1 cs vf T2.heap n0 (own_leN (by omega)) hST0 c10_O c11_V_ca) (by decide) (by decide) (by decide) (by decide) (by decide) (by rw [hml]; rfl) [(.ref ca), (.int (0 : Int32)), (.int (2 : Int32))] [] (lenOf pd__40_91CII_41_91B rfl) (W := 0) rfl rfl D6_23 rfl rfl ?_
    intro v9 T9 L9 X9 hQ9
    obtain ⟨r9, kr9, rfl, N9q, K9, ge9, Vr9⟩ := hQ9
    have sz9 := own_leN K9.1
    have ge9' := own_leN ge9
    have lt_r9 := own_ltN Vr9.lt
    have gn_r9 : n0 ≤ r9 := own_leN (by omega)
    have N9 := Fr.app N2 N9q
    refine own_sh (A' := T9.setTop (mkF m 26 _ [(.ref r9)])) ?_
    refine o_astore X9 hx hby D6_26 rfl (l' := #[.val (.ref ca), .val (.int (0 : Int32)), .val (.int (2 : Int32)), .val (.ref b1), .val (.int (1 : Int32)), .val (.ref r9)]) rfl ?_
    refine o_aload X9 hx hby D6_28 rfl rfl ?_
    refine o_iload X9 hx hby D6_30 rfl ?_
    have c13_O := (c10_O.keep K9 all0)
    refine kS X9 hx hZ hown hby (wd hw 99 rfl) (wd hw 100 rfl) (wd hw 24 rfl) (wd hw 101 rfl) (rs_gc21 l Z a0 hw [] r9 kr9 c0 c1 cs vf T9.heap n0 (own_leN (by omega)) hST0 c13_O Vr9 hc1) (by decide) (by decide) (by decide) (by decide) (by decide) (by rw [hml]; rfl) [(.ref r9), (.int (1 : Int32))] [] (lenOf pd__40_91BI_41C rfl) (W := 0) rfl rfl D6_32 rfl rfl ?_
    intro v12 T12 L12 X12 hQ12
    obtain ⟨rfl, N12q, e12⟩ := hQ12
    have N12 := Fr.app N9 N12q
    refine own_sh (A' := T12.setTop (mkF m 35 _ [(.int c1)])) ?_
    refine o_sipush X12 hx hby D6_35 (v := 255) rfl ?_
    refine o_icmpY X12 hx hby D6_38 (tlt (hh1 : (255 : Int32) < c1)).2.2.1 (q := 54) (by decide) (by decide) ?_
    refine o_aload X12 hx hby D6_54 rfl rfl ?_
    have KK : Keep h0 T9.heap [] := ((((Keep.refl h0 []).ext E1).trans K2 (allS (Or.inr (own_leN (by omega))) all0)).trans K9 all0)
    exact own_ret (v := some (.ref r9)) X12 (fun h => by first | rfl | (rw [Bd.returns] at h; cases h)) (BodyLoose.notSynchronized Bd) (by decide) (by decide) (by rw [e12]; exact ⟨r9, kr9, rfl, N12, KK, own_leN (by omega), Or.inr Vr9⟩) (fun fs hr => retOut X12 hx Bd.returns rfl (Or.inr (Or.inr (Or.inr (Or.inr ⟨rfl, rfl, rfl⟩)))) (hb hby D6_56.1) hr)
theorem ef_rs_cd2_2 (m : MethodId) (ba : Addr) : entryFrame m #[(.ref ba), (.int (2 : Int32))] 2 = mkF m 0 #[.val (.ref ba), .val (.int (2 : Int32))] [] := by first | (simp [entryFrame, mkF, argsToLocals, Value.category]; done) | rfl
set_option maxRecDepth 65536 in
set_option maxHeartbeats 40000000 in
theorem rs_cd2_2 (l : Launch) (Z : State) (a0 : Array Value) (hw : ∀ d ∈ tables_1, d.before a0 Z = true) (ws : List Jvm.Cond) (ba : Addr) (kb : ClassId) (xs : List Value) (h0 : Heap) (n0 : Nat) (Z0 : n0 ≤ h0.size) (Vb : Arv Z h0 ba kb .byte (2 : Int32) xs (.int (0 : Int32))) :
    own_Mt l (⟨"java/lang/StringUTF16", "coderFromArrayLen", "([BI)B"⟩ : MethodName) jdk_52_method_15_code 2 (some .byte) ({ frames := 0, cells := 0, slots := 0, locals := 0 } : Room) #[(.ref ba), (.int (2 : Int32))] Z h0 (own_QP (.int (0 : Int32)) h0 n0) := by
  refine MetFree.of_bodySF (plainFor_of_name pn_java_lang_StringUTF16) hisR ?_
  intro p e s m args below meth c s₁ Bd hml0 hP hK
  obtain ⟨rfl, hZ, hh⟩ := hP
  have hx := Bd.exec
  have hby := Bd.bytes
  have hml : c.maxLocals = 2 := hml0
  have hown : s.vm.findClass "java/lang/StringUTF16" = some m.cls := findClass_of_methodNamed Bd.named
  have hnm := (name_of_methodNamed Bd.named Bd.method).1
  have X0 : Stand p l e ({ frames := 0, cells := 0, slots := 0, locals := 0 } : Room) s m #[(.ref ba), (.int (2 : Int32))] below meth c s₁ [] 0 0 := Stand.of_body Bd
  have e0 : s₁.heap = h0 := by rw [← hh, Bd.state]; rfl
  have N0 := Fr.nil n0
  refine own_start (ef_rs_cd2_2 m ba) ?_
  refine o_iloadN X0 hx hby D8_0 rfl ?_
  refine o_aloadN X0 hx hby D8_1 rfl rfl ?_
  obtain ⟨cl_ba_1, Ar_ba_1, q_ba_1, S_ba_1, N_ba_1, H_ba_1, G_ba_1⟩ := id Vb
  refine own_pre (A' := s₁.setTop (mkF m 3 #[.val (.ref ba), .val (.int (2 : Int32))] [(.int (2 : Int32)), (.int (2 : Int32))])) (fun t k => X0.arraylength hx (by rw [e0]; exact Ar_ba_1.1) (State.isArrayOf_alike hZ.alike Ar_ba_1.2.1) (g := (mkF m 2 #[.val (.ref ba), .val (.int (2 : Int32))] [(.ref ba), (.int (2 : Int32))])) rfl rfl (hb hby D8_2.1) _ (by rw [len_of S_ba_1 N_ba_1]; exact k)) ?_
  refine o_isub X0 hx hby D8_3 ?_
  rw [(by decide : ((2 : Int32) - (2 : Int32)) = (0 : Int32))]
  refine o_bipush X0 hx hby D8_4 (v := 31) rfl ?_
  refine o_iushr X0 hx hby D8_6 ?_
  rw [(by decide : (((0 : Int32).toUInt32 >>> ((31 : Int32) &&& 31).toUInt32).toInt32) = (0 : Int32))]
  refine o_i2b X0 hx hby D8_7 ?_
  rw [(by decide : (((0 : Int32)).toInt8.toInt32) = (0 : Int32))]
  exact own_ret (v := some (.int (0 : Int32))) X0 (fun h => by first | rfl | (rw [Bd.returns] at h; cases h)) (BodyLoose.notSynchronized Bd) (by decide) (by decide) (⟨rfl, N0, e0⟩) (fun fs hr => retN X0 hx (t := .byte) Bd.returns (by simp) (hb hby D8_8.1) hr)
theorem ef_rs_cd2_4 (m : MethodId) (ba : Addr) : entryFrame m #[(.ref ba), (.int (2 : Int32))] 2 = mkF m 0 #[.val (.ref ba), .val (.int (2 : Int32))] [] := by first | (simp [entryFrame, mkF, argsToLocals, Value.category]; done) | rfl
set_option maxRecDepth 65536 in
set_option maxHeartbeats 40000000 in
theorem rs_cd2_4 (l : Launch) (Z : State) (a0 : Array Value) (hw : ∀ d ∈ tables_1, d.before a0 Z = true) (ws : List Jvm.Cond) (ba : Addr) (kb : ClassId) (xs : List Value) (h0 : Heap) (n0 : Nat) (Z0 : n0 ≤ h0.size) (Vb : Arv Z h0 ba kb .byte (4 : Int32) xs (.int (0 : Int32))) :
    own_Mt l (⟨"java/lang/StringUTF16", "coderFromArrayLen", "([BI)B"⟩ : MethodName) jdk_52_method_15_code 2 (some .byte) ({ frames := 0, cells := 0, slots := 0, locals := 0 } : Room) #[(.ref ba), (.int (2 : Int32))] Z h0 (own_QP (.int (1 : Int32)) h0 n0) := by
  refine MetFree.of_bodySF (plainFor_of_name pn_java_lang_StringUTF16) hisR ?_
  intro p e s m args below meth c s₁ Bd hml0 hP hK
  obtain ⟨rfl, hZ, hh⟩ := hP
  have hx := Bd.exec
  have hby := Bd.bytes
  have hml : c.maxLocals = 2 := hml0
  have hown : s.vm.findClass "java/lang/StringUTF16" = some m.cls := findClass_of_methodNamed Bd.named
  have hnm := (name_of_methodNamed Bd.named Bd.method).1
  have X0 : Stand p l e ({ frames := 0, cells := 0, slots := 0, locals := 0 } : Room) s m #[(.ref ba), (.int (2 : Int32))] below meth c s₁ [] 0 0 := Stand.of_body Bd
  have e0 : s₁.heap = h0 := by rw [← hh, Bd.state]; rfl
  have N0 := Fr.nil n0
  refine own_start (ef_rs_cd2_4 m ba) ?_
  refine o_iloadN X0 hx hby D8_0 rfl ?_
  refine o_aloadN X0 hx hby D8_1 rfl rfl ?_
  obtain ⟨cl_ba_1, Ar_ba_1, q_ba_1, S_ba_1, N_ba_1, H_ba_1, G_ba_1⟩ := id Vb
  refine own_pre (A' := s₁.setTop (mkF m 3 #[.val (.ref ba), .val (.int (2 : Int32))] [(.int (4 : Int32)), (.int (2 : Int32))])) (fun t k => X0.arraylength hx (by rw [e0]; exact Ar_ba_1.1) (State.isArrayOf_alike hZ.alike Ar_ba_1.2.1) (g := (mkF m 2 #[.val (.ref ba), .val (.int (2 : Int32))] [(.ref ba), (.int (2 : Int32))])) rfl rfl (hb hby D8_2.1) _ (by rw [len_of S_ba_1 N_ba_1]; exact k)) ?_
  refine o_isub X0 hx hby D8_3 ?_
  rw [(by decide : ((2 : Int32) - (4 : Int32)) = (-2 : Int32))]
  refine o_bipush X0 hx hby D8_4 (v := 31) rfl ?_
  refine o_iushr X0 hx hby D8_6 ?_
  rw [(by decide : (((-2 : Int32).toUInt32 >>> ((31 : Int32) &&& 31).toUInt32).toInt32) = (1 : Int32))]
  refine o_i2b X0 hx hby D8_7 ?_
  rw [(by decide : (((1 : Int32)).toInt8.toInt32) = (1 : Int32))]
  exact own_ret (v := some (.int (1 : Int32))) X0 (fun h => by first | rfl | (rw [Bd.returns] at h; cases h)) (BodyLoose.notSynchronized Bd) (by decide) (by decide) (⟨rfl, N0, e0⟩) (fun fs hr => retN X0 hx (t := .byte) Bd.returns (by simp) (hb hby D8_8.1) hr)
def own_Str2 (Z : State) (h : Heap) (st vb : Addr) (kb : ClassId) (c0 c1 : Int32) : Prop := Exa Z h st "java/lang/String" ∧ Fld Z h st "java/lang/String" "value" "[B" (.ref vb) ∧ ((Fld Z h st "java/lang/String" "coder" "B" (.int 0) ∧ (¬ ((255 : Int32) < c0)) ∧ (¬ ((255 : Int32) < c1)) ∧ Arv Z h vb kb .byte (2 : Int32) [(.int (own_l8 c0)), (.int (own_l8 c1))] (.int (0 : Int32))) ∨ (Fld Z h st "java/lang/String" "coder" "B" (.int 1) ∧ Arv Z h vb kb .byte (4 : Int32) [(.int (own_lo c0)), (.int (own_hi c0)), (.int (own_lo c1)), (.int (own_hi c1))] (.int (0 : Int32))))
def own_QI2 (Z : State) (a1 : Addr) (c0 c1 : Int32) (h0 : Heap) (n0 : Nat) (v : Option Value) (h : Heap) (L : List Loc) : Prop := ∃ (vb : Nat) (kb : ClassId), v = none ∧ Fr n0 L ∧ Keep h0 h [a1] ∧ h0.size ≤ vb ∧ own_Str2 Z h a1 vb kb c0 c1
theorem ef_rs_i42 (m : MethodId) (a1 : Addr) (ca : Addr) : entryFrame m #[(.ref a1), (.ref ca), (.int (0 : Int32)), (.int (2 : Int32)), .null] 6 = mkF m 0 #[.val (.ref a1), .val (.ref ca), .val (.int (0 : Int32)), .val (.int (2 : Int32)), .val .null, .unset] [] := by first | (simp [entryFrame, mkF, argsToLocals, Value.category]; done) | rfl
set_option maxRecDepth 65536 in
set_option maxHeartbeats 40000000 in
theorem rs_i42 (l : Launch) (Z : State) (a0 : Array Value) (hw : ∀ d ∈ tables_1, d.before a0 Z = true) (ws : List Jvm.Cond) (a1 : Addr) (ca : Addr) (kc : ClassId) (c0 c1 : Int32) (u0 u1 : Value) (cs : Int32) (vf : Value) (h0 : Heap) (n0 : Nat) (Z0 : n0 ≤ h0.size) (hST : own_ST Z cs vf) (O0 : Old Z n0 h0) (Vc : Arv Z h0 ca kc .char (2 : Int32) [(.int c0), (.int c1)] (.int (0 : Int32))) (hc0 : own_ch16 c0) (hc1 : own_ch16 c1) (gn_a1 : n0 ≤ a1) (E_a1 : Exa Z h0 a1 "java/lang/String") (F_v : Fld Z h0 a1 "java/lang/String" "value" "[B" u0) (F_c : Fld Z h0 a1 "java/lang/String" "coder" "B" u1) :
    own_Mt l (⟨"java/lang/String", "<init>", "([CIILjava/lang/Void;)V"⟩ : MethodName) jdk_42_method_149_code 6 none ({ frames := 4, cells := 2, slots := 6, locals := 57 } : Room) #[(.ref a1), (.ref ca), (.int (0 : Int32)), (.int (2 : Int32)), .null] Z h0 (own_QI2 Z a1 c0 c1 h0 n0) := by
  refine MetFree.of_bodySF (plainFor_of_name pn_java_lang_String) hisR ?_
  intro p e s m args below meth c s₁ Bd hml0 hP hK
  obtain ⟨rfl, hZ, hh⟩ := hP
  have hx := Bd.exec
  have hby := Bd.bytes
  have hml : c.maxLocals = 6 := hml0
  have hown : s.vm.findClass "java/lang/String" = some m.cls := findClass_of_methodNamed Bd.named
  have hnm := (name_of_methodNamed Bd.named Bd.method).1
  have X0 : Stand p l e ({ frames := 4, cells := 2, slots := 6, locals := 57 } : Room) s m #[(.ref a1), (.ref ca), (.int (0 : Int32)), (.int (2 : Int32)), .null] below meth c s₁ [] 0 0 := Stand.of_body Bd
  have e0 : s₁.heap = h0 := by rw [← hh, Bd.state]; rfl
  have N0 := Fr.nil n0
  refine own_start (ef_rs_i42 m a1 ca) ?_
  have hST0 := hST
  obtain ⟨S_cs, S_ad, S_hb, S_lb, S_sf, hcs, hvf⟩ := hST
  have lt_ca := own_ltN Vc.lt
  have lt_a1 := own_ltN E_a1.lt
  refine o_aloadN X0 hx hby D4_0 rfl rfl ?_
  obtain ⟨T1, X1, e1, st1⟩ := initO X0 hx hZ hown (wd hw 18 rfl) (wd hw 19 rfl) (wd hw 20 rfl) e0 (g := (mkF m 1 #[.val (.ref a1), .val (.ref ca), .val (.int (0 : Int32)), .val (.int (2 : Int32)), .val .null, .unset] [(.ref a1)])) rfl (by rw [hml]; rfl) rfl (hb hby D4_1.1) (by decide) (W := 0) (by show 2 * 0 + _ ≤ _; exact Nat.le_of_eq rfl) (by decide)
  refine own_pre (A' := T1.setTop (mkF m 4 #[.val (.ref a1), .val (.ref ca), .val (.int (0 : Int32)), .val (.int (2 : Int32)), .val .null, .unset] [])) st1 ?_
  refine o_iloadN X1 hx hby D4_4 rfl ?_
  refine o_ifY X1 hx hby D4_5 ((if0 _ _).trans (feq (by decide : ¬ ((2 : Int32) = (0 : Int32)))).2) (q := 27) (by decide) (by decide) ?_
  obtain ⟨T2, X2, e2, st2⟩ := getS2 X1 hx hZ hown (host := "") (Or.inl (wd hw 21 rfl)) Via.refl e1 (S_cs.ext O0.2) (g := (mkF m 27 #[.val (.ref a1), .val (.ref ca), .val (.int (0 : Int32)), .val (.int (2 : Int32)), .val .null, .unset] [])) rfl (hb hby D4_27.1)
  refine own_pre (A' := T2.setTop (mkF m 30 #[.val (.ref a1), .val (.ref ca), .val (.int (0 : Int32)), .val (.int (2 : Int32)), .val .null, .unset] [(.int cs)])) st2 ?_
  refine o_ifN X2 hx hby D4_30 ((if0 _ _).trans (feq (hcs : ¬ (cs = (0 : Int32)))).1) ?_
  refine o_aloadN X2 hx hby D4_33 rfl rfl ?_
  refine o_iloadN X2 hx hby D4_34 rfl ?_
  refine o_iloadN X2 hx hby D4_35 rfl ?_
  refine kS X2 hx hZ hown hby (wd hw 22 rfl) (wd hw 23 rfl) (wd hw 24 rfl) (wd hw 25 rfl) (rs_c32 l Z a0 hw [] ca kc c0 c1 cs vf h0 n0 (own_leN (by omega)) hST0 O0 Vc hc0 hc1) (by decide) (by decide) (by decide) (by decide) (by decide) (by rw [hml]; rfl) [(.ref ca), (.int (0 : Int32)), (.int (2 : Int32))] [] (lenOf pd__40_91CII_41_91B rfl) (W := 0) rfl rfl D4_36 rfl e2 ?_
  intro v3 T3 L3 X3 hQ3
  obtain ⟨r3, kr3, rfl, N3q, K3, ge3, hw3⟩ := hQ3
  have sz3 := own_leN K3.1
  have ge3' := own_leN ge3
  have N3 := Fr.app N0 N3q
  refine own_sh (A' := T3.setTop (mkF m 39 _ [(.ref r3)])) ?_
  rcases hw3 with ⟨hl0, hl1, Vr⟩ | Vr
  · have lt_r3 := own_ltN Vr.lt
    refine o_astore X3 hx hby D4_39 rfl (l' := #[.val (.ref a1), .val (.ref ca), .val (.int (0 : Int32)), .val (.int (2 : Int32)), .val .null, .val (.ref r3)]) rfl ?_
    refine o_aloadN X3 hx hby D4_41 rfl rfl ?_
    refine o_aload X3 hx hby D4_42 rfl rfl ?_
    refine o_iloadN X3 hx hby D4_44 rfl ?_
    refine kS X3 hx hZ hown hby (wd hw 30 rfl) (wd hw 31 rfl) (wd hw 24 rfl) (wd hw 32 rfl) (rs_cd2_2 l Z a0 hw [] r3 kr3 [(.int (own_l8 c0)), (.int (own_l8 c1))] T3.heap n0 (own_leN (by omega)) Vr) (by decide) (by decide) (by decide) (by decide) (by decide) (by rw [hml]; rfl) [(.ref r3), (.int (2 : Int32))] [(.ref a1)] (lenOf pd__40_91BI_41B rfl) (W := 1) rfl rfl D4_45 rfl rfl ?_
    intro v4 T4 L4 X4 hQ4
    obtain ⟨rfl, N4q, e4⟩ := hQ4
    have N4 := Fr.app N3 N4q
    refine own_sh (A' := T4.setTop (mkF m 48 _ [(.int (0 : Int32)), (.ref a1)])) ?_
    have c6_F_a1_coder := (F_c.keep K3 nin0)
    have c7_E_a1 := (E_a1.keep K3)
    obtain ⟨T5, h5, X5, e5, W5, st5⟩ := putFN X4 hx hZ hown (wd hw 33 rfl) Via.refl e4 c6_F_a1_coder c7_E_a1 (Or.inr ⟨(wd hw 34 rfl), rfl, hnm⟩) (wd hw 9 rfl) (ty := .byte) (v' := (.int (0 : Int32))) (by decide) rfl rfl (g := (mkF m 48 #[.val (.ref a1), .val (.ref ca), .val (.int (0 : Int32)), .val (.int (2 : Int32)), .val .null, .val (.ref r3)] [(.int (0 : Int32)), (.ref a1)])) rfl rfl (hb hby D4_48.1)
    have Fw5 := c6_F_a1_coder.same W5
    have sz5 := own_leN (Keep.of_wr W5).1
    have N5 := Fr.snoc X5 N4 gn_a1
    refine own_pre (A' := T5.setTop (mkF m 51 #[.val (.ref a1), .val (.ref ca), .val (.int (0 : Int32)), .val (.int (2 : Int32)), .val .null, .val (.ref r3)] [])) st5 ?_
    refine o_aloadN X5 hx hby D4_51 rfl rfl ?_
    refine o_aload X5 hx hby D4_52 rfl rfl ?_
    have c9_F_a1_value := ((F_v.keep K3 nin0).other W5 (Or.inr (Jvm.RoadKit.slot_ne (Or.inr (wd hw 36 rfl)) (Or.inr (wd hw 34 rfl)) (by decide) (t := (.array .byte)) (t' := .byte) (by decide) (by decide))))
    have c10_E_a1 := (c7_E_a1.wr W5)
    obtain ⟨T8, h8, X8, e8, W8, st8⟩ := putF X5 hx hZ hown (host := "") (Or.inl (wd hw 35 rfl)) Via.refl e5 c9_F_a1_value c10_E_a1 (Or.inr ⟨(wd hw 36 rfl), rfl, hnm⟩) (wd hw 9 rfl) (ty := (.array .byte)) (by decide) rfl rfl (g := (mkF m 54 #[.val (.ref a1), .val (.ref ca), .val (.int (0 : Int32)), .val (.int (2 : Int32)), .val .null, .val (.ref r3)] [(.ref r3), (.ref a1)])) rfl rfl (hb hby D4_54.1)
    have Fw8 := c9_F_a1_value.same W8
    have sz8 := own_leN (Keep.of_wr W8).1
    have N8 := Fr.snoc X8 N5 gn_a1
    refine own_pre (A' := T8.setTop (mkF m 57 #[.val (.ref a1), .val (.ref ca), .val (.int (0 : Int32)), .val (.int (2 : Int32)), .val .null, .val (.ref r3)] [])) st8 ?_
    have c11_E_a1 := (c10_E_a1.wr W8)
    have c12_F_a1_coder := (Fw5.other W8 (Or.inr (Jvm.RoadKit.slot_ne (Or.inr (wd hw 34 rfl)) (Or.inr (wd hw 36 rfl)) (by decide) (t := .byte) (t' := (.array .byte)) (by decide) (by decide))))
    have c13_V_r3 := ((Vr.other W5 (by first | exact own_neN (by omega) | exact own_neN' (by omega) | assumption)).other W8 (by first | exact own_neN (by omega) | exact own_neN' (by omega) | assumption))
    have KK : Keep h0 h8 [a1] := ((((Keep.refl h0 [a1]).trans K3 all0).wr W5 (Or.inl (by simp))).wr W8 (Or.inl (by simp)))
    exact own_ret (v := none) X8 (fun h => by first | rfl | (rw [Bd.returns] at h; cases h)) (BodyLoose.notSynchronized Bd) (by decide) (by decide) (by rw [e8]; exact ⟨r3, kr3, rfl, N8, KK, own_leN (by omega), c11_E_a1, Fw8, Or.inl ⟨c12_F_a1_coder, hl0, hl1, c13_V_r3⟩⟩) (fun fs hr => X8.returnOut hx Bd.returns (hb hby D4_57.1) hr)
  · have lt_r3 := own_ltN Vr.lt
    refine o_astore X3 hx hby D4_39 rfl (l' := #[.val (.ref a1), .val (.ref ca), .val (.int (0 : Int32)), .val (.int (2 : Int32)), .val .null, .val (.ref r3)]) rfl ?_
    refine o_aloadN X3 hx hby D4_41 rfl rfl ?_
    refine o_aload X3 hx hby D4_42 rfl rfl ?_
    refine o_iloadN X3 hx hby D4_44 rfl ?_
    refine kS X3 hx hZ hown hby (wd hw 30 rfl) (wd hw 31 rfl) (wd hw 24 rfl) (wd hw 32 rfl) (rs_cd2_4 l Z a0 hw [] r3 kr3 [(.int (own_lo c0)), (.int (own_hi c0)), (.int (own_lo c1)), (.int (own_hi c1))] T3.heap n0 (own_leN (by omega)) Vr) (by decide) (by decide) (by decide) (by decide) (by decide) (by rw [hml]; rfl) [(.ref r3), (.int (2 : Int32))] [(.ref a1)] (lenOf pd__40_91BI_41B rfl) (W := 1) rfl rfl D4_45 rfl rfl ?_
    intro v14 T14 L14 X14 hQ14
    obtain ⟨rfl, N14q, e14⟩ := hQ14
    have N14 := Fr.app N3 N14q
    refine own_sh (A' := T14.setTop (mkF m 48 _ [(.int (1 : Int32)), (.ref a1)])) ?_
    have c16_F_a1_coder := (F_c.keep K3 nin0)
    have c17_E_a1 := (E_a1.keep K3)
    obtain ⟨T15, h15, X15, e15, W15, st15⟩ := putFN X14 hx hZ hown (wd hw 33 rfl) Via.refl e14 c16_F_a1_coder c17_E_a1 (Or.inr ⟨(wd hw 34 rfl), rfl, hnm⟩) (wd hw 9 rfl) (ty := .byte) (v' := (.int (1 : Int32))) (by decide) rfl rfl (g := (mkF m 48 #[.val (.ref a1), .val (.ref ca), .val (.int (0 : Int32)), .val (.int (2 : Int32)), .val .null, .val (.ref r3)] [(.int (1 : Int32)), (.ref a1)])) rfl rfl (hb hby D4_48.1)
    have Fw15 := c16_F_a1_coder.same W15
    have sz15 := own_leN (Keep.of_wr W15).1
    have N15 := Fr.snoc X15 N14 gn_a1
    refine own_pre (A' := T15.setTop (mkF m 51 #[.val (.ref a1), .val (.ref ca), .val (.int (0 : Int32)), .val (.int (2 : Int32)), .val .null, .val (.ref r3)] [])) st15 ?_
    refine o_aloadN X15 hx hby D4_51 rfl rfl ?_
    refine o_aload X15 hx hby D4_52 rfl rfl ?_
    have c19_F_a1_value := ((F_v.keep K3 nin0).other W15 (Or.inr (Jvm.RoadKit.slot_ne (Or.inr (wd hw 36 rfl)) (Or.inr (wd hw 34 rfl)) (by decide) (t := (.array .byte)) (t' := .byte) (by decide) (by decide))))
    have c20_E_a1 := (c17_E_a1.wr W15)
    obtain ⟨T18, h18, X18, e18, W18, st18⟩ := putF X15 hx hZ hown (host := "") (Or.inl (wd hw 35 rfl)) Via.refl e15 c19_F_a1_value c20_E_a1 (Or.inr ⟨(wd hw 36 rfl), rfl, hnm⟩) (wd hw 9 rfl) (ty := (.array .byte)) (by decide) rfl rfl (g := (mkF m 54 #[.val (.ref a1), .val (.ref ca), .val (.int (0 : Int32)), .val (.int (2 : Int32)), .val .null, .val (.ref r3)] [(.ref r3), (.ref a1)])) rfl rfl (hb hby D4_54.1)
    have Fw18 := c19_F_a1_value.same W18
    have sz18 := own_leN (Keep.of_wr W18).1
    have N18 := Fr.snoc X18 N15 gn_a1
    refine own_pre (A' := T18.setTop (mkF m 57 #[.val (.ref a1), .val (.ref ca), .val (.int (0 : Int32)), .val (.int (2 : Int32)), .val .null, .val (.ref r3)] [])) st18 ?_
    have c21_E_a1 := (c20_E_a1.wr W18)
    have c22_F_a1_coder := (Fw15.other W18 (Or.inr (Jvm.RoadKit.slot_ne (Or.inr (wd hw 34 rfl)) (Or.inr (wd hw 36 rfl)) (by decide) (t := .byte) (t' := (.array .byte)) (by decide) (by decide))))
    have c23_V_r3 := ((Vr.other W15 (by first | exact own_neN (by omega) | exact own_neN' (by omega) | assumption)).other W18 (by first | exact own_neN (by omega) | exact own_neN' (by omega) | assumption))
    have KK : Keep h0 h18 [a1] := ((((Keep.refl h0 [a1]).trans K3 all0).wr W15 (Or.inl (by simp))).wr W18 (Or.inl (by simp)))
    exact own_ret (v := none) X18 (fun h => by first | rfl | (rw [Bd.returns] at h; cases h)) (BodyLoose.notSynchronized Bd) (by decide) (by decide) (by rw [e18]; exact ⟨r3, kr3, rfl, N18, KK, own_leN (by omega), c21_E_a1, Fw18, Or.inr ⟨c22_F_a1_coder, c23_V_r3⟩⟩) (fun fs hr => X18.returnOut hx Bd.returns (hb hby D4_57.1) hr)
theorem ef_rs_i12 (m : MethodId) (a1 : Addr) (ca : Addr) : entryFrame m #[(.ref a1), (.ref ca)] 2 = mkF m 0 #[.val (.ref a1), .val (.ref ca)] [] := by first | (simp [entryFrame, mkF, argsToLocals, Value.category]; done) | rfl
set_option maxRecDepth 65536 in
set_option maxHeartbeats 40000000 in
theorem rs_i12 (l : Launch) (Z : State) (a0 : Array Value) (hw : ∀ d ∈ tables_1, d.before a0 Z = true) (ws : List Jvm.Cond) (a1 : Addr) (ca : Addr) (kc : ClassId) (c0 c1 : Int32) (u0 u1 : Value) (cs : Int32) (vf : Value) (h0 : Heap) (n0 : Nat) (Z0 : n0 ≤ h0.size) (hST : own_ST Z cs vf) (O0 : Old Z n0 h0) (Vc : Arv Z h0 ca kc .char (2 : Int32) [(.int c0), (.int c1)] (.int (0 : Int32))) (hc0 : own_ch16 c0) (hc1 : own_ch16 c1) (gn_a1 : n0 ≤ a1) (E_a1 : Exa Z h0 a1 "java/lang/String") (F_v : Fld Z h0 a1 "java/lang/String" "value" "[B" u0) (F_c : Fld Z h0 a1 "java/lang/String" "coder" "B" u1) :
    own_Mt l (⟨"java/lang/String", "<init>", "([C)V"⟩ : MethodName) jdk_42_method_3_code 2 none ({ frames := 5, cells := 2, slots := 6, locals := 74 } : Room) #[(.ref a1), (.ref ca)] Z h0 (own_QI2 Z a1 c0 c1 h0 n0) := by
  refine MetFree.of_bodySF (plainFor_of_name pn_java_lang_String) hisR ?_
  intro p e s m args below meth c s₁ Bd hml0 hP hK
  obtain ⟨rfl, hZ, hh⟩ := hP
  have hx := Bd.exec
  have hby := Bd.bytes
  have hml : c.maxLocals = 2 := hml0
  have hown : s.vm.findClass "java/lang/String" = some m.cls := findClass_of_methodNamed Bd.named
  have hnm := (name_of_methodNamed Bd.named Bd.method).1
  have X0 : Stand p l e ({ frames := 5, cells := 2, slots := 6, locals := 74 } : Room) s m #[(.ref a1), (.ref ca)] below meth c s₁ [] 0 0 := Stand.of_body Bd
  have e0 : s₁.heap = h0 := by rw [← hh, Bd.state]; rfl
  have N0 := Fr.nil n0
  refine own_start (ef_rs_i12 m a1 ca) ?_
  have hST0 := hST
  refine o_aloadN X0 hx hby D3_0 rfl rfl ?_
  refine o_aloadN X0 hx hby D3_1 rfl rfl ?_
  refine o_iconst X0 hx hby D3_2 (v := 0) rfl ?_
  refine o_aloadN X0 hx hby D3_3 rfl rfl ?_
  obtain ⟨cl_ca_1, Ar_ca_1, q_ca_1, S_ca_1, N_ca_1, H_ca_1, G_ca_1⟩ := id Vc
  refine own_pre (A' := s₁.setTop (mkF m 5 #[.val (.ref a1), .val (.ref ca)] [(.int (2 : Int32)), (.int (0 : Int32)), (.ref ca), (.ref a1)])) (fun t k => X0.arraylength hx (by rw [e0]; exact Ar_ca_1.1) (State.isArrayOf_alike hZ.alike Ar_ca_1.2.1) (g := (mkF m 4 #[.val (.ref a1), .val (.ref ca)] [(.ref ca), (.int (0 : Int32)), (.ref ca), (.ref a1)])) rfl rfl (hb hby D3_4.1) _ (by rw [len_of S_ca_1 N_ca_1]; exact k)) ?_
  refine o_anull X0 hx hby D3_5 ?_
  refine kI X0 hx hZ hown hby (wd hw 14 rfl) (wd hw 15 rfl) (wd hw 10 rfl) (wd hw 17 rfl) rfl (rs_i42 l Z a0 hw [] a1 ca kc c0 c1 u0 u1 cs vf h0 n0 Z0 hST0 O0 Vc hc0 hc1 gn_a1 E_a1 F_v F_c) (by decide) (by decide) (by decide) (by decide) (by decide) (by rw [hml]; rfl) [(.ref ca), (.int (0 : Int32)), (.int (2 : Int32)), .null] [] (lenOf pd__40_91CIILjava_47lang_47Void_59_41V rfl) (W := 0) rfl rfl D3_6 rfl e0 ?_
  intro v2 T2 L2 X2 hQ2
  obtain ⟨vb, kb, rfl, N2q, K2, ge2, Str2⟩ := hQ2
  have N2 := Fr.app N0 N2q
  refine own_sh (A' := T2.setTop (mkF m 9 _ [])) ?_
  exact own_ret (v := none) X2 (fun h => by first | rfl | (rw [Bd.returns] at h; cases h)) (BodyLoose.notSynchronized Bd) (by decide) (by decide) (⟨vb, kb, rfl, N2, K2, ge2, Str2⟩) (fun fs hr => X2.returnOut hx Bd.returns (hb hby D3_9.1) hr)
def own_QTb3 (Z : State) (c0 c1 c2 : Int32) (h0 : Heap) (n0 : Nat) (v : Option Value) (h : Heap) (L : List Loc) : Prop := ∃ (r : Nat) (kr : ClassId), v = some (.ref r) ∧ Fr n0 L ∧ Keep h0 h [] ∧ h0.size ≤ r ∧ Arv Z h r kr .byte (6 : Int32) [(.int (own_lo c0)), (.int (own_hi c0)), (.int (own_lo c1)), (.int (own_hi c1)), (.int (own_lo c2)), (.int (own_hi c2))] (.int (0 : Int32))
theorem ef_rs_tb3 (m : MethodId) (ca : Addr) : entryFrame m #[(.ref ca), (.int (0 : Int32)), (.int (3 : Int32))] 5 = mkF m 0 #[.val (.ref ca), .val (.int (0 : Int32)), .val (.int (3 : Int32)), .unset, .unset] [] := by first | (simp [entryFrame, mkF, argsToLocals, Value.category]; done) | rfl
set_option maxRecDepth 65536 in
set_option maxHeartbeats 40000000 in
theorem rs_tb3 (l : Launch) (Z : State) (a0 : Array Value) (hw : ∀ d ∈ tables_1, d.before a0 Z = true) (ws : List Jvm.Cond) (ca : Addr) (kc : ClassId) (c0 c1 c2 : Int32) (cs : Int32) (vf : Value) (h0 : Heap) (n0 : Nat) (Z0 : n0 ≤ h0.size) (hST : own_ST Z cs vf) (O0 : Old Z n0 h0) (Vc : Arv Z h0 ca kc .char (3 : Int32) [(.int c0), (.int c1), (.int c2)] (.int (0 : Int32))) :
    own_Mt l (⟨"java/lang/StringUTF16", "toBytes", "([CII)[B"⟩ : MethodName) jdk_52_method_14_code 5 (some (.array .byte)) ({ frames := 2, cells := 1, slots := 6, locals := 24 } : Room) #[(.ref ca), (.int (0 : Int32)), (.int (3 : Int32))] Z h0 (own_QTb3 Z c0 c1 c2 h0 n0) := by
  refine MetFree.of_bodySF (plainFor_of_name pn_java_lang_StringUTF16) hisR ?_
  intro p e s m args below meth c s₁ Bd hml0 hP hK
  obtain ⟨rfl, hZ, hh⟩ := hP
  have hx := Bd.exec
  have hby := Bd.bytes
  have hml : c.maxLocals = 5 := hml0
  have hown : s.vm.findClass "java/lang/StringUTF16" = some m.cls := findClass_of_methodNamed Bd.named
  have hnm := (name_of_methodNamed Bd.named Bd.method).1
  have X0 : Stand p l e ({ frames := 2, cells := 1, slots := 6, locals := 24 } : Room) s m #[(.ref ca), (.int (0 : Int32)), (.int (3 : Int32))] below meth c s₁ [] 0 0 := Stand.of_body Bd
  have e0 : s₁.heap = h0 := by rw [← hh, Bd.state]; rfl
  have N0 := Fr.nil n0
  refine own_start (ef_rs_tb3 m ca) ?_
  have hST0 := hST
  obtain ⟨S_cs, S_ad, S_hb, S_lb, S_sf, hcs, hvf⟩ := hST
  have lt_ca := own_ltN Vc.lt
  refine o_iloadN X0 hx hby D19_0 rfl ?_
  refine kS X0 hx hZ hown hby (wd hw 86 rfl) (wd hw 87 rfl) (wd hw 24 rfl) (wd hw 88 rfl) (rs_nbf3 l Z a0 hw []  h0 n0 Z0 ) (by decide) (by decide) (by decide) (by decide) (by decide) (by rw [hml]; rfl) [(.int (3 : Int32))] [] (lenOf pd__40I_41_91B rfl) (W := 0) rfl rfl D19_1 rfl e0 ?_
  intro v1 T1 L1 X1 hQ1
  obtain ⟨r1, kr1, rfl, N1q, K1, ge1, Vr1⟩ := hQ1
  have sz1 := own_leN K1.1
  have ge1' := own_leN ge1
  have lt_r1 := own_ltN Vr1.lt
  have gn_r1 : n0 ≤ r1 := own_leN (by omega)
  have N1 := Fr.app N0 N1q
  refine own_sh (A' := T1.setTop (mkF m 4 _ [(.ref r1)])) ?_
  refine o_astoreN X1 hx hby D19_4 rfl (l' := #[.val (.ref ca), .val (.int (0 : Int32)), .val (.int (3 : Int32)), .val (.ref r1), .unset]) rfl ?_
  refine o_iconst X1 hx hby D19_5 (v := 0) rfl ?_
  refine o_istore X1 hx hby D19_6 (l' := #[.val (.ref ca), .val (.int (0 : Int32)), .val (.int (3 : Int32)), .val (.ref r1), .val (.int (0 : Int32))]) rfl ?_
  refine o_iload X1 hx hby D19_8 rfl ?_
  refine o_iloadN X1 hx hby D19_10 rfl ?_
  refine o_icmpN X1 hx hby D19_11 (tlt (by decide : (0 : Int32) < (3 : Int32))).2.1 ?_
  refine o_aloadN X1 hx hby D19_14 rfl rfl ?_
  refine o_iload X1 hx hby D19_15 rfl ?_
  refine o_aloadN X1 hx hby D19_17 rfl rfl ?_
  refine o_iloadN X1 hx hby D19_18 rfl ?_
  have c3_V_ca := (Vc.keep K1 nin0)
  obtain ⟨cl_ca_2, Ar_ca_2, q_ca_2, S_ca_2, N_ca_2, H_ca_2, G_ca_2⟩ := id c3_V_ca
  have hin_ca_2 : ¬ ((0 : Int32) < 0 ∨ cl_ca_2.slots.size ≤ ((0 : Int32)).toNatClampNeg) := inb_of S_ca_2 ⟨by decide, by decide⟩
  have hat_ca_2 : cl_ca_2.slots[((0 : Int32)).toNatClampNeg]? = some (.int c0) := H_ca_2.at hin_ca_2 (rfl)
  refine own_pre (A' := T1.setTop (mkF m 20 #[.val (.ref ca), .val (.int (0 : Int32)), .val (.int (3 : Int32)), .val (.ref r1), .val (.int (0 : Int32))] [(.int c0), (.int (0 : Int32)), (.ref r1)])) (fun t k => X1.caload hx (j := (0 : Int32)) (v := (.int c0)) Ar_ca_2.1 (State.isArrayOf_alike hZ.alike Ar_ca_2.2.1) Ar_ca_2.2.2 hin_ca_2 hat_ca_2 (g := (mkF m 19 #[.val (.ref ca), .val (.int (0 : Int32)), .val (.int (3 : Int32)), .val (.ref r1), .val (.int (0 : Int32))] [(.int (0 : Int32)), (.ref ca), (.int (0 : Int32)), (.ref r1)])) rfl rfl (hb hby D19_19.1) _ k) ?_
  have c5_O := (O0.keep K1 all0)
  refine kS X1 hx hZ hown hby (wd hw 93 rfl) (wd hw 94 rfl) (wd hw 24 rfl) (wd hw 95 rfl) (rs_pc30 l Z a0 hw [] r1 c0 kr1 (.int (0 : Int32)) (.int (0 : Int32)) (.int (0 : Int32)) (.int (0 : Int32)) (.int (0 : Int32)) (.int (0 : Int32)) cs vf T1.heap n0 (own_leN (by omega)) hST0 c5_O gn_r1 Vr1) (by decide) (by decide) (by decide) (by decide) (by decide) (by rw [hml]; rfl) [(.ref r1), (.int (0 : Int32)), (.int c0)] [] (lenOf pd__40_91BII_41V rfl) (W := 0) rfl rfl D19_20 rfl rfl ?_
  intro v4 T4 L4 X4 hQ4
  obtain ⟨rfl, N4q, K4, Vp4⟩ := hQ4
  have sz4 := own_leN K4.1
  have N4 := Fr.app N1 N4q
  refine own_sh (A' := T4.setTop (mkF m 23 _ [])) ?_
  refine o_iinc X4 hx hby D19_23 rfl (l' := #[.val (.ref ca), .val (.int ((0 : Int32) + (1 : Int32))), .val (.int (3 : Int32)), .val (.ref r1), .val (.int (0 : Int32))]) rfl ?_
  rw [(by decide : ((0 : Int32) + (1 : Int32)) = (1 : Int32))]
  refine o_iinc X4 hx hby D19_26 rfl (l' := #[.val (.ref ca), .val (.int (1 : Int32)), .val (.int (3 : Int32)), .val (.ref r1), .val (.int ((0 : Int32) + (1 : Int32)))]) rfl ?_
  rw [(by decide : ((0 : Int32) + (1 : Int32)) = (1 : Int32))]
  refine o_goto X4 hx hby D19_29 (q := 8) (by decide) (by decide) ?_
  refine o_iload X4 hx hby D19_8 rfl ?_
  refine o_iloadN X4 hx hby D19_10 rfl ?_
  refine o_icmpN X4 hx hby D19_11 (tlt (by decide : (1 : Int32) < (3 : Int32))).2.1 ?_
  refine o_aloadN X4 hx hby D19_14 rfl rfl ?_
  refine o_iload X4 hx hby D19_15 rfl ?_
  refine o_aloadN X4 hx hby D19_17 rfl rfl ?_
  refine o_iloadN X4 hx hby D19_18 rfl ?_
  have c7_V_ca := (c3_V_ca.keep K4 (ninS (by first | exact own_neN (by omega) | exact own_neN' (by omega) | assumption) nin0))
  obtain ⟨cl_ca_6, Ar_ca_6, q_ca_6, S_ca_6, N_ca_6, H_ca_6, G_ca_6⟩ := id c7_V_ca
  have hin_ca_6 : ¬ ((1 : Int32) < 0 ∨ cl_ca_6.slots.size ≤ ((1 : Int32)).toNatClampNeg) := inb_of S_ca_6 ⟨by decide, by decide⟩
  have hat_ca_6 : cl_ca_6.slots[((1 : Int32)).toNatClampNeg]? = some (.int c1) := H_ca_6.at hin_ca_6 (rfl)
  refine own_pre (A' := T4.setTop (mkF m 20 #[.val (.ref ca), .val (.int (1 : Int32)), .val (.int (3 : Int32)), .val (.ref r1), .val (.int (1 : Int32))] [(.int c1), (.int (1 : Int32)), (.ref r1)])) (fun t k => X4.caload hx (j := (1 : Int32)) (v := (.int c1)) Ar_ca_6.1 (State.isArrayOf_alike hZ.alike Ar_ca_6.2.1) Ar_ca_6.2.2 hin_ca_6 hat_ca_6 (g := (mkF m 19 #[.val (.ref ca), .val (.int (1 : Int32)), .val (.int (3 : Int32)), .val (.ref r1), .val (.int (1 : Int32))] [(.int (1 : Int32)), (.ref ca), (.int (1 : Int32)), (.ref r1)])) rfl rfl (hb hby D19_19.1) _ k) ?_
  have c9_O := (c5_O.keep K4 (allS gn_r1 all0))
  refine kS X4 hx hZ hown hby (wd hw 93 rfl) (wd hw 94 rfl) (wd hw 24 rfl) (wd hw 95 rfl) (rs_pc31 l Z a0 hw [] r1 c1 kr1 (.int (own_lo c0)) (.int (own_hi c0)) (.int (0 : Int32)) (.int (0 : Int32)) (.int (0 : Int32)) (.int (0 : Int32)) cs vf T4.heap n0 (own_leN (by omega)) hST0 c9_O gn_r1 Vp4) (by decide) (by decide) (by decide) (by decide) (by decide) (by rw [hml]; rfl) [(.ref r1), (.int (1 : Int32)), (.int c1)] [] (lenOf pd__40_91BII_41V rfl) (W := 0) rfl rfl D19_20 rfl rfl ?_
  intro v8 T8 L8 X8 hQ8
  obtain ⟨rfl, N8q, K8, Vp8⟩ := hQ8
  have sz8 := own_leN K8.1
  have N8 := Fr.app N4 N8q
  refine own_sh (A' := T8.setTop (mkF m 23 _ [])) ?_
  refine o_iinc X8 hx hby D19_23 rfl (l' := #[.val (.ref ca), .val (.int ((1 : Int32) + (1 : Int32))), .val (.int (3 : Int32)), .val (.ref r1), .val (.int (1 : Int32))]) rfl ?_
  rw [(by decide : ((1 : Int32) + (1 : Int32)) = (2 : Int32))]
  refine o_iinc X8 hx hby D19_26 rfl (l' := #[.val (.ref ca), .val (.int (2 : Int32)), .val (.int (3 : Int32)), .val (.ref r1), .val (.int ((1 : Int32) + (1 : Int32)))]) rfl ?_
  rw [(by decide : ((1 : Int32) + (1 : Int32)) = (2 : Int32))]
  refine o_goto X8 hx hby D19_29 (q := 8) (by decide) (by decide) ?_
  refine o_iload X8 hx hby D19_8 rfl ?_
  refine o_iloadN X8 hx hby D19_10 rfl ?_
  refine o_icmpN X8 hx hby D19_11 (tlt (by decide : (2 : Int32) < (3 : Int32))).2.1 ?_
  refine o_aloadN X8 hx hby D19_14 rfl rfl ?_
  refine o_iload X8 hx hby D19_15 rfl ?_
  refine o_aloadN X8 hx hby D19_17 rfl rfl ?_
  refine o_iloadN X8 hx hby D19_18 rfl ?_
  have c11_V_ca := (c7_V_ca.keep K8 (ninS (by first | exact own_neN (by omega) | exact own_neN' (by omega) | assumption) nin0))
  obtain ⟨cl_ca_10, Ar_ca_10, q_ca_10, S_ca_10, N_ca_10, H_ca_10, G_ca_10⟩ := id c11_V_ca
  have hin_ca_10 : ¬ ((2 : Int32) < 0 ∨ cl_ca_10.slots.size ≤ ((2 : Int32)).toNatClampNeg) := inb_of S_ca_10 ⟨by decide, by decide⟩
  have hat_ca_10 : cl_ca_10.slots[((2 : Int32)).toNatClampNeg]? = some (.int c2) := H_ca_10.at hin_ca_10 (rfl)
  refine own_pre (A' := T8.setTop (mkF m 20 #[.val (.ref ca), .val (.int (2 : Int32)), .val (.int (3 : Int32)), .val (.ref r1), .val (.int (2 : Int32))] [(.int c2), (.int (2 : Int32)), (.ref r1)])) (fun t k => X8.caload hx (j := (2 : Int32)) (v := (.int c2)) Ar_ca_10.1 (State.isArrayOf_alike hZ.alike Ar_ca_10.2.1) Ar_ca_10.2.2 hin_ca_10 hat_ca_10 (g := (mkF m 19 #[.val (.ref ca), .val (.int (2 : Int32)), .val (.int (3 : Int32)), .val (.ref r1), .val (.int (2 : Int32))] [(.int (2 : Int32)), (.ref ca), (.int (2 : Int32)), (.ref r1)])) rfl rfl (hb hby D19_19.1) _ k) ?_
  have c13_O := (c9_O.keep K8 (allS gn_r1 all0))
  refine kS X8 hx hZ hown hby (wd hw 93 rfl) (wd hw 94 rfl) (wd hw 24 rfl) (wd hw 95 rfl) (rs_pc32 l Z a0 hw [] r1 c2 kr1 (.int (own_lo c0)) (.int (own_hi c0)) (.int (own_lo c1)) (.int (own_hi c1)) (.int (0 : Int32)) (.int (0 : Int32)) cs vf T8.heap n0 (own_leN (by omega)) hST0 c13_O gn_r1 Vp8) (by decide) (by decide) (by decide) (by decide) (by decide) (by rw [hml]; rfl) [(.ref r1), (.int (2 : Int32)), (.int c2)] [] (lenOf pd__40_91BII_41V rfl) (W := 0) rfl rfl D19_20 rfl rfl ?_
  intro v12 T12 L12 X12 hQ12
  obtain ⟨rfl, N12q, K12, Vp12⟩ := hQ12
  have sz12 := own_leN K12.1
  have N12 := Fr.app N8 N12q
  refine own_sh (A' := T12.setTop (mkF m 23 _ [])) ?_
  refine o_iinc X12 hx hby D19_23 rfl (l' := #[.val (.ref ca), .val (.int ((2 : Int32) + (1 : Int32))), .val (.int (3 : Int32)), .val (.ref r1), .val (.int (2 : Int32))]) rfl ?_
  rw [(by decide : ((2 : Int32) + (1 : Int32)) = (3 : Int32))]
  refine o_iinc X12 hx hby D19_26 rfl (l' := #[.val (.ref ca), .val (.int (3 : Int32)), .val (.int (3 : Int32)), .val (.ref r1), .val (.int ((2 : Int32) + (1 : Int32)))]) rfl ?_
  rw [(by decide : ((2 : Int32) + (1 : Int32)) = (3 : Int32))]
  refine o_goto X12 hx hby D19_29 (q := 8) (by decide) (by decide) ?_
  refine o_iload X12 hx hby D19_8 rfl ?_
  refine o_iloadN X12 hx hby D19_10 rfl ?_
  refine o_icmpY X12 hx hby D19_11 (flt (by decide : ¬ ((3 : Int32) < (3 : Int32)))).2.1 (q := 32) (by decide) (by decide) ?_
  refine o_aloadN X12 hx hby D19_32 rfl rfl ?_
  have KK : Keep h0 T12.heap [] := (((((Keep.refl h0 []).trans K1 all0).trans K4 (allS (Or.inr (own_leN (by omega))) all0)).trans K8 (allS (Or.inr (own_leN (by omega))) all0)).trans K12 (allS (Or.inr (own_leN (by omega))) all0))
  exact own_ret (v := some (.ref r1)) X12 (fun h => by first | rfl | (rw [Bd.returns] at h; cases h)) (BodyLoose.notSynchronized Bd) (by decide) (by decide) (⟨r1, kr1, rfl, N12, KK, own_leN (by omega), Vp12⟩) (fun fs hr => retOut X12 hx Bd.returns rfl (Or.inr (Or.inr (Or.inr (Or.inr ⟨rfl, rfl, rfl⟩)))) (hb hby D19_33.1) hr)
def own_Q53 (Z : State) (dst : Addr) (kd : ClassId) (c0 c1 c2 : Int32) (h0 : Heap) (n0 : Nat) (v : Option Value) (h : Heap) (L : List Loc) : Prop := Fr n0 L ∧ Keep h0 h [dst] ∧ ((v = some (.int (3 : Int32)) ∧ (¬ ((255 : Int32) < c0)) ∧ (¬ ((255 : Int32) < c1)) ∧ (¬ ((255 : Int32) < c2)) ∧ Arv Z h dst kd .byte (3 : Int32) [(.int (own_l8 c0)), (.int (own_l8 c1)), (.int (own_l8 c2))] (.int (0 : Int32))) ∨ (v = some (.int (0 : Int32)) ∧ (255 : Int32) < c0) ∨ (v = some (.int (1 : Int32)) ∧ (255 : Int32) < c1) ∨ (v = some (.int (2 : Int32)) ∧ (255 : Int32) < c2))
theorem ef_rs_c53 (m : MethodId) (ca : Addr) (dst : Addr) : entryFrame m #[(.ref ca), (.int (0 : Int32)), (.ref dst), (.int (0 : Int32)), (.int (3 : Int32))] 7 = mkF m 0 #[.val (.ref ca), .val (.int (0 : Int32)), .val (.ref dst), .val (.int (0 : Int32)), .val (.int (3 : Int32)), .unset, .unset] [] := by first | (simp [entryFrame, mkF, argsToLocals, Value.category]; done) | rfl
set_option maxRecDepth 65536 in
set_option maxHeartbeats 40000000 in
theorem rs_c53 (l : Launch) (Z : State) (a0 : Array Value) (hw : ∀ d ∈ tables_1, d.before a0 Z = true) (ws : List Jvm.Cond) (ca : Addr) (dst : Addr) (kc kd : ClassId) (c0 c1 c2 : Int32) (h0 : Heap) (n0 : Nat) (Z0 : n0 ≤ h0.size) (Vc : Arv Z h0 ca kc .char (3 : Int32) [(.int c0), (.int c1), (.int c2)] (.int (0 : Int32))) (Vd : Arv Z h0 dst kd .byte (3 : Int32) [(.int (0 : Int32)), (.int (0 : Int32)), (.int (0 : Int32))] (.int (0 : Int32))) (gn_dst : n0 ≤ dst) (ncd : @LT.lt Nat instLTNat ca dst) :
    own_Mt l (⟨"java/lang/StringUTF16", "compress", "([CI[BII)I"⟩ : MethodName) jdk_52_method_21_code 7 (some .int) ({ frames := 0, cells := 0, slots := 0, locals := 0 } : Room) #[(.ref ca), (.int (0 : Int32)), (.ref dst), (.int (0 : Int32)), (.int (3 : Int32))] Z h0 (own_Q53 Z dst kd c0 c1 c2 h0 n0) := by
  refine MetFree.of_bodySF (plainFor_of_name pn_java_lang_StringUTF16) hisR ?_
  intro p e s m args below meth c s₁ Bd hml0 hP hK
  obtain ⟨rfl, hZ, hh⟩ := hP
  have hx := Bd.exec
  have hby := Bd.bytes
  have hml : c.maxLocals = 7 := hml0
  have hown : s.vm.findClass "java/lang/StringUTF16" = some m.cls := findClass_of_methodNamed Bd.named
  have hnm := (name_of_methodNamed Bd.named Bd.method).1
  have X0 : Stand p l e ({ frames := 0, cells := 0, slots := 0, locals := 0 } : Room) s m #[(.ref ca), (.int (0 : Int32)), (.ref dst), (.int (0 : Int32)), (.int (3 : Int32))] below meth c s₁ [] 0 0 := Stand.of_body Bd
  have e0 : s₁.heap = h0 := by rw [← hh, Bd.state]; rfl
  have N0 := Fr.nil n0
  refine own_start (ef_rs_c53 m ca dst) ?_
  have lt_ca := own_ltN Vc.lt
  have lt_dst := own_ltN Vd.lt
  refine o_iconst X0 hx hby D7_0 (v := 0) rfl ?_
  refine o_istore X0 hx hby D7_1 (l' := #[.val (.ref ca), .val (.int (0 : Int32)), .val (.ref dst), .val (.int (0 : Int32)), .val (.int (3 : Int32)), .val (.int (0 : Int32)), .unset]) rfl ?_
  refine o_iload X0 hx hby D7_3 rfl ?_
  refine o_iload X0 hx hby D7_5 rfl ?_
  refine o_icmpN X0 hx hby D7_7 (tlt (by decide : (0 : Int32) < (3 : Int32))).2.1 ?_
  refine o_aloadN X0 hx hby D7_10 rfl rfl ?_
  refine o_iloadN X0 hx hby D7_11 rfl ?_
  obtain ⟨cl_ca_1, Ar_ca_1, q_ca_1, S_ca_1, N_ca_1, H_ca_1, G_ca_1⟩ := id Vc
  have hin_ca_1 : ¬ ((0 : Int32) < 0 ∨ cl_ca_1.slots.size ≤ ((0 : Int32)).toNatClampNeg) := inb_of S_ca_1 ⟨by decide, by decide⟩
  have hat_ca_1 : cl_ca_1.slots[((0 : Int32)).toNatClampNeg]? = some (.int c0) := H_ca_1.at hin_ca_1 (rfl)
  refine own_pre (A' := s₁.setTop (mkF m 13 #[.val (.ref ca), .val (.int (0 : Int32)), .val (.ref dst), .val (.int (0 : Int32)), .val (.int (3 : Int32)), .val (.int (0 : Int32)), .unset] [(.int c0)])) (fun t k => X0.caload hx (j := (0 : Int32)) (v := (.int c0)) (by rw [e0]; exact Ar_ca_1.1) (State.isArrayOf_alike hZ.alike Ar_ca_1.2.1) Ar_ca_1.2.2 hin_ca_1 hat_ca_1 (g := (mkF m 12 #[.val (.ref ca), .val (.int (0 : Int32)), .val (.ref dst), .val (.int (0 : Int32)), .val (.int (3 : Int32)), .val (.int (0 : Int32)), .unset] [(.int (0 : Int32)), (.ref ca)])) rfl rfl (hb hby D7_12.1) _ k) ?_
  refine o_istore X0 hx hby D7_13 (l' := #[.val (.ref ca), .val (.int (0 : Int32)), .val (.ref dst), .val (.int (0 : Int32)), .val (.int (3 : Int32)), .val (.int (0 : Int32)), .val (.int c0)]) rfl ?_
  refine o_iload X0 hx hby D7_15 rfl ?_
  refine o_sipush X0 hx hby D7_17 (v := 255) rfl ?_
  by_cases hc20_2 : (255 : Int32) < c0
  · skip
    refine o_icmpN X0 hx hby D7_20 (tlt hc20_2).2.2.2 ?_
    refine o_iload X0 hx hby D7_23 rfl ?_
    have KK : Keep h0 h0 [dst] := (Keep.refl h0 [dst])
    exact own_ret (v := some (.int (0 : Int32))) X0 (fun h => by first | rfl | (rw [Bd.returns] at h; cases h)) (BodyLoose.notSynchronized Bd) (by decide) (by decide) (by rw [e0]; exact ⟨N0, KK, (Or.inr (Or.inl ⟨rfl, hc20_2⟩))⟩) (fun fs hr => retI X0 hx Bd.returns (hb hby D7_25.1) hr)
  · skip
    refine o_icmpY X0 hx hby D7_20 (flt hc20_2).2.2.2 (q := 26) (by decide) (by decide) ?_
    refine o_aloadN X0 hx hby D7_26 rfl rfl ?_
    refine o_iloadN X0 hx hby D7_27 rfl ?_
    refine o_iload X0 hx hby D7_28 rfl ?_
    refine o_i2b X0 hx hby D7_30 ?_
    obtain ⟨cl_dst_3, Ar_dst_3, q_dst_3, S_dst_3, N_dst_3, H_dst_3, G_dst_3⟩ := id Vd
    have hin_dst_3 : ¬ ((0 : Int32) < 0 ∨ cl_dst_3.slots.size ≤ ((0 : Int32)).toNatClampNeg) := inb_of S_dst_3 ⟨by decide, by decide⟩
    obtain ⟨T3, h3, X3, e3, W3, st3⟩ := stB X0 hx hZ e0 Ar_dst_3 (j := (0 : Int32)) hin_dst_3 (g := (mkF m 31 #[.val (.ref ca), .val (.int (0 : Int32)), .val (.ref dst), .val (.int (0 : Int32)), .val (.int (3 : Int32)), .val (.int (0 : Int32)), .val (.int c0)] [(.int ((c0).toInt8.toInt32)), (.int (0 : Int32)), (.ref dst)])) rfl rfl (hb hby D7_31.1)
    have V_dst_3 : Arv Z h3 dst kd .byte (3 : Int32) [(.int (nar .byte ((c0).toInt8.toInt32))), (.int (0 : Int32)), (.int (0 : Int32))] (.int (0 : Int32)) := Arv.set Ar_dst_3 q_dst_3 S_dst_3 N_dst_3 H_dst_3 G_dst_3 (fits_nar_byte _) W3 0 rfl (Nat.le_of_ble_eq_true rfl)
    have sz3 := own_leN (Keep.of_wr W3).1
    have N3 := Fr.snoc X3 N0 gn_dst
    refine own_pre (A' := T3.setTop (mkF m 32 #[.val (.ref ca), .val (.int (0 : Int32)), .val (.ref dst), .val (.int (0 : Int32)), .val (.int (3 : Int32)), .val (.int (0 : Int32)), .val (.int c0)] [])) st3 ?_
    refine o_iinc X3 hx hby D7_32 rfl (l' := #[.val (.ref ca), .val (.int ((0 : Int32) + (1 : Int32))), .val (.ref dst), .val (.int (0 : Int32)), .val (.int (3 : Int32)), .val (.int (0 : Int32)), .val (.int c0)]) rfl ?_
    rw [(by decide : ((0 : Int32) + (1 : Int32)) = (1 : Int32))]
    refine o_iinc X3 hx hby D7_35 rfl (l' := #[.val (.ref ca), .val (.int (1 : Int32)), .val (.ref dst), .val (.int ((0 : Int32) + (1 : Int32))), .val (.int (3 : Int32)), .val (.int (0 : Int32)), .val (.int c0)]) rfl ?_
    rw [(by decide : ((0 : Int32) + (1 : Int32)) = (1 : Int32))]
    refine o_iinc X3 hx hby D7_38 rfl (l' := #[.val (.ref ca), .val (.int (1 : Int32)), .val (.ref dst), .val (.int (1 : Int32)), .val (.int (3 : Int32)), .val (.int ((0 : Int32) + (1 : Int32))), .val (.int c0)]) rfl ?_
    rw [(by decide : ((0 : Int32) + (1 : Int32)) = (1 : Int32))]
    refine o_goto X3 hx hby D7_41 (q := 3) (by decide) (by decide) ?_
    refine o_iload X3 hx hby D7_3 rfl ?_
    refine o_iload X3 hx hby D7_5 rfl ?_
    refine o_icmpN X3 hx hby D7_7 (tlt (by decide : (1 : Int32) < (3 : Int32))).2.1 ?_
    refine o_aloadN X3 hx hby D7_10 rfl rfl ?_
    refine o_iloadN X3 hx hby D7_11 rfl ?_
    have c5_V_ca := (Vc.other W3 (by first | exact own_neN (by omega) | exact own_neN' (by omega) | assumption))
    obtain ⟨cl_ca_4, Ar_ca_4, q_ca_4, S_ca_4, N_ca_4, H_ca_4, G_ca_4⟩ := id c5_V_ca
    have hin_ca_4 : ¬ ((1 : Int32) < 0 ∨ cl_ca_4.slots.size ≤ ((1 : Int32)).toNatClampNeg) := inb_of S_ca_4 ⟨by decide, by decide⟩
    have hat_ca_4 : cl_ca_4.slots[((1 : Int32)).toNatClampNeg]? = some (.int c1) := H_ca_4.at hin_ca_4 (rfl)
    refine own_pre (A' := T3.setTop (mkF m 13 #[.val (.ref ca), .val (.int (1 : Int32)), .val (.ref dst), .val (.int (1 : Int32)), .val (.int (3 : Int32)), .val (.int (1 : Int32)), .val (.int c0)] [(.int c1)])) (fun t k => X3.caload hx (j := (1 : Int32)) (v := (.int c1)) (by rw [e3]; exact Ar_ca_4.1) (State.isArrayOf_alike hZ.alike Ar_ca_4.2.1) Ar_ca_4.2.2 hin_ca_4 hat_ca_4 (g := (mkF m 12 #[.val (.ref ca), .val (.int (1 : Int32)), .val (.ref dst), .val (.int (1 : Int32)), .val (.int (3 : Int32)), .val (.int (1 : Int32)), .val (.int c0)] [(.int (1 : Int32)), (.ref ca)])) rfl rfl (hb hby D7_12.1) _ k) ?_
    refine o_istore X3 hx hby D7_13 (l' := #[.val (.ref ca), .val (.int (1 : Int32)), .val (.ref dst), .val (.int (1 : Int32)), .val (.int (3 : Int32)), .val (.int (1 : Int32)), .val (.int c1)]) rfl ?_
    refine o_iload X3 hx hby D7_15 rfl ?_
    refine o_sipush X3 hx hby D7_17 (v := 255) rfl ?_
    by_cases hc20_6 : (255 : Int32) < c1
    · skip
      refine o_icmpN X3 hx hby D7_20 (tlt hc20_6).2.2.2 ?_
      refine o_iload X3 hx hby D7_23 rfl ?_
      have KK : Keep h0 h3 [dst] := ((Keep.refl h0 [dst]).wr W3 (Or.inl (by simp)))
      exact own_ret (v := some (.int (1 : Int32))) X3 (fun h => by first | rfl | (rw [Bd.returns] at h; cases h)) (BodyLoose.notSynchronized Bd) (by decide) (by decide) (by rw [e3]; exact ⟨N3, KK, (Or.inr (Or.inr (Or.inl ⟨rfl, hc20_6⟩)))⟩) (fun fs hr => retI X3 hx Bd.returns (hb hby D7_25.1) hr)
    · skip
      refine o_icmpY X3 hx hby D7_20 (flt hc20_6).2.2.2 (q := 26) (by decide) (by decide) ?_
      refine o_aloadN X3 hx hby D7_26 rfl rfl ?_
      refine o_iloadN X3 hx hby D7_27 rfl ?_
      refine o_iload X3 hx hby D7_28 rfl ?_
      refine o_i2b X3 hx hby D7_30 ?_
      obtain ⟨cl_dst_7, Ar_dst_7, q_dst_7, S_dst_7, N_dst_7, H_dst_7, G_dst_7⟩ := id V_dst_3
      have hin_dst_7 : ¬ ((1 : Int32) < 0 ∨ cl_dst_7.slots.size ≤ ((1 : Int32)).toNatClampNeg) := inb_of S_dst_7 ⟨by decide, by decide⟩
      obtain ⟨T7, h7, X7, e7, W7, st7⟩ := stB X3 hx hZ e3 Ar_dst_7 (j := (1 : Int32)) hin_dst_7 (g := (mkF m 31 #[.val (.ref ca), .val (.int (1 : Int32)), .val (.ref dst), .val (.int (1 : Int32)), .val (.int (3 : Int32)), .val (.int (1 : Int32)), .val (.int c1)] [(.int ((c1).toInt8.toInt32)), (.int (1 : Int32)), (.ref dst)])) rfl rfl (hb hby D7_31.1)
      have V_dst_7 : Arv Z h7 dst kd .byte (3 : Int32) [(.int (nar .byte ((c0).toInt8.toInt32))), (.int (nar .byte ((c1).toInt8.toInt32))), (.int (0 : Int32))] (.int (0 : Int32)) := Arv.set Ar_dst_7 q_dst_7 S_dst_7 N_dst_7 H_dst_7 G_dst_7 (fits_nar_byte _) W7 1 rfl (Nat.le_of_ble_eq_true rfl)
      have sz7 := own_leN (Keep.of_wr W7).1
      have N7 := Fr.snoc X7 N3 gn_dst
      refine own_pre (A' := T7.setTop (mkF m 32 #[.val (.ref ca), .val (.int (1 : Int32)), .val (.ref dst), .val (.int (1 : Int32)), .val (.int (3 : Int32)), .val (.int (1 : Int32)), .val (.int c1)] [])) st7 ?_
      refine o_iinc X7 hx hby D7_32 rfl (l' := #[.val (.ref ca), .val (.int ((1 : Int32) + (1 : Int32))), .val (.ref dst), .val (.int (1 : Int32)), .val (.int (3 : Int32)), .val (.int (1 : Int32)), .val (.int c1)]) rfl ?_
      rw [(by decide : ((1 : Int32) + (1 : Int32)) = (2 : Int32))]
      refine o_iinc X7 hx hby D7_35 rfl (l' := #[.val (.ref ca), .val (.int (2 : Int32)), .val (.ref dst), .val (.int ((1 : Int32) + (1 : Int32))), .val (.int (3 : Int32)), .val (.int (1 : Int32)), .val (.int c1)]) rfl ?_
      rw [(by decide : ((1 : Int32) + (1 : Int32)) = (2 : Int32))]
      refine o_iinc X7 hx hby D7_38 rfl (l' := #[.val (.ref ca), .val (.int (2 : Int32)), .val (.ref dst), .val (.int (2 : Int32)), .val (.int (3 : Int32)), .val (.int ((1 : Int32) + (1 : Int32))), .val (.int c1)]) rfl ?_
      rw [(by decide : ((1 : Int32) + (1 : Int32)) = (2 : Int32))]
      refine o_goto X7 hx hby D7_41 (q := 3) (by decide) (by decide) ?_
      refine o_iload X7 hx hby D7_3 rfl ?_
      refine o_iload X7 hx hby D7_5 rfl ?_
      refine o_icmpN X7 hx hby D7_7 (tlt (by decide : (2 : Int32) < (3 : Int32))).2.1 ?_
      refine o_aloadN X7 hx hby D7_10 rfl rfl ?_
      refine o_iloadN X7 hx hby D7_11 rfl ?_
      have c9_V_ca := (c5_V_ca.other W7 (by first | exact own_neN (by omega) | exact own_neN' (by omega) | assumption))
      obtain ⟨cl_ca_8, Ar_ca_8, q_ca_8, S_ca_8, N_ca_8, H_ca_8, G_ca_8⟩ := id c9_V_ca
      have hin_ca_8 : ¬ ((2 : Int32) < 0 ∨ cl_ca_8.slots.size ≤ ((2 : Int32)).toNatClampNeg) := inb_of S_ca_8 ⟨by decide, by decide⟩
      have hat_ca_8 : cl_ca_8.slots[((2 : Int32)).toNatClampNeg]? = some (.int c2) := H_ca_8.at hin_ca_8 (rfl)
      refine own_pre (A' := T7.setTop (mkF m 13 #[.val (.ref ca), .val (.int (2 : Int32)), .val (.ref dst), .val (.int (2 : Int32)), .val (.int (3 : Int32)), .val (.int (2 : Int32)), .val (.int c1)] [(.int c2)])) (fun t k => X7.caload hx (j := (2 : Int32)) (v := (.int c2)) (by rw [e7]; exact Ar_ca_8.1) (State.isArrayOf_alike hZ.alike Ar_ca_8.2.1) Ar_ca_8.2.2 hin_ca_8 hat_ca_8 (g := (mkF m 12 #[.val (.ref ca), .val (.int (2 : Int32)), .val (.ref dst), .val (.int (2 : Int32)), .val (.int (3 : Int32)), .val (.int (2 : Int32)), .val (.int c1)] [(.int (2 : Int32)), (.ref ca)])) rfl rfl (hb hby D7_12.1) _ k) ?_
      refine o_istore X7 hx hby D7_13 (l' := #[.val (.ref ca), .val (.int (2 : Int32)), .val (.ref dst), .val (.int (2 : Int32)), .val (.int (3 : Int32)), .val (.int (2 : Int32)), .val (.int c2)]) rfl ?_
      refine o_iload X7 hx hby D7_15 rfl ?_
      refine o_sipush X7 hx hby D7_17 (v := 255) rfl ?_
      by_cases hc20_10 : (255 : Int32) < c2
      · skip
        refine o_icmpN X7 hx hby D7_20 (tlt hc20_10).2.2.2 ?_
        refine o_iload X7 hx hby D7_23 rfl ?_
        have KK : Keep h0 h7 [dst] := (((Keep.refl h0 [dst]).wr W3 (Or.inl (by simp))).wr W7 (Or.inl (by simp)))
        exact own_ret (v := some (.int (2 : Int32))) X7 (fun h => by first | rfl | (rw [Bd.returns] at h; cases h)) (BodyLoose.notSynchronized Bd) (by decide) (by decide) (by rw [e7]; exact ⟨N7, KK, (Or.inr (Or.inr (Or.inr ⟨rfl, hc20_10⟩)))⟩) (fun fs hr => retI X7 hx Bd.returns (hb hby D7_25.1) hr)
      · skip
        refine o_icmpY X7 hx hby D7_20 (flt hc20_10).2.2.2 (q := 26) (by decide) (by decide) ?_
        refine o_aloadN X7 hx hby D7_26 rfl rfl ?_
        refine o_iloadN X7 hx hby D7_27 rfl ?_
        refine o_iload X7 hx hby D7_28 rfl ?_
        refine o_i2b X7 hx hby D7_30 ?_
        obtain ⟨cl_dst_11, Ar_dst_11, q_dst_11, S_dst_11, N_dst_11, H_dst_11, G_dst_11⟩ := id V_dst_7
        have hin_dst_11 : ¬ ((2 : Int32) < 0 ∨ cl_dst_11.slots.size ≤ ((2 : Int32)).toNatClampNeg) := inb_of S_dst_11 ⟨by decide, by decide⟩
        obtain ⟨T11, h11, X11, e11, W11, st11⟩ := stB X7 hx hZ e7 Ar_dst_11 (j := (2 : Int32)) hin_dst_11 (g := (mkF m 31 #[.val (.ref ca), .val (.int (2 : Int32)), .val (.ref dst), .val (.int (2 : Int32)), .val (.int (3 : Int32)), .val (.int (2 : Int32)), .val (.int c2)] [(.int ((c2).toInt8.toInt32)), (.int (2 : Int32)), (.ref dst)])) rfl rfl (hb hby D7_31.1)
        have V_dst_11 : Arv Z h11 dst kd .byte (3 : Int32) [(.int (nar .byte ((c0).toInt8.toInt32))), (.int (nar .byte ((c1).toInt8.toInt32))), (.int (nar .byte ((c2).toInt8.toInt32)))] (.int (0 : Int32)) := Arv.set Ar_dst_11 q_dst_11 S_dst_11 N_dst_11 H_dst_11 G_dst_11 (fits_nar_byte _) W11 2 rfl (Nat.le_of_ble_eq_true rfl)
        have sz11 := own_leN (Keep.of_wr W11).1
        have N11 := Fr.snoc X11 N7 gn_dst
        refine own_pre (A' := T11.setTop (mkF m 32 #[.val (.ref ca), .val (.int (2 : Int32)), .val (.ref dst), .val (.int (2 : Int32)), .val (.int (3 : Int32)), .val (.int (2 : Int32)), .val (.int c2)] [])) st11 ?_
        refine o_iinc X11 hx hby D7_32 rfl (l' := #[.val (.ref ca), .val (.int ((2 : Int32) + (1 : Int32))), .val (.ref dst), .val (.int (2 : Int32)), .val (.int (3 : Int32)), .val (.int (2 : Int32)), .val (.int c2)]) rfl ?_
        rw [(by decide : ((2 : Int32) + (1 : Int32)) = (3 : Int32))]
        refine o_iinc X11 hx hby D7_35 rfl (l' := #[.val (.ref ca), .val (.int (3 : Int32)), .val (.ref dst), .val (.int ((2 : Int32) + (1 : Int32))), .val (.int (3 : Int32)), .val (.int (2 : Int32)), .val (.int c2)]) rfl ?_
        rw [(by decide : ((2 : Int32) + (1 : Int32)) = (3 : Int32))]
        refine o_iinc X11 hx hby D7_38 rfl (l' := #[.val (.ref ca), .val (.int (3 : Int32)), .val (.ref dst), .val (.int (3 : Int32)), .val (.int (3 : Int32)), .val (.int ((2 : Int32) + (1 : Int32))), .val (.int c2)]) rfl ?_
        rw [(by decide : ((2 : Int32) + (1 : Int32)) = (3 : Int32))]
        refine o_goto X11 hx hby D7_41 (q := 3) (by decide) (by decide) ?_
        refine o_iload X11 hx hby D7_3 rfl ?_
        refine o_iload X11 hx hby D7_5 rfl ?_
        refine o_icmpY X11 hx hby D7_7 (flt (by decide : ¬ ((3 : Int32) < (3 : Int32)))).2.1 (q := 44) (by decide) (by decide) ?_
        refine o_iload X11 hx hby D7_44 rfl ?_
        have KK : Keep h0 h11 [dst] := ((((Keep.refl h0 [dst]).wr W3 (Or.inl (by simp))).wr W7 (Or.inl (by simp))).wr W11 (Or.inl (by simp)))
        have VV : Arv Z h11 dst kd .byte (3 : Int32) [(.int (own_l8 c0)), (.int (own_l8 c1)), (.int (own_l8 c2))] (.int (0 : Int32)) := V_dst_11
        exact own_ret (v := some (.int (3 : Int32))) X11 (fun h => by first | rfl | (rw [Bd.returns] at h; cases h)) (BodyLoose.notSynchronized Bd) (by decide) (by decide) (by rw [e11]; exact ⟨N11, KK, (Or.inl ⟨rfl, hc20_2, hc20_6, hc20_10, VV⟩)⟩) (fun fs hr => retI X11 hx Bd.returns (hb hby D7_46.1) hr)
def own_Q33 (Z : State) (c0 c1 c2 : Int32) (h0 : Heap) (n0 : Nat) (v : Option Value) (h : Heap) (L : List Loc) : Prop := ∃ (r : Nat) (kr : ClassId), v = some (.ref r) ∧ Fr n0 L ∧ Keep h0 h [] ∧ h0.size ≤ r ∧ (((¬ ((255 : Int32) < c0)) ∧ (¬ ((255 : Int32) < c1)) ∧ (¬ ((255 : Int32) < c2)) ∧ Arv Z h r kr .byte (3 : Int32) [(.int (own_l8 c0)), (.int (own_l8 c1)), (.int (own_l8 c2))] (.int (0 : Int32))) ∨ Arv Z h r kr .byte (6 : Int32) [(.int (own_lo c0)), (.int (own_hi c0)), (.int (own_lo c1)), (.int (own_hi c1)), (.int (own_lo c2)), (.int (own_hi c2))] (.int (0 : Int32)))
theorem ef_rs_c33 (m : MethodId) (ca : Addr) : entryFrame m #[(.ref ca), (.int (0 : Int32)), (.int (3 : Int32))] 6 = mkF m 0 #[.val (.ref ca), .val (.int (0 : Int32)), .val (.int (3 : Int32)), .unset, .unset, .unset] [] := by first | (simp [entryFrame, mkF, argsToLocals, Value.category]; done) | rfl
set_option maxRecDepth 65536 in
set_option maxHeartbeats 40000000 in
theorem rs_c33 (l : Launch) (Z : State) (a0 : Array Value) (hw : ∀ d ∈ tables_1, d.before a0 Z = true) (ws : List Jvm.Cond) (ca : Addr) (kc : ClassId) (c0 c1 c2 : Int32) (cs : Int32) (vf : Value) (h0 : Heap) (n0 : Nat) (Z0 : n0 ≤ h0.size) (hST : own_ST Z cs vf) (O0 : Old Z n0 h0) (Vc : Arv Z h0 ca kc .char (3 : Int32) [(.int c0), (.int c1), (.int c2)] (.int (0 : Int32))) (hc0 : own_ch16 c0) (hc1 : own_ch16 c1) (hc2 : own_ch16 c2) :
    own_Mt l (⟨"java/lang/StringUTF16", "compress", "([CII)[B"⟩ : MethodName) jdk_52_method_16_code 6 (some (.array .byte)) ({ frames := 3, cells := 2, slots := 9, locals := 40 } : Room) #[(.ref ca), (.int (0 : Int32)), (.int (3 : Int32))] Z h0 (own_Q33 Z c0 c1 c2 h0 n0) := by
  refine MetFree.of_bodySF (plainFor_of_name pn_java_lang_StringUTF16) hisR ?_
  intro p e s m args below meth c s₁ Bd hml0 hP hK
  obtain ⟨rfl, hZ, hh⟩ := hP
  have hx := Bd.exec
  have hby := Bd.bytes
  have hml : c.maxLocals = 6 := hml0
  have hown : s.vm.findClass "java/lang/StringUTF16" = some m.cls := findClass_of_methodNamed Bd.named
  have hnm := (name_of_methodNamed Bd.named Bd.method).1
  have X0 : Stand p l e ({ frames := 3, cells := 2, slots := 9, locals := 40 } : Room) s m #[(.ref ca), (.int (0 : Int32)), (.int (3 : Int32))] below meth c s₁ [] 0 0 := Stand.of_body Bd
  have e0 : s₁.heap = h0 := by rw [← hh, Bd.state]; rfl
  have N0 := Fr.nil n0
  refine own_start (ef_rs_c33 m ca) ?_
  have hST0 := hST
  obtain ⟨S_cs, S_ad, S_hb, S_lb, S_sf, hcs, hvf⟩ := hST
  have lt_ca := own_ltN Vc.lt
  refine o_iloadN X0 hx hby D6_0 rfl ?_
  obtain ⟨T1, h1, k1, X1, e1, E1, A1, Ex1, st1⟩ := newPE X0 hx hZ (wd hw 26 rfl) e0 (g := (mkF m 1 #[.val (.ref ca), .val (.int (0 : Int32)), .val (.int (3 : Int32)), .unset, .unset, .unset] [(.int (3 : Int32))])) rfl (hb hby D6_1.1) rfl (by decide) (cap := 3) (by decide) (by decide) (by decide) (by decide) (ad := "[B") (by first | rfl | decide)
  obtain ⟨b1, g1⟩ : ∃ z : Nat, z = h0.size := ⟨_, rfl⟩
  rw [← g1] at A1 Ex1 st1
  have sz1 := own_leN E1.1
  have gn_b1 : n0 ≤ b1 := by omega
  have V_b1 : Arv Z h1 b1 k1 .byte (3 : Int32) [(.int (0 : Int32)), (.int (0 : Int32)), (.int (0 : Int32))] (.int (0 : Int32)) := (Arv.new A1 (by decide)).pad (pad_rep [] (.int (0 : Int32)) 3)
  have lt_b1 := own_ltN V_b1.lt
  refine own_pre (A' := T1.setTop (mkF m 3 #[.val (.ref ca), .val (.int (0 : Int32)), .val (.int (3 : Int32)), .unset, .unset, .unset] [(.ref b1)])) st1 ?_
  refine o_astoreN X1 hx hby D6_3 rfl (l' := #[.val (.ref ca), .val (.int (0 : Int32)), .val (.int (3 : Int32)), .val (.ref b1), .unset, .unset]) rfl ?_
  refine o_aloadN X1 hx hby D6_4 rfl rfl ?_
  refine o_iloadN X1 hx hby D6_5 rfl ?_
  refine o_aloadN X1 hx hby D6_6 rfl rfl ?_
  refine o_iconst X1 hx hby D6_7 (v := 0) rfl ?_
  refine o_iloadN X1 hx hby D6_8 rfl ?_
  have c3_V_ca := (Vc.ext E1)
  refine kS X1 hx hZ hown hby (wd hw 27 rfl) (wd hw 28 rfl) (wd hw 24 rfl) (wd hw 29 rfl) (rs_c53 l Z a0 hw [] ca b1 kc k1 c0 c1 c2 h1 n0 (own_leN (by omega)) c3_V_ca V_b1 gn_b1 (by omega)) (by decide) (by decide) (by decide) (by decide) (by decide) (by rw [hml]; rfl) [(.ref ca), (.int (0 : Int32)), (.ref b1), (.int (0 : Int32)), (.int (3 : Int32))] [] (lenOf pd__40_91CI_91BII_41I rfl) (W := 0) rfl rfl D6_9 rfl e1 ?_
  intro v2 T2 L2 X2 hQ2
  obtain ⟨N2q, K2, hw2⟩ := hQ2
  have sz2 := own_leN K2.1
  have N2 := Fr.app N0 N2q
  rcases hw2 with ⟨rfl, hl0, hl1, hl2, V5⟩ | ⟨rfl, hh0⟩ | ⟨rfl, hh1⟩ | ⟨rfl, hh2⟩
  · skip
    refine own_sh (A' := T2.setTop (mkF m 12 _ [(.int (3 : Int32))])) ?_
    refine o_istore X2 hx hby D6_12 (l' := #[.val (.ref ca), .val (.int (0 : Int32)), .val (.int (3 : Int32)), .val (.ref b1), .val (.int (3 : Int32)), .unset]) rfl ?_
    refine o_iload X2 hx hby D6_14 rfl ?_
    refine o_iloadN X2 hx hby D6_16 rfl ?_
    refine o_icmpY X2 hx hby D6_17 (teq (by decide : (3 : Int32) = (3 : Int32))).1 (q := 57) (by decide) (by decide) ?_
    refine o_aloadN X2 hx hby D6_57 rfl rfl ?_
    have KK : Keep h0 T2.heap [] := (((Keep.refl h0 []).ext E1).trans K2 (allS (Or.inr (own_leN (by omega))) all0))
    exact own_ret (v := some (.ref b1)) X2 (fun h => by first | rfl | (rw [Bd.returns] at h; cases h)) (BodyLoose.notSynchronized Bd) (by decide) (by decide) (⟨b1, k1, rfl, N2, KK, own_leN (by omega), Or.inl ⟨hl0, hl1, hl2, V5⟩⟩) (fun fs hr => retOut X2 hx Bd.returns rfl (Or.inr (Or.inr (Or.inr (Or.inr ⟨rfl, rfl, rfl⟩)))) (hb hby D6_58.1) hr)
  · skip
    refine own_sh (A' := T2.setTop (mkF m 12 _ [(.int (0 : Int32))])) ?_
    refine o_istore X2 hx hby D6_12 (l' := #[.val (.ref ca), .val (.int (0 : Int32)), .val (.int (3 : Int32)), .val (.ref b1), .val (.int (0 : Int32)), .unset]) rfl ?_
    refine o_iload X2 hx hby D6_14 rfl ?_
    refine o_iloadN X2 hx hby D6_16 rfl ?_
    refine o_icmpN X2 hx hby D6_17 (feq (by decide : ¬ ((0 : Int32) = (3 : Int32)))).1 ?_
    refine o_aloadN X2 hx hby D6_20 rfl rfl ?_
    refine o_iloadN X2 hx hby D6_21 rfl ?_
    refine o_iloadN X2 hx hby D6_22 rfl ?_
    have c5_O := ((O0.ext E1).keep K2 (allS gn_b1 all0))
    have c6_V_ca := (c3_V_ca.keep K2 (ninS (by first | exact own_neN (by omega) | exact own_neN' (by omega) | assumption) nin0))
    refine kS X2 hx hZ hown hby (wd hw 83 rfl) (wd hw 84 rfl) (wd hw 24 rfl) (wd hw 85 rfl) (rs_tb3 l Z a0 hw [] ca kc c0 c1 c2 cs vf T2.heap n0 (own_leN (by omega)) hST0 c5_O c6_V_ca) (by decide) (by decide) (by decide) (by decide) (by decide) (by rw [hml]; rfl) [(.ref ca), (.int (0 : Int32)), (.int (3 : Int32))] [] (lenOf pd__40_91CII_41_91B rfl) (W := 0) rfl rfl D6_23 rfl rfl ?_
    intro v4 T4 L4 X4 hQ4
    obtain ⟨r4, kr4, rfl, N4q, K4, ge4, Vr4⟩ := hQ4
    have sz4 := own_leN K4.1
    have ge4' := own_leN ge4
    have lt_r4 := own_ltN Vr4.lt
    have gn_r4 : n0 ≤ r4 := own_leN (by omega)
    have N4 := Fr.app N2 N4q
    refine own_sh (A' := T4.setTop (mkF m 26 _ [(.ref r4)])) ?_
    refine o_astore X4 hx hby D6_26 rfl (l' := #[.val (.ref ca), .val (.int (0 : Int32)), .val (.int (3 : Int32)), .val (.ref b1), .val (.int (0 : Int32)), .val (.ref r4)]) rfl ?_
    refine o_aload X4 hx hby D6_28 rfl rfl ?_
    refine o_iload X4 hx hby D6_30 rfl ?_
    have c8_O := (c5_O.keep K4 all0)
    refine kS X4 hx hZ hown hby (wd hw 99 rfl) (wd hw 100 rfl) (wd hw 24 rfl) (wd hw 101 rfl) (rs_gc30 l Z a0 hw [] r4 kr4 c0 c1 c2 cs vf T4.heap n0 (own_leN (by omega)) hST0 c8_O Vr4 hc0) (by decide) (by decide) (by decide) (by decide) (by decide) (by rw [hml]; rfl) [(.ref r4), (.int (0 : Int32))] [] (lenOf pd__40_91BI_41C rfl) (W := 0) rfl rfl D6_32 rfl rfl ?_
    intro v7 T7 L7 X7 hQ7
    obtain ⟨rfl, N7q, e7⟩ := hQ7
    have N7 := Fr.app N4 N7q
    refine own_sh (A' := T7.setTop (mkF m 35 _ [(.int c0)])) ?_
    refine o_sipush X7 hx hby D6_35 (v := 255) rfl ?_
    refine o_icmpY X7 hx hby D6_38 (tlt (hh0 : (255 : Int32) < c0)).2.2.1 (q := 54) (by decide) (by decide) ?_
    refine o_aload X7 hx hby D6_54 rfl rfl ?_
    have KK : Keep h0 T4.heap [] := ((((Keep.refl h0 []).ext E1).trans K2 (allS (Or.inr (own_leN (by omega))) all0)).trans K4 all0)
    exact own_ret (v := some (.ref r4)) X7 (fun h => by first | rfl | (rw [Bd.returns] at h; cases h)) (BodyLoose.notSynchronized Bd) (by decide) (by decide) (by rw [e7]; exact ⟨r4, kr4, rfl, N7, KK, own_leN (by omega), Or.inr Vr4⟩) (fun fs hr => retOut X7 hx Bd.returns rfl (Or.inr (Or.inr (Or.inr (Or.inr ⟨rfl, rfl, rfl⟩)))) (hb hby D6_56.1) hr)
  · skip
    refine own_sh (A' := T2.setTop (mkF m 12 _ [(.int (1 : Int32))])) ?_
    refine o_istore X2 hx hby D6_12 (l' := #[.val (.ref ca), .val (.int (0 : Int32)), .val (.int (3 : Int32)), .val (.ref b1), .val (.int (1 : Int32)), .unset]) rfl ?_
    refine o_iload X2 hx hby D6_14 rfl ?_
    refine o_iloadN X2 hx hby D6_16 rfl ?_
    refine o_icmpN X2 hx hby D6_17 (feq (by decide : ¬ ((1 : Int32) = (3 : Int32)))).1 ?_
    refine o_aloadN X2 hx hby D6_20 rfl rfl ?_
    refine o_iloadN X2 hx hby D6_21 rfl ?_
    refine o_iloadN X2 hx hby D6_22 rfl ?_
    have c10_O := ((O0.ext E1).keep K2 (allS gn_b1 all0))
    have c11_V_ca := (c3_V_ca.keep K2 (ninS (by first | exact own_neN (by omega) | exact own_neN' (by omega) | assumption) nin0))
    refine kS X2 hx hZ hown hby (wd hw 83 rfl) (wd hw 84 rfl) (wd hw 24 rfl) (wd hw 85 rfl) (rs_tb3 l Z a0 hw [] ca kc c0 c1 c2 cs vf T2.heap n0 (own_leN (by omega)) hST0 c10_O c11_V_ca) (by decide) (by decide) (by decide) (by decide) (by decide) (by rw [hml]; rfl) [(.ref ca), (.int (0 : Int32)), (.int (3 : Int32))] [] (lenOf pd__40_91CII_41_91B rfl) (W := 0) rfl rfl D6_23 rfl rfl ?_
    intro v9 T9 L9 X9 hQ9
    obtain ⟨r9, kr9, rfl, N9q, K9, ge9, Vr9⟩ := hQ9
    have sz9 := own_leN K9.1
    have ge9' := own_leN ge9
    have lt_r9 := own_ltN Vr9.lt
    have gn_r9 : n0 ≤ r9 := own_leN (by omega)
    have N9 := Fr.app N2 N9q
    refine own_sh (A' := T9.setTop (mkF m 26 _ [(.ref r9)])) ?_
    refine o_astore X9 hx hby D6_26 rfl (l' := #[.val (.ref ca), .val (.int (0 : Int32)), .val (.int (3 : Int32)), .val (.ref b1), .val (.int (1 : Int32)), .val (.ref r9)]) rfl ?_
    refine o_aload X9 hx hby D6_28 rfl rfl ?_
    refine o_iload X9 hx hby D6_30 rfl ?_
    have c13_O := (c10_O.keep K9 all0)
    refine kS X9 hx hZ hown hby (wd hw 99 rfl) (wd hw 100 rfl) (wd hw 24 rfl) (wd hw 101 rfl) (rs_gc31 l Z a0 hw [] r9 kr9 c0 c1 c2 cs vf T9.heap n0 (own_leN (by omega)) hST0 c13_O Vr9 hc1) (by decide) (by decide) (by decide) (by decide) (by decide) (by rw [hml]; rfl) [(.ref r9), (.int (1 : Int32))] [] (lenOf pd__40_91BI_41C rfl) (W := 0) rfl rfl D6_32 rfl rfl ?_
    intro v12 T12 L12 X12 hQ12
    obtain ⟨rfl, N12q, e12⟩ := hQ12
    have N12 := Fr.app N9 N12q
    refine own_sh (A' := T12.setTop (mkF m 35 _ [(.int c1)])) ?_
    refine o_sipush X12 hx hby D6_35 (v := 255) rfl ?_
    refine o_icmpY X12 hx hby D6_38 (tlt (hh1 : (255 : Int32) < c1)).2.2.1 (q := 54) (by decide) (by decide) ?_
    refine o_aload X12 hx hby D6_54 rfl rfl ?_
    have KK : Keep h0 T9.heap [] := ((((Keep.refl h0 []).ext E1).trans K2 (allS (Or.inr (own_leN (by omega))) all0)).trans K9 all0)
    exact own_ret (v := some (.ref r9)) X12 (fun h => by first | rfl | (rw [Bd.returns] at h; cases h)) (BodyLoose.notSynchronized Bd) (by decide) (by decide) (by rw [e12]; exact ⟨r9, kr9, rfl, N12, KK, own_leN (by omega), Or.inr Vr9⟩) (fun fs hr => retOut X12 hx Bd.returns rfl (Or.inr (Or.inr (Or.inr (Or.inr ⟨rfl, rfl, rfl⟩)))) (hb hby D6_56.1) hr)
  · skip
    refine own_sh (A' := T2.setTop (mkF m 12 _ [(.int (2 : Int32))])) ?_
    refine o_istore X2 hx hby D6_12 (l' := #[.val (.ref ca), .val (.int (0 : Int32)), .val (.int (3 : Int32)), .val (.ref b1), .val (.int (2 : Int32)), .unset]) rfl ?_
    refine o_iload X2 hx hby D6_14 rfl ?_
    refine o_iloadN X2 hx hby D6_16 rfl ?_
    refine o_icmpN X2 hx hby D6_17 (feq (by decide : ¬ ((2 : Int32) = (3 : Int32)))).1 ?_
    refine o_aloadN X2 hx hby D6_20 rfl rfl ?_
    refine o_iloadN X2 hx hby D6_21 rfl ?_
    refine o_iloadN X2 hx hby D6_22 rfl ?_
    have c15_O := ((O0.ext E1).keep K2 (allS gn_b1 all0))
    have c16_V_ca := (c3_V_ca.keep K2 (ninS (by first | exact own_neN (by omega) | exact own_neN' (by omega) | assumption) nin0))
    refine kS X2 hx hZ hown hby (wd hw 83 rfl) (wd hw 84 rfl) (wd hw 24 rfl) (wd hw 85 rfl) (rs_tb3 l Z a0 hw [] ca kc c0 c1 c2 cs vf T2.heap n0 (own_leN (by omega)) hST0 c15_O c16_V_ca) (by decide) (by decide) (by decide) (by decide) (by decide) (by rw [hml]; rfl) [(.ref ca), (.int (0 : Int32)), (.int (3 : Int32))] [] (lenOf pd__40_91CII_41_91B rfl) (W := 0) rfl rfl D6_23 rfl rfl ?_
    intro v14 T14 L14 X14 hQ14
    obtain ⟨r14, kr14, rfl, N14q, K14, ge14, Vr14⟩ := hQ14
    have sz14 := own_leN K14.1
    have ge14' := own_leN ge14
    have lt_r14 := own_ltN Vr14.lt
    have gn_r14 : n0 ≤ r14 := own_leN (by omega)
    have N14 := Fr.app N2 N14q
    refine own_sh (A' := T14.setTop (mkF m 26 _ [(.ref r14)])) ?_
    refine o_astore X14 hx hby D6_26 rfl (l' := #[.val (.ref ca), .val (.int (0 : Int32)), .val (.int (3 : Int32)), .val (.ref b1), .val (.int (2 : Int32)), .val (.ref r14)]) rfl ?_
    refine o_aload X14 hx hby D6_28 rfl rfl ?_
    refine o_iload X14 hx hby D6_30 rfl ?_
    have c18_O := (c15_O.keep K14 all0)
    refine kS X14 hx hZ hown hby (wd hw 99 rfl) (wd hw 100 rfl) (wd hw 24 rfl) (wd hw 101 rfl) (rs_gc32 l Z a0 hw [] r14 kr14 c0 c1 c2 cs vf T14.heap n0 (own_leN (by omega)) hST0 c18_O Vr14 hc2) (by decide) (by decide) (by decide) (by decide) (by decide) (by rw [hml]; rfl) [(.ref r14), (.int (2 : Int32))] [] (lenOf pd__40_91BI_41C rfl) (W := 0) rfl rfl D6_32 rfl rfl ?_
    intro v17 T17 L17 X17 hQ17
    obtain ⟨rfl, N17q, e17⟩ := hQ17
    have N17 := Fr.app N14 N17q
    refine own_sh (A' := T17.setTop (mkF m 35 _ [(.int c2)])) ?_
    refine o_sipush X17 hx hby D6_35 (v := 255) rfl ?_
    refine o_icmpY X17 hx hby D6_38 (tlt (hh2 : (255 : Int32) < c2)).2.2.1 (q := 54) (by decide) (by decide) ?_
    refine o_aload X17 hx hby D6_54 rfl rfl ?_
    have KK : Keep h0 T14.heap [] := ((((Keep.refl h0 []).ext E1).trans K2 (allS (Or.inr (own_leN (by omega))) all0)).trans K14 all0)
    exact own_ret (v := some (.ref r14)) X17 (fun h => by first | rfl | (rw [Bd.returns] at h; cases h)) (BodyLoose.notSynchronized Bd) (by decide) (by decide) (by rw [e17]; exact ⟨r14, kr14, rfl, N17, KK, own_leN (by omega), Or.inr Vr14⟩) (fun fs hr => retOut X17 hx Bd.returns rfl (Or.inr (Or.inr (Or.inr (Or.inr ⟨rfl, rfl, rfl⟩)))) (hb hby D6_56.1) hr)
theorem ef_rs_cd3_3 (m : MethodId) (ba : Addr) : entryFrame m #[(.ref ba), (.int (3 : Int32))] 2 = mkF m 0 #[.val (.ref ba), .val (.int (3 : Int32))] [] := by first | (simp [entryFrame, mkF, argsToLocals, Value.category]; done) | rfl
set_option maxRecDepth 65536 in
set_option maxHeartbeats 40000000 in
theorem rs_cd3_3 (l : Launch) (Z : State) (a0 : Array Value) (hw : ∀ d ∈ tables_1, d.before a0 Z = true) (ws : List Jvm.Cond) (ba : Addr) (kb : ClassId) (xs : List Value) (h0 : Heap) (n0 : Nat) (Z0 : n0 ≤ h0.size) (Vb : Arv Z h0 ba kb .byte (3 : Int32) xs (.int (0 : Int32))) :
    own_Mt l (⟨"java/lang/StringUTF16", "coderFromArrayLen", "([BI)B"⟩ : MethodName) jdk_52_method_15_code 2 (some .byte) ({ frames := 0, cells := 0, slots := 0, locals := 0 } : Room) #[(.ref ba), (.int (3 : Int32))] Z h0 (own_QP (.int (0 : Int32)) h0 n0) := by
  refine MetFree.of_bodySF (plainFor_of_name pn_java_lang_StringUTF16) hisR ?_
  intro p e s m args below meth c s₁ Bd hml0 hP hK
  obtain ⟨rfl, hZ, hh⟩ := hP
  have hx := Bd.exec
  have hby := Bd.bytes
  have hml : c.maxLocals = 2 := hml0
  have hown : s.vm.findClass "java/lang/StringUTF16" = some m.cls := findClass_of_methodNamed Bd.named
  have hnm := (name_of_methodNamed Bd.named Bd.method).1
  have X0 : Stand p l e ({ frames := 0, cells := 0, slots := 0, locals := 0 } : Room) s m #[(.ref ba), (.int (3 : Int32))] below meth c s₁ [] 0 0 := Stand.of_body Bd
  have e0 : s₁.heap = h0 := by rw [← hh, Bd.state]; rfl
  have N0 := Fr.nil n0
  refine own_start (ef_rs_cd3_3 m ba) ?_
  refine o_iloadN X0 hx hby D8_0 rfl ?_
  refine o_aloadN X0 hx hby D8_1 rfl rfl ?_
  obtain ⟨cl_ba_1, Ar_ba_1, q_ba_1, S_ba_1, N_ba_1, H_ba_1, G_ba_1⟩ := id Vb
  refine own_pre (A' := s₁.setTop (mkF m 3 #[.val (.ref ba), .val (.int (3 : Int32))] [(.int (3 : Int32)), (.int (3 : Int32))])) (fun t k => X0.arraylength hx (by rw [e0]; exact Ar_ba_1.1) (State.isArrayOf_alike hZ.alike Ar_ba_1.2.1) (g := (mkF m 2 #[.val (.ref ba), .val (.int (3 : Int32))] [(.ref ba), (.int (3 : Int32))])) rfl rfl (hb hby D8_2.1) _ (by rw [len_of S_ba_1 N_ba_1]; exact k)) ?_
  refine o_isub X0 hx hby D8_3 ?_
  rw [(by decide : ((3 : Int32) - (3 : Int32)) = (0 : Int32))]
  refine o_bipush X0 hx hby D8_4 (v := 31) rfl ?_
  refine o_iushr X0 hx hby D8_6 ?_
  rw [(by decide : (((0 : Int32).toUInt32 >>> ((31 : Int32) &&& 31).toUInt32).toInt32) = (0 : Int32))]
  refine o_i2b X0 hx hby D8_7 ?_
  rw [(by decide : (((0 : Int32)).toInt8.toInt32) = (0 : Int32))]
  exact own_ret (v := some (.int (0 : Int32))) X0 (fun h => by first | rfl | (rw [Bd.returns] at h; cases h)) (BodyLoose.notSynchronized Bd) (by decide) (by decide) (⟨rfl, N0, e0⟩) (fun fs hr => retN X0 hx (t := .byte) Bd.returns (by simp) (hb hby D8_8.1) hr)
theorem ef_rs_cd3_6 (m : MethodId) (ba : Addr) : entryFrame m #[(.ref ba), (.int (3 : Int32))] 2 = mkF m 0 #[.val (.ref ba), .val (.int (3 : Int32))] [] := by first | (simp [entryFrame, mkF, argsToLocals, Value.category]; done) | rfl
set_option maxRecDepth 65536 in
set_option maxHeartbeats 40000000 in
theorem rs_cd3_6 (l : Launch) (Z : State) (a0 : Array Value) (hw : ∀ d ∈ tables_1, d.before a0 Z = true) (ws : List Jvm.Cond) (ba : Addr) (kb : ClassId) (xs : List Value) (h0 : Heap) (n0 : Nat) (Z0 : n0 ≤ h0.size) (Vb : Arv Z h0 ba kb .byte (6 : Int32) xs (.int (0 : Int32))) :
    own_Mt l (⟨"java/lang/StringUTF16", "coderFromArrayLen", "([BI)B"⟩ : MethodName) jdk_52_method_15_code 2 (some .byte) ({ frames := 0, cells := 0, slots := 0, locals := 0 } : Room) #[(.ref ba), (.int (3 : Int32))] Z h0 (own_QP (.int (1 : Int32)) h0 n0) := by
  refine MetFree.of_bodySF (plainFor_of_name pn_java_lang_StringUTF16) hisR ?_
  intro p e s m args below meth c s₁ Bd hml0 hP hK
  obtain ⟨rfl, hZ, hh⟩ := hP
  have hx := Bd.exec
  have hby := Bd.bytes
  have hml : c.maxLocals = 2 := hml0
  have hown : s.vm.findClass "java/lang/StringUTF16" = some m.cls := findClass_of_methodNamed Bd.named
  have hnm := (name_of_methodNamed Bd.named Bd.method).1
  have X0 : Stand p l e ({ frames := 0, cells := 0, slots := 0, locals := 0 } : Room) s m #[(.ref ba), (.int (3 : Int32))] below meth c s₁ [] 0 0 := Stand.of_body Bd
  have e0 : s₁.heap = h0 := by rw [← hh, Bd.state]; rfl
  have N0 := Fr.nil n0
  refine own_start (ef_rs_cd3_6 m ba) ?_
  refine o_iloadN X0 hx hby D8_0 rfl ?_
  refine o_aloadN X0 hx hby D8_1 rfl rfl ?_
  obtain ⟨cl_ba_1, Ar_ba_1, q_ba_1, S_ba_1, N_ba_1, H_ba_1, G_ba_1⟩ := id Vb
  refine own_pre (A' := s₁.setTop (mkF m 3 #[.val (.ref ba), .val (.int (3 : Int32))] [(.int (6 : Int32)), (.int (3 : Int32))])) (fun t k => X0.arraylength hx (by rw [e0]; exact Ar_ba_1.1) (State.isArrayOf_alike hZ.alike Ar_ba_1.2.1) (g := (mkF m 2 #[.val (.ref ba), .val (.int (3 : Int32))] [(.ref ba), (.int (3 : Int32))])) rfl rfl (hb hby D8_2.1) _ (by rw [len_of S_ba_1 N_ba_1]; exact k)) ?_
  refine o_isub X0 hx hby D8_3 ?_
  rw [(by decide : ((3 : Int32) - (6 : Int32)) = (-3 : Int32))]
  refine o_bipush X0 hx hby D8_4 (v := 31) rfl ?_
  refine o_iushr X0 hx hby D8_6 ?_
  rw [(by decide : (((-3 : Int32).toUInt32 >>> ((31 : Int32) &&& 31).toUInt32).toInt32) = (1 : Int32))]
  refine o_i2b X0 hx hby D8_7 ?_
  rw [(by decide : (((1 : Int32)).toInt8.toInt32) = (1 : Int32))]
  exact own_ret (v := some (.int (1 : Int32))) X0 (fun h => by first | rfl | (rw [Bd.returns] at h; cases h)) (BodyLoose.notSynchronized Bd) (by decide) (by decide) (⟨rfl, N0, e0⟩) (fun fs hr => retN X0 hx (t := .byte) Bd.returns (by simp) (hb hby D8_8.1) hr)
def own_Str3 (Z : State) (h : Heap) (st vb : Addr) (kb : ClassId) (c0 c1 c2 : Int32) : Prop := Exa Z h st "java/lang/String" ∧ Fld Z h st "java/lang/String" "value" "[B" (.ref vb) ∧ ((Fld Z h st "java/lang/String" "coder" "B" (.int 0) ∧ (¬ ((255 : Int32) < c0)) ∧ (¬ ((255 : Int32) < c1)) ∧ (¬ ((255 : Int32) < c2)) ∧ Arv Z h vb kb .byte (3 : Int32) [(.int (own_l8 c0)), (.int (own_l8 c1)), (.int (own_l8 c2))] (.int (0 : Int32))) ∨ (Fld Z h st "java/lang/String" "coder" "B" (.int 1) ∧ Arv Z h vb kb .byte (6 : Int32) [(.int (own_lo c0)), (.int (own_hi c0)), (.int (own_lo c1)), (.int (own_hi c1)), (.int (own_lo c2)), (.int (own_hi c2))] (.int (0 : Int32))))
def own_QI3 (Z : State) (a1 : Addr) (c0 c1 c2 : Int32) (h0 : Heap) (n0 : Nat) (v : Option Value) (h : Heap) (L : List Loc) : Prop := ∃ (vb : Nat) (kb : ClassId), v = none ∧ Fr n0 L ∧ Keep h0 h [a1] ∧ h0.size ≤ vb ∧ own_Str3 Z h a1 vb kb c0 c1 c2
theorem ef_rs_i43 (m : MethodId) (a1 : Addr) (ca : Addr) : entryFrame m #[(.ref a1), (.ref ca), (.int (0 : Int32)), (.int (3 : Int32)), .null] 6 = mkF m 0 #[.val (.ref a1), .val (.ref ca), .val (.int (0 : Int32)), .val (.int (3 : Int32)), .val .null, .unset] [] := by first | (simp [entryFrame, mkF, argsToLocals, Value.category]; done) | rfl
set_option maxRecDepth 65536 in
set_option maxHeartbeats 40000000 in
theorem rs_i43 (l : Launch) (Z : State) (a0 : Array Value) (hw : ∀ d ∈ tables_1, d.before a0 Z = true) (ws : List Jvm.Cond) (a1 : Addr) (ca : Addr) (kc : ClassId) (c0 c1 c2 : Int32) (u0 u1 : Value) (cs : Int32) (vf : Value) (h0 : Heap) (n0 : Nat) (Z0 : n0 ≤ h0.size) (hST : own_ST Z cs vf) (O0 : Old Z n0 h0) (Vc : Arv Z h0 ca kc .char (3 : Int32) [(.int c0), (.int c1), (.int c2)] (.int (0 : Int32))) (hc0 : own_ch16 c0) (hc1 : own_ch16 c1) (hc2 : own_ch16 c2) (gn_a1 : n0 ≤ a1) (E_a1 : Exa Z h0 a1 "java/lang/String") (F_v : Fld Z h0 a1 "java/lang/String" "value" "[B" u0) (F_c : Fld Z h0 a1 "java/lang/String" "coder" "B" u1) :
    own_Mt l (⟨"java/lang/String", "<init>", "([CIILjava/lang/Void;)V"⟩ : MethodName) jdk_42_method_149_code 6 none ({ frames := 4, cells := 2, slots := 9, locals := 57 } : Room) #[(.ref a1), (.ref ca), (.int (0 : Int32)), (.int (3 : Int32)), .null] Z h0 (own_QI3 Z a1 c0 c1 c2 h0 n0) := by
  refine MetFree.of_bodySF (plainFor_of_name pn_java_lang_String) hisR ?_
  intro p e s m args below meth c s₁ Bd hml0 hP hK
  obtain ⟨rfl, hZ, hh⟩ := hP
  have hx := Bd.exec
  have hby := Bd.bytes
  have hml : c.maxLocals = 6 := hml0
  have hown : s.vm.findClass "java/lang/String" = some m.cls := findClass_of_methodNamed Bd.named
  have hnm := (name_of_methodNamed Bd.named Bd.method).1
  have X0 : Stand p l e ({ frames := 4, cells := 2, slots := 9, locals := 57 } : Room) s m #[(.ref a1), (.ref ca), (.int (0 : Int32)), (.int (3 : Int32)), .null] below meth c s₁ [] 0 0 := Stand.of_body Bd
  have e0 : s₁.heap = h0 := by rw [← hh, Bd.state]; rfl
  have N0 := Fr.nil n0
  refine own_start (ef_rs_i43 m a1 ca) ?_
  have hST0 := hST
  obtain ⟨S_cs, S_ad, S_hb, S_lb, S_sf, hcs, hvf⟩ := hST
  have lt_ca := own_ltN Vc.lt
  have lt_a1 := own_ltN E_a1.lt
  refine o_aloadN X0 hx hby D4_0 rfl rfl ?_
  obtain ⟨T1, X1, e1, st1⟩ := initO X0 hx hZ hown (wd hw 18 rfl) (wd hw 19 rfl) (wd hw 20 rfl) e0 (g := (mkF m 1 #[.val (.ref a1), .val (.ref ca), .val (.int (0 : Int32)), .val (.int (3 : Int32)), .val .null, .unset] [(.ref a1)])) rfl (by rw [hml]; rfl) rfl (hb hby D4_1.1) (by decide) (W := 0) (by show 2 * 0 + _ ≤ _; exact Nat.le_of_eq rfl) (by decide)
  refine own_pre (A' := T1.setTop (mkF m 4 #[.val (.ref a1), .val (.ref ca), .val (.int (0 : Int32)), .val (.int (3 : Int32)), .val .null, .unset] [])) st1 ?_
  refine o_iloadN X1 hx hby D4_4 rfl ?_
  refine o_ifY X1 hx hby D4_5 ((if0 _ _).trans (feq (by decide : ¬ ((3 : Int32) = (0 : Int32)))).2) (q := 27) (by decide) (by decide) ?_
  obtain ⟨T2, X2, e2, st2⟩ := getS2 X1 hx hZ hown (host := "") (Or.inl (wd hw 21 rfl)) Via.refl e1 (S_cs.ext O0.2) (g := (mkF m 27 #[.val (.ref a1), .val (.ref ca), .val (.int (0 : Int32)), .val (.int (3 : Int32)), .val .null, .unset] [])) rfl (hb hby D4_27.1)
  refine own_pre (A' := T2.setTop (mkF m 30 #[.val (.ref a1), .val (.ref ca), .val (.int (0 : Int32)), .val (.int (3 : Int32)), .val .null, .unset] [(.int cs)])) st2 ?_
  refine o_ifN X2 hx hby D4_30 ((if0 _ _).trans (feq (hcs : ¬ (cs = (0 : Int32)))).1) ?_
  refine o_aloadN X2 hx hby D4_33 rfl rfl ?_
  refine o_iloadN X2 hx hby D4_34 rfl ?_
  refine o_iloadN X2 hx hby D4_35 rfl ?_
  refine kS X2 hx hZ hown hby (wd hw 22 rfl) (wd hw 23 rfl) (wd hw 24 rfl) (wd hw 25 rfl) (rs_c33 l Z a0 hw [] ca kc c0 c1 c2 cs vf h0 n0 (own_leN (by omega)) hST0 O0 Vc hc0 hc1 hc2) (by decide) (by decide) (by decide) (by decide) (by decide) (by rw [hml]; rfl) [(.ref ca), (.int (0 : Int32)), (.int (3 : Int32))] [] (lenOf pd__40_91CII_41_91B rfl) (W := 0) rfl rfl D4_36 rfl e2 ?_
  intro v3 T3 L3 X3 hQ3
  obtain ⟨r3, kr3, rfl, N3q, K3, ge3, hw3⟩ := hQ3
  have sz3 := own_leN K3.1
  have ge3' := own_leN ge3
  have N3 := Fr.app N0 N3q
  refine own_sh (A' := T3.setTop (mkF m 39 _ [(.ref r3)])) ?_
  rcases hw3 with ⟨hl0, hl1, hl2, Vr⟩ | Vr
  · have lt_r3 := own_ltN Vr.lt
    refine o_astore X3 hx hby D4_39 rfl (l' := #[.val (.ref a1), .val (.ref ca), .val (.int (0 : Int32)), .val (.int (3 : Int32)), .val .null, .val (.ref r3)]) rfl ?_
    refine o_aloadN X3 hx hby D4_41 rfl rfl ?_
    refine o_aload X3 hx hby D4_42 rfl rfl ?_
    refine o_iloadN X3 hx hby D4_44 rfl ?_
    refine kS X3 hx hZ hown hby (wd hw 30 rfl) (wd hw 31 rfl) (wd hw 24 rfl) (wd hw 32 rfl) (rs_cd3_3 l Z a0 hw [] r3 kr3 [(.int (own_l8 c0)), (.int (own_l8 c1)), (.int (own_l8 c2))] T3.heap n0 (own_leN (by omega)) Vr) (by decide) (by decide) (by decide) (by decide) (by decide) (by rw [hml]; rfl) [(.ref r3), (.int (3 : Int32))] [(.ref a1)] (lenOf pd__40_91BI_41B rfl) (W := 1) rfl rfl D4_45 rfl rfl ?_
    intro v4 T4 L4 X4 hQ4
    obtain ⟨rfl, N4q, e4⟩ := hQ4
    have N4 := Fr.app N3 N4q
    refine own_sh (A' := T4.setTop (mkF m 48 _ [(.int (0 : Int32)), (.ref a1)])) ?_
    have c6_F_a1_coder := (F_c.keep K3 nin0)
    have c7_E_a1 := (E_a1.keep K3)
    obtain ⟨T5, h5, X5, e5, W5, st5⟩ := putFN X4 hx hZ hown (wd hw 33 rfl) Via.refl e4 c6_F_a1_coder c7_E_a1 (Or.inr ⟨(wd hw 34 rfl), rfl, hnm⟩) (wd hw 9 rfl) (ty := .byte) (v' := (.int (0 : Int32))) (by decide) rfl rfl (g := (mkF m 48 #[.val (.ref a1), .val (.ref ca), .val (.int (0 : Int32)), .val (.int (3 : Int32)), .val .null, .val (.ref r3)] [(.int (0 : Int32)), (.ref a1)])) rfl rfl (hb hby D4_48.1)
    have Fw5 := c6_F_a1_coder.same W5
    have sz5 := own_leN (Keep.of_wr W5).1
    have N5 := Fr.snoc X5 N4 gn_a1
    refine own_pre (A' := T5.setTop (mkF m 51 #[.val (.ref a1), .val (.ref ca), .val (.int (0 : Int32)), .val (.int (3 : Int32)), .val .null, .val (.ref r3)] [])) st5 ?_
    refine o_aloadN X5 hx hby D4_51 rfl rfl ?_
    refine o_aload X5 hx hby D4_52 rfl rfl ?_
    have c9_F_a1_value := ((F_v.keep K3 nin0).other W5 (Or.inr (Jvm.RoadKit.slot_ne (Or.inr (wd hw 36 rfl)) (Or.inr (wd hw 34 rfl)) (by decide) (t := (.array .byte)) (t' := .byte) (by decide) (by decide))))
    have c10_E_a1 := (c7_E_a1.wr W5)
    obtain ⟨T8, h8, X8, e8, W8, st8⟩ := putF X5 hx hZ hown (host := "") (Or.inl (wd hw 35 rfl)) Via.refl e5 c9_F_a1_value c10_E_a1 (Or.inr ⟨(wd hw 36 rfl), rfl, hnm⟩) (wd hw 9 rfl) (ty := (.array .byte)) (by decide) rfl rfl (g := (mkF m 54 #[.val (.ref a1), .val (.ref ca), .val (.int (0 : Int32)), .val (.int (3 : Int32)), .val .null, .val (.ref r3)] [(.ref r3), (.ref a1)])) rfl rfl (hb hby D4_54.1)
    have Fw8 := c9_F_a1_value.same W8
    have sz8 := own_leN (Keep.of_wr W8).1
    have N8 := Fr.snoc X8 N5 gn_a1
    refine own_pre (A' := T8.setTop (mkF m 57 #[.val (.ref a1), .val (.ref ca), .val (.int (0 : Int32)), .val (.int (3 : Int32)), .val .null, .val (.ref r3)] [])) st8 ?_
    have c11_E_a1 := (c10_E_a1.wr W8)
    have c12_F_a1_coder := (Fw5.other W8 (Or.inr (Jvm.RoadKit.slot_ne (Or.inr (wd hw 34 rfl)) (Or.inr (wd hw 36 rfl)) (by decide) (t := .byte) (t' := (.array .byte)) (by decide) (by decide))))
    have c13_V_r3 := ((Vr.other W5 (by first | exact own_neN (by omega) | exact own_neN' (by omega) | assumption)).other W8 (by first | exact own_neN (by omega) | exact own_neN' (by omega) | assumption))
    have KK : Keep h0 h8 [a1] := ((((Keep.refl h0 [a1]).trans K3 all0).wr W5 (Or.inl (by simp))).wr W8 (Or.inl (by simp)))
    exact own_ret (v := none) X8 (fun h => by first | rfl | (rw [Bd.returns] at h; cases h)) (BodyLoose.notSynchronized Bd) (by decide) (by decide) (by rw [e8]; exact ⟨r3, kr3, rfl, N8, KK, own_leN (by omega), c11_E_a1, Fw8, Or.inl ⟨c12_F_a1_coder, hl0, hl1, hl2, c13_V_r3⟩⟩) (fun fs hr => X8.returnOut hx Bd.returns (hb hby D4_57.1) hr)
  · have lt_r3 := own_ltN Vr.lt
    refine o_astore X3 hx hby D4_39 rfl (l' := #[.val (.ref a1), .val (.ref ca), .val (.int (0 : Int32)), .val (.int (3 : Int32)), .val .null, .val (.ref r3)]) rfl ?_
    refine o_aloadN X3 hx hby D4_41 rfl rfl ?_
    refine o_aload X3 hx hby D4_42 rfl rfl ?_
    refine o_iloadN X3 hx hby D4_44 rfl ?_
    refine kS X3 hx hZ hown hby (wd hw 30 rfl) (wd hw 31 rfl) (wd hw 24 rfl) (wd hw 32 rfl) (rs_cd3_6 l Z a0 hw [] r3 kr3 [(.int (own_lo c0)), (.int (own_hi c0)), (.int (own_lo c1)), (.int (own_hi c1)), (.int (own_lo c2)), (.int (own_hi c2))] T3.heap n0 (own_leN (by omega)) Vr) (by decide) (by decide) (by decide) (by decide) (by decide) (by rw [hml]; rfl) [(.ref r3), (.int (3 : Int32))] [(.ref a1)] (lenOf pd__40_91BI_41B rfl) (W := 1) rfl rfl D4_45 rfl rfl ?_
    intro v14 T14 L14 X14 hQ14
    obtain ⟨rfl, N14q, e14⟩ := hQ14
    have N14 := Fr.app N3 N14q
    refine own_sh (A' := T14.setTop (mkF m 48 _ [(.int (1 : Int32)), (.ref a1)])) ?_
    have c16_F_a1_coder := (F_c.keep K3 nin0)
    have c17_E_a1 := (E_a1.keep K3)
    obtain ⟨T15, h15, X15, e15, W15, st15⟩ := putFN X14 hx hZ hown (wd hw 33 rfl) Via.refl e14 c16_F_a1_coder c17_E_a1 (Or.inr ⟨(wd hw 34 rfl), rfl, hnm⟩) (wd hw 9 rfl) (ty := .byte) (v' := (.int (1 : Int32))) (by decide) rfl rfl (g := (mkF m 48 #[.val (.ref a1), .val (.ref ca), .val (.int (0 : Int32)), .val (.int (3 : Int32)), .val .null, .val (.ref r3)] [(.int (1 : Int32)), (.ref a1)])) rfl rfl (hb hby D4_48.1)
    have Fw15 := c16_F_a1_coder.same W15
    have sz15 := own_leN (Keep.of_wr W15).1
    have N15 := Fr.snoc X15 N14 gn_a1
    refine own_pre (A' := T15.setTop (mkF m 51 #[.val (.ref a1), .val (.ref ca), .val (.int (0 : Int32)), .val (.int (3 : Int32)), .val .null, .val (.ref r3)] [])) st15 ?_
    refine o_aloadN X15 hx hby D4_51 rfl rfl ?_
    refine o_aload X15 hx hby D4_52 rfl rfl ?_
    have c19_F_a1_value := ((F_v.keep K3 nin0).other W15 (Or.inr (Jvm.RoadKit.slot_ne (Or.inr (wd hw 36 rfl)) (Or.inr (wd hw 34 rfl)) (by decide) (t := (.array .byte)) (t' := .byte) (by decide) (by decide))))
    have c20_E_a1 := (c17_E_a1.wr W15)
    obtain ⟨T18, h18, X18, e18, W18, st18⟩ := putF X15 hx hZ hown (host := "") (Or.inl (wd hw 35 rfl)) Via.refl e15 c19_F_a1_value c20_E_a1 (Or.inr ⟨(wd hw 36 rfl), rfl, hnm⟩) (wd hw 9 rfl) (ty := (.array .byte)) (by decide) rfl rfl (g := (mkF m 54 #[.val (.ref a1), .val (.ref ca), .val (.int (0 : Int32)), .val (.int (3 : Int32)), .val .null, .val (.ref r3)] [(.ref r3), (.ref a1)])) rfl rfl (hb hby D4_54.1)
    have Fw18 := c19_F_a1_value.same W18
    have sz18 := own_leN (Keep.of_wr W18).1
    have N18 := Fr.snoc X18 N15 gn_a1
    refine own_pre (A' := T18.setTop (mkF m 57 #[.val (.ref a1), .val (.ref ca), .val (.int (0 : Int32)), .val (.int (3 : Int32)), .val .null, .val (.ref r3)] [])) st18 ?_
    have c21_E_a1 := (c20_E_a1.wr W18)
    have c22_F_a1_coder := (Fw15.other W18 (Or.inr (Jvm.RoadKit.slot_ne (Or.inr (wd hw 34 rfl)) (Or.inr (wd hw 36 rfl)) (by decide) (t := .byte) (t' := (.array .byte)) (by decide) (by decide))))
    have c23_V_r3 := ((Vr.other W15 (by first | exact own_neN (by omega) | exact own_neN' (by omega) | assumption)).other W18 (by first | exact own_neN (by omega) | exact own_neN' (by omega) | assumption))
    have KK : Keep h0 h18 [a1] := ((((Keep.refl h0 [a1]).trans K3 all0).wr W15 (Or.inl (by simp))).wr W18 (Or.inl (by simp)))
    exact own_ret (v := none) X18 (fun h => by first | rfl | (rw [Bd.returns] at h; cases h)) (BodyLoose.notSynchronized Bd) (by decide) (by decide) (by rw [e18]; exact ⟨r3, kr3, rfl, N18, KK, own_leN (by omega), c21_E_a1, Fw18, Or.inr ⟨c22_F_a1_coder, c23_V_r3⟩⟩) (fun fs hr => X18.returnOut hx Bd.returns (hb hby D4_57.1) hr)
theorem ef_rs_i13 (m : MethodId) (a1 : Addr) (ca : Addr) : entryFrame m #[(.ref a1), (.ref ca)] 2 = mkF m 0 #[.val (.ref a1), .val (.ref ca)] [] := by first | (simp [entryFrame, mkF, argsToLocals, Value.category]; done) | rfl
set_option maxRecDepth 65536 in
set_option maxHeartbeats 40000000 in
theorem rs_i13 (l : Launch) (Z : State) (a0 : Array Value) (hw : ∀ d ∈ tables_1, d.before a0 Z = true) (ws : List Jvm.Cond) (a1 : Addr) (ca : Addr) (kc : ClassId) (c0 c1 c2 : Int32) (u0 u1 : Value) (cs : Int32) (vf : Value) (h0 : Heap) (n0 : Nat) (Z0 : n0 ≤ h0.size) (hST : own_ST Z cs vf) (O0 : Old Z n0 h0) (Vc : Arv Z h0 ca kc .char (3 : Int32) [(.int c0), (.int c1), (.int c2)] (.int (0 : Int32))) (hc0 : own_ch16 c0) (hc1 : own_ch16 c1) (hc2 : own_ch16 c2) (gn_a1 : n0 ≤ a1) (E_a1 : Exa Z h0 a1 "java/lang/String") (F_v : Fld Z h0 a1 "java/lang/String" "value" "[B" u0) (F_c : Fld Z h0 a1 "java/lang/String" "coder" "B" u1) :
    own_Mt l (⟨"java/lang/String", "<init>", "([C)V"⟩ : MethodName) jdk_42_method_3_code 2 none ({ frames := 5, cells := 2, slots := 9, locals := 74 } : Room) #[(.ref a1), (.ref ca)] Z h0 (own_QI3 Z a1 c0 c1 c2 h0 n0) := by
  refine MetFree.of_bodySF (plainFor_of_name pn_java_lang_String) hisR ?_
  intro p e s m args below meth c s₁ Bd hml0 hP hK
  obtain ⟨rfl, hZ, hh⟩ := hP
  have hx := Bd.exec
  have hby := Bd.bytes
  have hml : c.maxLocals = 2 := hml0
  have hown : s.vm.findClass "java/lang/String" = some m.cls := findClass_of_methodNamed Bd.named
  have hnm := (name_of_methodNamed Bd.named Bd.method).1
  have X0 : Stand p l e ({ frames := 5, cells := 2, slots := 9, locals := 74 } : Room) s m #[(.ref a1), (.ref ca)] below meth c s₁ [] 0 0 := Stand.of_body Bd
  have e0 : s₁.heap = h0 := by rw [← hh, Bd.state]; rfl
  have N0 := Fr.nil n0
  refine own_start (ef_rs_i13 m a1 ca) ?_
  have hST0 := hST
  refine o_aloadN X0 hx hby D3_0 rfl rfl ?_
  refine o_aloadN X0 hx hby D3_1 rfl rfl ?_
  refine o_iconst X0 hx hby D3_2 (v := 0) rfl ?_
  refine o_aloadN X0 hx hby D3_3 rfl rfl ?_
  obtain ⟨cl_ca_1, Ar_ca_1, q_ca_1, S_ca_1, N_ca_1, H_ca_1, G_ca_1⟩ := id Vc
  refine own_pre (A' := s₁.setTop (mkF m 5 #[.val (.ref a1), .val (.ref ca)] [(.int (3 : Int32)), (.int (0 : Int32)), (.ref ca), (.ref a1)])) (fun t k => X0.arraylength hx (by rw [e0]; exact Ar_ca_1.1) (State.isArrayOf_alike hZ.alike Ar_ca_1.2.1) (g := (mkF m 4 #[.val (.ref a1), .val (.ref ca)] [(.ref ca), (.int (0 : Int32)), (.ref ca), (.ref a1)])) rfl rfl (hb hby D3_4.1) _ (by rw [len_of S_ca_1 N_ca_1]; exact k)) ?_
  refine o_anull X0 hx hby D3_5 ?_
  refine kI X0 hx hZ hown hby (wd hw 14 rfl) (wd hw 15 rfl) (wd hw 10 rfl) (wd hw 17 rfl) rfl (rs_i43 l Z a0 hw [] a1 ca kc c0 c1 c2 u0 u1 cs vf h0 n0 Z0 hST0 O0 Vc hc0 hc1 hc2 gn_a1 E_a1 F_v F_c) (by decide) (by decide) (by decide) (by decide) (by decide) (by rw [hml]; rfl) [(.ref ca), (.int (0 : Int32)), (.int (3 : Int32)), .null] [] (lenOf pd__40_91CIILjava_47lang_47Void_59_41V rfl) (W := 0) rfl rfl D3_6 rfl e0 ?_
  intro v2 T2 L2 X2 hQ2
  obtain ⟨vb, kb, rfl, N2q, K2, ge2, Str2⟩ := hQ2
  have N2 := Fr.app N0 N2q
  refine own_sh (A' := T2.setTop (mkF m 9 _ [])) ?_
  exact own_ret (v := none) X2 (fun h => by first | rfl | (rw [Bd.returns] at h; cases h)) (BodyLoose.notSynchronized Bd) (by decide) (by decide) (⟨vb, kb, rfl, N2, K2, ge2, Str2⟩) (fun fs hr => X2.returnOut hx Bd.returns (hb hby D3_9.1) hr)

def own_lc (c : Int32) : Int32 := nar .char ((((own_l8 c) &&& (255 : Int32))).toUInt32.toUInt16.toUInt32.toInt32)
theorem own_lt8 {c : Int32} (h : own_ch16 c) (hl : ¬ ((255 : Int32) < c)) : c.toInt < 256 := by
  have k : (255 : Int32).toInt = 255 := rfl
  rw [Int32.lt_iff_toInt_lt, k] at hl; omega
theorem own_lcEq {c : Int32} (h : own_ch16 c) (hl : ¬ ((255 : Int32) < c)) : own_lc c = c := by
  have l := own_lt8 h hl
  have e1 : own_l8 c &&& (255 : Int32) = c &&& (255 : Int32) := own_byte c
  have e3 : (c &&& 255).toInt = c.toInt % 2 ^ 8 := Jvm.Kit.i32_mask c 255 (k := 8) (by decide) (by decide)
  have h0 := h.1
  have e4 : c &&& (255 : Int32) = c := by rw [← Int32.toInt_inj, e3]; omega
  rw [own_lc, e1, e4]
  show nar .char (nar .char c) = c
  rw [own_nc h, own_nc h]
def own_Str0 (Z : State) (h : Heap) (st vb : Addr) (kb : ClassId) : Prop := Exa Z h st "java/lang/String" ∧ Fld Z h st "java/lang/String" "value" "[B" (.ref vb) ∧ Fld Z h st "java/lang/String" "coder" "B" (.int 0) ∧ Arv Z h vb kb .byte (0 : Int32) [] (.int (0 : Int32))
theorem own_StrK0 {Z : State} {h h' : Heap} {st vb : Addr} {kb : ClassId} {ws : List Addr} (F : own_Str0 Z h st vb kb ) (K : Keep h h' ws) (hs : st ∉ ws) (hv : vb ∉ ws) : own_Str0 Z h' st vb kb  := by
  obtain ⟨E, F, G, V⟩ := F
  exact ⟨E.keep K, F.keep K hs, G.keep K hs, V.keep K hv⟩
theorem own_StrE0 {Z : State} {h h' : Heap} {st vb : Addr} {kb : ClassId} (F : own_Str0 Z h st vb kb ) (E : Ext h h') : own_Str0 Z h' st vb kb  := own_StrK0 F ((Keep.refl h []).ext E) (by simp) (by simp)
theorem own_StrL0 {Z : State} {h : Heap} {st vb : Addr} {kb : ClassId} (F : own_Str0 Z h st vb kb ) : st < h.size ∧ vb < h.size := by
  obtain ⟨E, F, G, V⟩ := F
  exact ⟨E.lt, V.lt⟩
theorem own_StrK1 {Z : State} {h h' : Heap} {st vb : Addr} {kb : ClassId} {c0 : Int32} {ws : List Addr} (F : own_Str1 Z h st vb kb c0) (K : Keep h h' ws) (hs : st ∉ ws) (hv : vb ∉ ws) : own_Str1 Z h' st vb kb c0 := by
  obtain ⟨E, F, ⟨G, l0, V⟩ | ⟨G, V⟩⟩ := F
  · exact ⟨E.keep K, F.keep K hs, Or.inl ⟨G.keep K hs, l0, V.keep K hv⟩⟩
  · exact ⟨E.keep K, F.keep K hs, Or.inr ⟨G.keep K hs, V.keep K hv⟩⟩
theorem own_StrE1 {Z : State} {h h' : Heap} {st vb : Addr} {kb : ClassId} {c0 : Int32} (F : own_Str1 Z h st vb kb c0) (E : Ext h h') : own_Str1 Z h' st vb kb c0 := own_StrK1 F ((Keep.refl h []).ext E) (by simp) (by simp)
theorem own_StrL1 {Z : State} {h : Heap} {st vb : Addr} {kb : ClassId} {c0 : Int32} (F : own_Str1 Z h st vb kb c0) : st < h.size ∧ vb < h.size := by
  obtain ⟨E, F, ⟨G, l0, V⟩ | ⟨G, V⟩⟩ := F
  · exact ⟨E.lt, V.lt⟩
  · exact ⟨E.lt, V.lt⟩
theorem own_StrK2 {Z : State} {h h' : Heap} {st vb : Addr} {kb : ClassId} {c0 c1 : Int32} {ws : List Addr} (F : own_Str2 Z h st vb kb c0 c1) (K : Keep h h' ws) (hs : st ∉ ws) (hv : vb ∉ ws) : own_Str2 Z h' st vb kb c0 c1 := by
  obtain ⟨E, F, ⟨G, l0, l1, V⟩ | ⟨G, V⟩⟩ := F
  · exact ⟨E.keep K, F.keep K hs, Or.inl ⟨G.keep K hs, l0, l1, V.keep K hv⟩⟩
  · exact ⟨E.keep K, F.keep K hs, Or.inr ⟨G.keep K hs, V.keep K hv⟩⟩
theorem own_StrE2 {Z : State} {h h' : Heap} {st vb : Addr} {kb : ClassId} {c0 c1 : Int32} (F : own_Str2 Z h st vb kb c0 c1) (E : Ext h h') : own_Str2 Z h' st vb kb c0 c1 := own_StrK2 F ((Keep.refl h []).ext E) (by simp) (by simp)
theorem own_StrL2 {Z : State} {h : Heap} {st vb : Addr} {kb : ClassId} {c0 c1 : Int32} (F : own_Str2 Z h st vb kb c0 c1) : st < h.size ∧ vb < h.size := by
  obtain ⟨E, F, ⟨G, l0, l1, V⟩ | ⟨G, V⟩⟩ := F
  · exact ⟨E.lt, V.lt⟩
  · exact ⟨E.lt, V.lt⟩
theorem own_StrK3 {Z : State} {h h' : Heap} {st vb : Addr} {kb : ClassId} {c0 c1 c2 : Int32} {ws : List Addr} (F : own_Str3 Z h st vb kb c0 c1 c2) (K : Keep h h' ws) (hs : st ∉ ws) (hv : vb ∉ ws) : own_Str3 Z h' st vb kb c0 c1 c2 := by
  obtain ⟨E, F, ⟨G, l0, l1, l2, V⟩ | ⟨G, V⟩⟩ := F
  · exact ⟨E.keep K, F.keep K hs, Or.inl ⟨G.keep K hs, l0, l1, l2, V.keep K hv⟩⟩
  · exact ⟨E.keep K, F.keep K hs, Or.inr ⟨G.keep K hs, V.keep K hv⟩⟩
theorem own_StrE3 {Z : State} {h h' : Heap} {st vb : Addr} {kb : ClassId} {c0 c1 c2 : Int32} (F : own_Str3 Z h st vb kb c0 c1 c2) (E : Ext h h') : own_Str3 Z h' st vb kb c0 c1 c2 := own_StrK3 F ((Keep.refl h []).ext E) (by simp) (by simp)
theorem own_StrL3 {Z : State} {h : Heap} {st vb : Addr} {kb : ClassId} {c0 c1 c2 : Int32} (F : own_Str3 Z h st vb kb c0 c1 c2) : st < h.size ∧ vb < h.size := by
  obtain ⟨E, F, ⟨G, l0, l1, l2, V⟩ | ⟨G, V⟩⟩ := F
  · exact ⟨E.lt, V.lt⟩
  · exact ⟨E.lt, V.lt⟩
theorem D14_0 : own_at jdk_42_method_154_code 0 (.getstatic 38) 3 3 := ⟨by decide +kernel, rfl⟩
theorem D14_3 : own_at jdk_42_method_154_code 3 (.ifCond .eq 14) 3 6 := ⟨by decide +kernel, rfl⟩
theorem D14_6 : own_at jdk_42_method_154_code 6 (.aload_n 0) 1 7 := ⟨by decide +kernel, rfl⟩
theorem D14_7 : own_at jdk_42_method_154_code 7 (.getfield 15) 3 10 := ⟨by decide +kernel, rfl⟩
theorem D14_10 : own_at jdk_42_method_154_code 10 (.ifCond .ne 7) 3 13 := ⟨by decide +kernel, rfl⟩
theorem D14_13 : own_at jdk_42_method_154_code 13 (.iconst 1) 1 14 := ⟨by decide +kernel, rfl⟩
theorem D14_14 : own_at jdk_42_method_154_code 14 (.goto 4) 3 17 := ⟨by decide +kernel, rfl⟩
theorem D14_18 : own_at jdk_42_method_154_code 18 (.ireturn) 1 19 := ⟨by decide +kernel, rfl⟩
theorem ef_rs_il0 (m : MethodId) (st : Addr) : entryFrame m #[(.ref st)] 1 = mkF m 0 #[.val (.ref st)] [] := by first | (simp [entryFrame, mkF, argsToLocals, Value.category]; done) | rfl
set_option maxRecDepth 65536 in
set_option maxHeartbeats 40000000 in
theorem rs_il0 (l : Launch) (Z : State) (a0 : Array Value) (hw : ∀ d ∈ tables_1, d.before a0 Z = true) (ws : List Jvm.Cond) (st : Addr) (cs : Int32) (vf : Value) (h0 : Heap) (n0 : Nat) (Z0 : n0 ≤ h0.size) (hST : own_ST Z cs vf) (O0 : Old Z n0 h0) (F_c : Fld Z h0 st "java/lang/String" "coder" "B" (.int (0 : Int32))) :
    own_Mt l (⟨"java/lang/String", "isLatin1", "()Z"⟩ : MethodName) jdk_42_method_154_code 1 (some .boolean) ({ frames := 0, cells := 0, slots := 0, locals := 0 } : Room) #[(.ref st)] Z h0 (own_QP (.int (1 : Int32)) h0 n0) := by
  refine MetFree.of_bodySF (plainFor_of_name pn_java_lang_String) hisR ?_
  intro p e s m args below meth c s₁ Bd hml0 hP hK
  obtain ⟨rfl, hZ, hh⟩ := hP
  have hx := Bd.exec
  have hby := Bd.bytes
  have hml : c.maxLocals = 1 := hml0
  have hown : s.vm.findClass "java/lang/String" = some m.cls := findClass_of_methodNamed Bd.named
  have hnm := (name_of_methodNamed Bd.named Bd.method).1
  have X0 : Stand p l e ({ frames := 0, cells := 0, slots := 0, locals := 0 } : Room) s m #[(.ref st)] below meth c s₁ [] 0 0 := Stand.of_body Bd
  have e0 : s₁.heap = h0 := by rw [← hh, Bd.state]; rfl
  have N0 := Fr.nil n0
  refine own_start (ef_rs_il0 m st) ?_
  obtain ⟨S_cs, S_ad, S_hb, S_lb, S_sf, hcs, hvf⟩ := hST
  obtain ⟨T1, X1, e1, st1⟩ := getS2 X0 hx hZ hown (host := "") (Or.inl (wd hw 21 rfl)) Via.refl e0 (S_cs.ext O0.2) (g := (mkF m 0 #[.val (.ref st)] [])) rfl (hb hby D14_0.1)
  refine own_pre (A' := T1.setTop (mkF m 3 #[.val (.ref st)] [(.int cs)])) st1 ?_
  refine o_ifN X1 hx hby D14_3 ((if0 _ _).trans (feq (hcs : ¬ (cs = (0 : Int32)))).1) ?_
  refine o_aloadN X1 hx hby D14_6 rfl rfl ?_
  obtain ⟨T2, X2, e2, st2⟩ := getF X1 hx hZ hown (host := "") (Or.inl (wd hw 33 rfl)) Via.refl e1 F_c (g := (mkF m 7 #[.val (.ref st)] [(.ref st)])) rfl rfl (hb hby D14_7.1)
  refine own_pre (A' := T2.setTop (mkF m 10 #[.val (.ref st)] [(.int (0 : Int32))])) st2 ?_
  refine o_ifN X2 hx hby D14_10 ((if0 _ _).trans (teq (by decide : (0 : Int32) = (0 : Int32))).2) ?_
  refine o_iconst X2 hx hby D14_13 (v := 1) rfl ?_
  refine o_goto X2 hx hby D14_14 (q := 18) (by decide) (by decide) ?_
  exact own_ret (v := some (.int (1 : Int32))) X2 (fun h => by first | rfl | (rw [Bd.returns] at h; cases h)) (BodyLoose.notSynchronized Bd) (by decide) (by decide) (⟨rfl, N0, e2⟩) (fun fs hr => retN X2 hx (t := .boolean) Bd.returns (by simp) (hb hby D14_18.1) hr)
theorem D12_0 : own_at jdk_42_method_152_code 0 (.getstatic 38) 3 3 := ⟨by decide +kernel, rfl⟩
theorem D12_3 : own_at jdk_42_method_152_code 3 (.ifCond .eq 10) 3 6 := ⟨by decide +kernel, rfl⟩
theorem D12_6 : own_at jdk_42_method_152_code 6 (.aload_n 0) 1 7 := ⟨by decide +kernel, rfl⟩
theorem D12_7 : own_at jdk_42_method_152_code 7 (.getfield 15) 3 10 := ⟨by decide +kernel, rfl⟩
theorem D12_10 : own_at jdk_42_method_152_code 10 (.goto 4) 3 13 := ⟨by decide +kernel, rfl⟩
theorem D12_14 : own_at jdk_42_method_152_code 14 (.ireturn) 1 15 := ⟨by decide +kernel, rfl⟩
theorem ef_rs_co0 (m : MethodId) (st : Addr) : entryFrame m #[(.ref st)] 1 = mkF m 0 #[.val (.ref st)] [] := by first | (simp [entryFrame, mkF, argsToLocals, Value.category]; done) | rfl
set_option maxRecDepth 65536 in
set_option maxHeartbeats 40000000 in
theorem rs_co0 (l : Launch) (Z : State) (a0 : Array Value) (hw : ∀ d ∈ tables_1, d.before a0 Z = true) (ws : List Jvm.Cond) (st : Addr) (cs : Int32) (vf : Value) (h0 : Heap) (n0 : Nat) (Z0 : n0 ≤ h0.size) (hST : own_ST Z cs vf) (O0 : Old Z n0 h0) (F_c : Fld Z h0 st "java/lang/String" "coder" "B" (.int (0 : Int32))) :
    own_Mt l (⟨"java/lang/String", "coder", "()B"⟩ : MethodName) jdk_42_method_152_code 1 (some .byte) ({ frames := 0, cells := 0, slots := 0, locals := 0 } : Room) #[(.ref st)] Z h0 (own_QP (.int (0 : Int32)) h0 n0) := by
  refine MetFree.of_bodySF (plainFor_of_name pn_java_lang_String) hisR ?_
  intro p e s m args below meth c s₁ Bd hml0 hP hK
  obtain ⟨rfl, hZ, hh⟩ := hP
  have hx := Bd.exec
  have hby := Bd.bytes
  have hml : c.maxLocals = 1 := hml0
  have hown : s.vm.findClass "java/lang/String" = some m.cls := findClass_of_methodNamed Bd.named
  have hnm := (name_of_methodNamed Bd.named Bd.method).1
  have X0 : Stand p l e ({ frames := 0, cells := 0, slots := 0, locals := 0 } : Room) s m #[(.ref st)] below meth c s₁ [] 0 0 := Stand.of_body Bd
  have e0 : s₁.heap = h0 := by rw [← hh, Bd.state]; rfl
  have N0 := Fr.nil n0
  refine own_start (ef_rs_co0 m st) ?_
  obtain ⟨S_cs, S_ad, S_hb, S_lb, S_sf, hcs, hvf⟩ := hST
  obtain ⟨T1, X1, e1, st1⟩ := getS2 X0 hx hZ hown (host := "") (Or.inl (wd hw 21 rfl)) Via.refl e0 (S_cs.ext O0.2) (g := (mkF m 0 #[.val (.ref st)] [])) rfl (hb hby D12_0.1)
  refine own_pre (A' := T1.setTop (mkF m 3 #[.val (.ref st)] [(.int cs)])) st1 ?_
  refine o_ifN X1 hx hby D12_3 ((if0 _ _).trans (feq (hcs : ¬ (cs = (0 : Int32)))).1) ?_
  refine o_aloadN X1 hx hby D12_6 rfl rfl ?_
  obtain ⟨T2, X2, e2, st2⟩ := getF X1 hx hZ hown (host := "") (Or.inl (wd hw 33 rfl)) Via.refl e1 F_c (g := (mkF m 7 #[.val (.ref st)] [(.ref st)])) rfl rfl (hb hby D12_7.1)
  refine own_pre (A' := T2.setTop (mkF m 10 #[.val (.ref st)] [(.int (0 : Int32))])) st2 ?_
  refine o_goto X2 hx hby D12_10 (q := 14) (by decide) (by decide) ?_
  exact own_ret (v := some (.int (0 : Int32))) X2 (fun h => by first | rfl | (rw [Bd.returns] at h; cases h)) (BodyLoose.notSynchronized Bd) (by decide) (by decide) (⟨rfl, N0, e2⟩) (fun fs hr => retN X2 hx (t := .byte) Bd.returns (by simp) (hb hby D12_14.1) hr)
theorem D14_17 : own_at jdk_42_method_154_code 17 (.iconst 0) 1 18 := ⟨by decide +kernel, rfl⟩
theorem ef_rs_il1 (m : MethodId) (st : Addr) : entryFrame m #[(.ref st)] 1 = mkF m 0 #[.val (.ref st)] [] := by first | (simp [entryFrame, mkF, argsToLocals, Value.category]; done) | rfl
set_option maxRecDepth 65536 in
set_option maxHeartbeats 40000000 in
theorem rs_il1 (l : Launch) (Z : State) (a0 : Array Value) (hw : ∀ d ∈ tables_1, d.before a0 Z = true) (ws : List Jvm.Cond) (st : Addr) (cs : Int32) (vf : Value) (h0 : Heap) (n0 : Nat) (Z0 : n0 ≤ h0.size) (hST : own_ST Z cs vf) (O0 : Old Z n0 h0) (F_c : Fld Z h0 st "java/lang/String" "coder" "B" (.int (1 : Int32))) :
    own_Mt l (⟨"java/lang/String", "isLatin1", "()Z"⟩ : MethodName) jdk_42_method_154_code 1 (some .boolean) ({ frames := 0, cells := 0, slots := 0, locals := 0 } : Room) #[(.ref st)] Z h0 (own_QP (.int (0 : Int32)) h0 n0) := by
  refine MetFree.of_bodySF (plainFor_of_name pn_java_lang_String) hisR ?_
  intro p e s m args below meth c s₁ Bd hml0 hP hK
  obtain ⟨rfl, hZ, hh⟩ := hP
  have hx := Bd.exec
  have hby := Bd.bytes
  have hml : c.maxLocals = 1 := hml0
  have hown : s.vm.findClass "java/lang/String" = some m.cls := findClass_of_methodNamed Bd.named
  have hnm := (name_of_methodNamed Bd.named Bd.method).1
  have X0 : Stand p l e ({ frames := 0, cells := 0, slots := 0, locals := 0 } : Room) s m #[(.ref st)] below meth c s₁ [] 0 0 := Stand.of_body Bd
  have e0 : s₁.heap = h0 := by rw [← hh, Bd.state]; rfl
  have N0 := Fr.nil n0
  refine own_start (ef_rs_il1 m st) ?_
  obtain ⟨S_cs, S_ad, S_hb, S_lb, S_sf, hcs, hvf⟩ := hST
  obtain ⟨T1, X1, e1, st1⟩ := getS2 X0 hx hZ hown (host := "") (Or.inl (wd hw 21 rfl)) Via.refl e0 (S_cs.ext O0.2) (g := (mkF m 0 #[.val (.ref st)] [])) rfl (hb hby D14_0.1)
  refine own_pre (A' := T1.setTop (mkF m 3 #[.val (.ref st)] [(.int cs)])) st1 ?_
  refine o_ifN X1 hx hby D14_3 ((if0 _ _).trans (feq (hcs : ¬ (cs = (0 : Int32)))).1) ?_
  refine o_aloadN X1 hx hby D14_6 rfl rfl ?_
  obtain ⟨T2, X2, e2, st2⟩ := getF X1 hx hZ hown (host := "") (Or.inl (wd hw 33 rfl)) Via.refl e1 F_c (g := (mkF m 7 #[.val (.ref st)] [(.ref st)])) rfl rfl (hb hby D14_7.1)
  refine own_pre (A' := T2.setTop (mkF m 10 #[.val (.ref st)] [(.int (1 : Int32))])) st2 ?_
  refine o_ifY X2 hx hby D14_10 ((if0 _ _).trans (feq (by decide : ¬ ((1 : Int32) = (0 : Int32)))).2) (q := 17) (by decide) (by decide) ?_
  refine o_iconst X2 hx hby D14_17 (v := 0) rfl ?_
  exact own_ret (v := some (.int (0 : Int32))) X2 (fun h => by first | rfl | (rw [Bd.returns] at h; cases h)) (BodyLoose.notSynchronized Bd) (by decide) (by decide) (⟨rfl, N0, e2⟩) (fun fs hr => retN X2 hx (t := .boolean) Bd.returns (by simp) (hb hby D14_18.1) hr)
theorem ef_rs_co1 (m : MethodId) (st : Addr) : entryFrame m #[(.ref st)] 1 = mkF m 0 #[.val (.ref st)] [] := by first | (simp [entryFrame, mkF, argsToLocals, Value.category]; done) | rfl
set_option maxRecDepth 65536 in
set_option maxHeartbeats 40000000 in
theorem rs_co1 (l : Launch) (Z : State) (a0 : Array Value) (hw : ∀ d ∈ tables_1, d.before a0 Z = true) (ws : List Jvm.Cond) (st : Addr) (cs : Int32) (vf : Value) (h0 : Heap) (n0 : Nat) (Z0 : n0 ≤ h0.size) (hST : own_ST Z cs vf) (O0 : Old Z n0 h0) (F_c : Fld Z h0 st "java/lang/String" "coder" "B" (.int (1 : Int32))) :
    own_Mt l (⟨"java/lang/String", "coder", "()B"⟩ : MethodName) jdk_42_method_152_code 1 (some .byte) ({ frames := 0, cells := 0, slots := 0, locals := 0 } : Room) #[(.ref st)] Z h0 (own_QP (.int (1 : Int32)) h0 n0) := by
  refine MetFree.of_bodySF (plainFor_of_name pn_java_lang_String) hisR ?_
  intro p e s m args below meth c s₁ Bd hml0 hP hK
  obtain ⟨rfl, hZ, hh⟩ := hP
  have hx := Bd.exec
  have hby := Bd.bytes
  have hml : c.maxLocals = 1 := hml0
  have hown : s.vm.findClass "java/lang/String" = some m.cls := findClass_of_methodNamed Bd.named
  have hnm := (name_of_methodNamed Bd.named Bd.method).1
  have X0 : Stand p l e ({ frames := 0, cells := 0, slots := 0, locals := 0 } : Room) s m #[(.ref st)] below meth c s₁ [] 0 0 := Stand.of_body Bd
  have e0 : s₁.heap = h0 := by rw [← hh, Bd.state]; rfl
  have N0 := Fr.nil n0
  refine own_start (ef_rs_co1 m st) ?_
  obtain ⟨S_cs, S_ad, S_hb, S_lb, S_sf, hcs, hvf⟩ := hST
  obtain ⟨T1, X1, e1, st1⟩ := getS2 X0 hx hZ hown (host := "") (Or.inl (wd hw 21 rfl)) Via.refl e0 (S_cs.ext O0.2) (g := (mkF m 0 #[.val (.ref st)] [])) rfl (hb hby D12_0.1)
  refine own_pre (A' := T1.setTop (mkF m 3 #[.val (.ref st)] [(.int cs)])) st1 ?_
  refine o_ifN X1 hx hby D12_3 ((if0 _ _).trans (feq (hcs : ¬ (cs = (0 : Int32)))).1) ?_
  refine o_aloadN X1 hx hby D12_6 rfl rfl ?_
  obtain ⟨T2, X2, e2, st2⟩ := getF X1 hx hZ hown (host := "") (Or.inl (wd hw 33 rfl)) Via.refl e1 F_c (g := (mkF m 7 #[.val (.ref st)] [(.ref st)])) rfl rfl (hb hby D12_7.1)
  refine own_pre (A' := T2.setTop (mkF m 10 #[.val (.ref st)] [(.int (1 : Int32))])) st2 ?_
  refine o_goto X2 hx hby D12_10 (q := 14) (by decide) (by decide) ?_
  exact own_ret (v := some (.int (1 : Int32))) X2 (fun h => by first | rfl | (rw [Bd.returns] at h; cases h)) (BodyLoose.notSynchronized Bd) (by decide) (by decide) (⟨rfl, N0, e2⟩) (fun fs hr => retN X2 hx (t := .byte) Bd.returns (by simp) (hb hby D12_14.1) hr)
theorem D17_0 : own_at jdk_41_method_11_code 0 (.iload_n 0) 1 1 := ⟨by decide +kernel, rfl⟩
theorem D17_1 : own_at jdk_41_method_11_code 1 (.ifCond .lt 8) 3 4 := ⟨by decide +kernel, rfl⟩
theorem D17_4 : own_at jdk_41_method_11_code 4 (.iload_n 0) 1 5 := ⟨by decide +kernel, rfl⟩
theorem D17_5 : own_at jdk_41_method_11_code 5 (.iload_n 1) 1 6 := ⟨by decide +kernel, rfl⟩
theorem D17_6 : own_at jdk_41_method_11_code 6 (.if_icmp .lt 10) 3 9 := ⟨by decide +kernel, rfl⟩
theorem D17_16 : own_at jdk_41_method_11_code 16 (.iload_n 0) 1 17 := ⟨by decide +kernel, rfl⟩
theorem D17_17 : own_at jdk_41_method_11_code 17 (.ireturn) 1 18 := ⟨by decide +kernel, rfl⟩
theorem pn_jdk_internal_util_Preconditions : plainName "jdk/internal/util/Preconditions" = true := by first | (simp [plainName, overriddenIn]; done) | decide +kernel
theorem ef_rs_pcn (m : MethodId) (p0 : Int32) (p1 : Int32) : entryFrame m #[(.int p0), (.int p1), .null] 3 = mkF m 0 #[.val (.int p0), .val (.int p1), .val .null] [] := by first | (simp [entryFrame, mkF, argsToLocals, Value.category]; done) | rfl
set_option maxRecDepth 65536 in
set_option maxHeartbeats 40000000 in
theorem rs_pcn (l : Launch) (Z : State) (a0 : Array Value) (hw : ∀ d ∈ tables_1, d.before a0 Z = true) (ws : List Jvm.Cond) (p0 : Int32) (p1 : Int32)  (h0 : Heap) (n0 : Nat) (Z0 : n0 ≤ h0.size) (h1 : ¬ (p0 < (0 : Int32))) (h2 : p0 < p1) :
    own_Mt l (⟨"jdk/internal/util/Preconditions", "checkIndex", "(IILjava/util/function/BiFunction;)I"⟩ : MethodName) jdk_41_method_11_code 3 (some .int) ({ frames := 0, cells := 0, slots := 0, locals := 0 } : Room) #[(.int p0), (.int p1), .null] Z h0 (own_QP (.int p0) h0 n0) := by
  refine MetFree.of_bodySF (plainFor_of_name pn_jdk_internal_util_Preconditions) hisR ?_
  intro p e s m args below meth c s₁ Bd hml0 hP hK
  obtain ⟨rfl, hZ, hh⟩ := hP
  have hx := Bd.exec
  have hby := Bd.bytes
  have hml : c.maxLocals = 3 := hml0
  have hown : s.vm.findClass "jdk/internal/util/Preconditions" = some m.cls := findClass_of_methodNamed Bd.named
  have hnm := (name_of_methodNamed Bd.named Bd.method).1
  have X0 : Stand p l e ({ frames := 0, cells := 0, slots := 0, locals := 0 } : Room) s m #[(.int p0), (.int p1), .null] below meth c s₁ [] 0 0 := Stand.of_body Bd
  have e0 : s₁.heap = h0 := by rw [← hh, Bd.state]; rfl
  have N0 := Fr.nil n0
  refine own_start (ef_rs_pcn m p0 p1) ?_
  refine o_iloadN X0 hx hby D17_0 rfl ?_
  refine o_ifN X0 hx hby D17_1 ((if0 _ _).trans (flt (h1 : ¬ (p0 < (0 : Int32)))).1) ?_
  refine o_iloadN X0 hx hby D17_4 rfl ?_
  refine o_iloadN X0 hx hby D17_5 rfl ?_
  refine o_icmpY X0 hx hby D17_6 (tlt (h2 : p0 < p1)).1 (q := 16) (by decide) (by decide) ?_
  refine o_iloadN X0 hx hby D17_16 rfl ?_
  exact own_ret (v := some (.int p0)) X0 (fun h => by first | rfl | (rw [Bd.returns] at h; cases h)) (BodyLoose.notSynchronized Bd) (by decide) (by decide) (⟨rfl, N0, e0⟩) (fun fs hr => retI X0 hx Bd.returns (hb hby D17_17.1) hr)
theorem ef_rs_pcr (m : MethodId) (p0 : Int32) (p1 : Int32) (fa : Addr) : entryFrame m #[(.int p0), (.int p1), (.ref fa)] 3 = mkF m 0 #[.val (.int p0), .val (.int p1), .val (.ref fa)] [] := by first | (simp [entryFrame, mkF, argsToLocals, Value.category]; done) | rfl
set_option maxRecDepth 65536 in
set_option maxHeartbeats 40000000 in
theorem rs_pcr (l : Launch) (Z : State) (a0 : Array Value) (hw : ∀ d ∈ tables_1, d.before a0 Z = true) (ws : List Jvm.Cond) (p0 : Int32) (p1 : Int32) (fa : Addr)  (h0 : Heap) (n0 : Nat) (Z0 : n0 ≤ h0.size) (h1 : ¬ (p0 < (0 : Int32))) (h2 : p0 < p1) :
    own_Mt l (⟨"jdk/internal/util/Preconditions", "checkIndex", "(IILjava/util/function/BiFunction;)I"⟩ : MethodName) jdk_41_method_11_code 3 (some .int) ({ frames := 0, cells := 0, slots := 0, locals := 0 } : Room) #[(.int p0), (.int p1), (.ref fa)] Z h0 (own_QP (.int p0) h0 n0) := by
  refine MetFree.of_bodySF (plainFor_of_name pn_jdk_internal_util_Preconditions) hisR ?_
  intro p e s m args below meth c s₁ Bd hml0 hP hK
  obtain ⟨rfl, hZ, hh⟩ := hP
  have hx := Bd.exec
  have hby := Bd.bytes
  have hml : c.maxLocals = 3 := hml0
  have hown : s.vm.findClass "jdk/internal/util/Preconditions" = some m.cls := findClass_of_methodNamed Bd.named
  have hnm := (name_of_methodNamed Bd.named Bd.method).1
  have X0 : Stand p l e ({ frames := 0, cells := 0, slots := 0, locals := 0 } : Room) s m #[(.int p0), (.int p1), (.ref fa)] below meth c s₁ [] 0 0 := Stand.of_body Bd
  have e0 : s₁.heap = h0 := by rw [← hh, Bd.state]; rfl
  have N0 := Fr.nil n0
  refine own_start (ef_rs_pcr m p0 p1 fa) ?_
  refine o_iloadN X0 hx hby D17_0 rfl ?_
  refine o_ifN X0 hx hby D17_1 ((if0 _ _).trans (flt (h1 : ¬ (p0 < (0 : Int32)))).1) ?_
  refine o_iloadN X0 hx hby D17_4 rfl ?_
  refine o_iloadN X0 hx hby D17_5 rfl ?_
  refine o_icmpY X0 hx hby D17_6 (tlt (h2 : p0 < p1)).1 (q := 16) (by decide) (by decide) ?_
  refine o_iloadN X0 hx hby D17_16 rfl ?_
  exact own_ret (v := some (.int p0)) X0 (fun h => by first | rfl | (rw [Bd.returns] at h; cases h)) (BodyLoose.notSynchronized Bd) (by decide) (by decide) (⟨rfl, N0, e0⟩) (fun fs hr => retI X0 hx Bd.returns (hb hby D17_17.1) hr)
theorem pd__40IILjava_47util_47function_47BiFunction_59_41I : parseMethodDescriptor "(IILjava/util/function/BiFunction;)I" = some ⟨[.int, .int, (.object "java/util/function/BiFunction")], some .int⟩ := by decide +kernel
theorem D16_0 : own_at jdk_42_method_155_code 0 (.iload_n 0) 1 1 := ⟨by decide +kernel, rfl⟩
theorem D16_1 : own_at jdk_42_method_155_code 1 (.iload_n 1) 1 2 := ⟨by decide +kernel, rfl⟩
theorem D16_2 : own_at jdk_42_method_155_code 2 (.getstatic 1053) 3 5 := ⟨by decide +kernel, rfl⟩
theorem D16_5 : own_at jdk_42_method_155_code 5 (.invokestatic 1059) 3 8 := ⟨by decide +kernel, rfl⟩
theorem D16_8 : own_at jdk_42_method_155_code 8 (.pop) 1 9 := ⟨by decide +kernel, rfl⟩
theorem D16_9 : own_at jdk_42_method_155_code 9 (.return_) 1 10 := ⟨by decide +kernel, rfl⟩
theorem ef_rs_ci (m : MethodId) (p0 : Int32) (p1 : Int32) : entryFrame m #[(.int p0), (.int p1)] 2 = mkF m 0 #[.val (.int p0), .val (.int p1)] [] := by first | (simp [entryFrame, mkF, argsToLocals, Value.category]; done) | rfl
set_option maxRecDepth 65536 in
set_option maxHeartbeats 40000000 in
theorem rs_ci (l : Launch) (Z : State) (a0 : Array Value) (hw : ∀ d ∈ tables_1, d.before a0 Z = true) (ws : List Jvm.Cond) (p0 : Int32) (p1 : Int32) (cs : Int32) (vf : Value) (h0 : Heap) (n0 : Nat) (Z0 : n0 ≤ h0.size) (hST : own_ST Z cs vf) (O0 : Old Z n0 h0) (h1 : ¬ (p0 < (0 : Int32))) (h2 : p0 < p1) :
    own_Mt l (⟨"java/lang/String", "checkIndex", "(II)V"⟩ : MethodName) jdk_42_method_155_code 2 none ({ frames := 1, cells := 0, slots := 0, locals := 14 } : Room) #[(.int p0), (.int p1)] Z h0 (own_QV h0 n0) := by
  refine MetFree.of_bodySF (plainFor_of_name pn_java_lang_String) hisR ?_
  intro p e s m args below meth c s₁ Bd hml0 hP hK
  obtain ⟨rfl, hZ, hh⟩ := hP
  have hx := Bd.exec
  have hby := Bd.bytes
  have hml : c.maxLocals = 2 := hml0
  have hown : s.vm.findClass "java/lang/String" = some m.cls := findClass_of_methodNamed Bd.named
  have hnm := (name_of_methodNamed Bd.named Bd.method).1
  have X0 : Stand p l e ({ frames := 1, cells := 0, slots := 0, locals := 14 } : Room) s m #[(.int p0), (.int p1)] below meth c s₁ [] 0 0 := Stand.of_body Bd
  have e0 : s₁.heap = h0 := by rw [← hh, Bd.state]; rfl
  have N0 := Fr.nil n0
  refine own_start (ef_rs_ci m p0 p1) ?_
  obtain ⟨S_cs, S_ad, S_hb, S_lb, S_sf, hcs, hvf⟩ := hST
  rcases ref_cases hvf with rfl | ⟨fa, rfl⟩
  · skip
    refine o_iloadN X0 hx hby D16_0 rfl ?_
    refine o_iloadN X0 hx hby D16_1 rfl ?_
    obtain ⟨T1, X1, e1, st1⟩ := getS2 X0 hx hZ hown (host := "") (Or.inl (wd hw 71 rfl)) Via.refl e0 (S_sf.ext O0.2) (g := (mkF m 2 #[.val (.int p0), .val (.int p1)] [(.int p1), (.int p0)])) rfl (hb hby D16_2.1)
    refine own_pre (A' := T1.setTop (mkF m 5 #[.val (.int p0), .val (.int p1)] [.null, (.int p1), (.int p0)])) st1 ?_
    refine kS X1 hx hZ hown hby (wd hw 73 rfl) (wd hw 74 rfl) (wd hw 72 rfl) (wd hw 75 rfl) (rs_pcn l Z a0 hw [] p0 p1 h0 n0 Z0 h1 h2) (by decide) (by decide) (by decide) (by decide) (by decide) (by rw [hml]; rfl) [(.int p0), (.int p1), .null] [] (lenOf pd__40IILjava_47util_47function_47BiFunction_59_41I rfl) (W := 0) rfl rfl D16_5 rfl e1 ?_
    intro v2 T2 L2 X2 hQ2
    obtain ⟨rfl, N2q, e2⟩ := hQ2
    have N2 := Fr.app N0 N2q
    refine own_sh (A' := T2.setTop (mkF m 8 _ [(.int p0)])) ?_
    refine o_pop X2 hx hby D16_8 rfl ?_
    exact own_ret (v := none) X2 (fun h => by first | rfl | (rw [Bd.returns] at h; cases h)) (BodyLoose.notSynchronized Bd) (by decide) (by decide) (⟨rfl, N2, e2⟩) (fun fs hr => X2.returnOut hx Bd.returns (hb hby D16_9.1) hr)
  · skip
    refine o_iloadN X0 hx hby D16_0 rfl ?_
    refine o_iloadN X0 hx hby D16_1 rfl ?_
    obtain ⟨T3, X3, e3, st3⟩ := getS2 X0 hx hZ hown (host := "") (Or.inl (wd hw 71 rfl)) Via.refl e0 (S_sf.ext O0.2) (g := (mkF m 2 #[.val (.int p0), .val (.int p1)] [(.int p1), (.int p0)])) rfl (hb hby D16_2.1)
    refine own_pre (A' := T3.setTop (mkF m 5 #[.val (.int p0), .val (.int p1)] [(.ref fa), (.int p1), (.int p0)])) st3 ?_
    refine kS X3 hx hZ hown hby (wd hw 73 rfl) (wd hw 74 rfl) (wd hw 72 rfl) (wd hw 75 rfl) (rs_pcr l Z a0 hw [] p0 p1 fa h0 n0 Z0 h1 h2) (by decide) (by decide) (by decide) (by decide) (by decide) (by rw [hml]; rfl) [(.int p0), (.int p1), (.ref fa)] [] (lenOf pd__40IILjava_47util_47function_47BiFunction_59_41I rfl) (W := 0) rfl rfl D16_5 rfl e3 ?_
    intro v4 T4 L4 X4 hQ4
    obtain ⟨rfl, N4q, e4⟩ := hQ4
    have N4 := Fr.app N0 N4q
    refine own_sh (A' := T4.setTop (mkF m 8 _ [(.int p0)])) ?_
    refine o_pop X4 hx hby D16_8 rfl ?_
    exact own_ret (v := none) X4 (fun h => by first | rfl | (rw [Bd.returns] at h; cases h)) (BodyLoose.notSynchronized Bd) (by decide) (by decide) (⟨rfl, N4, e4⟩) (fun fs hr => X4.returnOut hx Bd.returns (hb hby D16_9.1) hr)
theorem pd__40_41B : parseMethodDescriptor "()B" = some ⟨[], some .byte⟩ := by decide +kernel
theorem D11_0 : own_at jdk_42_method_54_code 0 (.aload_n 0) 1 1 := ⟨by decide +kernel, rfl⟩
theorem D11_1 : own_at jdk_42_method_54_code 1 (.getfield 9) 3 4 := ⟨by decide +kernel, rfl⟩
theorem D11_4 : own_at jdk_42_method_54_code 4 (.arraylength) 1 5 := ⟨by decide +kernel, rfl⟩
theorem D11_5 : own_at jdk_42_method_54_code 5 (.aload_n 0) 1 6 := ⟨by decide +kernel, rfl⟩
theorem D11_6 : own_at jdk_42_method_54_code 6 (.invokevirtual 335) 3 9 := ⟨by decide +kernel, rfl⟩
theorem D11_9 : own_at jdk_42_method_54_code 9 (.ishr) 1 10 := ⟨by decide +kernel, rfl⟩
theorem D11_10 : own_at jdk_42_method_54_code 10 (.ireturn) 1 11 := ⟨by decide +kernel, rfl⟩
theorem ef_rs_len0 (m : MethodId) (st : Addr) : entryFrame m #[(.ref st)] 1 = mkF m 0 #[.val (.ref st)] [] := by first | (simp [entryFrame, mkF, argsToLocals, Value.category]; done) | rfl
set_option maxRecDepth 65536 in
set_option maxHeartbeats 40000000 in
theorem rs_len0 (l : Launch) (Z : State) (a0 : Array Value) (hw : ∀ d ∈ tables_1, d.before a0 Z = true) (ws : List Jvm.Cond) (st : Addr) (vb : Addr) (kb : ClassId)  (cs : Int32) (vf : Value) (h0 : Heap) (n0 : Nat) (Z0 : n0 ≤ h0.size) (hST : own_ST Z cs vf) (O0 : Old Z n0 h0) (hS : own_Str0 Z h0 st vb kb ) :
    own_Mt l (⟨"java/lang/String", "length", "()I"⟩ : MethodName) jdk_42_method_54_code 1 (some .int) ({ frames := 1, cells := 0, slots := 0, locals := 13 } : Room) #[(.ref st)] Z h0 (own_QP (.int (0 : Int32)) h0 n0) := by
  refine MetFree.of_bodySF (plainFor_of_name pn_java_lang_String) hisR ?_
  intro p e s m args below meth c s₁ Bd hml0 hP hK
  obtain ⟨rfl, hZ, hh⟩ := hP
  have hx := Bd.exec
  have hby := Bd.bytes
  have hml : c.maxLocals = 1 := hml0
  have hown : s.vm.findClass "java/lang/String" = some m.cls := findClass_of_methodNamed Bd.named
  have hnm := (name_of_methodNamed Bd.named Bd.method).1
  have X0 : Stand p l e ({ frames := 1, cells := 0, slots := 0, locals := 13 } : Room) s m #[(.ref st)] below meth c s₁ [] 0 0 := Stand.of_body Bd
  have e0 : s₁.heap = h0 := by rw [← hh, Bd.state]; rfl
  have N0 := Fr.nil n0
  refine own_start (ef_rs_len0 m st) ?_
  have hST0 := hST
  obtain ⟨S_cs, S_ad, S_hb, S_lb, S_sf, hcs, hvf⟩ := hST
  obtain ⟨E_st, F_v, F_c, Vb⟩ := hS
  refine o_aloadN X0 hx hby D11_0 rfl rfl ?_
  obtain ⟨T1, X1, e1, st1⟩ := getF X0 hx hZ hown (host := "") (Or.inl (wd hw 35 rfl)) Via.refl e0 F_v (g := (mkF m 1 #[.val (.ref st)] [(.ref st)])) rfl rfl (hb hby D11_1.1)
  refine own_pre (A' := T1.setTop (mkF m 4 #[.val (.ref st)] [(.ref vb)])) st1 ?_
  obtain ⟨cl_vb_2, Ar_vb_2, q_vb_2, S_vb_2, N_vb_2, H_vb_2, G_vb_2⟩ := id Vb
  refine own_pre (A' := T1.setTop (mkF m 5 #[.val (.ref st)] [(.int (0 : Int32))])) (fun t k => X1.arraylength hx (by rw [e1]; exact Ar_vb_2.1) (State.isArrayOf_alike hZ.alike Ar_vb_2.2.1) (g := (mkF m 4 #[.val (.ref st)] [(.ref vb)])) rfl rfl (hb hby D11_4.1) _ (by rw [len_of S_vb_2 N_vb_2]; exact k)) ?_
  refine o_aloadN X1 hx hby D11_5 rfl rfl ?_
  refine kV X1 hx hZ hown hby (wd hw 49 rfl) (wd hw 50 rfl) (wd hw 52 rfl) (wd hw 51 rfl) (wd hw 10 rfl) (wd hw 53 rfl) (own_nf hZ (wd hw 52 rfl)) E_st (rs_co0 l Z a0 hw [] st cs vf h0 n0 Z0 hST0 O0 F_c) (by decide) (by decide) (by decide) (by decide) (by decide) (by rw [hml]; rfl) [] [(.int (0 : Int32))] (lenOf pd__40_41B rfl) (W := 1) rfl rfl D11_6 rfl e1 ?_
  intro v3 T3 L3 X3 hQ3
  obtain ⟨rfl, N3q, e3⟩ := hQ3
  have N3 := Fr.app N0 N3q
  refine own_sh (A' := T3.setTop (mkF m 9 _ [(.int (0 : Int32)), (.int (0 : Int32))])) ?_
  refine o_ishr X3 hx hby D11_9 ?_
  rw [(by decide : ((0 : Int32) >>> ((0 : Int32) &&& 31)) = (0 : Int32))]
  exact own_ret (v := some (.int (0 : Int32))) X3 (fun h => by first | rfl | (rw [Bd.returns] at h; cases h)) (BodyLoose.notSynchronized Bd) (by decide) (by decide) (⟨rfl, N3, e3⟩) (fun fs hr => retI X3 hx Bd.returns (hb hby D11_10.1) hr)
theorem ef_rs_len1 (m : MethodId) (st : Addr) : entryFrame m #[(.ref st)] 1 = mkF m 0 #[.val (.ref st)] [] := by first | (simp [entryFrame, mkF, argsToLocals, Value.category]; done) | rfl
set_option maxRecDepth 65536 in
set_option maxHeartbeats 40000000 in
theorem rs_len1 (l : Launch) (Z : State) (a0 : Array Value) (hw : ∀ d ∈ tables_1, d.before a0 Z = true) (ws : List Jvm.Cond) (st : Addr) (vb : Addr) (kb : ClassId) (c0 : Int32) (cs : Int32) (vf : Value) (h0 : Heap) (n0 : Nat) (Z0 : n0 ≤ h0.size) (hST : own_ST Z cs vf) (O0 : Old Z n0 h0) (hS : own_Str1 Z h0 st vb kb c0) :
    own_Mt l (⟨"java/lang/String", "length", "()I"⟩ : MethodName) jdk_42_method_54_code 1 (some .int) ({ frames := 1, cells := 0, slots := 0, locals := 13 } : Room) #[(.ref st)] Z h0 (own_QP (.int (1 : Int32)) h0 n0) := by
  refine MetFree.of_bodySF (plainFor_of_name pn_java_lang_String) hisR ?_
  intro p e s m args below meth c s₁ Bd hml0 hP hK
  obtain ⟨rfl, hZ, hh⟩ := hP
  have hx := Bd.exec
  have hby := Bd.bytes
  have hml : c.maxLocals = 1 := hml0
  have hown : s.vm.findClass "java/lang/String" = some m.cls := findClass_of_methodNamed Bd.named
  have hnm := (name_of_methodNamed Bd.named Bd.method).1
  have X0 : Stand p l e ({ frames := 1, cells := 0, slots := 0, locals := 13 } : Room) s m #[(.ref st)] below meth c s₁ [] 0 0 := Stand.of_body Bd
  have e0 : s₁.heap = h0 := by rw [← hh, Bd.state]; rfl
  have N0 := Fr.nil n0
  refine own_start (ef_rs_len1 m st) ?_
  have hST0 := hST
  obtain ⟨S_cs, S_ad, S_hb, S_lb, S_sf, hcs, hvf⟩ := hST
  obtain ⟨E_st, F_v, ⟨F_c, hl0, Vb⟩ | ⟨F_c, Vb⟩⟩ := hS
  · skip
    refine o_aloadN X0 hx hby D11_0 rfl rfl ?_
    obtain ⟨T1, X1, e1, st1⟩ := getF X0 hx hZ hown (host := "") (Or.inl (wd hw 35 rfl)) Via.refl e0 F_v (g := (mkF m 1 #[.val (.ref st)] [(.ref st)])) rfl rfl (hb hby D11_1.1)
    refine own_pre (A' := T1.setTop (mkF m 4 #[.val (.ref st)] [(.ref vb)])) st1 ?_
    obtain ⟨cl_vb_2, Ar_vb_2, q_vb_2, S_vb_2, N_vb_2, H_vb_2, G_vb_2⟩ := id Vb
    refine own_pre (A' := T1.setTop (mkF m 5 #[.val (.ref st)] [(.int (1 : Int32))])) (fun t k => X1.arraylength hx (by rw [e1]; exact Ar_vb_2.1) (State.isArrayOf_alike hZ.alike Ar_vb_2.2.1) (g := (mkF m 4 #[.val (.ref st)] [(.ref vb)])) rfl rfl (hb hby D11_4.1) _ (by rw [len_of S_vb_2 N_vb_2]; exact k)) ?_
    refine o_aloadN X1 hx hby D11_5 rfl rfl ?_
    refine kV X1 hx hZ hown hby (wd hw 49 rfl) (wd hw 50 rfl) (wd hw 52 rfl) (wd hw 51 rfl) (wd hw 10 rfl) (wd hw 53 rfl) (own_nf hZ (wd hw 52 rfl)) E_st (rs_co0 l Z a0 hw [] st cs vf h0 n0 Z0 hST0 O0 F_c) (by decide) (by decide) (by decide) (by decide) (by decide) (by rw [hml]; rfl) [] [(.int (1 : Int32))] (lenOf pd__40_41B rfl) (W := 1) rfl rfl D11_6 rfl e1 ?_
    intro v3 T3 L3 X3 hQ3
    obtain ⟨rfl, N3q, e3⟩ := hQ3
    have N3 := Fr.app N0 N3q
    refine own_sh (A' := T3.setTop (mkF m 9 _ [(.int (0 : Int32)), (.int (1 : Int32))])) ?_
    refine o_ishr X3 hx hby D11_9 ?_
    rw [(by decide : ((1 : Int32) >>> ((0 : Int32) &&& 31)) = (1 : Int32))]
    exact own_ret (v := some (.int (1 : Int32))) X3 (fun h => by first | rfl | (rw [Bd.returns] at h; cases h)) (BodyLoose.notSynchronized Bd) (by decide) (by decide) (⟨rfl, N3, e3⟩) (fun fs hr => retI X3 hx Bd.returns (hb hby D11_10.1) hr)
  · skip
    refine o_aloadN X0 hx hby D11_0 rfl rfl ?_
    obtain ⟨T4, X4, e4, st4⟩ := getF X0 hx hZ hown (host := "") (Or.inl (wd hw 35 rfl)) Via.refl e0 F_v (g := (mkF m 1 #[.val (.ref st)] [(.ref st)])) rfl rfl (hb hby D11_1.1)
    refine own_pre (A' := T4.setTop (mkF m 4 #[.val (.ref st)] [(.ref vb)])) st4 ?_
    obtain ⟨cl_vb_5, Ar_vb_5, q_vb_5, S_vb_5, N_vb_5, H_vb_5, G_vb_5⟩ := id Vb
    refine own_pre (A' := T4.setTop (mkF m 5 #[.val (.ref st)] [(.int (2 : Int32))])) (fun t k => X4.arraylength hx (by rw [e4]; exact Ar_vb_5.1) (State.isArrayOf_alike hZ.alike Ar_vb_5.2.1) (g := (mkF m 4 #[.val (.ref st)] [(.ref vb)])) rfl rfl (hb hby D11_4.1) _ (by rw [len_of S_vb_5 N_vb_5]; exact k)) ?_
    refine o_aloadN X4 hx hby D11_5 rfl rfl ?_
    refine kV X4 hx hZ hown hby (wd hw 49 rfl) (wd hw 50 rfl) (wd hw 52 rfl) (wd hw 51 rfl) (wd hw 10 rfl) (wd hw 53 rfl) (own_nf hZ (wd hw 52 rfl)) E_st (rs_co1 l Z a0 hw [] st cs vf h0 n0 Z0 hST0 O0 F_c) (by decide) (by decide) (by decide) (by decide) (by decide) (by rw [hml]; rfl) [] [(.int (2 : Int32))] (lenOf pd__40_41B rfl) (W := 1) rfl rfl D11_6 rfl e4 ?_
    intro v6 T6 L6 X6 hQ6
    obtain ⟨rfl, N6q, e6⟩ := hQ6
    have N6 := Fr.app N0 N6q
    refine own_sh (A' := T6.setTop (mkF m 9 _ [(.int (1 : Int32)), (.int (2 : Int32))])) ?_
    refine o_ishr X6 hx hby D11_9 ?_
    rw [(by decide : ((2 : Int32) >>> ((1 : Int32) &&& 31)) = (1 : Int32))]
    exact own_ret (v := some (.int (1 : Int32))) X6 (fun h => by first | rfl | (rw [Bd.returns] at h; cases h)) (BodyLoose.notSynchronized Bd) (by decide) (by decide) (⟨rfl, N6, e6⟩) (fun fs hr => retI X6 hx Bd.returns (hb hby D11_10.1) hr)
theorem pd__40II_41V : parseMethodDescriptor "(II)V" = some ⟨[.int, .int], none⟩ := by decide +kernel
theorem D15_0 : own_at jdk_43_method_2_code 0 (.iload_n 1) 1 1 := ⟨by decide +kernel, rfl⟩
theorem D15_1 : own_at jdk_43_method_2_code 1 (.aload_n 0) 1 2 := ⟨by decide +kernel, rfl⟩
theorem D15_2 : own_at jdk_43_method_2_code 2 (.arraylength) 1 3 := ⟨by decide +kernel, rfl⟩
theorem D15_3 : own_at jdk_43_method_2_code 3 (.invokestatic 9) 3 6 := ⟨by decide +kernel, rfl⟩
theorem D15_6 : own_at jdk_43_method_2_code 6 (.aload_n 0) 1 7 := ⟨by decide +kernel, rfl⟩
theorem D15_7 : own_at jdk_43_method_2_code 7 (.iload_n 1) 1 8 := ⟨by decide +kernel, rfl⟩
theorem D15_8 : own_at jdk_43_method_2_code 8 (.baload) 1 9 := ⟨by decide +kernel, rfl⟩
theorem D15_9 : own_at jdk_43_method_2_code 9 (.sipush 255) 3 12 := ⟨by decide +kernel, rfl⟩
theorem D15_12 : own_at jdk_43_method_2_code 12 (.iand) 1 13 := ⟨by decide +kernel, rfl⟩
theorem D15_13 : own_at jdk_43_method_2_code 13 (.i2c) 1 14 := ⟨by decide +kernel, rfl⟩
theorem D15_14 : own_at jdk_43_method_2_code 14 (.ireturn) 1 15 := ⟨by decide +kernel, rfl⟩
theorem pn_java_lang_StringLatin1 : plainName "java/lang/StringLatin1" = true := by first | (simp [plainName, overriddenIn]; done) | decide +kernel
theorem ef_rs_lca10 (m : MethodId) (vb : Addr) : entryFrame m #[(.ref vb), (.int (0 : Int32))] 2 = mkF m 0 #[.val (.ref vb), .val (.int (0 : Int32))] [] := by first | (simp [entryFrame, mkF, argsToLocals, Value.category]; done) | rfl
set_option maxRecDepth 65536 in
set_option maxHeartbeats 40000000 in
theorem rs_lca10 (l : Launch) (Z : State) (a0 : Array Value) (hw : ∀ d ∈ tables_1, d.before a0 Z = true) (ws : List Jvm.Cond) (vb : Addr) (kb : ClassId) (c0 : Int32) (cs : Int32) (vf : Value) (h0 : Heap) (n0 : Nat) (Z0 : n0 ≤ h0.size) (hST : own_ST Z cs vf) (O0 : Old Z n0 h0) (Vb : Arv Z h0 vb kb .byte (1 : Int32) [(.int (own_l8 c0))] (.int (0 : Int32))) (hc : own_ch16 c0) (hl : ¬ ((255 : Int32) < c0)) :
    own_Mt l (⟨"java/lang/StringLatin1", "charAt", "([BI)C"⟩ : MethodName) jdk_43_method_2_code 2 (some .char) ({ frames := 2, cells := 0, slots := 0, locals := 27 } : Room) #[(.ref vb), (.int (0 : Int32))] Z h0 (own_QP (.int c0) h0 n0) := by
  refine MetFree.of_bodySF (plainFor_of_name pn_java_lang_StringLatin1) hisR ?_
  intro p e s m args below meth c s₁ Bd hml0 hP hK
  obtain ⟨rfl, hZ, hh⟩ := hP
  have hx := Bd.exec
  have hby := Bd.bytes
  have hml : c.maxLocals = 2 := hml0
  have hown : s.vm.findClass "java/lang/StringLatin1" = some m.cls := findClass_of_methodNamed Bd.named
  have hnm := (name_of_methodNamed Bd.named Bd.method).1
  have X0 : Stand p l e ({ frames := 2, cells := 0, slots := 0, locals := 27 } : Room) s m #[(.ref vb), (.int (0 : Int32))] below meth c s₁ [] 0 0 := Stand.of_body Bd
  have e0 : s₁.heap = h0 := by rw [← hh, Bd.state]; rfl
  have N0 := Fr.nil n0
  refine own_start (ef_rs_lca10 m vb) ?_
  have hST0 := hST
  obtain ⟨S_cs, S_ad, S_hb, S_lb, S_sf, hcs, hvf⟩ := hST
  refine o_iloadN X0 hx hby D15_0 rfl ?_
  refine o_aloadN X0 hx hby D15_1 rfl rfl ?_
  obtain ⟨cl_vb_1, Ar_vb_1, q_vb_1, S_vb_1, N_vb_1, H_vb_1, G_vb_1⟩ := id Vb
  refine own_pre (A' := s₁.setTop (mkF m 3 #[.val (.ref vb), .val (.int (0 : Int32))] [(.int (1 : Int32)), (.int (0 : Int32))])) (fun t k => X0.arraylength hx (by rw [e0]; exact Ar_vb_1.1) (State.isArrayOf_alike hZ.alike Ar_vb_1.2.1) (g := (mkF m 2 #[.val (.ref vb), .val (.int (0 : Int32))] [(.ref vb), (.int (0 : Int32))])) rfl rfl (hb hby D15_2.1) _ (by rw [len_of S_vb_1 N_vb_1]; exact k)) ?_
  refine kS X0 hx hZ hown hby (wd hw 68 rfl) (wd hw 69 rfl) (wd hw 10 rfl) (wd hw 70 rfl) (rs_ci l Z a0 hw [] (0 : Int32) (1 : Int32) cs vf h0 n0 Z0 hST0 O0 (by decide) (by decide)) (by decide) (by decide) (by decide) (by decide) (by decide) (by rw [hml]; rfl) [(.int (0 : Int32)), (.int (1 : Int32))] [] (lenOf pd__40II_41V rfl) (W := 0) rfl rfl D15_3 rfl e0 ?_
  intro v2 T2 L2 X2 hQ2
  obtain ⟨rfl, N2q, e2⟩ := hQ2
  have N2 := Fr.app N0 N2q
  refine own_sh (A' := T2.setTop (mkF m 6 _ [])) ?_
  refine o_aloadN X2 hx hby D15_6 rfl rfl ?_
  refine o_iloadN X2 hx hby D15_7 rfl ?_
  obtain ⟨cl_vb_3, Ar_vb_3, q_vb_3, S_vb_3, N_vb_3, H_vb_3, G_vb_3⟩ := id Vb
  have hin_vb_3 : ¬ ((0 : Int32) < 0 ∨ cl_vb_3.slots.size ≤ ((0 : Int32)).toNatClampNeg) := inb_of S_vb_3 ⟨by decide, by decide⟩
  have hat_vb_3 : cl_vb_3.slots[((0 : Int32)).toNatClampNeg]? = some (.int (own_l8 c0)) := H_vb_3.at hin_vb_3 (rfl)
  refine own_pre (A' := T2.setTop (mkF m 9 #[.val (.ref vb), .val (.int (0 : Int32))] [(.int (own_l8 c0))])) (fun t k => X2.baloadBytes hx (j := (0 : Int32)) (v := (.int (own_l8 c0))) (by rw [e2]; exact Ar_vb_3.1) (State.isArrayOf_alike hZ.alike Ar_vb_3.2.1) Ar_vb_3.2.2 hin_vb_3 hat_vb_3 (g := (mkF m 8 #[.val (.ref vb), .val (.int (0 : Int32))] [(.int (0 : Int32)), (.ref vb)])) rfl rfl (hb hby D15_8.1) _ k) ?_
  refine o_sipush X2 hx hby D15_9 (v := 255) rfl ?_
  refine o_iand X2 hx hby D15_12 ?_
  refine o_i2c X2 hx hby D15_13 ?_
  exact own_ret (v := some (.int (own_lc c0))) X2 (fun h => by first | rfl | (rw [Bd.returns] at h; cases h)) (BodyLoose.notSynchronized Bd) (by decide) (by decide) (⟨by rw [own_lcEq hc hl], N2, e2⟩) (fun fs hr => retN X2 hx (t := .char) Bd.returns (by simp) (hb hby D15_14.1) hr)
theorem D26_0 : own_at jdk_52_method_6_code 0 (.aload_n 0) 1 1 := ⟨by decide +kernel, rfl⟩
theorem D26_1 : own_at jdk_52_method_6_code 1 (.arraylength) 1 2 := ⟨by decide +kernel, rfl⟩
theorem D26_2 : own_at jdk_52_method_6_code 2 (.iconst 1) 1 3 := ⟨by decide +kernel, rfl⟩
theorem D26_3 : own_at jdk_52_method_6_code 3 (.ishr) 1 4 := ⟨by decide +kernel, rfl⟩
theorem D26_4 : own_at jdk_52_method_6_code 4 (.ireturn) 1 5 := ⟨by decide +kernel, rfl⟩
theorem ef_rs_ul1 (m : MethodId) (vb : Addr) : entryFrame m #[(.ref vb)] 1 = mkF m 0 #[.val (.ref vb)] [] := by first | (simp [entryFrame, mkF, argsToLocals, Value.category]; done) | rfl
set_option maxRecDepth 65536 in
set_option maxHeartbeats 40000000 in
theorem rs_ul1 (l : Launch) (Z : State) (a0 : Array Value) (hw : ∀ d ∈ tables_1, d.before a0 Z = true) (ws : List Jvm.Cond) (vb : Addr) (kb : ClassId) (c0 : Int32) (h0 : Heap) (n0 : Nat) (Z0 : n0 ≤ h0.size) (Vb : Arv Z h0 vb kb .byte (2 : Int32) [(.int (own_lo c0)), (.int (own_hi c0))] (.int (0 : Int32))) :
    own_Mt l (⟨"java/lang/StringUTF16", "length", "([B)I"⟩ : MethodName) jdk_52_method_6_code 1 (some .int) ({ frames := 0, cells := 0, slots := 0, locals := 0 } : Room) #[(.ref vb)] Z h0 (own_QP (.int (1 : Int32)) h0 n0) := by
  refine MetFree.of_bodySF (plainFor_of_name pn_java_lang_StringUTF16) hisR ?_
  intro p e s m args below meth c s₁ Bd hml0 hP hK
  obtain ⟨rfl, hZ, hh⟩ := hP
  have hx := Bd.exec
  have hby := Bd.bytes
  have hml : c.maxLocals = 1 := hml0
  have hown : s.vm.findClass "java/lang/StringUTF16" = some m.cls := findClass_of_methodNamed Bd.named
  have hnm := (name_of_methodNamed Bd.named Bd.method).1
  have X0 : Stand p l e ({ frames := 0, cells := 0, slots := 0, locals := 0 } : Room) s m #[(.ref vb)] below meth c s₁ [] 0 0 := Stand.of_body Bd
  have e0 : s₁.heap = h0 := by rw [← hh, Bd.state]; rfl
  have N0 := Fr.nil n0
  refine own_start (ef_rs_ul1 m vb) ?_
  refine o_aloadN X0 hx hby D26_0 rfl rfl ?_
  obtain ⟨cl_vb_1, Ar_vb_1, q_vb_1, S_vb_1, N_vb_1, H_vb_1, G_vb_1⟩ := id Vb
  refine own_pre (A' := s₁.setTop (mkF m 2 #[.val (.ref vb)] [(.int (2 : Int32))])) (fun t k => X0.arraylength hx (by rw [e0]; exact Ar_vb_1.1) (State.isArrayOf_alike hZ.alike Ar_vb_1.2.1) (g := (mkF m 1 #[.val (.ref vb)] [(.ref vb)])) rfl rfl (hb hby D26_1.1) _ (by rw [len_of S_vb_1 N_vb_1]; exact k)) ?_
  refine o_iconst X0 hx hby D26_2 (v := 1) rfl ?_
  refine o_ishr X0 hx hby D26_3 ?_
  rw [(by decide : ((2 : Int32) >>> ((1 : Int32) &&& 31)) = (1 : Int32))]
  exact own_ret (v := some (.int (1 : Int32))) X0 (fun h => by first | rfl | (rw [Bd.returns] at h; cases h)) (BodyLoose.notSynchronized Bd) (by decide) (by decide) (⟨rfl, N0, e0⟩) (fun fs hr => retI X0 hx Bd.returns (hb hby D26_4.1) hr)
theorem pd__40_91B_41I : parseMethodDescriptor "([B)I" = some ⟨[(.array .byte)], some .int⟩ := by decide +kernel
theorem D25_0 : own_at jdk_52_method_91_code 0 (.iload_n 0) 1 1 := ⟨by decide +kernel, rfl⟩
theorem D25_1 : own_at jdk_52_method_91_code 1 (.aload_n 1) 1 2 := ⟨by decide +kernel, rfl⟩
theorem D25_2 : own_at jdk_52_method_91_code 2 (.invokestatic 48) 3 5 := ⟨by decide +kernel, rfl⟩
theorem D25_5 : own_at jdk_52_method_91_code 5 (.invokestatic 414) 3 8 := ⟨by decide +kernel, rfl⟩
theorem D25_8 : own_at jdk_52_method_91_code 8 (.return_) 1 9 := ⟨by decide +kernel, rfl⟩
theorem ef_rs_uci1 (m : MethodId) (p0 : Int32) (vb : Addr) : entryFrame m #[(.int p0), (.ref vb)] 2 = mkF m 0 #[.val (.int p0), .val (.ref vb)] [] := by first | (simp [entryFrame, mkF, argsToLocals, Value.category]; done) | rfl
set_option maxRecDepth 65536 in
set_option maxHeartbeats 40000000 in
theorem rs_uci1 (l : Launch) (Z : State) (a0 : Array Value) (hw : ∀ d ∈ tables_1, d.before a0 Z = true) (ws : List Jvm.Cond) (p0 : Int32) (vb : Addr) (kb : ClassId) (c0 : Int32) (cs : Int32) (vf : Value) (h0 : Heap) (n0 : Nat) (Z0 : n0 ≤ h0.size) (hST : own_ST Z cs vf) (O0 : Old Z n0 h0) (Vb : Arv Z h0 vb kb .byte (2 : Int32) [(.int (own_lo c0)), (.int (own_hi c0))] (.int (0 : Int32))) (h1 : ¬ (p0 < (0 : Int32))) (h2 : p0 < (1 : Int32)) :
    own_Mt l (⟨"java/lang/StringUTF16", "checkIndex", "(I[B)V"⟩ : MethodName) jdk_52_method_91_code 2 none ({ frames := 2, cells := 0, slots := 0, locals := 27 } : Room) #[(.int p0), (.ref vb)] Z h0 (own_QV h0 n0) := by
  refine MetFree.of_bodySF (plainFor_of_name pn_java_lang_StringUTF16) hisR ?_
  intro p e s m args below meth c s₁ Bd hml0 hP hK
  obtain ⟨rfl, hZ, hh⟩ := hP
  have hx := Bd.exec
  have hby := Bd.bytes
  have hml : c.maxLocals = 2 := hml0
  have hown : s.vm.findClass "java/lang/StringUTF16" = some m.cls := findClass_of_methodNamed Bd.named
  have hnm := (name_of_methodNamed Bd.named Bd.method).1
  have X0 : Stand p l e ({ frames := 2, cells := 0, slots := 0, locals := 27 } : Room) s m #[(.int p0), (.ref vb)] below meth c s₁ [] 0 0 := Stand.of_body Bd
  have e0 : s₁.heap = h0 := by rw [← hh, Bd.state]; rfl
  have N0 := Fr.nil n0
  refine own_start (ef_rs_uci1 m p0 vb) ?_
  have hST0 := hST
  obtain ⟨S_cs, S_ad, S_hb, S_lb, S_sf, hcs, hvf⟩ := hST
  refine o_iloadN X0 hx hby D25_0 rfl ?_
  refine o_aloadN X0 hx hby D25_1 rfl rfl ?_
  refine kS X0 hx hZ hown hby (wd hw 108 rfl) (wd hw 109 rfl) (wd hw 24 rfl) (wd hw 110 rfl) (rs_ul1 l Z a0 hw [] vb kb c0 h0 n0 Z0 Vb) (by decide) (by decide) (by decide) (by decide) (by decide) (by rw [hml]; rfl) [(.ref vb)] [(.int p0)] (lenOf pd__40_91B_41I rfl) (W := 1) rfl rfl D25_2 rfl e0 ?_
  intro v1 T1 L1 X1 hQ1
  obtain ⟨rfl, N1q, e1⟩ := hQ1
  have N1 := Fr.app N0 N1q
  refine own_sh (A' := T1.setTop (mkF m 5 _ [(.int (1 : Int32)), (.int p0)])) ?_
  refine kS X1 hx hZ hown hby (wd hw 111 rfl) (wd hw 69 rfl) (wd hw 10 rfl) (wd hw 70 rfl) (rs_ci l Z a0 hw [] p0 (1 : Int32) cs vf h0 n0 Z0 hST0 O0 h1 h2) (by decide) (by decide) (by decide) (by decide) (by decide) (by rw [hml]; rfl) [(.int p0), (.int (1 : Int32))] [] (lenOf pd__40II_41V rfl) (W := 0) rfl rfl D25_5 rfl e1 ?_
  intro v2 T2 L2 X2 hQ2
  obtain ⟨rfl, N2q, e2⟩ := hQ2
  have N2 := Fr.app N1 N2q
  refine own_sh (A' := T2.setTop (mkF m 8 _ [])) ?_
  exact own_ret (v := none) X2 (fun h => by first | rfl | (rw [Bd.returns] at h; cases h)) (BodyLoose.notSynchronized Bd) (by decide) (by decide) (⟨rfl, N2, e2⟩) (fun fs hr => X2.returnOut hx Bd.returns (hb hby D25_8.1) hr)
theorem pd__40I_91B_41V : parseMethodDescriptor "(I[B)V" = some ⟨[.int, (.array .byte)], none⟩ := by decide +kernel
theorem D24_0 : own_at jdk_52_method_83_code 0 (.iload_n 1) 1 1 := ⟨by decide +kernel, rfl⟩
theorem D24_1 : own_at jdk_52_method_83_code 1 (.aload_n 0) 1 2 := ⟨by decide +kernel, rfl⟩
theorem D24_2 : own_at jdk_52_method_83_code 2 (.invokestatic 67) 3 5 := ⟨by decide +kernel, rfl⟩
theorem D24_5 : own_at jdk_52_method_83_code 5 (.aload_n 0) 1 6 := ⟨by decide +kernel, rfl⟩
theorem D24_6 : own_at jdk_52_method_83_code 6 (.iload_n 1) 1 7 := ⟨by decide +kernel, rfl⟩
theorem D24_7 : own_at jdk_52_method_83_code 7 (.invokestatic 71) 3 10 := ⟨by decide +kernel, rfl⟩
theorem D24_10 : own_at jdk_52_method_83_code 10 (.ireturn) 1 11 := ⟨by decide +kernel, rfl⟩
theorem ef_rs_uca10 (m : MethodId) (vb : Addr) : entryFrame m #[(.ref vb), (.int (0 : Int32))] 2 = mkF m 0 #[.val (.ref vb), .val (.int (0 : Int32))] [] := by first | (simp [entryFrame, mkF, argsToLocals, Value.category]; done) | rfl
set_option maxRecDepth 65536 in
set_option maxHeartbeats 40000000 in
theorem rs_uca10 (l : Launch) (Z : State) (a0 : Array Value) (hw : ∀ d ∈ tables_1, d.before a0 Z = true) (ws : List Jvm.Cond) (vb : Addr) (kb : ClassId) (c0 : Int32) (cs : Int32) (vf : Value) (h0 : Heap) (n0 : Nat) (Z0 : n0 ≤ h0.size) (hST : own_ST Z cs vf) (O0 : Old Z n0 h0) (Vb : Arv Z h0 vb kb .byte (2 : Int32) [(.int (own_lo c0)), (.int (own_hi c0))] (.int (0 : Int32))) (hc : own_ch16 c0) :
    own_Mt l (⟨"java/lang/StringUTF16", "charAt", "([BI)C"⟩ : MethodName) jdk_52_method_83_code 2 (some .char) ({ frames := 3, cells := 0, slots := 0, locals := 40 } : Room) #[(.ref vb), (.int (0 : Int32))] Z h0 (own_QP (.int c0) h0 n0) := by
  refine MetFree.of_bodySF (plainFor_of_name pn_java_lang_StringUTF16) hisR ?_
  intro p e s m args below meth c s₁ Bd hml0 hP hK
  obtain ⟨rfl, hZ, hh⟩ := hP
  have hx := Bd.exec
  have hby := Bd.bytes
  have hml : c.maxLocals = 2 := hml0
  have hown : s.vm.findClass "java/lang/StringUTF16" = some m.cls := findClass_of_methodNamed Bd.named
  have hnm := (name_of_methodNamed Bd.named Bd.method).1
  have X0 : Stand p l e ({ frames := 3, cells := 0, slots := 0, locals := 40 } : Room) s m #[(.ref vb), (.int (0 : Int32))] below meth c s₁ [] 0 0 := Stand.of_body Bd
  have e0 : s₁.heap = h0 := by rw [← hh, Bd.state]; rfl
  have N0 := Fr.nil n0
  refine own_start (ef_rs_uca10 m vb) ?_
  have hST0 := hST
  obtain ⟨S_cs, S_ad, S_hb, S_lb, S_sf, hcs, hvf⟩ := hST
  refine o_iloadN X0 hx hby D24_0 rfl ?_
  refine o_aloadN X0 hx hby D24_1 rfl rfl ?_
  refine kS X0 hx hZ hown hby (wd hw 105 rfl) (wd hw 106 rfl) (wd hw 24 rfl) (wd hw 107 rfl) (rs_uci1 l Z a0 hw [] (0 : Int32) vb kb c0 cs vf h0 n0 Z0 hST0 O0 Vb (by decide) (by decide)) (by decide) (by decide) (by decide) (by decide) (by decide) (by rw [hml]; rfl) [(.int (0 : Int32)), (.ref vb)] [] (lenOf pd__40I_91B_41V rfl) (W := 0) rfl rfl D24_2 rfl e0 ?_
  intro v1 T1 L1 X1 hQ1
  obtain ⟨rfl, N1q, e1⟩ := hQ1
  have N1 := Fr.app N0 N1q
  refine own_sh (A' := T1.setTop (mkF m 5 _ [])) ?_
  refine o_aloadN X1 hx hby D24_5 rfl rfl ?_
  refine o_iloadN X1 hx hby D24_6 rfl ?_
  refine kS X1 hx hZ hown hby (wd hw 99 rfl) (wd hw 100 rfl) (wd hw 24 rfl) (wd hw 101 rfl) (rs_gc10 l Z a0 hw [] vb kb c0 cs vf h0 n0 Z0 hST0 O0 Vb hc) (by decide) (by decide) (by decide) (by decide) (by decide) (by rw [hml]; rfl) [(.ref vb), (.int (0 : Int32))] [] (lenOf pd__40_91BI_41C rfl) (W := 0) rfl rfl D24_7 rfl e1 ?_
  intro v2 T2 L2 X2 hQ2
  obtain ⟨rfl, N2q, e2⟩ := hQ2
  have N2 := Fr.app N1 N2q
  refine own_sh (A' := T2.setTop (mkF m 10 _ [(.int c0)])) ?_
  exact own_ret (v := some (.int (nar .char c0))) X2 (fun h => by first | rfl | (rw [Bd.returns] at h; cases h)) (BodyLoose.notSynchronized Bd) (by decide) (by decide) (⟨by rw [own_nc hc], N2, e2⟩) (fun fs hr => retN X2 hx (t := .char) Bd.returns (by simp) (hb hby D24_10.1) hr)
theorem pd__40_41Z : parseMethodDescriptor "()Z" = some ⟨[], some .boolean⟩ := by decide +kernel
theorem D13_0 : own_at jdk_42_method_56_code 0 (.aload_n 0) 1 1 := ⟨by decide +kernel, rfl⟩
theorem D13_1 : own_at jdk_42_method_56_code 1 (.invokevirtual 492) 3 4 := ⟨by decide +kernel, rfl⟩
theorem D13_4 : own_at jdk_42_method_56_code 4 (.ifCond .eq 12) 3 7 := ⟨by decide +kernel, rfl⟩
theorem D13_7 : own_at jdk_42_method_56_code 7 (.aload_n 0) 1 8 := ⟨by decide +kernel, rfl⟩
theorem D13_8 : own_at jdk_42_method_56_code 8 (.getfield 9) 3 11 := ⟨by decide +kernel, rfl⟩
theorem D13_11 : own_at jdk_42_method_56_code 11 (.iload_n 1) 1 12 := ⟨by decide +kernel, rfl⟩
theorem D13_12 : own_at jdk_42_method_56_code 12 (.invokestatic 495) 3 15 := ⟨by decide +kernel, rfl⟩
theorem D13_15 : own_at jdk_42_method_56_code 15 (.ireturn) 1 16 := ⟨by decide +kernel, rfl⟩
theorem D13_16 : own_at jdk_42_method_56_code 16 (.aload_n 0) 1 17 := ⟨by decide +kernel, rfl⟩
theorem D13_17 : own_at jdk_42_method_56_code 17 (.getfield 9) 3 20 := ⟨by decide +kernel, rfl⟩
theorem D13_20 : own_at jdk_42_method_56_code 20 (.iload_n 1) 1 21 := ⟨by decide +kernel, rfl⟩
theorem D13_21 : own_at jdk_42_method_56_code 21 (.invokestatic 498) 3 24 := ⟨by decide +kernel, rfl⟩
theorem D13_24 : own_at jdk_42_method_56_code 24 (.ireturn) 1 25 := ⟨by decide +kernel, rfl⟩
theorem ef_rs_ca10 (m : MethodId) (st : Addr) : entryFrame m #[(.ref st), (.int (0 : Int32))] 2 = mkF m 0 #[.val (.ref st), .val (.int (0 : Int32))] [] := by first | (simp [entryFrame, mkF, argsToLocals, Value.category]; done) | rfl
set_option maxRecDepth 65536 in
set_option maxHeartbeats 40000000 in
theorem rs_ca10 (l : Launch) (Z : State) (a0 : Array Value) (hw : ∀ d ∈ tables_1, d.before a0 Z = true) (ws : List Jvm.Cond) (st : Addr) (vb : Addr) (kb : ClassId) (c0 : Int32) (cs : Int32) (vf : Value) (h0 : Heap) (n0 : Nat) (Z0 : n0 ≤ h0.size) (hST : own_ST Z cs vf) (O0 : Old Z n0 h0) (hS : own_Str1 Z h0 st vb kb c0) (hc0 : own_ch16 c0) :
    own_Mt l (⟨"java/lang/String", "charAt", "(I)C"⟩ : MethodName) jdk_42_method_56_code 2 (some .char) ({ frames := 4, cells := 0, slots := 0, locals := 53 } : Room) #[(.ref st), (.int (0 : Int32))] Z h0 (own_QP (.int c0) h0 n0) := by
  refine MetFree.of_bodySF (plainFor_of_name pn_java_lang_String) hisR ?_
  intro p e s m args below meth c s₁ Bd hml0 hP hK
  obtain ⟨rfl, hZ, hh⟩ := hP
  have hx := Bd.exec
  have hby := Bd.bytes
  have hml : c.maxLocals = 2 := hml0
  have hown : s.vm.findClass "java/lang/String" = some m.cls := findClass_of_methodNamed Bd.named
  have hnm := (name_of_methodNamed Bd.named Bd.method).1
  have X0 : Stand p l e ({ frames := 4, cells := 0, slots := 0, locals := 53 } : Room) s m #[(.ref st), (.int (0 : Int32))] below meth c s₁ [] 0 0 := Stand.of_body Bd
  have e0 : s₁.heap = h0 := by rw [← hh, Bd.state]; rfl
  have N0 := Fr.nil n0
  refine own_start (ef_rs_ca10 m st) ?_
  have hST0 := hST
  obtain ⟨S_cs, S_ad, S_hb, S_lb, S_sf, hcs, hvf⟩ := hST
  obtain ⟨E_st, F_v, ⟨F_c, hl0, Vb⟩ | ⟨F_c, Vb⟩⟩ := hS
  · skip
    refine o_aloadN X0 hx hby D13_0 rfl rfl ?_
    refine kV X0 hx hZ hown hby (wd hw 59 rfl) (wd hw 60 rfl) (wd hw 62 rfl) (wd hw 61 rfl) (wd hw 10 rfl) (wd hw 63 rfl) (own_nf hZ (wd hw 62 rfl)) E_st (rs_il0 l Z a0 hw [] st cs vf h0 n0 Z0 hST0 O0 F_c) (by decide) (by decide) (by decide) (by decide) (by decide) (by rw [hml]; rfl) [] [] (lenOf pd__40_41Z rfl) (W := 0) rfl rfl D13_1 rfl e0 ?_
    intro v1 T1 L1 X1 hQ1
    obtain ⟨rfl, N1q, e1⟩ := hQ1
    have N1 := Fr.app N0 N1q
    refine own_sh (A' := T1.setTop (mkF m 4 _ [(.int (1 : Int32))])) ?_
    refine o_ifN X1 hx hby D13_4 ((if0 _ _).trans (feq (by decide : ¬ ((1 : Int32) = (0 : Int32)))).1) ?_
    refine o_aloadN X1 hx hby D13_7 rfl rfl ?_
    obtain ⟨T2, X2, e2, st2⟩ := getF X1 hx hZ hown (host := "") (Or.inl (wd hw 35 rfl)) Via.refl e1 F_v (g := (mkF m 8 #[.val (.ref st), .val (.int (0 : Int32))] [(.ref st)])) rfl rfl (hb hby D13_8.1)
    refine own_pre (A' := T2.setTop (mkF m 11 #[.val (.ref st), .val (.int (0 : Int32))] [(.ref vb)])) st2 ?_
    refine o_iloadN X2 hx hby D13_11 rfl ?_
    refine kS X2 hx hZ hown hby (wd hw 64 rfl) (wd hw 65 rfl) (wd hw 66 rfl) (wd hw 67 rfl) (rs_lca10 l Z a0 hw [] vb kb c0 cs vf h0 n0 Z0 hST0 O0 Vb hc0 hl0) (by decide) (by decide) (by decide) (by decide) (by decide) (by rw [hml]; rfl) [(.ref vb), (.int (0 : Int32))] [] (lenOf pd__40_91BI_41C rfl) (W := 0) rfl rfl D13_12 rfl e2 ?_
    intro v3 T3 L3 X3 hQ3
    obtain ⟨rfl, N3q, e3⟩ := hQ3
    have N3 := Fr.app N1 N3q
    refine own_sh (A' := T3.setTop (mkF m 15 _ [(.int c0)])) ?_
    exact own_ret (v := some (.int (nar .char c0))) X3 (fun h => by first | rfl | (rw [Bd.returns] at h; cases h)) (BodyLoose.notSynchronized Bd) (by decide) (by decide) (⟨by rw [own_nc hc0], N3, e3⟩) (fun fs hr => retN X3 hx (t := .char) Bd.returns (by simp) (hb hby D13_15.1) hr)
  · skip
    refine o_aloadN X0 hx hby D13_0 rfl rfl ?_
    refine kV X0 hx hZ hown hby (wd hw 59 rfl) (wd hw 60 rfl) (wd hw 62 rfl) (wd hw 61 rfl) (wd hw 10 rfl) (wd hw 63 rfl) (own_nf hZ (wd hw 62 rfl)) E_st (rs_il1 l Z a0 hw [] st cs vf h0 n0 Z0 hST0 O0 F_c) (by decide) (by decide) (by decide) (by decide) (by decide) (by rw [hml]; rfl) [] [] (lenOf pd__40_41Z rfl) (W := 0) rfl rfl D13_1 rfl e0 ?_
    intro v4 T4 L4 X4 hQ4
    obtain ⟨rfl, N4q, e4⟩ := hQ4
    have N4 := Fr.app N0 N4q
    refine own_sh (A' := T4.setTop (mkF m 4 _ [(.int (0 : Int32))])) ?_
    refine o_ifY X4 hx hby D13_4 ((if0 _ _).trans (teq (by decide : (0 : Int32) = (0 : Int32))).1) (q := 16) (by decide) (by decide) ?_
    refine o_aloadN X4 hx hby D13_16 rfl rfl ?_
    obtain ⟨T5, X5, e5, st5⟩ := getF X4 hx hZ hown (host := "") (Or.inl (wd hw 35 rfl)) Via.refl e4 F_v (g := (mkF m 17 #[.val (.ref st), .val (.int (0 : Int32))] [(.ref st)])) rfl rfl (hb hby D13_17.1)
    refine own_pre (A' := T5.setTop (mkF m 20 #[.val (.ref st), .val (.int (0 : Int32))] [(.ref vb)])) st5 ?_
    refine o_iloadN X5 hx hby D13_20 rfl ?_
    refine kS X5 hx hZ hown hby (wd hw 102 rfl) (wd hw 103 rfl) (wd hw 24 rfl) (wd hw 104 rfl) (rs_uca10 l Z a0 hw [] vb kb c0 cs vf h0 n0 Z0 hST0 O0 Vb hc0) (by decide) (by decide) (by decide) (by decide) (by decide) (by rw [hml]; rfl) [(.ref vb), (.int (0 : Int32))] [] (lenOf pd__40_91BI_41C rfl) (W := 0) rfl rfl D13_21 rfl e5 ?_
    intro v6 T6 L6 X6 hQ6
    obtain ⟨rfl, N6q, e6⟩ := hQ6
    have N6 := Fr.app N4 N6q
    refine own_sh (A' := T6.setTop (mkF m 24 _ [(.int c0)])) ?_
    exact own_ret (v := some (.int (nar .char c0))) X6 (fun h => by first | rfl | (rw [Bd.returns] at h; cases h)) (BodyLoose.notSynchronized Bd) (by decide) (by decide) (⟨by rw [own_nc hc0], N6, e6⟩) (fun fs hr => retN X6 hx (t := .char) Bd.returns (by simp) (hb hby D13_24.1) hr)
theorem ef_rs_len2 (m : MethodId) (st : Addr) : entryFrame m #[(.ref st)] 1 = mkF m 0 #[.val (.ref st)] [] := by first | (simp [entryFrame, mkF, argsToLocals, Value.category]; done) | rfl
set_option maxRecDepth 65536 in
set_option maxHeartbeats 40000000 in
theorem rs_len2 (l : Launch) (Z : State) (a0 : Array Value) (hw : ∀ d ∈ tables_1, d.before a0 Z = true) (ws : List Jvm.Cond) (st : Addr) (vb : Addr) (kb : ClassId) (c0 c1 : Int32) (cs : Int32) (vf : Value) (h0 : Heap) (n0 : Nat) (Z0 : n0 ≤ h0.size) (hST : own_ST Z cs vf) (O0 : Old Z n0 h0) (hS : own_Str2 Z h0 st vb kb c0 c1) :
    own_Mt l (⟨"java/lang/String", "length", "()I"⟩ : MethodName) jdk_42_method_54_code 1 (some .int) ({ frames := 1, cells := 0, slots := 0, locals := 13 } : Room) #[(.ref st)] Z h0 (own_QP (.int (2 : Int32)) h0 n0) := by
  refine MetFree.of_bodySF (plainFor_of_name pn_java_lang_String) hisR ?_
  intro p e s m args below meth c s₁ Bd hml0 hP hK
  obtain ⟨rfl, hZ, hh⟩ := hP
  have hx := Bd.exec
  have hby := Bd.bytes
  have hml : c.maxLocals = 1 := hml0
  have hown : s.vm.findClass "java/lang/String" = some m.cls := findClass_of_methodNamed Bd.named
  have hnm := (name_of_methodNamed Bd.named Bd.method).1
  have X0 : Stand p l e ({ frames := 1, cells := 0, slots := 0, locals := 13 } : Room) s m #[(.ref st)] below meth c s₁ [] 0 0 := Stand.of_body Bd
  have e0 : s₁.heap = h0 := by rw [← hh, Bd.state]; rfl
  have N0 := Fr.nil n0
  refine own_start (ef_rs_len2 m st) ?_
  have hST0 := hST
  obtain ⟨S_cs, S_ad, S_hb, S_lb, S_sf, hcs, hvf⟩ := hST
  obtain ⟨E_st, F_v, ⟨F_c, hl0, hl1, Vb⟩ | ⟨F_c, Vb⟩⟩ := hS
  · skip
    refine o_aloadN X0 hx hby D11_0 rfl rfl ?_
    obtain ⟨T1, X1, e1, st1⟩ := getF X0 hx hZ hown (host := "") (Or.inl (wd hw 35 rfl)) Via.refl e0 F_v (g := (mkF m 1 #[.val (.ref st)] [(.ref st)])) rfl rfl (hb hby D11_1.1)
    refine own_pre (A' := T1.setTop (mkF m 4 #[.val (.ref st)] [(.ref vb)])) st1 ?_
    obtain ⟨cl_vb_2, Ar_vb_2, q_vb_2, S_vb_2, N_vb_2, H_vb_2, G_vb_2⟩ := id Vb
    refine own_pre (A' := T1.setTop (mkF m 5 #[.val (.ref st)] [(.int (2 : Int32))])) (fun t k => X1.arraylength hx (by rw [e1]; exact Ar_vb_2.1) (State.isArrayOf_alike hZ.alike Ar_vb_2.2.1) (g := (mkF m 4 #[.val (.ref st)] [(.ref vb)])) rfl rfl (hb hby D11_4.1) _ (by rw [len_of S_vb_2 N_vb_2]; exact k)) ?_
    refine o_aloadN X1 hx hby D11_5 rfl rfl ?_
    refine kV X1 hx hZ hown hby (wd hw 49 rfl) (wd hw 50 rfl) (wd hw 52 rfl) (wd hw 51 rfl) (wd hw 10 rfl) (wd hw 53 rfl) (own_nf hZ (wd hw 52 rfl)) E_st (rs_co0 l Z a0 hw [] st cs vf h0 n0 Z0 hST0 O0 F_c) (by decide) (by decide) (by decide) (by decide) (by decide) (by rw [hml]; rfl) [] [(.int (2 : Int32))] (lenOf pd__40_41B rfl) (W := 1) rfl rfl D11_6 rfl e1 ?_
    intro v3 T3 L3 X3 hQ3
    obtain ⟨rfl, N3q, e3⟩ := hQ3
    have N3 := Fr.app N0 N3q
    refine own_sh (A' := T3.setTop (mkF m 9 _ [(.int (0 : Int32)), (.int (2 : Int32))])) ?_
    refine o_ishr X3 hx hby D11_9 ?_
    rw [(by decide : ((2 : Int32) >>> ((0 : Int32) &&& 31)) = (2 : Int32))]
    exact own_ret (v := some (.int (2 : Int32))) X3 (fun h => by first | rfl | (rw [Bd.returns] at h; cases h)) (BodyLoose.notSynchronized Bd) (by decide) (by decide) (⟨rfl, N3, e3⟩) (fun fs hr => retI X3 hx Bd.returns (hb hby D11_10.1) hr)
  · skip
    refine o_aloadN X0 hx hby D11_0 rfl rfl ?_
    obtain ⟨T4, X4, e4, st4⟩ := getF X0 hx hZ hown (host := "") (Or.inl (wd hw 35 rfl)) Via.refl e0 F_v (g := (mkF m 1 #[.val (.ref st)] [(.ref st)])) rfl rfl (hb hby D11_1.1)
    refine own_pre (A' := T4.setTop (mkF m 4 #[.val (.ref st)] [(.ref vb)])) st4 ?_
    obtain ⟨cl_vb_5, Ar_vb_5, q_vb_5, S_vb_5, N_vb_5, H_vb_5, G_vb_5⟩ := id Vb
    refine own_pre (A' := T4.setTop (mkF m 5 #[.val (.ref st)] [(.int (4 : Int32))])) (fun t k => X4.arraylength hx (by rw [e4]; exact Ar_vb_5.1) (State.isArrayOf_alike hZ.alike Ar_vb_5.2.1) (g := (mkF m 4 #[.val (.ref st)] [(.ref vb)])) rfl rfl (hb hby D11_4.1) _ (by rw [len_of S_vb_5 N_vb_5]; exact k)) ?_
    refine o_aloadN X4 hx hby D11_5 rfl rfl ?_
    refine kV X4 hx hZ hown hby (wd hw 49 rfl) (wd hw 50 rfl) (wd hw 52 rfl) (wd hw 51 rfl) (wd hw 10 rfl) (wd hw 53 rfl) (own_nf hZ (wd hw 52 rfl)) E_st (rs_co1 l Z a0 hw [] st cs vf h0 n0 Z0 hST0 O0 F_c) (by decide) (by decide) (by decide) (by decide) (by decide) (by rw [hml]; rfl) [] [(.int (4 : Int32))] (lenOf pd__40_41B rfl) (W := 1) rfl rfl D11_6 rfl e4 ?_
    intro v6 T6 L6 X6 hQ6
    obtain ⟨rfl, N6q, e6⟩ := hQ6
    have N6 := Fr.app N0 N6q
    refine own_sh (A' := T6.setTop (mkF m 9 _ [(.int (1 : Int32)), (.int (4 : Int32))])) ?_
    refine o_ishr X6 hx hby D11_9 ?_
    rw [(by decide : ((4 : Int32) >>> ((1 : Int32) &&& 31)) = (2 : Int32))]
    exact own_ret (v := some (.int (2 : Int32))) X6 (fun h => by first | rfl | (rw [Bd.returns] at h; cases h)) (BodyLoose.notSynchronized Bd) (by decide) (by decide) (⟨rfl, N6, e6⟩) (fun fs hr => retI X6 hx Bd.returns (hb hby D11_10.1) hr)
theorem ef_rs_lca20 (m : MethodId) (vb : Addr) : entryFrame m #[(.ref vb), (.int (0 : Int32))] 2 = mkF m 0 #[.val (.ref vb), .val (.int (0 : Int32))] [] := by first | (simp [entryFrame, mkF, argsToLocals, Value.category]; done) | rfl
set_option maxRecDepth 65536 in
set_option maxHeartbeats 40000000 in
theorem rs_lca20 (l : Launch) (Z : State) (a0 : Array Value) (hw : ∀ d ∈ tables_1, d.before a0 Z = true) (ws : List Jvm.Cond) (vb : Addr) (kb : ClassId) (c0 c1 : Int32) (cs : Int32) (vf : Value) (h0 : Heap) (n0 : Nat) (Z0 : n0 ≤ h0.size) (hST : own_ST Z cs vf) (O0 : Old Z n0 h0) (Vb : Arv Z h0 vb kb .byte (2 : Int32) [(.int (own_l8 c0)), (.int (own_l8 c1))] (.int (0 : Int32))) (hc : own_ch16 c0) (hl : ¬ ((255 : Int32) < c0)) :
    own_Mt l (⟨"java/lang/StringLatin1", "charAt", "([BI)C"⟩ : MethodName) jdk_43_method_2_code 2 (some .char) ({ frames := 2, cells := 0, slots := 0, locals := 27 } : Room) #[(.ref vb), (.int (0 : Int32))] Z h0 (own_QP (.int c0) h0 n0) := by
  refine MetFree.of_bodySF (plainFor_of_name pn_java_lang_StringLatin1) hisR ?_
  intro p e s m args below meth c s₁ Bd hml0 hP hK
  obtain ⟨rfl, hZ, hh⟩ := hP
  have hx := Bd.exec
  have hby := Bd.bytes
  have hml : c.maxLocals = 2 := hml0
  have hown : s.vm.findClass "java/lang/StringLatin1" = some m.cls := findClass_of_methodNamed Bd.named
  have hnm := (name_of_methodNamed Bd.named Bd.method).1
  have X0 : Stand p l e ({ frames := 2, cells := 0, slots := 0, locals := 27 } : Room) s m #[(.ref vb), (.int (0 : Int32))] below meth c s₁ [] 0 0 := Stand.of_body Bd
  have e0 : s₁.heap = h0 := by rw [← hh, Bd.state]; rfl
  have N0 := Fr.nil n0
  refine own_start (ef_rs_lca20 m vb) ?_
  have hST0 := hST
  obtain ⟨S_cs, S_ad, S_hb, S_lb, S_sf, hcs, hvf⟩ := hST
  refine o_iloadN X0 hx hby D15_0 rfl ?_
  refine o_aloadN X0 hx hby D15_1 rfl rfl ?_
  obtain ⟨cl_vb_1, Ar_vb_1, q_vb_1, S_vb_1, N_vb_1, H_vb_1, G_vb_1⟩ := id Vb
  refine own_pre (A' := s₁.setTop (mkF m 3 #[.val (.ref vb), .val (.int (0 : Int32))] [(.int (2 : Int32)), (.int (0 : Int32))])) (fun t k => X0.arraylength hx (by rw [e0]; exact Ar_vb_1.1) (State.isArrayOf_alike hZ.alike Ar_vb_1.2.1) (g := (mkF m 2 #[.val (.ref vb), .val (.int (0 : Int32))] [(.ref vb), (.int (0 : Int32))])) rfl rfl (hb hby D15_2.1) _ (by rw [len_of S_vb_1 N_vb_1]; exact k)) ?_
  refine kS X0 hx hZ hown hby (wd hw 68 rfl) (wd hw 69 rfl) (wd hw 10 rfl) (wd hw 70 rfl) (rs_ci l Z a0 hw [] (0 : Int32) (2 : Int32) cs vf h0 n0 Z0 hST0 O0 (by decide) (by decide)) (by decide) (by decide) (by decide) (by decide) (by decide) (by rw [hml]; rfl) [(.int (0 : Int32)), (.int (2 : Int32))] [] (lenOf pd__40II_41V rfl) (W := 0) rfl rfl D15_3 rfl e0 ?_
  intro v2 T2 L2 X2 hQ2
  obtain ⟨rfl, N2q, e2⟩ := hQ2
  have N2 := Fr.app N0 N2q
  refine own_sh (A' := T2.setTop (mkF m 6 _ [])) ?_
  refine o_aloadN X2 hx hby D15_6 rfl rfl ?_
  refine o_iloadN X2 hx hby D15_7 rfl ?_
  obtain ⟨cl_vb_3, Ar_vb_3, q_vb_3, S_vb_3, N_vb_3, H_vb_3, G_vb_3⟩ := id Vb
  have hin_vb_3 : ¬ ((0 : Int32) < 0 ∨ cl_vb_3.slots.size ≤ ((0 : Int32)).toNatClampNeg) := inb_of S_vb_3 ⟨by decide, by decide⟩
  have hat_vb_3 : cl_vb_3.slots[((0 : Int32)).toNatClampNeg]? = some (.int (own_l8 c0)) := H_vb_3.at hin_vb_3 (rfl)
  refine own_pre (A' := T2.setTop (mkF m 9 #[.val (.ref vb), .val (.int (0 : Int32))] [(.int (own_l8 c0))])) (fun t k => X2.baloadBytes hx (j := (0 : Int32)) (v := (.int (own_l8 c0))) (by rw [e2]; exact Ar_vb_3.1) (State.isArrayOf_alike hZ.alike Ar_vb_3.2.1) Ar_vb_3.2.2 hin_vb_3 hat_vb_3 (g := (mkF m 8 #[.val (.ref vb), .val (.int (0 : Int32))] [(.int (0 : Int32)), (.ref vb)])) rfl rfl (hb hby D15_8.1) _ k) ?_
  refine o_sipush X2 hx hby D15_9 (v := 255) rfl ?_
  refine o_iand X2 hx hby D15_12 ?_
  refine o_i2c X2 hx hby D15_13 ?_
  exact own_ret (v := some (.int (own_lc c0))) X2 (fun h => by first | rfl | (rw [Bd.returns] at h; cases h)) (BodyLoose.notSynchronized Bd) (by decide) (by decide) (⟨by rw [own_lcEq hc hl], N2, e2⟩) (fun fs hr => retN X2 hx (t := .char) Bd.returns (by simp) (hb hby D15_14.1) hr)
theorem ef_rs_lca21 (m : MethodId) (vb : Addr) : entryFrame m #[(.ref vb), (.int (1 : Int32))] 2 = mkF m 0 #[.val (.ref vb), .val (.int (1 : Int32))] [] := by first | (simp [entryFrame, mkF, argsToLocals, Value.category]; done) | rfl
set_option maxRecDepth 65536 in
set_option maxHeartbeats 40000000 in
theorem rs_lca21 (l : Launch) (Z : State) (a0 : Array Value) (hw : ∀ d ∈ tables_1, d.before a0 Z = true) (ws : List Jvm.Cond) (vb : Addr) (kb : ClassId) (c0 c1 : Int32) (cs : Int32) (vf : Value) (h0 : Heap) (n0 : Nat) (Z0 : n0 ≤ h0.size) (hST : own_ST Z cs vf) (O0 : Old Z n0 h0) (Vb : Arv Z h0 vb kb .byte (2 : Int32) [(.int (own_l8 c0)), (.int (own_l8 c1))] (.int (0 : Int32))) (hc : own_ch16 c1) (hl : ¬ ((255 : Int32) < c1)) :
    own_Mt l (⟨"java/lang/StringLatin1", "charAt", "([BI)C"⟩ : MethodName) jdk_43_method_2_code 2 (some .char) ({ frames := 2, cells := 0, slots := 0, locals := 27 } : Room) #[(.ref vb), (.int (1 : Int32))] Z h0 (own_QP (.int c1) h0 n0) := by
  refine MetFree.of_bodySF (plainFor_of_name pn_java_lang_StringLatin1) hisR ?_
  intro p e s m args below meth c s₁ Bd hml0 hP hK
  obtain ⟨rfl, hZ, hh⟩ := hP
  have hx := Bd.exec
  have hby := Bd.bytes
  have hml : c.maxLocals = 2 := hml0
  have hown : s.vm.findClass "java/lang/StringLatin1" = some m.cls := findClass_of_methodNamed Bd.named
  have hnm := (name_of_methodNamed Bd.named Bd.method).1
  have X0 : Stand p l e ({ frames := 2, cells := 0, slots := 0, locals := 27 } : Room) s m #[(.ref vb), (.int (1 : Int32))] below meth c s₁ [] 0 0 := Stand.of_body Bd
  have e0 : s₁.heap = h0 := by rw [← hh, Bd.state]; rfl
  have N0 := Fr.nil n0
  refine own_start (ef_rs_lca21 m vb) ?_
  have hST0 := hST
  obtain ⟨S_cs, S_ad, S_hb, S_lb, S_sf, hcs, hvf⟩ := hST
  refine o_iloadN X0 hx hby D15_0 rfl ?_
  refine o_aloadN X0 hx hby D15_1 rfl rfl ?_
  obtain ⟨cl_vb_1, Ar_vb_1, q_vb_1, S_vb_1, N_vb_1, H_vb_1, G_vb_1⟩ := id Vb
  refine own_pre (A' := s₁.setTop (mkF m 3 #[.val (.ref vb), .val (.int (1 : Int32))] [(.int (2 : Int32)), (.int (1 : Int32))])) (fun t k => X0.arraylength hx (by rw [e0]; exact Ar_vb_1.1) (State.isArrayOf_alike hZ.alike Ar_vb_1.2.1) (g := (mkF m 2 #[.val (.ref vb), .val (.int (1 : Int32))] [(.ref vb), (.int (1 : Int32))])) rfl rfl (hb hby D15_2.1) _ (by rw [len_of S_vb_1 N_vb_1]; exact k)) ?_
  refine kS X0 hx hZ hown hby (wd hw 68 rfl) (wd hw 69 rfl) (wd hw 10 rfl) (wd hw 70 rfl) (rs_ci l Z a0 hw [] (1 : Int32) (2 : Int32) cs vf h0 n0 Z0 hST0 O0 (by decide) (by decide)) (by decide) (by decide) (by decide) (by decide) (by decide) (by rw [hml]; rfl) [(.int (1 : Int32)), (.int (2 : Int32))] [] (lenOf pd__40II_41V rfl) (W := 0) rfl rfl D15_3 rfl e0 ?_
  intro v2 T2 L2 X2 hQ2
  obtain ⟨rfl, N2q, e2⟩ := hQ2
  have N2 := Fr.app N0 N2q
  refine own_sh (A' := T2.setTop (mkF m 6 _ [])) ?_
  refine o_aloadN X2 hx hby D15_6 rfl rfl ?_
  refine o_iloadN X2 hx hby D15_7 rfl ?_
  obtain ⟨cl_vb_3, Ar_vb_3, q_vb_3, S_vb_3, N_vb_3, H_vb_3, G_vb_3⟩ := id Vb
  have hin_vb_3 : ¬ ((1 : Int32) < 0 ∨ cl_vb_3.slots.size ≤ ((1 : Int32)).toNatClampNeg) := inb_of S_vb_3 ⟨by decide, by decide⟩
  have hat_vb_3 : cl_vb_3.slots[((1 : Int32)).toNatClampNeg]? = some (.int (own_l8 c1)) := H_vb_3.at hin_vb_3 (rfl)
  refine own_pre (A' := T2.setTop (mkF m 9 #[.val (.ref vb), .val (.int (1 : Int32))] [(.int (own_l8 c1))])) (fun t k => X2.baloadBytes hx (j := (1 : Int32)) (v := (.int (own_l8 c1))) (by rw [e2]; exact Ar_vb_3.1) (State.isArrayOf_alike hZ.alike Ar_vb_3.2.1) Ar_vb_3.2.2 hin_vb_3 hat_vb_3 (g := (mkF m 8 #[.val (.ref vb), .val (.int (1 : Int32))] [(.int (1 : Int32)), (.ref vb)])) rfl rfl (hb hby D15_8.1) _ k) ?_
  refine o_sipush X2 hx hby D15_9 (v := 255) rfl ?_
  refine o_iand X2 hx hby D15_12 ?_
  refine o_i2c X2 hx hby D15_13 ?_
  exact own_ret (v := some (.int (own_lc c1))) X2 (fun h => by first | rfl | (rw [Bd.returns] at h; cases h)) (BodyLoose.notSynchronized Bd) (by decide) (by decide) (⟨by rw [own_lcEq hc hl], N2, e2⟩) (fun fs hr => retN X2 hx (t := .char) Bd.returns (by simp) (hb hby D15_14.1) hr)
theorem ef_rs_ul2 (m : MethodId) (vb : Addr) : entryFrame m #[(.ref vb)] 1 = mkF m 0 #[.val (.ref vb)] [] := by first | (simp [entryFrame, mkF, argsToLocals, Value.category]; done) | rfl
set_option maxRecDepth 65536 in
set_option maxHeartbeats 40000000 in
theorem rs_ul2 (l : Launch) (Z : State) (a0 : Array Value) (hw : ∀ d ∈ tables_1, d.before a0 Z = true) (ws : List Jvm.Cond) (vb : Addr) (kb : ClassId) (c0 c1 : Int32) (h0 : Heap) (n0 : Nat) (Z0 : n0 ≤ h0.size) (Vb : Arv Z h0 vb kb .byte (4 : Int32) [(.int (own_lo c0)), (.int (own_hi c0)), (.int (own_lo c1)), (.int (own_hi c1))] (.int (0 : Int32))) :
    own_Mt l (⟨"java/lang/StringUTF16", "length", "([B)I"⟩ : MethodName) jdk_52_method_6_code 1 (some .int) ({ frames := 0, cells := 0, slots := 0, locals := 0 } : Room) #[(.ref vb)] Z h0 (own_QP (.int (2 : Int32)) h0 n0) := by
  refine MetFree.of_bodySF (plainFor_of_name pn_java_lang_StringUTF16) hisR ?_
  intro p e s m args below meth c s₁ Bd hml0 hP hK
  obtain ⟨rfl, hZ, hh⟩ := hP
  have hx := Bd.exec
  have hby := Bd.bytes
  have hml : c.maxLocals = 1 := hml0
  have hown : s.vm.findClass "java/lang/StringUTF16" = some m.cls := findClass_of_methodNamed Bd.named
  have hnm := (name_of_methodNamed Bd.named Bd.method).1
  have X0 : Stand p l e ({ frames := 0, cells := 0, slots := 0, locals := 0 } : Room) s m #[(.ref vb)] below meth c s₁ [] 0 0 := Stand.of_body Bd
  have e0 : s₁.heap = h0 := by rw [← hh, Bd.state]; rfl
  have N0 := Fr.nil n0
  refine own_start (ef_rs_ul2 m vb) ?_
  refine o_aloadN X0 hx hby D26_0 rfl rfl ?_
  obtain ⟨cl_vb_1, Ar_vb_1, q_vb_1, S_vb_1, N_vb_1, H_vb_1, G_vb_1⟩ := id Vb
  refine own_pre (A' := s₁.setTop (mkF m 2 #[.val (.ref vb)] [(.int (4 : Int32))])) (fun t k => X0.arraylength hx (by rw [e0]; exact Ar_vb_1.1) (State.isArrayOf_alike hZ.alike Ar_vb_1.2.1) (g := (mkF m 1 #[.val (.ref vb)] [(.ref vb)])) rfl rfl (hb hby D26_1.1) _ (by rw [len_of S_vb_1 N_vb_1]; exact k)) ?_
  refine o_iconst X0 hx hby D26_2 (v := 1) rfl ?_
  refine o_ishr X0 hx hby D26_3 ?_
  rw [(by decide : ((4 : Int32) >>> ((1 : Int32) &&& 31)) = (2 : Int32))]
  exact own_ret (v := some (.int (2 : Int32))) X0 (fun h => by first | rfl | (rw [Bd.returns] at h; cases h)) (BodyLoose.notSynchronized Bd) (by decide) (by decide) (⟨rfl, N0, e0⟩) (fun fs hr => retI X0 hx Bd.returns (hb hby D26_4.1) hr)
theorem ef_rs_uci2 (m : MethodId) (p0 : Int32) (vb : Addr) : entryFrame m #[(.int p0), (.ref vb)] 2 = mkF m 0 #[.val (.int p0), .val (.ref vb)] [] := by first | (simp [entryFrame, mkF, argsToLocals, Value.category]; done) | rfl
set_option maxRecDepth 65536 in
set_option maxHeartbeats 40000000 in
theorem rs_uci2 (l : Launch) (Z : State) (a0 : Array Value) (hw : ∀ d ∈ tables_1, d.before a0 Z = true) (ws : List Jvm.Cond) (p0 : Int32) (vb : Addr) (kb : ClassId) (c0 c1 : Int32) (cs : Int32) (vf : Value) (h0 : Heap) (n0 : Nat) (Z0 : n0 ≤ h0.size) (hST : own_ST Z cs vf) (O0 : Old Z n0 h0) (Vb : Arv Z h0 vb kb .byte (4 : Int32) [(.int (own_lo c0)), (.int (own_hi c0)), (.int (own_lo c1)), (.int (own_hi c1))] (.int (0 : Int32))) (h1 : ¬ (p0 < (0 : Int32))) (h2 : p0 < (2 : Int32)) :
    own_Mt l (⟨"java/lang/StringUTF16", "checkIndex", "(I[B)V"⟩ : MethodName) jdk_52_method_91_code 2 none ({ frames := 2, cells := 0, slots := 0, locals := 27 } : Room) #[(.int p0), (.ref vb)] Z h0 (own_QV h0 n0) := by
  refine MetFree.of_bodySF (plainFor_of_name pn_java_lang_StringUTF16) hisR ?_
  intro p e s m args below meth c s₁ Bd hml0 hP hK
  obtain ⟨rfl, hZ, hh⟩ := hP
  have hx := Bd.exec
  have hby := Bd.bytes
  have hml : c.maxLocals = 2 := hml0
  have hown : s.vm.findClass "java/lang/StringUTF16" = some m.cls := findClass_of_methodNamed Bd.named
  have hnm := (name_of_methodNamed Bd.named Bd.method).1
  have X0 : Stand p l e ({ frames := 2, cells := 0, slots := 0, locals := 27 } : Room) s m #[(.int p0), (.ref vb)] below meth c s₁ [] 0 0 := Stand.of_body Bd
  have e0 : s₁.heap = h0 := by rw [← hh, Bd.state]; rfl
  have N0 := Fr.nil n0
  refine own_start (ef_rs_uci2 m p0 vb) ?_
  have hST0 := hST
  obtain ⟨S_cs, S_ad, S_hb, S_lb, S_sf, hcs, hvf⟩ := hST
  refine o_iloadN X0 hx hby D25_0 rfl ?_
  refine o_aloadN X0 hx hby D25_1 rfl rfl ?_
  refine kS X0 hx hZ hown hby (wd hw 108 rfl) (wd hw 109 rfl) (wd hw 24 rfl) (wd hw 110 rfl) (rs_ul2 l Z a0 hw [] vb kb c0 c1 h0 n0 Z0 Vb) (by decide) (by decide) (by decide) (by decide) (by decide) (by rw [hml]; rfl) [(.ref vb)] [(.int p0)] (lenOf pd__40_91B_41I rfl) (W := 1) rfl rfl D25_2 rfl e0 ?_
  intro v1 T1 L1 X1 hQ1
  obtain ⟨rfl, N1q, e1⟩ := hQ1
  have N1 := Fr.app N0 N1q
  refine own_sh (A' := T1.setTop (mkF m 5 _ [(.int (2 : Int32)), (.int p0)])) ?_
  refine kS X1 hx hZ hown hby (wd hw 111 rfl) (wd hw 69 rfl) (wd hw 10 rfl) (wd hw 70 rfl) (rs_ci l Z a0 hw [] p0 (2 : Int32) cs vf h0 n0 Z0 hST0 O0 h1 h2) (by decide) (by decide) (by decide) (by decide) (by decide) (by rw [hml]; rfl) [(.int p0), (.int (2 : Int32))] [] (lenOf pd__40II_41V rfl) (W := 0) rfl rfl D25_5 rfl e1 ?_
  intro v2 T2 L2 X2 hQ2
  obtain ⟨rfl, N2q, e2⟩ := hQ2
  have N2 := Fr.app N1 N2q
  refine own_sh (A' := T2.setTop (mkF m 8 _ [])) ?_
  exact own_ret (v := none) X2 (fun h => by first | rfl | (rw [Bd.returns] at h; cases h)) (BodyLoose.notSynchronized Bd) (by decide) (by decide) (⟨rfl, N2, e2⟩) (fun fs hr => X2.returnOut hx Bd.returns (hb hby D25_8.1) hr)
theorem ef_rs_uca20 (m : MethodId) (vb : Addr) : entryFrame m #[(.ref vb), (.int (0 : Int32))] 2 = mkF m 0 #[.val (.ref vb), .val (.int (0 : Int32))] [] := by first | (simp [entryFrame, mkF, argsToLocals, Value.category]; done) | rfl
set_option maxRecDepth 65536 in
set_option maxHeartbeats 40000000 in
theorem rs_uca20 (l : Launch) (Z : State) (a0 : Array Value) (hw : ∀ d ∈ tables_1, d.before a0 Z = true) (ws : List Jvm.Cond) (vb : Addr) (kb : ClassId) (c0 c1 : Int32) (cs : Int32) (vf : Value) (h0 : Heap) (n0 : Nat) (Z0 : n0 ≤ h0.size) (hST : own_ST Z cs vf) (O0 : Old Z n0 h0) (Vb : Arv Z h0 vb kb .byte (4 : Int32) [(.int (own_lo c0)), (.int (own_hi c0)), (.int (own_lo c1)), (.int (own_hi c1))] (.int (0 : Int32))) (hc : own_ch16 c0) :
    own_Mt l (⟨"java/lang/StringUTF16", "charAt", "([BI)C"⟩ : MethodName) jdk_52_method_83_code 2 (some .char) ({ frames := 3, cells := 0, slots := 0, locals := 40 } : Room) #[(.ref vb), (.int (0 : Int32))] Z h0 (own_QP (.int c0) h0 n0) := by
  refine MetFree.of_bodySF (plainFor_of_name pn_java_lang_StringUTF16) hisR ?_
  intro p e s m args below meth c s₁ Bd hml0 hP hK
  obtain ⟨rfl, hZ, hh⟩ := hP
  have hx := Bd.exec
  have hby := Bd.bytes
  have hml : c.maxLocals = 2 := hml0
  have hown : s.vm.findClass "java/lang/StringUTF16" = some m.cls := findClass_of_methodNamed Bd.named
  have hnm := (name_of_methodNamed Bd.named Bd.method).1
  have X0 : Stand p l e ({ frames := 3, cells := 0, slots := 0, locals := 40 } : Room) s m #[(.ref vb), (.int (0 : Int32))] below meth c s₁ [] 0 0 := Stand.of_body Bd
  have e0 : s₁.heap = h0 := by rw [← hh, Bd.state]; rfl
  have N0 := Fr.nil n0
  refine own_start (ef_rs_uca20 m vb) ?_
  have hST0 := hST
  obtain ⟨S_cs, S_ad, S_hb, S_lb, S_sf, hcs, hvf⟩ := hST
  refine o_iloadN X0 hx hby D24_0 rfl ?_
  refine o_aloadN X0 hx hby D24_1 rfl rfl ?_
  refine kS X0 hx hZ hown hby (wd hw 105 rfl) (wd hw 106 rfl) (wd hw 24 rfl) (wd hw 107 rfl) (rs_uci2 l Z a0 hw [] (0 : Int32) vb kb c0 c1 cs vf h0 n0 Z0 hST0 O0 Vb (by decide) (by decide)) (by decide) (by decide) (by decide) (by decide) (by decide) (by rw [hml]; rfl) [(.int (0 : Int32)), (.ref vb)] [] (lenOf pd__40I_91B_41V rfl) (W := 0) rfl rfl D24_2 rfl e0 ?_
  intro v1 T1 L1 X1 hQ1
  obtain ⟨rfl, N1q, e1⟩ := hQ1
  have N1 := Fr.app N0 N1q
  refine own_sh (A' := T1.setTop (mkF m 5 _ [])) ?_
  refine o_aloadN X1 hx hby D24_5 rfl rfl ?_
  refine o_iloadN X1 hx hby D24_6 rfl ?_
  refine kS X1 hx hZ hown hby (wd hw 99 rfl) (wd hw 100 rfl) (wd hw 24 rfl) (wd hw 101 rfl) (rs_gc20 l Z a0 hw [] vb kb c0 c1 cs vf h0 n0 Z0 hST0 O0 Vb hc) (by decide) (by decide) (by decide) (by decide) (by decide) (by rw [hml]; rfl) [(.ref vb), (.int (0 : Int32))] [] (lenOf pd__40_91BI_41C rfl) (W := 0) rfl rfl D24_7 rfl e1 ?_
  intro v2 T2 L2 X2 hQ2
  obtain ⟨rfl, N2q, e2⟩ := hQ2
  have N2 := Fr.app N1 N2q
  refine own_sh (A' := T2.setTop (mkF m 10 _ [(.int c0)])) ?_
  exact own_ret (v := some (.int (nar .char c0))) X2 (fun h => by first | rfl | (rw [Bd.returns] at h; cases h)) (BodyLoose.notSynchronized Bd) (by decide) (by decide) (⟨by rw [own_nc hc], N2, e2⟩) (fun fs hr => retN X2 hx (t := .char) Bd.returns (by simp) (hb hby D24_10.1) hr)
theorem ef_rs_uca21 (m : MethodId) (vb : Addr) : entryFrame m #[(.ref vb), (.int (1 : Int32))] 2 = mkF m 0 #[.val (.ref vb), .val (.int (1 : Int32))] [] := by first | (simp [entryFrame, mkF, argsToLocals, Value.category]; done) | rfl
set_option maxRecDepth 65536 in
set_option maxHeartbeats 40000000 in
theorem rs_uca21 (l : Launch) (Z : State) (a0 : Array Value) (hw : ∀ d ∈ tables_1, d.before a0 Z = true) (ws : List Jvm.Cond) (vb : Addr) (kb : ClassId) (c0 c1 : Int32) (cs : Int32) (vf : Value) (h0 : Heap) (n0 : Nat) (Z0 : n0 ≤ h0.size) (hST : own_ST Z cs vf) (O0 : Old Z n0 h0) (Vb : Arv Z h0 vb kb .byte (4 : Int32) [(.int (own_lo c0)), (.int (own_hi c0)), (.int (own_lo c1)), (.int (own_hi c1))] (.int (0 : Int32))) (hc : own_ch16 c1) :
    own_Mt l (⟨"java/lang/StringUTF16", "charAt", "([BI)C"⟩ : MethodName) jdk_52_method_83_code 2 (some .char) ({ frames := 3, cells := 0, slots := 0, locals := 40 } : Room) #[(.ref vb), (.int (1 : Int32))] Z h0 (own_QP (.int c1) h0 n0) := by
  refine MetFree.of_bodySF (plainFor_of_name pn_java_lang_StringUTF16) hisR ?_
  intro p e s m args below meth c s₁ Bd hml0 hP hK
  obtain ⟨rfl, hZ, hh⟩ := hP
  have hx := Bd.exec
  have hby := Bd.bytes
  have hml : c.maxLocals = 2 := hml0
  have hown : s.vm.findClass "java/lang/StringUTF16" = some m.cls := findClass_of_methodNamed Bd.named
  have hnm := (name_of_methodNamed Bd.named Bd.method).1
  have X0 : Stand p l e ({ frames := 3, cells := 0, slots := 0, locals := 40 } : Room) s m #[(.ref vb), (.int (1 : Int32))] below meth c s₁ [] 0 0 := Stand.of_body Bd
  have e0 : s₁.heap = h0 := by rw [← hh, Bd.state]; rfl
  have N0 := Fr.nil n0
  refine own_start (ef_rs_uca21 m vb) ?_
  have hST0 := hST
  obtain ⟨S_cs, S_ad, S_hb, S_lb, S_sf, hcs, hvf⟩ := hST
  refine o_iloadN X0 hx hby D24_0 rfl ?_
  refine o_aloadN X0 hx hby D24_1 rfl rfl ?_
  refine kS X0 hx hZ hown hby (wd hw 105 rfl) (wd hw 106 rfl) (wd hw 24 rfl) (wd hw 107 rfl) (rs_uci2 l Z a0 hw [] (1 : Int32) vb kb c0 c1 cs vf h0 n0 Z0 hST0 O0 Vb (by decide) (by decide)) (by decide) (by decide) (by decide) (by decide) (by decide) (by rw [hml]; rfl) [(.int (1 : Int32)), (.ref vb)] [] (lenOf pd__40I_91B_41V rfl) (W := 0) rfl rfl D24_2 rfl e0 ?_
  intro v1 T1 L1 X1 hQ1
  obtain ⟨rfl, N1q, e1⟩ := hQ1
  have N1 := Fr.app N0 N1q
  refine own_sh (A' := T1.setTop (mkF m 5 _ [])) ?_
  refine o_aloadN X1 hx hby D24_5 rfl rfl ?_
  refine o_iloadN X1 hx hby D24_6 rfl ?_
  refine kS X1 hx hZ hown hby (wd hw 99 rfl) (wd hw 100 rfl) (wd hw 24 rfl) (wd hw 101 rfl) (rs_gc21 l Z a0 hw [] vb kb c0 c1 cs vf h0 n0 Z0 hST0 O0 Vb hc) (by decide) (by decide) (by decide) (by decide) (by decide) (by rw [hml]; rfl) [(.ref vb), (.int (1 : Int32))] [] (lenOf pd__40_91BI_41C rfl) (W := 0) rfl rfl D24_7 rfl e1 ?_
  intro v2 T2 L2 X2 hQ2
  obtain ⟨rfl, N2q, e2⟩ := hQ2
  have N2 := Fr.app N1 N2q
  refine own_sh (A' := T2.setTop (mkF m 10 _ [(.int c1)])) ?_
  exact own_ret (v := some (.int (nar .char c1))) X2 (fun h => by first | rfl | (rw [Bd.returns] at h; cases h)) (BodyLoose.notSynchronized Bd) (by decide) (by decide) (⟨by rw [own_nc hc], N2, e2⟩) (fun fs hr => retN X2 hx (t := .char) Bd.returns (by simp) (hb hby D24_10.1) hr)
theorem ef_rs_ca20 (m : MethodId) (st : Addr) : entryFrame m #[(.ref st), (.int (0 : Int32))] 2 = mkF m 0 #[.val (.ref st), .val (.int (0 : Int32))] [] := by first | (simp [entryFrame, mkF, argsToLocals, Value.category]; done) | rfl
set_option maxRecDepth 65536 in
set_option maxHeartbeats 40000000 in
theorem rs_ca20 (l : Launch) (Z : State) (a0 : Array Value) (hw : ∀ d ∈ tables_1, d.before a0 Z = true) (ws : List Jvm.Cond) (st : Addr) (vb : Addr) (kb : ClassId) (c0 c1 : Int32) (cs : Int32) (vf : Value) (h0 : Heap) (n0 : Nat) (Z0 : n0 ≤ h0.size) (hST : own_ST Z cs vf) (O0 : Old Z n0 h0) (hS : own_Str2 Z h0 st vb kb c0 c1) (hc0 : own_ch16 c0) (hc1 : own_ch16 c1) :
    own_Mt l (⟨"java/lang/String", "charAt", "(I)C"⟩ : MethodName) jdk_42_method_56_code 2 (some .char) ({ frames := 4, cells := 0, slots := 0, locals := 53 } : Room) #[(.ref st), (.int (0 : Int32))] Z h0 (own_QP (.int c0) h0 n0) := by
  refine MetFree.of_bodySF (plainFor_of_name pn_java_lang_String) hisR ?_
  intro p e s m args below meth c s₁ Bd hml0 hP hK
  obtain ⟨rfl, hZ, hh⟩ := hP
  have hx := Bd.exec
  have hby := Bd.bytes
  have hml : c.maxLocals = 2 := hml0
  have hown : s.vm.findClass "java/lang/String" = some m.cls := findClass_of_methodNamed Bd.named
  have hnm := (name_of_methodNamed Bd.named Bd.method).1
  have X0 : Stand p l e ({ frames := 4, cells := 0, slots := 0, locals := 53 } : Room) s m #[(.ref st), (.int (0 : Int32))] below meth c s₁ [] 0 0 := Stand.of_body Bd
  have e0 : s₁.heap = h0 := by rw [← hh, Bd.state]; rfl
  have N0 := Fr.nil n0
  refine own_start (ef_rs_ca20 m st) ?_
  have hST0 := hST
  obtain ⟨S_cs, S_ad, S_hb, S_lb, S_sf, hcs, hvf⟩ := hST
  obtain ⟨E_st, F_v, ⟨F_c, hl0, hl1, Vb⟩ | ⟨F_c, Vb⟩⟩ := hS
  · skip
    refine o_aloadN X0 hx hby D13_0 rfl rfl ?_
    refine kV X0 hx hZ hown hby (wd hw 59 rfl) (wd hw 60 rfl) (wd hw 62 rfl) (wd hw 61 rfl) (wd hw 10 rfl) (wd hw 63 rfl) (own_nf hZ (wd hw 62 rfl)) E_st (rs_il0 l Z a0 hw [] st cs vf h0 n0 Z0 hST0 O0 F_c) (by decide) (by decide) (by decide) (by decide) (by decide) (by rw [hml]; rfl) [] [] (lenOf pd__40_41Z rfl) (W := 0) rfl rfl D13_1 rfl e0 ?_
    intro v1 T1 L1 X1 hQ1
    obtain ⟨rfl, N1q, e1⟩ := hQ1
    have N1 := Fr.app N0 N1q
    refine own_sh (A' := T1.setTop (mkF m 4 _ [(.int (1 : Int32))])) ?_
    refine o_ifN X1 hx hby D13_4 ((if0 _ _).trans (feq (by decide : ¬ ((1 : Int32) = (0 : Int32)))).1) ?_
    refine o_aloadN X1 hx hby D13_7 rfl rfl ?_
    obtain ⟨T2, X2, e2, st2⟩ := getF X1 hx hZ hown (host := "") (Or.inl (wd hw 35 rfl)) Via.refl e1 F_v (g := (mkF m 8 #[.val (.ref st), .val (.int (0 : Int32))] [(.ref st)])) rfl rfl (hb hby D13_8.1)
    refine own_pre (A' := T2.setTop (mkF m 11 #[.val (.ref st), .val (.int (0 : Int32))] [(.ref vb)])) st2 ?_
    refine o_iloadN X2 hx hby D13_11 rfl ?_
    refine kS X2 hx hZ hown hby (wd hw 64 rfl) (wd hw 65 rfl) (wd hw 66 rfl) (wd hw 67 rfl) (rs_lca20 l Z a0 hw [] vb kb c0 c1 cs vf h0 n0 Z0 hST0 O0 Vb hc0 hl0) (by decide) (by decide) (by decide) (by decide) (by decide) (by rw [hml]; rfl) [(.ref vb), (.int (0 : Int32))] [] (lenOf pd__40_91BI_41C rfl) (W := 0) rfl rfl D13_12 rfl e2 ?_
    intro v3 T3 L3 X3 hQ3
    obtain ⟨rfl, N3q, e3⟩ := hQ3
    have N3 := Fr.app N1 N3q
    refine own_sh (A' := T3.setTop (mkF m 15 _ [(.int c0)])) ?_
    exact own_ret (v := some (.int (nar .char c0))) X3 (fun h => by first | rfl | (rw [Bd.returns] at h; cases h)) (BodyLoose.notSynchronized Bd) (by decide) (by decide) (⟨by rw [own_nc hc0], N3, e3⟩) (fun fs hr => retN X3 hx (t := .char) Bd.returns (by simp) (hb hby D13_15.1) hr)
  · skip
    refine o_aloadN X0 hx hby D13_0 rfl rfl ?_
    refine kV X0 hx hZ hown hby (wd hw 59 rfl) (wd hw 60 rfl) (wd hw 62 rfl) (wd hw 61 rfl) (wd hw 10 rfl) (wd hw 63 rfl) (own_nf hZ (wd hw 62 rfl)) E_st (rs_il1 l Z a0 hw [] st cs vf h0 n0 Z0 hST0 O0 F_c) (by decide) (by decide) (by decide) (by decide) (by decide) (by rw [hml]; rfl) [] [] (lenOf pd__40_41Z rfl) (W := 0) rfl rfl D13_1 rfl e0 ?_
    intro v4 T4 L4 X4 hQ4
    obtain ⟨rfl, N4q, e4⟩ := hQ4
    have N4 := Fr.app N0 N4q
    refine own_sh (A' := T4.setTop (mkF m 4 _ [(.int (0 : Int32))])) ?_
    refine o_ifY X4 hx hby D13_4 ((if0 _ _).trans (teq (by decide : (0 : Int32) = (0 : Int32))).1) (q := 16) (by decide) (by decide) ?_
    refine o_aloadN X4 hx hby D13_16 rfl rfl ?_
    obtain ⟨T5, X5, e5, st5⟩ := getF X4 hx hZ hown (host := "") (Or.inl (wd hw 35 rfl)) Via.refl e4 F_v (g := (mkF m 17 #[.val (.ref st), .val (.int (0 : Int32))] [(.ref st)])) rfl rfl (hb hby D13_17.1)
    refine own_pre (A' := T5.setTop (mkF m 20 #[.val (.ref st), .val (.int (0 : Int32))] [(.ref vb)])) st5 ?_
    refine o_iloadN X5 hx hby D13_20 rfl ?_
    refine kS X5 hx hZ hown hby (wd hw 102 rfl) (wd hw 103 rfl) (wd hw 24 rfl) (wd hw 104 rfl) (rs_uca20 l Z a0 hw [] vb kb c0 c1 cs vf h0 n0 Z0 hST0 O0 Vb hc0) (by decide) (by decide) (by decide) (by decide) (by decide) (by rw [hml]; rfl) [(.ref vb), (.int (0 : Int32))] [] (lenOf pd__40_91BI_41C rfl) (W := 0) rfl rfl D13_21 rfl e5 ?_
    intro v6 T6 L6 X6 hQ6
    obtain ⟨rfl, N6q, e6⟩ := hQ6
    have N6 := Fr.app N4 N6q
    refine own_sh (A' := T6.setTop (mkF m 24 _ [(.int c0)])) ?_
    exact own_ret (v := some (.int (nar .char c0))) X6 (fun h => by first | rfl | (rw [Bd.returns] at h; cases h)) (BodyLoose.notSynchronized Bd) (by decide) (by decide) (⟨by rw [own_nc hc0], N6, e6⟩) (fun fs hr => retN X6 hx (t := .char) Bd.returns (by simp) (hb hby D13_24.1) hr)
theorem ef_rs_ca21 (m : MethodId) (st : Addr) : entryFrame m #[(.ref st), (.int (1 : Int32))] 2 = mkF m 0 #[.val (.ref st), .val (.int (1 : Int32))] [] := by first | (simp [entryFrame, mkF, argsToLocals, Value.category]; done) | rfl
set_option maxRecDepth 65536 in
set_option maxHeartbeats 40000000 in
theorem rs_ca21 (l : Launch) (Z : State) (a0 : Array Value) (hw : ∀ d ∈ tables_1, d.before a0 Z = true) (ws : List Jvm.Cond) (st : Addr) (vb : Addr) (kb : ClassId) (c0 c1 : Int32) (cs : Int32) (vf : Value) (h0 : Heap) (n0 : Nat) (Z0 : n0 ≤ h0.size) (hST : own_ST Z cs vf) (O0 : Old Z n0 h0) (hS : own_Str2 Z h0 st vb kb c0 c1) (hc0 : own_ch16 c0) (hc1 : own_ch16 c1) :
    own_Mt l (⟨"java/lang/String", "charAt", "(I)C"⟩ : MethodName) jdk_42_method_56_code 2 (some .char) ({ frames := 4, cells := 0, slots := 0, locals := 53 } : Room) #[(.ref st), (.int (1 : Int32))] Z h0 (own_QP (.int c1) h0 n0) := by
  refine MetFree.of_bodySF (plainFor_of_name pn_java_lang_String) hisR ?_
  intro p e s m args below meth c s₁ Bd hml0 hP hK
  obtain ⟨rfl, hZ, hh⟩ := hP
  have hx := Bd.exec
  have hby := Bd.bytes
  have hml : c.maxLocals = 2 := hml0
  have hown : s.vm.findClass "java/lang/String" = some m.cls := findClass_of_methodNamed Bd.named
  have hnm := (name_of_methodNamed Bd.named Bd.method).1
  have X0 : Stand p l e ({ frames := 4, cells := 0, slots := 0, locals := 53 } : Room) s m #[(.ref st), (.int (1 : Int32))] below meth c s₁ [] 0 0 := Stand.of_body Bd
  have e0 : s₁.heap = h0 := by rw [← hh, Bd.state]; rfl
  have N0 := Fr.nil n0
  refine own_start (ef_rs_ca21 m st) ?_
  have hST0 := hST
  obtain ⟨S_cs, S_ad, S_hb, S_lb, S_sf, hcs, hvf⟩ := hST
  obtain ⟨E_st, F_v, ⟨F_c, hl0, hl1, Vb⟩ | ⟨F_c, Vb⟩⟩ := hS
  · skip
    refine o_aloadN X0 hx hby D13_0 rfl rfl ?_
    refine kV X0 hx hZ hown hby (wd hw 59 rfl) (wd hw 60 rfl) (wd hw 62 rfl) (wd hw 61 rfl) (wd hw 10 rfl) (wd hw 63 rfl) (own_nf hZ (wd hw 62 rfl)) E_st (rs_il0 l Z a0 hw [] st cs vf h0 n0 Z0 hST0 O0 F_c) (by decide) (by decide) (by decide) (by decide) (by decide) (by rw [hml]; rfl) [] [] (lenOf pd__40_41Z rfl) (W := 0) rfl rfl D13_1 rfl e0 ?_
    intro v1 T1 L1 X1 hQ1
    obtain ⟨rfl, N1q, e1⟩ := hQ1
    have N1 := Fr.app N0 N1q
    refine own_sh (A' := T1.setTop (mkF m 4 _ [(.int (1 : Int32))])) ?_
    refine o_ifN X1 hx hby D13_4 ((if0 _ _).trans (feq (by decide : ¬ ((1 : Int32) = (0 : Int32)))).1) ?_
    refine o_aloadN X1 hx hby D13_7 rfl rfl ?_
    obtain ⟨T2, X2, e2, st2⟩ := getF X1 hx hZ hown (host := "") (Or.inl (wd hw 35 rfl)) Via.refl e1 F_v (g := (mkF m 8 #[.val (.ref st), .val (.int (1 : Int32))] [(.ref st)])) rfl rfl (hb hby D13_8.1)
    refine own_pre (A' := T2.setTop (mkF m 11 #[.val (.ref st), .val (.int (1 : Int32))] [(.ref vb)])) st2 ?_
    refine o_iloadN X2 hx hby D13_11 rfl ?_
    refine kS X2 hx hZ hown hby (wd hw 64 rfl) (wd hw 65 rfl) (wd hw 66 rfl) (wd hw 67 rfl) (rs_lca21 l Z a0 hw [] vb kb c0 c1 cs vf h0 n0 Z0 hST0 O0 Vb hc1 hl1) (by decide) (by decide) (by decide) (by decide) (by decide) (by rw [hml]; rfl) [(.ref vb), (.int (1 : Int32))] [] (lenOf pd__40_91BI_41C rfl) (W := 0) rfl rfl D13_12 rfl e2 ?_
    intro v3 T3 L3 X3 hQ3
    obtain ⟨rfl, N3q, e3⟩ := hQ3
    have N3 := Fr.app N1 N3q
    refine own_sh (A' := T3.setTop (mkF m 15 _ [(.int c1)])) ?_
    exact own_ret (v := some (.int (nar .char c1))) X3 (fun h => by first | rfl | (rw [Bd.returns] at h; cases h)) (BodyLoose.notSynchronized Bd) (by decide) (by decide) (⟨by rw [own_nc hc1], N3, e3⟩) (fun fs hr => retN X3 hx (t := .char) Bd.returns (by simp) (hb hby D13_15.1) hr)
  · skip
    refine o_aloadN X0 hx hby D13_0 rfl rfl ?_
    refine kV X0 hx hZ hown hby (wd hw 59 rfl) (wd hw 60 rfl) (wd hw 62 rfl) (wd hw 61 rfl) (wd hw 10 rfl) (wd hw 63 rfl) (own_nf hZ (wd hw 62 rfl)) E_st (rs_il1 l Z a0 hw [] st cs vf h0 n0 Z0 hST0 O0 F_c) (by decide) (by decide) (by decide) (by decide) (by decide) (by rw [hml]; rfl) [] [] (lenOf pd__40_41Z rfl) (W := 0) rfl rfl D13_1 rfl e0 ?_
    intro v4 T4 L4 X4 hQ4
    obtain ⟨rfl, N4q, e4⟩ := hQ4
    have N4 := Fr.app N0 N4q
    refine own_sh (A' := T4.setTop (mkF m 4 _ [(.int (0 : Int32))])) ?_
    refine o_ifY X4 hx hby D13_4 ((if0 _ _).trans (teq (by decide : (0 : Int32) = (0 : Int32))).1) (q := 16) (by decide) (by decide) ?_
    refine o_aloadN X4 hx hby D13_16 rfl rfl ?_
    obtain ⟨T5, X5, e5, st5⟩ := getF X4 hx hZ hown (host := "") (Or.inl (wd hw 35 rfl)) Via.refl e4 F_v (g := (mkF m 17 #[.val (.ref st), .val (.int (1 : Int32))] [(.ref st)])) rfl rfl (hb hby D13_17.1)
    refine own_pre (A' := T5.setTop (mkF m 20 #[.val (.ref st), .val (.int (1 : Int32))] [(.ref vb)])) st5 ?_
    refine o_iloadN X5 hx hby D13_20 rfl ?_
    refine kS X5 hx hZ hown hby (wd hw 102 rfl) (wd hw 103 rfl) (wd hw 24 rfl) (wd hw 104 rfl) (rs_uca21 l Z a0 hw [] vb kb c0 c1 cs vf h0 n0 Z0 hST0 O0 Vb hc1) (by decide) (by decide) (by decide) (by decide) (by decide) (by rw [hml]; rfl) [(.ref vb), (.int (1 : Int32))] [] (lenOf pd__40_91BI_41C rfl) (W := 0) rfl rfl D13_21 rfl e5 ?_
    intro v6 T6 L6 X6 hQ6
    obtain ⟨rfl, N6q, e6⟩ := hQ6
    have N6 := Fr.app N4 N6q
    refine own_sh (A' := T6.setTop (mkF m 24 _ [(.int c1)])) ?_
    exact own_ret (v := some (.int (nar .char c1))) X6 (fun h => by first | rfl | (rw [Bd.returns] at h; cases h)) (BodyLoose.notSynchronized Bd) (by decide) (by decide) (⟨by rw [own_nc hc1], N6, e6⟩) (fun fs hr => retN X6 hx (t := .char) Bd.returns (by simp) (hb hby D13_24.1) hr)
theorem ef_rs_len3 (m : MethodId) (st : Addr) : entryFrame m #[(.ref st)] 1 = mkF m 0 #[.val (.ref st)] [] := by first | (simp [entryFrame, mkF, argsToLocals, Value.category]; done) | rfl
set_option maxRecDepth 65536 in
set_option maxHeartbeats 40000000 in
theorem rs_len3 (l : Launch) (Z : State) (a0 : Array Value) (hw : ∀ d ∈ tables_1, d.before a0 Z = true) (ws : List Jvm.Cond) (st : Addr) (vb : Addr) (kb : ClassId) (c0 c1 c2 : Int32) (cs : Int32) (vf : Value) (h0 : Heap) (n0 : Nat) (Z0 : n0 ≤ h0.size) (hST : own_ST Z cs vf) (O0 : Old Z n0 h0) (hS : own_Str3 Z h0 st vb kb c0 c1 c2) :
    own_Mt l (⟨"java/lang/String", "length", "()I"⟩ : MethodName) jdk_42_method_54_code 1 (some .int) ({ frames := 1, cells := 0, slots := 0, locals := 13 } : Room) #[(.ref st)] Z h0 (own_QP (.int (3 : Int32)) h0 n0) := by
  refine MetFree.of_bodySF (plainFor_of_name pn_java_lang_String) hisR ?_
  intro p e s m args below meth c s₁ Bd hml0 hP hK
  obtain ⟨rfl, hZ, hh⟩ := hP
  have hx := Bd.exec
  have hby := Bd.bytes
  have hml : c.maxLocals = 1 := hml0
  have hown : s.vm.findClass "java/lang/String" = some m.cls := findClass_of_methodNamed Bd.named
  have hnm := (name_of_methodNamed Bd.named Bd.method).1
  have X0 : Stand p l e ({ frames := 1, cells := 0, slots := 0, locals := 13 } : Room) s m #[(.ref st)] below meth c s₁ [] 0 0 := Stand.of_body Bd
  have e0 : s₁.heap = h0 := by rw [← hh, Bd.state]; rfl
  have N0 := Fr.nil n0
  refine own_start (ef_rs_len3 m st) ?_
  have hST0 := hST
  obtain ⟨S_cs, S_ad, S_hb, S_lb, S_sf, hcs, hvf⟩ := hST
  obtain ⟨E_st, F_v, ⟨F_c, hl0, hl1, hl2, Vb⟩ | ⟨F_c, Vb⟩⟩ := hS
  · skip
    refine o_aloadN X0 hx hby D11_0 rfl rfl ?_
    obtain ⟨T1, X1, e1, st1⟩ := getF X0 hx hZ hown (host := "") (Or.inl (wd hw 35 rfl)) Via.refl e0 F_v (g := (mkF m 1 #[.val (.ref st)] [(.ref st)])) rfl rfl (hb hby D11_1.1)
    refine own_pre (A' := T1.setTop (mkF m 4 #[.val (.ref st)] [(.ref vb)])) st1 ?_
    obtain ⟨cl_vb_2, Ar_vb_2, q_vb_2, S_vb_2, N_vb_2, H_vb_2, G_vb_2⟩ := id Vb
    refine own_pre (A' := T1.setTop (mkF m 5 #[.val (.ref st)] [(.int (3 : Int32))])) (fun t k => X1.arraylength hx (by rw [e1]; exact Ar_vb_2.1) (State.isArrayOf_alike hZ.alike Ar_vb_2.2.1) (g := (mkF m 4 #[.val (.ref st)] [(.ref vb)])) rfl rfl (hb hby D11_4.1) _ (by rw [len_of S_vb_2 N_vb_2]; exact k)) ?_
    refine o_aloadN X1 hx hby D11_5 rfl rfl ?_
    refine kV X1 hx hZ hown hby (wd hw 49 rfl) (wd hw 50 rfl) (wd hw 52 rfl) (wd hw 51 rfl) (wd hw 10 rfl) (wd hw 53 rfl) (own_nf hZ (wd hw 52 rfl)) E_st (rs_co0 l Z a0 hw [] st cs vf h0 n0 Z0 hST0 O0 F_c) (by decide) (by decide) (by decide) (by decide) (by decide) (by rw [hml]; rfl) [] [(.int (3 : Int32))] (lenOf pd__40_41B rfl) (W := 1) rfl rfl D11_6 rfl e1 ?_
    intro v3 T3 L3 X3 hQ3
    obtain ⟨rfl, N3q, e3⟩ := hQ3
    have N3 := Fr.app N0 N3q
    refine own_sh (A' := T3.setTop (mkF m 9 _ [(.int (0 : Int32)), (.int (3 : Int32))])) ?_
    refine o_ishr X3 hx hby D11_9 ?_
    rw [(by decide : ((3 : Int32) >>> ((0 : Int32) &&& 31)) = (3 : Int32))]
    exact own_ret (v := some (.int (3 : Int32))) X3 (fun h => by first | rfl | (rw [Bd.returns] at h; cases h)) (BodyLoose.notSynchronized Bd) (by decide) (by decide) (⟨rfl, N3, e3⟩) (fun fs hr => retI X3 hx Bd.returns (hb hby D11_10.1) hr)
  · skip
    refine o_aloadN X0 hx hby D11_0 rfl rfl ?_
    obtain ⟨T4, X4, e4, st4⟩ := getF X0 hx hZ hown (host := "") (Or.inl (wd hw 35 rfl)) Via.refl e0 F_v (g := (mkF m 1 #[.val (.ref st)] [(.ref st)])) rfl rfl (hb hby D11_1.1)
    refine own_pre (A' := T4.setTop (mkF m 4 #[.val (.ref st)] [(.ref vb)])) st4 ?_
    obtain ⟨cl_vb_5, Ar_vb_5, q_vb_5, S_vb_5, N_vb_5, H_vb_5, G_vb_5⟩ := id Vb
    refine own_pre (A' := T4.setTop (mkF m 5 #[.val (.ref st)] [(.int (6 : Int32))])) (fun t k => X4.arraylength hx (by rw [e4]; exact Ar_vb_5.1) (State.isArrayOf_alike hZ.alike Ar_vb_5.2.1) (g := (mkF m 4 #[.val (.ref st)] [(.ref vb)])) rfl rfl (hb hby D11_4.1) _ (by rw [len_of S_vb_5 N_vb_5]; exact k)) ?_
    refine o_aloadN X4 hx hby D11_5 rfl rfl ?_
    refine kV X4 hx hZ hown hby (wd hw 49 rfl) (wd hw 50 rfl) (wd hw 52 rfl) (wd hw 51 rfl) (wd hw 10 rfl) (wd hw 53 rfl) (own_nf hZ (wd hw 52 rfl)) E_st (rs_co1 l Z a0 hw [] st cs vf h0 n0 Z0 hST0 O0 F_c) (by decide) (by decide) (by decide) (by decide) (by decide) (by rw [hml]; rfl) [] [(.int (6 : Int32))] (lenOf pd__40_41B rfl) (W := 1) rfl rfl D11_6 rfl e4 ?_
    intro v6 T6 L6 X6 hQ6
    obtain ⟨rfl, N6q, e6⟩ := hQ6
    have N6 := Fr.app N0 N6q
    refine own_sh (A' := T6.setTop (mkF m 9 _ [(.int (1 : Int32)), (.int (6 : Int32))])) ?_
    refine o_ishr X6 hx hby D11_9 ?_
    rw [(by decide : ((6 : Int32) >>> ((1 : Int32) &&& 31)) = (3 : Int32))]
    exact own_ret (v := some (.int (3 : Int32))) X6 (fun h => by first | rfl | (rw [Bd.returns] at h; cases h)) (BodyLoose.notSynchronized Bd) (by decide) (by decide) (⟨rfl, N6, e6⟩) (fun fs hr => retI X6 hx Bd.returns (hb hby D11_10.1) hr)
theorem ef_rs_lca30 (m : MethodId) (vb : Addr) : entryFrame m #[(.ref vb), (.int (0 : Int32))] 2 = mkF m 0 #[.val (.ref vb), .val (.int (0 : Int32))] [] := by first | (simp [entryFrame, mkF, argsToLocals, Value.category]; done) | rfl
set_option maxRecDepth 65536 in
set_option maxHeartbeats 40000000 in
theorem rs_lca30 (l : Launch) (Z : State) (a0 : Array Value) (hw : ∀ d ∈ tables_1, d.before a0 Z = true) (ws : List Jvm.Cond) (vb : Addr) (kb : ClassId) (c0 c1 c2 : Int32) (cs : Int32) (vf : Value) (h0 : Heap) (n0 : Nat) (Z0 : n0 ≤ h0.size) (hST : own_ST Z cs vf) (O0 : Old Z n0 h0) (Vb : Arv Z h0 vb kb .byte (3 : Int32) [(.int (own_l8 c0)), (.int (own_l8 c1)), (.int (own_l8 c2))] (.int (0 : Int32))) (hc : own_ch16 c0) (hl : ¬ ((255 : Int32) < c0)) :
    own_Mt l (⟨"java/lang/StringLatin1", "charAt", "([BI)C"⟩ : MethodName) jdk_43_method_2_code 2 (some .char) ({ frames := 2, cells := 0, slots := 0, locals := 27 } : Room) #[(.ref vb), (.int (0 : Int32))] Z h0 (own_QP (.int c0) h0 n0) := by
  refine MetFree.of_bodySF (plainFor_of_name pn_java_lang_StringLatin1) hisR ?_
  intro p e s m args below meth c s₁ Bd hml0 hP hK
  obtain ⟨rfl, hZ, hh⟩ := hP
  have hx := Bd.exec
  have hby := Bd.bytes
  have hml : c.maxLocals = 2 := hml0
  have hown : s.vm.findClass "java/lang/StringLatin1" = some m.cls := findClass_of_methodNamed Bd.named
  have hnm := (name_of_methodNamed Bd.named Bd.method).1
  have X0 : Stand p l e ({ frames := 2, cells := 0, slots := 0, locals := 27 } : Room) s m #[(.ref vb), (.int (0 : Int32))] below meth c s₁ [] 0 0 := Stand.of_body Bd
  have e0 : s₁.heap = h0 := by rw [← hh, Bd.state]; rfl
  have N0 := Fr.nil n0
  refine own_start (ef_rs_lca30 m vb) ?_
  have hST0 := hST
  obtain ⟨S_cs, S_ad, S_hb, S_lb, S_sf, hcs, hvf⟩ := hST
  refine o_iloadN X0 hx hby D15_0 rfl ?_
  refine o_aloadN X0 hx hby D15_1 rfl rfl ?_
  obtain ⟨cl_vb_1, Ar_vb_1, q_vb_1, S_vb_1, N_vb_1, H_vb_1, G_vb_1⟩ := id Vb
  refine own_pre (A' := s₁.setTop (mkF m 3 #[.val (.ref vb), .val (.int (0 : Int32))] [(.int (3 : Int32)), (.int (0 : Int32))])) (fun t k => X0.arraylength hx (by rw [e0]; exact Ar_vb_1.1) (State.isArrayOf_alike hZ.alike Ar_vb_1.2.1) (g := (mkF m 2 #[.val (.ref vb), .val (.int (0 : Int32))] [(.ref vb), (.int (0 : Int32))])) rfl rfl (hb hby D15_2.1) _ (by rw [len_of S_vb_1 N_vb_1]; exact k)) ?_
  refine kS X0 hx hZ hown hby (wd hw 68 rfl) (wd hw 69 rfl) (wd hw 10 rfl) (wd hw 70 rfl) (rs_ci l Z a0 hw [] (0 : Int32) (3 : Int32) cs vf h0 n0 Z0 hST0 O0 (by decide) (by decide)) (by decide) (by decide) (by decide) (by decide) (by decide) (by rw [hml]; rfl) [(.int (0 : Int32)), (.int (3 : Int32))] [] (lenOf pd__40II_41V rfl) (W := 0) rfl rfl D15_3 rfl e0 ?_
  intro v2 T2 L2 X2 hQ2
  obtain ⟨rfl, N2q, e2⟩ := hQ2
  have N2 := Fr.app N0 N2q
  refine own_sh (A' := T2.setTop (mkF m 6 _ [])) ?_
  refine o_aloadN X2 hx hby D15_6 rfl rfl ?_
  refine o_iloadN X2 hx hby D15_7 rfl ?_
  obtain ⟨cl_vb_3, Ar_vb_3, q_vb_3, S_vb_3, N_vb_3, H_vb_3, G_vb_3⟩ := id Vb
  have hin_vb_3 : ¬ ((0 : Int32) < 0 ∨ cl_vb_3.slots.size ≤ ((0 : Int32)).toNatClampNeg) := inb_of S_vb_3 ⟨by decide, by decide⟩
  have hat_vb_3 : cl_vb_3.slots[((0 : Int32)).toNatClampNeg]? = some (.int (own_l8 c0)) := H_vb_3.at hin_vb_3 (rfl)
  refine own_pre (A' := T2.setTop (mkF m 9 #[.val (.ref vb), .val (.int (0 : Int32))] [(.int (own_l8 c0))])) (fun t k => X2.baloadBytes hx (j := (0 : Int32)) (v := (.int (own_l8 c0))) (by rw [e2]; exact Ar_vb_3.1) (State.isArrayOf_alike hZ.alike Ar_vb_3.2.1) Ar_vb_3.2.2 hin_vb_3 hat_vb_3 (g := (mkF m 8 #[.val (.ref vb), .val (.int (0 : Int32))] [(.int (0 : Int32)), (.ref vb)])) rfl rfl (hb hby D15_8.1) _ k) ?_
  refine o_sipush X2 hx hby D15_9 (v := 255) rfl ?_
  refine o_iand X2 hx hby D15_12 ?_
  refine o_i2c X2 hx hby D15_13 ?_
  exact own_ret (v := some (.int (own_lc c0))) X2 (fun h => by first | rfl | (rw [Bd.returns] at h; cases h)) (BodyLoose.notSynchronized Bd) (by decide) (by decide) (⟨by rw [own_lcEq hc hl], N2, e2⟩) (fun fs hr => retN X2 hx (t := .char) Bd.returns (by simp) (hb hby D15_14.1) hr)
theorem ef_rs_lca31 (m : MethodId) (vb : Addr) : entryFrame m #[(.ref vb), (.int (1 : Int32))] 2 = mkF m 0 #[.val (.ref vb), .val (.int (1 : Int32))] [] := by first | (simp [entryFrame, mkF, argsToLocals, Value.category]; done) | rfl
set_option maxRecDepth 65536 in
set_option maxHeartbeats 40000000 in
theorem rs_lca31 (l : Launch) (Z : State) (a0 : Array Value) (hw : ∀ d ∈ tables_1, d.before a0 Z = true) (ws : List Jvm.Cond) (vb : Addr) (kb : ClassId) (c0 c1 c2 : Int32) (cs : Int32) (vf : Value) (h0 : Heap) (n0 : Nat) (Z0 : n0 ≤ h0.size) (hST : own_ST Z cs vf) (O0 : Old Z n0 h0) (Vb : Arv Z h0 vb kb .byte (3 : Int32) [(.int (own_l8 c0)), (.int (own_l8 c1)), (.int (own_l8 c2))] (.int (0 : Int32))) (hc : own_ch16 c1) (hl : ¬ ((255 : Int32) < c1)) :
    own_Mt l (⟨"java/lang/StringLatin1", "charAt", "([BI)C"⟩ : MethodName) jdk_43_method_2_code 2 (some .char) ({ frames := 2, cells := 0, slots := 0, locals := 27 } : Room) #[(.ref vb), (.int (1 : Int32))] Z h0 (own_QP (.int c1) h0 n0) := by
  refine MetFree.of_bodySF (plainFor_of_name pn_java_lang_StringLatin1) hisR ?_
  intro p e s m args below meth c s₁ Bd hml0 hP hK
  obtain ⟨rfl, hZ, hh⟩ := hP
  have hx := Bd.exec
  have hby := Bd.bytes
  have hml : c.maxLocals = 2 := hml0
  have hown : s.vm.findClass "java/lang/StringLatin1" = some m.cls := findClass_of_methodNamed Bd.named
  have hnm := (name_of_methodNamed Bd.named Bd.method).1
  have X0 : Stand p l e ({ frames := 2, cells := 0, slots := 0, locals := 27 } : Room) s m #[(.ref vb), (.int (1 : Int32))] below meth c s₁ [] 0 0 := Stand.of_body Bd
  have e0 : s₁.heap = h0 := by rw [← hh, Bd.state]; rfl
  have N0 := Fr.nil n0
  refine own_start (ef_rs_lca31 m vb) ?_
  have hST0 := hST
  obtain ⟨S_cs, S_ad, S_hb, S_lb, S_sf, hcs, hvf⟩ := hST
  refine o_iloadN X0 hx hby D15_0 rfl ?_
  refine o_aloadN X0 hx hby D15_1 rfl rfl ?_
  obtain ⟨cl_vb_1, Ar_vb_1, q_vb_1, S_vb_1, N_vb_1, H_vb_1, G_vb_1⟩ := id Vb
  refine own_pre (A' := s₁.setTop (mkF m 3 #[.val (.ref vb), .val (.int (1 : Int32))] [(.int (3 : Int32)), (.int (1 : Int32))])) (fun t k => X0.arraylength hx (by rw [e0]; exact Ar_vb_1.1) (State.isArrayOf_alike hZ.alike Ar_vb_1.2.1) (g := (mkF m 2 #[.val (.ref vb), .val (.int (1 : Int32))] [(.ref vb), (.int (1 : Int32))])) rfl rfl (hb hby D15_2.1) _ (by rw [len_of S_vb_1 N_vb_1]; exact k)) ?_
  refine kS X0 hx hZ hown hby (wd hw 68 rfl) (wd hw 69 rfl) (wd hw 10 rfl) (wd hw 70 rfl) (rs_ci l Z a0 hw [] (1 : Int32) (3 : Int32) cs vf h0 n0 Z0 hST0 O0 (by decide) (by decide)) (by decide) (by decide) (by decide) (by decide) (by decide) (by rw [hml]; rfl) [(.int (1 : Int32)), (.int (3 : Int32))] [] (lenOf pd__40II_41V rfl) (W := 0) rfl rfl D15_3 rfl e0 ?_
  intro v2 T2 L2 X2 hQ2
  obtain ⟨rfl, N2q, e2⟩ := hQ2
  have N2 := Fr.app N0 N2q
  refine own_sh (A' := T2.setTop (mkF m 6 _ [])) ?_
  refine o_aloadN X2 hx hby D15_6 rfl rfl ?_
  refine o_iloadN X2 hx hby D15_7 rfl ?_
  obtain ⟨cl_vb_3, Ar_vb_3, q_vb_3, S_vb_3, N_vb_3, H_vb_3, G_vb_3⟩ := id Vb
  have hin_vb_3 : ¬ ((1 : Int32) < 0 ∨ cl_vb_3.slots.size ≤ ((1 : Int32)).toNatClampNeg) := inb_of S_vb_3 ⟨by decide, by decide⟩
  have hat_vb_3 : cl_vb_3.slots[((1 : Int32)).toNatClampNeg]? = some (.int (own_l8 c1)) := H_vb_3.at hin_vb_3 (rfl)
  refine own_pre (A' := T2.setTop (mkF m 9 #[.val (.ref vb), .val (.int (1 : Int32))] [(.int (own_l8 c1))])) (fun t k => X2.baloadBytes hx (j := (1 : Int32)) (v := (.int (own_l8 c1))) (by rw [e2]; exact Ar_vb_3.1) (State.isArrayOf_alike hZ.alike Ar_vb_3.2.1) Ar_vb_3.2.2 hin_vb_3 hat_vb_3 (g := (mkF m 8 #[.val (.ref vb), .val (.int (1 : Int32))] [(.int (1 : Int32)), (.ref vb)])) rfl rfl (hb hby D15_8.1) _ k) ?_
  refine o_sipush X2 hx hby D15_9 (v := 255) rfl ?_
  refine o_iand X2 hx hby D15_12 ?_
  refine o_i2c X2 hx hby D15_13 ?_
  exact own_ret (v := some (.int (own_lc c1))) X2 (fun h => by first | rfl | (rw [Bd.returns] at h; cases h)) (BodyLoose.notSynchronized Bd) (by decide) (by decide) (⟨by rw [own_lcEq hc hl], N2, e2⟩) (fun fs hr => retN X2 hx (t := .char) Bd.returns (by simp) (hb hby D15_14.1) hr)
theorem ef_rs_lca32 (m : MethodId) (vb : Addr) : entryFrame m #[(.ref vb), (.int (2 : Int32))] 2 = mkF m 0 #[.val (.ref vb), .val (.int (2 : Int32))] [] := by first | (simp [entryFrame, mkF, argsToLocals, Value.category]; done) | rfl
set_option maxRecDepth 65536 in
set_option maxHeartbeats 40000000 in
theorem rs_lca32 (l : Launch) (Z : State) (a0 : Array Value) (hw : ∀ d ∈ tables_1, d.before a0 Z = true) (ws : List Jvm.Cond) (vb : Addr) (kb : ClassId) (c0 c1 c2 : Int32) (cs : Int32) (vf : Value) (h0 : Heap) (n0 : Nat) (Z0 : n0 ≤ h0.size) (hST : own_ST Z cs vf) (O0 : Old Z n0 h0) (Vb : Arv Z h0 vb kb .byte (3 : Int32) [(.int (own_l8 c0)), (.int (own_l8 c1)), (.int (own_l8 c2))] (.int (0 : Int32))) (hc : own_ch16 c2) (hl : ¬ ((255 : Int32) < c2)) :
    own_Mt l (⟨"java/lang/StringLatin1", "charAt", "([BI)C"⟩ : MethodName) jdk_43_method_2_code 2 (some .char) ({ frames := 2, cells := 0, slots := 0, locals := 27 } : Room) #[(.ref vb), (.int (2 : Int32))] Z h0 (own_QP (.int c2) h0 n0) := by
  refine MetFree.of_bodySF (plainFor_of_name pn_java_lang_StringLatin1) hisR ?_
  intro p e s m args below meth c s₁ Bd hml0 hP hK
  obtain ⟨rfl, hZ, hh⟩ := hP
  have hx := Bd.exec
  have hby := Bd.bytes
  have hml : c.maxLocals = 2 := hml0
  have hown : s.vm.findClass "java/lang/StringLatin1" = some m.cls := findClass_of_methodNamed Bd.named
  have hnm := (name_of_methodNamed Bd.named Bd.method).1
  have X0 : Stand p l e ({ frames := 2, cells := 0, slots := 0, locals := 27 } : Room) s m #[(.ref vb), (.int (2 : Int32))] below meth c s₁ [] 0 0 := Stand.of_body Bd
  have e0 : s₁.heap = h0 := by rw [← hh, Bd.state]; rfl
  have N0 := Fr.nil n0
  refine own_start (ef_rs_lca32 m vb) ?_
  have hST0 := hST
  obtain ⟨S_cs, S_ad, S_hb, S_lb, S_sf, hcs, hvf⟩ := hST
  refine o_iloadN X0 hx hby D15_0 rfl ?_
  refine o_aloadN X0 hx hby D15_1 rfl rfl ?_
  obtain ⟨cl_vb_1, Ar_vb_1, q_vb_1, S_vb_1, N_vb_1, H_vb_1, G_vb_1⟩ := id Vb
  refine own_pre (A' := s₁.setTop (mkF m 3 #[.val (.ref vb), .val (.int (2 : Int32))] [(.int (3 : Int32)), (.int (2 : Int32))])) (fun t k => X0.arraylength hx (by rw [e0]; exact Ar_vb_1.1) (State.isArrayOf_alike hZ.alike Ar_vb_1.2.1) (g := (mkF m 2 #[.val (.ref vb), .val (.int (2 : Int32))] [(.ref vb), (.int (2 : Int32))])) rfl rfl (hb hby D15_2.1) _ (by rw [len_of S_vb_1 N_vb_1]; exact k)) ?_
  refine kS X0 hx hZ hown hby (wd hw 68 rfl) (wd hw 69 rfl) (wd hw 10 rfl) (wd hw 70 rfl) (rs_ci l Z a0 hw [] (2 : Int32) (3 : Int32) cs vf h0 n0 Z0 hST0 O0 (by decide) (by decide)) (by decide) (by decide) (by decide) (by decide) (by decide) (by rw [hml]; rfl) [(.int (2 : Int32)), (.int (3 : Int32))] [] (lenOf pd__40II_41V rfl) (W := 0) rfl rfl D15_3 rfl e0 ?_
  intro v2 T2 L2 X2 hQ2
  obtain ⟨rfl, N2q, e2⟩ := hQ2
  have N2 := Fr.app N0 N2q
  refine own_sh (A' := T2.setTop (mkF m 6 _ [])) ?_
  refine o_aloadN X2 hx hby D15_6 rfl rfl ?_
  refine o_iloadN X2 hx hby D15_7 rfl ?_
  obtain ⟨cl_vb_3, Ar_vb_3, q_vb_3, S_vb_3, N_vb_3, H_vb_3, G_vb_3⟩ := id Vb
  have hin_vb_3 : ¬ ((2 : Int32) < 0 ∨ cl_vb_3.slots.size ≤ ((2 : Int32)).toNatClampNeg) := inb_of S_vb_3 ⟨by decide, by decide⟩
  have hat_vb_3 : cl_vb_3.slots[((2 : Int32)).toNatClampNeg]? = some (.int (own_l8 c2)) := H_vb_3.at hin_vb_3 (rfl)
  refine own_pre (A' := T2.setTop (mkF m 9 #[.val (.ref vb), .val (.int (2 : Int32))] [(.int (own_l8 c2))])) (fun t k => X2.baloadBytes hx (j := (2 : Int32)) (v := (.int (own_l8 c2))) (by rw [e2]; exact Ar_vb_3.1) (State.isArrayOf_alike hZ.alike Ar_vb_3.2.1) Ar_vb_3.2.2 hin_vb_3 hat_vb_3 (g := (mkF m 8 #[.val (.ref vb), .val (.int (2 : Int32))] [(.int (2 : Int32)), (.ref vb)])) rfl rfl (hb hby D15_8.1) _ k) ?_
  refine o_sipush X2 hx hby D15_9 (v := 255) rfl ?_
  refine o_iand X2 hx hby D15_12 ?_
  refine o_i2c X2 hx hby D15_13 ?_
  exact own_ret (v := some (.int (own_lc c2))) X2 (fun h => by first | rfl | (rw [Bd.returns] at h; cases h)) (BodyLoose.notSynchronized Bd) (by decide) (by decide) (⟨by rw [own_lcEq hc hl], N2, e2⟩) (fun fs hr => retN X2 hx (t := .char) Bd.returns (by simp) (hb hby D15_14.1) hr)
theorem ef_rs_ul3 (m : MethodId) (vb : Addr) : entryFrame m #[(.ref vb)] 1 = mkF m 0 #[.val (.ref vb)] [] := by first | (simp [entryFrame, mkF, argsToLocals, Value.category]; done) | rfl
set_option maxRecDepth 65536 in
set_option maxHeartbeats 40000000 in
theorem rs_ul3 (l : Launch) (Z : State) (a0 : Array Value) (hw : ∀ d ∈ tables_1, d.before a0 Z = true) (ws : List Jvm.Cond) (vb : Addr) (kb : ClassId) (c0 c1 c2 : Int32) (h0 : Heap) (n0 : Nat) (Z0 : n0 ≤ h0.size) (Vb : Arv Z h0 vb kb .byte (6 : Int32) [(.int (own_lo c0)), (.int (own_hi c0)), (.int (own_lo c1)), (.int (own_hi c1)), (.int (own_lo c2)), (.int (own_hi c2))] (.int (0 : Int32))) :
    own_Mt l (⟨"java/lang/StringUTF16", "length", "([B)I"⟩ : MethodName) jdk_52_method_6_code 1 (some .int) ({ frames := 0, cells := 0, slots := 0, locals := 0 } : Room) #[(.ref vb)] Z h0 (own_QP (.int (3 : Int32)) h0 n0) := by
  refine MetFree.of_bodySF (plainFor_of_name pn_java_lang_StringUTF16) hisR ?_
  intro p e s m args below meth c s₁ Bd hml0 hP hK
  obtain ⟨rfl, hZ, hh⟩ := hP
  have hx := Bd.exec
  have hby := Bd.bytes
  have hml : c.maxLocals = 1 := hml0
  have hown : s.vm.findClass "java/lang/StringUTF16" = some m.cls := findClass_of_methodNamed Bd.named
  have hnm := (name_of_methodNamed Bd.named Bd.method).1
  have X0 : Stand p l e ({ frames := 0, cells := 0, slots := 0, locals := 0 } : Room) s m #[(.ref vb)] below meth c s₁ [] 0 0 := Stand.of_body Bd
  have e0 : s₁.heap = h0 := by rw [← hh, Bd.state]; rfl
  have N0 := Fr.nil n0
  refine own_start (ef_rs_ul3 m vb) ?_
  refine o_aloadN X0 hx hby D26_0 rfl rfl ?_
  obtain ⟨cl_vb_1, Ar_vb_1, q_vb_1, S_vb_1, N_vb_1, H_vb_1, G_vb_1⟩ := id Vb
  refine own_pre (A' := s₁.setTop (mkF m 2 #[.val (.ref vb)] [(.int (6 : Int32))])) (fun t k => X0.arraylength hx (by rw [e0]; exact Ar_vb_1.1) (State.isArrayOf_alike hZ.alike Ar_vb_1.2.1) (g := (mkF m 1 #[.val (.ref vb)] [(.ref vb)])) rfl rfl (hb hby D26_1.1) _ (by rw [len_of S_vb_1 N_vb_1]; exact k)) ?_
  refine o_iconst X0 hx hby D26_2 (v := 1) rfl ?_
  refine o_ishr X0 hx hby D26_3 ?_
  rw [(by decide : ((6 : Int32) >>> ((1 : Int32) &&& 31)) = (3 : Int32))]
  exact own_ret (v := some (.int (3 : Int32))) X0 (fun h => by first | rfl | (rw [Bd.returns] at h; cases h)) (BodyLoose.notSynchronized Bd) (by decide) (by decide) (⟨rfl, N0, e0⟩) (fun fs hr => retI X0 hx Bd.returns (hb hby D26_4.1) hr)
theorem ef_rs_uci3 (m : MethodId) (p0 : Int32) (vb : Addr) : entryFrame m #[(.int p0), (.ref vb)] 2 = mkF m 0 #[.val (.int p0), .val (.ref vb)] [] := by first | (simp [entryFrame, mkF, argsToLocals, Value.category]; done) | rfl
set_option maxRecDepth 65536 in
set_option maxHeartbeats 40000000 in
theorem rs_uci3 (l : Launch) (Z : State) (a0 : Array Value) (hw : ∀ d ∈ tables_1, d.before a0 Z = true) (ws : List Jvm.Cond) (p0 : Int32) (vb : Addr) (kb : ClassId) (c0 c1 c2 : Int32) (cs : Int32) (vf : Value) (h0 : Heap) (n0 : Nat) (Z0 : n0 ≤ h0.size) (hST : own_ST Z cs vf) (O0 : Old Z n0 h0) (Vb : Arv Z h0 vb kb .byte (6 : Int32) [(.int (own_lo c0)), (.int (own_hi c0)), (.int (own_lo c1)), (.int (own_hi c1)), (.int (own_lo c2)), (.int (own_hi c2))] (.int (0 : Int32))) (h1 : ¬ (p0 < (0 : Int32))) (h2 : p0 < (3 : Int32)) :
    own_Mt l (⟨"java/lang/StringUTF16", "checkIndex", "(I[B)V"⟩ : MethodName) jdk_52_method_91_code 2 none ({ frames := 2, cells := 0, slots := 0, locals := 27 } : Room) #[(.int p0), (.ref vb)] Z h0 (own_QV h0 n0) := by
  refine MetFree.of_bodySF (plainFor_of_name pn_java_lang_StringUTF16) hisR ?_
  intro p e s m args below meth c s₁ Bd hml0 hP hK
  obtain ⟨rfl, hZ, hh⟩ := hP
  have hx := Bd.exec
  have hby := Bd.bytes
  have hml : c.maxLocals = 2 := hml0
  have hown : s.vm.findClass "java/lang/StringUTF16" = some m.cls := findClass_of_methodNamed Bd.named
  have hnm := (name_of_methodNamed Bd.named Bd.method).1
  have X0 : Stand p l e ({ frames := 2, cells := 0, slots := 0, locals := 27 } : Room) s m #[(.int p0), (.ref vb)] below meth c s₁ [] 0 0 := Stand.of_body Bd
  have e0 : s₁.heap = h0 := by rw [← hh, Bd.state]; rfl
  have N0 := Fr.nil n0
  refine own_start (ef_rs_uci3 m p0 vb) ?_
  have hST0 := hST
  obtain ⟨S_cs, S_ad, S_hb, S_lb, S_sf, hcs, hvf⟩ := hST
  refine o_iloadN X0 hx hby D25_0 rfl ?_
  refine o_aloadN X0 hx hby D25_1 rfl rfl ?_
  refine kS X0 hx hZ hown hby (wd hw 108 rfl) (wd hw 109 rfl) (wd hw 24 rfl) (wd hw 110 rfl) (rs_ul3 l Z a0 hw [] vb kb c0 c1 c2 h0 n0 Z0 Vb) (by decide) (by decide) (by decide) (by decide) (by decide) (by rw [hml]; rfl) [(.ref vb)] [(.int p0)] (lenOf pd__40_91B_41I rfl) (W := 1) rfl rfl D25_2 rfl e0 ?_
  intro v1 T1 L1 X1 hQ1
  obtain ⟨rfl, N1q, e1⟩ := hQ1
  have N1 := Fr.app N0 N1q
  refine own_sh (A' := T1.setTop (mkF m 5 _ [(.int (3 : Int32)), (.int p0)])) ?_
  refine kS X1 hx hZ hown hby (wd hw 111 rfl) (wd hw 69 rfl) (wd hw 10 rfl) (wd hw 70 rfl) (rs_ci l Z a0 hw [] p0 (3 : Int32) cs vf h0 n0 Z0 hST0 O0 h1 h2) (by decide) (by decide) (by decide) (by decide) (by decide) (by rw [hml]; rfl) [(.int p0), (.int (3 : Int32))] [] (lenOf pd__40II_41V rfl) (W := 0) rfl rfl D25_5 rfl e1 ?_
  intro v2 T2 L2 X2 hQ2
  obtain ⟨rfl, N2q, e2⟩ := hQ2
  have N2 := Fr.app N1 N2q
  refine own_sh (A' := T2.setTop (mkF m 8 _ [])) ?_
  exact own_ret (v := none) X2 (fun h => by first | rfl | (rw [Bd.returns] at h; cases h)) (BodyLoose.notSynchronized Bd) (by decide) (by decide) (⟨rfl, N2, e2⟩) (fun fs hr => X2.returnOut hx Bd.returns (hb hby D25_8.1) hr)
theorem ef_rs_uca30 (m : MethodId) (vb : Addr) : entryFrame m #[(.ref vb), (.int (0 : Int32))] 2 = mkF m 0 #[.val (.ref vb), .val (.int (0 : Int32))] [] := by first | (simp [entryFrame, mkF, argsToLocals, Value.category]; done) | rfl
set_option maxRecDepth 65536 in
set_option maxHeartbeats 40000000 in
theorem rs_uca30 (l : Launch) (Z : State) (a0 : Array Value) (hw : ∀ d ∈ tables_1, d.before a0 Z = true) (ws : List Jvm.Cond) (vb : Addr) (kb : ClassId) (c0 c1 c2 : Int32) (cs : Int32) (vf : Value) (h0 : Heap) (n0 : Nat) (Z0 : n0 ≤ h0.size) (hST : own_ST Z cs vf) (O0 : Old Z n0 h0) (Vb : Arv Z h0 vb kb .byte (6 : Int32) [(.int (own_lo c0)), (.int (own_hi c0)), (.int (own_lo c1)), (.int (own_hi c1)), (.int (own_lo c2)), (.int (own_hi c2))] (.int (0 : Int32))) (hc : own_ch16 c0) :
    own_Mt l (⟨"java/lang/StringUTF16", "charAt", "([BI)C"⟩ : MethodName) jdk_52_method_83_code 2 (some .char) ({ frames := 3, cells := 0, slots := 0, locals := 40 } : Room) #[(.ref vb), (.int (0 : Int32))] Z h0 (own_QP (.int c0) h0 n0) := by
  refine MetFree.of_bodySF (plainFor_of_name pn_java_lang_StringUTF16) hisR ?_
  intro p e s m args below meth c s₁ Bd hml0 hP hK
  obtain ⟨rfl, hZ, hh⟩ := hP
  have hx := Bd.exec
  have hby := Bd.bytes
  have hml : c.maxLocals = 2 := hml0
  have hown : s.vm.findClass "java/lang/StringUTF16" = some m.cls := findClass_of_methodNamed Bd.named
  have hnm := (name_of_methodNamed Bd.named Bd.method).1
  have X0 : Stand p l e ({ frames := 3, cells := 0, slots := 0, locals := 40 } : Room) s m #[(.ref vb), (.int (0 : Int32))] below meth c s₁ [] 0 0 := Stand.of_body Bd
  have e0 : s₁.heap = h0 := by rw [← hh, Bd.state]; rfl
  have N0 := Fr.nil n0
  refine own_start (ef_rs_uca30 m vb) ?_
  have hST0 := hST
  obtain ⟨S_cs, S_ad, S_hb, S_lb, S_sf, hcs, hvf⟩ := hST
  refine o_iloadN X0 hx hby D24_0 rfl ?_
  refine o_aloadN X0 hx hby D24_1 rfl rfl ?_
  refine kS X0 hx hZ hown hby (wd hw 105 rfl) (wd hw 106 rfl) (wd hw 24 rfl) (wd hw 107 rfl) (rs_uci3 l Z a0 hw [] (0 : Int32) vb kb c0 c1 c2 cs vf h0 n0 Z0 hST0 O0 Vb (by decide) (by decide)) (by decide) (by decide) (by decide) (by decide) (by decide) (by rw [hml]; rfl) [(.int (0 : Int32)), (.ref vb)] [] (lenOf pd__40I_91B_41V rfl) (W := 0) rfl rfl D24_2 rfl e0 ?_
  intro v1 T1 L1 X1 hQ1
  obtain ⟨rfl, N1q, e1⟩ := hQ1
  have N1 := Fr.app N0 N1q
  refine own_sh (A' := T1.setTop (mkF m 5 _ [])) ?_
  refine o_aloadN X1 hx hby D24_5 rfl rfl ?_
  refine o_iloadN X1 hx hby D24_6 rfl ?_
  refine kS X1 hx hZ hown hby (wd hw 99 rfl) (wd hw 100 rfl) (wd hw 24 rfl) (wd hw 101 rfl) (rs_gc30 l Z a0 hw [] vb kb c0 c1 c2 cs vf h0 n0 Z0 hST0 O0 Vb hc) (by decide) (by decide) (by decide) (by decide) (by decide) (by rw [hml]; rfl) [(.ref vb), (.int (0 : Int32))] [] (lenOf pd__40_91BI_41C rfl) (W := 0) rfl rfl D24_7 rfl e1 ?_
  intro v2 T2 L2 X2 hQ2
  obtain ⟨rfl, N2q, e2⟩ := hQ2
  have N2 := Fr.app N1 N2q
  refine own_sh (A' := T2.setTop (mkF m 10 _ [(.int c0)])) ?_
  exact own_ret (v := some (.int (nar .char c0))) X2 (fun h => by first | rfl | (rw [Bd.returns] at h; cases h)) (BodyLoose.notSynchronized Bd) (by decide) (by decide) (⟨by rw [own_nc hc], N2, e2⟩) (fun fs hr => retN X2 hx (t := .char) Bd.returns (by simp) (hb hby D24_10.1) hr)
theorem ef_rs_uca31 (m : MethodId) (vb : Addr) : entryFrame m #[(.ref vb), (.int (1 : Int32))] 2 = mkF m 0 #[.val (.ref vb), .val (.int (1 : Int32))] [] := by first | (simp [entryFrame, mkF, argsToLocals, Value.category]; done) | rfl
set_option maxRecDepth 65536 in
set_option maxHeartbeats 40000000 in
theorem rs_uca31 (l : Launch) (Z : State) (a0 : Array Value) (hw : ∀ d ∈ tables_1, d.before a0 Z = true) (ws : List Jvm.Cond) (vb : Addr) (kb : ClassId) (c0 c1 c2 : Int32) (cs : Int32) (vf : Value) (h0 : Heap) (n0 : Nat) (Z0 : n0 ≤ h0.size) (hST : own_ST Z cs vf) (O0 : Old Z n0 h0) (Vb : Arv Z h0 vb kb .byte (6 : Int32) [(.int (own_lo c0)), (.int (own_hi c0)), (.int (own_lo c1)), (.int (own_hi c1)), (.int (own_lo c2)), (.int (own_hi c2))] (.int (0 : Int32))) (hc : own_ch16 c1) :
    own_Mt l (⟨"java/lang/StringUTF16", "charAt", "([BI)C"⟩ : MethodName) jdk_52_method_83_code 2 (some .char) ({ frames := 3, cells := 0, slots := 0, locals := 40 } : Room) #[(.ref vb), (.int (1 : Int32))] Z h0 (own_QP (.int c1) h0 n0) := by
  refine MetFree.of_bodySF (plainFor_of_name pn_java_lang_StringUTF16) hisR ?_
  intro p e s m args below meth c s₁ Bd hml0 hP hK
  obtain ⟨rfl, hZ, hh⟩ := hP
  have hx := Bd.exec
  have hby := Bd.bytes
  have hml : c.maxLocals = 2 := hml0
  have hown : s.vm.findClass "java/lang/StringUTF16" = some m.cls := findClass_of_methodNamed Bd.named
  have hnm := (name_of_methodNamed Bd.named Bd.method).1
  have X0 : Stand p l e ({ frames := 3, cells := 0, slots := 0, locals := 40 } : Room) s m #[(.ref vb), (.int (1 : Int32))] below meth c s₁ [] 0 0 := Stand.of_body Bd
  have e0 : s₁.heap = h0 := by rw [← hh, Bd.state]; rfl
  have N0 := Fr.nil n0
  refine own_start (ef_rs_uca31 m vb) ?_
  have hST0 := hST
  obtain ⟨S_cs, S_ad, S_hb, S_lb, S_sf, hcs, hvf⟩ := hST
  refine o_iloadN X0 hx hby D24_0 rfl ?_
  refine o_aloadN X0 hx hby D24_1 rfl rfl ?_
  refine kS X0 hx hZ hown hby (wd hw 105 rfl) (wd hw 106 rfl) (wd hw 24 rfl) (wd hw 107 rfl) (rs_uci3 l Z a0 hw [] (1 : Int32) vb kb c0 c1 c2 cs vf h0 n0 Z0 hST0 O0 Vb (by decide) (by decide)) (by decide) (by decide) (by decide) (by decide) (by decide) (by rw [hml]; rfl) [(.int (1 : Int32)), (.ref vb)] [] (lenOf pd__40I_91B_41V rfl) (W := 0) rfl rfl D24_2 rfl e0 ?_
  intro v1 T1 L1 X1 hQ1
  obtain ⟨rfl, N1q, e1⟩ := hQ1
  have N1 := Fr.app N0 N1q
  refine own_sh (A' := T1.setTop (mkF m 5 _ [])) ?_
  refine o_aloadN X1 hx hby D24_5 rfl rfl ?_
  refine o_iloadN X1 hx hby D24_6 rfl ?_
  refine kS X1 hx hZ hown hby (wd hw 99 rfl) (wd hw 100 rfl) (wd hw 24 rfl) (wd hw 101 rfl) (rs_gc31 l Z a0 hw [] vb kb c0 c1 c2 cs vf h0 n0 Z0 hST0 O0 Vb hc) (by decide) (by decide) (by decide) (by decide) (by decide) (by rw [hml]; rfl) [(.ref vb), (.int (1 : Int32))] [] (lenOf pd__40_91BI_41C rfl) (W := 0) rfl rfl D24_7 rfl e1 ?_
  intro v2 T2 L2 X2 hQ2
  obtain ⟨rfl, N2q, e2⟩ := hQ2
  have N2 := Fr.app N1 N2q
  refine own_sh (A' := T2.setTop (mkF m 10 _ [(.int c1)])) ?_
  exact own_ret (v := some (.int (nar .char c1))) X2 (fun h => by first | rfl | (rw [Bd.returns] at h; cases h)) (BodyLoose.notSynchronized Bd) (by decide) (by decide) (⟨by rw [own_nc hc], N2, e2⟩) (fun fs hr => retN X2 hx (t := .char) Bd.returns (by simp) (hb hby D24_10.1) hr)
theorem ef_rs_uca32 (m : MethodId) (vb : Addr) : entryFrame m #[(.ref vb), (.int (2 : Int32))] 2 = mkF m 0 #[.val (.ref vb), .val (.int (2 : Int32))] [] := by first | (simp [entryFrame, mkF, argsToLocals, Value.category]; done) | rfl
set_option maxRecDepth 65536 in
set_option maxHeartbeats 40000000 in
theorem rs_uca32 (l : Launch) (Z : State) (a0 : Array Value) (hw : ∀ d ∈ tables_1, d.before a0 Z = true) (ws : List Jvm.Cond) (vb : Addr) (kb : ClassId) (c0 c1 c2 : Int32) (cs : Int32) (vf : Value) (h0 : Heap) (n0 : Nat) (Z0 : n0 ≤ h0.size) (hST : own_ST Z cs vf) (O0 : Old Z n0 h0) (Vb : Arv Z h0 vb kb .byte (6 : Int32) [(.int (own_lo c0)), (.int (own_hi c0)), (.int (own_lo c1)), (.int (own_hi c1)), (.int (own_lo c2)), (.int (own_hi c2))] (.int (0 : Int32))) (hc : own_ch16 c2) :
    own_Mt l (⟨"java/lang/StringUTF16", "charAt", "([BI)C"⟩ : MethodName) jdk_52_method_83_code 2 (some .char) ({ frames := 3, cells := 0, slots := 0, locals := 40 } : Room) #[(.ref vb), (.int (2 : Int32))] Z h0 (own_QP (.int c2) h0 n0) := by
  refine MetFree.of_bodySF (plainFor_of_name pn_java_lang_StringUTF16) hisR ?_
  intro p e s m args below meth c s₁ Bd hml0 hP hK
  obtain ⟨rfl, hZ, hh⟩ := hP
  have hx := Bd.exec
  have hby := Bd.bytes
  have hml : c.maxLocals = 2 := hml0
  have hown : s.vm.findClass "java/lang/StringUTF16" = some m.cls := findClass_of_methodNamed Bd.named
  have hnm := (name_of_methodNamed Bd.named Bd.method).1
  have X0 : Stand p l e ({ frames := 3, cells := 0, slots := 0, locals := 40 } : Room) s m #[(.ref vb), (.int (2 : Int32))] below meth c s₁ [] 0 0 := Stand.of_body Bd
  have e0 : s₁.heap = h0 := by rw [← hh, Bd.state]; rfl
  have N0 := Fr.nil n0
  refine own_start (ef_rs_uca32 m vb) ?_
  have hST0 := hST
  obtain ⟨S_cs, S_ad, S_hb, S_lb, S_sf, hcs, hvf⟩ := hST
  refine o_iloadN X0 hx hby D24_0 rfl ?_
  refine o_aloadN X0 hx hby D24_1 rfl rfl ?_
  refine kS X0 hx hZ hown hby (wd hw 105 rfl) (wd hw 106 rfl) (wd hw 24 rfl) (wd hw 107 rfl) (rs_uci3 l Z a0 hw [] (2 : Int32) vb kb c0 c1 c2 cs vf h0 n0 Z0 hST0 O0 Vb (by decide) (by decide)) (by decide) (by decide) (by decide) (by decide) (by decide) (by rw [hml]; rfl) [(.int (2 : Int32)), (.ref vb)] [] (lenOf pd__40I_91B_41V rfl) (W := 0) rfl rfl D24_2 rfl e0 ?_
  intro v1 T1 L1 X1 hQ1
  obtain ⟨rfl, N1q, e1⟩ := hQ1
  have N1 := Fr.app N0 N1q
  refine own_sh (A' := T1.setTop (mkF m 5 _ [])) ?_
  refine o_aloadN X1 hx hby D24_5 rfl rfl ?_
  refine o_iloadN X1 hx hby D24_6 rfl ?_
  refine kS X1 hx hZ hown hby (wd hw 99 rfl) (wd hw 100 rfl) (wd hw 24 rfl) (wd hw 101 rfl) (rs_gc32 l Z a0 hw [] vb kb c0 c1 c2 cs vf h0 n0 Z0 hST0 O0 Vb hc) (by decide) (by decide) (by decide) (by decide) (by decide) (by rw [hml]; rfl) [(.ref vb), (.int (2 : Int32))] [] (lenOf pd__40_91BI_41C rfl) (W := 0) rfl rfl D24_7 rfl e1 ?_
  intro v2 T2 L2 X2 hQ2
  obtain ⟨rfl, N2q, e2⟩ := hQ2
  have N2 := Fr.app N1 N2q
  refine own_sh (A' := T2.setTop (mkF m 10 _ [(.int c2)])) ?_
  exact own_ret (v := some (.int (nar .char c2))) X2 (fun h => by first | rfl | (rw [Bd.returns] at h; cases h)) (BodyLoose.notSynchronized Bd) (by decide) (by decide) (⟨by rw [own_nc hc], N2, e2⟩) (fun fs hr => retN X2 hx (t := .char) Bd.returns (by simp) (hb hby D24_10.1) hr)
theorem ef_rs_ca30 (m : MethodId) (st : Addr) : entryFrame m #[(.ref st), (.int (0 : Int32))] 2 = mkF m 0 #[.val (.ref st), .val (.int (0 : Int32))] [] := by first | (simp [entryFrame, mkF, argsToLocals, Value.category]; done) | rfl
set_option maxRecDepth 65536 in
set_option maxHeartbeats 40000000 in
theorem rs_ca30 (l : Launch) (Z : State) (a0 : Array Value) (hw : ∀ d ∈ tables_1, d.before a0 Z = true) (ws : List Jvm.Cond) (st : Addr) (vb : Addr) (kb : ClassId) (c0 c1 c2 : Int32) (cs : Int32) (vf : Value) (h0 : Heap) (n0 : Nat) (Z0 : n0 ≤ h0.size) (hST : own_ST Z cs vf) (O0 : Old Z n0 h0) (hS : own_Str3 Z h0 st vb kb c0 c1 c2) (hc0 : own_ch16 c0) (hc1 : own_ch16 c1) (hc2 : own_ch16 c2) :
    own_Mt l (⟨"java/lang/String", "charAt", "(I)C"⟩ : MethodName) jdk_42_method_56_code 2 (some .char) ({ frames := 4, cells := 0, slots := 0, locals := 53 } : Room) #[(.ref st), (.int (0 : Int32))] Z h0 (own_QP (.int c0) h0 n0) := by
  refine MetFree.of_bodySF (plainFor_of_name pn_java_lang_String) hisR ?_
  intro p e s m args below meth c s₁ Bd hml0 hP hK
  obtain ⟨rfl, hZ, hh⟩ := hP
  have hx := Bd.exec
  have hby := Bd.bytes
  have hml : c.maxLocals = 2 := hml0
  have hown : s.vm.findClass "java/lang/String" = some m.cls := findClass_of_methodNamed Bd.named
  have hnm := (name_of_methodNamed Bd.named Bd.method).1
  have X0 : Stand p l e ({ frames := 4, cells := 0, slots := 0, locals := 53 } : Room) s m #[(.ref st), (.int (0 : Int32))] below meth c s₁ [] 0 0 := Stand.of_body Bd
  have e0 : s₁.heap = h0 := by rw [← hh, Bd.state]; rfl
  have N0 := Fr.nil n0
  refine own_start (ef_rs_ca30 m st) ?_
  have hST0 := hST
  obtain ⟨S_cs, S_ad, S_hb, S_lb, S_sf, hcs, hvf⟩ := hST
  obtain ⟨E_st, F_v, ⟨F_c, hl0, hl1, hl2, Vb⟩ | ⟨F_c, Vb⟩⟩ := hS
  · skip
    refine o_aloadN X0 hx hby D13_0 rfl rfl ?_
    refine kV X0 hx hZ hown hby (wd hw 59 rfl) (wd hw 60 rfl) (wd hw 62 rfl) (wd hw 61 rfl) (wd hw 10 rfl) (wd hw 63 rfl) (own_nf hZ (wd hw 62 rfl)) E_st (rs_il0 l Z a0 hw [] st cs vf h0 n0 Z0 hST0 O0 F_c) (by decide) (by decide) (by decide) (by decide) (by decide) (by rw [hml]; rfl) [] [] (lenOf pd__40_41Z rfl) (W := 0) rfl rfl D13_1 rfl e0 ?_
    intro v1 T1 L1 X1 hQ1
    obtain ⟨rfl, N1q, e1⟩ := hQ1
    have N1 := Fr.app N0 N1q
    refine own_sh (A' := T1.setTop (mkF m 4 _ [(.int (1 : Int32))])) ?_
    refine o_ifN X1 hx hby D13_4 ((if0 _ _).trans (feq (by decide : ¬ ((1 : Int32) = (0 : Int32)))).1) ?_
    refine o_aloadN X1 hx hby D13_7 rfl rfl ?_
    obtain ⟨T2, X2, e2, st2⟩ := getF X1 hx hZ hown (host := "") (Or.inl (wd hw 35 rfl)) Via.refl e1 F_v (g := (mkF m 8 #[.val (.ref st), .val (.int (0 : Int32))] [(.ref st)])) rfl rfl (hb hby D13_8.1)
    refine own_pre (A' := T2.setTop (mkF m 11 #[.val (.ref st), .val (.int (0 : Int32))] [(.ref vb)])) st2 ?_
    refine o_iloadN X2 hx hby D13_11 rfl ?_
    refine kS X2 hx hZ hown hby (wd hw 64 rfl) (wd hw 65 rfl) (wd hw 66 rfl) (wd hw 67 rfl) (rs_lca30 l Z a0 hw [] vb kb c0 c1 c2 cs vf h0 n0 Z0 hST0 O0 Vb hc0 hl0) (by decide) (by decide) (by decide) (by decide) (by decide) (by rw [hml]; rfl) [(.ref vb), (.int (0 : Int32))] [] (lenOf pd__40_91BI_41C rfl) (W := 0) rfl rfl D13_12 rfl e2 ?_
    intro v3 T3 L3 X3 hQ3
    obtain ⟨rfl, N3q, e3⟩ := hQ3
    have N3 := Fr.app N1 N3q
    refine own_sh (A' := T3.setTop (mkF m 15 _ [(.int c0)])) ?_
    exact own_ret (v := some (.int (nar .char c0))) X3 (fun h => by first | rfl | (rw [Bd.returns] at h; cases h)) (BodyLoose.notSynchronized Bd) (by decide) (by decide) (⟨by rw [own_nc hc0], N3, e3⟩) (fun fs hr => retN X3 hx (t := .char) Bd.returns (by simp) (hb hby D13_15.1) hr)
  · skip
    refine o_aloadN X0 hx hby D13_0 rfl rfl ?_
    refine kV X0 hx hZ hown hby (wd hw 59 rfl) (wd hw 60 rfl) (wd hw 62 rfl) (wd hw 61 rfl) (wd hw 10 rfl) (wd hw 63 rfl) (own_nf hZ (wd hw 62 rfl)) E_st (rs_il1 l Z a0 hw [] st cs vf h0 n0 Z0 hST0 O0 F_c) (by decide) (by decide) (by decide) (by decide) (by decide) (by rw [hml]; rfl) [] [] (lenOf pd__40_41Z rfl) (W := 0) rfl rfl D13_1 rfl e0 ?_
    intro v4 T4 L4 X4 hQ4
    obtain ⟨rfl, N4q, e4⟩ := hQ4
    have N4 := Fr.app N0 N4q
    refine own_sh (A' := T4.setTop (mkF m 4 _ [(.int (0 : Int32))])) ?_
    refine o_ifY X4 hx hby D13_4 ((if0 _ _).trans (teq (by decide : (0 : Int32) = (0 : Int32))).1) (q := 16) (by decide) (by decide) ?_
    refine o_aloadN X4 hx hby D13_16 rfl rfl ?_
    obtain ⟨T5, X5, e5, st5⟩ := getF X4 hx hZ hown (host := "") (Or.inl (wd hw 35 rfl)) Via.refl e4 F_v (g := (mkF m 17 #[.val (.ref st), .val (.int (0 : Int32))] [(.ref st)])) rfl rfl (hb hby D13_17.1)
    refine own_pre (A' := T5.setTop (mkF m 20 #[.val (.ref st), .val (.int (0 : Int32))] [(.ref vb)])) st5 ?_
    refine o_iloadN X5 hx hby D13_20 rfl ?_
    refine kS X5 hx hZ hown hby (wd hw 102 rfl) (wd hw 103 rfl) (wd hw 24 rfl) (wd hw 104 rfl) (rs_uca30 l Z a0 hw [] vb kb c0 c1 c2 cs vf h0 n0 Z0 hST0 O0 Vb hc0) (by decide) (by decide) (by decide) (by decide) (by decide) (by rw [hml]; rfl) [(.ref vb), (.int (0 : Int32))] [] (lenOf pd__40_91BI_41C rfl) (W := 0) rfl rfl D13_21 rfl e5 ?_
    intro v6 T6 L6 X6 hQ6
    obtain ⟨rfl, N6q, e6⟩ := hQ6
    have N6 := Fr.app N4 N6q
    refine own_sh (A' := T6.setTop (mkF m 24 _ [(.int c0)])) ?_
    exact own_ret (v := some (.int (nar .char c0))) X6 (fun h => by first | rfl | (rw [Bd.returns] at h; cases h)) (BodyLoose.notSynchronized Bd) (by decide) (by decide) (⟨by rw [own_nc hc0], N6, e6⟩) (fun fs hr => retN X6 hx (t := .char) Bd.returns (by simp) (hb hby D13_24.1) hr)
theorem ef_rs_ca31 (m : MethodId) (st : Addr) : entryFrame m #[(.ref st), (.int (1 : Int32))] 2 = mkF m 0 #[.val (.ref st), .val (.int (1 : Int32))] [] := by first | (simp [entryFrame, mkF, argsToLocals, Value.category]; done) | rfl
set_option maxRecDepth 65536 in
set_option maxHeartbeats 40000000 in
theorem rs_ca31 (l : Launch) (Z : State) (a0 : Array Value) (hw : ∀ d ∈ tables_1, d.before a0 Z = true) (ws : List Jvm.Cond) (st : Addr) (vb : Addr) (kb : ClassId) (c0 c1 c2 : Int32) (cs : Int32) (vf : Value) (h0 : Heap) (n0 : Nat) (Z0 : n0 ≤ h0.size) (hST : own_ST Z cs vf) (O0 : Old Z n0 h0) (hS : own_Str3 Z h0 st vb kb c0 c1 c2) (hc0 : own_ch16 c0) (hc1 : own_ch16 c1) (hc2 : own_ch16 c2) :
    own_Mt l (⟨"java/lang/String", "charAt", "(I)C"⟩ : MethodName) jdk_42_method_56_code 2 (some .char) ({ frames := 4, cells := 0, slots := 0, locals := 53 } : Room) #[(.ref st), (.int (1 : Int32))] Z h0 (own_QP (.int c1) h0 n0) := by
  refine MetFree.of_bodySF (plainFor_of_name pn_java_lang_String) hisR ?_
  intro p e s m args below meth c s₁ Bd hml0 hP hK
  obtain ⟨rfl, hZ, hh⟩ := hP
  have hx := Bd.exec
  have hby := Bd.bytes
  have hml : c.maxLocals = 2 := hml0
  have hown : s.vm.findClass "java/lang/String" = some m.cls := findClass_of_methodNamed Bd.named
  have hnm := (name_of_methodNamed Bd.named Bd.method).1
  have X0 : Stand p l e ({ frames := 4, cells := 0, slots := 0, locals := 53 } : Room) s m #[(.ref st), (.int (1 : Int32))] below meth c s₁ [] 0 0 := Stand.of_body Bd
  have e0 : s₁.heap = h0 := by rw [← hh, Bd.state]; rfl
  have N0 := Fr.nil n0
  refine own_start (ef_rs_ca31 m st) ?_
  have hST0 := hST
  obtain ⟨S_cs, S_ad, S_hb, S_lb, S_sf, hcs, hvf⟩ := hST
  obtain ⟨E_st, F_v, ⟨F_c, hl0, hl1, hl2, Vb⟩ | ⟨F_c, Vb⟩⟩ := hS
  · skip
    refine o_aloadN X0 hx hby D13_0 rfl rfl ?_
    refine kV X0 hx hZ hown hby (wd hw 59 rfl) (wd hw 60 rfl) (wd hw 62 rfl) (wd hw 61 rfl) (wd hw 10 rfl) (wd hw 63 rfl) (own_nf hZ (wd hw 62 rfl)) E_st (rs_il0 l Z a0 hw [] st cs vf h0 n0 Z0 hST0 O0 F_c) (by decide) (by decide) (by decide) (by decide) (by decide) (by rw [hml]; rfl) [] [] (lenOf pd__40_41Z rfl) (W := 0) rfl rfl D13_1 rfl e0 ?_
    intro v1 T1 L1 X1 hQ1
    obtain ⟨rfl, N1q, e1⟩ := hQ1
    have N1 := Fr.app N0 N1q
    refine own_sh (A' := T1.setTop (mkF m 4 _ [(.int (1 : Int32))])) ?_
    refine o_ifN X1 hx hby D13_4 ((if0 _ _).trans (feq (by decide : ¬ ((1 : Int32) = (0 : Int32)))).1) ?_
    refine o_aloadN X1 hx hby D13_7 rfl rfl ?_
    obtain ⟨T2, X2, e2, st2⟩ := getF X1 hx hZ hown (host := "") (Or.inl (wd hw 35 rfl)) Via.refl e1 F_v (g := (mkF m 8 #[.val (.ref st), .val (.int (1 : Int32))] [(.ref st)])) rfl rfl (hb hby D13_8.1)
    refine own_pre (A' := T2.setTop (mkF m 11 #[.val (.ref st), .val (.int (1 : Int32))] [(.ref vb)])) st2 ?_
    refine o_iloadN X2 hx hby D13_11 rfl ?_
    refine kS X2 hx hZ hown hby (wd hw 64 rfl) (wd hw 65 rfl) (wd hw 66 rfl) (wd hw 67 rfl) (rs_lca31 l Z a0 hw [] vb kb c0 c1 c2 cs vf h0 n0 Z0 hST0 O0 Vb hc1 hl1) (by decide) (by decide) (by decide) (by decide) (by decide) (by rw [hml]; rfl) [(.ref vb), (.int (1 : Int32))] [] (lenOf pd__40_91BI_41C rfl) (W := 0) rfl rfl D13_12 rfl e2 ?_
    intro v3 T3 L3 X3 hQ3
    obtain ⟨rfl, N3q, e3⟩ := hQ3
    have N3 := Fr.app N1 N3q
    refine own_sh (A' := T3.setTop (mkF m 15 _ [(.int c1)])) ?_
    exact own_ret (v := some (.int (nar .char c1))) X3 (fun h => by first | rfl | (rw [Bd.returns] at h; cases h)) (BodyLoose.notSynchronized Bd) (by decide) (by decide) (⟨by rw [own_nc hc1], N3, e3⟩) (fun fs hr => retN X3 hx (t := .char) Bd.returns (by simp) (hb hby D13_15.1) hr)
  · skip
    refine o_aloadN X0 hx hby D13_0 rfl rfl ?_
    refine kV X0 hx hZ hown hby (wd hw 59 rfl) (wd hw 60 rfl) (wd hw 62 rfl) (wd hw 61 rfl) (wd hw 10 rfl) (wd hw 63 rfl) (own_nf hZ (wd hw 62 rfl)) E_st (rs_il1 l Z a0 hw [] st cs vf h0 n0 Z0 hST0 O0 F_c) (by decide) (by decide) (by decide) (by decide) (by decide) (by rw [hml]; rfl) [] [] (lenOf pd__40_41Z rfl) (W := 0) rfl rfl D13_1 rfl e0 ?_
    intro v4 T4 L4 X4 hQ4
    obtain ⟨rfl, N4q, e4⟩ := hQ4
    have N4 := Fr.app N0 N4q
    refine own_sh (A' := T4.setTop (mkF m 4 _ [(.int (0 : Int32))])) ?_
    refine o_ifY X4 hx hby D13_4 ((if0 _ _).trans (teq (by decide : (0 : Int32) = (0 : Int32))).1) (q := 16) (by decide) (by decide) ?_
    refine o_aloadN X4 hx hby D13_16 rfl rfl ?_
    obtain ⟨T5, X5, e5, st5⟩ := getF X4 hx hZ hown (host := "") (Or.inl (wd hw 35 rfl)) Via.refl e4 F_v (g := (mkF m 17 #[.val (.ref st), .val (.int (1 : Int32))] [(.ref st)])) rfl rfl (hb hby D13_17.1)
    refine own_pre (A' := T5.setTop (mkF m 20 #[.val (.ref st), .val (.int (1 : Int32))] [(.ref vb)])) st5 ?_
    refine o_iloadN X5 hx hby D13_20 rfl ?_
    refine kS X5 hx hZ hown hby (wd hw 102 rfl) (wd hw 103 rfl) (wd hw 24 rfl) (wd hw 104 rfl) (rs_uca31 l Z a0 hw [] vb kb c0 c1 c2 cs vf h0 n0 Z0 hST0 O0 Vb hc1) (by decide) (by decide) (by decide) (by decide) (by decide) (by rw [hml]; rfl) [(.ref vb), (.int (1 : Int32))] [] (lenOf pd__40_91BI_41C rfl) (W := 0) rfl rfl D13_21 rfl e5 ?_
    intro v6 T6 L6 X6 hQ6
    obtain ⟨rfl, N6q, e6⟩ := hQ6
    have N6 := Fr.app N4 N6q
    refine own_sh (A' := T6.setTop (mkF m 24 _ [(.int c1)])) ?_
    exact own_ret (v := some (.int (nar .char c1))) X6 (fun h => by first | rfl | (rw [Bd.returns] at h; cases h)) (BodyLoose.notSynchronized Bd) (by decide) (by decide) (⟨by rw [own_nc hc1], N6, e6⟩) (fun fs hr => retN X6 hx (t := .char) Bd.returns (by simp) (hb hby D13_24.1) hr)
theorem ef_rs_ca32 (m : MethodId) (st : Addr) : entryFrame m #[(.ref st), (.int (2 : Int32))] 2 = mkF m 0 #[.val (.ref st), .val (.int (2 : Int32))] [] := by first | (simp [entryFrame, mkF, argsToLocals, Value.category]; done) | rfl
set_option maxRecDepth 65536 in
set_option maxHeartbeats 40000000 in
theorem rs_ca32 (l : Launch) (Z : State) (a0 : Array Value) (hw : ∀ d ∈ tables_1, d.before a0 Z = true) (ws : List Jvm.Cond) (st : Addr) (vb : Addr) (kb : ClassId) (c0 c1 c2 : Int32) (cs : Int32) (vf : Value) (h0 : Heap) (n0 : Nat) (Z0 : n0 ≤ h0.size) (hST : own_ST Z cs vf) (O0 : Old Z n0 h0) (hS : own_Str3 Z h0 st vb kb c0 c1 c2) (hc0 : own_ch16 c0) (hc1 : own_ch16 c1) (hc2 : own_ch16 c2) :
    own_Mt l (⟨"java/lang/String", "charAt", "(I)C"⟩ : MethodName) jdk_42_method_56_code 2 (some .char) ({ frames := 4, cells := 0, slots := 0, locals := 53 } : Room) #[(.ref st), (.int (2 : Int32))] Z h0 (own_QP (.int c2) h0 n0) := by
  refine MetFree.of_bodySF (plainFor_of_name pn_java_lang_String) hisR ?_
  intro p e s m args below meth c s₁ Bd hml0 hP hK
  obtain ⟨rfl, hZ, hh⟩ := hP
  have hx := Bd.exec
  have hby := Bd.bytes
  have hml : c.maxLocals = 2 := hml0
  have hown : s.vm.findClass "java/lang/String" = some m.cls := findClass_of_methodNamed Bd.named
  have hnm := (name_of_methodNamed Bd.named Bd.method).1
  have X0 : Stand p l e ({ frames := 4, cells := 0, slots := 0, locals := 53 } : Room) s m #[(.ref st), (.int (2 : Int32))] below meth c s₁ [] 0 0 := Stand.of_body Bd
  have e0 : s₁.heap = h0 := by rw [← hh, Bd.state]; rfl
  have N0 := Fr.nil n0
  refine own_start (ef_rs_ca32 m st) ?_
  have hST0 := hST
  obtain ⟨S_cs, S_ad, S_hb, S_lb, S_sf, hcs, hvf⟩ := hST
  obtain ⟨E_st, F_v, ⟨F_c, hl0, hl1, hl2, Vb⟩ | ⟨F_c, Vb⟩⟩ := hS
  · skip
    refine o_aloadN X0 hx hby D13_0 rfl rfl ?_
    refine kV X0 hx hZ hown hby (wd hw 59 rfl) (wd hw 60 rfl) (wd hw 62 rfl) (wd hw 61 rfl) (wd hw 10 rfl) (wd hw 63 rfl) (own_nf hZ (wd hw 62 rfl)) E_st (rs_il0 l Z a0 hw [] st cs vf h0 n0 Z0 hST0 O0 F_c) (by decide) (by decide) (by decide) (by decide) (by decide) (by rw [hml]; rfl) [] [] (lenOf pd__40_41Z rfl) (W := 0) rfl rfl D13_1 rfl e0 ?_
    intro v1 T1 L1 X1 hQ1
    obtain ⟨rfl, N1q, e1⟩ := hQ1
    have N1 := Fr.app N0 N1q
    refine own_sh (A' := T1.setTop (mkF m 4 _ [(.int (1 : Int32))])) ?_
    refine o_ifN X1 hx hby D13_4 ((if0 _ _).trans (feq (by decide : ¬ ((1 : Int32) = (0 : Int32)))).1) ?_
    refine o_aloadN X1 hx hby D13_7 rfl rfl ?_
    obtain ⟨T2, X2, e2, st2⟩ := getF X1 hx hZ hown (host := "") (Or.inl (wd hw 35 rfl)) Via.refl e1 F_v (g := (mkF m 8 #[.val (.ref st), .val (.int (2 : Int32))] [(.ref st)])) rfl rfl (hb hby D13_8.1)
    refine own_pre (A' := T2.setTop (mkF m 11 #[.val (.ref st), .val (.int (2 : Int32))] [(.ref vb)])) st2 ?_
    refine o_iloadN X2 hx hby D13_11 rfl ?_
    refine kS X2 hx hZ hown hby (wd hw 64 rfl) (wd hw 65 rfl) (wd hw 66 rfl) (wd hw 67 rfl) (rs_lca32 l Z a0 hw [] vb kb c0 c1 c2 cs vf h0 n0 Z0 hST0 O0 Vb hc2 hl2) (by decide) (by decide) (by decide) (by decide) (by decide) (by rw [hml]; rfl) [(.ref vb), (.int (2 : Int32))] [] (lenOf pd__40_91BI_41C rfl) (W := 0) rfl rfl D13_12 rfl e2 ?_
    intro v3 T3 L3 X3 hQ3
    obtain ⟨rfl, N3q, e3⟩ := hQ3
    have N3 := Fr.app N1 N3q
    refine own_sh (A' := T3.setTop (mkF m 15 _ [(.int c2)])) ?_
    exact own_ret (v := some (.int (nar .char c2))) X3 (fun h => by first | rfl | (rw [Bd.returns] at h; cases h)) (BodyLoose.notSynchronized Bd) (by decide) (by decide) (⟨by rw [own_nc hc2], N3, e3⟩) (fun fs hr => retN X3 hx (t := .char) Bd.returns (by simp) (hb hby D13_15.1) hr)
  · skip
    refine o_aloadN X0 hx hby D13_0 rfl rfl ?_
    refine kV X0 hx hZ hown hby (wd hw 59 rfl) (wd hw 60 rfl) (wd hw 62 rfl) (wd hw 61 rfl) (wd hw 10 rfl) (wd hw 63 rfl) (own_nf hZ (wd hw 62 rfl)) E_st (rs_il1 l Z a0 hw [] st cs vf h0 n0 Z0 hST0 O0 F_c) (by decide) (by decide) (by decide) (by decide) (by decide) (by rw [hml]; rfl) [] [] (lenOf pd__40_41Z rfl) (W := 0) rfl rfl D13_1 rfl e0 ?_
    intro v4 T4 L4 X4 hQ4
    obtain ⟨rfl, N4q, e4⟩ := hQ4
    have N4 := Fr.app N0 N4q
    refine own_sh (A' := T4.setTop (mkF m 4 _ [(.int (0 : Int32))])) ?_
    refine o_ifY X4 hx hby D13_4 ((if0 _ _).trans (teq (by decide : (0 : Int32) = (0 : Int32))).1) (q := 16) (by decide) (by decide) ?_
    refine o_aloadN X4 hx hby D13_16 rfl rfl ?_
    obtain ⟨T5, X5, e5, st5⟩ := getF X4 hx hZ hown (host := "") (Or.inl (wd hw 35 rfl)) Via.refl e4 F_v (g := (mkF m 17 #[.val (.ref st), .val (.int (2 : Int32))] [(.ref st)])) rfl rfl (hb hby D13_17.1)
    refine own_pre (A' := T5.setTop (mkF m 20 #[.val (.ref st), .val (.int (2 : Int32))] [(.ref vb)])) st5 ?_
    refine o_iloadN X5 hx hby D13_20 rfl ?_
    refine kS X5 hx hZ hown hby (wd hw 102 rfl) (wd hw 103 rfl) (wd hw 24 rfl) (wd hw 104 rfl) (rs_uca32 l Z a0 hw [] vb kb c0 c1 c2 cs vf h0 n0 Z0 hST0 O0 Vb hc2) (by decide) (by decide) (by decide) (by decide) (by decide) (by rw [hml]; rfl) [(.ref vb), (.int (2 : Int32))] [] (lenOf pd__40_91BI_41C rfl) (W := 0) rfl rfl D13_21 rfl e5 ?_
    intro v6 T6 L6 X6 hQ6
    obtain ⟨rfl, N6q, e6⟩ := hQ6
    have N6 := Fr.app N4 N6q
    refine own_sh (A' := T6.setTop (mkF m 24 _ [(.int c2)])) ?_
    exact own_ret (v := some (.int (nar .char c2))) X6 (fun h => by first | rfl | (rw [Bd.returns] at h; cases h)) (BodyLoose.notSynchronized Bd) (by decide) (by decide) (⟨by rw [own_nc hc2], N6, e6⟩) (fun fs hr => retN X6 hx (t := .char) Bd.returns (by simp) (hb hby D13_24.1) hr)

def own_EL : List (String × Nat) := [("java/lang/String", 7)]
def own_RS (Z : State) (s : State) (below : List Frame) (Q : Option Value → Heap → List Loc → Prop) (C S : Nat) (t : State) (o : Outcome) : Prop :=
  t.status = .running ∧ Ended t below o ∧ ∃ v L, o = .returned v ∧ Q v t.heap L ∧ CHr Z own_EL s.vm s.heap t.vm t.heap ∧ ReturnedEndW s o t L C S
theorem own_startS {tb : Tables} {e : Env} {below : List Frame} {Z s T : State} {Q : Option Value → Heap → List Loc → Prop} {C S : Nat} {g g' : JFrame} (q : g = g') (k : own_Fin tb e below (own_RS Z s below Q C S) (T.setTop g')) :
    ∃ s₂ o, Steps tb e below (T.setTop g) s₂ ∧ s₂.status = .running ∧ Ended s₂ below o ∧ ∃ v L, o = .returned v ∧ Q v s₂.heap L ∧ CHr Z own_EL s.vm s.heap s₂.vm s₂.heap ∧ ReturnedEndW s o s₂ L C S := by
  subst q; exact k
def own_RW (s : State) (below : List Frame) (Q : Option Value → Heap → List Loc → Prop) (C S : Nat) (t : State) (o : Outcome) : Prop :=
  t.status = .running ∧ Ended t below o ∧ ∃ v L, o = .returned v ∧ Q v t.heap L ∧ ReturnedEndW s o t L C S
theorem own_startW {tb : Tables} {e : Env} {below : List Frame} {s T : State} {Q : Option Value → Heap → List Loc → Prop} {C S : Nat} {g g' : JFrame} (q : g = g') (k : own_Fin tb e below (own_RW s below Q C S) (T.setTop g')) :
    ∃ s₂ o, Steps tb e below (T.setTop g) s₂ ∧ s₂.status = .running ∧ Ended s₂ below o ∧ ∃ v L, o = .returned v ∧ Q v s₂.heap L ∧ ReturnedEndW s o s₂ L C S := by
  subst q; exact k
section RetS
variable {p : Program} {l : Launch} {e : Env} {R : Room} {s : State} {m : MethodId} {args : Array Value} {below : List Frame} {meth : Method} {c : Code} {T : State} {locs : List Loc} {cells slots : Nat} {Z : State} {vm0 : Vm} {k0 : Nat}
theorem own_retS {Q : Option Value → Heap → List Loc → Prop} {C S : Nat} {A : State} {v : Option Value} (X : Stand p l e R (s.setVm vm0) m args below meth c T locs cells slots) (hS : s.Since vm0 k0) (hk : k0 ≤ T.heap.size) (hCH : CHr Z own_EL s.vm s.heap T.vm T.heap) (hv : meth.sig.returnType = none → v = none) (hlocks : meth.locks = false) (hc : cells ≤ C) (hs : slots ≤ S) (hQ : Q v T.heap locs)
    (hstep : ∀ fs, (∀ (f : JFrame) (acts : List Action), f.method = m → f.locked = none → f.entered = [] → (doReturn e (T.setTop f) acts v).1 = T.setFrames fs) → Steps p.tables e below A (T.setFrames fs)) : own_Fin p.tables e below (own_RS Z s below Q C S) A := by
  obtain ⟨fs, hr, hrun, hended, hW, hsame⟩ := X.leave hv hlocks
  obtain ⟨h1, h2, h3⟩ := hS.ended hW hk hsame
  exact ⟨_, _, hstep fs hr, hrun, hended, _, _, rfl, hQ, hCH, ⟨_, rfl⟩, h1, h2, h3.mono hc hs⟩
theorem own_retWS {Q : Option Value → Heap → List Loc → Prop} {C S : Nat} {A : State} {v : Option Value} (X : Stand p l e R (s.setVm vm0) m args below meth c T locs cells slots) (hS : s.Since vm0 k0) (hk : k0 ≤ T.heap.size) (hv : meth.sig.returnType = none → v = none) (hlocks : meth.locks = false) (hc : cells ≤ C) (hs : slots ≤ S) (hQ : Q v T.heap locs)
    (hstep : ∀ fs, (∀ (f : JFrame) (acts : List Action), f.method = m → f.locked = none → f.entered = [] → (doReturn e (T.setTop f) acts v).1 = T.setFrames fs) → Steps p.tables e below A (T.setFrames fs)) : own_Fin p.tables e below (own_RW s below Q C S) A := by
  obtain ⟨fs, hr, hrun, hended, hW, hsame⟩ := X.leave hv hlocks
  obtain ⟨h1, h2, h3⟩ := hS.ended hW hk hsame
  exact ⟨_, _, hstep fs hr, hrun, hended, _, _, rfl, hQ, ⟨_, rfl⟩, h1, h2, h3.mono hc hs⟩
theorem own_retW {Q : Option Value → Heap → List Loc → Prop} {C S : Nat} {A : State} {v : Option Value} (X : Stand p l e R s m args below meth c T locs cells slots) (hv : meth.sig.returnType = none → v = none) (hlocks : meth.locks = false) (hc : cells ≤ C) (hs : slots ≤ S) (hQ : Q v T.heap locs)
    (hstep : ∀ fs, (∀ (f : JFrame) (acts : List Action), f.method = m → f.locked = none → f.entered = [] → (doReturn e (T.setTop f) acts v).1 = T.setFrames fs) → Steps p.tables e below A (T.setFrames fs)) : own_Fin p.tables e below (own_RW s below Q C S) A := by
  obtain ⟨fs, hr, hrun, hended, hW, hsame⟩ := X.leave hv hlocks
  exact ⟨_, _, hstep fs hr, hrun, hended, _, _, rfl, hQ, ReturnedEndW.of_narrow ⟨_, rfl⟩ hW (hsame.mono hc hs)⟩
end RetS

theorem own_safe {Z : State} {EL : List (String × Nat)} {vm : Vm} {h : Heap} {x : Addr} (hal : Z.vm.Alike vm) (E : Exa Z h x "java/lang/String") (F : Fld Z h x "java/lang/String" "value" "[B" .null) : Safe Z EL vm h x := fun B => by
  obtain ⟨cell, k, e1, e2, e3, -, -⟩ := E
  obtain ⟨cell', cf, kf, i, f, g1, g2, g3, g4, -, -, g7⟩ := F
  obtain ⟨p, -, u, a, -, q, -, G, rfl | rfl⟩ := B
  · cases (show h[q.sa]? = some q.sC from G.ha).symm.trans g1
    obtain ⟨cS, ⟨⟨-, -, -, ⟨c1, k1, i1, f1, -⟩, -, -, -, v1, -⟩, -⟩, -⟩ := G
    obtain ⟨k3, e5, -⟩ := State.fieldFound?_setVm (s := Z) hal g2
    have e4 := (show (Wst Z vm h).fieldFound? _ _ _ = _ from e5).symm.trans f1
    simp only [Option.some.injEq, Prod.mk.injEq] at e4
    rw [← e4.2.2.2, g7] at v1
    simp at v1
  · cases (show h[q.sd]? = some q.SA from G.hd).symm.trans e1
    obtain ⟨cS, -, -, fb, -⟩ := G
    have fb' : Z.vm.findClass "[B" = some q.SA.cls := by rw [← hal.findClass]; exact fb
    obtain ⟨k1, q1, q2⟩ := Vm.findClass_spec fb'
    obtain ⟨k2, q3, q4⟩ := Vm.findClass_spec e2
    cases q1.symm.trans q3
    exact absurd (q2.symm.trans q4) (by decide)
theorem own_wS {Z : State} {a0 : Array Value} (hw : ∀ d ∈ tables_1, d.before a0 Z = true) : ∀ a ∈ Bundle.stringAtoms, a.before a0 Z = true := by
  intro a ha
  simp only [Bundle.stringAtoms, List.mem_cons, List.not_mem_nil, or_false] at ha
  rcases ha with rfl | rfl | rfl | rfl | rfl | rfl | rfl
  · exact (wd hw 10 rfl)
  · exact (wd hw 9 rfl)
  · exact (wd hw 26 rfl)
  · exact (wd hw 36 rfl)
  · exact (wd hw 34 rfl)
  · exact (wd hw 81 rfl)
  · exact (wd hw 82 rfl)
theorem own_ew {Z : State} {a0 : Array Value} (hw : ∀ d ∈ tables_1, d.before a0 Z = true) : EW Z a0 own_EL := EW.cons (text := "") (wd hw 80 rfl) (fun c hc => by cases hc) EW.nil
def own_QI0 (Z : State) (a1 : Addr) (h0 : Heap) (n0 : Nat) (v : Option Value) (h : Heap) (L : List Loc) : Prop := ∃ (vb : Nat) (kb : ClassId), v = none ∧ Fr n0 L ∧ Keep h0 h [a1] ∧ vb < h.size ∧ own_Str0 Z h a1 vb kb
theorem D4_8 : own_at jdk_42_method_149_code 8 (.aload_n 0) 1 9 := ⟨by decide +kernel, rfl⟩
theorem D4_9 : own_at jdk_42_method_149_code 9 (.ldc 7) 2 11 := ⟨by decide +kernel, rfl⟩
theorem D4_11 : own_at jdk_42_method_149_code 11 (.getfield 9) 3 14 := ⟨by decide +kernel, rfl⟩
theorem D4_14 : own_at jdk_42_method_149_code 14 (.putfield 9) 3 17 := ⟨by decide +kernel, rfl⟩
theorem D4_17 : own_at jdk_42_method_149_code 17 (.aload_n 0) 1 18 := ⟨by decide +kernel, rfl⟩
theorem D4_18 : own_at jdk_42_method_149_code 18 (.ldc 7) 2 20 := ⟨by decide +kernel, rfl⟩
theorem D4_20 : own_at jdk_42_method_149_code 20 (.getfield 15) 3 23 := ⟨by decide +kernel, rfl⟩
theorem D4_23 : own_at jdk_42_method_149_code 23 (.putfield 15) 3 26 := ⟨by decide +kernel, rfl⟩
theorem D4_26 : own_at jdk_42_method_149_code 26 (.return_) 1 27 := ⟨by decide +kernel, rfl⟩
theorem ef_rs_i40 (m : MethodId) (a1 : Addr) (ca : Addr) : entryFrame m #[(.ref a1), (.ref ca), (.int (0 : Int32)), (.int (0 : Int32)), .null] 6 = mkF m 0 #[.val (.ref a1), .val (.ref ca), .val (.int (0 : Int32)), .val (.int (0 : Int32)), .val .null, .unset] [] := by first | (simp [entryFrame, mkF, argsToLocals, Value.category]; done) | rfl
set_option maxRecDepth 65536 in
set_option maxHeartbeats 40000000 in
theorem rs_i40 (l : Launch) (Z : State) (a0 : Array Value) (hw : ∀ d ∈ tables_1, d.before a0 Z = true) (ws : List Jvm.Cond) (a1 : Addr) (ca : Addr) (u1 : Value) (h0 : Heap) (n0 : Nat) (Z0 : n0 ≤ h0.size) (gn_a1 : n0 ≤ a1) (E_a1 : Exa Z h0 a1 "java/lang/String") (F_v : Fld Z h0 a1 "java/lang/String" "value" "[B" .null) (F_c : Fld Z h0 a1 "java/lang/String" "coder" "B" u1) :
    MetFree l (⟨"java/lang/String", "<init>", "([CIILjava/lang/Void;)V"⟩ : MethodName) (head1 (Jvm.Cond.code (⟨"java/lang/String", "<init>", "([CIILjava/lang/Void;)V"⟩ : MethodName) jdk_42_method_149_code 6 none :: ws) ({ frames := 1, cells := 2, slots := 4, locals := 12 } : Room)) (fun a U => a = #[(.ref a1), (.ref ca), (.int (0 : Int32)), (.int (0 : Int32)), .null] ∧ Z.Warmed39 U.vm ∧ U.heap = h0 ∧ CHv Z own_EL U.vm h0) (fun _ _ _ _ _ => True) (fun _ U o U' => ∃ v L, o = .returned v ∧ own_QI0 Z a1 h0 n0 v U'.heap L ∧ CHr Z own_EL U.vm U.heap U'.vm U'.heap ∧ ReturnedEndW U o U' L ({ frames := 1, cells := 2, slots := 4, locals := 12 } : Room).cells ({ frames := 1, cells := 2, slots := 4, locals := 12 } : Room).slots) := by
  refine MetFree.of_bodySF (plainFor_of_name pn_java_lang_String) hisR ?_
  intro p e s m args below meth c s₁ Bd hml0 hP hK
  obtain ⟨rfl, hZ, hh, hCH⟩ := hP
  have hx := Bd.exec
  have hby := Bd.bytes
  have hml : c.maxLocals = 6 := hml0
  have hown : s.vm.findClass "java/lang/String" = some m.cls := findClass_of_methodNamed Bd.named
  have hnm := (name_of_methodNamed Bd.named Bd.method).1
  have X0 : Stand p l e ({ frames := 1, cells := 2, slots := 4, locals := 12 } : Room) s m #[(.ref a1), (.ref ca), (.int (0 : Int32)), (.int (0 : Int32)), .null] below meth c s₁ [] 0 0 := Stand.of_body Bd
  have e0 : s₁.heap = h0 := by rw [← hh, Bd.state]; rfl
  have N0 := Fr.nil n0
  refine own_startS (ef_rs_i40 m a1 ca) ?_
  have hZ0 := hZ
  have lt_a1 := own_ltN E_a1.lt
  refine o_aloadN X0 hx hby D4_0 rfl rfl ?_
  obtain ⟨T1, X1, e1, st1⟩ := initO X0 hx hZ hown (wd hw 18 rfl) (wd hw 19 rfl) (wd hw 20 rfl) e0 (g := (mkF m 1 #[.val (.ref a1), .val (.ref ca), .val (.int (0 : Int32)), .val (.int (0 : Int32)), .val .null, .unset] [(.ref a1)])) rfl (by rw [hml]; rfl) rfl (hb hby D4_1.1) (by decide) (W := 0) (by show 2 * 0 + _ ≤ _; exact Nat.le_of_eq rfl) (by decide)
  refine own_pre (A' := T1.setTop (mkF m 4 #[.val (.ref a1), .val (.ref ca), .val (.int (0 : Int32)), .val (.int (0 : Int32)), .val .null, .unset] [])) st1 ?_
  refine o_iloadN X1 hx hby D4_4 rfl ?_
  refine o_ifN X1 hx hby D4_5 ((if0 _ _).trans (teq (rfl : (0 : Int32) = (0 : Int32))).2) ?_
  refine o_aloadN X1 hx hby D4_8 rfl rfl ?_
  have hEL := own_ew hw
  obtain ⟨sa, T2, h2, k2, sb, kb, X2, e2, E2, hS2, hk2, hZ, hown, Esa, Fsc, Fsv, Vsb, lta, ltb, CH2, Lit2, hsf2, st2⟩ := ldcCH (s := s) (vm0 := s.vm) (EL := own_EL) (own := "java/lang/String") (text := "") X1 hx hZ hown (wd hw 80 rfl) (own_wS hw) e1 ((State.WarmedH.refl s).since h0.size) (Nat.le_refl _) hEL (by simp [own_EL]) hCH (vs := []) (z := (0 : Int32)) ⟨(fun c hc => by cases hc), rfl⟩ (by decide) rfl (g := (mkF m 9 #[.val (.ref a1), .val (.ref ca), .val (.int (0 : Int32)), .val (.int (0 : Int32)), .val .null, .unset] [(.ref a1)])) rfl (hb hby D4_9.1) (n := 0) (by decide) (by decide) (by decide) (by decide)
  have sz2 := own_leN E2.1
  have sa1 : Safe Z own_EL T2.vm h2 a1 := CH2.safe lt_a1 (own_safe hZ0.alike E_a1 F_v)
  have hk2' := own_leN hk2
  have na := hsf2 a1 sa1
  have na1 : sa ≠ a1 := na.1.symm
  have na2 : sb ≠ a1 := na.2.symm
  have ltb' := own_ltN ltb
  refine own_pre (A' := T2.setTop (mkF m 11 #[.val (.ref a1), .val (.ref ca), .val (.int (0 : Int32)), .val (.int (0 : Int32)), .val .null, .unset] [(.ref sa), (.ref a1)])) st2 ?_
  obtain ⟨T3, X3, e3, st3⟩ := getF X2 hx hZ hown (host := "") (Or.inl (wd hw 35 rfl)) Via.refl e2 Fsv (g := (mkF m 11 #[.val (.ref a1), .val (.ref ca), .val (.int (0 : Int32)), .val (.int (0 : Int32)), .val .null, .unset] [(.ref sa), (.ref a1)])) rfl rfl (hb hby D4_11.1)
  refine own_pre (A' := T3.setTop (mkF m 14 #[.val (.ref a1), .val (.ref ca), .val (.int (0 : Int32)), .val (.int (0 : Int32)), .val .null, .unset] [(.ref sb), (.ref a1)])) st3 ?_
  have c5_F_a1_value := (F_v.ext E2)
  have c6_E_a1 := (E_a1.ext E2)
  obtain ⟨T4, h4, X4, e4, W4, st4⟩ := putF X3 hx hZ hown (host := "") (Or.inl (wd hw 35 rfl)) Via.refl e3 c5_F_a1_value c6_E_a1 (Or.inr ⟨(wd hw 36 rfl), rfl, hnm⟩) (wd hw 9 rfl) (ty := (.array .byte)) (by decide) rfl rfl (g := (mkF m 14 #[.val (.ref a1), .val (.ref ca), .val (.int (0 : Int32)), .val (.int (0 : Int32)), .val .null, .unset] [(.ref sb), (.ref a1)])) rfl rfl (hb hby D4_14.1)
  have Fw4 := c5_F_a1_value.same W4
  have sz4 := own_leN (Keep.of_wr W4).1
  have N4 := Fr.snoc X4 N0 gn_a1
  refine own_pre (A' := T4.setTop (mkF m 17 #[.val (.ref a1), .val (.ref ca), .val (.int (0 : Int32)), .val (.int (0 : Int32)), .val .null, .unset] [])) st4 ?_
  refine o_aloadN X4 hx hby D4_17 rfl rfl ?_
  refine own_pre (A' := T4.setTop (mkF m 20 #[.val (.ref a1), .val (.ref ca), .val (.int (0 : Int32)), .val (.int (0 : Int32)), .val .null, .unset] [(.ref sa), (.ref a1)])) (ldcAgain (s := s) X4 hx hZ hown (wd hw 80 rfl) Lit2 (g := (mkF m 18 #[.val (.ref a1), .val (.ref ca), .val (.int (0 : Int32)), .val (.int (0 : Int32)), .val .null, .unset] [(.ref a1)])) rfl (hb hby D4_18.1)) ?_
  have c8_F_sa_coder := (Fsc.other W4 (Or.inl (by first | exact own_neN (by omega) | exact own_neN' (by omega) | assumption)))
  obtain ⟨T7, X7, e7, st7⟩ := getF X4 hx hZ hown (host := "") (Or.inl (wd hw 33 rfl)) Via.refl e4 c8_F_sa_coder (g := (mkF m 20 #[.val (.ref a1), .val (.ref ca), .val (.int (0 : Int32)), .val (.int (0 : Int32)), .val .null, .unset] [(.ref sa), (.ref a1)])) rfl rfl (hb hby D4_20.1)
  refine own_pre (A' := T7.setTop (mkF m 23 #[.val (.ref a1), .val (.ref ca), .val (.int (0 : Int32)), .val (.int (0 : Int32)), .val .null, .unset] [(.int (0 : Int32)), (.ref a1)])) st7 ?_
  have c10_F_a1_coder := ((F_c.ext E2).other W4 (Or.inr (Jvm.RoadKit.slot_ne (Or.inr (wd hw 34 rfl)) (Or.inr (wd hw 36 rfl)) (by decide) (t := .byte) (t' := (.array .byte)) (by decide) (by decide))))
  have c11_E_a1 := (c6_E_a1.wr W4)
  obtain ⟨T9, h9, X9, e9, W9, st9⟩ := putFN X7 hx hZ hown (wd hw 33 rfl) Via.refl e7 c10_F_a1_coder c11_E_a1 (Or.inr ⟨(wd hw 34 rfl), rfl, hnm⟩) (wd hw 9 rfl) (ty := .byte) (v' := (.int (0 : Int32))) (by decide) rfl rfl (g := (mkF m 23 #[.val (.ref a1), .val (.ref ca), .val (.int (0 : Int32)), .val (.int (0 : Int32)), .val .null, .unset] [(.int (0 : Int32)), (.ref a1)])) rfl rfl (hb hby D4_23.1)
  have Fw9 := c10_F_a1_coder.same W9
  have sz9 := own_leN (Keep.of_wr W9).1
  have N9 := Fr.snoc X9 N4 gn_a1
  refine own_pre (A' := T9.setTop (mkF m 26 #[.val (.ref a1), .val (.ref ca), .val (.int (0 : Int32)), .val (.int (0 : Int32)), .val .null, .unset] [])) st9 ?_
  have c12_E_a1 := (c11_E_a1.wr W9)
  have c13_F_a1_value := (Fw4.other W9 (Or.inr (Jvm.RoadKit.slot_ne (Or.inr (wd hw 36 rfl)) (Or.inr (wd hw 34 rfl)) (by decide) (t := (.array .byte)) (t' := .byte) (by decide) (by decide))))
  have c14_V_sb := ((Vsb.other W4 (by first | exact own_neN (by omega) | exact own_neN' (by omega) | assumption)).other W9 (by first | exact own_neN (by omega) | exact own_neN' (by omega) | assumption))
  have KK : Keep h0 h9 [a1] := ((((Keep.refl h0 [a1]).ext E2).wr W4 (Or.inl (by simp))).wr W9 (Or.inl (by simp)))
  have C1 := CHr.wr W4 sa1 CH2.1
  have sa2 := Safe.wr W4 sa1 CH2.1 sa1
  have C2 := CHr.wr W9 sa2 C1.1
  have C3 := (CH2.trans C1).trans C2
  have C4 := C3.trans (CHv.at (s := s) X9 hZ hEL C3.1)
  exact own_retS (v := none) X9 hS2 (by rw [e9]; exact own_leN (by omega)) (by rw [e9, hh]; exact C4) (fun h => by first | rfl | (rw [Bd.returns] at h; cases h)) (BodyLoose.notSynchronized Bd) (by decide) (by decide) (by rw [e9]; exact ⟨sb, kb, rfl, N9, KK, own_leN (by omega), c12_E_a1, c13_F_a1_value, Fw9, c14_V_sb⟩) (fun fs hr => X9.returnOut hx Bd.returns (hb hby D4_26.1) hr)
theorem ef_rs_i10 (m : MethodId) (a1 : Addr) (ca : Addr) : entryFrame m #[(.ref a1), (.ref ca)] 2 = mkF m 0 #[.val (.ref a1), .val (.ref ca)] [] := by first | (simp [entryFrame, mkF, argsToLocals, Value.category]; done) | rfl
set_option maxRecDepth 65536 in
set_option maxHeartbeats 40000000 in
theorem rs_i10 (l : Launch) (Z : State) (a0 : Array Value) (hw : ∀ d ∈ tables_1, d.before a0 Z = true) (ws : List Jvm.Cond) (a1 : Addr) (ca : Addr) (kc : ClassId) (u1 : Value) (h0 : Heap) (n0 : Nat) (Z0 : n0 ≤ h0.size) (Vc : Arv Z h0 ca kc .char (0 : Int32) [] (.int (0 : Int32))) (gn_a1 : n0 ≤ a1) (E_a1 : Exa Z h0 a1 "java/lang/String") (F_v : Fld Z h0 a1 "java/lang/String" "value" "[B" .null) (F_c : Fld Z h0 a1 "java/lang/String" "coder" "B" u1) :
    MetFree l (⟨"java/lang/String", "<init>", "([C)V"⟩ : MethodName) (head1 (Jvm.Cond.code (⟨"java/lang/String", "<init>", "([C)V"⟩ : MethodName) jdk_42_method_3_code 2 none :: ws) ({ frames := 2, cells := 2, slots := 4, locals := 29 } : Room)) (fun a U => a = #[(.ref a1), (.ref ca)] ∧ Z.Warmed39 U.vm ∧ U.heap = h0 ∧ CHv Z own_EL U.vm h0) (fun _ _ _ _ _ => True) (fun _ U o U' => ∃ v L, o = .returned v ∧ own_QI0 Z a1 h0 n0 v U'.heap L ∧ CHr Z own_EL U.vm U.heap U'.vm U'.heap ∧ ReturnedEndW U o U' L ({ frames := 2, cells := 2, slots := 4, locals := 29 } : Room).cells ({ frames := 2, cells := 2, slots := 4, locals := 29 } : Room).slots) := by
  refine MetFree.of_bodySF (plainFor_of_name pn_java_lang_String) hisR ?_
  intro p e s m args below meth c s₁ Bd hml0 hP hK
  obtain ⟨rfl, hZ, hh, hCH⟩ := hP
  have hx := Bd.exec
  have hby := Bd.bytes
  have hml : c.maxLocals = 2 := hml0
  have hown : s.vm.findClass "java/lang/String" = some m.cls := findClass_of_methodNamed Bd.named
  have hnm := (name_of_methodNamed Bd.named Bd.method).1
  have X0 : Stand p l e ({ frames := 2, cells := 2, slots := 4, locals := 29 } : Room) s m #[(.ref a1), (.ref ca)] below meth c s₁ [] 0 0 := Stand.of_body Bd
  have e0 : s₁.heap = h0 := by rw [← hh, Bd.state]; rfl
  have N0 := Fr.nil n0
  refine own_startS (ef_rs_i10 m a1 ca) ?_
  refine o_aloadN X0 hx hby D3_0 rfl rfl ?_
  refine o_aloadN X0 hx hby D3_1 rfl rfl ?_
  refine o_iconst X0 hx hby D3_2 (v := 0) rfl ?_
  refine o_aloadN X0 hx hby D3_3 rfl rfl ?_
  obtain ⟨cl_ca_1, Ar_ca_1, q_ca_1, S_ca_1, N_ca_1, H_ca_1, G_ca_1⟩ := id Vc
  refine own_pre (A' := s₁.setTop (mkF m 5 #[.val (.ref a1), .val (.ref ca)] [(.int (0 : Int32)), (.int (0 : Int32)), (.ref ca), (.ref a1)])) (fun t k => X0.arraylength hx (by rw [e0]; exact Ar_ca_1.1) (State.isArrayOf_alike hZ.alike Ar_ca_1.2.1) (g := (mkF m 4 #[.val (.ref a1), .val (.ref ca)] [(.ref ca), (.int (0 : Int32)), (.ref ca), (.ref a1)])) rfl rfl (hb hby D3_4.1) _ (by rw [len_of S_ca_1 N_ca_1]; exact k)) ?_
  refine o_anull X0 hx hby D3_5 ?_
  obtain ⟨_, _, ⟨T2, L2, k2, n2⟩, -, X2, hS2, hg2, ⟨Lc2, hQ2, l2, y2, z2, CH2⟩, st2⟩ := Stand.specialBackS (s := s.setVm s.vm) X0 hx (y := (⟨"java/lang/String", "<init>", "([CIILjava/lang/Void;)V"⟩ : MethodName)) rfl hown (mvT (s := s.setVm s.vm) hZ (wd hw 14 rfl)) (mvT (s := s.setVm s.vm) hZ (wd hw 15 rfl)) (mvT (s := s.setVm s.vm) hZ (wd hw 17 rfl)) (by decide) (backOfSH (s := s) (vm0 := s.vm) (W := 0) (rs_i40 l Z a0 hw [] a1 ca u1 h0 n0 (own_leN (by omega)) gn_a1 E_a1 F_v F_c) hZ (wd hw 17 rfl) (wd hw 10 rfl) (by decide) (by decide) (own_ew hw) (hCH)) (g := (mkF m 6 #[.val (.ref a1), .val (.ref ca)] [.null, (.int (0 : Int32)), (.int (0 : Int32)), (.ref ca), (.ref a1)])) rfl (by rw [hml]; rfl) (Steps.refl _) (a := a1) (argsL := [(.ref ca), (.int (0 : Int32)), (.int (0 : Int32)), .null]) (rest := []) (lenOf pd__40_91CIILjava_47lang_47Void_59_41V rfl) rfl (by show 2 * 0 + _ ≤ _; exact Nat.le_of_eq rfl) (hb hby D3_6.1) (fun _ _ => ⟨rfl, e0, (by decide : 0 + 2 ≤ _), (by decide : 0 + 4 ≤ _)⟩)
  dsimp only [Pt.U, Pt.locs, Pt.cells, Pt.slots] at X2 hS2 hg2 l2 y2 z2 st2 hQ2 CH2
  subst l2 y2 z2
  obtain ⟨vb, kb, rfl, N2q, K2, ltv2, Str2⟩ := hQ2
  have sz2 := own_leN K2.1
  have N2 := Fr.app N0 N2q
  have hZ : Z.Warmed39 (s.setVm T2.vm).vm := State.Warmed39.trans (t := s.setVm s.vm) hZ hS2.1
  have hown : (s.setVm T2.vm).vm.findClass "java/lang/String" = some m.cls := (hS2.1.alike.findClass _ _).trans hown
  have X2 : Stand p l e ({ frames := 2, cells := 2, slots := 4, locals := 29 } : Room) (s.setVm T2.vm) m _ below meth c T2 _ _ _ := X2
  refine own_pre (A' := T2.setTop (mkF m 9 #[.val (.ref a1), .val (.ref ca)] [])) (fun t k => st2.trans k) ?_
  exact own_retS (v := none) X2 hS2 (Nat.le_refl _) (by rw [hh]; exact CH2.trans (CHv.at (s := s) X2 hZ (own_ew hw) CH2.1)) (fun h => by first | rfl | (rw [Bd.returns] at h; cases h)) (BodyLoose.notSynchronized Bd) (by decide) (by decide) (⟨vb, kb, rfl, N2, K2, ltv2, Str2⟩) (fun fs hr => X2.returnOut hx Bd.returns (hb hby D3_9.1) hr)

theorem own_nat {x : Int32} (h : 0 ≤ x.toInt) : x.toInt = (x.toBitVec.toNat : Int) := by
  have e : x.toInt = x.toBitVec.toInt := rfl
  rw [e] at h ⊢
  rw [BitVec.toInt_eq_toNat_cond] at h ⊢
  have hb := x.toBitVec.isLt
  split at h
  · rename_i q; rw [if_pos q]
  · exfalso; omega
theorem own_or16 {x y : Int32} (hx : own_ch16 x) (hy : own_ch16 y) : own_ch16 (x ||| y) ∧ ((x ||| y) < (128 : Int32) ↔ x < (128 : Int32) ∧ y < (128 : Int32)) := by
  have k : (128 : Int32).toInt = 128 := rfl
  have ex := own_nat hx.1
  have ey := own_nat hy.1
  have hx2 := hx.2
  have hy2 := hy.2
  have en : (x ||| y).toBitVec.toNat = x.toBitVec.toNat ||| y.toBitVec.toNat := by rw [Int32.toBitVec_or, BitVec.toNat_or]
  have b16 : x.toBitVec.toNat ||| y.toBitVec.toNat < 2 ^ 16 := Nat.or_lt_two_pow (by omega) (by omega)
  have ez : (x ||| y).toInt = ((x ||| y).toBitVec.toNat : Int) := by
    show (x ||| y).toBitVec.toInt = _
    rw [BitVec.toInt_eq_toNat_cond, if_pos (by rw [en]; omega)]
  rw [en] at ez
  have l1 : x.toBitVec.toNat ≤ x.toBitVec.toNat ||| y.toBitVec.toNat := Nat.left_le_or
  have l2 : y.toBitVec.toNat ≤ x.toBitVec.toNat ||| y.toBitVec.toNat := Nat.right_le_or
  refine ⟨⟨by omega, by omega⟩, ?_⟩
  rw [Int32.lt_iff_toInt_lt, Int32.lt_iff_toInt_lt, Int32.lt_iff_toInt_lt, k, ez, ex, ey]
  constructor
  · intro h; exact ⟨by omega, by omega⟩
  · rintro ⟨h1, h2⟩
    have q : x.toBitVec.toNat ||| y.toBitVec.toNat < 2 ^ 7 := Nat.or_lt_two_pow (by omega) (by omega)
    omega
theorem own_z16 : own_ch16 (0 : Int32) := ⟨by decide, by decide⟩
theorem own_four (x : Int32) : x &&& (3 : Int32) = 0 ∨ x &&& (3 : Int32) = 1 ∨ x &&& (3 : Int32) = 2 ∨ x &&& (3 : Int32) = 3 := by
  have e1 : (x &&& 3).toInt = x.toInt % 2 ^ 2 := Jvm.Kit.i32_mask x 3 (k := 2) (by decide) (by decide)
  have c0 : (0 : Int32).toInt = 0 := rfl
  have c1 : (1 : Int32).toInt = 1 := rfl
  have c2 : (2 : Int32).toInt = 2 := rfl
  have c3 : (3 : Int32).toInt = 3 := rfl
  simp only [← Int32.toInt_inj, c0, c1, c2, c3, e1]
  omega
def own_draw (p0 : Int32) : Int32 := if (((p0.toUInt32 >>> ((16 : Int32) &&& 31).toUInt32).toInt32) &&& (3 : Int32)) = (0 : Int32) then nar .char ((p0 &&& (127 : Int32)).toUInt32.toUInt16.toUInt32.toInt32) else if (((p0.toUInt32 >>> ((16 : Int32) &&& 31).toUInt32).toInt32) &&& (3 : Int32)) = (1 : Int32) then nar .char ((p0 &&& (255 : Int32)).toUInt32.toUInt16.toUInt32.toInt32) else nar .char ((p0 &&& (65535 : Int32)).toUInt32.toUInt16.toUInt32.toInt32)
theorem own_drawR (x : Int32) : own_ch16 (own_draw x) := by
  unfold own_draw
  split
  · exact own_n16 _
  · split
    · exact own_n16 _
    · exact own_n16 _
theorem D1_0 : own_at method_2_code 0 (.iload_n 0) 1 1 := ⟨by decide +kernel, rfl⟩
theorem D1_1 : own_at method_2_code 1 (.bipush 16) 2 3 := ⟨by decide +kernel, rfl⟩
theorem D1_3 : own_at method_2_code 3 (.iushr) 1 4 := ⟨by decide +kernel, rfl⟩
theorem D1_4 : own_at method_2_code 4 (.iconst 3) 1 5 := ⟨by decide +kernel, rfl⟩
theorem D1_5 : own_at method_2_code 5 (.iand) 1 6 := ⟨by decide +kernel, rfl⟩
theorem D1_6 : own_at method_2_code 6 (.istore_n 1) 1 7 := ⟨by decide +kernel, rfl⟩
theorem D1_7 : own_at method_2_code 7 (.iload_n 1) 1 8 := ⟨by decide +kernel, rfl⟩
theorem D1_8 : own_at method_2_code 8 (.ifCond .ne 9) 3 11 := ⟨by decide +kernel, rfl⟩
theorem D1_11 : own_at method_2_code 11 (.iload_n 0) 1 12 := ⟨by decide +kernel, rfl⟩
theorem D1_12 : own_at method_2_code 12 (.bipush 127) 2 14 := ⟨by decide +kernel, rfl⟩
theorem D1_14 : own_at method_2_code 14 (.iand) 1 15 := ⟨by decide +kernel, rfl⟩
theorem D1_15 : own_at method_2_code 15 (.i2c) 1 16 := ⟨by decide +kernel, rfl⟩
theorem D1_16 : own_at method_2_code 16 (.ireturn) 1 17 := ⟨by decide +kernel, rfl⟩
theorem D1_17 : own_at method_2_code 17 (.iload_n 1) 1 18 := ⟨by decide +kernel, rfl⟩
theorem D1_18 : own_at method_2_code 18 (.iconst 1) 1 19 := ⟨by decide +kernel, rfl⟩
theorem D1_19 : own_at method_2_code 19 (.if_icmp .ne 10) 3 22 := ⟨by decide +kernel, rfl⟩
theorem D1_22 : own_at method_2_code 22 (.iload_n 0) 1 23 := ⟨by decide +kernel, rfl⟩
theorem D1_23 : own_at method_2_code 23 (.sipush 255) 3 26 := ⟨by decide +kernel, rfl⟩
theorem D1_26 : own_at method_2_code 26 (.iand) 1 27 := ⟨by decide +kernel, rfl⟩
theorem D1_27 : own_at method_2_code 27 (.i2c) 1 28 := ⟨by decide +kernel, rfl⟩
theorem D1_28 : own_at method_2_code 28 (.ireturn) 1 29 := ⟨by decide +kernel, rfl⟩
theorem D1_29 : own_at method_2_code 29 (.iload_n 0) 1 30 := ⟨by decide +kernel, rfl⟩
theorem D1_30 : own_at method_2_code 30 (.ldc 7) 2 32 := ⟨by decide +kernel, rfl⟩
theorem D1_32 : own_at method_2_code 32 (.iand) 1 33 := ⟨by decide +kernel, rfl⟩
theorem D1_33 : own_at method_2_code 33 (.i2c) 1 34 := ⟨by decide +kernel, rfl⟩
theorem D1_34 : own_at method_2_code 34 (.ireturn) 1 35 := ⟨by decide +kernel, rfl⟩
theorem pn_com_example_placer_placer_Utf8AsciiBytesPinLaw : plainName "com/example/placer/placer/Utf8AsciiBytesPinLaw" = true := by first | (simp [plainName, overriddenIn]; done) | decide +kernel
theorem ef_rm_draw (m : MethodId) (p0 : Int32) : entryFrame m #[(.int p0)] 2 = mkF m 0 #[.val (.int p0), .unset] [] := by first | (simp [entryFrame, mkF, argsToLocals, Value.category]; done) | rfl
set_option maxRecDepth 65536 in
set_option maxHeartbeats 40000000 in
theorem rm_draw (l : Launch) (Z : State) (a0 : Array Value) (hw : ∀ d ∈ tables_1, d.before a0 Z = true) (ws : List Jvm.Cond) (p0 : Int32)  (h0 : Heap) (n0 : Nat) (Z0 : n0 ≤ h0.size)  :
    own_Mt l (⟨"com/example/placer/placer/Utf8AsciiBytesPinLaw", "draw", "(I)C"⟩ : MethodName) method_2_code 2 (some .char) ({ frames := 0, cells := 0, slots := 0, locals := 0 } : Room) #[(.int p0)] Z h0 (own_QP (.int (own_draw p0)) h0 n0) := by
  refine MetFree.of_bodySF (plainFor_of_name pn_com_example_placer_placer_Utf8AsciiBytesPinLaw) hisR ?_
  intro p e s m args below meth c s₁ Bd hml0 hP hK
  obtain ⟨rfl, hZ, hh⟩ := hP
  have hx := Bd.exec
  have hby := Bd.bytes
  have hml : c.maxLocals = 2 := hml0
  have hown : s.vm.findClass "com/example/placer/placer/Utf8AsciiBytesPinLaw" = some m.cls := findClass_of_methodNamed Bd.named
  have hnm := (name_of_methodNamed Bd.named Bd.method).1
  have X0 : Stand p l e ({ frames := 0, cells := 0, slots := 0, locals := 0 } : Room) s m #[(.int p0)] below meth c s₁ [] 0 0 := Stand.of_body Bd
  have e0 : s₁.heap = h0 := by rw [← hh, Bd.state]; rfl
  have N0 := Fr.nil n0
  refine own_start (ef_rm_draw m p0) ?_
  refine o_iloadN X0 hx hby D1_0 rfl ?_
  refine o_bipush X0 hx hby D1_1 (v := 16) rfl ?_
  refine o_iushr X0 hx hby D1_3 ?_
  refine o_iconst X0 hx hby D1_4 (v := 3) rfl ?_
  refine o_iand X0 hx hby D1_5 ?_
  refine o_istoreN X0 hx hby D1_6 (l' := #[.val (.int p0), .val (.int (((p0.toUInt32 >>> ((16 : Int32) &&& 31).toUInt32).toInt32) &&& (3 : Int32)))]) rfl ?_
  refine o_iloadN X0 hx hby D1_7 rfl ?_
  by_cases hc8_1 : (((p0.toUInt32 >>> ((16 : Int32) &&& 31).toUInt32).toInt32) &&& (3 : Int32)) = (0 : Int32)
  · skip
    refine o_ifN X0 hx hby D1_8 ((if0 _ _).trans (teq hc8_1).2) ?_
    refine o_iloadN X0 hx hby D1_11 rfl ?_
    refine o_bipush X0 hx hby D1_12 (v := 127) rfl ?_
    refine o_iand X0 hx hby D1_14 ?_
    refine o_i2c X0 hx hby D1_15 ?_
    exact own_ret (v := some (.int (nar .char (((p0 &&& (127 : Int32))).toUInt32.toUInt16.toUInt32.toInt32)))) X0 (fun h => by first | rfl | (rw [Bd.returns] at h; cases h)) (BodyLoose.notSynchronized Bd) (by decide) (by decide) (⟨by rw [own_draw, if_pos hc8_1], N0, e0⟩) (fun fs hr => retN X0 hx (t := .char) Bd.returns (by simp) (hb hby D1_16.1) hr)
  · skip
    refine o_ifY X0 hx hby D1_8 ((if0 _ _).trans (feq hc8_1).2) (q := 17) (by decide) (by decide) ?_
    refine o_iloadN X0 hx hby D1_17 rfl ?_
    refine o_iconst X0 hx hby D1_18 (v := 1) rfl ?_
    by_cases hc19_2 : (((p0.toUInt32 >>> ((16 : Int32) &&& 31).toUInt32).toInt32) &&& (3 : Int32)) = (1 : Int32)
    · skip
      refine o_icmpN X0 hx hby D1_19 (teq hc19_2).2 ?_
      refine o_iloadN X0 hx hby D1_22 rfl ?_
      refine o_sipush X0 hx hby D1_23 (v := 255) rfl ?_
      refine o_iand X0 hx hby D1_26 ?_
      refine o_i2c X0 hx hby D1_27 ?_
      exact own_ret (v := some (.int (nar .char (((p0 &&& (255 : Int32))).toUInt32.toUInt16.toUInt32.toInt32)))) X0 (fun h => by first | rfl | (rw [Bd.returns] at h; cases h)) (BodyLoose.notSynchronized Bd) (by decide) (by decide) (⟨by rw [own_draw, if_neg hc8_1, if_pos hc19_2], N0, e0⟩) (fun fs hr => retN X0 hx (t := .char) Bd.returns (by simp) (hb hby D1_28.1) hr)
    · skip
      refine o_icmpY X0 hx hby D1_19 (feq hc19_2).2 (q := 29) (by decide) (by decide) ?_
      refine o_iloadN X0 hx hby D1_29 rfl ?_
      refine o_ldc X0 hx hby hown (mvT hZ (wd hw 79 rfl)) D1_30 ?_
      refine o_iand X0 hx hby D1_32 ?_
      refine o_i2c X0 hx hby D1_33 ?_
      exact own_ret (v := some (.int (nar .char (((p0 &&& (65535 : Int32))).toUInt32.toUInt16.toUInt32.toInt32)))) X0 (fun h => by first | rfl | (rw [Bd.returns] at h; cases h)) (BodyLoose.notSynchronized Bd) (by decide) (by decide) (⟨by rw [own_draw, if_neg hc8_1, if_neg hc19_2], N0, e0⟩) (fun fs hr => retN X0 hx (t := .char) Bd.returns (by simp) (hb hby D1_34.1) hr)
def own_QK0 (Z : State) (h0 : Heap) (n0 : Nat) (v : Option Value) (h : Heap) (L : List Loc) : Prop := ∃ (st vb : Nat) (kb : ClassId), v = some (.ref st) ∧ Fr n0 L ∧ Keep h0 h [] ∧ h0.size ≤ st ∧ st < h.size ∧ vb < h.size ∧ own_Str0 Z h st vb kb 
theorem pd__40_91C_41V : parseMethodDescriptor "([C)V" = some ⟨[(.array .char)], none⟩ := by decide +kernel
theorem D2_0 : own_at method_3_code 0 (.iload_n 0) 1 1 := ⟨by decide +kernel, rfl⟩
theorem D2_1 : own_at method_3_code 1 (.ifCond .ne 14) 3 4 := ⟨by decide +kernel, rfl⟩
theorem D2_4 : own_at method_3_code 4 (.new 8) 3 7 := ⟨by decide +kernel, rfl⟩
theorem D2_7 : own_at method_3_code 7 (.dup) 1 8 := ⟨by decide +kernel, rfl⟩
theorem D2_8 : own_at method_3_code 8 (.iconst 0) 1 9 := ⟨by decide +kernel, rfl⟩
theorem D2_9 : own_at method_3_code 9 (.newarray .char) 2 11 := ⟨by decide +kernel, rfl⟩
theorem D2_11 : own_at method_3_code 11 (.invokespecial 10) 3 14 := ⟨by decide +kernel, rfl⟩
theorem D2_14 : own_at method_3_code 14 (.areturn) 1 15 := ⟨by decide +kernel, rfl⟩
theorem ef_rm_key0 (m : MethodId) (c0 : Int32) (c1 : Int32) (c2 : Int32) : entryFrame m #[(.int (0 : Int32)), (.int c0), (.int c1), (.int c2)] 5 = mkF m 0 #[.val (.int (0 : Int32)), .val (.int c0), .val (.int c1), .val (.int c2), .unset] [] := by first | (simp [entryFrame, mkF, argsToLocals, Value.category]; done) | rfl
set_option maxRecDepth 65536 in
set_option maxHeartbeats 40000000 in
theorem rm_key0 (l : Launch) (Z : State) (a0 : Array Value) (hw : ∀ d ∈ tables_1, d.before a0 Z = true) (ws : List Jvm.Cond) (c0 : Int32) (c1 : Int32) (c2 : Int32)  (h0 : Heap) (n0 : Nat) (Z0 : n0 ≤ h0.size)  :
    MetFree l (⟨"com/example/placer/placer/Utf8AsciiBytesPinLaw", "key", "(ICCC)Ljava/lang/String;"⟩ : MethodName) (head1 (Jvm.Cond.code (⟨"com/example/placer/placer/Utf8AsciiBytesPinLaw", "key", "(ICCC)Ljava/lang/String;"⟩ : MethodName) method_3_code 5 (some (.object "java/lang/String")) :: ws) ({ frames := 3, cells := 4, slots := 8, locals := 43 } : Room)) (fun a U => a = #[(.int (0 : Int32)), (.int c0), (.int c1), (.int c2)] ∧ Z.Warmed39 U.vm ∧ U.heap = h0 ∧ CHv Z own_EL U.vm h0) (fun _ _ _ _ _ => True) (fun _ U o U' => ∃ v L, o = .returned v ∧ own_QK0 Z h0 n0 v U'.heap L ∧ CHr Z own_EL U.vm U.heap U'.vm U'.heap ∧ ReturnedEndW U o U' L ({ frames := 3, cells := 4, slots := 8, locals := 43 } : Room).cells ({ frames := 3, cells := 4, slots := 8, locals := 43 } : Room).slots) := by
  refine MetFree.of_bodySF (plainFor_of_name pn_com_example_placer_placer_Utf8AsciiBytesPinLaw) hisR ?_
  intro p e s m args below meth c s₁ Bd hml0 hP hK
  obtain ⟨rfl, hZ, hh, hCH⟩ := hP
  have hx := Bd.exec
  have hby := Bd.bytes
  have hml : c.maxLocals = 5 := hml0
  have hown : s.vm.findClass "com/example/placer/placer/Utf8AsciiBytesPinLaw" = some m.cls := findClass_of_methodNamed Bd.named
  have hnm := (name_of_methodNamed Bd.named Bd.method).1
  have X0 : Stand p l e ({ frames := 3, cells := 4, slots := 8, locals := 43 } : Room) s m #[(.int (0 : Int32)), (.int c0), (.int c1), (.int c2)] below meth c s₁ [] 0 0 := Stand.of_body Bd
  have e0 : s₁.heap = h0 := by rw [← hh, Bd.state]; rfl
  have N0 := Fr.nil n0
  refine own_startS (ef_rm_key0 m c0 c1 c2) ?_
  refine o_iloadN X0 hx hby D2_0 rfl ?_
  refine o_ifN X0 hx hby D2_1 ((if0 _ _).trans (teq (by decide : (0 : Int32) = (0 : Int32))).2) ?_
  obtain ⟨T1, h1, X1, e1, E1, A1, D1, -, st1⟩ := newO X0 hx hZ hown (wd hw 8 rfl) (wd hw 9 rfl) (wd hw 10 rfl) e0 (g := (mkF m 4 #[.val (.int (0 : Int32)), .val (.int c0), .val (.int c1), .val (.int c2), .unset] [])) rfl (hb hby D2_4.1) (by decide) (by decide)
  obtain ⟨b1, g1⟩ : ∃ z : Nat, z = h0.size := ⟨_, rfl⟩
  rw [← g1] at A1 D1 st1
  have sz1 := own_leN E1.1
  have gn_b1 : n0 ≤ b1 := by omega
  have lt_b1 := own_ltN A1.lt
  have F_coder_b1 : Fld Z h1 b1 "java/lang/String" "coder" "B" (.int (0 : Int32)) := D1 (Or.inr (wd hw 34 rfl)) (ty := .byte) (by decide)
  have F_value_b1 : Fld Z h1 b1 "java/lang/String" "value" "[B" .null := D1 (Or.inr (wd hw 36 rfl)) (ty := (.array .byte)) (by decide)
  refine own_pre (A' := T1.setTop (mkF m 7 #[.val (.int (0 : Int32)), .val (.int c0), .val (.int c1), .val (.int c2), .unset] [(.ref b1)])) st1 ?_
  refine o_dup X1 hx hby D2_7 rfl ?_
  refine o_iconst X1 hx hby D2_8 (v := 0) rfl ?_
  obtain ⟨T2, h2, k2, X2, e2, E2, A2, Ex2, st2⟩ := newPE X1 hx hZ (wd hw 7 rfl) e1 (g := (mkF m 9 #[.val (.int (0 : Int32)), .val (.int c0), .val (.int c1), .val (.int c2), .unset] [(.int (0 : Int32)), (.ref b1), (.ref b1)])) rfl (hb hby D2_9.1) rfl (by decide) (cap := 0) (by decide) (by decide) (by decide) (by decide) (ad := "[C") (by first | rfl | decide)
  obtain ⟨b2, g2⟩ : ∃ z : Nat, z = h1.size := ⟨_, rfl⟩
  rw [← g2] at A2 Ex2 st2
  have sz2 := own_leN E2.1
  have gn_b2 : n0 ≤ b2 := by omega
  have V_b2 : Arv Z h2 b2 k2 .char (0 : Int32) [] (.int (0 : Int32)) := (Arv.new A2 (by decide)).pad (pad_rep [] (.int (0 : Int32)) 0)
  have lt_b2 := own_ltN V_b2.lt
  refine own_pre (A' := T2.setTop (mkF m 11 #[.val (.int (0 : Int32)), .val (.int c0), .val (.int c1), .val (.int c2), .unset] [(.ref b2), (.ref b1), (.ref b1)])) st2 ?_
  have c3_F_b1_value := (F_value_b1.ext E2)
  have c4_F_b1_coder := (F_coder_b1.ext E2)
  have c5_E_b1 := (A1.ext E2)
  have C0 := CHr.refl hCH
  have C1 := C0.trans (CHr.ext E1 C0.1)
  have C2 := C1.trans (CHr.ext E2 C1.1)
  obtain ⟨_, _, ⟨T6, L6, k6, n6⟩, -, X6, hS6, hg6, ⟨Lc6, hQ6, l6, y6, z6, CH6⟩, st6⟩ := Stand.specialBackS (s := s.setVm s.vm) X2 hx (y := (⟨"java/lang/String", "<init>", "([C)V"⟩ : MethodName)) rfl hown (mvT (s := s.setVm s.vm) hZ (wd hw 11 rfl)) (mvT (s := s.setVm s.vm) hZ (wd hw 12 rfl)) (mvT (s := s.setVm s.vm) hZ (wd hw 13 rfl)) (by decide) (backOfSH (s := s) (vm0 := s.vm) (W := 1) (rs_i10 l Z a0 hw [] b1 b2 k2 _ h2 n0 (own_leN (by omega)) V_b2 gn_b1 c5_E_b1 c3_F_b1_value c4_F_b1_coder) hZ (wd hw 13 rfl) (wd hw 10 rfl) (by decide) (by decide) (own_ew hw) (C2.1)) (g := (mkF m 11 #[.val (.int (0 : Int32)), .val (.int c0), .val (.int c1), .val (.int c2), .unset] [(.ref b2), (.ref b1), (.ref b1)])) rfl (by rw [hml]; rfl) (Steps.refl _) (a := b1) (argsL := [(.ref b2)]) (rest := [(.ref b1)]) (lenOf pd__40_91C_41V rfl) rfl (by show 2 * 0 + _ ≤ _; exact Nat.le_of_eq rfl) (hb hby D2_11.1) (fun _ _ => ⟨rfl, e2, (by decide : 2 + 2 ≤ _), (by decide : 4 + 4 ≤ _)⟩)
  dsimp only [Pt.U, Pt.locs, Pt.cells, Pt.slots] at X6 hS6 hg6 l6 y6 z6 st6 hQ6 CH6
  subst l6 y6 z6
  obtain ⟨vb, kb, rfl, N6q, K6, ltv6, Str6⟩ := hQ6
  have sz6 := own_leN K6.1
  have N6 := Fr.app N0 N6q
  have hZ : Z.Warmed39 (s.setVm T6.vm).vm := State.Warmed39.trans (t := s.setVm s.vm) hZ hS6.1
  have hown : (s.setVm T6.vm).vm.findClass "com/example/placer/placer/Utf8AsciiBytesPinLaw" = some m.cls := (hS6.1.alike.findClass _ _).trans hown
  have X6 : Stand p l e ({ frames := 3, cells := 4, slots := 8, locals := 43 } : Room) (s.setVm T6.vm) m _ below meth c T6 _ _ _ := X6
  refine own_pre (A' := T6.setTop (mkF m 14 #[.val (.int (0 : Int32)), .val (.int c0), .val (.int c1), .val (.int c2), .unset] [(.ref b1)])) (fun t k => st6.trans k) ?_
  have KK : Keep h0 T6.heap [] := ((((Keep.refl h0 []).ext E1).ext E2).trans K6 (allS (Or.inr (own_leN (by omega))) all0))
  exact own_retS (v := some (.ref b1)) X6 hS6 (Nat.le_refl _) (by rw [hh]; exact (C2.trans CH6).trans (CHv.at (s := s) X6 hZ (own_ew hw) CH6.1)) (fun h => by first | rfl | (rw [Bd.returns] at h; cases h)) (BodyLoose.notSynchronized Bd) (by decide) (by decide) (⟨b1, vb, kb, rfl, N6, KK, own_leN (by omega), (own_StrL0 Str6).1, (own_StrL0 Str6).2, Str6⟩) (fun fs hr => retOut X6 hx Bd.returns rfl (Or.inr (Or.inr (Or.inr (Or.inr ⟨rfl, rfl, rfl⟩)))) (hb hby D2_14.1) hr)
def own_QK1 (Z : State) (c0 : Int32) (h0 : Heap) (n0 : Nat) (v : Option Value) (h : Heap) (L : List Loc) : Prop := ∃ (st vb : Nat) (kb : ClassId), v = some (.ref st) ∧ Fr n0 L ∧ Keep h0 h [] ∧ h0.size ≤ st ∧ st < h.size ∧ vb < h.size ∧ own_Str1 Z h st vb kb c0
theorem D2_15 : own_at method_3_code 15 (.iload_n 0) 1 16 := ⟨by decide +kernel, rfl⟩
theorem D2_16 : own_at method_3_code 16 (.iconst 1) 1 17 := ⟨by decide +kernel, rfl⟩
theorem D2_17 : own_at method_3_code 17 (.if_icmp .ne 23) 3 20 := ⟨by decide +kernel, rfl⟩
theorem D2_20 : own_at method_3_code 20 (.iconst 1) 1 21 := ⟨by decide +kernel, rfl⟩
theorem D2_21 : own_at method_3_code 21 (.newarray .char) 2 23 := ⟨by decide +kernel, rfl⟩
theorem D2_23 : own_at method_3_code 23 (.astore 4) 2 25 := ⟨by decide +kernel, rfl⟩
theorem D2_25 : own_at method_3_code 25 (.aload 4) 2 27 := ⟨by decide +kernel, rfl⟩
theorem D2_27 : own_at method_3_code 27 (.iconst 0) 1 28 := ⟨by decide +kernel, rfl⟩
theorem D2_28 : own_at method_3_code 28 (.iload_n 1) 1 29 := ⟨by decide +kernel, rfl⟩
theorem D2_29 : own_at method_3_code 29 (.castore) 1 30 := ⟨by decide +kernel, rfl⟩
theorem D2_30 : own_at method_3_code 30 (.new 8) 3 33 := ⟨by decide +kernel, rfl⟩
theorem D2_33 : own_at method_3_code 33 (.dup) 1 34 := ⟨by decide +kernel, rfl⟩
theorem D2_34 : own_at method_3_code 34 (.aload 4) 2 36 := ⟨by decide +kernel, rfl⟩
theorem D2_36 : own_at method_3_code 36 (.invokespecial 10) 3 39 := ⟨by decide +kernel, rfl⟩
theorem D2_39 : own_at method_3_code 39 (.areturn) 1 40 := ⟨by decide +kernel, rfl⟩
theorem ef_rm_key1 (m : MethodId) (c0 : Int32) (c1 : Int32) (c2 : Int32) : entryFrame m #[(.int (1 : Int32)), (.int c0), (.int c1), (.int c2)] 5 = mkF m 0 #[.val (.int (1 : Int32)), .val (.int c0), .val (.int c1), .val (.int c2), .unset] [] := by first | (simp [entryFrame, mkF, argsToLocals, Value.category]; done) | rfl
set_option maxRecDepth 65536 in
set_option maxHeartbeats 40000000 in
theorem rm_key1 (l : Launch) (Z : State) (a0 : Array Value) (hw : ∀ d ∈ tables_1, d.before a0 Z = true) (ws : List Jvm.Cond) (c0 : Int32) (c1 : Int32) (c2 : Int32) (cs : Int32) (vf : Value) (h0 : Heap) (n0 : Nat) (Z0 : n0 ≤ h0.size) (hST : own_ST Z cs vf) (O0 : Old Z n0 h0) (hc0 : own_ch16 c0) :
    own_Mt l (⟨"com/example/placer/placer/Utf8AsciiBytesPinLaw", "key", "(ICCC)Ljava/lang/String;"⟩ : MethodName) method_3_code 5 (some (.object "java/lang/String")) ({ frames := 6, cells := 4, slots := 8, locals := 88 } : Room) #[(.int (1 : Int32)), (.int c0), (.int c1), (.int c2)] Z h0 (own_QK1 Z c0 h0 n0) := by
  refine MetFree.of_bodySF (plainFor_of_name pn_com_example_placer_placer_Utf8AsciiBytesPinLaw) hisR ?_
  intro p e s m args below meth c s₁ Bd hml0 hP hK
  obtain ⟨rfl, hZ, hh⟩ := hP
  have hx := Bd.exec
  have hby := Bd.bytes
  have hml : c.maxLocals = 5 := hml0
  have hown : s.vm.findClass "com/example/placer/placer/Utf8AsciiBytesPinLaw" = some m.cls := findClass_of_methodNamed Bd.named
  have hnm := (name_of_methodNamed Bd.named Bd.method).1
  have X0 : Stand p l e ({ frames := 6, cells := 4, slots := 8, locals := 88 } : Room) s m #[(.int (1 : Int32)), (.int c0), (.int c1), (.int c2)] below meth c s₁ [] 0 0 := Stand.of_body Bd
  have e0 : s₁.heap = h0 := by rw [← hh, Bd.state]; rfl
  have N0 := Fr.nil n0
  refine own_start (ef_rm_key1 m c0 c1 c2) ?_
  have hST0 := hST
  refine o_iloadN X0 hx hby D2_0 rfl ?_
  refine o_ifY X0 hx hby D2_1 ((if0 _ _).trans (feq (by decide : ¬ ((1 : Int32) = (0 : Int32)))).2) (q := 15) (by decide) (by decide) ?_
  refine o_iloadN X0 hx hby D2_15 rfl ?_
  refine o_iconst X0 hx hby D2_16 (v := 1) rfl ?_
  refine o_icmpN X0 hx hby D2_17 (teq (by decide : (1 : Int32) = (1 : Int32))).2 ?_
  refine o_iconst X0 hx hby D2_20 (v := 1) rfl ?_
  obtain ⟨T1, h1, k1, X1, e1, E1, A1, Ex1, st1⟩ := newPE X0 hx hZ (wd hw 7 rfl) e0 (g := (mkF m 21 #[.val (.int (1 : Int32)), .val (.int c0), .val (.int c1), .val (.int c2), .unset] [(.int (1 : Int32))])) rfl (hb hby D2_21.1) rfl (by decide) (cap := 1) (by decide) (by decide) (by decide) (by decide) (ad := "[C") (by first | rfl | decide)
  obtain ⟨b1, g1⟩ : ∃ z : Nat, z = h0.size := ⟨_, rfl⟩
  rw [← g1] at A1 Ex1 st1
  have sz1 := own_leN E1.1
  have gn_b1 : n0 ≤ b1 := by omega
  have V_b1 : Arv Z h1 b1 k1 .char (1 : Int32) [(.int (0 : Int32))] (.int (0 : Int32)) := (Arv.new A1 (by decide)).pad (pad_rep [] (.int (0 : Int32)) 1)
  have lt_b1 := own_ltN V_b1.lt
  refine own_pre (A' := T1.setTop (mkF m 23 #[.val (.int (1 : Int32)), .val (.int c0), .val (.int c1), .val (.int c2), .unset] [(.ref b1)])) st1 ?_
  refine o_astore X1 hx hby D2_23 rfl (l' := #[.val (.int (1 : Int32)), .val (.int c0), .val (.int c1), .val (.int c2), .val (.ref b1)]) rfl ?_
  refine o_aload X1 hx hby D2_25 rfl rfl ?_
  refine o_iconst X1 hx hby D2_27 (v := 0) rfl ?_
  refine o_iloadN X1 hx hby D2_28 rfl ?_
  obtain ⟨cl_b1_2, Ar_b1_2, q_b1_2, S_b1_2, N_b1_2, H_b1_2, G_b1_2⟩ := id V_b1
  have hin_b1_2 : ¬ ((0 : Int32) < 0 ∨ cl_b1_2.slots.size ≤ ((0 : Int32)).toNatClampNeg) := inb_of S_b1_2 ⟨by decide, by decide⟩
  obtain ⟨T2, h2, X2, e2, W2, st2⟩ := stC X1 hx hZ e1 Ar_b1_2 (j := (0 : Int32)) hin_b1_2 (g := (mkF m 29 #[.val (.int (1 : Int32)), .val (.int c0), .val (.int c1), .val (.int c2), .val (.ref b1)] [(.int c0), (.int (0 : Int32)), (.ref b1)])) rfl rfl (hb hby D2_29.1)
  have V_b1_2 : Arv Z h2 b1 k1 .char (1 : Int32) [(.int (nar .char c0))] (.int (0 : Int32)) := Arv.set Ar_b1_2 q_b1_2 S_b1_2 N_b1_2 H_b1_2 G_b1_2 (fits_nar_char _) W2 0 rfl (Nat.le_of_ble_eq_true rfl)
  have sz2 := own_leN (Keep.of_wr W2).1
  have N2 := Fr.snoc X2 N0 gn_b1
  refine own_pre (A' := T2.setTop (mkF m 30 #[.val (.int (1 : Int32)), .val (.int c0), .val (.int c1), .val (.int c2), .val (.ref b1)] [])) st2 ?_
  obtain ⟨T3, h3, X3, e3, E3, A3, D3, -, st3⟩ := newO X2 hx hZ hown (wd hw 8 rfl) (wd hw 9 rfl) (wd hw 10 rfl) e2 (g := (mkF m 30 #[.val (.int (1 : Int32)), .val (.int c0), .val (.int c1), .val (.int c2), .val (.ref b1)] [])) rfl (hb hby D2_30.1) (by decide) (by decide)
  obtain ⟨b3, g3⟩ : ∃ z : Nat, z = h2.size := ⟨_, rfl⟩
  rw [← g3] at A3 D3 st3
  have sz3 := own_leN E3.1
  have gn_b3 : n0 ≤ b3 := by omega
  have lt_b3 := own_ltN A3.lt
  have F_coder_b3 : Fld Z h3 b3 "java/lang/String" "coder" "B" (.int (0 : Int32)) := D3 (Or.inr (wd hw 34 rfl)) (ty := .byte) (by decide)
  have F_value_b3 : Fld Z h3 b3 "java/lang/String" "value" "[B" .null := D3 (Or.inr (wd hw 36 rfl)) (ty := (.array .byte)) (by decide)
  refine own_pre (A' := T3.setTop (mkF m 33 #[.val (.int (1 : Int32)), .val (.int c0), .val (.int c1), .val (.int c2), .val (.ref b1)] [(.ref b3)])) st3 ?_
  refine o_dup X3 hx hby D2_33 rfl ?_
  refine o_aload X3 hx hby D2_34 rfl rfl ?_
  have c5_V_b1 := (V_b1_2.ext E3)
  have Vq4 : Arv Z h3 b1 k1 .char (1 : Int32) [(.int c0)] (.int (0 : Int32)) := by have q := c5_V_b1; simp only [own_nc hc0] at q; exact q
  have c6_O := (((O0.ext E1).wr W2 gn_b1).ext E3)
  refine kI X3 hx hZ hown hby (wd hw 11 rfl) (wd hw 12 rfl) (wd hw 10 rfl) (wd hw 13 rfl) rfl (rs_i11 l Z a0 hw [] b3 b1 k1 c0 _ _ cs vf h3 n0 (own_leN (by omega)) hST0 c6_O Vq4 hc0 gn_b3 A3 F_value_b3 F_coder_b3) (by decide) (by decide) (by decide) (by decide) (by decide) (by rw [hml]; rfl) [(.ref b1)] [(.ref b3)] (lenOf pd__40_91C_41V rfl) (W := 1) rfl rfl D2_36 rfl e3 ?_
  intro v4 T4 L4 X4 hQ4
  obtain ⟨vb, kb, rfl, N4q, K4, ge4, Str4⟩ := hQ4
  have sz4 := own_leN K4.1
  have N4 := Fr.app N2 N4q
  refine own_sh (A' := T4.setTop (mkF m 39 _ [(.ref b3)])) ?_
  have KK : Keep h0 T4.heap [] := (((((Keep.refl h0 []).ext E1).wr W2 (Or.inr (own_leN (by omega)))).ext E3).trans K4 (allS (Or.inr (own_leN (by omega))) all0))
  exact own_ret (v := some (.ref b3)) X4 (fun h => by first | rfl | (rw [Bd.returns] at h; cases h)) (BodyLoose.notSynchronized Bd) (by decide) (by decide) (⟨b3, vb, kb, rfl, N4, KK, own_leN (by omega), (own_StrL1 Str4).1, (own_StrL1 Str4).2, Str4⟩) (fun fs hr => retOut X4 hx Bd.returns rfl (Or.inr (Or.inr (Or.inr (Or.inr ⟨rfl, rfl, rfl⟩)))) (hb hby D2_39.1) hr)
def own_QK2 (Z : State) (c0 c1 : Int32) (h0 : Heap) (n0 : Nat) (v : Option Value) (h : Heap) (L : List Loc) : Prop := ∃ (st vb : Nat) (kb : ClassId), v = some (.ref st) ∧ Fr n0 L ∧ Keep h0 h [] ∧ h0.size ≤ st ∧ st < h.size ∧ vb < h.size ∧ own_Str2 Z h st vb kb c0 c1
theorem D2_40 : own_at method_3_code 40 (.iload_n 0) 1 41 := ⟨by decide +kernel, rfl⟩
theorem D2_41 : own_at method_3_code 41 (.iconst 2) 1 42 := ⟨by decide +kernel, rfl⟩
theorem D2_42 : own_at method_3_code 42 (.if_icmp .ne 28) 3 45 := ⟨by decide +kernel, rfl⟩
theorem D2_45 : own_at method_3_code 45 (.iconst 2) 1 46 := ⟨by decide +kernel, rfl⟩
theorem D2_46 : own_at method_3_code 46 (.newarray .char) 2 48 := ⟨by decide +kernel, rfl⟩
theorem D2_48 : own_at method_3_code 48 (.astore 4) 2 50 := ⟨by decide +kernel, rfl⟩
theorem D2_50 : own_at method_3_code 50 (.aload 4) 2 52 := ⟨by decide +kernel, rfl⟩
theorem D2_52 : own_at method_3_code 52 (.iconst 0) 1 53 := ⟨by decide +kernel, rfl⟩
theorem D2_53 : own_at method_3_code 53 (.iload_n 1) 1 54 := ⟨by decide +kernel, rfl⟩
theorem D2_54 : own_at method_3_code 54 (.castore) 1 55 := ⟨by decide +kernel, rfl⟩
theorem D2_55 : own_at method_3_code 55 (.aload 4) 2 57 := ⟨by decide +kernel, rfl⟩
theorem D2_57 : own_at method_3_code 57 (.iconst 1) 1 58 := ⟨by decide +kernel, rfl⟩
theorem D2_58 : own_at method_3_code 58 (.iload_n 2) 1 59 := ⟨by decide +kernel, rfl⟩
theorem D2_59 : own_at method_3_code 59 (.castore) 1 60 := ⟨by decide +kernel, rfl⟩
theorem D2_60 : own_at method_3_code 60 (.new 8) 3 63 := ⟨by decide +kernel, rfl⟩
theorem D2_63 : own_at method_3_code 63 (.dup) 1 64 := ⟨by decide +kernel, rfl⟩
theorem D2_64 : own_at method_3_code 64 (.aload 4) 2 66 := ⟨by decide +kernel, rfl⟩
theorem D2_66 : own_at method_3_code 66 (.invokespecial 10) 3 69 := ⟨by decide +kernel, rfl⟩
theorem D2_69 : own_at method_3_code 69 (.areturn) 1 70 := ⟨by decide +kernel, rfl⟩
theorem ef_rm_key2 (m : MethodId) (c0 : Int32) (c1 : Int32) (c2 : Int32) : entryFrame m #[(.int (2 : Int32)), (.int c0), (.int c1), (.int c2)] 5 = mkF m 0 #[.val (.int (2 : Int32)), .val (.int c0), .val (.int c1), .val (.int c2), .unset] [] := by first | (simp [entryFrame, mkF, argsToLocals, Value.category]; done) | rfl
set_option maxRecDepth 65536 in
set_option maxHeartbeats 40000000 in
theorem rm_key2 (l : Launch) (Z : State) (a0 : Array Value) (hw : ∀ d ∈ tables_1, d.before a0 Z = true) (ws : List Jvm.Cond) (c0 : Int32) (c1 : Int32) (c2 : Int32) (cs : Int32) (vf : Value) (h0 : Heap) (n0 : Nat) (Z0 : n0 ≤ h0.size) (hST : own_ST Z cs vf) (O0 : Old Z n0 h0) (hc0 : own_ch16 c0) (hc1 : own_ch16 c1) :
    own_Mt l (⟨"com/example/placer/placer/Utf8AsciiBytesPinLaw", "key", "(ICCC)Ljava/lang/String;"⟩ : MethodName) method_3_code 5 (some (.object "java/lang/String")) ({ frames := 6, cells := 4, slots := 12, locals := 88 } : Room) #[(.int (2 : Int32)), (.int c0), (.int c1), (.int c2)] Z h0 (own_QK2 Z c0 c1 h0 n0) := by
  refine MetFree.of_bodySF (plainFor_of_name pn_com_example_placer_placer_Utf8AsciiBytesPinLaw) hisR ?_
  intro p e s m args below meth c s₁ Bd hml0 hP hK
  obtain ⟨rfl, hZ, hh⟩ := hP
  have hx := Bd.exec
  have hby := Bd.bytes
  have hml : c.maxLocals = 5 := hml0
  have hown : s.vm.findClass "com/example/placer/placer/Utf8AsciiBytesPinLaw" = some m.cls := findClass_of_methodNamed Bd.named
  have hnm := (name_of_methodNamed Bd.named Bd.method).1
  have X0 : Stand p l e ({ frames := 6, cells := 4, slots := 12, locals := 88 } : Room) s m #[(.int (2 : Int32)), (.int c0), (.int c1), (.int c2)] below meth c s₁ [] 0 0 := Stand.of_body Bd
  have e0 : s₁.heap = h0 := by rw [← hh, Bd.state]; rfl
  have N0 := Fr.nil n0
  refine own_start (ef_rm_key2 m c0 c1 c2) ?_
  have hST0 := hST
  refine o_iloadN X0 hx hby D2_0 rfl ?_
  refine o_ifY X0 hx hby D2_1 ((if0 _ _).trans (feq (by decide : ¬ ((2 : Int32) = (0 : Int32)))).2) (q := 15) (by decide) (by decide) ?_
  refine o_iloadN X0 hx hby D2_15 rfl ?_
  refine o_iconst X0 hx hby D2_16 (v := 1) rfl ?_
  refine o_icmpY X0 hx hby D2_17 (feq (by decide : ¬ ((2 : Int32) = (1 : Int32)))).2 (q := 40) (by decide) (by decide) ?_
  refine o_iloadN X0 hx hby D2_40 rfl ?_
  refine o_iconst X0 hx hby D2_41 (v := 2) rfl ?_
  refine o_icmpN X0 hx hby D2_42 (teq (by decide : (2 : Int32) = (2 : Int32))).2 ?_
  refine o_iconst X0 hx hby D2_45 (v := 2) rfl ?_
  obtain ⟨T1, h1, k1, X1, e1, E1, A1, Ex1, st1⟩ := newPE X0 hx hZ (wd hw 7 rfl) e0 (g := (mkF m 46 #[.val (.int (2 : Int32)), .val (.int c0), .val (.int c1), .val (.int c2), .unset] [(.int (2 : Int32))])) rfl (hb hby D2_46.1) rfl (by decide) (cap := 2) (by decide) (by decide) (by decide) (by decide) (ad := "[C") (by first | rfl | decide)
  obtain ⟨b1, g1⟩ : ∃ z : Nat, z = h0.size := ⟨_, rfl⟩
  rw [← g1] at A1 Ex1 st1
  have sz1 := own_leN E1.1
  have gn_b1 : n0 ≤ b1 := by omega
  have V_b1 : Arv Z h1 b1 k1 .char (2 : Int32) [(.int (0 : Int32)), (.int (0 : Int32))] (.int (0 : Int32)) := (Arv.new A1 (by decide)).pad (pad_rep [] (.int (0 : Int32)) 2)
  have lt_b1 := own_ltN V_b1.lt
  refine own_pre (A' := T1.setTop (mkF m 48 #[.val (.int (2 : Int32)), .val (.int c0), .val (.int c1), .val (.int c2), .unset] [(.ref b1)])) st1 ?_
  refine o_astore X1 hx hby D2_48 rfl (l' := #[.val (.int (2 : Int32)), .val (.int c0), .val (.int c1), .val (.int c2), .val (.ref b1)]) rfl ?_
  refine o_aload X1 hx hby D2_50 rfl rfl ?_
  refine o_iconst X1 hx hby D2_52 (v := 0) rfl ?_
  refine o_iloadN X1 hx hby D2_53 rfl ?_
  obtain ⟨cl_b1_2, Ar_b1_2, q_b1_2, S_b1_2, N_b1_2, H_b1_2, G_b1_2⟩ := id V_b1
  have hin_b1_2 : ¬ ((0 : Int32) < 0 ∨ cl_b1_2.slots.size ≤ ((0 : Int32)).toNatClampNeg) := inb_of S_b1_2 ⟨by decide, by decide⟩
  obtain ⟨T2, h2, X2, e2, W2, st2⟩ := stC X1 hx hZ e1 Ar_b1_2 (j := (0 : Int32)) hin_b1_2 (g := (mkF m 54 #[.val (.int (2 : Int32)), .val (.int c0), .val (.int c1), .val (.int c2), .val (.ref b1)] [(.int c0), (.int (0 : Int32)), (.ref b1)])) rfl rfl (hb hby D2_54.1)
  have V_b1_2 : Arv Z h2 b1 k1 .char (2 : Int32) [(.int (nar .char c0)), (.int (0 : Int32))] (.int (0 : Int32)) := Arv.set Ar_b1_2 q_b1_2 S_b1_2 N_b1_2 H_b1_2 G_b1_2 (fits_nar_char _) W2 0 rfl (Nat.le_of_ble_eq_true rfl)
  have sz2 := own_leN (Keep.of_wr W2).1
  have N2 := Fr.snoc X2 N0 gn_b1
  refine own_pre (A' := T2.setTop (mkF m 55 #[.val (.int (2 : Int32)), .val (.int c0), .val (.int c1), .val (.int c2), .val (.ref b1)] [])) st2 ?_
  refine o_aload X2 hx hby D2_55 rfl rfl ?_
  refine o_iconst X2 hx hby D2_57 (v := 1) rfl ?_
  refine o_iloadN X2 hx hby D2_58 rfl ?_
  obtain ⟨cl_b1_3, Ar_b1_3, q_b1_3, S_b1_3, N_b1_3, H_b1_3, G_b1_3⟩ := id V_b1_2
  have hin_b1_3 : ¬ ((1 : Int32) < 0 ∨ cl_b1_3.slots.size ≤ ((1 : Int32)).toNatClampNeg) := inb_of S_b1_3 ⟨by decide, by decide⟩
  obtain ⟨T3, h3, X3, e3, W3, st3⟩ := stC X2 hx hZ e2 Ar_b1_3 (j := (1 : Int32)) hin_b1_3 (g := (mkF m 59 #[.val (.int (2 : Int32)), .val (.int c0), .val (.int c1), .val (.int c2), .val (.ref b1)] [(.int c1), (.int (1 : Int32)), (.ref b1)])) rfl rfl (hb hby D2_59.1)
  have V_b1_3 : Arv Z h3 b1 k1 .char (2 : Int32) [(.int (nar .char c0)), (.int (nar .char c1))] (.int (0 : Int32)) := Arv.set Ar_b1_3 q_b1_3 S_b1_3 N_b1_3 H_b1_3 G_b1_3 (fits_nar_char _) W3 1 rfl (Nat.le_of_ble_eq_true rfl)
  have sz3 := own_leN (Keep.of_wr W3).1
  have N3 := Fr.snoc X3 N2 gn_b1
  refine own_pre (A' := T3.setTop (mkF m 60 #[.val (.int (2 : Int32)), .val (.int c0), .val (.int c1), .val (.int c2), .val (.ref b1)] [])) st3 ?_
  obtain ⟨T4, h4, X4, e4, E4, A4, D4, -, st4⟩ := newO X3 hx hZ hown (wd hw 8 rfl) (wd hw 9 rfl) (wd hw 10 rfl) e3 (g := (mkF m 60 #[.val (.int (2 : Int32)), .val (.int c0), .val (.int c1), .val (.int c2), .val (.ref b1)] [])) rfl (hb hby D2_60.1) (by decide) (by decide)
  obtain ⟨b4, g4⟩ : ∃ z : Nat, z = h3.size := ⟨_, rfl⟩
  rw [← g4] at A4 D4 st4
  have sz4 := own_leN E4.1
  have gn_b4 : n0 ≤ b4 := by omega
  have lt_b4 := own_ltN A4.lt
  have F_coder_b4 : Fld Z h4 b4 "java/lang/String" "coder" "B" (.int (0 : Int32)) := D4 (Or.inr (wd hw 34 rfl)) (ty := .byte) (by decide)
  have F_value_b4 : Fld Z h4 b4 "java/lang/String" "value" "[B" .null := D4 (Or.inr (wd hw 36 rfl)) (ty := (.array .byte)) (by decide)
  refine own_pre (A' := T4.setTop (mkF m 63 #[.val (.int (2 : Int32)), .val (.int c0), .val (.int c1), .val (.int c2), .val (.ref b1)] [(.ref b4)])) st4 ?_
  refine o_dup X4 hx hby D2_63 rfl ?_
  refine o_aload X4 hx hby D2_64 rfl rfl ?_
  have c6_V_b1 := (V_b1_3.ext E4)
  have Vq5 : Arv Z h4 b1 k1 .char (2 : Int32) [(.int c0), (.int c1)] (.int (0 : Int32)) := by have q := c6_V_b1; simp only [own_nc hc0, own_nc hc1] at q; exact q
  have c7_O := ((((O0.ext E1).wr W2 gn_b1).wr W3 gn_b1).ext E4)
  refine kI X4 hx hZ hown hby (wd hw 11 rfl) (wd hw 12 rfl) (wd hw 10 rfl) (wd hw 13 rfl) rfl (rs_i12 l Z a0 hw [] b4 b1 k1 c0 c1 _ _ cs vf h4 n0 (own_leN (by omega)) hST0 c7_O Vq5 hc0 hc1 gn_b4 A4 F_value_b4 F_coder_b4) (by decide) (by decide) (by decide) (by decide) (by decide) (by rw [hml]; rfl) [(.ref b1)] [(.ref b4)] (lenOf pd__40_91C_41V rfl) (W := 1) rfl rfl D2_66 rfl e4 ?_
  intro v5 T5 L5 X5 hQ5
  obtain ⟨vb, kb, rfl, N5q, K5, ge5, Str5⟩ := hQ5
  have sz5 := own_leN K5.1
  have N5 := Fr.app N3 N5q
  refine own_sh (A' := T5.setTop (mkF m 69 _ [(.ref b4)])) ?_
  have KK : Keep h0 T5.heap [] := ((((((Keep.refl h0 []).ext E1).wr W2 (Or.inr (own_leN (by omega)))).wr W3 (Or.inr (own_leN (by omega)))).ext E4).trans K5 (allS (Or.inr (own_leN (by omega))) all0))
  exact own_ret (v := some (.ref b4)) X5 (fun h => by first | rfl | (rw [Bd.returns] at h; cases h)) (BodyLoose.notSynchronized Bd) (by decide) (by decide) (⟨b4, vb, kb, rfl, N5, KK, own_leN (by omega), (own_StrL2 Str5).1, (own_StrL2 Str5).2, Str5⟩) (fun fs hr => retOut X5 hx Bd.returns rfl (Or.inr (Or.inr (Or.inr (Or.inr ⟨rfl, rfl, rfl⟩)))) (hb hby D2_69.1) hr)
def own_QK3 (Z : State) (c0 c1 c2 : Int32) (h0 : Heap) (n0 : Nat) (v : Option Value) (h : Heap) (L : List Loc) : Prop := ∃ (st vb : Nat) (kb : ClassId), v = some (.ref st) ∧ Fr n0 L ∧ Keep h0 h [] ∧ h0.size ≤ st ∧ st < h.size ∧ vb < h.size ∧ own_Str3 Z h st vb kb c0 c1 c2
theorem D2_70 : own_at method_3_code 70 (.iconst 3) 1 71 := ⟨by decide +kernel, rfl⟩
theorem D2_71 : own_at method_3_code 71 (.newarray .char) 2 73 := ⟨by decide +kernel, rfl⟩
theorem D2_73 : own_at method_3_code 73 (.astore 4) 2 75 := ⟨by decide +kernel, rfl⟩
theorem D2_75 : own_at method_3_code 75 (.aload 4) 2 77 := ⟨by decide +kernel, rfl⟩
theorem D2_77 : own_at method_3_code 77 (.iconst 0) 1 78 := ⟨by decide +kernel, rfl⟩
theorem D2_78 : own_at method_3_code 78 (.iload_n 1) 1 79 := ⟨by decide +kernel, rfl⟩
theorem D2_79 : own_at method_3_code 79 (.castore) 1 80 := ⟨by decide +kernel, rfl⟩
theorem D2_80 : own_at method_3_code 80 (.aload 4) 2 82 := ⟨by decide +kernel, rfl⟩
theorem D2_82 : own_at method_3_code 82 (.iconst 1) 1 83 := ⟨by decide +kernel, rfl⟩
theorem D2_83 : own_at method_3_code 83 (.iload_n 2) 1 84 := ⟨by decide +kernel, rfl⟩
theorem D2_84 : own_at method_3_code 84 (.castore) 1 85 := ⟨by decide +kernel, rfl⟩
theorem D2_85 : own_at method_3_code 85 (.aload 4) 2 87 := ⟨by decide +kernel, rfl⟩
theorem D2_87 : own_at method_3_code 87 (.iconst 2) 1 88 := ⟨by decide +kernel, rfl⟩
theorem D2_88 : own_at method_3_code 88 (.iload_n 3) 1 89 := ⟨by decide +kernel, rfl⟩
theorem D2_89 : own_at method_3_code 89 (.castore) 1 90 := ⟨by decide +kernel, rfl⟩
theorem D2_90 : own_at method_3_code 90 (.new 8) 3 93 := ⟨by decide +kernel, rfl⟩
theorem D2_93 : own_at method_3_code 93 (.dup) 1 94 := ⟨by decide +kernel, rfl⟩
theorem D2_94 : own_at method_3_code 94 (.aload 4) 2 96 := ⟨by decide +kernel, rfl⟩
theorem D2_96 : own_at method_3_code 96 (.invokespecial 10) 3 99 := ⟨by decide +kernel, rfl⟩
theorem D2_99 : own_at method_3_code 99 (.areturn) 1 100 := ⟨by decide +kernel, rfl⟩
theorem ef_rm_key3 (m : MethodId) (c0 : Int32) (c1 : Int32) (c2 : Int32) : entryFrame m #[(.int (3 : Int32)), (.int c0), (.int c1), (.int c2)] 5 = mkF m 0 #[.val (.int (3 : Int32)), .val (.int c0), .val (.int c1), .val (.int c2), .unset] [] := by first | (simp [entryFrame, mkF, argsToLocals, Value.category]; done) | rfl
set_option maxRecDepth 65536 in
set_option maxHeartbeats 40000000 in
theorem rm_key3 (l : Launch) (Z : State) (a0 : Array Value) (hw : ∀ d ∈ tables_1, d.before a0 Z = true) (ws : List Jvm.Cond) (c0 : Int32) (c1 : Int32) (c2 : Int32) (cs : Int32) (vf : Value) (h0 : Heap) (n0 : Nat) (Z0 : n0 ≤ h0.size) (hST : own_ST Z cs vf) (O0 : Old Z n0 h0) (hc0 : own_ch16 c0) (hc1 : own_ch16 c1) (hc2 : own_ch16 c2) :
    own_Mt l (⟨"com/example/placer/placer/Utf8AsciiBytesPinLaw", "key", "(ICCC)Ljava/lang/String;"⟩ : MethodName) method_3_code 5 (some (.object "java/lang/String")) ({ frames := 6, cells := 4, slots := 16, locals := 88 } : Room) #[(.int (3 : Int32)), (.int c0), (.int c1), (.int c2)] Z h0 (own_QK3 Z c0 c1 c2 h0 n0) := by
  refine MetFree.of_bodySF (plainFor_of_name pn_com_example_placer_placer_Utf8AsciiBytesPinLaw) hisR ?_
  intro p e s m args below meth c s₁ Bd hml0 hP hK
  obtain ⟨rfl, hZ, hh⟩ := hP
  have hx := Bd.exec
  have hby := Bd.bytes
  have hml : c.maxLocals = 5 := hml0
  have hown : s.vm.findClass "com/example/placer/placer/Utf8AsciiBytesPinLaw" = some m.cls := findClass_of_methodNamed Bd.named
  have hnm := (name_of_methodNamed Bd.named Bd.method).1
  have X0 : Stand p l e ({ frames := 6, cells := 4, slots := 16, locals := 88 } : Room) s m #[(.int (3 : Int32)), (.int c0), (.int c1), (.int c2)] below meth c s₁ [] 0 0 := Stand.of_body Bd
  have e0 : s₁.heap = h0 := by rw [← hh, Bd.state]; rfl
  have N0 := Fr.nil n0
  refine own_start (ef_rm_key3 m c0 c1 c2) ?_
  have hST0 := hST
  refine o_iloadN X0 hx hby D2_0 rfl ?_
  refine o_ifY X0 hx hby D2_1 ((if0 _ _).trans (feq (by decide : ¬ ((3 : Int32) = (0 : Int32)))).2) (q := 15) (by decide) (by decide) ?_
  refine o_iloadN X0 hx hby D2_15 rfl ?_
  refine o_iconst X0 hx hby D2_16 (v := 1) rfl ?_
  refine o_icmpY X0 hx hby D2_17 (feq (by decide : ¬ ((3 : Int32) = (1 : Int32)))).2 (q := 40) (by decide) (by decide) ?_
  refine o_iloadN X0 hx hby D2_40 rfl ?_
  refine o_iconst X0 hx hby D2_41 (v := 2) rfl ?_
  refine o_icmpY X0 hx hby D2_42 (feq (by decide : ¬ ((3 : Int32) = (2 : Int32)))).2 (q := 70) (by decide) (by decide) ?_
  refine o_iconst X0 hx hby D2_70 (v := 3) rfl ?_
  obtain ⟨T1, h1, k1, X1, e1, E1, A1, Ex1, st1⟩ := newPE X0 hx hZ (wd hw 7 rfl) e0 (g := (mkF m 71 #[.val (.int (3 : Int32)), .val (.int c0), .val (.int c1), .val (.int c2), .unset] [(.int (3 : Int32))])) rfl (hb hby D2_71.1) rfl (by decide) (cap := 3) (by decide) (by decide) (by decide) (by decide) (ad := "[C") (by first | rfl | decide)
  obtain ⟨b1, g1⟩ : ∃ z : Nat, z = h0.size := ⟨_, rfl⟩
  rw [← g1] at A1 Ex1 st1
  have sz1 := own_leN E1.1
  have gn_b1 : n0 ≤ b1 := by omega
  have V_b1 : Arv Z h1 b1 k1 .char (3 : Int32) [(.int (0 : Int32)), (.int (0 : Int32)), (.int (0 : Int32))] (.int (0 : Int32)) := (Arv.new A1 (by decide)).pad (pad_rep [] (.int (0 : Int32)) 3)
  have lt_b1 := own_ltN V_b1.lt
  refine own_pre (A' := T1.setTop (mkF m 73 #[.val (.int (3 : Int32)), .val (.int c0), .val (.int c1), .val (.int c2), .unset] [(.ref b1)])) st1 ?_
  refine o_astore X1 hx hby D2_73 rfl (l' := #[.val (.int (3 : Int32)), .val (.int c0), .val (.int c1), .val (.int c2), .val (.ref b1)]) rfl ?_
  refine o_aload X1 hx hby D2_75 rfl rfl ?_
  refine o_iconst X1 hx hby D2_77 (v := 0) rfl ?_
  refine o_iloadN X1 hx hby D2_78 rfl ?_
  obtain ⟨cl_b1_2, Ar_b1_2, q_b1_2, S_b1_2, N_b1_2, H_b1_2, G_b1_2⟩ := id V_b1
  have hin_b1_2 : ¬ ((0 : Int32) < 0 ∨ cl_b1_2.slots.size ≤ ((0 : Int32)).toNatClampNeg) := inb_of S_b1_2 ⟨by decide, by decide⟩
  obtain ⟨T2, h2, X2, e2, W2, st2⟩ := stC X1 hx hZ e1 Ar_b1_2 (j := (0 : Int32)) hin_b1_2 (g := (mkF m 79 #[.val (.int (3 : Int32)), .val (.int c0), .val (.int c1), .val (.int c2), .val (.ref b1)] [(.int c0), (.int (0 : Int32)), (.ref b1)])) rfl rfl (hb hby D2_79.1)
  have V_b1_2 : Arv Z h2 b1 k1 .char (3 : Int32) [(.int (nar .char c0)), (.int (0 : Int32)), (.int (0 : Int32))] (.int (0 : Int32)) := Arv.set Ar_b1_2 q_b1_2 S_b1_2 N_b1_2 H_b1_2 G_b1_2 (fits_nar_char _) W2 0 rfl (Nat.le_of_ble_eq_true rfl)
  have sz2 := own_leN (Keep.of_wr W2).1
  have N2 := Fr.snoc X2 N0 gn_b1
  refine own_pre (A' := T2.setTop (mkF m 80 #[.val (.int (3 : Int32)), .val (.int c0), .val (.int c1), .val (.int c2), .val (.ref b1)] [])) st2 ?_
  refine o_aload X2 hx hby D2_80 rfl rfl ?_
  refine o_iconst X2 hx hby D2_82 (v := 1) rfl ?_
  refine o_iloadN X2 hx hby D2_83 rfl ?_
  obtain ⟨cl_b1_3, Ar_b1_3, q_b1_3, S_b1_3, N_b1_3, H_b1_3, G_b1_3⟩ := id V_b1_2
  have hin_b1_3 : ¬ ((1 : Int32) < 0 ∨ cl_b1_3.slots.size ≤ ((1 : Int32)).toNatClampNeg) := inb_of S_b1_3 ⟨by decide, by decide⟩
  obtain ⟨T3, h3, X3, e3, W3, st3⟩ := stC X2 hx hZ e2 Ar_b1_3 (j := (1 : Int32)) hin_b1_3 (g := (mkF m 84 #[.val (.int (3 : Int32)), .val (.int c0), .val (.int c1), .val (.int c2), .val (.ref b1)] [(.int c1), (.int (1 : Int32)), (.ref b1)])) rfl rfl (hb hby D2_84.1)
  have V_b1_3 : Arv Z h3 b1 k1 .char (3 : Int32) [(.int (nar .char c0)), (.int (nar .char c1)), (.int (0 : Int32))] (.int (0 : Int32)) := Arv.set Ar_b1_3 q_b1_3 S_b1_3 N_b1_3 H_b1_3 G_b1_3 (fits_nar_char _) W3 1 rfl (Nat.le_of_ble_eq_true rfl)
  have sz3 := own_leN (Keep.of_wr W3).1
  have N3 := Fr.snoc X3 N2 gn_b1
  refine own_pre (A' := T3.setTop (mkF m 85 #[.val (.int (3 : Int32)), .val (.int c0), .val (.int c1), .val (.int c2), .val (.ref b1)] [])) st3 ?_
  refine o_aload X3 hx hby D2_85 rfl rfl ?_
  refine o_iconst X3 hx hby D2_87 (v := 2) rfl ?_
  refine o_iloadN X3 hx hby D2_88 rfl ?_
  obtain ⟨cl_b1_4, Ar_b1_4, q_b1_4, S_b1_4, N_b1_4, H_b1_4, G_b1_4⟩ := id V_b1_3
  have hin_b1_4 : ¬ ((2 : Int32) < 0 ∨ cl_b1_4.slots.size ≤ ((2 : Int32)).toNatClampNeg) := inb_of S_b1_4 ⟨by decide, by decide⟩
  obtain ⟨T4, h4, X4, e4, W4, st4⟩ := stC X3 hx hZ e3 Ar_b1_4 (j := (2 : Int32)) hin_b1_4 (g := (mkF m 89 #[.val (.int (3 : Int32)), .val (.int c0), .val (.int c1), .val (.int c2), .val (.ref b1)] [(.int c2), (.int (2 : Int32)), (.ref b1)])) rfl rfl (hb hby D2_89.1)
  have V_b1_4 : Arv Z h4 b1 k1 .char (3 : Int32) [(.int (nar .char c0)), (.int (nar .char c1)), (.int (nar .char c2))] (.int (0 : Int32)) := Arv.set Ar_b1_4 q_b1_4 S_b1_4 N_b1_4 H_b1_4 G_b1_4 (fits_nar_char _) W4 2 rfl (Nat.le_of_ble_eq_true rfl)
  have sz4 := own_leN (Keep.of_wr W4).1
  have N4 := Fr.snoc X4 N3 gn_b1
  refine own_pre (A' := T4.setTop (mkF m 90 #[.val (.int (3 : Int32)), .val (.int c0), .val (.int c1), .val (.int c2), .val (.ref b1)] [])) st4 ?_
  obtain ⟨T5, h5, X5, e5, E5, A5, D5, -, st5⟩ := newO X4 hx hZ hown (wd hw 8 rfl) (wd hw 9 rfl) (wd hw 10 rfl) e4 (g := (mkF m 90 #[.val (.int (3 : Int32)), .val (.int c0), .val (.int c1), .val (.int c2), .val (.ref b1)] [])) rfl (hb hby D2_90.1) (by decide) (by decide)
  obtain ⟨b5, g5⟩ : ∃ z : Nat, z = h4.size := ⟨_, rfl⟩
  rw [← g5] at A5 D5 st5
  have sz5 := own_leN E5.1
  have gn_b5 : n0 ≤ b5 := by omega
  have lt_b5 := own_ltN A5.lt
  have F_coder_b5 : Fld Z h5 b5 "java/lang/String" "coder" "B" (.int (0 : Int32)) := D5 (Or.inr (wd hw 34 rfl)) (ty := .byte) (by decide)
  have F_value_b5 : Fld Z h5 b5 "java/lang/String" "value" "[B" .null := D5 (Or.inr (wd hw 36 rfl)) (ty := (.array .byte)) (by decide)
  refine own_pre (A' := T5.setTop (mkF m 93 #[.val (.int (3 : Int32)), .val (.int c0), .val (.int c1), .val (.int c2), .val (.ref b1)] [(.ref b5)])) st5 ?_
  refine o_dup X5 hx hby D2_93 rfl ?_
  refine o_aload X5 hx hby D2_94 rfl rfl ?_
  have c7_V_b1 := (V_b1_4.ext E5)
  have Vq6 : Arv Z h5 b1 k1 .char (3 : Int32) [(.int c0), (.int c1), (.int c2)] (.int (0 : Int32)) := by have q := c7_V_b1; simp only [own_nc hc0, own_nc hc1, own_nc hc2] at q; exact q
  have c8_O := (((((O0.ext E1).wr W2 gn_b1).wr W3 gn_b1).wr W4 gn_b1).ext E5)
  refine kI X5 hx hZ hown hby (wd hw 11 rfl) (wd hw 12 rfl) (wd hw 10 rfl) (wd hw 13 rfl) rfl (rs_i13 l Z a0 hw [] b5 b1 k1 c0 c1 c2 _ _ cs vf h5 n0 (own_leN (by omega)) hST0 c8_O Vq6 hc0 hc1 hc2 gn_b5 A5 F_value_b5 F_coder_b5) (by decide) (by decide) (by decide) (by decide) (by decide) (by rw [hml]; rfl) [(.ref b1)] [(.ref b5)] (lenOf pd__40_91C_41V rfl) (W := 1) rfl rfl D2_96 rfl e5 ?_
  intro v6 T6 L6 X6 hQ6
  obtain ⟨vb, kb, rfl, N6q, K6, ge6, Str6⟩ := hQ6
  have sz6 := own_leN K6.1
  have N6 := Fr.app N4 N6q
  refine own_sh (A' := T6.setTop (mkF m 99 _ [(.ref b5)])) ?_
  have KK : Keep h0 T6.heap [] := (((((((Keep.refl h0 []).ext E1).wr W2 (Or.inr (own_leN (by omega)))).wr W3 (Or.inr (own_leN (by omega)))).wr W4 (Or.inr (own_leN (by omega)))).ext E5).trans K6 (allS (Or.inr (own_leN (by omega))) all0))
  exact own_ret (v := some (.ref b5)) X6 (fun h => by first | rfl | (rw [Bd.returns] at h; cases h)) (BodyLoose.notSynchronized Bd) (by decide) (by decide) (⟨b5, vb, kb, rfl, N6, KK, own_leN (by omega), (own_StrL3 Str6).1, (own_StrL3 Str6).2, Str6⟩) (fun fs hr => retOut X6 hx Bd.returns rfl (Or.inr (Or.inr (Or.inr (Or.inr ⟨rfl, rfl, rfl⟩)))) (hb hby D2_99.1) hr)
def own_QA0 (Z : State) (h0 : Heap) (n0 : Nat) (v : Option Value) (h : Heap) (L : List Loc) : Prop := ∃ (r : Nat) (kr : ClassId), v = some (.ref r) ∧ Fr n0 L ∧ Keep h0 h [] ∧ h0.size ≤ r ∧ Arv Z h r kr .byte (0 : Int32) [] (.int (0 : Int32))
theorem D9_0 : own_at method_4_code 0 (.iload_n 0) 1 1 := ⟨by decide +kernel, rfl⟩
theorem D9_1 : own_at method_4_code 1 (.ifCond .ne 7) 3 4 := ⟨by decide +kernel, rfl⟩
theorem D9_4 : own_at method_4_code 4 (.iconst 0) 1 5 := ⟨by decide +kernel, rfl⟩
theorem D9_5 : own_at method_4_code 5 (.newarray .byte) 2 7 := ⟨by decide +kernel, rfl⟩
theorem D9_7 : own_at method_4_code 7 (.areturn) 1 8 := ⟨by decide +kernel, rfl⟩
theorem ef_rm_arr0 (m : MethodId)  : entryFrame m #[(.int (0 : Int32))] 1 = mkF m 0 #[.val (.int (0 : Int32))] [] := by first | (simp [entryFrame, mkF, argsToLocals, Value.category]; done) | rfl
set_option maxRecDepth 65536 in
set_option maxHeartbeats 40000000 in
theorem rm_arr0 (l : Launch) (Z : State) (a0 : Array Value) (hw : ∀ d ∈ tables_1, d.before a0 Z = true) (ws : List Jvm.Cond)   (h0 : Heap) (n0 : Nat) (Z0 : n0 ≤ h0.size)  :
    own_Mt l (⟨"com/example/placer/placer/Utf8AsciiBytesPinLaw", "arr", "(I)[B"⟩ : MethodName) method_4_code 1 (some (.array .byte)) ({ frames := 0, cells := 1, slots := 0, locals := 0 } : Room) #[(.int (0 : Int32))] Z h0 (own_QA0 Z h0 n0) := by
  refine MetFree.of_bodySF (plainFor_of_name pn_com_example_placer_placer_Utf8AsciiBytesPinLaw) hisR ?_
  intro p e s m args below meth c s₁ Bd hml0 hP hK
  obtain ⟨rfl, hZ, hh⟩ := hP
  have hx := Bd.exec
  have hby := Bd.bytes
  have hml : c.maxLocals = 1 := hml0
  have hown : s.vm.findClass "com/example/placer/placer/Utf8AsciiBytesPinLaw" = some m.cls := findClass_of_methodNamed Bd.named
  have hnm := (name_of_methodNamed Bd.named Bd.method).1
  have X0 : Stand p l e ({ frames := 0, cells := 1, slots := 0, locals := 0 } : Room) s m #[(.int (0 : Int32))] below meth c s₁ [] 0 0 := Stand.of_body Bd
  have e0 : s₁.heap = h0 := by rw [← hh, Bd.state]; rfl
  have N0 := Fr.nil n0
  refine own_start (ef_rm_arr0 m ) ?_
  refine o_iloadN X0 hx hby D9_0 rfl ?_
  refine o_ifN X0 hx hby D9_1 ((if0 _ _).trans (teq (by decide : (0 : Int32) = (0 : Int32))).2) ?_
  refine o_iconst X0 hx hby D9_4 (v := 0) rfl ?_
  obtain ⟨T1, h1, k1, X1, e1, E1, A1, Ex1, st1⟩ := newPE X0 hx hZ (wd hw 26 rfl) e0 (g := (mkF m 5 #[.val (.int (0 : Int32))] [(.int (0 : Int32))])) rfl (hb hby D9_5.1) rfl (by decide) (cap := 0) (by decide) (by decide) (by decide) (by decide) (ad := "[B") (by first | rfl | decide)
  obtain ⟨b1, g1⟩ : ∃ z : Nat, z = h0.size := ⟨_, rfl⟩
  rw [← g1] at A1 Ex1 st1
  have sz1 := own_leN E1.1
  have gn_b1 : n0 ≤ b1 := by omega
  have V_b1 : Arv Z h1 b1 k1 .byte (0 : Int32) [] (.int (0 : Int32)) := (Arv.new A1 (by decide)).pad (pad_rep [] (.int (0 : Int32)) 0)
  have lt_b1 := own_ltN V_b1.lt
  refine own_pre (A' := T1.setTop (mkF m 7 #[.val (.int (0 : Int32))] [(.ref b1)])) st1 ?_
  have KK : Keep h0 h1 [] := ((Keep.refl h0 []).ext E1)
  exact own_ret (v := some (.ref b1)) X1 (fun h => by first | rfl | (rw [Bd.returns] at h; cases h)) (BodyLoose.notSynchronized Bd) (by decide) (by decide) (by rw [e1]; exact ⟨b1, k1, rfl, N0, KK, own_leN (by omega), V_b1⟩) (fun fs hr => retOut X1 hx Bd.returns rfl (Or.inr (Or.inr (Or.inr (Or.inr ⟨rfl, rfl, rfl⟩)))) (hb hby D9_7.1) hr)
def own_QA1 (Z : State) (h0 : Heap) (n0 : Nat) (v : Option Value) (h : Heap) (L : List Loc) : Prop := ∃ (r : Nat) (kr : ClassId), v = some (.ref r) ∧ Fr n0 L ∧ Keep h0 h [] ∧ h0.size ≤ r ∧ Arv Z h r kr .byte (1 : Int32) [(.int (0 : Int32))] (.int (0 : Int32))
theorem D9_8 : own_at method_4_code 8 (.iload_n 0) 1 9 := ⟨by decide +kernel, rfl⟩
theorem D9_9 : own_at method_4_code 9 (.iconst 1) 1 10 := ⟨by decide +kernel, rfl⟩
theorem D9_10 : own_at method_4_code 10 (.if_icmp .ne 7) 3 13 := ⟨by decide +kernel, rfl⟩
theorem D9_13 : own_at method_4_code 13 (.iconst 1) 1 14 := ⟨by decide +kernel, rfl⟩
theorem D9_14 : own_at method_4_code 14 (.newarray .byte) 2 16 := ⟨by decide +kernel, rfl⟩
theorem D9_16 : own_at method_4_code 16 (.areturn) 1 17 := ⟨by decide +kernel, rfl⟩
theorem ef_rm_arr1 (m : MethodId)  : entryFrame m #[(.int (1 : Int32))] 1 = mkF m 0 #[.val (.int (1 : Int32))] [] := by first | (simp [entryFrame, mkF, argsToLocals, Value.category]; done) | rfl
set_option maxRecDepth 65536 in
set_option maxHeartbeats 40000000 in
theorem rm_arr1 (l : Launch) (Z : State) (a0 : Array Value) (hw : ∀ d ∈ tables_1, d.before a0 Z = true) (ws : List Jvm.Cond)   (h0 : Heap) (n0 : Nat) (Z0 : n0 ≤ h0.size)  :
    own_Mt l (⟨"com/example/placer/placer/Utf8AsciiBytesPinLaw", "arr", "(I)[B"⟩ : MethodName) method_4_code 1 (some (.array .byte)) ({ frames := 0, cells := 1, slots := 1, locals := 0 } : Room) #[(.int (1 : Int32))] Z h0 (own_QA1 Z h0 n0) := by
  refine MetFree.of_bodySF (plainFor_of_name pn_com_example_placer_placer_Utf8AsciiBytesPinLaw) hisR ?_
  intro p e s m args below meth c s₁ Bd hml0 hP hK
  obtain ⟨rfl, hZ, hh⟩ := hP
  have hx := Bd.exec
  have hby := Bd.bytes
  have hml : c.maxLocals = 1 := hml0
  have hown : s.vm.findClass "com/example/placer/placer/Utf8AsciiBytesPinLaw" = some m.cls := findClass_of_methodNamed Bd.named
  have hnm := (name_of_methodNamed Bd.named Bd.method).1
  have X0 : Stand p l e ({ frames := 0, cells := 1, slots := 1, locals := 0 } : Room) s m #[(.int (1 : Int32))] below meth c s₁ [] 0 0 := Stand.of_body Bd
  have e0 : s₁.heap = h0 := by rw [← hh, Bd.state]; rfl
  have N0 := Fr.nil n0
  refine own_start (ef_rm_arr1 m ) ?_
  refine o_iloadN X0 hx hby D9_0 rfl ?_
  refine o_ifY X0 hx hby D9_1 ((if0 _ _).trans (feq (by decide : ¬ ((1 : Int32) = (0 : Int32)))).2) (q := 8) (by decide) (by decide) ?_
  refine o_iloadN X0 hx hby D9_8 rfl ?_
  refine o_iconst X0 hx hby D9_9 (v := 1) rfl ?_
  refine o_icmpN X0 hx hby D9_10 (teq (by decide : (1 : Int32) = (1 : Int32))).2 ?_
  refine o_iconst X0 hx hby D9_13 (v := 1) rfl ?_
  obtain ⟨T1, h1, k1, X1, e1, E1, A1, Ex1, st1⟩ := newPE X0 hx hZ (wd hw 26 rfl) e0 (g := (mkF m 14 #[.val (.int (1 : Int32))] [(.int (1 : Int32))])) rfl (hb hby D9_14.1) rfl (by decide) (cap := 1) (by decide) (by decide) (by decide) (by decide) (ad := "[B") (by first | rfl | decide)
  obtain ⟨b1, g1⟩ : ∃ z : Nat, z = h0.size := ⟨_, rfl⟩
  rw [← g1] at A1 Ex1 st1
  have sz1 := own_leN E1.1
  have gn_b1 : n0 ≤ b1 := by omega
  have V_b1 : Arv Z h1 b1 k1 .byte (1 : Int32) [(.int (0 : Int32))] (.int (0 : Int32)) := (Arv.new A1 (by decide)).pad (pad_rep [] (.int (0 : Int32)) 1)
  have lt_b1 := own_ltN V_b1.lt
  refine own_pre (A' := T1.setTop (mkF m 16 #[.val (.int (1 : Int32))] [(.ref b1)])) st1 ?_
  have KK : Keep h0 h1 [] := ((Keep.refl h0 []).ext E1)
  exact own_ret (v := some (.ref b1)) X1 (fun h => by first | rfl | (rw [Bd.returns] at h; cases h)) (BodyLoose.notSynchronized Bd) (by decide) (by decide) (by rw [e1]; exact ⟨b1, k1, rfl, N0, KK, own_leN (by omega), V_b1⟩) (fun fs hr => retOut X1 hx Bd.returns rfl (Or.inr (Or.inr (Or.inr (Or.inr ⟨rfl, rfl, rfl⟩)))) (hb hby D9_16.1) hr)
def own_QA2 (Z : State) (h0 : Heap) (n0 : Nat) (v : Option Value) (h : Heap) (L : List Loc) : Prop := ∃ (r : Nat) (kr : ClassId), v = some (.ref r) ∧ Fr n0 L ∧ Keep h0 h [] ∧ h0.size ≤ r ∧ Arv Z h r kr .byte (2 : Int32) [(.int (0 : Int32)), (.int (0 : Int32))] (.int (0 : Int32))
theorem D9_17 : own_at method_4_code 17 (.iload_n 0) 1 18 := ⟨by decide +kernel, rfl⟩
theorem D9_18 : own_at method_4_code 18 (.iconst 2) 1 19 := ⟨by decide +kernel, rfl⟩
theorem D9_19 : own_at method_4_code 19 (.if_icmp .ne 7) 3 22 := ⟨by decide +kernel, rfl⟩
theorem D9_22 : own_at method_4_code 22 (.iconst 2) 1 23 := ⟨by decide +kernel, rfl⟩
theorem D9_23 : own_at method_4_code 23 (.newarray .byte) 2 25 := ⟨by decide +kernel, rfl⟩
theorem D9_25 : own_at method_4_code 25 (.areturn) 1 26 := ⟨by decide +kernel, rfl⟩
theorem ef_rm_arr2 (m : MethodId)  : entryFrame m #[(.int (2 : Int32))] 1 = mkF m 0 #[.val (.int (2 : Int32))] [] := by first | (simp [entryFrame, mkF, argsToLocals, Value.category]; done) | rfl
set_option maxRecDepth 65536 in
set_option maxHeartbeats 40000000 in
theorem rm_arr2 (l : Launch) (Z : State) (a0 : Array Value) (hw : ∀ d ∈ tables_1, d.before a0 Z = true) (ws : List Jvm.Cond)   (h0 : Heap) (n0 : Nat) (Z0 : n0 ≤ h0.size)  :
    own_Mt l (⟨"com/example/placer/placer/Utf8AsciiBytesPinLaw", "arr", "(I)[B"⟩ : MethodName) method_4_code 1 (some (.array .byte)) ({ frames := 0, cells := 1, slots := 2, locals := 0 } : Room) #[(.int (2 : Int32))] Z h0 (own_QA2 Z h0 n0) := by
  refine MetFree.of_bodySF (plainFor_of_name pn_com_example_placer_placer_Utf8AsciiBytesPinLaw) hisR ?_
  intro p e s m args below meth c s₁ Bd hml0 hP hK
  obtain ⟨rfl, hZ, hh⟩ := hP
  have hx := Bd.exec
  have hby := Bd.bytes
  have hml : c.maxLocals = 1 := hml0
  have hown : s.vm.findClass "com/example/placer/placer/Utf8AsciiBytesPinLaw" = some m.cls := findClass_of_methodNamed Bd.named
  have hnm := (name_of_methodNamed Bd.named Bd.method).1
  have X0 : Stand p l e ({ frames := 0, cells := 1, slots := 2, locals := 0 } : Room) s m #[(.int (2 : Int32))] below meth c s₁ [] 0 0 := Stand.of_body Bd
  have e0 : s₁.heap = h0 := by rw [← hh, Bd.state]; rfl
  have N0 := Fr.nil n0
  refine own_start (ef_rm_arr2 m ) ?_
  refine o_iloadN X0 hx hby D9_0 rfl ?_
  refine o_ifY X0 hx hby D9_1 ((if0 _ _).trans (feq (by decide : ¬ ((2 : Int32) = (0 : Int32)))).2) (q := 8) (by decide) (by decide) ?_
  refine o_iloadN X0 hx hby D9_8 rfl ?_
  refine o_iconst X0 hx hby D9_9 (v := 1) rfl ?_
  refine o_icmpY X0 hx hby D9_10 (feq (by decide : ¬ ((2 : Int32) = (1 : Int32)))).2 (q := 17) (by decide) (by decide) ?_
  refine o_iloadN X0 hx hby D9_17 rfl ?_
  refine o_iconst X0 hx hby D9_18 (v := 2) rfl ?_
  refine o_icmpN X0 hx hby D9_19 (teq (by decide : (2 : Int32) = (2 : Int32))).2 ?_
  refine o_iconst X0 hx hby D9_22 (v := 2) rfl ?_
  obtain ⟨T1, h1, k1, X1, e1, E1, A1, Ex1, st1⟩ := newPE X0 hx hZ (wd hw 26 rfl) e0 (g := (mkF m 23 #[.val (.int (2 : Int32))] [(.int (2 : Int32))])) rfl (hb hby D9_23.1) rfl (by decide) (cap := 2) (by decide) (by decide) (by decide) (by decide) (ad := "[B") (by first | rfl | decide)
  obtain ⟨b1, g1⟩ : ∃ z : Nat, z = h0.size := ⟨_, rfl⟩
  rw [← g1] at A1 Ex1 st1
  have sz1 := own_leN E1.1
  have gn_b1 : n0 ≤ b1 := by omega
  have V_b1 : Arv Z h1 b1 k1 .byte (2 : Int32) [(.int (0 : Int32)), (.int (0 : Int32))] (.int (0 : Int32)) := (Arv.new A1 (by decide)).pad (pad_rep [] (.int (0 : Int32)) 2)
  have lt_b1 := own_ltN V_b1.lt
  refine own_pre (A' := T1.setTop (mkF m 25 #[.val (.int (2 : Int32))] [(.ref b1)])) st1 ?_
  have KK : Keep h0 h1 [] := ((Keep.refl h0 []).ext E1)
  exact own_ret (v := some (.ref b1)) X1 (fun h => by first | rfl | (rw [Bd.returns] at h; cases h)) (BodyLoose.notSynchronized Bd) (by decide) (by decide) (by rw [e1]; exact ⟨b1, k1, rfl, N0, KK, own_leN (by omega), V_b1⟩) (fun fs hr => retOut X1 hx Bd.returns rfl (Or.inr (Or.inr (Or.inr (Or.inr ⟨rfl, rfl, rfl⟩)))) (hb hby D9_25.1) hr)
def own_QA3 (Z : State) (h0 : Heap) (n0 : Nat) (v : Option Value) (h : Heap) (L : List Loc) : Prop := ∃ (r : Nat) (kr : ClassId), v = some (.ref r) ∧ Fr n0 L ∧ Keep h0 h [] ∧ h0.size ≤ r ∧ Arv Z h r kr .byte (3 : Int32) [(.int (0 : Int32)), (.int (0 : Int32)), (.int (0 : Int32))] (.int (0 : Int32))
theorem D9_26 : own_at method_4_code 26 (.iconst 3) 1 27 := ⟨by decide +kernel, rfl⟩
theorem D9_27 : own_at method_4_code 27 (.newarray .byte) 2 29 := ⟨by decide +kernel, rfl⟩
theorem D9_29 : own_at method_4_code 29 (.areturn) 1 30 := ⟨by decide +kernel, rfl⟩
theorem ef_rm_arr3 (m : MethodId)  : entryFrame m #[(.int (3 : Int32))] 1 = mkF m 0 #[.val (.int (3 : Int32))] [] := by first | (simp [entryFrame, mkF, argsToLocals, Value.category]; done) | rfl
set_option maxRecDepth 65536 in
set_option maxHeartbeats 40000000 in
theorem rm_arr3 (l : Launch) (Z : State) (a0 : Array Value) (hw : ∀ d ∈ tables_1, d.before a0 Z = true) (ws : List Jvm.Cond)   (h0 : Heap) (n0 : Nat) (Z0 : n0 ≤ h0.size)  :
    own_Mt l (⟨"com/example/placer/placer/Utf8AsciiBytesPinLaw", "arr", "(I)[B"⟩ : MethodName) method_4_code 1 (some (.array .byte)) ({ frames := 0, cells := 1, slots := 3, locals := 0 } : Room) #[(.int (3 : Int32))] Z h0 (own_QA3 Z h0 n0) := by
  refine MetFree.of_bodySF (plainFor_of_name pn_com_example_placer_placer_Utf8AsciiBytesPinLaw) hisR ?_
  intro p e s m args below meth c s₁ Bd hml0 hP hK
  obtain ⟨rfl, hZ, hh⟩ := hP
  have hx := Bd.exec
  have hby := Bd.bytes
  have hml : c.maxLocals = 1 := hml0
  have hown : s.vm.findClass "com/example/placer/placer/Utf8AsciiBytesPinLaw" = some m.cls := findClass_of_methodNamed Bd.named
  have hnm := (name_of_methodNamed Bd.named Bd.method).1
  have X0 : Stand p l e ({ frames := 0, cells := 1, slots := 3, locals := 0 } : Room) s m #[(.int (3 : Int32))] below meth c s₁ [] 0 0 := Stand.of_body Bd
  have e0 : s₁.heap = h0 := by rw [← hh, Bd.state]; rfl
  have N0 := Fr.nil n0
  refine own_start (ef_rm_arr3 m ) ?_
  refine o_iloadN X0 hx hby D9_0 rfl ?_
  refine o_ifY X0 hx hby D9_1 ((if0 _ _).trans (feq (by decide : ¬ ((3 : Int32) = (0 : Int32)))).2) (q := 8) (by decide) (by decide) ?_
  refine o_iloadN X0 hx hby D9_8 rfl ?_
  refine o_iconst X0 hx hby D9_9 (v := 1) rfl ?_
  refine o_icmpY X0 hx hby D9_10 (feq (by decide : ¬ ((3 : Int32) = (1 : Int32)))).2 (q := 17) (by decide) (by decide) ?_
  refine o_iloadN X0 hx hby D9_17 rfl ?_
  refine o_iconst X0 hx hby D9_18 (v := 2) rfl ?_
  refine o_icmpY X0 hx hby D9_19 (feq (by decide : ¬ ((3 : Int32) = (2 : Int32)))).2 (q := 26) (by decide) (by decide) ?_
  refine o_iconst X0 hx hby D9_26 (v := 3) rfl ?_
  obtain ⟨T1, h1, k1, X1, e1, E1, A1, Ex1, st1⟩ := newPE X0 hx hZ (wd hw 26 rfl) e0 (g := (mkF m 27 #[.val (.int (3 : Int32))] [(.int (3 : Int32))])) rfl (hb hby D9_27.1) rfl (by decide) (cap := 3) (by decide) (by decide) (by decide) (by decide) (ad := "[B") (by first | rfl | decide)
  obtain ⟨b1, g1⟩ : ∃ z : Nat, z = h0.size := ⟨_, rfl⟩
  rw [← g1] at A1 Ex1 st1
  have sz1 := own_leN E1.1
  have gn_b1 : n0 ≤ b1 := by omega
  have V_b1 : Arv Z h1 b1 k1 .byte (3 : Int32) [(.int (0 : Int32)), (.int (0 : Int32)), (.int (0 : Int32))] (.int (0 : Int32)) := (Arv.new A1 (by decide)).pad (pad_rep [] (.int (0 : Int32)) 3)
  have lt_b1 := own_ltN V_b1.lt
  refine own_pre (A' := T1.setTop (mkF m 29 #[.val (.int (3 : Int32))] [(.ref b1)])) st1 ?_
  have KK : Keep h0 h1 [] := ((Keep.refl h0 []).ext E1)
  exact own_ret (v := some (.ref b1)) X1 (fun h => by first | rfl | (rw [Bd.returns] at h; cases h)) (BodyLoose.notSynchronized Bd) (by decide) (by decide) (by rw [e1]; exact ⟨b1, k1, rfl, N0, KK, own_leN (by omega), V_b1⟩) (fun fs hr => retOut X1 hx Bd.returns rfl (Or.inr (Or.inr (Or.inr (Or.inr ⟨rfl, rfl, rfl⟩)))) (hb hby D9_29.1) hr)
def own_ab0  : Int32 := if (0 : Int32) < (128 : Int32) then (0 : Int32) else (-1 : Int32)
theorem pd__40_41I : parseMethodDescriptor "()I" = some ⟨[], some .int⟩ := by decide +kernel
theorem D10_0 : own_at prog_30_method_3_code 0 (.aload_n 0) 1 1 := ⟨by decide +kernel, rfl⟩
theorem D10_1 : own_at prog_30_method_3_code 1 (.invokevirtual 7) 3 4 := ⟨by decide +kernel, rfl⟩
theorem D10_4 : own_at prog_30_method_3_code 4 (.istore_n 2) 1 5 := ⟨by decide +kernel, rfl⟩
theorem D10_5 : own_at prog_30_method_3_code 5 (.iload_n 2) 1 6 := ⟨by decide +kernel, rfl⟩
theorem D10_6 : own_at prog_30_method_3_code 6 (.aload_n 1) 1 7 := ⟨by decide +kernel, rfl⟩
theorem D10_7 : own_at prog_30_method_3_code 7 (.arraylength) 1 8 := ⟨by decide +kernel, rfl⟩
theorem D10_8 : own_at prog_30_method_3_code 8 (.if_icmp .le 5) 3 11 := ⟨by decide +kernel, rfl⟩
theorem D10_13 : own_at prog_30_method_3_code 13 (.iconst 0) 1 14 := ⟨by decide +kernel, rfl⟩
theorem D10_14 : own_at prog_30_method_3_code 14 (.istore_n 3) 1 15 := ⟨by decide +kernel, rfl⟩
theorem D10_15 : own_at prog_30_method_3_code 15 (.iconst 0) 1 16 := ⟨by decide +kernel, rfl⟩
theorem D10_16 : own_at prog_30_method_3_code 16 (.istore 4) 2 18 := ⟨by decide +kernel, rfl⟩
theorem D10_18 : own_at prog_30_method_3_code 18 (.iload 4) 2 20 := ⟨by decide +kernel, rfl⟩
theorem D10_20 : own_at prog_30_method_3_code 20 (.iload_n 2) 1 21 := ⟨by decide +kernel, rfl⟩
theorem D10_21 : own_at prog_30_method_3_code 21 (.if_icmp .ge 29) 3 24 := ⟨by decide +kernel, rfl⟩
theorem D10_50 : own_at prog_30_method_3_code 50 (.iload_n 3) 1 51 := ⟨by decide +kernel, rfl⟩
theorem D10_51 : own_at prog_30_method_3_code 51 (.sipush 128) 3 54 := ⟨by decide +kernel, rfl⟩
theorem D10_54 : own_at prog_30_method_3_code 54 (.if_icmp .ge 7) 3 57 := ⟨by decide +kernel, rfl⟩
theorem D10_57 : own_at prog_30_method_3_code 57 (.iload_n 2) 1 58 := ⟨by decide +kernel, rfl⟩
theorem D10_58 : own_at prog_30_method_3_code 58 (.goto 4) 3 61 := ⟨by decide +kernel, rfl⟩
theorem D10_62 : own_at prog_30_method_3_code 62 (.ireturn) 1 63 := ⟨by decide +kernel, rfl⟩
theorem pn_com_example_placer_placer_Utf8 : plainName "com/example/placer/placer/Utf8" = true := by first | (simp [plainName, overriddenIn]; done) | decide +kernel
theorem ef_rm_abX0 (m : MethodId) (st : Addr) (ba : Addr) : entryFrame m #[(.ref st), (.ref ba)] 6 = mkF m 0 #[.val (.ref st), .val (.ref ba), .unset, .unset, .unset, .unset] [] := by first | (simp [entryFrame, mkF, argsToLocals, Value.category]; done) | rfl
set_option maxRecDepth 65536 in
set_option maxHeartbeats 40000000 in
theorem rm_abX0 (l : Launch) (Z : State) (a0 : Array Value) (hw : ∀ d ∈ tables_1, d.before a0 Z = true) (ws : List Jvm.Cond) (st : Addr) (ba : Addr) (vb : Addr) (kb kd : ClassId)  (z : Int32) (xs : List Value) (cs : Int32) (vf : Value) (h0 : Heap) (n0 : Nat) (Z0 : n0 ≤ h0.size) (hST : own_ST Z cs vf) (O0 : Old Z n0 h0) (hS : own_Str0 Z h0 st vb kb ) (Vd : Arv Z h0 ba kd .byte z xs (.int (0 : Int32))) (hz : ¬ (z < (0 : Int32))) :
    own_Mt l (⟨"com/example/placer/placer/Utf8", "asciiBytes", "(Ljava/lang/String;[B)I"⟩ : MethodName) prog_30_method_3_code 6 (some .int) ({ frames := 2, cells := 0, slots := 0, locals := 25 } : Room) #[(.ref st), (.ref ba)] Z h0 (own_QP (.int (0 : Int32)) h0 n0) := by
  refine MetFree.of_bodySF (plainFor_of_name pn_com_example_placer_placer_Utf8) hisR ?_
  intro p e s m args below meth c s₁ Bd hml0 hP hK
  obtain ⟨rfl, hZ, hh⟩ := hP
  have hx := Bd.exec
  have hby := Bd.bytes
  have hml : c.maxLocals = 6 := hml0
  have hown : s.vm.findClass "com/example/placer/placer/Utf8" = some m.cls := findClass_of_methodNamed Bd.named
  have hnm := (name_of_methodNamed Bd.named Bd.method).1
  have X0 : Stand p l e ({ frames := 2, cells := 0, slots := 0, locals := 25 } : Room) s m #[(.ref st), (.ref ba)] below meth c s₁ [] 0 0 := Stand.of_body Bd
  have e0 : s₁.heap = h0 := by rw [← hh, Bd.state]; rfl
  have N0 := Fr.nil n0
  refine own_start (ef_rm_abX0 m st ba) ?_
  have hST0 := hST
  refine o_aloadN X0 hx hby D10_0 rfl rfl ?_
  refine kV X0 hx hZ hown hby (wd hw 44 rfl) (wd hw 45 rfl) (wd hw 47 rfl) (wd hw 46 rfl) (wd hw 10 rfl) (wd hw 48 rfl) (own_nf hZ (wd hw 47 rfl)) hS.1 (rs_len0 l Z a0 hw [] st vb kb  cs vf h0 n0 Z0 hST0 O0 hS) (by decide) (by decide) (by decide) (by decide) (by decide) (by rw [hml]; rfl) [] [] (lenOf pd__40_41I rfl) (W := 0) rfl rfl D10_1 rfl e0 ?_
  intro v1 T1 L1 X1 hQ1
  obtain ⟨rfl, N1q, e1⟩ := hQ1
  have N1 := Fr.app N0 N1q
  refine own_sh (A' := T1.setTop (mkF m 4 _ [(.int (0 : Int32))])) ?_
  refine o_istoreN X1 hx hby D10_4 (l' := #[.val (.ref st), .val (.ref ba), .val (.int (0 : Int32)), .unset, .unset, .unset]) rfl ?_
  refine o_iloadN X1 hx hby D10_5 rfl ?_
  refine o_aloadN X1 hx hby D10_6 rfl rfl ?_
  obtain ⟨cl_ba_2, Ar_ba_2, q_ba_2, S_ba_2, N_ba_2, H_ba_2, G_ba_2⟩ := id Vd
  refine own_pre (A' := T1.setTop (mkF m 8 #[.val (.ref st), .val (.ref ba), .val (.int (0 : Int32)), .unset, .unset, .unset] [(.int z), (.int (0 : Int32))])) (fun t k => X1.arraylength hx (by rw [e1]; exact Ar_ba_2.1) (State.isArrayOf_alike hZ.alike Ar_ba_2.2.1) (g := (mkF m 7 #[.val (.ref st), .val (.ref ba), .val (.int (0 : Int32)), .unset, .unset, .unset] [(.ref ba), (.int (0 : Int32))])) rfl rfl (hb hby D10_7.1) _ (by rw [len_of S_ba_2 N_ba_2]; exact k)) ?_
  refine o_icmpY X1 hx hby D10_8 (flt (hz : ¬ (z < (0 : Int32)))).2.2.2 (q := 13) (by decide) (by decide) ?_
  refine o_iconst X1 hx hby D10_13 (v := 0) rfl ?_
  refine o_istoreN X1 hx hby D10_14 (l' := #[.val (.ref st), .val (.ref ba), .val (.int (0 : Int32)), .val (.int (0 : Int32)), .unset, .unset]) rfl ?_
  refine o_iconst X1 hx hby D10_15 (v := 0) rfl ?_
  refine o_istore X1 hx hby D10_16 (l' := #[.val (.ref st), .val (.ref ba), .val (.int (0 : Int32)), .val (.int (0 : Int32)), .val (.int (0 : Int32)), .unset]) rfl ?_
  refine o_iload X1 hx hby D10_18 rfl ?_
  refine o_iloadN X1 hx hby D10_20 rfl ?_
  refine o_icmpY X1 hx hby D10_21 (flt (by decide : ¬ ((0 : Int32) < (0 : Int32)))).2.1 (q := 50) (by decide) (by decide) ?_
  refine o_iloadN X1 hx hby D10_50 rfl ?_
  refine o_sipush X1 hx hby D10_51 (v := 128) rfl ?_
  refine o_icmpN X1 hx hby D10_54 (tlt (by decide : (0 : Int32) < (128 : Int32))).2.1 ?_
  refine o_iloadN X1 hx hby D10_57 rfl ?_
  refine o_goto X1 hx hby D10_58 (q := 62) (by decide) (by decide) ?_
  exact own_ret (v := some (.int (0 : Int32))) X1 (fun h => by first | rfl | (rw [Bd.returns] at h; cases h)) (BodyLoose.notSynchronized Bd) (by decide) (by decide) (⟨rfl, N1, e1⟩) (fun fs hr => retI X1 hx Bd.returns (hb hby D10_62.1) hr)
def own_ab1 (c0 : Int32) : Int32 := if ((0 : Int32) ||| c0) < (128 : Int32) then (1 : Int32) else (-1 : Int32)
theorem own_acc1 {c0 : Int32} (hc0 : own_ch16 c0) : ((0 : Int32) ||| c0) < (128 : Int32) ↔ c0 < (128 : Int32) := by
  have r0 := own_or16 own_z16 hc0
  have z : (0 : Int32) < (128 : Int32) := by decide
  rw [r0.2]
  simp [z, and_assoc]
theorem own_abY1 {c0 : Int32} (hc0 : own_ch16 c0) (h : c0 < (128 : Int32)) : own_ab1 c0 = (1 : Int32) := by
  rw [own_ab1, if_pos ((own_acc1 hc0).mpr h)]
theorem own_abN1 {c0 : Int32} (hc0 : own_ch16 c0) (h : ¬ (c0 < (128 : Int32))) : own_ab1 c0 = (-1 : Int32) := by
  rw [own_ab1, if_neg (fun q => h ((own_acc1 hc0).mp q))]
theorem D10_11 : own_at prog_30_method_3_code 11 (.iconst (-1)) 1 12 := ⟨by decide +kernel, rfl⟩
theorem D10_12 : own_at prog_30_method_3_code 12 (.ireturn) 1 13 := ⟨by decide +kernel, rfl⟩
theorem ef_rm_abX1 (m : MethodId) (st : Addr) (ba : Addr) : entryFrame m #[(.ref st), (.ref ba)] 6 = mkF m 0 #[.val (.ref st), .val (.ref ba), .unset, .unset, .unset, .unset] [] := by first | (simp [entryFrame, mkF, argsToLocals, Value.category]; done) | rfl
set_option maxRecDepth 65536 in
set_option maxHeartbeats 40000000 in
theorem rm_abX1 (l : Launch) (Z : State) (a0 : Array Value) (hw : ∀ d ∈ tables_1, d.before a0 Z = true) (ws : List Jvm.Cond) (st : Addr) (ba : Addr) (vb : Addr) (kb kd : ClassId) (c0 : Int32) (z : Int32) (xs : List Value) (cs : Int32) (vf : Value) (h0 : Heap) (n0 : Nat) (Z0 : n0 ≤ h0.size) (hST : own_ST Z cs vf) (O0 : Old Z n0 h0) (hS : own_Str1 Z h0 st vb kb c0) (Vd : Arv Z h0 ba kd .byte z xs (.int (0 : Int32))) (hz : z < (1 : Int32)) :
    own_Mt l (⟨"com/example/placer/placer/Utf8", "asciiBytes", "(Ljava/lang/String;[B)I"⟩ : MethodName) prog_30_method_3_code 6 (some .int) ({ frames := 2, cells := 0, slots := 0, locals := 25 } : Room) #[(.ref st), (.ref ba)] Z h0 (own_QP (.int (-1 : Int32)) h0 n0) := by
  refine MetFree.of_bodySF (plainFor_of_name pn_com_example_placer_placer_Utf8) hisR ?_
  intro p e s m args below meth c s₁ Bd hml0 hP hK
  obtain ⟨rfl, hZ, hh⟩ := hP
  have hx := Bd.exec
  have hby := Bd.bytes
  have hml : c.maxLocals = 6 := hml0
  have hown : s.vm.findClass "com/example/placer/placer/Utf8" = some m.cls := findClass_of_methodNamed Bd.named
  have hnm := (name_of_methodNamed Bd.named Bd.method).1
  have X0 : Stand p l e ({ frames := 2, cells := 0, slots := 0, locals := 25 } : Room) s m #[(.ref st), (.ref ba)] below meth c s₁ [] 0 0 := Stand.of_body Bd
  have e0 : s₁.heap = h0 := by rw [← hh, Bd.state]; rfl
  have N0 := Fr.nil n0
  refine own_start (ef_rm_abX1 m st ba) ?_
  have hST0 := hST
  refine o_aloadN X0 hx hby D10_0 rfl rfl ?_
  refine kV X0 hx hZ hown hby (wd hw 44 rfl) (wd hw 45 rfl) (wd hw 47 rfl) (wd hw 46 rfl) (wd hw 10 rfl) (wd hw 48 rfl) (own_nf hZ (wd hw 47 rfl)) hS.1 (rs_len1 l Z a0 hw [] st vb kb c0 cs vf h0 n0 Z0 hST0 O0 hS) (by decide) (by decide) (by decide) (by decide) (by decide) (by rw [hml]; rfl) [] [] (lenOf pd__40_41I rfl) (W := 0) rfl rfl D10_1 rfl e0 ?_
  intro v1 T1 L1 X1 hQ1
  obtain ⟨rfl, N1q, e1⟩ := hQ1
  have N1 := Fr.app N0 N1q
  refine own_sh (A' := T1.setTop (mkF m 4 _ [(.int (1 : Int32))])) ?_
  refine o_istoreN X1 hx hby D10_4 (l' := #[.val (.ref st), .val (.ref ba), .val (.int (1 : Int32)), .unset, .unset, .unset]) rfl ?_
  refine o_iloadN X1 hx hby D10_5 rfl ?_
  refine o_aloadN X1 hx hby D10_6 rfl rfl ?_
  obtain ⟨cl_ba_2, Ar_ba_2, q_ba_2, S_ba_2, N_ba_2, H_ba_2, G_ba_2⟩ := id Vd
  refine own_pre (A' := T1.setTop (mkF m 8 #[.val (.ref st), .val (.ref ba), .val (.int (1 : Int32)), .unset, .unset, .unset] [(.int z), (.int (1 : Int32))])) (fun t k => X1.arraylength hx (by rw [e1]; exact Ar_ba_2.1) (State.isArrayOf_alike hZ.alike Ar_ba_2.2.1) (g := (mkF m 7 #[.val (.ref st), .val (.ref ba), .val (.int (1 : Int32)), .unset, .unset, .unset] [(.ref ba), (.int (1 : Int32))])) rfl rfl (hb hby D10_7.1) _ (by rw [len_of S_ba_2 N_ba_2]; exact k)) ?_
  refine o_icmpN X1 hx hby D10_8 (tlt (hz : z < (1 : Int32))).2.2.2 ?_
  refine o_iconst X1 hx hby D10_11 (v := -1) rfl ?_
  exact own_ret (v := some (.int (-1 : Int32))) X1 (fun h => by first | rfl | (rw [Bd.returns] at h; cases h)) (BodyLoose.notSynchronized Bd) (by decide) (by decide) (⟨rfl, N1, e1⟩) (fun fs hr => retI X1 hx Bd.returns (hb hby D10_12.1) hr)
def own_QB11 (Z : State) (ba : Addr) (kd : ClassId) (c0 : Int32) (x0 : Value) (h0 : Heap) (n0 : Nat) (v : Option Value) (h : Heap) (L : List Loc) : Prop := v = some (.int (own_ab1 c0)) ∧ Fr n0 L ∧ Keep h0 h [ba] ∧ Arv Z h ba kd .byte (1 : Int32) [(.int (own_l8 c0))] (.int (0 : Int32))
theorem pd__40I_41C : parseMethodDescriptor "(I)C" = some ⟨[.int], some .char⟩ := by decide +kernel
theorem D10_24 : own_at prog_30_method_3_code 24 (.aload_n 0) 1 25 := ⟨by decide +kernel, rfl⟩
theorem D10_25 : own_at prog_30_method_3_code 25 (.iload 4) 2 27 := ⟨by decide +kernel, rfl⟩
theorem D10_27 : own_at prog_30_method_3_code 27 (.invokevirtual 13) 3 30 := ⟨by decide +kernel, rfl⟩
theorem D10_30 : own_at prog_30_method_3_code 30 (.istore 5) 2 32 := ⟨by decide +kernel, rfl⟩
theorem D10_32 : own_at prog_30_method_3_code 32 (.iload_n 3) 1 33 := ⟨by decide +kernel, rfl⟩
theorem D10_33 : own_at prog_30_method_3_code 33 (.iload 5) 2 35 := ⟨by decide +kernel, rfl⟩
theorem D10_35 : own_at prog_30_method_3_code 35 (.ior) 1 36 := ⟨by decide +kernel, rfl⟩
theorem D10_36 : own_at prog_30_method_3_code 36 (.istore_n 3) 1 37 := ⟨by decide +kernel, rfl⟩
theorem D10_37 : own_at prog_30_method_3_code 37 (.aload_n 1) 1 38 := ⟨by decide +kernel, rfl⟩
theorem D10_38 : own_at prog_30_method_3_code 38 (.iload 4) 2 40 := ⟨by decide +kernel, rfl⟩
theorem D10_40 : own_at prog_30_method_3_code 40 (.iload 5) 2 42 := ⟨by decide +kernel, rfl⟩
theorem D10_42 : own_at prog_30_method_3_code 42 (.i2b) 1 43 := ⟨by decide +kernel, rfl⟩
theorem D10_43 : own_at prog_30_method_3_code 43 (.bastore) 1 44 := ⟨by decide +kernel, rfl⟩
theorem D10_44 : own_at prog_30_method_3_code 44 (.iinc 4 1) 3 47 := ⟨by decide +kernel, rfl⟩
theorem D10_47 : own_at prog_30_method_3_code 47 (.goto (-29)) 3 50 := ⟨by decide +kernel, rfl⟩
theorem D10_61 : own_at prog_30_method_3_code 61 (.iconst (-1)) 1 62 := ⟨by decide +kernel, rfl⟩
theorem ef_rm_ab11 (m : MethodId) (st : Addr) (ba : Addr) : entryFrame m #[(.ref st), (.ref ba)] 6 = mkF m 0 #[.val (.ref st), .val (.ref ba), .unset, .unset, .unset, .unset] [] := by first | (simp [entryFrame, mkF, argsToLocals, Value.category]; done) | rfl
set_option maxRecDepth 65536 in
set_option maxHeartbeats 40000000 in
theorem rm_ab11 (l : Launch) (Z : State) (a0 : Array Value) (hw : ∀ d ∈ tables_1, d.before a0 Z = true) (ws : List Jvm.Cond) (st : Addr) (ba : Addr) (vb : Addr) (kb kd : ClassId) (c0 : Int32) (x0 : Value) (cs : Int32) (vf : Value) (h0 : Heap) (n0 : Nat) (Z0 : n0 ≤ h0.size) (hST : own_ST Z cs vf) (O0 : Old Z n0 h0) (hS : own_Str1 Z h0 st vb kb c0) (hc0 : own_ch16 c0) (gn_ba : n0 ≤ ba) (Vd : Arv Z h0 ba kd .byte (1 : Int32) [x0] (.int (0 : Int32))) (nst : @LT.lt Nat instLTNat st ba) (nvb : @LT.lt Nat instLTNat vb ba) :
    own_Mt l (⟨"com/example/placer/placer/Utf8", "asciiBytes", "(Ljava/lang/String;[B)I"⟩ : MethodName) prog_30_method_3_code 6 (some .int) ({ frames := 5, cells := 0, slots := 0, locals := 66 } : Room) #[(.ref st), (.ref ba)] Z h0 (own_QB11 Z ba kd c0 x0 h0 n0) := by
  refine MetFree.of_bodySF (plainFor_of_name pn_com_example_placer_placer_Utf8) hisR ?_
  intro p e s m args below meth c s₁ Bd hml0 hP hK
  obtain ⟨rfl, hZ, hh⟩ := hP
  have hx := Bd.exec
  have hby := Bd.bytes
  have hml : c.maxLocals = 6 := hml0
  have hown : s.vm.findClass "com/example/placer/placer/Utf8" = some m.cls := findClass_of_methodNamed Bd.named
  have hnm := (name_of_methodNamed Bd.named Bd.method).1
  have X0 : Stand p l e ({ frames := 5, cells := 0, slots := 0, locals := 66 } : Room) s m #[(.ref st), (.ref ba)] below meth c s₁ [] 0 0 := Stand.of_body Bd
  have e0 : s₁.heap = h0 := by rw [← hh, Bd.state]; rfl
  have N0 := Fr.nil n0
  refine own_start (ef_rm_ab11 m st ba) ?_
  have hST0 := hST
  have lt_ba := own_ltN Vd.lt
  refine o_aloadN X0 hx hby D10_0 rfl rfl ?_
  refine kV X0 hx hZ hown hby (wd hw 44 rfl) (wd hw 45 rfl) (wd hw 47 rfl) (wd hw 46 rfl) (wd hw 10 rfl) (wd hw 48 rfl) (own_nf hZ (wd hw 47 rfl)) hS.1 (rs_len1 l Z a0 hw [] st vb kb c0 cs vf h0 n0 Z0 hST0 O0 hS) (by decide) (by decide) (by decide) (by decide) (by decide) (by rw [hml]; rfl) [] [] (lenOf pd__40_41I rfl) (W := 0) rfl rfl D10_1 rfl e0 ?_
  intro v1 T1 L1 X1 hQ1
  obtain ⟨rfl, N1q, e1⟩ := hQ1
  have N1 := Fr.app N0 N1q
  refine own_sh (A' := T1.setTop (mkF m 4 _ [(.int (1 : Int32))])) ?_
  refine o_istoreN X1 hx hby D10_4 (l' := #[.val (.ref st), .val (.ref ba), .val (.int (1 : Int32)), .unset, .unset, .unset]) rfl ?_
  refine o_iloadN X1 hx hby D10_5 rfl ?_
  refine o_aloadN X1 hx hby D10_6 rfl rfl ?_
  obtain ⟨cl_ba_2, Ar_ba_2, q_ba_2, S_ba_2, N_ba_2, H_ba_2, G_ba_2⟩ := id Vd
  refine own_pre (A' := T1.setTop (mkF m 8 #[.val (.ref st), .val (.ref ba), .val (.int (1 : Int32)), .unset, .unset, .unset] [(.int (1 : Int32)), (.int (1 : Int32))])) (fun t k => X1.arraylength hx (by rw [e1]; exact Ar_ba_2.1) (State.isArrayOf_alike hZ.alike Ar_ba_2.2.1) (g := (mkF m 7 #[.val (.ref st), .val (.ref ba), .val (.int (1 : Int32)), .unset, .unset, .unset] [(.ref ba), (.int (1 : Int32))])) rfl rfl (hb hby D10_7.1) _ (by rw [len_of S_ba_2 N_ba_2]; exact k)) ?_
  refine o_icmpY X1 hx hby D10_8 (flt (by decide : ¬ ((1 : Int32) < (1 : Int32)))).2.2.2 (q := 13) (by decide) (by decide) ?_
  refine o_iconst X1 hx hby D10_13 (v := 0) rfl ?_
  refine o_istoreN X1 hx hby D10_14 (l' := #[.val (.ref st), .val (.ref ba), .val (.int (1 : Int32)), .val (.int (0 : Int32)), .unset, .unset]) rfl ?_
  refine o_iconst X1 hx hby D10_15 (v := 0) rfl ?_
  refine o_istore X1 hx hby D10_16 (l' := #[.val (.ref st), .val (.ref ba), .val (.int (1 : Int32)), .val (.int (0 : Int32)), .val (.int (0 : Int32)), .unset]) rfl ?_
  refine o_iload X1 hx hby D10_18 rfl ?_
  refine o_iloadN X1 hx hby D10_20 rfl ?_
  refine o_icmpN X1 hx hby D10_21 (tlt (by decide : (0 : Int32) < (1 : Int32))).2.1 ?_
  refine o_aloadN X1 hx hby D10_24 rfl rfl ?_
  refine o_iload X1 hx hby D10_25 rfl ?_
  refine kV X1 hx hZ hown hby (wd hw 54 rfl) (wd hw 55 rfl) (wd hw 57 rfl) (wd hw 56 rfl) (wd hw 10 rfl) (wd hw 58 rfl) (own_nf hZ (wd hw 57 rfl)) hS.1 (rs_ca10 l Z a0 hw [] st vb kb c0 cs vf h0 n0 Z0 hST0 O0 hS hc0) (by decide) (by decide) (by decide) (by decide) (by decide) (by rw [hml]; rfl) [(.int (0 : Int32))] [] (lenOf pd__40I_41C rfl) (W := 0) rfl rfl D10_27 rfl e1 ?_
  intro v3 T3 L3 X3 hQ3
  obtain ⟨rfl, N3q, e3⟩ := hQ3
  have N3 := Fr.app N1 N3q
  refine own_sh (A' := T3.setTop (mkF m 30 _ [(.int c0)])) ?_
  refine o_istore X3 hx hby D10_30 (l' := #[.val (.ref st), .val (.ref ba), .val (.int (1 : Int32)), .val (.int (0 : Int32)), .val (.int (0 : Int32)), .val (.int c0)]) rfl ?_
  refine o_iloadN X3 hx hby D10_32 rfl ?_
  refine o_iload X3 hx hby D10_33 rfl ?_
  refine o_ior X3 hx hby D10_35 ?_
  refine o_istoreN X3 hx hby D10_36 (l' := #[.val (.ref st), .val (.ref ba), .val (.int (1 : Int32)), .val (.int ((0 : Int32) ||| c0)), .val (.int (0 : Int32)), .val (.int c0)]) rfl ?_
  refine o_aloadN X3 hx hby D10_37 rfl rfl ?_
  refine o_iload X3 hx hby D10_38 rfl ?_
  refine o_iload X3 hx hby D10_40 rfl ?_
  refine o_i2b X3 hx hby D10_42 ?_
  obtain ⟨cl_ba_4, Ar_ba_4, q_ba_4, S_ba_4, N_ba_4, H_ba_4, G_ba_4⟩ := id Vd
  have hin_ba_4 : ¬ ((0 : Int32) < 0 ∨ cl_ba_4.slots.size ≤ ((0 : Int32)).toNatClampNeg) := inb_of S_ba_4 ⟨by decide, by decide⟩
  obtain ⟨T4, h4, X4, e4, W4, st4⟩ := stB X3 hx hZ e3 Ar_ba_4 (j := (0 : Int32)) hin_ba_4 (g := (mkF m 43 #[.val (.ref st), .val (.ref ba), .val (.int (1 : Int32)), .val (.int ((0 : Int32) ||| c0)), .val (.int (0 : Int32)), .val (.int c0)] [(.int ((c0).toInt8.toInt32)), (.int (0 : Int32)), (.ref ba)])) rfl rfl (hb hby D10_43.1)
  have V_ba_4 : Arv Z h4 ba kd .byte (1 : Int32) [(.int (nar .byte ((c0).toInt8.toInt32)))] (.int (0 : Int32)) := Arv.set Ar_ba_4 q_ba_4 S_ba_4 N_ba_4 H_ba_4 G_ba_4 (fits_nar_byte _) W4 0 rfl (Nat.le_of_ble_eq_true rfl)
  have sz4 := own_leN (Keep.of_wr W4).1
  have N4 := Fr.snoc X4 N3 gn_ba
  refine own_pre (A' := T4.setTop (mkF m 44 #[.val (.ref st), .val (.ref ba), .val (.int (1 : Int32)), .val (.int ((0 : Int32) ||| c0)), .val (.int (0 : Int32)), .val (.int c0)] [])) st4 ?_
  refine o_iinc X4 hx hby D10_44 rfl (l' := #[.val (.ref st), .val (.ref ba), .val (.int (1 : Int32)), .val (.int ((0 : Int32) ||| c0)), .val (.int ((0 : Int32) + (1 : Int32))), .val (.int c0)]) rfl ?_
  rw [(by decide : ((0 : Int32) + (1 : Int32)) = (1 : Int32))]
  refine o_goto X4 hx hby D10_47 (q := 18) (by decide) (by decide) ?_
  refine o_iload X4 hx hby D10_18 rfl ?_
  refine o_iloadN X4 hx hby D10_20 rfl ?_
  refine o_icmpY X4 hx hby D10_21 (flt (by decide : ¬ ((1 : Int32) < (1 : Int32)))).2.1 (q := 50) (by decide) (by decide) ?_
  refine o_iloadN X4 hx hby D10_50 rfl ?_
  refine o_sipush X4 hx hby D10_51 (v := 128) rfl ?_
  by_cases hc54_5 : ((0 : Int32) ||| c0) < (128 : Int32)
  · skip
    refine o_icmpN X4 hx hby D10_54 (tlt hc54_5).2.1 ?_
    refine o_iloadN X4 hx hby D10_57 rfl ?_
    refine o_goto X4 hx hby D10_58 (q := 62) (by decide) (by decide) ?_
    have KK : Keep h0 h4 [ba] := ((Keep.refl h0 [ba]).wr W4 (Or.inl (by simp)))
    have VV : Arv Z h4 ba kd .byte (1 : Int32) [(.int (own_l8 c0))] (.int (0 : Int32)) := V_ba_4
    exact own_ret (v := some (.int (1 : Int32))) X4 (fun h => by first | rfl | (rw [Bd.returns] at h; cases h)) (BodyLoose.notSynchronized Bd) (by decide) (by decide) (by rw [e4]; exact ⟨by rw [own_ab1, if_pos hc54_5], N4, KK, VV⟩) (fun fs hr => retI X4 hx Bd.returns (hb hby D10_62.1) hr)
  · skip
    refine o_icmpY X4 hx hby D10_54 (flt hc54_5).2.1 (q := 61) (by decide) (by decide) ?_
    refine o_iconst X4 hx hby D10_61 (v := -1) rfl ?_
    have KK : Keep h0 h4 [ba] := ((Keep.refl h0 [ba]).wr W4 (Or.inl (by simp)))
    have VV : Arv Z h4 ba kd .byte (1 : Int32) [(.int (own_l8 c0))] (.int (0 : Int32)) := V_ba_4
    exact own_ret (v := some (.int (-1 : Int32))) X4 (fun h => by first | rfl | (rw [Bd.returns] at h; cases h)) (BodyLoose.notSynchronized Bd) (by decide) (by decide) (by rw [e4]; exact ⟨by rw [own_ab1, if_neg hc54_5], N4, KK, VV⟩) (fun fs hr => retI X4 hx Bd.returns (hb hby D10_62.1) hr)
def own_QB12 (Z : State) (ba : Addr) (kd : ClassId) (c0 : Int32) (x0 x1 : Value) (h0 : Heap) (n0 : Nat) (v : Option Value) (h : Heap) (L : List Loc) : Prop := v = some (.int (own_ab1 c0)) ∧ Fr n0 L ∧ Keep h0 h [ba] ∧ Arv Z h ba kd .byte (2 : Int32) [(.int (own_l8 c0)), x1] (.int (0 : Int32))
theorem ef_rm_ab12 (m : MethodId) (st : Addr) (ba : Addr) : entryFrame m #[(.ref st), (.ref ba)] 6 = mkF m 0 #[.val (.ref st), .val (.ref ba), .unset, .unset, .unset, .unset] [] := by first | (simp [entryFrame, mkF, argsToLocals, Value.category]; done) | rfl
set_option maxRecDepth 65536 in
set_option maxHeartbeats 40000000 in
theorem rm_ab12 (l : Launch) (Z : State) (a0 : Array Value) (hw : ∀ d ∈ tables_1, d.before a0 Z = true) (ws : List Jvm.Cond) (st : Addr) (ba : Addr) (vb : Addr) (kb kd : ClassId) (c0 : Int32) (x0 x1 : Value) (cs : Int32) (vf : Value) (h0 : Heap) (n0 : Nat) (Z0 : n0 ≤ h0.size) (hST : own_ST Z cs vf) (O0 : Old Z n0 h0) (hS : own_Str1 Z h0 st vb kb c0) (hc0 : own_ch16 c0) (gn_ba : n0 ≤ ba) (Vd : Arv Z h0 ba kd .byte (2 : Int32) [x0, x1] (.int (0 : Int32))) (nst : @LT.lt Nat instLTNat st ba) (nvb : @LT.lt Nat instLTNat vb ba) :
    own_Mt l (⟨"com/example/placer/placer/Utf8", "asciiBytes", "(Ljava/lang/String;[B)I"⟩ : MethodName) prog_30_method_3_code 6 (some .int) ({ frames := 5, cells := 0, slots := 0, locals := 66 } : Room) #[(.ref st), (.ref ba)] Z h0 (own_QB12 Z ba kd c0 x0 x1 h0 n0) := by
  refine MetFree.of_bodySF (plainFor_of_name pn_com_example_placer_placer_Utf8) hisR ?_
  intro p e s m args below meth c s₁ Bd hml0 hP hK
  obtain ⟨rfl, hZ, hh⟩ := hP
  have hx := Bd.exec
  have hby := Bd.bytes
  have hml : c.maxLocals = 6 := hml0
  have hown : s.vm.findClass "com/example/placer/placer/Utf8" = some m.cls := findClass_of_methodNamed Bd.named
  have hnm := (name_of_methodNamed Bd.named Bd.method).1
  have X0 : Stand p l e ({ frames := 5, cells := 0, slots := 0, locals := 66 } : Room) s m #[(.ref st), (.ref ba)] below meth c s₁ [] 0 0 := Stand.of_body Bd
  have e0 : s₁.heap = h0 := by rw [← hh, Bd.state]; rfl
  have N0 := Fr.nil n0
  refine own_start (ef_rm_ab12 m st ba) ?_
  have hST0 := hST
  have lt_ba := own_ltN Vd.lt
  refine o_aloadN X0 hx hby D10_0 rfl rfl ?_
  refine kV X0 hx hZ hown hby (wd hw 44 rfl) (wd hw 45 rfl) (wd hw 47 rfl) (wd hw 46 rfl) (wd hw 10 rfl) (wd hw 48 rfl) (own_nf hZ (wd hw 47 rfl)) hS.1 (rs_len1 l Z a0 hw [] st vb kb c0 cs vf h0 n0 Z0 hST0 O0 hS) (by decide) (by decide) (by decide) (by decide) (by decide) (by rw [hml]; rfl) [] [] (lenOf pd__40_41I rfl) (W := 0) rfl rfl D10_1 rfl e0 ?_
  intro v1 T1 L1 X1 hQ1
  obtain ⟨rfl, N1q, e1⟩ := hQ1
  have N1 := Fr.app N0 N1q
  refine own_sh (A' := T1.setTop (mkF m 4 _ [(.int (1 : Int32))])) ?_
  refine o_istoreN X1 hx hby D10_4 (l' := #[.val (.ref st), .val (.ref ba), .val (.int (1 : Int32)), .unset, .unset, .unset]) rfl ?_
  refine o_iloadN X1 hx hby D10_5 rfl ?_
  refine o_aloadN X1 hx hby D10_6 rfl rfl ?_
  obtain ⟨cl_ba_2, Ar_ba_2, q_ba_2, S_ba_2, N_ba_2, H_ba_2, G_ba_2⟩ := id Vd
  refine own_pre (A' := T1.setTop (mkF m 8 #[.val (.ref st), .val (.ref ba), .val (.int (1 : Int32)), .unset, .unset, .unset] [(.int (2 : Int32)), (.int (1 : Int32))])) (fun t k => X1.arraylength hx (by rw [e1]; exact Ar_ba_2.1) (State.isArrayOf_alike hZ.alike Ar_ba_2.2.1) (g := (mkF m 7 #[.val (.ref st), .val (.ref ba), .val (.int (1 : Int32)), .unset, .unset, .unset] [(.ref ba), (.int (1 : Int32))])) rfl rfl (hb hby D10_7.1) _ (by rw [len_of S_ba_2 N_ba_2]; exact k)) ?_
  refine o_icmpY X1 hx hby D10_8 (flt (by decide : ¬ ((2 : Int32) < (1 : Int32)))).2.2.2 (q := 13) (by decide) (by decide) ?_
  refine o_iconst X1 hx hby D10_13 (v := 0) rfl ?_
  refine o_istoreN X1 hx hby D10_14 (l' := #[.val (.ref st), .val (.ref ba), .val (.int (1 : Int32)), .val (.int (0 : Int32)), .unset, .unset]) rfl ?_
  refine o_iconst X1 hx hby D10_15 (v := 0) rfl ?_
  refine o_istore X1 hx hby D10_16 (l' := #[.val (.ref st), .val (.ref ba), .val (.int (1 : Int32)), .val (.int (0 : Int32)), .val (.int (0 : Int32)), .unset]) rfl ?_
  refine o_iload X1 hx hby D10_18 rfl ?_
  refine o_iloadN X1 hx hby D10_20 rfl ?_
  refine o_icmpN X1 hx hby D10_21 (tlt (by decide : (0 : Int32) < (1 : Int32))).2.1 ?_
  refine o_aloadN X1 hx hby D10_24 rfl rfl ?_
  refine o_iload X1 hx hby D10_25 rfl ?_
  refine kV X1 hx hZ hown hby (wd hw 54 rfl) (wd hw 55 rfl) (wd hw 57 rfl) (wd hw 56 rfl) (wd hw 10 rfl) (wd hw 58 rfl) (own_nf hZ (wd hw 57 rfl)) hS.1 (rs_ca10 l Z a0 hw [] st vb kb c0 cs vf h0 n0 Z0 hST0 O0 hS hc0) (by decide) (by decide) (by decide) (by decide) (by decide) (by rw [hml]; rfl) [(.int (0 : Int32))] [] (lenOf pd__40I_41C rfl) (W := 0) rfl rfl D10_27 rfl e1 ?_
  intro v3 T3 L3 X3 hQ3
  obtain ⟨rfl, N3q, e3⟩ := hQ3
  have N3 := Fr.app N1 N3q
  refine own_sh (A' := T3.setTop (mkF m 30 _ [(.int c0)])) ?_
  refine o_istore X3 hx hby D10_30 (l' := #[.val (.ref st), .val (.ref ba), .val (.int (1 : Int32)), .val (.int (0 : Int32)), .val (.int (0 : Int32)), .val (.int c0)]) rfl ?_
  refine o_iloadN X3 hx hby D10_32 rfl ?_
  refine o_iload X3 hx hby D10_33 rfl ?_
  refine o_ior X3 hx hby D10_35 ?_
  refine o_istoreN X3 hx hby D10_36 (l' := #[.val (.ref st), .val (.ref ba), .val (.int (1 : Int32)), .val (.int ((0 : Int32) ||| c0)), .val (.int (0 : Int32)), .val (.int c0)]) rfl ?_
  refine o_aloadN X3 hx hby D10_37 rfl rfl ?_
  refine o_iload X3 hx hby D10_38 rfl ?_
  refine o_iload X3 hx hby D10_40 rfl ?_
  refine o_i2b X3 hx hby D10_42 ?_
  obtain ⟨cl_ba_4, Ar_ba_4, q_ba_4, S_ba_4, N_ba_4, H_ba_4, G_ba_4⟩ := id Vd
  have hin_ba_4 : ¬ ((0 : Int32) < 0 ∨ cl_ba_4.slots.size ≤ ((0 : Int32)).toNatClampNeg) := inb_of S_ba_4 ⟨by decide, by decide⟩
  obtain ⟨T4, h4, X4, e4, W4, st4⟩ := stB X3 hx hZ e3 Ar_ba_4 (j := (0 : Int32)) hin_ba_4 (g := (mkF m 43 #[.val (.ref st), .val (.ref ba), .val (.int (1 : Int32)), .val (.int ((0 : Int32) ||| c0)), .val (.int (0 : Int32)), .val (.int c0)] [(.int ((c0).toInt8.toInt32)), (.int (0 : Int32)), (.ref ba)])) rfl rfl (hb hby D10_43.1)
  have V_ba_4 : Arv Z h4 ba kd .byte (2 : Int32) [(.int (nar .byte ((c0).toInt8.toInt32))), x1] (.int (0 : Int32)) := Arv.set Ar_ba_4 q_ba_4 S_ba_4 N_ba_4 H_ba_4 G_ba_4 (fits_nar_byte _) W4 0 rfl (Nat.le_of_ble_eq_true rfl)
  have sz4 := own_leN (Keep.of_wr W4).1
  have N4 := Fr.snoc X4 N3 gn_ba
  refine own_pre (A' := T4.setTop (mkF m 44 #[.val (.ref st), .val (.ref ba), .val (.int (1 : Int32)), .val (.int ((0 : Int32) ||| c0)), .val (.int (0 : Int32)), .val (.int c0)] [])) st4 ?_
  refine o_iinc X4 hx hby D10_44 rfl (l' := #[.val (.ref st), .val (.ref ba), .val (.int (1 : Int32)), .val (.int ((0 : Int32) ||| c0)), .val (.int ((0 : Int32) + (1 : Int32))), .val (.int c0)]) rfl ?_
  rw [(by decide : ((0 : Int32) + (1 : Int32)) = (1 : Int32))]
  refine o_goto X4 hx hby D10_47 (q := 18) (by decide) (by decide) ?_
  refine o_iload X4 hx hby D10_18 rfl ?_
  refine o_iloadN X4 hx hby D10_20 rfl ?_
  refine o_icmpY X4 hx hby D10_21 (flt (by decide : ¬ ((1 : Int32) < (1 : Int32)))).2.1 (q := 50) (by decide) (by decide) ?_
  refine o_iloadN X4 hx hby D10_50 rfl ?_
  refine o_sipush X4 hx hby D10_51 (v := 128) rfl ?_
  by_cases hc54_5 : ((0 : Int32) ||| c0) < (128 : Int32)
  · skip
    refine o_icmpN X4 hx hby D10_54 (tlt hc54_5).2.1 ?_
    refine o_iloadN X4 hx hby D10_57 rfl ?_
    refine o_goto X4 hx hby D10_58 (q := 62) (by decide) (by decide) ?_
    have KK : Keep h0 h4 [ba] := ((Keep.refl h0 [ba]).wr W4 (Or.inl (by simp)))
    have VV : Arv Z h4 ba kd .byte (2 : Int32) [(.int (own_l8 c0)), x1] (.int (0 : Int32)) := V_ba_4
    exact own_ret (v := some (.int (1 : Int32))) X4 (fun h => by first | rfl | (rw [Bd.returns] at h; cases h)) (BodyLoose.notSynchronized Bd) (by decide) (by decide) (by rw [e4]; exact ⟨by rw [own_ab1, if_pos hc54_5], N4, KK, VV⟩) (fun fs hr => retI X4 hx Bd.returns (hb hby D10_62.1) hr)
  · skip
    refine o_icmpY X4 hx hby D10_54 (flt hc54_5).2.1 (q := 61) (by decide) (by decide) ?_
    refine o_iconst X4 hx hby D10_61 (v := -1) rfl ?_
    have KK : Keep h0 h4 [ba] := ((Keep.refl h0 [ba]).wr W4 (Or.inl (by simp)))
    have VV : Arv Z h4 ba kd .byte (2 : Int32) [(.int (own_l8 c0)), x1] (.int (0 : Int32)) := V_ba_4
    exact own_ret (v := some (.int (-1 : Int32))) X4 (fun h => by first | rfl | (rw [Bd.returns] at h; cases h)) (BodyLoose.notSynchronized Bd) (by decide) (by decide) (by rw [e4]; exact ⟨by rw [own_ab1, if_neg hc54_5], N4, KK, VV⟩) (fun fs hr => retI X4 hx Bd.returns (hb hby D10_62.1) hr)
def own_QB13 (Z : State) (ba : Addr) (kd : ClassId) (c0 : Int32) (x0 x1 x2 : Value) (h0 : Heap) (n0 : Nat) (v : Option Value) (h : Heap) (L : List Loc) : Prop := v = some (.int (own_ab1 c0)) ∧ Fr n0 L ∧ Keep h0 h [ba] ∧ Arv Z h ba kd .byte (3 : Int32) [(.int (own_l8 c0)), x1, x2] (.int (0 : Int32))
theorem ef_rm_ab13 (m : MethodId) (st : Addr) (ba : Addr) : entryFrame m #[(.ref st), (.ref ba)] 6 = mkF m 0 #[.val (.ref st), .val (.ref ba), .unset, .unset, .unset, .unset] [] := by first | (simp [entryFrame, mkF, argsToLocals, Value.category]; done) | rfl
set_option maxRecDepth 65536 in
set_option maxHeartbeats 40000000 in
theorem rm_ab13 (l : Launch) (Z : State) (a0 : Array Value) (hw : ∀ d ∈ tables_1, d.before a0 Z = true) (ws : List Jvm.Cond) (st : Addr) (ba : Addr) (vb : Addr) (kb kd : ClassId) (c0 : Int32) (x0 x1 x2 : Value) (cs : Int32) (vf : Value) (h0 : Heap) (n0 : Nat) (Z0 : n0 ≤ h0.size) (hST : own_ST Z cs vf) (O0 : Old Z n0 h0) (hS : own_Str1 Z h0 st vb kb c0) (hc0 : own_ch16 c0) (gn_ba : n0 ≤ ba) (Vd : Arv Z h0 ba kd .byte (3 : Int32) [x0, x1, x2] (.int (0 : Int32))) (nst : @LT.lt Nat instLTNat st ba) (nvb : @LT.lt Nat instLTNat vb ba) :
    own_Mt l (⟨"com/example/placer/placer/Utf8", "asciiBytes", "(Ljava/lang/String;[B)I"⟩ : MethodName) prog_30_method_3_code 6 (some .int) ({ frames := 5, cells := 0, slots := 0, locals := 66 } : Room) #[(.ref st), (.ref ba)] Z h0 (own_QB13 Z ba kd c0 x0 x1 x2 h0 n0) := by
  refine MetFree.of_bodySF (plainFor_of_name pn_com_example_placer_placer_Utf8) hisR ?_
  intro p e s m args below meth c s₁ Bd hml0 hP hK
  obtain ⟨rfl, hZ, hh⟩ := hP
  have hx := Bd.exec
  have hby := Bd.bytes
  have hml : c.maxLocals = 6 := hml0
  have hown : s.vm.findClass "com/example/placer/placer/Utf8" = some m.cls := findClass_of_methodNamed Bd.named
  have hnm := (name_of_methodNamed Bd.named Bd.method).1
  have X0 : Stand p l e ({ frames := 5, cells := 0, slots := 0, locals := 66 } : Room) s m #[(.ref st), (.ref ba)] below meth c s₁ [] 0 0 := Stand.of_body Bd
  have e0 : s₁.heap = h0 := by rw [← hh, Bd.state]; rfl
  have N0 := Fr.nil n0
  refine own_start (ef_rm_ab13 m st ba) ?_
  have hST0 := hST
  have lt_ba := own_ltN Vd.lt
  refine o_aloadN X0 hx hby D10_0 rfl rfl ?_
  refine kV X0 hx hZ hown hby (wd hw 44 rfl) (wd hw 45 rfl) (wd hw 47 rfl) (wd hw 46 rfl) (wd hw 10 rfl) (wd hw 48 rfl) (own_nf hZ (wd hw 47 rfl)) hS.1 (rs_len1 l Z a0 hw [] st vb kb c0 cs vf h0 n0 Z0 hST0 O0 hS) (by decide) (by decide) (by decide) (by decide) (by decide) (by rw [hml]; rfl) [] [] (lenOf pd__40_41I rfl) (W := 0) rfl rfl D10_1 rfl e0 ?_
  intro v1 T1 L1 X1 hQ1
  obtain ⟨rfl, N1q, e1⟩ := hQ1
  have N1 := Fr.app N0 N1q
  refine own_sh (A' := T1.setTop (mkF m 4 _ [(.int (1 : Int32))])) ?_
  refine o_istoreN X1 hx hby D10_4 (l' := #[.val (.ref st), .val (.ref ba), .val (.int (1 : Int32)), .unset, .unset, .unset]) rfl ?_
  refine o_iloadN X1 hx hby D10_5 rfl ?_
  refine o_aloadN X1 hx hby D10_6 rfl rfl ?_
  obtain ⟨cl_ba_2, Ar_ba_2, q_ba_2, S_ba_2, N_ba_2, H_ba_2, G_ba_2⟩ := id Vd
  refine own_pre (A' := T1.setTop (mkF m 8 #[.val (.ref st), .val (.ref ba), .val (.int (1 : Int32)), .unset, .unset, .unset] [(.int (3 : Int32)), (.int (1 : Int32))])) (fun t k => X1.arraylength hx (by rw [e1]; exact Ar_ba_2.1) (State.isArrayOf_alike hZ.alike Ar_ba_2.2.1) (g := (mkF m 7 #[.val (.ref st), .val (.ref ba), .val (.int (1 : Int32)), .unset, .unset, .unset] [(.ref ba), (.int (1 : Int32))])) rfl rfl (hb hby D10_7.1) _ (by rw [len_of S_ba_2 N_ba_2]; exact k)) ?_
  refine o_icmpY X1 hx hby D10_8 (flt (by decide : ¬ ((3 : Int32) < (1 : Int32)))).2.2.2 (q := 13) (by decide) (by decide) ?_
  refine o_iconst X1 hx hby D10_13 (v := 0) rfl ?_
  refine o_istoreN X1 hx hby D10_14 (l' := #[.val (.ref st), .val (.ref ba), .val (.int (1 : Int32)), .val (.int (0 : Int32)), .unset, .unset]) rfl ?_
  refine o_iconst X1 hx hby D10_15 (v := 0) rfl ?_
  refine o_istore X1 hx hby D10_16 (l' := #[.val (.ref st), .val (.ref ba), .val (.int (1 : Int32)), .val (.int (0 : Int32)), .val (.int (0 : Int32)), .unset]) rfl ?_
  refine o_iload X1 hx hby D10_18 rfl ?_
  refine o_iloadN X1 hx hby D10_20 rfl ?_
  refine o_icmpN X1 hx hby D10_21 (tlt (by decide : (0 : Int32) < (1 : Int32))).2.1 ?_
  refine o_aloadN X1 hx hby D10_24 rfl rfl ?_
  refine o_iload X1 hx hby D10_25 rfl ?_
  refine kV X1 hx hZ hown hby (wd hw 54 rfl) (wd hw 55 rfl) (wd hw 57 rfl) (wd hw 56 rfl) (wd hw 10 rfl) (wd hw 58 rfl) (own_nf hZ (wd hw 57 rfl)) hS.1 (rs_ca10 l Z a0 hw [] st vb kb c0 cs vf h0 n0 Z0 hST0 O0 hS hc0) (by decide) (by decide) (by decide) (by decide) (by decide) (by rw [hml]; rfl) [(.int (0 : Int32))] [] (lenOf pd__40I_41C rfl) (W := 0) rfl rfl D10_27 rfl e1 ?_
  intro v3 T3 L3 X3 hQ3
  obtain ⟨rfl, N3q, e3⟩ := hQ3
  have N3 := Fr.app N1 N3q
  refine own_sh (A' := T3.setTop (mkF m 30 _ [(.int c0)])) ?_
  refine o_istore X3 hx hby D10_30 (l' := #[.val (.ref st), .val (.ref ba), .val (.int (1 : Int32)), .val (.int (0 : Int32)), .val (.int (0 : Int32)), .val (.int c0)]) rfl ?_
  refine o_iloadN X3 hx hby D10_32 rfl ?_
  refine o_iload X3 hx hby D10_33 rfl ?_
  refine o_ior X3 hx hby D10_35 ?_
  refine o_istoreN X3 hx hby D10_36 (l' := #[.val (.ref st), .val (.ref ba), .val (.int (1 : Int32)), .val (.int ((0 : Int32) ||| c0)), .val (.int (0 : Int32)), .val (.int c0)]) rfl ?_
  refine o_aloadN X3 hx hby D10_37 rfl rfl ?_
  refine o_iload X3 hx hby D10_38 rfl ?_
  refine o_iload X3 hx hby D10_40 rfl ?_
  refine o_i2b X3 hx hby D10_42 ?_
  obtain ⟨cl_ba_4, Ar_ba_4, q_ba_4, S_ba_4, N_ba_4, H_ba_4, G_ba_4⟩ := id Vd
  have hin_ba_4 : ¬ ((0 : Int32) < 0 ∨ cl_ba_4.slots.size ≤ ((0 : Int32)).toNatClampNeg) := inb_of S_ba_4 ⟨by decide, by decide⟩
  obtain ⟨T4, h4, X4, e4, W4, st4⟩ := stB X3 hx hZ e3 Ar_ba_4 (j := (0 : Int32)) hin_ba_4 (g := (mkF m 43 #[.val (.ref st), .val (.ref ba), .val (.int (1 : Int32)), .val (.int ((0 : Int32) ||| c0)), .val (.int (0 : Int32)), .val (.int c0)] [(.int ((c0).toInt8.toInt32)), (.int (0 : Int32)), (.ref ba)])) rfl rfl (hb hby D10_43.1)
  have V_ba_4 : Arv Z h4 ba kd .byte (3 : Int32) [(.int (nar .byte ((c0).toInt8.toInt32))), x1, x2] (.int (0 : Int32)) := Arv.set Ar_ba_4 q_ba_4 S_ba_4 N_ba_4 H_ba_4 G_ba_4 (fits_nar_byte _) W4 0 rfl (Nat.le_of_ble_eq_true rfl)
  have sz4 := own_leN (Keep.of_wr W4).1
  have N4 := Fr.snoc X4 N3 gn_ba
  refine own_pre (A' := T4.setTop (mkF m 44 #[.val (.ref st), .val (.ref ba), .val (.int (1 : Int32)), .val (.int ((0 : Int32) ||| c0)), .val (.int (0 : Int32)), .val (.int c0)] [])) st4 ?_
  refine o_iinc X4 hx hby D10_44 rfl (l' := #[.val (.ref st), .val (.ref ba), .val (.int (1 : Int32)), .val (.int ((0 : Int32) ||| c0)), .val (.int ((0 : Int32) + (1 : Int32))), .val (.int c0)]) rfl ?_
  rw [(by decide : ((0 : Int32) + (1 : Int32)) = (1 : Int32))]
  refine o_goto X4 hx hby D10_47 (q := 18) (by decide) (by decide) ?_
  refine o_iload X4 hx hby D10_18 rfl ?_
  refine o_iloadN X4 hx hby D10_20 rfl ?_
  refine o_icmpY X4 hx hby D10_21 (flt (by decide : ¬ ((1 : Int32) < (1 : Int32)))).2.1 (q := 50) (by decide) (by decide) ?_
  refine o_iloadN X4 hx hby D10_50 rfl ?_
  refine o_sipush X4 hx hby D10_51 (v := 128) rfl ?_
  by_cases hc54_5 : ((0 : Int32) ||| c0) < (128 : Int32)
  · skip
    refine o_icmpN X4 hx hby D10_54 (tlt hc54_5).2.1 ?_
    refine o_iloadN X4 hx hby D10_57 rfl ?_
    refine o_goto X4 hx hby D10_58 (q := 62) (by decide) (by decide) ?_
    have KK : Keep h0 h4 [ba] := ((Keep.refl h0 [ba]).wr W4 (Or.inl (by simp)))
    have VV : Arv Z h4 ba kd .byte (3 : Int32) [(.int (own_l8 c0)), x1, x2] (.int (0 : Int32)) := V_ba_4
    exact own_ret (v := some (.int (1 : Int32))) X4 (fun h => by first | rfl | (rw [Bd.returns] at h; cases h)) (BodyLoose.notSynchronized Bd) (by decide) (by decide) (by rw [e4]; exact ⟨by rw [own_ab1, if_pos hc54_5], N4, KK, VV⟩) (fun fs hr => retI X4 hx Bd.returns (hb hby D10_62.1) hr)
  · skip
    refine o_icmpY X4 hx hby D10_54 (flt hc54_5).2.1 (q := 61) (by decide) (by decide) ?_
    refine o_iconst X4 hx hby D10_61 (v := -1) rfl ?_
    have KK : Keep h0 h4 [ba] := ((Keep.refl h0 [ba]).wr W4 (Or.inl (by simp)))
    have VV : Arv Z h4 ba kd .byte (3 : Int32) [(.int (own_l8 c0)), x1, x2] (.int (0 : Int32)) := V_ba_4
    exact own_ret (v := some (.int (-1 : Int32))) X4 (fun h => by first | rfl | (rw [Bd.returns] at h; cases h)) (BodyLoose.notSynchronized Bd) (by decide) (by decide) (by rw [e4]; exact ⟨by rw [own_ab1, if_neg hc54_5], N4, KK, VV⟩) (fun fs hr => retI X4 hx Bd.returns (hb hby D10_62.1) hr)
def own_ab2 (c0 c1 : Int32) : Int32 := if (((0 : Int32) ||| c0) ||| c1) < (128 : Int32) then (2 : Int32) else (-1 : Int32)
theorem own_acc2 {c0 c1 : Int32} (hc0 : own_ch16 c0) (hc1 : own_ch16 c1) : (((0 : Int32) ||| c0) ||| c1) < (128 : Int32) ↔ c0 < (128 : Int32) ∧ c1 < (128 : Int32) := by
  have r0 := own_or16 own_z16 hc0
  have r1 := own_or16 r0.1 hc1
  have z : (0 : Int32) < (128 : Int32) := by decide
  rw [r1.2, r0.2]
  simp [z, and_assoc]
theorem own_abY2 {c0 c1 : Int32} (hc0 : own_ch16 c0) (hc1 : own_ch16 c1) (h : c0 < (128 : Int32) ∧ c1 < (128 : Int32)) : own_ab2 c0 c1 = (2 : Int32) := by
  rw [own_ab2, if_pos ((own_acc2 hc0 hc1).mpr h)]
theorem own_abN2 {c0 c1 : Int32} (hc0 : own_ch16 c0) (hc1 : own_ch16 c1) (h : ¬ (c0 < (128 : Int32) ∧ c1 < (128 : Int32))) : own_ab2 c0 c1 = (-1 : Int32) := by
  rw [own_ab2, if_neg (fun q => h ((own_acc2 hc0 hc1).mp q))]
theorem ef_rm_abX2 (m : MethodId) (st : Addr) (ba : Addr) : entryFrame m #[(.ref st), (.ref ba)] 6 = mkF m 0 #[.val (.ref st), .val (.ref ba), .unset, .unset, .unset, .unset] [] := by first | (simp [entryFrame, mkF, argsToLocals, Value.category]; done) | rfl
set_option maxRecDepth 65536 in
set_option maxHeartbeats 40000000 in
theorem rm_abX2 (l : Launch) (Z : State) (a0 : Array Value) (hw : ∀ d ∈ tables_1, d.before a0 Z = true) (ws : List Jvm.Cond) (st : Addr) (ba : Addr) (vb : Addr) (kb kd : ClassId) (c0 c1 : Int32) (z : Int32) (xs : List Value) (cs : Int32) (vf : Value) (h0 : Heap) (n0 : Nat) (Z0 : n0 ≤ h0.size) (hST : own_ST Z cs vf) (O0 : Old Z n0 h0) (hS : own_Str2 Z h0 st vb kb c0 c1) (Vd : Arv Z h0 ba kd .byte z xs (.int (0 : Int32))) (hz : z < (2 : Int32)) :
    own_Mt l (⟨"com/example/placer/placer/Utf8", "asciiBytes", "(Ljava/lang/String;[B)I"⟩ : MethodName) prog_30_method_3_code 6 (some .int) ({ frames := 2, cells := 0, slots := 0, locals := 25 } : Room) #[(.ref st), (.ref ba)] Z h0 (own_QP (.int (-1 : Int32)) h0 n0) := by
  refine MetFree.of_bodySF (plainFor_of_name pn_com_example_placer_placer_Utf8) hisR ?_
  intro p e s m args below meth c s₁ Bd hml0 hP hK
  obtain ⟨rfl, hZ, hh⟩ := hP
  have hx := Bd.exec
  have hby := Bd.bytes
  have hml : c.maxLocals = 6 := hml0
  have hown : s.vm.findClass "com/example/placer/placer/Utf8" = some m.cls := findClass_of_methodNamed Bd.named
  have hnm := (name_of_methodNamed Bd.named Bd.method).1
  have X0 : Stand p l e ({ frames := 2, cells := 0, slots := 0, locals := 25 } : Room) s m #[(.ref st), (.ref ba)] below meth c s₁ [] 0 0 := Stand.of_body Bd
  have e0 : s₁.heap = h0 := by rw [← hh, Bd.state]; rfl
  have N0 := Fr.nil n0
  refine own_start (ef_rm_abX2 m st ba) ?_
  have hST0 := hST
  refine o_aloadN X0 hx hby D10_0 rfl rfl ?_
  refine kV X0 hx hZ hown hby (wd hw 44 rfl) (wd hw 45 rfl) (wd hw 47 rfl) (wd hw 46 rfl) (wd hw 10 rfl) (wd hw 48 rfl) (own_nf hZ (wd hw 47 rfl)) hS.1 (rs_len2 l Z a0 hw [] st vb kb c0 c1 cs vf h0 n0 Z0 hST0 O0 hS) (by decide) (by decide) (by decide) (by decide) (by decide) (by rw [hml]; rfl) [] [] (lenOf pd__40_41I rfl) (W := 0) rfl rfl D10_1 rfl e0 ?_
  intro v1 T1 L1 X1 hQ1
  obtain ⟨rfl, N1q, e1⟩ := hQ1
  have N1 := Fr.app N0 N1q
  refine own_sh (A' := T1.setTop (mkF m 4 _ [(.int (2 : Int32))])) ?_
  refine o_istoreN X1 hx hby D10_4 (l' := #[.val (.ref st), .val (.ref ba), .val (.int (2 : Int32)), .unset, .unset, .unset]) rfl ?_
  refine o_iloadN X1 hx hby D10_5 rfl ?_
  refine o_aloadN X1 hx hby D10_6 rfl rfl ?_
  obtain ⟨cl_ba_2, Ar_ba_2, q_ba_2, S_ba_2, N_ba_2, H_ba_2, G_ba_2⟩ := id Vd
  refine own_pre (A' := T1.setTop (mkF m 8 #[.val (.ref st), .val (.ref ba), .val (.int (2 : Int32)), .unset, .unset, .unset] [(.int z), (.int (2 : Int32))])) (fun t k => X1.arraylength hx (by rw [e1]; exact Ar_ba_2.1) (State.isArrayOf_alike hZ.alike Ar_ba_2.2.1) (g := (mkF m 7 #[.val (.ref st), .val (.ref ba), .val (.int (2 : Int32)), .unset, .unset, .unset] [(.ref ba), (.int (2 : Int32))])) rfl rfl (hb hby D10_7.1) _ (by rw [len_of S_ba_2 N_ba_2]; exact k)) ?_
  refine o_icmpN X1 hx hby D10_8 (tlt (hz : z < (2 : Int32))).2.2.2 ?_
  refine o_iconst X1 hx hby D10_11 (v := -1) rfl ?_
  exact own_ret (v := some (.int (-1 : Int32))) X1 (fun h => by first | rfl | (rw [Bd.returns] at h; cases h)) (BodyLoose.notSynchronized Bd) (by decide) (by decide) (⟨rfl, N1, e1⟩) (fun fs hr => retI X1 hx Bd.returns (hb hby D10_12.1) hr)
def own_QB22 (Z : State) (ba : Addr) (kd : ClassId) (c0 c1 : Int32) (x0 x1 : Value) (h0 : Heap) (n0 : Nat) (v : Option Value) (h : Heap) (L : List Loc) : Prop := v = some (.int (own_ab2 c0 c1)) ∧ Fr n0 L ∧ Keep h0 h [ba] ∧ Arv Z h ba kd .byte (2 : Int32) [(.int (own_l8 c0)), (.int (own_l8 c1))] (.int (0 : Int32))
theorem ef_rm_ab22 (m : MethodId) (st : Addr) (ba : Addr) : entryFrame m #[(.ref st), (.ref ba)] 6 = mkF m 0 #[.val (.ref st), .val (.ref ba), .unset, .unset, .unset, .unset] [] := by first | (simp [entryFrame, mkF, argsToLocals, Value.category]; done) | rfl
set_option maxRecDepth 65536 in
set_option maxHeartbeats 40000000 in
theorem rm_ab22 (l : Launch) (Z : State) (a0 : Array Value) (hw : ∀ d ∈ tables_1, d.before a0 Z = true) (ws : List Jvm.Cond) (st : Addr) (ba : Addr) (vb : Addr) (kb kd : ClassId) (c0 c1 : Int32) (x0 x1 : Value) (cs : Int32) (vf : Value) (h0 : Heap) (n0 : Nat) (Z0 : n0 ≤ h0.size) (hST : own_ST Z cs vf) (O0 : Old Z n0 h0) (hS : own_Str2 Z h0 st vb kb c0 c1) (hc0 : own_ch16 c0) (hc1 : own_ch16 c1) (gn_ba : n0 ≤ ba) (Vd : Arv Z h0 ba kd .byte (2 : Int32) [x0, x1] (.int (0 : Int32))) (nst : @LT.lt Nat instLTNat st ba) (nvb : @LT.lt Nat instLTNat vb ba) :
    own_Mt l (⟨"com/example/placer/placer/Utf8", "asciiBytes", "(Ljava/lang/String;[B)I"⟩ : MethodName) prog_30_method_3_code 6 (some .int) ({ frames := 5, cells := 0, slots := 0, locals := 66 } : Room) #[(.ref st), (.ref ba)] Z h0 (own_QB22 Z ba kd c0 c1 x0 x1 h0 n0) := by
  refine MetFree.of_bodySF (plainFor_of_name pn_com_example_placer_placer_Utf8) hisR ?_
  intro p e s m args below meth c s₁ Bd hml0 hP hK
  obtain ⟨rfl, hZ, hh⟩ := hP
  have hx := Bd.exec
  have hby := Bd.bytes
  have hml : c.maxLocals = 6 := hml0
  have hown : s.vm.findClass "com/example/placer/placer/Utf8" = some m.cls := findClass_of_methodNamed Bd.named
  have hnm := (name_of_methodNamed Bd.named Bd.method).1
  have X0 : Stand p l e ({ frames := 5, cells := 0, slots := 0, locals := 66 } : Room) s m #[(.ref st), (.ref ba)] below meth c s₁ [] 0 0 := Stand.of_body Bd
  have e0 : s₁.heap = h0 := by rw [← hh, Bd.state]; rfl
  have N0 := Fr.nil n0
  refine own_start (ef_rm_ab22 m st ba) ?_
  have hST0 := hST
  have lt_ba := own_ltN Vd.lt
  refine o_aloadN X0 hx hby D10_0 rfl rfl ?_
  refine kV X0 hx hZ hown hby (wd hw 44 rfl) (wd hw 45 rfl) (wd hw 47 rfl) (wd hw 46 rfl) (wd hw 10 rfl) (wd hw 48 rfl) (own_nf hZ (wd hw 47 rfl)) hS.1 (rs_len2 l Z a0 hw [] st vb kb c0 c1 cs vf h0 n0 Z0 hST0 O0 hS) (by decide) (by decide) (by decide) (by decide) (by decide) (by rw [hml]; rfl) [] [] (lenOf pd__40_41I rfl) (W := 0) rfl rfl D10_1 rfl e0 ?_
  intro v1 T1 L1 X1 hQ1
  obtain ⟨rfl, N1q, e1⟩ := hQ1
  have N1 := Fr.app N0 N1q
  refine own_sh (A' := T1.setTop (mkF m 4 _ [(.int (2 : Int32))])) ?_
  refine o_istoreN X1 hx hby D10_4 (l' := #[.val (.ref st), .val (.ref ba), .val (.int (2 : Int32)), .unset, .unset, .unset]) rfl ?_
  refine o_iloadN X1 hx hby D10_5 rfl ?_
  refine o_aloadN X1 hx hby D10_6 rfl rfl ?_
  obtain ⟨cl_ba_2, Ar_ba_2, q_ba_2, S_ba_2, N_ba_2, H_ba_2, G_ba_2⟩ := id Vd
  refine own_pre (A' := T1.setTop (mkF m 8 #[.val (.ref st), .val (.ref ba), .val (.int (2 : Int32)), .unset, .unset, .unset] [(.int (2 : Int32)), (.int (2 : Int32))])) (fun t k => X1.arraylength hx (by rw [e1]; exact Ar_ba_2.1) (State.isArrayOf_alike hZ.alike Ar_ba_2.2.1) (g := (mkF m 7 #[.val (.ref st), .val (.ref ba), .val (.int (2 : Int32)), .unset, .unset, .unset] [(.ref ba), (.int (2 : Int32))])) rfl rfl (hb hby D10_7.1) _ (by rw [len_of S_ba_2 N_ba_2]; exact k)) ?_
  refine o_icmpY X1 hx hby D10_8 (flt (by decide : ¬ ((2 : Int32) < (2 : Int32)))).2.2.2 (q := 13) (by decide) (by decide) ?_
  refine o_iconst X1 hx hby D10_13 (v := 0) rfl ?_
  refine o_istoreN X1 hx hby D10_14 (l' := #[.val (.ref st), .val (.ref ba), .val (.int (2 : Int32)), .val (.int (0 : Int32)), .unset, .unset]) rfl ?_
  refine o_iconst X1 hx hby D10_15 (v := 0) rfl ?_
  refine o_istore X1 hx hby D10_16 (l' := #[.val (.ref st), .val (.ref ba), .val (.int (2 : Int32)), .val (.int (0 : Int32)), .val (.int (0 : Int32)), .unset]) rfl ?_
  refine o_iload X1 hx hby D10_18 rfl ?_
  refine o_iloadN X1 hx hby D10_20 rfl ?_
  refine o_icmpN X1 hx hby D10_21 (tlt (by decide : (0 : Int32) < (2 : Int32))).2.1 ?_
  refine o_aloadN X1 hx hby D10_24 rfl rfl ?_
  refine o_iload X1 hx hby D10_25 rfl ?_
  refine kV X1 hx hZ hown hby (wd hw 54 rfl) (wd hw 55 rfl) (wd hw 57 rfl) (wd hw 56 rfl) (wd hw 10 rfl) (wd hw 58 rfl) (own_nf hZ (wd hw 57 rfl)) hS.1 (rs_ca20 l Z a0 hw [] st vb kb c0 c1 cs vf h0 n0 Z0 hST0 O0 hS hc0 hc1) (by decide) (by decide) (by decide) (by decide) (by decide) (by rw [hml]; rfl) [(.int (0 : Int32))] [] (lenOf pd__40I_41C rfl) (W := 0) rfl rfl D10_27 rfl e1 ?_
  intro v3 T3 L3 X3 hQ3
  obtain ⟨rfl, N3q, e3⟩ := hQ3
  have N3 := Fr.app N1 N3q
  refine own_sh (A' := T3.setTop (mkF m 30 _ [(.int c0)])) ?_
  refine o_istore X3 hx hby D10_30 (l' := #[.val (.ref st), .val (.ref ba), .val (.int (2 : Int32)), .val (.int (0 : Int32)), .val (.int (0 : Int32)), .val (.int c0)]) rfl ?_
  refine o_iloadN X3 hx hby D10_32 rfl ?_
  refine o_iload X3 hx hby D10_33 rfl ?_
  refine o_ior X3 hx hby D10_35 ?_
  refine o_istoreN X3 hx hby D10_36 (l' := #[.val (.ref st), .val (.ref ba), .val (.int (2 : Int32)), .val (.int ((0 : Int32) ||| c0)), .val (.int (0 : Int32)), .val (.int c0)]) rfl ?_
  refine o_aloadN X3 hx hby D10_37 rfl rfl ?_
  refine o_iload X3 hx hby D10_38 rfl ?_
  refine o_iload X3 hx hby D10_40 rfl ?_
  refine o_i2b X3 hx hby D10_42 ?_
  obtain ⟨cl_ba_4, Ar_ba_4, q_ba_4, S_ba_4, N_ba_4, H_ba_4, G_ba_4⟩ := id Vd
  have hin_ba_4 : ¬ ((0 : Int32) < 0 ∨ cl_ba_4.slots.size ≤ ((0 : Int32)).toNatClampNeg) := inb_of S_ba_4 ⟨by decide, by decide⟩
  obtain ⟨T4, h4, X4, e4, W4, st4⟩ := stB X3 hx hZ e3 Ar_ba_4 (j := (0 : Int32)) hin_ba_4 (g := (mkF m 43 #[.val (.ref st), .val (.ref ba), .val (.int (2 : Int32)), .val (.int ((0 : Int32) ||| c0)), .val (.int (0 : Int32)), .val (.int c0)] [(.int ((c0).toInt8.toInt32)), (.int (0 : Int32)), (.ref ba)])) rfl rfl (hb hby D10_43.1)
  have V_ba_4 : Arv Z h4 ba kd .byte (2 : Int32) [(.int (nar .byte ((c0).toInt8.toInt32))), x1] (.int (0 : Int32)) := Arv.set Ar_ba_4 q_ba_4 S_ba_4 N_ba_4 H_ba_4 G_ba_4 (fits_nar_byte _) W4 0 rfl (Nat.le_of_ble_eq_true rfl)
  have sz4 := own_leN (Keep.of_wr W4).1
  have N4 := Fr.snoc X4 N3 gn_ba
  refine own_pre (A' := T4.setTop (mkF m 44 #[.val (.ref st), .val (.ref ba), .val (.int (2 : Int32)), .val (.int ((0 : Int32) ||| c0)), .val (.int (0 : Int32)), .val (.int c0)] [])) st4 ?_
  refine o_iinc X4 hx hby D10_44 rfl (l' := #[.val (.ref st), .val (.ref ba), .val (.int (2 : Int32)), .val (.int ((0 : Int32) ||| c0)), .val (.int ((0 : Int32) + (1 : Int32))), .val (.int c0)]) rfl ?_
  rw [(by decide : ((0 : Int32) + (1 : Int32)) = (1 : Int32))]
  refine o_goto X4 hx hby D10_47 (q := 18) (by decide) (by decide) ?_
  refine o_iload X4 hx hby D10_18 rfl ?_
  refine o_iloadN X4 hx hby D10_20 rfl ?_
  refine o_icmpN X4 hx hby D10_21 (tlt (by decide : (1 : Int32) < (2 : Int32))).2.1 ?_
  refine o_aloadN X4 hx hby D10_24 rfl rfl ?_
  refine o_iload X4 hx hby D10_25 rfl ?_
  have c6_O := (O0.wr W4 gn_ba)
  have cT7_st := (own_StrK2 hS (Keep.of_wr W4) (ninS (by first | exact own_neN (by omega) | exact own_neN' (by omega) | assumption) nin0) (ninS (by first | exact own_neN (by omega) | exact own_neN' (by omega) | assumption) nin0))
  have c8_E_st := (hS.1.wr W4)
  refine kV X4 hx hZ hown hby (wd hw 54 rfl) (wd hw 55 rfl) (wd hw 57 rfl) (wd hw 56 rfl) (wd hw 10 rfl) (wd hw 58 rfl) (own_nf hZ (wd hw 57 rfl)) c8_E_st (rs_ca21 l Z a0 hw [] st vb kb c0 c1 cs vf h4 n0 (own_leN (by omega)) hST0 c6_O cT7_st hc0 hc1) (by decide) (by decide) (by decide) (by decide) (by decide) (by rw [hml]; rfl) [(.int (1 : Int32))] [] (lenOf pd__40I_41C rfl) (W := 0) rfl rfl D10_27 rfl e4 ?_
  intro v5 T5 L5 X5 hQ5
  obtain ⟨rfl, N5q, e5⟩ := hQ5
  have N5 := Fr.app N4 N5q
  refine own_sh (A' := T5.setTop (mkF m 30 _ [(.int c1)])) ?_
  refine o_istore X5 hx hby D10_30 (l' := #[.val (.ref st), .val (.ref ba), .val (.int (2 : Int32)), .val (.int ((0 : Int32) ||| c0)), .val (.int (1 : Int32)), .val (.int c1)]) rfl ?_
  refine o_iloadN X5 hx hby D10_32 rfl ?_
  refine o_iload X5 hx hby D10_33 rfl ?_
  refine o_ior X5 hx hby D10_35 ?_
  refine o_istoreN X5 hx hby D10_36 (l' := #[.val (.ref st), .val (.ref ba), .val (.int (2 : Int32)), .val (.int (((0 : Int32) ||| c0) ||| c1)), .val (.int (1 : Int32)), .val (.int c1)]) rfl ?_
  refine o_aloadN X5 hx hby D10_37 rfl rfl ?_
  refine o_iload X5 hx hby D10_38 rfl ?_
  refine o_iload X5 hx hby D10_40 rfl ?_
  refine o_i2b X5 hx hby D10_42 ?_
  obtain ⟨cl_ba_9, Ar_ba_9, q_ba_9, S_ba_9, N_ba_9, H_ba_9, G_ba_9⟩ := id V_ba_4
  have hin_ba_9 : ¬ ((1 : Int32) < 0 ∨ cl_ba_9.slots.size ≤ ((1 : Int32)).toNatClampNeg) := inb_of S_ba_9 ⟨by decide, by decide⟩
  obtain ⟨T9, h9, X9, e9, W9, st9⟩ := stB X5 hx hZ e5 Ar_ba_9 (j := (1 : Int32)) hin_ba_9 (g := (mkF m 43 #[.val (.ref st), .val (.ref ba), .val (.int (2 : Int32)), .val (.int (((0 : Int32) ||| c0) ||| c1)), .val (.int (1 : Int32)), .val (.int c1)] [(.int ((c1).toInt8.toInt32)), (.int (1 : Int32)), (.ref ba)])) rfl rfl (hb hby D10_43.1)
  have V_ba_9 : Arv Z h9 ba kd .byte (2 : Int32) [(.int (nar .byte ((c0).toInt8.toInt32))), (.int (nar .byte ((c1).toInt8.toInt32)))] (.int (0 : Int32)) := Arv.set Ar_ba_9 q_ba_9 S_ba_9 N_ba_9 H_ba_9 G_ba_9 (fits_nar_byte _) W9 1 rfl (Nat.le_of_ble_eq_true rfl)
  have sz9 := own_leN (Keep.of_wr W9).1
  have N9 := Fr.snoc X9 N5 gn_ba
  refine own_pre (A' := T9.setTop (mkF m 44 #[.val (.ref st), .val (.ref ba), .val (.int (2 : Int32)), .val (.int (((0 : Int32) ||| c0) ||| c1)), .val (.int (1 : Int32)), .val (.int c1)] [])) st9 ?_
  refine o_iinc X9 hx hby D10_44 rfl (l' := #[.val (.ref st), .val (.ref ba), .val (.int (2 : Int32)), .val (.int (((0 : Int32) ||| c0) ||| c1)), .val (.int ((1 : Int32) + (1 : Int32))), .val (.int c1)]) rfl ?_
  rw [(by decide : ((1 : Int32) + (1 : Int32)) = (2 : Int32))]
  refine o_goto X9 hx hby D10_47 (q := 18) (by decide) (by decide) ?_
  refine o_iload X9 hx hby D10_18 rfl ?_
  refine o_iloadN X9 hx hby D10_20 rfl ?_
  refine o_icmpY X9 hx hby D10_21 (flt (by decide : ¬ ((2 : Int32) < (2 : Int32)))).2.1 (q := 50) (by decide) (by decide) ?_
  refine o_iloadN X9 hx hby D10_50 rfl ?_
  refine o_sipush X9 hx hby D10_51 (v := 128) rfl ?_
  by_cases hc54_10 : (((0 : Int32) ||| c0) ||| c1) < (128 : Int32)
  · skip
    refine o_icmpN X9 hx hby D10_54 (tlt hc54_10).2.1 ?_
    refine o_iloadN X9 hx hby D10_57 rfl ?_
    refine o_goto X9 hx hby D10_58 (q := 62) (by decide) (by decide) ?_
    have KK : Keep h0 h9 [ba] := (((Keep.refl h0 [ba]).wr W4 (Or.inl (by simp))).wr W9 (Or.inl (by simp)))
    have VV : Arv Z h9 ba kd .byte (2 : Int32) [(.int (own_l8 c0)), (.int (own_l8 c1))] (.int (0 : Int32)) := V_ba_9
    exact own_ret (v := some (.int (2 : Int32))) X9 (fun h => by first | rfl | (rw [Bd.returns] at h; cases h)) (BodyLoose.notSynchronized Bd) (by decide) (by decide) (by rw [e9]; exact ⟨by rw [own_ab2, if_pos hc54_10], N9, KK, VV⟩) (fun fs hr => retI X9 hx Bd.returns (hb hby D10_62.1) hr)
  · skip
    refine o_icmpY X9 hx hby D10_54 (flt hc54_10).2.1 (q := 61) (by decide) (by decide) ?_
    refine o_iconst X9 hx hby D10_61 (v := -1) rfl ?_
    have KK : Keep h0 h9 [ba] := (((Keep.refl h0 [ba]).wr W4 (Or.inl (by simp))).wr W9 (Or.inl (by simp)))
    have VV : Arv Z h9 ba kd .byte (2 : Int32) [(.int (own_l8 c0)), (.int (own_l8 c1))] (.int (0 : Int32)) := V_ba_9
    exact own_ret (v := some (.int (-1 : Int32))) X9 (fun h => by first | rfl | (rw [Bd.returns] at h; cases h)) (BodyLoose.notSynchronized Bd) (by decide) (by decide) (by rw [e9]; exact ⟨by rw [own_ab2, if_neg hc54_10], N9, KK, VV⟩) (fun fs hr => retI X9 hx Bd.returns (hb hby D10_62.1) hr)
def own_QB23 (Z : State) (ba : Addr) (kd : ClassId) (c0 c1 : Int32) (x0 x1 x2 : Value) (h0 : Heap) (n0 : Nat) (v : Option Value) (h : Heap) (L : List Loc) : Prop := v = some (.int (own_ab2 c0 c1)) ∧ Fr n0 L ∧ Keep h0 h [ba] ∧ Arv Z h ba kd .byte (3 : Int32) [(.int (own_l8 c0)), (.int (own_l8 c1)), x2] (.int (0 : Int32))
theorem ef_rm_ab23 (m : MethodId) (st : Addr) (ba : Addr) : entryFrame m #[(.ref st), (.ref ba)] 6 = mkF m 0 #[.val (.ref st), .val (.ref ba), .unset, .unset, .unset, .unset] [] := by first | (simp [entryFrame, mkF, argsToLocals, Value.category]; done) | rfl
set_option maxRecDepth 65536 in
set_option maxHeartbeats 40000000 in
theorem rm_ab23 (l : Launch) (Z : State) (a0 : Array Value) (hw : ∀ d ∈ tables_1, d.before a0 Z = true) (ws : List Jvm.Cond) (st : Addr) (ba : Addr) (vb : Addr) (kb kd : ClassId) (c0 c1 : Int32) (x0 x1 x2 : Value) (cs : Int32) (vf : Value) (h0 : Heap) (n0 : Nat) (Z0 : n0 ≤ h0.size) (hST : own_ST Z cs vf) (O0 : Old Z n0 h0) (hS : own_Str2 Z h0 st vb kb c0 c1) (hc0 : own_ch16 c0) (hc1 : own_ch16 c1) (gn_ba : n0 ≤ ba) (Vd : Arv Z h0 ba kd .byte (3 : Int32) [x0, x1, x2] (.int (0 : Int32))) (nst : @LT.lt Nat instLTNat st ba) (nvb : @LT.lt Nat instLTNat vb ba) :
    own_Mt l (⟨"com/example/placer/placer/Utf8", "asciiBytes", "(Ljava/lang/String;[B)I"⟩ : MethodName) prog_30_method_3_code 6 (some .int) ({ frames := 5, cells := 0, slots := 0, locals := 66 } : Room) #[(.ref st), (.ref ba)] Z h0 (own_QB23 Z ba kd c0 c1 x0 x1 x2 h0 n0) := by
  refine MetFree.of_bodySF (plainFor_of_name pn_com_example_placer_placer_Utf8) hisR ?_
  intro p e s m args below meth c s₁ Bd hml0 hP hK
  obtain ⟨rfl, hZ, hh⟩ := hP
  have hx := Bd.exec
  have hby := Bd.bytes
  have hml : c.maxLocals = 6 := hml0
  have hown : s.vm.findClass "com/example/placer/placer/Utf8" = some m.cls := findClass_of_methodNamed Bd.named
  have hnm := (name_of_methodNamed Bd.named Bd.method).1
  have X0 : Stand p l e ({ frames := 5, cells := 0, slots := 0, locals := 66 } : Room) s m #[(.ref st), (.ref ba)] below meth c s₁ [] 0 0 := Stand.of_body Bd
  have e0 : s₁.heap = h0 := by rw [← hh, Bd.state]; rfl
  have N0 := Fr.nil n0
  refine own_start (ef_rm_ab23 m st ba) ?_
  have hST0 := hST
  have lt_ba := own_ltN Vd.lt
  refine o_aloadN X0 hx hby D10_0 rfl rfl ?_
  refine kV X0 hx hZ hown hby (wd hw 44 rfl) (wd hw 45 rfl) (wd hw 47 rfl) (wd hw 46 rfl) (wd hw 10 rfl) (wd hw 48 rfl) (own_nf hZ (wd hw 47 rfl)) hS.1 (rs_len2 l Z a0 hw [] st vb kb c0 c1 cs vf h0 n0 Z0 hST0 O0 hS) (by decide) (by decide) (by decide) (by decide) (by decide) (by rw [hml]; rfl) [] [] (lenOf pd__40_41I rfl) (W := 0) rfl rfl D10_1 rfl e0 ?_
  intro v1 T1 L1 X1 hQ1
  obtain ⟨rfl, N1q, e1⟩ := hQ1
  have N1 := Fr.app N0 N1q
  refine own_sh (A' := T1.setTop (mkF m 4 _ [(.int (2 : Int32))])) ?_
  refine o_istoreN X1 hx hby D10_4 (l' := #[.val (.ref st), .val (.ref ba), .val (.int (2 : Int32)), .unset, .unset, .unset]) rfl ?_
  refine o_iloadN X1 hx hby D10_5 rfl ?_
  refine o_aloadN X1 hx hby D10_6 rfl rfl ?_
  obtain ⟨cl_ba_2, Ar_ba_2, q_ba_2, S_ba_2, N_ba_2, H_ba_2, G_ba_2⟩ := id Vd
  refine own_pre (A' := T1.setTop (mkF m 8 #[.val (.ref st), .val (.ref ba), .val (.int (2 : Int32)), .unset, .unset, .unset] [(.int (3 : Int32)), (.int (2 : Int32))])) (fun t k => X1.arraylength hx (by rw [e1]; exact Ar_ba_2.1) (State.isArrayOf_alike hZ.alike Ar_ba_2.2.1) (g := (mkF m 7 #[.val (.ref st), .val (.ref ba), .val (.int (2 : Int32)), .unset, .unset, .unset] [(.ref ba), (.int (2 : Int32))])) rfl rfl (hb hby D10_7.1) _ (by rw [len_of S_ba_2 N_ba_2]; exact k)) ?_
  refine o_icmpY X1 hx hby D10_8 (flt (by decide : ¬ ((3 : Int32) < (2 : Int32)))).2.2.2 (q := 13) (by decide) (by decide) ?_
  refine o_iconst X1 hx hby D10_13 (v := 0) rfl ?_
  refine o_istoreN X1 hx hby D10_14 (l' := #[.val (.ref st), .val (.ref ba), .val (.int (2 : Int32)), .val (.int (0 : Int32)), .unset, .unset]) rfl ?_
  refine o_iconst X1 hx hby D10_15 (v := 0) rfl ?_
  refine o_istore X1 hx hby D10_16 (l' := #[.val (.ref st), .val (.ref ba), .val (.int (2 : Int32)), .val (.int (0 : Int32)), .val (.int (0 : Int32)), .unset]) rfl ?_
  refine o_iload X1 hx hby D10_18 rfl ?_
  refine o_iloadN X1 hx hby D10_20 rfl ?_
  refine o_icmpN X1 hx hby D10_21 (tlt (by decide : (0 : Int32) < (2 : Int32))).2.1 ?_
  refine o_aloadN X1 hx hby D10_24 rfl rfl ?_
  refine o_iload X1 hx hby D10_25 rfl ?_
  refine kV X1 hx hZ hown hby (wd hw 54 rfl) (wd hw 55 rfl) (wd hw 57 rfl) (wd hw 56 rfl) (wd hw 10 rfl) (wd hw 58 rfl) (own_nf hZ (wd hw 57 rfl)) hS.1 (rs_ca20 l Z a0 hw [] st vb kb c0 c1 cs vf h0 n0 Z0 hST0 O0 hS hc0 hc1) (by decide) (by decide) (by decide) (by decide) (by decide) (by rw [hml]; rfl) [(.int (0 : Int32))] [] (lenOf pd__40I_41C rfl) (W := 0) rfl rfl D10_27 rfl e1 ?_
  intro v3 T3 L3 X3 hQ3
  obtain ⟨rfl, N3q, e3⟩ := hQ3
  have N3 := Fr.app N1 N3q
  refine own_sh (A' := T3.setTop (mkF m 30 _ [(.int c0)])) ?_
  refine o_istore X3 hx hby D10_30 (l' := #[.val (.ref st), .val (.ref ba), .val (.int (2 : Int32)), .val (.int (0 : Int32)), .val (.int (0 : Int32)), .val (.int c0)]) rfl ?_
  refine o_iloadN X3 hx hby D10_32 rfl ?_
  refine o_iload X3 hx hby D10_33 rfl ?_
  refine o_ior X3 hx hby D10_35 ?_
  refine o_istoreN X3 hx hby D10_36 (l' := #[.val (.ref st), .val (.ref ba), .val (.int (2 : Int32)), .val (.int ((0 : Int32) ||| c0)), .val (.int (0 : Int32)), .val (.int c0)]) rfl ?_
  refine o_aloadN X3 hx hby D10_37 rfl rfl ?_
  refine o_iload X3 hx hby D10_38 rfl ?_
  refine o_iload X3 hx hby D10_40 rfl ?_
  refine o_i2b X3 hx hby D10_42 ?_
  obtain ⟨cl_ba_4, Ar_ba_4, q_ba_4, S_ba_4, N_ba_4, H_ba_4, G_ba_4⟩ := id Vd
  have hin_ba_4 : ¬ ((0 : Int32) < 0 ∨ cl_ba_4.slots.size ≤ ((0 : Int32)).toNatClampNeg) := inb_of S_ba_4 ⟨by decide, by decide⟩
  obtain ⟨T4, h4, X4, e4, W4, st4⟩ := stB X3 hx hZ e3 Ar_ba_4 (j := (0 : Int32)) hin_ba_4 (g := (mkF m 43 #[.val (.ref st), .val (.ref ba), .val (.int (2 : Int32)), .val (.int ((0 : Int32) ||| c0)), .val (.int (0 : Int32)), .val (.int c0)] [(.int ((c0).toInt8.toInt32)), (.int (0 : Int32)), (.ref ba)])) rfl rfl (hb hby D10_43.1)
  have V_ba_4 : Arv Z h4 ba kd .byte (3 : Int32) [(.int (nar .byte ((c0).toInt8.toInt32))), x1, x2] (.int (0 : Int32)) := Arv.set Ar_ba_4 q_ba_4 S_ba_4 N_ba_4 H_ba_4 G_ba_4 (fits_nar_byte _) W4 0 rfl (Nat.le_of_ble_eq_true rfl)
  have sz4 := own_leN (Keep.of_wr W4).1
  have N4 := Fr.snoc X4 N3 gn_ba
  refine own_pre (A' := T4.setTop (mkF m 44 #[.val (.ref st), .val (.ref ba), .val (.int (2 : Int32)), .val (.int ((0 : Int32) ||| c0)), .val (.int (0 : Int32)), .val (.int c0)] [])) st4 ?_
  refine o_iinc X4 hx hby D10_44 rfl (l' := #[.val (.ref st), .val (.ref ba), .val (.int (2 : Int32)), .val (.int ((0 : Int32) ||| c0)), .val (.int ((0 : Int32) + (1 : Int32))), .val (.int c0)]) rfl ?_
  rw [(by decide : ((0 : Int32) + (1 : Int32)) = (1 : Int32))]
  refine o_goto X4 hx hby D10_47 (q := 18) (by decide) (by decide) ?_
  refine o_iload X4 hx hby D10_18 rfl ?_
  refine o_iloadN X4 hx hby D10_20 rfl ?_
  refine o_icmpN X4 hx hby D10_21 (tlt (by decide : (1 : Int32) < (2 : Int32))).2.1 ?_
  refine o_aloadN X4 hx hby D10_24 rfl rfl ?_
  refine o_iload X4 hx hby D10_25 rfl ?_
  have c6_O := (O0.wr W4 gn_ba)
  have cT7_st := (own_StrK2 hS (Keep.of_wr W4) (ninS (by first | exact own_neN (by omega) | exact own_neN' (by omega) | assumption) nin0) (ninS (by first | exact own_neN (by omega) | exact own_neN' (by omega) | assumption) nin0))
  have c8_E_st := (hS.1.wr W4)
  refine kV X4 hx hZ hown hby (wd hw 54 rfl) (wd hw 55 rfl) (wd hw 57 rfl) (wd hw 56 rfl) (wd hw 10 rfl) (wd hw 58 rfl) (own_nf hZ (wd hw 57 rfl)) c8_E_st (rs_ca21 l Z a0 hw [] st vb kb c0 c1 cs vf h4 n0 (own_leN (by omega)) hST0 c6_O cT7_st hc0 hc1) (by decide) (by decide) (by decide) (by decide) (by decide) (by rw [hml]; rfl) [(.int (1 : Int32))] [] (lenOf pd__40I_41C rfl) (W := 0) rfl rfl D10_27 rfl e4 ?_
  intro v5 T5 L5 X5 hQ5
  obtain ⟨rfl, N5q, e5⟩ := hQ5
  have N5 := Fr.app N4 N5q
  refine own_sh (A' := T5.setTop (mkF m 30 _ [(.int c1)])) ?_
  refine o_istore X5 hx hby D10_30 (l' := #[.val (.ref st), .val (.ref ba), .val (.int (2 : Int32)), .val (.int ((0 : Int32) ||| c0)), .val (.int (1 : Int32)), .val (.int c1)]) rfl ?_
  refine o_iloadN X5 hx hby D10_32 rfl ?_
  refine o_iload X5 hx hby D10_33 rfl ?_
  refine o_ior X5 hx hby D10_35 ?_
  refine o_istoreN X5 hx hby D10_36 (l' := #[.val (.ref st), .val (.ref ba), .val (.int (2 : Int32)), .val (.int (((0 : Int32) ||| c0) ||| c1)), .val (.int (1 : Int32)), .val (.int c1)]) rfl ?_
  refine o_aloadN X5 hx hby D10_37 rfl rfl ?_
  refine o_iload X5 hx hby D10_38 rfl ?_
  refine o_iload X5 hx hby D10_40 rfl ?_
  refine o_i2b X5 hx hby D10_42 ?_
  obtain ⟨cl_ba_9, Ar_ba_9, q_ba_9, S_ba_9, N_ba_9, H_ba_9, G_ba_9⟩ := id V_ba_4
  have hin_ba_9 : ¬ ((1 : Int32) < 0 ∨ cl_ba_9.slots.size ≤ ((1 : Int32)).toNatClampNeg) := inb_of S_ba_9 ⟨by decide, by decide⟩
  obtain ⟨T9, h9, X9, e9, W9, st9⟩ := stB X5 hx hZ e5 Ar_ba_9 (j := (1 : Int32)) hin_ba_9 (g := (mkF m 43 #[.val (.ref st), .val (.ref ba), .val (.int (2 : Int32)), .val (.int (((0 : Int32) ||| c0) ||| c1)), .val (.int (1 : Int32)), .val (.int c1)] [(.int ((c1).toInt8.toInt32)), (.int (1 : Int32)), (.ref ba)])) rfl rfl (hb hby D10_43.1)
  have V_ba_9 : Arv Z h9 ba kd .byte (3 : Int32) [(.int (nar .byte ((c0).toInt8.toInt32))), (.int (nar .byte ((c1).toInt8.toInt32))), x2] (.int (0 : Int32)) := Arv.set Ar_ba_9 q_ba_9 S_ba_9 N_ba_9 H_ba_9 G_ba_9 (fits_nar_byte _) W9 1 rfl (Nat.le_of_ble_eq_true rfl)
  have sz9 := own_leN (Keep.of_wr W9).1
  have N9 := Fr.snoc X9 N5 gn_ba
  refine own_pre (A' := T9.setTop (mkF m 44 #[.val (.ref st), .val (.ref ba), .val (.int (2 : Int32)), .val (.int (((0 : Int32) ||| c0) ||| c1)), .val (.int (1 : Int32)), .val (.int c1)] [])) st9 ?_
  refine o_iinc X9 hx hby D10_44 rfl (l' := #[.val (.ref st), .val (.ref ba), .val (.int (2 : Int32)), .val (.int (((0 : Int32) ||| c0) ||| c1)), .val (.int ((1 : Int32) + (1 : Int32))), .val (.int c1)]) rfl ?_
  rw [(by decide : ((1 : Int32) + (1 : Int32)) = (2 : Int32))]
  refine o_goto X9 hx hby D10_47 (q := 18) (by decide) (by decide) ?_
  refine o_iload X9 hx hby D10_18 rfl ?_
  refine o_iloadN X9 hx hby D10_20 rfl ?_
  refine o_icmpY X9 hx hby D10_21 (flt (by decide : ¬ ((2 : Int32) < (2 : Int32)))).2.1 (q := 50) (by decide) (by decide) ?_
  refine o_iloadN X9 hx hby D10_50 rfl ?_
  refine o_sipush X9 hx hby D10_51 (v := 128) rfl ?_
  by_cases hc54_10 : (((0 : Int32) ||| c0) ||| c1) < (128 : Int32)
  · skip
    refine o_icmpN X9 hx hby D10_54 (tlt hc54_10).2.1 ?_
    refine o_iloadN X9 hx hby D10_57 rfl ?_
    refine o_goto X9 hx hby D10_58 (q := 62) (by decide) (by decide) ?_
    have KK : Keep h0 h9 [ba] := (((Keep.refl h0 [ba]).wr W4 (Or.inl (by simp))).wr W9 (Or.inl (by simp)))
    have VV : Arv Z h9 ba kd .byte (3 : Int32) [(.int (own_l8 c0)), (.int (own_l8 c1)), x2] (.int (0 : Int32)) := V_ba_9
    exact own_ret (v := some (.int (2 : Int32))) X9 (fun h => by first | rfl | (rw [Bd.returns] at h; cases h)) (BodyLoose.notSynchronized Bd) (by decide) (by decide) (by rw [e9]; exact ⟨by rw [own_ab2, if_pos hc54_10], N9, KK, VV⟩) (fun fs hr => retI X9 hx Bd.returns (hb hby D10_62.1) hr)
  · skip
    refine o_icmpY X9 hx hby D10_54 (flt hc54_10).2.1 (q := 61) (by decide) (by decide) ?_
    refine o_iconst X9 hx hby D10_61 (v := -1) rfl ?_
    have KK : Keep h0 h9 [ba] := (((Keep.refl h0 [ba]).wr W4 (Or.inl (by simp))).wr W9 (Or.inl (by simp)))
    have VV : Arv Z h9 ba kd .byte (3 : Int32) [(.int (own_l8 c0)), (.int (own_l8 c1)), x2] (.int (0 : Int32)) := V_ba_9
    exact own_ret (v := some (.int (-1 : Int32))) X9 (fun h => by first | rfl | (rw [Bd.returns] at h; cases h)) (BodyLoose.notSynchronized Bd) (by decide) (by decide) (by rw [e9]; exact ⟨by rw [own_ab2, if_neg hc54_10], N9, KK, VV⟩) (fun fs hr => retI X9 hx Bd.returns (hb hby D10_62.1) hr)
def own_ab3 (c0 c1 c2 : Int32) : Int32 := if ((((0 : Int32) ||| c0) ||| c1) ||| c2) < (128 : Int32) then (3 : Int32) else (-1 : Int32)
theorem own_acc3 {c0 c1 c2 : Int32} (hc0 : own_ch16 c0) (hc1 : own_ch16 c1) (hc2 : own_ch16 c2) : ((((0 : Int32) ||| c0) ||| c1) ||| c2) < (128 : Int32) ↔ c0 < (128 : Int32) ∧ c1 < (128 : Int32) ∧ c2 < (128 : Int32) := by
  have r0 := own_or16 own_z16 hc0
  have r1 := own_or16 r0.1 hc1
  have r2 := own_or16 r1.1 hc2
  have z : (0 : Int32) < (128 : Int32) := by decide
  rw [r2.2, r1.2, r0.2]
  simp [z, and_assoc]
theorem own_abY3 {c0 c1 c2 : Int32} (hc0 : own_ch16 c0) (hc1 : own_ch16 c1) (hc2 : own_ch16 c2) (h : c0 < (128 : Int32) ∧ c1 < (128 : Int32) ∧ c2 < (128 : Int32)) : own_ab3 c0 c1 c2 = (3 : Int32) := by
  rw [own_ab3, if_pos ((own_acc3 hc0 hc1 hc2).mpr h)]
theorem own_abN3 {c0 c1 c2 : Int32} (hc0 : own_ch16 c0) (hc1 : own_ch16 c1) (hc2 : own_ch16 c2) (h : ¬ (c0 < (128 : Int32) ∧ c1 < (128 : Int32) ∧ c2 < (128 : Int32))) : own_ab3 c0 c1 c2 = (-1 : Int32) := by
  rw [own_ab3, if_neg (fun q => h ((own_acc3 hc0 hc1 hc2).mp q))]
theorem ef_rm_abX3 (m : MethodId) (st : Addr) (ba : Addr) : entryFrame m #[(.ref st), (.ref ba)] 6 = mkF m 0 #[.val (.ref st), .val (.ref ba), .unset, .unset, .unset, .unset] [] := by first | (simp [entryFrame, mkF, argsToLocals, Value.category]; done) | rfl
set_option maxRecDepth 65536 in
set_option maxHeartbeats 40000000 in
theorem rm_abX3 (l : Launch) (Z : State) (a0 : Array Value) (hw : ∀ d ∈ tables_1, d.before a0 Z = true) (ws : List Jvm.Cond) (st : Addr) (ba : Addr) (vb : Addr) (kb kd : ClassId) (c0 c1 c2 : Int32) (z : Int32) (xs : List Value) (cs : Int32) (vf : Value) (h0 : Heap) (n0 : Nat) (Z0 : n0 ≤ h0.size) (hST : own_ST Z cs vf) (O0 : Old Z n0 h0) (hS : own_Str3 Z h0 st vb kb c0 c1 c2) (Vd : Arv Z h0 ba kd .byte z xs (.int (0 : Int32))) (hz : z < (3 : Int32)) :
    own_Mt l (⟨"com/example/placer/placer/Utf8", "asciiBytes", "(Ljava/lang/String;[B)I"⟩ : MethodName) prog_30_method_3_code 6 (some .int) ({ frames := 2, cells := 0, slots := 0, locals := 25 } : Room) #[(.ref st), (.ref ba)] Z h0 (own_QP (.int (-1 : Int32)) h0 n0) := by
  refine MetFree.of_bodySF (plainFor_of_name pn_com_example_placer_placer_Utf8) hisR ?_
  intro p e s m args below meth c s₁ Bd hml0 hP hK
  obtain ⟨rfl, hZ, hh⟩ := hP
  have hx := Bd.exec
  have hby := Bd.bytes
  have hml : c.maxLocals = 6 := hml0
  have hown : s.vm.findClass "com/example/placer/placer/Utf8" = some m.cls := findClass_of_methodNamed Bd.named
  have hnm := (name_of_methodNamed Bd.named Bd.method).1
  have X0 : Stand p l e ({ frames := 2, cells := 0, slots := 0, locals := 25 } : Room) s m #[(.ref st), (.ref ba)] below meth c s₁ [] 0 0 := Stand.of_body Bd
  have e0 : s₁.heap = h0 := by rw [← hh, Bd.state]; rfl
  have N0 := Fr.nil n0
  refine own_start (ef_rm_abX3 m st ba) ?_
  have hST0 := hST
  refine o_aloadN X0 hx hby D10_0 rfl rfl ?_
  refine kV X0 hx hZ hown hby (wd hw 44 rfl) (wd hw 45 rfl) (wd hw 47 rfl) (wd hw 46 rfl) (wd hw 10 rfl) (wd hw 48 rfl) (own_nf hZ (wd hw 47 rfl)) hS.1 (rs_len3 l Z a0 hw [] st vb kb c0 c1 c2 cs vf h0 n0 Z0 hST0 O0 hS) (by decide) (by decide) (by decide) (by decide) (by decide) (by rw [hml]; rfl) [] [] (lenOf pd__40_41I rfl) (W := 0) rfl rfl D10_1 rfl e0 ?_
  intro v1 T1 L1 X1 hQ1
  obtain ⟨rfl, N1q, e1⟩ := hQ1
  have N1 := Fr.app N0 N1q
  refine own_sh (A' := T1.setTop (mkF m 4 _ [(.int (3 : Int32))])) ?_
  refine o_istoreN X1 hx hby D10_4 (l' := #[.val (.ref st), .val (.ref ba), .val (.int (3 : Int32)), .unset, .unset, .unset]) rfl ?_
  refine o_iloadN X1 hx hby D10_5 rfl ?_
  refine o_aloadN X1 hx hby D10_6 rfl rfl ?_
  obtain ⟨cl_ba_2, Ar_ba_2, q_ba_2, S_ba_2, N_ba_2, H_ba_2, G_ba_2⟩ := id Vd
  refine own_pre (A' := T1.setTop (mkF m 8 #[.val (.ref st), .val (.ref ba), .val (.int (3 : Int32)), .unset, .unset, .unset] [(.int z), (.int (3 : Int32))])) (fun t k => X1.arraylength hx (by rw [e1]; exact Ar_ba_2.1) (State.isArrayOf_alike hZ.alike Ar_ba_2.2.1) (g := (mkF m 7 #[.val (.ref st), .val (.ref ba), .val (.int (3 : Int32)), .unset, .unset, .unset] [(.ref ba), (.int (3 : Int32))])) rfl rfl (hb hby D10_7.1) _ (by rw [len_of S_ba_2 N_ba_2]; exact k)) ?_
  refine o_icmpN X1 hx hby D10_8 (tlt (hz : z < (3 : Int32))).2.2.2 ?_
  refine o_iconst X1 hx hby D10_11 (v := -1) rfl ?_
  exact own_ret (v := some (.int (-1 : Int32))) X1 (fun h => by first | rfl | (rw [Bd.returns] at h; cases h)) (BodyLoose.notSynchronized Bd) (by decide) (by decide) (⟨rfl, N1, e1⟩) (fun fs hr => retI X1 hx Bd.returns (hb hby D10_12.1) hr)
def own_QB33 (Z : State) (ba : Addr) (kd : ClassId) (c0 c1 c2 : Int32) (x0 x1 x2 : Value) (h0 : Heap) (n0 : Nat) (v : Option Value) (h : Heap) (L : List Loc) : Prop := v = some (.int (own_ab3 c0 c1 c2)) ∧ Fr n0 L ∧ Keep h0 h [ba] ∧ Arv Z h ba kd .byte (3 : Int32) [(.int (own_l8 c0)), (.int (own_l8 c1)), (.int (own_l8 c2))] (.int (0 : Int32))
theorem ef_rm_ab33 (m : MethodId) (st : Addr) (ba : Addr) : entryFrame m #[(.ref st), (.ref ba)] 6 = mkF m 0 #[.val (.ref st), .val (.ref ba), .unset, .unset, .unset, .unset] [] := by first | (simp [entryFrame, mkF, argsToLocals, Value.category]; done) | rfl
set_option maxRecDepth 65536 in
set_option maxHeartbeats 40000000 in
theorem rm_ab33 (l : Launch) (Z : State) (a0 : Array Value) (hw : ∀ d ∈ tables_1, d.before a0 Z = true) (ws : List Jvm.Cond) (st : Addr) (ba : Addr) (vb : Addr) (kb kd : ClassId) (c0 c1 c2 : Int32) (x0 x1 x2 : Value) (cs : Int32) (vf : Value) (h0 : Heap) (n0 : Nat) (Z0 : n0 ≤ h0.size) (hST : own_ST Z cs vf) (O0 : Old Z n0 h0) (hS : own_Str3 Z h0 st vb kb c0 c1 c2) (hc0 : own_ch16 c0) (hc1 : own_ch16 c1) (hc2 : own_ch16 c2) (gn_ba : n0 ≤ ba) (Vd : Arv Z h0 ba kd .byte (3 : Int32) [x0, x1, x2] (.int (0 : Int32))) (nst : @LT.lt Nat instLTNat st ba) (nvb : @LT.lt Nat instLTNat vb ba) :
    own_Mt l (⟨"com/example/placer/placer/Utf8", "asciiBytes", "(Ljava/lang/String;[B)I"⟩ : MethodName) prog_30_method_3_code 6 (some .int) ({ frames := 5, cells := 0, slots := 0, locals := 66 } : Room) #[(.ref st), (.ref ba)] Z h0 (own_QB33 Z ba kd c0 c1 c2 x0 x1 x2 h0 n0) := by
  refine MetFree.of_bodySF (plainFor_of_name pn_com_example_placer_placer_Utf8) hisR ?_
  intro p e s m args below meth c s₁ Bd hml0 hP hK
  obtain ⟨rfl, hZ, hh⟩ := hP
  have hx := Bd.exec
  have hby := Bd.bytes
  have hml : c.maxLocals = 6 := hml0
  have hown : s.vm.findClass "com/example/placer/placer/Utf8" = some m.cls := findClass_of_methodNamed Bd.named
  have hnm := (name_of_methodNamed Bd.named Bd.method).1
  have X0 : Stand p l e ({ frames := 5, cells := 0, slots := 0, locals := 66 } : Room) s m #[(.ref st), (.ref ba)] below meth c s₁ [] 0 0 := Stand.of_body Bd
  have e0 : s₁.heap = h0 := by rw [← hh, Bd.state]; rfl
  have N0 := Fr.nil n0
  refine own_start (ef_rm_ab33 m st ba) ?_
  have hST0 := hST
  have lt_ba := own_ltN Vd.lt
  refine o_aloadN X0 hx hby D10_0 rfl rfl ?_
  refine kV X0 hx hZ hown hby (wd hw 44 rfl) (wd hw 45 rfl) (wd hw 47 rfl) (wd hw 46 rfl) (wd hw 10 rfl) (wd hw 48 rfl) (own_nf hZ (wd hw 47 rfl)) hS.1 (rs_len3 l Z a0 hw [] st vb kb c0 c1 c2 cs vf h0 n0 Z0 hST0 O0 hS) (by decide) (by decide) (by decide) (by decide) (by decide) (by rw [hml]; rfl) [] [] (lenOf pd__40_41I rfl) (W := 0) rfl rfl D10_1 rfl e0 ?_
  intro v1 T1 L1 X1 hQ1
  obtain ⟨rfl, N1q, e1⟩ := hQ1
  have N1 := Fr.app N0 N1q
  refine own_sh (A' := T1.setTop (mkF m 4 _ [(.int (3 : Int32))])) ?_
  refine o_istoreN X1 hx hby D10_4 (l' := #[.val (.ref st), .val (.ref ba), .val (.int (3 : Int32)), .unset, .unset, .unset]) rfl ?_
  refine o_iloadN X1 hx hby D10_5 rfl ?_
  refine o_aloadN X1 hx hby D10_6 rfl rfl ?_
  obtain ⟨cl_ba_2, Ar_ba_2, q_ba_2, S_ba_2, N_ba_2, H_ba_2, G_ba_2⟩ := id Vd
  refine own_pre (A' := T1.setTop (mkF m 8 #[.val (.ref st), .val (.ref ba), .val (.int (3 : Int32)), .unset, .unset, .unset] [(.int (3 : Int32)), (.int (3 : Int32))])) (fun t k => X1.arraylength hx (by rw [e1]; exact Ar_ba_2.1) (State.isArrayOf_alike hZ.alike Ar_ba_2.2.1) (g := (mkF m 7 #[.val (.ref st), .val (.ref ba), .val (.int (3 : Int32)), .unset, .unset, .unset] [(.ref ba), (.int (3 : Int32))])) rfl rfl (hb hby D10_7.1) _ (by rw [len_of S_ba_2 N_ba_2]; exact k)) ?_
  refine o_icmpY X1 hx hby D10_8 (flt (by decide : ¬ ((3 : Int32) < (3 : Int32)))).2.2.2 (q := 13) (by decide) (by decide) ?_
  refine o_iconst X1 hx hby D10_13 (v := 0) rfl ?_
  refine o_istoreN X1 hx hby D10_14 (l' := #[.val (.ref st), .val (.ref ba), .val (.int (3 : Int32)), .val (.int (0 : Int32)), .unset, .unset]) rfl ?_
  refine o_iconst X1 hx hby D10_15 (v := 0) rfl ?_
  refine o_istore X1 hx hby D10_16 (l' := #[.val (.ref st), .val (.ref ba), .val (.int (3 : Int32)), .val (.int (0 : Int32)), .val (.int (0 : Int32)), .unset]) rfl ?_
  refine o_iload X1 hx hby D10_18 rfl ?_
  refine o_iloadN X1 hx hby D10_20 rfl ?_
  refine o_icmpN X1 hx hby D10_21 (tlt (by decide : (0 : Int32) < (3 : Int32))).2.1 ?_
  refine o_aloadN X1 hx hby D10_24 rfl rfl ?_
  refine o_iload X1 hx hby D10_25 rfl ?_
  refine kV X1 hx hZ hown hby (wd hw 54 rfl) (wd hw 55 rfl) (wd hw 57 rfl) (wd hw 56 rfl) (wd hw 10 rfl) (wd hw 58 rfl) (own_nf hZ (wd hw 57 rfl)) hS.1 (rs_ca30 l Z a0 hw [] st vb kb c0 c1 c2 cs vf h0 n0 Z0 hST0 O0 hS hc0 hc1 hc2) (by decide) (by decide) (by decide) (by decide) (by decide) (by rw [hml]; rfl) [(.int (0 : Int32))] [] (lenOf pd__40I_41C rfl) (W := 0) rfl rfl D10_27 rfl e1 ?_
  intro v3 T3 L3 X3 hQ3
  obtain ⟨rfl, N3q, e3⟩ := hQ3
  have N3 := Fr.app N1 N3q
  refine own_sh (A' := T3.setTop (mkF m 30 _ [(.int c0)])) ?_
  refine o_istore X3 hx hby D10_30 (l' := #[.val (.ref st), .val (.ref ba), .val (.int (3 : Int32)), .val (.int (0 : Int32)), .val (.int (0 : Int32)), .val (.int c0)]) rfl ?_
  refine o_iloadN X3 hx hby D10_32 rfl ?_
  refine o_iload X3 hx hby D10_33 rfl ?_
  refine o_ior X3 hx hby D10_35 ?_
  refine o_istoreN X3 hx hby D10_36 (l' := #[.val (.ref st), .val (.ref ba), .val (.int (3 : Int32)), .val (.int ((0 : Int32) ||| c0)), .val (.int (0 : Int32)), .val (.int c0)]) rfl ?_
  refine o_aloadN X3 hx hby D10_37 rfl rfl ?_
  refine o_iload X3 hx hby D10_38 rfl ?_
  refine o_iload X3 hx hby D10_40 rfl ?_
  refine o_i2b X3 hx hby D10_42 ?_
  obtain ⟨cl_ba_4, Ar_ba_4, q_ba_4, S_ba_4, N_ba_4, H_ba_4, G_ba_4⟩ := id Vd
  have hin_ba_4 : ¬ ((0 : Int32) < 0 ∨ cl_ba_4.slots.size ≤ ((0 : Int32)).toNatClampNeg) := inb_of S_ba_4 ⟨by decide, by decide⟩
  obtain ⟨T4, h4, X4, e4, W4, st4⟩ := stB X3 hx hZ e3 Ar_ba_4 (j := (0 : Int32)) hin_ba_4 (g := (mkF m 43 #[.val (.ref st), .val (.ref ba), .val (.int (3 : Int32)), .val (.int ((0 : Int32) ||| c0)), .val (.int (0 : Int32)), .val (.int c0)] [(.int ((c0).toInt8.toInt32)), (.int (0 : Int32)), (.ref ba)])) rfl rfl (hb hby D10_43.1)
  have V_ba_4 : Arv Z h4 ba kd .byte (3 : Int32) [(.int (nar .byte ((c0).toInt8.toInt32))), x1, x2] (.int (0 : Int32)) := Arv.set Ar_ba_4 q_ba_4 S_ba_4 N_ba_4 H_ba_4 G_ba_4 (fits_nar_byte _) W4 0 rfl (Nat.le_of_ble_eq_true rfl)
  have sz4 := own_leN (Keep.of_wr W4).1
  have N4 := Fr.snoc X4 N3 gn_ba
  refine own_pre (A' := T4.setTop (mkF m 44 #[.val (.ref st), .val (.ref ba), .val (.int (3 : Int32)), .val (.int ((0 : Int32) ||| c0)), .val (.int (0 : Int32)), .val (.int c0)] [])) st4 ?_
  refine o_iinc X4 hx hby D10_44 rfl (l' := #[.val (.ref st), .val (.ref ba), .val (.int (3 : Int32)), .val (.int ((0 : Int32) ||| c0)), .val (.int ((0 : Int32) + (1 : Int32))), .val (.int c0)]) rfl ?_
  rw [(by decide : ((0 : Int32) + (1 : Int32)) = (1 : Int32))]
  refine o_goto X4 hx hby D10_47 (q := 18) (by decide) (by decide) ?_
  refine o_iload X4 hx hby D10_18 rfl ?_
  refine o_iloadN X4 hx hby D10_20 rfl ?_
  refine o_icmpN X4 hx hby D10_21 (tlt (by decide : (1 : Int32) < (3 : Int32))).2.1 ?_
  refine o_aloadN X4 hx hby D10_24 rfl rfl ?_
  refine o_iload X4 hx hby D10_25 rfl ?_
  have c6_O := (O0.wr W4 gn_ba)
  have cT7_st := (own_StrK3 hS (Keep.of_wr W4) (ninS (by first | exact own_neN (by omega) | exact own_neN' (by omega) | assumption) nin0) (ninS (by first | exact own_neN (by omega) | exact own_neN' (by omega) | assumption) nin0))
  have c8_E_st := (hS.1.wr W4)
  refine kV X4 hx hZ hown hby (wd hw 54 rfl) (wd hw 55 rfl) (wd hw 57 rfl) (wd hw 56 rfl) (wd hw 10 rfl) (wd hw 58 rfl) (own_nf hZ (wd hw 57 rfl)) c8_E_st (rs_ca31 l Z a0 hw [] st vb kb c0 c1 c2 cs vf h4 n0 (own_leN (by omega)) hST0 c6_O cT7_st hc0 hc1 hc2) (by decide) (by decide) (by decide) (by decide) (by decide) (by rw [hml]; rfl) [(.int (1 : Int32))] [] (lenOf pd__40I_41C rfl) (W := 0) rfl rfl D10_27 rfl e4 ?_
  intro v5 T5 L5 X5 hQ5
  obtain ⟨rfl, N5q, e5⟩ := hQ5
  have N5 := Fr.app N4 N5q
  refine own_sh (A' := T5.setTop (mkF m 30 _ [(.int c1)])) ?_
  refine o_istore X5 hx hby D10_30 (l' := #[.val (.ref st), .val (.ref ba), .val (.int (3 : Int32)), .val (.int ((0 : Int32) ||| c0)), .val (.int (1 : Int32)), .val (.int c1)]) rfl ?_
  refine o_iloadN X5 hx hby D10_32 rfl ?_
  refine o_iload X5 hx hby D10_33 rfl ?_
  refine o_ior X5 hx hby D10_35 ?_
  refine o_istoreN X5 hx hby D10_36 (l' := #[.val (.ref st), .val (.ref ba), .val (.int (3 : Int32)), .val (.int (((0 : Int32) ||| c0) ||| c1)), .val (.int (1 : Int32)), .val (.int c1)]) rfl ?_
  refine o_aloadN X5 hx hby D10_37 rfl rfl ?_
  refine o_iload X5 hx hby D10_38 rfl ?_
  refine o_iload X5 hx hby D10_40 rfl ?_
  refine o_i2b X5 hx hby D10_42 ?_
  obtain ⟨cl_ba_9, Ar_ba_9, q_ba_9, S_ba_9, N_ba_9, H_ba_9, G_ba_9⟩ := id V_ba_4
  have hin_ba_9 : ¬ ((1 : Int32) < 0 ∨ cl_ba_9.slots.size ≤ ((1 : Int32)).toNatClampNeg) := inb_of S_ba_9 ⟨by decide, by decide⟩
  obtain ⟨T9, h9, X9, e9, W9, st9⟩ := stB X5 hx hZ e5 Ar_ba_9 (j := (1 : Int32)) hin_ba_9 (g := (mkF m 43 #[.val (.ref st), .val (.ref ba), .val (.int (3 : Int32)), .val (.int (((0 : Int32) ||| c0) ||| c1)), .val (.int (1 : Int32)), .val (.int c1)] [(.int ((c1).toInt8.toInt32)), (.int (1 : Int32)), (.ref ba)])) rfl rfl (hb hby D10_43.1)
  have V_ba_9 : Arv Z h9 ba kd .byte (3 : Int32) [(.int (nar .byte ((c0).toInt8.toInt32))), (.int (nar .byte ((c1).toInt8.toInt32))), x2] (.int (0 : Int32)) := Arv.set Ar_ba_9 q_ba_9 S_ba_9 N_ba_9 H_ba_9 G_ba_9 (fits_nar_byte _) W9 1 rfl (Nat.le_of_ble_eq_true rfl)
  have sz9 := own_leN (Keep.of_wr W9).1
  have N9 := Fr.snoc X9 N5 gn_ba
  refine own_pre (A' := T9.setTop (mkF m 44 #[.val (.ref st), .val (.ref ba), .val (.int (3 : Int32)), .val (.int (((0 : Int32) ||| c0) ||| c1)), .val (.int (1 : Int32)), .val (.int c1)] [])) st9 ?_
  refine o_iinc X9 hx hby D10_44 rfl (l' := #[.val (.ref st), .val (.ref ba), .val (.int (3 : Int32)), .val (.int (((0 : Int32) ||| c0) ||| c1)), .val (.int ((1 : Int32) + (1 : Int32))), .val (.int c1)]) rfl ?_
  rw [(by decide : ((1 : Int32) + (1 : Int32)) = (2 : Int32))]
  refine o_goto X9 hx hby D10_47 (q := 18) (by decide) (by decide) ?_
  refine o_iload X9 hx hby D10_18 rfl ?_
  refine o_iloadN X9 hx hby D10_20 rfl ?_
  refine o_icmpN X9 hx hby D10_21 (tlt (by decide : (2 : Int32) < (3 : Int32))).2.1 ?_
  refine o_aloadN X9 hx hby D10_24 rfl rfl ?_
  refine o_iload X9 hx hby D10_25 rfl ?_
  have c11_O := (c6_O.wr W9 gn_ba)
  have cT12_st := (own_StrK3 cT7_st (Keep.of_wr W9) (ninS (by first | exact own_neN (by omega) | exact own_neN' (by omega) | assumption) nin0) (ninS (by first | exact own_neN (by omega) | exact own_neN' (by omega) | assumption) nin0))
  have c13_E_st := (c8_E_st.wr W9)
  refine kV X9 hx hZ hown hby (wd hw 54 rfl) (wd hw 55 rfl) (wd hw 57 rfl) (wd hw 56 rfl) (wd hw 10 rfl) (wd hw 58 rfl) (own_nf hZ (wd hw 57 rfl)) c13_E_st (rs_ca32 l Z a0 hw [] st vb kb c0 c1 c2 cs vf h9 n0 (own_leN (by omega)) hST0 c11_O cT12_st hc0 hc1 hc2) (by decide) (by decide) (by decide) (by decide) (by decide) (by rw [hml]; rfl) [(.int (2 : Int32))] [] (lenOf pd__40I_41C rfl) (W := 0) rfl rfl D10_27 rfl e9 ?_
  intro v10 T10 L10 X10 hQ10
  obtain ⟨rfl, N10q, e10⟩ := hQ10
  have N10 := Fr.app N9 N10q
  refine own_sh (A' := T10.setTop (mkF m 30 _ [(.int c2)])) ?_
  refine o_istore X10 hx hby D10_30 (l' := #[.val (.ref st), .val (.ref ba), .val (.int (3 : Int32)), .val (.int (((0 : Int32) ||| c0) ||| c1)), .val (.int (2 : Int32)), .val (.int c2)]) rfl ?_
  refine o_iloadN X10 hx hby D10_32 rfl ?_
  refine o_iload X10 hx hby D10_33 rfl ?_
  refine o_ior X10 hx hby D10_35 ?_
  refine o_istoreN X10 hx hby D10_36 (l' := #[.val (.ref st), .val (.ref ba), .val (.int (3 : Int32)), .val (.int ((((0 : Int32) ||| c0) ||| c1) ||| c2)), .val (.int (2 : Int32)), .val (.int c2)]) rfl ?_
  refine o_aloadN X10 hx hby D10_37 rfl rfl ?_
  refine o_iload X10 hx hby D10_38 rfl ?_
  refine o_iload X10 hx hby D10_40 rfl ?_
  refine o_i2b X10 hx hby D10_42 ?_
  obtain ⟨cl_ba_14, Ar_ba_14, q_ba_14, S_ba_14, N_ba_14, H_ba_14, G_ba_14⟩ := id V_ba_9
  have hin_ba_14 : ¬ ((2 : Int32) < 0 ∨ cl_ba_14.slots.size ≤ ((2 : Int32)).toNatClampNeg) := inb_of S_ba_14 ⟨by decide, by decide⟩
  obtain ⟨T14, h14, X14, e14, W14, st14⟩ := stB X10 hx hZ e10 Ar_ba_14 (j := (2 : Int32)) hin_ba_14 (g := (mkF m 43 #[.val (.ref st), .val (.ref ba), .val (.int (3 : Int32)), .val (.int ((((0 : Int32) ||| c0) ||| c1) ||| c2)), .val (.int (2 : Int32)), .val (.int c2)] [(.int ((c2).toInt8.toInt32)), (.int (2 : Int32)), (.ref ba)])) rfl rfl (hb hby D10_43.1)
  have V_ba_14 : Arv Z h14 ba kd .byte (3 : Int32) [(.int (nar .byte ((c0).toInt8.toInt32))), (.int (nar .byte ((c1).toInt8.toInt32))), (.int (nar .byte ((c2).toInt8.toInt32)))] (.int (0 : Int32)) := Arv.set Ar_ba_14 q_ba_14 S_ba_14 N_ba_14 H_ba_14 G_ba_14 (fits_nar_byte _) W14 2 rfl (Nat.le_of_ble_eq_true rfl)
  have sz14 := own_leN (Keep.of_wr W14).1
  have N14 := Fr.snoc X14 N10 gn_ba
  refine own_pre (A' := T14.setTop (mkF m 44 #[.val (.ref st), .val (.ref ba), .val (.int (3 : Int32)), .val (.int ((((0 : Int32) ||| c0) ||| c1) ||| c2)), .val (.int (2 : Int32)), .val (.int c2)] [])) st14 ?_
  refine o_iinc X14 hx hby D10_44 rfl (l' := #[.val (.ref st), .val (.ref ba), .val (.int (3 : Int32)), .val (.int ((((0 : Int32) ||| c0) ||| c1) ||| c2)), .val (.int ((2 : Int32) + (1 : Int32))), .val (.int c2)]) rfl ?_
  rw [(by decide : ((2 : Int32) + (1 : Int32)) = (3 : Int32))]
  refine o_goto X14 hx hby D10_47 (q := 18) (by decide) (by decide) ?_
  refine o_iload X14 hx hby D10_18 rfl ?_
  refine o_iloadN X14 hx hby D10_20 rfl ?_
  refine o_icmpY X14 hx hby D10_21 (flt (by decide : ¬ ((3 : Int32) < (3 : Int32)))).2.1 (q := 50) (by decide) (by decide) ?_
  refine o_iloadN X14 hx hby D10_50 rfl ?_
  refine o_sipush X14 hx hby D10_51 (v := 128) rfl ?_
  by_cases hc54_15 : ((((0 : Int32) ||| c0) ||| c1) ||| c2) < (128 : Int32)
  · skip
    refine o_icmpN X14 hx hby D10_54 (tlt hc54_15).2.1 ?_
    refine o_iloadN X14 hx hby D10_57 rfl ?_
    refine o_goto X14 hx hby D10_58 (q := 62) (by decide) (by decide) ?_
    have KK : Keep h0 h14 [ba] := ((((Keep.refl h0 [ba]).wr W4 (Or.inl (by simp))).wr W9 (Or.inl (by simp))).wr W14 (Or.inl (by simp)))
    have VV : Arv Z h14 ba kd .byte (3 : Int32) [(.int (own_l8 c0)), (.int (own_l8 c1)), (.int (own_l8 c2))] (.int (0 : Int32)) := V_ba_14
    exact own_ret (v := some (.int (3 : Int32))) X14 (fun h => by first | rfl | (rw [Bd.returns] at h; cases h)) (BodyLoose.notSynchronized Bd) (by decide) (by decide) (by rw [e14]; exact ⟨by rw [own_ab3, if_pos hc54_15], N14, KK, VV⟩) (fun fs hr => retI X14 hx Bd.returns (hb hby D10_62.1) hr)
  · skip
    refine o_icmpY X14 hx hby D10_54 (flt hc54_15).2.1 (q := 61) (by decide) (by decide) ?_
    refine o_iconst X14 hx hby D10_61 (v := -1) rfl ?_
    have KK : Keep h0 h14 [ba] := ((((Keep.refl h0 [ba]).wr W4 (Or.inl (by simp))).wr W9 (Or.inl (by simp))).wr W14 (Or.inl (by simp)))
    have VV : Arv Z h14 ba kd .byte (3 : Int32) [(.int (own_l8 c0)), (.int (own_l8 c1)), (.int (own_l8 c2))] (.int (0 : Int32)) := V_ba_14
    exact own_ret (v := some (.int (-1 : Int32))) X14 (fun h => by first | rfl | (rw [Bd.returns] at h; cases h)) (BodyLoose.notSynchronized Bd) (by decide) (by decide) (by rw [e14]; exact ⟨by rw [own_ab3, if_neg hc54_15], N14, KK, VV⟩) (fun fs hr => retI X14 hx Bd.returns (hb hby D10_62.1) hr)
theorem D18_0 : own_at method_5_code 0 (.iload_n 1) 1 1 := ⟨by decide +kernel, rfl⟩
theorem D18_1 : own_at method_5_code 1 (.aload_n 0) 1 2 := ⟨by decide +kernel, rfl⟩
theorem D18_2 : own_at method_5_code 2 (.arraylength) 1 3 := ⟨by decide +kernel, rfl⟩
theorem D18_3 : own_at method_5_code 3 (.if_icmp .lt 5) 3 6 := ⟨by decide +kernel, rfl⟩
theorem D18_6 : own_at method_5_code 6 (.iconst 1) 1 7 := ⟨by decide +kernel, rfl⟩
theorem D18_7 : own_at method_5_code 7 (.ireturn) 1 8 := ⟨by decide +kernel, rfl⟩
theorem ef_rm_at0O (m : MethodId) (ba : Addr) (p2 : Int32) (p3 : Int32) (p4 : Int32) : entryFrame m #[(.ref ba), (.int (0 : Int32)), (.int p2), (.int p3), (.int p4)] 5 = mkF m 0 #[.val (.ref ba), .val (.int (0 : Int32)), .val (.int p2), .val (.int p3), .val (.int p4)] [] := by first | (simp [entryFrame, mkF, argsToLocals, Value.category]; done) | rfl
set_option maxRecDepth 65536 in
set_option maxHeartbeats 40000000 in
theorem rm_at0O (l : Launch) (Z : State) (a0 : Array Value) (hw : ∀ d ∈ tables_1, d.before a0 Z = true) (ws : List Jvm.Cond) (ba : Addr) (p2 : Int32) (p3 : Int32) (p4 : Int32) (kd : ClassId) (z : Int32) (ys : List Value) (y : Int32) (h0 : Heap) (n0 : Nat) (Z0 : n0 ≤ h0.size) (Vd : Arv Z h0 ba kd .byte z ys (.int (0 : Int32))) (hz : ¬ ((0 : Int32) < z)) :
    own_Mt l (⟨"com/example/placer/placer/Utf8AsciiBytesPinLaw", "at", "([BIICB)Z"⟩ : MethodName) method_5_code 5 (some .boolean) ({ frames := 0, cells := 0, slots := 0, locals := 0 } : Room) #[(.ref ba), (.int (0 : Int32)), (.int p2), (.int p3), (.int p4)] Z h0 (own_QP (.int (1 : Int32)) h0 n0) := by
  refine MetFree.of_bodySF (plainFor_of_name pn_com_example_placer_placer_Utf8AsciiBytesPinLaw) hisR ?_
  intro p e s m args below meth c s₁ Bd hml0 hP hK
  obtain ⟨rfl, hZ, hh⟩ := hP
  have hx := Bd.exec
  have hby := Bd.bytes
  have hml : c.maxLocals = 5 := hml0
  have hown : s.vm.findClass "com/example/placer/placer/Utf8AsciiBytesPinLaw" = some m.cls := findClass_of_methodNamed Bd.named
  have hnm := (name_of_methodNamed Bd.named Bd.method).1
  have X0 : Stand p l e ({ frames := 0, cells := 0, slots := 0, locals := 0 } : Room) s m #[(.ref ba), (.int (0 : Int32)), (.int p2), (.int p3), (.int p4)] below meth c s₁ [] 0 0 := Stand.of_body Bd
  have e0 : s₁.heap = h0 := by rw [← hh, Bd.state]; rfl
  have N0 := Fr.nil n0
  refine own_start (ef_rm_at0O m ba p2 p3 p4) ?_
  refine o_iloadN X0 hx hby D18_0 rfl ?_
  refine o_aloadN X0 hx hby D18_1 rfl rfl ?_
  obtain ⟨cl_ba_1, Ar_ba_1, q_ba_1, S_ba_1, N_ba_1, H_ba_1, G_ba_1⟩ := id Vd
  refine own_pre (A' := s₁.setTop (mkF m 3 #[.val (.ref ba), .val (.int (0 : Int32)), .val (.int p2), .val (.int p3), .val (.int p4)] [(.int z), (.int (0 : Int32))])) (fun t k => X0.arraylength hx (by rw [e0]; exact Ar_ba_1.1) (State.isArrayOf_alike hZ.alike Ar_ba_1.2.1) (g := (mkF m 2 #[.val (.ref ba), .val (.int (0 : Int32)), .val (.int p2), .val (.int p3), .val (.int p4)] [(.ref ba), (.int (0 : Int32))])) rfl rfl (hb hby D18_2.1) _ (by rw [len_of S_ba_1 N_ba_1]; exact k)) ?_
  refine o_icmpN X0 hx hby D18_3 (flt (hz : ¬ ((0 : Int32) < z))).1 ?_
  refine o_iconst X0 hx hby D18_6 (v := 1) rfl ?_
  exact own_ret (v := some (.int (1 : Int32))) X0 (fun h => by first | rfl | (rw [Bd.returns] at h; cases h)) (BodyLoose.notSynchronized Bd) (by decide) (by decide) (⟨rfl, N0, e0⟩) (fun fs hr => retN X0 hx (t := .boolean) Bd.returns (by simp) (hb hby D18_7.1) hr)
theorem D18_8 : own_at method_5_code 8 (.iload_n 1) 1 9 := ⟨by decide +kernel, rfl⟩
theorem D18_9 : own_at method_5_code 9 (.iload_n 2) 1 10 := ⟨by decide +kernel, rfl⟩
theorem D18_10 : own_at method_5_code 10 (.if_icmp .ge 17) 3 13 := ⟨by decide +kernel, rfl⟩
theorem D18_13 : own_at method_5_code 13 (.aload_n 0) 1 14 := ⟨by decide +kernel, rfl⟩
theorem D18_14 : own_at method_5_code 14 (.iload_n 1) 1 15 := ⟨by decide +kernel, rfl⟩
theorem D18_15 : own_at method_5_code 15 (.baload) 1 16 := ⟨by decide +kernel, rfl⟩
theorem D18_16 : own_at method_5_code 16 (.iload_n 3) 1 17 := ⟨by decide +kernel, rfl⟩
theorem D18_17 : own_at method_5_code 17 (.i2b) 1 18 := ⟨by decide +kernel, rfl⟩
theorem D18_18 : own_at method_5_code 18 (.if_icmp .ne 7) 3 21 := ⟨by decide +kernel, rfl⟩
theorem D18_21 : own_at method_5_code 21 (.iconst 1) 1 22 := ⟨by decide +kernel, rfl⟩
theorem D18_22 : own_at method_5_code 22 (.goto 4) 3 25 := ⟨by decide +kernel, rfl⟩
theorem D18_26 : own_at method_5_code 26 (.ireturn) 1 27 := ⟨by decide +kernel, rfl⟩
theorem ef_rm_at0A (m : MethodId) (ba : Addr) (p2 : Int32) (p3 : Int32) (p4 : Int32) : entryFrame m #[(.ref ba), (.int (0 : Int32)), (.int p2), (.int p3), (.int p4)] 5 = mkF m 0 #[.val (.ref ba), .val (.int (0 : Int32)), .val (.int p2), .val (.int p3), .val (.int p4)] [] := by first | (simp [entryFrame, mkF, argsToLocals, Value.category]; done) | rfl
set_option maxRecDepth 65536 in
set_option maxHeartbeats 40000000 in
theorem rm_at0A (l : Launch) (Z : State) (a0 : Array Value) (hw : ∀ d ∈ tables_1, d.before a0 Z = true) (ws : List Jvm.Cond) (ba : Addr) (p2 : Int32) (p3 : Int32) (p4 : Int32) (kd : ClassId) (z : Int32) (ys : List Value) (y : Int32) (h0 : Heap) (n0 : Nat) (Z0 : n0 ≤ h0.size) (Vd : Arv Z h0 ba kd .byte z ys (.int (0 : Int32))) (hz : (0 : Int32) < z) (hy : ys.getD 0 (.int (0 : Int32)) = .int y) (hn : (0 : Int32) < p2) (hq : y = ((p3).toInt8.toInt32)) :
    own_Mt l (⟨"com/example/placer/placer/Utf8AsciiBytesPinLaw", "at", "([BIICB)Z"⟩ : MethodName) method_5_code 5 (some .boolean) ({ frames := 0, cells := 0, slots := 0, locals := 0 } : Room) #[(.ref ba), (.int (0 : Int32)), (.int p2), (.int p3), (.int p4)] Z h0 (own_QP (.int (1 : Int32)) h0 n0) := by
  refine MetFree.of_bodySF (plainFor_of_name pn_com_example_placer_placer_Utf8AsciiBytesPinLaw) hisR ?_
  intro p e s m args below meth c s₁ Bd hml0 hP hK
  obtain ⟨rfl, hZ, hh⟩ := hP
  have hx := Bd.exec
  have hby := Bd.bytes
  have hml : c.maxLocals = 5 := hml0
  have hown : s.vm.findClass "com/example/placer/placer/Utf8AsciiBytesPinLaw" = some m.cls := findClass_of_methodNamed Bd.named
  have hnm := (name_of_methodNamed Bd.named Bd.method).1
  have X0 : Stand p l e ({ frames := 0, cells := 0, slots := 0, locals := 0 } : Room) s m #[(.ref ba), (.int (0 : Int32)), (.int p2), (.int p3), (.int p4)] below meth c s₁ [] 0 0 := Stand.of_body Bd
  have e0 : s₁.heap = h0 := by rw [← hh, Bd.state]; rfl
  have N0 := Fr.nil n0
  refine own_start (ef_rm_at0A m ba p2 p3 p4) ?_
  refine o_iloadN X0 hx hby D18_0 rfl ?_
  refine o_aloadN X0 hx hby D18_1 rfl rfl ?_
  obtain ⟨cl_ba_1, Ar_ba_1, q_ba_1, S_ba_1, N_ba_1, H_ba_1, G_ba_1⟩ := id Vd
  refine own_pre (A' := s₁.setTop (mkF m 3 #[.val (.ref ba), .val (.int (0 : Int32)), .val (.int p2), .val (.int p3), .val (.int p4)] [(.int z), (.int (0 : Int32))])) (fun t k => X0.arraylength hx (by rw [e0]; exact Ar_ba_1.1) (State.isArrayOf_alike hZ.alike Ar_ba_1.2.1) (g := (mkF m 2 #[.val (.ref ba), .val (.int (0 : Int32)), .val (.int p2), .val (.int p3), .val (.int p4)] [(.ref ba), (.int (0 : Int32))])) rfl rfl (hb hby D18_2.1) _ (by rw [len_of S_ba_1 N_ba_1]; exact k)) ?_
  refine o_icmpY X0 hx hby D18_3 (tlt (hz : (0 : Int32) < z)).1 (q := 8) (by decide) (by decide) ?_
  refine o_iloadN X0 hx hby D18_8 rfl ?_
  refine o_iloadN X0 hx hby D18_9 rfl ?_
  refine o_icmpN X0 hx hby D18_10 (tlt (hn : (0 : Int32) < p2)).2.1 ?_
  refine o_aloadN X0 hx hby D18_13 rfl rfl ?_
  refine o_iloadN X0 hx hby D18_14 rfl ?_
  obtain ⟨cl_ba_2, Ar_ba_2, q_ba_2, S_ba_2, N_ba_2, H_ba_2, G_ba_2⟩ := id Vd
  have hin_ba_2 : ¬ ((0 : Int32) < 0 ∨ cl_ba_2.slots.size ≤ ((0 : Int32)).toNatClampNeg) := inb_of S_ba_2 ⟨by decide, hz⟩
  have hat_ba_2 : cl_ba_2.slots[((0 : Int32)).toNatClampNeg]? = some (.int y) := H_ba_2.at hin_ba_2 (hy)
  refine own_pre (A' := s₁.setTop (mkF m 16 #[.val (.ref ba), .val (.int (0 : Int32)), .val (.int p2), .val (.int p3), .val (.int p4)] [(.int y)])) (fun t k => X0.baloadBytes hx (j := (0 : Int32)) (v := (.int y)) (by rw [e0]; exact Ar_ba_2.1) (State.isArrayOf_alike hZ.alike Ar_ba_2.2.1) Ar_ba_2.2.2 hin_ba_2 hat_ba_2 (g := (mkF m 15 #[.val (.ref ba), .val (.int (0 : Int32)), .val (.int p2), .val (.int p3), .val (.int p4)] [(.int (0 : Int32)), (.ref ba)])) rfl rfl (hb hby D18_15.1) _ k) ?_
  refine o_iloadN X0 hx hby D18_16 rfl ?_
  refine o_i2b X0 hx hby D18_17 ?_
  refine o_icmpN X0 hx hby D18_18 (teq (hq : y = ((p3).toInt8.toInt32))).2 ?_
  refine o_iconst X0 hx hby D18_21 (v := 1) rfl ?_
  refine o_goto X0 hx hby D18_22 (q := 26) (by decide) (by decide) ?_
  exact own_ret (v := some (.int (1 : Int32))) X0 (fun h => by first | rfl | (rw [Bd.returns] at h; cases h)) (BodyLoose.notSynchronized Bd) (by decide) (by decide) (⟨rfl, N0, e0⟩) (fun fs hr => retN X0 hx (t := .boolean) Bd.returns (by simp) (hb hby D18_26.1) hr)
theorem D18_27 : own_at method_5_code 27 (.aload_n 0) 1 28 := ⟨by decide +kernel, rfl⟩
theorem D18_28 : own_at method_5_code 28 (.iload_n 1) 1 29 := ⟨by decide +kernel, rfl⟩
theorem D18_29 : own_at method_5_code 29 (.baload) 1 30 := ⟨by decide +kernel, rfl⟩
theorem D18_30 : own_at method_5_code 30 (.iload 4) 2 32 := ⟨by decide +kernel, rfl⟩
theorem D18_32 : own_at method_5_code 32 (.if_icmp .ne 7) 3 35 := ⟨by decide +kernel, rfl⟩
theorem D18_35 : own_at method_5_code 35 (.iconst 1) 1 36 := ⟨by decide +kernel, rfl⟩
theorem D18_36 : own_at method_5_code 36 (.goto 4) 3 39 := ⟨by decide +kernel, rfl⟩
theorem D18_40 : own_at method_5_code 40 (.ireturn) 1 41 := ⟨by decide +kernel, rfl⟩
theorem ef_rm_at0B (m : MethodId) (ba : Addr) (p2 : Int32) (p3 : Int32) (p4 : Int32) : entryFrame m #[(.ref ba), (.int (0 : Int32)), (.int p2), (.int p3), (.int p4)] 5 = mkF m 0 #[.val (.ref ba), .val (.int (0 : Int32)), .val (.int p2), .val (.int p3), .val (.int p4)] [] := by first | (simp [entryFrame, mkF, argsToLocals, Value.category]; done) | rfl
set_option maxRecDepth 65536 in
set_option maxHeartbeats 40000000 in
theorem rm_at0B (l : Launch) (Z : State) (a0 : Array Value) (hw : ∀ d ∈ tables_1, d.before a0 Z = true) (ws : List Jvm.Cond) (ba : Addr) (p2 : Int32) (p3 : Int32) (p4 : Int32) (kd : ClassId) (z : Int32) (ys : List Value) (y : Int32) (h0 : Heap) (n0 : Nat) (Z0 : n0 ≤ h0.size) (Vd : Arv Z h0 ba kd .byte z ys (.int (0 : Int32))) (hz : (0 : Int32) < z) (hy : ys.getD 0 (.int (0 : Int32)) = .int y) (hn : ¬ ((0 : Int32) < p2)) (hq : y = p4) :
    own_Mt l (⟨"com/example/placer/placer/Utf8AsciiBytesPinLaw", "at", "([BIICB)Z"⟩ : MethodName) method_5_code 5 (some .boolean) ({ frames := 0, cells := 0, slots := 0, locals := 0 } : Room) #[(.ref ba), (.int (0 : Int32)), (.int p2), (.int p3), (.int p4)] Z h0 (own_QP (.int (1 : Int32)) h0 n0) := by
  refine MetFree.of_bodySF (plainFor_of_name pn_com_example_placer_placer_Utf8AsciiBytesPinLaw) hisR ?_
  intro p e s m args below meth c s₁ Bd hml0 hP hK
  obtain ⟨rfl, hZ, hh⟩ := hP
  have hx := Bd.exec
  have hby := Bd.bytes
  have hml : c.maxLocals = 5 := hml0
  have hown : s.vm.findClass "com/example/placer/placer/Utf8AsciiBytesPinLaw" = some m.cls := findClass_of_methodNamed Bd.named
  have hnm := (name_of_methodNamed Bd.named Bd.method).1
  have X0 : Stand p l e ({ frames := 0, cells := 0, slots := 0, locals := 0 } : Room) s m #[(.ref ba), (.int (0 : Int32)), (.int p2), (.int p3), (.int p4)] below meth c s₁ [] 0 0 := Stand.of_body Bd
  have e0 : s₁.heap = h0 := by rw [← hh, Bd.state]; rfl
  have N0 := Fr.nil n0
  refine own_start (ef_rm_at0B m ba p2 p3 p4) ?_
  refine o_iloadN X0 hx hby D18_0 rfl ?_
  refine o_aloadN X0 hx hby D18_1 rfl rfl ?_
  obtain ⟨cl_ba_1, Ar_ba_1, q_ba_1, S_ba_1, N_ba_1, H_ba_1, G_ba_1⟩ := id Vd
  refine own_pre (A' := s₁.setTop (mkF m 3 #[.val (.ref ba), .val (.int (0 : Int32)), .val (.int p2), .val (.int p3), .val (.int p4)] [(.int z), (.int (0 : Int32))])) (fun t k => X0.arraylength hx (by rw [e0]; exact Ar_ba_1.1) (State.isArrayOf_alike hZ.alike Ar_ba_1.2.1) (g := (mkF m 2 #[.val (.ref ba), .val (.int (0 : Int32)), .val (.int p2), .val (.int p3), .val (.int p4)] [(.ref ba), (.int (0 : Int32))])) rfl rfl (hb hby D18_2.1) _ (by rw [len_of S_ba_1 N_ba_1]; exact k)) ?_
  refine o_icmpY X0 hx hby D18_3 (tlt (hz : (0 : Int32) < z)).1 (q := 8) (by decide) (by decide) ?_
  refine o_iloadN X0 hx hby D18_8 rfl ?_
  refine o_iloadN X0 hx hby D18_9 rfl ?_
  refine o_icmpY X0 hx hby D18_10 (flt (hn : ¬ ((0 : Int32) < p2))).2.1 (q := 27) (by decide) (by decide) ?_
  refine o_aloadN X0 hx hby D18_27 rfl rfl ?_
  refine o_iloadN X0 hx hby D18_28 rfl ?_
  obtain ⟨cl_ba_2, Ar_ba_2, q_ba_2, S_ba_2, N_ba_2, H_ba_2, G_ba_2⟩ := id Vd
  have hin_ba_2 : ¬ ((0 : Int32) < 0 ∨ cl_ba_2.slots.size ≤ ((0 : Int32)).toNatClampNeg) := inb_of S_ba_2 ⟨by decide, hz⟩
  have hat_ba_2 : cl_ba_2.slots[((0 : Int32)).toNatClampNeg]? = some (.int y) := H_ba_2.at hin_ba_2 (hy)
  refine own_pre (A' := s₁.setTop (mkF m 30 #[.val (.ref ba), .val (.int (0 : Int32)), .val (.int p2), .val (.int p3), .val (.int p4)] [(.int y)])) (fun t k => X0.baloadBytes hx (j := (0 : Int32)) (v := (.int y)) (by rw [e0]; exact Ar_ba_2.1) (State.isArrayOf_alike hZ.alike Ar_ba_2.2.1) Ar_ba_2.2.2 hin_ba_2 hat_ba_2 (g := (mkF m 29 #[.val (.ref ba), .val (.int (0 : Int32)), .val (.int p2), .val (.int p3), .val (.int p4)] [(.int (0 : Int32)), (.ref ba)])) rfl rfl (hb hby D18_29.1) _ k) ?_
  refine o_iload X0 hx hby D18_30 rfl ?_
  refine o_icmpN X0 hx hby D18_32 (teq (hq : y = p4)).2 ?_
  refine o_iconst X0 hx hby D18_35 (v := 1) rfl ?_
  refine o_goto X0 hx hby D18_36 (q := 40) (by decide) (by decide) ?_
  exact own_ret (v := some (.int (1 : Int32))) X0 (fun h => by first | rfl | (rw [Bd.returns] at h; cases h)) (BodyLoose.notSynchronized Bd) (by decide) (by decide) (⟨rfl, N0, e0⟩) (fun fs hr => retN X0 hx (t := .boolean) Bd.returns (by simp) (hb hby D18_40.1) hr)
theorem ef_rm_at1O (m : MethodId) (ba : Addr) (p2 : Int32) (p3 : Int32) (p4 : Int32) : entryFrame m #[(.ref ba), (.int (1 : Int32)), (.int p2), (.int p3), (.int p4)] 5 = mkF m 0 #[.val (.ref ba), .val (.int (1 : Int32)), .val (.int p2), .val (.int p3), .val (.int p4)] [] := by first | (simp [entryFrame, mkF, argsToLocals, Value.category]; done) | rfl
set_option maxRecDepth 65536 in
set_option maxHeartbeats 40000000 in
theorem rm_at1O (l : Launch) (Z : State) (a0 : Array Value) (hw : ∀ d ∈ tables_1, d.before a0 Z = true) (ws : List Jvm.Cond) (ba : Addr) (p2 : Int32) (p3 : Int32) (p4 : Int32) (kd : ClassId) (z : Int32) (ys : List Value) (y : Int32) (h0 : Heap) (n0 : Nat) (Z0 : n0 ≤ h0.size) (Vd : Arv Z h0 ba kd .byte z ys (.int (0 : Int32))) (hz : ¬ ((1 : Int32) < z)) :
    own_Mt l (⟨"com/example/placer/placer/Utf8AsciiBytesPinLaw", "at", "([BIICB)Z"⟩ : MethodName) method_5_code 5 (some .boolean) ({ frames := 0, cells := 0, slots := 0, locals := 0 } : Room) #[(.ref ba), (.int (1 : Int32)), (.int p2), (.int p3), (.int p4)] Z h0 (own_QP (.int (1 : Int32)) h0 n0) := by
  refine MetFree.of_bodySF (plainFor_of_name pn_com_example_placer_placer_Utf8AsciiBytesPinLaw) hisR ?_
  intro p e s m args below meth c s₁ Bd hml0 hP hK
  obtain ⟨rfl, hZ, hh⟩ := hP
  have hx := Bd.exec
  have hby := Bd.bytes
  have hml : c.maxLocals = 5 := hml0
  have hown : s.vm.findClass "com/example/placer/placer/Utf8AsciiBytesPinLaw" = some m.cls := findClass_of_methodNamed Bd.named
  have hnm := (name_of_methodNamed Bd.named Bd.method).1
  have X0 : Stand p l e ({ frames := 0, cells := 0, slots := 0, locals := 0 } : Room) s m #[(.ref ba), (.int (1 : Int32)), (.int p2), (.int p3), (.int p4)] below meth c s₁ [] 0 0 := Stand.of_body Bd
  have e0 : s₁.heap = h0 := by rw [← hh, Bd.state]; rfl
  have N0 := Fr.nil n0
  refine own_start (ef_rm_at1O m ba p2 p3 p4) ?_
  refine o_iloadN X0 hx hby D18_0 rfl ?_
  refine o_aloadN X0 hx hby D18_1 rfl rfl ?_
  obtain ⟨cl_ba_1, Ar_ba_1, q_ba_1, S_ba_1, N_ba_1, H_ba_1, G_ba_1⟩ := id Vd
  refine own_pre (A' := s₁.setTop (mkF m 3 #[.val (.ref ba), .val (.int (1 : Int32)), .val (.int p2), .val (.int p3), .val (.int p4)] [(.int z), (.int (1 : Int32))])) (fun t k => X0.arraylength hx (by rw [e0]; exact Ar_ba_1.1) (State.isArrayOf_alike hZ.alike Ar_ba_1.2.1) (g := (mkF m 2 #[.val (.ref ba), .val (.int (1 : Int32)), .val (.int p2), .val (.int p3), .val (.int p4)] [(.ref ba), (.int (1 : Int32))])) rfl rfl (hb hby D18_2.1) _ (by rw [len_of S_ba_1 N_ba_1]; exact k)) ?_
  refine o_icmpN X0 hx hby D18_3 (flt (hz : ¬ ((1 : Int32) < z))).1 ?_
  refine o_iconst X0 hx hby D18_6 (v := 1) rfl ?_
  exact own_ret (v := some (.int (1 : Int32))) X0 (fun h => by first | rfl | (rw [Bd.returns] at h; cases h)) (BodyLoose.notSynchronized Bd) (by decide) (by decide) (⟨rfl, N0, e0⟩) (fun fs hr => retN X0 hx (t := .boolean) Bd.returns (by simp) (hb hby D18_7.1) hr)
theorem ef_rm_at1A (m : MethodId) (ba : Addr) (p2 : Int32) (p3 : Int32) (p4 : Int32) : entryFrame m #[(.ref ba), (.int (1 : Int32)), (.int p2), (.int p3), (.int p4)] 5 = mkF m 0 #[.val (.ref ba), .val (.int (1 : Int32)), .val (.int p2), .val (.int p3), .val (.int p4)] [] := by first | (simp [entryFrame, mkF, argsToLocals, Value.category]; done) | rfl
set_option maxRecDepth 65536 in
set_option maxHeartbeats 40000000 in
theorem rm_at1A (l : Launch) (Z : State) (a0 : Array Value) (hw : ∀ d ∈ tables_1, d.before a0 Z = true) (ws : List Jvm.Cond) (ba : Addr) (p2 : Int32) (p3 : Int32) (p4 : Int32) (kd : ClassId) (z : Int32) (ys : List Value) (y : Int32) (h0 : Heap) (n0 : Nat) (Z0 : n0 ≤ h0.size) (Vd : Arv Z h0 ba kd .byte z ys (.int (0 : Int32))) (hz : (1 : Int32) < z) (hy : ys.getD 1 (.int (0 : Int32)) = .int y) (hn : (1 : Int32) < p2) (hq : y = ((p3).toInt8.toInt32)) :
    own_Mt l (⟨"com/example/placer/placer/Utf8AsciiBytesPinLaw", "at", "([BIICB)Z"⟩ : MethodName) method_5_code 5 (some .boolean) ({ frames := 0, cells := 0, slots := 0, locals := 0 } : Room) #[(.ref ba), (.int (1 : Int32)), (.int p2), (.int p3), (.int p4)] Z h0 (own_QP (.int (1 : Int32)) h0 n0) := by
  refine MetFree.of_bodySF (plainFor_of_name pn_com_example_placer_placer_Utf8AsciiBytesPinLaw) hisR ?_
  intro p e s m args below meth c s₁ Bd hml0 hP hK
  obtain ⟨rfl, hZ, hh⟩ := hP
  have hx := Bd.exec
  have hby := Bd.bytes
  have hml : c.maxLocals = 5 := hml0
  have hown : s.vm.findClass "com/example/placer/placer/Utf8AsciiBytesPinLaw" = some m.cls := findClass_of_methodNamed Bd.named
  have hnm := (name_of_methodNamed Bd.named Bd.method).1
  have X0 : Stand p l e ({ frames := 0, cells := 0, slots := 0, locals := 0 } : Room) s m #[(.ref ba), (.int (1 : Int32)), (.int p2), (.int p3), (.int p4)] below meth c s₁ [] 0 0 := Stand.of_body Bd
  have e0 : s₁.heap = h0 := by rw [← hh, Bd.state]; rfl
  have N0 := Fr.nil n0
  refine own_start (ef_rm_at1A m ba p2 p3 p4) ?_
  refine o_iloadN X0 hx hby D18_0 rfl ?_
  refine o_aloadN X0 hx hby D18_1 rfl rfl ?_
  obtain ⟨cl_ba_1, Ar_ba_1, q_ba_1, S_ba_1, N_ba_1, H_ba_1, G_ba_1⟩ := id Vd
  refine own_pre (A' := s₁.setTop (mkF m 3 #[.val (.ref ba), .val (.int (1 : Int32)), .val (.int p2), .val (.int p3), .val (.int p4)] [(.int z), (.int (1 : Int32))])) (fun t k => X0.arraylength hx (by rw [e0]; exact Ar_ba_1.1) (State.isArrayOf_alike hZ.alike Ar_ba_1.2.1) (g := (mkF m 2 #[.val (.ref ba), .val (.int (1 : Int32)), .val (.int p2), .val (.int p3), .val (.int p4)] [(.ref ba), (.int (1 : Int32))])) rfl rfl (hb hby D18_2.1) _ (by rw [len_of S_ba_1 N_ba_1]; exact k)) ?_
  refine o_icmpY X0 hx hby D18_3 (tlt (hz : (1 : Int32) < z)).1 (q := 8) (by decide) (by decide) ?_
  refine o_iloadN X0 hx hby D18_8 rfl ?_
  refine o_iloadN X0 hx hby D18_9 rfl ?_
  refine o_icmpN X0 hx hby D18_10 (tlt (hn : (1 : Int32) < p2)).2.1 ?_
  refine o_aloadN X0 hx hby D18_13 rfl rfl ?_
  refine o_iloadN X0 hx hby D18_14 rfl ?_
  obtain ⟨cl_ba_2, Ar_ba_2, q_ba_2, S_ba_2, N_ba_2, H_ba_2, G_ba_2⟩ := id Vd
  have hin_ba_2 : ¬ ((1 : Int32) < 0 ∨ cl_ba_2.slots.size ≤ ((1 : Int32)).toNatClampNeg) := inb_of S_ba_2 ⟨by decide, hz⟩
  have hat_ba_2 : cl_ba_2.slots[((1 : Int32)).toNatClampNeg]? = some (.int y) := H_ba_2.at hin_ba_2 (hy)
  refine own_pre (A' := s₁.setTop (mkF m 16 #[.val (.ref ba), .val (.int (1 : Int32)), .val (.int p2), .val (.int p3), .val (.int p4)] [(.int y)])) (fun t k => X0.baloadBytes hx (j := (1 : Int32)) (v := (.int y)) (by rw [e0]; exact Ar_ba_2.1) (State.isArrayOf_alike hZ.alike Ar_ba_2.2.1) Ar_ba_2.2.2 hin_ba_2 hat_ba_2 (g := (mkF m 15 #[.val (.ref ba), .val (.int (1 : Int32)), .val (.int p2), .val (.int p3), .val (.int p4)] [(.int (1 : Int32)), (.ref ba)])) rfl rfl (hb hby D18_15.1) _ k) ?_
  refine o_iloadN X0 hx hby D18_16 rfl ?_
  refine o_i2b X0 hx hby D18_17 ?_
  refine o_icmpN X0 hx hby D18_18 (teq (hq : y = ((p3).toInt8.toInt32))).2 ?_
  refine o_iconst X0 hx hby D18_21 (v := 1) rfl ?_
  refine o_goto X0 hx hby D18_22 (q := 26) (by decide) (by decide) ?_
  exact own_ret (v := some (.int (1 : Int32))) X0 (fun h => by first | rfl | (rw [Bd.returns] at h; cases h)) (BodyLoose.notSynchronized Bd) (by decide) (by decide) (⟨rfl, N0, e0⟩) (fun fs hr => retN X0 hx (t := .boolean) Bd.returns (by simp) (hb hby D18_26.1) hr)
theorem ef_rm_at1B (m : MethodId) (ba : Addr) (p2 : Int32) (p3 : Int32) (p4 : Int32) : entryFrame m #[(.ref ba), (.int (1 : Int32)), (.int p2), (.int p3), (.int p4)] 5 = mkF m 0 #[.val (.ref ba), .val (.int (1 : Int32)), .val (.int p2), .val (.int p3), .val (.int p4)] [] := by first | (simp [entryFrame, mkF, argsToLocals, Value.category]; done) | rfl
set_option maxRecDepth 65536 in
set_option maxHeartbeats 40000000 in
theorem rm_at1B (l : Launch) (Z : State) (a0 : Array Value) (hw : ∀ d ∈ tables_1, d.before a0 Z = true) (ws : List Jvm.Cond) (ba : Addr) (p2 : Int32) (p3 : Int32) (p4 : Int32) (kd : ClassId) (z : Int32) (ys : List Value) (y : Int32) (h0 : Heap) (n0 : Nat) (Z0 : n0 ≤ h0.size) (Vd : Arv Z h0 ba kd .byte z ys (.int (0 : Int32))) (hz : (1 : Int32) < z) (hy : ys.getD 1 (.int (0 : Int32)) = .int y) (hn : ¬ ((1 : Int32) < p2)) (hq : y = p4) :
    own_Mt l (⟨"com/example/placer/placer/Utf8AsciiBytesPinLaw", "at", "([BIICB)Z"⟩ : MethodName) method_5_code 5 (some .boolean) ({ frames := 0, cells := 0, slots := 0, locals := 0 } : Room) #[(.ref ba), (.int (1 : Int32)), (.int p2), (.int p3), (.int p4)] Z h0 (own_QP (.int (1 : Int32)) h0 n0) := by
  refine MetFree.of_bodySF (plainFor_of_name pn_com_example_placer_placer_Utf8AsciiBytesPinLaw) hisR ?_
  intro p e s m args below meth c s₁ Bd hml0 hP hK
  obtain ⟨rfl, hZ, hh⟩ := hP
  have hx := Bd.exec
  have hby := Bd.bytes
  have hml : c.maxLocals = 5 := hml0
  have hown : s.vm.findClass "com/example/placer/placer/Utf8AsciiBytesPinLaw" = some m.cls := findClass_of_methodNamed Bd.named
  have hnm := (name_of_methodNamed Bd.named Bd.method).1
  have X0 : Stand p l e ({ frames := 0, cells := 0, slots := 0, locals := 0 } : Room) s m #[(.ref ba), (.int (1 : Int32)), (.int p2), (.int p3), (.int p4)] below meth c s₁ [] 0 0 := Stand.of_body Bd
  have e0 : s₁.heap = h0 := by rw [← hh, Bd.state]; rfl
  have N0 := Fr.nil n0
  refine own_start (ef_rm_at1B m ba p2 p3 p4) ?_
  refine o_iloadN X0 hx hby D18_0 rfl ?_
  refine o_aloadN X0 hx hby D18_1 rfl rfl ?_
  obtain ⟨cl_ba_1, Ar_ba_1, q_ba_1, S_ba_1, N_ba_1, H_ba_1, G_ba_1⟩ := id Vd
  refine own_pre (A' := s₁.setTop (mkF m 3 #[.val (.ref ba), .val (.int (1 : Int32)), .val (.int p2), .val (.int p3), .val (.int p4)] [(.int z), (.int (1 : Int32))])) (fun t k => X0.arraylength hx (by rw [e0]; exact Ar_ba_1.1) (State.isArrayOf_alike hZ.alike Ar_ba_1.2.1) (g := (mkF m 2 #[.val (.ref ba), .val (.int (1 : Int32)), .val (.int p2), .val (.int p3), .val (.int p4)] [(.ref ba), (.int (1 : Int32))])) rfl rfl (hb hby D18_2.1) _ (by rw [len_of S_ba_1 N_ba_1]; exact k)) ?_
  refine o_icmpY X0 hx hby D18_3 (tlt (hz : (1 : Int32) < z)).1 (q := 8) (by decide) (by decide) ?_
  refine o_iloadN X0 hx hby D18_8 rfl ?_
  refine o_iloadN X0 hx hby D18_9 rfl ?_
  refine o_icmpY X0 hx hby D18_10 (flt (hn : ¬ ((1 : Int32) < p2))).2.1 (q := 27) (by decide) (by decide) ?_
  refine o_aloadN X0 hx hby D18_27 rfl rfl ?_
  refine o_iloadN X0 hx hby D18_28 rfl ?_
  obtain ⟨cl_ba_2, Ar_ba_2, q_ba_2, S_ba_2, N_ba_2, H_ba_2, G_ba_2⟩ := id Vd
  have hin_ba_2 : ¬ ((1 : Int32) < 0 ∨ cl_ba_2.slots.size ≤ ((1 : Int32)).toNatClampNeg) := inb_of S_ba_2 ⟨by decide, hz⟩
  have hat_ba_2 : cl_ba_2.slots[((1 : Int32)).toNatClampNeg]? = some (.int y) := H_ba_2.at hin_ba_2 (hy)
  refine own_pre (A' := s₁.setTop (mkF m 30 #[.val (.ref ba), .val (.int (1 : Int32)), .val (.int p2), .val (.int p3), .val (.int p4)] [(.int y)])) (fun t k => X0.baloadBytes hx (j := (1 : Int32)) (v := (.int y)) (by rw [e0]; exact Ar_ba_2.1) (State.isArrayOf_alike hZ.alike Ar_ba_2.2.1) Ar_ba_2.2.2 hin_ba_2 hat_ba_2 (g := (mkF m 29 #[.val (.ref ba), .val (.int (1 : Int32)), .val (.int p2), .val (.int p3), .val (.int p4)] [(.int (1 : Int32)), (.ref ba)])) rfl rfl (hb hby D18_29.1) _ k) ?_
  refine o_iload X0 hx hby D18_30 rfl ?_
  refine o_icmpN X0 hx hby D18_32 (teq (hq : y = p4)).2 ?_
  refine o_iconst X0 hx hby D18_35 (v := 1) rfl ?_
  refine o_goto X0 hx hby D18_36 (q := 40) (by decide) (by decide) ?_
  exact own_ret (v := some (.int (1 : Int32))) X0 (fun h => by first | rfl | (rw [Bd.returns] at h; cases h)) (BodyLoose.notSynchronized Bd) (by decide) (by decide) (⟨rfl, N0, e0⟩) (fun fs hr => retN X0 hx (t := .boolean) Bd.returns (by simp) (hb hby D18_40.1) hr)
theorem ef_rm_at2O (m : MethodId) (ba : Addr) (p2 : Int32) (p3 : Int32) (p4 : Int32) : entryFrame m #[(.ref ba), (.int (2 : Int32)), (.int p2), (.int p3), (.int p4)] 5 = mkF m 0 #[.val (.ref ba), .val (.int (2 : Int32)), .val (.int p2), .val (.int p3), .val (.int p4)] [] := by first | (simp [entryFrame, mkF, argsToLocals, Value.category]; done) | rfl
set_option maxRecDepth 65536 in
set_option maxHeartbeats 40000000 in
theorem rm_at2O (l : Launch) (Z : State) (a0 : Array Value) (hw : ∀ d ∈ tables_1, d.before a0 Z = true) (ws : List Jvm.Cond) (ba : Addr) (p2 : Int32) (p3 : Int32) (p4 : Int32) (kd : ClassId) (z : Int32) (ys : List Value) (y : Int32) (h0 : Heap) (n0 : Nat) (Z0 : n0 ≤ h0.size) (Vd : Arv Z h0 ba kd .byte z ys (.int (0 : Int32))) (hz : ¬ ((2 : Int32) < z)) :
    own_Mt l (⟨"com/example/placer/placer/Utf8AsciiBytesPinLaw", "at", "([BIICB)Z"⟩ : MethodName) method_5_code 5 (some .boolean) ({ frames := 0, cells := 0, slots := 0, locals := 0 } : Room) #[(.ref ba), (.int (2 : Int32)), (.int p2), (.int p3), (.int p4)] Z h0 (own_QP (.int (1 : Int32)) h0 n0) := by
  refine MetFree.of_bodySF (plainFor_of_name pn_com_example_placer_placer_Utf8AsciiBytesPinLaw) hisR ?_
  intro p e s m args below meth c s₁ Bd hml0 hP hK
  obtain ⟨rfl, hZ, hh⟩ := hP
  have hx := Bd.exec
  have hby := Bd.bytes
  have hml : c.maxLocals = 5 := hml0
  have hown : s.vm.findClass "com/example/placer/placer/Utf8AsciiBytesPinLaw" = some m.cls := findClass_of_methodNamed Bd.named
  have hnm := (name_of_methodNamed Bd.named Bd.method).1
  have X0 : Stand p l e ({ frames := 0, cells := 0, slots := 0, locals := 0 } : Room) s m #[(.ref ba), (.int (2 : Int32)), (.int p2), (.int p3), (.int p4)] below meth c s₁ [] 0 0 := Stand.of_body Bd
  have e0 : s₁.heap = h0 := by rw [← hh, Bd.state]; rfl
  have N0 := Fr.nil n0
  refine own_start (ef_rm_at2O m ba p2 p3 p4) ?_
  refine o_iloadN X0 hx hby D18_0 rfl ?_
  refine o_aloadN X0 hx hby D18_1 rfl rfl ?_
  obtain ⟨cl_ba_1, Ar_ba_1, q_ba_1, S_ba_1, N_ba_1, H_ba_1, G_ba_1⟩ := id Vd
  refine own_pre (A' := s₁.setTop (mkF m 3 #[.val (.ref ba), .val (.int (2 : Int32)), .val (.int p2), .val (.int p3), .val (.int p4)] [(.int z), (.int (2 : Int32))])) (fun t k => X0.arraylength hx (by rw [e0]; exact Ar_ba_1.1) (State.isArrayOf_alike hZ.alike Ar_ba_1.2.1) (g := (mkF m 2 #[.val (.ref ba), .val (.int (2 : Int32)), .val (.int p2), .val (.int p3), .val (.int p4)] [(.ref ba), (.int (2 : Int32))])) rfl rfl (hb hby D18_2.1) _ (by rw [len_of S_ba_1 N_ba_1]; exact k)) ?_
  refine o_icmpN X0 hx hby D18_3 (flt (hz : ¬ ((2 : Int32) < z))).1 ?_
  refine o_iconst X0 hx hby D18_6 (v := 1) rfl ?_
  exact own_ret (v := some (.int (1 : Int32))) X0 (fun h => by first | rfl | (rw [Bd.returns] at h; cases h)) (BodyLoose.notSynchronized Bd) (by decide) (by decide) (⟨rfl, N0, e0⟩) (fun fs hr => retN X0 hx (t := .boolean) Bd.returns (by simp) (hb hby D18_7.1) hr)
theorem ef_rm_at2A (m : MethodId) (ba : Addr) (p2 : Int32) (p3 : Int32) (p4 : Int32) : entryFrame m #[(.ref ba), (.int (2 : Int32)), (.int p2), (.int p3), (.int p4)] 5 = mkF m 0 #[.val (.ref ba), .val (.int (2 : Int32)), .val (.int p2), .val (.int p3), .val (.int p4)] [] := by first | (simp [entryFrame, mkF, argsToLocals, Value.category]; done) | rfl
set_option maxRecDepth 65536 in
set_option maxHeartbeats 40000000 in
theorem rm_at2A (l : Launch) (Z : State) (a0 : Array Value) (hw : ∀ d ∈ tables_1, d.before a0 Z = true) (ws : List Jvm.Cond) (ba : Addr) (p2 : Int32) (p3 : Int32) (p4 : Int32) (kd : ClassId) (z : Int32) (ys : List Value) (y : Int32) (h0 : Heap) (n0 : Nat) (Z0 : n0 ≤ h0.size) (Vd : Arv Z h0 ba kd .byte z ys (.int (0 : Int32))) (hz : (2 : Int32) < z) (hy : ys.getD 2 (.int (0 : Int32)) = .int y) (hn : (2 : Int32) < p2) (hq : y = ((p3).toInt8.toInt32)) :
    own_Mt l (⟨"com/example/placer/placer/Utf8AsciiBytesPinLaw", "at", "([BIICB)Z"⟩ : MethodName) method_5_code 5 (some .boolean) ({ frames := 0, cells := 0, slots := 0, locals := 0 } : Room) #[(.ref ba), (.int (2 : Int32)), (.int p2), (.int p3), (.int p4)] Z h0 (own_QP (.int (1 : Int32)) h0 n0) := by
  refine MetFree.of_bodySF (plainFor_of_name pn_com_example_placer_placer_Utf8AsciiBytesPinLaw) hisR ?_
  intro p e s m args below meth c s₁ Bd hml0 hP hK
  obtain ⟨rfl, hZ, hh⟩ := hP
  have hx := Bd.exec
  have hby := Bd.bytes
  have hml : c.maxLocals = 5 := hml0
  have hown : s.vm.findClass "com/example/placer/placer/Utf8AsciiBytesPinLaw" = some m.cls := findClass_of_methodNamed Bd.named
  have hnm := (name_of_methodNamed Bd.named Bd.method).1
  have X0 : Stand p l e ({ frames := 0, cells := 0, slots := 0, locals := 0 } : Room) s m #[(.ref ba), (.int (2 : Int32)), (.int p2), (.int p3), (.int p4)] below meth c s₁ [] 0 0 := Stand.of_body Bd
  have e0 : s₁.heap = h0 := by rw [← hh, Bd.state]; rfl
  have N0 := Fr.nil n0
  refine own_start (ef_rm_at2A m ba p2 p3 p4) ?_
  refine o_iloadN X0 hx hby D18_0 rfl ?_
  refine o_aloadN X0 hx hby D18_1 rfl rfl ?_
  obtain ⟨cl_ba_1, Ar_ba_1, q_ba_1, S_ba_1, N_ba_1, H_ba_1, G_ba_1⟩ := id Vd
  refine own_pre (A' := s₁.setTop (mkF m 3 #[.val (.ref ba), .val (.int (2 : Int32)), .val (.int p2), .val (.int p3), .val (.int p4)] [(.int z), (.int (2 : Int32))])) (fun t k => X0.arraylength hx (by rw [e0]; exact Ar_ba_1.1) (State.isArrayOf_alike hZ.alike Ar_ba_1.2.1) (g := (mkF m 2 #[.val (.ref ba), .val (.int (2 : Int32)), .val (.int p2), .val (.int p3), .val (.int p4)] [(.ref ba), (.int (2 : Int32))])) rfl rfl (hb hby D18_2.1) _ (by rw [len_of S_ba_1 N_ba_1]; exact k)) ?_
  refine o_icmpY X0 hx hby D18_3 (tlt (hz : (2 : Int32) < z)).1 (q := 8) (by decide) (by decide) ?_
  refine o_iloadN X0 hx hby D18_8 rfl ?_
  refine o_iloadN X0 hx hby D18_9 rfl ?_
  refine o_icmpN X0 hx hby D18_10 (tlt (hn : (2 : Int32) < p2)).2.1 ?_
  refine o_aloadN X0 hx hby D18_13 rfl rfl ?_
  refine o_iloadN X0 hx hby D18_14 rfl ?_
  obtain ⟨cl_ba_2, Ar_ba_2, q_ba_2, S_ba_2, N_ba_2, H_ba_2, G_ba_2⟩ := id Vd
  have hin_ba_2 : ¬ ((2 : Int32) < 0 ∨ cl_ba_2.slots.size ≤ ((2 : Int32)).toNatClampNeg) := inb_of S_ba_2 ⟨by decide, hz⟩
  have hat_ba_2 : cl_ba_2.slots[((2 : Int32)).toNatClampNeg]? = some (.int y) := H_ba_2.at hin_ba_2 (hy)
  refine own_pre (A' := s₁.setTop (mkF m 16 #[.val (.ref ba), .val (.int (2 : Int32)), .val (.int p2), .val (.int p3), .val (.int p4)] [(.int y)])) (fun t k => X0.baloadBytes hx (j := (2 : Int32)) (v := (.int y)) (by rw [e0]; exact Ar_ba_2.1) (State.isArrayOf_alike hZ.alike Ar_ba_2.2.1) Ar_ba_2.2.2 hin_ba_2 hat_ba_2 (g := (mkF m 15 #[.val (.ref ba), .val (.int (2 : Int32)), .val (.int p2), .val (.int p3), .val (.int p4)] [(.int (2 : Int32)), (.ref ba)])) rfl rfl (hb hby D18_15.1) _ k) ?_
  refine o_iloadN X0 hx hby D18_16 rfl ?_
  refine o_i2b X0 hx hby D18_17 ?_
  refine o_icmpN X0 hx hby D18_18 (teq (hq : y = ((p3).toInt8.toInt32))).2 ?_
  refine o_iconst X0 hx hby D18_21 (v := 1) rfl ?_
  refine o_goto X0 hx hby D18_22 (q := 26) (by decide) (by decide) ?_
  exact own_ret (v := some (.int (1 : Int32))) X0 (fun h => by first | rfl | (rw [Bd.returns] at h; cases h)) (BodyLoose.notSynchronized Bd) (by decide) (by decide) (⟨rfl, N0, e0⟩) (fun fs hr => retN X0 hx (t := .boolean) Bd.returns (by simp) (hb hby D18_26.1) hr)
theorem ef_rm_at2B (m : MethodId) (ba : Addr) (p2 : Int32) (p3 : Int32) (p4 : Int32) : entryFrame m #[(.ref ba), (.int (2 : Int32)), (.int p2), (.int p3), (.int p4)] 5 = mkF m 0 #[.val (.ref ba), .val (.int (2 : Int32)), .val (.int p2), .val (.int p3), .val (.int p4)] [] := by first | (simp [entryFrame, mkF, argsToLocals, Value.category]; done) | rfl
set_option maxRecDepth 65536 in
set_option maxHeartbeats 40000000 in
theorem rm_at2B (l : Launch) (Z : State) (a0 : Array Value) (hw : ∀ d ∈ tables_1, d.before a0 Z = true) (ws : List Jvm.Cond) (ba : Addr) (p2 : Int32) (p3 : Int32) (p4 : Int32) (kd : ClassId) (z : Int32) (ys : List Value) (y : Int32) (h0 : Heap) (n0 : Nat) (Z0 : n0 ≤ h0.size) (Vd : Arv Z h0 ba kd .byte z ys (.int (0 : Int32))) (hz : (2 : Int32) < z) (hy : ys.getD 2 (.int (0 : Int32)) = .int y) (hn : ¬ ((2 : Int32) < p2)) (hq : y = p4) :
    own_Mt l (⟨"com/example/placer/placer/Utf8AsciiBytesPinLaw", "at", "([BIICB)Z"⟩ : MethodName) method_5_code 5 (some .boolean) ({ frames := 0, cells := 0, slots := 0, locals := 0 } : Room) #[(.ref ba), (.int (2 : Int32)), (.int p2), (.int p3), (.int p4)] Z h0 (own_QP (.int (1 : Int32)) h0 n0) := by
  refine MetFree.of_bodySF (plainFor_of_name pn_com_example_placer_placer_Utf8AsciiBytesPinLaw) hisR ?_
  intro p e s m args below meth c s₁ Bd hml0 hP hK
  obtain ⟨rfl, hZ, hh⟩ := hP
  have hx := Bd.exec
  have hby := Bd.bytes
  have hml : c.maxLocals = 5 := hml0
  have hown : s.vm.findClass "com/example/placer/placer/Utf8AsciiBytesPinLaw" = some m.cls := findClass_of_methodNamed Bd.named
  have hnm := (name_of_methodNamed Bd.named Bd.method).1
  have X0 : Stand p l e ({ frames := 0, cells := 0, slots := 0, locals := 0 } : Room) s m #[(.ref ba), (.int (2 : Int32)), (.int p2), (.int p3), (.int p4)] below meth c s₁ [] 0 0 := Stand.of_body Bd
  have e0 : s₁.heap = h0 := by rw [← hh, Bd.state]; rfl
  have N0 := Fr.nil n0
  refine own_start (ef_rm_at2B m ba p2 p3 p4) ?_
  refine o_iloadN X0 hx hby D18_0 rfl ?_
  refine o_aloadN X0 hx hby D18_1 rfl rfl ?_
  obtain ⟨cl_ba_1, Ar_ba_1, q_ba_1, S_ba_1, N_ba_1, H_ba_1, G_ba_1⟩ := id Vd
  refine own_pre (A' := s₁.setTop (mkF m 3 #[.val (.ref ba), .val (.int (2 : Int32)), .val (.int p2), .val (.int p3), .val (.int p4)] [(.int z), (.int (2 : Int32))])) (fun t k => X0.arraylength hx (by rw [e0]; exact Ar_ba_1.1) (State.isArrayOf_alike hZ.alike Ar_ba_1.2.1) (g := (mkF m 2 #[.val (.ref ba), .val (.int (2 : Int32)), .val (.int p2), .val (.int p3), .val (.int p4)] [(.ref ba), (.int (2 : Int32))])) rfl rfl (hb hby D18_2.1) _ (by rw [len_of S_ba_1 N_ba_1]; exact k)) ?_
  refine o_icmpY X0 hx hby D18_3 (tlt (hz : (2 : Int32) < z)).1 (q := 8) (by decide) (by decide) ?_
  refine o_iloadN X0 hx hby D18_8 rfl ?_
  refine o_iloadN X0 hx hby D18_9 rfl ?_
  refine o_icmpY X0 hx hby D18_10 (flt (hn : ¬ ((2 : Int32) < p2))).2.1 (q := 27) (by decide) (by decide) ?_
  refine o_aloadN X0 hx hby D18_27 rfl rfl ?_
  refine o_iloadN X0 hx hby D18_28 rfl ?_
  obtain ⟨cl_ba_2, Ar_ba_2, q_ba_2, S_ba_2, N_ba_2, H_ba_2, G_ba_2⟩ := id Vd
  have hin_ba_2 : ¬ ((2 : Int32) < 0 ∨ cl_ba_2.slots.size ≤ ((2 : Int32)).toNatClampNeg) := inb_of S_ba_2 ⟨by decide, hz⟩
  have hat_ba_2 : cl_ba_2.slots[((2 : Int32)).toNatClampNeg]? = some (.int y) := H_ba_2.at hin_ba_2 (hy)
  refine own_pre (A' := s₁.setTop (mkF m 30 #[.val (.ref ba), .val (.int (2 : Int32)), .val (.int p2), .val (.int p3), .val (.int p4)] [(.int y)])) (fun t k => X0.baloadBytes hx (j := (2 : Int32)) (v := (.int y)) (by rw [e0]; exact Ar_ba_2.1) (State.isArrayOf_alike hZ.alike Ar_ba_2.2.1) Ar_ba_2.2.2 hin_ba_2 hat_ba_2 (g := (mkF m 29 #[.val (.ref ba), .val (.int (2 : Int32)), .val (.int p2), .val (.int p3), .val (.int p4)] [(.int (2 : Int32)), (.ref ba)])) rfl rfl (hb hby D18_29.1) _ k) ?_
  refine o_iload X0 hx hby D18_30 rfl ?_
  refine o_icmpN X0 hx hby D18_32 (teq (hq : y = p4)).2 ?_
  refine o_iconst X0 hx hby D18_35 (v := 1) rfl ?_
  refine o_goto X0 hx hby D18_36 (q := 40) (by decide) (by decide) ?_
  exact own_ret (v := some (.int (1 : Int32))) X0 (fun h => by first | rfl | (rw [Bd.returns] at h; cases h)) (BodyLoose.notSynchronized Bd) (by decide) (by decide) (⟨rfl, N0, e0⟩) (fun fs hr => retN X0 hx (t := .boolean) Bd.returns (by simp) (hb hby D18_40.1) hr)
theorem pd__40ICCC_41Ljava_47lang_47String_59 : parseMethodDescriptor "(ICCC)Ljava/lang/String;" = some ⟨[.int, .char, .char, .char], some (.object "java/lang/String")⟩ := by decide +kernel
theorem pd__40Ljava_47lang_47String_59_91B_41I : parseMethodDescriptor "(Ljava/lang/String;[B)I" = some ⟨[(.object "java/lang/String"), (.array .byte)], some .int⟩ := by decide +kernel
theorem pd__40_91BIICB_41Z : parseMethodDescriptor "([BIICB)Z" = some ⟨[(.array .byte), .int, .int, .char, .byte], some .boolean⟩ := by decide +kernel
theorem D0_0 : own_at code 0 (.iload_n 0) 1 1 := ⟨at_0, rfl⟩
theorem D0_1 : own_at code 1 (.invokestatic 13) 3 4 := ⟨at_1, rfl⟩
theorem D0_4 : own_at code 4 (.istore 5) 2 6 := ⟨at_4, rfl⟩
theorem D0_6 : own_at code 6 (.iload_n 1) 1 7 := ⟨at_6, rfl⟩
theorem D0_7 : own_at code 7 (.invokestatic 13) 3 10 := ⟨at_7, rfl⟩
theorem D0_10 : own_at code 10 (.istore 6) 2 12 := ⟨at_10, rfl⟩
theorem D0_12 : own_at code 12 (.iload_n 2) 1 13 := ⟨at_12, rfl⟩
theorem D0_13 : own_at code 13 (.invokestatic 13) 3 16 := ⟨at_13, rfl⟩
theorem D0_16 : own_at code 16 (.istore 7) 2 18 := ⟨at_16, rfl⟩
theorem D0_18 : own_at code 18 (.iload_n 3) 1 19 := ⟨at_18, rfl⟩
theorem D0_19 : own_at code 19 (.iconst 3) 1 20 := ⟨at_19, rfl⟩
theorem D0_20 : own_at code 20 (.iand) 1 21 := ⟨at_20, rfl⟩
theorem D0_21 : own_at code 21 (.istore 8) 2 23 := ⟨at_21, rfl⟩
theorem D0_23 : own_at code 23 (.iload_n 3) 1 24 := ⟨at_23, rfl⟩
theorem D0_24 : own_at code 24 (.iconst 2) 1 25 := ⟨at_24, rfl⟩
theorem D0_25 : own_at code 25 (.iushr) 1 26 := ⟨at_25, rfl⟩
theorem D0_26 : own_at code 26 (.iconst 3) 1 27 := ⟨at_26, rfl⟩
theorem D0_27 : own_at code 27 (.iand) 1 28 := ⟨at_27, rfl⟩
theorem D0_28 : own_at code 28 (.istore 9) 2 30 := ⟨at_28, rfl⟩
theorem D0_30 : own_at code 30 (.iload 8) 2 32 := ⟨at_30, rfl⟩
theorem D0_32 : own_at code 32 (.iload 5) 2 34 := ⟨at_32, rfl⟩
theorem D0_34 : own_at code 34 (.iload 6) 2 36 := ⟨at_34, rfl⟩
theorem D0_36 : own_at code 36 (.iload 7) 2 38 := ⟨at_36, rfl⟩
theorem D0_38 : own_at code 38 (.invokestatic 19) 3 41 := ⟨at_38, rfl⟩
theorem D0_41 : own_at code 41 (.astore 10) 2 43 := ⟨at_41, rfl⟩
theorem D0_43 : own_at code 43 (.iload 9) 2 45 := ⟨at_43, rfl⟩
theorem D0_45 : own_at code 45 (.invokestatic 23) 3 48 := ⟨at_45, rfl⟩
theorem D0_48 : own_at code 48 (.astore 11) 2 50 := ⟨at_48, rfl⟩
theorem D0_50 : own_at code 50 (.iload 4) 2 52 := ⟨at_50, rfl⟩
theorem D0_52 : own_at code 52 (.i2b) 1 53 := ⟨at_52, rfl⟩
theorem D0_53 : own_at code 53 (.istore 12) 2 55 := ⟨at_53, rfl⟩
theorem D0_55 : own_at code 55 (.iload 4) 2 57 := ⟨at_55, rfl⟩
theorem D0_57 : own_at code 57 (.bipush 8) 2 59 := ⟨at_57, rfl⟩
theorem D0_59 : own_at code 59 (.iushr) 1 60 := ⟨at_59, rfl⟩
theorem D0_60 : own_at code 60 (.i2b) 1 61 := ⟨at_60, rfl⟩
theorem D0_61 : own_at code 61 (.istore 13) 2 63 := ⟨at_61, rfl⟩
theorem D0_63 : own_at code 63 (.iload 4) 2 65 := ⟨at_63, rfl⟩
theorem D0_65 : own_at code 65 (.bipush 16) 2 67 := ⟨at_65, rfl⟩
theorem D0_67 : own_at code 67 (.iushr) 1 68 := ⟨at_67, rfl⟩
theorem D0_68 : own_at code 68 (.i2b) 1 69 := ⟨at_68, rfl⟩
theorem D0_69 : own_at code 69 (.istore 14) 2 71 := ⟨at_69, rfl⟩
theorem D0_71 : own_at code 71 (.iload 9) 2 73 := ⟨at_71, rfl⟩
theorem D0_73 : own_at code 73 (.ifCond .le 9) 3 76 := ⟨at_73, rfl⟩
theorem D0_76 : own_at code 76 (.aload 11) 2 78 := ⟨at_76, rfl⟩
theorem D0_78 : own_at code 78 (.iconst 0) 1 79 := ⟨at_78, rfl⟩
theorem D0_79 : own_at code 79 (.iload 12) 2 81 := ⟨at_79, rfl⟩
theorem D0_81 : own_at code 81 (.bastore) 1 82 := ⟨at_81, rfl⟩
theorem D0_82 : own_at code 82 (.iload 9) 2 84 := ⟨at_82, rfl⟩
theorem D0_84 : own_at code 84 (.iconst 1) 1 85 := ⟨at_84, rfl⟩
theorem D0_85 : own_at code 85 (.if_icmp .le 9) 3 88 := ⟨at_85, rfl⟩
theorem D0_88 : own_at code 88 (.aload 11) 2 90 := ⟨at_88, rfl⟩
theorem D0_90 : own_at code 90 (.iconst 1) 1 91 := ⟨at_90, rfl⟩
theorem D0_91 : own_at code 91 (.iload 13) 2 93 := ⟨at_91, rfl⟩
theorem D0_93 : own_at code 93 (.bastore) 1 94 := ⟨at_93, rfl⟩
theorem D0_94 : own_at code 94 (.iload 9) 2 96 := ⟨at_94, rfl⟩
theorem D0_96 : own_at code 96 (.iconst 2) 1 97 := ⟨at_96, rfl⟩
theorem D0_97 : own_at code 97 (.if_icmp .le 9) 3 100 := ⟨at_97, rfl⟩
theorem D0_100 : own_at code 100 (.aload 11) 2 102 := ⟨at_100, rfl⟩
theorem D0_102 : own_at code 102 (.iconst 2) 1 103 := ⟨at_102, rfl⟩
theorem D0_103 : own_at code 103 (.iload 14) 2 105 := ⟨at_103, rfl⟩
theorem D0_105 : own_at code 105 (.bastore) 1 106 := ⟨at_105, rfl⟩
theorem D0_106 : own_at code 106 (.aload 10) 2 108 := ⟨at_106, rfl⟩
theorem D0_108 : own_at code 108 (.aload 11) 2 110 := ⟨at_108, rfl⟩
theorem D0_110 : own_at code 110 (.invokestatic 27) 3 113 := ⟨at_110, rfl⟩
theorem D0_113 : own_at code 113 (.istore 15) 2 115 := ⟨at_113, rfl⟩
theorem D0_115 : own_at code 115 (.iload 8) 2 117 := ⟨at_115, rfl⟩
theorem D0_117 : own_at code 117 (.iload 9) 2 119 := ⟨at_117, rfl⟩
theorem D0_119 : own_at code 119 (.if_icmp .le 15) 3 122 := ⟨at_119, rfl⟩
theorem D0_122 : own_at code 122 (.iload 15) 2 124 := ⟨at_122, rfl⟩
theorem D0_124 : own_at code 124 (.iconst (-1)) 1 125 := ⟨at_124, rfl⟩
theorem D0_125 : own_at code 125 (.if_icmp .ne 7) 3 128 := ⟨at_125, rfl⟩
theorem D0_128 : own_at code 128 (.iconst 1) 1 129 := ⟨at_128, rfl⟩
theorem D0_129 : own_at code 129 (.goto 4) 3 132 := ⟨at_129, rfl⟩
theorem D0_133 : own_at code 133 (.ireturn) 1 134 := ⟨at_133, rfl⟩
theorem D0_134 : own_at code 134 (.iload 8) 2 136 := ⟨at_134, rfl⟩
theorem D0_136 : own_at code 136 (.iconst 1) 1 137 := ⟨at_136, rfl⟩
theorem D0_137 : own_at code 137 (.if_icmp .lt 11) 3 140 := ⟨at_137, rfl⟩
theorem D0_140 : own_at code 140 (.iload 5) 2 142 := ⟨at_140, rfl⟩
theorem D0_142 : own_at code 142 (.sipush 128) 3 145 := ⟨at_142, rfl⟩
theorem D0_145 : own_at code 145 (.if_icmp .ge 35) 3 148 := ⟨at_145, rfl⟩
theorem D0_148 : own_at code 148 (.iload 8) 2 150 := ⟨at_148, rfl⟩
theorem D0_150 : own_at code 150 (.iconst 2) 1 151 := ⟨at_150, rfl⟩
theorem D0_151 : own_at code 151 (.if_icmp .lt 11) 3 154 := ⟨at_151, rfl⟩
theorem D0_154 : own_at code 154 (.iload 6) 2 156 := ⟨at_154, rfl⟩
theorem D0_156 : own_at code 156 (.sipush 128) 3 159 := ⟨at_156, rfl⟩
theorem D0_159 : own_at code 159 (.if_icmp .ge 21) 3 162 := ⟨at_159, rfl⟩
theorem D0_162 : own_at code 162 (.iload 8) 2 164 := ⟨at_162, rfl⟩
theorem D0_164 : own_at code 164 (.iconst 3) 1 165 := ⟨at_164, rfl⟩
theorem D0_165 : own_at code 165 (.if_icmp .lt 11) 3 168 := ⟨at_165, rfl⟩
theorem D0_168 : own_at code 168 (.iload 7) 2 170 := ⟨at_168, rfl⟩
theorem D0_170 : own_at code 170 (.sipush 128) 3 173 := ⟨at_170, rfl⟩
theorem D0_173 : own_at code 173 (.if_icmp .ge 7) 3 176 := ⟨at_173, rfl⟩
theorem D0_176 : own_at code 176 (.iconst 1) 1 177 := ⟨at_176, rfl⟩
theorem D0_177 : own_at code 177 (.goto 4) 3 180 := ⟨at_177, rfl⟩
theorem D0_180 : own_at code 180 (.iconst 0) 1 181 := ⟨at_180, rfl⟩
theorem D0_181 : own_at code 181 (.istore 16) 2 183 := ⟨at_181, rfl⟩
theorem D0_183 : own_at code 183 (.iload 16) 2 185 := ⟨at_183, rfl⟩
theorem D0_185 : own_at code 185 (.ifCond .ne 15) 3 188 := ⟨at_185, rfl⟩
theorem D0_188 : own_at code 188 (.iload 15) 2 190 := ⟨at_188, rfl⟩
theorem D0_190 : own_at code 190 (.iconst (-1)) 1 191 := ⟨at_190, rfl⟩
theorem D0_191 : own_at code 191 (.if_icmp .ne 7) 3 194 := ⟨at_191, rfl⟩
theorem D0_194 : own_at code 194 (.iconst 1) 1 195 := ⟨at_194, rfl⟩
theorem D0_195 : own_at code 195 (.goto 4) 3 198 := ⟨at_195, rfl⟩
theorem D0_199 : own_at code 199 (.ireturn) 1 200 := ⟨at_199, rfl⟩
theorem D0_200 : own_at code 200 (.iload 15) 2 202 := ⟨at_200, rfl⟩
theorem D0_202 : own_at code 202 (.iload 8) 2 204 := ⟨at_202, rfl⟩
theorem D0_204 : own_at code 204 (.if_icmp .eq 5) 3 207 := ⟨at_204, rfl⟩
theorem D0_209 : own_at code 209 (.aload 11) 2 211 := ⟨at_209, rfl⟩
theorem D0_211 : own_at code 211 (.iconst 0) 1 212 := ⟨at_211, rfl⟩
theorem D0_212 : own_at code 212 (.iload 8) 2 214 := ⟨at_212, rfl⟩
theorem D0_214 : own_at code 214 (.iload 5) 2 216 := ⟨at_214, rfl⟩
theorem D0_216 : own_at code 216 (.iload 12) 2 218 := ⟨at_216, rfl⟩
theorem D0_218 : own_at code 218 (.invokestatic 33) 3 221 := ⟨at_218, rfl⟩
theorem D0_221 : own_at code 221 (.ifCond .eq 37) 3 224 := ⟨at_221, rfl⟩
theorem D0_224 : own_at code 224 (.aload 11) 2 226 := ⟨at_224, rfl⟩
theorem D0_226 : own_at code 226 (.iconst 1) 1 227 := ⟨at_226, rfl⟩
theorem D0_227 : own_at code 227 (.iload 8) 2 229 := ⟨at_227, rfl⟩
theorem D0_229 : own_at code 229 (.iload 6) 2 231 := ⟨at_229, rfl⟩
theorem D0_231 : own_at code 231 (.iload 13) 2 233 := ⟨at_231, rfl⟩
theorem D0_233 : own_at code 233 (.invokestatic 33) 3 236 := ⟨at_233, rfl⟩
theorem D0_236 : own_at code 236 (.ifCond .eq 22) 3 239 := ⟨at_236, rfl⟩
theorem D0_239 : own_at code 239 (.aload 11) 2 241 := ⟨at_239, rfl⟩
theorem D0_241 : own_at code 241 (.iconst 2) 1 242 := ⟨at_241, rfl⟩
theorem D0_242 : own_at code 242 (.iload 8) 2 244 := ⟨at_242, rfl⟩
theorem D0_244 : own_at code 244 (.iload 7) 2 246 := ⟨at_244, rfl⟩
theorem D0_246 : own_at code 246 (.iload 14) 2 248 := ⟨at_246, rfl⟩
theorem D0_248 : own_at code 248 (.invokestatic 33) 3 251 := ⟨at_248, rfl⟩
theorem D0_251 : own_at code 251 (.ifCond .eq 7) 3 254 := ⟨at_251, rfl⟩
theorem D0_254 : own_at code 254 (.iconst 1) 1 255 := ⟨at_254, rfl⟩
theorem D0_255 : own_at code 255 (.goto 4) 3 258 := ⟨at_255, rfl⟩
theorem D0_259 : own_at code 259 (.ireturn) 1 260 := ⟨at_259, rfl⟩
theorem ef_rm0 (m : MethodId) (p0 : Int32) (p1 : Int32) (p2 : Int32) (p3 : Int32) (p4 : Int32) : entryFrame m #[(.int p0), (.int p1), (.int p2), (.int p3), (.int p4)] maxLocals = mkF m 0 #[.val (.int p0), .val (.int p1), .val (.int p2), .val (.int p3), .val (.int p4), .unset, .unset, .unset, .unset, .unset, .unset, .unset, .unset, .unset, .unset, .unset, .unset] [] := by first | (simp [entryFrame, mkF, argsToLocals, Value.category, maxLocals]; done) | rfl
set_option maxRecDepth 65536 in
set_option maxHeartbeats 40000000 in
theorem rm0 (l : Launch) (Z : State) (a0 : Array Value) (hw : ∀ d ∈ tables_1, d.before a0 Z = true) (ws : List Jvm.Cond) (p0 : Int32) (p1 : Int32) (p2 : Int32) (p3 : Int32) (p4 : Int32) (cs : Int32) (vf : Value) (h0 : Heap) (n0 : Nat) (Z0 : n0 ≤ h0.size) (hST : own_ST Z cs vf) (O0 : Old Z n0 h0) :
    MetFree l x (head1 (Jvm.Cond.code x code maxLocals ret :: ws) room_1) (fun a U => a = #[(.int p0), (.int p1), (.int p2), (.int p3), (.int p4)] ∧ Z.Warmed39 U.vm ∧ U.heap = h0 ∧ CHv Z own_EL U.vm h0) (fun _ _ _ _ _ => True) (fun _ U o U' => ∃ v L, o = .returned v ∧ own_Q0 n0 v U'.heap L ∧ ReturnedEndW U o U' L room_1.cells room_1.slots) := by
  refine MetFree.of_bodySF (plainFor_of_name pn_com_example_placer_placer_Utf8AsciiBytesPinLaw) hisR ?_
  intro p e s m args below meth c s₁ Bd hml0 hP hK
  obtain ⟨rfl, hZ, hh, hCH⟩ := hP
  have hx := Bd.exec
  have hby := Bd.bytes
  have hml : c.maxLocals = 17 := hml0
  have hown : s.vm.findClass "com/example/placer/placer/Utf8AsciiBytesPinLaw" = some m.cls := findClass_of_methodNamed Bd.named
  have hnm := (name_of_methodNamed Bd.named Bd.method).1
  have X0 : Stand p l e room_1 s m #[(.int p0), (.int p1), (.int p2), (.int p3), (.int p4)] below meth c s₁ [] 0 0 := Stand.of_body Bd
  have e0 : s₁.heap = h0 := by rw [← hh, Bd.state]; rfl
  have N0 := Fr.nil n0
  refine own_startW (ef_rm0 m p0 p1 p2 p3 p4) ?_
  have hST0 := hST
  refine o_iloadN X0 hx hby D0_0 rfl ?_
  refine kS X0 hx hZ hown hby (wd hw 0 rfl) (wd hw 1 rfl) (wd hw 2 rfl) (wd hw 3 rfl) (rm_draw l Z a0 hw [] p0  h0 n0 Z0 ) (by decide) (by decide) (by decide) (by decide) (by decide) (by rw [hml]; rfl) [(.int p0)] [] (lenOf pd__40I_41C rfl) (W := 0) rfl rfl D0_1 rfl e0 ?_
  intro v1 T1 L1 X1 hQ1
  obtain ⟨rfl, N1q, e1⟩ := hQ1
  have N1 := Fr.app N0 N1q
  refine own_sh (A' := T1.setTop (mkF m 4 _ [(.int (own_draw p0))])) ?_
  refine o_istore X1 hx hby D0_4 (l' := #[.val (.int p0), .val (.int p1), .val (.int p2), .val (.int p3), .val (.int p4), .val (.int (own_draw p0)), .unset, .unset, .unset, .unset, .unset, .unset, .unset, .unset, .unset, .unset, .unset]) rfl ?_
  refine o_iloadN X1 hx hby D0_6 rfl ?_
  refine kS X1 hx hZ hown hby (wd hw 0 rfl) (wd hw 1 rfl) (wd hw 2 rfl) (wd hw 3 rfl) (rm_draw l Z a0 hw [] p1  h0 n0 Z0 ) (by decide) (by decide) (by decide) (by decide) (by decide) (by rw [hml]; rfl) [(.int p1)] [] (lenOf pd__40I_41C rfl) (W := 0) rfl rfl D0_7 rfl e1 ?_
  intro v2 T2 L2 X2 hQ2
  obtain ⟨rfl, N2q, e2⟩ := hQ2
  have N2 := Fr.app N1 N2q
  refine own_sh (A' := T2.setTop (mkF m 10 _ [(.int (own_draw p1))])) ?_
  refine o_istore X2 hx hby D0_10 (l' := #[.val (.int p0), .val (.int p1), .val (.int p2), .val (.int p3), .val (.int p4), .val (.int (own_draw p0)), .val (.int (own_draw p1)), .unset, .unset, .unset, .unset, .unset, .unset, .unset, .unset, .unset, .unset]) rfl ?_
  refine o_iloadN X2 hx hby D0_12 rfl ?_
  refine kS X2 hx hZ hown hby (wd hw 0 rfl) (wd hw 1 rfl) (wd hw 2 rfl) (wd hw 3 rfl) (rm_draw l Z a0 hw [] p2  h0 n0 Z0 ) (by decide) (by decide) (by decide) (by decide) (by decide) (by rw [hml]; rfl) [(.int p2)] [] (lenOf pd__40I_41C rfl) (W := 0) rfl rfl D0_13 rfl e2 ?_
  intro v3 T3 L3 X3 hQ3
  obtain ⟨rfl, N3q, e3⟩ := hQ3
  have N3 := Fr.app N2 N3q
  refine own_sh (A' := T3.setTop (mkF m 16 _ [(.int (own_draw p2))])) ?_
  refine o_istore X3 hx hby D0_16 (l' := #[.val (.int p0), .val (.int p1), .val (.int p2), .val (.int p3), .val (.int p4), .val (.int (own_draw p0)), .val (.int (own_draw p1)), .val (.int (own_draw p2)), .unset, .unset, .unset, .unset, .unset, .unset, .unset, .unset, .unset]) rfl ?_
  refine o_iloadN X3 hx hby D0_18 rfl ?_
  refine o_iconst X3 hx hby D0_19 (v := 3) rfl ?_
  refine o_iand X3 hx hby D0_20 ?_
  refine o_istore X3 hx hby D0_21 (l' := #[.val (.int p0), .val (.int p1), .val (.int p2), .val (.int p3), .val (.int p4), .val (.int (own_draw p0)), .val (.int (own_draw p1)), .val (.int (own_draw p2)), .val (.int (p3 &&& (3 : Int32))), .unset, .unset, .unset, .unset, .unset, .unset, .unset, .unset]) rfl ?_
  refine o_iloadN X3 hx hby D0_23 rfl ?_
  refine o_iconst X3 hx hby D0_24 (v := 2) rfl ?_
  refine o_iushr X3 hx hby D0_25 ?_
  refine o_iconst X3 hx hby D0_26 (v := 3) rfl ?_
  refine o_iand X3 hx hby D0_27 ?_
  refine o_istore X3 hx hby D0_28 (l' := #[.val (.int p0), .val (.int p1), .val (.int p2), .val (.int p3), .val (.int p4), .val (.int (own_draw p0)), .val (.int (own_draw p1)), .val (.int (own_draw p2)), .val (.int (p3 &&& (3 : Int32))), .val (.int (((p3.toUInt32 >>> ((2 : Int32) &&& 31).toUInt32).toInt32) &&& (3 : Int32))), .unset, .unset, .unset, .unset, .unset, .unset, .unset]) rfl ?_
  have hc0 := own_drawR p0
  generalize own_draw p0 = c0 at *
  have hc1 := own_drawR p1
  generalize own_draw p1 = c1 at *
  have hc2 := own_drawR p2
  generalize own_draw p2 = c2 at *
  generalize hnn : (p3 &&& (3 : Int32)) = nn
  have hq := own_four p3
  rw [hnn] at hq
  generalize hmm : (((p3.toUInt32 >>> ((2 : Int32) &&& 31).toUInt32).toInt32) &&& (3 : Int32)) = mm
  have hq2 := own_four ((p3.toUInt32 >>> ((2 : Int32) &&& 31).toUInt32).toInt32)
  rw [hmm] at hq2
  rcases hq with rfl | rfl | rfl | rfl
  · skip
    refine o_iload X3 hx hby D0_30 rfl ?_
    refine o_iload X3 hx hby D0_32 rfl ?_
    refine o_iload X3 hx hby D0_34 rfl ?_
    refine o_iload X3 hx hby D0_36 rfl ?_
    obtain ⟨_, _, ⟨T4, L4, k4, n4⟩, -, X4, hS4, hg4, ⟨Lc4, hQ4, l4, y4, z4, CH4⟩, st4⟩ := callSS (s := s.setVm s.vm) X3 hx (y := (⟨"com/example/placer/placer/Utf8AsciiBytesPinLaw", "key", "(ICCC)Ljava/lang/String;"⟩ : MethodName)) hown (mvT (s := s.setVm s.vm) hZ (wd hw 4 rfl)) (mvT (s := s.setVm s.vm) hZ (wd hw 5 rfl)) (mvT (s := s.setVm s.vm) hZ (wd hw 2 rfl)) (mvT (s := s.setVm s.vm) hZ (wd hw 6 rfl)) (by decide) (backOfSH (s := s) (vm0 := s.vm) (W := 0) (rm_key0 l Z a0 hw [] c0 c1 c2 h0 n0 Z0) hZ (wd hw 6 rfl) (wd hw 2 rfl) (by decide) (by decide) (own_ew hw) (hCH)) (g := (mkF m 38 #[.val (.int p0), .val (.int p1), .val (.int p2), .val (.int p3), .val (.int p4), .val (.int c0), .val (.int c1), .val (.int c2), .val (.int (0 : Int32)), .val (.int mm), .unset, .unset, .unset, .unset, .unset, .unset, .unset] [(.int c2), (.int c1), (.int c0), (.int (0 : Int32))])) rfl (by rw [hml]; rfl) (argsL := [(.int (0 : Int32)), (.int c0), (.int c1), (.int c2)]) (rest := []) (lenOf pd__40ICCC_41Ljava_47lang_47String_59 rfl) rfl (by show 2 * 0 + _ ≤ _; exact Nat.le_of_eq rfl) (hb hby D0_38.1) (fun _ _ => ⟨rfl, e3, (by decide : 0 + 4 ≤ _), (by decide : 0 + 8 ≤ _)⟩)
    dsimp only [Pt.U, Pt.locs, Pt.cells, Pt.slots] at X4 hS4 hg4 l4 y4 z4 st4 hQ4 CH4
    subst l4 y4 z4
    obtain ⟨st, vb, kb, rfl, N4q, K4, ge4, lt_st, lt_vb, Str4⟩ := hQ4
    have sz4 := own_leN K4.1
    have lt_st := own_ltN lt_st
    have lt_vb := own_ltN lt_vb
    have N4 := Fr.app N3 N4q
    have hZ : Z.Warmed39 (s.setVm T4.vm).vm := State.Warmed39.trans (t := s.setVm s.vm) hZ hS4.1
    have hown : (s.setVm T4.vm).vm.findClass "com/example/placer/placer/Utf8AsciiBytesPinLaw" = some m.cls := (hS4.1.alike.findClass _ _).trans hown
    have X4 : Stand p l e room_1 (s.setVm T4.vm) m _ below meth c T4 _ _ _ := X4
    refine own_pre (A' := T4.setTop (mkF m 41 #[.val (.int p0), .val (.int p1), .val (.int p2), .val (.int p3), .val (.int p4), .val (.int c0), .val (.int c1), .val (.int c2), .val (.int (0 : Int32)), .val (.int mm), .unset, .unset, .unset, .unset, .unset, .unset, .unset] [(.ref st)])) (fun t k => st4.trans k) ?_
    refine o_astore X4 hx hby D0_41 rfl (l' := #[.val (.int p0), .val (.int p1), .val (.int p2), .val (.int p3), .val (.int p4), .val (.int c0), .val (.int c1), .val (.int c2), .val (.int (0 : Int32)), .val (.int mm), .val (.ref st), .unset, .unset, .unset, .unset, .unset, .unset]) rfl ?_
    rcases hq2 with rfl | rfl | rfl | rfl
    · skip
      refine o_iload X4 hx hby D0_43 rfl ?_
      refine kS X4 hx hZ hown hby (wd hw 37 rfl) (wd hw 38 rfl) (wd hw 2 rfl) (wd hw 39 rfl) (rm_arr0 l Z a0 hw []  T4.heap n0 (own_leN (by omega)) ) (by decide) (by decide) (by decide) (by decide) (by decide) (by rw [hml]; rfl) [(.int (0 : Int32))] [] (lenOf pd__40I_41_91B rfl) (W := 0) rfl rfl D0_45 rfl rfl ?_
      intro v5 T5 L5 X5 hQ5
      obtain ⟨r5, kr5, rfl, N5q, K5, ge5, Vr5⟩ := hQ5
      have sz5 := own_leN K5.1
      have ge5' := own_leN ge5
      have lt_r5 := own_ltN Vr5.lt
      have gn_r5 : n0 ≤ r5 := own_leN (by omega)
      have N5 := Fr.app N4 N5q
      refine own_sh (A' := T5.setTop (mkF m 48 _ [(.ref r5)])) ?_
      refine o_astore X5 hx hby D0_48 rfl (l' := #[.val (.int p0), .val (.int p1), .val (.int p2), .val (.int p3), .val (.int p4), .val (.int c0), .val (.int c1), .val (.int c2), .val (.int (0 : Int32)), .val (.int (0 : Int32)), .val (.ref st), .val (.ref r5), .unset, .unset, .unset, .unset, .unset]) rfl ?_
      refine o_iload X5 hx hby D0_50 rfl ?_
      refine o_i2b X5 hx hby D0_52 ?_
      refine o_istore X5 hx hby D0_53 (l' := #[.val (.int p0), .val (.int p1), .val (.int p2), .val (.int p3), .val (.int p4), .val (.int c0), .val (.int c1), .val (.int c2), .val (.int (0 : Int32)), .val (.int (0 : Int32)), .val (.ref st), .val (.ref r5), .val (.int ((p4).toInt8.toInt32)), .unset, .unset, .unset, .unset]) rfl ?_
      generalize hf0 : ((p4).toInt8.toInt32) = f0
      have nf0 : nar .byte f0 = f0 := by rw [← hf0]; exact own_i8 _
      refine o_iload X5 hx hby D0_55 rfl ?_
      refine o_bipush X5 hx hby D0_57 (v := 8) rfl ?_
      refine o_iushr X5 hx hby D0_59 ?_
      refine o_i2b X5 hx hby D0_60 ?_
      refine o_istore X5 hx hby D0_61 (l' := #[.val (.int p0), .val (.int p1), .val (.int p2), .val (.int p3), .val (.int p4), .val (.int c0), .val (.int c1), .val (.int c2), .val (.int (0 : Int32)), .val (.int (0 : Int32)), .val (.ref st), .val (.ref r5), .val (.int f0), .val (.int ((((p4.toUInt32 >>> ((8 : Int32) &&& 31).toUInt32).toInt32)).toInt8.toInt32)), .unset, .unset, .unset]) rfl ?_
      generalize hf1 : ((((p4.toUInt32 >>> ((8 : Int32) &&& 31).toUInt32).toInt32)).toInt8.toInt32) = f1
      have nf1 : nar .byte f1 = f1 := by rw [← hf1]; exact own_i8 _
      refine o_iload X5 hx hby D0_63 rfl ?_
      refine o_bipush X5 hx hby D0_65 (v := 16) rfl ?_
      refine o_iushr X5 hx hby D0_67 ?_
      refine o_i2b X5 hx hby D0_68 ?_
      refine o_istore X5 hx hby D0_69 (l' := #[.val (.int p0), .val (.int p1), .val (.int p2), .val (.int p3), .val (.int p4), .val (.int c0), .val (.int c1), .val (.int c2), .val (.int (0 : Int32)), .val (.int (0 : Int32)), .val (.ref st), .val (.ref r5), .val (.int f0), .val (.int f1), .val (.int ((((p4.toUInt32 >>> ((16 : Int32) &&& 31).toUInt32).toInt32)).toInt8.toInt32)), .unset, .unset]) rfl ?_
      generalize hf2 : ((((p4.toUInt32 >>> ((16 : Int32) &&& 31).toUInt32).toInt32)).toInt8.toInt32) = f2
      have nf2 : nar .byte f2 = f2 := by rw [← hf2]; exact own_i8 _
      refine o_iload X5 hx hby D0_71 rfl ?_
      refine o_ifY X5 hx hby D0_73 ((if0 _ _).trans (flt (by decide : ¬ ((0 : Int32) < (0 : Int32)))).2.2.2) (q := 82) (by decide) (by decide) ?_
      refine o_iload X5 hx hby D0_82 rfl ?_
      refine o_iconst X5 hx hby D0_84 (v := 1) rfl ?_
      refine o_icmpY X5 hx hby D0_85 (flt (by decide : ¬ ((1 : Int32) < (0 : Int32)))).2.2.2 (q := 94) (by decide) (by decide) ?_
      refine o_iload X5 hx hby D0_94 rfl ?_
      refine o_iconst X5 hx hby D0_96 (v := 2) rfl ?_
      refine o_icmpY X5 hx hby D0_97 (flt (by decide : ¬ ((2 : Int32) < (0 : Int32)))).2.2.2 (q := 106) (by decide) (by decide) ?_
      refine o_aload X5 hx hby D0_106 rfl rfl ?_
      refine o_aload X5 hx hby D0_108 rfl rfl ?_
      have cT7_st := (own_StrK0 Str4 K5 nin0 nin0)
      have c8_O := ((O0.keep K4 all0).keep K5 all0)
      refine kS X5 hx hZ hown hby (wd hw 40 rfl) (wd hw 41 rfl) (wd hw 42 rfl) (wd hw 43 rfl) (rm_abX0 l Z a0 hw [] st r5 vb kb kr5  (0 : Int32) [] cs vf T5.heap n0 (own_leN (by omega)) hST0 c8_O cT7_st Vr5 (by decide)) (by decide) (by decide) (by decide) (by decide) (by decide) (by rw [hml]; rfl) [(.ref st), (.ref r5)] [] (lenOf pd__40Ljava_47lang_47String_59_91B_41I rfl) (W := 0) rfl rfl D0_110 rfl rfl ?_
      intro v6 T6 L6 X6 hQ6
      obtain ⟨rfl, N6q, e6⟩ := hQ6
      have N6 := Fr.app N5 N6q
      refine own_sh (A' := T6.setTop (mkF m 113 _ [(.int (0 : Int32))])) ?_
      refine o_istore X6 hx hby D0_113 (l' := #[.val (.int p0), .val (.int p1), .val (.int p2), .val (.int p3), .val (.int p4), .val (.int c0), .val (.int c1), .val (.int c2), .val (.int (0 : Int32)), .val (.int (0 : Int32)), .val (.ref st), .val (.ref r5), .val (.int f0), .val (.int f1), .val (.int f2), .val (.int (0 : Int32)), .unset]) rfl ?_
      refine o_iload X6 hx hby D0_115 rfl ?_
      refine o_iload X6 hx hby D0_117 rfl ?_
      refine o_icmpY X6 hx hby D0_119 (flt (by decide : ¬ ((0 : Int32) < (0 : Int32)))).2.2.2 (q := 134) (by decide) (by decide) ?_
      refine o_iload X6 hx hby D0_134 rfl ?_
      refine o_iconst X6 hx hby D0_136 (v := 1) rfl ?_
      refine o_icmpY X6 hx hby D0_137 (tlt (by decide : (0 : Int32) < (1 : Int32))).1 (q := 148) (by decide) (by decide) ?_
      refine o_iload X6 hx hby D0_148 rfl ?_
      refine o_iconst X6 hx hby D0_150 (v := 2) rfl ?_
      refine o_icmpY X6 hx hby D0_151 (tlt (by decide : (0 : Int32) < (2 : Int32))).1 (q := 162) (by decide) (by decide) ?_
      refine o_iload X6 hx hby D0_162 rfl ?_
      refine o_iconst X6 hx hby D0_164 (v := 3) rfl ?_
      refine o_icmpY X6 hx hby D0_165 (tlt (by decide : (0 : Int32) < (3 : Int32))).1 (q := 176) (by decide) (by decide) ?_
      refine o_iconst X6 hx hby D0_176 (v := 1) rfl ?_
      refine o_goto X6 hx hby D0_177 (q := 181) (by decide) (by decide) ?_
      refine o_istore X6 hx hby D0_181 (l' := #[.val (.int p0), .val (.int p1), .val (.int p2), .val (.int p3), .val (.int p4), .val (.int c0), .val (.int c1), .val (.int c2), .val (.int (0 : Int32)), .val (.int (0 : Int32)), .val (.ref st), .val (.ref r5), .val (.int f0), .val (.int f1), .val (.int f2), .val (.int (0 : Int32)), .val (.int (1 : Int32))]) rfl ?_
      refine o_iload X6 hx hby D0_183 rfl ?_
      refine o_ifY X6 hx hby D0_185 ((if0 _ _).trans (feq (by decide : ¬ ((1 : Int32) = (0 : Int32)))).2) (q := 200) (by decide) (by decide) ?_
      refine o_iload X6 hx hby D0_200 rfl ?_
      refine o_iload X6 hx hby D0_202 rfl ?_
      refine o_icmpY X6 hx hby D0_204 (teq (by decide : (0 : Int32) = (0 : Int32))).1 (q := 209) (by decide) (by decide) ?_
      refine o_aload X6 hx hby D0_209 rfl rfl ?_
      refine o_iconst X6 hx hby D0_211 (v := 0) rfl ?_
      refine o_iload X6 hx hby D0_212 rfl ?_
      refine o_iload X6 hx hby D0_214 rfl ?_
      refine o_iload X6 hx hby D0_216 rfl ?_
      refine kS X6 hx hZ hown hby (wd hw 76 rfl) (wd hw 77 rfl) (wd hw 2 rfl) (wd hw 78 rfl) (rm_at0O l Z a0 hw [] r5 (0 : Int32) c0 f0 kr5 (0 : Int32) [] (0 : Int32) T5.heap n0 (own_leN (by omega)) Vr5 (by decide)) (by decide) (by decide) (by decide) (by decide) (by decide) (by rw [hml]; rfl) [(.ref r5), (.int (0 : Int32)), (.int (0 : Int32)), (.int c0), (.int f0)] [] (lenOf pd__40_91BIICB_41Z rfl) (W := 0) rfl rfl D0_218 rfl e6 ?_
      intro v9 T9 L9 X9 hQ9
      obtain ⟨rfl, N9q, e9⟩ := hQ9
      have N9 := Fr.app N6 N9q
      refine own_sh (A' := T9.setTop (mkF m 221 _ [(.int (1 : Int32))])) ?_
      refine o_ifN X9 hx hby D0_221 ((if0 _ _).trans (feq (by decide : ¬ ((1 : Int32) = (0 : Int32)))).1) ?_
      refine o_aload X9 hx hby D0_224 rfl rfl ?_
      refine o_iconst X9 hx hby D0_226 (v := 1) rfl ?_
      refine o_iload X9 hx hby D0_227 rfl ?_
      refine o_iload X9 hx hby D0_229 rfl ?_
      refine o_iload X9 hx hby D0_231 rfl ?_
      refine kS X9 hx hZ hown hby (wd hw 76 rfl) (wd hw 77 rfl) (wd hw 2 rfl) (wd hw 78 rfl) (rm_at1O l Z a0 hw [] r5 (0 : Int32) c1 f1 kr5 (0 : Int32) [] (0 : Int32) T5.heap n0 (own_leN (by omega)) Vr5 (by decide)) (by decide) (by decide) (by decide) (by decide) (by decide) (by rw [hml]; rfl) [(.ref r5), (.int (1 : Int32)), (.int (0 : Int32)), (.int c1), (.int f1)] [] (lenOf pd__40_91BIICB_41Z rfl) (W := 0) rfl rfl D0_233 rfl e9 ?_
      intro v10 T10 L10 X10 hQ10
      obtain ⟨rfl, N10q, e10⟩ := hQ10
      have N10 := Fr.app N9 N10q
      refine own_sh (A' := T10.setTop (mkF m 236 _ [(.int (1 : Int32))])) ?_
      refine o_ifN X10 hx hby D0_236 ((if0 _ _).trans (feq (by decide : ¬ ((1 : Int32) = (0 : Int32)))).1) ?_
      refine o_aload X10 hx hby D0_239 rfl rfl ?_
      refine o_iconst X10 hx hby D0_241 (v := 2) rfl ?_
      refine o_iload X10 hx hby D0_242 rfl ?_
      refine o_iload X10 hx hby D0_244 rfl ?_
      refine o_iload X10 hx hby D0_246 rfl ?_
      refine kS X10 hx hZ hown hby (wd hw 76 rfl) (wd hw 77 rfl) (wd hw 2 rfl) (wd hw 78 rfl) (rm_at2O l Z a0 hw [] r5 (0 : Int32) c2 f2 kr5 (0 : Int32) [] (0 : Int32) T5.heap n0 (own_leN (by omega)) Vr5 (by decide)) (by decide) (by decide) (by decide) (by decide) (by decide) (by rw [hml]; rfl) [(.ref r5), (.int (2 : Int32)), (.int (0 : Int32)), (.int c2), (.int f2)] [] (lenOf pd__40_91BIICB_41Z rfl) (W := 0) rfl rfl D0_248 rfl e10 ?_
      intro v11 T11 L11 X11 hQ11
      obtain ⟨rfl, N11q, e11⟩ := hQ11
      have N11 := Fr.app N10 N11q
      refine own_sh (A' := T11.setTop (mkF m 251 _ [(.int (1 : Int32))])) ?_
      refine o_ifN X11 hx hby D0_251 ((if0 _ _).trans (feq (by decide : ¬ ((1 : Int32) = (0 : Int32)))).1) ?_
      refine o_iconst X11 hx hby D0_254 (v := 1) rfl ?_
      refine o_goto X11 hx hby D0_255 (q := 259) (by decide) (by decide) ?_
      exact own_retWS (v := some (.int (1 : Int32))) X11 hS4 (by rw [e11]; exact own_leN (by omega)) (fun h => by first | rfl | (rw [Bd.returns] at h; cases h)) (BodyLoose.notSynchronized Bd) (by decide) (by decide) (⟨rfl, N11⟩) (fun fs hr => retN X11 hx (t := .boolean) Bd.returns (by simp) (hb hby D0_259.1) hr)
    · skip
      refine o_iload X4 hx hby D0_43 rfl ?_
      refine kS X4 hx hZ hown hby (wd hw 37 rfl) (wd hw 38 rfl) (wd hw 2 rfl) (wd hw 39 rfl) (rm_arr1 l Z a0 hw []  T4.heap n0 (own_leN (by omega)) ) (by decide) (by decide) (by decide) (by decide) (by decide) (by rw [hml]; rfl) [(.int (1 : Int32))] [] (lenOf pd__40I_41_91B rfl) (W := 0) rfl rfl D0_45 rfl rfl ?_
      intro v12 T12 L12 X12 hQ12
      obtain ⟨r12, kr12, rfl, N12q, K12, ge12, Vr12⟩ := hQ12
      have sz12 := own_leN K12.1
      have ge12' := own_leN ge12
      have lt_r12 := own_ltN Vr12.lt
      have gn_r12 : n0 ≤ r12 := own_leN (by omega)
      have N12 := Fr.app N4 N12q
      refine own_sh (A' := T12.setTop (mkF m 48 _ [(.ref r12)])) ?_
      refine o_astore X12 hx hby D0_48 rfl (l' := #[.val (.int p0), .val (.int p1), .val (.int p2), .val (.int p3), .val (.int p4), .val (.int c0), .val (.int c1), .val (.int c2), .val (.int (0 : Int32)), .val (.int (1 : Int32)), .val (.ref st), .val (.ref r12), .unset, .unset, .unset, .unset, .unset]) rfl ?_
      refine o_iload X12 hx hby D0_50 rfl ?_
      refine o_i2b X12 hx hby D0_52 ?_
      refine o_istore X12 hx hby D0_53 (l' := #[.val (.int p0), .val (.int p1), .val (.int p2), .val (.int p3), .val (.int p4), .val (.int c0), .val (.int c1), .val (.int c2), .val (.int (0 : Int32)), .val (.int (1 : Int32)), .val (.ref st), .val (.ref r12), .val (.int ((p4).toInt8.toInt32)), .unset, .unset, .unset, .unset]) rfl ?_
      generalize hf0 : ((p4).toInt8.toInt32) = f0
      have nf0 : nar .byte f0 = f0 := by rw [← hf0]; exact own_i8 _
      refine o_iload X12 hx hby D0_55 rfl ?_
      refine o_bipush X12 hx hby D0_57 (v := 8) rfl ?_
      refine o_iushr X12 hx hby D0_59 ?_
      refine o_i2b X12 hx hby D0_60 ?_
      refine o_istore X12 hx hby D0_61 (l' := #[.val (.int p0), .val (.int p1), .val (.int p2), .val (.int p3), .val (.int p4), .val (.int c0), .val (.int c1), .val (.int c2), .val (.int (0 : Int32)), .val (.int (1 : Int32)), .val (.ref st), .val (.ref r12), .val (.int f0), .val (.int ((((p4.toUInt32 >>> ((8 : Int32) &&& 31).toUInt32).toInt32)).toInt8.toInt32)), .unset, .unset, .unset]) rfl ?_
      generalize hf1 : ((((p4.toUInt32 >>> ((8 : Int32) &&& 31).toUInt32).toInt32)).toInt8.toInt32) = f1
      have nf1 : nar .byte f1 = f1 := by rw [← hf1]; exact own_i8 _
      refine o_iload X12 hx hby D0_63 rfl ?_
      refine o_bipush X12 hx hby D0_65 (v := 16) rfl ?_
      refine o_iushr X12 hx hby D0_67 ?_
      refine o_i2b X12 hx hby D0_68 ?_
      refine o_istore X12 hx hby D0_69 (l' := #[.val (.int p0), .val (.int p1), .val (.int p2), .val (.int p3), .val (.int p4), .val (.int c0), .val (.int c1), .val (.int c2), .val (.int (0 : Int32)), .val (.int (1 : Int32)), .val (.ref st), .val (.ref r12), .val (.int f0), .val (.int f1), .val (.int ((((p4.toUInt32 >>> ((16 : Int32) &&& 31).toUInt32).toInt32)).toInt8.toInt32)), .unset, .unset]) rfl ?_
      generalize hf2 : ((((p4.toUInt32 >>> ((16 : Int32) &&& 31).toUInt32).toInt32)).toInt8.toInt32) = f2
      have nf2 : nar .byte f2 = f2 := by rw [← hf2]; exact own_i8 _
      refine o_iload X12 hx hby D0_71 rfl ?_
      refine o_ifN X12 hx hby D0_73 ((if0 _ _).trans (tlt (by decide : (0 : Int32) < (1 : Int32))).2.2.2) ?_
      refine o_aload X12 hx hby D0_76 rfl rfl ?_
      refine o_iconst X12 hx hby D0_78 (v := 0) rfl ?_
      refine o_iload X12 hx hby D0_79 rfl ?_
      obtain ⟨cl_r12_13, Ar_r12_13, q_r12_13, S_r12_13, N_r12_13, H_r12_13, G_r12_13⟩ := id Vr12
      have hin_r12_13 : ¬ ((0 : Int32) < 0 ∨ cl_r12_13.slots.size ≤ ((0 : Int32)).toNatClampNeg) := inb_of S_r12_13 ⟨by decide, by decide⟩
      obtain ⟨T13, h13, X13, e13, W13, st13⟩ := stB X12 hx hZ rfl Ar_r12_13 (j := (0 : Int32)) hin_r12_13 (g := (mkF m 81 #[.val (.int p0), .val (.int p1), .val (.int p2), .val (.int p3), .val (.int p4), .val (.int c0), .val (.int c1), .val (.int c2), .val (.int (0 : Int32)), .val (.int (1 : Int32)), .val (.ref st), .val (.ref r12), .val (.int f0), .val (.int f1), .val (.int f2), .unset, .unset] [(.int f0), (.int (0 : Int32)), (.ref r12)])) rfl rfl (hb hby D0_81.1)
      have V_r12_13 : Arv Z h13 r12 kr12 .byte (1 : Int32) [(.int (nar .byte f0))] (.int (0 : Int32)) := Arv.set Ar_r12_13 q_r12_13 S_r12_13 N_r12_13 H_r12_13 G_r12_13 (fits_nar_byte _) W13 0 rfl (Nat.le_of_ble_eq_true rfl)
      have sz13 := own_leN (Keep.of_wr W13).1
      have N13 := Fr.snoc X13 N12 gn_r12
      refine own_pre (A' := T13.setTop (mkF m 82 #[.val (.int p0), .val (.int p1), .val (.int p2), .val (.int p3), .val (.int p4), .val (.int c0), .val (.int c1), .val (.int c2), .val (.int (0 : Int32)), .val (.int (1 : Int32)), .val (.ref st), .val (.ref r12), .val (.int f0), .val (.int f1), .val (.int f2), .unset, .unset] [])) st13 ?_
      refine o_iload X13 hx hby D0_82 rfl ?_
      refine o_iconst X13 hx hby D0_84 (v := 1) rfl ?_
      refine o_icmpY X13 hx hby D0_85 (flt (by decide : ¬ ((1 : Int32) < (1 : Int32)))).2.2.2 (q := 94) (by decide) (by decide) ?_
      refine o_iload X13 hx hby D0_94 rfl ?_
      refine o_iconst X13 hx hby D0_96 (v := 2) rfl ?_
      refine o_icmpY X13 hx hby D0_97 (flt (by decide : ¬ ((2 : Int32) < (1 : Int32)))).2.2.2 (q := 106) (by decide) (by decide) ?_
      refine o_aload X13 hx hby D0_106 rfl rfl ?_
      refine o_aload X13 hx hby D0_108 rfl rfl ?_
      have cT15_st := (own_StrK0 (own_StrK0 Str4 K12 nin0 nin0) (Keep.of_wr W13) (ninS (by first | exact own_neN (by omega) | exact own_neN' (by omega) | assumption) nin0) (ninS (by first | exact own_neN (by omega) | exact own_neN' (by omega) | assumption) nin0))
      have c16_O := (((O0.keep K4 all0).keep K12 all0).wr W13 gn_r12)
      refine kS X13 hx hZ hown hby (wd hw 40 rfl) (wd hw 41 rfl) (wd hw 42 rfl) (wd hw 43 rfl) (rm_abX0 l Z a0 hw [] st r12 vb kb kr12  (1 : Int32) [(.int (nar .byte f0))] cs vf h13 n0 (own_leN (by omega)) hST0 c16_O cT15_st V_r12_13 (by decide)) (by decide) (by decide) (by decide) (by decide) (by decide) (by rw [hml]; rfl) [(.ref st), (.ref r12)] [] (lenOf pd__40Ljava_47lang_47String_59_91B_41I rfl) (W := 0) rfl rfl D0_110 rfl e13 ?_
      intro v14 T14 L14 X14 hQ14
      obtain ⟨rfl, N14q, e14⟩ := hQ14
      have N14 := Fr.app N13 N14q
      refine own_sh (A' := T14.setTop (mkF m 113 _ [(.int (0 : Int32))])) ?_
      refine o_istore X14 hx hby D0_113 (l' := #[.val (.int p0), .val (.int p1), .val (.int p2), .val (.int p3), .val (.int p4), .val (.int c0), .val (.int c1), .val (.int c2), .val (.int (0 : Int32)), .val (.int (1 : Int32)), .val (.ref st), .val (.ref r12), .val (.int f0), .val (.int f1), .val (.int f2), .val (.int (0 : Int32)), .unset]) rfl ?_
      refine o_iload X14 hx hby D0_115 rfl ?_
      refine o_iload X14 hx hby D0_117 rfl ?_
      refine o_icmpY X14 hx hby D0_119 (flt (by decide : ¬ ((1 : Int32) < (0 : Int32)))).2.2.2 (q := 134) (by decide) (by decide) ?_
      refine o_iload X14 hx hby D0_134 rfl ?_
      refine o_iconst X14 hx hby D0_136 (v := 1) rfl ?_
      refine o_icmpY X14 hx hby D0_137 (tlt (by decide : (0 : Int32) < (1 : Int32))).1 (q := 148) (by decide) (by decide) ?_
      refine o_iload X14 hx hby D0_148 rfl ?_
      refine o_iconst X14 hx hby D0_150 (v := 2) rfl ?_
      refine o_icmpY X14 hx hby D0_151 (tlt (by decide : (0 : Int32) < (2 : Int32))).1 (q := 162) (by decide) (by decide) ?_
      refine o_iload X14 hx hby D0_162 rfl ?_
      refine o_iconst X14 hx hby D0_164 (v := 3) rfl ?_
      refine o_icmpY X14 hx hby D0_165 (tlt (by decide : (0 : Int32) < (3 : Int32))).1 (q := 176) (by decide) (by decide) ?_
      refine o_iconst X14 hx hby D0_176 (v := 1) rfl ?_
      refine o_goto X14 hx hby D0_177 (q := 181) (by decide) (by decide) ?_
      refine o_istore X14 hx hby D0_181 (l' := #[.val (.int p0), .val (.int p1), .val (.int p2), .val (.int p3), .val (.int p4), .val (.int c0), .val (.int c1), .val (.int c2), .val (.int (0 : Int32)), .val (.int (1 : Int32)), .val (.ref st), .val (.ref r12), .val (.int f0), .val (.int f1), .val (.int f2), .val (.int (0 : Int32)), .val (.int (1 : Int32))]) rfl ?_
      refine o_iload X14 hx hby D0_183 rfl ?_
      refine o_ifY X14 hx hby D0_185 ((if0 _ _).trans (feq (by decide : ¬ ((1 : Int32) = (0 : Int32)))).2) (q := 200) (by decide) (by decide) ?_
      refine o_iload X14 hx hby D0_200 rfl ?_
      refine o_iload X14 hx hby D0_202 rfl ?_
      refine o_icmpY X14 hx hby D0_204 (teq (by decide : (0 : Int32) = (0 : Int32))).1 (q := 209) (by decide) (by decide) ?_
      refine o_aload X14 hx hby D0_209 rfl rfl ?_
      refine o_iconst X14 hx hby D0_211 (v := 0) rfl ?_
      refine o_iload X14 hx hby D0_212 rfl ?_
      refine o_iload X14 hx hby D0_214 rfl ?_
      refine o_iload X14 hx hby D0_216 rfl ?_
      refine kS X14 hx hZ hown hby (wd hw 76 rfl) (wd hw 77 rfl) (wd hw 2 rfl) (wd hw 78 rfl) (rm_at0B l Z a0 hw [] r12 (0 : Int32) c0 f0 kr12 (1 : Int32) [(.int (nar .byte f0))] (nar .byte f0) h13 n0 (own_leN (by omega)) V_r12_13 (by decide) rfl (by decide) nf0) (by decide) (by decide) (by decide) (by decide) (by decide) (by rw [hml]; rfl) [(.ref r12), (.int (0 : Int32)), (.int (0 : Int32)), (.int c0), (.int f0)] [] (lenOf pd__40_91BIICB_41Z rfl) (W := 0) rfl rfl D0_218 rfl e14 ?_
      intro v17 T17 L17 X17 hQ17
      obtain ⟨rfl, N17q, e17⟩ := hQ17
      have N17 := Fr.app N14 N17q
      refine own_sh (A' := T17.setTop (mkF m 221 _ [(.int (1 : Int32))])) ?_
      refine o_ifN X17 hx hby D0_221 ((if0 _ _).trans (feq (by decide : ¬ ((1 : Int32) = (0 : Int32)))).1) ?_
      refine o_aload X17 hx hby D0_224 rfl rfl ?_
      refine o_iconst X17 hx hby D0_226 (v := 1) rfl ?_
      refine o_iload X17 hx hby D0_227 rfl ?_
      refine o_iload X17 hx hby D0_229 rfl ?_
      refine o_iload X17 hx hby D0_231 rfl ?_
      refine kS X17 hx hZ hown hby (wd hw 76 rfl) (wd hw 77 rfl) (wd hw 2 rfl) (wd hw 78 rfl) (rm_at1O l Z a0 hw [] r12 (0 : Int32) c1 f1 kr12 (1 : Int32) [(.int (nar .byte f0))] (0 : Int32) h13 n0 (own_leN (by omega)) V_r12_13 (by decide)) (by decide) (by decide) (by decide) (by decide) (by decide) (by rw [hml]; rfl) [(.ref r12), (.int (1 : Int32)), (.int (0 : Int32)), (.int c1), (.int f1)] [] (lenOf pd__40_91BIICB_41Z rfl) (W := 0) rfl rfl D0_233 rfl e17 ?_
      intro v18 T18 L18 X18 hQ18
      obtain ⟨rfl, N18q, e18⟩ := hQ18
      have N18 := Fr.app N17 N18q
      refine own_sh (A' := T18.setTop (mkF m 236 _ [(.int (1 : Int32))])) ?_
      refine o_ifN X18 hx hby D0_236 ((if0 _ _).trans (feq (by decide : ¬ ((1 : Int32) = (0 : Int32)))).1) ?_
      refine o_aload X18 hx hby D0_239 rfl rfl ?_
      refine o_iconst X18 hx hby D0_241 (v := 2) rfl ?_
      refine o_iload X18 hx hby D0_242 rfl ?_
      refine o_iload X18 hx hby D0_244 rfl ?_
      refine o_iload X18 hx hby D0_246 rfl ?_
      refine kS X18 hx hZ hown hby (wd hw 76 rfl) (wd hw 77 rfl) (wd hw 2 rfl) (wd hw 78 rfl) (rm_at2O l Z a0 hw [] r12 (0 : Int32) c2 f2 kr12 (1 : Int32) [(.int (nar .byte f0))] (0 : Int32) h13 n0 (own_leN (by omega)) V_r12_13 (by decide)) (by decide) (by decide) (by decide) (by decide) (by decide) (by rw [hml]; rfl) [(.ref r12), (.int (2 : Int32)), (.int (0 : Int32)), (.int c2), (.int f2)] [] (lenOf pd__40_91BIICB_41Z rfl) (W := 0) rfl rfl D0_248 rfl e18 ?_
      intro v19 T19 L19 X19 hQ19
      obtain ⟨rfl, N19q, e19⟩ := hQ19
      have N19 := Fr.app N18 N19q
      refine own_sh (A' := T19.setTop (mkF m 251 _ [(.int (1 : Int32))])) ?_
      refine o_ifN X19 hx hby D0_251 ((if0 _ _).trans (feq (by decide : ¬ ((1 : Int32) = (0 : Int32)))).1) ?_
      refine o_iconst X19 hx hby D0_254 (v := 1) rfl ?_
      refine o_goto X19 hx hby D0_255 (q := 259) (by decide) (by decide) ?_
      exact own_retWS (v := some (.int (1 : Int32))) X19 hS4 (by rw [e19]; exact own_leN (by omega)) (fun h => by first | rfl | (rw [Bd.returns] at h; cases h)) (BodyLoose.notSynchronized Bd) (by decide) (by decide) (⟨rfl, N19⟩) (fun fs hr => retN X19 hx (t := .boolean) Bd.returns (by simp) (hb hby D0_259.1) hr)
    · skip
      refine o_iload X4 hx hby D0_43 rfl ?_
      refine kS X4 hx hZ hown hby (wd hw 37 rfl) (wd hw 38 rfl) (wd hw 2 rfl) (wd hw 39 rfl) (rm_arr2 l Z a0 hw []  T4.heap n0 (own_leN (by omega)) ) (by decide) (by decide) (by decide) (by decide) (by decide) (by rw [hml]; rfl) [(.int (2 : Int32))] [] (lenOf pd__40I_41_91B rfl) (W := 0) rfl rfl D0_45 rfl rfl ?_
      intro v20 T20 L20 X20 hQ20
      obtain ⟨r20, kr20, rfl, N20q, K20, ge20, Vr20⟩ := hQ20
      have sz20 := own_leN K20.1
      have ge20' := own_leN ge20
      have lt_r20 := own_ltN Vr20.lt
      have gn_r20 : n0 ≤ r20 := own_leN (by omega)
      have N20 := Fr.app N4 N20q
      refine own_sh (A' := T20.setTop (mkF m 48 _ [(.ref r20)])) ?_
      refine o_astore X20 hx hby D0_48 rfl (l' := #[.val (.int p0), .val (.int p1), .val (.int p2), .val (.int p3), .val (.int p4), .val (.int c0), .val (.int c1), .val (.int c2), .val (.int (0 : Int32)), .val (.int (2 : Int32)), .val (.ref st), .val (.ref r20), .unset, .unset, .unset, .unset, .unset]) rfl ?_
      refine o_iload X20 hx hby D0_50 rfl ?_
      refine o_i2b X20 hx hby D0_52 ?_
      refine o_istore X20 hx hby D0_53 (l' := #[.val (.int p0), .val (.int p1), .val (.int p2), .val (.int p3), .val (.int p4), .val (.int c0), .val (.int c1), .val (.int c2), .val (.int (0 : Int32)), .val (.int (2 : Int32)), .val (.ref st), .val (.ref r20), .val (.int ((p4).toInt8.toInt32)), .unset, .unset, .unset, .unset]) rfl ?_
      generalize hf0 : ((p4).toInt8.toInt32) = f0
      have nf0 : nar .byte f0 = f0 := by rw [← hf0]; exact own_i8 _
      refine o_iload X20 hx hby D0_55 rfl ?_
      refine o_bipush X20 hx hby D0_57 (v := 8) rfl ?_
      refine o_iushr X20 hx hby D0_59 ?_
      refine o_i2b X20 hx hby D0_60 ?_
      refine o_istore X20 hx hby D0_61 (l' := #[.val (.int p0), .val (.int p1), .val (.int p2), .val (.int p3), .val (.int p4), .val (.int c0), .val (.int c1), .val (.int c2), .val (.int (0 : Int32)), .val (.int (2 : Int32)), .val (.ref st), .val (.ref r20), .val (.int f0), .val (.int ((((p4.toUInt32 >>> ((8 : Int32) &&& 31).toUInt32).toInt32)).toInt8.toInt32)), .unset, .unset, .unset]) rfl ?_
      generalize hf1 : ((((p4.toUInt32 >>> ((8 : Int32) &&& 31).toUInt32).toInt32)).toInt8.toInt32) = f1
      have nf1 : nar .byte f1 = f1 := by rw [← hf1]; exact own_i8 _
      refine o_iload X20 hx hby D0_63 rfl ?_
      refine o_bipush X20 hx hby D0_65 (v := 16) rfl ?_
      refine o_iushr X20 hx hby D0_67 ?_
      refine o_i2b X20 hx hby D0_68 ?_
      refine o_istore X20 hx hby D0_69 (l' := #[.val (.int p0), .val (.int p1), .val (.int p2), .val (.int p3), .val (.int p4), .val (.int c0), .val (.int c1), .val (.int c2), .val (.int (0 : Int32)), .val (.int (2 : Int32)), .val (.ref st), .val (.ref r20), .val (.int f0), .val (.int f1), .val (.int ((((p4.toUInt32 >>> ((16 : Int32) &&& 31).toUInt32).toInt32)).toInt8.toInt32)), .unset, .unset]) rfl ?_
      generalize hf2 : ((((p4.toUInt32 >>> ((16 : Int32) &&& 31).toUInt32).toInt32)).toInt8.toInt32) = f2
      have nf2 : nar .byte f2 = f2 := by rw [← hf2]; exact own_i8 _
      refine o_iload X20 hx hby D0_71 rfl ?_
      refine o_ifN X20 hx hby D0_73 ((if0 _ _).trans (tlt (by decide : (0 : Int32) < (2 : Int32))).2.2.2) ?_
      refine o_aload X20 hx hby D0_76 rfl rfl ?_
      refine o_iconst X20 hx hby D0_78 (v := 0) rfl ?_
      refine o_iload X20 hx hby D0_79 rfl ?_
      obtain ⟨cl_r20_21, Ar_r20_21, q_r20_21, S_r20_21, N_r20_21, H_r20_21, G_r20_21⟩ := id Vr20
      have hin_r20_21 : ¬ ((0 : Int32) < 0 ∨ cl_r20_21.slots.size ≤ ((0 : Int32)).toNatClampNeg) := inb_of S_r20_21 ⟨by decide, by decide⟩
      obtain ⟨T21, h21, X21, e21, W21, st21⟩ := stB X20 hx hZ rfl Ar_r20_21 (j := (0 : Int32)) hin_r20_21 (g := (mkF m 81 #[.val (.int p0), .val (.int p1), .val (.int p2), .val (.int p3), .val (.int p4), .val (.int c0), .val (.int c1), .val (.int c2), .val (.int (0 : Int32)), .val (.int (2 : Int32)), .val (.ref st), .val (.ref r20), .val (.int f0), .val (.int f1), .val (.int f2), .unset, .unset] [(.int f0), (.int (0 : Int32)), (.ref r20)])) rfl rfl (hb hby D0_81.1)
      have V_r20_21 : Arv Z h21 r20 kr20 .byte (2 : Int32) [(.int (nar .byte f0)), (.int (0 : Int32))] (.int (0 : Int32)) := Arv.set Ar_r20_21 q_r20_21 S_r20_21 N_r20_21 H_r20_21 G_r20_21 (fits_nar_byte _) W21 0 rfl (Nat.le_of_ble_eq_true rfl)
      have sz21 := own_leN (Keep.of_wr W21).1
      have N21 := Fr.snoc X21 N20 gn_r20
      refine own_pre (A' := T21.setTop (mkF m 82 #[.val (.int p0), .val (.int p1), .val (.int p2), .val (.int p3), .val (.int p4), .val (.int c0), .val (.int c1), .val (.int c2), .val (.int (0 : Int32)), .val (.int (2 : Int32)), .val (.ref st), .val (.ref r20), .val (.int f0), .val (.int f1), .val (.int f2), .unset, .unset] [])) st21 ?_
      refine o_iload X21 hx hby D0_82 rfl ?_
      refine o_iconst X21 hx hby D0_84 (v := 1) rfl ?_
      refine o_icmpN X21 hx hby D0_85 (tlt (by decide : (1 : Int32) < (2 : Int32))).2.2.2 ?_
      refine o_aload X21 hx hby D0_88 rfl rfl ?_
      refine o_iconst X21 hx hby D0_90 (v := 1) rfl ?_
      refine o_iload X21 hx hby D0_91 rfl ?_
      obtain ⟨cl_r20_22, Ar_r20_22, q_r20_22, S_r20_22, N_r20_22, H_r20_22, G_r20_22⟩ := id V_r20_21
      have hin_r20_22 : ¬ ((1 : Int32) < 0 ∨ cl_r20_22.slots.size ≤ ((1 : Int32)).toNatClampNeg) := inb_of S_r20_22 ⟨by decide, by decide⟩
      obtain ⟨T22, h22, X22, e22, W22, st22⟩ := stB X21 hx hZ e21 Ar_r20_22 (j := (1 : Int32)) hin_r20_22 (g := (mkF m 93 #[.val (.int p0), .val (.int p1), .val (.int p2), .val (.int p3), .val (.int p4), .val (.int c0), .val (.int c1), .val (.int c2), .val (.int (0 : Int32)), .val (.int (2 : Int32)), .val (.ref st), .val (.ref r20), .val (.int f0), .val (.int f1), .val (.int f2), .unset, .unset] [(.int f1), (.int (1 : Int32)), (.ref r20)])) rfl rfl (hb hby D0_93.1)
      have V_r20_22 : Arv Z h22 r20 kr20 .byte (2 : Int32) [(.int (nar .byte f0)), (.int (nar .byte f1))] (.int (0 : Int32)) := Arv.set Ar_r20_22 q_r20_22 S_r20_22 N_r20_22 H_r20_22 G_r20_22 (fits_nar_byte _) W22 1 rfl (Nat.le_of_ble_eq_true rfl)
      have sz22 := own_leN (Keep.of_wr W22).1
      have N22 := Fr.snoc X22 N21 gn_r20
      refine own_pre (A' := T22.setTop (mkF m 94 #[.val (.int p0), .val (.int p1), .val (.int p2), .val (.int p3), .val (.int p4), .val (.int c0), .val (.int c1), .val (.int c2), .val (.int (0 : Int32)), .val (.int (2 : Int32)), .val (.ref st), .val (.ref r20), .val (.int f0), .val (.int f1), .val (.int f2), .unset, .unset] [])) st22 ?_
      refine o_iload X22 hx hby D0_94 rfl ?_
      refine o_iconst X22 hx hby D0_96 (v := 2) rfl ?_
      refine o_icmpY X22 hx hby D0_97 (flt (by decide : ¬ ((2 : Int32) < (2 : Int32)))).2.2.2 (q := 106) (by decide) (by decide) ?_
      refine o_aload X22 hx hby D0_106 rfl rfl ?_
      refine o_aload X22 hx hby D0_108 rfl rfl ?_
      have cT24_st := (own_StrK0 (own_StrK0 (own_StrK0 Str4 K20 nin0 nin0) (Keep.of_wr W21) (ninS (by first | exact own_neN (by omega) | exact own_neN' (by omega) | assumption) nin0) (ninS (by first | exact own_neN (by omega) | exact own_neN' (by omega) | assumption) nin0)) (Keep.of_wr W22) (ninS (by first | exact own_neN (by omega) | exact own_neN' (by omega) | assumption) nin0) (ninS (by first | exact own_neN (by omega) | exact own_neN' (by omega) | assumption) nin0))
      have c25_O := ((((O0.keep K4 all0).keep K20 all0).wr W21 gn_r20).wr W22 gn_r20)
      refine kS X22 hx hZ hown hby (wd hw 40 rfl) (wd hw 41 rfl) (wd hw 42 rfl) (wd hw 43 rfl) (rm_abX0 l Z a0 hw [] st r20 vb kb kr20  (2 : Int32) [(.int (nar .byte f0)), (.int (nar .byte f1))] cs vf h22 n0 (own_leN (by omega)) hST0 c25_O cT24_st V_r20_22 (by decide)) (by decide) (by decide) (by decide) (by decide) (by decide) (by rw [hml]; rfl) [(.ref st), (.ref r20)] [] (lenOf pd__40Ljava_47lang_47String_59_91B_41I rfl) (W := 0) rfl rfl D0_110 rfl e22 ?_
      intro v23 T23 L23 X23 hQ23
      obtain ⟨rfl, N23q, e23⟩ := hQ23
      have N23 := Fr.app N22 N23q
      refine own_sh (A' := T23.setTop (mkF m 113 _ [(.int (0 : Int32))])) ?_
      refine o_istore X23 hx hby D0_113 (l' := #[.val (.int p0), .val (.int p1), .val (.int p2), .val (.int p3), .val (.int p4), .val (.int c0), .val (.int c1), .val (.int c2), .val (.int (0 : Int32)), .val (.int (2 : Int32)), .val (.ref st), .val (.ref r20), .val (.int f0), .val (.int f1), .val (.int f2), .val (.int (0 : Int32)), .unset]) rfl ?_
      refine o_iload X23 hx hby D0_115 rfl ?_
      refine o_iload X23 hx hby D0_117 rfl ?_
      refine o_icmpY X23 hx hby D0_119 (flt (by decide : ¬ ((2 : Int32) < (0 : Int32)))).2.2.2 (q := 134) (by decide) (by decide) ?_
      refine o_iload X23 hx hby D0_134 rfl ?_
      refine o_iconst X23 hx hby D0_136 (v := 1) rfl ?_
      refine o_icmpY X23 hx hby D0_137 (tlt (by decide : (0 : Int32) < (1 : Int32))).1 (q := 148) (by decide) (by decide) ?_
      refine o_iload X23 hx hby D0_148 rfl ?_
      refine o_iconst X23 hx hby D0_150 (v := 2) rfl ?_
      refine o_icmpY X23 hx hby D0_151 (tlt (by decide : (0 : Int32) < (2 : Int32))).1 (q := 162) (by decide) (by decide) ?_
      refine o_iload X23 hx hby D0_162 rfl ?_
      refine o_iconst X23 hx hby D0_164 (v := 3) rfl ?_
      refine o_icmpY X23 hx hby D0_165 (tlt (by decide : (0 : Int32) < (3 : Int32))).1 (q := 176) (by decide) (by decide) ?_
      refine o_iconst X23 hx hby D0_176 (v := 1) rfl ?_
      refine o_goto X23 hx hby D0_177 (q := 181) (by decide) (by decide) ?_
      refine o_istore X23 hx hby D0_181 (l' := #[.val (.int p0), .val (.int p1), .val (.int p2), .val (.int p3), .val (.int p4), .val (.int c0), .val (.int c1), .val (.int c2), .val (.int (0 : Int32)), .val (.int (2 : Int32)), .val (.ref st), .val (.ref r20), .val (.int f0), .val (.int f1), .val (.int f2), .val (.int (0 : Int32)), .val (.int (1 : Int32))]) rfl ?_
      refine o_iload X23 hx hby D0_183 rfl ?_
      refine o_ifY X23 hx hby D0_185 ((if0 _ _).trans (feq (by decide : ¬ ((1 : Int32) = (0 : Int32)))).2) (q := 200) (by decide) (by decide) ?_
      refine o_iload X23 hx hby D0_200 rfl ?_
      refine o_iload X23 hx hby D0_202 rfl ?_
      refine o_icmpY X23 hx hby D0_204 (teq (by decide : (0 : Int32) = (0 : Int32))).1 (q := 209) (by decide) (by decide) ?_
      refine o_aload X23 hx hby D0_209 rfl rfl ?_
      refine o_iconst X23 hx hby D0_211 (v := 0) rfl ?_
      refine o_iload X23 hx hby D0_212 rfl ?_
      refine o_iload X23 hx hby D0_214 rfl ?_
      refine o_iload X23 hx hby D0_216 rfl ?_
      refine kS X23 hx hZ hown hby (wd hw 76 rfl) (wd hw 77 rfl) (wd hw 2 rfl) (wd hw 78 rfl) (rm_at0B l Z a0 hw [] r20 (0 : Int32) c0 f0 kr20 (2 : Int32) [(.int (nar .byte f0)), (.int (nar .byte f1))] (nar .byte f0) h22 n0 (own_leN (by omega)) V_r20_22 (by decide) rfl (by decide) nf0) (by decide) (by decide) (by decide) (by decide) (by decide) (by rw [hml]; rfl) [(.ref r20), (.int (0 : Int32)), (.int (0 : Int32)), (.int c0), (.int f0)] [] (lenOf pd__40_91BIICB_41Z rfl) (W := 0) rfl rfl D0_218 rfl e23 ?_
      intro v26 T26 L26 X26 hQ26
      obtain ⟨rfl, N26q, e26⟩ := hQ26
      have N26 := Fr.app N23 N26q
      refine own_sh (A' := T26.setTop (mkF m 221 _ [(.int (1 : Int32))])) ?_
      refine o_ifN X26 hx hby D0_221 ((if0 _ _).trans (feq (by decide : ¬ ((1 : Int32) = (0 : Int32)))).1) ?_
      refine o_aload X26 hx hby D0_224 rfl rfl ?_
      refine o_iconst X26 hx hby D0_226 (v := 1) rfl ?_
      refine o_iload X26 hx hby D0_227 rfl ?_
      refine o_iload X26 hx hby D0_229 rfl ?_
      refine o_iload X26 hx hby D0_231 rfl ?_
      refine kS X26 hx hZ hown hby (wd hw 76 rfl) (wd hw 77 rfl) (wd hw 2 rfl) (wd hw 78 rfl) (rm_at1B l Z a0 hw [] r20 (0 : Int32) c1 f1 kr20 (2 : Int32) [(.int (nar .byte f0)), (.int (nar .byte f1))] (nar .byte f1) h22 n0 (own_leN (by omega)) V_r20_22 (by decide) rfl (by decide) nf1) (by decide) (by decide) (by decide) (by decide) (by decide) (by rw [hml]; rfl) [(.ref r20), (.int (1 : Int32)), (.int (0 : Int32)), (.int c1), (.int f1)] [] (lenOf pd__40_91BIICB_41Z rfl) (W := 0) rfl rfl D0_233 rfl e26 ?_
      intro v27 T27 L27 X27 hQ27
      obtain ⟨rfl, N27q, e27⟩ := hQ27
      have N27 := Fr.app N26 N27q
      refine own_sh (A' := T27.setTop (mkF m 236 _ [(.int (1 : Int32))])) ?_
      refine o_ifN X27 hx hby D0_236 ((if0 _ _).trans (feq (by decide : ¬ ((1 : Int32) = (0 : Int32)))).1) ?_
      refine o_aload X27 hx hby D0_239 rfl rfl ?_
      refine o_iconst X27 hx hby D0_241 (v := 2) rfl ?_
      refine o_iload X27 hx hby D0_242 rfl ?_
      refine o_iload X27 hx hby D0_244 rfl ?_
      refine o_iload X27 hx hby D0_246 rfl ?_
      refine kS X27 hx hZ hown hby (wd hw 76 rfl) (wd hw 77 rfl) (wd hw 2 rfl) (wd hw 78 rfl) (rm_at2O l Z a0 hw [] r20 (0 : Int32) c2 f2 kr20 (2 : Int32) [(.int (nar .byte f0)), (.int (nar .byte f1))] (0 : Int32) h22 n0 (own_leN (by omega)) V_r20_22 (by decide)) (by decide) (by decide) (by decide) (by decide) (by decide) (by rw [hml]; rfl) [(.ref r20), (.int (2 : Int32)), (.int (0 : Int32)), (.int c2), (.int f2)] [] (lenOf pd__40_91BIICB_41Z rfl) (W := 0) rfl rfl D0_248 rfl e27 ?_
      intro v28 T28 L28 X28 hQ28
      obtain ⟨rfl, N28q, e28⟩ := hQ28
      have N28 := Fr.app N27 N28q
      refine own_sh (A' := T28.setTop (mkF m 251 _ [(.int (1 : Int32))])) ?_
      refine o_ifN X28 hx hby D0_251 ((if0 _ _).trans (feq (by decide : ¬ ((1 : Int32) = (0 : Int32)))).1) ?_
      refine o_iconst X28 hx hby D0_254 (v := 1) rfl ?_
      refine o_goto X28 hx hby D0_255 (q := 259) (by decide) (by decide) ?_
      exact own_retWS (v := some (.int (1 : Int32))) X28 hS4 (by rw [e28]; exact own_leN (by omega)) (fun h => by first | rfl | (rw [Bd.returns] at h; cases h)) (BodyLoose.notSynchronized Bd) (by decide) (by decide) (⟨rfl, N28⟩) (fun fs hr => retN X28 hx (t := .boolean) Bd.returns (by simp) (hb hby D0_259.1) hr)
    · skip
      refine o_iload X4 hx hby D0_43 rfl ?_
      refine kS X4 hx hZ hown hby (wd hw 37 rfl) (wd hw 38 rfl) (wd hw 2 rfl) (wd hw 39 rfl) (rm_arr3 l Z a0 hw []  T4.heap n0 (own_leN (by omega)) ) (by decide) (by decide) (by decide) (by decide) (by decide) (by rw [hml]; rfl) [(.int (3 : Int32))] [] (lenOf pd__40I_41_91B rfl) (W := 0) rfl rfl D0_45 rfl rfl ?_
      intro v29 T29 L29 X29 hQ29
      obtain ⟨r29, kr29, rfl, N29q, K29, ge29, Vr29⟩ := hQ29
      have sz29 := own_leN K29.1
      have ge29' := own_leN ge29
      have lt_r29 := own_ltN Vr29.lt
      have gn_r29 : n0 ≤ r29 := own_leN (by omega)
      have N29 := Fr.app N4 N29q
      refine own_sh (A' := T29.setTop (mkF m 48 _ [(.ref r29)])) ?_
      refine o_astore X29 hx hby D0_48 rfl (l' := #[.val (.int p0), .val (.int p1), .val (.int p2), .val (.int p3), .val (.int p4), .val (.int c0), .val (.int c1), .val (.int c2), .val (.int (0 : Int32)), .val (.int (3 : Int32)), .val (.ref st), .val (.ref r29), .unset, .unset, .unset, .unset, .unset]) rfl ?_
      refine o_iload X29 hx hby D0_50 rfl ?_
      refine o_i2b X29 hx hby D0_52 ?_
      refine o_istore X29 hx hby D0_53 (l' := #[.val (.int p0), .val (.int p1), .val (.int p2), .val (.int p3), .val (.int p4), .val (.int c0), .val (.int c1), .val (.int c2), .val (.int (0 : Int32)), .val (.int (3 : Int32)), .val (.ref st), .val (.ref r29), .val (.int ((p4).toInt8.toInt32)), .unset, .unset, .unset, .unset]) rfl ?_
      generalize hf0 : ((p4).toInt8.toInt32) = f0
      have nf0 : nar .byte f0 = f0 := by rw [← hf0]; exact own_i8 _
      refine o_iload X29 hx hby D0_55 rfl ?_
      refine o_bipush X29 hx hby D0_57 (v := 8) rfl ?_
      refine o_iushr X29 hx hby D0_59 ?_
      refine o_i2b X29 hx hby D0_60 ?_
      refine o_istore X29 hx hby D0_61 (l' := #[.val (.int p0), .val (.int p1), .val (.int p2), .val (.int p3), .val (.int p4), .val (.int c0), .val (.int c1), .val (.int c2), .val (.int (0 : Int32)), .val (.int (3 : Int32)), .val (.ref st), .val (.ref r29), .val (.int f0), .val (.int ((((p4.toUInt32 >>> ((8 : Int32) &&& 31).toUInt32).toInt32)).toInt8.toInt32)), .unset, .unset, .unset]) rfl ?_
      generalize hf1 : ((((p4.toUInt32 >>> ((8 : Int32) &&& 31).toUInt32).toInt32)).toInt8.toInt32) = f1
      have nf1 : nar .byte f1 = f1 := by rw [← hf1]; exact own_i8 _
      refine o_iload X29 hx hby D0_63 rfl ?_
      refine o_bipush X29 hx hby D0_65 (v := 16) rfl ?_
      refine o_iushr X29 hx hby D0_67 ?_
      refine o_i2b X29 hx hby D0_68 ?_
      refine o_istore X29 hx hby D0_69 (l' := #[.val (.int p0), .val (.int p1), .val (.int p2), .val (.int p3), .val (.int p4), .val (.int c0), .val (.int c1), .val (.int c2), .val (.int (0 : Int32)), .val (.int (3 : Int32)), .val (.ref st), .val (.ref r29), .val (.int f0), .val (.int f1), .val (.int ((((p4.toUInt32 >>> ((16 : Int32) &&& 31).toUInt32).toInt32)).toInt8.toInt32)), .unset, .unset]) rfl ?_
      generalize hf2 : ((((p4.toUInt32 >>> ((16 : Int32) &&& 31).toUInt32).toInt32)).toInt8.toInt32) = f2
      have nf2 : nar .byte f2 = f2 := by rw [← hf2]; exact own_i8 _
      refine o_iload X29 hx hby D0_71 rfl ?_
      refine o_ifN X29 hx hby D0_73 ((if0 _ _).trans (tlt (by decide : (0 : Int32) < (3 : Int32))).2.2.2) ?_
      refine o_aload X29 hx hby D0_76 rfl rfl ?_
      refine o_iconst X29 hx hby D0_78 (v := 0) rfl ?_
      refine o_iload X29 hx hby D0_79 rfl ?_
      obtain ⟨cl_r29_30, Ar_r29_30, q_r29_30, S_r29_30, N_r29_30, H_r29_30, G_r29_30⟩ := id Vr29
      have hin_r29_30 : ¬ ((0 : Int32) < 0 ∨ cl_r29_30.slots.size ≤ ((0 : Int32)).toNatClampNeg) := inb_of S_r29_30 ⟨by decide, by decide⟩
      obtain ⟨T30, h30, X30, e30, W30, st30⟩ := stB X29 hx hZ rfl Ar_r29_30 (j := (0 : Int32)) hin_r29_30 (g := (mkF m 81 #[.val (.int p0), .val (.int p1), .val (.int p2), .val (.int p3), .val (.int p4), .val (.int c0), .val (.int c1), .val (.int c2), .val (.int (0 : Int32)), .val (.int (3 : Int32)), .val (.ref st), .val (.ref r29), .val (.int f0), .val (.int f1), .val (.int f2), .unset, .unset] [(.int f0), (.int (0 : Int32)), (.ref r29)])) rfl rfl (hb hby D0_81.1)
      have V_r29_30 : Arv Z h30 r29 kr29 .byte (3 : Int32) [(.int (nar .byte f0)), (.int (0 : Int32)), (.int (0 : Int32))] (.int (0 : Int32)) := Arv.set Ar_r29_30 q_r29_30 S_r29_30 N_r29_30 H_r29_30 G_r29_30 (fits_nar_byte _) W30 0 rfl (Nat.le_of_ble_eq_true rfl)
      have sz30 := own_leN (Keep.of_wr W30).1
      have N30 := Fr.snoc X30 N29 gn_r29
      refine own_pre (A' := T30.setTop (mkF m 82 #[.val (.int p0), .val (.int p1), .val (.int p2), .val (.int p3), .val (.int p4), .val (.int c0), .val (.int c1), .val (.int c2), .val (.int (0 : Int32)), .val (.int (3 : Int32)), .val (.ref st), .val (.ref r29), .val (.int f0), .val (.int f1), .val (.int f2), .unset, .unset] [])) st30 ?_
      refine o_iload X30 hx hby D0_82 rfl ?_
      refine o_iconst X30 hx hby D0_84 (v := 1) rfl ?_
      refine o_icmpN X30 hx hby D0_85 (tlt (by decide : (1 : Int32) < (3 : Int32))).2.2.2 ?_
      refine o_aload X30 hx hby D0_88 rfl rfl ?_
      refine o_iconst X30 hx hby D0_90 (v := 1) rfl ?_
      refine o_iload X30 hx hby D0_91 rfl ?_
      obtain ⟨cl_r29_31, Ar_r29_31, q_r29_31, S_r29_31, N_r29_31, H_r29_31, G_r29_31⟩ := id V_r29_30
      have hin_r29_31 : ¬ ((1 : Int32) < 0 ∨ cl_r29_31.slots.size ≤ ((1 : Int32)).toNatClampNeg) := inb_of S_r29_31 ⟨by decide, by decide⟩
      obtain ⟨T31, h31, X31, e31, W31, st31⟩ := stB X30 hx hZ e30 Ar_r29_31 (j := (1 : Int32)) hin_r29_31 (g := (mkF m 93 #[.val (.int p0), .val (.int p1), .val (.int p2), .val (.int p3), .val (.int p4), .val (.int c0), .val (.int c1), .val (.int c2), .val (.int (0 : Int32)), .val (.int (3 : Int32)), .val (.ref st), .val (.ref r29), .val (.int f0), .val (.int f1), .val (.int f2), .unset, .unset] [(.int f1), (.int (1 : Int32)), (.ref r29)])) rfl rfl (hb hby D0_93.1)
      have V_r29_31 : Arv Z h31 r29 kr29 .byte (3 : Int32) [(.int (nar .byte f0)), (.int (nar .byte f1)), (.int (0 : Int32))] (.int (0 : Int32)) := Arv.set Ar_r29_31 q_r29_31 S_r29_31 N_r29_31 H_r29_31 G_r29_31 (fits_nar_byte _) W31 1 rfl (Nat.le_of_ble_eq_true rfl)
      have sz31 := own_leN (Keep.of_wr W31).1
      have N31 := Fr.snoc X31 N30 gn_r29
      refine own_pre (A' := T31.setTop (mkF m 94 #[.val (.int p0), .val (.int p1), .val (.int p2), .val (.int p3), .val (.int p4), .val (.int c0), .val (.int c1), .val (.int c2), .val (.int (0 : Int32)), .val (.int (3 : Int32)), .val (.ref st), .val (.ref r29), .val (.int f0), .val (.int f1), .val (.int f2), .unset, .unset] [])) st31 ?_
      refine o_iload X31 hx hby D0_94 rfl ?_
      refine o_iconst X31 hx hby D0_96 (v := 2) rfl ?_
      refine o_icmpN X31 hx hby D0_97 (tlt (by decide : (2 : Int32) < (3 : Int32))).2.2.2 ?_
      refine o_aload X31 hx hby D0_100 rfl rfl ?_
      refine o_iconst X31 hx hby D0_102 (v := 2) rfl ?_
      refine o_iload X31 hx hby D0_103 rfl ?_
      obtain ⟨cl_r29_32, Ar_r29_32, q_r29_32, S_r29_32, N_r29_32, H_r29_32, G_r29_32⟩ := id V_r29_31
      have hin_r29_32 : ¬ ((2 : Int32) < 0 ∨ cl_r29_32.slots.size ≤ ((2 : Int32)).toNatClampNeg) := inb_of S_r29_32 ⟨by decide, by decide⟩
      obtain ⟨T32, h32, X32, e32, W32, st32⟩ := stB X31 hx hZ e31 Ar_r29_32 (j := (2 : Int32)) hin_r29_32 (g := (mkF m 105 #[.val (.int p0), .val (.int p1), .val (.int p2), .val (.int p3), .val (.int p4), .val (.int c0), .val (.int c1), .val (.int c2), .val (.int (0 : Int32)), .val (.int (3 : Int32)), .val (.ref st), .val (.ref r29), .val (.int f0), .val (.int f1), .val (.int f2), .unset, .unset] [(.int f2), (.int (2 : Int32)), (.ref r29)])) rfl rfl (hb hby D0_105.1)
      have V_r29_32 : Arv Z h32 r29 kr29 .byte (3 : Int32) [(.int (nar .byte f0)), (.int (nar .byte f1)), (.int (nar .byte f2))] (.int (0 : Int32)) := Arv.set Ar_r29_32 q_r29_32 S_r29_32 N_r29_32 H_r29_32 G_r29_32 (fits_nar_byte _) W32 2 rfl (Nat.le_of_ble_eq_true rfl)
      have sz32 := own_leN (Keep.of_wr W32).1
      have N32 := Fr.snoc X32 N31 gn_r29
      refine own_pre (A' := T32.setTop (mkF m 106 #[.val (.int p0), .val (.int p1), .val (.int p2), .val (.int p3), .val (.int p4), .val (.int c0), .val (.int c1), .val (.int c2), .val (.int (0 : Int32)), .val (.int (3 : Int32)), .val (.ref st), .val (.ref r29), .val (.int f0), .val (.int f1), .val (.int f2), .unset, .unset] [])) st32 ?_
      refine o_aload X32 hx hby D0_106 rfl rfl ?_
      refine o_aload X32 hx hby D0_108 rfl rfl ?_
      have cT34_st := (own_StrK0 (own_StrK0 (own_StrK0 (own_StrK0 Str4 K29 nin0 nin0) (Keep.of_wr W30) (ninS (by first | exact own_neN (by omega) | exact own_neN' (by omega) | assumption) nin0) (ninS (by first | exact own_neN (by omega) | exact own_neN' (by omega) | assumption) nin0)) (Keep.of_wr W31) (ninS (by first | exact own_neN (by omega) | exact own_neN' (by omega) | assumption) nin0) (ninS (by first | exact own_neN (by omega) | exact own_neN' (by omega) | assumption) nin0)) (Keep.of_wr W32) (ninS (by first | exact own_neN (by omega) | exact own_neN' (by omega) | assumption) nin0) (ninS (by first | exact own_neN (by omega) | exact own_neN' (by omega) | assumption) nin0))
      have c35_O := (((((O0.keep K4 all0).keep K29 all0).wr W30 gn_r29).wr W31 gn_r29).wr W32 gn_r29)
      refine kS X32 hx hZ hown hby (wd hw 40 rfl) (wd hw 41 rfl) (wd hw 42 rfl) (wd hw 43 rfl) (rm_abX0 l Z a0 hw [] st r29 vb kb kr29  (3 : Int32) [(.int (nar .byte f0)), (.int (nar .byte f1)), (.int (nar .byte f2))] cs vf h32 n0 (own_leN (by omega)) hST0 c35_O cT34_st V_r29_32 (by decide)) (by decide) (by decide) (by decide) (by decide) (by decide) (by rw [hml]; rfl) [(.ref st), (.ref r29)] [] (lenOf pd__40Ljava_47lang_47String_59_91B_41I rfl) (W := 0) rfl rfl D0_110 rfl e32 ?_
      intro v33 T33 L33 X33 hQ33
      obtain ⟨rfl, N33q, e33⟩ := hQ33
      have N33 := Fr.app N32 N33q
      refine own_sh (A' := T33.setTop (mkF m 113 _ [(.int (0 : Int32))])) ?_
      refine o_istore X33 hx hby D0_113 (l' := #[.val (.int p0), .val (.int p1), .val (.int p2), .val (.int p3), .val (.int p4), .val (.int c0), .val (.int c1), .val (.int c2), .val (.int (0 : Int32)), .val (.int (3 : Int32)), .val (.ref st), .val (.ref r29), .val (.int f0), .val (.int f1), .val (.int f2), .val (.int (0 : Int32)), .unset]) rfl ?_
      refine o_iload X33 hx hby D0_115 rfl ?_
      refine o_iload X33 hx hby D0_117 rfl ?_
      refine o_icmpY X33 hx hby D0_119 (flt (by decide : ¬ ((3 : Int32) < (0 : Int32)))).2.2.2 (q := 134) (by decide) (by decide) ?_
      refine o_iload X33 hx hby D0_134 rfl ?_
      refine o_iconst X33 hx hby D0_136 (v := 1) rfl ?_
      refine o_icmpY X33 hx hby D0_137 (tlt (by decide : (0 : Int32) < (1 : Int32))).1 (q := 148) (by decide) (by decide) ?_
      refine o_iload X33 hx hby D0_148 rfl ?_
      refine o_iconst X33 hx hby D0_150 (v := 2) rfl ?_
      refine o_icmpY X33 hx hby D0_151 (tlt (by decide : (0 : Int32) < (2 : Int32))).1 (q := 162) (by decide) (by decide) ?_
      refine o_iload X33 hx hby D0_162 rfl ?_
      refine o_iconst X33 hx hby D0_164 (v := 3) rfl ?_
      refine o_icmpY X33 hx hby D0_165 (tlt (by decide : (0 : Int32) < (3 : Int32))).1 (q := 176) (by decide) (by decide) ?_
      refine o_iconst X33 hx hby D0_176 (v := 1) rfl ?_
      refine o_goto X33 hx hby D0_177 (q := 181) (by decide) (by decide) ?_
      refine o_istore X33 hx hby D0_181 (l' := #[.val (.int p0), .val (.int p1), .val (.int p2), .val (.int p3), .val (.int p4), .val (.int c0), .val (.int c1), .val (.int c2), .val (.int (0 : Int32)), .val (.int (3 : Int32)), .val (.ref st), .val (.ref r29), .val (.int f0), .val (.int f1), .val (.int f2), .val (.int (0 : Int32)), .val (.int (1 : Int32))]) rfl ?_
      refine o_iload X33 hx hby D0_183 rfl ?_
      refine o_ifY X33 hx hby D0_185 ((if0 _ _).trans (feq (by decide : ¬ ((1 : Int32) = (0 : Int32)))).2) (q := 200) (by decide) (by decide) ?_
      refine o_iload X33 hx hby D0_200 rfl ?_
      refine o_iload X33 hx hby D0_202 rfl ?_
      refine o_icmpY X33 hx hby D0_204 (teq (by decide : (0 : Int32) = (0 : Int32))).1 (q := 209) (by decide) (by decide) ?_
      refine o_aload X33 hx hby D0_209 rfl rfl ?_
      refine o_iconst X33 hx hby D0_211 (v := 0) rfl ?_
      refine o_iload X33 hx hby D0_212 rfl ?_
      refine o_iload X33 hx hby D0_214 rfl ?_
      refine o_iload X33 hx hby D0_216 rfl ?_
      refine kS X33 hx hZ hown hby (wd hw 76 rfl) (wd hw 77 rfl) (wd hw 2 rfl) (wd hw 78 rfl) (rm_at0B l Z a0 hw [] r29 (0 : Int32) c0 f0 kr29 (3 : Int32) [(.int (nar .byte f0)), (.int (nar .byte f1)), (.int (nar .byte f2))] (nar .byte f0) h32 n0 (own_leN (by omega)) V_r29_32 (by decide) rfl (by decide) nf0) (by decide) (by decide) (by decide) (by decide) (by decide) (by rw [hml]; rfl) [(.ref r29), (.int (0 : Int32)), (.int (0 : Int32)), (.int c0), (.int f0)] [] (lenOf pd__40_91BIICB_41Z rfl) (W := 0) rfl rfl D0_218 rfl e33 ?_
      intro v36 T36 L36 X36 hQ36
      obtain ⟨rfl, N36q, e36⟩ := hQ36
      have N36 := Fr.app N33 N36q
      refine own_sh (A' := T36.setTop (mkF m 221 _ [(.int (1 : Int32))])) ?_
      refine o_ifN X36 hx hby D0_221 ((if0 _ _).trans (feq (by decide : ¬ ((1 : Int32) = (0 : Int32)))).1) ?_
      refine o_aload X36 hx hby D0_224 rfl rfl ?_
      refine o_iconst X36 hx hby D0_226 (v := 1) rfl ?_
      refine o_iload X36 hx hby D0_227 rfl ?_
      refine o_iload X36 hx hby D0_229 rfl ?_
      refine o_iload X36 hx hby D0_231 rfl ?_
      refine kS X36 hx hZ hown hby (wd hw 76 rfl) (wd hw 77 rfl) (wd hw 2 rfl) (wd hw 78 rfl) (rm_at1B l Z a0 hw [] r29 (0 : Int32) c1 f1 kr29 (3 : Int32) [(.int (nar .byte f0)), (.int (nar .byte f1)), (.int (nar .byte f2))] (nar .byte f1) h32 n0 (own_leN (by omega)) V_r29_32 (by decide) rfl (by decide) nf1) (by decide) (by decide) (by decide) (by decide) (by decide) (by rw [hml]; rfl) [(.ref r29), (.int (1 : Int32)), (.int (0 : Int32)), (.int c1), (.int f1)] [] (lenOf pd__40_91BIICB_41Z rfl) (W := 0) rfl rfl D0_233 rfl e36 ?_
      intro v37 T37 L37 X37 hQ37
      obtain ⟨rfl, N37q, e37⟩ := hQ37
      have N37 := Fr.app N36 N37q
      refine own_sh (A' := T37.setTop (mkF m 236 _ [(.int (1 : Int32))])) ?_
      refine o_ifN X37 hx hby D0_236 ((if0 _ _).trans (feq (by decide : ¬ ((1 : Int32) = (0 : Int32)))).1) ?_
      refine o_aload X37 hx hby D0_239 rfl rfl ?_
      refine o_iconst X37 hx hby D0_241 (v := 2) rfl ?_
      refine o_iload X37 hx hby D0_242 rfl ?_
      refine o_iload X37 hx hby D0_244 rfl ?_
      refine o_iload X37 hx hby D0_246 rfl ?_
      refine kS X37 hx hZ hown hby (wd hw 76 rfl) (wd hw 77 rfl) (wd hw 2 rfl) (wd hw 78 rfl) (rm_at2B l Z a0 hw [] r29 (0 : Int32) c2 f2 kr29 (3 : Int32) [(.int (nar .byte f0)), (.int (nar .byte f1)), (.int (nar .byte f2))] (nar .byte f2) h32 n0 (own_leN (by omega)) V_r29_32 (by decide) rfl (by decide) nf2) (by decide) (by decide) (by decide) (by decide) (by decide) (by rw [hml]; rfl) [(.ref r29), (.int (2 : Int32)), (.int (0 : Int32)), (.int c2), (.int f2)] [] (lenOf pd__40_91BIICB_41Z rfl) (W := 0) rfl rfl D0_248 rfl e37 ?_
      intro v38 T38 L38 X38 hQ38
      obtain ⟨rfl, N38q, e38⟩ := hQ38
      have N38 := Fr.app N37 N38q
      refine own_sh (A' := T38.setTop (mkF m 251 _ [(.int (1 : Int32))])) ?_
      refine o_ifN X38 hx hby D0_251 ((if0 _ _).trans (feq (by decide : ¬ ((1 : Int32) = (0 : Int32)))).1) ?_
      refine o_iconst X38 hx hby D0_254 (v := 1) rfl ?_
      refine o_goto X38 hx hby D0_255 (q := 259) (by decide) (by decide) ?_
      exact own_retWS (v := some (.int (1 : Int32))) X38 hS4 (by rw [e38]; exact own_leN (by omega)) (fun h => by first | rfl | (rw [Bd.returns] at h; cases h)) (BodyLoose.notSynchronized Bd) (by decide) (by decide) (⟨rfl, N38⟩) (fun fs hr => retN X38 hx (t := .boolean) Bd.returns (by simp) (hb hby D0_259.1) hr)
  · skip
    refine o_iload X3 hx hby D0_30 rfl ?_
    refine o_iload X3 hx hby D0_32 rfl ?_
    refine o_iload X3 hx hby D0_34 rfl ?_
    refine o_iload X3 hx hby D0_36 rfl ?_
    refine kS X3 hx hZ hown hby (wd hw 4 rfl) (wd hw 5 rfl) (wd hw 2 rfl) (wd hw 6 rfl) (rm_key1 l Z a0 hw [] c0 c1 c2 cs vf h0 n0 Z0 hST0 O0 hc0) (by decide) (by decide) (by decide) (by decide) (by decide) (by rw [hml]; rfl) [(.int (1 : Int32)), (.int c0), (.int c1), (.int c2)] [] (lenOf pd__40ICCC_41Ljava_47lang_47String_59 rfl) (W := 0) rfl rfl D0_38 rfl e3 ?_
    intro v39 T39 L39 X39 hQ39
    obtain ⟨st, vb, kb, rfl, N39q, K39, ge39, lt_st, lt_vb, Str39⟩ := hQ39
    have sz39 := own_leN K39.1
    have lt_st := own_ltN lt_st
    have lt_vb := own_ltN lt_vb
    have N39 := Fr.app N3 N39q
    refine own_sh (A' := T39.setTop (mkF m 41 _ [(.ref st)])) ?_
    refine o_astore X39 hx hby D0_41 rfl (l' := #[.val (.int p0), .val (.int p1), .val (.int p2), .val (.int p3), .val (.int p4), .val (.int c0), .val (.int c1), .val (.int c2), .val (.int (1 : Int32)), .val (.int mm), .val (.ref st), .unset, .unset, .unset, .unset, .unset, .unset]) rfl ?_
    rcases hq2 with rfl | rfl | rfl | rfl
    · skip
      refine o_iload X39 hx hby D0_43 rfl ?_
      refine kS X39 hx hZ hown hby (wd hw 37 rfl) (wd hw 38 rfl) (wd hw 2 rfl) (wd hw 39 rfl) (rm_arr0 l Z a0 hw []  T39.heap n0 (own_leN (by omega)) ) (by decide) (by decide) (by decide) (by decide) (by decide) (by rw [hml]; rfl) [(.int (0 : Int32))] [] (lenOf pd__40I_41_91B rfl) (W := 0) rfl rfl D0_45 rfl rfl ?_
      intro v40 T40 L40 X40 hQ40
      obtain ⟨r40, kr40, rfl, N40q, K40, ge40, Vr40⟩ := hQ40
      have sz40 := own_leN K40.1
      have ge40' := own_leN ge40
      have lt_r40 := own_ltN Vr40.lt
      have gn_r40 : n0 ≤ r40 := own_leN (by omega)
      have N40 := Fr.app N39 N40q
      refine own_sh (A' := T40.setTop (mkF m 48 _ [(.ref r40)])) ?_
      refine o_astore X40 hx hby D0_48 rfl (l' := #[.val (.int p0), .val (.int p1), .val (.int p2), .val (.int p3), .val (.int p4), .val (.int c0), .val (.int c1), .val (.int c2), .val (.int (1 : Int32)), .val (.int (0 : Int32)), .val (.ref st), .val (.ref r40), .unset, .unset, .unset, .unset, .unset]) rfl ?_
      refine o_iload X40 hx hby D0_50 rfl ?_
      refine o_i2b X40 hx hby D0_52 ?_
      refine o_istore X40 hx hby D0_53 (l' := #[.val (.int p0), .val (.int p1), .val (.int p2), .val (.int p3), .val (.int p4), .val (.int c0), .val (.int c1), .val (.int c2), .val (.int (1 : Int32)), .val (.int (0 : Int32)), .val (.ref st), .val (.ref r40), .val (.int ((p4).toInt8.toInt32)), .unset, .unset, .unset, .unset]) rfl ?_
      generalize hf0 : ((p4).toInt8.toInt32) = f0
      have nf0 : nar .byte f0 = f0 := by rw [← hf0]; exact own_i8 _
      refine o_iload X40 hx hby D0_55 rfl ?_
      refine o_bipush X40 hx hby D0_57 (v := 8) rfl ?_
      refine o_iushr X40 hx hby D0_59 ?_
      refine o_i2b X40 hx hby D0_60 ?_
      refine o_istore X40 hx hby D0_61 (l' := #[.val (.int p0), .val (.int p1), .val (.int p2), .val (.int p3), .val (.int p4), .val (.int c0), .val (.int c1), .val (.int c2), .val (.int (1 : Int32)), .val (.int (0 : Int32)), .val (.ref st), .val (.ref r40), .val (.int f0), .val (.int ((((p4.toUInt32 >>> ((8 : Int32) &&& 31).toUInt32).toInt32)).toInt8.toInt32)), .unset, .unset, .unset]) rfl ?_
      generalize hf1 : ((((p4.toUInt32 >>> ((8 : Int32) &&& 31).toUInt32).toInt32)).toInt8.toInt32) = f1
      have nf1 : nar .byte f1 = f1 := by rw [← hf1]; exact own_i8 _
      refine o_iload X40 hx hby D0_63 rfl ?_
      refine o_bipush X40 hx hby D0_65 (v := 16) rfl ?_
      refine o_iushr X40 hx hby D0_67 ?_
      refine o_i2b X40 hx hby D0_68 ?_
      refine o_istore X40 hx hby D0_69 (l' := #[.val (.int p0), .val (.int p1), .val (.int p2), .val (.int p3), .val (.int p4), .val (.int c0), .val (.int c1), .val (.int c2), .val (.int (1 : Int32)), .val (.int (0 : Int32)), .val (.ref st), .val (.ref r40), .val (.int f0), .val (.int f1), .val (.int ((((p4.toUInt32 >>> ((16 : Int32) &&& 31).toUInt32).toInt32)).toInt8.toInt32)), .unset, .unset]) rfl ?_
      generalize hf2 : ((((p4.toUInt32 >>> ((16 : Int32) &&& 31).toUInt32).toInt32)).toInt8.toInt32) = f2
      have nf2 : nar .byte f2 = f2 := by rw [← hf2]; exact own_i8 _
      refine o_iload X40 hx hby D0_71 rfl ?_
      refine o_ifY X40 hx hby D0_73 ((if0 _ _).trans (flt (by decide : ¬ ((0 : Int32) < (0 : Int32)))).2.2.2) (q := 82) (by decide) (by decide) ?_
      refine o_iload X40 hx hby D0_82 rfl ?_
      refine o_iconst X40 hx hby D0_84 (v := 1) rfl ?_
      refine o_icmpY X40 hx hby D0_85 (flt (by decide : ¬ ((1 : Int32) < (0 : Int32)))).2.2.2 (q := 94) (by decide) (by decide) ?_
      refine o_iload X40 hx hby D0_94 rfl ?_
      refine o_iconst X40 hx hby D0_96 (v := 2) rfl ?_
      refine o_icmpY X40 hx hby D0_97 (flt (by decide : ¬ ((2 : Int32) < (0 : Int32)))).2.2.2 (q := 106) (by decide) (by decide) ?_
      refine o_aload X40 hx hby D0_106 rfl rfl ?_
      refine o_aload X40 hx hby D0_108 rfl rfl ?_
      have cT42_st := (own_StrK1 Str39 K40 nin0 nin0)
      have c43_O := ((O0.keep K39 all0).keep K40 all0)
      refine kS X40 hx hZ hown hby (wd hw 40 rfl) (wd hw 41 rfl) (wd hw 42 rfl) (wd hw 43 rfl) (rm_abX1 l Z a0 hw [] st r40 vb kb kr40 c0 (0 : Int32) [] cs vf T40.heap n0 (own_leN (by omega)) hST0 c43_O cT42_st Vr40 (by decide)) (by decide) (by decide) (by decide) (by decide) (by decide) (by rw [hml]; rfl) [(.ref st), (.ref r40)] [] (lenOf pd__40Ljava_47lang_47String_59_91B_41I rfl) (W := 0) rfl rfl D0_110 rfl rfl ?_
      intro v41 T41 L41 X41 hQ41
      obtain ⟨rfl, N41q, e41⟩ := hQ41
      have N41 := Fr.app N40 N41q
      refine own_sh (A' := T41.setTop (mkF m 113 _ [(.int (-1 : Int32))])) ?_
      refine o_istore X41 hx hby D0_113 (l' := #[.val (.int p0), .val (.int p1), .val (.int p2), .val (.int p3), .val (.int p4), .val (.int c0), .val (.int c1), .val (.int c2), .val (.int (1 : Int32)), .val (.int (0 : Int32)), .val (.ref st), .val (.ref r40), .val (.int f0), .val (.int f1), .val (.int f2), .val (.int (-1 : Int32)), .unset]) rfl ?_
      refine o_iload X41 hx hby D0_115 rfl ?_
      refine o_iload X41 hx hby D0_117 rfl ?_
      refine o_icmpN X41 hx hby D0_119 (tlt (by decide : (0 : Int32) < (1 : Int32))).2.2.2 ?_
      refine o_iload X41 hx hby D0_122 rfl ?_
      refine o_iconst X41 hx hby D0_124 (v := -1) rfl ?_
      refine o_icmpN X41 hx hby D0_125 (teq (by decide : (-1 : Int32) = (-1 : Int32))).2 ?_
      refine o_iconst X41 hx hby D0_128 (v := 1) rfl ?_
      refine o_goto X41 hx hby D0_129 (q := 133) (by decide) (by decide) ?_
      exact own_retW (v := some (.int (1 : Int32))) X41 (fun h => by first | rfl | (rw [Bd.returns] at h; cases h)) (BodyLoose.notSynchronized Bd) (by decide) (by decide) (⟨rfl, N41⟩) (fun fs hr => retN X41 hx (t := .boolean) Bd.returns (by simp) (hb hby D0_133.1) hr)
    · skip
      refine o_iload X39 hx hby D0_43 rfl ?_
      refine kS X39 hx hZ hown hby (wd hw 37 rfl) (wd hw 38 rfl) (wd hw 2 rfl) (wd hw 39 rfl) (rm_arr1 l Z a0 hw []  T39.heap n0 (own_leN (by omega)) ) (by decide) (by decide) (by decide) (by decide) (by decide) (by rw [hml]; rfl) [(.int (1 : Int32))] [] (lenOf pd__40I_41_91B rfl) (W := 0) rfl rfl D0_45 rfl rfl ?_
      intro v44 T44 L44 X44 hQ44
      obtain ⟨r44, kr44, rfl, N44q, K44, ge44, Vr44⟩ := hQ44
      have sz44 := own_leN K44.1
      have ge44' := own_leN ge44
      have lt_r44 := own_ltN Vr44.lt
      have gn_r44 : n0 ≤ r44 := own_leN (by omega)
      have N44 := Fr.app N39 N44q
      refine own_sh (A' := T44.setTop (mkF m 48 _ [(.ref r44)])) ?_
      refine o_astore X44 hx hby D0_48 rfl (l' := #[.val (.int p0), .val (.int p1), .val (.int p2), .val (.int p3), .val (.int p4), .val (.int c0), .val (.int c1), .val (.int c2), .val (.int (1 : Int32)), .val (.int (1 : Int32)), .val (.ref st), .val (.ref r44), .unset, .unset, .unset, .unset, .unset]) rfl ?_
      refine o_iload X44 hx hby D0_50 rfl ?_
      refine o_i2b X44 hx hby D0_52 ?_
      refine o_istore X44 hx hby D0_53 (l' := #[.val (.int p0), .val (.int p1), .val (.int p2), .val (.int p3), .val (.int p4), .val (.int c0), .val (.int c1), .val (.int c2), .val (.int (1 : Int32)), .val (.int (1 : Int32)), .val (.ref st), .val (.ref r44), .val (.int ((p4).toInt8.toInt32)), .unset, .unset, .unset, .unset]) rfl ?_
      generalize hf0 : ((p4).toInt8.toInt32) = f0
      have nf0 : nar .byte f0 = f0 := by rw [← hf0]; exact own_i8 _
      refine o_iload X44 hx hby D0_55 rfl ?_
      refine o_bipush X44 hx hby D0_57 (v := 8) rfl ?_
      refine o_iushr X44 hx hby D0_59 ?_
      refine o_i2b X44 hx hby D0_60 ?_
      refine o_istore X44 hx hby D0_61 (l' := #[.val (.int p0), .val (.int p1), .val (.int p2), .val (.int p3), .val (.int p4), .val (.int c0), .val (.int c1), .val (.int c2), .val (.int (1 : Int32)), .val (.int (1 : Int32)), .val (.ref st), .val (.ref r44), .val (.int f0), .val (.int ((((p4.toUInt32 >>> ((8 : Int32) &&& 31).toUInt32).toInt32)).toInt8.toInt32)), .unset, .unset, .unset]) rfl ?_
      generalize hf1 : ((((p4.toUInt32 >>> ((8 : Int32) &&& 31).toUInt32).toInt32)).toInt8.toInt32) = f1
      have nf1 : nar .byte f1 = f1 := by rw [← hf1]; exact own_i8 _
      refine o_iload X44 hx hby D0_63 rfl ?_
      refine o_bipush X44 hx hby D0_65 (v := 16) rfl ?_
      refine o_iushr X44 hx hby D0_67 ?_
      refine o_i2b X44 hx hby D0_68 ?_
      refine o_istore X44 hx hby D0_69 (l' := #[.val (.int p0), .val (.int p1), .val (.int p2), .val (.int p3), .val (.int p4), .val (.int c0), .val (.int c1), .val (.int c2), .val (.int (1 : Int32)), .val (.int (1 : Int32)), .val (.ref st), .val (.ref r44), .val (.int f0), .val (.int f1), .val (.int ((((p4.toUInt32 >>> ((16 : Int32) &&& 31).toUInt32).toInt32)).toInt8.toInt32)), .unset, .unset]) rfl ?_
      generalize hf2 : ((((p4.toUInt32 >>> ((16 : Int32) &&& 31).toUInt32).toInt32)).toInt8.toInt32) = f2
      have nf2 : nar .byte f2 = f2 := by rw [← hf2]; exact own_i8 _
      refine o_iload X44 hx hby D0_71 rfl ?_
      refine o_ifN X44 hx hby D0_73 ((if0 _ _).trans (tlt (by decide : (0 : Int32) < (1 : Int32))).2.2.2) ?_
      refine o_aload X44 hx hby D0_76 rfl rfl ?_
      refine o_iconst X44 hx hby D0_78 (v := 0) rfl ?_
      refine o_iload X44 hx hby D0_79 rfl ?_
      obtain ⟨cl_r44_45, Ar_r44_45, q_r44_45, S_r44_45, N_r44_45, H_r44_45, G_r44_45⟩ := id Vr44
      have hin_r44_45 : ¬ ((0 : Int32) < 0 ∨ cl_r44_45.slots.size ≤ ((0 : Int32)).toNatClampNeg) := inb_of S_r44_45 ⟨by decide, by decide⟩
      obtain ⟨T45, h45, X45, e45, W45, st45⟩ := stB X44 hx hZ rfl Ar_r44_45 (j := (0 : Int32)) hin_r44_45 (g := (mkF m 81 #[.val (.int p0), .val (.int p1), .val (.int p2), .val (.int p3), .val (.int p4), .val (.int c0), .val (.int c1), .val (.int c2), .val (.int (1 : Int32)), .val (.int (1 : Int32)), .val (.ref st), .val (.ref r44), .val (.int f0), .val (.int f1), .val (.int f2), .unset, .unset] [(.int f0), (.int (0 : Int32)), (.ref r44)])) rfl rfl (hb hby D0_81.1)
      have V_r44_45 : Arv Z h45 r44 kr44 .byte (1 : Int32) [(.int (nar .byte f0))] (.int (0 : Int32)) := Arv.set Ar_r44_45 q_r44_45 S_r44_45 N_r44_45 H_r44_45 G_r44_45 (fits_nar_byte _) W45 0 rfl (Nat.le_of_ble_eq_true rfl)
      have sz45 := own_leN (Keep.of_wr W45).1
      have N45 := Fr.snoc X45 N44 gn_r44
      refine own_pre (A' := T45.setTop (mkF m 82 #[.val (.int p0), .val (.int p1), .val (.int p2), .val (.int p3), .val (.int p4), .val (.int c0), .val (.int c1), .val (.int c2), .val (.int (1 : Int32)), .val (.int (1 : Int32)), .val (.ref st), .val (.ref r44), .val (.int f0), .val (.int f1), .val (.int f2), .unset, .unset] [])) st45 ?_
      refine o_iload X45 hx hby D0_82 rfl ?_
      refine o_iconst X45 hx hby D0_84 (v := 1) rfl ?_
      refine o_icmpY X45 hx hby D0_85 (flt (by decide : ¬ ((1 : Int32) < (1 : Int32)))).2.2.2 (q := 94) (by decide) (by decide) ?_
      refine o_iload X45 hx hby D0_94 rfl ?_
      refine o_iconst X45 hx hby D0_96 (v := 2) rfl ?_
      refine o_icmpY X45 hx hby D0_97 (flt (by decide : ¬ ((2 : Int32) < (1 : Int32)))).2.2.2 (q := 106) (by decide) (by decide) ?_
      refine o_aload X45 hx hby D0_106 rfl rfl ?_
      refine o_aload X45 hx hby D0_108 rfl rfl ?_
      have cT47_st := (own_StrK1 (own_StrK1 Str39 K44 nin0 nin0) (Keep.of_wr W45) (ninS (by first | exact own_neN (by omega) | exact own_neN' (by omega) | assumption) nin0) (ninS (by first | exact own_neN (by omega) | exact own_neN' (by omega) | assumption) nin0))
      have c48_O := (((O0.keep K39 all0).keep K44 all0).wr W45 gn_r44)
      refine kS X45 hx hZ hown hby (wd hw 40 rfl) (wd hw 41 rfl) (wd hw 42 rfl) (wd hw 43 rfl) (rm_ab11 l Z a0 hw [] st r44 vb kb kr44 c0 (.int (nar .byte f0)) cs vf h45 n0 (own_leN (by omega)) hST0 c48_O cT47_st hc0 gn_r44 V_r44_45 (own_ltN (by omega)) (own_ltN (by omega))) (by decide) (by decide) (by decide) (by decide) (by decide) (by rw [hml]; rfl) [(.ref st), (.ref r44)] [] (lenOf pd__40Ljava_47lang_47String_59_91B_41I rfl) (W := 0) rfl rfl D0_110 rfl e45 ?_
      intro v46 T46 L46 X46 hQ46
      obtain ⟨rfl, N46q, K46, Vb46⟩ := hQ46
      have sz46 := own_leN K46.1
      have N46 := Fr.app N45 N46q
      refine own_sh (A' := T46.setTop (mkF m 113 _ [(.int (own_ab1 c0))])) ?_
      refine o_istore X46 hx hby D0_113 (l' := #[.val (.int p0), .val (.int p1), .val (.int p2), .val (.int p3), .val (.int p4), .val (.int c0), .val (.int c1), .val (.int c2), .val (.int (1 : Int32)), .val (.int (1 : Int32)), .val (.ref st), .val (.ref r44), .val (.int f0), .val (.int f1), .val (.int f2), .val (.int (own_ab1 c0)), .unset]) rfl ?_
      refine o_iload X46 hx hby D0_115 rfl ?_
      refine o_iload X46 hx hby D0_117 rfl ?_
      refine o_icmpY X46 hx hby D0_119 (flt (by decide : ¬ ((1 : Int32) < (1 : Int32)))).2.2.2 (q := 134) (by decide) (by decide) ?_
      refine o_iload X46 hx hby D0_134 rfl ?_
      refine o_iconst X46 hx hby D0_136 (v := 1) rfl ?_
      refine o_icmpN X46 hx hby D0_137 (flt (by decide : ¬ ((1 : Int32) < (1 : Int32)))).1 ?_
      refine o_iload X46 hx hby D0_140 rfl ?_
      refine o_sipush X46 hx hby D0_142 (v := 128) rfl ?_
      by_cases hc145_49 : c0 < (128 : Int32)
      · skip
        refine o_icmpN X46 hx hby D0_145 (tlt hc145_49).2.1 ?_
        refine o_iload X46 hx hby D0_148 rfl ?_
        refine o_iconst X46 hx hby D0_150 (v := 2) rfl ?_
        refine o_icmpY X46 hx hby D0_151 (tlt (by decide : (1 : Int32) < (2 : Int32))).1 (q := 162) (by decide) (by decide) ?_
        refine o_iload X46 hx hby D0_162 rfl ?_
        refine o_iconst X46 hx hby D0_164 (v := 3) rfl ?_
        refine o_icmpY X46 hx hby D0_165 (tlt (by decide : (1 : Int32) < (3 : Int32))).1 (q := 176) (by decide) (by decide) ?_
        refine o_iconst X46 hx hby D0_176 (v := 1) rfl ?_
        refine o_goto X46 hx hby D0_177 (q := 181) (by decide) (by decide) ?_
        refine o_istore X46 hx hby D0_181 (l' := #[.val (.int p0), .val (.int p1), .val (.int p2), .val (.int p3), .val (.int p4), .val (.int c0), .val (.int c1), .val (.int c2), .val (.int (1 : Int32)), .val (.int (1 : Int32)), .val (.ref st), .val (.ref r44), .val (.int f0), .val (.int f1), .val (.int f2), .val (.int (own_ab1 c0)), .val (.int (1 : Int32))]) rfl ?_
        refine o_iload X46 hx hby D0_183 rfl ?_
        refine o_ifY X46 hx hby D0_185 ((if0 _ _).trans (feq (by decide : ¬ ((1 : Int32) = (0 : Int32)))).2) (q := 200) (by decide) (by decide) ?_
        refine o_iload X46 hx hby D0_200 rfl ?_
        refine o_iload X46 hx hby D0_202 rfl ?_
        refine o_icmpY X46 hx hby D0_204 (teq (own_abY1 hc0 hc145_49 : (own_ab1 c0) = (1 : Int32))).1 (q := 209) (by decide) (by decide) ?_
        refine o_aload X46 hx hby D0_209 rfl rfl ?_
        refine o_iconst X46 hx hby D0_211 (v := 0) rfl ?_
        refine o_iload X46 hx hby D0_212 rfl ?_
        refine o_iload X46 hx hby D0_214 rfl ?_
        refine o_iload X46 hx hby D0_216 rfl ?_
        refine kS X46 hx hZ hown hby (wd hw 76 rfl) (wd hw 77 rfl) (wd hw 2 rfl) (wd hw 78 rfl) (rm_at0A l Z a0 hw [] r44 (1 : Int32) c0 f0 kr44 (1 : Int32) [(.int (own_l8 c0))] (own_l8 c0) T46.heap n0 (own_leN (by omega)) Vb46 (by decide) rfl (by decide) (own_i8 _)) (by decide) (by decide) (by decide) (by decide) (by decide) (by rw [hml]; rfl) [(.ref r44), (.int (0 : Int32)), (.int (1 : Int32)), (.int c0), (.int f0)] [] (lenOf pd__40_91BIICB_41Z rfl) (W := 0) rfl rfl D0_218 rfl rfl ?_
        intro v50 T50 L50 X50 hQ50
        obtain ⟨rfl, N50q, e50⟩ := hQ50
        have N50 := Fr.app N46 N50q
        refine own_sh (A' := T50.setTop (mkF m 221 _ [(.int (1 : Int32))])) ?_
        refine o_ifN X50 hx hby D0_221 ((if0 _ _).trans (feq (by decide : ¬ ((1 : Int32) = (0 : Int32)))).1) ?_
        refine o_aload X50 hx hby D0_224 rfl rfl ?_
        refine o_iconst X50 hx hby D0_226 (v := 1) rfl ?_
        refine o_iload X50 hx hby D0_227 rfl ?_
        refine o_iload X50 hx hby D0_229 rfl ?_
        refine o_iload X50 hx hby D0_231 rfl ?_
        refine kS X50 hx hZ hown hby (wd hw 76 rfl) (wd hw 77 rfl) (wd hw 2 rfl) (wd hw 78 rfl) (rm_at1O l Z a0 hw [] r44 (1 : Int32) c1 f1 kr44 (1 : Int32) [(.int (own_l8 c0))] (0 : Int32) T46.heap n0 (own_leN (by omega)) Vb46 (by decide)) (by decide) (by decide) (by decide) (by decide) (by decide) (by rw [hml]; rfl) [(.ref r44), (.int (1 : Int32)), (.int (1 : Int32)), (.int c1), (.int f1)] [] (lenOf pd__40_91BIICB_41Z rfl) (W := 0) rfl rfl D0_233 rfl e50 ?_
        intro v51 T51 L51 X51 hQ51
        obtain ⟨rfl, N51q, e51⟩ := hQ51
        have N51 := Fr.app N50 N51q
        refine own_sh (A' := T51.setTop (mkF m 236 _ [(.int (1 : Int32))])) ?_
        refine o_ifN X51 hx hby D0_236 ((if0 _ _).trans (feq (by decide : ¬ ((1 : Int32) = (0 : Int32)))).1) ?_
        refine o_aload X51 hx hby D0_239 rfl rfl ?_
        refine o_iconst X51 hx hby D0_241 (v := 2) rfl ?_
        refine o_iload X51 hx hby D0_242 rfl ?_
        refine o_iload X51 hx hby D0_244 rfl ?_
        refine o_iload X51 hx hby D0_246 rfl ?_
        refine kS X51 hx hZ hown hby (wd hw 76 rfl) (wd hw 77 rfl) (wd hw 2 rfl) (wd hw 78 rfl) (rm_at2O l Z a0 hw [] r44 (1 : Int32) c2 f2 kr44 (1 : Int32) [(.int (own_l8 c0))] (0 : Int32) T46.heap n0 (own_leN (by omega)) Vb46 (by decide)) (by decide) (by decide) (by decide) (by decide) (by decide) (by rw [hml]; rfl) [(.ref r44), (.int (2 : Int32)), (.int (1 : Int32)), (.int c2), (.int f2)] [] (lenOf pd__40_91BIICB_41Z rfl) (W := 0) rfl rfl D0_248 rfl e51 ?_
        intro v52 T52 L52 X52 hQ52
        obtain ⟨rfl, N52q, e52⟩ := hQ52
        have N52 := Fr.app N51 N52q
        refine own_sh (A' := T52.setTop (mkF m 251 _ [(.int (1 : Int32))])) ?_
        refine o_ifN X52 hx hby D0_251 ((if0 _ _).trans (feq (by decide : ¬ ((1 : Int32) = (0 : Int32)))).1) ?_
        refine o_iconst X52 hx hby D0_254 (v := 1) rfl ?_
        refine o_goto X52 hx hby D0_255 (q := 259) (by decide) (by decide) ?_
        exact own_retW (v := some (.int (1 : Int32))) X52 (fun h => by first | rfl | (rw [Bd.returns] at h; cases h)) (BodyLoose.notSynchronized Bd) (by decide) (by decide) (⟨rfl, N52⟩) (fun fs hr => retN X52 hx (t := .boolean) Bd.returns (by simp) (hb hby D0_259.1) hr)
      · skip
        refine o_icmpY X46 hx hby D0_145 (flt hc145_49).2.1 (q := 180) (by decide) (by decide) ?_
        refine o_iconst X46 hx hby D0_180 (v := 0) rfl ?_
        refine o_istore X46 hx hby D0_181 (l' := #[.val (.int p0), .val (.int p1), .val (.int p2), .val (.int p3), .val (.int p4), .val (.int c0), .val (.int c1), .val (.int c2), .val (.int (1 : Int32)), .val (.int (1 : Int32)), .val (.ref st), .val (.ref r44), .val (.int f0), .val (.int f1), .val (.int f2), .val (.int (own_ab1 c0)), .val (.int (0 : Int32))]) rfl ?_
        refine o_iload X46 hx hby D0_183 rfl ?_
        refine o_ifN X46 hx hby D0_185 ((if0 _ _).trans (teq (by decide : (0 : Int32) = (0 : Int32))).2) ?_
        refine o_iload X46 hx hby D0_188 rfl ?_
        refine o_iconst X46 hx hby D0_190 (v := -1) rfl ?_
        refine o_icmpN X46 hx hby D0_191 (teq (own_abN1 hc0 (fun q => hc145_49 q) : (own_ab1 c0) = (-1 : Int32))).2 ?_
        refine o_iconst X46 hx hby D0_194 (v := 1) rfl ?_
        refine o_goto X46 hx hby D0_195 (q := 199) (by decide) (by decide) ?_
        exact own_retW (v := some (.int (1 : Int32))) X46 (fun h => by first | rfl | (rw [Bd.returns] at h; cases h)) (BodyLoose.notSynchronized Bd) (by decide) (by decide) (⟨rfl, N46⟩) (fun fs hr => retN X46 hx (t := .boolean) Bd.returns (by simp) (hb hby D0_199.1) hr)
    · skip
      refine o_iload X39 hx hby D0_43 rfl ?_
      refine kS X39 hx hZ hown hby (wd hw 37 rfl) (wd hw 38 rfl) (wd hw 2 rfl) (wd hw 39 rfl) (rm_arr2 l Z a0 hw []  T39.heap n0 (own_leN (by omega)) ) (by decide) (by decide) (by decide) (by decide) (by decide) (by rw [hml]; rfl) [(.int (2 : Int32))] [] (lenOf pd__40I_41_91B rfl) (W := 0) rfl rfl D0_45 rfl rfl ?_
      intro v53 T53 L53 X53 hQ53
      obtain ⟨r53, kr53, rfl, N53q, K53, ge53, Vr53⟩ := hQ53
      have sz53 := own_leN K53.1
      have ge53' := own_leN ge53
      have lt_r53 := own_ltN Vr53.lt
      have gn_r53 : n0 ≤ r53 := own_leN (by omega)
      have N53 := Fr.app N39 N53q
      refine own_sh (A' := T53.setTop (mkF m 48 _ [(.ref r53)])) ?_
      refine o_astore X53 hx hby D0_48 rfl (l' := #[.val (.int p0), .val (.int p1), .val (.int p2), .val (.int p3), .val (.int p4), .val (.int c0), .val (.int c1), .val (.int c2), .val (.int (1 : Int32)), .val (.int (2 : Int32)), .val (.ref st), .val (.ref r53), .unset, .unset, .unset, .unset, .unset]) rfl ?_
      refine o_iload X53 hx hby D0_50 rfl ?_
      refine o_i2b X53 hx hby D0_52 ?_
      refine o_istore X53 hx hby D0_53 (l' := #[.val (.int p0), .val (.int p1), .val (.int p2), .val (.int p3), .val (.int p4), .val (.int c0), .val (.int c1), .val (.int c2), .val (.int (1 : Int32)), .val (.int (2 : Int32)), .val (.ref st), .val (.ref r53), .val (.int ((p4).toInt8.toInt32)), .unset, .unset, .unset, .unset]) rfl ?_
      generalize hf0 : ((p4).toInt8.toInt32) = f0
      have nf0 : nar .byte f0 = f0 := by rw [← hf0]; exact own_i8 _
      refine o_iload X53 hx hby D0_55 rfl ?_
      refine o_bipush X53 hx hby D0_57 (v := 8) rfl ?_
      refine o_iushr X53 hx hby D0_59 ?_
      refine o_i2b X53 hx hby D0_60 ?_
      refine o_istore X53 hx hby D0_61 (l' := #[.val (.int p0), .val (.int p1), .val (.int p2), .val (.int p3), .val (.int p4), .val (.int c0), .val (.int c1), .val (.int c2), .val (.int (1 : Int32)), .val (.int (2 : Int32)), .val (.ref st), .val (.ref r53), .val (.int f0), .val (.int ((((p4.toUInt32 >>> ((8 : Int32) &&& 31).toUInt32).toInt32)).toInt8.toInt32)), .unset, .unset, .unset]) rfl ?_
      generalize hf1 : ((((p4.toUInt32 >>> ((8 : Int32) &&& 31).toUInt32).toInt32)).toInt8.toInt32) = f1
      have nf1 : nar .byte f1 = f1 := by rw [← hf1]; exact own_i8 _
      refine o_iload X53 hx hby D0_63 rfl ?_
      refine o_bipush X53 hx hby D0_65 (v := 16) rfl ?_
      refine o_iushr X53 hx hby D0_67 ?_
      refine o_i2b X53 hx hby D0_68 ?_
      refine o_istore X53 hx hby D0_69 (l' := #[.val (.int p0), .val (.int p1), .val (.int p2), .val (.int p3), .val (.int p4), .val (.int c0), .val (.int c1), .val (.int c2), .val (.int (1 : Int32)), .val (.int (2 : Int32)), .val (.ref st), .val (.ref r53), .val (.int f0), .val (.int f1), .val (.int ((((p4.toUInt32 >>> ((16 : Int32) &&& 31).toUInt32).toInt32)).toInt8.toInt32)), .unset, .unset]) rfl ?_
      generalize hf2 : ((((p4.toUInt32 >>> ((16 : Int32) &&& 31).toUInt32).toInt32)).toInt8.toInt32) = f2
      have nf2 : nar .byte f2 = f2 := by rw [← hf2]; exact own_i8 _
      refine o_iload X53 hx hby D0_71 rfl ?_
      refine o_ifN X53 hx hby D0_73 ((if0 _ _).trans (tlt (by decide : (0 : Int32) < (2 : Int32))).2.2.2) ?_
      refine o_aload X53 hx hby D0_76 rfl rfl ?_
      refine o_iconst X53 hx hby D0_78 (v := 0) rfl ?_
      refine o_iload X53 hx hby D0_79 rfl ?_
      obtain ⟨cl_r53_54, Ar_r53_54, q_r53_54, S_r53_54, N_r53_54, H_r53_54, G_r53_54⟩ := id Vr53
      have hin_r53_54 : ¬ ((0 : Int32) < 0 ∨ cl_r53_54.slots.size ≤ ((0 : Int32)).toNatClampNeg) := inb_of S_r53_54 ⟨by decide, by decide⟩
      obtain ⟨T54, h54, X54, e54, W54, st54⟩ := stB X53 hx hZ rfl Ar_r53_54 (j := (0 : Int32)) hin_r53_54 (g := (mkF m 81 #[.val (.int p0), .val (.int p1), .val (.int p2), .val (.int p3), .val (.int p4), .val (.int c0), .val (.int c1), .val (.int c2), .val (.int (1 : Int32)), .val (.int (2 : Int32)), .val (.ref st), .val (.ref r53), .val (.int f0), .val (.int f1), .val (.int f2), .unset, .unset] [(.int f0), (.int (0 : Int32)), (.ref r53)])) rfl rfl (hb hby D0_81.1)
      have V_r53_54 : Arv Z h54 r53 kr53 .byte (2 : Int32) [(.int (nar .byte f0)), (.int (0 : Int32))] (.int (0 : Int32)) := Arv.set Ar_r53_54 q_r53_54 S_r53_54 N_r53_54 H_r53_54 G_r53_54 (fits_nar_byte _) W54 0 rfl (Nat.le_of_ble_eq_true rfl)
      have sz54 := own_leN (Keep.of_wr W54).1
      have N54 := Fr.snoc X54 N53 gn_r53
      refine own_pre (A' := T54.setTop (mkF m 82 #[.val (.int p0), .val (.int p1), .val (.int p2), .val (.int p3), .val (.int p4), .val (.int c0), .val (.int c1), .val (.int c2), .val (.int (1 : Int32)), .val (.int (2 : Int32)), .val (.ref st), .val (.ref r53), .val (.int f0), .val (.int f1), .val (.int f2), .unset, .unset] [])) st54 ?_
      refine o_iload X54 hx hby D0_82 rfl ?_
      refine o_iconst X54 hx hby D0_84 (v := 1) rfl ?_
      refine o_icmpN X54 hx hby D0_85 (tlt (by decide : (1 : Int32) < (2 : Int32))).2.2.2 ?_
      refine o_aload X54 hx hby D0_88 rfl rfl ?_
      refine o_iconst X54 hx hby D0_90 (v := 1) rfl ?_
      refine o_iload X54 hx hby D0_91 rfl ?_
      obtain ⟨cl_r53_55, Ar_r53_55, q_r53_55, S_r53_55, N_r53_55, H_r53_55, G_r53_55⟩ := id V_r53_54
      have hin_r53_55 : ¬ ((1 : Int32) < 0 ∨ cl_r53_55.slots.size ≤ ((1 : Int32)).toNatClampNeg) := inb_of S_r53_55 ⟨by decide, by decide⟩
      obtain ⟨T55, h55, X55, e55, W55, st55⟩ := stB X54 hx hZ e54 Ar_r53_55 (j := (1 : Int32)) hin_r53_55 (g := (mkF m 93 #[.val (.int p0), .val (.int p1), .val (.int p2), .val (.int p3), .val (.int p4), .val (.int c0), .val (.int c1), .val (.int c2), .val (.int (1 : Int32)), .val (.int (2 : Int32)), .val (.ref st), .val (.ref r53), .val (.int f0), .val (.int f1), .val (.int f2), .unset, .unset] [(.int f1), (.int (1 : Int32)), (.ref r53)])) rfl rfl (hb hby D0_93.1)
      have V_r53_55 : Arv Z h55 r53 kr53 .byte (2 : Int32) [(.int (nar .byte f0)), (.int (nar .byte f1))] (.int (0 : Int32)) := Arv.set Ar_r53_55 q_r53_55 S_r53_55 N_r53_55 H_r53_55 G_r53_55 (fits_nar_byte _) W55 1 rfl (Nat.le_of_ble_eq_true rfl)
      have sz55 := own_leN (Keep.of_wr W55).1
      have N55 := Fr.snoc X55 N54 gn_r53
      refine own_pre (A' := T55.setTop (mkF m 94 #[.val (.int p0), .val (.int p1), .val (.int p2), .val (.int p3), .val (.int p4), .val (.int c0), .val (.int c1), .val (.int c2), .val (.int (1 : Int32)), .val (.int (2 : Int32)), .val (.ref st), .val (.ref r53), .val (.int f0), .val (.int f1), .val (.int f2), .unset, .unset] [])) st55 ?_
      refine o_iload X55 hx hby D0_94 rfl ?_
      refine o_iconst X55 hx hby D0_96 (v := 2) rfl ?_
      refine o_icmpY X55 hx hby D0_97 (flt (by decide : ¬ ((2 : Int32) < (2 : Int32)))).2.2.2 (q := 106) (by decide) (by decide) ?_
      refine o_aload X55 hx hby D0_106 rfl rfl ?_
      refine o_aload X55 hx hby D0_108 rfl rfl ?_
      have cT57_st := (own_StrK1 (own_StrK1 (own_StrK1 Str39 K53 nin0 nin0) (Keep.of_wr W54) (ninS (by first | exact own_neN (by omega) | exact own_neN' (by omega) | assumption) nin0) (ninS (by first | exact own_neN (by omega) | exact own_neN' (by omega) | assumption) nin0)) (Keep.of_wr W55) (ninS (by first | exact own_neN (by omega) | exact own_neN' (by omega) | assumption) nin0) (ninS (by first | exact own_neN (by omega) | exact own_neN' (by omega) | assumption) nin0))
      have c58_O := ((((O0.keep K39 all0).keep K53 all0).wr W54 gn_r53).wr W55 gn_r53)
      refine kS X55 hx hZ hown hby (wd hw 40 rfl) (wd hw 41 rfl) (wd hw 42 rfl) (wd hw 43 rfl) (rm_ab12 l Z a0 hw [] st r53 vb kb kr53 c0 (.int (nar .byte f0)) (.int (nar .byte f1)) cs vf h55 n0 (own_leN (by omega)) hST0 c58_O cT57_st hc0 gn_r53 V_r53_55 (own_ltN (by omega)) (own_ltN (by omega))) (by decide) (by decide) (by decide) (by decide) (by decide) (by rw [hml]; rfl) [(.ref st), (.ref r53)] [] (lenOf pd__40Ljava_47lang_47String_59_91B_41I rfl) (W := 0) rfl rfl D0_110 rfl e55 ?_
      intro v56 T56 L56 X56 hQ56
      obtain ⟨rfl, N56q, K56, Vb56⟩ := hQ56
      have sz56 := own_leN K56.1
      have N56 := Fr.app N55 N56q
      refine own_sh (A' := T56.setTop (mkF m 113 _ [(.int (own_ab1 c0))])) ?_
      refine o_istore X56 hx hby D0_113 (l' := #[.val (.int p0), .val (.int p1), .val (.int p2), .val (.int p3), .val (.int p4), .val (.int c0), .val (.int c1), .val (.int c2), .val (.int (1 : Int32)), .val (.int (2 : Int32)), .val (.ref st), .val (.ref r53), .val (.int f0), .val (.int f1), .val (.int f2), .val (.int (own_ab1 c0)), .unset]) rfl ?_
      refine o_iload X56 hx hby D0_115 rfl ?_
      refine o_iload X56 hx hby D0_117 rfl ?_
      refine o_icmpY X56 hx hby D0_119 (flt (by decide : ¬ ((2 : Int32) < (1 : Int32)))).2.2.2 (q := 134) (by decide) (by decide) ?_
      refine o_iload X56 hx hby D0_134 rfl ?_
      refine o_iconst X56 hx hby D0_136 (v := 1) rfl ?_
      refine o_icmpN X56 hx hby D0_137 (flt (by decide : ¬ ((1 : Int32) < (1 : Int32)))).1 ?_
      refine o_iload X56 hx hby D0_140 rfl ?_
      refine o_sipush X56 hx hby D0_142 (v := 128) rfl ?_
      by_cases hc145_59 : c0 < (128 : Int32)
      · skip
        refine o_icmpN X56 hx hby D0_145 (tlt hc145_59).2.1 ?_
        refine o_iload X56 hx hby D0_148 rfl ?_
        refine o_iconst X56 hx hby D0_150 (v := 2) rfl ?_
        refine o_icmpY X56 hx hby D0_151 (tlt (by decide : (1 : Int32) < (2 : Int32))).1 (q := 162) (by decide) (by decide) ?_
        refine o_iload X56 hx hby D0_162 rfl ?_
        refine o_iconst X56 hx hby D0_164 (v := 3) rfl ?_
        refine o_icmpY X56 hx hby D0_165 (tlt (by decide : (1 : Int32) < (3 : Int32))).1 (q := 176) (by decide) (by decide) ?_
        refine o_iconst X56 hx hby D0_176 (v := 1) rfl ?_
        refine o_goto X56 hx hby D0_177 (q := 181) (by decide) (by decide) ?_
        refine o_istore X56 hx hby D0_181 (l' := #[.val (.int p0), .val (.int p1), .val (.int p2), .val (.int p3), .val (.int p4), .val (.int c0), .val (.int c1), .val (.int c2), .val (.int (1 : Int32)), .val (.int (2 : Int32)), .val (.ref st), .val (.ref r53), .val (.int f0), .val (.int f1), .val (.int f2), .val (.int (own_ab1 c0)), .val (.int (1 : Int32))]) rfl ?_
        refine o_iload X56 hx hby D0_183 rfl ?_
        refine o_ifY X56 hx hby D0_185 ((if0 _ _).trans (feq (by decide : ¬ ((1 : Int32) = (0 : Int32)))).2) (q := 200) (by decide) (by decide) ?_
        refine o_iload X56 hx hby D0_200 rfl ?_
        refine o_iload X56 hx hby D0_202 rfl ?_
        refine o_icmpY X56 hx hby D0_204 (teq (own_abY1 hc0 hc145_59 : (own_ab1 c0) = (1 : Int32))).1 (q := 209) (by decide) (by decide) ?_
        refine o_aload X56 hx hby D0_209 rfl rfl ?_
        refine o_iconst X56 hx hby D0_211 (v := 0) rfl ?_
        refine o_iload X56 hx hby D0_212 rfl ?_
        refine o_iload X56 hx hby D0_214 rfl ?_
        refine o_iload X56 hx hby D0_216 rfl ?_
        refine kS X56 hx hZ hown hby (wd hw 76 rfl) (wd hw 77 rfl) (wd hw 2 rfl) (wd hw 78 rfl) (rm_at0A l Z a0 hw [] r53 (1 : Int32) c0 f0 kr53 (2 : Int32) [(.int (own_l8 c0)), (.int (nar .byte f1))] (own_l8 c0) T56.heap n0 (own_leN (by omega)) Vb56 (by decide) rfl (by decide) (own_i8 _)) (by decide) (by decide) (by decide) (by decide) (by decide) (by rw [hml]; rfl) [(.ref r53), (.int (0 : Int32)), (.int (1 : Int32)), (.int c0), (.int f0)] [] (lenOf pd__40_91BIICB_41Z rfl) (W := 0) rfl rfl D0_218 rfl rfl ?_
        intro v60 T60 L60 X60 hQ60
        obtain ⟨rfl, N60q, e60⟩ := hQ60
        have N60 := Fr.app N56 N60q
        refine own_sh (A' := T60.setTop (mkF m 221 _ [(.int (1 : Int32))])) ?_
        refine o_ifN X60 hx hby D0_221 ((if0 _ _).trans (feq (by decide : ¬ ((1 : Int32) = (0 : Int32)))).1) ?_
        refine o_aload X60 hx hby D0_224 rfl rfl ?_
        refine o_iconst X60 hx hby D0_226 (v := 1) rfl ?_
        refine o_iload X60 hx hby D0_227 rfl ?_
        refine o_iload X60 hx hby D0_229 rfl ?_
        refine o_iload X60 hx hby D0_231 rfl ?_
        refine kS X60 hx hZ hown hby (wd hw 76 rfl) (wd hw 77 rfl) (wd hw 2 rfl) (wd hw 78 rfl) (rm_at1B l Z a0 hw [] r53 (1 : Int32) c1 f1 kr53 (2 : Int32) [(.int (own_l8 c0)), (.int (nar .byte f1))] (nar .byte f1) T56.heap n0 (own_leN (by omega)) Vb56 (by decide) rfl (by decide) nf1) (by decide) (by decide) (by decide) (by decide) (by decide) (by rw [hml]; rfl) [(.ref r53), (.int (1 : Int32)), (.int (1 : Int32)), (.int c1), (.int f1)] [] (lenOf pd__40_91BIICB_41Z rfl) (W := 0) rfl rfl D0_233 rfl e60 ?_
        intro v61 T61 L61 X61 hQ61
        obtain ⟨rfl, N61q, e61⟩ := hQ61
        have N61 := Fr.app N60 N61q
        refine own_sh (A' := T61.setTop (mkF m 236 _ [(.int (1 : Int32))])) ?_
        refine o_ifN X61 hx hby D0_236 ((if0 _ _).trans (feq (by decide : ¬ ((1 : Int32) = (0 : Int32)))).1) ?_
        refine o_aload X61 hx hby D0_239 rfl rfl ?_
        refine o_iconst X61 hx hby D0_241 (v := 2) rfl ?_
        refine o_iload X61 hx hby D0_242 rfl ?_
        refine o_iload X61 hx hby D0_244 rfl ?_
        refine o_iload X61 hx hby D0_246 rfl ?_
        refine kS X61 hx hZ hown hby (wd hw 76 rfl) (wd hw 77 rfl) (wd hw 2 rfl) (wd hw 78 rfl) (rm_at2O l Z a0 hw [] r53 (1 : Int32) c2 f2 kr53 (2 : Int32) [(.int (own_l8 c0)), (.int (nar .byte f1))] (0 : Int32) T56.heap n0 (own_leN (by omega)) Vb56 (by decide)) (by decide) (by decide) (by decide) (by decide) (by decide) (by rw [hml]; rfl) [(.ref r53), (.int (2 : Int32)), (.int (1 : Int32)), (.int c2), (.int f2)] [] (lenOf pd__40_91BIICB_41Z rfl) (W := 0) rfl rfl D0_248 rfl e61 ?_
        intro v62 T62 L62 X62 hQ62
        obtain ⟨rfl, N62q, e62⟩ := hQ62
        have N62 := Fr.app N61 N62q
        refine own_sh (A' := T62.setTop (mkF m 251 _ [(.int (1 : Int32))])) ?_
        refine o_ifN X62 hx hby D0_251 ((if0 _ _).trans (feq (by decide : ¬ ((1 : Int32) = (0 : Int32)))).1) ?_
        refine o_iconst X62 hx hby D0_254 (v := 1) rfl ?_
        refine o_goto X62 hx hby D0_255 (q := 259) (by decide) (by decide) ?_
        exact own_retW (v := some (.int (1 : Int32))) X62 (fun h => by first | rfl | (rw [Bd.returns] at h; cases h)) (BodyLoose.notSynchronized Bd) (by decide) (by decide) (⟨rfl, N62⟩) (fun fs hr => retN X62 hx (t := .boolean) Bd.returns (by simp) (hb hby D0_259.1) hr)
      · skip
        refine o_icmpY X56 hx hby D0_145 (flt hc145_59).2.1 (q := 180) (by decide) (by decide) ?_
        refine o_iconst X56 hx hby D0_180 (v := 0) rfl ?_
        refine o_istore X56 hx hby D0_181 (l' := #[.val (.int p0), .val (.int p1), .val (.int p2), .val (.int p3), .val (.int p4), .val (.int c0), .val (.int c1), .val (.int c2), .val (.int (1 : Int32)), .val (.int (2 : Int32)), .val (.ref st), .val (.ref r53), .val (.int f0), .val (.int f1), .val (.int f2), .val (.int (own_ab1 c0)), .val (.int (0 : Int32))]) rfl ?_
        refine o_iload X56 hx hby D0_183 rfl ?_
        refine o_ifN X56 hx hby D0_185 ((if0 _ _).trans (teq (by decide : (0 : Int32) = (0 : Int32))).2) ?_
        refine o_iload X56 hx hby D0_188 rfl ?_
        refine o_iconst X56 hx hby D0_190 (v := -1) rfl ?_
        refine o_icmpN X56 hx hby D0_191 (teq (own_abN1 hc0 (fun q => hc145_59 q) : (own_ab1 c0) = (-1 : Int32))).2 ?_
        refine o_iconst X56 hx hby D0_194 (v := 1) rfl ?_
        refine o_goto X56 hx hby D0_195 (q := 199) (by decide) (by decide) ?_
        exact own_retW (v := some (.int (1 : Int32))) X56 (fun h => by first | rfl | (rw [Bd.returns] at h; cases h)) (BodyLoose.notSynchronized Bd) (by decide) (by decide) (⟨rfl, N56⟩) (fun fs hr => retN X56 hx (t := .boolean) Bd.returns (by simp) (hb hby D0_199.1) hr)
    · skip
      refine o_iload X39 hx hby D0_43 rfl ?_
      refine kS X39 hx hZ hown hby (wd hw 37 rfl) (wd hw 38 rfl) (wd hw 2 rfl) (wd hw 39 rfl) (rm_arr3 l Z a0 hw []  T39.heap n0 (own_leN (by omega)) ) (by decide) (by decide) (by decide) (by decide) (by decide) (by rw [hml]; rfl) [(.int (3 : Int32))] [] (lenOf pd__40I_41_91B rfl) (W := 0) rfl rfl D0_45 rfl rfl ?_
      intro v63 T63 L63 X63 hQ63
      obtain ⟨r63, kr63, rfl, N63q, K63, ge63, Vr63⟩ := hQ63
      have sz63 := own_leN K63.1
      have ge63' := own_leN ge63
      have lt_r63 := own_ltN Vr63.lt
      have gn_r63 : n0 ≤ r63 := own_leN (by omega)
      have N63 := Fr.app N39 N63q
      refine own_sh (A' := T63.setTop (mkF m 48 _ [(.ref r63)])) ?_
      refine o_astore X63 hx hby D0_48 rfl (l' := #[.val (.int p0), .val (.int p1), .val (.int p2), .val (.int p3), .val (.int p4), .val (.int c0), .val (.int c1), .val (.int c2), .val (.int (1 : Int32)), .val (.int (3 : Int32)), .val (.ref st), .val (.ref r63), .unset, .unset, .unset, .unset, .unset]) rfl ?_
      refine o_iload X63 hx hby D0_50 rfl ?_
      refine o_i2b X63 hx hby D0_52 ?_
      refine o_istore X63 hx hby D0_53 (l' := #[.val (.int p0), .val (.int p1), .val (.int p2), .val (.int p3), .val (.int p4), .val (.int c0), .val (.int c1), .val (.int c2), .val (.int (1 : Int32)), .val (.int (3 : Int32)), .val (.ref st), .val (.ref r63), .val (.int ((p4).toInt8.toInt32)), .unset, .unset, .unset, .unset]) rfl ?_
      generalize hf0 : ((p4).toInt8.toInt32) = f0
      have nf0 : nar .byte f0 = f0 := by rw [← hf0]; exact own_i8 _
      refine o_iload X63 hx hby D0_55 rfl ?_
      refine o_bipush X63 hx hby D0_57 (v := 8) rfl ?_
      refine o_iushr X63 hx hby D0_59 ?_
      refine o_i2b X63 hx hby D0_60 ?_
      refine o_istore X63 hx hby D0_61 (l' := #[.val (.int p0), .val (.int p1), .val (.int p2), .val (.int p3), .val (.int p4), .val (.int c0), .val (.int c1), .val (.int c2), .val (.int (1 : Int32)), .val (.int (3 : Int32)), .val (.ref st), .val (.ref r63), .val (.int f0), .val (.int ((((p4.toUInt32 >>> ((8 : Int32) &&& 31).toUInt32).toInt32)).toInt8.toInt32)), .unset, .unset, .unset]) rfl ?_
      generalize hf1 : ((((p4.toUInt32 >>> ((8 : Int32) &&& 31).toUInt32).toInt32)).toInt8.toInt32) = f1
      have nf1 : nar .byte f1 = f1 := by rw [← hf1]; exact own_i8 _
      refine o_iload X63 hx hby D0_63 rfl ?_
      refine o_bipush X63 hx hby D0_65 (v := 16) rfl ?_
      refine o_iushr X63 hx hby D0_67 ?_
      refine o_i2b X63 hx hby D0_68 ?_
      refine o_istore X63 hx hby D0_69 (l' := #[.val (.int p0), .val (.int p1), .val (.int p2), .val (.int p3), .val (.int p4), .val (.int c0), .val (.int c1), .val (.int c2), .val (.int (1 : Int32)), .val (.int (3 : Int32)), .val (.ref st), .val (.ref r63), .val (.int f0), .val (.int f1), .val (.int ((((p4.toUInt32 >>> ((16 : Int32) &&& 31).toUInt32).toInt32)).toInt8.toInt32)), .unset, .unset]) rfl ?_
      generalize hf2 : ((((p4.toUInt32 >>> ((16 : Int32) &&& 31).toUInt32).toInt32)).toInt8.toInt32) = f2
      have nf2 : nar .byte f2 = f2 := by rw [← hf2]; exact own_i8 _
      refine o_iload X63 hx hby D0_71 rfl ?_
      refine o_ifN X63 hx hby D0_73 ((if0 _ _).trans (tlt (by decide : (0 : Int32) < (3 : Int32))).2.2.2) ?_
      refine o_aload X63 hx hby D0_76 rfl rfl ?_
      refine o_iconst X63 hx hby D0_78 (v := 0) rfl ?_
      refine o_iload X63 hx hby D0_79 rfl ?_
      obtain ⟨cl_r63_64, Ar_r63_64, q_r63_64, S_r63_64, N_r63_64, H_r63_64, G_r63_64⟩ := id Vr63
      have hin_r63_64 : ¬ ((0 : Int32) < 0 ∨ cl_r63_64.slots.size ≤ ((0 : Int32)).toNatClampNeg) := inb_of S_r63_64 ⟨by decide, by decide⟩
      obtain ⟨T64, h64, X64, e64, W64, st64⟩ := stB X63 hx hZ rfl Ar_r63_64 (j := (0 : Int32)) hin_r63_64 (g := (mkF m 81 #[.val (.int p0), .val (.int p1), .val (.int p2), .val (.int p3), .val (.int p4), .val (.int c0), .val (.int c1), .val (.int c2), .val (.int (1 : Int32)), .val (.int (3 : Int32)), .val (.ref st), .val (.ref r63), .val (.int f0), .val (.int f1), .val (.int f2), .unset, .unset] [(.int f0), (.int (0 : Int32)), (.ref r63)])) rfl rfl (hb hby D0_81.1)
      have V_r63_64 : Arv Z h64 r63 kr63 .byte (3 : Int32) [(.int (nar .byte f0)), (.int (0 : Int32)), (.int (0 : Int32))] (.int (0 : Int32)) := Arv.set Ar_r63_64 q_r63_64 S_r63_64 N_r63_64 H_r63_64 G_r63_64 (fits_nar_byte _) W64 0 rfl (Nat.le_of_ble_eq_true rfl)
      have sz64 := own_leN (Keep.of_wr W64).1
      have N64 := Fr.snoc X64 N63 gn_r63
      refine own_pre (A' := T64.setTop (mkF m 82 #[.val (.int p0), .val (.int p1), .val (.int p2), .val (.int p3), .val (.int p4), .val (.int c0), .val (.int c1), .val (.int c2), .val (.int (1 : Int32)), .val (.int (3 : Int32)), .val (.ref st), .val (.ref r63), .val (.int f0), .val (.int f1), .val (.int f2), .unset, .unset] [])) st64 ?_
      refine o_iload X64 hx hby D0_82 rfl ?_
      refine o_iconst X64 hx hby D0_84 (v := 1) rfl ?_
      refine o_icmpN X64 hx hby D0_85 (tlt (by decide : (1 : Int32) < (3 : Int32))).2.2.2 ?_
      refine o_aload X64 hx hby D0_88 rfl rfl ?_
      refine o_iconst X64 hx hby D0_90 (v := 1) rfl ?_
      refine o_iload X64 hx hby D0_91 rfl ?_
      obtain ⟨cl_r63_65, Ar_r63_65, q_r63_65, S_r63_65, N_r63_65, H_r63_65, G_r63_65⟩ := id V_r63_64
      have hin_r63_65 : ¬ ((1 : Int32) < 0 ∨ cl_r63_65.slots.size ≤ ((1 : Int32)).toNatClampNeg) := inb_of S_r63_65 ⟨by decide, by decide⟩
      obtain ⟨T65, h65, X65, e65, W65, st65⟩ := stB X64 hx hZ e64 Ar_r63_65 (j := (1 : Int32)) hin_r63_65 (g := (mkF m 93 #[.val (.int p0), .val (.int p1), .val (.int p2), .val (.int p3), .val (.int p4), .val (.int c0), .val (.int c1), .val (.int c2), .val (.int (1 : Int32)), .val (.int (3 : Int32)), .val (.ref st), .val (.ref r63), .val (.int f0), .val (.int f1), .val (.int f2), .unset, .unset] [(.int f1), (.int (1 : Int32)), (.ref r63)])) rfl rfl (hb hby D0_93.1)
      have V_r63_65 : Arv Z h65 r63 kr63 .byte (3 : Int32) [(.int (nar .byte f0)), (.int (nar .byte f1)), (.int (0 : Int32))] (.int (0 : Int32)) := Arv.set Ar_r63_65 q_r63_65 S_r63_65 N_r63_65 H_r63_65 G_r63_65 (fits_nar_byte _) W65 1 rfl (Nat.le_of_ble_eq_true rfl)
      have sz65 := own_leN (Keep.of_wr W65).1
      have N65 := Fr.snoc X65 N64 gn_r63
      refine own_pre (A' := T65.setTop (mkF m 94 #[.val (.int p0), .val (.int p1), .val (.int p2), .val (.int p3), .val (.int p4), .val (.int c0), .val (.int c1), .val (.int c2), .val (.int (1 : Int32)), .val (.int (3 : Int32)), .val (.ref st), .val (.ref r63), .val (.int f0), .val (.int f1), .val (.int f2), .unset, .unset] [])) st65 ?_
      refine o_iload X65 hx hby D0_94 rfl ?_
      refine o_iconst X65 hx hby D0_96 (v := 2) rfl ?_
      refine o_icmpN X65 hx hby D0_97 (tlt (by decide : (2 : Int32) < (3 : Int32))).2.2.2 ?_
      refine o_aload X65 hx hby D0_100 rfl rfl ?_
      refine o_iconst X65 hx hby D0_102 (v := 2) rfl ?_
      refine o_iload X65 hx hby D0_103 rfl ?_
      obtain ⟨cl_r63_66, Ar_r63_66, q_r63_66, S_r63_66, N_r63_66, H_r63_66, G_r63_66⟩ := id V_r63_65
      have hin_r63_66 : ¬ ((2 : Int32) < 0 ∨ cl_r63_66.slots.size ≤ ((2 : Int32)).toNatClampNeg) := inb_of S_r63_66 ⟨by decide, by decide⟩
      obtain ⟨T66, h66, X66, e66, W66, st66⟩ := stB X65 hx hZ e65 Ar_r63_66 (j := (2 : Int32)) hin_r63_66 (g := (mkF m 105 #[.val (.int p0), .val (.int p1), .val (.int p2), .val (.int p3), .val (.int p4), .val (.int c0), .val (.int c1), .val (.int c2), .val (.int (1 : Int32)), .val (.int (3 : Int32)), .val (.ref st), .val (.ref r63), .val (.int f0), .val (.int f1), .val (.int f2), .unset, .unset] [(.int f2), (.int (2 : Int32)), (.ref r63)])) rfl rfl (hb hby D0_105.1)
      have V_r63_66 : Arv Z h66 r63 kr63 .byte (3 : Int32) [(.int (nar .byte f0)), (.int (nar .byte f1)), (.int (nar .byte f2))] (.int (0 : Int32)) := Arv.set Ar_r63_66 q_r63_66 S_r63_66 N_r63_66 H_r63_66 G_r63_66 (fits_nar_byte _) W66 2 rfl (Nat.le_of_ble_eq_true rfl)
      have sz66 := own_leN (Keep.of_wr W66).1
      have N66 := Fr.snoc X66 N65 gn_r63
      refine own_pre (A' := T66.setTop (mkF m 106 #[.val (.int p0), .val (.int p1), .val (.int p2), .val (.int p3), .val (.int p4), .val (.int c0), .val (.int c1), .val (.int c2), .val (.int (1 : Int32)), .val (.int (3 : Int32)), .val (.ref st), .val (.ref r63), .val (.int f0), .val (.int f1), .val (.int f2), .unset, .unset] [])) st66 ?_
      refine o_aload X66 hx hby D0_106 rfl rfl ?_
      refine o_aload X66 hx hby D0_108 rfl rfl ?_
      have cT68_st := (own_StrK1 (own_StrK1 (own_StrK1 (own_StrK1 Str39 K63 nin0 nin0) (Keep.of_wr W64) (ninS (by first | exact own_neN (by omega) | exact own_neN' (by omega) | assumption) nin0) (ninS (by first | exact own_neN (by omega) | exact own_neN' (by omega) | assumption) nin0)) (Keep.of_wr W65) (ninS (by first | exact own_neN (by omega) | exact own_neN' (by omega) | assumption) nin0) (ninS (by first | exact own_neN (by omega) | exact own_neN' (by omega) | assumption) nin0)) (Keep.of_wr W66) (ninS (by first | exact own_neN (by omega) | exact own_neN' (by omega) | assumption) nin0) (ninS (by first | exact own_neN (by omega) | exact own_neN' (by omega) | assumption) nin0))
      have c69_O := (((((O0.keep K39 all0).keep K63 all0).wr W64 gn_r63).wr W65 gn_r63).wr W66 gn_r63)
      refine kS X66 hx hZ hown hby (wd hw 40 rfl) (wd hw 41 rfl) (wd hw 42 rfl) (wd hw 43 rfl) (rm_ab13 l Z a0 hw [] st r63 vb kb kr63 c0 (.int (nar .byte f0)) (.int (nar .byte f1)) (.int (nar .byte f2)) cs vf h66 n0 (own_leN (by omega)) hST0 c69_O cT68_st hc0 gn_r63 V_r63_66 (own_ltN (by omega)) (own_ltN (by omega))) (by decide) (by decide) (by decide) (by decide) (by decide) (by rw [hml]; rfl) [(.ref st), (.ref r63)] [] (lenOf pd__40Ljava_47lang_47String_59_91B_41I rfl) (W := 0) rfl rfl D0_110 rfl e66 ?_
      intro v67 T67 L67 X67 hQ67
      obtain ⟨rfl, N67q, K67, Vb67⟩ := hQ67
      have sz67 := own_leN K67.1
      have N67 := Fr.app N66 N67q
      refine own_sh (A' := T67.setTop (mkF m 113 _ [(.int (own_ab1 c0))])) ?_
      refine o_istore X67 hx hby D0_113 (l' := #[.val (.int p0), .val (.int p1), .val (.int p2), .val (.int p3), .val (.int p4), .val (.int c0), .val (.int c1), .val (.int c2), .val (.int (1 : Int32)), .val (.int (3 : Int32)), .val (.ref st), .val (.ref r63), .val (.int f0), .val (.int f1), .val (.int f2), .val (.int (own_ab1 c0)), .unset]) rfl ?_
      refine o_iload X67 hx hby D0_115 rfl ?_
      refine o_iload X67 hx hby D0_117 rfl ?_
      refine o_icmpY X67 hx hby D0_119 (flt (by decide : ¬ ((3 : Int32) < (1 : Int32)))).2.2.2 (q := 134) (by decide) (by decide) ?_
      refine o_iload X67 hx hby D0_134 rfl ?_
      refine o_iconst X67 hx hby D0_136 (v := 1) rfl ?_
      refine o_icmpN X67 hx hby D0_137 (flt (by decide : ¬ ((1 : Int32) < (1 : Int32)))).1 ?_
      refine o_iload X67 hx hby D0_140 rfl ?_
      refine o_sipush X67 hx hby D0_142 (v := 128) rfl ?_
      by_cases hc145_70 : c0 < (128 : Int32)
      · skip
        refine o_icmpN X67 hx hby D0_145 (tlt hc145_70).2.1 ?_
        refine o_iload X67 hx hby D0_148 rfl ?_
        refine o_iconst X67 hx hby D0_150 (v := 2) rfl ?_
        refine o_icmpY X67 hx hby D0_151 (tlt (by decide : (1 : Int32) < (2 : Int32))).1 (q := 162) (by decide) (by decide) ?_
        refine o_iload X67 hx hby D0_162 rfl ?_
        refine o_iconst X67 hx hby D0_164 (v := 3) rfl ?_
        refine o_icmpY X67 hx hby D0_165 (tlt (by decide : (1 : Int32) < (3 : Int32))).1 (q := 176) (by decide) (by decide) ?_
        refine o_iconst X67 hx hby D0_176 (v := 1) rfl ?_
        refine o_goto X67 hx hby D0_177 (q := 181) (by decide) (by decide) ?_
        refine o_istore X67 hx hby D0_181 (l' := #[.val (.int p0), .val (.int p1), .val (.int p2), .val (.int p3), .val (.int p4), .val (.int c0), .val (.int c1), .val (.int c2), .val (.int (1 : Int32)), .val (.int (3 : Int32)), .val (.ref st), .val (.ref r63), .val (.int f0), .val (.int f1), .val (.int f2), .val (.int (own_ab1 c0)), .val (.int (1 : Int32))]) rfl ?_
        refine o_iload X67 hx hby D0_183 rfl ?_
        refine o_ifY X67 hx hby D0_185 ((if0 _ _).trans (feq (by decide : ¬ ((1 : Int32) = (0 : Int32)))).2) (q := 200) (by decide) (by decide) ?_
        refine o_iload X67 hx hby D0_200 rfl ?_
        refine o_iload X67 hx hby D0_202 rfl ?_
        refine o_icmpY X67 hx hby D0_204 (teq (own_abY1 hc0 hc145_70 : (own_ab1 c0) = (1 : Int32))).1 (q := 209) (by decide) (by decide) ?_
        refine o_aload X67 hx hby D0_209 rfl rfl ?_
        refine o_iconst X67 hx hby D0_211 (v := 0) rfl ?_
        refine o_iload X67 hx hby D0_212 rfl ?_
        refine o_iload X67 hx hby D0_214 rfl ?_
        refine o_iload X67 hx hby D0_216 rfl ?_
        refine kS X67 hx hZ hown hby (wd hw 76 rfl) (wd hw 77 rfl) (wd hw 2 rfl) (wd hw 78 rfl) (rm_at0A l Z a0 hw [] r63 (1 : Int32) c0 f0 kr63 (3 : Int32) [(.int (own_l8 c0)), (.int (nar .byte f1)), (.int (nar .byte f2))] (own_l8 c0) T67.heap n0 (own_leN (by omega)) Vb67 (by decide) rfl (by decide) (own_i8 _)) (by decide) (by decide) (by decide) (by decide) (by decide) (by rw [hml]; rfl) [(.ref r63), (.int (0 : Int32)), (.int (1 : Int32)), (.int c0), (.int f0)] [] (lenOf pd__40_91BIICB_41Z rfl) (W := 0) rfl rfl D0_218 rfl rfl ?_
        intro v71 T71 L71 X71 hQ71
        obtain ⟨rfl, N71q, e71⟩ := hQ71
        have N71 := Fr.app N67 N71q
        refine own_sh (A' := T71.setTop (mkF m 221 _ [(.int (1 : Int32))])) ?_
        refine o_ifN X71 hx hby D0_221 ((if0 _ _).trans (feq (by decide : ¬ ((1 : Int32) = (0 : Int32)))).1) ?_
        refine o_aload X71 hx hby D0_224 rfl rfl ?_
        refine o_iconst X71 hx hby D0_226 (v := 1) rfl ?_
        refine o_iload X71 hx hby D0_227 rfl ?_
        refine o_iload X71 hx hby D0_229 rfl ?_
        refine o_iload X71 hx hby D0_231 rfl ?_
        refine kS X71 hx hZ hown hby (wd hw 76 rfl) (wd hw 77 rfl) (wd hw 2 rfl) (wd hw 78 rfl) (rm_at1B l Z a0 hw [] r63 (1 : Int32) c1 f1 kr63 (3 : Int32) [(.int (own_l8 c0)), (.int (nar .byte f1)), (.int (nar .byte f2))] (nar .byte f1) T67.heap n0 (own_leN (by omega)) Vb67 (by decide) rfl (by decide) nf1) (by decide) (by decide) (by decide) (by decide) (by decide) (by rw [hml]; rfl) [(.ref r63), (.int (1 : Int32)), (.int (1 : Int32)), (.int c1), (.int f1)] [] (lenOf pd__40_91BIICB_41Z rfl) (W := 0) rfl rfl D0_233 rfl e71 ?_
        intro v72 T72 L72 X72 hQ72
        obtain ⟨rfl, N72q, e72⟩ := hQ72
        have N72 := Fr.app N71 N72q
        refine own_sh (A' := T72.setTop (mkF m 236 _ [(.int (1 : Int32))])) ?_
        refine o_ifN X72 hx hby D0_236 ((if0 _ _).trans (feq (by decide : ¬ ((1 : Int32) = (0 : Int32)))).1) ?_
        refine o_aload X72 hx hby D0_239 rfl rfl ?_
        refine o_iconst X72 hx hby D0_241 (v := 2) rfl ?_
        refine o_iload X72 hx hby D0_242 rfl ?_
        refine o_iload X72 hx hby D0_244 rfl ?_
        refine o_iload X72 hx hby D0_246 rfl ?_
        refine kS X72 hx hZ hown hby (wd hw 76 rfl) (wd hw 77 rfl) (wd hw 2 rfl) (wd hw 78 rfl) (rm_at2B l Z a0 hw [] r63 (1 : Int32) c2 f2 kr63 (3 : Int32) [(.int (own_l8 c0)), (.int (nar .byte f1)), (.int (nar .byte f2))] (nar .byte f2) T67.heap n0 (own_leN (by omega)) Vb67 (by decide) rfl (by decide) nf2) (by decide) (by decide) (by decide) (by decide) (by decide) (by rw [hml]; rfl) [(.ref r63), (.int (2 : Int32)), (.int (1 : Int32)), (.int c2), (.int f2)] [] (lenOf pd__40_91BIICB_41Z rfl) (W := 0) rfl rfl D0_248 rfl e72 ?_
        intro v73 T73 L73 X73 hQ73
        obtain ⟨rfl, N73q, e73⟩ := hQ73
        have N73 := Fr.app N72 N73q
        refine own_sh (A' := T73.setTop (mkF m 251 _ [(.int (1 : Int32))])) ?_
        refine o_ifN X73 hx hby D0_251 ((if0 _ _).trans (feq (by decide : ¬ ((1 : Int32) = (0 : Int32)))).1) ?_
        refine o_iconst X73 hx hby D0_254 (v := 1) rfl ?_
        refine o_goto X73 hx hby D0_255 (q := 259) (by decide) (by decide) ?_
        exact own_retW (v := some (.int (1 : Int32))) X73 (fun h => by first | rfl | (rw [Bd.returns] at h; cases h)) (BodyLoose.notSynchronized Bd) (by decide) (by decide) (⟨rfl, N73⟩) (fun fs hr => retN X73 hx (t := .boolean) Bd.returns (by simp) (hb hby D0_259.1) hr)
      · skip
        refine o_icmpY X67 hx hby D0_145 (flt hc145_70).2.1 (q := 180) (by decide) (by decide) ?_
        refine o_iconst X67 hx hby D0_180 (v := 0) rfl ?_
        refine o_istore X67 hx hby D0_181 (l' := #[.val (.int p0), .val (.int p1), .val (.int p2), .val (.int p3), .val (.int p4), .val (.int c0), .val (.int c1), .val (.int c2), .val (.int (1 : Int32)), .val (.int (3 : Int32)), .val (.ref st), .val (.ref r63), .val (.int f0), .val (.int f1), .val (.int f2), .val (.int (own_ab1 c0)), .val (.int (0 : Int32))]) rfl ?_
        refine o_iload X67 hx hby D0_183 rfl ?_
        refine o_ifN X67 hx hby D0_185 ((if0 _ _).trans (teq (by decide : (0 : Int32) = (0 : Int32))).2) ?_
        refine o_iload X67 hx hby D0_188 rfl ?_
        refine o_iconst X67 hx hby D0_190 (v := -1) rfl ?_
        refine o_icmpN X67 hx hby D0_191 (teq (own_abN1 hc0 (fun q => hc145_70 q) : (own_ab1 c0) = (-1 : Int32))).2 ?_
        refine o_iconst X67 hx hby D0_194 (v := 1) rfl ?_
        refine o_goto X67 hx hby D0_195 (q := 199) (by decide) (by decide) ?_
        exact own_retW (v := some (.int (1 : Int32))) X67 (fun h => by first | rfl | (rw [Bd.returns] at h; cases h)) (BodyLoose.notSynchronized Bd) (by decide) (by decide) (⟨rfl, N67⟩) (fun fs hr => retN X67 hx (t := .boolean) Bd.returns (by simp) (hb hby D0_199.1) hr)
  · skip
    refine o_iload X3 hx hby D0_30 rfl ?_
    refine o_iload X3 hx hby D0_32 rfl ?_
    refine o_iload X3 hx hby D0_34 rfl ?_
    refine o_iload X3 hx hby D0_36 rfl ?_
    refine kS X3 hx hZ hown hby (wd hw 4 rfl) (wd hw 5 rfl) (wd hw 2 rfl) (wd hw 6 rfl) (rm_key2 l Z a0 hw [] c0 c1 c2 cs vf h0 n0 Z0 hST0 O0 hc0 hc1) (by decide) (by decide) (by decide) (by decide) (by decide) (by rw [hml]; rfl) [(.int (2 : Int32)), (.int c0), (.int c1), (.int c2)] [] (lenOf pd__40ICCC_41Ljava_47lang_47String_59 rfl) (W := 0) rfl rfl D0_38 rfl e3 ?_
    intro v74 T74 L74 X74 hQ74
    obtain ⟨st, vb, kb, rfl, N74q, K74, ge74, lt_st, lt_vb, Str74⟩ := hQ74
    have sz74 := own_leN K74.1
    have lt_st := own_ltN lt_st
    have lt_vb := own_ltN lt_vb
    have N74 := Fr.app N3 N74q
    refine own_sh (A' := T74.setTop (mkF m 41 _ [(.ref st)])) ?_
    refine o_astore X74 hx hby D0_41 rfl (l' := #[.val (.int p0), .val (.int p1), .val (.int p2), .val (.int p3), .val (.int p4), .val (.int c0), .val (.int c1), .val (.int c2), .val (.int (2 : Int32)), .val (.int mm), .val (.ref st), .unset, .unset, .unset, .unset, .unset, .unset]) rfl ?_
    rcases hq2 with rfl | rfl | rfl | rfl
    · skip
      refine o_iload X74 hx hby D0_43 rfl ?_
      refine kS X74 hx hZ hown hby (wd hw 37 rfl) (wd hw 38 rfl) (wd hw 2 rfl) (wd hw 39 rfl) (rm_arr0 l Z a0 hw []  T74.heap n0 (own_leN (by omega)) ) (by decide) (by decide) (by decide) (by decide) (by decide) (by rw [hml]; rfl) [(.int (0 : Int32))] [] (lenOf pd__40I_41_91B rfl) (W := 0) rfl rfl D0_45 rfl rfl ?_
      intro v75 T75 L75 X75 hQ75
      obtain ⟨r75, kr75, rfl, N75q, K75, ge75, Vr75⟩ := hQ75
      have sz75 := own_leN K75.1
      have ge75' := own_leN ge75
      have lt_r75 := own_ltN Vr75.lt
      have gn_r75 : n0 ≤ r75 := own_leN (by omega)
      have N75 := Fr.app N74 N75q
      refine own_sh (A' := T75.setTop (mkF m 48 _ [(.ref r75)])) ?_
      refine o_astore X75 hx hby D0_48 rfl (l' := #[.val (.int p0), .val (.int p1), .val (.int p2), .val (.int p3), .val (.int p4), .val (.int c0), .val (.int c1), .val (.int c2), .val (.int (2 : Int32)), .val (.int (0 : Int32)), .val (.ref st), .val (.ref r75), .unset, .unset, .unset, .unset, .unset]) rfl ?_
      refine o_iload X75 hx hby D0_50 rfl ?_
      refine o_i2b X75 hx hby D0_52 ?_
      refine o_istore X75 hx hby D0_53 (l' := #[.val (.int p0), .val (.int p1), .val (.int p2), .val (.int p3), .val (.int p4), .val (.int c0), .val (.int c1), .val (.int c2), .val (.int (2 : Int32)), .val (.int (0 : Int32)), .val (.ref st), .val (.ref r75), .val (.int ((p4).toInt8.toInt32)), .unset, .unset, .unset, .unset]) rfl ?_
      generalize hf0 : ((p4).toInt8.toInt32) = f0
      have nf0 : nar .byte f0 = f0 := by rw [← hf0]; exact own_i8 _
      refine o_iload X75 hx hby D0_55 rfl ?_
      refine o_bipush X75 hx hby D0_57 (v := 8) rfl ?_
      refine o_iushr X75 hx hby D0_59 ?_
      refine o_i2b X75 hx hby D0_60 ?_
      refine o_istore X75 hx hby D0_61 (l' := #[.val (.int p0), .val (.int p1), .val (.int p2), .val (.int p3), .val (.int p4), .val (.int c0), .val (.int c1), .val (.int c2), .val (.int (2 : Int32)), .val (.int (0 : Int32)), .val (.ref st), .val (.ref r75), .val (.int f0), .val (.int ((((p4.toUInt32 >>> ((8 : Int32) &&& 31).toUInt32).toInt32)).toInt8.toInt32)), .unset, .unset, .unset]) rfl ?_
      generalize hf1 : ((((p4.toUInt32 >>> ((8 : Int32) &&& 31).toUInt32).toInt32)).toInt8.toInt32) = f1
      have nf1 : nar .byte f1 = f1 := by rw [← hf1]; exact own_i8 _
      refine o_iload X75 hx hby D0_63 rfl ?_
      refine o_bipush X75 hx hby D0_65 (v := 16) rfl ?_
      refine o_iushr X75 hx hby D0_67 ?_
      refine o_i2b X75 hx hby D0_68 ?_
      refine o_istore X75 hx hby D0_69 (l' := #[.val (.int p0), .val (.int p1), .val (.int p2), .val (.int p3), .val (.int p4), .val (.int c0), .val (.int c1), .val (.int c2), .val (.int (2 : Int32)), .val (.int (0 : Int32)), .val (.ref st), .val (.ref r75), .val (.int f0), .val (.int f1), .val (.int ((((p4.toUInt32 >>> ((16 : Int32) &&& 31).toUInt32).toInt32)).toInt8.toInt32)), .unset, .unset]) rfl ?_
      generalize hf2 : ((((p4.toUInt32 >>> ((16 : Int32) &&& 31).toUInt32).toInt32)).toInt8.toInt32) = f2
      have nf2 : nar .byte f2 = f2 := by rw [← hf2]; exact own_i8 _
      refine o_iload X75 hx hby D0_71 rfl ?_
      refine o_ifY X75 hx hby D0_73 ((if0 _ _).trans (flt (by decide : ¬ ((0 : Int32) < (0 : Int32)))).2.2.2) (q := 82) (by decide) (by decide) ?_
      refine o_iload X75 hx hby D0_82 rfl ?_
      refine o_iconst X75 hx hby D0_84 (v := 1) rfl ?_
      refine o_icmpY X75 hx hby D0_85 (flt (by decide : ¬ ((1 : Int32) < (0 : Int32)))).2.2.2 (q := 94) (by decide) (by decide) ?_
      refine o_iload X75 hx hby D0_94 rfl ?_
      refine o_iconst X75 hx hby D0_96 (v := 2) rfl ?_
      refine o_icmpY X75 hx hby D0_97 (flt (by decide : ¬ ((2 : Int32) < (0 : Int32)))).2.2.2 (q := 106) (by decide) (by decide) ?_
      refine o_aload X75 hx hby D0_106 rfl rfl ?_
      refine o_aload X75 hx hby D0_108 rfl rfl ?_
      have cT77_st := (own_StrK2 Str74 K75 nin0 nin0)
      have c78_O := ((O0.keep K74 all0).keep K75 all0)
      refine kS X75 hx hZ hown hby (wd hw 40 rfl) (wd hw 41 rfl) (wd hw 42 rfl) (wd hw 43 rfl) (rm_abX2 l Z a0 hw [] st r75 vb kb kr75 c0 c1 (0 : Int32) [] cs vf T75.heap n0 (own_leN (by omega)) hST0 c78_O cT77_st Vr75 (by decide)) (by decide) (by decide) (by decide) (by decide) (by decide) (by rw [hml]; rfl) [(.ref st), (.ref r75)] [] (lenOf pd__40Ljava_47lang_47String_59_91B_41I rfl) (W := 0) rfl rfl D0_110 rfl rfl ?_
      intro v76 T76 L76 X76 hQ76
      obtain ⟨rfl, N76q, e76⟩ := hQ76
      have N76 := Fr.app N75 N76q
      refine own_sh (A' := T76.setTop (mkF m 113 _ [(.int (-1 : Int32))])) ?_
      refine o_istore X76 hx hby D0_113 (l' := #[.val (.int p0), .val (.int p1), .val (.int p2), .val (.int p3), .val (.int p4), .val (.int c0), .val (.int c1), .val (.int c2), .val (.int (2 : Int32)), .val (.int (0 : Int32)), .val (.ref st), .val (.ref r75), .val (.int f0), .val (.int f1), .val (.int f2), .val (.int (-1 : Int32)), .unset]) rfl ?_
      refine o_iload X76 hx hby D0_115 rfl ?_
      refine o_iload X76 hx hby D0_117 rfl ?_
      refine o_icmpN X76 hx hby D0_119 (tlt (by decide : (0 : Int32) < (2 : Int32))).2.2.2 ?_
      refine o_iload X76 hx hby D0_122 rfl ?_
      refine o_iconst X76 hx hby D0_124 (v := -1) rfl ?_
      refine o_icmpN X76 hx hby D0_125 (teq (by decide : (-1 : Int32) = (-1 : Int32))).2 ?_
      refine o_iconst X76 hx hby D0_128 (v := 1) rfl ?_
      refine o_goto X76 hx hby D0_129 (q := 133) (by decide) (by decide) ?_
      exact own_retW (v := some (.int (1 : Int32))) X76 (fun h => by first | rfl | (rw [Bd.returns] at h; cases h)) (BodyLoose.notSynchronized Bd) (by decide) (by decide) (⟨rfl, N76⟩) (fun fs hr => retN X76 hx (t := .boolean) Bd.returns (by simp) (hb hby D0_133.1) hr)
    · skip
      refine o_iload X74 hx hby D0_43 rfl ?_
      refine kS X74 hx hZ hown hby (wd hw 37 rfl) (wd hw 38 rfl) (wd hw 2 rfl) (wd hw 39 rfl) (rm_arr1 l Z a0 hw []  T74.heap n0 (own_leN (by omega)) ) (by decide) (by decide) (by decide) (by decide) (by decide) (by rw [hml]; rfl) [(.int (1 : Int32))] [] (lenOf pd__40I_41_91B rfl) (W := 0) rfl rfl D0_45 rfl rfl ?_
      intro v79 T79 L79 X79 hQ79
      obtain ⟨r79, kr79, rfl, N79q, K79, ge79, Vr79⟩ := hQ79
      have sz79 := own_leN K79.1
      have ge79' := own_leN ge79
      have lt_r79 := own_ltN Vr79.lt
      have gn_r79 : n0 ≤ r79 := own_leN (by omega)
      have N79 := Fr.app N74 N79q
      refine own_sh (A' := T79.setTop (mkF m 48 _ [(.ref r79)])) ?_
      refine o_astore X79 hx hby D0_48 rfl (l' := #[.val (.int p0), .val (.int p1), .val (.int p2), .val (.int p3), .val (.int p4), .val (.int c0), .val (.int c1), .val (.int c2), .val (.int (2 : Int32)), .val (.int (1 : Int32)), .val (.ref st), .val (.ref r79), .unset, .unset, .unset, .unset, .unset]) rfl ?_
      refine o_iload X79 hx hby D0_50 rfl ?_
      refine o_i2b X79 hx hby D0_52 ?_
      refine o_istore X79 hx hby D0_53 (l' := #[.val (.int p0), .val (.int p1), .val (.int p2), .val (.int p3), .val (.int p4), .val (.int c0), .val (.int c1), .val (.int c2), .val (.int (2 : Int32)), .val (.int (1 : Int32)), .val (.ref st), .val (.ref r79), .val (.int ((p4).toInt8.toInt32)), .unset, .unset, .unset, .unset]) rfl ?_
      generalize hf0 : ((p4).toInt8.toInt32) = f0
      have nf0 : nar .byte f0 = f0 := by rw [← hf0]; exact own_i8 _
      refine o_iload X79 hx hby D0_55 rfl ?_
      refine o_bipush X79 hx hby D0_57 (v := 8) rfl ?_
      refine o_iushr X79 hx hby D0_59 ?_
      refine o_i2b X79 hx hby D0_60 ?_
      refine o_istore X79 hx hby D0_61 (l' := #[.val (.int p0), .val (.int p1), .val (.int p2), .val (.int p3), .val (.int p4), .val (.int c0), .val (.int c1), .val (.int c2), .val (.int (2 : Int32)), .val (.int (1 : Int32)), .val (.ref st), .val (.ref r79), .val (.int f0), .val (.int ((((p4.toUInt32 >>> ((8 : Int32) &&& 31).toUInt32).toInt32)).toInt8.toInt32)), .unset, .unset, .unset]) rfl ?_
      generalize hf1 : ((((p4.toUInt32 >>> ((8 : Int32) &&& 31).toUInt32).toInt32)).toInt8.toInt32) = f1
      have nf1 : nar .byte f1 = f1 := by rw [← hf1]; exact own_i8 _
      refine o_iload X79 hx hby D0_63 rfl ?_
      refine o_bipush X79 hx hby D0_65 (v := 16) rfl ?_
      refine o_iushr X79 hx hby D0_67 ?_
      refine o_i2b X79 hx hby D0_68 ?_
      refine o_istore X79 hx hby D0_69 (l' := #[.val (.int p0), .val (.int p1), .val (.int p2), .val (.int p3), .val (.int p4), .val (.int c0), .val (.int c1), .val (.int c2), .val (.int (2 : Int32)), .val (.int (1 : Int32)), .val (.ref st), .val (.ref r79), .val (.int f0), .val (.int f1), .val (.int ((((p4.toUInt32 >>> ((16 : Int32) &&& 31).toUInt32).toInt32)).toInt8.toInt32)), .unset, .unset]) rfl ?_
      generalize hf2 : ((((p4.toUInt32 >>> ((16 : Int32) &&& 31).toUInt32).toInt32)).toInt8.toInt32) = f2
      have nf2 : nar .byte f2 = f2 := by rw [← hf2]; exact own_i8 _
      refine o_iload X79 hx hby D0_71 rfl ?_
      refine o_ifN X79 hx hby D0_73 ((if0 _ _).trans (tlt (by decide : (0 : Int32) < (1 : Int32))).2.2.2) ?_
      refine o_aload X79 hx hby D0_76 rfl rfl ?_
      refine o_iconst X79 hx hby D0_78 (v := 0) rfl ?_
      refine o_iload X79 hx hby D0_79 rfl ?_
      obtain ⟨cl_r79_80, Ar_r79_80, q_r79_80, S_r79_80, N_r79_80, H_r79_80, G_r79_80⟩ := id Vr79
      have hin_r79_80 : ¬ ((0 : Int32) < 0 ∨ cl_r79_80.slots.size ≤ ((0 : Int32)).toNatClampNeg) := inb_of S_r79_80 ⟨by decide, by decide⟩
      obtain ⟨T80, h80, X80, e80, W80, st80⟩ := stB X79 hx hZ rfl Ar_r79_80 (j := (0 : Int32)) hin_r79_80 (g := (mkF m 81 #[.val (.int p0), .val (.int p1), .val (.int p2), .val (.int p3), .val (.int p4), .val (.int c0), .val (.int c1), .val (.int c2), .val (.int (2 : Int32)), .val (.int (1 : Int32)), .val (.ref st), .val (.ref r79), .val (.int f0), .val (.int f1), .val (.int f2), .unset, .unset] [(.int f0), (.int (0 : Int32)), (.ref r79)])) rfl rfl (hb hby D0_81.1)
      have V_r79_80 : Arv Z h80 r79 kr79 .byte (1 : Int32) [(.int (nar .byte f0))] (.int (0 : Int32)) := Arv.set Ar_r79_80 q_r79_80 S_r79_80 N_r79_80 H_r79_80 G_r79_80 (fits_nar_byte _) W80 0 rfl (Nat.le_of_ble_eq_true rfl)
      have sz80 := own_leN (Keep.of_wr W80).1
      have N80 := Fr.snoc X80 N79 gn_r79
      refine own_pre (A' := T80.setTop (mkF m 82 #[.val (.int p0), .val (.int p1), .val (.int p2), .val (.int p3), .val (.int p4), .val (.int c0), .val (.int c1), .val (.int c2), .val (.int (2 : Int32)), .val (.int (1 : Int32)), .val (.ref st), .val (.ref r79), .val (.int f0), .val (.int f1), .val (.int f2), .unset, .unset] [])) st80 ?_
      refine o_iload X80 hx hby D0_82 rfl ?_
      refine o_iconst X80 hx hby D0_84 (v := 1) rfl ?_
      refine o_icmpY X80 hx hby D0_85 (flt (by decide : ¬ ((1 : Int32) < (1 : Int32)))).2.2.2 (q := 94) (by decide) (by decide) ?_
      refine o_iload X80 hx hby D0_94 rfl ?_
      refine o_iconst X80 hx hby D0_96 (v := 2) rfl ?_
      refine o_icmpY X80 hx hby D0_97 (flt (by decide : ¬ ((2 : Int32) < (1 : Int32)))).2.2.2 (q := 106) (by decide) (by decide) ?_
      refine o_aload X80 hx hby D0_106 rfl rfl ?_
      refine o_aload X80 hx hby D0_108 rfl rfl ?_
      have cT82_st := (own_StrK2 (own_StrK2 Str74 K79 nin0 nin0) (Keep.of_wr W80) (ninS (by first | exact own_neN (by omega) | exact own_neN' (by omega) | assumption) nin0) (ninS (by first | exact own_neN (by omega) | exact own_neN' (by omega) | assumption) nin0))
      have c83_O := (((O0.keep K74 all0).keep K79 all0).wr W80 gn_r79)
      refine kS X80 hx hZ hown hby (wd hw 40 rfl) (wd hw 41 rfl) (wd hw 42 rfl) (wd hw 43 rfl) (rm_abX2 l Z a0 hw [] st r79 vb kb kr79 c0 c1 (1 : Int32) [(.int (nar .byte f0))] cs vf h80 n0 (own_leN (by omega)) hST0 c83_O cT82_st V_r79_80 (by decide)) (by decide) (by decide) (by decide) (by decide) (by decide) (by rw [hml]; rfl) [(.ref st), (.ref r79)] [] (lenOf pd__40Ljava_47lang_47String_59_91B_41I rfl) (W := 0) rfl rfl D0_110 rfl e80 ?_
      intro v81 T81 L81 X81 hQ81
      obtain ⟨rfl, N81q, e81⟩ := hQ81
      have N81 := Fr.app N80 N81q
      refine own_sh (A' := T81.setTop (mkF m 113 _ [(.int (-1 : Int32))])) ?_
      refine o_istore X81 hx hby D0_113 (l' := #[.val (.int p0), .val (.int p1), .val (.int p2), .val (.int p3), .val (.int p4), .val (.int c0), .val (.int c1), .val (.int c2), .val (.int (2 : Int32)), .val (.int (1 : Int32)), .val (.ref st), .val (.ref r79), .val (.int f0), .val (.int f1), .val (.int f2), .val (.int (-1 : Int32)), .unset]) rfl ?_
      refine o_iload X81 hx hby D0_115 rfl ?_
      refine o_iload X81 hx hby D0_117 rfl ?_
      refine o_icmpN X81 hx hby D0_119 (tlt (by decide : (1 : Int32) < (2 : Int32))).2.2.2 ?_
      refine o_iload X81 hx hby D0_122 rfl ?_
      refine o_iconst X81 hx hby D0_124 (v := -1) rfl ?_
      refine o_icmpN X81 hx hby D0_125 (teq (by decide : (-1 : Int32) = (-1 : Int32))).2 ?_
      refine o_iconst X81 hx hby D0_128 (v := 1) rfl ?_
      refine o_goto X81 hx hby D0_129 (q := 133) (by decide) (by decide) ?_
      exact own_retW (v := some (.int (1 : Int32))) X81 (fun h => by first | rfl | (rw [Bd.returns] at h; cases h)) (BodyLoose.notSynchronized Bd) (by decide) (by decide) (⟨rfl, N81⟩) (fun fs hr => retN X81 hx (t := .boolean) Bd.returns (by simp) (hb hby D0_133.1) hr)
    · skip
      refine o_iload X74 hx hby D0_43 rfl ?_
      refine kS X74 hx hZ hown hby (wd hw 37 rfl) (wd hw 38 rfl) (wd hw 2 rfl) (wd hw 39 rfl) (rm_arr2 l Z a0 hw []  T74.heap n0 (own_leN (by omega)) ) (by decide) (by decide) (by decide) (by decide) (by decide) (by rw [hml]; rfl) [(.int (2 : Int32))] [] (lenOf pd__40I_41_91B rfl) (W := 0) rfl rfl D0_45 rfl rfl ?_
      intro v84 T84 L84 X84 hQ84
      obtain ⟨r84, kr84, rfl, N84q, K84, ge84, Vr84⟩ := hQ84
      have sz84 := own_leN K84.1
      have ge84' := own_leN ge84
      have lt_r84 := own_ltN Vr84.lt
      have gn_r84 : n0 ≤ r84 := own_leN (by omega)
      have N84 := Fr.app N74 N84q
      refine own_sh (A' := T84.setTop (mkF m 48 _ [(.ref r84)])) ?_
      refine o_astore X84 hx hby D0_48 rfl (l' := #[.val (.int p0), .val (.int p1), .val (.int p2), .val (.int p3), .val (.int p4), .val (.int c0), .val (.int c1), .val (.int c2), .val (.int (2 : Int32)), .val (.int (2 : Int32)), .val (.ref st), .val (.ref r84), .unset, .unset, .unset, .unset, .unset]) rfl ?_
      refine o_iload X84 hx hby D0_50 rfl ?_
      refine o_i2b X84 hx hby D0_52 ?_
      refine o_istore X84 hx hby D0_53 (l' := #[.val (.int p0), .val (.int p1), .val (.int p2), .val (.int p3), .val (.int p4), .val (.int c0), .val (.int c1), .val (.int c2), .val (.int (2 : Int32)), .val (.int (2 : Int32)), .val (.ref st), .val (.ref r84), .val (.int ((p4).toInt8.toInt32)), .unset, .unset, .unset, .unset]) rfl ?_
      generalize hf0 : ((p4).toInt8.toInt32) = f0
      have nf0 : nar .byte f0 = f0 := by rw [← hf0]; exact own_i8 _
      refine o_iload X84 hx hby D0_55 rfl ?_
      refine o_bipush X84 hx hby D0_57 (v := 8) rfl ?_
      refine o_iushr X84 hx hby D0_59 ?_
      refine o_i2b X84 hx hby D0_60 ?_
      refine o_istore X84 hx hby D0_61 (l' := #[.val (.int p0), .val (.int p1), .val (.int p2), .val (.int p3), .val (.int p4), .val (.int c0), .val (.int c1), .val (.int c2), .val (.int (2 : Int32)), .val (.int (2 : Int32)), .val (.ref st), .val (.ref r84), .val (.int f0), .val (.int ((((p4.toUInt32 >>> ((8 : Int32) &&& 31).toUInt32).toInt32)).toInt8.toInt32)), .unset, .unset, .unset]) rfl ?_
      generalize hf1 : ((((p4.toUInt32 >>> ((8 : Int32) &&& 31).toUInt32).toInt32)).toInt8.toInt32) = f1
      have nf1 : nar .byte f1 = f1 := by rw [← hf1]; exact own_i8 _
      refine o_iload X84 hx hby D0_63 rfl ?_
      refine o_bipush X84 hx hby D0_65 (v := 16) rfl ?_
      refine o_iushr X84 hx hby D0_67 ?_
      refine o_i2b X84 hx hby D0_68 ?_
      refine o_istore X84 hx hby D0_69 (l' := #[.val (.int p0), .val (.int p1), .val (.int p2), .val (.int p3), .val (.int p4), .val (.int c0), .val (.int c1), .val (.int c2), .val (.int (2 : Int32)), .val (.int (2 : Int32)), .val (.ref st), .val (.ref r84), .val (.int f0), .val (.int f1), .val (.int ((((p4.toUInt32 >>> ((16 : Int32) &&& 31).toUInt32).toInt32)).toInt8.toInt32)), .unset, .unset]) rfl ?_
      generalize hf2 : ((((p4.toUInt32 >>> ((16 : Int32) &&& 31).toUInt32).toInt32)).toInt8.toInt32) = f2
      have nf2 : nar .byte f2 = f2 := by rw [← hf2]; exact own_i8 _
      refine o_iload X84 hx hby D0_71 rfl ?_
      refine o_ifN X84 hx hby D0_73 ((if0 _ _).trans (tlt (by decide : (0 : Int32) < (2 : Int32))).2.2.2) ?_
      refine o_aload X84 hx hby D0_76 rfl rfl ?_
      refine o_iconst X84 hx hby D0_78 (v := 0) rfl ?_
      refine o_iload X84 hx hby D0_79 rfl ?_
      obtain ⟨cl_r84_85, Ar_r84_85, q_r84_85, S_r84_85, N_r84_85, H_r84_85, G_r84_85⟩ := id Vr84
      have hin_r84_85 : ¬ ((0 : Int32) < 0 ∨ cl_r84_85.slots.size ≤ ((0 : Int32)).toNatClampNeg) := inb_of S_r84_85 ⟨by decide, by decide⟩
      obtain ⟨T85, h85, X85, e85, W85, st85⟩ := stB X84 hx hZ rfl Ar_r84_85 (j := (0 : Int32)) hin_r84_85 (g := (mkF m 81 #[.val (.int p0), .val (.int p1), .val (.int p2), .val (.int p3), .val (.int p4), .val (.int c0), .val (.int c1), .val (.int c2), .val (.int (2 : Int32)), .val (.int (2 : Int32)), .val (.ref st), .val (.ref r84), .val (.int f0), .val (.int f1), .val (.int f2), .unset, .unset] [(.int f0), (.int (0 : Int32)), (.ref r84)])) rfl rfl (hb hby D0_81.1)
      have V_r84_85 : Arv Z h85 r84 kr84 .byte (2 : Int32) [(.int (nar .byte f0)), (.int (0 : Int32))] (.int (0 : Int32)) := Arv.set Ar_r84_85 q_r84_85 S_r84_85 N_r84_85 H_r84_85 G_r84_85 (fits_nar_byte _) W85 0 rfl (Nat.le_of_ble_eq_true rfl)
      have sz85 := own_leN (Keep.of_wr W85).1
      have N85 := Fr.snoc X85 N84 gn_r84
      refine own_pre (A' := T85.setTop (mkF m 82 #[.val (.int p0), .val (.int p1), .val (.int p2), .val (.int p3), .val (.int p4), .val (.int c0), .val (.int c1), .val (.int c2), .val (.int (2 : Int32)), .val (.int (2 : Int32)), .val (.ref st), .val (.ref r84), .val (.int f0), .val (.int f1), .val (.int f2), .unset, .unset] [])) st85 ?_
      refine o_iload X85 hx hby D0_82 rfl ?_
      refine o_iconst X85 hx hby D0_84 (v := 1) rfl ?_
      refine o_icmpN X85 hx hby D0_85 (tlt (by decide : (1 : Int32) < (2 : Int32))).2.2.2 ?_
      refine o_aload X85 hx hby D0_88 rfl rfl ?_
      refine o_iconst X85 hx hby D0_90 (v := 1) rfl ?_
      refine o_iload X85 hx hby D0_91 rfl ?_
      obtain ⟨cl_r84_86, Ar_r84_86, q_r84_86, S_r84_86, N_r84_86, H_r84_86, G_r84_86⟩ := id V_r84_85
      have hin_r84_86 : ¬ ((1 : Int32) < 0 ∨ cl_r84_86.slots.size ≤ ((1 : Int32)).toNatClampNeg) := inb_of S_r84_86 ⟨by decide, by decide⟩
      obtain ⟨T86, h86, X86, e86, W86, st86⟩ := stB X85 hx hZ e85 Ar_r84_86 (j := (1 : Int32)) hin_r84_86 (g := (mkF m 93 #[.val (.int p0), .val (.int p1), .val (.int p2), .val (.int p3), .val (.int p4), .val (.int c0), .val (.int c1), .val (.int c2), .val (.int (2 : Int32)), .val (.int (2 : Int32)), .val (.ref st), .val (.ref r84), .val (.int f0), .val (.int f1), .val (.int f2), .unset, .unset] [(.int f1), (.int (1 : Int32)), (.ref r84)])) rfl rfl (hb hby D0_93.1)
      have V_r84_86 : Arv Z h86 r84 kr84 .byte (2 : Int32) [(.int (nar .byte f0)), (.int (nar .byte f1))] (.int (0 : Int32)) := Arv.set Ar_r84_86 q_r84_86 S_r84_86 N_r84_86 H_r84_86 G_r84_86 (fits_nar_byte _) W86 1 rfl (Nat.le_of_ble_eq_true rfl)
      have sz86 := own_leN (Keep.of_wr W86).1
      have N86 := Fr.snoc X86 N85 gn_r84
      refine own_pre (A' := T86.setTop (mkF m 94 #[.val (.int p0), .val (.int p1), .val (.int p2), .val (.int p3), .val (.int p4), .val (.int c0), .val (.int c1), .val (.int c2), .val (.int (2 : Int32)), .val (.int (2 : Int32)), .val (.ref st), .val (.ref r84), .val (.int f0), .val (.int f1), .val (.int f2), .unset, .unset] [])) st86 ?_
      refine o_iload X86 hx hby D0_94 rfl ?_
      refine o_iconst X86 hx hby D0_96 (v := 2) rfl ?_
      refine o_icmpY X86 hx hby D0_97 (flt (by decide : ¬ ((2 : Int32) < (2 : Int32)))).2.2.2 (q := 106) (by decide) (by decide) ?_
      refine o_aload X86 hx hby D0_106 rfl rfl ?_
      refine o_aload X86 hx hby D0_108 rfl rfl ?_
      have cT88_st := (own_StrK2 (own_StrK2 (own_StrK2 Str74 K84 nin0 nin0) (Keep.of_wr W85) (ninS (by first | exact own_neN (by omega) | exact own_neN' (by omega) | assumption) nin0) (ninS (by first | exact own_neN (by omega) | exact own_neN' (by omega) | assumption) nin0)) (Keep.of_wr W86) (ninS (by first | exact own_neN (by omega) | exact own_neN' (by omega) | assumption) nin0) (ninS (by first | exact own_neN (by omega) | exact own_neN' (by omega) | assumption) nin0))
      have c89_O := ((((O0.keep K74 all0).keep K84 all0).wr W85 gn_r84).wr W86 gn_r84)
      refine kS X86 hx hZ hown hby (wd hw 40 rfl) (wd hw 41 rfl) (wd hw 42 rfl) (wd hw 43 rfl) (rm_ab22 l Z a0 hw [] st r84 vb kb kr84 c0 c1 (.int (nar .byte f0)) (.int (nar .byte f1)) cs vf h86 n0 (own_leN (by omega)) hST0 c89_O cT88_st hc0 hc1 gn_r84 V_r84_86 (own_ltN (by omega)) (own_ltN (by omega))) (by decide) (by decide) (by decide) (by decide) (by decide) (by rw [hml]; rfl) [(.ref st), (.ref r84)] [] (lenOf pd__40Ljava_47lang_47String_59_91B_41I rfl) (W := 0) rfl rfl D0_110 rfl e86 ?_
      intro v87 T87 L87 X87 hQ87
      obtain ⟨rfl, N87q, K87, Vb87⟩ := hQ87
      have sz87 := own_leN K87.1
      have N87 := Fr.app N86 N87q
      refine own_sh (A' := T87.setTop (mkF m 113 _ [(.int (own_ab2 c0 c1))])) ?_
      refine o_istore X87 hx hby D0_113 (l' := #[.val (.int p0), .val (.int p1), .val (.int p2), .val (.int p3), .val (.int p4), .val (.int c0), .val (.int c1), .val (.int c2), .val (.int (2 : Int32)), .val (.int (2 : Int32)), .val (.ref st), .val (.ref r84), .val (.int f0), .val (.int f1), .val (.int f2), .val (.int (own_ab2 c0 c1)), .unset]) rfl ?_
      refine o_iload X87 hx hby D0_115 rfl ?_
      refine o_iload X87 hx hby D0_117 rfl ?_
      refine o_icmpY X87 hx hby D0_119 (flt (by decide : ¬ ((2 : Int32) < (2 : Int32)))).2.2.2 (q := 134) (by decide) (by decide) ?_
      refine o_iload X87 hx hby D0_134 rfl ?_
      refine o_iconst X87 hx hby D0_136 (v := 1) rfl ?_
      refine o_icmpN X87 hx hby D0_137 (flt (by decide : ¬ ((2 : Int32) < (1 : Int32)))).1 ?_
      refine o_iload X87 hx hby D0_140 rfl ?_
      refine o_sipush X87 hx hby D0_142 (v := 128) rfl ?_
      by_cases hc145_90 : c0 < (128 : Int32)
      · skip
        refine o_icmpN X87 hx hby D0_145 (tlt hc145_90).2.1 ?_
        refine o_iload X87 hx hby D0_148 rfl ?_
        refine o_iconst X87 hx hby D0_150 (v := 2) rfl ?_
        refine o_icmpN X87 hx hby D0_151 (flt (by decide : ¬ ((2 : Int32) < (2 : Int32)))).1 ?_
        refine o_iload X87 hx hby D0_154 rfl ?_
        refine o_sipush X87 hx hby D0_156 (v := 128) rfl ?_
        by_cases hc159_91 : c1 < (128 : Int32)
        · skip
          refine o_icmpN X87 hx hby D0_159 (tlt hc159_91).2.1 ?_
          refine o_iload X87 hx hby D0_162 rfl ?_
          refine o_iconst X87 hx hby D0_164 (v := 3) rfl ?_
          refine o_icmpY X87 hx hby D0_165 (tlt (by decide : (2 : Int32) < (3 : Int32))).1 (q := 176) (by decide) (by decide) ?_
          refine o_iconst X87 hx hby D0_176 (v := 1) rfl ?_
          refine o_goto X87 hx hby D0_177 (q := 181) (by decide) (by decide) ?_
          refine o_istore X87 hx hby D0_181 (l' := #[.val (.int p0), .val (.int p1), .val (.int p2), .val (.int p3), .val (.int p4), .val (.int c0), .val (.int c1), .val (.int c2), .val (.int (2 : Int32)), .val (.int (2 : Int32)), .val (.ref st), .val (.ref r84), .val (.int f0), .val (.int f1), .val (.int f2), .val (.int (own_ab2 c0 c1)), .val (.int (1 : Int32))]) rfl ?_
          refine o_iload X87 hx hby D0_183 rfl ?_
          refine o_ifY X87 hx hby D0_185 ((if0 _ _).trans (feq (by decide : ¬ ((1 : Int32) = (0 : Int32)))).2) (q := 200) (by decide) (by decide) ?_
          refine o_iload X87 hx hby D0_200 rfl ?_
          refine o_iload X87 hx hby D0_202 rfl ?_
          refine o_icmpY X87 hx hby D0_204 (teq (own_abY2 hc0 hc1 ⟨hc145_90, hc159_91⟩ : (own_ab2 c0 c1) = (2 : Int32))).1 (q := 209) (by decide) (by decide) ?_
          refine o_aload X87 hx hby D0_209 rfl rfl ?_
          refine o_iconst X87 hx hby D0_211 (v := 0) rfl ?_
          refine o_iload X87 hx hby D0_212 rfl ?_
          refine o_iload X87 hx hby D0_214 rfl ?_
          refine o_iload X87 hx hby D0_216 rfl ?_
          refine kS X87 hx hZ hown hby (wd hw 76 rfl) (wd hw 77 rfl) (wd hw 2 rfl) (wd hw 78 rfl) (rm_at0A l Z a0 hw [] r84 (2 : Int32) c0 f0 kr84 (2 : Int32) [(.int (own_l8 c0)), (.int (own_l8 c1))] (own_l8 c0) T87.heap n0 (own_leN (by omega)) Vb87 (by decide) rfl (by decide) (own_i8 _)) (by decide) (by decide) (by decide) (by decide) (by decide) (by rw [hml]; rfl) [(.ref r84), (.int (0 : Int32)), (.int (2 : Int32)), (.int c0), (.int f0)] [] (lenOf pd__40_91BIICB_41Z rfl) (W := 0) rfl rfl D0_218 rfl rfl ?_
          intro v92 T92 L92 X92 hQ92
          obtain ⟨rfl, N92q, e92⟩ := hQ92
          have N92 := Fr.app N87 N92q
          refine own_sh (A' := T92.setTop (mkF m 221 _ [(.int (1 : Int32))])) ?_
          refine o_ifN X92 hx hby D0_221 ((if0 _ _).trans (feq (by decide : ¬ ((1 : Int32) = (0 : Int32)))).1) ?_
          refine o_aload X92 hx hby D0_224 rfl rfl ?_
          refine o_iconst X92 hx hby D0_226 (v := 1) rfl ?_
          refine o_iload X92 hx hby D0_227 rfl ?_
          refine o_iload X92 hx hby D0_229 rfl ?_
          refine o_iload X92 hx hby D0_231 rfl ?_
          refine kS X92 hx hZ hown hby (wd hw 76 rfl) (wd hw 77 rfl) (wd hw 2 rfl) (wd hw 78 rfl) (rm_at1A l Z a0 hw [] r84 (2 : Int32) c1 f1 kr84 (2 : Int32) [(.int (own_l8 c0)), (.int (own_l8 c1))] (own_l8 c1) T87.heap n0 (own_leN (by omega)) Vb87 (by decide) rfl (by decide) (own_i8 _)) (by decide) (by decide) (by decide) (by decide) (by decide) (by rw [hml]; rfl) [(.ref r84), (.int (1 : Int32)), (.int (2 : Int32)), (.int c1), (.int f1)] [] (lenOf pd__40_91BIICB_41Z rfl) (W := 0) rfl rfl D0_233 rfl e92 ?_
          intro v93 T93 L93 X93 hQ93
          obtain ⟨rfl, N93q, e93⟩ := hQ93
          have N93 := Fr.app N92 N93q
          refine own_sh (A' := T93.setTop (mkF m 236 _ [(.int (1 : Int32))])) ?_
          refine o_ifN X93 hx hby D0_236 ((if0 _ _).trans (feq (by decide : ¬ ((1 : Int32) = (0 : Int32)))).1) ?_
          refine o_aload X93 hx hby D0_239 rfl rfl ?_
          refine o_iconst X93 hx hby D0_241 (v := 2) rfl ?_
          refine o_iload X93 hx hby D0_242 rfl ?_
          refine o_iload X93 hx hby D0_244 rfl ?_
          refine o_iload X93 hx hby D0_246 rfl ?_
          refine kS X93 hx hZ hown hby (wd hw 76 rfl) (wd hw 77 rfl) (wd hw 2 rfl) (wd hw 78 rfl) (rm_at2O l Z a0 hw [] r84 (2 : Int32) c2 f2 kr84 (2 : Int32) [(.int (own_l8 c0)), (.int (own_l8 c1))] (0 : Int32) T87.heap n0 (own_leN (by omega)) Vb87 (by decide)) (by decide) (by decide) (by decide) (by decide) (by decide) (by rw [hml]; rfl) [(.ref r84), (.int (2 : Int32)), (.int (2 : Int32)), (.int c2), (.int f2)] [] (lenOf pd__40_91BIICB_41Z rfl) (W := 0) rfl rfl D0_248 rfl e93 ?_
          intro v94 T94 L94 X94 hQ94
          obtain ⟨rfl, N94q, e94⟩ := hQ94
          have N94 := Fr.app N93 N94q
          refine own_sh (A' := T94.setTop (mkF m 251 _ [(.int (1 : Int32))])) ?_
          refine o_ifN X94 hx hby D0_251 ((if0 _ _).trans (feq (by decide : ¬ ((1 : Int32) = (0 : Int32)))).1) ?_
          refine o_iconst X94 hx hby D0_254 (v := 1) rfl ?_
          refine o_goto X94 hx hby D0_255 (q := 259) (by decide) (by decide) ?_
          exact own_retW (v := some (.int (1 : Int32))) X94 (fun h => by first | rfl | (rw [Bd.returns] at h; cases h)) (BodyLoose.notSynchronized Bd) (by decide) (by decide) (⟨rfl, N94⟩) (fun fs hr => retN X94 hx (t := .boolean) Bd.returns (by simp) (hb hby D0_259.1) hr)
        · skip
          refine o_icmpY X87 hx hby D0_159 (flt hc159_91).2.1 (q := 180) (by decide) (by decide) ?_
          refine o_iconst X87 hx hby D0_180 (v := 0) rfl ?_
          refine o_istore X87 hx hby D0_181 (l' := #[.val (.int p0), .val (.int p1), .val (.int p2), .val (.int p3), .val (.int p4), .val (.int c0), .val (.int c1), .val (.int c2), .val (.int (2 : Int32)), .val (.int (2 : Int32)), .val (.ref st), .val (.ref r84), .val (.int f0), .val (.int f1), .val (.int f2), .val (.int (own_ab2 c0 c1)), .val (.int (0 : Int32))]) rfl ?_
          refine o_iload X87 hx hby D0_183 rfl ?_
          refine o_ifN X87 hx hby D0_185 ((if0 _ _).trans (teq (by decide : (0 : Int32) = (0 : Int32))).2) ?_
          refine o_iload X87 hx hby D0_188 rfl ?_
          refine o_iconst X87 hx hby D0_190 (v := -1) rfl ?_
          refine o_icmpN X87 hx hby D0_191 (teq (own_abN2 hc0 hc1 (fun q => hc159_91 q.2) : (own_ab2 c0 c1) = (-1 : Int32))).2 ?_
          refine o_iconst X87 hx hby D0_194 (v := 1) rfl ?_
          refine o_goto X87 hx hby D0_195 (q := 199) (by decide) (by decide) ?_
          exact own_retW (v := some (.int (1 : Int32))) X87 (fun h => by first | rfl | (rw [Bd.returns] at h; cases h)) (BodyLoose.notSynchronized Bd) (by decide) (by decide) (⟨rfl, N87⟩) (fun fs hr => retN X87 hx (t := .boolean) Bd.returns (by simp) (hb hby D0_199.1) hr)
      · skip
        refine o_icmpY X87 hx hby D0_145 (flt hc145_90).2.1 (q := 180) (by decide) (by decide) ?_
        refine o_iconst X87 hx hby D0_180 (v := 0) rfl ?_
        refine o_istore X87 hx hby D0_181 (l' := #[.val (.int p0), .val (.int p1), .val (.int p2), .val (.int p3), .val (.int p4), .val (.int c0), .val (.int c1), .val (.int c2), .val (.int (2 : Int32)), .val (.int (2 : Int32)), .val (.ref st), .val (.ref r84), .val (.int f0), .val (.int f1), .val (.int f2), .val (.int (own_ab2 c0 c1)), .val (.int (0 : Int32))]) rfl ?_
        refine o_iload X87 hx hby D0_183 rfl ?_
        refine o_ifN X87 hx hby D0_185 ((if0 _ _).trans (teq (by decide : (0 : Int32) = (0 : Int32))).2) ?_
        refine o_iload X87 hx hby D0_188 rfl ?_
        refine o_iconst X87 hx hby D0_190 (v := -1) rfl ?_
        refine o_icmpN X87 hx hby D0_191 (teq (own_abN2 hc0 hc1 (fun q => hc145_90 q.1) : (own_ab2 c0 c1) = (-1 : Int32))).2 ?_
        refine o_iconst X87 hx hby D0_194 (v := 1) rfl ?_
        refine o_goto X87 hx hby D0_195 (q := 199) (by decide) (by decide) ?_
        exact own_retW (v := some (.int (1 : Int32))) X87 (fun h => by first | rfl | (rw [Bd.returns] at h; cases h)) (BodyLoose.notSynchronized Bd) (by decide) (by decide) (⟨rfl, N87⟩) (fun fs hr => retN X87 hx (t := .boolean) Bd.returns (by simp) (hb hby D0_199.1) hr)
    · skip
      refine o_iload X74 hx hby D0_43 rfl ?_
      refine kS X74 hx hZ hown hby (wd hw 37 rfl) (wd hw 38 rfl) (wd hw 2 rfl) (wd hw 39 rfl) (rm_arr3 l Z a0 hw []  T74.heap n0 (own_leN (by omega)) ) (by decide) (by decide) (by decide) (by decide) (by decide) (by rw [hml]; rfl) [(.int (3 : Int32))] [] (lenOf pd__40I_41_91B rfl) (W := 0) rfl rfl D0_45 rfl rfl ?_
      intro v95 T95 L95 X95 hQ95
      obtain ⟨r95, kr95, rfl, N95q, K95, ge95, Vr95⟩ := hQ95
      have sz95 := own_leN K95.1
      have ge95' := own_leN ge95
      have lt_r95 := own_ltN Vr95.lt
      have gn_r95 : n0 ≤ r95 := own_leN (by omega)
      have N95 := Fr.app N74 N95q
      refine own_sh (A' := T95.setTop (mkF m 48 _ [(.ref r95)])) ?_
      refine o_astore X95 hx hby D0_48 rfl (l' := #[.val (.int p0), .val (.int p1), .val (.int p2), .val (.int p3), .val (.int p4), .val (.int c0), .val (.int c1), .val (.int c2), .val (.int (2 : Int32)), .val (.int (3 : Int32)), .val (.ref st), .val (.ref r95), .unset, .unset, .unset, .unset, .unset]) rfl ?_
      refine o_iload X95 hx hby D0_50 rfl ?_
      refine o_i2b X95 hx hby D0_52 ?_
      refine o_istore X95 hx hby D0_53 (l' := #[.val (.int p0), .val (.int p1), .val (.int p2), .val (.int p3), .val (.int p4), .val (.int c0), .val (.int c1), .val (.int c2), .val (.int (2 : Int32)), .val (.int (3 : Int32)), .val (.ref st), .val (.ref r95), .val (.int ((p4).toInt8.toInt32)), .unset, .unset, .unset, .unset]) rfl ?_
      generalize hf0 : ((p4).toInt8.toInt32) = f0
      have nf0 : nar .byte f0 = f0 := by rw [← hf0]; exact own_i8 _
      refine o_iload X95 hx hby D0_55 rfl ?_
      refine o_bipush X95 hx hby D0_57 (v := 8) rfl ?_
      refine o_iushr X95 hx hby D0_59 ?_
      refine o_i2b X95 hx hby D0_60 ?_
      refine o_istore X95 hx hby D0_61 (l' := #[.val (.int p0), .val (.int p1), .val (.int p2), .val (.int p3), .val (.int p4), .val (.int c0), .val (.int c1), .val (.int c2), .val (.int (2 : Int32)), .val (.int (3 : Int32)), .val (.ref st), .val (.ref r95), .val (.int f0), .val (.int ((((p4.toUInt32 >>> ((8 : Int32) &&& 31).toUInt32).toInt32)).toInt8.toInt32)), .unset, .unset, .unset]) rfl ?_
      generalize hf1 : ((((p4.toUInt32 >>> ((8 : Int32) &&& 31).toUInt32).toInt32)).toInt8.toInt32) = f1
      have nf1 : nar .byte f1 = f1 := by rw [← hf1]; exact own_i8 _
      refine o_iload X95 hx hby D0_63 rfl ?_
      refine o_bipush X95 hx hby D0_65 (v := 16) rfl ?_
      refine o_iushr X95 hx hby D0_67 ?_
      refine o_i2b X95 hx hby D0_68 ?_
      refine o_istore X95 hx hby D0_69 (l' := #[.val (.int p0), .val (.int p1), .val (.int p2), .val (.int p3), .val (.int p4), .val (.int c0), .val (.int c1), .val (.int c2), .val (.int (2 : Int32)), .val (.int (3 : Int32)), .val (.ref st), .val (.ref r95), .val (.int f0), .val (.int f1), .val (.int ((((p4.toUInt32 >>> ((16 : Int32) &&& 31).toUInt32).toInt32)).toInt8.toInt32)), .unset, .unset]) rfl ?_
      generalize hf2 : ((((p4.toUInt32 >>> ((16 : Int32) &&& 31).toUInt32).toInt32)).toInt8.toInt32) = f2
      have nf2 : nar .byte f2 = f2 := by rw [← hf2]; exact own_i8 _
      refine o_iload X95 hx hby D0_71 rfl ?_
      refine o_ifN X95 hx hby D0_73 ((if0 _ _).trans (tlt (by decide : (0 : Int32) < (3 : Int32))).2.2.2) ?_
      refine o_aload X95 hx hby D0_76 rfl rfl ?_
      refine o_iconst X95 hx hby D0_78 (v := 0) rfl ?_
      refine o_iload X95 hx hby D0_79 rfl ?_
      obtain ⟨cl_r95_96, Ar_r95_96, q_r95_96, S_r95_96, N_r95_96, H_r95_96, G_r95_96⟩ := id Vr95
      have hin_r95_96 : ¬ ((0 : Int32) < 0 ∨ cl_r95_96.slots.size ≤ ((0 : Int32)).toNatClampNeg) := inb_of S_r95_96 ⟨by decide, by decide⟩
      obtain ⟨T96, h96, X96, e96, W96, st96⟩ := stB X95 hx hZ rfl Ar_r95_96 (j := (0 : Int32)) hin_r95_96 (g := (mkF m 81 #[.val (.int p0), .val (.int p1), .val (.int p2), .val (.int p3), .val (.int p4), .val (.int c0), .val (.int c1), .val (.int c2), .val (.int (2 : Int32)), .val (.int (3 : Int32)), .val (.ref st), .val (.ref r95), .val (.int f0), .val (.int f1), .val (.int f2), .unset, .unset] [(.int f0), (.int (0 : Int32)), (.ref r95)])) rfl rfl (hb hby D0_81.1)
      have V_r95_96 : Arv Z h96 r95 kr95 .byte (3 : Int32) [(.int (nar .byte f0)), (.int (0 : Int32)), (.int (0 : Int32))] (.int (0 : Int32)) := Arv.set Ar_r95_96 q_r95_96 S_r95_96 N_r95_96 H_r95_96 G_r95_96 (fits_nar_byte _) W96 0 rfl (Nat.le_of_ble_eq_true rfl)
      have sz96 := own_leN (Keep.of_wr W96).1
      have N96 := Fr.snoc X96 N95 gn_r95
      refine own_pre (A' := T96.setTop (mkF m 82 #[.val (.int p0), .val (.int p1), .val (.int p2), .val (.int p3), .val (.int p4), .val (.int c0), .val (.int c1), .val (.int c2), .val (.int (2 : Int32)), .val (.int (3 : Int32)), .val (.ref st), .val (.ref r95), .val (.int f0), .val (.int f1), .val (.int f2), .unset, .unset] [])) st96 ?_
      refine o_iload X96 hx hby D0_82 rfl ?_
      refine o_iconst X96 hx hby D0_84 (v := 1) rfl ?_
      refine o_icmpN X96 hx hby D0_85 (tlt (by decide : (1 : Int32) < (3 : Int32))).2.2.2 ?_
      refine o_aload X96 hx hby D0_88 rfl rfl ?_
      refine o_iconst X96 hx hby D0_90 (v := 1) rfl ?_
      refine o_iload X96 hx hby D0_91 rfl ?_
      obtain ⟨cl_r95_97, Ar_r95_97, q_r95_97, S_r95_97, N_r95_97, H_r95_97, G_r95_97⟩ := id V_r95_96
      have hin_r95_97 : ¬ ((1 : Int32) < 0 ∨ cl_r95_97.slots.size ≤ ((1 : Int32)).toNatClampNeg) := inb_of S_r95_97 ⟨by decide, by decide⟩
      obtain ⟨T97, h97, X97, e97, W97, st97⟩ := stB X96 hx hZ e96 Ar_r95_97 (j := (1 : Int32)) hin_r95_97 (g := (mkF m 93 #[.val (.int p0), .val (.int p1), .val (.int p2), .val (.int p3), .val (.int p4), .val (.int c0), .val (.int c1), .val (.int c2), .val (.int (2 : Int32)), .val (.int (3 : Int32)), .val (.ref st), .val (.ref r95), .val (.int f0), .val (.int f1), .val (.int f2), .unset, .unset] [(.int f1), (.int (1 : Int32)), (.ref r95)])) rfl rfl (hb hby D0_93.1)
      have V_r95_97 : Arv Z h97 r95 kr95 .byte (3 : Int32) [(.int (nar .byte f0)), (.int (nar .byte f1)), (.int (0 : Int32))] (.int (0 : Int32)) := Arv.set Ar_r95_97 q_r95_97 S_r95_97 N_r95_97 H_r95_97 G_r95_97 (fits_nar_byte _) W97 1 rfl (Nat.le_of_ble_eq_true rfl)
      have sz97 := own_leN (Keep.of_wr W97).1
      have N97 := Fr.snoc X97 N96 gn_r95
      refine own_pre (A' := T97.setTop (mkF m 94 #[.val (.int p0), .val (.int p1), .val (.int p2), .val (.int p3), .val (.int p4), .val (.int c0), .val (.int c1), .val (.int c2), .val (.int (2 : Int32)), .val (.int (3 : Int32)), .val (.ref st), .val (.ref r95), .val (.int f0), .val (.int f1), .val (.int f2), .unset, .unset] [])) st97 ?_
      refine o_iload X97 hx hby D0_94 rfl ?_
      refine o_iconst X97 hx hby D0_96 (v := 2) rfl ?_
      refine o_icmpN X97 hx hby D0_97 (tlt (by decide : (2 : Int32) < (3 : Int32))).2.2.2 ?_
      refine o_aload X97 hx hby D0_100 rfl rfl ?_
      refine o_iconst X97 hx hby D0_102 (v := 2) rfl ?_
      refine o_iload X97 hx hby D0_103 rfl ?_
      obtain ⟨cl_r95_98, Ar_r95_98, q_r95_98, S_r95_98, N_r95_98, H_r95_98, G_r95_98⟩ := id V_r95_97
      have hin_r95_98 : ¬ ((2 : Int32) < 0 ∨ cl_r95_98.slots.size ≤ ((2 : Int32)).toNatClampNeg) := inb_of S_r95_98 ⟨by decide, by decide⟩
      obtain ⟨T98, h98, X98, e98, W98, st98⟩ := stB X97 hx hZ e97 Ar_r95_98 (j := (2 : Int32)) hin_r95_98 (g := (mkF m 105 #[.val (.int p0), .val (.int p1), .val (.int p2), .val (.int p3), .val (.int p4), .val (.int c0), .val (.int c1), .val (.int c2), .val (.int (2 : Int32)), .val (.int (3 : Int32)), .val (.ref st), .val (.ref r95), .val (.int f0), .val (.int f1), .val (.int f2), .unset, .unset] [(.int f2), (.int (2 : Int32)), (.ref r95)])) rfl rfl (hb hby D0_105.1)
      have V_r95_98 : Arv Z h98 r95 kr95 .byte (3 : Int32) [(.int (nar .byte f0)), (.int (nar .byte f1)), (.int (nar .byte f2))] (.int (0 : Int32)) := Arv.set Ar_r95_98 q_r95_98 S_r95_98 N_r95_98 H_r95_98 G_r95_98 (fits_nar_byte _) W98 2 rfl (Nat.le_of_ble_eq_true rfl)
      have sz98 := own_leN (Keep.of_wr W98).1
      have N98 := Fr.snoc X98 N97 gn_r95
      refine own_pre (A' := T98.setTop (mkF m 106 #[.val (.int p0), .val (.int p1), .val (.int p2), .val (.int p3), .val (.int p4), .val (.int c0), .val (.int c1), .val (.int c2), .val (.int (2 : Int32)), .val (.int (3 : Int32)), .val (.ref st), .val (.ref r95), .val (.int f0), .val (.int f1), .val (.int f2), .unset, .unset] [])) st98 ?_
      refine o_aload X98 hx hby D0_106 rfl rfl ?_
      refine o_aload X98 hx hby D0_108 rfl rfl ?_
      have cT100_st := (own_StrK2 (own_StrK2 (own_StrK2 (own_StrK2 Str74 K95 nin0 nin0) (Keep.of_wr W96) (ninS (by first | exact own_neN (by omega) | exact own_neN' (by omega) | assumption) nin0) (ninS (by first | exact own_neN (by omega) | exact own_neN' (by omega) | assumption) nin0)) (Keep.of_wr W97) (ninS (by first | exact own_neN (by omega) | exact own_neN' (by omega) | assumption) nin0) (ninS (by first | exact own_neN (by omega) | exact own_neN' (by omega) | assumption) nin0)) (Keep.of_wr W98) (ninS (by first | exact own_neN (by omega) | exact own_neN' (by omega) | assumption) nin0) (ninS (by first | exact own_neN (by omega) | exact own_neN' (by omega) | assumption) nin0))
      have c101_O := (((((O0.keep K74 all0).keep K95 all0).wr W96 gn_r95).wr W97 gn_r95).wr W98 gn_r95)
      refine kS X98 hx hZ hown hby (wd hw 40 rfl) (wd hw 41 rfl) (wd hw 42 rfl) (wd hw 43 rfl) (rm_ab23 l Z a0 hw [] st r95 vb kb kr95 c0 c1 (.int (nar .byte f0)) (.int (nar .byte f1)) (.int (nar .byte f2)) cs vf h98 n0 (own_leN (by omega)) hST0 c101_O cT100_st hc0 hc1 gn_r95 V_r95_98 (own_ltN (by omega)) (own_ltN (by omega))) (by decide) (by decide) (by decide) (by decide) (by decide) (by rw [hml]; rfl) [(.ref st), (.ref r95)] [] (lenOf pd__40Ljava_47lang_47String_59_91B_41I rfl) (W := 0) rfl rfl D0_110 rfl e98 ?_
      intro v99 T99 L99 X99 hQ99
      obtain ⟨rfl, N99q, K99, Vb99⟩ := hQ99
      have sz99 := own_leN K99.1
      have N99 := Fr.app N98 N99q
      refine own_sh (A' := T99.setTop (mkF m 113 _ [(.int (own_ab2 c0 c1))])) ?_
      refine o_istore X99 hx hby D0_113 (l' := #[.val (.int p0), .val (.int p1), .val (.int p2), .val (.int p3), .val (.int p4), .val (.int c0), .val (.int c1), .val (.int c2), .val (.int (2 : Int32)), .val (.int (3 : Int32)), .val (.ref st), .val (.ref r95), .val (.int f0), .val (.int f1), .val (.int f2), .val (.int (own_ab2 c0 c1)), .unset]) rfl ?_
      refine o_iload X99 hx hby D0_115 rfl ?_
      refine o_iload X99 hx hby D0_117 rfl ?_
      refine o_icmpY X99 hx hby D0_119 (flt (by decide : ¬ ((3 : Int32) < (2 : Int32)))).2.2.2 (q := 134) (by decide) (by decide) ?_
      refine o_iload X99 hx hby D0_134 rfl ?_
      refine o_iconst X99 hx hby D0_136 (v := 1) rfl ?_
      refine o_icmpN X99 hx hby D0_137 (flt (by decide : ¬ ((2 : Int32) < (1 : Int32)))).1 ?_
      refine o_iload X99 hx hby D0_140 rfl ?_
      refine o_sipush X99 hx hby D0_142 (v := 128) rfl ?_
      by_cases hc145_102 : c0 < (128 : Int32)
      · skip
        refine o_icmpN X99 hx hby D0_145 (tlt hc145_102).2.1 ?_
        refine o_iload X99 hx hby D0_148 rfl ?_
        refine o_iconst X99 hx hby D0_150 (v := 2) rfl ?_
        refine o_icmpN X99 hx hby D0_151 (flt (by decide : ¬ ((2 : Int32) < (2 : Int32)))).1 ?_
        refine o_iload X99 hx hby D0_154 rfl ?_
        refine o_sipush X99 hx hby D0_156 (v := 128) rfl ?_
        by_cases hc159_103 : c1 < (128 : Int32)
        · skip
          refine o_icmpN X99 hx hby D0_159 (tlt hc159_103).2.1 ?_
          refine o_iload X99 hx hby D0_162 rfl ?_
          refine o_iconst X99 hx hby D0_164 (v := 3) rfl ?_
          refine o_icmpY X99 hx hby D0_165 (tlt (by decide : (2 : Int32) < (3 : Int32))).1 (q := 176) (by decide) (by decide) ?_
          refine o_iconst X99 hx hby D0_176 (v := 1) rfl ?_
          refine o_goto X99 hx hby D0_177 (q := 181) (by decide) (by decide) ?_
          refine o_istore X99 hx hby D0_181 (l' := #[.val (.int p0), .val (.int p1), .val (.int p2), .val (.int p3), .val (.int p4), .val (.int c0), .val (.int c1), .val (.int c2), .val (.int (2 : Int32)), .val (.int (3 : Int32)), .val (.ref st), .val (.ref r95), .val (.int f0), .val (.int f1), .val (.int f2), .val (.int (own_ab2 c0 c1)), .val (.int (1 : Int32))]) rfl ?_
          refine o_iload X99 hx hby D0_183 rfl ?_
          refine o_ifY X99 hx hby D0_185 ((if0 _ _).trans (feq (by decide : ¬ ((1 : Int32) = (0 : Int32)))).2) (q := 200) (by decide) (by decide) ?_
          refine o_iload X99 hx hby D0_200 rfl ?_
          refine o_iload X99 hx hby D0_202 rfl ?_
          refine o_icmpY X99 hx hby D0_204 (teq (own_abY2 hc0 hc1 ⟨hc145_102, hc159_103⟩ : (own_ab2 c0 c1) = (2 : Int32))).1 (q := 209) (by decide) (by decide) ?_
          refine o_aload X99 hx hby D0_209 rfl rfl ?_
          refine o_iconst X99 hx hby D0_211 (v := 0) rfl ?_
          refine o_iload X99 hx hby D0_212 rfl ?_
          refine o_iload X99 hx hby D0_214 rfl ?_
          refine o_iload X99 hx hby D0_216 rfl ?_
          refine kS X99 hx hZ hown hby (wd hw 76 rfl) (wd hw 77 rfl) (wd hw 2 rfl) (wd hw 78 rfl) (rm_at0A l Z a0 hw [] r95 (2 : Int32) c0 f0 kr95 (3 : Int32) [(.int (own_l8 c0)), (.int (own_l8 c1)), (.int (nar .byte f2))] (own_l8 c0) T99.heap n0 (own_leN (by omega)) Vb99 (by decide) rfl (by decide) (own_i8 _)) (by decide) (by decide) (by decide) (by decide) (by decide) (by rw [hml]; rfl) [(.ref r95), (.int (0 : Int32)), (.int (2 : Int32)), (.int c0), (.int f0)] [] (lenOf pd__40_91BIICB_41Z rfl) (W := 0) rfl rfl D0_218 rfl rfl ?_
          intro v104 T104 L104 X104 hQ104
          obtain ⟨rfl, N104q, e104⟩ := hQ104
          have N104 := Fr.app N99 N104q
          refine own_sh (A' := T104.setTop (mkF m 221 _ [(.int (1 : Int32))])) ?_
          refine o_ifN X104 hx hby D0_221 ((if0 _ _).trans (feq (by decide : ¬ ((1 : Int32) = (0 : Int32)))).1) ?_
          refine o_aload X104 hx hby D0_224 rfl rfl ?_
          refine o_iconst X104 hx hby D0_226 (v := 1) rfl ?_
          refine o_iload X104 hx hby D0_227 rfl ?_
          refine o_iload X104 hx hby D0_229 rfl ?_
          refine o_iload X104 hx hby D0_231 rfl ?_
          refine kS X104 hx hZ hown hby (wd hw 76 rfl) (wd hw 77 rfl) (wd hw 2 rfl) (wd hw 78 rfl) (rm_at1A l Z a0 hw [] r95 (2 : Int32) c1 f1 kr95 (3 : Int32) [(.int (own_l8 c0)), (.int (own_l8 c1)), (.int (nar .byte f2))] (own_l8 c1) T99.heap n0 (own_leN (by omega)) Vb99 (by decide) rfl (by decide) (own_i8 _)) (by decide) (by decide) (by decide) (by decide) (by decide) (by rw [hml]; rfl) [(.ref r95), (.int (1 : Int32)), (.int (2 : Int32)), (.int c1), (.int f1)] [] (lenOf pd__40_91BIICB_41Z rfl) (W := 0) rfl rfl D0_233 rfl e104 ?_
          intro v105 T105 L105 X105 hQ105
          obtain ⟨rfl, N105q, e105⟩ := hQ105
          have N105 := Fr.app N104 N105q
          refine own_sh (A' := T105.setTop (mkF m 236 _ [(.int (1 : Int32))])) ?_
          refine o_ifN X105 hx hby D0_236 ((if0 _ _).trans (feq (by decide : ¬ ((1 : Int32) = (0 : Int32)))).1) ?_
          refine o_aload X105 hx hby D0_239 rfl rfl ?_
          refine o_iconst X105 hx hby D0_241 (v := 2) rfl ?_
          refine o_iload X105 hx hby D0_242 rfl ?_
          refine o_iload X105 hx hby D0_244 rfl ?_
          refine o_iload X105 hx hby D0_246 rfl ?_
          refine kS X105 hx hZ hown hby (wd hw 76 rfl) (wd hw 77 rfl) (wd hw 2 rfl) (wd hw 78 rfl) (rm_at2B l Z a0 hw [] r95 (2 : Int32) c2 f2 kr95 (3 : Int32) [(.int (own_l8 c0)), (.int (own_l8 c1)), (.int (nar .byte f2))] (nar .byte f2) T99.heap n0 (own_leN (by omega)) Vb99 (by decide) rfl (by decide) nf2) (by decide) (by decide) (by decide) (by decide) (by decide) (by rw [hml]; rfl) [(.ref r95), (.int (2 : Int32)), (.int (2 : Int32)), (.int c2), (.int f2)] [] (lenOf pd__40_91BIICB_41Z rfl) (W := 0) rfl rfl D0_248 rfl e105 ?_
          intro v106 T106 L106 X106 hQ106
          obtain ⟨rfl, N106q, e106⟩ := hQ106
          have N106 := Fr.app N105 N106q
          refine own_sh (A' := T106.setTop (mkF m 251 _ [(.int (1 : Int32))])) ?_
          refine o_ifN X106 hx hby D0_251 ((if0 _ _).trans (feq (by decide : ¬ ((1 : Int32) = (0 : Int32)))).1) ?_
          refine o_iconst X106 hx hby D0_254 (v := 1) rfl ?_
          refine o_goto X106 hx hby D0_255 (q := 259) (by decide) (by decide) ?_
          exact own_retW (v := some (.int (1 : Int32))) X106 (fun h => by first | rfl | (rw [Bd.returns] at h; cases h)) (BodyLoose.notSynchronized Bd) (by decide) (by decide) (⟨rfl, N106⟩) (fun fs hr => retN X106 hx (t := .boolean) Bd.returns (by simp) (hb hby D0_259.1) hr)
        · skip
          refine o_icmpY X99 hx hby D0_159 (flt hc159_103).2.1 (q := 180) (by decide) (by decide) ?_
          refine o_iconst X99 hx hby D0_180 (v := 0) rfl ?_
          refine o_istore X99 hx hby D0_181 (l' := #[.val (.int p0), .val (.int p1), .val (.int p2), .val (.int p3), .val (.int p4), .val (.int c0), .val (.int c1), .val (.int c2), .val (.int (2 : Int32)), .val (.int (3 : Int32)), .val (.ref st), .val (.ref r95), .val (.int f0), .val (.int f1), .val (.int f2), .val (.int (own_ab2 c0 c1)), .val (.int (0 : Int32))]) rfl ?_
          refine o_iload X99 hx hby D0_183 rfl ?_
          refine o_ifN X99 hx hby D0_185 ((if0 _ _).trans (teq (by decide : (0 : Int32) = (0 : Int32))).2) ?_
          refine o_iload X99 hx hby D0_188 rfl ?_
          refine o_iconst X99 hx hby D0_190 (v := -1) rfl ?_
          refine o_icmpN X99 hx hby D0_191 (teq (own_abN2 hc0 hc1 (fun q => hc159_103 q.2) : (own_ab2 c0 c1) = (-1 : Int32))).2 ?_
          refine o_iconst X99 hx hby D0_194 (v := 1) rfl ?_
          refine o_goto X99 hx hby D0_195 (q := 199) (by decide) (by decide) ?_
          exact own_retW (v := some (.int (1 : Int32))) X99 (fun h => by first | rfl | (rw [Bd.returns] at h; cases h)) (BodyLoose.notSynchronized Bd) (by decide) (by decide) (⟨rfl, N99⟩) (fun fs hr => retN X99 hx (t := .boolean) Bd.returns (by simp) (hb hby D0_199.1) hr)
      · skip
        refine o_icmpY X99 hx hby D0_145 (flt hc145_102).2.1 (q := 180) (by decide) (by decide) ?_
        refine o_iconst X99 hx hby D0_180 (v := 0) rfl ?_
        refine o_istore X99 hx hby D0_181 (l' := #[.val (.int p0), .val (.int p1), .val (.int p2), .val (.int p3), .val (.int p4), .val (.int c0), .val (.int c1), .val (.int c2), .val (.int (2 : Int32)), .val (.int (3 : Int32)), .val (.ref st), .val (.ref r95), .val (.int f0), .val (.int f1), .val (.int f2), .val (.int (own_ab2 c0 c1)), .val (.int (0 : Int32))]) rfl ?_
        refine o_iload X99 hx hby D0_183 rfl ?_
        refine o_ifN X99 hx hby D0_185 ((if0 _ _).trans (teq (by decide : (0 : Int32) = (0 : Int32))).2) ?_
        refine o_iload X99 hx hby D0_188 rfl ?_
        refine o_iconst X99 hx hby D0_190 (v := -1) rfl ?_
        refine o_icmpN X99 hx hby D0_191 (teq (own_abN2 hc0 hc1 (fun q => hc145_102 q.1) : (own_ab2 c0 c1) = (-1 : Int32))).2 ?_
        refine o_iconst X99 hx hby D0_194 (v := 1) rfl ?_
        refine o_goto X99 hx hby D0_195 (q := 199) (by decide) (by decide) ?_
        exact own_retW (v := some (.int (1 : Int32))) X99 (fun h => by first | rfl | (rw [Bd.returns] at h; cases h)) (BodyLoose.notSynchronized Bd) (by decide) (by decide) (⟨rfl, N99⟩) (fun fs hr => retN X99 hx (t := .boolean) Bd.returns (by simp) (hb hby D0_199.1) hr)
  · skip
    refine o_iload X3 hx hby D0_30 rfl ?_
    refine o_iload X3 hx hby D0_32 rfl ?_
    refine o_iload X3 hx hby D0_34 rfl ?_
    refine o_iload X3 hx hby D0_36 rfl ?_
    refine kS X3 hx hZ hown hby (wd hw 4 rfl) (wd hw 5 rfl) (wd hw 2 rfl) (wd hw 6 rfl) (rm_key3 l Z a0 hw [] c0 c1 c2 cs vf h0 n0 Z0 hST0 O0 hc0 hc1 hc2) (by decide) (by decide) (by decide) (by decide) (by decide) (by rw [hml]; rfl) [(.int (3 : Int32)), (.int c0), (.int c1), (.int c2)] [] (lenOf pd__40ICCC_41Ljava_47lang_47String_59 rfl) (W := 0) rfl rfl D0_38 rfl e3 ?_
    intro v107 T107 L107 X107 hQ107
    obtain ⟨st, vb, kb, rfl, N107q, K107, ge107, lt_st, lt_vb, Str107⟩ := hQ107
    have sz107 := own_leN K107.1
    have lt_st := own_ltN lt_st
    have lt_vb := own_ltN lt_vb
    have N107 := Fr.app N3 N107q
    refine own_sh (A' := T107.setTop (mkF m 41 _ [(.ref st)])) ?_
    refine o_astore X107 hx hby D0_41 rfl (l' := #[.val (.int p0), .val (.int p1), .val (.int p2), .val (.int p3), .val (.int p4), .val (.int c0), .val (.int c1), .val (.int c2), .val (.int (3 : Int32)), .val (.int mm), .val (.ref st), .unset, .unset, .unset, .unset, .unset, .unset]) rfl ?_
    rcases hq2 with rfl | rfl | rfl | rfl
    · skip
      refine o_iload X107 hx hby D0_43 rfl ?_
      refine kS X107 hx hZ hown hby (wd hw 37 rfl) (wd hw 38 rfl) (wd hw 2 rfl) (wd hw 39 rfl) (rm_arr0 l Z a0 hw []  T107.heap n0 (own_leN (by omega)) ) (by decide) (by decide) (by decide) (by decide) (by decide) (by rw [hml]; rfl) [(.int (0 : Int32))] [] (lenOf pd__40I_41_91B rfl) (W := 0) rfl rfl D0_45 rfl rfl ?_
      intro v108 T108 L108 X108 hQ108
      obtain ⟨r108, kr108, rfl, N108q, K108, ge108, Vr108⟩ := hQ108
      have sz108 := own_leN K108.1
      have ge108' := own_leN ge108
      have lt_r108 := own_ltN Vr108.lt
      have gn_r108 : n0 ≤ r108 := own_leN (by omega)
      have N108 := Fr.app N107 N108q
      refine own_sh (A' := T108.setTop (mkF m 48 _ [(.ref r108)])) ?_
      refine o_astore X108 hx hby D0_48 rfl (l' := #[.val (.int p0), .val (.int p1), .val (.int p2), .val (.int p3), .val (.int p4), .val (.int c0), .val (.int c1), .val (.int c2), .val (.int (3 : Int32)), .val (.int (0 : Int32)), .val (.ref st), .val (.ref r108), .unset, .unset, .unset, .unset, .unset]) rfl ?_
      refine o_iload X108 hx hby D0_50 rfl ?_
      refine o_i2b X108 hx hby D0_52 ?_
      refine o_istore X108 hx hby D0_53 (l' := #[.val (.int p0), .val (.int p1), .val (.int p2), .val (.int p3), .val (.int p4), .val (.int c0), .val (.int c1), .val (.int c2), .val (.int (3 : Int32)), .val (.int (0 : Int32)), .val (.ref st), .val (.ref r108), .val (.int ((p4).toInt8.toInt32)), .unset, .unset, .unset, .unset]) rfl ?_
      generalize hf0 : ((p4).toInt8.toInt32) = f0
      have nf0 : nar .byte f0 = f0 := by rw [← hf0]; exact own_i8 _
      refine o_iload X108 hx hby D0_55 rfl ?_
      refine o_bipush X108 hx hby D0_57 (v := 8) rfl ?_
      refine o_iushr X108 hx hby D0_59 ?_
      refine o_i2b X108 hx hby D0_60 ?_
      refine o_istore X108 hx hby D0_61 (l' := #[.val (.int p0), .val (.int p1), .val (.int p2), .val (.int p3), .val (.int p4), .val (.int c0), .val (.int c1), .val (.int c2), .val (.int (3 : Int32)), .val (.int (0 : Int32)), .val (.ref st), .val (.ref r108), .val (.int f0), .val (.int ((((p4.toUInt32 >>> ((8 : Int32) &&& 31).toUInt32).toInt32)).toInt8.toInt32)), .unset, .unset, .unset]) rfl ?_
      generalize hf1 : ((((p4.toUInt32 >>> ((8 : Int32) &&& 31).toUInt32).toInt32)).toInt8.toInt32) = f1
      have nf1 : nar .byte f1 = f1 := by rw [← hf1]; exact own_i8 _
      refine o_iload X108 hx hby D0_63 rfl ?_
      refine o_bipush X108 hx hby D0_65 (v := 16) rfl ?_
      refine o_iushr X108 hx hby D0_67 ?_
      refine o_i2b X108 hx hby D0_68 ?_
      refine o_istore X108 hx hby D0_69 (l' := #[.val (.int p0), .val (.int p1), .val (.int p2), .val (.int p3), .val (.int p4), .val (.int c0), .val (.int c1), .val (.int c2), .val (.int (3 : Int32)), .val (.int (0 : Int32)), .val (.ref st), .val (.ref r108), .val (.int f0), .val (.int f1), .val (.int ((((p4.toUInt32 >>> ((16 : Int32) &&& 31).toUInt32).toInt32)).toInt8.toInt32)), .unset, .unset]) rfl ?_
      generalize hf2 : ((((p4.toUInt32 >>> ((16 : Int32) &&& 31).toUInt32).toInt32)).toInt8.toInt32) = f2
      have nf2 : nar .byte f2 = f2 := by rw [← hf2]; exact own_i8 _
      refine o_iload X108 hx hby D0_71 rfl ?_
      refine o_ifY X108 hx hby D0_73 ((if0 _ _).trans (flt (by decide : ¬ ((0 : Int32) < (0 : Int32)))).2.2.2) (q := 82) (by decide) (by decide) ?_
      refine o_iload X108 hx hby D0_82 rfl ?_
      refine o_iconst X108 hx hby D0_84 (v := 1) rfl ?_
      refine o_icmpY X108 hx hby D0_85 (flt (by decide : ¬ ((1 : Int32) < (0 : Int32)))).2.2.2 (q := 94) (by decide) (by decide) ?_
      refine o_iload X108 hx hby D0_94 rfl ?_
      refine o_iconst X108 hx hby D0_96 (v := 2) rfl ?_
      refine o_icmpY X108 hx hby D0_97 (flt (by decide : ¬ ((2 : Int32) < (0 : Int32)))).2.2.2 (q := 106) (by decide) (by decide) ?_
      refine o_aload X108 hx hby D0_106 rfl rfl ?_
      refine o_aload X108 hx hby D0_108 rfl rfl ?_
      have cT110_st := (own_StrK3 Str107 K108 nin0 nin0)
      have c111_O := ((O0.keep K107 all0).keep K108 all0)
      refine kS X108 hx hZ hown hby (wd hw 40 rfl) (wd hw 41 rfl) (wd hw 42 rfl) (wd hw 43 rfl) (rm_abX3 l Z a0 hw [] st r108 vb kb kr108 c0 c1 c2 (0 : Int32) [] cs vf T108.heap n0 (own_leN (by omega)) hST0 c111_O cT110_st Vr108 (by decide)) (by decide) (by decide) (by decide) (by decide) (by decide) (by rw [hml]; rfl) [(.ref st), (.ref r108)] [] (lenOf pd__40Ljava_47lang_47String_59_91B_41I rfl) (W := 0) rfl rfl D0_110 rfl rfl ?_
      intro v109 T109 L109 X109 hQ109
      obtain ⟨rfl, N109q, e109⟩ := hQ109
      have N109 := Fr.app N108 N109q
      refine own_sh (A' := T109.setTop (mkF m 113 _ [(.int (-1 : Int32))])) ?_
      refine o_istore X109 hx hby D0_113 (l' := #[.val (.int p0), .val (.int p1), .val (.int p2), .val (.int p3), .val (.int p4), .val (.int c0), .val (.int c1), .val (.int c2), .val (.int (3 : Int32)), .val (.int (0 : Int32)), .val (.ref st), .val (.ref r108), .val (.int f0), .val (.int f1), .val (.int f2), .val (.int (-1 : Int32)), .unset]) rfl ?_
      refine o_iload X109 hx hby D0_115 rfl ?_
      refine o_iload X109 hx hby D0_117 rfl ?_
      refine o_icmpN X109 hx hby D0_119 (tlt (by decide : (0 : Int32) < (3 : Int32))).2.2.2 ?_
      refine o_iload X109 hx hby D0_122 rfl ?_
      refine o_iconst X109 hx hby D0_124 (v := -1) rfl ?_
      refine o_icmpN X109 hx hby D0_125 (teq (by decide : (-1 : Int32) = (-1 : Int32))).2 ?_
      refine o_iconst X109 hx hby D0_128 (v := 1) rfl ?_
      refine o_goto X109 hx hby D0_129 (q := 133) (by decide) (by decide) ?_
      exact own_retW (v := some (.int (1 : Int32))) X109 (fun h => by first | rfl | (rw [Bd.returns] at h; cases h)) (BodyLoose.notSynchronized Bd) (by decide) (by decide) (⟨rfl, N109⟩) (fun fs hr => retN X109 hx (t := .boolean) Bd.returns (by simp) (hb hby D0_133.1) hr)
    · skip
      refine o_iload X107 hx hby D0_43 rfl ?_
      refine kS X107 hx hZ hown hby (wd hw 37 rfl) (wd hw 38 rfl) (wd hw 2 rfl) (wd hw 39 rfl) (rm_arr1 l Z a0 hw []  T107.heap n0 (own_leN (by omega)) ) (by decide) (by decide) (by decide) (by decide) (by decide) (by rw [hml]; rfl) [(.int (1 : Int32))] [] (lenOf pd__40I_41_91B rfl) (W := 0) rfl rfl D0_45 rfl rfl ?_
      intro v112 T112 L112 X112 hQ112
      obtain ⟨r112, kr112, rfl, N112q, K112, ge112, Vr112⟩ := hQ112
      have sz112 := own_leN K112.1
      have ge112' := own_leN ge112
      have lt_r112 := own_ltN Vr112.lt
      have gn_r112 : n0 ≤ r112 := own_leN (by omega)
      have N112 := Fr.app N107 N112q
      refine own_sh (A' := T112.setTop (mkF m 48 _ [(.ref r112)])) ?_
      refine o_astore X112 hx hby D0_48 rfl (l' := #[.val (.int p0), .val (.int p1), .val (.int p2), .val (.int p3), .val (.int p4), .val (.int c0), .val (.int c1), .val (.int c2), .val (.int (3 : Int32)), .val (.int (1 : Int32)), .val (.ref st), .val (.ref r112), .unset, .unset, .unset, .unset, .unset]) rfl ?_
      refine o_iload X112 hx hby D0_50 rfl ?_
      refine o_i2b X112 hx hby D0_52 ?_
      refine o_istore X112 hx hby D0_53 (l' := #[.val (.int p0), .val (.int p1), .val (.int p2), .val (.int p3), .val (.int p4), .val (.int c0), .val (.int c1), .val (.int c2), .val (.int (3 : Int32)), .val (.int (1 : Int32)), .val (.ref st), .val (.ref r112), .val (.int ((p4).toInt8.toInt32)), .unset, .unset, .unset, .unset]) rfl ?_
      generalize hf0 : ((p4).toInt8.toInt32) = f0
      have nf0 : nar .byte f0 = f0 := by rw [← hf0]; exact own_i8 _
      refine o_iload X112 hx hby D0_55 rfl ?_
      refine o_bipush X112 hx hby D0_57 (v := 8) rfl ?_
      refine o_iushr X112 hx hby D0_59 ?_
      refine o_i2b X112 hx hby D0_60 ?_
      refine o_istore X112 hx hby D0_61 (l' := #[.val (.int p0), .val (.int p1), .val (.int p2), .val (.int p3), .val (.int p4), .val (.int c0), .val (.int c1), .val (.int c2), .val (.int (3 : Int32)), .val (.int (1 : Int32)), .val (.ref st), .val (.ref r112), .val (.int f0), .val (.int ((((p4.toUInt32 >>> ((8 : Int32) &&& 31).toUInt32).toInt32)).toInt8.toInt32)), .unset, .unset, .unset]) rfl ?_
      generalize hf1 : ((((p4.toUInt32 >>> ((8 : Int32) &&& 31).toUInt32).toInt32)).toInt8.toInt32) = f1
      have nf1 : nar .byte f1 = f1 := by rw [← hf1]; exact own_i8 _
      refine o_iload X112 hx hby D0_63 rfl ?_
      refine o_bipush X112 hx hby D0_65 (v := 16) rfl ?_
      refine o_iushr X112 hx hby D0_67 ?_
      refine o_i2b X112 hx hby D0_68 ?_
      refine o_istore X112 hx hby D0_69 (l' := #[.val (.int p0), .val (.int p1), .val (.int p2), .val (.int p3), .val (.int p4), .val (.int c0), .val (.int c1), .val (.int c2), .val (.int (3 : Int32)), .val (.int (1 : Int32)), .val (.ref st), .val (.ref r112), .val (.int f0), .val (.int f1), .val (.int ((((p4.toUInt32 >>> ((16 : Int32) &&& 31).toUInt32).toInt32)).toInt8.toInt32)), .unset, .unset]) rfl ?_
      generalize hf2 : ((((p4.toUInt32 >>> ((16 : Int32) &&& 31).toUInt32).toInt32)).toInt8.toInt32) = f2
      have nf2 : nar .byte f2 = f2 := by rw [← hf2]; exact own_i8 _
      refine o_iload X112 hx hby D0_71 rfl ?_
      refine o_ifN X112 hx hby D0_73 ((if0 _ _).trans (tlt (by decide : (0 : Int32) < (1 : Int32))).2.2.2) ?_
      refine o_aload X112 hx hby D0_76 rfl rfl ?_
      refine o_iconst X112 hx hby D0_78 (v := 0) rfl ?_
      refine o_iload X112 hx hby D0_79 rfl ?_
      obtain ⟨cl_r112_113, Ar_r112_113, q_r112_113, S_r112_113, N_r112_113, H_r112_113, G_r112_113⟩ := id Vr112
      have hin_r112_113 : ¬ ((0 : Int32) < 0 ∨ cl_r112_113.slots.size ≤ ((0 : Int32)).toNatClampNeg) := inb_of S_r112_113 ⟨by decide, by decide⟩
      obtain ⟨T113, h113, X113, e113, W113, st113⟩ := stB X112 hx hZ rfl Ar_r112_113 (j := (0 : Int32)) hin_r112_113 (g := (mkF m 81 #[.val (.int p0), .val (.int p1), .val (.int p2), .val (.int p3), .val (.int p4), .val (.int c0), .val (.int c1), .val (.int c2), .val (.int (3 : Int32)), .val (.int (1 : Int32)), .val (.ref st), .val (.ref r112), .val (.int f0), .val (.int f1), .val (.int f2), .unset, .unset] [(.int f0), (.int (0 : Int32)), (.ref r112)])) rfl rfl (hb hby D0_81.1)
      have V_r112_113 : Arv Z h113 r112 kr112 .byte (1 : Int32) [(.int (nar .byte f0))] (.int (0 : Int32)) := Arv.set Ar_r112_113 q_r112_113 S_r112_113 N_r112_113 H_r112_113 G_r112_113 (fits_nar_byte _) W113 0 rfl (Nat.le_of_ble_eq_true rfl)
      have sz113 := own_leN (Keep.of_wr W113).1
      have N113 := Fr.snoc X113 N112 gn_r112
      refine own_pre (A' := T113.setTop (mkF m 82 #[.val (.int p0), .val (.int p1), .val (.int p2), .val (.int p3), .val (.int p4), .val (.int c0), .val (.int c1), .val (.int c2), .val (.int (3 : Int32)), .val (.int (1 : Int32)), .val (.ref st), .val (.ref r112), .val (.int f0), .val (.int f1), .val (.int f2), .unset, .unset] [])) st113 ?_
      refine o_iload X113 hx hby D0_82 rfl ?_
      refine o_iconst X113 hx hby D0_84 (v := 1) rfl ?_
      refine o_icmpY X113 hx hby D0_85 (flt (by decide : ¬ ((1 : Int32) < (1 : Int32)))).2.2.2 (q := 94) (by decide) (by decide) ?_
      refine o_iload X113 hx hby D0_94 rfl ?_
      refine o_iconst X113 hx hby D0_96 (v := 2) rfl ?_
      refine o_icmpY X113 hx hby D0_97 (flt (by decide : ¬ ((2 : Int32) < (1 : Int32)))).2.2.2 (q := 106) (by decide) (by decide) ?_
      refine o_aload X113 hx hby D0_106 rfl rfl ?_
      refine o_aload X113 hx hby D0_108 rfl rfl ?_
      have cT115_st := (own_StrK3 (own_StrK3 Str107 K112 nin0 nin0) (Keep.of_wr W113) (ninS (by first | exact own_neN (by omega) | exact own_neN' (by omega) | assumption) nin0) (ninS (by first | exact own_neN (by omega) | exact own_neN' (by omega) | assumption) nin0))
      have c116_O := (((O0.keep K107 all0).keep K112 all0).wr W113 gn_r112)
      refine kS X113 hx hZ hown hby (wd hw 40 rfl) (wd hw 41 rfl) (wd hw 42 rfl) (wd hw 43 rfl) (rm_abX3 l Z a0 hw [] st r112 vb kb kr112 c0 c1 c2 (1 : Int32) [(.int (nar .byte f0))] cs vf h113 n0 (own_leN (by omega)) hST0 c116_O cT115_st V_r112_113 (by decide)) (by decide) (by decide) (by decide) (by decide) (by decide) (by rw [hml]; rfl) [(.ref st), (.ref r112)] [] (lenOf pd__40Ljava_47lang_47String_59_91B_41I rfl) (W := 0) rfl rfl D0_110 rfl e113 ?_
      intro v114 T114 L114 X114 hQ114
      obtain ⟨rfl, N114q, e114⟩ := hQ114
      have N114 := Fr.app N113 N114q
      refine own_sh (A' := T114.setTop (mkF m 113 _ [(.int (-1 : Int32))])) ?_
      refine o_istore X114 hx hby D0_113 (l' := #[.val (.int p0), .val (.int p1), .val (.int p2), .val (.int p3), .val (.int p4), .val (.int c0), .val (.int c1), .val (.int c2), .val (.int (3 : Int32)), .val (.int (1 : Int32)), .val (.ref st), .val (.ref r112), .val (.int f0), .val (.int f1), .val (.int f2), .val (.int (-1 : Int32)), .unset]) rfl ?_
      refine o_iload X114 hx hby D0_115 rfl ?_
      refine o_iload X114 hx hby D0_117 rfl ?_
      refine o_icmpN X114 hx hby D0_119 (tlt (by decide : (1 : Int32) < (3 : Int32))).2.2.2 ?_
      refine o_iload X114 hx hby D0_122 rfl ?_
      refine o_iconst X114 hx hby D0_124 (v := -1) rfl ?_
      refine o_icmpN X114 hx hby D0_125 (teq (by decide : (-1 : Int32) = (-1 : Int32))).2 ?_
      refine o_iconst X114 hx hby D0_128 (v := 1) rfl ?_
      refine o_goto X114 hx hby D0_129 (q := 133) (by decide) (by decide) ?_
      exact own_retW (v := some (.int (1 : Int32))) X114 (fun h => by first | rfl | (rw [Bd.returns] at h; cases h)) (BodyLoose.notSynchronized Bd) (by decide) (by decide) (⟨rfl, N114⟩) (fun fs hr => retN X114 hx (t := .boolean) Bd.returns (by simp) (hb hby D0_133.1) hr)
    · skip
      refine o_iload X107 hx hby D0_43 rfl ?_
      refine kS X107 hx hZ hown hby (wd hw 37 rfl) (wd hw 38 rfl) (wd hw 2 rfl) (wd hw 39 rfl) (rm_arr2 l Z a0 hw []  T107.heap n0 (own_leN (by omega)) ) (by decide) (by decide) (by decide) (by decide) (by decide) (by rw [hml]; rfl) [(.int (2 : Int32))] [] (lenOf pd__40I_41_91B rfl) (W := 0) rfl rfl D0_45 rfl rfl ?_
      intro v117 T117 L117 X117 hQ117
      obtain ⟨r117, kr117, rfl, N117q, K117, ge117, Vr117⟩ := hQ117
      have sz117 := own_leN K117.1
      have ge117' := own_leN ge117
      have lt_r117 := own_ltN Vr117.lt
      have gn_r117 : n0 ≤ r117 := own_leN (by omega)
      have N117 := Fr.app N107 N117q
      refine own_sh (A' := T117.setTop (mkF m 48 _ [(.ref r117)])) ?_
      refine o_astore X117 hx hby D0_48 rfl (l' := #[.val (.int p0), .val (.int p1), .val (.int p2), .val (.int p3), .val (.int p4), .val (.int c0), .val (.int c1), .val (.int c2), .val (.int (3 : Int32)), .val (.int (2 : Int32)), .val (.ref st), .val (.ref r117), .unset, .unset, .unset, .unset, .unset]) rfl ?_
      refine o_iload X117 hx hby D0_50 rfl ?_
      refine o_i2b X117 hx hby D0_52 ?_
      refine o_istore X117 hx hby D0_53 (l' := #[.val (.int p0), .val (.int p1), .val (.int p2), .val (.int p3), .val (.int p4), .val (.int c0), .val (.int c1), .val (.int c2), .val (.int (3 : Int32)), .val (.int (2 : Int32)), .val (.ref st), .val (.ref r117), .val (.int ((p4).toInt8.toInt32)), .unset, .unset, .unset, .unset]) rfl ?_
      generalize hf0 : ((p4).toInt8.toInt32) = f0
      have nf0 : nar .byte f0 = f0 := by rw [← hf0]; exact own_i8 _
      refine o_iload X117 hx hby D0_55 rfl ?_
      refine o_bipush X117 hx hby D0_57 (v := 8) rfl ?_
      refine o_iushr X117 hx hby D0_59 ?_
      refine o_i2b X117 hx hby D0_60 ?_
      refine o_istore X117 hx hby D0_61 (l' := #[.val (.int p0), .val (.int p1), .val (.int p2), .val (.int p3), .val (.int p4), .val (.int c0), .val (.int c1), .val (.int c2), .val (.int (3 : Int32)), .val (.int (2 : Int32)), .val (.ref st), .val (.ref r117), .val (.int f0), .val (.int ((((p4.toUInt32 >>> ((8 : Int32) &&& 31).toUInt32).toInt32)).toInt8.toInt32)), .unset, .unset, .unset]) rfl ?_
      generalize hf1 : ((((p4.toUInt32 >>> ((8 : Int32) &&& 31).toUInt32).toInt32)).toInt8.toInt32) = f1
      have nf1 : nar .byte f1 = f1 := by rw [← hf1]; exact own_i8 _
      refine o_iload X117 hx hby D0_63 rfl ?_
      refine o_bipush X117 hx hby D0_65 (v := 16) rfl ?_
      refine o_iushr X117 hx hby D0_67 ?_
      refine o_i2b X117 hx hby D0_68 ?_
      refine o_istore X117 hx hby D0_69 (l' := #[.val (.int p0), .val (.int p1), .val (.int p2), .val (.int p3), .val (.int p4), .val (.int c0), .val (.int c1), .val (.int c2), .val (.int (3 : Int32)), .val (.int (2 : Int32)), .val (.ref st), .val (.ref r117), .val (.int f0), .val (.int f1), .val (.int ((((p4.toUInt32 >>> ((16 : Int32) &&& 31).toUInt32).toInt32)).toInt8.toInt32)), .unset, .unset]) rfl ?_
      generalize hf2 : ((((p4.toUInt32 >>> ((16 : Int32) &&& 31).toUInt32).toInt32)).toInt8.toInt32) = f2
      have nf2 : nar .byte f2 = f2 := by rw [← hf2]; exact own_i8 _
      refine o_iload X117 hx hby D0_71 rfl ?_
      refine o_ifN X117 hx hby D0_73 ((if0 _ _).trans (tlt (by decide : (0 : Int32) < (2 : Int32))).2.2.2) ?_
      refine o_aload X117 hx hby D0_76 rfl rfl ?_
      refine o_iconst X117 hx hby D0_78 (v := 0) rfl ?_
      refine o_iload X117 hx hby D0_79 rfl ?_
      obtain ⟨cl_r117_118, Ar_r117_118, q_r117_118, S_r117_118, N_r117_118, H_r117_118, G_r117_118⟩ := id Vr117
      have hin_r117_118 : ¬ ((0 : Int32) < 0 ∨ cl_r117_118.slots.size ≤ ((0 : Int32)).toNatClampNeg) := inb_of S_r117_118 ⟨by decide, by decide⟩
      obtain ⟨T118, h118, X118, e118, W118, st118⟩ := stB X117 hx hZ rfl Ar_r117_118 (j := (0 : Int32)) hin_r117_118 (g := (mkF m 81 #[.val (.int p0), .val (.int p1), .val (.int p2), .val (.int p3), .val (.int p4), .val (.int c0), .val (.int c1), .val (.int c2), .val (.int (3 : Int32)), .val (.int (2 : Int32)), .val (.ref st), .val (.ref r117), .val (.int f0), .val (.int f1), .val (.int f2), .unset, .unset] [(.int f0), (.int (0 : Int32)), (.ref r117)])) rfl rfl (hb hby D0_81.1)
      have V_r117_118 : Arv Z h118 r117 kr117 .byte (2 : Int32) [(.int (nar .byte f0)), (.int (0 : Int32))] (.int (0 : Int32)) := Arv.set Ar_r117_118 q_r117_118 S_r117_118 N_r117_118 H_r117_118 G_r117_118 (fits_nar_byte _) W118 0 rfl (Nat.le_of_ble_eq_true rfl)
      have sz118 := own_leN (Keep.of_wr W118).1
      have N118 := Fr.snoc X118 N117 gn_r117
      refine own_pre (A' := T118.setTop (mkF m 82 #[.val (.int p0), .val (.int p1), .val (.int p2), .val (.int p3), .val (.int p4), .val (.int c0), .val (.int c1), .val (.int c2), .val (.int (3 : Int32)), .val (.int (2 : Int32)), .val (.ref st), .val (.ref r117), .val (.int f0), .val (.int f1), .val (.int f2), .unset, .unset] [])) st118 ?_
      refine o_iload X118 hx hby D0_82 rfl ?_
      refine o_iconst X118 hx hby D0_84 (v := 1) rfl ?_
      refine o_icmpN X118 hx hby D0_85 (tlt (by decide : (1 : Int32) < (2 : Int32))).2.2.2 ?_
      refine o_aload X118 hx hby D0_88 rfl rfl ?_
      refine o_iconst X118 hx hby D0_90 (v := 1) rfl ?_
      refine o_iload X118 hx hby D0_91 rfl ?_
      obtain ⟨cl_r117_119, Ar_r117_119, q_r117_119, S_r117_119, N_r117_119, H_r117_119, G_r117_119⟩ := id V_r117_118
      have hin_r117_119 : ¬ ((1 : Int32) < 0 ∨ cl_r117_119.slots.size ≤ ((1 : Int32)).toNatClampNeg) := inb_of S_r117_119 ⟨by decide, by decide⟩
      obtain ⟨T119, h119, X119, e119, W119, st119⟩ := stB X118 hx hZ e118 Ar_r117_119 (j := (1 : Int32)) hin_r117_119 (g := (mkF m 93 #[.val (.int p0), .val (.int p1), .val (.int p2), .val (.int p3), .val (.int p4), .val (.int c0), .val (.int c1), .val (.int c2), .val (.int (3 : Int32)), .val (.int (2 : Int32)), .val (.ref st), .val (.ref r117), .val (.int f0), .val (.int f1), .val (.int f2), .unset, .unset] [(.int f1), (.int (1 : Int32)), (.ref r117)])) rfl rfl (hb hby D0_93.1)
      have V_r117_119 : Arv Z h119 r117 kr117 .byte (2 : Int32) [(.int (nar .byte f0)), (.int (nar .byte f1))] (.int (0 : Int32)) := Arv.set Ar_r117_119 q_r117_119 S_r117_119 N_r117_119 H_r117_119 G_r117_119 (fits_nar_byte _) W119 1 rfl (Nat.le_of_ble_eq_true rfl)
      have sz119 := own_leN (Keep.of_wr W119).1
      have N119 := Fr.snoc X119 N118 gn_r117
      refine own_pre (A' := T119.setTop (mkF m 94 #[.val (.int p0), .val (.int p1), .val (.int p2), .val (.int p3), .val (.int p4), .val (.int c0), .val (.int c1), .val (.int c2), .val (.int (3 : Int32)), .val (.int (2 : Int32)), .val (.ref st), .val (.ref r117), .val (.int f0), .val (.int f1), .val (.int f2), .unset, .unset] [])) st119 ?_
      refine o_iload X119 hx hby D0_94 rfl ?_
      refine o_iconst X119 hx hby D0_96 (v := 2) rfl ?_
      refine o_icmpY X119 hx hby D0_97 (flt (by decide : ¬ ((2 : Int32) < (2 : Int32)))).2.2.2 (q := 106) (by decide) (by decide) ?_
      refine o_aload X119 hx hby D0_106 rfl rfl ?_
      refine o_aload X119 hx hby D0_108 rfl rfl ?_
      have cT121_st := (own_StrK3 (own_StrK3 (own_StrK3 Str107 K117 nin0 nin0) (Keep.of_wr W118) (ninS (by first | exact own_neN (by omega) | exact own_neN' (by omega) | assumption) nin0) (ninS (by first | exact own_neN (by omega) | exact own_neN' (by omega) | assumption) nin0)) (Keep.of_wr W119) (ninS (by first | exact own_neN (by omega) | exact own_neN' (by omega) | assumption) nin0) (ninS (by first | exact own_neN (by omega) | exact own_neN' (by omega) | assumption) nin0))
      have c122_O := ((((O0.keep K107 all0).keep K117 all0).wr W118 gn_r117).wr W119 gn_r117)
      refine kS X119 hx hZ hown hby (wd hw 40 rfl) (wd hw 41 rfl) (wd hw 42 rfl) (wd hw 43 rfl) (rm_abX3 l Z a0 hw [] st r117 vb kb kr117 c0 c1 c2 (2 : Int32) [(.int (nar .byte f0)), (.int (nar .byte f1))] cs vf h119 n0 (own_leN (by omega)) hST0 c122_O cT121_st V_r117_119 (by decide)) (by decide) (by decide) (by decide) (by decide) (by decide) (by rw [hml]; rfl) [(.ref st), (.ref r117)] [] (lenOf pd__40Ljava_47lang_47String_59_91B_41I rfl) (W := 0) rfl rfl D0_110 rfl e119 ?_
      intro v120 T120 L120 X120 hQ120
      obtain ⟨rfl, N120q, e120⟩ := hQ120
      have N120 := Fr.app N119 N120q
      refine own_sh (A' := T120.setTop (mkF m 113 _ [(.int (-1 : Int32))])) ?_
      refine o_istore X120 hx hby D0_113 (l' := #[.val (.int p0), .val (.int p1), .val (.int p2), .val (.int p3), .val (.int p4), .val (.int c0), .val (.int c1), .val (.int c2), .val (.int (3 : Int32)), .val (.int (2 : Int32)), .val (.ref st), .val (.ref r117), .val (.int f0), .val (.int f1), .val (.int f2), .val (.int (-1 : Int32)), .unset]) rfl ?_
      refine o_iload X120 hx hby D0_115 rfl ?_
      refine o_iload X120 hx hby D0_117 rfl ?_
      refine o_icmpN X120 hx hby D0_119 (tlt (by decide : (2 : Int32) < (3 : Int32))).2.2.2 ?_
      refine o_iload X120 hx hby D0_122 rfl ?_
      refine o_iconst X120 hx hby D0_124 (v := -1) rfl ?_
      refine o_icmpN X120 hx hby D0_125 (teq (by decide : (-1 : Int32) = (-1 : Int32))).2 ?_
      refine o_iconst X120 hx hby D0_128 (v := 1) rfl ?_
      refine o_goto X120 hx hby D0_129 (q := 133) (by decide) (by decide) ?_
      exact own_retW (v := some (.int (1 : Int32))) X120 (fun h => by first | rfl | (rw [Bd.returns] at h; cases h)) (BodyLoose.notSynchronized Bd) (by decide) (by decide) (⟨rfl, N120⟩) (fun fs hr => retN X120 hx (t := .boolean) Bd.returns (by simp) (hb hby D0_133.1) hr)
    · skip
      refine o_iload X107 hx hby D0_43 rfl ?_
      refine kS X107 hx hZ hown hby (wd hw 37 rfl) (wd hw 38 rfl) (wd hw 2 rfl) (wd hw 39 rfl) (rm_arr3 l Z a0 hw []  T107.heap n0 (own_leN (by omega)) ) (by decide) (by decide) (by decide) (by decide) (by decide) (by rw [hml]; rfl) [(.int (3 : Int32))] [] (lenOf pd__40I_41_91B rfl) (W := 0) rfl rfl D0_45 rfl rfl ?_
      intro v123 T123 L123 X123 hQ123
      obtain ⟨r123, kr123, rfl, N123q, K123, ge123, Vr123⟩ := hQ123
      have sz123 := own_leN K123.1
      have ge123' := own_leN ge123
      have lt_r123 := own_ltN Vr123.lt
      have gn_r123 : n0 ≤ r123 := own_leN (by omega)
      have N123 := Fr.app N107 N123q
      refine own_sh (A' := T123.setTop (mkF m 48 _ [(.ref r123)])) ?_
      refine o_astore X123 hx hby D0_48 rfl (l' := #[.val (.int p0), .val (.int p1), .val (.int p2), .val (.int p3), .val (.int p4), .val (.int c0), .val (.int c1), .val (.int c2), .val (.int (3 : Int32)), .val (.int (3 : Int32)), .val (.ref st), .val (.ref r123), .unset, .unset, .unset, .unset, .unset]) rfl ?_
      refine o_iload X123 hx hby D0_50 rfl ?_
      refine o_i2b X123 hx hby D0_52 ?_
      refine o_istore X123 hx hby D0_53 (l' := #[.val (.int p0), .val (.int p1), .val (.int p2), .val (.int p3), .val (.int p4), .val (.int c0), .val (.int c1), .val (.int c2), .val (.int (3 : Int32)), .val (.int (3 : Int32)), .val (.ref st), .val (.ref r123), .val (.int ((p4).toInt8.toInt32)), .unset, .unset, .unset, .unset]) rfl ?_
      generalize hf0 : ((p4).toInt8.toInt32) = f0
      have nf0 : nar .byte f0 = f0 := by rw [← hf0]; exact own_i8 _
      refine o_iload X123 hx hby D0_55 rfl ?_
      refine o_bipush X123 hx hby D0_57 (v := 8) rfl ?_
      refine o_iushr X123 hx hby D0_59 ?_
      refine o_i2b X123 hx hby D0_60 ?_
      refine o_istore X123 hx hby D0_61 (l' := #[.val (.int p0), .val (.int p1), .val (.int p2), .val (.int p3), .val (.int p4), .val (.int c0), .val (.int c1), .val (.int c2), .val (.int (3 : Int32)), .val (.int (3 : Int32)), .val (.ref st), .val (.ref r123), .val (.int f0), .val (.int ((((p4.toUInt32 >>> ((8 : Int32) &&& 31).toUInt32).toInt32)).toInt8.toInt32)), .unset, .unset, .unset]) rfl ?_
      generalize hf1 : ((((p4.toUInt32 >>> ((8 : Int32) &&& 31).toUInt32).toInt32)).toInt8.toInt32) = f1
      have nf1 : nar .byte f1 = f1 := by rw [← hf1]; exact own_i8 _
      refine o_iload X123 hx hby D0_63 rfl ?_
      refine o_bipush X123 hx hby D0_65 (v := 16) rfl ?_
      refine o_iushr X123 hx hby D0_67 ?_
      refine o_i2b X123 hx hby D0_68 ?_
      refine o_istore X123 hx hby D0_69 (l' := #[.val (.int p0), .val (.int p1), .val (.int p2), .val (.int p3), .val (.int p4), .val (.int c0), .val (.int c1), .val (.int c2), .val (.int (3 : Int32)), .val (.int (3 : Int32)), .val (.ref st), .val (.ref r123), .val (.int f0), .val (.int f1), .val (.int ((((p4.toUInt32 >>> ((16 : Int32) &&& 31).toUInt32).toInt32)).toInt8.toInt32)), .unset, .unset]) rfl ?_
      generalize hf2 : ((((p4.toUInt32 >>> ((16 : Int32) &&& 31).toUInt32).toInt32)).toInt8.toInt32) = f2
      have nf2 : nar .byte f2 = f2 := by rw [← hf2]; exact own_i8 _
      refine o_iload X123 hx hby D0_71 rfl ?_
      refine o_ifN X123 hx hby D0_73 ((if0 _ _).trans (tlt (by decide : (0 : Int32) < (3 : Int32))).2.2.2) ?_
      refine o_aload X123 hx hby D0_76 rfl rfl ?_
      refine o_iconst X123 hx hby D0_78 (v := 0) rfl ?_
      refine o_iload X123 hx hby D0_79 rfl ?_
      obtain ⟨cl_r123_124, Ar_r123_124, q_r123_124, S_r123_124, N_r123_124, H_r123_124, G_r123_124⟩ := id Vr123
      have hin_r123_124 : ¬ ((0 : Int32) < 0 ∨ cl_r123_124.slots.size ≤ ((0 : Int32)).toNatClampNeg) := inb_of S_r123_124 ⟨by decide, by decide⟩
      obtain ⟨T124, h124, X124, e124, W124, st124⟩ := stB X123 hx hZ rfl Ar_r123_124 (j := (0 : Int32)) hin_r123_124 (g := (mkF m 81 #[.val (.int p0), .val (.int p1), .val (.int p2), .val (.int p3), .val (.int p4), .val (.int c0), .val (.int c1), .val (.int c2), .val (.int (3 : Int32)), .val (.int (3 : Int32)), .val (.ref st), .val (.ref r123), .val (.int f0), .val (.int f1), .val (.int f2), .unset, .unset] [(.int f0), (.int (0 : Int32)), (.ref r123)])) rfl rfl (hb hby D0_81.1)
      have V_r123_124 : Arv Z h124 r123 kr123 .byte (3 : Int32) [(.int (nar .byte f0)), (.int (0 : Int32)), (.int (0 : Int32))] (.int (0 : Int32)) := Arv.set Ar_r123_124 q_r123_124 S_r123_124 N_r123_124 H_r123_124 G_r123_124 (fits_nar_byte _) W124 0 rfl (Nat.le_of_ble_eq_true rfl)
      have sz124 := own_leN (Keep.of_wr W124).1
      have N124 := Fr.snoc X124 N123 gn_r123
      refine own_pre (A' := T124.setTop (mkF m 82 #[.val (.int p0), .val (.int p1), .val (.int p2), .val (.int p3), .val (.int p4), .val (.int c0), .val (.int c1), .val (.int c2), .val (.int (3 : Int32)), .val (.int (3 : Int32)), .val (.ref st), .val (.ref r123), .val (.int f0), .val (.int f1), .val (.int f2), .unset, .unset] [])) st124 ?_
      refine o_iload X124 hx hby D0_82 rfl ?_
      refine o_iconst X124 hx hby D0_84 (v := 1) rfl ?_
      refine o_icmpN X124 hx hby D0_85 (tlt (by decide : (1 : Int32) < (3 : Int32))).2.2.2 ?_
      refine o_aload X124 hx hby D0_88 rfl rfl ?_
      refine o_iconst X124 hx hby D0_90 (v := 1) rfl ?_
      refine o_iload X124 hx hby D0_91 rfl ?_
      obtain ⟨cl_r123_125, Ar_r123_125, q_r123_125, S_r123_125, N_r123_125, H_r123_125, G_r123_125⟩ := id V_r123_124
      have hin_r123_125 : ¬ ((1 : Int32) < 0 ∨ cl_r123_125.slots.size ≤ ((1 : Int32)).toNatClampNeg) := inb_of S_r123_125 ⟨by decide, by decide⟩
      obtain ⟨T125, h125, X125, e125, W125, st125⟩ := stB X124 hx hZ e124 Ar_r123_125 (j := (1 : Int32)) hin_r123_125 (g := (mkF m 93 #[.val (.int p0), .val (.int p1), .val (.int p2), .val (.int p3), .val (.int p4), .val (.int c0), .val (.int c1), .val (.int c2), .val (.int (3 : Int32)), .val (.int (3 : Int32)), .val (.ref st), .val (.ref r123), .val (.int f0), .val (.int f1), .val (.int f2), .unset, .unset] [(.int f1), (.int (1 : Int32)), (.ref r123)])) rfl rfl (hb hby D0_93.1)
      have V_r123_125 : Arv Z h125 r123 kr123 .byte (3 : Int32) [(.int (nar .byte f0)), (.int (nar .byte f1)), (.int (0 : Int32))] (.int (0 : Int32)) := Arv.set Ar_r123_125 q_r123_125 S_r123_125 N_r123_125 H_r123_125 G_r123_125 (fits_nar_byte _) W125 1 rfl (Nat.le_of_ble_eq_true rfl)
      have sz125 := own_leN (Keep.of_wr W125).1
      have N125 := Fr.snoc X125 N124 gn_r123
      refine own_pre (A' := T125.setTop (mkF m 94 #[.val (.int p0), .val (.int p1), .val (.int p2), .val (.int p3), .val (.int p4), .val (.int c0), .val (.int c1), .val (.int c2), .val (.int (3 : Int32)), .val (.int (3 : Int32)), .val (.ref st), .val (.ref r123), .val (.int f0), .val (.int f1), .val (.int f2), .unset, .unset] [])) st125 ?_
      refine o_iload X125 hx hby D0_94 rfl ?_
      refine o_iconst X125 hx hby D0_96 (v := 2) rfl ?_
      refine o_icmpN X125 hx hby D0_97 (tlt (by decide : (2 : Int32) < (3 : Int32))).2.2.2 ?_
      refine o_aload X125 hx hby D0_100 rfl rfl ?_
      refine o_iconst X125 hx hby D0_102 (v := 2) rfl ?_
      refine o_iload X125 hx hby D0_103 rfl ?_
      obtain ⟨cl_r123_126, Ar_r123_126, q_r123_126, S_r123_126, N_r123_126, H_r123_126, G_r123_126⟩ := id V_r123_125
      have hin_r123_126 : ¬ ((2 : Int32) < 0 ∨ cl_r123_126.slots.size ≤ ((2 : Int32)).toNatClampNeg) := inb_of S_r123_126 ⟨by decide, by decide⟩
      obtain ⟨T126, h126, X126, e126, W126, st126⟩ := stB X125 hx hZ e125 Ar_r123_126 (j := (2 : Int32)) hin_r123_126 (g := (mkF m 105 #[.val (.int p0), .val (.int p1), .val (.int p2), .val (.int p3), .val (.int p4), .val (.int c0), .val (.int c1), .val (.int c2), .val (.int (3 : Int32)), .val (.int (3 : Int32)), .val (.ref st), .val (.ref r123), .val (.int f0), .val (.int f1), .val (.int f2), .unset, .unset] [(.int f2), (.int (2 : Int32)), (.ref r123)])) rfl rfl (hb hby D0_105.1)
      have V_r123_126 : Arv Z h126 r123 kr123 .byte (3 : Int32) [(.int (nar .byte f0)), (.int (nar .byte f1)), (.int (nar .byte f2))] (.int (0 : Int32)) := Arv.set Ar_r123_126 q_r123_126 S_r123_126 N_r123_126 H_r123_126 G_r123_126 (fits_nar_byte _) W126 2 rfl (Nat.le_of_ble_eq_true rfl)
      have sz126 := own_leN (Keep.of_wr W126).1
      have N126 := Fr.snoc X126 N125 gn_r123
      refine own_pre (A' := T126.setTop (mkF m 106 #[.val (.int p0), .val (.int p1), .val (.int p2), .val (.int p3), .val (.int p4), .val (.int c0), .val (.int c1), .val (.int c2), .val (.int (3 : Int32)), .val (.int (3 : Int32)), .val (.ref st), .val (.ref r123), .val (.int f0), .val (.int f1), .val (.int f2), .unset, .unset] [])) st126 ?_
      refine o_aload X126 hx hby D0_106 rfl rfl ?_
      refine o_aload X126 hx hby D0_108 rfl rfl ?_
      have cT128_st := (own_StrK3 (own_StrK3 (own_StrK3 (own_StrK3 Str107 K123 nin0 nin0) (Keep.of_wr W124) (ninS (by first | exact own_neN (by omega) | exact own_neN' (by omega) | assumption) nin0) (ninS (by first | exact own_neN (by omega) | exact own_neN' (by omega) | assumption) nin0)) (Keep.of_wr W125) (ninS (by first | exact own_neN (by omega) | exact own_neN' (by omega) | assumption) nin0) (ninS (by first | exact own_neN (by omega) | exact own_neN' (by omega) | assumption) nin0)) (Keep.of_wr W126) (ninS (by first | exact own_neN (by omega) | exact own_neN' (by omega) | assumption) nin0) (ninS (by first | exact own_neN (by omega) | exact own_neN' (by omega) | assumption) nin0))
      have c129_O := (((((O0.keep K107 all0).keep K123 all0).wr W124 gn_r123).wr W125 gn_r123).wr W126 gn_r123)
      refine kS X126 hx hZ hown hby (wd hw 40 rfl) (wd hw 41 rfl) (wd hw 42 rfl) (wd hw 43 rfl) (rm_ab33 l Z a0 hw [] st r123 vb kb kr123 c0 c1 c2 (.int (nar .byte f0)) (.int (nar .byte f1)) (.int (nar .byte f2)) cs vf h126 n0 (own_leN (by omega)) hST0 c129_O cT128_st hc0 hc1 hc2 gn_r123 V_r123_126 (own_ltN (by omega)) (own_ltN (by omega))) (by decide) (by decide) (by decide) (by decide) (by decide) (by rw [hml]; rfl) [(.ref st), (.ref r123)] [] (lenOf pd__40Ljava_47lang_47String_59_91B_41I rfl) (W := 0) rfl rfl D0_110 rfl e126 ?_
      intro v127 T127 L127 X127 hQ127
      obtain ⟨rfl, N127q, K127, Vb127⟩ := hQ127
      have sz127 := own_leN K127.1
      have N127 := Fr.app N126 N127q
      refine own_sh (A' := T127.setTop (mkF m 113 _ [(.int (own_ab3 c0 c1 c2))])) ?_
      refine o_istore X127 hx hby D0_113 (l' := #[.val (.int p0), .val (.int p1), .val (.int p2), .val (.int p3), .val (.int p4), .val (.int c0), .val (.int c1), .val (.int c2), .val (.int (3 : Int32)), .val (.int (3 : Int32)), .val (.ref st), .val (.ref r123), .val (.int f0), .val (.int f1), .val (.int f2), .val (.int (own_ab3 c0 c1 c2)), .unset]) rfl ?_
      refine o_iload X127 hx hby D0_115 rfl ?_
      refine o_iload X127 hx hby D0_117 rfl ?_
      refine o_icmpY X127 hx hby D0_119 (flt (by decide : ¬ ((3 : Int32) < (3 : Int32)))).2.2.2 (q := 134) (by decide) (by decide) ?_
      refine o_iload X127 hx hby D0_134 rfl ?_
      refine o_iconst X127 hx hby D0_136 (v := 1) rfl ?_
      refine o_icmpN X127 hx hby D0_137 (flt (by decide : ¬ ((3 : Int32) < (1 : Int32)))).1 ?_
      refine o_iload X127 hx hby D0_140 rfl ?_
      refine o_sipush X127 hx hby D0_142 (v := 128) rfl ?_
      by_cases hc145_130 : c0 < (128 : Int32)
      · skip
        refine o_icmpN X127 hx hby D0_145 (tlt hc145_130).2.1 ?_
        refine o_iload X127 hx hby D0_148 rfl ?_
        refine o_iconst X127 hx hby D0_150 (v := 2) rfl ?_
        refine o_icmpN X127 hx hby D0_151 (flt (by decide : ¬ ((3 : Int32) < (2 : Int32)))).1 ?_
        refine o_iload X127 hx hby D0_154 rfl ?_
        refine o_sipush X127 hx hby D0_156 (v := 128) rfl ?_
        by_cases hc159_131 : c1 < (128 : Int32)
        · skip
          refine o_icmpN X127 hx hby D0_159 (tlt hc159_131).2.1 ?_
          refine o_iload X127 hx hby D0_162 rfl ?_
          refine o_iconst X127 hx hby D0_164 (v := 3) rfl ?_
          refine o_icmpN X127 hx hby D0_165 (flt (by decide : ¬ ((3 : Int32) < (3 : Int32)))).1 ?_
          refine o_iload X127 hx hby D0_168 rfl ?_
          refine o_sipush X127 hx hby D0_170 (v := 128) rfl ?_
          by_cases hc173_132 : c2 < (128 : Int32)
          · skip
            refine o_icmpN X127 hx hby D0_173 (tlt hc173_132).2.1 ?_
            refine o_iconst X127 hx hby D0_176 (v := 1) rfl ?_
            refine o_goto X127 hx hby D0_177 (q := 181) (by decide) (by decide) ?_
            refine o_istore X127 hx hby D0_181 (l' := #[.val (.int p0), .val (.int p1), .val (.int p2), .val (.int p3), .val (.int p4), .val (.int c0), .val (.int c1), .val (.int c2), .val (.int (3 : Int32)), .val (.int (3 : Int32)), .val (.ref st), .val (.ref r123), .val (.int f0), .val (.int f1), .val (.int f2), .val (.int (own_ab3 c0 c1 c2)), .val (.int (1 : Int32))]) rfl ?_
            refine o_iload X127 hx hby D0_183 rfl ?_
            refine o_ifY X127 hx hby D0_185 ((if0 _ _).trans (feq (by decide : ¬ ((1 : Int32) = (0 : Int32)))).2) (q := 200) (by decide) (by decide) ?_
            refine o_iload X127 hx hby D0_200 rfl ?_
            refine o_iload X127 hx hby D0_202 rfl ?_
            refine o_icmpY X127 hx hby D0_204 (teq (own_abY3 hc0 hc1 hc2 ⟨hc145_130, hc159_131, hc173_132⟩ : (own_ab3 c0 c1 c2) = (3 : Int32))).1 (q := 209) (by decide) (by decide) ?_
            refine o_aload X127 hx hby D0_209 rfl rfl ?_
            refine o_iconst X127 hx hby D0_211 (v := 0) rfl ?_
            refine o_iload X127 hx hby D0_212 rfl ?_
            refine o_iload X127 hx hby D0_214 rfl ?_
            refine o_iload X127 hx hby D0_216 rfl ?_
            refine kS X127 hx hZ hown hby (wd hw 76 rfl) (wd hw 77 rfl) (wd hw 2 rfl) (wd hw 78 rfl) (rm_at0A l Z a0 hw [] r123 (3 : Int32) c0 f0 kr123 (3 : Int32) [(.int (own_l8 c0)), (.int (own_l8 c1)), (.int (own_l8 c2))] (own_l8 c0) T127.heap n0 (own_leN (by omega)) Vb127 (by decide) rfl (by decide) (own_i8 _)) (by decide) (by decide) (by decide) (by decide) (by decide) (by rw [hml]; rfl) [(.ref r123), (.int (0 : Int32)), (.int (3 : Int32)), (.int c0), (.int f0)] [] (lenOf pd__40_91BIICB_41Z rfl) (W := 0) rfl rfl D0_218 rfl rfl ?_
            intro v133 T133 L133 X133 hQ133
            obtain ⟨rfl, N133q, e133⟩ := hQ133
            have N133 := Fr.app N127 N133q
            refine own_sh (A' := T133.setTop (mkF m 221 _ [(.int (1 : Int32))])) ?_
            refine o_ifN X133 hx hby D0_221 ((if0 _ _).trans (feq (by decide : ¬ ((1 : Int32) = (0 : Int32)))).1) ?_
            refine o_aload X133 hx hby D0_224 rfl rfl ?_
            refine o_iconst X133 hx hby D0_226 (v := 1) rfl ?_
            refine o_iload X133 hx hby D0_227 rfl ?_
            refine o_iload X133 hx hby D0_229 rfl ?_
            refine o_iload X133 hx hby D0_231 rfl ?_
            refine kS X133 hx hZ hown hby (wd hw 76 rfl) (wd hw 77 rfl) (wd hw 2 rfl) (wd hw 78 rfl) (rm_at1A l Z a0 hw [] r123 (3 : Int32) c1 f1 kr123 (3 : Int32) [(.int (own_l8 c0)), (.int (own_l8 c1)), (.int (own_l8 c2))] (own_l8 c1) T127.heap n0 (own_leN (by omega)) Vb127 (by decide) rfl (by decide) (own_i8 _)) (by decide) (by decide) (by decide) (by decide) (by decide) (by rw [hml]; rfl) [(.ref r123), (.int (1 : Int32)), (.int (3 : Int32)), (.int c1), (.int f1)] [] (lenOf pd__40_91BIICB_41Z rfl) (W := 0) rfl rfl D0_233 rfl e133 ?_
            intro v134 T134 L134 X134 hQ134
            obtain ⟨rfl, N134q, e134⟩ := hQ134
            have N134 := Fr.app N133 N134q
            refine own_sh (A' := T134.setTop (mkF m 236 _ [(.int (1 : Int32))])) ?_
            refine o_ifN X134 hx hby D0_236 ((if0 _ _).trans (feq (by decide : ¬ ((1 : Int32) = (0 : Int32)))).1) ?_
            refine o_aload X134 hx hby D0_239 rfl rfl ?_
            refine o_iconst X134 hx hby D0_241 (v := 2) rfl ?_
            refine o_iload X134 hx hby D0_242 rfl ?_
            refine o_iload X134 hx hby D0_244 rfl ?_
            refine o_iload X134 hx hby D0_246 rfl ?_
            refine kS X134 hx hZ hown hby (wd hw 76 rfl) (wd hw 77 rfl) (wd hw 2 rfl) (wd hw 78 rfl) (rm_at2A l Z a0 hw [] r123 (3 : Int32) c2 f2 kr123 (3 : Int32) [(.int (own_l8 c0)), (.int (own_l8 c1)), (.int (own_l8 c2))] (own_l8 c2) T127.heap n0 (own_leN (by omega)) Vb127 (by decide) rfl (by decide) (own_i8 _)) (by decide) (by decide) (by decide) (by decide) (by decide) (by rw [hml]; rfl) [(.ref r123), (.int (2 : Int32)), (.int (3 : Int32)), (.int c2), (.int f2)] [] (lenOf pd__40_91BIICB_41Z rfl) (W := 0) rfl rfl D0_248 rfl e134 ?_
            intro v135 T135 L135 X135 hQ135
            obtain ⟨rfl, N135q, e135⟩ := hQ135
            have N135 := Fr.app N134 N135q
            refine own_sh (A' := T135.setTop (mkF m 251 _ [(.int (1 : Int32))])) ?_
            refine o_ifN X135 hx hby D0_251 ((if0 _ _).trans (feq (by decide : ¬ ((1 : Int32) = (0 : Int32)))).1) ?_
            refine o_iconst X135 hx hby D0_254 (v := 1) rfl ?_
            refine o_goto X135 hx hby D0_255 (q := 259) (by decide) (by decide) ?_
            exact own_retW (v := some (.int (1 : Int32))) X135 (fun h => by first | rfl | (rw [Bd.returns] at h; cases h)) (BodyLoose.notSynchronized Bd) (by decide) (by decide) (⟨rfl, N135⟩) (fun fs hr => retN X135 hx (t := .boolean) Bd.returns (by simp) (hb hby D0_259.1) hr)
          · skip
            refine o_icmpY X127 hx hby D0_173 (flt hc173_132).2.1 (q := 180) (by decide) (by decide) ?_
            refine o_iconst X127 hx hby D0_180 (v := 0) rfl ?_
            refine o_istore X127 hx hby D0_181 (l' := #[.val (.int p0), .val (.int p1), .val (.int p2), .val (.int p3), .val (.int p4), .val (.int c0), .val (.int c1), .val (.int c2), .val (.int (3 : Int32)), .val (.int (3 : Int32)), .val (.ref st), .val (.ref r123), .val (.int f0), .val (.int f1), .val (.int f2), .val (.int (own_ab3 c0 c1 c2)), .val (.int (0 : Int32))]) rfl ?_
            refine o_iload X127 hx hby D0_183 rfl ?_
            refine o_ifN X127 hx hby D0_185 ((if0 _ _).trans (teq (by decide : (0 : Int32) = (0 : Int32))).2) ?_
            refine o_iload X127 hx hby D0_188 rfl ?_
            refine o_iconst X127 hx hby D0_190 (v := -1) rfl ?_
            refine o_icmpN X127 hx hby D0_191 (teq (own_abN3 hc0 hc1 hc2 (fun q => hc173_132 q.2.2) : (own_ab3 c0 c1 c2) = (-1 : Int32))).2 ?_
            refine o_iconst X127 hx hby D0_194 (v := 1) rfl ?_
            refine o_goto X127 hx hby D0_195 (q := 199) (by decide) (by decide) ?_
            exact own_retW (v := some (.int (1 : Int32))) X127 (fun h => by first | rfl | (rw [Bd.returns] at h; cases h)) (BodyLoose.notSynchronized Bd) (by decide) (by decide) (⟨rfl, N127⟩) (fun fs hr => retN X127 hx (t := .boolean) Bd.returns (by simp) (hb hby D0_199.1) hr)
        · skip
          refine o_icmpY X127 hx hby D0_159 (flt hc159_131).2.1 (q := 180) (by decide) (by decide) ?_
          refine o_iconst X127 hx hby D0_180 (v := 0) rfl ?_
          refine o_istore X127 hx hby D0_181 (l' := #[.val (.int p0), .val (.int p1), .val (.int p2), .val (.int p3), .val (.int p4), .val (.int c0), .val (.int c1), .val (.int c2), .val (.int (3 : Int32)), .val (.int (3 : Int32)), .val (.ref st), .val (.ref r123), .val (.int f0), .val (.int f1), .val (.int f2), .val (.int (own_ab3 c0 c1 c2)), .val (.int (0 : Int32))]) rfl ?_
          refine o_iload X127 hx hby D0_183 rfl ?_
          refine o_ifN X127 hx hby D0_185 ((if0 _ _).trans (teq (by decide : (0 : Int32) = (0 : Int32))).2) ?_
          refine o_iload X127 hx hby D0_188 rfl ?_
          refine o_iconst X127 hx hby D0_190 (v := -1) rfl ?_
          refine o_icmpN X127 hx hby D0_191 (teq (own_abN3 hc0 hc1 hc2 (fun q => hc159_131 q.2.1) : (own_ab3 c0 c1 c2) = (-1 : Int32))).2 ?_
          refine o_iconst X127 hx hby D0_194 (v := 1) rfl ?_
          refine o_goto X127 hx hby D0_195 (q := 199) (by decide) (by decide) ?_
          exact own_retW (v := some (.int (1 : Int32))) X127 (fun h => by first | rfl | (rw [Bd.returns] at h; cases h)) (BodyLoose.notSynchronized Bd) (by decide) (by decide) (⟨rfl, N127⟩) (fun fs hr => retN X127 hx (t := .boolean) Bd.returns (by simp) (hb hby D0_199.1) hr)
      · skip
        refine o_icmpY X127 hx hby D0_145 (flt hc145_130).2.1 (q := 180) (by decide) (by decide) ?_
        refine o_iconst X127 hx hby D0_180 (v := 0) rfl ?_
        refine o_istore X127 hx hby D0_181 (l' := #[.val (.int p0), .val (.int p1), .val (.int p2), .val (.int p3), .val (.int p4), .val (.int c0), .val (.int c1), .val (.int c2), .val (.int (3 : Int32)), .val (.int (3 : Int32)), .val (.ref st), .val (.ref r123), .val (.int f0), .val (.int f1), .val (.int f2), .val (.int (own_ab3 c0 c1 c2)), .val (.int (0 : Int32))]) rfl ?_
        refine o_iload X127 hx hby D0_183 rfl ?_
        refine o_ifN X127 hx hby D0_185 ((if0 _ _).trans (teq (by decide : (0 : Int32) = (0 : Int32))).2) ?_
        refine o_iload X127 hx hby D0_188 rfl ?_
        refine o_iconst X127 hx hby D0_190 (v := -1) rfl ?_
        refine o_icmpN X127 hx hby D0_191 (teq (own_abN3 hc0 hc1 hc2 (fun q => hc145_130 q.1) : (own_ab3 c0 c1 c2) = (-1 : Int32))).2 ?_
        refine o_iconst X127 hx hby D0_194 (v := 1) rfl ?_
        refine o_goto X127 hx hby D0_195 (q := 199) (by decide) (by decide) ?_
        exact own_retW (v := some (.int (1 : Int32))) X127 (fun h => by first | rfl | (rw [Bd.returns] at h; cases h)) (BodyLoose.notSynchronized Bd) (by decide) (by decide) (⟨rfl, N127⟩) (fun fs hr => retN X127 hx (t := .boolean) Bd.returns (by simp) (hb hby D0_199.1) hr)
theorem own_sta {args : Array Value} {s : State} {C n d : String} {v : Int32} (h : (Jvm.Cond.eq (Jvm.Term.static C n d) (Jvm.Term.int v)).before args s = true) : (Jvm.Term.static C n d).eval args s none [] s = some (.int v) := Cond.eq_int h rfl
set_option maxRecDepth 65536 in
set_option maxHeartbeats 40000000 in
theorem comes_1 {Post : Tables → Env → Array Value → State → Outcome → State → Prop} (hpost : ∀ tb e args s v u, (limb_1_1.after args s (.returned v) u = true ∧ limb_1_2.after args s (.returned v) u = true ∧ True) → ReturnedEndW s (.returned v) u (Jvm.fieldLocs frame_1_writes args s ++ Jvm.arrayLocs frame_1_arrays args s ++ Jvm.staticLocs frame_1_statics s) 24 1152 → Post tb e args s (.returned v) u) :
    ArmFor flags0 classFile x code maxLocals ret World_1 tables_1 room_1 Calls_1 rest_1 Pre_1 Post := by
  intro l hfl _ _ p e ha hc hk s m args below hf hA hF happ hP
  obtain ⟨hcalls, hrest, hpre⟩ := hP
  obtain ⟨-, -, -, hnamed, -, -, -, hat⟩ := (Spec.applies_iff hf).mp happ
  obtain ⟨hg, hn⟩ := and_e (Cond.before_iff.mp (show (Jvm.Cond.and given_1 narrow_1).before args s = true from hpre))
  obtain ⟨gc, gr0⟩ := and_e hg
  obtain ⟨ga0, gr1⟩ := and_e gr0
  obtain ⟨ga1, gr2⟩ := and_e gr1
  obtain ⟨ga2, gr3⟩ := and_e gr2
  obtain ⟨ga3, gr4⟩ := and_e gr3
  obtain ⟨w0, w1, w2, w3, w4, rfl⟩ : ∃ w0 w1 w2 w3 w4 : Value, args = #[w0, w1, w2, w3, w4] := by
    have hs : args.size = 5 := by simpa [Cond.value, given_1] using gc
    obtain ⟨L⟩ := args
    match L, hs with
    | [w0, w1, w2, w3, w4], _ => exact ⟨w0, w1, w2, w3, w4, rfl⟩
  have hw := fun d (hd : d ∈ tables_1) => atoms_spec (ws := Jvm.Cond.code x code maxLocals ret :: tables_1) hat d (List.mem_cons_of_mem _ hd)
  obtain ⟨hsets, hown0⟩ := atoms_of _ (rest_1_c_eq ▸ (show rest_1_c.before _ s = true from hrest))
  obtain ⟨i0, ei0⟩ := is_v ga0
  obtain rfl : w0 = (.int i0) := Option.some.inj ei0
  obtain ⟨i1, ei1⟩ := is_v ga1
  obtain rfl : w1 = (.int i1) := Option.some.inj ei1
  obtain ⟨i2, ei2⟩ := is_v ga2
  obtain rfl : w2 = (.int i2) := Option.some.inj ei2
  obtain ⟨i3, ei3⟩ := is_v ga3
  obtain rfl : w3 = (.int i3) := Option.some.inj ei3
  obtain ⟨i4, ei4⟩ := is_v gr4
  obtain rfl : w4 = (.int i4) := Option.some.inj ei4
  obtain ⟨cs, hcs⟩ := is_v (Cond.before_iff.mp (hsets _ (List.mem_of_getElem? (i := 1) rfl)))
  have hcs0 : ¬ cs = (0 : Int32) := fun q => by
    have w := not_v (Cond.before_iff.mp (hsets _ (List.mem_of_getElem? (i := 2) rfl)))
    rw [eq_i hcs (Term.int_eval 0) (by rw [q])] at w
    cases w
  have S1 := Sta.start hcs (Or.inl (hsets _ (List.mem_of_getElem? (i := 0) rfl)))
  obtain ⟨vf, hvf, hvr⟩ := isR_v (Cond.before_iff.mp (hsets _ (List.mem_of_getElem? (i := 8) rfl)))
  have S5 := Sta.start hvf (Or.inl (hsets _ (List.mem_of_getElem? (i := 7) rfl)))
  have S2 := Sta.start (own_sta (hsets _ (List.mem_of_getElem? (i := 12) rfl))) (Or.inl (hsets _ (List.mem_of_getElem? (i := 11) rfl)))
  have S3 := Sta.start (own_sta (hsets _ (List.mem_of_getElem? (i := 15) rfl))) (Or.inl (hsets _ (List.mem_of_getElem? (i := 14) rfl)))
  have S4 := Sta.start (own_sta (hsets _ (List.mem_of_getElem? (i := 18) rfl))) (Or.inl (hsets _ (List.mem_of_getElem? (i := 17) rfl)))
  have hch : CHv s own_EL s.vm s.heap := CHv.start (own_ew hw) (fun p hp => hcalls.1 p (by simpa [own_EL, consts_1] using hp)) (by exact hsets _ (List.mem_of_getElem? (i := 2) rfl)) (wd hw 26 rfl) (wd hw 9 rfl)
  obtain ⟨n, o, h1, h2, h3, _, L, rfl, ⟨rfl, N⟩, hq⟩ := rm0 l s _ hw tables_1 i0 i1 i2 i3 i4 cs vf s.heap s.heap.size (Nat.le_refl _) ⟨S1, S2, S3, S4, S5, hcs0, hvr⟩ (Old.start s) p e ha hc hk s m _ below hf ((Spec.applies_iff_loose hf).mp happ).1 ⟨rfl, State.Warmed39.refl s, rfl, hch⟩ trivial
  refine ⟨n, _, h1, h2, h3, hpost _ _ _ _ _ _ ⟨Cond.after_iff.mpr rfl, Cond.after_iff.mpr (eq_i res_at (Term.int_eval (1)) rfl), trivial⟩ ⟨hq.1, hq.2.1, hq.2.2.1, (hq.2.2.2.sift fun y hy => Or.inr (N y hy)).mono (by decide) (by decide)⟩⟩
theorem main_1_1 : Claimed_1_1 := comes_1 fun _ _ _ _ _ _ h hF => ⟨h.1, hF⟩
theorem main_1_2 : Claimed_1_2 := comes_1 fun _ _ _ _ _ _ h hF => ⟨h.2.1, hF⟩
end Jvm.Pilot.@@N@@
namespace Jvm.Pilot.@@N@@
open Jvm Jvm.ClassFile Sem Op Lib Jvm.Free Jvm.Stand Jvm.Pilot.@@N@@.Jvm.D
/-! MADE BY PROGRAM (witnessworld.py) out of the Statement's table words and the real class files: 18 classes; the members and pool entries that the words name. The judged class is class 1, her method 5. -/
namespace start1
open Jvm.ClassFile
def u (s : String) : CpInfo := .utf8 (stringToUtf16 s)
/-- a pool by its gaps: so many unusable entries, then the entry; so many at the end -/
def gap : Nat → List CpInfo → List CpInfo
  | 0, r => r
  | n + 1, r => .unusable :: gap n r
def poolList (es : List (Nat × CpInfo)) (last : Nat) : List CpInfo := es.foldr (fun e r => gap e.1 (e.2 :: r)) (gap last [])
def pool (es : List (Nat × CpInfo)) (last : Nat) : Array CpInfo := ⟨poolList es last⟩
def fileOf (pool : Array CpInfo) (this : Nat) (attrs : Array Attribute := #[]) (ms : Array MethodInfo := #[]) (fl : Nat := 33) (sup : Nat := 0) (ifs : Array Nat := #[]) (fds : Array FieldInfo := #[]) : ClassFile where
  minorVersion := 0
  majorVersion := 65
  constantPool := pool
  accessFlags := fl
  thisClass := this
  superClass := sup
  interfaces := ifs
  fields := fds
  methods := ms
  attributes := attrs
def plain (name : String) (sup : Option ClassId) : Class where
  name := name
  kind := .ordinary
  loader := none
  accessFlags := 33
  super := sup
  interfaces := #[]
  cf := none
  fields := #[]
  methods := #[]
  instanceTypes := #[]
  staticTypes := #[]
  resolved := #[]
  callSites := []
  init := .initialized
  statics := none
  mirror := none

def pool0 : Array CpInfo := pool [(5, u "<init>"), (0, u "()V"), (1, .class_ 10), (1, u "java/lang/Object")] 113

def k0c0 : Code := { maxStack := 0, maxLocals := 1, code := object_method_1_code, exceptionTable := #[], attributes := #[] }
def k0m0 : Method := { name := "<init>", desc := "()V", sig := { parameters := [], returnType := none }, accessFlags := 1, code := some k0c0 }
/-- java/lang/Object -/
def k0 : Class := { plain "java/lang/Object" none with
  accessFlags := 33
  interfaces := #[]
  cf := some (fileOf pool0 8 #[] #[{ accessFlags := 1, nameIndex := 5, descriptorIndex := 6, attributes := #[] }] 33 0 #[] #[])
  fields := #[]
  methods := #[k0m0]
  instanceTypes := #[]
  staticTypes := #[]
  resolved := Array.replicate 124 none
  statics := none }

def pool1 : Array CpInfo := pool [(2, .class_ 4), (1, u "java/lang/Object"), (0, u "<init>"), (0, u "()V"), (0, .integer 65535), (0, .class_ 9), (0, u "java/lang/String"), (0, .methodref 8 11), (0, .nameAndType 5 12), (0, u "([C)V"), (0, .methodref 14 15), (0, .class_ 16), (0, .nameAndType 17 18), (0, u "com/example/placer/placer/Utf8AsciiBytesPinLaw"), (0, u "draw"), (0, u "(I)C"), (0, .methodref 14 20), (0, .nameAndType 21 22), (0, u "key"), (0, u "(ICCC)Ljava/lang/String;"), (0, .methodref 14 24), (0, .nameAndType 25 26), (0, u "arr"), (0, u "(I)[B"), (0, .methodref 28 29), (0, .class_ 30), (0, .nameAndType 31 32), (0, u "com/example/placer/placer/Utf8"), (0, u "asciiBytes"), (0, u "(Ljava/lang/String;[B)I"), (0, .methodref 14 34), (0, .nameAndType 35 36), (0, u "at"), (0, u "([BIICB)Z"), (3, u "law"), (0, u "(IIIII)Z")] 4

def k1m0 : Method := { name := "<init>", desc := "()V", sig := { parameters := [], returnType := none }, accessFlags := 2, code := none }
def k1c1 : Code := { maxStack := 2, maxLocals := 2, code := method_2_code, exceptionTable := #[], attributes := #[] }
def k1m1 : Method := { name := "draw", desc := "(I)C", sig := { parameters := [.int], returnType := some .char }, accessFlags := 10, code := some k1c1 }
def k1c2 : Code := { maxStack := 3, maxLocals := 5, code := method_3_code, exceptionTable := #[], attributes := #[] }
def k1m2 : Method := { name := "key", desc := "(ICCC)Ljava/lang/String;", sig := { parameters := [.int, .char, .char, .char], returnType := some (.object "java/lang/String") }, accessFlags := 10, code := some k1c2 }
def k1c3 : Code := { maxStack := 2, maxLocals := 1, code := method_4_code, exceptionTable := #[], attributes := #[] }
def k1m3 : Method := { name := "arr", desc := "(I)[B", sig := { parameters := [.int], returnType := some (.array .byte) }, accessFlags := 10, code := some k1c3 }
def k1c4 : Code := { maxStack := 2, maxLocals := 5, code := method_5_code, exceptionTable := #[], attributes := #[] }
def k1m4 : Method := { name := "at", desc := "([BIICB)Z", sig := { parameters := [(.array .byte), .int, .int, .char, .byte], returnType := some .boolean }, accessFlags := 10, code := some k1c4 }
def k1c5 : Code := { maxStack := 5, maxLocals := 17, code := code, exceptionTable := #[], attributes := #[] }
def k1m5 : Method := { name := "law", desc := "(IIIII)Z", sig := { parameters := [.int, .int, .int, .int, .int], returnType := some .boolean }, accessFlags := 9, code := some k1c5 }
/-- com/example/placer/placer/Utf8AsciiBytesPinLaw -/
def k1 : Class := { plain "com/example/placer/placer/Utf8AsciiBytesPinLaw" (some 0) with
  accessFlags := 49
  interfaces := #[]
  cf := some (fileOf pool1 14 #[] #[{ accessFlags := 2, nameIndex := 5, descriptorIndex := 6, attributes := #[] }, { accessFlags := 10, nameIndex := 17, descriptorIndex := 18, attributes := #[] }, { accessFlags := 10, nameIndex := 21, descriptorIndex := 22, attributes := #[] }, { accessFlags := 10, nameIndex := 25, descriptorIndex := 26, attributes := #[] }, { accessFlags := 10, nameIndex := 35, descriptorIndex := 36, attributes := #[] }, { accessFlags := 9, nameIndex := 40, descriptorIndex := 41, attributes := #[] }] 49 2 #[] #[])
  fields := #[]
  methods := #[k1m0, k1m1, k1m2, k1m3, k1m4, k1m5]
  instanceTypes := #[]
  staticTypes := #[]
  resolved := Array.replicate 46 none
  statics := none }

def pool2 : Array CpInfo := pool [(1, .class_ 2), (0, u "java/io/Serializable"), (0, .class_ 4), (0, u "java/lang/Object")] 2

/-- java/io/Serializable -/
def k2 : Class := { plain "java/io/Serializable" (some 0) with
  accessFlags := 1537
  interfaces := #[]
  cf := some (fileOf pool2 1 #[] #[] 1537 3 #[] #[])
  fields := #[]
  methods := #[]
  instanceTypes := #[]
  staticTypes := #[]
  resolved := Array.replicate 7 none
  statics := none }

def pool3 : Array CpInfo := pool [(1, .class_ 2), (0, u "java/lang/Comparable"), (0, .class_ 4), (0, u "java/lang/Object")] 7

/-- java/lang/Comparable -/
def k3 : Class := { plain "java/lang/Comparable" (some 0) with
  accessFlags := 1537
  interfaces := #[]
  cf := some (fileOf pool3 1 #[] #[] 1537 3 #[] #[])
  fields := #[]
  methods := #[]
  instanceTypes := #[]
  staticTypes := #[]
  resolved := Array.replicate 12 none
  statics := none }

def pool4 : Array CpInfo := pool [(2, .class_ 4), (1, u "java/lang/CharSequence"), (42, .class_ 48), (0, u "java/lang/CharSequence$1CodePointIterator"), (10, .class_ 60), (0, u "java/lang/CharSequence$1CharIterator"), (5, .class_ 67), (0, u "java/lang/Object")] 63

/-- java/lang/CharSequence -/
def k4 : Class := { plain "java/lang/CharSequence" (some 0) with
  accessFlags := 1537
  interfaces := #[]
  cf := some (fileOf pool4 2 #[.nestMembers #[47, 59]] #[] 1537 66 #[] #[])
  fields := #[]
  methods := #[]
  instanceTypes := #[]
  staticTypes := #[]
  resolved := Array.replicate 131 none
  statics := none }

def pool5 : Array CpInfo := pool [(1, .class_ 2), (0, u "java/lang/constant/Constable"), (0, .class_ 4), (0, u "java/lang/Object")] 6

/-- java/lang/constant/Constable -/
def k5 : Class := { plain "java/lang/constant/Constable" (some 0) with
  accessFlags := 1537
  interfaces := #[]
  cf := some (fileOf pool5 1 #[] #[] 1537 3 #[] #[])
  fields := #[]
  methods := #[]
  instanceTypes := #[]
  staticTypes := #[]
  resolved := Array.replicate 11 none
  statics := none }

def pool6 : Array CpInfo := pool [(1, .class_ 2), (0, u "java/lang/constant/ConstantDesc"), (0, .class_ 4), (0, u "java/lang/Object")] 32

/-- java/lang/constant/ConstantDesc -/
def k6 : Class := { plain "java/lang/constant/ConstantDesc" (some 0) with
  accessFlags := 1537
  interfaces := #[]
  cf := some (fileOf pool6 1 #[] #[] 1537 3 #[] #[])
  fields := #[]
  methods := #[]
  instanceTypes := #[]
  staticTypes := #[]
  resolved := Array.replicate 37 none
  statics := none }

def pool7 : Array CpInfo := pool [(1, .methodref 2 3), (0, .class_ 4), (0, .nameAndType 5 6), (0, u "java/lang/Object"), (0, u "<init>"), (0, u "()V"), (0, .string 8), (0, u ""), (0, .fieldref 10 11), (0, .class_ 12), (0, .nameAndType 13 14), (0, u "java/lang/String"), (0, u "value"), (0, u "[B"), (0, .fieldref 10 16), (0, .nameAndType 17 18), (0, u "coder"), (0, u "B"), (2, u "hash"), (0, u "I"), (2, u "hashIsZero"), (0, u "Z"), (0, .methodref 10 28), (0, .nameAndType 5 29), (0, u "([CIILjava/lang/Void;)V"), (8, .fieldref 10 39), (0, .nameAndType 40 26), (0, u "COMPACT_STRINGS"), (1, .class_ 44), (1, u "java/lang/StringUTF16"), (0, u "compress"), (1, .methodref 42 48), (0, .nameAndType 49 50), (0, u "coderFromArrayLen"), (0, u "([BI)B"), (56, .class_ 109), (1, u "java/lang/StringLatin1"), (32, u "()Z"), (34, .methodref 42 178), (0, .nameAndType 45 179), (0, u "([CII)[B"), (154, u "()I"), (0, .methodref 10 336), (0, .nameAndType 17 337), (0, u "()B"), (25, u "([BI)C"), (27, u "(II)V"), (35, u "(I)C"), (64, .methodref 10 493), (0, .nameAndType 494 142), (0, u "isLatin1"), (0, .methodref 107 496), (0, .nameAndType 497 363), (0, u "charAt"), (0, .methodref 42 496), (2, u "checkIndex"), (5, u "length"), (67, .class_ 576), (0, u "java/lang/CharSequence"), (22, u "CASE_INSENSITIVE_ORDER"), (0, u "Ljava/util/Comparator;"), (409, u "([C)V"), (42, .fieldref 1054 1055), (0, .class_ 1056), (0, .nameAndType 1057 1058), (0, u "jdk/internal/util/Preconditions"), (0, u "SIOOBE_FORMATTER"), (0, u "Ljava/util/function/BiFunction;"), (0, .methodref 1054 1060), (0, .nameAndType 501 1061), (0, u "(IILjava/util/function/BiFunction;)I"), (39, u "serialPersistentFields"), (0, u "[Ljava/io/ObjectStreamField;"), (0, .class_ 1104), (0, u "java/lang/String$CaseInsensitiveComparator"), (1, .class_ 1107), (0, u "java/io/Serializable"), (0, .class_ 1109), (0, u "java/lang/Comparable"), (0, .class_ 1111), (0, u "java/lang/constant/Constable"), (0, .class_ 1113), (0, u "java/lang/constant/ConstantDesc"), (2, u "serialVersionUID"), (0, u "J"), (3, u "REPL"), (0, u "C"), (2, u "LATIN1"), (1, u "UTF16")] 323

def k7m0 : Method := { name := "<init>", desc := "()V", sig := { parameters := [], returnType := none }, accessFlags := 1, code := none }
def k7c1 : Code := { maxStack := 5, maxLocals := 2, code := jdk_42_method_3_code, exceptionTable := #[], attributes := #[] }
def k7m1 : Method := { name := "<init>", desc := "([C)V", sig := { parameters := [(.array .char)], returnType := none }, accessFlags := 1, code := some k7c1 }
def k7c2 : Code := { maxStack := 2, maxLocals := 1, code := jdk_42_method_54_code, exceptionTable := #[], attributes := #[] }
def k7m2 : Method := { name := "length", desc := "()I", sig := { parameters := [], returnType := some .int }, accessFlags := 1, code := some k7c2 }
def k7c3 : Code := { maxStack := 2, maxLocals := 2, code := jdk_42_method_56_code, exceptionTable := #[], attributes := #[] }
def k7m3 : Method := { name := "charAt", desc := "(I)C", sig := { parameters := [.int], returnType := some .char }, accessFlags := 1, code := some k7c3 }
def k7c4 : Code := { maxStack := 4, maxLocals := 6, code := jdk_42_method_149_code, exceptionTable := #[], attributes := #[] }
def k7m4 : Method := { name := "<init>", desc := "([CIILjava/lang/Void;)V", sig := { parameters := [(.array .char), .int, .int, (.object "java/lang/Void")], returnType := none }, accessFlags := 2, code := some k7c4 }
def k7c5 : Code := { maxStack := 1, maxLocals := 1, code := jdk_42_method_152_code, exceptionTable := #[], attributes := #[] }
def k7m5 : Method := { name := "coder", desc := "()B", sig := { parameters := [], returnType := some .byte }, accessFlags := 0, code := some k7c5 }
def k7c6 : Code := { maxStack := 1, maxLocals := 1, code := jdk_42_method_154_code, exceptionTable := #[], attributes := #[] }
def k7m6 : Method := { name := "isLatin1", desc := "()Z", sig := { parameters := [], returnType := some .boolean }, accessFlags := 0, code := some k7c6 }
def k7c7 : Code := { maxStack := 3, maxLocals := 2, code := jdk_42_method_155_code, exceptionTable := #[], attributes := #[] }
def k7m7 : Method := { name := "checkIndex", desc := "(II)V", sig := { parameters := [.int, .int], returnType := none }, accessFlags := 8, code := some k7c7 }
/-- java/lang/String -/
def k7 : Class := { plain "java/lang/String" (some 0) with
  accessFlags := 49
  interfaces := #[2, 3, 4, 5, 6]
  cf := some (fileOf pool7 10 #[.nestMembers #[1103]] #[{ accessFlags := 1, nameIndex := 5, descriptorIndex := 6, attributes := #[] }, { accessFlags := 1, nameIndex := 5, descriptorIndex := 1010, attributes := #[] }, { accessFlags := 1, nameIndex := 507, descriptorIndex := 334, attributes := #[] }, { accessFlags := 1, nameIndex := 497, descriptorIndex := 427, attributes := #[] }, { accessFlags := 2, nameIndex := 5, descriptorIndex := 29, attributes := #[] }, { accessFlags := 0, nameIndex := 17, descriptorIndex := 337, attributes := #[] }, { accessFlags := 0, nameIndex := 494, descriptorIndex := 142, attributes := #[] }, { accessFlags := 8, nameIndex := 501, descriptorIndex := 391, attributes := #[] }] 49 2 #[1106, 1108, 575, 1110, 1112] #[{ accessFlags := 18, nameIndex := 13, descriptorIndex := 14, attributes := #[] }, { accessFlags := 18, nameIndex := 17, descriptorIndex := 18, attributes := #[] }, { accessFlags := 2, nameIndex := 21, descriptorIndex := 22, attributes := #[] }, { accessFlags := 2, nameIndex := 25, descriptorIndex := 26, attributes := #[] }, { accessFlags := 26, nameIndex := 1116, descriptorIndex := 1117, attributes := #[] }, { accessFlags := 24, nameIndex := 40, descriptorIndex := 26, attributes := #[] }, { accessFlags := 26, nameIndex := 1101, descriptorIndex := 1102, attributes := #[] }, { accessFlags := 26, nameIndex := 1121, descriptorIndex := 1122, attributes := #[] }, { accessFlags := 25, nameIndex := 599, descriptorIndex := 600, attributes := #[] }, { accessFlags := 24, nameIndex := 1125, descriptorIndex := 18, attributes := #[] }, { accessFlags := 24, nameIndex := 1127, descriptorIndex := 18, attributes := #[] }])
  fields := #[{ name := "value", type := (.array .byte), accessFlags := 18, slot := 0, constantValue := 0 }, { name := "coder", type := .byte, accessFlags := 18, slot := 1, constantValue := 0 }, { name := "hash", type := .int, accessFlags := 2, slot := 2, constantValue := 0 }, { name := "hashIsZero", type := .boolean, accessFlags := 2, slot := 3, constantValue := 0 }, { name := "serialVersionUID", type := .long, accessFlags := 26, slot := 0, constantValue := 0 }, { name := "COMPACT_STRINGS", type := .boolean, accessFlags := 24, slot := 1, constantValue := 0 }, { name := "serialPersistentFields", type := (.array (.object "java/io/ObjectStreamField")), accessFlags := 26, slot := 2, constantValue := 0 }, { name := "REPL", type := .char, accessFlags := 26, slot := 3, constantValue := 0 }, { name := "CASE_INSENSITIVE_ORDER", type := (.object "java/util/Comparator"), accessFlags := 25, slot := 4, constantValue := 0 }, { name := "LATIN1", type := .byte, accessFlags := 24, slot := 5, constantValue := 0 }, { name := "UTF16", type := .byte, accessFlags := 24, slot := 6, constantValue := 0 }]
  methods := #[k7m0, k7m1, k7m2, k7m3, k7m4, k7m5, k7m6, k7m7]
  instanceTypes := #[(.array .byte), .byte, .int, .boolean]
  staticTypes := #[.long, .boolean, (.array (.object "java/io/ObjectStreamField")), .char, (.object "java/util/Comparator"), .byte, .byte]
  resolved := Array.replicate 1451 none
  statics := some 0 }

def pool8 : Array CpInfo := pool [(3, .class_ 4), (0, u "java/lang/String"), (1, .class_ 8), (1, u "java/lang/Object"), (0, u "<init>"), (0, u "()V"), (0, .methodref 12 13), (0, .class_ 14), (0, .nameAndType 15 16), (0, u "java/lang/StringUTF16"), (0, u "newBytesLength"), (0, u "(I)I"), (3, .integer 1073741823), (23, .fieldref 12 45), (0, .nameAndType 46 47), (0, u "$assertionsDisabled"), (0, u "Z"), (0, .methodref 12 49), (0, .nameAndType 50 51), (0, u "length"), (0, u "([B)I"), (7, .fieldref 12 60), (0, .nameAndType 61 62), (0, u "HI_BYTE_SHIFT"), (0, u "I"), (0, .fieldref 12 64), (0, .nameAndType 65 62), (0, u "LO_BYTE_SHIFT"), (1, .methodref 12 68), (0, .nameAndType 69 70), (0, u "checkIndex"), (0, u "(I[B)V"), (0, .methodref 12 72), (0, .nameAndType 73 74), (0, u "getChar"), (0, u "([BI)C"), (32, .methodref 12 108), (0, .nameAndType 109 110), (0, u "newBytesFor"), (0, u "(I)[B"), (0, .methodref 12 112), (0, .nameAndType 113 114), (0, u "putChar"), (0, u "([BII)V"), (0, .methodref 12 116), (0, .nameAndType 117 118), (0, u "compress"), (0, u "([CI[BII)I"), (0, .methodref 12 120), (0, .nameAndType 121 122), (0, u "toBytes"), (0, u "([CII)[B"), (138, u "coderFromArrayLen"), (0, u "([BI)B"), (106, .class_ 371), (1, u "java/lang/StringUTF16$LinesSpliterator"), (20, u "charAt"), (21, .methodref 3 415), (0, .nameAndType 69 416), (0, u "(II)V"), (13, u "MAX_LENGTH"), (196, .class_ 628), (0, u "java/lang/StringUTF16$CodePointsSpliterator"), (0, .class_ 630), (0, u "java/lang/StringUTF16$CharsSpliterator")] 4

def k8m0 : Method := { name := "<init>", desc := "()V", sig := { parameters := [], returnType := none }, accessFlags := 0, code := none }
def k8c1 : Code := { maxStack := 1, maxLocals := 1, code := jdk_52_method_2_code, exceptionTable := #[], attributes := #[] }
def k8m1 : Method := { name := "newBytesFor", desc := "(I)[B", sig := { parameters := [.int], returnType := some (.array .byte) }, accessFlags := 9, code := some k8c1 }
def k8c2 : Code := { maxStack := 4, maxLocals := 1, code := jdk_52_method_3_code, exceptionTable := #[], attributes := #[] }
def k8m2 : Method := { name := "newBytesLength", desc := "(I)I", sig := { parameters := [.int], returnType := some .int }, accessFlags := 9, code := some k8c2 }
def k8c3 : Code := { maxStack := 4, maxLocals := 3, code := jdk_52_method_4_code, exceptionTable := #[], attributes := #[] }
def k8m3 : Method := { name := "putChar", desc := "([BII)V", sig := { parameters := [(.array .byte), .int, .int], returnType := none }, accessFlags := 8, code := some k8c3 }
def k8c4 : Code := { maxStack := 3, maxLocals := 2, code := jdk_52_method_5_code, exceptionTable := #[], attributes := #[] }
def k8m4 : Method := { name := "getChar", desc := "([BI)C", sig := { parameters := [(.array .byte), .int], returnType := some .char }, accessFlags := 8, code := some k8c4 }
def k8c5 : Code := { maxStack := 2, maxLocals := 1, code := jdk_52_method_6_code, exceptionTable := #[], attributes := #[] }
def k8m5 : Method := { name := "length", desc := "([B)I", sig := { parameters := [(.array .byte)], returnType := some .int }, accessFlags := 9, code := some k8c5 }
def k8c6 : Code := { maxStack := 4, maxLocals := 5, code := jdk_52_method_14_code, exceptionTable := #[], attributes := #[] }
def k8m6 : Method := { name := "toBytes", desc := "([CII)[B", sig := { parameters := [(.array .char), .int, .int], returnType := some (.array .byte) }, accessFlags := 9, code := some k8c6 }
def k8c7 : Code := { maxStack := 2, maxLocals := 2, code := jdk_52_method_15_code, exceptionTable := #[], attributes := #[] }
def k8m7 : Method := { name := "coderFromArrayLen", desc := "([BI)B", sig := { parameters := [(.array .byte), .int], returnType := some .byte }, accessFlags := 8, code := some k8c7 }
def k8c8 : Code := { maxStack := 5, maxLocals := 6, code := jdk_52_method_16_code, exceptionTable := #[], attributes := #[] }
def k8m8 : Method := { name := "compress", desc := "([CII)[B", sig := { parameters := [(.array .char), .int, .int], returnType := some (.array .byte) }, accessFlags := 9, code := some k8c8 }
def k8c9 : Code := { maxStack := 3, maxLocals := 7, code := jdk_52_method_21_code, exceptionTable := #[], attributes := #[] }
def k8m9 : Method := { name := "compress", desc := "([CI[BII)I", sig := { parameters := [(.array .char), .int, (.array .byte), .int, .int], returnType := some .int }, accessFlags := 9, code := some k8c9 }
def k8c10 : Code := { maxStack := 2, maxLocals := 2, code := jdk_52_method_83_code, exceptionTable := #[], attributes := #[] }
def k8m10 : Method := { name := "charAt", desc := "([BI)C", sig := { parameters := [(.array .byte), .int], returnType := some .char }, accessFlags := 9, code := some k8c10 }
def k8c11 : Code := { maxStack := 2, maxLocals := 2, code := jdk_52_method_91_code, exceptionTable := #[], attributes := #[] }
def k8m11 : Method := { name := "checkIndex", desc := "(I[B)V", sig := { parameters := [.int, (.array .byte)], returnType := none }, accessFlags := 9, code := some k8c11 }
/-- java/lang/StringUTF16 -/
def k8 : Class := { plain "java/lang/StringUTF16" (some 0) with
  accessFlags := 48
  interfaces := #[]
  cf := some (fileOf pool8 12 #[.nestMembers #[627, 629, 369]] #[{ accessFlags := 0, nameIndex := 9, descriptorIndex := 10, attributes := #[] }, { accessFlags := 9, nameIndex := 109, descriptorIndex := 110, attributes := #[] }, { accessFlags := 9, nameIndex := 15, descriptorIndex := 16, attributes := #[] }, { accessFlags := 8, nameIndex := 113, descriptorIndex := 114, attributes := #[] }, { accessFlags := 8, nameIndex := 73, descriptorIndex := 74, attributes := #[] }, { accessFlags := 9, nameIndex := 50, descriptorIndex := 51, attributes := #[] }, { accessFlags := 9, nameIndex := 121, descriptorIndex := 122, attributes := #[] }, { accessFlags := 8, nameIndex := 261, descriptorIndex := 262, attributes := #[] }, { accessFlags := 9, nameIndex := 117, descriptorIndex := 122, attributes := #[] }, { accessFlags := 9, nameIndex := 117, descriptorIndex := 118, attributes := #[] }, { accessFlags := 9, nameIndex := 392, descriptorIndex := 74, attributes := #[] }, { accessFlags := 9, nameIndex := 69, descriptorIndex := 70, attributes := #[] }] 48 6 #[] #[{ accessFlags := 26, nameIndex := 61, descriptorIndex := 62, attributes := #[] }, { accessFlags := 26, nameIndex := 65, descriptorIndex := 62, attributes := #[] }, { accessFlags := 24, nameIndex := 430, descriptorIndex := 62, attributes := #[] }, { accessFlags := 4120, nameIndex := 46, descriptorIndex := 47, attributes := #[] }])
  fields := #[{ name := "HI_BYTE_SHIFT", type := .int, accessFlags := 26, slot := 0, constantValue := 0 }, { name := "LO_BYTE_SHIFT", type := .int, accessFlags := 26, slot := 1, constantValue := 0 }, { name := "MAX_LENGTH", type := .int, accessFlags := 24, slot := 2, constantValue := 0 }, { name := "$assertionsDisabled", type := .boolean, accessFlags := 4120, slot := 3, constantValue := 0 }]
  methods := #[k8m0, k8m1, k8m2, k8m3, k8m4, k8m5, k8m6, k8m7, k8m8, k8m9, k8m10, k8m11]
  instanceTypes := #[]
  staticTypes := #[.int, .int, .int, .boolean]
  resolved := Array.replicate 635 none
  statics := some 1 }

def pool9 : Array CpInfo := pool [(2, .class_ 4), (1, u "java/lang/Object"), (0, u "<init>"), (0, u "()V"), (0, .methodref 8 9), (0, .class_ 10), (0, .nameAndType 11 12), (0, u "java/lang/String"), (0, u "length"), (0, u "()I"), (0, .methodref 8 14), (0, .nameAndType 15 16), (0, u "charAt"), (0, u "(I)C"), (31, .class_ 49), (0, u "com/example/placer/placer/Utf8"), (5, u "asciiBytes"), (0, u "(Ljava/lang/String;[B)I")] 17

def k9m0 : Method := { name := "<init>", desc := "()V", sig := { parameters := [], returnType := none }, accessFlags := 2, code := none }
def k9c1 : Code := { maxStack := 3, maxLocals := 6, code := prog_30_method_3_code, exceptionTable := #[], attributes := #[] }
def k9m1 : Method := { name := "asciiBytes", desc := "(Ljava/lang/String;[B)I", sig := { parameters := [(.object "java/lang/String"), (.array .byte)], returnType := some .int }, accessFlags := 8, code := some k9c1 }
/-- com/example/placer/placer/Utf8 -/
def k9 : Class := { plain "com/example/placer/placer/Utf8" (some 0) with
  accessFlags := 48
  interfaces := #[]
  cf := some (fileOf pool9 48 #[] #[{ accessFlags := 2, nameIndex := 5, descriptorIndex := 6, attributes := #[] }, { accessFlags := 8, nameIndex := 55, descriptorIndex := 56, attributes := #[] }] 48 2 #[] #[])
  fields := #[]
  methods := #[k9m0, k9m1]
  instanceTypes := #[]
  staticTypes := #[]
  resolved := Array.replicate 74 none
  statics := none }

def pool10 : Array CpInfo := pool [(1, .class_ 2), (0, u "java/lang/String"), (1, .class_ 6), (1, u "java/lang/Object"), (0, u "<init>"), (0, u "()V"), (0, .methodref 1 10), (0, .nameAndType 11 12), (0, u "checkIndex"), (0, u "(II)V"), (1, .class_ 16), (1, u "java/lang/StringLatin1"), (36, u "([BI)C"), (67, u "$assertionsDisabled"), (0, u "Z"), (98, .class_ 223), (1, u "java/lang/StringLatin1$LinesSpliterator"), (28, u "charAt"), (137, .class_ 391), (0, u "java/lang/StringLatin1$CharsSpliterator")] 3

def k10m0 : Method := { name := "<init>", desc := "()V", sig := { parameters := [], returnType := none }, accessFlags := 0, code := none }
def k10c1 : Code := { maxStack := 2, maxLocals := 2, code := jdk_43_method_2_code, exceptionTable := #[], attributes := #[] }
def k10m1 : Method := { name := "charAt", desc := "([BI)C", sig := { parameters := [(.array .byte), .int], returnType := some .char }, accessFlags := 9, code := some k10c1 }
/-- java/lang/StringLatin1 -/
def k10 : Class := { plain "java/lang/StringLatin1" (some 0) with
  accessFlags := 48
  interfaces := #[]
  cf := some (fileOf pool10 14 #[.nestMembers #[390, 221]] #[{ accessFlags := 0, nameIndex := 7, descriptorIndex := 8, attributes := #[] }, { accessFlags := 9, nameIndex := 252, descriptorIndex := 53, attributes := #[] }] 48 4 #[] #[{ accessFlags := 4120, nameIndex := 121, descriptorIndex := 122, attributes := #[] }])
  fields := #[{ name := "$assertionsDisabled", type := .boolean, accessFlags := 4120, slot := 0, constantValue := 0 }]
  methods := #[k10m0, k10m1]
  instanceTypes := #[]
  staticTypes := #[.boolean]
  resolved := Array.replicate 395 none
  statics := none }

def pool11 : Array CpInfo := pool [(2, .class_ 4), (1, u "java/lang/Object"), (0, u "<init>"), (0, u "()V"), (17, .class_ 26), (1, u "jdk/internal/util/Preconditions"), (6, u "checkIndex"), (21, .class_ 56), (0, u "jdk/internal/util/Preconditions$4"), (57, .class_ 115), (0, u "jdk/internal/util/Preconditions$1"), (7, u "SIOOBE_FORMATTER"), (0, u "Ljava/util/function/BiFunction;"), (0, .class_ 126), (0, u "jdk/internal/util/Preconditions$2"), (3, u "AIOOBE_FORMATTER"), (0, .class_ 132), (0, u "jdk/internal/util/Preconditions$3"), (3, u "IOOBE_FORMATTER"), (41, u "(IILjava/util/function/BiFunction;)I")] 15

def k11m0 : Method := { name := "<init>", desc := "()V", sig := { parameters := [], returnType := none }, accessFlags := 1, code := none }
def k11c1 : Code := { maxStack := 3, maxLocals := 3, code := jdk_41_method_11_code, exceptionTable := #[], attributes := #[] }
def k11m1 : Method := { name := "checkIndex", desc := "(IILjava/util/function/BiFunction;)I", sig := { parameters := [.int, .int, (.object "java/util/function/BiFunction")], returnType := some .int }, accessFlags := 9, code := some k11c1 }
/-- jdk/internal/util/Preconditions -/
def k11 : Class := { plain "jdk/internal/util/Preconditions" (some 0) with
  accessFlags := 33
  interfaces := #[]
  cf := some (fileOf pool11 24 #[.nestMembers #[55, 131, 125, 114]] #[{ accessFlags := 1, nameIndex := 5, descriptorIndex := 6, attributes := #[] }, { accessFlags := 9, nameIndex := 33, descriptorIndex := 178, attributes := #[] }] 33 2 #[] #[{ accessFlags := 25, nameIndex := 123, descriptorIndex := 124, attributes := #[] }, { accessFlags := 25, nameIndex := 130, descriptorIndex := 124, attributes := #[] }, { accessFlags := 25, nameIndex := 136, descriptorIndex := 124, attributes := #[] }])
  fields := #[{ name := "SIOOBE_FORMATTER", type := (.object "java/util/function/BiFunction"), accessFlags := 25, slot := 0, constantValue := 0 }, { name := "AIOOBE_FORMATTER", type := (.object "java/util/function/BiFunction"), accessFlags := 25, slot := 1, constantValue := 0 }, { name := "IOOBE_FORMATTER", type := (.object "java/util/function/BiFunction"), accessFlags := 25, slot := 2, constantValue := 0 }]
  methods := #[k11m0, k11m1]
  instanceTypes := #[]
  staticTypes := #[(.object "java/util/function/BiFunction"), (.object "java/util/function/BiFunction"), (.object "java/util/function/BiFunction")]
  resolved := Array.replicate 194 none
  statics := some 2 }

def pool12 : Array CpInfo := pool [(9, u "<init>"), (6, .class_ 18), (1, u "java/lang/Object"), (0, u "()V"), (1, .class_ 23), (1, u "jdk/internal/util/ArraysSupport"), (0, u "LOG2_ARRAY_LONG_INDEX_SCALE"), (0, u "I"), (2, u "U"), (0, u "Ljdk/internal/misc/Unsafe;"), (8, u "BIG_ENDIAN"), (0, u "Z"), (8, u "LOG2_BYTE_BIT_SIZE"), (4, u "LOG2_ARRAY_INT_INDEX_SCALE"), (54, u "JLA"), (0, u "Ljdk/internal/access/JavaLangAccess;"), (11, u "LOG2_ARRAY_BOOLEAN_INDEX_SCALE"), (9, u "LOG2_ARRAY_BYTE_INDEX_SCALE"), (5, u "LOG2_ARRAY_CHAR_INDEX_SCALE"), (5, u "LOG2_ARRAY_SHORT_INDEX_SCALE"), (18, u "LOG2_ARRAY_FLOAT_INDEX_SCALE"), (24, u "LOG2_ARRAY_DOUBLE_INDEX_SCALE"), (89, u "T_BOOLEAN"), (2, u "T_CHAR"), (1, u "T_FLOAT"), (1, u "T_DOUBLE"), (1, u "T_BYTE"), (1, u "T_SHORT"), (1, u "T_INT"), (1, u "T_LONG"), (1, u "SOFT_MAX_ARRAY_LENGTH")] 83

def k12m0 : Method := { name := "<init>", desc := "()V", sig := { parameters := [], returnType := none }, accessFlags := 2, code := none }
/-- jdk/internal/util/ArraysSupport -/
def k12 : Class := { plain "jdk/internal/util/ArraysSupport" (some 0) with
  accessFlags := 33
  interfaces := #[]
  cf := some (fileOf pool12 21 #[] #[{ accessFlags := 2, nameIndex := 9, descriptorIndex := 19, attributes := #[] }] 33 16 #[] #[{ accessFlags := 24, nameIndex := 28, descriptorIndex := 29, attributes := #[] }, { accessFlags := 26, nameIndex := 38, descriptorIndex := 39, attributes := #[] }, { accessFlags := 25, nameIndex := 121, descriptorIndex := 25, attributes := #[] }, { accessFlags := 25, nameIndex := 131, descriptorIndex := 25, attributes := #[] }, { accessFlags := 25, nameIndex := 137, descriptorIndex := 25, attributes := #[] }, { accessFlags := 25, nameIndex := 143, descriptorIndex := 25, attributes := #[] }, { accessFlags := 25, nameIndex := 53, descriptorIndex := 25, attributes := #[] }, { accessFlags := 25, nameIndex := 24, descriptorIndex := 25, attributes := #[] }, { accessFlags := 25, nameIndex := 162, descriptorIndex := 25, attributes := #[] }, { accessFlags := 25, nameIndex := 187, descriptorIndex := 25, attributes := #[] }, { accessFlags := 26, nameIndex := 48, descriptorIndex := 25, attributes := #[] }, { accessFlags := 25, nameIndex := 277, descriptorIndex := 25, attributes := #[] }, { accessFlags := 25, nameIndex := 280, descriptorIndex := 25, attributes := #[] }, { accessFlags := 25, nameIndex := 282, descriptorIndex := 25, attributes := #[] }, { accessFlags := 25, nameIndex := 284, descriptorIndex := 25, attributes := #[] }, { accessFlags := 25, nameIndex := 286, descriptorIndex := 25, attributes := #[] }, { accessFlags := 25, nameIndex := 288, descriptorIndex := 25, attributes := #[] }, { accessFlags := 25, nameIndex := 290, descriptorIndex := 25, attributes := #[] }, { accessFlags := 25, nameIndex := 292, descriptorIndex := 25, attributes := #[] }, { accessFlags := 26, nameIndex := 108, descriptorIndex := 109, attributes := #[] }, { accessFlags := 25, nameIndex := 294, descriptorIndex := 25, attributes := #[] }])
  fields := #[{ name := "U", type := (.object "jdk/internal/misc/Unsafe"), accessFlags := 24, slot := 0, constantValue := 0 }, { name := "BIG_ENDIAN", type := .boolean, accessFlags := 26, slot := 1, constantValue := 0 }, { name := "LOG2_ARRAY_BOOLEAN_INDEX_SCALE", type := .int, accessFlags := 25, slot := 2, constantValue := 0 }, { name := "LOG2_ARRAY_BYTE_INDEX_SCALE", type := .int, accessFlags := 25, slot := 3, constantValue := 0 }, { name := "LOG2_ARRAY_CHAR_INDEX_SCALE", type := .int, accessFlags := 25, slot := 4, constantValue := 0 }, { name := "LOG2_ARRAY_SHORT_INDEX_SCALE", type := .int, accessFlags := 25, slot := 5, constantValue := 0 }, { name := "LOG2_ARRAY_INT_INDEX_SCALE", type := .int, accessFlags := 25, slot := 6, constantValue := 0 }, { name := "LOG2_ARRAY_LONG_INDEX_SCALE", type := .int, accessFlags := 25, slot := 7, constantValue := 0 }, { name := "LOG2_ARRAY_FLOAT_INDEX_SCALE", type := .int, accessFlags := 25, slot := 8, constantValue := 0 }, { name := "LOG2_ARRAY_DOUBLE_INDEX_SCALE", type := .int, accessFlags := 25, slot := 9, constantValue := 0 }, { name := "LOG2_BYTE_BIT_SIZE", type := .int, accessFlags := 26, slot := 10, constantValue := 0 }, { name := "T_BOOLEAN", type := .int, accessFlags := 25, slot := 11, constantValue := 0 }, { name := "T_CHAR", type := .int, accessFlags := 25, slot := 12, constantValue := 0 }, { name := "T_FLOAT", type := .int, accessFlags := 25, slot := 13, constantValue := 0 }, { name := "T_DOUBLE", type := .int, accessFlags := 25, slot := 14, constantValue := 0 }, { name := "T_BYTE", type := .int, accessFlags := 25, slot := 15, constantValue := 0 }, { name := "T_SHORT", type := .int, accessFlags := 25, slot := 16, constantValue := 0 }, { name := "T_INT", type := .int, accessFlags := 25, slot := 17, constantValue := 0 }, { name := "T_LONG", type := .int, accessFlags := 25, slot := 18, constantValue := 0 }, { name := "JLA", type := (.object "jdk/internal/access/JavaLangAccess"), accessFlags := 26, slot := 19, constantValue := 0 }, { name := "SOFT_MAX_ARRAY_LENGTH", type := .int, accessFlags := 25, slot := 20, constantValue := 0 }]
  methods := #[k12m0]
  instanceTypes := #[]
  staticTypes := #[(.object "jdk/internal/misc/Unsafe"), .boolean, .int, .int, .int, .int, .int, .int, .int, .int, .int, .int, .int, .int, .int, .int, .int, .int, .int, (.object "jdk/internal/access/JavaLangAccess"), .int]
  resolved := Array.replicate 378 none
  statics := none }

def pool13 : Array CpInfo := pool [(1, u "java/lang/Cloneable"), (0, .class_ 1), (0, u "java/lang/Object"), (0, .class_ 3)] 3

/-- java/lang/Cloneable -/
def k13 : Class := { plain "java/lang/Cloneable" (some 0) with
  accessFlags := 1537
  interfaces := #[]
  cf := some (fileOf pool13 2 #[] #[] 1537 4 #[] #[])
  fields := #[]
  methods := #[]
  instanceTypes := #[]
  staticTypes := #[]
  resolved := Array.replicate 8 none
  statics := none }

/-- the primitive byte -/
def k14 : Class := { plain "byte" none with kind := .primitive 'B', accessFlags := 0x411 }
/-- [B -/
def k15 : Class := { plain "[B" (some 0) with kind := .array 14 .byte, interfaces := #[13, 2], accessFlags := 1041 }

/-- the primitive char -/
def k16 : Class := { plain "char" none with kind := .primitive 'C', accessFlags := 0x411 }
/-- [C -/
def k17 : Class := { plain "[C" (some 0) with kind := .array 16 .char, interfaces := #[13, 2], accessFlags := 1041 }

def heap : Heap := #[{ cls := 7, slots := #[.long 0, .int 1, .null, .int 0, .null, .int 0, .int 0], vm := .statics 7 },
  { cls := 8, slots := #[.int 0, .int 8, .int 0, .int 1], vm := .statics 8 },
  { cls := 11, slots := #[.null, .null, .null], vm := .statics 11 }]
def classes : Array Class := #[k0, k1, k2, k3, k4, k5, k6, k7, k8, k9, k10, k11, k12, k13, k14, k15, k16, k17]
def interned : List (Array UInt16 × Addr) := []
def slotsUsed : Nat := 14
def theMethod : MethodId := ⟨1, 5⟩
def args0 : Array Value := #[.int 70000, .int 6, .int 7, .int 11, .int 77]
def aboutOver (below : List Frame) : State where
  vm := { classes := classes, interned := interned.toArray }
  heap := heap
  slotsUsed := slotsUsed
  threads := #[{ frames := .invoking theMethod args0 :: below }]
def below0 : List Frame := [.native { method := ⟨0, 0⟩, args := #[] }]
def about1 : State := aboutOver below0
def p0 : Program := .bare "" "" ""
def e0 : Env := launch0.env 0 0 0
theorem w_frames : about1.frames = Frame.invoking theMethod args0 :: below0 := rfl
set_option maxRecDepth 65536 in
theorem w_args : argsFit about1.vm theMethod args0 = true := by decide +kernel
set_option maxRecDepth 65536 in
theorem w_heap : heapFits about1 = true := by decide +kernel
set_option maxRecDepth 65536 in
theorem w_runnable : about1.curStatus? = some .runnable := by decide +kernel
set_option maxRecDepth 65536 in
theorem w_alone : about1.alone = true := by decide +kernel
set_option maxRecDepth 65536 in
theorem w_named : about1.methodNamed? x = some theMethod := by decide +kernel
set_option maxRecDepth 65536 in
theorem w_hears : about1.hears theMethod below0 = true := by decide +kernel
set_option maxRecDepth 65536 in
theorem w_ripe : about1.ripe theMethod args0 below0 = true := by decide +kernel
theorem w_running : about1.status = .running := rfl
set_option maxRecDepth 65536 in
theorem w_room : about1.hasRoom e0.platform room_1 = true :=
  launch0.hasRoom_least _ room_1 (by decide +kernel) (by decide +kernel) (by decide +kernel) (by decide +kernel) (by decide +kernel) (by decide +kernel)
theorem allAtoms_all (ts : List Jvm.Cond) (a : Array Jvm.Value) (st : Jvm.State) : (allAtoms ts).before a st = ts.all (fun c => c.before a st) := by
  induction ts with
  | nil => rfl
  | cons c t ih =>
    show (Jvm.Cond.and c (allAtoms t)).before a st = _
    rw [Jvm.Cond.before_and, ih, List.all_cons]
def words1 : List Jvm.Cond := Jvm.Cond.code x code maxLocals ret :: tables_1
/-- a 'code' word, met by the world's own term for the bytes: nothing is compared byte by byte -/
theorem code_word {y : MethodName} {bytes : ByteArray} {mx : Nat} {rt : Option FieldType} {a : Array Value} {s : State} {m : MethodId} {meth : Method} {c : Code} (h1 : s.methodNamed? y = some m) (h2 : s.vm.method? m = some meth) (h3 : meth.code = some c) (h4 : c.code = bytes)
    (h5 : (c.maxLocals == mx && c.exceptionTable.isEmpty && decide (c.maxStack ≤ mostOperands) && decide (meth.sig.returnType = rt) && !meth.locks && decide (parseMethodDescriptor y.desc = some meth.sig)) = true) : (Jvm.Cond.code y bytes mx rt).before a s = true := by
  simp only [Bool.and_eq_true, beq_iff_eq, Bool.not_eq_true', decide_eq_true_eq] at h5
  obtain ⟨⟨⟨⟨⟨g1, g2⟩, g3⟩, g4⟩, g5⟩, g6⟩ := h5
  simp [Cond.before, Cond.holds, Cond.value, h1, h2, h3, h4, g1, g2, g3, g4, g5, g6]
def isCode : Jvm.Cond → Bool
  | .code _ _ _ _ => true
  | _ => false
theorem all_split {L : List Jvm.Cond} {P : Jvm.Cond → Bool} (h1 : L.all (fun c => isCode c || P c) = true) (h2 : ∀ c ∈ L.filter isCode, P c = true) : L.all P = true := by
  refine List.all_eq_true.mpr fun c hc => ?_
  have h := List.all_eq_true.mp h1 c hc
  rcases Bool.eq_false_or_eq_true (isCode c) with hi | hi
  · exact h2 c (List.mem_filter.mpr ⟨hc, hi⟩)
  · simpa [hi] using h
set_option maxRecDepth 65536 in
theorem w_c0 : (Jvm.Cond.code x code maxLocals ret).before args0 about1 = true := code_word (m := ⟨1, 5⟩) (meth := k1m5) (c := k1c5) (by decide +kernel) rfl rfl rfl (by decide +kernel)
set_option maxRecDepth 65536 in
theorem w_c1 : (Jvm.Cond.code ({ cls := "com/example/placer/placer/Utf8AsciiBytesPinLaw", name := "draw", desc := "(I)C" } : Jvm.MethodName) method_2_code (2 : Nat) (Option.some Jvm.ClassFile.FieldType.char)).before args0 about1 = true := code_word (m := ⟨1, 1⟩) (meth := k1m1) (c := k1c1) (by decide +kernel) rfl rfl rfl (by decide +kernel)
set_option maxRecDepth 65536 in
theorem w_c2 : (Jvm.Cond.code ({ cls := "com/example/placer/placer/Utf8AsciiBytesPinLaw", name := "key", desc := "(ICCC)Ljava/lang/String;" } : Jvm.MethodName) method_3_code (5 : Nat) (Option.some (Jvm.ClassFile.FieldType.object "java/lang/String"))).before args0 about1 = true := code_word (m := ⟨1, 2⟩) (meth := k1m2) (c := k1c2) (by decide +kernel) rfl rfl rfl (by decide +kernel)
set_option maxRecDepth 65536 in
theorem w_c3 : (Jvm.Cond.code ({ cls := "java/lang/String", name := "<init>", desc := "([C)V" } : Jvm.MethodName) jdk_42_method_3_code (2 : Nat) (Option.none : Option Jvm.ClassFile.FieldType)).before args0 about1 = true := code_word (m := ⟨7, 1⟩) (meth := k7m1) (c := k7c1) (by decide +kernel) rfl rfl rfl (by decide +kernel)
set_option maxRecDepth 65536 in
theorem w_c4 : (Jvm.Cond.code ({ cls := "java/lang/String", name := "<init>", desc := "([CIILjava/lang/Void;)V" } : Jvm.MethodName) jdk_42_method_149_code (6 : Nat) (Option.none : Option Jvm.ClassFile.FieldType)).before args0 about1 = true := code_word (m := ⟨7, 4⟩) (meth := k7m4) (c := k7c4) (by decide +kernel) rfl rfl rfl (by decide +kernel)
set_option maxRecDepth 65536 in
theorem w_c5 : (Jvm.Cond.code ({ cls := "java/lang/Object", name := "<init>", desc := "()V" } : Jvm.MethodName) object_method_1_code (1 : Nat) (Option.none : Option Jvm.ClassFile.FieldType)).before args0 about1 = true := code_word (m := ⟨0, 0⟩) (meth := k0m0) (c := k0c0) (by decide +kernel) rfl rfl rfl (by decide +kernel)
set_option maxRecDepth 65536 in
theorem w_c6 : (Jvm.Cond.code ({ cls := "java/lang/StringUTF16", name := "compress", desc := "([CII)[B" } : Jvm.MethodName) jdk_52_method_16_code (6 : Nat) (Option.some (Jvm.ClassFile.FieldType.array Jvm.ClassFile.FieldType.byte))).before args0 about1 = true := code_word (m := ⟨8, 8⟩) (meth := k8m8) (c := k8c8) (by decide +kernel) rfl rfl rfl (by decide +kernel)
set_option maxRecDepth 65536 in
theorem w_c7 : (Jvm.Cond.code ({ cls := "java/lang/StringUTF16", name := "compress", desc := "([CI[BII)I" } : Jvm.MethodName) jdk_52_method_21_code (7 : Nat) (Option.some Jvm.ClassFile.FieldType.int)).before args0 about1 = true := code_word (m := ⟨8, 9⟩) (meth := k8m9) (c := k8c9) (by decide +kernel) rfl rfl rfl (by decide +kernel)
set_option maxRecDepth 65536 in
theorem w_c8 : (Jvm.Cond.code ({ cls := "java/lang/StringUTF16", name := "coderFromArrayLen", desc := "([BI)B" } : Jvm.MethodName) jdk_52_method_15_code (2 : Nat) (Option.some Jvm.ClassFile.FieldType.byte)).before args0 about1 = true := code_word (m := ⟨8, 7⟩) (meth := k8m7) (c := k8c7) (by decide +kernel) rfl rfl rfl (by decide +kernel)
set_option maxRecDepth 65536 in
theorem w_c9 : (Jvm.Cond.code ({ cls := "com/example/placer/placer/Utf8AsciiBytesPinLaw", name := "arr", desc := "(I)[B" } : Jvm.MethodName) method_4_code (1 : Nat) (Option.some (Jvm.ClassFile.FieldType.array Jvm.ClassFile.FieldType.byte))).before args0 about1 = true := code_word (m := ⟨1, 3⟩) (meth := k1m3) (c := k1c3) (by decide +kernel) rfl rfl rfl (by decide +kernel)
set_option maxRecDepth 65536 in
theorem w_c10 : (Jvm.Cond.code ({ cls := "com/example/placer/placer/Utf8", name := "asciiBytes", desc := "(Ljava/lang/String;[B)I" } : Jvm.MethodName) prog_30_method_3_code (6 : Nat) (Option.some Jvm.ClassFile.FieldType.int)).before args0 about1 = true := code_word (m := ⟨9, 1⟩) (meth := k9m1) (c := k9c1) (by decide +kernel) rfl rfl rfl (by decide +kernel)
set_option maxRecDepth 65536 in
theorem w_c11 : (Jvm.Cond.code ({ cls := "java/lang/String", name := "length", desc := "()I" } : Jvm.MethodName) jdk_42_method_54_code (1 : Nat) (Option.some Jvm.ClassFile.FieldType.int)).before args0 about1 = true := code_word (m := ⟨7, 2⟩) (meth := k7m2) (c := k7c2) (by decide +kernel) rfl rfl rfl (by decide +kernel)
set_option maxRecDepth 65536 in
theorem w_c12 : (Jvm.Cond.code ({ cls := "java/lang/String", name := "coder", desc := "()B" } : Jvm.MethodName) jdk_42_method_152_code (1 : Nat) (Option.some Jvm.ClassFile.FieldType.byte)).before args0 about1 = true := code_word (m := ⟨7, 5⟩) (meth := k7m5) (c := k7c5) (by decide +kernel) rfl rfl rfl (by decide +kernel)
set_option maxRecDepth 65536 in
theorem w_c13 : (Jvm.Cond.code ({ cls := "java/lang/String", name := "charAt", desc := "(I)C" } : Jvm.MethodName) jdk_42_method_56_code (2 : Nat) (Option.some Jvm.ClassFile.FieldType.char)).before args0 about1 = true := code_word (m := ⟨7, 3⟩) (meth := k7m3) (c := k7c3) (by decide +kernel) rfl rfl rfl (by decide +kernel)
set_option maxRecDepth 65536 in
theorem w_c14 : (Jvm.Cond.code ({ cls := "java/lang/String", name := "isLatin1", desc := "()Z" } : Jvm.MethodName) jdk_42_method_154_code (1 : Nat) (Option.some Jvm.ClassFile.FieldType.boolean)).before args0 about1 = true := code_word (m := ⟨7, 6⟩) (meth := k7m6) (c := k7c6) (by decide +kernel) rfl rfl rfl (by decide +kernel)
set_option maxRecDepth 65536 in
theorem w_c15 : (Jvm.Cond.code ({ cls := "java/lang/StringLatin1", name := "charAt", desc := "([BI)C" } : Jvm.MethodName) jdk_43_method_2_code (2 : Nat) (Option.some Jvm.ClassFile.FieldType.char)).before args0 about1 = true := code_word (m := ⟨10, 1⟩) (meth := k10m1) (c := k10c1) (by decide +kernel) rfl rfl rfl (by decide +kernel)
set_option maxRecDepth 65536 in
theorem w_c16 : (Jvm.Cond.code ({ cls := "java/lang/String", name := "checkIndex", desc := "(II)V" } : Jvm.MethodName) jdk_42_method_155_code (2 : Nat) (Option.none : Option Jvm.ClassFile.FieldType)).before args0 about1 = true := code_word (m := ⟨7, 7⟩) (meth := k7m7) (c := k7c7) (by decide +kernel) rfl rfl rfl (by decide +kernel)
set_option maxRecDepth 65536 in
theorem w_c17 : (Jvm.Cond.code ({ cls := "jdk/internal/util/Preconditions", name := "checkIndex", desc := "(IILjava/util/function/BiFunction;)I" } : Jvm.MethodName) jdk_41_method_11_code (3 : Nat) (Option.some Jvm.ClassFile.FieldType.int)).before args0 about1 = true := code_word (m := ⟨11, 1⟩) (meth := k11m1) (c := k11c1) (by decide +kernel) rfl rfl rfl (by decide +kernel)
set_option maxRecDepth 65536 in
theorem w_c18 : (Jvm.Cond.code ({ cls := "com/example/placer/placer/Utf8AsciiBytesPinLaw", name := "at", desc := "([BIICB)Z" } : Jvm.MethodName) method_5_code (5 : Nat) (Option.some Jvm.ClassFile.FieldType.boolean)).before args0 about1 = true := code_word (m := ⟨1, 4⟩) (meth := k1m4) (c := k1c4) (by decide +kernel) rfl rfl rfl (by decide +kernel)
set_option maxRecDepth 65536 in
theorem w_c19 : (Jvm.Cond.code ({ cls := "java/lang/StringUTF16", name := "toBytes", desc := "([CII)[B" } : Jvm.MethodName) jdk_52_method_14_code (5 : Nat) (Option.some (Jvm.ClassFile.FieldType.array Jvm.ClassFile.FieldType.byte))).before args0 about1 = true := code_word (m := ⟨8, 6⟩) (meth := k8m6) (c := k8c6) (by decide +kernel) rfl rfl rfl (by decide +kernel)
set_option maxRecDepth 65536 in
theorem w_c20 : (Jvm.Cond.code ({ cls := "java/lang/StringUTF16", name := "newBytesFor", desc := "(I)[B" } : Jvm.MethodName) jdk_52_method_2_code (1 : Nat) (Option.some (Jvm.ClassFile.FieldType.array Jvm.ClassFile.FieldType.byte))).before args0 about1 = true := code_word (m := ⟨8, 1⟩) (meth := k8m1) (c := k8c1) (by decide +kernel) rfl rfl rfl (by decide +kernel)
set_option maxRecDepth 65536 in
theorem w_c21 : (Jvm.Cond.code ({ cls := "java/lang/StringUTF16", name := "newBytesLength", desc := "(I)I" } : Jvm.MethodName) jdk_52_method_3_code (1 : Nat) (Option.some Jvm.ClassFile.FieldType.int)).before args0 about1 = true := code_word (m := ⟨8, 2⟩) (meth := k8m2) (c := k8c2) (by decide +kernel) rfl rfl rfl (by decide +kernel)
set_option maxRecDepth 65536 in
theorem w_c22 : (Jvm.Cond.code ({ cls := "java/lang/StringUTF16", name := "putChar", desc := "([BII)V" } : Jvm.MethodName) jdk_52_method_4_code (3 : Nat) (Option.none : Option Jvm.ClassFile.FieldType)).before args0 about1 = true := code_word (m := ⟨8, 3⟩) (meth := k8m3) (c := k8c3) (by decide +kernel) rfl rfl rfl (by decide +kernel)
set_option maxRecDepth 65536 in
theorem w_c23 : (Jvm.Cond.code ({ cls := "java/lang/StringUTF16", name := "getChar", desc := "([BI)C" } : Jvm.MethodName) jdk_52_method_5_code (2 : Nat) (Option.some Jvm.ClassFile.FieldType.char)).before args0 about1 = true := code_word (m := ⟨8, 4⟩) (meth := k8m4) (c := k8c4) (by decide +kernel) rfl rfl rfl (by decide +kernel)
set_option maxRecDepth 65536 in
theorem w_c24 : (Jvm.Cond.code ({ cls := "java/lang/StringUTF16", name := "charAt", desc := "([BI)C" } : Jvm.MethodName) jdk_52_method_83_code (2 : Nat) (Option.some Jvm.ClassFile.FieldType.char)).before args0 about1 = true := code_word (m := ⟨8, 10⟩) (meth := k8m10) (c := k8c10) (by decide +kernel) rfl rfl rfl (by decide +kernel)
set_option maxRecDepth 65536 in
theorem w_c25 : (Jvm.Cond.code ({ cls := "java/lang/StringUTF16", name := "checkIndex", desc := "(I[B)V" } : Jvm.MethodName) jdk_52_method_91_code (2 : Nat) (Option.none : Option Jvm.ClassFile.FieldType)).before args0 about1 = true := code_word (m := ⟨8, 11⟩) (meth := k8m11) (c := k8c11) (by decide +kernel) rfl rfl rfl (by decide +kernel)
set_option maxRecDepth 65536 in
theorem w_c26 : (Jvm.Cond.code ({ cls := "java/lang/StringUTF16", name := "length", desc := "([B)I" } : Jvm.MethodName) jdk_52_method_6_code (1 : Nat) (Option.some Jvm.ClassFile.FieldType.int)).before args0 about1 = true := code_word (m := ⟨8, 5⟩) (meth := k8m5) (c := k8c5) (by decide +kernel) rfl rfl rfl (by decide +kernel)
def codes1 : List Jvm.Cond := [Jvm.Cond.code x code maxLocals ret, Jvm.Cond.code ({ cls := "com/example/placer/placer/Utf8AsciiBytesPinLaw", name := "draw", desc := "(I)C" } : Jvm.MethodName) method_2_code (2 : Nat) (Option.some Jvm.ClassFile.FieldType.char), Jvm.Cond.code ({ cls := "com/example/placer/placer/Utf8AsciiBytesPinLaw", name := "key", desc := "(ICCC)Ljava/lang/String;" } : Jvm.MethodName) method_3_code (5 : Nat) (Option.some (Jvm.ClassFile.FieldType.object "java/lang/String")), Jvm.Cond.code ({ cls := "java/lang/String", name := "<init>", desc := "([C)V" } : Jvm.MethodName) jdk_42_method_3_code (2 : Nat) (Option.none : Option Jvm.ClassFile.FieldType), Jvm.Cond.code ({ cls := "java/lang/String", name := "<init>", desc := "([CIILjava/lang/Void;)V" } : Jvm.MethodName) jdk_42_method_149_code (6 : Nat) (Option.none : Option Jvm.ClassFile.FieldType), Jvm.Cond.code ({ cls := "java/lang/Object", name := "<init>", desc := "()V" } : Jvm.MethodName) object_method_1_code (1 : Nat) (Option.none : Option Jvm.ClassFile.FieldType), Jvm.Cond.code ({ cls := "java/lang/StringUTF16", name := "compress", desc := "([CII)[B" } : Jvm.MethodName) jdk_52_method_16_code (6 : Nat) (Option.some (Jvm.ClassFile.FieldType.array Jvm.ClassFile.FieldType.byte)), Jvm.Cond.code ({ cls := "java/lang/StringUTF16", name := "compress", desc := "([CI[BII)I" } : Jvm.MethodName) jdk_52_method_21_code (7 : Nat) (Option.some Jvm.ClassFile.FieldType.int), Jvm.Cond.code ({ cls := "java/lang/StringUTF16", name := "coderFromArrayLen", desc := "([BI)B" } : Jvm.MethodName) jdk_52_method_15_code (2 : Nat) (Option.some Jvm.ClassFile.FieldType.byte), Jvm.Cond.code ({ cls := "com/example/placer/placer/Utf8AsciiBytesPinLaw", name := "arr", desc := "(I)[B" } : Jvm.MethodName) method_4_code (1 : Nat) (Option.some (Jvm.ClassFile.FieldType.array Jvm.ClassFile.FieldType.byte)), Jvm.Cond.code ({ cls := "com/example/placer/placer/Utf8", name := "asciiBytes", desc := "(Ljava/lang/String;[B)I" } : Jvm.MethodName) prog_30_method_3_code (6 : Nat) (Option.some Jvm.ClassFile.FieldType.int), Jvm.Cond.code ({ cls := "java/lang/String", name := "length", desc := "()I" } : Jvm.MethodName) jdk_42_method_54_code (1 : Nat) (Option.some Jvm.ClassFile.FieldType.int), Jvm.Cond.code ({ cls := "java/lang/String", name := "coder", desc := "()B" } : Jvm.MethodName) jdk_42_method_152_code (1 : Nat) (Option.some Jvm.ClassFile.FieldType.byte), Jvm.Cond.code ({ cls := "java/lang/String", name := "charAt", desc := "(I)C" } : Jvm.MethodName) jdk_42_method_56_code (2 : Nat) (Option.some Jvm.ClassFile.FieldType.char), Jvm.Cond.code ({ cls := "java/lang/String", name := "isLatin1", desc := "()Z" } : Jvm.MethodName) jdk_42_method_154_code (1 : Nat) (Option.some Jvm.ClassFile.FieldType.boolean), Jvm.Cond.code ({ cls := "java/lang/StringLatin1", name := "charAt", desc := "([BI)C" } : Jvm.MethodName) jdk_43_method_2_code (2 : Nat) (Option.some Jvm.ClassFile.FieldType.char), Jvm.Cond.code ({ cls := "java/lang/String", name := "checkIndex", desc := "(II)V" } : Jvm.MethodName) jdk_42_method_155_code (2 : Nat) (Option.none : Option Jvm.ClassFile.FieldType), Jvm.Cond.code ({ cls := "jdk/internal/util/Preconditions", name := "checkIndex", desc := "(IILjava/util/function/BiFunction;)I" } : Jvm.MethodName) jdk_41_method_11_code (3 : Nat) (Option.some Jvm.ClassFile.FieldType.int), Jvm.Cond.code ({ cls := "com/example/placer/placer/Utf8AsciiBytesPinLaw", name := "at", desc := "([BIICB)Z" } : Jvm.MethodName) method_5_code (5 : Nat) (Option.some Jvm.ClassFile.FieldType.boolean), Jvm.Cond.code ({ cls := "java/lang/StringUTF16", name := "toBytes", desc := "([CII)[B" } : Jvm.MethodName) jdk_52_method_14_code (5 : Nat) (Option.some (Jvm.ClassFile.FieldType.array Jvm.ClassFile.FieldType.byte)), Jvm.Cond.code ({ cls := "java/lang/StringUTF16", name := "newBytesFor", desc := "(I)[B" } : Jvm.MethodName) jdk_52_method_2_code (1 : Nat) (Option.some (Jvm.ClassFile.FieldType.array Jvm.ClassFile.FieldType.byte)), Jvm.Cond.code ({ cls := "java/lang/StringUTF16", name := "newBytesLength", desc := "(I)I" } : Jvm.MethodName) jdk_52_method_3_code (1 : Nat) (Option.some Jvm.ClassFile.FieldType.int), Jvm.Cond.code ({ cls := "java/lang/StringUTF16", name := "putChar", desc := "([BII)V" } : Jvm.MethodName) jdk_52_method_4_code (3 : Nat) (Option.none : Option Jvm.ClassFile.FieldType), Jvm.Cond.code ({ cls := "java/lang/StringUTF16", name := "getChar", desc := "([BI)C" } : Jvm.MethodName) jdk_52_method_5_code (2 : Nat) (Option.some Jvm.ClassFile.FieldType.char), Jvm.Cond.code ({ cls := "java/lang/StringUTF16", name := "charAt", desc := "([BI)C" } : Jvm.MethodName) jdk_52_method_83_code (2 : Nat) (Option.some Jvm.ClassFile.FieldType.char), Jvm.Cond.code ({ cls := "java/lang/StringUTF16", name := "checkIndex", desc := "(I[B)V" } : Jvm.MethodName) jdk_52_method_91_code (2 : Nat) (Option.none : Option Jvm.ClassFile.FieldType), Jvm.Cond.code ({ cls := "java/lang/StringUTF16", name := "length", desc := "([B)I" } : Jvm.MethodName) jdk_52_method_6_code (1 : Nat) (Option.some Jvm.ClassFile.FieldType.int)]
set_option maxRecDepth 65536 in
theorem codes_eq : words1.filter isCode = codes1 := rfl
theorem w_codes : ∀ c ∈ words1.filter isCode, c.before args0 about1 = true := by
  rw [codes_eq]
  intro c hc
  simp only [codes1, List.mem_cons, List.not_mem_nil, or_false] at hc
  rcases hc with rfl | rfl | rfl | rfl | rfl | rfl | rfl | rfl | rfl | rfl | rfl | rfl | rfl | rfl | rfl | rfl | rfl | rfl | rfl | rfl | rfl | rfl | rfl | rfl | rfl | rfl | rfl
  · exact w_c0
  · exact w_c1
  · exact w_c2
  · exact w_c3
  · exact w_c4
  · exact w_c5
  · exact w_c6
  · exact w_c7
  · exact w_c8
  · exact w_c9
  · exact w_c10
  · exact w_c11
  · exact w_c12
  · exact w_c13
  · exact w_c14
  · exact w_c15
  · exact w_c16
  · exact w_c17
  · exact w_c18
  · exact w_c19
  · exact w_c20
  · exact w_c21
  · exact w_c22
  · exact w_c23
  · exact w_c24
  · exact w_c25
  · exact w_c26
set_option maxRecDepth 65536 in
theorem w_t1 : (words1.take 24).all (fun c => isCode c || c.before args0 about1) = true := by decide +kernel
set_option maxRecDepth 65536 in
theorem w_t2 : ((words1.drop 24).take 24).all (fun c => isCode c || c.before args0 about1) = true := by decide +kernel
set_option maxRecDepth 65536 in
theorem w_t3 : (((words1.drop 24).drop 24).take 24).all (fun c => isCode c || c.before args0 about1) = true := by decide +kernel
set_option maxRecDepth 65536 in
theorem w_t4 : ((((words1.drop 24).drop 24).drop 24).take 24).all (fun c => isCode c || c.before args0 about1) = true := by decide +kernel
set_option maxRecDepth 65536 in
theorem w_t5 : ((((words1.drop 24).drop 24).drop 24).drop 24).all (fun c => isCode c || c.before args0 about1) = true := by decide +kernel
theorem w_tables : (allAtoms (Jvm.Cond.code x code maxLocals ret :: tables_1)).before args0 about1 = true := by
  rw [allAtoms_all]
  show words1.all (fun c => c.before args0 about1) = true
  refine all_split ?_ w_codes
  rw [← List.take_append_drop 24 words1, List.all_append, w_t1, ← List.take_append_drop 24 (words1.drop 24), List.all_append, w_t2, ← List.take_append_drop 24 ((words1.drop 24).drop 24), List.all_append, w_t3, ← List.take_append_drop 24 (((words1.drop 24).drop 24).drop 24), List.all_append, w_t4, w_t5]
  rfl
set_option maxRecDepth 65536 in
theorem w_rest : rest_1_c.before args0 about1 = true := by decide +kernel
set_option maxRecDepth 65536 in
theorem w_case : (Jvm.Cond.and given_1 narrow_1).before args0 about1 = true := by decide +kernel
set_option maxRecDepth 65536 in
theorem w_consts : constsHeld consts_1 about1 := Jvm.Lit.constsHeldB_iff.mp (by decide +kernel)
theorem w_applies : (headSpec (Jvm.Cond.code x code maxLocals ret :: tables_1) room_1).applies x e0.platform about1 = true :=
  (Spec.applies_iff w_frames).mpr ⟨w_running, w_runnable, w_alone, w_named, w_hears, w_ripe, w_room, w_tables⟩
theorem atStart : AtStart classFile x code maxLocals ret World_1 tables_1 room_1 Calls_1 rest_1 Pre_1 launch0 p0 e0 about1 theMethod args0 below0 :=
  ⟨lists_1, trivial, launch0.admits_env _ _ _, launch0.least_env, fairChoices_fair.cas, fairChoices_fair.clock, w_frames, w_args, w_heap, w_applies, ⟨w_consts, trivial⟩, w_rest, w_case⟩
end start1
theorem witness_1 : WitnessClaimed_1 := ⟨start1.p0, start1.e0, start1.about1, start1.theMethod, start1.args0, start1.below0, start1.atStart⟩
end Jvm.Pilot.@@N@@
