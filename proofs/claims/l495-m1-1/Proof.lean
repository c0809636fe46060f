import JvmDerived
import JvmDerived.Pilot.@@N@@Statement
import JvmDerived.Pilot.@@N@@Code
set_option linter.unusedVariables false
set_option linter.unusedSimpArgs false
@@BLOCK:NumsL.lean.txt@@
namespace Jvm.RoadKit
open Sem ClassFile Op Lib Jvm.Stand Jvm.Free Jvm.LawKit
section New
variable {p : Program} {l : Launch} {e : Env} {R : Room} {s : State} {m : MethodId} {args : Array Value} {below : List Frame} {meth : Method} {c : Code} {T : State} {locs : List Loc} {cells slots : Nat}
theorem retI (X : Stand p l e R s m args below meth c T locs cells slots) (hx : p.tables.exec = Jvm.exec) {pc : Nat} {Ls : Array Slot} {z : Int32} {rest : List Value} (hret : meth.sig.returnType = some .int) (hd : decode c.code pc = .ok (.ireturn, 1)) {fs : List Frame}
    (hl : ∀ (f : JFrame) (acts : List Action), f.method = m → f.locked = none → f.entered = [] → (doReturn e (T.setTop f) acts (some (.int z))).1 = T.setFrames fs) : Steps p.tables e below (T.setTop (mkF m pc Ls (.int z :: rest))) (T.setFrames fs) := by
  have hm' : T.vm.method? m = some meth := X.method'
  have hn : narrow .int (.int z) = .int z := rfl
  show Steps p.tables e below (T.setTop { method := m, pc := pc, locals := Ls, stack := _ :: rest, locked := none }) _
  jvm_step X.here [X.here.top, hx, hd, hm', hret, hn]
  first | (intro acts; rw [hl _ acts rfl rfl rfl]) | rw [hl _ _ rfl rfl rfl]
  exact Steps.refl _

/-- from A the run ends, and R holds of the end -/
def own_Fin (tb : Tables) (e : Env) (below : List Frame) (R : State → Outcome → Prop) (A : State) : Prop := ∃ t o, Steps tb e below A t ∧ R t o
def own_R (s : State) (below : List Frame) (Q : Option Value → Heap → List Loc → Prop) (C S : Nat) (t : State) (o : Outcome) : Prop :=
  t.status = .running ∧ Ended t below o ∧ ∃ v L, o = .returned v ∧ Q v t.heap L ∧ FrameEnd s o t L C S
theorem own_pre {tb : Tables} {e : Env} {below : List Frame} {R : State → Outcome → Prop} {A A' : State} (h : ∀ t, Steps tb e below A' t → Steps tb e below A t) (k : own_Fin tb e below R A') : own_Fin tb e below R A := by
  obtain ⟨t, o, h1, h2⟩ := k; exact ⟨t, o, h t h1, h2⟩
theorem own_start {tb : Tables} {e : Env} {below : List Frame} {s T : State} {Q : Option Value → Heap → List Loc → Prop} {C S : Nat} {g g' : JFrame} (q : g = g') (k : own_Fin tb e below (own_R s below Q C S) (T.setTop g')) :
    ∃ s₂ o, Steps tb e below (T.setTop g) s₂ ∧ s₂.status = .running ∧ Ended s₂ below o ∧ ∃ v L, o = .returned v ∧ Q v s₂.heap L ∧ FrameEnd s o s₂ L C S := by
  subst q; exact k
theorem own_ret {Q : Option Value → Heap → List Loc → Prop} {C S : Nat} {A : State} {v : Option Value} (X : Stand p l e R s m args below meth c T locs cells slots) (hv : meth.sig.returnType = none → v = none) (hlocks : meth.locks = false) (hc : cells ≤ C) (hs : slots ≤ S) (hQ : Q v T.heap locs)
    (hstep : ∀ fs, (∀ (f : JFrame) (acts : List Action), f.method = m → f.locked = none → f.entered = [] → (doReturn e (T.setTop f) acts v).1 = T.setFrames fs) → Steps p.tables e below A (T.setFrames fs)) : own_Fin p.tables e below (own_R s below Q C S) A := by
  obtain ⟨fs, hr, hrun, hended, hW, hsame⟩ := X.leave hv hlocks
  exact ⟨_, _, hstep fs hr, hrun, hended, _, _, rfl, hQ, ⟨_, rfl⟩, hW, hsame.mono hc hs⟩
theorem own_ltN {a b : Nat} (h : a < b) : @LT.lt Nat instLTNat a b := h
theorem own_leN {a b : Nat} (h : a ≤ b) : @LE.le Nat instLENat a b := h
theorem own_neN {a b : Nat} (h : @LT.lt Nat instLTNat a b) : a ≠ b := Nat.ne_of_lt h
theorem own_neN' {a b : Nat} (h : @LT.lt Nat instLTNat b a) : a ≠ b := Nat.ne_of_gt h
theorem own_selp {y : MethodName} {s : State} {args : Array Value} {n : Nat} (hy : y.cls ≠ "java/lang/invoke/MethodHandle" ∧ y.cls ≠ "java/lang/invoke/VarHandle")
    (hins : (Cond.instantiable y.cls n).before args s = true) (hpriv : (Cond.privateMethod y).before args s = true) (hinst : (Cond.instanceMethod y).before args s = true) : (Cond.selects y.cls y y).before args s = true := by
  obtain ⟨c, k, hc, hk, -, hniab, -, -⟩ := Cond.instantiable_spec hins
  exact selects_self_of_private hc hk (Bool.or_eq_false_iff.mp hniab).1 (Cond.privateMethod_at hpriv) hinst hy
def own_QV (h0 : Heap) (n0 : Nat) (v : Option Value) (h : Heap) (L : List Loc) : Prop := v = none ∧ Fr n0 L ∧ h = h0
def own_QP (r : Value) (h0 : Heap) (n0 : Nat) (v : Option Value) (h : Heap) (L : List Loc) : Prop := v = some r ∧ Fr n0 L ∧ h = h0
def own_at (code : ByteArray) (pc : Nat) (i : Instr) (n pc' : Nat) : Prop := decode code pc = .ok (i, n) ∧ pc + n = pc'
section Steps1
variable {p : Program} {l : Launch} {e : Env} {R : Room} {s : State} {m : MethodId} {args : Array Value} {below : List Frame} {meth : Method} {c : Code} {T : State} {locs : List Loc} {cells slots : Nat} {code : ByteArray} {Rr : State → Outcome → Prop} {Ls : Array Slot} {st : List Value} {pc pc' : Nat}
theorem o_iloadN (X : Stand p l e R s m args below meth c T locs cells slots) (hx : p.tables.exec = Jvm.exec) (hby : c.code = code) {k : Fin 4} {v : Int32} (hd : own_at code pc (.iload_n k) 1 pc') (hl : Ls[k.val]? = some (.val (.int v)))
    (h : own_Fin p.tables e below Rr (T.setTop (mkF m pc' Ls (.int v :: st)))) : own_Fin p.tables e below Rr (T.setTop (mkF m pc Ls (st))) := by
  obtain ⟨hd, rfl⟩ := hd; subst hby
  exact own_pre (fun t k => XS.iloadN X.here hx rfl hd hl k) h
theorem o_iload (X : Stand p l e R s m args below meth c T locs cells slots) (hx : p.tables.exec = Jvm.exec) (hby : c.code = code) {k : Nat} {v : Int32} (hd : own_at code pc (.iload k) 2 pc') (hl : Ls[k]? = some (.val (.int v)))
    (h : own_Fin p.tables e below Rr (T.setTop (mkF m pc' Ls (.int v :: st)))) : own_Fin p.tables e below Rr (T.setTop (mkF m pc Ls (st))) := by
  obtain ⟨hd, rfl⟩ := hd; subst hby
  exact own_pre (fun t k => XS.iload X.here hx rfl hd hl k) h
theorem o_istoreN (X : Stand p l e R s m args below meth c T locs cells slots) (hx : p.tables.exec = Jvm.exec) (hby : c.code = code) {k : Fin 4} {v : Int32} {l' : Array Slot} (hd : own_at code pc (.istore_n k) 1 pc') (hl : storeLocals Ls k.val (.int v) = some l')
    (h : own_Fin p.tables e below Rr (T.setTop (mkF m pc' l' (st)))) : own_Fin p.tables e below Rr (T.setTop (mkF m pc Ls (.int v :: st))) := by
  obtain ⟨hd, rfl⟩ := hd; subst hby
  exact own_pre (fun t k => XS.istoreN X.here hx rfl hd rfl hl k) h
theorem o_istore (X : Stand p l e R s m args below meth c T locs cells slots) (hx : p.tables.exec = Jvm.exec) (hby : c.code = code) {k : Nat} {v : Int32} {l' : Array Slot} (hd : own_at code pc (.istore k) 2 pc') (hl : storeLocals Ls k (.int v) = some l')
    (h : own_Fin p.tables e below Rr (T.setTop (mkF m pc' l' (st)))) : own_Fin p.tables e below Rr (T.setTop (mkF m pc Ls (.int v :: st))) := by
  obtain ⟨hd, rfl⟩ := hd; subst hby
  exact own_pre (fun t k => XS.istore X.here hx rfl hd rfl hl k) h
theorem o_lloadN (X : Stand p l e R s m args below meth c T locs cells slots) (hx : p.tables.exec = Jvm.exec) (hby : c.code = code) {k : Fin 4} {v : Int64} (hd : own_at code pc (.lload_n k) 1 pc') (hl : Ls[k.val]? = some (.val (.long v)))
    (h : own_Fin p.tables e below Rr (T.setTop (mkF m pc' Ls (.long v :: st)))) : own_Fin p.tables e below Rr (T.setTop (mkF m pc Ls (st))) := by
  obtain ⟨hd, rfl⟩ := hd; subst hby
  exact own_pre (fun t k => XS.lloadN X.here hx rfl hd hl k) h
theorem o_lload (X : Stand p l e R s m args below meth c T locs cells slots) (hx : p.tables.exec = Jvm.exec) (hby : c.code = code) {k : Nat} {v : Int64} (hd : own_at code pc (.lload k) 2 pc') (hl : Ls[k]? = some (.val (.long v)))
    (h : own_Fin p.tables e below Rr (T.setTop (mkF m pc' Ls (.long v :: st)))) : own_Fin p.tables e below Rr (T.setTop (mkF m pc Ls (st))) := by
  obtain ⟨hd, rfl⟩ := hd; subst hby
  exact own_pre (fun t k => XS.lload X.here hx rfl hd hl k) h
theorem o_lstoreN (X : Stand p l e R s m args below meth c T locs cells slots) (hx : p.tables.exec = Jvm.exec) (hby : c.code = code) {k : Fin 4} {v : Int64} {l' : Array Slot} (hd : own_at code pc (.lstore_n k) 1 pc') (hl : storeLocals Ls k.val (.long v) = some l')
    (h : own_Fin p.tables e below Rr (T.setTop (mkF m pc' l' (st)))) : own_Fin p.tables e below Rr (T.setTop (mkF m pc Ls (.long v :: st))) := by
  obtain ⟨hd, rfl⟩ := hd; subst hby
  exact own_pre (fun t k => XS.lstoreN X.here hx rfl hd rfl hl k) h
theorem o_lstore (X : Stand p l e R s m args below meth c T locs cells slots) (hx : p.tables.exec = Jvm.exec) (hby : c.code = code) {k : Nat} {v : Int64} {l' : Array Slot} (hd : own_at code pc (.lstore k) 2 pc') (hl : storeLocals Ls k (.long v) = some l')
    (h : own_Fin p.tables e below Rr (T.setTop (mkF m pc' l' (st)))) : own_Fin p.tables e below Rr (T.setTop (mkF m pc Ls (.long v :: st))) := by
  obtain ⟨hd, rfl⟩ := hd; subst hby
  exact own_pre (fun t k => XS.lstore X.here hx rfl hd rfl hl k) h
theorem o_aloadN (X : Stand p l e R s m args below meth c T locs cells slots) (hx : p.tables.exec = Jvm.exec) (hby : c.code = code) {k : Fin 4} {v : Value} (hd : own_at code pc (.aload_n k) 1 pc') (hl : Ls[k.val]? = some (.val v)) (hv : v.isRef = true)
    (h : own_Fin p.tables e below Rr (T.setTop (mkF m pc' Ls (v :: st)))) : own_Fin p.tables e below Rr (T.setTop (mkF m pc Ls (st))) := by
  obtain ⟨hd, rfl⟩ := hd; subst hby
  exact own_pre (fun t k => XS.aloadN X.here hx rfl hd hl hv k) h
theorem o_aload (X : Stand p l e R s m args below meth c T locs cells slots) (hx : p.tables.exec = Jvm.exec) (hby : c.code = code) {k : Nat} {v : Value} (hd : own_at code pc (.aload k) 2 pc') (hl : Ls[k]? = some (.val v)) (hv : v.isRef = true)
    (h : own_Fin p.tables e below Rr (T.setTop (mkF m pc' Ls (v :: st)))) : own_Fin p.tables e below Rr (T.setTop (mkF m pc Ls (st))) := by
  obtain ⟨hd, rfl⟩ := hd; subst hby
  exact own_pre (fun t k => XS.aload X.here hx rfl hd hl hv k) h
theorem o_astoreN (X : Stand p l e R s m args below meth c T locs cells slots) (hx : p.tables.exec = Jvm.exec) (hby : c.code = code) {k : Fin 4} {v : Value} {l' : Array Slot} (hd : own_at code pc (.astore_n k) 1 pc') (hv : v.isRef = true) (hl : storeLocals Ls k.val v = some l')
    (h : own_Fin p.tables e below Rr (T.setTop (mkF m pc' l' (st)))) : own_Fin p.tables e below Rr (T.setTop (mkF m pc Ls (v :: st))) := by
  obtain ⟨hd, rfl⟩ := hd; subst hby
  exact own_pre (fun t k => XS.astoreN X.here hx rfl hd rfl hv hl k) h
theorem o_astore (X : Stand p l e R s m args below meth c T locs cells slots) (hx : p.tables.exec = Jvm.exec) (hby : c.code = code) {k : Nat} {v : Value} {l' : Array Slot} (hd : own_at code pc (.astore k) 2 pc') (hv : v.isRef = true) (hl : storeLocals Ls k v = some l')
    (h : own_Fin p.tables e below Rr (T.setTop (mkF m pc' l' (st)))) : own_Fin p.tables e below Rr (T.setTop (mkF m pc Ls (v :: st))) := by
  obtain ⟨hd, rfl⟩ := hd; subst hby
  exact own_pre (fun t k => XS.astore X.here hx rfl hd rfl hv hl k) h
theorem o_iconst (X : Stand p l e R s m args below meth c T locs cells slots) (hx : p.tables.exec = Jvm.exec) (hby : c.code = code) {i : Int} {v : Int32} (hd : own_at code pc (.iconst i) 1 pc') (hv : Int32.ofInt i = v)
    (h : own_Fin p.tables e below Rr (T.setTop (mkF m pc' Ls (.int v :: st)))) : own_Fin p.tables e below Rr (T.setTop (mkF m pc Ls (st))) := by
  obtain ⟨hd, rfl⟩ := hd; subst hby
  exact own_pre (fun t k => by subst hv; exact XS.iconst X.here hx rfl hd k) h
theorem o_bipush (X : Stand p l e R s m args below meth c T locs cells slots) (hx : p.tables.exec = Jvm.exec) (hby : c.code = code) {i : Int} {v : Int32} (hd : own_at code pc (.bipush i) 2 pc') (hv : (Int8.ofInt i).toInt32 = v)
    (h : own_Fin p.tables e below Rr (T.setTop (mkF m pc' Ls (.int v :: st)))) : own_Fin p.tables e below Rr (T.setTop (mkF m pc Ls (st))) := by
  obtain ⟨hd, rfl⟩ := hd; subst hby
  exact own_pre (fun t k => by subst hv; exact XS.bipush X.here hx rfl hd k) h
theorem o_sipush (X : Stand p l e R s m args below meth c T locs cells slots) (hx : p.tables.exec = Jvm.exec) (hby : c.code = code) {i : Int} {v : Int32} (hd : own_at code pc (.sipush i) 3 pc') (hv : (Int16.ofInt i).toInt32 = v)
    (h : own_Fin p.tables e below Rr (T.setTop (mkF m pc' Ls (.int v :: st)))) : own_Fin p.tables e below Rr (T.setTop (mkF m pc Ls (st))) := by
  obtain ⟨hd, rfl⟩ := hd; subst hby
  exact own_pre (fun t k => by subst hv; exact XS.sipush X.here hx rfl hd k) h
theorem o_lconst (X : Stand p l e R s m args below meth c T locs cells slots) (hx : p.tables.exec = Jvm.exec) (hby : c.code = code) {i : Fin 2} {v : Int64} (hd : own_at code pc (.lconst i) 1 pc') (hv : Int64.ofNat i = v)
    (h : own_Fin p.tables e below Rr (T.setTop (mkF m pc' Ls (.long v :: st)))) : own_Fin p.tables e below Rr (T.setTop (mkF m pc Ls (st))) := by
  obtain ⟨hd, rfl⟩ := hd; subst hby
  exact own_pre (fun t k => by subst hv; exact XS.lconst X.here hx rfl hd k) h
theorem o_anull (X : Stand p l e R s m args below meth c T locs cells slots) (hx : p.tables.exec = Jvm.exec) (hby : c.code = code)  (hd : own_at code pc (.aconst_null) 1 pc') 
    (h : own_Fin p.tables e below Rr (T.setTop (mkF m pc' Ls (.null :: st)))) : own_Fin p.tables e below Rr (T.setTop (mkF m pc Ls (st))) := by
  obtain ⟨hd, rfl⟩ := hd; subst hby
  exact own_pre (fun t k => XS.aconstNull X.here hx rfl hd k) h
theorem o_iadd (X : Stand p l e R s m args below meth c T locs cells slots) (hx : p.tables.exec = Jvm.exec) (hby : c.code = code) {x y : Int32} (hd : own_at code pc (.iadd) 1 pc') 
    (h : own_Fin p.tables e below Rr (T.setTop (mkF m pc' Ls (.int (x + y) :: st)))) : own_Fin p.tables e below Rr (T.setTop (mkF m pc Ls (.int y :: .int x :: st))) := by
  obtain ⟨hd, rfl⟩ := hd; subst hby
  exact own_pre (fun t k => XS.iadd X.here hx rfl hd rfl k) h
theorem o_ladd (X : Stand p l e R s m args below meth c T locs cells slots) (hx : p.tables.exec = Jvm.exec) (hby : c.code = code) {x y : Int64} (hd : own_at code pc (.ladd) 1 pc') 
    (h : own_Fin p.tables e below Rr (T.setTop (mkF m pc' Ls (.long (x + y) :: st)))) : own_Fin p.tables e below Rr (T.setTop (mkF m pc Ls (.long y :: .long x :: st))) := by
  obtain ⟨hd, rfl⟩ := hd; subst hby
  exact own_pre (fun t k => XS.ladd X.here hx rfl hd rfl k) h
theorem o_isub (X : Stand p l e R s m args below meth c T locs cells slots) (hx : p.tables.exec = Jvm.exec) (hby : c.code = code) {x y : Int32} (hd : own_at code pc (.isub) 1 pc') 
    (h : own_Fin p.tables e below Rr (T.setTop (mkF m pc' Ls (.int (x - y) :: st)))) : own_Fin p.tables e below Rr (T.setTop (mkF m pc Ls (.int y :: .int x :: st))) := by
  obtain ⟨hd, rfl⟩ := hd; subst hby
  exact own_pre (fun t k => XS.isub X.here hx rfl hd rfl k) h
theorem o_lsub (X : Stand p l e R s m args below meth c T locs cells slots) (hx : p.tables.exec = Jvm.exec) (hby : c.code = code) {x y : Int64} (hd : own_at code pc (.lsub) 1 pc') 
    (h : own_Fin p.tables e below Rr (T.setTop (mkF m pc' Ls (.long (x - y) :: st)))) : own_Fin p.tables e below Rr (T.setTop (mkF m pc Ls (.long y :: .long x :: st))) := by
  obtain ⟨hd, rfl⟩ := hd; subst hby
  exact own_pre (fun t k => XS.lsub X.here hx rfl hd rfl k) h
theorem o_imul (X : Stand p l e R s m args below meth c T locs cells slots) (hx : p.tables.exec = Jvm.exec) (hby : c.code = code) {x y : Int32} (hd : own_at code pc (.imul) 1 pc') 
    (h : own_Fin p.tables e below Rr (T.setTop (mkF m pc' Ls (.int (x * y) :: st)))) : own_Fin p.tables e below Rr (T.setTop (mkF m pc Ls (.int y :: .int x :: st))) := by
  obtain ⟨hd, rfl⟩ := hd; subst hby
  exact own_pre (fun t k => XS.imul X.here hx rfl hd rfl k) h
theorem o_lmul (X : Stand p l e R s m args below meth c T locs cells slots) (hx : p.tables.exec = Jvm.exec) (hby : c.code = code) {x y : Int64} (hd : own_at code pc (.lmul) 1 pc') 
    (h : own_Fin p.tables e below Rr (T.setTop (mkF m pc' Ls (.long (x * y) :: st)))) : own_Fin p.tables e below Rr (T.setTop (mkF m pc Ls (.long y :: .long x :: st))) := by
  obtain ⟨hd, rfl⟩ := hd; subst hby
  exact own_pre (fun t k => XS.lmul X.here hx rfl hd rfl k) h
theorem o_iand (X : Stand p l e R s m args below meth c T locs cells slots) (hx : p.tables.exec = Jvm.exec) (hby : c.code = code) {x y : Int32} (hd : own_at code pc (.iand) 1 pc') 
    (h : own_Fin p.tables e below Rr (T.setTop (mkF m pc' Ls (.int (x &&& y) :: st)))) : own_Fin p.tables e below Rr (T.setTop (mkF m pc Ls (.int y :: .int x :: st))) := by
  obtain ⟨hd, rfl⟩ := hd; subst hby
  exact own_pre (fun t k => XS.iand X.here hx rfl hd rfl k) h
theorem o_land (X : Stand p l e R s m args below meth c T locs cells slots) (hx : p.tables.exec = Jvm.exec) (hby : c.code = code) {x y : Int64} (hd : own_at code pc (.land) 1 pc') 
    (h : own_Fin p.tables e below Rr (T.setTop (mkF m pc' Ls (.long (x &&& y) :: st)))) : own_Fin p.tables e below Rr (T.setTop (mkF m pc Ls (.long y :: .long x :: st))) := by
  obtain ⟨hd, rfl⟩ := hd; subst hby
  exact own_pre (fun t k => XS.land X.here hx rfl hd rfl k) h
theorem o_ior (X : Stand p l e R s m args below meth c T locs cells slots) (hx : p.tables.exec = Jvm.exec) (hby : c.code = code) {x y : Int32} (hd : own_at code pc (.ior) 1 pc') 
    (h : own_Fin p.tables e below Rr (T.setTop (mkF m pc' Ls (.int (x ||| y) :: st)))) : own_Fin p.tables e below Rr (T.setTop (mkF m pc Ls (.int y :: .int x :: st))) := by
  obtain ⟨hd, rfl⟩ := hd; subst hby
  exact own_pre (fun t k => XS.ior X.here hx rfl hd rfl k) h
theorem o_lor (X : Stand p l e R s m args below meth c T locs cells slots) (hx : p.tables.exec = Jvm.exec) (hby : c.code = code) {x y : Int64} (hd : own_at code pc (.lor) 1 pc') 
    (h : own_Fin p.tables e below Rr (T.setTop (mkF m pc' Ls (.long (x ||| y) :: st)))) : own_Fin p.tables e below Rr (T.setTop (mkF m pc Ls (.long y :: .long x :: st))) := by
  obtain ⟨hd, rfl⟩ := hd; subst hby
  exact own_pre (fun t k => XS.lor X.here hx rfl hd rfl k) h
theorem o_ixor (X : Stand p l e R s m args below meth c T locs cells slots) (hx : p.tables.exec = Jvm.exec) (hby : c.code = code) {x y : Int32} (hd : own_at code pc (.ixor) 1 pc') 
    (h : own_Fin p.tables e below Rr (T.setTop (mkF m pc' Ls (.int (x ^^^ y) :: st)))) : own_Fin p.tables e below Rr (T.setTop (mkF m pc Ls (.int y :: .int x :: st))) := by
  obtain ⟨hd, rfl⟩ := hd; subst hby
  exact own_pre (fun t k => XS.ixor X.here hx rfl hd rfl k) h
theorem o_lxor (X : Stand p l e R s m args below meth c T locs cells slots) (hx : p.tables.exec = Jvm.exec) (hby : c.code = code) {x y : Int64} (hd : own_at code pc (.lxor) 1 pc') 
    (h : own_Fin p.tables e below Rr (T.setTop (mkF m pc' Ls (.long (x ^^^ y) :: st)))) : own_Fin p.tables e below Rr (T.setTop (mkF m pc Ls (.long y :: .long x :: st))) := by
  obtain ⟨hd, rfl⟩ := hd; subst hby
  exact own_pre (fun t k => XS.lxor X.here hx rfl hd rfl k) h
theorem o_ishl (X : Stand p l e R s m args below meth c T locs cells slots) (hx : p.tables.exec = Jvm.exec) (hby : c.code = code) {x y : Int32} (hd : own_at code pc (.ishl) 1 pc') 
    (h : own_Fin p.tables e below Rr (T.setTop (mkF m pc' Ls (.int (x <<< (y &&& 31)) :: st)))) : own_Fin p.tables e below Rr (T.setTop (mkF m pc Ls (.int y :: .int x :: st))) := by
  obtain ⟨hd, rfl⟩ := hd; subst hby
  exact own_pre (fun t k => XS.ishl X.here hx rfl hd rfl k) h
theorem o_ishr (X : Stand p l e R s m args below meth c T locs cells slots) (hx : p.tables.exec = Jvm.exec) (hby : c.code = code) {x y : Int32} (hd : own_at code pc (.ishr) 1 pc') 
    (h : own_Fin p.tables e below Rr (T.setTop (mkF m pc' Ls (.int (x >>> (y &&& 31)) :: st)))) : own_Fin p.tables e below Rr (T.setTop (mkF m pc Ls (.int y :: .int x :: st))) := by
  obtain ⟨hd, rfl⟩ := hd; subst hby
  exact own_pre (fun t k => XS.ishr X.here hx rfl hd rfl k) h
theorem o_iushr (X : Stand p l e R s m args below meth c T locs cells slots) (hx : p.tables.exec = Jvm.exec) (hby : c.code = code) {x y : Int32} (hd : own_at code pc (.iushr) 1 pc') 
    (h : own_Fin p.tables e below Rr (T.setTop (mkF m pc' Ls (.int ((x.toUInt32 >>> (y &&& 31).toUInt32).toInt32) :: st)))) : own_Fin p.tables e below Rr (T.setTop (mkF m pc Ls (.int y :: .int x :: st))) := by
  obtain ⟨hd, rfl⟩ := hd; subst hby
  exact own_pre (fun t k => XS.iushr X.here hx rfl hd rfl k) h
theorem o_lshl (X : Stand p l e R s m args below meth c T locs cells slots) (hx : p.tables.exec = Jvm.exec) (hby : c.code = code) {x : Int64} {y : Int32} (hd : own_at code pc (.lshl) 1 pc') 
    (h : own_Fin p.tables e below Rr (T.setTop (mkF m pc' Ls (.long (x <<< (y &&& 0x3f).toInt64) :: st)))) : own_Fin p.tables e below Rr (T.setTop (mkF m pc Ls (.int y :: .long x :: st))) := by
  obtain ⟨hd, rfl⟩ := hd; subst hby
  exact own_pre (fun t k => XS.lshl X.here hx rfl hd rfl k) h
theorem o_lshr (X : Stand p l e R s m args below meth c T locs cells slots) (hx : p.tables.exec = Jvm.exec) (hby : c.code = code) {x : Int64} {y : Int32} (hd : own_at code pc (.lshr) 1 pc') 
    (h : own_Fin p.tables e below Rr (T.setTop (mkF m pc' Ls (.long (x >>> (y &&& 0x3f).toInt64) :: st)))) : own_Fin p.tables e below Rr (T.setTop (mkF m pc Ls (.int y :: .long x :: st))) := by
  obtain ⟨hd, rfl⟩ := hd; subst hby
  exact own_pre (fun t k => XS.lshr X.here hx rfl hd rfl k) h
theorem o_lushr (X : Stand p l e R s m args below meth c T locs cells slots) (hx : p.tables.exec = Jvm.exec) (hby : c.code = code) {x : Int64} {y : Int32} (hd : own_at code pc (.lushr) 1 pc') 
    (h : own_Fin p.tables e below Rr (T.setTop (mkF m pc' Ls (.long ((x.toUInt64 >>> (y &&& 0x3f).toInt64.toUInt64).toInt64) :: st)))) : own_Fin p.tables e below Rr (T.setTop (mkF m pc Ls (.int y :: .long x :: st))) := by
  obtain ⟨hd, rfl⟩ := hd; subst hby
  exact own_pre (fun t k => XS.lushr X.here hx rfl hd rfl k) h
theorem o_ineg (X : Stand p l e R s m args below meth c T locs cells slots) (hx : p.tables.exec = Jvm.exec) (hby : c.code = code) {x : Int32} (hd : own_at code pc (.ineg) 1 pc') 
    (h : own_Fin p.tables e below Rr (T.setTop (mkF m pc' Ls (.int (-x) :: st)))) : own_Fin p.tables e below Rr (T.setTop (mkF m pc Ls (.int x :: st))) := by
  obtain ⟨hd, rfl⟩ := hd; subst hby
  exact own_pre (fun t k => XS.ineg X.here hx rfl hd rfl k) h
theorem o_lneg (X : Stand p l e R s m args below meth c T locs cells slots) (hx : p.tables.exec = Jvm.exec) (hby : c.code = code) {x : Int64} (hd : own_at code pc (.lneg) 1 pc') 
    (h : own_Fin p.tables e below Rr (T.setTop (mkF m pc' Ls (.long (-x) :: st)))) : own_Fin p.tables e below Rr (T.setTop (mkF m pc Ls (.long x :: st))) := by
  obtain ⟨hd, rfl⟩ := hd; subst hby
  exact own_pre (fun t k => XS.lneg X.here hx rfl hd rfl k) h
theorem o_i2l (X : Stand p l e R s m args below meth c T locs cells slots) (hx : p.tables.exec = Jvm.exec) (hby : c.code = code) {x : Int32} (hd : own_at code pc (.i2l) 1 pc') 
    (h : own_Fin p.tables e below Rr (T.setTop (mkF m pc' Ls (.long (x.toInt64) :: st)))) : own_Fin p.tables e below Rr (T.setTop (mkF m pc Ls (.int x :: st))) := by
  obtain ⟨hd, rfl⟩ := hd; subst hby
  exact own_pre (fun t k => XS.i2l X.here hx rfl hd rfl k) h
theorem o_l2i (X : Stand p l e R s m args below meth c T locs cells slots) (hx : p.tables.exec = Jvm.exec) (hby : c.code = code) {x : Int64} (hd : own_at code pc (.l2i) 1 pc') 
    (h : own_Fin p.tables e below Rr (T.setTop (mkF m pc' Ls (.int (x.toInt32) :: st)))) : own_Fin p.tables e below Rr (T.setTop (mkF m pc Ls (.long x :: st))) := by
  obtain ⟨hd, rfl⟩ := hd; subst hby
  exact own_pre (fun t k => XS.l2i X.here hx rfl hd rfl k) h
theorem o_i2b (X : Stand p l e R s m args below meth c T locs cells slots) (hx : p.tables.exec = Jvm.exec) (hby : c.code = code) {x : Int32} (hd : own_at code pc (.i2b) 1 pc') 
    (h : own_Fin p.tables e below Rr (T.setTop (mkF m pc' Ls (.int (x.toInt8.toInt32) :: st)))) : own_Fin p.tables e below Rr (T.setTop (mkF m pc Ls (.int x :: st))) := by
  obtain ⟨hd, rfl⟩ := hd; subst hby
  exact own_pre (fun t k => XS.i2b X.here hx rfl hd rfl k) h
theorem o_i2s (X : Stand p l e R s m args below meth c T locs cells slots) (hx : p.tables.exec = Jvm.exec) (hby : c.code = code) {x : Int32} (hd : own_at code pc (.i2s) 1 pc') 
    (h : own_Fin p.tables e below Rr (T.setTop (mkF m pc' Ls (.int (x.toInt16.toInt32) :: st)))) : own_Fin p.tables e below Rr (T.setTop (mkF m pc Ls (.int x :: st))) := by
  obtain ⟨hd, rfl⟩ := hd; subst hby
  exact own_pre (fun t k => XS.i2s X.here hx rfl hd rfl k) h
theorem o_i2c (X : Stand p l e R s m args below meth c T locs cells slots) (hx : p.tables.exec = Jvm.exec) (hby : c.code = code) {x : Int32} (hd : own_at code pc (.i2c) 1 pc') 
    (h : own_Fin p.tables e below Rr (T.setTop (mkF m pc' Ls (.int (x.toUInt32.toUInt16.toUInt32.toInt32) :: st)))) : own_Fin p.tables e below Rr (T.setTop (mkF m pc Ls (.int x :: st))) := by
  obtain ⟨hd, rfl⟩ := hd; subst hby
  exact own_pre (fun t k => XS.i2c X.here hx rfl hd rfl k) h
theorem o_idiv (X : Stand p l e R s m args below meth c T locs cells slots) (hx : p.tables.exec = Jvm.exec) (hby : c.code = code) {x y : Int32} (hd : own_at code pc (.idiv) 1 pc') (hy : y ≠ 0)
    (h : own_Fin p.tables e below Rr (T.setTop (mkF m pc' Ls (.int (x / y) :: st)))) : own_Fin p.tables e below Rr (T.setTop (mkF m pc Ls (.int y :: .int x :: st))) := by
  obtain ⟨hd, rfl⟩ := hd; subst hby
  exact own_pre (fun t k => XS.idiv X.here hx rfl hd rfl hy k) h
theorem o_ldiv (X : Stand p l e R s m args below meth c T locs cells slots) (hx : p.tables.exec = Jvm.exec) (hby : c.code = code) {x y : Int64} (hd : own_at code pc (.ldiv) 1 pc') (hy : y ≠ 0)
    (h : own_Fin p.tables e below Rr (T.setTop (mkF m pc' Ls (.long (x / y) :: st)))) : own_Fin p.tables e below Rr (T.setTop (mkF m pc Ls (.long y :: .long x :: st))) := by
  obtain ⟨hd, rfl⟩ := hd; subst hby
  exact own_pre (fun t k => XS.ldiv X.here hx rfl hd rfl hy k) h
theorem o_irem (X : Stand p l e R s m args below meth c T locs cells slots) (hx : p.tables.exec = Jvm.exec) (hby : c.code = code) {x y : Int32} (hd : own_at code pc (.irem) 1 pc') (hy : y ≠ 0)
    (h : own_Fin p.tables e below Rr (T.setTop (mkF m pc' Ls (.int (x % y) :: st)))) : own_Fin p.tables e below Rr (T.setTop (mkF m pc Ls (.int y :: .int x :: st))) := by
  obtain ⟨hd, rfl⟩ := hd; subst hby
  exact own_pre (fun t k => iremM X hx rfl hd rfl hy k) h
theorem o_lcmp (X : Stand p l e R s m args below meth c T locs cells slots) (hx : p.tables.exec = Jvm.exec) (hby : c.code = code) {x y : Int64} (hd : own_at code pc (.lcmp) 1 pc') 
    (h : own_Fin p.tables e below Rr (T.setTop (mkF m pc' Ls (.int (lcmpW x y) :: st)))) : own_Fin p.tables e below Rr (T.setTop (mkF m pc Ls (.long y :: .long x :: st))) := by
  obtain ⟨hd, rfl⟩ := hd; subst hby
  exact own_pre (fun t k => XS.lcmp X.here hx rfl hd rfl k) h
theorem o_iinc (X : Stand p l e R s m args below meth c T locs cells slots) (hx : p.tables.exec = Jvm.exec) (hby : c.code = code) {k : Nat} {i : Int} {x : Int32} {l' : Array Slot} (hd : own_at code pc (.iinc k i) 3 pc') (hl : Ls[k]? = some (.val (.int x))) (hl' : storeLocals Ls k (.int (x + Int32.ofInt i)) = some l')
    (h : own_Fin p.tables e below Rr (T.setTop (mkF m pc' l' (st)))) : own_Fin p.tables e below Rr (T.setTop (mkF m pc Ls (st))) := by
  obtain ⟨hd, rfl⟩ := hd; subst hby
  exact own_pre (fun t k => XS.iinc X.here hx rfl hd hl hl' k) h
theorem o_dup (X : Stand p l e R s m args below meth c T locs cells slots) (hx : p.tables.exec = Jvm.exec) (hby : c.code = code) {v : Value} (hd : own_at code pc (.dup) 1 pc') (hv : v.category = 1)
    (h : own_Fin p.tables e below Rr (T.setTop (mkF m pc' Ls (v :: v :: st)))) : own_Fin p.tables e below Rr (T.setTop (mkF m pc Ls (v :: st))) := by
  obtain ⟨hd, rfl⟩ := hd; subst hby
  exact own_pre (fun t k => XS.dup X.here hx rfl hd rfl hv k) h
theorem o_pop (X : Stand p l e R s m args below meth c T locs cells slots) (hx : p.tables.exec = Jvm.exec) (hby : c.code = code) {v : Value} (hd : own_at code pc (.pop) 1 pc') (hv : v.category = 1)
    (h : own_Fin p.tables e below Rr (T.setTop (mkF m pc' Ls (st)))) : own_Fin p.tables e below Rr (T.setTop (mkF m pc Ls (v :: st))) := by
  obtain ⟨hd, rfl⟩ := hd; subst hby
  exact own_pre (fun t k => XS.pop X.here hx rfl hd rfl hv k) h
theorem o_dupX1 (X : Stand p l e R s m args below meth c T locs cells slots) (hx : p.tables.exec = Jvm.exec) (hby : c.code = code) {v w : Value} (hd : own_at code pc (.dup_x1) 1 pc') (hv : v.category = 1) (hw : w.category = 1)
    (h : own_Fin p.tables e below Rr (T.setTop (mkF m pc' Ls (v :: w :: v :: st)))) : own_Fin p.tables e below Rr (T.setTop (mkF m pc Ls (v :: w :: st))) := by
  obtain ⟨hd, rfl⟩ := hd; subst hby
  exact own_pre (fun t k => XS.dupX1 X.here hx rfl hd rfl hv hw k) h
theorem o_goto (X : Stand p l e R s m args below meth c T locs cells slots) (hx : p.tables.exec = Jvm.exec) (hby : c.code = code) {o : Int} {q : Nat} (hd : own_at code pc (.goto o) 3 pc') (ho : 0 ≤ (pc : Int) + o) (hp : ((pc : Int) + o).toNat = q)
    (h : own_Fin p.tables e below Rr (T.setTop (mkF m q Ls st))) : own_Fin p.tables e below Rr (T.setTop (mkF m pc Ls st)) := by
  obtain ⟨hd, rfl⟩ := hd; subst hby
  exact own_pre (fun t k => XS.goto X.here hx rfl (pc0 := pc) (pc' := q) rfl hd ho hp k) h
theorem o_ifY (X : Stand p l e R s m args below meth c T locs cells slots) (hx : p.tables.exec = Jvm.exec) (hby : c.code = code) {cd : ClassFile.Cond} {o : Int} {x : Int32} {q : Nat} (hd : own_at code pc (.ifCond cd o) 3 pc') (hc : ifCond.holds cd x = true) (ho : 0 ≤ (pc : Int) + o) (hp : ((pc : Int) + o).toNat = q)
    (h : own_Fin p.tables e below Rr (T.setTop (mkF m q Ls st))) : own_Fin p.tables e below Rr (T.setTop (mkF m pc Ls (.int x :: st))) := by
  obtain ⟨hd, rfl⟩ := hd; subst hby
  exact own_pre (fun t k => XS.ifYes X.here hx rfl (pc0 := pc) (pc' := q) rfl hd rfl hc ho hp k) h
theorem o_ifN (X : Stand p l e R s m args below meth c T locs cells slots) (hx : p.tables.exec = Jvm.exec) (hby : c.code = code) {cd : ClassFile.Cond} {o : Int} {x : Int32} (hd : own_at code pc (.ifCond cd o) 3 pc') (hc : ifCond.holds cd x = false)
    (h : own_Fin p.tables e below Rr (T.setTop (mkF m pc' Ls st))) : own_Fin p.tables e below Rr (T.setTop (mkF m pc Ls (.int x :: st))) := by
  obtain ⟨hd, rfl⟩ := hd; subst hby
  exact own_pre (fun t k => XS.ifNo X.here hx rfl hd rfl hc k) h
theorem o_icmpY (X : Stand p l e R s m args below meth c T locs cells slots) (hx : p.tables.exec = Jvm.exec) (hby : c.code = code) {cd : ClassFile.Cond} {o : Int} {x y : Int32} {q : Nat} (hd : own_at code pc (.if_icmp cd o) 3 pc') (hc : if_icmp.holds cd x y = true) (ho : 0 ≤ (pc : Int) + o) (hp : ((pc : Int) + o).toNat = q)
    (h : own_Fin p.tables e below Rr (T.setTop (mkF m q Ls st))) : own_Fin p.tables e below Rr (T.setTop (mkF m pc Ls (.int y :: .int x :: st))) := by
  obtain ⟨hd, rfl⟩ := hd; subst hby
  exact own_pre (fun t k => XS.icmpYes X.here hx rfl (pc0 := pc) (pc' := q) rfl hd rfl hc ho hp k) h
theorem o_icmpN (X : Stand p l e R s m args below meth c T locs cells slots) (hx : p.tables.exec = Jvm.exec) (hby : c.code = code) {cd : ClassFile.Cond} {o : Int} {x y : Int32} (hd : own_at code pc (.if_icmp cd o) 3 pc') (hc : if_icmp.holds cd x y = false)
    (h : own_Fin p.tables e below Rr (T.setTop (mkF m pc' Ls st))) : own_Fin p.tables e below Rr (T.setTop (mkF m pc Ls (.int y :: .int x :: st))) := by
  obtain ⟨hd, rfl⟩ := hd; subst hby
  exact own_pre (fun t k => XS.icmpNo X.here hx rfl hd rfl hc k) h
theorem o_ldc (X : Stand p l e R s m args below meth c T locs cells slots) (hx : p.tables.exec = Jvm.exec) (hby : c.code = code) {own : String} {index : Nat} {v : Int32} (hown : s.vm.findClass own = some m.cls) (hc : (Cond.constant own index v).before args s = true) (hd : own_at code pc (.ldc index) 2 pc')
    (h : own_Fin p.tables e below Rr (T.setTop (mkF m pc' Ls (.int v :: st)))) : own_Fin p.tables e below Rr (T.setTop (mkF m pc Ls st)) := by
  obtain ⟨hd, rfl⟩ := hd; subst hby
  exact own_pre (fun t k => X.ldcInt hx hown hc (g := mkF m pc Ls st) rfl hd t k) h
theorem o_ldc2 (X : Stand p l e R s m args below meth c T locs cells slots) (hx : p.tables.exec = Jvm.exec) (hby : c.code = code) {own : String} {index : Nat} {v : Int64} (hown : s.vm.findClass own = some m.cls) (hc : (Cond.constantLong own index v).before args s = true) (hd : own_at code pc (.ldc2_w index) 3 pc')
    (h : own_Fin p.tables e below Rr (T.setTop (mkF m pc' Ls (.long v :: st)))) : own_Fin p.tables e below Rr (T.setTop (mkF m pc Ls st)) := by
  obtain ⟨hd, rfl⟩ := hd; subst hby
  exact own_pre (fun t k => X.ldc2Long hx hown hc (g := mkF m pc Ls st) rfl hd t k) h
end Steps1

end New
end Jvm.RoadKit
namespace Jvm.Pilot.@@N@@
open Jvm Jvm.ClassFile Sem Op Lib Jvm.Free Jvm.Stand Jvm.LawKit Jvm.RoadKit Bundle Jvm.Pilot.@@N@@.Jvm.D
theorem own_wd {Z : State} {a0 : Array Value} (hw : ∀ d ∈ tables_1, d.before a0 Z = true) {i : Nat} {d : Jvm.Cond} (h : tables_1[i]? = some d) : d.before a0 Z = true := hw _ (List.mem_of_getElem? h)
def own_Q0 (n0 : Nat) (v : Option Value) (h : Heap) (L : List Loc) : Prop := v = some (.int 1) ∧ Fr n0 L
def own_m1 (z : Int64) : Int64 := ((z ^^^ ((z.toUInt64 >>> ((30 : Int32) &&& 0x3f).toInt64.toUInt64).toInt64)) * (-4658895280553007687 : Int64))
def own_m2 (z : Int64) : Int64 := ((z ^^^ ((z.toUInt64 >>> ((27 : Int32) &&& 0x3f).toInt64.toUInt64).toInt64)) * (-7723592293110705685 : Int64))
def own_m3 (z : Int64) : Int64 := (z ^^^ ((z.toUInt64 >>> ((31 : Int32) &&& 0x3f).toInt64.toUInt64).toInt64))
def own_nw (c i : Int64) : Int64 := (i * ((2 : Int64) - (c * i)))
def own_inv (c : Int64) : Int64 := (own_nw c (own_nw c (own_nw c (own_nw c (own_nw c (own_nw c c))))))
def own_u3 (z : Int64) : Int64 := ((z ^^^ ((z.toUInt64 >>> ((31 : Int32) &&& 0x3f).toInt64.toUInt64).toInt64)) ^^^ ((z.toUInt64 >>> ((62 : Int32) &&& 0x3f).toInt64.toUInt64).toInt64))
def own_u2 (z : Int64) : Int64 := ((z ^^^ ((z.toUInt64 >>> ((27 : Int32) &&& 0x3f).toInt64.toUInt64).toInt64)) ^^^ ((z.toUInt64 >>> ((54 : Int32) &&& 0x3f).toInt64.toUInt64).toInt64))
def own_u1 (z : Int64) : Int64 := ((z ^^^ ((z.toUInt64 >>> ((30 : Int32) &&& 0x3f).toInt64.toUInt64).toInt64)) ^^^ ((z.toUInt64 >>> ((60 : Int32) &&& 0x3f).toInt64.toUInt64).toInt64))
def own_unmix (z : Int64) : Int64 := own_u1 ((own_u2 ((own_u3 z) * (own_inv (-7723592293110705685 : Int64)))) * (own_inv (-4658895280553007687 : Int64)))
theorem own_i1 : (-4658895280553007687 : Int64) * own_inv (-4658895280553007687 : Int64) = 1 := by decide +kernel
theorem own_i2 : (-7723592293110705685 : Int64) * own_inv (-7723592293110705685 : Int64) = 1 := by decide +kernel
theorem own_shr (z : Int64) (k : UInt64) : ((z.toUInt64 >>> k).toInt64).toBitVec = z.toBitVec >>> (k.toBitVec % 64#64) := by
  simp only [UInt64.toBitVec_toInt64, UInt64.toBitVec_shiftRight, Int64.toBitVec_toUInt64]
  rfl
theorem own_xs (x : BitVec 64) (a : Nat) (h : 64 ≤ a + a + a) : ((x ^^^ x >>> a) ^^^ (x ^^^ x >>> a) >>> a) ^^^ (x ^^^ x >>> a) >>> (a + a) = x := by
  have e : x >>> a >>> (a + a) = 0#64 := by
    apply BitVec.eq_of_getLsbD_eq
    intro i hi
    rw [BitVec.getLsbD_ushiftRight, BitVec.getLsbD_ushiftRight, BitVec.getLsbD_of_ge _ _ (by omega)]
    simp
  have e2 : x >>> a >>> a = x >>> (a + a) := (BitVec.shiftRight_add x a a).symm
  rw [BitVec.ushiftRight_xor_distrib, BitVec.ushiftRight_xor_distrib, e, e2, BitVec.xor_zero]
  rw [BitVec.xor_assoc x, ← BitVec.xor_assoc (x >>> a) (x >>> a), BitVec.xor_self, BitVec.zero_xor, BitVec.xor_assoc, BitVec.xor_self, BitVec.xor_zero]
theorem own_b31 : (((31 : Int32) &&& 0x3f).toInt64.toUInt64).toBitVec % 64#64 = 31#64 := by decide +kernel
theorem own_b62 : (((62 : Int32) &&& 0x3f).toInt64.toUInt64).toBitVec % 64#64 = 62#64 := by decide +kernel
theorem own_b27 : (((27 : Int32) &&& 0x3f).toInt64.toUInt64).toBitVec % 64#64 = 27#64 := by decide +kernel
theorem own_b54 : (((54 : Int32) &&& 0x3f).toInt64.toUInt64).toBitVec % 64#64 = 54#64 := by decide +kernel
theorem own_b30 : (((30 : Int32) &&& 0x3f).toInt64.toUInt64).toBitVec % 64#64 = 30#64 := by decide +kernel
theorem own_b60 : (((60 : Int32) &&& 0x3f).toInt64.toUInt64).toBitVec % 64#64 = 60#64 := by decide +kernel
theorem own_back3 (z : Int64) : own_u3 (own_m3 z) = z := by
  apply Int64.toBitVec_inj.mp
  rw [own_u3, own_m3]
  simp only [Int64.toBitVec_xor, own_shr, own_b31, own_b62]
  exact own_xs z.toBitVec 31 (by decide)
theorem own_back2 (z w : Int64) (h : w = (z ^^^ ((z.toUInt64 >>> ((27 : Int32) &&& 0x3f).toInt64.toUInt64).toInt64))) : own_u2 w = z := by
  subst h
  apply Int64.toBitVec_inj.mp
  rw [own_u2]
  simp only [Int64.toBitVec_xor, own_shr, own_b27, own_b54]
  exact own_xs z.toBitVec 27 (by decide)
theorem own_back1 (z w : Int64) (h : w = (z ^^^ ((z.toUInt64 >>> ((30 : Int32) &&& 0x3f).toInt64.toUInt64).toInt64))) : own_u1 w = z := by
  subst h
  apply Int64.toBitVec_inj.mp
  rw [own_u1]
  simp only [Int64.toBitVec_xor, own_shr, own_b30, own_b60]
  exact own_xs z.toBitVec 30 (by decide)
theorem own_un (z : Int64) : own_unmix (own_m3 (own_m2 (own_m1 z))) = z := by
  rw [own_unmix, own_back3]
  apply own_back1
  rw [own_back2 (own_m1 z)]
  · rw [own_m1, Int64.mul_assoc, own_i1, Int64.mul_one]
  · rw [own_m2, Int64.mul_assoc, own_i2, Int64.mul_one]
def own_QI (Z : State) (a1 : Addr) (q : Int64) (h0 : Heap) (n0 : Nat) (v : Option Value) (h : Heap) (L : List Loc) : Prop := v = none ∧ Fr n0 L ∧ Keep h0 h [a1] ∧ Exa Z h a1 "tallymark/SplitMix64" ∧ Fld Z h a1 "tallymark/SplitMix64" "state" "J" (.long q)
def own_QN (Z : State) (a1 : Addr) (q : Int64) (h0 : Heap) (n0 : Nat) (v : Option Value) (h : Heap) (L : List Loc) : Prop := v = some (.long (own_m3 (own_m2 (own_m1 (q + (-7046029254386353131 : Int64)))))) ∧ Fr n0 L ∧ Keep h0 h [a1] ∧ Exa Z h a1 "tallymark/SplitMix64" ∧ Fld Z h a1 "tallymark/SplitMix64" "state" "J" (.long (q + (-7046029254386353131 : Int64)))
theorem D1_0 : own_at prog_17_method_1_code 0 (.aload_n 0) 1 1 := ⟨by decide +kernel, rfl⟩
theorem D1_1 : own_at prog_17_method_1_code 1 (.invokespecial 1) 3 4 := ⟨by decide +kernel, rfl⟩
theorem D1_4 : own_at prog_17_method_1_code 4 (.aload_n 0) 1 5 := ⟨by decide +kernel, rfl⟩
theorem D1_5 : own_at prog_17_method_1_code 5 (.lload_n 1) 1 6 := ⟨by decide +kernel, rfl⟩
theorem D1_6 : own_at prog_17_method_1_code 6 (.putfield 7) 3 9 := ⟨by decide +kernel, rfl⟩
theorem D1_9 : own_at prog_17_method_1_code 9 (.return_) 1 10 := ⟨by decide +kernel, rfl⟩
theorem pn_tallymark_SplitMix64 : plainName "tallymark/SplitMix64" = true := by first | (simp [plainName, overriddenIn]; done) | decide +kernel
theorem ef_rmI (m : MethodId) (a1 : Addr) (q0 : Int64) : entryFrame m #[(.ref a1), (.long q0)] 3 = mkF m 0 #[.val (.ref a1), .val (.long q0), .second] [] := by first | (simp [entryFrame, mkF, argsToLocals, Value.category]; done) | rfl
set_option maxRecDepth 65536 in
set_option maxHeartbeats 40000000 in
theorem rmI (l : Launch) (Z : State) (a0 : Array Value) (hw : ∀ d ∈ tables_1, d.before a0 Z = true) (ws : List Jvm.Cond) (a1 : Addr) (q0 : Int64) (u0 : Value) (h0 : Heap) (n0 : Nat) (Z0 : n0 ≤ h0.size) (gn_a1 : n0 ≤ a1) (E_a1 : Exa Z h0 a1 "tallymark/SplitMix64") (F_a1 : Fld Z h0 a1 "tallymark/SplitMix64" "state" "J" u0) :
    MetFree l (⟨"tallymark/SplitMix64", "<init>", "(J)V"⟩ : MethodName) (head1 (Jvm.Cond.code (⟨"tallymark/SplitMix64", "<init>", "(J)V"⟩ : MethodName) prog_17_method_1_code 3 none :: ws) ({ frames := 1, cells := 0, slots := 0, locals := 12 } : Room)) (fun a U => a = #[(.ref a1), (.long q0)] ∧ Z.Warmed39 U.vm ∧ U.heap = h0) (fun _ _ _ _ _ => True) (fun _ U o U' => ∃ v L, o = .returned v ∧ own_QI Z a1 q0 h0 n0 v U'.heap L ∧ FrameEnd U o U' L ({ frames := 1, cells := 0, slots := 0, locals := 12 } : Room).cells ({ frames := 1, cells := 0, slots := 0, locals := 12 } : Room).slots) := by
  refine MetFree.of_bodySF (plainFor_of_name pn_tallymark_SplitMix64) hisR ?_
  intro p e s m args below meth c s₁ Bd hml0 hP hK
  obtain ⟨rfl, hZ, hh⟩ := hP
  have hx := Bd.exec
  have hby := Bd.bytes
  have hml : c.maxLocals = 3 := hml0
  have hown : s.vm.findClass "tallymark/SplitMix64" = some m.cls := findClass_of_methodNamed Bd.named
  have hnm := (name_of_methodNamed Bd.named Bd.method).1
  have X0 : Stand p l e ({ frames := 1, cells := 0, slots := 0, locals := 12 } : Room) s m #[(.ref a1), (.long q0)] below meth c s₁ [] 0 0 := Stand.of_body Bd
  have e0 : s₁.heap = h0 := by rw [← hh, Bd.state]; rfl
  have N0 := Fr.nil n0
  refine own_start (ef_rmI m a1 q0) ?_
  have lt_a1 := own_ltN E_a1.lt
  refine o_aloadN X0 hx hby D1_0 rfl rfl ?_
  obtain ⟨T1, X1, e1, st1⟩ := initO X0 hx hZ hown (own_wd hw (i := 6) rfl) (own_wd hw (i := 7) rfl) (own_wd hw (i := 8) rfl) e0 (g := (mkF m 1 #[.val (.ref a1), .val (.long q0), .second] [(.ref a1)])) rfl (by rw [hml]; rfl) rfl (hb hby D1_1.1) (by decide) (W := 0) (by show 2 * 0 + _ ≤ _; exact Nat.le_of_eq rfl) (by decide)
  refine own_pre (A' := T1.setTop (mkF m 4 #[.val (.ref a1), .val (.long q0), .second] [])) st1 ?_
  refine o_aloadN X1 hx hby D1_4 rfl rfl ?_
  refine o_lloadN X1 hx hby D1_5 rfl ?_
  obtain ⟨T2, h2, X2, e2, W2, st2⟩ := putF X1 hx hZ hown (host := "") (Or.inl (own_wd hw (i := 9) rfl)) Via.refl e1 F_a1 E_a1 (Or.inl (own_wd hw (i := 10) rfl)) (own_wd hw (i := 1) rfl) (ty := .long) (by decide) rfl rfl (g := (mkF m 6 #[.val (.ref a1), .val (.long q0), .second] [(.long q0), (.ref a1)])) rfl rfl (hb hby D1_6.1)
  have Fw2 := F_a1.same W2
  have sz2 := own_leN (Keep.of_wr W2).1
  have N2 := Fr.snoc X2 N0 gn_a1
  refine own_pre (A' := T2.setTop (mkF m 9 #[.val (.ref a1), .val (.long q0), .second] [])) st2 ?_
  have c3_E_a1 := (E_a1.wr W2)
  have KK : Keep h0 h2 [a1] := ((Keep.refl h0 [a1]).wr W2 (Or.inl (by simp)))
  exact own_ret (v := none) X2 (fun h => by first | rfl | (rw [Bd.returns] at h; cases h)) (BodyLoose.notSynchronized Bd) (by decide) (by decide) (by rw [e2]; exact ⟨rfl, N2, KK, c3_E_a1, Fw2⟩) (fun fs hr => X2.returnOut hx Bd.returns (hb hby D1_9.1) hr)
theorem D3_0 : own_at prog_17_method_3_code 0 (.aload_n 0) 1 1 := ⟨by decide +kernel, rfl⟩
theorem D3_1 : own_at prog_17_method_3_code 1 (.dup) 1 2 := ⟨by decide +kernel, rfl⟩
theorem D3_2 : own_at prog_17_method_3_code 2 (.getfield 7) 3 5 := ⟨by decide +kernel, rfl⟩
theorem D3_5 : own_at prog_17_method_3_code 5 (.ldc2_w 13) 3 8 := ⟨by decide +kernel, rfl⟩
theorem D3_8 : own_at prog_17_method_3_code 8 (.ladd) 1 9 := ⟨by decide +kernel, rfl⟩
theorem D3_9 : own_at prog_17_method_3_code 9 (.putfield 7) 3 12 := ⟨by decide +kernel, rfl⟩
theorem D3_12 : own_at prog_17_method_3_code 12 (.aload_n 0) 1 13 := ⟨by decide +kernel, rfl⟩
theorem D3_13 : own_at prog_17_method_3_code 13 (.getfield 7) 3 16 := ⟨by decide +kernel, rfl⟩
theorem D3_16 : own_at prog_17_method_3_code 16 (.lstore_n 1) 1 17 := ⟨by decide +kernel, rfl⟩
theorem D3_17 : own_at prog_17_method_3_code 17 (.lload_n 1) 1 18 := ⟨by decide +kernel, rfl⟩
theorem D3_18 : own_at prog_17_method_3_code 18 (.lload_n 1) 1 19 := ⟨by decide +kernel, rfl⟩
theorem D3_19 : own_at prog_17_method_3_code 19 (.bipush 30) 2 21 := ⟨by decide +kernel, rfl⟩
theorem D3_21 : own_at prog_17_method_3_code 21 (.lushr) 1 22 := ⟨by decide +kernel, rfl⟩
theorem D3_22 : own_at prog_17_method_3_code 22 (.lxor) 1 23 := ⟨by decide +kernel, rfl⟩
theorem D3_23 : own_at prog_17_method_3_code 23 (.ldc2_w 15) 3 26 := ⟨by decide +kernel, rfl⟩
theorem D3_26 : own_at prog_17_method_3_code 26 (.lmul) 1 27 := ⟨by decide +kernel, rfl⟩
theorem D3_27 : own_at prog_17_method_3_code 27 (.lstore_n 1) 1 28 := ⟨by decide +kernel, rfl⟩
theorem D3_28 : own_at prog_17_method_3_code 28 (.lload_n 1) 1 29 := ⟨by decide +kernel, rfl⟩
theorem D3_29 : own_at prog_17_method_3_code 29 (.lload_n 1) 1 30 := ⟨by decide +kernel, rfl⟩
theorem D3_30 : own_at prog_17_method_3_code 30 (.bipush 27) 2 32 := ⟨by decide +kernel, rfl⟩
theorem D3_32 : own_at prog_17_method_3_code 32 (.lushr) 1 33 := ⟨by decide +kernel, rfl⟩
theorem D3_33 : own_at prog_17_method_3_code 33 (.lxor) 1 34 := ⟨by decide +kernel, rfl⟩
theorem D3_34 : own_at prog_17_method_3_code 34 (.ldc2_w 17) 3 37 := ⟨by decide +kernel, rfl⟩
theorem D3_37 : own_at prog_17_method_3_code 37 (.lmul) 1 38 := ⟨by decide +kernel, rfl⟩
theorem D3_38 : own_at prog_17_method_3_code 38 (.lstore_n 1) 1 39 := ⟨by decide +kernel, rfl⟩
theorem D3_39 : own_at prog_17_method_3_code 39 (.lload_n 1) 1 40 := ⟨by decide +kernel, rfl⟩
theorem D3_40 : own_at prog_17_method_3_code 40 (.lload_n 1) 1 41 := ⟨by decide +kernel, rfl⟩
theorem D3_41 : own_at prog_17_method_3_code 41 (.bipush 31) 2 43 := ⟨by decide +kernel, rfl⟩
theorem D3_43 : own_at prog_17_method_3_code 43 (.lushr) 1 44 := ⟨by decide +kernel, rfl⟩
theorem D3_44 : own_at prog_17_method_3_code 44 (.lxor) 1 45 := ⟨by decide +kernel, rfl⟩
theorem D3_45 : own_at prog_17_method_3_code 45 (.lreturn) 1 46 := ⟨by decide +kernel, rfl⟩
theorem ef_rmN (m : MethodId) (a1 : Addr) : entryFrame m #[(.ref a1)] 3 = mkF m 0 #[.val (.ref a1), .unset, .unset] [] := by first | (simp [entryFrame, mkF, argsToLocals, Value.category]; done) | rfl
set_option maxRecDepth 65536 in
set_option maxHeartbeats 40000000 in
theorem rmN (l : Launch) (Z : State) (a0 : Array Value) (hw : ∀ d ∈ tables_1, d.before a0 Z = true) (ws : List Jvm.Cond) (a1 : Addr) (x0 : Int64) (h0 : Heap) (n0 : Nat) (Z0 : n0 ≤ h0.size) (gn_a1 : n0 ≤ a1) (E_a1 : Exa Z h0 a1 "tallymark/SplitMix64") (F_a1 : Fld Z h0 a1 "tallymark/SplitMix64" "state" "J" (.long x0)) :
    MetFree l (⟨"tallymark/SplitMix64", "nextLong", "()J"⟩ : MethodName) (head1 (Jvm.Cond.code (⟨"tallymark/SplitMix64", "nextLong", "()J"⟩ : MethodName) prog_17_method_3_code 3 (some .long) :: ws) ({ frames := 0, cells := 0, slots := 0, locals := 0 } : Room)) (fun a U => a = #[(.ref a1)] ∧ Z.Warmed39 U.vm ∧ U.heap = h0) (fun _ _ _ _ _ => True) (fun _ U o U' => ∃ v L, o = .returned v ∧ own_QN Z a1 x0 h0 n0 v U'.heap L ∧ FrameEnd U o U' L ({ frames := 0, cells := 0, slots := 0, locals := 0 } : Room).cells ({ frames := 0, cells := 0, slots := 0, locals := 0 } : Room).slots) := by
  refine MetFree.of_bodySF (plainFor_of_name pn_tallymark_SplitMix64) hisR ?_
  intro p e s m args below meth c s₁ Bd hml0 hP hK
  obtain ⟨rfl, hZ, hh⟩ := hP
  have hx := Bd.exec
  have hby := Bd.bytes
  have hml : c.maxLocals = 3 := hml0
  have hown : s.vm.findClass "tallymark/SplitMix64" = some m.cls := findClass_of_methodNamed Bd.named
  have hnm := (name_of_methodNamed Bd.named Bd.method).1
  have X0 : Stand p l e ({ frames := 0, cells := 0, slots := 0, locals := 0 } : Room) s m #[(.ref a1)] below meth c s₁ [] 0 0 := Stand.of_body Bd
  have e0 : s₁.heap = h0 := by rw [← hh, Bd.state]; rfl
  have N0 := Fr.nil n0
  refine own_start (ef_rmN m a1) ?_
  have lt_a1 := own_ltN E_a1.lt
  refine o_aloadN X0 hx hby D3_0 rfl rfl ?_
  refine o_dup X0 hx hby D3_1 rfl ?_
  obtain ⟨T1, X1, e1, st1⟩ := getF X0 hx hZ hown (host := "") (Or.inl (own_wd hw (i := 9) rfl)) Via.refl e0 F_a1 (g := (mkF m 2 #[.val (.ref a1), .unset, .unset] [(.ref a1), (.ref a1)])) rfl rfl (hb hby D3_2.1)
  refine own_pre (A' := T1.setTop (mkF m 5 #[.val (.ref a1), .unset, .unset] [(.long x0), (.ref a1)])) st1 ?_
  refine o_ldc2 X1 hx hby hown (mvT hZ (own_wd hw (i := 16) rfl)) D3_5 ?_
  refine o_ladd X1 hx hby D3_8 ?_
  obtain ⟨T2, h2, X2, e2, W2, st2⟩ := putF X1 hx hZ hown (host := "") (Or.inl (own_wd hw (i := 9) rfl)) Via.refl e1 F_a1 E_a1 (Or.inl (own_wd hw (i := 10) rfl)) (own_wd hw (i := 1) rfl) (ty := .long) (by decide) rfl rfl (g := (mkF m 9 #[.val (.ref a1), .unset, .unset] [(.long (x0 + (-7046029254386353131 : Int64))), (.ref a1)])) rfl rfl (hb hby D3_9.1)
  have Fw2 := F_a1.same W2
  have sz2 := own_leN (Keep.of_wr W2).1
  have N2 := Fr.snoc X2 N0 gn_a1
  refine own_pre (A' := T2.setTop (mkF m 12 #[.val (.ref a1), .unset, .unset] [])) st2 ?_
  refine o_aloadN X2 hx hby D3_12 rfl rfl ?_
  obtain ⟨T3, X3, e3, st3⟩ := getF X2 hx hZ hown (host := "") (Or.inl (own_wd hw (i := 9) rfl)) Via.refl e2 Fw2 (g := (mkF m 13 #[.val (.ref a1), .unset, .unset] [(.ref a1)])) rfl rfl (hb hby D3_13.1)
  refine own_pre (A' := T3.setTop (mkF m 16 #[.val (.ref a1), .unset, .unset] [(.long (x0 + (-7046029254386353131 : Int64)))])) st3 ?_
  refine o_lstoreN X3 hx hby D3_16 (l' := #[.val (.ref a1), .val (.long (x0 + (-7046029254386353131 : Int64))), .second]) rfl ?_
  refine o_lloadN X3 hx hby D3_17 rfl ?_
  refine o_lloadN X3 hx hby D3_18 rfl ?_
  refine o_bipush X3 hx hby D3_19 (v := 30) rfl ?_
  refine o_lushr X3 hx hby D3_21 ?_
  refine o_lxor X3 hx hby D3_22 ?_
  refine o_ldc2 X3 hx hby hown (mvT hZ (own_wd hw (i := 17) rfl)) D3_23 ?_
  refine o_lmul X3 hx hby D3_26 ?_
  refine o_lstoreN X3 hx hby D3_27 (l' := #[.val (.ref a1), .val (.long (((x0 + (-7046029254386353131 : Int64)) ^^^ (((x0 + (-7046029254386353131 : Int64)).toUInt64 >>> ((30 : Int32) &&& 0x3f).toInt64.toUInt64).toInt64)) * (-4658895280553007687 : Int64))), .second]) rfl ?_
  show own_Fin p.tables e below (own_R s below (own_QN Z a1 x0 h0 n0) ({ frames := 0, cells := 0, slots := 0, locals := 0 } : Room).cells ({ frames := 0, cells := 0, slots := 0, locals := 0 } : Room).slots) (T3.setTop (mkF m 28 #[.val (.ref a1), .val (.long (own_m1 (x0 + (-7046029254386353131 : Int64)))), .second] []))
  refine o_lloadN X3 hx hby D3_28 rfl ?_
  refine o_lloadN X3 hx hby D3_29 rfl ?_
  refine o_bipush X3 hx hby D3_30 (v := 27) rfl ?_
  refine o_lushr X3 hx hby D3_32 ?_
  refine o_lxor X3 hx hby D3_33 ?_
  refine o_ldc2 X3 hx hby hown (mvT hZ (own_wd hw (i := 18) rfl)) D3_34 ?_
  refine o_lmul X3 hx hby D3_37 ?_
  refine o_lstoreN X3 hx hby D3_38 (l' := #[.val (.ref a1), .val (.long (((own_m1 (x0 + (-7046029254386353131 : Int64))) ^^^ (((own_m1 (x0 + (-7046029254386353131 : Int64))).toUInt64 >>> ((27 : Int32) &&& 0x3f).toInt64.toUInt64).toInt64)) * (-7723592293110705685 : Int64))), .second]) rfl ?_
  show own_Fin p.tables e below (own_R s below (own_QN Z a1 x0 h0 n0) ({ frames := 0, cells := 0, slots := 0, locals := 0 } : Room).cells ({ frames := 0, cells := 0, slots := 0, locals := 0 } : Room).slots) (T3.setTop (mkF m 39 #[.val (.ref a1), .val (.long (own_m2 (own_m1 (x0 + (-7046029254386353131 : Int64))))), .second] []))
  refine o_lloadN X3 hx hby D3_39 rfl ?_
  refine o_lloadN X3 hx hby D3_40 rfl ?_
  refine o_bipush X3 hx hby D3_41 (v := 31) rfl ?_
  refine o_lushr X3 hx hby D3_43 ?_
  refine o_lxor X3 hx hby D3_44 ?_
  have c4_E_a1 := (E_a1.wr W2)
  have KK : Keep h0 h2 [a1] := ((Keep.refl h0 [a1]).wr W2 (Or.inl (by simp)))
  exact own_ret (v := some (.long (own_m3 (own_m2 (own_m1 (x0 + (-7046029254386353131 : Int64))))))) X3 (fun h => by first | rfl | (rw [Bd.returns] at h; cases h)) (BodyLoose.notSynchronized Bd) (by decide) (by decide) (by rw [e3]; exact ⟨rfl, N2, KK, c4_E_a1, Fw2⟩) (fun fs hr => X3.lreturnOut hx Bd.returns (hb hby D3_45.1) hr)
theorem D4_0 : own_at prog_17_method_2_code 0 (.aload_n 0) 1 1 := ⟨by decide +kernel, rfl⟩
theorem D4_1 : own_at prog_17_method_2_code 1 (.getfield 7) 3 4 := ⟨by decide +kernel, rfl⟩
theorem D4_4 : own_at prog_17_method_2_code 4 (.lreturn) 1 5 := ⟨by decide +kernel, rfl⟩
theorem ef_rmS (m : MethodId) (a1 : Addr) : entryFrame m #[(.ref a1)] 1 = mkF m 0 #[.val (.ref a1)] [] := by first | (simp [entryFrame, mkF, argsToLocals, Value.category]; done) | rfl
set_option maxRecDepth 65536 in
set_option maxHeartbeats 40000000 in
theorem rmS (l : Launch) (Z : State) (a0 : Array Value) (hw : ∀ d ∈ tables_1, d.before a0 Z = true) (ws : List Jvm.Cond) (a1 : Addr) (x0 : Int64) (h0 : Heap) (n0 : Nat) (Z0 : n0 ≤ h0.size) (F_a1 : Fld Z h0 a1 "tallymark/SplitMix64" "state" "J" (.long x0)) :
    MetFree l (⟨"tallymark/SplitMix64", "state", "()J"⟩ : MethodName) (head1 (Jvm.Cond.code (⟨"tallymark/SplitMix64", "state", "()J"⟩ : MethodName) prog_17_method_2_code 1 (some .long) :: ws) ({ frames := 0, cells := 0, slots := 0, locals := 0 } : Room)) (fun a U => a = #[(.ref a1)] ∧ Z.Warmed39 U.vm ∧ U.heap = h0) (fun _ _ _ _ _ => True) (fun _ U o U' => ∃ v L, o = .returned v ∧ own_QP (.long x0) h0 n0 v U'.heap L ∧ FrameEnd U o U' L ({ frames := 0, cells := 0, slots := 0, locals := 0 } : Room).cells ({ frames := 0, cells := 0, slots := 0, locals := 0 } : Room).slots) := by
  refine MetFree.of_bodySF (plainFor_of_name pn_tallymark_SplitMix64) hisR ?_
  intro p e s m args below meth c s₁ Bd hml0 hP hK
  obtain ⟨rfl, hZ, hh⟩ := hP
  have hx := Bd.exec
  have hby := Bd.bytes
  have hml : c.maxLocals = 1 := hml0
  have hown : s.vm.findClass "tallymark/SplitMix64" = some m.cls := findClass_of_methodNamed Bd.named
  have hnm := (name_of_methodNamed Bd.named Bd.method).1
  have X0 : Stand p l e ({ frames := 0, cells := 0, slots := 0, locals := 0 } : Room) s m #[(.ref a1)] below meth c s₁ [] 0 0 := Stand.of_body Bd
  have e0 : s₁.heap = h0 := by rw [← hh, Bd.state]; rfl
  have N0 := Fr.nil n0
  refine own_start (ef_rmS m a1) ?_
  refine o_aloadN X0 hx hby D4_0 rfl rfl ?_
  obtain ⟨T1, X1, e1, st1⟩ := getF X0 hx hZ hown (host := "") (Or.inl (own_wd hw (i := 9) rfl)) Via.refl e0 F_a1 (g := (mkF m 1 #[.val (.ref a1)] [(.ref a1)])) rfl rfl (hb hby D4_1.1)
  refine own_pre (A' := T1.setTop (mkF m 4 #[.val (.ref a1)] [(.long x0)])) st1 ?_
  exact own_ret (v := some (.long x0)) X1 (fun h => by first | rfl | (rw [Bd.returns] at h; cases h)) (BodyLoose.notSynchronized Bd) (by decide) (by decide) (⟨rfl, N0, e1⟩) (fun fs hr => X1.lreturnOut hx Bd.returns (hb hby D4_4.1) hr)
theorem D6_0 : own_at method_2_code 0 (.lload_n 0) 1 1 := ⟨by decide +kernel, rfl⟩
theorem D6_1 : own_at method_2_code 1 (.lstore_n 2) 1 2 := ⟨by decide +kernel, rfl⟩
theorem D6_2 : own_at method_2_code 2 (.lload_n 2) 1 3 := ⟨by decide +kernel, rfl⟩
theorem D6_3 : own_at method_2_code 3 (.ldc2_w 7) 3 6 := ⟨by decide +kernel, rfl⟩
theorem D6_6 : own_at method_2_code 6 (.lload_n 0) 1 7 := ⟨by decide +kernel, rfl⟩
theorem D6_7 : own_at method_2_code 7 (.lload_n 2) 1 8 := ⟨by decide +kernel, rfl⟩
theorem D6_8 : own_at method_2_code 8 (.lmul) 1 9 := ⟨by decide +kernel, rfl⟩
theorem D6_9 : own_at method_2_code 9 (.lsub) 1 10 := ⟨by decide +kernel, rfl⟩
theorem D6_10 : own_at method_2_code 10 (.lmul) 1 11 := ⟨by decide +kernel, rfl⟩
theorem D6_11 : own_at method_2_code 11 (.lstore_n 2) 1 12 := ⟨by decide +kernel, rfl⟩
theorem D6_12 : own_at method_2_code 12 (.lload_n 2) 1 13 := ⟨by decide +kernel, rfl⟩
theorem D6_13 : own_at method_2_code 13 (.ldc2_w 7) 3 16 := ⟨by decide +kernel, rfl⟩
theorem D6_16 : own_at method_2_code 16 (.lload_n 0) 1 17 := ⟨by decide +kernel, rfl⟩
theorem D6_17 : own_at method_2_code 17 (.lload_n 2) 1 18 := ⟨by decide +kernel, rfl⟩
theorem D6_18 : own_at method_2_code 18 (.lmul) 1 19 := ⟨by decide +kernel, rfl⟩
theorem D6_19 : own_at method_2_code 19 (.lsub) 1 20 := ⟨by decide +kernel, rfl⟩
theorem D6_20 : own_at method_2_code 20 (.lmul) 1 21 := ⟨by decide +kernel, rfl⟩
theorem D6_21 : own_at method_2_code 21 (.lstore_n 2) 1 22 := ⟨by decide +kernel, rfl⟩
theorem D6_22 : own_at method_2_code 22 (.lload_n 2) 1 23 := ⟨by decide +kernel, rfl⟩
theorem D6_23 : own_at method_2_code 23 (.ldc2_w 7) 3 26 := ⟨by decide +kernel, rfl⟩
theorem D6_26 : own_at method_2_code 26 (.lload_n 0) 1 27 := ⟨by decide +kernel, rfl⟩
theorem D6_27 : own_at method_2_code 27 (.lload_n 2) 1 28 := ⟨by decide +kernel, rfl⟩
theorem D6_28 : own_at method_2_code 28 (.lmul) 1 29 := ⟨by decide +kernel, rfl⟩
theorem D6_29 : own_at method_2_code 29 (.lsub) 1 30 := ⟨by decide +kernel, rfl⟩
theorem D6_30 : own_at method_2_code 30 (.lmul) 1 31 := ⟨by decide +kernel, rfl⟩
theorem D6_31 : own_at method_2_code 31 (.lstore_n 2) 1 32 := ⟨by decide +kernel, rfl⟩
theorem D6_32 : own_at method_2_code 32 (.lload_n 2) 1 33 := ⟨by decide +kernel, rfl⟩
theorem D6_33 : own_at method_2_code 33 (.ldc2_w 7) 3 36 := ⟨by decide +kernel, rfl⟩
theorem D6_36 : own_at method_2_code 36 (.lload_n 0) 1 37 := ⟨by decide +kernel, rfl⟩
theorem D6_37 : own_at method_2_code 37 (.lload_n 2) 1 38 := ⟨by decide +kernel, rfl⟩
theorem D6_38 : own_at method_2_code 38 (.lmul) 1 39 := ⟨by decide +kernel, rfl⟩
theorem D6_39 : own_at method_2_code 39 (.lsub) 1 40 := ⟨by decide +kernel, rfl⟩
theorem D6_40 : own_at method_2_code 40 (.lmul) 1 41 := ⟨by decide +kernel, rfl⟩
theorem D6_41 : own_at method_2_code 41 (.lstore_n 2) 1 42 := ⟨by decide +kernel, rfl⟩
theorem D6_42 : own_at method_2_code 42 (.lload_n 2) 1 43 := ⟨by decide +kernel, rfl⟩
theorem D6_43 : own_at method_2_code 43 (.ldc2_w 7) 3 46 := ⟨by decide +kernel, rfl⟩
theorem D6_46 : own_at method_2_code 46 (.lload_n 0) 1 47 := ⟨by decide +kernel, rfl⟩
theorem D6_47 : own_at method_2_code 47 (.lload_n 2) 1 48 := ⟨by decide +kernel, rfl⟩
theorem D6_48 : own_at method_2_code 48 (.lmul) 1 49 := ⟨by decide +kernel, rfl⟩
theorem D6_49 : own_at method_2_code 49 (.lsub) 1 50 := ⟨by decide +kernel, rfl⟩
theorem D6_50 : own_at method_2_code 50 (.lmul) 1 51 := ⟨by decide +kernel, rfl⟩
theorem D6_51 : own_at method_2_code 51 (.lstore_n 2) 1 52 := ⟨by decide +kernel, rfl⟩
theorem D6_52 : own_at method_2_code 52 (.lload_n 2) 1 53 := ⟨by decide +kernel, rfl⟩
theorem D6_53 : own_at method_2_code 53 (.ldc2_w 7) 3 56 := ⟨by decide +kernel, rfl⟩
theorem D6_56 : own_at method_2_code 56 (.lload_n 0) 1 57 := ⟨by decide +kernel, rfl⟩
theorem D6_57 : own_at method_2_code 57 (.lload_n 2) 1 58 := ⟨by decide +kernel, rfl⟩
theorem D6_58 : own_at method_2_code 58 (.lmul) 1 59 := ⟨by decide +kernel, rfl⟩
theorem D6_59 : own_at method_2_code 59 (.lsub) 1 60 := ⟨by decide +kernel, rfl⟩
theorem D6_60 : own_at method_2_code 60 (.lmul) 1 61 := ⟨by decide +kernel, rfl⟩
theorem D6_61 : own_at method_2_code 61 (.lstore_n 2) 1 62 := ⟨by decide +kernel, rfl⟩
theorem D6_62 : own_at method_2_code 62 (.lload_n 2) 1 63 := ⟨by decide +kernel, rfl⟩
theorem D6_63 : own_at method_2_code 63 (.lreturn) 1 64 := ⟨by decide +kernel, rfl⟩
theorem pn_tallymark_SplitMix64NextLongPinLaw : plainName "tallymark/SplitMix64NextLongPinLaw" = true := by first | (simp [plainName, overriddenIn]; done) | decide +kernel
theorem ef_rmV (m : MethodId) (p0 : Int64) : entryFrame m #[(.long p0)] 4 = mkF m 0 #[.val (.long p0), .second, .unset, .unset] [] := by first | (simp [entryFrame, mkF, argsToLocals, Value.category]; done) | rfl
set_option maxRecDepth 65536 in
set_option maxHeartbeats 40000000 in
theorem rmV (l : Launch) (Z : State) (a0 : Array Value) (hw : ∀ d ∈ tables_1, d.before a0 Z = true) (ws : List Jvm.Cond) (p0 : Int64)  (h0 : Heap) (n0 : Nat) (Z0 : n0 ≤ h0.size)  :
    MetFree l (⟨"tallymark/SplitMix64NextLongPinLaw", "inverse", "(J)J"⟩ : MethodName) (head1 (Jvm.Cond.code (⟨"tallymark/SplitMix64NextLongPinLaw", "inverse", "(J)J"⟩ : MethodName) method_2_code 4 (some .long) :: ws) ({ frames := 0, cells := 0, slots := 0, locals := 0 } : Room)) (fun a U => a = #[(.long p0)] ∧ Z.Warmed39 U.vm ∧ U.heap = h0) (fun _ _ _ _ _ => True) (fun _ U o U' => ∃ v L, o = .returned v ∧ own_QP (.long (own_inv p0)) h0 n0 v U'.heap L ∧ FrameEnd U o U' L ({ frames := 0, cells := 0, slots := 0, locals := 0 } : Room).cells ({ frames := 0, cells := 0, slots := 0, locals := 0 } : Room).slots) := by
  refine MetFree.of_bodySF (plainFor_of_name pn_tallymark_SplitMix64NextLongPinLaw) hisR ?_
  intro p e s m args below meth c s₁ Bd hml0 hP hK
  obtain ⟨rfl, hZ, hh⟩ := hP
  have hx := Bd.exec
  have hby := Bd.bytes
  have hml : c.maxLocals = 4 := hml0
  have hown : s.vm.findClass "tallymark/SplitMix64NextLongPinLaw" = some m.cls := findClass_of_methodNamed Bd.named
  have hnm := (name_of_methodNamed Bd.named Bd.method).1
  have X0 : Stand p l e ({ frames := 0, cells := 0, slots := 0, locals := 0 } : Room) s m #[(.long p0)] below meth c s₁ [] 0 0 := Stand.of_body Bd
  have e0 : s₁.heap = h0 := by rw [← hh, Bd.state]; rfl
  have N0 := Fr.nil n0
  refine own_start (ef_rmV m p0) ?_
  refine o_lloadN X0 hx hby D6_0 rfl ?_
  refine o_lstoreN X0 hx hby D6_1 (l' := #[.val (.long p0), .second, .val (.long p0), .second]) rfl ?_
  refine o_lloadN X0 hx hby D6_2 rfl ?_
  refine o_ldc2 X0 hx hby hown (mvT hZ (own_wd hw (i := 33) rfl)) D6_3 ?_
  refine o_lloadN X0 hx hby D6_6 rfl ?_
  refine o_lloadN X0 hx hby D6_7 rfl ?_
  refine o_lmul X0 hx hby D6_8 ?_
  refine o_lsub X0 hx hby D6_9 ?_
  refine o_lmul X0 hx hby D6_10 ?_
  refine o_lstoreN X0 hx hby D6_11 (l' := #[.val (.long p0), .second, .val (.long (p0 * ((2 : Int64) - (p0 * p0)))), .second]) rfl ?_
  show own_Fin p.tables e below (own_R s below (own_QP (.long (own_inv p0)) h0 n0) ({ frames := 0, cells := 0, slots := 0, locals := 0 } : Room).cells ({ frames := 0, cells := 0, slots := 0, locals := 0 } : Room).slots) (s₁.setTop (mkF m 12 #[.val (.long p0), .second, .val (.long (own_nw p0 p0)), .second] []))
  refine o_lloadN X0 hx hby D6_12 rfl ?_
  refine o_ldc2 X0 hx hby hown (mvT hZ (own_wd hw (i := 33) rfl)) D6_13 ?_
  refine o_lloadN X0 hx hby D6_16 rfl ?_
  refine o_lloadN X0 hx hby D6_17 rfl ?_
  refine o_lmul X0 hx hby D6_18 ?_
  refine o_lsub X0 hx hby D6_19 ?_
  refine o_lmul X0 hx hby D6_20 ?_
  refine o_lstoreN X0 hx hby D6_21 (l' := #[.val (.long p0), .second, .val (.long ((own_nw p0 p0) * ((2 : Int64) - (p0 * (own_nw p0 p0))))), .second]) rfl ?_
  show own_Fin p.tables e below (own_R s below (own_QP (.long (own_inv p0)) h0 n0) ({ frames := 0, cells := 0, slots := 0, locals := 0 } : Room).cells ({ frames := 0, cells := 0, slots := 0, locals := 0 } : Room).slots) (s₁.setTop (mkF m 22 #[.val (.long p0), .second, .val (.long (own_nw p0 (own_nw p0 p0))), .second] []))
  refine o_lloadN X0 hx hby D6_22 rfl ?_
  refine o_ldc2 X0 hx hby hown (mvT hZ (own_wd hw (i := 33) rfl)) D6_23 ?_
  refine o_lloadN X0 hx hby D6_26 rfl ?_
  refine o_lloadN X0 hx hby D6_27 rfl ?_
  refine o_lmul X0 hx hby D6_28 ?_
  refine o_lsub X0 hx hby D6_29 ?_
  refine o_lmul X0 hx hby D6_30 ?_
  refine o_lstoreN X0 hx hby D6_31 (l' := #[.val (.long p0), .second, .val (.long ((own_nw p0 (own_nw p0 p0)) * ((2 : Int64) - (p0 * (own_nw p0 (own_nw p0 p0)))))), .second]) rfl ?_
  show own_Fin p.tables e below (own_R s below (own_QP (.long (own_inv p0)) h0 n0) ({ frames := 0, cells := 0, slots := 0, locals := 0 } : Room).cells ({ frames := 0, cells := 0, slots := 0, locals := 0 } : Room).slots) (s₁.setTop (mkF m 32 #[.val (.long p0), .second, .val (.long (own_nw p0 (own_nw p0 (own_nw p0 p0)))), .second] []))
  refine o_lloadN X0 hx hby D6_32 rfl ?_
  refine o_ldc2 X0 hx hby hown (mvT hZ (own_wd hw (i := 33) rfl)) D6_33 ?_
  refine o_lloadN X0 hx hby D6_36 rfl ?_
  refine o_lloadN X0 hx hby D6_37 rfl ?_
  refine o_lmul X0 hx hby D6_38 ?_
  refine o_lsub X0 hx hby D6_39 ?_
  refine o_lmul X0 hx hby D6_40 ?_
  refine o_lstoreN X0 hx hby D6_41 (l' := #[.val (.long p0), .second, .val (.long ((own_nw p0 (own_nw p0 (own_nw p0 p0))) * ((2 : Int64) - (p0 * (own_nw p0 (own_nw p0 (own_nw p0 p0))))))), .second]) rfl ?_
  show own_Fin p.tables e below (own_R s below (own_QP (.long (own_inv p0)) h0 n0) ({ frames := 0, cells := 0, slots := 0, locals := 0 } : Room).cells ({ frames := 0, cells := 0, slots := 0, locals := 0 } : Room).slots) (s₁.setTop (mkF m 42 #[.val (.long p0), .second, .val (.long (own_nw p0 (own_nw p0 (own_nw p0 (own_nw p0 p0))))), .second] []))
  refine o_lloadN X0 hx hby D6_42 rfl ?_
  refine o_ldc2 X0 hx hby hown (mvT hZ (own_wd hw (i := 33) rfl)) D6_43 ?_
  refine o_lloadN X0 hx hby D6_46 rfl ?_
  refine o_lloadN X0 hx hby D6_47 rfl ?_
  refine o_lmul X0 hx hby D6_48 ?_
  refine o_lsub X0 hx hby D6_49 ?_
  refine o_lmul X0 hx hby D6_50 ?_
  refine o_lstoreN X0 hx hby D6_51 (l' := #[.val (.long p0), .second, .val (.long ((own_nw p0 (own_nw p0 (own_nw p0 (own_nw p0 p0)))) * ((2 : Int64) - (p0 * (own_nw p0 (own_nw p0 (own_nw p0 (own_nw p0 p0)))))))), .second]) rfl ?_
  show own_Fin p.tables e below (own_R s below (own_QP (.long (own_inv p0)) h0 n0) ({ frames := 0, cells := 0, slots := 0, locals := 0 } : Room).cells ({ frames := 0, cells := 0, slots := 0, locals := 0 } : Room).slots) (s₁.setTop (mkF m 52 #[.val (.long p0), .second, .val (.long (own_nw p0 (own_nw p0 (own_nw p0 (own_nw p0 (own_nw p0 p0)))))), .second] []))
  refine o_lloadN X0 hx hby D6_52 rfl ?_
  refine o_ldc2 X0 hx hby hown (mvT hZ (own_wd hw (i := 33) rfl)) D6_53 ?_
  refine o_lloadN X0 hx hby D6_56 rfl ?_
  refine o_lloadN X0 hx hby D6_57 rfl ?_
  refine o_lmul X0 hx hby D6_58 ?_
  refine o_lsub X0 hx hby D6_59 ?_
  refine o_lmul X0 hx hby D6_60 ?_
  refine o_lstoreN X0 hx hby D6_61 (l' := #[.val (.long p0), .second, .val (.long ((own_nw p0 (own_nw p0 (own_nw p0 (own_nw p0 (own_nw p0 p0))))) * ((2 : Int64) - (p0 * (own_nw p0 (own_nw p0 (own_nw p0 (own_nw p0 (own_nw p0 p0))))))))), .second]) rfl ?_
  show own_Fin p.tables e below (own_R s below (own_QP (.long (own_inv p0)) h0 n0) ({ frames := 0, cells := 0, slots := 0, locals := 0 } : Room).cells ({ frames := 0, cells := 0, slots := 0, locals := 0 } : Room).slots) (s₁.setTop (mkF m 62 #[.val (.long p0), .second, .val (.long (own_nw p0 (own_nw p0 (own_nw p0 (own_nw p0 (own_nw p0 (own_nw p0 p0))))))), .second] []))
  refine o_lloadN X0 hx hby D6_62 rfl ?_
  exact own_ret (v := some (.long (own_nw p0 (own_nw p0 (own_nw p0 (own_nw p0 (own_nw p0 (own_nw p0 p0)))))))) X0 (fun h => by first | rfl | (rw [Bd.returns] at h; cases h)) (BodyLoose.notSynchronized Bd) (by decide) (by decide) (⟨rfl, N0, e0⟩) (fun fs hr => X0.lreturnOut hx Bd.returns (hb hby D6_63.1) hr)
theorem pd__40J_41J : parseMethodDescriptor "(J)J" = some ⟨[.long], some .long⟩ := by decide +kernel
theorem D5_0 : own_at method_3_code 0 (.lload_n 0) 1 1 := ⟨by decide +kernel, rfl⟩
theorem D5_1 : own_at method_3_code 1 (.lload_n 0) 1 2 := ⟨by decide +kernel, rfl⟩
theorem D5_2 : own_at method_3_code 2 (.bipush 31) 2 4 := ⟨by decide +kernel, rfl⟩
theorem D5_4 : own_at method_3_code 4 (.lushr) 1 5 := ⟨by decide +kernel, rfl⟩
theorem D5_5 : own_at method_3_code 5 (.lxor) 1 6 := ⟨by decide +kernel, rfl⟩
theorem D5_6 : own_at method_3_code 6 (.lload_n 0) 1 7 := ⟨by decide +kernel, rfl⟩
theorem D5_7 : own_at method_3_code 7 (.bipush 62) 2 9 := ⟨by decide +kernel, rfl⟩
theorem D5_9 : own_at method_3_code 9 (.lushr) 1 10 := ⟨by decide +kernel, rfl⟩
theorem D5_10 : own_at method_3_code 10 (.lxor) 1 11 := ⟨by decide +kernel, rfl⟩
theorem D5_11 : own_at method_3_code 11 (.lstore_n 2) 1 12 := ⟨by decide +kernel, rfl⟩
theorem D5_12 : own_at method_3_code 12 (.lload_n 2) 1 13 := ⟨by decide +kernel, rfl⟩
theorem D5_13 : own_at method_3_code 13 (.ldc2_w 11) 3 16 := ⟨by decide +kernel, rfl⟩
theorem D5_16 : own_at method_3_code 16 (.invokestatic 13) 3 19 := ⟨by decide +kernel, rfl⟩
theorem D5_19 : own_at method_3_code 19 (.lmul) 1 20 := ⟨by decide +kernel, rfl⟩
theorem D5_20 : own_at method_3_code 20 (.lstore 4) 2 22 := ⟨by decide +kernel, rfl⟩
theorem D5_22 : own_at method_3_code 22 (.lload 4) 2 24 := ⟨by decide +kernel, rfl⟩
theorem D5_24 : own_at method_3_code 24 (.lload 4) 2 26 := ⟨by decide +kernel, rfl⟩
theorem D5_26 : own_at method_3_code 26 (.bipush 27) 2 28 := ⟨by decide +kernel, rfl⟩
theorem D5_28 : own_at method_3_code 28 (.lushr) 1 29 := ⟨by decide +kernel, rfl⟩
theorem D5_29 : own_at method_3_code 29 (.lxor) 1 30 := ⟨by decide +kernel, rfl⟩
theorem D5_30 : own_at method_3_code 30 (.lload 4) 2 32 := ⟨by decide +kernel, rfl⟩
theorem D5_32 : own_at method_3_code 32 (.bipush 54) 2 34 := ⟨by decide +kernel, rfl⟩
theorem D5_34 : own_at method_3_code 34 (.lushr) 1 35 := ⟨by decide +kernel, rfl⟩
theorem D5_35 : own_at method_3_code 35 (.lxor) 1 36 := ⟨by decide +kernel, rfl⟩
theorem D5_36 : own_at method_3_code 36 (.lstore 6) 2 38 := ⟨by decide +kernel, rfl⟩
theorem D5_38 : own_at method_3_code 38 (.lload 6) 2 40 := ⟨by decide +kernel, rfl⟩
theorem D5_40 : own_at method_3_code 40 (.ldc2_w 17) 3 43 := ⟨by decide +kernel, rfl⟩
theorem D5_43 : own_at method_3_code 43 (.invokestatic 13) 3 46 := ⟨by decide +kernel, rfl⟩
theorem D5_46 : own_at method_3_code 46 (.lmul) 1 47 := ⟨by decide +kernel, rfl⟩
theorem D5_47 : own_at method_3_code 47 (.lstore 8) 2 49 := ⟨by decide +kernel, rfl⟩
theorem D5_49 : own_at method_3_code 49 (.lload 8) 2 51 := ⟨by decide +kernel, rfl⟩
theorem D5_51 : own_at method_3_code 51 (.lload 8) 2 53 := ⟨by decide +kernel, rfl⟩
theorem D5_53 : own_at method_3_code 53 (.bipush 30) 2 55 := ⟨by decide +kernel, rfl⟩
theorem D5_55 : own_at method_3_code 55 (.lushr) 1 56 := ⟨by decide +kernel, rfl⟩
theorem D5_56 : own_at method_3_code 56 (.lxor) 1 57 := ⟨by decide +kernel, rfl⟩
theorem D5_57 : own_at method_3_code 57 (.lload 8) 2 59 := ⟨by decide +kernel, rfl⟩
theorem D5_59 : own_at method_3_code 59 (.bipush 60) 2 61 := ⟨by decide +kernel, rfl⟩
theorem D5_61 : own_at method_3_code 61 (.lushr) 1 62 := ⟨by decide +kernel, rfl⟩
theorem D5_62 : own_at method_3_code 62 (.lxor) 1 63 := ⟨by decide +kernel, rfl⟩
theorem D5_63 : own_at method_3_code 63 (.lreturn) 1 64 := ⟨by decide +kernel, rfl⟩
theorem ef_rmU (m : MethodId) (p0 : Int64) : entryFrame m #[(.long p0)] 10 = mkF m 0 #[.val (.long p0), .second, .unset, .unset, .unset, .unset, .unset, .unset, .unset, .unset] [] := by first | (simp [entryFrame, mkF, argsToLocals, Value.category]; done) | rfl
set_option maxRecDepth 65536 in
set_option maxHeartbeats 40000000 in
theorem rmU (l : Launch) (Z : State) (a0 : Array Value) (hw : ∀ d ∈ tables_1, d.before a0 Z = true) (ws : List Jvm.Cond) (p0 : Int64)  (h0 : Heap) (n0 : Nat) (Z0 : n0 ≤ h0.size)  :
    MetFree l (⟨"tallymark/SplitMix64NextLongPinLaw", "unmix", "(J)J"⟩ : MethodName) (head1 (Jvm.Cond.code (⟨"tallymark/SplitMix64NextLongPinLaw", "unmix", "(J)J"⟩ : MethodName) method_3_code 10 (some .long) :: ws) ({ frames := 1, cells := 0, slots := 0, locals := 17 } : Room)) (fun a U => a = #[(.long p0)] ∧ Z.Warmed39 U.vm ∧ U.heap = h0) (fun _ _ _ _ _ => True) (fun _ U o U' => ∃ v L, o = .returned v ∧ own_QP (.long (own_unmix p0)) h0 n0 v U'.heap L ∧ FrameEnd U o U' L ({ frames := 1, cells := 0, slots := 0, locals := 17 } : Room).cells ({ frames := 1, cells := 0, slots := 0, locals := 17 } : Room).slots) := by
  refine MetFree.of_bodySF (plainFor_of_name pn_tallymark_SplitMix64NextLongPinLaw) hisR ?_
  intro p e s m args below meth c s₁ Bd hml0 hP hK
  obtain ⟨rfl, hZ, hh⟩ := hP
  have hx := Bd.exec
  have hby := Bd.bytes
  have hml : c.maxLocals = 10 := hml0
  have hown : s.vm.findClass "tallymark/SplitMix64NextLongPinLaw" = some m.cls := findClass_of_methodNamed Bd.named
  have hnm := (name_of_methodNamed Bd.named Bd.method).1
  have X0 : Stand p l e ({ frames := 1, cells := 0, slots := 0, locals := 17 } : Room) s m #[(.long p0)] below meth c s₁ [] 0 0 := Stand.of_body Bd
  have e0 : s₁.heap = h0 := by rw [← hh, Bd.state]; rfl
  have N0 := Fr.nil n0
  refine own_start (ef_rmU m p0) ?_
  refine o_lloadN X0 hx hby D5_0 rfl ?_
  refine o_lloadN X0 hx hby D5_1 rfl ?_
  refine o_bipush X0 hx hby D5_2 (v := 31) rfl ?_
  refine o_lushr X0 hx hby D5_4 ?_
  refine o_lxor X0 hx hby D5_5 ?_
  refine o_lloadN X0 hx hby D5_6 rfl ?_
  refine o_bipush X0 hx hby D5_7 (v := 62) rfl ?_
  refine o_lushr X0 hx hby D5_9 ?_
  refine o_lxor X0 hx hby D5_10 ?_
  refine o_lstoreN X0 hx hby D5_11 (l' := #[.val (.long p0), .second, .val (.long ((p0 ^^^ ((p0.toUInt64 >>> ((31 : Int32) &&& 0x3f).toInt64.toUInt64).toInt64)) ^^^ ((p0.toUInt64 >>> ((62 : Int32) &&& 0x3f).toInt64.toUInt64).toInt64))), .second, .unset, .unset, .unset, .unset, .unset, .unset]) rfl ?_
  show own_Fin p.tables e below (own_R s below (own_QP (.long (own_unmix p0)) h0 n0) ({ frames := 1, cells := 0, slots := 0, locals := 17 } : Room).cells ({ frames := 1, cells := 0, slots := 0, locals := 17 } : Room).slots) (s₁.setTop (mkF m 12 #[.val (.long p0), .second, .val (.long (own_u3 p0)), .second, .unset, .unset, .unset, .unset, .unset, .unset] []))
  refine o_lloadN X0 hx hby D5_12 rfl ?_
  refine o_ldc2 X0 hx hby hown (mvT hZ (own_wd hw (i := 29) rfl)) D5_13 ?_
  obtain ⟨_, _, ⟨T1, L1, k1, n1⟩, -, X1, ⟨Lc1, hQ1, l1, y1, z1⟩, st1⟩ := Jvm.LawKit.callS X0 hx (y := (⟨"tallymark/SplitMix64NextLongPinLaw", "inverse", "(J)J"⟩ : MethodName)) hown (mvT hZ (own_wd hw (i := 30) rfl)) (mvT hZ (own_wd hw (i := 31) rfl)) (mvT hZ (own_wd hw (i := 27) rfl)) (mvT hZ (own_wd hw (i := 32) rfl)) (by decide) (backOf (W := 2) (rmV l Z a0 hw [] (-7723592293110705685 : Int64)  h0 n0 Z0 ) hZ (own_wd hw (i := 32) rfl) (own_wd hw (i := 27) rfl) (by decide) (by decide)) (g := (mkF m 16 #[.val (.long p0), .second, .val (.long (own_u3 p0)), .second, .unset, .unset, .unset, .unset, .unset, .unset] [(.long (-7723592293110705685 : Int64)), (.long (own_u3 p0))])) rfl (by rw [hml]; rfl) (argsL := [(.long (-7723592293110705685 : Int64))]) (rest := [(.long (own_u3 p0))]) (lenOf pd__40J_41J rfl) rfl (by show 2 * 0 + _ ≤ _; exact Nat.le_of_eq rfl) (hb hby D5_16.1) (fun _ _ => ⟨rfl, e0, (by decide : 0 + 0 ≤ _), (by decide : 0 + 0 ≤ _)⟩)
  dsimp only [Pt.U, Pt.locs, Pt.cells, Pt.slots] at X1 l1 y1 z1 st1 hQ1
  subst l1 y1 z1
  obtain ⟨rfl, N1q, e1⟩ := hQ1
  have N1 := Fr.app N0 N1q
  refine own_pre (A' := T1.setTop (mkF m 19 #[.val (.long p0), .second, .val (.long (own_u3 p0)), .second, .unset, .unset, .unset, .unset, .unset, .unset] [(.long (own_inv (-7723592293110705685 : Int64))), (.long (own_u3 p0))])) st1 ?_
  refine o_lmul X1 hx hby D5_19 ?_
  refine o_lstore X1 hx hby D5_20 (l' := #[.val (.long p0), .second, .val (.long (own_u3 p0)), .second, .val (.long ((own_u3 p0) * (own_inv (-7723592293110705685 : Int64)))), .second, .unset, .unset, .unset, .unset]) rfl ?_
  refine o_lload X1 hx hby D5_22 rfl ?_
  refine o_lload X1 hx hby D5_24 rfl ?_
  refine o_bipush X1 hx hby D5_26 (v := 27) rfl ?_
  refine o_lushr X1 hx hby D5_28 ?_
  refine o_lxor X1 hx hby D5_29 ?_
  refine o_lload X1 hx hby D5_30 rfl ?_
  refine o_bipush X1 hx hby D5_32 (v := 54) rfl ?_
  refine o_lushr X1 hx hby D5_34 ?_
  refine o_lxor X1 hx hby D5_35 ?_
  refine o_lstore X1 hx hby D5_36 (l' := #[.val (.long p0), .second, .val (.long (own_u3 p0)), .second, .val (.long ((own_u3 p0) * (own_inv (-7723592293110705685 : Int64)))), .second, .val (.long ((((own_u3 p0) * (own_inv (-7723592293110705685 : Int64))) ^^^ ((((own_u3 p0) * (own_inv (-7723592293110705685 : Int64))).toUInt64 >>> ((27 : Int32) &&& 0x3f).toInt64.toUInt64).toInt64)) ^^^ ((((own_u3 p0) * (own_inv (-7723592293110705685 : Int64))).toUInt64 >>> ((54 : Int32) &&& 0x3f).toInt64.toUInt64).toInt64))), .second, .unset, .unset]) rfl ?_
  show own_Fin p.tables e below (own_R s below (own_QP (.long (own_unmix p0)) h0 n0) ({ frames := 1, cells := 0, slots := 0, locals := 17 } : Room).cells ({ frames := 1, cells := 0, slots := 0, locals := 17 } : Room).slots) (T1.setTop (mkF m 38 #[.val (.long p0), .second, .val (.long (own_u3 p0)), .second, .val (.long ((own_u3 p0) * (own_inv (-7723592293110705685 : Int64)))), .second, .val (.long (own_u2 ((own_u3 p0) * (own_inv (-7723592293110705685 : Int64))))), .second, .unset, .unset] []))
  refine o_lload X1 hx hby D5_38 rfl ?_
  refine o_ldc2 X1 hx hby hown (mvT hZ (own_wd hw (i := 34) rfl)) D5_40 ?_
  obtain ⟨_, _, ⟨T2, L2, k2, n2⟩, -, X2, ⟨Lc2, hQ2, l2, y2, z2⟩, st2⟩ := Jvm.LawKit.callS X1 hx (y := (⟨"tallymark/SplitMix64NextLongPinLaw", "inverse", "(J)J"⟩ : MethodName)) hown (mvT hZ (own_wd hw (i := 30) rfl)) (mvT hZ (own_wd hw (i := 31) rfl)) (mvT hZ (own_wd hw (i := 27) rfl)) (mvT hZ (own_wd hw (i := 32) rfl)) (by decide) (backOf (W := 2) (rmV l Z a0 hw [] (-4658895280553007687 : Int64)  h0 n0 Z0 ) hZ (own_wd hw (i := 32) rfl) (own_wd hw (i := 27) rfl) (by decide) (by decide)) (g := (mkF m 43 #[.val (.long p0), .second, .val (.long (own_u3 p0)), .second, .val (.long ((own_u3 p0) * (own_inv (-7723592293110705685 : Int64)))), .second, .val (.long (own_u2 ((own_u3 p0) * (own_inv (-7723592293110705685 : Int64))))), .second, .unset, .unset] [(.long (-4658895280553007687 : Int64)), (.long (own_u2 ((own_u3 p0) * (own_inv (-7723592293110705685 : Int64)))))])) rfl (by rw [hml]; rfl) (argsL := [(.long (-4658895280553007687 : Int64))]) (rest := [(.long (own_u2 ((own_u3 p0) * (own_inv (-7723592293110705685 : Int64)))))]) (lenOf pd__40J_41J rfl) rfl (by show 2 * 0 + _ ≤ _; exact Nat.le_of_eq rfl) (hb hby D5_43.1) (fun _ _ => ⟨rfl, e1, (by decide : 0 + 0 ≤ _), (by decide : 0 + 0 ≤ _)⟩)
  dsimp only [Pt.U, Pt.locs, Pt.cells, Pt.slots] at X2 l2 y2 z2 st2 hQ2
  subst l2 y2 z2
  obtain ⟨rfl, N2q, e2⟩ := hQ2
  have N2 := Fr.app N1 N2q
  refine own_pre (A' := T2.setTop (mkF m 46 #[.val (.long p0), .second, .val (.long (own_u3 p0)), .second, .val (.long ((own_u3 p0) * (own_inv (-7723592293110705685 : Int64)))), .second, .val (.long (own_u2 ((own_u3 p0) * (own_inv (-7723592293110705685 : Int64))))), .second, .unset, .unset] [(.long (own_inv (-4658895280553007687 : Int64))), (.long (own_u2 ((own_u3 p0) * (own_inv (-7723592293110705685 : Int64)))))])) st2 ?_
  refine o_lmul X2 hx hby D5_46 ?_
  refine o_lstore X2 hx hby D5_47 (l' := #[.val (.long p0), .second, .val (.long (own_u3 p0)), .second, .val (.long ((own_u3 p0) * (own_inv (-7723592293110705685 : Int64)))), .second, .val (.long (own_u2 ((own_u3 p0) * (own_inv (-7723592293110705685 : Int64))))), .second, .val (.long ((own_u2 ((own_u3 p0) * (own_inv (-7723592293110705685 : Int64)))) * (own_inv (-4658895280553007687 : Int64)))), .second]) rfl ?_
  refine o_lload X2 hx hby D5_49 rfl ?_
  refine o_lload X2 hx hby D5_51 rfl ?_
  refine o_bipush X2 hx hby D5_53 (v := 30) rfl ?_
  refine o_lushr X2 hx hby D5_55 ?_
  refine o_lxor X2 hx hby D5_56 ?_
  refine o_lload X2 hx hby D5_57 rfl ?_
  refine o_bipush X2 hx hby D5_59 (v := 60) rfl ?_
  refine o_lushr X2 hx hby D5_61 ?_
  refine o_lxor X2 hx hby D5_62 ?_
  exact own_ret (v := some (.long ((((own_u2 ((own_u3 p0) * (own_inv (-7723592293110705685 : Int64)))) * (own_inv (-4658895280553007687 : Int64))) ^^^ ((((own_u2 ((own_u3 p0) * (own_inv (-7723592293110705685 : Int64)))) * (own_inv (-4658895280553007687 : Int64))).toUInt64 >>> ((30 : Int32) &&& 0x3f).toInt64.toUInt64).toInt64)) ^^^ ((((own_u2 ((own_u3 p0) * (own_inv (-7723592293110705685 : Int64)))) * (own_inv (-4658895280553007687 : Int64))).toUInt64 >>> ((60 : Int32) &&& 0x3f).toInt64.toUInt64).toInt64)))) X2 (fun h => by first | rfl | (rw [Bd.returns] at h; cases h)) (BodyLoose.notSynchronized Bd) (by decide) (by decide) (⟨rfl, N2, e2⟩) (fun fs hr => X2.lreturnOut hx Bd.returns (hb hby D5_63.1) hr)
theorem pd__40J_41V : parseMethodDescriptor "(J)V" = some ⟨[.long], none⟩ := by decide +kernel
theorem pd__40_41J : parseMethodDescriptor "()J" = some ⟨[], some .long⟩ := by decide +kernel
theorem D0_0 : own_at code 0 (.new 19) 3 3 := ⟨at_0, rfl⟩
theorem D0_3 : own_at code 3 (.dup) 1 4 := ⟨at_3, rfl⟩
theorem D0_4 : own_at code 4 (.lload_n 0) 1 5 := ⟨at_4, rfl⟩
theorem D0_5 : own_at code 5 (.invokespecial 21) 3 8 := ⟨at_5, rfl⟩
theorem D0_8 : own_at code 8 (.astore_n 2) 1 9 := ⟨at_8, rfl⟩
theorem D0_9 : own_at code 9 (.aload_n 2) 1 10 := ⟨at_9, rfl⟩
theorem D0_10 : own_at code 10 (.invokevirtual 24) 3 13 := ⟨at_10, rfl⟩
theorem D0_13 : own_at code 13 (.lstore_n 3) 1 14 := ⟨at_13, rfl⟩
theorem D0_14 : own_at code 14 (.aload_n 2) 1 15 := ⟨at_14, rfl⟩
theorem D0_15 : own_at code 15 (.invokevirtual 28) 3 18 := ⟨at_15, rfl⟩
theorem D0_18 : own_at code 18 (.lstore 5) 2 20 := ⟨at_18, rfl⟩
theorem D0_20 : own_at code 20 (.aload_n 2) 1 21 := ⟨at_20, rfl⟩
theorem D0_21 : own_at code 21 (.invokevirtual 24) 3 24 := ⟨at_21, rfl⟩
theorem D0_24 : own_at code 24 (.lstore 7) 2 26 := ⟨at_24, rfl⟩
theorem D0_26 : own_at code 26 (.aload_n 2) 1 27 := ⟨at_26, rfl⟩
theorem D0_27 : own_at code 27 (.invokevirtual 28) 3 30 := ⟨at_27, rfl⟩
theorem D0_30 : own_at code 30 (.lstore 9) 2 32 := ⟨at_30, rfl⟩
theorem D0_32 : own_at code 32 (.lload 5) 2 34 := ⟨at_32, rfl⟩
theorem D0_34 : own_at code 34 (.lload_n 0) 1 35 := ⟨at_34, rfl⟩
theorem D0_35 : own_at code 35 (.ldc2_w 31) 3 38 := ⟨at_35, rfl⟩
theorem D0_38 : own_at code 38 (.ladd) 1 39 := ⟨at_38, rfl⟩
theorem D0_39 : own_at code 39 (.lcmp) 1 40 := ⟨at_39, rfl⟩
theorem D0_40 : own_at code 40 (.ifCond .ne 7) 3 43 := ⟨at_40, rfl⟩
theorem D0_43 : own_at code 43 (.iconst 1) 1 44 := ⟨at_43, rfl⟩
theorem D0_44 : own_at code 44 (.goto 4) 3 47 := ⟨at_44, rfl⟩
theorem D0_48 : own_at code 48 (.istore 11) 2 50 := ⟨at_48, rfl⟩
theorem D0_50 : own_at code 50 (.iload 11) 2 52 := ⟨at_50, rfl⟩
theorem D0_52 : own_at code 52 (.ifCond .eq 22) 3 55 := ⟨at_52, rfl⟩
theorem D0_55 : own_at code 55 (.lload 9) 2 57 := ⟨at_55, rfl⟩
theorem D0_57 : own_at code 57 (.lload_n 0) 1 58 := ⟨at_57, rfl⟩
theorem D0_58 : own_at code 58 (.ldc2_w 31) 3 61 := ⟨at_58, rfl⟩
theorem D0_61 : own_at code 61 (.ladd) 1 62 := ⟨at_61, rfl⟩
theorem D0_62 : own_at code 62 (.ldc2_w 31) 3 65 := ⟨at_62, rfl⟩
theorem D0_65 : own_at code 65 (.ladd) 1 66 := ⟨at_65, rfl⟩
theorem D0_66 : own_at code 66 (.lcmp) 1 67 := ⟨at_66, rfl⟩
theorem D0_67 : own_at code 67 (.ifCond .ne 7) 3 70 := ⟨at_67, rfl⟩
theorem D0_70 : own_at code 70 (.iconst 1) 1 71 := ⟨at_70, rfl⟩
theorem D0_71 : own_at code 71 (.goto 4) 3 74 := ⟨at_71, rfl⟩
theorem D0_75 : own_at code 75 (.istore 11) 2 77 := ⟨at_75, rfl⟩
theorem D0_77 : own_at code 77 (.iload 11) 2 79 := ⟨at_77, rfl⟩
theorem D0_79 : own_at code 79 (.ifCond .eq 17) 3 82 := ⟨at_79, rfl⟩
theorem D0_82 : own_at code 82 (.lload_n 3) 1 83 := ⟨at_82, rfl⟩
theorem D0_83 : own_at code 83 (.invokestatic 33) 3 86 := ⟨at_83, rfl⟩
theorem D0_86 : own_at code 86 (.lload 5) 2 88 := ⟨at_86, rfl⟩
theorem D0_88 : own_at code 88 (.lcmp) 1 89 := ⟨at_88, rfl⟩
theorem D0_89 : own_at code 89 (.ifCond .ne 7) 3 92 := ⟨at_89, rfl⟩
theorem D0_92 : own_at code 92 (.iconst 1) 1 93 := ⟨at_92, rfl⟩
theorem D0_93 : own_at code 93 (.goto 4) 3 96 := ⟨at_93, rfl⟩
theorem D0_97 : own_at code 97 (.istore 11) 2 99 := ⟨at_97, rfl⟩
theorem D0_99 : own_at code 99 (.iload 11) 2 101 := ⟨at_99, rfl⟩
theorem D0_101 : own_at code 101 (.ifCond .eq 18) 3 104 := ⟨at_101, rfl⟩
theorem D0_104 : own_at code 104 (.lload 7) 2 106 := ⟨at_104, rfl⟩
theorem D0_106 : own_at code 106 (.invokestatic 33) 3 109 := ⟨at_106, rfl⟩
theorem D0_109 : own_at code 109 (.lload 9) 2 111 := ⟨at_109, rfl⟩
theorem D0_111 : own_at code 111 (.lcmp) 1 112 := ⟨at_111, rfl⟩
theorem D0_112 : own_at code 112 (.ifCond .ne 7) 3 115 := ⟨at_112, rfl⟩
theorem D0_115 : own_at code 115 (.iconst 1) 1 116 := ⟨at_115, rfl⟩
theorem D0_116 : own_at code 116 (.goto 4) 3 119 := ⟨at_116, rfl⟩
theorem D0_120 : own_at code 120 (.istore 11) 2 122 := ⟨at_120, rfl⟩
theorem D0_122 : own_at code 122 (.iload 11) 2 124 := ⟨at_122, rfl⟩
theorem D0_124 : own_at code 124 (.ireturn) 1 125 := ⟨at_124, rfl⟩
theorem ef_rm0 (m : MethodId) (p0 : Int64) : entryFrame m #[(.long p0)] maxLocals = mkF m 0 #[.val (.long p0), .second, .unset, .unset, .unset, .unset, .unset, .unset, .unset, .unset, .unset, .unset] [] := by first | (simp [entryFrame, mkF, argsToLocals, Value.category, maxLocals]; done) | rfl
set_option maxRecDepth 65536 in
set_option maxHeartbeats 40000000 in
theorem rm0 (l : Launch) (Z : State) (a0 : Array Value) (hw : ∀ d ∈ tables_1, d.before a0 Z = true) (ws : List Jvm.Cond) (p0 : Int64)  (h0 : Heap) (n0 : Nat) (Z0 : n0 ≤ h0.size)  :
    MetFree l x (head1 (Jvm.Cond.code x code maxLocals ret :: ws) room_1) (fun a U => a = #[(.long p0)] ∧ Z.Warmed39 U.vm ∧ U.heap = h0) (fun _ _ _ _ _ => True) (fun _ U o U' => ∃ v L, o = .returned v ∧ own_Q0 n0 v U'.heap L ∧ FrameEnd U o U' L room_1.cells room_1.slots) := by
  refine MetFree.of_bodySF (plainFor_of_name pn_tallymark_SplitMix64NextLongPinLaw) hisR ?_
  intro p e s m args below meth c s₁ Bd hml0 hP hK
  obtain ⟨rfl, hZ, hh⟩ := hP
  have hx := Bd.exec
  have hby := Bd.bytes
  have hml : c.maxLocals = 12 := hml0
  have hown : s.vm.findClass "tallymark/SplitMix64NextLongPinLaw" = some m.cls := findClass_of_methodNamed Bd.named
  have hnm := (name_of_methodNamed Bd.named Bd.method).1
  have X0 : Stand p l e room_1 s m #[(.long p0)] below meth c s₁ [] 0 0 := Stand.of_body Bd
  have e0 : s₁.heap = h0 := by rw [← hh, Bd.state]; rfl
  have N0 := Fr.nil n0
  refine own_start (ef_rm0 m p0) ?_
  obtain ⟨T1, h1, X1, e1, E1, A1, D1, -, st1⟩ := newO X0 hx hZ hown (own_wd hw (i := 0) rfl) (own_wd hw (i := 1) rfl) (own_wd hw (i := 2) rfl) e0 (g := (mkF m 0 #[.val (.long p0), .second, .unset, .unset, .unset, .unset, .unset, .unset, .unset, .unset, .unset, .unset] [])) rfl (hb hby D0_0.1) (by decide) (by decide)
  obtain ⟨b1, g1⟩ : ∃ z : Nat, z = h0.size := ⟨_, rfl⟩
  rw [← g1] at A1 D1 st1
  have sz1 := own_leN E1.1
  have gn_b1 : n0 ≤ b1 := by omega
  have lt_b1 := own_ltN A1.lt
  have F_state_b1 : Fld Z h1 b1 "tallymark/SplitMix64" "state" "J" (.long (0 : Int64)) := D1 (Or.inl (own_wd hw (i := 10) rfl)) (ty := .long) (by decide)
  refine own_pre (A' := T1.setTop (mkF m 3 #[.val (.long p0), .second, .unset, .unset, .unset, .unset, .unset, .unset, .unset, .unset, .unset, .unset] [(.ref b1)])) st1 ?_
  refine o_dup X1 hx hby D0_3 rfl ?_
  refine o_lloadN X1 hx hby D0_4 rfl ?_
  obtain ⟨_, _, ⟨T2, L2, k2, n2⟩, -, X2, ⟨Lc2, hQ2, l2, y2, z2⟩, st2⟩ := X1.specialBack hx (y := (⟨"tallymark/SplitMix64", "<init>", "(J)V"⟩ : MethodName)) rfl hown (mvT hZ (own_wd hw (i := 3) rfl)) (mvT hZ (own_wd hw (i := 4) rfl)) (mvT hZ (own_wd hw (i := 5) rfl)) (by decide) (backOf (W := 1) (rmI l Z a0 hw [] b1 p0 _ h1 n0 (own_leN (by omega)) gn_b1 A1 F_state_b1) hZ (own_wd hw (i := 5) rfl) (own_wd hw (i := 2) rfl) (by decide) (by decide)) (g := (mkF m 5 #[.val (.long p0), .second, .unset, .unset, .unset, .unset, .unset, .unset, .unset, .unset, .unset, .unset] [(.long p0), (.ref b1), (.ref b1)])) rfl (by rw [hml]; rfl) (Steps.refl _) (a := b1) (argsL := [(.long p0)]) (rest := [(.ref b1)]) (lenOf pd__40J_41V rfl) rfl (by show 2 * 0 + _ ≤ _; exact Nat.le_of_eq rfl) (hb hby D0_5.1) (fun _ _ => ⟨rfl, e1, (by decide : 1 + 0 ≤ _), (by decide : 1 + 0 ≤ _)⟩)
  dsimp only [Pt.U, Pt.locs, Pt.cells, Pt.slots] at X2 l2 y2 z2 st2 hQ2
  subst l2 y2 z2
  obtain ⟨rfl, N2q, K2, Ei2, Fi2⟩ := hQ2
  have sz2 := own_leN K2.1
  have N2 := Fr.app N0 N2q
  refine own_pre (A' := T2.setTop (mkF m 8 #[.val (.long p0), .second, .unset, .unset, .unset, .unset, .unset, .unset, .unset, .unset, .unset, .unset] [(.ref b1)])) (fun t k => st2.trans k) ?_
  refine o_astoreN X2 hx hby D0_8 rfl (l' := #[.val (.long p0), .second, .val (.ref b1), .unset, .unset, .unset, .unset, .unset, .unset, .unset, .unset, .unset]) rfl ?_
  refine o_aloadN X2 hx hby D0_9 rfl rfl ?_
  obtain ⟨cq3, kq3, q3a, q3b, q3c⟩ := isOf hZ rfl Ei2
  obtain ⟨_, _, ⟨T3, L3, k3, n3⟩, -, X3, ⟨Lc3, hQ3, l3, y3, z3⟩, st3⟩ := X2.virtualBack hx (y := (⟨"tallymark/SplitMix64", "nextLong", "()J"⟩ : MethodName)) (z := (⟨"tallymark/SplitMix64", "nextLong", "()J"⟩ : MethodName)) hown (mvT hZ (own_wd hw (i := 11) rfl)) (mvT hZ (own_wd hw (i := 12) rfl)) (notFace_of_selects (args := #[]) (mvT hZ (own_wd hw (i := 14) rfl))) (mvT hZ (own_wd hw (i := 14) rfl)) (mvT hZ (own_wd hw (i := 13) rfl)) (by decide) (backOf (W := 0) (rmN l Z a0 hw [] b1 p0 T2.heap n0 (own_leN (by omega)) gn_b1 Ei2 Fi2) hZ (own_wd hw (i := 15) rfl) (own_wd hw (i := 2) rfl) (by decide) (by decide)) q3a q3c (g := (mkF m 10 #[.val (.long p0), .second, .val (.ref b1), .unset, .unset, .unset, .unset, .unset, .unset, .unset, .unset, .unset] [(.ref b1)])) rfl (by rw [hml]; rfl) (Steps.refl _) (argsL := []) (rest := []) (lenOf pd__40_41J rfl) rfl (by show 2 * 0 + _ ≤ _; exact Nat.le_of_eq rfl) (hb hby D0_10.1) (fun _ _ => ⟨rfl, rfl, (by decide : 1 + 0 ≤ _), (by decide : 1 + 0 ≤ _)⟩)
  dsimp only [Pt.U, Pt.locs, Pt.cells, Pt.slots] at X3 l3 y3 z3 st3 hQ3
  subst l3 y3 z3
  obtain ⟨rfl, N3q, K3, Ei3, Fi3⟩ := hQ3
  have sz3 := own_leN K3.1
  have N3 := Fr.app N2 N3q
  refine own_pre (A' := T3.setTop (mkF m 13 #[.val (.long p0), .second, .val (.ref b1), .unset, .unset, .unset, .unset, .unset, .unset, .unset, .unset, .unset] [(.long (own_m3 (own_m2 (own_m1 (p0 + (-7046029254386353131 : Int64))))))])) (fun t k => st3.trans k) ?_
  refine o_lstoreN X3 hx hby D0_13 (l' := #[.val (.long p0), .second, .val (.ref b1), .val (.long (own_m3 (own_m2 (own_m1 (p0 + (-7046029254386353131 : Int64)))))), .second, .unset, .unset, .unset, .unset, .unset, .unset, .unset]) rfl ?_
  refine o_aloadN X3 hx hby D0_14 rfl rfl ?_
  obtain ⟨cq4, kq4, q4a, q4b, q4c⟩ := isOf hZ rfl Ei3
  obtain ⟨_, _, ⟨T4, L4, k4, n4⟩, -, X4, ⟨Lc4, hQ4, l4, y4, z4⟩, st4⟩ := X3.virtualBack hx (y := (⟨"tallymark/SplitMix64", "state", "()J"⟩ : MethodName)) (z := (⟨"tallymark/SplitMix64", "state", "()J"⟩ : MethodName)) hown (mvT hZ (own_wd hw (i := 19) rfl)) (mvT hZ (own_wd hw (i := 20) rfl)) (notFace_of_selects (args := #[]) (mvT hZ (own_wd hw (i := 22) rfl))) (mvT hZ (own_wd hw (i := 22) rfl)) (mvT hZ (own_wd hw (i := 21) rfl)) (by decide) (backOf (W := 0) (rmS l Z a0 hw [] b1 (p0 + (-7046029254386353131 : Int64)) T3.heap n0 (own_leN (by omega)) Fi3) hZ (own_wd hw (i := 23) rfl) (own_wd hw (i := 2) rfl) (by decide) (by decide)) q4a q4c (g := (mkF m 15 #[.val (.long p0), .second, .val (.ref b1), .val (.long (own_m3 (own_m2 (own_m1 (p0 + (-7046029254386353131 : Int64)))))), .second, .unset, .unset, .unset, .unset, .unset, .unset, .unset] [(.ref b1)])) rfl (by rw [hml]; rfl) (Steps.refl _) (argsL := []) (rest := []) (lenOf pd__40_41J rfl) rfl (by show 2 * 0 + _ ≤ _; exact Nat.le_of_eq rfl) (hb hby D0_15.1) (fun _ _ => ⟨rfl, rfl, (by decide : 1 + 0 ≤ _), (by decide : 1 + 0 ≤ _)⟩)
  dsimp only [Pt.U, Pt.locs, Pt.cells, Pt.slots] at X4 l4 y4 z4 st4 hQ4
  subst l4 y4 z4
  obtain ⟨rfl, N4q, e4⟩ := hQ4
  have N4 := Fr.app N3 N4q
  refine own_pre (A' := T4.setTop (mkF m 18 #[.val (.long p0), .second, .val (.ref b1), .val (.long (own_m3 (own_m2 (own_m1 (p0 + (-7046029254386353131 : Int64)))))), .second, .unset, .unset, .unset, .unset, .unset, .unset, .unset] [(.long (p0 + (-7046029254386353131 : Int64)))])) (fun t k => st4.trans k) ?_
  refine o_lstore X4 hx hby D0_18 (l' := #[.val (.long p0), .second, .val (.ref b1), .val (.long (own_m3 (own_m2 (own_m1 (p0 + (-7046029254386353131 : Int64)))))), .second, .val (.long (p0 + (-7046029254386353131 : Int64))), .second, .unset, .unset, .unset, .unset, .unset]) rfl ?_
  refine o_aloadN X4 hx hby D0_20 rfl rfl ?_
  obtain ⟨cq5, kq5, q5a, q5b, q5c⟩ := isOf hZ e4 Ei3
  obtain ⟨_, _, ⟨T5, L5, k5, n5⟩, -, X5, ⟨Lc5, hQ5, l5, y5, z5⟩, st5⟩ := X4.virtualBack hx (y := (⟨"tallymark/SplitMix64", "nextLong", "()J"⟩ : MethodName)) (z := (⟨"tallymark/SplitMix64", "nextLong", "()J"⟩ : MethodName)) hown (mvT hZ (own_wd hw (i := 11) rfl)) (mvT hZ (own_wd hw (i := 12) rfl)) (notFace_of_selects (args := #[]) (mvT hZ (own_wd hw (i := 14) rfl))) (mvT hZ (own_wd hw (i := 14) rfl)) (mvT hZ (own_wd hw (i := 13) rfl)) (by decide) (backOf (W := 0) (rmN l Z a0 hw [] b1 (p0 + (-7046029254386353131 : Int64)) T3.heap n0 (own_leN (by omega)) gn_b1 Ei3 Fi3) hZ (own_wd hw (i := 15) rfl) (own_wd hw (i := 2) rfl) (by decide) (by decide)) q5a q5c (g := (mkF m 21 #[.val (.long p0), .second, .val (.ref b1), .val (.long (own_m3 (own_m2 (own_m1 (p0 + (-7046029254386353131 : Int64)))))), .second, .val (.long (p0 + (-7046029254386353131 : Int64))), .second, .unset, .unset, .unset, .unset, .unset] [(.ref b1)])) rfl (by rw [hml]; rfl) (Steps.refl _) (argsL := []) (rest := []) (lenOf pd__40_41J rfl) rfl (by show 2 * 0 + _ ≤ _; exact Nat.le_of_eq rfl) (hb hby D0_21.1) (fun _ _ => ⟨rfl, e4, (by decide : 1 + 0 ≤ _), (by decide : 1 + 0 ≤ _)⟩)
  dsimp only [Pt.U, Pt.locs, Pt.cells, Pt.slots] at X5 l5 y5 z5 st5 hQ5
  subst l5 y5 z5
  obtain ⟨rfl, N5q, K5, Ei5, Fi5⟩ := hQ5
  have sz5 := own_leN K5.1
  have N5 := Fr.app N4 N5q
  refine own_pre (A' := T5.setTop (mkF m 24 #[.val (.long p0), .second, .val (.ref b1), .val (.long (own_m3 (own_m2 (own_m1 (p0 + (-7046029254386353131 : Int64)))))), .second, .val (.long (p0 + (-7046029254386353131 : Int64))), .second, .unset, .unset, .unset, .unset, .unset] [(.long (own_m3 (own_m2 (own_m1 ((p0 + (-7046029254386353131 : Int64)) + (-7046029254386353131 : Int64))))))])) (fun t k => st5.trans k) ?_
  refine o_lstore X5 hx hby D0_24 (l' := #[.val (.long p0), .second, .val (.ref b1), .val (.long (own_m3 (own_m2 (own_m1 (p0 + (-7046029254386353131 : Int64)))))), .second, .val (.long (p0 + (-7046029254386353131 : Int64))), .second, .val (.long (own_m3 (own_m2 (own_m1 ((p0 + (-7046029254386353131 : Int64)) + (-7046029254386353131 : Int64)))))), .second, .unset, .unset, .unset]) rfl ?_
  refine o_aloadN X5 hx hby D0_26 rfl rfl ?_
  obtain ⟨cq6, kq6, q6a, q6b, q6c⟩ := isOf hZ rfl Ei5
  obtain ⟨_, _, ⟨T6, L6, k6, n6⟩, -, X6, ⟨Lc6, hQ6, l6, y6, z6⟩, st6⟩ := X5.virtualBack hx (y := (⟨"tallymark/SplitMix64", "state", "()J"⟩ : MethodName)) (z := (⟨"tallymark/SplitMix64", "state", "()J"⟩ : MethodName)) hown (mvT hZ (own_wd hw (i := 19) rfl)) (mvT hZ (own_wd hw (i := 20) rfl)) (notFace_of_selects (args := #[]) (mvT hZ (own_wd hw (i := 22) rfl))) (mvT hZ (own_wd hw (i := 22) rfl)) (mvT hZ (own_wd hw (i := 21) rfl)) (by decide) (backOf (W := 0) (rmS l Z a0 hw [] b1 ((p0 + (-7046029254386353131 : Int64)) + (-7046029254386353131 : Int64)) T5.heap n0 (own_leN (by omega)) Fi5) hZ (own_wd hw (i := 23) rfl) (own_wd hw (i := 2) rfl) (by decide) (by decide)) q6a q6c (g := (mkF m 27 #[.val (.long p0), .second, .val (.ref b1), .val (.long (own_m3 (own_m2 (own_m1 (p0 + (-7046029254386353131 : Int64)))))), .second, .val (.long (p0 + (-7046029254386353131 : Int64))), .second, .val (.long (own_m3 (own_m2 (own_m1 ((p0 + (-7046029254386353131 : Int64)) + (-7046029254386353131 : Int64)))))), .second, .unset, .unset, .unset] [(.ref b1)])) rfl (by rw [hml]; rfl) (Steps.refl _) (argsL := []) (rest := []) (lenOf pd__40_41J rfl) rfl (by show 2 * 0 + _ ≤ _; exact Nat.le_of_eq rfl) (hb hby D0_27.1) (fun _ _ => ⟨rfl, rfl, (by decide : 1 + 0 ≤ _), (by decide : 1 + 0 ≤ _)⟩)
  dsimp only [Pt.U, Pt.locs, Pt.cells, Pt.slots] at X6 l6 y6 z6 st6 hQ6
  subst l6 y6 z6
  obtain ⟨rfl, N6q, e6⟩ := hQ6
  have N6 := Fr.app N5 N6q
  refine own_pre (A' := T6.setTop (mkF m 30 #[.val (.long p0), .second, .val (.ref b1), .val (.long (own_m3 (own_m2 (own_m1 (p0 + (-7046029254386353131 : Int64)))))), .second, .val (.long (p0 + (-7046029254386353131 : Int64))), .second, .val (.long (own_m3 (own_m2 (own_m1 ((p0 + (-7046029254386353131 : Int64)) + (-7046029254386353131 : Int64)))))), .second, .unset, .unset, .unset] [(.long ((p0 + (-7046029254386353131 : Int64)) + (-7046029254386353131 : Int64)))])) (fun t k => st6.trans k) ?_
  refine o_lstore X6 hx hby D0_30 (l' := #[.val (.long p0), .second, .val (.ref b1), .val (.long (own_m3 (own_m2 (own_m1 (p0 + (-7046029254386353131 : Int64)))))), .second, .val (.long (p0 + (-7046029254386353131 : Int64))), .second, .val (.long (own_m3 (own_m2 (own_m1 ((p0 + (-7046029254386353131 : Int64)) + (-7046029254386353131 : Int64)))))), .second, .val (.long ((p0 + (-7046029254386353131 : Int64)) + (-7046029254386353131 : Int64))), .second, .unset]) rfl ?_
  refine o_lload X6 hx hby D0_32 rfl ?_
  refine o_lloadN X6 hx hby D0_34 rfl ?_
  refine o_ldc2 X6 hx hby hown (mvT hZ (own_wd hw (i := 24) rfl)) D0_35 ?_
  refine o_ladd X6 hx hby D0_38 ?_
  refine o_lcmp X6 hx hby D0_39 ?_
  refine o_ifN X6 hx hby D0_40 ((if0 _ _).trans (teq ((lw_eq (p0 + (-7046029254386353131 : Int64)) (p0 + (-7046029254386353131 : Int64))).mpr (rfl : (p0 + (-7046029254386353131 : Int64)) = (p0 + (-7046029254386353131 : Int64))))).2) ?_
  refine o_iconst X6 hx hby D0_43 (v := 1) rfl ?_
  refine o_goto X6 hx hby D0_44 (q := 48) (by decide) (by decide) ?_
  refine o_istore X6 hx hby D0_48 (l' := #[.val (.long p0), .second, .val (.ref b1), .val (.long (own_m3 (own_m2 (own_m1 (p0 + (-7046029254386353131 : Int64)))))), .second, .val (.long (p0 + (-7046029254386353131 : Int64))), .second, .val (.long (own_m3 (own_m2 (own_m1 ((p0 + (-7046029254386353131 : Int64)) + (-7046029254386353131 : Int64)))))), .second, .val (.long ((p0 + (-7046029254386353131 : Int64)) + (-7046029254386353131 : Int64))), .second, .val (.int (1 : Int32))]) rfl ?_
  refine o_iload X6 hx hby D0_50 rfl ?_
  refine o_ifN X6 hx hby D0_52 ((if0 _ _).trans (feq (by decide : ¬ ((1 : Int32) = (0 : Int32)))).1) ?_
  refine o_lload X6 hx hby D0_55 rfl ?_
  refine o_lloadN X6 hx hby D0_57 rfl ?_
  refine o_ldc2 X6 hx hby hown (mvT hZ (own_wd hw (i := 24) rfl)) D0_58 ?_
  refine o_ladd X6 hx hby D0_61 ?_
  refine o_ldc2 X6 hx hby hown (mvT hZ (own_wd hw (i := 24) rfl)) D0_62 ?_
  refine o_ladd X6 hx hby D0_65 ?_
  refine o_lcmp X6 hx hby D0_66 ?_
  refine o_ifN X6 hx hby D0_67 ((if0 _ _).trans (teq ((lw_eq ((p0 + (-7046029254386353131 : Int64)) + (-7046029254386353131 : Int64)) ((p0 + (-7046029254386353131 : Int64)) + (-7046029254386353131 : Int64))).mpr (rfl : ((p0 + (-7046029254386353131 : Int64)) + (-7046029254386353131 : Int64)) = ((p0 + (-7046029254386353131 : Int64)) + (-7046029254386353131 : Int64))))).2) ?_
  refine o_iconst X6 hx hby D0_70 (v := 1) rfl ?_
  refine o_goto X6 hx hby D0_71 (q := 75) (by decide) (by decide) ?_
  refine o_istore X6 hx hby D0_75 (l' := #[.val (.long p0), .second, .val (.ref b1), .val (.long (own_m3 (own_m2 (own_m1 (p0 + (-7046029254386353131 : Int64)))))), .second, .val (.long (p0 + (-7046029254386353131 : Int64))), .second, .val (.long (own_m3 (own_m2 (own_m1 ((p0 + (-7046029254386353131 : Int64)) + (-7046029254386353131 : Int64)))))), .second, .val (.long ((p0 + (-7046029254386353131 : Int64)) + (-7046029254386353131 : Int64))), .second, .val (.int (1 : Int32))]) rfl ?_
  refine o_iload X6 hx hby D0_77 rfl ?_
  refine o_ifN X6 hx hby D0_79 ((if0 _ _).trans (feq (by decide : ¬ ((1 : Int32) = (0 : Int32)))).1) ?_
  refine o_lloadN X6 hx hby D0_82 rfl ?_
  obtain ⟨_, _, ⟨T7, L7, k7, n7⟩, -, X7, ⟨Lc7, hQ7, l7, y7, z7⟩, st7⟩ := Jvm.LawKit.callS X6 hx (y := (⟨"tallymark/SplitMix64NextLongPinLaw", "unmix", "(J)J"⟩ : MethodName)) hown (mvT hZ (own_wd hw (i := 25) rfl)) (mvT hZ (own_wd hw (i := 26) rfl)) (mvT hZ (own_wd hw (i := 27) rfl)) (mvT hZ (own_wd hw (i := 28) rfl)) (by decide) (backOf (W := 0) (rmU l Z a0 hw [] (own_m3 (own_m2 (own_m1 (p0 + (-7046029254386353131 : Int64)))))  T5.heap n0 (by omega) ) hZ (own_wd hw (i := 28) rfl) (own_wd hw (i := 27) rfl) (by decide) (by decide)) (g := (mkF m 83 #[.val (.long p0), .second, .val (.ref b1), .val (.long (own_m3 (own_m2 (own_m1 (p0 + (-7046029254386353131 : Int64)))))), .second, .val (.long (p0 + (-7046029254386353131 : Int64))), .second, .val (.long (own_m3 (own_m2 (own_m1 ((p0 + (-7046029254386353131 : Int64)) + (-7046029254386353131 : Int64)))))), .second, .val (.long ((p0 + (-7046029254386353131 : Int64)) + (-7046029254386353131 : Int64))), .second, .val (.int (1 : Int32))] [(.long (own_m3 (own_m2 (own_m1 (p0 + (-7046029254386353131 : Int64))))))])) rfl (by rw [hml]; rfl) (argsL := [(.long (own_m3 (own_m2 (own_m1 (p0 + (-7046029254386353131 : Int64))))))]) (rest := []) (lenOf pd__40J_41J rfl) rfl (by show 2 * 0 + _ ≤ _; exact Nat.le_of_eq rfl) (hb hby D0_83.1) (fun _ _ => ⟨rfl, e6, (by decide : 1 + 0 ≤ _), (by decide : 1 + 0 ≤ _)⟩)
  dsimp only [Pt.U, Pt.locs, Pt.cells, Pt.slots] at X7 l7 y7 z7 st7 hQ7
  subst l7 y7 z7
  obtain ⟨rfl, N7q, e7⟩ := hQ7
  have N7 := Fr.app N6 N7q
  refine own_pre (A' := T7.setTop (mkF m 86 #[.val (.long p0), .second, .val (.ref b1), .val (.long (own_m3 (own_m2 (own_m1 (p0 + (-7046029254386353131 : Int64)))))), .second, .val (.long (p0 + (-7046029254386353131 : Int64))), .second, .val (.long (own_m3 (own_m2 (own_m1 ((p0 + (-7046029254386353131 : Int64)) + (-7046029254386353131 : Int64)))))), .second, .val (.long ((p0 + (-7046029254386353131 : Int64)) + (-7046029254386353131 : Int64))), .second, .val (.int (1 : Int32))] [(.long (own_unmix (own_m3 (own_m2 (own_m1 (p0 + (-7046029254386353131 : Int64)))))))])) st7 ?_
  refine o_lload X7 hx hby D0_86 rfl ?_
  refine o_lcmp X7 hx hby D0_88 ?_
  refine o_ifN X7 hx hby D0_89 ((if0 _ _).trans (teq ((lw_eq (own_unmix (own_m3 (own_m2 (own_m1 (p0 + (-7046029254386353131 : Int64)))))) (p0 + (-7046029254386353131 : Int64))).mpr (own_un _ : (own_unmix (own_m3 (own_m2 (own_m1 (p0 + (-7046029254386353131 : Int64)))))) = (p0 + (-7046029254386353131 : Int64))))).2) ?_
  refine o_iconst X7 hx hby D0_92 (v := 1) rfl ?_
  refine o_goto X7 hx hby D0_93 (q := 97) (by decide) (by decide) ?_
  refine o_istore X7 hx hby D0_97 (l' := #[.val (.long p0), .second, .val (.ref b1), .val (.long (own_m3 (own_m2 (own_m1 (p0 + (-7046029254386353131 : Int64)))))), .second, .val (.long (p0 + (-7046029254386353131 : Int64))), .second, .val (.long (own_m3 (own_m2 (own_m1 ((p0 + (-7046029254386353131 : Int64)) + (-7046029254386353131 : Int64)))))), .second, .val (.long ((p0 + (-7046029254386353131 : Int64)) + (-7046029254386353131 : Int64))), .second, .val (.int (1 : Int32))]) rfl ?_
  refine o_iload X7 hx hby D0_99 rfl ?_
  refine o_ifN X7 hx hby D0_101 ((if0 _ _).trans (feq (by decide : ¬ ((1 : Int32) = (0 : Int32)))).1) ?_
  refine o_lload X7 hx hby D0_104 rfl ?_
  obtain ⟨_, _, ⟨T8, L8, k8, n8⟩, -, X8, ⟨Lc8, hQ8, l8, y8, z8⟩, st8⟩ := Jvm.LawKit.callS X7 hx (y := (⟨"tallymark/SplitMix64NextLongPinLaw", "unmix", "(J)J"⟩ : MethodName)) hown (mvT hZ (own_wd hw (i := 25) rfl)) (mvT hZ (own_wd hw (i := 26) rfl)) (mvT hZ (own_wd hw (i := 27) rfl)) (mvT hZ (own_wd hw (i := 28) rfl)) (by decide) (backOf (W := 0) (rmU l Z a0 hw [] (own_m3 (own_m2 (own_m1 ((p0 + (-7046029254386353131 : Int64)) + (-7046029254386353131 : Int64)))))  T5.heap n0 (by omega) ) hZ (own_wd hw (i := 28) rfl) (own_wd hw (i := 27) rfl) (by decide) (by decide)) (g := (mkF m 106 #[.val (.long p0), .second, .val (.ref b1), .val (.long (own_m3 (own_m2 (own_m1 (p0 + (-7046029254386353131 : Int64)))))), .second, .val (.long (p0 + (-7046029254386353131 : Int64))), .second, .val (.long (own_m3 (own_m2 (own_m1 ((p0 + (-7046029254386353131 : Int64)) + (-7046029254386353131 : Int64)))))), .second, .val (.long ((p0 + (-7046029254386353131 : Int64)) + (-7046029254386353131 : Int64))), .second, .val (.int (1 : Int32))] [(.long (own_m3 (own_m2 (own_m1 ((p0 + (-7046029254386353131 : Int64)) + (-7046029254386353131 : Int64))))))])) rfl (by rw [hml]; rfl) (argsL := [(.long (own_m3 (own_m2 (own_m1 ((p0 + (-7046029254386353131 : Int64)) + (-7046029254386353131 : Int64))))))]) (rest := []) (lenOf pd__40J_41J rfl) rfl (by show 2 * 0 + _ ≤ _; exact Nat.le_of_eq rfl) (hb hby D0_106.1) (fun _ _ => ⟨rfl, e7, (by decide : 1 + 0 ≤ _), (by decide : 1 + 0 ≤ _)⟩)
  dsimp only [Pt.U, Pt.locs, Pt.cells, Pt.slots] at X8 l8 y8 z8 st8 hQ8
  subst l8 y8 z8
  obtain ⟨rfl, N8q, e8⟩ := hQ8
  have N8 := Fr.app N7 N8q
  refine own_pre (A' := T8.setTop (mkF m 109 #[.val (.long p0), .second, .val (.ref b1), .val (.long (own_m3 (own_m2 (own_m1 (p0 + (-7046029254386353131 : Int64)))))), .second, .val (.long (p0 + (-7046029254386353131 : Int64))), .second, .val (.long (own_m3 (own_m2 (own_m1 ((p0 + (-7046029254386353131 : Int64)) + (-7046029254386353131 : Int64)))))), .second, .val (.long ((p0 + (-7046029254386353131 : Int64)) + (-7046029254386353131 : Int64))), .second, .val (.int (1 : Int32))] [(.long (own_unmix (own_m3 (own_m2 (own_m1 ((p0 + (-7046029254386353131 : Int64)) + (-7046029254386353131 : Int64)))))))])) st8 ?_
  refine o_lload X8 hx hby D0_109 rfl ?_
  refine o_lcmp X8 hx hby D0_111 ?_
  refine o_ifN X8 hx hby D0_112 ((if0 _ _).trans (teq ((lw_eq (own_unmix (own_m3 (own_m2 (own_m1 ((p0 + (-7046029254386353131 : Int64)) + (-7046029254386353131 : Int64)))))) ((p0 + (-7046029254386353131 : Int64)) + (-7046029254386353131 : Int64))).mpr (own_un _ : (own_unmix (own_m3 (own_m2 (own_m1 ((p0 + (-7046029254386353131 : Int64)) + (-7046029254386353131 : Int64)))))) = ((p0 + (-7046029254386353131 : Int64)) + (-7046029254386353131 : Int64))))).2) ?_
  refine o_iconst X8 hx hby D0_115 (v := 1) rfl ?_
  refine o_goto X8 hx hby D0_116 (q := 120) (by decide) (by decide) ?_
  refine o_istore X8 hx hby D0_120 (l' := #[.val (.long p0), .second, .val (.ref b1), .val (.long (own_m3 (own_m2 (own_m1 (p0 + (-7046029254386353131 : Int64)))))), .second, .val (.long (p0 + (-7046029254386353131 : Int64))), .second, .val (.long (own_m3 (own_m2 (own_m1 ((p0 + (-7046029254386353131 : Int64)) + (-7046029254386353131 : Int64)))))), .second, .val (.long ((p0 + (-7046029254386353131 : Int64)) + (-7046029254386353131 : Int64))), .second, .val (.int (1 : Int32))]) rfl ?_
  refine o_iload X8 hx hby D0_122 rfl ?_
  exact own_ret (v := some (.int (1 : Int32))) X8 (fun h => by first | rfl | (rw [Bd.returns] at h; cases h)) (BodyLoose.notSynchronized Bd) (by decide) (by decide) (⟨rfl, N8⟩) (fun fs hr => retN X8 hx (t := .boolean) Bd.returns (by simp) (hb hby D0_124.1) hr)
set_option maxRecDepth 65536 in
set_option maxHeartbeats 40000000 in
theorem comes_1 {Post : Tables → Env → Array Value → State → Outcome → State → Prop} (hpost : ∀ tb e args s v u, (limb_1_1.after args s (.returned v) u = true ∧ limb_1_2.after args s (.returned v) u = true ∧ True) → FrameEnd s (.returned v) u (Jvm.fieldLocs frame_1_writes args s ++ Jvm.arrayLocs frame_1_arrays args s ++ Jvm.staticLocs frame_1_statics s) 16 128 → Post tb e args s (.returned v) u) :
    ArmFor flags0 classFile x code maxLocals ret World_1 tables_1 room_1 Calls_1 rest_1 Pre_1 Post := by
  intro l hfl _ _ p e ha hc hk s m args below hf hA hF happ hP
  obtain ⟨hcalls, hrest, hpre⟩ := hP
  obtain ⟨-, -, -, hnamed, -, -, -, hat⟩ := (Spec.applies_iff hf).mp happ
  obtain ⟨hg, hn⟩ := and_e (Cond.before_iff.mp (show (Jvm.Cond.and given_1 narrow_1).before args s = true from hpre))
  obtain ⟨gc, gr0⟩ := and_e hg
  obtain ⟨w0, rfl⟩ : ∃ w0 : Value, args = #[w0] := by
    have hs : args.size = 1 := by simpa [Cond.value, given_1] using gc
    obtain ⟨L⟩ := args
    match L, hs with
    | [w0], _ => exact ⟨w0, rfl⟩
  have hw := fun d (hd : d ∈ tables_1) => atoms_spec (ws := Jvm.Cond.code x code maxLocals ret :: tables_1) hat d (List.mem_cons_of_mem _ hd)
  obtain ⟨i0, ei0⟩ := isL_v gr0
  obtain rfl : w0 = (.long i0) := Option.some.inj ei0
  obtain ⟨n, o, h1, h2, h3, _, L, rfl, ⟨rfl, N⟩, hq⟩ := rm0 l s _ hw tables_1 i0 s.heap s.heap.size (Nat.le_refl _)  p e ha hc hk s m _ below hf ((Spec.applies_iff_loose hf).mp happ).1 ⟨rfl, State.Warmed39.refl s, rfl⟩ trivial
  refine ⟨n, _, h1, h2, h3, hpost _ _ _ _ _ _ ⟨Cond.after_iff.mpr rfl, Cond.after_iff.mpr (eq_i res_at (Term.int_eval (1)) rfl), trivial⟩ ⟨hq.1, hq.2.1, (hq.2.2.sift fun y hy => Or.inr (N y hy)).mono (by decide) (by decide)⟩⟩
theorem main_1_1 : Claimed_1_1 := comes_1 fun _ _ _ _ _ _ h hF => ⟨h.1, hF⟩
theorem main_1_2 : Claimed_1_2 := comes_1 fun _ _ _ _ _ _ h hF => ⟨h.2.1, hF⟩
end Jvm.Pilot.@@N@@
namespace Jvm.Pilot.@@N@@
open Jvm Jvm.ClassFile Sem Op Lib Jvm.Free Jvm.Stand Jvm.Pilot.@@N@@.Jvm.D
/-! MADE BY PROGRAM (witnessworld.py) out of the Statement's table words and the real class files: 9 classes; the members and pool entries that the words name. The judged class is class 1, her method 3. -/
namespace start1
open Jvm.ClassFile
def u (s : String) : CpInfo := .utf8 (stringToUtf16 s)
/-- a pool by its gaps: so many unusable entries, then the entry; so many at the end -/
def gap : Nat → List CpInfo → List CpInfo
  | 0, r => r
  | n + 1, r => .unusable :: gap n r
def poolList (es : List (Nat × CpInfo)) (last : Nat) : List CpInfo := es.foldr (fun e r => gap e.1 (e.2 :: r)) (gap last [])
def pool (es : List (Nat × CpInfo)) (last : Nat) : Array CpInfo := ⟨poolList es last⟩
def fileOf (pool : Array CpInfo) (this : Nat) (attrs : Array Attribute := #[]) (ms : Array MethodInfo := #[]) (fl : Nat := 33) (sup : Nat := 0) (ifs : Array Nat := #[]) (fds : Array FieldInfo := #[]) : ClassFile where
  minorVersion := 0
  majorVersion := 65
  constantPool := pool
  accessFlags := fl
  thisClass := this
  superClass := sup
  interfaces := ifs
  fields := fds
  methods := ms
  attributes := attrs
def plain (name : String) (sup : Option ClassId) : Class where
  name := name
  kind := .ordinary
  loader := none
  accessFlags := 33
  super := sup
  interfaces := #[]
  cf := none
  fields := #[]
  methods := #[]
  instanceTypes := #[]
  staticTypes := #[]
  resolved := #[]
  callSites := []
  init := .initialized
  statics := none
  mirror := none

def pool0 : Array CpInfo := pool [(5, u "<init>"), (0, u "()V"), (1, .class_ 10), (1, u "java/lang/Object")] 113

def k0c0 : Code := { maxStack := 0, maxLocals := 1, code := object_method_1_code, exceptionTable := #[], attributes := #[] }
def k0m0 : Method := { name := "<init>", desc := "()V", sig := { parameters := [], returnType := none }, accessFlags := 1, code := some k0c0 }
/-- java/lang/Object -/
def k0 : Class := { plain "java/lang/Object" none with
  accessFlags := 33
  interfaces := #[]
  cf := some (fileOf pool0 8 #[] #[{ accessFlags := 1, nameIndex := 5, descriptorIndex := 6, attributes := #[] }] 33 0 #[] #[])
  fields := #[]
  methods := #[k0m0]
  instanceTypes := #[]
  staticTypes := #[]
  resolved := Array.replicate 124 none
  statics := none }

def pool1 : Array CpInfo := pool [(2, .class_ 4), (1, u "java/lang/Object"), (0, u "<init>"), (0, u "()V"), (0, .long 2), (1, .class_ 10), (0, u "tallymark/SplitMix64NextLongPinLaw"), (0, .long 10723151780598845931), (1, .methodref 9 14), (0, .nameAndType 15 16), (0, u "inverse"), (0, u "(J)J"), (0, .long 13787848793156543929), (1, .class_ 20), (0, u "tallymark/SplitMix64"), (0, .methodref 19 22), (0, .nameAndType 5 23), (0, u "(J)V"), (0, .methodref 19 25), (0, .nameAndType 26 27), (0, u "nextLong"), (0, u "()J"), (0, .methodref 19 29), (0, .nameAndType 30 27), (0, u "state"), (0, .long 11400714819323198485), (1, .methodref 9 34), (0, .nameAndType 35 16), (0, u "unmix"), (0, u "STEP"), (0, u "J"), (1, u "C1"), (0, u "C2"), (2, u "law"), (0, u "(J)Z")] 3

def k1m0 : Method := { name := "<init>", desc := "()V", sig := { parameters := [], returnType := none }, accessFlags := 2, code := none }
def k1c1 : Code := { maxStack := 8, maxLocals := 4, code := method_2_code, exceptionTable := #[], attributes := #[] }
def k1m1 : Method := { name := "inverse", desc := "(J)J", sig := { parameters := [.long], returnType := some .long }, accessFlags := 10, code := some k1c1 }
def k1c2 : Code := { maxStack := 5, maxLocals := 10, code := method_3_code, exceptionTable := #[], attributes := #[] }
def k1m2 : Method := { name := "unmix", desc := "(J)J", sig := { parameters := [.long], returnType := some .long }, accessFlags := 10, code := some k1c2 }
def k1c3 : Code := { maxStack := 6, maxLocals := 12, code := code, exceptionTable := #[], attributes := #[] }
def k1m3 : Method := { name := "law", desc := "(J)Z", sig := { parameters := [.long], returnType := some .boolean }, accessFlags := 9, code := some k1c3 }
/-- tallymark/SplitMix64NextLongPinLaw -/
def k1 : Class := { plain "tallymark/SplitMix64NextLongPinLaw" (some 0) with
  accessFlags := 49
  interfaces := #[]
  cf := some (fileOf pool1 9 #[] #[{ accessFlags := 2, nameIndex := 5, descriptorIndex := 6, attributes := #[] }, { accessFlags := 10, nameIndex := 15, descriptorIndex := 16, attributes := #[] }, { accessFlags := 10, nameIndex := 35, descriptorIndex := 16, attributes := #[] }, { accessFlags := 9, nameIndex := 43, descriptorIndex := 44, attributes := #[] }] 49 2 #[] #[{ accessFlags := 26, nameIndex := 36, descriptorIndex := 37, attributes := #[] }, { accessFlags := 26, nameIndex := 39, descriptorIndex := 37, attributes := #[] }, { accessFlags := 26, nameIndex := 40, descriptorIndex := 37, attributes := #[] }])
  fields := #[{ name := "STEP", type := .long, accessFlags := 26, slot := 0, constantValue := 0 }, { name := "C1", type := .long, accessFlags := 26, slot := 1, constantValue := 0 }, { name := "C2", type := .long, accessFlags := 26, slot := 2, constantValue := 0 }]
  methods := #[k1m0, k1m1, k1m2, k1m3]
  instanceTypes := #[]
  staticTypes := #[.long, .long, .long]
  resolved := Array.replicate 48 none
  statics := none }

def pool2 : Array CpInfo := pool [(1, .methodref 2 3), (0, .class_ 4), (0, .nameAndType 5 6), (0, u "java/lang/Object"), (0, u "<init>"), (0, u "()V"), (0, .fieldref 8 9), (0, .class_ 10), (0, .nameAndType 11 12), (0, u "tallymark/SplitMix64"), (0, u "state"), (0, u "J"), (0, .long 11400714819323198485), (1, .long 13787848793156543929), (1, .long 10723151780598845931), (3, u "nextLong"), (0, u "()J"), (6, u "STEP"), (1, u "LOW_BITS"), (0, u "(J)V")] 7

def k2c0 : Code := { maxStack := 3, maxLocals := 3, code := prog_17_method_1_code, exceptionTable := #[], attributes := #[] }
def k2m0 : Method := { name := "<init>", desc := "(J)V", sig := { parameters := [.long], returnType := none }, accessFlags := 0, code := some k2c0 }
def k2c1 : Code := { maxStack := 2, maxLocals := 1, code := prog_17_method_2_code, exceptionTable := #[], attributes := #[] }
def k2m1 : Method := { name := "state", desc := "()J", sig := { parameters := [], returnType := some .long }, accessFlags := 0, code := some k2c1 }
def k2c2 : Code := { maxStack := 5, maxLocals := 3, code := prog_17_method_3_code, exceptionTable := #[], attributes := #[] }
def k2m2 : Method := { name := "nextLong", desc := "()J", sig := { parameters := [], returnType := some .long }, accessFlags := 0, code := some k2c2 }
/-- tallymark/SplitMix64 -/
def k2 : Class := { plain "tallymark/SplitMix64" (some 0) with
  accessFlags := 48
  interfaces := #[]
  cf := some (fileOf pool2 8 #[] #[{ accessFlags := 0, nameIndex := 5, descriptorIndex := 32, attributes := #[] }, { accessFlags := 0, nameIndex := 11, descriptorIndex := 22, attributes := #[] }, { accessFlags := 0, nameIndex := 21, descriptorIndex := 22, attributes := #[] }] 48 2 #[] #[{ accessFlags := 26, nameIndex := 29, descriptorIndex := 12, attributes := #[] }, { accessFlags := 26, nameIndex := 31, descriptorIndex := 12, attributes := #[] }, { accessFlags := 2, nameIndex := 11, descriptorIndex := 12, attributes := #[] }])
  fields := #[{ name := "STEP", type := .long, accessFlags := 26, slot := 0, constantValue := 0 }, { name := "LOW_BITS", type := .long, accessFlags := 26, slot := 1, constantValue := 0 }, { name := "state", type := .long, accessFlags := 2, slot := 0, constantValue := 0 }]
  methods := #[k2m0, k2m1, k2m2]
  instanceTypes := #[.long]
  staticTypes := #[.long, .long]
  resolved := Array.replicate 40 none
  statics := none }

def pool3 : Array CpInfo := pool [(1, u "java/lang/Cloneable"), (0, .class_ 1), (0, u "java/lang/Object"), (0, .class_ 3)] 3

/-- java/lang/Cloneable -/
def k3 : Class := { plain "java/lang/Cloneable" (some 0) with
  accessFlags := 1537
  interfaces := #[]
  cf := some (fileOf pool3 2 #[] #[] 1537 4 #[] #[])
  fields := #[]
  methods := #[]
  instanceTypes := #[]
  staticTypes := #[]
  resolved := Array.replicate 8 none
  statics := none }

def pool4 : Array CpInfo := pool [(1, u "java/io/Serializable"), (0, .class_ 1), (0, u "java/lang/Object"), (0, .class_ 3)] 3

/-- java/io/Serializable -/
def k4 : Class := { plain "java/io/Serializable" (some 0) with
  accessFlags := 1537
  interfaces := #[]
  cf := some (fileOf pool4 2 #[] #[] 1537 4 #[] #[])
  fields := #[]
  methods := #[]
  instanceTypes := #[]
  staticTypes := #[]
  resolved := Array.replicate 8 none
  statics := none }

/-- the primitive byte -/
def k5 : Class := { plain "byte" none with kind := .primitive 'B', accessFlags := 0x411 }
/-- [B -/
def k6 : Class := { plain "[B" (some 0) with kind := .array 5 .byte, interfaces := #[3, 4], accessFlags := 1041 }

/-- the primitive int -/
def k7 : Class := { plain "int" none with kind := .primitive 'I', accessFlags := 0x411 }
/-- [I -/
def k8 : Class := { plain "[I" (some 0) with kind := .array 7 .int, interfaces := #[3, 4], accessFlags := 1041 }

def heap : Heap := #[]
def classes : Array Class := #[k0, k1, k2, k3, k4, k5, k6, k7, k8]
def interned : List (Array UInt16 × Addr) := []
def slotsUsed : Nat := 0
def theMethod : MethodId := ⟨1, 3⟩
def args0 : Array Value := #[.long 5]
def aboutOver (below : List Frame) : State where
  vm := { classes := classes, interned := interned.toArray }
  heap := heap
  slotsUsed := slotsUsed
  threads := #[{ frames := .invoking theMethod args0 :: below }]
def below0 : List Frame := [.native { method := ⟨0, 0⟩, args := #[] }]
def about1 : State := aboutOver below0
def p0 : Program := .bare "" "" ""
def e0 : Env := launch0.env 0 0 0
theorem w_frames : about1.frames = Frame.invoking theMethod args0 :: below0 := rfl
set_option maxRecDepth 65536 in
theorem w_args : argsFit about1.vm theMethod args0 = true := by decide +kernel
set_option maxRecDepth 65536 in
theorem w_heap : heapFits about1 = true := by decide +kernel
set_option maxRecDepth 65536 in
theorem w_runnable : about1.curStatus? = some .runnable := by decide +kernel
set_option maxRecDepth 65536 in
theorem w_alone : about1.alone = true := by decide +kernel
set_option maxRecDepth 65536 in
theorem w_named : about1.methodNamed? x = some theMethod := by decide +kernel
set_option maxRecDepth 65536 in
theorem w_hears : about1.hears theMethod below0 = true := by decide +kernel
set_option maxRecDepth 65536 in
theorem w_ripe : about1.ripe theMethod args0 below0 = true := by decide +kernel
theorem w_running : about1.status = .running := rfl
set_option maxRecDepth 65536 in
theorem w_room : about1.hasRoom e0.platform room_1 = true :=
  launch0.hasRoom_least _ room_1 (by decide +kernel) (by decide +kernel) (by decide +kernel) (by decide +kernel) (by decide +kernel) (by decide +kernel)
theorem allAtoms_all (ts : List Jvm.Cond) (a : Array Jvm.Value) (st : Jvm.State) : (allAtoms ts).before a st = ts.all (fun c => c.before a st) := by
  induction ts with
  | nil => rfl
  | cons c t ih =>
    show (Jvm.Cond.and c (allAtoms t)).before a st = _
    rw [Jvm.Cond.before_and, ih, List.all_cons]
def words1 : List Jvm.Cond := Jvm.Cond.code x code maxLocals ret :: tables_1
/-- a 'code' word, met by the world's own term for the bytes: nothing is compared byte by byte -/
theorem code_word {y : MethodName} {bytes : ByteArray} {mx : Nat} {rt : Option FieldType} {a : Array Value} {s : State} {m : MethodId} {meth : Method} {c : Code} (h1 : s.methodNamed? y = some m) (h2 : s.vm.method? m = some meth) (h3 : meth.code = some c) (h4 : c.code = bytes)
    (h5 : (c.maxLocals == mx && c.exceptionTable.isEmpty && decide (c.maxStack ≤ mostOperands) && decide (meth.sig.returnType = rt) && !meth.locks && decide (parseMethodDescriptor y.desc = some meth.sig)) = true) : (Jvm.Cond.code y bytes mx rt).before a s = true := by
  simp only [Bool.and_eq_true, beq_iff_eq, Bool.not_eq_true', decide_eq_true_eq] at h5
  obtain ⟨⟨⟨⟨⟨g1, g2⟩, g3⟩, g4⟩, g5⟩, g6⟩ := h5
  simp [Cond.before, Cond.holds, Cond.value, h1, h2, h3, h4, g1, g2, g3, g4, g5, g6]
def isCode : Jvm.Cond → Bool
  | .code _ _ _ _ => true
  | _ => false
theorem all_split {L : List Jvm.Cond} {P : Jvm.Cond → Bool} (h1 : L.all (fun c => isCode c || P c) = true) (h2 : ∀ c ∈ L.filter isCode, P c = true) : L.all P = true := by
  refine List.all_eq_true.mpr fun c hc => ?_
  have h := List.all_eq_true.mp h1 c hc
  rcases Bool.eq_false_or_eq_true (isCode c) with hi | hi
  · exact h2 c (List.mem_filter.mpr ⟨hc, hi⟩)
  · simpa [hi] using h
set_option maxRecDepth 65536 in
theorem w_c0 : (Jvm.Cond.code x code maxLocals ret).before args0 about1 = true := code_word (m := ⟨1, 3⟩) (meth := k1m3) (c := k1c3) (by decide +kernel) rfl rfl rfl (by decide +kernel)
set_option maxRecDepth 65536 in
theorem w_c1 : (Jvm.Cond.code ({ cls := "tallymark/SplitMix64", name := "<init>", desc := "(J)V" } : Jvm.MethodName) prog_17_method_1_code (3 : Nat) (Option.none : Option Jvm.ClassFile.FieldType)).before args0 about1 = true := code_word (m := ⟨2, 0⟩) (meth := k2m0) (c := k2c0) (by decide +kernel) rfl rfl rfl (by decide +kernel)
set_option maxRecDepth 65536 in
theorem w_c2 : (Jvm.Cond.code ({ cls := "java/lang/Object", name := "<init>", desc := "()V" } : Jvm.MethodName) object_method_1_code (1 : Nat) (Option.none : Option Jvm.ClassFile.FieldType)).before args0 about1 = true := code_word (m := ⟨0, 0⟩) (meth := k0m0) (c := k0c0) (by decide +kernel) rfl rfl rfl (by decide +kernel)
set_option maxRecDepth 65536 in
theorem w_c3 : (Jvm.Cond.code ({ cls := "tallymark/SplitMix64", name := "nextLong", desc := "()J" } : Jvm.MethodName) prog_17_method_3_code (3 : Nat) (Option.some Jvm.ClassFile.FieldType.long)).before args0 about1 = true := code_word (m := ⟨2, 2⟩) (meth := k2m2) (c := k2c2) (by decide +kernel) rfl rfl rfl (by decide +kernel)
set_option maxRecDepth 65536 in
theorem w_c4 : (Jvm.Cond.code ({ cls := "tallymark/SplitMix64", name := "state", desc := "()J" } : Jvm.MethodName) prog_17_method_2_code (1 : Nat) (Option.some Jvm.ClassFile.FieldType.long)).before args0 about1 = true := code_word (m := ⟨2, 1⟩) (meth := k2m1) (c := k2c1) (by decide +kernel) rfl rfl rfl (by decide +kernel)
set_option maxRecDepth 65536 in
theorem w_c5 : (Jvm.Cond.code ({ cls := "tallymark/SplitMix64NextLongPinLaw", name := "unmix", desc := "(J)J" } : Jvm.MethodName) method_3_code (10 : Nat) (Option.some Jvm.ClassFile.FieldType.long)).before args0 about1 = true := code_word (m := ⟨1, 2⟩) (meth := k1m2) (c := k1c2) (by decide +kernel) rfl rfl rfl (by decide +kernel)
set_option maxRecDepth 65536 in
theorem w_c6 : (Jvm.Cond.code ({ cls := "tallymark/SplitMix64NextLongPinLaw", name := "inverse", desc := "(J)J" } : Jvm.MethodName) method_2_code (4 : Nat) (Option.some Jvm.ClassFile.FieldType.long)).before args0 about1 = true := code_word (m := ⟨1, 1⟩) (meth := k1m1) (c := k1c1) (by decide +kernel) rfl rfl rfl (by decide +kernel)
def codes1 : List Jvm.Cond := [Jvm.Cond.code x code maxLocals ret, Jvm.Cond.code ({ cls := "tallymark/SplitMix64", name := "<init>", desc := "(J)V" } : Jvm.MethodName) prog_17_method_1_code (3 : Nat) (Option.none : Option Jvm.ClassFile.FieldType), Jvm.Cond.code ({ cls := "java/lang/Object", name := "<init>", desc := "()V" } : Jvm.MethodName) object_method_1_code (1 : Nat) (Option.none : Option Jvm.ClassFile.FieldType), Jvm.Cond.code ({ cls := "tallymark/SplitMix64", name := "nextLong", desc := "()J" } : Jvm.MethodName) prog_17_method_3_code (3 : Nat) (Option.some Jvm.ClassFile.FieldType.long), Jvm.Cond.code ({ cls := "tallymark/SplitMix64", name := "state", desc := "()J" } : Jvm.MethodName) prog_17_method_2_code (1 : Nat) (Option.some Jvm.ClassFile.FieldType.long), Jvm.Cond.code ({ cls := "tallymark/SplitMix64NextLongPinLaw", name := "unmix", desc := "(J)J" } : Jvm.MethodName) method_3_code (10 : Nat) (Option.some Jvm.ClassFile.FieldType.long), Jvm.Cond.code ({ cls := "tallymark/SplitMix64NextLongPinLaw", name := "inverse", desc := "(J)J" } : Jvm.MethodName) method_2_code (4 : Nat) (Option.some Jvm.ClassFile.FieldType.long)]
set_option maxRecDepth 65536 in
theorem codes_eq : words1.filter isCode = codes1 := rfl
theorem w_codes : ∀ c ∈ words1.filter isCode, c.before args0 about1 = true := by
  rw [codes_eq]
  intro c hc
  simp only [codes1, List.mem_cons, List.not_mem_nil, or_false] at hc
  rcases hc with rfl | rfl | rfl | rfl | rfl | rfl | rfl
  · exact w_c0
  · exact w_c1
  · exact w_c2
  · exact w_c3
  · exact w_c4
  · exact w_c5
  · exact w_c6
set_option maxRecDepth 65536 in
theorem w_t1 : (words1.take 24).all (fun c => isCode c || c.before args0 about1) = true := by decide +kernel
set_option maxRecDepth 65536 in
theorem w_t2 : (words1.drop 24).all (fun c => isCode c || c.before args0 about1) = true := by decide +kernel
theorem w_tables : (allAtoms (Jvm.Cond.code x code maxLocals ret :: tables_1)).before args0 about1 = true := by
  rw [allAtoms_all]
  show words1.all (fun c => c.before args0 about1) = true
  refine all_split ?_ w_codes
  rw [← List.take_append_drop 24 words1, List.all_append, w_t1, w_t2]
  rfl
set_option maxRecDepth 65536 in
theorem w_case : (Jvm.Cond.and given_1 narrow_1).before args0 about1 = true := by decide +kernel
theorem w_applies : (headSpec (Jvm.Cond.code x code maxLocals ret :: tables_1) room_1).applies x e0.platform about1 = true :=
  (Spec.applies_iff w_frames).mpr ⟨w_running, w_runnable, w_alone, w_named, w_hears, w_ripe, w_room, w_tables⟩
theorem atStart : AtStart classFile x code maxLocals ret World_1 tables_1 room_1 Calls_1 rest_1 Pre_1 launch0 p0 e0 about1 theMethod args0 below0 :=
  ⟨lists_1, trivial, launch0.admits_env _ _ _, launch0.least_env, fairChoices_fair.cas, fairChoices_fair.clock, w_frames, w_args, w_heap, w_applies, trivial, trivial, w_case⟩
end start1
theorem witness_1 : WitnessClaimed_1 := ⟨start1.p0, start1.e0, start1.about1, start1.theMethod, start1.args0, start1.below0, start1.atStart⟩
end Jvm.Pilot.@@N@@
