import JvmDerived
import JvmDerived.Pilot.@@N@@Statement
import JvmDerived.Pilot.@@N@@Code
set_option linter.unusedVariables false
set_option linter.unusedSimpArgs false
@@BLOCK:NumsL.lean.txt@@
namespace Jvm.RoadKit
open Sem ClassFile Op Lib Jvm.Stand Jvm.Free Jvm.LawKit
section New
variable {p : Program} {l : Launch} {e : Env} {R : Room} {s : State} {m : MethodId} {args : Array Value} {below : List Frame} {meth : Method} {c : Code} {T : State} {locs : List Loc} {cells slots : Nat}
theorem retI (X : Stand p l e R s m args below meth c T locs cells slots) (hx : p.tables.exec = Jvm.exec) {pc : Nat} {Ls : Array Slot} {z : Int32} {rest : List Value} (hret : meth.sig.returnType = some .int) (hd : decode c.code pc = .ok (.ireturn, 1)) {fs : List Frame}
    (hl : ∀ (f : JFrame) (acts : List Action), f.method = m → f.locked = none → f.entered = [] → (doReturn e (T.setTop f) acts (some (.int z))).1 = T.setFrames fs) : Steps p.tables e below (T.setTop (mkF m pc Ls (.int z :: rest))) (T.setFrames fs) := by
  have hm' : T.vm.method? m = some meth := X.method'
  have hn : narrow .int (.int z) = .int z := rfl
  show Steps p.tables e below (T.setTop { method := m, pc := pc, locals := Ls, stack := _ :: rest, locked := none }) _
  jvm_step X.here [X.here.top, hx, hd, hm', hret, hn]
  first | (intro acts; rw [hl _ acts rfl rfl rfl]) | rw [hl _ _ rfl rfl rfl]
  exact Steps.refl _

/-- from A the run ends, and R holds of the end -/
def own_Fin (tb : Tables) (e : Env) (below : List Frame) (R : State → Outcome → Prop) (A : State) : Prop := ∃ t o, Steps tb e below A t ∧ R t o
def own_R (s : State) (below : List Frame) (Q : Option Value → Heap → List Loc → Prop) (C S : Nat) (t : State) (o : Outcome) : Prop :=
  t.status = .running ∧ Ended t below o ∧ ∃ v L, o = .returned v ∧ Q v t.heap L ∧ FrameEnd s o t L C S
theorem own_pre {tb : Tables} {e : Env} {below : List Frame} {R : State → Outcome → Prop} {A A' : State} (h : ∀ t, Steps tb e below A' t → Steps tb e below A t) (k : own_Fin tb e below R A') : own_Fin tb e below R A := by
  obtain ⟨t, o, h1, h2⟩ := k; exact ⟨t, o, h t h1, h2⟩
theorem own_start {tb : Tables} {e : Env} {below : List Frame} {s T : State} {Q : Option Value → Heap → List Loc → Prop} {C S : Nat} {g g' : JFrame} (q : g = g') (k : own_Fin tb e below (own_R s below Q C S) (T.setTop g')) :
    ∃ s₂ o, Steps tb e below (T.setTop g) s₂ ∧ s₂.status = .running ∧ Ended s₂ below o ∧ ∃ v L, o = .returned v ∧ Q v s₂.heap L ∧ FrameEnd s o s₂ L C S := by
  subst q; exact k
theorem own_ret {Q : Option Value → Heap → List Loc → Prop} {C S : Nat} {A : State} {v : Option Value} (X : Stand p l e R s m args below meth c T locs cells slots) (hv : meth.sig.returnType = none → v = none) (hlocks : meth.locks = false) (hc : cells ≤ C) (hs : slots ≤ S) (hQ : Q v T.heap locs)
    (hstep : ∀ fs, (∀ (f : JFrame) (acts : List Action), f.method = m → f.locked = none → f.entered = [] → (doReturn e (T.setTop f) acts v).1 = T.setFrames fs) → Steps p.tables e below A (T.setFrames fs)) : own_Fin p.tables e below (own_R s below Q C S) A := by
  obtain ⟨fs, hr, hrun, hended, hW, hsame⟩ := X.leave hv hlocks
  exact ⟨_, _, hstep fs hr, hrun, hended, _, _, rfl, hQ, ⟨_, rfl⟩, hW, hsame.mono hc hs⟩
theorem own_ltN {a b : Nat} (h : a < b) : @LT.lt Nat instLTNat a b := h
theorem own_leN {a b : Nat} (h : a ≤ b) : @LE.le Nat instLENat a b := h
theorem own_neN {a b : Nat} (h : @LT.lt Nat instLTNat a b) : a ≠ b := Nat.ne_of_lt h
theorem own_neN' {a b : Nat} (h : @LT.lt Nat instLTNat b a) : a ≠ b := Nat.ne_of_gt h
theorem own_selp {y : MethodName} {s : State} {args : Array Value} {n : Nat} (hy : y.cls ≠ "java/lang/invoke/MethodHandle" ∧ y.cls ≠ "java/lang/invoke/VarHandle")
    (hins : (Cond.instantiable y.cls n).before args s = true) (hpriv : (Cond.privateMethod y).before args s = true) (hinst : (Cond.instanceMethod y).before args s = true) : (Cond.selects y.cls y y).before args s = true := by
  obtain ⟨c, k, hc, hk, -, hniab, -, -⟩ := Cond.instantiable_spec hins
  exact selects_self_of_private hc hk (Bool.or_eq_false_iff.mp hniab).1 (Cond.privateMethod_at hpriv) hinst hy
def own_QV (h0 : Heap) (n0 : Nat) (v : Option Value) (h : Heap) (L : List Loc) : Prop := v = none ∧ Fr n0 L ∧ h = h0
def own_QP (r : Value) (h0 : Heap) (n0 : Nat) (v : Option Value) (h : Heap) (L : List Loc) : Prop := v = some r ∧ Fr n0 L ∧ h = h0
def own_at (code : ByteArray) (pc : Nat) (i : Instr) (n pc' : Nat) : Prop := decode code pc = .ok (i, n) ∧ pc + n = pc'
section Steps1
variable {p : Program} {l : Launch} {e : Env} {R : Room} {s : State} {m : MethodId} {args : Array Value} {below : List Frame} {meth : Method} {c : Code} {T : State} {locs : List Loc} {cells slots : Nat} {code : ByteArray} {Rr : State → Outcome → Prop} {Ls : Array Slot} {st : List Value} {pc pc' : Nat}
theorem o_iloadN (X : Stand p l e R s m args below meth c T locs cells slots) (hx : p.tables.exec = Jvm.exec) (hby : c.code = code) {k : Fin 4} {v : Int32} (hd : own_at code pc (.iload_n k) 1 pc') (hl : Ls[k.val]? = some (.val (.int v)))
    (h : own_Fin p.tables e below Rr (T.setTop (mkF m pc' Ls (.int v :: st)))) : own_Fin p.tables e below Rr (T.setTop (mkF m pc Ls (st))) := by
  obtain ⟨hd, rfl⟩ := hd; subst hby
  exact own_pre (fun t k => XS.iloadN X.here hx rfl hd hl k) h
theorem o_iload (X : Stand p l e R s m args below meth c T locs cells slots) (hx : p.tables.exec = Jvm.exec) (hby : c.code = code) {k : Nat} {v : Int32} (hd : own_at code pc (.iload k) 2 pc') (hl : Ls[k]? = some (.val (.int v)))
    (h : own_Fin p.tables e below Rr (T.setTop (mkF m pc' Ls (.int v :: st)))) : own_Fin p.tables e below Rr (T.setTop (mkF m pc Ls (st))) := by
  obtain ⟨hd, rfl⟩ := hd; subst hby
  exact own_pre (fun t k => XS.iload X.here hx rfl hd hl k) h
theorem o_istoreN (X : Stand p l e R s m args below meth c T locs cells slots) (hx : p.tables.exec = Jvm.exec) (hby : c.code = code) {k : Fin 4} {v : Int32} {l' : Array Slot} (hd : own_at code pc (.istore_n k) 1 pc') (hl : storeLocals Ls k.val (.int v) = some l')
    (h : own_Fin p.tables e below Rr (T.setTop (mkF m pc' l' (st)))) : own_Fin p.tables e below Rr (T.setTop (mkF m pc Ls (.int v :: st))) := by
  obtain ⟨hd, rfl⟩ := hd; subst hby
  exact own_pre (fun t k => XS.istoreN X.here hx rfl hd rfl hl k) h
theorem o_istore (X : Stand p l e R s m args below meth c T locs cells slots) (hx : p.tables.exec = Jvm.exec) (hby : c.code = code) {k : Nat} {v : Int32} {l' : Array Slot} (hd : own_at code pc (.istore k) 2 pc') (hl : storeLocals Ls k (.int v) = some l')
    (h : own_Fin p.tables e below Rr (T.setTop (mkF m pc' l' (st)))) : own_Fin p.tables e below Rr (T.setTop (mkF m pc Ls (.int v :: st))) := by
  obtain ⟨hd, rfl⟩ := hd; subst hby
  exact own_pre (fun t k => XS.istore X.here hx rfl hd rfl hl k) h
theorem o_lloadN (X : Stand p l e R s m args below meth c T locs cells slots) (hx : p.tables.exec = Jvm.exec) (hby : c.code = code) {k : Fin 4} {v : Int64} (hd : own_at code pc (.lload_n k) 1 pc') (hl : Ls[k.val]? = some (.val (.long v)))
    (h : own_Fin p.tables e below Rr (T.setTop (mkF m pc' Ls (.long v :: st)))) : own_Fin p.tables e below Rr (T.setTop (mkF m pc Ls (st))) := by
  obtain ⟨hd, rfl⟩ := hd; subst hby
  exact own_pre (fun t k => XS.lloadN X.here hx rfl hd hl k) h
theorem o_lload (X : Stand p l e R s m args below meth c T locs cells slots) (hx : p.tables.exec = Jvm.exec) (hby : c.code = code) {k : Nat} {v : Int64} (hd : own_at code pc (.lload k) 2 pc') (hl : Ls[k]? = some (.val (.long v)))
    (h : own_Fin p.tables e below Rr (T.setTop (mkF m pc' Ls (.long v :: st)))) : own_Fin p.tables e below Rr (T.setTop (mkF m pc Ls (st))) := by
  obtain ⟨hd, rfl⟩ := hd; subst hby
  exact own_pre (fun t k => XS.lload X.here hx rfl hd hl k) h
theorem o_lstoreN (X : Stand p l e R s m args below meth c T locs cells slots) (hx : p.tables.exec = Jvm.exec) (hby : c.code = code) {k : Fin 4} {v : Int64} {l' : Array Slot} (hd : own_at code pc (.lstore_n k) 1 pc') (hl : storeLocals Ls k.val (.long v) = some l')
    (h : own_Fin p.tables e below Rr (T.setTop (mkF m pc' l' (st)))) : own_Fin p.tables e below Rr (T.setTop (mkF m pc Ls (.long v :: st))) := by
  obtain ⟨hd, rfl⟩ := hd; subst hby
  exact own_pre (fun t k => XS.lstoreN X.here hx rfl hd rfl hl k) h
theorem o_lstore (X : Stand p l e R s m args below meth c T locs cells slots) (hx : p.tables.exec = Jvm.exec) (hby : c.code = code) {k : Nat} {v : Int64} {l' : Array Slot} (hd : own_at code pc (.lstore k) 2 pc') (hl : storeLocals Ls k (.long v) = some l')
    (h : own_Fin p.tables e below Rr (T.setTop (mkF m pc' l' (st)))) : own_Fin p.tables e below Rr (T.setTop (mkF m pc Ls (.long v :: st))) := by
  obtain ⟨hd, rfl⟩ := hd; subst hby
  exact own_pre (fun t k => XS.lstore X.here hx rfl hd rfl hl k) h
theorem o_aloadN (X : Stand p l e R s m args below meth c T locs cells slots) (hx : p.tables.exec = Jvm.exec) (hby : c.code = code) {k : Fin 4} {v : Value} (hd : own_at code pc (.aload_n k) 1 pc') (hl : Ls[k.val]? = some (.val v)) (hv : v.isRef = true)
    (h : own_Fin p.tables e below Rr (T.setTop (mkF m pc' Ls (v :: st)))) : own_Fin p.tables e below Rr (T.setTop (mkF m pc Ls (st))) := by
  obtain ⟨hd, rfl⟩ := hd; subst hby
  exact own_pre (fun t k => XS.aloadN X.here hx rfl hd hl hv k) h
theorem o_aload (X : Stand p l e R s m args below meth c T locs cells slots) (hx : p.tables.exec = Jvm.exec) (hby : c.code = code) {k : Nat} {v : Value} (hd : own_at code pc (.aload k) 2 pc') (hl : Ls[k]? = some (.val v)) (hv : v.isRef = true)
    (h : own_Fin p.tables e below Rr (T.setTop (mkF m pc' Ls (v :: st)))) : own_Fin p.tables e below Rr (T.setTop (mkF m pc Ls (st))) := by
  obtain ⟨hd, rfl⟩ := hd; subst hby
  exact own_pre (fun t k => XS.aload X.here hx rfl hd hl hv k) h
theorem o_astoreN (X : Stand p l e R s m args below meth c T locs cells slots) (hx : p.tables.exec = Jvm.exec) (hby : c.code = code) {k : Fin 4} {v : Value} {l' : Array Slot} (hd : own_at code pc (.astore_n k) 1 pc') (hv : v.isRef = true) (hl : storeLocals Ls k.val v = some l')
    (h : own_Fin p.tables e below Rr (T.setTop (mkF m pc' l' (st)))) : own_Fin p.tables e below Rr (T.setTop (mkF m pc Ls (v :: st))) := by
  obtain ⟨hd, rfl⟩ := hd; subst hby
  exact own_pre (fun t k => XS.astoreN X.here hx rfl hd rfl hv hl k) h
theorem o_astore (X : Stand p l e R s m args below meth c T locs cells slots) (hx : p.tables.exec = Jvm.exec) (hby : c.code = code) {k : Nat} {v : Value} {l' : Array Slot} (hd : own_at code pc (.astore k) 2 pc') (hv : v.isRef = true) (hl : storeLocals Ls k v = some l')
    (h : own_Fin p.tables e below Rr (T.setTop (mkF m pc' l' (st)))) : own_Fin p.tables e below Rr (T.setTop (mkF m pc Ls (v :: st))) := by
  obtain ⟨hd, rfl⟩ := hd; subst hby
  exact own_pre (fun t k => XS.astore X.here hx rfl hd rfl hv hl k) h
theorem o_iconst (X : Stand p l e R s m args below meth c T locs cells slots) (hx : p.tables.exec = Jvm.exec) (hby : c.code = code) {i : Int} {v : Int32} (hd : own_at code pc (.iconst i) 1 pc') (hv : Int32.ofInt i = v)
    (h : own_Fin p.tables e below Rr (T.setTop (mkF m pc' Ls (.int v :: st)))) : own_Fin p.tables e below Rr (T.setTop (mkF m pc Ls (st))) := by
  obtain ⟨hd, rfl⟩ := hd; subst hby
  exact own_pre (fun t k => by subst hv; exact XS.iconst X.here hx rfl hd k) h
theorem o_bipush (X : Stand p l e R s m args below meth c T locs cells slots) (hx : p.tables.exec = Jvm.exec) (hby : c.code = code) {i : Int} {v : Int32} (hd : own_at code pc (.bipush i) 2 pc') (hv : (Int8.ofInt i).toInt32 = v)
    (h : own_Fin p.tables e below Rr (T.setTop (mkF m pc' Ls (.int v :: st)))) : own_Fin p.tables e below Rr (T.setTop (mkF m pc Ls (st))) := by
  obtain ⟨hd, rfl⟩ := hd; subst hby
  exact own_pre (fun t k => by subst hv; exact XS.bipush X.here hx rfl hd k) h
theorem o_sipush (X : Stand p l e R s m args below meth c T locs cells slots) (hx : p.tables.exec = Jvm.exec) (hby : c.code = code) {i : Int} {v : Int32} (hd : own_at code pc (.sipush i) 3 pc') (hv : (Int16.ofInt i).toInt32 = v)
    (h : own_Fin p.tables e below Rr (T.setTop (mkF m pc' Ls (.int v :: st)))) : own_Fin p.tables e below Rr (T.setTop (mkF m pc Ls (st))) := by
  obtain ⟨hd, rfl⟩ := hd; subst hby
  exact own_pre (fun t k => by subst hv; exact XS.sipush X.here hx rfl hd k) h
theorem o_lconst (X : Stand p l e R s m args below meth c T locs cells slots) (hx : p.tables.exec = Jvm.exec) (hby : c.code = code) {i : Fin 2} {v : Int64} (hd : own_at code pc (.lconst i) 1 pc') (hv : Int64.ofNat i = v)
    (h : own_Fin p.tables e below Rr (T.setTop (mkF m pc' Ls (.long v :: st)))) : own_Fin p.tables e below Rr (T.setTop (mkF m pc Ls (st))) := by
  obtain ⟨hd, rfl⟩ := hd; subst hby
  exact own_pre (fun t k => by subst hv; exact XS.lconst X.here hx rfl hd k) h
theorem o_anull (X : Stand p l e R s m args below meth c T locs cells slots) (hx : p.tables.exec = Jvm.exec) (hby : c.code = code)  (hd : own_at code pc (.aconst_null) 1 pc') 
    (h : own_Fin p.tables e below Rr (T.setTop (mkF m pc' Ls (.null :: st)))) : own_Fin p.tables e below Rr (T.setTop (mkF m pc Ls (st))) := by
  obtain ⟨hd, rfl⟩ := hd; subst hby
  exact own_pre (fun t k => XS.aconstNull X.here hx rfl hd k) h
theorem o_iadd (X : Stand p l e R s m args below meth c T locs cells slots) (hx : p.tables.exec = Jvm.exec) (hby : c.code = code) {x y : Int32} (hd : own_at code pc (.iadd) 1 pc') 
    (h : own_Fin p.tables e below Rr (T.setTop (mkF m pc' Ls (.int (x + y) :: st)))) : own_Fin p.tables e below Rr (T.setTop (mkF m pc Ls (.int y :: .int x :: st))) := by
  obtain ⟨hd, rfl⟩ := hd; subst hby
  exact own_pre (fun t k => XS.iadd X.here hx rfl hd rfl k) h
theorem o_ladd (X : Stand p l e R s m args below meth c T locs cells slots) (hx : p.tables.exec = Jvm.exec) (hby : c.code = code) {x y : Int64} (hd : own_at code pc (.ladd) 1 pc') 
    (h : own_Fin p.tables e below Rr (T.setTop (mkF m pc' Ls (.long (x + y) :: st)))) : own_Fin p.tables e below Rr (T.setTop (mkF m pc Ls (.long y :: .long x :: st))) := by
  obtain ⟨hd, rfl⟩ := hd; subst hby
  exact own_pre (fun t k => XS.ladd X.here hx rfl hd rfl k) h
theorem o_isub (X : Stand p l e R s m args below meth c T locs cells slots) (hx : p.tables.exec = Jvm.exec) (hby : c.code = code) {x y : Int32} (hd : own_at code pc (.isub) 1 pc') 
    (h : own_Fin p.tables e below Rr (T.setTop (mkF m pc' Ls (.int (x - y) :: st)))) : own_Fin p.tables e below Rr (T.setTop (mkF m pc Ls (.int y :: .int x :: st))) := by
  obtain ⟨hd, rfl⟩ := hd; subst hby
  exact own_pre (fun t k => XS.isub X.here hx rfl hd rfl k) h
theorem o_lsub (X : Stand p l e R s m args below meth c T locs cells slots) (hx : p.tables.exec = Jvm.exec) (hby : c.code = code) {x y : Int64} (hd : own_at code pc (.lsub) 1 pc') 
    (h : own_Fin p.tables e below Rr (T.setTop (mkF m pc' Ls (.long (x - y) :: st)))) : own_Fin p.tables e below Rr (T.setTop (mkF m pc Ls (.long y :: .long x :: st))) := by
  obtain ⟨hd, rfl⟩ := hd; subst hby
  exact own_pre (fun t k => XS.lsub X.here hx rfl hd rfl k) h
theorem o_imul (X : Stand p l e R s m args below meth c T locs cells slots) (hx : p.tables.exec = Jvm.exec) (hby : c.code = code) {x y : Int32} (hd : own_at code pc (.imul) 1 pc') 
    (h : own_Fin p.tables e below Rr (T.setTop (mkF m pc' Ls (.int (x * y) :: st)))) : own_Fin p.tables e below Rr (T.setTop (mkF m pc Ls (.int y :: .int x :: st))) := by
  obtain ⟨hd, rfl⟩ := hd; subst hby
  exact own_pre (fun t k => XS.imul X.here hx rfl hd rfl k) h
theorem o_lmul (X : Stand p l e R s m args below meth c T locs cells slots) (hx : p.tables.exec = Jvm.exec) (hby : c.code = code) {x y : Int64} (hd : own_at code pc (.lmul) 1 pc') 
    (h : own_Fin p.tables e below Rr (T.setTop (mkF m pc' Ls (.long (x * y) :: st)))) : own_Fin p.tables e below Rr (T.setTop (mkF m pc Ls (.long y :: .long x :: st))) := by
  obtain ⟨hd, rfl⟩ := hd; subst hby
  exact own_pre (fun t k => XS.lmul X.here hx rfl hd rfl k) h
theorem o_iand (X : Stand p l e R s m args below meth c T locs cells slots) (hx : p.tables.exec = Jvm.exec) (hby : c.code = code) {x y : Int32} (hd : own_at code pc (.iand) 1 pc') 
    (h : own_Fin p.tables e below Rr (T.setTop (mkF m pc' Ls (.int (x &&& y) :: st)))) : own_Fin p.tables e below Rr (T.setTop (mkF m pc Ls (.int y :: .int x :: st))) := by
  obtain ⟨hd, rfl⟩ := hd; subst hby
  exact own_pre (fun t k => XS.iand X.here hx rfl hd rfl k) h
theorem o_land (X : Stand p l e R s m args below meth c T locs cells slots) (hx : p.tables.exec = Jvm.exec) (hby : c.code = code) {x y : Int64} (hd : own_at code pc (.land) 1 pc') 
    (h : own_Fin p.tables e below Rr (T.setTop (mkF m pc' Ls (.long (x &&& y) :: st)))) : own_Fin p.tables e below Rr (T.setTop (mkF m pc Ls (.long y :: .long x :: st))) := by
  obtain ⟨hd, rfl⟩ := hd; subst hby
  exact own_pre (fun t k => XS.land X.here hx rfl hd rfl k) h
theorem o_ior (X : Stand p l e R s m args below meth c T locs cells slots) (hx : p.tables.exec = Jvm.exec) (hby : c.code = code) {x y : Int32} (hd : own_at code pc (.ior) 1 pc') 
    (h : own_Fin p.tables e below Rr (T.setTop (mkF m pc' Ls (.int (x ||| y) :: st)))) : own_Fin p.tables e below Rr (T.setTop (mkF m pc Ls (.int y :: .int x :: st))) := by
  obtain ⟨hd, rfl⟩ := hd; subst hby
  exact own_pre (fun t k => XS.ior X.here hx rfl hd rfl k) h
theorem o_lor (X : Stand p l e R s m args below meth c T locs cells slots) (hx : p.tables.exec = Jvm.exec) (hby : c.code = code) {x y : Int64} (hd : own_at code pc (.lor) 1 pc') 
    (h : own_Fin p.tables e below Rr (T.setTop (mkF m pc' Ls (.long (x ||| y) :: st)))) : own_Fin p.tables e below Rr (T.setTop (mkF m pc Ls (.long y :: .long x :: st))) := by
  obtain ⟨hd, rfl⟩ := hd; subst hby
  exact own_pre (fun t k => XS.lor X.here hx rfl hd rfl k) h
theorem o_ixor (X : Stand p l e R s m args below meth c T locs cells slots) (hx : p.tables.exec = Jvm.exec) (hby : c.code = code) {x y : Int32} (hd : own_at code pc (.ixor) 1 pc') 
    (h : own_Fin p.tables e below Rr (T.setTop (mkF m pc' Ls (.int (x ^^^ y) :: st)))) : own_Fin p.tables e below Rr (T.setTop (mkF m pc Ls (.int y :: .int x :: st))) := by
  obtain ⟨hd, rfl⟩ := hd; subst hby
  exact own_pre (fun t k => XS.ixor X.here hx rfl hd rfl k) h
theorem o_lxor (X : Stand p l e R s m args below meth c T locs cells slots) (hx : p.tables.exec = Jvm.exec) (hby : c.code = code) {x y : Int64} (hd : own_at code pc (.lxor) 1 pc') 
    (h : own_Fin p.tables e below Rr (T.setTop (mkF m pc' Ls (.long (x ^^^ y) :: st)))) : own_Fin p.tables e below Rr (T.setTop (mkF m pc Ls (.long y :: .long x :: st))) := by
  obtain ⟨hd, rfl⟩ := hd; subst hby
  exact own_pre (fun t k => XS.lxor X.here hx rfl hd rfl k) h
theorem o_ishl (X : Stand p l e R s m args below meth c T locs cells slots) (hx : p.tables.exec = Jvm.exec) (hby : c.code = code) {x y : Int32} (hd : own_at code pc (.ishl) 1 pc') 
    (h : own_Fin p.tables e below Rr (T.setTop (mkF m pc' Ls (.int (x <<< (y &&& 31)) :: st)))) : own_Fin p.tables e below Rr (T.setTop (mkF m pc Ls (.int y :: .int x :: st))) := by
  obtain ⟨hd, rfl⟩ := hd; subst hby
  exact own_pre (fun t k => XS.ishl X.here hx rfl hd rfl k) h
theorem o_ishr (X : Stand p l e R s m args below meth c T locs cells slots) (hx : p.tables.exec = Jvm.exec) (hby : c.code = code) {x y : Int32} (hd : own_at code pc (.ishr) 1 pc') 
    (h : own_Fin p.tables e below Rr (T.setTop (mkF m pc' Ls (.int (x >>> (y &&& 31)) :: st)))) : own_Fin p.tables e below Rr (T.setTop (mkF m pc Ls (.int y :: .int x :: st))) := by
  obtain ⟨hd, rfl⟩ := hd; subst hby
  exact own_pre (fun t k => XS.ishr X.here hx rfl hd rfl k) h
theorem o_iushr (X : Stand p l e R s m args below meth c T locs cells slots) (hx : p.tables.exec = Jvm.exec) (hby : c.code = code) {x y : Int32} (hd : own_at code pc (.iushr) 1 pc') 
    (h : own_Fin p.tables e below Rr (T.setTop (mkF m pc' Ls (.int ((x.toUInt32 >>> (y &&& 31).toUInt32).toInt32) :: st)))) : own_Fin p.tables e below Rr (T.setTop (mkF m pc Ls (.int y :: .int x :: st))) := by
  obtain ⟨hd, rfl⟩ := hd; subst hby
  exact own_pre (fun t k => XS.iushr X.here hx rfl hd rfl k) h
theorem o_lshl (X : Stand p l e R s m args below meth c T locs cells slots) (hx : p.tables.exec = Jvm.exec) (hby : c.code = code) {x : Int64} {y : Int32} (hd : own_at code pc (.lshl) 1 pc') 
    (h : own_Fin p.tables e below Rr (T.setTop (mkF m pc' Ls (.long (x <<< (y &&& 0x3f).toInt64) :: st)))) : own_Fin p.tables e below Rr (T.setTop (mkF m pc Ls (.int y :: .long x :: st))) := by
  obtain ⟨hd, rfl⟩ := hd; subst hby
  exact own_pre (fun t k => XS.lshl X.here hx rfl hd rfl k) h
theorem o_lshr (X : Stand p l e R s m args below meth c T locs cells slots) (hx : p.tables.exec = Jvm.exec) (hby : c.code = code) {x : Int64} {y : Int32} (hd : own_at code pc (.lshr) 1 pc') 
    (h : own_Fin p.tables e below Rr (T.setTop (mkF m pc' Ls (.long (x >>> (y &&& 0x3f).toInt64) :: st)))) : own_Fin p.tables e below Rr (T.setTop (mkF m pc Ls (.int y :: .long x :: st))) := by
  obtain ⟨hd, rfl⟩ := hd; subst hby
  exact own_pre (fun t k => XS.lshr X.here hx rfl hd rfl k) h
theorem o_lushr (X : Stand p l e R s m args below meth c T locs cells slots) (hx : p.tables.exec = Jvm.exec) (hby : c.code = code) {x : Int64} {y : Int32} (hd : own_at code pc (.lushr) 1 pc') 
    (h : own_Fin p.tables e below Rr (T.setTop (mkF m pc' Ls (.long ((x.toUInt64 >>> (y &&& 0x3f).toInt64.toUInt64).toInt64) :: st)))) : own_Fin p.tables e below Rr (T.setTop (mkF m pc Ls (.int y :: .long x :: st))) := by
  obtain ⟨hd, rfl⟩ := hd; subst hby
  exact own_pre (fun t k => XS.lushr X.here hx rfl hd rfl k) h
theorem o_ineg (X : Stand p l e R s m args below meth c T locs cells slots) (hx : p.tables.exec = Jvm.exec) (hby : c.code = code) {x : Int32} (hd : own_at code pc (.ineg) 1 pc') 
    (h : own_Fin p.tables e below Rr (T.setTop (mkF m pc' Ls (.int (-x) :: st)))) : own_Fin p.tables e below Rr (T.setTop (mkF m pc Ls (.int x :: st))) := by
  obtain ⟨hd, rfl⟩ := hd; subst hby
  exact own_pre (fun t k => XS.ineg X.here hx rfl hd rfl k) h
theorem o_lneg (X : Stand p l e R s m args below meth c T locs cells slots) (hx : p.tables.exec = Jvm.exec) (hby : c.code = code) {x : Int64} (hd : own_at code pc (.lneg) 1 pc') 
    (h : own_Fin p.tables e below Rr (T.setTop (mkF m pc' Ls (.long (-x) :: st)))) : own_Fin p.tables e below Rr (T.setTop (mkF m pc Ls (.long x :: st))) := by
  obtain ⟨hd, rfl⟩ := hd; subst hby
  exact own_pre (fun t k => XS.lneg X.here hx rfl hd rfl k) h
theorem o_i2l (X : Stand p l e R s m args below meth c T locs cells slots) (hx : p.tables.exec = Jvm.exec) (hby : c.code = code) {x : Int32} (hd : own_at code pc (.i2l) 1 pc') 
    (h : own_Fin p.tables e below Rr (T.setTop (mkF m pc' Ls (.long (x.toInt64) :: st)))) : own_Fin p.tables e below Rr (T.setTop (mkF m pc Ls (.int x :: st))) := by
  obtain ⟨hd, rfl⟩ := hd; subst hby
  exact own_pre (fun t k => XS.i2l X.here hx rfl hd rfl k) h
theorem o_l2i (X : Stand p l e R s m args below meth c T locs cells slots) (hx : p.tables.exec = Jvm.exec) (hby : c.code = code) {x : Int64} (hd : own_at code pc (.l2i) 1 pc') 
    (h : own_Fin p.tables e below Rr (T.setTop (mkF m pc' Ls (.int (x.toInt32) :: st)))) : own_Fin p.tables e below Rr (T.setTop (mkF m pc Ls (.long x :: st))) := by
  obtain ⟨hd, rfl⟩ := hd; subst hby
  exact own_pre (fun t k => XS.l2i X.here hx rfl hd rfl k) h
theorem o_i2b (X : Stand p l e R s m args below meth c T locs cells slots) (hx : p.tables.exec = Jvm.exec) (hby : c.code = code) {x : Int32} (hd : own_at code pc (.i2b) 1 pc') 
    (h : own_Fin p.tables e below Rr (T.setTop (mkF m pc' Ls (.int (x.toInt8.toInt32) :: st)))) : own_Fin p.tables e below Rr (T.setTop (mkF m pc Ls (.int x :: st))) := by
  obtain ⟨hd, rfl⟩ := hd; subst hby
  exact own_pre (fun t k => XS.i2b X.here hx rfl hd rfl k) h
theorem o_i2s (X : Stand p l e R s m args below meth c T locs cells slots) (hx : p.tables.exec = Jvm.exec) (hby : c.code = code) {x : Int32} (hd : own_at code pc (.i2s) 1 pc') 
    (h : own_Fin p.tables e below Rr (T.setTop (mkF m pc' Ls (.int (x.toInt16.toInt32) :: st)))) : own_Fin p.tables e below Rr (T.setTop (mkF m pc Ls (.int x :: st))) := by
  obtain ⟨hd, rfl⟩ := hd; subst hby
  exact own_pre (fun t k => XS.i2s X.here hx rfl hd rfl k) h
theorem o_i2c (X : Stand p l e R s m args below meth c T locs cells slots) (hx : p.tables.exec = Jvm.exec) (hby : c.code = code) {x : Int32} (hd : own_at code pc (.i2c) 1 pc') 
    (h : own_Fin p.tables e below Rr (T.setTop (mkF m pc' Ls (.int (x.toUInt32.toUInt16.toUInt32.toInt32) :: st)))) : own_Fin p.tables e below Rr (T.setTop (mkF m pc Ls (.int x :: st))) := by
  obtain ⟨hd, rfl⟩ := hd; subst hby
  exact own_pre (fun t k => XS.i2c X.here hx rfl hd rfl k) h
theorem o_idiv (X : Stand p l e R s m args below meth c T locs cells slots) (hx : p.tables.exec = Jvm.exec) (hby : c.code = code) {x y : Int32} (hd : own_at code pc (.idiv) 1 pc') (hy : y ≠ 0)
    (h : own_Fin p.tables e below Rr (T.setTop (mkF m pc' Ls (.int (x / y) :: st)))) : own_Fin p.tables e below Rr (T.setTop (mkF m pc Ls (.int y :: .int x :: st))) := by
  obtain ⟨hd, rfl⟩ := hd; subst hby
  exact own_pre (fun t k => XS.idiv X.here hx rfl hd rfl hy k) h
theorem o_ldiv (X : Stand p l e R s m args below meth c T locs cells slots) (hx : p.tables.exec = Jvm.exec) (hby : c.code = code) {x y : Int64} (hd : own_at code pc (.ldiv) 1 pc') (hy : y ≠ 0)
    (h : own_Fin p.tables e below Rr (T.setTop (mkF m pc' Ls (.long (x / y) :: st)))) : own_Fin p.tables e below Rr (T.setTop (mkF m pc Ls (.long y :: .long x :: st))) := by
  obtain ⟨hd, rfl⟩ := hd; subst hby
  exact own_pre (fun t k => XS.ldiv X.here hx rfl hd rfl hy k) h
theorem o_irem (X : Stand p l e R s m args below meth c T locs cells slots) (hx : p.tables.exec = Jvm.exec) (hby : c.code = code) {x y : Int32} (hd : own_at code pc (.irem) 1 pc') (hy : y ≠ 0)
    (h : own_Fin p.tables e below Rr (T.setTop (mkF m pc' Ls (.int (x % y) :: st)))) : own_Fin p.tables e below Rr (T.setTop (mkF m pc Ls (.int y :: .int x :: st))) := by
  obtain ⟨hd, rfl⟩ := hd; subst hby
  exact own_pre (fun t k => iremM X hx rfl hd rfl hy k) h
theorem o_lcmp (X : Stand p l e R s m args below meth c T locs cells slots) (hx : p.tables.exec = Jvm.exec) (hby : c.code = code) {x y : Int64} (hd : own_at code pc (.lcmp) 1 pc') 
    (h : own_Fin p.tables e below Rr (T.setTop (mkF m pc' Ls (.int (lcmpW x y) :: st)))) : own_Fin p.tables e below Rr (T.setTop (mkF m pc Ls (.long y :: .long x :: st))) := by
  obtain ⟨hd, rfl⟩ := hd; subst hby
  exact own_pre (fun t k => XS.lcmp X.here hx rfl hd rfl k) h
theorem o_iinc (X : Stand p l e R s m args below meth c T locs cells slots) (hx : p.tables.exec = Jvm.exec) (hby : c.code = code) {k : Nat} {i : Int} {x : Int32} {l' : Array Slot} (hd : own_at code pc (.iinc k i) 3 pc') (hl : Ls[k]? = some (.val (.int x))) (hl' : storeLocals Ls k (.int (x + Int32.ofInt i)) = some l')
    (h : own_Fin p.tables e below Rr (T.setTop (mkF m pc' l' (st)))) : own_Fin p.tables e below Rr (T.setTop (mkF m pc Ls (st))) := by
  obtain ⟨hd, rfl⟩ := hd; subst hby
  exact own_pre (fun t k => XS.iinc X.here hx rfl hd hl hl' k) h
theorem o_dup (X : Stand p l e R s m args below meth c T locs cells slots) (hx : p.tables.exec = Jvm.exec) (hby : c.code = code) {v : Value} (hd : own_at code pc (.dup) 1 pc') (hv : v.category = 1)
    (h : own_Fin p.tables e below Rr (T.setTop (mkF m pc' Ls (v :: v :: st)))) : own_Fin p.tables e below Rr (T.setTop (mkF m pc Ls (v :: st))) := by
  obtain ⟨hd, rfl⟩ := hd; subst hby
  exact own_pre (fun t k => XS.dup X.here hx rfl hd rfl hv k) h
theorem o_pop (X : Stand p l e R s m args below meth c T locs cells slots) (hx : p.tables.exec = Jvm.exec) (hby : c.code = code) {v : Value} (hd : own_at code pc (.pop) 1 pc') (hv : v.category = 1)
    (h : own_Fin p.tables e below Rr (T.setTop (mkF m pc' Ls (st)))) : own_Fin p.tables e below Rr (T.setTop (mkF m pc Ls (v :: st))) := by
  obtain ⟨hd, rfl⟩ := hd; subst hby
  exact own_pre (fun t k => XS.pop X.here hx rfl hd rfl hv k) h
theorem o_dupX1 (X : Stand p l e R s m args below meth c T locs cells slots) (hx : p.tables.exec = Jvm.exec) (hby : c.code = code) {v w : Value} (hd : own_at code pc (.dup_x1) 1 pc') (hv : v.category = 1) (hw : w.category = 1)
    (h : own_Fin p.tables e below Rr (T.setTop (mkF m pc' Ls (v :: w :: v :: st)))) : own_Fin p.tables e below Rr (T.setTop (mkF m pc Ls (v :: w :: st))) := by
  obtain ⟨hd, rfl⟩ := hd; subst hby
  exact own_pre (fun t k => XS.dupX1 X.here hx rfl hd rfl hv hw k) h
theorem o_goto (X : Stand p l e R s m args below meth c T locs cells slots) (hx : p.tables.exec = Jvm.exec) (hby : c.code = code) {o : Int} {q : Nat} (hd : own_at code pc (.goto o) 3 pc') (ho : 0 ≤ (pc : Int) + o) (hp : ((pc : Int) + o).toNat = q)
    (h : own_Fin p.tables e below Rr (T.setTop (mkF m q Ls st))) : own_Fin p.tables e below Rr (T.setTop (mkF m pc Ls st)) := by
  obtain ⟨hd, rfl⟩ := hd; subst hby
  exact own_pre (fun t k => XS.goto X.here hx rfl (pc0 := pc) (pc' := q) rfl hd ho hp k) h
theorem o_ifY (X : Stand p l e R s m args below meth c T locs cells slots) (hx : p.tables.exec = Jvm.exec) (hby : c.code = code) {cd : ClassFile.Cond} {o : Int} {x : Int32} {q : Nat} (hd : own_at code pc (.ifCond cd o) 3 pc') (hc : ifCond.holds cd x = true) (ho : 0 ≤ (pc : Int) + o) (hp : ((pc : Int) + o).toNat = q)
    (h : own_Fin p.tables e below Rr (T.setTop (mkF m q Ls st))) : own_Fin p.tables e below Rr (T.setTop (mkF m pc Ls (.int x :: st))) := by
  obtain ⟨hd, rfl⟩ := hd; subst hby
  exact own_pre (fun t k => XS.ifYes X.here hx rfl (pc0 := pc) (pc' := q) rfl hd rfl hc ho hp k) h
theorem o_ifN (X : Stand p l e R s m args below meth c T locs cells slots) (hx : p.tables.exec = Jvm.exec) (hby : c.code = code) {cd : ClassFile.Cond} {o : Int} {x : Int32} (hd : own_at code pc (.ifCond cd o) 3 pc') (hc : ifCond.holds cd x = false)
    (h : own_Fin p.tables e below Rr (T.setTop (mkF m pc' Ls st))) : own_Fin p.tables e below Rr (T.setTop (mkF m pc Ls (.int x :: st))) := by
  obtain ⟨hd, rfl⟩ := hd; subst hby
  exact own_pre (fun t k => XS.ifNo X.here hx rfl hd rfl hc k) h
theorem o_icmpY (X : Stand p l e R s m args below meth c T locs cells slots) (hx : p.tables.exec = Jvm.exec) (hby : c.code = code) {cd : ClassFile.Cond} {o : Int} {x y : Int32} {q : Nat} (hd : own_at code pc (.if_icmp cd o) 3 pc') (hc : if_icmp.holds cd x y = true) (ho : 0 ≤ (pc : Int) + o) (hp : ((pc : Int) + o).toNat = q)
    (h : own_Fin p.tables e below Rr (T.setTop (mkF m q Ls st))) : own_Fin p.tables e below Rr (T.setTop (mkF m pc Ls (.int y :: .int x :: st))) := by
  obtain ⟨hd, rfl⟩ := hd; subst hby
  exact own_pre (fun t k => XS.icmpYes X.here hx rfl (pc0 := pc) (pc' := q) rfl hd rfl hc ho hp k) h
theorem o_icmpN (X : Stand p l e R s m args below meth c T locs cells slots) (hx : p.tables.exec = Jvm.exec) (hby : c.code = code) {cd : ClassFile.Cond} {o : Int} {x y : Int32} (hd : own_at code pc (.if_icmp cd o) 3 pc') (hc : if_icmp.holds cd x y = false)
    (h : own_Fin p.tables e below Rr (T.setTop (mkF m pc' Ls st))) : own_Fin p.tables e below Rr (T.setTop (mkF m pc Ls (.int y :: .int x :: st))) := by
  obtain ⟨hd, rfl⟩ := hd; subst hby
  exact own_pre (fun t k => XS.icmpNo X.here hx rfl hd rfl hc k) h
theorem o_ldc (X : Stand p l e R s m args below meth c T locs cells slots) (hx : p.tables.exec = Jvm.exec) (hby : c.code = code) {own : String} {index : Nat} {v : Int32} (hown : s.vm.findClass own = some m.cls) (hc : (Cond.constant own index v).before args s = true) (hd : own_at code pc (.ldc index) 2 pc')
    (h : own_Fin p.tables e below Rr (T.setTop (mkF m pc' Ls (.int v :: st)))) : own_Fin p.tables e below Rr (T.setTop (mkF m pc Ls st)) := by
  obtain ⟨hd, rfl⟩ := hd; subst hby
  exact own_pre (fun t k => X.ldcInt hx hown hc (g := mkF m pc Ls st) rfl hd t k) h
theorem o_ldc2 (X : Stand p l e R s m args below meth c T locs cells slots) (hx : p.tables.exec = Jvm.exec) (hby : c.code = code) {own : String} {index : Nat} {v : Int64} (hown : s.vm.findClass own = some m.cls) (hc : (Cond.constantLong own index v).before args s = true) (hd : own_at code pc (.ldc2_w index) 3 pc')
    (h : own_Fin p.tables e below Rr (T.setTop (mkF m pc' Ls (.long v :: st)))) : own_Fin p.tables e below Rr (T.setTop (mkF m pc Ls st)) := by
  obtain ⟨hd, rfl⟩ := hd; subst hby
  exact own_pre (fun t k => X.ldc2Long hx hown hc (g := mkF m pc Ls st) rfl hd t k) h
end Steps1

end New
end Jvm.RoadKit
namespace Jvm.RoadKit
open Sem ClassFile Op Lib Jvm.Stand Jvm.Free Jvm.LawKit Jvm.Free.Fl
theorem own_dload {tb : Tables} [Ours tb] {e : Env} {below : List Frame} {T target : State} {m : MethodId} {c : Code} {g : JFrame} (h : At T m c below) (hx : tb.exec = Jvm.exec) (hg : g.method = m) {k : Nat} {v : UInt64} (hd : decode c.code g.pc = .ok (.dload k, 2)) (hl : g.locals[k]? = some (.val (.double v)))
    (hr : Steps tb e below (T.setTop { g with pc := g.pc + 2, stack := .double v :: g.stack }) target) : Steps tb e below (T.setTop g) target := by
  subst hg
  jvm_step h [h.top, hx, hd, hl]
  exact hr
theorem own_dstore {tb : Tables} [Ours tb] {e : Env} {below : List Frame} {T target : State} {m : MethodId} {c : Code} {g : JFrame} (h : At T m c below) (hx : tb.exec = Jvm.exec) (hg : g.method = m) {k : Nat} {x : UInt64} {rest : List Value} {l' : Array Slot} (hd : decode c.code g.pc = .ok (.dstore k, 2)) (hs : g.stack = .double x :: rest) (hl : storeLocals g.locals k (.double x) = some l')
    (hr : Steps tb e below (T.setTop { g with pc := g.pc + 2, stack := rest, locals := l' }) target) : Steps tb e below (T.setTop g) target := by
  subst hg
  jvm_step h [h.top, hx, hd, hs, hl]
  exact hr
theorem own_i2d {tb : Tables} [Ours tb] {e : Env} {below : List Frame} {T target : State} {m : MethodId} {c : Code} {g : JFrame} (h : At T m c below) (hx : tb.exec = Jvm.exec) (hg : g.method = m) {x : Int32} {rest : List Value} (hd : decode c.code g.pc = .ok (.i2d, 1)) (hs : g.stack = .int x :: rest)
    (hr : Steps tb e below (T.setTop { g with pc := g.pc + 1, stack := .double (FP.i2d x) :: rest }) target) : Steps tb e below (T.setTop g) target := by
  subst hg
  jvm_step h [h.top, hx, hd, hs]
  exact hr
theorem own_dcmp {tb : Tables} [Ours tb] {e : Env} {below : List Frame} {T target : State} {m : MethodId} {c : Code} {g : JFrame} (h : At T m c below) (hx : tb.exec = Jvm.exec) (hg : g.method = m) {x y : UInt64} {op : CmpOp} {rest : List Value} (hd : decode c.code g.pc = .ok (.dcmp op, 1)) (hs : g.stack = .double y :: .double x :: rest)
    (hr : Steps tb e below (T.setTop { g with pc := g.pc + 1, stack := .int (cmpValue (FP.dcmp x y) op) :: rest }) target) : Steps tb e below (T.setTop g) target := by
  subst hg
  jvm_step h [h.top, hx, hd, hs]
  exact hr
theorem own_dadd {tb : Tables} [Ours tb] {e : Env} {below : List Frame} {T target : State} {m : MethodId} {c : Code} {g : JFrame} (h : At T m c below) (hx : tb.exec = Jvm.exec) (hg : g.method = m) {x y : UInt64} {rest : List Value} (hd : decode c.code g.pc = .ok (.dadd, 1)) (hs : g.stack = .double y :: .double x :: rest) (hn : NoNaN64 (FP.dadd x y))
    (hr : Steps tb e below (T.setTop { g with pc := g.pc + 1, stack := .double (FP.dadd x y) :: rest }) target) : Steps tb e below (T.setTop g) target := by
  subst hg
  obtain ⟨fm, fpc, fls, fst, flk, fen, fmr⟩ := g
  subst hs
  jvm_step h [h.top, hx, hd, Op.dadd.at_number h.top hn]
  exact hr
theorem own_dmul {tb : Tables} [Ours tb] {e : Env} {below : List Frame} {T target : State} {m : MethodId} {c : Code} {g : JFrame} (h : At T m c below) (hx : tb.exec = Jvm.exec) (hg : g.method = m) {x y : UInt64} {rest : List Value} (hd : decode c.code g.pc = .ok (.dmul, 1)) (hs : g.stack = .double y :: .double x :: rest) (hn : NoNaN64 (FP.dmul x y))
    (hr : Steps tb e below (T.setTop { g with pc := g.pc + 1, stack := .double (FP.dmul x y) :: rest }) target) : Steps tb e below (T.setTop g) target := by
  subst hg
  obtain ⟨fm, fpc, fls, fst, flk, fen, fmr⟩ := g
  subst hs
  jvm_step h [h.top, hx, hd, Op.dmul.at_number h.top hn]
  exact hr
theorem own_ddiv {tb : Tables} [Ours tb] {e : Env} {below : List Frame} {T target : State} {m : MethodId} {c : Code} {g : JFrame} (h : At T m c below) (hx : tb.exec = Jvm.exec) (hg : g.method = m) {x y : UInt64} {rest : List Value} (hd : decode c.code g.pc = .ok (.ddiv, 1)) (hs : g.stack = .double y :: .double x :: rest) (hn : NoNaN64 (FP.ddiv x y))
    (hr : Steps tb e below (T.setTop { g with pc := g.pc + 1, stack := .double (FP.ddiv x y) :: rest }) target) : Steps tb e below (T.setTop g) target := by
  subst hg
  obtain ⟨fm, fpc, fls, fst, flk, fen, fmr⟩ := g
  subst hs
  jvm_step h [h.top, hx, hd, Op.ddiv.at_number h.top hn]
  exact hr
section St
variable {p : Program} {l : Launch} {e : Env} {R : Room} {s : State} {m : MethodId} {args : Array Value} {below : List Frame} {meth : Method} {c : Code} {T : State} {locs : List Loc} {cells slots : Nat} {Z : State} {h : Heap}
theorem own_stD (X : Stand p l e R s m args below meth c T locs cells slots) (hx : p.tables.exec = Jvm.exec) (hZ : Z.Warmed39 s.vm) (eT : T.heap = h) {a : Addr} {cl : Cell} (A : Arr Z h a cl .double) {j : Int32} {x : UInt64} (hj : ¬ (j < 0 ∨ cl.slots.size ≤ j.toNatClampNeg)) {g : JFrame} (hg : g.method = m) {rest : List Value} (hs : g.stack = .double x :: .int j :: .ref a :: rest) (hd : decode c.code g.pc = .ok (.dastore, 1)) :
    ∃ T' h', Stand p l e R s m args below meth c T' (locs ++ [⟨a, j.toNatClampNeg⟩]) cells slots ∧ T'.heap = h' ∧ Wr h h' a j.toNatClampNeg (.double x) ∧ ∀ target, Steps p.tables e below (T'.setTop { g with pc := g.pc + 1, stack := rest }) target → Steps p.tables e below (T.setTop g) target := by
  obtain ⟨X', st⟩ := X.dastore hx (by rw [eT]; exact A.1) (State.isArrayOf_alike hZ.alike A.2.1) A.2.2 hj hg hs hd
  exact ⟨_, _, X', rfl, ⟨cl, A.1, A.plain, Nat.lt_of_not_le fun q => hj (Or.inr q), by rw [← eT]; rfl⟩, st⟩
end St
end Jvm.RoadKit

namespace Jvm.RoadKit
open Jvm.FP.Core Jvm.Free.Fl
theorem own_two : val64 (4611686018427387904 : UInt64) = .fin false (2 ^ 52) (-51) := by decide +kernel
theorem own_nn {x : UInt64} (h : val64 x ≠ .nan) : NoNaN64 x := by
  refine noNaN64_no.mpr ?_
  show decide (val64 x = .nan) = false
  exact decide_eq_false h
theorem own_dint {i : Int} {x : UInt64} (h : DInt i x) : NoNaN64 x := own_nn fun e => by unfold DInt at h; rw [e] at h; exact h
theorem own_half {S : Int} {x : UInt64} (hx : DInt S x) : NoNaN64 (ddiv x (4611686018427387904 : UInt64)) ∧ DInt S (dmul (4611686018427387904 : UInt64) (ddiv x (4611686018427387904 : UInt64))) := by
  unfold DInt at hx ⊢
  have hfit := val64_fits x
  have hdv := val64_ddiv x (4611686018427387904 : UInt64)
  have hml := val64_dmul (4611686018427387904 : UInt64) (ddiv x (4611686018427387904 : UInt64))
  rw [own_two] at hdv hml
  cases hv : val64 x with
  | nan => rw [hv] at hx; exact hx.elim
  | inf b => rw [hv] at hx; exact hx.elim
  | fin s c q =>
    rw [hv] at hx hfit hdv
    obtain ⟨hc, hq1, hq2, hcan⟩ := hfit
    have kq : b64.qmin = -1074 := by decide
    have kp : (2 : Nat) ^ b64.p = 2 ^ 53 := by decide
    have kt : b64.tails = 2 ^ 52 := by decide
    have kx : b64.qmax = 971 := by decide
    rw [kq] at hq1 hcan; rw [kp] at hc; rw [kt] at hcan; rw [kx] at hq2
    have e1 : quotient b64 (.fin s c q) (.fin false (2 ^ 52) (-51)) = roundRatio b64 (s != false) c (2 ^ 52) (q - (-51)) := by
      unfold quotient
      exact if_neg (by decide)
    have hs : (s != false) = s := by cases s <;> rfl
    have hs2 : (false != s) = s := by cases s <;> rfl
    rw [e1, hs] at hdv
    by_cases hc0 : c = 0
    · subst hc0
      have e2 : roundRatio b64 s 0 (2 ^ 52) (q - (-51)) = .fin s 0 b64.qmin := by unfold roundRatio; exact if_pos rfl
      rw [e2] at hdv
      refine ⟨own_nn (by rw [hdv]; nofun), ?_⟩
      rw [hml, hdv]
      have e3 : round b64 (exactProduct (.fin false (2 ^ 52) (-51)) (.fin s 0 b64.qmin)) = .fin (false != s) 0 b64.qmin := by
        unfold exactProduct round roundRatio
        exact if_pos (Nat.mul_zero _)
      rw [e3]
      have z0 : S = 0 := by
        have h1 : signed s (0 * 2 ^ q.toNat) = S * ((2 ^ (-q).toNat : Nat) : Int) := hx
        rw [Nat.zero_mul] at h1
        have h2 : signed s 0 = 0 := by cases s <;> rfl
        rw [h2] at h1
        have h3 := Nat.two_pow_pos (-q).toNat
        rcases Int.mul_eq_zero.mp h1.symm with h4 | h4
        · exact h4
        · omega
      subst z0
      show signed (false != s) (0 * 2 ^ b64.qmin.toNat) = 0 * _
      rw [Nat.zero_mul, Int.zero_mul]
      cases s <;> rfl
    · have hq : -1074 < q := by
        by_cases w : -1074 < q
        · exact w
        · exfalso
          have hqe : q = -1074 := by omega
          subst hqe
          have h1 : signed s (c * 2 ^ ((-1074 : Int)).toNat) = S * ((2 ^ (-(-1074 : Int)).toNat : Nat) : Int) := hx
          have h2 : (signed s (c * 2 ^ ((-1074 : Int)).toNat)).natAbs = c := by
            have : ((-1074 : Int)).toNat = 0 := rfl
            rw [this, Nat.pow_zero, Nat.mul_one]
            cases s <;> simp [signed]
          rw [h1, Int.natAbs_mul, Int.natAbs_natCast] at h2
          have h3 : (-(-1074 : Int)).toNat = 1074 := rfl
          rw [h3] at h2
          have h4 : (2 : Nat) ^ 53 ≤ 2 ^ 1074 := Nat.pow_le_pow_right (by decide) (by decide)
          have h5 : S.natAbs ≠ 0 := fun w0 => by rw [w0, Nat.zero_mul] at h2; exact hc0 h2.symm
          have h6 : 1 * 2 ^ 1074 ≤ S.natAbs * 2 ^ 1074 := Nat.mul_le_mul_right _ (by omega)
          rw [Nat.one_mul, h2] at h6
          exact absurd (Nat.lt_of_lt_of_le hc (Nat.le_trans h4 h6)) (Nat.lt_irrefl _)
      have hct : 2 ^ 52 ≤ c := by
        rcases hcan with w | w
        · omega
        · exact w
      have f1 : Jvm.FP.Core.fits b64 (.fin s c (q - 1)) := by
        refine ⟨by rw [kp]; exact hc, by rw [kq]; omega, by rw [kx]; omega, Or.inr (by rw [kt]; exact hct)⟩
      have f2 : Jvm.FP.Core.fits b64 (.fin s c q) := by
        refine ⟨by rw [kp]; exact hc, by rw [kq]; omega, by rw [kx]; omega, Or.inr (by rw [kt]; exact hct)⟩
      have e2 : roundRatio b64 s c (2 ^ 52) (q - (-51)) = .fin s c (q - 1) := by
        refine roundRatio_exact good_b64 (by decide) f1 ?_
        have t1 : (q - (-51) - (q - 1)).toNat = 52 := by omega
        have t2 : (q - 1 - (q - (-51))).toNat = 0 := by omega
        rw [t1, t2, Nat.pow_zero, Nat.mul_one]
      rw [e2] at hdv
      refine ⟨own_nn (by rw [hdv]; nofun), ?_⟩
      rw [hml, hdv]
      have e3 : round b64 (exactProduct (.fin false (2 ^ 52) (-51)) (.fin s c (q - 1))) = .fin s c q := by
        show roundRatio b64 (false != s) (2 ^ 52 * c) 1 (-51 + (q - 1)) = .fin s c q
        rw [hs2]
        refine roundRatio_exact good_b64 (by decide) f2 ?_
        have t1 : (-51 + (q - 1) - q).toNat = 0 := by omega
        have t2 : (q - (-51 + (q - 1))).toNat = 52 := by omega
        rw [t1, t2, Nat.pow_zero, Nat.mul_one, Nat.mul_one, Nat.mul_comm]
      rw [e3]
      exact hx
theorem own_cmp {i : Int} {a b : UInt64} (ha : DInt i a) (hb : DInt i b) : dcmp a b = some .eq := by
  rw [dcmp_int ha hb]
  simp [compare, compareOfLessAndEq]
end Jvm.RoadKit
namespace Jvm.Pilot.@@N@@
open Jvm Jvm.ClassFile Sem Op Lib Jvm.Free Jvm.Stand Jvm.LawKit Jvm.RoadKit Bundle Jvm.Pilot.@@N@@.Jvm.D
theorem own_wd {Z : State} {a0 : Array Value} (hw : ∀ d ∈ tables_1, d.before a0 Z = true) {i : Nat} {d : Jvm.Cond} (h : tables_1[i]? = some d) : d.before a0 Z = true := hw _ (List.mem_of_getElem? h)
def own_Q0 (n0 : Nat) (v : Option Value) (h : Heap) (L : List Loc) : Prop := v = some (.int 1) ∧ Fr n0 L

theorem own_n5 {p n : Int32} (h : (p &&& (7 : Int32)) % (5 : Int32) + (1 : Int32) = n) : n = 1 ∨ n = 2 ∨ n = 3 ∨ n = 4 ∨ n = 5 := by
  have e1 : (p &&& 7).toInt = p.toInt % 2 ^ 3 := Jvm.Kit.i32_mask p 7 (k := 3) (by decide) (by decide)
  have k5 : (5 : Int32).toInt = 5 := rfl
  have k1 : (1 : Int32).toInt = 1 := rfl
  have k2 : (2 : Int32).toInt = 2 := rfl
  have k3 : (3 : Int32).toInt = 3 := rfl
  have k4 : (4 : Int32).toInt = 4 := rfl
  have e2 : ((p &&& (7 : Int32)) % (5 : Int32)).toInt = (p &&& (7 : Int32)).toInt % 5 := by rw [Jvm.Kit.i32_rem_nonneg (by rw [e1]; omega), k5]
  have e3 : n.toInt = (p &&& (7 : Int32)).toInt % 5 + 1 := by rw [← h, Jvm.Kit.i32_add (by rw [k1, e2]; omega) (by rw [k1, e2]; omega), k1, e2]
  simp only [← Int32.toInt_inj, k1, k2, k3, k4, k5]
  omega
theorem own_b0 {a n : Int32} (h : a % (100000 : Int32) = n) : -100000 < n.toInt ∧ n.toInt < 100000 := by
  have k : (100000 : Int32).toInt = 100000 := rfl
  have e : n.toInt = a.toInt.tmod 100000 := by rw [← h, Jvm.Kit.i32_rem, k]
  rw [e]
  exact ⟨Int.lt_tmod_of_pos _ (by decide), Int.tmod_lt_of_pos _ (by decide)⟩
theorem own_bs {x y n : Int32} {lo hi : Int} (h : x + (y &&& (65535 : Int32)) = n) (hb : lo < x.toInt ∧ x.toInt < hi) (hl : -1000000 < lo) (hh : hi < 1000000) : lo < n.toInt ∧ n.toInt < hi + 65536 := by
  have e1 : (y &&& 65535).toInt = y.toInt % 2 ^ 16 := Jvm.Kit.i32_mask y 65535 (k := 16) (by decide) (by decide)
  have e2 : n.toInt = x.toInt + y.toInt % 2 ^ 16 := by rw [← h, Jvm.Kit.i32_add (by rw [e1]; omega) (by rw [e1]; omega), e1]
  omega
theorem own_sum {x y : Int32} (hx : -1000000 < x.toInt ∧ x.toInt < 1000000) (hy : -1000000 < y.toInt ∧ y.toInt < 1000000) : FP.Core.DInt (x + y).toInt (FP.dadd (FP.i2d x) (FP.i2d y)) := by
  have e : (x + y).toInt = x.toInt + y.toInt := Jvm.Kit.i32_add (by omega) (by omega)
  rw [e]
  exact FP.Core.dadd_int (FP.Core.i2d_int x) (FP.Core.i2d_int y) (by omega)
theorem own_c0 (x : Int32) : cmpValue (FP.dcmp (FP.i2d x) (FP.i2d x)) .l = (0 : Int32) := by
  have e : FP.dcmp (FP.i2d x) (FP.i2d x) = some .eq := own_cmp (FP.Core.i2d_int x) (FP.Core.i2d_int x)
  rw [e]; rfl
theorem own_c2 {x y : Int32} (hx : -1000000 < x.toInt ∧ x.toInt < 1000000) (hy : -1000000 < y.toInt ∧ y.toInt < 1000000) : cmpValue (FP.dcmp (FP.dmul (4611686018427387904 : UInt64) (FP.ddiv (FP.dadd (FP.i2d x) (FP.i2d y)) (4611686018427387904 : UInt64))) (FP.i2d (x + y))) .l = (0 : Int32) := by
  have e : FP.dcmp (FP.dmul (4611686018427387904 : UInt64) (FP.ddiv (FP.dadd (FP.i2d x) (FP.i2d y)) (4611686018427387904 : UInt64))) (FP.i2d (x + y)) = some .eq := own_cmp (own_half (own_sum hx hy)).2 (FP.Core.i2d_int (x + y))
  rw [e]; rfl
theorem D1_0 : own_at prog_27_method_2_code 0 (.aload_n 0) 1 1 := ⟨by decide +kernel, rfl⟩
theorem D1_1 : own_at prog_27_method_2_code 1 (.arraylength) 1 2 := ⟨by decide +kernel, rfl⟩
theorem D1_2 : own_at prog_27_method_2_code 2 (.iconst 2) 1 3 := ⟨by decide +kernel, rfl⟩
theorem D1_3 : own_at prog_27_method_2_code 3 (.idiv) 1 4 := ⟨by decide +kernel, rfl⟩
theorem D1_4 : own_at prog_27_method_2_code 4 (.istore_n 1) 1 5 := ⟨by decide +kernel, rfl⟩
theorem D1_5 : own_at prog_27_method_2_code 5 (.aload_n 0) 1 6 := ⟨by decide +kernel, rfl⟩
theorem D1_6 : own_at prog_27_method_2_code 6 (.arraylength) 1 7 := ⟨by decide +kernel, rfl⟩
theorem D1_7 : own_at prog_27_method_2_code 7 (.iconst 2) 1 8 := ⟨by decide +kernel, rfl⟩
theorem D1_8 : own_at prog_27_method_2_code 8 (.irem) 1 9 := ⟨by decide +kernel, rfl⟩
theorem D1_9 : own_at prog_27_method_2_code 9 (.iconst 1) 1 10 := ⟨by decide +kernel, rfl⟩
theorem D1_10 : own_at prog_27_method_2_code 10 (.if_icmp .ne 9) 3 13 := ⟨by decide +kernel, rfl⟩
theorem D1_13 : own_at prog_27_method_2_code 13 (.aload_n 0) 1 14 := ⟨by decide +kernel, rfl⟩
theorem D1_14 : own_at prog_27_method_2_code 14 (.iload_n 1) 1 15 := ⟨by decide +kernel, rfl⟩
theorem D1_15 : own_at prog_27_method_2_code 15 (.daload) 1 16 := ⟨by decide +kernel, rfl⟩
theorem D1_16 : own_at prog_27_method_2_code 16 (.goto 16) 3 19 := ⟨by decide +kernel, rfl⟩
theorem D1_32 : own_at prog_27_method_2_code 32 (.dreturn) 1 33 := ⟨by decide +kernel, rfl⟩
theorem pn_tallymark_cli_BenchFigures : plainName "tallymark/cli/BenchFigures" = true := by first | (simp [plainName, overriddenIn]; done) | decide +kernel
theorem ef_rmM1 (m : MethodId) (bf : Addr) : entryFrame m #[(.ref bf)] 2 = mkF m 0 #[.val (.ref bf), .unset] [] := by first | (simp [entryFrame, mkF, argsToLocals, Value.category]; done) | rfl
set_option maxRecDepth 65536 in
set_option maxHeartbeats 40000000 in
theorem rmM1 (l : Launch) (Z : State) (a0 : Array Value) (hw : ∀ d ∈ tables_1, d.before a0 Z = true) (ws : List Jvm.Cond) (bf : Addr) (kb : ClassId) (d0 : UInt64) (h0 : Heap) (n0 : Nat) (Z0 : n0 ≤ h0.size) (V_bf : Arv Z h0 bf kb .double (1 : Int32) [(.double d0)] (.double 0)) :
    MetFree l (⟨"tallymark/cli/BenchFigures", "median", "([D)D"⟩ : MethodName) (head1 (Jvm.Cond.code (⟨"tallymark/cli/BenchFigures", "median", "([D)D"⟩ : MethodName) prog_27_method_2_code 2 (some .double) :: ws) ({ frames := 0, cells := 0, slots := 0, locals := 0 } : Room)) (fun a U => a = #[(.ref bf)] ∧ Z.Warmed39 U.vm ∧ U.heap = h0) (fun _ _ _ _ _ => True) (fun _ U o U' => ∃ v L, o = .returned v ∧ own_QP (.double d0) h0 n0 v U'.heap L ∧ FrameEnd U o U' L ({ frames := 0, cells := 0, slots := 0, locals := 0 } : Room).cells ({ frames := 0, cells := 0, slots := 0, locals := 0 } : Room).slots) := by
  refine MetFree.of_bodySF (plainFor_of_name pn_tallymark_cli_BenchFigures) hisR ?_
  intro p e s m args below meth c s₁ Bd hml0 hP hK
  obtain ⟨rfl, hZ, hh⟩ := hP
  have hx := Bd.exec
  have hby := Bd.bytes
  have hml : c.maxLocals = 2 := hml0
  have hown : s.vm.findClass "tallymark/cli/BenchFigures" = some m.cls := findClass_of_methodNamed Bd.named
  have hnm := (name_of_methodNamed Bd.named Bd.method).1
  have X0 : Stand p l e ({ frames := 0, cells := 0, slots := 0, locals := 0 } : Room) s m #[(.ref bf)] below meth c s₁ [] 0 0 := Stand.of_body Bd
  have e0 : s₁.heap = h0 := by rw [← hh, Bd.state]; rfl
  have N0 := Fr.nil n0
  refine own_start (ef_rmM1 m bf) ?_
  refine o_aloadN X0 hx hby D1_0 rfl rfl ?_
  obtain ⟨cl_bf_1, Ar_bf_1, q_bf_1, S_bf_1, N_bf_1, H_bf_1, G_bf_1⟩ := id V_bf
  refine own_pre (A' := s₁.setTop (mkF m 2 #[.val (.ref bf), .unset] [(.int (1 : Int32))])) (fun t k => X0.arraylength hx (by rw [e0]; exact Ar_bf_1.1) (State.isArrayOf_alike hZ.alike Ar_bf_1.2.1) (g := (mkF m 1 #[.val (.ref bf), .unset] [(.ref bf)])) rfl rfl (hb hby D1_1.1) _ (by rw [len_of S_bf_1 N_bf_1]; exact k)) ?_
  refine o_iconst X0 hx hby D1_2 (v := 2) rfl ?_
  refine o_idiv X0 hx hby D1_3 (by decide) ?_
  refine o_istoreN X0 hx hby D1_4 (l' := #[.val (.ref bf), .val (.int ((1 : Int32) / (2 : Int32)))]) rfl ?_
  rw [(by decide : ((1 : Int32) / (2 : Int32)) = (0 : Int32))]
  refine o_aloadN X0 hx hby D1_5 rfl rfl ?_
  obtain ⟨cl_bf_2, Ar_bf_2, q_bf_2, S_bf_2, N_bf_2, H_bf_2, G_bf_2⟩ := id V_bf
  refine own_pre (A' := s₁.setTop (mkF m 7 #[.val (.ref bf), .val (.int (0 : Int32))] [(.int (1 : Int32))])) (fun t k => X0.arraylength hx (by rw [e0]; exact Ar_bf_2.1) (State.isArrayOf_alike hZ.alike Ar_bf_2.2.1) (g := (mkF m 6 #[.val (.ref bf), .val (.int (0 : Int32))] [(.ref bf)])) rfl rfl (hb hby D1_6.1) _ (by rw [len_of S_bf_2 N_bf_2]; exact k)) ?_
  refine o_iconst X0 hx hby D1_7 (v := 2) rfl ?_
  refine o_irem X0 hx hby D1_8 (by decide) ?_
  refine o_iconst X0 hx hby D1_9 (v := 1) rfl ?_
  refine o_icmpN X0 hx hby D1_10 (teq (by decide : ((1 : Int32) % (2 : Int32)) = (1 : Int32))).2 ?_
  refine o_aloadN X0 hx hby D1_13 rfl rfl ?_
  refine o_iloadN X0 hx hby D1_14 rfl ?_
  obtain ⟨cl_bf_3, Ar_bf_3, q_bf_3, S_bf_3, N_bf_3, H_bf_3, G_bf_3⟩ := id V_bf
  have hin_bf_3 : ¬ ((0 : Int32) < 0 ∨ cl_bf_3.slots.size ≤ ((0 : Int32)).toNatClampNeg) := inb_of S_bf_3 ⟨by decide, by decide⟩
  have hat_bf_3 : cl_bf_3.slots[((0 : Int32)).toNatClampNeg]? = some (.double d0) := H_bf_3.at hin_bf_3 (rfl)
  refine own_pre (A' := s₁.setTop (mkF m 16 #[.val (.ref bf), .val (.int (0 : Int32))] [(.double d0)])) (fun t k => X0.daload hx (j := (0 : Int32)) (v := (.double d0)) (by rw [e0]; exact Ar_bf_3.1) (State.isArrayOf_alike hZ.alike Ar_bf_3.2.1) Ar_bf_3.2.2 hin_bf_3 hat_bf_3 (g := (mkF m 15 #[.val (.ref bf), .val (.int (0 : Int32))] [(.int (0 : Int32)), (.ref bf)])) rfl rfl (hb hby D1_15.1) _ k) ?_
  refine o_goto X0 hx hby D1_16 (q := 32) (by decide) (by decide) ?_
  exact own_ret (v := some (.double d0)) X0 (fun h => by first | rfl | (rw [Bd.returns] at h; cases h)) (BodyLoose.notSynchronized Bd) (by decide) (by decide) (⟨rfl, N0, e0⟩) (fun fs hr => retOut X0 hx Bd.returns rfl (Or.inr (Or.inr (Or.inl ⟨rfl, rfl, _, rfl⟩))) (hb hby D1_32.1) hr)
theorem D1_19 : own_at prog_27_method_2_code 19 (.aload_n 0) 1 20 := ⟨by decide +kernel, rfl⟩
theorem D1_20 : own_at prog_27_method_2_code 20 (.iload_n 1) 1 21 := ⟨by decide +kernel, rfl⟩
theorem D1_21 : own_at prog_27_method_2_code 21 (.iconst 1) 1 22 := ⟨by decide +kernel, rfl⟩
theorem D1_22 : own_at prog_27_method_2_code 22 (.isub) 1 23 := ⟨by decide +kernel, rfl⟩
theorem D1_23 : own_at prog_27_method_2_code 23 (.daload) 1 24 := ⟨by decide +kernel, rfl⟩
theorem D1_24 : own_at prog_27_method_2_code 24 (.aload_n 0) 1 25 := ⟨by decide +kernel, rfl⟩
theorem D1_25 : own_at prog_27_method_2_code 25 (.iload_n 1) 1 26 := ⟨by decide +kernel, rfl⟩
theorem D1_26 : own_at prog_27_method_2_code 26 (.daload) 1 27 := ⟨by decide +kernel, rfl⟩
theorem D1_27 : own_at prog_27_method_2_code 27 (.dadd) 1 28 := ⟨by decide +kernel, rfl⟩
theorem D1_28 : own_at prog_27_method_2_code 28 (.ldc2_w 7) 3 31 := ⟨by decide +kernel, rfl⟩
theorem D1_31 : own_at prog_27_method_2_code 31 (.ddiv) 1 32 := ⟨by decide +kernel, rfl⟩
theorem ef_rmM2 (m : MethodId) (bf : Addr) : entryFrame m #[(.ref bf)] 2 = mkF m 0 #[.val (.ref bf), .unset] [] := by first | (simp [entryFrame, mkF, argsToLocals, Value.category]; done) | rfl
set_option maxRecDepth 65536 in
set_option maxHeartbeats 40000000 in
theorem rmM2 (l : Launch) (Z : State) (a0 : Array Value) (hw : ∀ d ∈ tables_1, d.before a0 Z = true) (ws : List Jvm.Cond) (bf : Addr) (kb : ClassId) (d0 d1 : UInt64) (h0 : Heap) (n0 : Nat) (Z0 : n0 ≤ h0.size) (V_bf : Arv Z h0 bf kb .double (2 : Int32) [(.double d0), (.double d1)] (.double 0)) (hn1 : Jvm.Free.Fl.NoNaN64 (FP.dadd d0 d1)) (hn2 : Jvm.Free.Fl.NoNaN64 (FP.ddiv (FP.dadd d0 d1) (4611686018427387904 : UInt64))) :
    MetFree l (⟨"tallymark/cli/BenchFigures", "median", "([D)D"⟩ : MethodName) (head1 (Jvm.Cond.code (⟨"tallymark/cli/BenchFigures", "median", "([D)D"⟩ : MethodName) prog_27_method_2_code 2 (some .double) :: ws) ({ frames := 0, cells := 0, slots := 0, locals := 0 } : Room)) (fun a U => a = #[(.ref bf)] ∧ Z.Warmed39 U.vm ∧ U.heap = h0) (fun _ _ _ _ _ => True) (fun _ U o U' => ∃ v L, o = .returned v ∧ own_QP (.double (FP.ddiv (FP.dadd d0 d1) (4611686018427387904 : UInt64))) h0 n0 v U'.heap L ∧ FrameEnd U o U' L ({ frames := 0, cells := 0, slots := 0, locals := 0 } : Room).cells ({ frames := 0, cells := 0, slots := 0, locals := 0 } : Room).slots) := by
  refine MetFree.of_bodySF (plainFor_of_name pn_tallymark_cli_BenchFigures) hisR ?_
  intro p e s m args below meth c s₁ Bd hml0 hP hK
  obtain ⟨rfl, hZ, hh⟩ := hP
  have hx := Bd.exec
  have hby := Bd.bytes
  have hml : c.maxLocals = 2 := hml0
  have hown : s.vm.findClass "tallymark/cli/BenchFigures" = some m.cls := findClass_of_methodNamed Bd.named
  have hnm := (name_of_methodNamed Bd.named Bd.method).1
  have X0 : Stand p l e ({ frames := 0, cells := 0, slots := 0, locals := 0 } : Room) s m #[(.ref bf)] below meth c s₁ [] 0 0 := Stand.of_body Bd
  have e0 : s₁.heap = h0 := by rw [← hh, Bd.state]; rfl
  have N0 := Fr.nil n0
  refine own_start (ef_rmM2 m bf) ?_
  refine o_aloadN X0 hx hby D1_0 rfl rfl ?_
  obtain ⟨cl_bf_1, Ar_bf_1, q_bf_1, S_bf_1, N_bf_1, H_bf_1, G_bf_1⟩ := id V_bf
  refine own_pre (A' := s₁.setTop (mkF m 2 #[.val (.ref bf), .unset] [(.int (2 : Int32))])) (fun t k => X0.arraylength hx (by rw [e0]; exact Ar_bf_1.1) (State.isArrayOf_alike hZ.alike Ar_bf_1.2.1) (g := (mkF m 1 #[.val (.ref bf), .unset] [(.ref bf)])) rfl rfl (hb hby D1_1.1) _ (by rw [len_of S_bf_1 N_bf_1]; exact k)) ?_
  refine o_iconst X0 hx hby D1_2 (v := 2) rfl ?_
  refine o_idiv X0 hx hby D1_3 (by decide) ?_
  refine o_istoreN X0 hx hby D1_4 (l' := #[.val (.ref bf), .val (.int ((2 : Int32) / (2 : Int32)))]) rfl ?_
  rw [(by decide : ((2 : Int32) / (2 : Int32)) = (1 : Int32))]
  refine o_aloadN X0 hx hby D1_5 rfl rfl ?_
  obtain ⟨cl_bf_2, Ar_bf_2, q_bf_2, S_bf_2, N_bf_2, H_bf_2, G_bf_2⟩ := id V_bf
  refine own_pre (A' := s₁.setTop (mkF m 7 #[.val (.ref bf), .val (.int (1 : Int32))] [(.int (2 : Int32))])) (fun t k => X0.arraylength hx (by rw [e0]; exact Ar_bf_2.1) (State.isArrayOf_alike hZ.alike Ar_bf_2.2.1) (g := (mkF m 6 #[.val (.ref bf), .val (.int (1 : Int32))] [(.ref bf)])) rfl rfl (hb hby D1_6.1) _ (by rw [len_of S_bf_2 N_bf_2]; exact k)) ?_
  refine o_iconst X0 hx hby D1_7 (v := 2) rfl ?_
  refine o_irem X0 hx hby D1_8 (by decide) ?_
  refine o_iconst X0 hx hby D1_9 (v := 1) rfl ?_
  refine o_icmpY X0 hx hby D1_10 (feq (by decide : ¬ (((2 : Int32) % (2 : Int32)) = (1 : Int32)))).2 (q := 19) (by decide) (by decide) ?_
  refine o_aloadN X0 hx hby D1_19 rfl rfl ?_
  refine o_iloadN X0 hx hby D1_20 rfl ?_
  refine o_iconst X0 hx hby D1_21 (v := 1) rfl ?_
  refine o_isub X0 hx hby D1_22 ?_
  obtain ⟨cl_bf_3, Ar_bf_3, q_bf_3, S_bf_3, N_bf_3, H_bf_3, G_bf_3⟩ := id V_bf
  have hin_bf_3 : ¬ (((1 : Int32) - (1 : Int32)) < 0 ∨ cl_bf_3.slots.size ≤ (((1 : Int32) - (1 : Int32))).toNatClampNeg) := inb_of S_bf_3 ⟨by decide, by decide⟩
  have hat_bf_3 : cl_bf_3.slots[(((1 : Int32) - (1 : Int32))).toNatClampNeg]? = some (.double d0) := H_bf_3.at hin_bf_3 (rfl)
  refine own_pre (A' := s₁.setTop (mkF m 24 #[.val (.ref bf), .val (.int (1 : Int32))] [(.double d0)])) (fun t k => X0.daload hx (j := ((1 : Int32) - (1 : Int32))) (v := (.double d0)) (by rw [e0]; exact Ar_bf_3.1) (State.isArrayOf_alike hZ.alike Ar_bf_3.2.1) Ar_bf_3.2.2 hin_bf_3 hat_bf_3 (g := (mkF m 23 #[.val (.ref bf), .val (.int (1 : Int32))] [(.int ((1 : Int32) - (1 : Int32))), (.ref bf)])) rfl rfl (hb hby D1_23.1) _ k) ?_
  refine o_aloadN X0 hx hby D1_24 rfl rfl ?_
  refine o_iloadN X0 hx hby D1_25 rfl ?_
  obtain ⟨cl_bf_4, Ar_bf_4, q_bf_4, S_bf_4, N_bf_4, H_bf_4, G_bf_4⟩ := id V_bf
  have hin_bf_4 : ¬ ((1 : Int32) < 0 ∨ cl_bf_4.slots.size ≤ ((1 : Int32)).toNatClampNeg) := inb_of S_bf_4 ⟨by decide, by decide⟩
  have hat_bf_4 : cl_bf_4.slots[((1 : Int32)).toNatClampNeg]? = some (.double d1) := H_bf_4.at hin_bf_4 (rfl)
  refine own_pre (A' := s₁.setTop (mkF m 27 #[.val (.ref bf), .val (.int (1 : Int32))] [(.double d1), (.double d0)])) (fun t k => X0.daload hx (j := (1 : Int32)) (v := (.double d1)) (by rw [e0]; exact Ar_bf_4.1) (State.isArrayOf_alike hZ.alike Ar_bf_4.2.1) Ar_bf_4.2.2 hin_bf_4 hat_bf_4 (g := (mkF m 26 #[.val (.ref bf), .val (.int (1 : Int32))] [(.int (1 : Int32)), (.ref bf), (.double d0)])) rfl rfl (hb hby D1_26.1) _ k) ?_
  refine own_pre (A' := s₁.setTop (mkF m 28 #[.val (.ref bf), .val (.int (1 : Int32))] [(.double (FP.dadd d0 d1))])) (fun t k => own_dadd X0.here hx rfl (hb hby D1_27.1) rfl hn1 k) ?_
  refine own_pre (A' := s₁.setTop (mkF m 31 #[.val (.ref bf), .val (.int (1 : Int32))] [(.double (4611686018427387904 : UInt64)), (.double (FP.dadd d0 d1))])) (fun t k => X0.ldc2DoubleC hx hown (mvT hZ (own_wd hw (i := 7) rfl)) (g := (mkF m 28 #[.val (.ref bf), .val (.int (1 : Int32))] [(.double (FP.dadd d0 d1))])) rfl (hb hby D1_28.1) _ k) ?_
  refine own_pre (A' := s₁.setTop (mkF m 32 #[.val (.ref bf), .val (.int (1 : Int32))] [(.double (FP.ddiv (FP.dadd d0 d1) (4611686018427387904 : UInt64)))])) (fun t k => own_ddiv X0.here hx rfl (hb hby D1_31.1) rfl hn2 k) ?_
  exact own_ret (v := some (.double (FP.ddiv (FP.dadd d0 d1) (4611686018427387904 : UInt64)))) X0 (fun h => by first | rfl | (rw [Bd.returns] at h; cases h)) (BodyLoose.notSynchronized Bd) (by decide) (by decide) (⟨rfl, N0, e0⟩) (fun fs hr => retOut X0 hx Bd.returns rfl (Or.inr (Or.inr (Or.inl ⟨rfl, rfl, _, rfl⟩))) (hb hby D1_32.1) hr)
theorem ef_rmM3 (m : MethodId) (bf : Addr) : entryFrame m #[(.ref bf)] 2 = mkF m 0 #[.val (.ref bf), .unset] [] := by first | (simp [entryFrame, mkF, argsToLocals, Value.category]; done) | rfl
set_option maxRecDepth 65536 in
set_option maxHeartbeats 40000000 in
theorem rmM3 (l : Launch) (Z : State) (a0 : Array Value) (hw : ∀ d ∈ tables_1, d.before a0 Z = true) (ws : List Jvm.Cond) (bf : Addr) (kb : ClassId) (d0 d1 d2 : UInt64) (h0 : Heap) (n0 : Nat) (Z0 : n0 ≤ h0.size) (V_bf : Arv Z h0 bf kb .double (3 : Int32) [(.double d0), (.double d1), (.double d2)] (.double 0)) :
    MetFree l (⟨"tallymark/cli/BenchFigures", "median", "([D)D"⟩ : MethodName) (head1 (Jvm.Cond.code (⟨"tallymark/cli/BenchFigures", "median", "([D)D"⟩ : MethodName) prog_27_method_2_code 2 (some .double) :: ws) ({ frames := 0, cells := 0, slots := 0, locals := 0 } : Room)) (fun a U => a = #[(.ref bf)] ∧ Z.Warmed39 U.vm ∧ U.heap = h0) (fun _ _ _ _ _ => True) (fun _ U o U' => ∃ v L, o = .returned v ∧ own_QP (.double d1) h0 n0 v U'.heap L ∧ FrameEnd U o U' L ({ frames := 0, cells := 0, slots := 0, locals := 0 } : Room).cells ({ frames := 0, cells := 0, slots := 0, locals := 0 } : Room).slots) := by
  refine MetFree.of_bodySF (plainFor_of_name pn_tallymark_cli_BenchFigures) hisR ?_
  intro p e s m args below meth c s₁ Bd hml0 hP hK
  obtain ⟨rfl, hZ, hh⟩ := hP
  have hx := Bd.exec
  have hby := Bd.bytes
  have hml : c.maxLocals = 2 := hml0
  have hown : s.vm.findClass "tallymark/cli/BenchFigures" = some m.cls := findClass_of_methodNamed Bd.named
  have hnm := (name_of_methodNamed Bd.named Bd.method).1
  have X0 : Stand p l e ({ frames := 0, cells := 0, slots := 0, locals := 0 } : Room) s m #[(.ref bf)] below meth c s₁ [] 0 0 := Stand.of_body Bd
  have e0 : s₁.heap = h0 := by rw [← hh, Bd.state]; rfl
  have N0 := Fr.nil n0
  refine own_start (ef_rmM3 m bf) ?_
  refine o_aloadN X0 hx hby D1_0 rfl rfl ?_
  obtain ⟨cl_bf_1, Ar_bf_1, q_bf_1, S_bf_1, N_bf_1, H_bf_1, G_bf_1⟩ := id V_bf
  refine own_pre (A' := s₁.setTop (mkF m 2 #[.val (.ref bf), .unset] [(.int (3 : Int32))])) (fun t k => X0.arraylength hx (by rw [e0]; exact Ar_bf_1.1) (State.isArrayOf_alike hZ.alike Ar_bf_1.2.1) (g := (mkF m 1 #[.val (.ref bf), .unset] [(.ref bf)])) rfl rfl (hb hby D1_1.1) _ (by rw [len_of S_bf_1 N_bf_1]; exact k)) ?_
  refine o_iconst X0 hx hby D1_2 (v := 2) rfl ?_
  refine o_idiv X0 hx hby D1_3 (by decide) ?_
  refine o_istoreN X0 hx hby D1_4 (l' := #[.val (.ref bf), .val (.int ((3 : Int32) / (2 : Int32)))]) rfl ?_
  rw [(by decide : ((3 : Int32) / (2 : Int32)) = (1 : Int32))]
  refine o_aloadN X0 hx hby D1_5 rfl rfl ?_
  obtain ⟨cl_bf_2, Ar_bf_2, q_bf_2, S_bf_2, N_bf_2, H_bf_2, G_bf_2⟩ := id V_bf
  refine own_pre (A' := s₁.setTop (mkF m 7 #[.val (.ref bf), .val (.int (1 : Int32))] [(.int (3 : Int32))])) (fun t k => X0.arraylength hx (by rw [e0]; exact Ar_bf_2.1) (State.isArrayOf_alike hZ.alike Ar_bf_2.2.1) (g := (mkF m 6 #[.val (.ref bf), .val (.int (1 : Int32))] [(.ref bf)])) rfl rfl (hb hby D1_6.1) _ (by rw [len_of S_bf_2 N_bf_2]; exact k)) ?_
  refine o_iconst X0 hx hby D1_7 (v := 2) rfl ?_
  refine o_irem X0 hx hby D1_8 (by decide) ?_
  refine o_iconst X0 hx hby D1_9 (v := 1) rfl ?_
  refine o_icmpN X0 hx hby D1_10 (teq (by decide : ((3 : Int32) % (2 : Int32)) = (1 : Int32))).2 ?_
  refine o_aloadN X0 hx hby D1_13 rfl rfl ?_
  refine o_iloadN X0 hx hby D1_14 rfl ?_
  obtain ⟨cl_bf_3, Ar_bf_3, q_bf_3, S_bf_3, N_bf_3, H_bf_3, G_bf_3⟩ := id V_bf
  have hin_bf_3 : ¬ ((1 : Int32) < 0 ∨ cl_bf_3.slots.size ≤ ((1 : Int32)).toNatClampNeg) := inb_of S_bf_3 ⟨by decide, by decide⟩
  have hat_bf_3 : cl_bf_3.slots[((1 : Int32)).toNatClampNeg]? = some (.double d1) := H_bf_3.at hin_bf_3 (rfl)
  refine own_pre (A' := s₁.setTop (mkF m 16 #[.val (.ref bf), .val (.int (1 : Int32))] [(.double d1)])) (fun t k => X0.daload hx (j := (1 : Int32)) (v := (.double d1)) (by rw [e0]; exact Ar_bf_3.1) (State.isArrayOf_alike hZ.alike Ar_bf_3.2.1) Ar_bf_3.2.2 hin_bf_3 hat_bf_3 (g := (mkF m 15 #[.val (.ref bf), .val (.int (1 : Int32))] [(.int (1 : Int32)), (.ref bf)])) rfl rfl (hb hby D1_15.1) _ k) ?_
  refine o_goto X0 hx hby D1_16 (q := 32) (by decide) (by decide) ?_
  exact own_ret (v := some (.double d1)) X0 (fun h => by first | rfl | (rw [Bd.returns] at h; cases h)) (BodyLoose.notSynchronized Bd) (by decide) (by decide) (⟨rfl, N0, e0⟩) (fun fs hr => retOut X0 hx Bd.returns rfl (Or.inr (Or.inr (Or.inl ⟨rfl, rfl, _, rfl⟩))) (hb hby D1_32.1) hr)
theorem ef_rmM4 (m : MethodId) (bf : Addr) : entryFrame m #[(.ref bf)] 2 = mkF m 0 #[.val (.ref bf), .unset] [] := by first | (simp [entryFrame, mkF, argsToLocals, Value.category]; done) | rfl
set_option maxRecDepth 65536 in
set_option maxHeartbeats 40000000 in
theorem rmM4 (l : Launch) (Z : State) (a0 : Array Value) (hw : ∀ d ∈ tables_1, d.before a0 Z = true) (ws : List Jvm.Cond) (bf : Addr) (kb : ClassId) (d0 d1 d2 d3 : UInt64) (h0 : Heap) (n0 : Nat) (Z0 : n0 ≤ h0.size) (V_bf : Arv Z h0 bf kb .double (4 : Int32) [(.double d0), (.double d1), (.double d2), (.double d3)] (.double 0)) (hn1 : Jvm.Free.Fl.NoNaN64 (FP.dadd d1 d2)) (hn2 : Jvm.Free.Fl.NoNaN64 (FP.ddiv (FP.dadd d1 d2) (4611686018427387904 : UInt64))) :
    MetFree l (⟨"tallymark/cli/BenchFigures", "median", "([D)D"⟩ : MethodName) (head1 (Jvm.Cond.code (⟨"tallymark/cli/BenchFigures", "median", "([D)D"⟩ : MethodName) prog_27_method_2_code 2 (some .double) :: ws) ({ frames := 0, cells := 0, slots := 0, locals := 0 } : Room)) (fun a U => a = #[(.ref bf)] ∧ Z.Warmed39 U.vm ∧ U.heap = h0) (fun _ _ _ _ _ => True) (fun _ U o U' => ∃ v L, o = .returned v ∧ own_QP (.double (FP.ddiv (FP.dadd d1 d2) (4611686018427387904 : UInt64))) h0 n0 v U'.heap L ∧ FrameEnd U o U' L ({ frames := 0, cells := 0, slots := 0, locals := 0 } : Room).cells ({ frames := 0, cells := 0, slots := 0, locals := 0 } : Room).slots) := by
  refine MetFree.of_bodySF (plainFor_of_name pn_tallymark_cli_BenchFigures) hisR ?_
  intro p e s m args below meth c s₁ Bd hml0 hP hK
  obtain ⟨rfl, hZ, hh⟩ := hP
  have hx := Bd.exec
  have hby := Bd.bytes
  have hml : c.maxLocals = 2 := hml0
  have hown : s.vm.findClass "tallymark/cli/BenchFigures" = some m.cls := findClass_of_methodNamed Bd.named
  have hnm := (name_of_methodNamed Bd.named Bd.method).1
  have X0 : Stand p l e ({ frames := 0, cells := 0, slots := 0, locals := 0 } : Room) s m #[(.ref bf)] below meth c s₁ [] 0 0 := Stand.of_body Bd
  have e0 : s₁.heap = h0 := by rw [← hh, Bd.state]; rfl
  have N0 := Fr.nil n0
  refine own_start (ef_rmM4 m bf) ?_
  refine o_aloadN X0 hx hby D1_0 rfl rfl ?_
  obtain ⟨cl_bf_1, Ar_bf_1, q_bf_1, S_bf_1, N_bf_1, H_bf_1, G_bf_1⟩ := id V_bf
  refine own_pre (A' := s₁.setTop (mkF m 2 #[.val (.ref bf), .unset] [(.int (4 : Int32))])) (fun t k => X0.arraylength hx (by rw [e0]; exact Ar_bf_1.1) (State.isArrayOf_alike hZ.alike Ar_bf_1.2.1) (g := (mkF m 1 #[.val (.ref bf), .unset] [(.ref bf)])) rfl rfl (hb hby D1_1.1) _ (by rw [len_of S_bf_1 N_bf_1]; exact k)) ?_
  refine o_iconst X0 hx hby D1_2 (v := 2) rfl ?_
  refine o_idiv X0 hx hby D1_3 (by decide) ?_
  refine o_istoreN X0 hx hby D1_4 (l' := #[.val (.ref bf), .val (.int ((4 : Int32) / (2 : Int32)))]) rfl ?_
  rw [(by decide : ((4 : Int32) / (2 : Int32)) = (2 : Int32))]
  refine o_aloadN X0 hx hby D1_5 rfl rfl ?_
  obtain ⟨cl_bf_2, Ar_bf_2, q_bf_2, S_bf_2, N_bf_2, H_bf_2, G_bf_2⟩ := id V_bf
  refine own_pre (A' := s₁.setTop (mkF m 7 #[.val (.ref bf), .val (.int (2 : Int32))] [(.int (4 : Int32))])) (fun t k => X0.arraylength hx (by rw [e0]; exact Ar_bf_2.1) (State.isArrayOf_alike hZ.alike Ar_bf_2.2.1) (g := (mkF m 6 #[.val (.ref bf), .val (.int (2 : Int32))] [(.ref bf)])) rfl rfl (hb hby D1_6.1) _ (by rw [len_of S_bf_2 N_bf_2]; exact k)) ?_
  refine o_iconst X0 hx hby D1_7 (v := 2) rfl ?_
  refine o_irem X0 hx hby D1_8 (by decide) ?_
  refine o_iconst X0 hx hby D1_9 (v := 1) rfl ?_
  refine o_icmpY X0 hx hby D1_10 (feq (by decide : ¬ (((4 : Int32) % (2 : Int32)) = (1 : Int32)))).2 (q := 19) (by decide) (by decide) ?_
  refine o_aloadN X0 hx hby D1_19 rfl rfl ?_
  refine o_iloadN X0 hx hby D1_20 rfl ?_
  refine o_iconst X0 hx hby D1_21 (v := 1) rfl ?_
  refine o_isub X0 hx hby D1_22 ?_
  obtain ⟨cl_bf_3, Ar_bf_3, q_bf_3, S_bf_3, N_bf_3, H_bf_3, G_bf_3⟩ := id V_bf
  have hin_bf_3 : ¬ (((2 : Int32) - (1 : Int32)) < 0 ∨ cl_bf_3.slots.size ≤ (((2 : Int32) - (1 : Int32))).toNatClampNeg) := inb_of S_bf_3 ⟨by decide, by decide⟩
  have hat_bf_3 : cl_bf_3.slots[(((2 : Int32) - (1 : Int32))).toNatClampNeg]? = some (.double d1) := H_bf_3.at hin_bf_3 (rfl)
  refine own_pre (A' := s₁.setTop (mkF m 24 #[.val (.ref bf), .val (.int (2 : Int32))] [(.double d1)])) (fun t k => X0.daload hx (j := ((2 : Int32) - (1 : Int32))) (v := (.double d1)) (by rw [e0]; exact Ar_bf_3.1) (State.isArrayOf_alike hZ.alike Ar_bf_3.2.1) Ar_bf_3.2.2 hin_bf_3 hat_bf_3 (g := (mkF m 23 #[.val (.ref bf), .val (.int (2 : Int32))] [(.int ((2 : Int32) - (1 : Int32))), (.ref bf)])) rfl rfl (hb hby D1_23.1) _ k) ?_
  refine o_aloadN X0 hx hby D1_24 rfl rfl ?_
  refine o_iloadN X0 hx hby D1_25 rfl ?_
  obtain ⟨cl_bf_4, Ar_bf_4, q_bf_4, S_bf_4, N_bf_4, H_bf_4, G_bf_4⟩ := id V_bf
  have hin_bf_4 : ¬ ((2 : Int32) < 0 ∨ cl_bf_4.slots.size ≤ ((2 : Int32)).toNatClampNeg) := inb_of S_bf_4 ⟨by decide, by decide⟩
  have hat_bf_4 : cl_bf_4.slots[((2 : Int32)).toNatClampNeg]? = some (.double d2) := H_bf_4.at hin_bf_4 (rfl)
  refine own_pre (A' := s₁.setTop (mkF m 27 #[.val (.ref bf), .val (.int (2 : Int32))] [(.double d2), (.double d1)])) (fun t k => X0.daload hx (j := (2 : Int32)) (v := (.double d2)) (by rw [e0]; exact Ar_bf_4.1) (State.isArrayOf_alike hZ.alike Ar_bf_4.2.1) Ar_bf_4.2.2 hin_bf_4 hat_bf_4 (g := (mkF m 26 #[.val (.ref bf), .val (.int (2 : Int32))] [(.int (2 : Int32)), (.ref bf), (.double d1)])) rfl rfl (hb hby D1_26.1) _ k) ?_
  refine own_pre (A' := s₁.setTop (mkF m 28 #[.val (.ref bf), .val (.int (2 : Int32))] [(.double (FP.dadd d1 d2))])) (fun t k => own_dadd X0.here hx rfl (hb hby D1_27.1) rfl hn1 k) ?_
  refine own_pre (A' := s₁.setTop (mkF m 31 #[.val (.ref bf), .val (.int (2 : Int32))] [(.double (4611686018427387904 : UInt64)), (.double (FP.dadd d1 d2))])) (fun t k => X0.ldc2DoubleC hx hown (mvT hZ (own_wd hw (i := 7) rfl)) (g := (mkF m 28 #[.val (.ref bf), .val (.int (2 : Int32))] [(.double (FP.dadd d1 d2))])) rfl (hb hby D1_28.1) _ k) ?_
  refine own_pre (A' := s₁.setTop (mkF m 32 #[.val (.ref bf), .val (.int (2 : Int32))] [(.double (FP.ddiv (FP.dadd d1 d2) (4611686018427387904 : UInt64)))])) (fun t k => own_ddiv X0.here hx rfl (hb hby D1_31.1) rfl hn2 k) ?_
  exact own_ret (v := some (.double (FP.ddiv (FP.dadd d1 d2) (4611686018427387904 : UInt64)))) X0 (fun h => by first | rfl | (rw [Bd.returns] at h; cases h)) (BodyLoose.notSynchronized Bd) (by decide) (by decide) (⟨rfl, N0, e0⟩) (fun fs hr => retOut X0 hx Bd.returns rfl (Or.inr (Or.inr (Or.inl ⟨rfl, rfl, _, rfl⟩))) (hb hby D1_32.1) hr)
theorem ef_rmM5 (m : MethodId) (bf : Addr) : entryFrame m #[(.ref bf)] 2 = mkF m 0 #[.val (.ref bf), .unset] [] := by first | (simp [entryFrame, mkF, argsToLocals, Value.category]; done) | rfl
set_option maxRecDepth 65536 in
set_option maxHeartbeats 40000000 in
theorem rmM5 (l : Launch) (Z : State) (a0 : Array Value) (hw : ∀ d ∈ tables_1, d.before a0 Z = true) (ws : List Jvm.Cond) (bf : Addr) (kb : ClassId) (d0 d1 d2 d3 d4 : UInt64) (h0 : Heap) (n0 : Nat) (Z0 : n0 ≤ h0.size) (V_bf : Arv Z h0 bf kb .double (5 : Int32) [(.double d0), (.double d1), (.double d2), (.double d3), (.double d4)] (.double 0)) :
    MetFree l (⟨"tallymark/cli/BenchFigures", "median", "([D)D"⟩ : MethodName) (head1 (Jvm.Cond.code (⟨"tallymark/cli/BenchFigures", "median", "([D)D"⟩ : MethodName) prog_27_method_2_code 2 (some .double) :: ws) ({ frames := 0, cells := 0, slots := 0, locals := 0 } : Room)) (fun a U => a = #[(.ref bf)] ∧ Z.Warmed39 U.vm ∧ U.heap = h0) (fun _ _ _ _ _ => True) (fun _ U o U' => ∃ v L, o = .returned v ∧ own_QP (.double d2) h0 n0 v U'.heap L ∧ FrameEnd U o U' L ({ frames := 0, cells := 0, slots := 0, locals := 0 } : Room).cells ({ frames := 0, cells := 0, slots := 0, locals := 0 } : Room).slots) := by
  refine MetFree.of_bodySF (plainFor_of_name pn_tallymark_cli_BenchFigures) hisR ?_
  intro p e s m args below meth c s₁ Bd hml0 hP hK
  obtain ⟨rfl, hZ, hh⟩ := hP
  have hx := Bd.exec
  have hby := Bd.bytes
  have hml : c.maxLocals = 2 := hml0
  have hown : s.vm.findClass "tallymark/cli/BenchFigures" = some m.cls := findClass_of_methodNamed Bd.named
  have hnm := (name_of_methodNamed Bd.named Bd.method).1
  have X0 : Stand p l e ({ frames := 0, cells := 0, slots := 0, locals := 0 } : Room) s m #[(.ref bf)] below meth c s₁ [] 0 0 := Stand.of_body Bd
  have e0 : s₁.heap = h0 := by rw [← hh, Bd.state]; rfl
  have N0 := Fr.nil n0
  refine own_start (ef_rmM5 m bf) ?_
  refine o_aloadN X0 hx hby D1_0 rfl rfl ?_
  obtain ⟨cl_bf_1, Ar_bf_1, q_bf_1, S_bf_1, N_bf_1, H_bf_1, G_bf_1⟩ := id V_bf
  refine own_pre (A' := s₁.setTop (mkF m 2 #[.val (.ref bf), .unset] [(.int (5 : Int32))])) (fun t k => X0.arraylength hx (by rw [e0]; exact Ar_bf_1.1) (State.isArrayOf_alike hZ.alike Ar_bf_1.2.1) (g := (mkF m 1 #[.val (.ref bf), .unset] [(.ref bf)])) rfl rfl (hb hby D1_1.1) _ (by rw [len_of S_bf_1 N_bf_1]; exact k)) ?_
  refine o_iconst X0 hx hby D1_2 (v := 2) rfl ?_
  refine o_idiv X0 hx hby D1_3 (by decide) ?_
  refine o_istoreN X0 hx hby D1_4 (l' := #[.val (.ref bf), .val (.int ((5 : Int32) / (2 : Int32)))]) rfl ?_
  rw [(by decide : ((5 : Int32) / (2 : Int32)) = (2 : Int32))]
  refine o_aloadN X0 hx hby D1_5 rfl rfl ?_
  obtain ⟨cl_bf_2, Ar_bf_2, q_bf_2, S_bf_2, N_bf_2, H_bf_2, G_bf_2⟩ := id V_bf
  refine own_pre (A' := s₁.setTop (mkF m 7 #[.val (.ref bf), .val (.int (2 : Int32))] [(.int (5 : Int32))])) (fun t k => X0.arraylength hx (by rw [e0]; exact Ar_bf_2.1) (State.isArrayOf_alike hZ.alike Ar_bf_2.2.1) (g := (mkF m 6 #[.val (.ref bf), .val (.int (2 : Int32))] [(.ref bf)])) rfl rfl (hb hby D1_6.1) _ (by rw [len_of S_bf_2 N_bf_2]; exact k)) ?_
  refine o_iconst X0 hx hby D1_7 (v := 2) rfl ?_
  refine o_irem X0 hx hby D1_8 (by decide) ?_
  refine o_iconst X0 hx hby D1_9 (v := 1) rfl ?_
  refine o_icmpN X0 hx hby D1_10 (teq (by decide : ((5 : Int32) % (2 : Int32)) = (1 : Int32))).2 ?_
  refine o_aloadN X0 hx hby D1_13 rfl rfl ?_
  refine o_iloadN X0 hx hby D1_14 rfl ?_
  obtain ⟨cl_bf_3, Ar_bf_3, q_bf_3, S_bf_3, N_bf_3, H_bf_3, G_bf_3⟩ := id V_bf
  have hin_bf_3 : ¬ ((2 : Int32) < 0 ∨ cl_bf_3.slots.size ≤ ((2 : Int32)).toNatClampNeg) := inb_of S_bf_3 ⟨by decide, by decide⟩
  have hat_bf_3 : cl_bf_3.slots[((2 : Int32)).toNatClampNeg]? = some (.double d2) := H_bf_3.at hin_bf_3 (rfl)
  refine own_pre (A' := s₁.setTop (mkF m 16 #[.val (.ref bf), .val (.int (2 : Int32))] [(.double d2)])) (fun t k => X0.daload hx (j := (2 : Int32)) (v := (.double d2)) (by rw [e0]; exact Ar_bf_3.1) (State.isArrayOf_alike hZ.alike Ar_bf_3.2.1) Ar_bf_3.2.2 hin_bf_3 hat_bf_3 (g := (mkF m 15 #[.val (.ref bf), .val (.int (2 : Int32))] [(.int (2 : Int32)), (.ref bf)])) rfl rfl (hb hby D1_15.1) _ k) ?_
  refine o_goto X0 hx hby D1_16 (q := 32) (by decide) (by decide) ?_
  exact own_ret (v := some (.double d2)) X0 (fun h => by first | rfl | (rw [Bd.returns] at h; cases h)) (BodyLoose.notSynchronized Bd) (by decide) (by decide) (⟨rfl, N0, e0⟩) (fun fs hr => retOut X0 hx Bd.returns rfl (Or.inr (Or.inr (Or.inl ⟨rfl, rfl, _, rfl⟩))) (hb hby D1_32.1) hr)
theorem pd__40_91D_41D : parseMethodDescriptor "([D)D" = some ⟨[(.array .double)], some .double⟩ := by decide +kernel
theorem D0_0 : own_at code 0 (.iload_n 0) 1 1 := ⟨at_0, rfl⟩
theorem D0_1 : own_at code 1 (.bipush 7) 2 3 := ⟨at_1, rfl⟩
theorem D0_3 : own_at code 3 (.iand) 1 4 := ⟨at_3, rfl⟩
theorem D0_4 : own_at code 4 (.iconst 5) 1 5 := ⟨at_4, rfl⟩
theorem D0_5 : own_at code 5 (.irem) 1 6 := ⟨at_5, rfl⟩
theorem D0_6 : own_at code 6 (.iconst 1) 1 7 := ⟨at_6, rfl⟩
theorem D0_7 : own_at code 7 (.iadd) 1 8 := ⟨at_7, rfl⟩
theorem D0_8 : own_at code 8 (.istore 6) 2 10 := ⟨at_8, rfl⟩
theorem D0_10 : own_at code 10 (.iload_n 1) 1 11 := ⟨at_10, rfl⟩
theorem D0_11 : own_at code 11 (.ldc 7) 2 13 := ⟨at_11, rfl⟩
theorem D0_13 : own_at code 13 (.irem) 1 14 := ⟨at_13, rfl⟩
theorem D0_14 : own_at code 14 (.istore 7) 2 16 := ⟨at_14, rfl⟩
theorem D0_16 : own_at code 16 (.iload 7) 2 18 := ⟨at_16, rfl⟩
theorem D0_18 : own_at code 18 (.iload_n 2) 1 19 := ⟨at_18, rfl⟩
theorem D0_19 : own_at code 19 (.ldc 8) 2 21 := ⟨at_19, rfl⟩
theorem D0_21 : own_at code 21 (.iand) 1 22 := ⟨at_21, rfl⟩
theorem D0_22 : own_at code 22 (.iadd) 1 23 := ⟨at_22, rfl⟩
theorem D0_23 : own_at code 23 (.istore 8) 2 25 := ⟨at_23, rfl⟩
theorem D0_25 : own_at code 25 (.iload 8) 2 27 := ⟨at_25, rfl⟩
theorem D0_27 : own_at code 27 (.iload_n 3) 1 28 := ⟨at_27, rfl⟩
theorem D0_28 : own_at code 28 (.ldc 8) 2 30 := ⟨at_28, rfl⟩
theorem D0_30 : own_at code 30 (.iand) 1 31 := ⟨at_30, rfl⟩
theorem D0_31 : own_at code 31 (.iadd) 1 32 := ⟨at_31, rfl⟩
theorem D0_32 : own_at code 32 (.istore 9) 2 34 := ⟨at_32, rfl⟩
theorem D0_34 : own_at code 34 (.iload 9) 2 36 := ⟨at_34, rfl⟩
theorem D0_36 : own_at code 36 (.iload 4) 2 38 := ⟨at_36, rfl⟩
theorem D0_38 : own_at code 38 (.ldc 8) 2 40 := ⟨at_38, rfl⟩
theorem D0_40 : own_at code 40 (.iand) 1 41 := ⟨at_40, rfl⟩
theorem D0_41 : own_at code 41 (.iadd) 1 42 := ⟨at_41, rfl⟩
theorem D0_42 : own_at code 42 (.istore 10) 2 44 := ⟨at_42, rfl⟩
theorem D0_44 : own_at code 44 (.iload 10) 2 46 := ⟨at_44, rfl⟩
theorem D0_46 : own_at code 46 (.iload 5) 2 48 := ⟨at_46, rfl⟩
theorem D0_48 : own_at code 48 (.ldc 8) 2 50 := ⟨at_48, rfl⟩
theorem D0_50 : own_at code 50 (.iand) 1 51 := ⟨at_50, rfl⟩
theorem D0_51 : own_at code 51 (.iadd) 1 52 := ⟨at_51, rfl⟩
theorem D0_52 : own_at code 52 (.istore 11) 2 54 := ⟨at_52, rfl⟩
theorem D0_54 : own_at code 54 (.iload 6) 2 56 := ⟨at_54, rfl⟩
theorem D0_56 : own_at code 56 (.newarray .double) 2 58 := ⟨at_56, rfl⟩
theorem D0_58 : own_at code 58 (.astore 12) 2 60 := ⟨at_58, rfl⟩
theorem D0_60 : own_at code 60 (.aload 12) 2 62 := ⟨at_60, rfl⟩
theorem D0_62 : own_at code 62 (.iconst 0) 1 63 := ⟨at_62, rfl⟩
theorem D0_63 : own_at code 63 (.iload 7) 2 65 := ⟨at_63, rfl⟩
theorem D0_65 : own_at code 65 (.i2d) 1 66 := ⟨at_65, rfl⟩
theorem D0_66 : own_at code 66 (.dastore) 1 67 := ⟨at_66, rfl⟩
theorem D0_67 : own_at code 67 (.iload 6) 2 69 := ⟨at_67, rfl⟩
theorem D0_69 : own_at code 69 (.iconst 1) 1 70 := ⟨at_69, rfl⟩
theorem D0_70 : own_at code 70 (.if_icmp .le 10) 3 73 := ⟨at_70, rfl⟩
theorem D0_73 : own_at code 73 (.aload 12) 2 75 := ⟨at_73, rfl⟩
theorem D0_75 : own_at code 75 (.iconst 1) 1 76 := ⟨at_75, rfl⟩
theorem D0_76 : own_at code 76 (.iload 8) 2 78 := ⟨at_76, rfl⟩
theorem D0_78 : own_at code 78 (.i2d) 1 79 := ⟨at_78, rfl⟩
theorem D0_79 : own_at code 79 (.dastore) 1 80 := ⟨at_79, rfl⟩
theorem D0_80 : own_at code 80 (.iload 6) 2 82 := ⟨at_80, rfl⟩
theorem D0_82 : own_at code 82 (.iconst 2) 1 83 := ⟨at_82, rfl⟩
theorem D0_83 : own_at code 83 (.if_icmp .le 10) 3 86 := ⟨at_83, rfl⟩
theorem D0_86 : own_at code 86 (.aload 12) 2 88 := ⟨at_86, rfl⟩
theorem D0_88 : own_at code 88 (.iconst 2) 1 89 := ⟨at_88, rfl⟩
theorem D0_89 : own_at code 89 (.iload 9) 2 91 := ⟨at_89, rfl⟩
theorem D0_91 : own_at code 91 (.i2d) 1 92 := ⟨at_91, rfl⟩
theorem D0_92 : own_at code 92 (.dastore) 1 93 := ⟨at_92, rfl⟩
theorem D0_93 : own_at code 93 (.iload 6) 2 95 := ⟨at_93, rfl⟩
theorem D0_95 : own_at code 95 (.iconst 3) 1 96 := ⟨at_95, rfl⟩
theorem D0_96 : own_at code 96 (.if_icmp .le 10) 3 99 := ⟨at_96, rfl⟩
theorem D0_99 : own_at code 99 (.aload 12) 2 101 := ⟨at_99, rfl⟩
theorem D0_101 : own_at code 101 (.iconst 3) 1 102 := ⟨at_101, rfl⟩
theorem D0_102 : own_at code 102 (.iload 10) 2 104 := ⟨at_102, rfl⟩
theorem D0_104 : own_at code 104 (.i2d) 1 105 := ⟨at_104, rfl⟩
theorem D0_105 : own_at code 105 (.dastore) 1 106 := ⟨at_105, rfl⟩
theorem D0_106 : own_at code 106 (.iload 6) 2 108 := ⟨at_106, rfl⟩
theorem D0_108 : own_at code 108 (.iconst 4) 1 109 := ⟨at_108, rfl⟩
theorem D0_109 : own_at code 109 (.if_icmp .le 10) 3 112 := ⟨at_109, rfl⟩
theorem D0_112 : own_at code 112 (.aload 12) 2 114 := ⟨at_112, rfl⟩
theorem D0_114 : own_at code 114 (.iconst 4) 1 115 := ⟨at_114, rfl⟩
theorem D0_115 : own_at code 115 (.iload 11) 2 117 := ⟨at_115, rfl⟩
theorem D0_117 : own_at code 117 (.i2d) 1 118 := ⟨at_117, rfl⟩
theorem D0_118 : own_at code 118 (.dastore) 1 119 := ⟨at_118, rfl⟩
theorem D0_119 : own_at code 119 (.aload 12) 2 121 := ⟨at_119, rfl⟩
theorem D0_121 : own_at code 121 (.invokestatic 9) 3 124 := ⟨at_121, rfl⟩
theorem D0_124 : own_at code 124 (.dstore 13) 2 126 := ⟨at_124, rfl⟩
theorem D0_126 : own_at code 126 (.iload 6) 2 128 := ⟨at_126, rfl⟩
theorem D0_128 : own_at code 128 (.iconst 1) 1 129 := ⟨at_128, rfl⟩
theorem D0_129 : own_at code 129 (.if_icmp .ne 18) 3 132 := ⟨at_129, rfl⟩
theorem D0_132 : own_at code 132 (.dload 13) 2 134 := ⟨at_132, rfl⟩
theorem D0_134 : own_at code 134 (.iload 7) 2 136 := ⟨at_134, rfl⟩
theorem D0_136 : own_at code 136 (.i2d) 1 137 := ⟨at_136, rfl⟩
theorem D0_137 : own_at code 137 (.dcmp .l) 1 138 := ⟨at_137, rfl⟩
theorem D0_138 : own_at code 138 (.ifCond .ne 7) 3 141 := ⟨at_138, rfl⟩
theorem D0_141 : own_at code 141 (.iconst 1) 1 142 := ⟨at_141, rfl⟩
theorem D0_142 : own_at code 142 (.goto 4) 3 145 := ⟨at_142, rfl⟩
theorem D0_146 : own_at code 146 (.ireturn) 1 147 := ⟨at_146, rfl⟩
theorem D0_147 : own_at code 147 (.iload 6) 2 149 := ⟨at_147, rfl⟩
theorem D0_149 : own_at code 149 (.iconst 2) 1 150 := ⟨at_149, rfl⟩
theorem D0_150 : own_at code 150 (.if_icmp .ne 25) 3 153 := ⟨at_150, rfl⟩
theorem D0_153 : own_at code 153 (.ldc2_w 15) 3 156 := ⟨at_153, rfl⟩
theorem D0_156 : own_at code 156 (.dload 13) 2 158 := ⟨at_156, rfl⟩
theorem D0_158 : own_at code 158 (.dmul) 1 159 := ⟨at_158, rfl⟩
theorem D0_159 : own_at code 159 (.iload 7) 2 161 := ⟨at_159, rfl⟩
theorem D0_161 : own_at code 161 (.iload 8) 2 163 := ⟨at_161, rfl⟩
theorem D0_163 : own_at code 163 (.iadd) 1 164 := ⟨at_163, rfl⟩
theorem D0_164 : own_at code 164 (.i2d) 1 165 := ⟨at_164, rfl⟩
theorem D0_165 : own_at code 165 (.dcmp .l) 1 166 := ⟨at_165, rfl⟩
theorem D0_166 : own_at code 166 (.ifCond .ne 7) 3 169 := ⟨at_166, rfl⟩
theorem D0_169 : own_at code 169 (.iconst 1) 1 170 := ⟨at_169, rfl⟩
theorem D0_170 : own_at code 170 (.goto 4) 3 173 := ⟨at_170, rfl⟩
theorem D0_174 : own_at code 174 (.ireturn) 1 175 := ⟨at_174, rfl⟩
theorem D0_175 : own_at code 175 (.iload 6) 2 177 := ⟨at_175, rfl⟩
theorem D0_177 : own_at code 177 (.iconst 3) 1 178 := ⟨at_177, rfl⟩
theorem D0_178 : own_at code 178 (.if_icmp .ne 18) 3 181 := ⟨at_178, rfl⟩
theorem D0_181 : own_at code 181 (.dload 13) 2 183 := ⟨at_181, rfl⟩
theorem D0_183 : own_at code 183 (.iload 8) 2 185 := ⟨at_183, rfl⟩
theorem D0_185 : own_at code 185 (.i2d) 1 186 := ⟨at_185, rfl⟩
theorem D0_186 : own_at code 186 (.dcmp .l) 1 187 := ⟨at_186, rfl⟩
theorem D0_187 : own_at code 187 (.ifCond .ne 7) 3 190 := ⟨at_187, rfl⟩
theorem D0_190 : own_at code 190 (.iconst 1) 1 191 := ⟨at_190, rfl⟩
theorem D0_191 : own_at code 191 (.goto 4) 3 194 := ⟨at_191, rfl⟩
theorem D0_195 : own_at code 195 (.ireturn) 1 196 := ⟨at_195, rfl⟩
theorem D0_196 : own_at code 196 (.iload 6) 2 198 := ⟨at_196, rfl⟩
theorem D0_198 : own_at code 198 (.iconst 4) 1 199 := ⟨at_198, rfl⟩
theorem D0_199 : own_at code 199 (.if_icmp .ne 25) 3 202 := ⟨at_199, rfl⟩
theorem D0_202 : own_at code 202 (.ldc2_w 15) 3 205 := ⟨at_202, rfl⟩
theorem D0_205 : own_at code 205 (.dload 13) 2 207 := ⟨at_205, rfl⟩
theorem D0_207 : own_at code 207 (.dmul) 1 208 := ⟨at_207, rfl⟩
theorem D0_208 : own_at code 208 (.iload 8) 2 210 := ⟨at_208, rfl⟩
theorem D0_210 : own_at code 210 (.iload 9) 2 212 := ⟨at_210, rfl⟩
theorem D0_212 : own_at code 212 (.iadd) 1 213 := ⟨at_212, rfl⟩
theorem D0_213 : own_at code 213 (.i2d) 1 214 := ⟨at_213, rfl⟩
theorem D0_214 : own_at code 214 (.dcmp .l) 1 215 := ⟨at_214, rfl⟩
theorem D0_215 : own_at code 215 (.ifCond .ne 7) 3 218 := ⟨at_215, rfl⟩
theorem D0_218 : own_at code 218 (.iconst 1) 1 219 := ⟨at_218, rfl⟩
theorem D0_219 : own_at code 219 (.goto 4) 3 222 := ⟨at_219, rfl⟩
theorem D0_223 : own_at code 223 (.ireturn) 1 224 := ⟨at_223, rfl⟩
theorem D0_224 : own_at code 224 (.dload 13) 2 226 := ⟨at_224, rfl⟩
theorem D0_226 : own_at code 226 (.iload 9) 2 228 := ⟨at_226, rfl⟩
theorem D0_228 : own_at code 228 (.i2d) 1 229 := ⟨at_228, rfl⟩
theorem D0_229 : own_at code 229 (.dcmp .l) 1 230 := ⟨at_229, rfl⟩
theorem D0_230 : own_at code 230 (.ifCond .ne 7) 3 233 := ⟨at_230, rfl⟩
theorem D0_233 : own_at code 233 (.iconst 1) 1 234 := ⟨at_233, rfl⟩
theorem D0_234 : own_at code 234 (.goto 4) 3 237 := ⟨at_234, rfl⟩
theorem D0_238 : own_at code 238 (.ireturn) 1 239 := ⟨at_238, rfl⟩
theorem pn_tallymark_cli_BenchFiguresMedianPinLaw : plainName "tallymark/cli/BenchFiguresMedianPinLaw" = true := by first | (simp [plainName, overriddenIn]; done) | decide +kernel
theorem ef_rm0 (m : MethodId) (p0 : Int32) (p1 : Int32) (p2 : Int32) (p3 : Int32) (p4 : Int32) (p5 : Int32) : entryFrame m #[(.int p0), (.int p1), (.int p2), (.int p3), (.int p4), (.int p5)] maxLocals = mkF m 0 #[.val (.int p0), .val (.int p1), .val (.int p2), .val (.int p3), .val (.int p4), .val (.int p5), .unset, .unset, .unset, .unset, .unset, .unset, .unset, .unset, .unset] [] := by first | (simp [entryFrame, mkF, argsToLocals, Value.category, maxLocals]; done) | rfl
set_option maxRecDepth 65536 in
set_option maxHeartbeats 40000000 in
theorem rm0 (l : Launch) (Z : State) (a0 : Array Value) (hw : ∀ d ∈ tables_1, d.before a0 Z = true) (ws : List Jvm.Cond) (p0 : Int32) (p1 : Int32) (p2 : Int32) (p3 : Int32) (p4 : Int32) (p5 : Int32)  (h0 : Heap) (n0 : Nat) (Z0 : n0 ≤ h0.size)  :
    MetFree l x (head1 (Jvm.Cond.code x code maxLocals ret :: ws) room_1) (fun a U => a = #[(.int p0), (.int p1), (.int p2), (.int p3), (.int p4), (.int p5)] ∧ Z.Warmed39 U.vm ∧ U.heap = h0) (fun _ _ _ _ _ => True) (fun _ U o U' => ∃ v L, o = .returned v ∧ own_Q0 n0 v U'.heap L ∧ FrameEnd U o U' L room_1.cells room_1.slots) := by
  refine MetFree.of_bodySF (plainFor_of_name pn_tallymark_cli_BenchFiguresMedianPinLaw) hisR ?_
  intro p e s m args below meth c s₁ Bd hml0 hP hK
  obtain ⟨rfl, hZ, hh⟩ := hP
  have hx := Bd.exec
  have hby := Bd.bytes
  have hml : c.maxLocals = 15 := hml0
  have hown : s.vm.findClass "tallymark/cli/BenchFiguresMedianPinLaw" = some m.cls := findClass_of_methodNamed Bd.named
  have hnm := (name_of_methodNamed Bd.named Bd.method).1
  have X0 : Stand p l e room_1 s m #[(.int p0), (.int p1), (.int p2), (.int p3), (.int p4), (.int p5)] below meth c s₁ [] 0 0 := Stand.of_body Bd
  have e0 : s₁.heap = h0 := by rw [← hh, Bd.state]; rfl
  have N0 := Fr.nil n0
  refine own_start (ef_rm0 m p0 p1 p2 p3 p4 p5) ?_
  refine o_iloadN X0 hx hby D0_0 rfl ?_
  refine o_bipush X0 hx hby D0_1 (v := 7) rfl ?_
  refine o_iand X0 hx hby D0_3 ?_
  refine o_iconst X0 hx hby D0_4 (v := 5) rfl ?_
  refine o_irem X0 hx hby D0_5 (by decide) ?_
  refine o_iconst X0 hx hby D0_6 (v := 1) rfl ?_
  refine o_iadd X0 hx hby D0_7 ?_
  refine o_istore X0 hx hby D0_8 (l' := #[.val (.int p0), .val (.int p1), .val (.int p2), .val (.int p3), .val (.int p4), .val (.int p5), .val (.int (((p0 &&& (7 : Int32)) % (5 : Int32)) + (1 : Int32))), .unset, .unset, .unset, .unset, .unset, .unset, .unset, .unset]) rfl ?_
  generalize hnn : (((p0 &&& (7 : Int32)) % (5 : Int32)) + (1 : Int32)) = nn
  have hn5 := own_n5 hnn
  refine o_iloadN X0 hx hby D0_10 rfl ?_
  refine o_ldc X0 hx hby hown (mvT hZ (own_wd hw (i := 0) rfl)) D0_11 ?_
  refine o_irem X0 hx hby D0_13 (by decide) ?_
  refine o_istore X0 hx hby D0_14 (l' := #[.val (.int p0), .val (.int p1), .val (.int p2), .val (.int p3), .val (.int p4), .val (.int p5), .val (.int nn), .val (.int (p1 % (100000 : Int32))), .unset, .unset, .unset, .unset, .unset, .unset, .unset]) rfl ?_
  generalize hi0 : (p1 % (100000 : Int32)) = i0
  have ci0 := own_b0 hi0
  have bi0 : -1000000 < i0.toInt ∧ i0.toInt < 1000000 := by omega
  refine o_iload X0 hx hby D0_16 rfl ?_
  refine o_iloadN X0 hx hby D0_18 rfl ?_
  refine o_ldc X0 hx hby hown (mvT hZ (own_wd hw (i := 1) rfl)) D0_19 ?_
  refine o_iand X0 hx hby D0_21 ?_
  refine o_iadd X0 hx hby D0_22 ?_
  refine o_istore X0 hx hby D0_23 (l' := #[.val (.int p0), .val (.int p1), .val (.int p2), .val (.int p3), .val (.int p4), .val (.int p5), .val (.int nn), .val (.int i0), .val (.int (i0 + (p2 &&& (65535 : Int32)))), .unset, .unset, .unset, .unset, .unset, .unset]) rfl ?_
  generalize hi1 : (i0 + (p2 &&& (65535 : Int32))) = i1
  have ci1 := own_bs hi1 ci0 (by decide) (by decide)
  have bi1 : -1000000 < i1.toInt ∧ i1.toInt < 1000000 := by omega
  refine o_iload X0 hx hby D0_25 rfl ?_
  refine o_iloadN X0 hx hby D0_27 rfl ?_
  refine o_ldc X0 hx hby hown (mvT hZ (own_wd hw (i := 1) rfl)) D0_28 ?_
  refine o_iand X0 hx hby D0_30 ?_
  refine o_iadd X0 hx hby D0_31 ?_
  refine o_istore X0 hx hby D0_32 (l' := #[.val (.int p0), .val (.int p1), .val (.int p2), .val (.int p3), .val (.int p4), .val (.int p5), .val (.int nn), .val (.int i0), .val (.int i1), .val (.int (i1 + (p3 &&& (65535 : Int32)))), .unset, .unset, .unset, .unset, .unset]) rfl ?_
  generalize hi2 : (i1 + (p3 &&& (65535 : Int32))) = i2
  have ci2 := own_bs hi2 ci1 (by decide) (by decide)
  have bi2 : -1000000 < i2.toInt ∧ i2.toInt < 1000000 := by omega
  refine o_iload X0 hx hby D0_34 rfl ?_
  refine o_iload X0 hx hby D0_36 rfl ?_
  refine o_ldc X0 hx hby hown (mvT hZ (own_wd hw (i := 1) rfl)) D0_38 ?_
  refine o_iand X0 hx hby D0_40 ?_
  refine o_iadd X0 hx hby D0_41 ?_
  refine o_istore X0 hx hby D0_42 (l' := #[.val (.int p0), .val (.int p1), .val (.int p2), .val (.int p3), .val (.int p4), .val (.int p5), .val (.int nn), .val (.int i0), .val (.int i1), .val (.int i2), .val (.int (i2 + (p4 &&& (65535 : Int32)))), .unset, .unset, .unset, .unset]) rfl ?_
  generalize hi3 : (i2 + (p4 &&& (65535 : Int32))) = i3
  refine o_iload X0 hx hby D0_44 rfl ?_
  refine o_iload X0 hx hby D0_46 rfl ?_
  refine o_ldc X0 hx hby hown (mvT hZ (own_wd hw (i := 1) rfl)) D0_48 ?_
  refine o_iand X0 hx hby D0_50 ?_
  refine o_iadd X0 hx hby D0_51 ?_
  refine o_istore X0 hx hby D0_52 (l' := #[.val (.int p0), .val (.int p1), .val (.int p2), .val (.int p3), .val (.int p4), .val (.int p5), .val (.int nn), .val (.int i0), .val (.int i1), .val (.int i2), .val (.int i3), .val (.int (i3 + (p5 &&& (65535 : Int32)))), .unset, .unset, .unset]) rfl ?_
  generalize hi4 : (i3 + (p5 &&& (65535 : Int32))) = i4
  rcases hn5 with rfl | rfl | rfl | rfl | rfl
  · skip
    refine o_iload X0 hx hby D0_54 rfl ?_
    obtain ⟨T1, h1, k1, X1, e1, E1, A1, Ex1, st1⟩ := newPE X0 hx hZ (own_wd hw (i := 2) rfl) e0 (g := (mkF m 56 #[.val (.int p0), .val (.int p1), .val (.int p2), .val (.int p3), .val (.int p4), .val (.int p5), .val (.int (1 : Int32)), .val (.int i0), .val (.int i1), .val (.int i2), .val (.int i3), .val (.int i4), .unset, .unset, .unset] [(.int (1 : Int32))])) rfl (hb hby D0_56.1) rfl (by decide) (cap := 1) (by decide) (by decide) (by decide) (by decide) (ad := "[D") (by first | rfl | decide)
    obtain ⟨b1, g1⟩ : ∃ z : Nat, z = h0.size := ⟨_, rfl⟩
    rw [← g1] at A1 Ex1 st1
    have sz1 := own_leN E1.1
    have gn_b1 : n0 ≤ b1 := by omega
    have V_b1 : Arv Z h1 b1 k1 .double (1 : Int32) [(.double 0)] (.double 0) := (Arv.new A1 (by decide)).pad (pad_rep [] (.double 0) 1)
    have lt_b1 := own_ltN V_b1.lt
    refine own_pre (A' := T1.setTop (mkF m 58 #[.val (.int p0), .val (.int p1), .val (.int p2), .val (.int p3), .val (.int p4), .val (.int p5), .val (.int (1 : Int32)), .val (.int i0), .val (.int i1), .val (.int i2), .val (.int i3), .val (.int i4), .unset, .unset, .unset] [(.ref b1)])) st1 ?_
    refine o_astore X1 hx hby D0_58 rfl (l' := #[.val (.int p0), .val (.int p1), .val (.int p2), .val (.int p3), .val (.int p4), .val (.int p5), .val (.int (1 : Int32)), .val (.int i0), .val (.int i1), .val (.int i2), .val (.int i3), .val (.int i4), .val (.ref b1), .unset, .unset]) rfl ?_
    refine o_aload X1 hx hby D0_60 rfl rfl ?_
    refine o_iconst X1 hx hby D0_62 (v := 0) rfl ?_
    refine o_iload X1 hx hby D0_63 rfl ?_
    refine own_pre (A' := T1.setTop (mkF m 66 #[.val (.int p0), .val (.int p1), .val (.int p2), .val (.int p3), .val (.int p4), .val (.int p5), .val (.int (1 : Int32)), .val (.int i0), .val (.int i1), .val (.int i2), .val (.int i3), .val (.int i4), .val (.ref b1), .unset, .unset] [(.double (FP.i2d i0)), (.int (0 : Int32)), (.ref b1)])) (fun t k => own_i2d X1.here hx rfl (hb hby D0_65.1) rfl k) ?_
    obtain ⟨cl_b1_2, Ar_b1_2, q_b1_2, S_b1_2, N_b1_2, H_b1_2, G_b1_2⟩ := id V_b1
    have hin_b1_2 : ¬ ((0 : Int32) < 0 ∨ cl_b1_2.slots.size ≤ ((0 : Int32)).toNatClampNeg) := inb_of S_b1_2 ⟨by decide, by decide⟩
    obtain ⟨T2, h2, X2, e2, W2, st2⟩ := own_stD X1 hx hZ e1 Ar_b1_2 (j := (0 : Int32)) hin_b1_2 (g := (mkF m 66 #[.val (.int p0), .val (.int p1), .val (.int p2), .val (.int p3), .val (.int p4), .val (.int p5), .val (.int (1 : Int32)), .val (.int i0), .val (.int i1), .val (.int i2), .val (.int i3), .val (.int i4), .val (.ref b1), .unset, .unset] [(.double (FP.i2d i0)), (.int (0 : Int32)), (.ref b1)])) rfl rfl (hb hby D0_66.1)
    have V_b1_2 : Arv Z h2 b1 k1 .double (1 : Int32) [(.double (FP.i2d i0))] (.double 0) := Arv.set Ar_b1_2 q_b1_2 S_b1_2 N_b1_2 H_b1_2 G_b1_2 rfl W2 0 rfl (Nat.le_of_ble_eq_true rfl)
    have sz2 := own_leN (Keep.of_wr W2).1
    have N2 := Fr.snoc X2 N0 gn_b1
    refine own_pre (A' := T2.setTop (mkF m 67 #[.val (.int p0), .val (.int p1), .val (.int p2), .val (.int p3), .val (.int p4), .val (.int p5), .val (.int (1 : Int32)), .val (.int i0), .val (.int i1), .val (.int i2), .val (.int i3), .val (.int i4), .val (.ref b1), .unset, .unset] [])) st2 ?_
    refine o_iload X2 hx hby D0_67 rfl ?_
    refine o_iconst X2 hx hby D0_69 (v := 1) rfl ?_
    refine o_icmpY X2 hx hby D0_70 (flt (by decide : ¬ ((1 : Int32) < (1 : Int32)))).2.2.2 (q := 80) (by decide) (by decide) ?_
    refine o_iload X2 hx hby D0_80 rfl ?_
    refine o_iconst X2 hx hby D0_82 (v := 2) rfl ?_
    refine o_icmpY X2 hx hby D0_83 (flt (by decide : ¬ ((2 : Int32) < (1 : Int32)))).2.2.2 (q := 93) (by decide) (by decide) ?_
    refine o_iload X2 hx hby D0_93 rfl ?_
    refine o_iconst X2 hx hby D0_95 (v := 3) rfl ?_
    refine o_icmpY X2 hx hby D0_96 (flt (by decide : ¬ ((3 : Int32) < (1 : Int32)))).2.2.2 (q := 106) (by decide) (by decide) ?_
    refine o_iload X2 hx hby D0_106 rfl ?_
    refine o_iconst X2 hx hby D0_108 (v := 4) rfl ?_
    refine o_icmpY X2 hx hby D0_109 (flt (by decide : ¬ ((4 : Int32) < (1 : Int32)))).2.2.2 (q := 119) (by decide) (by decide) ?_
    refine o_aload X2 hx hby D0_119 rfl rfl ?_
    obtain ⟨_, _, ⟨T3, L3, k3, n3⟩, -, X3, ⟨Lc3, hQ3, l3, y3, z3⟩, st3⟩ := Jvm.LawKit.callS X2 hx (y := (⟨"tallymark/cli/BenchFigures", "median", "([D)D"⟩ : MethodName)) hown (mvT hZ (own_wd hw (i := 3) rfl)) (mvT hZ (own_wd hw (i := 4) rfl)) (mvT hZ (own_wd hw (i := 5) rfl)) (mvT hZ (own_wd hw (i := 6) rfl)) (by decide) (backOf (W := 0) (rmM1 l Z a0 hw [] b1 k1 (FP.i2d i0) h2 n0 (own_leN (by omega)) V_b1_2) hZ (own_wd hw (i := 6) rfl) (own_wd hw (i := 5) rfl) (by decide) (by decide)) (g := (mkF m 121 #[.val (.int p0), .val (.int p1), .val (.int p2), .val (.int p3), .val (.int p4), .val (.int p5), .val (.int (1 : Int32)), .val (.int i0), .val (.int i1), .val (.int i2), .val (.int i3), .val (.int i4), .val (.ref b1), .unset, .unset] [(.ref b1)])) rfl (by rw [hml]; rfl) (argsL := [(.ref b1)]) (rest := []) (lenOf pd__40_91D_41D rfl) rfl (by show 2 * 0 + _ ≤ _; exact Nat.le_of_eq rfl) (hb hby D0_121.1) (fun _ _ => ⟨rfl, e2, (by decide : 1 + 0 ≤ _), (by decide : 1 + 0 ≤ _)⟩)
    dsimp only [Pt.U, Pt.locs, Pt.cells, Pt.slots] at X3 l3 y3 z3 st3 hQ3
    subst l3 y3 z3
    obtain ⟨rfl, N3q, e3⟩ := hQ3
    have N3 := Fr.app N2 N3q
    refine own_pre (A' := T3.setTop (mkF m 124 #[.val (.int p0), .val (.int p1), .val (.int p2), .val (.int p3), .val (.int p4), .val (.int p5), .val (.int (1 : Int32)), .val (.int i0), .val (.int i1), .val (.int i2), .val (.int i3), .val (.int i4), .val (.ref b1), .unset, .unset] [(.double (FP.i2d i0))])) st3 ?_
    refine own_pre (A' := T3.setTop (mkF m 126 #[.val (.int p0), .val (.int p1), .val (.int p2), .val (.int p3), .val (.int p4), .val (.int p5), .val (.int (1 : Int32)), .val (.int i0), .val (.int i1), .val (.int i2), .val (.int i3), .val (.int i4), .val (.ref b1), .val (.double (FP.i2d i0)), .second] [])) (fun t k => own_dstore X3.here hx rfl (hb hby D0_124.1) rfl (l' := #[.val (.int p0), .val (.int p1), .val (.int p2), .val (.int p3), .val (.int p4), .val (.int p5), .val (.int (1 : Int32)), .val (.int i0), .val (.int i1), .val (.int i2), .val (.int i3), .val (.int i4), .val (.ref b1), .val (.double (FP.i2d i0)), .second]) rfl k) ?_
    refine o_iload X3 hx hby D0_126 rfl ?_
    refine o_iconst X3 hx hby D0_128 (v := 1) rfl ?_
    refine o_icmpN X3 hx hby D0_129 (teq (by decide : (1 : Int32) = (1 : Int32))).2 ?_
    refine own_pre (A' := T3.setTop (mkF m 134 #[.val (.int p0), .val (.int p1), .val (.int p2), .val (.int p3), .val (.int p4), .val (.int p5), .val (.int (1 : Int32)), .val (.int i0), .val (.int i1), .val (.int i2), .val (.int i3), .val (.int i4), .val (.ref b1), .val (.double (FP.i2d i0)), .second] [(.double (FP.i2d i0))])) (fun t k => own_dload X3.here hx rfl (hb hby D0_132.1) rfl k) ?_
    refine o_iload X3 hx hby D0_134 rfl ?_
    refine own_pre (A' := T3.setTop (mkF m 137 #[.val (.int p0), .val (.int p1), .val (.int p2), .val (.int p3), .val (.int p4), .val (.int p5), .val (.int (1 : Int32)), .val (.int i0), .val (.int i1), .val (.int i2), .val (.int i3), .val (.int i4), .val (.ref b1), .val (.double (FP.i2d i0)), .second] [(.double (FP.i2d i0)), (.double (FP.i2d i0))])) (fun t k => own_i2d X3.here hx rfl (hb hby D0_136.1) rfl k) ?_
    refine own_pre (A' := T3.setTop (mkF m 138 #[.val (.int p0), .val (.int p1), .val (.int p2), .val (.int p3), .val (.int p4), .val (.int p5), .val (.int (1 : Int32)), .val (.int i0), .val (.int i1), .val (.int i2), .val (.int i3), .val (.int i4), .val (.ref b1), .val (.double (FP.i2d i0)), .second] [(.int (cmpValue (FP.dcmp (FP.i2d i0) (FP.i2d i0)) .l))])) (fun t k => own_dcmp X3.here hx rfl (hb hby D0_137.1) rfl k) ?_
    refine o_ifN X3 hx hby D0_138 ((if0 _ _).trans (teq (own_c0 _ : (cmpValue (FP.dcmp (FP.i2d i0) (FP.i2d i0)) .l) = (0 : Int32))).2) ?_
    refine o_iconst X3 hx hby D0_141 (v := 1) rfl ?_
    refine o_goto X3 hx hby D0_142 (q := 146) (by decide) (by decide) ?_
    exact own_ret (v := some (.int (1 : Int32))) X3 (fun h => by first | rfl | (rw [Bd.returns] at h; cases h)) (BodyLoose.notSynchronized Bd) (by decide) (by decide) (⟨rfl, N3⟩) (fun fs hr => retN X3 hx (t := .boolean) Bd.returns (by simp) (hb hby D0_146.1) hr)
  · skip
    refine o_iload X0 hx hby D0_54 rfl ?_
    obtain ⟨T4, h4, k4, X4, e4, E4, A4, Ex4, st4⟩ := newPE X0 hx hZ (own_wd hw (i := 2) rfl) e0 (g := (mkF m 56 #[.val (.int p0), .val (.int p1), .val (.int p2), .val (.int p3), .val (.int p4), .val (.int p5), .val (.int (2 : Int32)), .val (.int i0), .val (.int i1), .val (.int i2), .val (.int i3), .val (.int i4), .unset, .unset, .unset] [(.int (2 : Int32))])) rfl (hb hby D0_56.1) rfl (by decide) (cap := 2) (by decide) (by decide) (by decide) (by decide) (ad := "[D") (by first | rfl | decide)
    obtain ⟨b4, g4⟩ : ∃ z : Nat, z = h0.size := ⟨_, rfl⟩
    rw [← g4] at A4 Ex4 st4
    have sz4 := own_leN E4.1
    have gn_b4 : n0 ≤ b4 := by omega
    have V_b4 : Arv Z h4 b4 k4 .double (2 : Int32) [(.double 0), (.double 0)] (.double 0) := (Arv.new A4 (by decide)).pad (pad_rep [] (.double 0) 2)
    have lt_b4 := own_ltN V_b4.lt
    refine own_pre (A' := T4.setTop (mkF m 58 #[.val (.int p0), .val (.int p1), .val (.int p2), .val (.int p3), .val (.int p4), .val (.int p5), .val (.int (2 : Int32)), .val (.int i0), .val (.int i1), .val (.int i2), .val (.int i3), .val (.int i4), .unset, .unset, .unset] [(.ref b4)])) st4 ?_
    refine o_astore X4 hx hby D0_58 rfl (l' := #[.val (.int p0), .val (.int p1), .val (.int p2), .val (.int p3), .val (.int p4), .val (.int p5), .val (.int (2 : Int32)), .val (.int i0), .val (.int i1), .val (.int i2), .val (.int i3), .val (.int i4), .val (.ref b4), .unset, .unset]) rfl ?_
    refine o_aload X4 hx hby D0_60 rfl rfl ?_
    refine o_iconst X4 hx hby D0_62 (v := 0) rfl ?_
    refine o_iload X4 hx hby D0_63 rfl ?_
    refine own_pre (A' := T4.setTop (mkF m 66 #[.val (.int p0), .val (.int p1), .val (.int p2), .val (.int p3), .val (.int p4), .val (.int p5), .val (.int (2 : Int32)), .val (.int i0), .val (.int i1), .val (.int i2), .val (.int i3), .val (.int i4), .val (.ref b4), .unset, .unset] [(.double (FP.i2d i0)), (.int (0 : Int32)), (.ref b4)])) (fun t k => own_i2d X4.here hx rfl (hb hby D0_65.1) rfl k) ?_
    obtain ⟨cl_b4_5, Ar_b4_5, q_b4_5, S_b4_5, N_b4_5, H_b4_5, G_b4_5⟩ := id V_b4
    have hin_b4_5 : ¬ ((0 : Int32) < 0 ∨ cl_b4_5.slots.size ≤ ((0 : Int32)).toNatClampNeg) := inb_of S_b4_5 ⟨by decide, by decide⟩
    obtain ⟨T5, h5, X5, e5, W5, st5⟩ := own_stD X4 hx hZ e4 Ar_b4_5 (j := (0 : Int32)) hin_b4_5 (g := (mkF m 66 #[.val (.int p0), .val (.int p1), .val (.int p2), .val (.int p3), .val (.int p4), .val (.int p5), .val (.int (2 : Int32)), .val (.int i0), .val (.int i1), .val (.int i2), .val (.int i3), .val (.int i4), .val (.ref b4), .unset, .unset] [(.double (FP.i2d i0)), (.int (0 : Int32)), (.ref b4)])) rfl rfl (hb hby D0_66.1)
    have V_b4_5 : Arv Z h5 b4 k4 .double (2 : Int32) [(.double (FP.i2d i0)), (.double 0)] (.double 0) := Arv.set Ar_b4_5 q_b4_5 S_b4_5 N_b4_5 H_b4_5 G_b4_5 rfl W5 0 rfl (Nat.le_of_ble_eq_true rfl)
    have sz5 := own_leN (Keep.of_wr W5).1
    have N5 := Fr.snoc X5 N0 gn_b4
    refine own_pre (A' := T5.setTop (mkF m 67 #[.val (.int p0), .val (.int p1), .val (.int p2), .val (.int p3), .val (.int p4), .val (.int p5), .val (.int (2 : Int32)), .val (.int i0), .val (.int i1), .val (.int i2), .val (.int i3), .val (.int i4), .val (.ref b4), .unset, .unset] [])) st5 ?_
    refine o_iload X5 hx hby D0_67 rfl ?_
    refine o_iconst X5 hx hby D0_69 (v := 1) rfl ?_
    refine o_icmpN X5 hx hby D0_70 (tlt (by decide : (1 : Int32) < (2 : Int32))).2.2.2 ?_
    refine o_aload X5 hx hby D0_73 rfl rfl ?_
    refine o_iconst X5 hx hby D0_75 (v := 1) rfl ?_
    refine o_iload X5 hx hby D0_76 rfl ?_
    refine own_pre (A' := T5.setTop (mkF m 79 #[.val (.int p0), .val (.int p1), .val (.int p2), .val (.int p3), .val (.int p4), .val (.int p5), .val (.int (2 : Int32)), .val (.int i0), .val (.int i1), .val (.int i2), .val (.int i3), .val (.int i4), .val (.ref b4), .unset, .unset] [(.double (FP.i2d i1)), (.int (1 : Int32)), (.ref b4)])) (fun t k => own_i2d X5.here hx rfl (hb hby D0_78.1) rfl k) ?_
    obtain ⟨cl_b4_6, Ar_b4_6, q_b4_6, S_b4_6, N_b4_6, H_b4_6, G_b4_6⟩ := id V_b4_5
    have hin_b4_6 : ¬ ((1 : Int32) < 0 ∨ cl_b4_6.slots.size ≤ ((1 : Int32)).toNatClampNeg) := inb_of S_b4_6 ⟨by decide, by decide⟩
    obtain ⟨T6, h6, X6, e6, W6, st6⟩ := own_stD X5 hx hZ e5 Ar_b4_6 (j := (1 : Int32)) hin_b4_6 (g := (mkF m 79 #[.val (.int p0), .val (.int p1), .val (.int p2), .val (.int p3), .val (.int p4), .val (.int p5), .val (.int (2 : Int32)), .val (.int i0), .val (.int i1), .val (.int i2), .val (.int i3), .val (.int i4), .val (.ref b4), .unset, .unset] [(.double (FP.i2d i1)), (.int (1 : Int32)), (.ref b4)])) rfl rfl (hb hby D0_79.1)
    have V_b4_6 : Arv Z h6 b4 k4 .double (2 : Int32) [(.double (FP.i2d i0)), (.double (FP.i2d i1))] (.double 0) := Arv.set Ar_b4_6 q_b4_6 S_b4_6 N_b4_6 H_b4_6 G_b4_6 rfl W6 1 rfl (Nat.le_of_ble_eq_true rfl)
    have sz6 := own_leN (Keep.of_wr W6).1
    have N6 := Fr.snoc X6 N5 gn_b4
    refine own_pre (A' := T6.setTop (mkF m 80 #[.val (.int p0), .val (.int p1), .val (.int p2), .val (.int p3), .val (.int p4), .val (.int p5), .val (.int (2 : Int32)), .val (.int i0), .val (.int i1), .val (.int i2), .val (.int i3), .val (.int i4), .val (.ref b4), .unset, .unset] [])) st6 ?_
    refine o_iload X6 hx hby D0_80 rfl ?_
    refine o_iconst X6 hx hby D0_82 (v := 2) rfl ?_
    refine o_icmpY X6 hx hby D0_83 (flt (by decide : ¬ ((2 : Int32) < (2 : Int32)))).2.2.2 (q := 93) (by decide) (by decide) ?_
    refine o_iload X6 hx hby D0_93 rfl ?_
    refine o_iconst X6 hx hby D0_95 (v := 3) rfl ?_
    refine o_icmpY X6 hx hby D0_96 (flt (by decide : ¬ ((3 : Int32) < (2 : Int32)))).2.2.2 (q := 106) (by decide) (by decide) ?_
    refine o_iload X6 hx hby D0_106 rfl ?_
    refine o_iconst X6 hx hby D0_108 (v := 4) rfl ?_
    refine o_icmpY X6 hx hby D0_109 (flt (by decide : ¬ ((4 : Int32) < (2 : Int32)))).2.2.2 (q := 119) (by decide) (by decide) ?_
    refine o_aload X6 hx hby D0_119 rfl rfl ?_
    obtain ⟨_, _, ⟨T7, L7, k7, n7⟩, -, X7, ⟨Lc7, hQ7, l7, y7, z7⟩, st7⟩ := Jvm.LawKit.callS X6 hx (y := (⟨"tallymark/cli/BenchFigures", "median", "([D)D"⟩ : MethodName)) hown (mvT hZ (own_wd hw (i := 3) rfl)) (mvT hZ (own_wd hw (i := 4) rfl)) (mvT hZ (own_wd hw (i := 5) rfl)) (mvT hZ (own_wd hw (i := 6) rfl)) (by decide) (backOf (W := 0) (rmM2 l Z a0 hw [] b4 k4 (FP.i2d i0) (FP.i2d i1) h6 n0 (own_leN (by omega)) V_b4_6 (own_dint (own_sum bi0 bi1)) (own_half (own_sum bi0 bi1)).1) hZ (own_wd hw (i := 6) rfl) (own_wd hw (i := 5) rfl) (by decide) (by decide)) (g := (mkF m 121 #[.val (.int p0), .val (.int p1), .val (.int p2), .val (.int p3), .val (.int p4), .val (.int p5), .val (.int (2 : Int32)), .val (.int i0), .val (.int i1), .val (.int i2), .val (.int i3), .val (.int i4), .val (.ref b4), .unset, .unset] [(.ref b4)])) rfl (by rw [hml]; rfl) (argsL := [(.ref b4)]) (rest := []) (lenOf pd__40_91D_41D rfl) rfl (by show 2 * 0 + _ ≤ _; exact Nat.le_of_eq rfl) (hb hby D0_121.1) (fun _ _ => ⟨rfl, e6, (by decide : 1 + 0 ≤ _), (by decide : 2 + 0 ≤ _)⟩)
    dsimp only [Pt.U, Pt.locs, Pt.cells, Pt.slots] at X7 l7 y7 z7 st7 hQ7
    subst l7 y7 z7
    obtain ⟨rfl, N7q, e7⟩ := hQ7
    have N7 := Fr.app N6 N7q
    refine own_pre (A' := T7.setTop (mkF m 124 #[.val (.int p0), .val (.int p1), .val (.int p2), .val (.int p3), .val (.int p4), .val (.int p5), .val (.int (2 : Int32)), .val (.int i0), .val (.int i1), .val (.int i2), .val (.int i3), .val (.int i4), .val (.ref b4), .unset, .unset] [(.double (FP.ddiv (FP.dadd (FP.i2d i0) (FP.i2d i1)) (4611686018427387904 : UInt64)))])) st7 ?_
    refine own_pre (A' := T7.setTop (mkF m 126 #[.val (.int p0), .val (.int p1), .val (.int p2), .val (.int p3), .val (.int p4), .val (.int p5), .val (.int (2 : Int32)), .val (.int i0), .val (.int i1), .val (.int i2), .val (.int i3), .val (.int i4), .val (.ref b4), .val (.double (FP.ddiv (FP.dadd (FP.i2d i0) (FP.i2d i1)) (4611686018427387904 : UInt64))), .second] [])) (fun t k => own_dstore X7.here hx rfl (hb hby D0_124.1) rfl (l' := #[.val (.int p0), .val (.int p1), .val (.int p2), .val (.int p3), .val (.int p4), .val (.int p5), .val (.int (2 : Int32)), .val (.int i0), .val (.int i1), .val (.int i2), .val (.int i3), .val (.int i4), .val (.ref b4), .val (.double (FP.ddiv (FP.dadd (FP.i2d i0) (FP.i2d i1)) (4611686018427387904 : UInt64))), .second]) rfl k) ?_
    refine o_iload X7 hx hby D0_126 rfl ?_
    refine o_iconst X7 hx hby D0_128 (v := 1) rfl ?_
    refine o_icmpY X7 hx hby D0_129 (feq (by decide : ¬ ((2 : Int32) = (1 : Int32)))).2 (q := 147) (by decide) (by decide) ?_
    refine o_iload X7 hx hby D0_147 rfl ?_
    refine o_iconst X7 hx hby D0_149 (v := 2) rfl ?_
    refine o_icmpN X7 hx hby D0_150 (teq (by decide : (2 : Int32) = (2 : Int32))).2 ?_
    refine own_pre (A' := T7.setTop (mkF m 156 #[.val (.int p0), .val (.int p1), .val (.int p2), .val (.int p3), .val (.int p4), .val (.int p5), .val (.int (2 : Int32)), .val (.int i0), .val (.int i1), .val (.int i2), .val (.int i3), .val (.int i4), .val (.ref b4), .val (.double (FP.ddiv (FP.dadd (FP.i2d i0) (FP.i2d i1)) (4611686018427387904 : UInt64))), .second] [(.double (4611686018427387904 : UInt64))])) (fun t k => X7.ldc2DoubleC hx hown (mvT hZ (own_wd hw (i := 8) rfl)) (g := (mkF m 153 #[.val (.int p0), .val (.int p1), .val (.int p2), .val (.int p3), .val (.int p4), .val (.int p5), .val (.int (2 : Int32)), .val (.int i0), .val (.int i1), .val (.int i2), .val (.int i3), .val (.int i4), .val (.ref b4), .val (.double (FP.ddiv (FP.dadd (FP.i2d i0) (FP.i2d i1)) (4611686018427387904 : UInt64))), .second] [])) rfl (hb hby D0_153.1) _ k) ?_
    refine own_pre (A' := T7.setTop (mkF m 158 #[.val (.int p0), .val (.int p1), .val (.int p2), .val (.int p3), .val (.int p4), .val (.int p5), .val (.int (2 : Int32)), .val (.int i0), .val (.int i1), .val (.int i2), .val (.int i3), .val (.int i4), .val (.ref b4), .val (.double (FP.ddiv (FP.dadd (FP.i2d i0) (FP.i2d i1)) (4611686018427387904 : UInt64))), .second] [(.double (FP.ddiv (FP.dadd (FP.i2d i0) (FP.i2d i1)) (4611686018427387904 : UInt64))), (.double (4611686018427387904 : UInt64))])) (fun t k => own_dload X7.here hx rfl (hb hby D0_156.1) rfl k) ?_
    refine own_pre (A' := T7.setTop (mkF m 159 #[.val (.int p0), .val (.int p1), .val (.int p2), .val (.int p3), .val (.int p4), .val (.int p5), .val (.int (2 : Int32)), .val (.int i0), .val (.int i1), .val (.int i2), .val (.int i3), .val (.int i4), .val (.ref b4), .val (.double (FP.ddiv (FP.dadd (FP.i2d i0) (FP.i2d i1)) (4611686018427387904 : UInt64))), .second] [(.double (FP.dmul (4611686018427387904 : UInt64) (FP.ddiv (FP.dadd (FP.i2d i0) (FP.i2d i1)) (4611686018427387904 : UInt64))))])) (fun t k => own_dmul X7.here hx rfl (hb hby D0_158.1) rfl (own_dint (own_half (own_sum bi0 bi1)).2) k) ?_
    refine o_iload X7 hx hby D0_159 rfl ?_
    refine o_iload X7 hx hby D0_161 rfl ?_
    refine o_iadd X7 hx hby D0_163 ?_
    refine own_pre (A' := T7.setTop (mkF m 165 #[.val (.int p0), .val (.int p1), .val (.int p2), .val (.int p3), .val (.int p4), .val (.int p5), .val (.int (2 : Int32)), .val (.int i0), .val (.int i1), .val (.int i2), .val (.int i3), .val (.int i4), .val (.ref b4), .val (.double (FP.ddiv (FP.dadd (FP.i2d i0) (FP.i2d i1)) (4611686018427387904 : UInt64))), .second] [(.double (FP.i2d (i0 + i1))), (.double (FP.dmul (4611686018427387904 : UInt64) (FP.ddiv (FP.dadd (FP.i2d i0) (FP.i2d i1)) (4611686018427387904 : UInt64))))])) (fun t k => own_i2d X7.here hx rfl (hb hby D0_164.1) rfl k) ?_
    refine own_pre (A' := T7.setTop (mkF m 166 #[.val (.int p0), .val (.int p1), .val (.int p2), .val (.int p3), .val (.int p4), .val (.int p5), .val (.int (2 : Int32)), .val (.int i0), .val (.int i1), .val (.int i2), .val (.int i3), .val (.int i4), .val (.ref b4), .val (.double (FP.ddiv (FP.dadd (FP.i2d i0) (FP.i2d i1)) (4611686018427387904 : UInt64))), .second] [(.int (cmpValue (FP.dcmp (FP.dmul (4611686018427387904 : UInt64) (FP.ddiv (FP.dadd (FP.i2d i0) (FP.i2d i1)) (4611686018427387904 : UInt64))) (FP.i2d (i0 + i1))) .l))])) (fun t k => own_dcmp X7.here hx rfl (hb hby D0_165.1) rfl k) ?_
    refine o_ifN X7 hx hby D0_166 ((if0 _ _).trans (teq (own_c2 bi0 bi1 : (cmpValue (FP.dcmp (FP.dmul (4611686018427387904 : UInt64) (FP.ddiv (FP.dadd (FP.i2d i0) (FP.i2d i1)) (4611686018427387904 : UInt64))) (FP.i2d (i0 + i1))) .l) = (0 : Int32))).2) ?_
    refine o_iconst X7 hx hby D0_169 (v := 1) rfl ?_
    refine o_goto X7 hx hby D0_170 (q := 174) (by decide) (by decide) ?_
    exact own_ret (v := some (.int (1 : Int32))) X7 (fun h => by first | rfl | (rw [Bd.returns] at h; cases h)) (BodyLoose.notSynchronized Bd) (by decide) (by decide) (⟨rfl, N7⟩) (fun fs hr => retN X7 hx (t := .boolean) Bd.returns (by simp) (hb hby D0_174.1) hr)
  · skip
    refine o_iload X0 hx hby D0_54 rfl ?_
    obtain ⟨T8, h8, k8, X8, e8, E8, A8, Ex8, st8⟩ := newPE X0 hx hZ (own_wd hw (i := 2) rfl) e0 (g := (mkF m 56 #[.val (.int p0), .val (.int p1), .val (.int p2), .val (.int p3), .val (.int p4), .val (.int p5), .val (.int (3 : Int32)), .val (.int i0), .val (.int i1), .val (.int i2), .val (.int i3), .val (.int i4), .unset, .unset, .unset] [(.int (3 : Int32))])) rfl (hb hby D0_56.1) rfl (by decide) (cap := 3) (by decide) (by decide) (by decide) (by decide) (ad := "[D") (by first | rfl | decide)
    obtain ⟨b8, g8⟩ : ∃ z : Nat, z = h0.size := ⟨_, rfl⟩
    rw [← g8] at A8 Ex8 st8
    have sz8 := own_leN E8.1
    have gn_b8 : n0 ≤ b8 := by omega
    have V_b8 : Arv Z h8 b8 k8 .double (3 : Int32) [(.double 0), (.double 0), (.double 0)] (.double 0) := (Arv.new A8 (by decide)).pad (pad_rep [] (.double 0) 3)
    have lt_b8 := own_ltN V_b8.lt
    refine own_pre (A' := T8.setTop (mkF m 58 #[.val (.int p0), .val (.int p1), .val (.int p2), .val (.int p3), .val (.int p4), .val (.int p5), .val (.int (3 : Int32)), .val (.int i0), .val (.int i1), .val (.int i2), .val (.int i3), .val (.int i4), .unset, .unset, .unset] [(.ref b8)])) st8 ?_
    refine o_astore X8 hx hby D0_58 rfl (l' := #[.val (.int p0), .val (.int p1), .val (.int p2), .val (.int p3), .val (.int p4), .val (.int p5), .val (.int (3 : Int32)), .val (.int i0), .val (.int i1), .val (.int i2), .val (.int i3), .val (.int i4), .val (.ref b8), .unset, .unset]) rfl ?_
    refine o_aload X8 hx hby D0_60 rfl rfl ?_
    refine o_iconst X8 hx hby D0_62 (v := 0) rfl ?_
    refine o_iload X8 hx hby D0_63 rfl ?_
    refine own_pre (A' := T8.setTop (mkF m 66 #[.val (.int p0), .val (.int p1), .val (.int p2), .val (.int p3), .val (.int p4), .val (.int p5), .val (.int (3 : Int32)), .val (.int i0), .val (.int i1), .val (.int i2), .val (.int i3), .val (.int i4), .val (.ref b8), .unset, .unset] [(.double (FP.i2d i0)), (.int (0 : Int32)), (.ref b8)])) (fun t k => own_i2d X8.here hx rfl (hb hby D0_65.1) rfl k) ?_
    obtain ⟨cl_b8_9, Ar_b8_9, q_b8_9, S_b8_9, N_b8_9, H_b8_9, G_b8_9⟩ := id V_b8
    have hin_b8_9 : ¬ ((0 : Int32) < 0 ∨ cl_b8_9.slots.size ≤ ((0 : Int32)).toNatClampNeg) := inb_of S_b8_9 ⟨by decide, by decide⟩
    obtain ⟨T9, h9, X9, e9, W9, st9⟩ := own_stD X8 hx hZ e8 Ar_b8_9 (j := (0 : Int32)) hin_b8_9 (g := (mkF m 66 #[.val (.int p0), .val (.int p1), .val (.int p2), .val (.int p3), .val (.int p4), .val (.int p5), .val (.int (3 : Int32)), .val (.int i0), .val (.int i1), .val (.int i2), .val (.int i3), .val (.int i4), .val (.ref b8), .unset, .unset] [(.double (FP.i2d i0)), (.int (0 : Int32)), (.ref b8)])) rfl rfl (hb hby D0_66.1)
    have V_b8_9 : Arv Z h9 b8 k8 .double (3 : Int32) [(.double (FP.i2d i0)), (.double 0), (.double 0)] (.double 0) := Arv.set Ar_b8_9 q_b8_9 S_b8_9 N_b8_9 H_b8_9 G_b8_9 rfl W9 0 rfl (Nat.le_of_ble_eq_true rfl)
    have sz9 := own_leN (Keep.of_wr W9).1
    have N9 := Fr.snoc X9 N0 gn_b8
    refine own_pre (A' := T9.setTop (mkF m 67 #[.val (.int p0), .val (.int p1), .val (.int p2), .val (.int p3), .val (.int p4), .val (.int p5), .val (.int (3 : Int32)), .val (.int i0), .val (.int i1), .val (.int i2), .val (.int i3), .val (.int i4), .val (.ref b8), .unset, .unset] [])) st9 ?_
    refine o_iload X9 hx hby D0_67 rfl ?_
    refine o_iconst X9 hx hby D0_69 (v := 1) rfl ?_
    refine o_icmpN X9 hx hby D0_70 (tlt (by decide : (1 : Int32) < (3 : Int32))).2.2.2 ?_
    refine o_aload X9 hx hby D0_73 rfl rfl ?_
    refine o_iconst X9 hx hby D0_75 (v := 1) rfl ?_
    refine o_iload X9 hx hby D0_76 rfl ?_
    refine own_pre (A' := T9.setTop (mkF m 79 #[.val (.int p0), .val (.int p1), .val (.int p2), .val (.int p3), .val (.int p4), .val (.int p5), .val (.int (3 : Int32)), .val (.int i0), .val (.int i1), .val (.int i2), .val (.int i3), .val (.int i4), .val (.ref b8), .unset, .unset] [(.double (FP.i2d i1)), (.int (1 : Int32)), (.ref b8)])) (fun t k => own_i2d X9.here hx rfl (hb hby D0_78.1) rfl k) ?_
    obtain ⟨cl_b8_10, Ar_b8_10, q_b8_10, S_b8_10, N_b8_10, H_b8_10, G_b8_10⟩ := id V_b8_9
    have hin_b8_10 : ¬ ((1 : Int32) < 0 ∨ cl_b8_10.slots.size ≤ ((1 : Int32)).toNatClampNeg) := inb_of S_b8_10 ⟨by decide, by decide⟩
    obtain ⟨T10, h10, X10, e10, W10, st10⟩ := own_stD X9 hx hZ e9 Ar_b8_10 (j := (1 : Int32)) hin_b8_10 (g := (mkF m 79 #[.val (.int p0), .val (.int p1), .val (.int p2), .val (.int p3), .val (.int p4), .val (.int p5), .val (.int (3 : Int32)), .val (.int i0), .val (.int i1), .val (.int i2), .val (.int i3), .val (.int i4), .val (.ref b8), .unset, .unset] [(.double (FP.i2d i1)), (.int (1 : Int32)), (.ref b8)])) rfl rfl (hb hby D0_79.1)
    have V_b8_10 : Arv Z h10 b8 k8 .double (3 : Int32) [(.double (FP.i2d i0)), (.double (FP.i2d i1)), (.double 0)] (.double 0) := Arv.set Ar_b8_10 q_b8_10 S_b8_10 N_b8_10 H_b8_10 G_b8_10 rfl W10 1 rfl (Nat.le_of_ble_eq_true rfl)
    have sz10 := own_leN (Keep.of_wr W10).1
    have N10 := Fr.snoc X10 N9 gn_b8
    refine own_pre (A' := T10.setTop (mkF m 80 #[.val (.int p0), .val (.int p1), .val (.int p2), .val (.int p3), .val (.int p4), .val (.int p5), .val (.int (3 : Int32)), .val (.int i0), .val (.int i1), .val (.int i2), .val (.int i3), .val (.int i4), .val (.ref b8), .unset, .unset] [])) st10 ?_
    refine o_iload X10 hx hby D0_80 rfl ?_
    refine o_iconst X10 hx hby D0_82 (v := 2) rfl ?_
    refine o_icmpN X10 hx hby D0_83 (tlt (by decide : (2 : Int32) < (3 : Int32))).2.2.2 ?_
    refine o_aload X10 hx hby D0_86 rfl rfl ?_
    refine o_iconst X10 hx hby D0_88 (v := 2) rfl ?_
    refine o_iload X10 hx hby D0_89 rfl ?_
    refine own_pre (A' := T10.setTop (mkF m 92 #[.val (.int p0), .val (.int p1), .val (.int p2), .val (.int p3), .val (.int p4), .val (.int p5), .val (.int (3 : Int32)), .val (.int i0), .val (.int i1), .val (.int i2), .val (.int i3), .val (.int i4), .val (.ref b8), .unset, .unset] [(.double (FP.i2d i2)), (.int (2 : Int32)), (.ref b8)])) (fun t k => own_i2d X10.here hx rfl (hb hby D0_91.1) rfl k) ?_
    obtain ⟨cl_b8_11, Ar_b8_11, q_b8_11, S_b8_11, N_b8_11, H_b8_11, G_b8_11⟩ := id V_b8_10
    have hin_b8_11 : ¬ ((2 : Int32) < 0 ∨ cl_b8_11.slots.size ≤ ((2 : Int32)).toNatClampNeg) := inb_of S_b8_11 ⟨by decide, by decide⟩
    obtain ⟨T11, h11, X11, e11, W11, st11⟩ := own_stD X10 hx hZ e10 Ar_b8_11 (j := (2 : Int32)) hin_b8_11 (g := (mkF m 92 #[.val (.int p0), .val (.int p1), .val (.int p2), .val (.int p3), .val (.int p4), .val (.int p5), .val (.int (3 : Int32)), .val (.int i0), .val (.int i1), .val (.int i2), .val (.int i3), .val (.int i4), .val (.ref b8), .unset, .unset] [(.double (FP.i2d i2)), (.int (2 : Int32)), (.ref b8)])) rfl rfl (hb hby D0_92.1)
    have V_b8_11 : Arv Z h11 b8 k8 .double (3 : Int32) [(.double (FP.i2d i0)), (.double (FP.i2d i1)), (.double (FP.i2d i2))] (.double 0) := Arv.set Ar_b8_11 q_b8_11 S_b8_11 N_b8_11 H_b8_11 G_b8_11 rfl W11 2 rfl (Nat.le_of_ble_eq_true rfl)
    have sz11 := own_leN (Keep.of_wr W11).1
    have N11 := Fr.snoc X11 N10 gn_b8
    refine own_pre (A' := T11.setTop (mkF m 93 #[.val (.int p0), .val (.int p1), .val (.int p2), .val (.int p3), .val (.int p4), .val (.int p5), .val (.int (3 : Int32)), .val (.int i0), .val (.int i1), .val (.int i2), .val (.int i3), .val (.int i4), .val (.ref b8), .unset, .unset] [])) st11 ?_
    refine o_iload X11 hx hby D0_93 rfl ?_
    refine o_iconst X11 hx hby D0_95 (v := 3) rfl ?_
    refine o_icmpY X11 hx hby D0_96 (flt (by decide : ¬ ((3 : Int32) < (3 : Int32)))).2.2.2 (q := 106) (by decide) (by decide) ?_
    refine o_iload X11 hx hby D0_106 rfl ?_
    refine o_iconst X11 hx hby D0_108 (v := 4) rfl ?_
    refine o_icmpY X11 hx hby D0_109 (flt (by decide : ¬ ((4 : Int32) < (3 : Int32)))).2.2.2 (q := 119) (by decide) (by decide) ?_
    refine o_aload X11 hx hby D0_119 rfl rfl ?_
    obtain ⟨_, _, ⟨T12, L12, k12, n12⟩, -, X12, ⟨Lc12, hQ12, l12, y12, z12⟩, st12⟩ := Jvm.LawKit.callS X11 hx (y := (⟨"tallymark/cli/BenchFigures", "median", "([D)D"⟩ : MethodName)) hown (mvT hZ (own_wd hw (i := 3) rfl)) (mvT hZ (own_wd hw (i := 4) rfl)) (mvT hZ (own_wd hw (i := 5) rfl)) (mvT hZ (own_wd hw (i := 6) rfl)) (by decide) (backOf (W := 0) (rmM3 l Z a0 hw [] b8 k8 (FP.i2d i0) (FP.i2d i1) (FP.i2d i2) h11 n0 (own_leN (by omega)) V_b8_11) hZ (own_wd hw (i := 6) rfl) (own_wd hw (i := 5) rfl) (by decide) (by decide)) (g := (mkF m 121 #[.val (.int p0), .val (.int p1), .val (.int p2), .val (.int p3), .val (.int p4), .val (.int p5), .val (.int (3 : Int32)), .val (.int i0), .val (.int i1), .val (.int i2), .val (.int i3), .val (.int i4), .val (.ref b8), .unset, .unset] [(.ref b8)])) rfl (by rw [hml]; rfl) (argsL := [(.ref b8)]) (rest := []) (lenOf pd__40_91D_41D rfl) rfl (by show 2 * 0 + _ ≤ _; exact Nat.le_of_eq rfl) (hb hby D0_121.1) (fun _ _ => ⟨rfl, e11, (by decide : 1 + 0 ≤ _), (by decide : 3 + 0 ≤ _)⟩)
    dsimp only [Pt.U, Pt.locs, Pt.cells, Pt.slots] at X12 l12 y12 z12 st12 hQ12
    subst l12 y12 z12
    obtain ⟨rfl, N12q, e12⟩ := hQ12
    have N12 := Fr.app N11 N12q
    refine own_pre (A' := T12.setTop (mkF m 124 #[.val (.int p0), .val (.int p1), .val (.int p2), .val (.int p3), .val (.int p4), .val (.int p5), .val (.int (3 : Int32)), .val (.int i0), .val (.int i1), .val (.int i2), .val (.int i3), .val (.int i4), .val (.ref b8), .unset, .unset] [(.double (FP.i2d i1))])) st12 ?_
    refine own_pre (A' := T12.setTop (mkF m 126 #[.val (.int p0), .val (.int p1), .val (.int p2), .val (.int p3), .val (.int p4), .val (.int p5), .val (.int (3 : Int32)), .val (.int i0), .val (.int i1), .val (.int i2), .val (.int i3), .val (.int i4), .val (.ref b8), .val (.double (FP.i2d i1)), .second] [])) (fun t k => own_dstore X12.here hx rfl (hb hby D0_124.1) rfl (l' := #[.val (.int p0), .val (.int p1), .val (.int p2), .val (.int p3), .val (.int p4), .val (.int p5), .val (.int (3 : Int32)), .val (.int i0), .val (.int i1), .val (.int i2), .val (.int i3), .val (.int i4), .val (.ref b8), .val (.double (FP.i2d i1)), .second]) rfl k) ?_
    refine o_iload X12 hx hby D0_126 rfl ?_
    refine o_iconst X12 hx hby D0_128 (v := 1) rfl ?_
    refine o_icmpY X12 hx hby D0_129 (feq (by decide : ¬ ((3 : Int32) = (1 : Int32)))).2 (q := 147) (by decide) (by decide) ?_
    refine o_iload X12 hx hby D0_147 rfl ?_
    refine o_iconst X12 hx hby D0_149 (v := 2) rfl ?_
    refine o_icmpY X12 hx hby D0_150 (feq (by decide : ¬ ((3 : Int32) = (2 : Int32)))).2 (q := 175) (by decide) (by decide) ?_
    refine o_iload X12 hx hby D0_175 rfl ?_
    refine o_iconst X12 hx hby D0_177 (v := 3) rfl ?_
    refine o_icmpN X12 hx hby D0_178 (teq (by decide : (3 : Int32) = (3 : Int32))).2 ?_
    refine own_pre (A' := T12.setTop (mkF m 183 #[.val (.int p0), .val (.int p1), .val (.int p2), .val (.int p3), .val (.int p4), .val (.int p5), .val (.int (3 : Int32)), .val (.int i0), .val (.int i1), .val (.int i2), .val (.int i3), .val (.int i4), .val (.ref b8), .val (.double (FP.i2d i1)), .second] [(.double (FP.i2d i1))])) (fun t k => own_dload X12.here hx rfl (hb hby D0_181.1) rfl k) ?_
    refine o_iload X12 hx hby D0_183 rfl ?_
    refine own_pre (A' := T12.setTop (mkF m 186 #[.val (.int p0), .val (.int p1), .val (.int p2), .val (.int p3), .val (.int p4), .val (.int p5), .val (.int (3 : Int32)), .val (.int i0), .val (.int i1), .val (.int i2), .val (.int i3), .val (.int i4), .val (.ref b8), .val (.double (FP.i2d i1)), .second] [(.double (FP.i2d i1)), (.double (FP.i2d i1))])) (fun t k => own_i2d X12.here hx rfl (hb hby D0_185.1) rfl k) ?_
    refine own_pre (A' := T12.setTop (mkF m 187 #[.val (.int p0), .val (.int p1), .val (.int p2), .val (.int p3), .val (.int p4), .val (.int p5), .val (.int (3 : Int32)), .val (.int i0), .val (.int i1), .val (.int i2), .val (.int i3), .val (.int i4), .val (.ref b8), .val (.double (FP.i2d i1)), .second] [(.int (cmpValue (FP.dcmp (FP.i2d i1) (FP.i2d i1)) .l))])) (fun t k => own_dcmp X12.here hx rfl (hb hby D0_186.1) rfl k) ?_
    refine o_ifN X12 hx hby D0_187 ((if0 _ _).trans (teq (own_c0 _ : (cmpValue (FP.dcmp (FP.i2d i1) (FP.i2d i1)) .l) = (0 : Int32))).2) ?_
    refine o_iconst X12 hx hby D0_190 (v := 1) rfl ?_
    refine o_goto X12 hx hby D0_191 (q := 195) (by decide) (by decide) ?_
    exact own_ret (v := some (.int (1 : Int32))) X12 (fun h => by first | rfl | (rw [Bd.returns] at h; cases h)) (BodyLoose.notSynchronized Bd) (by decide) (by decide) (⟨rfl, N12⟩) (fun fs hr => retN X12 hx (t := .boolean) Bd.returns (by simp) (hb hby D0_195.1) hr)
  · skip
    refine o_iload X0 hx hby D0_54 rfl ?_
    obtain ⟨T13, h13, k13, X13, e13, E13, A13, Ex13, st13⟩ := newPE X0 hx hZ (own_wd hw (i := 2) rfl) e0 (g := (mkF m 56 #[.val (.int p0), .val (.int p1), .val (.int p2), .val (.int p3), .val (.int p4), .val (.int p5), .val (.int (4 : Int32)), .val (.int i0), .val (.int i1), .val (.int i2), .val (.int i3), .val (.int i4), .unset, .unset, .unset] [(.int (4 : Int32))])) rfl (hb hby D0_56.1) rfl (by decide) (cap := 4) (by decide) (by decide) (by decide) (by decide) (ad := "[D") (by first | rfl | decide)
    obtain ⟨b13, g13⟩ : ∃ z : Nat, z = h0.size := ⟨_, rfl⟩
    rw [← g13] at A13 Ex13 st13
    have sz13 := own_leN E13.1
    have gn_b13 : n0 ≤ b13 := by omega
    have V_b13 : Arv Z h13 b13 k13 .double (4 : Int32) [(.double 0), (.double 0), (.double 0), (.double 0)] (.double 0) := (Arv.new A13 (by decide)).pad (pad_rep [] (.double 0) 4)
    have lt_b13 := own_ltN V_b13.lt
    refine own_pre (A' := T13.setTop (mkF m 58 #[.val (.int p0), .val (.int p1), .val (.int p2), .val (.int p3), .val (.int p4), .val (.int p5), .val (.int (4 : Int32)), .val (.int i0), .val (.int i1), .val (.int i2), .val (.int i3), .val (.int i4), .unset, .unset, .unset] [(.ref b13)])) st13 ?_
    refine o_astore X13 hx hby D0_58 rfl (l' := #[.val (.int p0), .val (.int p1), .val (.int p2), .val (.int p3), .val (.int p4), .val (.int p5), .val (.int (4 : Int32)), .val (.int i0), .val (.int i1), .val (.int i2), .val (.int i3), .val (.int i4), .val (.ref b13), .unset, .unset]) rfl ?_
    refine o_aload X13 hx hby D0_60 rfl rfl ?_
    refine o_iconst X13 hx hby D0_62 (v := 0) rfl ?_
    refine o_iload X13 hx hby D0_63 rfl ?_
    refine own_pre (A' := T13.setTop (mkF m 66 #[.val (.int p0), .val (.int p1), .val (.int p2), .val (.int p3), .val (.int p4), .val (.int p5), .val (.int (4 : Int32)), .val (.int i0), .val (.int i1), .val (.int i2), .val (.int i3), .val (.int i4), .val (.ref b13), .unset, .unset] [(.double (FP.i2d i0)), (.int (0 : Int32)), (.ref b13)])) (fun t k => own_i2d X13.here hx rfl (hb hby D0_65.1) rfl k) ?_
    obtain ⟨cl_b13_14, Ar_b13_14, q_b13_14, S_b13_14, N_b13_14, H_b13_14, G_b13_14⟩ := id V_b13
    have hin_b13_14 : ¬ ((0 : Int32) < 0 ∨ cl_b13_14.slots.size ≤ ((0 : Int32)).toNatClampNeg) := inb_of S_b13_14 ⟨by decide, by decide⟩
    obtain ⟨T14, h14, X14, e14, W14, st14⟩ := own_stD X13 hx hZ e13 Ar_b13_14 (j := (0 : Int32)) hin_b13_14 (g := (mkF m 66 #[.val (.int p0), .val (.int p1), .val (.int p2), .val (.int p3), .val (.int p4), .val (.int p5), .val (.int (4 : Int32)), .val (.int i0), .val (.int i1), .val (.int i2), .val (.int i3), .val (.int i4), .val (.ref b13), .unset, .unset] [(.double (FP.i2d i0)), (.int (0 : Int32)), (.ref b13)])) rfl rfl (hb hby D0_66.1)
    have V_b13_14 : Arv Z h14 b13 k13 .double (4 : Int32) [(.double (FP.i2d i0)), (.double 0), (.double 0), (.double 0)] (.double 0) := Arv.set Ar_b13_14 q_b13_14 S_b13_14 N_b13_14 H_b13_14 G_b13_14 rfl W14 0 rfl (Nat.le_of_ble_eq_true rfl)
    have sz14 := own_leN (Keep.of_wr W14).1
    have N14 := Fr.snoc X14 N0 gn_b13
    refine own_pre (A' := T14.setTop (mkF m 67 #[.val (.int p0), .val (.int p1), .val (.int p2), .val (.int p3), .val (.int p4), .val (.int p5), .val (.int (4 : Int32)), .val (.int i0), .val (.int i1), .val (.int i2), .val (.int i3), .val (.int i4), .val (.ref b13), .unset, .unset] [])) st14 ?_
    refine o_iload X14 hx hby D0_67 rfl ?_
    refine o_iconst X14 hx hby D0_69 (v := 1) rfl ?_
    refine o_icmpN X14 hx hby D0_70 (tlt (by decide : (1 : Int32) < (4 : Int32))).2.2.2 ?_
    refine o_aload X14 hx hby D0_73 rfl rfl ?_
    refine o_iconst X14 hx hby D0_75 (v := 1) rfl ?_
    refine o_iload X14 hx hby D0_76 rfl ?_
    refine own_pre (A' := T14.setTop (mkF m 79 #[.val (.int p0), .val (.int p1), .val (.int p2), .val (.int p3), .val (.int p4), .val (.int p5), .val (.int (4 : Int32)), .val (.int i0), .val (.int i1), .val (.int i2), .val (.int i3), .val (.int i4), .val (.ref b13), .unset, .unset] [(.double (FP.i2d i1)), (.int (1 : Int32)), (.ref b13)])) (fun t k => own_i2d X14.here hx rfl (hb hby D0_78.1) rfl k) ?_
    obtain ⟨cl_b13_15, Ar_b13_15, q_b13_15, S_b13_15, N_b13_15, H_b13_15, G_b13_15⟩ := id V_b13_14
    have hin_b13_15 : ¬ ((1 : Int32) < 0 ∨ cl_b13_15.slots.size ≤ ((1 : Int32)).toNatClampNeg) := inb_of S_b13_15 ⟨by decide, by decide⟩
    obtain ⟨T15, h15, X15, e15, W15, st15⟩ := own_stD X14 hx hZ e14 Ar_b13_15 (j := (1 : Int32)) hin_b13_15 (g := (mkF m 79 #[.val (.int p0), .val (.int p1), .val (.int p2), .val (.int p3), .val (.int p4), .val (.int p5), .val (.int (4 : Int32)), .val (.int i0), .val (.int i1), .val (.int i2), .val (.int i3), .val (.int i4), .val (.ref b13), .unset, .unset] [(.double (FP.i2d i1)), (.int (1 : Int32)), (.ref b13)])) rfl rfl (hb hby D0_79.1)
    have V_b13_15 : Arv Z h15 b13 k13 .double (4 : Int32) [(.double (FP.i2d i0)), (.double (FP.i2d i1)), (.double 0), (.double 0)] (.double 0) := Arv.set Ar_b13_15 q_b13_15 S_b13_15 N_b13_15 H_b13_15 G_b13_15 rfl W15 1 rfl (Nat.le_of_ble_eq_true rfl)
    have sz15 := own_leN (Keep.of_wr W15).1
    have N15 := Fr.snoc X15 N14 gn_b13
    refine own_pre (A' := T15.setTop (mkF m 80 #[.val (.int p0), .val (.int p1), .val (.int p2), .val (.int p3), .val (.int p4), .val (.int p5), .val (.int (4 : Int32)), .val (.int i0), .val (.int i1), .val (.int i2), .val (.int i3), .val (.int i4), .val (.ref b13), .unset, .unset] [])) st15 ?_
    refine o_iload X15 hx hby D0_80 rfl ?_
    refine o_iconst X15 hx hby D0_82 (v := 2) rfl ?_
    refine o_icmpN X15 hx hby D0_83 (tlt (by decide : (2 : Int32) < (4 : Int32))).2.2.2 ?_
    refine o_aload X15 hx hby D0_86 rfl rfl ?_
    refine o_iconst X15 hx hby D0_88 (v := 2) rfl ?_
    refine o_iload X15 hx hby D0_89 rfl ?_
    refine own_pre (A' := T15.setTop (mkF m 92 #[.val (.int p0), .val (.int p1), .val (.int p2), .val (.int p3), .val (.int p4), .val (.int p5), .val (.int (4 : Int32)), .val (.int i0), .val (.int i1), .val (.int i2), .val (.int i3), .val (.int i4), .val (.ref b13), .unset, .unset] [(.double (FP.i2d i2)), (.int (2 : Int32)), (.ref b13)])) (fun t k => own_i2d X15.here hx rfl (hb hby D0_91.1) rfl k) ?_
    obtain ⟨cl_b13_16, Ar_b13_16, q_b13_16, S_b13_16, N_b13_16, H_b13_16, G_b13_16⟩ := id V_b13_15
    have hin_b13_16 : ¬ ((2 : Int32) < 0 ∨ cl_b13_16.slots.size ≤ ((2 : Int32)).toNatClampNeg) := inb_of S_b13_16 ⟨by decide, by decide⟩
    obtain ⟨T16, h16, X16, e16, W16, st16⟩ := own_stD X15 hx hZ e15 Ar_b13_16 (j := (2 : Int32)) hin_b13_16 (g := (mkF m 92 #[.val (.int p0), .val (.int p1), .val (.int p2), .val (.int p3), .val (.int p4), .val (.int p5), .val (.int (4 : Int32)), .val (.int i0), .val (.int i1), .val (.int i2), .val (.int i3), .val (.int i4), .val (.ref b13), .unset, .unset] [(.double (FP.i2d i2)), (.int (2 : Int32)), (.ref b13)])) rfl rfl (hb hby D0_92.1)
    have V_b13_16 : Arv Z h16 b13 k13 .double (4 : Int32) [(.double (FP.i2d i0)), (.double (FP.i2d i1)), (.double (FP.i2d i2)), (.double 0)] (.double 0) := Arv.set Ar_b13_16 q_b13_16 S_b13_16 N_b13_16 H_b13_16 G_b13_16 rfl W16 2 rfl (Nat.le_of_ble_eq_true rfl)
    have sz16 := own_leN (Keep.of_wr W16).1
    have N16 := Fr.snoc X16 N15 gn_b13
    refine own_pre (A' := T16.setTop (mkF m 93 #[.val (.int p0), .val (.int p1), .val (.int p2), .val (.int p3), .val (.int p4), .val (.int p5), .val (.int (4 : Int32)), .val (.int i0), .val (.int i1), .val (.int i2), .val (.int i3), .val (.int i4), .val (.ref b13), .unset, .unset] [])) st16 ?_
    refine o_iload X16 hx hby D0_93 rfl ?_
    refine o_iconst X16 hx hby D0_95 (v := 3) rfl ?_
    refine o_icmpN X16 hx hby D0_96 (tlt (by decide : (3 : Int32) < (4 : Int32))).2.2.2 ?_
    refine o_aload X16 hx hby D0_99 rfl rfl ?_
    refine o_iconst X16 hx hby D0_101 (v := 3) rfl ?_
    refine o_iload X16 hx hby D0_102 rfl ?_
    refine own_pre (A' := T16.setTop (mkF m 105 #[.val (.int p0), .val (.int p1), .val (.int p2), .val (.int p3), .val (.int p4), .val (.int p5), .val (.int (4 : Int32)), .val (.int i0), .val (.int i1), .val (.int i2), .val (.int i3), .val (.int i4), .val (.ref b13), .unset, .unset] [(.double (FP.i2d i3)), (.int (3 : Int32)), (.ref b13)])) (fun t k => own_i2d X16.here hx rfl (hb hby D0_104.1) rfl k) ?_
    obtain ⟨cl_b13_17, Ar_b13_17, q_b13_17, S_b13_17, N_b13_17, H_b13_17, G_b13_17⟩ := id V_b13_16
    have hin_b13_17 : ¬ ((3 : Int32) < 0 ∨ cl_b13_17.slots.size ≤ ((3 : Int32)).toNatClampNeg) := inb_of S_b13_17 ⟨by decide, by decide⟩
    obtain ⟨T17, h17, X17, e17, W17, st17⟩ := own_stD X16 hx hZ e16 Ar_b13_17 (j := (3 : Int32)) hin_b13_17 (g := (mkF m 105 #[.val (.int p0), .val (.int p1), .val (.int p2), .val (.int p3), .val (.int p4), .val (.int p5), .val (.int (4 : Int32)), .val (.int i0), .val (.int i1), .val (.int i2), .val (.int i3), .val (.int i4), .val (.ref b13), .unset, .unset] [(.double (FP.i2d i3)), (.int (3 : Int32)), (.ref b13)])) rfl rfl (hb hby D0_105.1)
    have V_b13_17 : Arv Z h17 b13 k13 .double (4 : Int32) [(.double (FP.i2d i0)), (.double (FP.i2d i1)), (.double (FP.i2d i2)), (.double (FP.i2d i3))] (.double 0) := Arv.set Ar_b13_17 q_b13_17 S_b13_17 N_b13_17 H_b13_17 G_b13_17 rfl W17 3 rfl (Nat.le_of_ble_eq_true rfl)
    have sz17 := own_leN (Keep.of_wr W17).1
    have N17 := Fr.snoc X17 N16 gn_b13
    refine own_pre (A' := T17.setTop (mkF m 106 #[.val (.int p0), .val (.int p1), .val (.int p2), .val (.int p3), .val (.int p4), .val (.int p5), .val (.int (4 : Int32)), .val (.int i0), .val (.int i1), .val (.int i2), .val (.int i3), .val (.int i4), .val (.ref b13), .unset, .unset] [])) st17 ?_
    refine o_iload X17 hx hby D0_106 rfl ?_
    refine o_iconst X17 hx hby D0_108 (v := 4) rfl ?_
    refine o_icmpY X17 hx hby D0_109 (flt (by decide : ¬ ((4 : Int32) < (4 : Int32)))).2.2.2 (q := 119) (by decide) (by decide) ?_
    refine o_aload X17 hx hby D0_119 rfl rfl ?_
    obtain ⟨_, _, ⟨T18, L18, k18, n18⟩, -, X18, ⟨Lc18, hQ18, l18, y18, z18⟩, st18⟩ := Jvm.LawKit.callS X17 hx (y := (⟨"tallymark/cli/BenchFigures", "median", "([D)D"⟩ : MethodName)) hown (mvT hZ (own_wd hw (i := 3) rfl)) (mvT hZ (own_wd hw (i := 4) rfl)) (mvT hZ (own_wd hw (i := 5) rfl)) (mvT hZ (own_wd hw (i := 6) rfl)) (by decide) (backOf (W := 0) (rmM4 l Z a0 hw [] b13 k13 (FP.i2d i0) (FP.i2d i1) (FP.i2d i2) (FP.i2d i3) h17 n0 (own_leN (by omega)) V_b13_17 (own_dint (own_sum bi1 bi2)) (own_half (own_sum bi1 bi2)).1) hZ (own_wd hw (i := 6) rfl) (own_wd hw (i := 5) rfl) (by decide) (by decide)) (g := (mkF m 121 #[.val (.int p0), .val (.int p1), .val (.int p2), .val (.int p3), .val (.int p4), .val (.int p5), .val (.int (4 : Int32)), .val (.int i0), .val (.int i1), .val (.int i2), .val (.int i3), .val (.int i4), .val (.ref b13), .unset, .unset] [(.ref b13)])) rfl (by rw [hml]; rfl) (argsL := [(.ref b13)]) (rest := []) (lenOf pd__40_91D_41D rfl) rfl (by show 2 * 0 + _ ≤ _; exact Nat.le_of_eq rfl) (hb hby D0_121.1) (fun _ _ => ⟨rfl, e17, (by decide : 1 + 0 ≤ _), (by decide : 4 + 0 ≤ _)⟩)
    dsimp only [Pt.U, Pt.locs, Pt.cells, Pt.slots] at X18 l18 y18 z18 st18 hQ18
    subst l18 y18 z18
    obtain ⟨rfl, N18q, e18⟩ := hQ18
    have N18 := Fr.app N17 N18q
    refine own_pre (A' := T18.setTop (mkF m 124 #[.val (.int p0), .val (.int p1), .val (.int p2), .val (.int p3), .val (.int p4), .val (.int p5), .val (.int (4 : Int32)), .val (.int i0), .val (.int i1), .val (.int i2), .val (.int i3), .val (.int i4), .val (.ref b13), .unset, .unset] [(.double (FP.ddiv (FP.dadd (FP.i2d i1) (FP.i2d i2)) (4611686018427387904 : UInt64)))])) st18 ?_
    refine own_pre (A' := T18.setTop (mkF m 126 #[.val (.int p0), .val (.int p1), .val (.int p2), .val (.int p3), .val (.int p4), .val (.int p5), .val (.int (4 : Int32)), .val (.int i0), .val (.int i1), .val (.int i2), .val (.int i3), .val (.int i4), .val (.ref b13), .val (.double (FP.ddiv (FP.dadd (FP.i2d i1) (FP.i2d i2)) (4611686018427387904 : UInt64))), .second] [])) (fun t k => own_dstore X18.here hx rfl (hb hby D0_124.1) rfl (l' := #[.val (.int p0), .val (.int p1), .val (.int p2), .val (.int p3), .val (.int p4), .val (.int p5), .val (.int (4 : Int32)), .val (.int i0), .val (.int i1), .val (.int i2), .val (.int i3), .val (.int i4), .val (.ref b13), .val (.double (FP.ddiv (FP.dadd (FP.i2d i1) (FP.i2d i2)) (4611686018427387904 : UInt64))), .second]) rfl k) ?_
    refine o_iload X18 hx hby D0_126 rfl ?_
    refine o_iconst X18 hx hby D0_128 (v := 1) rfl ?_
    refine o_icmpY X18 hx hby D0_129 (feq (by decide : ¬ ((4 : Int32) = (1 : Int32)))).2 (q := 147) (by decide) (by decide) ?_
    refine o_iload X18 hx hby D0_147 rfl ?_
    refine o_iconst X18 hx hby D0_149 (v := 2) rfl ?_
    refine o_icmpY X18 hx hby D0_150 (feq (by decide : ¬ ((4 : Int32) = (2 : Int32)))).2 (q := 175) (by decide) (by decide) ?_
    refine o_iload X18 hx hby D0_175 rfl ?_
    refine o_iconst X18 hx hby D0_177 (v := 3) rfl ?_
    refine o_icmpY X18 hx hby D0_178 (feq (by decide : ¬ ((4 : Int32) = (3 : Int32)))).2 (q := 196) (by decide) (by decide) ?_
    refine o_iload X18 hx hby D0_196 rfl ?_
    refine o_iconst X18 hx hby D0_198 (v := 4) rfl ?_
    refine o_icmpN X18 hx hby D0_199 (teq (by decide : (4 : Int32) = (4 : Int32))).2 ?_
    refine own_pre (A' := T18.setTop (mkF m 205 #[.val (.int p0), .val (.int p1), .val (.int p2), .val (.int p3), .val (.int p4), .val (.int p5), .val (.int (4 : Int32)), .val (.int i0), .val (.int i1), .val (.int i2), .val (.int i3), .val (.int i4), .val (.ref b13), .val (.double (FP.ddiv (FP.dadd (FP.i2d i1) (FP.i2d i2)) (4611686018427387904 : UInt64))), .second] [(.double (4611686018427387904 : UInt64))])) (fun t k => X18.ldc2DoubleC hx hown (mvT hZ (own_wd hw (i := 8) rfl)) (g := (mkF m 202 #[.val (.int p0), .val (.int p1), .val (.int p2), .val (.int p3), .val (.int p4), .val (.int p5), .val (.int (4 : Int32)), .val (.int i0), .val (.int i1), .val (.int i2), .val (.int i3), .val (.int i4), .val (.ref b13), .val (.double (FP.ddiv (FP.dadd (FP.i2d i1) (FP.i2d i2)) (4611686018427387904 : UInt64))), .second] [])) rfl (hb hby D0_202.1) _ k) ?_
    refine own_pre (A' := T18.setTop (mkF m 207 #[.val (.int p0), .val (.int p1), .val (.int p2), .val (.int p3), .val (.int p4), .val (.int p5), .val (.int (4 : Int32)), .val (.int i0), .val (.int i1), .val (.int i2), .val (.int i3), .val (.int i4), .val (.ref b13), .val (.double (FP.ddiv (FP.dadd (FP.i2d i1) (FP.i2d i2)) (4611686018427387904 : UInt64))), .second] [(.double (FP.ddiv (FP.dadd (FP.i2d i1) (FP.i2d i2)) (4611686018427387904 : UInt64))), (.double (4611686018427387904 : UInt64))])) (fun t k => own_dload X18.here hx rfl (hb hby D0_205.1) rfl k) ?_
    refine own_pre (A' := T18.setTop (mkF m 208 #[.val (.int p0), .val (.int p1), .val (.int p2), .val (.int p3), .val (.int p4), .val (.int p5), .val (.int (4 : Int32)), .val (.int i0), .val (.int i1), .val (.int i2), .val (.int i3), .val (.int i4), .val (.ref b13), .val (.double (FP.ddiv (FP.dadd (FP.i2d i1) (FP.i2d i2)) (4611686018427387904 : UInt64))), .second] [(.double (FP.dmul (4611686018427387904 : UInt64) (FP.ddiv (FP.dadd (FP.i2d i1) (FP.i2d i2)) (4611686018427387904 : UInt64))))])) (fun t k => own_dmul X18.here hx rfl (hb hby D0_207.1) rfl (own_dint (own_half (own_sum bi1 bi2)).2) k) ?_
    refine o_iload X18 hx hby D0_208 rfl ?_
    refine o_iload X18 hx hby D0_210 rfl ?_
    refine o_iadd X18 hx hby D0_212 ?_
    refine own_pre (A' := T18.setTop (mkF m 214 #[.val (.int p0), .val (.int p1), .val (.int p2), .val (.int p3), .val (.int p4), .val (.int p5), .val (.int (4 : Int32)), .val (.int i0), .val (.int i1), .val (.int i2), .val (.int i3), .val (.int i4), .val (.ref b13), .val (.double (FP.ddiv (FP.dadd (FP.i2d i1) (FP.i2d i2)) (4611686018427387904 : UInt64))), .second] [(.double (FP.i2d (i1 + i2))), (.double (FP.dmul (4611686018427387904 : UInt64) (FP.ddiv (FP.dadd (FP.i2d i1) (FP.i2d i2)) (4611686018427387904 : UInt64))))])) (fun t k => own_i2d X18.here hx rfl (hb hby D0_213.1) rfl k) ?_
    refine own_pre (A' := T18.setTop (mkF m 215 #[.val (.int p0), .val (.int p1), .val (.int p2), .val (.int p3), .val (.int p4), .val (.int p5), .val (.int (4 : Int32)), .val (.int i0), .val (.int i1), .val (.int i2), .val (.int i3), .val (.int i4), .val (.ref b13), .val (.double (FP.ddiv (FP.dadd (FP.i2d i1) (FP.i2d i2)) (4611686018427387904 : UInt64))), .second] [(.int (cmpValue (FP.dcmp (FP.dmul (4611686018427387904 : UInt64) (FP.ddiv (FP.dadd (FP.i2d i1) (FP.i2d i2)) (4611686018427387904 : UInt64))) (FP.i2d (i1 + i2))) .l))])) (fun t k => own_dcmp X18.here hx rfl (hb hby D0_214.1) rfl k) ?_
    refine o_ifN X18 hx hby D0_215 ((if0 _ _).trans (teq (own_c2 bi1 bi2 : (cmpValue (FP.dcmp (FP.dmul (4611686018427387904 : UInt64) (FP.ddiv (FP.dadd (FP.i2d i1) (FP.i2d i2)) (4611686018427387904 : UInt64))) (FP.i2d (i1 + i2))) .l) = (0 : Int32))).2) ?_
    refine o_iconst X18 hx hby D0_218 (v := 1) rfl ?_
    refine o_goto X18 hx hby D0_219 (q := 223) (by decide) (by decide) ?_
    exact own_ret (v := some (.int (1 : Int32))) X18 (fun h => by first | rfl | (rw [Bd.returns] at h; cases h)) (BodyLoose.notSynchronized Bd) (by decide) (by decide) (⟨rfl, N18⟩) (fun fs hr => retN X18 hx (t := .boolean) Bd.returns (by simp) (hb hby D0_223.1) hr)
  · skip
    refine o_iload X0 hx hby D0_54 rfl ?_
    obtain ⟨T19, h19, k19, X19, e19, E19, A19, Ex19, st19⟩ := newPE X0 hx hZ (own_wd hw (i := 2) rfl) e0 (g := (mkF m 56 #[.val (.int p0), .val (.int p1), .val (.int p2), .val (.int p3), .val (.int p4), .val (.int p5), .val (.int (5 : Int32)), .val (.int i0), .val (.int i1), .val (.int i2), .val (.int i3), .val (.int i4), .unset, .unset, .unset] [(.int (5 : Int32))])) rfl (hb hby D0_56.1) rfl (by decide) (cap := 5) (by decide) (by decide) (by decide) (by decide) (ad := "[D") (by first | rfl | decide)
    obtain ⟨b19, g19⟩ : ∃ z : Nat, z = h0.size := ⟨_, rfl⟩
    rw [← g19] at A19 Ex19 st19
    have sz19 := own_leN E19.1
    have gn_b19 : n0 ≤ b19 := by omega
    have V_b19 : Arv Z h19 b19 k19 .double (5 : Int32) [(.double 0), (.double 0), (.double 0), (.double 0), (.double 0)] (.double 0) := (Arv.new A19 (by decide)).pad (pad_rep [] (.double 0) 5)
    have lt_b19 := own_ltN V_b19.lt
    refine own_pre (A' := T19.setTop (mkF m 58 #[.val (.int p0), .val (.int p1), .val (.int p2), .val (.int p3), .val (.int p4), .val (.int p5), .val (.int (5 : Int32)), .val (.int i0), .val (.int i1), .val (.int i2), .val (.int i3), .val (.int i4), .unset, .unset, .unset] [(.ref b19)])) st19 ?_
    refine o_astore X19 hx hby D0_58 rfl (l' := #[.val (.int p0), .val (.int p1), .val (.int p2), .val (.int p3), .val (.int p4), .val (.int p5), .val (.int (5 : Int32)), .val (.int i0), .val (.int i1), .val (.int i2), .val (.int i3), .val (.int i4), .val (.ref b19), .unset, .unset]) rfl ?_
    refine o_aload X19 hx hby D0_60 rfl rfl ?_
    refine o_iconst X19 hx hby D0_62 (v := 0) rfl ?_
    refine o_iload X19 hx hby D0_63 rfl ?_
    refine own_pre (A' := T19.setTop (mkF m 66 #[.val (.int p0), .val (.int p1), .val (.int p2), .val (.int p3), .val (.int p4), .val (.int p5), .val (.int (5 : Int32)), .val (.int i0), .val (.int i1), .val (.int i2), .val (.int i3), .val (.int i4), .val (.ref b19), .unset, .unset] [(.double (FP.i2d i0)), (.int (0 : Int32)), (.ref b19)])) (fun t k => own_i2d X19.here hx rfl (hb hby D0_65.1) rfl k) ?_
    obtain ⟨cl_b19_20, Ar_b19_20, q_b19_20, S_b19_20, N_b19_20, H_b19_20, G_b19_20⟩ := id V_b19
    have hin_b19_20 : ¬ ((0 : Int32) < 0 ∨ cl_b19_20.slots.size ≤ ((0 : Int32)).toNatClampNeg) := inb_of S_b19_20 ⟨by decide, by decide⟩
    obtain ⟨T20, h20, X20, e20, W20, st20⟩ := own_stD X19 hx hZ e19 Ar_b19_20 (j := (0 : Int32)) hin_b19_20 (g := (mkF m 66 #[.val (.int p0), .val (.int p1), .val (.int p2), .val (.int p3), .val (.int p4), .val (.int p5), .val (.int (5 : Int32)), .val (.int i0), .val (.int i1), .val (.int i2), .val (.int i3), .val (.int i4), .val (.ref b19), .unset, .unset] [(.double (FP.i2d i0)), (.int (0 : Int32)), (.ref b19)])) rfl rfl (hb hby D0_66.1)
    have V_b19_20 : Arv Z h20 b19 k19 .double (5 : Int32) [(.double (FP.i2d i0)), (.double 0), (.double 0), (.double 0), (.double 0)] (.double 0) := Arv.set Ar_b19_20 q_b19_20 S_b19_20 N_b19_20 H_b19_20 G_b19_20 rfl W20 0 rfl (Nat.le_of_ble_eq_true rfl)
    have sz20 := own_leN (Keep.of_wr W20).1
    have N20 := Fr.snoc X20 N0 gn_b19
    refine own_pre (A' := T20.setTop (mkF m 67 #[.val (.int p0), .val (.int p1), .val (.int p2), .val (.int p3), .val (.int p4), .val (.int p5), .val (.int (5 : Int32)), .val (.int i0), .val (.int i1), .val (.int i2), .val (.int i3), .val (.int i4), .val (.ref b19), .unset, .unset] [])) st20 ?_
    refine o_iload X20 hx hby D0_67 rfl ?_
    refine o_iconst X20 hx hby D0_69 (v := 1) rfl ?_
    refine o_icmpN X20 hx hby D0_70 (tlt (by decide : (1 : Int32) < (5 : Int32))).2.2.2 ?_
    refine o_aload X20 hx hby D0_73 rfl rfl ?_
    refine o_iconst X20 hx hby D0_75 (v := 1) rfl ?_
    refine o_iload X20 hx hby D0_76 rfl ?_
    refine own_pre (A' := T20.setTop (mkF m 79 #[.val (.int p0), .val (.int p1), .val (.int p2), .val (.int p3), .val (.int p4), .val (.int p5), .val (.int (5 : Int32)), .val (.int i0), .val (.int i1), .val (.int i2), .val (.int i3), .val (.int i4), .val (.ref b19), .unset, .unset] [(.double (FP.i2d i1)), (.int (1 : Int32)), (.ref b19)])) (fun t k => own_i2d X20.here hx rfl (hb hby D0_78.1) rfl k) ?_
    obtain ⟨cl_b19_21, Ar_b19_21, q_b19_21, S_b19_21, N_b19_21, H_b19_21, G_b19_21⟩ := id V_b19_20
    have hin_b19_21 : ¬ ((1 : Int32) < 0 ∨ cl_b19_21.slots.size ≤ ((1 : Int32)).toNatClampNeg) := inb_of S_b19_21 ⟨by decide, by decide⟩
    obtain ⟨T21, h21, X21, e21, W21, st21⟩ := own_stD X20 hx hZ e20 Ar_b19_21 (j := (1 : Int32)) hin_b19_21 (g := (mkF m 79 #[.val (.int p0), .val (.int p1), .val (.int p2), .val (.int p3), .val (.int p4), .val (.int p5), .val (.int (5 : Int32)), .val (.int i0), .val (.int i1), .val (.int i2), .val (.int i3), .val (.int i4), .val (.ref b19), .unset, .unset] [(.double (FP.i2d i1)), (.int (1 : Int32)), (.ref b19)])) rfl rfl (hb hby D0_79.1)
    have V_b19_21 : Arv Z h21 b19 k19 .double (5 : Int32) [(.double (FP.i2d i0)), (.double (FP.i2d i1)), (.double 0), (.double 0), (.double 0)] (.double 0) := Arv.set Ar_b19_21 q_b19_21 S_b19_21 N_b19_21 H_b19_21 G_b19_21 rfl W21 1 rfl (Nat.le_of_ble_eq_true rfl)
    have sz21 := own_leN (Keep.of_wr W21).1
    have N21 := Fr.snoc X21 N20 gn_b19
    refine own_pre (A' := T21.setTop (mkF m 80 #[.val (.int p0), .val (.int p1), .val (.int p2), .val (.int p3), .val (.int p4), .val (.int p5), .val (.int (5 : Int32)), .val (.int i0), .val (.int i1), .val (.int i2), .val (.int i3), .val (.int i4), .val (.ref b19), .unset, .unset] [])) st21 ?_
    refine o_iload X21 hx hby D0_80 rfl ?_
    refine o_iconst X21 hx hby D0_82 (v := 2) rfl ?_
    refine o_icmpN X21 hx hby D0_83 (tlt (by decide : (2 : Int32) < (5 : Int32))).2.2.2 ?_
    refine o_aload X21 hx hby D0_86 rfl rfl ?_
    refine o_iconst X21 hx hby D0_88 (v := 2) rfl ?_
    refine o_iload X21 hx hby D0_89 rfl ?_
    refine own_pre (A' := T21.setTop (mkF m 92 #[.val (.int p0), .val (.int p1), .val (.int p2), .val (.int p3), .val (.int p4), .val (.int p5), .val (.int (5 : Int32)), .val (.int i0), .val (.int i1), .val (.int i2), .val (.int i3), .val (.int i4), .val (.ref b19), .unset, .unset] [(.double (FP.i2d i2)), (.int (2 : Int32)), (.ref b19)])) (fun t k => own_i2d X21.here hx rfl (hb hby D0_91.1) rfl k) ?_
    obtain ⟨cl_b19_22, Ar_b19_22, q_b19_22, S_b19_22, N_b19_22, H_b19_22, G_b19_22⟩ := id V_b19_21
    have hin_b19_22 : ¬ ((2 : Int32) < 0 ∨ cl_b19_22.slots.size ≤ ((2 : Int32)).toNatClampNeg) := inb_of S_b19_22 ⟨by decide, by decide⟩
    obtain ⟨T22, h22, X22, e22, W22, st22⟩ := own_stD X21 hx hZ e21 Ar_b19_22 (j := (2 : Int32)) hin_b19_22 (g := (mkF m 92 #[.val (.int p0), .val (.int p1), .val (.int p2), .val (.int p3), .val (.int p4), .val (.int p5), .val (.int (5 : Int32)), .val (.int i0), .val (.int i1), .val (.int i2), .val (.int i3), .val (.int i4), .val (.ref b19), .unset, .unset] [(.double (FP.i2d i2)), (.int (2 : Int32)), (.ref b19)])) rfl rfl (hb hby D0_92.1)
    have V_b19_22 : Arv Z h22 b19 k19 .double (5 : Int32) [(.double (FP.i2d i0)), (.double (FP.i2d i1)), (.double (FP.i2d i2)), (.double 0), (.double 0)] (.double 0) := Arv.set Ar_b19_22 q_b19_22 S_b19_22 N_b19_22 H_b19_22 G_b19_22 rfl W22 2 rfl (Nat.le_of_ble_eq_true rfl)
    have sz22 := own_leN (Keep.of_wr W22).1
    have N22 := Fr.snoc X22 N21 gn_b19
    refine own_pre (A' := T22.setTop (mkF m 93 #[.val (.int p0), .val (.int p1), .val (.int p2), .val (.int p3), .val (.int p4), .val (.int p5), .val (.int (5 : Int32)), .val (.int i0), .val (.int i1), .val (.int i2), .val (.int i3), .val (.int i4), .val (.ref b19), .unset, .unset] [])) st22 ?_
    refine o_iload X22 hx hby D0_93 rfl ?_
    refine o_iconst X22 hx hby D0_95 (v := 3) rfl ?_
    refine o_icmpN X22 hx hby D0_96 (tlt (by decide : (3 : Int32) < (5 : Int32))).2.2.2 ?_
    refine o_aload X22 hx hby D0_99 rfl rfl ?_
    refine o_iconst X22 hx hby D0_101 (v := 3) rfl ?_
    refine o_iload X22 hx hby D0_102 rfl ?_
    refine own_pre (A' := T22.setTop (mkF m 105 #[.val (.int p0), .val (.int p1), .val (.int p2), .val (.int p3), .val (.int p4), .val (.int p5), .val (.int (5 : Int32)), .val (.int i0), .val (.int i1), .val (.int i2), .val (.int i3), .val (.int i4), .val (.ref b19), .unset, .unset] [(.double (FP.i2d i3)), (.int (3 : Int32)), (.ref b19)])) (fun t k => own_i2d X22.here hx rfl (hb hby D0_104.1) rfl k) ?_
    obtain ⟨cl_b19_23, Ar_b19_23, q_b19_23, S_b19_23, N_b19_23, H_b19_23, G_b19_23⟩ := id V_b19_22
    have hin_b19_23 : ¬ ((3 : Int32) < 0 ∨ cl_b19_23.slots.size ≤ ((3 : Int32)).toNatClampNeg) := inb_of S_b19_23 ⟨by decide, by decide⟩
    obtain ⟨T23, h23, X23, e23, W23, st23⟩ := own_stD X22 hx hZ e22 Ar_b19_23 (j := (3 : Int32)) hin_b19_23 (g := (mkF m 105 #[.val (.int p0), .val (.int p1), .val (.int p2), .val (.int p3), .val (.int p4), .val (.int p5), .val (.int (5 : Int32)), .val (.int i0), .val (.int i1), .val (.int i2), .val (.int i3), .val (.int i4), .val (.ref b19), .unset, .unset] [(.double (FP.i2d i3)), (.int (3 : Int32)), (.ref b19)])) rfl rfl (hb hby D0_105.1)
    have V_b19_23 : Arv Z h23 b19 k19 .double (5 : Int32) [(.double (FP.i2d i0)), (.double (FP.i2d i1)), (.double (FP.i2d i2)), (.double (FP.i2d i3)), (.double 0)] (.double 0) := Arv.set Ar_b19_23 q_b19_23 S_b19_23 N_b19_23 H_b19_23 G_b19_23 rfl W23 3 rfl (Nat.le_of_ble_eq_true rfl)
    have sz23 := own_leN (Keep.of_wr W23).1
    have N23 := Fr.snoc X23 N22 gn_b19
    refine own_pre (A' := T23.setTop (mkF m 106 #[.val (.int p0), .val (.int p1), .val (.int p2), .val (.int p3), .val (.int p4), .val (.int p5), .val (.int (5 : Int32)), .val (.int i0), .val (.int i1), .val (.int i2), .val (.int i3), .val (.int i4), .val (.ref b19), .unset, .unset] [])) st23 ?_
    refine o_iload X23 hx hby D0_106 rfl ?_
    refine o_iconst X23 hx hby D0_108 (v := 4) rfl ?_
    refine o_icmpN X23 hx hby D0_109 (tlt (by decide : (4 : Int32) < (5 : Int32))).2.2.2 ?_
    refine o_aload X23 hx hby D0_112 rfl rfl ?_
    refine o_iconst X23 hx hby D0_114 (v := 4) rfl ?_
    refine o_iload X23 hx hby D0_115 rfl ?_
    refine own_pre (A' := T23.setTop (mkF m 118 #[.val (.int p0), .val (.int p1), .val (.int p2), .val (.int p3), .val (.int p4), .val (.int p5), .val (.int (5 : Int32)), .val (.int i0), .val (.int i1), .val (.int i2), .val (.int i3), .val (.int i4), .val (.ref b19), .unset, .unset] [(.double (FP.i2d i4)), (.int (4 : Int32)), (.ref b19)])) (fun t k => own_i2d X23.here hx rfl (hb hby D0_117.1) rfl k) ?_
    obtain ⟨cl_b19_24, Ar_b19_24, q_b19_24, S_b19_24, N_b19_24, H_b19_24, G_b19_24⟩ := id V_b19_23
    have hin_b19_24 : ¬ ((4 : Int32) < 0 ∨ cl_b19_24.slots.size ≤ ((4 : Int32)).toNatClampNeg) := inb_of S_b19_24 ⟨by decide, by decide⟩
    obtain ⟨T24, h24, X24, e24, W24, st24⟩ := own_stD X23 hx hZ e23 Ar_b19_24 (j := (4 : Int32)) hin_b19_24 (g := (mkF m 118 #[.val (.int p0), .val (.int p1), .val (.int p2), .val (.int p3), .val (.int p4), .val (.int p5), .val (.int (5 : Int32)), .val (.int i0), .val (.int i1), .val (.int i2), .val (.int i3), .val (.int i4), .val (.ref b19), .unset, .unset] [(.double (FP.i2d i4)), (.int (4 : Int32)), (.ref b19)])) rfl rfl (hb hby D0_118.1)
    have V_b19_24 : Arv Z h24 b19 k19 .double (5 : Int32) [(.double (FP.i2d i0)), (.double (FP.i2d i1)), (.double (FP.i2d i2)), (.double (FP.i2d i3)), (.double (FP.i2d i4))] (.double 0) := Arv.set Ar_b19_24 q_b19_24 S_b19_24 N_b19_24 H_b19_24 G_b19_24 rfl W24 4 rfl (Nat.le_of_ble_eq_true rfl)
    have sz24 := own_leN (Keep.of_wr W24).1
    have N24 := Fr.snoc X24 N23 gn_b19
    refine own_pre (A' := T24.setTop (mkF m 119 #[.val (.int p0), .val (.int p1), .val (.int p2), .val (.int p3), .val (.int p4), .val (.int p5), .val (.int (5 : Int32)), .val (.int i0), .val (.int i1), .val (.int i2), .val (.int i3), .val (.int i4), .val (.ref b19), .unset, .unset] [])) st24 ?_
    refine o_aload X24 hx hby D0_119 rfl rfl ?_
    obtain ⟨_, _, ⟨T25, L25, k25, n25⟩, -, X25, ⟨Lc25, hQ25, l25, y25, z25⟩, st25⟩ := Jvm.LawKit.callS X24 hx (y := (⟨"tallymark/cli/BenchFigures", "median", "([D)D"⟩ : MethodName)) hown (mvT hZ (own_wd hw (i := 3) rfl)) (mvT hZ (own_wd hw (i := 4) rfl)) (mvT hZ (own_wd hw (i := 5) rfl)) (mvT hZ (own_wd hw (i := 6) rfl)) (by decide) (backOf (W := 0) (rmM5 l Z a0 hw [] b19 k19 (FP.i2d i0) (FP.i2d i1) (FP.i2d i2) (FP.i2d i3) (FP.i2d i4) h24 n0 (own_leN (by omega)) V_b19_24) hZ (own_wd hw (i := 6) rfl) (own_wd hw (i := 5) rfl) (by decide) (by decide)) (g := (mkF m 121 #[.val (.int p0), .val (.int p1), .val (.int p2), .val (.int p3), .val (.int p4), .val (.int p5), .val (.int (5 : Int32)), .val (.int i0), .val (.int i1), .val (.int i2), .val (.int i3), .val (.int i4), .val (.ref b19), .unset, .unset] [(.ref b19)])) rfl (by rw [hml]; rfl) (argsL := [(.ref b19)]) (rest := []) (lenOf pd__40_91D_41D rfl) rfl (by show 2 * 0 + _ ≤ _; exact Nat.le_of_eq rfl) (hb hby D0_121.1) (fun _ _ => ⟨rfl, e24, (by decide : 1 + 0 ≤ _), (by decide : 5 + 0 ≤ _)⟩)
    dsimp only [Pt.U, Pt.locs, Pt.cells, Pt.slots] at X25 l25 y25 z25 st25 hQ25
    subst l25 y25 z25
    obtain ⟨rfl, N25q, e25⟩ := hQ25
    have N25 := Fr.app N24 N25q
    refine own_pre (A' := T25.setTop (mkF m 124 #[.val (.int p0), .val (.int p1), .val (.int p2), .val (.int p3), .val (.int p4), .val (.int p5), .val (.int (5 : Int32)), .val (.int i0), .val (.int i1), .val (.int i2), .val (.int i3), .val (.int i4), .val (.ref b19), .unset, .unset] [(.double (FP.i2d i2))])) st25 ?_
    refine own_pre (A' := T25.setTop (mkF m 126 #[.val (.int p0), .val (.int p1), .val (.int p2), .val (.int p3), .val (.int p4), .val (.int p5), .val (.int (5 : Int32)), .val (.int i0), .val (.int i1), .val (.int i2), .val (.int i3), .val (.int i4), .val (.ref b19), .val (.double (FP.i2d i2)), .second] [])) (fun t k => own_dstore X25.here hx rfl (hb hby D0_124.1) rfl (l' := #[.val (.int p0), .val (.int p1), .val (.int p2), .val (.int p3), .val (.int p4), .val (.int p5), .val (.int (5 : Int32)), .val (.int i0), .val (.int i1), .val (.int i2), .val (.int i3), .val (.int i4), .val (.ref b19), .val (.double (FP.i2d i2)), .second]) rfl k) ?_
    refine o_iload X25 hx hby D0_126 rfl ?_
    refine o_iconst X25 hx hby D0_128 (v := 1) rfl ?_
    refine o_icmpY X25 hx hby D0_129 (feq (by decide : ¬ ((5 : Int32) = (1 : Int32)))).2 (q := 147) (by decide) (by decide) ?_
    refine o_iload X25 hx hby D0_147 rfl ?_
    refine o_iconst X25 hx hby D0_149 (v := 2) rfl ?_
    refine o_icmpY X25 hx hby D0_150 (feq (by decide : ¬ ((5 : Int32) = (2 : Int32)))).2 (q := 175) (by decide) (by decide) ?_
    refine o_iload X25 hx hby D0_175 rfl ?_
    refine o_iconst X25 hx hby D0_177 (v := 3) rfl ?_
    refine o_icmpY X25 hx hby D0_178 (feq (by decide : ¬ ((5 : Int32) = (3 : Int32)))).2 (q := 196) (by decide) (by decide) ?_
    refine o_iload X25 hx hby D0_196 rfl ?_
    refine o_iconst X25 hx hby D0_198 (v := 4) rfl ?_
    refine o_icmpY X25 hx hby D0_199 (feq (by decide : ¬ ((5 : Int32) = (4 : Int32)))).2 (q := 224) (by decide) (by decide) ?_
    refine own_pre (A' := T25.setTop (mkF m 226 #[.val (.int p0), .val (.int p1), .val (.int p2), .val (.int p3), .val (.int p4), .val (.int p5), .val (.int (5 : Int32)), .val (.int i0), .val (.int i1), .val (.int i2), .val (.int i3), .val (.int i4), .val (.ref b19), .val (.double (FP.i2d i2)), .second] [(.double (FP.i2d i2))])) (fun t k => own_dload X25.here hx rfl (hb hby D0_224.1) rfl k) ?_
    refine o_iload X25 hx hby D0_226 rfl ?_
    refine own_pre (A' := T25.setTop (mkF m 229 #[.val (.int p0), .val (.int p1), .val (.int p2), .val (.int p3), .val (.int p4), .val (.int p5), .val (.int (5 : Int32)), .val (.int i0), .val (.int i1), .val (.int i2), .val (.int i3), .val (.int i4), .val (.ref b19), .val (.double (FP.i2d i2)), .second] [(.double (FP.i2d i2)), (.double (FP.i2d i2))])) (fun t k => own_i2d X25.here hx rfl (hb hby D0_228.1) rfl k) ?_
    refine own_pre (A' := T25.setTop (mkF m 230 #[.val (.int p0), .val (.int p1), .val (.int p2), .val (.int p3), .val (.int p4), .val (.int p5), .val (.int (5 : Int32)), .val (.int i0), .val (.int i1), .val (.int i2), .val (.int i3), .val (.int i4), .val (.ref b19), .val (.double (FP.i2d i2)), .second] [(.int (cmpValue (FP.dcmp (FP.i2d i2) (FP.i2d i2)) .l))])) (fun t k => own_dcmp X25.here hx rfl (hb hby D0_229.1) rfl k) ?_
    refine o_ifN X25 hx hby D0_230 ((if0 _ _).trans (teq (own_c0 _ : (cmpValue (FP.dcmp (FP.i2d i2) (FP.i2d i2)) .l) = (0 : Int32))).2) ?_
    refine o_iconst X25 hx hby D0_233 (v := 1) rfl ?_
    refine o_goto X25 hx hby D0_234 (q := 238) (by decide) (by decide) ?_
    exact own_ret (v := some (.int (1 : Int32))) X25 (fun h => by first | rfl | (rw [Bd.returns] at h; cases h)) (BodyLoose.notSynchronized Bd) (by decide) (by decide) (⟨rfl, N25⟩) (fun fs hr => retN X25 hx (t := .boolean) Bd.returns (by simp) (hb hby D0_238.1) hr)
set_option maxRecDepth 65536 in
set_option maxHeartbeats 40000000 in
theorem comes_1 {Post : Tables → Env → Array Value → State → Outcome → State → Prop} (hpost : ∀ tb e args s v u, (limb_1_1.after args s (.returned v) u = true ∧ limb_1_2.after args s (.returned v) u = true ∧ True) → FrameEnd s (.returned v) u (Jvm.fieldLocs frame_1_writes args s ++ Jvm.arrayLocs frame_1_arrays args s ++ Jvm.staticLocs frame_1_statics s) 16 128 → Post tb e args s (.returned v) u) :
    ArmFor flags0 classFile x code maxLocals ret World_1 tables_1 room_1 Calls_1 rest_1 Pre_1 Post := by
  intro l hfl _ _ p e ha hc hk s m args below hf hA hF happ hP
  obtain ⟨hcalls, hrest, hpre⟩ := hP
  obtain ⟨-, -, -, hnamed, -, -, -, hat⟩ := (Spec.applies_iff hf).mp happ
  obtain ⟨hg, hn⟩ := and_e (Cond.before_iff.mp (show (Jvm.Cond.and given_1 narrow_1).before args s = true from hpre))
  obtain ⟨gc, gr0⟩ := and_e hg
  obtain ⟨ga0, gr1⟩ := and_e gr0
  obtain ⟨ga1, gr2⟩ := and_e gr1
  obtain ⟨ga2, gr3⟩ := and_e gr2
  obtain ⟨ga3, gr4⟩ := and_e gr3
  obtain ⟨ga4, gr5⟩ := and_e gr4
  obtain ⟨w0, w1, w2, w3, w4, w5, rfl⟩ : ∃ w0 w1 w2 w3 w4 w5 : Value, args = #[w0, w1, w2, w3, w4, w5] := by
    have hs : args.size = 6 := by simpa [Cond.value, given_1] using gc
    obtain ⟨L⟩ := args
    match L, hs with
    | [w0, w1, w2, w3, w4, w5], _ => exact ⟨w0, w1, w2, w3, w4, w5, rfl⟩
  have hw := fun d (hd : d ∈ tables_1) => atoms_spec (ws := Jvm.Cond.code x code maxLocals ret :: tables_1) hat d (List.mem_cons_of_mem _ hd)
  obtain ⟨i0, ei0⟩ := is_v ga0
  obtain rfl : w0 = (.int i0) := Option.some.inj ei0
  obtain ⟨i1, ei1⟩ := is_v ga1
  obtain rfl : w1 = (.int i1) := Option.some.inj ei1
  obtain ⟨i2, ei2⟩ := is_v ga2
  obtain rfl : w2 = (.int i2) := Option.some.inj ei2
  obtain ⟨i3, ei3⟩ := is_v ga3
  obtain rfl : w3 = (.int i3) := Option.some.inj ei3
  obtain ⟨i4, ei4⟩ := is_v ga4
  obtain rfl : w4 = (.int i4) := Option.some.inj ei4
  obtain ⟨i5, ei5⟩ := is_v gr5
  obtain rfl : w5 = (.int i5) := Option.some.inj ei5
  obtain ⟨n, o, h1, h2, h3, _, L, rfl, ⟨rfl, N⟩, hq⟩ := rm0 l s _ hw tables_1 i0 i1 i2 i3 i4 i5 s.heap s.heap.size (Nat.le_refl _)  p e ha hc hk s m _ below hf ((Spec.applies_iff_loose hf).mp happ).1 ⟨rfl, State.Warmed39.refl s, rfl⟩ trivial
  refine ⟨n, _, h1, h2, h3, hpost _ _ _ _ _ _ ⟨Cond.after_iff.mpr rfl, Cond.after_iff.mpr (eq_i res_at (Term.int_eval (1)) rfl), trivial⟩ ⟨hq.1, hq.2.1, (hq.2.2.sift fun y hy => Or.inr (N y hy)).mono (by decide) (by decide)⟩⟩
theorem main_1_1 : Claimed_1_1 := comes_1 fun _ _ _ _ _ _ h hF => ⟨h.1, hF⟩
theorem main_1_2 : Claimed_1_2 := comes_1 fun _ _ _ _ _ _ h hF => ⟨h.2.1, hF⟩
end Jvm.Pilot.@@N@@
namespace Jvm.Pilot.@@N@@
open Jvm Jvm.ClassFile Sem Op Lib Jvm.Free Jvm.Stand Jvm.Pilot.@@N@@.Jvm.D
/-! MADE BY PROGRAM (witnessworld.py) out of the Statement's table words and the real class files: 11 classes; the members and pool entries that the words name. The judged class is class 1, her method 1. -/
namespace start1
open Jvm.ClassFile
def u (s : String) : CpInfo := .utf8 (stringToUtf16 s)
/-- a pool by its gaps: so many unusable entries, then the entry; so many at the end -/
def gap : Nat → List CpInfo → List CpInfo
  | 0, r => r
  | n + 1, r => .unusable :: gap n r
def poolList (es : List (Nat × CpInfo)) (last : Nat) : List CpInfo := es.foldr (fun e r => gap e.1 (e.2 :: r)) (gap last [])
def pool (es : List (Nat × CpInfo)) (last : Nat) : Array CpInfo := ⟨poolList es last⟩
def fileOf (pool : Array CpInfo) (this : Nat) (attrs : Array Attribute := #[]) (ms : Array MethodInfo := #[]) (fl : Nat := 33) (sup : Nat := 0) (ifs : Array Nat := #[]) (fds : Array FieldInfo := #[]) : ClassFile where
  minorVersion := 0
  majorVersion := 65
  constantPool := pool
  accessFlags := fl
  thisClass := this
  superClass := sup
  interfaces := ifs
  fields := fds
  methods := ms
  attributes := attrs
def plain (name : String) (sup : Option ClassId) : Class where
  name := name
  kind := .ordinary
  loader := none
  accessFlags := 33
  super := sup
  interfaces := #[]
  cf := none
  fields := #[]
  methods := #[]
  instanceTypes := #[]
  staticTypes := #[]
  resolved := #[]
  callSites := []
  init := .initialized
  statics := none
  mirror := none

def pool0 : Array CpInfo := pool [(5, u "<init>"), (0, u "()V"), (1, .class_ 10), (1, u "java/lang/Object")] 113

def k0m0 : Method := { name := "<init>", desc := "()V", sig := { parameters := [], returnType := none }, accessFlags := 1, code := none }
/-- java/lang/Object -/
def k0 : Class := { plain "java/lang/Object" none with
  accessFlags := 33
  interfaces := #[]
  cf := some (fileOf pool0 8 #[] #[{ accessFlags := 1, nameIndex := 5, descriptorIndex := 6, attributes := #[] }] 33 0 #[] #[])
  fields := #[]
  methods := #[k0m0]
  instanceTypes := #[]
  staticTypes := #[]
  resolved := Array.replicate 124 none
  statics := none }

def pool1 : Array CpInfo := pool [(2, .class_ 4), (1, u "java/lang/Object"), (0, u "<init>"), (0, u "()V"), (0, .integer 100000), (0, .integer 65535), (0, .methodref 10 11), (0, .class_ 12), (0, .nameAndType 13 14), (0, u "tallymark/cli/BenchFigures"), (0, u "median"), (0, u "([D)D"), (0, .double 4611686018427387904), (1, .class_ 18), (0, u "tallymark/cli/BenchFiguresMedianPinLaw"), (2, u "law"), (0, u "(IIIIII)Z")] 5

def k1m0 : Method := { name := "<init>", desc := "()V", sig := { parameters := [], returnType := none }, accessFlags := 2, code := none }
def k1c1 : Code := { maxStack := 4, maxLocals := 15, code := code, exceptionTable := #[], attributes := #[] }
def k1m1 : Method := { name := "law", desc := "(IIIIII)Z", sig := { parameters := [.int, .int, .int, .int, .int, .int], returnType := some .boolean }, accessFlags := 9, code := some k1c1 }
/-- tallymark/cli/BenchFiguresMedianPinLaw -/
def k1 : Class := { plain "tallymark/cli/BenchFiguresMedianPinLaw" (some 0) with
  accessFlags := 49
  interfaces := #[]
  cf := some (fileOf pool1 17 #[] #[{ accessFlags := 2, nameIndex := 5, descriptorIndex := 6, attributes := #[] }, { accessFlags := 9, nameIndex := 21, descriptorIndex := 22, attributes := #[] }] 49 2 #[] #[])
  fields := #[]
  methods := #[k1m0, k1m1]
  instanceTypes := #[]
  staticTypes := #[]
  resolved := Array.replicate 28 none
  statics := none }

def pool2 : Array CpInfo := pool [(2, .class_ 4), (1, u "java/lang/Object"), (0, u "<init>"), (0, u "()V"), (0, .double 4611686018427387904), (25, .class_ 34), (0, u "tallymark/cli/BenchFigures"), (2, u "median"), (0, u "([D)D")] 5

def k2m0 : Method := { name := "<init>", desc := "()V", sig := { parameters := [], returnType := none }, accessFlags := 2, code := none }
def k2c1 : Code := { maxStack := 4, maxLocals := 2, code := prog_27_method_2_code, exceptionTable := #[], attributes := #[] }
def k2m1 : Method := { name := "median", desc := "([D)D", sig := { parameters := [(.array .double)], returnType := some .double }, accessFlags := 8, code := some k2c1 }
/-- tallymark/cli/BenchFigures -/
def k2 : Class := { plain "tallymark/cli/BenchFigures" (some 0) with
  accessFlags := 48
  interfaces := #[]
  cf := some (fileOf pool2 33 #[] #[{ accessFlags := 2, nameIndex := 5, descriptorIndex := 6, attributes := #[] }, { accessFlags := 8, nameIndex := 37, descriptorIndex := 38, attributes := #[] }] 48 2 #[] #[])
  fields := #[]
  methods := #[k2m0, k2m1]
  instanceTypes := #[]
  staticTypes := #[]
  resolved := Array.replicate 44 none
  statics := none }

def pool3 : Array CpInfo := pool [(1, u "java/lang/Cloneable"), (0, .class_ 1), (0, u "java/lang/Object"), (0, .class_ 3)] 3

/-- java/lang/Cloneable -/
def k3 : Class := { plain "java/lang/Cloneable" (some 0) with
  accessFlags := 1537
  interfaces := #[]
  cf := some (fileOf pool3 2 #[] #[] 1537 4 #[] #[])
  fields := #[]
  methods := #[]
  instanceTypes := #[]
  staticTypes := #[]
  resolved := Array.replicate 8 none
  statics := none }

def pool4 : Array CpInfo := pool [(1, u "java/io/Serializable"), (0, .class_ 1), (0, u "java/lang/Object"), (0, .class_ 3)] 3

/-- java/io/Serializable -/
def k4 : Class := { plain "java/io/Serializable" (some 0) with
  accessFlags := 1537
  interfaces := #[]
  cf := some (fileOf pool4 2 #[] #[] 1537 4 #[] #[])
  fields := #[]
  methods := #[]
  instanceTypes := #[]
  staticTypes := #[]
  resolved := Array.replicate 8 none
  statics := none }

/-- the primitive byte -/
def k5 : Class := { plain "byte" none with kind := .primitive 'B', accessFlags := 0x411 }
/-- [B -/
def k6 : Class := { plain "[B" (some 0) with kind := .array 5 .byte, interfaces := #[3, 4], accessFlags := 1041 }

/-- the primitive double -/
def k7 : Class := { plain "double" none with kind := .primitive 'D', accessFlags := 0x411 }
/-- [D -/
def k8 : Class := { plain "[D" (some 0) with kind := .array 7 .double, interfaces := #[3, 4], accessFlags := 1041 }

/-- the primitive int -/
def k9 : Class := { plain "int" none with kind := .primitive 'I', accessFlags := 0x411 }
/-- [I -/
def k10 : Class := { plain "[I" (some 0) with kind := .array 9 .int, interfaces := #[3, 4], accessFlags := 1041 }

def heap : Heap := #[]
def classes : Array Class := #[k0, k1, k2, k3, k4, k5, k6, k7, k8, k9, k10]
def interned : List (Array UInt16 × Addr) := []
def slotsUsed : Nat := 0
def theMethod : MethodId := ⟨1, 1⟩
def args0 : Array Value := #[.int 13, .int 6, .int 7, .int 8, .int 9, .int 10]
def aboutOver (below : List Frame) : State where
  vm := { classes := classes, interned := interned.toArray }
  heap := heap
  slotsUsed := slotsUsed
  threads := #[{ frames := .invoking theMethod args0 :: below }]
def below0 : List Frame := [.native { method := ⟨0, 0⟩, args := #[] }]
def about1 : State := aboutOver below0
def p0 : Program := .bare "" "" ""
def e0 : Env := launch0.env 0 0 0
theorem w_frames : about1.frames = Frame.invoking theMethod args0 :: below0 := rfl
set_option maxRecDepth 65536 in
theorem w_args : argsFit about1.vm theMethod args0 = true := by decide +kernel
set_option maxRecDepth 65536 in
theorem w_heap : heapFits about1 = true := by decide +kernel
set_option maxRecDepth 65536 in
theorem w_runnable : about1.curStatus? = some .runnable := by decide +kernel
set_option maxRecDepth 65536 in
theorem w_alone : about1.alone = true := by decide +kernel
set_option maxRecDepth 65536 in
theorem w_named : about1.methodNamed? x = some theMethod := by decide +kernel
set_option maxRecDepth 65536 in
theorem w_hears : about1.hears theMethod below0 = true := by decide +kernel
set_option maxRecDepth 65536 in
theorem w_ripe : about1.ripe theMethod args0 below0 = true := by decide +kernel
theorem w_running : about1.status = .running := rfl
set_option maxRecDepth 65536 in
theorem w_room : about1.hasRoom e0.platform room_1 = true :=
  launch0.hasRoom_least _ room_1 (by decide +kernel) (by decide +kernel) (by decide +kernel) (by decide +kernel) (by decide +kernel) (by decide +kernel)
theorem allAtoms_all (ts : List Jvm.Cond) (a : Array Jvm.Value) (st : Jvm.State) : (allAtoms ts).before a st = ts.all (fun c => c.before a st) := by
  induction ts with
  | nil => rfl
  | cons c t ih =>
    show (Jvm.Cond.and c (allAtoms t)).before a st = _
    rw [Jvm.Cond.before_and, ih, List.all_cons]
def words1 : List Jvm.Cond := Jvm.Cond.code x code maxLocals ret :: tables_1
/-- a 'code' word, met by the world's own term for the bytes: nothing is compared byte by byte -/
theorem code_word {y : MethodName} {bytes : ByteArray} {mx : Nat} {rt : Option FieldType} {a : Array Value} {s : State} {m : MethodId} {meth : Method} {c : Code} (h1 : s.methodNamed? y = some m) (h2 : s.vm.method? m = some meth) (h3 : meth.code = some c) (h4 : c.code = bytes)
    (h5 : (c.maxLocals == mx && c.exceptionTable.isEmpty && decide (c.maxStack ≤ mostOperands) && decide (meth.sig.returnType = rt) && !meth.locks && decide (parseMethodDescriptor y.desc = some meth.sig)) = true) : (Jvm.Cond.code y bytes mx rt).before a s = true := by
  simp only [Bool.and_eq_true, beq_iff_eq, Bool.not_eq_true', decide_eq_true_eq] at h5
  obtain ⟨⟨⟨⟨⟨g1, g2⟩, g3⟩, g4⟩, g5⟩, g6⟩ := h5
  simp [Cond.before, Cond.holds, Cond.value, h1, h2, h3, h4, g1, g2, g3, g4, g5, g6]
def isCode : Jvm.Cond → Bool
  | .code _ _ _ _ => true
  | _ => false
theorem all_split {L : List Jvm.Cond} {P : Jvm.Cond → Bool} (h1 : L.all (fun c => isCode c || P c) = true) (h2 : ∀ c ∈ L.filter isCode, P c = true) : L.all P = true := by
  refine List.all_eq_true.mpr fun c hc => ?_
  have h := List.all_eq_true.mp h1 c hc
  rcases Bool.eq_false_or_eq_true (isCode c) with hi | hi
  · exact h2 c (List.mem_filter.mpr ⟨hc, hi⟩)
  · simpa [hi] using h
set_option maxRecDepth 65536 in
theorem w_c0 : (Jvm.Cond.code x code maxLocals ret).before args0 about1 = true := code_word (m := ⟨1, 1⟩) (meth := k1m1) (c := k1c1) (by decide +kernel) rfl rfl rfl (by decide +kernel)
set_option maxRecDepth 65536 in
theorem w_c1 : (Jvm.Cond.code ({ cls := "tallymark/cli/BenchFigures", name := "median", desc := "([D)D" } : Jvm.MethodName) prog_27_method_2_code (2 : Nat) (Option.some Jvm.ClassFile.FieldType.double)).before args0 about1 = true := code_word (m := ⟨2, 1⟩) (meth := k2m1) (c := k2c1) (by decide +kernel) rfl rfl rfl (by decide +kernel)
def codes1 : List Jvm.Cond := [Jvm.Cond.code x code maxLocals ret, Jvm.Cond.code ({ cls := "tallymark/cli/BenchFigures", name := "median", desc := "([D)D" } : Jvm.MethodName) prog_27_method_2_code (2 : Nat) (Option.some Jvm.ClassFile.FieldType.double)]
set_option maxRecDepth 65536 in
theorem codes_eq : words1.filter isCode = codes1 := rfl
theorem w_codes : ∀ c ∈ words1.filter isCode, c.before args0 about1 = true := by
  rw [codes_eq]
  intro c hc
  simp only [codes1, List.mem_cons, List.not_mem_nil, or_false] at hc
  rcases hc with rfl | rfl
  · exact w_c0
  · exact w_c1
set_option maxRecDepth 65536 in
theorem w_t1 : words1.all (fun c => isCode c || c.before args0 about1) = true := by decide +kernel
theorem w_tables : (allAtoms (Jvm.Cond.code x code maxLocals ret :: tables_1)).before args0 about1 = true := by
  rw [allAtoms_all]
  show words1.all (fun c => c.before args0 about1) = true
  refine all_split ?_ w_codes
  rw [w_t1]
set_option maxRecDepth 65536 in
theorem w_case : (Jvm.Cond.and given_1 narrow_1).before args0 about1 = true := by decide +kernel
theorem w_applies : (headSpec (Jvm.Cond.code x code maxLocals ret :: tables_1) room_1).applies x e0.platform about1 = true :=
  (Spec.applies_iff w_frames).mpr ⟨w_running, w_runnable, w_alone, w_named, w_hears, w_ripe, w_room, w_tables⟩
theorem atStart : AtStart classFile x code maxLocals ret World_1 tables_1 room_1 Calls_1 rest_1 Pre_1 launch0 p0 e0 about1 theMethod args0 below0 :=
  ⟨lists_1, trivial, launch0.admits_env _ _ _, launch0.least_env, fairChoices_fair.cas, fairChoices_fair.clock, w_frames, w_args, w_heap, w_applies, trivial, trivial, w_case⟩
end start1
theorem witness_1 : WitnessClaimed_1 := ⟨start1.p0, start1.e0, start1.about1, start1.theMethod, start1.args0, start1.below0, start1.atStart⟩
end Jvm.Pilot.@@N@@
