import JvmDerived
import JvmDerived.Pilot.@@N@@Statement
import JvmDerived.Pilot.@@N@@Code
set_option linter.unusedVariables false
set_option linter.unusedSimpArgs false
namespace Jvm.Pilot.@@N@@
open Jvm Jvm.ClassFile Sem Op Lib Jvm.Free Jvm.Stand Jvm.LawKit Jvm.RoadKit Bundle Jvm.Pilot.@@N@@.Jvm.D

section OwnKit
/-- from here the run comes to a return that says Q -/
abbrev ON (n0 : Nat) (s : State) (Q : Option Value → Heap → Prop) (ck sk : Nat) : Option Value → State → List Loc → Prop := fun v s₂ L => (Fr n0 L ∧ n0 ≤ s₂.heap.size ∧ Q v s₂.heap) ∧ FrameEnd s (.returned v) s₂ L ck sk
abbrev OW (n0 : Nat) (s : State) (Q : Option Value → Heap → Vm → Prop) (ck sk : Nat) : Option Value → State → List Loc → Prop := fun v s₂ L => (Fr n0 L ∧ n0 ≤ s₂.heap.size ∧ Q v s₂.heap s₂.vm) ∧ ReturnedEndW s (.returned v) s₂ L ck sk
/-- from here the run comes to a return that says E -/
def OFin (p : Program) (e : Env) (below : List Frame) (E : Option Value → State → List Loc → Prop) (T : State) (g : JFrame) : Prop :=
  ∃ s₂ o, Steps p.tables e below (T.setTop g) s₂ ∧ s₂.status = .running ∧ Ended s₂ below o ∧ ∃ v L, o = .returned v ∧ E v s₂ L
/-- where the walk of a body stands, with all that is known of the body -/
def OG (l : Launch) (Z : State) (y : MethodName) (bytes : ByteArray) (maxl : Nat) (ret : Option FieldType) (n0 : Nat) (p : Program) (e : Env) (R : Room) (s : State) (m : MethodId) (args : Array Value) (below : List Frame) (meth : Method) (c : Code) (T : State) (h : Heap) (cells slots : Nat) : Prop :=
  p.tables.exec = Jvm.exec ∧ c.code = bytes ∧ c.maxLocals = maxl ∧ s.vm.findClass y.cls = some m.cls ∧ meth.name = y.name ∧ meth.sig.returnType = ret ∧ meth.locks = false ∧ Z.Warmed39 s.vm ∧ T.heap = h ∧ n0 ≤ h.size ∧ ∃ locs, Stand p l e R s m args below meth c T locs cells slots ∧ Fr n0 locs
/-- a body's contract -/
def OMet (l : Launch) (Z : State) (y : MethodName) (bytes : ByteArray) (maxl : Nat) (ret : Option FieldType) (rm : Room) (as' : Array Value) (h0 : Heap) (n0 : Nat) (ck sk : Nat) (Q : Option Value → Heap → Prop) : Prop :=
  ∀ ws : List Jvm.Cond, MetFree l y (head1 (Jvm.Cond.code y bytes maxl ret :: ws) rm) (fun a U => a = as' ∧ Z.Warmed39 U.vm ∧ U.heap = h0) (fun _ _ _ _ _ => True) (fun _ U o U' => ∃ v L, o = .returned v ∧ (Fr n0 L ∧ n0 ≤ U'.heap.size ∧ Q v U'.heap) ∧ FrameEnd U o U' L ck sk)
variable {l : Launch} {Z : State} {y : MethodName} {bytes : ByteArray} {maxl : Nat} {ret : Option FieldType} {n0 : Nat} {p : Program} {e : Env} {R : Room} {s : State} {m : MethodId} {args : Array Value} {below : List Frame} {meth : Method} {c : Code} {T : State} {h : Heap} {cells slots ck sk : Nat} {Q : Option Value → Heap → Prop} {EE : Option Value → State → List Loc → Prop} {pc pc' : Nat} {Ls : Array Slot} {rest : List Value} {a0 : Array Value}
theorem o_step {T' : State} {g g' : JFrame} (st : ∀ t, Steps p.tables e below (T'.setTop g') t → Steps p.tables e below (T.setTop g) t) (k : OFin p e below EE T' g') : OFin p e below EE T g := by
  obtain ⟨s₂, o, h1, r⟩ := k
  exact ⟨s₂, o, st _ h1, r⟩
theorem o_body {rm : Room} {as' : Array Value} {h0 : Heap} (hy : plainFor y = true) (hz : n0 ≤ h0.size) (hent : ∀ m, entryFrame m as' maxl = mkF m 0 Ls [])
    (body : ∀ (p : Program) (e : Env) (s : State) (m : MethodId) (below : List Frame) (meth : Method) (c : Code) (s₁ : State), OG l Z y bytes maxl ret n0 p e rm s m as' below meth c s₁ h0 0 0 → OFin p e below (ON n0 s Q ck sk) s₁ (mkF m 0 Ls [])) : OMet l Z y bytes maxl ret rm as' h0 n0 ck sk Q := by
  intro ws
  refine MetFree.of_bodySF hy hisR ?_
  intro p e s m args below meth c s₁ Bd hml0 hP hK
  obtain ⟨ha, hZ, hh⟩ := hP
  subst ha
  have e0 : s₁.heap = h0 := by rw [← hh, Bd.state]; rfl
  have k := body p e s m below meth c s₁ ⟨Bd.exec, Bd.bytes, hml0, findClass_of_methodNamed Bd.named, (name_of_methodNamed Bd.named Bd.method).1, Bd.returns, Bd.notSynchronized, hZ, e0, hz, [], Stand.of_body Bd, Fr.nil n0⟩
  rw [← hent m] at k
  obtain ⟨s₂, o, h1, h2, h3, v, L, rfl, hq, hf⟩ := k
  exact ⟨s₂, _, h1, h2, h3, v, L, rfl, hq, hf⟩
theorem OG.sz (G : OG l Z y bytes maxl ret n0 p e R s m args below meth c T h cells slots) : n0 ≤ h.size := G.2.2.2.2.2.2.2.2.2.1
theorem OG.eh (G : OG l Z y bytes maxl ret n0 p e R s m args below meth c T h cells slots) : T.heap = h := G.2.2.2.2.2.2.2.2.1
theorem OG.wm (G : OG l Z y bytes maxl ret n0 p e R s m args below meth c T h cells slots) : Z.Warmed39 s.vm := G.2.2.2.2.2.2.2.1
theorem o_iloadN (G : OG l Z y bytes maxl ret n0 p e R s m args below meth c T h cells slots) {k0 : Fin 4} {v : Int32} (hd : decode bytes pc = .ok (.iload_n k0, 1)) (hp : pc + 1 = pc') (hl : Ls[k0.val]? = some (.val (.int v))) (k : OFin p e below EE T (mkF m pc' Ls (.int v :: rest))) : OFin p e below EE T (mkF m pc Ls rest) := by
  subst hp
  obtain ⟨hx, hby, -, -, -, -, -, -, -, -, locs, X, -⟩ := G
  exact o_step (fun _ hr => XS.iloadN X.here hx rfl (hb hby hd) hl hr) k
theorem o_iload (G : OG l Z y bytes maxl ret n0 p e R s m args below meth c T h cells slots) {k0 : Nat} {v : Int32} (hd : decode bytes pc = .ok (.iload k0, 2)) (hp : pc + 2 = pc') (hl : Ls[k0]? = some (.val (.int v))) (k : OFin p e below EE T (mkF m pc' Ls (.int v :: rest))) : OFin p e below EE T (mkF m pc Ls rest) := by
  subst hp
  obtain ⟨hx, hby, -, -, -, -, -, -, -, -, locs, X, -⟩ := G
  exact o_step (fun _ hr => XS.iload X.here hx rfl (hb hby hd) hl hr) k
theorem o_aloadN (G : OG l Z y bytes maxl ret n0 p e R s m args below meth c T h cells slots) {k0 : Fin 4} {v : Value} (hd : decode bytes pc = .ok (.aload_n k0, 1)) (hp : pc + 1 = pc') (hl : Ls[k0.val]? = some (.val v)) (hv : v.isRef = true) (k : OFin p e below EE T (mkF m pc' Ls (v :: rest))) : OFin p e below EE T (mkF m pc Ls rest) := by
  subst hp
  obtain ⟨hx, hby, -, -, -, -, -, -, -, -, locs, X, -⟩ := G
  exact o_step (fun _ hr => XS.aloadN X.here hx rfl (hb hby hd) hl hv hr) k
theorem o_aload (G : OG l Z y bytes maxl ret n0 p e R s m args below meth c T h cells slots) {k0 : Nat} {v : Value} (hd : decode bytes pc = .ok (.aload k0, 2)) (hp : pc + 2 = pc') (hl : Ls[k0]? = some (.val v)) (hv : v.isRef = true) (k : OFin p e below EE T (mkF m pc' Ls (v :: rest))) : OFin p e below EE T (mkF m pc Ls rest) := by
  subst hp
  obtain ⟨hx, hby, -, -, -, -, -, -, -, -, locs, X, -⟩ := G
  exact o_step (fun _ hr => XS.aload X.here hx rfl (hb hby hd) hl hv hr) k
theorem o_istoreN (G : OG l Z y bytes maxl ret n0 p e R s m args below meth c T h cells slots) {k0 : Fin 4} {v : Int32} {l' : Array Slot} (hd : decode bytes pc = .ok (.istore_n k0, 1)) (hp : pc + 1 = pc') (hl : storeLocals Ls k0.val (.int v) = some l') (k : OFin p e below EE T (mkF m pc' l' rest)) : OFin p e below EE T (mkF m pc Ls (.int v :: rest)) := by
  subst hp
  obtain ⟨hx, hby, -, -, -, -, -, -, -, -, locs, X, -⟩ := G
  exact o_step (fun _ hr => XS.istoreN X.here hx rfl (hb hby hd) rfl hl hr) k
theorem o_istore (G : OG l Z y bytes maxl ret n0 p e R s m args below meth c T h cells slots) {k0 : Nat} {v : Int32} {l' : Array Slot} (hd : decode bytes pc = .ok (.istore k0, 2)) (hp : pc + 2 = pc') (hl : storeLocals Ls k0 (.int v) = some l') (k : OFin p e below EE T (mkF m pc' l' rest)) : OFin p e below EE T (mkF m pc Ls (.int v :: rest)) := by
  subst hp
  obtain ⟨hx, hby, -, -, -, -, -, -, -, -, locs, X, -⟩ := G
  exact o_step (fun _ hr => XS.istore X.here hx rfl (hb hby hd) rfl hl hr) k
theorem o_astoreN (G : OG l Z y bytes maxl ret n0 p e R s m args below meth c T h cells slots) {k0 : Fin 4} {v : Value} {l' : Array Slot} (hd : decode bytes pc = .ok (.astore_n k0, 1)) (hp : pc + 1 = pc') (hv : v.isRef = true) (hl : storeLocals Ls k0.val v = some l') (k : OFin p e below EE T (mkF m pc' l' rest)) : OFin p e below EE T (mkF m pc Ls (v :: rest)) := by
  subst hp
  obtain ⟨hx, hby, -, -, -, -, -, -, -, -, locs, X, -⟩ := G
  exact o_step (fun _ hr => XS.astoreN X.here hx rfl (hb hby hd) rfl hv hl hr) k
theorem o_astore (G : OG l Z y bytes maxl ret n0 p e R s m args below meth c T h cells slots) {k0 : Nat} {v : Value} {l' : Array Slot} (hd : decode bytes pc = .ok (.astore k0, 2)) (hp : pc + 2 = pc') (hv : v.isRef = true) (hl : storeLocals Ls k0 v = some l') (k : OFin p e below EE T (mkF m pc' l' rest)) : OFin p e below EE T (mkF m pc Ls (v :: rest)) := by
  subst hp
  obtain ⟨hx, hby, -, -, -, -, -, -, -, -, locs, X, -⟩ := G
  exact o_step (fun _ hr => XS.astore X.here hx rfl (hb hby hd) rfl hv hl hr) k
theorem o_iconst (G : OG l Z y bytes maxl ret n0 p e R s m args below meth c T h cells slots) {i : Int} {v : Int32} (hd : decode bytes pc = .ok (.iconst i, 1)) (hp : pc + 1 = pc') (hv : Int32.ofInt i = v) (k : OFin p e below EE T (mkF m pc' Ls (.int v :: rest))) : OFin p e below EE T (mkF m pc Ls rest) := by
  subst hp
  subst hv
  obtain ⟨hx, hby, -, -, -, -, -, -, -, -, locs, X, -⟩ := G
  exact o_step (fun _ hr => XS.iconst X.here hx rfl (hb hby hd) hr) k
theorem o_bipush (G : OG l Z y bytes maxl ret n0 p e R s m args below meth c T h cells slots) {i : Int} {v : Int32} (hd : decode bytes pc = .ok (.bipush i, 2)) (hp : pc + 2 = pc') (hv : (Int8.ofInt i).toInt32 = v) (k : OFin p e below EE T (mkF m pc' Ls (.int v :: rest))) : OFin p e below EE T (mkF m pc Ls rest) := by
  subst hp
  subst hv
  obtain ⟨hx, hby, -, -, -, -, -, -, -, -, locs, X, -⟩ := G
  exact o_step (fun _ hr => XS.bipush X.here hx rfl (hb hby hd) hr) k
theorem o_sipush (G : OG l Z y bytes maxl ret n0 p e R s m args below meth c T h cells slots) {i : Int} {v : Int32} (hd : decode bytes pc = .ok (.sipush i, 3)) (hp : pc + 3 = pc') (hv : (Int16.ofInt i).toInt32 = v) (k : OFin p e below EE T (mkF m pc' Ls (.int v :: rest))) : OFin p e below EE T (mkF m pc Ls rest) := by
  subst hp
  subst hv
  obtain ⟨hx, hby, -, -, -, -, -, -, -, -, locs, X, -⟩ := G
  exact o_step (fun _ hr => XS.sipush X.here hx rfl (hb hby hd) hr) k
theorem o_aconst_null (G : OG l Z y bytes maxl ret n0 p e R s m args below meth c T h cells slots)  (hd : decode bytes pc = .ok (.aconst_null, 1)) (hp : pc + 1 = pc')  (k : OFin p e below EE T (mkF m pc' Ls (.null :: rest))) : OFin p e below EE T (mkF m pc Ls rest) := by
  subst hp
  obtain ⟨hx, hby, -, -, -, -, -, -, -, -, locs, X, -⟩ := G
  exact o_step (fun _ hr => XS.aconstNull X.here hx rfl (hb hby hd) hr) k
theorem o_iadd (G : OG l Z y bytes maxl ret n0 p e R s m args below meth c T h cells slots) {u w v : Int32} (hd : decode bytes pc = .ok (.iadd, 1)) (hp : pc + 1 = pc') (hv : u + w = v) (k : OFin p e below EE T (mkF m pc' Ls (.int v :: rest))) : OFin p e below EE T (mkF m pc Ls (.int w :: .int u :: rest)) := by
  subst hp
  subst hv
  obtain ⟨hx, hby, -, -, -, -, -, -, -, -, locs, X, -⟩ := G
  exact o_step (fun _ hr => XS.iadd X.here hx rfl (hb hby hd) rfl hr) k
theorem o_isub (G : OG l Z y bytes maxl ret n0 p e R s m args below meth c T h cells slots) {u w v : Int32} (hd : decode bytes pc = .ok (.isub, 1)) (hp : pc + 1 = pc') (hv : u - w = v) (k : OFin p e below EE T (mkF m pc' Ls (.int v :: rest))) : OFin p e below EE T (mkF m pc Ls (.int w :: .int u :: rest)) := by
  subst hp
  subst hv
  obtain ⟨hx, hby, -, -, -, -, -, -, -, -, locs, X, -⟩ := G
  exact o_step (fun _ hr => XS.isub X.here hx rfl (hb hby hd) rfl hr) k
theorem o_iand (G : OG l Z y bytes maxl ret n0 p e R s m args below meth c T h cells slots) {u w v : Int32} (hd : decode bytes pc = .ok (.iand, 1)) (hp : pc + 1 = pc') (hv : u &&& w = v) (k : OFin p e below EE T (mkF m pc' Ls (.int v :: rest))) : OFin p e below EE T (mkF m pc Ls (.int w :: .int u :: rest)) := by
  subst hp
  subst hv
  obtain ⟨hx, hby, -, -, -, -, -, -, -, -, locs, X, -⟩ := G
  exact o_step (fun _ hr => XS.iand X.here hx rfl (hb hby hd) rfl hr) k
theorem o_ishl (G : OG l Z y bytes maxl ret n0 p e R s m args below meth c T h cells slots) {u v : Int32} {w : Int32} (hd : decode bytes pc = .ok (.ishl, 1)) (hp : pc + 1 = pc') (hv : u <<< (w &&& 31) = v) (k : OFin p e below EE T (mkF m pc' Ls (.int v :: rest))) : OFin p e below EE T (mkF m pc Ls (.int w :: .int u :: rest)) := by
  subst hp
  subst hv
  obtain ⟨hx, hby, -, -, -, -, -, -, -, -, locs, X, -⟩ := G
  exact o_step (fun _ hr => XS.ishl X.here hx rfl (hb hby hd) rfl hr) k
theorem o_ishr (G : OG l Z y bytes maxl ret n0 p e R s m args below meth c T h cells slots) {u v : Int32} {w : Int32} (hd : decode bytes pc = .ok (.ishr, 1)) (hp : pc + 1 = pc') (hv : u >>> (w &&& 31) = v) (k : OFin p e below EE T (mkF m pc' Ls (.int v :: rest))) : OFin p e below EE T (mkF m pc Ls (.int w :: .int u :: rest)) := by
  subst hp
  subst hv
  obtain ⟨hx, hby, -, -, -, -, -, -, -, -, locs, X, -⟩ := G
  exact o_step (fun _ hr => XS.ishr X.here hx rfl (hb hby hd) rfl hr) k
theorem o_iushr (G : OG l Z y bytes maxl ret n0 p e R s m args below meth c T h cells slots) {u v : Int32} {w : Int32} (hd : decode bytes pc = .ok (.iushr, 1)) (hp : pc + 1 = pc') (hv : (u.toUInt32 >>> (w &&& 31).toUInt32).toInt32 = v) (k : OFin p e below EE T (mkF m pc' Ls (.int v :: rest))) : OFin p e below EE T (mkF m pc Ls (.int w :: .int u :: rest)) := by
  subst hp
  subst hv
  obtain ⟨hx, hby, -, -, -, -, -, -, -, -, locs, X, -⟩ := G
  exact o_step (fun _ hr => XS.iushr X.here hx rfl (hb hby hd) rfl hr) k
theorem o_i2b (G : OG l Z y bytes maxl ret n0 p e R s m args below meth c T h cells slots) {u : Int32} {v : Int32} (hd : decode bytes pc = .ok (.i2b, 1)) (hp : pc + 1 = pc') (hv : u.toInt8.toInt32 = v) (k : OFin p e below EE T (mkF m pc' Ls (.int v :: rest))) : OFin p e below EE T (mkF m pc Ls (.int u :: rest)) := by
  subst hp
  subst hv
  obtain ⟨hx, hby, -, -, -, -, -, -, -, -, locs, X, -⟩ := G
  exact o_step (fun _ hr => XS.i2b X.here hx rfl (hb hby hd) rfl hr) k
theorem o_i2c (G : OG l Z y bytes maxl ret n0 p e R s m args below meth c T h cells slots) {u : Int32} {v : Int32} (hd : decode bytes pc = .ok (.i2c, 1)) (hp : pc + 1 = pc') (hv : u.toUInt32.toUInt16.toUInt32.toInt32 = v) (k : OFin p e below EE T (mkF m pc' Ls (.int v :: rest))) : OFin p e below EE T (mkF m pc Ls (.int u :: rest)) := by
  subst hp
  subst hv
  obtain ⟨hx, hby, -, -, -, -, -, -, -, -, locs, X, -⟩ := G
  exact o_step (fun _ hr => XS.i2c X.here hx rfl (hb hby hd) rfl hr) k
theorem o_dup (G : OG l Z y bytes maxl ret n0 p e R s m args below meth c T h cells slots) {v : Value} (hd : decode bytes pc = .ok (.dup, 1)) (hp : pc + 1 = pc') (hc : v.category = 1) (k : OFin p e below EE T (mkF m pc' Ls (v :: v :: rest))) : OFin p e below EE T (mkF m pc Ls (v :: rest)) := by
  subst hp
  obtain ⟨hx, hby, -, -, -, -, -, -, -, -, locs, X, -⟩ := G
  exact o_step (fun _ hr => XS.dup X.here hx rfl (hb hby hd) rfl hc hr) k
theorem o_pop (G : OG l Z y bytes maxl ret n0 p e R s m args below meth c T h cells slots) {v : Value} (hd : decode bytes pc = .ok (.pop, 1)) (hp : pc + 1 = pc') (hc : v.category = 1) (k : OFin p e below EE T (mkF m pc' Ls rest)) : OFin p e below EE T (mkF m pc Ls (v :: rest)) := by
  subst hp
  obtain ⟨hx, hby, -, -, -, -, -, -, -, -, locs, X, -⟩ := G
  exact o_step (fun _ hr => XS.pop X.here hx rfl (hb hby hd) rfl hc hr) k
theorem o_iinc (G : OG l Z y bytes maxl ret n0 p e R s m args below meth c T h cells slots) {k0 : Nat} {cst : Int} {u w v : Int32} {l' : Array Slot} (hd : decode bytes pc = .ok (.iinc k0 cst, 3)) (hp : pc + 3 = pc') (hl : Ls[k0]? = some (.val (.int u))) (hc : Int32.ofInt cst = w) (hv : u + w = v) (hl' : storeLocals Ls k0 (.int v) = some l') (k : OFin p e below EE T (mkF m pc' l' rest)) : OFin p e below EE T (mkF m pc Ls rest) := by
  subst hp
  subst hc
  subst hv
  obtain ⟨hx, hby, -, -, -, -, -, -, -, -, locs, X, -⟩ := G
  exact o_step (fun _ hr => XS.iinc X.here hx rfl (hb hby hd) hl hl' hr) k
theorem o_goto (G : OG l Z y bytes maxl ret n0 p e R s m args below meth c T h cells slots) {o : Int} (hd : decode bytes pc = .ok (.goto o, 3)) (ho : 0 ≤ (pc : Int) + o) (hp : ((pc : Int) + o).toNat = pc') (k : OFin p e below EE T (mkF m pc' Ls rest)) : OFin p e below EE T (mkF m pc Ls rest) := by
  obtain ⟨hx, hby, -, -, -, -, -, -, -, -, locs, X, -⟩ := G
  exact o_step (fun _ hr => XS.goto X.here hx rfl (pc0 := pc) (pc' := pc') rfl (hb hby hd) ho hp hr) k
theorem o_icmp_lt (G : OG l Z y bytes maxl ret n0 p e R s m args below meth c T h cells slots) {o : Int} {pcT : Nat} {u w : Int32} (hd : decode bytes pc = .ok (.if_icmp .lt o, 3)) (ho : 0 ≤ (pc : Int) + o) (hpT : ((pc : Int) + o).toNat = pcT) (hp : pc + 3 = pc') (kT : u < w → OFin p e below EE T (mkF m pcT Ls rest)) (kF : ¬ u < w → OFin p e below EE T (mkF m pc' Ls rest)) : OFin p e below EE T (mkF m pc Ls (.int w :: .int u :: rest)) := by
  subst hp
  obtain ⟨hx, hby, -, -, -, -, -, -, -, -, locs, X, -⟩ := G
  by_cases q : u < w
  · exact o_step (fun _ hr => XS.icmpYes X.here hx rfl (pc0 := pc) (pc' := pcT) rfl (hb hby hd) rfl (tlt q).1 ho hpT hr) (kT q)
  · exact o_step (fun _ hr => XS.icmpNo X.here hx rfl (hb hby hd) rfl (flt q).1 hr) (kF q)
theorem o_if_lt (G : OG l Z y bytes maxl ret n0 p e R s m args below meth c T h cells slots) {o : Int} {pcT : Nat} {u : Int32} (hd : decode bytes pc = .ok (.ifCond .lt o, 3)) (ho : 0 ≤ (pc : Int) + o) (hpT : ((pc : Int) + o).toNat = pcT) (hp : pc + 3 = pc') (kT : u < (0 : Int32) → OFin p e below EE T (mkF m pcT Ls rest)) (kF : ¬ u < (0 : Int32) → OFin p e below EE T (mkF m pc' Ls rest)) : OFin p e below EE T (mkF m pc Ls (.int u :: rest)) := by
  subst hp
  obtain ⟨hx, hby, -, -, -, -, -, -, -, -, locs, X, -⟩ := G
  by_cases q : u < (0 : Int32)
  · exact o_step (fun _ hr => XS.ifYes X.here hx rfl (pc0 := pc) (pc' := pcT) rfl (hb hby hd) rfl ((if0 _ _).trans (tlt q).1) ho hpT hr) (kT q)
  · exact o_step (fun _ hr => XS.ifNo X.here hx rfl (hb hby hd) rfl ((if0 _ _).trans (flt q).1) hr) (kF q)
theorem o_icmp_ge (G : OG l Z y bytes maxl ret n0 p e R s m args below meth c T h cells slots) {o : Int} {pcT : Nat} {u w : Int32} (hd : decode bytes pc = .ok (.if_icmp .ge o, 3)) (ho : 0 ≤ (pc : Int) + o) (hpT : ((pc : Int) + o).toNat = pcT) (hp : pc + 3 = pc') (kT : ¬ u < w → OFin p e below EE T (mkF m pcT Ls rest)) (kF : u < w → OFin p e below EE T (mkF m pc' Ls rest)) : OFin p e below EE T (mkF m pc Ls (.int w :: .int u :: rest)) := by
  subst hp
  obtain ⟨hx, hby, -, -, -, -, -, -, -, -, locs, X, -⟩ := G
  by_cases q : ¬ u < w
  · exact o_step (fun _ hr => XS.icmpYes X.here hx rfl (pc0 := pc) (pc' := pcT) rfl (hb hby hd) rfl (flt q).2.1 ho hpT hr) (kT q)
  · have q := Decidable.not_not.mp q
    exact o_step (fun _ hr => XS.icmpNo X.here hx rfl (hb hby hd) rfl (tlt q).2.1 hr) (kF q)
theorem o_if_ge (G : OG l Z y bytes maxl ret n0 p e R s m args below meth c T h cells slots) {o : Int} {pcT : Nat} {u : Int32} (hd : decode bytes pc = .ok (.ifCond .ge o, 3)) (ho : 0 ≤ (pc : Int) + o) (hpT : ((pc : Int) + o).toNat = pcT) (hp : pc + 3 = pc') (kT : ¬ u < (0 : Int32) → OFin p e below EE T (mkF m pcT Ls rest)) (kF : u < (0 : Int32) → OFin p e below EE T (mkF m pc' Ls rest)) : OFin p e below EE T (mkF m pc Ls (.int u :: rest)) := by
  subst hp
  obtain ⟨hx, hby, -, -, -, -, -, -, -, -, locs, X, -⟩ := G
  by_cases q : ¬ u < (0 : Int32)
  · exact o_step (fun _ hr => XS.ifYes X.here hx rfl (pc0 := pc) (pc' := pcT) rfl (hb hby hd) rfl ((if0 _ _).trans (flt q).2.1) ho hpT hr) (kT q)
  · have q := Decidable.not_not.mp q
    exact o_step (fun _ hr => XS.ifNo X.here hx rfl (hb hby hd) rfl ((if0 _ _).trans (tlt q).2.1) hr) (kF q)
theorem o_icmp_gt (G : OG l Z y bytes maxl ret n0 p e R s m args below meth c T h cells slots) {o : Int} {pcT : Nat} {u w : Int32} (hd : decode bytes pc = .ok (.if_icmp .gt o, 3)) (ho : 0 ≤ (pc : Int) + o) (hpT : ((pc : Int) + o).toNat = pcT) (hp : pc + 3 = pc') (kT : w < u → OFin p e below EE T (mkF m pcT Ls rest)) (kF : ¬ w < u → OFin p e below EE T (mkF m pc' Ls rest)) : OFin p e below EE T (mkF m pc Ls (.int w :: .int u :: rest)) := by
  subst hp
  obtain ⟨hx, hby, -, -, -, -, -, -, -, -, locs, X, -⟩ := G
  by_cases q : w < u
  · exact o_step (fun _ hr => XS.icmpYes X.here hx rfl (pc0 := pc) (pc' := pcT) rfl (hb hby hd) rfl (tlt q).2.2.1 ho hpT hr) (kT q)
  · exact o_step (fun _ hr => XS.icmpNo X.here hx rfl (hb hby hd) rfl (flt q).2.2.1 hr) (kF q)
theorem o_icmp_le (G : OG l Z y bytes maxl ret n0 p e R s m args below meth c T h cells slots) {o : Int} {pcT : Nat} {u w : Int32} (hd : decode bytes pc = .ok (.if_icmp .le o, 3)) (ho : 0 ≤ (pc : Int) + o) (hpT : ((pc : Int) + o).toNat = pcT) (hp : pc + 3 = pc') (kT : ¬ w < u → OFin p e below EE T (mkF m pcT Ls rest)) (kF : w < u → OFin p e below EE T (mkF m pc' Ls rest)) : OFin p e below EE T (mkF m pc Ls (.int w :: .int u :: rest)) := by
  subst hp
  obtain ⟨hx, hby, -, -, -, -, -, -, -, -, locs, X, -⟩ := G
  by_cases q : ¬ w < u
  · exact o_step (fun _ hr => XS.icmpYes X.here hx rfl (pc0 := pc) (pc' := pcT) rfl (hb hby hd) rfl (flt q).2.2.2 ho hpT hr) (kT q)
  · have q := Decidable.not_not.mp q
    exact o_step (fun _ hr => XS.icmpNo X.here hx rfl (hb hby hd) rfl (tlt q).2.2.2 hr) (kF q)
theorem o_if_le (G : OG l Z y bytes maxl ret n0 p e R s m args below meth c T h cells slots) {o : Int} {pcT : Nat} {u : Int32} (hd : decode bytes pc = .ok (.ifCond .le o, 3)) (ho : 0 ≤ (pc : Int) + o) (hpT : ((pc : Int) + o).toNat = pcT) (hp : pc + 3 = pc') (kT : ¬ (0 : Int32) < u → OFin p e below EE T (mkF m pcT Ls rest)) (kF : (0 : Int32) < u → OFin p e below EE T (mkF m pc' Ls rest)) : OFin p e below EE T (mkF m pc Ls (.int u :: rest)) := by
  subst hp
  obtain ⟨hx, hby, -, -, -, -, -, -, -, -, locs, X, -⟩ := G
  by_cases q : ¬ (0 : Int32) < u
  · exact o_step (fun _ hr => XS.ifYes X.here hx rfl (pc0 := pc) (pc' := pcT) rfl (hb hby hd) rfl ((if0 _ _).trans (flt q).2.2.2) ho hpT hr) (kT q)
  · have q := Decidable.not_not.mp q
    exact o_step (fun _ hr => XS.ifNo X.here hx rfl (hb hby hd) rfl ((if0 _ _).trans (tlt q).2.2.2) hr) (kF q)
theorem o_icmp_eq (G : OG l Z y bytes maxl ret n0 p e R s m args below meth c T h cells slots) {o : Int} {pcT : Nat} {u w : Int32} (hd : decode bytes pc = .ok (.if_icmp .eq o, 3)) (ho : 0 ≤ (pc : Int) + o) (hpT : ((pc : Int) + o).toNat = pcT) (hp : pc + 3 = pc') (kT : u = w → OFin p e below EE T (mkF m pcT Ls rest)) (kF : ¬ u = w → OFin p e below EE T (mkF m pc' Ls rest)) : OFin p e below EE T (mkF m pc Ls (.int w :: .int u :: rest)) := by
  subst hp
  obtain ⟨hx, hby, -, -, -, -, -, -, -, -, locs, X, -⟩ := G
  by_cases q : u = w
  · exact o_step (fun _ hr => XS.icmpYes X.here hx rfl (pc0 := pc) (pc' := pcT) rfl (hb hby hd) rfl (teq q).1 ho hpT hr) (kT q)
  · exact o_step (fun _ hr => XS.icmpNo X.here hx rfl (hb hby hd) rfl (feq q).1 hr) (kF q)
theorem o_if_eq (G : OG l Z y bytes maxl ret n0 p e R s m args below meth c T h cells slots) {o : Int} {pcT : Nat} {u : Int32} (hd : decode bytes pc = .ok (.ifCond .eq o, 3)) (ho : 0 ≤ (pc : Int) + o) (hpT : ((pc : Int) + o).toNat = pcT) (hp : pc + 3 = pc') (kT : u = (0 : Int32) → OFin p e below EE T (mkF m pcT Ls rest)) (kF : ¬ u = (0 : Int32) → OFin p e below EE T (mkF m pc' Ls rest)) : OFin p e below EE T (mkF m pc Ls (.int u :: rest)) := by
  subst hp
  obtain ⟨hx, hby, -, -, -, -, -, -, -, -, locs, X, -⟩ := G
  by_cases q : u = (0 : Int32)
  · exact o_step (fun _ hr => XS.ifYes X.here hx rfl (pc0 := pc) (pc' := pcT) rfl (hb hby hd) rfl ((if0 _ _).trans (teq q).1) ho hpT hr) (kT q)
  · exact o_step (fun _ hr => XS.ifNo X.here hx rfl (hb hby hd) rfl ((if0 _ _).trans (feq q).1) hr) (kF q)
theorem o_icmp_ne (G : OG l Z y bytes maxl ret n0 p e R s m args below meth c T h cells slots) {o : Int} {pcT : Nat} {u w : Int32} (hd : decode bytes pc = .ok (.if_icmp .ne o, 3)) (ho : 0 ≤ (pc : Int) + o) (hpT : ((pc : Int) + o).toNat = pcT) (hp : pc + 3 = pc') (kT : ¬ u = w → OFin p e below EE T (mkF m pcT Ls rest)) (kF : u = w → OFin p e below EE T (mkF m pc' Ls rest)) : OFin p e below EE T (mkF m pc Ls (.int w :: .int u :: rest)) := by
  subst hp
  obtain ⟨hx, hby, -, -, -, -, -, -, -, -, locs, X, -⟩ := G
  by_cases q : ¬ u = w
  · exact o_step (fun _ hr => XS.icmpYes X.here hx rfl (pc0 := pc) (pc' := pcT) rfl (hb hby hd) rfl (feq q).2 ho hpT hr) (kT q)
  · have q := Decidable.not_not.mp q
    exact o_step (fun _ hr => XS.icmpNo X.here hx rfl (hb hby hd) rfl (teq q).2 hr) (kF q)
theorem o_if_ne (G : OG l Z y bytes maxl ret n0 p e R s m args below meth c T h cells slots) {o : Int} {pcT : Nat} {u : Int32} (hd : decode bytes pc = .ok (.ifCond .ne o, 3)) (ho : 0 ≤ (pc : Int) + o) (hpT : ((pc : Int) + o).toNat = pcT) (hp : pc + 3 = pc') (kT : ¬ u = (0 : Int32) → OFin p e below EE T (mkF m pcT Ls rest)) (kF : u = (0 : Int32) → OFin p e below EE T (mkF m pc' Ls rest)) : OFin p e below EE T (mkF m pc Ls (.int u :: rest)) := by
  subst hp
  obtain ⟨hx, hby, -, -, -, -, -, -, -, -, locs, X, -⟩ := G
  by_cases q : ¬ u = (0 : Int32)
  · exact o_step (fun _ hr => XS.ifYes X.here hx rfl (pc0 := pc) (pc' := pcT) rfl (hb hby hd) rfl ((if0 _ _).trans (feq q).2) ho hpT hr) (kT q)
  · have q := Decidable.not_not.mp q
    exact o_step (fun _ hr => XS.ifNo X.here hx rfl (hb hby hd) rfl ((if0 _ _).trans (teq q).2) hr) (kF q)
theorem o_acmp_ne (G : OG l Z y bytes maxl ret n0 p e R s m args below meth c T h cells slots) {o : Int} {pcT : Nat} {u w : Value} (hu : u.isRef = true) (hw : w.isRef = true) (hd : decode bytes pc = .ok (.if_acmp .ne o, 3)) (ho : 0 ≤ (pc : Int) + o) (hpT : ((pc : Int) + o).toNat = pcT) (hp : pc + 3 = pc') (kT : ¬ u = w → OFin p e below EE T (mkF m pcT Ls rest)) (kF : u = w → OFin p e below EE T (mkF m pc' Ls rest)) : OFin p e below EE T (mkF m pc Ls (w :: u :: rest)) := by
  subst hp
  obtain ⟨hx, hby, -, -, -, -, -, -, -, -, locs, X, -⟩ := G
  by_cases q : u = w
  · exact o_step (fun _ hr => Jvm.RoadKit.acmp (g := (mkF m pc Ls (w :: u :: rest))) X hx rfl hu hw (pc0 := pc) (pc' := pc + 3) (same := true) rfl (hb hby hd) rfl (decide_eq_true q) ho (by simp [acV]) hr) (kF q)
  · exact o_step (fun _ hr => Jvm.RoadKit.acmp (g := (mkF m pc Ls (w :: u :: rest))) X hx rfl hu hw (pc0 := pc) (pc' := pcT) (same := false) rfl (hb hby hd) rfl (decide_eq_false q) ho (by simp [acV, hpT]) hr) (kT q)
theorem o_ireturn {v : Int32} (G : OG l Z y bytes maxl (some .int) n0 p e R s m args below meth c T h cells slots)  (hd : decode bytes pc = .ok (.ireturn, 1)) (hq : Q (some (.int v)) h) (hc : cells ≤ ck) (hs : slots ≤ sk) : OFin p e below (ON n0 s Q ck sk) T (mkF m pc Ls (.int v :: rest)) := by
  obtain ⟨hx, hby, -, -, -, hret, hlk, -, eT, hz, locs, X, N⟩ := G
  obtain ⟨fs, hr, hrun, hended, hW, hsame⟩ := X.leave (v := some (.int v)) (fun h => by rw [hret] at h; cases h) hlk
  refine ⟨_, _, retOut X hx hret rfl (Or.inl ⟨rfl, Or.inl rfl, _, rfl⟩) (hb hby hd) hr, hrun, hended, _, _, rfl, ⟨N, ?_, ?_⟩, ⟨_, rfl⟩, hW, hsame.mono hc hs⟩
  · show n0 ≤ T.heap.size
    rw [eT]; exact hz
  · show Q _ T.heap
    rw [eT]; exact hq
theorem o_areturn {v : Value} {t : FieldType} (G : OG l Z y bytes maxl (some t) n0 p e R s m args below meth c T h cells slots) (hn : narrow t v = v) (ht : t.isReference = true) (hv : v.isRef = true) (hd : decode bytes pc = .ok (.areturn, 1)) (hq : Q (some v) h) (hc : cells ≤ ck) (hs : slots ≤ sk) : OFin p e below (ON n0 s Q ck sk) T (mkF m pc Ls (v :: rest)) := by
  obtain ⟨hx, hby, -, -, -, hret, hlk, -, eT, hz, locs, X, N⟩ := G
  obtain ⟨fs, hr, hrun, hended, hW, hsame⟩ := X.leave (v := some v) (fun h => by rw [hret] at h; cases h) hlk
  refine ⟨_, _, retOut X hx hret hn (Or.inr (Or.inr (Or.inr (Or.inr ⟨rfl, ht, hv⟩)))) (hb hby hd) hr, hrun, hended, _, _, rfl, ⟨N, ?_, ?_⟩, ⟨_, rfl⟩, hW, hsame.mono hc hs⟩
  · show n0 ≤ T.heap.size
    rw [eT]; exact hz
  · show Q _ T.heap
    rw [eT]; exact hq
theorem o_nreturn {v : Int32} {t : FieldType} (G : OG l Z y bytes maxl (some t) n0 p e R s m args below meth c T h cells slots) (ht : t = .boolean ∨ t = .byte ∨ t = .char ∨ t = .short) (hd : decode bytes pc = .ok (.ireturn, 1)) (hq : Q (some (.int (nar t v))) h) (hc : cells ≤ ck) (hs : slots ≤ sk) : OFin p e below (ON n0 s Q ck sk) T (mkF m pc Ls (.int v :: rest)) := by
  obtain ⟨hx, hby, -, -, -, hret, hlk, -, eT, hz, locs, X, N⟩ := G
  obtain ⟨fs, hr, hrun, hended, hW, hsame⟩ := X.leave (v := some (.int (nar t v))) (fun h => by rw [hret] at h; cases h) hlk
  refine ⟨_, _, retN X hx hret ht (hb hby hd) hr, hrun, hended, _, _, rfl, ⟨N, ?_, ?_⟩, ⟨_, rfl⟩, hW, hsame.mono hc hs⟩
  · show n0 ≤ T.heap.size
    rw [eT]; exact hz
  · show Q _ T.heap
    rw [eT]; exact hq
theorem o_return (G : OG l Z y bytes maxl none n0 p e R s m args below meth c T h cells slots) (hd : decode bytes pc = .ok (.return_, 1)) (hq : Q none h) (hc : cells ≤ ck) (hs : slots ≤ sk) : OFin p e below (ON n0 s Q ck sk) T (mkF m pc Ls []) := by
  obtain ⟨hx, hby, -, -, -, hret, hlk, -, eT, hz, locs, X, N⟩ := G
  obtain ⟨fs, hr, hrun, hended, hW, hsame⟩ := X.leave (v := none) (fun _ => rfl) hlk
  refine ⟨_, _, X.returnOut hx hret (hb hby hd) hr, hrun, hended, _, _, rfl, ⟨N, ?_, ?_⟩, ⟨_, rfl⟩, hW, hsame.mono hc hs⟩
  · show n0 ≤ T.heap.size
    rw [eT]; exact hz
  · show Q _ T.heap
    rw [eT]; exact hq
theorem o_callS (G : OG l Z y bytes maxl ret n0 p e R s m args below meth c T h cells slots) {z : MethodName} {bz : ByteArray} {mz : Nat} {rz : Option FieldType} {rm : Room} {Q' : Option Value → Heap → Prop} {index W : Nat} {argsL st : List Value} (w1 : (Jvm.Cond.methodLink y.cls index z).before a0 Z = true) (w2 : (Jvm.Cond.static z).before a0 Z = true) (hd : decode bytes pc = .ok (.invokestatic index, 3))
    (hy : z.cls ≠ "java/lang/invoke/MethodHandle" ∧ z.cls ≠ "java/lang/invoke/VarHandle") (w3 : (Jvm.Cond.initialized z.cls).before a0 Z = true) (w4 : (Jvm.Cond.code z bz mz rz).before a0 Z = true)
    (hM : OMet l Z z bz mz rz rm argsL.toArray h n0 rm.cells rm.slots Q') (hfr : rm.frames + 1 ≤ R.frames) (hlo : W + (mz + 11) + rm.locals ≤ R.locals) (hsz : Ls.size = maxl)
    (hlen : ∀ sig, parseMethodDescriptor z.desc = some sig → argsL.length = sig.parameters.length) (hst : st = argsL.reverse ++ rest) (hW : (rest.map fun v => v.category).sum ≤ W) (hp : pc + 3 = pc') (hc : cells + rm.cells ≤ R.cells) (hs : slots + rm.slots ≤ R.slots)
    (k : ∀ (v : Option Value) (T' : State) (h' : Heap), OG l Z y bytes maxl ret n0 p e R s m args below meth c T' h' (cells + rm.cells) (slots + rm.slots) → Q' v h' → OFin p e below EE T' (mkF m pc' Ls (v.toList ++ rest))) : OFin p e below EE T (mkF m pc Ls st) := by
  subst hp hst
  obtain ⟨hx, hby, hml, hown, hnm, hret, hlk, hZ, eT, hz, locs, X, N⟩ := G
  obtain ⟨v, vm1, ⟨T', L', k', n'⟩, -, X', ⟨L, ⟨N', z', hQ⟩, l1, y1, z1⟩, st0⟩ := Jvm.LawKit.callS X hx (y := z) hown (mvT hZ w1) (mvT hZ w2) (mvT hZ w3) (mvT hZ w4) hy (backOf (W := W) (Q := fun v h L => Fr n0 L ∧ n0 ≤ h.size ∧ Q' v h) (hM []) hZ w4 w3 hfr hlo) (g := (mkF m pc Ls (argsL.reverse ++ rest))) rfl (by show Ls.size = _; rw [hml]; exact hsz) (argsL := argsL) (rest := rest) hlen rfl (by show 2 * 0 + _ ≤ _; omega) (hb hby hd) (fun _ _ => ⟨rfl, eT, hc, hs⟩)
  dsimp only [Pt.U, Pt.locs, Pt.cells, Pt.slots] at X' l1 y1 z1 st0 hQ N' z'
  subst l1 y1 z1
  exact o_step st0 (k v T' T'.heap ⟨hx, hby, hml, hown, hnm, hret, hlk, hZ, rfl, z', _, X', Fr.app N N'⟩ hQ)
theorem o_callI (G : OG l Z y bytes maxl ret n0 p e R s m args below meth c T h cells slots) {z : MethodName} {bz : ByteArray} {mz : Nat} {rz : Option FieldType} {rm : Room} {Q' : Option Value → Heap → Prop} {index W : Nat} {argsL st : List Value} {a : Addr} (hz1 : z.name = "<init>") (w1 : (Jvm.Cond.methodLink y.cls index z).before a0 Z = true) (w2 : (Jvm.Cond.instanceMethod z).before a0 Z = true) (hrz : rz = none) (hd : decode bytes pc = .ok (.invokespecial index, 3))
    (hy : z.cls ≠ "java/lang/invoke/MethodHandle" ∧ z.cls ≠ "java/lang/invoke/VarHandle") (w3 : (Jvm.Cond.initialized z.cls).before a0 Z = true) (w4 : (Jvm.Cond.code z bz mz rz).before a0 Z = true)
    (hM : OMet l Z z bz mz rz rm (.ref a :: argsL).toArray h n0 rm.cells rm.slots Q') (hfr : rm.frames + 1 ≤ R.frames) (hlo : W + (mz + 11) + rm.locals ≤ R.locals) (hsz : Ls.size = maxl)
    (hlen : ∀ sig, parseMethodDescriptor z.desc = some sig → argsL.length = sig.parameters.length) (hst : st = argsL.reverse ++ .ref a :: rest) (hW : (rest.map fun v => v.category).sum ≤ W) (hp : pc + 3 = pc') (hc : cells + rm.cells ≤ R.cells) (hs : slots + rm.slots ≤ R.slots)
    (k : ∀ (v : Option Value) (T' : State) (h' : Heap), OG l Z y bytes maxl ret n0 p e R s m args below meth c T' h' (cells + rm.cells) (slots + rm.slots) → Q' v h' → OFin p e below EE T' (mkF m pc' Ls (v.toList ++ rest))) : OFin p e below EE T (mkF m pc Ls st) := by
  subst hp hst
  obtain ⟨hx, hby, hml, hown, hnm, hret, hlk, hZ, eT, hz, locs, X, N⟩ := G
  subst hrz
  obtain ⟨v, vm1, ⟨T', L', k', n'⟩, -, X', ⟨L, ⟨N', z', hQ⟩, l1, y1, z1⟩, st0⟩ := X.specialBack hx (y := z) hz1 hown (mvT hZ w1) (mvT hZ w2) (mvT hZ w4) hy (backOf (W := W) (Q := fun v h L => Fr n0 L ∧ n0 ≤ h.size ∧ Q' v h) (hM []) hZ w4 w3 hfr hlo) (g := (mkF m pc Ls (argsL.reverse ++ .ref a :: rest))) rfl (by show Ls.size = _; rw [hml]; exact hsz) (Steps.refl _) (a := a) (argsL := argsL) (rest := rest) hlen rfl (by show 2 * 0 + _ ≤ _; omega) (hb hby hd) (fun _ _ => ⟨rfl, eT, hc, hs⟩)
  dsimp only [Pt.U, Pt.locs, Pt.cells, Pt.slots] at X' l1 y1 z1 st0 hQ N' z'
  subst l1 y1 z1
  exact o_step (fun _ hr => st0.trans hr) (k v T' T'.heap ⟨hx, hby, hml, hown, hnm, hret, hlk, hZ, rfl, z', _, X', Fr.app N N'⟩ hQ)
theorem o_callV (G : OG l Z y bytes maxl ret n0 p e R s m args below meth c T h cells slots) {z : MethodName} {bz : ByteArray} {mz : Nat} {rz : Option FieldType} {rm : Room} {Q' : Option Value → Heap → Prop} {index W : Nat} {argsL st : List Value} {a : Addr} {C : String} (E : Exa Z h a C) (w1 : (Jvm.Cond.methodLink y.cls index z).before a0 Z = true) (w2 : (Jvm.Cond.instanceMethod z).before a0 Z = true) (w5 : (Jvm.Cond.declares z).before a0 Z = true) (w6 : (Jvm.Cond.selects C z z).before a0 Z = true) (hd : decode bytes pc = .ok (.invokevirtual index, 3))
    (hy : z.cls ≠ "java/lang/invoke/MethodHandle" ∧ z.cls ≠ "java/lang/invoke/VarHandle") (w3 : (Jvm.Cond.initialized z.cls).before a0 Z = true) (w4 : (Jvm.Cond.code z bz mz rz).before a0 Z = true)
    (hM : OMet l Z z bz mz rz rm (.ref a :: argsL).toArray h n0 rm.cells rm.slots Q') (hfr : rm.frames + 1 ≤ R.frames) (hlo : W + (mz + 11) + rm.locals ≤ R.locals) (hsz : Ls.size = maxl)
    (hlen : ∀ sig, parseMethodDescriptor z.desc = some sig → argsL.length = sig.parameters.length) (hst : st = argsL.reverse ++ .ref a :: rest) (hW : (rest.map fun v => v.category).sum ≤ W) (hp : pc + 3 = pc') (hc : cells + rm.cells ≤ R.cells) (hs : slots + rm.slots ≤ R.slots)
    (k : ∀ (v : Option Value) (T' : State) (h' : Heap), OG l Z y bytes maxl ret n0 p e R s m args below meth c T' h' (cells + rm.cells) (slots + rm.slots) → Q' v h' → OFin p e below EE T' (mkF m pc' Ls (v.toList ++ rest))) : OFin p e below EE T (mkF m pc Ls st) := by
  subst hp hst
  obtain ⟨hx, hby, hml, hown, hnm, hret, hlk, hZ, eT, hz, locs, X, N⟩ := G
  obtain ⟨cq, kq, qa, qb, qc⟩ := isOf hZ eT E
  obtain ⟨v, vm1, ⟨T', L', k', n'⟩, -, X', ⟨L, ⟨N', z', hQ⟩, l1, y1, z1⟩, st0⟩ := X.virtualBack hx (y := z) (z := z) hown (mvT hZ w1) (mvT hZ w5) (notFace_of_selects (args := #[]) (mvT hZ w6)) (mvT hZ w6) (mvT hZ w2) hy (backOf (W := W) (Q := fun v h L => Fr n0 L ∧ n0 ≤ h.size ∧ Q' v h) (hM []) hZ w4 w3 hfr hlo) qa qc (g := (mkF m pc Ls (argsL.reverse ++ .ref a :: rest))) rfl (by show Ls.size = _; rw [hml]; exact hsz) (Steps.refl _) (argsL := argsL) (rest := rest) hlen rfl (by show 2 * 0 + _ ≤ _; omega) (hb hby hd) (fun _ _ => ⟨rfl, eT, hc, hs⟩)
  dsimp only [Pt.U, Pt.locs, Pt.cells, Pt.slots] at X' l1 y1 z1 st0 hQ N' z'
  subst l1 y1 z1
  exact o_step (fun _ hr => st0.trans hr) (k v T' T'.heap ⟨hx, hby, hml, hown, hnm, hret, hlk, hZ, rfl, z', _, X', Fr.app N N'⟩ hQ)
theorem o_callPr2 (G : OG l Z y bytes maxl ret n0 p e R s m args below meth c T h cells slots) {z : MethodName} {bz : ByteArray} {mz : Nat} {rz : Option FieldType} {rm : Room} {Q' : Option Value → Heap → Prop} {index W : Nat} {argsL st : List Value} {a : Addr} {C D : String} (E : Exa Z h a C) (w1 : (Jvm.Cond.methodLink y.cls index z).before a0 Z = true) (w2 : (Jvm.Cond.instanceMethod z).before a0 Z = true) (w5 : (Jvm.Cond.privateMethod z).before a0 Z = true) (w6 : (Jvm.Cond.selects D z z).before a0 Z = true) (hd : decode bytes pc = .ok (.invokevirtual index, 3))
    (hy : z.cls ≠ "java/lang/invoke/MethodHandle" ∧ z.cls ≠ "java/lang/invoke/VarHandle") (w3 : (Jvm.Cond.initialized z.cls).before a0 Z = true) (w4 : (Jvm.Cond.code z bz mz rz).before a0 Z = true)
    (hM : OMet l Z z bz mz rz rm (.ref a :: argsL).toArray h n0 rm.cells rm.slots Q') (hfr : rm.frames + 1 ≤ R.frames) (hlo : W + (mz + 11) + rm.locals ≤ R.locals) (hsz : Ls.size = maxl)
    (hlen : ∀ sig, parseMethodDescriptor z.desc = some sig → argsL.length = sig.parameters.length) (hst : st = argsL.reverse ++ .ref a :: rest) (hW : (rest.map fun v => v.category).sum ≤ W) (hp : pc + 3 = pc') (hc : cells + rm.cells ≤ R.cells) (hs : slots + rm.slots ≤ R.slots)
    (k : ∀ (v : Option Value) (T' : State) (h' : Heap), OG l Z y bytes maxl ret n0 p e R s m args below meth c T' h' (cells + rm.cells) (slots + rm.slots) → Q' v h' → OFin p e below EE T' (mkF m pc' Ls (v.toList ++ rest))) : OFin p e below EE T (mkF m pc Ls st) := by
  subst hp hst
  obtain ⟨hx, hby, hml, hown, hnm, hret, hlk, hZ, eT, hz, locs, X, N⟩ := G
  obtain ⟨cq, hq1, hq2⟩ := E.cell
  have hpr : s.PrivateAt z := Cond.privateMethod_at (mvP hZ w5 (args := #[]))
  obtain ⟨mk, methM, hnamed, -⟩ := Cond.instanceMethod_spec (mvT (args := #[]) hZ w2)
  obtain ⟨ki, i2, hni⟩ := notFace_of_selects (args := #[]) (mvT hZ w6) mk hnamed
  have hsel : (Jvm.Cond.selects z.cls z z).before args s = true := selects_self_of_private (findClass_of_methodNamed hnamed) i2 hni hpr (mvT hZ w2) hy
  obtain ⟨v, vm1, ⟨T', L', k', n'⟩, -, X', ⟨L, ⟨N', z', hQ⟩, l1, y1, z1⟩, st0⟩ := X.privateBack hx (y := z) hown (mvT hZ w1) (mvT hZ w2) hsel hpr (mvT hZ w4) hy (backOf (W := W) (Q := fun v h L => Fr n0 L ∧ n0 ≤ h.size ∧ Q' v h) (hM []) hZ w4 w3 hfr hlo) (g := (mkF m pc Ls (argsL.reverse ++ .ref a :: rest))) rfl (by show Ls.size = _; rw [hml]; exact hsz) (Steps.refl _) (a := a) (by rw [eT]; exact hq1) hq2 (argsL := argsL) (rest := rest) hlen rfl (by show 2 * 0 + _ ≤ _; omega) (hb hby hd) (fun _ _ => ⟨rfl, eT, hc, hs⟩)
  dsimp only [Pt.U, Pt.locs, Pt.cells, Pt.slots] at X' l1 y1 z1 st0 hQ N' z'
  subst l1 y1 z1
  exact o_step (fun _ hr => st0.trans hr) (k v T' T'.heap ⟨hx, hby, hml, hown, hnm, hret, hlk, hZ, rfl, z', _, X', Fr.app N N'⟩ hQ)
theorem o_initO (G : OG l Z y bytes maxl ret n0 p e R s m args below meth c T h cells slots) {idx W : Nat} {a : Addr} (w1 : (Jvm.Cond.methodLink y.cls idx Lib.objectInit).before a0 Z = true) (w2 : (Jvm.Cond.instanceMethod Lib.objectInit).before a0 Z = true) (w3 : (Jvm.Cond.code Lib.objectInit ⟨#[0xb1]⟩ 1 none).before a0 Z = true) (hd : decode bytes pc = .ok (.invokespecial idx, 3)) (hp : pc + 3 = pc') (hsz : Ls.size = maxl) (hf : 1 ≤ R.frames) (hW : (rest.map fun v => v.category).sum ≤ W) (hl : W + 12 ≤ R.locals)
    (k : ∀ T', OG l Z y bytes maxl ret n0 p e R s m args below meth c T' h cells slots → OFin p e below EE T' (mkF m pc' Ls rest)) : OFin p e below EE T (mkF m pc Ls (.ref a :: rest)) := by
  subst hp
  obtain ⟨hx, hby, hml, hown, hnm, hret, hlk, hZ, eT, hz, locs, X, N⟩ := G
  obtain ⟨T', X', e', st⟩ := initO X hx hZ hown w1 w2 w3 eT (g := (mkF m pc Ls (.ref a :: rest))) rfl (by show Ls.size = _; rw [hml]; exact hsz) rfl (hb hby hd) hf (W := W) (by show 2 * 0 + _ ≤ _; omega) hl
  exact o_step st (k T' ⟨hx, hby, hml, hown, hnm, hret, hlk, hZ, e', hz, _, X', N⟩)
theorem o_new (G : OG l Z y bytes maxl ret n0 p e R s m args below meth c T h cells slots) {C : String} {index n : Nat} (w : (Jvm.Cond.classLink y.cls index C).before a0 Z = true) (wi : (Jvm.Cond.instantiable C n).before a0 Z = true) (wz : (Jvm.Cond.initialized C).before a0 Z = true) (hd : decode bytes pc = .ok (.new index, 3)) (hp : pc + 3 = pc') (hc : cells + 1 ≤ R.cells) (hl : slots + n ≤ R.slots)
    (k : ∀ (T' : State) (h' : Heap) (a : Addr), OG l Z y bytes maxl ret n0 p e R s m args below meth c T' h' (cells + 1) (slots + n) → a = h.size → n0 ≤ a → Ext h h' → Exa Z h' a C → (∀ {O nm d : String} {ty : FieldType}, Laid Z a0 C O nm d → parseFieldDescriptor d = some ty → Fld Z h' a O nm d (defaultValue ty)) → OFin p e below EE T' (mkF m pc' Ls (.ref a :: rest))) : OFin p e below EE T (mkF m pc Ls rest) := by
  subst hp
  obtain ⟨hx, hby, hml, hown, hnm, hret, hlk, hZ, eT, hz, locs, X, N⟩ := G
  obtain ⟨T', h', X', e', E', A', D', -, st⟩ := newO X hx hZ hown w wi wz eT (g := (mkF m pc Ls rest)) rfl (hb hby hd) hc hl
  exact o_step st (k T' h' h.size ⟨hx, hby, hml, hown, hnm, hret, hlk, hZ, e', Nat.le_trans hz E'.1, _, X', N⟩ rfl hz E' A' D')
theorem o_getF (G : OG l Z y bytes maxl ret n0 p e R s m args below meth c T h cells slots) {R0 O nm d host : String} {index : Nat} {a : Addr} {v : Value} (w : (Jvm.Cond.fieldLink y.cls index R0 nm d).before a0 Z = true ∨ (Jvm.Cond.fieldLinkNest y.cls index R0 nm d host).before a0 Z = true) (via : Via Z R0 O nm d) (F : Fld Z h a O nm d v) (hd : decode bytes pc = .ok (.getfield index, 3)) (hp : pc + 3 = pc')
    (k : ∀ T', OG l Z y bytes maxl ret n0 p e R s m args below meth c T' h cells slots → OFin p e below EE T' (mkF m pc' Ls (v :: rest))) : OFin p e below EE T (mkF m pc Ls (.ref a :: rest)) := by
  subst hp
  obtain ⟨hx, hby, hml, hown, hnm, hret, hlk, hZ, eT, hz, locs, X, N⟩ := G
  obtain ⟨T', X', e', st⟩ := getF X hx hZ hown w via eT F (g := (mkF m pc Ls (.ref a :: rest))) rfl rfl (hb hby hd)
  exact o_step st (k T' ⟨hx, hby, hml, hown, hnm, hret, hlk, hZ, e', hz, _, X', N⟩)
theorem o_putF (G : OG l Z y bytes maxl ret n0 p e R s m args below meth c T h cells slots) {R0 O nm d host C : String} {index kk : Nat} {ty : FieldType} {a : Addr} {v old : Value} (w : (Jvm.Cond.fieldLink y.cls index R0 nm d).before a0 Z = true ∨ (Jvm.Cond.fieldLinkNest y.cls index R0 nm d host).before a0 Z = true) (via : Via Z R0 O nm d) (F : Fld Z h a O nm d old) (E : Exa Z h a C) (L : (Jvm.Cond.lays C O nm d).before a0 Z = true ∨ ((Jvm.Cond.laysFinal C O nm d).before a0 Z = true ∧ y.cls = O ∧ y.name = "<init>")) (wi : (Jvm.Cond.instantiable C kk).before a0 Z = true)
    (hty : parseFieldDescriptor d = some ty) (hn : narrow ty v = v) (hf : fits ty v = true) (hg : n0 ≤ a) (hd : decode bytes pc = .ok (.putfield index, 3)) (hp : pc + 3 = pc')
    (k : ∀ (T' : State) (h' : Heap), OG l Z y bytes maxl ret n0 p e R s m args below meth c T' h' cells slots → Wr h h' a (Jvm.RoadKit.slotOf Z O nm d) v → OFin p e below EE T' (mkF m pc' Ls rest)) : OFin p e below EE T (mkF m pc Ls (v :: .ref a :: rest)) := by
  subst hp
  obtain ⟨hx, hby, hml, hown, hnm, hret, hlk, hZ, eT, hz, locs, X, N⟩ := G
  obtain ⟨T', h', X', e', W', st⟩ := putF X hx hZ hown w via eT F E (L.imp id (fun q => ⟨q.1, q.2.1, hnm.trans q.2.2⟩)) wi hty hn hf (g := (mkF m pc Ls (v :: .ref a :: rest))) rfl rfl (hb hby hd)
  exact o_step st (k T' h' ⟨hx, hby, hml, hown, hnm, hret, hlk, hZ, e', by rw [W'.size]; exact hz, _, X', Fr.snoc X' N hg⟩ W')
theorem o_getS (G : OG l Z y bytes maxl ret n0 p e R s m args below meth c T h cells slots) {R0 O nm d host : String} {index : Nat} {v : Value} (w : (Jvm.Cond.fieldLink y.cls index R0 nm d).before a0 Z = true ∨ (Jvm.Cond.fieldLinkNest y.cls index R0 nm d host).before a0 Z = true) (via : Via Z R0 O nm d) (F : Sta Z h O nm d v) (hd : decode bytes pc = .ok (.getstatic index, 3)) (hp : pc + 3 = pc')
    (k : ∀ T', OG l Z y bytes maxl ret n0 p e R s m args below meth c T' h cells slots → OFin p e below EE T' (mkF m pc' Ls (v :: rest))) : OFin p e below EE T (mkF m pc Ls rest) := by
  subst hp
  obtain ⟨hx, hby, hml, hown, hnm, hret, hlk, hZ, eT, hz, locs, X, N⟩ := G
  obtain ⟨T', X', e', st⟩ := getS2 X hx hZ hown w via eT F (g := (mkF m pc Ls rest)) rfl (hb hby hd)
  exact o_step st (k T' ⟨hx, hby, hml, hown, hnm, hret, hlk, hZ, e', hz, _, X', N⟩)
theorem o_ifnonnull (G : OG l Z y bytes maxl ret n0 p e R s m args below meth c T h cells slots) {o : Int} {pcT : Nat} {a : Addr} (hd : decode bytes pc = .ok (.ifnonnull o, 3)) (ho : 0 ≤ (pc : Int) + o) (hpT : ((pc : Int) + o).toNat = pcT) (k : OFin p e below EE T (mkF m pcT Ls rest)) : OFin p e below EE T (mkF m pc Ls (.ref a :: rest)) := by
  obtain ⟨hx, hby, -, -, -, -, -, -, -, -, locs, X, -⟩ := G
  subst hpT
  refine o_step (fun t hr => ?_) k
  have hd' := hb hby hd
  have hh := X.here
  show Steps p.tables e below (T.setTop { method := m, pc := pc, locals := Ls, stack := .ref a :: rest, locked := none }) _
  jvm_step hh [X.here.top, hx, hd', ho]
  exact hr
theorem o_checkcast (G : OG l Z y bytes maxl ret n0 p e R s m args below meth c T h cells slots) {K : String} {index : Nat} {a : Addr} (w : (Jvm.Cond.classLink y.cls index K).before a0 Z = true) (F : Ins Z h a K true) (hd : decode bytes pc = .ok (.checkcast index, 3)) (hp : pc + 3 = pc')
    (k : ∀ T', OG l Z y bytes maxl ret n0 p e R s m args below meth c T' h cells slots → OFin p e below EE T' (mkF m pc' Ls (.ref a :: rest))) : OFin p e below EE T (mkF m pc Ls (.ref a :: rest)) := by
  subst hp
  obtain ⟨hx, hby, hml, hown, hnm, hret, hlk, hZ, eT, hz, locs, X, N⟩ := G
  obtain ⟨T', X', e', st⟩ := castY X hx hZ hown w eT F (g := (mkF m pc Ls (.ref a :: rest))) rfl rfl (hb hby hd)
  exact o_step st (k T' ⟨hx, hby, hml, hown, hnm, hret, hlk, hZ, e', hz, _, X', N⟩)
theorem o_instY (G : OG l Z y bytes maxl ret n0 p e R s m args below meth c T h cells slots) {K : String} {index : Nat} {a : Addr} (w : (Jvm.Cond.classLink y.cls index K).before a0 Z = true) (F : Ins Z h a K true) (hd : decode bytes pc = .ok (.instanceof index, 3)) (hp : pc + 3 = pc')
    (k : ∀ T', OG l Z y bytes maxl ret n0 p e R s m args below meth c T' h cells slots → OFin p e below EE T' (mkF m pc' Ls (.int 1 :: rest))) : OFin p e below EE T (mkF m pc Ls (.ref a :: rest)) := by
  subst hp
  obtain ⟨hx, hby, hml, hown, hnm, hret, hlk, hZ, eT, hz, locs, X, N⟩ := G
  obtain ⟨T', X', e', st⟩ := instY X hx hZ hown w eT F (g := (mkF m pc Ls (.ref a :: rest))) rfl rfl (hb hby hd)
  exact o_step st (k T' ⟨hx, hby, hml, hown, hnm, hret, hlk, hZ, e', hz, _, X', N⟩)
theorem o_instNo (G : OG l Z y bytes maxl ret n0 p e R s m args below meth c T h cells slots) {K C : String} {index : Nat} {a : Addr} (w : (Jvm.Cond.classLink y.cls index K).before a0 Z = true) (E1 : Exa Z h a C) (F : ∃ c t, Z.vm.findClass C = some c ∧ Z.vm.findClass K = some t ∧ Z.vm.assignable c t = false) (hd : decode bytes pc = .ok (.instanceof index, 3)) (hp : pc + 3 = pc')
    (k : ∀ T', OG l Z y bytes maxl ret n0 p e R s m args below meth c T' h cells slots → OFin p e below EE T' (mkF m pc' Ls (.int 0 :: rest))) : OFin p e below EE T (mkF m pc Ls (.ref a :: rest)) := by
  subst hp
  obtain ⟨hx, hby, hml, hown, hnm, hret, hlk, hZ, eT, hz, locs, X, N⟩ := G
  obtain ⟨T', X', e', st⟩ := instNo X hx hZ hown w eT E1 F (g := (mkF m pc Ls (.ref a :: rest))) rfl rfl (hb hby hd)
  exact o_step st (k T' ⟨hx, hby, hml, hown, hnm, hret, hlk, hZ, e', hz, _, X', N⟩)
theorem o_instNull (G : OG l Z y bytes maxl ret n0 p e R s m args below meth c T h cells slots) {index : Nat} (hd : decode bytes pc = .ok (.instanceof index, 3)) (hp : pc + 3 = pc')  (k : OFin p e below EE T (mkF m pc' Ls (.int 0 :: rest))) : OFin p e below EE T (mkF m pc Ls (.null :: rest)) := by
  subst hp
  obtain ⟨hx, hby, -, -, -, -, -, -, -, -, locs, X, -⟩ := G
  exact o_step (fun _ hr => X.instanceofNull hx (g := (mkF m pc Ls (.null :: rest))) rfl (rest := rest) rfl (hb hby hd) _ hr) k
theorem o_same {z : MethodName} (w2 : (Jvm.Cond.instanceMethod z).before a0 Z = true) (w6 : NotFace Z z) (hy : z.cls ≠ "java/lang/invoke/MethodHandle" ∧ z.cls ≠ "java/lang/invoke/VarHandle") : (Jvm.Cond.sameMethod z.cls z.cls z.name z.desc).before a0 Z = true := by
  obtain ⟨mk, methO, hnO, -⟩ := Cond.instanceMethod_spec w2
  obtain ⟨kr, hk, hi⟩ := w6 mk hnO
  have hf := findClass_of_methodNamed hnO
  have hm := State.methodFound?_of_named hnO hy
  have hn : Z.methodNamed? ⟨z.cls, z.name, z.desc⟩ = some mk := hnO
  simp [Cond.before, Cond.holds, Cond.value, hf, hm, hn, hk, hi]
theorem o_face {w z : MethodName} (h1 : NotFace Z w) (hc : w.cls = z.cls) (w2 : (Jvm.Cond.instanceMethod w).before a0 Z = true) : NotFace Z z := fun r hr => by
  obtain ⟨mk, methO, hnO, -⟩ := Cond.instanceMethod_spec w2
  obtain ⟨kr, hk, hi⟩ := h1 mk hnO
  have e1 := findClass_of_methodNamed hnO
  rw [hc, findClass_of_methodNamed hr] at e1
  have e2 : r.cls = mk.cls := Option.some.inj e1
  exact ⟨kr, by rw [e2]; exact hk, hi⟩
theorem o_callSup (G : OG l Z y bytes maxl ret n0 p e R s m args below meth c T h cells slots) {z : MethodName} {bz : ByteArray} {mz : Nat} {rz : Option FieldType} {rm : Room} {Q' : Option Value → Heap → Prop} {index W : Nat} {argsL st : List Value} {a : Addr} {K : String} (F : Ins Z h a K true) (w1 : (Jvm.Cond.methodLink y.cls index z).before a0 Z = true) (w2 : (Jvm.Cond.instanceMethod z).before a0 Z = true) (w5 : (Jvm.Cond.superclass y.cls z.cls).before a0 Z = true) (w6 : NotFace Z z) (hn1 : z.name ≠ "<init>") (hd : decode bytes pc = .ok (.invokespecial index, 3))
    (hy : z.cls ≠ "java/lang/invoke/MethodHandle" ∧ z.cls ≠ "java/lang/invoke/VarHandle") (w3 : (Jvm.Cond.initialized z.cls).before a0 Z = true) (w4 : (Jvm.Cond.code z bz mz rz).before a0 Z = true)
    (hM : OMet l Z z bz mz rz rm (.ref a :: argsL).toArray h n0 rm.cells rm.slots Q') (hfr : rm.frames + 1 ≤ R.frames) (hlo : W + (mz + 11) + rm.locals ≤ R.locals) (hsz : Ls.size = maxl)
    (hlen : ∀ sig, parseMethodDescriptor z.desc = some sig → argsL.length = sig.parameters.length) (hst : st = argsL.reverse ++ .ref a :: rest) (hW : (rest.map fun v => v.category).sum ≤ W) (hp : pc + 3 = pc') (hc : cells + rm.cells ≤ R.cells) (hs : slots + rm.slots ≤ R.slots)
    (k : ∀ (v : Option Value) (T' : State) (h' : Heap), OG l Z y bytes maxl ret n0 p e R s m args below meth c T' h' (cells + rm.cells) (slots + rm.slots) → Q' v h' → OFin p e below EE T' (mkF m pc' Ls (v.toList ++ rest))) : OFin p e below EE T (mkF m pc Ls st) := by
  subst hp hst
  obtain ⟨hx, hby, hml, hown, hnm, hret, hlk, hZ, eT, hz, locs, X, N⟩ := G
  have w7 : (Jvm.Cond.sameMethod z.cls z.cls z.name z.desc).before a0 Z = true := o_same w2 w6 hy
  obtain ⟨v, vm1, ⟨T', L', k', n'⟩, -, X', ⟨L, ⟨N', z', hQ⟩, l1, y1, z1⟩, st0⟩ := superBack X hx hZ (y := z) hown w1 w7 w2 w5 hn1 (backOf (W := W) (Q := fun v h L => Fr n0 L ∧ n0 ≤ h.size ∧ Q' v h) (hM []) hZ w4 w3 hfr hlo) eT F (g := (mkF m pc Ls (argsL.reverse ++ .ref a :: rest))) rfl (by show Ls.size = _; rw [hml]; exact hsz) w4 (argsL := argsL) (rest := rest) hlen rfl (by show 2 * 0 + _ ≤ _; omega) (hb hby hd) (fun _ _ => ⟨rfl, eT, hc, hs⟩)
  dsimp only [Pt.U, Pt.locs, Pt.cells, Pt.slots] at X' l1 y1 z1 st0 hQ N' z'
  subst l1 y1 z1
  exact o_step (fun _ hr => st0.trans hr) (k v T' T'.heap ⟨hx, hby, hml, hown, hnm, hret, hlk, hZ, rfl, z', _, X', Fr.app N N'⟩ hQ)
theorem o_callVO (G : OG l Z y bytes maxl ret n0 p e R s m args below meth c T h cells slots) {z : MethodName} {bz : ByteArray} {mz : Nat} {rz : Option FieldType} {rm : Room} {Q' : Option Value → Heap → Prop} {index W : Nat} {argsL st : List Value} {a : Addr} {C D xc : String} {u : MethodName} (E : Exa Z h a C) (w1 : (Jvm.Cond.methodLink y.cls index ⟨xc, z.name, z.desc⟩).before a0 Z = true) (w2 : (Jvm.Cond.instanceMethod z).before a0 Z = true) (w5 : (Jvm.Cond.declares ⟨xc, z.name, z.desc⟩).before a0 Z = true) (w6 : (Jvm.Cond.selects C ⟨xc, z.name, z.desc⟩ z).before a0 Z = true) (w7 : (Jvm.Cond.selects D u u).before a0 Z = true) (w8 : (Jvm.Cond.instanceMethod u).before a0 Z = true) (hu : u.cls = xc) (hyx : xc ≠ "java/lang/invoke/MethodHandle" ∧ xc ≠ "java/lang/invoke/VarHandle") (hd : decode bytes pc = .ok (.invokevirtual index, 3))
    (hy : z.cls ≠ "java/lang/invoke/MethodHandle" ∧ z.cls ≠ "java/lang/invoke/VarHandle") (w3 : (Jvm.Cond.initialized z.cls).before a0 Z = true) (w4 : (Jvm.Cond.code z bz mz rz).before a0 Z = true)
    (hM : OMet l Z z bz mz rz rm (.ref a :: argsL).toArray h n0 rm.cells rm.slots Q') (hfr : rm.frames + 1 ≤ R.frames) (hlo : W + (mz + 11) + rm.locals ≤ R.locals) (hsz : Ls.size = maxl)
    (hlen : ∀ sig, parseMethodDescriptor z.desc = some sig → argsL.length = sig.parameters.length) (hst : st = argsL.reverse ++ .ref a :: rest) (hW : (rest.map fun v => v.category).sum ≤ W) (hp : pc + 3 = pc') (hc : cells + rm.cells ≤ R.cells) (hs : slots + rm.slots ≤ R.slots)
    (k : ∀ (v : Option Value) (T' : State) (h' : Heap), OG l Z y bytes maxl ret n0 p e R s m args below meth c T' h' (cells + rm.cells) (slots + rm.slots) → Q' v h' → OFin p e below EE T' (mkF m pc' Ls (v.toList ++ rest))) : OFin p e below EE T (mkF m pc Ls st) := by
  subst hp hst
  obtain ⟨hx, hby, hml, hown, hnm, hret, hlk, hZ, eT, hz, locs, X, N⟩ := G
  obtain ⟨cq, kq, qa, qb, qc⟩ := isOf hZ eT E
  have nf : NotFace s ⟨xc, z.name, z.desc⟩ := o_face (notFace_of_selects (args := #[]) (mvT hZ w7)) hu (mvT (args := #[]) hZ w8)
  obtain ⟨v, vm1, ⟨T', L', k', n'⟩, -, X', ⟨L, ⟨N', z', hQ⟩, l1, y1, z1⟩, st0⟩ := X.virtualBack hx (y := ⟨xc, z.name, z.desc⟩) (z := z) hown (mvT hZ w1) (mvT hZ w5) nf (mvT hZ w6) (mvT hZ w2) hyx (backOf (W := W) (Q := fun v h L => Fr n0 L ∧ n0 ≤ h.size ∧ Q' v h) (hM []) hZ w4 w3 hfr hlo) qa qc (g := (mkF m pc Ls (argsL.reverse ++ .ref a :: rest))) rfl (by show Ls.size = _; rw [hml]; exact hsz) (Steps.refl _) (argsL := argsL) (rest := rest) hlen rfl (by show 2 * 0 + _ ≤ _; omega) (hb hby hd) (fun _ _ => ⟨rfl, eT, hc, hs⟩)
  dsimp only [Pt.U, Pt.locs, Pt.cells, Pt.slots] at X' l1 y1 z1 st0 hQ N' z'
  subst l1 y1 z1
  exact o_step (fun _ hr => st0.trans hr) (k v T' T'.heap ⟨hx, hby, hml, hown, hnm, hret, hlk, hZ, rfl, z', _, X', Fr.app N N'⟩ hQ)
/-- an array of n places at a; place j holds f j -/
def OArr (Z : State) (h : Heap) (a : Addr) (ty : FieldType) (n : Nat) (f : Nat → Value) : Prop := ∃ cl : Cell, Arr Z h a cl ty ∧ cl.slots.size = n ∧ ∀ j, j < n → cl.slots[j]? = some (f j)
def o_set (f : Nat → Value) (i : Nat) (v : Value) : Nat → Value := fun j => if j = i then v else f j
theorem OArr.lt {a : Addr} {ty : FieldType} {n : Nat} {f : Nat → Value} (A : OArr Z h a ty n f) : a < h.size := by obtain ⟨cl, A, -⟩ := A; exact A.lt
theorem OArr.ext {h' : Heap} {a : Addr} {ty : FieldType} {n : Nat} {f : Nat → Value} (A : OArr Z h a ty n f) (E : Ext h h') : OArr Z h' a ty n f := by obtain ⟨cl, A, r⟩ := A; exact ⟨cl, A.ext E, r⟩
theorem OArr.other {h' : Heap} {a b : Addr} {sl : Nat} {v : Value} {ty : FieldType} {n : Nat} {f : Nat → Value} (A : OArr Z h b ty n f) (W : Wr h h' a sl v) (q : b ≠ a) : OArr Z h' b ty n f := by obtain ⟨cl, A, r⟩ := A; exact ⟨cl, A.other W q, r⟩
theorem OArr.keep {h' : Heap} {a : Addr} {ws : List Addr} {ty : FieldType} {n : Nat} {f : Nat → Value} (A : OArr Z h a ty n f) (K : Keep h h' ws) (q : a ∉ ws) : OArr Z h' a ty n f := by obtain ⟨cl, A, r⟩ := A; exact ⟨cl, ⟨K.2.1 a cl A.1 q, A.2⟩, r⟩
theorem OArr.same {h' : Heap} {a : Addr} {i : Nat} {v : Value} {ty : FieldType} {n : Nat} {f : Nat → Value} (A : OArr Z h a ty n f) (W : Wr h h' a i v) : OArr Z h' a ty n (o_set f i v) := by
  obtain ⟨cl, A, S, H⟩ := A
  have hi : i < n := by
    obtain ⟨cell, h1, -, h3, -⟩ := W
    cases h1.symm.trans A.1
    rw [← S]; exact h3
  refine ⟨_, A.same W, by rw [sz_set]; exact S, fun j hj => ?_⟩
  by_cases q : j = i
  · subst q; simp [Cell.setSlot, o_set, S, hi]
  · have := H j hj
    simp only [Cell.setSlot, o_set, q, if_false]
    rw [Array.getElem?_setIfInBounds_ne (Ne.symm q)]; exact this
theorem OArr.congr {a : Addr} {ty : FieldType} {n : Nat} {f f' : Nat → Value} (A : OArr Z h a ty n f) (q : ∀ j, j < n → f j = f' j) : OArr Z h a ty n f' := by
  obtain ⟨cl, A, S, H⟩ := A
  exact ⟨cl, A, S, fun j hj => by rw [← q j hj]; exact H j hj⟩
theorem o_clamp {j : Int32} {i : Nat} (h : j.toInt = (i : Int)) : ¬ j < 0 ∧ j.toNatClampNeg = i := by
  constructor
  · rw [Int32.lt_iff_toInt_lt, h]; have : (0 : Int32).toInt = 0 := rfl
    omega
  · simp only [Int32.toNatClampNeg, h]; rfl
theorem o_arraylength (G : OG l Z y bytes maxl ret n0 p e R s m args below meth c T h cells slots) {a : Addr} {ty : FieldType} {n : Nat} {f : Nat → Value} {v : Int32} (A : OArr Z h a ty n f) (hv : Nat.toInt32 n = v) (hd : decode bytes pc = .ok (.arraylength, 1)) (hp : pc + 1 = pc') (k : OFin p e below EE T (mkF m pc' Ls (.int v :: rest))) : OFin p e below EE T (mkF m pc Ls (.ref a :: rest)) := by
  subst hp hv
  obtain ⟨hx, hby, -, -, -, -, -, hZ, eT, -, locs, X, -⟩ := G
  obtain ⟨cl, A, S, -⟩ := A
  subst S
  exact o_step (fun _ hr => X.arraylength hx (by rw [eT]; exact A.1) (State.isArrayOf_alike hZ.alike A.2.1) (g := (mkF m pc Ls (.ref a :: rest))) rfl rfl (hb hby hd) _ hr) k
theorem o_baload (G : OG l Z y bytes maxl ret n0 p e R s m args below meth c T h cells slots) {a : Addr} {n i : Nat} {f : Nat → Value} {j : Int32} {v : Value} (A : OArr Z h a .byte n f) (hj : j.toInt = (i : Int)) (hi : i < n) (hv : f i = v) (hd : decode bytes pc = .ok (.baload, 1)) (hp : pc + 1 = pc') (k : OFin p e below EE T (mkF m pc' Ls (v :: rest))) : OFin p e below EE T (mkF m pc Ls (.int j :: .ref a :: rest)) := by
  subst hp hv
  obtain ⟨hx, hby, -, -, -, -, -, hZ, eT, -, locs, X, -⟩ := G
  obtain ⟨cl, A, S, H⟩ := A
  obtain ⟨q1, q2⟩ := o_clamp hj
  exact o_step (fun _ hr => X.baloadBytes hx (j := j) (v := f i) (by rw [eT]; exact A.1) (State.isArrayOf_alike hZ.alike A.2.1) A.2.2 (by rw [S, q2]; exact fun q => q.elim q1 (fun q => absurd hi (Nat.not_lt.mpr q))) (by rw [q2]; exact H i hi) (g := (mkF m pc Ls (.int j :: .ref a :: rest))) rfl rfl (hb hby hd) _ hr) k
theorem o_caload (G : OG l Z y bytes maxl ret n0 p e R s m args below meth c T h cells slots) {a : Addr} {n i : Nat} {f : Nat → Value} {j : Int32} {v : Value} (A : OArr Z h a .char n f) (hj : j.toInt = (i : Int)) (hi : i < n) (hv : f i = v) (hd : decode bytes pc = .ok (.caload, 1)) (hp : pc + 1 = pc') (k : OFin p e below EE T (mkF m pc' Ls (v :: rest))) : OFin p e below EE T (mkF m pc Ls (.int j :: .ref a :: rest)) := by
  subst hp hv
  obtain ⟨hx, hby, -, -, -, -, -, hZ, eT, -, locs, X, -⟩ := G
  obtain ⟨cl, A, S, H⟩ := A
  obtain ⟨q1, q2⟩ := o_clamp hj
  exact o_step (fun _ hr => X.caload hx (j := j) (v := f i) (by rw [eT]; exact A.1) (State.isArrayOf_alike hZ.alike A.2.1) A.2.2 (by rw [S, q2]; exact fun q => q.elim q1 (fun q => absurd hi (Nat.not_lt.mpr q))) (by rw [q2]; exact H i hi) (g := (mkF m pc Ls (.int j :: .ref a :: rest))) rfl rfl (hb hby hd) _ hr) k
theorem o_aaload (G : OG l Z y bytes maxl ret n0 p e R s m args below meth c T h cells slots) {ty : FieldType} (hty : ty.isReference = true) {a : Addr} {n i : Nat} {f : Nat → Value} {j : Int32} {v : Value} (A : OArr Z h a ty n f) (hj : j.toInt = (i : Int)) (hi : i < n) (hv : f i = v) (hd : decode bytes pc = .ok (.aaload, 1)) (hp : pc + 1 = pc') (k : OFin p e below EE T (mkF m pc' Ls (v :: rest))) : OFin p e below EE T (mkF m pc Ls (.int j :: .ref a :: rest)) := by
  subst hp hv
  obtain ⟨hx, hby, -, -, -, -, -, hZ, eT, -, locs, X, -⟩ := G
  obtain ⟨cl, A, S, H⟩ := A
  obtain ⟨q1, q2⟩ := o_clamp hj
  exact o_step (fun _ hr => X.aaload hx (j := j) (v := f i) (by rw [eT]; exact A.1) (State.isArrayOf_alike hZ.alike A.2.1) hty A.2.2 (by rw [S, q2]; exact fun q => q.elim q1 (fun q => absurd hi (Nat.not_lt.mpr q))) (by rw [q2]; exact H i hi) (g := (mkF m pc Ls (.int j :: .ref a :: rest))) rfl rfl (hb hby hd) _ hr) k
theorem o_bastore (G : OG l Z y bytes maxl ret n0 p e R s m args below meth c T h cells slots) {a : Addr} {n i : Nat} {f : Nat → Value} {j : Int32} {v : Int32} (A : OArr Z h a .byte n f) (hg : n0 ≤ a) (hj : j.toInt = (i : Int)) (hi : i < n) (hd : decode bytes pc = .ok (.bastore, 1)) (hp : pc + 1 = pc')
    (k : ∀ (T' : State) (h' : Heap), OG l Z y bytes maxl ret n0 p e R s m args below meth c T' h' cells slots → Wr h h' a i (.int (nar .byte v)) → OArr Z h' a .byte n (o_set f i (.int (nar .byte v))) → OFin p e below EE T' (mkF m pc' Ls rest)) : OFin p e below EE T (mkF m pc Ls (.int v :: .int j :: .ref a :: rest)) := by
  subst hp
  have A0 := A
  obtain ⟨hx, hby, hml, hown, hnm, hret, hlk, hZ, eT, hz, locs, X, N⟩ := G
  obtain ⟨cl, A, S, H⟩ := A
  obtain ⟨q1, q2⟩ := o_clamp hj
  obtain ⟨T', h', X', e', W', st⟩ := stB X hx hZ eT A (j := j) (x := v) (by rw [S, q2]; exact fun q => q.elim q1 (fun q => absurd hi (Nat.not_lt.mpr q))) (g := (mkF m pc Ls (.int v :: .int j :: .ref a :: rest))) rfl rfl (hb hby hd)
  rw [q2] at W' X'
  exact o_step st (k T' h' ⟨hx, hby, hml, hown, hnm, hret, hlk, hZ, e', by rw [W'.size]; exact hz, _, X', Fr.snoc X' N hg⟩ W' (A0.same W'))
theorem o_castore (G : OG l Z y bytes maxl ret n0 p e R s m args below meth c T h cells slots) {a : Addr} {n i : Nat} {f : Nat → Value} {j : Int32} {v : Int32} (A : OArr Z h a .char n f) (hg : n0 ≤ a) (hj : j.toInt = (i : Int)) (hi : i < n) (hd : decode bytes pc = .ok (.castore, 1)) (hp : pc + 1 = pc')
    (k : ∀ (T' : State) (h' : Heap), OG l Z y bytes maxl ret n0 p e R s m args below meth c T' h' cells slots → Wr h h' a i (.int (nar .char v)) → OArr Z h' a .char n (o_set f i (.int (nar .char v))) → OFin p e below EE T' (mkF m pc' Ls rest)) : OFin p e below EE T (mkF m pc Ls (.int v :: .int j :: .ref a :: rest)) := by
  subst hp
  have A0 := A
  obtain ⟨hx, hby, hml, hown, hnm, hret, hlk, hZ, eT, hz, locs, X, N⟩ := G
  obtain ⟨cl, A, S, H⟩ := A
  obtain ⟨q1, q2⟩ := o_clamp hj
  obtain ⟨T', h', X', e', W', st⟩ := stC X hx hZ eT A (j := j) (x := v) (by rw [S, q2]; exact fun q => q.elim q1 (fun q => absurd hi (Nat.not_lt.mpr q))) (g := (mkF m pc Ls (.int v :: .int j :: .ref a :: rest))) rfl rfl (hb hby hd)
  rw [q2] at W' X'
  exact o_step st (k T' h' ⟨hx, hby, hml, hown, hnm, hret, hlk, hZ, e', by rw [W'.size]; exact hz, _, X', Fr.snoc X' N hg⟩ W' (A0.same W'))
theorem o_newarray (G : OG l Z y bytes maxl ret n0 p e R s m args below meth c T h cells slots) {aty : ArrayType} {n : Int32} {N cap : Nat} (w : (Jvm.Cond.arrayClass (newarray.typeOf aty)).before a0 Z = true) (hn : n.toInt = (N : Int)) (hcap : N ≤ cap) (hb8 : cap * 8 ≤ 536870912) (hd : decode bytes pc = .ok (.newarray aty, 2)) (hp : pc + 2 = pc') (hc : cells + 1 ≤ R.cells) (hl : slots + cap ≤ R.slots)
    (k : ∀ (T' : State) (h' : Heap) (a : Addr), OG l Z y bytes maxl ret n0 p e R s m args below meth c T' h' (cells + 1) (slots + cap) → a = h.size → n0 ≤ a → Ext h h' → OArr Z h' a (newarray.typeOf aty) N (fun _ => defaultValue (newarray.typeOf aty)) → OFin p e below EE T' (mkF m pc' Ls (.ref a :: rest))) : OFin p e below EE T (mkF m pc Ls (.int n :: rest)) := by
  subst hp
  obtain ⟨hx, hby, hml, hown, hnm, hret, hlk, hZ, eT, hz, locs, X, N'⟩ := G
  obtain ⟨q1, q2⟩ := o_clamp hn
  obtain ⟨T', h', cA, X', e', E', A', st⟩ := newP X hx hZ w eT (g := (mkF m pc Ls (.int n :: rest))) rfl (hb hby hd) rfl q1 (cap := cap) (by rw [q2]; exact hcap) hb8 hc hl
  refine o_step st (k T' h' h.size ⟨hx, hby, hml, hown, hnm, hret, hlk, hZ, e', Nat.le_trans hz E'.1, _, X', N'⟩ rfl hz E' ⟨_, A', by rw [sz_new, q2], fun j hj => ?_⟩)
  simp [newA, q2, hj]
/-- the array at a may hold objects of the class C -/
def OMay (Z : State) (h : Heap) (a : Addr) (C : String) : Prop := ∃ (cl : Cell) (k : Class) (comp : ClassId) (t : FieldType), h[a]? = some cl ∧ Z.vm.classes[cl.cls]? = some k ∧ k.kind = .array comp t ∧ Z.vm.findClass C = some comp
theorem OMay.ext {h' : Heap} {a : Addr} {C : String} (M : OMay Z h a C) (E : Ext h h') : OMay Z h' a C := by obtain ⟨cl, k, comp, t, h1, r⟩ := M; exact ⟨cl, k, comp, t, E.2 _ _ h1, r⟩
theorem OMay.wr {h' : Heap} {a b : Addr} {sl : Nat} {v : Value} {C : String} (M : OMay Z h a C) (W : Wr h h' b sl v) : OMay Z h' a C := by
  obtain ⟨cl, k, comp, t, h1, h2, r⟩ := M
  obtain ⟨c', e1, e2, -⟩ := wr_at W h1
  exact ⟨c', k, comp, t, e1, by rw [e2]; exact h2, r⟩
theorem OMay.keep {h' : Heap} {a : Addr} {ws : List Addr} {C : String} (M : OMay Z h a C) (K : Keep h h' ws) : OMay Z h' a C := by
  obtain ⟨cl, k, comp, t, h1, h2, r⟩ := M
  obtain ⟨c', e1, e2, -⟩ := K.2.2 _ _ h1
  exact ⟨c', k, comp, t, e1, by rw [e2]; exact h2, r⟩
theorem OArr.nostat {a : Addr} {ty : FieldType} {n : Nat} {f : Nat → Value} (A : OArr Z h a ty n f) : ∀ cell : Cell, h[a]? = some cell → cell.vm.isStatics = false := by
  obtain ⟨cl, A, -⟩ := A; exact A.nostat
theorem o_stak {h' : Heap} {ws : List Addr} {C nm d : String} {v : Value} (F : Sta Z h C nm d v) (K : Keep h h' ws) (q : ∀ x ∈ ws, ∀ cell : Cell, h[x]? = some cell → cell.vm.isStatics = false) : Sta Z h' C nm d v := by
  obtain ⟨cf, i, k, f, st, cell, h1, h2, h3, h4, h5, h6, h7⟩ := F
  exact ⟨cf, i, k, f, st, cell, h1, h2, h3, h4, K.2.1 st cell h5 (fun hm => by rw [q st hm cell h5] at h6; cases h6), h6, h7⟩
theorem o_idx {j : Int32} {n : Nat} (h0 : 0 ≤ j.toInt) (h1 : j.toInt < (n : Int)) : j.toInt = (j.toNatClampNeg : Int) ∧ j.toNatClampNeg < n := by
  constructor
  · simp only [Int32.toNatClampNeg]; omega
  · simp only [Int32.toNatClampNeg]; omega
theorem o_i32 {a b : Int32} (h1 : -2147483648 ≤ a.toInt + b.toInt) (h2 : a.toInt + b.toInt < 2147483648) : (a + b).toInt = a.toInt + b.toInt := by
  rw [Int32.toInt_add, Int.bmod_def]
  split <;> omega
theorem o_toArv {a : Addr} {ty : FieldType} {N : Nat} {f : Nat → Value} (A : OArr Z h a ty N f) (hN : N < 2147483648) (hf : ∀ i, i < N → fits ty (f i) = true) : ∃ k, Arv Z h a k ty (Int32.ofNat N) ((List.range N).map f) .null := by
  obtain ⟨cl, A, S, H⟩ := A
  have e : (Int32.ofNat N).toInt = (N : Int) := Int32.toInt_ofNat_of_lt (by omega)
  obtain ⟨q1, q2⟩ := o_clamp e
  have g : ∀ i, i < N → ((List.range N).map f).getD i .null = f i := fun i hi => by
    rw [List.getD_eq_getElem?_getD, List.getElem?_map, List.getElem?_range hi]; rfl
  refine ⟨cl.cls, cl, A, rfl, by rw [q2]; exact S, q1, fun i hi => ?_, fun i hi => ?_⟩
  · rw [S] at hi; rw [g i hi]; exact H i hi
  · rw [S] at hi; rw [g i hi]; exact hf i hi
theorem o_acopy0 (G : OG l Z y bytes maxl ret n0 p e R s m args below meth c T h cells slots) {index W : Nat} {a b : Addr} {ty ty' : FieldType} {N M S D : Nat} {f g : Nat → Value} {sp dp nn : Int32} (A : OArr Z h a ty N f) (B : OArr Z h b ty' M g) (hfA : ∀ i, i < N → fits ty (f i) = true) (hfB : ∀ i, i < M → fits ty' (g i) = true) (hN : N < 2147483648) (hM : M < 2147483648) (hk : (ty = ty' ∧ refKind ty = false) ∨ (refKind ty = true ∧ refKind ty' = true)) (hS : sp.toInt = (S : Int)) (hD : dp.toInt = (D : Int)) (hn : nn = 0) (h1 : S ≤ N) (h2 : D ≤ M)
    (w1 : (Jvm.Cond.methodLink y.cls index Jvm.Stand.acN).before a0 Z = true) (w2 : (Jvm.Cond.native Jvm.Stand.acN).before a0 Z = true) (w3 : (Jvm.Cond.static Jvm.Stand.acN).before a0 Z = true) (w4 : (Jvm.Cond.initialized "java/lang/System").before a0 Z = true) (hg : n0 ≤ b) (hsz : Ls.size = maxl) (hd : decode bytes pc = .ok (.invokestatic index, 3)) (hp : pc + 3 = pc') (hfr : 1 ≤ R.frames) (hW : (rest.map fun v => v.category).sum ≤ W) (hlo : W + (nativeFrameWords "java/lang/System" "arraycopy" 5 + 11) ≤ R.locals)
    (k : ∀ (T' : State) (h' : Heap), OG l Z y bytes maxl ret n0 p e R s m args below meth c T' h' cells slots → Keep h h' [b] → OArr Z h' b ty' M g → OFin p e below EE T' (mkF m pc' Ls rest)) : OFin p e below EE T (mkF m pc Ls (.int nn :: .int dp :: .ref b :: .int sp :: .ref a :: rest)) := by
  subst hp hn
  obtain ⟨hx, hby, hml, hown, hnm, hret, hlk, hZ, eT, hz, locs, X, Nf⟩ := G
  obtain ⟨k1, V1⟩ := o_toArv A hN hfA
  obtain ⟨k2, V2⟩ := o_toArv B hM hfB
  obtain ⟨s1, s2⟩ := o_clamp hS
  obtain ⟨d1, d2⟩ := o_clamp hD
  have z0 : (0 : Int32).toNatClampNeg = 0 := rfl
  have n1 : (Int32.ofNat N).toNatClampNeg = N := (o_clamp (Int32.toInt_ofNat_of_lt (by omega))).2
  have n2 : (Int32.ofNat M).toNatClampNeg = M := (o_clamp (Int32.toInt_ofNat_of_lt (by omega))).2
  obtain ⟨T', h', L, X', e', N', K', V', st⟩ := cpA X hx hZ hown w1 w2 w3 w4 eT (us := []) V1 V2 (hk.imp id (fun q => ⟨q.1, q.2, trivial⟩)) s1 d1 (by decide) (by rw [s2, z0, n1]; omega) (by rw [d2, z0, n2]; omega) (by rw [z0]; rfl) (by rw [d2, z0]; simp; omega) Nf hg (g := (mkF m pc Ls (.int 0 :: .int dp :: .ref b :: .int sp :: .ref a :: rest))) rfl (by show Ls.size = _; rw [hml]; exact hsz) rfl (hb hby hd) hfr (W := W) (by show 2 * 0 + _ ≤ _; omega) hlo
  refine o_step st (k T' h' ⟨hx, hby, hml, hown, hnm, hret, hlk, hZ, e', Nat.le_trans hz K'.1, _, X', N'⟩ K' ?_)
  rw [d2, z0] at V'
  obtain ⟨cl, A', -, S', -, H', -⟩ := V'
  refine ⟨cl, A', by rw [S', n2], fun j hj => ?_⟩
  rw [H' j (by rw [S', n2]; exact hj)]
  simp only [List.append_nil, Nat.add_zero, List.take_append_drop]
  rw [List.getD_eq_getElem?_getD, List.getElem?_map, List.getElem?_range hj]; rfl
theorem o_acopy (G : OG l Z y bytes maxl ret n0 p e R s m args below meth c T h cells slots) {index W : Nat} {a b : Addr} {ty : FieldType} {N M S D L : Nat} {f g : Nat → Value} {sp dp nn : Int32} (A : OArr Z h a ty N f) (B : OArr Z h b ty M g) (hfA : ∀ i, i < N → fits ty (f i) = true) (hfB : ∀ i, i < M → fits ty (g i) = true) (hN : N < 2147483648) (hM : M < 2147483648) (hk : refKind ty = false) (hS : sp.toInt = (S : Int)) (hD : dp.toInt = (D : Int)) (hn : nn.toInt = (L : Int)) (h1 : S + L ≤ N) (h2 : D + L ≤ M)
    (w1 : (Jvm.Cond.methodLink y.cls index Jvm.Stand.acN).before a0 Z = true) (w2 : (Jvm.Cond.native Jvm.Stand.acN).before a0 Z = true) (w3 : (Jvm.Cond.static Jvm.Stand.acN).before a0 Z = true) (w4 : (Jvm.Cond.initialized "java/lang/System").before a0 Z = true) (hg : n0 ≤ b) (hsz : Ls.size = maxl) (hd : decode bytes pc = .ok (.invokestatic index, 3)) (hp : pc + 3 = pc') (hfr : 1 ≤ R.frames) (hW : (rest.map fun v => v.category).sum ≤ W) (hlo : W + (nativeFrameWords "java/lang/System" "arraycopy" 5 + 11) ≤ R.locals)
    (k : ∀ (T' : State) (h' : Heap) (g' : Nat → Value), OG l Z y bytes maxl ret n0 p e R s m args below meth c T' h' cells slots → Keep h h' [b] → OArr Z h' b ty M g' → (∀ j, j < M → g' j = if D ≤ j ∧ j < D + L then f (S + (j - D)) else g j) → OFin p e below EE T' (mkF m pc' Ls rest)) : OFin p e below EE T (mkF m pc Ls (.int nn :: .int dp :: .ref b :: .int sp :: .ref a :: rest)) := by
  subst hp
  obtain ⟨hx, hby, hml, hown, hnm, hret, hlk, hZ, eT, hz, locs, X, Nf⟩ := G
  obtain ⟨k1, V1⟩ := o_toArv A hN hfA
  obtain ⟨k2, V2⟩ := o_toArv B hM hfB
  obtain ⟨s1, s2⟩ := o_clamp hS
  obtain ⟨d1, d2⟩ := o_clamp hD
  obtain ⟨t1, t2⟩ := o_clamp hn
  have n1 : (Int32.ofNat N).toNatClampNeg = N := (o_clamp (Int32.toInt_ofNat_of_lt (by omega))).2
  have n2 : (Int32.ofNat M).toNatClampNeg = M := (o_clamp (Int32.toInt_ofNat_of_lt (by omega))).2
  obtain ⟨T', h', LL, X', e', N', K', V', st⟩ := cpA X hx hZ hown w1 w2 w3 w4 eT V1 V2 (Or.inl ⟨rfl, hk⟩) s1 d1 t1 (by rw [s2, t2, n1]; omega) (by rw [d2, t2, n2]; omega) rfl (by rw [d2, t2]; simp; omega) Nf hg (g := (mkF m pc Ls (.int nn :: .int dp :: .ref b :: .int sp :: .ref a :: rest))) rfl (by show Ls.size = _; rw [hml]; exact hsz) rfl (hb hby hd) hfr (W := W) (by show 2 * 0 + _ ≤ _; omega) hlo
  obtain ⟨cl, A', -, S', -, H', -⟩ := V'
  rw [n2] at S'
  refine o_step st (k T' h' (fun j => if D ≤ j ∧ j < D + L then f (S + (j - D)) else g j) ⟨hx, hby, hml, hown, hnm, hret, hlk, hZ, e', Nat.le_trans hz K'.1, _, X', N'⟩ K' ⟨cl, A', S', fun j hj => ?_⟩ (fun _ _ => rfl))
  rw [H' j (by rw [S']; exact hj), d2, t2, s2]
  congr 1
  show _ = if D ≤ j ∧ j < D + L then f (S + (j - D)) else g j
  rw [List.getD_eq_getElem?_getD, List.append_assoc]
  have lt : (List.take D ((List.range M).map g)).length = D := by simp; omega
  by_cases q : j < D
  · rw [List.getElem?_append_left (by rw [lt]; exact q), List.getElem?_take_of_lt q, List.getElem?_map, List.getElem?_range hj, if_neg (by omega)]; rfl
  · rw [List.getElem?_append_right (by rw [lt]; omega), lt]
    by_cases q2 : j < D + L
    · rw [List.getElem?_append_left (by simp; omega), if_pos (by omega), List.getElem?_map, List.getElem?_range (by omega)]
      simp only [Option.map_some, Option.getD_some]
      rw [List.getD_eq_getElem?_getD, List.getElem?_map, List.getElem?_range (by omega)]; rfl
    · rw [List.getElem?_append_right (by simp; omega), if_neg (by omega), List.getElem?_drop]
      have e2 : D + L + (j - D - (List.map (fun i => ((List.range N).map f).getD (S + i) .null) (List.range L)).length) = j := by simp; omega
      rw [e2, List.getElem?_map, List.getElem?_range hj]; rfl
/-- a contract that leaves the heap as it was and returns one value -/
abbrev OVal (h0 : Heap) (r : Value) : Option Value → Heap → Prop := fun v h => v = some r ∧ h0 = h
theorem o_callP (G : OG l Z y bytes maxl ret n0 p e R s m args below meth c T h cells slots) {z : MethodName} {bz : ByteArray} {mz : Nat} {rz : Option FieldType} {rm : Room} {r : Value} {index W : Nat} {argsL st : List Value} (w1 : (Jvm.Cond.methodLink y.cls index z).before a0 Z = true) (w2 : (Jvm.Cond.static z).before a0 Z = true) (hd : decode bytes pc = .ok (.invokestatic index, 3))
    (hy : z.cls ≠ "java/lang/invoke/MethodHandle" ∧ z.cls ≠ "java/lang/invoke/VarHandle") (w3 : (Jvm.Cond.initialized z.cls).before a0 Z = true) (w4 : (Jvm.Cond.code z bz mz rz).before a0 Z = true)
    (hM : OMet l Z z bz mz rz rm argsL.toArray h n0 rm.cells rm.slots (OVal h r)) (hfr : rm.frames + 1 ≤ R.frames) (hlo : W + (mz + 11) + rm.locals ≤ R.locals) (hsz : Ls.size = maxl)
    (hlen : ∀ sig, parseMethodDescriptor z.desc = some sig → argsL.length = sig.parameters.length) (hst : st = argsL.reverse ++ rest) (hW : (rest.map fun v => v.category).sum ≤ W) (hp : pc + 3 = pc') (hc : cells + rm.cells ≤ R.cells) (hs : slots + rm.slots ≤ R.slots)
    (k : ∀ (T' : State), OG l Z y bytes maxl ret n0 p e R s m args below meth c T' h (cells + rm.cells) (slots + rm.slots) → OFin p e below EE T' (mkF m pc' Ls (r :: rest))) : OFin p e below EE T (mkF m pc Ls st) := by
  refine o_callS G w1 w2 hd hy w3 w4 hM hfr hlo hsz hlen hst hW hp hc hs ?_
  rintro v T' h' G' ⟨hv, hh⟩
  subst hv hh
  exact k T' G'
end OwnKit
theorem ow {Z : State} {a0 : Array Value} (hw : ∀ d ∈ tables_1, d.before a0 Z = true) (i : Nat) {d : Jvm.Cond} (h : tables_1[i]? = some d) : d.before a0 Z = true := hw d (List.mem_of_getElem? h)
theorem pd_0 : parseMethodDescriptor "(C)Z" = some ⟨[.char], some .boolean⟩ := by decide +kernel
theorem pd_1 : parseMethodDescriptor "(C)[B" = some ⟨[.char], some (.array .byte)⟩ := by decide +kernel
theorem pd_2 : parseMethodDescriptor "([BB)V" = some ⟨[(.array .byte), .byte], none⟩ := by decide +kernel
theorem pd_3 : parseMethodDescriptor "([CI[BII)I" = some ⟨[(.array .char), .int, (.array .byte), .int, .int], some .int⟩ := by decide +kernel
theorem pd_4 : parseMethodDescriptor "([CII)[B" = some ⟨[(.array .char), .int, .int], some (.array .byte)⟩ := by decide +kernel
theorem pd_5 : parseMethodDescriptor "([BI)B" = some ⟨[(.array .byte), .int], some .byte⟩ := by decide +kernel
theorem pd_6 : parseMethodDescriptor "([CIILjava/lang/Void;)V" = some ⟨[(.array .char), .int, .int, (.object "java/lang/Void")], none⟩ := by decide +kernel
theorem pd_7 : parseMethodDescriptor "()B" = some ⟨[], some .byte⟩ := by decide +kernel
theorem pd_8 : parseMethodDescriptor "()I" = some ⟨[], some .int⟩ := by decide +kernel
theorem pd_9 : parseMethodDescriptor "([BI[BII)I" = some ⟨[(.array .byte), .int, (.array .byte), .int, .int], some .int⟩ := by decide +kernel
theorem pd_10 : parseMethodDescriptor "(Ljava/lang/String;I)Z" = some ⟨[(.object "java/lang/String"), .int], some .boolean⟩ := by decide +kernel
theorem pd_11 : parseMethodDescriptor "(I)V" = some ⟨[.int], none⟩ := by decide +kernel
theorem pd_12 : parseMethodDescriptor "(Ljava/lang/String;)V" = some ⟨[(.object "java/lang/String")], none⟩ := by decide +kernel
theorem pd_13 : parseMethodDescriptor "([BIB)V" = some ⟨[(.array .byte), .int, .byte], none⟩ := by decide +kernel
theorem pd_14 : parseMethodDescriptor "(ILjava/lang/String;)V" = some ⟨[.int, (.object "java/lang/String")], none⟩ := by decide +kernel
theorem pd_15 : parseMethodDescriptor "(Ljava/lang/String;)Ljava/lang/AbstractStringBuilder;" = some ⟨[(.object "java/lang/String")], some (.object "java/lang/AbstractStringBuilder")⟩ := by decide +kernel
theorem pd_16 : parseMethodDescriptor "(II)V" = some ⟨[.int, .int], none⟩ := by decide +kernel
theorem pd_17 : parseMethodDescriptor "(II)I" = some ⟨[.int, .int], some .int⟩ := by decide +kernel
theorem pd_18 : parseMethodDescriptor "([BII)[B" = some ⟨[(.array .byte), .int, .int], some (.array .byte)⟩ := by decide +kernel
theorem pd_19 : parseMethodDescriptor "()[B" = some ⟨[], some (.array .byte)⟩ := by decide +kernel
theorem pd_20 : parseMethodDescriptor "()Z" = some ⟨[], some .boolean⟩ := by decide +kernel
theorem pd_21 : parseMethodDescriptor "(Ljava/lang/AbstractStringBuilder;Ljava/lang/Void;)V" = some ⟨[(.object "java/lang/AbstractStringBuilder"), (.object "java/lang/Void")], none⟩ := by decide +kernel
theorem pd_22 : parseMethodDescriptor "(Ljava/lang/StringBuilder;)V" = some ⟨[(.object "java/lang/StringBuilder")], none⟩ := by decide +kernel
theorem pd_23 : parseMethodDescriptor "(IIILjava/util/function/BiFunction;)I" = some ⟨[.int, .int, .int, (.object "java/util/function/BiFunction")], some .int⟩ := by decide +kernel
theorem pd_24 : parseMethodDescriptor "(III)V" = some ⟨[.int, .int, .int], none⟩ := by decide +kernel
theorem pd_25 : parseMethodDescriptor "([BII)Ljava/lang/String;" = some ⟨[(.array .byte), .int, .int], some (.object "java/lang/String")⟩ := by decide +kernel
theorem pd_26 : parseMethodDescriptor "(II)Ljava/lang/String;" = some ⟨[.int, .int], some (.object "java/lang/String")⟩ := by decide +kernel
theorem pd_27 : parseMethodDescriptor "([B[B)Z" = some ⟨[(.array .byte), (.array .byte)], some .boolean⟩ := by decide +kernel
theorem pd_28 : parseMethodDescriptor "()V" = some ⟨[], none⟩ := by decide +kernel
theorem pd_29 : parseMethodDescriptor "(Ljava/lang/Object;)Z" = some ⟨[(.object "java/lang/Object")], some .boolean⟩ := by decide +kernel
theorem pd_30 : parseMethodDescriptor "(Ljava/lang/String;)Ljava/lang/StringBuilder;" = some ⟨[(.object "java/lang/String")], some (.object "java/lang/StringBuilder")⟩ := by decide +kernel
theorem pd_31 : parseMethodDescriptor "()Ljava/lang/String;" = some ⟨[], some (.object "java/lang/String")⟩ := by decide +kernel
theorem pd_32 : parseMethodDescriptor "(Ljava/lang/String;)Z" = some ⟨[(.object "java/lang/String")], some .boolean⟩ := by decide +kernel
theorem pd_33 : parseMethodDescriptor "(I)Ljava/lang/String;" = some ⟨[.int], some (.object "java/lang/String")⟩ := by decide +kernel
theorem pd_34 : parseMethodDescriptor "(Ljava/lang/Object;Ljava/lang/String;)Ljava/lang/Object;" = some ⟨[(.object "java/lang/Object"), (.object "java/lang/String")], some (.object "java/lang/Object")⟩ := by decide +kernel
theorem pd_35 : parseMethodDescriptor "(Ljava/lang/String;)Ljava/lang/String;" = some ⟨[(.object "java/lang/String")], some (.object "java/lang/String")⟩ := by decide +kernel
theorem pd_36 : parseMethodDescriptor "(C)Ljava/lang/String;" = some ⟨[.char], some (.object "java/lang/String")⟩ := by decide +kernel
theorem pd_37 : parseMethodDescriptor "([C)V" = some ⟨[(.array .char)], none⟩ := by decide +kernel
theorem pd_38 : parseMethodDescriptor "(Ljava/lang/String;Ljava/lang/String;Ljava/lang/String;Ljava/lang/String;)V" = some ⟨[(.object "java/lang/String"), (.object "java/lang/String"), (.object "java/lang/String"), (.object "java/lang/String")], none⟩ := by decide +kernel
theorem pd_39 : parseMethodDescriptor "(CCZCC)Lcom/example/ronda/ronda/engine/ApiVersion;" = some ⟨[.char, .char, .boolean, .char, .char], some (.object "com/example/ronda/ronda/engine/ApiVersion")⟩ := by decide +kernel
theorem pd_40 : parseMethodDescriptor "(I)Ljava/lang/Integer;" = some ⟨[.int], some (.object "java/lang/Integer")⟩ := by decide +kernel
theorem pd_41 : parseMethodDescriptor "(I)C" = some ⟨[.int], some .char⟩ := by decide +kernel
section OwnWide
variable {l : Launch} {Z : State} {y : MethodName} {bytes : ByteArray} {maxl : Nat} {ret : Option FieldType} {n0 : Nat} {p : Program} {e : Env} {R : Room} {s : State} {m : MethodId} {args : Array Value} {below : List Frame} {meth : Method} {c : Code} {T : State} {h : Heap} {cells slots ck sk : Nat} {EE : Option Value → State → List Loc → Prop} {pc pc' : Nat} {Ls : Array Slot} {rest : List Value} {a0 : Array Value}
/-- a wide body's contract: what the tables must be at its start, what they are at its end -/
def OMetW (l : Launch) (Z : State) (y : MethodName) (bytes : ByteArray) (maxl : Nat) (ret : Option FieldType) (rm : Room) (as' : Array Value) (h0 : Heap) (n0 : Nat) (ck sk : Nat) (V : Vm → Prop) (Q : Option Value → Heap → Vm → Prop) : Prop :=
  ∀ ws : List Jvm.Cond, MetFree l y (head1 (Jvm.Cond.code y bytes maxl ret :: ws) rm) (fun a U => a = as' ∧ Z.Warmed39 U.vm ∧ U.heap = h0 ∧ V U.vm) (fun _ _ _ _ _ => True) (fun _ U o U' => ∃ v L, o = .returned v ∧ (Fr n0 L ∧ n0 ≤ U'.heap.size ∧ Q v U'.heap U'.vm) ∧ ReturnedEndW U o U' L ck sk)
theorem o_bodyW {rm : Room} {as' : Array Value} {h0 : Heap} {V : Vm → Prop} {QW : Option Value → Heap → Vm → Prop} (hy : plainFor y = true) (hent : ∀ m, entryFrame m as' maxl = mkF m 0 Ls [])
    (body : ∀ (p : Program) (e : Env) (s : State) (m : MethodId) (below : List Frame) (meth : Method) (c : Code) (s₁ : State) (vm0 : Vm), OG l Z y bytes maxl ret h0.size p e rm (s.setVm vm0) m as' below meth c s₁ h0 0 0 → s.Since vm0 h0.size → s.heap = h0 → V vm0 → OFin p e below (OW n0 s QW ck sk) s₁ (mkF m 0 Ls [])) : OMetW l Z y bytes maxl ret rm as' h0 n0 ck sk V QW := by
  intro ws
  refine MetFree.of_bodySF hy hisR ?_
  intro p e s m args below meth c s₁ Bd hml0 hP hK
  obtain ⟨ha, hZ, hh, hV⟩ := hP
  subst ha
  have e0 : s₁.heap = h0 := by rw [← hh, Bd.state]; rfl
  have k := body p e s m below meth c s₁ s.vm ⟨Bd.exec, Bd.bytes, hml0, findClass_of_methodNamed Bd.named, (name_of_methodNamed Bd.named Bd.method).1, Bd.returns, Bd.notSynchronized, hZ, e0, Nat.le_refl _, [], Stand.of_body Bd, Fr.nil _⟩ ((State.WarmedH.refl s).since _) hh hV
  rw [← hent m] at k
  obtain ⟨s₂, o, h1, h2, h3, v, L, rfl, hq, hf⟩ := k
  exact ⟨s₂, _, h1, h2, h3, v, L, rfl, hq, hf⟩
theorem o_weak {n1 : Nat} (h1 : n0 ≤ n1) (G : OG l Z y bytes maxl ret n1 p e R s m args below meth c T h cells slots) : OG l Z y bytes maxl ret n0 p e R s m args below meth c T h cells slots := by
  obtain ⟨hx, hby, hml, hown, hnm, hret, hlk, hZ, eT, hz, locs, X, N⟩ := G
  exact ⟨hx, hby, hml, hown, hnm, hret, hlk, hZ, eT, Nat.le_trans h1 hz, locs, X, fun y hy => Nat.le_trans h1 (N y hy)⟩
theorem o_backW {z : MethodName} {bz : ByteArray} {mz : Nat} {rz : Option FieldType} {rm : Room} {len W n1 : Nat} {as' : Array Value} {V : Vm → Prop} {QW : Option Value → Heap → Vm → Prop} (hM : OMetW l Z z bz mz rz rm as' h n1 rm.cells rm.slots V QW) (hZ : Z.Warmed39 s.vm) (wc : (Jvm.Cond.code z bz mz rz).before a0 Z = true) (wz : (Jvm.Cond.initialized z.cls).before a0 Z = true) (hf : rm.frames + 1 ≤ R.frames) (hl : W + (mz + 11) + rm.locals ≤ R.locals) :
    BackS l R p e below s args z len W (fun A a => a = as' ∧ A.U.heap = h ∧ V A.U.vm ∧ A.cells + rm.cells ≤ R.cells ∧ A.slots + rm.slots ≤ R.slots)
      (fun A _ v B => ∃ L, (Fr n1 L ∧ n1 ≤ B.U.heap.size ∧ QW v B.U.heap B.U.vm) ∧ B.locs = A.locs ++ L ∧ B.cells = A.cells + rm.cells ∧ B.slots = A.slots + rm.slots) :=
  BackS.of_freeW (bytes := bz) (maxL := mz) (ret := rz) (E := fun _ _ o t L k n => k = rm.cells ∧ n = rm.slots ∧ ∃ v, o = .returned v ∧ (Fr n1 L ∧ n1 ≤ t.heap.size ∧ QW v t.heap t.vm)) (hM []) hf hl
    (fun m meth c A a Y hp => have hU : Z.Warmed39 A.U.vm := wtrans hZ Y.warmed
      ⟨by show (Cond.and _ .tt).before a A.U = true; rw [Cond.before_and, mv hU wc]; rfl, mv hU wc, mv hU wz, hp.2.2.2.1, hp.2.2.2.2⟩)
    (fun m meth c A a g mk Y hp => ⟨hp.1, wtrans hZ Y.warmed, hp.2.1, hp.2.2.1⟩) (fun _ _ _ _ _ _ _ _ _ => trivial)
    (fun _ _ _ _ ⟨v, L, h1, h2, h3⟩ => ⟨L, _, _, h3, rfl, rfl, v, h1, h2⟩)
    (fun m meth c A a g mk v t L k n Y hp _ _ ⟨e1, e2, v', e3, e4⟩ => by cases e3; subst e1 e2; exact ⟨L, e4, rfl, rfl, rfl⟩)
theorem o_callSW {vm0 : Vm} {k0 n1 : Nat} (G : OG l Z y bytes maxl ret n1 p e R (s.setVm vm0) m args below meth c T h cells slots) (hS : s.Since vm0 k0) (hk : k0 ≤ h.size) {z : MethodName} {bz : ByteArray} {mz : Nat} {rz : Option FieldType} {rm : Room} {V : Vm → Prop} {QW : Option Value → Heap → Vm → Prop} {index W : Nat} {argsL st : List Value} (w1 : (Jvm.Cond.methodLink y.cls index z).before a0 Z = true) (w2 : (Jvm.Cond.static z).before a0 Z = true) (hd : decode bytes pc = .ok (.invokestatic index, 3))
    (hy : z.cls ≠ "java/lang/invoke/MethodHandle" ∧ z.cls ≠ "java/lang/invoke/VarHandle") (w3 : (Jvm.Cond.initialized z.cls).before a0 Z = true) (w4 : (Jvm.Cond.code z bz mz rz).before a0 Z = true) (hM : OMetW l Z z bz mz rz rm argsL.toArray h n1 rm.cells rm.slots V QW) (hV : ∀ vm1, (s.setVm vm0).WarmedH vm1 → V vm1)
    (hfr : rm.frames + 1 ≤ R.frames) (hlo : W + (mz + 11) + rm.locals ≤ R.locals) (hsz : Ls.size = maxl) (hlen : ∀ sig, parseMethodDescriptor z.desc = some sig → argsL.length = sig.parameters.length) (hst : st = argsL.reverse ++ rest) (hW : (rest.map fun v => v.category).sum ≤ W) (hp : pc + 3 = pc') (hc : cells + rm.cells ≤ R.cells) (hs : slots + rm.slots ≤ R.slots)
    (k : ∀ (v : Option Value) (T' : State) (h' : Heap) (vm1 : Vm), OG l Z y bytes maxl ret n1 p e R (s.setVm vm1) m args below meth c T' h' (cells + rm.cells) (slots + rm.slots) → s.Since vm1 h'.size → (s.setVm vm0).Warmed39 vm1 → QW v h' vm1 → OFin p e below EE T' (mkF m pc' Ls (v.toList ++ rest))) : OFin p e below EE T (mkF m pc Ls st) := by
  subst hp hst
  obtain ⟨hx, hby, hml, hown, hnm, hret, hlk, hZ, eT, hz, locs, X, N⟩ := G
  skip
  obtain ⟨v, vm1, ⟨T', L', k', n'⟩, -, X', S', hg', ⟨L, ⟨N', z', hQ⟩, l1, y1, z1⟩, st0⟩ := callSS X hx (y := z) hown (mvT hZ w1) (mvT hZ w2) (mvT hZ w3) (mvT hZ w4) hy (o_backW (W := W) hM hZ w4 w3 hfr hlo) (g := (mkF m pc Ls (argsL.reverse ++ rest))) rfl (by show Ls.size = _; rw [hml]; exact hsz) (argsL := argsL) (rest := rest) hlen rfl (by show 2 * 0 + _ ≤ _; omega) (hb hby hd) (fun vm1 hw1 => ⟨rfl, eT, hV vm1 hw1, hc, hs⟩)
  dsimp only [Pt.U, Pt.locs, Pt.cells, Pt.slots] at X' S' hg' l1 y1 z1 st0 hQ N' z'
  subst l1 y1 z1
  rw [eT] at hg'
  exact o_step (fun _ hr => st0.trans hr) (k v T' T'.heap T'.vm ⟨hx, hby, hml, (S'.1.alike.findClass _ _).trans hown, hnm, hret, hlk, State.Warmed39.trans hZ S'.1, rfl, z', _, X', Fr.app N N'⟩ (hS.trans S' (Nat.le_trans hk hg')) S'.1 hQ)
theorem o_callIW {vm0 : Vm} {k0 n1 : Nat} (G : OG l Z y bytes maxl ret n1 p e R (s.setVm vm0) m args below meth c T h cells slots) (hS : s.Since vm0 k0) (hk : k0 ≤ h.size) {z : MethodName} {bz : ByteArray} {mz : Nat} {rz : Option FieldType} {rm : Room} {V : Vm → Prop} {QW : Option Value → Heap → Vm → Prop} {index W : Nat} {argsL st : List Value} {a : Addr} (hz1 : z.name = "<init>") (w1 : (Jvm.Cond.methodLink y.cls index z).before a0 Z = true) (w2 : (Jvm.Cond.instanceMethod z).before a0 Z = true) (hrz : rz = none) (hd : decode bytes pc = .ok (.invokespecial index, 3))
    (hy : z.cls ≠ "java/lang/invoke/MethodHandle" ∧ z.cls ≠ "java/lang/invoke/VarHandle") (w3 : (Jvm.Cond.initialized z.cls).before a0 Z = true) (w4 : (Jvm.Cond.code z bz mz rz).before a0 Z = true) (hM : OMetW l Z z bz mz rz rm (.ref a :: argsL).toArray h n1 rm.cells rm.slots V QW) (hV : ∀ vm1, (s.setVm vm0).WarmedH vm1 → V vm1)
    (hfr : rm.frames + 1 ≤ R.frames) (hlo : W + (mz + 11) + rm.locals ≤ R.locals) (hsz : Ls.size = maxl) (hlen : ∀ sig, parseMethodDescriptor z.desc = some sig → argsL.length = sig.parameters.length) (hst : st = argsL.reverse ++ .ref a :: rest) (hW : (rest.map fun v => v.category).sum ≤ W) (hp : pc + 3 = pc') (hc : cells + rm.cells ≤ R.cells) (hs : slots + rm.slots ≤ R.slots)
    (k : ∀ (v : Option Value) (T' : State) (h' : Heap) (vm1 : Vm), OG l Z y bytes maxl ret n1 p e R (s.setVm vm1) m args below meth c T' h' (cells + rm.cells) (slots + rm.slots) → s.Since vm1 h'.size → (s.setVm vm0).Warmed39 vm1 → QW v h' vm1 → OFin p e below EE T' (mkF m pc' Ls (v.toList ++ rest))) : OFin p e below EE T (mkF m pc Ls st) := by
  subst hp hst
  obtain ⟨hx, hby, hml, hown, hnm, hret, hlk, hZ, eT, hz, locs, X, N⟩ := G
  subst hrz
  obtain ⟨v, vm1, ⟨T', L', k', n'⟩, -, X', S', hg', ⟨L, ⟨N', z', hQ⟩, l1, y1, z1⟩, st0⟩ := X.specialBackS hx (y := z) hz1 hown (mvT hZ w1) (mvT hZ w2) (mvT hZ w4) hy (o_backW (W := W) hM hZ w4 w3 hfr hlo) (g := (mkF m pc Ls (argsL.reverse ++ .ref a :: rest))) rfl (by show Ls.size = _; rw [hml]; exact hsz) (Steps.refl _) (a := a) (argsL := argsL) (rest := rest) hlen rfl (by show 2 * 0 + _ ≤ _; omega) (hb hby hd) (fun vm1 hw1 => ⟨rfl, eT, hV vm1 hw1, hc, hs⟩)
  dsimp only [Pt.U, Pt.locs, Pt.cells, Pt.slots] at X' S' hg' l1 y1 z1 st0 hQ N' z'
  subst l1 y1 z1
  rw [eT] at hg'
  exact o_step (fun _ hr => st0.trans hr) (k v T' T'.heap T'.vm ⟨hx, hby, hml, (S'.1.alike.findClass _ _).trans hown, hnm, hret, hlk, State.Warmed39.trans hZ S'.1, rfl, z', _, X', Fr.app N N'⟩ (hS.trans S' (Nat.le_trans hk hg')) S'.1 hQ)
theorem o_callVW {vm0 : Vm} {k0 n1 : Nat} (G : OG l Z y bytes maxl ret n1 p e R (s.setVm vm0) m args below meth c T h cells slots) (hS : s.Since vm0 k0) (hk : k0 ≤ h.size) {z : MethodName} {bz : ByteArray} {mz : Nat} {rz : Option FieldType} {rm : Room} {V : Vm → Prop} {QW : Option Value → Heap → Vm → Prop} {index W : Nat} {argsL st : List Value} {a : Addr} {C : String} (E : Exa Z h a C) (w1 : (Jvm.Cond.methodLink y.cls index z).before a0 Z = true) (w2 : (Jvm.Cond.instanceMethod z).before a0 Z = true) (w5 : (Jvm.Cond.declares z).before a0 Z = true) (w6 : (Jvm.Cond.selects C z z).before a0 Z = true) (hd : decode bytes pc = .ok (.invokevirtual index, 3))
    (hy : z.cls ≠ "java/lang/invoke/MethodHandle" ∧ z.cls ≠ "java/lang/invoke/VarHandle") (w3 : (Jvm.Cond.initialized z.cls).before a0 Z = true) (w4 : (Jvm.Cond.code z bz mz rz).before a0 Z = true) (hM : OMetW l Z z bz mz rz rm (.ref a :: argsL).toArray h n1 rm.cells rm.slots V QW) (hV : ∀ vm1, (s.setVm vm0).WarmedH vm1 → V vm1)
    (hfr : rm.frames + 1 ≤ R.frames) (hlo : W + (mz + 11) + rm.locals ≤ R.locals) (hsz : Ls.size = maxl) (hlen : ∀ sig, parseMethodDescriptor z.desc = some sig → argsL.length = sig.parameters.length) (hst : st = argsL.reverse ++ .ref a :: rest) (hW : (rest.map fun v => v.category).sum ≤ W) (hp : pc + 3 = pc') (hc : cells + rm.cells ≤ R.cells) (hs : slots + rm.slots ≤ R.slots)
    (k : ∀ (v : Option Value) (T' : State) (h' : Heap) (vm1 : Vm), OG l Z y bytes maxl ret n1 p e R (s.setVm vm1) m args below meth c T' h' (cells + rm.cells) (slots + rm.slots) → s.Since vm1 h'.size → (s.setVm vm0).Warmed39 vm1 → QW v h' vm1 → OFin p e below EE T' (mkF m pc' Ls (v.toList ++ rest))) : OFin p e below EE T (mkF m pc Ls st) := by
  subst hp hst
  obtain ⟨hx, hby, hml, hown, hnm, hret, hlk, hZ, eT, hz, locs, X, N⟩ := G
  obtain ⟨cq, kq, qa, qb, qc⟩ := isOf hZ eT E
  obtain ⟨v, vm1, ⟨T', L', k', n'⟩, -, X', S', hg', ⟨L, ⟨N', z', hQ⟩, l1, y1, z1⟩, st0⟩ := X.virtualBackS hx (y := z) (z := z) hown (mvT hZ w1) (mvT hZ w5) (notFace_of_selects (args := #[]) (mvT hZ w6)) (mvT hZ w6) (mvT hZ w2) hy (o_backW (W := W) hM hZ w4 w3 hfr hlo) qa qc (g := (mkF m pc Ls (argsL.reverse ++ .ref a :: rest))) rfl (by show Ls.size = _; rw [hml]; exact hsz) (Steps.refl _) (argsL := argsL) (rest := rest) hlen rfl (by show 2 * 0 + _ ≤ _; omega) (hb hby hd) (fun vm1 hw1 => ⟨rfl, eT, hV vm1 hw1, hc, hs⟩)
  dsimp only [Pt.U, Pt.locs, Pt.cells, Pt.slots] at X' S' hg' l1 y1 z1 st0 hQ N' z'
  subst l1 y1 z1
  rw [eT] at hg'
  exact o_step (fun _ hr => st0.trans hr) (k v T' T'.heap T'.vm ⟨hx, hby, hml, (S'.1.alike.findClass _ _).trans hown, hnm, hret, hlk, State.Warmed39.trans hZ S'.1, rfl, z', _, X', Fr.app N N'⟩ (hS.trans S' (Nat.le_trans hk hg')) S'.1 hQ)
theorem o_returnW {vm0 : Vm} {k0 n1 : Nat} {QW : Option Value → Heap → Vm → Prop}  (G : OG l Z y bytes maxl none n1 p e R (s.setVm vm0) m args below meth c T h cells slots) (hS : s.Since vm0 k0) (hk : k0 ≤ h.size)  (hn : n0 ≤ n1) (hd : decode bytes pc = .ok (.return_, 1)) (hq : ∀ vm1, (s.setVm vm0).WarmedH vm1 → QW none h vm1) (hc : cells ≤ ck) (hs : slots ≤ sk) : OFin p e below (OW n0 s QW ck sk) T (mkF m pc Ls []) := by
  obtain ⟨hx, hby, -, -, -, hret, hlk, -, eT, hz, locs, X, N⟩ := G
  obtain ⟨fs, hr, hrun, hended, hW⟩ := X.leaveW hS (by rw [eT]; exact hk) (v := none) (fun _ => rfl) hlk
  refine ⟨_, _, X.returnOut hx hret (hb hby hd) hr, hrun, hended, _, _, rfl, ⟨fun y hy => Nat.le_trans hn (N y hy), ?_, ?_⟩, ⟨_, rfl⟩, hW.2.1, hW.2.2.1, hW.2.2.2.mono hc hs⟩
  · show n0 ≤ T.heap.size
    rw [eT]; exact Nat.le_trans hn hz
  · show QW _ T.heap T.vm
    rw [eT]; exact hq _ X.warmed
theorem o_areturnW {vm0 : Vm} {k0 n1 : Nat} {QW : Option Value → Heap → Vm → Prop} {v : Value} {t : FieldType} (G : OG l Z y bytes maxl (some t) n1 p e R (s.setVm vm0) m args below meth c T h cells slots) (hS : s.Since vm0 k0) (hk : k0 ≤ h.size) (hn1 : narrow t v = v) (ht : t.isReference = true) (hv : v.isRef = true) (hn : n0 ≤ n1) (hd : decode bytes pc = .ok (.areturn, 1)) (hq : ∀ vm1, (s.setVm vm0).WarmedH vm1 → QW (some v) h vm1) (hc : cells ≤ ck) (hs : slots ≤ sk) : OFin p e below (OW n0 s QW ck sk) T (mkF m pc Ls (v :: rest)) := by
  obtain ⟨hx, hby, -, -, -, hret, hlk, -, eT, hz, locs, X, N⟩ := G
  obtain ⟨fs, hr, hrun, hended, hW⟩ := X.leaveW hS (by rw [eT]; exact hk) (v := (some v)) (fun h => by rw [hret] at h; cases h) hlk
  refine ⟨_, _, retOut X hx hret hn1 (Or.inr (Or.inr (Or.inr (Or.inr ⟨rfl, ht, hv⟩)))) (hb hby hd) hr, hrun, hended, _, _, rfl, ⟨fun y hy => Nat.le_trans hn (N y hy), ?_, ?_⟩, ⟨_, rfl⟩, hW.2.1, hW.2.2.1, hW.2.2.2.mono hc hs⟩
  · show n0 ≤ T.heap.size
    rw [eT]; exact Nat.le_trans hn hz
  · show QW _ T.heap T.vm
    rw [eT]; exact hq _ X.warmed
theorem o_nreturnW {vm0 : Vm} {k0 n1 : Nat} {QW : Option Value → Heap → Vm → Prop} {v : Int32} {t : FieldType} (G : OG l Z y bytes maxl (some t) n1 p e R (s.setVm vm0) m args below meth c T h cells slots) (hS : s.Since vm0 k0) (hk : k0 ≤ h.size) (ht : t = .boolean ∨ t = .byte ∨ t = .char ∨ t = .short) (hn : n0 ≤ n1) (hd : decode bytes pc = .ok (.ireturn, 1)) (hq : ∀ vm1, (s.setVm vm0).WarmedH vm1 → QW (some (.int (nar t v))) h vm1) (hc : cells ≤ ck) (hs : slots ≤ sk) : OFin p e below (OW n0 s QW ck sk) T (mkF m pc Ls (.int v :: rest)) := by
  obtain ⟨hx, hby, -, -, -, hret, hlk, -, eT, hz, locs, X, N⟩ := G
  obtain ⟨fs, hr, hrun, hended, hW⟩ := X.leaveW hS (by rw [eT]; exact hk) (v := (some (.int (nar t v)))) (fun h => by rw [hret] at h; cases h) hlk
  refine ⟨_, _, retN X hx hret ht (hb hby hd) hr, hrun, hended, _, _, rfl, ⟨fun y hy => Nat.le_trans hn (N y hy), ?_, ?_⟩, ⟨_, rfl⟩, hW.2.1, hW.2.2.1, hW.2.2.2.mono hc hs⟩
  · show n0 ≤ T.heap.size
    rw [eT]; exact Nat.le_trans hn hz
  · show QW _ T.heap T.vm
    rw [eT]; exact hq _ X.warmed
theorem o_chw {vm0 vm1 : Vm} {EL : List (String × Nat)} (hZ : Z.Warmed39 vm0) (hW : (s.setVm vm0).WarmedH vm1) (w : EW Z a0 EL) (H : CHv Z EL vm0 h) : CHv Z EL vm1 h :=
  (CHv.later (h' := h) hZ (hW := (show (Wst Z vm0 h).Warmed39 vm1 from hW.wide)) w ⟨Nat.le_refl _, fun _ _ q => q⟩ (Or.inl hW.interned_eq) H).1
theorem OG.wz {n1 : Nat} {vm0 : Vm} (G : OG l Z y bytes maxl ret n1 p e R (s.setVm vm0) m args below meth c T h cells slots) : Z.Warmed39 vm0 := G.2.2.2.2.2.2.2.1
theorem o_ldcO {vm0 : Vm} {k0 n1 : Nat} (G : OG l Z y bytes maxl ret n1 p e R (s.setVm vm0) m args below meth c T h cells slots) (hS : s.Since vm0 k0) (hk : k0 ≤ h.size) {text : String} {index n : Nat} {EL : List (String × Nat)} (w : (Jvm.Cond.stringLink y.cls index text).before a0 Z = true) (wS : ∀ a ∈ Bundle.stringAtoms, a.before a0 Z = true) (hEL : EW Z a0 EL) (H : CHv Z EL vm0 h) (hd : decode bytes pc = .ok (.ldc index, 2)) (hp : pc + 2 = pc') (hn : 4 * text.toList.length ≤ n) (hbig : n ≤ 536870912) (hc : cells + 2 ≤ R.cells) (hs : slots + (n + 4) ≤ R.slots)
    (k : ∀ (T' : State) (h' : Heap) (vm1 : Vm) (a : Addr), OG l Z y bytes maxl ret n1 p e R (s.setVm vm1) m args below meth c T' h' (cells + 2) (slots + (n + 4)) → Ext h h' → s.Since vm1 h'.size → CHr Z EL vm0 h vm1 h' → OFin p e below EE T' (mkF m pc' Ls (.ref a :: rest))) : OFin p e below EE T (mkF m pc Ls rest) := by
  subst hp
  obtain ⟨hx, hby, hml, hown, hnm, hret, hlk, hZ, eT, hz, locs, X, Nf⟩ := G
  obtain ⟨a, T', h', k1, X', e', E', S', hk1, W', ho', C', L', st⟩ := ldcOH X hx hZ hown w wS eT hS hk hEL H (g := (mkF m pc Ls rest)) rfl (hb hby hd) hn hbig hc hs
  exact o_step st (k T' h' T'.vm a ⟨hx, hby, hml, ho', hnm, hret, hlk, W', e', Nat.le_trans hz E'.1, _, X', Nf⟩ E' ⟨S'.1, S'.2.mono hk1⟩ C')
theorem o_ldcC {vm0 : Vm} {k0 n1 : Nat} (G : OG l Z y bytes maxl ret n1 p e R (s.setVm vm0) m args below meth c T h cells slots) (hS : s.Since vm0 k0) (hk : k0 ≤ h.size) {text : String} {index n N : Nat} {EL : List (String × Nat)} {f : Nat → Int32} (w : (Jvm.Cond.stringLink y.cls index text).before a0 Z = true) (wS : ∀ a ∈ Bundle.stringAtoms, a.before a0 Z = true) (hEL : EW Z a0 EL) (hmem : (y.cls, index) ∈ EL) (H : CHv Z EL vm0 h)
    (ht : ∀ c ∈ text.toList, c.toNat < 256) (hl : text.toList.length = N) (hN : N < 2147483648) (hf : ∀ i, i < N → (text.toList.map (fun c => Value.int (Jvm.Lit.byteI c.toNat.toUInt16))).getD i (.int 0) = .int (f i)) (hd : decode bytes pc = .ok (.ldc index, 2)) (hp : pc + 2 = pc') (hn : 4 * text.toList.length ≤ n) (hbig : n ≤ 536870912) (hc : cells + 2 ≤ R.cells) (hs : slots + (n + 4) ≤ R.slots)
    (k : ∀ (T' : State) (h' : Heap) (vm1 : Vm) (a b : Addr), OG l Z y bytes maxl ret n1 p e R (s.setVm vm1) m args below meth c T' h' (cells + 2) (slots + (n + 4)) → Ext h h' → s.Since vm1 h'.size → CHr Z EL vm0 h vm1 h' → Exa Z h' a "java/lang/String" → Fld Z h' a "java/lang/String" "value" "[B" (.ref b) → Fld Z h' a "java/lang/String" "coder" "B" (.int (0 : Int32)) → OArr Z h' b .byte N (fun j => .int (f j)) → (∀ x, Safe Z EL vm1 h' x → x ≠ a ∧ x ≠ b) → OFin p e below EE T' (mkF m pc' Ls (.ref a :: rest))) : OFin p e below EE T (mkF m pc Ls rest) := by
  subst hp
  obtain ⟨hx, hby, hml, hown, hnm, hret, hlk, hZ, eT, hz, locs, X, Nf⟩ := G
  have hz0 : ¬ (Int32.ofNat N) < 0 ∧ (Int32.ofNat N).toNatClampNeg = N := o_clamp (Int32.toInt_ofNat_of_lt hN)
  obtain ⟨a, T', h', k1, b, kb, X', e', E', S', hk1, W', ho', X1, F1, F2, A1, -, -, C', L', NE, st⟩ := ldcCH X hx hZ hown w wS eT hS hk hEL hmem H ⟨ht, rfl⟩ (z := Int32.ofNat N) hz0.1 (by rw [hz0.2, List.length_map, hl]) (g := (mkF m pc Ls rest)) rfl (hb hby hd) hn hbig hc hs
  obtain ⟨cl, A, -, Sz, -, Hh, -⟩ := A1
  rw [hz0.2] at Sz
  exact o_step st (k T' h' T'.vm a b ⟨hx, hby, hml, ho', hnm, hret, hlk, W', e', Nat.le_trans hz E'.1, _, X', Nf⟩ E' ⟨S'.1, S'.2.mono hk1⟩ C' X1 F2 F1 ⟨cl, A, Sz, fun j hj => by rw [Hh j (by rw [Sz]; exact hj), hf j hj]⟩ NE)
end OwnWide

def own_by (c : Int32) : Int32 := c.toInt8.toInt32
theorem own_byn (c : Int32) : nar .byte (own_by c) = own_by c := by
  show c.toInt8.toInt32.toInt8.toInt32 = c.toInt8.toInt32
  simp
theorem d4_0 : decode jdk_43_method_3_code 0 = .ok (.iload_n 0, 1) := by decide +kernel
theorem d4_1 : decode jdk_43_method_3_code 1 = .ok (.sipush 255, 3) := by decide +kernel
theorem d4_4 : decode jdk_43_method_3_code 4 = .ok (.if_icmp .gt 7, 3) := by decide +kernel
theorem d4_7 : decode jdk_43_method_3_code 7 = .ok (.iconst 1, 1) := by decide +kernel
theorem d4_8 : decode jdk_43_method_3_code 8 = .ok (.goto 4, 3) := by decide +kernel
theorem d4_11 : decode jdk_43_method_3_code 11 = .ok (.iconst 0, 1) := by decide +kernel
theorem d4_12 : decode jdk_43_method_3_code 12 = .ok (.ireturn, 1) := by decide +kernel
theorem pn_4 : plainName "java/lang/StringLatin1" = true := by first | (simp [plainName, overriddenIn]; done) | decide +kernel
theorem ef_4 (m : MethodId) (p0 : Int32) : entryFrame m #[(.int p0)] 1 = mkF m 0 #[.val (.int p0)] [] := by first | (simp [entryFrame, mkF, argsToLocals, Value.category]; done) | rfl
def f_4 (p0 : Int32) : Int32 := if (255 : Int32) < p0 then (0 : Int32) else (1 : Int32)
set_option maxRecDepth 65536 in
set_option maxHeartbeats 40000000 in
theorem rm4 {l : Launch} {Z : State} {a0 : Array Value} (hw : ∀ d ∈ tables_1, d.before a0 Z = true) (p0 : Int32) (h0 : Heap) (n0 : Nat) (hz : n0 ≤ h0.size) :
    OMet l Z (⟨"java/lang/StringLatin1", "canEncode", "(C)Z"⟩ : MethodName) jdk_43_method_3_code 1 (some .boolean) ({ frames := 0, cells := 0, slots := 0, locals := 0 } : Room) #[(.int p0)] h0 n0 ({ frames := 0, cells := 0, slots := 0, locals := 0 } : Room).cells ({ frames := 0, cells := 0, slots := 0, locals := 0 } : Room).slots (OVal h0 (.int (f_4 p0))) := by
  refine o_body (plainFor_of_name pn_4) hz (fun m => ef_4 m p0) ?_
  intro p e s m below meth c s₁ G0
  refine o_iloadN G0 d4_0 (pc' := 1) rfl rfl ?_
  refine o_sipush G0 d4_1 (pc' := 4) rfl (v := (255 : Int32)) rfl ?_
  refine o_icmp_gt G0 d4_4 (by decide) (pcT := 11) (by decide) (pc' := 7) rfl (fun hc4 => ?_) (fun hc4 => ?_)
  · refine o_iconst G0 d4_11 (pc' := 12) rfl (v := (0 : Int32)) rfl ?_
    have hq : (nar .boolean (0 : Int32)) = f_4 p0 := by
      rw [f_4, if_pos hc4]
      try rfl
    exact o_nreturn (t := .boolean) G0 (by simp) d4_12 ⟨congrArg (fun z => some (Value.int z)) hq, rfl⟩ (by decide) (by decide)
  · refine o_iconst G0 d4_7 (pc' := 8) rfl (v := (1 : Int32)) rfl ?_
    refine o_goto G0 d4_8 (by decide) (pc' := 12) rfl ?_
    have hq : (nar .boolean (1 : Int32)) = f_4 p0 := by
      rw [f_4, if_neg hc4]
      try rfl
    exact o_nreturn (t := .boolean) G0 (by simp) d4_12 ⟨congrArg (fun z => some (Value.int z)) hq, rfl⟩ (by decide) (by decide)
theorem d5_0 : decode jdk_43_method_46_code 0 = .ok (.iconst 1, 1) := by decide +kernel
theorem d5_1 : decode jdk_43_method_46_code 1 = .ok (.newarray .byte, 2) := by decide +kernel
theorem d5_3 : decode jdk_43_method_46_code 3 = .ok (.dup, 1) := by decide +kernel
theorem d5_4 : decode jdk_43_method_46_code 4 = .ok (.iconst 0, 1) := by decide +kernel
theorem d5_5 : decode jdk_43_method_46_code 5 = .ok (.iload_n 0, 1) := by decide +kernel
theorem d5_6 : decode jdk_43_method_46_code 6 = .ok (.i2b, 1) := by decide +kernel
theorem d5_7 : decode jdk_43_method_46_code 7 = .ok (.bastore, 1) := by decide +kernel
theorem d5_8 : decode jdk_43_method_46_code 8 = .ok (.areturn, 1) := by decide +kernel
theorem pn_5 : plainName "java/lang/StringLatin1" = true := by first | (simp [plainName, overriddenIn]; done) | decide +kernel
theorem ef_5 (m : MethodId) (p0 : Int32) : entryFrame m #[(.int p0)] 1 = mkF m 0 #[.val (.int p0)] [] := by first | (simp [entryFrame, mkF, argsToLocals, Value.category]; done) | rfl
set_option maxRecDepth 65536 in
set_option maxHeartbeats 40000000 in
theorem rm5 {l : Launch} {Z : State} {a0 : Array Value} (hw : ∀ d ∈ tables_1, d.before a0 Z = true) (p0 : Int32) (h0 : Heap) (n0 : Nat) (hz : n0 ≤ h0.size) :
    OMet l Z (⟨"java/lang/StringLatin1", "toBytes", "(C)[B"⟩ : MethodName) jdk_43_method_46_code 1 (some (.array .byte)) ({ frames := 0, cells := 1, slots := 1, locals := 0 } : Room) #[(.int p0)] h0 n0 ({ frames := 0, cells := 1, slots := 1, locals := 0 } : Room).cells ({ frames := 0, cells := 1, slots := 1, locals := 0 } : Room).slots (fun v h => ∃ b : Addr, v = some (.ref b) ∧ n0 ≤ b ∧ h0.size ≤ b ∧ Keep h0 h [] ∧ OArr Z h b .byte 1 (fun j => .int (own_by ((fun _ => p0) j)))) := by
  refine o_body (plainFor_of_name pn_5) hz (fun m => ef_5 m p0) ?_
  intro p e s m below meth c s₁ G0
  have K : Keep h0 h0 [] := Keep.refl _ _
  refine o_iconst G0 d5_0 (pc' := 1) rfl (v := (1 : Int32)) rfl ?_
  refine o_newarray G0 (N := 1) (cap := 1) (ow hw 21 rfl) rfl (by decide) (by decide) d5_1 (pc' := 3) rfl (by decide) (by decide) ?_
  intro T1 h1 b1 G1 g1 g_b1 E1 A_b1
  have sz_b1 : h0.size ≤ b1 := Nat.le_trans K.1 (Nat.le_of_eq g1.symm)
  replace K := K.ext E1
  replace A_b1 : OArr Z h1 b1 .byte 1 (fun _ => (.int (0 : Int32))) := A_b1
  refine o_dup G1 d5_3 (pc' := 4) rfl rfl ?_
  refine o_iconst G1 d5_4 (pc' := 5) rfl (v := (0 : Int32)) rfl ?_
  refine o_iloadN G1 d5_5 (pc' := 6) rfl rfl ?_
  obtain ⟨v2, e2⟩ : ∃ z, p0.toInt8.toInt32 = z := ⟨_, rfl⟩
  refine o_i2b G1 d5_6 (pc' := 7) rfl e2 ?_
  refine o_bastore G1 A_b1 g_b1 (i := 0) rfl (by decide) d5_7 (pc' := 8) rfl ?_
  intro T3 h3 G3 W3 A3
  replace K := K.wr W3 (Or.inr sz_b1)
  replace A_b1 := A3
  subst e2
  exact o_areturn G3 rfl rfl rfl d5_8 ⟨b1, rfl, g_b1, sz_b1, K, A_b1.congr (by intro j hj; match j, hj with | 0, _ => exact congrArg Value.int (own_byn p0))⟩ (by decide) (by decide)
theorem d6_0 : decode jdk_42_method_151_code 0 = .ok (.aload_n 0, 1) := by decide +kernel
theorem d6_1 : decode jdk_42_method_151_code 1 = .ok (.invokespecial 1, 3) := by decide +kernel
theorem d6_4 : decode jdk_42_method_151_code 4 = .ok (.aload_n 0, 1) := by decide +kernel
theorem d6_5 : decode jdk_42_method_151_code 5 = .ok (.aload_n 1, 1) := by decide +kernel
theorem d6_6 : decode jdk_42_method_151_code 6 = .ok (.putfield 9, 3) := by decide +kernel
theorem d6_9 : decode jdk_42_method_151_code 9 = .ok (.aload_n 0, 1) := by decide +kernel
theorem d6_10 : decode jdk_42_method_151_code 10 = .ok (.iload_n 2, 1) := by decide +kernel
theorem d6_11 : decode jdk_42_method_151_code 11 = .ok (.putfield 15, 3) := by decide +kernel
theorem d6_14 : decode jdk_42_method_151_code 14 = .ok (.return_, 1) := by decide +kernel
theorem pn_6 : plainName "java/lang/String" = true := by first | (simp [plainName, overriddenIn]; done) | decide +kernel
theorem ef_6 (m : MethodId) (r0 : Addr) (r1 : Addr) (p2 : Int32) : entryFrame m #[(.ref r0), (.ref r1), (.int p2)] 3 = mkF m 0 #[.val (.ref r0), .val (.ref r1), .val (.int p2)] [] := by first | (simp [entryFrame, mkF, argsToLocals, Value.category]; done) | rfl
set_option maxRecDepth 65536 in
set_option maxHeartbeats 40000000 in
theorem rm6 {l : Launch} {Z : State} {a0 : Array Value} (hw : ∀ d ∈ tables_1, d.before a0 Z = true) (r0 : Addr) (r1 : Addr) (h0 : Heap) (n0 : Nat) (hz : n0 ≤ h0.size) (g_r0 : n0 ≤ r0) (E_r0 : Exa Z h0 r0 "java/lang/String") (F_v : Fld Z h0 r0 "java/lang/String" "value" "[B" .null) (F_c : Fld Z h0 r0 "java/lang/String" "coder" "B" (.int (0 : Int32))) :
    OMet l Z (⟨"java/lang/String", "<init>", "([BB)V"⟩ : MethodName) jdk_42_method_151_code 3 none ({ frames := 1, cells := 0, slots := 0, locals := 12 } : Room) #[(.ref r0), (.ref r1), (.int (0 : Int32))] h0 n0 ({ frames := 1, cells := 0, slots := 0, locals := 12 } : Room).cells ({ frames := 1, cells := 0, slots := 0, locals := 12 } : Room).slots (fun v h => v = none ∧ Keep h0 h [r0] ∧ Fld Z h r0 "java/lang/String" "value" "[B" (.ref r1) ∧ Fld Z h r0 "java/lang/String" "coder" "B" (.int (0 : Int32))) := by
  refine o_body (plainFor_of_name pn_6) hz (fun m => ef_6 m r0 r1 (0 : Int32)) ?_
  intro p e s m below meth c s₁ G0
  have K : Keep h0 h0 [r0] := Keep.refl _ _
  refine o_aloadN G0 d6_0 (pc' := 1) rfl rfl rfl ?_
  refine o_initO G0 (ow hw 26 rfl) (ow hw 27 rfl) (ow hw 28 rfl) d6_1 (pc' := 4) rfl rfl (by decide) (W := 0) (Nat.le_of_eq rfl) (by decide) ?_
  intro T1 G1
  refine o_aloadN G1 d6_4 (pc' := 5) rfl rfl rfl ?_
  refine o_aloadN G1 d6_5 (pc' := 6) rfl rfl rfl ?_
  refine o_putF G1 (host := "") (Or.inl (ow hw 29 rfl)) Via.refl F_v E_r0 (Or.inr ⟨(ow hw 30 rfl), rfl, rfl⟩) (ow hw 17 rfl) (ty := (.array .byte)) (by decide) rfl rfl g_r0 d6_6 (pc' := 9) rfl ?_
  intro T2 h2 G2 W2
  replace K := K.wr W2 (Or.inl (List.mem_of_getElem? (i := 0) rfl))
  replace E_r0 := E_r0.wr W2
  replace F_v := F_v.same W2
  replace F_c := F_c.other W2 (Or.inr (slot_ne (Or.inr (ow hw 32 rfl)) (Or.inr (ow hw 30 rfl)) (by decide) (t := .byte) (t' := (.array .byte)) (by decide) (by decide)))
  refine o_aloadN G2 d6_9 (pc' := 10) rfl rfl rfl ?_
  refine o_iloadN G2 d6_10 (pc' := 11) rfl rfl ?_
  refine o_putF G2 (host := "") (Or.inl (ow hw 31 rfl)) Via.refl F_c E_r0 (Or.inr ⟨(ow hw 32 rfl), rfl, rfl⟩) (ow hw 17 rfl) (ty := .byte) (by decide) rfl rfl g_r0 d6_11 (pc' := 14) rfl ?_
  intro T3 h3 G3 W3
  replace K := K.wr W3 (Or.inl (List.mem_of_getElem? (i := 0) rfl))
  replace E_r0 := E_r0.wr W3
  replace F_v := F_v.other W3 (Or.inr (slot_ne (Or.inr (ow hw 30 rfl)) (Or.inr (ow hw 32 rfl)) (by decide) (t := (.array .byte)) (t' := .byte) (by decide) (by decide)))
  replace F_c := F_c.same W3
  exact o_return G3 d6_14 ⟨rfl, K, F_v, F_c⟩ (by decide) (by decide)
theorem d3_0 : decode jdk_42_method_139_code 0 = .ok (.getstatic 38, 3) := by decide +kernel
theorem d3_3 : decode jdk_42_method_139_code 3 = .ok (.ifCond .eq 23, 3) := by decide +kernel
theorem d3_6 : decode jdk_42_method_139_code 6 = .ok (.iload_n 0, 1) := by decide +kernel
theorem d3_7 : decode jdk_42_method_139_code 7 = .ok (.invokestatic 1015, 3) := by decide +kernel
theorem d3_10 : decode jdk_42_method_139_code 10 = .ok (.ifCond .eq 16, 3) := by decide +kernel
theorem d3_13 : decode jdk_42_method_139_code 13 = .ok (.new 10, 3) := by decide +kernel
theorem d3_16 : decode jdk_42_method_139_code 16 = .ok (.dup, 1) := by decide +kernel
theorem d3_17 : decode jdk_42_method_139_code 17 = .ok (.iload_n 0, 1) := by decide +kernel
theorem d3_18 : decode jdk_42_method_139_code 18 = .ok (.invokestatic 1018, 3) := by decide +kernel
theorem d3_21 : decode jdk_42_method_139_code 21 = .ok (.iconst 0, 1) := by decide +kernel
theorem d3_22 : decode jdk_42_method_139_code 22 = .ok (.invokespecial 209, 3) := by decide +kernel
theorem d3_25 : decode jdk_42_method_139_code 25 = .ok (.areturn, 1) := by decide +kernel
theorem pn_3 : plainName "java/lang/String" = true := by first | (simp [plainName, overriddenIn]; done) | decide +kernel
theorem ef_3 (m : MethodId) (p0 : Int32) : entryFrame m #[(.int p0)] 1 = mkF m 0 #[.val (.int p0)] [] := by first | (simp [entryFrame, mkF, argsToLocals, Value.category]; done) | rfl
set_option maxRecDepth 65536 in
set_option maxHeartbeats 40000000 in
theorem rm3 {l : Launch} {Z : State} {a0 : Array Value} (hw : ∀ d ∈ tables_1, d.before a0 Z = true) (p0 : Int32) (h0 : Heap) (n0 : Nat) (hz : n0 ≤ h0.size) (cs : Int32) (hcs : ¬ cs = 0) (S : Sta Z h0 "java/lang/String" "COMPACT_STRINGS" "Z" (.int cs)) (hp : ¬ (255 : Int32) < p0) :
    OMet l Z (⟨"java/lang/String", "valueOf", "(C)Ljava/lang/String;"⟩ : MethodName) jdk_42_method_139_code 1 (some (.object "java/lang/String")) ({ frames := 2, cells := 2, slots := 5, locals := 27 } : Room) #[(.int p0)] h0 n0 ({ frames := 2, cells := 2, slots := 5, locals := 27 } : Room).cells ({ frames := 2, cells := 2, slots := 5, locals := 27 } : Room).slots (fun v h => ∃ a b : Addr, v = some (.ref a) ∧ n0 ≤ a ∧ h0.size ≤ a ∧ h0.size ≤ b ∧ Keep h0 h [] ∧ Exa Z h a "java/lang/String" ∧ Fld Z h a "java/lang/String" "value" "[B" (.ref b) ∧ Fld Z h a "java/lang/String" "coder" "B" (.int (0 : Int32)) ∧ OArr Z h b .byte 1 (fun j => .int (own_by ((fun _ => p0) j)))) := by
  refine o_body (plainFor_of_name pn_3) hz (fun m => ef_3 m p0) ?_
  intro p e s m below meth c s₁ G0
  have K : Keep h0 h0 [] := Keep.refl _ _
  refine o_getS G0 (host := "") (Or.inl (ow hw 11 rfl)) Via.refl S d3_0 (pc' := 3) rfl ?_
  intro T1 G1
  refine o_if_eq G1 d3_3 (by decide) (pcT := 26) (by decide) (pc' := 6) rfl (fun q => absurd q hcs) (fun _ => ?_)
  refine o_iloadN G1 d3_6 (pc' := 7) rfl rfl ?_
  refine o_callS G1 (z := (⟨"java/lang/StringLatin1", "canEncode", "(C)Z"⟩ : MethodName)) (argsL := [(.int p0)]) (rest := []) (W := 0) (ow hw 12 rfl) (ow hw 13 rfl) d3_7 (by decide) (ow hw 14 rfl) (ow hw 15 rfl) (rm4 hw p0 h0 n0 G1.sz) (by decide) (by decide) rfl (lenOf pd_0 rfl) rfl (Nat.le_of_eq rfl) (pc' := 10) rfl (by decide) (by decide) ?_
  rintro _ T2 h2 G2 ⟨rfl, hh⟩
  subst hh
  show OFin _ _ _ _ T2 (mkF m 10 #[.val (.int p0)] [(.int (f_4 p0))])
  refine o_if_eq G2 d3_10 (by decide) (pcT := 26) (by decide) (pc' := 13) rfl (fun q => absurd q (by rw [f_4, if_neg hp]; decide)) (fun _ => ?_)
  refine o_new G2 (ow hw 16 rfl) (ow hw 17 rfl) (ow hw 9 rfl) d3_13 (pc' := 16) rfl (by decide) (by decide) ?_
  intro T3 h3 b3 G3 g3 g_b3 E3 A3 D3
  have sz_b3 : h0.size ≤ b3 := Nat.le_trans K.1 (Nat.le_of_eq g3.symm)
  replace K := K.ext E3
  replace S := S.ext E3
  have F_value_b3 : Fld Z h3 b3 "java/lang/String" "value" "[B" .null := D3 (Or.inr (ow hw 30 rfl)) (ty := (.array .byte)) (by decide)
  have F_coder_b3 : Fld Z h3 b3 "java/lang/String" "coder" "B" (.int (0 : Int32)) := D3 (Or.inr (ow hw 32 rfl)) (ty := .byte) (by decide)
  refine o_dup G3 d3_16 (pc' := 17) rfl rfl ?_
  refine o_iloadN G3 d3_17 (pc' := 18) rfl rfl ?_
  refine o_callS G3 (z := (⟨"java/lang/StringLatin1", "toBytes", "(C)[B"⟩ : MethodName)) (argsL := [(.int p0)]) (rest := [(.ref b3), (.ref b3)]) (W := 2) (ow hw 18 rfl) (ow hw 19 rfl) d3_18 (by decide) (ow hw 14 rfl) (ow hw 20 rfl) (rm5 hw p0 h3 n0 G3.sz) (by decide) (by decide) rfl (lenOf pd_1 rfl) rfl (Nat.le_of_eq rfl) (pc' := 21) rfl (by decide) (by decide) ?_
  rintro _ T4 h4 G4 ⟨b4, rfl, gb4, hb4, K4, A_b4⟩
  have ne_b3_b4 : b3 ≠ b4 := Nat.ne_of_lt (Nat.lt_of_lt_of_le A3.lt hb4)
  have sz_b4 : h0.size ≤ b4 := Nat.le_trans K.1 hb4
  replace S := o_stak S K4 (fun x hx => nomatch hx)
  replace K := K.trans K4 all0
  replace A3 := A3.keep K4
  replace F_value_b3 := F_value_b3.keep K4 nin0
  replace F_coder_b3 := F_coder_b3.keep K4 nin0
  show OFin _ _ _ _ T4 (mkF m 21 #[.val (.int p0)] [(.ref b4), (.ref b3), (.ref b3)])
  refine o_iconst G4 d3_21 (pc' := 22) rfl (v := (0 : Int32)) rfl ?_
  refine o_callI G4 (z := (⟨"java/lang/String", "<init>", "([BB)V"⟩ : MethodName)) (argsL := [(.ref b4), (.int (0 : Int32))]) (rest := [(.ref b3)]) (W := 1) (a := b3) rfl (ow hw 22 rfl) (ow hw 23 rfl) rfl d3_22 (by decide) (ow hw 9 rfl) (ow hw 25 rfl) (rm6 hw b3 b4 h4 n0 G4.sz g_b3 A3 F_value_b3 F_coder_b3) (by decide) (by decide) rfl (lenOf pd_2 rfl) rfl (Nat.le_of_eq rfl) (pc' := 25) rfl (by decide) (by decide) ?_
  rintro _ T5 h5 G5 ⟨rfl, K5, Fv5, Fc5⟩
  replace S := o_stak S K5 (allS A3.nostat all0)
  replace K := K.trans K5 (allS (Or.inr sz_b3) all0)
  replace A3 := A3.keep K5
  replace A_b4 := A_b4.keep K5 (ninS (Ne.symm ne_b3_b4) nin0)
  show OFin _ _ _ _ T5 (mkF m 25 #[.val (.int p0)] [(.ref b3)])
  exact o_areturn G5 rfl rfl rfl d3_25 ⟨b3, b4, rfl, g_b3, sz_b3, sz_b4, K, A3, Fv5, Fc5, A_b4⟩ (by decide) (by decide)
theorem d11_0 : decode jdk_52_method_21_code 0 = .ok (.iconst 0, 1) := by decide +kernel
theorem d11_1 : decode jdk_52_method_21_code 1 = .ok (.istore 5, 2) := by decide +kernel
theorem d11_3 : decode jdk_52_method_21_code 3 = .ok (.iload 5, 2) := by decide +kernel
theorem d11_5 : decode jdk_52_method_21_code 5 = .ok (.iload 4, 2) := by decide +kernel
theorem d11_7 : decode jdk_52_method_21_code 7 = .ok (.if_icmp .ge 37, 3) := by decide +kernel
theorem d11_10 : decode jdk_52_method_21_code 10 = .ok (.aload_n 0, 1) := by decide +kernel
theorem d11_11 : decode jdk_52_method_21_code 11 = .ok (.iload_n 1, 1) := by decide +kernel
theorem d11_12 : decode jdk_52_method_21_code 12 = .ok (.caload, 1) := by decide +kernel
theorem d11_13 : decode jdk_52_method_21_code 13 = .ok (.istore 6, 2) := by decide +kernel
theorem d11_15 : decode jdk_52_method_21_code 15 = .ok (.iload 6, 2) := by decide +kernel
theorem d11_17 : decode jdk_52_method_21_code 17 = .ok (.sipush 255, 3) := by decide +kernel
theorem d11_20 : decode jdk_52_method_21_code 20 = .ok (.if_icmp .le 6, 3) := by decide +kernel
theorem d11_26 : decode jdk_52_method_21_code 26 = .ok (.aload_n 2, 1) := by decide +kernel
theorem d11_27 : decode jdk_52_method_21_code 27 = .ok (.iload_n 3, 1) := by decide +kernel
theorem d11_28 : decode jdk_52_method_21_code 28 = .ok (.iload 6, 2) := by decide +kernel
theorem d11_30 : decode jdk_52_method_21_code 30 = .ok (.i2b, 1) := by decide +kernel
theorem d11_31 : decode jdk_52_method_21_code 31 = .ok (.bastore, 1) := by decide +kernel
theorem d11_32 : decode jdk_52_method_21_code 32 = .ok (.iinc 1 1, 3) := by decide +kernel
theorem d11_35 : decode jdk_52_method_21_code 35 = .ok (.iinc 3 1, 3) := by decide +kernel
theorem d11_38 : decode jdk_52_method_21_code 38 = .ok (.iinc 5 1, 3) := by decide +kernel
theorem d11_41 : decode jdk_52_method_21_code 41 = .ok (.goto (-38), 3) := by decide +kernel
theorem d11_44 : decode jdk_52_method_21_code 44 = .ok (.iload 4, 2) := by decide +kernel
theorem d11_46 : decode jdk_52_method_21_code 46 = .ok (.ireturn, 1) := by decide +kernel
theorem pn_11 : plainName "java/lang/StringUTF16" = true := by first | (simp [plainName, overriddenIn]; done) | decide +kernel
theorem ef_11 (m : MethodId) (r0 : Addr) (p1 : Int32) (r2 : Addr) (p3 : Int32) (p4 : Int32) : entryFrame m #[(.ref r0), (.int p1), (.ref r2), (.int p3), (.int p4)] 7 = mkF m 0 #[.val (.ref r0), .val (.int p1), .val (.ref r2), .val (.int p3), .val (.int p4), .unset, .unset] [] := by first | (simp [entryFrame, mkF, argsToLocals, Value.category]; done) | rfl
set_option maxRecDepth 65536 in
set_option maxHeartbeats 40000000 in
theorem rm11_2 {l : Launch} {Z : State} {a0 : Array Value} (hw : ∀ d ∈ tables_1, d.before a0 Z = true) (r0 : Addr) (r2 : Addr) (h0 : Heap) (n0 : Nat) (hz : n0 ≤ h0.size) (g : Nat → Int32) (hg : ∀ j, j < 2 → ¬ (255 : Int32) < g j) (A_r0 : OArr Z h0 r0 .char 2 (fun j => .int (g j))) (g_r2 : n0 ≤ r2) (hne : r0 ≠ r2) (A_r2 : OArr Z h0 r2 .byte 2 (fun j => .int (own_by ((fun _ => 0) j)))) :
    OMet l Z (⟨"java/lang/StringUTF16", "compress", "([CI[BII)I"⟩ : MethodName) jdk_52_method_21_code 7 (some .int) ({ frames := 0, cells := 0, slots := 0, locals := 0 } : Room) #[(.ref r0), (.int (0 : Int32)), (.ref r2), (.int (0 : Int32)), (.int (2 : Int32))] h0 n0 ({ frames := 0, cells := 0, slots := 0, locals := 0 } : Room).cells ({ frames := 0, cells := 0, slots := 0, locals := 0 } : Room).slots (fun v h => v = some (.int (2 : Int32)) ∧ Keep h0 h [r2] ∧ OArr Z h r2 .byte 2 (fun j => .int (own_by (g j)))) := by
  refine o_body (plainFor_of_name pn_11) hz (fun m => ef_11 m r0 (0 : Int32) r2 (0 : Int32) (2 : Int32)) ?_
  intro p e s m below meth c s₁ G0
  have K : Keep h0 h0 [r2] := Keep.refl _ _
  refine o_iconst G0 d11_0 (pc' := 1) rfl (v := (0 : Int32)) rfl ?_
  refine o_istore G0 d11_1 (pc' := 3) rfl (l' := #[.val (.ref r0), .val (.int (0 : Int32)), .val (.ref r2), .val (.int (0 : Int32)), .val (.int (2 : Int32)), .val (.int (0 : Int32)), .unset]) rfl ?_
  refine o_iload G0 d11_3 (pc' := 5) rfl rfl ?_
  refine o_iload G0 d11_5 (pc' := 7) rfl rfl ?_
  refine o_icmp_ge G0 d11_7 (by decide) (pcT := 44) (by decide) (pc' := 10) rfl (fun q => absurd (by decide) q) (fun _ => ?_)
  refine o_aloadN G0 d11_10 (pc' := 11) rfl rfl rfl ?_
  refine o_iloadN G0 d11_11 (pc' := 12) rfl rfl ?_
  refine o_caload G0 A_r0 (i := 0) rfl (by decide) (v := (.int (g 0))) rfl d11_12 (pc' := 13) rfl ?_
  refine o_istore G0 d11_13 (pc' := 15) rfl (l' := #[.val (.ref r0), .val (.int (0 : Int32)), .val (.ref r2), .val (.int (0 : Int32)), .val (.int (2 : Int32)), .val (.int (0 : Int32)), .val (.int (g 0))]) rfl ?_
  refine o_iload G0 d11_15 (pc' := 17) rfl rfl ?_
  refine o_sipush G0 d11_17 (pc' := 20) rfl (v := (255 : Int32)) rfl ?_
  refine o_icmp_le G0 d11_20 (by decide) (pcT := 26) (by decide) (pc' := 23) rfl (fun _ => ?_) (fun q => absurd q (hg 0 (by decide)))
  refine o_aloadN G0 d11_26 (pc' := 27) rfl rfl rfl ?_
  refine o_iloadN G0 d11_27 (pc' := 28) rfl rfl ?_
  refine o_iload G0 d11_28 (pc' := 30) rfl rfl ?_
  obtain ⟨v1, e1⟩ : ∃ z, (g 0).toInt8.toInt32 = z := ⟨_, rfl⟩
  refine o_i2b G0 d11_30 (pc' := 31) rfl e1 ?_
  refine o_bastore G0 A_r2 g_r2 (i := 0) rfl (by decide) d11_31 (pc' := 32) rfl ?_
  intro T2 h2 G2 W2 A2
  replace K := K.wr W2 (Or.inl (List.mem_of_getElem? (i := 0) rfl))
  replace A_r0 := A_r0.other W2 hne
  replace A_r2 := A2
  refine o_iinc G2 d11_32 (pc' := 35) rfl rfl (w := (1 : Int32)) rfl (v := (1 : Int32)) (by decide) (l' := #[.val (.ref r0), .val (.int (1 : Int32)), .val (.ref r2), .val (.int (0 : Int32)), .val (.int (2 : Int32)), .val (.int (0 : Int32)), .val (.int (g 0))]) rfl ?_
  refine o_iinc G2 d11_35 (pc' := 38) rfl rfl (w := (1 : Int32)) rfl (v := (1 : Int32)) (by decide) (l' := #[.val (.ref r0), .val (.int (1 : Int32)), .val (.ref r2), .val (.int (1 : Int32)), .val (.int (2 : Int32)), .val (.int (0 : Int32)), .val (.int (g 0))]) rfl ?_
  refine o_iinc G2 d11_38 (pc' := 41) rfl rfl (w := (1 : Int32)) rfl (v := (1 : Int32)) (by decide) (l' := #[.val (.ref r0), .val (.int (1 : Int32)), .val (.ref r2), .val (.int (1 : Int32)), .val (.int (2 : Int32)), .val (.int (1 : Int32)), .val (.int (g 0))]) rfl ?_
  refine o_goto G2 d11_41 (by decide) (pc' := 3) rfl ?_
  refine o_iload G2 d11_3 (pc' := 5) rfl rfl ?_
  refine o_iload G2 d11_5 (pc' := 7) rfl rfl ?_
  refine o_icmp_ge G2 d11_7 (by decide) (pcT := 44) (by decide) (pc' := 10) rfl (fun q => absurd (by decide) q) (fun _ => ?_)
  refine o_aloadN G2 d11_10 (pc' := 11) rfl rfl rfl ?_
  refine o_iloadN G2 d11_11 (pc' := 12) rfl rfl ?_
  refine o_caload G2 A_r0 (i := 1) rfl (by decide) (v := (.int (g 1))) rfl d11_12 (pc' := 13) rfl ?_
  refine o_istore G2 d11_13 (pc' := 15) rfl (l' := #[.val (.ref r0), .val (.int (1 : Int32)), .val (.ref r2), .val (.int (1 : Int32)), .val (.int (2 : Int32)), .val (.int (1 : Int32)), .val (.int (g 1))]) rfl ?_
  refine o_iload G2 d11_15 (pc' := 17) rfl rfl ?_
  refine o_sipush G2 d11_17 (pc' := 20) rfl (v := (255 : Int32)) rfl ?_
  refine o_icmp_le G2 d11_20 (by decide) (pcT := 26) (by decide) (pc' := 23) rfl (fun _ => ?_) (fun q => absurd q (hg 1 (by decide)))
  refine o_aloadN G2 d11_26 (pc' := 27) rfl rfl rfl ?_
  refine o_iloadN G2 d11_27 (pc' := 28) rfl rfl ?_
  refine o_iload G2 d11_28 (pc' := 30) rfl rfl ?_
  obtain ⟨v3, e3⟩ : ∃ z, (g 1).toInt8.toInt32 = z := ⟨_, rfl⟩
  refine o_i2b G2 d11_30 (pc' := 31) rfl e3 ?_
  refine o_bastore G2 A_r2 g_r2 (i := 1) rfl (by decide) d11_31 (pc' := 32) rfl ?_
  intro T4 h4 G4 W4 A4
  replace K := K.wr W4 (Or.inl (List.mem_of_getElem? (i := 0) rfl))
  replace A_r0 := A_r0.other W4 hne
  replace A_r2 := A4
  refine o_iinc G4 d11_32 (pc' := 35) rfl rfl (w := (1 : Int32)) rfl (v := (2 : Int32)) (by decide) (l' := #[.val (.ref r0), .val (.int (2 : Int32)), .val (.ref r2), .val (.int (1 : Int32)), .val (.int (2 : Int32)), .val (.int (1 : Int32)), .val (.int (g 1))]) rfl ?_
  refine o_iinc G4 d11_35 (pc' := 38) rfl rfl (w := (1 : Int32)) rfl (v := (2 : Int32)) (by decide) (l' := #[.val (.ref r0), .val (.int (2 : Int32)), .val (.ref r2), .val (.int (2 : Int32)), .val (.int (2 : Int32)), .val (.int (1 : Int32)), .val (.int (g 1))]) rfl ?_
  refine o_iinc G4 d11_38 (pc' := 41) rfl rfl (w := (1 : Int32)) rfl (v := (2 : Int32)) (by decide) (l' := #[.val (.ref r0), .val (.int (2 : Int32)), .val (.ref r2), .val (.int (2 : Int32)), .val (.int (2 : Int32)), .val (.int (2 : Int32)), .val (.int (g 1))]) rfl ?_
  refine o_goto G4 d11_41 (by decide) (pc' := 3) rfl ?_
  refine o_iload G4 d11_3 (pc' := 5) rfl rfl ?_
  refine o_iload G4 d11_5 (pc' := 7) rfl rfl ?_
  refine o_icmp_ge G4 d11_7 (by decide) (pcT := 44) (by decide) (pc' := 10) rfl (fun _ => ?_) (fun q => absurd q (by decide))
  refine o_iload G4 d11_44 (pc' := 46) rfl rfl ?_
  subst e1 e3
  exact o_ireturn G4 d11_46 ⟨rfl, K, A_r2.congr (by intro j hj; match j, hj with | 0, _ => exact congrArg Value.int (own_byn (g 0)) | 1, _ => exact congrArg Value.int (own_byn (g 1)))⟩ (by decide) (by decide)
theorem d10_0 : decode jdk_52_method_16_code 0 = .ok (.iload_n 2, 1) := by decide +kernel
theorem d10_1 : decode jdk_52_method_16_code 1 = .ok (.newarray .byte, 2) := by decide +kernel
theorem d10_3 : decode jdk_52_method_16_code 3 = .ok (.astore_n 3, 1) := by decide +kernel
theorem d10_4 : decode jdk_52_method_16_code 4 = .ok (.aload_n 0, 1) := by decide +kernel
theorem d10_5 : decode jdk_52_method_16_code 5 = .ok (.iload_n 1, 1) := by decide +kernel
theorem d10_6 : decode jdk_52_method_16_code 6 = .ok (.aload_n 3, 1) := by decide +kernel
theorem d10_7 : decode jdk_52_method_16_code 7 = .ok (.iconst 0, 1) := by decide +kernel
theorem d10_8 : decode jdk_52_method_16_code 8 = .ok (.iload_n 2, 1) := by decide +kernel
theorem d10_9 : decode jdk_52_method_16_code 9 = .ok (.invokestatic 115, 3) := by decide +kernel
theorem d10_12 : decode jdk_52_method_16_code 12 = .ok (.istore 4, 2) := by decide +kernel
theorem d10_14 : decode jdk_52_method_16_code 14 = .ok (.iload 4, 2) := by decide +kernel
theorem d10_16 : decode jdk_52_method_16_code 16 = .ok (.iload_n 2, 1) := by decide +kernel
theorem d10_17 : decode jdk_52_method_16_code 17 = .ok (.if_icmp .eq 40, 3) := by decide +kernel
theorem d10_57 : decode jdk_52_method_16_code 57 = .ok (.aload_n 3, 1) := by decide +kernel
theorem d10_58 : decode jdk_52_method_16_code 58 = .ok (.areturn, 1) := by decide +kernel
theorem pn_10 : plainName "java/lang/StringUTF16" = true := by first | (simp [plainName, overriddenIn]; done) | decide +kernel
theorem ef_10 (m : MethodId) (r0 : Addr) (p1 : Int32) (p2 : Int32) : entryFrame m #[(.ref r0), (.int p1), (.int p2)] 6 = mkF m 0 #[.val (.ref r0), .val (.int p1), .val (.int p2), .unset, .unset, .unset] [] := by first | (simp [entryFrame, mkF, argsToLocals, Value.category]; done) | rfl
set_option maxRecDepth 65536 in
set_option maxHeartbeats 40000000 in
theorem rm10_2 {l : Launch} {Z : State} {a0 : Array Value} (hw : ∀ d ∈ tables_1, d.before a0 Z = true) (r0 : Addr) (h0 : Heap) (n0 : Nat) (hz : n0 ≤ h0.size) (g : Nat → Int32) (hg : ∀ j, j < 2 → ¬ (255 : Int32) < g j) (A_r0 : OArr Z h0 r0 .char 2 (fun j => .int (g j))) :
    OMet l Z (⟨"java/lang/StringUTF16", "compress", "([CII)[B"⟩ : MethodName) jdk_52_method_16_code 6 (some (.array .byte)) ({ frames := 1, cells := 1, slots := 2, locals := 18 } : Room) #[(.ref r0), (.int (0 : Int32)), (.int (2 : Int32))] h0 n0 ({ frames := 1, cells := 1, slots := 2, locals := 18 } : Room).cells ({ frames := 1, cells := 1, slots := 2, locals := 18 } : Room).slots (fun v h => ∃ b : Addr, v = some (.ref b) ∧ n0 ≤ b ∧ h0.size ≤ b ∧ Keep h0 h [] ∧ OArr Z h b .byte 2 (fun j => .int (own_by (g j)))) := by
  refine o_body (plainFor_of_name pn_10) hz (fun m => ef_10 m r0 (0 : Int32) (2 : Int32)) ?_
  intro p e s m below meth c s₁ G0
  have K : Keep h0 h0 [] := Keep.refl _ _
  refine o_iloadN G0 d10_0 (pc' := 1) rfl rfl ?_
  refine o_newarray G0 (N := 2) (cap := 2) (ow hw 21 rfl) rfl (by decide) (by decide) d10_1 (pc' := 3) rfl (by decide) (by decide) ?_
  intro T1 h1 b1 G1 g1 g_b1 E1 A_b1
  have ne_r0_b1 : r0 ≠ b1 := Nat.ne_of_lt (Nat.lt_of_lt_of_eq A_r0.lt g1.symm)
  have sz_b1 : h0.size ≤ b1 := Nat.le_trans K.1 (Nat.le_of_eq g1.symm)
  replace K := K.ext E1
  replace A_r0 := A_r0.ext E1
  replace A_b1 : OArr Z h1 b1 .byte 2 (fun _ => (.int (0 : Int32))) := A_b1
  refine o_astoreN G1 d10_3 (pc' := 4) rfl rfl (l' := #[.val (.ref r0), .val (.int (0 : Int32)), .val (.int (2 : Int32)), .val (.ref b1), .unset, .unset]) rfl ?_
  refine o_aloadN G1 d10_4 (pc' := 5) rfl rfl rfl ?_
  refine o_iloadN G1 d10_5 (pc' := 6) rfl rfl ?_
  refine o_aloadN G1 d10_6 (pc' := 7) rfl rfl rfl ?_
  refine o_iconst G1 d10_7 (pc' := 8) rfl (v := (0 : Int32)) rfl ?_
  refine o_iloadN G1 d10_8 (pc' := 9) rfl rfl ?_
  refine o_callS G1 (z := (⟨"java/lang/StringUTF16", "compress", "([CI[BII)I"⟩ : MethodName)) (argsL := [(.ref r0), (.int (0 : Int32)), (.ref b1), (.int (0 : Int32)), (.int (2 : Int32))]) (rest := []) (W := 0) (ow hw 45 rfl) (ow hw 46 rfl) d10_9 (by decide) (ow hw 43 rfl) (ow hw 47 rfl) (rm11_2 hw r0 b1 h1 n0 G1.sz g hg A_r0 g_b1 ne_r0_b1 A_b1) (by decide) (by decide) rfl (lenOf pd_3 rfl) rfl (Nat.le_of_eq rfl) (pc' := 12) rfl (by decide) (by decide) ?_
  rintro _ T2 h2 G2 ⟨rfl, K2, A2⟩
  replace K := K.trans K2 (allS (Or.inr sz_b1) all0)
  replace A_r0 := A_r0.keep K2 (ninS ne_r0_b1 nin0)
  show OFin _ _ _ _ T2 (mkF m 12 #[.val (.ref r0), .val (.int (0 : Int32)), .val (.int (2 : Int32)), .val (.ref b1), .unset, .unset] [(.int (2 : Int32))])
  refine o_istore G2 d10_12 (pc' := 14) rfl (l' := #[.val (.ref r0), .val (.int (0 : Int32)), .val (.int (2 : Int32)), .val (.ref b1), .val (.int (2 : Int32)), .unset]) rfl ?_
  refine o_iload G2 d10_14 (pc' := 16) rfl rfl ?_
  refine o_iloadN G2 d10_16 (pc' := 17) rfl rfl ?_
  refine o_icmp_eq G2 d10_17 (by decide) (pcT := 57) (by decide) (pc' := 20) rfl (fun _ => ?_) (fun q => absurd (by decide) q)
  refine o_aloadN G2 d10_57 (pc' := 58) rfl rfl rfl ?_
  exact o_areturn G2 rfl rfl rfl d10_58 ⟨b1, rfl, g_b1, sz_b1, K, A2⟩ (by decide) (by decide)
theorem d12_0 : decode jdk_52_method_15_code 0 = .ok (.iload_n 1, 1) := by decide +kernel
theorem d12_1 : decode jdk_52_method_15_code 1 = .ok (.aload_n 0, 1) := by decide +kernel
theorem d12_2 : decode jdk_52_method_15_code 2 = .ok (.arraylength, 1) := by decide +kernel
theorem d12_3 : decode jdk_52_method_15_code 3 = .ok (.isub, 1) := by decide +kernel
theorem d12_4 : decode jdk_52_method_15_code 4 = .ok (.bipush 31, 2) := by decide +kernel
theorem d12_6 : decode jdk_52_method_15_code 6 = .ok (.iushr, 1) := by decide +kernel
theorem d12_7 : decode jdk_52_method_15_code 7 = .ok (.i2b, 1) := by decide +kernel
theorem d12_8 : decode jdk_52_method_15_code 8 = .ok (.ireturn, 1) := by decide +kernel
theorem pn_12 : plainName "java/lang/StringUTF16" = true := by first | (simp [plainName, overriddenIn]; done) | decide +kernel
theorem ef_12 (m : MethodId) (r0 : Addr) (p1 : Int32) : entryFrame m #[(.ref r0), (.int p1)] 2 = mkF m 0 #[.val (.ref r0), .val (.int p1)] [] := by first | (simp [entryFrame, mkF, argsToLocals, Value.category]; done) | rfl
set_option maxRecDepth 65536 in
set_option maxHeartbeats 40000000 in
theorem rm12_2 {l : Launch} {Z : State} {a0 : Array Value} (hw : ∀ d ∈ tables_1, d.before a0 Z = true) (r0 : Addr) (h0 : Heap) (n0 : Nat) (hz : n0 ≤ h0.size) (g : Nat → Int32) (A_r0 : OArr Z h0 r0 .byte 2 (fun j => .int (own_by (g j)))) :
    OMet l Z (⟨"java/lang/StringUTF16", "coderFromArrayLen", "([BI)B"⟩ : MethodName) jdk_52_method_15_code 2 (some .byte) ({ frames := 0, cells := 0, slots := 0, locals := 0 } : Room) #[(.ref r0), (.int (2 : Int32))] h0 n0 ({ frames := 0, cells := 0, slots := 0, locals := 0 } : Room).cells ({ frames := 0, cells := 0, slots := 0, locals := 0 } : Room).slots (OVal h0 (.int 0)) := by
  refine o_body (plainFor_of_name pn_12) hz (fun m => ef_12 m r0 (2 : Int32)) ?_
  intro p e s m below meth c s₁ G0
  refine o_iloadN G0 d12_0 (pc' := 1) rfl rfl ?_
  refine o_aloadN G0 d12_1 (pc' := 2) rfl rfl rfl ?_
  refine o_arraylength G0 A_r0 (v := (2 : Int32)) rfl d12_2 (pc' := 3) rfl ?_
  refine o_isub G0 d12_3 (pc' := 4) rfl (v := (0 : Int32)) (by decide) ?_
  refine o_bipush G0 d12_4 (pc' := 6) rfl (v := (31 : Int32)) rfl ?_
  refine o_iushr G0 d12_6 (pc' := 7) rfl (v := (0 : Int32)) (by decide) ?_
  refine o_i2b G0 d12_7 (pc' := 8) rfl (v := (0 : Int32)) (by decide) ?_
  exact o_nreturn (t := .byte) G0 (by simp) d12_8 ⟨rfl, rfl⟩ (by decide) (by decide)
theorem d9_0 : decode jdk_42_method_149_code 0 = .ok (.aload_n 0, 1) := by decide +kernel
theorem d9_1 : decode jdk_42_method_149_code 1 = .ok (.invokespecial 1, 3) := by decide +kernel
theorem d9_4 : decode jdk_42_method_149_code 4 = .ok (.iload_n 3, 1) := by decide +kernel
theorem d9_5 : decode jdk_42_method_149_code 5 = .ok (.ifCond .ne 22, 3) := by decide +kernel
theorem d9_27 : decode jdk_42_method_149_code 27 = .ok (.getstatic 38, 3) := by decide +kernel
theorem d9_30 : decode jdk_42_method_149_code 30 = .ok (.ifCond .eq 28, 3) := by decide +kernel
theorem d9_33 : decode jdk_42_method_149_code 33 = .ok (.aload_n 1, 1) := by decide +kernel
theorem d9_34 : decode jdk_42_method_149_code 34 = .ok (.iload_n 2, 1) := by decide +kernel
theorem d9_35 : decode jdk_42_method_149_code 35 = .ok (.iload_n 3, 1) := by decide +kernel
theorem d9_36 : decode jdk_42_method_149_code 36 = .ok (.invokestatic 177, 3) := by decide +kernel
theorem d9_39 : decode jdk_42_method_149_code 39 = .ok (.astore 5, 2) := by decide +kernel
theorem d9_41 : decode jdk_42_method_149_code 41 = .ok (.aload_n 0, 1) := by decide +kernel
theorem d9_42 : decode jdk_42_method_149_code 42 = .ok (.aload 5, 2) := by decide +kernel
theorem d9_44 : decode jdk_42_method_149_code 44 = .ok (.iload_n 3, 1) := by decide +kernel
theorem d9_45 : decode jdk_42_method_149_code 45 = .ok (.invokestatic 47, 3) := by decide +kernel
theorem d9_48 : decode jdk_42_method_149_code 48 = .ok (.putfield 15, 3) := by decide +kernel
theorem d9_51 : decode jdk_42_method_149_code 51 = .ok (.aload_n 0, 1) := by decide +kernel
theorem d9_52 : decode jdk_42_method_149_code 52 = .ok (.aload 5, 2) := by decide +kernel
theorem d9_54 : decode jdk_42_method_149_code 54 = .ok (.putfield 9, 3) := by decide +kernel
theorem d9_57 : decode jdk_42_method_149_code 57 = .ok (.return_, 1) := by decide +kernel
theorem pn_9 : plainName "java/lang/String" = true := by first | (simp [plainName, overriddenIn]; done) | decide +kernel
theorem ef_9 (m : MethodId) (r0 : Addr) (r1 : Addr) (p2 : Int32) (p3 : Int32) : entryFrame m #[(.ref r0), (.ref r1), (.int p2), (.int p3), .null] 6 = mkF m 0 #[.val (.ref r0), .val (.ref r1), .val (.int p2), .val (.int p3), .val .null, .unset] [] := by first | (simp [entryFrame, mkF, argsToLocals, Value.category]; done) | rfl
set_option maxRecDepth 65536 in
set_option maxHeartbeats 40000000 in
theorem rm9_2 {l : Launch} {Z : State} {a0 : Array Value} (hw : ∀ d ∈ tables_1, d.before a0 Z = true) (r0 : Addr) (r1 : Addr) (h0 : Heap) (n0 : Nat) (hz : n0 ≤ h0.size) (g_r0 : n0 ≤ r0) (E_r0 : Exa Z h0 r0 "java/lang/String") (F_v : Fld Z h0 r0 "java/lang/String" "value" "[B" .null) (F_c : Fld Z h0 r0 "java/lang/String" "coder" "B" (.int (0 : Int32))) (cs : Int32) (hcs : ¬ cs = 0) (S : Sta Z h0 "java/lang/String" "COMPACT_STRINGS" "Z" (.int cs)) (g : Nat → Int32) (hg : ∀ j, j < 2 → ¬ (255 : Int32) < g j) (A_r1 : OArr Z h0 r1 .char 2 (fun j => .int (g j))) (hne : r0 ≠ r1) :
    OMet l Z (⟨"java/lang/String", "<init>", "([CIILjava/lang/Void;)V"⟩ : MethodName) jdk_42_method_149_code 6 none ({ frames := 2, cells := 1, slots := 2, locals := 35 } : Room) #[(.ref r0), (.ref r1), (.int (0 : Int32)), (.int (2 : Int32)), .null] h0 n0 ({ frames := 2, cells := 1, slots := 2, locals := 35 } : Room).cells ({ frames := 2, cells := 1, slots := 2, locals := 35 } : Room).slots (fun v h => v = none ∧ Keep h0 h [r0] ∧ ∃ b : Addr, h0.size ≤ b ∧ Fld Z h r0 "java/lang/String" "value" "[B" (.ref b) ∧ Fld Z h r0 "java/lang/String" "coder" "B" (.int (0 : Int32)) ∧ OArr Z h b .byte 2 (fun j => .int (own_by (g j)))) := by
  refine o_body (plainFor_of_name pn_9) hz (fun m => ef_9 m r0 r1 (0 : Int32) (2 : Int32)) ?_
  intro p e s m below meth c s₁ G0
  have K : Keep h0 h0 [r0] := Keep.refl _ _
  refine o_aloadN G0 d9_0 (pc' := 1) rfl rfl rfl ?_
  refine o_initO G0 (ow hw 26 rfl) (ow hw 27 rfl) (ow hw 28 rfl) d9_1 (pc' := 4) rfl rfl (by decide) (W := 0) (Nat.le_of_eq rfl) (by decide) ?_
  intro T1 G1
  refine o_iloadN G1 d9_4 (pc' := 5) rfl rfl ?_
  refine o_if_ne G1 d9_5 (by decide) (pcT := 27) (by decide) (pc' := 8) rfl (fun _ => ?_) (fun q => absurd q (by decide))
  refine o_getS G1 (host := "") (Or.inl (ow hw 11 rfl)) Via.refl S d9_27 (pc' := 30) rfl ?_
  intro T2 G2
  refine o_if_eq G2 d9_30 (by decide) (pcT := 58) (by decide) (pc' := 33) rfl (fun q => absurd q hcs) (fun _ => ?_)
  refine o_aloadN G2 d9_33 (pc' := 34) rfl rfl rfl ?_
  refine o_iloadN G2 d9_34 (pc' := 35) rfl rfl ?_
  refine o_iloadN G2 d9_35 (pc' := 36) rfl rfl ?_
  refine o_callS G2 (z := (⟨"java/lang/StringUTF16", "compress", "([CII)[B"⟩ : MethodName)) (argsL := [(.ref r1), (.int (0 : Int32)), (.int (2 : Int32))]) (rest := []) (W := 0) (ow hw 41 rfl) (ow hw 42 rfl) d9_36 (by decide) (ow hw 43 rfl) (ow hw 44 rfl) (rm10_2 hw r1 h0 n0 G2.sz g hg A_r1) (by decide) (by decide) rfl (lenOf pd_4 rfl) rfl (Nat.le_of_eq rfl) (pc' := 39) rfl (by decide) (by decide) ?_
  rintro _ T3 h3 G3 ⟨b3, rfl, gb3, hb3, K3, A_b3⟩
  have ne_r0_b3 : r0 ≠ b3 := Nat.ne_of_lt (Nat.lt_of_lt_of_le E_r0.lt hb3)
  have sz_b3 : h0.size ≤ b3 := Nat.le_trans K.1 hb3
  replace S := o_stak S K3 (fun x hx => nomatch hx)
  replace K := K.trans K3 all0
  replace E_r0 := E_r0.keep K3
  replace F_v := F_v.keep K3 nin0
  replace F_c := F_c.keep K3 nin0
  replace A_r1 := A_r1.keep K3 nin0
  show OFin _ _ _ _ T3 (mkF m 39 #[.val (.ref r0), .val (.ref r1), .val (.int (0 : Int32)), .val (.int (2 : Int32)), .val .null, .unset] [(.ref b3)])
  refine o_astore G3 d9_39 (pc' := 41) rfl rfl (l' := #[.val (.ref r0), .val (.ref r1), .val (.int (0 : Int32)), .val (.int (2 : Int32)), .val .null, .val (.ref b3)]) rfl ?_
  refine o_aloadN G3 d9_41 (pc' := 42) rfl rfl rfl ?_
  refine o_aload G3 d9_42 (pc' := 44) rfl rfl rfl ?_
  refine o_iloadN G3 d9_44 (pc' := 45) rfl rfl ?_
  refine o_callS G3 (z := (⟨"java/lang/StringUTF16", "coderFromArrayLen", "([BI)B"⟩ : MethodName)) (argsL := [(.ref b3), (.int (2 : Int32))]) (rest := [(.ref r0)]) (W := 1) (ow hw 48 rfl) (ow hw 49 rfl) d9_45 (by decide) (ow hw 43 rfl) (ow hw 50 rfl) (rm12_2 hw b3 h3 n0 G3.sz g A_b3) (by decide) (by decide) rfl (lenOf pd_5 rfl) rfl (Nat.le_of_eq rfl) (pc' := 48) rfl (by decide) (by decide) ?_
  rintro _ T4 h4 G4 ⟨rfl, hh⟩
  subst hh
  show OFin _ _ _ _ T4 (mkF m 48 #[.val (.ref r0), .val (.ref r1), .val (.int (0 : Int32)), .val (.int (2 : Int32)), .val .null, .val (.ref b3)] [(.int (0 : Int32)), (.ref r0)])
  refine o_putF G4 (host := "") (Or.inl (ow hw 31 rfl)) Via.refl F_c E_r0 (Or.inr ⟨(ow hw 32 rfl), rfl, rfl⟩) (ow hw 17 rfl) (ty := .byte) (by decide) rfl rfl g_r0 d9_48 (pc' := 51) rfl ?_
  intro T5 h5 G5 W5
  replace K := K.wr W5 (Or.inl (List.mem_of_getElem? (i := 0) rfl))
  replace E_r0 := E_r0.wr W5
  replace F_v := F_v.other W5 (Or.inr (slot_ne (Or.inr (ow hw 30 rfl)) (Or.inr (ow hw 32 rfl)) (by decide) (t := (.array .byte)) (t' := .byte) (by decide) (by decide)))
  replace F_c := F_c.same W5
  replace S := S.wr W5
  replace A_r1 := A_r1.other W5 (Ne.symm hne)
  replace A_b3 := A_b3.other W5 (Ne.symm ne_r0_b3)
  refine o_aloadN G5 d9_51 (pc' := 52) rfl rfl rfl ?_
  refine o_aload G5 d9_52 (pc' := 54) rfl rfl rfl ?_
  refine o_putF G5 (host := "") (Or.inl (ow hw 29 rfl)) Via.refl F_v E_r0 (Or.inr ⟨(ow hw 30 rfl), rfl, rfl⟩) (ow hw 17 rfl) (ty := (.array .byte)) (by decide) rfl rfl g_r0 d9_54 (pc' := 57) rfl ?_
  intro T6 h6 G6 W6
  replace K := K.wr W6 (Or.inl (List.mem_of_getElem? (i := 0) rfl))
  replace E_r0 := E_r0.wr W6
  replace F_v := F_v.same W6
  replace F_c := F_c.other W6 (Or.inr (slot_ne (Or.inr (ow hw 32 rfl)) (Or.inr (ow hw 30 rfl)) (by decide) (t := .byte) (t' := (.array .byte)) (by decide) (by decide)))
  replace S := S.wr W6
  replace A_r1 := A_r1.other W6 (Ne.symm hne)
  replace A_b3 := A_b3.other W6 (Ne.symm ne_r0_b3)
  exact o_return G6 d9_57 ⟨rfl, K, b3, sz_b3, F_v, F_c, A_b3⟩ (by decide) (by decide)
theorem d8_0 : decode jdk_42_method_3_code 0 = .ok (.aload_n 0, 1) := by decide +kernel
theorem d8_1 : decode jdk_42_method_3_code 1 = .ok (.aload_n 1, 1) := by decide +kernel
theorem d8_2 : decode jdk_42_method_3_code 2 = .ok (.iconst 0, 1) := by decide +kernel
theorem d8_3 : decode jdk_42_method_3_code 3 = .ok (.aload_n 1, 1) := by decide +kernel
theorem d8_4 : decode jdk_42_method_3_code 4 = .ok (.arraylength, 1) := by decide +kernel
theorem d8_5 : decode jdk_42_method_3_code 5 = .ok (.aconst_null, 1) := by decide +kernel
theorem d8_6 : decode jdk_42_method_3_code 6 = .ok (.invokespecial 27, 3) := by decide +kernel
theorem d8_9 : decode jdk_42_method_3_code 9 = .ok (.return_, 1) := by decide +kernel
theorem pn_8 : plainName "java/lang/String" = true := by first | (simp [plainName, overriddenIn]; done) | decide +kernel
theorem ef_8 (m : MethodId) (r0 : Addr) (r1 : Addr) : entryFrame m #[(.ref r0), (.ref r1)] 2 = mkF m 0 #[.val (.ref r0), .val (.ref r1)] [] := by first | (simp [entryFrame, mkF, argsToLocals, Value.category]; done) | rfl
set_option maxRecDepth 65536 in
set_option maxHeartbeats 40000000 in
theorem rm8_2 {l : Launch} {Z : State} {a0 : Array Value} (hw : ∀ d ∈ tables_1, d.before a0 Z = true) (r0 : Addr) (r1 : Addr) (h0 : Heap) (n0 : Nat) (hz : n0 ≤ h0.size) (g_r0 : n0 ≤ r0) (E_r0 : Exa Z h0 r0 "java/lang/String") (F_v : Fld Z h0 r0 "java/lang/String" "value" "[B" .null) (F_c : Fld Z h0 r0 "java/lang/String" "coder" "B" (.int (0 : Int32))) (cs : Int32) (hcs : ¬ cs = 0) (S : Sta Z h0 "java/lang/String" "COMPACT_STRINGS" "Z" (.int cs)) (g : Nat → Int32) (hg : ∀ j, j < 2 → ¬ (255 : Int32) < g j) (A_r1 : OArr Z h0 r1 .char 2 (fun j => .int (g j))) (hne : r0 ≠ r1) :
    OMet l Z (⟨"java/lang/String", "<init>", "([C)V"⟩ : MethodName) jdk_42_method_3_code 2 none ({ frames := 3, cells := 1, slots := 2, locals := 52 } : Room) #[(.ref r0), (.ref r1)] h0 n0 ({ frames := 3, cells := 1, slots := 2, locals := 52 } : Room).cells ({ frames := 3, cells := 1, slots := 2, locals := 52 } : Room).slots (fun v h => v = none ∧ Keep h0 h [r0] ∧ ∃ b : Addr, h0.size ≤ b ∧ Fld Z h r0 "java/lang/String" "value" "[B" (.ref b) ∧ Fld Z h r0 "java/lang/String" "coder" "B" (.int (0 : Int32)) ∧ OArr Z h b .byte 2 (fun j => .int (own_by (g j)))) := by
  refine o_body (plainFor_of_name pn_8) hz (fun m => ef_8 m r0 r1) ?_
  intro p e s m below meth c s₁ G0
  have K : Keep h0 h0 [r0] := Keep.refl _ _
  refine o_aloadN G0 d8_0 (pc' := 1) rfl rfl rfl ?_
  refine o_aloadN G0 d8_1 (pc' := 2) rfl rfl rfl ?_
  refine o_iconst G0 d8_2 (pc' := 3) rfl (v := (0 : Int32)) rfl ?_
  refine o_aloadN G0 d8_3 (pc' := 4) rfl rfl rfl ?_
  refine o_arraylength G0 A_r1 (v := (2 : Int32)) rfl d8_4 (pc' := 5) rfl ?_
  refine o_aconst_null G0 d8_5 (pc' := 6) rfl ?_
  refine o_callI G0 (z := (⟨"java/lang/String", "<init>", "([CIILjava/lang/Void;)V"⟩ : MethodName)) (argsL := [(.ref r1), (.int (0 : Int32)), (.int (2 : Int32)), .null]) (rest := []) (W := 0) (a := r0) rfl (ow hw 38 rfl) (ow hw 39 rfl) rfl d8_6 (by decide) (ow hw 9 rfl) (ow hw 40 rfl) (rm9_2 hw r0 r1 h0 n0 G0.sz g_r0 E_r0 F_v F_c cs hcs S g hg A_r1 hne) (by decide) (by decide) rfl (lenOf pd_6 rfl) rfl (Nat.le_of_eq rfl) (pc' := 9) rfl (by decide) (by decide) ?_
  rintro _ T1 h1 G1 ⟨rfl, K1, b, hb, Fv1, Fc1, Ab1⟩
  replace S := o_stak S K1 (allS E_r0.nostat all0)
  replace K := K.trans K1 (allS (Or.inl (List.mem_of_getElem? (i := 0) rfl)) all0)
  replace E_r0 := E_r0.keep K1
  replace A_r1 := A_r1.keep K1 (ninS (Ne.symm hne) nin0)
  show OFin _ _ _ _ T1 (mkF m 9 #[.val (.ref r0), .val (.ref r1)] [])
  exact o_return G1 d8_9 ⟨rfl, K, b, hb, Fv1, Fc1, Ab1⟩ (by decide) (by decide)
set_option maxRecDepth 65536 in
set_option maxHeartbeats 40000000 in
theorem rm11_4 {l : Launch} {Z : State} {a0 : Array Value} (hw : ∀ d ∈ tables_1, d.before a0 Z = true) (r0 : Addr) (r2 : Addr) (h0 : Heap) (n0 : Nat) (hz : n0 ≤ h0.size) (g : Nat → Int32) (hg : ∀ j, j < 4 → ¬ (255 : Int32) < g j) (A_r0 : OArr Z h0 r0 .char 4 (fun j => .int (g j))) (g_r2 : n0 ≤ r2) (hne : r0 ≠ r2) (A_r2 : OArr Z h0 r2 .byte 4 (fun j => .int (own_by ((fun _ => 0) j)))) :
    OMet l Z (⟨"java/lang/StringUTF16", "compress", "([CI[BII)I"⟩ : MethodName) jdk_52_method_21_code 7 (some .int) ({ frames := 0, cells := 0, slots := 0, locals := 0 } : Room) #[(.ref r0), (.int (0 : Int32)), (.ref r2), (.int (0 : Int32)), (.int (4 : Int32))] h0 n0 ({ frames := 0, cells := 0, slots := 0, locals := 0 } : Room).cells ({ frames := 0, cells := 0, slots := 0, locals := 0 } : Room).slots (fun v h => v = some (.int (4 : Int32)) ∧ Keep h0 h [r2] ∧ OArr Z h r2 .byte 4 (fun j => .int (own_by (g j)))) := by
  refine o_body (plainFor_of_name pn_11) hz (fun m => ef_11 m r0 (0 : Int32) r2 (0 : Int32) (4 : Int32)) ?_
  intro p e s m below meth c s₁ G0
  have K : Keep h0 h0 [r2] := Keep.refl _ _
  refine o_iconst G0 d11_0 (pc' := 1) rfl (v := (0 : Int32)) rfl ?_
  refine o_istore G0 d11_1 (pc' := 3) rfl (l' := #[.val (.ref r0), .val (.int (0 : Int32)), .val (.ref r2), .val (.int (0 : Int32)), .val (.int (4 : Int32)), .val (.int (0 : Int32)), .unset]) rfl ?_
  refine o_iload G0 d11_3 (pc' := 5) rfl rfl ?_
  refine o_iload G0 d11_5 (pc' := 7) rfl rfl ?_
  refine o_icmp_ge G0 d11_7 (by decide) (pcT := 44) (by decide) (pc' := 10) rfl (fun q => absurd (by decide) q) (fun _ => ?_)
  refine o_aloadN G0 d11_10 (pc' := 11) rfl rfl rfl ?_
  refine o_iloadN G0 d11_11 (pc' := 12) rfl rfl ?_
  refine o_caload G0 A_r0 (i := 0) rfl (by decide) (v := (.int (g 0))) rfl d11_12 (pc' := 13) rfl ?_
  refine o_istore G0 d11_13 (pc' := 15) rfl (l' := #[.val (.ref r0), .val (.int (0 : Int32)), .val (.ref r2), .val (.int (0 : Int32)), .val (.int (4 : Int32)), .val (.int (0 : Int32)), .val (.int (g 0))]) rfl ?_
  refine o_iload G0 d11_15 (pc' := 17) rfl rfl ?_
  refine o_sipush G0 d11_17 (pc' := 20) rfl (v := (255 : Int32)) rfl ?_
  refine o_icmp_le G0 d11_20 (by decide) (pcT := 26) (by decide) (pc' := 23) rfl (fun _ => ?_) (fun q => absurd q (hg 0 (by decide)))
  refine o_aloadN G0 d11_26 (pc' := 27) rfl rfl rfl ?_
  refine o_iloadN G0 d11_27 (pc' := 28) rfl rfl ?_
  refine o_iload G0 d11_28 (pc' := 30) rfl rfl ?_
  obtain ⟨v1, e1⟩ : ∃ z, (g 0).toInt8.toInt32 = z := ⟨_, rfl⟩
  refine o_i2b G0 d11_30 (pc' := 31) rfl e1 ?_
  refine o_bastore G0 A_r2 g_r2 (i := 0) rfl (by decide) d11_31 (pc' := 32) rfl ?_
  intro T2 h2 G2 W2 A2
  replace K := K.wr W2 (Or.inl (List.mem_of_getElem? (i := 0) rfl))
  replace A_r0 := A_r0.other W2 hne
  replace A_r2 := A2
  refine o_iinc G2 d11_32 (pc' := 35) rfl rfl (w := (1 : Int32)) rfl (v := (1 : Int32)) (by decide) (l' := #[.val (.ref r0), .val (.int (1 : Int32)), .val (.ref r2), .val (.int (0 : Int32)), .val (.int (4 : Int32)), .val (.int (0 : Int32)), .val (.int (g 0))]) rfl ?_
  refine o_iinc G2 d11_35 (pc' := 38) rfl rfl (w := (1 : Int32)) rfl (v := (1 : Int32)) (by decide) (l' := #[.val (.ref r0), .val (.int (1 : Int32)), .val (.ref r2), .val (.int (1 : Int32)), .val (.int (4 : Int32)), .val (.int (0 : Int32)), .val (.int (g 0))]) rfl ?_
  refine o_iinc G2 d11_38 (pc' := 41) rfl rfl (w := (1 : Int32)) rfl (v := (1 : Int32)) (by decide) (l' := #[.val (.ref r0), .val (.int (1 : Int32)), .val (.ref r2), .val (.int (1 : Int32)), .val (.int (4 : Int32)), .val (.int (1 : Int32)), .val (.int (g 0))]) rfl ?_
  refine o_goto G2 d11_41 (by decide) (pc' := 3) rfl ?_
  refine o_iload G2 d11_3 (pc' := 5) rfl rfl ?_
  refine o_iload G2 d11_5 (pc' := 7) rfl rfl ?_
  refine o_icmp_ge G2 d11_7 (by decide) (pcT := 44) (by decide) (pc' := 10) rfl (fun q => absurd (by decide) q) (fun _ => ?_)
  refine o_aloadN G2 d11_10 (pc' := 11) rfl rfl rfl ?_
  refine o_iloadN G2 d11_11 (pc' := 12) rfl rfl ?_
  refine o_caload G2 A_r0 (i := 1) rfl (by decide) (v := (.int (g 1))) rfl d11_12 (pc' := 13) rfl ?_
  refine o_istore G2 d11_13 (pc' := 15) rfl (l' := #[.val (.ref r0), .val (.int (1 : Int32)), .val (.ref r2), .val (.int (1 : Int32)), .val (.int (4 : Int32)), .val (.int (1 : Int32)), .val (.int (g 1))]) rfl ?_
  refine o_iload G2 d11_15 (pc' := 17) rfl rfl ?_
  refine o_sipush G2 d11_17 (pc' := 20) rfl (v := (255 : Int32)) rfl ?_
  refine o_icmp_le G2 d11_20 (by decide) (pcT := 26) (by decide) (pc' := 23) rfl (fun _ => ?_) (fun q => absurd q (hg 1 (by decide)))
  refine o_aloadN G2 d11_26 (pc' := 27) rfl rfl rfl ?_
  refine o_iloadN G2 d11_27 (pc' := 28) rfl rfl ?_
  refine o_iload G2 d11_28 (pc' := 30) rfl rfl ?_
  obtain ⟨v3, e3⟩ : ∃ z, (g 1).toInt8.toInt32 = z := ⟨_, rfl⟩
  refine o_i2b G2 d11_30 (pc' := 31) rfl e3 ?_
  refine o_bastore G2 A_r2 g_r2 (i := 1) rfl (by decide) d11_31 (pc' := 32) rfl ?_
  intro T4 h4 G4 W4 A4
  replace K := K.wr W4 (Or.inl (List.mem_of_getElem? (i := 0) rfl))
  replace A_r0 := A_r0.other W4 hne
  replace A_r2 := A4
  refine o_iinc G4 d11_32 (pc' := 35) rfl rfl (w := (1 : Int32)) rfl (v := (2 : Int32)) (by decide) (l' := #[.val (.ref r0), .val (.int (2 : Int32)), .val (.ref r2), .val (.int (1 : Int32)), .val (.int (4 : Int32)), .val (.int (1 : Int32)), .val (.int (g 1))]) rfl ?_
  refine o_iinc G4 d11_35 (pc' := 38) rfl rfl (w := (1 : Int32)) rfl (v := (2 : Int32)) (by decide) (l' := #[.val (.ref r0), .val (.int (2 : Int32)), .val (.ref r2), .val (.int (2 : Int32)), .val (.int (4 : Int32)), .val (.int (1 : Int32)), .val (.int (g 1))]) rfl ?_
  refine o_iinc G4 d11_38 (pc' := 41) rfl rfl (w := (1 : Int32)) rfl (v := (2 : Int32)) (by decide) (l' := #[.val (.ref r0), .val (.int (2 : Int32)), .val (.ref r2), .val (.int (2 : Int32)), .val (.int (4 : Int32)), .val (.int (2 : Int32)), .val (.int (g 1))]) rfl ?_
  refine o_goto G4 d11_41 (by decide) (pc' := 3) rfl ?_
  refine o_iload G4 d11_3 (pc' := 5) rfl rfl ?_
  refine o_iload G4 d11_5 (pc' := 7) rfl rfl ?_
  refine o_icmp_ge G4 d11_7 (by decide) (pcT := 44) (by decide) (pc' := 10) rfl (fun q => absurd (by decide) q) (fun _ => ?_)
  refine o_aloadN G4 d11_10 (pc' := 11) rfl rfl rfl ?_
  refine o_iloadN G4 d11_11 (pc' := 12) rfl rfl ?_
  refine o_caload G4 A_r0 (i := 2) rfl (by decide) (v := (.int (g 2))) rfl d11_12 (pc' := 13) rfl ?_
  refine o_istore G4 d11_13 (pc' := 15) rfl (l' := #[.val (.ref r0), .val (.int (2 : Int32)), .val (.ref r2), .val (.int (2 : Int32)), .val (.int (4 : Int32)), .val (.int (2 : Int32)), .val (.int (g 2))]) rfl ?_
  refine o_iload G4 d11_15 (pc' := 17) rfl rfl ?_
  refine o_sipush G4 d11_17 (pc' := 20) rfl (v := (255 : Int32)) rfl ?_
  refine o_icmp_le G4 d11_20 (by decide) (pcT := 26) (by decide) (pc' := 23) rfl (fun _ => ?_) (fun q => absurd q (hg 2 (by decide)))
  refine o_aloadN G4 d11_26 (pc' := 27) rfl rfl rfl ?_
  refine o_iloadN G4 d11_27 (pc' := 28) rfl rfl ?_
  refine o_iload G4 d11_28 (pc' := 30) rfl rfl ?_
  obtain ⟨v5, e5⟩ : ∃ z, (g 2).toInt8.toInt32 = z := ⟨_, rfl⟩
  refine o_i2b G4 d11_30 (pc' := 31) rfl e5 ?_
  refine o_bastore G4 A_r2 g_r2 (i := 2) rfl (by decide) d11_31 (pc' := 32) rfl ?_
  intro T6 h6 G6 W6 A6
  replace K := K.wr W6 (Or.inl (List.mem_of_getElem? (i := 0) rfl))
  replace A_r0 := A_r0.other W6 hne
  replace A_r2 := A6
  refine o_iinc G6 d11_32 (pc' := 35) rfl rfl (w := (1 : Int32)) rfl (v := (3 : Int32)) (by decide) (l' := #[.val (.ref r0), .val (.int (3 : Int32)), .val (.ref r2), .val (.int (2 : Int32)), .val (.int (4 : Int32)), .val (.int (2 : Int32)), .val (.int (g 2))]) rfl ?_
  refine o_iinc G6 d11_35 (pc' := 38) rfl rfl (w := (1 : Int32)) rfl (v := (3 : Int32)) (by decide) (l' := #[.val (.ref r0), .val (.int (3 : Int32)), .val (.ref r2), .val (.int (3 : Int32)), .val (.int (4 : Int32)), .val (.int (2 : Int32)), .val (.int (g 2))]) rfl ?_
  refine o_iinc G6 d11_38 (pc' := 41) rfl rfl (w := (1 : Int32)) rfl (v := (3 : Int32)) (by decide) (l' := #[.val (.ref r0), .val (.int (3 : Int32)), .val (.ref r2), .val (.int (3 : Int32)), .val (.int (4 : Int32)), .val (.int (3 : Int32)), .val (.int (g 2))]) rfl ?_
  refine o_goto G6 d11_41 (by decide) (pc' := 3) rfl ?_
  refine o_iload G6 d11_3 (pc' := 5) rfl rfl ?_
  refine o_iload G6 d11_5 (pc' := 7) rfl rfl ?_
  refine o_icmp_ge G6 d11_7 (by decide) (pcT := 44) (by decide) (pc' := 10) rfl (fun q => absurd (by decide) q) (fun _ => ?_)
  refine o_aloadN G6 d11_10 (pc' := 11) rfl rfl rfl ?_
  refine o_iloadN G6 d11_11 (pc' := 12) rfl rfl ?_
  refine o_caload G6 A_r0 (i := 3) rfl (by decide) (v := (.int (g 3))) rfl d11_12 (pc' := 13) rfl ?_
  refine o_istore G6 d11_13 (pc' := 15) rfl (l' := #[.val (.ref r0), .val (.int (3 : Int32)), .val (.ref r2), .val (.int (3 : Int32)), .val (.int (4 : Int32)), .val (.int (3 : Int32)), .val (.int (g 3))]) rfl ?_
  refine o_iload G6 d11_15 (pc' := 17) rfl rfl ?_
  refine o_sipush G6 d11_17 (pc' := 20) rfl (v := (255 : Int32)) rfl ?_
  refine o_icmp_le G6 d11_20 (by decide) (pcT := 26) (by decide) (pc' := 23) rfl (fun _ => ?_) (fun q => absurd q (hg 3 (by decide)))
  refine o_aloadN G6 d11_26 (pc' := 27) rfl rfl rfl ?_
  refine o_iloadN G6 d11_27 (pc' := 28) rfl rfl ?_
  refine o_iload G6 d11_28 (pc' := 30) rfl rfl ?_
  obtain ⟨v7, e7⟩ : ∃ z, (g 3).toInt8.toInt32 = z := ⟨_, rfl⟩
  refine o_i2b G6 d11_30 (pc' := 31) rfl e7 ?_
  refine o_bastore G6 A_r2 g_r2 (i := 3) rfl (by decide) d11_31 (pc' := 32) rfl ?_
  intro T8 h8 G8 W8 A8
  replace K := K.wr W8 (Or.inl (List.mem_of_getElem? (i := 0) rfl))
  replace A_r0 := A_r0.other W8 hne
  replace A_r2 := A8
  refine o_iinc G8 d11_32 (pc' := 35) rfl rfl (w := (1 : Int32)) rfl (v := (4 : Int32)) (by decide) (l' := #[.val (.ref r0), .val (.int (4 : Int32)), .val (.ref r2), .val (.int (3 : Int32)), .val (.int (4 : Int32)), .val (.int (3 : Int32)), .val (.int (g 3))]) rfl ?_
  refine o_iinc G8 d11_35 (pc' := 38) rfl rfl (w := (1 : Int32)) rfl (v := (4 : Int32)) (by decide) (l' := #[.val (.ref r0), .val (.int (4 : Int32)), .val (.ref r2), .val (.int (4 : Int32)), .val (.int (4 : Int32)), .val (.int (3 : Int32)), .val (.int (g 3))]) rfl ?_
  refine o_iinc G8 d11_38 (pc' := 41) rfl rfl (w := (1 : Int32)) rfl (v := (4 : Int32)) (by decide) (l' := #[.val (.ref r0), .val (.int (4 : Int32)), .val (.ref r2), .val (.int (4 : Int32)), .val (.int (4 : Int32)), .val (.int (4 : Int32)), .val (.int (g 3))]) rfl ?_
  refine o_goto G8 d11_41 (by decide) (pc' := 3) rfl ?_
  refine o_iload G8 d11_3 (pc' := 5) rfl rfl ?_
  refine o_iload G8 d11_5 (pc' := 7) rfl rfl ?_
  refine o_icmp_ge G8 d11_7 (by decide) (pcT := 44) (by decide) (pc' := 10) rfl (fun _ => ?_) (fun q => absurd q (by decide))
  refine o_iload G8 d11_44 (pc' := 46) rfl rfl ?_
  subst e1 e3 e5 e7
  exact o_ireturn G8 d11_46 ⟨rfl, K, A_r2.congr (by intro j hj; match j, hj with | 0, _ => exact congrArg Value.int (own_byn (g 0)) | 1, _ => exact congrArg Value.int (own_byn (g 1)) | 2, _ => exact congrArg Value.int (own_byn (g 2)) | 3, _ => exact congrArg Value.int (own_byn (g 3)))⟩ (by decide) (by decide)
set_option maxRecDepth 65536 in
set_option maxHeartbeats 40000000 in
theorem rm10_4 {l : Launch} {Z : State} {a0 : Array Value} (hw : ∀ d ∈ tables_1, d.before a0 Z = true) (r0 : Addr) (h0 : Heap) (n0 : Nat) (hz : n0 ≤ h0.size) (g : Nat → Int32) (hg : ∀ j, j < 4 → ¬ (255 : Int32) < g j) (A_r0 : OArr Z h0 r0 .char 4 (fun j => .int (g j))) :
    OMet l Z (⟨"java/lang/StringUTF16", "compress", "([CII)[B"⟩ : MethodName) jdk_52_method_16_code 6 (some (.array .byte)) ({ frames := 1, cells := 1, slots := 4, locals := 18 } : Room) #[(.ref r0), (.int (0 : Int32)), (.int (4 : Int32))] h0 n0 ({ frames := 1, cells := 1, slots := 4, locals := 18 } : Room).cells ({ frames := 1, cells := 1, slots := 4, locals := 18 } : Room).slots (fun v h => ∃ b : Addr, v = some (.ref b) ∧ n0 ≤ b ∧ h0.size ≤ b ∧ Keep h0 h [] ∧ OArr Z h b .byte 4 (fun j => .int (own_by (g j)))) := by
  refine o_body (plainFor_of_name pn_10) hz (fun m => ef_10 m r0 (0 : Int32) (4 : Int32)) ?_
  intro p e s m below meth c s₁ G0
  have K : Keep h0 h0 [] := Keep.refl _ _
  refine o_iloadN G0 d10_0 (pc' := 1) rfl rfl ?_
  refine o_newarray G0 (N := 4) (cap := 4) (ow hw 21 rfl) rfl (by decide) (by decide) d10_1 (pc' := 3) rfl (by decide) (by decide) ?_
  intro T1 h1 b1 G1 g1 g_b1 E1 A_b1
  have ne_r0_b1 : r0 ≠ b1 := Nat.ne_of_lt (Nat.lt_of_lt_of_eq A_r0.lt g1.symm)
  have sz_b1 : h0.size ≤ b1 := Nat.le_trans K.1 (Nat.le_of_eq g1.symm)
  replace K := K.ext E1
  replace A_r0 := A_r0.ext E1
  replace A_b1 : OArr Z h1 b1 .byte 4 (fun _ => (.int (0 : Int32))) := A_b1
  refine o_astoreN G1 d10_3 (pc' := 4) rfl rfl (l' := #[.val (.ref r0), .val (.int (0 : Int32)), .val (.int (4 : Int32)), .val (.ref b1), .unset, .unset]) rfl ?_
  refine o_aloadN G1 d10_4 (pc' := 5) rfl rfl rfl ?_
  refine o_iloadN G1 d10_5 (pc' := 6) rfl rfl ?_
  refine o_aloadN G1 d10_6 (pc' := 7) rfl rfl rfl ?_
  refine o_iconst G1 d10_7 (pc' := 8) rfl (v := (0 : Int32)) rfl ?_
  refine o_iloadN G1 d10_8 (pc' := 9) rfl rfl ?_
  refine o_callS G1 (z := (⟨"java/lang/StringUTF16", "compress", "([CI[BII)I"⟩ : MethodName)) (argsL := [(.ref r0), (.int (0 : Int32)), (.ref b1), (.int (0 : Int32)), (.int (4 : Int32))]) (rest := []) (W := 0) (ow hw 45 rfl) (ow hw 46 rfl) d10_9 (by decide) (ow hw 43 rfl) (ow hw 47 rfl) (rm11_4 hw r0 b1 h1 n0 G1.sz g hg A_r0 g_b1 ne_r0_b1 A_b1) (by decide) (by decide) rfl (lenOf pd_3 rfl) rfl (Nat.le_of_eq rfl) (pc' := 12) rfl (by decide) (by decide) ?_
  rintro _ T2 h2 G2 ⟨rfl, K2, A2⟩
  replace K := K.trans K2 (allS (Or.inr sz_b1) all0)
  replace A_r0 := A_r0.keep K2 (ninS ne_r0_b1 nin0)
  show OFin _ _ _ _ T2 (mkF m 12 #[.val (.ref r0), .val (.int (0 : Int32)), .val (.int (4 : Int32)), .val (.ref b1), .unset, .unset] [(.int (4 : Int32))])
  refine o_istore G2 d10_12 (pc' := 14) rfl (l' := #[.val (.ref r0), .val (.int (0 : Int32)), .val (.int (4 : Int32)), .val (.ref b1), .val (.int (4 : Int32)), .unset]) rfl ?_
  refine o_iload G2 d10_14 (pc' := 16) rfl rfl ?_
  refine o_iloadN G2 d10_16 (pc' := 17) rfl rfl ?_
  refine o_icmp_eq G2 d10_17 (by decide) (pcT := 57) (by decide) (pc' := 20) rfl (fun _ => ?_) (fun q => absurd (by decide) q)
  refine o_aloadN G2 d10_57 (pc' := 58) rfl rfl rfl ?_
  exact o_areturn G2 rfl rfl rfl d10_58 ⟨b1, rfl, g_b1, sz_b1, K, A2⟩ (by decide) (by decide)
set_option maxRecDepth 65536 in
set_option maxHeartbeats 40000000 in
theorem rm12_4 {l : Launch} {Z : State} {a0 : Array Value} (hw : ∀ d ∈ tables_1, d.before a0 Z = true) (r0 : Addr) (h0 : Heap) (n0 : Nat) (hz : n0 ≤ h0.size) (g : Nat → Int32) (A_r0 : OArr Z h0 r0 .byte 4 (fun j => .int (own_by (g j)))) :
    OMet l Z (⟨"java/lang/StringUTF16", "coderFromArrayLen", "([BI)B"⟩ : MethodName) jdk_52_method_15_code 2 (some .byte) ({ frames := 0, cells := 0, slots := 0, locals := 0 } : Room) #[(.ref r0), (.int (4 : Int32))] h0 n0 ({ frames := 0, cells := 0, slots := 0, locals := 0 } : Room).cells ({ frames := 0, cells := 0, slots := 0, locals := 0 } : Room).slots (OVal h0 (.int 0)) := by
  refine o_body (plainFor_of_name pn_12) hz (fun m => ef_12 m r0 (4 : Int32)) ?_
  intro p e s m below meth c s₁ G0
  refine o_iloadN G0 d12_0 (pc' := 1) rfl rfl ?_
  refine o_aloadN G0 d12_1 (pc' := 2) rfl rfl rfl ?_
  refine o_arraylength G0 A_r0 (v := (4 : Int32)) rfl d12_2 (pc' := 3) rfl ?_
  refine o_isub G0 d12_3 (pc' := 4) rfl (v := (0 : Int32)) (by decide) ?_
  refine o_bipush G0 d12_4 (pc' := 6) rfl (v := (31 : Int32)) rfl ?_
  refine o_iushr G0 d12_6 (pc' := 7) rfl (v := (0 : Int32)) (by decide) ?_
  refine o_i2b G0 d12_7 (pc' := 8) rfl (v := (0 : Int32)) (by decide) ?_
  exact o_nreturn (t := .byte) G0 (by simp) d12_8 ⟨rfl, rfl⟩ (by decide) (by decide)
set_option maxRecDepth 65536 in
set_option maxHeartbeats 40000000 in
theorem rm9_4 {l : Launch} {Z : State} {a0 : Array Value} (hw : ∀ d ∈ tables_1, d.before a0 Z = true) (r0 : Addr) (r1 : Addr) (h0 : Heap) (n0 : Nat) (hz : n0 ≤ h0.size) (g_r0 : n0 ≤ r0) (E_r0 : Exa Z h0 r0 "java/lang/String") (F_v : Fld Z h0 r0 "java/lang/String" "value" "[B" .null) (F_c : Fld Z h0 r0 "java/lang/String" "coder" "B" (.int (0 : Int32))) (cs : Int32) (hcs : ¬ cs = 0) (S : Sta Z h0 "java/lang/String" "COMPACT_STRINGS" "Z" (.int cs)) (g : Nat → Int32) (hg : ∀ j, j < 4 → ¬ (255 : Int32) < g j) (A_r1 : OArr Z h0 r1 .char 4 (fun j => .int (g j))) (hne : r0 ≠ r1) :
    OMet l Z (⟨"java/lang/String", "<init>", "([CIILjava/lang/Void;)V"⟩ : MethodName) jdk_42_method_149_code 6 none ({ frames := 2, cells := 1, slots := 4, locals := 35 } : Room) #[(.ref r0), (.ref r1), (.int (0 : Int32)), (.int (4 : Int32)), .null] h0 n0 ({ frames := 2, cells := 1, slots := 4, locals := 35 } : Room).cells ({ frames := 2, cells := 1, slots := 4, locals := 35 } : Room).slots (fun v h => v = none ∧ Keep h0 h [r0] ∧ ∃ b : Addr, h0.size ≤ b ∧ Fld Z h r0 "java/lang/String" "value" "[B" (.ref b) ∧ Fld Z h r0 "java/lang/String" "coder" "B" (.int (0 : Int32)) ∧ OArr Z h b .byte 4 (fun j => .int (own_by (g j)))) := by
  refine o_body (plainFor_of_name pn_9) hz (fun m => ef_9 m r0 r1 (0 : Int32) (4 : Int32)) ?_
  intro p e s m below meth c s₁ G0
  have K : Keep h0 h0 [r0] := Keep.refl _ _
  refine o_aloadN G0 d9_0 (pc' := 1) rfl rfl rfl ?_
  refine o_initO G0 (ow hw 26 rfl) (ow hw 27 rfl) (ow hw 28 rfl) d9_1 (pc' := 4) rfl rfl (by decide) (W := 0) (Nat.le_of_eq rfl) (by decide) ?_
  intro T1 G1
  refine o_iloadN G1 d9_4 (pc' := 5) rfl rfl ?_
  refine o_if_ne G1 d9_5 (by decide) (pcT := 27) (by decide) (pc' := 8) rfl (fun _ => ?_) (fun q => absurd q (by decide))
  refine o_getS G1 (host := "") (Or.inl (ow hw 11 rfl)) Via.refl S d9_27 (pc' := 30) rfl ?_
  intro T2 G2
  refine o_if_eq G2 d9_30 (by decide) (pcT := 58) (by decide) (pc' := 33) rfl (fun q => absurd q hcs) (fun _ => ?_)
  refine o_aloadN G2 d9_33 (pc' := 34) rfl rfl rfl ?_
  refine o_iloadN G2 d9_34 (pc' := 35) rfl rfl ?_
  refine o_iloadN G2 d9_35 (pc' := 36) rfl rfl ?_
  refine o_callS G2 (z := (⟨"java/lang/StringUTF16", "compress", "([CII)[B"⟩ : MethodName)) (argsL := [(.ref r1), (.int (0 : Int32)), (.int (4 : Int32))]) (rest := []) (W := 0) (ow hw 41 rfl) (ow hw 42 rfl) d9_36 (by decide) (ow hw 43 rfl) (ow hw 44 rfl) (rm10_4 hw r1 h0 n0 G2.sz g hg A_r1) (by decide) (by decide) rfl (lenOf pd_4 rfl) rfl (Nat.le_of_eq rfl) (pc' := 39) rfl (by decide) (by decide) ?_
  rintro _ T3 h3 G3 ⟨b3, rfl, gb3, hb3, K3, A_b3⟩
  have ne_r0_b3 : r0 ≠ b3 := Nat.ne_of_lt (Nat.lt_of_lt_of_le E_r0.lt hb3)
  have sz_b3 : h0.size ≤ b3 := Nat.le_trans K.1 hb3
  replace S := o_stak S K3 (fun x hx => nomatch hx)
  replace K := K.trans K3 all0
  replace E_r0 := E_r0.keep K3
  replace F_v := F_v.keep K3 nin0
  replace F_c := F_c.keep K3 nin0
  replace A_r1 := A_r1.keep K3 nin0
  show OFin _ _ _ _ T3 (mkF m 39 #[.val (.ref r0), .val (.ref r1), .val (.int (0 : Int32)), .val (.int (4 : Int32)), .val .null, .unset] [(.ref b3)])
  refine o_astore G3 d9_39 (pc' := 41) rfl rfl (l' := #[.val (.ref r0), .val (.ref r1), .val (.int (0 : Int32)), .val (.int (4 : Int32)), .val .null, .val (.ref b3)]) rfl ?_
  refine o_aloadN G3 d9_41 (pc' := 42) rfl rfl rfl ?_
  refine o_aload G3 d9_42 (pc' := 44) rfl rfl rfl ?_
  refine o_iloadN G3 d9_44 (pc' := 45) rfl rfl ?_
  refine o_callS G3 (z := (⟨"java/lang/StringUTF16", "coderFromArrayLen", "([BI)B"⟩ : MethodName)) (argsL := [(.ref b3), (.int (4 : Int32))]) (rest := [(.ref r0)]) (W := 1) (ow hw 48 rfl) (ow hw 49 rfl) d9_45 (by decide) (ow hw 43 rfl) (ow hw 50 rfl) (rm12_4 hw b3 h3 n0 G3.sz g A_b3) (by decide) (by decide) rfl (lenOf pd_5 rfl) rfl (Nat.le_of_eq rfl) (pc' := 48) rfl (by decide) (by decide) ?_
  rintro _ T4 h4 G4 ⟨rfl, hh⟩
  subst hh
  show OFin _ _ _ _ T4 (mkF m 48 #[.val (.ref r0), .val (.ref r1), .val (.int (0 : Int32)), .val (.int (4 : Int32)), .val .null, .val (.ref b3)] [(.int (0 : Int32)), (.ref r0)])
  refine o_putF G4 (host := "") (Or.inl (ow hw 31 rfl)) Via.refl F_c E_r0 (Or.inr ⟨(ow hw 32 rfl), rfl, rfl⟩) (ow hw 17 rfl) (ty := .byte) (by decide) rfl rfl g_r0 d9_48 (pc' := 51) rfl ?_
  intro T5 h5 G5 W5
  replace K := K.wr W5 (Or.inl (List.mem_of_getElem? (i := 0) rfl))
  replace E_r0 := E_r0.wr W5
  replace F_v := F_v.other W5 (Or.inr (slot_ne (Or.inr (ow hw 30 rfl)) (Or.inr (ow hw 32 rfl)) (by decide) (t := (.array .byte)) (t' := .byte) (by decide) (by decide)))
  replace F_c := F_c.same W5
  replace S := S.wr W5
  replace A_r1 := A_r1.other W5 (Ne.symm hne)
  replace A_b3 := A_b3.other W5 (Ne.symm ne_r0_b3)
  refine o_aloadN G5 d9_51 (pc' := 52) rfl rfl rfl ?_
  refine o_aload G5 d9_52 (pc' := 54) rfl rfl rfl ?_
  refine o_putF G5 (host := "") (Or.inl (ow hw 29 rfl)) Via.refl F_v E_r0 (Or.inr ⟨(ow hw 30 rfl), rfl, rfl⟩) (ow hw 17 rfl) (ty := (.array .byte)) (by decide) rfl rfl g_r0 d9_54 (pc' := 57) rfl ?_
  intro T6 h6 G6 W6
  replace K := K.wr W6 (Or.inl (List.mem_of_getElem? (i := 0) rfl))
  replace E_r0 := E_r0.wr W6
  replace F_v := F_v.same W6
  replace F_c := F_c.other W6 (Or.inr (slot_ne (Or.inr (ow hw 32 rfl)) (Or.inr (ow hw 30 rfl)) (by decide) (t := .byte) (t' := (.array .byte)) (by decide) (by decide)))
  replace S := S.wr W6
  replace A_r1 := A_r1.other W6 (Ne.symm hne)
  replace A_b3 := A_b3.other W6 (Ne.symm ne_r0_b3)
  exact o_return G6 d9_57 ⟨rfl, K, b3, sz_b3, F_v, F_c, A_b3⟩ (by decide) (by decide)
set_option maxRecDepth 65536 in
set_option maxHeartbeats 40000000 in
theorem rm8_4 {l : Launch} {Z : State} {a0 : Array Value} (hw : ∀ d ∈ tables_1, d.before a0 Z = true) (r0 : Addr) (r1 : Addr) (h0 : Heap) (n0 : Nat) (hz : n0 ≤ h0.size) (g_r0 : n0 ≤ r0) (E_r0 : Exa Z h0 r0 "java/lang/String") (F_v : Fld Z h0 r0 "java/lang/String" "value" "[B" .null) (F_c : Fld Z h0 r0 "java/lang/String" "coder" "B" (.int (0 : Int32))) (cs : Int32) (hcs : ¬ cs = 0) (S : Sta Z h0 "java/lang/String" "COMPACT_STRINGS" "Z" (.int cs)) (g : Nat → Int32) (hg : ∀ j, j < 4 → ¬ (255 : Int32) < g j) (A_r1 : OArr Z h0 r1 .char 4 (fun j => .int (g j))) (hne : r0 ≠ r1) :
    OMet l Z (⟨"java/lang/String", "<init>", "([C)V"⟩ : MethodName) jdk_42_method_3_code 2 none ({ frames := 3, cells := 1, slots := 4, locals := 52 } : Room) #[(.ref r0), (.ref r1)] h0 n0 ({ frames := 3, cells := 1, slots := 4, locals := 52 } : Room).cells ({ frames := 3, cells := 1, slots := 4, locals := 52 } : Room).slots (fun v h => v = none ∧ Keep h0 h [r0] ∧ ∃ b : Addr, h0.size ≤ b ∧ Fld Z h r0 "java/lang/String" "value" "[B" (.ref b) ∧ Fld Z h r0 "java/lang/String" "coder" "B" (.int (0 : Int32)) ∧ OArr Z h b .byte 4 (fun j => .int (own_by (g j)))) := by
  refine o_body (plainFor_of_name pn_8) hz (fun m => ef_8 m r0 r1) ?_
  intro p e s m below meth c s₁ G0
  have K : Keep h0 h0 [r0] := Keep.refl _ _
  refine o_aloadN G0 d8_0 (pc' := 1) rfl rfl rfl ?_
  refine o_aloadN G0 d8_1 (pc' := 2) rfl rfl rfl ?_
  refine o_iconst G0 d8_2 (pc' := 3) rfl (v := (0 : Int32)) rfl ?_
  refine o_aloadN G0 d8_3 (pc' := 4) rfl rfl rfl ?_
  refine o_arraylength G0 A_r1 (v := (4 : Int32)) rfl d8_4 (pc' := 5) rfl ?_
  refine o_aconst_null G0 d8_5 (pc' := 6) rfl ?_
  refine o_callI G0 (z := (⟨"java/lang/String", "<init>", "([CIILjava/lang/Void;)V"⟩ : MethodName)) (argsL := [(.ref r1), (.int (0 : Int32)), (.int (4 : Int32)), .null]) (rest := []) (W := 0) (a := r0) rfl (ow hw 38 rfl) (ow hw 39 rfl) rfl d8_6 (by decide) (ow hw 9 rfl) (ow hw 40 rfl) (rm9_4 hw r0 r1 h0 n0 G0.sz g_r0 E_r0 F_v F_c cs hcs S g hg A_r1 hne) (by decide) (by decide) rfl (lenOf pd_6 rfl) rfl (Nat.le_of_eq rfl) (pc' := 9) rfl (by decide) (by decide) ?_
  rintro _ T1 h1 G1 ⟨rfl, K1, b, hb, Fv1, Fc1, Ab1⟩
  replace S := o_stak S K1 (allS E_r0.nostat all0)
  replace K := K.trans K1 (allS (Or.inl (List.mem_of_getElem? (i := 0) rfl)) all0)
  replace E_r0 := E_r0.keep K1
  replace A_r1 := A_r1.keep K1 (ninS (Ne.symm hne) nin0)
  show OFin _ _ _ _ T1 (mkF m 9 #[.val (.ref r0), .val (.ref r1)] [])
  exact o_return G1 d8_9 ⟨rfl, K, b, hb, Fv1, Fc1, Ab1⟩ (by decide) (by decide)
theorem d14_0 : decode jdk_42_method_55_code 0 = .ok (.aload_n 0, 1) := by decide +kernel
theorem d14_1 : decode jdk_42_method_55_code 1 = .ok (.getfield 9, 3) := by decide +kernel
theorem d14_4 : decode jdk_42_method_55_code 4 = .ok (.arraylength, 1) := by decide +kernel
theorem d14_5 : decode jdk_42_method_55_code 5 = .ok (.ifCond .ne 7, 3) := by decide +kernel
theorem d14_8 : decode jdk_42_method_55_code 8 = .ok (.iconst 1, 1) := by decide +kernel
theorem d14_9 : decode jdk_42_method_55_code 9 = .ok (.goto 4, 3) := by decide +kernel
theorem d14_12 : decode jdk_42_method_55_code 12 = .ok (.iconst 0, 1) := by decide +kernel
theorem d14_13 : decode jdk_42_method_55_code 13 = .ok (.ireturn, 1) := by decide +kernel
theorem pn_14 : plainName "java/lang/String" = true := by first | (simp [plainName, overriddenIn]; done) | decide +kernel
theorem ef_14 (m : MethodId) (r0 : Addr) : entryFrame m #[(.ref r0)] 1 = mkF m 0 #[.val (.ref r0)] [] := by first | (simp [entryFrame, mkF, argsToLocals, Value.category]; done) | rfl
set_option maxRecDepth 65536 in
set_option maxHeartbeats 40000000 in
theorem rm14_0 {l : Launch} {Z : State} {a0 : Array Value} (hw : ∀ d ∈ tables_1, d.before a0 Z = true) (r0 : Addr) (h0 : Heap) (n0 : Nat) (hz : n0 ≤ h0.size) (b : Addr) (g : Nat → Int32) (E_r0 : Exa Z h0 r0 "java/lang/String") (Fv_r0 : Fld Z h0 r0 "java/lang/String" "value" "[B" (.ref b)) (Fc_r0 : Fld Z h0 r0 "java/lang/String" "coder" "B" (.int (0 : Int32))) (A_b : OArr Z h0 b .byte 0 (fun j => .int (own_by (g j)))) :
    OMet l Z (⟨"java/lang/String", "isEmpty", "()Z"⟩ : MethodName) jdk_42_method_55_code 1 (some .boolean) ({ frames := 0, cells := 0, slots := 0, locals := 0 } : Room) #[(.ref r0)] h0 n0 ({ frames := 0, cells := 0, slots := 0, locals := 0 } : Room).cells ({ frames := 0, cells := 0, slots := 0, locals := 0 } : Room).slots (OVal h0 (.int 1)) := by
  refine o_body (plainFor_of_name pn_14) hz (fun m => ef_14 m r0) ?_
  intro p e s m below meth c s₁ G0
  refine o_aloadN G0 d14_0 (pc' := 1) rfl rfl rfl ?_
  refine o_getF G0 (host := "") (Or.inl (ow hw 29 rfl)) Via.refl Fv_r0 d14_1 (pc' := 4) rfl ?_
  intro T1 G1
  refine o_arraylength G1 A_b (v := (0 : Int32)) rfl d14_4 (pc' := 5) rfl ?_
  refine o_if_ne G1 d14_5 (by decide) (pcT := 12) (by decide) (pc' := 8) rfl (fun q => absurd (by decide) q) (fun _ => ?_)
  refine o_iconst G1 d14_8 (pc' := 9) rfl (v := (1 : Int32)) rfl ?_
  refine o_goto G1 d14_9 (by decide) (pc' := 13) rfl ?_
  exact o_nreturn (t := .boolean) G1 (by simp) d14_13 ⟨rfl, rfl⟩ (by decide) (by decide)
set_option maxRecDepth 65536 in
set_option maxHeartbeats 40000000 in
theorem rm14_2 {l : Launch} {Z : State} {a0 : Array Value} (hw : ∀ d ∈ tables_1, d.before a0 Z = true) (r0 : Addr) (h0 : Heap) (n0 : Nat) (hz : n0 ≤ h0.size) (b : Addr) (g : Nat → Int32) (E_r0 : Exa Z h0 r0 "java/lang/String") (Fv_r0 : Fld Z h0 r0 "java/lang/String" "value" "[B" (.ref b)) (Fc_r0 : Fld Z h0 r0 "java/lang/String" "coder" "B" (.int (0 : Int32))) (A_b : OArr Z h0 b .byte 2 (fun j => .int (own_by (g j)))) :
    OMet l Z (⟨"java/lang/String", "isEmpty", "()Z"⟩ : MethodName) jdk_42_method_55_code 1 (some .boolean) ({ frames := 0, cells := 0, slots := 0, locals := 0 } : Room) #[(.ref r0)] h0 n0 ({ frames := 0, cells := 0, slots := 0, locals := 0 } : Room).cells ({ frames := 0, cells := 0, slots := 0, locals := 0 } : Room).slots (OVal h0 (.int 0)) := by
  refine o_body (plainFor_of_name pn_14) hz (fun m => ef_14 m r0) ?_
  intro p e s m below meth c s₁ G0
  refine o_aloadN G0 d14_0 (pc' := 1) rfl rfl rfl ?_
  refine o_getF G0 (host := "") (Or.inl (ow hw 29 rfl)) Via.refl Fv_r0 d14_1 (pc' := 4) rfl ?_
  intro T1 G1
  refine o_arraylength G1 A_b (v := (2 : Int32)) rfl d14_4 (pc' := 5) rfl ?_
  refine o_if_ne G1 d14_5 (by decide) (pcT := 12) (by decide) (pc' := 8) rfl (fun _ => ?_) (fun q => absurd q (by decide))
  refine o_iconst G1 d14_12 (pc' := 13) rfl (v := (0 : Int32)) rfl ?_
  exact o_nreturn (t := .boolean) G1 (by simp) d14_13 ⟨rfl, rfl⟩ (by decide) (by decide)
theorem d18_0 : decode jdk_42_method_152_code 0 = .ok (.getstatic 38, 3) := by decide +kernel
theorem d18_3 : decode jdk_42_method_152_code 3 = .ok (.ifCond .eq 10, 3) := by decide +kernel
theorem d18_6 : decode jdk_42_method_152_code 6 = .ok (.aload_n 0, 1) := by decide +kernel
theorem d18_7 : decode jdk_42_method_152_code 7 = .ok (.getfield 15, 3) := by decide +kernel
theorem d18_10 : decode jdk_42_method_152_code 10 = .ok (.goto 4, 3) := by decide +kernel
theorem d18_14 : decode jdk_42_method_152_code 14 = .ok (.ireturn, 1) := by decide +kernel
theorem pn_18 : plainName "java/lang/String" = true := by first | (simp [plainName, overriddenIn]; done) | decide +kernel
theorem ef_18 (m : MethodId) (r0 : Addr) : entryFrame m #[(.ref r0)] 1 = mkF m 0 #[.val (.ref r0)] [] := by first | (simp [entryFrame, mkF, argsToLocals, Value.category]; done) | rfl
set_option maxRecDepth 65536 in
set_option maxHeartbeats 40000000 in
theorem rm18 {l : Launch} {Z : State} {a0 : Array Value} (hw : ∀ d ∈ tables_1, d.before a0 Z = true) (r0 : Addr) (h0 : Heap) (n0 : Nat) (hz : n0 ≤ h0.size) (cs : Int32) (hcs : ¬ cs = 0) (S : Sta Z h0 "java/lang/String" "COMPACT_STRINGS" "Z" (.int cs)) (Fc : Fld Z h0 r0 "java/lang/String" "coder" "B" (.int (0 : Int32))) :
    OMet l Z (⟨"java/lang/String", "coder", "()B"⟩ : MethodName) jdk_42_method_152_code 1 (some .byte) ({ frames := 0, cells := 0, slots := 0, locals := 0 } : Room) #[(.ref r0)] h0 n0 ({ frames := 0, cells := 0, slots := 0, locals := 0 } : Room).cells ({ frames := 0, cells := 0, slots := 0, locals := 0 } : Room).slots (OVal h0 (.int 0)) := by
  refine o_body (plainFor_of_name pn_18) hz (fun m => ef_18 m r0) ?_
  intro p e s m below meth c s₁ G0
  refine o_getS G0 (host := "") (Or.inl (ow hw 11 rfl)) Via.refl S d18_0 (pc' := 3) rfl ?_
  intro T1 G1
  refine o_if_eq G1 d18_3 (by decide) (pcT := 13) (by decide) (pc' := 6) rfl (fun q => absurd q hcs) (fun _ => ?_)
  refine o_aloadN G1 d18_6 (pc' := 7) rfl rfl rfl ?_
  refine o_getF G1 (host := "") (Or.inl (ow hw 31 rfl)) Via.refl Fc d18_7 (pc' := 10) rfl ?_
  intro T2 G2
  refine o_goto G2 d18_10 (by decide) (pc' := 14) rfl ?_
  exact o_nreturn (t := .byte) G2 (by simp) d18_14 ⟨rfl, rfl⟩ (by decide) (by decide)
theorem d17_0 : decode jdk_42_method_54_code 0 = .ok (.aload_n 0, 1) := by decide +kernel
theorem d17_1 : decode jdk_42_method_54_code 1 = .ok (.getfield 9, 3) := by decide +kernel
theorem d17_4 : decode jdk_42_method_54_code 4 = .ok (.arraylength, 1) := by decide +kernel
theorem d17_5 : decode jdk_42_method_54_code 5 = .ok (.aload_n 0, 1) := by decide +kernel
theorem d17_6 : decode jdk_42_method_54_code 6 = .ok (.invokevirtual 335, 3) := by decide +kernel
theorem d17_9 : decode jdk_42_method_54_code 9 = .ok (.ishr, 1) := by decide +kernel
theorem d17_10 : decode jdk_42_method_54_code 10 = .ok (.ireturn, 1) := by decide +kernel
theorem pn_17 : plainName "java/lang/String" = true := by first | (simp [plainName, overriddenIn]; done) | decide +kernel
theorem ef_17 (m : MethodId) (r0 : Addr) : entryFrame m #[(.ref r0)] 1 = mkF m 0 #[.val (.ref r0)] [] := by first | (simp [entryFrame, mkF, argsToLocals, Value.category]; done) | rfl
set_option maxRecDepth 65536 in
set_option maxHeartbeats 40000000 in
theorem rm17 {l : Launch} {Z : State} {a0 : Array Value} (hw : ∀ d ∈ tables_1, d.before a0 Z = true) (r0 : Addr) (h0 : Heap) (n0 : Nat) (hz : n0 ≤ h0.size) (cs : Int32) (hcs : ¬ cs = 0) (S : Sta Z h0 "java/lang/String" "COMPACT_STRINGS" "Z" (.int cs)) (N : Nat) (x : Int32) (hN : Nat.toInt32 N = x) (hsx : x >>> ((0 : Int32) &&& 31) = x) (b : Addr) (g : Nat → Int32) (E_r0 : Exa Z h0 r0 "java/lang/String") (Fv_r0 : Fld Z h0 r0 "java/lang/String" "value" "[B" (.ref b)) (Fc_r0 : Fld Z h0 r0 "java/lang/String" "coder" "B" (.int (0 : Int32))) (A_b : OArr Z h0 b .byte N (fun j => .int (own_by (g j)))) :
    OMet l Z (⟨"java/lang/String", "length", "()I"⟩ : MethodName) jdk_42_method_54_code 1 (some .int) ({ frames := 1, cells := 0, slots := 0, locals := 13 } : Room) #[(.ref r0)] h0 n0 ({ frames := 1, cells := 0, slots := 0, locals := 13 } : Room).cells ({ frames := 1, cells := 0, slots := 0, locals := 13 } : Room).slots (OVal h0 (.int x)) := by
  refine o_body (plainFor_of_name pn_17) hz (fun m => ef_17 m r0) ?_
  intro p e s m below meth c s₁ G0
  refine o_aloadN G0 d17_0 (pc' := 1) rfl rfl rfl ?_
  refine o_getF G0 (host := "") (Or.inl (ow hw 29 rfl)) Via.refl Fv_r0 d17_1 (pc' := 4) rfl ?_
  intro T1 G1
  refine o_arraylength G1 A_b (v := x) hN d17_4 (pc' := 5) rfl ?_
  refine o_aloadN G1 d17_5 (pc' := 6) rfl rfl rfl ?_
  refine o_callV G1 (z := (⟨"java/lang/String", "coder", "()B"⟩ : MethodName)) (argsL := []) (rest := [(.int x)]) (W := 1) E_r0 (ow hw 81 rfl) (ow hw 83 rfl) (ow hw 82 rfl) (ow hw 84 rfl) d17_6 (by decide) (ow hw 9 rfl) (ow hw 85 rfl) (rm18 hw r0 h0 n0 G1.sz cs hcs S Fc_r0) (by decide) (by decide) rfl (lenOf pd_7 rfl) rfl (Nat.le_of_eq rfl) (pc' := 9) rfl (by decide) (by decide) ?_
  rintro _ T2 h2 G2 ⟨rfl, hh⟩
  subst hh
  show OFin _ _ _ _ T2 (mkF m 9 #[.val (.ref r0)] [(.int (0 : Int32)), (.int x)])
  obtain ⟨v3, e3⟩ : ∃ z, x >>> ((0 : Int32) &&& 31) = z := ⟨_, rfl⟩
  refine o_ishr G2 d17_9 (pc' := 10) rfl e3 ?_
  subst e3
  rw [hsx]
  exact o_ireturn G2 d17_10 ⟨rfl, rfl⟩ (by decide) (by decide)
theorem d19_0 : decode jdk_48_method_14_code 0 = .ok (.iconst 0, 1) := by decide +kernel
theorem d19_1 : decode jdk_48_method_14_code 1 = .ok (.istore 5, 2) := by decide +kernel
theorem d19_3 : decode jdk_48_method_14_code 3 = .ok (.iload 4, 2) := by decide +kernel
theorem d19_5 : decode jdk_48_method_14_code 5 = .ok (.bipush 7, 2) := by decide +kernel
theorem d19_7 : decode jdk_48_method_14_code 7 = .ok (.if_icmp .le 63, 3) := by decide +kernel
theorem d19_70 : decode jdk_48_method_14_code 70 = .ok (.iload 5, 2) := by decide +kernel
theorem d19_72 : decode jdk_48_method_14_code 72 = .ok (.iload 4, 2) := by decide +kernel
theorem d19_74 : decode jdk_48_method_14_code 74 = .ok (.if_icmp .ge 27, 3) := by decide +kernel
theorem d19_77 : decode jdk_48_method_14_code 77 = .ok (.aload_n 0, 1) := by decide +kernel
theorem d19_78 : decode jdk_48_method_14_code 78 = .ok (.iload_n 1, 1) := by decide +kernel
theorem d19_79 : decode jdk_48_method_14_code 79 = .ok (.iload 5, 2) := by decide +kernel
theorem d19_81 : decode jdk_48_method_14_code 81 = .ok (.iadd, 1) := by decide +kernel
theorem d19_82 : decode jdk_48_method_14_code 82 = .ok (.baload, 1) := by decide +kernel
theorem d19_83 : decode jdk_48_method_14_code 83 = .ok (.aload_n 2, 1) := by decide +kernel
theorem d19_84 : decode jdk_48_method_14_code 84 = .ok (.iload_n 3, 1) := by decide +kernel
theorem d19_85 : decode jdk_48_method_14_code 85 = .ok (.iload 5, 2) := by decide +kernel
theorem d19_87 : decode jdk_48_method_14_code 87 = .ok (.iadd, 1) := by decide +kernel
theorem d19_88 : decode jdk_48_method_14_code 88 = .ok (.baload, 1) := by decide +kernel
theorem d19_89 : decode jdk_48_method_14_code 89 = .ok (.if_icmp .eq 6, 3) := by decide +kernel
theorem d19_92 : decode jdk_48_method_14_code 92 = .ok (.iload 5, 2) := by decide +kernel
theorem d19_94 : decode jdk_48_method_14_code 94 = .ok (.ireturn, 1) := by decide +kernel
theorem d19_95 : decode jdk_48_method_14_code 95 = .ok (.iinc 5 1, 3) := by decide +kernel
theorem d19_98 : decode jdk_48_method_14_code 98 = .ok (.goto (-28), 3) := by decide +kernel
theorem d19_101 : decode jdk_48_method_14_code 101 = .ok (.iconst (-1), 1) := by decide +kernel
theorem d19_102 : decode jdk_48_method_14_code 102 = .ok (.ireturn, 1) := by decide +kernel
theorem pn_19 : plainName "jdk/internal/util/ArraysSupport" = true := by first | (simp [plainName, overriddenIn]; done) | decide +kernel
theorem ef_19 (m : MethodId) (r0 : Addr) (p1 : Int32) (r2 : Addr) (p3 : Int32) (p4 : Int32) : entryFrame m #[(.ref r0), (.int p1), (.ref r2), (.int p3), (.int p4)] 8 = mkF m 0 #[.val (.ref r0), .val (.int p1), .val (.ref r2), .val (.int p3), .val (.int p4), .unset, .unset, .unset] [] := by first | (simp [entryFrame, mkF, argsToLocals, Value.category]; done) | rfl
set_option maxRecDepth 65536 in
set_option maxHeartbeats 40000000 in
theorem rm19_210e {l : Launch} {Z : State} {a0 : Array Value} (hw : ∀ d ∈ tables_1, d.before a0 Z = true) (r0 : Addr) (r2 : Addr) (h0 : Heap) (n0 : Nat) (hz : n0 ≤ h0.size) (g : Nat → Int32) (A_r0 : OArr Z h0 r0 .byte 2 (fun j => .int (own_by (g j)))) (k : Nat → Int32) (A_r2 : OArr Z h0 r2 .byte 1 (fun j => .int (own_by (k j)))) (hq : ∀ i, i < 1 → own_by (g (0 + i)) = own_by (k i)) :
    OMet l Z (⟨"jdk/internal/util/ArraysSupport", "mismatch", "([BI[BII)I"⟩ : MethodName) jdk_48_method_14_code 8 (some .int) ({ frames := 0, cells := 0, slots := 0, locals := 0 } : Room) #[(.ref r0), (.int (0 : Int32)), (.ref r2), (.int (0 : Int32)), (.int (1 : Int32))] h0 n0 ({ frames := 0, cells := 0, slots := 0, locals := 0 } : Room).cells ({ frames := 0, cells := 0, slots := 0, locals := 0 } : Room).slots (OVal h0 (.int (-1 : Int32))) := by
  refine o_body (plainFor_of_name pn_19) hz (fun m => ef_19 m r0 (0 : Int32) r2 (0 : Int32) (1 : Int32)) ?_
  intro p e s m below meth c s₁ G0
  refine o_iconst G0 d19_0 (pc' := 1) rfl (v := (0 : Int32)) rfl ?_
  refine o_istore G0 d19_1 (pc' := 3) rfl (l' := #[.val (.ref r0), .val (.int (0 : Int32)), .val (.ref r2), .val (.int (0 : Int32)), .val (.int (1 : Int32)), .val (.int (0 : Int32)), .unset, .unset]) rfl ?_
  refine o_iload G0 d19_3 (pc' := 5) rfl rfl ?_
  refine o_bipush G0 d19_5 (pc' := 7) rfl (v := (7 : Int32)) rfl ?_
  refine o_icmp_le G0 d19_7 (by decide) (pcT := 70) (by decide) (pc' := 10) rfl (fun _ => ?_) (fun q => absurd q (by decide))
  refine o_iload G0 d19_70 (pc' := 72) rfl rfl ?_
  refine o_iload G0 d19_72 (pc' := 74) rfl rfl ?_
  refine o_icmp_ge G0 d19_74 (by decide) (pcT := 101) (by decide) (pc' := 77) rfl (fun q => absurd (by decide) q) (fun _ => ?_)
  refine o_aloadN G0 d19_77 (pc' := 78) rfl rfl rfl ?_
  refine o_iloadN G0 d19_78 (pc' := 79) rfl rfl ?_
  refine o_iload G0 d19_79 (pc' := 81) rfl rfl ?_
  refine o_iadd G0 d19_81 (pc' := 82) rfl (v := (0 : Int32)) (by decide) ?_
  refine o_baload G0 A_r0 (i := 0) rfl (by decide) (v := (.int (own_by (g 0)))) rfl d19_82 (pc' := 83) rfl ?_
  refine o_aloadN G0 d19_83 (pc' := 84) rfl rfl rfl ?_
  refine o_iloadN G0 d19_84 (pc' := 85) rfl rfl ?_
  refine o_iload G0 d19_85 (pc' := 87) rfl rfl ?_
  refine o_iadd G0 d19_87 (pc' := 88) rfl (v := (0 : Int32)) (by decide) ?_
  refine o_baload G0 A_r2 (i := 0) rfl (by decide) (v := (.int (own_by (k 0)))) rfl d19_88 (pc' := 89) rfl ?_
  refine o_icmp_eq G0 d19_89 (by decide) (pcT := 95) (by decide) (pc' := 92) rfl (fun _ => ?_) (fun q => absurd (hq 0 (by decide)) q)
  refine o_iinc G0 d19_95 (pc' := 98) rfl rfl (w := (1 : Int32)) rfl (v := (1 : Int32)) (by decide) (l' := #[.val (.ref r0), .val (.int (0 : Int32)), .val (.ref r2), .val (.int (0 : Int32)), .val (.int (1 : Int32)), .val (.int (1 : Int32)), .unset, .unset]) rfl ?_
  refine o_goto G0 d19_98 (by decide) (pc' := 70) rfl ?_
  refine o_iload G0 d19_70 (pc' := 72) rfl rfl ?_
  refine o_iload G0 d19_72 (pc' := 74) rfl rfl ?_
  refine o_icmp_ge G0 d19_74 (by decide) (pcT := 101) (by decide) (pc' := 77) rfl (fun _ => ?_) (fun q => absurd q (by decide))
  refine o_iconst G0 d19_101 (pc' := 102) rfl (v := (-1 : Int32)) rfl ?_
  exact o_ireturn G0 d19_102 ⟨rfl, rfl⟩ (by decide) (by decide)
theorem d16_0 : decode jdk_42_method_75_code 0 = .ok (.iload_n 2, 1) := by decide +kernel
theorem d16_1 : decode jdk_42_method_75_code 1 = .ok (.ifCond .lt 16, 3) := by decide +kernel
theorem d16_4 : decode jdk_42_method_75_code 4 = .ok (.iload_n 2, 1) := by decide +kernel
theorem d16_5 : decode jdk_42_method_75_code 5 = .ok (.aload_n 0, 1) := by decide +kernel
theorem d16_6 : decode jdk_42_method_75_code 6 = .ok (.invokevirtual 505, 3) := by decide +kernel
theorem d16_9 : decode jdk_42_method_75_code 9 = .ok (.aload_n 1, 1) := by decide +kernel
theorem d16_10 : decode jdk_42_method_75_code 10 = .ok (.invokevirtual 505, 3) := by decide +kernel
theorem d16_13 : decode jdk_42_method_75_code 13 = .ok (.isub, 1) := by decide +kernel
theorem d16_14 : decode jdk_42_method_75_code 14 = .ok (.if_icmp .le 5, 3) := by decide +kernel
theorem d16_19 : decode jdk_42_method_75_code 19 = .ok (.aload_n 0, 1) := by decide +kernel
theorem d16_20 : decode jdk_42_method_75_code 20 = .ok (.getfield 9, 3) := by decide +kernel
theorem d16_23 : decode jdk_42_method_75_code 23 = .ok (.astore_n 3, 1) := by decide +kernel
theorem d16_24 : decode jdk_42_method_75_code 24 = .ok (.aload_n 1, 1) := by decide +kernel
theorem d16_25 : decode jdk_42_method_75_code 25 = .ok (.getfield 9, 3) := by decide +kernel
theorem d16_28 : decode jdk_42_method_75_code 28 = .ok (.astore 4, 2) := by decide +kernel
theorem d16_30 : decode jdk_42_method_75_code 30 = .ok (.iconst 0, 1) := by decide +kernel
theorem d16_31 : decode jdk_42_method_75_code 31 = .ok (.istore 5, 2) := by decide +kernel
theorem d16_33 : decode jdk_42_method_75_code 33 = .ok (.aload 4, 2) := by decide +kernel
theorem d16_35 : decode jdk_42_method_75_code 35 = .ok (.arraylength, 1) := by decide +kernel
theorem d16_36 : decode jdk_42_method_75_code 36 = .ok (.istore 6, 2) := by decide +kernel
theorem d16_38 : decode jdk_42_method_75_code 38 = .ok (.aload_n 0, 1) := by decide +kernel
theorem d16_39 : decode jdk_42_method_75_code 39 = .ok (.invokevirtual 335, 3) := by decide +kernel
theorem d16_42 : decode jdk_42_method_75_code 42 = .ok (.istore 7, 2) := by decide +kernel
theorem d16_44 : decode jdk_42_method_75_code 44 = .ok (.iload 7, 2) := by decide +kernel
theorem d16_46 : decode jdk_42_method_75_code 46 = .ok (.aload_n 1, 1) := by decide +kernel
theorem d16_47 : decode jdk_42_method_75_code 47 = .ok (.invokevirtual 335, 3) := by decide +kernel
theorem d16_50 : decode jdk_42_method_75_code 50 = .ok (.if_icmp .ne 32, 3) := by decide +kernel
theorem d16_53 : decode jdk_42_method_75_code 53 = .ok (.iload 7, 2) := by decide +kernel
theorem d16_55 : decode jdk_42_method_75_code 55 = .ok (.iconst 1, 1) := by decide +kernel
theorem d16_56 : decode jdk_42_method_75_code 56 = .ok (.if_icmp .ne 7, 3) := by decide +kernel
theorem d16_63 : decode jdk_42_method_75_code 63 = .ok (.aload_n 3, 1) := by decide +kernel
theorem d16_64 : decode jdk_42_method_75_code 64 = .ok (.iload_n 2, 1) := by decide +kernel
theorem d16_65 : decode jdk_42_method_75_code 65 = .ok (.aload 4, 2) := by decide +kernel
theorem d16_67 : decode jdk_42_method_75_code 67 = .ok (.iconst 0, 1) := by decide +kernel
theorem d16_68 : decode jdk_42_method_75_code 68 = .ok (.iload 6, 2) := by decide +kernel
theorem d16_70 : decode jdk_42_method_75_code 70 = .ok (.invokestatic 607, 3) := by decide +kernel
theorem d16_73 : decode jdk_42_method_75_code 73 = .ok (.ifCond .ge 7, 3) := by decide +kernel
theorem d16_76 : decode jdk_42_method_75_code 76 = .ok (.iconst 1, 1) := by decide +kernel
theorem d16_77 : decode jdk_42_method_75_code 77 = .ok (.goto 4, 3) := by decide +kernel
theorem d16_80 : decode jdk_42_method_75_code 80 = .ok (.iconst 0, 1) := by decide +kernel
theorem d16_81 : decode jdk_42_method_75_code 81 = .ok (.ireturn, 1) := by decide +kernel
theorem pn_16 : plainName "java/lang/String" = true := by first | (simp [plainName, overriddenIn]; done) | decide +kernel
theorem ef_16 (m : MethodId) (r0 : Addr) (r1 : Addr) (p2 : Int32) : entryFrame m #[(.ref r0), (.ref r1), (.int p2)] 8 = mkF m 0 #[.val (.ref r0), .val (.ref r1), .val (.int p2), .unset, .unset, .unset, .unset, .unset] [] := by first | (simp [entryFrame, mkF, argsToLocals, Value.category]; done) | rfl
set_option maxRecDepth 65536 in
set_option maxHeartbeats 40000000 in
theorem rm16_210e {l : Launch} {Z : State} {a0 : Array Value} (hw : ∀ d ∈ tables_1, d.before a0 Z = true) (r0 : Addr) (r1 : Addr) (h0 : Heap) (n0 : Nat) (hz : n0 ≤ h0.size) (cs : Int32) (hcs : ¬ cs = 0) (S : Sta Z h0 "java/lang/String" "COMPACT_STRINGS" "Z" (.int cs)) (b : Addr) (g : Nat → Int32) (E_r0 : Exa Z h0 r0 "java/lang/String") (Fv_r0 : Fld Z h0 r0 "java/lang/String" "value" "[B" (.ref b)) (Fc_r0 : Fld Z h0 r0 "java/lang/String" "coder" "B" (.int (0 : Int32))) (A_b : OArr Z h0 b .byte 2 (fun j => .int (own_by (g j)))) (c1 : Addr) (k : Nat → Int32) (E_r1 : Exa Z h0 r1 "java/lang/String") (Fv_r1 : Fld Z h0 r1 "java/lang/String" "value" "[B" (.ref c1)) (Fc_r1 : Fld Z h0 r1 "java/lang/String" "coder" "B" (.int (0 : Int32))) (A_c1 : OArr Z h0 c1 .byte 1 (fun j => .int (own_by (k j)))) (hq : ∀ i, i < 1 → own_by (g (0 + i)) = own_by (k i)) :
    OMet l Z (⟨"java/lang/String", "startsWith", "(Ljava/lang/String;I)Z"⟩ : MethodName) jdk_42_method_75_code 8 (some .boolean) ({ frames := 2, cells := 0, slots := 0, locals := 27 } : Room) #[(.ref r0), (.ref r1), (.int (0 : Int32))] h0 n0 ({ frames := 2, cells := 0, slots := 0, locals := 27 } : Room).cells ({ frames := 2, cells := 0, slots := 0, locals := 27 } : Room).slots (OVal h0 (.int 1)) := by
  refine o_body (plainFor_of_name pn_16) hz (fun m => ef_16 m r0 r1 (0 : Int32)) ?_
  intro p e s m below meth c s₁ G0
  refine o_iloadN G0 d16_0 (pc' := 1) rfl rfl ?_
  refine o_if_lt G0 d16_1 (by decide) (pcT := 17) (by decide) (pc' := 4) rfl (fun q => absurd q (by decide)) (fun _ => ?_)
  refine o_iloadN G0 d16_4 (pc' := 5) rfl rfl ?_
  refine o_aloadN G0 d16_5 (pc' := 6) rfl rfl rfl ?_
  refine o_callV G0 (z := (⟨"java/lang/String", "length", "()I"⟩ : MethodName)) (argsL := []) (rest := [(.int (0 : Int32))]) (W := 1) E_r0 (ow hw 76 rfl) (ow hw 78 rfl) (ow hw 77 rfl) (ow hw 79 rfl) d16_6 (by decide) (ow hw 9 rfl) (ow hw 80 rfl) (rm17 hw r0 h0 n0 G0.sz cs hcs S 2 (2 : Int32) rfl (by decide) b g E_r0 Fv_r0 Fc_r0 A_b) (by decide) (by decide) rfl (lenOf pd_8 rfl) rfl (Nat.le_of_eq rfl) (pc' := 9) rfl (by decide) (by decide) ?_
  rintro _ T1 h1 G1 ⟨rfl, hh⟩
  subst hh
  show OFin _ _ _ _ T1 (mkF m 9 #[.val (.ref r0), .val (.ref r1), .val (.int (0 : Int32)), .unset, .unset, .unset, .unset, .unset] [(.int (2 : Int32)), (.int (0 : Int32))])
  refine o_aloadN G1 d16_9 (pc' := 10) rfl rfl rfl ?_
  refine o_callV G1 (z := (⟨"java/lang/String", "length", "()I"⟩ : MethodName)) (argsL := []) (rest := [(.int (2 : Int32)), (.int (0 : Int32))]) (W := 2) E_r1 (ow hw 76 rfl) (ow hw 78 rfl) (ow hw 77 rfl) (ow hw 79 rfl) d16_10 (by decide) (ow hw 9 rfl) (ow hw 80 rfl) (rm17 hw r1 h0 n0 G1.sz cs hcs S 1 (1 : Int32) rfl (by decide) c1 k E_r1 Fv_r1 Fc_r1 A_c1) (by decide) (by decide) rfl (lenOf pd_8 rfl) rfl (Nat.le_of_eq rfl) (pc' := 13) rfl (by decide) (by decide) ?_
  rintro _ T2 h2 G2 ⟨rfl, hh⟩
  subst hh
  show OFin _ _ _ _ T2 (mkF m 13 #[.val (.ref r0), .val (.ref r1), .val (.int (0 : Int32)), .unset, .unset, .unset, .unset, .unset] [(.int (1 : Int32)), (.int (2 : Int32)), (.int (0 : Int32))])
  refine o_isub G2 d16_13 (pc' := 14) rfl (v := (1 : Int32)) (by decide) ?_
  refine o_icmp_le G2 d16_14 (by decide) (pcT := 19) (by decide) (pc' := 17) rfl (fun _ => ?_) (fun q => absurd q (by decide))
  refine o_aloadN G2 d16_19 (pc' := 20) rfl rfl rfl ?_
  refine o_getF G2 (host := "") (Or.inl (ow hw 29 rfl)) Via.refl Fv_r0 d16_20 (pc' := 23) rfl ?_
  intro T3 G3
  refine o_astoreN G3 d16_23 (pc' := 24) rfl rfl (l' := #[.val (.ref r0), .val (.ref r1), .val (.int (0 : Int32)), .val (.ref b), .unset, .unset, .unset, .unset]) rfl ?_
  refine o_aloadN G3 d16_24 (pc' := 25) rfl rfl rfl ?_
  refine o_getF G3 (host := "") (Or.inl (ow hw 29 rfl)) Via.refl Fv_r1 d16_25 (pc' := 28) rfl ?_
  intro T4 G4
  refine o_astore G4 d16_28 (pc' := 30) rfl rfl (l' := #[.val (.ref r0), .val (.ref r1), .val (.int (0 : Int32)), .val (.ref b), .val (.ref c1), .unset, .unset, .unset]) rfl ?_
  refine o_iconst G4 d16_30 (pc' := 31) rfl (v := (0 : Int32)) rfl ?_
  refine o_istore G4 d16_31 (pc' := 33) rfl (l' := #[.val (.ref r0), .val (.ref r1), .val (.int (0 : Int32)), .val (.ref b), .val (.ref c1), .val (.int (0 : Int32)), .unset, .unset]) rfl ?_
  refine o_aload G4 d16_33 (pc' := 35) rfl rfl rfl ?_
  refine o_arraylength G4 A_c1 (v := (1 : Int32)) rfl d16_35 (pc' := 36) rfl ?_
  refine o_istore G4 d16_36 (pc' := 38) rfl (l' := #[.val (.ref r0), .val (.ref r1), .val (.int (0 : Int32)), .val (.ref b), .val (.ref c1), .val (.int (0 : Int32)), .val (.int (1 : Int32)), .unset]) rfl ?_
  refine o_aloadN G4 d16_38 (pc' := 39) rfl rfl rfl ?_
  refine o_callV G4 (z := (⟨"java/lang/String", "coder", "()B"⟩ : MethodName)) (argsL := []) (rest := []) (W := 0) E_r0 (ow hw 81 rfl) (ow hw 83 rfl) (ow hw 82 rfl) (ow hw 84 rfl) d16_39 (by decide) (ow hw 9 rfl) (ow hw 85 rfl) (rm18 hw r0 h0 n0 G4.sz cs hcs S Fc_r0) (by decide) (by decide) rfl (lenOf pd_7 rfl) rfl (Nat.le_of_eq rfl) (pc' := 42) rfl (by decide) (by decide) ?_
  rintro _ T5 h5 G5 ⟨rfl, hh⟩
  subst hh
  show OFin _ _ _ _ T5 (mkF m 42 #[.val (.ref r0), .val (.ref r1), .val (.int (0 : Int32)), .val (.ref b), .val (.ref c1), .val (.int (0 : Int32)), .val (.int (1 : Int32)), .unset] [(.int (0 : Int32))])
  refine o_istore G5 d16_42 (pc' := 44) rfl (l' := #[.val (.ref r0), .val (.ref r1), .val (.int (0 : Int32)), .val (.ref b), .val (.ref c1), .val (.int (0 : Int32)), .val (.int (1 : Int32)), .val (.int (0 : Int32))]) rfl ?_
  refine o_iload G5 d16_44 (pc' := 46) rfl rfl ?_
  refine o_aloadN G5 d16_46 (pc' := 47) rfl rfl rfl ?_
  refine o_callV G5 (z := (⟨"java/lang/String", "coder", "()B"⟩ : MethodName)) (argsL := []) (rest := [(.int (0 : Int32))]) (W := 1) E_r1 (ow hw 81 rfl) (ow hw 83 rfl) (ow hw 82 rfl) (ow hw 84 rfl) d16_47 (by decide) (ow hw 9 rfl) (ow hw 85 rfl) (rm18 hw r1 h0 n0 G5.sz cs hcs S Fc_r1) (by decide) (by decide) rfl (lenOf pd_7 rfl) rfl (Nat.le_of_eq rfl) (pc' := 50) rfl (by decide) (by decide) ?_
  rintro _ T6 h6 G6 ⟨rfl, hh⟩
  subst hh
  show OFin _ _ _ _ T6 (mkF m 50 #[.val (.ref r0), .val (.ref r1), .val (.int (0 : Int32)), .val (.ref b), .val (.ref c1), .val (.int (0 : Int32)), .val (.int (1 : Int32)), .val (.int (0 : Int32))] [(.int (0 : Int32)), (.int (0 : Int32))])
  refine o_icmp_ne G6 d16_50 (by decide) (pcT := 82) (by decide) (pc' := 53) rfl (fun q => absurd (by decide) q) (fun _ => ?_)
  refine o_iload G6 d16_53 (pc' := 55) rfl rfl ?_
  refine o_iconst G6 d16_55 (pc' := 56) rfl (v := (1 : Int32)) rfl ?_
  refine o_icmp_ne G6 d16_56 (by decide) (pcT := 63) (by decide) (pc' := 59) rfl (fun _ => ?_) (fun q => absurd q (by decide))
  refine o_aloadN G6 d16_63 (pc' := 64) rfl rfl rfl ?_
  refine o_iloadN G6 d16_64 (pc' := 65) rfl rfl ?_
  refine o_aload G6 d16_65 (pc' := 67) rfl rfl rfl ?_
  refine o_iconst G6 d16_67 (pc' := 68) rfl (v := (0 : Int32)) rfl ?_
  refine o_iload G6 d16_68 (pc' := 70) rfl rfl ?_
  refine o_callS G6 (z := (⟨"jdk/internal/util/ArraysSupport", "mismatch", "([BI[BII)I"⟩ : MethodName)) (argsL := [(.ref b), (.int (0 : Int32)), (.ref c1), (.int (0 : Int32)), (.int (1 : Int32))]) (rest := []) (W := 0) (ow hw 86 rfl) (ow hw 87 rfl) d16_70 (by decide) (ow hw 88 rfl) (ow hw 89 rfl) (rm19_210e hw b c1 h0 n0 G6.sz g A_b k A_c1 hq) (by decide) (by decide) rfl (lenOf pd_9 rfl) rfl (Nat.le_of_eq rfl) (pc' := 73) rfl (by decide) (by decide) ?_
  rintro _ T7 h7 G7 ⟨rfl, hh⟩
  subst hh
  show OFin _ _ _ _ T7 (mkF m 73 #[.val (.ref r0), .val (.ref r1), .val (.int (0 : Int32)), .val (.ref b), .val (.ref c1), .val (.int (0 : Int32)), .val (.int (1 : Int32)), .val (.int (0 : Int32))] [(.int (-1 : Int32))])
  refine o_if_ge G7 d16_73 (by decide) (pcT := 80) (by decide) (pc' := 76) rfl (fun q => absurd (by decide) q) (fun _ => ?_)
  refine o_iconst G7 d16_76 (pc' := 77) rfl (v := (1 : Int32)) rfl ?_
  refine o_goto G7 d16_77 (by decide) (pc' := 81) rfl ?_
  exact o_nreturn (t := .boolean) G7 (by simp) d16_81 ⟨rfl, rfl⟩ (by decide) (by decide)
theorem d15_0 : decode jdk_42_method_76_code 0 = .ok (.aload_n 0, 1) := by decide +kernel
theorem d15_1 : decode jdk_42_method_76_code 1 = .ok (.aload_n 1, 1) := by decide +kernel
theorem d15_2 : decode jdk_42_method_76_code 2 = .ok (.iconst 0, 1) := by decide +kernel
theorem d15_3 : decode jdk_42_method_76_code 3 = .ok (.invokevirtual 624, 3) := by decide +kernel
theorem d15_6 : decode jdk_42_method_76_code 6 = .ok (.ireturn, 1) := by decide +kernel
theorem pn_15 : plainName "java/lang/String" = true := by first | (simp [plainName, overriddenIn]; done) | decide +kernel
theorem ef_15 (m : MethodId) (r0 : Addr) (r1 : Addr) : entryFrame m #[(.ref r0), (.ref r1)] 2 = mkF m 0 #[.val (.ref r0), .val (.ref r1)] [] := by first | (simp [entryFrame, mkF, argsToLocals, Value.category]; done) | rfl
set_option maxRecDepth 65536 in
set_option maxHeartbeats 40000000 in
theorem rm15_210e {l : Launch} {Z : State} {a0 : Array Value} (hw : ∀ d ∈ tables_1, d.before a0 Z = true) (r0 : Addr) (r1 : Addr) (h0 : Heap) (n0 : Nat) (hz : n0 ≤ h0.size) (cs : Int32) (hcs : ¬ cs = 0) (S : Sta Z h0 "java/lang/String" "COMPACT_STRINGS" "Z" (.int cs)) (b : Addr) (g : Nat → Int32) (E_r0 : Exa Z h0 r0 "java/lang/String") (Fv_r0 : Fld Z h0 r0 "java/lang/String" "value" "[B" (.ref b)) (Fc_r0 : Fld Z h0 r0 "java/lang/String" "coder" "B" (.int (0 : Int32))) (A_b : OArr Z h0 b .byte 2 (fun j => .int (own_by (g j)))) (c1 : Addr) (k : Nat → Int32) (E_r1 : Exa Z h0 r1 "java/lang/String") (Fv_r1 : Fld Z h0 r1 "java/lang/String" "value" "[B" (.ref c1)) (Fc_r1 : Fld Z h0 r1 "java/lang/String" "coder" "B" (.int (0 : Int32))) (A_c1 : OArr Z h0 c1 .byte 1 (fun j => .int (own_by (k j)))) (hq : ∀ i, i < 1 → own_by (g (0 + i)) = own_by (k i)) :
    OMet l Z (⟨"java/lang/String", "startsWith", "(Ljava/lang/String;)Z"⟩ : MethodName) jdk_42_method_76_code 2 (some .boolean) ({ frames := 3, cells := 0, slots := 0, locals := 46 } : Room) #[(.ref r0), (.ref r1)] h0 n0 ({ frames := 3, cells := 0, slots := 0, locals := 46 } : Room).cells ({ frames := 3, cells := 0, slots := 0, locals := 46 } : Room).slots (OVal h0 (.int 1)) := by
  refine o_body (plainFor_of_name pn_15) hz (fun m => ef_15 m r0 r1) ?_
  intro p e s m below meth c s₁ G0
  refine o_aloadN G0 d15_0 (pc' := 1) rfl rfl rfl ?_
  refine o_aloadN G0 d15_1 (pc' := 2) rfl rfl rfl ?_
  refine o_iconst G0 d15_2 (pc' := 3) rfl (v := (0 : Int32)) rfl ?_
  refine o_callV G0 (z := (⟨"java/lang/String", "startsWith", "(Ljava/lang/String;I)Z"⟩ : MethodName)) (argsL := [(.ref r1), (.int (0 : Int32))]) (rest := []) (W := 0) E_r0 (ow hw 71 rfl) (ow hw 73 rfl) (ow hw 72 rfl) (ow hw 74 rfl) d15_3 (by decide) (ow hw 9 rfl) (ow hw 75 rfl) (rm16_210e hw r0 r1 h0 n0 G0.sz cs hcs S b g E_r0 Fv_r0 Fc_r0 A_b c1 k E_r1 Fv_r1 Fc_r1 A_c1 hq) (by decide) (by decide) rfl (lenOf pd_10 rfl) rfl (Nat.le_of_eq rfl) (pc' := 6) rfl (by decide) (by decide) ?_
  rintro _ T1 h1 G1 ⟨rfl, hh⟩
  subst hh
  show OFin _ _ _ _ T1 (mkF m 6 #[.val (.ref r0), .val (.ref r1)] [(.int (1 : Int32))])
  exact o_nreturn (t := .boolean) G1 (by simp) d15_6 ⟨rfl, rfl⟩ (by decide) (by decide)
set_option maxRecDepth 65536 in
set_option maxHeartbeats 40000000 in
theorem rm19_210n {l : Launch} {Z : State} {a0 : Array Value} (hw : ∀ d ∈ tables_1, d.before a0 Z = true) (r0 : Addr) (r2 : Addr) (h0 : Heap) (n0 : Nat) (hz : n0 ≤ h0.size) (g : Nat → Int32) (A_r0 : OArr Z h0 r0 .byte 2 (fun j => .int (own_by (g j)))) (k : Nat → Int32) (A_r2 : OArr Z h0 r2 .byte 1 (fun j => .int (own_by (k j)))) (hq : ¬ own_by (g 0) = own_by (k 0)) :
    OMet l Z (⟨"jdk/internal/util/ArraysSupport", "mismatch", "([BI[BII)I"⟩ : MethodName) jdk_48_method_14_code 8 (some .int) ({ frames := 0, cells := 0, slots := 0, locals := 0 } : Room) #[(.ref r0), (.int (0 : Int32)), (.ref r2), (.int (0 : Int32)), (.int (1 : Int32))] h0 n0 ({ frames := 0, cells := 0, slots := 0, locals := 0 } : Room).cells ({ frames := 0, cells := 0, slots := 0, locals := 0 } : Room).slots (OVal h0 (.int (0 : Int32))) := by
  refine o_body (plainFor_of_name pn_19) hz (fun m => ef_19 m r0 (0 : Int32) r2 (0 : Int32) (1 : Int32)) ?_
  intro p e s m below meth c s₁ G0
  refine o_iconst G0 d19_0 (pc' := 1) rfl (v := (0 : Int32)) rfl ?_
  refine o_istore G0 d19_1 (pc' := 3) rfl (l' := #[.val (.ref r0), .val (.int (0 : Int32)), .val (.ref r2), .val (.int (0 : Int32)), .val (.int (1 : Int32)), .val (.int (0 : Int32)), .unset, .unset]) rfl ?_
  refine o_iload G0 d19_3 (pc' := 5) rfl rfl ?_
  refine o_bipush G0 d19_5 (pc' := 7) rfl (v := (7 : Int32)) rfl ?_
  refine o_icmp_le G0 d19_7 (by decide) (pcT := 70) (by decide) (pc' := 10) rfl (fun _ => ?_) (fun q => absurd q (by decide))
  refine o_iload G0 d19_70 (pc' := 72) rfl rfl ?_
  refine o_iload G0 d19_72 (pc' := 74) rfl rfl ?_
  refine o_icmp_ge G0 d19_74 (by decide) (pcT := 101) (by decide) (pc' := 77) rfl (fun q => absurd (by decide) q) (fun _ => ?_)
  refine o_aloadN G0 d19_77 (pc' := 78) rfl rfl rfl ?_
  refine o_iloadN G0 d19_78 (pc' := 79) rfl rfl ?_
  refine o_iload G0 d19_79 (pc' := 81) rfl rfl ?_
  refine o_iadd G0 d19_81 (pc' := 82) rfl (v := (0 : Int32)) (by decide) ?_
  refine o_baload G0 A_r0 (i := 0) rfl (by decide) (v := (.int (own_by (g 0)))) rfl d19_82 (pc' := 83) rfl ?_
  refine o_aloadN G0 d19_83 (pc' := 84) rfl rfl rfl ?_
  refine o_iloadN G0 d19_84 (pc' := 85) rfl rfl ?_
  refine o_iload G0 d19_85 (pc' := 87) rfl rfl ?_
  refine o_iadd G0 d19_87 (pc' := 88) rfl (v := (0 : Int32)) (by decide) ?_
  refine o_baload G0 A_r2 (i := 0) rfl (by decide) (v := (.int (own_by (k 0)))) rfl d19_88 (pc' := 89) rfl ?_
  refine o_icmp_eq G0 d19_89 (by decide) (pcT := 95) (by decide) (pc' := 92) rfl (fun q => absurd q hq) (fun _ => ?_)
  refine o_iload G0 d19_92 (pc' := 94) rfl rfl ?_
  exact o_ireturn G0 d19_94 ⟨rfl, rfl⟩ (by decide) (by decide)
set_option maxRecDepth 65536 in
set_option maxHeartbeats 40000000 in
theorem rm16_210n {l : Launch} {Z : State} {a0 : Array Value} (hw : ∀ d ∈ tables_1, d.before a0 Z = true) (r0 : Addr) (r1 : Addr) (h0 : Heap) (n0 : Nat) (hz : n0 ≤ h0.size) (cs : Int32) (hcs : ¬ cs = 0) (S : Sta Z h0 "java/lang/String" "COMPACT_STRINGS" "Z" (.int cs)) (b : Addr) (g : Nat → Int32) (E_r0 : Exa Z h0 r0 "java/lang/String") (Fv_r0 : Fld Z h0 r0 "java/lang/String" "value" "[B" (.ref b)) (Fc_r0 : Fld Z h0 r0 "java/lang/String" "coder" "B" (.int (0 : Int32))) (A_b : OArr Z h0 b .byte 2 (fun j => .int (own_by (g j)))) (c1 : Addr) (k : Nat → Int32) (E_r1 : Exa Z h0 r1 "java/lang/String") (Fv_r1 : Fld Z h0 r1 "java/lang/String" "value" "[B" (.ref c1)) (Fc_r1 : Fld Z h0 r1 "java/lang/String" "coder" "B" (.int (0 : Int32))) (A_c1 : OArr Z h0 c1 .byte 1 (fun j => .int (own_by (k j)))) (hq : ¬ own_by (g 0) = own_by (k 0)) :
    OMet l Z (⟨"java/lang/String", "startsWith", "(Ljava/lang/String;I)Z"⟩ : MethodName) jdk_42_method_75_code 8 (some .boolean) ({ frames := 2, cells := 0, slots := 0, locals := 27 } : Room) #[(.ref r0), (.ref r1), (.int (0 : Int32))] h0 n0 ({ frames := 2, cells := 0, slots := 0, locals := 27 } : Room).cells ({ frames := 2, cells := 0, slots := 0, locals := 27 } : Room).slots (OVal h0 (.int 0)) := by
  refine o_body (plainFor_of_name pn_16) hz (fun m => ef_16 m r0 r1 (0 : Int32)) ?_
  intro p e s m below meth c s₁ G0
  refine o_iloadN G0 d16_0 (pc' := 1) rfl rfl ?_
  refine o_if_lt G0 d16_1 (by decide) (pcT := 17) (by decide) (pc' := 4) rfl (fun q => absurd q (by decide)) (fun _ => ?_)
  refine o_iloadN G0 d16_4 (pc' := 5) rfl rfl ?_
  refine o_aloadN G0 d16_5 (pc' := 6) rfl rfl rfl ?_
  refine o_callV G0 (z := (⟨"java/lang/String", "length", "()I"⟩ : MethodName)) (argsL := []) (rest := [(.int (0 : Int32))]) (W := 1) E_r0 (ow hw 76 rfl) (ow hw 78 rfl) (ow hw 77 rfl) (ow hw 79 rfl) d16_6 (by decide) (ow hw 9 rfl) (ow hw 80 rfl) (rm17 hw r0 h0 n0 G0.sz cs hcs S 2 (2 : Int32) rfl (by decide) b g E_r0 Fv_r0 Fc_r0 A_b) (by decide) (by decide) rfl (lenOf pd_8 rfl) rfl (Nat.le_of_eq rfl) (pc' := 9) rfl (by decide) (by decide) ?_
  rintro _ T1 h1 G1 ⟨rfl, hh⟩
  subst hh
  show OFin _ _ _ _ T1 (mkF m 9 #[.val (.ref r0), .val (.ref r1), .val (.int (0 : Int32)), .unset, .unset, .unset, .unset, .unset] [(.int (2 : Int32)), (.int (0 : Int32))])
  refine o_aloadN G1 d16_9 (pc' := 10) rfl rfl rfl ?_
  refine o_callV G1 (z := (⟨"java/lang/String", "length", "()I"⟩ : MethodName)) (argsL := []) (rest := [(.int (2 : Int32)), (.int (0 : Int32))]) (W := 2) E_r1 (ow hw 76 rfl) (ow hw 78 rfl) (ow hw 77 rfl) (ow hw 79 rfl) d16_10 (by decide) (ow hw 9 rfl) (ow hw 80 rfl) (rm17 hw r1 h0 n0 G1.sz cs hcs S 1 (1 : Int32) rfl (by decide) c1 k E_r1 Fv_r1 Fc_r1 A_c1) (by decide) (by decide) rfl (lenOf pd_8 rfl) rfl (Nat.le_of_eq rfl) (pc' := 13) rfl (by decide) (by decide) ?_
  rintro _ T2 h2 G2 ⟨rfl, hh⟩
  subst hh
  show OFin _ _ _ _ T2 (mkF m 13 #[.val (.ref r0), .val (.ref r1), .val (.int (0 : Int32)), .unset, .unset, .unset, .unset, .unset] [(.int (1 : Int32)), (.int (2 : Int32)), (.int (0 : Int32))])
  refine o_isub G2 d16_13 (pc' := 14) rfl (v := (1 : Int32)) (by decide) ?_
  refine o_icmp_le G2 d16_14 (by decide) (pcT := 19) (by decide) (pc' := 17) rfl (fun _ => ?_) (fun q => absurd q (by decide))
  refine o_aloadN G2 d16_19 (pc' := 20) rfl rfl rfl ?_
  refine o_getF G2 (host := "") (Or.inl (ow hw 29 rfl)) Via.refl Fv_r0 d16_20 (pc' := 23) rfl ?_
  intro T3 G3
  refine o_astoreN G3 d16_23 (pc' := 24) rfl rfl (l' := #[.val (.ref r0), .val (.ref r1), .val (.int (0 : Int32)), .val (.ref b), .unset, .unset, .unset, .unset]) rfl ?_
  refine o_aloadN G3 d16_24 (pc' := 25) rfl rfl rfl ?_
  refine o_getF G3 (host := "") (Or.inl (ow hw 29 rfl)) Via.refl Fv_r1 d16_25 (pc' := 28) rfl ?_
  intro T4 G4
  refine o_astore G4 d16_28 (pc' := 30) rfl rfl (l' := #[.val (.ref r0), .val (.ref r1), .val (.int (0 : Int32)), .val (.ref b), .val (.ref c1), .unset, .unset, .unset]) rfl ?_
  refine o_iconst G4 d16_30 (pc' := 31) rfl (v := (0 : Int32)) rfl ?_
  refine o_istore G4 d16_31 (pc' := 33) rfl (l' := #[.val (.ref r0), .val (.ref r1), .val (.int (0 : Int32)), .val (.ref b), .val (.ref c1), .val (.int (0 : Int32)), .unset, .unset]) rfl ?_
  refine o_aload G4 d16_33 (pc' := 35) rfl rfl rfl ?_
  refine o_arraylength G4 A_c1 (v := (1 : Int32)) rfl d16_35 (pc' := 36) rfl ?_
  refine o_istore G4 d16_36 (pc' := 38) rfl (l' := #[.val (.ref r0), .val (.ref r1), .val (.int (0 : Int32)), .val (.ref b), .val (.ref c1), .val (.int (0 : Int32)), .val (.int (1 : Int32)), .unset]) rfl ?_
  refine o_aloadN G4 d16_38 (pc' := 39) rfl rfl rfl ?_
  refine o_callV G4 (z := (⟨"java/lang/String", "coder", "()B"⟩ : MethodName)) (argsL := []) (rest := []) (W := 0) E_r0 (ow hw 81 rfl) (ow hw 83 rfl) (ow hw 82 rfl) (ow hw 84 rfl) d16_39 (by decide) (ow hw 9 rfl) (ow hw 85 rfl) (rm18 hw r0 h0 n0 G4.sz cs hcs S Fc_r0) (by decide) (by decide) rfl (lenOf pd_7 rfl) rfl (Nat.le_of_eq rfl) (pc' := 42) rfl (by decide) (by decide) ?_
  rintro _ T5 h5 G5 ⟨rfl, hh⟩
  subst hh
  show OFin _ _ _ _ T5 (mkF m 42 #[.val (.ref r0), .val (.ref r1), .val (.int (0 : Int32)), .val (.ref b), .val (.ref c1), .val (.int (0 : Int32)), .val (.int (1 : Int32)), .unset] [(.int (0 : Int32))])
  refine o_istore G5 d16_42 (pc' := 44) rfl (l' := #[.val (.ref r0), .val (.ref r1), .val (.int (0 : Int32)), .val (.ref b), .val (.ref c1), .val (.int (0 : Int32)), .val (.int (1 : Int32)), .val (.int (0 : Int32))]) rfl ?_
  refine o_iload G5 d16_44 (pc' := 46) rfl rfl ?_
  refine o_aloadN G5 d16_46 (pc' := 47) rfl rfl rfl ?_
  refine o_callV G5 (z := (⟨"java/lang/String", "coder", "()B"⟩ : MethodName)) (argsL := []) (rest := [(.int (0 : Int32))]) (W := 1) E_r1 (ow hw 81 rfl) (ow hw 83 rfl) (ow hw 82 rfl) (ow hw 84 rfl) d16_47 (by decide) (ow hw 9 rfl) (ow hw 85 rfl) (rm18 hw r1 h0 n0 G5.sz cs hcs S Fc_r1) (by decide) (by decide) rfl (lenOf pd_7 rfl) rfl (Nat.le_of_eq rfl) (pc' := 50) rfl (by decide) (by decide) ?_
  rintro _ T6 h6 G6 ⟨rfl, hh⟩
  subst hh
  show OFin _ _ _ _ T6 (mkF m 50 #[.val (.ref r0), .val (.ref r1), .val (.int (0 : Int32)), .val (.ref b), .val (.ref c1), .val (.int (0 : Int32)), .val (.int (1 : Int32)), .val (.int (0 : Int32))] [(.int (0 : Int32)), (.int (0 : Int32))])
  refine o_icmp_ne G6 d16_50 (by decide) (pcT := 82) (by decide) (pc' := 53) rfl (fun q => absurd (by decide) q) (fun _ => ?_)
  refine o_iload G6 d16_53 (pc' := 55) rfl rfl ?_
  refine o_iconst G6 d16_55 (pc' := 56) rfl (v := (1 : Int32)) rfl ?_
  refine o_icmp_ne G6 d16_56 (by decide) (pcT := 63) (by decide) (pc' := 59) rfl (fun _ => ?_) (fun q => absurd q (by decide))
  refine o_aloadN G6 d16_63 (pc' := 64) rfl rfl rfl ?_
  refine o_iloadN G6 d16_64 (pc' := 65) rfl rfl ?_
  refine o_aload G6 d16_65 (pc' := 67) rfl rfl rfl ?_
  refine o_iconst G6 d16_67 (pc' := 68) rfl (v := (0 : Int32)) rfl ?_
  refine o_iload G6 d16_68 (pc' := 70) rfl rfl ?_
  refine o_callS G6 (z := (⟨"jdk/internal/util/ArraysSupport", "mismatch", "([BI[BII)I"⟩ : MethodName)) (argsL := [(.ref b), (.int (0 : Int32)), (.ref c1), (.int (0 : Int32)), (.int (1 : Int32))]) (rest := []) (W := 0) (ow hw 86 rfl) (ow hw 87 rfl) d16_70 (by decide) (ow hw 88 rfl) (ow hw 89 rfl) (rm19_210n hw b c1 h0 n0 G6.sz g A_b k A_c1 hq) (by decide) (by decide) rfl (lenOf pd_9 rfl) rfl (Nat.le_of_eq rfl) (pc' := 73) rfl (by decide) (by decide) ?_
  rintro _ T7 h7 G7 ⟨rfl, hh⟩
  subst hh
  show OFin _ _ _ _ T7 (mkF m 73 #[.val (.ref r0), .val (.ref r1), .val (.int (0 : Int32)), .val (.ref b), .val (.ref c1), .val (.int (0 : Int32)), .val (.int (1 : Int32)), .val (.int (0 : Int32))] [(.int (0 : Int32))])
  refine o_if_ge G7 d16_73 (by decide) (pcT := 80) (by decide) (pc' := 76) rfl (fun _ => ?_) (fun q => absurd q (by decide))
  refine o_iconst G7 d16_80 (pc' := 81) rfl (v := (0 : Int32)) rfl ?_
  exact o_nreturn (t := .boolean) G7 (by simp) d16_81 ⟨rfl, rfl⟩ (by decide) (by decide)
set_option maxRecDepth 65536 in
set_option maxHeartbeats 40000000 in
theorem rm15_210n {l : Launch} {Z : State} {a0 : Array Value} (hw : ∀ d ∈ tables_1, d.before a0 Z = true) (r0 : Addr) (r1 : Addr) (h0 : Heap) (n0 : Nat) (hz : n0 ≤ h0.size) (cs : Int32) (hcs : ¬ cs = 0) (S : Sta Z h0 "java/lang/String" "COMPACT_STRINGS" "Z" (.int cs)) (b : Addr) (g : Nat → Int32) (E_r0 : Exa Z h0 r0 "java/lang/String") (Fv_r0 : Fld Z h0 r0 "java/lang/String" "value" "[B" (.ref b)) (Fc_r0 : Fld Z h0 r0 "java/lang/String" "coder" "B" (.int (0 : Int32))) (A_b : OArr Z h0 b .byte 2 (fun j => .int (own_by (g j)))) (c1 : Addr) (k : Nat → Int32) (E_r1 : Exa Z h0 r1 "java/lang/String") (Fv_r1 : Fld Z h0 r1 "java/lang/String" "value" "[B" (.ref c1)) (Fc_r1 : Fld Z h0 r1 "java/lang/String" "coder" "B" (.int (0 : Int32))) (A_c1 : OArr Z h0 c1 .byte 1 (fun j => .int (own_by (k j)))) (hq : ¬ own_by (g 0) = own_by (k 0)) :
    OMet l Z (⟨"java/lang/String", "startsWith", "(Ljava/lang/String;)Z"⟩ : MethodName) jdk_42_method_76_code 2 (some .boolean) ({ frames := 3, cells := 0, slots := 0, locals := 46 } : Room) #[(.ref r0), (.ref r1)] h0 n0 ({ frames := 3, cells := 0, slots := 0, locals := 46 } : Room).cells ({ frames := 3, cells := 0, slots := 0, locals := 46 } : Room).slots (OVal h0 (.int 0)) := by
  refine o_body (plainFor_of_name pn_15) hz (fun m => ef_15 m r0 r1) ?_
  intro p e s m below meth c s₁ G0
  refine o_aloadN G0 d15_0 (pc' := 1) rfl rfl rfl ?_
  refine o_aloadN G0 d15_1 (pc' := 2) rfl rfl rfl ?_
  refine o_iconst G0 d15_2 (pc' := 3) rfl (v := (0 : Int32)) rfl ?_
  refine o_callV G0 (z := (⟨"java/lang/String", "startsWith", "(Ljava/lang/String;I)Z"⟩ : MethodName)) (argsL := [(.ref r1), (.int (0 : Int32))]) (rest := []) (W := 0) E_r0 (ow hw 71 rfl) (ow hw 73 rfl) (ow hw 72 rfl) (ow hw 74 rfl) d15_3 (by decide) (ow hw 9 rfl) (ow hw 75 rfl) (rm16_210n hw r0 r1 h0 n0 G0.sz cs hcs S b g E_r0 Fv_r0 Fc_r0 A_b c1 k E_r1 Fv_r1 Fc_r1 A_c1 hq) (by decide) (by decide) rfl (lenOf pd_10 rfl) rfl (Nat.le_of_eq rfl) (pc' := 6) rfl (by decide) (by decide) ?_
  rintro _ T1 h1 G1 ⟨rfl, hh⟩
  subst hh
  show OFin _ _ _ _ T1 (mkF m 6 #[.val (.ref r0), .val (.ref r1)] [(.int (0 : Int32))])
  exact o_nreturn (t := .boolean) G1 (by simp) d15_6 ⟨rfl, rfl⟩ (by decide) (by decide)
set_option maxRecDepth 65536 in
set_option maxHeartbeats 40000000 in
theorem rm19_211e {l : Launch} {Z : State} {a0 : Array Value} (hw : ∀ d ∈ tables_1, d.before a0 Z = true) (r0 : Addr) (r2 : Addr) (h0 : Heap) (n0 : Nat) (hz : n0 ≤ h0.size) (g : Nat → Int32) (A_r0 : OArr Z h0 r0 .byte 2 (fun j => .int (own_by (g j)))) (k : Nat → Int32) (A_r2 : OArr Z h0 r2 .byte 1 (fun j => .int (own_by (k j)))) (hq : ∀ i, i < 1 → own_by (g (1 + i)) = own_by (k i)) :
    OMet l Z (⟨"jdk/internal/util/ArraysSupport", "mismatch", "([BI[BII)I"⟩ : MethodName) jdk_48_method_14_code 8 (some .int) ({ frames := 0, cells := 0, slots := 0, locals := 0 } : Room) #[(.ref r0), (.int (1 : Int32)), (.ref r2), (.int (0 : Int32)), (.int (1 : Int32))] h0 n0 ({ frames := 0, cells := 0, slots := 0, locals := 0 } : Room).cells ({ frames := 0, cells := 0, slots := 0, locals := 0 } : Room).slots (OVal h0 (.int (-1 : Int32))) := by
  refine o_body (plainFor_of_name pn_19) hz (fun m => ef_19 m r0 (1 : Int32) r2 (0 : Int32) (1 : Int32)) ?_
  intro p e s m below meth c s₁ G0
  refine o_iconst G0 d19_0 (pc' := 1) rfl (v := (0 : Int32)) rfl ?_
  refine o_istore G0 d19_1 (pc' := 3) rfl (l' := #[.val (.ref r0), .val (.int (1 : Int32)), .val (.ref r2), .val (.int (0 : Int32)), .val (.int (1 : Int32)), .val (.int (0 : Int32)), .unset, .unset]) rfl ?_
  refine o_iload G0 d19_3 (pc' := 5) rfl rfl ?_
  refine o_bipush G0 d19_5 (pc' := 7) rfl (v := (7 : Int32)) rfl ?_
  refine o_icmp_le G0 d19_7 (by decide) (pcT := 70) (by decide) (pc' := 10) rfl (fun _ => ?_) (fun q => absurd q (by decide))
  refine o_iload G0 d19_70 (pc' := 72) rfl rfl ?_
  refine o_iload G0 d19_72 (pc' := 74) rfl rfl ?_
  refine o_icmp_ge G0 d19_74 (by decide) (pcT := 101) (by decide) (pc' := 77) rfl (fun q => absurd (by decide) q) (fun _ => ?_)
  refine o_aloadN G0 d19_77 (pc' := 78) rfl rfl rfl ?_
  refine o_iloadN G0 d19_78 (pc' := 79) rfl rfl ?_
  refine o_iload G0 d19_79 (pc' := 81) rfl rfl ?_
  refine o_iadd G0 d19_81 (pc' := 82) rfl (v := (1 : Int32)) (by decide) ?_
  refine o_baload G0 A_r0 (i := 1) rfl (by decide) (v := (.int (own_by (g 1)))) rfl d19_82 (pc' := 83) rfl ?_
  refine o_aloadN G0 d19_83 (pc' := 84) rfl rfl rfl ?_
  refine o_iloadN G0 d19_84 (pc' := 85) rfl rfl ?_
  refine o_iload G0 d19_85 (pc' := 87) rfl rfl ?_
  refine o_iadd G0 d19_87 (pc' := 88) rfl (v := (0 : Int32)) (by decide) ?_
  refine o_baload G0 A_r2 (i := 0) rfl (by decide) (v := (.int (own_by (k 0)))) rfl d19_88 (pc' := 89) rfl ?_
  refine o_icmp_eq G0 d19_89 (by decide) (pcT := 95) (by decide) (pc' := 92) rfl (fun _ => ?_) (fun q => absurd (hq 0 (by decide)) q)
  refine o_iinc G0 d19_95 (pc' := 98) rfl rfl (w := (1 : Int32)) rfl (v := (1 : Int32)) (by decide) (l' := #[.val (.ref r0), .val (.int (1 : Int32)), .val (.ref r2), .val (.int (0 : Int32)), .val (.int (1 : Int32)), .val (.int (1 : Int32)), .unset, .unset]) rfl ?_
  refine o_goto G0 d19_98 (by decide) (pc' := 70) rfl ?_
  refine o_iload G0 d19_70 (pc' := 72) rfl rfl ?_
  refine o_iload G0 d19_72 (pc' := 74) rfl rfl ?_
  refine o_icmp_ge G0 d19_74 (by decide) (pcT := 101) (by decide) (pc' := 77) rfl (fun _ => ?_) (fun q => absurd q (by decide))
  refine o_iconst G0 d19_101 (pc' := 102) rfl (v := (-1 : Int32)) rfl ?_
  exact o_ireturn G0 d19_102 ⟨rfl, rfl⟩ (by decide) (by decide)
set_option maxRecDepth 65536 in
set_option maxHeartbeats 40000000 in
theorem rm16_211e {l : Launch} {Z : State} {a0 : Array Value} (hw : ∀ d ∈ tables_1, d.before a0 Z = true) (r0 : Addr) (r1 : Addr) (h0 : Heap) (n0 : Nat) (hz : n0 ≤ h0.size) (cs : Int32) (hcs : ¬ cs = 0) (S : Sta Z h0 "java/lang/String" "COMPACT_STRINGS" "Z" (.int cs)) (b : Addr) (g : Nat → Int32) (E_r0 : Exa Z h0 r0 "java/lang/String") (Fv_r0 : Fld Z h0 r0 "java/lang/String" "value" "[B" (.ref b)) (Fc_r0 : Fld Z h0 r0 "java/lang/String" "coder" "B" (.int (0 : Int32))) (A_b : OArr Z h0 b .byte 2 (fun j => .int (own_by (g j)))) (c1 : Addr) (k : Nat → Int32) (E_r1 : Exa Z h0 r1 "java/lang/String") (Fv_r1 : Fld Z h0 r1 "java/lang/String" "value" "[B" (.ref c1)) (Fc_r1 : Fld Z h0 r1 "java/lang/String" "coder" "B" (.int (0 : Int32))) (A_c1 : OArr Z h0 c1 .byte 1 (fun j => .int (own_by (k j)))) (hq : ∀ i, i < 1 → own_by (g (1 + i)) = own_by (k i)) :
    OMet l Z (⟨"java/lang/String", "startsWith", "(Ljava/lang/String;I)Z"⟩ : MethodName) jdk_42_method_75_code 8 (some .boolean) ({ frames := 2, cells := 0, slots := 0, locals := 27 } : Room) #[(.ref r0), (.ref r1), (.int (1 : Int32))] h0 n0 ({ frames := 2, cells := 0, slots := 0, locals := 27 } : Room).cells ({ frames := 2, cells := 0, slots := 0, locals := 27 } : Room).slots (OVal h0 (.int 1)) := by
  refine o_body (plainFor_of_name pn_16) hz (fun m => ef_16 m r0 r1 (1 : Int32)) ?_
  intro p e s m below meth c s₁ G0
  refine o_iloadN G0 d16_0 (pc' := 1) rfl rfl ?_
  refine o_if_lt G0 d16_1 (by decide) (pcT := 17) (by decide) (pc' := 4) rfl (fun q => absurd q (by decide)) (fun _ => ?_)
  refine o_iloadN G0 d16_4 (pc' := 5) rfl rfl ?_
  refine o_aloadN G0 d16_5 (pc' := 6) rfl rfl rfl ?_
  refine o_callV G0 (z := (⟨"java/lang/String", "length", "()I"⟩ : MethodName)) (argsL := []) (rest := [(.int (1 : Int32))]) (W := 1) E_r0 (ow hw 76 rfl) (ow hw 78 rfl) (ow hw 77 rfl) (ow hw 79 rfl) d16_6 (by decide) (ow hw 9 rfl) (ow hw 80 rfl) (rm17 hw r0 h0 n0 G0.sz cs hcs S 2 (2 : Int32) rfl (by decide) b g E_r0 Fv_r0 Fc_r0 A_b) (by decide) (by decide) rfl (lenOf pd_8 rfl) rfl (Nat.le_of_eq rfl) (pc' := 9) rfl (by decide) (by decide) ?_
  rintro _ T1 h1 G1 ⟨rfl, hh⟩
  subst hh
  show OFin _ _ _ _ T1 (mkF m 9 #[.val (.ref r0), .val (.ref r1), .val (.int (1 : Int32)), .unset, .unset, .unset, .unset, .unset] [(.int (2 : Int32)), (.int (1 : Int32))])
  refine o_aloadN G1 d16_9 (pc' := 10) rfl rfl rfl ?_
  refine o_callV G1 (z := (⟨"java/lang/String", "length", "()I"⟩ : MethodName)) (argsL := []) (rest := [(.int (2 : Int32)), (.int (1 : Int32))]) (W := 2) E_r1 (ow hw 76 rfl) (ow hw 78 rfl) (ow hw 77 rfl) (ow hw 79 rfl) d16_10 (by decide) (ow hw 9 rfl) (ow hw 80 rfl) (rm17 hw r1 h0 n0 G1.sz cs hcs S 1 (1 : Int32) rfl (by decide) c1 k E_r1 Fv_r1 Fc_r1 A_c1) (by decide) (by decide) rfl (lenOf pd_8 rfl) rfl (Nat.le_of_eq rfl) (pc' := 13) rfl (by decide) (by decide) ?_
  rintro _ T2 h2 G2 ⟨rfl, hh⟩
  subst hh
  show OFin _ _ _ _ T2 (mkF m 13 #[.val (.ref r0), .val (.ref r1), .val (.int (1 : Int32)), .unset, .unset, .unset, .unset, .unset] [(.int (1 : Int32)), (.int (2 : Int32)), (.int (1 : Int32))])
  refine o_isub G2 d16_13 (pc' := 14) rfl (v := (1 : Int32)) (by decide) ?_
  refine o_icmp_le G2 d16_14 (by decide) (pcT := 19) (by decide) (pc' := 17) rfl (fun _ => ?_) (fun q => absurd q (by decide))
  refine o_aloadN G2 d16_19 (pc' := 20) rfl rfl rfl ?_
  refine o_getF G2 (host := "") (Or.inl (ow hw 29 rfl)) Via.refl Fv_r0 d16_20 (pc' := 23) rfl ?_
  intro T3 G3
  refine o_astoreN G3 d16_23 (pc' := 24) rfl rfl (l' := #[.val (.ref r0), .val (.ref r1), .val (.int (1 : Int32)), .val (.ref b), .unset, .unset, .unset, .unset]) rfl ?_
  refine o_aloadN G3 d16_24 (pc' := 25) rfl rfl rfl ?_
  refine o_getF G3 (host := "") (Or.inl (ow hw 29 rfl)) Via.refl Fv_r1 d16_25 (pc' := 28) rfl ?_
  intro T4 G4
  refine o_astore G4 d16_28 (pc' := 30) rfl rfl (l' := #[.val (.ref r0), .val (.ref r1), .val (.int (1 : Int32)), .val (.ref b), .val (.ref c1), .unset, .unset, .unset]) rfl ?_
  refine o_iconst G4 d16_30 (pc' := 31) rfl (v := (0 : Int32)) rfl ?_
  refine o_istore G4 d16_31 (pc' := 33) rfl (l' := #[.val (.ref r0), .val (.ref r1), .val (.int (1 : Int32)), .val (.ref b), .val (.ref c1), .val (.int (0 : Int32)), .unset, .unset]) rfl ?_
  refine o_aload G4 d16_33 (pc' := 35) rfl rfl rfl ?_
  refine o_arraylength G4 A_c1 (v := (1 : Int32)) rfl d16_35 (pc' := 36) rfl ?_
  refine o_istore G4 d16_36 (pc' := 38) rfl (l' := #[.val (.ref r0), .val (.ref r1), .val (.int (1 : Int32)), .val (.ref b), .val (.ref c1), .val (.int (0 : Int32)), .val (.int (1 : Int32)), .unset]) rfl ?_
  refine o_aloadN G4 d16_38 (pc' := 39) rfl rfl rfl ?_
  refine o_callV G4 (z := (⟨"java/lang/String", "coder", "()B"⟩ : MethodName)) (argsL := []) (rest := []) (W := 0) E_r0 (ow hw 81 rfl) (ow hw 83 rfl) (ow hw 82 rfl) (ow hw 84 rfl) d16_39 (by decide) (ow hw 9 rfl) (ow hw 85 rfl) (rm18 hw r0 h0 n0 G4.sz cs hcs S Fc_r0) (by decide) (by decide) rfl (lenOf pd_7 rfl) rfl (Nat.le_of_eq rfl) (pc' := 42) rfl (by decide) (by decide) ?_
  rintro _ T5 h5 G5 ⟨rfl, hh⟩
  subst hh
  show OFin _ _ _ _ T5 (mkF m 42 #[.val (.ref r0), .val (.ref r1), .val (.int (1 : Int32)), .val (.ref b), .val (.ref c1), .val (.int (0 : Int32)), .val (.int (1 : Int32)), .unset] [(.int (0 : Int32))])
  refine o_istore G5 d16_42 (pc' := 44) rfl (l' := #[.val (.ref r0), .val (.ref r1), .val (.int (1 : Int32)), .val (.ref b), .val (.ref c1), .val (.int (0 : Int32)), .val (.int (1 : Int32)), .val (.int (0 : Int32))]) rfl ?_
  refine o_iload G5 d16_44 (pc' := 46) rfl rfl ?_
  refine o_aloadN G5 d16_46 (pc' := 47) rfl rfl rfl ?_
  refine o_callV G5 (z := (⟨"java/lang/String", "coder", "()B"⟩ : MethodName)) (argsL := []) (rest := [(.int (0 : Int32))]) (W := 1) E_r1 (ow hw 81 rfl) (ow hw 83 rfl) (ow hw 82 rfl) (ow hw 84 rfl) d16_47 (by decide) (ow hw 9 rfl) (ow hw 85 rfl) (rm18 hw r1 h0 n0 G5.sz cs hcs S Fc_r1) (by decide) (by decide) rfl (lenOf pd_7 rfl) rfl (Nat.le_of_eq rfl) (pc' := 50) rfl (by decide) (by decide) ?_
  rintro _ T6 h6 G6 ⟨rfl, hh⟩
  subst hh
  show OFin _ _ _ _ T6 (mkF m 50 #[.val (.ref r0), .val (.ref r1), .val (.int (1 : Int32)), .val (.ref b), .val (.ref c1), .val (.int (0 : Int32)), .val (.int (1 : Int32)), .val (.int (0 : Int32))] [(.int (0 : Int32)), (.int (0 : Int32))])
  refine o_icmp_ne G6 d16_50 (by decide) (pcT := 82) (by decide) (pc' := 53) rfl (fun q => absurd (by decide) q) (fun _ => ?_)
  refine o_iload G6 d16_53 (pc' := 55) rfl rfl ?_
  refine o_iconst G6 d16_55 (pc' := 56) rfl (v := (1 : Int32)) rfl ?_
  refine o_icmp_ne G6 d16_56 (by decide) (pcT := 63) (by decide) (pc' := 59) rfl (fun _ => ?_) (fun q => absurd q (by decide))
  refine o_aloadN G6 d16_63 (pc' := 64) rfl rfl rfl ?_
  refine o_iloadN G6 d16_64 (pc' := 65) rfl rfl ?_
  refine o_aload G6 d16_65 (pc' := 67) rfl rfl rfl ?_
  refine o_iconst G6 d16_67 (pc' := 68) rfl (v := (0 : Int32)) rfl ?_
  refine o_iload G6 d16_68 (pc' := 70) rfl rfl ?_
  refine o_callS G6 (z := (⟨"jdk/internal/util/ArraysSupport", "mismatch", "([BI[BII)I"⟩ : MethodName)) (argsL := [(.ref b), (.int (1 : Int32)), (.ref c1), (.int (0 : Int32)), (.int (1 : Int32))]) (rest := []) (W := 0) (ow hw 86 rfl) (ow hw 87 rfl) d16_70 (by decide) (ow hw 88 rfl) (ow hw 89 rfl) (rm19_211e hw b c1 h0 n0 G6.sz g A_b k A_c1 hq) (by decide) (by decide) rfl (lenOf pd_9 rfl) rfl (Nat.le_of_eq rfl) (pc' := 73) rfl (by decide) (by decide) ?_
  rintro _ T7 h7 G7 ⟨rfl, hh⟩
  subst hh
  show OFin _ _ _ _ T7 (mkF m 73 #[.val (.ref r0), .val (.ref r1), .val (.int (1 : Int32)), .val (.ref b), .val (.ref c1), .val (.int (0 : Int32)), .val (.int (1 : Int32)), .val (.int (0 : Int32))] [(.int (-1 : Int32))])
  refine o_if_ge G7 d16_73 (by decide) (pcT := 80) (by decide) (pc' := 76) rfl (fun q => absurd (by decide) q) (fun _ => ?_)
  refine o_iconst G7 d16_76 (pc' := 77) rfl (v := (1 : Int32)) rfl ?_
  refine o_goto G7 d16_77 (by decide) (pc' := 81) rfl ?_
  exact o_nreturn (t := .boolean) G7 (by simp) d16_81 ⟨rfl, rfl⟩ (by decide) (by decide)
theorem d20_0 : decode jdk_42_method_77_code 0 = .ok (.aload_n 0, 1) := by decide +kernel
theorem d20_1 : decode jdk_42_method_77_code 1 = .ok (.aload_n 1, 1) := by decide +kernel
theorem d20_2 : decode jdk_42_method_77_code 2 = .ok (.aload_n 0, 1) := by decide +kernel
theorem d20_3 : decode jdk_42_method_77_code 3 = .ok (.invokevirtual 505, 3) := by decide +kernel
theorem d20_6 : decode jdk_42_method_77_code 6 = .ok (.aload_n 1, 1) := by decide +kernel
theorem d20_7 : decode jdk_42_method_77_code 7 = .ok (.invokevirtual 505, 3) := by decide +kernel
theorem d20_10 : decode jdk_42_method_77_code 10 = .ok (.isub, 1) := by decide +kernel
theorem d20_11 : decode jdk_42_method_77_code 11 = .ok (.invokevirtual 624, 3) := by decide +kernel
theorem d20_14 : decode jdk_42_method_77_code 14 = .ok (.ireturn, 1) := by decide +kernel
theorem pn_20 : plainName "java/lang/String" = true := by first | (simp [plainName, overriddenIn]; done) | decide +kernel
theorem ef_20 (m : MethodId) (r0 : Addr) (r1 : Addr) : entryFrame m #[(.ref r0), (.ref r1)] 2 = mkF m 0 #[.val (.ref r0), .val (.ref r1)] [] := by first | (simp [entryFrame, mkF, argsToLocals, Value.category]; done) | rfl
set_option maxRecDepth 65536 in
set_option maxHeartbeats 40000000 in
theorem rm20_211e {l : Launch} {Z : State} {a0 : Array Value} (hw : ∀ d ∈ tables_1, d.before a0 Z = true) (r0 : Addr) (r1 : Addr) (h0 : Heap) (n0 : Nat) (hz : n0 ≤ h0.size) (cs : Int32) (hcs : ¬ cs = 0) (S : Sta Z h0 "java/lang/String" "COMPACT_STRINGS" "Z" (.int cs)) (b : Addr) (g : Nat → Int32) (E_r0 : Exa Z h0 r0 "java/lang/String") (Fv_r0 : Fld Z h0 r0 "java/lang/String" "value" "[B" (.ref b)) (Fc_r0 : Fld Z h0 r0 "java/lang/String" "coder" "B" (.int (0 : Int32))) (A_b : OArr Z h0 b .byte 2 (fun j => .int (own_by (g j)))) (c1 : Addr) (k : Nat → Int32) (E_r1 : Exa Z h0 r1 "java/lang/String") (Fv_r1 : Fld Z h0 r1 "java/lang/String" "value" "[B" (.ref c1)) (Fc_r1 : Fld Z h0 r1 "java/lang/String" "coder" "B" (.int (0 : Int32))) (A_c1 : OArr Z h0 c1 .byte 1 (fun j => .int (own_by (k j)))) (hq : ∀ i, i < 1 → own_by (g (1 + i)) = own_by (k i)) :
    OMet l Z (⟨"java/lang/String", "endsWith", "(Ljava/lang/String;)Z"⟩ : MethodName) jdk_42_method_77_code 2 (some .boolean) ({ frames := 3, cells := 0, slots := 0, locals := 46 } : Room) #[(.ref r0), (.ref r1)] h0 n0 ({ frames := 3, cells := 0, slots := 0, locals := 46 } : Room).cells ({ frames := 3, cells := 0, slots := 0, locals := 46 } : Room).slots (OVal h0 (.int 1)) := by
  refine o_body (plainFor_of_name pn_20) hz (fun m => ef_20 m r0 r1) ?_
  intro p e s m below meth c s₁ G0
  refine o_aloadN G0 d20_0 (pc' := 1) rfl rfl rfl ?_
  refine o_aloadN G0 d20_1 (pc' := 2) rfl rfl rfl ?_
  refine o_aloadN G0 d20_2 (pc' := 3) rfl rfl rfl ?_
  refine o_callV G0 (z := (⟨"java/lang/String", "length", "()I"⟩ : MethodName)) (argsL := []) (rest := [(.ref r1), (.ref r0)]) (W := 2) E_r0 (ow hw 76 rfl) (ow hw 78 rfl) (ow hw 77 rfl) (ow hw 79 rfl) d20_3 (by decide) (ow hw 9 rfl) (ow hw 80 rfl) (rm17 hw r0 h0 n0 G0.sz cs hcs S 2 (2 : Int32) rfl (by decide) b g E_r0 Fv_r0 Fc_r0 A_b) (by decide) (by decide) rfl (lenOf pd_8 rfl) rfl (Nat.le_of_eq rfl) (pc' := 6) rfl (by decide) (by decide) ?_
  rintro _ T1 h1 G1 ⟨rfl, hh⟩
  subst hh
  show OFin _ _ _ _ T1 (mkF m 6 #[.val (.ref r0), .val (.ref r1)] [(.int (2 : Int32)), (.ref r1), (.ref r0)])
  refine o_aloadN G1 d20_6 (pc' := 7) rfl rfl rfl ?_
  refine o_callV G1 (z := (⟨"java/lang/String", "length", "()I"⟩ : MethodName)) (argsL := []) (rest := [(.int (2 : Int32)), (.ref r1), (.ref r0)]) (W := 3) E_r1 (ow hw 76 rfl) (ow hw 78 rfl) (ow hw 77 rfl) (ow hw 79 rfl) d20_7 (by decide) (ow hw 9 rfl) (ow hw 80 rfl) (rm17 hw r1 h0 n0 G1.sz cs hcs S 1 (1 : Int32) rfl (by decide) c1 k E_r1 Fv_r1 Fc_r1 A_c1) (by decide) (by decide) rfl (lenOf pd_8 rfl) rfl (Nat.le_of_eq rfl) (pc' := 10) rfl (by decide) (by decide) ?_
  rintro _ T2 h2 G2 ⟨rfl, hh⟩
  subst hh
  show OFin _ _ _ _ T2 (mkF m 10 #[.val (.ref r0), .val (.ref r1)] [(.int (1 : Int32)), (.int (2 : Int32)), (.ref r1), (.ref r0)])
  refine o_isub G2 d20_10 (pc' := 11) rfl (v := (1 : Int32)) (by decide) ?_
  refine o_callV G2 (z := (⟨"java/lang/String", "startsWith", "(Ljava/lang/String;I)Z"⟩ : MethodName)) (argsL := [(.ref r1), (.int (1 : Int32))]) (rest := []) (W := 0) E_r0 (ow hw 71 rfl) (ow hw 73 rfl) (ow hw 72 rfl) (ow hw 74 rfl) d20_11 (by decide) (ow hw 9 rfl) (ow hw 75 rfl) (rm16_211e hw r0 r1 h0 n0 G2.sz cs hcs S b g E_r0 Fv_r0 Fc_r0 A_b c1 k E_r1 Fv_r1 Fc_r1 A_c1 hq) (by decide) (by decide) rfl (lenOf pd_10 rfl) rfl (Nat.le_of_eq rfl) (pc' := 14) rfl (by decide) (by decide) ?_
  rintro _ T3 h3 G3 ⟨rfl, hh⟩
  subst hh
  show OFin _ _ _ _ T3 (mkF m 14 #[.val (.ref r0), .val (.ref r1)] [(.int (1 : Int32))])
  exact o_nreturn (t := .boolean) G3 (by simp) d20_14 ⟨rfl, rfl⟩ (by decide) (by decide)
set_option maxRecDepth 65536 in
set_option maxHeartbeats 40000000 in
theorem rm19_430e {l : Launch} {Z : State} {a0 : Array Value} (hw : ∀ d ∈ tables_1, d.before a0 Z = true) (r0 : Addr) (r2 : Addr) (h0 : Heap) (n0 : Nat) (hz : n0 ≤ h0.size) (g : Nat → Int32) (A_r0 : OArr Z h0 r0 .byte 4 (fun j => .int (own_by (g j)))) (k : Nat → Int32) (A_r2 : OArr Z h0 r2 .byte 3 (fun j => .int (own_by (k j)))) (hq : ∀ i, i < 3 → own_by (g (0 + i)) = own_by (k i)) :
    OMet l Z (⟨"jdk/internal/util/ArraysSupport", "mismatch", "([BI[BII)I"⟩ : MethodName) jdk_48_method_14_code 8 (some .int) ({ frames := 0, cells := 0, slots := 0, locals := 0 } : Room) #[(.ref r0), (.int (0 : Int32)), (.ref r2), (.int (0 : Int32)), (.int (3 : Int32))] h0 n0 ({ frames := 0, cells := 0, slots := 0, locals := 0 } : Room).cells ({ frames := 0, cells := 0, slots := 0, locals := 0 } : Room).slots (OVal h0 (.int (-1 : Int32))) := by
  refine o_body (plainFor_of_name pn_19) hz (fun m => ef_19 m r0 (0 : Int32) r2 (0 : Int32) (3 : Int32)) ?_
  intro p e s m below meth c s₁ G0
  refine o_iconst G0 d19_0 (pc' := 1) rfl (v := (0 : Int32)) rfl ?_
  refine o_istore G0 d19_1 (pc' := 3) rfl (l' := #[.val (.ref r0), .val (.int (0 : Int32)), .val (.ref r2), .val (.int (0 : Int32)), .val (.int (3 : Int32)), .val (.int (0 : Int32)), .unset, .unset]) rfl ?_
  refine o_iload G0 d19_3 (pc' := 5) rfl rfl ?_
  refine o_bipush G0 d19_5 (pc' := 7) rfl (v := (7 : Int32)) rfl ?_
  refine o_icmp_le G0 d19_7 (by decide) (pcT := 70) (by decide) (pc' := 10) rfl (fun _ => ?_) (fun q => absurd q (by decide))
  refine o_iload G0 d19_70 (pc' := 72) rfl rfl ?_
  refine o_iload G0 d19_72 (pc' := 74) rfl rfl ?_
  refine o_icmp_ge G0 d19_74 (by decide) (pcT := 101) (by decide) (pc' := 77) rfl (fun q => absurd (by decide) q) (fun _ => ?_)
  refine o_aloadN G0 d19_77 (pc' := 78) rfl rfl rfl ?_
  refine o_iloadN G0 d19_78 (pc' := 79) rfl rfl ?_
  refine o_iload G0 d19_79 (pc' := 81) rfl rfl ?_
  refine o_iadd G0 d19_81 (pc' := 82) rfl (v := (0 : Int32)) (by decide) ?_
  refine o_baload G0 A_r0 (i := 0) rfl (by decide) (v := (.int (own_by (g 0)))) rfl d19_82 (pc' := 83) rfl ?_
  refine o_aloadN G0 d19_83 (pc' := 84) rfl rfl rfl ?_
  refine o_iloadN G0 d19_84 (pc' := 85) rfl rfl ?_
  refine o_iload G0 d19_85 (pc' := 87) rfl rfl ?_
  refine o_iadd G0 d19_87 (pc' := 88) rfl (v := (0 : Int32)) (by decide) ?_
  refine o_baload G0 A_r2 (i := 0) rfl (by decide) (v := (.int (own_by (k 0)))) rfl d19_88 (pc' := 89) rfl ?_
  refine o_icmp_eq G0 d19_89 (by decide) (pcT := 95) (by decide) (pc' := 92) rfl (fun _ => ?_) (fun q => absurd (hq 0 (by decide)) q)
  refine o_iinc G0 d19_95 (pc' := 98) rfl rfl (w := (1 : Int32)) rfl (v := (1 : Int32)) (by decide) (l' := #[.val (.ref r0), .val (.int (0 : Int32)), .val (.ref r2), .val (.int (0 : Int32)), .val (.int (3 : Int32)), .val (.int (1 : Int32)), .unset, .unset]) rfl ?_
  refine o_goto G0 d19_98 (by decide) (pc' := 70) rfl ?_
  refine o_iload G0 d19_70 (pc' := 72) rfl rfl ?_
  refine o_iload G0 d19_72 (pc' := 74) rfl rfl ?_
  refine o_icmp_ge G0 d19_74 (by decide) (pcT := 101) (by decide) (pc' := 77) rfl (fun q => absurd (by decide) q) (fun _ => ?_)
  refine o_aloadN G0 d19_77 (pc' := 78) rfl rfl rfl ?_
  refine o_iloadN G0 d19_78 (pc' := 79) rfl rfl ?_
  refine o_iload G0 d19_79 (pc' := 81) rfl rfl ?_
  refine o_iadd G0 d19_81 (pc' := 82) rfl (v := (1 : Int32)) (by decide) ?_
  refine o_baload G0 A_r0 (i := 1) rfl (by decide) (v := (.int (own_by (g 1)))) rfl d19_82 (pc' := 83) rfl ?_
  refine o_aloadN G0 d19_83 (pc' := 84) rfl rfl rfl ?_
  refine o_iloadN G0 d19_84 (pc' := 85) rfl rfl ?_
  refine o_iload G0 d19_85 (pc' := 87) rfl rfl ?_
  refine o_iadd G0 d19_87 (pc' := 88) rfl (v := (1 : Int32)) (by decide) ?_
  refine o_baload G0 A_r2 (i := 1) rfl (by decide) (v := (.int (own_by (k 1)))) rfl d19_88 (pc' := 89) rfl ?_
  refine o_icmp_eq G0 d19_89 (by decide) (pcT := 95) (by decide) (pc' := 92) rfl (fun _ => ?_) (fun q => absurd (hq 1 (by decide)) q)
  refine o_iinc G0 d19_95 (pc' := 98) rfl rfl (w := (1 : Int32)) rfl (v := (2 : Int32)) (by decide) (l' := #[.val (.ref r0), .val (.int (0 : Int32)), .val (.ref r2), .val (.int (0 : Int32)), .val (.int (3 : Int32)), .val (.int (2 : Int32)), .unset, .unset]) rfl ?_
  refine o_goto G0 d19_98 (by decide) (pc' := 70) rfl ?_
  refine o_iload G0 d19_70 (pc' := 72) rfl rfl ?_
  refine o_iload G0 d19_72 (pc' := 74) rfl rfl ?_
  refine o_icmp_ge G0 d19_74 (by decide) (pcT := 101) (by decide) (pc' := 77) rfl (fun q => absurd (by decide) q) (fun _ => ?_)
  refine o_aloadN G0 d19_77 (pc' := 78) rfl rfl rfl ?_
  refine o_iloadN G0 d19_78 (pc' := 79) rfl rfl ?_
  refine o_iload G0 d19_79 (pc' := 81) rfl rfl ?_
  refine o_iadd G0 d19_81 (pc' := 82) rfl (v := (2 : Int32)) (by decide) ?_
  refine o_baload G0 A_r0 (i := 2) rfl (by decide) (v := (.int (own_by (g 2)))) rfl d19_82 (pc' := 83) rfl ?_
  refine o_aloadN G0 d19_83 (pc' := 84) rfl rfl rfl ?_
  refine o_iloadN G0 d19_84 (pc' := 85) rfl rfl ?_
  refine o_iload G0 d19_85 (pc' := 87) rfl rfl ?_
  refine o_iadd G0 d19_87 (pc' := 88) rfl (v := (2 : Int32)) (by decide) ?_
  refine o_baload G0 A_r2 (i := 2) rfl (by decide) (v := (.int (own_by (k 2)))) rfl d19_88 (pc' := 89) rfl ?_
  refine o_icmp_eq G0 d19_89 (by decide) (pcT := 95) (by decide) (pc' := 92) rfl (fun _ => ?_) (fun q => absurd (hq 2 (by decide)) q)
  refine o_iinc G0 d19_95 (pc' := 98) rfl rfl (w := (1 : Int32)) rfl (v := (3 : Int32)) (by decide) (l' := #[.val (.ref r0), .val (.int (0 : Int32)), .val (.ref r2), .val (.int (0 : Int32)), .val (.int (3 : Int32)), .val (.int (3 : Int32)), .unset, .unset]) rfl ?_
  refine o_goto G0 d19_98 (by decide) (pc' := 70) rfl ?_
  refine o_iload G0 d19_70 (pc' := 72) rfl rfl ?_
  refine o_iload G0 d19_72 (pc' := 74) rfl rfl ?_
  refine o_icmp_ge G0 d19_74 (by decide) (pcT := 101) (by decide) (pc' := 77) rfl (fun _ => ?_) (fun q => absurd q (by decide))
  refine o_iconst G0 d19_101 (pc' := 102) rfl (v := (-1 : Int32)) rfl ?_
  exact o_ireturn G0 d19_102 ⟨rfl, rfl⟩ (by decide) (by decide)
set_option maxRecDepth 65536 in
set_option maxHeartbeats 40000000 in
theorem rm16_430e {l : Launch} {Z : State} {a0 : Array Value} (hw : ∀ d ∈ tables_1, d.before a0 Z = true) (r0 : Addr) (r1 : Addr) (h0 : Heap) (n0 : Nat) (hz : n0 ≤ h0.size) (cs : Int32) (hcs : ¬ cs = 0) (S : Sta Z h0 "java/lang/String" "COMPACT_STRINGS" "Z" (.int cs)) (b : Addr) (g : Nat → Int32) (E_r0 : Exa Z h0 r0 "java/lang/String") (Fv_r0 : Fld Z h0 r0 "java/lang/String" "value" "[B" (.ref b)) (Fc_r0 : Fld Z h0 r0 "java/lang/String" "coder" "B" (.int (0 : Int32))) (A_b : OArr Z h0 b .byte 4 (fun j => .int (own_by (g j)))) (c1 : Addr) (k : Nat → Int32) (E_r1 : Exa Z h0 r1 "java/lang/String") (Fv_r1 : Fld Z h0 r1 "java/lang/String" "value" "[B" (.ref c1)) (Fc_r1 : Fld Z h0 r1 "java/lang/String" "coder" "B" (.int (0 : Int32))) (A_c1 : OArr Z h0 c1 .byte 3 (fun j => .int (own_by (k j)))) (hq : ∀ i, i < 3 → own_by (g (0 + i)) = own_by (k i)) :
    OMet l Z (⟨"java/lang/String", "startsWith", "(Ljava/lang/String;I)Z"⟩ : MethodName) jdk_42_method_75_code 8 (some .boolean) ({ frames := 2, cells := 0, slots := 0, locals := 27 } : Room) #[(.ref r0), (.ref r1), (.int (0 : Int32))] h0 n0 ({ frames := 2, cells := 0, slots := 0, locals := 27 } : Room).cells ({ frames := 2, cells := 0, slots := 0, locals := 27 } : Room).slots (OVal h0 (.int 1)) := by
  refine o_body (plainFor_of_name pn_16) hz (fun m => ef_16 m r0 r1 (0 : Int32)) ?_
  intro p e s m below meth c s₁ G0
  refine o_iloadN G0 d16_0 (pc' := 1) rfl rfl ?_
  refine o_if_lt G0 d16_1 (by decide) (pcT := 17) (by decide) (pc' := 4) rfl (fun q => absurd q (by decide)) (fun _ => ?_)
  refine o_iloadN G0 d16_4 (pc' := 5) rfl rfl ?_
  refine o_aloadN G0 d16_5 (pc' := 6) rfl rfl rfl ?_
  refine o_callV G0 (z := (⟨"java/lang/String", "length", "()I"⟩ : MethodName)) (argsL := []) (rest := [(.int (0 : Int32))]) (W := 1) E_r0 (ow hw 76 rfl) (ow hw 78 rfl) (ow hw 77 rfl) (ow hw 79 rfl) d16_6 (by decide) (ow hw 9 rfl) (ow hw 80 rfl) (rm17 hw r0 h0 n0 G0.sz cs hcs S 4 (4 : Int32) rfl (by decide) b g E_r0 Fv_r0 Fc_r0 A_b) (by decide) (by decide) rfl (lenOf pd_8 rfl) rfl (Nat.le_of_eq rfl) (pc' := 9) rfl (by decide) (by decide) ?_
  rintro _ T1 h1 G1 ⟨rfl, hh⟩
  subst hh
  show OFin _ _ _ _ T1 (mkF m 9 #[.val (.ref r0), .val (.ref r1), .val (.int (0 : Int32)), .unset, .unset, .unset, .unset, .unset] [(.int (4 : Int32)), (.int (0 : Int32))])
  refine o_aloadN G1 d16_9 (pc' := 10) rfl rfl rfl ?_
  refine o_callV G1 (z := (⟨"java/lang/String", "length", "()I"⟩ : MethodName)) (argsL := []) (rest := [(.int (4 : Int32)), (.int (0 : Int32))]) (W := 2) E_r1 (ow hw 76 rfl) (ow hw 78 rfl) (ow hw 77 rfl) (ow hw 79 rfl) d16_10 (by decide) (ow hw 9 rfl) (ow hw 80 rfl) (rm17 hw r1 h0 n0 G1.sz cs hcs S 3 (3 : Int32) rfl (by decide) c1 k E_r1 Fv_r1 Fc_r1 A_c1) (by decide) (by decide) rfl (lenOf pd_8 rfl) rfl (Nat.le_of_eq rfl) (pc' := 13) rfl (by decide) (by decide) ?_
  rintro _ T2 h2 G2 ⟨rfl, hh⟩
  subst hh
  show OFin _ _ _ _ T2 (mkF m 13 #[.val (.ref r0), .val (.ref r1), .val (.int (0 : Int32)), .unset, .unset, .unset, .unset, .unset] [(.int (3 : Int32)), (.int (4 : Int32)), (.int (0 : Int32))])
  refine o_isub G2 d16_13 (pc' := 14) rfl (v := (1 : Int32)) (by decide) ?_
  refine o_icmp_le G2 d16_14 (by decide) (pcT := 19) (by decide) (pc' := 17) rfl (fun _ => ?_) (fun q => absurd q (by decide))
  refine o_aloadN G2 d16_19 (pc' := 20) rfl rfl rfl ?_
  refine o_getF G2 (host := "") (Or.inl (ow hw 29 rfl)) Via.refl Fv_r0 d16_20 (pc' := 23) rfl ?_
  intro T3 G3
  refine o_astoreN G3 d16_23 (pc' := 24) rfl rfl (l' := #[.val (.ref r0), .val (.ref r1), .val (.int (0 : Int32)), .val (.ref b), .unset, .unset, .unset, .unset]) rfl ?_
  refine o_aloadN G3 d16_24 (pc' := 25) rfl rfl rfl ?_
  refine o_getF G3 (host := "") (Or.inl (ow hw 29 rfl)) Via.refl Fv_r1 d16_25 (pc' := 28) rfl ?_
  intro T4 G4
  refine o_astore G4 d16_28 (pc' := 30) rfl rfl (l' := #[.val (.ref r0), .val (.ref r1), .val (.int (0 : Int32)), .val (.ref b), .val (.ref c1), .unset, .unset, .unset]) rfl ?_
  refine o_iconst G4 d16_30 (pc' := 31) rfl (v := (0 : Int32)) rfl ?_
  refine o_istore G4 d16_31 (pc' := 33) rfl (l' := #[.val (.ref r0), .val (.ref r1), .val (.int (0 : Int32)), .val (.ref b), .val (.ref c1), .val (.int (0 : Int32)), .unset, .unset]) rfl ?_
  refine o_aload G4 d16_33 (pc' := 35) rfl rfl rfl ?_
  refine o_arraylength G4 A_c1 (v := (3 : Int32)) rfl d16_35 (pc' := 36) rfl ?_
  refine o_istore G4 d16_36 (pc' := 38) rfl (l' := #[.val (.ref r0), .val (.ref r1), .val (.int (0 : Int32)), .val (.ref b), .val (.ref c1), .val (.int (0 : Int32)), .val (.int (3 : Int32)), .unset]) rfl ?_
  refine o_aloadN G4 d16_38 (pc' := 39) rfl rfl rfl ?_
  refine o_callV G4 (z := (⟨"java/lang/String", "coder", "()B"⟩ : MethodName)) (argsL := []) (rest := []) (W := 0) E_r0 (ow hw 81 rfl) (ow hw 83 rfl) (ow hw 82 rfl) (ow hw 84 rfl) d16_39 (by decide) (ow hw 9 rfl) (ow hw 85 rfl) (rm18 hw r0 h0 n0 G4.sz cs hcs S Fc_r0) (by decide) (by decide) rfl (lenOf pd_7 rfl) rfl (Nat.le_of_eq rfl) (pc' := 42) rfl (by decide) (by decide) ?_
  rintro _ T5 h5 G5 ⟨rfl, hh⟩
  subst hh
  show OFin _ _ _ _ T5 (mkF m 42 #[.val (.ref r0), .val (.ref r1), .val (.int (0 : Int32)), .val (.ref b), .val (.ref c1), .val (.int (0 : Int32)), .val (.int (3 : Int32)), .unset] [(.int (0 : Int32))])
  refine o_istore G5 d16_42 (pc' := 44) rfl (l' := #[.val (.ref r0), .val (.ref r1), .val (.int (0 : Int32)), .val (.ref b), .val (.ref c1), .val (.int (0 : Int32)), .val (.int (3 : Int32)), .val (.int (0 : Int32))]) rfl ?_
  refine o_iload G5 d16_44 (pc' := 46) rfl rfl ?_
  refine o_aloadN G5 d16_46 (pc' := 47) rfl rfl rfl ?_
  refine o_callV G5 (z := (⟨"java/lang/String", "coder", "()B"⟩ : MethodName)) (argsL := []) (rest := [(.int (0 : Int32))]) (W := 1) E_r1 (ow hw 81 rfl) (ow hw 83 rfl) (ow hw 82 rfl) (ow hw 84 rfl) d16_47 (by decide) (ow hw 9 rfl) (ow hw 85 rfl) (rm18 hw r1 h0 n0 G5.sz cs hcs S Fc_r1) (by decide) (by decide) rfl (lenOf pd_7 rfl) rfl (Nat.le_of_eq rfl) (pc' := 50) rfl (by decide) (by decide) ?_
  rintro _ T6 h6 G6 ⟨rfl, hh⟩
  subst hh
  show OFin _ _ _ _ T6 (mkF m 50 #[.val (.ref r0), .val (.ref r1), .val (.int (0 : Int32)), .val (.ref b), .val (.ref c1), .val (.int (0 : Int32)), .val (.int (3 : Int32)), .val (.int (0 : Int32))] [(.int (0 : Int32)), (.int (0 : Int32))])
  refine o_icmp_ne G6 d16_50 (by decide) (pcT := 82) (by decide) (pc' := 53) rfl (fun q => absurd (by decide) q) (fun _ => ?_)
  refine o_iload G6 d16_53 (pc' := 55) rfl rfl ?_
  refine o_iconst G6 d16_55 (pc' := 56) rfl (v := (1 : Int32)) rfl ?_
  refine o_icmp_ne G6 d16_56 (by decide) (pcT := 63) (by decide) (pc' := 59) rfl (fun _ => ?_) (fun q => absurd q (by decide))
  refine o_aloadN G6 d16_63 (pc' := 64) rfl rfl rfl ?_
  refine o_iloadN G6 d16_64 (pc' := 65) rfl rfl ?_
  refine o_aload G6 d16_65 (pc' := 67) rfl rfl rfl ?_
  refine o_iconst G6 d16_67 (pc' := 68) rfl (v := (0 : Int32)) rfl ?_
  refine o_iload G6 d16_68 (pc' := 70) rfl rfl ?_
  refine o_callS G6 (z := (⟨"jdk/internal/util/ArraysSupport", "mismatch", "([BI[BII)I"⟩ : MethodName)) (argsL := [(.ref b), (.int (0 : Int32)), (.ref c1), (.int (0 : Int32)), (.int (3 : Int32))]) (rest := []) (W := 0) (ow hw 86 rfl) (ow hw 87 rfl) d16_70 (by decide) (ow hw 88 rfl) (ow hw 89 rfl) (rm19_430e hw b c1 h0 n0 G6.sz g A_b k A_c1 hq) (by decide) (by decide) rfl (lenOf pd_9 rfl) rfl (Nat.le_of_eq rfl) (pc' := 73) rfl (by decide) (by decide) ?_
  rintro _ T7 h7 G7 ⟨rfl, hh⟩
  subst hh
  show OFin _ _ _ _ T7 (mkF m 73 #[.val (.ref r0), .val (.ref r1), .val (.int (0 : Int32)), .val (.ref b), .val (.ref c1), .val (.int (0 : Int32)), .val (.int (3 : Int32)), .val (.int (0 : Int32))] [(.int (-1 : Int32))])
  refine o_if_ge G7 d16_73 (by decide) (pcT := 80) (by decide) (pc' := 76) rfl (fun q => absurd (by decide) q) (fun _ => ?_)
  refine o_iconst G7 d16_76 (pc' := 77) rfl (v := (1 : Int32)) rfl ?_
  refine o_goto G7 d16_77 (by decide) (pc' := 81) rfl ?_
  exact o_nreturn (t := .boolean) G7 (by simp) d16_81 ⟨rfl, rfl⟩ (by decide) (by decide)
set_option maxRecDepth 65536 in
set_option maxHeartbeats 40000000 in
theorem rm15_430e {l : Launch} {Z : State} {a0 : Array Value} (hw : ∀ d ∈ tables_1, d.before a0 Z = true) (r0 : Addr) (r1 : Addr) (h0 : Heap) (n0 : Nat) (hz : n0 ≤ h0.size) (cs : Int32) (hcs : ¬ cs = 0) (S : Sta Z h0 "java/lang/String" "COMPACT_STRINGS" "Z" (.int cs)) (b : Addr) (g : Nat → Int32) (E_r0 : Exa Z h0 r0 "java/lang/String") (Fv_r0 : Fld Z h0 r0 "java/lang/String" "value" "[B" (.ref b)) (Fc_r0 : Fld Z h0 r0 "java/lang/String" "coder" "B" (.int (0 : Int32))) (A_b : OArr Z h0 b .byte 4 (fun j => .int (own_by (g j)))) (c1 : Addr) (k : Nat → Int32) (E_r1 : Exa Z h0 r1 "java/lang/String") (Fv_r1 : Fld Z h0 r1 "java/lang/String" "value" "[B" (.ref c1)) (Fc_r1 : Fld Z h0 r1 "java/lang/String" "coder" "B" (.int (0 : Int32))) (A_c1 : OArr Z h0 c1 .byte 3 (fun j => .int (own_by (k j)))) (hq : ∀ i, i < 3 → own_by (g (0 + i)) = own_by (k i)) :
    OMet l Z (⟨"java/lang/String", "startsWith", "(Ljava/lang/String;)Z"⟩ : MethodName) jdk_42_method_76_code 2 (some .boolean) ({ frames := 3, cells := 0, slots := 0, locals := 46 } : Room) #[(.ref r0), (.ref r1)] h0 n0 ({ frames := 3, cells := 0, slots := 0, locals := 46 } : Room).cells ({ frames := 3, cells := 0, slots := 0, locals := 46 } : Room).slots (OVal h0 (.int 1)) := by
  refine o_body (plainFor_of_name pn_15) hz (fun m => ef_15 m r0 r1) ?_
  intro p e s m below meth c s₁ G0
  refine o_aloadN G0 d15_0 (pc' := 1) rfl rfl rfl ?_
  refine o_aloadN G0 d15_1 (pc' := 2) rfl rfl rfl ?_
  refine o_iconst G0 d15_2 (pc' := 3) rfl (v := (0 : Int32)) rfl ?_
  refine o_callV G0 (z := (⟨"java/lang/String", "startsWith", "(Ljava/lang/String;I)Z"⟩ : MethodName)) (argsL := [(.ref r1), (.int (0 : Int32))]) (rest := []) (W := 0) E_r0 (ow hw 71 rfl) (ow hw 73 rfl) (ow hw 72 rfl) (ow hw 74 rfl) d15_3 (by decide) (ow hw 9 rfl) (ow hw 75 rfl) (rm16_430e hw r0 r1 h0 n0 G0.sz cs hcs S b g E_r0 Fv_r0 Fc_r0 A_b c1 k E_r1 Fv_r1 Fc_r1 A_c1 hq) (by decide) (by decide) rfl (lenOf pd_10 rfl) rfl (Nat.le_of_eq rfl) (pc' := 6) rfl (by decide) (by decide) ?_
  rintro _ T1 h1 G1 ⟨rfl, hh⟩
  subst hh
  show OFin _ _ _ _ T1 (mkF m 6 #[.val (.ref r0), .val (.ref r1)] [(.int (1 : Int32))])
  exact o_nreturn (t := .boolean) G1 (by simp) d15_6 ⟨rfl, rfl⟩ (by decide) (by decide)
theorem d21_0 : decode jdk_31_method_11_code 0 = .ok (.aload_n 0, 1) := by decide +kernel
theorem d21_1 : decode jdk_31_method_11_code 1 = .ok (.ifnonnull 12, 3) := by decide +kernel
theorem d21_13 : decode jdk_31_method_11_code 13 = .ok (.aload_n 0, 1) := by decide +kernel
theorem d21_14 : decode jdk_31_method_11_code 14 = .ok (.areturn, 1) := by decide +kernel
theorem pn_21 : plainName "java/util/Objects" = true := by first | (simp [plainName, overriddenIn]; done) | decide +kernel
theorem ef_21 (m : MethodId) (r0 : Addr) (r1 : Addr) : entryFrame m #[(.ref r0), (.ref r1)] 2 = mkF m 0 #[.val (.ref r0), .val (.ref r1)] [] := by first | (simp [entryFrame, mkF, argsToLocals, Value.category]; done) | rfl
set_option maxRecDepth 65536 in
set_option maxHeartbeats 40000000 in
theorem rm21 {l : Launch} {Z : State} {a0 : Array Value} (hw : ∀ d ∈ tables_1, d.before a0 Z = true) (r0 : Addr) (r1 : Addr) (h0 : Heap) (n0 : Nat) (hz : n0 ≤ h0.size) :
    OMet l Z (⟨"java/util/Objects", "requireNonNull", "(Ljava/lang/Object;Ljava/lang/String;)Ljava/lang/Object;"⟩ : MethodName) jdk_31_method_11_code 2 (some (.object "java/lang/Object")) ({ frames := 0, cells := 0, slots := 0, locals := 0 } : Room) #[(.ref r0), (.ref r1)] h0 n0 ({ frames := 0, cells := 0, slots := 0, locals := 0 } : Room).cells ({ frames := 0, cells := 0, slots := 0, locals := 0 } : Room).slots (OVal h0 (.ref r0)) := by
  refine o_body (plainFor_of_name pn_21) hz (fun m => ef_21 m r0 r1) ?_
  intro p e s m below meth c s₁ G0
  refine o_aloadN G0 d21_0 (pc' := 1) rfl rfl rfl ?_
  refine o_ifnonnull G0 d21_1 (by decide) (pcT := 13) (by decide) ?_
  refine o_aloadN G0 d21_13 (pc' := 14) rfl rfl rfl ?_
  exact o_areturn G0 rfl rfl rfl d21_14 ⟨rfl, rfl⟩ (by decide) (by decide)
theorem d24_0 : decode jdk_68_method_2_code 0 = .ok (.aload_n 0, 1) := by decide +kernel
theorem d24_1 : decode jdk_68_method_2_code 1 = .ok (.invokespecial 3, 3) := by decide +kernel
theorem d24_4 : decode jdk_68_method_2_code 4 = .ok (.getstatic 18, 3) := by decide +kernel
theorem d24_7 : decode jdk_68_method_2_code 7 = .ok (.ifCond .eq 18, 3) := by decide +kernel
theorem d24_10 : decode jdk_68_method_2_code 10 = .ok (.aload_n 0, 1) := by decide +kernel
theorem d24_11 : decode jdk_68_method_2_code 11 = .ok (.iload_n 1, 1) := by decide +kernel
theorem d24_12 : decode jdk_68_method_2_code 12 = .ok (.newarray .byte, 2) := by decide +kernel
theorem d24_14 : decode jdk_68_method_2_code 14 = .ok (.putfield 15, 3) := by decide +kernel
theorem d24_17 : decode jdk_68_method_2_code 17 = .ok (.aload_n 0, 1) := by decide +kernel
theorem d24_18 : decode jdk_68_method_2_code 18 = .ok (.iconst 0, 1) := by decide +kernel
theorem d24_19 : decode jdk_68_method_2_code 19 = .ok (.putfield 22, 3) := by decide +kernel
theorem d24_22 : decode jdk_68_method_2_code 22 = .ok (.goto 16, 3) := by decide +kernel
theorem d24_38 : decode jdk_68_method_2_code 38 = .ok (.return_, 1) := by decide +kernel
theorem pn_24 : plainName "java/lang/AbstractStringBuilder" = true := by first | (simp [plainName, overriddenIn]; done) | decide +kernel
theorem ef_24 (m : MethodId) (r0 : Addr) (p1 : Int32) : entryFrame m #[(.ref r0), (.int p1)] 2 = mkF m 0 #[.val (.ref r0), .val (.int p1)] [] := by first | (simp [entryFrame, mkF, argsToLocals, Value.category]; done) | rfl
set_option maxRecDepth 65536 in
set_option maxHeartbeats 40000000 in
theorem rm24 {l : Launch} {Z : State} {a0 : Array Value} (hw : ∀ d ∈ tables_1, d.before a0 Z = true) (r0 : Addr) (h0 : Heap) (n0 : Nat) (hz : n0 ≤ h0.size) (g_r0 : n0 ≤ r0) (E_r0 : Exa Z h0 r0 "java/lang/StringBuilder") (F_value : Fld Z h0 r0 "java/lang/AbstractStringBuilder" "value" "[B" .null) (F_coder : Fld Z h0 r0 "java/lang/AbstractStringBuilder" "coder" "B" (.int (0 : Int32))) (F_count : Fld Z h0 r0 "java/lang/AbstractStringBuilder" "count" "I" (.int (0 : Int32))) (cs : Int32) (hcs : ¬ cs = 0) (S : Sta Z h0 "java/lang/String" "COMPACT_STRINGS" "Z" (.int cs)) :
    OMet l Z (⟨"java/lang/AbstractStringBuilder", "<init>", "(I)V"⟩ : MethodName) jdk_68_method_2_code 2 none ({ frames := 1, cells := 1, slots := 16, locals := 12 } : Room) #[(.ref r0), (.int (16 : Int32))] h0 n0 ({ frames := 1, cells := 1, slots := 16, locals := 12 } : Room).cells ({ frames := 1, cells := 1, slots := 16, locals := 12 } : Room).slots (fun v h => v = none ∧ Keep h0 h [r0] ∧ ∃ b : Addr, n0 ≤ b ∧ h0.size ≤ b ∧ Fld Z h r0 "java/lang/AbstractStringBuilder" "value" "[B" (.ref b) ∧ Fld Z h r0 "java/lang/AbstractStringBuilder" "coder" "B" (.int (0 : Int32)) ∧ Fld Z h r0 "java/lang/AbstractStringBuilder" "count" "I" (.int (0 : Int32)) ∧ OArr Z h b .byte 16 (fun j => .int (own_by ((fun _ => 0) j)))) := by
  refine o_body (plainFor_of_name pn_24) hz (fun m => ef_24 m r0 (16 : Int32)) ?_
  intro p e s m below meth c s₁ G0
  have K : Keep h0 h0 [r0] := Keep.refl _ _
  refine o_aloadN G0 d24_0 (pc' := 1) rfl rfl rfl ?_
  refine o_initO G0 (ow hw 127 rfl) (ow hw 27 rfl) (ow hw 28 rfl) d24_1 (pc' := 4) rfl rfl (by decide) (W := 0) (Nat.le_of_eq rfl) (by decide) ?_
  intro T1 G1
  refine o_getS G1 (host := "") (Or.inl (ow hw 128 rfl)) Via.refl S d24_4 (pc' := 7) rfl ?_
  intro T2 G2
  refine o_if_eq G2 d24_7 (by decide) (pcT := 25) (by decide) (pc' := 10) rfl (fun q => absurd q hcs) (fun _ => ?_)
  refine o_aloadN G2 d24_10 (pc' := 11) rfl rfl rfl ?_
  refine o_iloadN G2 d24_11 (pc' := 12) rfl rfl ?_
  refine o_newarray G2 (N := 16) (cap := 16) (ow hw 21 rfl) rfl (by decide) (by decide) d24_12 (pc' := 14) rfl (by decide) (by decide) ?_
  intro T3 h3 b3 G3 g3 g_b3 E3 A_b3
  have ne_r0_b3 : r0 ≠ b3 := Nat.ne_of_lt (Nat.lt_of_lt_of_eq E_r0.lt g3.symm)
  have sz_b3 : h0.size ≤ b3 := Nat.le_trans K.1 (Nat.le_of_eq g3.symm)
  replace K := K.ext E3
  replace S := S.ext E3
  replace E_r0 := E_r0.ext E3
  replace F_value := F_value.ext E3
  replace F_coder := F_coder.ext E3
  replace F_count := F_count.ext E3
  replace A_b3 : OArr Z h3 b3 .byte 16 (fun _ => (.int (0 : Int32))) := A_b3
  refine o_putF G3 (host := "") (Or.inl (ow hw 129 rfl)) Via.refl F_value E_r0 (Or.inl (ow hw 130 rfl)) (ow hw 116 rfl) (ty := (.array .byte)) (by decide) rfl rfl g_r0 d24_14 (pc' := 17) rfl ?_
  intro T4 h4 G4 W4
  replace K := K.wr W4 (Or.inl (List.mem_of_getElem? (i := 0) rfl))
  replace S := S.wr W4
  replace E_r0 := E_r0.wr W4
  replace F_value := F_value.same W4
  replace F_coder := F_coder.other W4 (Or.inr (slot_ne (Or.inl (ow hw 132 rfl)) (Or.inl (ow hw 130 rfl)) (by decide) (t := .byte) (t' := (.array .byte)) (by decide) (by decide)))
  replace F_count := F_count.other W4 (Or.inr (slot_ne (Or.inl (ow hw 145 rfl)) (Or.inl (ow hw 130 rfl)) (by decide) (t := .int) (t' := (.array .byte)) (by decide) (by decide)))
  replace A_b3 := A_b3.other W4 (Ne.symm ne_r0_b3)
  refine o_aloadN G4 d24_17 (pc' := 18) rfl rfl rfl ?_
  refine o_iconst G4 d24_18 (pc' := 19) rfl (v := (0 : Int32)) rfl ?_
  refine o_putF G4 (host := "") (Or.inl (ow hw 131 rfl)) Via.refl F_coder E_r0 (Or.inl (ow hw 132 rfl)) (ow hw 116 rfl) (ty := .byte) (by decide) rfl rfl g_r0 d24_19 (pc' := 22) rfl ?_
  intro T5 h5 G5 W5
  replace K := K.wr W5 (Or.inl (List.mem_of_getElem? (i := 0) rfl))
  replace S := S.wr W5
  replace E_r0 := E_r0.wr W5
  replace F_value := F_value.other W5 (Or.inr (slot_ne (Or.inl (ow hw 130 rfl)) (Or.inl (ow hw 132 rfl)) (by decide) (t := (.array .byte)) (t' := .byte) (by decide) (by decide)))
  replace F_coder := F_coder.same W5
  replace F_count := F_count.other W5 (Or.inr (slot_ne (Or.inl (ow hw 145 rfl)) (Or.inl (ow hw 132 rfl)) (by decide) (t := .int) (t' := .byte) (by decide) (by decide)))
  replace A_b3 := A_b3.other W5 (Ne.symm ne_r0_b3)
  refine o_goto G5 d24_22 (by decide) (pc' := 38) rfl ?_
  exact o_return G5 d24_38 ⟨rfl, K, b3, g_b3, sz_b3, F_value, F_coder, F_count, A_b3⟩ (by decide) (by decide)
theorem d23_0 : decode jdk_67_method_1_code 0 = .ok (.aload_n 0, 1) := by decide +kernel
theorem d23_1 : decode jdk_67_method_1_code 1 = .ok (.bipush 16, 2) := by decide +kernel
theorem d23_3 : decode jdk_67_method_1_code 3 = .ok (.invokespecial 1, 3) := by decide +kernel
theorem d23_6 : decode jdk_67_method_1_code 6 = .ok (.return_, 1) := by decide +kernel
theorem pn_23 : plainName "java/lang/StringBuilder" = true := by first | (simp [plainName, overriddenIn]; done) | decide +kernel
theorem ef_23 (m : MethodId) (r0 : Addr) : entryFrame m #[(.ref r0)] 1 = mkF m 0 #[.val (.ref r0)] [] := by first | (simp [entryFrame, mkF, argsToLocals, Value.category]; done) | rfl
set_option maxRecDepth 65536 in
set_option maxHeartbeats 40000000 in
theorem rm23 {l : Launch} {Z : State} {a0 : Array Value} (hw : ∀ d ∈ tables_1, d.before a0 Z = true) (r0 : Addr) (h0 : Heap) (n0 : Nat) (hz : n0 ≤ h0.size) (g_r0 : n0 ≤ r0) (E_r0 : Exa Z h0 r0 "java/lang/StringBuilder") (F_value : Fld Z h0 r0 "java/lang/AbstractStringBuilder" "value" "[B" .null) (F_coder : Fld Z h0 r0 "java/lang/AbstractStringBuilder" "coder" "B" (.int (0 : Int32))) (F_count : Fld Z h0 r0 "java/lang/AbstractStringBuilder" "count" "I" (.int (0 : Int32))) (cs : Int32) (hcs : ¬ cs = 0) (S : Sta Z h0 "java/lang/String" "COMPACT_STRINGS" "Z" (.int cs)) :
    OMet l Z (⟨"java/lang/StringBuilder", "<init>", "()V"⟩ : MethodName) jdk_67_method_1_code 1 none ({ frames := 2, cells := 1, slots := 16, locals := 25 } : Room) #[(.ref r0)] h0 n0 ({ frames := 2, cells := 1, slots := 16, locals := 25 } : Room).cells ({ frames := 2, cells := 1, slots := 16, locals := 25 } : Room).slots (fun v h => v = none ∧ Keep h0 h [r0] ∧ ∃ b : Addr, n0 ≤ b ∧ h0.size ≤ b ∧ Fld Z h r0 "java/lang/AbstractStringBuilder" "value" "[B" (.ref b) ∧ Fld Z h r0 "java/lang/AbstractStringBuilder" "coder" "B" (.int (0 : Int32)) ∧ Fld Z h r0 "java/lang/AbstractStringBuilder" "count" "I" (.int (0 : Int32)) ∧ OArr Z h b .byte 16 (fun j => .int (own_by ((fun _ => 0) j)))) := by
  refine o_body (plainFor_of_name pn_23) hz (fun m => ef_23 m r0) ?_
  intro p e s m below meth c s₁ G0
  have K : Keep h0 h0 [r0] := Keep.refl _ _
  refine o_aloadN G0 d23_0 (pc' := 1) rfl rfl rfl ?_
  refine o_bipush G0 d23_1 (pc' := 3) rfl (v := (16 : Int32)) rfl ?_
  refine o_callI G0 (z := (⟨"java/lang/AbstractStringBuilder", "<init>", "(I)V"⟩ : MethodName)) (argsL := [(.int (16 : Int32))]) (rest := []) (W := 0) (a := r0) rfl (ow hw 121 rfl) (ow hw 122 rfl) rfl d23_3 (by decide) (ow hw 125 rfl) (ow hw 126 rfl) (rm24 hw r0 h0 n0 G0.sz g_r0 E_r0 F_value F_coder F_count cs hcs S) (by decide) (by decide) rfl (lenOf pd_11 rfl) rfl (Nat.le_of_eq rfl) (pc' := 6) rfl (by decide) (by decide) ?_
  rintro _ T1 h1 G1 ⟨rfl, K1, hQ1⟩
  replace S := o_stak S K1 (allS E_r0.nostat all0)
  replace K := K.trans K1 (allS (Or.inl (List.mem_of_getElem? (i := 0) rfl)) all0)
  replace E_r0 := E_r0.keep K1
  show OFin _ _ _ _ T1 (mkF m 6 #[.val (.ref r0)] [])
  exact o_return G1 d23_6 ⟨rfl, K, hQ1⟩ (by decide) (by decide)
theorem d27_0 : decode jdk_68_method_9_code 0 = .ok (.aload_n 0, 1) := by decide +kernel
theorem d27_1 : decode jdk_68_method_9_code 1 = .ok (.getfield 15, 3) := by decide +kernel
theorem d27_4 : decode jdk_68_method_9_code 4 = .ok (.arraylength, 1) := by decide +kernel
theorem d27_5 : decode jdk_68_method_9_code 5 = .ok (.aload_n 0, 1) := by decide +kernel
theorem d27_6 : decode jdk_68_method_9_code 6 = .ok (.getfield 22, 3) := by decide +kernel
theorem d27_9 : decode jdk_68_method_9_code 9 = .ok (.ishr, 1) := by decide +kernel
theorem d27_10 : decode jdk_68_method_9_code 10 = .ok (.istore_n 2, 1) := by decide +kernel
theorem d27_11 : decode jdk_68_method_9_code 11 = .ok (.iload_n 1, 1) := by decide +kernel
theorem d27_12 : decode jdk_68_method_9_code 12 = .ok (.iload_n 2, 1) := by decide +kernel
theorem d27_13 : decode jdk_68_method_9_code 13 = .ok (.isub, 1) := by decide +kernel
theorem d27_14 : decode jdk_68_method_9_code 14 = .ok (.ifCond .le 24, 3) := by decide +kernel
theorem d27_38 : decode jdk_68_method_9_code 38 = .ok (.return_, 1) := by decide +kernel
theorem pn_27 : plainName "java/lang/AbstractStringBuilder" = true := by first | (simp [plainName, overriddenIn]; done) | decide +kernel
theorem ef_27 (m : MethodId) (r0 : Addr) (p1 : Int32) : entryFrame m #[(.ref r0), (.int p1)] 3 = mkF m 0 #[.val (.ref r0), .val (.int p1), .unset] [] := by first | (simp [entryFrame, mkF, argsToLocals, Value.category]; done) | rfl
set_option maxRecDepth 65536 in
set_option maxHeartbeats 40000000 in
theorem rm27_1 {l : Launch} {Z : State} {a0 : Array Value} (hw : ∀ d ∈ tables_1, d.before a0 Z = true) (r0 : Addr) (h0 : Heap) (n0 : Nat) (hz : n0 ≤ h0.size) (vb : Addr) (E_r0 : Exa Z h0 r0 "java/lang/StringBuilder") (F_value : Fld Z h0 r0 "java/lang/AbstractStringBuilder" "value" "[B" (.ref vb)) (F_coder : Fld Z h0 r0 "java/lang/AbstractStringBuilder" "coder" "B" (.int (0 : Int32))) (w : Nat → Int32) (A_vb : OArr Z h0 vb .byte 16 (fun j => .int (own_by (w j)))) :
    OMet l Z (⟨"java/lang/AbstractStringBuilder", "ensureCapacityInternal", "(I)V"⟩ : MethodName) jdk_68_method_9_code 3 none ({ frames := 0, cells := 0, slots := 0, locals := 0 } : Room) #[(.ref r0), (.int (1 : Int32))] h0 n0 ({ frames := 0, cells := 0, slots := 0, locals := 0 } : Room).cells ({ frames := 0, cells := 0, slots := 0, locals := 0 } : Room).slots (fun v h => v = none ∧ h0 = h) := by
  refine o_body (plainFor_of_name pn_27) hz (fun m => ef_27 m r0 (1 : Int32)) ?_
  intro p e s m below meth c s₁ G0
  refine o_aloadN G0 d27_0 (pc' := 1) rfl rfl rfl ?_
  refine o_getF G0 (host := "") (Or.inl (ow hw 129 rfl)) Via.refl F_value d27_1 (pc' := 4) rfl ?_
  intro T1 G1
  refine o_arraylength G1 A_vb (v := (16 : Int32)) rfl d27_4 (pc' := 5) rfl ?_
  refine o_aloadN G1 d27_5 (pc' := 6) rfl rfl rfl ?_
  refine o_getF G1 (host := "") (Or.inl (ow hw 131 rfl)) Via.refl F_coder d27_6 (pc' := 9) rfl ?_
  intro T2 G2
  refine o_ishr G2 d27_9 (pc' := 10) rfl (v := (16 : Int32)) (by decide) ?_
  refine o_istoreN G2 d27_10 (pc' := 11) rfl (l' := #[.val (.ref r0), .val (.int (1 : Int32)), .val (.int (16 : Int32))]) rfl ?_
  refine o_iloadN G2 d27_11 (pc' := 12) rfl rfl ?_
  refine o_iloadN G2 d27_12 (pc' := 13) rfl rfl ?_
  refine o_isub G2 d27_13 (pc' := 14) rfl (v := (-15 : Int32)) (by decide) ?_
  refine o_if_le G2 d27_14 (by decide) (pcT := 38) (by decide) (pc' := 17) rfl (fun _ => ?_) (fun q => absurd q (by decide))
  exact o_return G2 d27_38 ⟨rfl, rfl⟩ (by decide) (by decide)
set_option maxRecDepth 65536 in
set_option maxHeartbeats 40000000 in
theorem rm27_3 {l : Launch} {Z : State} {a0 : Array Value} (hw : ∀ d ∈ tables_1, d.before a0 Z = true) (r0 : Addr) (h0 : Heap) (n0 : Nat) (hz : n0 ≤ h0.size) (vb : Addr) (E_r0 : Exa Z h0 r0 "java/lang/StringBuilder") (F_value : Fld Z h0 r0 "java/lang/AbstractStringBuilder" "value" "[B" (.ref vb)) (F_coder : Fld Z h0 r0 "java/lang/AbstractStringBuilder" "coder" "B" (.int (0 : Int32))) (w : Nat → Int32) (A_vb : OArr Z h0 vb .byte 16 (fun j => .int (own_by (w j)))) :
    OMet l Z (⟨"java/lang/AbstractStringBuilder", "ensureCapacityInternal", "(I)V"⟩ : MethodName) jdk_68_method_9_code 3 none ({ frames := 0, cells := 0, slots := 0, locals := 0 } : Room) #[(.ref r0), (.int (3 : Int32))] h0 n0 ({ frames := 0, cells := 0, slots := 0, locals := 0 } : Room).cells ({ frames := 0, cells := 0, slots := 0, locals := 0 } : Room).slots (fun v h => v = none ∧ h0 = h) := by
  refine o_body (plainFor_of_name pn_27) hz (fun m => ef_27 m r0 (3 : Int32)) ?_
  intro p e s m below meth c s₁ G0
  refine o_aloadN G0 d27_0 (pc' := 1) rfl rfl rfl ?_
  refine o_getF G0 (host := "") (Or.inl (ow hw 129 rfl)) Via.refl F_value d27_1 (pc' := 4) rfl ?_
  intro T1 G1
  refine o_arraylength G1 A_vb (v := (16 : Int32)) rfl d27_4 (pc' := 5) rfl ?_
  refine o_aloadN G1 d27_5 (pc' := 6) rfl rfl rfl ?_
  refine o_getF G1 (host := "") (Or.inl (ow hw 131 rfl)) Via.refl F_coder d27_6 (pc' := 9) rfl ?_
  intro T2 G2
  refine o_ishr G2 d27_9 (pc' := 10) rfl (v := (16 : Int32)) (by decide) ?_
  refine o_istoreN G2 d27_10 (pc' := 11) rfl (l' := #[.val (.ref r0), .val (.int (3 : Int32)), .val (.int (16 : Int32))]) rfl ?_
  refine o_iloadN G2 d27_11 (pc' := 12) rfl rfl ?_
  refine o_iloadN G2 d27_12 (pc' := 13) rfl rfl ?_
  refine o_isub G2 d27_13 (pc' := 14) rfl (v := (-13 : Int32)) (by decide) ?_
  refine o_if_le G2 d27_14 (by decide) (pcT := 38) (by decide) (pc' := 17) rfl (fun _ => ?_) (fun q => absurd q (by decide))
  exact o_return G2 d27_38 ⟨rfl, rfl⟩ (by decide) (by decide)
theorem d29_0 : decode jdk_68_method_71_code 0 = .ok (.getstatic 18, 3) := by decide +kernel
theorem d29_3 : decode jdk_68_method_71_code 3 = .ok (.ifCond .eq 18, 3) := by decide +kernel
theorem d29_6 : decode jdk_68_method_71_code 6 = .ok (.aload_n 0, 1) := by decide +kernel
theorem d29_7 : decode jdk_68_method_71_code 7 = .ok (.getfield 22, 3) := by decide +kernel
theorem d29_10 : decode jdk_68_method_71_code 10 = .ok (.aload_n 1, 1) := by decide +kernel
theorem d29_11 : decode jdk_68_method_71_code 11 = .ok (.invokevirtual 40, 3) := by decide +kernel
theorem d29_14 : decode jdk_68_method_71_code 14 = .ok (.if_icmp .eq 7, 3) := by decide +kernel
theorem d29_21 : decode jdk_68_method_71_code 21 = .ok (.return_, 1) := by decide +kernel
theorem pn_29 : plainName "java/lang/AbstractStringBuilder" = true := by first | (simp [plainName, overriddenIn]; done) | decide +kernel
theorem ef_29 (m : MethodId) (r0 : Addr) (r1 : Addr) : entryFrame m #[(.ref r0), (.ref r1)] 2 = mkF m 0 #[.val (.ref r0), .val (.ref r1)] [] := by first | (simp [entryFrame, mkF, argsToLocals, Value.category]; done) | rfl
set_option maxRecDepth 65536 in
set_option maxHeartbeats 40000000 in
theorem rm29 {l : Launch} {Z : State} {a0 : Array Value} (hw : ∀ d ∈ tables_1, d.before a0 Z = true) (r0 : Addr) (r1 : Addr) (h0 : Heap) (n0 : Nat) (hz : n0 ≤ h0.size) (cs : Int32) (hcs : ¬ cs = 0) (S : Sta Z h0 "java/lang/String" "COMPACT_STRINGS" "Z" (.int cs)) (E_r0 : Exa Z h0 r0 "java/lang/StringBuilder") (F_coder : Fld Z h0 r0 "java/lang/AbstractStringBuilder" "coder" "B" (.int (0 : Int32))) (E_r1 : Exa Z h0 r1 "java/lang/String") (Fc_r1 : Fld Z h0 r1 "java/lang/String" "coder" "B" (.int (0 : Int32))) :
    OMet l Z (⟨"java/lang/AbstractStringBuilder", "inflateIfNeededFor", "(Ljava/lang/String;)V"⟩ : MethodName) jdk_68_method_71_code 2 none ({ frames := 1, cells := 0, slots := 0, locals := 13 } : Room) #[(.ref r0), (.ref r1)] h0 n0 ({ frames := 1, cells := 0, slots := 0, locals := 13 } : Room).cells ({ frames := 1, cells := 0, slots := 0, locals := 13 } : Room).slots (fun v h => v = none ∧ h0 = h) := by
  refine o_body (plainFor_of_name pn_29) hz (fun m => ef_29 m r0 r1) ?_
  intro p e s m below meth c s₁ G0
  refine o_getS G0 (host := "") (Or.inl (ow hw 128 rfl)) Via.refl S d29_0 (pc' := 3) rfl ?_
  intro T1 G1
  refine o_if_eq G1 d29_3 (by decide) (pcT := 21) (by decide) (pc' := 6) rfl (fun q => absurd q hcs) (fun _ => ?_)
  refine o_aloadN G1 d29_6 (pc' := 7) rfl rfl rfl ?_
  refine o_getF G1 (host := "") (Or.inl (ow hw 131 rfl)) Via.refl F_coder d29_7 (pc' := 10) rfl ?_
  intro T2 G2
  refine o_aloadN G2 d29_10 (pc' := 11) rfl rfl rfl ?_
  refine o_callV G2 (z := (⟨"java/lang/String", "coder", "()B"⟩ : MethodName)) (argsL := []) (rest := [(.int (0 : Int32))]) (W := 1) E_r1 (ow hw 161 rfl) (ow hw 83 rfl) (ow hw 82 rfl) (ow hw 84 rfl) d29_11 (by decide) (ow hw 9 rfl) (ow hw 85 rfl) (rm18 hw r1 h0 n0 G2.sz cs hcs S Fc_r1) (by decide) (by decide) rfl (lenOf pd_7 rfl) rfl (Nat.le_of_eq rfl) (pc' := 14) rfl (by decide) (by decide) ?_
  rintro _ T3 h3 G3 ⟨rfl, hh⟩
  subst hh
  show OFin _ _ _ _ T3 (mkF m 14 #[.val (.ref r0), .val (.ref r1)] [(.int (0 : Int32)), (.int (0 : Int32))])
  refine o_icmp_eq G3 d29_14 (by decide) (pcT := 21) (by decide) (pc' := 17) rfl (fun _ => ?_) (fun q => absurd (by decide) q)
  exact o_return G3 d29_21 ⟨rfl, rfl⟩ (by decide) (by decide)
theorem own_cp {f g : Nat → Int32} (P : Prop) [Decidable P] (a b : Nat) : (if P then (Value.int (own_by (f a))) else .int (own_by (g b))) = .int (own_by (if P then f a else g b)) := by split <;> rfl
theorem d30_0 : decode jdk_42_method_147_code 0 = .ok (.aload_n 0, 1) := by decide +kernel
theorem d30_1 : decode jdk_42_method_147_code 1 = .ok (.invokevirtual 335, 3) := by decide +kernel
theorem d30_4 : decode jdk_42_method_147_code 4 = .ok (.iload_n 3, 1) := by decide +kernel
theorem d30_5 : decode jdk_42_method_147_code 5 = .ok (.if_icmp .ne 23, 3) := by decide +kernel
theorem d30_8 : decode jdk_42_method_147_code 8 = .ok (.aload_n 0, 1) := by decide +kernel
theorem d30_9 : decode jdk_42_method_147_code 9 = .ok (.getfield 9, 3) := by decide +kernel
theorem d30_12 : decode jdk_42_method_147_code 12 = .ok (.iconst 0, 1) := by decide +kernel
theorem d30_13 : decode jdk_42_method_147_code 13 = .ok (.aload_n 1, 1) := by decide +kernel
theorem d30_14 : decode jdk_42_method_147_code 14 = .ok (.iload_n 2, 1) := by decide +kernel
theorem d30_15 : decode jdk_42_method_147_code 15 = .ok (.iload_n 3, 1) := by decide +kernel
theorem d30_16 : decode jdk_42_method_147_code 16 = .ok (.ishl, 1) := by decide +kernel
theorem d30_17 : decode jdk_42_method_147_code 17 = .ok (.aload_n 0, 1) := by decide +kernel
theorem d30_18 : decode jdk_42_method_147_code 18 = .ok (.getfield 9, 3) := by decide +kernel
theorem d30_21 : decode jdk_42_method_147_code 21 = .ok (.arraylength, 1) := by decide +kernel
theorem d30_22 : decode jdk_42_method_147_code 22 = .ok (.invokestatic 212, 3) := by decide +kernel
theorem d30_25 : decode jdk_42_method_147_code 25 = .ok (.goto 18, 3) := by decide +kernel
theorem d30_43 : decode jdk_42_method_147_code 43 = .ok (.return_, 1) := by decide +kernel
theorem pn_30 : plainName "java/lang/String" = true := by first | (simp [plainName, overriddenIn]; done) | decide +kernel
theorem ef_30 (m : MethodId) (r0 : Addr) (r1 : Addr) (p2 : Int32) (p3 : Int32) : entryFrame m #[(.ref r0), (.ref r1), (.int p2), (.int p3)] 4 = mkF m 0 #[.val (.ref r0), .val (.ref r1), .val (.int p2), .val (.int p3)] [] := by first | (simp [entryFrame, mkF, argsToLocals, Value.category]; done) | rfl
set_option maxRecDepth 65536 in
set_option maxHeartbeats 40000000 in
theorem rm30_01 {l : Launch} {Z : State} {a0 : Array Value} (hw : ∀ d ∈ tables_1, d.before a0 Z = true) (r0 : Addr) (r1 : Addr) (h0 : Heap) (n0 : Nat) (hz : n0 ≤ h0.size) (cs : Int32) (hcs : ¬ cs = 0) (S : Sta Z h0 "java/lang/String" "COMPACT_STRINGS" "Z" (.int cs)) (b : Addr) (g : Nat → Int32) (E_r0 : Exa Z h0 r0 "java/lang/String") (Fv_r0 : Fld Z h0 r0 "java/lang/String" "value" "[B" (.ref b)) (Fc_r0 : Fld Z h0 r0 "java/lang/String" "coder" "B" (.int (0 : Int32))) (A_b : OArr Z h0 b .byte 1 (fun j => .int (own_by (g j)))) (g_r1 : n0 ≤ r1) (n1 : r0 ≠ r1) (n2 : b ≠ r1) (w : Nat → Int32) (A_r1 : OArr Z h0 r1 .byte 16 (fun j => .int (own_by (w j)))) :
    OMet l Z (⟨"java/lang/String", "getBytes", "([BIB)V"⟩ : MethodName) jdk_42_method_147_code 4 none ({ frames := 1, cells := 0, slots := 0, locals := 24 } : Room) #[(.ref r0), (.ref r1), (.int (0 : Int32)), (.int (0 : Int32))] h0 n0 ({ frames := 1, cells := 0, slots := 0, locals := 24 } : Room).cells ({ frames := 1, cells := 0, slots := 0, locals := 24 } : Room).slots (fun v h => v = none ∧ Keep h0 h [r1] ∧ OArr Z h r1 .byte 16 (fun j => .int (own_by ((fun j => if 0 ≤ j ∧ j < 0 + 1 then g (0 + (j - 0)) else w j) j)))) := by
  refine o_body (plainFor_of_name pn_30) hz (fun m => ef_30 m r0 r1 (0 : Int32) (0 : Int32)) ?_
  intro p e s m below meth c s₁ G0
  have K : Keep h0 h0 [r1] := Keep.refl _ _
  refine o_aloadN G0 d30_0 (pc' := 1) rfl rfl rfl ?_
  refine o_callV G0 (z := (⟨"java/lang/String", "coder", "()B"⟩ : MethodName)) (argsL := []) (rest := []) (W := 0) E_r0 (ow hw 81 rfl) (ow hw 83 rfl) (ow hw 82 rfl) (ow hw 84 rfl) d30_1 (by decide) (ow hw 9 rfl) (ow hw 85 rfl) (rm18 hw r0 h0 n0 G0.sz cs hcs S Fc_r0) (by decide) (by decide) rfl (lenOf pd_7 rfl) rfl (Nat.le_of_eq rfl) (pc' := 4) rfl (by decide) (by decide) ?_
  rintro _ T1 h1 G1 ⟨rfl, hh⟩
  subst hh
  show OFin _ _ _ _ T1 (mkF m 4 #[.val (.ref r0), .val (.ref r1), .val (.int (0 : Int32)), .val (.int (0 : Int32))] [(.int (0 : Int32))])
  refine o_iloadN G1 d30_4 (pc' := 5) rfl rfl ?_
  refine o_icmp_ne G1 d30_5 (by decide) (pcT := 28) (by decide) (pc' := 8) rfl (fun q => absurd (by decide) q) (fun _ => ?_)
  refine o_aloadN G1 d30_8 (pc' := 9) rfl rfl rfl ?_
  refine o_getF G1 (host := "") (Or.inl (ow hw 29 rfl)) Via.refl Fv_r0 d30_9 (pc' := 12) rfl ?_
  intro T2 G2
  refine o_iconst G2 d30_12 (pc' := 13) rfl (v := (0 : Int32)) rfl ?_
  refine o_aloadN G2 d30_13 (pc' := 14) rfl rfl rfl ?_
  refine o_iloadN G2 d30_14 (pc' := 15) rfl rfl ?_
  refine o_iloadN G2 d30_15 (pc' := 16) rfl rfl ?_
  refine o_ishl G2 d30_16 (pc' := 17) rfl (v := (0 : Int32)) (by decide) ?_
  refine o_aloadN G2 d30_17 (pc' := 18) rfl rfl rfl ?_
  refine o_getF G2 (host := "") (Or.inl (ow hw 29 rfl)) Via.refl Fv_r0 d30_18 (pc' := 21) rfl ?_
  intro T3 G3
  refine o_arraylength G3 A_b (v := (1 : Int32)) rfl d30_21 (pc' := 22) rfl ?_
  refine o_acopy G3 (S := 0) (D := 0) (L := 1) (rest := []) A_b A_r1 (by intro i _; first | exact fits_nar_byte _ | rfl | (simp only [o_set]; (repeat' split) <;> rfl)) (by intro i _; first | exact fits_nar_byte _ | rfl | (simp only [o_set]; (repeat' split) <;> rfl)) (by decide) (by decide) rfl rfl rfl rfl (by decide) (by decide) (ow hw 167 rfl) (ow hw 170 rfl) (ow hw 168 rfl) (ow hw 169 rfl) g_r1 rfl d30_22 (pc' := 25) rfl (by decide) (W := 0) (Nat.le_of_eq rfl) (by decide) ?_
  intro T4 h4 c4 G4 K4 A4 Q4
  replace S := o_stak S K4 (allS A_r1.nostat all0)
  replace K := K.trans K4 (allS (Or.inl (List.mem_of_getElem? (i := 0) rfl)) all0)
  replace E_r0 := E_r0.keep K4
  replace Fv_r0 := Fv_r0.keep K4 (ninS n1 nin0)
  replace Fc_r0 := Fc_r0.keep K4 (ninS n1 nin0)
  replace A_b := A_b.keep K4 (ninS n2 nin0)
  have A_r1 := A4
  refine o_goto G4 d30_25 (by decide) (pc' := 43) rfl ?_
  exact o_return G4 d30_43 ⟨rfl, K, (A_r1.congr (by intro j hj; rw [Q4 j hj]; exact own_cp (f := g) (g := w) _ _ _))⟩ (by decide) (by decide)
theorem d28_0 : decode jdk_68_method_73_code 0 = .ok (.aload_n 0, 1) := by decide +kernel
theorem d28_1 : decode jdk_68_method_73_code 1 = .ok (.aload_n 2, 1) := by decide +kernel
theorem d28_2 : decode jdk_68_method_73_code 2 = .ok (.invokevirtual 397, 3) := by decide +kernel
theorem d28_5 : decode jdk_68_method_73_code 5 = .ok (.aload_n 2, 1) := by decide +kernel
theorem d28_6 : decode jdk_68_method_73_code 6 = .ok (.aload_n 0, 1) := by decide +kernel
theorem d28_7 : decode jdk_68_method_73_code 7 = .ok (.getfield 15, 3) := by decide +kernel
theorem d28_10 : decode jdk_68_method_73_code 10 = .ok (.iload_n 1, 1) := by decide +kernel
theorem d28_11 : decode jdk_68_method_73_code 11 = .ok (.aload_n 0, 1) := by decide +kernel
theorem d28_12 : decode jdk_68_method_73_code 12 = .ok (.getfield 22, 3) := by decide +kernel
theorem d28_15 : decode jdk_68_method_73_code 15 = .ok (.invokevirtual 399, 3) := by decide +kernel
theorem d28_18 : decode jdk_68_method_73_code 18 = .ok (.return_, 1) := by decide +kernel
theorem pn_28 : plainName "java/lang/AbstractStringBuilder" = true := by first | (simp [plainName, overriddenIn]; done) | decide +kernel
theorem ef_28 (m : MethodId) (r0 : Addr) (p1 : Int32) (r2 : Addr) : entryFrame m #[(.ref r0), (.int p1), (.ref r2)] 3 = mkF m 0 #[.val (.ref r0), .val (.int p1), .val (.ref r2)] [] := by first | (simp [entryFrame, mkF, argsToLocals, Value.category]; done) | rfl
set_option maxRecDepth 65536 in
set_option maxHeartbeats 40000000 in
theorem rm28_01 {l : Launch} {Z : State} {a0 : Array Value} (hw : ∀ d ∈ tables_1, d.before a0 Z = true) (r0 : Addr) (r2 : Addr) (h0 : Heap) (n0 : Nat) (hz : n0 ≤ h0.size) (cs : Int32) (hcs : ¬ cs = 0) (S : Sta Z h0 "java/lang/String" "COMPACT_STRINGS" "Z" (.int cs)) (vb : Addr) (E_r0 : Exa Z h0 r0 "java/lang/StringBuilder") (F_value : Fld Z h0 r0 "java/lang/AbstractStringBuilder" "value" "[B" (.ref vb)) (F_coder : Fld Z h0 r0 "java/lang/AbstractStringBuilder" "coder" "B" (.int (0 : Int32))) (g_vb : n0 ≤ vb) (w : Nat → Int32) (A_vb : OArr Z h0 vb .byte 16 (fun j => .int (own_by (w j)))) (b : Addr) (g : Nat → Int32) (E_r2 : Exa Z h0 r2 "java/lang/String") (Fv_r2 : Fld Z h0 r2 "java/lang/String" "value" "[B" (.ref b)) (Fc_r2 : Fld Z h0 r2 "java/lang/String" "coder" "B" (.int (0 : Int32))) (A_b : OArr Z h0 b .byte 1 (fun j => .int (own_by (g j)))) (n3 : r2 ≠ vb) (n4 : b ≠ vb) (n5 : r0 ≠ vb) :
    OMet l Z (⟨"java/lang/AbstractStringBuilder", "putStringAt", "(ILjava/lang/String;)V"⟩ : MethodName) jdk_68_method_73_code 3 none ({ frames := 2, cells := 0, slots := 0, locals := 39 } : Room) #[(.ref r0), (.int (0 : Int32)), (.ref r2)] h0 n0 ({ frames := 2, cells := 0, slots := 0, locals := 39 } : Room).cells ({ frames := 2, cells := 0, slots := 0, locals := 39 } : Room).slots (fun v h => v = none ∧ Keep h0 h [vb] ∧ OArr Z h vb .byte 16 (fun j => .int (own_by ((fun j => if 0 ≤ j ∧ j < 0 + 1 then g (0 + (j - 0)) else w j) j)))) := by
  refine o_body (plainFor_of_name pn_28) hz (fun m => ef_28 m r0 (0 : Int32) r2) ?_
  intro p e s m below meth c s₁ G0
  have K : Keep h0 h0 [vb] := Keep.refl _ _
  refine o_aloadN G0 d28_0 (pc' := 1) rfl rfl rfl ?_
  refine o_aloadN G0 d28_1 (pc' := 2) rfl rfl rfl ?_
  refine o_callPr2 G0 (z := (⟨"java/lang/AbstractStringBuilder", "inflateIfNeededFor", "(Ljava/lang/String;)V"⟩ : MethodName)) (argsL := [(.ref r2)]) (rest := []) (W := 0) E_r0 (ow hw 156 rfl) (ow hw 157 rfl) (ow hw 158 rfl) (ow hw 159 rfl) d28_2 (by decide) (ow hw 125 rfl) (ow hw 160 rfl) (rm29 hw r0 r2 h0 n0 G0.sz cs hcs S E_r0 F_coder E_r2 Fc_r2) (by decide) (by decide) rfl (lenOf pd_12 rfl) rfl (Nat.le_of_eq rfl) (pc' := 5) rfl (by decide) (by decide) ?_
  rintro _ T1 h1 G1 ⟨rfl, hh⟩
  subst hh
  show OFin _ _ _ _ T1 (mkF m 5 #[.val (.ref r0), .val (.int (0 : Int32)), .val (.ref r2)] [])
  refine o_aloadN G1 d28_5 (pc' := 6) rfl rfl rfl ?_
  refine o_aloadN G1 d28_6 (pc' := 7) rfl rfl rfl ?_
  refine o_getF G1 (host := "") (Or.inl (ow hw 129 rfl)) Via.refl F_value d28_7 (pc' := 10) rfl ?_
  intro T2 G2
  refine o_iloadN G2 d28_10 (pc' := 11) rfl rfl ?_
  refine o_aloadN G2 d28_11 (pc' := 12) rfl rfl rfl ?_
  refine o_getF G2 (host := "") (Or.inl (ow hw 131 rfl)) Via.refl F_coder d28_12 (pc' := 15) rfl ?_
  intro T3 G3
  refine o_callV G3 (z := (⟨"java/lang/String", "getBytes", "([BIB)V"⟩ : MethodName)) (argsL := [(.ref vb), (.int (0 : Int32)), (.int (0 : Int32))]) (rest := []) (W := 0) E_r2 (ow hw 162 rfl) (ow hw 164 rfl) (ow hw 163 rfl) (ow hw 165 rfl) d28_15 (by decide) (ow hw 9 rfl) (ow hw 166 rfl) (rm30_01 hw r2 vb h0 n0 G3.sz cs hcs S b g E_r2 Fv_r2 Fc_r2 A_b g_vb n3 n4 w A_vb) (by decide) (by decide) rfl (lenOf pd_13 rfl) rfl (Nat.le_of_eq rfl) (pc' := 18) rfl (by decide) (by decide) ?_
  rintro _ T4 h4 G4 ⟨rfl, K4, A4⟩
  replace S := o_stak S K4 (allS A_vb.nostat all0)
  replace K := K.trans K4 (allS (Or.inl (List.mem_of_getElem? (i := 0) rfl)) all0)
  replace E_r0 := E_r0.keep K4
  replace F_value := F_value.keep K4 (ninS n5 nin0)
  replace F_coder := F_coder.keep K4 (ninS n5 nin0)
  replace E_r2 := E_r2.keep K4
  replace Fv_r2 := Fv_r2.keep K4 (ninS n3 nin0)
  replace Fc_r2 := Fc_r2.keep K4 (ninS n3 nin0)
  replace A_b := A_b.keep K4 (ninS n4 nin0)
  show OFin _ _ _ _ T4 (mkF m 18 #[.val (.ref r0), .val (.int (0 : Int32)), .val (.ref r2)] [])
  exact o_return G4 d28_18 ⟨rfl, K, A4⟩ (by decide) (by decide)
theorem d26_0 : decode jdk_68_method_22_code 0 = .ok (.aload_n 1, 1) := by decide +kernel
theorem d26_1 : decode jdk_68_method_22_code 1 = .ok (.ifnonnull 8, 3) := by decide +kernel
theorem d26_9 : decode jdk_68_method_22_code 9 = .ok (.aload_n 1, 1) := by decide +kernel
theorem d26_10 : decode jdk_68_method_22_code 10 = .ok (.invokevirtual 32, 3) := by decide +kernel
theorem d26_13 : decode jdk_68_method_22_code 13 = .ok (.istore_n 2, 1) := by decide +kernel
theorem d26_14 : decode jdk_68_method_22_code 14 = .ok (.aload_n 0, 1) := by decide +kernel
theorem d26_15 : decode jdk_68_method_22_code 15 = .ok (.aload_n 0, 1) := by decide +kernel
theorem d26_16 : decode jdk_68_method_22_code 16 = .ok (.getfield 79, 3) := by decide +kernel
theorem d26_19 : decode jdk_68_method_22_code 19 = .ok (.iload_n 2, 1) := by decide +kernel
theorem d26_20 : decode jdk_68_method_22_code 20 = .ok (.iadd, 1) := by decide +kernel
theorem d26_21 : decode jdk_68_method_22_code 21 = .ok (.invokevirtual 100, 3) := by decide +kernel
theorem d26_24 : decode jdk_68_method_22_code 24 = .ok (.aload_n 0, 1) := by decide +kernel
theorem d26_25 : decode jdk_68_method_22_code 25 = .ok (.aload_n 0, 1) := by decide +kernel
theorem d26_26 : decode jdk_68_method_22_code 26 = .ok (.getfield 79, 3) := by decide +kernel
theorem d26_29 : decode jdk_68_method_22_code 29 = .ok (.aload_n 1, 1) := by decide +kernel
theorem d26_30 : decode jdk_68_method_22_code 30 = .ok (.invokevirtual 208, 3) := by decide +kernel
theorem d26_33 : decode jdk_68_method_22_code 33 = .ok (.aload_n 0, 1) := by decide +kernel
theorem d26_34 : decode jdk_68_method_22_code 34 = .ok (.dup, 1) := by decide +kernel
theorem d26_35 : decode jdk_68_method_22_code 35 = .ok (.getfield 79, 3) := by decide +kernel
theorem d26_38 : decode jdk_68_method_22_code 38 = .ok (.iload_n 2, 1) := by decide +kernel
theorem d26_39 : decode jdk_68_method_22_code 39 = .ok (.iadd, 1) := by decide +kernel
theorem d26_40 : decode jdk_68_method_22_code 40 = .ok (.putfield 79, 3) := by decide +kernel
theorem d26_43 : decode jdk_68_method_22_code 43 = .ok (.aload_n 0, 1) := by decide +kernel
theorem d26_44 : decode jdk_68_method_22_code 44 = .ok (.areturn, 1) := by decide +kernel
theorem pn_26 : plainName "java/lang/AbstractStringBuilder" = true := by first | (simp [plainName, overriddenIn]; done) | decide +kernel
theorem ef_26 (m : MethodId) (r0 : Addr) (r1 : Addr) : entryFrame m #[(.ref r0), (.ref r1)] 3 = mkF m 0 #[.val (.ref r0), .val (.ref r1), .unset] [] := by first | (simp [entryFrame, mkF, argsToLocals, Value.category]; done) | rfl
set_option maxRecDepth 65536 in
set_option maxHeartbeats 40000000 in
theorem rm26_01 {l : Launch} {Z : State} {a0 : Array Value} (hw : ∀ d ∈ tables_1, d.before a0 Z = true) (r0 : Addr) (r1 : Addr) (h0 : Heap) (n0 : Nat) (hz : n0 ≤ h0.size) (cs : Int32) (hcs : ¬ cs = 0) (S : Sta Z h0 "java/lang/String" "COMPACT_STRINGS" "Z" (.int cs)) (vb : Addr) (E_r0 : Exa Z h0 r0 "java/lang/StringBuilder") (F_value : Fld Z h0 r0 "java/lang/AbstractStringBuilder" "value" "[B" (.ref vb)) (F_coder : Fld Z h0 r0 "java/lang/AbstractStringBuilder" "coder" "B" (.int (0 : Int32))) (g_vb : n0 ≤ vb) (w : Nat → Int32) (A_vb : OArr Z h0 vb .byte 16 (fun j => .int (own_by (w j)))) (g_r0 : n0 ≤ r0) (F_count : Fld Z h0 r0 "java/lang/AbstractStringBuilder" "count" "I" (.int (0 : Int32))) (b : Addr) (g : Nat → Int32) (E_r1 : Exa Z h0 r1 "java/lang/String") (Fv_r1 : Fld Z h0 r1 "java/lang/String" "value" "[B" (.ref b)) (Fc_r1 : Fld Z h0 r1 "java/lang/String" "coder" "B" (.int (0 : Int32))) (A_b : OArr Z h0 b .byte 1 (fun j => .int (own_by (g j)))) (n1 : r1 ≠ r0) (n2 : b ≠ r0) (n3 : r1 ≠ vb) (n4 : b ≠ vb) (n5 : r0 ≠ vb) :
    OMet l Z (⟨"java/lang/AbstractStringBuilder", "append", "(Ljava/lang/String;)Ljava/lang/AbstractStringBuilder;"⟩ : MethodName) jdk_68_method_22_code 3 (some (.object "java/lang/AbstractStringBuilder")) ({ frames := 3, cells := 0, slots := 0, locals := 53 } : Room) #[(.ref r0), (.ref r1)] h0 n0 ({ frames := 3, cells := 0, slots := 0, locals := 53 } : Room).cells ({ frames := 3, cells := 0, slots := 0, locals := 53 } : Room).slots (fun v h => v = some (.ref r0) ∧ Keep h0 h [r0, vb] ∧ Fld Z h r0 "java/lang/AbstractStringBuilder" "value" "[B" (.ref vb) ∧ Fld Z h r0 "java/lang/AbstractStringBuilder" "coder" "B" (.int (0 : Int32)) ∧ Fld Z h r0 "java/lang/AbstractStringBuilder" "count" "I" (.int (1 : Int32)) ∧ OArr Z h vb .byte 16 (fun j => .int (own_by ((fun j => if 0 ≤ j ∧ j < 0 + 1 then g (0 + (j - 0)) else w j) j)))) := by
  refine o_body (plainFor_of_name pn_26) hz (fun m => ef_26 m r0 r1) ?_
  intro p e s m below meth c s₁ G0
  have K : Keep h0 h0 [r0, vb] := Keep.refl _ _
  refine o_aloadN G0 d26_0 (pc' := 1) rfl rfl rfl ?_
  refine o_ifnonnull G0 d26_1 (by decide) (pcT := 9) (by decide) ?_
  refine o_aloadN G0 d26_9 (pc' := 10) rfl rfl rfl ?_
  refine o_callV G0 (z := (⟨"java/lang/String", "length", "()I"⟩ : MethodName)) (argsL := []) (rest := []) (W := 0) E_r1 (ow hw 143 rfl) (ow hw 78 rfl) (ow hw 77 rfl) (ow hw 79 rfl) d26_10 (by decide) (ow hw 9 rfl) (ow hw 80 rfl) (rm17 hw r1 h0 n0 G0.sz cs hcs S 1 (1 : Int32) rfl (by decide) b g E_r1 Fv_r1 Fc_r1 A_b) (by decide) (by decide) rfl (lenOf pd_8 rfl) rfl (Nat.le_of_eq rfl) (pc' := 13) rfl (by decide) (by decide) ?_
  rintro _ T1 h1 G1 ⟨rfl, hh⟩
  subst hh
  show OFin _ _ _ _ T1 (mkF m 13 #[.val (.ref r0), .val (.ref r1), .unset] [(.int (1 : Int32))])
  refine o_istoreN G1 d26_13 (pc' := 14) rfl (l' := #[.val (.ref r0), .val (.ref r1), .val (.int (1 : Int32))]) rfl ?_
  refine o_aloadN G1 d26_14 (pc' := 15) rfl rfl rfl ?_
  refine o_aloadN G1 d26_15 (pc' := 16) rfl rfl rfl ?_
  refine o_getF G1 (host := "") (Or.inl (ow hw 144 rfl)) Via.refl F_count d26_16 (pc' := 19) rfl ?_
  intro T2 G2
  refine o_iloadN G2 d26_19 (pc' := 20) rfl rfl ?_
  refine o_iadd G2 d26_20 (pc' := 21) rfl (v := (1 : Int32)) (by decide) ?_
  refine o_callPr2 G2 (z := (⟨"java/lang/AbstractStringBuilder", "ensureCapacityInternal", "(I)V"⟩ : MethodName)) (argsL := [(.int (1 : Int32))]) (rest := []) (W := 0) E_r0 (ow hw 146 rfl) (ow hw 147 rfl) (ow hw 148 rfl) (ow hw 149 rfl) d26_21 (by decide) (ow hw 125 rfl) (ow hw 150 rfl) (rm27_1 hw r0 h0 n0 G2.sz vb E_r0 F_value F_coder w A_vb) (by decide) (by decide) rfl (lenOf pd_11 rfl) rfl (Nat.le_of_eq rfl) (pc' := 24) rfl (by decide) (by decide) ?_
  rintro _ T3 h3 G3 ⟨rfl, hh⟩
  subst hh
  show OFin _ _ _ _ T3 (mkF m 24 #[.val (.ref r0), .val (.ref r1), .val (.int (1 : Int32))] [])
  refine o_aloadN G3 d26_24 (pc' := 25) rfl rfl rfl ?_
  refine o_aloadN G3 d26_25 (pc' := 26) rfl rfl rfl ?_
  refine o_getF G3 (host := "") (Or.inl (ow hw 144 rfl)) Via.refl F_count d26_26 (pc' := 29) rfl ?_
  intro T4 G4
  refine o_aloadN G4 d26_29 (pc' := 30) rfl rfl rfl ?_
  refine o_callPr2 G4 (z := (⟨"java/lang/AbstractStringBuilder", "putStringAt", "(ILjava/lang/String;)V"⟩ : MethodName)) (argsL := [(.int (0 : Int32)), (.ref r1)]) (rest := []) (W := 0) E_r0 (ow hw 151 rfl) (ow hw 152 rfl) (ow hw 153 rfl) (ow hw 154 rfl) d26_30 (by decide) (ow hw 125 rfl) (ow hw 155 rfl) (rm28_01 hw r0 r1 h0 n0 G4.sz cs hcs S vb E_r0 F_value F_coder g_vb w A_vb b g E_r1 Fv_r1 Fc_r1 A_b n3 n4 n5) (by decide) (by decide) rfl (lenOf pd_14 rfl) rfl (Nat.le_of_eq rfl) (pc' := 33) rfl (by decide) (by decide) ?_
  rintro _ T5 h5 G5 ⟨rfl, K5, A5⟩
  replace S := o_stak S K5 (allS A_vb.nostat all0)
  replace K := K.trans K5 (allS (Or.inl (List.mem_of_getElem? (i := 1) rfl)) all0)
  replace E_r0 := E_r0.keep K5
  replace F_value := F_value.keep K5 (ninS n5 nin0)
  replace F_coder := F_coder.keep K5 (ninS n5 nin0)
  replace E_r1 := E_r1.keep K5
  replace Fv_r1 := Fv_r1.keep K5 (ninS n3 nin0)
  replace Fc_r1 := Fc_r1.keep K5 (ninS n3 nin0)
  replace A_b := A_b.keep K5 (ninS n4 nin0)
  replace F_count := F_count.keep K5 (ninS n5 nin0)
  show OFin _ _ _ _ T5 (mkF m 33 #[.val (.ref r0), .val (.ref r1), .val (.int (1 : Int32))] [])
  refine o_aloadN G5 d26_33 (pc' := 34) rfl rfl rfl ?_
  refine o_dup G5 d26_34 (pc' := 35) rfl rfl ?_
  refine o_getF G5 (host := "") (Or.inl (ow hw 144 rfl)) Via.refl F_count d26_35 (pc' := 38) rfl ?_
  intro T6 G6
  refine o_iloadN G6 d26_38 (pc' := 39) rfl rfl ?_
  refine o_iadd G6 d26_39 (pc' := 40) rfl (v := (1 : Int32)) (by decide) ?_
  refine o_putF G6 (host := "") (Or.inl (ow hw 144 rfl)) Via.refl F_count E_r0 (Or.inl (ow hw 145 rfl)) (ow hw 116 rfl) (ty := .int) (by decide) rfl rfl g_r0 d26_40 (pc' := 43) rfl ?_
  intro T7 h7 G7 W7
  replace K := K.wr W7 (Or.inl (List.mem_of_getElem? (i := 0) rfl))
  replace S := S.wr W7
  replace E_r0 := E_r0.wr W7
  replace F_value := F_value.other W7 (Or.inr (slot_ne (Or.inl (ow hw 130 rfl)) (Or.inl (ow hw 145 rfl)) (by decide) (t := (.array .byte)) (t' := .int) (by decide) (by decide)))
  replace F_coder := F_coder.other W7 (Or.inr (slot_ne (Or.inl (ow hw 132 rfl)) (Or.inl (ow hw 145 rfl)) (by decide) (t := .byte) (t' := .int) (by decide) (by decide)))
  replace E_r1 := E_r1.wr W7
  replace Fv_r1 := Fv_r1.other W7 (Or.inl n1)
  replace Fc_r1 := Fc_r1.other W7 (Or.inl n1)
  replace A_b := A_b.other W7 n2
  replace F_count := F_count.same W7
  replace A5 := A5.other W7 (Ne.symm n5)
  refine o_aloadN G7 d26_43 (pc' := 44) rfl rfl rfl ?_
  exact o_areturn G7 rfl rfl rfl d26_44 ⟨rfl, K, F_value, F_coder, F_count, A5⟩ (by decide) (by decide)
theorem d25_0 : decode jdk_67_method_7_code 0 = .ok (.aload_n 0, 1) := by decide +kernel
theorem d25_1 : decode jdk_67_method_7_code 1 = .ok (.aload_n 1, 1) := by decide +kernel
theorem d25_2 : decode jdk_67_method_7_code 2 = .ok (.invokespecial 29, 3) := by decide +kernel
theorem d25_5 : decode jdk_67_method_7_code 5 = .ok (.pop, 1) := by decide +kernel
theorem d25_6 : decode jdk_67_method_7_code 6 = .ok (.aload_n 0, 1) := by decide +kernel
theorem d25_7 : decode jdk_67_method_7_code 7 = .ok (.areturn, 1) := by decide +kernel
theorem pn_25 : plainName "java/lang/StringBuilder" = true := by first | (simp [plainName, overriddenIn]; done) | decide +kernel
theorem ef_25 (m : MethodId) (r0 : Addr) (r1 : Addr) : entryFrame m #[(.ref r0), (.ref r1)] 2 = mkF m 0 #[.val (.ref r0), .val (.ref r1)] [] := by first | (simp [entryFrame, mkF, argsToLocals, Value.category]; done) | rfl
set_option maxRecDepth 65536 in
set_option maxHeartbeats 40000000 in
theorem rm25_01 {l : Launch} {Z : State} {a0 : Array Value} (hw : ∀ d ∈ tables_1, d.before a0 Z = true) (r0 : Addr) (r1 : Addr) (h0 : Heap) (n0 : Nat) (hz : n0 ≤ h0.size) (cs : Int32) (hcs : ¬ cs = 0) (S : Sta Z h0 "java/lang/String" "COMPACT_STRINGS" "Z" (.int cs)) (vb : Addr) (E_r0 : Exa Z h0 r0 "java/lang/StringBuilder") (F_value : Fld Z h0 r0 "java/lang/AbstractStringBuilder" "value" "[B" (.ref vb)) (F_coder : Fld Z h0 r0 "java/lang/AbstractStringBuilder" "coder" "B" (.int (0 : Int32))) (g_vb : n0 ≤ vb) (w : Nat → Int32) (A_vb : OArr Z h0 vb .byte 16 (fun j => .int (own_by (w j)))) (g_r0 : n0 ≤ r0) (F_count : Fld Z h0 r0 "java/lang/AbstractStringBuilder" "count" "I" (.int (0 : Int32))) (b : Addr) (g : Nat → Int32) (E_r1 : Exa Z h0 r1 "java/lang/String") (Fv_r1 : Fld Z h0 r1 "java/lang/String" "value" "[B" (.ref b)) (Fc_r1 : Fld Z h0 r1 "java/lang/String" "coder" "B" (.int (0 : Int32))) (A_b : OArr Z h0 b .byte 1 (fun j => .int (own_by (g j)))) (n1 : r1 ≠ r0) (n2 : b ≠ r0) (n3 : r1 ≠ vb) (n4 : b ≠ vb) (n5 : r0 ≠ vb) :
    OMet l Z (⟨"java/lang/StringBuilder", "append", "(Ljava/lang/String;)Ljava/lang/StringBuilder;"⟩ : MethodName) jdk_67_method_7_code 2 (some (.object "java/lang/StringBuilder")) ({ frames := 4, cells := 0, slots := 0, locals := 67 } : Room) #[(.ref r0), (.ref r1)] h0 n0 ({ frames := 4, cells := 0, slots := 0, locals := 67 } : Room).cells ({ frames := 4, cells := 0, slots := 0, locals := 67 } : Room).slots (fun v h => v = some (.ref r0) ∧ Keep h0 h [r0, vb] ∧ Fld Z h r0 "java/lang/AbstractStringBuilder" "value" "[B" (.ref vb) ∧ Fld Z h r0 "java/lang/AbstractStringBuilder" "coder" "B" (.int (0 : Int32)) ∧ Fld Z h r0 "java/lang/AbstractStringBuilder" "count" "I" (.int (1 : Int32)) ∧ OArr Z h vb .byte 16 (fun j => .int (own_by ((fun j => if 0 ≤ j ∧ j < 0 + 1 then g (0 + (j - 0)) else w j) j)))) := by
  refine o_body (plainFor_of_name pn_25) hz (fun m => ef_25 m r0 r1) ?_
  intro p e s m below meth c s₁ G0
  have K : Keep h0 h0 [r0, vb] := Keep.refl _ _
  refine o_aloadN G0 d25_0 (pc' := 1) rfl rfl rfl ?_
  refine o_aloadN G0 d25_1 (pc' := 2) rfl rfl rfl ?_
  refine o_callSup G0 (z := (⟨"java/lang/AbstractStringBuilder", "append", "(Ljava/lang/String;)Ljava/lang/AbstractStringBuilder;"⟩ : MethodName)) (argsL := [(.ref r1)]) (rest := []) (W := 0) (Ins.self E_r0) (ow hw 138 rfl) (ow hw 139 rfl) (ow hw 140 rfl) (o_face (notFace_of_selects (ow hw 149 rfl)) rfl (ow hw 147 rfl)) (by decide) d25_2 (by decide) (ow hw 125 rfl) (ow hw 142 rfl) (rm26_01 hw r0 r1 h0 n0 G0.sz cs hcs S vb E_r0 F_value F_coder g_vb w A_vb g_r0 F_count b g E_r1 Fv_r1 Fc_r1 A_b n1 n2 n3 n4 n5) (by decide) (by decide) rfl (lenOf pd_15 rfl) rfl (Nat.le_of_eq rfl) (pc' := 5) rfl (by decide) (by decide) ?_
  rintro _ T1 h1 G1 ⟨rfl, K1, hQ1⟩
  replace S := o_stak S K1 (allS E_r0.nostat (allS A_vb.nostat all0))
  replace K := K.trans K1 (allS (Or.inl (List.mem_of_getElem? (i := 0) rfl)) (allS (Or.inl (List.mem_of_getElem? (i := 1) rfl)) all0))
  replace E_r0 := E_r0.keep K1
  replace E_r1 := E_r1.keep K1
  replace Fv_r1 := Fv_r1.keep K1 (ninS n1 (ninS n3 nin0))
  replace Fc_r1 := Fc_r1.keep K1 (ninS n1 (ninS n3 nin0))
  replace A_b := A_b.keep K1 (ninS n2 (ninS n4 nin0))
  show OFin _ _ _ _ T1 (mkF m 5 #[.val (.ref r0), .val (.ref r1)] [(.ref r0)])
  refine o_pop G1 d25_5 (pc' := 6) rfl rfl ?_
  refine o_aloadN G1 d25_6 (pc' := 7) rfl rfl rfl ?_
  exact o_areturn G1 rfl rfl rfl d25_7 ⟨rfl, K, hQ1⟩ (by decide) (by decide)
set_option maxRecDepth 65536 in
set_option maxHeartbeats 40000000 in
theorem rm30_10 {l : Launch} {Z : State} {a0 : Array Value} (hw : ∀ d ∈ tables_1, d.before a0 Z = true) (r0 : Addr) (r1 : Addr) (h0 : Heap) (n0 : Nat) (hz : n0 ≤ h0.size) (cs : Int32) (hcs : ¬ cs = 0) (S : Sta Z h0 "java/lang/String" "COMPACT_STRINGS" "Z" (.int cs)) (b : Addr) (g : Nat → Int32) (E_r0 : Exa Z h0 r0 "java/lang/String") (Fv_r0 : Fld Z h0 r0 "java/lang/String" "value" "[B" (.ref b)) (Fc_r0 : Fld Z h0 r0 "java/lang/String" "coder" "B" (.int (0 : Int32))) (A_b : OArr Z h0 b .byte 0 (fun j => .int (own_by (g j)))) (g_r1 : n0 ≤ r1) (n1 : r0 ≠ r1) (n2 : b ≠ r1) (w : Nat → Int32) (A_r1 : OArr Z h0 r1 .byte 16 (fun j => .int (own_by (w j)))) :
    OMet l Z (⟨"java/lang/String", "getBytes", "([BIB)V"⟩ : MethodName) jdk_42_method_147_code 4 none ({ frames := 1, cells := 0, slots := 0, locals := 24 } : Room) #[(.ref r0), (.ref r1), (.int (1 : Int32)), (.int (0 : Int32))] h0 n0 ({ frames := 1, cells := 0, slots := 0, locals := 24 } : Room).cells ({ frames := 1, cells := 0, slots := 0, locals := 24 } : Room).slots (fun v h => v = none ∧ Keep h0 h [r1] ∧ OArr Z h r1 .byte 16 (fun j => .int (own_by (w j)))) := by
  refine o_body (plainFor_of_name pn_30) hz (fun m => ef_30 m r0 r1 (1 : Int32) (0 : Int32)) ?_
  intro p e s m below meth c s₁ G0
  have K : Keep h0 h0 [r1] := Keep.refl _ _
  refine o_aloadN G0 d30_0 (pc' := 1) rfl rfl rfl ?_
  refine o_callV G0 (z := (⟨"java/lang/String", "coder", "()B"⟩ : MethodName)) (argsL := []) (rest := []) (W := 0) E_r0 (ow hw 81 rfl) (ow hw 83 rfl) (ow hw 82 rfl) (ow hw 84 rfl) d30_1 (by decide) (ow hw 9 rfl) (ow hw 85 rfl) (rm18 hw r0 h0 n0 G0.sz cs hcs S Fc_r0) (by decide) (by decide) rfl (lenOf pd_7 rfl) rfl (Nat.le_of_eq rfl) (pc' := 4) rfl (by decide) (by decide) ?_
  rintro _ T1 h1 G1 ⟨rfl, hh⟩
  subst hh
  show OFin _ _ _ _ T1 (mkF m 4 #[.val (.ref r0), .val (.ref r1), .val (.int (1 : Int32)), .val (.int (0 : Int32))] [(.int (0 : Int32))])
  refine o_iloadN G1 d30_4 (pc' := 5) rfl rfl ?_
  refine o_icmp_ne G1 d30_5 (by decide) (pcT := 28) (by decide) (pc' := 8) rfl (fun q => absurd (by decide) q) (fun _ => ?_)
  refine o_aloadN G1 d30_8 (pc' := 9) rfl rfl rfl ?_
  refine o_getF G1 (host := "") (Or.inl (ow hw 29 rfl)) Via.refl Fv_r0 d30_9 (pc' := 12) rfl ?_
  intro T2 G2
  refine o_iconst G2 d30_12 (pc' := 13) rfl (v := (0 : Int32)) rfl ?_
  refine o_aloadN G2 d30_13 (pc' := 14) rfl rfl rfl ?_
  refine o_iloadN G2 d30_14 (pc' := 15) rfl rfl ?_
  refine o_iloadN G2 d30_15 (pc' := 16) rfl rfl ?_
  refine o_ishl G2 d30_16 (pc' := 17) rfl (v := (1 : Int32)) (by decide) ?_
  refine o_aloadN G2 d30_17 (pc' := 18) rfl rfl rfl ?_
  refine o_getF G2 (host := "") (Or.inl (ow hw 29 rfl)) Via.refl Fv_r0 d30_18 (pc' := 21) rfl ?_
  intro T3 G3
  refine o_arraylength G3 A_b (v := (0 : Int32)) rfl d30_21 (pc' := 22) rfl ?_
  refine o_acopy0 G3 (S := 0) (D := 1) (rest := []) A_b A_r1 (by intro i _; first | exact fits_nar_byte _ | rfl | (simp only [o_set]; (repeat' split) <;> rfl)) (by intro i _; first | exact fits_nar_byte _ | rfl | (simp only [o_set]; (repeat' split) <;> rfl)) (by decide) (by decide) (Or.inl ⟨rfl, rfl⟩) rfl rfl rfl (by decide) (by decide) (ow hw 167 rfl) (ow hw 170 rfl) (ow hw 168 rfl) (ow hw 169 rfl) g_r1 rfl d30_22 (pc' := 25) rfl (by decide) (W := 0) (Nat.le_of_eq rfl) (by decide) ?_
  intro T4 h4 G4 K4 A4
  replace S := o_stak S K4 (allS A_r1.nostat all0)
  replace K := K.trans K4 (allS (Or.inl (List.mem_of_getElem? (i := 0) rfl)) all0)
  replace E_r0 := E_r0.keep K4
  replace Fv_r0 := Fv_r0.keep K4 (ninS n1 nin0)
  replace Fc_r0 := Fc_r0.keep K4 (ninS n1 nin0)
  replace A_b := A_b.keep K4 (ninS n2 nin0)
  have A_r1 := A4
  refine o_goto G4 d30_25 (by decide) (pc' := 43) rfl ?_
  exact o_return G4 d30_43 ⟨rfl, K, A_r1⟩ (by decide) (by decide)
set_option maxRecDepth 65536 in
set_option maxHeartbeats 40000000 in
theorem rm28_10 {l : Launch} {Z : State} {a0 : Array Value} (hw : ∀ d ∈ tables_1, d.before a0 Z = true) (r0 : Addr) (r2 : Addr) (h0 : Heap) (n0 : Nat) (hz : n0 ≤ h0.size) (cs : Int32) (hcs : ¬ cs = 0) (S : Sta Z h0 "java/lang/String" "COMPACT_STRINGS" "Z" (.int cs)) (vb : Addr) (E_r0 : Exa Z h0 r0 "java/lang/StringBuilder") (F_value : Fld Z h0 r0 "java/lang/AbstractStringBuilder" "value" "[B" (.ref vb)) (F_coder : Fld Z h0 r0 "java/lang/AbstractStringBuilder" "coder" "B" (.int (0 : Int32))) (g_vb : n0 ≤ vb) (w : Nat → Int32) (A_vb : OArr Z h0 vb .byte 16 (fun j => .int (own_by (w j)))) (b : Addr) (g : Nat → Int32) (E_r2 : Exa Z h0 r2 "java/lang/String") (Fv_r2 : Fld Z h0 r2 "java/lang/String" "value" "[B" (.ref b)) (Fc_r2 : Fld Z h0 r2 "java/lang/String" "coder" "B" (.int (0 : Int32))) (A_b : OArr Z h0 b .byte 0 (fun j => .int (own_by (g j)))) (n3 : r2 ≠ vb) (n4 : b ≠ vb) (n5 : r0 ≠ vb) :
    OMet l Z (⟨"java/lang/AbstractStringBuilder", "putStringAt", "(ILjava/lang/String;)V"⟩ : MethodName) jdk_68_method_73_code 3 none ({ frames := 2, cells := 0, slots := 0, locals := 39 } : Room) #[(.ref r0), (.int (1 : Int32)), (.ref r2)] h0 n0 ({ frames := 2, cells := 0, slots := 0, locals := 39 } : Room).cells ({ frames := 2, cells := 0, slots := 0, locals := 39 } : Room).slots (fun v h => v = none ∧ Keep h0 h [vb] ∧ OArr Z h vb .byte 16 (fun j => .int (own_by (w j)))) := by
  refine o_body (plainFor_of_name pn_28) hz (fun m => ef_28 m r0 (1 : Int32) r2) ?_
  intro p e s m below meth c s₁ G0
  have K : Keep h0 h0 [vb] := Keep.refl _ _
  refine o_aloadN G0 d28_0 (pc' := 1) rfl rfl rfl ?_
  refine o_aloadN G0 d28_1 (pc' := 2) rfl rfl rfl ?_
  refine o_callPr2 G0 (z := (⟨"java/lang/AbstractStringBuilder", "inflateIfNeededFor", "(Ljava/lang/String;)V"⟩ : MethodName)) (argsL := [(.ref r2)]) (rest := []) (W := 0) E_r0 (ow hw 156 rfl) (ow hw 157 rfl) (ow hw 158 rfl) (ow hw 159 rfl) d28_2 (by decide) (ow hw 125 rfl) (ow hw 160 rfl) (rm29 hw r0 r2 h0 n0 G0.sz cs hcs S E_r0 F_coder E_r2 Fc_r2) (by decide) (by decide) rfl (lenOf pd_12 rfl) rfl (Nat.le_of_eq rfl) (pc' := 5) rfl (by decide) (by decide) ?_
  rintro _ T1 h1 G1 ⟨rfl, hh⟩
  subst hh
  show OFin _ _ _ _ T1 (mkF m 5 #[.val (.ref r0), .val (.int (1 : Int32)), .val (.ref r2)] [])
  refine o_aloadN G1 d28_5 (pc' := 6) rfl rfl rfl ?_
  refine o_aloadN G1 d28_6 (pc' := 7) rfl rfl rfl ?_
  refine o_getF G1 (host := "") (Or.inl (ow hw 129 rfl)) Via.refl F_value d28_7 (pc' := 10) rfl ?_
  intro T2 G2
  refine o_iloadN G2 d28_10 (pc' := 11) rfl rfl ?_
  refine o_aloadN G2 d28_11 (pc' := 12) rfl rfl rfl ?_
  refine o_getF G2 (host := "") (Or.inl (ow hw 131 rfl)) Via.refl F_coder d28_12 (pc' := 15) rfl ?_
  intro T3 G3
  refine o_callV G3 (z := (⟨"java/lang/String", "getBytes", "([BIB)V"⟩ : MethodName)) (argsL := [(.ref vb), (.int (1 : Int32)), (.int (0 : Int32))]) (rest := []) (W := 0) E_r2 (ow hw 162 rfl) (ow hw 164 rfl) (ow hw 163 rfl) (ow hw 165 rfl) d28_15 (by decide) (ow hw 9 rfl) (ow hw 166 rfl) (rm30_10 hw r2 vb h0 n0 G3.sz cs hcs S b g E_r2 Fv_r2 Fc_r2 A_b g_vb n3 n4 w A_vb) (by decide) (by decide) rfl (lenOf pd_13 rfl) rfl (Nat.le_of_eq rfl) (pc' := 18) rfl (by decide) (by decide) ?_
  rintro _ T4 h4 G4 ⟨rfl, K4, A4⟩
  replace S := o_stak S K4 (allS A_vb.nostat all0)
  replace K := K.trans K4 (allS (Or.inl (List.mem_of_getElem? (i := 0) rfl)) all0)
  replace E_r0 := E_r0.keep K4
  replace F_value := F_value.keep K4 (ninS n5 nin0)
  replace F_coder := F_coder.keep K4 (ninS n5 nin0)
  replace E_r2 := E_r2.keep K4
  replace Fv_r2 := Fv_r2.keep K4 (ninS n3 nin0)
  replace Fc_r2 := Fc_r2.keep K4 (ninS n3 nin0)
  replace A_b := A_b.keep K4 (ninS n4 nin0)
  show OFin _ _ _ _ T4 (mkF m 18 #[.val (.ref r0), .val (.int (1 : Int32)), .val (.ref r2)] [])
  exact o_return G4 d28_18 ⟨rfl, K, A4⟩ (by decide) (by decide)
set_option maxRecDepth 65536 in
set_option maxHeartbeats 40000000 in
theorem rm26_10 {l : Launch} {Z : State} {a0 : Array Value} (hw : ∀ d ∈ tables_1, d.before a0 Z = true) (r0 : Addr) (r1 : Addr) (h0 : Heap) (n0 : Nat) (hz : n0 ≤ h0.size) (cs : Int32) (hcs : ¬ cs = 0) (S : Sta Z h0 "java/lang/String" "COMPACT_STRINGS" "Z" (.int cs)) (vb : Addr) (E_r0 : Exa Z h0 r0 "java/lang/StringBuilder") (F_value : Fld Z h0 r0 "java/lang/AbstractStringBuilder" "value" "[B" (.ref vb)) (F_coder : Fld Z h0 r0 "java/lang/AbstractStringBuilder" "coder" "B" (.int (0 : Int32))) (g_vb : n0 ≤ vb) (w : Nat → Int32) (A_vb : OArr Z h0 vb .byte 16 (fun j => .int (own_by (w j)))) (g_r0 : n0 ≤ r0) (F_count : Fld Z h0 r0 "java/lang/AbstractStringBuilder" "count" "I" (.int (1 : Int32))) (b : Addr) (g : Nat → Int32) (E_r1 : Exa Z h0 r1 "java/lang/String") (Fv_r1 : Fld Z h0 r1 "java/lang/String" "value" "[B" (.ref b)) (Fc_r1 : Fld Z h0 r1 "java/lang/String" "coder" "B" (.int (0 : Int32))) (A_b : OArr Z h0 b .byte 0 (fun j => .int (own_by (g j)))) (n1 : r1 ≠ r0) (n2 : b ≠ r0) (n3 : r1 ≠ vb) (n4 : b ≠ vb) (n5 : r0 ≠ vb) :
    OMet l Z (⟨"java/lang/AbstractStringBuilder", "append", "(Ljava/lang/String;)Ljava/lang/AbstractStringBuilder;"⟩ : MethodName) jdk_68_method_22_code 3 (some (.object "java/lang/AbstractStringBuilder")) ({ frames := 3, cells := 0, slots := 0, locals := 53 } : Room) #[(.ref r0), (.ref r1)] h0 n0 ({ frames := 3, cells := 0, slots := 0, locals := 53 } : Room).cells ({ frames := 3, cells := 0, slots := 0, locals := 53 } : Room).slots (fun v h => v = some (.ref r0) ∧ Keep h0 h [r0, vb] ∧ Fld Z h r0 "java/lang/AbstractStringBuilder" "value" "[B" (.ref vb) ∧ Fld Z h r0 "java/lang/AbstractStringBuilder" "coder" "B" (.int (0 : Int32)) ∧ Fld Z h r0 "java/lang/AbstractStringBuilder" "count" "I" (.int (1 : Int32)) ∧ OArr Z h vb .byte 16 (fun j => .int (own_by (w j)))) := by
  refine o_body (plainFor_of_name pn_26) hz (fun m => ef_26 m r0 r1) ?_
  intro p e s m below meth c s₁ G0
  have K : Keep h0 h0 [r0, vb] := Keep.refl _ _
  refine o_aloadN G0 d26_0 (pc' := 1) rfl rfl rfl ?_
  refine o_ifnonnull G0 d26_1 (by decide) (pcT := 9) (by decide) ?_
  refine o_aloadN G0 d26_9 (pc' := 10) rfl rfl rfl ?_
  refine o_callV G0 (z := (⟨"java/lang/String", "length", "()I"⟩ : MethodName)) (argsL := []) (rest := []) (W := 0) E_r1 (ow hw 143 rfl) (ow hw 78 rfl) (ow hw 77 rfl) (ow hw 79 rfl) d26_10 (by decide) (ow hw 9 rfl) (ow hw 80 rfl) (rm17 hw r1 h0 n0 G0.sz cs hcs S 0 (0 : Int32) rfl (by decide) b g E_r1 Fv_r1 Fc_r1 A_b) (by decide) (by decide) rfl (lenOf pd_8 rfl) rfl (Nat.le_of_eq rfl) (pc' := 13) rfl (by decide) (by decide) ?_
  rintro _ T1 h1 G1 ⟨rfl, hh⟩
  subst hh
  show OFin _ _ _ _ T1 (mkF m 13 #[.val (.ref r0), .val (.ref r1), .unset] [(.int (0 : Int32))])
  refine o_istoreN G1 d26_13 (pc' := 14) rfl (l' := #[.val (.ref r0), .val (.ref r1), .val (.int (0 : Int32))]) rfl ?_
  refine o_aloadN G1 d26_14 (pc' := 15) rfl rfl rfl ?_
  refine o_aloadN G1 d26_15 (pc' := 16) rfl rfl rfl ?_
  refine o_getF G1 (host := "") (Or.inl (ow hw 144 rfl)) Via.refl F_count d26_16 (pc' := 19) rfl ?_
  intro T2 G2
  refine o_iloadN G2 d26_19 (pc' := 20) rfl rfl ?_
  refine o_iadd G2 d26_20 (pc' := 21) rfl (v := (1 : Int32)) (by decide) ?_
  refine o_callPr2 G2 (z := (⟨"java/lang/AbstractStringBuilder", "ensureCapacityInternal", "(I)V"⟩ : MethodName)) (argsL := [(.int (1 : Int32))]) (rest := []) (W := 0) E_r0 (ow hw 146 rfl) (ow hw 147 rfl) (ow hw 148 rfl) (ow hw 149 rfl) d26_21 (by decide) (ow hw 125 rfl) (ow hw 150 rfl) (rm27_1 hw r0 h0 n0 G2.sz vb E_r0 F_value F_coder w A_vb) (by decide) (by decide) rfl (lenOf pd_11 rfl) rfl (Nat.le_of_eq rfl) (pc' := 24) rfl (by decide) (by decide) ?_
  rintro _ T3 h3 G3 ⟨rfl, hh⟩
  subst hh
  show OFin _ _ _ _ T3 (mkF m 24 #[.val (.ref r0), .val (.ref r1), .val (.int (0 : Int32))] [])
  refine o_aloadN G3 d26_24 (pc' := 25) rfl rfl rfl ?_
  refine o_aloadN G3 d26_25 (pc' := 26) rfl rfl rfl ?_
  refine o_getF G3 (host := "") (Or.inl (ow hw 144 rfl)) Via.refl F_count d26_26 (pc' := 29) rfl ?_
  intro T4 G4
  refine o_aloadN G4 d26_29 (pc' := 30) rfl rfl rfl ?_
  refine o_callPr2 G4 (z := (⟨"java/lang/AbstractStringBuilder", "putStringAt", "(ILjava/lang/String;)V"⟩ : MethodName)) (argsL := [(.int (1 : Int32)), (.ref r1)]) (rest := []) (W := 0) E_r0 (ow hw 151 rfl) (ow hw 152 rfl) (ow hw 153 rfl) (ow hw 154 rfl) d26_30 (by decide) (ow hw 125 rfl) (ow hw 155 rfl) (rm28_10 hw r0 r1 h0 n0 G4.sz cs hcs S vb E_r0 F_value F_coder g_vb w A_vb b g E_r1 Fv_r1 Fc_r1 A_b n3 n4 n5) (by decide) (by decide) rfl (lenOf pd_14 rfl) rfl (Nat.le_of_eq rfl) (pc' := 33) rfl (by decide) (by decide) ?_
  rintro _ T5 h5 G5 ⟨rfl, K5, A5⟩
  replace S := o_stak S K5 (allS A_vb.nostat all0)
  replace K := K.trans K5 (allS (Or.inl (List.mem_of_getElem? (i := 1) rfl)) all0)
  replace E_r0 := E_r0.keep K5
  replace F_value := F_value.keep K5 (ninS n5 nin0)
  replace F_coder := F_coder.keep K5 (ninS n5 nin0)
  replace E_r1 := E_r1.keep K5
  replace Fv_r1 := Fv_r1.keep K5 (ninS n3 nin0)
  replace Fc_r1 := Fc_r1.keep K5 (ninS n3 nin0)
  replace A_b := A_b.keep K5 (ninS n4 nin0)
  replace F_count := F_count.keep K5 (ninS n5 nin0)
  show OFin _ _ _ _ T5 (mkF m 33 #[.val (.ref r0), .val (.ref r1), .val (.int (0 : Int32))] [])
  refine o_aloadN G5 d26_33 (pc' := 34) rfl rfl rfl ?_
  refine o_dup G5 d26_34 (pc' := 35) rfl rfl ?_
  refine o_getF G5 (host := "") (Or.inl (ow hw 144 rfl)) Via.refl F_count d26_35 (pc' := 38) rfl ?_
  intro T6 G6
  refine o_iloadN G6 d26_38 (pc' := 39) rfl rfl ?_
  refine o_iadd G6 d26_39 (pc' := 40) rfl (v := (1 : Int32)) (by decide) ?_
  refine o_putF G6 (host := "") (Or.inl (ow hw 144 rfl)) Via.refl F_count E_r0 (Or.inl (ow hw 145 rfl)) (ow hw 116 rfl) (ty := .int) (by decide) rfl rfl g_r0 d26_40 (pc' := 43) rfl ?_
  intro T7 h7 G7 W7
  replace K := K.wr W7 (Or.inl (List.mem_of_getElem? (i := 0) rfl))
  replace S := S.wr W7
  replace E_r0 := E_r0.wr W7
  replace F_value := F_value.other W7 (Or.inr (slot_ne (Or.inl (ow hw 130 rfl)) (Or.inl (ow hw 145 rfl)) (by decide) (t := (.array .byte)) (t' := .int) (by decide) (by decide)))
  replace F_coder := F_coder.other W7 (Or.inr (slot_ne (Or.inl (ow hw 132 rfl)) (Or.inl (ow hw 145 rfl)) (by decide) (t := .byte) (t' := .int) (by decide) (by decide)))
  replace E_r1 := E_r1.wr W7
  replace Fv_r1 := Fv_r1.other W7 (Or.inl n1)
  replace Fc_r1 := Fc_r1.other W7 (Or.inl n1)
  replace A_b := A_b.other W7 n2
  replace F_count := F_count.same W7
  replace A5 := A5.other W7 (Ne.symm n5)
  refine o_aloadN G7 d26_43 (pc' := 44) rfl rfl rfl ?_
  exact o_areturn G7 rfl rfl rfl d26_44 ⟨rfl, K, F_value, F_coder, F_count, A5⟩ (by decide) (by decide)
set_option maxRecDepth 65536 in
set_option maxHeartbeats 40000000 in
theorem rm25_10 {l : Launch} {Z : State} {a0 : Array Value} (hw : ∀ d ∈ tables_1, d.before a0 Z = true) (r0 : Addr) (r1 : Addr) (h0 : Heap) (n0 : Nat) (hz : n0 ≤ h0.size) (cs : Int32) (hcs : ¬ cs = 0) (S : Sta Z h0 "java/lang/String" "COMPACT_STRINGS" "Z" (.int cs)) (vb : Addr) (E_r0 : Exa Z h0 r0 "java/lang/StringBuilder") (F_value : Fld Z h0 r0 "java/lang/AbstractStringBuilder" "value" "[B" (.ref vb)) (F_coder : Fld Z h0 r0 "java/lang/AbstractStringBuilder" "coder" "B" (.int (0 : Int32))) (g_vb : n0 ≤ vb) (w : Nat → Int32) (A_vb : OArr Z h0 vb .byte 16 (fun j => .int (own_by (w j)))) (g_r0 : n0 ≤ r0) (F_count : Fld Z h0 r0 "java/lang/AbstractStringBuilder" "count" "I" (.int (1 : Int32))) (b : Addr) (g : Nat → Int32) (E_r1 : Exa Z h0 r1 "java/lang/String") (Fv_r1 : Fld Z h0 r1 "java/lang/String" "value" "[B" (.ref b)) (Fc_r1 : Fld Z h0 r1 "java/lang/String" "coder" "B" (.int (0 : Int32))) (A_b : OArr Z h0 b .byte 0 (fun j => .int (own_by (g j)))) (n1 : r1 ≠ r0) (n2 : b ≠ r0) (n3 : r1 ≠ vb) (n4 : b ≠ vb) (n5 : r0 ≠ vb) :
    OMet l Z (⟨"java/lang/StringBuilder", "append", "(Ljava/lang/String;)Ljava/lang/StringBuilder;"⟩ : MethodName) jdk_67_method_7_code 2 (some (.object "java/lang/StringBuilder")) ({ frames := 4, cells := 0, slots := 0, locals := 67 } : Room) #[(.ref r0), (.ref r1)] h0 n0 ({ frames := 4, cells := 0, slots := 0, locals := 67 } : Room).cells ({ frames := 4, cells := 0, slots := 0, locals := 67 } : Room).slots (fun v h => v = some (.ref r0) ∧ Keep h0 h [r0, vb] ∧ Fld Z h r0 "java/lang/AbstractStringBuilder" "value" "[B" (.ref vb) ∧ Fld Z h r0 "java/lang/AbstractStringBuilder" "coder" "B" (.int (0 : Int32)) ∧ Fld Z h r0 "java/lang/AbstractStringBuilder" "count" "I" (.int (1 : Int32)) ∧ OArr Z h vb .byte 16 (fun j => .int (own_by (w j)))) := by
  refine o_body (plainFor_of_name pn_25) hz (fun m => ef_25 m r0 r1) ?_
  intro p e s m below meth c s₁ G0
  have K : Keep h0 h0 [r0, vb] := Keep.refl _ _
  refine o_aloadN G0 d25_0 (pc' := 1) rfl rfl rfl ?_
  refine o_aloadN G0 d25_1 (pc' := 2) rfl rfl rfl ?_
  refine o_callSup G0 (z := (⟨"java/lang/AbstractStringBuilder", "append", "(Ljava/lang/String;)Ljava/lang/AbstractStringBuilder;"⟩ : MethodName)) (argsL := [(.ref r1)]) (rest := []) (W := 0) (Ins.self E_r0) (ow hw 138 rfl) (ow hw 139 rfl) (ow hw 140 rfl) (o_face (notFace_of_selects (ow hw 149 rfl)) rfl (ow hw 147 rfl)) (by decide) d25_2 (by decide) (ow hw 125 rfl) (ow hw 142 rfl) (rm26_10 hw r0 r1 h0 n0 G0.sz cs hcs S vb E_r0 F_value F_coder g_vb w A_vb g_r0 F_count b g E_r1 Fv_r1 Fc_r1 A_b n1 n2 n3 n4 n5) (by decide) (by decide) rfl (lenOf pd_15 rfl) rfl (Nat.le_of_eq rfl) (pc' := 5) rfl (by decide) (by decide) ?_
  rintro _ T1 h1 G1 ⟨rfl, K1, hQ1⟩
  replace S := o_stak S K1 (allS E_r0.nostat (allS A_vb.nostat all0))
  replace K := K.trans K1 (allS (Or.inl (List.mem_of_getElem? (i := 0) rfl)) (allS (Or.inl (List.mem_of_getElem? (i := 1) rfl)) all0))
  replace E_r0 := E_r0.keep K1
  replace E_r1 := E_r1.keep K1
  replace Fv_r1 := Fv_r1.keep K1 (ninS n1 (ninS n3 nin0))
  replace Fc_r1 := Fc_r1.keep K1 (ninS n1 (ninS n3 nin0))
  replace A_b := A_b.keep K1 (ninS n2 (ninS n4 nin0))
  show OFin _ _ _ _ T1 (mkF m 5 #[.val (.ref r0), .val (.ref r1)] [(.ref r0)])
  refine o_pop G1 d25_5 (pc' := 6) rfl rfl ?_
  refine o_aloadN G1 d25_6 (pc' := 7) rfl rfl rfl ?_
  exact o_areturn G1 rfl rfl rfl d25_7 ⟨rfl, K, hQ1⟩ (by decide) (by decide)
set_option maxRecDepth 65536 in
set_option maxHeartbeats 40000000 in
theorem rm30_12 {l : Launch} {Z : State} {a0 : Array Value} (hw : ∀ d ∈ tables_1, d.before a0 Z = true) (r0 : Addr) (r1 : Addr) (h0 : Heap) (n0 : Nat) (hz : n0 ≤ h0.size) (cs : Int32) (hcs : ¬ cs = 0) (S : Sta Z h0 "java/lang/String" "COMPACT_STRINGS" "Z" (.int cs)) (b : Addr) (g : Nat → Int32) (E_r0 : Exa Z h0 r0 "java/lang/String") (Fv_r0 : Fld Z h0 r0 "java/lang/String" "value" "[B" (.ref b)) (Fc_r0 : Fld Z h0 r0 "java/lang/String" "coder" "B" (.int (0 : Int32))) (A_b : OArr Z h0 b .byte 2 (fun j => .int (own_by (g j)))) (g_r1 : n0 ≤ r1) (n1 : r0 ≠ r1) (n2 : b ≠ r1) (w : Nat → Int32) (A_r1 : OArr Z h0 r1 .byte 16 (fun j => .int (own_by (w j)))) :
    OMet l Z (⟨"java/lang/String", "getBytes", "([BIB)V"⟩ : MethodName) jdk_42_method_147_code 4 none ({ frames := 1, cells := 0, slots := 0, locals := 24 } : Room) #[(.ref r0), (.ref r1), (.int (1 : Int32)), (.int (0 : Int32))] h0 n0 ({ frames := 1, cells := 0, slots := 0, locals := 24 } : Room).cells ({ frames := 1, cells := 0, slots := 0, locals := 24 } : Room).slots (fun v h => v = none ∧ Keep h0 h [r1] ∧ OArr Z h r1 .byte 16 (fun j => .int (own_by ((fun j => if 1 ≤ j ∧ j < 1 + 2 then g (0 + (j - 1)) else w j) j)))) := by
  refine o_body (plainFor_of_name pn_30) hz (fun m => ef_30 m r0 r1 (1 : Int32) (0 : Int32)) ?_
  intro p e s m below meth c s₁ G0
  have K : Keep h0 h0 [r1] := Keep.refl _ _
  refine o_aloadN G0 d30_0 (pc' := 1) rfl rfl rfl ?_
  refine o_callV G0 (z := (⟨"java/lang/String", "coder", "()B"⟩ : MethodName)) (argsL := []) (rest := []) (W := 0) E_r0 (ow hw 81 rfl) (ow hw 83 rfl) (ow hw 82 rfl) (ow hw 84 rfl) d30_1 (by decide) (ow hw 9 rfl) (ow hw 85 rfl) (rm18 hw r0 h0 n0 G0.sz cs hcs S Fc_r0) (by decide) (by decide) rfl (lenOf pd_7 rfl) rfl (Nat.le_of_eq rfl) (pc' := 4) rfl (by decide) (by decide) ?_
  rintro _ T1 h1 G1 ⟨rfl, hh⟩
  subst hh
  show OFin _ _ _ _ T1 (mkF m 4 #[.val (.ref r0), .val (.ref r1), .val (.int (1 : Int32)), .val (.int (0 : Int32))] [(.int (0 : Int32))])
  refine o_iloadN G1 d30_4 (pc' := 5) rfl rfl ?_
  refine o_icmp_ne G1 d30_5 (by decide) (pcT := 28) (by decide) (pc' := 8) rfl (fun q => absurd (by decide) q) (fun _ => ?_)
  refine o_aloadN G1 d30_8 (pc' := 9) rfl rfl rfl ?_
  refine o_getF G1 (host := "") (Or.inl (ow hw 29 rfl)) Via.refl Fv_r0 d30_9 (pc' := 12) rfl ?_
  intro T2 G2
  refine o_iconst G2 d30_12 (pc' := 13) rfl (v := (0 : Int32)) rfl ?_
  refine o_aloadN G2 d30_13 (pc' := 14) rfl rfl rfl ?_
  refine o_iloadN G2 d30_14 (pc' := 15) rfl rfl ?_
  refine o_iloadN G2 d30_15 (pc' := 16) rfl rfl ?_
  refine o_ishl G2 d30_16 (pc' := 17) rfl (v := (1 : Int32)) (by decide) ?_
  refine o_aloadN G2 d30_17 (pc' := 18) rfl rfl rfl ?_
  refine o_getF G2 (host := "") (Or.inl (ow hw 29 rfl)) Via.refl Fv_r0 d30_18 (pc' := 21) rfl ?_
  intro T3 G3
  refine o_arraylength G3 A_b (v := (2 : Int32)) rfl d30_21 (pc' := 22) rfl ?_
  refine o_acopy G3 (S := 0) (D := 1) (L := 2) (rest := []) A_b A_r1 (by intro i _; first | exact fits_nar_byte _ | rfl | (simp only [o_set]; (repeat' split) <;> rfl)) (by intro i _; first | exact fits_nar_byte _ | rfl | (simp only [o_set]; (repeat' split) <;> rfl)) (by decide) (by decide) rfl rfl rfl rfl (by decide) (by decide) (ow hw 167 rfl) (ow hw 170 rfl) (ow hw 168 rfl) (ow hw 169 rfl) g_r1 rfl d30_22 (pc' := 25) rfl (by decide) (W := 0) (Nat.le_of_eq rfl) (by decide) ?_
  intro T4 h4 c4 G4 K4 A4 Q4
  replace S := o_stak S K4 (allS A_r1.nostat all0)
  replace K := K.trans K4 (allS (Or.inl (List.mem_of_getElem? (i := 0) rfl)) all0)
  replace E_r0 := E_r0.keep K4
  replace Fv_r0 := Fv_r0.keep K4 (ninS n1 nin0)
  replace Fc_r0 := Fc_r0.keep K4 (ninS n1 nin0)
  replace A_b := A_b.keep K4 (ninS n2 nin0)
  have A_r1 := A4
  refine o_goto G4 d30_25 (by decide) (pc' := 43) rfl ?_
  exact o_return G4 d30_43 ⟨rfl, K, (A_r1.congr (by intro j hj; rw [Q4 j hj]; exact own_cp (f := g) (g := w) _ _ _))⟩ (by decide) (by decide)
set_option maxRecDepth 65536 in
set_option maxHeartbeats 40000000 in
theorem rm28_12 {l : Launch} {Z : State} {a0 : Array Value} (hw : ∀ d ∈ tables_1, d.before a0 Z = true) (r0 : Addr) (r2 : Addr) (h0 : Heap) (n0 : Nat) (hz : n0 ≤ h0.size) (cs : Int32) (hcs : ¬ cs = 0) (S : Sta Z h0 "java/lang/String" "COMPACT_STRINGS" "Z" (.int cs)) (vb : Addr) (E_r0 : Exa Z h0 r0 "java/lang/StringBuilder") (F_value : Fld Z h0 r0 "java/lang/AbstractStringBuilder" "value" "[B" (.ref vb)) (F_coder : Fld Z h0 r0 "java/lang/AbstractStringBuilder" "coder" "B" (.int (0 : Int32))) (g_vb : n0 ≤ vb) (w : Nat → Int32) (A_vb : OArr Z h0 vb .byte 16 (fun j => .int (own_by (w j)))) (b : Addr) (g : Nat → Int32) (E_r2 : Exa Z h0 r2 "java/lang/String") (Fv_r2 : Fld Z h0 r2 "java/lang/String" "value" "[B" (.ref b)) (Fc_r2 : Fld Z h0 r2 "java/lang/String" "coder" "B" (.int (0 : Int32))) (A_b : OArr Z h0 b .byte 2 (fun j => .int (own_by (g j)))) (n3 : r2 ≠ vb) (n4 : b ≠ vb) (n5 : r0 ≠ vb) :
    OMet l Z (⟨"java/lang/AbstractStringBuilder", "putStringAt", "(ILjava/lang/String;)V"⟩ : MethodName) jdk_68_method_73_code 3 none ({ frames := 2, cells := 0, slots := 0, locals := 39 } : Room) #[(.ref r0), (.int (1 : Int32)), (.ref r2)] h0 n0 ({ frames := 2, cells := 0, slots := 0, locals := 39 } : Room).cells ({ frames := 2, cells := 0, slots := 0, locals := 39 } : Room).slots (fun v h => v = none ∧ Keep h0 h [vb] ∧ OArr Z h vb .byte 16 (fun j => .int (own_by ((fun j => if 1 ≤ j ∧ j < 1 + 2 then g (0 + (j - 1)) else w j) j)))) := by
  refine o_body (plainFor_of_name pn_28) hz (fun m => ef_28 m r0 (1 : Int32) r2) ?_
  intro p e s m below meth c s₁ G0
  have K : Keep h0 h0 [vb] := Keep.refl _ _
  refine o_aloadN G0 d28_0 (pc' := 1) rfl rfl rfl ?_
  refine o_aloadN G0 d28_1 (pc' := 2) rfl rfl rfl ?_
  refine o_callPr2 G0 (z := (⟨"java/lang/AbstractStringBuilder", "inflateIfNeededFor", "(Ljava/lang/String;)V"⟩ : MethodName)) (argsL := [(.ref r2)]) (rest := []) (W := 0) E_r0 (ow hw 156 rfl) (ow hw 157 rfl) (ow hw 158 rfl) (ow hw 159 rfl) d28_2 (by decide) (ow hw 125 rfl) (ow hw 160 rfl) (rm29 hw r0 r2 h0 n0 G0.sz cs hcs S E_r0 F_coder E_r2 Fc_r2) (by decide) (by decide) rfl (lenOf pd_12 rfl) rfl (Nat.le_of_eq rfl) (pc' := 5) rfl (by decide) (by decide) ?_
  rintro _ T1 h1 G1 ⟨rfl, hh⟩
  subst hh
  show OFin _ _ _ _ T1 (mkF m 5 #[.val (.ref r0), .val (.int (1 : Int32)), .val (.ref r2)] [])
  refine o_aloadN G1 d28_5 (pc' := 6) rfl rfl rfl ?_
  refine o_aloadN G1 d28_6 (pc' := 7) rfl rfl rfl ?_
  refine o_getF G1 (host := "") (Or.inl (ow hw 129 rfl)) Via.refl F_value d28_7 (pc' := 10) rfl ?_
  intro T2 G2
  refine o_iloadN G2 d28_10 (pc' := 11) rfl rfl ?_
  refine o_aloadN G2 d28_11 (pc' := 12) rfl rfl rfl ?_
  refine o_getF G2 (host := "") (Or.inl (ow hw 131 rfl)) Via.refl F_coder d28_12 (pc' := 15) rfl ?_
  intro T3 G3
  refine o_callV G3 (z := (⟨"java/lang/String", "getBytes", "([BIB)V"⟩ : MethodName)) (argsL := [(.ref vb), (.int (1 : Int32)), (.int (0 : Int32))]) (rest := []) (W := 0) E_r2 (ow hw 162 rfl) (ow hw 164 rfl) (ow hw 163 rfl) (ow hw 165 rfl) d28_15 (by decide) (ow hw 9 rfl) (ow hw 166 rfl) (rm30_12 hw r2 vb h0 n0 G3.sz cs hcs S b g E_r2 Fv_r2 Fc_r2 A_b g_vb n3 n4 w A_vb) (by decide) (by decide) rfl (lenOf pd_13 rfl) rfl (Nat.le_of_eq rfl) (pc' := 18) rfl (by decide) (by decide) ?_
  rintro _ T4 h4 G4 ⟨rfl, K4, A4⟩
  replace S := o_stak S K4 (allS A_vb.nostat all0)
  replace K := K.trans K4 (allS (Or.inl (List.mem_of_getElem? (i := 0) rfl)) all0)
  replace E_r0 := E_r0.keep K4
  replace F_value := F_value.keep K4 (ninS n5 nin0)
  replace F_coder := F_coder.keep K4 (ninS n5 nin0)
  replace E_r2 := E_r2.keep K4
  replace Fv_r2 := Fv_r2.keep K4 (ninS n3 nin0)
  replace Fc_r2 := Fc_r2.keep K4 (ninS n3 nin0)
  replace A_b := A_b.keep K4 (ninS n4 nin0)
  show OFin _ _ _ _ T4 (mkF m 18 #[.val (.ref r0), .val (.int (1 : Int32)), .val (.ref r2)] [])
  exact o_return G4 d28_18 ⟨rfl, K, A4⟩ (by decide) (by decide)
set_option maxRecDepth 65536 in
set_option maxHeartbeats 40000000 in
theorem rm26_12 {l : Launch} {Z : State} {a0 : Array Value} (hw : ∀ d ∈ tables_1, d.before a0 Z = true) (r0 : Addr) (r1 : Addr) (h0 : Heap) (n0 : Nat) (hz : n0 ≤ h0.size) (cs : Int32) (hcs : ¬ cs = 0) (S : Sta Z h0 "java/lang/String" "COMPACT_STRINGS" "Z" (.int cs)) (vb : Addr) (E_r0 : Exa Z h0 r0 "java/lang/StringBuilder") (F_value : Fld Z h0 r0 "java/lang/AbstractStringBuilder" "value" "[B" (.ref vb)) (F_coder : Fld Z h0 r0 "java/lang/AbstractStringBuilder" "coder" "B" (.int (0 : Int32))) (g_vb : n0 ≤ vb) (w : Nat → Int32) (A_vb : OArr Z h0 vb .byte 16 (fun j => .int (own_by (w j)))) (g_r0 : n0 ≤ r0) (F_count : Fld Z h0 r0 "java/lang/AbstractStringBuilder" "count" "I" (.int (1 : Int32))) (b : Addr) (g : Nat → Int32) (E_r1 : Exa Z h0 r1 "java/lang/String") (Fv_r1 : Fld Z h0 r1 "java/lang/String" "value" "[B" (.ref b)) (Fc_r1 : Fld Z h0 r1 "java/lang/String" "coder" "B" (.int (0 : Int32))) (A_b : OArr Z h0 b .byte 2 (fun j => .int (own_by (g j)))) (n1 : r1 ≠ r0) (n2 : b ≠ r0) (n3 : r1 ≠ vb) (n4 : b ≠ vb) (n5 : r0 ≠ vb) :
    OMet l Z (⟨"java/lang/AbstractStringBuilder", "append", "(Ljava/lang/String;)Ljava/lang/AbstractStringBuilder;"⟩ : MethodName) jdk_68_method_22_code 3 (some (.object "java/lang/AbstractStringBuilder")) ({ frames := 3, cells := 0, slots := 0, locals := 53 } : Room) #[(.ref r0), (.ref r1)] h0 n0 ({ frames := 3, cells := 0, slots := 0, locals := 53 } : Room).cells ({ frames := 3, cells := 0, slots := 0, locals := 53 } : Room).slots (fun v h => v = some (.ref r0) ∧ Keep h0 h [r0, vb] ∧ Fld Z h r0 "java/lang/AbstractStringBuilder" "value" "[B" (.ref vb) ∧ Fld Z h r0 "java/lang/AbstractStringBuilder" "coder" "B" (.int (0 : Int32)) ∧ Fld Z h r0 "java/lang/AbstractStringBuilder" "count" "I" (.int (3 : Int32)) ∧ OArr Z h vb .byte 16 (fun j => .int (own_by ((fun j => if 1 ≤ j ∧ j < 1 + 2 then g (0 + (j - 1)) else w j) j)))) := by
  refine o_body (plainFor_of_name pn_26) hz (fun m => ef_26 m r0 r1) ?_
  intro p e s m below meth c s₁ G0
  have K : Keep h0 h0 [r0, vb] := Keep.refl _ _
  refine o_aloadN G0 d26_0 (pc' := 1) rfl rfl rfl ?_
  refine o_ifnonnull G0 d26_1 (by decide) (pcT := 9) (by decide) ?_
  refine o_aloadN G0 d26_9 (pc' := 10) rfl rfl rfl ?_
  refine o_callV G0 (z := (⟨"java/lang/String", "length", "()I"⟩ : MethodName)) (argsL := []) (rest := []) (W := 0) E_r1 (ow hw 143 rfl) (ow hw 78 rfl) (ow hw 77 rfl) (ow hw 79 rfl) d26_10 (by decide) (ow hw 9 rfl) (ow hw 80 rfl) (rm17 hw r1 h0 n0 G0.sz cs hcs S 2 (2 : Int32) rfl (by decide) b g E_r1 Fv_r1 Fc_r1 A_b) (by decide) (by decide) rfl (lenOf pd_8 rfl) rfl (Nat.le_of_eq rfl) (pc' := 13) rfl (by decide) (by decide) ?_
  rintro _ T1 h1 G1 ⟨rfl, hh⟩
  subst hh
  show OFin _ _ _ _ T1 (mkF m 13 #[.val (.ref r0), .val (.ref r1), .unset] [(.int (2 : Int32))])
  refine o_istoreN G1 d26_13 (pc' := 14) rfl (l' := #[.val (.ref r0), .val (.ref r1), .val (.int (2 : Int32))]) rfl ?_
  refine o_aloadN G1 d26_14 (pc' := 15) rfl rfl rfl ?_
  refine o_aloadN G1 d26_15 (pc' := 16) rfl rfl rfl ?_
  refine o_getF G1 (host := "") (Or.inl (ow hw 144 rfl)) Via.refl F_count d26_16 (pc' := 19) rfl ?_
  intro T2 G2
  refine o_iloadN G2 d26_19 (pc' := 20) rfl rfl ?_
  refine o_iadd G2 d26_20 (pc' := 21) rfl (v := (3 : Int32)) (by decide) ?_
  refine o_callPr2 G2 (z := (⟨"java/lang/AbstractStringBuilder", "ensureCapacityInternal", "(I)V"⟩ : MethodName)) (argsL := [(.int (3 : Int32))]) (rest := []) (W := 0) E_r0 (ow hw 146 rfl) (ow hw 147 rfl) (ow hw 148 rfl) (ow hw 149 rfl) d26_21 (by decide) (ow hw 125 rfl) (ow hw 150 rfl) (rm27_3 hw r0 h0 n0 G2.sz vb E_r0 F_value F_coder w A_vb) (by decide) (by decide) rfl (lenOf pd_11 rfl) rfl (Nat.le_of_eq rfl) (pc' := 24) rfl (by decide) (by decide) ?_
  rintro _ T3 h3 G3 ⟨rfl, hh⟩
  subst hh
  show OFin _ _ _ _ T3 (mkF m 24 #[.val (.ref r0), .val (.ref r1), .val (.int (2 : Int32))] [])
  refine o_aloadN G3 d26_24 (pc' := 25) rfl rfl rfl ?_
  refine o_aloadN G3 d26_25 (pc' := 26) rfl rfl rfl ?_
  refine o_getF G3 (host := "") (Or.inl (ow hw 144 rfl)) Via.refl F_count d26_26 (pc' := 29) rfl ?_
  intro T4 G4
  refine o_aloadN G4 d26_29 (pc' := 30) rfl rfl rfl ?_
  refine o_callPr2 G4 (z := (⟨"java/lang/AbstractStringBuilder", "putStringAt", "(ILjava/lang/String;)V"⟩ : MethodName)) (argsL := [(.int (1 : Int32)), (.ref r1)]) (rest := []) (W := 0) E_r0 (ow hw 151 rfl) (ow hw 152 rfl) (ow hw 153 rfl) (ow hw 154 rfl) d26_30 (by decide) (ow hw 125 rfl) (ow hw 155 rfl) (rm28_12 hw r0 r1 h0 n0 G4.sz cs hcs S vb E_r0 F_value F_coder g_vb w A_vb b g E_r1 Fv_r1 Fc_r1 A_b n3 n4 n5) (by decide) (by decide) rfl (lenOf pd_14 rfl) rfl (Nat.le_of_eq rfl) (pc' := 33) rfl (by decide) (by decide) ?_
  rintro _ T5 h5 G5 ⟨rfl, K5, A5⟩
  replace S := o_stak S K5 (allS A_vb.nostat all0)
  replace K := K.trans K5 (allS (Or.inl (List.mem_of_getElem? (i := 1) rfl)) all0)
  replace E_r0 := E_r0.keep K5
  replace F_value := F_value.keep K5 (ninS n5 nin0)
  replace F_coder := F_coder.keep K5 (ninS n5 nin0)
  replace E_r1 := E_r1.keep K5
  replace Fv_r1 := Fv_r1.keep K5 (ninS n3 nin0)
  replace Fc_r1 := Fc_r1.keep K5 (ninS n3 nin0)
  replace A_b := A_b.keep K5 (ninS n4 nin0)
  replace F_count := F_count.keep K5 (ninS n5 nin0)
  show OFin _ _ _ _ T5 (mkF m 33 #[.val (.ref r0), .val (.ref r1), .val (.int (2 : Int32))] [])
  refine o_aloadN G5 d26_33 (pc' := 34) rfl rfl rfl ?_
  refine o_dup G5 d26_34 (pc' := 35) rfl rfl ?_
  refine o_getF G5 (host := "") (Or.inl (ow hw 144 rfl)) Via.refl F_count d26_35 (pc' := 38) rfl ?_
  intro T6 G6
  refine o_iloadN G6 d26_38 (pc' := 39) rfl rfl ?_
  refine o_iadd G6 d26_39 (pc' := 40) rfl (v := (3 : Int32)) (by decide) ?_
  refine o_putF G6 (host := "") (Or.inl (ow hw 144 rfl)) Via.refl F_count E_r0 (Or.inl (ow hw 145 rfl)) (ow hw 116 rfl) (ty := .int) (by decide) rfl rfl g_r0 d26_40 (pc' := 43) rfl ?_
  intro T7 h7 G7 W7
  replace K := K.wr W7 (Or.inl (List.mem_of_getElem? (i := 0) rfl))
  replace S := S.wr W7
  replace E_r0 := E_r0.wr W7
  replace F_value := F_value.other W7 (Or.inr (slot_ne (Or.inl (ow hw 130 rfl)) (Or.inl (ow hw 145 rfl)) (by decide) (t := (.array .byte)) (t' := .int) (by decide) (by decide)))
  replace F_coder := F_coder.other W7 (Or.inr (slot_ne (Or.inl (ow hw 132 rfl)) (Or.inl (ow hw 145 rfl)) (by decide) (t := .byte) (t' := .int) (by decide) (by decide)))
  replace E_r1 := E_r1.wr W7
  replace Fv_r1 := Fv_r1.other W7 (Or.inl n1)
  replace Fc_r1 := Fc_r1.other W7 (Or.inl n1)
  replace A_b := A_b.other W7 n2
  replace F_count := F_count.same W7
  replace A5 := A5.other W7 (Ne.symm n5)
  refine o_aloadN G7 d26_43 (pc' := 44) rfl rfl rfl ?_
  exact o_areturn G7 rfl rfl rfl d26_44 ⟨rfl, K, F_value, F_coder, F_count, A5⟩ (by decide) (by decide)
set_option maxRecDepth 65536 in
set_option maxHeartbeats 40000000 in
theorem rm25_12 {l : Launch} {Z : State} {a0 : Array Value} (hw : ∀ d ∈ tables_1, d.before a0 Z = true) (r0 : Addr) (r1 : Addr) (h0 : Heap) (n0 : Nat) (hz : n0 ≤ h0.size) (cs : Int32) (hcs : ¬ cs = 0) (S : Sta Z h0 "java/lang/String" "COMPACT_STRINGS" "Z" (.int cs)) (vb : Addr) (E_r0 : Exa Z h0 r0 "java/lang/StringBuilder") (F_value : Fld Z h0 r0 "java/lang/AbstractStringBuilder" "value" "[B" (.ref vb)) (F_coder : Fld Z h0 r0 "java/lang/AbstractStringBuilder" "coder" "B" (.int (0 : Int32))) (g_vb : n0 ≤ vb) (w : Nat → Int32) (A_vb : OArr Z h0 vb .byte 16 (fun j => .int (own_by (w j)))) (g_r0 : n0 ≤ r0) (F_count : Fld Z h0 r0 "java/lang/AbstractStringBuilder" "count" "I" (.int (1 : Int32))) (b : Addr) (g : Nat → Int32) (E_r1 : Exa Z h0 r1 "java/lang/String") (Fv_r1 : Fld Z h0 r1 "java/lang/String" "value" "[B" (.ref b)) (Fc_r1 : Fld Z h0 r1 "java/lang/String" "coder" "B" (.int (0 : Int32))) (A_b : OArr Z h0 b .byte 2 (fun j => .int (own_by (g j)))) (n1 : r1 ≠ r0) (n2 : b ≠ r0) (n3 : r1 ≠ vb) (n4 : b ≠ vb) (n5 : r0 ≠ vb) :
    OMet l Z (⟨"java/lang/StringBuilder", "append", "(Ljava/lang/String;)Ljava/lang/StringBuilder;"⟩ : MethodName) jdk_67_method_7_code 2 (some (.object "java/lang/StringBuilder")) ({ frames := 4, cells := 0, slots := 0, locals := 67 } : Room) #[(.ref r0), (.ref r1)] h0 n0 ({ frames := 4, cells := 0, slots := 0, locals := 67 } : Room).cells ({ frames := 4, cells := 0, slots := 0, locals := 67 } : Room).slots (fun v h => v = some (.ref r0) ∧ Keep h0 h [r0, vb] ∧ Fld Z h r0 "java/lang/AbstractStringBuilder" "value" "[B" (.ref vb) ∧ Fld Z h r0 "java/lang/AbstractStringBuilder" "coder" "B" (.int (0 : Int32)) ∧ Fld Z h r0 "java/lang/AbstractStringBuilder" "count" "I" (.int (3 : Int32)) ∧ OArr Z h vb .byte 16 (fun j => .int (own_by ((fun j => if 1 ≤ j ∧ j < 1 + 2 then g (0 + (j - 1)) else w j) j)))) := by
  refine o_body (plainFor_of_name pn_25) hz (fun m => ef_25 m r0 r1) ?_
  intro p e s m below meth c s₁ G0
  have K : Keep h0 h0 [r0, vb] := Keep.refl _ _
  refine o_aloadN G0 d25_0 (pc' := 1) rfl rfl rfl ?_
  refine o_aloadN G0 d25_1 (pc' := 2) rfl rfl rfl ?_
  refine o_callSup G0 (z := (⟨"java/lang/AbstractStringBuilder", "append", "(Ljava/lang/String;)Ljava/lang/AbstractStringBuilder;"⟩ : MethodName)) (argsL := [(.ref r1)]) (rest := []) (W := 0) (Ins.self E_r0) (ow hw 138 rfl) (ow hw 139 rfl) (ow hw 140 rfl) (o_face (notFace_of_selects (ow hw 149 rfl)) rfl (ow hw 147 rfl)) (by decide) d25_2 (by decide) (ow hw 125 rfl) (ow hw 142 rfl) (rm26_12 hw r0 r1 h0 n0 G0.sz cs hcs S vb E_r0 F_value F_coder g_vb w A_vb g_r0 F_count b g E_r1 Fv_r1 Fc_r1 A_b n1 n2 n3 n4 n5) (by decide) (by decide) rfl (lenOf pd_15 rfl) rfl (Nat.le_of_eq rfl) (pc' := 5) rfl (by decide) (by decide) ?_
  rintro _ T1 h1 G1 ⟨rfl, K1, hQ1⟩
  replace S := o_stak S K1 (allS E_r0.nostat (allS A_vb.nostat all0))
  replace K := K.trans K1 (allS (Or.inl (List.mem_of_getElem? (i := 0) rfl)) (allS (Or.inl (List.mem_of_getElem? (i := 1) rfl)) all0))
  replace E_r0 := E_r0.keep K1
  replace E_r1 := E_r1.keep K1
  replace Fv_r1 := Fv_r1.keep K1 (ninS n1 (ninS n3 nin0))
  replace Fc_r1 := Fc_r1.keep K1 (ninS n1 (ninS n3 nin0))
  replace A_b := A_b.keep K1 (ninS n2 (ninS n4 nin0))
  show OFin _ _ _ _ T1 (mkF m 5 #[.val (.ref r0), .val (.ref r1)] [(.ref r0)])
  refine o_pop G1 d25_5 (pc' := 6) rfl rfl ?_
  refine o_aloadN G1 d25_6 (pc' := 7) rfl rfl rfl ?_
  exact o_areturn G1 rfl rfl rfl d25_7 ⟨rfl, K, hQ1⟩ (by decide) (by decide)
theorem d41_0 : decode jdk_29_method_69_code 0 = .ok (.iload_n 0, 1) := by decide +kernel
theorem d41_1 : decode jdk_29_method_69_code 1 = .ok (.iload_n 1, 1) := by decide +kernel
theorem d41_2 : decode jdk_29_method_69_code 2 = .ok (.if_icmp .gt 7, 3) := by decide +kernel
theorem d41_5 : decode jdk_29_method_69_code 5 = .ok (.iload_n 0, 1) := by decide +kernel
theorem d41_6 : decode jdk_29_method_69_code 6 = .ok (.goto 4, 3) := by decide +kernel
theorem d41_9 : decode jdk_29_method_69_code 9 = .ok (.iload_n 1, 1) := by decide +kernel
theorem d41_10 : decode jdk_29_method_69_code 10 = .ok (.ireturn, 1) := by decide +kernel
theorem ef_41 (m : MethodId) (p0 : Int32) (p1 : Int32) : entryFrame m #[(.int p0), (.int p1)] 2 = mkF m 0 #[.val (.int p0), .val (.int p1)] [] := by first | (simp [entryFrame, mkF, argsToLocals, Value.category]; done) | rfl
def f_41 (p0 : Int32) (p1 : Int32) : Int32 := if p1 < p0 then p1 else p0
set_option maxRecDepth 65536 in
set_option maxHeartbeats 40000000 in
theorem rm41 {l : Launch} {Z : State} {a0 : Array Value} (hw : ∀ d ∈ tables_1, d.before a0 Z = true) (p0 : Int32) (p1 : Int32) (h0 : Heap) (n0 : Nat) (hz : n0 ≤ h0.size) :
    OMet l Z (⟨"java/lang/Math", "min", "(II)I"⟩ : MethodName) jdk_29_method_69_code 2 (some .int) ({ frames := 0, cells := 0, slots := 0, locals := 0 } : Room) #[(.int p0), (.int p1)] h0 n0 ({ frames := 0, cells := 0, slots := 0, locals := 0 } : Room).cells ({ frames := 0, cells := 0, slots := 0, locals := 0 } : Room).slots (OVal h0 (.int (f_41 p0 p1))) := by
  refine o_body (Jvm.Free.JP.mathPlain rfl (by decide +kernel)) hz (fun m => ef_41 m p0 p1) ?_
  intro p e s m below meth c s₁ G0
  refine o_iloadN G0 d41_0 (pc' := 1) rfl rfl ?_
  refine o_iloadN G0 d41_1 (pc' := 2) rfl rfl ?_
  refine o_icmp_gt G0 d41_2 (by decide) (pcT := 9) (by decide) (pc' := 5) rfl (fun hc2 => ?_) (fun hc2 => ?_)
  · refine o_iloadN G0 d41_9 (pc' := 10) rfl rfl ?_
    have hq : p1 = f_41 p0 p1 := by
      rw [f_41, if_pos hc2]
    exact o_ireturn G0 d41_10 ⟨congrArg (fun z => some (Value.int z)) hq, rfl⟩ (by decide) (by decide)
  · refine o_iloadN G0 d41_5 (pc' := 6) rfl rfl ?_
    refine o_goto G0 d41_6 (by decide) (pc' := 10) rfl ?_
    have hq : p0 = f_41 p0 p1 := by
      rw [f_41, if_neg hc2]
    exact o_ireturn G0 d41_10 ⟨congrArg (fun z => some (Value.int z)) hq, rfl⟩ (by decide) (by decide)
theorem d40_0 : decode jdk_65_method_131_code 0 = .ok (.iload_n 1, 1) := by decide +kernel
theorem d40_1 : decode jdk_65_method_131_code 1 = .ok (.iload_n 0, 1) := by decide +kernel
theorem d40_2 : decode jdk_65_method_131_code 2 = .ok (.if_icmp .ge 35, 3) := by decide +kernel
theorem d40_37 : decode jdk_65_method_131_code 37 = .ok (.return_, 1) := by decide +kernel
theorem pn_40 : plainName "java/util/Arrays" = true := by first | (simp [plainName, overriddenIn]; done) | decide +kernel
theorem ef_40 (m : MethodId) (p0 : Int32) (p1 : Int32) : entryFrame m #[(.int p0), (.int p1)] 2 = mkF m 0 #[.val (.int p0), .val (.int p1)] [] := by first | (simp [entryFrame, mkF, argsToLocals, Value.category]; done) | rfl
set_option maxRecDepth 65536 in
set_option maxHeartbeats 40000000 in
theorem rm40_1601 {l : Launch} {Z : State} {a0 : Array Value} (hw : ∀ d ∈ tables_1, d.before a0 Z = true)  (h0 : Heap) (n0 : Nat) (hz : n0 ≤ h0.size) :
    OMet l Z (⟨"java/util/Arrays", "checkLength", "(II)V"⟩ : MethodName) jdk_65_method_131_code 2 none ({ frames := 0, cells := 0, slots := 0, locals := 0 } : Room) #[(.int (0 : Int32)), (.int (1 : Int32))] h0 n0 ({ frames := 0, cells := 0, slots := 0, locals := 0 } : Room).cells ({ frames := 0, cells := 0, slots := 0, locals := 0 } : Room).slots (fun v h => v = none ∧ h0 = h) := by
  refine o_body (plainFor_of_name pn_40) hz (fun m => ef_40 m (0 : Int32) (1 : Int32)) ?_
  intro p e s m below meth c s₁ G0
  refine o_iloadN G0 d40_0 (pc' := 1) rfl rfl ?_
  refine o_iloadN G0 d40_1 (pc' := 2) rfl rfl ?_
  refine o_icmp_ge G0 d40_2 (by decide) (pcT := 37) (by decide) (pc' := 5) rfl (fun _ => ?_) (fun q => absurd q (by decide))
  exact o_return G0 d40_37 ⟨rfl, rfl⟩ (by decide) (by decide)
theorem d39_0 : decode jdk_65_method_133_code 0 = .ok (.iload_n 1, 1) := by decide +kernel
theorem d39_1 : decode jdk_65_method_133_code 1 = .ok (.iload_n 2, 1) := by decide +kernel
theorem d39_2 : decode jdk_65_method_133_code 2 = .ok (.invokestatic 343, 3) := by decide +kernel
theorem d39_5 : decode jdk_65_method_133_code 5 = .ok (.iload_n 2, 1) := by decide +kernel
theorem d39_6 : decode jdk_65_method_133_code 6 = .ok (.iload_n 1, 1) := by decide +kernel
theorem d39_7 : decode jdk_65_method_133_code 7 = .ok (.isub, 1) := by decide +kernel
theorem d39_8 : decode jdk_65_method_133_code 8 = .ok (.istore_n 3, 1) := by decide +kernel
theorem d39_9 : decode jdk_65_method_133_code 9 = .ok (.iload_n 3, 1) := by decide +kernel
theorem d39_10 : decode jdk_65_method_133_code 10 = .ok (.newarray .byte, 2) := by decide +kernel
theorem d39_12 : decode jdk_65_method_133_code 12 = .ok (.astore 4, 2) := by decide +kernel
theorem d39_14 : decode jdk_65_method_133_code 14 = .ok (.aload_n 0, 1) := by decide +kernel
theorem d39_15 : decode jdk_65_method_133_code 15 = .ok (.iload_n 1, 1) := by decide +kernel
theorem d39_16 : decode jdk_65_method_133_code 16 = .ok (.aload 4, 2) := by decide +kernel
theorem d39_18 : decode jdk_65_method_133_code 18 = .ok (.iconst 0, 1) := by decide +kernel
theorem d39_19 : decode jdk_65_method_133_code 19 = .ok (.aload_n 0, 1) := by decide +kernel
theorem d39_20 : decode jdk_65_method_133_code 20 = .ok (.arraylength, 1) := by decide +kernel
theorem d39_21 : decode jdk_65_method_133_code 21 = .ok (.iload_n 1, 1) := by decide +kernel
theorem d39_22 : decode jdk_65_method_133_code 22 = .ok (.isub, 1) := by decide +kernel
theorem d39_23 : decode jdk_65_method_133_code 23 = .ok (.iload_n 3, 1) := by decide +kernel
theorem d39_24 : decode jdk_65_method_133_code 24 = .ok (.invokestatic 304, 3) := by decide +kernel
theorem d39_27 : decode jdk_65_method_133_code 27 = .ok (.invokestatic 150, 3) := by decide +kernel
theorem d39_30 : decode jdk_65_method_133_code 30 = .ok (.aload 4, 2) := by decide +kernel
theorem d39_32 : decode jdk_65_method_133_code 32 = .ok (.areturn, 1) := by decide +kernel
theorem pn_39 : plainName "java/util/Arrays" = true := by first | (simp [plainName, overriddenIn]; done) | decide +kernel
theorem ef_39 (m : MethodId) (r0 : Addr) (p1 : Int32) (p2 : Int32) : entryFrame m #[(.ref r0), (.int p1), (.int p2)] 5 = mkF m 0 #[.val (.ref r0), .val (.int p1), .val (.int p2), .unset, .unset] [] := by first | (simp [entryFrame, mkF, argsToLocals, Value.category]; done) | rfl
set_option maxRecDepth 65536 in
set_option maxHeartbeats 40000000 in
theorem rm39_1601 {l : Launch} {Z : State} {a0 : Array Value} (hw : ∀ d ∈ tables_1, d.before a0 Z = true) (r0 : Addr) (h0 : Heap) (n0 : Nat) (hz : n0 ≤ h0.size) (g : Nat → Int32) (A_r0 : OArr Z h0 r0 .byte 16 (fun j => .int (own_by (g j)))) :
    OMet l Z (⟨"java/util/Arrays", "copyOfRangeByte", "([BII)[B"⟩ : MethodName) jdk_65_method_133_code 5 (some (.array .byte)) ({ frames := 1, cells := 1, slots := 1, locals := 24 } : Room) #[(.ref r0), (.int (0 : Int32)), (.int (1 : Int32))] h0 n0 ({ frames := 1, cells := 1, slots := 1, locals := 24 } : Room).cells ({ frames := 1, cells := 1, slots := 1, locals := 24 } : Room).slots (fun v h => ∃ b : Addr, v = some (.ref b) ∧ n0 ≤ b ∧ h0.size ≤ b ∧ Keep h0 h [] ∧ OArr Z h b .byte 1 (fun j => .int (own_by ((fun j => g (0 + j)) j)))) := by
  refine o_body (plainFor_of_name pn_39) hz (fun m => ef_39 m r0 (0 : Int32) (1 : Int32)) ?_
  intro p e s m below meth c s₁ G0
  have K : Keep h0 h0 [] := Keep.refl _ _
  refine o_iloadN G0 d39_0 (pc' := 1) rfl rfl ?_
  refine o_iloadN G0 d39_1 (pc' := 2) rfl rfl ?_
  refine o_callS G0 (z := (⟨"java/util/Arrays", "checkLength", "(II)V"⟩ : MethodName)) (argsL := [(.int (0 : Int32)), (.int (1 : Int32))]) (rest := []) (W := 0) (ow hw 208 rfl) (ow hw 209 rfl) d39_2 (by decide) (ow hw 203 rfl) (ow hw 210 rfl) (rm40_1601 hw h0 n0 G0.sz) (by decide) (by decide) rfl (lenOf pd_16 rfl) rfl (Nat.le_of_eq rfl) (pc' := 5) rfl (by decide) (by decide) ?_
  rintro _ T1 h1 G1 ⟨rfl, hh⟩
  subst hh
  show OFin _ _ _ _ T1 (mkF m 5 #[.val (.ref r0), .val (.int (0 : Int32)), .val (.int (1 : Int32)), .unset, .unset] [])
  refine o_iloadN G1 d39_5 (pc' := 6) rfl rfl ?_
  refine o_iloadN G1 d39_6 (pc' := 7) rfl rfl ?_
  refine o_isub G1 d39_7 (pc' := 8) rfl (v := (1 : Int32)) (by decide) ?_
  refine o_istoreN G1 d39_8 (pc' := 9) rfl (l' := #[.val (.ref r0), .val (.int (0 : Int32)), .val (.int (1 : Int32)), .val (.int (1 : Int32)), .unset]) rfl ?_
  refine o_iloadN G1 d39_9 (pc' := 10) rfl rfl ?_
  refine o_newarray G1 (N := 1) (cap := 1) (ow hw 21 rfl) rfl (by decide) (by decide) d39_10 (pc' := 12) rfl (by decide) (by decide) ?_
  intro T2 h2 b2 G2 g2 g_b2 E2 A_b2
  have ne_r0_b2 : r0 ≠ b2 := Nat.ne_of_lt (Nat.lt_of_lt_of_eq A_r0.lt g2.symm)
  have sz_b2 : h0.size ≤ b2 := Nat.le_trans K.1 (Nat.le_of_eq g2.symm)
  replace K := K.ext E2
  replace A_r0 := A_r0.ext E2
  replace A_b2 : OArr Z h2 b2 .byte 1 (fun _ => (.int (0 : Int32))) := A_b2
  refine o_astore G2 d39_12 (pc' := 14) rfl rfl (l' := #[.val (.ref r0), .val (.int (0 : Int32)), .val (.int (1 : Int32)), .val (.int (1 : Int32)), .val (.ref b2)]) rfl ?_
  refine o_aloadN G2 d39_14 (pc' := 15) rfl rfl rfl ?_
  refine o_iloadN G2 d39_15 (pc' := 16) rfl rfl ?_
  refine o_aload G2 d39_16 (pc' := 18) rfl rfl rfl ?_
  refine o_iconst G2 d39_18 (pc' := 19) rfl (v := (0 : Int32)) rfl ?_
  refine o_aloadN G2 d39_19 (pc' := 20) rfl rfl rfl ?_
  refine o_arraylength G2 A_r0 (v := (16 : Int32)) rfl d39_20 (pc' := 21) rfl ?_
  refine o_iloadN G2 d39_21 (pc' := 22) rfl rfl ?_
  refine o_isub G2 d39_22 (pc' := 23) rfl (v := (16 : Int32)) (by decide) ?_
  refine o_iloadN G2 d39_23 (pc' := 24) rfl rfl ?_
  refine o_callP G2 (z := (⟨"java/lang/Math", "min", "(II)I"⟩ : MethodName)) (r := .int (1 : Int32)) (argsL := [(.int (16 : Int32)), (.int (1 : Int32))]) (rest := [(.int (0 : Int32)), (.ref b2), (.int (0 : Int32)), (.ref r0)]) (W := 4) (ow hw 211 rfl) (ow hw 212 rfl) d39_24 (by decide) (ow hw 213 rfl) (ow hw 214 rfl) (by rw [show (1 : Int32) = f_41 (16 : Int32) (1 : Int32) by decide]; exact rm41 hw (16 : Int32) (1 : Int32) h2 n0 G2.sz) (by decide) (by decide) rfl (lenOf pd_17 rfl) rfl (Nat.le_of_eq rfl) (pc' := 27) rfl (by decide) (by decide) ?_
  intro T3 G3
  refine o_acopy G3 (S := 0) (D := 0) (L := 1) (rest := []) A_r0 A_b2 (by intro i _; first | exact fits_nar_byte _ | rfl | (simp only [o_set]; (repeat' split) <;> rfl)) (by intro i _; first | exact fits_nar_byte _ | rfl | (simp only [o_set]; (repeat' split) <;> rfl)) (by decide) (by decide) rfl rfl rfl rfl (by decide) (by decide) (ow hw 215 rfl) (ow hw 170 rfl) (ow hw 168 rfl) (ow hw 169 rfl) g_b2 rfl d39_27 (pc' := 30) rfl (by decide) (W := 0) (Nat.le_of_eq rfl) (by decide) ?_
  intro T4 h4 c4 G4 K4 A4 Q4
  replace K := K.trans K4 (allS (Or.inr sz_b2) all0)
  replace A_r0 := A_r0.keep K4 (ninS ne_r0_b2 nin0)
  have A_b2 := A4
  refine o_aload G4 d39_30 (pc' := 32) rfl rfl rfl ?_
  exact o_areturn G4 rfl rfl rfl d39_32 ⟨b2, rfl, g_b2, sz_b2, K, A_b2.congr (by intro j hj; rw [Q4 j hj, if_pos ⟨Nat.zero_le _, by omega⟩]; rfl)⟩ (by decide) (by decide)
theorem d38_0 : decode jdk_65_method_132_code 0 = .ok (.iload_n 1, 1) := by decide +kernel
theorem d38_1 : decode jdk_65_method_132_code 1 = .ok (.ifCond .ne 9, 3) := by decide +kernel
theorem d38_4 : decode jdk_65_method_132_code 4 = .ok (.iload_n 2, 1) := by decide +kernel
theorem d38_5 : decode jdk_65_method_132_code 5 = .ok (.aload_n 0, 1) := by decide +kernel
theorem d38_6 : decode jdk_65_method_132_code 6 = .ok (.arraylength, 1) := by decide +kernel
theorem d38_7 : decode jdk_65_method_132_code 7 = .ok (.if_icmp .eq 10, 3) := by decide +kernel
theorem d38_10 : decode jdk_65_method_132_code 10 = .ok (.aload_n 0, 1) := by decide +kernel
theorem d38_11 : decode jdk_65_method_132_code 11 = .ok (.iload_n 1, 1) := by decide +kernel
theorem d38_12 : decode jdk_65_method_132_code 12 = .ok (.iload_n 2, 1) := by decide +kernel
theorem d38_13 : decode jdk_65_method_132_code 13 = .ok (.invokestatic 339, 3) := by decide +kernel
theorem d38_16 : decode jdk_65_method_132_code 16 = .ok (.areturn, 1) := by decide +kernel
theorem pn_38 : plainName "java/util/Arrays" = true := by first | (simp [plainName, overriddenIn]; done) | decide +kernel
theorem ef_38 (m : MethodId) (r0 : Addr) (p1 : Int32) (p2 : Int32) : entryFrame m #[(.ref r0), (.int p1), (.int p2)] 3 = mkF m 0 #[.val (.ref r0), .val (.int p1), .val (.int p2)] [] := by first | (simp [entryFrame, mkF, argsToLocals, Value.category]; done) | rfl
set_option maxRecDepth 65536 in
set_option maxHeartbeats 40000000 in
theorem rm38_1601 {l : Launch} {Z : State} {a0 : Array Value} (hw : ∀ d ∈ tables_1, d.before a0 Z = true) (r0 : Addr) (h0 : Heap) (n0 : Nat) (hz : n0 ≤ h0.size) (g : Nat → Int32) (A_r0 : OArr Z h0 r0 .byte 16 (fun j => .int (own_by (g j)))) :
    OMet l Z (⟨"java/util/Arrays", "copyOfRange", "([BII)[B"⟩ : MethodName) jdk_65_method_132_code 3 (some (.array .byte)) ({ frames := 2, cells := 1, slots := 1, locals := 40 } : Room) #[(.ref r0), (.int (0 : Int32)), (.int (1 : Int32))] h0 n0 ({ frames := 2, cells := 1, slots := 1, locals := 40 } : Room).cells ({ frames := 2, cells := 1, slots := 1, locals := 40 } : Room).slots (fun v h => ∃ b : Addr, v = some (.ref b) ∧ n0 ≤ b ∧ h0.size ≤ b ∧ Keep h0 h [] ∧ OArr Z h b .byte 1 (fun j => .int (own_by ((fun j => g (0 + j)) j)))) := by
  refine o_body (plainFor_of_name pn_38) hz (fun m => ef_38 m r0 (0 : Int32) (1 : Int32)) ?_
  intro p e s m below meth c s₁ G0
  have K : Keep h0 h0 [] := Keep.refl _ _
  refine o_iloadN G0 d38_0 (pc' := 1) rfl rfl ?_
  refine o_if_ne G0 d38_1 (by decide) (pcT := 10) (by decide) (pc' := 4) rfl (fun q => absurd (by decide) q) (fun _ => ?_)
  refine o_iloadN G0 d38_4 (pc' := 5) rfl rfl ?_
  refine o_aloadN G0 d38_5 (pc' := 6) rfl rfl rfl ?_
  refine o_arraylength G0 A_r0 (v := (16 : Int32)) rfl d38_6 (pc' := 7) rfl ?_
  refine o_icmp_eq G0 d38_7 (by decide) (pcT := 17) (by decide) (pc' := 10) rfl (fun q => absurd q (by decide)) (fun _ => ?_)
  refine o_aloadN G0 d38_10 (pc' := 11) rfl rfl rfl ?_
  refine o_iloadN G0 d38_11 (pc' := 12) rfl rfl ?_
  refine o_iloadN G0 d38_12 (pc' := 13) rfl rfl ?_
  refine o_callS G0 (z := (⟨"java/util/Arrays", "copyOfRangeByte", "([BII)[B"⟩ : MethodName)) (argsL := [(.ref r0), (.int (0 : Int32)), (.int (1 : Int32))]) (rest := []) (W := 0) (ow hw 205 rfl) (ow hw 206 rfl) d38_13 (by decide) (ow hw 203 rfl) (ow hw 207 rfl) (rm39_1601 hw r0 h0 n0 G0.sz g A_r0) (by decide) (by decide) rfl (lenOf pd_18 rfl) rfl (Nat.le_of_eq rfl) (pc' := 16) rfl (by decide) (by decide) ?_
  rintro _ T1 h1 G1 ⟨b1, rfl, g_b1, hb1, K1, A_b1⟩
  have ne_r0_b1 : r0 ≠ b1 := Nat.ne_of_lt (Nat.lt_of_lt_of_le A_r0.lt hb1)
  have sz_b1 : h0.size ≤ b1 := Nat.le_trans K.1 hb1
  replace K := K.trans K1 all0
  replace A_r0 := A_r0.keep K1 nin0
  show OFin _ _ _ _ T1 (mkF m 16 #[.val (.ref r0), .val (.int (0 : Int32)), .val (.int (1 : Int32))] [(.ref b1)])
  exact o_areturn G1 rfl rfl rfl d38_16 ⟨b1, rfl, g_b1, sz_b1, K, A_b1⟩ (by decide) (by decide)
set_option maxRecDepth 65536 in
set_option maxHeartbeats 40000000 in
theorem rm40_1603 {l : Launch} {Z : State} {a0 : Array Value} (hw : ∀ d ∈ tables_1, d.before a0 Z = true)  (h0 : Heap) (n0 : Nat) (hz : n0 ≤ h0.size) :
    OMet l Z (⟨"java/util/Arrays", "checkLength", "(II)V"⟩ : MethodName) jdk_65_method_131_code 2 none ({ frames := 0, cells := 0, slots := 0, locals := 0 } : Room) #[(.int (0 : Int32)), (.int (3 : Int32))] h0 n0 ({ frames := 0, cells := 0, slots := 0, locals := 0 } : Room).cells ({ frames := 0, cells := 0, slots := 0, locals := 0 } : Room).slots (fun v h => v = none ∧ h0 = h) := by
  refine o_body (plainFor_of_name pn_40) hz (fun m => ef_40 m (0 : Int32) (3 : Int32)) ?_
  intro p e s m below meth c s₁ G0
  refine o_iloadN G0 d40_0 (pc' := 1) rfl rfl ?_
  refine o_iloadN G0 d40_1 (pc' := 2) rfl rfl ?_
  refine o_icmp_ge G0 d40_2 (by decide) (pcT := 37) (by decide) (pc' := 5) rfl (fun _ => ?_) (fun q => absurd q (by decide))
  exact o_return G0 d40_37 ⟨rfl, rfl⟩ (by decide) (by decide)
set_option maxRecDepth 65536 in
set_option maxHeartbeats 40000000 in
theorem rm39_1603 {l : Launch} {Z : State} {a0 : Array Value} (hw : ∀ d ∈ tables_1, d.before a0 Z = true) (r0 : Addr) (h0 : Heap) (n0 : Nat) (hz : n0 ≤ h0.size) (g : Nat → Int32) (A_r0 : OArr Z h0 r0 .byte 16 (fun j => .int (own_by (g j)))) :
    OMet l Z (⟨"java/util/Arrays", "copyOfRangeByte", "([BII)[B"⟩ : MethodName) jdk_65_method_133_code 5 (some (.array .byte)) ({ frames := 1, cells := 1, slots := 3, locals := 24 } : Room) #[(.ref r0), (.int (0 : Int32)), (.int (3 : Int32))] h0 n0 ({ frames := 1, cells := 1, slots := 3, locals := 24 } : Room).cells ({ frames := 1, cells := 1, slots := 3, locals := 24 } : Room).slots (fun v h => ∃ b : Addr, v = some (.ref b) ∧ n0 ≤ b ∧ h0.size ≤ b ∧ Keep h0 h [] ∧ OArr Z h b .byte 3 (fun j => .int (own_by ((fun j => g (0 + j)) j)))) := by
  refine o_body (plainFor_of_name pn_39) hz (fun m => ef_39 m r0 (0 : Int32) (3 : Int32)) ?_
  intro p e s m below meth c s₁ G0
  have K : Keep h0 h0 [] := Keep.refl _ _
  refine o_iloadN G0 d39_0 (pc' := 1) rfl rfl ?_
  refine o_iloadN G0 d39_1 (pc' := 2) rfl rfl ?_
  refine o_callS G0 (z := (⟨"java/util/Arrays", "checkLength", "(II)V"⟩ : MethodName)) (argsL := [(.int (0 : Int32)), (.int (3 : Int32))]) (rest := []) (W := 0) (ow hw 208 rfl) (ow hw 209 rfl) d39_2 (by decide) (ow hw 203 rfl) (ow hw 210 rfl) (rm40_1603 hw h0 n0 G0.sz) (by decide) (by decide) rfl (lenOf pd_16 rfl) rfl (Nat.le_of_eq rfl) (pc' := 5) rfl (by decide) (by decide) ?_
  rintro _ T1 h1 G1 ⟨rfl, hh⟩
  subst hh
  show OFin _ _ _ _ T1 (mkF m 5 #[.val (.ref r0), .val (.int (0 : Int32)), .val (.int (3 : Int32)), .unset, .unset] [])
  refine o_iloadN G1 d39_5 (pc' := 6) rfl rfl ?_
  refine o_iloadN G1 d39_6 (pc' := 7) rfl rfl ?_
  refine o_isub G1 d39_7 (pc' := 8) rfl (v := (3 : Int32)) (by decide) ?_
  refine o_istoreN G1 d39_8 (pc' := 9) rfl (l' := #[.val (.ref r0), .val (.int (0 : Int32)), .val (.int (3 : Int32)), .val (.int (3 : Int32)), .unset]) rfl ?_
  refine o_iloadN G1 d39_9 (pc' := 10) rfl rfl ?_
  refine o_newarray G1 (N := 3) (cap := 3) (ow hw 21 rfl) rfl (by decide) (by decide) d39_10 (pc' := 12) rfl (by decide) (by decide) ?_
  intro T2 h2 b2 G2 g2 g_b2 E2 A_b2
  have ne_r0_b2 : r0 ≠ b2 := Nat.ne_of_lt (Nat.lt_of_lt_of_eq A_r0.lt g2.symm)
  have sz_b2 : h0.size ≤ b2 := Nat.le_trans K.1 (Nat.le_of_eq g2.symm)
  replace K := K.ext E2
  replace A_r0 := A_r0.ext E2
  replace A_b2 : OArr Z h2 b2 .byte 3 (fun _ => (.int (0 : Int32))) := A_b2
  refine o_astore G2 d39_12 (pc' := 14) rfl rfl (l' := #[.val (.ref r0), .val (.int (0 : Int32)), .val (.int (3 : Int32)), .val (.int (3 : Int32)), .val (.ref b2)]) rfl ?_
  refine o_aloadN G2 d39_14 (pc' := 15) rfl rfl rfl ?_
  refine o_iloadN G2 d39_15 (pc' := 16) rfl rfl ?_
  refine o_aload G2 d39_16 (pc' := 18) rfl rfl rfl ?_
  refine o_iconst G2 d39_18 (pc' := 19) rfl (v := (0 : Int32)) rfl ?_
  refine o_aloadN G2 d39_19 (pc' := 20) rfl rfl rfl ?_
  refine o_arraylength G2 A_r0 (v := (16 : Int32)) rfl d39_20 (pc' := 21) rfl ?_
  refine o_iloadN G2 d39_21 (pc' := 22) rfl rfl ?_
  refine o_isub G2 d39_22 (pc' := 23) rfl (v := (16 : Int32)) (by decide) ?_
  refine o_iloadN G2 d39_23 (pc' := 24) rfl rfl ?_
  refine o_callP G2 (z := (⟨"java/lang/Math", "min", "(II)I"⟩ : MethodName)) (r := .int (3 : Int32)) (argsL := [(.int (16 : Int32)), (.int (3 : Int32))]) (rest := [(.int (0 : Int32)), (.ref b2), (.int (0 : Int32)), (.ref r0)]) (W := 4) (ow hw 211 rfl) (ow hw 212 rfl) d39_24 (by decide) (ow hw 213 rfl) (ow hw 214 rfl) (by rw [show (3 : Int32) = f_41 (16 : Int32) (3 : Int32) by decide]; exact rm41 hw (16 : Int32) (3 : Int32) h2 n0 G2.sz) (by decide) (by decide) rfl (lenOf pd_17 rfl) rfl (Nat.le_of_eq rfl) (pc' := 27) rfl (by decide) (by decide) ?_
  intro T3 G3
  refine o_acopy G3 (S := 0) (D := 0) (L := 3) (rest := []) A_r0 A_b2 (by intro i _; first | exact fits_nar_byte _ | rfl | (simp only [o_set]; (repeat' split) <;> rfl)) (by intro i _; first | exact fits_nar_byte _ | rfl | (simp only [o_set]; (repeat' split) <;> rfl)) (by decide) (by decide) rfl rfl rfl rfl (by decide) (by decide) (ow hw 215 rfl) (ow hw 170 rfl) (ow hw 168 rfl) (ow hw 169 rfl) g_b2 rfl d39_27 (pc' := 30) rfl (by decide) (W := 0) (Nat.le_of_eq rfl) (by decide) ?_
  intro T4 h4 c4 G4 K4 A4 Q4
  replace K := K.trans K4 (allS (Or.inr sz_b2) all0)
  replace A_r0 := A_r0.keep K4 (ninS ne_r0_b2 nin0)
  have A_b2 := A4
  refine o_aload G4 d39_30 (pc' := 32) rfl rfl rfl ?_
  exact o_areturn G4 rfl rfl rfl d39_32 ⟨b2, rfl, g_b2, sz_b2, K, A_b2.congr (by intro j hj; rw [Q4 j hj, if_pos ⟨Nat.zero_le _, by omega⟩]; rfl)⟩ (by decide) (by decide)
set_option maxRecDepth 65536 in
set_option maxHeartbeats 40000000 in
theorem rm38_1603 {l : Launch} {Z : State} {a0 : Array Value} (hw : ∀ d ∈ tables_1, d.before a0 Z = true) (r0 : Addr) (h0 : Heap) (n0 : Nat) (hz : n0 ≤ h0.size) (g : Nat → Int32) (A_r0 : OArr Z h0 r0 .byte 16 (fun j => .int (own_by (g j)))) :
    OMet l Z (⟨"java/util/Arrays", "copyOfRange", "([BII)[B"⟩ : MethodName) jdk_65_method_132_code 3 (some (.array .byte)) ({ frames := 2, cells := 1, slots := 3, locals := 40 } : Room) #[(.ref r0), (.int (0 : Int32)), (.int (3 : Int32))] h0 n0 ({ frames := 2, cells := 1, slots := 3, locals := 40 } : Room).cells ({ frames := 2, cells := 1, slots := 3, locals := 40 } : Room).slots (fun v h => ∃ b : Addr, v = some (.ref b) ∧ n0 ≤ b ∧ h0.size ≤ b ∧ Keep h0 h [] ∧ OArr Z h b .byte 3 (fun j => .int (own_by ((fun j => g (0 + j)) j)))) := by
  refine o_body (plainFor_of_name pn_38) hz (fun m => ef_38 m r0 (0 : Int32) (3 : Int32)) ?_
  intro p e s m below meth c s₁ G0
  have K : Keep h0 h0 [] := Keep.refl _ _
  refine o_iloadN G0 d38_0 (pc' := 1) rfl rfl ?_
  refine o_if_ne G0 d38_1 (by decide) (pcT := 10) (by decide) (pc' := 4) rfl (fun q => absurd (by decide) q) (fun _ => ?_)
  refine o_iloadN G0 d38_4 (pc' := 5) rfl rfl ?_
  refine o_aloadN G0 d38_5 (pc' := 6) rfl rfl rfl ?_
  refine o_arraylength G0 A_r0 (v := (16 : Int32)) rfl d38_6 (pc' := 7) rfl ?_
  refine o_icmp_eq G0 d38_7 (by decide) (pcT := 17) (by decide) (pc' := 10) rfl (fun q => absurd q (by decide)) (fun _ => ?_)
  refine o_aloadN G0 d38_10 (pc' := 11) rfl rfl rfl ?_
  refine o_iloadN G0 d38_11 (pc' := 12) rfl rfl ?_
  refine o_iloadN G0 d38_12 (pc' := 13) rfl rfl ?_
  refine o_callS G0 (z := (⟨"java/util/Arrays", "copyOfRangeByte", "([BII)[B"⟩ : MethodName)) (argsL := [(.ref r0), (.int (0 : Int32)), (.int (3 : Int32))]) (rest := []) (W := 0) (ow hw 205 rfl) (ow hw 206 rfl) d38_13 (by decide) (ow hw 203 rfl) (ow hw 207 rfl) (rm39_1603 hw r0 h0 n0 G0.sz g A_r0) (by decide) (by decide) rfl (lenOf pd_18 rfl) rfl (Nat.le_of_eq rfl) (pc' := 16) rfl (by decide) (by decide) ?_
  rintro _ T1 h1 G1 ⟨b1, rfl, g_b1, hb1, K1, A_b1⟩
  have ne_r0_b1 : r0 ≠ b1 := Nat.ne_of_lt (Nat.lt_of_lt_of_le A_r0.lt hb1)
  have sz_b1 : h0.size ≤ b1 := Nat.le_trans K.1 hb1
  replace K := K.trans K1 all0
  replace A_r0 := A_r0.keep K1 nin0
  show OFin _ _ _ _ T1 (mkF m 16 #[.val (.ref r0), .val (.int (0 : Int32)), .val (.int (3 : Int32))] [(.ref b1)])
  exact o_areturn G1 rfl rfl rfl d38_16 ⟨b1, rfl, g_b1, sz_b1, K, A_b1⟩ (by decide) (by decide)
set_option maxRecDepth 65536 in
set_option maxHeartbeats 40000000 in
theorem rm40_212 {l : Launch} {Z : State} {a0 : Array Value} (hw : ∀ d ∈ tables_1, d.before a0 Z = true)  (h0 : Heap) (n0 : Nat) (hz : n0 ≤ h0.size) :
    OMet l Z (⟨"java/util/Arrays", "checkLength", "(II)V"⟩ : MethodName) jdk_65_method_131_code 2 none ({ frames := 0, cells := 0, slots := 0, locals := 0 } : Room) #[(.int (1 : Int32)), (.int (2 : Int32))] h0 n0 ({ frames := 0, cells := 0, slots := 0, locals := 0 } : Room).cells ({ frames := 0, cells := 0, slots := 0, locals := 0 } : Room).slots (fun v h => v = none ∧ h0 = h) := by
  refine o_body (plainFor_of_name pn_40) hz (fun m => ef_40 m (1 : Int32) (2 : Int32)) ?_
  intro p e s m below meth c s₁ G0
  refine o_iloadN G0 d40_0 (pc' := 1) rfl rfl ?_
  refine o_iloadN G0 d40_1 (pc' := 2) rfl rfl ?_
  refine o_icmp_ge G0 d40_2 (by decide) (pcT := 37) (by decide) (pc' := 5) rfl (fun _ => ?_) (fun q => absurd q (by decide))
  exact o_return G0 d40_37 ⟨rfl, rfl⟩ (by decide) (by decide)
set_option maxRecDepth 65536 in
set_option maxHeartbeats 40000000 in
theorem rm39_212 {l : Launch} {Z : State} {a0 : Array Value} (hw : ∀ d ∈ tables_1, d.before a0 Z = true) (r0 : Addr) (h0 : Heap) (n0 : Nat) (hz : n0 ≤ h0.size) (g : Nat → Int32) (A_r0 : OArr Z h0 r0 .byte 2 (fun j => .int (own_by (g j)))) :
    OMet l Z (⟨"java/util/Arrays", "copyOfRangeByte", "([BII)[B"⟩ : MethodName) jdk_65_method_133_code 5 (some (.array .byte)) ({ frames := 1, cells := 1, slots := 3, locals := 24 } : Room) #[(.ref r0), (.int (1 : Int32)), (.int (2 : Int32))] h0 n0 ({ frames := 1, cells := 1, slots := 3, locals := 24 } : Room).cells ({ frames := 1, cells := 1, slots := 3, locals := 24 } : Room).slots (fun v h => ∃ b : Addr, v = some (.ref b) ∧ n0 ≤ b ∧ h0.size ≤ b ∧ Keep h0 h [] ∧ OArr Z h b .byte 1 (fun j => .int (own_by ((fun j => g (1 + j)) j)))) := by
  refine o_body (plainFor_of_name pn_39) hz (fun m => ef_39 m r0 (1 : Int32) (2 : Int32)) ?_
  intro p e s m below meth c s₁ G0
  have K : Keep h0 h0 [] := Keep.refl _ _
  refine o_iloadN G0 d39_0 (pc' := 1) rfl rfl ?_
  refine o_iloadN G0 d39_1 (pc' := 2) rfl rfl ?_
  refine o_callS G0 (z := (⟨"java/util/Arrays", "checkLength", "(II)V"⟩ : MethodName)) (argsL := [(.int (1 : Int32)), (.int (2 : Int32))]) (rest := []) (W := 0) (ow hw 208 rfl) (ow hw 209 rfl) d39_2 (by decide) (ow hw 203 rfl) (ow hw 210 rfl) (rm40_212 hw h0 n0 G0.sz) (by decide) (by decide) rfl (lenOf pd_16 rfl) rfl (Nat.le_of_eq rfl) (pc' := 5) rfl (by decide) (by decide) ?_
  rintro _ T1 h1 G1 ⟨rfl, hh⟩
  subst hh
  show OFin _ _ _ _ T1 (mkF m 5 #[.val (.ref r0), .val (.int (1 : Int32)), .val (.int (2 : Int32)), .unset, .unset] [])
  refine o_iloadN G1 d39_5 (pc' := 6) rfl rfl ?_
  refine o_iloadN G1 d39_6 (pc' := 7) rfl rfl ?_
  refine o_isub G1 d39_7 (pc' := 8) rfl (v := (1 : Int32)) (by decide) ?_
  refine o_istoreN G1 d39_8 (pc' := 9) rfl (l' := #[.val (.ref r0), .val (.int (1 : Int32)), .val (.int (2 : Int32)), .val (.int (1 : Int32)), .unset]) rfl ?_
  refine o_iloadN G1 d39_9 (pc' := 10) rfl rfl ?_
  refine o_newarray G1 (N := 1) (cap := 1) (ow hw 21 rfl) rfl (by decide) (by decide) d39_10 (pc' := 12) rfl (by decide) (by decide) ?_
  intro T2 h2 b2 G2 g2 g_b2 E2 A_b2
  have ne_r0_b2 : r0 ≠ b2 := Nat.ne_of_lt (Nat.lt_of_lt_of_eq A_r0.lt g2.symm)
  have sz_b2 : h0.size ≤ b2 := Nat.le_trans K.1 (Nat.le_of_eq g2.symm)
  replace K := K.ext E2
  replace A_r0 := A_r0.ext E2
  replace A_b2 : OArr Z h2 b2 .byte 1 (fun _ => (.int (0 : Int32))) := A_b2
  refine o_astore G2 d39_12 (pc' := 14) rfl rfl (l' := #[.val (.ref r0), .val (.int (1 : Int32)), .val (.int (2 : Int32)), .val (.int (1 : Int32)), .val (.ref b2)]) rfl ?_
  refine o_aloadN G2 d39_14 (pc' := 15) rfl rfl rfl ?_
  refine o_iloadN G2 d39_15 (pc' := 16) rfl rfl ?_
  refine o_aload G2 d39_16 (pc' := 18) rfl rfl rfl ?_
  refine o_iconst G2 d39_18 (pc' := 19) rfl (v := (0 : Int32)) rfl ?_
  refine o_aloadN G2 d39_19 (pc' := 20) rfl rfl rfl ?_
  refine o_arraylength G2 A_r0 (v := (2 : Int32)) rfl d39_20 (pc' := 21) rfl ?_
  refine o_iloadN G2 d39_21 (pc' := 22) rfl rfl ?_
  refine o_isub G2 d39_22 (pc' := 23) rfl (v := (1 : Int32)) (by decide) ?_
  refine o_iloadN G2 d39_23 (pc' := 24) rfl rfl ?_
  refine o_callP G2 (z := (⟨"java/lang/Math", "min", "(II)I"⟩ : MethodName)) (r := .int (1 : Int32)) (argsL := [(.int (1 : Int32)), (.int (1 : Int32))]) (rest := [(.int (0 : Int32)), (.ref b2), (.int (1 : Int32)), (.ref r0)]) (W := 4) (ow hw 211 rfl) (ow hw 212 rfl) d39_24 (by decide) (ow hw 213 rfl) (ow hw 214 rfl) (by rw [show (1 : Int32) = f_41 (1 : Int32) (1 : Int32) by decide]; exact rm41 hw (1 : Int32) (1 : Int32) h2 n0 G2.sz) (by decide) (by decide) rfl (lenOf pd_17 rfl) rfl (Nat.le_of_eq rfl) (pc' := 27) rfl (by decide) (by decide) ?_
  intro T3 G3
  refine o_acopy G3 (S := 1) (D := 0) (L := 1) (rest := []) A_r0 A_b2 (by intro i _; first | exact fits_nar_byte _ | rfl | (simp only [o_set]; (repeat' split) <;> rfl)) (by intro i _; first | exact fits_nar_byte _ | rfl | (simp only [o_set]; (repeat' split) <;> rfl)) (by decide) (by decide) rfl rfl rfl rfl (by decide) (by decide) (ow hw 215 rfl) (ow hw 170 rfl) (ow hw 168 rfl) (ow hw 169 rfl) g_b2 rfl d39_27 (pc' := 30) rfl (by decide) (W := 0) (Nat.le_of_eq rfl) (by decide) ?_
  intro T4 h4 c4 G4 K4 A4 Q4
  replace K := K.trans K4 (allS (Or.inr sz_b2) all0)
  replace A_r0 := A_r0.keep K4 (ninS ne_r0_b2 nin0)
  have A_b2 := A4
  refine o_aload G4 d39_30 (pc' := 32) rfl rfl rfl ?_
  exact o_areturn G4 rfl rfl rfl d39_32 ⟨b2, rfl, g_b2, sz_b2, K, A_b2.congr (by intro j hj; rw [Q4 j hj, if_pos ⟨Nat.zero_le _, by omega⟩]; rfl)⟩ (by decide) (by decide)
set_option maxRecDepth 65536 in
set_option maxHeartbeats 40000000 in
theorem rm38_212 {l : Launch} {Z : State} {a0 : Array Value} (hw : ∀ d ∈ tables_1, d.before a0 Z = true) (r0 : Addr) (h0 : Heap) (n0 : Nat) (hz : n0 ≤ h0.size) (g : Nat → Int32) (A_r0 : OArr Z h0 r0 .byte 2 (fun j => .int (own_by (g j)))) :
    OMet l Z (⟨"java/util/Arrays", "copyOfRange", "([BII)[B"⟩ : MethodName) jdk_65_method_132_code 3 (some (.array .byte)) ({ frames := 2, cells := 1, slots := 3, locals := 40 } : Room) #[(.ref r0), (.int (1 : Int32)), (.int (2 : Int32))] h0 n0 ({ frames := 2, cells := 1, slots := 3, locals := 40 } : Room).cells ({ frames := 2, cells := 1, slots := 3, locals := 40 } : Room).slots (fun v h => ∃ b : Addr, v = some (.ref b) ∧ n0 ≤ b ∧ h0.size ≤ b ∧ Keep h0 h [] ∧ OArr Z h b .byte 1 (fun j => .int (own_by ((fun j => g (1 + j)) j)))) := by
  refine o_body (plainFor_of_name pn_38) hz (fun m => ef_38 m r0 (1 : Int32) (2 : Int32)) ?_
  intro p e s m below meth c s₁ G0
  have K : Keep h0 h0 [] := Keep.refl _ _
  refine o_iloadN G0 d38_0 (pc' := 1) rfl rfl ?_
  refine o_if_ne G0 d38_1 (by decide) (pcT := 10) (by decide) (pc' := 4) rfl (fun _ => ?_) (fun q => absurd q (by decide))
  refine o_aloadN G0 d38_10 (pc' := 11) rfl rfl rfl ?_
  refine o_iloadN G0 d38_11 (pc' := 12) rfl rfl ?_
  refine o_iloadN G0 d38_12 (pc' := 13) rfl rfl ?_
  refine o_callS G0 (z := (⟨"java/util/Arrays", "copyOfRangeByte", "([BII)[B"⟩ : MethodName)) (argsL := [(.ref r0), (.int (1 : Int32)), (.int (2 : Int32))]) (rest := []) (W := 0) (ow hw 205 rfl) (ow hw 206 rfl) d38_13 (by decide) (ow hw 203 rfl) (ow hw 207 rfl) (rm39_212 hw r0 h0 n0 G0.sz g A_r0) (by decide) (by decide) rfl (lenOf pd_18 rfl) rfl (Nat.le_of_eq rfl) (pc' := 16) rfl (by decide) (by decide) ?_
  rintro _ T1 h1 G1 ⟨b1, rfl, g_b1, hb1, K1, A_b1⟩
  have ne_r0_b1 : r0 ≠ b1 := Nat.ne_of_lt (Nat.lt_of_lt_of_le A_r0.lt hb1)
  have sz_b1 : h0.size ≤ b1 := Nat.le_trans K.1 hb1
  replace K := K.trans K1 all0
  replace A_r0 := A_r0.keep K1 nin0
  show OFin _ _ _ _ T1 (mkF m 16 #[.val (.ref r0), .val (.int (1 : Int32)), .val (.int (2 : Int32))] [(.ref b1)])
  exact o_areturn G1 rfl rfl rfl d38_16 ⟨b1, rfl, g_b1, sz_b1, K, A_b1⟩ (by decide) (by decide)
set_option maxRecDepth 65536 in
set_option maxHeartbeats 40000000 in
theorem rm40_434 {l : Launch} {Z : State} {a0 : Array Value} (hw : ∀ d ∈ tables_1, d.before a0 Z = true)  (h0 : Heap) (n0 : Nat) (hz : n0 ≤ h0.size) :
    OMet l Z (⟨"java/util/Arrays", "checkLength", "(II)V"⟩ : MethodName) jdk_65_method_131_code 2 none ({ frames := 0, cells := 0, slots := 0, locals := 0 } : Room) #[(.int (3 : Int32)), (.int (4 : Int32))] h0 n0 ({ frames := 0, cells := 0, slots := 0, locals := 0 } : Room).cells ({ frames := 0, cells := 0, slots := 0, locals := 0 } : Room).slots (fun v h => v = none ∧ h0 = h) := by
  refine o_body (plainFor_of_name pn_40) hz (fun m => ef_40 m (3 : Int32) (4 : Int32)) ?_
  intro p e s m below meth c s₁ G0
  refine o_iloadN G0 d40_0 (pc' := 1) rfl rfl ?_
  refine o_iloadN G0 d40_1 (pc' := 2) rfl rfl ?_
  refine o_icmp_ge G0 d40_2 (by decide) (pcT := 37) (by decide) (pc' := 5) rfl (fun _ => ?_) (fun q => absurd q (by decide))
  exact o_return G0 d40_37 ⟨rfl, rfl⟩ (by decide) (by decide)
set_option maxRecDepth 65536 in
set_option maxHeartbeats 40000000 in
theorem rm39_434 {l : Launch} {Z : State} {a0 : Array Value} (hw : ∀ d ∈ tables_1, d.before a0 Z = true) (r0 : Addr) (h0 : Heap) (n0 : Nat) (hz : n0 ≤ h0.size) (g : Nat → Int32) (A_r0 : OArr Z h0 r0 .byte 4 (fun j => .int (own_by (g j)))) :
    OMet l Z (⟨"java/util/Arrays", "copyOfRangeByte", "([BII)[B"⟩ : MethodName) jdk_65_method_133_code 5 (some (.array .byte)) ({ frames := 1, cells := 1, slots := 3, locals := 24 } : Room) #[(.ref r0), (.int (3 : Int32)), (.int (4 : Int32))] h0 n0 ({ frames := 1, cells := 1, slots := 3, locals := 24 } : Room).cells ({ frames := 1, cells := 1, slots := 3, locals := 24 } : Room).slots (fun v h => ∃ b : Addr, v = some (.ref b) ∧ n0 ≤ b ∧ h0.size ≤ b ∧ Keep h0 h [] ∧ OArr Z h b .byte 1 (fun j => .int (own_by ((fun j => g (3 + j)) j)))) := by
  refine o_body (plainFor_of_name pn_39) hz (fun m => ef_39 m r0 (3 : Int32) (4 : Int32)) ?_
  intro p e s m below meth c s₁ G0
  have K : Keep h0 h0 [] := Keep.refl _ _
  refine o_iloadN G0 d39_0 (pc' := 1) rfl rfl ?_
  refine o_iloadN G0 d39_1 (pc' := 2) rfl rfl ?_
  refine o_callS G0 (z := (⟨"java/util/Arrays", "checkLength", "(II)V"⟩ : MethodName)) (argsL := [(.int (3 : Int32)), (.int (4 : Int32))]) (rest := []) (W := 0) (ow hw 208 rfl) (ow hw 209 rfl) d39_2 (by decide) (ow hw 203 rfl) (ow hw 210 rfl) (rm40_434 hw h0 n0 G0.sz) (by decide) (by decide) rfl (lenOf pd_16 rfl) rfl (Nat.le_of_eq rfl) (pc' := 5) rfl (by decide) (by decide) ?_
  rintro _ T1 h1 G1 ⟨rfl, hh⟩
  subst hh
  show OFin _ _ _ _ T1 (mkF m 5 #[.val (.ref r0), .val (.int (3 : Int32)), .val (.int (4 : Int32)), .unset, .unset] [])
  refine o_iloadN G1 d39_5 (pc' := 6) rfl rfl ?_
  refine o_iloadN G1 d39_6 (pc' := 7) rfl rfl ?_
  refine o_isub G1 d39_7 (pc' := 8) rfl (v := (1 : Int32)) (by decide) ?_
  refine o_istoreN G1 d39_8 (pc' := 9) rfl (l' := #[.val (.ref r0), .val (.int (3 : Int32)), .val (.int (4 : Int32)), .val (.int (1 : Int32)), .unset]) rfl ?_
  refine o_iloadN G1 d39_9 (pc' := 10) rfl rfl ?_
  refine o_newarray G1 (N := 1) (cap := 1) (ow hw 21 rfl) rfl (by decide) (by decide) d39_10 (pc' := 12) rfl (by decide) (by decide) ?_
  intro T2 h2 b2 G2 g2 g_b2 E2 A_b2
  have ne_r0_b2 : r0 ≠ b2 := Nat.ne_of_lt (Nat.lt_of_lt_of_eq A_r0.lt g2.symm)
  have sz_b2 : h0.size ≤ b2 := Nat.le_trans K.1 (Nat.le_of_eq g2.symm)
  replace K := K.ext E2
  replace A_r0 := A_r0.ext E2
  replace A_b2 : OArr Z h2 b2 .byte 1 (fun _ => (.int (0 : Int32))) := A_b2
  refine o_astore G2 d39_12 (pc' := 14) rfl rfl (l' := #[.val (.ref r0), .val (.int (3 : Int32)), .val (.int (4 : Int32)), .val (.int (1 : Int32)), .val (.ref b2)]) rfl ?_
  refine o_aloadN G2 d39_14 (pc' := 15) rfl rfl rfl ?_
  refine o_iloadN G2 d39_15 (pc' := 16) rfl rfl ?_
  refine o_aload G2 d39_16 (pc' := 18) rfl rfl rfl ?_
  refine o_iconst G2 d39_18 (pc' := 19) rfl (v := (0 : Int32)) rfl ?_
  refine o_aloadN G2 d39_19 (pc' := 20) rfl rfl rfl ?_
  refine o_arraylength G2 A_r0 (v := (4 : Int32)) rfl d39_20 (pc' := 21) rfl ?_
  refine o_iloadN G2 d39_21 (pc' := 22) rfl rfl ?_
  refine o_isub G2 d39_22 (pc' := 23) rfl (v := (1 : Int32)) (by decide) ?_
  refine o_iloadN G2 d39_23 (pc' := 24) rfl rfl ?_
  refine o_callP G2 (z := (⟨"java/lang/Math", "min", "(II)I"⟩ : MethodName)) (r := .int (1 : Int32)) (argsL := [(.int (1 : Int32)), (.int (1 : Int32))]) (rest := [(.int (0 : Int32)), (.ref b2), (.int (3 : Int32)), (.ref r0)]) (W := 4) (ow hw 211 rfl) (ow hw 212 rfl) d39_24 (by decide) (ow hw 213 rfl) (ow hw 214 rfl) (by rw [show (1 : Int32) = f_41 (1 : Int32) (1 : Int32) by decide]; exact rm41 hw (1 : Int32) (1 : Int32) h2 n0 G2.sz) (by decide) (by decide) rfl (lenOf pd_17 rfl) rfl (Nat.le_of_eq rfl) (pc' := 27) rfl (by decide) (by decide) ?_
  intro T3 G3
  refine o_acopy G3 (S := 3) (D := 0) (L := 1) (rest := []) A_r0 A_b2 (by intro i _; first | exact fits_nar_byte _ | rfl | (simp only [o_set]; (repeat' split) <;> rfl)) (by intro i _; first | exact fits_nar_byte _ | rfl | (simp only [o_set]; (repeat' split) <;> rfl)) (by decide) (by decide) rfl rfl rfl rfl (by decide) (by decide) (ow hw 215 rfl) (ow hw 170 rfl) (ow hw 168 rfl) (ow hw 169 rfl) g_b2 rfl d39_27 (pc' := 30) rfl (by decide) (W := 0) (Nat.le_of_eq rfl) (by decide) ?_
  intro T4 h4 c4 G4 K4 A4 Q4
  replace K := K.trans K4 (allS (Or.inr sz_b2) all0)
  replace A_r0 := A_r0.keep K4 (ninS ne_r0_b2 nin0)
  have A_b2 := A4
  refine o_aload G4 d39_30 (pc' := 32) rfl rfl rfl ?_
  exact o_areturn G4 rfl rfl rfl d39_32 ⟨b2, rfl, g_b2, sz_b2, K, A_b2.congr (by intro j hj; rw [Q4 j hj, if_pos ⟨Nat.zero_le _, by omega⟩]; rfl)⟩ (by decide) (by decide)
set_option maxRecDepth 65536 in
set_option maxHeartbeats 40000000 in
theorem rm38_434 {l : Launch} {Z : State} {a0 : Array Value} (hw : ∀ d ∈ tables_1, d.before a0 Z = true) (r0 : Addr) (h0 : Heap) (n0 : Nat) (hz : n0 ≤ h0.size) (g : Nat → Int32) (A_r0 : OArr Z h0 r0 .byte 4 (fun j => .int (own_by (g j)))) :
    OMet l Z (⟨"java/util/Arrays", "copyOfRange", "([BII)[B"⟩ : MethodName) jdk_65_method_132_code 3 (some (.array .byte)) ({ frames := 2, cells := 1, slots := 3, locals := 40 } : Room) #[(.ref r0), (.int (3 : Int32)), (.int (4 : Int32))] h0 n0 ({ frames := 2, cells := 1, slots := 3, locals := 40 } : Room).cells ({ frames := 2, cells := 1, slots := 3, locals := 40 } : Room).slots (fun v h => ∃ b : Addr, v = some (.ref b) ∧ n0 ≤ b ∧ h0.size ≤ b ∧ Keep h0 h [] ∧ OArr Z h b .byte 1 (fun j => .int (own_by ((fun j => g (3 + j)) j)))) := by
  refine o_body (plainFor_of_name pn_38) hz (fun m => ef_38 m r0 (3 : Int32) (4 : Int32)) ?_
  intro p e s m below meth c s₁ G0
  have K : Keep h0 h0 [] := Keep.refl _ _
  refine o_iloadN G0 d38_0 (pc' := 1) rfl rfl ?_
  refine o_if_ne G0 d38_1 (by decide) (pcT := 10) (by decide) (pc' := 4) rfl (fun _ => ?_) (fun q => absurd q (by decide))
  refine o_aloadN G0 d38_10 (pc' := 11) rfl rfl rfl ?_
  refine o_iloadN G0 d38_11 (pc' := 12) rfl rfl ?_
  refine o_iloadN G0 d38_12 (pc' := 13) rfl rfl ?_
  refine o_callS G0 (z := (⟨"java/util/Arrays", "copyOfRangeByte", "([BII)[B"⟩ : MethodName)) (argsL := [(.ref r0), (.int (3 : Int32)), (.int (4 : Int32))]) (rest := []) (W := 0) (ow hw 205 rfl) (ow hw 206 rfl) d38_13 (by decide) (ow hw 203 rfl) (ow hw 207 rfl) (rm39_434 hw r0 h0 n0 G0.sz g A_r0) (by decide) (by decide) rfl (lenOf pd_18 rfl) rfl (Nat.le_of_eq rfl) (pc' := 16) rfl (by decide) (by decide) ?_
  rintro _ T1 h1 G1 ⟨b1, rfl, g_b1, hb1, K1, A_b1⟩
  have ne_r0_b1 : r0 ≠ b1 := Nat.ne_of_lt (Nat.lt_of_lt_of_le A_r0.lt hb1)
  have sz_b1 : h0.size ≤ b1 := Nat.le_trans K.1 hb1
  replace K := K.trans K1 all0
  replace A_r0 := A_r0.keep K1 nin0
  show OFin _ _ _ _ T1 (mkF m 16 #[.val (.ref r0), .val (.int (3 : Int32)), .val (.int (4 : Int32))] [(.ref b1)])
  exact o_areturn G1 rfl rfl rfl d38_16 ⟨b1, rfl, g_b1, sz_b1, K, A_b1⟩ (by decide) (by decide)
theorem d34_0 : decode jdk_68_method_64_code 0 = .ok (.aload_n 0, 1) := by decide +kernel
theorem d34_1 : decode jdk_68_method_64_code 1 = .ok (.getfield 15, 3) := by decide +kernel
theorem d34_4 : decode jdk_68_method_64_code 4 = .ok (.areturn, 1) := by decide +kernel
theorem pn_34 : plainName "java/lang/AbstractStringBuilder" = true := by first | (simp [plainName, overriddenIn]; done) | decide +kernel
theorem ef_34 (m : MethodId) (r0 : Addr) : entryFrame m #[(.ref r0)] 1 = mkF m 0 #[.val (.ref r0)] [] := by first | (simp [entryFrame, mkF, argsToLocals, Value.category]; done) | rfl
set_option maxRecDepth 65536 in
set_option maxHeartbeats 40000000 in
theorem rm34 {l : Launch} {Z : State} {a0 : Array Value} (hw : ∀ d ∈ tables_1, d.before a0 Z = true) (r0 : Addr) (h0 : Heap) (n0 : Nat) (hz : n0 ≤ h0.size) (vb : Addr) (F_value : Fld Z h0 r0 "java/lang/AbstractStringBuilder" "value" "[B" (.ref vb)) :
    OMet l Z (⟨"java/lang/AbstractStringBuilder", "getValue", "()[B"⟩ : MethodName) jdk_68_method_64_code 1 (some (.array .byte)) ({ frames := 0, cells := 0, slots := 0, locals := 0 } : Room) #[(.ref r0)] h0 n0 ({ frames := 0, cells := 0, slots := 0, locals := 0 } : Room).cells ({ frames := 0, cells := 0, slots := 0, locals := 0 } : Room).slots (OVal h0 (.ref vb)) := by
  refine o_body (plainFor_of_name pn_34) hz (fun m => ef_34 m r0) ?_
  intro p e s m below meth c s₁ G0
  refine o_aloadN G0 d34_0 (pc' := 1) rfl rfl rfl ?_
  refine o_getF G0 (host := "") (Or.inl (ow hw 129 rfl)) Via.refl F_value d34_1 (pc' := 4) rfl ?_
  intro T1 G1
  exact o_areturn G1 rfl rfl rfl d34_4 ⟨rfl, rfl⟩ (by decide) (by decide)
theorem d36_0 : decode jdk_68_method_6_code 0 = .ok (.aload_n 0, 1) := by decide +kernel
theorem d36_1 : decode jdk_68_method_6_code 1 = .ok (.getfield 79, 3) := by decide +kernel
theorem d36_4 : decode jdk_68_method_6_code 4 = .ok (.ireturn, 1) := by decide +kernel
theorem pn_36 : plainName "java/lang/AbstractStringBuilder" = true := by first | (simp [plainName, overriddenIn]; done) | decide +kernel
theorem ef_36 (m : MethodId) (r0 : Addr) : entryFrame m #[(.ref r0)] 1 = mkF m 0 #[.val (.ref r0)] [] := by first | (simp [entryFrame, mkF, argsToLocals, Value.category]; done) | rfl
set_option maxRecDepth 65536 in
set_option maxHeartbeats 40000000 in
theorem rm36 {l : Launch} {Z : State} {a0 : Array Value} (hw : ∀ d ∈ tables_1, d.before a0 Z = true) (r0 : Addr) (h0 : Heap) (n0 : Nat) (hz : n0 ≤ h0.size) (x : Int32) (F_count : Fld Z h0 r0 "java/lang/AbstractStringBuilder" "count" "I" (.int x)) :
    OMet l Z (⟨"java/lang/AbstractStringBuilder", "length", "()I"⟩ : MethodName) jdk_68_method_6_code 1 (some .int) ({ frames := 0, cells := 0, slots := 0, locals := 0 } : Room) #[(.ref r0)] h0 n0 ({ frames := 0, cells := 0, slots := 0, locals := 0 } : Room).cells ({ frames := 0, cells := 0, slots := 0, locals := 0 } : Room).slots (OVal h0 (.int x)) := by
  refine o_body (plainFor_of_name pn_36) hz (fun m => ef_36 m r0) ?_
  intro p e s m below meth c s₁ G0
  refine o_aloadN G0 d36_0 (pc' := 1) rfl rfl rfl ?_
  refine o_getF G0 (host := "") (Or.inl (ow hw 144 rfl)) Via.refl F_count d36_1 (pc' := 4) rfl ?_
  intro T1 G1
  exact o_ireturn G1 d36_4 ⟨rfl, rfl⟩ (by decide) (by decide)
theorem d35_0 : decode jdk_67_method_93_code 0 = .ok (.aload_n 0, 1) := by decide +kernel
theorem d35_1 : decode jdk_67_method_93_code 1 = .ok (.invokespecial 343, 3) := by decide +kernel
theorem d35_4 : decode jdk_67_method_93_code 4 = .ok (.ireturn, 1) := by decide +kernel
theorem pn_35 : plainName "java/lang/StringBuilder" = true := by first | (simp [plainName, overriddenIn]; done) | decide +kernel
theorem ef_35 (m : MethodId) (r0 : Addr) : entryFrame m #[(.ref r0)] 1 = mkF m 0 #[.val (.ref r0)] [] := by first | (simp [entryFrame, mkF, argsToLocals, Value.category]; done) | rfl
set_option maxRecDepth 65536 in
set_option maxHeartbeats 40000000 in
theorem rm35 {l : Launch} {Z : State} {a0 : Array Value} (hw : ∀ d ∈ tables_1, d.before a0 Z = true) (r0 : Addr) (h0 : Heap) (n0 : Nat) (hz : n0 ≤ h0.size) (E_r0 : Exa Z h0 r0 "java/lang/StringBuilder") (x : Int32) (F_count : Fld Z h0 r0 "java/lang/AbstractStringBuilder" "count" "I" (.int x)) :
    OMet l Z (⟨"java/lang/StringBuilder", "length", "()I"⟩ : MethodName) jdk_67_method_93_code 1 (some .int) ({ frames := 1, cells := 0, slots := 0, locals := 12 } : Room) #[(.ref r0)] h0 n0 ({ frames := 1, cells := 0, slots := 0, locals := 12 } : Room).cells ({ frames := 1, cells := 0, slots := 0, locals := 12 } : Room).slots (OVal h0 (.int x)) := by
  refine o_body (plainFor_of_name pn_35) hz (fun m => ef_35 m r0) ?_
  intro p e s m below meth c s₁ G0
  refine o_aloadN G0 d35_0 (pc' := 1) rfl rfl rfl ?_
  refine o_callSup G0 (z := (⟨"java/lang/AbstractStringBuilder", "length", "()I"⟩ : MethodName)) (argsL := []) (rest := []) (W := 0) (Ins.self E_r0) (ow hw 194 rfl) (ow hw 190 rfl) (ow hw 140 rfl) (o_face (notFace_of_selects (ow hw 149 rfl)) rfl (ow hw 147 rfl)) (by decide) d35_1 (by decide) (ow hw 125 rfl) (ow hw 195 rfl) (rm36 hw r0 h0 n0 G0.sz x F_count) (by decide) (by decide) rfl (lenOf pd_8 rfl) rfl (Nat.le_of_eq rfl) (pc' := 4) rfl (by decide) (by decide) ?_
  rintro _ T1 h1 G1 ⟨rfl, hh⟩
  subst hh
  show OFin _ _ _ _ T1 (mkF m 4 #[.val (.ref r0)] [(.int x)])
  exact o_ireturn G1 d35_4 ⟨rfl, rfl⟩ (by decide) (by decide)
theorem d37_0 : decode jdk_68_method_68_code 0 = .ok (.getstatic 18, 3) := by decide +kernel
theorem d37_3 : decode jdk_68_method_68_code 3 = .ok (.ifCond .eq 14, 3) := by decide +kernel
theorem d37_6 : decode jdk_68_method_68_code 6 = .ok (.aload_n 0, 1) := by decide +kernel
theorem d37_7 : decode jdk_68_method_68_code 7 = .ok (.getfield 22, 3) := by decide +kernel
theorem d37_10 : decode jdk_68_method_68_code 10 = .ok (.ifCond .ne 7, 3) := by decide +kernel
theorem d37_13 : decode jdk_68_method_68_code 13 = .ok (.iconst 1, 1) := by decide +kernel
theorem d37_14 : decode jdk_68_method_68_code 14 = .ok (.goto 4, 3) := by decide +kernel
theorem d37_18 : decode jdk_68_method_68_code 18 = .ok (.ireturn, 1) := by decide +kernel
theorem pn_37 : plainName "java/lang/AbstractStringBuilder" = true := by first | (simp [plainName, overriddenIn]; done) | decide +kernel
theorem ef_37 (m : MethodId) (r0 : Addr) : entryFrame m #[(.ref r0)] 1 = mkF m 0 #[.val (.ref r0)] [] := by first | (simp [entryFrame, mkF, argsToLocals, Value.category]; done) | rfl
set_option maxRecDepth 65536 in
set_option maxHeartbeats 40000000 in
theorem rm37 {l : Launch} {Z : State} {a0 : Array Value} (hw : ∀ d ∈ tables_1, d.before a0 Z = true) (r0 : Addr) (h0 : Heap) (n0 : Nat) (hz : n0 ≤ h0.size) (cs : Int32) (hcs : ¬ cs = 0) (S : Sta Z h0 "java/lang/String" "COMPACT_STRINGS" "Z" (.int cs)) (F_coder : Fld Z h0 r0 "java/lang/AbstractStringBuilder" "coder" "B" (.int (0 : Int32))) :
    OMet l Z (⟨"java/lang/AbstractStringBuilder", "isLatin1", "()Z"⟩ : MethodName) jdk_68_method_68_code 1 (some .boolean) ({ frames := 0, cells := 0, slots := 0, locals := 0 } : Room) #[(.ref r0)] h0 n0 ({ frames := 0, cells := 0, slots := 0, locals := 0 } : Room).cells ({ frames := 0, cells := 0, slots := 0, locals := 0 } : Room).slots (OVal h0 (.int 1)) := by
  refine o_body (plainFor_of_name pn_37) hz (fun m => ef_37 m r0) ?_
  intro p e s m below meth c s₁ G0
  refine o_getS G0 (host := "") (Or.inl (ow hw 128 rfl)) Via.refl S d37_0 (pc' := 3) rfl ?_
  intro T1 G1
  refine o_if_eq G1 d37_3 (by decide) (pcT := 17) (by decide) (pc' := 6) rfl (fun q => absurd q hcs) (fun _ => ?_)
  refine o_aloadN G1 d37_6 (pc' := 7) rfl rfl rfl ?_
  refine o_getF G1 (host := "") (Or.inl (ow hw 131 rfl)) Via.refl F_coder d37_7 (pc' := 10) rfl ?_
  intro T2 G2
  refine o_if_ne G2 d37_10 (by decide) (pcT := 17) (by decide) (pc' := 13) rfl (fun q => absurd (by decide) q) (fun _ => ?_)
  refine o_iconst G2 d37_13 (pc' := 14) rfl (v := (1 : Int32)) rfl ?_
  refine o_goto G2 d37_14 (by decide) (pc' := 18) rfl ?_
  exact o_nreturn (t := .boolean) G2 (by simp) d37_18 ⟨rfl, rfl⟩ (by decide) (by decide)
theorem d33_0 : decode jdk_42_method_150_code 0 = .ok (.aload_n 0, 1) := by decide +kernel
theorem d33_1 : decode jdk_42_method_150_code 1 = .ok (.invokespecial 1, 3) := by decide +kernel
theorem d33_4 : decode jdk_42_method_150_code 4 = .ok (.aload_n 1, 1) := by decide +kernel
theorem d33_5 : decode jdk_42_method_150_code 5 = .ok (.invokevirtual 552, 3) := by decide +kernel
theorem d33_8 : decode jdk_42_method_150_code 8 = .ok (.astore_n 3, 1) := by decide +kernel
theorem d33_9 : decode jdk_42_method_150_code 9 = .ok (.aload_n 1, 1) := by decide +kernel
theorem d33_10 : decode jdk_42_method_150_code 10 = .ok (.invokevirtual 549, 3) := by decide +kernel
theorem d33_13 : decode jdk_42_method_150_code 13 = .ok (.istore 4, 2) := by decide +kernel
theorem d33_15 : decode jdk_42_method_150_code 15 = .ok (.aload_n 1, 1) := by decide +kernel
theorem d33_16 : decode jdk_42_method_150_code 16 = .ok (.invokevirtual 1047, 3) := by decide +kernel
theorem d33_19 : decode jdk_42_method_150_code 19 = .ok (.ifCond .eq 22, 3) := by decide +kernel
theorem d33_22 : decode jdk_42_method_150_code 22 = .ok (.aload_n 0, 1) := by decide +kernel
theorem d33_23 : decode jdk_42_method_150_code 23 = .ok (.iconst 0, 1) := by decide +kernel
theorem d33_24 : decode jdk_42_method_150_code 24 = .ok (.putfield 15, 3) := by decide +kernel
theorem d33_27 : decode jdk_42_method_150_code 27 = .ok (.aload_n 0, 1) := by decide +kernel
theorem d33_28 : decode jdk_42_method_150_code 28 = .ok (.aload_n 3, 1) := by decide +kernel
theorem d33_29 : decode jdk_42_method_150_code 29 = .ok (.iconst 0, 1) := by decide +kernel
theorem d33_30 : decode jdk_42_method_150_code 30 = .ok (.iload 4, 2) := by decide +kernel
theorem d33_32 : decode jdk_42_method_150_code 32 = .ok (.invokestatic 54, 3) := by decide +kernel
theorem d33_35 : decode jdk_42_method_150_code 35 = .ok (.putfield 9, 3) := by decide +kernel
theorem d33_38 : decode jdk_42_method_150_code 38 = .ok (.goto 59, 3) := by decide +kernel
theorem d33_97 : decode jdk_42_method_150_code 97 = .ok (.return_, 1) := by decide +kernel
theorem pn_33 : plainName "java/lang/String" = true := by first | (simp [plainName, overriddenIn]; done) | decide +kernel
theorem ef_33 (m : MethodId) (r0 : Addr) (r1 : Addr) : entryFrame m #[(.ref r0), (.ref r1), .null] 5 = mkF m 0 #[.val (.ref r0), .val (.ref r1), .val .null, .unset, .unset] [] := by first | (simp [entryFrame, mkF, argsToLocals, Value.category]; done) | rfl
set_option maxRecDepth 65536 in
set_option maxHeartbeats 40000000 in
theorem rm33_1 {l : Launch} {Z : State} {a0 : Array Value} (hw : ∀ d ∈ tables_1, d.before a0 Z = true) (r0 : Addr) (r1 : Addr) (h0 : Heap) (n0 : Nat) (hz : n0 ≤ h0.size) (g_r0 : n0 ≤ r0) (E_r0 : Exa Z h0 r0 "java/lang/String") (F_v : Fld Z h0 r0 "java/lang/String" "value" "[B" .null) (F_c : Fld Z h0 r0 "java/lang/String" "coder" "B" (.int (0 : Int32))) (cs : Int32) (hcs : ¬ cs = 0) (S : Sta Z h0 "java/lang/String" "COMPACT_STRINGS" "Z" (.int cs)) (vb : Addr) (E_r1 : Exa Z h0 r1 "java/lang/StringBuilder") (F_value : Fld Z h0 r1 "java/lang/AbstractStringBuilder" "value" "[B" (.ref vb)) (F_coder : Fld Z h0 r1 "java/lang/AbstractStringBuilder" "coder" "B" (.int (0 : Int32))) (F_count : Fld Z h0 r1 "java/lang/AbstractStringBuilder" "count" "I" (.int (1 : Int32))) (w : Nat → Int32) (A_vb : OArr Z h0 vb .byte 16 (fun j => .int (own_by (w j)))) (n1 : r1 ≠ r0) (n2 : vb ≠ r0) :
    OMet l Z (⟨"java/lang/String", "<init>", "(Ljava/lang/AbstractStringBuilder;Ljava/lang/Void;)V"⟩ : MethodName) jdk_42_method_150_code 5 none ({ frames := 3, cells := 1, slots := 1, locals := 55 } : Room) #[(.ref r0), (.ref r1), .null] h0 n0 ({ frames := 3, cells := 1, slots := 1, locals := 55 } : Room).cells ({ frames := 3, cells := 1, slots := 1, locals := 55 } : Room).slots (fun v h => v = none ∧ Keep h0 h [r0] ∧ ∃ b : Addr, h0.size ≤ b ∧ Fld Z h r0 "java/lang/String" "value" "[B" (.ref b) ∧ Fld Z h r0 "java/lang/String" "coder" "B" (.int (0 : Int32)) ∧ OArr Z h b .byte 1 (fun j => .int (own_by ((fun j => w (0 + j)) j)))) := by
  refine o_body (plainFor_of_name pn_33) hz (fun m => ef_33 m r0 r1) ?_
  intro p e s m below meth c s₁ G0
  have K : Keep h0 h0 [r0] := Keep.refl _ _
  refine o_aloadN G0 d33_0 (pc' := 1) rfl rfl rfl ?_
  refine o_initO G0 (ow hw 26 rfl) (ow hw 27 rfl) (ow hw 28 rfl) d33_1 (pc' := 4) rfl rfl (by decide) (W := 0) (Nat.le_of_eq rfl) (by decide) ?_
  intro T1 G1
  refine o_aloadN G1 d33_4 (pc' := 5) rfl rfl rfl ?_
  refine o_callV G1 (z := (⟨"java/lang/AbstractStringBuilder", "getValue", "()[B"⟩ : MethodName)) (argsL := []) (rest := []) (W := 0) E_r1 (ow hw 183 rfl) (ow hw 185 rfl) (ow hw 184 rfl) (ow hw 186 rfl) d33_5 (by decide) (ow hw 125 rfl) (ow hw 187 rfl) (rm34 hw r1 h0 n0 G1.sz vb F_value) (by decide) (by decide) rfl (lenOf pd_19 rfl) rfl (Nat.le_of_eq rfl) (pc' := 8) rfl (by decide) (by decide) ?_
  rintro _ T2 h2 G2 ⟨rfl, hh⟩
  subst hh
  show OFin _ _ _ _ T2 (mkF m 8 #[.val (.ref r0), .val (.ref r1), .val .null, .unset, .unset] [(.ref vb)])
  refine o_astoreN G2 d33_8 (pc' := 9) rfl rfl (l' := #[.val (.ref r0), .val (.ref r1), .val .null, .val (.ref vb), .unset]) rfl ?_
  refine o_aloadN G2 d33_9 (pc' := 10) rfl rfl rfl ?_
  refine o_callVO G2 (z := (⟨"java/lang/StringBuilder", "length", "()I"⟩ : MethodName)) (argsL := []) (rest := []) (W := 0) (xc := "java/lang/AbstractStringBuilder") (u := (⟨"java/lang/AbstractStringBuilder", "ensureCapacityInternal", "(I)V"⟩ : MethodName)) E_r1 (ow hw 188 rfl) (ow hw 192 rfl) (ow hw 189 rfl) (ow hw 191 rfl) (ow hw 149 rfl) (ow hw 147 rfl) rfl (by decide) d33_10 (by decide) (ow hw 117 rfl) (ow hw 193 rfl) (rm35 hw r1 h0 n0 G2.sz E_r1 (1 : Int32) F_count) (by decide) (by decide) rfl (lenOf pd_8 rfl) rfl (Nat.le_of_eq rfl) (pc' := 13) rfl (by decide) (by decide) ?_
  rintro _ T3 h3 G3 ⟨rfl, hh⟩
  subst hh
  show OFin _ _ _ _ T3 (mkF m 13 #[.val (.ref r0), .val (.ref r1), .val .null, .val (.ref vb), .unset] [(.int (1 : Int32))])
  refine o_istore G3 d33_13 (pc' := 15) rfl (l' := #[.val (.ref r0), .val (.ref r1), .val .null, .val (.ref vb), .val (.int (1 : Int32))]) rfl ?_
  refine o_aloadN G3 d33_15 (pc' := 16) rfl rfl rfl ?_
  refine o_callV G3 (z := (⟨"java/lang/AbstractStringBuilder", "isLatin1", "()Z"⟩ : MethodName)) (argsL := []) (rest := []) (W := 0) E_r1 (ow hw 196 rfl) (ow hw 198 rfl) (ow hw 197 rfl) (ow hw 199 rfl) d33_16 (by decide) (ow hw 125 rfl) (ow hw 200 rfl) (rm37 hw r1 h0 n0 G3.sz cs hcs S F_coder) (by decide) (by decide) rfl (lenOf pd_20 rfl) rfl (Nat.le_of_eq rfl) (pc' := 19) rfl (by decide) (by decide) ?_
  rintro _ T4 h4 G4 ⟨rfl, hh⟩
  subst hh
  show OFin _ _ _ _ T4 (mkF m 19 #[.val (.ref r0), .val (.ref r1), .val .null, .val (.ref vb), .val (.int (1 : Int32))] [(.int (1 : Int32))])
  refine o_if_eq G4 d33_19 (by decide) (pcT := 41) (by decide) (pc' := 22) rfl (fun q => absurd q (by decide)) (fun _ => ?_)
  refine o_aloadN G4 d33_22 (pc' := 23) rfl rfl rfl ?_
  refine o_iconst G4 d33_23 (pc' := 24) rfl (v := (0 : Int32)) rfl ?_
  refine o_putF G4 (host := "") (Or.inl (ow hw 31 rfl)) Via.refl F_c E_r0 (Or.inr ⟨(ow hw 32 rfl), rfl, rfl⟩) (ow hw 17 rfl) (ty := .byte) (by decide) rfl rfl g_r0 d33_24 (pc' := 27) rfl ?_
  intro T5 h5 G5 W5
  replace K := K.wr W5 (Or.inl (List.mem_of_getElem? (i := 0) rfl))
  replace E_r0 := E_r0.wr W5
  replace F_v := F_v.other W5 (Or.inr (slot_ne (Or.inr (ow hw 30 rfl)) (Or.inr (ow hw 32 rfl)) (by decide) (t := (.array .byte)) (t' := .byte) (by decide) (by decide)))
  replace F_c := F_c.same W5
  replace S := S.wr W5
  replace E_r1 := E_r1.wr W5
  replace F_value := F_value.other W5 (Or.inl n1)
  replace F_coder := F_coder.other W5 (Or.inl n1)
  replace F_count := F_count.other W5 (Or.inl n1)
  replace A_vb := A_vb.other W5 n2
  refine o_aloadN G5 d33_27 (pc' := 28) rfl rfl rfl ?_
  refine o_aloadN G5 d33_28 (pc' := 29) rfl rfl rfl ?_
  refine o_iconst G5 d33_29 (pc' := 30) rfl (v := (0 : Int32)) rfl ?_
  refine o_iload G5 d33_30 (pc' := 32) rfl rfl ?_
  refine o_callS G5 (z := (⟨"java/util/Arrays", "copyOfRange", "([BII)[B"⟩ : MethodName)) (argsL := [(.ref vb), (.int (0 : Int32)), (.int (1 : Int32))]) (rest := [(.ref r0)]) (W := 1) (ow hw 201 rfl) (ow hw 202 rfl) d33_32 (by decide) (ow hw 203 rfl) (ow hw 204 rfl) (rm38_1601 hw vb h5 n0 G5.sz w A_vb) (by decide) (by decide) rfl (lenOf pd_18 rfl) rfl (Nat.le_of_eq rfl) (pc' := 35) rfl (by decide) (by decide) ?_
  rintro _ T6 h6 G6 ⟨b6, rfl, g_b6, hb6, K6, A_b6⟩
  have ne_r0_b6 : r0 ≠ b6 := Nat.ne_of_lt (Nat.lt_of_lt_of_le E_r0.lt hb6)
  have ne_r1_b6 : r1 ≠ b6 := Nat.ne_of_lt (Nat.lt_of_lt_of_le E_r1.lt hb6)
  have ne_vb_b6 : vb ≠ b6 := Nat.ne_of_lt (Nat.lt_of_lt_of_le A_vb.lt hb6)
  have sz_b6 : h0.size ≤ b6 := Nat.le_trans K.1 hb6
  replace S := o_stak S K6 (fun x hx => nomatch hx)
  replace K := K.trans K6 all0
  replace E_r0 := E_r0.keep K6
  replace F_v := F_v.keep K6 nin0
  replace F_c := F_c.keep K6 nin0
  replace E_r1 := E_r1.keep K6
  replace F_value := F_value.keep K6 nin0
  replace F_coder := F_coder.keep K6 nin0
  replace F_count := F_count.keep K6 nin0
  replace A_vb := A_vb.keep K6 nin0
  show OFin _ _ _ _ T6 (mkF m 35 #[.val (.ref r0), .val (.ref r1), .val .null, .val (.ref vb), .val (.int (1 : Int32))] [(.ref b6), (.ref r0)])
  refine o_putF G6 (host := "") (Or.inl (ow hw 29 rfl)) Via.refl F_v E_r0 (Or.inr ⟨(ow hw 30 rfl), rfl, rfl⟩) (ow hw 17 rfl) (ty := (.array .byte)) (by decide) rfl rfl g_r0 d33_35 (pc' := 38) rfl ?_
  intro T7 h7 G7 W7
  replace K := K.wr W7 (Or.inl (List.mem_of_getElem? (i := 0) rfl))
  replace E_r0 := E_r0.wr W7
  replace F_v := F_v.same W7
  replace F_c := F_c.other W7 (Or.inr (slot_ne (Or.inr (ow hw 32 rfl)) (Or.inr (ow hw 30 rfl)) (by decide) (t := .byte) (t' := (.array .byte)) (by decide) (by decide)))
  replace S := S.wr W7
  replace E_r1 := E_r1.wr W7
  replace F_value := F_value.other W7 (Or.inl n1)
  replace F_coder := F_coder.other W7 (Or.inl n1)
  replace F_count := F_count.other W7 (Or.inl n1)
  replace A_vb := A_vb.other W7 n2
  replace A_b6 := A_b6.other W7 (Ne.symm ne_r0_b6)
  refine o_goto G7 d33_38 (by decide) (pc' := 97) rfl ?_
  exact o_return G7 d33_97 ⟨rfl, K, b6, sz_b6, F_v, F_c, A_b6⟩ (by decide) (by decide)
theorem d32_0 : decode jdk_42_method_53_code 0 = .ok (.aload_n 0, 1) := by decide +kernel
theorem d32_1 : decode jdk_42_method_53_code 1 = .ok (.aload_n 1, 1) := by decide +kernel
theorem d32_2 : decode jdk_42_method_53_code 2 = .ok (.aconst_null, 1) := by decide +kernel
theorem d32_3 : decode jdk_42_method_53_code 3 = .ok (.invokespecial 489, 3) := by decide +kernel
theorem d32_6 : decode jdk_42_method_53_code 6 = .ok (.return_, 1) := by decide +kernel
theorem pn_32 : plainName "java/lang/String" = true := by first | (simp [plainName, overriddenIn]; done) | decide +kernel
theorem ef_32 (m : MethodId) (r0 : Addr) (r1 : Addr) : entryFrame m #[(.ref r0), (.ref r1)] 2 = mkF m 0 #[.val (.ref r0), .val (.ref r1)] [] := by first | (simp [entryFrame, mkF, argsToLocals, Value.category]; done) | rfl
set_option maxRecDepth 65536 in
set_option maxHeartbeats 40000000 in
theorem rm32_1 {l : Launch} {Z : State} {a0 : Array Value} (hw : ∀ d ∈ tables_1, d.before a0 Z = true) (r0 : Addr) (r1 : Addr) (h0 : Heap) (n0 : Nat) (hz : n0 ≤ h0.size) (g_r0 : n0 ≤ r0) (E_r0 : Exa Z h0 r0 "java/lang/String") (F_v : Fld Z h0 r0 "java/lang/String" "value" "[B" .null) (F_c : Fld Z h0 r0 "java/lang/String" "coder" "B" (.int (0 : Int32))) (cs : Int32) (hcs : ¬ cs = 0) (S : Sta Z h0 "java/lang/String" "COMPACT_STRINGS" "Z" (.int cs)) (vb : Addr) (E_r1 : Exa Z h0 r1 "java/lang/StringBuilder") (F_value : Fld Z h0 r1 "java/lang/AbstractStringBuilder" "value" "[B" (.ref vb)) (F_coder : Fld Z h0 r1 "java/lang/AbstractStringBuilder" "coder" "B" (.int (0 : Int32))) (F_count : Fld Z h0 r1 "java/lang/AbstractStringBuilder" "count" "I" (.int (1 : Int32))) (w : Nat → Int32) (A_vb : OArr Z h0 vb .byte 16 (fun j => .int (own_by (w j)))) (n1 : r1 ≠ r0) (n2 : vb ≠ r0) :
    OMet l Z (⟨"java/lang/String", "<init>", "(Ljava/lang/StringBuilder;)V"⟩ : MethodName) jdk_42_method_53_code 2 none ({ frames := 4, cells := 1, slots := 1, locals := 71 } : Room) #[(.ref r0), (.ref r1)] h0 n0 ({ frames := 4, cells := 1, slots := 1, locals := 71 } : Room).cells ({ frames := 4, cells := 1, slots := 1, locals := 71 } : Room).slots (fun v h => v = none ∧ Keep h0 h [r0] ∧ ∃ b : Addr, h0.size ≤ b ∧ Fld Z h r0 "java/lang/String" "value" "[B" (.ref b) ∧ Fld Z h r0 "java/lang/String" "coder" "B" (.int (0 : Int32)) ∧ OArr Z h b .byte 1 (fun j => .int (own_by ((fun j => w (0 + j)) j)))) := by
  refine o_body (plainFor_of_name pn_32) hz (fun m => ef_32 m r0 r1) ?_
  intro p e s m below meth c s₁ G0
  have K : Keep h0 h0 [r0] := Keep.refl _ _
  refine o_aloadN G0 d32_0 (pc' := 1) rfl rfl rfl ?_
  refine o_aloadN G0 d32_1 (pc' := 2) rfl rfl rfl ?_
  refine o_aconst_null G0 d32_2 (pc' := 3) rfl ?_
  refine o_callI G0 (z := (⟨"java/lang/String", "<init>", "(Ljava/lang/AbstractStringBuilder;Ljava/lang/Void;)V"⟩ : MethodName)) (argsL := [(.ref r1), .null]) (rest := []) (W := 0) (a := r0) rfl (ow hw 180 rfl) (ow hw 181 rfl) rfl d32_3 (by decide) (ow hw 9 rfl) (ow hw 182 rfl) (rm33_1 hw r0 r1 h0 n0 G0.sz g_r0 E_r0 F_v F_c cs hcs S vb E_r1 F_value F_coder F_count w A_vb n1 n2) (by decide) (by decide) rfl (lenOf pd_21 rfl) rfl (Nat.le_of_eq rfl) (pc' := 6) rfl (by decide) (by decide) ?_
  rintro _ T1 h1 G1 ⟨rfl, K1, hQ1⟩
  replace S := o_stak S K1 (allS E_r0.nostat all0)
  replace K := K.trans K1 (allS (Or.inl (List.mem_of_getElem? (i := 0) rfl)) all0)
  replace E_r0 := E_r0.keep K1
  replace E_r1 := E_r1.keep K1
  replace F_value := F_value.keep K1 (ninS n1 nin0)
  replace F_coder := F_coder.keep K1 (ninS n1 nin0)
  replace F_count := F_count.keep K1 (ninS n1 nin0)
  replace A_vb := A_vb.keep K1 (ninS n2 nin0)
  show OFin _ _ _ _ T1 (mkF m 6 #[.val (.ref r0), .val (.ref r1)] [])
  exact o_return G1 d32_6 ⟨rfl, K, hQ1⟩ (by decide) (by decide)
theorem d31_0 : decode jdk_67_method_42_code 0 = .ok (.new 18, 3) := by decide +kernel
theorem d31_3 : decode jdk_67_method_42_code 3 = .ok (.dup, 1) := by decide +kernel
theorem d31_4 : decode jdk_67_method_42_code 4 = .ok (.aload_n 0, 1) := by decide +kernel
theorem d31_5 : decode jdk_67_method_42_code 5 = .ok (.invokespecial 137, 3) := by decide +kernel
theorem d31_8 : decode jdk_67_method_42_code 8 = .ok (.areturn, 1) := by decide +kernel
theorem pn_31 : plainName "java/lang/StringBuilder" = true := by first | (simp [plainName, overriddenIn]; done) | decide +kernel
theorem ef_31 (m : MethodId) (r0 : Addr) : entryFrame m #[(.ref r0)] 1 = mkF m 0 #[.val (.ref r0)] [] := by first | (simp [entryFrame, mkF, argsToLocals, Value.category]; done) | rfl
set_option maxRecDepth 65536 in
set_option maxHeartbeats 40000000 in
theorem rm31_1 {l : Launch} {Z : State} {a0 : Array Value} (hw : ∀ d ∈ tables_1, d.before a0 Z = true) (r0 : Addr) (h0 : Heap) (n0 : Nat) (hz : n0 ≤ h0.size) (cs : Int32) (hcs : ¬ cs = 0) (S : Sta Z h0 "java/lang/String" "COMPACT_STRINGS" "Z" (.int cs)) (vb : Addr) (E_r0 : Exa Z h0 r0 "java/lang/StringBuilder") (F_value : Fld Z h0 r0 "java/lang/AbstractStringBuilder" "value" "[B" (.ref vb)) (F_coder : Fld Z h0 r0 "java/lang/AbstractStringBuilder" "coder" "B" (.int (0 : Int32))) (F_count : Fld Z h0 r0 "java/lang/AbstractStringBuilder" "count" "I" (.int (1 : Int32))) (w : Nat → Int32) (A_vb : OArr Z h0 vb .byte 16 (fun j => .int (own_by (w j)))) :
    OMet l Z (⟨"java/lang/StringBuilder", "toString", "()Ljava/lang/String;"⟩ : MethodName) jdk_67_method_42_code 1 (some (.object "java/lang/String")) ({ frames := 5, cells := 2, slots := 5, locals := 85 } : Room) #[(.ref r0)] h0 n0 ({ frames := 5, cells := 2, slots := 5, locals := 85 } : Room).cells ({ frames := 5, cells := 2, slots := 5, locals := 85 } : Room).slots (fun v h => ∃ a b : Addr, v = some (.ref a) ∧ n0 ≤ a ∧ h0.size ≤ a ∧ h0.size ≤ b ∧ Keep h0 h [] ∧ Exa Z h a "java/lang/String" ∧ Fld Z h a "java/lang/String" "value" "[B" (.ref b) ∧ Fld Z h a "java/lang/String" "coder" "B" (.int (0 : Int32)) ∧ OArr Z h b .byte 1 (fun j => .int (own_by ((fun j => w (0 + j)) j)))) := by
  refine o_body (plainFor_of_name pn_31) hz (fun m => ef_31 m r0) ?_
  intro p e s m below meth c s₁ G0
  have K : Keep h0 h0 [] := Keep.refl _ _
  refine o_new G0 (ow hw 176 rfl) (ow hw 17 rfl) (ow hw 9 rfl) d31_0 (pc' := 3) rfl (by decide) (by decide) ?_
  intro T1 h1 b1 G1 g1 g_b1 E1 A1 D1
  have ne_r0_b1 : r0 ≠ b1 := Nat.ne_of_lt (Nat.lt_of_lt_of_eq E_r0.lt g1.symm)
  have ne_vb_b1 : vb ≠ b1 := Nat.ne_of_lt (Nat.lt_of_lt_of_eq A_vb.lt g1.symm)
  have sz_b1 : h0.size ≤ b1 := Nat.le_trans K.1 (Nat.le_of_eq g1.symm)
  replace K := K.ext E1
  replace S := S.ext E1
  replace E_r0 := E_r0.ext E1
  replace F_value := F_value.ext E1
  replace F_coder := F_coder.ext E1
  replace F_count := F_count.ext E1
  replace A_vb := A_vb.ext E1
  have F_value_b1 : Fld Z h1 b1 "java/lang/String" "value" "[B" .null := D1 (Or.inr (ow hw 30 rfl)) (ty := (.array .byte)) (by decide)
  have F_coder_b1 : Fld Z h1 b1 "java/lang/String" "coder" "B" (.int (0 : Int32)) := D1 (Or.inr (ow hw 32 rfl)) (ty := .byte) (by decide)
  refine o_dup G1 d31_3 (pc' := 4) rfl rfl ?_
  refine o_aloadN G1 d31_4 (pc' := 5) rfl rfl rfl ?_
  refine o_callI G1 (z := (⟨"java/lang/String", "<init>", "(Ljava/lang/StringBuilder;)V"⟩ : MethodName)) (argsL := [(.ref r0)]) (rest := [(.ref b1)]) (W := 1) (a := b1) rfl (ow hw 177 rfl) (ow hw 178 rfl) rfl d31_5 (by decide) (ow hw 9 rfl) (ow hw 179 rfl) (rm32_1 hw b1 r0 h1 n0 G1.sz g_b1 A1 F_value_b1 F_coder_b1 cs hcs S vb E_r0 F_value F_coder F_count w A_vb ne_r0_b1 ne_vb_b1) (by decide) (by decide) rfl (lenOf pd_22 rfl) rfl (Nat.le_of_eq rfl) (pc' := 8) rfl (by decide) (by decide) ?_
  rintro _ T2 h2 G2 ⟨rfl, K2, b, hb, Fv2, Fc2, Ab2⟩
  have sz_b : h0.size ≤ b := Nat.le_trans K.1 hb
  replace S := o_stak S K2 (allS A1.nostat all0)
  replace K := K.trans K2 (allS (Or.inr sz_b1) all0)
  replace E_r0 := E_r0.keep K2
  replace F_value := F_value.keep K2 (ninS ne_r0_b1 nin0)
  replace F_coder := F_coder.keep K2 (ninS ne_r0_b1 nin0)
  replace F_count := F_count.keep K2 (ninS ne_r0_b1 nin0)
  replace A_vb := A_vb.keep K2 (ninS ne_vb_b1 nin0)
  replace A1 := A1.keep K2
  show OFin _ _ _ _ T2 (mkF m 8 #[.val (.ref r0)] [(.ref b1)])
  exact o_areturn G2 rfl rfl rfl d31_8 ⟨b1, b, rfl, g_b1, sz_b1, sz_b, K, A1, Fv2, Fc2, Ab2⟩ (by decide) (by decide)
set_option maxRecDepth 65536 in
set_option maxHeartbeats 40000000 in
theorem rm33_3 {l : Launch} {Z : State} {a0 : Array Value} (hw : ∀ d ∈ tables_1, d.before a0 Z = true) (r0 : Addr) (r1 : Addr) (h0 : Heap) (n0 : Nat) (hz : n0 ≤ h0.size) (g_r0 : n0 ≤ r0) (E_r0 : Exa Z h0 r0 "java/lang/String") (F_v : Fld Z h0 r0 "java/lang/String" "value" "[B" .null) (F_c : Fld Z h0 r0 "java/lang/String" "coder" "B" (.int (0 : Int32))) (cs : Int32) (hcs : ¬ cs = 0) (S : Sta Z h0 "java/lang/String" "COMPACT_STRINGS" "Z" (.int cs)) (vb : Addr) (E_r1 : Exa Z h0 r1 "java/lang/StringBuilder") (F_value : Fld Z h0 r1 "java/lang/AbstractStringBuilder" "value" "[B" (.ref vb)) (F_coder : Fld Z h0 r1 "java/lang/AbstractStringBuilder" "coder" "B" (.int (0 : Int32))) (F_count : Fld Z h0 r1 "java/lang/AbstractStringBuilder" "count" "I" (.int (3 : Int32))) (w : Nat → Int32) (A_vb : OArr Z h0 vb .byte 16 (fun j => .int (own_by (w j)))) (n1 : r1 ≠ r0) (n2 : vb ≠ r0) :
    OMet l Z (⟨"java/lang/String", "<init>", "(Ljava/lang/AbstractStringBuilder;Ljava/lang/Void;)V"⟩ : MethodName) jdk_42_method_150_code 5 none ({ frames := 3, cells := 1, slots := 3, locals := 55 } : Room) #[(.ref r0), (.ref r1), .null] h0 n0 ({ frames := 3, cells := 1, slots := 3, locals := 55 } : Room).cells ({ frames := 3, cells := 1, slots := 3, locals := 55 } : Room).slots (fun v h => v = none ∧ Keep h0 h [r0] ∧ ∃ b : Addr, h0.size ≤ b ∧ Fld Z h r0 "java/lang/String" "value" "[B" (.ref b) ∧ Fld Z h r0 "java/lang/String" "coder" "B" (.int (0 : Int32)) ∧ OArr Z h b .byte 3 (fun j => .int (own_by ((fun j => w (0 + j)) j)))) := by
  refine o_body (plainFor_of_name pn_33) hz (fun m => ef_33 m r0 r1) ?_
  intro p e s m below meth c s₁ G0
  have K : Keep h0 h0 [r0] := Keep.refl _ _
  refine o_aloadN G0 d33_0 (pc' := 1) rfl rfl rfl ?_
  refine o_initO G0 (ow hw 26 rfl) (ow hw 27 rfl) (ow hw 28 rfl) d33_1 (pc' := 4) rfl rfl (by decide) (W := 0) (Nat.le_of_eq rfl) (by decide) ?_
  intro T1 G1
  refine o_aloadN G1 d33_4 (pc' := 5) rfl rfl rfl ?_
  refine o_callV G1 (z := (⟨"java/lang/AbstractStringBuilder", "getValue", "()[B"⟩ : MethodName)) (argsL := []) (rest := []) (W := 0) E_r1 (ow hw 183 rfl) (ow hw 185 rfl) (ow hw 184 rfl) (ow hw 186 rfl) d33_5 (by decide) (ow hw 125 rfl) (ow hw 187 rfl) (rm34 hw r1 h0 n0 G1.sz vb F_value) (by decide) (by decide) rfl (lenOf pd_19 rfl) rfl (Nat.le_of_eq rfl) (pc' := 8) rfl (by decide) (by decide) ?_
  rintro _ T2 h2 G2 ⟨rfl, hh⟩
  subst hh
  show OFin _ _ _ _ T2 (mkF m 8 #[.val (.ref r0), .val (.ref r1), .val .null, .unset, .unset] [(.ref vb)])
  refine o_astoreN G2 d33_8 (pc' := 9) rfl rfl (l' := #[.val (.ref r0), .val (.ref r1), .val .null, .val (.ref vb), .unset]) rfl ?_
  refine o_aloadN G2 d33_9 (pc' := 10) rfl rfl rfl ?_
  refine o_callVO G2 (z := (⟨"java/lang/StringBuilder", "length", "()I"⟩ : MethodName)) (argsL := []) (rest := []) (W := 0) (xc := "java/lang/AbstractStringBuilder") (u := (⟨"java/lang/AbstractStringBuilder", "ensureCapacityInternal", "(I)V"⟩ : MethodName)) E_r1 (ow hw 188 rfl) (ow hw 192 rfl) (ow hw 189 rfl) (ow hw 191 rfl) (ow hw 149 rfl) (ow hw 147 rfl) rfl (by decide) d33_10 (by decide) (ow hw 117 rfl) (ow hw 193 rfl) (rm35 hw r1 h0 n0 G2.sz E_r1 (3 : Int32) F_count) (by decide) (by decide) rfl (lenOf pd_8 rfl) rfl (Nat.le_of_eq rfl) (pc' := 13) rfl (by decide) (by decide) ?_
  rintro _ T3 h3 G3 ⟨rfl, hh⟩
  subst hh
  show OFin _ _ _ _ T3 (mkF m 13 #[.val (.ref r0), .val (.ref r1), .val .null, .val (.ref vb), .unset] [(.int (3 : Int32))])
  refine o_istore G3 d33_13 (pc' := 15) rfl (l' := #[.val (.ref r0), .val (.ref r1), .val .null, .val (.ref vb), .val (.int (3 : Int32))]) rfl ?_
  refine o_aloadN G3 d33_15 (pc' := 16) rfl rfl rfl ?_
  refine o_callV G3 (z := (⟨"java/lang/AbstractStringBuilder", "isLatin1", "()Z"⟩ : MethodName)) (argsL := []) (rest := []) (W := 0) E_r1 (ow hw 196 rfl) (ow hw 198 rfl) (ow hw 197 rfl) (ow hw 199 rfl) d33_16 (by decide) (ow hw 125 rfl) (ow hw 200 rfl) (rm37 hw r1 h0 n0 G3.sz cs hcs S F_coder) (by decide) (by decide) rfl (lenOf pd_20 rfl) rfl (Nat.le_of_eq rfl) (pc' := 19) rfl (by decide) (by decide) ?_
  rintro _ T4 h4 G4 ⟨rfl, hh⟩
  subst hh
  show OFin _ _ _ _ T4 (mkF m 19 #[.val (.ref r0), .val (.ref r1), .val .null, .val (.ref vb), .val (.int (3 : Int32))] [(.int (1 : Int32))])
  refine o_if_eq G4 d33_19 (by decide) (pcT := 41) (by decide) (pc' := 22) rfl (fun q => absurd q (by decide)) (fun _ => ?_)
  refine o_aloadN G4 d33_22 (pc' := 23) rfl rfl rfl ?_
  refine o_iconst G4 d33_23 (pc' := 24) rfl (v := (0 : Int32)) rfl ?_
  refine o_putF G4 (host := "") (Or.inl (ow hw 31 rfl)) Via.refl F_c E_r0 (Or.inr ⟨(ow hw 32 rfl), rfl, rfl⟩) (ow hw 17 rfl) (ty := .byte) (by decide) rfl rfl g_r0 d33_24 (pc' := 27) rfl ?_
  intro T5 h5 G5 W5
  replace K := K.wr W5 (Or.inl (List.mem_of_getElem? (i := 0) rfl))
  replace E_r0 := E_r0.wr W5
  replace F_v := F_v.other W5 (Or.inr (slot_ne (Or.inr (ow hw 30 rfl)) (Or.inr (ow hw 32 rfl)) (by decide) (t := (.array .byte)) (t' := .byte) (by decide) (by decide)))
  replace F_c := F_c.same W5
  replace S := S.wr W5
  replace E_r1 := E_r1.wr W5
  replace F_value := F_value.other W5 (Or.inl n1)
  replace F_coder := F_coder.other W5 (Or.inl n1)
  replace F_count := F_count.other W5 (Or.inl n1)
  replace A_vb := A_vb.other W5 n2
  refine o_aloadN G5 d33_27 (pc' := 28) rfl rfl rfl ?_
  refine o_aloadN G5 d33_28 (pc' := 29) rfl rfl rfl ?_
  refine o_iconst G5 d33_29 (pc' := 30) rfl (v := (0 : Int32)) rfl ?_
  refine o_iload G5 d33_30 (pc' := 32) rfl rfl ?_
  refine o_callS G5 (z := (⟨"java/util/Arrays", "copyOfRange", "([BII)[B"⟩ : MethodName)) (argsL := [(.ref vb), (.int (0 : Int32)), (.int (3 : Int32))]) (rest := [(.ref r0)]) (W := 1) (ow hw 201 rfl) (ow hw 202 rfl) d33_32 (by decide) (ow hw 203 rfl) (ow hw 204 rfl) (rm38_1603 hw vb h5 n0 G5.sz w A_vb) (by decide) (by decide) rfl (lenOf pd_18 rfl) rfl (Nat.le_of_eq rfl) (pc' := 35) rfl (by decide) (by decide) ?_
  rintro _ T6 h6 G6 ⟨b6, rfl, g_b6, hb6, K6, A_b6⟩
  have ne_r0_b6 : r0 ≠ b6 := Nat.ne_of_lt (Nat.lt_of_lt_of_le E_r0.lt hb6)
  have ne_r1_b6 : r1 ≠ b6 := Nat.ne_of_lt (Nat.lt_of_lt_of_le E_r1.lt hb6)
  have ne_vb_b6 : vb ≠ b6 := Nat.ne_of_lt (Nat.lt_of_lt_of_le A_vb.lt hb6)
  have sz_b6 : h0.size ≤ b6 := Nat.le_trans K.1 hb6
  replace S := o_stak S K6 (fun x hx => nomatch hx)
  replace K := K.trans K6 all0
  replace E_r0 := E_r0.keep K6
  replace F_v := F_v.keep K6 nin0
  replace F_c := F_c.keep K6 nin0
  replace E_r1 := E_r1.keep K6
  replace F_value := F_value.keep K6 nin0
  replace F_coder := F_coder.keep K6 nin0
  replace F_count := F_count.keep K6 nin0
  replace A_vb := A_vb.keep K6 nin0
  show OFin _ _ _ _ T6 (mkF m 35 #[.val (.ref r0), .val (.ref r1), .val .null, .val (.ref vb), .val (.int (3 : Int32))] [(.ref b6), (.ref r0)])
  refine o_putF G6 (host := "") (Or.inl (ow hw 29 rfl)) Via.refl F_v E_r0 (Or.inr ⟨(ow hw 30 rfl), rfl, rfl⟩) (ow hw 17 rfl) (ty := (.array .byte)) (by decide) rfl rfl g_r0 d33_35 (pc' := 38) rfl ?_
  intro T7 h7 G7 W7
  replace K := K.wr W7 (Or.inl (List.mem_of_getElem? (i := 0) rfl))
  replace E_r0 := E_r0.wr W7
  replace F_v := F_v.same W7
  replace F_c := F_c.other W7 (Or.inr (slot_ne (Or.inr (ow hw 32 rfl)) (Or.inr (ow hw 30 rfl)) (by decide) (t := .byte) (t' := (.array .byte)) (by decide) (by decide)))
  replace S := S.wr W7
  replace E_r1 := E_r1.wr W7
  replace F_value := F_value.other W7 (Or.inl n1)
  replace F_coder := F_coder.other W7 (Or.inl n1)
  replace F_count := F_count.other W7 (Or.inl n1)
  replace A_vb := A_vb.other W7 n2
  replace A_b6 := A_b6.other W7 (Ne.symm ne_r0_b6)
  refine o_goto G7 d33_38 (by decide) (pc' := 97) rfl ?_
  exact o_return G7 d33_97 ⟨rfl, K, b6, sz_b6, F_v, F_c, A_b6⟩ (by decide) (by decide)
set_option maxRecDepth 65536 in
set_option maxHeartbeats 40000000 in
theorem rm32_3 {l : Launch} {Z : State} {a0 : Array Value} (hw : ∀ d ∈ tables_1, d.before a0 Z = true) (r0 : Addr) (r1 : Addr) (h0 : Heap) (n0 : Nat) (hz : n0 ≤ h0.size) (g_r0 : n0 ≤ r0) (E_r0 : Exa Z h0 r0 "java/lang/String") (F_v : Fld Z h0 r0 "java/lang/String" "value" "[B" .null) (F_c : Fld Z h0 r0 "java/lang/String" "coder" "B" (.int (0 : Int32))) (cs : Int32) (hcs : ¬ cs = 0) (S : Sta Z h0 "java/lang/String" "COMPACT_STRINGS" "Z" (.int cs)) (vb : Addr) (E_r1 : Exa Z h0 r1 "java/lang/StringBuilder") (F_value : Fld Z h0 r1 "java/lang/AbstractStringBuilder" "value" "[B" (.ref vb)) (F_coder : Fld Z h0 r1 "java/lang/AbstractStringBuilder" "coder" "B" (.int (0 : Int32))) (F_count : Fld Z h0 r1 "java/lang/AbstractStringBuilder" "count" "I" (.int (3 : Int32))) (w : Nat → Int32) (A_vb : OArr Z h0 vb .byte 16 (fun j => .int (own_by (w j)))) (n1 : r1 ≠ r0) (n2 : vb ≠ r0) :
    OMet l Z (⟨"java/lang/String", "<init>", "(Ljava/lang/StringBuilder;)V"⟩ : MethodName) jdk_42_method_53_code 2 none ({ frames := 4, cells := 1, slots := 3, locals := 71 } : Room) #[(.ref r0), (.ref r1)] h0 n0 ({ frames := 4, cells := 1, slots := 3, locals := 71 } : Room).cells ({ frames := 4, cells := 1, slots := 3, locals := 71 } : Room).slots (fun v h => v = none ∧ Keep h0 h [r0] ∧ ∃ b : Addr, h0.size ≤ b ∧ Fld Z h r0 "java/lang/String" "value" "[B" (.ref b) ∧ Fld Z h r0 "java/lang/String" "coder" "B" (.int (0 : Int32)) ∧ OArr Z h b .byte 3 (fun j => .int (own_by ((fun j => w (0 + j)) j)))) := by
  refine o_body (plainFor_of_name pn_32) hz (fun m => ef_32 m r0 r1) ?_
  intro p e s m below meth c s₁ G0
  have K : Keep h0 h0 [r0] := Keep.refl _ _
  refine o_aloadN G0 d32_0 (pc' := 1) rfl rfl rfl ?_
  refine o_aloadN G0 d32_1 (pc' := 2) rfl rfl rfl ?_
  refine o_aconst_null G0 d32_2 (pc' := 3) rfl ?_
  refine o_callI G0 (z := (⟨"java/lang/String", "<init>", "(Ljava/lang/AbstractStringBuilder;Ljava/lang/Void;)V"⟩ : MethodName)) (argsL := [(.ref r1), .null]) (rest := []) (W := 0) (a := r0) rfl (ow hw 180 rfl) (ow hw 181 rfl) rfl d32_3 (by decide) (ow hw 9 rfl) (ow hw 182 rfl) (rm33_3 hw r0 r1 h0 n0 G0.sz g_r0 E_r0 F_v F_c cs hcs S vb E_r1 F_value F_coder F_count w A_vb n1 n2) (by decide) (by decide) rfl (lenOf pd_21 rfl) rfl (Nat.le_of_eq rfl) (pc' := 6) rfl (by decide) (by decide) ?_
  rintro _ T1 h1 G1 ⟨rfl, K1, hQ1⟩
  replace S := o_stak S K1 (allS E_r0.nostat all0)
  replace K := K.trans K1 (allS (Or.inl (List.mem_of_getElem? (i := 0) rfl)) all0)
  replace E_r0 := E_r0.keep K1
  replace E_r1 := E_r1.keep K1
  replace F_value := F_value.keep K1 (ninS n1 nin0)
  replace F_coder := F_coder.keep K1 (ninS n1 nin0)
  replace F_count := F_count.keep K1 (ninS n1 nin0)
  replace A_vb := A_vb.keep K1 (ninS n2 nin0)
  show OFin _ _ _ _ T1 (mkF m 6 #[.val (.ref r0), .val (.ref r1)] [])
  exact o_return G1 d32_6 ⟨rfl, K, hQ1⟩ (by decide) (by decide)
set_option maxRecDepth 65536 in
set_option maxHeartbeats 40000000 in
theorem rm31_3 {l : Launch} {Z : State} {a0 : Array Value} (hw : ∀ d ∈ tables_1, d.before a0 Z = true) (r0 : Addr) (h0 : Heap) (n0 : Nat) (hz : n0 ≤ h0.size) (cs : Int32) (hcs : ¬ cs = 0) (S : Sta Z h0 "java/lang/String" "COMPACT_STRINGS" "Z" (.int cs)) (vb : Addr) (E_r0 : Exa Z h0 r0 "java/lang/StringBuilder") (F_value : Fld Z h0 r0 "java/lang/AbstractStringBuilder" "value" "[B" (.ref vb)) (F_coder : Fld Z h0 r0 "java/lang/AbstractStringBuilder" "coder" "B" (.int (0 : Int32))) (F_count : Fld Z h0 r0 "java/lang/AbstractStringBuilder" "count" "I" (.int (3 : Int32))) (w : Nat → Int32) (A_vb : OArr Z h0 vb .byte 16 (fun j => .int (own_by (w j)))) :
    OMet l Z (⟨"java/lang/StringBuilder", "toString", "()Ljava/lang/String;"⟩ : MethodName) jdk_67_method_42_code 1 (some (.object "java/lang/String")) ({ frames := 5, cells := 2, slots := 7, locals := 85 } : Room) #[(.ref r0)] h0 n0 ({ frames := 5, cells := 2, slots := 7, locals := 85 } : Room).cells ({ frames := 5, cells := 2, slots := 7, locals := 85 } : Room).slots (fun v h => ∃ a b : Addr, v = some (.ref a) ∧ n0 ≤ a ∧ h0.size ≤ a ∧ h0.size ≤ b ∧ Keep h0 h [] ∧ Exa Z h a "java/lang/String" ∧ Fld Z h a "java/lang/String" "value" "[B" (.ref b) ∧ Fld Z h a "java/lang/String" "coder" "B" (.int (0 : Int32)) ∧ OArr Z h b .byte 3 (fun j => .int (own_by ((fun j => w (0 + j)) j)))) := by
  refine o_body (plainFor_of_name pn_31) hz (fun m => ef_31 m r0) ?_
  intro p e s m below meth c s₁ G0
  have K : Keep h0 h0 [] := Keep.refl _ _
  refine o_new G0 (ow hw 176 rfl) (ow hw 17 rfl) (ow hw 9 rfl) d31_0 (pc' := 3) rfl (by decide) (by decide) ?_
  intro T1 h1 b1 G1 g1 g_b1 E1 A1 D1
  have ne_r0_b1 : r0 ≠ b1 := Nat.ne_of_lt (Nat.lt_of_lt_of_eq E_r0.lt g1.symm)
  have ne_vb_b1 : vb ≠ b1 := Nat.ne_of_lt (Nat.lt_of_lt_of_eq A_vb.lt g1.symm)
  have sz_b1 : h0.size ≤ b1 := Nat.le_trans K.1 (Nat.le_of_eq g1.symm)
  replace K := K.ext E1
  replace S := S.ext E1
  replace E_r0 := E_r0.ext E1
  replace F_value := F_value.ext E1
  replace F_coder := F_coder.ext E1
  replace F_count := F_count.ext E1
  replace A_vb := A_vb.ext E1
  have F_value_b1 : Fld Z h1 b1 "java/lang/String" "value" "[B" .null := D1 (Or.inr (ow hw 30 rfl)) (ty := (.array .byte)) (by decide)
  have F_coder_b1 : Fld Z h1 b1 "java/lang/String" "coder" "B" (.int (0 : Int32)) := D1 (Or.inr (ow hw 32 rfl)) (ty := .byte) (by decide)
  refine o_dup G1 d31_3 (pc' := 4) rfl rfl ?_
  refine o_aloadN G1 d31_4 (pc' := 5) rfl rfl rfl ?_
  refine o_callI G1 (z := (⟨"java/lang/String", "<init>", "(Ljava/lang/StringBuilder;)V"⟩ : MethodName)) (argsL := [(.ref r0)]) (rest := [(.ref b1)]) (W := 1) (a := b1) rfl (ow hw 177 rfl) (ow hw 178 rfl) rfl d31_5 (by decide) (ow hw 9 rfl) (ow hw 179 rfl) (rm32_3 hw b1 r0 h1 n0 G1.sz g_b1 A1 F_value_b1 F_coder_b1 cs hcs S vb E_r0 F_value F_coder F_count w A_vb ne_r0_b1 ne_vb_b1) (by decide) (by decide) rfl (lenOf pd_22 rfl) rfl (Nat.le_of_eq rfl) (pc' := 8) rfl (by decide) (by decide) ?_
  rintro _ T2 h2 G2 ⟨rfl, K2, b, hb, Fv2, Fc2, Ab2⟩
  have sz_b : h0.size ≤ b := Nat.le_trans K.1 hb
  replace S := o_stak S K2 (allS A1.nostat all0)
  replace K := K.trans K2 (allS (Or.inr sz_b1) all0)
  replace E_r0 := E_r0.keep K2
  replace F_value := F_value.keep K2 (ninS ne_r0_b1 nin0)
  replace F_coder := F_coder.keep K2 (ninS ne_r0_b1 nin0)
  replace F_count := F_count.keep K2 (ninS ne_r0_b1 nin0)
  replace A_vb := A_vb.keep K2 (ninS ne_vb_b1 nin0)
  replace A1 := A1.keep K2
  show OFin _ _ _ _ T2 (mkF m 8 #[.val (.ref r0)] [(.ref b1)])
  exact o_areturn G2 rfl rfl rfl d31_8 ⟨b1, b, rfl, g_b1, sz_b1, sz_b, K, A1, Fv2, Fc2, Ab2⟩ (by decide) (by decide)
theorem d46_0 : decode jdk_42_method_154_code 0 = .ok (.getstatic 38, 3) := by decide +kernel
theorem d46_3 : decode jdk_42_method_154_code 3 = .ok (.ifCond .eq 14, 3) := by decide +kernel
theorem d46_6 : decode jdk_42_method_154_code 6 = .ok (.aload_n 0, 1) := by decide +kernel
theorem d46_7 : decode jdk_42_method_154_code 7 = .ok (.getfield 15, 3) := by decide +kernel
theorem d46_10 : decode jdk_42_method_154_code 10 = .ok (.ifCond .ne 7, 3) := by decide +kernel
theorem d46_13 : decode jdk_42_method_154_code 13 = .ok (.iconst 1, 1) := by decide +kernel
theorem d46_14 : decode jdk_42_method_154_code 14 = .ok (.goto 4, 3) := by decide +kernel
theorem d46_18 : decode jdk_42_method_154_code 18 = .ok (.ireturn, 1) := by decide +kernel
theorem pn_46 : plainName "java/lang/String" = true := by first | (simp [plainName, overriddenIn]; done) | decide +kernel
theorem ef_46 (m : MethodId) (r0 : Addr) : entryFrame m #[(.ref r0)] 1 = mkF m 0 #[.val (.ref r0)] [] := by first | (simp [entryFrame, mkF, argsToLocals, Value.category]; done) | rfl
set_option maxRecDepth 65536 in
set_option maxHeartbeats 40000000 in
theorem rm46 {l : Launch} {Z : State} {a0 : Array Value} (hw : ∀ d ∈ tables_1, d.before a0 Z = true) (r0 : Addr) (h0 : Heap) (n0 : Nat) (hz : n0 ≤ h0.size) (cs : Int32) (hcs : ¬ cs = 0) (S : Sta Z h0 "java/lang/String" "COMPACT_STRINGS" "Z" (.int cs)) (Fc : Fld Z h0 r0 "java/lang/String" "coder" "B" (.int (0 : Int32))) :
    OMet l Z (⟨"java/lang/String", "isLatin1", "()Z"⟩ : MethodName) jdk_42_method_154_code 1 (some .boolean) ({ frames := 0, cells := 0, slots := 0, locals := 0 } : Room) #[(.ref r0)] h0 n0 ({ frames := 0, cells := 0, slots := 0, locals := 0 } : Room).cells ({ frames := 0, cells := 0, slots := 0, locals := 0 } : Room).slots (OVal h0 (.int 1)) := by
  refine o_body (plainFor_of_name pn_46) hz (fun m => ef_46 m r0) ?_
  intro p e s m below meth c s₁ G0
  refine o_getS G0 (host := "") (Or.inl (ow hw 11 rfl)) Via.refl S d46_0 (pc' := 3) rfl ?_
  intro T1 G1
  refine o_if_eq G1 d46_3 (by decide) (pcT := 17) (by decide) (pc' := 6) rfl (fun q => absurd q hcs) (fun _ => ?_)
  refine o_aloadN G1 d46_6 (pc' := 7) rfl rfl rfl ?_
  refine o_getF G1 (host := "") (Or.inl (ow hw 31 rfl)) Via.refl Fc d46_7 (pc' := 10) rfl ?_
  intro T2 G2
  refine o_if_ne G2 d46_10 (by decide) (pcT := 17) (by decide) (pc' := 13) rfl (fun q => absurd (by decide) q) (fun _ => ?_)
  refine o_iconst G2 d46_13 (pc' := 14) rfl (v := (1 : Int32)) rfl ?_
  refine o_goto G2 d46_14 (by decide) (pc' := 18) rfl ?_
  exact o_nreturn (t := .boolean) G2 (by simp) d46_18 ⟨rfl, rfl⟩ (by decide) (by decide)
theorem d45_0 : decode jdk_41_method_12_code 0 = .ok (.iload_n 0, 1) := by decide +kernel
theorem d45_1 : decode jdk_41_method_12_code 1 = .ok (.ifCond .lt 13, 3) := by decide +kernel
theorem d45_4 : decode jdk_41_method_12_code 4 = .ok (.iload_n 0, 1) := by decide +kernel
theorem d45_5 : decode jdk_41_method_12_code 5 = .ok (.iload_n 1, 1) := by decide +kernel
theorem d45_6 : decode jdk_41_method_12_code 6 = .ok (.if_icmp .gt 8, 3) := by decide +kernel
theorem d45_9 : decode jdk_41_method_12_code 9 = .ok (.iload_n 1, 1) := by decide +kernel
theorem d45_10 : decode jdk_41_method_12_code 10 = .ok (.iload_n 2, 1) := by decide +kernel
theorem d45_11 : decode jdk_41_method_12_code 11 = .ok (.if_icmp .le 11, 3) := by decide +kernel
theorem d45_22 : decode jdk_41_method_12_code 22 = .ok (.iload_n 0, 1) := by decide +kernel
theorem d45_23 : decode jdk_41_method_12_code 23 = .ok (.ireturn, 1) := by decide +kernel
theorem pn_45 : plainName "jdk/internal/util/Preconditions" = true := by first | (simp [plainName, overriddenIn]; done) | decide +kernel
theorem ef_45 (m : MethodId) (p0 : Int32) (p1 : Int32) (p2 : Int32) (r3 : Addr) : entryFrame m #[(.int p0), (.int p1), (.int p2), (.ref r3)] 4 = mkF m 0 #[.val (.int p0), .val (.int p1), .val (.int p2), .val (.ref r3)] [] := by first | (simp [entryFrame, mkF, argsToLocals, Value.category]; done) | rfl
set_option maxRecDepth 65536 in
set_option maxHeartbeats 40000000 in
theorem rm45_2r {l : Launch} {Z : State} {a0 : Array Value} (hw : ∀ d ∈ tables_1, d.before a0 Z = true) (r3 : Addr) (h0 : Heap) (n0 : Nat) (hz : n0 ≤ h0.size) :
    OMet l Z (⟨"jdk/internal/util/Preconditions", "checkFromToIndex", "(IIILjava/util/function/BiFunction;)I"⟩ : MethodName) jdk_41_method_12_code 4 (some .int) ({ frames := 0, cells := 0, slots := 0, locals := 0 } : Room) #[(.int (1 : Int32)), (.int (2 : Int32)), (.int (2 : Int32)), (.ref r3)] h0 n0 ({ frames := 0, cells := 0, slots := 0, locals := 0 } : Room).cells ({ frames := 0, cells := 0, slots := 0, locals := 0 } : Room).slots (OVal h0 (.int (1 : Int32))) := by
  refine o_body (plainFor_of_name pn_45) hz (fun m => ef_45 m (1 : Int32) (2 : Int32) (2 : Int32) r3) ?_
  intro p e s m below meth c s₁ G0
  refine o_iloadN G0 d45_0 (pc' := 1) rfl rfl ?_
  refine o_if_lt G0 d45_1 (by decide) (pcT := 14) (by decide) (pc' := 4) rfl (fun q => absurd q (by decide)) (fun _ => ?_)
  refine o_iloadN G0 d45_4 (pc' := 5) rfl rfl ?_
  refine o_iloadN G0 d45_5 (pc' := 6) rfl rfl ?_
  refine o_icmp_gt G0 d45_6 (by decide) (pcT := 14) (by decide) (pc' := 9) rfl (fun q => absurd q (by decide)) (fun _ => ?_)
  refine o_iloadN G0 d45_9 (pc' := 10) rfl rfl ?_
  refine o_iloadN G0 d45_10 (pc' := 11) rfl rfl ?_
  refine o_icmp_le G0 d45_11 (by decide) (pcT := 22) (by decide) (pc' := 14) rfl (fun _ => ?_) (fun q => absurd q (by decide))
  refine o_iloadN G0 d45_22 (pc' := 23) rfl rfl ?_
  exact o_ireturn G0 d45_23 ⟨rfl, rfl⟩ (by decide) (by decide)
theorem d44_0 : decode jdk_42_method_158_code 0 = .ok (.iload_n 0, 1) := by decide +kernel
theorem d44_1 : decode jdk_42_method_158_code 1 = .ok (.iload_n 1, 1) := by decide +kernel
theorem d44_2 : decode jdk_42_method_158_code 2 = .ok (.iload_n 2, 1) := by decide +kernel
theorem d44_3 : decode jdk_42_method_158_code 3 = .ok (.getstatic 1053, 3) := by decide +kernel
theorem d44_6 : decode jdk_42_method_158_code 6 = .ok (.invokestatic 1062, 3) := by decide +kernel
theorem d44_9 : decode jdk_42_method_158_code 9 = .ok (.pop, 1) := by decide +kernel
theorem d44_10 : decode jdk_42_method_158_code 10 = .ok (.return_, 1) := by decide +kernel
theorem pn_44 : plainName "java/lang/String" = true := by first | (simp [plainName, overriddenIn]; done) | decide +kernel
theorem ef_44 (m : MethodId) (p0 : Int32) (p1 : Int32) (p2 : Int32) : entryFrame m #[(.int p0), (.int p1), (.int p2)] 3 = mkF m 0 #[.val (.int p0), .val (.int p1), .val (.int p2)] [] := by first | (simp [entryFrame, mkF, argsToLocals, Value.category]; done) | rfl
set_option maxRecDepth 65536 in
set_option maxHeartbeats 40000000 in
theorem rm44_2r {l : Launch} {Z : State} {a0 : Array Value} (hw : ∀ d ∈ tables_1, d.before a0 Z = true)  (h0 : Heap) (n0 : Nat) (hz : n0 ≤ h0.size) (fm : Addr) (SF : Sta Z h0 "jdk/internal/util/Preconditions" "SIOOBE_FORMATTER" "Ljava/util/function/BiFunction;" (.ref fm)) :
    OMet l Z (⟨"java/lang/String", "checkBoundsBeginEnd", "(III)V"⟩ : MethodName) jdk_42_method_158_code 3 none ({ frames := 1, cells := 0, slots := 0, locals := 15 } : Room) #[(.int (1 : Int32)), (.int (2 : Int32)), (.int (2 : Int32))] h0 n0 ({ frames := 1, cells := 0, slots := 0, locals := 15 } : Room).cells ({ frames := 1, cells := 0, slots := 0, locals := 15 } : Room).slots (fun v h => v = none ∧ h0 = h) := by
  refine o_body (plainFor_of_name pn_44) hz (fun m => ef_44 m (1 : Int32) (2 : Int32) (2 : Int32)) ?_
  intro p e s m below meth c s₁ G0
  refine o_iloadN G0 d44_0 (pc' := 1) rfl rfl ?_
  refine o_iloadN G0 d44_1 (pc' := 2) rfl rfl ?_
  refine o_iloadN G0 d44_2 (pc' := 3) rfl rfl ?_
  refine o_getS G0 (host := "") (Or.inl (ow hw 230 rfl)) Via.refl SF d44_3 (pc' := 6) rfl ?_
  intro T1 G1
  refine o_callS G1 (z := (⟨"jdk/internal/util/Preconditions", "checkFromToIndex", "(IIILjava/util/function/BiFunction;)I"⟩ : MethodName)) (argsL := [(.int (1 : Int32)), (.int (2 : Int32)), (.int (2 : Int32)), (.ref fm)]) (rest := []) (W := 0) (ow hw 232 rfl) (ow hw 233 rfl) d44_6 (by decide) (ow hw 231 rfl) (ow hw 234 rfl) (rm45_2r hw fm h0 n0 G1.sz) (by decide) (by decide) rfl (lenOf pd_23 rfl) rfl (Nat.le_of_eq rfl) (pc' := 9) rfl (by decide) (by decide) ?_
  rintro _ T2 h2 G2 ⟨rfl, hh⟩
  subst hh
  show OFin _ _ _ _ T2 (mkF m 9 #[.val (.int (1 : Int32)), .val (.int (2 : Int32)), .val (.int (2 : Int32))] [(.int (1 : Int32))])
  refine o_pop G2 d44_9 (pc' := 10) rfl rfl ?_
  exact o_return G2 d44_10 ⟨rfl, rfl⟩ (by decide) (by decide)
set_option maxRecDepth 65536 in
set_option maxHeartbeats 40000000 in
theorem rm45_2z {l : Launch} {Z : State} {a0 : Array Value} (hw : ∀ d ∈ tables_1, d.before a0 Z = true)  (h0 : Heap) (n0 : Nat) (hz : n0 ≤ h0.size) :
    OMet l Z (⟨"jdk/internal/util/Preconditions", "checkFromToIndex", "(IIILjava/util/function/BiFunction;)I"⟩ : MethodName) jdk_41_method_12_code 4 (some .int) ({ frames := 0, cells := 0, slots := 0, locals := 0 } : Room) #[(.int (1 : Int32)), (.int (2 : Int32)), (.int (2 : Int32)), .null] h0 n0 ({ frames := 0, cells := 0, slots := 0, locals := 0 } : Room).cells ({ frames := 0, cells := 0, slots := 0, locals := 0 } : Room).slots (OVal h0 (.int (1 : Int32))) := by
  refine o_body (plainFor_of_name pn_45) hz (Ls := #[.val (.int (1 : Int32)), .val (.int (2 : Int32)), .val (.int (2 : Int32)), .val .null]) (fun m => by first | (simp [entryFrame, mkF, argsToLocals, Value.category]; done) | rfl) ?_
  intro p e s m below meth c s₁ G0
  refine o_iloadN G0 d45_0 (pc' := 1) rfl rfl ?_
  refine o_if_lt G0 d45_1 (by decide) (pcT := 14) (by decide) (pc' := 4) rfl (fun q => absurd q (by decide)) (fun _ => ?_)
  refine o_iloadN G0 d45_4 (pc' := 5) rfl rfl ?_
  refine o_iloadN G0 d45_5 (pc' := 6) rfl rfl ?_
  refine o_icmp_gt G0 d45_6 (by decide) (pcT := 14) (by decide) (pc' := 9) rfl (fun q => absurd q (by decide)) (fun _ => ?_)
  refine o_iloadN G0 d45_9 (pc' := 10) rfl rfl ?_
  refine o_iloadN G0 d45_10 (pc' := 11) rfl rfl ?_
  refine o_icmp_le G0 d45_11 (by decide) (pcT := 22) (by decide) (pc' := 14) rfl (fun _ => ?_) (fun q => absurd q (by decide))
  refine o_iloadN G0 d45_22 (pc' := 23) rfl rfl ?_
  exact o_ireturn G0 d45_23 ⟨rfl, rfl⟩ (by decide) (by decide)
set_option maxRecDepth 65536 in
set_option maxHeartbeats 40000000 in
theorem rm44_2z {l : Launch} {Z : State} {a0 : Array Value} (hw : ∀ d ∈ tables_1, d.before a0 Z = true)  (h0 : Heap) (n0 : Nat) (hz : n0 ≤ h0.size) (SF : Sta Z h0 "jdk/internal/util/Preconditions" "SIOOBE_FORMATTER" "Ljava/util/function/BiFunction;" .null) :
    OMet l Z (⟨"java/lang/String", "checkBoundsBeginEnd", "(III)V"⟩ : MethodName) jdk_42_method_158_code 3 none ({ frames := 1, cells := 0, slots := 0, locals := 15 } : Room) #[(.int (1 : Int32)), (.int (2 : Int32)), (.int (2 : Int32))] h0 n0 ({ frames := 1, cells := 0, slots := 0, locals := 15 } : Room).cells ({ frames := 1, cells := 0, slots := 0, locals := 15 } : Room).slots (fun v h => v = none ∧ h0 = h) := by
  refine o_body (plainFor_of_name pn_44) hz (fun m => ef_44 m (1 : Int32) (2 : Int32) (2 : Int32)) ?_
  intro p e s m below meth c s₁ G0
  refine o_iloadN G0 d44_0 (pc' := 1) rfl rfl ?_
  refine o_iloadN G0 d44_1 (pc' := 2) rfl rfl ?_
  refine o_iloadN G0 d44_2 (pc' := 3) rfl rfl ?_
  refine o_getS G0 (host := "") (Or.inl (ow hw 230 rfl)) Via.refl SF d44_3 (pc' := 6) rfl ?_
  intro T1 G1
  refine o_callS G1 (z := (⟨"jdk/internal/util/Preconditions", "checkFromToIndex", "(IIILjava/util/function/BiFunction;)I"⟩ : MethodName)) (argsL := [(.int (1 : Int32)), (.int (2 : Int32)), (.int (2 : Int32)), .null]) (rest := []) (W := 0) (ow hw 232 rfl) (ow hw 233 rfl) d44_6 (by decide) (ow hw 231 rfl) (ow hw 234 rfl) (rm45_2z hw h0 n0 G1.sz) (by decide) (by decide) rfl (lenOf pd_23 rfl) rfl (Nat.le_of_eq rfl) (pc' := 9) rfl (by decide) (by decide) ?_
  rintro _ T2 h2 G2 ⟨rfl, hh⟩
  subst hh
  show OFin _ _ _ _ T2 (mkF m 9 #[.val (.int (1 : Int32)), .val (.int (2 : Int32)), .val (.int (2 : Int32))] [(.int (1 : Int32))])
  refine o_pop G2 d44_9 (pc' := 10) rfl rfl ?_
  exact o_return G2 d44_10 ⟨rfl, rfl⟩ (by decide) (by decide)
set_option maxRecDepth 65536 in
set_option maxHeartbeats 40000000 in
theorem own_cbe_2 {l : Launch} {Z : State} {a0 : Array Value} (hw : ∀ d ∈ tables_1, d.before a0 Z = true)  (h0 : Heap) (n0 : Nat) (hz : n0 ≤ h0.size) (fm : Value) (hfm : fm.isRef = true) (SF : Sta Z h0 "jdk/internal/util/Preconditions" "SIOOBE_FORMATTER" "Ljava/util/function/BiFunction;" fm) :
    OMet l Z (⟨"java/lang/String", "checkBoundsBeginEnd", "(III)V"⟩ : MethodName) jdk_42_method_158_code 3 none ({ frames := 1, cells := 0, slots := 0, locals := 15 } : Room) #[(.int (1 : Int32)), (.int (2 : Int32)), (.int (2 : Int32))] h0 n0 ({ frames := 1, cells := 0, slots := 0, locals := 15 } : Room).cells ({ frames := 1, cells := 0, slots := 0, locals := 15 } : Room).slots (fun v h => v = none ∧ h0 = h) := by
  rcases ref_cases hfm with rfl | ⟨fa, rfl⟩
  · exact rm44_2z hw h0 n0 hz SF
  · exact rm44_2r hw h0 n0 hz fa SF
theorem d47_0 : decode jdk_43_method_47_code 0 = .ok (.iload_n 2, 1) := by decide +kernel
theorem d47_1 : decode jdk_43_method_47_code 1 = .ok (.ifCond .ne 6, 3) := by decide +kernel
theorem d47_7 : decode jdk_43_method_47_code 7 = .ok (.new 1, 3) := by decide +kernel
theorem d47_10 : decode jdk_43_method_47_code 10 = .ok (.dup, 1) := by decide +kernel
theorem d47_11 : decode jdk_43_method_47_code 11 = .ok (.aload_n 0, 1) := by decide +kernel
theorem d47_12 : decode jdk_43_method_47_code 12 = .ok (.iload_n 1, 1) := by decide +kernel
theorem d47_13 : decode jdk_43_method_47_code 13 = .ok (.iload_n 1, 1) := by decide +kernel
theorem d47_14 : decode jdk_43_method_47_code 14 = .ok (.iload_n 2, 1) := by decide +kernel
theorem d47_15 : decode jdk_43_method_47_code 15 = .ok (.iadd, 1) := by decide +kernel
theorem d47_16 : decode jdk_43_method_47_code 16 = .ok (.invokestatic 232, 3) := by decide +kernel
theorem d47_19 : decode jdk_43_method_47_code 19 = .ok (.iconst 0, 1) := by decide +kernel
theorem d47_20 : decode jdk_43_method_47_code 20 = .ok (.invokespecial 112, 3) := by decide +kernel
theorem d47_23 : decode jdk_43_method_47_code 23 = .ok (.areturn, 1) := by decide +kernel
theorem pn_47 : plainName "java/lang/StringLatin1" = true := by first | (simp [plainName, overriddenIn]; done) | decide +kernel
theorem ef_47 (m : MethodId) (r0 : Addr) (p1 : Int32) (p2 : Int32) : entryFrame m #[(.ref r0), (.int p1), (.int p2)] 3 = mkF m 0 #[.val (.ref r0), .val (.int p1), .val (.int p2)] [] := by first | (simp [entryFrame, mkF, argsToLocals, Value.category]; done) | rfl
set_option maxRecDepth 65536 in
set_option maxHeartbeats 40000000 in
theorem rm47_2 {l : Launch} {Z : State} {a0 : Array Value} (hw : ∀ d ∈ tables_1, d.before a0 Z = true) (r0 : Addr) (h0 : Heap) (n0 : Nat) (hz : n0 ≤ h0.size) (g : Nat → Int32) (A_r0 : OArr Z h0 r0 .byte 2 (fun j => .int (own_by (g j)))) :
    OMet l Z (⟨"java/lang/StringLatin1", "newString", "([BII)Ljava/lang/String;"⟩ : MethodName) jdk_43_method_47_code 3 (some (.object "java/lang/String")) ({ frames := 3, cells := 2, slots := 7, locals := 56 } : Room) #[(.ref r0), (.int (1 : Int32)), (.int (1 : Int32))] h0 n0 ({ frames := 3, cells := 2, slots := 7, locals := 56 } : Room).cells ({ frames := 3, cells := 2, slots := 7, locals := 56 } : Room).slots (fun v h => ∃ a b : Addr, v = some (.ref a) ∧ n0 ≤ a ∧ h0.size ≤ a ∧ h0.size ≤ b ∧ Keep h0 h [] ∧ Exa Z h a "java/lang/String" ∧ Fld Z h a "java/lang/String" "value" "[B" (.ref b) ∧ Fld Z h a "java/lang/String" "coder" "B" (.int (0 : Int32)) ∧ OArr Z h b .byte 1 (fun j => .int (own_by ((fun j => g (1 + j)) j)))) := by
  refine o_body (plainFor_of_name pn_47) hz (fun m => ef_47 m r0 (1 : Int32) (1 : Int32)) ?_
  intro p e s m below meth c s₁ G0
  have K : Keep h0 h0 [] := Keep.refl _ _
  refine o_iloadN G0 d47_0 (pc' := 1) rfl rfl ?_
  refine o_if_ne G0 d47_1 (by decide) (pcT := 7) (by decide) (pc' := 4) rfl (fun _ => ?_) (fun q => absurd q (by decide))
  refine o_new G0 (ow hw 243 rfl) (ow hw 17 rfl) (ow hw 9 rfl) d47_7 (pc' := 10) rfl (by decide) (by decide) ?_
  intro T1 h1 b1 G1 g1 g_b1 E1 A1 D1
  have ne_r0_b1 : r0 ≠ b1 := Nat.ne_of_lt (Nat.lt_of_lt_of_eq A_r0.lt g1.symm)
  have sz_b1 : h0.size ≤ b1 := Nat.le_trans K.1 (Nat.le_of_eq g1.symm)
  replace K := K.ext E1
  replace A_r0 := A_r0.ext E1
  have F_value_b1 : Fld Z h1 b1 "java/lang/String" "value" "[B" .null := D1 (Or.inr (ow hw 30 rfl)) (ty := (.array .byte)) (by decide)
  have F_coder_b1 : Fld Z h1 b1 "java/lang/String" "coder" "B" (.int (0 : Int32)) := D1 (Or.inr (ow hw 32 rfl)) (ty := .byte) (by decide)
  refine o_dup G1 d47_10 (pc' := 11) rfl rfl ?_
  refine o_aloadN G1 d47_11 (pc' := 12) rfl rfl rfl ?_
  refine o_iloadN G1 d47_12 (pc' := 13) rfl rfl ?_
  refine o_iloadN G1 d47_13 (pc' := 14) rfl rfl ?_
  refine o_iloadN G1 d47_14 (pc' := 15) rfl rfl ?_
  refine o_iadd G1 d47_15 (pc' := 16) rfl (v := (2 : Int32)) (by decide) ?_
  refine o_callS G1 (z := (⟨"java/util/Arrays", "copyOfRange", "([BII)[B"⟩ : MethodName)) (argsL := [(.ref r0), (.int (1 : Int32)), (.int (2 : Int32))]) (rest := [(.ref b1), (.ref b1)]) (W := 2) (ow hw 244 rfl) (ow hw 202 rfl) d47_16 (by decide) (ow hw 203 rfl) (ow hw 204 rfl) (rm38_212 hw r0 h1 n0 G1.sz g A_r0) (by decide) (by decide) rfl (lenOf pd_18 rfl) rfl (Nat.le_of_eq rfl) (pc' := 19) rfl (by decide) (by decide) ?_
  rintro _ T2 h2 G2 ⟨b2, rfl, g_b2, hb2, K2, A_b2⟩
  have ne_r0_b2 : r0 ≠ b2 := Nat.ne_of_lt (Nat.lt_of_lt_of_le A_r0.lt hb2)
  have ne_b1_b2 : b1 ≠ b2 := Nat.ne_of_lt (Nat.lt_of_lt_of_le A1.lt hb2)
  have sz_b2 : h0.size ≤ b2 := Nat.le_trans K.1 hb2
  replace K := K.trans K2 all0
  replace A_r0 := A_r0.keep K2 nin0
  replace A1 := A1.keep K2
  replace F_value_b1 := F_value_b1.keep K2 nin0
  replace F_coder_b1 := F_coder_b1.keep K2 nin0
  show OFin _ _ _ _ T2 (mkF m 19 #[.val (.ref r0), .val (.int (1 : Int32)), .val (.int (1 : Int32))] [(.ref b2), (.ref b1), (.ref b1)])
  refine o_iconst G2 d47_19 (pc' := 20) rfl (v := (0 : Int32)) rfl ?_
  refine o_callI G2 (z := (⟨"java/lang/String", "<init>", "([BB)V"⟩ : MethodName)) (argsL := [(.ref b2), (.int (0 : Int32))]) (rest := [(.ref b1)]) (W := 1) (a := b1) rfl (ow hw 245 rfl) (ow hw 23 rfl) rfl d47_20 (by decide) (ow hw 9 rfl) (ow hw 25 rfl) (rm6 hw b1 b2 h2 n0 G2.sz g_b1 A1 F_value_b1 F_coder_b1) (by decide) (by decide) rfl (lenOf pd_2 rfl) rfl (Nat.le_of_eq rfl) (pc' := 23) rfl (by decide) (by decide) ?_
  rintro _ T3 h3 G3 ⟨rfl, K3, Fv3, Fc3⟩
  replace K := K.trans K3 (allS (Or.inr sz_b1) all0)
  replace A_r0 := A_r0.keep K3 (ninS ne_r0_b1 nin0)
  replace A1 := A1.keep K3
  replace A_b2 := A_b2.keep K3 (ninS (Ne.symm ne_b1_b2) nin0)
  show OFin _ _ _ _ T3 (mkF m 23 #[.val (.ref r0), .val (.int (1 : Int32)), .val (.int (1 : Int32))] [(.ref b1)])
  exact o_areturn G3 rfl rfl rfl d47_23 ⟨b1, b2, rfl, g_b1, sz_b1, sz_b2, K, A1, Fv3, Fc3, A_b2⟩ (by decide) (by decide)
theorem d43_0 : decode jdk_42_method_92_code 0 = .ok (.aload_n 0, 1) := by decide +kernel
theorem d43_1 : decode jdk_42_method_92_code 1 = .ok (.invokevirtual 505, 3) := by decide +kernel
theorem d43_4 : decode jdk_42_method_92_code 4 = .ok (.istore_n 3, 1) := by decide +kernel
theorem d43_5 : decode jdk_42_method_92_code 5 = .ok (.iload_n 1, 1) := by decide +kernel
theorem d43_6 : decode jdk_42_method_92_code 6 = .ok (.iload_n 2, 1) := by decide +kernel
theorem d43_7 : decode jdk_42_method_92_code 7 = .ok (.iload_n 3, 1) := by decide +kernel
theorem d43_8 : decode jdk_42_method_92_code 8 = .ok (.invokestatic 521, 3) := by decide +kernel
theorem d43_11 : decode jdk_42_method_92_code 11 = .ok (.iload_n 1, 1) := by decide +kernel
theorem d43_12 : decode jdk_42_method_92_code 12 = .ok (.ifCond .ne 10, 3) := by decide +kernel
theorem d43_22 : decode jdk_42_method_92_code 22 = .ok (.iload_n 2, 1) := by decide +kernel
theorem d43_23 : decode jdk_42_method_92_code 23 = .ok (.iload_n 1, 1) := by decide +kernel
theorem d43_24 : decode jdk_42_method_92_code 24 = .ok (.isub, 1) := by decide +kernel
theorem d43_25 : decode jdk_42_method_92_code 25 = .ok (.istore 4, 2) := by decide +kernel
theorem d43_27 : decode jdk_42_method_92_code 27 = .ok (.aload_n 0, 1) := by decide +kernel
theorem d43_28 : decode jdk_42_method_92_code 28 = .ok (.invokevirtual 492, 3) := by decide +kernel
theorem d43_31 : decode jdk_42_method_92_code 31 = .ok (.ifCond .eq 16, 3) := by decide +kernel
theorem d43_34 : decode jdk_42_method_92_code 34 = .ok (.aload_n 0, 1) := by decide +kernel
theorem d43_35 : decode jdk_42_method_92_code 35 = .ok (.getfield 9, 3) := by decide +kernel
theorem d43_38 : decode jdk_42_method_92_code 38 = .ok (.iload_n 1, 1) := by decide +kernel
theorem d43_39 : decode jdk_42_method_92_code 39 = .ok (.iload 4, 2) := by decide +kernel
theorem d43_41 : decode jdk_42_method_92_code 41 = .ok (.invokestatic 685, 3) := by decide +kernel
theorem d43_44 : decode jdk_42_method_92_code 44 = .ok (.goto 13, 3) := by decide +kernel
theorem d43_57 : decode jdk_42_method_92_code 57 = .ok (.areturn, 1) := by decide +kernel
theorem pn_43 : plainName "java/lang/String" = true := by first | (simp [plainName, overriddenIn]; done) | decide +kernel
theorem ef_43 (m : MethodId) (r0 : Addr) (p1 : Int32) (p2 : Int32) : entryFrame m #[(.ref r0), (.int p1), (.int p2)] 5 = mkF m 0 #[.val (.ref r0), .val (.int p1), .val (.int p2), .unset, .unset] [] := by first | (simp [entryFrame, mkF, argsToLocals, Value.category]; done) | rfl
set_option maxRecDepth 65536 in
set_option maxHeartbeats 40000000 in
theorem rm43_2 {l : Launch} {Z : State} {a0 : Array Value} (hw : ∀ d ∈ tables_1, d.before a0 Z = true) (r0 : Addr) (h0 : Heap) (n0 : Nat) (hz : n0 ≤ h0.size) (cs : Int32) (hcs : ¬ cs = 0) (S : Sta Z h0 "java/lang/String" "COMPACT_STRINGS" "Z" (.int cs)) (fm : Value) (hfm : fm.isRef = true) (SF : Sta Z h0 "jdk/internal/util/Preconditions" "SIOOBE_FORMATTER" "Ljava/util/function/BiFunction;" fm) (b : Addr) (g : Nat → Int32) (E_r0 : Exa Z h0 r0 "java/lang/String") (Fv_r0 : Fld Z h0 r0 "java/lang/String" "value" "[B" (.ref b)) (Fc_r0 : Fld Z h0 r0 "java/lang/String" "coder" "B" (.int (0 : Int32))) (A_b : OArr Z h0 b .byte 2 (fun j => .int (own_by (g j)))) :
    OMet l Z (⟨"java/lang/String", "substring", "(II)Ljava/lang/String;"⟩ : MethodName) jdk_42_method_92_code 5 (some (.object "java/lang/String")) ({ frames := 4, cells := 2, slots := 7, locals := 70 } : Room) #[(.ref r0), (.int (1 : Int32)), (.int (2 : Int32))] h0 n0 ({ frames := 4, cells := 2, slots := 7, locals := 70 } : Room).cells ({ frames := 4, cells := 2, slots := 7, locals := 70 } : Room).slots (fun v h => ∃ a b : Addr, v = some (.ref a) ∧ n0 ≤ a ∧ h0.size ≤ a ∧ h0.size ≤ b ∧ Keep h0 h [] ∧ Exa Z h a "java/lang/String" ∧ Fld Z h a "java/lang/String" "value" "[B" (.ref b) ∧ Fld Z h a "java/lang/String" "coder" "B" (.int (0 : Int32)) ∧ OArr Z h b .byte 1 (fun j => .int (own_by ((fun j => g (1 + j)) j)))) := by
  refine o_body (plainFor_of_name pn_43) hz (fun m => ef_43 m r0 (1 : Int32) (2 : Int32)) ?_
  intro p e s m below meth c s₁ G0
  refine o_aloadN G0 d43_0 (pc' := 1) rfl rfl rfl ?_
  refine o_callV G0 (z := (⟨"java/lang/String", "length", "()I"⟩ : MethodName)) (argsL := []) (rest := []) (W := 0) E_r0 (ow hw 76 rfl) (ow hw 78 rfl) (ow hw 77 rfl) (ow hw 79 rfl) d43_1 (by decide) (ow hw 9 rfl) (ow hw 80 rfl) (rm17 hw r0 h0 n0 G0.sz cs hcs S 2 (2 : Int32) rfl (by decide) b g E_r0 Fv_r0 Fc_r0 A_b) (by decide) (by decide) rfl (lenOf pd_8 rfl) rfl (Nat.le_of_eq rfl) (pc' := 4) rfl (by decide) (by decide) ?_
  rintro _ T1 h1 G1 ⟨rfl, hh⟩
  subst hh
  show OFin _ _ _ _ T1 (mkF m 4 #[.val (.ref r0), .val (.int (1 : Int32)), .val (.int (2 : Int32)), .unset, .unset] [(.int (2 : Int32))])
  refine o_istoreN G1 d43_4 (pc' := 5) rfl (l' := #[.val (.ref r0), .val (.int (1 : Int32)), .val (.int (2 : Int32)), .val (.int (2 : Int32)), .unset]) rfl ?_
  refine o_iloadN G1 d43_5 (pc' := 6) rfl rfl ?_
  refine o_iloadN G1 d43_6 (pc' := 7) rfl rfl ?_
  refine o_iloadN G1 d43_7 (pc' := 8) rfl rfl ?_
  refine o_callS G1 (z := (⟨"java/lang/String", "checkBoundsBeginEnd", "(III)V"⟩ : MethodName)) (argsL := [(.int (1 : Int32)), (.int (2 : Int32)), (.int (2 : Int32))]) (rest := []) (W := 0) (ow hw 227 rfl) (ow hw 228 rfl) d43_8 (by decide) (ow hw 9 rfl) (ow hw 229 rfl) (own_cbe_2 hw h0 n0 G1.sz fm hfm SF) (by decide) (by decide) rfl (lenOf pd_24 rfl) rfl (Nat.le_of_eq rfl) (pc' := 11) rfl (by decide) (by decide) ?_
  rintro _ T2 h2 G2 ⟨rfl, hh⟩
  subst hh
  show OFin _ _ _ _ T2 (mkF m 11 #[.val (.ref r0), .val (.int (1 : Int32)), .val (.int (2 : Int32)), .val (.int (2 : Int32)), .unset] [])
  refine o_iloadN G2 d43_11 (pc' := 12) rfl rfl ?_
  refine o_if_ne G2 d43_12 (by decide) (pcT := 22) (by decide) (pc' := 15) rfl (fun _ => ?_) (fun q => absurd q (by decide))
  refine o_iloadN G2 d43_22 (pc' := 23) rfl rfl ?_
  refine o_iloadN G2 d43_23 (pc' := 24) rfl rfl ?_
  refine o_isub G2 d43_24 (pc' := 25) rfl (v := (1 : Int32)) (by decide) ?_
  refine o_istore G2 d43_25 (pc' := 27) rfl (l' := #[.val (.ref r0), .val (.int (1 : Int32)), .val (.int (2 : Int32)), .val (.int (2 : Int32)), .val (.int (1 : Int32))]) rfl ?_
  refine o_aloadN G2 d43_27 (pc' := 28) rfl rfl rfl ?_
  refine o_callV G2 (z := (⟨"java/lang/String", "isLatin1", "()Z"⟩ : MethodName)) (argsL := []) (rest := []) (W := 0) E_r0 (ow hw 235 rfl) (ow hw 237 rfl) (ow hw 236 rfl) (ow hw 238 rfl) d43_28 (by decide) (ow hw 9 rfl) (ow hw 239 rfl) (rm46 hw r0 h0 n0 G2.sz cs hcs S Fc_r0) (by decide) (by decide) rfl (lenOf pd_20 rfl) rfl (Nat.le_of_eq rfl) (pc' := 31) rfl (by decide) (by decide) ?_
  rintro _ T3 h3 G3 ⟨rfl, hh⟩
  subst hh
  show OFin _ _ _ _ T3 (mkF m 31 #[.val (.ref r0), .val (.int (1 : Int32)), .val (.int (2 : Int32)), .val (.int (2 : Int32)), .val (.int (1 : Int32))] [(.int (1 : Int32))])
  refine o_if_eq G3 d43_31 (by decide) (pcT := 47) (by decide) (pc' := 34) rfl (fun q => absurd q (by decide)) (fun _ => ?_)
  refine o_aloadN G3 d43_34 (pc' := 35) rfl rfl rfl ?_
  refine o_getF G3 (host := "") (Or.inl (ow hw 29 rfl)) Via.refl Fv_r0 d43_35 (pc' := 38) rfl ?_
  intro T4 G4
  refine o_iloadN G4 d43_38 (pc' := 39) rfl rfl ?_
  refine o_iload G4 d43_39 (pc' := 41) rfl rfl ?_
  refine o_callS G4 (z := (⟨"java/lang/StringLatin1", "newString", "([BII)Ljava/lang/String;"⟩ : MethodName)) (argsL := [(.ref b), (.int (1 : Int32)), (.int (1 : Int32))]) (rest := []) (W := 0) (ow hw 240 rfl) (ow hw 241 rfl) d43_41 (by decide) (ow hw 14 rfl) (ow hw 242 rfl) (rm47_2 hw b h0 n0 G4.sz g A_b) (by decide) (by decide) rfl (lenOf pd_25 rfl) rfl (Nat.le_of_eq rfl) (pc' := 44) rfl (by decide) (by decide) ?_
  rintro _ T5 h5 G5 ⟨a5, b5, rfl, hQ5⟩
  show OFin _ _ _ _ T5 (mkF m 44 #[.val (.ref r0), .val (.int (1 : Int32)), .val (.int (2 : Int32)), .val (.int (2 : Int32)), .val (.int (1 : Int32))] [(.ref a5)])
  refine o_goto G5 d43_44 (by decide) (pc' := 57) rfl ?_
  exact o_areturn G5 rfl rfl rfl d43_57 ⟨_, _, rfl, hQ5⟩ (by decide) (by decide)
theorem d42_0 : decode jdk_42_method_91_code 0 = .ok (.aload_n 0, 1) := by decide +kernel
theorem d42_1 : decode jdk_42_method_91_code 1 = .ok (.iload_n 1, 1) := by decide +kernel
theorem d42_2 : decode jdk_42_method_91_code 2 = .ok (.aload_n 0, 1) := by decide +kernel
theorem d42_3 : decode jdk_42_method_91_code 3 = .ok (.invokevirtual 505, 3) := by decide +kernel
theorem d42_6 : decode jdk_42_method_91_code 6 = .ok (.invokevirtual 681, 3) := by decide +kernel
theorem d42_9 : decode jdk_42_method_91_code 9 = .ok (.areturn, 1) := by decide +kernel
theorem pn_42 : plainName "java/lang/String" = true := by first | (simp [plainName, overriddenIn]; done) | decide +kernel
theorem ef_42 (m : MethodId) (r0 : Addr) (p1 : Int32) : entryFrame m #[(.ref r0), (.int p1)] 2 = mkF m 0 #[.val (.ref r0), .val (.int p1)] [] := by first | (simp [entryFrame, mkF, argsToLocals, Value.category]; done) | rfl
set_option maxRecDepth 65536 in
set_option maxHeartbeats 40000000 in
theorem rm42_2 {l : Launch} {Z : State} {a0 : Array Value} (hw : ∀ d ∈ tables_1, d.before a0 Z = true) (r0 : Addr) (h0 : Heap) (n0 : Nat) (hz : n0 ≤ h0.size) (cs : Int32) (hcs : ¬ cs = 0) (S : Sta Z h0 "java/lang/String" "COMPACT_STRINGS" "Z" (.int cs)) (fm : Value) (hfm : fm.isRef = true) (SF : Sta Z h0 "jdk/internal/util/Preconditions" "SIOOBE_FORMATTER" "Ljava/util/function/BiFunction;" fm) (b : Addr) (g : Nat → Int32) (E_r0 : Exa Z h0 r0 "java/lang/String") (Fv_r0 : Fld Z h0 r0 "java/lang/String" "value" "[B" (.ref b)) (Fc_r0 : Fld Z h0 r0 "java/lang/String" "coder" "B" (.int (0 : Int32))) (A_b : OArr Z h0 b .byte 2 (fun j => .int (own_by (g j)))) :
    OMet l Z (⟨"java/lang/String", "substring", "(I)Ljava/lang/String;"⟩ : MethodName) jdk_42_method_91_code 2 (some (.object "java/lang/String")) ({ frames := 5, cells := 2, slots := 7, locals := 86 } : Room) #[(.ref r0), (.int (1 : Int32))] h0 n0 ({ frames := 5, cells := 2, slots := 7, locals := 86 } : Room).cells ({ frames := 5, cells := 2, slots := 7, locals := 86 } : Room).slots (fun v h => ∃ a b : Addr, v = some (.ref a) ∧ n0 ≤ a ∧ h0.size ≤ a ∧ h0.size ≤ b ∧ Keep h0 h [] ∧ Exa Z h a "java/lang/String" ∧ Fld Z h a "java/lang/String" "value" "[B" (.ref b) ∧ Fld Z h a "java/lang/String" "coder" "B" (.int (0 : Int32)) ∧ OArr Z h b .byte 1 (fun j => .int (own_by ((fun j => g (1 + j)) j)))) := by
  refine o_body (plainFor_of_name pn_42) hz (fun m => ef_42 m r0 (1 : Int32)) ?_
  intro p e s m below meth c s₁ G0
  refine o_aloadN G0 d42_0 (pc' := 1) rfl rfl rfl ?_
  refine o_iloadN G0 d42_1 (pc' := 2) rfl rfl ?_
  refine o_aloadN G0 d42_2 (pc' := 3) rfl rfl rfl ?_
  refine o_callV G0 (z := (⟨"java/lang/String", "length", "()I"⟩ : MethodName)) (argsL := []) (rest := [(.int (1 : Int32)), (.ref r0)]) (W := 2) E_r0 (ow hw 76 rfl) (ow hw 78 rfl) (ow hw 77 rfl) (ow hw 79 rfl) d42_3 (by decide) (ow hw 9 rfl) (ow hw 80 rfl) (rm17 hw r0 h0 n0 G0.sz cs hcs S 2 (2 : Int32) rfl (by decide) b g E_r0 Fv_r0 Fc_r0 A_b) (by decide) (by decide) rfl (lenOf pd_8 rfl) rfl (Nat.le_of_eq rfl) (pc' := 6) rfl (by decide) (by decide) ?_
  rintro _ T1 h1 G1 ⟨rfl, hh⟩
  subst hh
  show OFin _ _ _ _ T1 (mkF m 6 #[.val (.ref r0), .val (.int (1 : Int32))] [(.int (2 : Int32)), (.int (1 : Int32)), (.ref r0)])
  refine o_callV G1 (z := (⟨"java/lang/String", "substring", "(II)Ljava/lang/String;"⟩ : MethodName)) (argsL := [(.int (1 : Int32)), (.int (2 : Int32))]) (rest := []) (W := 0) E_r0 (ow hw 222 rfl) (ow hw 224 rfl) (ow hw 223 rfl) (ow hw 225 rfl) d42_6 (by decide) (ow hw 9 rfl) (ow hw 226 rfl) (rm43_2 hw r0 h0 n0 G1.sz cs hcs S fm hfm SF b g E_r0 Fv_r0 Fc_r0 A_b) (by decide) (by decide) rfl (lenOf pd_26 rfl) rfl (Nat.le_of_eq rfl) (pc' := 9) rfl (by decide) (by decide) ?_
  rintro _ T2 h2 G2 ⟨a2, b2, rfl, hQ2⟩
  show OFin _ _ _ _ T2 (mkF m 9 #[.val (.ref r0), .val (.int (1 : Int32))] [(.ref a2)])
  exact o_areturn G2 rfl rfl rfl d42_9 ⟨_, _, rfl, hQ2⟩ (by decide) (by decide)
set_option maxRecDepth 65536 in
set_option maxHeartbeats 40000000 in
theorem rm45_4r {l : Launch} {Z : State} {a0 : Array Value} (hw : ∀ d ∈ tables_1, d.before a0 Z = true) (r3 : Addr) (h0 : Heap) (n0 : Nat) (hz : n0 ≤ h0.size) :
    OMet l Z (⟨"jdk/internal/util/Preconditions", "checkFromToIndex", "(IIILjava/util/function/BiFunction;)I"⟩ : MethodName) jdk_41_method_12_code 4 (some .int) ({ frames := 0, cells := 0, slots := 0, locals := 0 } : Room) #[(.int (3 : Int32)), (.int (4 : Int32)), (.int (4 : Int32)), (.ref r3)] h0 n0 ({ frames := 0, cells := 0, slots := 0, locals := 0 } : Room).cells ({ frames := 0, cells := 0, slots := 0, locals := 0 } : Room).slots (OVal h0 (.int (3 : Int32))) := by
  refine o_body (plainFor_of_name pn_45) hz (fun m => ef_45 m (3 : Int32) (4 : Int32) (4 : Int32) r3) ?_
  intro p e s m below meth c s₁ G0
  refine o_iloadN G0 d45_0 (pc' := 1) rfl rfl ?_
  refine o_if_lt G0 d45_1 (by decide) (pcT := 14) (by decide) (pc' := 4) rfl (fun q => absurd q (by decide)) (fun _ => ?_)
  refine o_iloadN G0 d45_4 (pc' := 5) rfl rfl ?_
  refine o_iloadN G0 d45_5 (pc' := 6) rfl rfl ?_
  refine o_icmp_gt G0 d45_6 (by decide) (pcT := 14) (by decide) (pc' := 9) rfl (fun q => absurd q (by decide)) (fun _ => ?_)
  refine o_iloadN G0 d45_9 (pc' := 10) rfl rfl ?_
  refine o_iloadN G0 d45_10 (pc' := 11) rfl rfl ?_
  refine o_icmp_le G0 d45_11 (by decide) (pcT := 22) (by decide) (pc' := 14) rfl (fun _ => ?_) (fun q => absurd q (by decide))
  refine o_iloadN G0 d45_22 (pc' := 23) rfl rfl ?_
  exact o_ireturn G0 d45_23 ⟨rfl, rfl⟩ (by decide) (by decide)
set_option maxRecDepth 65536 in
set_option maxHeartbeats 40000000 in
theorem rm44_4r {l : Launch} {Z : State} {a0 : Array Value} (hw : ∀ d ∈ tables_1, d.before a0 Z = true)  (h0 : Heap) (n0 : Nat) (hz : n0 ≤ h0.size) (fm : Addr) (SF : Sta Z h0 "jdk/internal/util/Preconditions" "SIOOBE_FORMATTER" "Ljava/util/function/BiFunction;" (.ref fm)) :
    OMet l Z (⟨"java/lang/String", "checkBoundsBeginEnd", "(III)V"⟩ : MethodName) jdk_42_method_158_code 3 none ({ frames := 1, cells := 0, slots := 0, locals := 15 } : Room) #[(.int (3 : Int32)), (.int (4 : Int32)), (.int (4 : Int32))] h0 n0 ({ frames := 1, cells := 0, slots := 0, locals := 15 } : Room).cells ({ frames := 1, cells := 0, slots := 0, locals := 15 } : Room).slots (fun v h => v = none ∧ h0 = h) := by
  refine o_body (plainFor_of_name pn_44) hz (fun m => ef_44 m (3 : Int32) (4 : Int32) (4 : Int32)) ?_
  intro p e s m below meth c s₁ G0
  refine o_iloadN G0 d44_0 (pc' := 1) rfl rfl ?_
  refine o_iloadN G0 d44_1 (pc' := 2) rfl rfl ?_
  refine o_iloadN G0 d44_2 (pc' := 3) rfl rfl ?_
  refine o_getS G0 (host := "") (Or.inl (ow hw 230 rfl)) Via.refl SF d44_3 (pc' := 6) rfl ?_
  intro T1 G1
  refine o_callS G1 (z := (⟨"jdk/internal/util/Preconditions", "checkFromToIndex", "(IIILjava/util/function/BiFunction;)I"⟩ : MethodName)) (argsL := [(.int (3 : Int32)), (.int (4 : Int32)), (.int (4 : Int32)), (.ref fm)]) (rest := []) (W := 0) (ow hw 232 rfl) (ow hw 233 rfl) d44_6 (by decide) (ow hw 231 rfl) (ow hw 234 rfl) (rm45_4r hw fm h0 n0 G1.sz) (by decide) (by decide) rfl (lenOf pd_23 rfl) rfl (Nat.le_of_eq rfl) (pc' := 9) rfl (by decide) (by decide) ?_
  rintro _ T2 h2 G2 ⟨rfl, hh⟩
  subst hh
  show OFin _ _ _ _ T2 (mkF m 9 #[.val (.int (3 : Int32)), .val (.int (4 : Int32)), .val (.int (4 : Int32))] [(.int (3 : Int32))])
  refine o_pop G2 d44_9 (pc' := 10) rfl rfl ?_
  exact o_return G2 d44_10 ⟨rfl, rfl⟩ (by decide) (by decide)
set_option maxRecDepth 65536 in
set_option maxHeartbeats 40000000 in
theorem rm45_4z {l : Launch} {Z : State} {a0 : Array Value} (hw : ∀ d ∈ tables_1, d.before a0 Z = true)  (h0 : Heap) (n0 : Nat) (hz : n0 ≤ h0.size) :
    OMet l Z (⟨"jdk/internal/util/Preconditions", "checkFromToIndex", "(IIILjava/util/function/BiFunction;)I"⟩ : MethodName) jdk_41_method_12_code 4 (some .int) ({ frames := 0, cells := 0, slots := 0, locals := 0 } : Room) #[(.int (3 : Int32)), (.int (4 : Int32)), (.int (4 : Int32)), .null] h0 n0 ({ frames := 0, cells := 0, slots := 0, locals := 0 } : Room).cells ({ frames := 0, cells := 0, slots := 0, locals := 0 } : Room).slots (OVal h0 (.int (3 : Int32))) := by
  refine o_body (plainFor_of_name pn_45) hz (Ls := #[.val (.int (3 : Int32)), .val (.int (4 : Int32)), .val (.int (4 : Int32)), .val .null]) (fun m => by first | (simp [entryFrame, mkF, argsToLocals, Value.category]; done) | rfl) ?_
  intro p e s m below meth c s₁ G0
  refine o_iloadN G0 d45_0 (pc' := 1) rfl rfl ?_
  refine o_if_lt G0 d45_1 (by decide) (pcT := 14) (by decide) (pc' := 4) rfl (fun q => absurd q (by decide)) (fun _ => ?_)
  refine o_iloadN G0 d45_4 (pc' := 5) rfl rfl ?_
  refine o_iloadN G0 d45_5 (pc' := 6) rfl rfl ?_
  refine o_icmp_gt G0 d45_6 (by decide) (pcT := 14) (by decide) (pc' := 9) rfl (fun q => absurd q (by decide)) (fun _ => ?_)
  refine o_iloadN G0 d45_9 (pc' := 10) rfl rfl ?_
  refine o_iloadN G0 d45_10 (pc' := 11) rfl rfl ?_
  refine o_icmp_le G0 d45_11 (by decide) (pcT := 22) (by decide) (pc' := 14) rfl (fun _ => ?_) (fun q => absurd q (by decide))
  refine o_iloadN G0 d45_22 (pc' := 23) rfl rfl ?_
  exact o_ireturn G0 d45_23 ⟨rfl, rfl⟩ (by decide) (by decide)
set_option maxRecDepth 65536 in
set_option maxHeartbeats 40000000 in
theorem rm44_4z {l : Launch} {Z : State} {a0 : Array Value} (hw : ∀ d ∈ tables_1, d.before a0 Z = true)  (h0 : Heap) (n0 : Nat) (hz : n0 ≤ h0.size) (SF : Sta Z h0 "jdk/internal/util/Preconditions" "SIOOBE_FORMATTER" "Ljava/util/function/BiFunction;" .null) :
    OMet l Z (⟨"java/lang/String", "checkBoundsBeginEnd", "(III)V"⟩ : MethodName) jdk_42_method_158_code 3 none ({ frames := 1, cells := 0, slots := 0, locals := 15 } : Room) #[(.int (3 : Int32)), (.int (4 : Int32)), (.int (4 : Int32))] h0 n0 ({ frames := 1, cells := 0, slots := 0, locals := 15 } : Room).cells ({ frames := 1, cells := 0, slots := 0, locals := 15 } : Room).slots (fun v h => v = none ∧ h0 = h) := by
  refine o_body (plainFor_of_name pn_44) hz (fun m => ef_44 m (3 : Int32) (4 : Int32) (4 : Int32)) ?_
  intro p e s m below meth c s₁ G0
  refine o_iloadN G0 d44_0 (pc' := 1) rfl rfl ?_
  refine o_iloadN G0 d44_1 (pc' := 2) rfl rfl ?_
  refine o_iloadN G0 d44_2 (pc' := 3) rfl rfl ?_
  refine o_getS G0 (host := "") (Or.inl (ow hw 230 rfl)) Via.refl SF d44_3 (pc' := 6) rfl ?_
  intro T1 G1
  refine o_callS G1 (z := (⟨"jdk/internal/util/Preconditions", "checkFromToIndex", "(IIILjava/util/function/BiFunction;)I"⟩ : MethodName)) (argsL := [(.int (3 : Int32)), (.int (4 : Int32)), (.int (4 : Int32)), .null]) (rest := []) (W := 0) (ow hw 232 rfl) (ow hw 233 rfl) d44_6 (by decide) (ow hw 231 rfl) (ow hw 234 rfl) (rm45_4z hw h0 n0 G1.sz) (by decide) (by decide) rfl (lenOf pd_23 rfl) rfl (Nat.le_of_eq rfl) (pc' := 9) rfl (by decide) (by decide) ?_
  rintro _ T2 h2 G2 ⟨rfl, hh⟩
  subst hh
  show OFin _ _ _ _ T2 (mkF m 9 #[.val (.int (3 : Int32)), .val (.int (4 : Int32)), .val (.int (4 : Int32))] [(.int (3 : Int32))])
  refine o_pop G2 d44_9 (pc' := 10) rfl rfl ?_
  exact o_return G2 d44_10 ⟨rfl, rfl⟩ (by decide) (by decide)
set_option maxRecDepth 65536 in
set_option maxHeartbeats 40000000 in
theorem own_cbe_4 {l : Launch} {Z : State} {a0 : Array Value} (hw : ∀ d ∈ tables_1, d.before a0 Z = true)  (h0 : Heap) (n0 : Nat) (hz : n0 ≤ h0.size) (fm : Value) (hfm : fm.isRef = true) (SF : Sta Z h0 "jdk/internal/util/Preconditions" "SIOOBE_FORMATTER" "Ljava/util/function/BiFunction;" fm) :
    OMet l Z (⟨"java/lang/String", "checkBoundsBeginEnd", "(III)V"⟩ : MethodName) jdk_42_method_158_code 3 none ({ frames := 1, cells := 0, slots := 0, locals := 15 } : Room) #[(.int (3 : Int32)), (.int (4 : Int32)), (.int (4 : Int32))] h0 n0 ({ frames := 1, cells := 0, slots := 0, locals := 15 } : Room).cells ({ frames := 1, cells := 0, slots := 0, locals := 15 } : Room).slots (fun v h => v = none ∧ h0 = h) := by
  rcases ref_cases hfm with rfl | ⟨fa, rfl⟩
  · exact rm44_4z hw h0 n0 hz SF
  · exact rm44_4r hw h0 n0 hz fa SF
set_option maxRecDepth 65536 in
set_option maxHeartbeats 40000000 in
theorem rm47_4 {l : Launch} {Z : State} {a0 : Array Value} (hw : ∀ d ∈ tables_1, d.before a0 Z = true) (r0 : Addr) (h0 : Heap) (n0 : Nat) (hz : n0 ≤ h0.size) (g : Nat → Int32) (A_r0 : OArr Z h0 r0 .byte 4 (fun j => .int (own_by (g j)))) :
    OMet l Z (⟨"java/lang/StringLatin1", "newString", "([BII)Ljava/lang/String;"⟩ : MethodName) jdk_43_method_47_code 3 (some (.object "java/lang/String")) ({ frames := 3, cells := 2, slots := 7, locals := 56 } : Room) #[(.ref r0), (.int (3 : Int32)), (.int (1 : Int32))] h0 n0 ({ frames := 3, cells := 2, slots := 7, locals := 56 } : Room).cells ({ frames := 3, cells := 2, slots := 7, locals := 56 } : Room).slots (fun v h => ∃ a b : Addr, v = some (.ref a) ∧ n0 ≤ a ∧ h0.size ≤ a ∧ h0.size ≤ b ∧ Keep h0 h [] ∧ Exa Z h a "java/lang/String" ∧ Fld Z h a "java/lang/String" "value" "[B" (.ref b) ∧ Fld Z h a "java/lang/String" "coder" "B" (.int (0 : Int32)) ∧ OArr Z h b .byte 1 (fun j => .int (own_by ((fun j => g (3 + j)) j)))) := by
  refine o_body (plainFor_of_name pn_47) hz (fun m => ef_47 m r0 (3 : Int32) (1 : Int32)) ?_
  intro p e s m below meth c s₁ G0
  have K : Keep h0 h0 [] := Keep.refl _ _
  refine o_iloadN G0 d47_0 (pc' := 1) rfl rfl ?_
  refine o_if_ne G0 d47_1 (by decide) (pcT := 7) (by decide) (pc' := 4) rfl (fun _ => ?_) (fun q => absurd q (by decide))
  refine o_new G0 (ow hw 243 rfl) (ow hw 17 rfl) (ow hw 9 rfl) d47_7 (pc' := 10) rfl (by decide) (by decide) ?_
  intro T1 h1 b1 G1 g1 g_b1 E1 A1 D1
  have ne_r0_b1 : r0 ≠ b1 := Nat.ne_of_lt (Nat.lt_of_lt_of_eq A_r0.lt g1.symm)
  have sz_b1 : h0.size ≤ b1 := Nat.le_trans K.1 (Nat.le_of_eq g1.symm)
  replace K := K.ext E1
  replace A_r0 := A_r0.ext E1
  have F_value_b1 : Fld Z h1 b1 "java/lang/String" "value" "[B" .null := D1 (Or.inr (ow hw 30 rfl)) (ty := (.array .byte)) (by decide)
  have F_coder_b1 : Fld Z h1 b1 "java/lang/String" "coder" "B" (.int (0 : Int32)) := D1 (Or.inr (ow hw 32 rfl)) (ty := .byte) (by decide)
  refine o_dup G1 d47_10 (pc' := 11) rfl rfl ?_
  refine o_aloadN G1 d47_11 (pc' := 12) rfl rfl rfl ?_
  refine o_iloadN G1 d47_12 (pc' := 13) rfl rfl ?_
  refine o_iloadN G1 d47_13 (pc' := 14) rfl rfl ?_
  refine o_iloadN G1 d47_14 (pc' := 15) rfl rfl ?_
  refine o_iadd G1 d47_15 (pc' := 16) rfl (v := (4 : Int32)) (by decide) ?_
  refine o_callS G1 (z := (⟨"java/util/Arrays", "copyOfRange", "([BII)[B"⟩ : MethodName)) (argsL := [(.ref r0), (.int (3 : Int32)), (.int (4 : Int32))]) (rest := [(.ref b1), (.ref b1)]) (W := 2) (ow hw 244 rfl) (ow hw 202 rfl) d47_16 (by decide) (ow hw 203 rfl) (ow hw 204 rfl) (rm38_434 hw r0 h1 n0 G1.sz g A_r0) (by decide) (by decide) rfl (lenOf pd_18 rfl) rfl (Nat.le_of_eq rfl) (pc' := 19) rfl (by decide) (by decide) ?_
  rintro _ T2 h2 G2 ⟨b2, rfl, g_b2, hb2, K2, A_b2⟩
  have ne_r0_b2 : r0 ≠ b2 := Nat.ne_of_lt (Nat.lt_of_lt_of_le A_r0.lt hb2)
  have ne_b1_b2 : b1 ≠ b2 := Nat.ne_of_lt (Nat.lt_of_lt_of_le A1.lt hb2)
  have sz_b2 : h0.size ≤ b2 := Nat.le_trans K.1 hb2
  replace K := K.trans K2 all0
  replace A_r0 := A_r0.keep K2 nin0
  replace A1 := A1.keep K2
  replace F_value_b1 := F_value_b1.keep K2 nin0
  replace F_coder_b1 := F_coder_b1.keep K2 nin0
  show OFin _ _ _ _ T2 (mkF m 19 #[.val (.ref r0), .val (.int (3 : Int32)), .val (.int (1 : Int32))] [(.ref b2), (.ref b1), (.ref b1)])
  refine o_iconst G2 d47_19 (pc' := 20) rfl (v := (0 : Int32)) rfl ?_
  refine o_callI G2 (z := (⟨"java/lang/String", "<init>", "([BB)V"⟩ : MethodName)) (argsL := [(.ref b2), (.int (0 : Int32))]) (rest := [(.ref b1)]) (W := 1) (a := b1) rfl (ow hw 245 rfl) (ow hw 23 rfl) rfl d47_20 (by decide) (ow hw 9 rfl) (ow hw 25 rfl) (rm6 hw b1 b2 h2 n0 G2.sz g_b1 A1 F_value_b1 F_coder_b1) (by decide) (by decide) rfl (lenOf pd_2 rfl) rfl (Nat.le_of_eq rfl) (pc' := 23) rfl (by decide) (by decide) ?_
  rintro _ T3 h3 G3 ⟨rfl, K3, Fv3, Fc3⟩
  replace K := K.trans K3 (allS (Or.inr sz_b1) all0)
  replace A_r0 := A_r0.keep K3 (ninS ne_r0_b1 nin0)
  replace A1 := A1.keep K3
  replace A_b2 := A_b2.keep K3 (ninS (Ne.symm ne_b1_b2) nin0)
  show OFin _ _ _ _ T3 (mkF m 23 #[.val (.ref r0), .val (.int (3 : Int32)), .val (.int (1 : Int32))] [(.ref b1)])
  exact o_areturn G3 rfl rfl rfl d47_23 ⟨b1, b2, rfl, g_b1, sz_b1, sz_b2, K, A1, Fv3, Fc3, A_b2⟩ (by decide) (by decide)
set_option maxRecDepth 65536 in
set_option maxHeartbeats 40000000 in
theorem rm43_4 {l : Launch} {Z : State} {a0 : Array Value} (hw : ∀ d ∈ tables_1, d.before a0 Z = true) (r0 : Addr) (h0 : Heap) (n0 : Nat) (hz : n0 ≤ h0.size) (cs : Int32) (hcs : ¬ cs = 0) (S : Sta Z h0 "java/lang/String" "COMPACT_STRINGS" "Z" (.int cs)) (fm : Value) (hfm : fm.isRef = true) (SF : Sta Z h0 "jdk/internal/util/Preconditions" "SIOOBE_FORMATTER" "Ljava/util/function/BiFunction;" fm) (b : Addr) (g : Nat → Int32) (E_r0 : Exa Z h0 r0 "java/lang/String") (Fv_r0 : Fld Z h0 r0 "java/lang/String" "value" "[B" (.ref b)) (Fc_r0 : Fld Z h0 r0 "java/lang/String" "coder" "B" (.int (0 : Int32))) (A_b : OArr Z h0 b .byte 4 (fun j => .int (own_by (g j)))) :
    OMet l Z (⟨"java/lang/String", "substring", "(II)Ljava/lang/String;"⟩ : MethodName) jdk_42_method_92_code 5 (some (.object "java/lang/String")) ({ frames := 4, cells := 2, slots := 7, locals := 70 } : Room) #[(.ref r0), (.int (3 : Int32)), (.int (4 : Int32))] h0 n0 ({ frames := 4, cells := 2, slots := 7, locals := 70 } : Room).cells ({ frames := 4, cells := 2, slots := 7, locals := 70 } : Room).slots (fun v h => ∃ a b : Addr, v = some (.ref a) ∧ n0 ≤ a ∧ h0.size ≤ a ∧ h0.size ≤ b ∧ Keep h0 h [] ∧ Exa Z h a "java/lang/String" ∧ Fld Z h a "java/lang/String" "value" "[B" (.ref b) ∧ Fld Z h a "java/lang/String" "coder" "B" (.int (0 : Int32)) ∧ OArr Z h b .byte 1 (fun j => .int (own_by ((fun j => g (3 + j)) j)))) := by
  refine o_body (plainFor_of_name pn_43) hz (fun m => ef_43 m r0 (3 : Int32) (4 : Int32)) ?_
  intro p e s m below meth c s₁ G0
  refine o_aloadN G0 d43_0 (pc' := 1) rfl rfl rfl ?_
  refine o_callV G0 (z := (⟨"java/lang/String", "length", "()I"⟩ : MethodName)) (argsL := []) (rest := []) (W := 0) E_r0 (ow hw 76 rfl) (ow hw 78 rfl) (ow hw 77 rfl) (ow hw 79 rfl) d43_1 (by decide) (ow hw 9 rfl) (ow hw 80 rfl) (rm17 hw r0 h0 n0 G0.sz cs hcs S 4 (4 : Int32) rfl (by decide) b g E_r0 Fv_r0 Fc_r0 A_b) (by decide) (by decide) rfl (lenOf pd_8 rfl) rfl (Nat.le_of_eq rfl) (pc' := 4) rfl (by decide) (by decide) ?_
  rintro _ T1 h1 G1 ⟨rfl, hh⟩
  subst hh
  show OFin _ _ _ _ T1 (mkF m 4 #[.val (.ref r0), .val (.int (3 : Int32)), .val (.int (4 : Int32)), .unset, .unset] [(.int (4 : Int32))])
  refine o_istoreN G1 d43_4 (pc' := 5) rfl (l' := #[.val (.ref r0), .val (.int (3 : Int32)), .val (.int (4 : Int32)), .val (.int (4 : Int32)), .unset]) rfl ?_
  refine o_iloadN G1 d43_5 (pc' := 6) rfl rfl ?_
  refine o_iloadN G1 d43_6 (pc' := 7) rfl rfl ?_
  refine o_iloadN G1 d43_7 (pc' := 8) rfl rfl ?_
  refine o_callS G1 (z := (⟨"java/lang/String", "checkBoundsBeginEnd", "(III)V"⟩ : MethodName)) (argsL := [(.int (3 : Int32)), (.int (4 : Int32)), (.int (4 : Int32))]) (rest := []) (W := 0) (ow hw 227 rfl) (ow hw 228 rfl) d43_8 (by decide) (ow hw 9 rfl) (ow hw 229 rfl) (own_cbe_4 hw h0 n0 G1.sz fm hfm SF) (by decide) (by decide) rfl (lenOf pd_24 rfl) rfl (Nat.le_of_eq rfl) (pc' := 11) rfl (by decide) (by decide) ?_
  rintro _ T2 h2 G2 ⟨rfl, hh⟩
  subst hh
  show OFin _ _ _ _ T2 (mkF m 11 #[.val (.ref r0), .val (.int (3 : Int32)), .val (.int (4 : Int32)), .val (.int (4 : Int32)), .unset] [])
  refine o_iloadN G2 d43_11 (pc' := 12) rfl rfl ?_
  refine o_if_ne G2 d43_12 (by decide) (pcT := 22) (by decide) (pc' := 15) rfl (fun _ => ?_) (fun q => absurd q (by decide))
  refine o_iloadN G2 d43_22 (pc' := 23) rfl rfl ?_
  refine o_iloadN G2 d43_23 (pc' := 24) rfl rfl ?_
  refine o_isub G2 d43_24 (pc' := 25) rfl (v := (1 : Int32)) (by decide) ?_
  refine o_istore G2 d43_25 (pc' := 27) rfl (l' := #[.val (.ref r0), .val (.int (3 : Int32)), .val (.int (4 : Int32)), .val (.int (4 : Int32)), .val (.int (1 : Int32))]) rfl ?_
  refine o_aloadN G2 d43_27 (pc' := 28) rfl rfl rfl ?_
  refine o_callV G2 (z := (⟨"java/lang/String", "isLatin1", "()Z"⟩ : MethodName)) (argsL := []) (rest := []) (W := 0) E_r0 (ow hw 235 rfl) (ow hw 237 rfl) (ow hw 236 rfl) (ow hw 238 rfl) d43_28 (by decide) (ow hw 9 rfl) (ow hw 239 rfl) (rm46 hw r0 h0 n0 G2.sz cs hcs S Fc_r0) (by decide) (by decide) rfl (lenOf pd_20 rfl) rfl (Nat.le_of_eq rfl) (pc' := 31) rfl (by decide) (by decide) ?_
  rintro _ T3 h3 G3 ⟨rfl, hh⟩
  subst hh
  show OFin _ _ _ _ T3 (mkF m 31 #[.val (.ref r0), .val (.int (3 : Int32)), .val (.int (4 : Int32)), .val (.int (4 : Int32)), .val (.int (1 : Int32))] [(.int (1 : Int32))])
  refine o_if_eq G3 d43_31 (by decide) (pcT := 47) (by decide) (pc' := 34) rfl (fun q => absurd q (by decide)) (fun _ => ?_)
  refine o_aloadN G3 d43_34 (pc' := 35) rfl rfl rfl ?_
  refine o_getF G3 (host := "") (Or.inl (ow hw 29 rfl)) Via.refl Fv_r0 d43_35 (pc' := 38) rfl ?_
  intro T4 G4
  refine o_iloadN G4 d43_38 (pc' := 39) rfl rfl ?_
  refine o_iload G4 d43_39 (pc' := 41) rfl rfl ?_
  refine o_callS G4 (z := (⟨"java/lang/StringLatin1", "newString", "([BII)Ljava/lang/String;"⟩ : MethodName)) (argsL := [(.ref b), (.int (3 : Int32)), (.int (1 : Int32))]) (rest := []) (W := 0) (ow hw 240 rfl) (ow hw 241 rfl) d43_41 (by decide) (ow hw 14 rfl) (ow hw 242 rfl) (rm47_4 hw b h0 n0 G4.sz g A_b) (by decide) (by decide) rfl (lenOf pd_25 rfl) rfl (Nat.le_of_eq rfl) (pc' := 44) rfl (by decide) (by decide) ?_
  rintro _ T5 h5 G5 ⟨a5, b5, rfl, hQ5⟩
  show OFin _ _ _ _ T5 (mkF m 44 #[.val (.ref r0), .val (.int (3 : Int32)), .val (.int (4 : Int32)), .val (.int (4 : Int32)), .val (.int (1 : Int32))] [(.ref a5)])
  refine o_goto G5 d43_44 (by decide) (pc' := 57) rfl ?_
  exact o_areturn G5 rfl rfl rfl d43_57 ⟨_, _, rfl, hQ5⟩ (by decide) (by decide)
set_option maxRecDepth 65536 in
set_option maxHeartbeats 40000000 in
theorem rm42_4 {l : Launch} {Z : State} {a0 : Array Value} (hw : ∀ d ∈ tables_1, d.before a0 Z = true) (r0 : Addr) (h0 : Heap) (n0 : Nat) (hz : n0 ≤ h0.size) (cs : Int32) (hcs : ¬ cs = 0) (S : Sta Z h0 "java/lang/String" "COMPACT_STRINGS" "Z" (.int cs)) (fm : Value) (hfm : fm.isRef = true) (SF : Sta Z h0 "jdk/internal/util/Preconditions" "SIOOBE_FORMATTER" "Ljava/util/function/BiFunction;" fm) (b : Addr) (g : Nat → Int32) (E_r0 : Exa Z h0 r0 "java/lang/String") (Fv_r0 : Fld Z h0 r0 "java/lang/String" "value" "[B" (.ref b)) (Fc_r0 : Fld Z h0 r0 "java/lang/String" "coder" "B" (.int (0 : Int32))) (A_b : OArr Z h0 b .byte 4 (fun j => .int (own_by (g j)))) :
    OMet l Z (⟨"java/lang/String", "substring", "(I)Ljava/lang/String;"⟩ : MethodName) jdk_42_method_91_code 2 (some (.object "java/lang/String")) ({ frames := 5, cells := 2, slots := 7, locals := 86 } : Room) #[(.ref r0), (.int (3 : Int32))] h0 n0 ({ frames := 5, cells := 2, slots := 7, locals := 86 } : Room).cells ({ frames := 5, cells := 2, slots := 7, locals := 86 } : Room).slots (fun v h => ∃ a b : Addr, v = some (.ref a) ∧ n0 ≤ a ∧ h0.size ≤ a ∧ h0.size ≤ b ∧ Keep h0 h [] ∧ Exa Z h a "java/lang/String" ∧ Fld Z h a "java/lang/String" "value" "[B" (.ref b) ∧ Fld Z h a "java/lang/String" "coder" "B" (.int (0 : Int32)) ∧ OArr Z h b .byte 1 (fun j => .int (own_by ((fun j => g (3 + j)) j)))) := by
  refine o_body (plainFor_of_name pn_42) hz (fun m => ef_42 m r0 (3 : Int32)) ?_
  intro p e s m below meth c s₁ G0
  refine o_aloadN G0 d42_0 (pc' := 1) rfl rfl rfl ?_
  refine o_iloadN G0 d42_1 (pc' := 2) rfl rfl ?_
  refine o_aloadN G0 d42_2 (pc' := 3) rfl rfl rfl ?_
  refine o_callV G0 (z := (⟨"java/lang/String", "length", "()I"⟩ : MethodName)) (argsL := []) (rest := [(.int (3 : Int32)), (.ref r0)]) (W := 2) E_r0 (ow hw 76 rfl) (ow hw 78 rfl) (ow hw 77 rfl) (ow hw 79 rfl) d42_3 (by decide) (ow hw 9 rfl) (ow hw 80 rfl) (rm17 hw r0 h0 n0 G0.sz cs hcs S 4 (4 : Int32) rfl (by decide) b g E_r0 Fv_r0 Fc_r0 A_b) (by decide) (by decide) rfl (lenOf pd_8 rfl) rfl (Nat.le_of_eq rfl) (pc' := 6) rfl (by decide) (by decide) ?_
  rintro _ T1 h1 G1 ⟨rfl, hh⟩
  subst hh
  show OFin _ _ _ _ T1 (mkF m 6 #[.val (.ref r0), .val (.int (3 : Int32))] [(.int (4 : Int32)), (.int (3 : Int32)), (.ref r0)])
  refine o_callV G1 (z := (⟨"java/lang/String", "substring", "(II)Ljava/lang/String;"⟩ : MethodName)) (argsL := [(.int (3 : Int32)), (.int (4 : Int32))]) (rest := []) (W := 0) E_r0 (ow hw 222 rfl) (ow hw 224 rfl) (ow hw 223 rfl) (ow hw 225 rfl) d42_6 (by decide) (ow hw 9 rfl) (ow hw 226 rfl) (rm43_4 hw r0 h0 n0 G1.sz cs hcs S fm hfm SF b g E_r0 Fv_r0 Fc_r0 A_b) (by decide) (by decide) rfl (lenOf pd_26 rfl) rfl (Nat.le_of_eq rfl) (pc' := 9) rfl (by decide) (by decide) ?_
  rintro _ T2 h2 G2 ⟨a2, b2, rfl, hQ2⟩
  show OFin _ _ _ _ T2 (mkF m 9 #[.val (.ref r0), .val (.int (3 : Int32))] [(.ref a2)])
  exact o_areturn G2 rfl rfl rfl d42_9 ⟨_, _, rfl, hQ2⟩ (by decide) (by decide)
def own_eq : Nat → Nat → (Nat → Int32) → (Nat → Int32) → Int32
  | 0, _, _, _ => 1
  | k + 1, i, f, g => if own_by (f i) = own_by (g i) then own_eq k (i + 1) f g else 0
theorem d50_0 : decode jdk_43_method_13_code 0 = .ok (.aload_n 0, 1) := by decide +kernel
theorem d50_1 : decode jdk_43_method_13_code 1 = .ok (.arraylength, 1) := by decide +kernel
theorem d50_2 : decode jdk_43_method_13_code 2 = .ok (.aload_n 1, 1) := by decide +kernel
theorem d50_3 : decode jdk_43_method_13_code 3 = .ok (.arraylength, 1) := by decide +kernel
theorem d50_4 : decode jdk_43_method_13_code 4 = .ok (.if_icmp .ne 30, 3) := by decide +kernel
theorem d50_7 : decode jdk_43_method_13_code 7 = .ok (.iconst 0, 1) := by decide +kernel
theorem d50_8 : decode jdk_43_method_13_code 8 = .ok (.istore_n 2, 1) := by decide +kernel
theorem d50_9 : decode jdk_43_method_13_code 9 = .ok (.iload_n 2, 1) := by decide +kernel
theorem d50_10 : decode jdk_43_method_13_code 10 = .ok (.aload_n 0, 1) := by decide +kernel
theorem d50_11 : decode jdk_43_method_13_code 11 = .ok (.arraylength, 1) := by decide +kernel
theorem d50_12 : decode jdk_43_method_13_code 12 = .ok (.if_icmp .ge 20, 3) := by decide +kernel
theorem d50_15 : decode jdk_43_method_13_code 15 = .ok (.aload_n 0, 1) := by decide +kernel
theorem d50_16 : decode jdk_43_method_13_code 16 = .ok (.iload_n 2, 1) := by decide +kernel
theorem d50_17 : decode jdk_43_method_13_code 17 = .ok (.baload, 1) := by decide +kernel
theorem d50_18 : decode jdk_43_method_13_code 18 = .ok (.aload_n 1, 1) := by decide +kernel
theorem d50_19 : decode jdk_43_method_13_code 19 = .ok (.iload_n 2, 1) := by decide +kernel
theorem d50_20 : decode jdk_43_method_13_code 20 = .ok (.baload, 1) := by decide +kernel
theorem d50_21 : decode jdk_43_method_13_code 21 = .ok (.if_icmp .eq 5, 3) := by decide +kernel
theorem d50_24 : decode jdk_43_method_13_code 24 = .ok (.iconst 0, 1) := by decide +kernel
theorem d50_25 : decode jdk_43_method_13_code 25 = .ok (.ireturn, 1) := by decide +kernel
theorem d50_26 : decode jdk_43_method_13_code 26 = .ok (.iinc 2 1, 3) := by decide +kernel
theorem d50_29 : decode jdk_43_method_13_code 29 = .ok (.goto (-20), 3) := by decide +kernel
theorem d50_32 : decode jdk_43_method_13_code 32 = .ok (.iconst 1, 1) := by decide +kernel
theorem d50_33 : decode jdk_43_method_13_code 33 = .ok (.ireturn, 1) := by decide +kernel
theorem d50_34 : decode jdk_43_method_13_code 34 = .ok (.iconst 0, 1) := by decide +kernel
theorem d50_35 : decode jdk_43_method_13_code 35 = .ok (.ireturn, 1) := by decide +kernel
theorem pn_50 : plainName "java/lang/StringLatin1" = true := by first | (simp [plainName, overriddenIn]; done) | decide +kernel
theorem ef_50 (m : MethodId) (r0 : Addr) (r1 : Addr) : entryFrame m #[(.ref r0), (.ref r1)] 3 = mkF m 0 #[.val (.ref r0), .val (.ref r1), .unset] [] := by first | (simp [entryFrame, mkF, argsToLocals, Value.category]; done) | rfl
set_option maxRecDepth 65536 in
set_option maxHeartbeats 40000000 in
theorem rm50_11 {l : Launch} {Z : State} {a0 : Array Value} (hw : ∀ d ∈ tables_1, d.before a0 Z = true) (r0 : Addr) (r1 : Addr) (h0 : Heap) (n0 : Nat) (hz : n0 ≤ h0.size) (g : Nat → Int32) (A_r0 : OArr Z h0 r0 .byte 1 (fun j => .int (own_by (g j)))) (k : Nat → Int32) (A_r1 : OArr Z h0 r1 .byte 1 (fun j => .int (own_by (k j)))) :
    OMet l Z (⟨"java/lang/StringLatin1", "equals", "([B[B)Z"⟩ : MethodName) jdk_43_method_13_code 3 (some .boolean) ({ frames := 0, cells := 0, slots := 0, locals := 0 } : Room) #[(.ref r0), (.ref r1)] h0 n0 ({ frames := 0, cells := 0, slots := 0, locals := 0 } : Room).cells ({ frames := 0, cells := 0, slots := 0, locals := 0 } : Room).slots (OVal h0 (.int (own_eq 1 0 g k))) := by
  refine o_body (plainFor_of_name pn_50) hz (fun m => ef_50 m r0 r1) ?_
  intro p e s m below meth c s₁ G0
  refine o_aloadN G0 d50_0 (pc' := 1) rfl rfl rfl ?_
  refine o_arraylength G0 A_r0 (v := (1 : Int32)) rfl d50_1 (pc' := 2) rfl ?_
  refine o_aloadN G0 d50_2 (pc' := 3) rfl rfl rfl ?_
  refine o_arraylength G0 A_r1 (v := (1 : Int32)) rfl d50_3 (pc' := 4) rfl ?_
  refine o_icmp_ne G0 d50_4 (by decide) (pcT := 34) (by decide) (pc' := 7) rfl (fun q => absurd (by decide) q) (fun _ => ?_)
  refine o_iconst G0 d50_7 (pc' := 8) rfl (v := (0 : Int32)) rfl ?_
  refine o_istoreN G0 d50_8 (pc' := 9) rfl (l' := #[.val (.ref r0), .val (.ref r1), .val (.int (0 : Int32))]) rfl ?_
  refine o_iloadN G0 d50_9 (pc' := 10) rfl rfl ?_
  refine o_aloadN G0 d50_10 (pc' := 11) rfl rfl rfl ?_
  refine o_arraylength G0 A_r0 (v := (1 : Int32)) rfl d50_11 (pc' := 12) rfl ?_
  refine o_icmp_ge G0 d50_12 (by decide) (pcT := 32) (by decide) (pc' := 15) rfl (fun q => absurd (by decide) q) (fun _ => ?_)
  refine o_aloadN G0 d50_15 (pc' := 16) rfl rfl rfl ?_
  refine o_iloadN G0 d50_16 (pc' := 17) rfl rfl ?_
  refine o_baload G0 A_r0 (i := 0) rfl (by decide) (v := (.int (own_by (g 0)))) rfl d50_17 (pc' := 18) rfl ?_
  refine o_aloadN G0 d50_18 (pc' := 19) rfl rfl rfl ?_
  refine o_iloadN G0 d50_19 (pc' := 20) rfl rfl ?_
  refine o_baload G0 A_r1 (i := 0) rfl (by decide) (v := (.int (own_by (k 0)))) rfl d50_20 (pc' := 21) rfl ?_
  refine o_icmp_eq G0 d50_21 (by decide) (pcT := 26) (by decide) (pc' := 24) rfl (fun hc3 => ?_) (fun hc3 => ?_)
  · refine o_iinc G0 d50_26 (pc' := 29) rfl rfl (w := (1 : Int32)) rfl (v := (1 : Int32)) (by decide) (l' := #[.val (.ref r0), .val (.ref r1), .val (.int (1 : Int32))]) rfl ?_
    refine o_goto G0 d50_29 (by decide) (pc' := 9) rfl ?_
    refine o_iloadN G0 d50_9 (pc' := 10) rfl rfl ?_
    refine o_aloadN G0 d50_10 (pc' := 11) rfl rfl rfl ?_
    refine o_arraylength G0 A_r0 (v := (1 : Int32)) rfl d50_11 (pc' := 12) rfl ?_
    refine o_icmp_ge G0 d50_12 (by decide) (pcT := 32) (by decide) (pc' := 15) rfl (fun _ => ?_) (fun q => absurd q (by decide))
    refine o_iconst G0 d50_32 (pc' := 33) rfl (v := (1 : Int32)) rfl ?_
    have hq : (1 : Int32) = (own_eq 1 0 g k) := by
      rw [own_eq, if_pos hc3, own_eq]
    exact o_nreturn (t := .boolean) G0 (by simp) d50_33 ⟨by rw [← hq]; rfl, rfl⟩ (by decide) (by decide)
  · refine o_iconst G0 d50_24 (pc' := 25) rfl (v := (0 : Int32)) rfl ?_
    have hq : (0 : Int32) = (own_eq 1 0 g k) := by
      rw [own_eq, if_neg hc3]
    exact o_nreturn (t := .boolean) G0 (by simp) d50_25 ⟨by rw [← hq]; rfl, rfl⟩ (by decide) (by decide)
theorem own_eq01 : ∀ n i f g, own_eq n i f g = 0 ∨ own_eq n i f g = 1 := by
  intro n
  induction n with
  | zero => intro i f g; exact Or.inr rfl
  | succ n ih =>
    intro i f g
    rw [own_eq]
    by_cases q : own_by (f i) = own_by (g i)
    · rw [if_pos q]; exact ih _ _ _
    · rw [if_neg q]; exact Or.inl rfl
theorem d49_0 : decode jdk_42_method_66_code 0 = .ok (.aload_n 0, 1) := by decide +kernel
theorem d49_1 : decode jdk_42_method_66_code 1 = .ok (.aload_n 1, 1) := by decide +kernel
theorem d49_2 : decode jdk_42_method_66_code 2 = .ok (.if_acmp .ne 5, 3) := by decide +kernel
theorem d49_5 : decode jdk_42_method_66_code 5 = .ok (.iconst 1, 1) := by decide +kernel
theorem d49_6 : decode jdk_42_method_66_code 6 = .ok (.ireturn, 1) := by decide +kernel
theorem d49_7 : decode jdk_42_method_66_code 7 = .ok (.aload_n 1, 1) := by decide +kernel
theorem d49_8 : decode jdk_42_method_66_code 8 = .ok (.instanceof 10, 3) := by decide +kernel
theorem d49_11 : decode jdk_42_method_66_code 11 = .ok (.ifCond .eq 43, 3) := by decide +kernel
theorem d49_14 : decode jdk_42_method_66_code 14 = .ok (.aload_n 1, 1) := by decide +kernel
theorem d49_15 : decode jdk_42_method_66_code 15 = .ok (.checkcast 10, 3) := by decide +kernel
theorem d49_18 : decode jdk_42_method_66_code 18 = .ok (.astore_n 2, 1) := by decide +kernel
theorem d49_19 : decode jdk_42_method_66_code 19 = .ok (.getstatic 38, 3) := by decide +kernel
theorem d49_22 : decode jdk_42_method_66_code 22 = .ok (.ifCond .eq 14, 3) := by decide +kernel
theorem d49_25 : decode jdk_42_method_66_code 25 = .ok (.aload_n 0, 1) := by decide +kernel
theorem d49_26 : decode jdk_42_method_66_code 26 = .ok (.getfield 15, 3) := by decide +kernel
theorem d49_29 : decode jdk_42_method_66_code 29 = .ok (.aload_n 2, 1) := by decide +kernel
theorem d49_30 : decode jdk_42_method_66_code 30 = .ok (.getfield 15, 3) := by decide +kernel
theorem d49_33 : decode jdk_42_method_66_code 33 = .ok (.if_icmp .ne 21, 3) := by decide +kernel
theorem d49_36 : decode jdk_42_method_66_code 36 = .ok (.aload_n 0, 1) := by decide +kernel
theorem d49_37 : decode jdk_42_method_66_code 37 = .ok (.getfield 9, 3) := by decide +kernel
theorem d49_40 : decode jdk_42_method_66_code 40 = .ok (.aload_n 2, 1) := by decide +kernel
theorem d49_41 : decode jdk_42_method_66_code 41 = .ok (.getfield 9, 3) := by decide +kernel
theorem d49_44 : decode jdk_42_method_66_code 44 = .ok (.invokestatic 541, 3) := by decide +kernel
theorem d49_47 : decode jdk_42_method_66_code 47 = .ok (.ifCond .eq 7, 3) := by decide +kernel
theorem d49_50 : decode jdk_42_method_66_code 50 = .ok (.iconst 1, 1) := by decide +kernel
theorem d49_51 : decode jdk_42_method_66_code 51 = .ok (.goto 4, 3) := by decide +kernel
theorem d49_54 : decode jdk_42_method_66_code 54 = .ok (.iconst 0, 1) := by decide +kernel
theorem d49_55 : decode jdk_42_method_66_code 55 = .ok (.ireturn, 1) := by decide +kernel
theorem pn_49 : plainName "java/lang/String" = true := by first | (simp [plainName, overriddenIn]; done) | decide +kernel
theorem ef_49 (m : MethodId) (r0 : Addr) (r1 : Addr) : entryFrame m #[(.ref r0), (.ref r1)] 3 = mkF m 0 #[.val (.ref r0), .val (.ref r1), .unset] [] := by first | (simp [entryFrame, mkF, argsToLocals, Value.category]; done) | rfl
set_option maxRecDepth 65536 in
set_option maxHeartbeats 40000000 in
theorem rm49_11 {l : Launch} {Z : State} {a0 : Array Value} (hw : ∀ d ∈ tables_1, d.before a0 Z = true) (r0 : Addr) (r1 : Addr) (h0 : Heap) (n0 : Nat) (hz : n0 ≤ h0.size) (cs : Int32) (hcs : ¬ cs = 0) (S : Sta Z h0 "java/lang/String" "COMPACT_STRINGS" "Z" (.int cs)) (b : Addr) (g : Nat → Int32) (E_r0 : Exa Z h0 r0 "java/lang/String") (Fv_r0 : Fld Z h0 r0 "java/lang/String" "value" "[B" (.ref b)) (Fc_r0 : Fld Z h0 r0 "java/lang/String" "coder" "B" (.int (0 : Int32))) (A_b : OArr Z h0 b .byte 1 (fun j => .int (own_by (g j)))) (c1 : Addr) (k : Nat → Int32) (E_r1 : Exa Z h0 r1 "java/lang/String") (Fv_r1 : Fld Z h0 r1 "java/lang/String" "value" "[B" (.ref c1)) (Fc_r1 : Fld Z h0 r1 "java/lang/String" "coder" "B" (.int (0 : Int32))) (A_c1 : OArr Z h0 c1 .byte 1 (fun j => .int (own_by (k j)))) (hne : r0 ≠ r1) :
    OMet l Z (⟨"java/lang/String", "equals", "(Ljava/lang/Object;)Z"⟩ : MethodName) jdk_42_method_66_code 3 (some .boolean) ({ frames := 1, cells := 0, slots := 0, locals := 14 } : Room) #[(.ref r0), (.ref r1)] h0 n0 ({ frames := 1, cells := 0, slots := 0, locals := 14 } : Room).cells ({ frames := 1, cells := 0, slots := 0, locals := 14 } : Room).slots (OVal h0 (.int (own_eq 1 0 g k))) := by
  refine o_body (plainFor_of_name pn_49) hz (fun m => ef_49 m r0 r1) ?_
  intro p e s m below meth c s₁ G0
  refine o_aloadN G0 d49_0 (pc' := 1) rfl rfl rfl ?_
  refine o_aloadN G0 d49_1 (pc' := 2) rfl rfl rfl ?_
  refine o_acmp_ne G0 rfl rfl d49_2 (by decide) (pcT := 7) (by decide) (pc' := 5) rfl (fun _ => ?_) (fun q => absurd q (fun q => hne (Value.ref.inj q)))
  refine o_aloadN G0 d49_7 (pc' := 8) rfl rfl rfl ?_
  refine o_instY G0 (ow hw 16 rfl) (Ins.self E_r1) d49_8 (pc' := 11) rfl ?_
  intro T1 G1
  refine o_if_eq G1 d49_11 (by decide) (pcT := 54) (by decide) (pc' := 14) rfl (fun q => absurd q (by decide)) (fun _ => ?_)
  refine o_aloadN G1 d49_14 (pc' := 15) rfl rfl rfl ?_
  refine o_checkcast G1 (ow hw 16 rfl) (Ins.self E_r1) d49_15 (pc' := 18) rfl ?_
  intro T2 G2
  refine o_astoreN G2 d49_18 (pc' := 19) rfl rfl (l' := #[.val (.ref r0), .val (.ref r1), .val (.ref r1)]) rfl ?_
  refine o_getS G2 (host := "") (Or.inl (ow hw 11 rfl)) Via.refl S d49_19 (pc' := 22) rfl ?_
  intro T3 G3
  refine o_if_eq G3 d49_22 (by decide) (pcT := 36) (by decide) (pc' := 25) rfl (fun q => absurd q hcs) (fun _ => ?_)
  refine o_aloadN G3 d49_25 (pc' := 26) rfl rfl rfl ?_
  refine o_getF G3 (host := "") (Or.inl (ow hw 31 rfl)) Via.refl Fc_r0 d49_26 (pc' := 29) rfl ?_
  intro T4 G4
  refine o_aloadN G4 d49_29 (pc' := 30) rfl rfl rfl ?_
  refine o_getF G4 (host := "") (Or.inl (ow hw 31 rfl)) Via.refl Fc_r1 d49_30 (pc' := 33) rfl ?_
  intro T5 G5
  refine o_icmp_ne G5 d49_33 (by decide) (pcT := 54) (by decide) (pc' := 36) rfl (fun q => absurd (by decide) q) (fun _ => ?_)
  refine o_aloadN G5 d49_36 (pc' := 37) rfl rfl rfl ?_
  refine o_getF G5 (host := "") (Or.inl (ow hw 29 rfl)) Via.refl Fv_r0 d49_37 (pc' := 40) rfl ?_
  intro T6 G6
  refine o_aloadN G6 d49_40 (pc' := 41) rfl rfl rfl ?_
  refine o_getF G6 (host := "") (Or.inl (ow hw 29 rfl)) Via.refl Fv_r1 d49_41 (pc' := 44) rfl ?_
  intro T7 G7
  refine o_callS G7 (z := (⟨"java/lang/StringLatin1", "equals", "([B[B)Z"⟩ : MethodName)) (argsL := [(.ref b), (.ref c1)]) (rest := []) (W := 0) (ow hw 258 rfl) (ow hw 259 rfl) d49_44 (by decide) (ow hw 14 rfl) (ow hw 260 rfl) (rm50_11 hw b c1 h0 n0 G7.sz g A_b k A_c1) (by decide) (by decide) rfl (lenOf pd_27 rfl) rfl (Nat.le_of_eq rfl) (pc' := 47) rfl (by decide) (by decide) ?_
  rintro _ T8 h8 G8 ⟨rfl, hh⟩
  subst hh
  show OFin _ _ _ _ T8 (mkF m 47 #[.val (.ref r0), .val (.ref r1), .val (.ref r1)] [(.int (own_eq 1 0 g k))])
  refine o_if_eq G8 d49_47 (by decide) (pcT := 54) (by decide) (pc' := 50) rfl (fun hc47 => ?_) (fun hc47 => ?_)
  · refine o_iconst G8 d49_54 (pc' := 55) rfl (v := (0 : Int32)) rfl ?_
    have hq : (0 : Int32) = (own_eq 1 0 g k) := by
      exact hc47.symm
    exact o_nreturn (t := .boolean) G8 (by simp) d49_55 ⟨by rw [← hq]; rfl, rfl⟩ (by decide) (by decide)
  · refine o_iconst G8 d49_50 (pc' := 51) rfl (v := (1 : Int32)) rfl ?_
    refine o_goto G8 d49_51 (by decide) (pc' := 55) rfl ?_
    have hq : (1 : Int32) = (own_eq 1 0 g k) := by
      exact (own_eq01 1 0 g k).resolve_left hc47 |>.symm
    exact o_nreturn (t := .boolean) G8 (by simp) d49_55 ⟨by rw [← hq]; rfl, rfl⟩ (by decide) (by decide)
set_option maxRecDepth 65536 in
set_option maxHeartbeats 40000000 in
theorem rm50_00 {l : Launch} {Z : State} {a0 : Array Value} (hw : ∀ d ∈ tables_1, d.before a0 Z = true) (r0 : Addr) (r1 : Addr) (h0 : Heap) (n0 : Nat) (hz : n0 ≤ h0.size) (g : Nat → Int32) (A_r0 : OArr Z h0 r0 .byte 0 (fun j => .int (own_by (g j)))) (k : Nat → Int32) (A_r1 : OArr Z h0 r1 .byte 0 (fun j => .int (own_by (k j)))) :
    OMet l Z (⟨"java/lang/StringLatin1", "equals", "([B[B)Z"⟩ : MethodName) jdk_43_method_13_code 3 (some .boolean) ({ frames := 0, cells := 0, slots := 0, locals := 0 } : Room) #[(.ref r0), (.ref r1)] h0 n0 ({ frames := 0, cells := 0, slots := 0, locals := 0 } : Room).cells ({ frames := 0, cells := 0, slots := 0, locals := 0 } : Room).slots (OVal h0 (.int (own_eq 0 0 g k))) := by
  refine o_body (plainFor_of_name pn_50) hz (fun m => ef_50 m r0 r1) ?_
  intro p e s m below meth c s₁ G0
  refine o_aloadN G0 d50_0 (pc' := 1) rfl rfl rfl ?_
  refine o_arraylength G0 A_r0 (v := (0 : Int32)) rfl d50_1 (pc' := 2) rfl ?_
  refine o_aloadN G0 d50_2 (pc' := 3) rfl rfl rfl ?_
  refine o_arraylength G0 A_r1 (v := (0 : Int32)) rfl d50_3 (pc' := 4) rfl ?_
  refine o_icmp_ne G0 d50_4 (by decide) (pcT := 34) (by decide) (pc' := 7) rfl (fun q => absurd (by decide) q) (fun _ => ?_)
  refine o_iconst G0 d50_7 (pc' := 8) rfl (v := (0 : Int32)) rfl ?_
  refine o_istoreN G0 d50_8 (pc' := 9) rfl (l' := #[.val (.ref r0), .val (.ref r1), .val (.int (0 : Int32))]) rfl ?_
  refine o_iloadN G0 d50_9 (pc' := 10) rfl rfl ?_
  refine o_aloadN G0 d50_10 (pc' := 11) rfl rfl rfl ?_
  refine o_arraylength G0 A_r0 (v := (0 : Int32)) rfl d50_11 (pc' := 12) rfl ?_
  refine o_icmp_ge G0 d50_12 (by decide) (pcT := 32) (by decide) (pc' := 15) rfl (fun _ => ?_) (fun q => absurd q (by decide))
  refine o_iconst G0 d50_32 (pc' := 33) rfl (v := (1 : Int32)) rfl ?_
  have hq : (1 : Int32) = (own_eq 0 0 g k) := by
    rw [own_eq]
  exact o_nreturn (t := .boolean) G0 (by simp) d50_33 ⟨by rw [← hq]; rfl, rfl⟩ (by decide) (by decide)
set_option maxRecDepth 65536 in
set_option maxHeartbeats 40000000 in
theorem rm49_00 {l : Launch} {Z : State} {a0 : Array Value} (hw : ∀ d ∈ tables_1, d.before a0 Z = true) (r0 : Addr) (r1 : Addr) (h0 : Heap) (n0 : Nat) (hz : n0 ≤ h0.size) (cs : Int32) (hcs : ¬ cs = 0) (S : Sta Z h0 "java/lang/String" "COMPACT_STRINGS" "Z" (.int cs)) (b : Addr) (g : Nat → Int32) (E_r0 : Exa Z h0 r0 "java/lang/String") (Fv_r0 : Fld Z h0 r0 "java/lang/String" "value" "[B" (.ref b)) (Fc_r0 : Fld Z h0 r0 "java/lang/String" "coder" "B" (.int (0 : Int32))) (A_b : OArr Z h0 b .byte 0 (fun j => .int (own_by (g j)))) (c1 : Addr) (k : Nat → Int32) (E_r1 : Exa Z h0 r1 "java/lang/String") (Fv_r1 : Fld Z h0 r1 "java/lang/String" "value" "[B" (.ref c1)) (Fc_r1 : Fld Z h0 r1 "java/lang/String" "coder" "B" (.int (0 : Int32))) (A_c1 : OArr Z h0 c1 .byte 0 (fun j => .int (own_by (k j)))) (hne : r0 ≠ r1) :
    OMet l Z (⟨"java/lang/String", "equals", "(Ljava/lang/Object;)Z"⟩ : MethodName) jdk_42_method_66_code 3 (some .boolean) ({ frames := 1, cells := 0, slots := 0, locals := 14 } : Room) #[(.ref r0), (.ref r1)] h0 n0 ({ frames := 1, cells := 0, slots := 0, locals := 14 } : Room).cells ({ frames := 1, cells := 0, slots := 0, locals := 14 } : Room).slots (OVal h0 (.int (own_eq 0 0 g k))) := by
  refine o_body (plainFor_of_name pn_49) hz (fun m => ef_49 m r0 r1) ?_
  intro p e s m below meth c s₁ G0
  refine o_aloadN G0 d49_0 (pc' := 1) rfl rfl rfl ?_
  refine o_aloadN G0 d49_1 (pc' := 2) rfl rfl rfl ?_
  refine o_acmp_ne G0 rfl rfl d49_2 (by decide) (pcT := 7) (by decide) (pc' := 5) rfl (fun _ => ?_) (fun q => absurd q (fun q => hne (Value.ref.inj q)))
  refine o_aloadN G0 d49_7 (pc' := 8) rfl rfl rfl ?_
  refine o_instY G0 (ow hw 16 rfl) (Ins.self E_r1) d49_8 (pc' := 11) rfl ?_
  intro T1 G1
  refine o_if_eq G1 d49_11 (by decide) (pcT := 54) (by decide) (pc' := 14) rfl (fun q => absurd q (by decide)) (fun _ => ?_)
  refine o_aloadN G1 d49_14 (pc' := 15) rfl rfl rfl ?_
  refine o_checkcast G1 (ow hw 16 rfl) (Ins.self E_r1) d49_15 (pc' := 18) rfl ?_
  intro T2 G2
  refine o_astoreN G2 d49_18 (pc' := 19) rfl rfl (l' := #[.val (.ref r0), .val (.ref r1), .val (.ref r1)]) rfl ?_
  refine o_getS G2 (host := "") (Or.inl (ow hw 11 rfl)) Via.refl S d49_19 (pc' := 22) rfl ?_
  intro T3 G3
  refine o_if_eq G3 d49_22 (by decide) (pcT := 36) (by decide) (pc' := 25) rfl (fun q => absurd q hcs) (fun _ => ?_)
  refine o_aloadN G3 d49_25 (pc' := 26) rfl rfl rfl ?_
  refine o_getF G3 (host := "") (Or.inl (ow hw 31 rfl)) Via.refl Fc_r0 d49_26 (pc' := 29) rfl ?_
  intro T4 G4
  refine o_aloadN G4 d49_29 (pc' := 30) rfl rfl rfl ?_
  refine o_getF G4 (host := "") (Or.inl (ow hw 31 rfl)) Via.refl Fc_r1 d49_30 (pc' := 33) rfl ?_
  intro T5 G5
  refine o_icmp_ne G5 d49_33 (by decide) (pcT := 54) (by decide) (pc' := 36) rfl (fun q => absurd (by decide) q) (fun _ => ?_)
  refine o_aloadN G5 d49_36 (pc' := 37) rfl rfl rfl ?_
  refine o_getF G5 (host := "") (Or.inl (ow hw 29 rfl)) Via.refl Fv_r0 d49_37 (pc' := 40) rfl ?_
  intro T6 G6
  refine o_aloadN G6 d49_40 (pc' := 41) rfl rfl rfl ?_
  refine o_getF G6 (host := "") (Or.inl (ow hw 29 rfl)) Via.refl Fv_r1 d49_41 (pc' := 44) rfl ?_
  intro T7 G7
  refine o_callS G7 (z := (⟨"java/lang/StringLatin1", "equals", "([B[B)Z"⟩ : MethodName)) (argsL := [(.ref b), (.ref c1)]) (rest := []) (W := 0) (ow hw 258 rfl) (ow hw 259 rfl) d49_44 (by decide) (ow hw 14 rfl) (ow hw 260 rfl) (rm50_00 hw b c1 h0 n0 G7.sz g A_b k A_c1) (by decide) (by decide) rfl (lenOf pd_27 rfl) rfl (Nat.le_of_eq rfl) (pc' := 47) rfl (by decide) (by decide) ?_
  rintro _ T8 h8 G8 ⟨rfl, hh⟩
  subst hh
  show OFin _ _ _ _ T8 (mkF m 47 #[.val (.ref r0), .val (.ref r1), .val (.ref r1)] [(.int (own_eq 0 0 g k))])
  refine o_if_eq G8 d49_47 (by decide) (pcT := 54) (by decide) (pc' := 50) rfl (fun hc47 => ?_) (fun hc47 => ?_)
  · refine o_iconst G8 d49_54 (pc' := 55) rfl (v := (0 : Int32)) rfl ?_
    have hq : (0 : Int32) = (own_eq 0 0 g k) := by
      exact hc47.symm
    exact o_nreturn (t := .boolean) G8 (by simp) d49_55 ⟨by rw [← hq]; rfl, rfl⟩ (by decide) (by decide)
  · refine o_iconst G8 d49_50 (pc' := 51) rfl (v := (1 : Int32)) rfl ?_
    refine o_goto G8 d49_51 (by decide) (pc' := 55) rfl ?_
    have hq : (1 : Int32) = (own_eq 0 0 g k) := by
      exact (own_eq01 0 0 g k).resolve_left hc47 |>.symm
    exact o_nreturn (t := .boolean) G8 (by simp) d49_55 ⟨by rw [← hq]; rfl, rfl⟩ (by decide) (by decide)
set_option maxRecDepth 65536 in
set_option maxHeartbeats 40000000 in
theorem rm50_22 {l : Launch} {Z : State} {a0 : Array Value} (hw : ∀ d ∈ tables_1, d.before a0 Z = true) (r0 : Addr) (r1 : Addr) (h0 : Heap) (n0 : Nat) (hz : n0 ≤ h0.size) (g : Nat → Int32) (A_r0 : OArr Z h0 r0 .byte 2 (fun j => .int (own_by (g j)))) (k : Nat → Int32) (A_r1 : OArr Z h0 r1 .byte 2 (fun j => .int (own_by (k j)))) :
    OMet l Z (⟨"java/lang/StringLatin1", "equals", "([B[B)Z"⟩ : MethodName) jdk_43_method_13_code 3 (some .boolean) ({ frames := 0, cells := 0, slots := 0, locals := 0 } : Room) #[(.ref r0), (.ref r1)] h0 n0 ({ frames := 0, cells := 0, slots := 0, locals := 0 } : Room).cells ({ frames := 0, cells := 0, slots := 0, locals := 0 } : Room).slots (OVal h0 (.int (own_eq 2 0 g k))) := by
  refine o_body (plainFor_of_name pn_50) hz (fun m => ef_50 m r0 r1) ?_
  intro p e s m below meth c s₁ G0
  refine o_aloadN G0 d50_0 (pc' := 1) rfl rfl rfl ?_
  refine o_arraylength G0 A_r0 (v := (2 : Int32)) rfl d50_1 (pc' := 2) rfl ?_
  refine o_aloadN G0 d50_2 (pc' := 3) rfl rfl rfl ?_
  refine o_arraylength G0 A_r1 (v := (2 : Int32)) rfl d50_3 (pc' := 4) rfl ?_
  refine o_icmp_ne G0 d50_4 (by decide) (pcT := 34) (by decide) (pc' := 7) rfl (fun q => absurd (by decide) q) (fun _ => ?_)
  refine o_iconst G0 d50_7 (pc' := 8) rfl (v := (0 : Int32)) rfl ?_
  refine o_istoreN G0 d50_8 (pc' := 9) rfl (l' := #[.val (.ref r0), .val (.ref r1), .val (.int (0 : Int32))]) rfl ?_
  refine o_iloadN G0 d50_9 (pc' := 10) rfl rfl ?_
  refine o_aloadN G0 d50_10 (pc' := 11) rfl rfl rfl ?_
  refine o_arraylength G0 A_r0 (v := (2 : Int32)) rfl d50_11 (pc' := 12) rfl ?_
  refine o_icmp_ge G0 d50_12 (by decide) (pcT := 32) (by decide) (pc' := 15) rfl (fun q => absurd (by decide) q) (fun _ => ?_)
  refine o_aloadN G0 d50_15 (pc' := 16) rfl rfl rfl ?_
  refine o_iloadN G0 d50_16 (pc' := 17) rfl rfl ?_
  refine o_baload G0 A_r0 (i := 0) rfl (by decide) (v := (.int (own_by (g 0)))) rfl d50_17 (pc' := 18) rfl ?_
  refine o_aloadN G0 d50_18 (pc' := 19) rfl rfl rfl ?_
  refine o_iloadN G0 d50_19 (pc' := 20) rfl rfl ?_
  refine o_baload G0 A_r1 (i := 0) rfl (by decide) (v := (.int (own_by (k 0)))) rfl d50_20 (pc' := 21) rfl ?_
  refine o_icmp_eq G0 d50_21 (by decide) (pcT := 26) (by decide) (pc' := 24) rfl (fun hc3 => ?_) (fun hc3 => ?_)
  · refine o_iinc G0 d50_26 (pc' := 29) rfl rfl (w := (1 : Int32)) rfl (v := (1 : Int32)) (by decide) (l' := #[.val (.ref r0), .val (.ref r1), .val (.int (1 : Int32))]) rfl ?_
    refine o_goto G0 d50_29 (by decide) (pc' := 9) rfl ?_
    refine o_iloadN G0 d50_9 (pc' := 10) rfl rfl ?_
    refine o_aloadN G0 d50_10 (pc' := 11) rfl rfl rfl ?_
    refine o_arraylength G0 A_r0 (v := (2 : Int32)) rfl d50_11 (pc' := 12) rfl ?_
    refine o_icmp_ge G0 d50_12 (by decide) (pcT := 32) (by decide) (pc' := 15) rfl (fun q => absurd (by decide) q) (fun _ => ?_)
    refine o_aloadN G0 d50_15 (pc' := 16) rfl rfl rfl ?_
    refine o_iloadN G0 d50_16 (pc' := 17) rfl rfl ?_
    refine o_baload G0 A_r0 (i := 1) rfl (by decide) (v := (.int (own_by (g 1)))) rfl d50_17 (pc' := 18) rfl ?_
    refine o_aloadN G0 d50_18 (pc' := 19) rfl rfl rfl ?_
    refine o_iloadN G0 d50_19 (pc' := 20) rfl rfl ?_
    refine o_baload G0 A_r1 (i := 1) rfl (by decide) (v := (.int (own_by (k 1)))) rfl d50_20 (pc' := 21) rfl ?_
    refine o_icmp_eq G0 d50_21 (by decide) (pcT := 26) (by decide) (pc' := 24) rfl (fun hc5 => ?_) (fun hc5 => ?_)
    · refine o_iinc G0 d50_26 (pc' := 29) rfl rfl (w := (1 : Int32)) rfl (v := (2 : Int32)) (by decide) (l' := #[.val (.ref r0), .val (.ref r1), .val (.int (2 : Int32))]) rfl ?_
      refine o_goto G0 d50_29 (by decide) (pc' := 9) rfl ?_
      refine o_iloadN G0 d50_9 (pc' := 10) rfl rfl ?_
      refine o_aloadN G0 d50_10 (pc' := 11) rfl rfl rfl ?_
      refine o_arraylength G0 A_r0 (v := (2 : Int32)) rfl d50_11 (pc' := 12) rfl ?_
      refine o_icmp_ge G0 d50_12 (by decide) (pcT := 32) (by decide) (pc' := 15) rfl (fun _ => ?_) (fun q => absurd q (by decide))
      refine o_iconst G0 d50_32 (pc' := 33) rfl (v := (1 : Int32)) rfl ?_
      have hq : (1 : Int32) = (own_eq 2 0 g k) := by
        rw [own_eq, if_pos hc3, own_eq, if_pos hc5, own_eq]
      exact o_nreturn (t := .boolean) G0 (by simp) d50_33 ⟨by rw [← hq]; rfl, rfl⟩ (by decide) (by decide)
    · refine o_iconst G0 d50_24 (pc' := 25) rfl (v := (0 : Int32)) rfl ?_
      have hq : (0 : Int32) = (own_eq 2 0 g k) := by
        rw [own_eq, if_pos hc3, own_eq, if_neg hc5]
      exact o_nreturn (t := .boolean) G0 (by simp) d50_25 ⟨by rw [← hq]; rfl, rfl⟩ (by decide) (by decide)
  · refine o_iconst G0 d50_24 (pc' := 25) rfl (v := (0 : Int32)) rfl ?_
    have hq : (0 : Int32) = (own_eq 2 0 g k) := by
      rw [own_eq, if_neg hc3]
    exact o_nreturn (t := .boolean) G0 (by simp) d50_25 ⟨by rw [← hq]; rfl, rfl⟩ (by decide) (by decide)
set_option maxRecDepth 65536 in
set_option maxHeartbeats 40000000 in
theorem rm49_22 {l : Launch} {Z : State} {a0 : Array Value} (hw : ∀ d ∈ tables_1, d.before a0 Z = true) (r0 : Addr) (r1 : Addr) (h0 : Heap) (n0 : Nat) (hz : n0 ≤ h0.size) (cs : Int32) (hcs : ¬ cs = 0) (S : Sta Z h0 "java/lang/String" "COMPACT_STRINGS" "Z" (.int cs)) (b : Addr) (g : Nat → Int32) (E_r0 : Exa Z h0 r0 "java/lang/String") (Fv_r0 : Fld Z h0 r0 "java/lang/String" "value" "[B" (.ref b)) (Fc_r0 : Fld Z h0 r0 "java/lang/String" "coder" "B" (.int (0 : Int32))) (A_b : OArr Z h0 b .byte 2 (fun j => .int (own_by (g j)))) (c1 : Addr) (k : Nat → Int32) (E_r1 : Exa Z h0 r1 "java/lang/String") (Fv_r1 : Fld Z h0 r1 "java/lang/String" "value" "[B" (.ref c1)) (Fc_r1 : Fld Z h0 r1 "java/lang/String" "coder" "B" (.int (0 : Int32))) (A_c1 : OArr Z h0 c1 .byte 2 (fun j => .int (own_by (k j)))) (hne : r0 ≠ r1) :
    OMet l Z (⟨"java/lang/String", "equals", "(Ljava/lang/Object;)Z"⟩ : MethodName) jdk_42_method_66_code 3 (some .boolean) ({ frames := 1, cells := 0, slots := 0, locals := 14 } : Room) #[(.ref r0), (.ref r1)] h0 n0 ({ frames := 1, cells := 0, slots := 0, locals := 14 } : Room).cells ({ frames := 1, cells := 0, slots := 0, locals := 14 } : Room).slots (OVal h0 (.int (own_eq 2 0 g k))) := by
  refine o_body (plainFor_of_name pn_49) hz (fun m => ef_49 m r0 r1) ?_
  intro p e s m below meth c s₁ G0
  refine o_aloadN G0 d49_0 (pc' := 1) rfl rfl rfl ?_
  refine o_aloadN G0 d49_1 (pc' := 2) rfl rfl rfl ?_
  refine o_acmp_ne G0 rfl rfl d49_2 (by decide) (pcT := 7) (by decide) (pc' := 5) rfl (fun _ => ?_) (fun q => absurd q (fun q => hne (Value.ref.inj q)))
  refine o_aloadN G0 d49_7 (pc' := 8) rfl rfl rfl ?_
  refine o_instY G0 (ow hw 16 rfl) (Ins.self E_r1) d49_8 (pc' := 11) rfl ?_
  intro T1 G1
  refine o_if_eq G1 d49_11 (by decide) (pcT := 54) (by decide) (pc' := 14) rfl (fun q => absurd q (by decide)) (fun _ => ?_)
  refine o_aloadN G1 d49_14 (pc' := 15) rfl rfl rfl ?_
  refine o_checkcast G1 (ow hw 16 rfl) (Ins.self E_r1) d49_15 (pc' := 18) rfl ?_
  intro T2 G2
  refine o_astoreN G2 d49_18 (pc' := 19) rfl rfl (l' := #[.val (.ref r0), .val (.ref r1), .val (.ref r1)]) rfl ?_
  refine o_getS G2 (host := "") (Or.inl (ow hw 11 rfl)) Via.refl S d49_19 (pc' := 22) rfl ?_
  intro T3 G3
  refine o_if_eq G3 d49_22 (by decide) (pcT := 36) (by decide) (pc' := 25) rfl (fun q => absurd q hcs) (fun _ => ?_)
  refine o_aloadN G3 d49_25 (pc' := 26) rfl rfl rfl ?_
  refine o_getF G3 (host := "") (Or.inl (ow hw 31 rfl)) Via.refl Fc_r0 d49_26 (pc' := 29) rfl ?_
  intro T4 G4
  refine o_aloadN G4 d49_29 (pc' := 30) rfl rfl rfl ?_
  refine o_getF G4 (host := "") (Or.inl (ow hw 31 rfl)) Via.refl Fc_r1 d49_30 (pc' := 33) rfl ?_
  intro T5 G5
  refine o_icmp_ne G5 d49_33 (by decide) (pcT := 54) (by decide) (pc' := 36) rfl (fun q => absurd (by decide) q) (fun _ => ?_)
  refine o_aloadN G5 d49_36 (pc' := 37) rfl rfl rfl ?_
  refine o_getF G5 (host := "") (Or.inl (ow hw 29 rfl)) Via.refl Fv_r0 d49_37 (pc' := 40) rfl ?_
  intro T6 G6
  refine o_aloadN G6 d49_40 (pc' := 41) rfl rfl rfl ?_
  refine o_getF G6 (host := "") (Or.inl (ow hw 29 rfl)) Via.refl Fv_r1 d49_41 (pc' := 44) rfl ?_
  intro T7 G7
  refine o_callS G7 (z := (⟨"java/lang/StringLatin1", "equals", "([B[B)Z"⟩ : MethodName)) (argsL := [(.ref b), (.ref c1)]) (rest := []) (W := 0) (ow hw 258 rfl) (ow hw 259 rfl) d49_44 (by decide) (ow hw 14 rfl) (ow hw 260 rfl) (rm50_22 hw b c1 h0 n0 G7.sz g A_b k A_c1) (by decide) (by decide) rfl (lenOf pd_27 rfl) rfl (Nat.le_of_eq rfl) (pc' := 47) rfl (by decide) (by decide) ?_
  rintro _ T8 h8 G8 ⟨rfl, hh⟩
  subst hh
  show OFin _ _ _ _ T8 (mkF m 47 #[.val (.ref r0), .val (.ref r1), .val (.ref r1)] [(.int (own_eq 2 0 g k))])
  refine o_if_eq G8 d49_47 (by decide) (pcT := 54) (by decide) (pc' := 50) rfl (fun hc47 => ?_) (fun hc47 => ?_)
  · refine o_iconst G8 d49_54 (pc' := 55) rfl (v := (0 : Int32)) rfl ?_
    have hq : (0 : Int32) = (own_eq 2 0 g k) := by
      exact hc47.symm
    exact o_nreturn (t := .boolean) G8 (by simp) d49_55 ⟨by rw [← hq]; rfl, rfl⟩ (by decide) (by decide)
  · refine o_iconst G8 d49_50 (pc' := 51) rfl (v := (1 : Int32)) rfl ?_
    refine o_goto G8 d49_51 (by decide) (pc' := 55) rfl ?_
    have hq : (1 : Int32) = (own_eq 2 0 g k) := by
      exact (own_eq01 2 0 g k).resolve_left hc47 |>.symm
    exact o_nreturn (t := .boolean) G8 (by simp) d49_55 ⟨by rw [← hq]; rfl, rfl⟩ (by decide) (by decide)
set_option maxRecDepth 65536 in
set_option maxHeartbeats 40000000 in
theorem rm50_44 {l : Launch} {Z : State} {a0 : Array Value} (hw : ∀ d ∈ tables_1, d.before a0 Z = true) (r0 : Addr) (r1 : Addr) (h0 : Heap) (n0 : Nat) (hz : n0 ≤ h0.size) (g : Nat → Int32) (A_r0 : OArr Z h0 r0 .byte 4 (fun j => .int (own_by (g j)))) (k : Nat → Int32) (A_r1 : OArr Z h0 r1 .byte 4 (fun j => .int (own_by (k j)))) :
    OMet l Z (⟨"java/lang/StringLatin1", "equals", "([B[B)Z"⟩ : MethodName) jdk_43_method_13_code 3 (some .boolean) ({ frames := 0, cells := 0, slots := 0, locals := 0 } : Room) #[(.ref r0), (.ref r1)] h0 n0 ({ frames := 0, cells := 0, slots := 0, locals := 0 } : Room).cells ({ frames := 0, cells := 0, slots := 0, locals := 0 } : Room).slots (OVal h0 (.int (own_eq 4 0 g k))) := by
  refine o_body (plainFor_of_name pn_50) hz (fun m => ef_50 m r0 r1) ?_
  intro p e s m below meth c s₁ G0
  refine o_aloadN G0 d50_0 (pc' := 1) rfl rfl rfl ?_
  refine o_arraylength G0 A_r0 (v := (4 : Int32)) rfl d50_1 (pc' := 2) rfl ?_
  refine o_aloadN G0 d50_2 (pc' := 3) rfl rfl rfl ?_
  refine o_arraylength G0 A_r1 (v := (4 : Int32)) rfl d50_3 (pc' := 4) rfl ?_
  refine o_icmp_ne G0 d50_4 (by decide) (pcT := 34) (by decide) (pc' := 7) rfl (fun q => absurd (by decide) q) (fun _ => ?_)
  refine o_iconst G0 d50_7 (pc' := 8) rfl (v := (0 : Int32)) rfl ?_
  refine o_istoreN G0 d50_8 (pc' := 9) rfl (l' := #[.val (.ref r0), .val (.ref r1), .val (.int (0 : Int32))]) rfl ?_
  refine o_iloadN G0 d50_9 (pc' := 10) rfl rfl ?_
  refine o_aloadN G0 d50_10 (pc' := 11) rfl rfl rfl ?_
  refine o_arraylength G0 A_r0 (v := (4 : Int32)) rfl d50_11 (pc' := 12) rfl ?_
  refine o_icmp_ge G0 d50_12 (by decide) (pcT := 32) (by decide) (pc' := 15) rfl (fun q => absurd (by decide) q) (fun _ => ?_)
  refine o_aloadN G0 d50_15 (pc' := 16) rfl rfl rfl ?_
  refine o_iloadN G0 d50_16 (pc' := 17) rfl rfl ?_
  refine o_baload G0 A_r0 (i := 0) rfl (by decide) (v := (.int (own_by (g 0)))) rfl d50_17 (pc' := 18) rfl ?_
  refine o_aloadN G0 d50_18 (pc' := 19) rfl rfl rfl ?_
  refine o_iloadN G0 d50_19 (pc' := 20) rfl rfl ?_
  refine o_baload G0 A_r1 (i := 0) rfl (by decide) (v := (.int (own_by (k 0)))) rfl d50_20 (pc' := 21) rfl ?_
  refine o_icmp_eq G0 d50_21 (by decide) (pcT := 26) (by decide) (pc' := 24) rfl (fun hc3 => ?_) (fun hc3 => ?_)
  · refine o_iinc G0 d50_26 (pc' := 29) rfl rfl (w := (1 : Int32)) rfl (v := (1 : Int32)) (by decide) (l' := #[.val (.ref r0), .val (.ref r1), .val (.int (1 : Int32))]) rfl ?_
    refine o_goto G0 d50_29 (by decide) (pc' := 9) rfl ?_
    refine o_iloadN G0 d50_9 (pc' := 10) rfl rfl ?_
    refine o_aloadN G0 d50_10 (pc' := 11) rfl rfl rfl ?_
    refine o_arraylength G0 A_r0 (v := (4 : Int32)) rfl d50_11 (pc' := 12) rfl ?_
    refine o_icmp_ge G0 d50_12 (by decide) (pcT := 32) (by decide) (pc' := 15) rfl (fun q => absurd (by decide) q) (fun _ => ?_)
    refine o_aloadN G0 d50_15 (pc' := 16) rfl rfl rfl ?_
    refine o_iloadN G0 d50_16 (pc' := 17) rfl rfl ?_
    refine o_baload G0 A_r0 (i := 1) rfl (by decide) (v := (.int (own_by (g 1)))) rfl d50_17 (pc' := 18) rfl ?_
    refine o_aloadN G0 d50_18 (pc' := 19) rfl rfl rfl ?_
    refine o_iloadN G0 d50_19 (pc' := 20) rfl rfl ?_
    refine o_baload G0 A_r1 (i := 1) rfl (by decide) (v := (.int (own_by (k 1)))) rfl d50_20 (pc' := 21) rfl ?_
    refine o_icmp_eq G0 d50_21 (by decide) (pcT := 26) (by decide) (pc' := 24) rfl (fun hc5 => ?_) (fun hc5 => ?_)
    · refine o_iinc G0 d50_26 (pc' := 29) rfl rfl (w := (1 : Int32)) rfl (v := (2 : Int32)) (by decide) (l' := #[.val (.ref r0), .val (.ref r1), .val (.int (2 : Int32))]) rfl ?_
      refine o_goto G0 d50_29 (by decide) (pc' := 9) rfl ?_
      refine o_iloadN G0 d50_9 (pc' := 10) rfl rfl ?_
      refine o_aloadN G0 d50_10 (pc' := 11) rfl rfl rfl ?_
      refine o_arraylength G0 A_r0 (v := (4 : Int32)) rfl d50_11 (pc' := 12) rfl ?_
      refine o_icmp_ge G0 d50_12 (by decide) (pcT := 32) (by decide) (pc' := 15) rfl (fun q => absurd (by decide) q) (fun _ => ?_)
      refine o_aloadN G0 d50_15 (pc' := 16) rfl rfl rfl ?_
      refine o_iloadN G0 d50_16 (pc' := 17) rfl rfl ?_
      refine o_baload G0 A_r0 (i := 2) rfl (by decide) (v := (.int (own_by (g 2)))) rfl d50_17 (pc' := 18) rfl ?_
      refine o_aloadN G0 d50_18 (pc' := 19) rfl rfl rfl ?_
      refine o_iloadN G0 d50_19 (pc' := 20) rfl rfl ?_
      refine o_baload G0 A_r1 (i := 2) rfl (by decide) (v := (.int (own_by (k 2)))) rfl d50_20 (pc' := 21) rfl ?_
      refine o_icmp_eq G0 d50_21 (by decide) (pcT := 26) (by decide) (pc' := 24) rfl (fun hc7 => ?_) (fun hc7 => ?_)
      · refine o_iinc G0 d50_26 (pc' := 29) rfl rfl (w := (1 : Int32)) rfl (v := (3 : Int32)) (by decide) (l' := #[.val (.ref r0), .val (.ref r1), .val (.int (3 : Int32))]) rfl ?_
        refine o_goto G0 d50_29 (by decide) (pc' := 9) rfl ?_
        refine o_iloadN G0 d50_9 (pc' := 10) rfl rfl ?_
        refine o_aloadN G0 d50_10 (pc' := 11) rfl rfl rfl ?_
        refine o_arraylength G0 A_r0 (v := (4 : Int32)) rfl d50_11 (pc' := 12) rfl ?_
        refine o_icmp_ge G0 d50_12 (by decide) (pcT := 32) (by decide) (pc' := 15) rfl (fun q => absurd (by decide) q) (fun _ => ?_)
        refine o_aloadN G0 d50_15 (pc' := 16) rfl rfl rfl ?_
        refine o_iloadN G0 d50_16 (pc' := 17) rfl rfl ?_
        refine o_baload G0 A_r0 (i := 3) rfl (by decide) (v := (.int (own_by (g 3)))) rfl d50_17 (pc' := 18) rfl ?_
        refine o_aloadN G0 d50_18 (pc' := 19) rfl rfl rfl ?_
        refine o_iloadN G0 d50_19 (pc' := 20) rfl rfl ?_
        refine o_baload G0 A_r1 (i := 3) rfl (by decide) (v := (.int (own_by (k 3)))) rfl d50_20 (pc' := 21) rfl ?_
        refine o_icmp_eq G0 d50_21 (by decide) (pcT := 26) (by decide) (pc' := 24) rfl (fun hc9 => ?_) (fun hc9 => ?_)
        · refine o_iinc G0 d50_26 (pc' := 29) rfl rfl (w := (1 : Int32)) rfl (v := (4 : Int32)) (by decide) (l' := #[.val (.ref r0), .val (.ref r1), .val (.int (4 : Int32))]) rfl ?_
          refine o_goto G0 d50_29 (by decide) (pc' := 9) rfl ?_
          refine o_iloadN G0 d50_9 (pc' := 10) rfl rfl ?_
          refine o_aloadN G0 d50_10 (pc' := 11) rfl rfl rfl ?_
          refine o_arraylength G0 A_r0 (v := (4 : Int32)) rfl d50_11 (pc' := 12) rfl ?_
          refine o_icmp_ge G0 d50_12 (by decide) (pcT := 32) (by decide) (pc' := 15) rfl (fun _ => ?_) (fun q => absurd q (by decide))
          refine o_iconst G0 d50_32 (pc' := 33) rfl (v := (1 : Int32)) rfl ?_
          have hq : (1 : Int32) = (own_eq 4 0 g k) := by
            rw [own_eq, if_pos hc3, own_eq, if_pos hc5, own_eq, if_pos hc7, own_eq, if_pos hc9, own_eq]
          exact o_nreturn (t := .boolean) G0 (by simp) d50_33 ⟨by rw [← hq]; rfl, rfl⟩ (by decide) (by decide)
        · refine o_iconst G0 d50_24 (pc' := 25) rfl (v := (0 : Int32)) rfl ?_
          have hq : (0 : Int32) = (own_eq 4 0 g k) := by
            rw [own_eq, if_pos hc3, own_eq, if_pos hc5, own_eq, if_pos hc7, own_eq, if_neg hc9]
          exact o_nreturn (t := .boolean) G0 (by simp) d50_25 ⟨by rw [← hq]; rfl, rfl⟩ (by decide) (by decide)
      · refine o_iconst G0 d50_24 (pc' := 25) rfl (v := (0 : Int32)) rfl ?_
        have hq : (0 : Int32) = (own_eq 4 0 g k) := by
          rw [own_eq, if_pos hc3, own_eq, if_pos hc5, own_eq, if_neg hc7]
        exact o_nreturn (t := .boolean) G0 (by simp) d50_25 ⟨by rw [← hq]; rfl, rfl⟩ (by decide) (by decide)
    · refine o_iconst G0 d50_24 (pc' := 25) rfl (v := (0 : Int32)) rfl ?_
      have hq : (0 : Int32) = (own_eq 4 0 g k) := by
        rw [own_eq, if_pos hc3, own_eq, if_neg hc5]
      exact o_nreturn (t := .boolean) G0 (by simp) d50_25 ⟨by rw [← hq]; rfl, rfl⟩ (by decide) (by decide)
  · refine o_iconst G0 d50_24 (pc' := 25) rfl (v := (0 : Int32)) rfl ?_
    have hq : (0 : Int32) = (own_eq 4 0 g k) := by
      rw [own_eq, if_neg hc3]
    exact o_nreturn (t := .boolean) G0 (by simp) d50_25 ⟨by rw [← hq]; rfl, rfl⟩ (by decide) (by decide)
set_option maxRecDepth 65536 in
set_option maxHeartbeats 40000000 in
theorem rm49_44 {l : Launch} {Z : State} {a0 : Array Value} (hw : ∀ d ∈ tables_1, d.before a0 Z = true) (r0 : Addr) (r1 : Addr) (h0 : Heap) (n0 : Nat) (hz : n0 ≤ h0.size) (cs : Int32) (hcs : ¬ cs = 0) (S : Sta Z h0 "java/lang/String" "COMPACT_STRINGS" "Z" (.int cs)) (b : Addr) (g : Nat → Int32) (E_r0 : Exa Z h0 r0 "java/lang/String") (Fv_r0 : Fld Z h0 r0 "java/lang/String" "value" "[B" (.ref b)) (Fc_r0 : Fld Z h0 r0 "java/lang/String" "coder" "B" (.int (0 : Int32))) (A_b : OArr Z h0 b .byte 4 (fun j => .int (own_by (g j)))) (c1 : Addr) (k : Nat → Int32) (E_r1 : Exa Z h0 r1 "java/lang/String") (Fv_r1 : Fld Z h0 r1 "java/lang/String" "value" "[B" (.ref c1)) (Fc_r1 : Fld Z h0 r1 "java/lang/String" "coder" "B" (.int (0 : Int32))) (A_c1 : OArr Z h0 c1 .byte 4 (fun j => .int (own_by (k j)))) (hne : r0 ≠ r1) :
    OMet l Z (⟨"java/lang/String", "equals", "(Ljava/lang/Object;)Z"⟩ : MethodName) jdk_42_method_66_code 3 (some .boolean) ({ frames := 1, cells := 0, slots := 0, locals := 14 } : Room) #[(.ref r0), (.ref r1)] h0 n0 ({ frames := 1, cells := 0, slots := 0, locals := 14 } : Room).cells ({ frames := 1, cells := 0, slots := 0, locals := 14 } : Room).slots (OVal h0 (.int (own_eq 4 0 g k))) := by
  refine o_body (plainFor_of_name pn_49) hz (fun m => ef_49 m r0 r1) ?_
  intro p e s m below meth c s₁ G0
  refine o_aloadN G0 d49_0 (pc' := 1) rfl rfl rfl ?_
  refine o_aloadN G0 d49_1 (pc' := 2) rfl rfl rfl ?_
  refine o_acmp_ne G0 rfl rfl d49_2 (by decide) (pcT := 7) (by decide) (pc' := 5) rfl (fun _ => ?_) (fun q => absurd q (fun q => hne (Value.ref.inj q)))
  refine o_aloadN G0 d49_7 (pc' := 8) rfl rfl rfl ?_
  refine o_instY G0 (ow hw 16 rfl) (Ins.self E_r1) d49_8 (pc' := 11) rfl ?_
  intro T1 G1
  refine o_if_eq G1 d49_11 (by decide) (pcT := 54) (by decide) (pc' := 14) rfl (fun q => absurd q (by decide)) (fun _ => ?_)
  refine o_aloadN G1 d49_14 (pc' := 15) rfl rfl rfl ?_
  refine o_checkcast G1 (ow hw 16 rfl) (Ins.self E_r1) d49_15 (pc' := 18) rfl ?_
  intro T2 G2
  refine o_astoreN G2 d49_18 (pc' := 19) rfl rfl (l' := #[.val (.ref r0), .val (.ref r1), .val (.ref r1)]) rfl ?_
  refine o_getS G2 (host := "") (Or.inl (ow hw 11 rfl)) Via.refl S d49_19 (pc' := 22) rfl ?_
  intro T3 G3
  refine o_if_eq G3 d49_22 (by decide) (pcT := 36) (by decide) (pc' := 25) rfl (fun q => absurd q hcs) (fun _ => ?_)
  refine o_aloadN G3 d49_25 (pc' := 26) rfl rfl rfl ?_
  refine o_getF G3 (host := "") (Or.inl (ow hw 31 rfl)) Via.refl Fc_r0 d49_26 (pc' := 29) rfl ?_
  intro T4 G4
  refine o_aloadN G4 d49_29 (pc' := 30) rfl rfl rfl ?_
  refine o_getF G4 (host := "") (Or.inl (ow hw 31 rfl)) Via.refl Fc_r1 d49_30 (pc' := 33) rfl ?_
  intro T5 G5
  refine o_icmp_ne G5 d49_33 (by decide) (pcT := 54) (by decide) (pc' := 36) rfl (fun q => absurd (by decide) q) (fun _ => ?_)
  refine o_aloadN G5 d49_36 (pc' := 37) rfl rfl rfl ?_
  refine o_getF G5 (host := "") (Or.inl (ow hw 29 rfl)) Via.refl Fv_r0 d49_37 (pc' := 40) rfl ?_
  intro T6 G6
  refine o_aloadN G6 d49_40 (pc' := 41) rfl rfl rfl ?_
  refine o_getF G6 (host := "") (Or.inl (ow hw 29 rfl)) Via.refl Fv_r1 d49_41 (pc' := 44) rfl ?_
  intro T7 G7
  refine o_callS G7 (z := (⟨"java/lang/StringLatin1", "equals", "([B[B)Z"⟩ : MethodName)) (argsL := [(.ref b), (.ref c1)]) (rest := []) (W := 0) (ow hw 258 rfl) (ow hw 259 rfl) d49_44 (by decide) (ow hw 14 rfl) (ow hw 260 rfl) (rm50_44 hw b c1 h0 n0 G7.sz g A_b k A_c1) (by decide) (by decide) rfl (lenOf pd_27 rfl) rfl (Nat.le_of_eq rfl) (pc' := 47) rfl (by decide) (by decide) ?_
  rintro _ T8 h8 G8 ⟨rfl, hh⟩
  subst hh
  show OFin _ _ _ _ T8 (mkF m 47 #[.val (.ref r0), .val (.ref r1), .val (.ref r1)] [(.int (own_eq 4 0 g k))])
  refine o_if_eq G8 d49_47 (by decide) (pcT := 54) (by decide) (pc' := 50) rfl (fun hc47 => ?_) (fun hc47 => ?_)
  · refine o_iconst G8 d49_54 (pc' := 55) rfl (v := (0 : Int32)) rfl ?_
    have hq : (0 : Int32) = (own_eq 4 0 g k) := by
      exact hc47.symm
    exact o_nreturn (t := .boolean) G8 (by simp) d49_55 ⟨by rw [← hq]; rfl, rfl⟩ (by decide) (by decide)
  · refine o_iconst G8 d49_50 (pc' := 51) rfl (v := (1 : Int32)) rfl ?_
    refine o_goto G8 d49_51 (by decide) (pc' := 55) rfl ?_
    have hq : (1 : Int32) = (own_eq 4 0 g k) := by
      exact (own_eq01 4 0 g k).resolve_left hc47 |>.symm
    exact o_nreturn (t := .boolean) G8 (by simp) d49_55 ⟨by rw [← hq]; rfl, rfl⟩ (by decide) (by decide)
set_option maxRecDepth 65536 in
set_option maxHeartbeats 40000000 in
theorem rm50_02 {l : Launch} {Z : State} {a0 : Array Value} (hw : ∀ d ∈ tables_1, d.before a0 Z = true) (r0 : Addr) (r1 : Addr) (h0 : Heap) (n0 : Nat) (hz : n0 ≤ h0.size) (g : Nat → Int32) (A_r0 : OArr Z h0 r0 .byte 0 (fun j => .int (own_by (g j)))) (k : Nat → Int32) (A_r1 : OArr Z h0 r1 .byte 2 (fun j => .int (own_by (k j)))) :
    OMet l Z (⟨"java/lang/StringLatin1", "equals", "([B[B)Z"⟩ : MethodName) jdk_43_method_13_code 3 (some .boolean) ({ frames := 0, cells := 0, slots := 0, locals := 0 } : Room) #[(.ref r0), (.ref r1)] h0 n0 ({ frames := 0, cells := 0, slots := 0, locals := 0 } : Room).cells ({ frames := 0, cells := 0, slots := 0, locals := 0 } : Room).slots (OVal h0 (.int (0 : Int32))) := by
  refine o_body (plainFor_of_name pn_50) hz (fun m => ef_50 m r0 r1) ?_
  intro p e s m below meth c s₁ G0
  refine o_aloadN G0 d50_0 (pc' := 1) rfl rfl rfl ?_
  refine o_arraylength G0 A_r0 (v := (0 : Int32)) rfl d50_1 (pc' := 2) rfl ?_
  refine o_aloadN G0 d50_2 (pc' := 3) rfl rfl rfl ?_
  refine o_arraylength G0 A_r1 (v := (2 : Int32)) rfl d50_3 (pc' := 4) rfl ?_
  refine o_icmp_ne G0 d50_4 (by decide) (pcT := 34) (by decide) (pc' := 7) rfl (fun _ => ?_) (fun q => absurd q (by decide))
  refine o_iconst G0 d50_34 (pc' := 35) rfl (v := (0 : Int32)) rfl ?_
  exact o_nreturn (t := .boolean) G0 (by simp) d50_35 ⟨rfl, rfl⟩ (by decide) (by decide)
set_option maxRecDepth 65536 in
set_option maxHeartbeats 40000000 in
theorem rm49_02 {l : Launch} {Z : State} {a0 : Array Value} (hw : ∀ d ∈ tables_1, d.before a0 Z = true) (r0 : Addr) (r1 : Addr) (h0 : Heap) (n0 : Nat) (hz : n0 ≤ h0.size) (cs : Int32) (hcs : ¬ cs = 0) (S : Sta Z h0 "java/lang/String" "COMPACT_STRINGS" "Z" (.int cs)) (b : Addr) (g : Nat → Int32) (E_r0 : Exa Z h0 r0 "java/lang/String") (Fv_r0 : Fld Z h0 r0 "java/lang/String" "value" "[B" (.ref b)) (Fc_r0 : Fld Z h0 r0 "java/lang/String" "coder" "B" (.int (0 : Int32))) (A_b : OArr Z h0 b .byte 0 (fun j => .int (own_by (g j)))) (c1 : Addr) (k : Nat → Int32) (E_r1 : Exa Z h0 r1 "java/lang/String") (Fv_r1 : Fld Z h0 r1 "java/lang/String" "value" "[B" (.ref c1)) (Fc_r1 : Fld Z h0 r1 "java/lang/String" "coder" "B" (.int (0 : Int32))) (A_c1 : OArr Z h0 c1 .byte 2 (fun j => .int (own_by (k j)))) (hne : r0 ≠ r1) :
    OMet l Z (⟨"java/lang/String", "equals", "(Ljava/lang/Object;)Z"⟩ : MethodName) jdk_42_method_66_code 3 (some .boolean) ({ frames := 1, cells := 0, slots := 0, locals := 14 } : Room) #[(.ref r0), (.ref r1)] h0 n0 ({ frames := 1, cells := 0, slots := 0, locals := 14 } : Room).cells ({ frames := 1, cells := 0, slots := 0, locals := 14 } : Room).slots (OVal h0 (.int (0 : Int32))) := by
  refine o_body (plainFor_of_name pn_49) hz (fun m => ef_49 m r0 r1) ?_
  intro p e s m below meth c s₁ G0
  refine o_aloadN G0 d49_0 (pc' := 1) rfl rfl rfl ?_
  refine o_aloadN G0 d49_1 (pc' := 2) rfl rfl rfl ?_
  refine o_acmp_ne G0 rfl rfl d49_2 (by decide) (pcT := 7) (by decide) (pc' := 5) rfl (fun _ => ?_) (fun q => absurd q (fun q => hne (Value.ref.inj q)))
  refine o_aloadN G0 d49_7 (pc' := 8) rfl rfl rfl ?_
  refine o_instY G0 (ow hw 16 rfl) (Ins.self E_r1) d49_8 (pc' := 11) rfl ?_
  intro T1 G1
  refine o_if_eq G1 d49_11 (by decide) (pcT := 54) (by decide) (pc' := 14) rfl (fun q => absurd q (by decide)) (fun _ => ?_)
  refine o_aloadN G1 d49_14 (pc' := 15) rfl rfl rfl ?_
  refine o_checkcast G1 (ow hw 16 rfl) (Ins.self E_r1) d49_15 (pc' := 18) rfl ?_
  intro T2 G2
  refine o_astoreN G2 d49_18 (pc' := 19) rfl rfl (l' := #[.val (.ref r0), .val (.ref r1), .val (.ref r1)]) rfl ?_
  refine o_getS G2 (host := "") (Or.inl (ow hw 11 rfl)) Via.refl S d49_19 (pc' := 22) rfl ?_
  intro T3 G3
  refine o_if_eq G3 d49_22 (by decide) (pcT := 36) (by decide) (pc' := 25) rfl (fun q => absurd q hcs) (fun _ => ?_)
  refine o_aloadN G3 d49_25 (pc' := 26) rfl rfl rfl ?_
  refine o_getF G3 (host := "") (Or.inl (ow hw 31 rfl)) Via.refl Fc_r0 d49_26 (pc' := 29) rfl ?_
  intro T4 G4
  refine o_aloadN G4 d49_29 (pc' := 30) rfl rfl rfl ?_
  refine o_getF G4 (host := "") (Or.inl (ow hw 31 rfl)) Via.refl Fc_r1 d49_30 (pc' := 33) rfl ?_
  intro T5 G5
  refine o_icmp_ne G5 d49_33 (by decide) (pcT := 54) (by decide) (pc' := 36) rfl (fun q => absurd (by decide) q) (fun _ => ?_)
  refine o_aloadN G5 d49_36 (pc' := 37) rfl rfl rfl ?_
  refine o_getF G5 (host := "") (Or.inl (ow hw 29 rfl)) Via.refl Fv_r0 d49_37 (pc' := 40) rfl ?_
  intro T6 G6
  refine o_aloadN G6 d49_40 (pc' := 41) rfl rfl rfl ?_
  refine o_getF G6 (host := "") (Or.inl (ow hw 29 rfl)) Via.refl Fv_r1 d49_41 (pc' := 44) rfl ?_
  intro T7 G7
  refine o_callS G7 (z := (⟨"java/lang/StringLatin1", "equals", "([B[B)Z"⟩ : MethodName)) (argsL := [(.ref b), (.ref c1)]) (rest := []) (W := 0) (ow hw 258 rfl) (ow hw 259 rfl) d49_44 (by decide) (ow hw 14 rfl) (ow hw 260 rfl) (rm50_02 hw b c1 h0 n0 G7.sz g A_b k A_c1) (by decide) (by decide) rfl (lenOf pd_27 rfl) rfl (Nat.le_of_eq rfl) (pc' := 47) rfl (by decide) (by decide) ?_
  rintro _ T8 h8 G8 ⟨rfl, hh⟩
  subst hh
  show OFin _ _ _ _ T8 (mkF m 47 #[.val (.ref r0), .val (.ref r1), .val (.ref r1)] [(.int (0 : Int32))])
  refine o_if_eq G8 d49_47 (by decide) (pcT := 54) (by decide) (pc' := 50) rfl (fun _ => ?_) (fun q => absurd (by decide) q)
  refine o_iconst G8 d49_54 (pc' := 55) rfl (v := (0 : Int32)) rfl ?_
  exact o_nreturn (t := .boolean) G8 (by simp) d49_55 ⟨rfl, rfl⟩ (by decide) (by decide)
set_option maxRecDepth 65536 in
set_option maxHeartbeats 40000000 in
theorem rm50_20 {l : Launch} {Z : State} {a0 : Array Value} (hw : ∀ d ∈ tables_1, d.before a0 Z = true) (r0 : Addr) (r1 : Addr) (h0 : Heap) (n0 : Nat) (hz : n0 ≤ h0.size) (g : Nat → Int32) (A_r0 : OArr Z h0 r0 .byte 2 (fun j => .int (own_by (g j)))) (k : Nat → Int32) (A_r1 : OArr Z h0 r1 .byte 0 (fun j => .int (own_by (k j)))) :
    OMet l Z (⟨"java/lang/StringLatin1", "equals", "([B[B)Z"⟩ : MethodName) jdk_43_method_13_code 3 (some .boolean) ({ frames := 0, cells := 0, slots := 0, locals := 0 } : Room) #[(.ref r0), (.ref r1)] h0 n0 ({ frames := 0, cells := 0, slots := 0, locals := 0 } : Room).cells ({ frames := 0, cells := 0, slots := 0, locals := 0 } : Room).slots (OVal h0 (.int (0 : Int32))) := by
  refine o_body (plainFor_of_name pn_50) hz (fun m => ef_50 m r0 r1) ?_
  intro p e s m below meth c s₁ G0
  refine o_aloadN G0 d50_0 (pc' := 1) rfl rfl rfl ?_
  refine o_arraylength G0 A_r0 (v := (2 : Int32)) rfl d50_1 (pc' := 2) rfl ?_
  refine o_aloadN G0 d50_2 (pc' := 3) rfl rfl rfl ?_
  refine o_arraylength G0 A_r1 (v := (0 : Int32)) rfl d50_3 (pc' := 4) rfl ?_
  refine o_icmp_ne G0 d50_4 (by decide) (pcT := 34) (by decide) (pc' := 7) rfl (fun _ => ?_) (fun q => absurd q (by decide))
  refine o_iconst G0 d50_34 (pc' := 35) rfl (v := (0 : Int32)) rfl ?_
  exact o_nreturn (t := .boolean) G0 (by simp) d50_35 ⟨rfl, rfl⟩ (by decide) (by decide)
set_option maxRecDepth 65536 in
set_option maxHeartbeats 40000000 in
theorem rm49_20 {l : Launch} {Z : State} {a0 : Array Value} (hw : ∀ d ∈ tables_1, d.before a0 Z = true) (r0 : Addr) (r1 : Addr) (h0 : Heap) (n0 : Nat) (hz : n0 ≤ h0.size) (cs : Int32) (hcs : ¬ cs = 0) (S : Sta Z h0 "java/lang/String" "COMPACT_STRINGS" "Z" (.int cs)) (b : Addr) (g : Nat → Int32) (E_r0 : Exa Z h0 r0 "java/lang/String") (Fv_r0 : Fld Z h0 r0 "java/lang/String" "value" "[B" (.ref b)) (Fc_r0 : Fld Z h0 r0 "java/lang/String" "coder" "B" (.int (0 : Int32))) (A_b : OArr Z h0 b .byte 2 (fun j => .int (own_by (g j)))) (c1 : Addr) (k : Nat → Int32) (E_r1 : Exa Z h0 r1 "java/lang/String") (Fv_r1 : Fld Z h0 r1 "java/lang/String" "value" "[B" (.ref c1)) (Fc_r1 : Fld Z h0 r1 "java/lang/String" "coder" "B" (.int (0 : Int32))) (A_c1 : OArr Z h0 c1 .byte 0 (fun j => .int (own_by (k j)))) (hne : r0 ≠ r1) :
    OMet l Z (⟨"java/lang/String", "equals", "(Ljava/lang/Object;)Z"⟩ : MethodName) jdk_42_method_66_code 3 (some .boolean) ({ frames := 1, cells := 0, slots := 0, locals := 14 } : Room) #[(.ref r0), (.ref r1)] h0 n0 ({ frames := 1, cells := 0, slots := 0, locals := 14 } : Room).cells ({ frames := 1, cells := 0, slots := 0, locals := 14 } : Room).slots (OVal h0 (.int (0 : Int32))) := by
  refine o_body (plainFor_of_name pn_49) hz (fun m => ef_49 m r0 r1) ?_
  intro p e s m below meth c s₁ G0
  refine o_aloadN G0 d49_0 (pc' := 1) rfl rfl rfl ?_
  refine o_aloadN G0 d49_1 (pc' := 2) rfl rfl rfl ?_
  refine o_acmp_ne G0 rfl rfl d49_2 (by decide) (pcT := 7) (by decide) (pc' := 5) rfl (fun _ => ?_) (fun q => absurd q (fun q => hne (Value.ref.inj q)))
  refine o_aloadN G0 d49_7 (pc' := 8) rfl rfl rfl ?_
  refine o_instY G0 (ow hw 16 rfl) (Ins.self E_r1) d49_8 (pc' := 11) rfl ?_
  intro T1 G1
  refine o_if_eq G1 d49_11 (by decide) (pcT := 54) (by decide) (pc' := 14) rfl (fun q => absurd q (by decide)) (fun _ => ?_)
  refine o_aloadN G1 d49_14 (pc' := 15) rfl rfl rfl ?_
  refine o_checkcast G1 (ow hw 16 rfl) (Ins.self E_r1) d49_15 (pc' := 18) rfl ?_
  intro T2 G2
  refine o_astoreN G2 d49_18 (pc' := 19) rfl rfl (l' := #[.val (.ref r0), .val (.ref r1), .val (.ref r1)]) rfl ?_
  refine o_getS G2 (host := "") (Or.inl (ow hw 11 rfl)) Via.refl S d49_19 (pc' := 22) rfl ?_
  intro T3 G3
  refine o_if_eq G3 d49_22 (by decide) (pcT := 36) (by decide) (pc' := 25) rfl (fun q => absurd q hcs) (fun _ => ?_)
  refine o_aloadN G3 d49_25 (pc' := 26) rfl rfl rfl ?_
  refine o_getF G3 (host := "") (Or.inl (ow hw 31 rfl)) Via.refl Fc_r0 d49_26 (pc' := 29) rfl ?_
  intro T4 G4
  refine o_aloadN G4 d49_29 (pc' := 30) rfl rfl rfl ?_
  refine o_getF G4 (host := "") (Or.inl (ow hw 31 rfl)) Via.refl Fc_r1 d49_30 (pc' := 33) rfl ?_
  intro T5 G5
  refine o_icmp_ne G5 d49_33 (by decide) (pcT := 54) (by decide) (pc' := 36) rfl (fun q => absurd (by decide) q) (fun _ => ?_)
  refine o_aloadN G5 d49_36 (pc' := 37) rfl rfl rfl ?_
  refine o_getF G5 (host := "") (Or.inl (ow hw 29 rfl)) Via.refl Fv_r0 d49_37 (pc' := 40) rfl ?_
  intro T6 G6
  refine o_aloadN G6 d49_40 (pc' := 41) rfl rfl rfl ?_
  refine o_getF G6 (host := "") (Or.inl (ow hw 29 rfl)) Via.refl Fv_r1 d49_41 (pc' := 44) rfl ?_
  intro T7 G7
  refine o_callS G7 (z := (⟨"java/lang/StringLatin1", "equals", "([B[B)Z"⟩ : MethodName)) (argsL := [(.ref b), (.ref c1)]) (rest := []) (W := 0) (ow hw 258 rfl) (ow hw 259 rfl) d49_44 (by decide) (ow hw 14 rfl) (ow hw 260 rfl) (rm50_20 hw b c1 h0 n0 G7.sz g A_b k A_c1) (by decide) (by decide) rfl (lenOf pd_27 rfl) rfl (Nat.le_of_eq rfl) (pc' := 47) rfl (by decide) (by decide) ?_
  rintro _ T8 h8 G8 ⟨rfl, hh⟩
  subst hh
  show OFin _ _ _ _ T8 (mkF m 47 #[.val (.ref r0), .val (.ref r1), .val (.ref r1)] [(.int (0 : Int32))])
  refine o_if_eq G8 d49_47 (by decide) (pcT := 54) (by decide) (pc' := 50) rfl (fun _ => ?_) (fun q => absurd (by decide) q)
  refine o_iconst G8 d49_54 (pc' := 55) rfl (v := (0 : Int32)) rfl ?_
  exact o_nreturn (t := .boolean) G8 (by simp) d49_55 ⟨rfl, rfl⟩ (by decide) (by decide)
set_option maxRecDepth 65536 in
set_option maxHeartbeats 40000000 in
theorem rm50_24 {l : Launch} {Z : State} {a0 : Array Value} (hw : ∀ d ∈ tables_1, d.before a0 Z = true) (r0 : Addr) (r1 : Addr) (h0 : Heap) (n0 : Nat) (hz : n0 ≤ h0.size) (g : Nat → Int32) (A_r0 : OArr Z h0 r0 .byte 2 (fun j => .int (own_by (g j)))) (k : Nat → Int32) (A_r1 : OArr Z h0 r1 .byte 4 (fun j => .int (own_by (k j)))) :
    OMet l Z (⟨"java/lang/StringLatin1", "equals", "([B[B)Z"⟩ : MethodName) jdk_43_method_13_code 3 (some .boolean) ({ frames := 0, cells := 0, slots := 0, locals := 0 } : Room) #[(.ref r0), (.ref r1)] h0 n0 ({ frames := 0, cells := 0, slots := 0, locals := 0 } : Room).cells ({ frames := 0, cells := 0, slots := 0, locals := 0 } : Room).slots (OVal h0 (.int (0 : Int32))) := by
  refine o_body (plainFor_of_name pn_50) hz (fun m => ef_50 m r0 r1) ?_
  intro p e s m below meth c s₁ G0
  refine o_aloadN G0 d50_0 (pc' := 1) rfl rfl rfl ?_
  refine o_arraylength G0 A_r0 (v := (2 : Int32)) rfl d50_1 (pc' := 2) rfl ?_
  refine o_aloadN G0 d50_2 (pc' := 3) rfl rfl rfl ?_
  refine o_arraylength G0 A_r1 (v := (4 : Int32)) rfl d50_3 (pc' := 4) rfl ?_
  refine o_icmp_ne G0 d50_4 (by decide) (pcT := 34) (by decide) (pc' := 7) rfl (fun _ => ?_) (fun q => absurd q (by decide))
  refine o_iconst G0 d50_34 (pc' := 35) rfl (v := (0 : Int32)) rfl ?_
  exact o_nreturn (t := .boolean) G0 (by simp) d50_35 ⟨rfl, rfl⟩ (by decide) (by decide)
set_option maxRecDepth 65536 in
set_option maxHeartbeats 40000000 in
theorem rm49_24 {l : Launch} {Z : State} {a0 : Array Value} (hw : ∀ d ∈ tables_1, d.before a0 Z = true) (r0 : Addr) (r1 : Addr) (h0 : Heap) (n0 : Nat) (hz : n0 ≤ h0.size) (cs : Int32) (hcs : ¬ cs = 0) (S : Sta Z h0 "java/lang/String" "COMPACT_STRINGS" "Z" (.int cs)) (b : Addr) (g : Nat → Int32) (E_r0 : Exa Z h0 r0 "java/lang/String") (Fv_r0 : Fld Z h0 r0 "java/lang/String" "value" "[B" (.ref b)) (Fc_r0 : Fld Z h0 r0 "java/lang/String" "coder" "B" (.int (0 : Int32))) (A_b : OArr Z h0 b .byte 2 (fun j => .int (own_by (g j)))) (c1 : Addr) (k : Nat → Int32) (E_r1 : Exa Z h0 r1 "java/lang/String") (Fv_r1 : Fld Z h0 r1 "java/lang/String" "value" "[B" (.ref c1)) (Fc_r1 : Fld Z h0 r1 "java/lang/String" "coder" "B" (.int (0 : Int32))) (A_c1 : OArr Z h0 c1 .byte 4 (fun j => .int (own_by (k j)))) (hne : r0 ≠ r1) :
    OMet l Z (⟨"java/lang/String", "equals", "(Ljava/lang/Object;)Z"⟩ : MethodName) jdk_42_method_66_code 3 (some .boolean) ({ frames := 1, cells := 0, slots := 0, locals := 14 } : Room) #[(.ref r0), (.ref r1)] h0 n0 ({ frames := 1, cells := 0, slots := 0, locals := 14 } : Room).cells ({ frames := 1, cells := 0, slots := 0, locals := 14 } : Room).slots (OVal h0 (.int (0 : Int32))) := by
  refine o_body (plainFor_of_name pn_49) hz (fun m => ef_49 m r0 r1) ?_
  intro p e s m below meth c s₁ G0
  refine o_aloadN G0 d49_0 (pc' := 1) rfl rfl rfl ?_
  refine o_aloadN G0 d49_1 (pc' := 2) rfl rfl rfl ?_
  refine o_acmp_ne G0 rfl rfl d49_2 (by decide) (pcT := 7) (by decide) (pc' := 5) rfl (fun _ => ?_) (fun q => absurd q (fun q => hne (Value.ref.inj q)))
  refine o_aloadN G0 d49_7 (pc' := 8) rfl rfl rfl ?_
  refine o_instY G0 (ow hw 16 rfl) (Ins.self E_r1) d49_8 (pc' := 11) rfl ?_
  intro T1 G1
  refine o_if_eq G1 d49_11 (by decide) (pcT := 54) (by decide) (pc' := 14) rfl (fun q => absurd q (by decide)) (fun _ => ?_)
  refine o_aloadN G1 d49_14 (pc' := 15) rfl rfl rfl ?_
  refine o_checkcast G1 (ow hw 16 rfl) (Ins.self E_r1) d49_15 (pc' := 18) rfl ?_
  intro T2 G2
  refine o_astoreN G2 d49_18 (pc' := 19) rfl rfl (l' := #[.val (.ref r0), .val (.ref r1), .val (.ref r1)]) rfl ?_
  refine o_getS G2 (host := "") (Or.inl (ow hw 11 rfl)) Via.refl S d49_19 (pc' := 22) rfl ?_
  intro T3 G3
  refine o_if_eq G3 d49_22 (by decide) (pcT := 36) (by decide) (pc' := 25) rfl (fun q => absurd q hcs) (fun _ => ?_)
  refine o_aloadN G3 d49_25 (pc' := 26) rfl rfl rfl ?_
  refine o_getF G3 (host := "") (Or.inl (ow hw 31 rfl)) Via.refl Fc_r0 d49_26 (pc' := 29) rfl ?_
  intro T4 G4
  refine o_aloadN G4 d49_29 (pc' := 30) rfl rfl rfl ?_
  refine o_getF G4 (host := "") (Or.inl (ow hw 31 rfl)) Via.refl Fc_r1 d49_30 (pc' := 33) rfl ?_
  intro T5 G5
  refine o_icmp_ne G5 d49_33 (by decide) (pcT := 54) (by decide) (pc' := 36) rfl (fun q => absurd (by decide) q) (fun _ => ?_)
  refine o_aloadN G5 d49_36 (pc' := 37) rfl rfl rfl ?_
  refine o_getF G5 (host := "") (Or.inl (ow hw 29 rfl)) Via.refl Fv_r0 d49_37 (pc' := 40) rfl ?_
  intro T6 G6
  refine o_aloadN G6 d49_40 (pc' := 41) rfl rfl rfl ?_
  refine o_getF G6 (host := "") (Or.inl (ow hw 29 rfl)) Via.refl Fv_r1 d49_41 (pc' := 44) rfl ?_
  intro T7 G7
  refine o_callS G7 (z := (⟨"java/lang/StringLatin1", "equals", "([B[B)Z"⟩ : MethodName)) (argsL := [(.ref b), (.ref c1)]) (rest := []) (W := 0) (ow hw 258 rfl) (ow hw 259 rfl) d49_44 (by decide) (ow hw 14 rfl) (ow hw 260 rfl) (rm50_24 hw b c1 h0 n0 G7.sz g A_b k A_c1) (by decide) (by decide) rfl (lenOf pd_27 rfl) rfl (Nat.le_of_eq rfl) (pc' := 47) rfl (by decide) (by decide) ?_
  rintro _ T8 h8 G8 ⟨rfl, hh⟩
  subst hh
  show OFin _ _ _ _ T8 (mkF m 47 #[.val (.ref r0), .val (.ref r1), .val (.ref r1)] [(.int (0 : Int32))])
  refine o_if_eq G8 d49_47 (by decide) (pcT := 54) (by decide) (pc' := 50) rfl (fun _ => ?_) (fun q => absurd (by decide) q)
  refine o_iconst G8 d49_54 (pc' := 55) rfl (v := (0 : Int32)) rfl ?_
  exact o_nreturn (t := .boolean) G8 (by simp) d49_55 ⟨rfl, rfl⟩ (by decide) (by decide)
set_option maxRecDepth 65536 in
set_option maxHeartbeats 40000000 in
theorem rm50_42 {l : Launch} {Z : State} {a0 : Array Value} (hw : ∀ d ∈ tables_1, d.before a0 Z = true) (r0 : Addr) (r1 : Addr) (h0 : Heap) (n0 : Nat) (hz : n0 ≤ h0.size) (g : Nat → Int32) (A_r0 : OArr Z h0 r0 .byte 4 (fun j => .int (own_by (g j)))) (k : Nat → Int32) (A_r1 : OArr Z h0 r1 .byte 2 (fun j => .int (own_by (k j)))) :
    OMet l Z (⟨"java/lang/StringLatin1", "equals", "([B[B)Z"⟩ : MethodName) jdk_43_method_13_code 3 (some .boolean) ({ frames := 0, cells := 0, slots := 0, locals := 0 } : Room) #[(.ref r0), (.ref r1)] h0 n0 ({ frames := 0, cells := 0, slots := 0, locals := 0 } : Room).cells ({ frames := 0, cells := 0, slots := 0, locals := 0 } : Room).slots (OVal h0 (.int (0 : Int32))) := by
  refine o_body (plainFor_of_name pn_50) hz (fun m => ef_50 m r0 r1) ?_
  intro p e s m below meth c s₁ G0
  refine o_aloadN G0 d50_0 (pc' := 1) rfl rfl rfl ?_
  refine o_arraylength G0 A_r0 (v := (4 : Int32)) rfl d50_1 (pc' := 2) rfl ?_
  refine o_aloadN G0 d50_2 (pc' := 3) rfl rfl rfl ?_
  refine o_arraylength G0 A_r1 (v := (2 : Int32)) rfl d50_3 (pc' := 4) rfl ?_
  refine o_icmp_ne G0 d50_4 (by decide) (pcT := 34) (by decide) (pc' := 7) rfl (fun _ => ?_) (fun q => absurd q (by decide))
  refine o_iconst G0 d50_34 (pc' := 35) rfl (v := (0 : Int32)) rfl ?_
  exact o_nreturn (t := .boolean) G0 (by simp) d50_35 ⟨rfl, rfl⟩ (by decide) (by decide)
set_option maxRecDepth 65536 in
set_option maxHeartbeats 40000000 in
theorem rm49_42 {l : Launch} {Z : State} {a0 : Array Value} (hw : ∀ d ∈ tables_1, d.before a0 Z = true) (r0 : Addr) (r1 : Addr) (h0 : Heap) (n0 : Nat) (hz : n0 ≤ h0.size) (cs : Int32) (hcs : ¬ cs = 0) (S : Sta Z h0 "java/lang/String" "COMPACT_STRINGS" "Z" (.int cs)) (b : Addr) (g : Nat → Int32) (E_r0 : Exa Z h0 r0 "java/lang/String") (Fv_r0 : Fld Z h0 r0 "java/lang/String" "value" "[B" (.ref b)) (Fc_r0 : Fld Z h0 r0 "java/lang/String" "coder" "B" (.int (0 : Int32))) (A_b : OArr Z h0 b .byte 4 (fun j => .int (own_by (g j)))) (c1 : Addr) (k : Nat → Int32) (E_r1 : Exa Z h0 r1 "java/lang/String") (Fv_r1 : Fld Z h0 r1 "java/lang/String" "value" "[B" (.ref c1)) (Fc_r1 : Fld Z h0 r1 "java/lang/String" "coder" "B" (.int (0 : Int32))) (A_c1 : OArr Z h0 c1 .byte 2 (fun j => .int (own_by (k j)))) (hne : r0 ≠ r1) :
    OMet l Z (⟨"java/lang/String", "equals", "(Ljava/lang/Object;)Z"⟩ : MethodName) jdk_42_method_66_code 3 (some .boolean) ({ frames := 1, cells := 0, slots := 0, locals := 14 } : Room) #[(.ref r0), (.ref r1)] h0 n0 ({ frames := 1, cells := 0, slots := 0, locals := 14 } : Room).cells ({ frames := 1, cells := 0, slots := 0, locals := 14 } : Room).slots (OVal h0 (.int (0 : Int32))) := by
  refine o_body (plainFor_of_name pn_49) hz (fun m => ef_49 m r0 r1) ?_
  intro p e s m below meth c s₁ G0
  refine o_aloadN G0 d49_0 (pc' := 1) rfl rfl rfl ?_
  refine o_aloadN G0 d49_1 (pc' := 2) rfl rfl rfl ?_
  refine o_acmp_ne G0 rfl rfl d49_2 (by decide) (pcT := 7) (by decide) (pc' := 5) rfl (fun _ => ?_) (fun q => absurd q (fun q => hne (Value.ref.inj q)))
  refine o_aloadN G0 d49_7 (pc' := 8) rfl rfl rfl ?_
  refine o_instY G0 (ow hw 16 rfl) (Ins.self E_r1) d49_8 (pc' := 11) rfl ?_
  intro T1 G1
  refine o_if_eq G1 d49_11 (by decide) (pcT := 54) (by decide) (pc' := 14) rfl (fun q => absurd q (by decide)) (fun _ => ?_)
  refine o_aloadN G1 d49_14 (pc' := 15) rfl rfl rfl ?_
  refine o_checkcast G1 (ow hw 16 rfl) (Ins.self E_r1) d49_15 (pc' := 18) rfl ?_
  intro T2 G2
  refine o_astoreN G2 d49_18 (pc' := 19) rfl rfl (l' := #[.val (.ref r0), .val (.ref r1), .val (.ref r1)]) rfl ?_
  refine o_getS G2 (host := "") (Or.inl (ow hw 11 rfl)) Via.refl S d49_19 (pc' := 22) rfl ?_
  intro T3 G3
  refine o_if_eq G3 d49_22 (by decide) (pcT := 36) (by decide) (pc' := 25) rfl (fun q => absurd q hcs) (fun _ => ?_)
  refine o_aloadN G3 d49_25 (pc' := 26) rfl rfl rfl ?_
  refine o_getF G3 (host := "") (Or.inl (ow hw 31 rfl)) Via.refl Fc_r0 d49_26 (pc' := 29) rfl ?_
  intro T4 G4
  refine o_aloadN G4 d49_29 (pc' := 30) rfl rfl rfl ?_
  refine o_getF G4 (host := "") (Or.inl (ow hw 31 rfl)) Via.refl Fc_r1 d49_30 (pc' := 33) rfl ?_
  intro T5 G5
  refine o_icmp_ne G5 d49_33 (by decide) (pcT := 54) (by decide) (pc' := 36) rfl (fun q => absurd (by decide) q) (fun _ => ?_)
  refine o_aloadN G5 d49_36 (pc' := 37) rfl rfl rfl ?_
  refine o_getF G5 (host := "") (Or.inl (ow hw 29 rfl)) Via.refl Fv_r0 d49_37 (pc' := 40) rfl ?_
  intro T6 G6
  refine o_aloadN G6 d49_40 (pc' := 41) rfl rfl rfl ?_
  refine o_getF G6 (host := "") (Or.inl (ow hw 29 rfl)) Via.refl Fv_r1 d49_41 (pc' := 44) rfl ?_
  intro T7 G7
  refine o_callS G7 (z := (⟨"java/lang/StringLatin1", "equals", "([B[B)Z"⟩ : MethodName)) (argsL := [(.ref b), (.ref c1)]) (rest := []) (W := 0) (ow hw 258 rfl) (ow hw 259 rfl) d49_44 (by decide) (ow hw 14 rfl) (ow hw 260 rfl) (rm50_42 hw b c1 h0 n0 G7.sz g A_b k A_c1) (by decide) (by decide) rfl (lenOf pd_27 rfl) rfl (Nat.le_of_eq rfl) (pc' := 47) rfl (by decide) (by decide) ?_
  rintro _ T8 h8 G8 ⟨rfl, hh⟩
  subst hh
  show OFin _ _ _ _ T8 (mkF m 47 #[.val (.ref r0), .val (.ref r1), .val (.ref r1)] [(.int (0 : Int32))])
  refine o_if_eq G8 d49_47 (by decide) (pcT := 54) (by decide) (pc' := 50) rfl (fun _ => ?_) (fun q => absurd (by decide) q)
  refine o_iconst G8 d49_54 (pc' := 55) rfl (v := (0 : Int32)) rfl ?_
  exact o_nreturn (t := .boolean) G8 (by simp) d49_55 ⟨rfl, rfl⟩ (by decide) (by decide)
set_option maxRecDepth 65536 in
set_option maxHeartbeats 40000000 in
theorem rm49_same {l : Launch} {Z : State} {a0 : Array Value} (hw : ∀ d ∈ tables_1, d.before a0 Z = true) (r0 : Addr) (r1 : Addr) (h0 : Heap) (n0 : Nat) (hz : n0 ≤ h0.size) (heq : r0 = r1) :
    OMet l Z (⟨"java/lang/String", "equals", "(Ljava/lang/Object;)Z"⟩ : MethodName) jdk_42_method_66_code 3 (some .boolean) ({ frames := 1, cells := 0, slots := 0, locals := 14 } : Room) #[(.ref r0), (.ref r1)] h0 n0 ({ frames := 1, cells := 0, slots := 0, locals := 14 } : Room).cells ({ frames := 1, cells := 0, slots := 0, locals := 14 } : Room).slots (OVal h0 (.int 1)) := by
  refine o_body (plainFor_of_name pn_49) hz (fun m => ef_49 m r0 r1) ?_
  intro p e s m below meth c s₁ G0
  refine o_aloadN G0 d49_0 (pc' := 1) rfl rfl rfl ?_
  refine o_aloadN G0 d49_1 (pc' := 2) rfl rfl rfl ?_
  refine o_acmp_ne G0 rfl rfl d49_2 (by decide) (pcT := 7) (by decide) (pc' := 5) rfl (fun q => absurd (congrArg Value.ref heq) q) (fun _ => ?_)
  refine o_iconst G0 d49_5 (pc' := 6) rfl (v := (1 : Int32)) rfl ?_
  exact o_nreturn (t := .boolean) G0 (by simp) d49_6 ⟨rfl, rfl⟩ (by decide) (by decide)
theorem d53_0 : decode jdk_18_method_1_code 0 = .ok (.aload_n 0, 1) := by decide +kernel
theorem d53_1 : decode jdk_18_method_1_code 1 = .ok (.invokespecial 1, 3) := by decide +kernel
theorem d53_4 : decode jdk_18_method_1_code 4 = .ok (.return_, 1) := by decide +kernel
theorem pn_53 : plainName "java/lang/Number" = true := by first | (simp [plainName, overriddenIn]; done) | decide +kernel
theorem ef_53 (m : MethodId) (r0 : Addr) : entryFrame m #[(.ref r0)] 1 = mkF m 0 #[.val (.ref r0)] [] := by first | (simp [entryFrame, mkF, argsToLocals, Value.category]; done) | rfl
set_option maxRecDepth 65536 in
set_option maxHeartbeats 40000000 in
theorem rm53 {l : Launch} {Z : State} {a0 : Array Value} (hw : ∀ d ∈ tables_1, d.before a0 Z = true) (r0 : Addr) (h0 : Heap) (n0 : Nat) (hz : n0 ≤ h0.size) :
    OMet l Z (⟨"java/lang/Number", "<init>", "()V"⟩ : MethodName) jdk_18_method_1_code 1 none ({ frames := 1, cells := 0, slots := 0, locals := 12 } : Room) #[(.ref r0)] h0 n0 ({ frames := 1, cells := 0, slots := 0, locals := 12 } : Room).cells ({ frames := 1, cells := 0, slots := 0, locals := 12 } : Room).slots (fun v h => v = none ∧ h0 = h) := by
  refine o_body (plainFor_of_name pn_53) hz (fun m => ef_53 m r0) ?_
  intro p e s m below meth c s₁ G0
  refine o_aloadN G0 d53_0 (pc' := 1) rfl rfl rfl ?_
  refine o_initO G0 (ow hw 283 rfl) (ow hw 27 rfl) (ow hw 28 rfl) d53_1 (pc' := 4) rfl rfl (by decide) (W := 0) (Nat.le_of_eq rfl) (by decide) ?_
  intro T1 G1
  exact o_return G1 d53_4 ⟨rfl, rfl⟩ (by decide) (by decide)
theorem d52_0 : decode jdk_33_method_23_code 0 = .ok (.aload_n 0, 1) := by decide +kernel
theorem d52_1 : decode jdk_33_method_23_code 1 = .ok (.invokespecial 202, 3) := by decide +kernel
theorem d52_4 : decode jdk_33_method_23_code 4 = .ok (.aload_n 0, 1) := by decide +kernel
theorem d52_5 : decode jdk_33_method_23_code 5 = .ok (.iload_n 1, 1) := by decide +kernel
theorem d52_6 : decode jdk_33_method_23_code 6 = .ok (.putfield 205, 3) := by decide +kernel
theorem d52_9 : decode jdk_33_method_23_code 9 = .ok (.return_, 1) := by decide +kernel
theorem pn_52 : plainName "java/lang/Integer" = true := by first | (simp [plainName, overriddenIn]; done) | decide +kernel
theorem ef_52 (m : MethodId) (r0 : Addr) (p1 : Int32) : entryFrame m #[(.ref r0), (.int p1)] 2 = mkF m 0 #[.val (.ref r0), .val (.int p1)] [] := by first | (simp [entryFrame, mkF, argsToLocals, Value.category]; done) | rfl
set_option maxRecDepth 65536 in
set_option maxHeartbeats 40000000 in
theorem rm52 {l : Launch} {Z : State} {a0 : Array Value} (hw : ∀ d ∈ tables_1, d.before a0 Z = true) (r0 : Addr) (p1 : Int32) (h0 : Heap) (n0 : Nat) (hz : n0 ≤ h0.size) (g_r0 : n0 ≤ r0) (E_r0 : Exa Z h0 r0 "java/lang/Integer") (F_v : Fld Z h0 r0 "java/lang/Integer" "value" "I" (.int (0 : Int32))) :
    OMet l Z (⟨"java/lang/Integer", "<init>", "(I)V"⟩ : MethodName) jdk_33_method_23_code 2 none ({ frames := 2, cells := 0, slots := 0, locals := 24 } : Room) #[(.ref r0), (.int p1)] h0 n0 ({ frames := 2, cells := 0, slots := 0, locals := 24 } : Room).cells ({ frames := 2, cells := 0, slots := 0, locals := 24 } : Room).slots (fun v h => v = none ∧ Keep h0 h [r0]) := by
  refine o_body (plainFor_of_name pn_52) hz (fun m => ef_52 m r0 p1) ?_
  intro p e s m below meth c s₁ G0
  have K : Keep h0 h0 [r0] := Keep.refl _ _
  refine o_aloadN G0 d52_0 (pc' := 1) rfl rfl rfl ?_
  refine o_callI G0 (z := (⟨"java/lang/Number", "<init>", "()V"⟩ : MethodName)) (argsL := []) (rest := []) (W := 0) (a := r0) rfl (ow hw 277 rfl) (ow hw 278 rfl) rfl d52_1 (by decide) (ow hw 281 rfl) (ow hw 282 rfl) (rm53 hw r0 h0 n0 G0.sz) (by decide) (by decide) rfl (lenOf pd_28 rfl) rfl (Nat.le_of_eq rfl) (pc' := 4) rfl (by decide) (by decide) ?_
  rintro _ T1 h1 G1 ⟨rfl, hh⟩
  subst hh
  show OFin _ _ _ _ T1 (mkF m 4 #[.val (.ref r0), .val (.int p1)] [])
  refine o_aloadN G1 d52_4 (pc' := 5) rfl rfl rfl ?_
  refine o_iloadN G1 d52_5 (pc' := 6) rfl rfl ?_
  refine o_putF G1 (host := "") (Or.inl (ow hw 284 rfl)) Via.refl F_v E_r0 (Or.inr ⟨(ow hw 285 rfl), rfl, rfl⟩) (ow hw 272 rfl) (ty := .int) (by decide) rfl rfl g_r0 d52_6 (pc' := 9) rfl ?_
  intro T2 h2 G2 W2
  replace K := K.wr W2 (Or.inl (List.mem_of_getElem? (i := 0) rfl))
  replace E_r0 := E_r0.wr W2
  replace F_v := F_v.same W2
  exact o_return G2 d52_9 ⟨rfl, K⟩ (by decide) (by decide)
theorem d51_0 : decode jdk_33_method_22_code 0 = .ok (.iload_n 0, 1) := by decide +kernel
theorem d51_1 : decode jdk_33_method_22_code 1 = .ok (.bipush (-128), 2) := by decide +kernel
theorem d51_3 : decode jdk_33_method_22_code 3 = .ok (.if_icmp .lt 20, 3) := by decide +kernel
theorem d51_6 : decode jdk_33_method_22_code 6 = .ok (.iload_n 0, 1) := by decide +kernel
theorem d51_7 : decode jdk_33_method_22_code 7 = .ok (.getstatic 191, 3) := by decide +kernel
theorem d51_10 : decode jdk_33_method_22_code 10 = .ok (.if_icmp .gt 13, 3) := by decide +kernel
theorem d51_13 : decode jdk_33_method_22_code 13 = .ok (.getstatic 195, 3) := by decide +kernel
theorem d51_16 : decode jdk_33_method_22_code 16 = .ok (.iload_n 0, 1) := by decide +kernel
theorem d51_17 : decode jdk_33_method_22_code 17 = .ok (.sipush 128, 3) := by decide +kernel
theorem d51_20 : decode jdk_33_method_22_code 20 = .ok (.iadd, 1) := by decide +kernel
theorem d51_21 : decode jdk_33_method_22_code 21 = .ok (.aaload, 1) := by decide +kernel
theorem d51_22 : decode jdk_33_method_22_code 22 = .ok (.areturn, 1) := by decide +kernel
theorem d51_23 : decode jdk_33_method_22_code 23 = .ok (.new 1, 3) := by decide +kernel
theorem d51_26 : decode jdk_33_method_22_code 26 = .ok (.dup, 1) := by decide +kernel
theorem d51_27 : decode jdk_33_method_22_code 27 = .ok (.iload_n 0, 1) := by decide +kernel
theorem d51_28 : decode jdk_33_method_22_code 28 = .ok (.invokespecial 199, 3) := by decide +kernel
theorem d51_31 : decode jdk_33_method_22_code 31 = .ok (.areturn, 1) := by decide +kernel
theorem pn_51 : plainName "java/lang/Integer" = true := by first | (simp [plainName, overriddenIn]; done) | decide +kernel
theorem ef_51 (m : MethodId) (p0 : Int32) : entryFrame m #[(.int p0)] 1 = mkF m 0 #[.val (.int p0)] [] := by first | (simp [entryFrame, mkF, argsToLocals, Value.category]; done) | rfl
set_option maxRecDepth 65536 in
set_option maxHeartbeats 40000000 in
theorem rm51 {l : Launch} {Z : State} {a0 : Array Value} (hw : ∀ d ∈ tables_1, d.before a0 Z = true) (p0 : Int32) (h0 : Heap) (n0 : Nat) (hz : n0 ≤ h0.size) (ca : Addr) (ia : Nat → Addr) (SH : Sta Z h0 "java/lang/Integer$IntegerCache" "high" "I" (.int (127 : Int32))) (SC : Sta Z h0 "java/lang/Integer$IntegerCache" "cache" "[Ljava/lang/Integer;" (.ref ca)) (A_ca : OArr Z h0 ca (.object "java/lang/Integer") 256 (fun j => .ref (ia j))) (hia : ∀ j, j < 256 → Exa Z h0 (ia j) "java/lang/Integer") :
    OMet l Z (⟨"java/lang/Integer", "valueOf", "(I)Ljava/lang/Integer;"⟩ : MethodName) jdk_33_method_22_code 1 (some (.object "java/lang/Integer")) ({ frames := 3, cells := 1, slots := 1, locals := 38 } : Room) #[(.int p0)] h0 n0 ({ frames := 3, cells := 1, slots := 1, locals := 38 } : Room).cells ({ frames := 3, cells := 1, slots := 1, locals := 38 } : Room).slots (fun v h => ∃ a : Addr, v = some (.ref a) ∧ Keep h0 h [] ∧ Exa Z h a "java/lang/Integer") := by
  refine o_body (plainFor_of_name pn_51) hz (fun m => ef_51 m p0) ?_
  intro p e s m below meth c s₁ G0
  have K : Keep h0 h0 [] := Keep.refl _ _
  refine o_iloadN G0 d51_0 (pc' := 1) rfl rfl ?_
  refine o_bipush G0 d51_1 (pc' := 3) rfl (v := (-128 : Int32)) rfl ?_
  refine o_icmp_lt G0 d51_3 (by decide) (pcT := 23) (by decide) (pc' := 6) rfl (fun hc3 => ?_) (fun hc3 => ?_)
  · refine o_new G0 (ow hw 271 rfl) (ow hw 272 rfl) (ow hw 263 rfl) d51_23 (pc' := 26) rfl (by decide) (by decide) ?_
    intro T1 h1 b1 G1 g1 g_b1 E1 A1 D1
    have ne_ca_b1 : ca ≠ b1 := Nat.ne_of_lt (Nat.lt_of_lt_of_eq A_ca.lt g1.symm)
    have sz_b1 : h0.size ≤ b1 := Nat.le_trans K.1 (Nat.le_of_eq g1.symm)
    replace K := K.ext E1
    replace SH := SH.ext E1
    replace SC := SC.ext E1
    replace A_ca := A_ca.ext E1
    have F_value_b1 : Fld Z h1 b1 "java/lang/Integer" "value" "I" (.int (0 : Int32)) := D1 (Or.inr (ow hw 285 rfl)) (ty := .int) (by decide)
    refine o_dup G1 d51_26 (pc' := 27) rfl rfl ?_
    refine o_iloadN G1 d51_27 (pc' := 28) rfl rfl ?_
    refine o_callI G1 (z := (⟨"java/lang/Integer", "<init>", "(I)V"⟩ : MethodName)) (argsL := [(.int p0)]) (rest := [(.ref b1)]) (W := 1) (a := b1) rfl (ow hw 273 rfl) (ow hw 274 rfl) rfl d51_28 (by decide) (ow hw 263 rfl) (ow hw 276 rfl) (rm52 hw b1 p0 h1 n0 G1.sz g_b1 A1 F_value_b1) (by decide) (by decide) rfl (lenOf pd_11 rfl) rfl (Nat.le_of_eq rfl) (pc' := 31) rfl (by decide) (by decide) ?_
    rintro _ T2 h2 G2 ⟨rfl, K2⟩
    replace K := K.trans K2 (allS (Or.inr sz_b1) all0)
    replace A1 := A1.keep K2
    show OFin _ _ _ _ T2 (mkF m 31 #[.val (.int p0)] [(.ref b1)])
    exact o_areturn G2 rfl rfl rfl d51_31 ⟨_, rfl, K, A1⟩ (by decide) (by decide)
  · refine o_iloadN G0 d51_6 (pc' := 7) rfl rfl ?_
    refine o_getS G0 (host := "") (Or.inl (ow hw 265 rfl)) Via.refl SH d51_7 (pc' := 10) rfl ?_
    intro T3 G3
    refine o_icmp_gt G3 d51_10 (by decide) (pcT := 23) (by decide) (pc' := 13) rfl (fun hc10 => ?_) (fun hc10 => ?_)
    · refine o_new G3 (ow hw 271 rfl) (ow hw 272 rfl) (ow hw 263 rfl) d51_23 (pc' := 26) rfl (by decide) (by decide) ?_
      intro T4 h4 b4 G4 g4 g_b4 E4 A4 D4
      have ne_ca_b4 : ca ≠ b4 := Nat.ne_of_lt (Nat.lt_of_lt_of_eq A_ca.lt g4.symm)
      have sz_b4 : h0.size ≤ b4 := Nat.le_trans K.1 (Nat.le_of_eq g4.symm)
      replace K := K.ext E4
      replace SH := SH.ext E4
      replace SC := SC.ext E4
      replace A_ca := A_ca.ext E4
      have F_value_b4 : Fld Z h4 b4 "java/lang/Integer" "value" "I" (.int (0 : Int32)) := D4 (Or.inr (ow hw 285 rfl)) (ty := .int) (by decide)
      refine o_dup G4 d51_26 (pc' := 27) rfl rfl ?_
      refine o_iloadN G4 d51_27 (pc' := 28) rfl rfl ?_
      refine o_callI G4 (z := (⟨"java/lang/Integer", "<init>", "(I)V"⟩ : MethodName)) (argsL := [(.int p0)]) (rest := [(.ref b4)]) (W := 1) (a := b4) rfl (ow hw 273 rfl) (ow hw 274 rfl) rfl d51_28 (by decide) (ow hw 263 rfl) (ow hw 276 rfl) (rm52 hw b4 p0 h4 n0 G4.sz g_b4 A4 F_value_b4) (by decide) (by decide) rfl (lenOf pd_11 rfl) rfl (Nat.le_of_eq rfl) (pc' := 31) rfl (by decide) (by decide) ?_
      rintro _ T5 h5 G5 ⟨rfl, K5⟩
      replace K := K.trans K5 (allS (Or.inr sz_b4) all0)
      replace A4 := A4.keep K5
      show OFin _ _ _ _ T5 (mkF m 31 #[.val (.int p0)] [(.ref b4)])
      exact o_areturn G5 rfl rfl rfl d51_31 ⟨_, rfl, K, A4⟩ (by decide) (by decide)
    · refine o_getS G3 (host := "") (Or.inl (ow hw 267 rfl)) Via.refl SC d51_13 (pc' := 16) rfl ?_
      intro T6 G6
      refine o_iloadN G6 d51_16 (pc' := 17) rfl rfl ?_
      refine o_sipush G6 d51_17 (pc' := 20) rfl (v := (128 : Int32)) rfl ?_
      obtain ⟨v7, e7⟩ : ∃ z, p0 + (128 : Int32) = z := ⟨_, rfl⟩
      refine o_iadd G6 d51_20 (pc' := 21) rfl e7 ?_
      have hz1 : (127 : Int32).toInt = 127 := rfl
      have hz2 : (-128 : Int32).toInt = -128 := rfl
      have hz3 : (128 : Int32).toInt = 128 := rfl
      have hv1 : -128 ≤ p0.toInt := by
        have := hc3; rw [Int32.lt_iff_toInt_lt] at this; omega
      have hv2 : p0.toInt ≤ 127 := by
        have := hc10; rw [Int32.lt_iff_toInt_lt] at this; omega
      have hv3 : v7.toInt = p0.toInt + 128 := by
        rw [← e7, o_i32 (by omega) (by omega), hz3]
      have hv4 := o_idx (j := v7) (n := 256) (by omega) (by omega)
      refine o_aaload G6 rfl A_ca (i := v7.toNatClampNeg) hv4.1 hv4.2 (v := (.ref (ia v7.toNatClampNeg))) rfl d51_21 (pc' := 22) rfl ?_
      exact o_areturn G6 rfl rfl rfl d51_22 ⟨_, rfl, K, hia _ hv4.2⟩ (by decide) (by decide)
def own_and4 (r1 r2 r3 r4 : Int32) : Int32 := if r1 = 0 then 0 else (if r2 = 0 then 0 else (if r3 = 0 then 0 else (if r4 = 0 then 0 else 1)))
theorem d48_0 : decode prog_1_method_7_code 0 = .ok (.aload_n 1, 1) := by decide +kernel
theorem d48_1 : decode prog_1_method_7_code 1 = .ok (.instanceof 49, 3) := by decide +kernel
theorem d48_4 : decode prog_1_method_7_code 4 = .ok (.ifCond .eq 68, 3) := by decide +kernel
theorem d48_7 : decode prog_1_method_7_code 7 = .ok (.aload_n 1, 1) := by decide +kernel
theorem d48_8 : decode prog_1_method_7_code 8 = .ok (.checkcast 49, 3) := by decide +kernel
theorem d48_11 : decode prog_1_method_7_code 11 = .ok (.astore_n 2, 1) := by decide +kernel
theorem d48_12 : decode prog_1_method_7_code 12 = .ok (.aload_n 0, 1) := by decide +kernel
theorem d48_13 : decode prog_1_method_7_code 13 = .ok (.getfield 48, 3) := by decide +kernel
theorem d48_16 : decode prog_1_method_7_code 16 = .ok (.aload_n 2, 1) := by decide +kernel
theorem d48_17 : decode prog_1_method_7_code 17 = .ok (.getfield 48, 3) := by decide +kernel
theorem d48_20 : decode prog_1_method_7_code 20 = .ok (.invokevirtual 81, 3) := by decide +kernel
theorem d48_23 : decode prog_1_method_7_code 23 = .ok (.ifCond .eq 49, 3) := by decide +kernel
theorem d48_26 : decode prog_1_method_7_code 26 = .ok (.aload_n 0, 1) := by decide +kernel
theorem d48_27 : decode prog_1_method_7_code 27 = .ok (.getfield 55, 3) := by decide +kernel
theorem d48_30 : decode prog_1_method_7_code 30 = .ok (.aload_n 2, 1) := by decide +kernel
theorem d48_31 : decode prog_1_method_7_code 31 = .ok (.getfield 55, 3) := by decide +kernel
theorem d48_34 : decode prog_1_method_7_code 34 = .ok (.invokevirtual 81, 3) := by decide +kernel
theorem d48_37 : decode prog_1_method_7_code 37 = .ok (.ifCond .eq 35, 3) := by decide +kernel
theorem d48_40 : decode prog_1_method_7_code 40 = .ok (.aload_n 0, 1) := by decide +kernel
theorem d48_41 : decode prog_1_method_7_code 41 = .ok (.getfield 57, 3) := by decide +kernel
theorem d48_44 : decode prog_1_method_7_code 44 = .ok (.aload_n 2, 1) := by decide +kernel
theorem d48_45 : decode prog_1_method_7_code 45 = .ok (.getfield 57, 3) := by decide +kernel
theorem d48_48 : decode prog_1_method_7_code 48 = .ok (.invokevirtual 81, 3) := by decide +kernel
theorem d48_51 : decode prog_1_method_7_code 51 = .ok (.ifCond .eq 21, 3) := by decide +kernel
theorem d48_54 : decode prog_1_method_7_code 54 = .ok (.aload_n 0, 1) := by decide +kernel
theorem d48_55 : decode prog_1_method_7_code 55 = .ok (.getfield 60, 3) := by decide +kernel
theorem d48_58 : decode prog_1_method_7_code 58 = .ok (.aload_n 2, 1) := by decide +kernel
theorem d48_59 : decode prog_1_method_7_code 59 = .ok (.getfield 60, 3) := by decide +kernel
theorem d48_62 : decode prog_1_method_7_code 62 = .ok (.invokevirtual 81, 3) := by decide +kernel
theorem d48_65 : decode prog_1_method_7_code 65 = .ok (.ifCond .eq 7, 3) := by decide +kernel
theorem d48_68 : decode prog_1_method_7_code 68 = .ok (.iconst 1, 1) := by decide +kernel
theorem d48_69 : decode prog_1_method_7_code 69 = .ok (.goto 4, 3) := by decide +kernel
theorem d48_72 : decode prog_1_method_7_code 72 = .ok (.iconst 0, 1) := by decide +kernel
theorem d48_73 : decode prog_1_method_7_code 73 = .ok (.ireturn, 1) := by decide +kernel
theorem pn_48 : plainName "com/example/ronda/ronda/engine/ApiVersion" = true := by first | (simp [plainName, overriddenIn]; done) | decide +kernel
theorem ef_48 (m : MethodId) (r0 : Addr) (r1 : Addr) : entryFrame m #[(.ref r0), (.ref r1)] 3 = mkF m 0 #[.val (.ref r0), .val (.ref r1), .unset] [] := by first | (simp [entryFrame, mkF, argsToLocals, Value.category]; done) | rfl
set_option maxRecDepth 65536 in
set_option maxHeartbeats 40000000 in
theorem rm48_o {l : Launch} {Z : State} {a0 : Array Value} (hw : ∀ d ∈ tables_1, d.before a0 Z = true) (r0 : Addr) (r1 : Addr) (h0 : Heap) (n0 : Nat) (hz : n0 ≤ h0.size) (E_r0 : Exa Z h0 r0 "com/example/ronda/ronda/engine/ApiVersion") (E_r1 : Exa Z h0 r1 "com/example/ronda/ronda/engine/ApiVersion") (u0 u1 u2 u3 t0 t1 t2 t3 : Addr) (Fu_0 : Fld Z h0 r0 "com/example/ronda/ronda/engine/ApiVersion" "name" "Ljava/lang/String;" (.ref u0)) (Eu_0 : Exa Z h0 u0 "java/lang/String") (Fu_1 : Fld Z h0 r0 "com/example/ronda/ronda/engine/ApiVersion" "version" "Ljava/lang/String;" (.ref u1)) (Eu_1 : Exa Z h0 u1 "java/lang/String") (Fu_2 : Fld Z h0 r0 "com/example/ronda/ronda/engine/ApiVersion" "servicePath" "Ljava/lang/String;" (.ref u2)) (Eu_2 : Exa Z h0 u2 "java/lang/String") (Fu_3 : Fld Z h0 r0 "com/example/ronda/ronda/engine/ApiVersion" "stopPath" "Ljava/lang/String;" (.ref u3)) (Eu_3 : Exa Z h0 u3 "java/lang/String") (Ft_0 : Fld Z h0 r1 "com/example/ronda/ronda/engine/ApiVersion" "name" "Ljava/lang/String;" (.ref t0)) (Et_0 : Exa Z h0 t0 "java/lang/String") (Ft_1 : Fld Z h0 r1 "com/example/ronda/ronda/engine/ApiVersion" "version" "Ljava/lang/String;" (.ref t1)) (Et_1 : Exa Z h0 t1 "java/lang/String") (Ft_2 : Fld Z h0 r1 "com/example/ronda/ronda/engine/ApiVersion" "servicePath" "Ljava/lang/String;" (.ref t2)) (Et_2 : Exa Z h0 t2 "java/lang/String") (Ft_3 : Fld Z h0 r1 "com/example/ronda/ronda/engine/ApiVersion" "stopPath" "Ljava/lang/String;" (.ref t3)) (Et_3 : Exa Z h0 t3 "java/lang/String") (z0 : Int32) (H0 : OMet l Z (⟨"java/lang/String", "equals", "(Ljava/lang/Object;)Z"⟩ : MethodName) jdk_42_method_66_code 3 (some .boolean) ({ frames := 1, cells := 0, slots := 0, locals := 14 } : Room) #[.ref u0, .ref t0] h0 n0 ({ frames := 1, cells := 0, slots := 0, locals := 14 } : Room).cells ({ frames := 1, cells := 0, slots := 0, locals := 14 } : Room).slots (OVal h0 (.int z0))) (z1 : Int32) (H1 : OMet l Z (⟨"java/lang/String", "equals", "(Ljava/lang/Object;)Z"⟩ : MethodName) jdk_42_method_66_code 3 (some .boolean) ({ frames := 1, cells := 0, slots := 0, locals := 14 } : Room) #[.ref u1, .ref t1] h0 n0 ({ frames := 1, cells := 0, slots := 0, locals := 14 } : Room).cells ({ frames := 1, cells := 0, slots := 0, locals := 14 } : Room).slots (OVal h0 (.int z1))) (z2 : Int32) (H2 : OMet l Z (⟨"java/lang/String", "equals", "(Ljava/lang/Object;)Z"⟩ : MethodName) jdk_42_method_66_code 3 (some .boolean) ({ frames := 1, cells := 0, slots := 0, locals := 14 } : Room) #[.ref u2, .ref t2] h0 n0 ({ frames := 1, cells := 0, slots := 0, locals := 14 } : Room).cells ({ frames := 1, cells := 0, slots := 0, locals := 14 } : Room).slots (OVal h0 (.int z2))) (z3 : Int32) (H3 : OMet l Z (⟨"java/lang/String", "equals", "(Ljava/lang/Object;)Z"⟩ : MethodName) jdk_42_method_66_code 3 (some .boolean) ({ frames := 1, cells := 0, slots := 0, locals := 14 } : Room) #[.ref u3, .ref t3] h0 n0 ({ frames := 1, cells := 0, slots := 0, locals := 14 } : Room).cells ({ frames := 1, cells := 0, slots := 0, locals := 14 } : Room).slots (OVal h0 (.int z3))) :
    OMet l Z (⟨"com/example/ronda/ronda/engine/ApiVersion", "equals", "(Ljava/lang/Object;)Z"⟩ : MethodName) prog_1_method_7_code 3 (some .boolean) ({ frames := 2, cells := 0, slots := 0, locals := 28 } : Room) #[(.ref r0), (.ref r1)] h0 n0 ({ frames := 2, cells := 0, slots := 0, locals := 28 } : Room).cells ({ frames := 2, cells := 0, slots := 0, locals := 28 } : Room).slots (OVal h0 (.int (own_and4 z0 z1 z2 z3))) := by
  refine o_body (plainFor_of_name pn_48) hz (fun m => ef_48 m r0 r1) ?_
  intro p e s m below meth c s₁ G0
  refine o_aloadN G0 d48_0 (pc' := 1) rfl rfl rfl ?_
  refine o_instY G0 (ow hw 251 rfl) (Ins.self E_r1) d48_1 (pc' := 4) rfl ?_
  intro T1 G1
  refine o_if_eq G1 d48_4 (by decide) (pcT := 72) (by decide) (pc' := 7) rfl (fun q => absurd q (by decide)) (fun _ => ?_)
  refine o_aloadN G1 d48_7 (pc' := 8) rfl rfl rfl ?_
  refine o_checkcast G1 (ow hw 251 rfl) (Ins.self E_r1) d48_8 (pc' := 11) rfl ?_
  intro T2 G2
  refine o_astoreN G2 d48_11 (pc' := 12) rfl rfl (l' := #[.val (.ref r0), .val (.ref r1), .val (.ref r1)]) rfl ?_
  refine o_aloadN G2 d48_12 (pc' := 13) rfl rfl rfl ?_
  refine o_getF G2 (host := "") (Or.inl (ow hw 101 rfl)) Via.refl Fu_0 d48_13 (pc' := 16) rfl ?_
  intro T3 G3
  refine o_aloadN G3 d48_16 (pc' := 17) rfl rfl rfl ?_
  refine o_getF G3 (host := "") (Or.inl (ow hw 101 rfl)) Via.refl Ft_0 d48_17 (pc' := 20) rfl ?_
  intro T4 G4
  refine o_callV G4 (z := (⟨"java/lang/String", "equals", "(Ljava/lang/Object;)Z"⟩ : MethodName)) (argsL := [(.ref t0)]) (rest := []) (W := 0) Eu_0 (ow hw 253 rfl) (ow hw 255 rfl) (ow hw 254 rfl) (ow hw 256 rfl) d48_20 (by decide) (ow hw 9 rfl) (ow hw 257 rfl) (H0) (by decide) (by decide) rfl (lenOf pd_29 rfl) rfl (Nat.le_of_eq rfl) (pc' := 23) rfl (by decide) (by decide) ?_
  rintro _ T5 h5 G5 ⟨rfl, hh⟩
  subst hh
  show OFin _ _ _ _ T5 (mkF m 23 #[.val (.ref r0), .val (.ref r1), .val (.ref r1)] [(.int z0)])
  refine o_if_eq G5 d48_23 (by decide) (pcT := 72) (by decide) (pc' := 26) rfl (fun hc23 => ?_) (fun hc23 => ?_)
  · refine o_iconst G5 d48_72 (pc' := 73) rfl (v := (0 : Int32)) rfl ?_
    have hq : (0 : Int32) = own_and4 z0 z1 z2 z3 := by
      rw [own_and4, if_pos hc23]
    exact o_nreturn (t := .boolean) G5 (by simp) d48_73 ⟨by rw [← hq]; rfl, rfl⟩ (by decide) (by decide)
  · refine o_aloadN G5 d48_26 (pc' := 27) rfl rfl rfl ?_
    refine o_getF G5 (host := "") (Or.inl (ow hw 104 rfl)) Via.refl Fu_1 d48_27 (pc' := 30) rfl ?_
    intro T6 G6
    refine o_aloadN G6 d48_30 (pc' := 31) rfl rfl rfl ?_
    refine o_getF G6 (host := "") (Or.inl (ow hw 104 rfl)) Via.refl Ft_1 d48_31 (pc' := 34) rfl ?_
    intro T7 G7
    refine o_callV G7 (z := (⟨"java/lang/String", "equals", "(Ljava/lang/Object;)Z"⟩ : MethodName)) (argsL := [(.ref t1)]) (rest := []) (W := 0) Eu_1 (ow hw 253 rfl) (ow hw 255 rfl) (ow hw 254 rfl) (ow hw 256 rfl) d48_34 (by decide) (ow hw 9 rfl) (ow hw 257 rfl) (H1) (by decide) (by decide) rfl (lenOf pd_29 rfl) rfl (Nat.le_of_eq rfl) (pc' := 37) rfl (by decide) (by decide) ?_
    rintro _ T8 h8 G8 ⟨rfl, hh⟩
    subst hh
    show OFin _ _ _ _ T8 (mkF m 37 #[.val (.ref r0), .val (.ref r1), .val (.ref r1)] [(.int z1)])
    refine o_if_eq G8 d48_37 (by decide) (pcT := 72) (by decide) (pc' := 40) rfl (fun hc37 => ?_) (fun hc37 => ?_)
    · refine o_iconst G8 d48_72 (pc' := 73) rfl (v := (0 : Int32)) rfl ?_
      have hq : (0 : Int32) = own_and4 z0 z1 z2 z3 := by
        rw [own_and4, if_neg hc23, if_pos hc37]
      exact o_nreturn (t := .boolean) G8 (by simp) d48_73 ⟨by rw [← hq]; rfl, rfl⟩ (by decide) (by decide)
    · refine o_aloadN G8 d48_40 (pc' := 41) rfl rfl rfl ?_
      refine o_getF G8 (host := "") (Or.inl (ow hw 106 rfl)) Via.refl Fu_2 d48_41 (pc' := 44) rfl ?_
      intro T9 G9
      refine o_aloadN G9 d48_44 (pc' := 45) rfl rfl rfl ?_
      refine o_getF G9 (host := "") (Or.inl (ow hw 106 rfl)) Via.refl Ft_2 d48_45 (pc' := 48) rfl ?_
      intro T10 G10
      refine o_callV G10 (z := (⟨"java/lang/String", "equals", "(Ljava/lang/Object;)Z"⟩ : MethodName)) (argsL := [(.ref t2)]) (rest := []) (W := 0) Eu_2 (ow hw 253 rfl) (ow hw 255 rfl) (ow hw 254 rfl) (ow hw 256 rfl) d48_48 (by decide) (ow hw 9 rfl) (ow hw 257 rfl) (H2) (by decide) (by decide) rfl (lenOf pd_29 rfl) rfl (Nat.le_of_eq rfl) (pc' := 51) rfl (by decide) (by decide) ?_
      rintro _ T11 h11 G11 ⟨rfl, hh⟩
      subst hh
      show OFin _ _ _ _ T11 (mkF m 51 #[.val (.ref r0), .val (.ref r1), .val (.ref r1)] [(.int z2)])
      refine o_if_eq G11 d48_51 (by decide) (pcT := 72) (by decide) (pc' := 54) rfl (fun hc51 => ?_) (fun hc51 => ?_)
      · refine o_iconst G11 d48_72 (pc' := 73) rfl (v := (0 : Int32)) rfl ?_
        have hq : (0 : Int32) = own_and4 z0 z1 z2 z3 := by
          rw [own_and4, if_neg hc23, if_neg hc37, if_pos hc51]
        exact o_nreturn (t := .boolean) G11 (by simp) d48_73 ⟨by rw [← hq]; rfl, rfl⟩ (by decide) (by decide)
      · refine o_aloadN G11 d48_54 (pc' := 55) rfl rfl rfl ?_
        refine o_getF G11 (host := "") (Or.inl (ow hw 108 rfl)) Via.refl Fu_3 d48_55 (pc' := 58) rfl ?_
        intro T12 G12
        refine o_aloadN G12 d48_58 (pc' := 59) rfl rfl rfl ?_
        refine o_getF G12 (host := "") (Or.inl (ow hw 108 rfl)) Via.refl Ft_3 d48_59 (pc' := 62) rfl ?_
        intro T13 G13
        refine o_callV G13 (z := (⟨"java/lang/String", "equals", "(Ljava/lang/Object;)Z"⟩ : MethodName)) (argsL := [(.ref t3)]) (rest := []) (W := 0) Eu_3 (ow hw 253 rfl) (ow hw 255 rfl) (ow hw 254 rfl) (ow hw 256 rfl) d48_62 (by decide) (ow hw 9 rfl) (ow hw 257 rfl) (H3) (by decide) (by decide) rfl (lenOf pd_29 rfl) rfl (Nat.le_of_eq rfl) (pc' := 65) rfl (by decide) (by decide) ?_
        rintro _ T14 h14 G14 ⟨rfl, hh⟩
        subst hh
        show OFin _ _ _ _ T14 (mkF m 65 #[.val (.ref r0), .val (.ref r1), .val (.ref r1)] [(.int z3)])
        refine o_if_eq G14 d48_65 (by decide) (pcT := 72) (by decide) (pc' := 68) rfl (fun hc65 => ?_) (fun hc65 => ?_)
        · refine o_iconst G14 d48_72 (pc' := 73) rfl (v := (0 : Int32)) rfl ?_
          have hq : (0 : Int32) = own_and4 z0 z1 z2 z3 := by
            rw [own_and4, if_neg hc23, if_neg hc37, if_neg hc51, if_pos hc65]
          exact o_nreturn (t := .boolean) G14 (by simp) d48_73 ⟨by rw [← hq]; rfl, rfl⟩ (by decide) (by decide)
        · refine o_iconst G14 d48_68 (pc' := 69) rfl (v := (1 : Int32)) rfl ?_
          refine o_goto G14 d48_69 (by decide) (pc' := 73) rfl ?_
          have hq : (1 : Int32) = own_and4 z0 z1 z2 z3 := by
            rw [own_and4, if_neg hc23, if_neg hc37, if_neg hc51, if_neg hc65]
          exact o_nreturn (t := .boolean) G14 (by simp) d48_73 ⟨by rw [← hq]; rfl, rfl⟩ (by decide) (by decide)
theorem own_notapi {Z : State} {a0 : Array Value} (w1 : (Jvm.Cond.superclass "java/lang/Integer" "java/lang/Number").before a0 Z = true) (w2 : (Jvm.Cond.superclass "java/lang/Number" "java/lang/Object").before a0 Z = true) (w3 : (Jvm.Cond.noSuperclass "java/lang/Object").before a0 Z = true) {kk : Nat} (w4 : (Jvm.Cond.instantiable "com/example/ronda/ronda/engine/ApiVersion" kk).before a0 Z = true) :
    ∃ c t, Z.vm.findClass "java/lang/Integer" = some c ∧ Z.vm.findClass "com/example/ronda/ronda/engine/ApiVersion" = some t ∧ Z.vm.assignable c t = false := by
  obtain ⟨t, kt, i1, i2, i3, i4, -⟩ := Cond.instantiable_spec w4
  have r : NS Z "java/lang/Object" "com/example/ronda/ronda/engine/ApiVersion" := by
    obtain ⟨o, ho⟩ : ∃ o, Z.vm.findClass "java/lang/Object" = some o := by
      cases q : Z.vm.findClass "java/lang/Object" with
      | none => simp [Cond.before, Cond.holds, Cond.value, q] at w3
      | some o => exact ⟨o, rfl⟩
    obtain ⟨ko, hk, -⟩ := Vm.findClass_spec ho
    have hs : ko.super = none := by
      simp only [Cond.before, Cond.holds, Cond.value, ho, hk, Option.bind_some, Option.map_some] at w3
      simp at w3
      exact w3.1.1
    refine ⟨o, t, ho, i1, fun fuel => ?_⟩
    have ne := ids_ne ho i1 (by decide)
    cases fuel with
    | zero => rfl
    | succ n => simp [Vm.isSubclassAux, ne, hk, hs]
  obtain ⟨c, t', h0, g0, n3⟩ := NS.step w1 (NS.step w2 r (by decide)) (by decide)
  cases g0.symm.trans i1
  obtain ⟨p, k, kp, h1, h2, h3, h4, h5, -, h7⟩ := Cond.superclass_spec h0 w1
  have ne := ids_ne h0 i1 (by decide)
  refine ⟨c, t, h0, i1, ?_⟩
  have hni : kt.isInterface = false := (Bool.or_eq_false_iff.mp i4).1
  show Z.vm.assignableAux (255 + 1) c t = false
  simp [Vm.assignableAux, ne, h2, i2, h5, i3, hni, Vm.isSubclass, n3]
set_option maxRecDepth 65536 in
set_option maxHeartbeats 40000000 in
theorem rm48_i {l : Launch} {Z : State} {a0 : Array Value} (hw : ∀ d ∈ tables_1, d.before a0 Z = true) (r0 : Addr) (r1 : Addr) (h0 : Heap) (n0 : Nat) (hz : n0 ≤ h0.size) (E_r1 : Exa Z h0 r1 "java/lang/Integer") :
    OMet l Z (⟨"com/example/ronda/ronda/engine/ApiVersion", "equals", "(Ljava/lang/Object;)Z"⟩ : MethodName) prog_1_method_7_code 3 (some .boolean) ({ frames := 2, cells := 0, slots := 0, locals := 28 } : Room) #[(.ref r0), (.ref r1)] h0 n0 ({ frames := 2, cells := 0, slots := 0, locals := 28 } : Room).cells ({ frames := 2, cells := 0, slots := 0, locals := 28 } : Room).slots (OVal h0 (.int 0)) := by
  refine o_body (plainFor_of_name pn_48) hz (fun m => ef_48 m r0 r1) ?_
  intro p e s m below meth c s₁ G0
  refine o_aloadN G0 d48_0 (pc' := 1) rfl rfl rfl ?_
  refine o_instNo G0 (ow hw 251 rfl) E_r1 (own_notapi (ow hw 268 rfl) (ow hw 269 rfl) (ow hw 270 rfl) (ow hw 52 rfl)) d48_1 (pc' := 4) rfl ?_
  intro T1 G1
  refine o_if_eq G1 d48_4 (by decide) (pcT := 72) (by decide) (pc' := 7) rfl (fun _ => ?_) (fun q => absurd (by decide) q)
  refine o_iconst G1 d48_72 (pc' := 73) rfl (v := (0 : Int32)) rfl ?_
  exact o_nreturn (t := .boolean) G1 (by simp) d48_73 ⟨rfl, rfl⟩ (by decide) (by decide)
set_option maxRecDepth 65536 in
set_option maxHeartbeats 40000000 in
theorem rm48_z {l : Launch} {Z : State} {a0 : Array Value} (hw : ∀ d ∈ tables_1, d.before a0 Z = true) (r0 : Addr) (h0 : Heap) (n0 : Nat) (hz : n0 ≤ h0.size) :
    OMet l Z (⟨"com/example/ronda/ronda/engine/ApiVersion", "equals", "(Ljava/lang/Object;)Z"⟩ : MethodName) prog_1_method_7_code 3 (some .boolean) ({ frames := 2, cells := 0, slots := 0, locals := 28 } : Room) #[(.ref r0), .null] h0 n0 ({ frames := 2, cells := 0, slots := 0, locals := 28 } : Room).cells ({ frames := 2, cells := 0, slots := 0, locals := 28 } : Room).slots (OVal h0 (.int 0)) := by
  refine o_body (plainFor_of_name pn_48) hz (Ls := #[.val (.ref r0), .val .null, .unset]) (fun m => by first | (simp [entryFrame, mkF, argsToLocals, Value.category]; done) | rfl) ?_
  intro p e s m below meth c s₁ G0
  refine o_aloadN G0 d48_0 (pc' := 1) rfl rfl rfl ?_
  refine o_instNull G0 d48_1 (pc' := 4) rfl ?_
  refine o_if_eq G0 d48_4 (by decide) (pcT := 72) (by decide) (pc' := 7) rfl (fun _ => ?_) (fun q => absurd (by decide) q)
  refine o_iconst G0 d48_72 (pc' := 73) rfl (v := (0 : Int32)) rfl ?_
  exact o_nreturn (t := .boolean) G0 (by simp) d48_73 ⟨rfl, rfl⟩ (by decide) (by decide)
def own_EL : List (String × Nat) := [("com/example/ronda/ronda/engine/ApiVersion", 13), ("com/example/ronda/ronda/engine/ApiVersionEqualsPinLaw", 34)]
theorem own_EW {Z : State} {a0 : Array Value} (hw : ∀ d ∈ tables_1, d.before a0 Z = true) : EW Z a0 own_EL := EW.cons (ow hw 63 rfl) (by decide) (EW.cons (ow hw 286 rfl) (by decide) EW.nil)
theorem own_wS {Z : State} {a0 : Array Value} (hw : ∀ d ∈ tables_1, d.before a0 Z = true) : ∀ a ∈ Bundle.stringAtoms, a.before a0 Z = true := by
  intro a ha
  simp only [Bundle.stringAtoms, List.mem_cons, List.not_mem_nil, or_false] at ha
  rcases ha with rfl | rfl | rfl | rfl | rfl | rfl | rfl
  · exact (ow hw 9 rfl)
  · exact (ow hw 17 rfl)
  · exact (ow hw 21 rfl)
  · exact (ow hw 30 rfl)
  · exact (ow hw 32 rfl)
  · exact (ow hw 64 rfl)
  · exact (ow hw 65 rfl)
theorem d22_0 : decode prog_1_method_6_code 0 = .ok (.new 24, 3) := by decide +kernel
theorem d22_3 : decode prog_1_method_6_code 3 = .ok (.dup, 1) := by decide +kernel
theorem d22_4 : decode prog_1_method_6_code 4 = .ok (.invokespecial 26, 3) := by decide +kernel
theorem d22_7 : decode prog_1_method_6_code 7 = .ok (.ldc 13, 2) := by decide +kernel
theorem d22_9 : decode prog_1_method_6_code 9 = .ok (.invokevirtual 29, 3) := by decide +kernel
theorem d22_12 : decode prog_1_method_6_code 12 = .ok (.aload_n 0, 1) := by decide +kernel
theorem d22_13 : decode prog_1_method_6_code 13 = .ok (.getfield 57, 3) := by decide +kernel
theorem d22_16 : decode prog_1_method_6_code 16 = .ok (.invokevirtual 29, 3) := by decide +kernel
theorem d22_19 : decode prog_1_method_6_code 19 = .ok (.invokevirtual 33, 3) := by decide +kernel
theorem d22_22 : decode prog_1_method_6_code 22 = .ok (.astore_n 2, 1) := by decide +kernel
theorem d22_23 : decode prog_1_method_6_code 23 = .ok (.aload_n 1, 1) := by decide +kernel
theorem d22_24 : decode prog_1_method_6_code 24 = .ok (.aload_n 2, 1) := by decide +kernel
theorem d22_25 : decode prog_1_method_6_code 25 = .ok (.invokevirtual 15, 3) := by decide +kernel
theorem d22_28 : decode prog_1_method_6_code 28 = .ok (.ifCond .eq 14, 3) := by decide +kernel
theorem d22_31 : decode prog_1_method_6_code 31 = .ok (.aload_n 1, 1) := by decide +kernel
theorem d22_32 : decode prog_1_method_6_code 32 = .ok (.invokevirtual 67, 3) := by decide +kernel
theorem d22_35 : decode prog_1_method_6_code 35 = .ok (.aload_n 2, 1) := by decide +kernel
theorem d22_36 : decode prog_1_method_6_code 36 = .ok (.invokevirtual 67, 3) := by decide +kernel
theorem d22_39 : decode prog_1_method_6_code 39 = .ok (.if_icmp .ne 61, 3) := by decide +kernel
theorem d22_100 : decode prog_1_method_6_code 100 = .ok (.aload_n 1, 1) := by decide +kernel
theorem d22_101 : decode prog_1_method_6_code 101 = .ok (.aload_n 2, 1) := by decide +kernel
theorem d22_102 : decode prog_1_method_6_code 102 = .ok (.invokevirtual 67, 3) := by decide +kernel
theorem d22_105 : decode prog_1_method_6_code 105 = .ok (.invokevirtual 77, 3) := by decide +kernel
theorem d22_108 : decode prog_1_method_6_code 108 = .ok (.areturn, 1) := by decide +kernel
theorem pn_22 : plainName "com/example/ronda/ronda/engine/ApiVersion" = true := by first | (simp [plainName, overriddenIn]; done) | decide +kernel
theorem ef_22 (m : MethodId) (r0 : Addr) (r1 : Addr) : entryFrame m #[(.ref r0), (.ref r1)] 3 = mkF m 0 #[.val (.ref r0), .val (.ref r1), .unset] [] := by first | (simp [entryFrame, mkF, argsToLocals, Value.category]; done) | rfl
set_option maxRecDepth 65536 in
set_option maxHeartbeats 40000000 in
theorem rm22_0 {l : Launch} {Z : State} {a0 : Array Value} (hw : ∀ d ∈ tables_1, d.before a0 Z = true) (r0 : Addr) (r1 : Addr) (h0 : Heap) (n0 : Nat) (hz : n0 ≤ h0.size) (cs : Int32) (hcs : ¬ cs = 0) (S : Sta Z h0 "java/lang/String" "COMPACT_STRINGS" "Z" (.int cs)) (fm : Value) (hfm : fm.isRef = true) (SF : Sta Z h0 "jdk/internal/util/Preconditions" "SIOOBE_FORMATTER" "Ljava/util/function/BiFunction;" fm) (E_r0 : Exa Z h0 r0 "com/example/ronda/ronda/engine/ApiVersion") (sp : Addr) (F_sp : Fld Z h0 r0 "com/example/ronda/ronda/engine/ApiVersion" "servicePath" "Ljava/lang/String;" (.ref sp)) (c1 : Addr) (k : Nat → Int32) (E_sp : Exa Z h0 sp "java/lang/String") (Fv_sp : Fld Z h0 sp "java/lang/String" "value" "[B" (.ref c1)) (Fc_sp : Fld Z h0 sp "java/lang/String" "coder" "B" (.int (0 : Int32))) (A_c1 : OArr Z h0 c1 .byte 0 (fun j => .int (own_by (k j)))) (b : Addr) (g : Nat → Int32) (E_r1 : Exa Z h0 r1 "java/lang/String") (Fv_r1 : Fld Z h0 r1 "java/lang/String" "value" "[B" (.ref b)) (Fc_r1 : Fld Z h0 r1 "java/lang/String" "coder" "B" (.int (0 : Int32))) (A_b : OArr Z h0 b .byte 2 (fun j => .int (own_by (g j)))) (q0 : own_by (g 0) = own_by 47) :
    OMetW l Z (⟨"com/example/ronda/ronda/engine/ApiVersion", "methodPath", "(Ljava/lang/String;)Ljava/lang/String;"⟩ : MethodName) prog_1_method_6_code 3 (some (.object "java/lang/String")) ({ frames := 6, cells := 10, slots := 90, locals := 99 } : Room) #[(.ref r0), (.ref r1)] h0 n0 ({ frames := 6, cells := 10, slots := 90, locals := 99 } : Room).cells ({ frames := 6, cells := 10, slots := 90, locals := 99 } : Room).slots (fun vm => CHv Z own_EL vm h0) (fun v h vm => (∃ a : Addr, v = some (.ref a)) ∧ Keep h0 h [] ∧ CHv Z own_EL vm h) := by
  refine o_bodyW (plainFor_of_name pn_22) (fun m => ef_22 m r0 r1) ?_
  intro p e s m below meth c s₁ vm0 G0 SN hs0 H
  replace G0 := o_weak hz G0
  have hk : h0.size ≤ h0.size := Nat.le_refl _
  have hEL := own_EW hw
  have wS := own_wS hw
  have K : Keep h0 h0 [] := Keep.refl _ _
  refine o_new G0 (ow hw 115 rfl) (ow hw 116 rfl) (ow hw 117 rfl) d22_0 (pc' := 3) rfl (by decide) (by decide) ?_
  intro T1 h1 b1 G1 g1 g_b1 E1 A1 D1
  have ne_r0_b1 : r0 ≠ b1 := Nat.ne_of_lt (Nat.lt_of_lt_of_eq E_r0.lt g1.symm)
  have ne_sp_b1 : sp ≠ b1 := Nat.ne_of_lt (Nat.lt_of_lt_of_eq E_sp.lt g1.symm)
  have ne_c1_b1 : c1 ≠ b1 := Nat.ne_of_lt (Nat.lt_of_lt_of_eq A_c1.lt g1.symm)
  have ne_r1_b1 : r1 ≠ b1 := Nat.ne_of_lt (Nat.lt_of_lt_of_eq E_r1.lt g1.symm)
  have ne_b_b1 : b ≠ b1 := Nat.ne_of_lt (Nat.lt_of_lt_of_eq A_b.lt g1.symm)
  have SF_b1 := Safe.ext E1 H (Safe.new (Nat.le_of_eq g1.symm))
  have sz_b1 : h0.size ≤ b1 := Nat.le_trans K.1 (Nat.le_of_eq g1.symm)
  replace H := H.ext E1
  replace hk := Nat.le_trans hk E1.1
  replace K := K.ext E1
  replace S := S.ext E1
  replace SF := SF.ext E1
  replace E_r0 := E_r0.ext E1
  replace F_sp := F_sp.ext E1
  replace E_sp := E_sp.ext E1
  replace Fv_sp := Fv_sp.ext E1
  replace Fc_sp := Fc_sp.ext E1
  replace A_c1 := A_c1.ext E1
  replace E_r1 := E_r1.ext E1
  replace Fv_r1 := Fv_r1.ext E1
  replace Fc_r1 := Fc_r1.ext E1
  replace A_b := A_b.ext E1
  have F_value_b1 : Fld Z h1 b1 "java/lang/AbstractStringBuilder" "value" "[B" .null := D1 (Or.inl (ow hw 130 rfl)) (ty := (.array .byte)) (by decide)
  have F_coder_b1 : Fld Z h1 b1 "java/lang/AbstractStringBuilder" "coder" "B" (.int (0 : Int32)) := D1 (Or.inl (ow hw 132 rfl)) (ty := .byte) (by decide)
  have F_count_b1 : Fld Z h1 b1 "java/lang/AbstractStringBuilder" "count" "I" (.int (0 : Int32)) := D1 (Or.inl (ow hw 145 rfl)) (ty := .int) (by decide)
  refine o_dup G1 d22_3 (pc' := 4) rfl rfl ?_
  refine o_callI G1 (z := (⟨"java/lang/StringBuilder", "<init>", "()V"⟩ : MethodName)) (argsL := []) (rest := [(.ref b1)]) (W := 1) (a := b1) rfl (ow hw 118 rfl) (ow hw 119 rfl) rfl d22_4 (by decide) (ow hw 117 rfl) (ow hw 120 rfl) (rm23 hw b1 h1 n0 G1.sz g_b1 A1 F_value_b1 F_coder_b1 F_count_b1 cs hcs S) (by decide) (by decide) rfl (lenOf pd_28 rfl) rfl (Nat.le_of_eq rfl) (pc' := 7) rfl (by decide) (by decide) ?_
  rintro _ T2 h2 G2 ⟨rfl, K2, vb, g_vb, hvb, Fv2, Fc2, Fn2, A_vb⟩
  have ne_r0_vb : r0 ≠ vb := Nat.ne_of_lt (Nat.lt_of_lt_of_le E_r0.lt hvb)
  have ne_sp_vb : sp ≠ vb := Nat.ne_of_lt (Nat.lt_of_lt_of_le E_sp.lt hvb)
  have ne_c1_vb : c1 ≠ vb := Nat.ne_of_lt (Nat.lt_of_lt_of_le A_c1.lt hvb)
  have ne_r1_vb : r1 ≠ vb := Nat.ne_of_lt (Nat.lt_of_lt_of_le E_r1.lt hvb)
  have ne_b_vb : b ≠ vb := Nat.ne_of_lt (Nat.lt_of_lt_of_le A_b.lt hvb)
  have ne_b1_vb : b1 ≠ vb := Nat.ne_of_lt (Nat.lt_of_lt_of_le A1.lt hvb)
  have sz_vb : h0.size ≤ vb := Nat.le_trans K.1 hvb
  have sfk : ∀ x ∈ [b1], Safe Z own_EL _ _ x := allS SF_b1 all0
  have SF_vb := Safe.keep K2 sfk H (Safe.new hvb)
  have H_ := H.keep K2 (allS SF_b1 all0)
  have SF_b1_ := Safe.keep K2 (allS SF_b1 all0) H SF_b1
  replace H := H_
  replace hk := Nat.le_trans hk K2.1
  replace SF_b1 := SF_b1_
  replace S := o_stak S K2 (allS A1.nostat all0)
  replace SF := o_stak SF K2 (allS A1.nostat all0)
  replace K := K.trans K2 (allS (Or.inr sz_b1) all0)
  replace E_r0 := E_r0.keep K2
  replace F_sp := F_sp.keep K2 (ninS ne_r0_b1 nin0)
  replace E_sp := E_sp.keep K2
  replace Fv_sp := Fv_sp.keep K2 (ninS ne_sp_b1 nin0)
  replace Fc_sp := Fc_sp.keep K2 (ninS ne_sp_b1 nin0)
  replace A_c1 := A_c1.keep K2 (ninS ne_c1_b1 nin0)
  replace E_r1 := E_r1.keep K2
  replace Fv_r1 := Fv_r1.keep K2 (ninS ne_r1_b1 nin0)
  replace Fc_r1 := Fc_r1.keep K2 (ninS ne_r1_b1 nin0)
  replace A_b := A_b.keep K2 (ninS ne_b_b1 nin0)
  replace A1 := A1.keep K2
  show OFin _ _ _ _ T2 (mkF m 7 #[.val (.ref r0), .val (.ref r1), .unset] [(.ref b1)])
  refine o_ldcC G2 SN hk (n := 40) (N := 1) (f := fun j => own_by ((fun _ => 47) j)) (ow hw 63 rfl) wS hEL (by decide) H (by decide) rfl (by decide) (by intro i hi; match i, hi with | 0, _ => rfl) d22_7 (pc' := 9) rfl (by decide) (by decide) (by decide) (by decide) ?_
  intro T3 h3 vm3 a3 b3 G3 E3 SN3 C3 X3 Fv3 Fc3 A3 NE3
  replace SF_b1 := C3.safe A1.lt SF_b1
  replace SF_vb := C3.safe A_vb.lt SF_vb
  replace H := C3.1
  replace K := K.ext E3
  replace S := S.ext E3
  replace SF := SF.ext E3
  replace E_r0 := E_r0.ext E3
  replace F_sp := F_sp.ext E3
  replace E_sp := E_sp.ext E3
  replace Fv_sp := Fv_sp.ext E3
  replace Fc_sp := Fc_sp.ext E3
  replace A_c1 := A_c1.ext E3
  replace E_r1 := E_r1.ext E3
  replace Fv_r1 := Fv_r1.ext E3
  replace Fc_r1 := Fc_r1.ext E3
  replace A_b := A_b.ext E3
  replace A1 := A1.ext E3
  replace Fv2 := Fv2.ext E3
  replace Fc2 := Fc2.ext E3
  replace Fn2 := Fn2.ext E3
  replace A_vb := A_vb.ext E3
  replace SN := SN3
  replace hk := Nat.le_refl h3.size
  have nq_b1 := NE3 b1 SF_b1
  have nq_vb := NE3 vb SF_vb
  refine o_callV G3 (z := (⟨"java/lang/StringBuilder", "append", "(Ljava/lang/String;)Ljava/lang/StringBuilder;"⟩ : MethodName)) (argsL := [(.ref a3)]) (rest := []) (W := 0) A1 (ow hw 133 rfl) (ow hw 135 rfl) (ow hw 134 rfl) (ow hw 136 rfl) d22_9 (by decide) (ow hw 117 rfl) (ow hw 137 rfl) (rm25_01 hw b1 a3 h3 n0 G3.sz cs hcs S vb A1 Fv2 Fc2 g_vb (fun _ => 0) A_vb g_b1 Fn2 b3 (fun _ => 47) X3 Fv3 Fc3 A3 (Ne.symm nq_b1.1) (Ne.symm nq_b1.2) (Ne.symm nq_vb.1) (Ne.symm nq_vb.2) ne_b1_vb) (by decide) (by decide) rfl (lenOf pd_30 rfl) rfl (Nat.le_of_eq rfl) (pc' := 12) rfl (by decide) (by decide) ?_
  rintro _ T4 h4 G4 ⟨rfl, K4, Fv4, Fc4, Fn4, A4⟩
  have H_ := H.keep K4 (allS SF_b1 (allS SF_vb all0))
  have SF_b1_ := Safe.keep K4 (allS SF_b1 (allS SF_vb all0)) H SF_b1
  have SF_vb_ := Safe.keep K4 (allS SF_b1 (allS SF_vb all0)) H SF_vb
  replace H := H_
  replace hk := Nat.le_trans hk K4.1
  replace SF_b1 := SF_b1_
  replace SF_vb := SF_vb_
  replace S := o_stak S K4 (allS A1.nostat (allS A_vb.nostat all0))
  replace SF := o_stak SF K4 (allS A1.nostat (allS A_vb.nostat all0))
  replace K := K.trans K4 (allS (Or.inr sz_b1) (allS (Or.inr sz_vb) all0))
  replace E_r0 := E_r0.keep K4
  replace F_sp := F_sp.keep K4 (ninS ne_r0_b1 (ninS ne_r0_vb nin0))
  replace E_sp := E_sp.keep K4
  replace Fv_sp := Fv_sp.keep K4 (ninS ne_sp_b1 (ninS ne_sp_vb nin0))
  replace Fc_sp := Fc_sp.keep K4 (ninS ne_sp_b1 (ninS ne_sp_vb nin0))
  replace A_c1 := A_c1.keep K4 (ninS ne_c1_b1 (ninS ne_c1_vb nin0))
  replace E_r1 := E_r1.keep K4
  replace Fv_r1 := Fv_r1.keep K4 (ninS ne_r1_b1 (ninS ne_r1_vb nin0))
  replace Fc_r1 := Fc_r1.keep K4 (ninS ne_r1_b1 (ninS ne_r1_vb nin0))
  replace A_b := A_b.keep K4 (ninS ne_b_b1 (ninS ne_b_vb nin0))
  replace A1 := A1.keep K4
  replace X3 := X3.keep K4
  replace Fv3 := Fv3.keep K4 (ninS (Ne.symm nq_b1.1) (ninS (Ne.symm nq_vb.1) nin0))
  replace Fc3 := Fc3.keep K4 (ninS (Ne.symm nq_b1.1) (ninS (Ne.symm nq_vb.1) nin0))
  replace A3 := A3.keep K4 (ninS (Ne.symm nq_b1.2) (ninS (Ne.symm nq_vb.2) nin0))
  show OFin _ _ _ _ T4 (mkF m 12 #[.val (.ref r0), .val (.ref r1), .unset] [(.ref b1)])
  refine o_aloadN G4 d22_12 (pc' := 13) rfl rfl rfl ?_
  refine o_getF G4 (host := "") (Or.inl (ow hw 106 rfl)) Via.refl F_sp d22_13 (pc' := 16) rfl ?_
  intro T5 G5
  refine o_callV G5 (z := (⟨"java/lang/StringBuilder", "append", "(Ljava/lang/String;)Ljava/lang/StringBuilder;"⟩ : MethodName)) (argsL := [(.ref sp)]) (rest := []) (W := 0) A1 (ow hw 133 rfl) (ow hw 135 rfl) (ow hw 134 rfl) (ow hw 136 rfl) d22_16 (by decide) (ow hw 117 rfl) (ow hw 137 rfl) (rm25_10 hw b1 sp h4 n0 G5.sz cs hcs S vb A1 Fv4 Fc4 g_vb (fun j => if 0 ≤ j ∧ j < 0 + 1 then (fun _ => 47) (0 + (j - 0)) else (fun _ => 0) j) A4 g_b1 Fn4 c1 k E_sp Fv_sp Fc_sp A_c1 ne_sp_b1 ne_c1_b1 ne_sp_vb ne_c1_vb ne_b1_vb) (by decide) (by decide) rfl (lenOf pd_30 rfl) rfl (Nat.le_of_eq rfl) (pc' := 19) rfl (by decide) (by decide) ?_
  rintro _ T6 h6 G6 ⟨rfl, K6, Fv6, Fc6, Fn6, A6⟩
  have H_ := H.keep K6 (allS SF_b1 (allS SF_vb all0))
  have SF_b1_ := Safe.keep K6 (allS SF_b1 (allS SF_vb all0)) H SF_b1
  have SF_vb_ := Safe.keep K6 (allS SF_b1 (allS SF_vb all0)) H SF_vb
  replace H := H_
  replace hk := Nat.le_trans hk K6.1
  replace SF_b1 := SF_b1_
  replace SF_vb := SF_vb_
  replace S := o_stak S K6 (allS A1.nostat (allS A4.nostat all0))
  replace SF := o_stak SF K6 (allS A1.nostat (allS A4.nostat all0))
  replace K := K.trans K6 (allS (Or.inr sz_b1) (allS (Or.inr sz_vb) all0))
  replace E_r0 := E_r0.keep K6
  replace F_sp := F_sp.keep K6 (ninS ne_r0_b1 (ninS ne_r0_vb nin0))
  replace E_sp := E_sp.keep K6
  replace Fv_sp := Fv_sp.keep K6 (ninS ne_sp_b1 (ninS ne_sp_vb nin0))
  replace Fc_sp := Fc_sp.keep K6 (ninS ne_sp_b1 (ninS ne_sp_vb nin0))
  replace A_c1 := A_c1.keep K6 (ninS ne_c1_b1 (ninS ne_c1_vb nin0))
  replace E_r1 := E_r1.keep K6
  replace Fv_r1 := Fv_r1.keep K6 (ninS ne_r1_b1 (ninS ne_r1_vb nin0))
  replace Fc_r1 := Fc_r1.keep K6 (ninS ne_r1_b1 (ninS ne_r1_vb nin0))
  replace A_b := A_b.keep K6 (ninS ne_b_b1 (ninS ne_b_vb nin0))
  replace A1 := A1.keep K6
  replace X3 := X3.keep K6
  replace Fv3 := Fv3.keep K6 (ninS (Ne.symm nq_b1.1) (ninS (Ne.symm nq_vb.1) nin0))
  replace Fc3 := Fc3.keep K6 (ninS (Ne.symm nq_b1.1) (ninS (Ne.symm nq_vb.1) nin0))
  replace A3 := A3.keep K6 (ninS (Ne.symm nq_b1.2) (ninS (Ne.symm nq_vb.2) nin0))
  show OFin _ _ _ _ T6 (mkF m 19 #[.val (.ref r0), .val (.ref r1), .unset] [(.ref b1)])
  refine o_callV G6 (z := (⟨"java/lang/StringBuilder", "toString", "()Ljava/lang/String;"⟩ : MethodName)) (argsL := []) (rest := []) (W := 0) A1 (ow hw 171 rfl) (ow hw 173 rfl) (ow hw 172 rfl) (ow hw 174 rfl) d22_19 (by decide) (ow hw 117 rfl) (ow hw 175 rfl) (rm31_1 hw b1 h6 n0 G6.sz cs hcs S vb A1 Fv6 Fc6 Fn6 (fun j => if 0 ≤ j ∧ j < 0 + 1 then (fun _ => 47) (0 + (j - 0)) else (fun _ => 0) j) A6) (by decide) (by decide) rfl (lenOf pd_31 rfl) rfl (Nat.le_of_eq rfl) (pc' := 22) rfl (by decide) (by decide) ?_
  rintro _ T7 h7 G7 ⟨t7, u7, rfl, gt7, ht7, hu7, K7, X7, Fv7, Fc7, A7⟩
  have H_ := H.keep K7 (fun x hx => nomatch hx)
  replace H := H_
  replace hk := Nat.le_trans hk K7.1
  replace S := o_stak S K7 (fun x hx => nomatch hx)
  replace SF := o_stak SF K7 (fun x hx => nomatch hx)
  replace K := K.trans K7 all0
  replace E_r0 := E_r0.keep K7
  replace F_sp := F_sp.keep K7 nin0
  replace E_sp := E_sp.keep K7
  replace Fv_sp := Fv_sp.keep K7 nin0
  replace Fc_sp := Fc_sp.keep K7 nin0
  replace A_c1 := A_c1.keep K7 nin0
  replace E_r1 := E_r1.keep K7
  replace Fv_r1 := Fv_r1.keep K7 nin0
  replace Fc_r1 := Fc_r1.keep K7 nin0
  replace A_b := A_b.keep K7 nin0
  replace X3 := X3.keep K7
  replace Fv3 := Fv3.keep K7 nin0
  replace Fc3 := Fc3.keep K7 nin0
  replace A3 := A3.keep K7 nin0
  show OFin _ _ _ _ T7 (mkF m 22 #[.val (.ref r0), .val (.ref r1), .unset] [(.ref t7)])
  refine o_astoreN G7 d22_22 (pc' := 23) rfl rfl (l' := #[.val (.ref r0), .val (.ref r1), .val (.ref t7)]) rfl ?_
  refine o_aloadN G7 d22_23 (pc' := 24) rfl rfl rfl ?_
  refine o_aloadN G7 d22_24 (pc' := 25) rfl rfl rfl ?_
  refine o_callV G7 (z := (⟨"java/lang/String", "startsWith", "(Ljava/lang/String;)Z"⟩ : MethodName)) (argsL := [(.ref t7)]) (rest := []) (W := 0) E_r1 (ow hw 66 rfl) (ow hw 68 rfl) (ow hw 67 rfl) (ow hw 69 rfl) d22_25 (by decide) (ow hw 9 rfl) (ow hw 70 rfl) (rm15_210e hw r1 t7 h7 n0 G7.sz cs hcs S b g E_r1 Fv_r1 Fc_r1 A_b u7 (fun j => (fun j => if 0 ≤ j ∧ j < 0 + 1 then (fun _ => 47) (0 + (j - 0)) else (fun _ => 0) j) (0 + j)) X7 Fv7 Fc7 A7 (by intro i hi; match i, hi with | 0, _ => exact q0)) (by decide) (by decide) rfl (lenOf pd_32 rfl) rfl (Nat.le_of_eq rfl) (pc' := 28) rfl (by decide) (by decide) ?_
  rintro _ T8 h8 G8 ⟨rfl, hh⟩
  subst hh
  show OFin _ _ _ _ T8 (mkF m 28 #[.val (.ref r0), .val (.ref r1), .val (.ref t7)] [(.int (1 : Int32))])
  refine o_if_eq G8 d22_28 (by decide) (pcT := 42) (by decide) (pc' := 31) rfl (fun q => absurd q (by decide)) (fun _ => ?_)
  refine o_aloadN G8 d22_31 (pc' := 32) rfl rfl rfl ?_
  refine o_callV G8 (z := (⟨"java/lang/String", "length", "()I"⟩ : MethodName)) (argsL := []) (rest := []) (W := 0) E_r1 (ow hw 216 rfl) (ow hw 78 rfl) (ow hw 77 rfl) (ow hw 79 rfl) d22_32 (by decide) (ow hw 9 rfl) (ow hw 80 rfl) (rm17 hw r1 h7 n0 G8.sz cs hcs S 2 (2 : Int32) rfl (by decide) b g E_r1 Fv_r1 Fc_r1 A_b) (by decide) (by decide) rfl (lenOf pd_8 rfl) rfl (Nat.le_of_eq rfl) (pc' := 35) rfl (by decide) (by decide) ?_
  rintro _ T9 h9 G9 ⟨rfl, hh⟩
  subst hh
  show OFin _ _ _ _ T9 (mkF m 35 #[.val (.ref r0), .val (.ref r1), .val (.ref t7)] [(.int (2 : Int32))])
  refine o_aloadN G9 d22_35 (pc' := 36) rfl rfl rfl ?_
  refine o_callV G9 (z := (⟨"java/lang/String", "length", "()I"⟩ : MethodName)) (argsL := []) (rest := [(.int (2 : Int32))]) (W := 1) X7 (ow hw 216 rfl) (ow hw 78 rfl) (ow hw 77 rfl) (ow hw 79 rfl) d22_36 (by decide) (ow hw 9 rfl) (ow hw 80 rfl) (rm17 hw t7 h7 n0 G9.sz cs hcs S 1 (1 : Int32) rfl (by decide) u7 (fun j => (fun j => if 0 ≤ j ∧ j < 0 + 1 then (fun _ => 47) (0 + (j - 0)) else (fun _ => 0) j) (0 + j)) X7 Fv7 Fc7 A7) (by decide) (by decide) rfl (lenOf pd_8 rfl) rfl (Nat.le_of_eq rfl) (pc' := 39) rfl (by decide) (by decide) ?_
  rintro _ T10 h10 G10 ⟨rfl, hh⟩
  subst hh
  show OFin _ _ _ _ T10 (mkF m 39 #[.val (.ref r0), .val (.ref r1), .val (.ref t7)] [(.int (1 : Int32)), (.int (2 : Int32))])
  refine o_icmp_ne G10 d22_39 (by decide) (pcT := 100) (by decide) (pc' := 42) rfl (fun _ => ?_) (fun q => absurd q (by decide))
  refine o_aloadN G10 d22_100 (pc' := 101) rfl rfl rfl ?_
  refine o_aloadN G10 d22_101 (pc' := 102) rfl rfl rfl ?_
  refine o_callV G10 (z := (⟨"java/lang/String", "length", "()I"⟩ : MethodName)) (argsL := []) (rest := [(.ref r1)]) (W := 1) X7 (ow hw 216 rfl) (ow hw 78 rfl) (ow hw 77 rfl) (ow hw 79 rfl) d22_102 (by decide) (ow hw 9 rfl) (ow hw 80 rfl) (rm17 hw t7 h7 n0 G10.sz cs hcs S 1 (1 : Int32) rfl (by decide) u7 (fun j => (fun j => if 0 ≤ j ∧ j < 0 + 1 then (fun _ => 47) (0 + (j - 0)) else (fun _ => 0) j) (0 + j)) X7 Fv7 Fc7 A7) (by decide) (by decide) rfl (lenOf pd_8 rfl) rfl (Nat.le_of_eq rfl) (pc' := 105) rfl (by decide) (by decide) ?_
  rintro _ T11 h11 G11 ⟨rfl, hh⟩
  subst hh
  show OFin _ _ _ _ T11 (mkF m 105 #[.val (.ref r0), .val (.ref r1), .val (.ref t7)] [(.int (1 : Int32)), (.ref r1)])
  refine o_callV G11 (z := (⟨"java/lang/String", "substring", "(I)Ljava/lang/String;"⟩ : MethodName)) (argsL := [(.int (1 : Int32))]) (rest := []) (W := 0) E_r1 (ow hw 217 rfl) (ow hw 219 rfl) (ow hw 218 rfl) (ow hw 220 rfl) d22_105 (by decide) (ow hw 9 rfl) (ow hw 221 rfl) (rm42_2 hw r1 h7 n0 G11.sz cs hcs S fm hfm SF b g E_r1 Fv_r1 Fc_r1 A_b) (by decide) (by decide) rfl (lenOf pd_33 rfl) rfl (Nat.le_of_eq rfl) (pc' := 108) rfl (by decide) (by decide) ?_
  rintro _ T12 h12 G12 ⟨t12, u12, rfl, -, -, -, K12, -⟩
  have H_ := H.keep K12 (fun x hx => nomatch hx)
  replace H := H_
  replace hk := Nat.le_trans hk K12.1
  replace S := o_stak S K12 (fun x hx => nomatch hx)
  replace SF := o_stak SF K12 (fun x hx => nomatch hx)
  replace K := K.trans K12 all0
  replace E_r0 := E_r0.keep K12
  replace F_sp := F_sp.keep K12 nin0
  replace E_sp := E_sp.keep K12
  replace Fv_sp := Fv_sp.keep K12 nin0
  replace Fc_sp := Fc_sp.keep K12 nin0
  replace A_c1 := A_c1.keep K12 nin0
  replace E_r1 := E_r1.keep K12
  replace Fv_r1 := Fv_r1.keep K12 nin0
  replace Fc_r1 := Fc_r1.keep K12 nin0
  replace A_b := A_b.keep K12 nin0
  replace X3 := X3.keep K12
  replace Fv3 := Fv3.keep K12 nin0
  replace Fc3 := Fc3.keep K12 nin0
  replace A3 := A3.keep K12 nin0
  replace X7 := X7.keep K12
  replace Fv7 := Fv7.keep K12 nin0
  replace Fc7 := Fc7.keep K12 nin0
  replace A7 := A7.keep K12 nin0
  show OFin _ _ _ _ T12 (mkF m 108 #[.val (.ref r0), .val (.ref r1), .val (.ref t7)] [(.ref t12)])
  exact o_areturnW G12 SN hk rfl rfl rfl (Nat.le_refl _) d22_108 (fun vm1 hw1 => ⟨⟨_, rfl⟩, K, o_chw G12.wz hw1 hEL H⟩) (by decide) (by decide)
set_option maxRecDepth 65536 in
set_option maxHeartbeats 40000000 in
theorem rm22_2 {l : Launch} {Z : State} {a0 : Array Value} (hw : ∀ d ∈ tables_1, d.before a0 Z = true) (r0 : Addr) (r1 : Addr) (h0 : Heap) (n0 : Nat) (hz : n0 ≤ h0.size) (cs : Int32) (hcs : ¬ cs = 0) (S : Sta Z h0 "java/lang/String" "COMPACT_STRINGS" "Z" (.int cs)) (fm : Value) (hfm : fm.isRef = true) (SF : Sta Z h0 "jdk/internal/util/Preconditions" "SIOOBE_FORMATTER" "Ljava/util/function/BiFunction;" fm) (E_r0 : Exa Z h0 r0 "com/example/ronda/ronda/engine/ApiVersion") (sp : Addr) (F_sp : Fld Z h0 r0 "com/example/ronda/ronda/engine/ApiVersion" "servicePath" "Ljava/lang/String;" (.ref sp)) (c1 : Addr) (k : Nat → Int32) (E_sp : Exa Z h0 sp "java/lang/String") (Fv_sp : Fld Z h0 sp "java/lang/String" "value" "[B" (.ref c1)) (Fc_sp : Fld Z h0 sp "java/lang/String" "coder" "B" (.int (0 : Int32))) (A_c1 : OArr Z h0 c1 .byte 2 (fun j => .int (own_by (k j)))) (b : Addr) (g : Nat → Int32) (E_r1 : Exa Z h0 r1 "java/lang/String") (Fv_r1 : Fld Z h0 r1 "java/lang/String" "value" "[B" (.ref b)) (Fc_r1 : Fld Z h0 r1 "java/lang/String" "coder" "B" (.int (0 : Int32))) (A_b : OArr Z h0 b .byte 4 (fun j => .int (own_by (g j)))) (q0 : own_by (g 0) = own_by 47) (q1 : own_by (g 1) = own_by (k 0)) (q2 : own_by (g 2) = own_by (k 1)) :
    OMetW l Z (⟨"com/example/ronda/ronda/engine/ApiVersion", "methodPath", "(Ljava/lang/String;)Ljava/lang/String;"⟩ : MethodName) prog_1_method_6_code 3 (some (.object "java/lang/String")) ({ frames := 6, cells := 10, slots := 90, locals := 99 } : Room) #[(.ref r0), (.ref r1)] h0 n0 ({ frames := 6, cells := 10, slots := 90, locals := 99 } : Room).cells ({ frames := 6, cells := 10, slots := 90, locals := 99 } : Room).slots (fun vm => CHv Z own_EL vm h0) (fun v h vm => (∃ a : Addr, v = some (.ref a)) ∧ Keep h0 h [] ∧ CHv Z own_EL vm h) := by
  refine o_bodyW (plainFor_of_name pn_22) (fun m => ef_22 m r0 r1) ?_
  intro p e s m below meth c s₁ vm0 G0 SN hs0 H
  replace G0 := o_weak hz G0
  have hk : h0.size ≤ h0.size := Nat.le_refl _
  have hEL := own_EW hw
  have wS := own_wS hw
  have K : Keep h0 h0 [] := Keep.refl _ _
  refine o_new G0 (ow hw 115 rfl) (ow hw 116 rfl) (ow hw 117 rfl) d22_0 (pc' := 3) rfl (by decide) (by decide) ?_
  intro T1 h1 b1 G1 g1 g_b1 E1 A1 D1
  have ne_r0_b1 : r0 ≠ b1 := Nat.ne_of_lt (Nat.lt_of_lt_of_eq E_r0.lt g1.symm)
  have ne_sp_b1 : sp ≠ b1 := Nat.ne_of_lt (Nat.lt_of_lt_of_eq E_sp.lt g1.symm)
  have ne_c1_b1 : c1 ≠ b1 := Nat.ne_of_lt (Nat.lt_of_lt_of_eq A_c1.lt g1.symm)
  have ne_r1_b1 : r1 ≠ b1 := Nat.ne_of_lt (Nat.lt_of_lt_of_eq E_r1.lt g1.symm)
  have ne_b_b1 : b ≠ b1 := Nat.ne_of_lt (Nat.lt_of_lt_of_eq A_b.lt g1.symm)
  have SF_b1 := Safe.ext E1 H (Safe.new (Nat.le_of_eq g1.symm))
  have sz_b1 : h0.size ≤ b1 := Nat.le_trans K.1 (Nat.le_of_eq g1.symm)
  replace H := H.ext E1
  replace hk := Nat.le_trans hk E1.1
  replace K := K.ext E1
  replace S := S.ext E1
  replace SF := SF.ext E1
  replace E_r0 := E_r0.ext E1
  replace F_sp := F_sp.ext E1
  replace E_sp := E_sp.ext E1
  replace Fv_sp := Fv_sp.ext E1
  replace Fc_sp := Fc_sp.ext E1
  replace A_c1 := A_c1.ext E1
  replace E_r1 := E_r1.ext E1
  replace Fv_r1 := Fv_r1.ext E1
  replace Fc_r1 := Fc_r1.ext E1
  replace A_b := A_b.ext E1
  have F_value_b1 : Fld Z h1 b1 "java/lang/AbstractStringBuilder" "value" "[B" .null := D1 (Or.inl (ow hw 130 rfl)) (ty := (.array .byte)) (by decide)
  have F_coder_b1 : Fld Z h1 b1 "java/lang/AbstractStringBuilder" "coder" "B" (.int (0 : Int32)) := D1 (Or.inl (ow hw 132 rfl)) (ty := .byte) (by decide)
  have F_count_b1 : Fld Z h1 b1 "java/lang/AbstractStringBuilder" "count" "I" (.int (0 : Int32)) := D1 (Or.inl (ow hw 145 rfl)) (ty := .int) (by decide)
  refine o_dup G1 d22_3 (pc' := 4) rfl rfl ?_
  refine o_callI G1 (z := (⟨"java/lang/StringBuilder", "<init>", "()V"⟩ : MethodName)) (argsL := []) (rest := [(.ref b1)]) (W := 1) (a := b1) rfl (ow hw 118 rfl) (ow hw 119 rfl) rfl d22_4 (by decide) (ow hw 117 rfl) (ow hw 120 rfl) (rm23 hw b1 h1 n0 G1.sz g_b1 A1 F_value_b1 F_coder_b1 F_count_b1 cs hcs S) (by decide) (by decide) rfl (lenOf pd_28 rfl) rfl (Nat.le_of_eq rfl) (pc' := 7) rfl (by decide) (by decide) ?_
  rintro _ T2 h2 G2 ⟨rfl, K2, vb, g_vb, hvb, Fv2, Fc2, Fn2, A_vb⟩
  have ne_r0_vb : r0 ≠ vb := Nat.ne_of_lt (Nat.lt_of_lt_of_le E_r0.lt hvb)
  have ne_sp_vb : sp ≠ vb := Nat.ne_of_lt (Nat.lt_of_lt_of_le E_sp.lt hvb)
  have ne_c1_vb : c1 ≠ vb := Nat.ne_of_lt (Nat.lt_of_lt_of_le A_c1.lt hvb)
  have ne_r1_vb : r1 ≠ vb := Nat.ne_of_lt (Nat.lt_of_lt_of_le E_r1.lt hvb)
  have ne_b_vb : b ≠ vb := Nat.ne_of_lt (Nat.lt_of_lt_of_le A_b.lt hvb)
  have ne_b1_vb : b1 ≠ vb := Nat.ne_of_lt (Nat.lt_of_lt_of_le A1.lt hvb)
  have sz_vb : h0.size ≤ vb := Nat.le_trans K.1 hvb
  have sfk : ∀ x ∈ [b1], Safe Z own_EL _ _ x := allS SF_b1 all0
  have SF_vb := Safe.keep K2 sfk H (Safe.new hvb)
  have H_ := H.keep K2 (allS SF_b1 all0)
  have SF_b1_ := Safe.keep K2 (allS SF_b1 all0) H SF_b1
  replace H := H_
  replace hk := Nat.le_trans hk K2.1
  replace SF_b1 := SF_b1_
  replace S := o_stak S K2 (allS A1.nostat all0)
  replace SF := o_stak SF K2 (allS A1.nostat all0)
  replace K := K.trans K2 (allS (Or.inr sz_b1) all0)
  replace E_r0 := E_r0.keep K2
  replace F_sp := F_sp.keep K2 (ninS ne_r0_b1 nin0)
  replace E_sp := E_sp.keep K2
  replace Fv_sp := Fv_sp.keep K2 (ninS ne_sp_b1 nin0)
  replace Fc_sp := Fc_sp.keep K2 (ninS ne_sp_b1 nin0)
  replace A_c1 := A_c1.keep K2 (ninS ne_c1_b1 nin0)
  replace E_r1 := E_r1.keep K2
  replace Fv_r1 := Fv_r1.keep K2 (ninS ne_r1_b1 nin0)
  replace Fc_r1 := Fc_r1.keep K2 (ninS ne_r1_b1 nin0)
  replace A_b := A_b.keep K2 (ninS ne_b_b1 nin0)
  replace A1 := A1.keep K2
  show OFin _ _ _ _ T2 (mkF m 7 #[.val (.ref r0), .val (.ref r1), .unset] [(.ref b1)])
  refine o_ldcC G2 SN hk (n := 40) (N := 1) (f := fun j => own_by ((fun _ => 47) j)) (ow hw 63 rfl) wS hEL (by decide) H (by decide) rfl (by decide) (by intro i hi; match i, hi with | 0, _ => rfl) d22_7 (pc' := 9) rfl (by decide) (by decide) (by decide) (by decide) ?_
  intro T3 h3 vm3 a3 b3 G3 E3 SN3 C3 X3 Fv3 Fc3 A3 NE3
  replace SF_b1 := C3.safe A1.lt SF_b1
  replace SF_vb := C3.safe A_vb.lt SF_vb
  replace H := C3.1
  replace K := K.ext E3
  replace S := S.ext E3
  replace SF := SF.ext E3
  replace E_r0 := E_r0.ext E3
  replace F_sp := F_sp.ext E3
  replace E_sp := E_sp.ext E3
  replace Fv_sp := Fv_sp.ext E3
  replace Fc_sp := Fc_sp.ext E3
  replace A_c1 := A_c1.ext E3
  replace E_r1 := E_r1.ext E3
  replace Fv_r1 := Fv_r1.ext E3
  replace Fc_r1 := Fc_r1.ext E3
  replace A_b := A_b.ext E3
  replace A1 := A1.ext E3
  replace Fv2 := Fv2.ext E3
  replace Fc2 := Fc2.ext E3
  replace Fn2 := Fn2.ext E3
  replace A_vb := A_vb.ext E3
  replace SN := SN3
  replace hk := Nat.le_refl h3.size
  have nq_b1 := NE3 b1 SF_b1
  have nq_vb := NE3 vb SF_vb
  refine o_callV G3 (z := (⟨"java/lang/StringBuilder", "append", "(Ljava/lang/String;)Ljava/lang/StringBuilder;"⟩ : MethodName)) (argsL := [(.ref a3)]) (rest := []) (W := 0) A1 (ow hw 133 rfl) (ow hw 135 rfl) (ow hw 134 rfl) (ow hw 136 rfl) d22_9 (by decide) (ow hw 117 rfl) (ow hw 137 rfl) (rm25_01 hw b1 a3 h3 n0 G3.sz cs hcs S vb A1 Fv2 Fc2 g_vb (fun _ => 0) A_vb g_b1 Fn2 b3 (fun _ => 47) X3 Fv3 Fc3 A3 (Ne.symm nq_b1.1) (Ne.symm nq_b1.2) (Ne.symm nq_vb.1) (Ne.symm nq_vb.2) ne_b1_vb) (by decide) (by decide) rfl (lenOf pd_30 rfl) rfl (Nat.le_of_eq rfl) (pc' := 12) rfl (by decide) (by decide) ?_
  rintro _ T4 h4 G4 ⟨rfl, K4, Fv4, Fc4, Fn4, A4⟩
  have H_ := H.keep K4 (allS SF_b1 (allS SF_vb all0))
  have SF_b1_ := Safe.keep K4 (allS SF_b1 (allS SF_vb all0)) H SF_b1
  have SF_vb_ := Safe.keep K4 (allS SF_b1 (allS SF_vb all0)) H SF_vb
  replace H := H_
  replace hk := Nat.le_trans hk K4.1
  replace SF_b1 := SF_b1_
  replace SF_vb := SF_vb_
  replace S := o_stak S K4 (allS A1.nostat (allS A_vb.nostat all0))
  replace SF := o_stak SF K4 (allS A1.nostat (allS A_vb.nostat all0))
  replace K := K.trans K4 (allS (Or.inr sz_b1) (allS (Or.inr sz_vb) all0))
  replace E_r0 := E_r0.keep K4
  replace F_sp := F_sp.keep K4 (ninS ne_r0_b1 (ninS ne_r0_vb nin0))
  replace E_sp := E_sp.keep K4
  replace Fv_sp := Fv_sp.keep K4 (ninS ne_sp_b1 (ninS ne_sp_vb nin0))
  replace Fc_sp := Fc_sp.keep K4 (ninS ne_sp_b1 (ninS ne_sp_vb nin0))
  replace A_c1 := A_c1.keep K4 (ninS ne_c1_b1 (ninS ne_c1_vb nin0))
  replace E_r1 := E_r1.keep K4
  replace Fv_r1 := Fv_r1.keep K4 (ninS ne_r1_b1 (ninS ne_r1_vb nin0))
  replace Fc_r1 := Fc_r1.keep K4 (ninS ne_r1_b1 (ninS ne_r1_vb nin0))
  replace A_b := A_b.keep K4 (ninS ne_b_b1 (ninS ne_b_vb nin0))
  replace A1 := A1.keep K4
  replace X3 := X3.keep K4
  replace Fv3 := Fv3.keep K4 (ninS (Ne.symm nq_b1.1) (ninS (Ne.symm nq_vb.1) nin0))
  replace Fc3 := Fc3.keep K4 (ninS (Ne.symm nq_b1.1) (ninS (Ne.symm nq_vb.1) nin0))
  replace A3 := A3.keep K4 (ninS (Ne.symm nq_b1.2) (ninS (Ne.symm nq_vb.2) nin0))
  show OFin _ _ _ _ T4 (mkF m 12 #[.val (.ref r0), .val (.ref r1), .unset] [(.ref b1)])
  refine o_aloadN G4 d22_12 (pc' := 13) rfl rfl rfl ?_
  refine o_getF G4 (host := "") (Or.inl (ow hw 106 rfl)) Via.refl F_sp d22_13 (pc' := 16) rfl ?_
  intro T5 G5
  refine o_callV G5 (z := (⟨"java/lang/StringBuilder", "append", "(Ljava/lang/String;)Ljava/lang/StringBuilder;"⟩ : MethodName)) (argsL := [(.ref sp)]) (rest := []) (W := 0) A1 (ow hw 133 rfl) (ow hw 135 rfl) (ow hw 134 rfl) (ow hw 136 rfl) d22_16 (by decide) (ow hw 117 rfl) (ow hw 137 rfl) (rm25_12 hw b1 sp h4 n0 G5.sz cs hcs S vb A1 Fv4 Fc4 g_vb (fun j => if 0 ≤ j ∧ j < 0 + 1 then (fun _ => 47) (0 + (j - 0)) else (fun _ => 0) j) A4 g_b1 Fn4 c1 k E_sp Fv_sp Fc_sp A_c1 ne_sp_b1 ne_c1_b1 ne_sp_vb ne_c1_vb ne_b1_vb) (by decide) (by decide) rfl (lenOf pd_30 rfl) rfl (Nat.le_of_eq rfl) (pc' := 19) rfl (by decide) (by decide) ?_
  rintro _ T6 h6 G6 ⟨rfl, K6, Fv6, Fc6, Fn6, A6⟩
  have H_ := H.keep K6 (allS SF_b1 (allS SF_vb all0))
  have SF_b1_ := Safe.keep K6 (allS SF_b1 (allS SF_vb all0)) H SF_b1
  have SF_vb_ := Safe.keep K6 (allS SF_b1 (allS SF_vb all0)) H SF_vb
  replace H := H_
  replace hk := Nat.le_trans hk K6.1
  replace SF_b1 := SF_b1_
  replace SF_vb := SF_vb_
  replace S := o_stak S K6 (allS A1.nostat (allS A4.nostat all0))
  replace SF := o_stak SF K6 (allS A1.nostat (allS A4.nostat all0))
  replace K := K.trans K6 (allS (Or.inr sz_b1) (allS (Or.inr sz_vb) all0))
  replace E_r0 := E_r0.keep K6
  replace F_sp := F_sp.keep K6 (ninS ne_r0_b1 (ninS ne_r0_vb nin0))
  replace E_sp := E_sp.keep K6
  replace Fv_sp := Fv_sp.keep K6 (ninS ne_sp_b1 (ninS ne_sp_vb nin0))
  replace Fc_sp := Fc_sp.keep K6 (ninS ne_sp_b1 (ninS ne_sp_vb nin0))
  replace A_c1 := A_c1.keep K6 (ninS ne_c1_b1 (ninS ne_c1_vb nin0))
  replace E_r1 := E_r1.keep K6
  replace Fv_r1 := Fv_r1.keep K6 (ninS ne_r1_b1 (ninS ne_r1_vb nin0))
  replace Fc_r1 := Fc_r1.keep K6 (ninS ne_r1_b1 (ninS ne_r1_vb nin0))
  replace A_b := A_b.keep K6 (ninS ne_b_b1 (ninS ne_b_vb nin0))
  replace A1 := A1.keep K6
  replace X3 := X3.keep K6
  replace Fv3 := Fv3.keep K6 (ninS (Ne.symm nq_b1.1) (ninS (Ne.symm nq_vb.1) nin0))
  replace Fc3 := Fc3.keep K6 (ninS (Ne.symm nq_b1.1) (ninS (Ne.symm nq_vb.1) nin0))
  replace A3 := A3.keep K6 (ninS (Ne.symm nq_b1.2) (ninS (Ne.symm nq_vb.2) nin0))
  show OFin _ _ _ _ T6 (mkF m 19 #[.val (.ref r0), .val (.ref r1), .unset] [(.ref b1)])
  refine o_callV G6 (z := (⟨"java/lang/StringBuilder", "toString", "()Ljava/lang/String;"⟩ : MethodName)) (argsL := []) (rest := []) (W := 0) A1 (ow hw 171 rfl) (ow hw 173 rfl) (ow hw 172 rfl) (ow hw 174 rfl) d22_19 (by decide) (ow hw 117 rfl) (ow hw 175 rfl) (rm31_3 hw b1 h6 n0 G6.sz cs hcs S vb A1 Fv6 Fc6 Fn6 (fun j => if 1 ≤ j ∧ j < 1 + 2 then k (0 + (j - 1)) else (fun j => if 0 ≤ j ∧ j < 0 + 1 then (fun _ => 47) (0 + (j - 0)) else (fun _ => 0) j) j) A6) (by decide) (by decide) rfl (lenOf pd_31 rfl) rfl (Nat.le_of_eq rfl) (pc' := 22) rfl (by decide) (by decide) ?_
  rintro _ T7 h7 G7 ⟨t7, u7, rfl, gt7, ht7, hu7, K7, X7, Fv7, Fc7, A7⟩
  have H_ := H.keep K7 (fun x hx => nomatch hx)
  replace H := H_
  replace hk := Nat.le_trans hk K7.1
  replace S := o_stak S K7 (fun x hx => nomatch hx)
  replace SF := o_stak SF K7 (fun x hx => nomatch hx)
  replace K := K.trans K7 all0
  replace E_r0 := E_r0.keep K7
  replace F_sp := F_sp.keep K7 nin0
  replace E_sp := E_sp.keep K7
  replace Fv_sp := Fv_sp.keep K7 nin0
  replace Fc_sp := Fc_sp.keep K7 nin0
  replace A_c1 := A_c1.keep K7 nin0
  replace E_r1 := E_r1.keep K7
  replace Fv_r1 := Fv_r1.keep K7 nin0
  replace Fc_r1 := Fc_r1.keep K7 nin0
  replace A_b := A_b.keep K7 nin0
  replace X3 := X3.keep K7
  replace Fv3 := Fv3.keep K7 nin0
  replace Fc3 := Fc3.keep K7 nin0
  replace A3 := A3.keep K7 nin0
  show OFin _ _ _ _ T7 (mkF m 22 #[.val (.ref r0), .val (.ref r1), .unset] [(.ref t7)])
  refine o_astoreN G7 d22_22 (pc' := 23) rfl rfl (l' := #[.val (.ref r0), .val (.ref r1), .val (.ref t7)]) rfl ?_
  refine o_aloadN G7 d22_23 (pc' := 24) rfl rfl rfl ?_
  refine o_aloadN G7 d22_24 (pc' := 25) rfl rfl rfl ?_
  refine o_callV G7 (z := (⟨"java/lang/String", "startsWith", "(Ljava/lang/String;)Z"⟩ : MethodName)) (argsL := [(.ref t7)]) (rest := []) (W := 0) E_r1 (ow hw 66 rfl) (ow hw 68 rfl) (ow hw 67 rfl) (ow hw 69 rfl) d22_25 (by decide) (ow hw 9 rfl) (ow hw 70 rfl) (rm15_430e hw r1 t7 h7 n0 G7.sz cs hcs S b g E_r1 Fv_r1 Fc_r1 A_b u7 (fun j => (fun j => if 1 ≤ j ∧ j < 1 + 2 then k (0 + (j - 1)) else (fun j => if 0 ≤ j ∧ j < 0 + 1 then (fun _ => 47) (0 + (j - 0)) else (fun _ => 0) j) j) (0 + j)) X7 Fv7 Fc7 A7 (by intro i hi; match i, hi with | 0, _ => exact q0 | 1, _ => exact q1 | 2, _ => exact q2)) (by decide) (by decide) rfl (lenOf pd_32 rfl) rfl (Nat.le_of_eq rfl) (pc' := 28) rfl (by decide) (by decide) ?_
  rintro _ T8 h8 G8 ⟨rfl, hh⟩
  subst hh
  show OFin _ _ _ _ T8 (mkF m 28 #[.val (.ref r0), .val (.ref r1), .val (.ref t7)] [(.int (1 : Int32))])
  refine o_if_eq G8 d22_28 (by decide) (pcT := 42) (by decide) (pc' := 31) rfl (fun q => absurd q (by decide)) (fun _ => ?_)
  refine o_aloadN G8 d22_31 (pc' := 32) rfl rfl rfl ?_
  refine o_callV G8 (z := (⟨"java/lang/String", "length", "()I"⟩ : MethodName)) (argsL := []) (rest := []) (W := 0) E_r1 (ow hw 216 rfl) (ow hw 78 rfl) (ow hw 77 rfl) (ow hw 79 rfl) d22_32 (by decide) (ow hw 9 rfl) (ow hw 80 rfl) (rm17 hw r1 h7 n0 G8.sz cs hcs S 4 (4 : Int32) rfl (by decide) b g E_r1 Fv_r1 Fc_r1 A_b) (by decide) (by decide) rfl (lenOf pd_8 rfl) rfl (Nat.le_of_eq rfl) (pc' := 35) rfl (by decide) (by decide) ?_
  rintro _ T9 h9 G9 ⟨rfl, hh⟩
  subst hh
  show OFin _ _ _ _ T9 (mkF m 35 #[.val (.ref r0), .val (.ref r1), .val (.ref t7)] [(.int (4 : Int32))])
  refine o_aloadN G9 d22_35 (pc' := 36) rfl rfl rfl ?_
  refine o_callV G9 (z := (⟨"java/lang/String", "length", "()I"⟩ : MethodName)) (argsL := []) (rest := [(.int (4 : Int32))]) (W := 1) X7 (ow hw 216 rfl) (ow hw 78 rfl) (ow hw 77 rfl) (ow hw 79 rfl) d22_36 (by decide) (ow hw 9 rfl) (ow hw 80 rfl) (rm17 hw t7 h7 n0 G9.sz cs hcs S 3 (3 : Int32) rfl (by decide) u7 (fun j => (fun j => if 1 ≤ j ∧ j < 1 + 2 then k (0 + (j - 1)) else (fun j => if 0 ≤ j ∧ j < 0 + 1 then (fun _ => 47) (0 + (j - 0)) else (fun _ => 0) j) j) (0 + j)) X7 Fv7 Fc7 A7) (by decide) (by decide) rfl (lenOf pd_8 rfl) rfl (Nat.le_of_eq rfl) (pc' := 39) rfl (by decide) (by decide) ?_
  rintro _ T10 h10 G10 ⟨rfl, hh⟩
  subst hh
  show OFin _ _ _ _ T10 (mkF m 39 #[.val (.ref r0), .val (.ref r1), .val (.ref t7)] [(.int (3 : Int32)), (.int (4 : Int32))])
  refine o_icmp_ne G10 d22_39 (by decide) (pcT := 100) (by decide) (pc' := 42) rfl (fun _ => ?_) (fun q => absurd q (by decide))
  refine o_aloadN G10 d22_100 (pc' := 101) rfl rfl rfl ?_
  refine o_aloadN G10 d22_101 (pc' := 102) rfl rfl rfl ?_
  refine o_callV G10 (z := (⟨"java/lang/String", "length", "()I"⟩ : MethodName)) (argsL := []) (rest := [(.ref r1)]) (W := 1) X7 (ow hw 216 rfl) (ow hw 78 rfl) (ow hw 77 rfl) (ow hw 79 rfl) d22_102 (by decide) (ow hw 9 rfl) (ow hw 80 rfl) (rm17 hw t7 h7 n0 G10.sz cs hcs S 3 (3 : Int32) rfl (by decide) u7 (fun j => (fun j => if 1 ≤ j ∧ j < 1 + 2 then k (0 + (j - 1)) else (fun j => if 0 ≤ j ∧ j < 0 + 1 then (fun _ => 47) (0 + (j - 0)) else (fun _ => 0) j) j) (0 + j)) X7 Fv7 Fc7 A7) (by decide) (by decide) rfl (lenOf pd_8 rfl) rfl (Nat.le_of_eq rfl) (pc' := 105) rfl (by decide) (by decide) ?_
  rintro _ T11 h11 G11 ⟨rfl, hh⟩
  subst hh
  show OFin _ _ _ _ T11 (mkF m 105 #[.val (.ref r0), .val (.ref r1), .val (.ref t7)] [(.int (3 : Int32)), (.ref r1)])
  refine o_callV G11 (z := (⟨"java/lang/String", "substring", "(I)Ljava/lang/String;"⟩ : MethodName)) (argsL := [(.int (3 : Int32))]) (rest := []) (W := 0) E_r1 (ow hw 217 rfl) (ow hw 219 rfl) (ow hw 218 rfl) (ow hw 220 rfl) d22_105 (by decide) (ow hw 9 rfl) (ow hw 221 rfl) (rm42_4 hw r1 h7 n0 G11.sz cs hcs S fm hfm SF b g E_r1 Fv_r1 Fc_r1 A_b) (by decide) (by decide) rfl (lenOf pd_33 rfl) rfl (Nat.le_of_eq rfl) (pc' := 108) rfl (by decide) (by decide) ?_
  rintro _ T12 h12 G12 ⟨t12, u12, rfl, -, -, -, K12, -⟩
  have H_ := H.keep K12 (fun x hx => nomatch hx)
  replace H := H_
  replace hk := Nat.le_trans hk K12.1
  replace S := o_stak S K12 (fun x hx => nomatch hx)
  replace SF := o_stak SF K12 (fun x hx => nomatch hx)
  replace K := K.trans K12 all0
  replace E_r0 := E_r0.keep K12
  replace F_sp := F_sp.keep K12 nin0
  replace E_sp := E_sp.keep K12
  replace Fv_sp := Fv_sp.keep K12 nin0
  replace Fc_sp := Fc_sp.keep K12 nin0
  replace A_c1 := A_c1.keep K12 nin0
  replace E_r1 := E_r1.keep K12
  replace Fv_r1 := Fv_r1.keep K12 nin0
  replace Fc_r1 := Fc_r1.keep K12 nin0
  replace A_b := A_b.keep K12 nin0
  replace X3 := X3.keep K12
  replace Fv3 := Fv3.keep K12 nin0
  replace Fc3 := Fc3.keep K12 nin0
  replace A3 := A3.keep K12 nin0
  replace X7 := X7.keep K12
  replace Fv7 := Fv7.keep K12 nin0
  replace Fc7 := Fc7.keep K12 nin0
  replace A7 := A7.keep K12 nin0
  show OFin _ _ _ _ T12 (mkF m 108 #[.val (.ref r0), .val (.ref r1), .val (.ref t7)] [(.ref t12)])
  exact o_areturnW G12 SN hk rfl rfl rfl (Nat.le_refl _) d22_108 (fun vm1 hw1 => ⟨⟨_, rfl⟩, K, o_chw G12.wz hw1 hEL H⟩) (by decide) (by decide)
theorem d13_0 : decode prog_1_method_1_code 0 = .ok (.aload_n 0, 1) := by decide +kernel
theorem d13_1 : decode prog_1_method_1_code 1 = .ok (.invokespecial 1, 3) := by decide +kernel
theorem d13_4 : decode prog_1_method_1_code 4 = .ok (.aload_n 3, 1) := by decide +kernel
theorem d13_5 : decode prog_1_method_1_code 5 = .ok (.invokevirtual 7, 3) := by decide +kernel
theorem d13_8 : decode prog_1_method_1_code 8 = .ok (.ifCond .ne 48, 3) := by decide +kernel
theorem d13_11 : decode prog_1_method_1_code 11 = .ok (.aload_n 3, 1) := by decide +kernel
theorem d13_12 : decode prog_1_method_1_code 12 = .ok (.ldc 13, 2) := by decide +kernel
theorem d13_14 : decode prog_1_method_1_code 14 = .ok (.invokevirtual 15, 3) := by decide +kernel
theorem d13_17 : decode prog_1_method_1_code 17 = .ok (.ifCond .ne 12, 3) := by decide +kernel
theorem d13_20 : decode prog_1_method_1_code 20 = .ok (.aload_n 3, 1) := by decide +kernel
theorem d13_21 : decode prog_1_method_1_code 21 = .ok (.ldc 13, 2) := by decide +kernel
theorem d13_23 : decode prog_1_method_1_code 23 = .ok (.invokevirtual 19, 3) := by decide +kernel
theorem d13_26 : decode prog_1_method_1_code 26 = .ok (.ifCond .ne 30, 3) := by decide +kernel
theorem d13_56 : decode prog_1_method_1_code 56 = .ok (.aload_n 0, 1) := by decide +kernel
theorem d13_57 : decode prog_1_method_1_code 57 = .ok (.aload_n 1, 1) := by decide +kernel
theorem d13_58 : decode prog_1_method_1_code 58 = .ok (.ldc 40, 2) := by decide +kernel
theorem d13_60 : decode prog_1_method_1_code 60 = .ok (.invokestatic 42, 3) := by decide +kernel
theorem d13_63 : decode prog_1_method_1_code 63 = .ok (.checkcast 8, 3) := by decide +kernel
theorem d13_66 : decode prog_1_method_1_code 66 = .ok (.putfield 48, 3) := by decide +kernel
theorem d13_69 : decode prog_1_method_1_code 69 = .ok (.aload_n 0, 1) := by decide +kernel
theorem d13_70 : decode prog_1_method_1_code 70 = .ok (.aload_n 2, 1) := by decide +kernel
theorem d13_71 : decode prog_1_method_1_code 71 = .ok (.ldc 53, 2) := by decide +kernel
theorem d13_73 : decode prog_1_method_1_code 73 = .ok (.invokestatic 42, 3) := by decide +kernel
theorem d13_76 : decode prog_1_method_1_code 76 = .ok (.checkcast 8, 3) := by decide +kernel
theorem d13_79 : decode prog_1_method_1_code 79 = .ok (.putfield 55, 3) := by decide +kernel
theorem d13_82 : decode prog_1_method_1_code 82 = .ok (.aload_n 0, 1) := by decide +kernel
theorem d13_83 : decode prog_1_method_1_code 83 = .ok (.aload_n 3, 1) := by decide +kernel
theorem d13_84 : decode prog_1_method_1_code 84 = .ok (.putfield 57, 3) := by decide +kernel
theorem d13_87 : decode prog_1_method_1_code 87 = .ok (.aload_n 0, 1) := by decide +kernel
theorem d13_88 : decode prog_1_method_1_code 88 = .ok (.aload 4, 2) := by decide +kernel
theorem d13_90 : decode prog_1_method_1_code 90 = .ok (.putfield 60, 3) := by decide +kernel
theorem d13_93 : decode prog_1_method_1_code 93 = .ok (.aload_n 0, 1) := by decide +kernel
theorem d13_94 : decode prog_1_method_1_code 94 = .ok (.aload 4, 2) := by decide +kernel
theorem d13_96 : decode prog_1_method_1_code 96 = .ok (.invokevirtual 63, 3) := by decide +kernel
theorem d13_99 : decode prog_1_method_1_code 99 = .ok (.pop, 1) := by decide +kernel
theorem d13_100 : decode prog_1_method_1_code 100 = .ok (.return_, 1) := by decide +kernel
theorem pn_13 : plainName "com/example/ronda/ronda/engine/ApiVersion" = true := by first | (simp [plainName, overriddenIn]; done) | decide +kernel
theorem ef_13 (m : MethodId) (r0 : Addr) (r1 : Addr) (r2 : Addr) (r3 : Addr) (r4 : Addr) : entryFrame m #[(.ref r0), (.ref r1), (.ref r2), (.ref r3), (.ref r4)] 5 = mkF m 0 #[.val (.ref r0), .val (.ref r1), .val (.ref r2), .val (.ref r3), .val (.ref r4)] [] := by first | (simp [entryFrame, mkF, argsToLocals, Value.category]; done) | rfl
set_option maxRecDepth 65536 in
set_option maxHeartbeats 40000000 in
theorem rm13_0 {l : Launch} {Z : State} {a0 : Array Value} (hw : ∀ d ∈ tables_1, d.before a0 Z = true) (r0 : Addr) (r1 : Addr) (r2 : Addr) (r3 : Addr) (r4 : Addr) (h0 : Heap) (n0 : Nat) (hz : n0 ≤ h0.size) (cs : Int32) (hcs : ¬ cs = 0) (S : Sta Z h0 "java/lang/String" "COMPACT_STRINGS" "Z" (.int cs)) (fm : Value) (hfm : fm.isRef = true) (SF : Sta Z h0 "jdk/internal/util/Preconditions" "SIOOBE_FORMATTER" "Ljava/util/function/BiFunction;" fm) (g_r0 : n0 ≤ r0) (E_r0 : Exa Z h0 r0 "com/example/ronda/ronda/engine/ApiVersion") (F_name : Fld Z h0 r0 "com/example/ronda/ronda/engine/ApiVersion" "name" "Ljava/lang/String;" .null) (F_version : Fld Z h0 r0 "com/example/ronda/ronda/engine/ApiVersion" "version" "Ljava/lang/String;" .null) (F_servicePath : Fld Z h0 r0 "com/example/ronda/ronda/engine/ApiVersion" "servicePath" "Ljava/lang/String;" .null) (F_stopPath : Fld Z h0 r0 "com/example/ronda/ronda/engine/ApiVersion" "stopPath" "Ljava/lang/String;" .null) (y1 : Addr) (g1 : Nat → Int32) (E_r1 : Exa Z h0 r1 "java/lang/String") (Fv_r1 : Fld Z h0 r1 "java/lang/String" "value" "[B" (.ref y1)) (Fc_r1 : Fld Z h0 r1 "java/lang/String" "coder" "B" (.int (0 : Int32))) (A_y1 : OArr Z h0 y1 .byte 1 (fun j => .int (own_by (g1 j)))) (y2 : Addr) (g2 : Nat → Int32) (E_r2 : Exa Z h0 r2 "java/lang/String") (Fv_r2 : Fld Z h0 r2 "java/lang/String" "value" "[B" (.ref y2)) (Fc_r2 : Fld Z h0 r2 "java/lang/String" "coder" "B" (.int (0 : Int32))) (A_y2 : OArr Z h0 y2 .byte 1 (fun j => .int (own_by (g2 j)))) (c1 : Addr) (k : Nat → Int32) (E_r3 : Exa Z h0 r3 "java/lang/String") (Fv_r3 : Fld Z h0 r3 "java/lang/String" "value" "[B" (.ref c1)) (Fc_r3 : Fld Z h0 r3 "java/lang/String" "coder" "B" (.int (0 : Int32))) (A_c1 : OArr Z h0 c1 .byte 0 (fun j => .int (own_by (k j)))) (b : Addr) (g : Nat → Int32) (E_r4 : Exa Z h0 r4 "java/lang/String") (Fv_r4 : Fld Z h0 r4 "java/lang/String" "value" "[B" (.ref b)) (Fc_r4 : Fld Z h0 r4 "java/lang/String" "coder" "B" (.int (0 : Int32))) (A_b : OArr Z h0 b .byte 2 (fun j => .int (own_by (g j)))) (n_r1 : r1 ≠ r0) (n_y1 : y1 ≠ r0) (n_r2 : r2 ≠ r0) (n_y2 : y2 ≠ r0) (n_r3 : r3 ≠ r0) (n_c1 : c1 ≠ r0) (n_r4 : r4 ≠ r0) (n_b : b ≠ r0) (q0 : own_by (g 0) = own_by 47) :
    OMetW l Z (⟨"com/example/ronda/ronda/engine/ApiVersion", "<init>", "(Ljava/lang/String;Ljava/lang/String;Ljava/lang/String;Ljava/lang/String;)V"⟩ : MethodName) prog_1_method_1_code 5 none ({ frames := 7, cells := 18, slots := 266, locals := 113 } : Room) #[(.ref r0), (.ref r1), (.ref r2), (.ref r3), (.ref r4)] h0 n0 ({ frames := 7, cells := 18, slots := 266, locals := 113 } : Room).cells ({ frames := 7, cells := 18, slots := 266, locals := 113 } : Room).slots (fun vm => CHv Z own_EL vm h0) (fun v h vm => v = none ∧ Keep h0 h [r0] ∧ Fld Z h r0 "com/example/ronda/ronda/engine/ApiVersion" "name" "Ljava/lang/String;" (.ref r1) ∧ Fld Z h r0 "com/example/ronda/ronda/engine/ApiVersion" "version" "Ljava/lang/String;" (.ref r2) ∧ Fld Z h r0 "com/example/ronda/ronda/engine/ApiVersion" "servicePath" "Ljava/lang/String;" (.ref r3) ∧ Fld Z h r0 "com/example/ronda/ronda/engine/ApiVersion" "stopPath" "Ljava/lang/String;" (.ref r4) ∧ CHv Z own_EL vm h) := by
  refine o_bodyW (plainFor_of_name pn_13) (fun m => ef_13 m r0 r1 r2 r3 r4) ?_
  intro p e s m below meth c s₁ vm0 G0 SN hs0 H
  replace G0 := o_weak hz G0
  have hk : h0.size ≤ h0.size := Nat.le_refl _
  have hEL := own_EW hw
  have wS := own_wS hw
  have K : Keep h0 h0 [r0] := Keep.refl _ _
  refine o_aloadN G0 d13_0 (pc' := 1) rfl rfl rfl ?_
  refine o_initO G0 (ow hw 57 rfl) (ow hw 27 rfl) (ow hw 28 rfl) d13_1 (pc' := 4) rfl rfl (by decide) (W := 0) (Nat.le_of_eq rfl) (by decide) ?_
  intro T1 G1
  refine o_aloadN G1 d13_4 (pc' := 5) rfl rfl rfl ?_
  refine o_callV G1 (z := (⟨"java/lang/String", "isEmpty", "()Z"⟩ : MethodName)) (argsL := []) (rest := []) (W := 0) E_r3 (ow hw 58 rfl) (ow hw 60 rfl) (ow hw 59 rfl) (ow hw 61 rfl) d13_5 (by decide) (ow hw 9 rfl) (ow hw 62 rfl) (rm14_0 hw r3 h0 n0 G1.sz c1 k E_r3 Fv_r3 Fc_r3 A_c1) (by decide) (by decide) rfl (lenOf pd_20 rfl) rfl (Nat.le_of_eq rfl) (pc' := 8) rfl (by decide) (by decide) ?_
  rintro _ T2 h2 G2 ⟨rfl, hh⟩
  subst hh
  show OFin _ _ _ _ T2 (mkF m 8 #[.val (.ref r0), .val (.ref r1), .val (.ref r2), .val (.ref r3), .val (.ref r4)] [(.int (1 : Int32))])
  refine o_if_ne G2 d13_8 (by decide) (pcT := 56) (by decide) (pc' := 11) rfl (fun _ => ?_) (fun q => absurd q (by decide))
  refine o_aloadN G2 d13_56 (pc' := 57) rfl rfl rfl ?_
  refine o_aloadN G2 d13_57 (pc' := 58) rfl rfl rfl ?_
  refine o_ldcO G2 SN hk (n := 40) (ow hw 95 rfl) wS hEL H d13_58 (pc' := 60) rfl (by decide) (by decide) (by decide) (by decide) ?_
  intro T3 h3 vm3 a3 G3 E3 SN3 C3
  replace H := C3.1
  replace K := K.ext E3
  replace S := S.ext E3
  replace SF := SF.ext E3
  replace E_r0 := E_r0.ext E3
  replace F_name := F_name.ext E3
  replace F_version := F_version.ext E3
  replace F_servicePath := F_servicePath.ext E3
  replace F_stopPath := F_stopPath.ext E3
  replace E_r1 := E_r1.ext E3
  replace Fv_r1 := Fv_r1.ext E3
  replace Fc_r1 := Fc_r1.ext E3
  replace A_y1 := A_y1.ext E3
  replace E_r2 := E_r2.ext E3
  replace Fv_r2 := Fv_r2.ext E3
  replace Fc_r2 := Fc_r2.ext E3
  replace A_y2 := A_y2.ext E3
  replace E_r3 := E_r3.ext E3
  replace Fv_r3 := Fv_r3.ext E3
  replace Fc_r3 := Fc_r3.ext E3
  replace A_c1 := A_c1.ext E3
  replace E_r4 := E_r4.ext E3
  replace Fv_r4 := Fv_r4.ext E3
  replace Fc_r4 := Fc_r4.ext E3
  replace A_b := A_b.ext E3
  replace SN := SN3
  replace hk := Nat.le_refl h3.size
  refine o_callS G3 (z := (⟨"java/util/Objects", "requireNonNull", "(Ljava/lang/Object;Ljava/lang/String;)Ljava/lang/Object;"⟩ : MethodName)) (argsL := [(.ref r1), (.ref a3)]) (rest := [(.ref r0)]) (W := 1) (ow hw 96 rfl) (ow hw 97 rfl) d13_60 (by decide) (ow hw 98 rfl) (ow hw 99 rfl) (rm21 hw r1 a3 h3 n0 G3.sz) (by decide) (by decide) rfl (lenOf pd_34 rfl) rfl (Nat.le_of_eq rfl) (pc' := 63) rfl (by decide) (by decide) ?_
  rintro _ T4 h4 G4 ⟨rfl, hh⟩
  subst hh
  show OFin _ _ _ _ T4 (mkF m 63 #[.val (.ref r0), .val (.ref r1), .val (.ref r2), .val (.ref r3), .val (.ref r4)] [(.ref r1), (.ref r0)])
  refine o_checkcast G4 (ow hw 100 rfl) (Ins.self E_r1) d13_63 (pc' := 66) rfl ?_
  intro T5 G5
  refine o_putF G5 (host := "") (Or.inl (ow hw 101 rfl)) Via.refl F_name E_r0 (Or.inr ⟨(ow hw 102 rfl), rfl, rfl⟩) (ow hw 52 rfl) (ty := (.object "java/lang/String")) (by decide) rfl rfl g_r0 d13_66 (pc' := 69) rfl ?_
  intro T6 h6 G6 W6
  have sfw := (Safe.exa (EL := own_EL) G5.wz.alike E_r0 (by decide) (by decide))
  replace H := H.wr W6 sfw
  replace hk := Nat.le_trans hk (Nat.le_of_eq W6.size.symm)
  replace K := K.wr W6 (Or.inl (List.mem_of_getElem? (i := 0) rfl))
  replace S := S.wr W6
  replace SF := SF.wr W6
  replace E_r0 := E_r0.wr W6
  replace F_name := F_name.same W6
  replace F_version := F_version.other W6 (Or.inr (slot_ne (Or.inr (ow hw 105 rfl)) (Or.inr (ow hw 102 rfl)) (by decide) (t := (.object "java/lang/String")) (t' := (.object "java/lang/String")) (by decide) (by decide)))
  replace F_servicePath := F_servicePath.other W6 (Or.inr (slot_ne (Or.inr (ow hw 107 rfl)) (Or.inr (ow hw 102 rfl)) (by decide) (t := (.object "java/lang/String")) (t' := (.object "java/lang/String")) (by decide) (by decide)))
  replace F_stopPath := F_stopPath.other W6 (Or.inr (slot_ne (Or.inr (ow hw 109 rfl)) (Or.inr (ow hw 102 rfl)) (by decide) (t := (.object "java/lang/String")) (t' := (.object "java/lang/String")) (by decide) (by decide)))
  replace E_r1 := E_r1.wr W6
  replace Fv_r1 := Fv_r1.other W6 (Or.inl n_r1)
  replace Fc_r1 := Fc_r1.other W6 (Or.inl n_r1)
  replace A_y1 := A_y1.other W6 n_y1
  replace E_r2 := E_r2.wr W6
  replace Fv_r2 := Fv_r2.other W6 (Or.inl n_r2)
  replace Fc_r2 := Fc_r2.other W6 (Or.inl n_r2)
  replace A_y2 := A_y2.other W6 n_y2
  replace E_r3 := E_r3.wr W6
  replace Fv_r3 := Fv_r3.other W6 (Or.inl n_r3)
  replace Fc_r3 := Fc_r3.other W6 (Or.inl n_r3)
  replace A_c1 := A_c1.other W6 n_c1
  replace E_r4 := E_r4.wr W6
  replace Fv_r4 := Fv_r4.other W6 (Or.inl n_r4)
  replace Fc_r4 := Fc_r4.other W6 (Or.inl n_r4)
  replace A_b := A_b.other W6 n_b
  refine o_aloadN G6 d13_69 (pc' := 70) rfl rfl rfl ?_
  refine o_aloadN G6 d13_70 (pc' := 71) rfl rfl rfl ?_
  refine o_ldcO G6 SN hk (n := 40) (ow hw 103 rfl) wS hEL H d13_71 (pc' := 73) rfl (by decide) (by decide) (by decide) (by decide) ?_
  intro T7 h7 vm7 a7 G7 E7 SN7 C7
  replace H := C7.1
  replace K := K.ext E7
  replace S := S.ext E7
  replace SF := SF.ext E7
  replace E_r0 := E_r0.ext E7
  replace F_name := F_name.ext E7
  replace F_version := F_version.ext E7
  replace F_servicePath := F_servicePath.ext E7
  replace F_stopPath := F_stopPath.ext E7
  replace E_r1 := E_r1.ext E7
  replace Fv_r1 := Fv_r1.ext E7
  replace Fc_r1 := Fc_r1.ext E7
  replace A_y1 := A_y1.ext E7
  replace E_r2 := E_r2.ext E7
  replace Fv_r2 := Fv_r2.ext E7
  replace Fc_r2 := Fc_r2.ext E7
  replace A_y2 := A_y2.ext E7
  replace E_r3 := E_r3.ext E7
  replace Fv_r3 := Fv_r3.ext E7
  replace Fc_r3 := Fc_r3.ext E7
  replace A_c1 := A_c1.ext E7
  replace E_r4 := E_r4.ext E7
  replace Fv_r4 := Fv_r4.ext E7
  replace Fc_r4 := Fc_r4.ext E7
  replace A_b := A_b.ext E7
  replace SN := SN7
  replace hk := Nat.le_refl h7.size
  refine o_callS G7 (z := (⟨"java/util/Objects", "requireNonNull", "(Ljava/lang/Object;Ljava/lang/String;)Ljava/lang/Object;"⟩ : MethodName)) (argsL := [(.ref r2), (.ref a7)]) (rest := [(.ref r0)]) (W := 1) (ow hw 96 rfl) (ow hw 97 rfl) d13_73 (by decide) (ow hw 98 rfl) (ow hw 99 rfl) (rm21 hw r2 a7 h7 n0 G7.sz) (by decide) (by decide) rfl (lenOf pd_34 rfl) rfl (Nat.le_of_eq rfl) (pc' := 76) rfl (by decide) (by decide) ?_
  rintro _ T8 h8 G8 ⟨rfl, hh⟩
  subst hh
  show OFin _ _ _ _ T8 (mkF m 76 #[.val (.ref r0), .val (.ref r1), .val (.ref r2), .val (.ref r3), .val (.ref r4)] [(.ref r2), (.ref r0)])
  refine o_checkcast G8 (ow hw 100 rfl) (Ins.self E_r2) d13_76 (pc' := 79) rfl ?_
  intro T9 G9
  refine o_putF G9 (host := "") (Or.inl (ow hw 104 rfl)) Via.refl F_version E_r0 (Or.inr ⟨(ow hw 105 rfl), rfl, rfl⟩) (ow hw 52 rfl) (ty := (.object "java/lang/String")) (by decide) rfl rfl g_r0 d13_79 (pc' := 82) rfl ?_
  intro T10 h10 G10 W10
  have sfw := (Safe.exa (EL := own_EL) G9.wz.alike E_r0 (by decide) (by decide))
  replace H := H.wr W10 sfw
  replace hk := Nat.le_trans hk (Nat.le_of_eq W10.size.symm)
  replace K := K.wr W10 (Or.inl (List.mem_of_getElem? (i := 0) rfl))
  replace S := S.wr W10
  replace SF := SF.wr W10
  replace E_r0 := E_r0.wr W10
  replace F_name := F_name.other W10 (Or.inr (slot_ne (Or.inr (ow hw 102 rfl)) (Or.inr (ow hw 105 rfl)) (by decide) (t := (.object "java/lang/String")) (t' := (.object "java/lang/String")) (by decide) (by decide)))
  replace F_version := F_version.same W10
  replace F_servicePath := F_servicePath.other W10 (Or.inr (slot_ne (Or.inr (ow hw 107 rfl)) (Or.inr (ow hw 105 rfl)) (by decide) (t := (.object "java/lang/String")) (t' := (.object "java/lang/String")) (by decide) (by decide)))
  replace F_stopPath := F_stopPath.other W10 (Or.inr (slot_ne (Or.inr (ow hw 109 rfl)) (Or.inr (ow hw 105 rfl)) (by decide) (t := (.object "java/lang/String")) (t' := (.object "java/lang/String")) (by decide) (by decide)))
  replace E_r1 := E_r1.wr W10
  replace Fv_r1 := Fv_r1.other W10 (Or.inl n_r1)
  replace Fc_r1 := Fc_r1.other W10 (Or.inl n_r1)
  replace A_y1 := A_y1.other W10 n_y1
  replace E_r2 := E_r2.wr W10
  replace Fv_r2 := Fv_r2.other W10 (Or.inl n_r2)
  replace Fc_r2 := Fc_r2.other W10 (Or.inl n_r2)
  replace A_y2 := A_y2.other W10 n_y2
  replace E_r3 := E_r3.wr W10
  replace Fv_r3 := Fv_r3.other W10 (Or.inl n_r3)
  replace Fc_r3 := Fc_r3.other W10 (Or.inl n_r3)
  replace A_c1 := A_c1.other W10 n_c1
  replace E_r4 := E_r4.wr W10
  replace Fv_r4 := Fv_r4.other W10 (Or.inl n_r4)
  replace Fc_r4 := Fc_r4.other W10 (Or.inl n_r4)
  replace A_b := A_b.other W10 n_b
  refine o_aloadN G10 d13_82 (pc' := 83) rfl rfl rfl ?_
  refine o_aloadN G10 d13_83 (pc' := 84) rfl rfl rfl ?_
  refine o_putF G10 (host := "") (Or.inl (ow hw 106 rfl)) Via.refl F_servicePath E_r0 (Or.inr ⟨(ow hw 107 rfl), rfl, rfl⟩) (ow hw 52 rfl) (ty := (.object "java/lang/String")) (by decide) rfl rfl g_r0 d13_84 (pc' := 87) rfl ?_
  intro T11 h11 G11 W11
  have sfw := (Safe.exa (EL := own_EL) G10.wz.alike E_r0 (by decide) (by decide))
  replace H := H.wr W11 sfw
  replace hk := Nat.le_trans hk (Nat.le_of_eq W11.size.symm)
  replace K := K.wr W11 (Or.inl (List.mem_of_getElem? (i := 0) rfl))
  replace S := S.wr W11
  replace SF := SF.wr W11
  replace E_r0 := E_r0.wr W11
  replace F_name := F_name.other W11 (Or.inr (slot_ne (Or.inr (ow hw 102 rfl)) (Or.inr (ow hw 107 rfl)) (by decide) (t := (.object "java/lang/String")) (t' := (.object "java/lang/String")) (by decide) (by decide)))
  replace F_version := F_version.other W11 (Or.inr (slot_ne (Or.inr (ow hw 105 rfl)) (Or.inr (ow hw 107 rfl)) (by decide) (t := (.object "java/lang/String")) (t' := (.object "java/lang/String")) (by decide) (by decide)))
  replace F_servicePath := F_servicePath.same W11
  replace F_stopPath := F_stopPath.other W11 (Or.inr (slot_ne (Or.inr (ow hw 109 rfl)) (Or.inr (ow hw 107 rfl)) (by decide) (t := (.object "java/lang/String")) (t' := (.object "java/lang/String")) (by decide) (by decide)))
  replace E_r1 := E_r1.wr W11
  replace Fv_r1 := Fv_r1.other W11 (Or.inl n_r1)
  replace Fc_r1 := Fc_r1.other W11 (Or.inl n_r1)
  replace A_y1 := A_y1.other W11 n_y1
  replace E_r2 := E_r2.wr W11
  replace Fv_r2 := Fv_r2.other W11 (Or.inl n_r2)
  replace Fc_r2 := Fc_r2.other W11 (Or.inl n_r2)
  replace A_y2 := A_y2.other W11 n_y2
  replace E_r3 := E_r3.wr W11
  replace Fv_r3 := Fv_r3.other W11 (Or.inl n_r3)
  replace Fc_r3 := Fc_r3.other W11 (Or.inl n_r3)
  replace A_c1 := A_c1.other W11 n_c1
  replace E_r4 := E_r4.wr W11
  replace Fv_r4 := Fv_r4.other W11 (Or.inl n_r4)
  replace Fc_r4 := Fc_r4.other W11 (Or.inl n_r4)
  replace A_b := A_b.other W11 n_b
  refine o_aloadN G11 d13_87 (pc' := 88) rfl rfl rfl ?_
  refine o_aload G11 d13_88 (pc' := 90) rfl rfl rfl ?_
  refine o_putF G11 (host := "") (Or.inl (ow hw 108 rfl)) Via.refl F_stopPath E_r0 (Or.inr ⟨(ow hw 109 rfl), rfl, rfl⟩) (ow hw 52 rfl) (ty := (.object "java/lang/String")) (by decide) rfl rfl g_r0 d13_90 (pc' := 93) rfl ?_
  intro T12 h12 G12 W12
  have sfw := (Safe.exa (EL := own_EL) G11.wz.alike E_r0 (by decide) (by decide))
  replace H := H.wr W12 sfw
  replace hk := Nat.le_trans hk (Nat.le_of_eq W12.size.symm)
  replace K := K.wr W12 (Or.inl (List.mem_of_getElem? (i := 0) rfl))
  replace S := S.wr W12
  replace SF := SF.wr W12
  replace E_r0 := E_r0.wr W12
  replace F_name := F_name.other W12 (Or.inr (slot_ne (Or.inr (ow hw 102 rfl)) (Or.inr (ow hw 109 rfl)) (by decide) (t := (.object "java/lang/String")) (t' := (.object "java/lang/String")) (by decide) (by decide)))
  replace F_version := F_version.other W12 (Or.inr (slot_ne (Or.inr (ow hw 105 rfl)) (Or.inr (ow hw 109 rfl)) (by decide) (t := (.object "java/lang/String")) (t' := (.object "java/lang/String")) (by decide) (by decide)))
  replace F_servicePath := F_servicePath.other W12 (Or.inr (slot_ne (Or.inr (ow hw 107 rfl)) (Or.inr (ow hw 109 rfl)) (by decide) (t := (.object "java/lang/String")) (t' := (.object "java/lang/String")) (by decide) (by decide)))
  replace F_stopPath := F_stopPath.same W12
  replace E_r1 := E_r1.wr W12
  replace Fv_r1 := Fv_r1.other W12 (Or.inl n_r1)
  replace Fc_r1 := Fc_r1.other W12 (Or.inl n_r1)
  replace A_y1 := A_y1.other W12 n_y1
  replace E_r2 := E_r2.wr W12
  replace Fv_r2 := Fv_r2.other W12 (Or.inl n_r2)
  replace Fc_r2 := Fc_r2.other W12 (Or.inl n_r2)
  replace A_y2 := A_y2.other W12 n_y2
  replace E_r3 := E_r3.wr W12
  replace Fv_r3 := Fv_r3.other W12 (Or.inl n_r3)
  replace Fc_r3 := Fc_r3.other W12 (Or.inl n_r3)
  replace A_c1 := A_c1.other W12 n_c1
  replace E_r4 := E_r4.wr W12
  replace Fv_r4 := Fv_r4.other W12 (Or.inl n_r4)
  replace Fc_r4 := Fc_r4.other W12 (Or.inl n_r4)
  replace A_b := A_b.other W12 n_b
  refine o_aloadN G12 d13_93 (pc' := 94) rfl rfl rfl ?_
  refine o_aload G12 d13_94 (pc' := 96) rfl rfl rfl ?_
  refine o_callVW G12 SN hk (z := (⟨"com/example/ronda/ronda/engine/ApiVersion", "methodPath", "(Ljava/lang/String;)Ljava/lang/String;"⟩ : MethodName)) (argsL := [(.ref r4)]) (rest := []) (W := 0) E_r0 (ow hw 110 rfl) (ow hw 112 rfl) (ow hw 111 rfl) (ow hw 113 rfl) d13_96 (by decide) (ow hw 53 rfl) (ow hw 114 rfl) (rm22_0 hw r0 r4 h12 n0 G12.sz cs hcs S fm hfm SF E_r0 r3 F_servicePath c1 k E_r3 Fv_r3 Fc_r3 A_c1 b g E_r4 Fv_r4 Fc_r4 A_b q0) (fun vm1 hw1 => o_chw G12.wz hw1 hEL H) (by decide) (by decide) rfl (lenOf pd_35 rfl) rfl (Nat.le_of_eq rfl) (pc' := 99) rfl (by decide) (by decide) ?_
  rintro _ T13 h13 vm13 G13 SN13 - ⟨⟨a13, rfl⟩, K13, H13⟩
  replace S := o_stak S K13 (fun x hx => nomatch hx)
  replace SF := o_stak SF K13 (fun x hx => nomatch hx)
  replace K := K.trans K13 all0
  replace E_r0 := E_r0.keep K13
  replace F_name := F_name.keep K13 nin0
  replace F_version := F_version.keep K13 nin0
  replace F_servicePath := F_servicePath.keep K13 nin0
  replace F_stopPath := F_stopPath.keep K13 nin0
  replace E_r1 := E_r1.keep K13
  replace Fv_r1 := Fv_r1.keep K13 nin0
  replace Fc_r1 := Fc_r1.keep K13 nin0
  replace A_y1 := A_y1.keep K13 nin0
  replace E_r2 := E_r2.keep K13
  replace Fv_r2 := Fv_r2.keep K13 nin0
  replace Fc_r2 := Fc_r2.keep K13 nin0
  replace A_y2 := A_y2.keep K13 nin0
  replace E_r3 := E_r3.keep K13
  replace Fv_r3 := Fv_r3.keep K13 nin0
  replace Fc_r3 := Fc_r3.keep K13 nin0
  replace A_c1 := A_c1.keep K13 nin0
  replace E_r4 := E_r4.keep K13
  replace Fv_r4 := Fv_r4.keep K13 nin0
  replace Fc_r4 := Fc_r4.keep K13 nin0
  replace A_b := A_b.keep K13 nin0
  replace H := H13
  replace SN := SN13
  replace hk := Nat.le_refl h13.size
  show OFin _ _ _ _ T13 (mkF m 99 #[.val (.ref r0), .val (.ref r1), .val (.ref r2), .val (.ref r3), .val (.ref r4)] [(.ref a13)])
  refine o_pop G13 d13_99 (pc' := 100) rfl rfl ?_
  exact o_returnW G13 SN hk (Nat.le_refl _) d13_100 (fun vm1 hw1 => ⟨rfl, K, F_name, F_version, F_servicePath, F_stopPath, o_chw G13.wz hw1 hEL H⟩) (by decide) (by decide)
set_option maxRecDepth 65536 in
set_option maxHeartbeats 40000000 in
theorem rm13_2 {l : Launch} {Z : State} {a0 : Array Value} (hw : ∀ d ∈ tables_1, d.before a0 Z = true) (r0 : Addr) (r1 : Addr) (r2 : Addr) (r3 : Addr) (r4 : Addr) (h0 : Heap) (n0 : Nat) (hz : n0 ≤ h0.size) (cs : Int32) (hcs : ¬ cs = 0) (S : Sta Z h0 "java/lang/String" "COMPACT_STRINGS" "Z" (.int cs)) (fm : Value) (hfm : fm.isRef = true) (SF : Sta Z h0 "jdk/internal/util/Preconditions" "SIOOBE_FORMATTER" "Ljava/util/function/BiFunction;" fm) (g_r0 : n0 ≤ r0) (E_r0 : Exa Z h0 r0 "com/example/ronda/ronda/engine/ApiVersion") (F_name : Fld Z h0 r0 "com/example/ronda/ronda/engine/ApiVersion" "name" "Ljava/lang/String;" .null) (F_version : Fld Z h0 r0 "com/example/ronda/ronda/engine/ApiVersion" "version" "Ljava/lang/String;" .null) (F_servicePath : Fld Z h0 r0 "com/example/ronda/ronda/engine/ApiVersion" "servicePath" "Ljava/lang/String;" .null) (F_stopPath : Fld Z h0 r0 "com/example/ronda/ronda/engine/ApiVersion" "stopPath" "Ljava/lang/String;" .null) (y1 : Addr) (g1 : Nat → Int32) (E_r1 : Exa Z h0 r1 "java/lang/String") (Fv_r1 : Fld Z h0 r1 "java/lang/String" "value" "[B" (.ref y1)) (Fc_r1 : Fld Z h0 r1 "java/lang/String" "coder" "B" (.int (0 : Int32))) (A_y1 : OArr Z h0 y1 .byte 1 (fun j => .int (own_by (g1 j)))) (y2 : Addr) (g2 : Nat → Int32) (E_r2 : Exa Z h0 r2 "java/lang/String") (Fv_r2 : Fld Z h0 r2 "java/lang/String" "value" "[B" (.ref y2)) (Fc_r2 : Fld Z h0 r2 "java/lang/String" "coder" "B" (.int (0 : Int32))) (A_y2 : OArr Z h0 y2 .byte 1 (fun j => .int (own_by (g2 j)))) (c1 : Addr) (k : Nat → Int32) (E_r3 : Exa Z h0 r3 "java/lang/String") (Fv_r3 : Fld Z h0 r3 "java/lang/String" "value" "[B" (.ref c1)) (Fc_r3 : Fld Z h0 r3 "java/lang/String" "coder" "B" (.int (0 : Int32))) (A_c1 : OArr Z h0 c1 .byte 2 (fun j => .int (own_by (k j)))) (b : Addr) (g : Nat → Int32) (E_r4 : Exa Z h0 r4 "java/lang/String") (Fv_r4 : Fld Z h0 r4 "java/lang/String" "value" "[B" (.ref b)) (Fc_r4 : Fld Z h0 r4 "java/lang/String" "coder" "B" (.int (0 : Int32))) (A_b : OArr Z h0 b .byte 4 (fun j => .int (own_by (g j)))) (n_r1 : r1 ≠ r0) (n_y1 : y1 ≠ r0) (n_r2 : r2 ≠ r0) (n_y2 : y2 ≠ r0) (n_r3 : r3 ≠ r0) (n_c1 : c1 ≠ r0) (n_r4 : r4 ≠ r0) (n_b : b ≠ r0) (q0 : own_by (g 0) = own_by 47) (q1 : own_by (g 1) = own_by (k 0)) (q2 : own_by (g 2) = own_by (k 1)) (x0 : ¬ own_by (k 0) = own_by 47) (x1 : own_by (k 1) = own_by 47) :
    OMetW l Z (⟨"com/example/ronda/ronda/engine/ApiVersion", "<init>", "(Ljava/lang/String;Ljava/lang/String;Ljava/lang/String;Ljava/lang/String;)V"⟩ : MethodName) prog_1_method_1_code 5 none ({ frames := 7, cells := 18, slots := 266, locals := 113 } : Room) #[(.ref r0), (.ref r1), (.ref r2), (.ref r3), (.ref r4)] h0 n0 ({ frames := 7, cells := 18, slots := 266, locals := 113 } : Room).cells ({ frames := 7, cells := 18, slots := 266, locals := 113 } : Room).slots (fun vm => CHv Z own_EL vm h0) (fun v h vm => v = none ∧ Keep h0 h [r0] ∧ Fld Z h r0 "com/example/ronda/ronda/engine/ApiVersion" "name" "Ljava/lang/String;" (.ref r1) ∧ Fld Z h r0 "com/example/ronda/ronda/engine/ApiVersion" "version" "Ljava/lang/String;" (.ref r2) ∧ Fld Z h r0 "com/example/ronda/ronda/engine/ApiVersion" "servicePath" "Ljava/lang/String;" (.ref r3) ∧ Fld Z h r0 "com/example/ronda/ronda/engine/ApiVersion" "stopPath" "Ljava/lang/String;" (.ref r4) ∧ CHv Z own_EL vm h) := by
  refine o_bodyW (plainFor_of_name pn_13) (fun m => ef_13 m r0 r1 r2 r3 r4) ?_
  intro p e s m below meth c s₁ vm0 G0 SN hs0 H
  replace G0 := o_weak hz G0
  have hk : h0.size ≤ h0.size := Nat.le_refl _
  have hEL := own_EW hw
  have wS := own_wS hw
  have K : Keep h0 h0 [r0] := Keep.refl _ _
  refine o_aloadN G0 d13_0 (pc' := 1) rfl rfl rfl ?_
  refine o_initO G0 (ow hw 57 rfl) (ow hw 27 rfl) (ow hw 28 rfl) d13_1 (pc' := 4) rfl rfl (by decide) (W := 0) (Nat.le_of_eq rfl) (by decide) ?_
  intro T1 G1
  refine o_aloadN G1 d13_4 (pc' := 5) rfl rfl rfl ?_
  refine o_callV G1 (z := (⟨"java/lang/String", "isEmpty", "()Z"⟩ : MethodName)) (argsL := []) (rest := []) (W := 0) E_r3 (ow hw 58 rfl) (ow hw 60 rfl) (ow hw 59 rfl) (ow hw 61 rfl) d13_5 (by decide) (ow hw 9 rfl) (ow hw 62 rfl) (rm14_2 hw r3 h0 n0 G1.sz c1 k E_r3 Fv_r3 Fc_r3 A_c1) (by decide) (by decide) rfl (lenOf pd_20 rfl) rfl (Nat.le_of_eq rfl) (pc' := 8) rfl (by decide) (by decide) ?_
  rintro _ T2 h2 G2 ⟨rfl, hh⟩
  subst hh
  show OFin _ _ _ _ T2 (mkF m 8 #[.val (.ref r0), .val (.ref r1), .val (.ref r2), .val (.ref r3), .val (.ref r4)] [(.int (0 : Int32))])
  refine o_if_ne G2 d13_8 (by decide) (pcT := 56) (by decide) (pc' := 11) rfl (fun q => absurd (by decide) q) (fun _ => ?_)
  refine o_aloadN G2 d13_11 (pc' := 12) rfl rfl rfl ?_
  refine o_ldcC G2 SN hk (n := 40) (N := 1) (f := fun j => own_by ((fun _ => 47) j)) (ow hw 63 rfl) wS hEL (by decide) H (by decide) rfl (by decide) (by intro i hi; match i, hi with | 0, _ => rfl) d13_12 (pc' := 14) rfl (by decide) (by decide) (by decide) (by decide) ?_
  intro T3 h3 vm3 a3 b3 G3 E3 SN3 C3 X3 Fv3 Fc3 A3 NE3
  replace H := C3.1
  replace K := K.ext E3
  replace S := S.ext E3
  replace SF := SF.ext E3
  replace E_r0 := E_r0.ext E3
  replace F_name := F_name.ext E3
  replace F_version := F_version.ext E3
  replace F_servicePath := F_servicePath.ext E3
  replace F_stopPath := F_stopPath.ext E3
  replace E_r1 := E_r1.ext E3
  replace Fv_r1 := Fv_r1.ext E3
  replace Fc_r1 := Fc_r1.ext E3
  replace A_y1 := A_y1.ext E3
  replace E_r2 := E_r2.ext E3
  replace Fv_r2 := Fv_r2.ext E3
  replace Fc_r2 := Fc_r2.ext E3
  replace A_y2 := A_y2.ext E3
  replace E_r3 := E_r3.ext E3
  replace Fv_r3 := Fv_r3.ext E3
  replace Fc_r3 := Fc_r3.ext E3
  replace A_c1 := A_c1.ext E3
  replace E_r4 := E_r4.ext E3
  replace Fv_r4 := Fv_r4.ext E3
  replace Fc_r4 := Fc_r4.ext E3
  replace A_b := A_b.ext E3
  replace SN := SN3
  replace hk := Nat.le_refl h3.size
  refine o_callV G3 (z := (⟨"java/lang/String", "startsWith", "(Ljava/lang/String;)Z"⟩ : MethodName)) (argsL := [(.ref a3)]) (rest := []) (W := 0) E_r3 (ow hw 66 rfl) (ow hw 68 rfl) (ow hw 67 rfl) (ow hw 69 rfl) d13_14 (by decide) (ow hw 9 rfl) (ow hw 70 rfl) (rm15_210n hw r3 a3 h3 n0 G3.sz cs hcs S c1 k E_r3 Fv_r3 Fc_r3 A_c1 b3 (fun _ => 47) X3 Fv3 Fc3 A3 x0) (by decide) (by decide) rfl (lenOf pd_32 rfl) rfl (Nat.le_of_eq rfl) (pc' := 17) rfl (by decide) (by decide) ?_
  rintro _ T4 h4 G4 ⟨rfl, hh⟩
  subst hh
  show OFin _ _ _ _ T4 (mkF m 17 #[.val (.ref r0), .val (.ref r1), .val (.ref r2), .val (.ref r3), .val (.ref r4)] [(.int (0 : Int32))])
  refine o_if_ne G4 d13_17 (by decide) (pcT := 29) (by decide) (pc' := 20) rfl (fun q => absurd (by decide) q) (fun _ => ?_)
  refine o_aloadN G4 d13_20 (pc' := 21) rfl rfl rfl ?_
  refine o_ldcC G4 SN hk (n := 40) (N := 1) (f := fun j => own_by ((fun _ => 47) j)) (ow hw 63 rfl) wS hEL (by decide) H (by decide) rfl (by decide) (by intro i hi; match i, hi with | 0, _ => rfl) d13_21 (pc' := 23) rfl (by decide) (by decide) (by decide) (by decide) ?_
  intro T5 h5 vm5 a5 b5 G5 E5 SN5 C5 X5 Fv5 Fc5 A5 NE5
  replace H := C5.1
  replace K := K.ext E5
  replace S := S.ext E5
  replace SF := SF.ext E5
  replace E_r0 := E_r0.ext E5
  replace F_name := F_name.ext E5
  replace F_version := F_version.ext E5
  replace F_servicePath := F_servicePath.ext E5
  replace F_stopPath := F_stopPath.ext E5
  replace E_r1 := E_r1.ext E5
  replace Fv_r1 := Fv_r1.ext E5
  replace Fc_r1 := Fc_r1.ext E5
  replace A_y1 := A_y1.ext E5
  replace E_r2 := E_r2.ext E5
  replace Fv_r2 := Fv_r2.ext E5
  replace Fc_r2 := Fc_r2.ext E5
  replace A_y2 := A_y2.ext E5
  replace E_r3 := E_r3.ext E5
  replace Fv_r3 := Fv_r3.ext E5
  replace Fc_r3 := Fc_r3.ext E5
  replace A_c1 := A_c1.ext E5
  replace E_r4 := E_r4.ext E5
  replace Fv_r4 := Fv_r4.ext E5
  replace Fc_r4 := Fc_r4.ext E5
  replace A_b := A_b.ext E5
  replace SN := SN5
  replace hk := Nat.le_refl h5.size
  refine o_callV G5 (z := (⟨"java/lang/String", "endsWith", "(Ljava/lang/String;)Z"⟩ : MethodName)) (argsL := [(.ref a5)]) (rest := []) (W := 0) E_r3 (ow hw 90 rfl) (ow hw 92 rfl) (ow hw 91 rfl) (ow hw 93 rfl) d13_23 (by decide) (ow hw 9 rfl) (ow hw 94 rfl) (rm20_211e hw r3 a5 h5 n0 G5.sz cs hcs S c1 k E_r3 Fv_r3 Fc_r3 A_c1 b5 (fun _ => 47) X5 Fv5 Fc5 A5 (by intro i hi; match i, hi with | 0, _ => exact x1)) (by decide) (by decide) rfl (lenOf pd_32 rfl) rfl (Nat.le_of_eq rfl) (pc' := 26) rfl (by decide) (by decide) ?_
  rintro _ T6 h6 G6 ⟨rfl, hh⟩
  subst hh
  show OFin _ _ _ _ T6 (mkF m 26 #[.val (.ref r0), .val (.ref r1), .val (.ref r2), .val (.ref r3), .val (.ref r4)] [(.int (1 : Int32))])
  refine o_if_ne G6 d13_26 (by decide) (pcT := 56) (by decide) (pc' := 29) rfl (fun _ => ?_) (fun q => absurd q (by decide))
  refine o_aloadN G6 d13_56 (pc' := 57) rfl rfl rfl ?_
  refine o_aloadN G6 d13_57 (pc' := 58) rfl rfl rfl ?_
  refine o_ldcO G6 SN hk (n := 40) (ow hw 95 rfl) wS hEL H d13_58 (pc' := 60) rfl (by decide) (by decide) (by decide) (by decide) ?_
  intro T7 h7 vm7 a7 G7 E7 SN7 C7
  replace H := C7.1
  replace K := K.ext E7
  replace S := S.ext E7
  replace SF := SF.ext E7
  replace E_r0 := E_r0.ext E7
  replace F_name := F_name.ext E7
  replace F_version := F_version.ext E7
  replace F_servicePath := F_servicePath.ext E7
  replace F_stopPath := F_stopPath.ext E7
  replace E_r1 := E_r1.ext E7
  replace Fv_r1 := Fv_r1.ext E7
  replace Fc_r1 := Fc_r1.ext E7
  replace A_y1 := A_y1.ext E7
  replace E_r2 := E_r2.ext E7
  replace Fv_r2 := Fv_r2.ext E7
  replace Fc_r2 := Fc_r2.ext E7
  replace A_y2 := A_y2.ext E7
  replace E_r3 := E_r3.ext E7
  replace Fv_r3 := Fv_r3.ext E7
  replace Fc_r3 := Fc_r3.ext E7
  replace A_c1 := A_c1.ext E7
  replace E_r4 := E_r4.ext E7
  replace Fv_r4 := Fv_r4.ext E7
  replace Fc_r4 := Fc_r4.ext E7
  replace A_b := A_b.ext E7
  replace SN := SN7
  replace hk := Nat.le_refl h7.size
  refine o_callS G7 (z := (⟨"java/util/Objects", "requireNonNull", "(Ljava/lang/Object;Ljava/lang/String;)Ljava/lang/Object;"⟩ : MethodName)) (argsL := [(.ref r1), (.ref a7)]) (rest := [(.ref r0)]) (W := 1) (ow hw 96 rfl) (ow hw 97 rfl) d13_60 (by decide) (ow hw 98 rfl) (ow hw 99 rfl) (rm21 hw r1 a7 h7 n0 G7.sz) (by decide) (by decide) rfl (lenOf pd_34 rfl) rfl (Nat.le_of_eq rfl) (pc' := 63) rfl (by decide) (by decide) ?_
  rintro _ T8 h8 G8 ⟨rfl, hh⟩
  subst hh
  show OFin _ _ _ _ T8 (mkF m 63 #[.val (.ref r0), .val (.ref r1), .val (.ref r2), .val (.ref r3), .val (.ref r4)] [(.ref r1), (.ref r0)])
  refine o_checkcast G8 (ow hw 100 rfl) (Ins.self E_r1) d13_63 (pc' := 66) rfl ?_
  intro T9 G9
  refine o_putF G9 (host := "") (Or.inl (ow hw 101 rfl)) Via.refl F_name E_r0 (Or.inr ⟨(ow hw 102 rfl), rfl, rfl⟩) (ow hw 52 rfl) (ty := (.object "java/lang/String")) (by decide) rfl rfl g_r0 d13_66 (pc' := 69) rfl ?_
  intro T10 h10 G10 W10
  have sfw := (Safe.exa (EL := own_EL) G9.wz.alike E_r0 (by decide) (by decide))
  replace H := H.wr W10 sfw
  replace hk := Nat.le_trans hk (Nat.le_of_eq W10.size.symm)
  replace K := K.wr W10 (Or.inl (List.mem_of_getElem? (i := 0) rfl))
  replace S := S.wr W10
  replace SF := SF.wr W10
  replace E_r0 := E_r0.wr W10
  replace F_name := F_name.same W10
  replace F_version := F_version.other W10 (Or.inr (slot_ne (Or.inr (ow hw 105 rfl)) (Or.inr (ow hw 102 rfl)) (by decide) (t := (.object "java/lang/String")) (t' := (.object "java/lang/String")) (by decide) (by decide)))
  replace F_servicePath := F_servicePath.other W10 (Or.inr (slot_ne (Or.inr (ow hw 107 rfl)) (Or.inr (ow hw 102 rfl)) (by decide) (t := (.object "java/lang/String")) (t' := (.object "java/lang/String")) (by decide) (by decide)))
  replace F_stopPath := F_stopPath.other W10 (Or.inr (slot_ne (Or.inr (ow hw 109 rfl)) (Or.inr (ow hw 102 rfl)) (by decide) (t := (.object "java/lang/String")) (t' := (.object "java/lang/String")) (by decide) (by decide)))
  replace E_r1 := E_r1.wr W10
  replace Fv_r1 := Fv_r1.other W10 (Or.inl n_r1)
  replace Fc_r1 := Fc_r1.other W10 (Or.inl n_r1)
  replace A_y1 := A_y1.other W10 n_y1
  replace E_r2 := E_r2.wr W10
  replace Fv_r2 := Fv_r2.other W10 (Or.inl n_r2)
  replace Fc_r2 := Fc_r2.other W10 (Or.inl n_r2)
  replace A_y2 := A_y2.other W10 n_y2
  replace E_r3 := E_r3.wr W10
  replace Fv_r3 := Fv_r3.other W10 (Or.inl n_r3)
  replace Fc_r3 := Fc_r3.other W10 (Or.inl n_r3)
  replace A_c1 := A_c1.other W10 n_c1
  replace E_r4 := E_r4.wr W10
  replace Fv_r4 := Fv_r4.other W10 (Or.inl n_r4)
  replace Fc_r4 := Fc_r4.other W10 (Or.inl n_r4)
  replace A_b := A_b.other W10 n_b
  refine o_aloadN G10 d13_69 (pc' := 70) rfl rfl rfl ?_
  refine o_aloadN G10 d13_70 (pc' := 71) rfl rfl rfl ?_
  refine o_ldcO G10 SN hk (n := 40) (ow hw 103 rfl) wS hEL H d13_71 (pc' := 73) rfl (by decide) (by decide) (by decide) (by decide) ?_
  intro T11 h11 vm11 a11 G11 E11 SN11 C11
  replace H := C11.1
  replace K := K.ext E11
  replace S := S.ext E11
  replace SF := SF.ext E11
  replace E_r0 := E_r0.ext E11
  replace F_name := F_name.ext E11
  replace F_version := F_version.ext E11
  replace F_servicePath := F_servicePath.ext E11
  replace F_stopPath := F_stopPath.ext E11
  replace E_r1 := E_r1.ext E11
  replace Fv_r1 := Fv_r1.ext E11
  replace Fc_r1 := Fc_r1.ext E11
  replace A_y1 := A_y1.ext E11
  replace E_r2 := E_r2.ext E11
  replace Fv_r2 := Fv_r2.ext E11
  replace Fc_r2 := Fc_r2.ext E11
  replace A_y2 := A_y2.ext E11
  replace E_r3 := E_r3.ext E11
  replace Fv_r3 := Fv_r3.ext E11
  replace Fc_r3 := Fc_r3.ext E11
  replace A_c1 := A_c1.ext E11
  replace E_r4 := E_r4.ext E11
  replace Fv_r4 := Fv_r4.ext E11
  replace Fc_r4 := Fc_r4.ext E11
  replace A_b := A_b.ext E11
  replace SN := SN11
  replace hk := Nat.le_refl h11.size
  refine o_callS G11 (z := (⟨"java/util/Objects", "requireNonNull", "(Ljava/lang/Object;Ljava/lang/String;)Ljava/lang/Object;"⟩ : MethodName)) (argsL := [(.ref r2), (.ref a11)]) (rest := [(.ref r0)]) (W := 1) (ow hw 96 rfl) (ow hw 97 rfl) d13_73 (by decide) (ow hw 98 rfl) (ow hw 99 rfl) (rm21 hw r2 a11 h11 n0 G11.sz) (by decide) (by decide) rfl (lenOf pd_34 rfl) rfl (Nat.le_of_eq rfl) (pc' := 76) rfl (by decide) (by decide) ?_
  rintro _ T12 h12 G12 ⟨rfl, hh⟩
  subst hh
  show OFin _ _ _ _ T12 (mkF m 76 #[.val (.ref r0), .val (.ref r1), .val (.ref r2), .val (.ref r3), .val (.ref r4)] [(.ref r2), (.ref r0)])
  refine o_checkcast G12 (ow hw 100 rfl) (Ins.self E_r2) d13_76 (pc' := 79) rfl ?_
  intro T13 G13
  refine o_putF G13 (host := "") (Or.inl (ow hw 104 rfl)) Via.refl F_version E_r0 (Or.inr ⟨(ow hw 105 rfl), rfl, rfl⟩) (ow hw 52 rfl) (ty := (.object "java/lang/String")) (by decide) rfl rfl g_r0 d13_79 (pc' := 82) rfl ?_
  intro T14 h14 G14 W14
  have sfw := (Safe.exa (EL := own_EL) G13.wz.alike E_r0 (by decide) (by decide))
  replace H := H.wr W14 sfw
  replace hk := Nat.le_trans hk (Nat.le_of_eq W14.size.symm)
  replace K := K.wr W14 (Or.inl (List.mem_of_getElem? (i := 0) rfl))
  replace S := S.wr W14
  replace SF := SF.wr W14
  replace E_r0 := E_r0.wr W14
  replace F_name := F_name.other W14 (Or.inr (slot_ne (Or.inr (ow hw 102 rfl)) (Or.inr (ow hw 105 rfl)) (by decide) (t := (.object "java/lang/String")) (t' := (.object "java/lang/String")) (by decide) (by decide)))
  replace F_version := F_version.same W14
  replace F_servicePath := F_servicePath.other W14 (Or.inr (slot_ne (Or.inr (ow hw 107 rfl)) (Or.inr (ow hw 105 rfl)) (by decide) (t := (.object "java/lang/String")) (t' := (.object "java/lang/String")) (by decide) (by decide)))
  replace F_stopPath := F_stopPath.other W14 (Or.inr (slot_ne (Or.inr (ow hw 109 rfl)) (Or.inr (ow hw 105 rfl)) (by decide) (t := (.object "java/lang/String")) (t' := (.object "java/lang/String")) (by decide) (by decide)))
  replace E_r1 := E_r1.wr W14
  replace Fv_r1 := Fv_r1.other W14 (Or.inl n_r1)
  replace Fc_r1 := Fc_r1.other W14 (Or.inl n_r1)
  replace A_y1 := A_y1.other W14 n_y1
  replace E_r2 := E_r2.wr W14
  replace Fv_r2 := Fv_r2.other W14 (Or.inl n_r2)
  replace Fc_r2 := Fc_r2.other W14 (Or.inl n_r2)
  replace A_y2 := A_y2.other W14 n_y2
  replace E_r3 := E_r3.wr W14
  replace Fv_r3 := Fv_r3.other W14 (Or.inl n_r3)
  replace Fc_r3 := Fc_r3.other W14 (Or.inl n_r3)
  replace A_c1 := A_c1.other W14 n_c1
  replace E_r4 := E_r4.wr W14
  replace Fv_r4 := Fv_r4.other W14 (Or.inl n_r4)
  replace Fc_r4 := Fc_r4.other W14 (Or.inl n_r4)
  replace A_b := A_b.other W14 n_b
  refine o_aloadN G14 d13_82 (pc' := 83) rfl rfl rfl ?_
  refine o_aloadN G14 d13_83 (pc' := 84) rfl rfl rfl ?_
  refine o_putF G14 (host := "") (Or.inl (ow hw 106 rfl)) Via.refl F_servicePath E_r0 (Or.inr ⟨(ow hw 107 rfl), rfl, rfl⟩) (ow hw 52 rfl) (ty := (.object "java/lang/String")) (by decide) rfl rfl g_r0 d13_84 (pc' := 87) rfl ?_
  intro T15 h15 G15 W15
  have sfw := (Safe.exa (EL := own_EL) G14.wz.alike E_r0 (by decide) (by decide))
  replace H := H.wr W15 sfw
  replace hk := Nat.le_trans hk (Nat.le_of_eq W15.size.symm)
  replace K := K.wr W15 (Or.inl (List.mem_of_getElem? (i := 0) rfl))
  replace S := S.wr W15
  replace SF := SF.wr W15
  replace E_r0 := E_r0.wr W15
  replace F_name := F_name.other W15 (Or.inr (slot_ne (Or.inr (ow hw 102 rfl)) (Or.inr (ow hw 107 rfl)) (by decide) (t := (.object "java/lang/String")) (t' := (.object "java/lang/String")) (by decide) (by decide)))
  replace F_version := F_version.other W15 (Or.inr (slot_ne (Or.inr (ow hw 105 rfl)) (Or.inr (ow hw 107 rfl)) (by decide) (t := (.object "java/lang/String")) (t' := (.object "java/lang/String")) (by decide) (by decide)))
  replace F_servicePath := F_servicePath.same W15
  replace F_stopPath := F_stopPath.other W15 (Or.inr (slot_ne (Or.inr (ow hw 109 rfl)) (Or.inr (ow hw 107 rfl)) (by decide) (t := (.object "java/lang/String")) (t' := (.object "java/lang/String")) (by decide) (by decide)))
  replace E_r1 := E_r1.wr W15
  replace Fv_r1 := Fv_r1.other W15 (Or.inl n_r1)
  replace Fc_r1 := Fc_r1.other W15 (Or.inl n_r1)
  replace A_y1 := A_y1.other W15 n_y1
  replace E_r2 := E_r2.wr W15
  replace Fv_r2 := Fv_r2.other W15 (Or.inl n_r2)
  replace Fc_r2 := Fc_r2.other W15 (Or.inl n_r2)
  replace A_y2 := A_y2.other W15 n_y2
  replace E_r3 := E_r3.wr W15
  replace Fv_r3 := Fv_r3.other W15 (Or.inl n_r3)
  replace Fc_r3 := Fc_r3.other W15 (Or.inl n_r3)
  replace A_c1 := A_c1.other W15 n_c1
  replace E_r4 := E_r4.wr W15
  replace Fv_r4 := Fv_r4.other W15 (Or.inl n_r4)
  replace Fc_r4 := Fc_r4.other W15 (Or.inl n_r4)
  replace A_b := A_b.other W15 n_b
  refine o_aloadN G15 d13_87 (pc' := 88) rfl rfl rfl ?_
  refine o_aload G15 d13_88 (pc' := 90) rfl rfl rfl ?_
  refine o_putF G15 (host := "") (Or.inl (ow hw 108 rfl)) Via.refl F_stopPath E_r0 (Or.inr ⟨(ow hw 109 rfl), rfl, rfl⟩) (ow hw 52 rfl) (ty := (.object "java/lang/String")) (by decide) rfl rfl g_r0 d13_90 (pc' := 93) rfl ?_
  intro T16 h16 G16 W16
  have sfw := (Safe.exa (EL := own_EL) G15.wz.alike E_r0 (by decide) (by decide))
  replace H := H.wr W16 sfw
  replace hk := Nat.le_trans hk (Nat.le_of_eq W16.size.symm)
  replace K := K.wr W16 (Or.inl (List.mem_of_getElem? (i := 0) rfl))
  replace S := S.wr W16
  replace SF := SF.wr W16
  replace E_r0 := E_r0.wr W16
  replace F_name := F_name.other W16 (Or.inr (slot_ne (Or.inr (ow hw 102 rfl)) (Or.inr (ow hw 109 rfl)) (by decide) (t := (.object "java/lang/String")) (t' := (.object "java/lang/String")) (by decide) (by decide)))
  replace F_version := F_version.other W16 (Or.inr (slot_ne (Or.inr (ow hw 105 rfl)) (Or.inr (ow hw 109 rfl)) (by decide) (t := (.object "java/lang/String")) (t' := (.object "java/lang/String")) (by decide) (by decide)))
  replace F_servicePath := F_servicePath.other W16 (Or.inr (slot_ne (Or.inr (ow hw 107 rfl)) (Or.inr (ow hw 109 rfl)) (by decide) (t := (.object "java/lang/String")) (t' := (.object "java/lang/String")) (by decide) (by decide)))
  replace F_stopPath := F_stopPath.same W16
  replace E_r1 := E_r1.wr W16
  replace Fv_r1 := Fv_r1.other W16 (Or.inl n_r1)
  replace Fc_r1 := Fc_r1.other W16 (Or.inl n_r1)
  replace A_y1 := A_y1.other W16 n_y1
  replace E_r2 := E_r2.wr W16
  replace Fv_r2 := Fv_r2.other W16 (Or.inl n_r2)
  replace Fc_r2 := Fc_r2.other W16 (Or.inl n_r2)
  replace A_y2 := A_y2.other W16 n_y2
  replace E_r3 := E_r3.wr W16
  replace Fv_r3 := Fv_r3.other W16 (Or.inl n_r3)
  replace Fc_r3 := Fc_r3.other W16 (Or.inl n_r3)
  replace A_c1 := A_c1.other W16 n_c1
  replace E_r4 := E_r4.wr W16
  replace Fv_r4 := Fv_r4.other W16 (Or.inl n_r4)
  replace Fc_r4 := Fc_r4.other W16 (Or.inl n_r4)
  replace A_b := A_b.other W16 n_b
  refine o_aloadN G16 d13_93 (pc' := 94) rfl rfl rfl ?_
  refine o_aload G16 d13_94 (pc' := 96) rfl rfl rfl ?_
  refine o_callVW G16 SN hk (z := (⟨"com/example/ronda/ronda/engine/ApiVersion", "methodPath", "(Ljava/lang/String;)Ljava/lang/String;"⟩ : MethodName)) (argsL := [(.ref r4)]) (rest := []) (W := 0) E_r0 (ow hw 110 rfl) (ow hw 112 rfl) (ow hw 111 rfl) (ow hw 113 rfl) d13_96 (by decide) (ow hw 53 rfl) (ow hw 114 rfl) (rm22_2 hw r0 r4 h16 n0 G16.sz cs hcs S fm hfm SF E_r0 r3 F_servicePath c1 k E_r3 Fv_r3 Fc_r3 A_c1 b g E_r4 Fv_r4 Fc_r4 A_b q0 q1 q2) (fun vm1 hw1 => o_chw G16.wz hw1 hEL H) (by decide) (by decide) rfl (lenOf pd_35 rfl) rfl (Nat.le_of_eq rfl) (pc' := 99) rfl (by decide) (by decide) ?_
  rintro _ T17 h17 vm17 G17 SN17 - ⟨⟨a17, rfl⟩, K17, H17⟩
  replace S := o_stak S K17 (fun x hx => nomatch hx)
  replace SF := o_stak SF K17 (fun x hx => nomatch hx)
  replace K := K.trans K17 all0
  replace E_r0 := E_r0.keep K17
  replace F_name := F_name.keep K17 nin0
  replace F_version := F_version.keep K17 nin0
  replace F_servicePath := F_servicePath.keep K17 nin0
  replace F_stopPath := F_stopPath.keep K17 nin0
  replace E_r1 := E_r1.keep K17
  replace Fv_r1 := Fv_r1.keep K17 nin0
  replace Fc_r1 := Fc_r1.keep K17 nin0
  replace A_y1 := A_y1.keep K17 nin0
  replace E_r2 := E_r2.keep K17
  replace Fv_r2 := Fv_r2.keep K17 nin0
  replace Fc_r2 := Fc_r2.keep K17 nin0
  replace A_y2 := A_y2.keep K17 nin0
  replace E_r3 := E_r3.keep K17
  replace Fv_r3 := Fv_r3.keep K17 nin0
  replace Fc_r3 := Fc_r3.keep K17 nin0
  replace A_c1 := A_c1.keep K17 nin0
  replace E_r4 := E_r4.keep K17
  replace Fv_r4 := Fv_r4.keep K17 nin0
  replace Fc_r4 := Fc_r4.keep K17 nin0
  replace A_b := A_b.keep K17 nin0
  replace H := H17
  replace SN := SN17
  replace hk := Nat.le_refl h17.size
  show OFin _ _ _ _ T17 (mkF m 99 #[.val (.ref r0), .val (.ref r1), .val (.ref r2), .val (.ref r3), .val (.ref r4)] [(.ref a17)])
  refine o_pop G17 d13_99 (pc' := 100) rfl rfl ?_
  exact o_returnW G17 SN hk (Nat.le_refl _) d13_100 (fun vm1 hw1 => ⟨rfl, K, F_name, F_version, F_servicePath, F_stopPath, o_chw G17.wz hw1 hEL H⟩) (by decide) (by decide)
theorem own_nc0 : ∀ k : Fin 256, nar .char (Int32.ofNat k.val) = Int32.ofNat k.val := by decide +kernel
theorem own_nc (x : Int32) (h : 0 ≤ x.toInt ∧ x.toInt ≤ 255) : nar .char x = x := by
  have e : x = Int32.ofNat x.toInt.toNat := by
    apply Int32.toInt_inj.mp
    have q : (Int32.ofNat x.toInt.toNat).toInt = (x.toInt.toNat : Int) := Int32.toInt_ofNat_of_lt (by omega)
    rw [q]; omega
  have := own_nc0 ⟨x.toInt.toNat, by omega⟩
  rw [← e] at this
  exact this
theorem own_le255 (x : Int32) (h : 0 ≤ x.toInt ∧ x.toInt ≤ 255) : ¬ (255 : Int32) < x := by
  rw [Int32.lt_iff_toInt_lt]; have : (255 : Int32).toInt = 255 := rfl
  omega
def own_c2 (x y : Int32) (j : Nat) : Int32 := match j with | 0 => x | _ => y
def own_c4 (x y z w : Int32) (j : Nat) : Int32 := match j with | 0 => x | 1 => y | 2 => z | _ => w
theorem d2_0 : decode method_4_code 0 = .ok (.iload_n 0, 1) := by decide +kernel
theorem d2_1 : decode method_4_code 1 = .ok (.invokestatic 29, 3) := by decide +kernel
theorem d2_4 : decode method_4_code 4 = .ok (.astore 5, 2) := by decide +kernel
theorem d2_6 : decode method_4_code 6 = .ok (.iload_n 1, 1) := by decide +kernel
theorem d2_7 : decode method_4_code 7 = .ok (.invokestatic 29, 3) := by decide +kernel
theorem d2_10 : decode method_4_code 10 = .ok (.astore 6, 2) := by decide +kernel
theorem d2_12 : decode method_4_code 12 = .ok (.iload_n 2, 1) := by decide +kernel
theorem d2_13 : decode method_4_code 13 = .ok (.ifCond .eq 8, 3) := by decide +kernel
theorem d2_16 : decode method_4_code 16 = .ok (.ldc 34, 2) := by decide +kernel
theorem d2_18 : decode method_4_code 18 = .ok (.goto 22, 3) := by decide +kernel
theorem d2_21 : decode method_4_code 21 = .ok (.new 30, 3) := by decide +kernel
theorem d2_24 : decode method_4_code 24 = .ok (.dup, 1) := by decide +kernel
theorem d2_25 : decode method_4_code 25 = .ok (.iconst 2, 1) := by decide +kernel
theorem d2_26 : decode method_4_code 26 = .ok (.newarray .char, 2) := by decide +kernel
theorem d2_28 : decode method_4_code 28 = .ok (.dup, 1) := by decide +kernel
theorem d2_29 : decode method_4_code 29 = .ok (.iconst 0, 1) := by decide +kernel
theorem d2_30 : decode method_4_code 30 = .ok (.iload_n 3, 1) := by decide +kernel
theorem d2_31 : decode method_4_code 31 = .ok (.castore, 1) := by decide +kernel
theorem d2_32 : decode method_4_code 32 = .ok (.dup, 1) := by decide +kernel
theorem d2_33 : decode method_4_code 33 = .ok (.iconst 1, 1) := by decide +kernel
theorem d2_34 : decode method_4_code 34 = .ok (.bipush 47, 2) := by decide +kernel
theorem d2_36 : decode method_4_code 36 = .ok (.castore, 1) := by decide +kernel
theorem d2_37 : decode method_4_code 37 = .ok (.invokespecial 36, 3) := by decide +kernel
theorem d2_40 : decode method_4_code 40 = .ok (.astore 7, 2) := by decide +kernel
theorem d2_42 : decode method_4_code 42 = .ok (.iload_n 2, 1) := by decide +kernel
theorem d2_43 : decode method_4_code 43 = .ok (.ifCond .eq 26, 3) := by decide +kernel
theorem d2_46 : decode method_4_code 46 = .ok (.new 30, 3) := by decide +kernel
theorem d2_49 : decode method_4_code 49 = .ok (.dup, 1) := by decide +kernel
theorem d2_50 : decode method_4_code 50 = .ok (.iconst 2, 1) := by decide +kernel
theorem d2_51 : decode method_4_code 51 = .ok (.newarray .char, 2) := by decide +kernel
theorem d2_53 : decode method_4_code 53 = .ok (.dup, 1) := by decide +kernel
theorem d2_54 : decode method_4_code 54 = .ok (.iconst 0, 1) := by decide +kernel
theorem d2_55 : decode method_4_code 55 = .ok (.bipush 47, 2) := by decide +kernel
theorem d2_57 : decode method_4_code 57 = .ok (.castore, 1) := by decide +kernel
theorem d2_58 : decode method_4_code 58 = .ok (.dup, 1) := by decide +kernel
theorem d2_59 : decode method_4_code 59 = .ok (.iconst 1, 1) := by decide +kernel
theorem d2_60 : decode method_4_code 60 = .ok (.iload 4, 2) := by decide +kernel
theorem d2_62 : decode method_4_code 62 = .ok (.castore, 1) := by decide +kernel
theorem d2_63 : decode method_4_code 63 = .ok (.invokespecial 36, 3) := by decide +kernel
theorem d2_66 : decode method_4_code 66 = .ok (.goto 32, 3) := by decide +kernel
theorem d2_69 : decode method_4_code 69 = .ok (.new 30, 3) := by decide +kernel
theorem d2_72 : decode method_4_code 72 = .ok (.dup, 1) := by decide +kernel
theorem d2_73 : decode method_4_code 73 = .ok (.iconst 4, 1) := by decide +kernel
theorem d2_74 : decode method_4_code 74 = .ok (.newarray .char, 2) := by decide +kernel
theorem d2_76 : decode method_4_code 76 = .ok (.dup, 1) := by decide +kernel
theorem d2_77 : decode method_4_code 77 = .ok (.iconst 0, 1) := by decide +kernel
theorem d2_78 : decode method_4_code 78 = .ok (.bipush 47, 2) := by decide +kernel
theorem d2_80 : decode method_4_code 80 = .ok (.castore, 1) := by decide +kernel
theorem d2_81 : decode method_4_code 81 = .ok (.dup, 1) := by decide +kernel
theorem d2_82 : decode method_4_code 82 = .ok (.iconst 1, 1) := by decide +kernel
theorem d2_83 : decode method_4_code 83 = .ok (.iload_n 3, 1) := by decide +kernel
theorem d2_84 : decode method_4_code 84 = .ok (.castore, 1) := by decide +kernel
theorem d2_85 : decode method_4_code 85 = .ok (.dup, 1) := by decide +kernel
theorem d2_86 : decode method_4_code 86 = .ok (.iconst 2, 1) := by decide +kernel
theorem d2_87 : decode method_4_code 87 = .ok (.bipush 47, 2) := by decide +kernel
theorem d2_89 : decode method_4_code 89 = .ok (.castore, 1) := by decide +kernel
theorem d2_90 : decode method_4_code 90 = .ok (.dup, 1) := by decide +kernel
theorem d2_91 : decode method_4_code 91 = .ok (.iconst 3, 1) := by decide +kernel
theorem d2_92 : decode method_4_code 92 = .ok (.iload 4, 2) := by decide +kernel
theorem d2_94 : decode method_4_code 94 = .ok (.castore, 1) := by decide +kernel
theorem d2_95 : decode method_4_code 95 = .ok (.invokespecial 36, 3) := by decide +kernel
theorem d2_98 : decode method_4_code 98 = .ok (.astore 8, 2) := by decide +kernel
theorem d2_100 : decode method_4_code 100 = .ok (.new 18, 3) := by decide +kernel
theorem d2_103 : decode method_4_code 103 = .ok (.dup, 1) := by decide +kernel
theorem d2_104 : decode method_4_code 104 = .ok (.aload 5, 2) := by decide +kernel
theorem d2_106 : decode method_4_code 106 = .ok (.aload 6, 2) := by decide +kernel
theorem d2_108 : decode method_4_code 108 = .ok (.aload 7, 2) := by decide +kernel
theorem d2_110 : decode method_4_code 110 = .ok (.aload 8, 2) := by decide +kernel
theorem d2_112 : decode method_4_code 112 = .ok (.invokespecial 39, 3) := by decide +kernel
theorem d2_115 : decode method_4_code 115 = .ok (.areturn, 1) := by decide +kernel
theorem pn_2 : plainName "com/example/ronda/ronda/engine/ApiVersionEqualsPinLaw" = true := by first | (simp [plainName, overriddenIn]; done) | decide +kernel
theorem ef_2 (m : MethodId) (p0 : Int32) (p1 : Int32) (p2 : Int32) (p3 : Int32) (p4 : Int32) : entryFrame m #[(.int p0), (.int p1), (.int p2), (.int p3), (.int p4)] 9 = mkF m 0 #[.val (.int p0), .val (.int p1), .val (.int p2), .val (.int p3), .val (.int p4), .unset, .unset, .unset, .unset] [] := by first | (simp [entryFrame, mkF, argsToLocals, Value.category]; done) | rfl
set_option maxRecDepth 65536 in
set_option maxHeartbeats 40000000 in
theorem rm2_0 {l : Launch} {Z : State} {a0 : Array Value} (hw : ∀ d ∈ tables_1, d.before a0 Z = true) (p0 : Int32) (p1 : Int32) (p3 : Int32) (p4 : Int32) (h0 : Heap) (n0 : Nat) (hz : n0 ≤ h0.size) (cs : Int32) (hcs : ¬ cs = 0) (S : Sta Z h0 "java/lang/String" "COMPACT_STRINGS" "Z" (.int cs)) (fm : Value) (hfm : fm.isRef = true) (SF : Sta Z h0 "jdk/internal/util/Preconditions" "SIOOBE_FORMATTER" "Ljava/util/function/BiFunction;" fm) (h_p0 : 0 ≤ p0.toInt ∧ p0.toInt ≤ 255) (h_p1 : 0 ≤ p1.toInt ∧ p1.toInt ≤ 255) (h_p3 : 0 ≤ p3.toInt ∧ p3.toInt ≤ 255) (h_p4 : 0 ≤ p4.toInt ∧ p4.toInt ≤ 255) (hsl : ¬ own_by p3 = own_by 47) :
    OMetW l Z (⟨"com/example/ronda/ronda/engine/ApiVersionEqualsPinLaw", "make", "(CCZCC)Lcom/example/ronda/ronda/engine/ApiVersion;"⟩ : MethodName) method_4_code 9 (some (.object "com/example/ronda/ronda/engine/ApiVersion")) ({ frames := 8, cells := 32, slots := 350, locals := 130 } : Room) #[(.int p0), (.int p1), (.int (0 : Int32)), (.int p3), (.int p4)] h0 n0 ({ frames := 8, cells := 32, slots := 350, locals := 130 } : Room).cells ({ frames := 8, cells := 32, slots := 350, locals := 130 } : Room).slots (fun vm => CHv Z own_EL vm h0) (fun v h vm => ∃ o a1 c1 a2 c2 a3 c3 a4 c4 : Addr, v = some (.ref o) ∧ (h0.size ≤ o ∧ h0.size ≤ a1 ∧ h0.size ≤ a2 ∧ h0.size ≤ a3 ∧ h0.size ≤ a4) ∧ Keep h0 h [] ∧ Exa Z h o "com/example/ronda/ronda/engine/ApiVersion" ∧ (Fld Z h o "com/example/ronda/ronda/engine/ApiVersion" "name" "Ljava/lang/String;" (.ref a1) ∧ Fld Z h o "com/example/ronda/ronda/engine/ApiVersion" "version" "Ljava/lang/String;" (.ref a2) ∧ Fld Z h o "com/example/ronda/ronda/engine/ApiVersion" "servicePath" "Ljava/lang/String;" (.ref a3) ∧ Fld Z h o "com/example/ronda/ronda/engine/ApiVersion" "stopPath" "Ljava/lang/String;" (.ref a4)) ∧ (Exa Z h a1 "java/lang/String" ∧ Fld Z h a1 "java/lang/String" "value" "[B" (.ref c1) ∧ Fld Z h a1 "java/lang/String" "coder" "B" (.int (0 : Int32)) ∧ OArr Z h c1 .byte 1 (fun j => .int (own_by ((fun _ => p0) j)))) ∧ (Exa Z h a2 "java/lang/String" ∧ Fld Z h a2 "java/lang/String" "value" "[B" (.ref c2) ∧ Fld Z h a2 "java/lang/String" "coder" "B" (.int (0 : Int32)) ∧ OArr Z h c2 .byte 1 (fun j => .int (own_by ((fun _ => p1) j)))) ∧ (Exa Z h a3 "java/lang/String" ∧ Fld Z h a3 "java/lang/String" "value" "[B" (.ref c3) ∧ Fld Z h a3 "java/lang/String" "coder" "B" (.int (0 : Int32)) ∧ OArr Z h c3 .byte 2 (fun j => .int (own_by ((own_c2 p3 47) j)))) ∧ (Exa Z h a4 "java/lang/String" ∧ Fld Z h a4 "java/lang/String" "value" "[B" (.ref c4) ∧ Fld Z h a4 "java/lang/String" "coder" "B" (.int (0 : Int32)) ∧ OArr Z h c4 .byte 4 (fun j => .int (own_by ((own_c4 47 p3 47 p4) j)))) ∧ CHv Z own_EL vm h) := by
  refine o_bodyW (plainFor_of_name pn_2) (fun m => ef_2 m p0 p1 (0 : Int32) p3 p4) ?_
  intro p e s m below meth c s₁ vm0 G0 SN hs0 H
  replace G0 := o_weak hz G0
  have hk : h0.size ≤ h0.size := Nat.le_refl _
  have hEL := own_EW hw
  have wS := own_wS hw
  have K : Keep h0 h0 [] := Keep.refl _ _
  refine o_iloadN G0 d2_0 (pc' := 1) rfl rfl ?_
  refine o_callS G0 (z := (⟨"java/lang/String", "valueOf", "(C)Ljava/lang/String;"⟩ : MethodName)) (argsL := [(.int p0)]) (rest := []) (W := 0) (ow hw 7 rfl) (ow hw 8 rfl) d2_1 (by decide) (ow hw 9 rfl) (ow hw 10 rfl) (rm3 hw p0 h0 n0 G0.sz cs hcs S (own_le255 _ h_p0)) (by decide) (by decide) rfl (lenOf pd_36 rfl) rfl (Nat.le_of_eq rfl) (pc' := 4) rfl (by decide) (by decide) ?_
  rintro _ T1 h1 G1 ⟨t1, u1, rfl, gt1, ht1, hu1, K1, X1, Fv1, Fc1, A1⟩
  have sz_t1 : h0.size ≤ t1 := Nat.le_trans K.1 ht1
  have sz_u1 : h0.size ≤ u1 := Nat.le_trans K.1 hu1
  have H_ := H.keep K1 (fun x hx => nomatch hx)
  replace H := H_
  replace hk := Nat.le_trans hk K1.1
  replace S := o_stak S K1 (fun x hx => nomatch hx)
  replace SF := o_stak SF K1 (fun x hx => nomatch hx)
  replace K := K.trans K1 all0
  show OFin _ _ _ _ T1 (mkF m 4 #[.val (.int p0), .val (.int p1), .val (.int (0 : Int32)), .val (.int p3), .val (.int p4), .unset, .unset, .unset, .unset] [(.ref t1)])
  refine o_astore G1 d2_4 (pc' := 6) rfl rfl (l' := #[.val (.int p0), .val (.int p1), .val (.int (0 : Int32)), .val (.int p3), .val (.int p4), .val (.ref t1), .unset, .unset, .unset]) rfl ?_
  refine o_iloadN G1 d2_6 (pc' := 7) rfl rfl ?_
  refine o_callS G1 (z := (⟨"java/lang/String", "valueOf", "(C)Ljava/lang/String;"⟩ : MethodName)) (argsL := [(.int p1)]) (rest := []) (W := 0) (ow hw 7 rfl) (ow hw 8 rfl) d2_7 (by decide) (ow hw 9 rfl) (ow hw 10 rfl) (rm3 hw p1 h1 n0 G1.sz cs hcs S (own_le255 _ h_p1)) (by decide) (by decide) rfl (lenOf pd_36 rfl) rfl (Nat.le_of_eq rfl) (pc' := 10) rfl (by decide) (by decide) ?_
  rintro _ T2 h2 G2 ⟨t2, u2, rfl, gt2, ht2, hu2, K2, X2, Fv2, Fc2, A2⟩
  have ne_t1_t2 : t1 ≠ t2 := Nat.ne_of_lt (Nat.lt_of_lt_of_le X1.lt ht2)
  have ne_u1_t2 : u1 ≠ t2 := Nat.ne_of_lt (Nat.lt_of_lt_of_le A1.lt ht2)
  have sz_t2 : h0.size ≤ t2 := Nat.le_trans K.1 ht2
  have ne_t1_u2 : t1 ≠ u2 := Nat.ne_of_lt (Nat.lt_of_lt_of_le X1.lt hu2)
  have ne_u1_u2 : u1 ≠ u2 := Nat.ne_of_lt (Nat.lt_of_lt_of_le A1.lt hu2)
  have sz_u2 : h0.size ≤ u2 := Nat.le_trans K.1 hu2
  have H_ := H.keep K2 (fun x hx => nomatch hx)
  replace H := H_
  replace hk := Nat.le_trans hk K2.1
  replace S := o_stak S K2 (fun x hx => nomatch hx)
  replace SF := o_stak SF K2 (fun x hx => nomatch hx)
  replace K := K.trans K2 all0
  replace X1 := X1.keep K2
  replace Fv1 := Fv1.keep K2 nin0
  replace Fc1 := Fc1.keep K2 nin0
  replace A1 := A1.keep K2 nin0
  show OFin _ _ _ _ T2 (mkF m 10 #[.val (.int p0), .val (.int p1), .val (.int (0 : Int32)), .val (.int p3), .val (.int p4), .val (.ref t1), .unset, .unset, .unset] [(.ref t2)])
  refine o_astore G2 d2_10 (pc' := 12) rfl rfl (l' := #[.val (.int p0), .val (.int p1), .val (.int (0 : Int32)), .val (.int p3), .val (.int p4), .val (.ref t1), .val (.ref t2), .unset, .unset]) rfl ?_
  refine o_iloadN G2 d2_12 (pc' := 13) rfl rfl ?_
  refine o_if_eq G2 d2_13 (by decide) (pcT := 21) (by decide) (pc' := 16) rfl (fun _ => ?_) (fun q => absurd (by decide) q)
  refine o_new G2 (ow hw 33 rfl) (ow hw 17 rfl) (ow hw 9 rfl) d2_21 (pc' := 24) rfl (by decide) (by decide) ?_
  intro T3 h3 b3 G3 g3 g_b3 E3 A3 D3
  have ne_t1_b3 : t1 ≠ b3 := Nat.ne_of_lt (Nat.lt_of_lt_of_eq X1.lt g3.symm)
  have ne_u1_b3 : u1 ≠ b3 := Nat.ne_of_lt (Nat.lt_of_lt_of_eq A1.lt g3.symm)
  have ne_t2_b3 : t2 ≠ b3 := Nat.ne_of_lt (Nat.lt_of_lt_of_eq X2.lt g3.symm)
  have ne_u2_b3 : u2 ≠ b3 := Nat.ne_of_lt (Nat.lt_of_lt_of_eq A2.lt g3.symm)
  have SF_b3 := Safe.ext E3 H (Safe.new (Nat.le_of_eq g3.symm))
  have sz_b3 : h0.size ≤ b3 := Nat.le_trans K.1 (Nat.le_of_eq g3.symm)
  replace H := H.ext E3
  replace hk := Nat.le_trans hk E3.1
  replace K := K.ext E3
  replace S := S.ext E3
  replace SF := SF.ext E3
  replace X1 := X1.ext E3
  replace Fv1 := Fv1.ext E3
  replace Fc1 := Fc1.ext E3
  replace A1 := A1.ext E3
  replace X2 := X2.ext E3
  replace Fv2 := Fv2.ext E3
  replace Fc2 := Fc2.ext E3
  replace A2 := A2.ext E3
  have F_value_b3 : Fld Z h3 b3 "java/lang/String" "value" "[B" .null := D3 (Or.inr (ow hw 30 rfl)) (ty := (.array .byte)) (by decide)
  have F_coder_b3 : Fld Z h3 b3 "java/lang/String" "coder" "B" (.int (0 : Int32)) := D3 (Or.inr (ow hw 32 rfl)) (ty := .byte) (by decide)
  refine o_dup G3 d2_24 (pc' := 25) rfl rfl ?_
  refine o_iconst G3 d2_25 (pc' := 26) rfl (v := (2 : Int32)) rfl ?_
  refine o_newarray G3 (N := 2) (cap := 2) (ow hw 34 rfl) rfl (by decide) (by decide) d2_26 (pc' := 28) rfl (by decide) (by decide) ?_
  intro T4 h4 b4 G4 g4 g_b4 E4 A_b4
  have ne_t1_b4 : t1 ≠ b4 := Nat.ne_of_lt (Nat.lt_of_lt_of_eq X1.lt g4.symm)
  have ne_u1_b4 : u1 ≠ b4 := Nat.ne_of_lt (Nat.lt_of_lt_of_eq A1.lt g4.symm)
  have ne_t2_b4 : t2 ≠ b4 := Nat.ne_of_lt (Nat.lt_of_lt_of_eq X2.lt g4.symm)
  have ne_u2_b4 : u2 ≠ b4 := Nat.ne_of_lt (Nat.lt_of_lt_of_eq A2.lt g4.symm)
  have ne_b3_b4 : b3 ≠ b4 := Nat.ne_of_lt (Nat.lt_of_lt_of_eq A3.lt g4.symm)
  have SF_b4 := Safe.ext E4 H (Safe.new (Nat.le_of_eq g4.symm))
  have sz_b4 : h0.size ≤ b4 := Nat.le_trans K.1 (Nat.le_of_eq g4.symm)
  replace SF_b3 := Safe.ext E4 H SF_b3
  replace H := H.ext E4
  replace hk := Nat.le_trans hk E4.1
  replace K := K.ext E4
  replace S := S.ext E4
  replace SF := SF.ext E4
  replace X1 := X1.ext E4
  replace Fv1 := Fv1.ext E4
  replace Fc1 := Fc1.ext E4
  replace A1 := A1.ext E4
  replace X2 := X2.ext E4
  replace Fv2 := Fv2.ext E4
  replace Fc2 := Fc2.ext E4
  replace A2 := A2.ext E4
  replace A3 := A3.ext E4
  replace F_value_b3 := F_value_b3.ext E4
  replace F_coder_b3 := F_coder_b3.ext E4
  replace A_b4 : OArr Z h4 b4 .char 2 (fun _ => (.int (0 : Int32))) := A_b4
  refine o_dup G4 d2_28 (pc' := 29) rfl rfl ?_
  refine o_iconst G4 d2_29 (pc' := 30) rfl (v := (0 : Int32)) rfl ?_
  refine o_iloadN G4 d2_30 (pc' := 31) rfl rfl ?_
  refine o_castore G4 A_b4 g_b4 (i := 0) rfl (by decide) d2_31 (pc' := 32) rfl ?_
  intro T5 h5 G5 W5 A5
  have sfw := SF_b4
  replace SF_b3 := Safe.wr W5 sfw H SF_b3
  replace SF_b4 := Safe.wr W5 sfw H SF_b4
  replace H := H.wr W5 sfw
  replace hk := Nat.le_trans hk (Nat.le_of_eq W5.size.symm)
  replace K := K.wr W5 (Or.inr sz_b4)
  replace S := S.wr W5
  replace SF := SF.wr W5
  replace X1 := X1.wr W5
  replace Fv1 := Fv1.other W5 (Or.inl ne_t1_b4)
  replace Fc1 := Fc1.other W5 (Or.inl ne_t1_b4)
  replace A1 := A1.other W5 ne_u1_b4
  replace X2 := X2.wr W5
  replace Fv2 := Fv2.other W5 (Or.inl ne_t2_b4)
  replace Fc2 := Fc2.other W5 (Or.inl ne_t2_b4)
  replace A2 := A2.other W5 ne_u2_b4
  replace A3 := A3.wr W5
  replace F_value_b3 := F_value_b3.other W5 (Or.inl ne_b3_b4)
  replace F_coder_b3 := F_coder_b3.other W5 (Or.inl ne_b3_b4)
  replace A_b4 := A5
  refine o_dup G5 d2_32 (pc' := 33) rfl rfl ?_
  refine o_iconst G5 d2_33 (pc' := 34) rfl (v := (1 : Int32)) rfl ?_
  refine o_bipush G5 d2_34 (pc' := 36) rfl (v := (47 : Int32)) rfl ?_
  refine o_castore G5 A_b4 g_b4 (i := 1) rfl (by decide) d2_36 (pc' := 37) rfl ?_
  intro T6 h6 G6 W6 A6
  have sfw := SF_b4
  replace SF_b3 := Safe.wr W6 sfw H SF_b3
  replace SF_b4 := Safe.wr W6 sfw H SF_b4
  replace H := H.wr W6 sfw
  replace hk := Nat.le_trans hk (Nat.le_of_eq W6.size.symm)
  replace K := K.wr W6 (Or.inr sz_b4)
  replace S := S.wr W6
  replace SF := SF.wr W6
  replace X1 := X1.wr W6
  replace Fv1 := Fv1.other W6 (Or.inl ne_t1_b4)
  replace Fc1 := Fc1.other W6 (Or.inl ne_t1_b4)
  replace A1 := A1.other W6 ne_u1_b4
  replace X2 := X2.wr W6
  replace Fv2 := Fv2.other W6 (Or.inl ne_t2_b4)
  replace Fc2 := Fc2.other W6 (Or.inl ne_t2_b4)
  replace A2 := A2.other W6 ne_u2_b4
  replace A3 := A3.wr W6
  replace F_value_b3 := F_value_b3.other W6 (Or.inl ne_b3_b4)
  replace F_coder_b3 := F_coder_b3.other W6 (Or.inl ne_b3_b4)
  replace A_b4 := A6
  have A_b4' : OArr Z h6 b4 .char 2 (fun j => .int ((own_c2 p3 (47 : Int32)) j)) := A_b4.congr (by intro j hj; match j, hj with | 0, _ => exact congrArg Value.int (own_nc _ h_p3) | 1, _ => exact rfl)
  refine o_callI G6 (z := (⟨"java/lang/String", "<init>", "([C)V"⟩ : MethodName)) (argsL := [(.ref b4)]) (rest := [(.ref b3)]) (W := 1) (a := b3) rfl (ow hw 35 rfl) (ow hw 36 rfl) rfl d2_37 (by decide) (ow hw 9 rfl) (ow hw 37 rfl) (rm8_2 hw b3 b4 h6 n0 G6.sz g_b3 A3 F_value_b3 F_coder_b3 cs hcs S (own_c2 p3 (47 : Int32)) (by intro j hj; match j, hj with | 0, _ => exact own_le255 _ h_p3 | 1, _ => exact (show ¬ (255 : Int32) < 47 by decide)) A_b4' ne_b3_b4) (by decide) (by decide) rfl (lenOf pd_37 rfl) rfl (Nat.le_of_eq rfl) (pc' := 40) rfl (by decide) (by decide) ?_
  rintro _ T7 h7 G7 ⟨rfl, K7, u7, hu7, Fv7, Fc7, A7⟩
  have ne_t1_u7 : t1 ≠ u7 := Nat.ne_of_lt (Nat.lt_of_lt_of_le X1.lt hu7)
  have ne_u1_u7 : u1 ≠ u7 := Nat.ne_of_lt (Nat.lt_of_lt_of_le A1.lt hu7)
  have ne_t2_u7 : t2 ≠ u7 := Nat.ne_of_lt (Nat.lt_of_lt_of_le X2.lt hu7)
  have ne_u2_u7 : u2 ≠ u7 := Nat.ne_of_lt (Nat.lt_of_lt_of_le A2.lt hu7)
  have ne_b3_u7 : b3 ≠ u7 := Nat.ne_of_lt (Nat.lt_of_lt_of_le A3.lt hu7)
  have ne_b4_u7 : b4 ≠ u7 := Nat.ne_of_lt (Nat.lt_of_lt_of_le A_b4.lt hu7)
  have sz_u7 : h0.size ≤ u7 := Nat.le_trans K.1 hu7
  have H_ := H.keep K7 (allS SF_b3 all0)
  have SF_b3_ := Safe.keep K7 (allS SF_b3 all0) H SF_b3
  replace H := H_
  replace hk := Nat.le_trans hk K7.1
  replace SF_b3 := SF_b3_
  replace S := o_stak S K7 (allS A3.nostat all0)
  replace SF := o_stak SF K7 (allS A3.nostat all0)
  replace K := K.trans K7 (allS (Or.inr sz_b3) all0)
  replace X1 := X1.keep K7
  replace Fv1 := Fv1.keep K7 (ninS ne_t1_b3 nin0)
  replace Fc1 := Fc1.keep K7 (ninS ne_t1_b3 nin0)
  replace A1 := A1.keep K7 (ninS ne_u1_b3 nin0)
  replace X2 := X2.keep K7
  replace Fv2 := Fv2.keep K7 (ninS ne_t2_b3 nin0)
  replace Fc2 := Fc2.keep K7 (ninS ne_t2_b3 nin0)
  replace A2 := A2.keep K7 (ninS ne_u2_b3 nin0)
  replace A3 := A3.keep K7
  show OFin _ _ _ _ T7 (mkF m 40 #[.val (.int p0), .val (.int p1), .val (.int (0 : Int32)), .val (.int p3), .val (.int p4), .val (.ref t1), .val (.ref t2), .unset, .unset] [(.ref b3)])
  refine o_astore G7 d2_40 (pc' := 42) rfl rfl (l' := #[.val (.int p0), .val (.int p1), .val (.int (0 : Int32)), .val (.int p3), .val (.int p4), .val (.ref t1), .val (.ref t2), .val (.ref b3), .unset]) rfl ?_
  refine o_iloadN G7 d2_42 (pc' := 43) rfl rfl ?_
  refine o_if_eq G7 d2_43 (by decide) (pcT := 69) (by decide) (pc' := 46) rfl (fun _ => ?_) (fun q => absurd (by decide) q)
  refine o_new G7 (ow hw 33 rfl) (ow hw 17 rfl) (ow hw 9 rfl) d2_69 (pc' := 72) rfl (by decide) (by decide) ?_
  intro T8 h8 b8 G8 g8 g_b8 E8 A8 D8
  have ne_t1_b8 : t1 ≠ b8 := Nat.ne_of_lt (Nat.lt_of_lt_of_eq X1.lt g8.symm)
  have ne_u1_b8 : u1 ≠ b8 := Nat.ne_of_lt (Nat.lt_of_lt_of_eq A1.lt g8.symm)
  have ne_t2_b8 : t2 ≠ b8 := Nat.ne_of_lt (Nat.lt_of_lt_of_eq X2.lt g8.symm)
  have ne_u2_b8 : u2 ≠ b8 := Nat.ne_of_lt (Nat.lt_of_lt_of_eq A2.lt g8.symm)
  have ne_b3_b8 : b3 ≠ b8 := Nat.ne_of_lt (Nat.lt_of_lt_of_eq A3.lt g8.symm)
  have ne_u7_b8 : u7 ≠ b8 := Nat.ne_of_lt (Nat.lt_of_lt_of_eq A7.lt g8.symm)
  have SF_b8 := Safe.ext E8 H (Safe.new (Nat.le_of_eq g8.symm))
  have sz_b8 : h0.size ≤ b8 := Nat.le_trans K.1 (Nat.le_of_eq g8.symm)
  replace H := H.ext E8
  replace hk := Nat.le_trans hk E8.1
  replace K := K.ext E8
  replace S := S.ext E8
  replace SF := SF.ext E8
  replace X1 := X1.ext E8
  replace Fv1 := Fv1.ext E8
  replace Fc1 := Fc1.ext E8
  replace A1 := A1.ext E8
  replace X2 := X2.ext E8
  replace Fv2 := Fv2.ext E8
  replace Fc2 := Fc2.ext E8
  replace A2 := A2.ext E8
  replace A3 := A3.ext E8
  replace Fv7 := Fv7.ext E8
  replace Fc7 := Fc7.ext E8
  replace A7 := A7.ext E8
  have F_value_b8 : Fld Z h8 b8 "java/lang/String" "value" "[B" .null := D8 (Or.inr (ow hw 30 rfl)) (ty := (.array .byte)) (by decide)
  have F_coder_b8 : Fld Z h8 b8 "java/lang/String" "coder" "B" (.int (0 : Int32)) := D8 (Or.inr (ow hw 32 rfl)) (ty := .byte) (by decide)
  refine o_dup G8 d2_72 (pc' := 73) rfl rfl ?_
  refine o_iconst G8 d2_73 (pc' := 74) rfl (v := (4 : Int32)) rfl ?_
  refine o_newarray G8 (N := 4) (cap := 4) (ow hw 34 rfl) rfl (by decide) (by decide) d2_74 (pc' := 76) rfl (by decide) (by decide) ?_
  intro T9 h9 b9 G9 g9 g_b9 E9 A_b9
  have ne_t1_b9 : t1 ≠ b9 := Nat.ne_of_lt (Nat.lt_of_lt_of_eq X1.lt g9.symm)
  have ne_u1_b9 : u1 ≠ b9 := Nat.ne_of_lt (Nat.lt_of_lt_of_eq A1.lt g9.symm)
  have ne_t2_b9 : t2 ≠ b9 := Nat.ne_of_lt (Nat.lt_of_lt_of_eq X2.lt g9.symm)
  have ne_u2_b9 : u2 ≠ b9 := Nat.ne_of_lt (Nat.lt_of_lt_of_eq A2.lt g9.symm)
  have ne_b3_b9 : b3 ≠ b9 := Nat.ne_of_lt (Nat.lt_of_lt_of_eq A3.lt g9.symm)
  have ne_u7_b9 : u7 ≠ b9 := Nat.ne_of_lt (Nat.lt_of_lt_of_eq A7.lt g9.symm)
  have ne_b8_b9 : b8 ≠ b9 := Nat.ne_of_lt (Nat.lt_of_lt_of_eq A8.lt g9.symm)
  have SF_b9 := Safe.ext E9 H (Safe.new (Nat.le_of_eq g9.symm))
  have sz_b9 : h0.size ≤ b9 := Nat.le_trans K.1 (Nat.le_of_eq g9.symm)
  replace SF_b8 := Safe.ext E9 H SF_b8
  replace H := H.ext E9
  replace hk := Nat.le_trans hk E9.1
  replace K := K.ext E9
  replace S := S.ext E9
  replace SF := SF.ext E9
  replace X1 := X1.ext E9
  replace Fv1 := Fv1.ext E9
  replace Fc1 := Fc1.ext E9
  replace A1 := A1.ext E9
  replace X2 := X2.ext E9
  replace Fv2 := Fv2.ext E9
  replace Fc2 := Fc2.ext E9
  replace A2 := A2.ext E9
  replace A3 := A3.ext E9
  replace Fv7 := Fv7.ext E9
  replace Fc7 := Fc7.ext E9
  replace A7 := A7.ext E9
  replace A8 := A8.ext E9
  replace F_value_b8 := F_value_b8.ext E9
  replace F_coder_b8 := F_coder_b8.ext E9
  replace A_b9 : OArr Z h9 b9 .char 4 (fun _ => (.int (0 : Int32))) := A_b9
  refine o_dup G9 d2_76 (pc' := 77) rfl rfl ?_
  refine o_iconst G9 d2_77 (pc' := 78) rfl (v := (0 : Int32)) rfl ?_
  refine o_bipush G9 d2_78 (pc' := 80) rfl (v := (47 : Int32)) rfl ?_
  refine o_castore G9 A_b9 g_b9 (i := 0) rfl (by decide) d2_80 (pc' := 81) rfl ?_
  intro T10 h10 G10 W10 A10
  have sfw := SF_b9
  replace SF_b8 := Safe.wr W10 sfw H SF_b8
  replace SF_b9 := Safe.wr W10 sfw H SF_b9
  replace H := H.wr W10 sfw
  replace hk := Nat.le_trans hk (Nat.le_of_eq W10.size.symm)
  replace K := K.wr W10 (Or.inr sz_b9)
  replace S := S.wr W10
  replace SF := SF.wr W10
  replace X1 := X1.wr W10
  replace Fv1 := Fv1.other W10 (Or.inl ne_t1_b9)
  replace Fc1 := Fc1.other W10 (Or.inl ne_t1_b9)
  replace A1 := A1.other W10 ne_u1_b9
  replace X2 := X2.wr W10
  replace Fv2 := Fv2.other W10 (Or.inl ne_t2_b9)
  replace Fc2 := Fc2.other W10 (Or.inl ne_t2_b9)
  replace A2 := A2.other W10 ne_u2_b9
  replace A3 := A3.wr W10
  replace Fv7 := Fv7.other W10 (Or.inl ne_b3_b9)
  replace Fc7 := Fc7.other W10 (Or.inl ne_b3_b9)
  replace A7 := A7.other W10 ne_u7_b9
  replace A8 := A8.wr W10
  replace F_value_b8 := F_value_b8.other W10 (Or.inl ne_b8_b9)
  replace F_coder_b8 := F_coder_b8.other W10 (Or.inl ne_b8_b9)
  replace A_b9 := A10
  refine o_dup G10 d2_81 (pc' := 82) rfl rfl ?_
  refine o_iconst G10 d2_82 (pc' := 83) rfl (v := (1 : Int32)) rfl ?_
  refine o_iloadN G10 d2_83 (pc' := 84) rfl rfl ?_
  refine o_castore G10 A_b9 g_b9 (i := 1) rfl (by decide) d2_84 (pc' := 85) rfl ?_
  intro T11 h11 G11 W11 A11
  have sfw := SF_b9
  replace SF_b8 := Safe.wr W11 sfw H SF_b8
  replace SF_b9 := Safe.wr W11 sfw H SF_b9
  replace H := H.wr W11 sfw
  replace hk := Nat.le_trans hk (Nat.le_of_eq W11.size.symm)
  replace K := K.wr W11 (Or.inr sz_b9)
  replace S := S.wr W11
  replace SF := SF.wr W11
  replace X1 := X1.wr W11
  replace Fv1 := Fv1.other W11 (Or.inl ne_t1_b9)
  replace Fc1 := Fc1.other W11 (Or.inl ne_t1_b9)
  replace A1 := A1.other W11 ne_u1_b9
  replace X2 := X2.wr W11
  replace Fv2 := Fv2.other W11 (Or.inl ne_t2_b9)
  replace Fc2 := Fc2.other W11 (Or.inl ne_t2_b9)
  replace A2 := A2.other W11 ne_u2_b9
  replace A3 := A3.wr W11
  replace Fv7 := Fv7.other W11 (Or.inl ne_b3_b9)
  replace Fc7 := Fc7.other W11 (Or.inl ne_b3_b9)
  replace A7 := A7.other W11 ne_u7_b9
  replace A8 := A8.wr W11
  replace F_value_b8 := F_value_b8.other W11 (Or.inl ne_b8_b9)
  replace F_coder_b8 := F_coder_b8.other W11 (Or.inl ne_b8_b9)
  replace A_b9 := A11
  refine o_dup G11 d2_85 (pc' := 86) rfl rfl ?_
  refine o_iconst G11 d2_86 (pc' := 87) rfl (v := (2 : Int32)) rfl ?_
  refine o_bipush G11 d2_87 (pc' := 89) rfl (v := (47 : Int32)) rfl ?_
  refine o_castore G11 A_b9 g_b9 (i := 2) rfl (by decide) d2_89 (pc' := 90) rfl ?_
  intro T12 h12 G12 W12 A12
  have sfw := SF_b9
  replace SF_b8 := Safe.wr W12 sfw H SF_b8
  replace SF_b9 := Safe.wr W12 sfw H SF_b9
  replace H := H.wr W12 sfw
  replace hk := Nat.le_trans hk (Nat.le_of_eq W12.size.symm)
  replace K := K.wr W12 (Or.inr sz_b9)
  replace S := S.wr W12
  replace SF := SF.wr W12
  replace X1 := X1.wr W12
  replace Fv1 := Fv1.other W12 (Or.inl ne_t1_b9)
  replace Fc1 := Fc1.other W12 (Or.inl ne_t1_b9)
  replace A1 := A1.other W12 ne_u1_b9
  replace X2 := X2.wr W12
  replace Fv2 := Fv2.other W12 (Or.inl ne_t2_b9)
  replace Fc2 := Fc2.other W12 (Or.inl ne_t2_b9)
  replace A2 := A2.other W12 ne_u2_b9
  replace A3 := A3.wr W12
  replace Fv7 := Fv7.other W12 (Or.inl ne_b3_b9)
  replace Fc7 := Fc7.other W12 (Or.inl ne_b3_b9)
  replace A7 := A7.other W12 ne_u7_b9
  replace A8 := A8.wr W12
  replace F_value_b8 := F_value_b8.other W12 (Or.inl ne_b8_b9)
  replace F_coder_b8 := F_coder_b8.other W12 (Or.inl ne_b8_b9)
  replace A_b9 := A12
  refine o_dup G12 d2_90 (pc' := 91) rfl rfl ?_
  refine o_iconst G12 d2_91 (pc' := 92) rfl (v := (3 : Int32)) rfl ?_
  refine o_iload G12 d2_92 (pc' := 94) rfl rfl ?_
  refine o_castore G12 A_b9 g_b9 (i := 3) rfl (by decide) d2_94 (pc' := 95) rfl ?_
  intro T13 h13 G13 W13 A13
  have sfw := SF_b9
  replace SF_b8 := Safe.wr W13 sfw H SF_b8
  replace SF_b9 := Safe.wr W13 sfw H SF_b9
  replace H := H.wr W13 sfw
  replace hk := Nat.le_trans hk (Nat.le_of_eq W13.size.symm)
  replace K := K.wr W13 (Or.inr sz_b9)
  replace S := S.wr W13
  replace SF := SF.wr W13
  replace X1 := X1.wr W13
  replace Fv1 := Fv1.other W13 (Or.inl ne_t1_b9)
  replace Fc1 := Fc1.other W13 (Or.inl ne_t1_b9)
  replace A1 := A1.other W13 ne_u1_b9
  replace X2 := X2.wr W13
  replace Fv2 := Fv2.other W13 (Or.inl ne_t2_b9)
  replace Fc2 := Fc2.other W13 (Or.inl ne_t2_b9)
  replace A2 := A2.other W13 ne_u2_b9
  replace A3 := A3.wr W13
  replace Fv7 := Fv7.other W13 (Or.inl ne_b3_b9)
  replace Fc7 := Fc7.other W13 (Or.inl ne_b3_b9)
  replace A7 := A7.other W13 ne_u7_b9
  replace A8 := A8.wr W13
  replace F_value_b8 := F_value_b8.other W13 (Or.inl ne_b8_b9)
  replace F_coder_b8 := F_coder_b8.other W13 (Or.inl ne_b8_b9)
  replace A_b9 := A13
  have A_b9' : OArr Z h13 b9 .char 4 (fun j => .int ((own_c4 (47 : Int32) p3 (47 : Int32) p4) j)) := A_b9.congr (by intro j hj; match j, hj with | 0, _ => exact rfl | 1, _ => exact congrArg Value.int (own_nc _ h_p3) | 2, _ => exact rfl | 3, _ => exact congrArg Value.int (own_nc _ h_p4))
  refine o_callI G13 (z := (⟨"java/lang/String", "<init>", "([C)V"⟩ : MethodName)) (argsL := [(.ref b9)]) (rest := [(.ref b8)]) (W := 1) (a := b8) rfl (ow hw 35 rfl) (ow hw 36 rfl) rfl d2_95 (by decide) (ow hw 9 rfl) (ow hw 37 rfl) (rm8_4 hw b8 b9 h13 n0 G13.sz g_b8 A8 F_value_b8 F_coder_b8 cs hcs S (own_c4 (47 : Int32) p3 (47 : Int32) p4) (by intro j hj; match j, hj with | 0, _ => exact (show ¬ (255 : Int32) < 47 by decide) | 1, _ => exact own_le255 _ h_p3 | 2, _ => exact (show ¬ (255 : Int32) < 47 by decide) | 3, _ => exact own_le255 _ h_p4) A_b9' ne_b8_b9) (by decide) (by decide) rfl (lenOf pd_37 rfl) rfl (Nat.le_of_eq rfl) (pc' := 98) rfl (by decide) (by decide) ?_
  rintro _ T14 h14 G14 ⟨rfl, K14, u14, hu14, Fv14, Fc14, A14⟩
  have ne_t1_u14 : t1 ≠ u14 := Nat.ne_of_lt (Nat.lt_of_lt_of_le X1.lt hu14)
  have ne_u1_u14 : u1 ≠ u14 := Nat.ne_of_lt (Nat.lt_of_lt_of_le A1.lt hu14)
  have ne_t2_u14 : t2 ≠ u14 := Nat.ne_of_lt (Nat.lt_of_lt_of_le X2.lt hu14)
  have ne_u2_u14 : u2 ≠ u14 := Nat.ne_of_lt (Nat.lt_of_lt_of_le A2.lt hu14)
  have ne_b3_u14 : b3 ≠ u14 := Nat.ne_of_lt (Nat.lt_of_lt_of_le A3.lt hu14)
  have ne_u7_u14 : u7 ≠ u14 := Nat.ne_of_lt (Nat.lt_of_lt_of_le A7.lt hu14)
  have ne_b8_u14 : b8 ≠ u14 := Nat.ne_of_lt (Nat.lt_of_lt_of_le A8.lt hu14)
  have ne_b9_u14 : b9 ≠ u14 := Nat.ne_of_lt (Nat.lt_of_lt_of_le A_b9.lt hu14)
  have sz_u14 : h0.size ≤ u14 := Nat.le_trans K.1 hu14
  have H_ := H.keep K14 (allS SF_b8 all0)
  have SF_b8_ := Safe.keep K14 (allS SF_b8 all0) H SF_b8
  replace H := H_
  replace hk := Nat.le_trans hk K14.1
  replace SF_b8 := SF_b8_
  replace S := o_stak S K14 (allS A8.nostat all0)
  replace SF := o_stak SF K14 (allS A8.nostat all0)
  replace K := K.trans K14 (allS (Or.inr sz_b8) all0)
  replace X1 := X1.keep K14
  replace Fv1 := Fv1.keep K14 (ninS ne_t1_b8 nin0)
  replace Fc1 := Fc1.keep K14 (ninS ne_t1_b8 nin0)
  replace A1 := A1.keep K14 (ninS ne_u1_b8 nin0)
  replace X2 := X2.keep K14
  replace Fv2 := Fv2.keep K14 (ninS ne_t2_b8 nin0)
  replace Fc2 := Fc2.keep K14 (ninS ne_t2_b8 nin0)
  replace A2 := A2.keep K14 (ninS ne_u2_b8 nin0)
  replace A3 := A3.keep K14
  replace Fv7 := Fv7.keep K14 (ninS ne_b3_b8 nin0)
  replace Fc7 := Fc7.keep K14 (ninS ne_b3_b8 nin0)
  replace A7 := A7.keep K14 (ninS ne_u7_b8 nin0)
  replace A8 := A8.keep K14
  show OFin _ _ _ _ T14 (mkF m 98 #[.val (.int p0), .val (.int p1), .val (.int (0 : Int32)), .val (.int p3), .val (.int p4), .val (.ref t1), .val (.ref t2), .val (.ref b3), .unset] [(.ref b8)])
  refine o_astore G14 d2_98 (pc' := 100) rfl rfl (l' := #[.val (.int p0), .val (.int p1), .val (.int (0 : Int32)), .val (.int p3), .val (.int p4), .val (.ref t1), .val (.ref t2), .val (.ref b3), .val (.ref b8)]) rfl ?_
  refine o_new G14 (ow hw 51 rfl) (ow hw 52 rfl) (ow hw 53 rfl) d2_100 (pc' := 103) rfl (by decide) (by decide) ?_
  intro T15 h15 b15 G15 g15 g_b15 E15 A15 D15
  have ne_t1_b15 : t1 ≠ b15 := Nat.ne_of_lt (Nat.lt_of_lt_of_eq X1.lt g15.symm)
  have ne_u1_b15 : u1 ≠ b15 := Nat.ne_of_lt (Nat.lt_of_lt_of_eq A1.lt g15.symm)
  have ne_t2_b15 : t2 ≠ b15 := Nat.ne_of_lt (Nat.lt_of_lt_of_eq X2.lt g15.symm)
  have ne_u2_b15 : u2 ≠ b15 := Nat.ne_of_lt (Nat.lt_of_lt_of_eq A2.lt g15.symm)
  have ne_b3_b15 : b3 ≠ b15 := Nat.ne_of_lt (Nat.lt_of_lt_of_eq A3.lt g15.symm)
  have ne_u7_b15 : u7 ≠ b15 := Nat.ne_of_lt (Nat.lt_of_lt_of_eq A7.lt g15.symm)
  have ne_b8_b15 : b8 ≠ b15 := Nat.ne_of_lt (Nat.lt_of_lt_of_eq A8.lt g15.symm)
  have ne_u14_b15 : u14 ≠ b15 := Nat.ne_of_lt (Nat.lt_of_lt_of_eq A14.lt g15.symm)
  have SF_b15 := Safe.ext E15 H (Safe.new (Nat.le_of_eq g15.symm))
  have sz_b15 : h0.size ≤ b15 := Nat.le_trans K.1 (Nat.le_of_eq g15.symm)
  replace H := H.ext E15
  replace hk := Nat.le_trans hk E15.1
  replace K := K.ext E15
  replace S := S.ext E15
  replace SF := SF.ext E15
  replace X1 := X1.ext E15
  replace Fv1 := Fv1.ext E15
  replace Fc1 := Fc1.ext E15
  replace A1 := A1.ext E15
  replace X2 := X2.ext E15
  replace Fv2 := Fv2.ext E15
  replace Fc2 := Fc2.ext E15
  replace A2 := A2.ext E15
  replace A3 := A3.ext E15
  replace Fv7 := Fv7.ext E15
  replace Fc7 := Fc7.ext E15
  replace A7 := A7.ext E15
  replace A8 := A8.ext E15
  replace Fv14 := Fv14.ext E15
  replace Fc14 := Fc14.ext E15
  replace A14 := A14.ext E15
  have F_name_b15 : Fld Z h15 b15 "com/example/ronda/ronda/engine/ApiVersion" "name" "Ljava/lang/String;" .null := D15 (Or.inr (ow hw 102 rfl)) (ty := (.object "java/lang/String")) (by decide)
  have F_version_b15 : Fld Z h15 b15 "com/example/ronda/ronda/engine/ApiVersion" "version" "Ljava/lang/String;" .null := D15 (Or.inr (ow hw 105 rfl)) (ty := (.object "java/lang/String")) (by decide)
  have F_servicePath_b15 : Fld Z h15 b15 "com/example/ronda/ronda/engine/ApiVersion" "servicePath" "Ljava/lang/String;" .null := D15 (Or.inr (ow hw 107 rfl)) (ty := (.object "java/lang/String")) (by decide)
  have F_stopPath_b15 : Fld Z h15 b15 "com/example/ronda/ronda/engine/ApiVersion" "stopPath" "Ljava/lang/String;" .null := D15 (Or.inr (ow hw 109 rfl)) (ty := (.object "java/lang/String")) (by decide)
  refine o_dup G15 d2_103 (pc' := 104) rfl rfl ?_
  refine o_aload G15 d2_104 (pc' := 106) rfl rfl rfl ?_
  refine o_aload G15 d2_106 (pc' := 108) rfl rfl rfl ?_
  refine o_aload G15 d2_108 (pc' := 110) rfl rfl rfl ?_
  refine o_aload G15 d2_110 (pc' := 112) rfl rfl rfl ?_
  refine o_callIW G15 SN hk (z := (⟨"com/example/ronda/ronda/engine/ApiVersion", "<init>", "(Ljava/lang/String;Ljava/lang/String;Ljava/lang/String;Ljava/lang/String;)V"⟩ : MethodName)) (argsL := [(.ref t1), (.ref t2), (.ref b3), (.ref b8)]) (rest := [(.ref b15)]) (W := 1) (a := b15) rfl (ow hw 54 rfl) (ow hw 55 rfl) rfl d2_112 (by decide) (ow hw 53 rfl) (ow hw 56 rfl) (rm13_2 hw b15 t1 t2 b3 b8 h15 n0 G15.sz cs hcs S fm hfm SF g_b15 A15 F_name_b15 F_version_b15 F_servicePath_b15 F_stopPath_b15 u1 (fun _ => p0) X1 Fv1 Fc1 A1 u2 (fun _ => p1) X2 Fv2 Fc2 A2 u7 (own_c2 p3 (47 : Int32)) A3 Fv7 Fc7 A7 u14 (own_c4 (47 : Int32) p3 (47 : Int32) p4) A8 Fv14 Fc14 A14 ne_t1_b15 ne_u1_b15 ne_t2_b15 ne_u2_b15 ne_b3_b15 ne_u7_b15 ne_b8_b15 ne_u14_b15 rfl rfl rfl hsl rfl) (fun vm1 hw1 => o_chw G15.wz hw1 hEL H) (by decide) (by decide) rfl (lenOf pd_38 rfl) rfl (Nat.le_of_eq rfl) (pc' := 115) rfl (by decide) (by decide) ?_
  rintro _ T16 h16 vm16 G16 SN16 - ⟨rfl, K16, Fa16, Fb16, Fc_16, Fd16, H16⟩
  replace S := o_stak S K16 (allS A15.nostat all0)
  replace SF := o_stak SF K16 (allS A15.nostat all0)
  replace K := K.trans K16 (allS (Or.inr sz_b15) all0)
  replace X1 := X1.keep K16
  replace Fv1 := Fv1.keep K16 (ninS ne_t1_b15 nin0)
  replace Fc1 := Fc1.keep K16 (ninS ne_t1_b15 nin0)
  replace A1 := A1.keep K16 (ninS ne_u1_b15 nin0)
  replace X2 := X2.keep K16
  replace Fv2 := Fv2.keep K16 (ninS ne_t2_b15 nin0)
  replace Fc2 := Fc2.keep K16 (ninS ne_t2_b15 nin0)
  replace A2 := A2.keep K16 (ninS ne_u2_b15 nin0)
  replace A3 := A3.keep K16
  replace Fv7 := Fv7.keep K16 (ninS ne_b3_b15 nin0)
  replace Fc7 := Fc7.keep K16 (ninS ne_b3_b15 nin0)
  replace A7 := A7.keep K16 (ninS ne_u7_b15 nin0)
  replace A8 := A8.keep K16
  replace Fv14 := Fv14.keep K16 (ninS ne_b8_b15 nin0)
  replace Fc14 := Fc14.keep K16 (ninS ne_b8_b15 nin0)
  replace A14 := A14.keep K16 (ninS ne_u14_b15 nin0)
  replace A15 := A15.keep K16
  replace H := H16
  replace SN := SN16
  replace hk := Nat.le_refl h16.size
  show OFin _ _ _ _ T16 (mkF m 115 #[.val (.int p0), .val (.int p1), .val (.int (0 : Int32)), .val (.int p3), .val (.int p4), .val (.ref t1), .val (.ref t2), .val (.ref b3), .val (.ref b8)] [(.ref b15)])
  exact o_areturnW G16 SN hk rfl rfl rfl (Nat.le_refl _) d2_115 (fun vm1 hw1 => ⟨b15, t1, u1, t2, u2, b3, u7, b8, u14, rfl, ⟨sz_b15, sz_t1, sz_t2, sz_b3, sz_b8⟩, K, A15, ⟨Fa16, Fb16, Fc_16, Fd16⟩, ⟨X1, Fv1, Fc1, A1⟩, ⟨X2, Fv2, Fc2, A2⟩, ⟨A3, Fv7, Fc7, A7⟩, ⟨A8, Fv14, Fc14, A14⟩, o_chw G16.wz hw1 hEL H⟩) (by decide) (by decide)
set_option maxRecDepth 65536 in
set_option maxHeartbeats 40000000 in
theorem rm2_1 {l : Launch} {Z : State} {a0 : Array Value} (hw : ∀ d ∈ tables_1, d.before a0 Z = true) (p0 : Int32) (p1 : Int32) (p3 : Int32) (p4 : Int32) (h0 : Heap) (n0 : Nat) (hz : n0 ≤ h0.size) (cs : Int32) (hcs : ¬ cs = 0) (S : Sta Z h0 "java/lang/String" "COMPACT_STRINGS" "Z" (.int cs)) (fm : Value) (hfm : fm.isRef = true) (SF : Sta Z h0 "jdk/internal/util/Preconditions" "SIOOBE_FORMATTER" "Ljava/util/function/BiFunction;" fm) (h_p0 : 0 ≤ p0.toInt ∧ p0.toInt ≤ 255) (h_p1 : 0 ≤ p1.toInt ∧ p1.toInt ≤ 255) (h_p3 : 0 ≤ p3.toInt ∧ p3.toInt ≤ 255) (h_p4 : 0 ≤ p4.toInt ∧ p4.toInt ≤ 255) (hsl : ¬ own_by p3 = own_by 47) :
    OMetW l Z (⟨"com/example/ronda/ronda/engine/ApiVersionEqualsPinLaw", "make", "(CCZCC)Lcom/example/ronda/ronda/engine/ApiVersion;"⟩ : MethodName) method_4_code 9 (some (.object "com/example/ronda/ronda/engine/ApiVersion")) ({ frames := 8, cells := 32, slots := 350, locals := 130 } : Room) #[(.int p0), (.int p1), (.int (1 : Int32)), (.int p3), (.int p4)] h0 n0 ({ frames := 8, cells := 32, slots := 350, locals := 130 } : Room).cells ({ frames := 8, cells := 32, slots := 350, locals := 130 } : Room).slots (fun vm => CHv Z own_EL vm h0) (fun v h vm => ∃ o a1 c1 a2 c2 a3 c3 a4 c4 : Addr, v = some (.ref o) ∧ (h0.size ≤ o ∧ h0.size ≤ a1 ∧ h0.size ≤ a2 ∧ h0.size ≤ o ∧ h0.size ≤ a4) ∧ Keep h0 h [] ∧ Exa Z h o "com/example/ronda/ronda/engine/ApiVersion" ∧ (Fld Z h o "com/example/ronda/ronda/engine/ApiVersion" "name" "Ljava/lang/String;" (.ref a1) ∧ Fld Z h o "com/example/ronda/ronda/engine/ApiVersion" "version" "Ljava/lang/String;" (.ref a2) ∧ Fld Z h o "com/example/ronda/ronda/engine/ApiVersion" "servicePath" "Ljava/lang/String;" (.ref a3) ∧ Fld Z h o "com/example/ronda/ronda/engine/ApiVersion" "stopPath" "Ljava/lang/String;" (.ref a4)) ∧ (Exa Z h a1 "java/lang/String" ∧ Fld Z h a1 "java/lang/String" "value" "[B" (.ref c1) ∧ Fld Z h a1 "java/lang/String" "coder" "B" (.int (0 : Int32)) ∧ OArr Z h c1 .byte 1 (fun j => .int (own_by ((fun _ => p0) j)))) ∧ (Exa Z h a2 "java/lang/String" ∧ Fld Z h a2 "java/lang/String" "value" "[B" (.ref c2) ∧ Fld Z h a2 "java/lang/String" "coder" "B" (.int (0 : Int32)) ∧ OArr Z h c2 .byte 1 (fun j => .int (own_by ((fun _ => p1) j)))) ∧ (Exa Z h a3 "java/lang/String" ∧ Fld Z h a3 "java/lang/String" "value" "[B" (.ref c3) ∧ Fld Z h a3 "java/lang/String" "coder" "B" (.int (0 : Int32)) ∧ OArr Z h c3 .byte 0 (fun j => .int (own_by ((fun _ => 0) j)))) ∧ (Exa Z h a4 "java/lang/String" ∧ Fld Z h a4 "java/lang/String" "value" "[B" (.ref c4) ∧ Fld Z h a4 "java/lang/String" "coder" "B" (.int (0 : Int32)) ∧ OArr Z h c4 .byte 2 (fun j => .int (own_by ((own_c2 47 p4) j)))) ∧ CHv Z own_EL vm h) := by
  refine o_bodyW (plainFor_of_name pn_2) (fun m => ef_2 m p0 p1 (1 : Int32) p3 p4) ?_
  intro p e s m below meth c s₁ vm0 G0 SN hs0 H
  replace G0 := o_weak hz G0
  have hk : h0.size ≤ h0.size := Nat.le_refl _
  have hEL := own_EW hw
  have wS := own_wS hw
  have K : Keep h0 h0 [] := Keep.refl _ _
  refine o_iloadN G0 d2_0 (pc' := 1) rfl rfl ?_
  refine o_callS G0 (z := (⟨"java/lang/String", "valueOf", "(C)Ljava/lang/String;"⟩ : MethodName)) (argsL := [(.int p0)]) (rest := []) (W := 0) (ow hw 7 rfl) (ow hw 8 rfl) d2_1 (by decide) (ow hw 9 rfl) (ow hw 10 rfl) (rm3 hw p0 h0 n0 G0.sz cs hcs S (own_le255 _ h_p0)) (by decide) (by decide) rfl (lenOf pd_36 rfl) rfl (Nat.le_of_eq rfl) (pc' := 4) rfl (by decide) (by decide) ?_
  rintro _ T1 h1 G1 ⟨t1, u1, rfl, gt1, ht1, hu1, K1, X1, Fv1, Fc1, A1⟩
  have sz_t1 : h0.size ≤ t1 := Nat.le_trans K.1 ht1
  have sz_u1 : h0.size ≤ u1 := Nat.le_trans K.1 hu1
  have H_ := H.keep K1 (fun x hx => nomatch hx)
  replace H := H_
  replace hk := Nat.le_trans hk K1.1
  replace S := o_stak S K1 (fun x hx => nomatch hx)
  replace SF := o_stak SF K1 (fun x hx => nomatch hx)
  replace K := K.trans K1 all0
  show OFin _ _ _ _ T1 (mkF m 4 #[.val (.int p0), .val (.int p1), .val (.int (1 : Int32)), .val (.int p3), .val (.int p4), .unset, .unset, .unset, .unset] [(.ref t1)])
  refine o_astore G1 d2_4 (pc' := 6) rfl rfl (l' := #[.val (.int p0), .val (.int p1), .val (.int (1 : Int32)), .val (.int p3), .val (.int p4), .val (.ref t1), .unset, .unset, .unset]) rfl ?_
  refine o_iloadN G1 d2_6 (pc' := 7) rfl rfl ?_
  refine o_callS G1 (z := (⟨"java/lang/String", "valueOf", "(C)Ljava/lang/String;"⟩ : MethodName)) (argsL := [(.int p1)]) (rest := []) (W := 0) (ow hw 7 rfl) (ow hw 8 rfl) d2_7 (by decide) (ow hw 9 rfl) (ow hw 10 rfl) (rm3 hw p1 h1 n0 G1.sz cs hcs S (own_le255 _ h_p1)) (by decide) (by decide) rfl (lenOf pd_36 rfl) rfl (Nat.le_of_eq rfl) (pc' := 10) rfl (by decide) (by decide) ?_
  rintro _ T2 h2 G2 ⟨t2, u2, rfl, gt2, ht2, hu2, K2, X2, Fv2, Fc2, A2⟩
  have ne_t1_t2 : t1 ≠ t2 := Nat.ne_of_lt (Nat.lt_of_lt_of_le X1.lt ht2)
  have ne_u1_t2 : u1 ≠ t2 := Nat.ne_of_lt (Nat.lt_of_lt_of_le A1.lt ht2)
  have sz_t2 : h0.size ≤ t2 := Nat.le_trans K.1 ht2
  have ne_t1_u2 : t1 ≠ u2 := Nat.ne_of_lt (Nat.lt_of_lt_of_le X1.lt hu2)
  have ne_u1_u2 : u1 ≠ u2 := Nat.ne_of_lt (Nat.lt_of_lt_of_le A1.lt hu2)
  have sz_u2 : h0.size ≤ u2 := Nat.le_trans K.1 hu2
  have H_ := H.keep K2 (fun x hx => nomatch hx)
  replace H := H_
  replace hk := Nat.le_trans hk K2.1
  replace S := o_stak S K2 (fun x hx => nomatch hx)
  replace SF := o_stak SF K2 (fun x hx => nomatch hx)
  replace K := K.trans K2 all0
  replace X1 := X1.keep K2
  replace Fv1 := Fv1.keep K2 nin0
  replace Fc1 := Fc1.keep K2 nin0
  replace A1 := A1.keep K2 nin0
  show OFin _ _ _ _ T2 (mkF m 10 #[.val (.int p0), .val (.int p1), .val (.int (1 : Int32)), .val (.int p3), .val (.int p4), .val (.ref t1), .unset, .unset, .unset] [(.ref t2)])
  refine o_astore G2 d2_10 (pc' := 12) rfl rfl (l' := #[.val (.int p0), .val (.int p1), .val (.int (1 : Int32)), .val (.int p3), .val (.int p4), .val (.ref t1), .val (.ref t2), .unset, .unset]) rfl ?_
  refine o_iloadN G2 d2_12 (pc' := 13) rfl rfl ?_
  refine o_if_eq G2 d2_13 (by decide) (pcT := 21) (by decide) (pc' := 16) rfl (fun q => absurd q (by decide)) (fun _ => ?_)
  refine o_ldcC G2 SN hk (n := 40) (N := 0) (f := fun j => own_by ((fun _ => 0) j)) (ow hw 286 rfl) wS hEL (by decide) H (by decide) rfl (by decide) (by intro i hi; exact absurd hi (Nat.not_lt_zero i)) d2_16 (pc' := 18) rfl (by decide) (by decide) (by decide) (by decide) ?_
  intro T3 h3 vm3 a3 b3 G3 E3 SN3 C3 X3 Fv3 Fc3 A3 NE3
  replace H := C3.1
  replace K := K.ext E3
  replace S := S.ext E3
  replace SF := SF.ext E3
  replace X1 := X1.ext E3
  replace Fv1 := Fv1.ext E3
  replace Fc1 := Fc1.ext E3
  replace A1 := A1.ext E3
  replace X2 := X2.ext E3
  replace Fv2 := Fv2.ext E3
  replace Fc2 := Fc2.ext E3
  replace A2 := A2.ext E3
  replace SN := SN3
  replace hk := Nat.le_refl h3.size
  refine o_goto G3 d2_18 (by decide) (pc' := 40) rfl ?_
  refine o_astore G3 d2_40 (pc' := 42) rfl rfl (l' := #[.val (.int p0), .val (.int p1), .val (.int (1 : Int32)), .val (.int p3), .val (.int p4), .val (.ref t1), .val (.ref t2), .val (.ref a3), .unset]) rfl ?_
  refine o_iloadN G3 d2_42 (pc' := 43) rfl rfl ?_
  refine o_if_eq G3 d2_43 (by decide) (pcT := 69) (by decide) (pc' := 46) rfl (fun q => absurd q (by decide)) (fun _ => ?_)
  refine o_new G3 (ow hw 33 rfl) (ow hw 17 rfl) (ow hw 9 rfl) d2_46 (pc' := 49) rfl (by decide) (by decide) ?_
  intro T4 h4 b4 G4 g4 g_b4 E4 A4 D4
  have ne_t1_b4 : t1 ≠ b4 := Nat.ne_of_lt (Nat.lt_of_lt_of_eq X1.lt g4.symm)
  have ne_u1_b4 : u1 ≠ b4 := Nat.ne_of_lt (Nat.lt_of_lt_of_eq A1.lt g4.symm)
  have ne_t2_b4 : t2 ≠ b4 := Nat.ne_of_lt (Nat.lt_of_lt_of_eq X2.lt g4.symm)
  have ne_u2_b4 : u2 ≠ b4 := Nat.ne_of_lt (Nat.lt_of_lt_of_eq A2.lt g4.symm)
  have ne_a3_b4 : a3 ≠ b4 := Nat.ne_of_lt (Nat.lt_of_lt_of_eq X3.lt g4.symm)
  have ne_b3_b4 : b3 ≠ b4 := Nat.ne_of_lt (Nat.lt_of_lt_of_eq A3.lt g4.symm)
  have SF_b4 := Safe.ext E4 H (Safe.new (Nat.le_of_eq g4.symm))
  have sz_b4 : h0.size ≤ b4 := Nat.le_trans K.1 (Nat.le_of_eq g4.symm)
  replace H := H.ext E4
  replace hk := Nat.le_trans hk E4.1
  replace K := K.ext E4
  replace S := S.ext E4
  replace SF := SF.ext E4
  replace X1 := X1.ext E4
  replace Fv1 := Fv1.ext E4
  replace Fc1 := Fc1.ext E4
  replace A1 := A1.ext E4
  replace X2 := X2.ext E4
  replace Fv2 := Fv2.ext E4
  replace Fc2 := Fc2.ext E4
  replace A2 := A2.ext E4
  replace X3 := X3.ext E4
  replace Fv3 := Fv3.ext E4
  replace Fc3 := Fc3.ext E4
  replace A3 := A3.ext E4
  have F_value_b4 : Fld Z h4 b4 "java/lang/String" "value" "[B" .null := D4 (Or.inr (ow hw 30 rfl)) (ty := (.array .byte)) (by decide)
  have F_coder_b4 : Fld Z h4 b4 "java/lang/String" "coder" "B" (.int (0 : Int32)) := D4 (Or.inr (ow hw 32 rfl)) (ty := .byte) (by decide)
  refine o_dup G4 d2_49 (pc' := 50) rfl rfl ?_
  refine o_iconst G4 d2_50 (pc' := 51) rfl (v := (2 : Int32)) rfl ?_
  refine o_newarray G4 (N := 2) (cap := 2) (ow hw 34 rfl) rfl (by decide) (by decide) d2_51 (pc' := 53) rfl (by decide) (by decide) ?_
  intro T5 h5 b5 G5 g5 g_b5 E5 A_b5
  have ne_t1_b5 : t1 ≠ b5 := Nat.ne_of_lt (Nat.lt_of_lt_of_eq X1.lt g5.symm)
  have ne_u1_b5 : u1 ≠ b5 := Nat.ne_of_lt (Nat.lt_of_lt_of_eq A1.lt g5.symm)
  have ne_t2_b5 : t2 ≠ b5 := Nat.ne_of_lt (Nat.lt_of_lt_of_eq X2.lt g5.symm)
  have ne_u2_b5 : u2 ≠ b5 := Nat.ne_of_lt (Nat.lt_of_lt_of_eq A2.lt g5.symm)
  have ne_a3_b5 : a3 ≠ b5 := Nat.ne_of_lt (Nat.lt_of_lt_of_eq X3.lt g5.symm)
  have ne_b3_b5 : b3 ≠ b5 := Nat.ne_of_lt (Nat.lt_of_lt_of_eq A3.lt g5.symm)
  have ne_b4_b5 : b4 ≠ b5 := Nat.ne_of_lt (Nat.lt_of_lt_of_eq A4.lt g5.symm)
  have SF_b5 := Safe.ext E5 H (Safe.new (Nat.le_of_eq g5.symm))
  have sz_b5 : h0.size ≤ b5 := Nat.le_trans K.1 (Nat.le_of_eq g5.symm)
  replace SF_b4 := Safe.ext E5 H SF_b4
  replace H := H.ext E5
  replace hk := Nat.le_trans hk E5.1
  replace K := K.ext E5
  replace S := S.ext E5
  replace SF := SF.ext E5
  replace X1 := X1.ext E5
  replace Fv1 := Fv1.ext E5
  replace Fc1 := Fc1.ext E5
  replace A1 := A1.ext E5
  replace X2 := X2.ext E5
  replace Fv2 := Fv2.ext E5
  replace Fc2 := Fc2.ext E5
  replace A2 := A2.ext E5
  replace X3 := X3.ext E5
  replace Fv3 := Fv3.ext E5
  replace Fc3 := Fc3.ext E5
  replace A3 := A3.ext E5
  replace A4 := A4.ext E5
  replace F_value_b4 := F_value_b4.ext E5
  replace F_coder_b4 := F_coder_b4.ext E5
  replace A_b5 : OArr Z h5 b5 .char 2 (fun _ => (.int (0 : Int32))) := A_b5
  refine o_dup G5 d2_53 (pc' := 54) rfl rfl ?_
  refine o_iconst G5 d2_54 (pc' := 55) rfl (v := (0 : Int32)) rfl ?_
  refine o_bipush G5 d2_55 (pc' := 57) rfl (v := (47 : Int32)) rfl ?_
  refine o_castore G5 A_b5 g_b5 (i := 0) rfl (by decide) d2_57 (pc' := 58) rfl ?_
  intro T6 h6 G6 W6 A6
  have sfw := SF_b5
  replace SF_b4 := Safe.wr W6 sfw H SF_b4
  replace SF_b5 := Safe.wr W6 sfw H SF_b5
  replace H := H.wr W6 sfw
  replace hk := Nat.le_trans hk (Nat.le_of_eq W6.size.symm)
  replace K := K.wr W6 (Or.inr sz_b5)
  replace S := S.wr W6
  replace SF := SF.wr W6
  replace X1 := X1.wr W6
  replace Fv1 := Fv1.other W6 (Or.inl ne_t1_b5)
  replace Fc1 := Fc1.other W6 (Or.inl ne_t1_b5)
  replace A1 := A1.other W6 ne_u1_b5
  replace X2 := X2.wr W6
  replace Fv2 := Fv2.other W6 (Or.inl ne_t2_b5)
  replace Fc2 := Fc2.other W6 (Or.inl ne_t2_b5)
  replace A2 := A2.other W6 ne_u2_b5
  replace X3 := X3.wr W6
  replace Fv3 := Fv3.other W6 (Or.inl ne_a3_b5)
  replace Fc3 := Fc3.other W6 (Or.inl ne_a3_b5)
  replace A3 := A3.other W6 ne_b3_b5
  replace A4 := A4.wr W6
  replace F_value_b4 := F_value_b4.other W6 (Or.inl ne_b4_b5)
  replace F_coder_b4 := F_coder_b4.other W6 (Or.inl ne_b4_b5)
  replace A_b5 := A6
  refine o_dup G6 d2_58 (pc' := 59) rfl rfl ?_
  refine o_iconst G6 d2_59 (pc' := 60) rfl (v := (1 : Int32)) rfl ?_
  refine o_iload G6 d2_60 (pc' := 62) rfl rfl ?_
  refine o_castore G6 A_b5 g_b5 (i := 1) rfl (by decide) d2_62 (pc' := 63) rfl ?_
  intro T7 h7 G7 W7 A7
  have sfw := SF_b5
  replace SF_b4 := Safe.wr W7 sfw H SF_b4
  replace SF_b5 := Safe.wr W7 sfw H SF_b5
  replace H := H.wr W7 sfw
  replace hk := Nat.le_trans hk (Nat.le_of_eq W7.size.symm)
  replace K := K.wr W7 (Or.inr sz_b5)
  replace S := S.wr W7
  replace SF := SF.wr W7
  replace X1 := X1.wr W7
  replace Fv1 := Fv1.other W7 (Or.inl ne_t1_b5)
  replace Fc1 := Fc1.other W7 (Or.inl ne_t1_b5)
  replace A1 := A1.other W7 ne_u1_b5
  replace X2 := X2.wr W7
  replace Fv2 := Fv2.other W7 (Or.inl ne_t2_b5)
  replace Fc2 := Fc2.other W7 (Or.inl ne_t2_b5)
  replace A2 := A2.other W7 ne_u2_b5
  replace X3 := X3.wr W7
  replace Fv3 := Fv3.other W7 (Or.inl ne_a3_b5)
  replace Fc3 := Fc3.other W7 (Or.inl ne_a3_b5)
  replace A3 := A3.other W7 ne_b3_b5
  replace A4 := A4.wr W7
  replace F_value_b4 := F_value_b4.other W7 (Or.inl ne_b4_b5)
  replace F_coder_b4 := F_coder_b4.other W7 (Or.inl ne_b4_b5)
  replace A_b5 := A7
  have A_b5' : OArr Z h7 b5 .char 2 (fun j => .int ((own_c2 (47 : Int32) p4) j)) := A_b5.congr (by intro j hj; match j, hj with | 0, _ => exact rfl | 1, _ => exact congrArg Value.int (own_nc _ h_p4))
  refine o_callI G7 (z := (⟨"java/lang/String", "<init>", "([C)V"⟩ : MethodName)) (argsL := [(.ref b5)]) (rest := [(.ref b4)]) (W := 1) (a := b4) rfl (ow hw 35 rfl) (ow hw 36 rfl) rfl d2_63 (by decide) (ow hw 9 rfl) (ow hw 37 rfl) (rm8_2 hw b4 b5 h7 n0 G7.sz g_b4 A4 F_value_b4 F_coder_b4 cs hcs S (own_c2 (47 : Int32) p4) (by intro j hj; match j, hj with | 0, _ => exact (show ¬ (255 : Int32) < 47 by decide) | 1, _ => exact own_le255 _ h_p4) A_b5' ne_b4_b5) (by decide) (by decide) rfl (lenOf pd_37 rfl) rfl (Nat.le_of_eq rfl) (pc' := 66) rfl (by decide) (by decide) ?_
  rintro _ T8 h8 G8 ⟨rfl, K8, u8, hu8, Fv8, Fc8, A8⟩
  have ne_t1_u8 : t1 ≠ u8 := Nat.ne_of_lt (Nat.lt_of_lt_of_le X1.lt hu8)
  have ne_u1_u8 : u1 ≠ u8 := Nat.ne_of_lt (Nat.lt_of_lt_of_le A1.lt hu8)
  have ne_t2_u8 : t2 ≠ u8 := Nat.ne_of_lt (Nat.lt_of_lt_of_le X2.lt hu8)
  have ne_u2_u8 : u2 ≠ u8 := Nat.ne_of_lt (Nat.lt_of_lt_of_le A2.lt hu8)
  have ne_a3_u8 : a3 ≠ u8 := Nat.ne_of_lt (Nat.lt_of_lt_of_le X3.lt hu8)
  have ne_b3_u8 : b3 ≠ u8 := Nat.ne_of_lt (Nat.lt_of_lt_of_le A3.lt hu8)
  have ne_b4_u8 : b4 ≠ u8 := Nat.ne_of_lt (Nat.lt_of_lt_of_le A4.lt hu8)
  have ne_b5_u8 : b5 ≠ u8 := Nat.ne_of_lt (Nat.lt_of_lt_of_le A_b5.lt hu8)
  have sz_u8 : h0.size ≤ u8 := Nat.le_trans K.1 hu8
  have H_ := H.keep K8 (allS SF_b4 all0)
  have SF_b4_ := Safe.keep K8 (allS SF_b4 all0) H SF_b4
  replace H := H_
  replace hk := Nat.le_trans hk K8.1
  replace SF_b4 := SF_b4_
  replace S := o_stak S K8 (allS A4.nostat all0)
  replace SF := o_stak SF K8 (allS A4.nostat all0)
  replace K := K.trans K8 (allS (Or.inr sz_b4) all0)
  replace X1 := X1.keep K8
  replace Fv1 := Fv1.keep K8 (ninS ne_t1_b4 nin0)
  replace Fc1 := Fc1.keep K8 (ninS ne_t1_b4 nin0)
  replace A1 := A1.keep K8 (ninS ne_u1_b4 nin0)
  replace X2 := X2.keep K8
  replace Fv2 := Fv2.keep K8 (ninS ne_t2_b4 nin0)
  replace Fc2 := Fc2.keep K8 (ninS ne_t2_b4 nin0)
  replace A2 := A2.keep K8 (ninS ne_u2_b4 nin0)
  replace X3 := X3.keep K8
  replace Fv3 := Fv3.keep K8 (ninS ne_a3_b4 nin0)
  replace Fc3 := Fc3.keep K8 (ninS ne_a3_b4 nin0)
  replace A3 := A3.keep K8 (ninS ne_b3_b4 nin0)
  replace A4 := A4.keep K8
  show OFin _ _ _ _ T8 (mkF m 66 #[.val (.int p0), .val (.int p1), .val (.int (1 : Int32)), .val (.int p3), .val (.int p4), .val (.ref t1), .val (.ref t2), .val (.ref a3), .unset] [(.ref b4)])
  refine o_goto G8 d2_66 (by decide) (pc' := 98) rfl ?_
  refine o_astore G8 d2_98 (pc' := 100) rfl rfl (l' := #[.val (.int p0), .val (.int p1), .val (.int (1 : Int32)), .val (.int p3), .val (.int p4), .val (.ref t1), .val (.ref t2), .val (.ref a3), .val (.ref b4)]) rfl ?_
  refine o_new G8 (ow hw 51 rfl) (ow hw 52 rfl) (ow hw 53 rfl) d2_100 (pc' := 103) rfl (by decide) (by decide) ?_
  intro T9 h9 b9 G9 g9 g_b9 E9 A9 D9
  have ne_t1_b9 : t1 ≠ b9 := Nat.ne_of_lt (Nat.lt_of_lt_of_eq X1.lt g9.symm)
  have ne_u1_b9 : u1 ≠ b9 := Nat.ne_of_lt (Nat.lt_of_lt_of_eq A1.lt g9.symm)
  have ne_t2_b9 : t2 ≠ b9 := Nat.ne_of_lt (Nat.lt_of_lt_of_eq X2.lt g9.symm)
  have ne_u2_b9 : u2 ≠ b9 := Nat.ne_of_lt (Nat.lt_of_lt_of_eq A2.lt g9.symm)
  have ne_a3_b9 : a3 ≠ b9 := Nat.ne_of_lt (Nat.lt_of_lt_of_eq X3.lt g9.symm)
  have ne_b3_b9 : b3 ≠ b9 := Nat.ne_of_lt (Nat.lt_of_lt_of_eq A3.lt g9.symm)
  have ne_b4_b9 : b4 ≠ b9 := Nat.ne_of_lt (Nat.lt_of_lt_of_eq A4.lt g9.symm)
  have ne_u8_b9 : u8 ≠ b9 := Nat.ne_of_lt (Nat.lt_of_lt_of_eq A8.lt g9.symm)
  have SF_b9 := Safe.ext E9 H (Safe.new (Nat.le_of_eq g9.symm))
  have sz_b9 : h0.size ≤ b9 := Nat.le_trans K.1 (Nat.le_of_eq g9.symm)
  replace H := H.ext E9
  replace hk := Nat.le_trans hk E9.1
  replace K := K.ext E9
  replace S := S.ext E9
  replace SF := SF.ext E9
  replace X1 := X1.ext E9
  replace Fv1 := Fv1.ext E9
  replace Fc1 := Fc1.ext E9
  replace A1 := A1.ext E9
  replace X2 := X2.ext E9
  replace Fv2 := Fv2.ext E9
  replace Fc2 := Fc2.ext E9
  replace A2 := A2.ext E9
  replace X3 := X3.ext E9
  replace Fv3 := Fv3.ext E9
  replace Fc3 := Fc3.ext E9
  replace A3 := A3.ext E9
  replace A4 := A4.ext E9
  replace Fv8 := Fv8.ext E9
  replace Fc8 := Fc8.ext E9
  replace A8 := A8.ext E9
  have F_name_b9 : Fld Z h9 b9 "com/example/ronda/ronda/engine/ApiVersion" "name" "Ljava/lang/String;" .null := D9 (Or.inr (ow hw 102 rfl)) (ty := (.object "java/lang/String")) (by decide)
  have F_version_b9 : Fld Z h9 b9 "com/example/ronda/ronda/engine/ApiVersion" "version" "Ljava/lang/String;" .null := D9 (Or.inr (ow hw 105 rfl)) (ty := (.object "java/lang/String")) (by decide)
  have F_servicePath_b9 : Fld Z h9 b9 "com/example/ronda/ronda/engine/ApiVersion" "servicePath" "Ljava/lang/String;" .null := D9 (Or.inr (ow hw 107 rfl)) (ty := (.object "java/lang/String")) (by decide)
  have F_stopPath_b9 : Fld Z h9 b9 "com/example/ronda/ronda/engine/ApiVersion" "stopPath" "Ljava/lang/String;" .null := D9 (Or.inr (ow hw 109 rfl)) (ty := (.object "java/lang/String")) (by decide)
  refine o_dup G9 d2_103 (pc' := 104) rfl rfl ?_
  refine o_aload G9 d2_104 (pc' := 106) rfl rfl rfl ?_
  refine o_aload G9 d2_106 (pc' := 108) rfl rfl rfl ?_
  refine o_aload G9 d2_108 (pc' := 110) rfl rfl rfl ?_
  refine o_aload G9 d2_110 (pc' := 112) rfl rfl rfl ?_
  refine o_callIW G9 SN hk (z := (⟨"com/example/ronda/ronda/engine/ApiVersion", "<init>", "(Ljava/lang/String;Ljava/lang/String;Ljava/lang/String;Ljava/lang/String;)V"⟩ : MethodName)) (argsL := [(.ref t1), (.ref t2), (.ref a3), (.ref b4)]) (rest := [(.ref b9)]) (W := 1) (a := b9) rfl (ow hw 54 rfl) (ow hw 55 rfl) rfl d2_112 (by decide) (ow hw 53 rfl) (ow hw 56 rfl) (rm13_0 hw b9 t1 t2 a3 b4 h9 n0 G9.sz cs hcs S fm hfm SF g_b9 A9 F_name_b9 F_version_b9 F_servicePath_b9 F_stopPath_b9 u1 (fun _ => p0) X1 Fv1 Fc1 A1 u2 (fun _ => p1) X2 Fv2 Fc2 A2 b3 (fun _ => 0) X3 Fv3 Fc3 A3 u8 (own_c2 (47 : Int32) p4) A4 Fv8 Fc8 A8 ne_t1_b9 ne_u1_b9 ne_t2_b9 ne_u2_b9 ne_a3_b9 ne_b3_b9 ne_b4_b9 ne_u8_b9 rfl ) (fun vm1 hw1 => o_chw G9.wz hw1 hEL H) (by decide) (by decide) rfl (lenOf pd_38 rfl) rfl (Nat.le_of_eq rfl) (pc' := 115) rfl (by decide) (by decide) ?_
  rintro _ T10 h10 vm10 G10 SN10 - ⟨rfl, K10, Fa10, Fb10, Fc_10, Fd10, H10⟩
  replace S := o_stak S K10 (allS A9.nostat all0)
  replace SF := o_stak SF K10 (allS A9.nostat all0)
  replace K := K.trans K10 (allS (Or.inr sz_b9) all0)
  replace X1 := X1.keep K10
  replace Fv1 := Fv1.keep K10 (ninS ne_t1_b9 nin0)
  replace Fc1 := Fc1.keep K10 (ninS ne_t1_b9 nin0)
  replace A1 := A1.keep K10 (ninS ne_u1_b9 nin0)
  replace X2 := X2.keep K10
  replace Fv2 := Fv2.keep K10 (ninS ne_t2_b9 nin0)
  replace Fc2 := Fc2.keep K10 (ninS ne_t2_b9 nin0)
  replace A2 := A2.keep K10 (ninS ne_u2_b9 nin0)
  replace X3 := X3.keep K10
  replace Fv3 := Fv3.keep K10 (ninS ne_a3_b9 nin0)
  replace Fc3 := Fc3.keep K10 (ninS ne_a3_b9 nin0)
  replace A3 := A3.keep K10 (ninS ne_b3_b9 nin0)
  replace A4 := A4.keep K10
  replace Fv8 := Fv8.keep K10 (ninS ne_b4_b9 nin0)
  replace Fc8 := Fc8.keep K10 (ninS ne_b4_b9 nin0)
  replace A8 := A8.keep K10 (ninS ne_u8_b9 nin0)
  replace A9 := A9.keep K10
  replace H := H10
  replace SN := SN10
  replace hk := Nat.le_refl h10.size
  show OFin _ _ _ _ T10 (mkF m 115 #[.val (.int p0), .val (.int p1), .val (.int (1 : Int32)), .val (.int p3), .val (.int p4), .val (.ref t1), .val (.ref t2), .val (.ref a3), .val (.ref b4)] [(.ref b9)])
  exact o_areturnW G10 SN hk rfl rfl rfl (Nat.le_refl _) d2_115 (fun vm1 hw1 => ⟨b9, t1, u1, t2, u2, a3, b3, b4, u8, rfl, ⟨sz_b9, sz_t1, sz_t2, sz_b9, sz_b4⟩, K, A9, ⟨Fa10, Fb10, Fc_10, Fd10⟩, ⟨X1, Fv1, Fc1, A1⟩, ⟨X2, Fv2, Fc2, A2⟩, ⟨X3, Fv3, Fc3, A3⟩, ⟨A4, Fv8, Fc8, A8⟩, o_chw G10.wz hw1 hEL H⟩) (by decide) (by decide)
theorem d1_0 : decode method_3_code 0 = .ok (.iload_n 0, 1) := by decide +kernel
theorem d1_1 : decode method_3_code 1 = .ok (.bipush 47, 2) := by decide +kernel
theorem d1_3 : decode method_3_code 3 = .ok (.if_icmp .ne 8, 3) := by decide +kernel
theorem d1_6 : decode method_3_code 6 = .ok (.bipush 122, 2) := by decide +kernel
theorem d1_8 : decode method_3_code 8 = .ok (.goto 5, 3) := by decide +kernel
theorem d1_11 : decode method_3_code 11 = .ok (.iload_n 0, 1) := by decide +kernel
theorem d1_12 : decode method_3_code 12 = .ok (.i2c, 1) := by decide +kernel
theorem d1_13 : decode method_3_code 13 = .ok (.ireturn, 1) := by decide +kernel
theorem pn_1 : plainName "com/example/ronda/ronda/engine/ApiVersionEqualsPinLaw" = true := by first | (simp [plainName, overriddenIn]; done) | decide +kernel
theorem ef_1 (m : MethodId) (p0 : Int32) : entryFrame m #[(.int p0)] 1 = mkF m 0 #[.val (.int p0)] [] := by first | (simp [entryFrame, mkF, argsToLocals, Value.category]; done) | rfl
def f_1 (p0 : Int32) : Int32 := if p0 = (47 : Int32) then (nar .char (122 : Int32)) else (nar .char (p0.toUInt32.toUInt16.toUInt32.toInt32))
set_option maxRecDepth 65536 in
set_option maxHeartbeats 40000000 in
theorem rm1 {l : Launch} {Z : State} {a0 : Array Value} (hw : ∀ d ∈ tables_1, d.before a0 Z = true) (p0 : Int32) (h0 : Heap) (n0 : Nat) (hz : n0 ≤ h0.size) :
    OMet l Z (⟨"com/example/ronda/ronda/engine/ApiVersionEqualsPinLaw", "svc", "(I)C"⟩ : MethodName) method_3_code 1 (some .char) ({ frames := 0, cells := 0, slots := 0, locals := 0 } : Room) #[(.int p0)] h0 n0 ({ frames := 0, cells := 0, slots := 0, locals := 0 } : Room).cells ({ frames := 0, cells := 0, slots := 0, locals := 0 } : Room).slots (OVal h0 (.int (f_1 p0))) := by
  refine o_body (plainFor_of_name pn_1) hz (fun m => ef_1 m p0) ?_
  intro p e s m below meth c s₁ G0
  refine o_iloadN G0 d1_0 (pc' := 1) rfl rfl ?_
  refine o_bipush G0 d1_1 (pc' := 3) rfl (v := (47 : Int32)) rfl ?_
  refine o_icmp_ne G0 d1_3 (by decide) (pcT := 11) (by decide) (pc' := 6) rfl (fun hc3 => ?_) (fun hc3 => ?_)
  · refine o_iloadN G0 d1_11 (pc' := 12) rfl rfl ?_
    obtain ⟨v1, e1⟩ : ∃ z, p0.toUInt32.toUInt16.toUInt32.toInt32 = z := ⟨_, rfl⟩
    refine o_i2c G0 d1_12 (pc' := 13) rfl e1 ?_
    have hq : (nar .char v1) = f_1 p0 := by
      subst e1
      rw [f_1, if_neg hc3]
      try rfl
    exact o_nreturn (t := .char) G0 (by simp) d1_13 ⟨congrArg (fun z => some (Value.int z)) hq, rfl⟩ (by decide) (by decide)
  · refine o_bipush G0 d1_6 (pc' := 8) rfl (v := (122 : Int32)) rfl ?_
    refine o_goto G0 d1_8 (by decide) (pc' := 13) rfl ?_
    have hq : (nar .char (122 : Int32)) = f_1 p0 := by
      rw [f_1, if_pos hc3]
      try rfl
    exact o_nreturn (t := .char) G0 (by simp) d1_13 ⟨congrArg (fun z => some (Value.int z)) hq, rfl⟩ (by decide) (by decide)
theorem own_rng (x : Int32) : 0 ≤ (x &&& (255 : Int32)).toInt ∧ (x &&& (255 : Int32)).toInt ≤ 255 := by
  have h := c_and x 255 (by decide)
  have e : (255 : Int32).toInt = 255 := rfl
  rw [e] at h; exact h
theorem own_i2c (x : Int32) (h : 0 ≤ x.toInt ∧ x.toInt ≤ 255) : x.toUInt32.toUInt16.toUInt32.toInt32 = x := own_nc x h
theorem own_byinv0 : ∀ a : Fin 256, own_by (Int32.ofNat a.val) &&& (255 : Int32) = Int32.ofNat a.val := by decide +kernel
theorem own_ofn (x : Int32) (h : 0 ≤ x.toInt ∧ x.toInt ≤ 255) : x = Int32.ofNat x.toInt.toNat := by
  apply Int32.toInt_inj.mp
  have q : (Int32.ofNat x.toInt.toNat).toInt = (x.toInt.toNat : Int) := Int32.toInt_ofNat_of_lt (by omega)
  rw [q]; omega
theorem own_byinv (x : Int32) (hx : 0 ≤ x.toInt ∧ x.toInt ≤ 255) : own_by x &&& (255 : Int32) = x := by
  have := own_byinv0 ⟨x.toInt.toNat, by omega⟩
  rw [← own_ofn x hx] at this; exact this
theorem own_byinj (x y : Int32) (hx : 0 ≤ x.toInt ∧ x.toInt ≤ 255) (hy : 0 ≤ y.toInt ∧ y.toInt ≤ 255) : own_by x = own_by y ↔ x = y := by
  constructor
  · intro h
    rw [← own_byinv x hx, h, own_byinv y hy]
  · intro h; rw [h]
theorem own_r1 {x a b : Int32} (h1 : x &&& (255 : Int32) = a) (h2 : a.toUInt32.toUInt16.toUInt32.toInt32 = b) : 0 ≤ b.toInt ∧ b.toInt ≤ 255 := by
  subst h1 h2
  rw [own_i2c _ (own_rng x)]; exact own_rng x
theorem own_svc (x : Int32) (h : 0 ≤ x.toInt ∧ x.toInt ≤ 255) : (0 ≤ (f_1 x).toInt ∧ (f_1 x).toInt ≤ 255) ∧ ¬ own_by (f_1 x) = own_by 47 := by
  unfold f_1
  split
  · exact ⟨by decide, by decide⟩
  · rename_i q
    have e : nar .char (x.toUInt32.toUInt16.toUInt32.toInt32) = x := by rw [own_i2c x h, own_nc x h]
    rw [e]
    exact ⟨h, fun q2 => q ((own_byinj x 47 h (by decide)).mp q2)⟩
theorem own_rs {x a b : Int32} (h1 : x &&& (255 : Int32) = a) (h2 : f_1 a = b) : 0 ≤ b.toInt ∧ b.toInt ≤ 255 := by
  subst h1 h2
  exact (own_svc _ (own_rng x)).1
theorem own_ns {x a b : Int32} (h1 : x &&& (255 : Int32) = a) (h2 : f_1 a = b) : ¬ own_by b = own_by 47 := by
  subst h1 h2
  exact (own_svc _ (own_rng x)).2
theorem own_eqs : ∀ n i f g, own_eq n i f g = own_eq n i g f := by
  intro n
  induction n with
  | zero => intro i f g; rfl
  | succ n ih =>
    intro i f g
    rw [own_eq, own_eq, ih]
    by_cases q : own_by (f i) = own_by (g i)
    · rw [if_pos q, if_pos q.symm]
    · rw [if_neg q, if_neg (fun r => q r.symm)]
theorem own_law0 (r1 r2 : Int32) : own_and4 r1 r2 0 0 = 0 := by
  unfold own_and4
  split
  · rfl
  · split
    · rfl
    · rfl
theorem own_law00 (x3 x8 x4 x9 x5 x10 x6 x12 : Int32) (R3 : 0 ≤ x3.toInt ∧ x3.toInt ≤ 255) (R8 : 0 ≤ x8.toInt ∧ x8.toInt ≤ 255) (R4 : 0 ≤ x4.toInt ∧ x4.toInt ≤ 255) (R9 : 0 ≤ x9.toInt ∧ x9.toInt ≤ 255) (R5 : 0 ≤ x5.toInt ∧ x5.toInt ≤ 255) (R10 : 0 ≤ x10.toInt ∧ x10.toInt ≤ 255) (R6 : 0 ≤ x6.toInt ∧ x6.toInt ≤ 255) (R12 : 0 ≤ x12.toInt ∧ x12.toInt ≤ 255) :
    own_and4 (own_eq 1 0 (fun _ => x3) (fun _ => x8)) (own_eq 1 0 (fun _ => x4) (fun _ => x9)) (own_eq 2 0 (own_c2 x5 47) (own_c2 x10 47)) (own_eq 4 0 (own_c4 47 x5 47 x6) (own_c4 47 x10 47 x12)) = if x3 = x8 then (if x4 = x9 then (if (if x5 = x10 then (1 : Int32) else (0 : Int32)) = (0 : Int32) then (0 : Int32) else (if x6 = x12 then (1 : Int32) else (0 : Int32))) else (0 : Int32)) else (0 : Int32) := by
  have z : ¬ (1 : Int32) = 0 := by decide
  simp only [own_and4, own_eq, own_c2, own_c4, own_byinj x3 x8 R3 R8, own_byinj x4 x9 R4 R9, own_byinj x5 x10 R5 R10, own_byinj x6 x12 R6 R12, if_true]
  by_cases q3 : x3 = x8 <;> by_cases q4 : x4 = x9 <;> by_cases q5 : x5 = x10 <;> by_cases q6 : x6 = x12 <;> simp [q3, q4, q5, q6]
theorem own_law11 (x3 x8 x4 x9 x6 x12 : Int32) (R3 : 0 ≤ x3.toInt ∧ x3.toInt ≤ 255) (R8 : 0 ≤ x8.toInt ∧ x8.toInt ≤ 255) (R4 : 0 ≤ x4.toInt ∧ x4.toInt ≤ 255) (R9 : 0 ≤ x9.toInt ∧ x9.toInt ≤ 255) (R6 : 0 ≤ x6.toInt ∧ x6.toInt ≤ 255) (R12 : 0 ≤ x12.toInt ∧ x12.toInt ≤ 255) :
    own_and4 (own_eq 1 0 (fun _ => x3) (fun _ => x8)) (own_eq 1 0 (fun _ => x4) (fun _ => x9)) 1 (own_eq 2 0 (own_c2 47 x6) (own_c2 47 x12)) = if x3 = x8 then (if x4 = x9 then (if x6 = x12 then (1 : Int32) else (0 : Int32)) else (0 : Int32)) else (0 : Int32) := by
  simp only [own_and4, own_eq, own_c2, own_byinj x3 x8 R3 R8, own_byinj x4 x9 R4 R9, own_byinj x6 x12 R6 R12, if_true]
  by_cases q3 : x3 = x8 <;> by_cases q4 : x4 = x9 <;> by_cases q6 : x6 = x12 <;> simp [q3, q4, q6]
theorem own_law00' (x3 x8 x4 x9 x5 x10 x6 x12 : Int32) (R3 : 0 ≤ x3.toInt ∧ x3.toInt ≤ 255) (R8 : 0 ≤ x8.toInt ∧ x8.toInt ≤ 255) (R4 : 0 ≤ x4.toInt ∧ x4.toInt ≤ 255) (R9 : 0 ≤ x9.toInt ∧ x9.toInt ≤ 255) (R5 : 0 ≤ x5.toInt ∧ x5.toInt ≤ 255) (R10 : 0 ≤ x10.toInt ∧ x10.toInt ≤ 255) (R6 : 0 ≤ x6.toInt ∧ x6.toInt ≤ 255) (R12 : 0 ≤ x12.toInt ∧ x12.toInt ≤ 255) :
    own_and4 (own_eq 1 0 (fun _ => x8) (fun _ => x3)) (own_eq 1 0 (fun _ => x9) (fun _ => x4)) (own_eq 2 0 (own_c2 x10 47) (own_c2 x5 47)) (own_eq 4 0 (own_c4 47 x10 47 x12) (own_c4 47 x5 47 x6)) = if x3 = x8 then (if x4 = x9 then (if (if x5 = x10 then (1 : Int32) else (0 : Int32)) = (0 : Int32) then (0 : Int32) else (if x6 = x12 then (1 : Int32) else (0 : Int32))) else (0 : Int32)) else (0 : Int32) := by
  rw [own_eqs 1 0 (fun _ => x8), own_eqs 1 0 (fun _ => x9), own_eqs 2, own_eqs 4]
  exact own_law00 x3 x8 x4 x9 x5 x10 x6 x12 R3 R8 R4 R9 R5 R10 R6 R12
theorem own_law11' (x3 x8 x4 x9 x6 x12 : Int32) (R3 : 0 ≤ x3.toInt ∧ x3.toInt ≤ 255) (R8 : 0 ≤ x8.toInt ∧ x8.toInt ≤ 255) (R4 : 0 ≤ x4.toInt ∧ x4.toInt ≤ 255) (R9 : 0 ≤ x9.toInt ∧ x9.toInt ≤ 255) (R6 : 0 ≤ x6.toInt ∧ x6.toInt ≤ 255) (R12 : 0 ≤ x12.toInt ∧ x12.toInt ≤ 255) :
    own_and4 (own_eq 1 0 (fun _ => x8) (fun _ => x3)) (own_eq 1 0 (fun _ => x9) (fun _ => x4)) 1 (own_eq 2 0 (own_c2 47 x12) (own_c2 47 x6)) = if x3 = x8 then (if x4 = x9 then (if x6 = x12 then (1 : Int32) else (0 : Int32)) else (0 : Int32)) else (0 : Int32) := by
  rw [own_eqs 1 0 (fun _ => x8), own_eqs 1 0 (fun _ => x9), own_eqs 2]
  exact own_law11 x3 x8 x4 x9 x6 x12 R3 R8 R4 R9 R6 R12
theorem own_lenne {Z : State} {h : Heap} {a b c1 c2 : Addr} {C nm d : String} {ty : FieldType} {n m : Nat} {f g : Nat → Value} (q : a = b) (F : Fld Z h a C nm d (.ref c1)) (G : Fld Z h b C nm d (.ref c2)) (A : OArr Z h c1 ty n f) (B : OArr Z h c2 ty m g) (hne : n ≠ m) : False := by
  subst q
  obtain ⟨cell, cf, k, i, fd, h1, h2, -, -, -, -, h7⟩ := F
  obtain ⟨cell', cf', k', i', fd', h1', h2', -, -, -, -, h7'⟩ := G
  cases h1.symm.trans h1'
  cases h2.symm.trans h2'
  cases h7.symm.trans h7'
  obtain ⟨cl, A1, s1, -⟩ := A
  obtain ⟨cl', A2, s2, -⟩ := B
  cases A1.1.symm.trans A2.1
  exact hne (s1.symm.trans s2)
theorem pn_0 : plainName "com/example/ronda/ronda/engine/ApiVersionEqualsPinLaw" = true := by first | (simp [plainName, overriddenIn]; done) | decide +kernel
theorem ef_0 (m : MethodId) (p0 : Int32) (p1 : Int32) (p2 : Int32) : entryFrame m #[(.int p0), (.int p1), (.int p2)] maxLocals = mkF m 0 #[.val (.int p0), .val (.int p1), .val (.int p2), .unset, .unset, .unset, .unset, .unset, .unset, .unset, .unset, .unset, .unset, .unset, .unset, .unset, .unset] [] := by first | (simp [entryFrame, mkF, argsToLocals, Value.category, maxLocals]; done) | rfl
set_option maxRecDepth 65536 in
set_option maxHeartbeats 40000000 in
theorem own_tail_00 {l : Launch} {Z : State} {a0 : Array Value} (hw : ∀ d ∈ tables_1, d.before a0 Z = true) (p0 p1 p2 : Int32) (h0 : Heap) (n0 : Nat) (cs : Int32) (hcs : ¬ cs = 0) (S : Sta Z h0 "java/lang/String" "COMPACT_STRINGS" "Z" (.int cs)) (fm : Value) (hfm : fm.isRef = true) (SF : Sta Z h0 "jdk/internal/util/Preconditions" "SIOOBE_FORMATTER" "Ljava/util/function/BiFunction;" fm) (ca : Addr) (ia : Nat → Addr) (SH : Sta Z h0 "java/lang/Integer$IntegerCache" "high" "I" (.int (127 : Int32))) (SC : Sta Z h0 "java/lang/Integer$IntegerCache" "cache" "[Ljava/lang/Integer;" (.ref ca)) (A_ca : OArr Z h0 ca (.object "java/lang/Integer") 256 (fun j => .ref (ia j))) (hia : ∀ j, j < 256 → Exa Z h0 (ia j) "java/lang/Integer") (x3 x4 x5 x6 x8 x9 x10 x12 : Int32) (R3 : 0 ≤ x3.toInt ∧ x3.toInt ≤ 255) (R4 : 0 ≤ x4.toInt ∧ x4.toInt ≤ 255) (R5 : 0 ≤ x5.toInt ∧ x5.toInt ≤ 255) (R6 : 0 ≤ x6.toInt ∧ x6.toInt ≤ 255) (R8 : 0 ≤ x8.toInt ∧ x8.toInt ≤ 255) (R9 : 0 ≤ x9.toInt ∧ x9.toInt ≤ 255) (R10 : 0 ≤ x10.toInt ∧ x10.toInt ≤ 255) (R12 : 0 ≤ x12.toInt ∧ x12.toInt ≤ 255) (N5 : ¬ own_by x5 = own_by 47) (N10 : ¬ own_by x10 = own_by 47) {p : Program} {e : Env} {s : State} {m : MethodId} {below : List Frame} {meth : Method} {c : Code} (T0 : State) (vm0 : Vm) (G0 : OG l Z x code maxLocals ret n0 p e room_1 (s.setVm vm0) m #[(.int p0), (.int p1), (.int p2)] below meth c T0 h0 0 0) (SN : s.Since vm0 h0.size) (H : CHv Z own_EL vm0 h0) :
    OFin p e below (OW n0 s (fun v _ _ => v = some (.int 1)) 88 4480) T0 (mkF m 168 #[.val (.int p0), .val (.int p1), .val (.int p2), .val (.int x3), .val (.int x4), .val (.int x5), .val (.int x6), .val (.int (0 : Int32)), .val (.int x8), .val (.int x9), .val (.int x10), .val (.int (0 : Int32)), .val (.int x12), .unset, .unset, .unset, .unset] []) := by
  have hk : h0.size ≤ h0.size := Nat.le_refl _
  have hEL := own_EW hw
  have K : Keep h0 h0 [] := Keep.refl _ _
  refine o_iloadN G0 at_168 (pc' := 169) rfl rfl ?_
  refine o_iload G0 at_169 (pc' := 171) rfl rfl ?_
  refine o_iload G0 at_171 (pc' := 173) rfl rfl ?_
  refine o_iload G0 at_173 (pc' := 175) rfl rfl ?_
  refine o_iload G0 at_175 (pc' := 177) rfl rfl ?_
  refine o_callSW G0 SN hk (z := (⟨"com/example/ronda/ronda/engine/ApiVersionEqualsPinLaw", "make", "(CCZCC)Lcom/example/ronda/ronda/engine/ApiVersion;"⟩ : MethodName)) (argsL := [(.int x3), (.int x4), (.int (0 : Int32)), (.int x5), (.int x6)]) (rest := []) (W := 0) (ow hw 4 rfl) (ow hw 5 rfl) at_177 (by decide) (ow hw 2 rfl) (ow hw 6 rfl) (rm2_0 hw x3 x4 x5 x6 h0 n0 G0.sz cs hcs S fm hfm SF R3 R4 R5 R6 N5) (fun vm1 hw1 => o_chw G0.wz hw1 hEL H) (by decide) (by decide) rfl (lenOf pd_39 rfl) rfl (Nat.le_of_eq rfl) (pc' := 180) rfl (by decide) (by decide) ?_
  rintro _ T1 h1 vm1 G1 SN1 - ⟨o1, y11, z11, y12, z12, y13, z13, y14, z14, rfl, ⟨-, g11, g12, g13, g14⟩, K1, X1, ⟨F11, F12, F13, F14⟩, ⟨E_y11, Fv_y11, Fc_y11, A_z11⟩, ⟨E_y12, Fv_y12, Fc_y12, A_z12⟩, ⟨E_y13, Fv_y13, Fc_y13, A_z13⟩, ⟨E_y14, Fv_y14, Fc_y14, A_z14⟩, H1⟩
  replace S := o_stak S K1 (fun x hx => nomatch hx)
  replace SF := o_stak SF K1 (fun x hx => nomatch hx)
  replace K := K.trans K1 all0
  replace H := H1
  replace SN := SN1
  replace hk := Nat.le_refl h1.size
  show OFin _ _ _ _ T1 (mkF m 180 #[.val (.int p0), .val (.int p1), .val (.int p2), .val (.int x3), .val (.int x4), .val (.int x5), .val (.int x6), .val (.int (0 : Int32)), .val (.int x8), .val (.int x9), .val (.int x10), .val (.int (0 : Int32)), .val (.int x12), .unset, .unset, .unset, .unset] [(.ref o1)])
  refine o_astore G1 at_180 (pc' := 182) rfl rfl (l' := #[.val (.int p0), .val (.int p1), .val (.int p2), .val (.int x3), .val (.int x4), .val (.int x5), .val (.int x6), .val (.int (0 : Int32)), .val (.int x8), .val (.int x9), .val (.int x10), .val (.int (0 : Int32)), .val (.int x12), .val (.ref o1), .unset, .unset, .unset]) rfl ?_
  refine o_iload G1 at_182 (pc' := 184) rfl rfl ?_
  refine o_iload G1 at_184 (pc' := 186) rfl rfl ?_
  refine o_iload G1 at_186 (pc' := 188) rfl rfl ?_
  refine o_iload G1 at_188 (pc' := 190) rfl rfl ?_
  refine o_iload G1 at_190 (pc' := 192) rfl rfl ?_
  refine o_callSW G1 SN hk (z := (⟨"com/example/ronda/ronda/engine/ApiVersionEqualsPinLaw", "make", "(CCZCC)Lcom/example/ronda/ronda/engine/ApiVersion;"⟩ : MethodName)) (argsL := [(.int x8), (.int x9), (.int (0 : Int32)), (.int x10), (.int x12)]) (rest := []) (W := 0) (ow hw 4 rfl) (ow hw 5 rfl) at_192 (by decide) (ow hw 2 rfl) (ow hw 6 rfl) (rm2_0 hw x8 x9 x10 x12 h1 n0 G1.sz cs hcs S fm hfm SF R8 R9 R10 R12 N10) (fun vm1 hw1 => o_chw G1.wz hw1 hEL H) (by decide) (by decide) rfl (lenOf pd_39 rfl) rfl (Nat.le_of_eq rfl) (pc' := 195) rfl (by decide) (by decide) ?_
  rintro _ T2 h2 vm2 G2 SN2 - ⟨o2, y21, z21, y22, z22, y23, z23, y24, z24, rfl, ⟨-, g21, g22, g23, g24⟩, K2, X2, ⟨F21, F22, F23, F24⟩, ⟨E_y21, Fv_y21, Fc_y21, A_z21⟩, ⟨E_y22, Fv_y22, Fc_y22, A_z22⟩, ⟨E_y23, Fv_y23, Fc_y23, A_z23⟩, ⟨E_y24, Fv_y24, Fc_y24, A_z24⟩, H2⟩
  have n1 : y11 ≠ y21 := Nat.ne_of_lt (Nat.lt_of_lt_of_le E_y11.lt g21)
  have n2 : y12 ≠ y22 := Nat.ne_of_lt (Nat.lt_of_lt_of_le E_y12.lt g22)
  have n3 : y13 ≠ y23 := Nat.ne_of_lt (Nat.lt_of_lt_of_le E_y13.lt g23)
  have n4 : y14 ≠ y24 := Nat.ne_of_lt (Nat.lt_of_lt_of_le E_y14.lt g24)
  replace S := o_stak S K2 (fun x hx => nomatch hx)
  replace SF := o_stak SF K2 (fun x hx => nomatch hx)
  replace K := K.trans K2 all0
  replace X1 := X1.keep K2
  replace F11 := F11.keep K2 nin0
  replace F12 := F12.keep K2 nin0
  replace F13 := F13.keep K2 nin0
  replace F14 := F14.keep K2 nin0
  replace E_y11 := E_y11.keep K2
  replace Fv_y11 := Fv_y11.keep K2 nin0
  replace Fc_y11 := Fc_y11.keep K2 nin0
  replace A_z11 := A_z11.keep K2 nin0
  replace E_y12 := E_y12.keep K2
  replace Fv_y12 := Fv_y12.keep K2 nin0
  replace Fc_y12 := Fc_y12.keep K2 nin0
  replace A_z12 := A_z12.keep K2 nin0
  replace E_y13 := E_y13.keep K2
  replace Fv_y13 := Fv_y13.keep K2 nin0
  replace Fc_y13 := Fc_y13.keep K2 nin0
  replace A_z13 := A_z13.keep K2 nin0
  replace E_y14 := E_y14.keep K2
  replace Fv_y14 := Fv_y14.keep K2 nin0
  replace Fc_y14 := Fc_y14.keep K2 nin0
  replace A_z14 := A_z14.keep K2 nin0
  replace H := H2
  replace SN := SN2
  replace hk := Nat.le_refl h2.size
  show OFin _ _ _ _ T2 (mkF m 195 #[.val (.int p0), .val (.int p1), .val (.int p2), .val (.int x3), .val (.int x4), .val (.int x5), .val (.int x6), .val (.int (0 : Int32)), .val (.int x8), .val (.int x9), .val (.int x10), .val (.int (0 : Int32)), .val (.int x12), .val (.ref o1), .unset, .unset, .unset] [(.ref o2)])
  refine o_astore G2 at_195 (pc' := 197) rfl rfl (l' := #[.val (.int p0), .val (.int p1), .val (.int p2), .val (.int x3), .val (.int x4), .val (.int x5), .val (.int x6), .val (.int (0 : Int32)), .val (.int x8), .val (.int x9), .val (.int x10), .val (.int (0 : Int32)), .val (.int x12), .val (.ref o1), .val (.ref o2), .unset, .unset]) rfl ?_
  refine o_iload G2 at_197 (pc' := 199) rfl rfl ?_
  refine o_iload G2 at_199 (pc' := 201) rfl rfl ?_
  refine o_icmp_ne G2 at_201 (by decide) (pcT := 220) (by decide) (pc' := 204) rfl (fun q => absurd (by decide) q) (fun _ => ?_)
  refine o_iload G2 at_204 (pc' := 206) rfl rfl ?_
  refine o_if_ne G2 at_206 (by decide) (pcT := 216) (by decide) (pc' := 209) rfl (fun q => absurd (by decide) q) (fun _ => ?_)
  refine o_iload G2 at_209 (pc' := 211) rfl rfl ?_
  refine o_iload G2 at_211 (pc' := 213) rfl rfl ?_
  obtain ⟨v3, e3⟩ : ∃ z, (if x5 = x10 then (1 : Int32) else (0 : Int32)) = z := ⟨_, rfl⟩
  have K4 : ∀ T', OG l Z x code maxLocals ret n0 p e room_1 (s.setVm vm2) m #[(.int p0), (.int p1), (.int p2)] below meth c T' h2 64 700 → OFin p e below (OW n0 s (fun v _ _ => v = some (.int 1)) 88 4480) T' (mkF m 221 #[.val (.int p0), .val (.int p1), .val (.int p2), .val (.int x3), .val (.int x4), .val (.int x5), .val (.int x6), .val (.int (0 : Int32)), .val (.int x8), .val (.int x9), .val (.int x10), .val (.int (0 : Int32)), .val (.int x12), .val (.ref o1), .val (.ref o2), .unset, .unset] [(.int v3)]) := by
    intro T4 G4
    refine o_istore G4 at_221 (pc' := 223) rfl (l' := #[.val (.int p0), .val (.int p1), .val (.int p2), .val (.int x3), .val (.int x4), .val (.int x5), .val (.int x6), .val (.int (0 : Int32)), .val (.int x8), .val (.int x9), .val (.int x10), .val (.int (0 : Int32)), .val (.int x12), .val (.ref o1), .val (.ref o2), .val (.int v3), .unset]) rfl ?_
    refine o_iloadN G4 at_223 (pc' := 224) rfl rfl ?_
    refine o_iload G4 at_224 (pc' := 226) rfl rfl ?_
    obtain ⟨v5, e5⟩ : ∃ z, (if x3 = x8 then (if x4 = x9 then (if v3 = (0 : Int32) then (0 : Int32) else (if x6 = x12 then (1 : Int32) else (0 : Int32))) else (0 : Int32)) else (0 : Int32)) = z := ⟨_, rfl⟩
    have K6 : ∀ T', OG l Z x code maxLocals ret n0 p e room_1 (s.setVm vm2) m #[(.int p0), (.int p1), (.int p2)] below meth c T' h2 64 700 → OFin p e below (OW n0 s (fun v _ _ => v = some (.int 1)) 88 4480) T' (mkF m 253 #[.val (.int p0), .val (.int p1), .val (.int p2), .val (.int x3), .val (.int x4), .val (.int x5), .val (.int x6), .val (.int (0 : Int32)), .val (.int x8), .val (.int x9), .val (.int x10), .val (.int (0 : Int32)), .val (.int x12), .val (.ref o1), .val (.ref o2), .val (.int v3), .unset] [(.int v5)]) := by
      intro T6 G6
      refine o_istore G6 at_253 (pc' := 255) rfl (l' := #[.val (.int p0), .val (.int p1), .val (.int p2), .val (.int x3), .val (.int x4), .val (.int x5), .val (.int x6), .val (.int (0 : Int32)), .val (.int x8), .val (.int x9), .val (.int x10), .val (.int (0 : Int32)), .val (.int x12), .val (.ref o1), .val (.ref o2), .val (.int v3), .val (.int v5)]) rfl ?_
      refine o_aload G6 at_255 (pc' := 257) rfl rfl rfl ?_
      refine o_aload G6 at_257 (pc' := 259) rfl rfl rfl ?_
      refine o_callV G6 (z := (⟨"com/example/ronda/ronda/engine/ApiVersion", "equals", "(Ljava/lang/Object;)Z"⟩ : MethodName)) (argsL := [(.ref o2)]) (rest := []) (W := 0) X1 (ow hw 246 rfl) (ow hw 248 rfl) (ow hw 247 rfl) (ow hw 249 rfl) at_259 (by decide) (ow hw 53 rfl) (ow hw 250 rfl) (rm48_o hw o1 o2 h2 n0 G6.sz X1 X2 y11 y12 y13 y14 y21 y22 y23 y24 F11 E_y11 F12 E_y12 F13 E_y13 F14 E_y14 F21 E_y21 F22 E_y22 F23 E_y23 F24 E_y24 (own_eq 1 0 (fun _ => x3) (fun _ => x8)) (rm49_11 hw y11 y21 h2 n0 G6.sz cs hcs S z11 (fun _ => x3) E_y11 Fv_y11 Fc_y11 A_z11 z21 (fun _ => x8) E_y21 Fv_y21 Fc_y21 A_z21 n1) (own_eq 1 0 (fun _ => x4) (fun _ => x9)) (rm49_11 hw y12 y22 h2 n0 G6.sz cs hcs S z12 (fun _ => x4) E_y12 Fv_y12 Fc_y12 A_z12 z22 (fun _ => x9) E_y22 Fv_y22 Fc_y22 A_z22 n2) (own_eq 2 0 (own_c2 x5 47) (own_c2 x10 47)) (rm49_22 hw y13 y23 h2 n0 G6.sz cs hcs S z13 (own_c2 x5 47) E_y13 Fv_y13 Fc_y13 A_z13 z23 (own_c2 x10 47) E_y23 Fv_y23 Fc_y23 A_z23 n3) (own_eq 4 0 (own_c4 47 x5 47 x6) (own_c4 47 x10 47 x12)) (rm49_44 hw y14 y24 h2 n0 G6.sz cs hcs S z14 (own_c4 47 x5 47 x6) E_y14 Fv_y14 Fc_y14 A_z14 z24 (own_c4 47 x10 47 x12) E_y24 Fv_y24 Fc_y24 A_z24 n4)) (by decide) (by decide) rfl (lenOf pd_29 rfl) rfl (Nat.le_of_eq rfl) (pc' := 262) rfl (by decide) (by decide) ?_
      rintro _ T7 h7 G7 ⟨rfl, hh⟩
      subst hh
      show OFin _ _ _ _ T7 (mkF m 262 #[.val (.int p0), .val (.int p1), .val (.int p2), .val (.int x3), .val (.int x4), .val (.int x5), .val (.int x6), .val (.int (0 : Int32)), .val (.int x8), .val (.int x9), .val (.int x10), .val (.int (0 : Int32)), .val (.int x12), .val (.ref o1), .val (.ref o2), .val (.int v3), .val (.int v5)] [(.int (own_and4 (own_eq 1 0 (fun _ => x3) (fun _ => x8)) (own_eq 1 0 (fun _ => x4) (fun _ => x9)) (own_eq 2 0 (own_c2 x5 47) (own_c2 x10 47)) (own_eq 4 0 (own_c4 47 x5 47 x6) (own_c4 47 x10 47 x12))))])
      refine o_iload G7 at_262 (pc' := 264) rfl rfl ?_
      have q264 : (own_and4 (own_eq 1 0 (fun _ => x3) (fun _ => x8)) (own_eq 1 0 (fun _ => x4) (fun _ => x9)) (own_eq 2 0 (own_c2 x5 47) (own_c2 x10 47)) (own_eq 4 0 (own_c4 47 x5 47 x6) (own_c4 47 x10 47 x12))) = v5 := by
        rw [← e5, ← e3]
        exact own_law00 x3 x8 x4 x9 x5 x10 x6 x12 R3 R8 R4 R9 R5 R10 R6 R12
      refine o_icmp_ne G7 at_264 (by decide) (pcT := 314) (by decide) (pc' := 267) rfl (fun q => absurd q264 q) (fun _ => ?_)
      refine o_aload G7 at_267 (pc' := 269) rfl rfl rfl ?_
      refine o_aload G7 at_269 (pc' := 271) rfl rfl rfl ?_
      refine o_callV G7 (z := (⟨"com/example/ronda/ronda/engine/ApiVersion", "equals", "(Ljava/lang/Object;)Z"⟩ : MethodName)) (argsL := [(.ref o1)]) (rest := []) (W := 0) X2 (ow hw 246 rfl) (ow hw 248 rfl) (ow hw 247 rfl) (ow hw 249 rfl) at_271 (by decide) (ow hw 53 rfl) (ow hw 250 rfl) (rm48_o hw o2 o1 h2 n0 G7.sz X2 X1 y21 y22 y23 y24 y11 y12 y13 y14 F21 E_y21 F22 E_y22 F23 E_y23 F24 E_y24 F11 E_y11 F12 E_y12 F13 E_y13 F14 E_y14 (own_eq 1 0 (fun _ => x8) (fun _ => x3)) (rm49_11 hw y21 y11 h2 n0 G7.sz cs hcs S z21 (fun _ => x8) E_y21 Fv_y21 Fc_y21 A_z21 z11 (fun _ => x3) E_y11 Fv_y11 Fc_y11 A_z11 (Ne.symm n1)) (own_eq 1 0 (fun _ => x9) (fun _ => x4)) (rm49_11 hw y22 y12 h2 n0 G7.sz cs hcs S z22 (fun _ => x9) E_y22 Fv_y22 Fc_y22 A_z22 z12 (fun _ => x4) E_y12 Fv_y12 Fc_y12 A_z12 (Ne.symm n2)) (own_eq 2 0 (own_c2 x10 47) (own_c2 x5 47)) (rm49_22 hw y23 y13 h2 n0 G7.sz cs hcs S z23 (own_c2 x10 47) E_y23 Fv_y23 Fc_y23 A_z23 z13 (own_c2 x5 47) E_y13 Fv_y13 Fc_y13 A_z13 (Ne.symm n3)) (own_eq 4 0 (own_c4 47 x10 47 x12) (own_c4 47 x5 47 x6)) (rm49_44 hw y24 y14 h2 n0 G7.sz cs hcs S z24 (own_c4 47 x10 47 x12) E_y24 Fv_y24 Fc_y24 A_z24 z14 (own_c4 47 x5 47 x6) E_y14 Fv_y14 Fc_y14 A_z14 (Ne.symm n4))) (by decide) (by decide) rfl (lenOf pd_29 rfl) rfl (Nat.le_of_eq rfl) (pc' := 274) rfl (by decide) (by decide) ?_
      rintro _ T8 h8 G8 ⟨rfl, hh⟩
      subst hh
      show OFin _ _ _ _ T8 (mkF m 274 #[.val (.int p0), .val (.int p1), .val (.int p2), .val (.int x3), .val (.int x4), .val (.int x5), .val (.int x6), .val (.int (0 : Int32)), .val (.int x8), .val (.int x9), .val (.int x10), .val (.int (0 : Int32)), .val (.int x12), .val (.ref o1), .val (.ref o2), .val (.int v3), .val (.int v5)] [(.int (own_and4 (own_eq 1 0 (fun _ => x8) (fun _ => x3)) (own_eq 1 0 (fun _ => x9) (fun _ => x4)) (own_eq 2 0 (own_c2 x10 47) (own_c2 x5 47)) (own_eq 4 0 (own_c4 47 x10 47 x12) (own_c4 47 x5 47 x6))))])
      refine o_iload G8 at_274 (pc' := 276) rfl rfl ?_
      have q276 : (own_and4 (own_eq 1 0 (fun _ => x8) (fun _ => x3)) (own_eq 1 0 (fun _ => x9) (fun _ => x4)) (own_eq 2 0 (own_c2 x10 47) (own_c2 x5 47)) (own_eq 4 0 (own_c4 47 x10 47 x12) (own_c4 47 x5 47 x6))) = v5 := by
        rw [← e5, ← e3]
        exact own_law00' x3 x8 x4 x9 x5 x10 x6 x12 R3 R8 R4 R9 R5 R10 R6 R12
      refine o_icmp_ne G8 at_276 (by decide) (pcT := 314) (by decide) (pc' := 279) rfl (fun q => absurd q276 q) (fun _ => ?_)
      refine o_aload G8 at_279 (pc' := 281) rfl rfl rfl ?_
      refine o_aload G8 at_281 (pc' := 283) rfl rfl rfl ?_
      refine o_callV G8 (z := (⟨"com/example/ronda/ronda/engine/ApiVersion", "equals", "(Ljava/lang/Object;)Z"⟩ : MethodName)) (argsL := [(.ref o1)]) (rest := []) (W := 0) X1 (ow hw 246 rfl) (ow hw 248 rfl) (ow hw 247 rfl) (ow hw 249 rfl) at_283 (by decide) (ow hw 53 rfl) (ow hw 250 rfl) (rm48_o hw o1 o1 h2 n0 G8.sz X1 X1 y11 y12 y13 y14 y11 y12 y13 y14 F11 E_y11 F12 E_y12 F13 E_y13 F14 E_y14 F11 E_y11 F12 E_y12 F13 E_y13 F14 E_y14 1 (rm49_same hw y11 y11 h2 n0 G8.sz rfl) 1 (rm49_same hw y12 y12 h2 n0 G8.sz rfl) 1 (rm49_same hw y13 y13 h2 n0 G8.sz rfl) 1 (rm49_same hw y14 y14 h2 n0 G8.sz rfl)) (by decide) (by decide) rfl (lenOf pd_29 rfl) rfl (Nat.le_of_eq rfl) (pc' := 286) rfl (by decide) (by decide) ?_
      rintro _ T9 h9 G9 ⟨rfl, hh⟩
      subst hh
      show OFin _ _ _ _ T9 (mkF m 286 #[.val (.int p0), .val (.int p1), .val (.int p2), .val (.int x3), .val (.int x4), .val (.int x5), .val (.int x6), .val (.int (0 : Int32)), .val (.int x8), .val (.int x9), .val (.int x10), .val (.int (0 : Int32)), .val (.int x12), .val (.ref o1), .val (.ref o2), .val (.int v3), .val (.int v5)] [(.int (own_and4 1 1 1 1))])
      refine o_if_eq G9 at_286 (by decide) (pcT := 314) (by decide) (pc' := 289) rfl (fun q => absurd q (by decide)) (fun _ => ?_)
      refine o_aload G9 at_289 (pc' := 291) rfl rfl rfl ?_
      refine o_aconst_null G9 at_291 (pc' := 292) rfl ?_
      refine o_callV G9 (z := (⟨"com/example/ronda/ronda/engine/ApiVersion", "equals", "(Ljava/lang/Object;)Z"⟩ : MethodName)) (argsL := [.null]) (rest := []) (W := 0) X1 (ow hw 246 rfl) (ow hw 248 rfl) (ow hw 247 rfl) (ow hw 249 rfl) at_292 (by decide) (ow hw 53 rfl) (ow hw 250 rfl) (rm48_z hw o1 h2 n0 G9.sz) (by decide) (by decide) rfl (lenOf pd_29 rfl) rfl (Nat.le_of_eq rfl) (pc' := 295) rfl (by decide) (by decide) ?_
      rintro _ T10 h10 G10 ⟨rfl, hh⟩
      subst hh
      show OFin _ _ _ _ T10 (mkF m 295 #[.val (.int p0), .val (.int p1), .val (.int p2), .val (.int x3), .val (.int x4), .val (.int x5), .val (.int x6), .val (.int (0 : Int32)), .val (.int x8), .val (.int x9), .val (.int x10), .val (.int (0 : Int32)), .val (.int x12), .val (.ref o1), .val (.ref o2), .val (.int v3), .val (.int v5)] [(.int (0 : Int32))])
      refine o_if_ne G10 at_295 (by decide) (pcT := 314) (by decide) (pc' := 298) rfl (fun q => absurd (by decide) q) (fun _ => ?_)
      refine o_aload G10 at_298 (pc' := 300) rfl rfl rfl ?_
      refine o_iloadN G10 at_300 (pc' := 301) rfl rfl ?_
      refine o_callS G10 (z := (⟨"java/lang/Integer", "valueOf", "(I)Ljava/lang/Integer;"⟩ : MethodName)) (argsL := [(.int p0)]) (rest := [(.ref o1)]) (W := 1) (ow hw 261 rfl) (ow hw 262 rfl) at_301 (by decide) (ow hw 263 rfl) (ow hw 264 rfl) (rm51 hw p0 h2 n0 G10.sz ca ia (o_stak SH K (fun x hx => nomatch hx)) (o_stak SC K (fun x hx => nomatch hx)) (A_ca.keep K nin0) (fun j hj => (hia j hj).keep K)) (by decide) (by decide) rfl (lenOf pd_40 rfl) rfl (Nat.le_of_eq rfl) (pc' := 304) rfl (by decide) (by decide) ?_
      rintro _ T11 h11 G11 ⟨ib, rfl, K11, Xi⟩
      replace X1 := X1.keep K11
      replace hk := Nat.le_trans hk K11.1
      show OFin _ _ _ _ T11 (mkF m 304 #[.val (.int p0), .val (.int p1), .val (.int p2), .val (.int x3), .val (.int x4), .val (.int x5), .val (.int x6), .val (.int (0 : Int32)), .val (.int x8), .val (.int x9), .val (.int x10), .val (.int (0 : Int32)), .val (.int x12), .val (.ref o1), .val (.ref o2), .val (.int v3), .val (.int v5)] [(.ref ib), (.ref o1)])
      refine o_callV G11 (z := (⟨"com/example/ronda/ronda/engine/ApiVersion", "equals", "(Ljava/lang/Object;)Z"⟩ : MethodName)) (argsL := [(.ref ib)]) (rest := []) (W := 0) X1 (ow hw 246 rfl) (ow hw 248 rfl) (ow hw 247 rfl) (ow hw 249 rfl) at_304 (by decide) (ow hw 53 rfl) (ow hw 250 rfl) (rm48_i hw o1 ib h11 n0 G11.sz Xi) (by decide) (by decide) rfl (lenOf pd_29 rfl) rfl (Nat.le_of_eq rfl) (pc' := 307) rfl (by decide) (by decide) ?_
      rintro _ T12 h12 G12 ⟨rfl, hh⟩
      subst hh
      show OFin _ _ _ _ T12 (mkF m 307 #[.val (.int p0), .val (.int p1), .val (.int p2), .val (.int x3), .val (.int x4), .val (.int x5), .val (.int x6), .val (.int (0 : Int32)), .val (.int x8), .val (.int x9), .val (.int x10), .val (.int (0 : Int32)), .val (.int x12), .val (.ref o1), .val (.ref o2), .val (.int v3), .val (.int v5)] [(.int (0 : Int32))])
      refine o_if_ne G12 at_307 (by decide) (pcT := 314) (by decide) (pc' := 310) rfl (fun q => absurd (by decide) q) (fun _ => ?_)
      refine o_iconst G12 at_310 (pc' := 311) rfl (v := (1 : Int32)) rfl ?_
      refine o_goto G12 at_311 (by decide) (pc' := 315) rfl ?_
      exact o_nreturnW G12 SN hk (Or.inl rfl) (Nat.le_refl _) at_315 (fun vm1 hw1 => rfl) (by decide) (by decide)
    refine o_icmp_ne G4 at_226 (by decide) (pcT := 252) (by decide) (pc' := 229) rfl (fun hc226 => ?_) (fun hc226 => ?_)
    · refine o_iconst G4 at_252 (pc' := 253) rfl (v := (0 : Int32)) rfl ?_
      rw [if_neg hc226] at e5
      subst e5
      exact K6 _ G4
    · refine o_iload G4 at_229 (pc' := 231) rfl rfl ?_
      refine o_iload G4 at_231 (pc' := 233) rfl rfl ?_
      refine o_icmp_ne G4 at_233 (by decide) (pcT := 252) (by decide) (pc' := 236) rfl (fun hc233 => ?_) (fun hc233 => ?_)
      · refine o_iconst G4 at_252 (pc' := 253) rfl (v := (0 : Int32)) rfl ?_
        rw [if_pos hc226, if_neg hc233] at e5
        subst e5
        exact K6 _ G4
      · refine o_iload G4 at_236 (pc' := 238) rfl rfl ?_
        refine o_if_eq G4 at_238 (by decide) (pcT := 252) (by decide) (pc' := 241) rfl (fun hc238 => ?_) (fun hc238 => ?_)
        · refine o_iconst G4 at_252 (pc' := 253) rfl (v := (0 : Int32)) rfl ?_
          rw [if_pos hc226, if_pos hc233, if_pos hc238] at e5
          subst e5
          exact K6 _ G4
        · refine o_iload G4 at_241 (pc' := 243) rfl rfl ?_
          refine o_iload G4 at_243 (pc' := 245) rfl rfl ?_
          refine o_icmp_ne G4 at_245 (by decide) (pcT := 252) (by decide) (pc' := 248) rfl (fun hc245 => ?_) (fun hc245 => ?_)
          · refine o_iconst G4 at_252 (pc' := 253) rfl (v := (0 : Int32)) rfl ?_
            rw [if_pos hc226, if_pos hc233, if_neg hc238, if_neg hc245] at e5
            subst e5
            exact K6 _ G4
          · refine o_iconst G4 at_248 (pc' := 249) rfl (v := (1 : Int32)) rfl ?_
            refine o_goto G4 at_249 (by decide) (pc' := 253) rfl ?_
            rw [if_pos hc226, if_pos hc233, if_neg hc238, if_pos hc245] at e5
            subst e5
            exact K6 _ G4
  refine o_icmp_ne G2 at_213 (by decide) (pcT := 220) (by decide) (pc' := 216) rfl (fun hc213 => ?_) (fun hc213 => ?_)
  · refine o_iconst G2 at_220 (pc' := 221) rfl (v := (0 : Int32)) rfl ?_
    rw [if_neg hc213] at e3
    subst e3
    exact K4 _ G2
  · refine o_iconst G2 at_216 (pc' := 217) rfl (v := (1 : Int32)) rfl ?_
    refine o_goto G2 at_217 (by decide) (pc' := 221) rfl ?_
    rw [if_pos hc213] at e3
    subst e3
    exact K4 _ G2
set_option maxRecDepth 65536 in
set_option maxHeartbeats 40000000 in
theorem own_tail_01 {l : Launch} {Z : State} {a0 : Array Value} (hw : ∀ d ∈ tables_1, d.before a0 Z = true) (p0 p1 p2 : Int32) (h0 : Heap) (n0 : Nat) (cs : Int32) (hcs : ¬ cs = 0) (S : Sta Z h0 "java/lang/String" "COMPACT_STRINGS" "Z" (.int cs)) (fm : Value) (hfm : fm.isRef = true) (SF : Sta Z h0 "jdk/internal/util/Preconditions" "SIOOBE_FORMATTER" "Ljava/util/function/BiFunction;" fm) (ca : Addr) (ia : Nat → Addr) (SH : Sta Z h0 "java/lang/Integer$IntegerCache" "high" "I" (.int (127 : Int32))) (SC : Sta Z h0 "java/lang/Integer$IntegerCache" "cache" "[Ljava/lang/Integer;" (.ref ca)) (A_ca : OArr Z h0 ca (.object "java/lang/Integer") 256 (fun j => .ref (ia j))) (hia : ∀ j, j < 256 → Exa Z h0 (ia j) "java/lang/Integer") (x3 x4 x5 x6 x8 x9 x10 x12 : Int32) (R3 : 0 ≤ x3.toInt ∧ x3.toInt ≤ 255) (R4 : 0 ≤ x4.toInt ∧ x4.toInt ≤ 255) (R5 : 0 ≤ x5.toInt ∧ x5.toInt ≤ 255) (R6 : 0 ≤ x6.toInt ∧ x6.toInt ≤ 255) (R8 : 0 ≤ x8.toInt ∧ x8.toInt ≤ 255) (R9 : 0 ≤ x9.toInt ∧ x9.toInt ≤ 255) (R10 : 0 ≤ x10.toInt ∧ x10.toInt ≤ 255) (R12 : 0 ≤ x12.toInt ∧ x12.toInt ≤ 255) (N5 : ¬ own_by x5 = own_by 47) (N10 : ¬ own_by x10 = own_by 47) {p : Program} {e : Env} {s : State} {m : MethodId} {below : List Frame} {meth : Method} {c : Code} (T0 : State) (vm0 : Vm) (G0 : OG l Z x code maxLocals ret n0 p e room_1 (s.setVm vm0) m #[(.int p0), (.int p1), (.int p2)] below meth c T0 h0 0 0) (SN : s.Since vm0 h0.size) (H : CHv Z own_EL vm0 h0) :
    OFin p e below (OW n0 s (fun v _ _ => v = some (.int 1)) 88 4480) T0 (mkF m 168 #[.val (.int p0), .val (.int p1), .val (.int p2), .val (.int x3), .val (.int x4), .val (.int x5), .val (.int x6), .val (.int (0 : Int32)), .val (.int x8), .val (.int x9), .val (.int x10), .val (.int (1 : Int32)), .val (.int x12), .unset, .unset, .unset, .unset] []) := by
  have hk : h0.size ≤ h0.size := Nat.le_refl _
  have hEL := own_EW hw
  have K : Keep h0 h0 [] := Keep.refl _ _
  refine o_iloadN G0 at_168 (pc' := 169) rfl rfl ?_
  refine o_iload G0 at_169 (pc' := 171) rfl rfl ?_
  refine o_iload G0 at_171 (pc' := 173) rfl rfl ?_
  refine o_iload G0 at_173 (pc' := 175) rfl rfl ?_
  refine o_iload G0 at_175 (pc' := 177) rfl rfl ?_
  refine o_callSW G0 SN hk (z := (⟨"com/example/ronda/ronda/engine/ApiVersionEqualsPinLaw", "make", "(CCZCC)Lcom/example/ronda/ronda/engine/ApiVersion;"⟩ : MethodName)) (argsL := [(.int x3), (.int x4), (.int (0 : Int32)), (.int x5), (.int x6)]) (rest := []) (W := 0) (ow hw 4 rfl) (ow hw 5 rfl) at_177 (by decide) (ow hw 2 rfl) (ow hw 6 rfl) (rm2_0 hw x3 x4 x5 x6 h0 n0 G0.sz cs hcs S fm hfm SF R3 R4 R5 R6 N5) (fun vm1 hw1 => o_chw G0.wz hw1 hEL H) (by decide) (by decide) rfl (lenOf pd_39 rfl) rfl (Nat.le_of_eq rfl) (pc' := 180) rfl (by decide) (by decide) ?_
  rintro _ T1 h1 vm1 G1 SN1 - ⟨o1, y11, z11, y12, z12, y13, z13, y14, z14, rfl, ⟨-, g11, g12, g13, g14⟩, K1, X1, ⟨F11, F12, F13, F14⟩, ⟨E_y11, Fv_y11, Fc_y11, A_z11⟩, ⟨E_y12, Fv_y12, Fc_y12, A_z12⟩, ⟨E_y13, Fv_y13, Fc_y13, A_z13⟩, ⟨E_y14, Fv_y14, Fc_y14, A_z14⟩, H1⟩
  replace S := o_stak S K1 (fun x hx => nomatch hx)
  replace SF := o_stak SF K1 (fun x hx => nomatch hx)
  replace K := K.trans K1 all0
  replace H := H1
  replace SN := SN1
  replace hk := Nat.le_refl h1.size
  show OFin _ _ _ _ T1 (mkF m 180 #[.val (.int p0), .val (.int p1), .val (.int p2), .val (.int x3), .val (.int x4), .val (.int x5), .val (.int x6), .val (.int (0 : Int32)), .val (.int x8), .val (.int x9), .val (.int x10), .val (.int (1 : Int32)), .val (.int x12), .unset, .unset, .unset, .unset] [(.ref o1)])
  refine o_astore G1 at_180 (pc' := 182) rfl rfl (l' := #[.val (.int p0), .val (.int p1), .val (.int p2), .val (.int x3), .val (.int x4), .val (.int x5), .val (.int x6), .val (.int (0 : Int32)), .val (.int x8), .val (.int x9), .val (.int x10), .val (.int (1 : Int32)), .val (.int x12), .val (.ref o1), .unset, .unset, .unset]) rfl ?_
  refine o_iload G1 at_182 (pc' := 184) rfl rfl ?_
  refine o_iload G1 at_184 (pc' := 186) rfl rfl ?_
  refine o_iload G1 at_186 (pc' := 188) rfl rfl ?_
  refine o_iload G1 at_188 (pc' := 190) rfl rfl ?_
  refine o_iload G1 at_190 (pc' := 192) rfl rfl ?_
  refine o_callSW G1 SN hk (z := (⟨"com/example/ronda/ronda/engine/ApiVersionEqualsPinLaw", "make", "(CCZCC)Lcom/example/ronda/ronda/engine/ApiVersion;"⟩ : MethodName)) (argsL := [(.int x8), (.int x9), (.int (1 : Int32)), (.int x10), (.int x12)]) (rest := []) (W := 0) (ow hw 4 rfl) (ow hw 5 rfl) at_192 (by decide) (ow hw 2 rfl) (ow hw 6 rfl) (rm2_1 hw x8 x9 x10 x12 h1 n0 G1.sz cs hcs S fm hfm SF R8 R9 R10 R12 N10) (fun vm1 hw1 => o_chw G1.wz hw1 hEL H) (by decide) (by decide) rfl (lenOf pd_39 rfl) rfl (Nat.le_of_eq rfl) (pc' := 195) rfl (by decide) (by decide) ?_
  rintro _ T2 h2 vm2 G2 SN2 - ⟨o2, y21, z21, y22, z22, y23, z23, y24, z24, rfl, ⟨-, g21, g22, g23, g24⟩, K2, X2, ⟨F21, F22, F23, F24⟩, ⟨E_y21, Fv_y21, Fc_y21, A_z21⟩, ⟨E_y22, Fv_y22, Fc_y22, A_z22⟩, ⟨E_y23, Fv_y23, Fc_y23, A_z23⟩, ⟨E_y24, Fv_y24, Fc_y24, A_z24⟩, H2⟩
  have n1 : y11 ≠ y21 := Nat.ne_of_lt (Nat.lt_of_lt_of_le E_y11.lt g21)
  have n2 : y12 ≠ y22 := Nat.ne_of_lt (Nat.lt_of_lt_of_le E_y12.lt g22)
  have n4 : y14 ≠ y24 := Nat.ne_of_lt (Nat.lt_of_lt_of_le E_y14.lt g24)
  replace S := o_stak S K2 (fun x hx => nomatch hx)
  replace SF := o_stak SF K2 (fun x hx => nomatch hx)
  replace K := K.trans K2 all0
  replace X1 := X1.keep K2
  replace F11 := F11.keep K2 nin0
  replace F12 := F12.keep K2 nin0
  replace F13 := F13.keep K2 nin0
  replace F14 := F14.keep K2 nin0
  replace E_y11 := E_y11.keep K2
  replace Fv_y11 := Fv_y11.keep K2 nin0
  replace Fc_y11 := Fc_y11.keep K2 nin0
  replace A_z11 := A_z11.keep K2 nin0
  replace E_y12 := E_y12.keep K2
  replace Fv_y12 := Fv_y12.keep K2 nin0
  replace Fc_y12 := Fc_y12.keep K2 nin0
  replace A_z12 := A_z12.keep K2 nin0
  replace E_y13 := E_y13.keep K2
  replace Fv_y13 := Fv_y13.keep K2 nin0
  replace Fc_y13 := Fc_y13.keep K2 nin0
  replace A_z13 := A_z13.keep K2 nin0
  replace E_y14 := E_y14.keep K2
  replace Fv_y14 := Fv_y14.keep K2 nin0
  replace Fc_y14 := Fc_y14.keep K2 nin0
  replace A_z14 := A_z14.keep K2 nin0
  replace H := H2
  replace SN := SN2
  replace hk := Nat.le_refl h2.size
  show OFin _ _ _ _ T2 (mkF m 195 #[.val (.int p0), .val (.int p1), .val (.int p2), .val (.int x3), .val (.int x4), .val (.int x5), .val (.int x6), .val (.int (0 : Int32)), .val (.int x8), .val (.int x9), .val (.int x10), .val (.int (1 : Int32)), .val (.int x12), .val (.ref o1), .unset, .unset, .unset] [(.ref o2)])
  refine o_astore G2 at_195 (pc' := 197) rfl rfl (l' := #[.val (.int p0), .val (.int p1), .val (.int p2), .val (.int x3), .val (.int x4), .val (.int x5), .val (.int x6), .val (.int (0 : Int32)), .val (.int x8), .val (.int x9), .val (.int x10), .val (.int (1 : Int32)), .val (.int x12), .val (.ref o1), .val (.ref o2), .unset, .unset]) rfl ?_
  refine o_iload G2 at_197 (pc' := 199) rfl rfl ?_
  refine o_iload G2 at_199 (pc' := 201) rfl rfl ?_
  refine o_icmp_ne G2 at_201 (by decide) (pcT := 220) (by decide) (pc' := 204) rfl (fun _ => ?_) (fun q => absurd q (by decide))
  refine o_iconst G2 at_220 (pc' := 221) rfl (v := (0 : Int32)) rfl ?_
  refine o_istore G2 at_221 (pc' := 223) rfl (l' := #[.val (.int p0), .val (.int p1), .val (.int p2), .val (.int x3), .val (.int x4), .val (.int x5), .val (.int x6), .val (.int (0 : Int32)), .val (.int x8), .val (.int x9), .val (.int x10), .val (.int (1 : Int32)), .val (.int x12), .val (.ref o1), .val (.ref o2), .val (.int (0 : Int32)), .unset]) rfl ?_
  refine o_iloadN G2 at_223 (pc' := 224) rfl rfl ?_
  refine o_iload G2 at_224 (pc' := 226) rfl rfl ?_
  have K3 : ∀ T', OG l Z x code maxLocals ret n0 p e room_1 (s.setVm vm2) m #[(.int p0), (.int p1), (.int p2)] below meth c T' h2 64 700 → OFin p e below (OW n0 s (fun v _ _ => v = some (.int 1)) 88 4480) T' (mkF m 253 #[.val (.int p0), .val (.int p1), .val (.int p2), .val (.int x3), .val (.int x4), .val (.int x5), .val (.int x6), .val (.int (0 : Int32)), .val (.int x8), .val (.int x9), .val (.int x10), .val (.int (1 : Int32)), .val (.int x12), .val (.ref o1), .val (.ref o2), .val (.int (0 : Int32)), .unset] [(.int (0 : Int32))]) := by
    intro T3 G3
    refine o_istore G3 at_253 (pc' := 255) rfl (l' := #[.val (.int p0), .val (.int p1), .val (.int p2), .val (.int x3), .val (.int x4), .val (.int x5), .val (.int x6), .val (.int (0 : Int32)), .val (.int x8), .val (.int x9), .val (.int x10), .val (.int (1 : Int32)), .val (.int x12), .val (.ref o1), .val (.ref o2), .val (.int (0 : Int32)), .val (.int (0 : Int32))]) rfl ?_
    refine o_aload G3 at_255 (pc' := 257) rfl rfl rfl ?_
    refine o_aload G3 at_257 (pc' := 259) rfl rfl rfl ?_
    refine o_callV G3 (z := (⟨"com/example/ronda/ronda/engine/ApiVersion", "equals", "(Ljava/lang/Object;)Z"⟩ : MethodName)) (argsL := [(.ref o2)]) (rest := []) (W := 0) X1 (ow hw 246 rfl) (ow hw 248 rfl) (ow hw 247 rfl) (ow hw 249 rfl) at_259 (by decide) (ow hw 53 rfl) (ow hw 250 rfl) (rm48_o hw o1 o2 h2 n0 G3.sz X1 X2 y11 y12 y13 y14 y21 y22 y23 y24 F11 E_y11 F12 E_y12 F13 E_y13 F14 E_y14 F21 E_y21 F22 E_y22 F23 E_y23 F24 E_y24 (own_eq 1 0 (fun _ => x3) (fun _ => x8)) (rm49_11 hw y11 y21 h2 n0 G3.sz cs hcs S z11 (fun _ => x3) E_y11 Fv_y11 Fc_y11 A_z11 z21 (fun _ => x8) E_y21 Fv_y21 Fc_y21 A_z21 n1) (own_eq 1 0 (fun _ => x4) (fun _ => x9)) (rm49_11 hw y12 y22 h2 n0 G3.sz cs hcs S z12 (fun _ => x4) E_y12 Fv_y12 Fc_y12 A_z12 z22 (fun _ => x9) E_y22 Fv_y22 Fc_y22 A_z22 n2) 0 (rm49_20 hw y13 y23 h2 n0 G3.sz cs hcs S z13 (own_c2 x5 47) E_y13 Fv_y13 Fc_y13 A_z13 z23 (fun _ => 0) E_y23 Fv_y23 Fc_y23 A_z23 (fun q => own_lenne q Fv_y13 Fv_y23 A_z13 A_z23 (by decide))) 0 (rm49_42 hw y14 y24 h2 n0 G3.sz cs hcs S z14 (own_c4 47 x5 47 x6) E_y14 Fv_y14 Fc_y14 A_z14 z24 (own_c2 47 x12) E_y24 Fv_y24 Fc_y24 A_z24 (fun q => own_lenne q Fv_y14 Fv_y24 A_z14 A_z24 (by decide)))) (by decide) (by decide) rfl (lenOf pd_29 rfl) rfl (Nat.le_of_eq rfl) (pc' := 262) rfl (by decide) (by decide) ?_
    rintro _ T4 h4 G4 ⟨rfl, hh⟩
    subst hh
    show OFin _ _ _ _ T4 (mkF m 262 #[.val (.int p0), .val (.int p1), .val (.int p2), .val (.int x3), .val (.int x4), .val (.int x5), .val (.int x6), .val (.int (0 : Int32)), .val (.int x8), .val (.int x9), .val (.int x10), .val (.int (1 : Int32)), .val (.int x12), .val (.ref o1), .val (.ref o2), .val (.int (0 : Int32)), .val (.int (0 : Int32))] [(.int (own_and4 (own_eq 1 0 (fun _ => x3) (fun _ => x8)) (own_eq 1 0 (fun _ => x4) (fun _ => x9)) 0 0))])
    refine o_iload G4 at_262 (pc' := 264) rfl rfl ?_
    have q264 : (own_and4 (own_eq 1 0 (fun _ => x3) (fun _ => x8)) (own_eq 1 0 (fun _ => x4) (fun _ => x9)) 0 0) = (0 : Int32) := own_law0 _ _
    refine o_icmp_ne G4 at_264 (by decide) (pcT := 314) (by decide) (pc' := 267) rfl (fun q => absurd q264 q) (fun _ => ?_)
    refine o_aload G4 at_267 (pc' := 269) rfl rfl rfl ?_
    refine o_aload G4 at_269 (pc' := 271) rfl rfl rfl ?_
    refine o_callV G4 (z := (⟨"com/example/ronda/ronda/engine/ApiVersion", "equals", "(Ljava/lang/Object;)Z"⟩ : MethodName)) (argsL := [(.ref o1)]) (rest := []) (W := 0) X2 (ow hw 246 rfl) (ow hw 248 rfl) (ow hw 247 rfl) (ow hw 249 rfl) at_271 (by decide) (ow hw 53 rfl) (ow hw 250 rfl) (rm48_o hw o2 o1 h2 n0 G4.sz X2 X1 y21 y22 y23 y24 y11 y12 y13 y14 F21 E_y21 F22 E_y22 F23 E_y23 F24 E_y24 F11 E_y11 F12 E_y12 F13 E_y13 F14 E_y14 (own_eq 1 0 (fun _ => x8) (fun _ => x3)) (rm49_11 hw y21 y11 h2 n0 G4.sz cs hcs S z21 (fun _ => x8) E_y21 Fv_y21 Fc_y21 A_z21 z11 (fun _ => x3) E_y11 Fv_y11 Fc_y11 A_z11 (Ne.symm n1)) (own_eq 1 0 (fun _ => x9) (fun _ => x4)) (rm49_11 hw y22 y12 h2 n0 G4.sz cs hcs S z22 (fun _ => x9) E_y22 Fv_y22 Fc_y22 A_z22 z12 (fun _ => x4) E_y12 Fv_y12 Fc_y12 A_z12 (Ne.symm n2)) 0 (rm49_02 hw y23 y13 h2 n0 G4.sz cs hcs S z23 (fun _ => 0) E_y23 Fv_y23 Fc_y23 A_z23 z13 (own_c2 x5 47) E_y13 Fv_y13 Fc_y13 A_z13 (fun q => own_lenne q Fv_y23 Fv_y13 A_z23 A_z13 (by decide))) 0 (rm49_24 hw y24 y14 h2 n0 G4.sz cs hcs S z24 (own_c2 47 x12) E_y24 Fv_y24 Fc_y24 A_z24 z14 (own_c4 47 x5 47 x6) E_y14 Fv_y14 Fc_y14 A_z14 (fun q => own_lenne q Fv_y24 Fv_y14 A_z24 A_z14 (by decide)))) (by decide) (by decide) rfl (lenOf pd_29 rfl) rfl (Nat.le_of_eq rfl) (pc' := 274) rfl (by decide) (by decide) ?_
    rintro _ T5 h5 G5 ⟨rfl, hh⟩
    subst hh
    show OFin _ _ _ _ T5 (mkF m 274 #[.val (.int p0), .val (.int p1), .val (.int p2), .val (.int x3), .val (.int x4), .val (.int x5), .val (.int x6), .val (.int (0 : Int32)), .val (.int x8), .val (.int x9), .val (.int x10), .val (.int (1 : Int32)), .val (.int x12), .val (.ref o1), .val (.ref o2), .val (.int (0 : Int32)), .val (.int (0 : Int32))] [(.int (own_and4 (own_eq 1 0 (fun _ => x8) (fun _ => x3)) (own_eq 1 0 (fun _ => x9) (fun _ => x4)) 0 0))])
    refine o_iload G5 at_274 (pc' := 276) rfl rfl ?_
    have q276 : (own_and4 (own_eq 1 0 (fun _ => x8) (fun _ => x3)) (own_eq 1 0 (fun _ => x9) (fun _ => x4)) 0 0) = (0 : Int32) := own_law0 _ _
    refine o_icmp_ne G5 at_276 (by decide) (pcT := 314) (by decide) (pc' := 279) rfl (fun q => absurd q276 q) (fun _ => ?_)
    refine o_aload G5 at_279 (pc' := 281) rfl rfl rfl ?_
    refine o_aload G5 at_281 (pc' := 283) rfl rfl rfl ?_
    refine o_callV G5 (z := (⟨"com/example/ronda/ronda/engine/ApiVersion", "equals", "(Ljava/lang/Object;)Z"⟩ : MethodName)) (argsL := [(.ref o1)]) (rest := []) (W := 0) X1 (ow hw 246 rfl) (ow hw 248 rfl) (ow hw 247 rfl) (ow hw 249 rfl) at_283 (by decide) (ow hw 53 rfl) (ow hw 250 rfl) (rm48_o hw o1 o1 h2 n0 G5.sz X1 X1 y11 y12 y13 y14 y11 y12 y13 y14 F11 E_y11 F12 E_y12 F13 E_y13 F14 E_y14 F11 E_y11 F12 E_y12 F13 E_y13 F14 E_y14 1 (rm49_same hw y11 y11 h2 n0 G5.sz rfl) 1 (rm49_same hw y12 y12 h2 n0 G5.sz rfl) 1 (rm49_same hw y13 y13 h2 n0 G5.sz rfl) 1 (rm49_same hw y14 y14 h2 n0 G5.sz rfl)) (by decide) (by decide) rfl (lenOf pd_29 rfl) rfl (Nat.le_of_eq rfl) (pc' := 286) rfl (by decide) (by decide) ?_
    rintro _ T6 h6 G6 ⟨rfl, hh⟩
    subst hh
    show OFin _ _ _ _ T6 (mkF m 286 #[.val (.int p0), .val (.int p1), .val (.int p2), .val (.int x3), .val (.int x4), .val (.int x5), .val (.int x6), .val (.int (0 : Int32)), .val (.int x8), .val (.int x9), .val (.int x10), .val (.int (1 : Int32)), .val (.int x12), .val (.ref o1), .val (.ref o2), .val (.int (0 : Int32)), .val (.int (0 : Int32))] [(.int (own_and4 1 1 1 1))])
    refine o_if_eq G6 at_286 (by decide) (pcT := 314) (by decide) (pc' := 289) rfl (fun q => absurd q (by decide)) (fun _ => ?_)
    refine o_aload G6 at_289 (pc' := 291) rfl rfl rfl ?_
    refine o_aconst_null G6 at_291 (pc' := 292) rfl ?_
    refine o_callV G6 (z := (⟨"com/example/ronda/ronda/engine/ApiVersion", "equals", "(Ljava/lang/Object;)Z"⟩ : MethodName)) (argsL := [.null]) (rest := []) (W := 0) X1 (ow hw 246 rfl) (ow hw 248 rfl) (ow hw 247 rfl) (ow hw 249 rfl) at_292 (by decide) (ow hw 53 rfl) (ow hw 250 rfl) (rm48_z hw o1 h2 n0 G6.sz) (by decide) (by decide) rfl (lenOf pd_29 rfl) rfl (Nat.le_of_eq rfl) (pc' := 295) rfl (by decide) (by decide) ?_
    rintro _ T7 h7 G7 ⟨rfl, hh⟩
    subst hh
    show OFin _ _ _ _ T7 (mkF m 295 #[.val (.int p0), .val (.int p1), .val (.int p2), .val (.int x3), .val (.int x4), .val (.int x5), .val (.int x6), .val (.int (0 : Int32)), .val (.int x8), .val (.int x9), .val (.int x10), .val (.int (1 : Int32)), .val (.int x12), .val (.ref o1), .val (.ref o2), .val (.int (0 : Int32)), .val (.int (0 : Int32))] [(.int (0 : Int32))])
    refine o_if_ne G7 at_295 (by decide) (pcT := 314) (by decide) (pc' := 298) rfl (fun q => absurd (by decide) q) (fun _ => ?_)
    refine o_aload G7 at_298 (pc' := 300) rfl rfl rfl ?_
    refine o_iloadN G7 at_300 (pc' := 301) rfl rfl ?_
    refine o_callS G7 (z := (⟨"java/lang/Integer", "valueOf", "(I)Ljava/lang/Integer;"⟩ : MethodName)) (argsL := [(.int p0)]) (rest := [(.ref o1)]) (W := 1) (ow hw 261 rfl) (ow hw 262 rfl) at_301 (by decide) (ow hw 263 rfl) (ow hw 264 rfl) (rm51 hw p0 h2 n0 G7.sz ca ia (o_stak SH K (fun x hx => nomatch hx)) (o_stak SC K (fun x hx => nomatch hx)) (A_ca.keep K nin0) (fun j hj => (hia j hj).keep K)) (by decide) (by decide) rfl (lenOf pd_40 rfl) rfl (Nat.le_of_eq rfl) (pc' := 304) rfl (by decide) (by decide) ?_
    rintro _ T8 h8 G8 ⟨ib, rfl, K8, Xi⟩
    replace X1 := X1.keep K8
    replace hk := Nat.le_trans hk K8.1
    show OFin _ _ _ _ T8 (mkF m 304 #[.val (.int p0), .val (.int p1), .val (.int p2), .val (.int x3), .val (.int x4), .val (.int x5), .val (.int x6), .val (.int (0 : Int32)), .val (.int x8), .val (.int x9), .val (.int x10), .val (.int (1 : Int32)), .val (.int x12), .val (.ref o1), .val (.ref o2), .val (.int (0 : Int32)), .val (.int (0 : Int32))] [(.ref ib), (.ref o1)])
    refine o_callV G8 (z := (⟨"com/example/ronda/ronda/engine/ApiVersion", "equals", "(Ljava/lang/Object;)Z"⟩ : MethodName)) (argsL := [(.ref ib)]) (rest := []) (W := 0) X1 (ow hw 246 rfl) (ow hw 248 rfl) (ow hw 247 rfl) (ow hw 249 rfl) at_304 (by decide) (ow hw 53 rfl) (ow hw 250 rfl) (rm48_i hw o1 ib h8 n0 G8.sz Xi) (by decide) (by decide) rfl (lenOf pd_29 rfl) rfl (Nat.le_of_eq rfl) (pc' := 307) rfl (by decide) (by decide) ?_
    rintro _ T9 h9 G9 ⟨rfl, hh⟩
    subst hh
    show OFin _ _ _ _ T9 (mkF m 307 #[.val (.int p0), .val (.int p1), .val (.int p2), .val (.int x3), .val (.int x4), .val (.int x5), .val (.int x6), .val (.int (0 : Int32)), .val (.int x8), .val (.int x9), .val (.int x10), .val (.int (1 : Int32)), .val (.int x12), .val (.ref o1), .val (.ref o2), .val (.int (0 : Int32)), .val (.int (0 : Int32))] [(.int (0 : Int32))])
    refine o_if_ne G9 at_307 (by decide) (pcT := 314) (by decide) (pc' := 310) rfl (fun q => absurd (by decide) q) (fun _ => ?_)
    refine o_iconst G9 at_310 (pc' := 311) rfl (v := (1 : Int32)) rfl ?_
    refine o_goto G9 at_311 (by decide) (pc' := 315) rfl ?_
    exact o_nreturnW G9 SN hk (Or.inl rfl) (Nat.le_refl _) at_315 (fun vm1 hw1 => rfl) (by decide) (by decide)
  refine o_icmp_ne G2 at_226 (by decide) (pcT := 252) (by decide) (pc' := 229) rfl (fun hc226 => ?_) (fun hc226 => ?_)
  · refine o_iconst G2 at_252 (pc' := 253) rfl (v := (0 : Int32)) rfl ?_
    exact K3 _ G2
  · refine o_iload G2 at_229 (pc' := 231) rfl rfl ?_
    refine o_iload G2 at_231 (pc' := 233) rfl rfl ?_
    refine o_icmp_ne G2 at_233 (by decide) (pcT := 252) (by decide) (pc' := 236) rfl (fun hc233 => ?_) (fun hc233 => ?_)
    · refine o_iconst G2 at_252 (pc' := 253) rfl (v := (0 : Int32)) rfl ?_
      exact K3 _ G2
    · refine o_iload G2 at_236 (pc' := 238) rfl rfl ?_
      refine o_if_eq G2 at_238 (by decide) (pcT := 252) (by decide) (pc' := 241) rfl (fun _ => ?_) (fun q => absurd (by decide) q)
      refine o_iconst G2 at_252 (pc' := 253) rfl (v := (0 : Int32)) rfl ?_
      exact K3 _ G2
set_option maxRecDepth 65536 in
set_option maxHeartbeats 40000000 in
theorem own_tail_10 {l : Launch} {Z : State} {a0 : Array Value} (hw : ∀ d ∈ tables_1, d.before a0 Z = true) (p0 p1 p2 : Int32) (h0 : Heap) (n0 : Nat) (cs : Int32) (hcs : ¬ cs = 0) (S : Sta Z h0 "java/lang/String" "COMPACT_STRINGS" "Z" (.int cs)) (fm : Value) (hfm : fm.isRef = true) (SF : Sta Z h0 "jdk/internal/util/Preconditions" "SIOOBE_FORMATTER" "Ljava/util/function/BiFunction;" fm) (ca : Addr) (ia : Nat → Addr) (SH : Sta Z h0 "java/lang/Integer$IntegerCache" "high" "I" (.int (127 : Int32))) (SC : Sta Z h0 "java/lang/Integer$IntegerCache" "cache" "[Ljava/lang/Integer;" (.ref ca)) (A_ca : OArr Z h0 ca (.object "java/lang/Integer") 256 (fun j => .ref (ia j))) (hia : ∀ j, j < 256 → Exa Z h0 (ia j) "java/lang/Integer") (x3 x4 x5 x6 x8 x9 x10 x12 : Int32) (R3 : 0 ≤ x3.toInt ∧ x3.toInt ≤ 255) (R4 : 0 ≤ x4.toInt ∧ x4.toInt ≤ 255) (R5 : 0 ≤ x5.toInt ∧ x5.toInt ≤ 255) (R6 : 0 ≤ x6.toInt ∧ x6.toInt ≤ 255) (R8 : 0 ≤ x8.toInt ∧ x8.toInt ≤ 255) (R9 : 0 ≤ x9.toInt ∧ x9.toInt ≤ 255) (R10 : 0 ≤ x10.toInt ∧ x10.toInt ≤ 255) (R12 : 0 ≤ x12.toInt ∧ x12.toInt ≤ 255) (N5 : ¬ own_by x5 = own_by 47) (N10 : ¬ own_by x10 = own_by 47) {p : Program} {e : Env} {s : State} {m : MethodId} {below : List Frame} {meth : Method} {c : Code} (T0 : State) (vm0 : Vm) (G0 : OG l Z x code maxLocals ret n0 p e room_1 (s.setVm vm0) m #[(.int p0), (.int p1), (.int p2)] below meth c T0 h0 0 0) (SN : s.Since vm0 h0.size) (H : CHv Z own_EL vm0 h0) :
    OFin p e below (OW n0 s (fun v _ _ => v = some (.int 1)) 88 4480) T0 (mkF m 168 #[.val (.int p0), .val (.int p1), .val (.int p2), .val (.int x3), .val (.int x4), .val (.int x5), .val (.int x6), .val (.int (1 : Int32)), .val (.int x8), .val (.int x9), .val (.int x10), .val (.int (0 : Int32)), .val (.int x12), .unset, .unset, .unset, .unset] []) := by
  have hk : h0.size ≤ h0.size := Nat.le_refl _
  have hEL := own_EW hw
  have K : Keep h0 h0 [] := Keep.refl _ _
  refine o_iloadN G0 at_168 (pc' := 169) rfl rfl ?_
  refine o_iload G0 at_169 (pc' := 171) rfl rfl ?_
  refine o_iload G0 at_171 (pc' := 173) rfl rfl ?_
  refine o_iload G0 at_173 (pc' := 175) rfl rfl ?_
  refine o_iload G0 at_175 (pc' := 177) rfl rfl ?_
  refine o_callSW G0 SN hk (z := (⟨"com/example/ronda/ronda/engine/ApiVersionEqualsPinLaw", "make", "(CCZCC)Lcom/example/ronda/ronda/engine/ApiVersion;"⟩ : MethodName)) (argsL := [(.int x3), (.int x4), (.int (1 : Int32)), (.int x5), (.int x6)]) (rest := []) (W := 0) (ow hw 4 rfl) (ow hw 5 rfl) at_177 (by decide) (ow hw 2 rfl) (ow hw 6 rfl) (rm2_1 hw x3 x4 x5 x6 h0 n0 G0.sz cs hcs S fm hfm SF R3 R4 R5 R6 N5) (fun vm1 hw1 => o_chw G0.wz hw1 hEL H) (by decide) (by decide) rfl (lenOf pd_39 rfl) rfl (Nat.le_of_eq rfl) (pc' := 180) rfl (by decide) (by decide) ?_
  rintro _ T1 h1 vm1 G1 SN1 - ⟨o1, y11, z11, y12, z12, y13, z13, y14, z14, rfl, ⟨-, g11, g12, g13, g14⟩, K1, X1, ⟨F11, F12, F13, F14⟩, ⟨E_y11, Fv_y11, Fc_y11, A_z11⟩, ⟨E_y12, Fv_y12, Fc_y12, A_z12⟩, ⟨E_y13, Fv_y13, Fc_y13, A_z13⟩, ⟨E_y14, Fv_y14, Fc_y14, A_z14⟩, H1⟩
  replace S := o_stak S K1 (fun x hx => nomatch hx)
  replace SF := o_stak SF K1 (fun x hx => nomatch hx)
  replace K := K.trans K1 all0
  replace H := H1
  replace SN := SN1
  replace hk := Nat.le_refl h1.size
  show OFin _ _ _ _ T1 (mkF m 180 #[.val (.int p0), .val (.int p1), .val (.int p2), .val (.int x3), .val (.int x4), .val (.int x5), .val (.int x6), .val (.int (1 : Int32)), .val (.int x8), .val (.int x9), .val (.int x10), .val (.int (0 : Int32)), .val (.int x12), .unset, .unset, .unset, .unset] [(.ref o1)])
  refine o_astore G1 at_180 (pc' := 182) rfl rfl (l' := #[.val (.int p0), .val (.int p1), .val (.int p2), .val (.int x3), .val (.int x4), .val (.int x5), .val (.int x6), .val (.int (1 : Int32)), .val (.int x8), .val (.int x9), .val (.int x10), .val (.int (0 : Int32)), .val (.int x12), .val (.ref o1), .unset, .unset, .unset]) rfl ?_
  refine o_iload G1 at_182 (pc' := 184) rfl rfl ?_
  refine o_iload G1 at_184 (pc' := 186) rfl rfl ?_
  refine o_iload G1 at_186 (pc' := 188) rfl rfl ?_
  refine o_iload G1 at_188 (pc' := 190) rfl rfl ?_
  refine o_iload G1 at_190 (pc' := 192) rfl rfl ?_
  refine o_callSW G1 SN hk (z := (⟨"com/example/ronda/ronda/engine/ApiVersionEqualsPinLaw", "make", "(CCZCC)Lcom/example/ronda/ronda/engine/ApiVersion;"⟩ : MethodName)) (argsL := [(.int x8), (.int x9), (.int (0 : Int32)), (.int x10), (.int x12)]) (rest := []) (W := 0) (ow hw 4 rfl) (ow hw 5 rfl) at_192 (by decide) (ow hw 2 rfl) (ow hw 6 rfl) (rm2_0 hw x8 x9 x10 x12 h1 n0 G1.sz cs hcs S fm hfm SF R8 R9 R10 R12 N10) (fun vm1 hw1 => o_chw G1.wz hw1 hEL H) (by decide) (by decide) rfl (lenOf pd_39 rfl) rfl (Nat.le_of_eq rfl) (pc' := 195) rfl (by decide) (by decide) ?_
  rintro _ T2 h2 vm2 G2 SN2 - ⟨o2, y21, z21, y22, z22, y23, z23, y24, z24, rfl, ⟨-, g21, g22, g23, g24⟩, K2, X2, ⟨F21, F22, F23, F24⟩, ⟨E_y21, Fv_y21, Fc_y21, A_z21⟩, ⟨E_y22, Fv_y22, Fc_y22, A_z22⟩, ⟨E_y23, Fv_y23, Fc_y23, A_z23⟩, ⟨E_y24, Fv_y24, Fc_y24, A_z24⟩, H2⟩
  have n1 : y11 ≠ y21 := Nat.ne_of_lt (Nat.lt_of_lt_of_le E_y11.lt g21)
  have n2 : y12 ≠ y22 := Nat.ne_of_lt (Nat.lt_of_lt_of_le E_y12.lt g22)
  have n3 : y13 ≠ y23 := Nat.ne_of_lt (Nat.lt_of_lt_of_le E_y13.lt g23)
  have n4 : y14 ≠ y24 := Nat.ne_of_lt (Nat.lt_of_lt_of_le E_y14.lt g24)
  replace S := o_stak S K2 (fun x hx => nomatch hx)
  replace SF := o_stak SF K2 (fun x hx => nomatch hx)
  replace K := K.trans K2 all0
  replace X1 := X1.keep K2
  replace F11 := F11.keep K2 nin0
  replace F12 := F12.keep K2 nin0
  replace F13 := F13.keep K2 nin0
  replace F14 := F14.keep K2 nin0
  replace E_y11 := E_y11.keep K2
  replace Fv_y11 := Fv_y11.keep K2 nin0
  replace Fc_y11 := Fc_y11.keep K2 nin0
  replace A_z11 := A_z11.keep K2 nin0
  replace E_y12 := E_y12.keep K2
  replace Fv_y12 := Fv_y12.keep K2 nin0
  replace Fc_y12 := Fc_y12.keep K2 nin0
  replace A_z12 := A_z12.keep K2 nin0
  replace E_y13 := E_y13.keep K2
  replace Fv_y13 := Fv_y13.keep K2 nin0
  replace Fc_y13 := Fc_y13.keep K2 nin0
  replace A_z13 := A_z13.keep K2 nin0
  replace E_y14 := E_y14.keep K2
  replace Fv_y14 := Fv_y14.keep K2 nin0
  replace Fc_y14 := Fc_y14.keep K2 nin0
  replace A_z14 := A_z14.keep K2 nin0
  replace H := H2
  replace SN := SN2
  replace hk := Nat.le_refl h2.size
  show OFin _ _ _ _ T2 (mkF m 195 #[.val (.int p0), .val (.int p1), .val (.int p2), .val (.int x3), .val (.int x4), .val (.int x5), .val (.int x6), .val (.int (1 : Int32)), .val (.int x8), .val (.int x9), .val (.int x10), .val (.int (0 : Int32)), .val (.int x12), .val (.ref o1), .unset, .unset, .unset] [(.ref o2)])
  refine o_astore G2 at_195 (pc' := 197) rfl rfl (l' := #[.val (.int p0), .val (.int p1), .val (.int p2), .val (.int x3), .val (.int x4), .val (.int x5), .val (.int x6), .val (.int (1 : Int32)), .val (.int x8), .val (.int x9), .val (.int x10), .val (.int (0 : Int32)), .val (.int x12), .val (.ref o1), .val (.ref o2), .unset, .unset]) rfl ?_
  refine o_iload G2 at_197 (pc' := 199) rfl rfl ?_
  refine o_iload G2 at_199 (pc' := 201) rfl rfl ?_
  refine o_icmp_ne G2 at_201 (by decide) (pcT := 220) (by decide) (pc' := 204) rfl (fun _ => ?_) (fun q => absurd q (by decide))
  refine o_iconst G2 at_220 (pc' := 221) rfl (v := (0 : Int32)) rfl ?_
  refine o_istore G2 at_221 (pc' := 223) rfl (l' := #[.val (.int p0), .val (.int p1), .val (.int p2), .val (.int x3), .val (.int x4), .val (.int x5), .val (.int x6), .val (.int (1 : Int32)), .val (.int x8), .val (.int x9), .val (.int x10), .val (.int (0 : Int32)), .val (.int x12), .val (.ref o1), .val (.ref o2), .val (.int (0 : Int32)), .unset]) rfl ?_
  refine o_iloadN G2 at_223 (pc' := 224) rfl rfl ?_
  refine o_iload G2 at_224 (pc' := 226) rfl rfl ?_
  have K3 : ∀ T', OG l Z x code maxLocals ret n0 p e room_1 (s.setVm vm2) m #[(.int p0), (.int p1), (.int p2)] below meth c T' h2 64 700 → OFin p e below (OW n0 s (fun v _ _ => v = some (.int 1)) 88 4480) T' (mkF m 253 #[.val (.int p0), .val (.int p1), .val (.int p2), .val (.int x3), .val (.int x4), .val (.int x5), .val (.int x6), .val (.int (1 : Int32)), .val (.int x8), .val (.int x9), .val (.int x10), .val (.int (0 : Int32)), .val (.int x12), .val (.ref o1), .val (.ref o2), .val (.int (0 : Int32)), .unset] [(.int (0 : Int32))]) := by
    intro T3 G3
    refine o_istore G3 at_253 (pc' := 255) rfl (l' := #[.val (.int p0), .val (.int p1), .val (.int p2), .val (.int x3), .val (.int x4), .val (.int x5), .val (.int x6), .val (.int (1 : Int32)), .val (.int x8), .val (.int x9), .val (.int x10), .val (.int (0 : Int32)), .val (.int x12), .val (.ref o1), .val (.ref o2), .val (.int (0 : Int32)), .val (.int (0 : Int32))]) rfl ?_
    refine o_aload G3 at_255 (pc' := 257) rfl rfl rfl ?_
    refine o_aload G3 at_257 (pc' := 259) rfl rfl rfl ?_
    refine o_callV G3 (z := (⟨"com/example/ronda/ronda/engine/ApiVersion", "equals", "(Ljava/lang/Object;)Z"⟩ : MethodName)) (argsL := [(.ref o2)]) (rest := []) (W := 0) X1 (ow hw 246 rfl) (ow hw 248 rfl) (ow hw 247 rfl) (ow hw 249 rfl) at_259 (by decide) (ow hw 53 rfl) (ow hw 250 rfl) (rm48_o hw o1 o2 h2 n0 G3.sz X1 X2 y11 y12 y13 y14 y21 y22 y23 y24 F11 E_y11 F12 E_y12 F13 E_y13 F14 E_y14 F21 E_y21 F22 E_y22 F23 E_y23 F24 E_y24 (own_eq 1 0 (fun _ => x3) (fun _ => x8)) (rm49_11 hw y11 y21 h2 n0 G3.sz cs hcs S z11 (fun _ => x3) E_y11 Fv_y11 Fc_y11 A_z11 z21 (fun _ => x8) E_y21 Fv_y21 Fc_y21 A_z21 n1) (own_eq 1 0 (fun _ => x4) (fun _ => x9)) (rm49_11 hw y12 y22 h2 n0 G3.sz cs hcs S z12 (fun _ => x4) E_y12 Fv_y12 Fc_y12 A_z12 z22 (fun _ => x9) E_y22 Fv_y22 Fc_y22 A_z22 n2) 0 (rm49_02 hw y13 y23 h2 n0 G3.sz cs hcs S z13 (fun _ => 0) E_y13 Fv_y13 Fc_y13 A_z13 z23 (own_c2 x10 47) E_y23 Fv_y23 Fc_y23 A_z23 (fun q => own_lenne q Fv_y13 Fv_y23 A_z13 A_z23 (by decide))) 0 (rm49_24 hw y14 y24 h2 n0 G3.sz cs hcs S z14 (own_c2 47 x6) E_y14 Fv_y14 Fc_y14 A_z14 z24 (own_c4 47 x10 47 x12) E_y24 Fv_y24 Fc_y24 A_z24 (fun q => own_lenne q Fv_y14 Fv_y24 A_z14 A_z24 (by decide)))) (by decide) (by decide) rfl (lenOf pd_29 rfl) rfl (Nat.le_of_eq rfl) (pc' := 262) rfl (by decide) (by decide) ?_
    rintro _ T4 h4 G4 ⟨rfl, hh⟩
    subst hh
    show OFin _ _ _ _ T4 (mkF m 262 #[.val (.int p0), .val (.int p1), .val (.int p2), .val (.int x3), .val (.int x4), .val (.int x5), .val (.int x6), .val (.int (1 : Int32)), .val (.int x8), .val (.int x9), .val (.int x10), .val (.int (0 : Int32)), .val (.int x12), .val (.ref o1), .val (.ref o2), .val (.int (0 : Int32)), .val (.int (0 : Int32))] [(.int (own_and4 (own_eq 1 0 (fun _ => x3) (fun _ => x8)) (own_eq 1 0 (fun _ => x4) (fun _ => x9)) 0 0))])
    refine o_iload G4 at_262 (pc' := 264) rfl rfl ?_
    have q264 : (own_and4 (own_eq 1 0 (fun _ => x3) (fun _ => x8)) (own_eq 1 0 (fun _ => x4) (fun _ => x9)) 0 0) = (0 : Int32) := own_law0 _ _
    refine o_icmp_ne G4 at_264 (by decide) (pcT := 314) (by decide) (pc' := 267) rfl (fun q => absurd q264 q) (fun _ => ?_)
    refine o_aload G4 at_267 (pc' := 269) rfl rfl rfl ?_
    refine o_aload G4 at_269 (pc' := 271) rfl rfl rfl ?_
    refine o_callV G4 (z := (⟨"com/example/ronda/ronda/engine/ApiVersion", "equals", "(Ljava/lang/Object;)Z"⟩ : MethodName)) (argsL := [(.ref o1)]) (rest := []) (W := 0) X2 (ow hw 246 rfl) (ow hw 248 rfl) (ow hw 247 rfl) (ow hw 249 rfl) at_271 (by decide) (ow hw 53 rfl) (ow hw 250 rfl) (rm48_o hw o2 o1 h2 n0 G4.sz X2 X1 y21 y22 y23 y24 y11 y12 y13 y14 F21 E_y21 F22 E_y22 F23 E_y23 F24 E_y24 F11 E_y11 F12 E_y12 F13 E_y13 F14 E_y14 (own_eq 1 0 (fun _ => x8) (fun _ => x3)) (rm49_11 hw y21 y11 h2 n0 G4.sz cs hcs S z21 (fun _ => x8) E_y21 Fv_y21 Fc_y21 A_z21 z11 (fun _ => x3) E_y11 Fv_y11 Fc_y11 A_z11 (Ne.symm n1)) (own_eq 1 0 (fun _ => x9) (fun _ => x4)) (rm49_11 hw y22 y12 h2 n0 G4.sz cs hcs S z22 (fun _ => x9) E_y22 Fv_y22 Fc_y22 A_z22 z12 (fun _ => x4) E_y12 Fv_y12 Fc_y12 A_z12 (Ne.symm n2)) 0 (rm49_20 hw y23 y13 h2 n0 G4.sz cs hcs S z23 (own_c2 x10 47) E_y23 Fv_y23 Fc_y23 A_z23 z13 (fun _ => 0) E_y13 Fv_y13 Fc_y13 A_z13 (fun q => own_lenne q Fv_y23 Fv_y13 A_z23 A_z13 (by decide))) 0 (rm49_42 hw y24 y14 h2 n0 G4.sz cs hcs S z24 (own_c4 47 x10 47 x12) E_y24 Fv_y24 Fc_y24 A_z24 z14 (own_c2 47 x6) E_y14 Fv_y14 Fc_y14 A_z14 (fun q => own_lenne q Fv_y24 Fv_y14 A_z24 A_z14 (by decide)))) (by decide) (by decide) rfl (lenOf pd_29 rfl) rfl (Nat.le_of_eq rfl) (pc' := 274) rfl (by decide) (by decide) ?_
    rintro _ T5 h5 G5 ⟨rfl, hh⟩
    subst hh
    show OFin _ _ _ _ T5 (mkF m 274 #[.val (.int p0), .val (.int p1), .val (.int p2), .val (.int x3), .val (.int x4), .val (.int x5), .val (.int x6), .val (.int (1 : Int32)), .val (.int x8), .val (.int x9), .val (.int x10), .val (.int (0 : Int32)), .val (.int x12), .val (.ref o1), .val (.ref o2), .val (.int (0 : Int32)), .val (.int (0 : Int32))] [(.int (own_and4 (own_eq 1 0 (fun _ => x8) (fun _ => x3)) (own_eq 1 0 (fun _ => x9) (fun _ => x4)) 0 0))])
    refine o_iload G5 at_274 (pc' := 276) rfl rfl ?_
    have q276 : (own_and4 (own_eq 1 0 (fun _ => x8) (fun _ => x3)) (own_eq 1 0 (fun _ => x9) (fun _ => x4)) 0 0) = (0 : Int32) := own_law0 _ _
    refine o_icmp_ne G5 at_276 (by decide) (pcT := 314) (by decide) (pc' := 279) rfl (fun q => absurd q276 q) (fun _ => ?_)
    refine o_aload G5 at_279 (pc' := 281) rfl rfl rfl ?_
    refine o_aload G5 at_281 (pc' := 283) rfl rfl rfl ?_
    refine o_callV G5 (z := (⟨"com/example/ronda/ronda/engine/ApiVersion", "equals", "(Ljava/lang/Object;)Z"⟩ : MethodName)) (argsL := [(.ref o1)]) (rest := []) (W := 0) X1 (ow hw 246 rfl) (ow hw 248 rfl) (ow hw 247 rfl) (ow hw 249 rfl) at_283 (by decide) (ow hw 53 rfl) (ow hw 250 rfl) (rm48_o hw o1 o1 h2 n0 G5.sz X1 X1 y11 y12 y13 y14 y11 y12 y13 y14 F11 E_y11 F12 E_y12 F13 E_y13 F14 E_y14 F11 E_y11 F12 E_y12 F13 E_y13 F14 E_y14 1 (rm49_same hw y11 y11 h2 n0 G5.sz rfl) 1 (rm49_same hw y12 y12 h2 n0 G5.sz rfl) 1 (rm49_same hw y13 y13 h2 n0 G5.sz rfl) 1 (rm49_same hw y14 y14 h2 n0 G5.sz rfl)) (by decide) (by decide) rfl (lenOf pd_29 rfl) rfl (Nat.le_of_eq rfl) (pc' := 286) rfl (by decide) (by decide) ?_
    rintro _ T6 h6 G6 ⟨rfl, hh⟩
    subst hh
    show OFin _ _ _ _ T6 (mkF m 286 #[.val (.int p0), .val (.int p1), .val (.int p2), .val (.int x3), .val (.int x4), .val (.int x5), .val (.int x6), .val (.int (1 : Int32)), .val (.int x8), .val (.int x9), .val (.int x10), .val (.int (0 : Int32)), .val (.int x12), .val (.ref o1), .val (.ref o2), .val (.int (0 : Int32)), .val (.int (0 : Int32))] [(.int (own_and4 1 1 1 1))])
    refine o_if_eq G6 at_286 (by decide) (pcT := 314) (by decide) (pc' := 289) rfl (fun q => absurd q (by decide)) (fun _ => ?_)
    refine o_aload G6 at_289 (pc' := 291) rfl rfl rfl ?_
    refine o_aconst_null G6 at_291 (pc' := 292) rfl ?_
    refine o_callV G6 (z := (⟨"com/example/ronda/ronda/engine/ApiVersion", "equals", "(Ljava/lang/Object;)Z"⟩ : MethodName)) (argsL := [.null]) (rest := []) (W := 0) X1 (ow hw 246 rfl) (ow hw 248 rfl) (ow hw 247 rfl) (ow hw 249 rfl) at_292 (by decide) (ow hw 53 rfl) (ow hw 250 rfl) (rm48_z hw o1 h2 n0 G6.sz) (by decide) (by decide) rfl (lenOf pd_29 rfl) rfl (Nat.le_of_eq rfl) (pc' := 295) rfl (by decide) (by decide) ?_
    rintro _ T7 h7 G7 ⟨rfl, hh⟩
    subst hh
    show OFin _ _ _ _ T7 (mkF m 295 #[.val (.int p0), .val (.int p1), .val (.int p2), .val (.int x3), .val (.int x4), .val (.int x5), .val (.int x6), .val (.int (1 : Int32)), .val (.int x8), .val (.int x9), .val (.int x10), .val (.int (0 : Int32)), .val (.int x12), .val (.ref o1), .val (.ref o2), .val (.int (0 : Int32)), .val (.int (0 : Int32))] [(.int (0 : Int32))])
    refine o_if_ne G7 at_295 (by decide) (pcT := 314) (by decide) (pc' := 298) rfl (fun q => absurd (by decide) q) (fun _ => ?_)
    refine o_aload G7 at_298 (pc' := 300) rfl rfl rfl ?_
    refine o_iloadN G7 at_300 (pc' := 301) rfl rfl ?_
    refine o_callS G7 (z := (⟨"java/lang/Integer", "valueOf", "(I)Ljava/lang/Integer;"⟩ : MethodName)) (argsL := [(.int p0)]) (rest := [(.ref o1)]) (W := 1) (ow hw 261 rfl) (ow hw 262 rfl) at_301 (by decide) (ow hw 263 rfl) (ow hw 264 rfl) (rm51 hw p0 h2 n0 G7.sz ca ia (o_stak SH K (fun x hx => nomatch hx)) (o_stak SC K (fun x hx => nomatch hx)) (A_ca.keep K nin0) (fun j hj => (hia j hj).keep K)) (by decide) (by decide) rfl (lenOf pd_40 rfl) rfl (Nat.le_of_eq rfl) (pc' := 304) rfl (by decide) (by decide) ?_
    rintro _ T8 h8 G8 ⟨ib, rfl, K8, Xi⟩
    replace X1 := X1.keep K8
    replace hk := Nat.le_trans hk K8.1
    show OFin _ _ _ _ T8 (mkF m 304 #[.val (.int p0), .val (.int p1), .val (.int p2), .val (.int x3), .val (.int x4), .val (.int x5), .val (.int x6), .val (.int (1 : Int32)), .val (.int x8), .val (.int x9), .val (.int x10), .val (.int (0 : Int32)), .val (.int x12), .val (.ref o1), .val (.ref o2), .val (.int (0 : Int32)), .val (.int (0 : Int32))] [(.ref ib), (.ref o1)])
    refine o_callV G8 (z := (⟨"com/example/ronda/ronda/engine/ApiVersion", "equals", "(Ljava/lang/Object;)Z"⟩ : MethodName)) (argsL := [(.ref ib)]) (rest := []) (W := 0) X1 (ow hw 246 rfl) (ow hw 248 rfl) (ow hw 247 rfl) (ow hw 249 rfl) at_304 (by decide) (ow hw 53 rfl) (ow hw 250 rfl) (rm48_i hw o1 ib h8 n0 G8.sz Xi) (by decide) (by decide) rfl (lenOf pd_29 rfl) rfl (Nat.le_of_eq rfl) (pc' := 307) rfl (by decide) (by decide) ?_
    rintro _ T9 h9 G9 ⟨rfl, hh⟩
    subst hh
    show OFin _ _ _ _ T9 (mkF m 307 #[.val (.int p0), .val (.int p1), .val (.int p2), .val (.int x3), .val (.int x4), .val (.int x5), .val (.int x6), .val (.int (1 : Int32)), .val (.int x8), .val (.int x9), .val (.int x10), .val (.int (0 : Int32)), .val (.int x12), .val (.ref o1), .val (.ref o2), .val (.int (0 : Int32)), .val (.int (0 : Int32))] [(.int (0 : Int32))])
    refine o_if_ne G9 at_307 (by decide) (pcT := 314) (by decide) (pc' := 310) rfl (fun q => absurd (by decide) q) (fun _ => ?_)
    refine o_iconst G9 at_310 (pc' := 311) rfl (v := (1 : Int32)) rfl ?_
    refine o_goto G9 at_311 (by decide) (pc' := 315) rfl ?_
    exact o_nreturnW G9 SN hk (Or.inl rfl) (Nat.le_refl _) at_315 (fun vm1 hw1 => rfl) (by decide) (by decide)
  refine o_icmp_ne G2 at_226 (by decide) (pcT := 252) (by decide) (pc' := 229) rfl (fun hc226 => ?_) (fun hc226 => ?_)
  · refine o_iconst G2 at_252 (pc' := 253) rfl (v := (0 : Int32)) rfl ?_
    exact K3 _ G2
  · refine o_iload G2 at_229 (pc' := 231) rfl rfl ?_
    refine o_iload G2 at_231 (pc' := 233) rfl rfl ?_
    refine o_icmp_ne G2 at_233 (by decide) (pcT := 252) (by decide) (pc' := 236) rfl (fun hc233 => ?_) (fun hc233 => ?_)
    · refine o_iconst G2 at_252 (pc' := 253) rfl (v := (0 : Int32)) rfl ?_
      exact K3 _ G2
    · refine o_iload G2 at_236 (pc' := 238) rfl rfl ?_
      refine o_if_eq G2 at_238 (by decide) (pcT := 252) (by decide) (pc' := 241) rfl (fun _ => ?_) (fun q => absurd (by decide) q)
      refine o_iconst G2 at_252 (pc' := 253) rfl (v := (0 : Int32)) rfl ?_
      exact K3 _ G2
set_option maxRecDepth 65536 in
set_option maxHeartbeats 40000000 in
theorem own_tail_11 {l : Launch} {Z : State} {a0 : Array Value} (hw : ∀ d ∈ tables_1, d.before a0 Z = true) (p0 p1 p2 : Int32) (h0 : Heap) (n0 : Nat) (cs : Int32) (hcs : ¬ cs = 0) (S : Sta Z h0 "java/lang/String" "COMPACT_STRINGS" "Z" (.int cs)) (fm : Value) (hfm : fm.isRef = true) (SF : Sta Z h0 "jdk/internal/util/Preconditions" "SIOOBE_FORMATTER" "Ljava/util/function/BiFunction;" fm) (ca : Addr) (ia : Nat → Addr) (SH : Sta Z h0 "java/lang/Integer$IntegerCache" "high" "I" (.int (127 : Int32))) (SC : Sta Z h0 "java/lang/Integer$IntegerCache" "cache" "[Ljava/lang/Integer;" (.ref ca)) (A_ca : OArr Z h0 ca (.object "java/lang/Integer") 256 (fun j => .ref (ia j))) (hia : ∀ j, j < 256 → Exa Z h0 (ia j) "java/lang/Integer") (x3 x4 x5 x6 x8 x9 x10 x12 : Int32) (R3 : 0 ≤ x3.toInt ∧ x3.toInt ≤ 255) (R4 : 0 ≤ x4.toInt ∧ x4.toInt ≤ 255) (R5 : 0 ≤ x5.toInt ∧ x5.toInt ≤ 255) (R6 : 0 ≤ x6.toInt ∧ x6.toInt ≤ 255) (R8 : 0 ≤ x8.toInt ∧ x8.toInt ≤ 255) (R9 : 0 ≤ x9.toInt ∧ x9.toInt ≤ 255) (R10 : 0 ≤ x10.toInt ∧ x10.toInt ≤ 255) (R12 : 0 ≤ x12.toInt ∧ x12.toInt ≤ 255) (N5 : ¬ own_by x5 = own_by 47) (N10 : ¬ own_by x10 = own_by 47) {p : Program} {e : Env} {s : State} {m : MethodId} {below : List Frame} {meth : Method} {c : Code} (T0 : State) (vm0 : Vm) (G0 : OG l Z x code maxLocals ret n0 p e room_1 (s.setVm vm0) m #[(.int p0), (.int p1), (.int p2)] below meth c T0 h0 0 0) (SN : s.Since vm0 h0.size) (H : CHv Z own_EL vm0 h0) :
    OFin p e below (OW n0 s (fun v _ _ => v = some (.int 1)) 88 4480) T0 (mkF m 168 #[.val (.int p0), .val (.int p1), .val (.int p2), .val (.int x3), .val (.int x4), .val (.int x5), .val (.int x6), .val (.int (1 : Int32)), .val (.int x8), .val (.int x9), .val (.int x10), .val (.int (1 : Int32)), .val (.int x12), .unset, .unset, .unset, .unset] []) := by
  have hk : h0.size ≤ h0.size := Nat.le_refl _
  have hEL := own_EW hw
  have K : Keep h0 h0 [] := Keep.refl _ _
  refine o_iloadN G0 at_168 (pc' := 169) rfl rfl ?_
  refine o_iload G0 at_169 (pc' := 171) rfl rfl ?_
  refine o_iload G0 at_171 (pc' := 173) rfl rfl ?_
  refine o_iload G0 at_173 (pc' := 175) rfl rfl ?_
  refine o_iload G0 at_175 (pc' := 177) rfl rfl ?_
  refine o_callSW G0 SN hk (z := (⟨"com/example/ronda/ronda/engine/ApiVersionEqualsPinLaw", "make", "(CCZCC)Lcom/example/ronda/ronda/engine/ApiVersion;"⟩ : MethodName)) (argsL := [(.int x3), (.int x4), (.int (1 : Int32)), (.int x5), (.int x6)]) (rest := []) (W := 0) (ow hw 4 rfl) (ow hw 5 rfl) at_177 (by decide) (ow hw 2 rfl) (ow hw 6 rfl) (rm2_1 hw x3 x4 x5 x6 h0 n0 G0.sz cs hcs S fm hfm SF R3 R4 R5 R6 N5) (fun vm1 hw1 => o_chw G0.wz hw1 hEL H) (by decide) (by decide) rfl (lenOf pd_39 rfl) rfl (Nat.le_of_eq rfl) (pc' := 180) rfl (by decide) (by decide) ?_
  rintro _ T1 h1 vm1 G1 SN1 - ⟨o1, y11, z11, y12, z12, y13, z13, y14, z14, rfl, ⟨-, g11, g12, g13, g14⟩, K1, X1, ⟨F11, F12, F13, F14⟩, ⟨E_y11, Fv_y11, Fc_y11, A_z11⟩, ⟨E_y12, Fv_y12, Fc_y12, A_z12⟩, ⟨E_y13, Fv_y13, Fc_y13, A_z13⟩, ⟨E_y14, Fv_y14, Fc_y14, A_z14⟩, H1⟩
  replace S := o_stak S K1 (fun x hx => nomatch hx)
  replace SF := o_stak SF K1 (fun x hx => nomatch hx)
  replace K := K.trans K1 all0
  replace H := H1
  replace SN := SN1
  replace hk := Nat.le_refl h1.size
  show OFin _ _ _ _ T1 (mkF m 180 #[.val (.int p0), .val (.int p1), .val (.int p2), .val (.int x3), .val (.int x4), .val (.int x5), .val (.int x6), .val (.int (1 : Int32)), .val (.int x8), .val (.int x9), .val (.int x10), .val (.int (1 : Int32)), .val (.int x12), .unset, .unset, .unset, .unset] [(.ref o1)])
  refine o_astore G1 at_180 (pc' := 182) rfl rfl (l' := #[.val (.int p0), .val (.int p1), .val (.int p2), .val (.int x3), .val (.int x4), .val (.int x5), .val (.int x6), .val (.int (1 : Int32)), .val (.int x8), .val (.int x9), .val (.int x10), .val (.int (1 : Int32)), .val (.int x12), .val (.ref o1), .unset, .unset, .unset]) rfl ?_
  refine o_iload G1 at_182 (pc' := 184) rfl rfl ?_
  refine o_iload G1 at_184 (pc' := 186) rfl rfl ?_
  refine o_iload G1 at_186 (pc' := 188) rfl rfl ?_
  refine o_iload G1 at_188 (pc' := 190) rfl rfl ?_
  refine o_iload G1 at_190 (pc' := 192) rfl rfl ?_
  refine o_callSW G1 SN hk (z := (⟨"com/example/ronda/ronda/engine/ApiVersionEqualsPinLaw", "make", "(CCZCC)Lcom/example/ronda/ronda/engine/ApiVersion;"⟩ : MethodName)) (argsL := [(.int x8), (.int x9), (.int (1 : Int32)), (.int x10), (.int x12)]) (rest := []) (W := 0) (ow hw 4 rfl) (ow hw 5 rfl) at_192 (by decide) (ow hw 2 rfl) (ow hw 6 rfl) (rm2_1 hw x8 x9 x10 x12 h1 n0 G1.sz cs hcs S fm hfm SF R8 R9 R10 R12 N10) (fun vm1 hw1 => o_chw G1.wz hw1 hEL H) (by decide) (by decide) rfl (lenOf pd_39 rfl) rfl (Nat.le_of_eq rfl) (pc' := 195) rfl (by decide) (by decide) ?_
  rintro _ T2 h2 vm2 G2 SN2 - ⟨o2, y21, z21, y22, z22, y23, z23, y24, z24, rfl, ⟨-, g21, g22, g23, g24⟩, K2, X2, ⟨F21, F22, F23, F24⟩, ⟨E_y21, Fv_y21, Fc_y21, A_z21⟩, ⟨E_y22, Fv_y22, Fc_y22, A_z22⟩, ⟨E_y23, Fv_y23, Fc_y23, A_z23⟩, ⟨E_y24, Fv_y24, Fc_y24, A_z24⟩, H2⟩
  have n1 : y11 ≠ y21 := Nat.ne_of_lt (Nat.lt_of_lt_of_le E_y11.lt g21)
  have n2 : y12 ≠ y22 := Nat.ne_of_lt (Nat.lt_of_lt_of_le E_y12.lt g22)
  have n4 : y14 ≠ y24 := Nat.ne_of_lt (Nat.lt_of_lt_of_le E_y14.lt g24)
  replace S := o_stak S K2 (fun x hx => nomatch hx)
  replace SF := o_stak SF K2 (fun x hx => nomatch hx)
  replace K := K.trans K2 all0
  replace X1 := X1.keep K2
  replace F11 := F11.keep K2 nin0
  replace F12 := F12.keep K2 nin0
  replace F13 := F13.keep K2 nin0
  replace F14 := F14.keep K2 nin0
  replace E_y11 := E_y11.keep K2
  replace Fv_y11 := Fv_y11.keep K2 nin0
  replace Fc_y11 := Fc_y11.keep K2 nin0
  replace A_z11 := A_z11.keep K2 nin0
  replace E_y12 := E_y12.keep K2
  replace Fv_y12 := Fv_y12.keep K2 nin0
  replace Fc_y12 := Fc_y12.keep K2 nin0
  replace A_z12 := A_z12.keep K2 nin0
  replace E_y13 := E_y13.keep K2
  replace Fv_y13 := Fv_y13.keep K2 nin0
  replace Fc_y13 := Fc_y13.keep K2 nin0
  replace A_z13 := A_z13.keep K2 nin0
  replace E_y14 := E_y14.keep K2
  replace Fv_y14 := Fv_y14.keep K2 nin0
  replace Fc_y14 := Fc_y14.keep K2 nin0
  replace A_z14 := A_z14.keep K2 nin0
  replace H := H2
  replace SN := SN2
  replace hk := Nat.le_refl h2.size
  show OFin _ _ _ _ T2 (mkF m 195 #[.val (.int p0), .val (.int p1), .val (.int p2), .val (.int x3), .val (.int x4), .val (.int x5), .val (.int x6), .val (.int (1 : Int32)), .val (.int x8), .val (.int x9), .val (.int x10), .val (.int (1 : Int32)), .val (.int x12), .val (.ref o1), .unset, .unset, .unset] [(.ref o2)])
  refine o_astore G2 at_195 (pc' := 197) rfl rfl (l' := #[.val (.int p0), .val (.int p1), .val (.int p2), .val (.int x3), .val (.int x4), .val (.int x5), .val (.int x6), .val (.int (1 : Int32)), .val (.int x8), .val (.int x9), .val (.int x10), .val (.int (1 : Int32)), .val (.int x12), .val (.ref o1), .val (.ref o2), .unset, .unset]) rfl ?_
  refine o_iload G2 at_197 (pc' := 199) rfl rfl ?_
  refine o_iload G2 at_199 (pc' := 201) rfl rfl ?_
  refine o_icmp_ne G2 at_201 (by decide) (pcT := 220) (by decide) (pc' := 204) rfl (fun q => absurd (by decide) q) (fun _ => ?_)
  refine o_iload G2 at_204 (pc' := 206) rfl rfl ?_
  refine o_if_ne G2 at_206 (by decide) (pcT := 216) (by decide) (pc' := 209) rfl (fun _ => ?_) (fun q => absurd q (by decide))
  refine o_iconst G2 at_216 (pc' := 217) rfl (v := (1 : Int32)) rfl ?_
  refine o_goto G2 at_217 (by decide) (pc' := 221) rfl ?_
  refine o_istore G2 at_221 (pc' := 223) rfl (l' := #[.val (.int p0), .val (.int p1), .val (.int p2), .val (.int x3), .val (.int x4), .val (.int x5), .val (.int x6), .val (.int (1 : Int32)), .val (.int x8), .val (.int x9), .val (.int x10), .val (.int (1 : Int32)), .val (.int x12), .val (.ref o1), .val (.ref o2), .val (.int (1 : Int32)), .unset]) rfl ?_
  refine o_iloadN G2 at_223 (pc' := 224) rfl rfl ?_
  refine o_iload G2 at_224 (pc' := 226) rfl rfl ?_
  obtain ⟨v3, e3⟩ : ∃ z, (if x3 = x8 then (if x4 = x9 then (if x6 = x12 then (1 : Int32) else (0 : Int32)) else (0 : Int32)) else (0 : Int32)) = z := ⟨_, rfl⟩
  have K4 : ∀ T', OG l Z x code maxLocals ret n0 p e room_1 (s.setVm vm2) m #[(.int p0), (.int p1), (.int p2)] below meth c T' h2 64 700 → OFin p e below (OW n0 s (fun v _ _ => v = some (.int 1)) 88 4480) T' (mkF m 253 #[.val (.int p0), .val (.int p1), .val (.int p2), .val (.int x3), .val (.int x4), .val (.int x5), .val (.int x6), .val (.int (1 : Int32)), .val (.int x8), .val (.int x9), .val (.int x10), .val (.int (1 : Int32)), .val (.int x12), .val (.ref o1), .val (.ref o2), .val (.int (1 : Int32)), .unset] [(.int v3)]) := by
    intro T4 G4
    refine o_istore G4 at_253 (pc' := 255) rfl (l' := #[.val (.int p0), .val (.int p1), .val (.int p2), .val (.int x3), .val (.int x4), .val (.int x5), .val (.int x6), .val (.int (1 : Int32)), .val (.int x8), .val (.int x9), .val (.int x10), .val (.int (1 : Int32)), .val (.int x12), .val (.ref o1), .val (.ref o2), .val (.int (1 : Int32)), .val (.int v3)]) rfl ?_
    refine o_aload G4 at_255 (pc' := 257) rfl rfl rfl ?_
    refine o_aload G4 at_257 (pc' := 259) rfl rfl rfl ?_
    refine o_callV G4 (z := (⟨"com/example/ronda/ronda/engine/ApiVersion", "equals", "(Ljava/lang/Object;)Z"⟩ : MethodName)) (argsL := [(.ref o2)]) (rest := []) (W := 0) X1 (ow hw 246 rfl) (ow hw 248 rfl) (ow hw 247 rfl) (ow hw 249 rfl) at_259 (by decide) (ow hw 53 rfl) (ow hw 250 rfl) (rm48_o hw o1 o2 h2 n0 G4.sz X1 X2 y11 y12 y13 y14 y21 y22 y23 y24 F11 E_y11 F12 E_y12 F13 E_y13 F14 E_y14 F21 E_y21 F22 E_y22 F23 E_y23 F24 E_y24 (own_eq 1 0 (fun _ => x3) (fun _ => x8)) (rm49_11 hw y11 y21 h2 n0 G4.sz cs hcs S z11 (fun _ => x3) E_y11 Fv_y11 Fc_y11 A_z11 z21 (fun _ => x8) E_y21 Fv_y21 Fc_y21 A_z21 n1) (own_eq 1 0 (fun _ => x4) (fun _ => x9)) (rm49_11 hw y12 y22 h2 n0 G4.sz cs hcs S z12 (fun _ => x4) E_y12 Fv_y12 Fc_y12 A_z12 z22 (fun _ => x9) E_y22 Fv_y22 Fc_y22 A_z22 n2) 1 (if q : y13 = y23 then rm49_same hw y13 y23 h2 n0 G4.sz q else rm49_00 hw y13 y23 h2 n0 G4.sz cs hcs S z13 (fun _ => 0) E_y13 Fv_y13 Fc_y13 A_z13 z23 (fun _ => 0) E_y23 Fv_y23 Fc_y23 A_z23 q) (own_eq 2 0 (own_c2 47 x6) (own_c2 47 x12)) (rm49_22 hw y14 y24 h2 n0 G4.sz cs hcs S z14 (own_c2 47 x6) E_y14 Fv_y14 Fc_y14 A_z14 z24 (own_c2 47 x12) E_y24 Fv_y24 Fc_y24 A_z24 n4)) (by decide) (by decide) rfl (lenOf pd_29 rfl) rfl (Nat.le_of_eq rfl) (pc' := 262) rfl (by decide) (by decide) ?_
    rintro _ T5 h5 G5 ⟨rfl, hh⟩
    subst hh
    show OFin _ _ _ _ T5 (mkF m 262 #[.val (.int p0), .val (.int p1), .val (.int p2), .val (.int x3), .val (.int x4), .val (.int x5), .val (.int x6), .val (.int (1 : Int32)), .val (.int x8), .val (.int x9), .val (.int x10), .val (.int (1 : Int32)), .val (.int x12), .val (.ref o1), .val (.ref o2), .val (.int (1 : Int32)), .val (.int v3)] [(.int (own_and4 (own_eq 1 0 (fun _ => x3) (fun _ => x8)) (own_eq 1 0 (fun _ => x4) (fun _ => x9)) 1 (own_eq 2 0 (own_c2 47 x6) (own_c2 47 x12))))])
    refine o_iload G5 at_262 (pc' := 264) rfl rfl ?_
    have q264 : (own_and4 (own_eq 1 0 (fun _ => x3) (fun _ => x8)) (own_eq 1 0 (fun _ => x4) (fun _ => x9)) 1 (own_eq 2 0 (own_c2 47 x6) (own_c2 47 x12))) = v3 := by
      rw [← e3]
      exact own_law11 x3 x8 x4 x9 x6 x12 R3 R8 R4 R9 R6 R12
    refine o_icmp_ne G5 at_264 (by decide) (pcT := 314) (by decide) (pc' := 267) rfl (fun q => absurd q264 q) (fun _ => ?_)
    refine o_aload G5 at_267 (pc' := 269) rfl rfl rfl ?_
    refine o_aload G5 at_269 (pc' := 271) rfl rfl rfl ?_
    refine o_callV G5 (z := (⟨"com/example/ronda/ronda/engine/ApiVersion", "equals", "(Ljava/lang/Object;)Z"⟩ : MethodName)) (argsL := [(.ref o1)]) (rest := []) (W := 0) X2 (ow hw 246 rfl) (ow hw 248 rfl) (ow hw 247 rfl) (ow hw 249 rfl) at_271 (by decide) (ow hw 53 rfl) (ow hw 250 rfl) (rm48_o hw o2 o1 h2 n0 G5.sz X2 X1 y21 y22 y23 y24 y11 y12 y13 y14 F21 E_y21 F22 E_y22 F23 E_y23 F24 E_y24 F11 E_y11 F12 E_y12 F13 E_y13 F14 E_y14 (own_eq 1 0 (fun _ => x8) (fun _ => x3)) (rm49_11 hw y21 y11 h2 n0 G5.sz cs hcs S z21 (fun _ => x8) E_y21 Fv_y21 Fc_y21 A_z21 z11 (fun _ => x3) E_y11 Fv_y11 Fc_y11 A_z11 (Ne.symm n1)) (own_eq 1 0 (fun _ => x9) (fun _ => x4)) (rm49_11 hw y22 y12 h2 n0 G5.sz cs hcs S z22 (fun _ => x9) E_y22 Fv_y22 Fc_y22 A_z22 z12 (fun _ => x4) E_y12 Fv_y12 Fc_y12 A_z12 (Ne.symm n2)) 1 (if q : y23 = y13 then rm49_same hw y23 y13 h2 n0 G5.sz q else rm49_00 hw y23 y13 h2 n0 G5.sz cs hcs S z23 (fun _ => 0) E_y23 Fv_y23 Fc_y23 A_z23 z13 (fun _ => 0) E_y13 Fv_y13 Fc_y13 A_z13 q) (own_eq 2 0 (own_c2 47 x12) (own_c2 47 x6)) (rm49_22 hw y24 y14 h2 n0 G5.sz cs hcs S z24 (own_c2 47 x12) E_y24 Fv_y24 Fc_y24 A_z24 z14 (own_c2 47 x6) E_y14 Fv_y14 Fc_y14 A_z14 (Ne.symm n4))) (by decide) (by decide) rfl (lenOf pd_29 rfl) rfl (Nat.le_of_eq rfl) (pc' := 274) rfl (by decide) (by decide) ?_
    rintro _ T6 h6 G6 ⟨rfl, hh⟩
    subst hh
    show OFin _ _ _ _ T6 (mkF m 274 #[.val (.int p0), .val (.int p1), .val (.int p2), .val (.int x3), .val (.int x4), .val (.int x5), .val (.int x6), .val (.int (1 : Int32)), .val (.int x8), .val (.int x9), .val (.int x10), .val (.int (1 : Int32)), .val (.int x12), .val (.ref o1), .val (.ref o2), .val (.int (1 : Int32)), .val (.int v3)] [(.int (own_and4 (own_eq 1 0 (fun _ => x8) (fun _ => x3)) (own_eq 1 0 (fun _ => x9) (fun _ => x4)) 1 (own_eq 2 0 (own_c2 47 x12) (own_c2 47 x6))))])
    refine o_iload G6 at_274 (pc' := 276) rfl rfl ?_
    have q276 : (own_and4 (own_eq 1 0 (fun _ => x8) (fun _ => x3)) (own_eq 1 0 (fun _ => x9) (fun _ => x4)) 1 (own_eq 2 0 (own_c2 47 x12) (own_c2 47 x6))) = v3 := by
      rw [← e3]
      exact own_law11' x3 x8 x4 x9 x6 x12 R3 R8 R4 R9 R6 R12
    refine o_icmp_ne G6 at_276 (by decide) (pcT := 314) (by decide) (pc' := 279) rfl (fun q => absurd q276 q) (fun _ => ?_)
    refine o_aload G6 at_279 (pc' := 281) rfl rfl rfl ?_
    refine o_aload G6 at_281 (pc' := 283) rfl rfl rfl ?_
    refine o_callV G6 (z := (⟨"com/example/ronda/ronda/engine/ApiVersion", "equals", "(Ljava/lang/Object;)Z"⟩ : MethodName)) (argsL := [(.ref o1)]) (rest := []) (W := 0) X1 (ow hw 246 rfl) (ow hw 248 rfl) (ow hw 247 rfl) (ow hw 249 rfl) at_283 (by decide) (ow hw 53 rfl) (ow hw 250 rfl) (rm48_o hw o1 o1 h2 n0 G6.sz X1 X1 y11 y12 y13 y14 y11 y12 y13 y14 F11 E_y11 F12 E_y12 F13 E_y13 F14 E_y14 F11 E_y11 F12 E_y12 F13 E_y13 F14 E_y14 1 (rm49_same hw y11 y11 h2 n0 G6.sz rfl) 1 (rm49_same hw y12 y12 h2 n0 G6.sz rfl) 1 (rm49_same hw y13 y13 h2 n0 G6.sz rfl) 1 (rm49_same hw y14 y14 h2 n0 G6.sz rfl)) (by decide) (by decide) rfl (lenOf pd_29 rfl) rfl (Nat.le_of_eq rfl) (pc' := 286) rfl (by decide) (by decide) ?_
    rintro _ T7 h7 G7 ⟨rfl, hh⟩
    subst hh
    show OFin _ _ _ _ T7 (mkF m 286 #[.val (.int p0), .val (.int p1), .val (.int p2), .val (.int x3), .val (.int x4), .val (.int x5), .val (.int x6), .val (.int (1 : Int32)), .val (.int x8), .val (.int x9), .val (.int x10), .val (.int (1 : Int32)), .val (.int x12), .val (.ref o1), .val (.ref o2), .val (.int (1 : Int32)), .val (.int v3)] [(.int (own_and4 1 1 1 1))])
    refine o_if_eq G7 at_286 (by decide) (pcT := 314) (by decide) (pc' := 289) rfl (fun q => absurd q (by decide)) (fun _ => ?_)
    refine o_aload G7 at_289 (pc' := 291) rfl rfl rfl ?_
    refine o_aconst_null G7 at_291 (pc' := 292) rfl ?_
    refine o_callV G7 (z := (⟨"com/example/ronda/ronda/engine/ApiVersion", "equals", "(Ljava/lang/Object;)Z"⟩ : MethodName)) (argsL := [.null]) (rest := []) (W := 0) X1 (ow hw 246 rfl) (ow hw 248 rfl) (ow hw 247 rfl) (ow hw 249 rfl) at_292 (by decide) (ow hw 53 rfl) (ow hw 250 rfl) (rm48_z hw o1 h2 n0 G7.sz) (by decide) (by decide) rfl (lenOf pd_29 rfl) rfl (Nat.le_of_eq rfl) (pc' := 295) rfl (by decide) (by decide) ?_
    rintro _ T8 h8 G8 ⟨rfl, hh⟩
    subst hh
    show OFin _ _ _ _ T8 (mkF m 295 #[.val (.int p0), .val (.int p1), .val (.int p2), .val (.int x3), .val (.int x4), .val (.int x5), .val (.int x6), .val (.int (1 : Int32)), .val (.int x8), .val (.int x9), .val (.int x10), .val (.int (1 : Int32)), .val (.int x12), .val (.ref o1), .val (.ref o2), .val (.int (1 : Int32)), .val (.int v3)] [(.int (0 : Int32))])
    refine o_if_ne G8 at_295 (by decide) (pcT := 314) (by decide) (pc' := 298) rfl (fun q => absurd (by decide) q) (fun _ => ?_)
    refine o_aload G8 at_298 (pc' := 300) rfl rfl rfl ?_
    refine o_iloadN G8 at_300 (pc' := 301) rfl rfl ?_
    refine o_callS G8 (z := (⟨"java/lang/Integer", "valueOf", "(I)Ljava/lang/Integer;"⟩ : MethodName)) (argsL := [(.int p0)]) (rest := [(.ref o1)]) (W := 1) (ow hw 261 rfl) (ow hw 262 rfl) at_301 (by decide) (ow hw 263 rfl) (ow hw 264 rfl) (rm51 hw p0 h2 n0 G8.sz ca ia (o_stak SH K (fun x hx => nomatch hx)) (o_stak SC K (fun x hx => nomatch hx)) (A_ca.keep K nin0) (fun j hj => (hia j hj).keep K)) (by decide) (by decide) rfl (lenOf pd_40 rfl) rfl (Nat.le_of_eq rfl) (pc' := 304) rfl (by decide) (by decide) ?_
    rintro _ T9 h9 G9 ⟨ib, rfl, K9, Xi⟩
    replace X1 := X1.keep K9
    replace hk := Nat.le_trans hk K9.1
    show OFin _ _ _ _ T9 (mkF m 304 #[.val (.int p0), .val (.int p1), .val (.int p2), .val (.int x3), .val (.int x4), .val (.int x5), .val (.int x6), .val (.int (1 : Int32)), .val (.int x8), .val (.int x9), .val (.int x10), .val (.int (1 : Int32)), .val (.int x12), .val (.ref o1), .val (.ref o2), .val (.int (1 : Int32)), .val (.int v3)] [(.ref ib), (.ref o1)])
    refine o_callV G9 (z := (⟨"com/example/ronda/ronda/engine/ApiVersion", "equals", "(Ljava/lang/Object;)Z"⟩ : MethodName)) (argsL := [(.ref ib)]) (rest := []) (W := 0) X1 (ow hw 246 rfl) (ow hw 248 rfl) (ow hw 247 rfl) (ow hw 249 rfl) at_304 (by decide) (ow hw 53 rfl) (ow hw 250 rfl) (rm48_i hw o1 ib h9 n0 G9.sz Xi) (by decide) (by decide) rfl (lenOf pd_29 rfl) rfl (Nat.le_of_eq rfl) (pc' := 307) rfl (by decide) (by decide) ?_
    rintro _ T10 h10 G10 ⟨rfl, hh⟩
    subst hh
    show OFin _ _ _ _ T10 (mkF m 307 #[.val (.int p0), .val (.int p1), .val (.int p2), .val (.int x3), .val (.int x4), .val (.int x5), .val (.int x6), .val (.int (1 : Int32)), .val (.int x8), .val (.int x9), .val (.int x10), .val (.int (1 : Int32)), .val (.int x12), .val (.ref o1), .val (.ref o2), .val (.int (1 : Int32)), .val (.int v3)] [(.int (0 : Int32))])
    refine o_if_ne G10 at_307 (by decide) (pcT := 314) (by decide) (pc' := 310) rfl (fun q => absurd (by decide) q) (fun _ => ?_)
    refine o_iconst G10 at_310 (pc' := 311) rfl (v := (1 : Int32)) rfl ?_
    refine o_goto G10 at_311 (by decide) (pc' := 315) rfl ?_
    exact o_nreturnW G10 SN hk (Or.inl rfl) (Nat.le_refl _) at_315 (fun vm1 hw1 => rfl) (by decide) (by decide)
  refine o_icmp_ne G2 at_226 (by decide) (pcT := 252) (by decide) (pc' := 229) rfl (fun hc226 => ?_) (fun hc226 => ?_)
  · refine o_iconst G2 at_252 (pc' := 253) rfl (v := (0 : Int32)) rfl ?_
    rw [if_neg hc226] at e3
    subst e3
    exact K4 _ G2
  · refine o_iload G2 at_229 (pc' := 231) rfl rfl ?_
    refine o_iload G2 at_231 (pc' := 233) rfl rfl ?_
    refine o_icmp_ne G2 at_233 (by decide) (pcT := 252) (by decide) (pc' := 236) rfl (fun hc233 => ?_) (fun hc233 => ?_)
    · refine o_iconst G2 at_252 (pc' := 253) rfl (v := (0 : Int32)) rfl ?_
      rw [if_pos hc226, if_neg hc233] at e3
      subst e3
      exact K4 _ G2
    · refine o_iload G2 at_236 (pc' := 238) rfl rfl ?_
      refine o_if_eq G2 at_238 (by decide) (pcT := 252) (by decide) (pc' := 241) rfl (fun q => absurd q (by decide)) (fun _ => ?_)
      refine o_iload G2 at_241 (pc' := 243) rfl rfl ?_
      refine o_iload G2 at_243 (pc' := 245) rfl rfl ?_
      refine o_icmp_ne G2 at_245 (by decide) (pcT := 252) (by decide) (pc' := 248) rfl (fun hc245 => ?_) (fun hc245 => ?_)
      · refine o_iconst G2 at_252 (pc' := 253) rfl (v := (0 : Int32)) rfl ?_
        rw [if_pos hc226, if_pos hc233, if_neg hc245] at e3
        subst e3
        exact K4 _ G2
      · refine o_iconst G2 at_248 (pc' := 249) rfl (v := (1 : Int32)) rfl ?_
        refine o_goto G2 at_249 (by decide) (pc' := 253) rfl ?_
        rw [if_pos hc226, if_pos hc233, if_pos hc245] at e3
        subst e3
        exact K4 _ G2
set_option maxRecDepth 65536 in
set_option maxHeartbeats 40000000 in
theorem rm0 {l : Launch} {Z : State} {a0 : Array Value} (hw : ∀ d ∈ tables_1, d.before a0 Z = true) (p0 : Int32) (p1 : Int32) (p2 : Int32) (h0 : Heap) (n0 : Nat) (hz : n0 ≤ h0.size) (cs : Int32) (hcs : ¬ cs = 0) (S : Sta Z h0 "java/lang/String" "COMPACT_STRINGS" "Z" (.int cs)) (fm : Value) (hfm : fm.isRef = true) (SF : Sta Z h0 "jdk/internal/util/Preconditions" "SIOOBE_FORMATTER" "Ljava/util/function/BiFunction;" fm) (ca : Addr) (ia : Nat → Addr) (SH : Sta Z h0 "java/lang/Integer$IntegerCache" "high" "I" (.int (127 : Int32))) (SC : Sta Z h0 "java/lang/Integer$IntegerCache" "cache" "[Ljava/lang/Integer;" (.ref ca)) (A_ca : OArr Z h0 ca (.object "java/lang/Integer") 256 (fun j => .ref (ia j))) (hia : ∀ j, j < 256 → Exa Z h0 (ia j) "java/lang/Integer") :
    OMetW l Z x code maxLocals ret room_1 #[(.int p0), (.int p1), (.int p2)] h0 n0 88 4480 (fun vm => CHv Z own_EL vm h0) (fun v _ _ => v = some (.int 1)) := by
  refine o_bodyW (plainFor_of_name pn_0) (fun m => ef_0 m p0 p1 p2) ?_
  intro p e s m below meth c s₁ vm0 G0 SN hs0 H
  replace G0 := o_weak hz G0
  have hk : h0.size ≤ h0.size := Nat.le_refl _
  have hEL := own_EW hw
  have wS := own_wS hw
  refine o_iloadN G0 at_0 (pc' := 1) rfl rfl ?_
  refine o_sipush G0 at_1 (pc' := 4) rfl (v := (255 : Int32)) rfl ?_
  obtain ⟨v1, e1⟩ : ∃ z, p0 &&& (255 : Int32) = z := ⟨_, rfl⟩
  refine o_iand G0 at_4 (pc' := 5) rfl e1 ?_
  obtain ⟨v2, e2⟩ : ∃ z, v1.toUInt32.toUInt16.toUInt32.toInt32 = z := ⟨_, rfl⟩
  refine o_i2c G0 at_5 (pc' := 6) rfl e2 ?_
  refine o_istoreN G0 at_6 (pc' := 7) rfl (l' := #[.val (.int p0), .val (.int p1), .val (.int p2), .val (.int v2), .unset, .unset, .unset, .unset, .unset, .unset, .unset, .unset, .unset, .unset, .unset, .unset, .unset]) rfl ?_
  refine o_iloadN G0 at_7 (pc' := 8) rfl rfl ?_
  refine o_bipush G0 at_8 (pc' := 10) rfl (v := (8 : Int32)) rfl ?_
  obtain ⟨v3, e3⟩ : ∃ z, (p0.toUInt32 >>> ((8 : Int32) &&& 31).toUInt32).toInt32 = z := ⟨_, rfl⟩
  refine o_iushr G0 at_10 (pc' := 11) rfl e3 ?_
  refine o_sipush G0 at_11 (pc' := 14) rfl (v := (255 : Int32)) rfl ?_
  obtain ⟨v4, e4⟩ : ∃ z, v3 &&& (255 : Int32) = z := ⟨_, rfl⟩
  refine o_iand G0 at_14 (pc' := 15) rfl e4 ?_
  obtain ⟨v5, e5⟩ : ∃ z, v4.toUInt32.toUInt16.toUInt32.toInt32 = z := ⟨_, rfl⟩
  refine o_i2c G0 at_15 (pc' := 16) rfl e5 ?_
  refine o_istore G0 at_16 (pc' := 18) rfl (l' := #[.val (.int p0), .val (.int p1), .val (.int p2), .val (.int v2), .val (.int v5), .unset, .unset, .unset, .unset, .unset, .unset, .unset, .unset, .unset, .unset, .unset, .unset]) rfl ?_
  refine o_iloadN G0 at_18 (pc' := 19) rfl rfl ?_
  refine o_bipush G0 at_19 (pc' := 21) rfl (v := (16 : Int32)) rfl ?_
  obtain ⟨v6, e6⟩ : ∃ z, (p0.toUInt32 >>> ((16 : Int32) &&& 31).toUInt32).toInt32 = z := ⟨_, rfl⟩
  refine o_iushr G0 at_21 (pc' := 22) rfl e6 ?_
  refine o_sipush G0 at_22 (pc' := 25) rfl (v := (255 : Int32)) rfl ?_
  obtain ⟨v7, e7⟩ : ∃ z, v6 &&& (255 : Int32) = z := ⟨_, rfl⟩
  refine o_iand G0 at_25 (pc' := 26) rfl e7 ?_
  obtain ⟨v8, e8⟩ : ∃ z, f_1 v7 = z := ⟨_, rfl⟩
  refine o_callP G0 (z := (⟨"com/example/ronda/ronda/engine/ApiVersionEqualsPinLaw", "svc", "(I)C"⟩ : MethodName)) (r := (.int v8)) (argsL := [(.int v7)]) (rest := []) (W := 0) (ow hw 0 rfl) (ow hw 1 rfl) at_26 (by decide) (ow hw 2 rfl) (ow hw 3 rfl) (by rw [← e8]; exact rm1 hw v7 h0 n0 G0.sz) (by decide) (by decide) rfl (lenOf pd_41 rfl) rfl (Nat.le_of_eq rfl) (pc' := 29) rfl (by decide) (by decide) ?_
  intro T9 G9
  refine o_istore G9 at_29 (pc' := 31) rfl (l' := #[.val (.int p0), .val (.int p1), .val (.int p2), .val (.int v2), .val (.int v5), .val (.int v8), .unset, .unset, .unset, .unset, .unset, .unset, .unset, .unset, .unset, .unset, .unset]) rfl ?_
  refine o_iloadN G9 at_31 (pc' := 32) rfl rfl ?_
  refine o_bipush G9 at_32 (pc' := 34) rfl (v := (24 : Int32)) rfl ?_
  obtain ⟨v10, e10⟩ : ∃ z, (p0.toUInt32 >>> ((24 : Int32) &&& 31).toUInt32).toInt32 = z := ⟨_, rfl⟩
  refine o_iushr G9 at_34 (pc' := 35) rfl e10 ?_
  refine o_sipush G9 at_35 (pc' := 38) rfl (v := (255 : Int32)) rfl ?_
  obtain ⟨v11, e11⟩ : ∃ z, v10 &&& (255 : Int32) = z := ⟨_, rfl⟩
  refine o_iand G9 at_38 (pc' := 39) rfl e11 ?_
  obtain ⟨v12, e12⟩ : ∃ z, v11.toUInt32.toUInt16.toUInt32.toInt32 = z := ⟨_, rfl⟩
  refine o_i2c G9 at_39 (pc' := 40) rfl e12 ?_
  refine o_istore G9 at_40 (pc' := 42) rfl (l' := #[.val (.int p0), .val (.int p1), .val (.int p2), .val (.int v2), .val (.int v5), .val (.int v8), .val (.int v12), .unset, .unset, .unset, .unset, .unset, .unset, .unset, .unset, .unset, .unset]) rfl ?_
  refine o_iloadN G9 at_42 (pc' := 43) rfl rfl ?_
  refine o_bipush G9 at_43 (pc' := 45) rfl (v := (16 : Int32)) rfl ?_
  obtain ⟨v13, e13⟩ : ∃ z, p2 &&& (16 : Int32) = z := ⟨_, rfl⟩
  refine o_iand G9 at_45 (pc' := 46) rfl e13 ?_
  obtain ⟨v14, e14⟩ : ∃ z, (if v13 = (0 : Int32) then (0 : Int32) else (1 : Int32)) = z := ⟨_, rfl⟩
  have K15 : ∀ T', OG l Z x code maxLocals ret n0 p e room_1 (s.setVm vm0) m #[(.int p0), (.int p1), (.int p2)] below meth c T' h0 0 0 → OFin p e below (OW n0 s (fun v _ _ => v = some (.int 1)) 88 4480) T' (mkF m 54 #[.val (.int p0), .val (.int p1), .val (.int p2), .val (.int v2), .val (.int v5), .val (.int v8), .val (.int v12), .unset, .unset, .unset, .unset, .unset, .unset, .unset, .unset, .unset, .unset] [(.int v14)]) := by
    intro T15 G15
    refine o_istore G15 at_54 (pc' := 56) rfl (l' := #[.val (.int p0), .val (.int p1), .val (.int p2), .val (.int v2), .val (.int v5), .val (.int v8), .val (.int v12), .val (.int v14), .unset, .unset, .unset, .unset, .unset, .unset, .unset, .unset, .unset]) rfl ?_
    refine o_iloadN G15 at_56 (pc' := 57) rfl rfl ?_
    refine o_iconst G15 at_57 (pc' := 58) rfl (v := (1 : Int32)) rfl ?_
    obtain ⟨v16, e16⟩ : ∃ z, p2 &&& (1 : Int32) = z := ⟨_, rfl⟩
    refine o_iand G15 at_58 (pc' := 59) rfl e16 ?_
    obtain ⟨v17, e17⟩ : ∃ z, (if v16 = (0 : Int32) then ((p1 &&& (255 : Int32)).toUInt32.toUInt16.toUInt32.toInt32) else v2) = z := ⟨_, rfl⟩
    have K18 : ∀ T', OG l Z x code maxLocals ret n0 p e room_1 (s.setVm vm0) m #[(.int p0), (.int p1), (.int p2)] below meth c T' h0 0 0 → OFin p e below (OW n0 s (fun v _ _ => v = some (.int 1)) 88 4480) T' (mkF m 72 #[.val (.int p0), .val (.int p1), .val (.int p2), .val (.int v2), .val (.int v5), .val (.int v8), .val (.int v12), .val (.int v14), .unset, .unset, .unset, .unset, .unset, .unset, .unset, .unset, .unset] [(.int v17)]) := by
      intro T18 G18
      refine o_istore G18 at_72 (pc' := 74) rfl (l' := #[.val (.int p0), .val (.int p1), .val (.int p2), .val (.int v2), .val (.int v5), .val (.int v8), .val (.int v12), .val (.int v14), .val (.int v17), .unset, .unset, .unset, .unset, .unset, .unset, .unset, .unset]) rfl ?_
      refine o_iloadN G18 at_74 (pc' := 75) rfl rfl ?_
      refine o_iconst G18 at_75 (pc' := 76) rfl (v := (2 : Int32)) rfl ?_
      obtain ⟨v19, e19⟩ : ∃ z, p2 &&& (2 : Int32) = z := ⟨_, rfl⟩
      refine o_iand G18 at_76 (pc' := 77) rfl e19 ?_
      obtain ⟨v20, e20⟩ : ∃ z, (if v19 = (0 : Int32) then ((((p1.toUInt32 >>> ((8 : Int32) &&& 31).toUInt32).toInt32) &&& (255 : Int32)).toUInt32.toUInt16.toUInt32.toInt32) else v5) = z := ⟨_, rfl⟩
      have K21 : ∀ T', OG l Z x code maxLocals ret n0 p e room_1 (s.setVm vm0) m #[(.int p0), (.int p1), (.int p2)] below meth c T' h0 0 0 → OFin p e below (OW n0 s (fun v _ _ => v = some (.int 1)) 88 4480) T' (mkF m 94 #[.val (.int p0), .val (.int p1), .val (.int p2), .val (.int v2), .val (.int v5), .val (.int v8), .val (.int v12), .val (.int v14), .val (.int v17), .unset, .unset, .unset, .unset, .unset, .unset, .unset, .unset] [(.int v20)]) := by
        intro T21 G21
        refine o_istore G21 at_94 (pc' := 96) rfl (l' := #[.val (.int p0), .val (.int p1), .val (.int p2), .val (.int v2), .val (.int v5), .val (.int v8), .val (.int v12), .val (.int v14), .val (.int v17), .val (.int v20), .unset, .unset, .unset, .unset, .unset, .unset, .unset]) rfl ?_
        refine o_iloadN G21 at_96 (pc' := 97) rfl rfl ?_
        refine o_iconst G21 at_97 (pc' := 98) rfl (v := (4 : Int32)) rfl ?_
        obtain ⟨v22, e22⟩ : ∃ z, p2 &&& (4 : Int32) = z := ⟨_, rfl⟩
        refine o_iand G21 at_98 (pc' := 99) rfl e22 ?_
        obtain ⟨v23, e23⟩ : ∃ z, (if v22 = (0 : Int32) then (f_1 (((p1.toUInt32 >>> ((16 : Int32) &&& 31).toUInt32).toInt32) &&& (255 : Int32))) else v8) = z := ⟨_, rfl⟩
        have K24 : ∀ T', OG l Z x code maxLocals ret n0 p e room_1 (s.setVm vm0) m #[(.int p0), (.int p1), (.int p2)] below meth c T' h0 0 0 → OFin p e below (OW n0 s (fun v _ _ => v = some (.int 1)) 88 4480) T' (mkF m 118 #[.val (.int p0), .val (.int p1), .val (.int p2), .val (.int v2), .val (.int v5), .val (.int v8), .val (.int v12), .val (.int v14), .val (.int v17), .val (.int v20), .unset, .unset, .unset, .unset, .unset, .unset, .unset] [(.int v23)]) := by
          intro T24 G24
          refine o_istore G24 at_118 (pc' := 120) rfl (l' := #[.val (.int p0), .val (.int p1), .val (.int p2), .val (.int v2), .val (.int v5), .val (.int v8), .val (.int v12), .val (.int v14), .val (.int v17), .val (.int v20), .val (.int v23), .unset, .unset, .unset, .unset, .unset, .unset]) rfl ?_
          refine o_iloadN G24 at_120 (pc' := 121) rfl rfl ?_
          refine o_iconst G24 at_121 (pc' := 122) rfl (v := (4 : Int32)) rfl ?_
          obtain ⟨v25, e25⟩ : ∃ z, p2 &&& (4 : Int32) = z := ⟨_, rfl⟩
          refine o_iand G24 at_122 (pc' := 123) rfl e25 ?_
          obtain ⟨v26, e26⟩ : ∃ z, (if v25 = (0 : Int32) then (if (p2 &&& (32 : Int32)) = (0 : Int32) then (0 : Int32) else (1 : Int32)) else v14) = z := ⟨_, rfl⟩
          have K27 : ∀ T', OG l Z x code maxLocals ret n0 p e room_1 (s.setVm vm0) m #[(.int p0), (.int p1), (.int p2)] below meth c T' h0 0 0 → OFin p e below (OW n0 s (fun v _ _ => v = some (.int 1)) 88 4480) T' (mkF m 143 #[.val (.int p0), .val (.int p1), .val (.int p2), .val (.int v2), .val (.int v5), .val (.int v8), .val (.int v12), .val (.int v14), .val (.int v17), .val (.int v20), .val (.int v23), .unset, .unset, .unset, .unset, .unset, .unset] [(.int v26)]) := by
            intro T27 G27
            refine o_istore G27 at_143 (pc' := 145) rfl (l' := #[.val (.int p0), .val (.int p1), .val (.int p2), .val (.int v2), .val (.int v5), .val (.int v8), .val (.int v12), .val (.int v14), .val (.int v17), .val (.int v20), .val (.int v23), .val (.int v26), .unset, .unset, .unset, .unset, .unset]) rfl ?_
            refine o_iloadN G27 at_145 (pc' := 146) rfl rfl ?_
            refine o_bipush G27 at_146 (pc' := 148) rfl (v := (8 : Int32)) rfl ?_
            obtain ⟨v28, e28⟩ : ∃ z, p2 &&& (8 : Int32) = z := ⟨_, rfl⟩
            refine o_iand G27 at_148 (pc' := 149) rfl e28 ?_
            obtain ⟨v29, e29⟩ : ∃ z, (if v28 = (0 : Int32) then ((((p1.toUInt32 >>> ((24 : Int32) &&& 31).toUInt32).toInt32) &&& (255 : Int32)).toUInt32.toUInt16.toUInt32.toInt32) else v12) = z := ⟨_, rfl⟩
            have K30 : ∀ T', OG l Z x code maxLocals ret n0 p e room_1 (s.setVm vm0) m #[(.int p0), (.int p1), (.int p2)] below meth c T' h0 0 0 → OFin p e below (OW n0 s (fun v _ _ => v = some (.int 1)) 88 4480) T' (mkF m 166 #[.val (.int p0), .val (.int p1), .val (.int p2), .val (.int v2), .val (.int v5), .val (.int v8), .val (.int v12), .val (.int v14), .val (.int v17), .val (.int v20), .val (.int v23), .val (.int v26), .unset, .unset, .unset, .unset, .unset] [(.int v29)]) := by
              intro T30 G30
              refine o_istore G30 at_166 (pc' := 168) rfl (l' := #[.val (.int p0), .val (.int p1), .val (.int p2), .val (.int v2), .val (.int v5), .val (.int v8), .val (.int v12), .val (.int v14), .val (.int v17), .val (.int v20), .val (.int v23), .val (.int v26), .val (.int v29), .unset, .unset, .unset, .unset]) rfl ?_
              have R3 : 0 ≤ v2.toInt ∧ v2.toInt ≤ 255 := own_r1 e1 e2
              have R4 : 0 ≤ v5.toInt ∧ v5.toInt ≤ 255 := own_r1 e4 e5
              have R5 : 0 ≤ v8.toInt ∧ v8.toInt ≤ 255 := own_rs e7 e8
              have N5 : ¬ own_by v8 = own_by 47 := own_ns e7 e8
              have R6 : 0 ≤ v12.toInt ∧ v12.toInt ≤ 255 := own_r1 e11 e12
              have R8 : 0 ≤ v17.toInt ∧ v17.toInt ≤ 255 := by
                rw [← e17]; split
                · exact own_r1 rfl rfl
                · exact R3
              have R9 : 0 ≤ v20.toInt ∧ v20.toInt ≤ 255 := by
                rw [← e20]; split
                · exact own_r1 rfl rfl
                · exact R4
              have R10 : 0 ≤ v23.toInt ∧ v23.toInt ≤ 255 := by
                rw [← e23]; split
                · exact own_rs rfl rfl
                · exact R5
              have R12 : 0 ≤ v29.toInt ∧ v29.toInt ≤ 255 := by
                rw [← e29]; split
                · exact own_r1 rfl rfl
                · exact R6
              have N10 : ¬ own_by v23 = own_by 47 := by
                rw [← e23]; split
                · exact own_ns rfl rfl
                · exact N5
              have B7 : v14 = 0 ∨ v14 = 1 := by
                rw [← e14]; split
                · exact Or.inl rfl
                · exact Or.inr rfl
              have B11 : v26 = 0 ∨ v26 = 1 := by
                rw [← e26]; split
                · split
                  · exact Or.inl rfl
                  · exact Or.inr rfl
                · exact B7
              rcases B7 with q7 | q7 <;> rcases B11 with q11 | q11 <;> rw [q7, q11]
              · exact own_tail_00 hw p0 p1 p2 h0 n0 cs hcs S fm hfm SF ca ia SH SC A_ca hia v2 v5 v8 v12 v17 v20 v23 v29 R3 R4 R5 R6 R8 R9 R10 R12 N5 N10 T30 vm0 G30 SN H
              · exact own_tail_01 hw p0 p1 p2 h0 n0 cs hcs S fm hfm SF ca ia SH SC A_ca hia v2 v5 v8 v12 v17 v20 v23 v29 R3 R4 R5 R6 R8 R9 R10 R12 N5 N10 T30 vm0 G30 SN H
              · exact own_tail_10 hw p0 p1 p2 h0 n0 cs hcs S fm hfm SF ca ia SH SC A_ca hia v2 v5 v8 v12 v17 v20 v23 v29 R3 R4 R5 R6 R8 R9 R10 R12 N5 N10 T30 vm0 G30 SN H
              · exact own_tail_11 hw p0 p1 p2 h0 n0 cs hcs S fm hfm SF ca ia SH SC A_ca hia v2 v5 v8 v12 v17 v20 v23 v29 R3 R4 R5 R6 R8 R9 R10 R12 N5 N10 T30 vm0 G30 SN H
            refine o_if_eq G27 at_149 (by decide) (pcT := 157) (by decide) (pc' := 152) rfl (fun hc149 => ?_) (fun hc149 => ?_)
            · refine o_iloadN G27 at_157 (pc' := 158) rfl rfl ?_
              refine o_bipush G27 at_158 (pc' := 160) rfl (v := (24 : Int32)) rfl ?_
              obtain ⟨v31, e31⟩ : ∃ z, (p1.toUInt32 >>> ((24 : Int32) &&& 31).toUInt32).toInt32 = z := ⟨_, rfl⟩
              refine o_iushr G27 at_160 (pc' := 161) rfl e31 ?_
              refine o_sipush G27 at_161 (pc' := 164) rfl (v := (255 : Int32)) rfl ?_
              obtain ⟨v32, e32⟩ : ∃ z, v31 &&& (255 : Int32) = z := ⟨_, rfl⟩
              refine o_iand G27 at_164 (pc' := 165) rfl e32 ?_
              obtain ⟨v33, e33⟩ : ∃ z, v32.toUInt32.toUInt16.toUInt32.toInt32 = z := ⟨_, rfl⟩
              refine o_i2c G27 at_165 (pc' := 166) rfl e33 ?_
              subst e31 e32 e33
              rw [if_pos hc149] at e29
              subst e29
              exact K30 _ G27
            · refine o_iload G27 at_152 (pc' := 154) rfl rfl ?_
              refine o_goto G27 at_154 (by decide) (pc' := 166) rfl ?_
              rw [if_neg hc149] at e29
              subst e29
              exact K30 _ G27
          refine o_if_eq G24 at_123 (by decide) (pcT := 131) (by decide) (pc' := 126) rfl (fun hc123 => ?_) (fun hc123 => ?_)
          · refine o_iloadN G24 at_131 (pc' := 132) rfl rfl ?_
            refine o_bipush G24 at_132 (pc' := 134) rfl (v := (32 : Int32)) rfl ?_
            obtain ⟨v34, e34⟩ : ∃ z, p2 &&& (32 : Int32) = z := ⟨_, rfl⟩
            refine o_iand G24 at_134 (pc' := 135) rfl e34 ?_
            refine o_if_eq G24 at_135 (by decide) (pcT := 142) (by decide) (pc' := 138) rfl (fun hc135 => ?_) (fun hc135 => ?_)
            · refine o_iconst G24 at_142 (pc' := 143) rfl (v := (0 : Int32)) rfl ?_
              subst e34
              rw [if_pos hc123, if_pos hc135] at e26
              subst e26
              exact K27 _ G24
            · refine o_iconst G24 at_138 (pc' := 139) rfl (v := (1 : Int32)) rfl ?_
              refine o_goto G24 at_139 (by decide) (pc' := 143) rfl ?_
              subst e34
              rw [if_pos hc123, if_neg hc135] at e26
              subst e26
              exact K27 _ G24
          · refine o_iload G24 at_126 (pc' := 128) rfl rfl ?_
            refine o_goto G24 at_128 (by decide) (pc' := 143) rfl ?_
            rw [if_neg hc123] at e26
            subst e26
            exact K27 _ G24
        refine o_if_eq G21 at_99 (by decide) (pcT := 107) (by decide) (pc' := 102) rfl (fun hc99 => ?_) (fun hc99 => ?_)
        · refine o_iloadN G21 at_107 (pc' := 108) rfl rfl ?_
          refine o_bipush G21 at_108 (pc' := 110) rfl (v := (16 : Int32)) rfl ?_
          obtain ⟨v35, e35⟩ : ∃ z, (p1.toUInt32 >>> ((16 : Int32) &&& 31).toUInt32).toInt32 = z := ⟨_, rfl⟩
          refine o_iushr G21 at_110 (pc' := 111) rfl e35 ?_
          refine o_sipush G21 at_111 (pc' := 114) rfl (v := (255 : Int32)) rfl ?_
          obtain ⟨v36, e36⟩ : ∃ z, v35 &&& (255 : Int32) = z := ⟨_, rfl⟩
          refine o_iand G21 at_114 (pc' := 115) rfl e36 ?_
          obtain ⟨v37, e37⟩ : ∃ z, f_1 v36 = z := ⟨_, rfl⟩
          refine o_callP G21 (z := (⟨"com/example/ronda/ronda/engine/ApiVersionEqualsPinLaw", "svc", "(I)C"⟩ : MethodName)) (r := (.int v37)) (argsL := [(.int v36)]) (rest := []) (W := 0) (ow hw 0 rfl) (ow hw 1 rfl) at_115 (by decide) (ow hw 2 rfl) (ow hw 3 rfl) (by rw [← e37]; exact rm1 hw v36 h0 n0 G21.sz) (by decide) (by decide) rfl (lenOf pd_41 rfl) rfl (Nat.le_of_eq rfl) (pc' := 118) rfl (by decide) (by decide) ?_
          intro T38 G38
          subst e35 e36 e37
          rw [if_pos hc99] at e23
          subst e23
          exact K24 _ G38
        · refine o_iload G21 at_102 (pc' := 104) rfl rfl ?_
          refine o_goto G21 at_104 (by decide) (pc' := 118) rfl ?_
          rw [if_neg hc99] at e23
          subst e23
          exact K24 _ G21
      refine o_if_eq G18 at_77 (by decide) (pcT := 85) (by decide) (pc' := 80) rfl (fun hc77 => ?_) (fun hc77 => ?_)
      · refine o_iloadN G18 at_85 (pc' := 86) rfl rfl ?_
        refine o_bipush G18 at_86 (pc' := 88) rfl (v := (8 : Int32)) rfl ?_
        obtain ⟨v39, e39⟩ : ∃ z, (p1.toUInt32 >>> ((8 : Int32) &&& 31).toUInt32).toInt32 = z := ⟨_, rfl⟩
        refine o_iushr G18 at_88 (pc' := 89) rfl e39 ?_
        refine o_sipush G18 at_89 (pc' := 92) rfl (v := (255 : Int32)) rfl ?_
        obtain ⟨v40, e40⟩ : ∃ z, v39 &&& (255 : Int32) = z := ⟨_, rfl⟩
        refine o_iand G18 at_92 (pc' := 93) rfl e40 ?_
        obtain ⟨v41, e41⟩ : ∃ z, v40.toUInt32.toUInt16.toUInt32.toInt32 = z := ⟨_, rfl⟩
        refine o_i2c G18 at_93 (pc' := 94) rfl e41 ?_
        subst e39 e40 e41
        rw [if_pos hc77] at e20
        subst e20
        exact K21 _ G18
      · refine o_iload G18 at_80 (pc' := 82) rfl rfl ?_
        refine o_goto G18 at_82 (by decide) (pc' := 94) rfl ?_
        rw [if_neg hc77] at e20
        subst e20
        exact K21 _ G18
    refine o_if_eq G15 at_59 (by decide) (pcT := 66) (by decide) (pc' := 62) rfl (fun hc59 => ?_) (fun hc59 => ?_)
    · refine o_iloadN G15 at_66 (pc' := 67) rfl rfl ?_
      refine o_sipush G15 at_67 (pc' := 70) rfl (v := (255 : Int32)) rfl ?_
      obtain ⟨v42, e42⟩ : ∃ z, p1 &&& (255 : Int32) = z := ⟨_, rfl⟩
      refine o_iand G15 at_70 (pc' := 71) rfl e42 ?_
      obtain ⟨v43, e43⟩ : ∃ z, v42.toUInt32.toUInt16.toUInt32.toInt32 = z := ⟨_, rfl⟩
      refine o_i2c G15 at_71 (pc' := 72) rfl e43 ?_
      subst e42 e43
      rw [if_pos hc59] at e17
      subst e17
      exact K18 _ G15
    · refine o_iloadN G15 at_62 (pc' := 63) rfl rfl ?_
      refine o_goto G15 at_63 (by decide) (pc' := 72) rfl ?_
      rw [if_neg hc59] at e17
      subst e17
      exact K18 _ G15
  refine o_if_eq G9 at_46 (by decide) (pcT := 53) (by decide) (pc' := 49) rfl (fun hc46 => ?_) (fun hc46 => ?_)
  · refine o_iconst G9 at_53 (pc' := 54) rfl (v := (0 : Int32)) rfl ?_
    rw [if_pos hc46] at e14
    subst e14
    exact K15 _ G9
  · refine o_iconst G9 at_49 (pc' := 50) rfl (v := (1 : Int32)) rfl ?_
    refine o_goto G9 at_50 (by decide) (pc' := 54) rfl ?_
    rw [if_neg hc46] at e14
    subst e14
    exact K15 _ G9
theorem own_cache {s : State} {args : Array Value} {C n d K : String} {r : Cond} {ca : Addr} {cc : Cell} (ev : (Term.static C n d).eval args s none [] s = some (.ref ca)) (hat : s.arrayAt? ca = some cc) (hz : cc.slots.size = 256) (h : (Cond.all (Term.static C n d) (Cond.and (Cond.exactly (Term.elem (Term.static C n d) (Term.index 0)) K) r)).before args s = true) : ∃ ia : Nat → Addr, (∀ j, j < 256 → cc.slots[j]? = some (.ref (ia j))) ∧ ∀ j, j < 256 → Exa s s.heap (ia j) K := by
  have key : ∀ j, j < 256 → ∃ b, cc.slots[j]? = some (.ref b) ∧ Exa s s.heap b K := by
    intro j hj
    have hv := Cond.all_elim ev hat (Cond.before_iff.mp h) j (by rw [hz]; exact hj)
    obtain ⟨h1, -⟩ := and_e hv
    obtain ⟨b, c', cell, k, e1, e2, e3, e4, e5, rfl, e7⟩ := Cond.exactly_spec (beq_iff_eq.mpr h1 : (Cond.exactly (Term.elem (Term.static C n d) (Term.index 0)) K).holds args s none s [j] = true)
    refine ⟨b, ?_, cell, k, e3, e2, e4, e5, e7⟩
    obtain ⟨hnn, hback⟩ := IntBox.place_nonneg j hj
    have ev' : (Term.static C n d).eval args s none [j] s = some (.ref ca) := ev
    have q := elem_f (a := Term.index 0) ev' (j := j.toInt32) rfl hat hnn
    rw [e1, hback] at q
    exact q.symm
  refine ⟨fun j => if hj : j < 256 then (key j hj).choose else 0, fun j hj => ?_, fun j hj => ?_⟩
  · simp only [dif_pos hj]; exact (key j hj).choose_spec.1
  · simp only [dif_pos hj]; exact (key j hj).choose_spec.2
set_option maxRecDepth 65536 in
set_option maxHeartbeats 40000000 in
theorem comes_1 {Post : Tables → Env → Array Value → State → Outcome → State → Prop} (hpost : ∀ tb e args s v u, (limb_1_1.after args s (.returned v) u = true ∧ limb_1_2.after args s (.returned v) u = true ∧ True) → FramedW s (.returned v) u (Jvm.fieldLocs frame_1_writes args s ++ Jvm.arrayLocs frame_1_arrays args s ++ Jvm.staticLocs frame_1_statics s) 88 4480 → Post tb e args s (.returned v) u) :
    ArmFor flags0 classFile x code maxLocals ret World_1 tables_1 room_1 Calls_1 rest_1 Pre_1 Post := by
  intro l hfl _ _ p e ha hc hk s m args below hf hA hF happ hP
  obtain ⟨hcalls, hrest, hpre⟩ := hP
  obtain ⟨-, -, -, hnamed, -, -, -, hat⟩ := (Spec.applies_iff hf).mp happ
  obtain ⟨hg, hn⟩ := and_e (Cond.before_iff.mp (show (Jvm.Cond.and given_1 narrow_1).before args s = true from hpre))
  obtain ⟨g1, g2⟩ := and_e hg
  obtain ⟨g3, g4⟩ := and_e g2
  obtain ⟨g5, g6⟩ := and_e g4
  obtain ⟨w0, w1, w2, rfl⟩ : ∃ w0 w1 w2 : Value, args = #[w0, w1, w2] := by
    have hs : args.size = 3 := by simpa [Cond.value, given_1] using g1
    obtain ⟨L⟩ := args
    match L, hs with
    | [w0, w1, w2], _ => exact ⟨w0, w1, w2, rfl⟩
  have hw := fun d (hd : d ∈ tables_1) => atoms_spec (ws := Jvm.Cond.code x code maxLocals ret :: tables_1) hat d (List.mem_cons_of_mem _ hd)
  obtain ⟨i0, ei0⟩ := is_v g3
  obtain rfl : w0 = (.int i0) := Option.some.inj ei0
  obtain ⟨i1, ei1⟩ := is_v g5
  obtain rfl : w1 = (.int i1) := Option.some.inj ei1
  obtain ⟨i2, ei2⟩ := is_v g6
  obtain rfl : w2 = (.int i2) := Option.some.inj ei2
  obtain ⟨hsets, hown0⟩ := atoms_of _ (rest_1_c_eq ▸ (show rest_1_c.before _ s = true from hrest))
  obtain ⟨cs, ecs⟩ := is_v (Cond.before_iff.mp (hsets _ (List.mem_of_getElem? (i := 1) rfl)))
  have hcs : ¬ cs = 0 := by
    intro q
    subst q
    have a := not_v (Cond.before_iff.mp (hsets _ (List.mem_of_getElem? (i := 2) rfl)))
    rw [eq_i ecs (Term.int_eval 0) rfl] at a
    exact absurd a (by decide)
  have S : Sta s s.heap "java/lang/String" "COMPACT_STRINGS" "Z" (.int cs) := Sta.start ecs (Or.inl (hsets _ (List.mem_of_getElem? (i := 0) rfl)))
  obtain ⟨fm, efm, hfm⟩ := isR_v (Cond.before_iff.mp (hsets _ (List.mem_of_getElem? (i := 8) rfl)))
  have SF := Sta.start efm (Or.inl (hsets _ (List.mem_of_getElem? (i := 7) rfl)))
  have ehi := Cond.eq_int (hsets _ (List.mem_of_getElem? (i := 12) rfl)) (Term.int_eval 127)
  have SH := Sta.start ehi (Or.inl (hsets _ (List.mem_of_getElem? (i := 10) rfl)))
  obtain ⟨ca, eca⟩ := arr_v (Cond.before_iff.mp (hsets _ (List.mem_of_getElem? (i := 13) rfl)))
  have SC := Sta.start eca (Or.inr ⟨(ow hw 266 rfl), hsets _ (List.mem_of_getElem? (i := 11) rfl)⟩)
  obtain ⟨cc, AC⟩ := Arr.start eca (Cond.before_iff.mp (hsets _ (List.mem_of_getElem? (i := 13) rfl)))
  obtain ⟨hsz, hsize⟩ := IntBox.length_fwd (hsets _ (List.mem_of_getElem? (i := 15) rfl)) eca AC.1 AC.2.1 AC.2.2
  have h256 : cc.slots.size = 256 := by
    have q := len_toInt hsz
    rw [hsize] at q
    have e : (256 : Int32).toInt = 256 := rfl
    rw [e] at q
    omega
  obtain ⟨ia, hia1, hia⟩ := own_cache eca (IntBox.arrayAt_of AC.1 AC.2.1 AC.2.2) h256 (hsets _ (List.mem_of_getElem? (i := 16) rfl))
  have A_ca : OArr s s.heap ca (.object "java/lang/Integer") 256 (fun j => .ref (ia j)) := ⟨cc, AC, h256, hia1⟩
  have H0 : CHv s own_EL s.vm s.heap := CHv.start (own_EW hw) (fun q hq => by
    simp only [own_EL, List.mem_cons, List.not_mem_nil, or_false] at hq
    rcases hq with rfl | rfl
    · exact hcalls.1 ("com/example/ronda/ronda/engine/ApiVersion", 13) (List.mem_of_getElem? (i := 0) rfl)
    · exact hcalls.1 ("com/example/ronda/ronda/engine/ApiVersionEqualsPinLaw", 34) (List.mem_of_getElem? (i := 3) rfl)) (hsets _ (List.mem_of_getElem? (i := 2) rfl)) (ow hw 21 rfl) (ow hw 17 rfl)
  obtain ⟨n, o, h1, h2, h3, _, L, rfl, ⟨N, _, hv⟩, hq⟩ := rm0 (l := l) (Z := s) hw i0 i1 i2 s.heap s.heap.size (Nat.le_refl _) cs hcs S fm hfm SF ca ia SH SC A_ca hia tables_1 p e ha hc hk s m _ below hf ((Spec.applies_iff_loose hf).mp happ).1 ⟨rfl, State.Warmed39.refl s, rfl, H0⟩ trivial
  subst hv
  refine ⟨n, _, h1, h2, h3, hpost _ _ _ _ _ _ ⟨Cond.after_iff.mpr rfl, Cond.after_iff.mpr (eq_i res_at (Term.int_eval (1)) rfl), trivial⟩ ⟨hq.1, hq.2.1, hq.2.2.1, (hq.2.2.2.sift fun y hy => Or.inr (N y hy)).mono (by decide) (by decide)⟩⟩
theorem main_1_1 : Claimed_1_1 := comes_1 fun _ _ _ _ _ _ h hF => ⟨h.1, hF⟩
theorem main_1_2 : Claimed_1_2 := comes_1 fun _ _ _ _ _ _ h hF => ⟨h.2.1, hF⟩
end Jvm.Pilot.@@N@@
namespace Jvm.Pilot.@@N@@
open Jvm Jvm.ClassFile Sem Op Lib Jvm.Free Jvm.Stand Jvm.Pilot.@@N@@.Jvm.D
/-! MADE BY PROGRAM (witnessworld.py) out of the Statement's table words and the real class files: 31 classes; the members and pool entries that the words name. The judged class is class 1, her method 1. -/
namespace start1
open Jvm.ClassFile
def u (s : String) : CpInfo := .utf8 (stringToUtf16 s)
/-- a pool by its gaps: so many unusable entries, then the entry; so many at the end -/
def gap : Nat → List CpInfo → List CpInfo
  | 0, r => r
  | n + 1, r => .unusable :: gap n r
def poolList (es : List (Nat × CpInfo)) (last : Nat) : List CpInfo := es.foldr (fun e r => gap e.1 (e.2 :: r)) (gap last [])
def pool (es : List (Nat × CpInfo)) (last : Nat) : Array CpInfo := ⟨poolList es last⟩
def fileOf (pool : Array CpInfo) (this : Nat) (attrs : Array Attribute := #[]) (ms : Array MethodInfo := #[]) (fl : Nat := 33) (sup : Nat := 0) (ifs : Array Nat := #[]) (fds : Array FieldInfo := #[]) : ClassFile where
  minorVersion := 0
  majorVersion := 65
  constantPool := pool
  accessFlags := fl
  thisClass := this
  superClass := sup
  interfaces := ifs
  fields := fds
  methods := ms
  attributes := attrs
def plain (name : String) (sup : Option ClassId) : Class where
  name := name
  kind := .ordinary
  loader := none
  accessFlags := 33
  super := sup
  interfaces := #[]
  cf := none
  fields := #[]
  methods := #[]
  instanceTypes := #[]
  staticTypes := #[]
  resolved := #[]
  callSites := []
  init := .initialized
  statics := none
  mirror := none

def pool0 : Array CpInfo := pool [(5, u "<init>"), (0, u "()V"), (1, .class_ 10), (1, u "java/lang/Object")] 113

def k0c0 : Code := { maxStack := 0, maxLocals := 1, code := object_method_1_code, exceptionTable := #[], attributes := #[] }
def k0m0 : Method := { name := "<init>", desc := "()V", sig := { parameters := [], returnType := none }, accessFlags := 1, code := some k0c0 }
/-- java/lang/Object -/
def k0 : Class := { plain "java/lang/Object" none with
  accessFlags := 33
  interfaces := #[]
  cf := some (fileOf pool0 8 #[] #[{ accessFlags := 1, nameIndex := 5, descriptorIndex := 6, attributes := #[] }] 33 0 #[] #[])
  fields := #[]
  methods := #[k0m0]
  instanceTypes := #[]
  staticTypes := #[]
  resolved := Array.replicate 124 none
  statics := none }

def pool1 : Array CpInfo := pool [(2, .class_ 4), (1, u "java/lang/Object"), (0, u "<init>"), (0, u "()V"), (0, .methodref 8 9), (0, .class_ 10), (0, .nameAndType 11 12), (0, u "com/example/ronda/ronda/engine/ApiVersionEqualsPinLaw"), (0, u "svc"), (0, u "(I)C"), (0, .methodref 8 14), (0, .nameAndType 15 16), (0, u "make"), (0, u "(CCZCC)Lcom/example/ronda/ronda/engine/ApiVersion;"), (0, .methodref 18 19), (0, .class_ 20), (0, .nameAndType 21 22), (0, u "com/example/ronda/ronda/engine/ApiVersion"), (0, u "equals"), (0, u "(Ljava/lang/Object;)Z"), (0, .methodref 24 25), (0, .class_ 26), (0, .nameAndType 27 28), (0, u "java/lang/Integer"), (0, u "valueOf"), (0, u "(I)Ljava/lang/Integer;"), (0, .methodref 30 31), (0, .class_ 32), (0, .nameAndType 27 33), (0, u "java/lang/String"), (0, u "(C)Ljava/lang/String;"), (0, .string 35), (0, u ""), (0, .methodref 30 37), (0, .nameAndType 5 38), (0, u "([C)V"), (0, .methodref 18 40), (0, .nameAndType 5 41), (0, u "(Ljava/lang/String;Ljava/lang/String;Ljava/lang/String;Ljava/lang/String;)V"), (2, u "law"), (0, u "(III)Z")] 3

def k1m0 : Method := { name := "<init>", desc := "()V", sig := { parameters := [], returnType := none }, accessFlags := 1, code := none }
def k1c1 : Code := { maxStack := 5, maxLocals := 17, code := code, exceptionTable := #[], attributes := #[] }
def k1m1 : Method := { name := "law", desc := "(III)Z", sig := { parameters := [.int, .int, .int], returnType := some .boolean }, accessFlags := 9, code := some k1c1 }
def k1c2 : Code := { maxStack := 2, maxLocals := 1, code := method_3_code, exceptionTable := #[], attributes := #[] }
def k1m2 : Method := { name := "svc", desc := "(I)C", sig := { parameters := [.int], returnType := some .char }, accessFlags := 10, code := some k1c2 }
def k1c3 : Code := { maxStack := 6, maxLocals := 9, code := method_4_code, exceptionTable := #[], attributes := #[] }
def k1m3 : Method := { name := "make", desc := "(CCZCC)Lcom/example/ronda/ronda/engine/ApiVersion;", sig := { parameters := [.char, .char, .boolean, .char, .char], returnType := some (.object "com/example/ronda/ronda/engine/ApiVersion") }, accessFlags := 10, code := some k1c3 }
/-- com/example/ronda/ronda/engine/ApiVersionEqualsPinLaw -/
def k1 : Class := { plain "com/example/ronda/ronda/engine/ApiVersionEqualsPinLaw" (some 0) with
  accessFlags := 49
  interfaces := #[]
  cf := some (fileOf pool1 8 #[] #[{ accessFlags := 1, nameIndex := 5, descriptorIndex := 6, attributes := #[] }, { accessFlags := 9, nameIndex := 44, descriptorIndex := 45, attributes := #[] }, { accessFlags := 10, nameIndex := 11, descriptorIndex := 12, attributes := #[] }, { accessFlags := 10, nameIndex := 15, descriptorIndex := 16, attributes := #[] }] 49 2 #[] #[])
  fields := #[]
  methods := #[k1m0, k1m1, k1m2, k1m3]
  instanceTypes := #[]
  staticTypes := #[]
  resolved := Array.replicate 49 none
  statics := none }

def pool2 : Array CpInfo := pool [(1, .class_ 2), (0, u "java/io/Serializable"), (0, .class_ 4), (0, u "java/lang/Object")] 2

/-- java/io/Serializable -/
def k2 : Class := { plain "java/io/Serializable" (some 0) with
  accessFlags := 1537
  interfaces := #[]
  cf := some (fileOf pool2 1 #[] #[] 1537 3 #[] #[])
  fields := #[]
  methods := #[]
  instanceTypes := #[]
  staticTypes := #[]
  resolved := Array.replicate 7 none
  statics := none }

def pool3 : Array CpInfo := pool [(1, .class_ 2), (0, u "java/lang/Comparable"), (0, .class_ 4), (0, u "java/lang/Object")] 7

/-- java/lang/Comparable -/
def k3 : Class := { plain "java/lang/Comparable" (some 0) with
  accessFlags := 1537
  interfaces := #[]
  cf := some (fileOf pool3 1 #[] #[] 1537 3 #[] #[])
  fields := #[]
  methods := #[]
  instanceTypes := #[]
  staticTypes := #[]
  resolved := Array.replicate 12 none
  statics := none }

def pool4 : Array CpInfo := pool [(2, .class_ 4), (1, u "java/lang/CharSequence"), (42, .class_ 48), (0, u "java/lang/CharSequence$1CodePointIterator"), (10, .class_ 60), (0, u "java/lang/CharSequence$1CharIterator"), (5, .class_ 67), (0, u "java/lang/Object")] 63

/-- java/lang/CharSequence -/
def k4 : Class := { plain "java/lang/CharSequence" (some 0) with
  accessFlags := 1537
  interfaces := #[]
  cf := some (fileOf pool4 2 #[.nestMembers #[47, 59]] #[] 1537 66 #[] #[])
  fields := #[]
  methods := #[]
  instanceTypes := #[]
  staticTypes := #[]
  resolved := Array.replicate 131 none
  statics := none }

def pool5 : Array CpInfo := pool [(1, .class_ 2), (0, u "java/lang/constant/Constable"), (0, .class_ 4), (0, u "java/lang/Object")] 6

/-- java/lang/constant/Constable -/
def k5 : Class := { plain "java/lang/constant/Constable" (some 0) with
  accessFlags := 1537
  interfaces := #[]
  cf := some (fileOf pool5 1 #[] #[] 1537 3 #[] #[])
  fields := #[]
  methods := #[]
  instanceTypes := #[]
  staticTypes := #[]
  resolved := Array.replicate 11 none
  statics := none }

def pool6 : Array CpInfo := pool [(1, .class_ 2), (0, u "java/lang/constant/ConstantDesc"), (0, .class_ 4), (0, u "java/lang/Object")] 32

/-- java/lang/constant/ConstantDesc -/
def k6 : Class := { plain "java/lang/constant/ConstantDesc" (some 0) with
  accessFlags := 1537
  interfaces := #[]
  cf := some (fileOf pool6 1 #[] #[] 1537 3 #[] #[])
  fields := #[]
  methods := #[]
  instanceTypes := #[]
  staticTypes := #[]
  resolved := Array.replicate 37 none
  statics := none }

def pool7 : Array CpInfo := pool [(1, .methodref 2 3), (0, .class_ 4), (0, .nameAndType 5 6), (0, u "java/lang/Object"), (0, u "<init>"), (0, u "()V"), (2, .fieldref 10 11), (0, .class_ 12), (0, .nameAndType 13 14), (0, u "java/lang/String"), (0, u "value"), (0, u "[B"), (0, .fieldref 10 16), (0, .nameAndType 17 18), (0, u "coder"), (0, u "B"), (2, u "hash"), (0, u "I"), (2, u "hashIsZero"), (0, u "Z"), (0, .methodref 10 28), (0, .nameAndType 5 29), (0, u "([CIILjava/lang/Void;)V"), (8, .fieldref 10 39), (0, .nameAndType 40 26), (0, u "COMPACT_STRINGS"), (1, .class_ 44), (1, u "java/lang/StringUTF16"), (0, u "compress"), (1, .methodref 42 48), (0, .nameAndType 49 50), (0, u "coderFromArrayLen"), (0, u "([BI)B"), (2, u "toBytes"), (0, .methodref 55 56), (0, .class_ 57), (0, .nameAndType 58 59), (0, u "java/util/Arrays"), (0, u "copyOfRange"), (0, u "([BII)[B"), (47, .class_ 109), (1, u "java/lang/StringLatin1"), (32, u "()Z"), (34, .methodref 42 178), (0, .nameAndType 45 179), (0, u "([CII)[B"), (13, .class_ 195), (1, u "java/lang/System"), (13, .methodref 10 210), (0, .nameAndType 5 211), (0, u "([BB)V"), (0, .methodref 193 213), (0, .nameAndType 214 215), (0, u "arraycopy"), (0, u "(Ljava/lang/Object;ILjava/lang/Object;II)V"), (118, u "()I"), (0, .methodref 10 336), (0, .nameAndType 17 337), (0, u "()B"), (2, u "()[B"), (28, u "(C)Z"), (6, u "([BI[BII)I"), (112, .methodref 10 490), (0, .nameAndType 5 491), (0, u "(Ljava/lang/AbstractStringBuilder;Ljava/lang/Void;)V"), (0, .methodref 10 493), (0, .nameAndType 494 142), (0, u "isLatin1"), (10, .methodref 10 506), (0, .nameAndType 507 334), (0, u "length"), (5, u "checkFromToIndex"), (7, .methodref 10 522), (0, .nameAndType 523 524), (0, u "checkBoundsBeginEnd"), (0, u "(III)V"), (7, u "getBytes"), (8, .methodref 107 542), (0, .nameAndType 543 544), (0, u "equals"), (0, u "([B[B)Z"), (4, .methodref 550 506), (0, .class_ 551), (0, u "java/lang/AbstractStringBuilder"), (0, .methodref 550 553), (0, .nameAndType 554 340), (0, u "getValue"), (4, .class_ 561), (1, u "jdk/internal/util/ArraysSupport"), (0, u "mismatch"), (10, u "(Ljava/lang/Object;)Z"), (1, .class_ 576), (0, u "java/lang/CharSequence"), (22, u "CASE_INSENSITIVE_ORDER"), (0, u "Ljava/util/Comparator;"), (6, .methodref 559 608), (0, .nameAndType 562 376), (15, .methodref 10 625), (0, .nameAndType 626 627), (0, u "startsWith"), (0, u "(Ljava/lang/String;I)Z"), (53, .methodref 10 682), (0, .nameAndType 683 684), (0, u "substring"), (0, u "(II)Ljava/lang/String;"), (0, .methodref 107 686), (0, .nameAndType 687 688), (0, u "newString"), (0, u "([BII)Ljava/lang/String;"), (3, u "isEmpty"), (89, u "valueOf"), (0, u "(C)Ljava/lang/String;"), (37, u "([BIB)V"), (70, u "(I)Ljava/lang/String;"), (117, u "([C)V"), (4, .methodref 107 1016), (0, .nameAndType 1017 369), (0, u "canEncode"), (0, .methodref 107 1019), (0, .nameAndType 53 1020), (0, u "(C)[B"), (26, .methodref 550 493), (5, .fieldref 1054 1055), (0, .class_ 1056), (0, .nameAndType 1057 1058), (0, u "jdk/internal/util/Preconditions"), (0, u "SIOOBE_FORMATTER"), (0, u "Ljava/util/function/BiFunction;"), (3, .methodref 1054 1063), (0, .nameAndType 513 1064), (0, u "(IIILjava/util/function/BiFunction;)I"), (36, u "serialPersistentFields"), (0, u "[Ljava/io/ObjectStreamField;"), (0, .class_ 1104), (0, u "java/lang/String$CaseInsensitiveComparator"), (1, .class_ 1107), (0, u "java/io/Serializable"), (0, .class_ 1109), (0, u "java/lang/Comparable"), (0, .class_ 1111), (0, u "java/lang/constant/Constable"), (0, .class_ 1113), (0, u "java/lang/constant/ConstantDesc"), (2, u "serialVersionUID"), (0, u "J"), (3, u "REPL"), (0, u "C"), (2, u "LATIN1"), (1, u "UTF16"), (105, u "(Ljava/lang/StringBuilder;)V"), (23, u "(Ljava/lang/String;)Z"), (14, u "endsWith")] 178

def k7m0 : Method := { name := "<init>", desc := "()V", sig := { parameters := [], returnType := none }, accessFlags := 1, code := none }
def k7c1 : Code := { maxStack := 5, maxLocals := 2, code := jdk_42_method_3_code, exceptionTable := #[], attributes := #[] }
def k7m1 : Method := { name := "<init>", desc := "([C)V", sig := { parameters := [(.array .char)], returnType := none }, accessFlags := 1, code := some k7c1 }
def k7c2 : Code := { maxStack := 3, maxLocals := 2, code := jdk_42_method_53_code, exceptionTable := #[], attributes := #[] }
def k7m2 : Method := { name := "<init>", desc := "(Ljava/lang/StringBuilder;)V", sig := { parameters := [(.object "java/lang/StringBuilder")], returnType := none }, accessFlags := 1, code := some k7c2 }
def k7c3 : Code := { maxStack := 2, maxLocals := 1, code := jdk_42_method_54_code, exceptionTable := #[], attributes := #[] }
def k7m3 : Method := { name := "length", desc := "()I", sig := { parameters := [], returnType := some .int }, accessFlags := 1, code := some k7c3 }
def k7c4 : Code := { maxStack := 1, maxLocals := 1, code := jdk_42_method_55_code, exceptionTable := #[], attributes := #[] }
def k7m4 : Method := { name := "isEmpty", desc := "()Z", sig := { parameters := [], returnType := some .boolean }, accessFlags := 1, code := some k7c4 }
def k7c5 : Code := { maxStack := 2, maxLocals := 3, code := jdk_42_method_66_code, exceptionTable := #[], attributes := #[] }
def k7m5 : Method := { name := "equals", desc := "(Ljava/lang/Object;)Z", sig := { parameters := [(.object "java/lang/Object")], returnType := some .boolean }, accessFlags := 1, code := some k7c5 }
def k7c6 : Code := { maxStack := 5, maxLocals := 8, code := jdk_42_method_75_code, exceptionTable := #[], attributes := #[] }
def k7m6 : Method := { name := "startsWith", desc := "(Ljava/lang/String;I)Z", sig := { parameters := [(.object "java/lang/String"), .int], returnType := some .boolean }, accessFlags := 1, code := some k7c6 }
def k7c7 : Code := { maxStack := 3, maxLocals := 2, code := jdk_42_method_76_code, exceptionTable := #[], attributes := #[] }
def k7m7 : Method := { name := "startsWith", desc := "(Ljava/lang/String;)Z", sig := { parameters := [(.object "java/lang/String")], returnType := some .boolean }, accessFlags := 1, code := some k7c7 }
def k7c8 : Code := { maxStack := 4, maxLocals := 2, code := jdk_42_method_77_code, exceptionTable := #[], attributes := #[] }
def k7m8 : Method := { name := "endsWith", desc := "(Ljava/lang/String;)Z", sig := { parameters := [(.object "java/lang/String")], returnType := some .boolean }, accessFlags := 1, code := some k7c8 }
def k7c9 : Code := { maxStack := 3, maxLocals := 2, code := jdk_42_method_91_code, exceptionTable := #[], attributes := #[] }
def k7m9 : Method := { name := "substring", desc := "(I)Ljava/lang/String;", sig := { parameters := [.int], returnType := some (.object "java/lang/String") }, accessFlags := 1, code := some k7c9 }
def k7c10 : Code := { maxStack := 3, maxLocals := 5, code := jdk_42_method_92_code, exceptionTable := #[], attributes := #[] }
def k7m10 : Method := { name := "substring", desc := "(II)Ljava/lang/String;", sig := { parameters := [.int, .int], returnType := some (.object "java/lang/String") }, accessFlags := 1, code := some k7c10 }
def k7c11 : Code := { maxStack := 4, maxLocals := 1, code := jdk_42_method_139_code, exceptionTable := #[], attributes := #[] }
def k7m11 : Method := { name := "valueOf", desc := "(C)Ljava/lang/String;", sig := { parameters := [.char], returnType := some (.object "java/lang/String") }, accessFlags := 9, code := some k7c11 }
def k7c12 : Code := { maxStack := 5, maxLocals := 4, code := jdk_42_method_147_code, exceptionTable := #[], attributes := #[] }
def k7m12 : Method := { name := "getBytes", desc := "([BIB)V", sig := { parameters := [(.array .byte), .int, .byte], returnType := none }, accessFlags := 0, code := some k7c12 }
def k7c13 : Code := { maxStack := 4, maxLocals := 6, code := jdk_42_method_149_code, exceptionTable := #[], attributes := #[] }
def k7m13 : Method := { name := "<init>", desc := "([CIILjava/lang/Void;)V", sig := { parameters := [(.array .char), .int, .int, (.object "java/lang/Void")], returnType := none }, accessFlags := 2, code := some k7c13 }
def k7c14 : Code := { maxStack := 5, maxLocals := 5, code := jdk_42_method_150_code, exceptionTable := #[], attributes := #[] }
def k7m14 : Method := { name := "<init>", desc := "(Ljava/lang/AbstractStringBuilder;Ljava/lang/Void;)V", sig := { parameters := [(.object "java/lang/AbstractStringBuilder"), (.object "java/lang/Void")], returnType := none }, accessFlags := 0, code := some k7c14 }
def k7c15 : Code := { maxStack := 2, maxLocals := 3, code := jdk_42_method_151_code, exceptionTable := #[], attributes := #[] }
def k7m15 : Method := { name := "<init>", desc := "([BB)V", sig := { parameters := [(.array .byte), .byte], returnType := none }, accessFlags := 0, code := some k7c15 }
def k7c16 : Code := { maxStack := 1, maxLocals := 1, code := jdk_42_method_152_code, exceptionTable := #[], attributes := #[] }
def k7m16 : Method := { name := "coder", desc := "()B", sig := { parameters := [], returnType := some .byte }, accessFlags := 0, code := some k7c16 }
def k7c17 : Code := { maxStack := 1, maxLocals := 1, code := jdk_42_method_154_code, exceptionTable := #[], attributes := #[] }
def k7m17 : Method := { name := "isLatin1", desc := "()Z", sig := { parameters := [], returnType := some .boolean }, accessFlags := 0, code := some k7c17 }
def k7c18 : Code := { maxStack := 4, maxLocals := 3, code := jdk_42_method_158_code, exceptionTable := #[], attributes := #[] }
def k7m18 : Method := { name := "checkBoundsBeginEnd", desc := "(III)V", sig := { parameters := [.int, .int, .int], returnType := none }, accessFlags := 8, code := some k7c18 }
/-- java/lang/String -/
def k7 : Class := { plain "java/lang/String" (some 0) with
  accessFlags := 49
  interfaces := #[2, 3, 4, 5, 6]
  cf := some (fileOf pool7 10 #[.nestMembers #[1103]] #[{ accessFlags := 1, nameIndex := 5, descriptorIndex := 6, attributes := #[] }, { accessFlags := 1, nameIndex := 5, descriptorIndex := 1010, attributes := #[] }, { accessFlags := 1, nameIndex := 5, descriptorIndex := 1233, attributes := #[] }, { accessFlags := 1, nameIndex := 507, descriptorIndex := 334, attributes := #[] }, { accessFlags := 1, nameIndex := 692, descriptorIndex := 142, attributes := #[] }, { accessFlags := 1, nameIndex := 543, descriptorIndex := 573, attributes := #[] }, { accessFlags := 1, nameIndex := 626, descriptorIndex := 627, attributes := #[] }, { accessFlags := 1, nameIndex := 626, descriptorIndex := 1257, attributes := #[] }, { accessFlags := 1, nameIndex := 1272, descriptorIndex := 1257, attributes := #[] }, { accessFlags := 1, nameIndex := 683, descriptorIndex := 892, attributes := #[] }, { accessFlags := 1, nameIndex := 683, descriptorIndex := 684, attributes := #[] }, { accessFlags := 9, nameIndex := 782, descriptorIndex := 783, attributes := #[] }, { accessFlags := 0, nameIndex := 532, descriptorIndex := 821, attributes := #[] }, { accessFlags := 2, nameIndex := 5, descriptorIndex := 29, attributes := #[] }, { accessFlags := 0, nameIndex := 5, descriptorIndex := 491, attributes := #[] }, { accessFlags := 0, nameIndex := 5, descriptorIndex := 211, attributes := #[] }, { accessFlags := 0, nameIndex := 17, descriptorIndex := 337, attributes := #[] }, { accessFlags := 0, nameIndex := 494, descriptorIndex := 142, attributes := #[] }, { accessFlags := 8, nameIndex := 523, descriptorIndex := 524, attributes := #[] }] 49 2 #[1106, 1108, 575, 1110, 1112] #[{ accessFlags := 18, nameIndex := 13, descriptorIndex := 14, attributes := #[] }, { accessFlags := 18, nameIndex := 17, descriptorIndex := 18, attributes := #[] }, { accessFlags := 2, nameIndex := 21, descriptorIndex := 22, attributes := #[] }, { accessFlags := 2, nameIndex := 25, descriptorIndex := 26, attributes := #[] }, { accessFlags := 26, nameIndex := 1116, descriptorIndex := 1117, attributes := #[] }, { accessFlags := 24, nameIndex := 40, descriptorIndex := 26, attributes := #[] }, { accessFlags := 26, nameIndex := 1101, descriptorIndex := 1102, attributes := #[] }, { accessFlags := 26, nameIndex := 1121, descriptorIndex := 1122, attributes := #[] }, { accessFlags := 25, nameIndex := 599, descriptorIndex := 600, attributes := #[] }, { accessFlags := 24, nameIndex := 1125, descriptorIndex := 18, attributes := #[] }, { accessFlags := 24, nameIndex := 1127, descriptorIndex := 18, attributes := #[] }])
  fields := #[{ name := "value", type := (.array .byte), accessFlags := 18, slot := 0, constantValue := 0 }, { name := "coder", type := .byte, accessFlags := 18, slot := 1, constantValue := 0 }, { name := "hash", type := .int, accessFlags := 2, slot := 2, constantValue := 0 }, { name := "hashIsZero", type := .boolean, accessFlags := 2, slot := 3, constantValue := 0 }, { name := "serialVersionUID", type := .long, accessFlags := 26, slot := 0, constantValue := 0 }, { name := "COMPACT_STRINGS", type := .boolean, accessFlags := 24, slot := 1, constantValue := 0 }, { name := "serialPersistentFields", type := (.array (.object "java/io/ObjectStreamField")), accessFlags := 26, slot := 2, constantValue := 0 }, { name := "REPL", type := .char, accessFlags := 26, slot := 3, constantValue := 0 }, { name := "CASE_INSENSITIVE_ORDER", type := (.object "java/util/Comparator"), accessFlags := 25, slot := 4, constantValue := 0 }, { name := "LATIN1", type := .byte, accessFlags := 24, slot := 5, constantValue := 0 }, { name := "UTF16", type := .byte, accessFlags := 24, slot := 6, constantValue := 0 }]
  methods := #[k7m0, k7m1, k7m2, k7m3, k7m4, k7m5, k7m6, k7m7, k7m8, k7m9, k7m10, k7m11, k7m12, k7m13, k7m14, k7m15, k7m16, k7m17, k7m18]
  instanceTypes := #[(.array .byte), .byte, .int, .boolean]
  staticTypes := #[.long, .boolean, (.array (.object "java/io/ObjectStreamField")), .char, (.object "java/util/Comparator"), .byte, .byte]
  resolved := Array.replicate 1451 none
  statics := some 0 }

def pool8 : Array CpInfo := pool [(1, .class_ 2), (0, u "java/lang/String"), (1, .class_ 6), (1, u "java/lang/Object"), (0, u "<init>"), (0, u "()V"), (5, .class_ 16), (1, u "java/lang/StringLatin1"), (73, u "canEncode"), (14, u "(C)Z"), (6, .methodref 1 113), (0, .nameAndType 7 114), (0, u "([BB)V"), (6, u "$assertionsDisabled"), (0, u "Z"), (8, .class_ 133), (1, u "java/util/Arrays"), (62, u "newString"), (0, u "([BII)Ljava/lang/String;"), (23, .class_ 223), (1, u "java/lang/StringLatin1$LinesSpliterator"), (8, .methodref 131 233), (0, .nameAndType 234 235), (0, u "copyOfRange"), (0, u "([BII)[B"), (45, u "equals"), (0, u "([B[B)Z"), (97, u "toBytes"), (1, u "(C)[B"), (7, .class_ 391), (0, u "java/lang/StringLatin1$CharsSpliterator")] 3

def k8m0 : Method := { name := "<init>", desc := "()V", sig := { parameters := [], returnType := none }, accessFlags := 0, code := none }
def k8c1 : Code := { maxStack := 2, maxLocals := 1, code := jdk_43_method_3_code, exceptionTable := #[], attributes := #[] }
def k8m1 : Method := { name := "canEncode", desc := "(C)Z", sig := { parameters := [.char], returnType := some .boolean }, accessFlags := 9, code := some k8c1 }
def k8c2 : Code := { maxStack := 3, maxLocals := 3, code := jdk_43_method_13_code, exceptionTable := #[], attributes := #[] }
def k8m2 : Method := { name := "equals", desc := "([B[B)Z", sig := { parameters := [(.array .byte), (.array .byte)], returnType := some .boolean }, accessFlags := 9, code := some k8c2 }
def k8c3 : Code := { maxStack := 4, maxLocals := 1, code := jdk_43_method_46_code, exceptionTable := #[], attributes := #[] }
def k8m3 : Method := { name := "toBytes", desc := "(C)[B", sig := { parameters := [.char], returnType := some (.array .byte) }, accessFlags := 9, code := some k8c3 }
def k8c4 : Code := { maxStack := 6, maxLocals := 3, code := jdk_43_method_47_code, exceptionTable := #[], attributes := #[] }
def k8m4 : Method := { name := "newString", desc := "([BII)Ljava/lang/String;", sig := { parameters := [(.array .byte), .int, .int], returnType := some (.object "java/lang/String") }, accessFlags := 9, code := some k8c4 }
/-- java/lang/StringLatin1 -/
def k8 : Class := { plain "java/lang/StringLatin1" (some 0) with
  accessFlags := 48
  interfaces := #[]
  cf := some (fileOf pool8 14 #[.nestMembers #[390, 221]] #[{ accessFlags := 0, nameIndex := 7, descriptorIndex := 8, attributes := #[] }, { accessFlags := 9, nameIndex := 90, descriptorIndex := 105, attributes := #[] }, { accessFlags := 9, nameIndex := 281, descriptorIndex := 282, attributes := #[] }, { accessFlags := 9, nameIndex := 380, descriptorIndex := 382, attributes := #[] }, { accessFlags := 9, nameIndex := 196, descriptorIndex := 197, attributes := #[] }] 48 4 #[] #[{ accessFlags := 4120, nameIndex := 121, descriptorIndex := 122, attributes := #[] }])
  fields := #[{ name := "$assertionsDisabled", type := .boolean, accessFlags := 4120, slot := 0, constantValue := 0 }]
  methods := #[k8m0, k8m1, k8m2, k8m3, k8m4]
  instanceTypes := #[]
  staticTypes := #[.boolean]
  resolved := Array.replicate 395 none
  statics := none }

def pool9 : Array CpInfo := pool [(6, .class_ 8), (1, u "java/lang/Object"), (0, u "<init>"), (0, u "()V"), (1, .class_ 14), (1, u "java/lang/StringUTF16"), (31, u "$assertionsDisabled"), (0, u "Z"), (13, u "HI_BYTE_SHIFT"), (0, u "I"), (2, u "LO_BYTE_SHIFT"), (49, .methodref 12 116), (0, .nameAndType 117 118), (0, u "compress"), (0, u "([CI[BII)I"), (3, u "([CII)[B"), (138, u "coderFromArrayLen"), (0, u "([BI)B"), (106, .class_ 371), (1, u "java/lang/StringUTF16$LinesSpliterator"), (58, u "MAX_LENGTH"), (196, .class_ 628), (0, u "java/lang/StringUTF16$CodePointsSpliterator"), (0, .class_ 630), (0, u "java/lang/StringUTF16$CharsSpliterator")] 4

def k9m0 : Method := { name := "<init>", desc := "()V", sig := { parameters := [], returnType := none }, accessFlags := 0, code := none }
def k9c1 : Code := { maxStack := 2, maxLocals := 2, code := jdk_52_method_15_code, exceptionTable := #[], attributes := #[] }
def k9m1 : Method := { name := "coderFromArrayLen", desc := "([BI)B", sig := { parameters := [(.array .byte), .int], returnType := some .byte }, accessFlags := 8, code := some k9c1 }
def k9c2 : Code := { maxStack := 5, maxLocals := 6, code := jdk_52_method_16_code, exceptionTable := #[], attributes := #[] }
def k9m2 : Method := { name := "compress", desc := "([CII)[B", sig := { parameters := [(.array .char), .int, .int], returnType := some (.array .byte) }, accessFlags := 9, code := some k9c2 }
def k9c3 : Code := { maxStack := 3, maxLocals := 7, code := jdk_52_method_21_code, exceptionTable := #[], attributes := #[] }
def k9m3 : Method := { name := "compress", desc := "([CI[BII)I", sig := { parameters := [(.array .char), .int, (.array .byte), .int, .int], returnType := some .int }, accessFlags := 9, code := some k9c3 }
/-- java/lang/StringUTF16 -/
def k9 : Class := { plain "java/lang/StringUTF16" (some 0) with
  accessFlags := 48
  interfaces := #[]
  cf := some (fileOf pool9 12 #[.nestMembers #[627, 629, 369]] #[{ accessFlags := 0, nameIndex := 9, descriptorIndex := 10, attributes := #[] }, { accessFlags := 8, nameIndex := 261, descriptorIndex := 262, attributes := #[] }, { accessFlags := 9, nameIndex := 117, descriptorIndex := 122, attributes := #[] }, { accessFlags := 9, nameIndex := 117, descriptorIndex := 118, attributes := #[] }] 48 6 #[] #[{ accessFlags := 26, nameIndex := 61, descriptorIndex := 62, attributes := #[] }, { accessFlags := 26, nameIndex := 65, descriptorIndex := 62, attributes := #[] }, { accessFlags := 24, nameIndex := 430, descriptorIndex := 62, attributes := #[] }, { accessFlags := 4120, nameIndex := 46, descriptorIndex := 47, attributes := #[] }])
  fields := #[{ name := "HI_BYTE_SHIFT", type := .int, accessFlags := 26, slot := 0, constantValue := 0 }, { name := "LO_BYTE_SHIFT", type := .int, accessFlags := 26, slot := 1, constantValue := 0 }, { name := "MAX_LENGTH", type := .int, accessFlags := 24, slot := 2, constantValue := 0 }, { name := "$assertionsDisabled", type := .boolean, accessFlags := 4120, slot := 3, constantValue := 0 }]
  methods := #[k9m0, k9m1, k9m2, k9m3]
  instanceTypes := #[]
  staticTypes := #[.int, .int, .int, .boolean]
  resolved := Array.replicate 635 none
  statics := none }

def pool10 : Array CpInfo := pool [(1, .methodref 2 3), (0, .class_ 4), (0, .nameAndType 5 6), (0, u "java/lang/Object"), (0, u "<init>"), (0, u "()V"), (0, .methodref 8 9), (0, .class_ 10), (0, .nameAndType 11 12), (0, u "java/lang/String"), (0, u "isEmpty"), (0, u "()Z"), (0, .string 14), (0, u "/"), (0, .methodref 8 16), (0, .nameAndType 17 18), (0, u "startsWith"), (0, u "(Ljava/lang/String;)Z"), (0, .methodref 8 20), (0, .nameAndType 21 18), (0, u "endsWith"), (2, .class_ 25), (0, u "java/lang/StringBuilder"), (0, .methodref 24 3), (2, .methodref 24 30), (0, .nameAndType 31 32), (0, u "append"), (0, u "(Ljava/lang/String;)Ljava/lang/StringBuilder;"), (0, .methodref 24 34), (0, .nameAndType 35 36), (0, u "toString"), (0, u "()Ljava/lang/String;"), (3, .string 41), (0, u "name"), (0, .methodref 43 44), (0, .class_ 45), (0, .nameAndType 46 47), (0, u "java/util/Objects"), (0, u "requireNonNull"), (0, u "(Ljava/lang/Object;Ljava/lang/String;)Ljava/lang/Object;"), (0, .fieldref 49 50), (0, .class_ 51), (0, .nameAndType 41 52), (0, u "com/example/ronda/ronda/engine/ApiVersion"), (0, u "Ljava/lang/String;"), (0, .string 54), (0, u "version"), (0, .fieldref 49 56), (0, .nameAndType 54 52), (0, .fieldref 49 58), (0, .nameAndType 59 52), (0, u "servicePath"), (0, .fieldref 49 61), (0, .nameAndType 62 52), (0, u "stopPath"), (0, .methodref 49 64), (0, .nameAndType 65 66), (0, u "methodPath"), (0, u "(Ljava/lang/String;)Ljava/lang/String;"), (0, .methodref 8 68), (0, .nameAndType 69 70), (0, u "length"), (0, u "()I"), (6, .methodref 8 78), (0, .nameAndType 79 80), (0, u "substring"), (0, u "(I)Ljava/lang/String;"), (0, .methodref 8 82), (0, .nameAndType 83 84), (0, u "equals"), (0, u "(Ljava/lang/Object;)Z"), (4, u "(Ljava/lang/String;Ljava/lang/String;Ljava/lang/String;Ljava/lang/String;)V")] 6

def k10c0 : Code := { maxStack := 4, maxLocals := 5, code := prog_1_method_1_code, exceptionTable := #[], attributes := #[] }
def k10m0 : Method := { name := "<init>", desc := "(Ljava/lang/String;Ljava/lang/String;Ljava/lang/String;Ljava/lang/String;)V", sig := { parameters := [(.object "java/lang/String"), (.object "java/lang/String"), (.object "java/lang/String"), (.object "java/lang/String")], returnType := none }, accessFlags := 1, code := some k10c0 }
def k10c1 : Code := { maxStack := 4, maxLocals := 3, code := prog_1_method_6_code, exceptionTable := #[], attributes := #[] }
def k10m1 : Method := { name := "methodPath", desc := "(Ljava/lang/String;)Ljava/lang/String;", sig := { parameters := [(.object "java/lang/String")], returnType := some (.object "java/lang/String") }, accessFlags := 1, code := some k10c1 }
def k10c2 : Code := { maxStack := 2, maxLocals := 3, code := prog_1_method_7_code, exceptionTable := #[], attributes := #[] }
def k10m2 : Method := { name := "equals", desc := "(Ljava/lang/Object;)Z", sig := { parameters := [(.object "java/lang/Object")], returnType := some .boolean }, accessFlags := 1, code := some k10c2 }
/-- com/example/ronda/ronda/engine/ApiVersion -/
def k10 : Class := { plain "com/example/ronda/ronda/engine/ApiVersion" (some 0) with
  accessFlags := 49
  interfaces := #[]
  cf := some (fileOf pool10 49 #[] #[{ accessFlags := 1, nameIndex := 5, descriptorIndex := 89, attributes := #[] }, { accessFlags := 1, nameIndex := 65, descriptorIndex := 66, attributes := #[] }, { accessFlags := 1, nameIndex := 83, descriptorIndex := 84, attributes := #[] }] 49 2 #[] #[{ accessFlags := 18, nameIndex := 41, descriptorIndex := 52, attributes := #[] }, { accessFlags := 18, nameIndex := 54, descriptorIndex := 52, attributes := #[] }, { accessFlags := 18, nameIndex := 59, descriptorIndex := 52, attributes := #[] }, { accessFlags := 18, nameIndex := 62, descriptorIndex := 52, attributes := #[] }])
  fields := #[{ name := "name", type := (.object "java/lang/String"), accessFlags := 18, slot := 0, constantValue := 0 }, { name := "version", type := (.object "java/lang/String"), accessFlags := 18, slot := 1, constantValue := 0 }, { name := "servicePath", type := (.object "java/lang/String"), accessFlags := 18, slot := 2, constantValue := 0 }, { name := "stopPath", type := (.object "java/lang/String"), accessFlags := 18, slot := 3, constantValue := 0 }]
  methods := #[k10m0, k10m1, k10m2]
  instanceTypes := #[(.object "java/lang/String"), (.object "java/lang/String"), (.object "java/lang/String"), (.object "java/lang/String")]
  staticTypes := #[]
  resolved := Array.replicate 96 none
  statics := none }

def pool11 : Array CpInfo := pool [(9, u "<init>"), (6, .class_ 18), (1, u "java/lang/Object"), (0, u "()V"), (1, .class_ 23), (1, u "jdk/internal/util/ArraysSupport"), (0, u "LOG2_ARRAY_LONG_INDEX_SCALE"), (0, u "I"), (2, u "U"), (0, u "Ljdk/internal/misc/Unsafe;"), (8, u "BIG_ENDIAN"), (0, u "Z"), (8, u "LOG2_BYTE_BIT_SIZE"), (4, u "LOG2_ARRAY_INT_INDEX_SCALE"), (54, u "JLA"), (0, u "Ljdk/internal/access/JavaLangAccess;"), (11, u "LOG2_ARRAY_BOOLEAN_INDEX_SCALE"), (9, u "LOG2_ARRAY_BYTE_INDEX_SCALE"), (5, u "LOG2_ARRAY_CHAR_INDEX_SCALE"), (5, u "LOG2_ARRAY_SHORT_INDEX_SCALE"), (5, u "mismatch"), (12, u "LOG2_ARRAY_FLOAT_INDEX_SCALE"), (24, u "LOG2_ARRAY_DOUBLE_INDEX_SCALE"), (89, u "T_BOOLEAN"), (2, u "T_CHAR"), (1, u "T_FLOAT"), (1, u "T_DOUBLE"), (1, u "T_BYTE"), (1, u "T_SHORT"), (1, u "T_INT"), (1, u "T_LONG"), (1, u "SOFT_MAX_ARRAY_LENGTH"), (42, u "([BI[BII)I")] 40

def k11m0 : Method := { name := "<init>", desc := "()V", sig := { parameters := [], returnType := none }, accessFlags := 2, code := none }
def k11c1 : Code := { maxStack := 8, maxLocals := 8, code := jdk_48_method_14_code, exceptionTable := #[], attributes := #[] }
def k11m1 : Method := { name := "mismatch", desc := "([BI[BII)I", sig := { parameters := [(.array .byte), .int, (.array .byte), .int, .int], returnType := some .int }, accessFlags := 9, code := some k11c1 }
/-- jdk/internal/util/ArraysSupport -/
def k11 : Class := { plain "jdk/internal/util/ArraysSupport" (some 0) with
  accessFlags := 33
  interfaces := #[]
  cf := some (fileOf pool11 21 #[] #[{ accessFlags := 2, nameIndex := 9, descriptorIndex := 19, attributes := #[] }, { accessFlags := 9, nameIndex := 149, descriptorIndex := 337, attributes := #[] }] 33 16 #[] #[{ accessFlags := 24, nameIndex := 28, descriptorIndex := 29, attributes := #[] }, { accessFlags := 26, nameIndex := 38, descriptorIndex := 39, attributes := #[] }, { accessFlags := 25, nameIndex := 121, descriptorIndex := 25, attributes := #[] }, { accessFlags := 25, nameIndex := 131, descriptorIndex := 25, attributes := #[] }, { accessFlags := 25, nameIndex := 137, descriptorIndex := 25, attributes := #[] }, { accessFlags := 25, nameIndex := 143, descriptorIndex := 25, attributes := #[] }, { accessFlags := 25, nameIndex := 53, descriptorIndex := 25, attributes := #[] }, { accessFlags := 25, nameIndex := 24, descriptorIndex := 25, attributes := #[] }, { accessFlags := 25, nameIndex := 162, descriptorIndex := 25, attributes := #[] }, { accessFlags := 25, nameIndex := 187, descriptorIndex := 25, attributes := #[] }, { accessFlags := 26, nameIndex := 48, descriptorIndex := 25, attributes := #[] }, { accessFlags := 25, nameIndex := 277, descriptorIndex := 25, attributes := #[] }, { accessFlags := 25, nameIndex := 280, descriptorIndex := 25, attributes := #[] }, { accessFlags := 25, nameIndex := 282, descriptorIndex := 25, attributes := #[] }, { accessFlags := 25, nameIndex := 284, descriptorIndex := 25, attributes := #[] }, { accessFlags := 25, nameIndex := 286, descriptorIndex := 25, attributes := #[] }, { accessFlags := 25, nameIndex := 288, descriptorIndex := 25, attributes := #[] }, { accessFlags := 25, nameIndex := 290, descriptorIndex := 25, attributes := #[] }, { accessFlags := 25, nameIndex := 292, descriptorIndex := 25, attributes := #[] }, { accessFlags := 26, nameIndex := 108, descriptorIndex := 109, attributes := #[] }, { accessFlags := 25, nameIndex := 294, descriptorIndex := 25, attributes := #[] }])
  fields := #[{ name := "U", type := (.object "jdk/internal/misc/Unsafe"), accessFlags := 24, slot := 0, constantValue := 0 }, { name := "BIG_ENDIAN", type := .boolean, accessFlags := 26, slot := 1, constantValue := 0 }, { name := "LOG2_ARRAY_BOOLEAN_INDEX_SCALE", type := .int, accessFlags := 25, slot := 2, constantValue := 0 }, { name := "LOG2_ARRAY_BYTE_INDEX_SCALE", type := .int, accessFlags := 25, slot := 3, constantValue := 0 }, { name := "LOG2_ARRAY_CHAR_INDEX_SCALE", type := .int, accessFlags := 25, slot := 4, constantValue := 0 }, { name := "LOG2_ARRAY_SHORT_INDEX_SCALE", type := .int, accessFlags := 25, slot := 5, constantValue := 0 }, { name := "LOG2_ARRAY_INT_INDEX_SCALE", type := .int, accessFlags := 25, slot := 6, constantValue := 0 }, { name := "LOG2_ARRAY_LONG_INDEX_SCALE", type := .int, accessFlags := 25, slot := 7, constantValue := 0 }, { name := "LOG2_ARRAY_FLOAT_INDEX_SCALE", type := .int, accessFlags := 25, slot := 8, constantValue := 0 }, { name := "LOG2_ARRAY_DOUBLE_INDEX_SCALE", type := .int, accessFlags := 25, slot := 9, constantValue := 0 }, { name := "LOG2_BYTE_BIT_SIZE", type := .int, accessFlags := 26, slot := 10, constantValue := 0 }, { name := "T_BOOLEAN", type := .int, accessFlags := 25, slot := 11, constantValue := 0 }, { name := "T_CHAR", type := .int, accessFlags := 25, slot := 12, constantValue := 0 }, { name := "T_FLOAT", type := .int, accessFlags := 25, slot := 13, constantValue := 0 }, { name := "T_DOUBLE", type := .int, accessFlags := 25, slot := 14, constantValue := 0 }, { name := "T_BYTE", type := .int, accessFlags := 25, slot := 15, constantValue := 0 }, { name := "T_SHORT", type := .int, accessFlags := 25, slot := 16, constantValue := 0 }, { name := "T_INT", type := .int, accessFlags := 25, slot := 17, constantValue := 0 }, { name := "T_LONG", type := .int, accessFlags := 25, slot := 18, constantValue := 0 }, { name := "JLA", type := (.object "jdk/internal/access/JavaLangAccess"), accessFlags := 26, slot := 19, constantValue := 0 }, { name := "SOFT_MAX_ARRAY_LENGTH", type := .int, accessFlags := 25, slot := 20, constantValue := 0 }]
  methods := #[k11m0, k11m1]
  instanceTypes := #[]
  staticTypes := #[(.object "jdk/internal/misc/Unsafe"), .boolean, .int, .int, .int, .int, .int, .int, .int, .int, .int, .int, .int, .int, .int, .int, .int, .int, .int, (.object "jdk/internal/access/JavaLangAccess"), .int]
  resolved := Array.replicate 378 none
  statics := none }

def pool12 : Array CpInfo := pool [(2, .class_ 4), (1, u "java/lang/Object"), (0, u "<init>"), (0, u "()V"), (35, .class_ 44), (1, u "java/util/Objects"), (0, u "requireNonNull"), (48, u "(Ljava/lang/Object;Ljava/lang/String;)Ljava/lang/Object;")] 89

def k12m0 : Method := { name := "<init>", desc := "()V", sig := { parameters := [], returnType := none }, accessFlags := 2, code := none }
def k12c1 : Code := { maxStack := 3, maxLocals := 2, code := jdk_31_method_11_code, exceptionTable := #[], attributes := #[] }
def k12m1 : Method := { name := "requireNonNull", desc := "(Ljava/lang/Object;Ljava/lang/String;)Ljava/lang/Object;", sig := { parameters := [(.object "java/lang/Object"), (.object "java/lang/String")], returnType := some (.object "java/lang/Object") }, accessFlags := 9, code := some k12c1 }
/-- java/util/Objects -/
def k12 : Class := { plain "java/util/Objects" (some 0) with
  accessFlags := 49
  interfaces := #[]
  cf := some (fileOf pool12 42 #[] #[{ accessFlags := 2, nameIndex := 5, descriptorIndex := 6, attributes := #[] }, { accessFlags := 9, nameIndex := 45, descriptorIndex := 94, attributes := #[] }] 49 2 #[] #[])
  fields := #[]
  methods := #[k12m0, k12m1]
  instanceTypes := #[]
  staticTypes := #[]
  resolved := Array.replicate 184 none
  statics := none }

def pool13 : Array CpInfo := pool [(1, .class_ 2), (0, u "java/lang/Appendable"), (0, .class_ 4), (0, u "java/lang/Object")] 9

/-- java/lang/Appendable -/
def k13 : Class := { plain "java/lang/Appendable" (some 0) with
  accessFlags := 1537
  interfaces := #[]
  cf := some (fileOf pool13 1 #[] #[] 1537 3 #[] #[])
  fields := #[]
  methods := #[]
  instanceTypes := #[]
  staticTypes := #[]
  resolved := Array.replicate 14 none
  statics := none }

def pool14 : Array CpInfo := pool [(1, .class_ 2), (0, u "java/lang/String"), (0, .methodref 4 5), (0, .class_ 6), (0, .nameAndType 7 8), (0, u "java/lang/Object"), (0, u "<init>"), (0, u "()V"), (1, .class_ 12), (1, u "java/lang/AbstractStringBuilder"), (0, u "EMPTYVALUE"), (0, u "[B"), (0, .fieldref 10 16), (0, .nameAndType 17 14), (0, u "value"), (0, .fieldref 1 19), (0, .nameAndType 20 21), (0, u "COMPACT_STRINGS"), (0, u "Z"), (0, .fieldref 10 23), (0, .nameAndType 24 25), (0, u "coder"), (0, u "B"), (6, .methodref 1 33), (0, .nameAndType 34 35), (0, u "length"), (0, u "()I"), (4, .methodref 1 41), (0, .nameAndType 24 42), (0, u "()B"), (2, u "append"), (0, u "(Ljava/lang/String;)Ljava/lang/AbstractStringBuilder;"), (1, .class_ 49), (0, u "java/lang/CharSequence"), (19, u "(Ljava/lang/String;)V"), (5, u "maybeLatin1"), (3, .fieldref 10 80), (0, .nameAndType 81 82), (0, u "count"), (0, u "I"), (2, u "isLatin1"), (0, u "()Z"), (13, .methodref 10 101), (0, .nameAndType 102 103), (0, u "ensureCapacityInternal"), (0, u "(I)V"), (104, .methodref 10 209), (0, .nameAndType 210 211), (0, u "putStringAt"), (0, u "(ILjava/lang/String;)V"), (5, u "inflateIfNeededFor"), (2, .nameAndType 221 222), (0, u "getBytes"), (0, u "([BIB)V"), (174, .methodref 10 398), (0, .nameAndType 217 69), (0, .methodref 1 220), (3, u "()[B"), (40, .class_ 445), (0, u "java/lang/Appendable"), (106, u "getValue")] 56

def k14m0 : Method := { name := "<init>", desc := "()V", sig := { parameters := [], returnType := none }, accessFlags := 0, code := none }
def k14c1 : Code := { maxStack := 2, maxLocals := 2, code := jdk_68_method_2_code, exceptionTable := #[], attributes := #[] }
def k14m1 : Method := { name := "<init>", desc := "(I)V", sig := { parameters := [.int], returnType := none }, accessFlags := 0, code := some k14c1 }
def k14c2 : Code := { maxStack := 1, maxLocals := 1, code := jdk_68_method_6_code, exceptionTable := #[], attributes := #[] }
def k14m2 : Method := { name := "length", desc := "()I", sig := { parameters := [], returnType := some .int }, accessFlags := 1, code := some k14c2 }
def k14c3 : Code := { maxStack := 4, maxLocals := 3, code := jdk_68_method_9_code, exceptionTable := #[], attributes := #[] }
def k14m3 : Method := { name := "ensureCapacityInternal", desc := "(I)V", sig := { parameters := [.int], returnType := none }, accessFlags := 2, code := some k14c3 }
def k14c4 : Code := { maxStack := 3, maxLocals := 3, code := jdk_68_method_22_code, exceptionTable := #[], attributes := #[] }
def k14m4 : Method := { name := "append", desc := "(Ljava/lang/String;)Ljava/lang/AbstractStringBuilder;", sig := { parameters := [(.object "java/lang/String")], returnType := some (.object "java/lang/AbstractStringBuilder") }, accessFlags := 1, code := some k14c4 }
def k14c5 : Code := { maxStack := 1, maxLocals := 1, code := jdk_68_method_64_code, exceptionTable := #[], attributes := #[] }
def k14m5 : Method := { name := "getValue", desc := "()[B", sig := { parameters := [], returnType := some (.array .byte) }, accessFlags := 16, code := some k14c5 }
def k14c6 : Code := { maxStack := 1, maxLocals := 1, code := jdk_68_method_68_code, exceptionTable := #[], attributes := #[] }
def k14m6 : Method := { name := "isLatin1", desc := "()Z", sig := { parameters := [], returnType := some .boolean }, accessFlags := 16, code := some k14c6 }
def k14c7 : Code := { maxStack := 2, maxLocals := 2, code := jdk_68_method_71_code, exceptionTable := #[], attributes := #[] }
def k14m7 : Method := { name := "inflateIfNeededFor", desc := "(Ljava/lang/String;)V", sig := { parameters := [(.object "java/lang/String")], returnType := none }, accessFlags := 2, code := some k14c7 }
def k14c8 : Code := { maxStack := 4, maxLocals := 3, code := jdk_68_method_73_code, exceptionTable := #[], attributes := #[] }
def k14m8 : Method := { name := "putStringAt", desc := "(ILjava/lang/String;)V", sig := { parameters := [.int, (.object "java/lang/String")], returnType := none }, accessFlags := 2, code := some k14c8 }
/-- java/lang/AbstractStringBuilder -/
def k14 : Class := { plain "java/lang/AbstractStringBuilder" (some 0) with
  accessFlags := 1056
  interfaces := #[13, 4]
  cf := some (fileOf pool14 10 #[] #[{ accessFlags := 0, nameIndex := 7, descriptorIndex := 8, attributes := #[] }, { accessFlags := 0, nameIndex := 7, descriptorIndex := 103, attributes := #[] }, { accessFlags := 1, nameIndex := 34, descriptorIndex := 35, attributes := #[] }, { accessFlags := 2, nameIndex := 102, descriptorIndex := 103, attributes := #[] }, { accessFlags := 1, nameIndex := 45, descriptorIndex := 46, attributes := #[] }, { accessFlags := 16, nameIndex := 552, descriptorIndex := 403, attributes := #[] }, { accessFlags := 16, nameIndex := 85, descriptorIndex := 86, attributes := #[] }, { accessFlags := 2, nameIndex := 217, descriptorIndex := 69, attributes := #[] }, { accessFlags := 2, nameIndex := 210, descriptorIndex := 211, attributes := #[] }] 1056 4 #[444, 48] #[{ accessFlags := 0, nameIndex := 17, descriptorIndex := 14, attributes := #[] }, { accessFlags := 0, nameIndex := 24, descriptorIndex := 25, attributes := #[] }, { accessFlags := 0, nameIndex := 75, descriptorIndex := 21, attributes := #[] }, { accessFlags := 0, nameIndex := 81, descriptorIndex := 82, attributes := #[] }, { accessFlags := 26, nameIndex := 13, descriptorIndex := 14, attributes := #[] }])
  fields := #[{ name := "value", type := (.array .byte), accessFlags := 0, slot := 0, constantValue := 0 }, { name := "coder", type := .byte, accessFlags := 0, slot := 1, constantValue := 0 }, { name := "maybeLatin1", type := .boolean, accessFlags := 0, slot := 2, constantValue := 0 }, { name := "count", type := .int, accessFlags := 0, slot := 3, constantValue := 0 }, { name := "EMPTYVALUE", type := (.array .byte), accessFlags := 26, slot := 0, constantValue := 0 }]
  methods := #[k14m0, k14m1, k14m2, k14m3, k14m4, k14m5, k14m6, k14m7, k14m8]
  instanceTypes := #[(.array .byte), .byte, .boolean, .int]
  staticTypes := #[(.array .byte)]
  resolved := Array.replicate 609 none
  statics := none }

def pool15 : Array CpInfo := pool [(1, .methodref 2 3), (0, .class_ 4), (0, .nameAndType 5 6), (0, u "java/lang/AbstractStringBuilder"), (0, u "<init>"), (0, u "(I)V"), (11, .class_ 20), (1, u "java/lang/String"), (3, .class_ 26), (1, u "java/lang/StringBuilder"), (0, u "append"), (0, u "(Ljava/lang/String;)Ljava/lang/StringBuilder;"), (0, .methodref 2 30), (0, .nameAndType 27 31), (0, u "(Ljava/lang/String;)Ljava/lang/AbstractStringBuilder;"), (105, .methodref 18 138), (0, .nameAndType 5 139), (0, u "(Ljava/lang/StringBuilder;)V"), (5, u "()V"), (10, u "()I"), (186, .methodref 2 344), (0, .nameAndType 345 156), (0, u "length"), (3, .class_ 350), (0, u "java/lang/Appendable"), (0, .class_ 352), (0, u "java/io/Serializable"), (0, .class_ 354), (0, u "java/lang/Comparable"), (0, .class_ 356), (0, u "java/lang/CharSequence"), (0, u "serialVersionUID"), (0, u "J"), (40, u "toString"), (0, u "()Ljava/lang/String;")] 21

def k15c0 : Code := { maxStack := 2, maxLocals := 1, code := jdk_67_method_1_code, exceptionTable := #[], attributes := #[] }
def k15m0 : Method := { name := "<init>", desc := "()V", sig := { parameters := [], returnType := none }, accessFlags := 1, code := some k15c0 }
def k15c1 : Code := { maxStack := 2, maxLocals := 2, code := jdk_67_method_7_code, exceptionTable := #[], attributes := #[] }
def k15m1 : Method := { name := "append", desc := "(Ljava/lang/String;)Ljava/lang/StringBuilder;", sig := { parameters := [(.object "java/lang/String")], returnType := some (.object "java/lang/StringBuilder") }, accessFlags := 1, code := some k15c1 }
def k15c2 : Code := { maxStack := 3, maxLocals := 1, code := jdk_67_method_42_code, exceptionTable := #[], attributes := #[] }
def k15m2 : Method := { name := "toString", desc := "()Ljava/lang/String;", sig := { parameters := [], returnType := some (.object "java/lang/String") }, accessFlags := 1, code := some k15c2 }
def k15c3 : Code := { maxStack := 1, maxLocals := 1, code := jdk_67_method_93_code, exceptionTable := #[], attributes := #[] }
def k15m3 : Method := { name := "length", desc := "()I", sig := { parameters := [], returnType := some .int }, accessFlags := 4161, code := some k15c3 }
/-- java/lang/StringBuilder -/
def k15 : Class := { plain "java/lang/StringBuilder" (some 14) with
  accessFlags := 49
  interfaces := #[13, 2, 3, 4]
  cf := some (fileOf pool15 24 #[] #[{ accessFlags := 1, nameIndex := 5, descriptorIndex := 145, attributes := #[] }, { accessFlags := 1, nameIndex := 27, descriptorIndex := 28, attributes := #[] }, { accessFlags := 1, nameIndex := 399, descriptorIndex := 400, attributes := #[] }, { accessFlags := 4161, nameIndex := 345, descriptorIndex := 156, attributes := #[] }] 49 2 #[349, 351, 353, 355] #[{ accessFlags := 24, nameIndex := 357, descriptorIndex := 358, attributes := #[] }])
  fields := #[{ name := "serialVersionUID", type := .long, accessFlags := 24, slot := 0, constantValue := 0 }]
  methods := #[k15m0, k15m1, k15m2, k15m3]
  instanceTypes := #[(.array .byte), .byte, .boolean, .int]
  staticTypes := #[.long]
  resolved := Array.replicate 422 none
  statics := none }

def pool16 : Array CpInfo := pool [(2, .class_ 4), (1, u "java/lang/Object"), (0, u "<init>"), (0, u "()V"), (1, .class_ 10), (1, u "java/lang/System"), (0, u "allowSecurityManager"), (0, u "I"), (16, u "cons"), (0, u "Ljava/io/Console;"), (77, .class_ 110), (1, u "java/lang/System$CallersHolder"), (43, u "initialErrStream"), (0, u "Ljava/io/PrintStream;"), (19, u "security"), (0, u "Ljava/lang/SecurityManager;"), (31, .class_ 209), (0, u "java/lang/System$1"), (7, u "props"), (0, u "Ljava/util/Properties;"), (2, u "lineSeparator"), (0, u "Ljava/lang/String;"), (96, .class_ 321), (1, u "java/lang/System$LoggerFinder"), (5, .class_ 328), (0, u "java/lang/System$Logger"), (67, u "err"), (2, u "out"), (91, u "notSupportedJnuEncoding"), (15, u "in"), (17, u "initialIn"), (0, u "Ljava/io/InputStream;"), (35, u "bootLayer"), (0, u "Ljava/lang/ModuleLayer;"), (99, .class_ 664), (0, u "java/lang/System$2"), (9, u "NEVER"), (2, u "MAYBE"), (49, u "arraycopy"), (0, u "(Ljava/lang/Object;ILjava/lang/Object;II)V"), (72, .class_ 802), (0, u "java/lang/System$Logger$Level")] 31

def k16m0 : Method := { name := "<init>", desc := "()V", sig := { parameters := [], returnType := none }, accessFlags := 2, code := none }
def k16m1 : Method := { name := "arraycopy", desc := "(Ljava/lang/Object;ILjava/lang/Object;II)V", sig := { parameters := [(.object "java/lang/Object"), .int, (.object "java/lang/Object"), .int, .int], returnType := none }, accessFlags := 265, code := none }
/-- java/lang/System -/
def k16 : Class := { plain "java/lang/System" (some 0) with
  accessFlags := 49
  interfaces := #[]
  cf := some (fileOf pool16 8 #[.nestMembers #[319, 327, 801, 108, 663, 208]] #[{ accessFlags := 2, nameIndex := 5, descriptorIndex := 6, attributes := #[] }, { accessFlags := 265, nameIndex := 727, descriptorIndex := 728, attributes := #[] }] 49 2 #[] #[{ accessFlags := 25, nameIndex := 507, descriptorIndex := 526, attributes := #[] }, { accessFlags := 25, nameIndex := 399, descriptorIndex := 155, attributes := #[] }, { accessFlags := 25, nameIndex := 396, descriptorIndex := 155, attributes := #[] }, { accessFlags := 10, nameIndex := 525, descriptorIndex := 526, attributes := #[] }, { accessFlags := 26, nameIndex := 674, descriptorIndex := 12, attributes := #[] }, { accessFlags := 26, nameIndex := 677, descriptorIndex := 12, attributes := #[] }, { accessFlags := 10, nameIndex := 11, descriptorIndex := 12, attributes := #[] }, { accessFlags := 74, nameIndex := 175, descriptorIndex := 176, attributes := #[] }, { accessFlags := 10, nameIndex := 491, descriptorIndex := 222, attributes := #[] }, { accessFlags := 74, nameIndex := 29, descriptorIndex := 30, attributes := #[] }, { accessFlags := 74, nameIndex := 154, descriptorIndex := 155, attributes := #[] }, { accessFlags := 10, nameIndex := 217, descriptorIndex := 218, attributes := #[] }, { accessFlags := 10, nameIndex := 221, descriptorIndex := 222, attributes := #[] }, { accessFlags := 8, nameIndex := 562, descriptorIndex := 563, attributes := #[] }])
  fields := #[{ name := "in", type := (.object "java/io/InputStream"), accessFlags := 25, slot := 0, constantValue := 0 }, { name := "out", type := (.object "java/io/PrintStream"), accessFlags := 25, slot := 1, constantValue := 0 }, { name := "err", type := (.object "java/io/PrintStream"), accessFlags := 25, slot := 2, constantValue := 0 }, { name := "initialIn", type := (.object "java/io/InputStream"), accessFlags := 10, slot := 3, constantValue := 0 }, { name := "NEVER", type := .int, accessFlags := 26, slot := 4, constantValue := 0 }, { name := "MAYBE", type := .int, accessFlags := 26, slot := 5, constantValue := 0 }, { name := "allowSecurityManager", type := .int, accessFlags := 10, slot := 6, constantValue := 0 }, { name := "security", type := (.object "java/lang/SecurityManager"), accessFlags := 74, slot := 7, constantValue := 0 }, { name := "notSupportedJnuEncoding", type := (.object "java/lang/String"), accessFlags := 10, slot := 8, constantValue := 0 }, { name := "cons", type := (.object "java/io/Console"), accessFlags := 74, slot := 9, constantValue := 0 }, { name := "initialErrStream", type := (.object "java/io/PrintStream"), accessFlags := 74, slot := 10, constantValue := 0 }, { name := "props", type := (.object "java/util/Properties"), accessFlags := 10, slot := 11, constantValue := 0 }, { name := "lineSeparator", type := (.object "java/lang/String"), accessFlags := 10, slot := 12, constantValue := 0 }, { name := "bootLayer", type := (.object "java/lang/ModuleLayer"), accessFlags := 8, slot := 13, constantValue := 0 }]
  methods := #[k16m0, k16m1]
  instanceTypes := #[]
  staticTypes := #[(.object "java/io/InputStream"), (.object "java/io/PrintStream"), (.object "java/io/PrintStream"), (.object "java/io/InputStream"), .int, .int, .int, (.object "java/lang/SecurityManager"), (.object "java/lang/String"), (.object "java/io/Console"), (.object "java/io/PrintStream"), (.object "java/util/Properties"), (.object "java/lang/String"), (.object "java/lang/ModuleLayer")]
  resolved := Array.replicate 834 none
  statics := none }

def pool17 : Array CpInfo := pool [(2, .class_ 4), (1, u "java/lang/Object"), (0, u "<init>"), (0, u "()V"), (7, .class_ 16), (1, u "java/util/Arrays"), (57, .class_ 76), (1, u "java/util/Arrays$NaturalOrder"), (36, .class_ 115), (1, u "java/util/Arrays$LegacyMergeSort"), (1, u "Z"), (21, u "copyOfRange"), (10, .methodref 151 152), (0, .class_ 153), (0, .nameAndType 154 155), (0, u "java/lang/System"), (0, u "arraycopy"), (0, u "(Ljava/lang/Object;ILjava/lang/Object;II)V"), (148, .methodref 305 306), (0, .class_ 307), (0, .nameAndType 308 309), (0, u "java/lang/Math"), (0, u "min"), (0, u "(II)I"), (29, .methodref 14 340), (0, .nameAndType 341 342), (0, u "copyOfRangeByte"), (0, u "([BII)[B"), (0, .methodref 14 344), (0, .nameAndType 345 346), (0, u "checkLength"), (0, u "(II)V"), (28, .class_ 376), (0, u "java/util/Arrays$ArrayList"), (68, u "$assertionsDisabled"), (269, u "MIN_ARRAY_SORT_GRAN"), (0, u "I"), (2, u "INSERTIONSORT_THRESHOLD"), (255, .class_ 976), (0, u "java/util/Arrays$ArrayItr")] 52

def k17m0 : Method := { name := "<init>", desc := "()V", sig := { parameters := [], returnType := none }, accessFlags := 2, code := none }
def k17c1 : Code := { maxStack := 4, maxLocals := 2, code := jdk_65_method_131_code, exceptionTable := #[], attributes := #[] }
def k17m1 : Method := { name := "checkLength", desc := "(II)V", sig := { parameters := [.int, .int], returnType := none }, accessFlags := 10, code := some k17c1 }
def k17c2 : Code := { maxStack := 3, maxLocals := 3, code := jdk_65_method_132_code, exceptionTable := #[], attributes := #[] }
def k17m2 : Method := { name := "copyOfRange", desc := "([BII)[B", sig := { parameters := [(.array .byte), .int, .int], returnType := some (.array .byte) }, accessFlags := 9, code := some k17c2 }
def k17c3 : Code := { maxStack := 6, maxLocals := 5, code := jdk_65_method_133_code, exceptionTable := #[], attributes := #[] }
def k17m3 : Method := { name := "copyOfRangeByte", desc := "([BII)[B", sig := { parameters := [(.array .byte), .int, .int], returnType := some (.array .byte) }, accessFlags := 10, code := some k17c3 }
/-- java/util/Arrays -/
def k17 : Class := { plain "java/util/Arrays" (some 0) with
  accessFlags := 49
  interfaces := #[]
  cf := some (fileOf pool17 14 #[.nestMembers #[975, 375, 113, 74]] #[{ accessFlags := 2, nameIndex := 5, descriptorIndex := 6, attributes := #[] }, { accessFlags := 10, nameIndex := 345, descriptorIndex := 346, attributes := #[] }, { accessFlags := 9, nameIndex := 139, descriptorIndex := 342, attributes := #[] }, { accessFlags := 10, nameIndex := 341, descriptorIndex := 342, attributes := #[] }] 49 2 #[] #[{ accessFlags := 26, nameIndex := 715, descriptorIndex := 716, attributes := #[] }, { accessFlags := 26, nameIndex := 719, descriptorIndex := 716, attributes := #[] }, { accessFlags := 4120, nameIndex := 445, descriptorIndex := 117, attributes := #[] }])
  fields := #[{ name := "MIN_ARRAY_SORT_GRAN", type := .int, accessFlags := 26, slot := 0, constantValue := 0 }, { name := "INSERTIONSORT_THRESHOLD", type := .int, accessFlags := 26, slot := 1, constantValue := 0 }, { name := "$assertionsDisabled", type := .boolean, accessFlags := 4120, slot := 2, constantValue := 0 }]
  methods := #[k17m0, k17m1, k17m2, k17m3]
  instanceTypes := #[]
  staticTypes := #[.int, .int, .boolean]
  resolved := Array.replicate 1029 none
  statics := none }

def pool18 : Array CpInfo := pool [(1, .class_ 2), (0, u "java/lang/Math"), (1, .class_ 6), (1, u "java/lang/Object"), (0, u "<init>"), (0, u "()V"), (89, .class_ 100), (1, u "java/lang/Math$RandomNumberGeneratorHolder"), (71, u "negativeZeroFloatBits"), (0, u "J"), (2, u "negativeZeroDoubleBits"), (24, u "min"), (43, u "$assertionsDisabled"), (0, u "Z"), (88, u "(II)I"), (2, u "twoToTheDoubleScaleDown"), (0, u "D"), (4, u "twoToTheDoubleScaleUp"), (9, u "E"), (3, u "PI"), (2, u "TAU"), (2, u "DEGREES_TO_RADIANS"), (0, u "RADIANS_TO_DEGREES")] 94

def k18m0 : Method := { name := "<init>", desc := "()V", sig := { parameters := [], returnType := none }, accessFlags := 2, code := none }
def k18c1 : Code := { maxStack := 2, maxLocals := 2, code := jdk_29_method_69_code, exceptionTable := #[], attributes := #[] }
def k18m1 : Method := { name := "min", desc := "(II)I", sig := { parameters := [.int, .int], returnType := some .int }, accessFlags := 9, code := some k18c1 }
/-- java/lang/Math -/
def k18 : Class := { plain "java/lang/Math" (some 0) with
  accessFlags := 49
  interfaces := #[]
  cf := some (fileOf pool18 1 #[.nestMembers #[98]] #[{ accessFlags := 2, nameIndex := 7, descriptorIndex := 8, attributes := #[] }, { accessFlags := 9, nameIndex := 201, descriptorIndex := 335, attributes := #[] }] 49 4 #[] #[{ accessFlags := 25, nameIndex := 354, descriptorIndex := 339, attributes := #[] }, { accessFlags := 25, nameIndex := 358, descriptorIndex := 339, attributes := #[] }, { accessFlags := 25, nameIndex := 361, descriptorIndex := 339, attributes := #[] }, { accessFlags := 26, nameIndex := 364, descriptorIndex := 339, attributes := #[] }, { accessFlags := 26, nameIndex := 365, descriptorIndex := 339, attributes := #[] }, { accessFlags := 26, nameIndex := 172, descriptorIndex := 173, attributes := #[] }, { accessFlags := 26, nameIndex := 176, descriptorIndex := 173, attributes := #[] }, { accessFlags := 8, nameIndex := 344, descriptorIndex := 339, attributes := #[] }, { accessFlags := 8, nameIndex := 338, descriptorIndex := 339, attributes := #[] }, { accessFlags := 4120, nameIndex := 245, descriptorIndex := 246, attributes := #[] }])
  fields := #[{ name := "E", type := .double, accessFlags := 25, slot := 0, constantValue := 0 }, { name := "PI", type := .double, accessFlags := 25, slot := 1, constantValue := 0 }, { name := "TAU", type := .double, accessFlags := 25, slot := 2, constantValue := 0 }, { name := "DEGREES_TO_RADIANS", type := .double, accessFlags := 26, slot := 3, constantValue := 0 }, { name := "RADIANS_TO_DEGREES", type := .double, accessFlags := 26, slot := 4, constantValue := 0 }, { name := "negativeZeroFloatBits", type := .long, accessFlags := 26, slot := 5, constantValue := 0 }, { name := "negativeZeroDoubleBits", type := .long, accessFlags := 26, slot := 6, constantValue := 0 }, { name := "twoToTheDoubleScaleUp", type := .double, accessFlags := 8, slot := 7, constantValue := 0 }, { name := "twoToTheDoubleScaleDown", type := .double, accessFlags := 8, slot := 8, constantValue := 0 }, { name := "$assertionsDisabled", type := .boolean, accessFlags := 4120, slot := 9, constantValue := 0 }]
  methods := #[k18m0, k18m1]
  instanceTypes := #[]
  staticTypes := #[.double, .double, .double, .double, .double, .long, .long, .double, .double, .boolean]
  resolved := Array.replicate 460 none
  statics := none }

def pool19 : Array CpInfo := pool [(2, .class_ 4), (1, u "java/lang/Object"), (0, u "<init>"), (0, u "()V"), (17, .class_ 26), (1, u "jdk/internal/util/Preconditions"), (20, u "checkFromToIndex"), (7, .class_ 56), (0, u "jdk/internal/util/Preconditions$4"), (57, .class_ 115), (0, u "jdk/internal/util/Preconditions$1"), (7, u "SIOOBE_FORMATTER"), (0, u "Ljava/util/function/BiFunction;"), (0, .class_ 126), (0, u "jdk/internal/util/Preconditions$2"), (3, u "AIOOBE_FORMATTER"), (0, .class_ 132), (0, u "jdk/internal/util/Preconditions$3"), (3, u "IOOBE_FORMATTER"), (46, u "(IIILjava/util/function/BiFunction;)I")] 10

def k19m0 : Method := { name := "<init>", desc := "()V", sig := { parameters := [], returnType := none }, accessFlags := 1, code := none }
def k19c1 : Code := { maxStack := 4, maxLocals := 4, code := jdk_41_method_12_code, exceptionTable := #[], attributes := #[] }
def k19m1 : Method := { name := "checkFromToIndex", desc := "(IIILjava/util/function/BiFunction;)I", sig := { parameters := [.int, .int, .int, (.object "java/util/function/BiFunction")], returnType := some .int }, accessFlags := 9, code := some k19c1 }
/-- jdk/internal/util/Preconditions -/
def k19 : Class := { plain "jdk/internal/util/Preconditions" (some 0) with
  accessFlags := 33
  interfaces := #[]
  cf := some (fileOf pool19 24 #[.nestMembers #[55, 131, 125, 114]] #[{ accessFlags := 1, nameIndex := 5, descriptorIndex := 6, attributes := #[] }, { accessFlags := 9, nameIndex := 47, descriptorIndex := 183, attributes := #[] }] 33 2 #[] #[{ accessFlags := 25, nameIndex := 123, descriptorIndex := 124, attributes := #[] }, { accessFlags := 25, nameIndex := 130, descriptorIndex := 124, attributes := #[] }, { accessFlags := 25, nameIndex := 136, descriptorIndex := 124, attributes := #[] }])
  fields := #[{ name := "SIOOBE_FORMATTER", type := (.object "java/util/function/BiFunction"), accessFlags := 25, slot := 0, constantValue := 0 }, { name := "AIOOBE_FORMATTER", type := (.object "java/util/function/BiFunction"), accessFlags := 25, slot := 1, constantValue := 0 }, { name := "IOOBE_FORMATTER", type := (.object "java/util/function/BiFunction"), accessFlags := 25, slot := 2, constantValue := 0 }]
  methods := #[k19m0, k19m1]
  instanceTypes := #[]
  staticTypes := #[(.object "java/util/function/BiFunction"), (.object "java/util/function/BiFunction"), (.object "java/util/function/BiFunction")]
  resolved := Array.replicate 194 none
  statics := some 1 }

def pool20 : Array CpInfo := pool [(1, .methodref 2 3), (0, .class_ 4), (0, .nameAndType 5 6), (0, u "java/lang/Object"), (0, u "<init>"), (0, u "()V"), (1, .class_ 10), (1, u "java/lang/Number"), (2, .class_ 14), (0, u "java/io/Serializable"), (0, u "serialVersionUID"), (0, u "J")] 20

def k20c0 : Code := { maxStack := 1, maxLocals := 1, code := jdk_18_method_1_code, exceptionTable := #[], attributes := #[] }
def k20m0 : Method := { name := "<init>", desc := "()V", sig := { parameters := [], returnType := none }, accessFlags := 1, code := some k20c0 }
/-- java/lang/Number -/
def k20 : Class := { plain "java/lang/Number" (some 0) with
  accessFlags := 1057
  interfaces := #[2]
  cf := some (fileOf pool20 8 #[] #[{ accessFlags := 1, nameIndex := 5, descriptorIndex := 6, attributes := #[] }] 1057 2 #[13] #[{ accessFlags := 26, nameIndex := 15, descriptorIndex := 16, attributes := #[] }])
  fields := #[{ name := "serialVersionUID", type := .long, accessFlags := 26, slot := 0, constantValue := 0 }]
  methods := #[k20m0]
  instanceTypes := #[]
  staticTypes := #[.long]
  resolved := Array.replicate 37 none
  statics := none }

def pool21 : Array CpInfo := pool [(1, .class_ 2), (0, u "java/lang/Integer"), (16, u "digits"), (0, u "[C"), (46, u "<init>"), (17, u "DigitOnes"), (0, u "[B"), (2, u "DigitTens"), (10, .nameAndType 67 101), (0, u "()V"), (85, u "valueOf"), (0, u "(I)Ljava/lang/Integer;"), (0, .class_ 190), (0, u "java/lang/Integer$IntegerCache"), (0, .fieldref 189 192), (0, .nameAndType 193 194), (0, u "high"), (0, u "I"), (0, .fieldref 189 196), (0, .nameAndType 197 198), (0, u "cache"), (0, u "[Ljava/lang/Integer;"), (0, .methodref 1 200), (0, .nameAndType 67 201), (0, u "(I)V"), (0, .methodref 203 100), (0, .class_ 204), (0, u "java/lang/Number"), (0, .fieldref 1 206), (0, .nameAndType 207 194), (0, u "value"), (94, u "TYPE"), (0, u "Ljava/lang/Class;"), (0, .class_ 305), (0, u "java/lang/Comparable"), (0, .class_ 307), (0, u "java/lang/constant/Constable"), (0, .class_ 309), (0, u "java/lang/constant/ConstantDesc"), (0, u "MIN_VALUE"), (1, u "MAX_VALUE"), (3, u "SIZE"), (1, u "BYTES"), (1, u "serialVersionUID"), (0, u "J")] 131

def k21c0 : Code := { maxStack := 3, maxLocals := 1, code := jdk_33_method_22_code, exceptionTable := #[], attributes := #[] }
def k21m0 : Method := { name := "valueOf", desc := "(I)Ljava/lang/Integer;", sig := { parameters := [.int], returnType := some (.object "java/lang/Integer") }, accessFlags := 9, code := some k21c0 }
def k21c1 : Code := { maxStack := 2, maxLocals := 2, code := jdk_33_method_23_code, exceptionTable := #[], attributes := #[] }
def k21m1 : Method := { name := "<init>", desc := "(I)V", sig := { parameters := [.int], returnType := none }, accessFlags := 1, code := some k21c1 }
/-- java/lang/Integer -/
def k21 : Class := { plain "java/lang/Integer" (some 20) with
  accessFlags := 49
  interfaces := #[3, 5, 6]
  cf := some (fileOf pool21 1 #[.nestMembers #[189]] #[{ accessFlags := 9, nameIndex := 187, descriptorIndex := 188, attributes := #[] }, { accessFlags := 1, nameIndex := 67, descriptorIndex := 201, attributes := #[] }] 49 203 #[304, 306, 308] #[{ accessFlags := 25, nameIndex := 310, descriptorIndex := 194, attributes := #[] }, { accessFlags := 25, nameIndex := 312, descriptorIndex := 194, attributes := #[] }, { accessFlags := 25, nameIndex := 302, descriptorIndex := 303, attributes := #[] }, { accessFlags := 24, nameIndex := 19, descriptorIndex := 20, attributes := #[] }, { accessFlags := 24, nameIndex := 89, descriptorIndex := 86, attributes := #[] }, { accessFlags := 24, nameIndex := 85, descriptorIndex := 86, attributes := #[] }, { accessFlags := 18, nameIndex := 207, descriptorIndex := 194, attributes := #[] }, { accessFlags := 25, nameIndex := 316, descriptorIndex := 194, attributes := #[] }, { accessFlags := 25, nameIndex := 318, descriptorIndex := 194, attributes := #[] }, { accessFlags := 26, nameIndex := 320, descriptorIndex := 321, attributes := #[] }])
  fields := #[{ name := "MIN_VALUE", type := .int, accessFlags := 25, slot := 0, constantValue := 0 }, { name := "MAX_VALUE", type := .int, accessFlags := 25, slot := 1, constantValue := 0 }, { name := "TYPE", type := (.object "java/lang/Class"), accessFlags := 25, slot := 2, constantValue := 0 }, { name := "digits", type := (.array .char), accessFlags := 24, slot := 3, constantValue := 0 }, { name := "DigitTens", type := (.array .byte), accessFlags := 24, slot := 4, constantValue := 0 }, { name := "DigitOnes", type := (.array .byte), accessFlags := 24, slot := 5, constantValue := 0 }, { name := "value", type := .int, accessFlags := 18, slot := 0, constantValue := 0 }, { name := "SIZE", type := .int, accessFlags := 25, slot := 6, constantValue := 0 }, { name := "BYTES", type := .int, accessFlags := 25, slot := 7, constantValue := 0 }, { name := "serialVersionUID", type := .long, accessFlags := 26, slot := 8, constantValue := 0 }]
  methods := #[k21m0, k21m1]
  instanceTypes := #[.int]
  staticTypes := #[.int, .int, (.object "java/lang/Class"), (.array .char), (.array .byte), (.array .byte), .int, .int, .long]
  resolved := Array.replicate 453 none
  statics := none }

def pool22 : Array CpInfo := pool [(2, .class_ 4), (1, u "java/lang/Object"), (0, u "<init>"), (0, u "()V"), (0, .class_ 8), (0, u "java/lang/Integer"), (7, .class_ 18), (1, u "java/lang/Integer$IntegerCache"), (0, u "$assertionsDisabled"), (0, u "Z"), (26, u "high"), (0, u "I"), (8, u "archivedCache"), (0, u "[Ljava/lang/Integer;"), (12, u "cache"), (0, u "low")] 27

def k22m0 : Method := { name := "<init>", desc := "()V", sig := { parameters := [], returnType := none }, accessFlags := 2, code := none }
/-- java/lang/Integer$IntegerCache -/
def k22 : Class := { plain "java/lang/Integer$IntegerCache" (some 0) with
  accessFlags := 48
  interfaces := #[]
  cf := some (fileOf pool22 16 #[.nestHost 7] #[{ accessFlags := 2, nameIndex := 5, descriptorIndex := 6, attributes := #[] }] 48 2 #[] #[{ accessFlags := 24, nameIndex := 72, descriptorIndex := 48, attributes := #[] }, { accessFlags := 24, nameIndex := 47, descriptorIndex := 48, attributes := #[] }, { accessFlags := 24, nameIndex := 71, descriptorIndex := 58, attributes := #[] }, { accessFlags := 8, nameIndex := 57, descriptorIndex := 58, attributes := #[] }, { accessFlags := 4120, nameIndex := 19, descriptorIndex := 20, attributes := #[] }])
  fields := #[{ name := "low", type := .int, accessFlags := 24, slot := 0, constantValue := 0 }, { name := "high", type := .int, accessFlags := 24, slot := 1, constantValue := 0 }, { name := "cache", type := (.array (.object "java/lang/Integer")), accessFlags := 24, slot := 2, constantValue := 0 }, { name := "archivedCache", type := (.array (.object "java/lang/Integer")), accessFlags := 8, slot := 3, constantValue := 0 }, { name := "$assertionsDisabled", type := .boolean, accessFlags := 4120, slot := 4, constantValue := 0 }]
  methods := #[k22m0]
  instanceTypes := #[]
  staticTypes := #[.int, .int, (.array (.object "java/lang/Integer")), (.array (.object "java/lang/Integer")), .boolean]
  resolved := Array.replicate 100 none
  statics := some 2 }

def pool23 : Array CpInfo := pool [(1, u "java/lang/Cloneable"), (0, .class_ 1), (0, u "java/lang/Object"), (0, .class_ 3)] 3

/-- java/lang/Cloneable -/
def k23 : Class := { plain "java/lang/Cloneable" (some 0) with
  accessFlags := 1537
  interfaces := #[]
  cf := some (fileOf pool23 2 #[] #[] 1537 4 #[] #[])
  fields := #[]
  methods := #[]
  instanceTypes := #[]
  staticTypes := #[]
  resolved := Array.replicate 8 none
  statics := none }

/-- the primitive byte -/
def k24 : Class := { plain "byte" none with kind := .primitive 'B', accessFlags := 0x411 }
/-- [B -/
def k25 : Class := { plain "[B" (some 0) with kind := .array 24 .byte, interfaces := #[23, 2], accessFlags := 1041 }

/-- the primitive char -/
def k26 : Class := { plain "char" none with kind := .primitive 'C', accessFlags := 0x411 }
/-- [C -/
def k27 : Class := { plain "[C" (some 0) with kind := .array 26 .char, interfaces := #[23, 2], accessFlags := 1041 }

/-- the primitive int -/
def k28 : Class := { plain "int" none with kind := .primitive 'I', accessFlags := 0x411 }
/-- [I -/
def k29 : Class := { plain "[I" (some 0) with kind := .array 28 .int, interfaces := #[23, 2], accessFlags := 1041 }

/-- [Ljava/lang/Integer; -/
def k30 : Class := { plain "[Ljava/lang/Integer;" (some 0) with kind := .array 21 (.object "java/lang/Integer"), interfaces := #[23, 2], accessFlags := 1041 }

def heap : Heap := #[{ cls := 7, slots := #[.long 0, .int 1, .null, .int 0, .null, .int 0, .int 0], vm := .statics 7 },
  { cls := 19, slots := #[.null, .null, .null], vm := .statics 19 },
  { cls := 22, slots := #[.int 0, .int 127, .ref 3, .null, .int 0], vm := .statics 22 },
  { cls := 30, slots := #[.ref 4, .ref 5, .ref 6, .ref 7, .ref 8, .ref 9, .ref 10, .ref 11, .ref 12, .ref 13, .ref 14, .ref 15, .ref 16, .ref 17, .ref 18, .ref 19, .ref 20, .ref 21, .ref 22, .ref 23, .ref 24, .ref 25, .ref 26, .ref 27, .ref 28, .ref 29, .ref 30, .ref 31, .ref 32, .ref 33, .ref 34, .ref 35, .ref 36, .ref 37, .ref 38, .ref 39, .ref 40, .ref 41, .ref 42, .ref 43, .ref 44, .ref 45, .ref 46, .ref 47, .ref 48, .ref 49, .ref 50, .ref 51, .ref 52, .ref 53, .ref 54, .ref 55, .ref 56, .ref 57, .ref 58, .ref 59, .ref 60, .ref 61, .ref 62, .ref 63, .ref 64, .ref 65, .ref 66, .ref 67, .ref 68, .ref 69, .ref 70, .ref 71, .ref 72, .ref 73, .ref 74, .ref 75, .ref 76, .ref 77, .ref 78, .ref 79, .ref 80, .ref 81, .ref 82, .ref 83, .ref 84, .ref 85, .ref 86, .ref 87, .ref 88, .ref 89, .ref 90, .ref 91, .ref 92, .ref 93, .ref 94, .ref 95, .ref 96, .ref 97, .ref 98, .ref 99, .ref 100, .ref 101, .ref 102, .ref 103, .ref 104, .ref 105, .ref 106, .ref 107, .ref 108, .ref 109, .ref 110, .ref 111, .ref 112, .ref 113, .ref 114, .ref 115, .ref 116, .ref 117, .ref 118, .ref 119, .ref 120, .ref 121, .ref 122, .ref 123, .ref 124, .ref 125, .ref 126, .ref 127, .ref 128, .ref 129, .ref 130, .ref 131, .ref 132, .ref 133, .ref 134, .ref 135, .ref 136, .ref 137, .ref 138, .ref 139, .ref 140, .ref 141, .ref 142, .ref 143, .ref 144, .ref 145, .ref 146, .ref 147, .ref 148, .ref 149, .ref 150, .ref 151, .ref 152, .ref 153, .ref 154, .ref 155, .ref 156, .ref 157, .ref 158, .ref 159, .ref 160, .ref 161, .ref 162, .ref 163, .ref 164, .ref 165, .ref 166, .ref 167, .ref 168, .ref 169, .ref 170, .ref 171, .ref 172, .ref 173, .ref 174, .ref 175, .ref 176, .ref 177, .ref 178, .ref 179, .ref 180, .ref 181, .ref 182, .ref 183, .ref 184, .ref 185, .ref 186, .ref 187, .ref 188, .ref 189, .ref 190, .ref 191, .ref 192, .ref 193, .ref 194, .ref 195, .ref 196, .ref 197, .ref 198, .ref 199, .ref 200, .ref 201, .ref 202, .ref 203, .ref 204, .ref 205, .ref 206, .ref 207, .ref 208, .ref 209, .ref 210, .ref 211, .ref 212, .ref 213, .ref 214, .ref 215, .ref 216, .ref 217, .ref 218, .ref 219, .ref 220, .ref 221, .ref 222, .ref 223, .ref 224, .ref 225, .ref 226, .ref 227, .ref 228, .ref 229, .ref 230, .ref 231, .ref 232, .ref 233, .ref 234, .ref 235, .ref 236, .ref 237, .ref 238, .ref 239, .ref 240, .ref 241, .ref 242, .ref 243, .ref 244, .ref 245, .ref 246, .ref 247, .ref 248, .ref 249, .ref 250, .ref 251, .ref 252, .ref 253, .ref 254, .ref 255, .ref 256, .ref 257, .ref 258, .ref 259], vm := .none },
  { cls := 21, slots := #[.int (-128)], vm := .none },
  { cls := 21, slots := #[.int (-127)], vm := .none },
  { cls := 21, slots := #[.int (-126)], vm := .none },
  { cls := 21, slots := #[.int (-125)], vm := .none },
  { cls := 21, slots := #[.int (-124)], vm := .none },
  { cls := 21, slots := #[.int (-123)], vm := .none },
  { cls := 21, slots := #[.int (-122)], vm := .none },
  { cls := 21, slots := #[.int (-121)], vm := .none },
  { cls := 21, slots := #[.int (-120)], vm := .none },
  { cls := 21, slots := #[.int (-119)], vm := .none },
  { cls := 21, slots := #[.int (-118)], vm := .none },
  { cls := 21, slots := #[.int (-117)], vm := .none },
  { cls := 21, slots := #[.int (-116)], vm := .none },
  { cls := 21, slots := #[.int (-115)], vm := .none },
  { cls := 21, slots := #[.int (-114)], vm := .none },
  { cls := 21, slots := #[.int (-113)], vm := .none },
  { cls := 21, slots := #[.int (-112)], vm := .none },
  { cls := 21, slots := #[.int (-111)], vm := .none },
  { cls := 21, slots := #[.int (-110)], vm := .none },
  { cls := 21, slots := #[.int (-109)], vm := .none },
  { cls := 21, slots := #[.int (-108)], vm := .none },
  { cls := 21, slots := #[.int (-107)], vm := .none },
  { cls := 21, slots := #[.int (-106)], vm := .none },
  { cls := 21, slots := #[.int (-105)], vm := .none },
  { cls := 21, slots := #[.int (-104)], vm := .none },
  { cls := 21, slots := #[.int (-103)], vm := .none },
  { cls := 21, slots := #[.int (-102)], vm := .none },
  { cls := 21, slots := #[.int (-101)], vm := .none },
  { cls := 21, slots := #[.int (-100)], vm := .none },
  { cls := 21, slots := #[.int (-99)], vm := .none },
  { cls := 21, slots := #[.int (-98)], vm := .none },
  { cls := 21, slots := #[.int (-97)], vm := .none },
  { cls := 21, slots := #[.int (-96)], vm := .none },
  { cls := 21, slots := #[.int (-95)], vm := .none },
  { cls := 21, slots := #[.int (-94)], vm := .none },
  { cls := 21, slots := #[.int (-93)], vm := .none },
  { cls := 21, slots := #[.int (-92)], vm := .none },
  { cls := 21, slots := #[.int (-91)], vm := .none },
  { cls := 21, slots := #[.int (-90)], vm := .none },
  { cls := 21, slots := #[.int (-89)], vm := .none },
  { cls := 21, slots := #[.int (-88)], vm := .none },
  { cls := 21, slots := #[.int (-87)], vm := .none },
  { cls := 21, slots := #[.int (-86)], vm := .none },
  { cls := 21, slots := #[.int (-85)], vm := .none },
  { cls := 21, slots := #[.int (-84)], vm := .none },
  { cls := 21, slots := #[.int (-83)], vm := .none },
  { cls := 21, slots := #[.int (-82)], vm := .none },
  { cls := 21, slots := #[.int (-81)], vm := .none },
  { cls := 21, slots := #[.int (-80)], vm := .none },
  { cls := 21, slots := #[.int (-79)], vm := .none },
  { cls := 21, slots := #[.int (-78)], vm := .none },
  { cls := 21, slots := #[.int (-77)], vm := .none },
  { cls := 21, slots := #[.int (-76)], vm := .none },
  { cls := 21, slots := #[.int (-75)], vm := .none },
  { cls := 21, slots := #[.int (-74)], vm := .none },
  { cls := 21, slots := #[.int (-73)], vm := .none },
  { cls := 21, slots := #[.int (-72)], vm := .none },
  { cls := 21, slots := #[.int (-71)], vm := .none },
  { cls := 21, slots := #[.int (-70)], vm := .none },
  { cls := 21, slots := #[.int (-69)], vm := .none },
  { cls := 21, slots := #[.int (-68)], vm := .none },
  { cls := 21, slots := #[.int (-67)], vm := .none },
  { cls := 21, slots := #[.int (-66)], vm := .none },
  { cls := 21, slots := #[.int (-65)], vm := .none },
  { cls := 21, slots := #[.int (-64)], vm := .none },
  { cls := 21, slots := #[.int (-63)], vm := .none },
  { cls := 21, slots := #[.int (-62)], vm := .none },
  { cls := 21, slots := #[.int (-61)], vm := .none },
  { cls := 21, slots := #[.int (-60)], vm := .none },
  { cls := 21, slots := #[.int (-59)], vm := .none },
  { cls := 21, slots := #[.int (-58)], vm := .none },
  { cls := 21, slots := #[.int (-57)], vm := .none },
  { cls := 21, slots := #[.int (-56)], vm := .none },
  { cls := 21, slots := #[.int (-55)], vm := .none },
  { cls := 21, slots := #[.int (-54)], vm := .none },
  { cls := 21, slots := #[.int (-53)], vm := .none },
  { cls := 21, slots := #[.int (-52)], vm := .none },
  { cls := 21, slots := #[.int (-51)], vm := .none },
  { cls := 21, slots := #[.int (-50)], vm := .none },
  { cls := 21, slots := #[.int (-49)], vm := .none },
  { cls := 21, slots := #[.int (-48)], vm := .none },
  { cls := 21, slots := #[.int (-47)], vm := .none },
  { cls := 21, slots := #[.int (-46)], vm := .none },
  { cls := 21, slots := #[.int (-45)], vm := .none },
  { cls := 21, slots := #[.int (-44)], vm := .none },
  { cls := 21, slots := #[.int (-43)], vm := .none },
  { cls := 21, slots := #[.int (-42)], vm := .none },
  { cls := 21, slots := #[.int (-41)], vm := .none },
  { cls := 21, slots := #[.int (-40)], vm := .none },
  { cls := 21, slots := #[.int (-39)], vm := .none },
  { cls := 21, slots := #[.int (-38)], vm := .none },
  { cls := 21, slots := #[.int (-37)], vm := .none },
  { cls := 21, slots := #[.int (-36)], vm := .none },
  { cls := 21, slots := #[.int (-35)], vm := .none },
  { cls := 21, slots := #[.int (-34)], vm := .none },
  { cls := 21, slots := #[.int (-33)], vm := .none },
  { cls := 21, slots := #[.int (-32)], vm := .none },
  { cls := 21, slots := #[.int (-31)], vm := .none },
  { cls := 21, slots := #[.int (-30)], vm := .none },
  { cls := 21, slots := #[.int (-29)], vm := .none },
  { cls := 21, slots := #[.int (-28)], vm := .none },
  { cls := 21, slots := #[.int (-27)], vm := .none },
  { cls := 21, slots := #[.int (-26)], vm := .none },
  { cls := 21, slots := #[.int (-25)], vm := .none },
  { cls := 21, slots := #[.int (-24)], vm := .none },
  { cls := 21, slots := #[.int (-23)], vm := .none },
  { cls := 21, slots := #[.int (-22)], vm := .none },
  { cls := 21, slots := #[.int (-21)], vm := .none },
  { cls := 21, slots := #[.int (-20)], vm := .none },
  { cls := 21, slots := #[.int (-19)], vm := .none },
  { cls := 21, slots := #[.int (-18)], vm := .none },
  { cls := 21, slots := #[.int (-17)], vm := .none },
  { cls := 21, slots := #[.int (-16)], vm := .none },
  { cls := 21, slots := #[.int (-15)], vm := .none },
  { cls := 21, slots := #[.int (-14)], vm := .none },
  { cls := 21, slots := #[.int (-13)], vm := .none },
  { cls := 21, slots := #[.int (-12)], vm := .none },
  { cls := 21, slots := #[.int (-11)], vm := .none },
  { cls := 21, slots := #[.int (-10)], vm := .none },
  { cls := 21, slots := #[.int (-9)], vm := .none },
  { cls := 21, slots := #[.int (-8)], vm := .none },
  { cls := 21, slots := #[.int (-7)], vm := .none },
  { cls := 21, slots := #[.int (-6)], vm := .none },
  { cls := 21, slots := #[.int (-5)], vm := .none },
  { cls := 21, slots := #[.int (-4)], vm := .none },
  { cls := 21, slots := #[.int (-3)], vm := .none },
  { cls := 21, slots := #[.int (-2)], vm := .none },
  { cls := 21, slots := #[.int (-1)], vm := .none },
  { cls := 21, slots := #[.int (0)], vm := .none },
  { cls := 21, slots := #[.int (1)], vm := .none },
  { cls := 21, slots := #[.int (2)], vm := .none },
  { cls := 21, slots := #[.int (3)], vm := .none },
  { cls := 21, slots := #[.int (4)], vm := .none },
  { cls := 21, slots := #[.int (5)], vm := .none },
  { cls := 21, slots := #[.int (6)], vm := .none },
  { cls := 21, slots := #[.int (7)], vm := .none },
  { cls := 21, slots := #[.int (8)], vm := .none },
  { cls := 21, slots := #[.int (9)], vm := .none },
  { cls := 21, slots := #[.int (10)], vm := .none },
  { cls := 21, slots := #[.int (11)], vm := .none },
  { cls := 21, slots := #[.int (12)], vm := .none },
  { cls := 21, slots := #[.int (13)], vm := .none },
  { cls := 21, slots := #[.int (14)], vm := .none },
  { cls := 21, slots := #[.int (15)], vm := .none },
  { cls := 21, slots := #[.int (16)], vm := .none },
  { cls := 21, slots := #[.int (17)], vm := .none },
  { cls := 21, slots := #[.int (18)], vm := .none },
  { cls := 21, slots := #[.int (19)], vm := .none },
  { cls := 21, slots := #[.int (20)], vm := .none },
  { cls := 21, slots := #[.int (21)], vm := .none },
  { cls := 21, slots := #[.int (22)], vm := .none },
  { cls := 21, slots := #[.int (23)], vm := .none },
  { cls := 21, slots := #[.int (24)], vm := .none },
  { cls := 21, slots := #[.int (25)], vm := .none },
  { cls := 21, slots := #[.int (26)], vm := .none },
  { cls := 21, slots := #[.int (27)], vm := .none },
  { cls := 21, slots := #[.int (28)], vm := .none },
  { cls := 21, slots := #[.int (29)], vm := .none },
  { cls := 21, slots := #[.int (30)], vm := .none },
  { cls := 21, slots := #[.int (31)], vm := .none },
  { cls := 21, slots := #[.int (32)], vm := .none },
  { cls := 21, slots := #[.int (33)], vm := .none },
  { cls := 21, slots := #[.int (34)], vm := .none },
  { cls := 21, slots := #[.int (35)], vm := .none },
  { cls := 21, slots := #[.int (36)], vm := .none },
  { cls := 21, slots := #[.int (37)], vm := .none },
  { cls := 21, slots := #[.int (38)], vm := .none },
  { cls := 21, slots := #[.int (39)], vm := .none },
  { cls := 21, slots := #[.int (40)], vm := .none },
  { cls := 21, slots := #[.int (41)], vm := .none },
  { cls := 21, slots := #[.int (42)], vm := .none },
  { cls := 21, slots := #[.int (43)], vm := .none },
  { cls := 21, slots := #[.int (44)], vm := .none },
  { cls := 21, slots := #[.int (45)], vm := .none },
  { cls := 21, slots := #[.int (46)], vm := .none },
  { cls := 21, slots := #[.int (47)], vm := .none },
  { cls := 21, slots := #[.int (48)], vm := .none },
  { cls := 21, slots := #[.int (49)], vm := .none },
  { cls := 21, slots := #[.int (50)], vm := .none },
  { cls := 21, slots := #[.int (51)], vm := .none },
  { cls := 21, slots := #[.int (52)], vm := .none },
  { cls := 21, slots := #[.int (53)], vm := .none },
  { cls := 21, slots := #[.int (54)], vm := .none },
  { cls := 21, slots := #[.int (55)], vm := .none },
  { cls := 21, slots := #[.int (56)], vm := .none },
  { cls := 21, slots := #[.int (57)], vm := .none },
  { cls := 21, slots := #[.int (58)], vm := .none },
  { cls := 21, slots := #[.int (59)], vm := .none },
  { cls := 21, slots := #[.int (60)], vm := .none },
  { cls := 21, slots := #[.int (61)], vm := .none },
  { cls := 21, slots := #[.int (62)], vm := .none },
  { cls := 21, slots := #[.int (63)], vm := .none },
  { cls := 21, slots := #[.int (64)], vm := .none },
  { cls := 21, slots := #[.int (65)], vm := .none },
  { cls := 21, slots := #[.int (66)], vm := .none },
  { cls := 21, slots := #[.int (67)], vm := .none },
  { cls := 21, slots := #[.int (68)], vm := .none },
  { cls := 21, slots := #[.int (69)], vm := .none },
  { cls := 21, slots := #[.int (70)], vm := .none },
  { cls := 21, slots := #[.int (71)], vm := .none },
  { cls := 21, slots := #[.int (72)], vm := .none },
  { cls := 21, slots := #[.int (73)], vm := .none },
  { cls := 21, slots := #[.int (74)], vm := .none },
  { cls := 21, slots := #[.int (75)], vm := .none },
  { cls := 21, slots := #[.int (76)], vm := .none },
  { cls := 21, slots := #[.int (77)], vm := .none },
  { cls := 21, slots := #[.int (78)], vm := .none },
  { cls := 21, slots := #[.int (79)], vm := .none },
  { cls := 21, slots := #[.int (80)], vm := .none },
  { cls := 21, slots := #[.int (81)], vm := .none },
  { cls := 21, slots := #[.int (82)], vm := .none },
  { cls := 21, slots := #[.int (83)], vm := .none },
  { cls := 21, slots := #[.int (84)], vm := .none },
  { cls := 21, slots := #[.int (85)], vm := .none },
  { cls := 21, slots := #[.int (86)], vm := .none },
  { cls := 21, slots := #[.int (87)], vm := .none },
  { cls := 21, slots := #[.int (88)], vm := .none },
  { cls := 21, slots := #[.int (89)], vm := .none },
  { cls := 21, slots := #[.int (90)], vm := .none },
  { cls := 21, slots := #[.int (91)], vm := .none },
  { cls := 21, slots := #[.int (92)], vm := .none },
  { cls := 21, slots := #[.int (93)], vm := .none },
  { cls := 21, slots := #[.int (94)], vm := .none },
  { cls := 21, slots := #[.int (95)], vm := .none },
  { cls := 21, slots := #[.int (96)], vm := .none },
  { cls := 21, slots := #[.int (97)], vm := .none },
  { cls := 21, slots := #[.int (98)], vm := .none },
  { cls := 21, slots := #[.int (99)], vm := .none },
  { cls := 21, slots := #[.int (100)], vm := .none },
  { cls := 21, slots := #[.int (101)], vm := .none },
  { cls := 21, slots := #[.int (102)], vm := .none },
  { cls := 21, slots := #[.int (103)], vm := .none },
  { cls := 21, slots := #[.int (104)], vm := .none },
  { cls := 21, slots := #[.int (105)], vm := .none },
  { cls := 21, slots := #[.int (106)], vm := .none },
  { cls := 21, slots := #[.int (107)], vm := .none },
  { cls := 21, slots := #[.int (108)], vm := .none },
  { cls := 21, slots := #[.int (109)], vm := .none },
  { cls := 21, slots := #[.int (110)], vm := .none },
  { cls := 21, slots := #[.int (111)], vm := .none },
  { cls := 21, slots := #[.int (112)], vm := .none },
  { cls := 21, slots := #[.int (113)], vm := .none },
  { cls := 21, slots := #[.int (114)], vm := .none },
  { cls := 21, slots := #[.int (115)], vm := .none },
  { cls := 21, slots := #[.int (116)], vm := .none },
  { cls := 21, slots := #[.int (117)], vm := .none },
  { cls := 21, slots := #[.int (118)], vm := .none },
  { cls := 21, slots := #[.int (119)], vm := .none },
  { cls := 21, slots := #[.int (120)], vm := .none },
  { cls := 21, slots := #[.int (121)], vm := .none },
  { cls := 21, slots := #[.int (122)], vm := .none },
  { cls := 21, slots := #[.int (123)], vm := .none },
  { cls := 21, slots := #[.int (124)], vm := .none },
  { cls := 21, slots := #[.int (125)], vm := .none },
  { cls := 21, slots := #[.int (126)], vm := .none },
  { cls := 21, slots := #[.int (127)], vm := .none }]
def classes : Array Class := #[k0, k1, k2, k3, k4, k5, k6, k7, k8, k9, k10, k11, k12, k13, k14, k15, k16, k17, k18, k19, k20, k21, k22, k23, k24, k25, k26, k27, k28, k29, k30]
def interned : List (Array UInt16 × Addr) := []
def slotsUsed : Nat := 527
def theMethod : MethodId := ⟨1, 1⟩
def args0 : Array Value := #[.int 5, .int 5, .int 5]
def aboutOver (below : List Frame) : State where
  vm := { classes := classes, interned := interned.toArray }
  heap := heap
  slotsUsed := slotsUsed
  threads := #[{ frames := .invoking theMethod args0 :: below }]
def below0 : List Frame := [.native { method := ⟨0, 0⟩, args := #[] }]
def about1 : State := aboutOver below0
def p0 : Program := .bare "" "" ""
def e0 : Env := launch0.env 0 0 0
theorem w_frames : about1.frames = Frame.invoking theMethod args0 :: below0 := rfl
set_option maxRecDepth 65536 in
theorem w_args : argsFit about1.vm theMethod args0 = true := by decide +kernel
set_option maxRecDepth 65536 in
theorem w_heap : heapFits about1 = true := by decide +kernel
set_option maxRecDepth 65536 in
theorem w_runnable : about1.curStatus? = some .runnable := by decide +kernel
set_option maxRecDepth 65536 in
theorem w_alone : about1.alone = true := by decide +kernel
set_option maxRecDepth 65536 in
theorem w_named : about1.methodNamed? x = some theMethod := by decide +kernel
set_option maxRecDepth 65536 in
theorem w_hears : about1.hears theMethod below0 = true := by decide +kernel
set_option maxRecDepth 65536 in
theorem w_ripe : about1.ripe theMethod args0 below0 = true := by decide +kernel
theorem w_running : about1.status = .running := rfl
set_option maxRecDepth 65536 in
theorem w_room : about1.hasRoom e0.platform room_1 = true :=
  launch0.hasRoom_least _ room_1 (by decide +kernel) (by decide +kernel) (by decide +kernel) (by decide +kernel) (by decide +kernel) (by decide +kernel)
theorem allAtoms_all (ts : List Jvm.Cond) (a : Array Jvm.Value) (st : Jvm.State) : (allAtoms ts).before a st = ts.all (fun c => c.before a st) := by
  induction ts with
  | nil => rfl
  | cons c t ih =>
    show (Jvm.Cond.and c (allAtoms t)).before a st = _
    rw [Jvm.Cond.before_and, ih, List.all_cons]
def words1 : List Jvm.Cond := Jvm.Cond.code x code maxLocals ret :: tables_1
/-- a 'code' word, met by the world's own term for the bytes: nothing is compared byte by byte -/
theorem code_word {y : MethodName} {bytes : ByteArray} {mx : Nat} {rt : Option FieldType} {a : Array Value} {s : State} {m : MethodId} {meth : Method} {c : Code} (h1 : s.methodNamed? y = some m) (h2 : s.vm.method? m = some meth) (h3 : meth.code = some c) (h4 : c.code = bytes)
    (h5 : (c.maxLocals == mx && c.exceptionTable.isEmpty && decide (c.maxStack ≤ mostOperands) && decide (meth.sig.returnType = rt) && !meth.locks && decide (parseMethodDescriptor y.desc = some meth.sig)) = true) : (Jvm.Cond.code y bytes mx rt).before a s = true := by
  simp only [Bool.and_eq_true, beq_iff_eq, Bool.not_eq_true', decide_eq_true_eq] at h5
  obtain ⟨⟨⟨⟨⟨g1, g2⟩, g3⟩, g4⟩, g5⟩, g6⟩ := h5
  simp [Cond.before, Cond.holds, Cond.value, h1, h2, h3, h4, g1, g2, g3, g4, g5, g6]
def isCode : Jvm.Cond → Bool
  | .code _ _ _ _ => true
  | _ => false
theorem all_split {L : List Jvm.Cond} {P : Jvm.Cond → Bool} (h1 : L.all (fun c => isCode c || P c) = true) (h2 : ∀ c ∈ L.filter isCode, P c = true) : L.all P = true := by
  refine List.all_eq_true.mpr fun c hc => ?_
  have h := List.all_eq_true.mp h1 c hc
  rcases Bool.eq_false_or_eq_true (isCode c) with hi | hi
  · exact h2 c (List.mem_filter.mpr ⟨hc, hi⟩)
  · simpa [hi] using h
set_option maxRecDepth 65536 in
theorem w_c0 : (Jvm.Cond.code x code maxLocals ret).before args0 about1 = true := code_word (m := ⟨1, 1⟩) (meth := k1m1) (c := k1c1) (by decide +kernel) rfl rfl rfl (by decide +kernel)
set_option maxRecDepth 65536 in
theorem w_c1 : (Jvm.Cond.code ({ cls := "com/example/ronda/ronda/engine/ApiVersionEqualsPinLaw", name := "svc", desc := "(I)C" } : Jvm.MethodName) method_3_code (1 : Nat) (Option.some Jvm.ClassFile.FieldType.char)).before args0 about1 = true := code_word (m := ⟨1, 2⟩) (meth := k1m2) (c := k1c2) (by decide +kernel) rfl rfl rfl (by decide +kernel)
set_option maxRecDepth 65536 in
theorem w_c2 : (Jvm.Cond.code ({ cls := "com/example/ronda/ronda/engine/ApiVersionEqualsPinLaw", name := "make", desc := "(CCZCC)Lcom/example/ronda/ronda/engine/ApiVersion;" } : Jvm.MethodName) method_4_code (9 : Nat) (Option.some (Jvm.ClassFile.FieldType.object "com/example/ronda/ronda/engine/ApiVersion"))).before args0 about1 = true := code_word (m := ⟨1, 3⟩) (meth := k1m3) (c := k1c3) (by decide +kernel) rfl rfl rfl (by decide +kernel)
set_option maxRecDepth 65536 in
theorem w_c3 : (Jvm.Cond.code ({ cls := "java/lang/String", name := "valueOf", desc := "(C)Ljava/lang/String;" } : Jvm.MethodName) jdk_42_method_139_code (1 : Nat) (Option.some (Jvm.ClassFile.FieldType.object "java/lang/String"))).before args0 about1 = true := code_word (m := ⟨7, 11⟩) (meth := k7m11) (c := k7c11) (by decide +kernel) rfl rfl rfl (by decide +kernel)
set_option maxRecDepth 65536 in
theorem w_c4 : (Jvm.Cond.code ({ cls := "java/lang/StringLatin1", name := "canEncode", desc := "(C)Z" } : Jvm.MethodName) jdk_43_method_3_code (1 : Nat) (Option.some Jvm.ClassFile.FieldType.boolean)).before args0 about1 = true := code_word (m := ⟨8, 1⟩) (meth := k8m1) (c := k8c1) (by decide +kernel) rfl rfl rfl (by decide +kernel)
set_option maxRecDepth 65536 in
theorem w_c5 : (Jvm.Cond.code ({ cls := "java/lang/StringLatin1", name := "toBytes", desc := "(C)[B" } : Jvm.MethodName) jdk_43_method_46_code (1 : Nat) (Option.some (Jvm.ClassFile.FieldType.array Jvm.ClassFile.FieldType.byte))).before args0 about1 = true := code_word (m := ⟨8, 3⟩) (meth := k8m3) (c := k8c3) (by decide +kernel) rfl rfl rfl (by decide +kernel)
set_option maxRecDepth 65536 in
theorem w_c6 : (Jvm.Cond.code ({ cls := "java/lang/String", name := "<init>", desc := "([BB)V" } : Jvm.MethodName) jdk_42_method_151_code (3 : Nat) (Option.none : Option Jvm.ClassFile.FieldType)).before args0 about1 = true := code_word (m := ⟨7, 15⟩) (meth := k7m15) (c := k7c15) (by decide +kernel) rfl rfl rfl (by decide +kernel)
set_option maxRecDepth 65536 in
theorem w_c7 : (Jvm.Cond.code ({ cls := "java/lang/Object", name := "<init>", desc := "()V" } : Jvm.MethodName) object_method_1_code (1 : Nat) (Option.none : Option Jvm.ClassFile.FieldType)).before args0 about1 = true := code_word (m := ⟨0, 0⟩) (meth := k0m0) (c := k0c0) (by decide +kernel) rfl rfl rfl (by decide +kernel)
set_option maxRecDepth 65536 in
theorem w_c8 : (Jvm.Cond.code ({ cls := "java/lang/String", name := "<init>", desc := "([C)V" } : Jvm.MethodName) jdk_42_method_3_code (2 : Nat) (Option.none : Option Jvm.ClassFile.FieldType)).before args0 about1 = true := code_word (m := ⟨7, 1⟩) (meth := k7m1) (c := k7c1) (by decide +kernel) rfl rfl rfl (by decide +kernel)
set_option maxRecDepth 65536 in
theorem w_c9 : (Jvm.Cond.code ({ cls := "java/lang/String", name := "<init>", desc := "([CIILjava/lang/Void;)V" } : Jvm.MethodName) jdk_42_method_149_code (6 : Nat) (Option.none : Option Jvm.ClassFile.FieldType)).before args0 about1 = true := code_word (m := ⟨7, 13⟩) (meth := k7m13) (c := k7c13) (by decide +kernel) rfl rfl rfl (by decide +kernel)
set_option maxRecDepth 65536 in
theorem w_c10 : (Jvm.Cond.code ({ cls := "java/lang/StringUTF16", name := "compress", desc := "([CII)[B" } : Jvm.MethodName) jdk_52_method_16_code (6 : Nat) (Option.some (Jvm.ClassFile.FieldType.array Jvm.ClassFile.FieldType.byte))).before args0 about1 = true := code_word (m := ⟨9, 2⟩) (meth := k9m2) (c := k9c2) (by decide +kernel) rfl rfl rfl (by decide +kernel)
set_option maxRecDepth 65536 in
theorem w_c11 : (Jvm.Cond.code ({ cls := "java/lang/StringUTF16", name := "compress", desc := "([CI[BII)I" } : Jvm.MethodName) jdk_52_method_21_code (7 : Nat) (Option.some Jvm.ClassFile.FieldType.int)).before args0 about1 = true := code_word (m := ⟨9, 3⟩) (meth := k9m3) (c := k9c3) (by decide +kernel) rfl rfl rfl (by decide +kernel)
set_option maxRecDepth 65536 in
theorem w_c12 : (Jvm.Cond.code ({ cls := "java/lang/StringUTF16", name := "coderFromArrayLen", desc := "([BI)B" } : Jvm.MethodName) jdk_52_method_15_code (2 : Nat) (Option.some Jvm.ClassFile.FieldType.byte)).before args0 about1 = true := code_word (m := ⟨9, 1⟩) (meth := k9m1) (c := k9c1) (by decide +kernel) rfl rfl rfl (by decide +kernel)
set_option maxRecDepth 65536 in
theorem w_c13 : (Jvm.Cond.code ({ cls := "com/example/ronda/ronda/engine/ApiVersion", name := "<init>", desc := "(Ljava/lang/String;Ljava/lang/String;Ljava/lang/String;Ljava/lang/String;)V" } : Jvm.MethodName) prog_1_method_1_code (5 : Nat) (Option.none : Option Jvm.ClassFile.FieldType)).before args0 about1 = true := code_word (m := ⟨10, 0⟩) (meth := k10m0) (c := k10c0) (by decide +kernel) rfl rfl rfl (by decide +kernel)
set_option maxRecDepth 65536 in
theorem w_c14 : (Jvm.Cond.code ({ cls := "java/lang/String", name := "isEmpty", desc := "()Z" } : Jvm.MethodName) jdk_42_method_55_code (1 : Nat) (Option.some Jvm.ClassFile.FieldType.boolean)).before args0 about1 = true := code_word (m := ⟨7, 4⟩) (meth := k7m4) (c := k7c4) (by decide +kernel) rfl rfl rfl (by decide +kernel)
set_option maxRecDepth 65536 in
theorem w_c15 : (Jvm.Cond.code ({ cls := "java/lang/String", name := "startsWith", desc := "(Ljava/lang/String;)Z" } : Jvm.MethodName) jdk_42_method_76_code (2 : Nat) (Option.some Jvm.ClassFile.FieldType.boolean)).before args0 about1 = true := code_word (m := ⟨7, 7⟩) (meth := k7m7) (c := k7c7) (by decide +kernel) rfl rfl rfl (by decide +kernel)
set_option maxRecDepth 65536 in
theorem w_c16 : (Jvm.Cond.code ({ cls := "java/lang/String", name := "startsWith", desc := "(Ljava/lang/String;I)Z" } : Jvm.MethodName) jdk_42_method_75_code (8 : Nat) (Option.some Jvm.ClassFile.FieldType.boolean)).before args0 about1 = true := code_word (m := ⟨7, 6⟩) (meth := k7m6) (c := k7c6) (by decide +kernel) rfl rfl rfl (by decide +kernel)
set_option maxRecDepth 65536 in
theorem w_c17 : (Jvm.Cond.code ({ cls := "java/lang/String", name := "length", desc := "()I" } : Jvm.MethodName) jdk_42_method_54_code (1 : Nat) (Option.some Jvm.ClassFile.FieldType.int)).before args0 about1 = true := code_word (m := ⟨7, 3⟩) (meth := k7m3) (c := k7c3) (by decide +kernel) rfl rfl rfl (by decide +kernel)
set_option maxRecDepth 65536 in
theorem w_c18 : (Jvm.Cond.code ({ cls := "java/lang/String", name := "coder", desc := "()B" } : Jvm.MethodName) jdk_42_method_152_code (1 : Nat) (Option.some Jvm.ClassFile.FieldType.byte)).before args0 about1 = true := code_word (m := ⟨7, 16⟩) (meth := k7m16) (c := k7c16) (by decide +kernel) rfl rfl rfl (by decide +kernel)
set_option maxRecDepth 65536 in
theorem w_c19 : (Jvm.Cond.code ({ cls := "jdk/internal/util/ArraysSupport", name := "mismatch", desc := "([BI[BII)I" } : Jvm.MethodName) jdk_48_method_14_code (8 : Nat) (Option.some Jvm.ClassFile.FieldType.int)).before args0 about1 = true := code_word (m := ⟨11, 1⟩) (meth := k11m1) (c := k11c1) (by decide +kernel) rfl rfl rfl (by decide +kernel)
set_option maxRecDepth 65536 in
theorem w_c20 : (Jvm.Cond.code ({ cls := "java/lang/String", name := "endsWith", desc := "(Ljava/lang/String;)Z" } : Jvm.MethodName) jdk_42_method_77_code (2 : Nat) (Option.some Jvm.ClassFile.FieldType.boolean)).before args0 about1 = true := code_word (m := ⟨7, 8⟩) (meth := k7m8) (c := k7c8) (by decide +kernel) rfl rfl rfl (by decide +kernel)
set_option maxRecDepth 65536 in
theorem w_c21 : (Jvm.Cond.code ({ cls := "java/util/Objects", name := "requireNonNull", desc := "(Ljava/lang/Object;Ljava/lang/String;)Ljava/lang/Object;" } : Jvm.MethodName) jdk_31_method_11_code (2 : Nat) (Option.some (Jvm.ClassFile.FieldType.object "java/lang/Object"))).before args0 about1 = true := code_word (m := ⟨12, 1⟩) (meth := k12m1) (c := k12c1) (by decide +kernel) rfl rfl rfl (by decide +kernel)
set_option maxRecDepth 65536 in
theorem w_c22 : (Jvm.Cond.code ({ cls := "com/example/ronda/ronda/engine/ApiVersion", name := "methodPath", desc := "(Ljava/lang/String;)Ljava/lang/String;" } : Jvm.MethodName) prog_1_method_6_code (3 : Nat) (Option.some (Jvm.ClassFile.FieldType.object "java/lang/String"))).before args0 about1 = true := code_word (m := ⟨10, 1⟩) (meth := k10m1) (c := k10c1) (by decide +kernel) rfl rfl rfl (by decide +kernel)
set_option maxRecDepth 65536 in
theorem w_c23 : (Jvm.Cond.code ({ cls := "java/lang/StringBuilder", name := "<init>", desc := "()V" } : Jvm.MethodName) jdk_67_method_1_code (1 : Nat) (Option.none : Option Jvm.ClassFile.FieldType)).before args0 about1 = true := code_word (m := ⟨15, 0⟩) (meth := k15m0) (c := k15c0) (by decide +kernel) rfl rfl rfl (by decide +kernel)
set_option maxRecDepth 65536 in
theorem w_c24 : (Jvm.Cond.code ({ cls := "java/lang/AbstractStringBuilder", name := "<init>", desc := "(I)V" } : Jvm.MethodName) jdk_68_method_2_code (2 : Nat) (Option.none : Option Jvm.ClassFile.FieldType)).before args0 about1 = true := code_word (m := ⟨14, 1⟩) (meth := k14m1) (c := k14c1) (by decide +kernel) rfl rfl rfl (by decide +kernel)
set_option maxRecDepth 65536 in
theorem w_c25 : (Jvm.Cond.code ({ cls := "java/lang/StringBuilder", name := "append", desc := "(Ljava/lang/String;)Ljava/lang/StringBuilder;" } : Jvm.MethodName) jdk_67_method_7_code (2 : Nat) (Option.some (Jvm.ClassFile.FieldType.object "java/lang/StringBuilder"))).before args0 about1 = true := code_word (m := ⟨15, 1⟩) (meth := k15m1) (c := k15c1) (by decide +kernel) rfl rfl rfl (by decide +kernel)
set_option maxRecDepth 65536 in
theorem w_c26 : (Jvm.Cond.code ({ cls := "java/lang/AbstractStringBuilder", name := "append", desc := "(Ljava/lang/String;)Ljava/lang/AbstractStringBuilder;" } : Jvm.MethodName) jdk_68_method_22_code (3 : Nat) (Option.some (Jvm.ClassFile.FieldType.object "java/lang/AbstractStringBuilder"))).before args0 about1 = true := code_word (m := ⟨14, 4⟩) (meth := k14m4) (c := k14c4) (by decide +kernel) rfl rfl rfl (by decide +kernel)
set_option maxRecDepth 65536 in
theorem w_c27 : (Jvm.Cond.code ({ cls := "java/lang/AbstractStringBuilder", name := "ensureCapacityInternal", desc := "(I)V" } : Jvm.MethodName) jdk_68_method_9_code (3 : Nat) (Option.none : Option Jvm.ClassFile.FieldType)).before args0 about1 = true := code_word (m := ⟨14, 3⟩) (meth := k14m3) (c := k14c3) (by decide +kernel) rfl rfl rfl (by decide +kernel)
set_option maxRecDepth 65536 in
theorem w_c28 : (Jvm.Cond.code ({ cls := "java/lang/AbstractStringBuilder", name := "putStringAt", desc := "(ILjava/lang/String;)V" } : Jvm.MethodName) jdk_68_method_73_code (3 : Nat) (Option.none : Option Jvm.ClassFile.FieldType)).before args0 about1 = true := code_word (m := ⟨14, 8⟩) (meth := k14m8) (c := k14c8) (by decide +kernel) rfl rfl rfl (by decide +kernel)
set_option maxRecDepth 65536 in
theorem w_c29 : (Jvm.Cond.code ({ cls := "java/lang/AbstractStringBuilder", name := "inflateIfNeededFor", desc := "(Ljava/lang/String;)V" } : Jvm.MethodName) jdk_68_method_71_code (2 : Nat) (Option.none : Option Jvm.ClassFile.FieldType)).before args0 about1 = true := code_word (m := ⟨14, 7⟩) (meth := k14m7) (c := k14c7) (by decide +kernel) rfl rfl rfl (by decide +kernel)
set_option maxRecDepth 65536 in
theorem w_c30 : (Jvm.Cond.code ({ cls := "java/lang/String", name := "getBytes", desc := "([BIB)V" } : Jvm.MethodName) jdk_42_method_147_code (4 : Nat) (Option.none : Option Jvm.ClassFile.FieldType)).before args0 about1 = true := code_word (m := ⟨7, 12⟩) (meth := k7m12) (c := k7c12) (by decide +kernel) rfl rfl rfl (by decide +kernel)
set_option maxRecDepth 65536 in
theorem w_c31 : (Jvm.Cond.code ({ cls := "java/lang/StringBuilder", name := "toString", desc := "()Ljava/lang/String;" } : Jvm.MethodName) jdk_67_method_42_code (1 : Nat) (Option.some (Jvm.ClassFile.FieldType.object "java/lang/String"))).before args0 about1 = true := code_word (m := ⟨15, 2⟩) (meth := k15m2) (c := k15c2) (by decide +kernel) rfl rfl rfl (by decide +kernel)
set_option maxRecDepth 65536 in
theorem w_c32 : (Jvm.Cond.code ({ cls := "java/lang/String", name := "<init>", desc := "(Ljava/lang/StringBuilder;)V" } : Jvm.MethodName) jdk_42_method_53_code (2 : Nat) (Option.none : Option Jvm.ClassFile.FieldType)).before args0 about1 = true := code_word (m := ⟨7, 2⟩) (meth := k7m2) (c := k7c2) (by decide +kernel) rfl rfl rfl (by decide +kernel)
set_option maxRecDepth 65536 in
theorem w_c33 : (Jvm.Cond.code ({ cls := "java/lang/String", name := "<init>", desc := "(Ljava/lang/AbstractStringBuilder;Ljava/lang/Void;)V" } : Jvm.MethodName) jdk_42_method_150_code (5 : Nat) (Option.none : Option Jvm.ClassFile.FieldType)).before args0 about1 = true := code_word (m := ⟨7, 14⟩) (meth := k7m14) (c := k7c14) (by decide +kernel) rfl rfl rfl (by decide +kernel)
set_option maxRecDepth 65536 in
theorem w_c34 : (Jvm.Cond.code ({ cls := "java/lang/AbstractStringBuilder", name := "getValue", desc := "()[B" } : Jvm.MethodName) jdk_68_method_64_code (1 : Nat) (Option.some (Jvm.ClassFile.FieldType.array Jvm.ClassFile.FieldType.byte))).before args0 about1 = true := code_word (m := ⟨14, 5⟩) (meth := k14m5) (c := k14c5) (by decide +kernel) rfl rfl rfl (by decide +kernel)
set_option maxRecDepth 65536 in
theorem w_c35 : (Jvm.Cond.code ({ cls := "java/lang/StringBuilder", name := "length", desc := "()I" } : Jvm.MethodName) jdk_67_method_93_code (1 : Nat) (Option.some Jvm.ClassFile.FieldType.int)).before args0 about1 = true := code_word (m := ⟨15, 3⟩) (meth := k15m3) (c := k15c3) (by decide +kernel) rfl rfl rfl (by decide +kernel)
set_option maxRecDepth 65536 in
theorem w_c36 : (Jvm.Cond.code ({ cls := "java/lang/AbstractStringBuilder", name := "length", desc := "()I" } : Jvm.MethodName) jdk_68_method_6_code (1 : Nat) (Option.some Jvm.ClassFile.FieldType.int)).before args0 about1 = true := code_word (m := ⟨14, 2⟩) (meth := k14m2) (c := k14c2) (by decide +kernel) rfl rfl rfl (by decide +kernel)
set_option maxRecDepth 65536 in
theorem w_c37 : (Jvm.Cond.code ({ cls := "java/lang/AbstractStringBuilder", name := "isLatin1", desc := "()Z" } : Jvm.MethodName) jdk_68_method_68_code (1 : Nat) (Option.some Jvm.ClassFile.FieldType.boolean)).before args0 about1 = true := code_word (m := ⟨14, 6⟩) (meth := k14m6) (c := k14c6) (by decide +kernel) rfl rfl rfl (by decide +kernel)
set_option maxRecDepth 65536 in
theorem w_c38 : (Jvm.Cond.code ({ cls := "java/util/Arrays", name := "copyOfRange", desc := "([BII)[B" } : Jvm.MethodName) jdk_65_method_132_code (3 : Nat) (Option.some (Jvm.ClassFile.FieldType.array Jvm.ClassFile.FieldType.byte))).before args0 about1 = true := code_word (m := ⟨17, 2⟩) (meth := k17m2) (c := k17c2) (by decide +kernel) rfl rfl rfl (by decide +kernel)
set_option maxRecDepth 65536 in
theorem w_c39 : (Jvm.Cond.code ({ cls := "java/util/Arrays", name := "copyOfRangeByte", desc := "([BII)[B" } : Jvm.MethodName) jdk_65_method_133_code (5 : Nat) (Option.some (Jvm.ClassFile.FieldType.array Jvm.ClassFile.FieldType.byte))).before args0 about1 = true := code_word (m := ⟨17, 3⟩) (meth := k17m3) (c := k17c3) (by decide +kernel) rfl rfl rfl (by decide +kernel)
set_option maxRecDepth 65536 in
theorem w_c40 : (Jvm.Cond.code ({ cls := "java/util/Arrays", name := "checkLength", desc := "(II)V" } : Jvm.MethodName) jdk_65_method_131_code (2 : Nat) (Option.none : Option Jvm.ClassFile.FieldType)).before args0 about1 = true := code_word (m := ⟨17, 1⟩) (meth := k17m1) (c := k17c1) (by decide +kernel) rfl rfl rfl (by decide +kernel)
set_option maxRecDepth 65536 in
theorem w_c41 : (Jvm.Cond.code ({ cls := "java/lang/Math", name := "min", desc := "(II)I" } : Jvm.MethodName) jdk_29_method_69_code (2 : Nat) (Option.some Jvm.ClassFile.FieldType.int)).before args0 about1 = true := code_word (m := ⟨18, 1⟩) (meth := k18m1) (c := k18c1) (by decide +kernel) rfl rfl rfl (by decide +kernel)
set_option maxRecDepth 65536 in
theorem w_c42 : (Jvm.Cond.code ({ cls := "java/lang/String", name := "substring", desc := "(I)Ljava/lang/String;" } : Jvm.MethodName) jdk_42_method_91_code (2 : Nat) (Option.some (Jvm.ClassFile.FieldType.object "java/lang/String"))).before args0 about1 = true := code_word (m := ⟨7, 9⟩) (meth := k7m9) (c := k7c9) (by decide +kernel) rfl rfl rfl (by decide +kernel)
set_option maxRecDepth 65536 in
theorem w_c43 : (Jvm.Cond.code ({ cls := "java/lang/String", name := "substring", desc := "(II)Ljava/lang/String;" } : Jvm.MethodName) jdk_42_method_92_code (5 : Nat) (Option.some (Jvm.ClassFile.FieldType.object "java/lang/String"))).before args0 about1 = true := code_word (m := ⟨7, 10⟩) (meth := k7m10) (c := k7c10) (by decide +kernel) rfl rfl rfl (by decide +kernel)
set_option maxRecDepth 65536 in
theorem w_c44 : (Jvm.Cond.code ({ cls := "java/lang/String", name := "checkBoundsBeginEnd", desc := "(III)V" } : Jvm.MethodName) jdk_42_method_158_code (3 : Nat) (Option.none : Option Jvm.ClassFile.FieldType)).before args0 about1 = true := code_word (m := ⟨7, 18⟩) (meth := k7m18) (c := k7c18) (by decide +kernel) rfl rfl rfl (by decide +kernel)
set_option maxRecDepth 65536 in
theorem w_c45 : (Jvm.Cond.code ({ cls := "jdk/internal/util/Preconditions", name := "checkFromToIndex", desc := "(IIILjava/util/function/BiFunction;)I" } : Jvm.MethodName) jdk_41_method_12_code (4 : Nat) (Option.some Jvm.ClassFile.FieldType.int)).before args0 about1 = true := code_word (m := ⟨19, 1⟩) (meth := k19m1) (c := k19c1) (by decide +kernel) rfl rfl rfl (by decide +kernel)
set_option maxRecDepth 65536 in
theorem w_c46 : (Jvm.Cond.code ({ cls := "java/lang/String", name := "isLatin1", desc := "()Z" } : Jvm.MethodName) jdk_42_method_154_code (1 : Nat) (Option.some Jvm.ClassFile.FieldType.boolean)).before args0 about1 = true := code_word (m := ⟨7, 17⟩) (meth := k7m17) (c := k7c17) (by decide +kernel) rfl rfl rfl (by decide +kernel)
set_option maxRecDepth 65536 in
theorem w_c47 : (Jvm.Cond.code ({ cls := "java/lang/StringLatin1", name := "newString", desc := "([BII)Ljava/lang/String;" } : Jvm.MethodName) jdk_43_method_47_code (3 : Nat) (Option.some (Jvm.ClassFile.FieldType.object "java/lang/String"))).before args0 about1 = true := code_word (m := ⟨8, 4⟩) (meth := k8m4) (c := k8c4) (by decide +kernel) rfl rfl rfl (by decide +kernel)
set_option maxRecDepth 65536 in
theorem w_c48 : (Jvm.Cond.code ({ cls := "com/example/ronda/ronda/engine/ApiVersion", name := "equals", desc := "(Ljava/lang/Object;)Z" } : Jvm.MethodName) prog_1_method_7_code (3 : Nat) (Option.some Jvm.ClassFile.FieldType.boolean)).before args0 about1 = true := code_word (m := ⟨10, 2⟩) (meth := k10m2) (c := k10c2) (by decide +kernel) rfl rfl rfl (by decide +kernel)
set_option maxRecDepth 65536 in
theorem w_c49 : (Jvm.Cond.code ({ cls := "java/lang/String", name := "equals", desc := "(Ljava/lang/Object;)Z" } : Jvm.MethodName) jdk_42_method_66_code (3 : Nat) (Option.some Jvm.ClassFile.FieldType.boolean)).before args0 about1 = true := code_word (m := ⟨7, 5⟩) (meth := k7m5) (c := k7c5) (by decide +kernel) rfl rfl rfl (by decide +kernel)
set_option maxRecDepth 65536 in
theorem w_c50 : (Jvm.Cond.code ({ cls := "java/lang/StringLatin1", name := "equals", desc := "([B[B)Z" } : Jvm.MethodName) jdk_43_method_13_code (3 : Nat) (Option.some Jvm.ClassFile.FieldType.boolean)).before args0 about1 = true := code_word (m := ⟨8, 2⟩) (meth := k8m2) (c := k8c2) (by decide +kernel) rfl rfl rfl (by decide +kernel)
set_option maxRecDepth 65536 in
theorem w_c51 : (Jvm.Cond.code ({ cls := "java/lang/Integer", name := "valueOf", desc := "(I)Ljava/lang/Integer;" } : Jvm.MethodName) jdk_33_method_22_code (1 : Nat) (Option.some (Jvm.ClassFile.FieldType.object "java/lang/Integer"))).before args0 about1 = true := code_word (m := ⟨21, 0⟩) (meth := k21m0) (c := k21c0) (by decide +kernel) rfl rfl rfl (by decide +kernel)
set_option maxRecDepth 65536 in
theorem w_c52 : (Jvm.Cond.code ({ cls := "java/lang/Integer", name := "<init>", desc := "(I)V" } : Jvm.MethodName) jdk_33_method_23_code (2 : Nat) (Option.none : Option Jvm.ClassFile.FieldType)).before args0 about1 = true := code_word (m := ⟨21, 1⟩) (meth := k21m1) (c := k21c1) (by decide +kernel) rfl rfl rfl (by decide +kernel)
set_option maxRecDepth 65536 in
theorem w_c53 : (Jvm.Cond.code ({ cls := "java/lang/Number", name := "<init>", desc := "()V" } : Jvm.MethodName) jdk_18_method_1_code (1 : Nat) (Option.none : Option Jvm.ClassFile.FieldType)).before args0 about1 = true := code_word (m := ⟨20, 0⟩) (meth := k20m0) (c := k20c0) (by decide +kernel) rfl rfl rfl (by decide +kernel)
def codes1 : List Jvm.Cond := [Jvm.Cond.code x code maxLocals ret, Jvm.Cond.code ({ cls := "com/example/ronda/ronda/engine/ApiVersionEqualsPinLaw", name := "svc", desc := "(I)C" } : Jvm.MethodName) method_3_code (1 : Nat) (Option.some Jvm.ClassFile.FieldType.char), Jvm.Cond.code ({ cls := "com/example/ronda/ronda/engine/ApiVersionEqualsPinLaw", name := "make", desc := "(CCZCC)Lcom/example/ronda/ronda/engine/ApiVersion;" } : Jvm.MethodName) method_4_code (9 : Nat) (Option.some (Jvm.ClassFile.FieldType.object "com/example/ronda/ronda/engine/ApiVersion")), Jvm.Cond.code ({ cls := "java/lang/String", name := "valueOf", desc := "(C)Ljava/lang/String;" } : Jvm.MethodName) jdk_42_method_139_code (1 : Nat) (Option.some (Jvm.ClassFile.FieldType.object "java/lang/String")), Jvm.Cond.code ({ cls := "java/lang/StringLatin1", name := "canEncode", desc := "(C)Z" } : Jvm.MethodName) jdk_43_method_3_code (1 : Nat) (Option.some Jvm.ClassFile.FieldType.boolean), Jvm.Cond.code ({ cls := "java/lang/StringLatin1", name := "toBytes", desc := "(C)[B" } : Jvm.MethodName) jdk_43_method_46_code (1 : Nat) (Option.some (Jvm.ClassFile.FieldType.array Jvm.ClassFile.FieldType.byte)), Jvm.Cond.code ({ cls := "java/lang/String", name := "<init>", desc := "([BB)V" } : Jvm.MethodName) jdk_42_method_151_code (3 : Nat) (Option.none : Option Jvm.ClassFile.FieldType), Jvm.Cond.code ({ cls := "java/lang/Object", name := "<init>", desc := "()V" } : Jvm.MethodName) object_method_1_code (1 : Nat) (Option.none : Option Jvm.ClassFile.FieldType), Jvm.Cond.code ({ cls := "java/lang/String", name := "<init>", desc := "([C)V" } : Jvm.MethodName) jdk_42_method_3_code (2 : Nat) (Option.none : Option Jvm.ClassFile.FieldType), Jvm.Cond.code ({ cls := "java/lang/String", name := "<init>", desc := "([CIILjava/lang/Void;)V" } : Jvm.MethodName) jdk_42_method_149_code (6 : Nat) (Option.none : Option Jvm.ClassFile.FieldType), Jvm.Cond.code ({ cls := "java/lang/StringUTF16", name := "compress", desc := "([CII)[B" } : Jvm.MethodName) jdk_52_method_16_code (6 : Nat) (Option.some (Jvm.ClassFile.FieldType.array Jvm.ClassFile.FieldType.byte)), Jvm.Cond.code ({ cls := "java/lang/StringUTF16", name := "compress", desc := "([CI[BII)I" } : Jvm.MethodName) jdk_52_method_21_code (7 : Nat) (Option.some Jvm.ClassFile.FieldType.int), Jvm.Cond.code ({ cls := "java/lang/StringUTF16", name := "coderFromArrayLen", desc := "([BI)B" } : Jvm.MethodName) jdk_52_method_15_code (2 : Nat) (Option.some Jvm.ClassFile.FieldType.byte), Jvm.Cond.code ({ cls := "com/example/ronda/ronda/engine/ApiVersion", name := "<init>", desc := "(Ljava/lang/String;Ljava/lang/String;Ljava/lang/String;Ljava/lang/String;)V" } : Jvm.MethodName) prog_1_method_1_code (5 : Nat) (Option.none : Option Jvm.ClassFile.FieldType), Jvm.Cond.code ({ cls := "java/lang/String", name := "isEmpty", desc := "()Z" } : Jvm.MethodName) jdk_42_method_55_code (1 : Nat) (Option.some Jvm.ClassFile.FieldType.boolean), Jvm.Cond.code ({ cls := "java/lang/String", name := "startsWith", desc := "(Ljava/lang/String;)Z" } : Jvm.MethodName) jdk_42_method_76_code (2 : Nat) (Option.some Jvm.ClassFile.FieldType.boolean), Jvm.Cond.code ({ cls := "java/lang/String", name := "startsWith", desc := "(Ljava/lang/String;I)Z" } : Jvm.MethodName) jdk_42_method_75_code (8 : Nat) (Option.some Jvm.ClassFile.FieldType.boolean), Jvm.Cond.code ({ cls := "java/lang/String", name := "length", desc := "()I" } : Jvm.MethodName) jdk_42_method_54_code (1 : Nat) (Option.some Jvm.ClassFile.FieldType.int), Jvm.Cond.code ({ cls := "java/lang/String", name := "coder", desc := "()B" } : Jvm.MethodName) jdk_42_method_152_code (1 : Nat) (Option.some Jvm.ClassFile.FieldType.byte), Jvm.Cond.code ({ cls := "jdk/internal/util/ArraysSupport", name := "mismatch", desc := "([BI[BII)I" } : Jvm.MethodName) jdk_48_method_14_code (8 : Nat) (Option.some Jvm.ClassFile.FieldType.int), Jvm.Cond.code ({ cls := "java/lang/String", name := "endsWith", desc := "(Ljava/lang/String;)Z" } : Jvm.MethodName) jdk_42_method_77_code (2 : Nat) (Option.some Jvm.ClassFile.FieldType.boolean), Jvm.Cond.code ({ cls := "java/util/Objects", name := "requireNonNull", desc := "(Ljava/lang/Object;Ljava/lang/String;)Ljava/lang/Object;" } : Jvm.MethodName) jdk_31_method_11_code (2 : Nat) (Option.some (Jvm.ClassFile.FieldType.object "java/lang/Object")), Jvm.Cond.code ({ cls := "com/example/ronda/ronda/engine/ApiVersion", name := "methodPath", desc := "(Ljava/lang/String;)Ljava/lang/String;" } : Jvm.MethodName) prog_1_method_6_code (3 : Nat) (Option.some (Jvm.ClassFile.FieldType.object "java/lang/String")), Jvm.Cond.code ({ cls := "java/lang/StringBuilder", name := "<init>", desc := "()V" } : Jvm.MethodName) jdk_67_method_1_code (1 : Nat) (Option.none : Option Jvm.ClassFile.FieldType), Jvm.Cond.code ({ cls := "java/lang/AbstractStringBuilder", name := "<init>", desc := "(I)V" } : Jvm.MethodName) jdk_68_method_2_code (2 : Nat) (Option.none : Option Jvm.ClassFile.FieldType), Jvm.Cond.code ({ cls := "java/lang/StringBuilder", name := "append", desc := "(Ljava/lang/String;)Ljava/lang/StringBuilder;" } : Jvm.MethodName) jdk_67_method_7_code (2 : Nat) (Option.some (Jvm.ClassFile.FieldType.object "java/lang/StringBuilder")), Jvm.Cond.code ({ cls := "java/lang/AbstractStringBuilder", name := "append", desc := "(Ljava/lang/String;)Ljava/lang/AbstractStringBuilder;" } : Jvm.MethodName) jdk_68_method_22_code (3 : Nat) (Option.some (Jvm.ClassFile.FieldType.object "java/lang/AbstractStringBuilder")), Jvm.Cond.code ({ cls := "java/lang/AbstractStringBuilder", name := "ensureCapacityInternal", desc := "(I)V" } : Jvm.MethodName) jdk_68_method_9_code (3 : Nat) (Option.none : Option Jvm.ClassFile.FieldType), Jvm.Cond.code ({ cls := "java/lang/AbstractStringBuilder", name := "putStringAt", desc := "(ILjava/lang/String;)V" } : Jvm.MethodName) jdk_68_method_73_code (3 : Nat) (Option.none : Option Jvm.ClassFile.FieldType), Jvm.Cond.code ({ cls := "java/lang/AbstractStringBuilder", name := "inflateIfNeededFor", desc := "(Ljava/lang/String;)V" } : Jvm.MethodName) jdk_68_method_71_code (2 : Nat) (Option.none : Option Jvm.ClassFile.FieldType), Jvm.Cond.code ({ cls := "java/lang/String", name := "getBytes", desc := "([BIB)V" } : Jvm.MethodName) jdk_42_method_147_code (4 : Nat) (Option.none : Option Jvm.ClassFile.FieldType), Jvm.Cond.code ({ cls := "java/lang/StringBuilder", name := "toString", desc := "()Ljava/lang/String;" } : Jvm.MethodName) jdk_67_method_42_code (1 : Nat) (Option.some (Jvm.ClassFile.FieldType.object "java/lang/String")), Jvm.Cond.code ({ cls := "java/lang/String", name := "<init>", desc := "(Ljava/lang/StringBuilder;)V" } : Jvm.MethodName) jdk_42_method_53_code (2 : Nat) (Option.none : Option Jvm.ClassFile.FieldType), Jvm.Cond.code ({ cls := "java/lang/String", name := "<init>", desc := "(Ljava/lang/AbstractStringBuilder;Ljava/lang/Void;)V" } : Jvm.MethodName) jdk_42_method_150_code (5 : Nat) (Option.none : Option Jvm.ClassFile.FieldType), Jvm.Cond.code ({ cls := "java/lang/AbstractStringBuilder", name := "getValue", desc := "()[B" } : Jvm.MethodName) jdk_68_method_64_code (1 : Nat) (Option.some (Jvm.ClassFile.FieldType.array Jvm.ClassFile.FieldType.byte)), Jvm.Cond.code ({ cls := "java/lang/StringBuilder", name := "length", desc := "()I" } : Jvm.MethodName) jdk_67_method_93_code (1 : Nat) (Option.some Jvm.ClassFile.FieldType.int), Jvm.Cond.code ({ cls := "java/lang/AbstractStringBuilder", name := "length", desc := "()I" } : Jvm.MethodName) jdk_68_method_6_code (1 : Nat) (Option.some Jvm.ClassFile.FieldType.int), Jvm.Cond.code ({ cls := "java/lang/AbstractStringBuilder", name := "isLatin1", desc := "()Z" } : Jvm.MethodName) jdk_68_method_68_code (1 : Nat) (Option.some Jvm.ClassFile.FieldType.boolean), Jvm.Cond.code ({ cls := "java/util/Arrays", name := "copyOfRange", desc := "([BII)[B" } : Jvm.MethodName) jdk_65_method_132_code (3 : Nat) (Option.some (Jvm.ClassFile.FieldType.array Jvm.ClassFile.FieldType.byte)), Jvm.Cond.code ({ cls := "java/util/Arrays", name := "copyOfRangeByte", desc := "([BII)[B" } : Jvm.MethodName) jdk_65_method_133_code (5 : Nat) (Option.some (Jvm.ClassFile.FieldType.array Jvm.ClassFile.FieldType.byte)), Jvm.Cond.code ({ cls := "java/util/Arrays", name := "checkLength", desc := "(II)V" } : Jvm.MethodName) jdk_65_method_131_code (2 : Nat) (Option.none : Option Jvm.ClassFile.FieldType), Jvm.Cond.code ({ cls := "java/lang/Math", name := "min", desc := "(II)I" } : Jvm.MethodName) jdk_29_method_69_code (2 : Nat) (Option.some Jvm.ClassFile.FieldType.int), Jvm.Cond.code ({ cls := "java/lang/String", name := "substring", desc := "(I)Ljava/lang/String;" } : Jvm.MethodName) jdk_42_method_91_code (2 : Nat) (Option.some (Jvm.ClassFile.FieldType.object "java/lang/String")), Jvm.Cond.code ({ cls := "java/lang/String", name := "substring", desc := "(II)Ljava/lang/String;" } : Jvm.MethodName) jdk_42_method_92_code (5 : Nat) (Option.some (Jvm.ClassFile.FieldType.object "java/lang/String")), Jvm.Cond.code ({ cls := "java/lang/String", name := "checkBoundsBeginEnd", desc := "(III)V" } : Jvm.MethodName) jdk_42_method_158_code (3 : Nat) (Option.none : Option Jvm.ClassFile.FieldType), Jvm.Cond.code ({ cls := "jdk/internal/util/Preconditions", name := "checkFromToIndex", desc := "(IIILjava/util/function/BiFunction;)I" } : Jvm.MethodName) jdk_41_method_12_code (4 : Nat) (Option.some Jvm.ClassFile.FieldType.int), Jvm.Cond.code ({ cls := "java/lang/String", name := "isLatin1", desc := "()Z" } : Jvm.MethodName) jdk_42_method_154_code (1 : Nat) (Option.some Jvm.ClassFile.FieldType.boolean), Jvm.Cond.code ({ cls := "java/lang/StringLatin1", name := "newString", desc := "([BII)Ljava/lang/String;" } : Jvm.MethodName) jdk_43_method_47_code (3 : Nat) (Option.some (Jvm.ClassFile.FieldType.object "java/lang/String")), Jvm.Cond.code ({ cls := "com/example/ronda/ronda/engine/ApiVersion", name := "equals", desc := "(Ljava/lang/Object;)Z" } : Jvm.MethodName) prog_1_method_7_code (3 : Nat) (Option.some Jvm.ClassFile.FieldType.boolean), Jvm.Cond.code ({ cls := "java/lang/String", name := "equals", desc := "(Ljava/lang/Object;)Z" } : Jvm.MethodName) jdk_42_method_66_code (3 : Nat) (Option.some Jvm.ClassFile.FieldType.boolean), Jvm.Cond.code ({ cls := "java/lang/StringLatin1", name := "equals", desc := "([B[B)Z" } : Jvm.MethodName) jdk_43_method_13_code (3 : Nat) (Option.some Jvm.ClassFile.FieldType.boolean), Jvm.Cond.code ({ cls := "java/lang/Integer", name := "valueOf", desc := "(I)Ljava/lang/Integer;" } : Jvm.MethodName) jdk_33_method_22_code (1 : Nat) (Option.some (Jvm.ClassFile.FieldType.object "java/lang/Integer")), Jvm.Cond.code ({ cls := "java/lang/Integer", name := "<init>", desc := "(I)V" } : Jvm.MethodName) jdk_33_method_23_code (2 : Nat) (Option.none : Option Jvm.ClassFile.FieldType), Jvm.Cond.code ({ cls := "java/lang/Number", name := "<init>", desc := "()V" } : Jvm.MethodName) jdk_18_method_1_code (1 : Nat) (Option.none : Option Jvm.ClassFile.FieldType)]
set_option maxRecDepth 65536 in
theorem codes_eq : words1.filter isCode = codes1 := rfl
theorem w_codes : ∀ c ∈ words1.filter isCode, c.before args0 about1 = true := by
  rw [codes_eq]
  intro c hc
  simp only [codes1, List.mem_cons, List.not_mem_nil, or_false] at hc
  rcases hc with rfl | rfl | rfl | rfl | rfl | rfl | rfl | rfl | rfl | rfl | rfl | rfl | rfl | rfl | rfl | rfl | rfl | rfl | rfl | rfl | rfl | rfl | rfl | rfl | rfl | rfl | rfl | rfl | rfl | rfl | rfl | rfl | rfl | rfl | rfl | rfl | rfl | rfl | rfl | rfl | rfl | rfl | rfl | rfl | rfl | rfl | rfl | rfl | rfl | rfl | rfl | rfl | rfl | rfl
  · exact w_c0
  · exact w_c1
  · exact w_c2
  · exact w_c3
  · exact w_c4
  · exact w_c5
  · exact w_c6
  · exact w_c7
  · exact w_c8
  · exact w_c9
  · exact w_c10
  · exact w_c11
  · exact w_c12
  · exact w_c13
  · exact w_c14
  · exact w_c15
  · exact w_c16
  · exact w_c17
  · exact w_c18
  · exact w_c19
  · exact w_c20
  · exact w_c21
  · exact w_c22
  · exact w_c23
  · exact w_c24
  · exact w_c25
  · exact w_c26
  · exact w_c27
  · exact w_c28
  · exact w_c29
  · exact w_c30
  · exact w_c31
  · exact w_c32
  · exact w_c33
  · exact w_c34
  · exact w_c35
  · exact w_c36
  · exact w_c37
  · exact w_c38
  · exact w_c39
  · exact w_c40
  · exact w_c41
  · exact w_c42
  · exact w_c43
  · exact w_c44
  · exact w_c45
  · exact w_c46
  · exact w_c47
  · exact w_c48
  · exact w_c49
  · exact w_c50
  · exact w_c51
  · exact w_c52
  · exact w_c53
set_option maxRecDepth 65536 in
theorem w_t1 : (words1.take 24).all (fun c => isCode c || c.before args0 about1) = true := by decide +kernel
set_option maxRecDepth 65536 in
theorem w_t2 : ((words1.drop 24).take 24).all (fun c => isCode c || c.before args0 about1) = true := by decide +kernel
set_option maxRecDepth 65536 in
theorem w_t3 : (((words1.drop 24).drop 24).take 24).all (fun c => isCode c || c.before args0 about1) = true := by decide +kernel
set_option maxRecDepth 65536 in
theorem w_t4 : ((((words1.drop 24).drop 24).drop 24).take 24).all (fun c => isCode c || c.before args0 about1) = true := by decide +kernel
set_option maxRecDepth 65536 in
theorem w_t5 : (((((words1.drop 24).drop 24).drop 24).drop 24).take 24).all (fun c => isCode c || c.before args0 about1) = true := by decide +kernel
set_option maxRecDepth 65536 in
theorem w_t6 : ((((((words1.drop 24).drop 24).drop 24).drop 24).drop 24).take 24).all (fun c => isCode c || c.before args0 about1) = true := by decide +kernel
set_option maxRecDepth 65536 in
theorem w_t7 : (((((((words1.drop 24).drop 24).drop 24).drop 24).drop 24).drop 24).take 24).all (fun c => isCode c || c.before args0 about1) = true := by decide +kernel
set_option maxRecDepth 65536 in
theorem w_t8 : ((((((((words1.drop 24).drop 24).drop 24).drop 24).drop 24).drop 24).drop 24).take 24).all (fun c => isCode c || c.before args0 about1) = true := by decide +kernel
set_option maxRecDepth 65536 in
theorem w_t9 : (((((((((words1.drop 24).drop 24).drop 24).drop 24).drop 24).drop 24).drop 24).drop 24).take 24).all (fun c => isCode c || c.before args0 about1) = true := by decide +kernel
set_option maxRecDepth 65536 in
theorem w_t10 : ((((((((((words1.drop 24).drop 24).drop 24).drop 24).drop 24).drop 24).drop 24).drop 24).drop 24).take 24).all (fun c => isCode c || c.before args0 about1) = true := by decide +kernel
set_option maxRecDepth 65536 in
theorem w_t11 : (((((((((((words1.drop 24).drop 24).drop 24).drop 24).drop 24).drop 24).drop 24).drop 24).drop 24).drop 24).take 24).all (fun c => isCode c || c.before args0 about1) = true := by decide +kernel
set_option maxRecDepth 65536 in
theorem w_t12 : (((((((((((words1.drop 24).drop 24).drop 24).drop 24).drop 24).drop 24).drop 24).drop 24).drop 24).drop 24).drop 24).all (fun c => isCode c || c.before args0 about1) = true := by decide +kernel
theorem w_tables : (allAtoms (Jvm.Cond.code x code maxLocals ret :: tables_1)).before args0 about1 = true := by
  rw [allAtoms_all]
  show words1.all (fun c => c.before args0 about1) = true
  refine all_split ?_ w_codes
  rw [← List.take_append_drop 24 words1, List.all_append, w_t1, ← List.take_append_drop 24 (words1.drop 24), List.all_append, w_t2, ← List.take_append_drop 24 ((words1.drop 24).drop 24), List.all_append, w_t3, ← List.take_append_drop 24 (((words1.drop 24).drop 24).drop 24), List.all_append, w_t4, ← List.take_append_drop 24 ((((words1.drop 24).drop 24).drop 24).drop 24), List.all_append, w_t5, ← List.take_append_drop 24 (((((words1.drop 24).drop 24).drop 24).drop 24).drop 24), List.all_append, w_t6, ← List.take_append_drop 24 ((((((words1.drop 24).drop 24).drop 24).drop 24).drop 24).drop 24), List.all_append, w_t7, ← List.take_append_drop 24 (((((((words1.drop 24).drop 24).drop 24).drop 24).drop 24).drop 24).drop 24), List.all_append, w_t8, ← List.take_append_drop 24 ((((((((words1.drop 24).drop 24).drop 24).drop 24).drop 24).drop 24).drop 24).drop 24), List.all_append, w_t9, ← List.take_append_drop 24 (((((((((words1.drop 24).drop 24).drop 24).drop 24).drop 24).drop 24).drop 24).drop 24).drop 24), List.all_append, w_t10, ← List.take_append_drop 24 ((((((((((words1.drop 24).drop 24).drop 24).drop 24).drop 24).drop 24).drop 24).drop 24).drop 24).drop 24), List.all_append, w_t11, w_t12]
  rfl
set_option maxRecDepth 65536 in
theorem w_rest : rest_1_c.before args0 about1 = true := by decide +kernel
set_option maxRecDepth 65536 in
theorem w_case : (Jvm.Cond.and given_1 narrow_1).before args0 about1 = true := by decide +kernel
set_option maxRecDepth 65536 in
theorem w_consts : constsHeld consts_1 about1 := Jvm.Lit.constsHeldB_iff.mp (by decide +kernel)
theorem w_applies : (headSpec (Jvm.Cond.code x code maxLocals ret :: tables_1) room_1).applies x e0.platform about1 = true :=
  (Spec.applies_iff w_frames).mpr ⟨w_running, w_runnable, w_alone, w_named, w_hears, w_ripe, w_room, w_tables⟩
theorem atStart : AtStart classFile x code maxLocals ret World_1 tables_1 room_1 Calls_1 rest_1 Pre_1 launch0 p0 e0 about1 theMethod args0 below0 :=
  ⟨lists_1, trivial, launch0.admits_env _ _ _, launch0.least_env, fairChoices_fair.cas, fairChoices_fair.clock, w_frames, w_args, w_heap, w_applies, ⟨w_consts, trivial⟩, w_rest, w_case⟩
end start1
theorem witness_1 : WitnessClaimed_1 := ⟨start1.p0, start1.e0, start1.about1, start1.theMethod, start1.args0, start1.below0, start1.atStart⟩
end Jvm.Pilot.@@N@@
