import JvmDerived
import JvmDerived.Pilot.@@N@@Statement
import JvmDerived.Pilot.@@N@@Code
set_option linter.unusedVariables false
set_option linter.unusedSimpArgs false
namespace Jvm.Pilot.@@N@@
open Jvm Jvm.ClassFile Sem Op Lib Jvm.Free Jvm.Stand Jvm.LawKit Jvm.RoadKit Bundle Jvm.Pilot.@@N@@.Jvm.D

section OwnKit
/-- from here the run comes to a return that says Q -/
def OFin (n0 : Nat) (p : Program) (e : Env) (below : List Frame) (s : State) (Q : Option Value → Heap → Prop) (ck sk : Nat) (T : State) (g : JFrame) : Prop :=
  ∃ s₂ o, Steps p.tables e below (T.setTop g) s₂ ∧ s₂.status = .running ∧ Ended s₂ below o ∧ ∃ v L, o = .returned v ∧ (Fr n0 L ∧ n0 ≤ s₂.heap.size ∧ Q v s₂.heap) ∧ FrameEnd s o s₂ L ck sk
/-- where the walk of a body stands, with all that is known of the body -/
def OG (l : Launch) (Z : State) (y : MethodName) (bytes : ByteArray) (maxl : Nat) (ret : Option FieldType) (n0 : Nat) (p : Program) (e : Env) (R : Room) (s : State) (m : MethodId) (args : Array Value) (below : List Frame) (meth : Method) (c : Code) (T : State) (h : Heap) (cells slots : Nat) : Prop :=
  p.tables.exec = Jvm.exec ∧ c.code = bytes ∧ c.maxLocals = maxl ∧ s.vm.findClass y.cls = some m.cls ∧ meth.name = y.name ∧ meth.sig.returnType = ret ∧ meth.locks = false ∧ Z.Warmed39 s.vm ∧ T.heap = h ∧ n0 ≤ h.size ∧ ∃ locs, Stand p l e R s m args below meth c T locs cells slots ∧ Fr n0 locs
/-- a body's contract -/
def OMet (l : Launch) (Z : State) (y : MethodName) (bytes : ByteArray) (maxl : Nat) (ret : Option FieldType) (rm : Room) (as' : Array Value) (h0 : Heap) (n0 : Nat) (ck sk : Nat) (Q : Option Value → Heap → Prop) : Prop :=
  ∀ ws : List Jvm.Cond, MetFree l y (head1 (Jvm.Cond.code y bytes maxl ret :: ws) rm) (fun a U => a = as' ∧ Z.Warmed39 U.vm ∧ U.heap = h0) (fun _ _ _ _ _ => True) (fun _ U o U' => ∃ v L, o = .returned v ∧ (Fr n0 L ∧ n0 ≤ U'.heap.size ∧ Q v U'.heap) ∧ FrameEnd U o U' L ck sk)
variable {l : Launch} {Z : State} {y : MethodName} {bytes : ByteArray} {maxl : Nat} {ret : Option FieldType} {n0 : Nat} {p : Program} {e : Env} {R : Room} {s : State} {m : MethodId} {args : Array Value} {below : List Frame} {meth : Method} {c : Code} {T : State} {h : Heap} {cells slots ck sk : Nat} {Q : Option Value → Heap → Prop} {pc pc' : Nat} {Ls : Array Slot} {rest : List Value} {a0 : Array Value}
theorem o_step {T' : State} {g g' : JFrame} (st : ∀ t, Steps p.tables e below (T'.setTop g') t → Steps p.tables e below (T.setTop g) t) (k : OFin n0 p e below s Q ck sk T' g') : OFin n0 p e below s Q ck sk T g := by
  obtain ⟨s₂, o, h1, r⟩ := k
  exact ⟨s₂, o, st _ h1, r⟩
theorem o_body {rm : Room} {as' : Array Value} {h0 : Heap} (hy : plainFor y = true) (hz : n0 ≤ h0.size) (hent : ∀ m, entryFrame m as' maxl = mkF m 0 Ls [])
    (body : ∀ (p : Program) (e : Env) (s : State) (m : MethodId) (below : List Frame) (meth : Method) (c : Code) (s₁ : State), OG l Z y bytes maxl ret n0 p e rm s m as' below meth c s₁ h0 0 0 → OFin n0 p e below s Q ck sk s₁ (mkF m 0 Ls [])) : OMet l Z y bytes maxl ret rm as' h0 n0 ck sk Q := by
  intro ws
  refine MetFree.of_bodySF hy hisR ?_
  intro p e s m args below meth c s₁ Bd hml0 hP hK
  obtain ⟨ha, hZ, hh⟩ := hP
  subst ha
  have e0 : s₁.heap = h0 := by rw [← hh, Bd.state]; rfl
  have k := body p e s m below meth c s₁ ⟨Bd.exec, Bd.bytes, hml0, findClass_of_methodNamed Bd.named, (name_of_methodNamed Bd.named Bd.method).1, Bd.returns, Bd.notSynchronized, hZ, e0, hz, [], Stand.of_body Bd, Fr.nil n0⟩
  rw [← hent m] at k
  exact k
theorem OG.sz (G : OG l Z y bytes maxl ret n0 p e R s m args below meth c T h cells slots) : n0 ≤ h.size := G.2.2.2.2.2.2.2.2.2.1
theorem OG.eh (G : OG l Z y bytes maxl ret n0 p e R s m args below meth c T h cells slots) : T.heap = h := G.2.2.2.2.2.2.2.2.1
theorem OG.wm (G : OG l Z y bytes maxl ret n0 p e R s m args below meth c T h cells slots) : Z.Warmed39 s.vm := G.2.2.2.2.2.2.2.1
theorem o_iloadN (G : OG l Z y bytes maxl ret n0 p e R s m args below meth c T h cells slots) {k0 : Fin 4} {v : Int32} (hd : decode bytes pc = .ok (.iload_n k0, 1)) (hp : pc + 1 = pc') (hl : Ls[k0.val]? = some (.val (.int v))) (k : OFin n0 p e below s Q ck sk T (mkF m pc' Ls (.int v :: rest))) : OFin n0 p e below s Q ck sk T (mkF m pc Ls rest) := by
  subst hp
  obtain ⟨hx, hby, -, -, -, -, -, -, -, -, locs, X, -⟩ := G
  exact o_step (fun _ hr => XS.iloadN X.here hx rfl (hb hby hd) hl hr) k
theorem o_iload (G : OG l Z y bytes maxl ret n0 p e R s m args below meth c T h cells slots) {k0 : Nat} {v : Int32} (hd : decode bytes pc = .ok (.iload k0, 2)) (hp : pc + 2 = pc') (hl : Ls[k0]? = some (.val (.int v))) (k : OFin n0 p e below s Q ck sk T (mkF m pc' Ls (.int v :: rest))) : OFin n0 p e below s Q ck sk T (mkF m pc Ls rest) := by
  subst hp
  obtain ⟨hx, hby, -, -, -, -, -, -, -, -, locs, X, -⟩ := G
  exact o_step (fun _ hr => XS.iload X.here hx rfl (hb hby hd) hl hr) k
theorem o_lloadN (G : OG l Z y bytes maxl ret n0 p e R s m args below meth c T h cells slots) {k0 : Fin 4} {v : Int64} (hd : decode bytes pc = .ok (.lload_n k0, 1)) (hp : pc + 1 = pc') (hl : Ls[k0.val]? = some (.val (.long v))) (k : OFin n0 p e below s Q ck sk T (mkF m pc' Ls (.long v :: rest))) : OFin n0 p e below s Q ck sk T (mkF m pc Ls rest) := by
  subst hp
  obtain ⟨hx, hby, -, -, -, -, -, -, -, -, locs, X, -⟩ := G
  exact o_step (fun _ hr => XS.lloadN X.here hx rfl (hb hby hd) hl hr) k
theorem o_aloadN (G : OG l Z y bytes maxl ret n0 p e R s m args below meth c T h cells slots) {k0 : Fin 4} {v : Value} (hd : decode bytes pc = .ok (.aload_n k0, 1)) (hp : pc + 1 = pc') (hl : Ls[k0.val]? = some (.val v)) (hv : v.isRef = true) (k : OFin n0 p e below s Q ck sk T (mkF m pc' Ls (v :: rest))) : OFin n0 p e below s Q ck sk T (mkF m pc Ls rest) := by
  subst hp
  obtain ⟨hx, hby, -, -, -, -, -, -, -, -, locs, X, -⟩ := G
  exact o_step (fun _ hr => XS.aloadN X.here hx rfl (hb hby hd) hl hv hr) k
theorem o_aload (G : OG l Z y bytes maxl ret n0 p e R s m args below meth c T h cells slots) {k0 : Nat} {v : Value} (hd : decode bytes pc = .ok (.aload k0, 2)) (hp : pc + 2 = pc') (hl : Ls[k0]? = some (.val v)) (hv : v.isRef = true) (k : OFin n0 p e below s Q ck sk T (mkF m pc' Ls (v :: rest))) : OFin n0 p e below s Q ck sk T (mkF m pc Ls rest) := by
  subst hp
  obtain ⟨hx, hby, -, -, -, -, -, -, -, -, locs, X, -⟩ := G
  exact o_step (fun _ hr => XS.aload X.here hx rfl (hb hby hd) hl hv hr) k
theorem o_istoreN (G : OG l Z y bytes maxl ret n0 p e R s m args below meth c T h cells slots) {k0 : Fin 4} {v : Int32} {l' : Array Slot} (hd : decode bytes pc = .ok (.istore_n k0, 1)) (hp : pc + 1 = pc') (hl : storeLocals Ls k0.val (.int v) = some l') (k : OFin n0 p e below s Q ck sk T (mkF m pc' l' rest)) : OFin n0 p e below s Q ck sk T (mkF m pc Ls (.int v :: rest)) := by
  subst hp
  obtain ⟨hx, hby, -, -, -, -, -, -, -, -, locs, X, -⟩ := G
  exact o_step (fun _ hr => XS.istoreN X.here hx rfl (hb hby hd) rfl hl hr) k
theorem o_istore (G : OG l Z y bytes maxl ret n0 p e R s m args below meth c T h cells slots) {k0 : Nat} {v : Int32} {l' : Array Slot} (hd : decode bytes pc = .ok (.istore k0, 2)) (hp : pc + 2 = pc') (hl : storeLocals Ls k0 (.int v) = some l') (k : OFin n0 p e below s Q ck sk T (mkF m pc' l' rest)) : OFin n0 p e below s Q ck sk T (mkF m pc Ls (.int v :: rest)) := by
  subst hp
  obtain ⟨hx, hby, -, -, -, -, -, -, -, -, locs, X, -⟩ := G
  exact o_step (fun _ hr => XS.istore X.here hx rfl (hb hby hd) rfl hl hr) k
theorem o_astore (G : OG l Z y bytes maxl ret n0 p e R s m args below meth c T h cells slots) {k0 : Nat} {v : Value} {l' : Array Slot} (hd : decode bytes pc = .ok (.astore k0, 2)) (hp : pc + 2 = pc') (hv : v.isRef = true) (hl : storeLocals Ls k0 v = some l') (k : OFin n0 p e below s Q ck sk T (mkF m pc' l' rest)) : OFin n0 p e below s Q ck sk T (mkF m pc Ls (v :: rest)) := by
  subst hp
  obtain ⟨hx, hby, -, -, -, -, -, -, -, -, locs, X, -⟩ := G
  exact o_step (fun _ hr => XS.astore X.here hx rfl (hb hby hd) rfl hv hl hr) k
theorem o_iconst (G : OG l Z y bytes maxl ret n0 p e R s m args below meth c T h cells slots) {i : Int} {v : Int32} (hd : decode bytes pc = .ok (.iconst i, 1)) (hp : pc + 1 = pc') (hv : Int32.ofInt i = v) (k : OFin n0 p e below s Q ck sk T (mkF m pc' Ls (.int v :: rest))) : OFin n0 p e below s Q ck sk T (mkF m pc Ls rest) := by
  subst hp
  subst hv
  obtain ⟨hx, hby, -, -, -, -, -, -, -, -, locs, X, -⟩ := G
  exact o_step (fun _ hr => XS.iconst X.here hx rfl (hb hby hd) hr) k
theorem o_bipush (G : OG l Z y bytes maxl ret n0 p e R s m args below meth c T h cells slots) {i : Int} {v : Int32} (hd : decode bytes pc = .ok (.bipush i, 2)) (hp : pc + 2 = pc') (hv : (Int8.ofInt i).toInt32 = v) (k : OFin n0 p e below s Q ck sk T (mkF m pc' Ls (.int v :: rest))) : OFin n0 p e below s Q ck sk T (mkF m pc Ls rest) := by
  subst hp
  subst hv
  obtain ⟨hx, hby, -, -, -, -, -, -, -, -, locs, X, -⟩ := G
  exact o_step (fun _ hr => XS.bipush X.here hx rfl (hb hby hd) hr) k
theorem o_sipush (G : OG l Z y bytes maxl ret n0 p e R s m args below meth c T h cells slots) {i : Int} {v : Int32} (hd : decode bytes pc = .ok (.sipush i, 3)) (hp : pc + 3 = pc') (hv : (Int16.ofInt i).toInt32 = v) (k : OFin n0 p e below s Q ck sk T (mkF m pc' Ls (.int v :: rest))) : OFin n0 p e below s Q ck sk T (mkF m pc Ls rest) := by
  subst hp
  subst hv
  obtain ⟨hx, hby, -, -, -, -, -, -, -, -, locs, X, -⟩ := G
  exact o_step (fun _ hr => XS.sipush X.here hx rfl (hb hby hd) hr) k
theorem o_iadd (G : OG l Z y bytes maxl ret n0 p e R s m args below meth c T h cells slots) {u w v : Int32} (hd : decode bytes pc = .ok (.iadd, 1)) (hp : pc + 1 = pc') (hv : u + w = v) (k : OFin n0 p e below s Q ck sk T (mkF m pc' Ls (.int v :: rest))) : OFin n0 p e below s Q ck sk T (mkF m pc Ls (.int w :: .int u :: rest)) := by
  subst hp
  subst hv
  obtain ⟨hx, hby, -, -, -, -, -, -, -, -, locs, X, -⟩ := G
  exact o_step (fun _ hr => XS.iadd X.here hx rfl (hb hby hd) rfl hr) k
theorem o_isub (G : OG l Z y bytes maxl ret n0 p e R s m args below meth c T h cells slots) {u w v : Int32} (hd : decode bytes pc = .ok (.isub, 1)) (hp : pc + 1 = pc') (hv : u - w = v) (k : OFin n0 p e below s Q ck sk T (mkF m pc' Ls (.int v :: rest))) : OFin n0 p e below s Q ck sk T (mkF m pc Ls (.int w :: .int u :: rest)) := by
  subst hp
  subst hv
  obtain ⟨hx, hby, -, -, -, -, -, -, -, -, locs, X, -⟩ := G
  exact o_step (fun _ hr => XS.isub X.here hx rfl (hb hby hd) rfl hr) k
theorem o_imul (G : OG l Z y bytes maxl ret n0 p e R s m args below meth c T h cells slots) {u w v : Int32} (hd : decode bytes pc = .ok (.imul, 1)) (hp : pc + 1 = pc') (hv : u * w = v) (k : OFin n0 p e below s Q ck sk T (mkF m pc' Ls (.int v :: rest))) : OFin n0 p e below s Q ck sk T (mkF m pc Ls (.int w :: .int u :: rest)) := by
  subst hp
  subst hv
  obtain ⟨hx, hby, -, -, -, -, -, -, -, -, locs, X, -⟩ := G
  exact o_step (fun _ hr => XS.imul X.here hx rfl (hb hby hd) rfl hr) k
theorem o_iand (G : OG l Z y bytes maxl ret n0 p e R s m args below meth c T h cells slots) {u w v : Int32} (hd : decode bytes pc = .ok (.iand, 1)) (hp : pc + 1 = pc') (hv : u &&& w = v) (k : OFin n0 p e below s Q ck sk T (mkF m pc' Ls (.int v :: rest))) : OFin n0 p e below s Q ck sk T (mkF m pc Ls (.int w :: .int u :: rest)) := by
  subst hp
  subst hv
  obtain ⟨hx, hby, -, -, -, -, -, -, -, -, locs, X, -⟩ := G
  exact o_step (fun _ hr => XS.iand X.here hx rfl (hb hby hd) rfl hr) k
theorem o_ior (G : OG l Z y bytes maxl ret n0 p e R s m args below meth c T h cells slots) {u w v : Int32} (hd : decode bytes pc = .ok (.ior, 1)) (hp : pc + 1 = pc') (hv : u ||| w = v) (k : OFin n0 p e below s Q ck sk T (mkF m pc' Ls (.int v :: rest))) : OFin n0 p e below s Q ck sk T (mkF m pc Ls (.int w :: .int u :: rest)) := by
  subst hp
  subst hv
  obtain ⟨hx, hby, -, -, -, -, -, -, -, -, locs, X, -⟩ := G
  exact o_step (fun _ hr => XS.ior X.here hx rfl (hb hby hd) rfl hr) k
theorem o_lushr (G : OG l Z y bytes maxl ret n0 p e R s m args below meth c T h cells slots) {u v : Int64} {w : Int32} (hd : decode bytes pc = .ok (.lushr, 1)) (hp : pc + 1 = pc') (hv : (u.toUInt64 >>> (w &&& 0x3f).toInt64.toUInt64).toInt64 = v) (k : OFin n0 p e below s Q ck sk T (mkF m pc' Ls (.long v :: rest))) : OFin n0 p e below s Q ck sk T (mkF m pc Ls (.int w :: .long u :: rest)) := by
  subst hp
  subst hv
  obtain ⟨hx, hby, -, -, -, -, -, -, -, -, locs, X, -⟩ := G
  exact o_step (fun _ hr => XS.lushr X.here hx rfl (hb hby hd) rfl hr) k
theorem o_l2i (G : OG l Z y bytes maxl ret n0 p e R s m args below meth c T h cells slots) {u : Int64} {v : Int32} (hd : decode bytes pc = .ok (.l2i, 1)) (hp : pc + 1 = pc') (hv : u.toInt32 = v) (k : OFin n0 p e below s Q ck sk T (mkF m pc' Ls (.int v :: rest))) : OFin n0 p e below s Q ck sk T (mkF m pc Ls (.long u :: rest)) := by
  subst hp
  subst hv
  obtain ⟨hx, hby, -, -, -, -, -, -, -, -, locs, X, -⟩ := G
  exact o_step (fun _ hr => XS.l2i X.here hx rfl (hb hby hd) rfl hr) k
theorem o_i2b (G : OG l Z y bytes maxl ret n0 p e R s m args below meth c T h cells slots) {u : Int32} {v : Int32} (hd : decode bytes pc = .ok (.i2b, 1)) (hp : pc + 1 = pc') (hv : u.toInt8.toInt32 = v) (k : OFin n0 p e below s Q ck sk T (mkF m pc' Ls (.int v :: rest))) : OFin n0 p e below s Q ck sk T (mkF m pc Ls (.int u :: rest)) := by
  subst hp
  subst hv
  obtain ⟨hx, hby, -, -, -, -, -, -, -, -, locs, X, -⟩ := G
  exact o_step (fun _ hr => XS.i2b X.here hx rfl (hb hby hd) rfl hr) k
theorem o_irem (G : OG l Z y bytes maxl ret n0 p e R s m args below meth c T h cells slots) {u w v : Int32} (hd : decode bytes pc = .ok (.irem, 1)) (hp : pc + 1 = pc') (hw0 : w ≠ 0) (hv : u % w = v) (k : OFin n0 p e below s Q ck sk T (mkF m pc' Ls (.int v :: rest))) : OFin n0 p e below s Q ck sk T (mkF m pc Ls (.int w :: .int u :: rest)) := by
  subst hp
  subst hv
  obtain ⟨hx, hby, -, -, -, -, -, -, -, -, locs, X, -⟩ := G
  exact o_step (fun _ hr => iremM X hx rfl (hb hby hd) rfl hw0 hr) k
theorem o_iinc (G : OG l Z y bytes maxl ret n0 p e R s m args below meth c T h cells slots) {k0 : Nat} {cst : Int} {u w v : Int32} {l' : Array Slot} (hd : decode bytes pc = .ok (.iinc k0 cst, 3)) (hp : pc + 3 = pc') (hl : Ls[k0]? = some (.val (.int u))) (hc : Int32.ofInt cst = w) (hv : u + w = v) (hl' : storeLocals Ls k0 (.int v) = some l') (k : OFin n0 p e below s Q ck sk T (mkF m pc' l' rest)) : OFin n0 p e below s Q ck sk T (mkF m pc Ls rest) := by
  subst hp
  subst hc
  subst hv
  obtain ⟨hx, hby, -, -, -, -, -, -, -, -, locs, X, -⟩ := G
  exact o_step (fun _ hr => XS.iinc X.here hx rfl (hb hby hd) hl hl' hr) k
theorem o_goto (G : OG l Z y bytes maxl ret n0 p e R s m args below meth c T h cells slots) {o : Int} (hd : decode bytes pc = .ok (.goto o, 3)) (ho : 0 ≤ (pc : Int) + o) (hp : ((pc : Int) + o).toNat = pc') (k : OFin n0 p e below s Q ck sk T (mkF m pc' Ls rest)) : OFin n0 p e below s Q ck sk T (mkF m pc Ls rest) := by
  obtain ⟨hx, hby, -, -, -, -, -, -, -, -, locs, X, -⟩ := G
  exact o_step (fun _ hr => XS.goto X.here hx rfl (pc0 := pc) (pc' := pc') rfl (hb hby hd) ho hp hr) k
theorem o_icmp_lt (G : OG l Z y bytes maxl ret n0 p e R s m args below meth c T h cells slots) {o : Int} {pcT : Nat} {u w : Int32} (hd : decode bytes pc = .ok (.if_icmp .lt o, 3)) (ho : 0 ≤ (pc : Int) + o) (hpT : ((pc : Int) + o).toNat = pcT) (hp : pc + 3 = pc') (kT : u < w → OFin n0 p e below s Q ck sk T (mkF m pcT Ls rest)) (kF : ¬ u < w → OFin n0 p e below s Q ck sk T (mkF m pc' Ls rest)) : OFin n0 p e below s Q ck sk T (mkF m pc Ls (.int w :: .int u :: rest)) := by
  subst hp
  obtain ⟨hx, hby, -, -, -, -, -, -, -, -, locs, X, -⟩ := G
  by_cases q : u < w
  · exact o_step (fun _ hr => XS.icmpYes X.here hx rfl (pc0 := pc) (pc' := pcT) rfl (hb hby hd) rfl (tlt q).1 ho hpT hr) (kT q)
  · exact o_step (fun _ hr => XS.icmpNo X.here hx rfl (hb hby hd) rfl (flt q).1 hr) (kF q)
theorem o_if_lt (G : OG l Z y bytes maxl ret n0 p e R s m args below meth c T h cells slots) {o : Int} {pcT : Nat} {u : Int32} (hd : decode bytes pc = .ok (.ifCond .lt o, 3)) (ho : 0 ≤ (pc : Int) + o) (hpT : ((pc : Int) + o).toNat = pcT) (hp : pc + 3 = pc') (kT : u < (0 : Int32) → OFin n0 p e below s Q ck sk T (mkF m pcT Ls rest)) (kF : ¬ u < (0 : Int32) → OFin n0 p e below s Q ck sk T (mkF m pc' Ls rest)) : OFin n0 p e below s Q ck sk T (mkF m pc Ls (.int u :: rest)) := by
  subst hp
  obtain ⟨hx, hby, -, -, -, -, -, -, -, -, locs, X, -⟩ := G
  by_cases q : u < (0 : Int32)
  · exact o_step (fun _ hr => XS.ifYes X.here hx rfl (pc0 := pc) (pc' := pcT) rfl (hb hby hd) rfl ((if0 _ _).trans (tlt q).1) ho hpT hr) (kT q)
  · exact o_step (fun _ hr => XS.ifNo X.here hx rfl (hb hby hd) rfl ((if0 _ _).trans (flt q).1) hr) (kF q)
theorem o_icmp_ge (G : OG l Z y bytes maxl ret n0 p e R s m args below meth c T h cells slots) {o : Int} {pcT : Nat} {u w : Int32} (hd : decode bytes pc = .ok (.if_icmp .ge o, 3)) (ho : 0 ≤ (pc : Int) + o) (hpT : ((pc : Int) + o).toNat = pcT) (hp : pc + 3 = pc') (kT : ¬ u < w → OFin n0 p e below s Q ck sk T (mkF m pcT Ls rest)) (kF : u < w → OFin n0 p e below s Q ck sk T (mkF m pc' Ls rest)) : OFin n0 p e below s Q ck sk T (mkF m pc Ls (.int w :: .int u :: rest)) := by
  subst hp
  obtain ⟨hx, hby, -, -, -, -, -, -, -, -, locs, X, -⟩ := G
  by_cases q : ¬ u < w
  · exact o_step (fun _ hr => XS.icmpYes X.here hx rfl (pc0 := pc) (pc' := pcT) rfl (hb hby hd) rfl (flt q).2.1 ho hpT hr) (kT q)
  · have q := Decidable.not_not.mp q
    exact o_step (fun _ hr => XS.icmpNo X.here hx rfl (hb hby hd) rfl (tlt q).2.1 hr) (kF q)
theorem o_icmp_le (G : OG l Z y bytes maxl ret n0 p e R s m args below meth c T h cells slots) {o : Int} {pcT : Nat} {u w : Int32} (hd : decode bytes pc = .ok (.if_icmp .le o, 3)) (ho : 0 ≤ (pc : Int) + o) (hpT : ((pc : Int) + o).toNat = pcT) (hp : pc + 3 = pc') (kT : ¬ w < u → OFin n0 p e below s Q ck sk T (mkF m pcT Ls rest)) (kF : w < u → OFin n0 p e below s Q ck sk T (mkF m pc' Ls rest)) : OFin n0 p e below s Q ck sk T (mkF m pc Ls (.int w :: .int u :: rest)) := by
  subst hp
  obtain ⟨hx, hby, -, -, -, -, -, -, -, -, locs, X, -⟩ := G
  by_cases q : ¬ w < u
  · exact o_step (fun _ hr => XS.icmpYes X.here hx rfl (pc0 := pc) (pc' := pcT) rfl (hb hby hd) rfl (flt q).2.2.2 ho hpT hr) (kT q)
  · have q := Decidable.not_not.mp q
    exact o_step (fun _ hr => XS.icmpNo X.here hx rfl (hb hby hd) rfl (tlt q).2.2.2 hr) (kF q)
theorem o_if_eq (G : OG l Z y bytes maxl ret n0 p e R s m args below meth c T h cells slots) {o : Int} {pcT : Nat} {u : Int32} (hd : decode bytes pc = .ok (.ifCond .eq o, 3)) (ho : 0 ≤ (pc : Int) + o) (hpT : ((pc : Int) + o).toNat = pcT) (hp : pc + 3 = pc') (kT : u = (0 : Int32) → OFin n0 p e below s Q ck sk T (mkF m pcT Ls rest)) (kF : ¬ u = (0 : Int32) → OFin n0 p e below s Q ck sk T (mkF m pc' Ls rest)) : OFin n0 p e below s Q ck sk T (mkF m pc Ls (.int u :: rest)) := by
  subst hp
  obtain ⟨hx, hby, -, -, -, -, -, -, -, -, locs, X, -⟩ := G
  by_cases q : u = (0 : Int32)
  · exact o_step (fun _ hr => XS.ifYes X.here hx rfl (pc0 := pc) (pc' := pcT) rfl (hb hby hd) rfl ((if0 _ _).trans (teq q).1) ho hpT hr) (kT q)
  · exact o_step (fun _ hr => XS.ifNo X.here hx rfl (hb hby hd) rfl ((if0 _ _).trans (feq q).1) hr) (kF q)
theorem o_icmp_ne (G : OG l Z y bytes maxl ret n0 p e R s m args below meth c T h cells slots) {o : Int} {pcT : Nat} {u w : Int32} (hd : decode bytes pc = .ok (.if_icmp .ne o, 3)) (ho : 0 ≤ (pc : Int) + o) (hpT : ((pc : Int) + o).toNat = pcT) (hp : pc + 3 = pc') (kT : ¬ u = w → OFin n0 p e below s Q ck sk T (mkF m pcT Ls rest)) (kF : u = w → OFin n0 p e below s Q ck sk T (mkF m pc' Ls rest)) : OFin n0 p e below s Q ck sk T (mkF m pc Ls (.int w :: .int u :: rest)) := by
  subst hp
  obtain ⟨hx, hby, -, -, -, -, -, -, -, -, locs, X, -⟩ := G
  by_cases q : ¬ u = w
  · exact o_step (fun _ hr => XS.icmpYes X.here hx rfl (pc0 := pc) (pc' := pcT) rfl (hb hby hd) rfl (feq q).2 ho hpT hr) (kT q)
  · have q := Decidable.not_not.mp q
    exact o_step (fun _ hr => XS.icmpNo X.here hx rfl (hb hby hd) rfl (teq q).2 hr) (kF q)
theorem o_ldc (G : OG l Z y bytes maxl ret n0 p e R s m args below meth c T h cells slots) {index : Nat} {v : Int32} (hd : decode bytes pc = .ok (.ldc index, 2)) (hp : pc + 2 = pc') (w : (Jvm.Cond.constant y.cls index v).before a0 Z = true) (k : OFin n0 p e below s Q ck sk T (mkF m pc' Ls (.int v :: rest))) : OFin n0 p e below s Q ck sk T (mkF m pc Ls rest) := by
  subst hp
  obtain ⟨hx, hby, -, hown, -, -, -, hZ, -, -, locs, X, -⟩ := G
  exact o_step (fun _ hr => X.ldcInt hx hown (mvT hZ w) (g := (mkF m pc Ls rest)) rfl (hb hby hd) _ hr) k
theorem o_ireturn {v : Int32} (G : OG l Z y bytes maxl (some .int) n0 p e R s m args below meth c T h cells slots)  (hd : decode bytes pc = .ok (.ireturn, 1)) (hq : Q (some (.int v)) h) (hc : cells ≤ ck) (hs : slots ≤ sk) : OFin n0 p e below s Q ck sk T (mkF m pc Ls (.int v :: rest)) := by
  obtain ⟨hx, hby, -, -, -, hret, hlk, -, eT, hz, locs, X, N⟩ := G
  obtain ⟨fs, hr, hrun, hended, hW, hsame⟩ := X.leave (v := some (.int v)) (fun h => by rw [hret] at h; cases h) hlk
  refine ⟨_, _, retOut X hx hret rfl (Or.inl ⟨rfl, Or.inl rfl, _, rfl⟩) (hb hby hd) hr, hrun, hended, _, _, rfl, ⟨N, ?_, ?_⟩, ⟨_, rfl⟩, hW, hsame.mono hc hs⟩
  · show n0 ≤ T.heap.size
    rw [eT]; exact hz
  · show Q _ T.heap
    rw [eT]; exact hq
theorem o_nreturn {v : Int32} {t : FieldType} (G : OG l Z y bytes maxl (some t) n0 p e R s m args below meth c T h cells slots) (ht : t = .boolean ∨ t = .byte ∨ t = .char ∨ t = .short) (hd : decode bytes pc = .ok (.ireturn, 1)) (hq : Q (some (.int (nar t v))) h) (hc : cells ≤ ck) (hs : slots ≤ sk) : OFin n0 p e below s Q ck sk T (mkF m pc Ls (.int v :: rest)) := by
  obtain ⟨hx, hby, -, -, -, hret, hlk, -, eT, hz, locs, X, N⟩ := G
  obtain ⟨fs, hr, hrun, hended, hW, hsame⟩ := X.leave (v := some (.int (nar t v))) (fun h => by rw [hret] at h; cases h) hlk
  refine ⟨_, _, retN X hx hret ht (hb hby hd) hr, hrun, hended, _, _, rfl, ⟨N, ?_, ?_⟩, ⟨_, rfl⟩, hW, hsame.mono hc hs⟩
  · show n0 ≤ T.heap.size
    rw [eT]; exact hz
  · show Q _ T.heap
    rw [eT]; exact hq
theorem o_callS (G : OG l Z y bytes maxl ret n0 p e R s m args below meth c T h cells slots) {z : MethodName} {bz : ByteArray} {mz : Nat} {rz : Option FieldType} {rm : Room} {Q' : Option Value → Heap → Prop} {index W : Nat} {argsL st : List Value} (w1 : (Jvm.Cond.methodLink y.cls index z).before a0 Z = true) (w2 : (Jvm.Cond.static z).before a0 Z = true) (hd : decode bytes pc = .ok (.invokestatic index, 3))
    (hy : z.cls ≠ "java/lang/invoke/MethodHandle" ∧ z.cls ≠ "java/lang/invoke/VarHandle") (w3 : (Jvm.Cond.initialized z.cls).before a0 Z = true) (w4 : (Jvm.Cond.code z bz mz rz).before a0 Z = true)
    (hM : OMet l Z z bz mz rz rm argsL.toArray h n0 rm.cells rm.slots Q') (hfr : rm.frames + 1 ≤ R.frames) (hlo : W + (mz + 11) + rm.locals ≤ R.locals) (hsz : Ls.size = maxl)
    (hlen : ∀ sig, parseMethodDescriptor z.desc = some sig → argsL.length = sig.parameters.length) (hst : st = argsL.reverse ++ rest) (hW : (rest.map fun v => v.category).sum ≤ W) (hp : pc + 3 = pc') (hc : cells + rm.cells ≤ R.cells) (hs : slots + rm.slots ≤ R.slots)
    (k : ∀ (v : Option Value) (T' : State) (h' : Heap), OG l Z y bytes maxl ret n0 p e R s m args below meth c T' h' (cells + rm.cells) (slots + rm.slots) → Q' v h' → OFin n0 p e below s Q ck sk T' (mkF m pc' Ls (v.toList ++ rest))) : OFin n0 p e below s Q ck sk T (mkF m pc Ls st) := by
  subst hp hst
  obtain ⟨hx, hby, hml, hown, hnm, hret, hlk, hZ, eT, hz, locs, X, N⟩ := G
  obtain ⟨v, vm1, ⟨T', L', k', n'⟩, -, X', ⟨L, ⟨N', z', hQ⟩, l1, y1, z1⟩, st0⟩ := Jvm.LawKit.callS X hx (y := z) hown (mvT hZ w1) (mvT hZ w2) (mvT hZ w3) (mvT hZ w4) hy (backOf (W := W) (Q := fun v h L => Fr n0 L ∧ n0 ≤ h.size ∧ Q' v h) (hM []) hZ w4 w3 hfr hlo) (g := (mkF m pc Ls (argsL.reverse ++ rest))) rfl (by show Ls.size = _; rw [hml]; exact hsz) (argsL := argsL) (rest := rest) hlen rfl (by show 2 * 0 + _ ≤ _; omega) (hb hby hd) (fun _ _ => ⟨rfl, eT, hc, hs⟩)
  dsimp only [Pt.U, Pt.locs, Pt.cells, Pt.slots] at X' l1 y1 z1 st0 hQ N' z'
  subst l1 y1 z1
  exact o_step st0 (k v T' T'.heap ⟨hx, hby, hml, hown, hnm, hret, hlk, hZ, rfl, z', _, X', Fr.app N N'⟩ hQ)
/-- an array of n places at a; place j holds f j -/
def OArr (Z : State) (h : Heap) (a : Addr) (ty : FieldType) (n : Nat) (f : Nat → Value) : Prop := ∃ cl : Cell, Arr Z h a cl ty ∧ cl.slots.size = n ∧ ∀ j, j < n → cl.slots[j]? = some (f j)
def o_set (f : Nat → Value) (i : Nat) (v : Value) : Nat → Value := fun j => if j = i then v else f j
theorem OArr.lt {a : Addr} {ty : FieldType} {n : Nat} {f : Nat → Value} (A : OArr Z h a ty n f) : a < h.size := by obtain ⟨cl, A, -⟩ := A; exact A.lt
theorem OArr.same {h' : Heap} {a : Addr} {i : Nat} {v : Value} {ty : FieldType} {n : Nat} {f : Nat → Value} (A : OArr Z h a ty n f) (W : Wr h h' a i v) : OArr Z h' a ty n (o_set f i v) := by
  obtain ⟨cl, A, S, H⟩ := A
  have hi : i < n := by
    obtain ⟨cell, h1, -, h3, -⟩ := W
    cases h1.symm.trans A.1
    rw [← S]; exact h3
  refine ⟨_, A.same W, by rw [sz_set]; exact S, fun j hj => ?_⟩
  by_cases q : j = i
  · subst q; simp [Cell.setSlot, o_set, S, hi]
  · have := H j hj
    simp only [Cell.setSlot, o_set, q, if_false]
    rw [Array.getElem?_setIfInBounds_ne (Ne.symm q)]; exact this
theorem OArr.congr {a : Addr} {ty : FieldType} {n : Nat} {f f' : Nat → Value} (A : OArr Z h a ty n f) (q : ∀ j, j < n → f j = f' j) : OArr Z h a ty n f' := by
  obtain ⟨cl, A, S, H⟩ := A
  exact ⟨cl, A, S, fun j hj => by rw [← q j hj]; exact H j hj⟩
theorem o_clamp {j : Int32} {i : Nat} (h : j.toInt = (i : Int)) : ¬ j < 0 ∧ j.toNatClampNeg = i := by
  constructor
  · rw [Int32.lt_iff_toInt_lt, h]; have : (0 : Int32).toInt = 0 := rfl
    omega
  · simp only [Int32.toNatClampNeg, h]; rfl
theorem o_baload (G : OG l Z y bytes maxl ret n0 p e R s m args below meth c T h cells slots) {a : Addr} {n i : Nat} {f : Nat → Value} {j : Int32} {v : Value} (A : OArr Z h a .byte n f) (hj : j.toInt = (i : Int)) (hi : i < n) (hv : f i = v) (hd : decode bytes pc = .ok (.baload, 1)) (hp : pc + 1 = pc') (k : OFin n0 p e below s Q ck sk T (mkF m pc' Ls (v :: rest))) : OFin n0 p e below s Q ck sk T (mkF m pc Ls (.int j :: .ref a :: rest)) := by
  subst hp hv
  obtain ⟨hx, hby, -, -, -, -, -, hZ, eT, -, locs, X, -⟩ := G
  obtain ⟨cl, A, S, H⟩ := A
  obtain ⟨q1, q2⟩ := o_clamp hj
  exact o_step (fun _ hr => X.baloadBytes hx (j := j) (v := f i) (by rw [eT]; exact A.1) (State.isArrayOf_alike hZ.alike A.2.1) A.2.2 (by rw [S, q2]; exact fun q => q.elim q1 (fun q => absurd hi (Nat.not_lt.mpr q))) (by rw [q2]; exact H i hi) (g := (mkF m pc Ls (.int j :: .ref a :: rest))) rfl rfl (hb hby hd) _ hr) k
theorem o_bastore (G : OG l Z y bytes maxl ret n0 p e R s m args below meth c T h cells slots) {a : Addr} {n i : Nat} {f : Nat → Value} {j : Int32} {v : Int32} (A : OArr Z h a .byte n f) (hg : n0 ≤ a) (hj : j.toInt = (i : Int)) (hi : i < n) (hd : decode bytes pc = .ok (.bastore, 1)) (hp : pc + 1 = pc')
    (k : ∀ (T' : State) (h' : Heap), OG l Z y bytes maxl ret n0 p e R s m args below meth c T' h' cells slots → Wr h h' a i (.int (nar .byte v)) → OArr Z h' a .byte n (o_set f i (.int (nar .byte v))) → OFin n0 p e below s Q ck sk T' (mkF m pc' Ls rest)) : OFin n0 p e below s Q ck sk T (mkF m pc Ls (.int v :: .int j :: .ref a :: rest)) := by
  subst hp
  have A0 := A
  obtain ⟨hx, hby, hml, hown, hnm, hret, hlk, hZ, eT, hz, locs, X, N⟩ := G
  obtain ⟨cl, A, S, H⟩ := A
  obtain ⟨q1, q2⟩ := o_clamp hj
  obtain ⟨T', h', X', e', W', st⟩ := stB X hx hZ eT A (j := j) (x := v) (by rw [S, q2]; exact fun q => q.elim q1 (fun q => absurd hi (Nat.not_lt.mpr q))) (g := (mkF m pc Ls (.int v :: .int j :: .ref a :: rest))) rfl rfl (hb hby hd)
  rw [q2] at W' X'
  exact o_step st (k T' h' ⟨hx, hby, hml, hown, hnm, hret, hlk, hZ, e', by rw [W'.size]; exact hz, _, X', Fr.snoc X' N hg⟩ W' (A0.same W'))
theorem o_newarray (G : OG l Z y bytes maxl ret n0 p e R s m args below meth c T h cells slots) {aty : ArrayType} {n : Int32} {N cap : Nat} (w : (Jvm.Cond.arrayClass (newarray.typeOf aty)).before a0 Z = true) (hn : n.toInt = (N : Int)) (hcap : N ≤ cap) (hb8 : cap * 8 ≤ 536870912) (hd : decode bytes pc = .ok (.newarray aty, 2)) (hp : pc + 2 = pc') (hc : cells + 1 ≤ R.cells) (hl : slots + cap ≤ R.slots)
    (k : ∀ (T' : State) (h' : Heap) (a : Addr), OG l Z y bytes maxl ret n0 p e R s m args below meth c T' h' (cells + 1) (slots + cap) → a = h.size → n0 ≤ a → Ext h h' → OArr Z h' a (newarray.typeOf aty) N (fun _ => defaultValue (newarray.typeOf aty)) → OFin n0 p e below s Q ck sk T' (mkF m pc' Ls (.ref a :: rest))) : OFin n0 p e below s Q ck sk T (mkF m pc Ls (.int n :: rest)) := by
  subst hp
  obtain ⟨hx, hby, hml, hown, hnm, hret, hlk, hZ, eT, hz, locs, X, N'⟩ := G
  obtain ⟨q1, q2⟩ := o_clamp hn
  obtain ⟨T', h', cA, X', e', E', A', st⟩ := newP X hx hZ w eT (g := (mkF m pc Ls (.int n :: rest))) rfl (hb hby hd) rfl q1 (cap := cap) (by rw [q2]; exact hcap) hb8 hc hl
  refine o_step st (k T' h' h.size ⟨hx, hby, hml, hown, hnm, hret, hlk, hZ, e', Nat.le_trans hz E'.1, _, X', N'⟩ rfl hz E' ⟨_, A', by rw [sz_new, q2], fun j hj => ?_⟩)
  simp [newA, q2, hj]
theorem o_idx {j : Int32} {n : Nat} (h0 : 0 ≤ j.toInt) (h1 : j.toInt < (n : Int)) : j.toInt = (j.toNatClampNeg : Int) ∧ j.toNatClampNeg < n := by
  constructor
  · simp only [Int32.toNatClampNeg]; omega
  · simp only [Int32.toNatClampNeg]; omega
theorem o_i32 {a b : Int32} (h1 : -2147483648 ≤ a.toInt + b.toInt) (h2 : a.toInt + b.toInt < 2147483648) : (a + b).toInt = a.toInt + b.toInt := by
  rw [Int32.toInt_add, Int.bmod_def]
  split <;> omega
theorem o_s32 {a b : Int32} (h1 : -2147483648 ≤ a.toInt - b.toInt) (h2 : a.toInt - b.toInt < 2147483648) : (a - b).toInt = a.toInt - b.toInt := by
  rw [Int32.toInt_sub, Int.bmod_def]
  split <;> omega
/-- a contract that leaves the heap as it was and returns one value -/
abbrev OVal (h0 : Heap) (r : Value) : Option Value → Heap → Prop := fun v h => v = some r ∧ h0 = h
theorem o_callP (G : OG l Z y bytes maxl ret n0 p e R s m args below meth c T h cells slots) {z : MethodName} {bz : ByteArray} {mz : Nat} {rz : Option FieldType} {rm : Room} {r : Value} {index W : Nat} {argsL st : List Value} (w1 : (Jvm.Cond.methodLink y.cls index z).before a0 Z = true) (w2 : (Jvm.Cond.static z).before a0 Z = true) (hd : decode bytes pc = .ok (.invokestatic index, 3))
    (hy : z.cls ≠ "java/lang/invoke/MethodHandle" ∧ z.cls ≠ "java/lang/invoke/VarHandle") (w3 : (Jvm.Cond.initialized z.cls).before a0 Z = true) (w4 : (Jvm.Cond.code z bz mz rz).before a0 Z = true)
    (hM : OMet l Z z bz mz rz rm argsL.toArray h n0 rm.cells rm.slots (OVal h r)) (hfr : rm.frames + 1 ≤ R.frames) (hlo : W + (mz + 11) + rm.locals ≤ R.locals) (hsz : Ls.size = maxl)
    (hlen : ∀ sig, parseMethodDescriptor z.desc = some sig → argsL.length = sig.parameters.length) (hst : st = argsL.reverse ++ rest) (hW : (rest.map fun v => v.category).sum ≤ W) (hp : pc + 3 = pc') (hc : cells + rm.cells ≤ R.cells) (hs : slots + rm.slots ≤ R.slots)
    (k : ∀ (T' : State), OG l Z y bytes maxl ret n0 p e R s m args below meth c T' h (cells + rm.cells) (slots + rm.slots) → OFin n0 p e below s Q ck sk T' (mkF m pc' Ls (r :: rest))) : OFin n0 p e below s Q ck sk T (mkF m pc Ls st) := by
  refine o_callS G w1 w2 hd hy w3 w4 hM hfr hlo hsz hlen hst hW hp hc hs ?_
  rintro v T' h' G' ⟨hv, hh⟩
  subst hv hh
  exact k T' G'
end OwnKit
theorem pd_0 : parseMethodDescriptor "(JJI)I" = some ⟨[.long, .long, .int], some .int⟩ := by decide +kernel
theorem pd_1 : parseMethodDescriptor "(JJIIIZ)B" = some ⟨[.long, .long, .int, .int, .int, .boolean], some .byte⟩ := by decide +kernel
theorem pd_2 : parseMethodDescriptor "([BII)I" = some ⟨[(.array .byte), .int, .int], some .int⟩ := by decide +kernel
theorem d2_0 : decode method_2_code 0 = .ok (.iload 4, 2) := by decide +kernel
theorem d2_2 : decode method_2_code 2 = .ok (.bipush 8, 2) := by decide +kernel
theorem d2_4 : decode method_2_code 4 = .ok (.if_icmp .ge 16, 3) := by decide +kernel
theorem d2_7 : decode method_2_code 7 = .ok (.lload_n 0, 1) := by decide +kernel
theorem d2_8 : decode method_2_code 8 = .ok (.bipush 8, 2) := by decide +kernel
theorem d2_10 : decode method_2_code 10 = .ok (.iload 4, 2) := by decide +kernel
theorem d2_12 : decode method_2_code 12 = .ok (.imul, 1) := by decide +kernel
theorem d2_13 : decode method_2_code 13 = .ok (.lushr, 1) := by decide +kernel
theorem d2_14 : decode method_2_code 14 = .ok (.l2i, 1) := by decide +kernel
theorem d2_15 : decode method_2_code 15 = .ok (.sipush 255, 3) := by decide +kernel
theorem d2_18 : decode method_2_code 18 = .ok (.iand, 1) := by decide +kernel
theorem d2_19 : decode method_2_code 19 = .ok (.ireturn, 1) := by decide +kernel
theorem d2_20 : decode method_2_code 20 = .ok (.lload_n 2, 1) := by decide +kernel
theorem d2_21 : decode method_2_code 21 = .ok (.bipush 8, 2) := by decide +kernel
theorem d2_23 : decode method_2_code 23 = .ok (.iload 4, 2) := by decide +kernel
theorem d2_25 : decode method_2_code 25 = .ok (.bipush 8, 2) := by decide +kernel
theorem d2_27 : decode method_2_code 27 = .ok (.isub, 1) := by decide +kernel
theorem d2_28 : decode method_2_code 28 = .ok (.imul, 1) := by decide +kernel
theorem d2_29 : decode method_2_code 29 = .ok (.lushr, 1) := by decide +kernel
theorem d2_30 : decode method_2_code 30 = .ok (.l2i, 1) := by decide +kernel
theorem d2_31 : decode method_2_code 31 = .ok (.sipush 255, 3) := by decide +kernel
theorem d2_34 : decode method_2_code 34 = .ok (.iand, 1) := by decide +kernel
theorem d2_35 : decode method_2_code 35 = .ok (.ireturn, 1) := by decide +kernel
theorem pn_2 : plainName "com/example/keyfold/keyfold/VarintEndPinLaw" = true := by first | (simp [plainName, overriddenIn]; done) | decide +kernel
theorem ef_2 (m : MethodId) (q0 : Int64) (q1 : Int64) (p2 : Int32) : entryFrame m #[(.long q0), (.long q1), (.int p2)] 5 = mkF m 0 #[.val (.long q0), .second, .val (.long q1), .second, .val (.int p2)] [] := by first | (simp [entryFrame, mkF, argsToLocals, Value.category]; done) | rfl
def f_2 (q0 : Int64) (q1 : Int64) (p2 : Int32) : Int32 := if p2 < (8 : Int32) then ((((q0.toUInt64 >>> (((8 : Int32) * p2) &&& 0x3f).toInt64.toUInt64).toInt64).toInt32) &&& (255 : Int32)) else ((((q1.toUInt64 >>> (((8 : Int32) * (p2 - (8 : Int32))) &&& 0x3f).toInt64.toUInt64).toInt64).toInt32) &&& (255 : Int32))
set_option maxRecDepth 65536 in
set_option maxHeartbeats 40000000 in
theorem rm2 {l : Launch} {Z : State} {a0 : Array Value} (hw : ∀ d ∈ tables_1, d.before a0 Z = true) (q0 : Int64) (q1 : Int64) (p2 : Int32) (h0 : Heap) (n0 : Nat) (hz : n0 ≤ h0.size) :
    OMet l Z (⟨"com/example/keyfold/keyfold/VarintEndPinLaw", "rawByte", "(JJI)I"⟩ : MethodName) method_2_code 5 (some .int) ({ frames := 0, cells := 0, slots := 0, locals := 0 } : Room) #[(.long q0), (.long q1), (.int p2)] h0 n0 ({ frames := 0, cells := 0, slots := 0, locals := 0 } : Room).cells ({ frames := 0, cells := 0, slots := 0, locals := 0 } : Room).slots (OVal h0 (.int (f_2 q0 q1 p2))) := by
  refine o_body (plainFor_of_name pn_2) hz (fun m => ef_2 m q0 q1 p2) ?_
  intro p e s m below meth c s₁ G0
  refine o_iload G0 d2_0 (pc' := 2) rfl rfl ?_
  refine o_bipush G0 d2_2 (pc' := 4) rfl (v := (8 : Int32)) rfl ?_
  refine o_icmp_ge G0 d2_4 (by decide) (pcT := 20) (by decide) (pc' := 7) rfl (fun hc4 => ?_) (fun hc4 => ?_)
  · refine o_lloadN G0 d2_20 (pc' := 21) rfl rfl ?_
    refine o_bipush G0 d2_21 (pc' := 23) rfl (v := (8 : Int32)) rfl ?_
    refine o_iload G0 d2_23 (pc' := 25) rfl rfl ?_
    refine o_bipush G0 d2_25 (pc' := 27) rfl (v := (8 : Int32)) rfl ?_
    obtain ⟨v1, e1⟩ : ∃ z, p2 - (8 : Int32) = z := ⟨_, rfl⟩
    refine o_isub G0 d2_27 (pc' := 28) rfl e1 ?_
    obtain ⟨v2, e2⟩ : ∃ z, (8 : Int32) * v1 = z := ⟨_, rfl⟩
    refine o_imul G0 d2_28 (pc' := 29) rfl e2 ?_
    obtain ⟨v3, e3⟩ : ∃ z, (q1.toUInt64 >>> (v2 &&& 0x3f).toInt64.toUInt64).toInt64 = z := ⟨_, rfl⟩
    refine o_lushr G0 d2_29 (pc' := 30) rfl e3 ?_
    obtain ⟨v4, e4⟩ : ∃ z, v3.toInt32 = z := ⟨_, rfl⟩
    refine o_l2i G0 d2_30 (pc' := 31) rfl e4 ?_
    refine o_sipush G0 d2_31 (pc' := 34) rfl (v := (255 : Int32)) rfl ?_
    obtain ⟨v5, e5⟩ : ∃ z, v4 &&& (255 : Int32) = z := ⟨_, rfl⟩
    refine o_iand G0 d2_34 (pc' := 35) rfl e5 ?_
    have hq : v5 = f_2 q0 q1 p2 := by
      subst e1 e2 e3 e4 e5
      rw [f_2, if_neg hc4]
    exact o_ireturn G0 d2_35 ⟨congrArg (fun z => some (Value.int z)) hq, rfl⟩ (by decide) (by decide)
  · refine o_lloadN G0 d2_7 (pc' := 8) rfl rfl ?_
    refine o_bipush G0 d2_8 (pc' := 10) rfl (v := (8 : Int32)) rfl ?_
    refine o_iload G0 d2_10 (pc' := 12) rfl rfl ?_
    obtain ⟨v6, e6⟩ : ∃ z, (8 : Int32) * p2 = z := ⟨_, rfl⟩
    refine o_imul G0 d2_12 (pc' := 13) rfl e6 ?_
    obtain ⟨v7, e7⟩ : ∃ z, (q0.toUInt64 >>> (v6 &&& 0x3f).toInt64.toUInt64).toInt64 = z := ⟨_, rfl⟩
    refine o_lushr G0 d2_13 (pc' := 14) rfl e7 ?_
    obtain ⟨v8, e8⟩ : ∃ z, v7.toInt32 = z := ⟨_, rfl⟩
    refine o_l2i G0 d2_14 (pc' := 15) rfl e8 ?_
    refine o_sipush G0 d2_15 (pc' := 18) rfl (v := (255 : Int32)) rfl ?_
    obtain ⟨v9, e9⟩ : ∃ z, v8 &&& (255 : Int32) = z := ⟨_, rfl⟩
    refine o_iand G0 d2_18 (pc' := 19) rfl e9 ?_
    have hq : v9 = f_2 q0 q1 p2 := by
      subst e6 e7 e8 e9
      rw [f_2, if_pos hc4]
    exact o_ireturn G0 d2_19 ⟨congrArg (fun z => some (Value.int z)) hq, rfl⟩ (by decide) (by decide)
theorem d1_0 : decode method_3_code 0 = .ok (.lload_n 0, 1) := by decide +kernel
theorem d1_1 : decode method_3_code 1 = .ok (.lload_n 2, 1) := by decide +kernel
theorem d1_2 : decode method_3_code 2 = .ok (.iload 4, 2) := by decide +kernel
theorem d1_4 : decode method_3_code 4 = .ok (.invokestatic 7, 3) := by decide +kernel
theorem d1_7 : decode method_3_code 7 = .ok (.istore 8, 2) := by decide +kernel
theorem d1_9 : decode method_3_code 9 = .ok (.iload 4, 2) := by decide +kernel
theorem d1_11 : decode method_3_code 11 = .ok (.iload 5, 2) := by decide +kernel
theorem d1_13 : decode method_3_code 13 = .ok (.if_icmp .lt 10, 3) := by decide +kernel
theorem d1_16 : decode method_3_code 16 = .ok (.iload 4, 2) := by decide +kernel
theorem d1_18 : decode method_3_code 18 = .ok (.iload 6, 2) := by decide +kernel
theorem d1_20 : decode method_3_code 20 = .ok (.if_icmp .le 7, 3) := by decide +kernel
theorem d1_23 : decode method_3_code 23 = .ok (.iload 8, 2) := by decide +kernel
theorem d1_25 : decode method_3_code 25 = .ok (.i2b, 1) := by decide +kernel
theorem d1_26 : decode method_3_code 26 = .ok (.ireturn, 1) := by decide +kernel
theorem d1_27 : decode method_3_code 27 = .ok (.iload 4, 2) := by decide +kernel
theorem d1_29 : decode method_3_code 29 = .ok (.iload 6, 2) := by decide +kernel
theorem d1_31 : decode method_3_code 31 = .ok (.if_icmp .ge 11, 3) := by decide +kernel
theorem d1_34 : decode method_3_code 34 = .ok (.iload 8, 2) := by decide +kernel
theorem d1_36 : decode method_3_code 36 = .ok (.sipush 128, 3) := by decide +kernel
theorem d1_39 : decode method_3_code 39 = .ok (.ior, 1) := by decide +kernel
theorem d1_40 : decode method_3_code 40 = .ok (.i2b, 1) := by decide +kernel
theorem d1_41 : decode method_3_code 41 = .ok (.ireturn, 1) := by decide +kernel
theorem d1_42 : decode method_3_code 42 = .ok (.iload 7, 2) := by decide +kernel
theorem d1_44 : decode method_3_code 44 = .ok (.ifCond .eq 5, 3) := by decide +kernel
theorem d1_47 : decode method_3_code 47 = .ok (.iconst 0, 1) := by decide +kernel
theorem d1_48 : decode method_3_code 48 = .ok (.ireturn, 1) := by decide +kernel
theorem d1_49 : decode method_3_code 49 = .ok (.iload 8, 2) := by decide +kernel
theorem d1_51 : decode method_3_code 51 = .ok (.bipush 127, 2) := by decide +kernel
theorem d1_53 : decode method_3_code 53 = .ok (.iand, 1) := by decide +kernel
theorem d1_54 : decode method_3_code 54 = .ok (.i2b, 1) := by decide +kernel
theorem d1_55 : decode method_3_code 55 = .ok (.ireturn, 1) := by decide +kernel
theorem pn_1 : plainName "com/example/keyfold/keyfold/VarintEndPinLaw" = true := by first | (simp [plainName, overriddenIn]; done) | decide +kernel
theorem ef_1 (m : MethodId) (q0 : Int64) (q1 : Int64) (p2 : Int32) (p3 : Int32) (p4 : Int32) (p5 : Int32) : entryFrame m #[(.long q0), (.long q1), (.int p2), (.int p3), (.int p4), (.int p5)] 9 = mkF m 0 #[.val (.long q0), .second, .val (.long q1), .second, .val (.int p2), .val (.int p3), .val (.int p4), .val (.int p5), .unset] [] := by first | (simp [entryFrame, mkF, argsToLocals, Value.category]; done) | rfl
def f_1 (q0 : Int64) (q1 : Int64) (p2 : Int32) (p3 : Int32) (p4 : Int32) (p5 : Int32) : Int32 := if p2 < p3 then (nar .byte ((f_2 q0 q1 p2).toInt8.toInt32)) else (if p4 < p2 then (nar .byte ((f_2 q0 q1 p2).toInt8.toInt32)) else (if p2 < p4 then (nar .byte (((f_2 q0 q1 p2) ||| (128 : Int32)).toInt8.toInt32)) else (if p5 = (0 : Int32) then (nar .byte (((f_2 q0 q1 p2) &&& (127 : Int32)).toInt8.toInt32)) else (0 : Int32))))
set_option maxRecDepth 65536 in
set_option maxHeartbeats 40000000 in
theorem rm1 {l : Launch} {Z : State} {a0 : Array Value} (hw : ∀ d ∈ tables_1, d.before a0 Z = true) (q0 : Int64) (q1 : Int64) (p2 : Int32) (p3 : Int32) (p4 : Int32) (p5 : Int32) (h0 : Heap) (n0 : Nat) (hz : n0 ≤ h0.size) :
    OMet l Z (⟨"com/example/keyfold/keyfold/VarintEndPinLaw", "shaped", "(JJIIIZ)B"⟩ : MethodName) method_3_code 9 (some .byte) ({ frames := 1, cells := 0, slots := 0, locals := 16 } : Room) #[(.long q0), (.long q1), (.int p2), (.int p3), (.int p4), (.int p5)] h0 n0 ({ frames := 1, cells := 0, slots := 0, locals := 16 } : Room).cells ({ frames := 1, cells := 0, slots := 0, locals := 16 } : Room).slots (OVal h0 (.int (f_1 q0 q1 p2 p3 p4 p5))) := by
  refine o_body (plainFor_of_name pn_1) hz (fun m => ef_1 m q0 q1 p2 p3 p4 p5) ?_
  intro p e s m below meth c s₁ G0
  refine o_lloadN G0 d1_0 (pc' := 1) rfl rfl ?_
  refine o_lloadN G0 d1_1 (pc' := 2) rfl rfl ?_
  refine o_iload G0 d1_2 (pc' := 4) rfl rfl ?_
  obtain ⟨v1, e1⟩ : ∃ z, f_2 q0 q1 p2 = z := ⟨_, rfl⟩
  refine o_callP G0 (z := (⟨"com/example/keyfold/keyfold/VarintEndPinLaw", "rawByte", "(JJI)I"⟩ : MethodName)) (r := (.int v1)) (argsL := [(.long q0), (.long q1), (.int p2)]) (rest := []) (W := 0) (hw _ (List.mem_of_getElem? (i := 6) rfl)) (hw _ (List.mem_of_getElem? (i := 7) rfl)) d1_4 (by decide) (hw _ (List.mem_of_getElem? (i := 4) rfl)) (hw _ (List.mem_of_getElem? (i := 8) rfl)) (by rw [← e1]; exact rm2 hw q0 q1 p2 h0 n0 G0.sz) (by decide) (by decide) rfl (lenOf pd_0 rfl) rfl (Nat.le_of_eq rfl) (pc' := 7) rfl (by decide) (by decide) ?_
  intro T2 G2
  refine o_istore G2 d1_7 (pc' := 9) rfl (l' := #[.val (.long q0), .second, .val (.long q1), .second, .val (.int p2), .val (.int p3), .val (.int p4), .val (.int p5), .val (.int v1)]) rfl ?_
  refine o_iload G2 d1_9 (pc' := 11) rfl rfl ?_
  refine o_iload G2 d1_11 (pc' := 13) rfl rfl ?_
  refine o_icmp_lt G2 d1_13 (by decide) (pcT := 23) (by decide) (pc' := 16) rfl (fun hc13 => ?_) (fun hc13 => ?_)
  · refine o_iload G2 d1_23 (pc' := 25) rfl rfl ?_
    obtain ⟨v3, e3⟩ : ∃ z, v1.toInt8.toInt32 = z := ⟨_, rfl⟩
    refine o_i2b G2 d1_25 (pc' := 26) rfl e3 ?_
    have hq : (nar .byte v3) = f_1 q0 q1 p2 p3 p4 p5 := by
      subst e1 e3
      rw [f_1, if_pos hc13]
      try rfl
    exact o_nreturn (t := .byte) G2 (by simp) d1_26 ⟨congrArg (fun z => some (Value.int z)) hq, rfl⟩ (by decide) (by decide)
  · refine o_iload G2 d1_16 (pc' := 18) rfl rfl ?_
    refine o_iload G2 d1_18 (pc' := 20) rfl rfl ?_
    refine o_icmp_le G2 d1_20 (by decide) (pcT := 27) (by decide) (pc' := 23) rfl (fun hc20 => ?_) (fun hc20 => ?_)
    · refine o_iload G2 d1_27 (pc' := 29) rfl rfl ?_
      refine o_iload G2 d1_29 (pc' := 31) rfl rfl ?_
      refine o_icmp_ge G2 d1_31 (by decide) (pcT := 42) (by decide) (pc' := 34) rfl (fun hc31 => ?_) (fun hc31 => ?_)
      · refine o_iload G2 d1_42 (pc' := 44) rfl rfl ?_
        refine o_if_eq G2 d1_44 (by decide) (pcT := 49) (by decide) (pc' := 47) rfl (fun hc44 => ?_) (fun hc44 => ?_)
        · refine o_iload G2 d1_49 (pc' := 51) rfl rfl ?_
          refine o_bipush G2 d1_51 (pc' := 53) rfl (v := (127 : Int32)) rfl ?_
          obtain ⟨v4, e4⟩ : ∃ z, v1 &&& (127 : Int32) = z := ⟨_, rfl⟩
          refine o_iand G2 d1_53 (pc' := 54) rfl e4 ?_
          obtain ⟨v5, e5⟩ : ∃ z, v4.toInt8.toInt32 = z := ⟨_, rfl⟩
          refine o_i2b G2 d1_54 (pc' := 55) rfl e5 ?_
          have hq : (nar .byte v5) = f_1 q0 q1 p2 p3 p4 p5 := by
            subst e1 e4 e5
            rw [f_1, if_neg hc13, if_neg hc20, if_neg hc31, if_pos hc44]
            try rfl
          exact o_nreturn (t := .byte) G2 (by simp) d1_55 ⟨congrArg (fun z => some (Value.int z)) hq, rfl⟩ (by decide) (by decide)
        · refine o_iconst G2 d1_47 (pc' := 48) rfl (v := (0 : Int32)) rfl ?_
          have hq : (nar .byte (0 : Int32)) = f_1 q0 q1 p2 p3 p4 p5 := by
            subst e1
            rw [f_1, if_neg hc13, if_neg hc20, if_neg hc31, if_neg hc44]
            try rfl
          exact o_nreturn (t := .byte) G2 (by simp) d1_48 ⟨congrArg (fun z => some (Value.int z)) hq, rfl⟩ (by decide) (by decide)
      · refine o_iload G2 d1_34 (pc' := 36) rfl rfl ?_
        refine o_sipush G2 d1_36 (pc' := 39) rfl (v := (128 : Int32)) rfl ?_
        obtain ⟨v6, e6⟩ : ∃ z, v1 ||| (128 : Int32) = z := ⟨_, rfl⟩
        refine o_ior G2 d1_39 (pc' := 40) rfl e6 ?_
        obtain ⟨v7, e7⟩ : ∃ z, v6.toInt8.toInt32 = z := ⟨_, rfl⟩
        refine o_i2b G2 d1_40 (pc' := 41) rfl e7 ?_
        have hq : (nar .byte v7) = f_1 q0 q1 p2 p3 p4 p5 := by
          subst e1 e6 e7
          rw [f_1, if_neg hc13, if_neg hc20, if_pos hc31]
          try rfl
        exact o_nreturn (t := .byte) G2 (by simp) d1_41 ⟨congrArg (fun z => some (Value.int z)) hq, rfl⟩ (by decide) (by decide)
    · refine o_iload G2 d1_23 (pc' := 25) rfl rfl ?_
      obtain ⟨v8, e8⟩ : ∃ z, v1.toInt8.toInt32 = z := ⟨_, rfl⟩
      refine o_i2b G2 d1_25 (pc' := 26) rfl e8 ?_
      have hq : (nar .byte v8) = f_1 q0 q1 p2 p3 p4 p5 := by
        subst e1 e8
        rw [f_1, if_neg hc13, if_pos hc20]
        try rfl
      exact o_nreturn (t := .byte) G2 (by simp) d1_26 ⟨congrArg (fun z => some (Value.int z)) hq, rfl⟩ (by decide) (by decide)
def own_end (f : Nat → Int32) (p1 p2 : Int32) : Nat → Int32 → Int32
  | 0, _ => -1
  | k + 1, i => if p1 + i < p2 then (if f (p1 + i).toNatClampNeg < 0 then own_end f p1 p2 k (i + 1) else (if i = 0 then (p1 + i + 1) else (if f (p1 + i).toNatClampNeg = 0 then -1 else p1 + i + 1))) else -1
theorem d3_0 : decode prog_142_method_5_code 0 = .ok (.iconst 0, 1) := by decide +kernel
theorem d3_1 : decode prog_142_method_5_code 1 = .ok (.istore_n 3, 1) := by decide +kernel
theorem d3_2 : decode prog_142_method_5_code 2 = .ok (.iload_n 3, 1) := by decide +kernel
theorem d3_3 : decode prog_142_method_5_code 3 = .ok (.bipush 9, 2) := by decide +kernel
theorem d3_5 : decode prog_142_method_5_code 5 = .ok (.if_icmp .ge 59, 3) := by decide +kernel
theorem d3_8 : decode prog_142_method_5_code 8 = .ok (.iload_n 1, 1) := by decide +kernel
theorem d3_9 : decode prog_142_method_5_code 9 = .ok (.iload_n 3, 1) := by decide +kernel
theorem d3_10 : decode prog_142_method_5_code 10 = .ok (.iadd, 1) := by decide +kernel
theorem d3_11 : decode prog_142_method_5_code 11 = .ok (.iload_n 2, 1) := by decide +kernel
theorem d3_12 : decode prog_142_method_5_code 12 = .ok (.if_icmp .ge 52, 3) := by decide +kernel
theorem d3_15 : decode prog_142_method_5_code 15 = .ok (.aload_n 0, 1) := by decide +kernel
theorem d3_16 : decode prog_142_method_5_code 16 = .ok (.iload_n 1, 1) := by decide +kernel
theorem d3_17 : decode prog_142_method_5_code 17 = .ok (.iload_n 3, 1) := by decide +kernel
theorem d3_18 : decode prog_142_method_5_code 18 = .ok (.iadd, 1) := by decide +kernel
theorem d3_19 : decode prog_142_method_5_code 19 = .ok (.baload, 1) := by decide +kernel
theorem d3_20 : decode prog_142_method_5_code 20 = .ok (.istore 4, 2) := by decide +kernel
theorem d3_22 : decode prog_142_method_5_code 22 = .ok (.iload 4, 2) := by decide +kernel
theorem d3_24 : decode prog_142_method_5_code 24 = .ok (.ifCond .lt 34, 3) := by decide +kernel
theorem d3_27 : decode prog_142_method_5_code 27 = .ok (.iload_n 3, 1) := by decide +kernel
theorem d3_28 : decode prog_142_method_5_code 28 = .ok (.ifCond .eq 8, 3) := by decide +kernel
theorem d3_31 : decode prog_142_method_5_code 31 = .ok (.iload 4, 2) := by decide +kernel
theorem d3_33 : decode prog_142_method_5_code 33 = .ok (.ifCond .eq 7, 3) := by decide +kernel
theorem d3_36 : decode prog_142_method_5_code 36 = .ok (.iconst 1, 1) := by decide +kernel
theorem d3_37 : decode prog_142_method_5_code 37 = .ok (.goto 4, 3) := by decide +kernel
theorem d3_40 : decode prog_142_method_5_code 40 = .ok (.iconst 0, 1) := by decide +kernel
theorem d3_41 : decode prog_142_method_5_code 41 = .ok (.istore 5, 2) := by decide +kernel
theorem d3_43 : decode prog_142_method_5_code 43 = .ok (.iload 5, 2) := by decide +kernel
theorem d3_45 : decode prog_142_method_5_code 45 = .ok (.ifCond .eq 11, 3) := by decide +kernel
theorem d3_48 : decode prog_142_method_5_code 48 = .ok (.iload_n 1, 1) := by decide +kernel
theorem d3_49 : decode prog_142_method_5_code 49 = .ok (.iload_n 3, 1) := by decide +kernel
theorem d3_50 : decode prog_142_method_5_code 50 = .ok (.iadd, 1) := by decide +kernel
theorem d3_51 : decode prog_142_method_5_code 51 = .ok (.iconst 1, 1) := by decide +kernel
theorem d3_52 : decode prog_142_method_5_code 52 = .ok (.iadd, 1) := by decide +kernel
theorem d3_53 : decode prog_142_method_5_code 53 = .ok (.goto 4, 3) := by decide +kernel
theorem d3_56 : decode prog_142_method_5_code 56 = .ok (.iconst (-1), 1) := by decide +kernel
theorem d3_57 : decode prog_142_method_5_code 57 = .ok (.ireturn, 1) := by decide +kernel
theorem d3_58 : decode prog_142_method_5_code 58 = .ok (.iinc 3 1, 3) := by decide +kernel
theorem d3_61 : decode prog_142_method_5_code 61 = .ok (.goto (-59), 3) := by decide +kernel
theorem d3_64 : decode prog_142_method_5_code 64 = .ok (.iconst (-1), 1) := by decide +kernel
theorem d3_65 : decode prog_142_method_5_code 65 = .ok (.ireturn, 1) := by decide +kernel
theorem pn_3 : plainName "com/example/keyfold/keyfold/Varint" = true := by first | (simp [plainName, overriddenIn]; done) | decide +kernel
theorem ef_3 (m : MethodId) (r0 : Addr) (p1 : Int32) (p2 : Int32) : entryFrame m #[(.ref r0), (.int p1), (.int p2)] 6 = mkF m 0 #[.val (.ref r0), .val (.int p1), .val (.int p2), .unset, .unset, .unset] [] := by first | (simp [entryFrame, mkF, argsToLocals, Value.category]; done) | rfl
set_option maxRecDepth 65536 in
set_option maxHeartbeats 40000000 in
theorem rm3 {l : Launch} {Z : State} {a0 : Array Value} (hw : ∀ d ∈ tables_1, d.before a0 Z = true) (r0 : Addr) (p1 : Int32) (p2 : Int32) (h0 : Heap) (n0 : Nat) (hz : n0 ≤ h0.size) (f : Nat → Int32) (A_r0 : OArr Z h0 r0 .byte 12 (fun j => .int (f j))) (h1 : 0 ≤ p1.toInt) (h1' : p1.toInt ≤ 3) (h2 : p2.toInt ≤ 12) :
    OMet l Z (⟨"com/example/keyfold/keyfold/Varint", "end", "([BII)I"⟩ : MethodName) prog_142_method_5_code 6 (some .int) ({ frames := 0, cells := 0, slots := 0, locals := 0 } : Room) #[(.ref r0), (.int p1), (.int p2)] h0 n0 0 0 (OVal h0 (.int (own_end f p1 p2 9 0))) := by
  refine o_body (plainFor_of_name pn_3) hz (fun m => ef_3 m r0 p1 p2) ?_
  intro p e s m below meth c s₁ G0
  have loop : ∀ (k i : Nat) (T : State) (s4 : Slot) (x3 : Int32), k + i = 9 → x3.toInt = (i : Int) → (s4 = .unset ∨ ∃ w, s4 = .val (.int w)) → own_end f p1 p2 9 0 = own_end f p1 p2 k x3 → OG l Z (⟨"com/example/keyfold/keyfold/Varint", "end", "([BII)I"⟩ : MethodName) prog_142_method_5_code 6 (some .int) n0 p e ({ frames := 0, cells := 0, slots := 0, locals := 0 } : Room) s m #[(.ref r0), (.int p1), (.int p2)] below meth c T h0 0 0 → OFin n0 p e below s (OVal h0 (.int (own_end f p1 p2 9 0))) 0 0 T (mkF m 2 #[.val (.ref r0), .val (.int p1), .val (.int p2), .val (.int x3), s4, .unset] []) := by
    intro k
    induction k with
    | zero =>
      intro i T s4 x3 hk hi h4 hQ G
      have h9 : ¬ x3 < (9 : Int32) := by
        rw [Int32.lt_iff_toInt_lt, hi]; have : (9 : Int32).toInt = 9 := rfl
        omega
      refine o_iloadN G d3_2 (pc' := 3) rfl rfl ?_
      refine o_bipush G d3_3 (pc' := 5) rfl (v := (9 : Int32)) rfl ?_
      refine o_icmp_ge G d3_5 (by decide) (pcT := 64) (by decide) (pc' := 8) rfl (fun _ => ?_) (fun q => absurd q h9)
      refine o_iconst G d3_64 (pc' := 65) rfl (v := (-1 : Int32)) rfl ?_
      have hq : (-1 : Int32) = own_end f p1 p2 9 0 := by
        rw [hQ, own_end]
      exact o_ireturn G d3_65 (by rw [hq]; exact ⟨rfl, rfl⟩) (by decide) (by decide)
    | succ k ih =>
      intro i T s4 x3 hk hi h4 hQ G
      have h9 : x3 < (9 : Int32) := by
        rw [Int32.lt_iff_toInt_lt, hi]; have : (9 : Int32).toInt = 9 := rfl
        omega
      refine o_iloadN G d3_2 (pc' := 3) rfl rfl ?_
      refine o_bipush G d3_3 (pc' := 5) rfl (v := (9 : Int32)) rfl ?_
      refine o_icmp_ge G d3_5 (by decide) (pcT := 64) (by decide) (pc' := 8) rfl (fun q => absurd h9 q) (fun _ => ?_)
      refine o_iloadN G d3_8 (pc' := 9) rfl rfl ?_
      refine o_iloadN G d3_9 (pc' := 10) rfl rfl ?_
      obtain ⟨v1, e1⟩ : ∃ z, p1 + x3 = z := ⟨_, rfl⟩
      refine o_iadd G d3_10 (pc' := 11) rfl e1 ?_
      refine o_iloadN G d3_11 (pc' := 12) rfl rfl ?_
      refine o_icmp_ge G d3_12 (by decide) (pcT := 64) (by decide) (pc' := 15) rfl (fun hc12 => ?_) (fun hc12 => ?_)
      · refine o_iconst G d3_64 (pc' := 65) rfl (v := (-1 : Int32)) rfl ?_
        have hq : (-1 : Int32) = own_end f p1 p2 9 0 := by
          subst e1
          rw [hQ, own_end, if_neg hc12]
        exact o_ireturn G d3_65 (by rw [hq]; exact ⟨rfl, rfl⟩) (by decide) (by decide)
      · have hs : (p1 + x3).toInt = p1.toInt + x3.toInt := o_i32 (by omega) (by omega)
        have hl : (p1 + x3).toInt < p2.toInt := by
          subst e1
          exact Int32.lt_iff_toInt_lt.mp hc12
        refine o_aloadN G d3_15 (pc' := 16) rfl rfl rfl ?_
        refine o_iloadN G d3_16 (pc' := 17) rfl rfl ?_
        refine o_iloadN G d3_17 (pc' := 18) rfl rfl ?_
        obtain ⟨v2, e2⟩ : ∃ z, p1 + x3 = z := ⟨_, rfl⟩
        refine o_iadd G d3_18 (pc' := 19) rfl e2 ?_
        have hb19 := o_idx (j := v2) (n := 12) (by rw [← e2]; omega) (by rw [← e2]; omega)
        obtain ⟨v3, e3⟩ : ∃ z, f v2.toNatClampNeg = z := ⟨_, rfl⟩
        refine o_baload G A_r0 (i := v2.toNatClampNeg) hb19.1 hb19.2 (v := (.int v3)) (congrArg Value.int e3) d3_19 (pc' := 20) rfl ?_
        refine o_istore G d3_20 (pc' := 22) rfl (l' := #[.val (.ref r0), .val (.int p1), .val (.int p2), .val (.int x3), .val (.int v3), .unset]) (by rcases h4 with rfl | ⟨w, rfl⟩ <;> rfl) ?_
        refine o_iload G d3_22 (pc' := 24) rfl rfl ?_
        refine o_if_lt G d3_24 (by decide) (pcT := 58) (by decide) (pc' := 27) rfl (fun hc24 => ?_) (fun hc24 => ?_)
        · obtain ⟨v4, e4⟩ : ∃ z, x3 + (1 : Int32) = z := ⟨_, rfl⟩
          refine o_iinc G d3_58 (pc' := 61) rfl rfl (w := (1 : Int32)) rfl e4 (l' := #[.val (.ref r0), .val (.int p1), .val (.int p2), .val (.int v4), .val (.int v3), .unset]) rfl ?_
          refine o_goto G d3_61 (by decide) (pc' := 2) rfl ?_
          have hi' : v4.toInt = ((i + 1 : Nat) : Int) := by
            have h1' : (1 : Int32).toInt = 1 := rfl
            rw [← e4, o_i32 (by omega) (by omega), h1', hi]; omega
          have hQ' : own_end f p1 p2 9 0 = own_end f p1 p2 k v4 := by
            subst e1 e2 e3 e4
            rw [hQ, own_end, if_pos hc12, if_pos hc24]
          exact ih (i + 1) T (.val (.int v3)) v4 (by omega) hi' (Or.inr ⟨_, rfl⟩) hQ' G
        · refine o_iloadN G d3_27 (pc' := 28) rfl rfl ?_
          refine o_if_eq G d3_28 (by decide) (pcT := 36) (by decide) (pc' := 31) rfl (fun hc28 => ?_) (fun hc28 => ?_)
          · refine o_iconst G d3_36 (pc' := 37) rfl (v := (1 : Int32)) rfl ?_
            refine o_goto G d3_37 (by decide) (pc' := 41) rfl ?_
            refine o_istore G d3_41 (pc' := 43) rfl (l' := #[.val (.ref r0), .val (.int p1), .val (.int p2), .val (.int x3), .val (.int v3), .val (.int (1 : Int32))]) rfl ?_
            refine o_iload G d3_43 (pc' := 45) rfl rfl ?_
            refine o_if_eq G d3_45 (by decide) (pcT := 56) (by decide) (pc' := 48) rfl (fun q => absurd q (by decide)) (fun _ => ?_)
            refine o_iloadN G d3_48 (pc' := 49) rfl rfl ?_
            refine o_iloadN G d3_49 (pc' := 50) rfl rfl ?_
            obtain ⟨v5, e5⟩ : ∃ z, p1 + x3 = z := ⟨_, rfl⟩
            refine o_iadd G d3_50 (pc' := 51) rfl e5 ?_
            refine o_iconst G d3_51 (pc' := 52) rfl (v := (1 : Int32)) rfl ?_
            obtain ⟨v6, e6⟩ : ∃ z, v5 + (1 : Int32) = z := ⟨_, rfl⟩
            refine o_iadd G d3_52 (pc' := 53) rfl e6 ?_
            refine o_goto G d3_53 (by decide) (pc' := 57) rfl ?_
            have hq : v6 = own_end f p1 p2 9 0 := by
              subst e1 e2 e3 e5 e6
              rw [hQ, own_end, if_pos hc12, if_neg hc24, if_pos hc28]
            exact o_ireturn G d3_57 (by rw [hq]; exact ⟨rfl, rfl⟩) (by decide) (by decide)
          · refine o_iload G d3_31 (pc' := 33) rfl rfl ?_
            refine o_if_eq G d3_33 (by decide) (pcT := 40) (by decide) (pc' := 36) rfl (fun hc33 => ?_) (fun hc33 => ?_)
            · refine o_iconst G d3_40 (pc' := 41) rfl (v := (0 : Int32)) rfl ?_
              refine o_istore G d3_41 (pc' := 43) rfl (l' := #[.val (.ref r0), .val (.int p1), .val (.int p2), .val (.int x3), .val (.int v3), .val (.int (0 : Int32))]) rfl ?_
              refine o_iload G d3_43 (pc' := 45) rfl rfl ?_
              refine o_if_eq G d3_45 (by decide) (pcT := 56) (by decide) (pc' := 48) rfl (fun _ => ?_) (fun q => absurd (by decide) q)
              refine o_iconst G d3_56 (pc' := 57) rfl (v := (-1 : Int32)) rfl ?_
              have hq : (-1 : Int32) = own_end f p1 p2 9 0 := by
                subst e1 e2 e3
                rw [hQ, own_end, if_pos hc12, if_neg hc24, if_neg hc28, if_pos hc33]
              exact o_ireturn G d3_57 (by rw [hq]; exact ⟨rfl, rfl⟩) (by decide) (by decide)
            · refine o_iconst G d3_36 (pc' := 37) rfl (v := (1 : Int32)) rfl ?_
              refine o_goto G d3_37 (by decide) (pc' := 41) rfl ?_
              refine o_istore G d3_41 (pc' := 43) rfl (l' := #[.val (.ref r0), .val (.int p1), .val (.int p2), .val (.int x3), .val (.int v3), .val (.int (1 : Int32))]) rfl ?_
              refine o_iload G d3_43 (pc' := 45) rfl rfl ?_
              refine o_if_eq G d3_45 (by decide) (pcT := 56) (by decide) (pc' := 48) rfl (fun q => absurd q (by decide)) (fun _ => ?_)
              refine o_iloadN G d3_48 (pc' := 49) rfl rfl ?_
              refine o_iloadN G d3_49 (pc' := 50) rfl rfl ?_
              obtain ⟨v7, e7⟩ : ∃ z, p1 + x3 = z := ⟨_, rfl⟩
              refine o_iadd G d3_50 (pc' := 51) rfl e7 ?_
              refine o_iconst G d3_51 (pc' := 52) rfl (v := (1 : Int32)) rfl ?_
              obtain ⟨v8, e8⟩ : ∃ z, v7 + (1 : Int32) = z := ⟨_, rfl⟩
              refine o_iadd G d3_52 (pc' := 53) rfl e8 ?_
              refine o_goto G d3_53 (by decide) (pc' := 57) rfl ?_
              have hq : v8 = own_end f p1 p2 9 0 := by
                subst e1 e2 e3 e7 e8
                rw [hQ, own_end, if_pos hc12, if_neg hc24, if_neg hc28, if_neg hc33]
              exact o_ireturn G d3_57 (by rw [hq]; exact ⟨rfl, rfl⟩) (by decide) (by decide)
  refine o_iconst G0 d3_0 (pc' := 1) rfl (v := (0 : Int32)) rfl ?_
  refine o_istoreN G0 d3_1 (pc' := 2) rfl (l' := #[.val (.ref r0), .val (.int p1), .val (.int p2), .val (.int (0 : Int32)), .unset, .unset]) rfl ?_
  exact loop 9 0 _ .unset _ rfl rfl (Or.inl rfl) rfl G0
theorem own_m13 (x : Int32) : 0 ≤ ((x &&& (2147483647 : Int32)) % (13 : Int32)).toInt ∧ ((x &&& (2147483647 : Int32)) % (13 : Int32)).toInt ≤ 12 := by
  have h := c_and x 2147483647 (by decide)
  rw [Int32.toInt_mod, Int.tmod_eq_emod_of_nonneg h.1]
  have : (13 : Int32).toInt = 13 := rfl
  rw [this]; omega
theorem own_byteval (x : Int32) : ∃ u : Fin 256, x &&& 255 = Int32.ofNat u.val := by
  have h : (x &&& 255).toInt = x.toInt % 256 := c_mask x 255 8 (by decide) (by decide)
  exact ⟨⟨(x &&& 255).toInt.toNat, by omega⟩, by
    apply Int32.toInt_inj.mp
    rw [Int32.toInt_ofNat_of_lt (by show (x &&& 255).toInt.toNat < _; omega)]
    show _ = ((x &&& 255).toInt.toNat : Int)
    omega⟩
theorem own_raw (lo hi : Int64) (j : Int32) : ∃ u : Fin 256, f_2 lo hi j = Int32.ofNat u.val := by
  rw [f_2]
  split
  · exact own_byteval _
  · exact own_byteval _
theorem own_hi : ∀ u : Fin 256, nar .byte (nar .byte ((Int32.ofNat u.val ||| (128 : Int32)).toInt8.toInt32)) < 0 := by decide +kernel
theorem own_lo : ∀ u : Fin 256, nar .byte (nar .byte ((Int32.ofNat u.val &&& (127 : Int32)).toInt8.toInt32)) = Int32.ofNat u.val &&& 127 ∧ ¬ (Int32.ofNat u.val &&& (127 : Int32)) < 0 := by decide +kernel
def own_arr (lo hi : Int64) (off p z : Int32) (j : Nat) : Int32 := nar .byte (f_1 lo hi (Int32.ofNat j) off p z)
def own_exp (lo hi : Int64) (off en k p z : Int32) : Int32 := if k < 9 then (if k < en - off then (if k = 0 then off + k + 1 else (if (if z = (0 : Int32) then ((f_2 lo hi p) &&& (127 : Int32)) else (0 : Int32)) = 0 then -1 else off + k + 1)) else -1) else -1
theorem own_back (x : Int32) (h : 0 ≤ x.toInt) : Int32.ofNat x.toNatClampNeg = x := by
  apply Int32.toInt_inj.mp
  have := x.toInt_lt
  rw [Int32.toInt_ofNat_of_lt (by simp only [Int32.toNatClampNeg]; omega)]
  simp only [Int32.toNatClampNeg]; omega
theorem own_before (lo hi : Int64) (off p z x : Int32) (h0 : 0 ≤ x.toInt) (h1 : off.toInt ≤ x.toInt) (h2 : x.toInt < p.toInt) : own_arr lo hi off p z x.toNatClampNeg < 0 := by
  rw [own_arr, own_back x h0, f_1, if_neg (by rw [Int32.lt_iff_toInt_lt]; omega), if_neg (by rw [Int32.lt_iff_toInt_lt]; omega), if_pos (by rw [Int32.lt_iff_toInt_lt]; omega)]
  obtain ⟨u, hu⟩ := own_raw lo hi x
  rw [hu]; exact own_hi u
theorem own_here (lo hi : Int64) (off p z x : Int32) (h0 : 0 ≤ x.toInt) (h1 : off.toInt ≤ x.toInt) (h2 : x.toInt = p.toInt) : own_arr lo hi off p z x.toNatClampNeg = (if z = (0 : Int32) then ((f_2 lo hi p) &&& (127 : Int32)) else (0 : Int32)) ∧ ¬ own_arr lo hi off p z x.toNatClampNeg < 0 := by
  obtain rfl : x = p := Int32.toInt_inj.mp h2
  rw [own_arr, own_back x h0, f_1, if_neg (by rw [Int32.lt_iff_toInt_lt]; omega), if_neg (by rw [Int32.lt_iff_toInt_lt]; omega), if_neg (by rw [Int32.lt_iff_toInt_lt]; omega)]
  obtain ⟨u, hu⟩ := own_raw lo hi x
  rw [hu]
  split
  · have := own_lo u
    rw [this.1]; exact ⟨rfl, this.2⟩
  · decide
theorem own_main0 (lo hi : Int64) (off en k p z : Int32) (hoff : 0 ≤ off.toInt ∧ off.toInt ≤ 3) (hen : 0 ≤ en.toInt ∧ en.toInt ≤ 12) (hk : 0 ≤ k.toInt ∧ k.toInt ≤ 12) (hp : p.toInt = off.toInt + k.toInt) :
    ∀ (n : Nat) (i : Int32), i.toInt + n = 9 → 0 ≤ i.toInt → i.toInt ≤ k.toInt → own_end (own_arr lo hi off p z) off en n i = own_exp lo hi off en k p z := by
  have h9 : (9 : Int32).toInt = 9 := rfl
  have hd : (en - off).toInt = en.toInt - off.toInt := o_s32 (by omega) (by omega)
  intro n
  induction n with
  | zero =>
    intro i h1 h2 h3
    rw [own_end, own_exp, if_neg (by rw [Int32.lt_iff_toInt_lt]; omega)]
  | succ n ih =>
    intro i h1 h2 h3
    have hs : (off + i).toInt = off.toInt + i.toInt := o_i32 (by omega) (by omega)
    rw [own_end]
    by_cases q : off + i < en
    · have q' := Int32.lt_iff_toInt_lt.mp q
      rw [if_pos q]
      by_cases r : i.toInt < k.toInt
      · rw [if_pos (own_before lo hi off p z (off + i) (by omega) (by omega) (by omega))]
        have h1' : (1 : Int32).toInt = 1 := rfl
        have hi1 : (i + 1).toInt = i.toInt + 1 := by rw [o_i32 (by omega) (by omega), h1']
        exact ih (i + 1) (by omega) (by omega) (by omega)
      · obtain rfl : i = k := Int32.toInt_inj.mp (by omega)
        obtain ⟨t1, t2⟩ := own_here lo hi off p z (off + i) (by omega) (by omega) (by omega)
        rw [if_neg t2, t1, own_exp, if_pos (show i < 9 by rw [Int32.lt_iff_toInt_lt]; omega), if_pos (show i < en - off by rw [Int32.lt_iff_toInt_lt]; omega)]
    · have q' : ¬ (off + i).toInt < en.toInt := fun z => q (Int32.lt_iff_toInt_lt.mpr z)
      rw [if_neg q, own_exp]
      by_cases r : k < 9
      · rw [if_pos r, if_neg (by rw [Int32.lt_iff_toInt_lt]; omega)]
      · rw [if_neg r]
theorem own_main (lo hi : Int64) (off en k p z : Int32) (hoff : 0 ≤ off.toInt ∧ off.toInt ≤ 3) (hen : 0 ≤ en.toInt ∧ en.toInt ≤ 12) (hk : 0 ≤ k.toInt ∧ k.toInt ≤ 12) (hp : p.toInt = off.toInt + k.toInt) : own_end (own_arr lo hi off p z) off en 9 0 = own_exp lo hi off en k p z :=
  own_main0 lo hi off en k p z hoff hen hk hp 9 0 rfl (by decide) hk.1
theorem pn_0 : plainName "com/example/keyfold/keyfold/VarintEndPinLaw" = true := by first | (simp [plainName, overriddenIn]; done) | decide +kernel
theorem ef_0 (m : MethodId) (q0 : Int64) (q1 : Int64) (p2 : Int32) (p3 : Int32) (p4 : Int32) (p5 : Int32) : entryFrame m #[(.long q0), (.long q1), (.int p2), (.int p3), (.int p4), (.int p5)] maxLocals = mkF m 0 #[.val (.long q0), .second, .val (.long q1), .second, .val (.int p2), .val (.int p3), .val (.int p4), .val (.int p5), .unset, .unset, .unset, .unset, .unset, .unset, .unset, .unset, .unset] [] := by first | (simp [entryFrame, mkF, argsToLocals, Value.category, maxLocals]; done) | rfl
set_option maxRecDepth 65536 in
set_option maxHeartbeats 40000000 in
theorem rm0 {l : Launch} {Z : State} {a0 : Array Value} (hw : ∀ d ∈ tables_1, d.before a0 Z = true) (q0 : Int64) (q1 : Int64) (p2 : Int32) (p3 : Int32) (p4 : Int32) (p5 : Int32) (h0 : Heap) (n0 : Nat) (hz : n0 ≤ h0.size) :
    OMet l Z x code maxLocals ret room_1 #[(.long q0), (.long q1), (.int p2), (.int p3), (.int p4), (.int p5)] h0 n0 16 128 (fun v _ => v = some (.int 1)) := by
  refine o_body (plainFor_of_name pn_0) hz (fun m => ef_0 m q0 q1 p2 p3 p4 p5) ?_
  intro p e s m below meth c s₁ G0
  refine o_iload G0 at_0 (pc' := 2) rfl rfl ?_
  refine o_iconst G0 at_2 (pc' := 3) rfl (v := (3 : Int32)) rfl ?_
  obtain ⟨v1, e1⟩ : ∃ z, p2 &&& (3 : Int32) = z := ⟨_, rfl⟩
  refine o_iand G0 at_3 (pc' := 4) rfl e1 ?_
  refine o_istore G0 at_4 (pc' := 6) rfl (l' := #[.val (.long q0), .second, .val (.long q1), .second, .val (.int p2), .val (.int p3), .val (.int p4), .val (.int p5), .val (.int v1), .unset, .unset, .unset, .unset, .unset, .unset, .unset, .unset]) rfl ?_
  refine o_iload G0 at_6 (pc' := 8) rfl rfl ?_
  refine o_ldc G0 at_8 (pc' := 10) rfl (hw _ (List.mem_of_getElem? (i := 0) rfl)) ?_
  obtain ⟨v2, e2⟩ : ∃ z, p3 &&& (2147483647 : Int32) = z := ⟨_, rfl⟩
  refine o_iand G0 at_10 (pc' := 11) rfl e2 ?_
  refine o_bipush G0 at_11 (pc' := 13) rfl (v := (13 : Int32)) rfl ?_
  obtain ⟨v3, e3⟩ : ∃ z, v2 % (13 : Int32) = z := ⟨_, rfl⟩
  refine o_irem G0 at_13 (pc' := 14) rfl (by decide) e3 ?_
  refine o_istore G0 at_14 (pc' := 16) rfl (l' := #[.val (.long q0), .second, .val (.long q1), .second, .val (.int p2), .val (.int p3), .val (.int p4), .val (.int p5), .val (.int v1), .val (.int v3), .unset, .unset, .unset, .unset, .unset, .unset, .unset]) rfl ?_
  refine o_iload G0 at_16 (pc' := 18) rfl rfl ?_
  refine o_ldc G0 at_18 (pc' := 20) rfl (hw _ (List.mem_of_getElem? (i := 0) rfl)) ?_
  obtain ⟨v4, e4⟩ : ∃ z, p4 &&& (2147483647 : Int32) = z := ⟨_, rfl⟩
  refine o_iand G0 at_20 (pc' := 21) rfl e4 ?_
  refine o_bipush G0 at_21 (pc' := 23) rfl (v := (13 : Int32)) rfl ?_
  obtain ⟨v5, e5⟩ : ∃ z, v4 % (13 : Int32) = z := ⟨_, rfl⟩
  refine o_irem G0 at_23 (pc' := 24) rfl (by decide) e5 ?_
  refine o_istore G0 at_24 (pc' := 26) rfl (l' := #[.val (.long q0), .second, .val (.long q1), .second, .val (.int p2), .val (.int p3), .val (.int p4), .val (.int p5), .val (.int v1), .val (.int v3), .val (.int v5), .unset, .unset, .unset, .unset, .unset, .unset]) rfl ?_
  refine o_iload G0 at_26 (pc' := 28) rfl rfl ?_
  refine o_iload G0 at_28 (pc' := 30) rfl rfl ?_
  obtain ⟨v6, e6⟩ : ∃ z, v1 + v5 = z := ⟨_, rfl⟩
  refine o_iadd G0 at_30 (pc' := 31) rfl e6 ?_
  refine o_istore G0 at_31 (pc' := 33) rfl (l' := #[.val (.long q0), .second, .val (.long q1), .second, .val (.int p2), .val (.int p3), .val (.int p4), .val (.int p5), .val (.int v1), .val (.int v3), .val (.int v5), .val (.int v6), .unset, .unset, .unset, .unset, .unset]) rfl ?_
  refine o_iload G0 at_33 (pc' := 35) rfl rfl ?_
  refine o_iconst G0 at_35 (pc' := 36) rfl (v := (1 : Int32)) rfl ?_
  obtain ⟨v7, e7⟩ : ∃ z, p5 &&& (1 : Int32) = z := ⟨_, rfl⟩
  refine o_iand G0 at_36 (pc' := 37) rfl e7 ?_
  obtain ⟨v8, e8⟩ : ∃ z, (if v7 = (0 : Int32) then (0 : Int32) else (1 : Int32)) = z := ⟨_, rfl⟩
  have K9 : ∀ T', OG l Z x code maxLocals ret n0 p e room_1 s m #[(.long q0), (.long q1), (.int p2), (.int p3), (.int p4), (.int p5)] below meth c T' h0 0 0 → OFin n0 p e below s (fun v _ => v = some (.int 1)) 16 128 T' (mkF m 45 #[.val (.long q0), .second, .val (.long q1), .second, .val (.int p2), .val (.int p3), .val (.int p4), .val (.int p5), .val (.int v1), .val (.int v3), .val (.int v5), .val (.int v6), .unset, .unset, .unset, .unset, .unset] [(.int v8)]) := by
    intro T9 G9
    refine o_istore G9 at_45 (pc' := 47) rfl (l' := #[.val (.long q0), .second, .val (.long q1), .second, .val (.int p2), .val (.int p3), .val (.int p4), .val (.int p5), .val (.int v1), .val (.int v3), .val (.int v5), .val (.int v6), .val (.int v8), .unset, .unset, .unset, .unset]) rfl ?_
    have hoff : 0 ≤ v1.toInt ∧ v1.toInt ≤ 3 := by
      subst e1 e2 e3 e4 e5 e6 e7 e8; exact c_and _ 3 (by decide)
    have hen : 0 ≤ v3.toInt ∧ v3.toInt ≤ 12 := by
      subst e1 e2 e3 e4 e5 e6 e7 e8; exact own_m13 _
    have hk : 0 ≤ v5.toInt ∧ v5.toInt ≤ 12 := by
      subst e1 e2 e3 e4 e5 e6 e7 e8; exact own_m13 _
    have hp : v6.toInt = v1.toInt + v5.toInt := by
      have hq : v1 + v5 = v6 := by
        subst e1 e2 e3 e4 e5 e6 e7 e8; rfl
      rw [← hq]; exact o_i32 (by omega) (by omega)
    refine o_bipush G9 at_47 (pc' := 49) rfl (v := (12 : Int32)) rfl ?_
    refine o_newarray G9 (N := 12) (cap := 12) (hw _ (List.mem_of_getElem? (i := 1) rfl)) rfl (by decide) (by decide) at_49 (pc' := 51) rfl (by decide) (by decide) ?_
    intro T10 h10 b10 G10 g10 g_b10 E10 A_b10
    replace A_b10 : OArr Z h10 b10 .byte 12 (fun _ => (.int (0 : Int32))) := A_b10
    refine o_astore G10 at_51 (pc' := 53) rfl rfl (l' := #[.val (.long q0), .second, .val (.long q1), .second, .val (.int p2), .val (.int p3), .val (.int p4), .val (.int p5), .val (.int v1), .val (.int v3), .val (.int v5), .val (.int v6), .val (.int v8), .val (.ref b10), .unset, .unset, .unset]) rfl ?_
    refine o_aload G10 at_53 (pc' := 55) rfl rfl rfl ?_
    refine o_iconst G10 at_55 (pc' := 56) rfl (v := (0 : Int32)) rfl ?_
    refine o_lloadN G10 at_56 (pc' := 57) rfl rfl ?_
    refine o_lloadN G10 at_57 (pc' := 58) rfl rfl ?_
    refine o_iconst G10 at_58 (pc' := 59) rfl (v := (0 : Int32)) rfl ?_
    refine o_iload G10 at_59 (pc' := 61) rfl rfl ?_
    refine o_iload G10 at_61 (pc' := 63) rfl rfl ?_
    refine o_iload G10 at_63 (pc' := 65) rfl rfl ?_
    obtain ⟨v11, e11⟩ : ∃ z, f_1 q0 q1 (0 : Int32) v1 v6 v8 = z := ⟨_, rfl⟩
    refine o_callP G10 (z := (⟨"com/example/keyfold/keyfold/VarintEndPinLaw", "shaped", "(JJIIIZ)B"⟩ : MethodName)) (r := (.int v11)) (argsL := [(.long q0), (.long q1), (.int (0 : Int32)), (.int v1), (.int v6), (.int v8)]) (rest := [(.int (0 : Int32)), (.ref b10)]) (W := 2) (hw _ (List.mem_of_getElem? (i := 2) rfl)) (hw _ (List.mem_of_getElem? (i := 3) rfl)) at_65 (by decide) (hw _ (List.mem_of_getElem? (i := 4) rfl)) (hw _ (List.mem_of_getElem? (i := 5) rfl)) (by rw [← e11]; exact rm1 hw q0 q1 (0 : Int32) v1 v6 v8 h10 n0 G10.sz) (by decide) (by decide) rfl (lenOf pd_1 rfl) rfl (Nat.le_of_eq rfl) (pc' := 68) rfl (by decide) (by decide) ?_
    intro T12 G12
    refine o_bastore G12 A_b10 g_b10 (i := 0) rfl (by decide) at_68 (pc' := 69) rfl ?_
    intro T13 h13 G13 W13 A13
    replace A_b10 := A13
    refine o_aload G13 at_69 (pc' := 71) rfl rfl rfl ?_
    refine o_iconst G13 at_71 (pc' := 72) rfl (v := (1 : Int32)) rfl ?_
    refine o_lloadN G13 at_72 (pc' := 73) rfl rfl ?_
    refine o_lloadN G13 at_73 (pc' := 74) rfl rfl ?_
    refine o_iconst G13 at_74 (pc' := 75) rfl (v := (1 : Int32)) rfl ?_
    refine o_iload G13 at_75 (pc' := 77) rfl rfl ?_
    refine o_iload G13 at_77 (pc' := 79) rfl rfl ?_
    refine o_iload G13 at_79 (pc' := 81) rfl rfl ?_
    obtain ⟨v14, e14⟩ : ∃ z, f_1 q0 q1 (1 : Int32) v1 v6 v8 = z := ⟨_, rfl⟩
    refine o_callP G13 (z := (⟨"com/example/keyfold/keyfold/VarintEndPinLaw", "shaped", "(JJIIIZ)B"⟩ : MethodName)) (r := (.int v14)) (argsL := [(.long q0), (.long q1), (.int (1 : Int32)), (.int v1), (.int v6), (.int v8)]) (rest := [(.int (1 : Int32)), (.ref b10)]) (W := 2) (hw _ (List.mem_of_getElem? (i := 2) rfl)) (hw _ (List.mem_of_getElem? (i := 3) rfl)) at_81 (by decide) (hw _ (List.mem_of_getElem? (i := 4) rfl)) (hw _ (List.mem_of_getElem? (i := 5) rfl)) (by rw [← e14]; exact rm1 hw q0 q1 (1 : Int32) v1 v6 v8 h13 n0 G13.sz) (by decide) (by decide) rfl (lenOf pd_1 rfl) rfl (Nat.le_of_eq rfl) (pc' := 84) rfl (by decide) (by decide) ?_
    intro T15 G15
    refine o_bastore G15 A_b10 g_b10 (i := 1) rfl (by decide) at_84 (pc' := 85) rfl ?_
    intro T16 h16 G16 W16 A16
    replace A_b10 := A16
    refine o_aload G16 at_85 (pc' := 87) rfl rfl rfl ?_
    refine o_iconst G16 at_87 (pc' := 88) rfl (v := (2 : Int32)) rfl ?_
    refine o_lloadN G16 at_88 (pc' := 89) rfl rfl ?_
    refine o_lloadN G16 at_89 (pc' := 90) rfl rfl ?_
    refine o_iconst G16 at_90 (pc' := 91) rfl (v := (2 : Int32)) rfl ?_
    refine o_iload G16 at_91 (pc' := 93) rfl rfl ?_
    refine o_iload G16 at_93 (pc' := 95) rfl rfl ?_
    refine o_iload G16 at_95 (pc' := 97) rfl rfl ?_
    obtain ⟨v17, e17⟩ : ∃ z, f_1 q0 q1 (2 : Int32) v1 v6 v8 = z := ⟨_, rfl⟩
    refine o_callP G16 (z := (⟨"com/example/keyfold/keyfold/VarintEndPinLaw", "shaped", "(JJIIIZ)B"⟩ : MethodName)) (r := (.int v17)) (argsL := [(.long q0), (.long q1), (.int (2 : Int32)), (.int v1), (.int v6), (.int v8)]) (rest := [(.int (2 : Int32)), (.ref b10)]) (W := 2) (hw _ (List.mem_of_getElem? (i := 2) rfl)) (hw _ (List.mem_of_getElem? (i := 3) rfl)) at_97 (by decide) (hw _ (List.mem_of_getElem? (i := 4) rfl)) (hw _ (List.mem_of_getElem? (i := 5) rfl)) (by rw [← e17]; exact rm1 hw q0 q1 (2 : Int32) v1 v6 v8 h16 n0 G16.sz) (by decide) (by decide) rfl (lenOf pd_1 rfl) rfl (Nat.le_of_eq rfl) (pc' := 100) rfl (by decide) (by decide) ?_
    intro T18 G18
    refine o_bastore G18 A_b10 g_b10 (i := 2) rfl (by decide) at_100 (pc' := 101) rfl ?_
    intro T19 h19 G19 W19 A19
    replace A_b10 := A19
    refine o_aload G19 at_101 (pc' := 103) rfl rfl rfl ?_
    refine o_iconst G19 at_103 (pc' := 104) rfl (v := (3 : Int32)) rfl ?_
    refine o_lloadN G19 at_104 (pc' := 105) rfl rfl ?_
    refine o_lloadN G19 at_105 (pc' := 106) rfl rfl ?_
    refine o_iconst G19 at_106 (pc' := 107) rfl (v := (3 : Int32)) rfl ?_
    refine o_iload G19 at_107 (pc' := 109) rfl rfl ?_
    refine o_iload G19 at_109 (pc' := 111) rfl rfl ?_
    refine o_iload G19 at_111 (pc' := 113) rfl rfl ?_
    obtain ⟨v20, e20⟩ : ∃ z, f_1 q0 q1 (3 : Int32) v1 v6 v8 = z := ⟨_, rfl⟩
    refine o_callP G19 (z := (⟨"com/example/keyfold/keyfold/VarintEndPinLaw", "shaped", "(JJIIIZ)B"⟩ : MethodName)) (r := (.int v20)) (argsL := [(.long q0), (.long q1), (.int (3 : Int32)), (.int v1), (.int v6), (.int v8)]) (rest := [(.int (3 : Int32)), (.ref b10)]) (W := 2) (hw _ (List.mem_of_getElem? (i := 2) rfl)) (hw _ (List.mem_of_getElem? (i := 3) rfl)) at_113 (by decide) (hw _ (List.mem_of_getElem? (i := 4) rfl)) (hw _ (List.mem_of_getElem? (i := 5) rfl)) (by rw [← e20]; exact rm1 hw q0 q1 (3 : Int32) v1 v6 v8 h19 n0 G19.sz) (by decide) (by decide) rfl (lenOf pd_1 rfl) rfl (Nat.le_of_eq rfl) (pc' := 116) rfl (by decide) (by decide) ?_
    intro T21 G21
    refine o_bastore G21 A_b10 g_b10 (i := 3) rfl (by decide) at_116 (pc' := 117) rfl ?_
    intro T22 h22 G22 W22 A22
    replace A_b10 := A22
    refine o_aload G22 at_117 (pc' := 119) rfl rfl rfl ?_
    refine o_iconst G22 at_119 (pc' := 120) rfl (v := (4 : Int32)) rfl ?_
    refine o_lloadN G22 at_120 (pc' := 121) rfl rfl ?_
    refine o_lloadN G22 at_121 (pc' := 122) rfl rfl ?_
    refine o_iconst G22 at_122 (pc' := 123) rfl (v := (4 : Int32)) rfl ?_
    refine o_iload G22 at_123 (pc' := 125) rfl rfl ?_
    refine o_iload G22 at_125 (pc' := 127) rfl rfl ?_
    refine o_iload G22 at_127 (pc' := 129) rfl rfl ?_
    obtain ⟨v23, e23⟩ : ∃ z, f_1 q0 q1 (4 : Int32) v1 v6 v8 = z := ⟨_, rfl⟩
    refine o_callP G22 (z := (⟨"com/example/keyfold/keyfold/VarintEndPinLaw", "shaped", "(JJIIIZ)B"⟩ : MethodName)) (r := (.int v23)) (argsL := [(.long q0), (.long q1), (.int (4 : Int32)), (.int v1), (.int v6), (.int v8)]) (rest := [(.int (4 : Int32)), (.ref b10)]) (W := 2) (hw _ (List.mem_of_getElem? (i := 2) rfl)) (hw _ (List.mem_of_getElem? (i := 3) rfl)) at_129 (by decide) (hw _ (List.mem_of_getElem? (i := 4) rfl)) (hw _ (List.mem_of_getElem? (i := 5) rfl)) (by rw [← e23]; exact rm1 hw q0 q1 (4 : Int32) v1 v6 v8 h22 n0 G22.sz) (by decide) (by decide) rfl (lenOf pd_1 rfl) rfl (Nat.le_of_eq rfl) (pc' := 132) rfl (by decide) (by decide) ?_
    intro T24 G24
    refine o_bastore G24 A_b10 g_b10 (i := 4) rfl (by decide) at_132 (pc' := 133) rfl ?_
    intro T25 h25 G25 W25 A25
    replace A_b10 := A25
    refine o_aload G25 at_133 (pc' := 135) rfl rfl rfl ?_
    refine o_iconst G25 at_135 (pc' := 136) rfl (v := (5 : Int32)) rfl ?_
    refine o_lloadN G25 at_136 (pc' := 137) rfl rfl ?_
    refine o_lloadN G25 at_137 (pc' := 138) rfl rfl ?_
    refine o_iconst G25 at_138 (pc' := 139) rfl (v := (5 : Int32)) rfl ?_
    refine o_iload G25 at_139 (pc' := 141) rfl rfl ?_
    refine o_iload G25 at_141 (pc' := 143) rfl rfl ?_
    refine o_iload G25 at_143 (pc' := 145) rfl rfl ?_
    obtain ⟨v26, e26⟩ : ∃ z, f_1 q0 q1 (5 : Int32) v1 v6 v8 = z := ⟨_, rfl⟩
    refine o_callP G25 (z := (⟨"com/example/keyfold/keyfold/VarintEndPinLaw", "shaped", "(JJIIIZ)B"⟩ : MethodName)) (r := (.int v26)) (argsL := [(.long q0), (.long q1), (.int (5 : Int32)), (.int v1), (.int v6), (.int v8)]) (rest := [(.int (5 : Int32)), (.ref b10)]) (W := 2) (hw _ (List.mem_of_getElem? (i := 2) rfl)) (hw _ (List.mem_of_getElem? (i := 3) rfl)) at_145 (by decide) (hw _ (List.mem_of_getElem? (i := 4) rfl)) (hw _ (List.mem_of_getElem? (i := 5) rfl)) (by rw [← e26]; exact rm1 hw q0 q1 (5 : Int32) v1 v6 v8 h25 n0 G25.sz) (by decide) (by decide) rfl (lenOf pd_1 rfl) rfl (Nat.le_of_eq rfl) (pc' := 148) rfl (by decide) (by decide) ?_
    intro T27 G27
    refine o_bastore G27 A_b10 g_b10 (i := 5) rfl (by decide) at_148 (pc' := 149) rfl ?_
    intro T28 h28 G28 W28 A28
    replace A_b10 := A28
    refine o_aload G28 at_149 (pc' := 151) rfl rfl rfl ?_
    refine o_bipush G28 at_151 (pc' := 153) rfl (v := (6 : Int32)) rfl ?_
    refine o_lloadN G28 at_153 (pc' := 154) rfl rfl ?_
    refine o_lloadN G28 at_154 (pc' := 155) rfl rfl ?_
    refine o_bipush G28 at_155 (pc' := 157) rfl (v := (6 : Int32)) rfl ?_
    refine o_iload G28 at_157 (pc' := 159) rfl rfl ?_
    refine o_iload G28 at_159 (pc' := 161) rfl rfl ?_
    refine o_iload G28 at_161 (pc' := 163) rfl rfl ?_
    obtain ⟨v29, e29⟩ : ∃ z, f_1 q0 q1 (6 : Int32) v1 v6 v8 = z := ⟨_, rfl⟩
    refine o_callP G28 (z := (⟨"com/example/keyfold/keyfold/VarintEndPinLaw", "shaped", "(JJIIIZ)B"⟩ : MethodName)) (r := (.int v29)) (argsL := [(.long q0), (.long q1), (.int (6 : Int32)), (.int v1), (.int v6), (.int v8)]) (rest := [(.int (6 : Int32)), (.ref b10)]) (W := 2) (hw _ (List.mem_of_getElem? (i := 2) rfl)) (hw _ (List.mem_of_getElem? (i := 3) rfl)) at_163 (by decide) (hw _ (List.mem_of_getElem? (i := 4) rfl)) (hw _ (List.mem_of_getElem? (i := 5) rfl)) (by rw [← e29]; exact rm1 hw q0 q1 (6 : Int32) v1 v6 v8 h28 n0 G28.sz) (by decide) (by decide) rfl (lenOf pd_1 rfl) rfl (Nat.le_of_eq rfl) (pc' := 166) rfl (by decide) (by decide) ?_
    intro T30 G30
    refine o_bastore G30 A_b10 g_b10 (i := 6) rfl (by decide) at_166 (pc' := 167) rfl ?_
    intro T31 h31 G31 W31 A31
    replace A_b10 := A31
    refine o_aload G31 at_167 (pc' := 169) rfl rfl rfl ?_
    refine o_bipush G31 at_169 (pc' := 171) rfl (v := (7 : Int32)) rfl ?_
    refine o_lloadN G31 at_171 (pc' := 172) rfl rfl ?_
    refine o_lloadN G31 at_172 (pc' := 173) rfl rfl ?_
    refine o_bipush G31 at_173 (pc' := 175) rfl (v := (7 : Int32)) rfl ?_
    refine o_iload G31 at_175 (pc' := 177) rfl rfl ?_
    refine o_iload G31 at_177 (pc' := 179) rfl rfl ?_
    refine o_iload G31 at_179 (pc' := 181) rfl rfl ?_
    obtain ⟨v32, e32⟩ : ∃ z, f_1 q0 q1 (7 : Int32) v1 v6 v8 = z := ⟨_, rfl⟩
    refine o_callP G31 (z := (⟨"com/example/keyfold/keyfold/VarintEndPinLaw", "shaped", "(JJIIIZ)B"⟩ : MethodName)) (r := (.int v32)) (argsL := [(.long q0), (.long q1), (.int (7 : Int32)), (.int v1), (.int v6), (.int v8)]) (rest := [(.int (7 : Int32)), (.ref b10)]) (W := 2) (hw _ (List.mem_of_getElem? (i := 2) rfl)) (hw _ (List.mem_of_getElem? (i := 3) rfl)) at_181 (by decide) (hw _ (List.mem_of_getElem? (i := 4) rfl)) (hw _ (List.mem_of_getElem? (i := 5) rfl)) (by rw [← e32]; exact rm1 hw q0 q1 (7 : Int32) v1 v6 v8 h31 n0 G31.sz) (by decide) (by decide) rfl (lenOf pd_1 rfl) rfl (Nat.le_of_eq rfl) (pc' := 184) rfl (by decide) (by decide) ?_
    intro T33 G33
    refine o_bastore G33 A_b10 g_b10 (i := 7) rfl (by decide) at_184 (pc' := 185) rfl ?_
    intro T34 h34 G34 W34 A34
    replace A_b10 := A34
    refine o_aload G34 at_185 (pc' := 187) rfl rfl rfl ?_
    refine o_bipush G34 at_187 (pc' := 189) rfl (v := (8 : Int32)) rfl ?_
    refine o_lloadN G34 at_189 (pc' := 190) rfl rfl ?_
    refine o_lloadN G34 at_190 (pc' := 191) rfl rfl ?_
    refine o_bipush G34 at_191 (pc' := 193) rfl (v := (8 : Int32)) rfl ?_
    refine o_iload G34 at_193 (pc' := 195) rfl rfl ?_
    refine o_iload G34 at_195 (pc' := 197) rfl rfl ?_
    refine o_iload G34 at_197 (pc' := 199) rfl rfl ?_
    obtain ⟨v35, e35⟩ : ∃ z, f_1 q0 q1 (8 : Int32) v1 v6 v8 = z := ⟨_, rfl⟩
    refine o_callP G34 (z := (⟨"com/example/keyfold/keyfold/VarintEndPinLaw", "shaped", "(JJIIIZ)B"⟩ : MethodName)) (r := (.int v35)) (argsL := [(.long q0), (.long q1), (.int (8 : Int32)), (.int v1), (.int v6), (.int v8)]) (rest := [(.int (8 : Int32)), (.ref b10)]) (W := 2) (hw _ (List.mem_of_getElem? (i := 2) rfl)) (hw _ (List.mem_of_getElem? (i := 3) rfl)) at_199 (by decide) (hw _ (List.mem_of_getElem? (i := 4) rfl)) (hw _ (List.mem_of_getElem? (i := 5) rfl)) (by rw [← e35]; exact rm1 hw q0 q1 (8 : Int32) v1 v6 v8 h34 n0 G34.sz) (by decide) (by decide) rfl (lenOf pd_1 rfl) rfl (Nat.le_of_eq rfl) (pc' := 202) rfl (by decide) (by decide) ?_
    intro T36 G36
    refine o_bastore G36 A_b10 g_b10 (i := 8) rfl (by decide) at_202 (pc' := 203) rfl ?_
    intro T37 h37 G37 W37 A37
    replace A_b10 := A37
    refine o_aload G37 at_203 (pc' := 205) rfl rfl rfl ?_
    refine o_bipush G37 at_205 (pc' := 207) rfl (v := (9 : Int32)) rfl ?_
    refine o_lloadN G37 at_207 (pc' := 208) rfl rfl ?_
    refine o_lloadN G37 at_208 (pc' := 209) rfl rfl ?_
    refine o_bipush G37 at_209 (pc' := 211) rfl (v := (9 : Int32)) rfl ?_
    refine o_iload G37 at_211 (pc' := 213) rfl rfl ?_
    refine o_iload G37 at_213 (pc' := 215) rfl rfl ?_
    refine o_iload G37 at_215 (pc' := 217) rfl rfl ?_
    obtain ⟨v38, e38⟩ : ∃ z, f_1 q0 q1 (9 : Int32) v1 v6 v8 = z := ⟨_, rfl⟩
    refine o_callP G37 (z := (⟨"com/example/keyfold/keyfold/VarintEndPinLaw", "shaped", "(JJIIIZ)B"⟩ : MethodName)) (r := (.int v38)) (argsL := [(.long q0), (.long q1), (.int (9 : Int32)), (.int v1), (.int v6), (.int v8)]) (rest := [(.int (9 : Int32)), (.ref b10)]) (W := 2) (hw _ (List.mem_of_getElem? (i := 2) rfl)) (hw _ (List.mem_of_getElem? (i := 3) rfl)) at_217 (by decide) (hw _ (List.mem_of_getElem? (i := 4) rfl)) (hw _ (List.mem_of_getElem? (i := 5) rfl)) (by rw [← e38]; exact rm1 hw q0 q1 (9 : Int32) v1 v6 v8 h37 n0 G37.sz) (by decide) (by decide) rfl (lenOf pd_1 rfl) rfl (Nat.le_of_eq rfl) (pc' := 220) rfl (by decide) (by decide) ?_
    intro T39 G39
    refine o_bastore G39 A_b10 g_b10 (i := 9) rfl (by decide) at_220 (pc' := 221) rfl ?_
    intro T40 h40 G40 W40 A40
    replace A_b10 := A40
    refine o_aload G40 at_221 (pc' := 223) rfl rfl rfl ?_
    refine o_bipush G40 at_223 (pc' := 225) rfl (v := (10 : Int32)) rfl ?_
    refine o_lloadN G40 at_225 (pc' := 226) rfl rfl ?_
    refine o_lloadN G40 at_226 (pc' := 227) rfl rfl ?_
    refine o_bipush G40 at_227 (pc' := 229) rfl (v := (10 : Int32)) rfl ?_
    refine o_iload G40 at_229 (pc' := 231) rfl rfl ?_
    refine o_iload G40 at_231 (pc' := 233) rfl rfl ?_
    refine o_iload G40 at_233 (pc' := 235) rfl rfl ?_
    obtain ⟨v41, e41⟩ : ∃ z, f_1 q0 q1 (10 : Int32) v1 v6 v8 = z := ⟨_, rfl⟩
    refine o_callP G40 (z := (⟨"com/example/keyfold/keyfold/VarintEndPinLaw", "shaped", "(JJIIIZ)B"⟩ : MethodName)) (r := (.int v41)) (argsL := [(.long q0), (.long q1), (.int (10 : Int32)), (.int v1), (.int v6), (.int v8)]) (rest := [(.int (10 : Int32)), (.ref b10)]) (W := 2) (hw _ (List.mem_of_getElem? (i := 2) rfl)) (hw _ (List.mem_of_getElem? (i := 3) rfl)) at_235 (by decide) (hw _ (List.mem_of_getElem? (i := 4) rfl)) (hw _ (List.mem_of_getElem? (i := 5) rfl)) (by rw [← e41]; exact rm1 hw q0 q1 (10 : Int32) v1 v6 v8 h40 n0 G40.sz) (by decide) (by decide) rfl (lenOf pd_1 rfl) rfl (Nat.le_of_eq rfl) (pc' := 238) rfl (by decide) (by decide) ?_
    intro T42 G42
    refine o_bastore G42 A_b10 g_b10 (i := 10) rfl (by decide) at_238 (pc' := 239) rfl ?_
    intro T43 h43 G43 W43 A43
    replace A_b10 := A43
    refine o_aload G43 at_239 (pc' := 241) rfl rfl rfl ?_
    refine o_bipush G43 at_241 (pc' := 243) rfl (v := (11 : Int32)) rfl ?_
    refine o_lloadN G43 at_243 (pc' := 244) rfl rfl ?_
    refine o_lloadN G43 at_244 (pc' := 245) rfl rfl ?_
    refine o_bipush G43 at_245 (pc' := 247) rfl (v := (11 : Int32)) rfl ?_
    refine o_iload G43 at_247 (pc' := 249) rfl rfl ?_
    refine o_iload G43 at_249 (pc' := 251) rfl rfl ?_
    refine o_iload G43 at_251 (pc' := 253) rfl rfl ?_
    obtain ⟨v44, e44⟩ : ∃ z, f_1 q0 q1 (11 : Int32) v1 v6 v8 = z := ⟨_, rfl⟩
    refine o_callP G43 (z := (⟨"com/example/keyfold/keyfold/VarintEndPinLaw", "shaped", "(JJIIIZ)B"⟩ : MethodName)) (r := (.int v44)) (argsL := [(.long q0), (.long q1), (.int (11 : Int32)), (.int v1), (.int v6), (.int v8)]) (rest := [(.int (11 : Int32)), (.ref b10)]) (W := 2) (hw _ (List.mem_of_getElem? (i := 2) rfl)) (hw _ (List.mem_of_getElem? (i := 3) rfl)) at_253 (by decide) (hw _ (List.mem_of_getElem? (i := 4) rfl)) (hw _ (List.mem_of_getElem? (i := 5) rfl)) (by rw [← e44]; exact rm1 hw q0 q1 (11 : Int32) v1 v6 v8 h43 n0 G43.sz) (by decide) (by decide) rfl (lenOf pd_1 rfl) rfl (Nat.le_of_eq rfl) (pc' := 256) rfl (by decide) (by decide) ?_
    intro T45 G45
    refine o_bastore G45 A_b10 g_b10 (i := 11) rfl (by decide) at_256 (pc' := 257) rfl ?_
    intro T46 h46 G46 W46 A46
    replace A_b10 := A46
    refine o_aload G46 at_257 (pc' := 259) rfl rfl rfl ?_
    refine o_iload G46 at_259 (pc' := 261) rfl rfl ?_
    refine o_iload G46 at_261 (pc' := 263) rfl rfl ?_
    have A_f : OArr Z h46 b10 .byte 12 (fun j => .int ((own_arr q0 q1 v1 v6 v8) j)) := by
      subst e11 e14 e17 e20 e23 e26 e29 e32 e35 e38 e41 e44
      refine A_b10.congr (fun j hj => ?_)
      match j, hj with
      | 0, _ => rfl
      | 1, _ => rfl
      | 2, _ => rfl
      | 3, _ => rfl
      | 4, _ => rfl
      | 5, _ => rfl
      | 6, _ => rfl
      | 7, _ => rfl
      | 8, _ => rfl
      | 9, _ => rfl
      | 10, _ => rfl
      | 11, _ => rfl
      | j + 12, hj => omega
    obtain ⟨v47, e47⟩ : ∃ z, own_end (own_arr q0 q1 v1 v6 v8) v1 v3 9 0 = z := ⟨_, rfl⟩
    refine o_callP G46 (z := (⟨"com/example/keyfold/keyfold/Varint", "end", "([BII)I"⟩ : MethodName)) (r := (.int v47)) (argsL := [(.ref b10), (.int v1), (.int v3)]) (rest := []) (W := 0) (hw _ (List.mem_of_getElem? (i := 9) rfl)) (hw _ (List.mem_of_getElem? (i := 10) rfl)) at_263 (by decide) (hw _ (List.mem_of_getElem? (i := 11) rfl)) (hw _ (List.mem_of_getElem? (i := 12) rfl)) (by rw [← e47]; exact rm3 hw b10 v1 v3 h46 n0 G46.sz (own_arr q0 q1 v1 v6 v8) A_f hoff.1 hoff.2 hen.2) (by decide) (by decide) rfl (lenOf pd_2 rfl) rfl (Nat.le_of_eq rfl) (pc' := 266) rfl (by decide) (by decide) ?_
    intro T48 G48
    refine o_istore G48 at_266 (pc' := 268) rfl (l' := #[.val (.long q0), .second, .val (.long q1), .second, .val (.int p2), .val (.int p3), .val (.int p4), .val (.int p5), .val (.int v1), .val (.int v3), .val (.int v5), .val (.int v6), .val (.int v8), .val (.ref b10), .val (.int v47), .unset, .unset]) rfl ?_
    refine o_iconst G48 at_268 (pc' := 269) rfl (v := (-1 : Int32)) rfl ?_
    refine o_istore G48 at_269 (pc' := 271) rfl (l' := #[.val (.long q0), .second, .val (.long q1), .second, .val (.int p2), .val (.int p3), .val (.int p4), .val (.int p5), .val (.int v1), .val (.int v3), .val (.int v5), .val (.int v6), .val (.int v8), .val (.ref b10), .val (.int v47), .val (.int (-1 : Int32)), .unset]) rfl ?_
    refine o_iload G48 at_271 (pc' := 273) rfl rfl ?_
    refine o_bipush G48 at_273 (pc' := 275) rfl (v := (9 : Int32)) rfl ?_
    refine o_icmp_ge G48 at_275 (by decide) (pcT := 328) (by decide) (pc' := 278) rfl (fun hc275 => ?_) (fun hc275 => ?_)
    · refine o_iload G48 at_328 (pc' := 330) rfl rfl ?_
      refine o_iload G48 at_330 (pc' := 332) rfl rfl ?_
      refine o_icmp_ne G48 at_332 (by decide) (pcT := 339) (by decide) (pc' := 335) rfl (fun q => absurd (by
                subst e47
                rw [own_main q0 q1 _ _ _ _ _ hoff hen hk hp, own_exp, if_neg hc275]) q) (fun _ => ?_)
      refine o_iconst G48 at_335 (pc' := 336) rfl (v := (1 : Int32)) rfl ?_
      refine o_goto G48 at_336 (by decide) (pc' := 340) rfl ?_
      exact o_nreturn (t := .boolean) G48 (by simp) at_340 rfl (by decide) (by decide)
    · refine o_iload G48 at_278 (pc' := 280) rfl rfl ?_
      refine o_iload G48 at_280 (pc' := 282) rfl rfl ?_
      refine o_iload G48 at_282 (pc' := 284) rfl rfl ?_
      obtain ⟨v49, e49⟩ : ∃ z, v3 - v1 = z := ⟨_, rfl⟩
      refine o_isub G48 at_284 (pc' := 285) rfl e49 ?_
      refine o_icmp_ge G48 at_285 (by decide) (pcT := 328) (by decide) (pc' := 288) rfl (fun hc285 => ?_) (fun hc285 => ?_)
      · refine o_iload G48 at_328 (pc' := 330) rfl rfl ?_
        refine o_iload G48 at_330 (pc' := 332) rfl rfl ?_
        refine o_icmp_ne G48 at_332 (by decide) (pcT := 339) (by decide) (pc' := 335) rfl (fun q => absurd (by
                    subst e47 e49
                    rw [own_main q0 q1 _ _ _ _ _ hoff hen hk hp, own_exp, if_pos hc275, if_neg hc285]) q) (fun _ => ?_)
        refine o_iconst G48 at_335 (pc' := 336) rfl (v := (1 : Int32)) rfl ?_
        refine o_goto G48 at_336 (by decide) (pc' := 340) rfl ?_
        exact o_nreturn (t := .boolean) G48 (by simp) at_340 rfl (by decide) (by decide)
      · refine o_iload G48 at_288 (pc' := 290) rfl rfl ?_
        obtain ⟨v50, e50⟩ : ∃ z, (if v8 = (0 : Int32) then ((f_2 q0 q1 v6) &&& (127 : Int32)) else (0 : Int32)) = z := ⟨_, rfl⟩
        have K51 : ∀ T', OG l Z x code maxLocals ret n0 p e room_1 s m #[(.long q0), (.long q1), (.int p2), (.int p3), (.int p4), (.int p5)] below meth c T' h46 1 12 → OFin n0 p e below s (fun v _ => v = some (.int 1)) 16 128 T' (mkF m 307 #[.val (.long q0), .second, .val (.long q1), .second, .val (.int p2), .val (.int p3), .val (.int p4), .val (.int p5), .val (.int v1), .val (.int v3), .val (.int v5), .val (.int v6), .val (.int v8), .val (.ref b10), .val (.int v47), .val (.int (-1 : Int32)), .unset] [(.int v50)]) := by
          intro T51 G51
          refine o_istore G51 at_307 (pc' := 309) rfl (l' := #[.val (.long q0), .second, .val (.long q1), .second, .val (.int p2), .val (.int p3), .val (.int p4), .val (.int p5), .val (.int v1), .val (.int v3), .val (.int v5), .val (.int v6), .val (.int v8), .val (.ref b10), .val (.int v47), .val (.int (-1 : Int32)), .val (.int v50)]) rfl ?_
          refine o_iload G51 at_309 (pc' := 311) rfl rfl ?_
          refine o_if_eq G51 at_311 (by decide) (pcT := 319) (by decide) (pc' := 314) rfl (fun hc311 => ?_) (fun hc311 => ?_)
          · refine o_iload G51 at_319 (pc' := 321) rfl rfl ?_
            refine o_iload G51 at_321 (pc' := 323) rfl rfl ?_
            obtain ⟨v52, e52⟩ : ∃ z, v1 + v5 = z := ⟨_, rfl⟩
            refine o_iadd G51 at_323 (pc' := 324) rfl e52 ?_
            refine o_iconst G51 at_324 (pc' := 325) rfl (v := (1 : Int32)) rfl ?_
            obtain ⟨v53, e53⟩ : ∃ z, v52 + (1 : Int32) = z := ⟨_, rfl⟩
            refine o_iadd G51 at_325 (pc' := 326) rfl e53 ?_
            refine o_istore G51 at_326 (pc' := 328) rfl (l' := #[.val (.long q0), .second, .val (.long q1), .second, .val (.int p2), .val (.int p3), .val (.int p4), .val (.int p5), .val (.int v1), .val (.int v3), .val (.int v5), .val (.int v6), .val (.int v8), .val (.ref b10), .val (.int v47), .val (.int v53), .val (.int v50)]) rfl ?_
            refine o_iload G51 at_328 (pc' := 330) rfl rfl ?_
            refine o_iload G51 at_330 (pc' := 332) rfl rfl ?_
            refine o_icmp_ne G51 at_332 (by decide) (pcT := 339) (by decide) (pc' := 335) rfl (fun q => absurd (by
                            subst e47 e49 e50 e52 e53
                            rw [own_main q0 q1 _ _ _ _ _ hoff hen hk hp, own_exp, if_pos hc275, if_pos hc285, if_pos hc311]) q) (fun _ => ?_)
            refine o_iconst G51 at_335 (pc' := 336) rfl (v := (1 : Int32)) rfl ?_
            refine o_goto G51 at_336 (by decide) (pc' := 340) rfl ?_
            exact o_nreturn (t := .boolean) G51 (by simp) at_340 rfl (by decide) (by decide)
          · refine o_iload G51 at_314 (pc' := 316) rfl rfl ?_
            refine o_if_eq G51 at_316 (by decide) (pcT := 328) (by decide) (pc' := 319) rfl (fun hc316 => ?_) (fun hc316 => ?_)
            · refine o_iload G51 at_328 (pc' := 330) rfl rfl ?_
              refine o_iload G51 at_330 (pc' := 332) rfl rfl ?_
              refine o_icmp_ne G51 at_332 (by decide) (pcT := 339) (by decide) (pc' := 335) rfl (fun q => absurd (by
                                subst e47 e49 e50
                                rw [own_main q0 q1 _ _ _ _ _ hoff hen hk hp, own_exp, if_pos hc275, if_pos hc285, if_neg hc311, if_pos hc316]) q) (fun _ => ?_)
              refine o_iconst G51 at_335 (pc' := 336) rfl (v := (1 : Int32)) rfl ?_
              refine o_goto G51 at_336 (by decide) (pc' := 340) rfl ?_
              exact o_nreturn (t := .boolean) G51 (by simp) at_340 rfl (by decide) (by decide)
            · refine o_iload G51 at_319 (pc' := 321) rfl rfl ?_
              refine o_iload G51 at_321 (pc' := 323) rfl rfl ?_
              obtain ⟨v54, e54⟩ : ∃ z, v1 + v5 = z := ⟨_, rfl⟩
              refine o_iadd G51 at_323 (pc' := 324) rfl e54 ?_
              refine o_iconst G51 at_324 (pc' := 325) rfl (v := (1 : Int32)) rfl ?_
              obtain ⟨v55, e55⟩ : ∃ z, v54 + (1 : Int32) = z := ⟨_, rfl⟩
              refine o_iadd G51 at_325 (pc' := 326) rfl e55 ?_
              refine o_istore G51 at_326 (pc' := 328) rfl (l' := #[.val (.long q0), .second, .val (.long q1), .second, .val (.int p2), .val (.int p3), .val (.int p4), .val (.int p5), .val (.int v1), .val (.int v3), .val (.int v5), .val (.int v6), .val (.int v8), .val (.ref b10), .val (.int v47), .val (.int v55), .val (.int v50)]) rfl ?_
              refine o_iload G51 at_328 (pc' := 330) rfl rfl ?_
              refine o_iload G51 at_330 (pc' := 332) rfl rfl ?_
              refine o_icmp_ne G51 at_332 (by decide) (pcT := 339) (by decide) (pc' := 335) rfl (fun q => absurd (by
                                subst e47 e49 e50 e54 e55
                                rw [own_main q0 q1 _ _ _ _ _ hoff hen hk hp, own_exp, if_pos hc275, if_pos hc285, if_neg hc311, if_neg hc316]) q) (fun _ => ?_)
              refine o_iconst G51 at_335 (pc' := 336) rfl (v := (1 : Int32)) rfl ?_
              refine o_goto G51 at_336 (by decide) (pc' := 340) rfl ?_
              exact o_nreturn (t := .boolean) G51 (by simp) at_340 rfl (by decide) (by decide)
        refine o_if_eq G48 at_290 (by decide) (pcT := 297) (by decide) (pc' := 293) rfl (fun hc290 => ?_) (fun hc290 => ?_)
        · refine o_lloadN G48 at_297 (pc' := 298) rfl rfl ?_
          refine o_lloadN G48 at_298 (pc' := 299) rfl rfl ?_
          refine o_iload G48 at_299 (pc' := 301) rfl rfl ?_
          obtain ⟨v56, e56⟩ : ∃ z, f_2 q0 q1 v6 = z := ⟨_, rfl⟩
          refine o_callP G48 (z := (⟨"com/example/keyfold/keyfold/VarintEndPinLaw", "rawByte", "(JJI)I"⟩ : MethodName)) (r := (.int v56)) (argsL := [(.long q0), (.long q1), (.int v6)]) (rest := []) (W := 0) (hw _ (List.mem_of_getElem? (i := 6) rfl)) (hw _ (List.mem_of_getElem? (i := 7) rfl)) at_301 (by decide) (hw _ (List.mem_of_getElem? (i := 4) rfl)) (hw _ (List.mem_of_getElem? (i := 8) rfl)) (by rw [← e56]; exact rm2 hw q0 q1 v6 h46 n0 G48.sz) (by decide) (by decide) rfl (lenOf pd_0 rfl) rfl (Nat.le_of_eq rfl) (pc' := 304) rfl (by decide) (by decide) ?_
          intro T57 G57
          refine o_bipush G57 at_304 (pc' := 306) rfl (v := (127 : Int32)) rfl ?_
          obtain ⟨v58, e58⟩ : ∃ z, v56 &&& (127 : Int32) = z := ⟨_, rfl⟩
          refine o_iand G57 at_306 (pc' := 307) rfl e58 ?_
          subst e56 e58
          rw [if_pos hc290] at e50
          subst e50
          exact K51 _ G57
        · refine o_iconst G48 at_293 (pc' := 294) rfl (v := (0 : Int32)) rfl ?_
          refine o_goto G48 at_294 (by decide) (pc' := 307) rfl ?_
          rw [if_neg hc290] at e50
          subst e50
          exact K51 _ G48
  refine o_if_eq G0 at_37 (by decide) (pcT := 44) (by decide) (pc' := 40) rfl (fun hc37 => ?_) (fun hc37 => ?_)
  · refine o_iconst G0 at_44 (pc' := 45) rfl (v := (0 : Int32)) rfl ?_
    rw [if_pos hc37] at e8
    subst e8
    exact K9 _ G0
  · refine o_iconst G0 at_40 (pc' := 41) rfl (v := (1 : Int32)) rfl ?_
    refine o_goto G0 at_41 (by decide) (pc' := 45) rfl ?_
    rw [if_neg hc37] at e8
    subst e8
    exact K9 _ G0
set_option maxRecDepth 65536 in
set_option maxHeartbeats 40000000 in
theorem comes_1 {Post : Tables → Env → Array Value → State → Outcome → State → Prop} (hpost : ∀ tb e args s v u, (limb_1_1.after args s (.returned v) u = true ∧ limb_1_2.after args s (.returned v) u = true ∧ True) → FrameEnd s (.returned v) u (Jvm.fieldLocs frame_1_writes args s ++ Jvm.arrayLocs frame_1_arrays args s ++ Jvm.staticLocs frame_1_statics s) 16 128 → Post tb e args s (.returned v) u) :
    ArmFor flags0 classFile x code maxLocals ret World_1 tables_1 room_1 Calls_1 rest_1 Pre_1 Post := by
  intro l hfl _ _ p e ha hc hk s m args below hf hA hF happ hP
  obtain ⟨hcalls, hrest, hpre⟩ := hP
  obtain ⟨-, -, -, hnamed, -, -, -, hat⟩ := (Spec.applies_iff hf).mp happ
  obtain ⟨hg, hn⟩ := and_e (Cond.before_iff.mp (show (Jvm.Cond.and given_1 narrow_1).before args s = true from hpre))
  obtain ⟨g1, g2⟩ := and_e hg
  obtain ⟨g3, g4⟩ := and_e g2
  obtain ⟨g5, g6⟩ := and_e g4
  obtain ⟨g7, g8⟩ := and_e g6
  obtain ⟨g9, g10⟩ := and_e g8
  obtain ⟨g11, g12⟩ := and_e g10
  obtain ⟨w0, w1, w2, w3, w4, w5, rfl⟩ : ∃ w0 w1 w2 w3 w4 w5 : Value, args = #[w0, w1, w2, w3, w4, w5] := by
    have hs : args.size = 6 := by simpa [Cond.value, given_1] using g1
    obtain ⟨L⟩ := args
    match L, hs with
    | [w0, w1, w2, w3, w4, w5], _ => exact ⟨w0, w1, w2, w3, w4, w5, rfl⟩
  have hw := fun d (hd : d ∈ tables_1) => atoms_spec (ws := Jvm.Cond.code x code maxLocals ret :: tables_1) hat d (List.mem_cons_of_mem _ hd)
  obtain ⟨i0, ei0⟩ := isL_v g3
  obtain rfl : w0 = (.long i0) := Option.some.inj ei0
  obtain ⟨i1, ei1⟩ := isL_v g5
  obtain rfl : w1 = (.long i1) := Option.some.inj ei1
  obtain ⟨i2, ei2⟩ := is_v g7
  obtain rfl : w2 = (.int i2) := Option.some.inj ei2
  obtain ⟨i3, ei3⟩ := is_v g9
  obtain rfl : w3 = (.int i3) := Option.some.inj ei3
  obtain ⟨i4, ei4⟩ := is_v g11
  obtain rfl : w4 = (.int i4) := Option.some.inj ei4
  obtain ⟨i5, ei5⟩ := is_v g12
  obtain rfl : w5 = (.int i5) := Option.some.inj ei5
  obtain ⟨n, o, h1, h2, h3, _, L, rfl, ⟨N, _, hv⟩, hq⟩ := rm0 (l := l) (Z := s) hw i0 i1 i2 i3 i4 i5 s.heap s.heap.size (Nat.le_refl _)  tables_1 p e ha hc hk s m _ below hf ((Spec.applies_iff_loose hf).mp happ).1 ⟨rfl, State.Warmed39.refl s, rfl⟩ trivial
  subst hv
  refine ⟨n, _, h1, h2, h3, hpost _ _ _ _ _ _ ⟨Cond.after_iff.mpr rfl, Cond.after_iff.mpr (eq_i res_at (Term.int_eval (1)) rfl), trivial⟩ ⟨hq.1, hq.2.1, (hq.2.2.sift fun y hy => Or.inr (N y hy)).mono (by decide) (by decide)⟩⟩
theorem main_1_1 : Claimed_1_1 := comes_1 fun _ _ _ _ _ _ h hF => ⟨h.1, hF⟩
theorem main_1_2 : Claimed_1_2 := comes_1 fun _ _ _ _ _ _ h hF => ⟨h.2.1, hF⟩
end Jvm.Pilot.@@N@@
namespace Jvm.Pilot.@@N@@
open Jvm Jvm.ClassFile Sem Op Lib Jvm.Free Jvm.Stand Jvm.Pilot.@@N@@.Jvm.D
/-! MADE BY PROGRAM (witnessworld.py) out of the Statement's table words and the real class files: 9 classes; the members and pool entries that the words name. The judged class is class 1, her method 3. -/
namespace start1
open Jvm.ClassFile
def u (s : String) : CpInfo := .utf8 (stringToUtf16 s)
/-- a pool by its gaps: so many unusable entries, then the entry; so many at the end -/
def gap : Nat → List CpInfo → List CpInfo
  | 0, r => r
  | n + 1, r => .unusable :: gap n r
def poolList (es : List (Nat × CpInfo)) (last : Nat) : List CpInfo := es.foldr (fun e r => gap e.1 (e.2 :: r)) (gap last [])
def pool (es : List (Nat × CpInfo)) (last : Nat) : Array CpInfo := ⟨poolList es last⟩
def fileOf (pool : Array CpInfo) (this : Nat) (attrs : Array Attribute := #[]) (ms : Array MethodInfo := #[]) (fl : Nat := 33) (sup : Nat := 0) (ifs : Array Nat := #[]) (fds : Array FieldInfo := #[]) : ClassFile where
  minorVersion := 0
  majorVersion := 65
  constantPool := pool
  accessFlags := fl
  thisClass := this
  superClass := sup
  interfaces := ifs
  fields := fds
  methods := ms
  attributes := attrs
def plain (name : String) (sup : Option ClassId) : Class where
  name := name
  kind := .ordinary
  loader := none
  accessFlags := 33
  super := sup
  interfaces := #[]
  cf := none
  fields := #[]
  methods := #[]
  instanceTypes := #[]
  staticTypes := #[]
  resolved := #[]
  callSites := []
  init := .initialized
  statics := none
  mirror := none

def pool0 : Array CpInfo := pool [(5, u "<init>"), (0, u "()V"), (1, .class_ 10), (1, u "java/lang/Object")] 113

def k0m0 : Method := { name := "<init>", desc := "()V", sig := { parameters := [], returnType := none }, accessFlags := 1, code := none }
/-- java/lang/Object -/
def k0 : Class := { plain "java/lang/Object" none with
  accessFlags := 33
  interfaces := #[]
  cf := some (fileOf pool0 8 #[] #[{ accessFlags := 1, nameIndex := 5, descriptorIndex := 6, attributes := #[] }] 33 0 #[] #[])
  fields := #[]
  methods := #[k0m0]
  instanceTypes := #[]
  staticTypes := #[]
  resolved := Array.replicate 124 none
  statics := none }

def pool1 : Array CpInfo := pool [(2, .class_ 4), (1, u "java/lang/Object"), (0, u "<init>"), (0, u "()V"), (0, .methodref 8 9), (0, .class_ 10), (0, .nameAndType 11 12), (0, u "com/example/keyfold/keyfold/VarintEndPinLaw"), (0, u "rawByte"), (0, u "(JJI)I"), (0, .integer 2147483647), (0, .methodref 8 15), (0, .nameAndType 16 17), (0, u "shaped"), (0, u "(JJIIIZ)B"), (0, .methodref 19 20), (0, .class_ 21), (0, .nameAndType 22 23), (0, u "com/example/keyfold/keyfold/Varint"), (0, u "end"), (0, u "([BII)I"), (3, u "law"), (0, u "(JJIIII)Z")] 4

def k1m0 : Method := { name := "<init>", desc := "()V", sig := { parameters := [], returnType := none }, accessFlags := 2, code := none }
def k1c1 : Code := { maxStack := 5, maxLocals := 5, code := method_2_code, exceptionTable := #[], attributes := #[] }
def k1m1 : Method := { name := "rawByte", desc := "(JJI)I", sig := { parameters := [.long, .long, .int], returnType := some .int }, accessFlags := 10, code := some k1c1 }
def k1c2 : Code := { maxStack := 5, maxLocals := 9, code := method_3_code, exceptionTable := #[], attributes := #[] }
def k1m2 : Method := { name := "shaped", desc := "(JJIIIZ)B", sig := { parameters := [.long, .long, .int, .int, .int, .boolean], returnType := some .byte }, accessFlags := 10, code := some k1c2 }
def k1c3 : Code := { maxStack := 10, maxLocals := 17, code := code, exceptionTable := #[], attributes := #[] }
def k1m3 : Method := { name := "law", desc := "(JJIIII)Z", sig := { parameters := [.long, .long, .int, .int, .int, .int], returnType := some .boolean }, accessFlags := 9, code := some k1c3 }
/-- com/example/keyfold/keyfold/VarintEndPinLaw -/
def k1 : Class := { plain "com/example/keyfold/keyfold/VarintEndPinLaw" (some 0) with
  accessFlags := 49
  interfaces := #[]
  cf := some (fileOf pool1 8 #[] #[{ accessFlags := 2, nameIndex := 5, descriptorIndex := 6, attributes := #[] }, { accessFlags := 10, nameIndex := 11, descriptorIndex := 12, attributes := #[] }, { accessFlags := 10, nameIndex := 16, descriptorIndex := 17, attributes := #[] }, { accessFlags := 9, nameIndex := 27, descriptorIndex := 28, attributes := #[] }] 49 2 #[] #[])
  fields := #[]
  methods := #[k1m0, k1m1, k1m2, k1m3]
  instanceTypes := #[]
  staticTypes := #[]
  resolved := Array.replicate 33 none
  statics := none }

def pool2 : Array CpInfo := pool [(2, .class_ 4), (1, u "java/lang/Object"), (0, u "<init>"), (0, u "()V"), (8, .class_ 16), (0, u "com/example/keyfold/keyfold/Varint"), (0, u "MAX_BYTES"), (0, u "I"), (10, u "end"), (0, u "([BII)I")] 2

def k2m0 : Method := { name := "<init>", desc := "()V", sig := { parameters := [], returnType := none }, accessFlags := 2, code := none }
def k2c1 : Code := { maxStack := 3, maxLocals := 6, code := prog_142_method_5_code, exceptionTable := #[], attributes := #[] }
def k2m1 : Method := { name := "end", desc := "([BII)I", sig := { parameters := [(.array .byte), .int, .int], returnType := some .int }, accessFlags := 8, code := some k2c1 }
/-- com/example/keyfold/keyfold/Varint -/
def k2 : Class := { plain "com/example/keyfold/keyfold/Varint" (some 0) with
  accessFlags := 48
  interfaces := #[]
  cf := some (fileOf pool2 15 #[] #[{ accessFlags := 2, nameIndex := 5, descriptorIndex := 6, attributes := #[] }, { accessFlags := 8, nameIndex := 29, descriptorIndex := 30, attributes := #[] }] 48 2 #[] #[{ accessFlags := 24, nameIndex := 17, descriptorIndex := 18, attributes := #[] }])
  fields := #[{ name := "MAX_BYTES", type := .int, accessFlags := 24, slot := 0, constantValue := 0 }]
  methods := #[k2m0, k2m1]
  instanceTypes := #[]
  staticTypes := #[.int]
  resolved := Array.replicate 33 none
  statics := none }

def pool3 : Array CpInfo := pool [(1, u "java/lang/Cloneable"), (0, .class_ 1), (0, u "java/lang/Object"), (0, .class_ 3)] 3

/-- java/lang/Cloneable -/
def k3 : Class := { plain "java/lang/Cloneable" (some 0) with
  accessFlags := 1537
  interfaces := #[]
  cf := some (fileOf pool3 2 #[] #[] 1537 4 #[] #[])
  fields := #[]
  methods := #[]
  instanceTypes := #[]
  staticTypes := #[]
  resolved := Array.replicate 8 none
  statics := none }

def pool4 : Array CpInfo := pool [(1, u "java/io/Serializable"), (0, .class_ 1), (0, u "java/lang/Object"), (0, .class_ 3)] 3

/-- java/io/Serializable -/
def k4 : Class := { plain "java/io/Serializable" (some 0) with
  accessFlags := 1537
  interfaces := #[]
  cf := some (fileOf pool4 2 #[] #[] 1537 4 #[] #[])
  fields := #[]
  methods := #[]
  instanceTypes := #[]
  staticTypes := #[]
  resolved := Array.replicate 8 none
  statics := none }

/-- the primitive byte -/
def k5 : Class := { plain "byte" none with kind := .primitive 'B', accessFlags := 0x411 }
/-- [B -/
def k6 : Class := { plain "[B" (some 0) with kind := .array 5 .byte, interfaces := #[3, 4], accessFlags := 1041 }

/-- the primitive int -/
def k7 : Class := { plain "int" none with kind := .primitive 'I', accessFlags := 0x411 }
/-- [I -/
def k8 : Class := { plain "[I" (some 0) with kind := .array 7 .int, interfaces := #[3, 4], accessFlags := 1041 }

def heap : Heap := #[]
def classes : Array Class := #[k0, k1, k2, k3, k4, k5, k6, k7, k8]
def interned : List (Array UInt16 × Addr) := []
def slotsUsed : Nat := 0
def theMethod : MethodId := ⟨1, 3⟩
def args0 : Array Value := #[.long 5, .long 5, .int 5, .int 5, .int 5, .int 5]
def aboutOver (below : List Frame) : State where
  vm := { classes := classes, interned := interned.toArray }
  heap := heap
  slotsUsed := slotsUsed
  threads := #[{ frames := .invoking theMethod args0 :: below }]
def below0 : List Frame := [.native { method := ⟨0, 0⟩, args := #[] }]
def about1 : State := aboutOver below0
def p0 : Program := .bare "" "" ""
def e0 : Env := launch0.env 0 0 0
theorem w_frames : about1.frames = Frame.invoking theMethod args0 :: below0 := rfl
set_option maxRecDepth 65536 in
theorem w_args : argsFit about1.vm theMethod args0 = true := by decide +kernel
set_option maxRecDepth 65536 in
theorem w_heap : heapFits about1 = true := by decide +kernel
set_option maxRecDepth 65536 in
theorem w_runnable : about1.curStatus? = some .runnable := by decide +kernel
set_option maxRecDepth 65536 in
theorem w_alone : about1.alone = true := by decide +kernel
set_option maxRecDepth 65536 in
theorem w_named : about1.methodNamed? x = some theMethod := by decide +kernel
set_option maxRecDepth 65536 in
theorem w_hears : about1.hears theMethod below0 = true := by decide +kernel
set_option maxRecDepth 65536 in
theorem w_ripe : about1.ripe theMethod args0 below0 = true := by decide +kernel
theorem w_running : about1.status = .running := rfl
set_option maxRecDepth 65536 in
theorem w_room : about1.hasRoom e0.platform room_1 = true :=
  launch0.hasRoom_least _ room_1 (by decide +kernel) (by decide +kernel) (by decide +kernel) (by decide +kernel) (by decide +kernel) (by decide +kernel)
theorem allAtoms_all (ts : List Jvm.Cond) (a : Array Jvm.Value) (st : Jvm.State) : (allAtoms ts).before a st = ts.all (fun c => c.before a st) := by
  induction ts with
  | nil => rfl
  | cons c t ih =>
    show (Jvm.Cond.and c (allAtoms t)).before a st = _
    rw [Jvm.Cond.before_and, ih, List.all_cons]
def words1 : List Jvm.Cond := Jvm.Cond.code x code maxLocals ret :: tables_1
/-- a 'code' word, met by the world's own term for the bytes: nothing is compared byte by byte -/
theorem code_word {y : MethodName} {bytes : ByteArray} {mx : Nat} {rt : Option FieldType} {a : Array Value} {s : State} {m : MethodId} {meth : Method} {c : Code} (h1 : s.methodNamed? y = some m) (h2 : s.vm.method? m = some meth) (h3 : meth.code = some c) (h4 : c.code = bytes)
    (h5 : (c.maxLocals == mx && c.exceptionTable.isEmpty && decide (c.maxStack ≤ mostOperands) && decide (meth.sig.returnType = rt) && !meth.locks && decide (parseMethodDescriptor y.desc = some meth.sig)) = true) : (Jvm.Cond.code y bytes mx rt).before a s = true := by
  simp only [Bool.and_eq_true, beq_iff_eq, Bool.not_eq_true', decide_eq_true_eq] at h5
  obtain ⟨⟨⟨⟨⟨g1, g2⟩, g3⟩, g4⟩, g5⟩, g6⟩ := h5
  simp [Cond.before, Cond.holds, Cond.value, h1, h2, h3, h4, g1, g2, g3, g4, g5, g6]
def isCode : Jvm.Cond → Bool
  | .code _ _ _ _ => true
  | _ => false
theorem all_split {L : List Jvm.Cond} {P : Jvm.Cond → Bool} (h1 : L.all (fun c => isCode c || P c) = true) (h2 : ∀ c ∈ L.filter isCode, P c = true) : L.all P = true := by
  refine List.all_eq_true.mpr fun c hc => ?_
  have h := List.all_eq_true.mp h1 c hc
  rcases Bool.eq_false_or_eq_true (isCode c) with hi | hi
  · exact h2 c (List.mem_filter.mpr ⟨hc, hi⟩)
  · simpa [hi] using h
set_option maxRecDepth 65536 in
theorem w_c0 : (Jvm.Cond.code x code maxLocals ret).before args0 about1 = true := code_word (m := ⟨1, 3⟩) (meth := k1m3) (c := k1c3) (by decide +kernel) rfl rfl rfl (by decide +kernel)
set_option maxRecDepth 65536 in
theorem w_c1 : (Jvm.Cond.code ({ cls := "com/example/keyfold/keyfold/VarintEndPinLaw", name := "shaped", desc := "(JJIIIZ)B" } : Jvm.MethodName) method_3_code (9 : Nat) (Option.some Jvm.ClassFile.FieldType.byte)).before args0 about1 = true := code_word (m := ⟨1, 2⟩) (meth := k1m2) (c := k1c2) (by decide +kernel) rfl rfl rfl (by decide +kernel)
set_option maxRecDepth 65536 in
theorem w_c2 : (Jvm.Cond.code ({ cls := "com/example/keyfold/keyfold/VarintEndPinLaw", name := "rawByte", desc := "(JJI)I" } : Jvm.MethodName) method_2_code (5 : Nat) (Option.some Jvm.ClassFile.FieldType.int)).before args0 about1 = true := code_word (m := ⟨1, 1⟩) (meth := k1m1) (c := k1c1) (by decide +kernel) rfl rfl rfl (by decide +kernel)
set_option maxRecDepth 65536 in
theorem w_c3 : (Jvm.Cond.code ({ cls := "com/example/keyfold/keyfold/Varint", name := "end", desc := "([BII)I" } : Jvm.MethodName) prog_142_method_5_code (6 : Nat) (Option.some Jvm.ClassFile.FieldType.int)).before args0 about1 = true := code_word (m := ⟨2, 1⟩) (meth := k2m1) (c := k2c1) (by decide +kernel) rfl rfl rfl (by decide +kernel)
def codes1 : List Jvm.Cond := [Jvm.Cond.code x code maxLocals ret, Jvm.Cond.code ({ cls := "com/example/keyfold/keyfold/VarintEndPinLaw", name := "shaped", desc := "(JJIIIZ)B" } : Jvm.MethodName) method_3_code (9 : Nat) (Option.some Jvm.ClassFile.FieldType.byte), Jvm.Cond.code ({ cls := "com/example/keyfold/keyfold/VarintEndPinLaw", name := "rawByte", desc := "(JJI)I" } : Jvm.MethodName) method_2_code (5 : Nat) (Option.some Jvm.ClassFile.FieldType.int), Jvm.Cond.code ({ cls := "com/example/keyfold/keyfold/Varint", name := "end", desc := "([BII)I" } : Jvm.MethodName) prog_142_method_5_code (6 : Nat) (Option.some Jvm.ClassFile.FieldType.int)]
set_option maxRecDepth 65536 in
theorem codes_eq : words1.filter isCode = codes1 := rfl
theorem w_codes : ∀ c ∈ words1.filter isCode, c.before args0 about1 = true := by
  rw [codes_eq]
  intro c hc
  simp only [codes1, List.mem_cons, List.not_mem_nil, or_false] at hc
  rcases hc with rfl | rfl | rfl | rfl
  · exact w_c0
  · exact w_c1
  · exact w_c2
  · exact w_c3
set_option maxRecDepth 65536 in
theorem w_t1 : words1.all (fun c => isCode c || c.before args0 about1) = true := by decide +kernel
theorem w_tables : (allAtoms (Jvm.Cond.code x code maxLocals ret :: tables_1)).before args0 about1 = true := by
  rw [allAtoms_all]
  show words1.all (fun c => c.before args0 about1) = true
  refine all_split ?_ w_codes
  rw [w_t1]
set_option maxRecDepth 65536 in
theorem w_case : (Jvm.Cond.and given_1 narrow_1).before args0 about1 = true := by decide +kernel
theorem w_applies : (headSpec (Jvm.Cond.code x code maxLocals ret :: tables_1) room_1).applies x e0.platform about1 = true :=
  (Spec.applies_iff w_frames).mpr ⟨w_running, w_runnable, w_alone, w_named, w_hears, w_ripe, w_room, w_tables⟩
theorem atStart : AtStart classFile x code maxLocals ret World_1 tables_1 room_1 Calls_1 rest_1 Pre_1 launch0 p0 e0 about1 theMethod args0 below0 :=
  ⟨lists_1, trivial, launch0.admits_env _ _ _, launch0.least_env, fairChoices_fair.cas, fairChoices_fair.clock, w_frames, w_args, w_heap, w_applies, trivial, trivial, w_case⟩
end start1
theorem witness_1 : WitnessClaimed_1 := ⟨start1.p0, start1.e0, start1.about1, start1.theMethod, start1.args0, start1.below0, start1.atStart⟩
end Jvm.Pilot.@@N@@
