import JvmDerived
import JvmDerived.Pilot.@@N@@Statement
import JvmDerived.Pilot.@@N@@Code
set_option linter.unusedVariables false
set_option linter.unusedSimpArgs false
namespace Jvm.Pilot.@@N@@
open Jvm Jvm.ClassFile Sem Op Lib Jvm.Free Jvm.Stand Jvm.LawKit Jvm.RoadKit Bundle Jvm.Pilot.@@N@@.Jvm.D

section OwnKit
/-- from here the run comes to a return that says Q -/
def OFin (n0 : Nat) (p : Program) (e : Env) (below : List Frame) (s : State) (Q : Option Value → Heap → Prop) (ck sk : Nat) (T : State) (g : JFrame) : Prop :=
  ∃ s₂ o, Steps p.tables e below (T.setTop g) s₂ ∧ s₂.status = .running ∧ Ended s₂ below o ∧ ∃ v L, o = .returned v ∧ (Fr n0 L ∧ n0 ≤ s₂.heap.size ∧ Q v s₂.heap) ∧ FrameEnd s o s₂ L ck sk
/-- where the walk of a body stands, with all that is known of the body -/
def OG (l : Launch) (Z : State) (y : MethodName) (bytes : ByteArray) (maxl : Nat) (ret : Option FieldType) (n0 : Nat) (p : Program) (e : Env) (R : Room) (s : State) (m : MethodId) (args : Array Value) (below : List Frame) (meth : Method) (c : Code) (T : State) (h : Heap) (cells slots : Nat) : Prop :=
  p.tables.exec = Jvm.exec ∧ c.code = bytes ∧ c.maxLocals = maxl ∧ s.vm.findClass y.cls = some m.cls ∧ meth.name = y.name ∧ meth.sig.returnType = ret ∧ meth.locks = false ∧ Z.Warmed39 s.vm ∧ T.heap = h ∧ n0 ≤ h.size ∧ ∃ locs, Stand p l e R s m args below meth c T locs cells slots ∧ Fr n0 locs
/-- a body's contract -/
def OMet (l : Launch) (Z : State) (y : MethodName) (bytes : ByteArray) (maxl : Nat) (ret : Option FieldType) (rm : Room) (as' : Array Value) (h0 : Heap) (n0 : Nat) (ck sk : Nat) (Q : Option Value → Heap → Prop) : Prop :=
  ∀ ws : List Jvm.Cond, MetFree l y (head1 (Jvm.Cond.code y bytes maxl ret :: ws) rm) (fun a U => a = as' ∧ Z.Warmed39 U.vm ∧ U.heap = h0) (fun _ _ _ _ _ => True) (fun _ U o U' => ∃ v L, o = .returned v ∧ (Fr n0 L ∧ n0 ≤ U'.heap.size ∧ Q v U'.heap) ∧ FrameEnd U o U' L ck sk)
variable {l : Launch} {Z : State} {y : MethodName} {bytes : ByteArray} {maxl : Nat} {ret : Option FieldType} {n0 : Nat} {p : Program} {e : Env} {R : Room} {s : State} {m : MethodId} {args : Array Value} {below : List Frame} {meth : Method} {c : Code} {T : State} {h : Heap} {cells slots ck sk : Nat} {Q : Option Value → Heap → Prop} {pc pc' : Nat} {Ls : Array Slot} {rest : List Value} {a0 : Array Value}
theorem o_step {T' : State} {g g' : JFrame} (st : ∀ t, Steps p.tables e below (T'.setTop g') t → Steps p.tables e below (T.setTop g) t) (k : OFin n0 p e below s Q ck sk T' g') : OFin n0 p e below s Q ck sk T g := by
  obtain ⟨s₂, o, h1, r⟩ := k
  exact ⟨s₂, o, st _ h1, r⟩
theorem o_body {rm : Room} {as' : Array Value} {h0 : Heap} (hy : plainFor y = true) (hz : n0 ≤ h0.size) (hent : ∀ m, entryFrame m as' maxl = mkF m 0 Ls [])
    (body : ∀ (p : Program) (e : Env) (s : State) (m : MethodId) (below : List Frame) (meth : Method) (c : Code) (s₁ : State), OG l Z y bytes maxl ret n0 p e rm s m as' below meth c s₁ h0 0 0 → OFin n0 p e below s Q ck sk s₁ (mkF m 0 Ls [])) : OMet l Z y bytes maxl ret rm as' h0 n0 ck sk Q := by
  intro ws
  refine MetFree.of_bodySF hy hisR ?_
  intro p e s m args below meth c s₁ Bd hml0 hP hK
  obtain ⟨ha, hZ, hh⟩ := hP
  subst ha
  have e0 : s₁.heap = h0 := by rw [← hh, Bd.state]; rfl
  have k := body p e s m below meth c s₁ ⟨Bd.exec, Bd.bytes, hml0, findClass_of_methodNamed Bd.named, (name_of_methodNamed Bd.named Bd.method).1, Bd.returns, Bd.notSynchronized, hZ, e0, hz, [], Stand.of_body Bd, Fr.nil n0⟩
  rw [← hent m] at k
  exact k
theorem OG.sz (G : OG l Z y bytes maxl ret n0 p e R s m args below meth c T h cells slots) : n0 ≤ h.size := G.2.2.2.2.2.2.2.2.2.1
theorem OG.eh (G : OG l Z y bytes maxl ret n0 p e R s m args below meth c T h cells slots) : T.heap = h := G.2.2.2.2.2.2.2.2.1
theorem OG.wm (G : OG l Z y bytes maxl ret n0 p e R s m args below meth c T h cells slots) : Z.Warmed39 s.vm := G.2.2.2.2.2.2.2.1
theorem o_iloadN (G : OG l Z y bytes maxl ret n0 p e R s m args below meth c T h cells slots) {k0 : Fin 4} {v : Int32} (hd : decode bytes pc = .ok (.iload_n k0, 1)) (hp : pc + 1 = pc') (hl : Ls[k0.val]? = some (.val (.int v))) (k : OFin n0 p e below s Q ck sk T (mkF m pc' Ls (.int v :: rest))) : OFin n0 p e below s Q ck sk T (mkF m pc Ls rest) := by
  subst hp
  obtain ⟨hx, hby, -, -, -, -, -, -, -, -, locs, X, -⟩ := G
  exact o_step (fun _ hr => XS.iloadN X.here hx rfl (hb hby hd) hl hr) k
theorem o_iload (G : OG l Z y bytes maxl ret n0 p e R s m args below meth c T h cells slots) {k0 : Nat} {v : Int32} (hd : decode bytes pc = .ok (.iload k0, 2)) (hp : pc + 2 = pc') (hl : Ls[k0]? = some (.val (.int v))) (k : OFin n0 p e below s Q ck sk T (mkF m pc' Ls (.int v :: rest))) : OFin n0 p e below s Q ck sk T (mkF m pc Ls rest) := by
  subst hp
  obtain ⟨hx, hby, -, -, -, -, -, -, -, -, locs, X, -⟩ := G
  exact o_step (fun _ hr => XS.iload X.here hx rfl (hb hby hd) hl hr) k
theorem o_lloadN (G : OG l Z y bytes maxl ret n0 p e R s m args below meth c T h cells slots) {k0 : Fin 4} {v : Int64} (hd : decode bytes pc = .ok (.lload_n k0, 1)) (hp : pc + 1 = pc') (hl : Ls[k0.val]? = some (.val (.long v))) (k : OFin n0 p e below s Q ck sk T (mkF m pc' Ls (.long v :: rest))) : OFin n0 p e below s Q ck sk T (mkF m pc Ls rest) := by
  subst hp
  obtain ⟨hx, hby, -, -, -, -, -, -, -, -, locs, X, -⟩ := G
  exact o_step (fun _ hr => XS.lloadN X.here hx rfl (hb hby hd) hl hr) k
theorem o_lload (G : OG l Z y bytes maxl ret n0 p e R s m args below meth c T h cells slots) {k0 : Nat} {v : Int64} (hd : decode bytes pc = .ok (.lload k0, 2)) (hp : pc + 2 = pc') (hl : Ls[k0]? = some (.val (.long v))) (k : OFin n0 p e below s Q ck sk T (mkF m pc' Ls (.long v :: rest))) : OFin n0 p e below s Q ck sk T (mkF m pc Ls rest) := by
  subst hp
  obtain ⟨hx, hby, -, -, -, -, -, -, -, -, locs, X, -⟩ := G
  exact o_step (fun _ hr => XS.lload X.here hx rfl (hb hby hd) hl hr) k
theorem o_aloadN (G : OG l Z y bytes maxl ret n0 p e R s m args below meth c T h cells slots) {k0 : Fin 4} {v : Value} (hd : decode bytes pc = .ok (.aload_n k0, 1)) (hp : pc + 1 = pc') (hl : Ls[k0.val]? = some (.val v)) (hv : v.isRef = true) (k : OFin n0 p e below s Q ck sk T (mkF m pc' Ls (v :: rest))) : OFin n0 p e below s Q ck sk T (mkF m pc Ls rest) := by
  subst hp
  obtain ⟨hx, hby, -, -, -, -, -, -, -, -, locs, X, -⟩ := G
  exact o_step (fun _ hr => XS.aloadN X.here hx rfl (hb hby hd) hl hv hr) k
theorem o_aload (G : OG l Z y bytes maxl ret n0 p e R s m args below meth c T h cells slots) {k0 : Nat} {v : Value} (hd : decode bytes pc = .ok (.aload k0, 2)) (hp : pc + 2 = pc') (hl : Ls[k0]? = some (.val v)) (hv : v.isRef = true) (k : OFin n0 p e below s Q ck sk T (mkF m pc' Ls (v :: rest))) : OFin n0 p e below s Q ck sk T (mkF m pc Ls rest) := by
  subst hp
  obtain ⟨hx, hby, -, -, -, -, -, -, -, -, locs, X, -⟩ := G
  exact o_step (fun _ hr => XS.aload X.here hx rfl (hb hby hd) hl hv hr) k
theorem o_istore (G : OG l Z y bytes maxl ret n0 p e R s m args below meth c T h cells slots) {k0 : Nat} {v : Int32} {l' : Array Slot} (hd : decode bytes pc = .ok (.istore k0, 2)) (hp : pc + 2 = pc') (hl : storeLocals Ls k0 (.int v) = some l') (k : OFin n0 p e below s Q ck sk T (mkF m pc' l' rest)) : OFin n0 p e below s Q ck sk T (mkF m pc Ls (.int v :: rest)) := by
  subst hp
  obtain ⟨hx, hby, -, -, -, -, -, -, -, -, locs, X, -⟩ := G
  exact o_step (fun _ hr => XS.istore X.here hx rfl (hb hby hd) rfl hl hr) k
theorem o_lstoreN (G : OG l Z y bytes maxl ret n0 p e R s m args below meth c T h cells slots) {k0 : Fin 4} {v : Int64} {l' : Array Slot} (hd : decode bytes pc = .ok (.lstore_n k0, 1)) (hp : pc + 1 = pc') (hl : storeLocals Ls k0.val (.long v) = some l') (k : OFin n0 p e below s Q ck sk T (mkF m pc' l' rest)) : OFin n0 p e below s Q ck sk T (mkF m pc Ls (.long v :: rest)) := by
  subst hp
  obtain ⟨hx, hby, -, -, -, -, -, -, -, -, locs, X, -⟩ := G
  exact o_step (fun _ hr => XS.lstoreN X.here hx rfl (hb hby hd) rfl hl hr) k
theorem o_lstore (G : OG l Z y bytes maxl ret n0 p e R s m args below meth c T h cells slots) {k0 : Nat} {v : Int64} {l' : Array Slot} (hd : decode bytes pc = .ok (.lstore k0, 2)) (hp : pc + 2 = pc') (hl : storeLocals Ls k0 (.long v) = some l') (k : OFin n0 p e below s Q ck sk T (mkF m pc' l' rest)) : OFin n0 p e below s Q ck sk T (mkF m pc Ls (.long v :: rest)) := by
  subst hp
  obtain ⟨hx, hby, -, -, -, -, -, -, -, -, locs, X, -⟩ := G
  exact o_step (fun _ hr => XS.lstore X.here hx rfl (hb hby hd) rfl hl hr) k
theorem o_astore (G : OG l Z y bytes maxl ret n0 p e R s m args below meth c T h cells slots) {k0 : Nat} {v : Value} {l' : Array Slot} (hd : decode bytes pc = .ok (.astore k0, 2)) (hp : pc + 2 = pc') (hv : v.isRef = true) (hl : storeLocals Ls k0 v = some l') (k : OFin n0 p e below s Q ck sk T (mkF m pc' l' rest)) : OFin n0 p e below s Q ck sk T (mkF m pc Ls (v :: rest)) := by
  subst hp
  obtain ⟨hx, hby, -, -, -, -, -, -, -, -, locs, X, -⟩ := G
  exact o_step (fun _ hr => XS.astore X.here hx rfl (hb hby hd) rfl hv hl hr) k
theorem o_iconst (G : OG l Z y bytes maxl ret n0 p e R s m args below meth c T h cells slots) {i : Int} {v : Int32} (hd : decode bytes pc = .ok (.iconst i, 1)) (hp : pc + 1 = pc') (hv : Int32.ofInt i = v) (k : OFin n0 p e below s Q ck sk T (mkF m pc' Ls (.int v :: rest))) : OFin n0 p e below s Q ck sk T (mkF m pc Ls rest) := by
  subst hp
  subst hv
  obtain ⟨hx, hby, -, -, -, -, -, -, -, -, locs, X, -⟩ := G
  exact o_step (fun _ hr => XS.iconst X.here hx rfl (hb hby hd) hr) k
theorem o_bipush (G : OG l Z y bytes maxl ret n0 p e R s m args below meth c T h cells slots) {i : Int} {v : Int32} (hd : decode bytes pc = .ok (.bipush i, 2)) (hp : pc + 2 = pc') (hv : (Int8.ofInt i).toInt32 = v) (k : OFin n0 p e below s Q ck sk T (mkF m pc' Ls (.int v :: rest))) : OFin n0 p e below s Q ck sk T (mkF m pc Ls rest) := by
  subst hp
  subst hv
  obtain ⟨hx, hby, -, -, -, -, -, -, -, -, locs, X, -⟩ := G
  exact o_step (fun _ hr => XS.bipush X.here hx rfl (hb hby hd) hr) k
theorem o_iadd (G : OG l Z y bytes maxl ret n0 p e R s m args below meth c T h cells slots) {u w v : Int32} (hd : decode bytes pc = .ok (.iadd, 1)) (hp : pc + 1 = pc') (hv : u + w = v) (k : OFin n0 p e below s Q ck sk T (mkF m pc' Ls (.int v :: rest))) : OFin n0 p e below s Q ck sk T (mkF m pc Ls (.int w :: .int u :: rest)) := by
  subst hp
  subst hv
  obtain ⟨hx, hby, -, -, -, -, -, -, -, -, locs, X, -⟩ := G
  exact o_step (fun _ hr => XS.iadd X.here hx rfl (hb hby hd) rfl hr) k
theorem o_isub (G : OG l Z y bytes maxl ret n0 p e R s m args below meth c T h cells slots) {u w v : Int32} (hd : decode bytes pc = .ok (.isub, 1)) (hp : pc + 1 = pc') (hv : u - w = v) (k : OFin n0 p e below s Q ck sk T (mkF m pc' Ls (.int v :: rest))) : OFin n0 p e below s Q ck sk T (mkF m pc Ls (.int w :: .int u :: rest)) := by
  subst hp
  subst hv
  obtain ⟨hx, hby, -, -, -, -, -, -, -, -, locs, X, -⟩ := G
  exact o_step (fun _ hr => XS.isub X.here hx rfl (hb hby hd) rfl hr) k
theorem o_imul (G : OG l Z y bytes maxl ret n0 p e R s m args below meth c T h cells slots) {u w v : Int32} (hd : decode bytes pc = .ok (.imul, 1)) (hp : pc + 1 = pc') (hv : u * w = v) (k : OFin n0 p e below s Q ck sk T (mkF m pc' Ls (.int v :: rest))) : OFin n0 p e below s Q ck sk T (mkF m pc Ls (.int w :: .int u :: rest)) := by
  subst hp
  subst hv
  obtain ⟨hx, hby, -, -, -, -, -, -, -, -, locs, X, -⟩ := G
  exact o_step (fun _ hr => XS.imul X.here hx rfl (hb hby hd) rfl hr) k
theorem o_iand (G : OG l Z y bytes maxl ret n0 p e R s m args below meth c T h cells slots) {u w v : Int32} (hd : decode bytes pc = .ok (.iand, 1)) (hp : pc + 1 = pc') (hv : u &&& w = v) (k : OFin n0 p e below s Q ck sk T (mkF m pc' Ls (.int v :: rest))) : OFin n0 p e below s Q ck sk T (mkF m pc Ls (.int w :: .int u :: rest)) := by
  subst hp
  subst hv
  obtain ⟨hx, hby, -, -, -, -, -, -, -, -, locs, X, -⟩ := G
  exact o_step (fun _ hr => XS.iand X.here hx rfl (hb hby hd) rfl hr) k
theorem o_land (G : OG l Z y bytes maxl ret n0 p e R s m args below meth c T h cells slots) {u w v : Int64} (hd : decode bytes pc = .ok (.land, 1)) (hp : pc + 1 = pc') (hv : u &&& w = v) (k : OFin n0 p e below s Q ck sk T (mkF m pc' Ls (.long v :: rest))) : OFin n0 p e below s Q ck sk T (mkF m pc Ls (.long w :: .long u :: rest)) := by
  subst hp
  subst hv
  obtain ⟨hx, hby, -, -, -, -, -, -, -, -, locs, X, -⟩ := G
  exact o_step (fun _ hr => XS.land X.here hx rfl (hb hby hd) rfl hr) k
theorem o_lor (G : OG l Z y bytes maxl ret n0 p e R s m args below meth c T h cells slots) {u w v : Int64} (hd : decode bytes pc = .ok (.lor, 1)) (hp : pc + 1 = pc') (hv : u ||| w = v) (k : OFin n0 p e below s Q ck sk T (mkF m pc' Ls (.long v :: rest))) : OFin n0 p e below s Q ck sk T (mkF m pc Ls (.long w :: .long u :: rest)) := by
  subst hp
  subst hv
  obtain ⟨hx, hby, -, -, -, -, -, -, -, -, locs, X, -⟩ := G
  exact o_step (fun _ hr => XS.lor X.here hx rfl (hb hby hd) rfl hr) k
theorem o_lushr (G : OG l Z y bytes maxl ret n0 p e R s m args below meth c T h cells slots) {u v : Int64} {w : Int32} (hd : decode bytes pc = .ok (.lushr, 1)) (hp : pc + 1 = pc') (hv : (u.toUInt64 >>> (w &&& 0x3f).toInt64.toUInt64).toInt64 = v) (k : OFin n0 p e below s Q ck sk T (mkF m pc' Ls (.long v :: rest))) : OFin n0 p e below s Q ck sk T (mkF m pc Ls (.int w :: .long u :: rest)) := by
  subst hp
  subst hv
  obtain ⟨hx, hby, -, -, -, -, -, -, -, -, locs, X, -⟩ := G
  exact o_step (fun _ hr => XS.lushr X.here hx rfl (hb hby hd) rfl hr) k
theorem o_l2i (G : OG l Z y bytes maxl ret n0 p e R s m args below meth c T h cells slots) {u : Int64} {v : Int32} (hd : decode bytes pc = .ok (.l2i, 1)) (hp : pc + 1 = pc') (hv : u.toInt32 = v) (k : OFin n0 p e below s Q ck sk T (mkF m pc' Ls (.int v :: rest))) : OFin n0 p e below s Q ck sk T (mkF m pc Ls (.long u :: rest)) := by
  subst hp
  subst hv
  obtain ⟨hx, hby, -, -, -, -, -, -, -, -, locs, X, -⟩ := G
  exact o_step (fun _ hr => XS.l2i X.here hx rfl (hb hby hd) rfl hr) k
theorem o_i2b (G : OG l Z y bytes maxl ret n0 p e R s m args below meth c T h cells slots) {u : Int32} {v : Int32} (hd : decode bytes pc = .ok (.i2b, 1)) (hp : pc + 1 = pc') (hv : u.toInt8.toInt32 = v) (k : OFin n0 p e below s Q ck sk T (mkF m pc' Ls (.int v :: rest))) : OFin n0 p e below s Q ck sk T (mkF m pc Ls (.int u :: rest)) := by
  subst hp
  subst hv
  obtain ⟨hx, hby, -, -, -, -, -, -, -, -, locs, X, -⟩ := G
  exact o_step (fun _ hr => XS.i2b X.here hx rfl (hb hby hd) rfl hr) k
theorem o_dup (G : OG l Z y bytes maxl ret n0 p e R s m args below meth c T h cells slots) {v : Value} (hd : decode bytes pc = .ok (.dup, 1)) (hp : pc + 1 = pc') (hc : v.category = 1) (k : OFin n0 p e below s Q ck sk T (mkF m pc' Ls (v :: v :: rest))) : OFin n0 p e below s Q ck sk T (mkF m pc Ls (v :: rest)) := by
  subst hp
  obtain ⟨hx, hby, -, -, -, -, -, -, -, -, locs, X, -⟩ := G
  exact o_step (fun _ hr => XS.dup X.here hx rfl (hb hby hd) rfl hc hr) k
theorem o_iinc (G : OG l Z y bytes maxl ret n0 p e R s m args below meth c T h cells slots) {k0 : Nat} {cst : Int} {u w v : Int32} {l' : Array Slot} (hd : decode bytes pc = .ok (.iinc k0 cst, 3)) (hp : pc + 3 = pc') (hl : Ls[k0]? = some (.val (.int u))) (hc : Int32.ofInt cst = w) (hv : u + w = v) (hl' : storeLocals Ls k0 (.int v) = some l') (k : OFin n0 p e below s Q ck sk T (mkF m pc' l' rest)) : OFin n0 p e below s Q ck sk T (mkF m pc Ls rest) := by
  subst hp
  subst hc
  subst hv
  obtain ⟨hx, hby, -, -, -, -, -, -, -, -, locs, X, -⟩ := G
  exact o_step (fun _ hr => XS.iinc X.here hx rfl (hb hby hd) hl hl' hr) k
theorem o_goto (G : OG l Z y bytes maxl ret n0 p e R s m args below meth c T h cells slots) {o : Int} (hd : decode bytes pc = .ok (.goto o, 3)) (ho : 0 ≤ (pc : Int) + o) (hp : ((pc : Int) + o).toNat = pc') (k : OFin n0 p e below s Q ck sk T (mkF m pc' Ls rest)) : OFin n0 p e below s Q ck sk T (mkF m pc Ls rest) := by
  obtain ⟨hx, hby, -, -, -, -, -, -, -, -, locs, X, -⟩ := G
  exact o_step (fun _ hr => XS.goto X.here hx rfl (pc0 := pc) (pc' := pc') rfl (hb hby hd) ho hp hr) k
theorem o_icmp_lt (G : OG l Z y bytes maxl ret n0 p e R s m args below meth c T h cells slots) {o : Int} {pcT : Nat} {u w : Int32} (hd : decode bytes pc = .ok (.if_icmp .lt o, 3)) (ho : 0 ≤ (pc : Int) + o) (hpT : ((pc : Int) + o).toNat = pcT) (hp : pc + 3 = pc') (kT : u < w → OFin n0 p e below s Q ck sk T (mkF m pcT Ls rest)) (kF : ¬ u < w → OFin n0 p e below s Q ck sk T (mkF m pc' Ls rest)) : OFin n0 p e below s Q ck sk T (mkF m pc Ls (.int w :: .int u :: rest)) := by
  subst hp
  obtain ⟨hx, hby, -, -, -, -, -, -, -, -, locs, X, -⟩ := G
  by_cases q : u < w
  · exact o_step (fun _ hr => XS.icmpYes X.here hx rfl (pc0 := pc) (pc' := pcT) rfl (hb hby hd) rfl (tlt q).1 ho hpT hr) (kT q)
  · exact o_step (fun _ hr => XS.icmpNo X.here hx rfl (hb hby hd) rfl (flt q).1 hr) (kF q)
theorem o_if_lt (G : OG l Z y bytes maxl ret n0 p e R s m args below meth c T h cells slots) {o : Int} {pcT : Nat} {u : Int32} (hd : decode bytes pc = .ok (.ifCond .lt o, 3)) (ho : 0 ≤ (pc : Int) + o) (hpT : ((pc : Int) + o).toNat = pcT) (hp : pc + 3 = pc') (kT : u < (0 : Int32) → OFin n0 p e below s Q ck sk T (mkF m pcT Ls rest)) (kF : ¬ u < (0 : Int32) → OFin n0 p e below s Q ck sk T (mkF m pc' Ls rest)) : OFin n0 p e below s Q ck sk T (mkF m pc Ls (.int u :: rest)) := by
  subst hp
  obtain ⟨hx, hby, -, -, -, -, -, -, -, -, locs, X, -⟩ := G
  by_cases q : u < (0 : Int32)
  · exact o_step (fun _ hr => XS.ifYes X.here hx rfl (pc0 := pc) (pc' := pcT) rfl (hb hby hd) rfl ((if0 _ _).trans (tlt q).1) ho hpT hr) (kT q)
  · exact o_step (fun _ hr => XS.ifNo X.here hx rfl (hb hby hd) rfl ((if0 _ _).trans (flt q).1) hr) (kF q)
theorem o_icmp_ge (G : OG l Z y bytes maxl ret n0 p e R s m args below meth c T h cells slots) {o : Int} {pcT : Nat} {u w : Int32} (hd : decode bytes pc = .ok (.if_icmp .ge o, 3)) (ho : 0 ≤ (pc : Int) + o) (hpT : ((pc : Int) + o).toNat = pcT) (hp : pc + 3 = pc') (kT : ¬ u < w → OFin n0 p e below s Q ck sk T (mkF m pcT Ls rest)) (kF : u < w → OFin n0 p e below s Q ck sk T (mkF m pc' Ls rest)) : OFin n0 p e below s Q ck sk T (mkF m pc Ls (.int w :: .int u :: rest)) := by
  subst hp
  obtain ⟨hx, hby, -, -, -, -, -, -, -, -, locs, X, -⟩ := G
  by_cases q : ¬ u < w
  · exact o_step (fun _ hr => XS.icmpYes X.here hx rfl (pc0 := pc) (pc' := pcT) rfl (hb hby hd) rfl (flt q).2.1 ho hpT hr) (kT q)
  · have q := Decidable.not_not.mp q
    exact o_step (fun _ hr => XS.icmpNo X.here hx rfl (hb hby hd) rfl (tlt q).2.1 hr) (kF q)
theorem o_if_ge (G : OG l Z y bytes maxl ret n0 p e R s m args below meth c T h cells slots) {o : Int} {pcT : Nat} {u : Int32} (hd : decode bytes pc = .ok (.ifCond .ge o, 3)) (ho : 0 ≤ (pc : Int) + o) (hpT : ((pc : Int) + o).toNat = pcT) (hp : pc + 3 = pc') (kT : ¬ u < (0 : Int32) → OFin n0 p e below s Q ck sk T (mkF m pcT Ls rest)) (kF : u < (0 : Int32) → OFin n0 p e below s Q ck sk T (mkF m pc' Ls rest)) : OFin n0 p e below s Q ck sk T (mkF m pc Ls (.int u :: rest)) := by
  subst hp
  obtain ⟨hx, hby, -, -, -, -, -, -, -, -, locs, X, -⟩ := G
  by_cases q : ¬ u < (0 : Int32)
  · exact o_step (fun _ hr => XS.ifYes X.here hx rfl (pc0 := pc) (pc' := pcT) rfl (hb hby hd) rfl ((if0 _ _).trans (flt q).2.1) ho hpT hr) (kT q)
  · have q := Decidable.not_not.mp q
    exact o_step (fun _ hr => XS.ifNo X.here hx rfl (hb hby hd) rfl ((if0 _ _).trans (tlt q).2.1) hr) (kF q)
theorem o_if_eq (G : OG l Z y bytes maxl ret n0 p e R s m args below meth c T h cells slots) {o : Int} {pcT : Nat} {u : Int32} (hd : decode bytes pc = .ok (.ifCond .eq o, 3)) (ho : 0 ≤ (pc : Int) + o) (hpT : ((pc : Int) + o).toNat = pcT) (hp : pc + 3 = pc') (kT : u = (0 : Int32) → OFin n0 p e below s Q ck sk T (mkF m pcT Ls rest)) (kF : ¬ u = (0 : Int32) → OFin n0 p e below s Q ck sk T (mkF m pc' Ls rest)) : OFin n0 p e below s Q ck sk T (mkF m pc Ls (.int u :: rest)) := by
  subst hp
  obtain ⟨hx, hby, -, -, -, -, -, -, -, -, locs, X, -⟩ := G
  by_cases q : u = (0 : Int32)
  · exact o_step (fun _ hr => XS.ifYes X.here hx rfl (pc0 := pc) (pc' := pcT) rfl (hb hby hd) rfl ((if0 _ _).trans (teq q).1) ho hpT hr) (kT q)
  · exact o_step (fun _ hr => XS.ifNo X.here hx rfl (hb hby hd) rfl ((if0 _ _).trans (feq q).1) hr) (kF q)
theorem o_icmp_ne (G : OG l Z y bytes maxl ret n0 p e R s m args below meth c T h cells slots) {o : Int} {pcT : Nat} {u w : Int32} (hd : decode bytes pc = .ok (.if_icmp .ne o, 3)) (ho : 0 ≤ (pc : Int) + o) (hpT : ((pc : Int) + o).toNat = pcT) (hp : pc + 3 = pc') (kT : ¬ u = w → OFin n0 p e below s Q ck sk T (mkF m pcT Ls rest)) (kF : u = w → OFin n0 p e below s Q ck sk T (mkF m pc' Ls rest)) : OFin n0 p e below s Q ck sk T (mkF m pc Ls (.int w :: .int u :: rest)) := by
  subst hp
  obtain ⟨hx, hby, -, -, -, -, -, -, -, -, locs, X, -⟩ := G
  by_cases q : ¬ u = w
  · exact o_step (fun _ hr => XS.icmpYes X.here hx rfl (pc0 := pc) (pc' := pcT) rfl (hb hby hd) rfl (feq q).2 ho hpT hr) (kT q)
  · have q := Decidable.not_not.mp q
    exact o_step (fun _ hr => XS.icmpNo X.here hx rfl (hb hby hd) rfl (teq q).2 hr) (kF q)
theorem o_lcmp_lt (G : OG l Z y bytes maxl ret n0 p e R s m args below meth c T h cells slots) {o : Int} {pc1 pcT : Nat} {u w : Int64} (hd : decode bytes pc = .ok (.lcmp, 1)) (hp1 : pc + 1 = pc1) (hd2 : decode bytes pc1 = .ok (.ifCond .lt o, 3)) (ho : 0 ≤ (pc1 : Int) + o) (hpT : ((pc1 : Int) + o).toNat = pcT) (hp : pc1 + 3 = pc') (kT : u < w → OFin n0 p e below s Q ck sk T (mkF m pcT Ls rest)) (kF : ¬ u < w → OFin n0 p e below s Q ck sk T (mkF m pc' Ls rest)) : OFin n0 p e below s Q ck sk T (mkF m pc Ls (.long w :: .long u :: rest)) := by
  have G0 := G
  obtain ⟨hx, hby, -, -, -, -, -, -, -, -, locs, X, -⟩ := G
  subst hp1
  refine o_step (fun _ hr => XS.lcmp X.here hx rfl (hb hby hd) rfl hr) ?_
  show OFin n0 p e below s Q ck sk T (mkF m (pc + 1) Ls (.int (lcmpW u w) :: rest))
  refine o_if_lt G0 hd2 ho hpT hp (fun q => kT ?_) (fun q => kF ?_)
  · simpa only [lw_lt] using q
  · simpa only [lw_lt] using q
theorem o_lcmp_ge (G : OG l Z y bytes maxl ret n0 p e R s m args below meth c T h cells slots) {o : Int} {pc1 pcT : Nat} {u w : Int64} (hd : decode bytes pc = .ok (.lcmp, 1)) (hp1 : pc + 1 = pc1) (hd2 : decode bytes pc1 = .ok (.ifCond .ge o, 3)) (ho : 0 ≤ (pc1 : Int) + o) (hpT : ((pc1 : Int) + o).toNat = pcT) (hp : pc1 + 3 = pc') (kT : ¬ u < w → OFin n0 p e below s Q ck sk T (mkF m pcT Ls rest)) (kF : u < w → OFin n0 p e below s Q ck sk T (mkF m pc' Ls rest)) : OFin n0 p e below s Q ck sk T (mkF m pc Ls (.long w :: .long u :: rest)) := by
  have G0 := G
  obtain ⟨hx, hby, -, -, -, -, -, -, -, -, locs, X, -⟩ := G
  subst hp1
  refine o_step (fun _ hr => XS.lcmp X.here hx rfl (hb hby hd) rfl hr) ?_
  show OFin n0 p e below s Q ck sk T (mkF m (pc + 1) Ls (.int (lcmpW u w) :: rest))
  refine o_if_ge G0 hd2 ho hpT hp (fun q => kT ?_) (fun q => kF ?_)
  · simpa only [lw_lt] using q
  · simpa only [lw_lt] using q
theorem o_ldc2 (G : OG l Z y bytes maxl ret n0 p e R s m args below meth c T h cells slots) {index : Nat} {v : Int64} (hd : decode bytes pc = .ok (.ldc2_w index, 3)) (hp : pc + 3 = pc') (w : (Jvm.Cond.constantLong y.cls index v).before a0 Z = true) (k : OFin n0 p e below s Q ck sk T (mkF m pc' Ls (.long v :: rest))) : OFin n0 p e below s Q ck sk T (mkF m pc Ls rest) := by
  subst hp
  obtain ⟨hx, hby, -, hown, -, -, -, hZ, -, -, locs, X, -⟩ := G
  exact o_step (fun _ hr => X.ldc2Long hx hown (mvT hZ w) (g := (mkF m pc Ls rest)) rfl (hb hby hd) _ hr) k
theorem o_ireturn {v : Int32} (G : OG l Z y bytes maxl (some .int) n0 p e R s m args below meth c T h cells slots)  (hd : decode bytes pc = .ok (.ireturn, 1)) (hq : Q (some (.int v)) h) (hc : cells ≤ ck) (hs : slots ≤ sk) : OFin n0 p e below s Q ck sk T (mkF m pc Ls (.int v :: rest)) := by
  obtain ⟨hx, hby, -, -, -, hret, hlk, -, eT, hz, locs, X, N⟩ := G
  obtain ⟨fs, hr, hrun, hended, hW, hsame⟩ := X.leave (v := some (.int v)) (fun h => by rw [hret] at h; cases h) hlk
  refine ⟨_, _, retOut X hx hret rfl (Or.inl ⟨rfl, Or.inl rfl, _, rfl⟩) (hb hby hd) hr, hrun, hended, _, _, rfl, ⟨N, ?_, ?_⟩, ⟨_, rfl⟩, hW, hsame.mono hc hs⟩
  · show n0 ≤ T.heap.size
    rw [eT]; exact hz
  · show Q _ T.heap
    rw [eT]; exact hq
theorem o_nreturn {v : Int32} {t : FieldType} (G : OG l Z y bytes maxl (some t) n0 p e R s m args below meth c T h cells slots) (ht : t = .boolean ∨ t = .byte ∨ t = .char ∨ t = .short) (hd : decode bytes pc = .ok (.ireturn, 1)) (hq : Q (some (.int (nar t v))) h) (hc : cells ≤ ck) (hs : slots ≤ sk) : OFin n0 p e below s Q ck sk T (mkF m pc Ls (.int v :: rest)) := by
  obtain ⟨hx, hby, -, -, -, hret, hlk, -, eT, hz, locs, X, N⟩ := G
  obtain ⟨fs, hr, hrun, hended, hW, hsame⟩ := X.leave (v := some (.int (nar t v))) (fun h => by rw [hret] at h; cases h) hlk
  refine ⟨_, _, retN X hx hret ht (hb hby hd) hr, hrun, hended, _, _, rfl, ⟨N, ?_, ?_⟩, ⟨_, rfl⟩, hW, hsame.mono hc hs⟩
  · show n0 ≤ T.heap.size
    rw [eT]; exact hz
  · show Q _ T.heap
    rw [eT]; exact hq
theorem o_callS (G : OG l Z y bytes maxl ret n0 p e R s m args below meth c T h cells slots) {z : MethodName} {bz : ByteArray} {mz : Nat} {rz : Option FieldType} {rm : Room} {Q' : Option Value → Heap → Prop} {index W : Nat} {argsL st : List Value} (w1 : (Jvm.Cond.methodLink y.cls index z).before a0 Z = true) (w2 : (Jvm.Cond.static z).before a0 Z = true) (hd : decode bytes pc = .ok (.invokestatic index, 3))
    (hy : z.cls ≠ "java/lang/invoke/MethodHandle" ∧ z.cls ≠ "java/lang/invoke/VarHandle") (w3 : (Jvm.Cond.initialized z.cls).before a0 Z = true) (w4 : (Jvm.Cond.code z bz mz rz).before a0 Z = true)
    (hM : OMet l Z z bz mz rz rm argsL.toArray h n0 rm.cells rm.slots Q') (hfr : rm.frames + 1 ≤ R.frames) (hlo : W + (mz + 11) + rm.locals ≤ R.locals) (hsz : Ls.size = maxl)
    (hlen : ∀ sig, parseMethodDescriptor z.desc = some sig → argsL.length = sig.parameters.length) (hst : st = argsL.reverse ++ rest) (hW : (rest.map fun v => v.category).sum ≤ W) (hp : pc + 3 = pc') (hc : cells + rm.cells ≤ R.cells) (hs : slots + rm.slots ≤ R.slots)
    (k : ∀ (v : Option Value) (T' : State) (h' : Heap), OG l Z y bytes maxl ret n0 p e R s m args below meth c T' h' (cells + rm.cells) (slots + rm.slots) → Q' v h' → OFin n0 p e below s Q ck sk T' (mkF m pc' Ls (v.toList ++ rest))) : OFin n0 p e below s Q ck sk T (mkF m pc Ls st) := by
  subst hp hst
  obtain ⟨hx, hby, hml, hown, hnm, hret, hlk, hZ, eT, hz, locs, X, N⟩ := G
  obtain ⟨v, vm1, ⟨T', L', k', n'⟩, -, X', ⟨L, ⟨N', z', hQ⟩, l1, y1, z1⟩, st0⟩ := Jvm.LawKit.callS X hx (y := z) hown (mvT hZ w1) (mvT hZ w2) (mvT hZ w3) (mvT hZ w4) hy (backOf (W := W) (Q := fun v h L => Fr n0 L ∧ n0 ≤ h.size ∧ Q' v h) (hM []) hZ w4 w3 hfr hlo) (g := (mkF m pc Ls (argsL.reverse ++ rest))) rfl (by show Ls.size = _; rw [hml]; exact hsz) (argsL := argsL) (rest := rest) hlen rfl (by show 2 * 0 + _ ≤ _; omega) (hb hby hd) (fun _ _ => ⟨rfl, eT, hc, hs⟩)
  dsimp only [Pt.U, Pt.locs, Pt.cells, Pt.slots] at X' l1 y1 z1 st0 hQ N' z'
  subst l1 y1 z1
  exact o_step st0 (k v T' T'.heap ⟨hx, hby, hml, hown, hnm, hret, hlk, hZ, rfl, z', _, X', Fr.app N N'⟩ hQ)
/-- an array of n places at a; place j holds f j -/
def OArr (Z : State) (h : Heap) (a : Addr) (ty : FieldType) (n : Nat) (f : Nat → Value) : Prop := ∃ cl : Cell, Arr Z h a cl ty ∧ cl.slots.size = n ∧ ∀ j, j < n → cl.slots[j]? = some (f j)
def o_set (f : Nat → Value) (i : Nat) (v : Value) : Nat → Value := fun j => if j = i then v else f j
theorem OArr.lt {a : Addr} {ty : FieldType} {n : Nat} {f : Nat → Value} (A : OArr Z h a ty n f) : a < h.size := by obtain ⟨cl, A, -⟩ := A; exact A.lt
theorem OArr.same {h' : Heap} {a : Addr} {i : Nat} {v : Value} {ty : FieldType} {n : Nat} {f : Nat → Value} (A : OArr Z h a ty n f) (W : Wr h h' a i v) : OArr Z h' a ty n (o_set f i v) := by
  obtain ⟨cl, A, S, H⟩ := A
  have hi : i < n := by
    obtain ⟨cell, h1, -, h3, -⟩ := W
    cases h1.symm.trans A.1
    rw [← S]; exact h3
  refine ⟨_, A.same W, by rw [sz_set]; exact S, fun j hj => ?_⟩
  by_cases q : j = i
  · subst q; simp [Cell.setSlot, o_set, S, hi]
  · have := H j hj
    simp only [Cell.setSlot, o_set, q, if_false]
    rw [Array.getElem?_setIfInBounds_ne (Ne.symm q)]; exact this
theorem OArr.congr {a : Addr} {ty : FieldType} {n : Nat} {f f' : Nat → Value} (A : OArr Z h a ty n f) (q : ∀ j, j < n → f j = f' j) : OArr Z h a ty n f' := by
  obtain ⟨cl, A, S, H⟩ := A
  exact ⟨cl, A, S, fun j hj => by rw [← q j hj]; exact H j hj⟩
theorem o_clamp {j : Int32} {i : Nat} (h : j.toInt = (i : Int)) : ¬ j < 0 ∧ j.toNatClampNeg = i := by
  constructor
  · rw [Int32.lt_iff_toInt_lt, h]; have : (0 : Int32).toInt = 0 := rfl
    omega
  · simp only [Int32.toNatClampNeg, h]; rfl
theorem o_baload (G : OG l Z y bytes maxl ret n0 p e R s m args below meth c T h cells slots) {a : Addr} {n i : Nat} {f : Nat → Value} {j : Int32} {v : Value} (A : OArr Z h a .byte n f) (hj : j.toInt = (i : Int)) (hi : i < n) (hv : f i = v) (hd : decode bytes pc = .ok (.baload, 1)) (hp : pc + 1 = pc') (k : OFin n0 p e below s Q ck sk T (mkF m pc' Ls (v :: rest))) : OFin n0 p e below s Q ck sk T (mkF m pc Ls (.int j :: .ref a :: rest)) := by
  subst hp hv
  obtain ⟨hx, hby, -, -, -, -, -, hZ, eT, -, locs, X, -⟩ := G
  obtain ⟨cl, A, S, H⟩ := A
  obtain ⟨q1, q2⟩ := o_clamp hj
  exact o_step (fun _ hr => X.baloadBytes hx (j := j) (v := f i) (by rw [eT]; exact A.1) (State.isArrayOf_alike hZ.alike A.2.1) A.2.2 (by rw [S, q2]; exact fun q => q.elim q1 (fun q => absurd hi (Nat.not_lt.mpr q))) (by rw [q2]; exact H i hi) (g := (mkF m pc Ls (.int j :: .ref a :: rest))) rfl rfl (hb hby hd) _ hr) k
theorem o_bastore (G : OG l Z y bytes maxl ret n0 p e R s m args below meth c T h cells slots) {a : Addr} {n i : Nat} {f : Nat → Value} {j : Int32} {v : Int32} (A : OArr Z h a .byte n f) (hg : n0 ≤ a) (hj : j.toInt = (i : Int)) (hi : i < n) (hd : decode bytes pc = .ok (.bastore, 1)) (hp : pc + 1 = pc')
    (k : ∀ (T' : State) (h' : Heap), OG l Z y bytes maxl ret n0 p e R s m args below meth c T' h' cells slots → Wr h h' a i (.int (nar .byte v)) → OArr Z h' a .byte n (o_set f i (.int (nar .byte v))) → OFin n0 p e below s Q ck sk T' (mkF m pc' Ls rest)) : OFin n0 p e below s Q ck sk T (mkF m pc Ls (.int v :: .int j :: .ref a :: rest)) := by
  subst hp
  have A0 := A
  obtain ⟨hx, hby, hml, hown, hnm, hret, hlk, hZ, eT, hz, locs, X, N⟩ := G
  obtain ⟨cl, A, S, H⟩ := A
  obtain ⟨q1, q2⟩ := o_clamp hj
  obtain ⟨T', h', X', e', W', st⟩ := stB X hx hZ eT A (j := j) (x := v) (by rw [S, q2]; exact fun q => q.elim q1 (fun q => absurd hi (Nat.not_lt.mpr q))) (g := (mkF m pc Ls (.int v :: .int j :: .ref a :: rest))) rfl rfl (hb hby hd)
  rw [q2] at W' X'
  exact o_step st (k T' h' ⟨hx, hby, hml, hown, hnm, hret, hlk, hZ, e', by rw [W'.size]; exact hz, _, X', Fr.snoc X' N hg⟩ W' (A0.same W'))
theorem o_newarray (G : OG l Z y bytes maxl ret n0 p e R s m args below meth c T h cells slots) {aty : ArrayType} {n : Int32} {N cap : Nat} (w : (Jvm.Cond.arrayClass (newarray.typeOf aty)).before a0 Z = true) (hn : n.toInt = (N : Int)) (hcap : N ≤ cap) (hb8 : cap * 8 ≤ 536870912) (hd : decode bytes pc = .ok (.newarray aty, 2)) (hp : pc + 2 = pc') (hc : cells + 1 ≤ R.cells) (hl : slots + cap ≤ R.slots)
    (k : ∀ (T' : State) (h' : Heap) (a : Addr), OG l Z y bytes maxl ret n0 p e R s m args below meth c T' h' (cells + 1) (slots + cap) → a = h.size → n0 ≤ a → Ext h h' → OArr Z h' a (newarray.typeOf aty) N (fun _ => defaultValue (newarray.typeOf aty)) → OFin n0 p e below s Q ck sk T' (mkF m pc' Ls (.ref a :: rest))) : OFin n0 p e below s Q ck sk T (mkF m pc Ls (.int n :: rest)) := by
  subst hp
  obtain ⟨hx, hby, hml, hown, hnm, hret, hlk, hZ, eT, hz, locs, X, N'⟩ := G
  obtain ⟨q1, q2⟩ := o_clamp hn
  obtain ⟨T', h', cA, X', e', E', A', st⟩ := newP X hx hZ w eT (g := (mkF m pc Ls (.int n :: rest))) rfl (hb hby hd) rfl q1 (cap := cap) (by rw [q2]; exact hcap) hb8 hc hl
  refine o_step st (k T' h' h.size ⟨hx, hby, hml, hown, hnm, hret, hlk, hZ, e', Nat.le_trans hz E'.1, _, X', N'⟩ rfl hz E' ⟨_, A', by rw [sz_new, q2], fun j hj => ?_⟩)
  simp [newA, q2, hj]
theorem o_idx {j : Int32} {n : Nat} (h0 : 0 ≤ j.toInt) (h1 : j.toInt < (n : Int)) : j.toInt = (j.toNatClampNeg : Int) ∧ j.toNatClampNeg < n := by
  constructor
  · simp only [Int32.toNatClampNeg]; omega
  · simp only [Int32.toNatClampNeg]; omega
theorem o_i32 {a b : Int32} (h1 : -2147483648 ≤ a.toInt + b.toInt) (h2 : a.toInt + b.toInt < 2147483648) : (a + b).toInt = a.toInt + b.toInt := by
  rw [Int32.toInt_add, Int.bmod_def]
  split <;> omega
theorem o_s32 {a b : Int32} (h1 : -2147483648 ≤ a.toInt - b.toInt) (h2 : a.toInt - b.toInt < 2147483648) : (a - b).toInt = a.toInt - b.toInt := by
  rw [Int32.toInt_sub, Int.bmod_def]
  split <;> omega
/-- a contract that leaves the heap as it was and returns one value -/
abbrev OVal (h0 : Heap) (r : Value) : Option Value → Heap → Prop := fun v h => v = some r ∧ h0 = h
theorem o_callP (G : OG l Z y bytes maxl ret n0 p e R s m args below meth c T h cells slots) {z : MethodName} {bz : ByteArray} {mz : Nat} {rz : Option FieldType} {rm : Room} {r : Value} {index W : Nat} {argsL st : List Value} (w1 : (Jvm.Cond.methodLink y.cls index z).before a0 Z = true) (w2 : (Jvm.Cond.static z).before a0 Z = true) (hd : decode bytes pc = .ok (.invokestatic index, 3))
    (hy : z.cls ≠ "java/lang/invoke/MethodHandle" ∧ z.cls ≠ "java/lang/invoke/VarHandle") (w3 : (Jvm.Cond.initialized z.cls).before a0 Z = true) (w4 : (Jvm.Cond.code z bz mz rz).before a0 Z = true)
    (hM : OMet l Z z bz mz rz rm argsL.toArray h n0 rm.cells rm.slots (OVal h r)) (hfr : rm.frames + 1 ≤ R.frames) (hlo : W + (mz + 11) + rm.locals ≤ R.locals) (hsz : Ls.size = maxl)
    (hlen : ∀ sig, parseMethodDescriptor z.desc = some sig → argsL.length = sig.parameters.length) (hst : st = argsL.reverse ++ rest) (hW : (rest.map fun v => v.category).sum ≤ W) (hp : pc + 3 = pc') (hc : cells + rm.cells ≤ R.cells) (hs : slots + rm.slots ≤ R.slots)
    (k : ∀ (T' : State), OG l Z y bytes maxl ret n0 p e R s m args below meth c T' h (cells + rm.cells) (slots + rm.slots) → OFin n0 p e below s Q ck sk T' (mkF m pc' Ls (r :: rest))) : OFin n0 p e below s Q ck sk T (mkF m pc Ls st) := by
  refine o_callS G w1 w2 hd hy w3 w4 hM hfr hlo hsz hlen hst hW hp hc hs ?_
  rintro v T' h' G' ⟨hv, hh⟩
  subst hv hh
  exact k T' G'
end OwnKit
theorem pd_0 : parseMethodDescriptor "(J)I" = some ⟨[.long], some .int⟩ := by decide +kernel
theorem pd_1 : parseMethodDescriptor "(J[BI)I" = some ⟨[.long, (.array .byte), .int], some .int⟩ := by decide +kernel
theorem pd_2 : parseMethodDescriptor "([BIJIIB)Z" = some ⟨[(.array .byte), .int, .long, .int, .int, .byte], some .boolean⟩ := by decide +kernel
theorem d1_0 : decode method_3_code 0 = .ok (.lload_n 0, 1) := by decide +kernel
theorem d1_1 : decode method_3_code 1 = .ok (.ldc2_w 27, 3) := by decide +kernel
theorem d1_4 : decode method_3_code 4 = .ok (.lcmp, 1) := by decide +kernel
theorem d1_5 : decode method_3_code 5 = .ok (.ifCond .ge 5, 3) := by decide +kernel
theorem d1_8 : decode method_3_code 8 = .ok (.iconst 1, 1) := by decide +kernel
theorem d1_9 : decode method_3_code 9 = .ok (.ireturn, 1) := by decide +kernel
theorem d1_10 : decode method_3_code 10 = .ok (.lload_n 0, 1) := by decide +kernel
theorem d1_11 : decode method_3_code 11 = .ok (.ldc2_w 29, 3) := by decide +kernel
theorem d1_14 : decode method_3_code 14 = .ok (.lcmp, 1) := by decide +kernel
theorem d1_15 : decode method_3_code 15 = .ok (.ifCond .ge 5, 3) := by decide +kernel
theorem d1_18 : decode method_3_code 18 = .ok (.iconst 2, 1) := by decide +kernel
theorem d1_19 : decode method_3_code 19 = .ok (.ireturn, 1) := by decide +kernel
theorem d1_20 : decode method_3_code 20 = .ok (.lload_n 0, 1) := by decide +kernel
theorem d1_21 : decode method_3_code 21 = .ok (.ldc2_w 31, 3) := by decide +kernel
theorem d1_24 : decode method_3_code 24 = .ok (.lcmp, 1) := by decide +kernel
theorem d1_25 : decode method_3_code 25 = .ok (.ifCond .ge 5, 3) := by decide +kernel
theorem d1_28 : decode method_3_code 28 = .ok (.iconst 3, 1) := by decide +kernel
theorem d1_29 : decode method_3_code 29 = .ok (.ireturn, 1) := by decide +kernel
theorem d1_30 : decode method_3_code 30 = .ok (.lload_n 0, 1) := by decide +kernel
theorem d1_31 : decode method_3_code 31 = .ok (.ldc2_w 33, 3) := by decide +kernel
theorem d1_34 : decode method_3_code 34 = .ok (.lcmp, 1) := by decide +kernel
theorem d1_35 : decode method_3_code 35 = .ok (.ifCond .ge 5, 3) := by decide +kernel
theorem d1_38 : decode method_3_code 38 = .ok (.iconst 4, 1) := by decide +kernel
theorem d1_39 : decode method_3_code 39 = .ok (.ireturn, 1) := by decide +kernel
theorem d1_40 : decode method_3_code 40 = .ok (.lload_n 0, 1) := by decide +kernel
theorem d1_41 : decode method_3_code 41 = .ok (.ldc2_w 35, 3) := by decide +kernel
theorem d1_44 : decode method_3_code 44 = .ok (.lcmp, 1) := by decide +kernel
theorem d1_45 : decode method_3_code 45 = .ok (.ifCond .ge 5, 3) := by decide +kernel
theorem d1_48 : decode method_3_code 48 = .ok (.iconst 5, 1) := by decide +kernel
theorem d1_49 : decode method_3_code 49 = .ok (.ireturn, 1) := by decide +kernel
theorem d1_50 : decode method_3_code 50 = .ok (.lload_n 0, 1) := by decide +kernel
theorem d1_51 : decode method_3_code 51 = .ok (.ldc2_w 37, 3) := by decide +kernel
theorem d1_54 : decode method_3_code 54 = .ok (.lcmp, 1) := by decide +kernel
theorem d1_55 : decode method_3_code 55 = .ok (.ifCond .ge 6, 3) := by decide +kernel
theorem d1_58 : decode method_3_code 58 = .ok (.bipush 6, 2) := by decide +kernel
theorem d1_60 : decode method_3_code 60 = .ok (.ireturn, 1) := by decide +kernel
theorem d1_61 : decode method_3_code 61 = .ok (.lload_n 0, 1) := by decide +kernel
theorem d1_62 : decode method_3_code 62 = .ok (.ldc2_w 39, 3) := by decide +kernel
theorem d1_65 : decode method_3_code 65 = .ok (.lcmp, 1) := by decide +kernel
theorem d1_66 : decode method_3_code 66 = .ok (.ifCond .ge 6, 3) := by decide +kernel
theorem d1_69 : decode method_3_code 69 = .ok (.bipush 7, 2) := by decide +kernel
theorem d1_71 : decode method_3_code 71 = .ok (.ireturn, 1) := by decide +kernel
theorem d1_72 : decode method_3_code 72 = .ok (.lload_n 0, 1) := by decide +kernel
theorem d1_73 : decode method_3_code 73 = .ok (.ldc2_w 41, 3) := by decide +kernel
theorem d1_76 : decode method_3_code 76 = .ok (.lcmp, 1) := by decide +kernel
theorem d1_77 : decode method_3_code 77 = .ok (.ifCond .ge 6, 3) := by decide +kernel
theorem d1_80 : decode method_3_code 80 = .ok (.bipush 8, 2) := by decide +kernel
theorem d1_82 : decode method_3_code 82 = .ok (.ireturn, 1) := by decide +kernel
theorem d1_83 : decode method_3_code 83 = .ok (.bipush 9, 2) := by decide +kernel
theorem d1_85 : decode method_3_code 85 = .ok (.ireturn, 1) := by decide +kernel
theorem pn_1 : plainName "com/example/keyfold/keyfold/VarintWritePinLaw" = true := by first | (simp [plainName, overriddenIn]; done) | decide +kernel
theorem ef_1 (m : MethodId) (q0 : Int64) : entryFrame m #[(.long q0)] 2 = mkF m 0 #[.val (.long q0), .second] [] := by first | rfl | (simp [entryFrame, mkF, argsToLocals, Value.category]; done)
def f_1 (q0 : Int64) : Int32 := if q0 < (128 : Int64) then (1 : Int32) else (if q0 < (16384 : Int64) then (2 : Int32) else (if q0 < (2097152 : Int64) then (3 : Int32) else (if q0 < (268435456 : Int64) then (4 : Int32) else (if q0 < (34359738368 : Int64) then (5 : Int32) else (if q0 < (4398046511104 : Int64) then (6 : Int32) else (if q0 < (562949953421312 : Int64) then (7 : Int32) else (if q0 < (72057594037927936 : Int64) then (8 : Int32) else (9 : Int32))))))))
set_option maxRecDepth 65536 in
set_option maxHeartbeats 40000000 in
theorem rm1 {l : Launch} {Z : State} {a0 : Array Value} (hw : ∀ d ∈ tables_1, d.before a0 Z = true) (q0 : Int64) (h0 : Heap) (n0 : Nat) (hz : n0 ≤ h0.size) :
    OMet l Z (⟨"com/example/keyfold/keyfold/VarintWritePinLaw", "length", "(J)I"⟩ : MethodName) method_3_code 2 (some .int) ({ frames := 0, cells := 0, slots := 0, locals := 0 } : Room) #[(.long q0)] h0 n0 ({ frames := 0, cells := 0, slots := 0, locals := 0 } : Room).cells ({ frames := 0, cells := 0, slots := 0, locals := 0 } : Room).slots (OVal h0 (.int (f_1 q0))) := by
  refine o_body (plainFor_of_name pn_1) hz (fun m => ef_1 m q0) ?_
  intro p e s m below meth c s₁ G0
  refine o_lloadN G0 d1_0 (pc' := 1) rfl rfl ?_
  refine o_ldc2 G0 d1_1 (pc' := 4) rfl (hw _ (List.mem_of_getElem? (i := 6) rfl)) ?_
  refine o_lcmp_ge G0 d1_4 (pc1 := 5) rfl d1_5 (by decide) (pcT := 10) (by decide) (pc' := 8) rfl (fun hc4 => ?_) (fun hc4 => ?_)
  · refine o_lloadN G0 d1_10 (pc' := 11) rfl rfl ?_
    refine o_ldc2 G0 d1_11 (pc' := 14) rfl (hw _ (List.mem_of_getElem? (i := 16) rfl)) ?_
    refine o_lcmp_ge G0 d1_14 (pc1 := 15) rfl d1_15 (by decide) (pcT := 20) (by decide) (pc' := 18) rfl (fun hc14 => ?_) (fun hc14 => ?_)
    · refine o_lloadN G0 d1_20 (pc' := 21) rfl rfl ?_
      refine o_ldc2 G0 d1_21 (pc' := 24) rfl (hw _ (List.mem_of_getElem? (i := 17) rfl)) ?_
      refine o_lcmp_ge G0 d1_24 (pc1 := 25) rfl d1_25 (by decide) (pcT := 30) (by decide) (pc' := 28) rfl (fun hc24 => ?_) (fun hc24 => ?_)
      · refine o_lloadN G0 d1_30 (pc' := 31) rfl rfl ?_
        refine o_ldc2 G0 d1_31 (pc' := 34) rfl (hw _ (List.mem_of_getElem? (i := 18) rfl)) ?_
        refine o_lcmp_ge G0 d1_34 (pc1 := 35) rfl d1_35 (by decide) (pcT := 40) (by decide) (pc' := 38) rfl (fun hc34 => ?_) (fun hc34 => ?_)
        · refine o_lloadN G0 d1_40 (pc' := 41) rfl rfl ?_
          refine o_ldc2 G0 d1_41 (pc' := 44) rfl (hw _ (List.mem_of_getElem? (i := 19) rfl)) ?_
          refine o_lcmp_ge G0 d1_44 (pc1 := 45) rfl d1_45 (by decide) (pcT := 50) (by decide) (pc' := 48) rfl (fun hc44 => ?_) (fun hc44 => ?_)
          · refine o_lloadN G0 d1_50 (pc' := 51) rfl rfl ?_
            refine o_ldc2 G0 d1_51 (pc' := 54) rfl (hw _ (List.mem_of_getElem? (i := 20) rfl)) ?_
            refine o_lcmp_ge G0 d1_54 (pc1 := 55) rfl d1_55 (by decide) (pcT := 61) (by decide) (pc' := 58) rfl (fun hc54 => ?_) (fun hc54 => ?_)
            · refine o_lloadN G0 d1_61 (pc' := 62) rfl rfl ?_
              refine o_ldc2 G0 d1_62 (pc' := 65) rfl (hw _ (List.mem_of_getElem? (i := 21) rfl)) ?_
              refine o_lcmp_ge G0 d1_65 (pc1 := 66) rfl d1_66 (by decide) (pcT := 72) (by decide) (pc' := 69) rfl (fun hc65 => ?_) (fun hc65 => ?_)
              · refine o_lloadN G0 d1_72 (pc' := 73) rfl rfl ?_
                refine o_ldc2 G0 d1_73 (pc' := 76) rfl (hw _ (List.mem_of_getElem? (i := 22) rfl)) ?_
                refine o_lcmp_ge G0 d1_76 (pc1 := 77) rfl d1_77 (by decide) (pcT := 83) (by decide) (pc' := 80) rfl (fun hc76 => ?_) (fun hc76 => ?_)
                · refine o_bipush G0 d1_83 (pc' := 85) rfl (v := (9 : Int32)) rfl ?_
                  have hq : (9 : Int32) = f_1 q0 := by
                    rw [f_1, if_neg hc4, if_neg hc14, if_neg hc24, if_neg hc34, if_neg hc44, if_neg hc54, if_neg hc65, if_neg hc76]
                  exact o_ireturn G0 d1_85 ⟨congrArg (fun z => some (Value.int z)) hq, rfl⟩ (by decide) (by decide)
                · refine o_bipush G0 d1_80 (pc' := 82) rfl (v := (8 : Int32)) rfl ?_
                  have hq : (8 : Int32) = f_1 q0 := by
                    rw [f_1, if_neg hc4, if_neg hc14, if_neg hc24, if_neg hc34, if_neg hc44, if_neg hc54, if_neg hc65, if_pos hc76]
                  exact o_ireturn G0 d1_82 ⟨congrArg (fun z => some (Value.int z)) hq, rfl⟩ (by decide) (by decide)
              · refine o_bipush G0 d1_69 (pc' := 71) rfl (v := (7 : Int32)) rfl ?_
                have hq : (7 : Int32) = f_1 q0 := by
                  rw [f_1, if_neg hc4, if_neg hc14, if_neg hc24, if_neg hc34, if_neg hc44, if_neg hc54, if_pos hc65]
                exact o_ireturn G0 d1_71 ⟨congrArg (fun z => some (Value.int z)) hq, rfl⟩ (by decide) (by decide)
            · refine o_bipush G0 d1_58 (pc' := 60) rfl (v := (6 : Int32)) rfl ?_
              have hq : (6 : Int32) = f_1 q0 := by
                rw [f_1, if_neg hc4, if_neg hc14, if_neg hc24, if_neg hc34, if_neg hc44, if_pos hc54]
              exact o_ireturn G0 d1_60 ⟨congrArg (fun z => some (Value.int z)) hq, rfl⟩ (by decide) (by decide)
          · refine o_iconst G0 d1_48 (pc' := 49) rfl (v := (5 : Int32)) rfl ?_
            have hq : (5 : Int32) = f_1 q0 := by
              rw [f_1, if_neg hc4, if_neg hc14, if_neg hc24, if_neg hc34, if_pos hc44]
            exact o_ireturn G0 d1_49 ⟨congrArg (fun z => some (Value.int z)) hq, rfl⟩ (by decide) (by decide)
        · refine o_iconst G0 d1_38 (pc' := 39) rfl (v := (4 : Int32)) rfl ?_
          have hq : (4 : Int32) = f_1 q0 := by
            rw [f_1, if_neg hc4, if_neg hc14, if_neg hc24, if_pos hc34]
          exact o_ireturn G0 d1_39 ⟨congrArg (fun z => some (Value.int z)) hq, rfl⟩ (by decide) (by decide)
      · refine o_iconst G0 d1_28 (pc' := 29) rfl (v := (3 : Int32)) rfl ?_
        have hq : (3 : Int32) = f_1 q0 := by
          rw [f_1, if_neg hc4, if_neg hc14, if_pos hc24]
        exact o_ireturn G0 d1_29 ⟨congrArg (fun z => some (Value.int z)) hq, rfl⟩ (by decide) (by decide)
    · refine o_iconst G0 d1_18 (pc' := 19) rfl (v := (2 : Int32)) rfl ?_
      have hq : (2 : Int32) = f_1 q0 := by
        rw [f_1, if_neg hc4, if_pos hc14]
      exact o_ireturn G0 d1_19 ⟨congrArg (fun z => some (Value.int z)) hq, rfl⟩ (by decide) (by decide)
  · refine o_iconst G0 d1_8 (pc' := 9) rfl (v := (1 : Int32)) rfl ?_
    have hq : (1 : Int32) = f_1 q0 := by
      rw [f_1, if_pos hc4]
    exact o_ireturn G0 d1_9 ⟨congrArg (fun z => some (Value.int z)) hq, rfl⟩ (by decide) (by decide)
theorem d3_0 : decode method_4_code 0 = .ok (.iload_n 1, 1) := by decide +kernel
theorem d3_1 : decode method_4_code 1 = .ok (.iload 4, 2) := by decide +kernel
theorem d3_3 : decode method_4_code 3 = .ok (.isub, 1) := by decide +kernel
theorem d3_4 : decode method_4_code 4 = .ok (.istore 7, 2) := by decide +kernel
theorem d3_6 : decode method_4_code 6 = .ok (.iload 7, 2) := by decide +kernel
theorem d3_8 : decode method_4_code 8 = .ok (.ifCond .lt 10, 3) := by decide +kernel
theorem d3_11 : decode method_4_code 11 = .ok (.iload 7, 2) := by decide +kernel
theorem d3_13 : decode method_4_code 13 = .ok (.iload 5, 2) := by decide +kernel
theorem d3_15 : decode method_4_code 15 = .ok (.if_icmp .lt 17, 3) := by decide +kernel
theorem d3_18 : decode method_4_code 18 = .ok (.aload_n 0, 1) := by decide +kernel
theorem d3_19 : decode method_4_code 19 = .ok (.iload_n 1, 1) := by decide +kernel
theorem d3_20 : decode method_4_code 20 = .ok (.baload, 1) := by decide +kernel
theorem d3_21 : decode method_4_code 21 = .ok (.iload 6, 2) := by decide +kernel
theorem d3_23 : decode method_4_code 23 = .ok (.if_icmp .ne 7, 3) := by decide +kernel
theorem d3_26 : decode method_4_code 26 = .ok (.iconst 1, 1) := by decide +kernel
theorem d3_27 : decode method_4_code 27 = .ok (.goto 4, 3) := by decide +kernel
theorem d3_30 : decode method_4_code 30 = .ok (.iconst 0, 1) := by decide +kernel
theorem d3_31 : decode method_4_code 31 = .ok (.ireturn, 1) := by decide +kernel
theorem d3_32 : decode method_4_code 32 = .ok (.lload_n 2, 1) := by decide +kernel
theorem d3_33 : decode method_4_code 33 = .ok (.bipush 7, 2) := by decide +kernel
theorem d3_35 : decode method_4_code 35 = .ok (.iload 7, 2) := by decide +kernel
theorem d3_37 : decode method_4_code 37 = .ok (.imul, 1) := by decide +kernel
theorem d3_38 : decode method_4_code 38 = .ok (.lushr, 1) := by decide +kernel
theorem d3_39 : decode method_4_code 39 = .ok (.ldc2_w 43, 3) := by decide +kernel
theorem d3_42 : decode method_4_code 42 = .ok (.land, 1) := by decide +kernel
theorem d3_43 : decode method_4_code 43 = .ok (.lstore 8, 2) := by decide +kernel
theorem d3_45 : decode method_4_code 45 = .ok (.iload 7, 2) := by decide +kernel
theorem d3_47 : decode method_4_code 47 = .ok (.iload 5, 2) := by decide +kernel
theorem d3_49 : decode method_4_code 49 = .ok (.iconst 1, 1) := by decide +kernel
theorem d3_50 : decode method_4_code 50 = .ok (.isub, 1) := by decide +kernel
theorem d3_51 : decode method_4_code 51 = .ok (.if_icmp .ge 23, 3) := by decide +kernel
theorem d3_54 : decode method_4_code 54 = .ok (.aload_n 0, 1) := by decide +kernel
theorem d3_55 : decode method_4_code 55 = .ok (.iload_n 1, 1) := by decide +kernel
theorem d3_56 : decode method_4_code 56 = .ok (.baload, 1) := by decide +kernel
theorem d3_57 : decode method_4_code 57 = .ok (.lload 8, 2) := by decide +kernel
theorem d3_59 : decode method_4_code 59 = .ok (.ldc2_w 27, 3) := by decide +kernel
theorem d3_62 : decode method_4_code 62 = .ok (.lor, 1) := by decide +kernel
theorem d3_63 : decode method_4_code 63 = .ok (.l2i, 1) := by decide +kernel
theorem d3_64 : decode method_4_code 64 = .ok (.i2b, 1) := by decide +kernel
theorem d3_65 : decode method_4_code 65 = .ok (.if_icmp .ne 7, 3) := by decide +kernel
theorem d3_68 : decode method_4_code 68 = .ok (.iconst 1, 1) := by decide +kernel
theorem d3_69 : decode method_4_code 69 = .ok (.goto 4, 3) := by decide +kernel
theorem d3_72 : decode method_4_code 72 = .ok (.iconst 0, 1) := by decide +kernel
theorem d3_73 : decode method_4_code 73 = .ok (.ireturn, 1) := by decide +kernel
theorem d3_74 : decode method_4_code 74 = .ok (.aload_n 0, 1) := by decide +kernel
theorem d3_75 : decode method_4_code 75 = .ok (.iload_n 1, 1) := by decide +kernel
theorem d3_76 : decode method_4_code 76 = .ok (.baload, 1) := by decide +kernel
theorem d3_77 : decode method_4_code 77 = .ok (.lload 8, 2) := by decide +kernel
theorem d3_79 : decode method_4_code 79 = .ok (.l2i, 1) := by decide +kernel
theorem d3_80 : decode method_4_code 80 = .ok (.i2b, 1) := by decide +kernel
theorem d3_81 : decode method_4_code 81 = .ok (.if_icmp .ne 7, 3) := by decide +kernel
theorem d3_84 : decode method_4_code 84 = .ok (.iconst 1, 1) := by decide +kernel
theorem d3_85 : decode method_4_code 85 = .ok (.goto 4, 3) := by decide +kernel
theorem d3_88 : decode method_4_code 88 = .ok (.iconst 0, 1) := by decide +kernel
theorem d3_89 : decode method_4_code 89 = .ok (.ireturn, 1) := by decide +kernel
theorem pn_3 : plainName "com/example/keyfold/keyfold/VarintWritePinLaw" = true := by first | (simp [plainName, overriddenIn]; done) | decide +kernel
theorem ef_3 (m : MethodId) (r0 : Addr) (p1 : Int32) (q2 : Int64) (p3 : Int32) (p4 : Int32) (p5 : Int32) : entryFrame m #[(.ref r0), (.int p1), (.long q2), (.int p3), (.int p4), (.int p5)] 10 = mkF m 0 #[.val (.ref r0), .val (.int p1), .val (.long q2), .second, .val (.int p3), .val (.int p4), .val (.int p5), .unset, .unset, .unset] [] := by first | rfl | (simp [entryFrame, mkF, argsToLocals, Value.category]; done)
def f_3 (g : Nat → Int32) (P : Nat) (p1 : Int32) (q2 : Int64) (p3 : Int32) (p4 : Int32) (p5 : Int32) : Int32 := if (p1 - p3) < (0 : Int32) then (if (g P) = p5 then (1 : Int32) else (0 : Int32)) else (if (p1 - p3) < p4 then (if (p1 - p3) < (p4 - (1 : Int32)) then (if (g P) = ((((((q2.toUInt64 >>> (((7 : Int32) * (p1 - p3)) &&& 0x3f).toInt64.toUInt64).toInt64) &&& (127 : Int64)) ||| (128 : Int64)).toInt32).toInt8.toInt32) then (1 : Int32) else (0 : Int32)) else (if (g P) = (((((q2.toUInt64 >>> (((7 : Int32) * (p1 - p3)) &&& 0x3f).toInt64.toUInt64).toInt64) &&& (127 : Int64)).toInt32).toInt8.toInt32) then (1 : Int32) else (0 : Int32))) else (if (g P) = p5 then (1 : Int32) else (0 : Int32)))
set_option maxRecDepth 65536 in
set_option maxHeartbeats 40000000 in
theorem rm3 {l : Launch} {Z : State} {a0 : Array Value} (hw : ∀ d ∈ tables_1, d.before a0 Z = true) (r0 : Addr) (p1 : Int32) (q2 : Int64) (p3 : Int32) (p4 : Int32) (p5 : Int32) (h0 : Heap) (n0 : Nat) (hz : n0 ≤ h0.size) (g : Nat → Int32) (A_r0 : OArr Z h0 r0 .byte 13 (fun j => .int (g j))) (P : Nat) (hP : p1.toInt = (P : Int)) (hP2 : P < 13) :
    OMet l Z (⟨"com/example/keyfold/keyfold/VarintWritePinLaw", "at", "([BIJIIB)Z"⟩ : MethodName) method_4_code 10 (some .boolean) ({ frames := 0, cells := 0, slots := 0, locals := 0 } : Room) #[(.ref r0), (.int p1), (.long q2), (.int p3), (.int p4), (.int p5)] h0 n0 ({ frames := 0, cells := 0, slots := 0, locals := 0 } : Room).cells ({ frames := 0, cells := 0, slots := 0, locals := 0 } : Room).slots (OVal h0 (.int (f_3 g P p1 q2 p3 p4 p5))) := by
  refine o_body (plainFor_of_name pn_3) hz (fun m => ef_3 m r0 p1 q2 p3 p4 p5) ?_
  intro p e s m below meth c s₁ G0
  refine o_iloadN G0 d3_0 (pc' := 1) rfl rfl ?_
  refine o_iload G0 d3_1 (pc' := 3) rfl rfl ?_
  obtain ⟨v1, e1⟩ : ∃ z, p1 - p3 = z := ⟨_, rfl⟩
  refine o_isub G0 d3_3 (pc' := 4) rfl e1 ?_
  refine o_istore G0 d3_4 (pc' := 6) rfl (l' := #[.val (.ref r0), .val (.int p1), .val (.long q2), .second, .val (.int p3), .val (.int p4), .val (.int p5), .val (.int v1), .unset, .unset]) rfl ?_
  refine o_iload G0 d3_6 (pc' := 8) rfl rfl ?_
  refine o_if_lt G0 d3_8 (by decide) (pcT := 18) (by decide) (pc' := 11) rfl (fun hc8 => ?_) (fun hc8 => ?_)
  · refine o_aloadN G0 d3_18 (pc' := 19) rfl rfl rfl ?_
    refine o_iloadN G0 d3_19 (pc' := 20) rfl rfl ?_
    refine o_baload G0 A_r0 (i := P) hP hP2 (v := (.int (g P))) rfl d3_20 (pc' := 21) rfl ?_
    refine o_iload G0 d3_21 (pc' := 23) rfl rfl ?_
    refine o_icmp_ne G0 d3_23 (by decide) (pcT := 30) (by decide) (pc' := 26) rfl (fun hc23 => ?_) (fun hc23 => ?_)
    · refine o_iconst G0 d3_30 (pc' := 31) rfl (v := (0 : Int32)) rfl ?_
      have hq : (nar .boolean (0 : Int32)) = f_3 g P p1 q2 p3 p4 p5 := by
        subst e1
        rw [f_3, if_pos hc8, if_neg hc23]
        try rfl
      exact o_nreturn (t := .boolean) G0 (by simp) d3_31 ⟨congrArg (fun z => some (Value.int z)) hq, rfl⟩ (by decide) (by decide)
    · refine o_iconst G0 d3_26 (pc' := 27) rfl (v := (1 : Int32)) rfl ?_
      refine o_goto G0 d3_27 (by decide) (pc' := 31) rfl ?_
      have hq : (nar .boolean (1 : Int32)) = f_3 g P p1 q2 p3 p4 p5 := by
        subst e1
        rw [f_3, if_pos hc8, if_pos hc23]
        try rfl
      exact o_nreturn (t := .boolean) G0 (by simp) d3_31 ⟨congrArg (fun z => some (Value.int z)) hq, rfl⟩ (by decide) (by decide)
  · refine o_iload G0 d3_11 (pc' := 13) rfl rfl ?_
    refine o_iload G0 d3_13 (pc' := 15) rfl rfl ?_
    refine o_icmp_lt G0 d3_15 (by decide) (pcT := 32) (by decide) (pc' := 18) rfl (fun hc15 => ?_) (fun hc15 => ?_)
    · refine o_lloadN G0 d3_32 (pc' := 33) rfl rfl ?_
      refine o_bipush G0 d3_33 (pc' := 35) rfl (v := (7 : Int32)) rfl ?_
      refine o_iload G0 d3_35 (pc' := 37) rfl rfl ?_
      obtain ⟨v2, e2⟩ : ∃ z, (7 : Int32) * v1 = z := ⟨_, rfl⟩
      refine o_imul G0 d3_37 (pc' := 38) rfl e2 ?_
      obtain ⟨v3, e3⟩ : ∃ z, (q2.toUInt64 >>> (v2 &&& 0x3f).toInt64.toUInt64).toInt64 = z := ⟨_, rfl⟩
      refine o_lushr G0 d3_38 (pc' := 39) rfl e3 ?_
      refine o_ldc2 G0 d3_39 (pc' := 42) rfl (hw _ (List.mem_of_getElem? (i := 15) rfl)) ?_
      obtain ⟨v4, e4⟩ : ∃ z, v3 &&& (127 : Int64) = z := ⟨_, rfl⟩
      refine o_land G0 d3_42 (pc' := 43) rfl e4 ?_
      refine o_lstore G0 d3_43 (pc' := 45) rfl (l' := #[.val (.ref r0), .val (.int p1), .val (.long q2), .second, .val (.int p3), .val (.int p4), .val (.int p5), .val (.int v1), .val (.long v4), .second]) rfl ?_
      refine o_iload G0 d3_45 (pc' := 47) rfl rfl ?_
      refine o_iload G0 d3_47 (pc' := 49) rfl rfl ?_
      refine o_iconst G0 d3_49 (pc' := 50) rfl (v := (1 : Int32)) rfl ?_
      obtain ⟨v5, e5⟩ : ∃ z, p4 - (1 : Int32) = z := ⟨_, rfl⟩
      refine o_isub G0 d3_50 (pc' := 51) rfl e5 ?_
      refine o_icmp_ge G0 d3_51 (by decide) (pcT := 74) (by decide) (pc' := 54) rfl (fun hc51 => ?_) (fun hc51 => ?_)
      · refine o_aloadN G0 d3_74 (pc' := 75) rfl rfl rfl ?_
        refine o_iloadN G0 d3_75 (pc' := 76) rfl rfl ?_
        refine o_baload G0 A_r0 (i := P) hP hP2 (v := (.int (g P))) rfl d3_76 (pc' := 77) rfl ?_
        refine o_lload G0 d3_77 (pc' := 79) rfl rfl ?_
        obtain ⟨v6, e6⟩ : ∃ z, v4.toInt32 = z := ⟨_, rfl⟩
        refine o_l2i G0 d3_79 (pc' := 80) rfl e6 ?_
        obtain ⟨v7, e7⟩ : ∃ z, v6.toInt8.toInt32 = z := ⟨_, rfl⟩
        refine o_i2b G0 d3_80 (pc' := 81) rfl e7 ?_
        refine o_icmp_ne G0 d3_81 (by decide) (pcT := 88) (by decide) (pc' := 84) rfl (fun hc81 => ?_) (fun hc81 => ?_)
        · refine o_iconst G0 d3_88 (pc' := 89) rfl (v := (0 : Int32)) rfl ?_
          have hq : (nar .boolean (0 : Int32)) = f_3 g P p1 q2 p3 p4 p5 := by
            subst e1 e2 e3 e4 e5 e6 e7
            rw [f_3, if_neg hc8, if_pos hc15, if_neg hc51, if_neg hc81]
            try rfl
          exact o_nreturn (t := .boolean) G0 (by simp) d3_89 ⟨congrArg (fun z => some (Value.int z)) hq, rfl⟩ (by decide) (by decide)
        · refine o_iconst G0 d3_84 (pc' := 85) rfl (v := (1 : Int32)) rfl ?_
          refine o_goto G0 d3_85 (by decide) (pc' := 89) rfl ?_
          have hq : (nar .boolean (1 : Int32)) = f_3 g P p1 q2 p3 p4 p5 := by
            subst e1 e2 e3 e4 e5 e6 e7
            rw [f_3, if_neg hc8, if_pos hc15, if_neg hc51, if_pos hc81]
            try rfl
          exact o_nreturn (t := .boolean) G0 (by simp) d3_89 ⟨congrArg (fun z => some (Value.int z)) hq, rfl⟩ (by decide) (by decide)
      · refine o_aloadN G0 d3_54 (pc' := 55) rfl rfl rfl ?_
        refine o_iloadN G0 d3_55 (pc' := 56) rfl rfl ?_
        refine o_baload G0 A_r0 (i := P) hP hP2 (v := (.int (g P))) rfl d3_56 (pc' := 57) rfl ?_
        refine o_lload G0 d3_57 (pc' := 59) rfl rfl ?_
        refine o_ldc2 G0 d3_59 (pc' := 62) rfl (hw _ (List.mem_of_getElem? (i := 6) rfl)) ?_
        obtain ⟨v8, e8⟩ : ∃ z, v4 ||| (128 : Int64) = z := ⟨_, rfl⟩
        refine o_lor G0 d3_62 (pc' := 63) rfl e8 ?_
        obtain ⟨v9, e9⟩ : ∃ z, v8.toInt32 = z := ⟨_, rfl⟩
        refine o_l2i G0 d3_63 (pc' := 64) rfl e9 ?_
        obtain ⟨v10, e10⟩ : ∃ z, v9.toInt8.toInt32 = z := ⟨_, rfl⟩
        refine o_i2b G0 d3_64 (pc' := 65) rfl e10 ?_
        refine o_icmp_ne G0 d3_65 (by decide) (pcT := 72) (by decide) (pc' := 68) rfl (fun hc65 => ?_) (fun hc65 => ?_)
        · refine o_iconst G0 d3_72 (pc' := 73) rfl (v := (0 : Int32)) rfl ?_
          have hq : (nar .boolean (0 : Int32)) = f_3 g P p1 q2 p3 p4 p5 := by
            subst e1 e2 e3 e4 e5 e8 e9 e10
            rw [f_3, if_neg hc8, if_pos hc15, if_pos hc51, if_neg hc65]
            try rfl
          exact o_nreturn (t := .boolean) G0 (by simp) d3_73 ⟨congrArg (fun z => some (Value.int z)) hq, rfl⟩ (by decide) (by decide)
        · refine o_iconst G0 d3_68 (pc' := 69) rfl (v := (1 : Int32)) rfl ?_
          refine o_goto G0 d3_69 (by decide) (pc' := 73) rfl ?_
          have hq : (nar .boolean (1 : Int32)) = f_3 g P p1 q2 p3 p4 p5 := by
            subst e1 e2 e3 e4 e5 e8 e9 e10
            rw [f_3, if_neg hc8, if_pos hc15, if_pos hc51, if_pos hc65]
            try rfl
          exact o_nreturn (t := .boolean) G0 (by simp) d3_73 ⟨congrArg (fun z => some (Value.int z)) hq, rfl⟩ (by decide) (by decide)
    · refine o_aloadN G0 d3_18 (pc' := 19) rfl rfl rfl ?_
      refine o_iloadN G0 d3_19 (pc' := 20) rfl rfl ?_
      refine o_baload G0 A_r0 (i := P) hP hP2 (v := (.int (g P))) rfl d3_20 (pc' := 21) rfl ?_
      refine o_iload G0 d3_21 (pc' := 23) rfl rfl ?_
      refine o_icmp_ne G0 d3_23 (by decide) (pcT := 30) (by decide) (pc' := 26) rfl (fun hc23 => ?_) (fun hc23 => ?_)
      · refine o_iconst G0 d3_30 (pc' := 31) rfl (v := (0 : Int32)) rfl ?_
        have hq : (nar .boolean (0 : Int32)) = f_3 g P p1 q2 p3 p4 p5 := by
          subst e1
          rw [f_3, if_neg hc8, if_neg hc15, if_neg hc23]
          try rfl
        exact o_nreturn (t := .boolean) G0 (by simp) d3_31 ⟨congrArg (fun z => some (Value.int z)) hq, rfl⟩ (by decide) (by decide)
      · refine o_iconst G0 d3_26 (pc' := 27) rfl (v := (1 : Int32)) rfl ?_
        refine o_goto G0 d3_27 (by decide) (pc' := 31) rfl ?_
        have hq : (nar .boolean (1 : Int32)) = f_3 g P p1 q2 p3 p4 p5 := by
          subst e1
          rw [f_3, if_neg hc8, if_neg hc15, if_pos hc23]
          try rfl
        exact o_nreturn (t := .boolean) G0 (by simp) d3_31 ⟨congrArg (fun z => some (Value.int z)) hq, rfl⟩ (by decide) (by decide)
def own_up (g : Nat → Int32) (i : Nat) (x : Int32) : Nat → Int32 := fun j => if j = i then x else g j
def own_wr : Nat → Int64 → Int32 → (Nat → Int32) → Int32 × (Nat → Int32)
  | 0, _, i, g => (i, g)
  | k + 1, v, i, g => if v < 128 then (i + 1, own_up g i.toNatClampNeg (nar .byte v.toInt32.toInt8.toInt32)) else own_wr k ((v.toUInt64 >>> ((7 : Int32) &&& 0x3f).toInt64.toUInt64).toInt64) (i + 1) (own_up g i.toNatClampNeg (nar .byte (v ||| 128).toInt32.toInt8.toInt32))
theorem own_shr7 (v : Int64) (h : 0 ≤ v.toInt) : ((v.toUInt64 >>> ((7 : Int32) &&& 0x3f).toInt64.toUInt64).toInt64).toInt = v.toInt / 128 := by
  have a1 := v.toInt_lt
  rw [c_lushr v 7 7 (by decide) (by decide), Int.emod_eq_of_lt h (by omega)]; rfl
theorem d2_0 : decode prog_142_method_3_code 0 = .ok (.lload_n 0, 1) := by decide +kernel
theorem d2_1 : decode prog_142_method_3_code 1 = .ok (.ldc2_w 7, 3) := by decide +kernel
theorem d2_4 : decode prog_142_method_3_code 4 = .ok (.lcmp, 1) := by decide +kernel
theorem d2_5 : decode prog_142_method_3_code 5 = .ok (.ifCond .lt 24, 3) := by decide +kernel
theorem d2_8 : decode prog_142_method_3_code 8 = .ok (.aload_n 2, 1) := by decide +kernel
theorem d2_9 : decode prog_142_method_3_code 9 = .ok (.iload_n 3, 1) := by decide +kernel
theorem d2_10 : decode prog_142_method_3_code 10 = .ok (.iinc 3 1, 3) := by decide +kernel
theorem d2_13 : decode prog_142_method_3_code 13 = .ok (.lload_n 0, 1) := by decide +kernel
theorem d2_14 : decode prog_142_method_3_code 14 = .ok (.ldc2_w 7, 3) := by decide +kernel
theorem d2_17 : decode prog_142_method_3_code 17 = .ok (.lor, 1) := by decide +kernel
theorem d2_18 : decode prog_142_method_3_code 18 = .ok (.l2i, 1) := by decide +kernel
theorem d2_19 : decode prog_142_method_3_code 19 = .ok (.i2b, 1) := by decide +kernel
theorem d2_20 : decode prog_142_method_3_code 20 = .ok (.bastore, 1) := by decide +kernel
theorem d2_21 : decode prog_142_method_3_code 21 = .ok (.lload_n 0, 1) := by decide +kernel
theorem d2_22 : decode prog_142_method_3_code 22 = .ok (.bipush 7, 2) := by decide +kernel
theorem d2_24 : decode prog_142_method_3_code 24 = .ok (.lushr, 1) := by decide +kernel
theorem d2_25 : decode prog_142_method_3_code 25 = .ok (.lstore_n 0, 1) := by decide +kernel
theorem d2_26 : decode prog_142_method_3_code 26 = .ok (.goto (-26), 3) := by decide +kernel
theorem d2_29 : decode prog_142_method_3_code 29 = .ok (.aload_n 2, 1) := by decide +kernel
theorem d2_30 : decode prog_142_method_3_code 30 = .ok (.iload_n 3, 1) := by decide +kernel
theorem d2_31 : decode prog_142_method_3_code 31 = .ok (.iinc 3 1, 3) := by decide +kernel
theorem d2_34 : decode prog_142_method_3_code 34 = .ok (.lload_n 0, 1) := by decide +kernel
theorem d2_35 : decode prog_142_method_3_code 35 = .ok (.l2i, 1) := by decide +kernel
theorem d2_36 : decode prog_142_method_3_code 36 = .ok (.i2b, 1) := by decide +kernel
theorem d2_37 : decode prog_142_method_3_code 37 = .ok (.bastore, 1) := by decide +kernel
theorem d2_38 : decode prog_142_method_3_code 38 = .ok (.iload_n 3, 1) := by decide +kernel
theorem d2_39 : decode prog_142_method_3_code 39 = .ok (.ireturn, 1) := by decide +kernel
theorem pn_2 : plainName "com/example/keyfold/keyfold/Varint" = true := by first | (simp [plainName, overriddenIn]; done) | decide +kernel
theorem ef_2 (m : MethodId) (q0 : Int64) (r1 : Addr) (p2 : Int32) : entryFrame m #[(.long q0), (.ref r1), (.int p2)] 4 = mkF m 0 #[.val (.long q0), .second, .val (.ref r1), .val (.int p2)] [] := by first | rfl | (simp [entryFrame, mkF, argsToLocals, Value.category]; done)
set_option maxRecDepth 65536 in
set_option maxHeartbeats 40000000 in
theorem rm2 {l : Launch} {Z : State} {a0 : Array Value} (hw : ∀ d ∈ tables_1, d.before a0 Z = true) (q0 : Int64) (r1 : Addr) (p2 : Int32) (h0 : Heap) (n0 : Nat) (hz : n0 ≤ h0.size) (hg1 : n0 ≤ r1) (f : Nat → Int32) (A : OArr Z h0 r1 .byte 13 (fun j => .int (f j))) (h1 : 0 ≤ q0.toInt) (h2 : q0.toInt < 128 ^ 9) (h3 : 0 ≤ p2.toInt) (h4 : p2.toInt + 8 + 1 ≤ 13) :
    OMet l Z (⟨"com/example/keyfold/keyfold/Varint", "write", "(J[BI)I"⟩ : MethodName) prog_142_method_3_code 4 (some .int) ({ frames := 0, cells := 0, slots := 0, locals := 0 } : Room) #[(.long q0), (.ref r1), (.int p2)] h0 n0 0 0 (fun v h => v = some (.int (own_wr 9 q0 p2 f).1) ∧ Keep h0 h [r1] ∧ OArr Z h r1 .byte 13 (fun j => .int ((own_wr 9 q0 p2 f).2 j))) := by
  refine o_body (plainFor_of_name pn_2) hz (fun m => ef_2 m q0 r1 p2) ?_
  intro p e s m below meth c s₁ G0
  have loop : ∀ (k : Nat) (T : State) (h : Heap) (x0 : Int64) (x3 : Int32) (g : Nat → Int32), 0 ≤ x0.toInt → x0.toInt < 128 ^ (k + 1) → 0 ≤ x3.toInt → x3.toInt + k + 1 ≤ 13 → own_wr 9 q0 p2 f = own_wr (k + 1) x0 x3 g → OArr Z h r1 .byte 13 (fun j => .int (g j)) → Keep h0 h [r1] → OG l Z (⟨"com/example/keyfold/keyfold/Varint", "write", "(J[BI)I"⟩ : MethodName) prog_142_method_3_code 4 (some .int) n0 p e ({ frames := 0, cells := 0, slots := 0, locals := 0 } : Room) s m #[(.long q0), (.ref r1), (.int p2)] below meth c T h 0 0 → OFin n0 p e below s (fun v h => v = some (.int (own_wr 9 q0 p2 f).1) ∧ Keep h0 h [r1] ∧ OArr Z h r1 .byte 13 (fun j => .int ((own_wr 9 q0 p2 f).2 j))) 0 0 T (mkF m 0 #[.val (.long x0), .second, .val (.ref r1), .val (.int x3)] []) := by
    intro k
    induction k with
    | zero =>
      intro T h x0 x3 g h1 h2 h3 h4 hQ A K G
      have h128 : x0 < (128 : Int64) := by
        rw [Int64.lt_iff_toInt_lt]; have : (128 : Int64).toInt = 128 := rfl
        omega
      refine o_lloadN G d2_0 (pc' := 1) rfl rfl ?_
      refine o_ldc2 G d2_1 (pc' := 4) rfl (hw _ (List.mem_of_getElem? (i := 11) rfl)) ?_
      refine o_lcmp_lt G d2_4 (pc1 := 5) rfl d2_5 (by decide) (pcT := 29) (by decide) (pc' := 8) rfl (fun _ => ?_) (fun q => absurd h128 q)
      refine o_aloadN G d2_29 (pc' := 30) rfl rfl rfl ?_
      refine o_iloadN G d2_30 (pc' := 31) rfl rfl ?_
      obtain ⟨v1, e1⟩ : ∃ z, x3 + (1 : Int32) = z := ⟨_, rfl⟩
      refine o_iinc G d2_31 (pc' := 34) rfl rfl (w := (1 : Int32)) rfl e1 (l' := #[.val (.long x0), .second, .val (.ref r1), .val (.int v1)]) rfl ?_
      refine o_lloadN G d2_34 (pc' := 35) rfl rfl ?_
      obtain ⟨v2, e2⟩ : ∃ z, x0.toInt32 = z := ⟨_, rfl⟩
      refine o_l2i G d2_35 (pc' := 36) rfl e2 ?_
      obtain ⟨v3, e3⟩ : ∃ z, v2.toInt8.toInt32 = z := ⟨_, rfl⟩
      refine o_i2b G d2_36 (pc' := 37) rfl e3 ?_
      have hb4 := o_idx (j := x3) (n := 13) h3 (by omega)
      refine o_bastore G A hg1 (i := x3.toNatClampNeg) hb4.1 hb4.2 d2_37 (pc' := 38) rfl ?_
      intro T5 h5 G5 W5 A5
      replace K := K.wr W5 (Or.inl (List.mem_of_getElem? (i := 0) rfl))
      replace A := A5
      refine o_iloadN G5 d2_38 (pc' := 39) rfl rfl ?_
      have hq : (v1, own_up g x3.toNatClampNeg (nar .byte x0.toInt32.toInt8.toInt32)) = own_wr 9 q0 p2 f := by
        rw [← e1, hQ, own_wr, if_pos h128]
      refine o_ireturn G5 d2_39 ⟨by rw [← hq], K, A.congr (fun j _ => ?_)⟩ (by decide) (by decide)
      subst e2 e3
      rw [← hq]
      simp only [o_set, own_up]
      split <;> rfl
    | succ k ih =>
      intro T h x0 x3 g h1 h2 h3 h4 hQ A K G
      refine o_lloadN G d2_0 (pc' := 1) rfl rfl ?_
      refine o_ldc2 G d2_1 (pc' := 4) rfl (hw _ (List.mem_of_getElem? (i := 11) rfl)) ?_
      refine o_lcmp_lt G d2_4 (pc1 := 5) rfl d2_5 (by decide) (pcT := 29) (by decide) (pc' := 8) rfl (fun hc4 => ?_) (fun hc4 => ?_)
      · refine o_aloadN G d2_29 (pc' := 30) rfl rfl rfl ?_
        refine o_iloadN G d2_30 (pc' := 31) rfl rfl ?_
        obtain ⟨v6, e6⟩ : ∃ z, x3 + (1 : Int32) = z := ⟨_, rfl⟩
        refine o_iinc G d2_31 (pc' := 34) rfl rfl (w := (1 : Int32)) rfl e6 (l' := #[.val (.long x0), .second, .val (.ref r1), .val (.int v6)]) rfl ?_
        refine o_lloadN G d2_34 (pc' := 35) rfl rfl ?_
        obtain ⟨v7, e7⟩ : ∃ z, x0.toInt32 = z := ⟨_, rfl⟩
        refine o_l2i G d2_35 (pc' := 36) rfl e7 ?_
        obtain ⟨v8, e8⟩ : ∃ z, v7.toInt8.toInt32 = z := ⟨_, rfl⟩
        refine o_i2b G d2_36 (pc' := 37) rfl e8 ?_
        have hb9 := o_idx (j := x3) (n := 13) h3 (by omega)
        refine o_bastore G A hg1 (i := x3.toNatClampNeg) hb9.1 hb9.2 d2_37 (pc' := 38) rfl ?_
        intro T10 h10 G10 W10 A10
        replace K := K.wr W10 (Or.inl (List.mem_of_getElem? (i := 0) rfl))
        replace A := A10
        refine o_iloadN G10 d2_38 (pc' := 39) rfl rfl ?_
        have hq : (v6, own_up g x3.toNatClampNeg (nar .byte x0.toInt32.toInt8.toInt32)) = own_wr 9 q0 p2 f := by
          rw [← e6, hQ, own_wr, if_pos hc4]
        refine o_ireturn G10 d2_39 ⟨by rw [← hq], K, A.congr (fun j _ => ?_)⟩ (by decide) (by decide)
        subst e7 e8
        rw [← hq]
        simp only [o_set, own_up]
        split <;> rfl
      · refine o_aloadN G d2_8 (pc' := 9) rfl rfl rfl ?_
        refine o_iloadN G d2_9 (pc' := 10) rfl rfl ?_
        obtain ⟨v11, e11⟩ : ∃ z, x3 + (1 : Int32) = z := ⟨_, rfl⟩
        refine o_iinc G d2_10 (pc' := 13) rfl rfl (w := (1 : Int32)) rfl e11 (l' := #[.val (.long x0), .second, .val (.ref r1), .val (.int v11)]) rfl ?_
        refine o_lloadN G d2_13 (pc' := 14) rfl rfl ?_
        refine o_ldc2 G d2_14 (pc' := 17) rfl (hw _ (List.mem_of_getElem? (i := 11) rfl)) ?_
        obtain ⟨v12, e12⟩ : ∃ z, x0 ||| (128 : Int64) = z := ⟨_, rfl⟩
        refine o_lor G d2_17 (pc' := 18) rfl e12 ?_
        obtain ⟨v13, e13⟩ : ∃ z, v12.toInt32 = z := ⟨_, rfl⟩
        refine o_l2i G d2_18 (pc' := 19) rfl e13 ?_
        obtain ⟨v14, e14⟩ : ∃ z, v13.toInt8.toInt32 = z := ⟨_, rfl⟩
        refine o_i2b G d2_19 (pc' := 20) rfl e14 ?_
        have hb15 := o_idx (j := x3) (n := 13) h3 (by omega)
        refine o_bastore G A hg1 (i := x3.toNatClampNeg) hb15.1 hb15.2 d2_20 (pc' := 21) rfl ?_
        intro T16 h16 G16 W16 A16
        replace K := K.wr W16 (Or.inl (List.mem_of_getElem? (i := 0) rfl))
        replace A := A16
        refine o_lloadN G16 d2_21 (pc' := 22) rfl rfl ?_
        refine o_bipush G16 d2_22 (pc' := 24) rfl (v := (7 : Int32)) rfl ?_
        obtain ⟨v17, e17⟩ : ∃ z, (x0.toUInt64 >>> ((7 : Int32) &&& 0x3f).toInt64.toUInt64).toInt64 = z := ⟨_, rfl⟩
        refine o_lushr G16 d2_24 (pc' := 25) rfl e17 ?_
        refine o_lstoreN G16 d2_25 (pc' := 26) rfl (l' := #[.val (.long v17), .second, .val (.ref r1), .val (.int v11)]) rfl ?_
        refine o_goto G16 d2_26 (by decide) (pc' := 0) rfl ?_
        have hi' : v11.toInt = x3.toInt + 1 := by
          have h1' : (1 : Int32).toInt = 1 := rfl
          rw [← e11, o_i32 (by omega) (by omega), h1']
        have hl' : v17.toInt = x0.toInt / 128 := by
          rw [← e17]; exact own_shr7 _ h1
        have h2' : x0.toInt / 128 < 128 ^ (k + 1) := Int.ediv_lt_of_lt_mul (by decide) (by rw [← Int.pow_succ]; exact h2)
        refine ih T16 h16 v17 v11 (own_up g x3.toNatClampNeg (nar .byte (x0 ||| 128).toInt32.toInt8.toInt32)) (by omega) (by omega) (by omega) (by omega) ?_ (A.congr (fun j _ => ?_)) K G16
        · subst e11 e12 e13 e14 e17
          rw [hQ, own_wr, if_neg hc4]
        · subst e11 e12 e13 e14 e17
          simp only [o_set, own_up]
          split <;> rfl
  exact loop 8 _ _ q0 p2 f h1 h2 h3 h4 rfl A (Keep.refl _ _) G0
theorem own_ush (x : Int64) (q : Int32) (k : Nat) (hk : q.toBitVec.toNat % 64 = k) (h : 0 ≤ x.toInt) : ((x.toUInt64 >>> (q &&& 0x3f).toInt64.toUInt64).toInt64).toInt = x.toInt / (2 ^ k : Nat) := by
  have a1 := x.toInt_lt
  rcases Nat.eq_zero_or_pos k with z | z
  · subst z
    have e : (q &&& 0x3f) = 0 := by
      apply Int32.toBitVec_inj.mp
      apply BitVec.eq_of_toNat_eq
      rw [Int32.toBitVec_and, BitVec.toNat_and]
      have : (0x3f : Int32).toBitVec.toNat = 2 ^ 6 - 1 := rfl
      rw [this, Nat.and_two_pow_sub_one_eq_mod]
      exact hk
    rw [e]
    show x.toInt = _
    simp
  · rw [c_lushr x q k hk z, Int.emod_eq_of_lt h (by omega)]
theorem own_maskL (x : Int64) : 0 ≤ (x &&& (9223372036854775807 : Int64)).toInt := by
  rw [c_maskL x 9223372036854775807 63 (by decide) (by decide)]
  omega
theorem own_nn (x : Int64) (q : Int32) : 0 ≤ (((x &&& (9223372036854775807 : Int64)).toUInt64 >>> (q &&& 0x3f).toInt64.toUInt64).toInt64).toInt := by
  rw [own_ush _ q _ rfl (own_maskL x)]
  exact Int.ediv_nonneg (own_maskL x) (Int.natCast_nonneg _)
theorem own_bytefix (x : Int32) : nar .byte x.toInt8.toInt32 = x.toInt8.toInt32 := by
  show x.toInt8.toInt32.toInt8.toInt32 = x.toInt8.toInt32
  rw [Int8.toInt8_toInt32]
theorem own_ne1 {x : Int32} (h : x = 1) : ¬ x = 0 := by subst h; decide
theorem own_b8 : ∀ b : BitVec 8, (b ||| 128#8).toInt = (b.toNat % 128 : Nat) - 128 := by decide +kernel
theorem own_c8 : ∀ b : BitVec 8, b.toNat < 128 → b.toInt = (b.toNat : Int) := by decide +kernel
theorem own_low (x : Int64) : (x.toBitVec.toNat : Int) % 256 = x.toInt % 256 := by
  show _ = x.toBitVec.toInt % 256
  rw [BitVec.toInt_eq_toNat_cond]
  split <;> omega
theorem own_by (x : Int64) : ((x ||| 128).toInt32.toInt8.toInt32).toInt = x.toInt % 128 - 128 := by
  rw [Int8.toInt_toInt32]
  have e : (x ||| 128).toInt32.toInt8.toBitVec = (x.toBitVec.setWidth 8) ||| 128#8 := by
    rw [Int32.toBitVec_toInt8, Int64.toBitVec_toInt32, BitVec.signExtend_eq_setWidth_of_le _ (by decide), BitVec.signExtend_eq_setWidth_of_le _ (by decide), BitVec.setWidth_setWidth_of_le _ (by decide), Int64.toBitVec_or, BitVec.setWidth_or]
    rfl
  show (x ||| 128).toInt32.toInt8.toBitVec.toInt = _
  rw [e, own_b8, BitVec.toNat_setWidth]
  have := own_low x
  omega
theorem own_bz (x : Int64) (h0 : 0 ≤ x.toInt) (h1 : x.toInt < 128) : (x.toInt32.toInt8.toInt32).toInt = x.toInt := by
  rw [Int8.toInt_toInt32]
  have e : x.toInt32.toInt8.toBitVec = (x.toBitVec.setWidth 8) := by
    rw [Int32.toBitVec_toInt8, Int64.toBitVec_toInt32, BitVec.signExtend_eq_setWidth_of_le _ (by decide), BitVec.signExtend_eq_setWidth_of_le _ (by decide), BitVec.setWidth_setWidth_of_le _ (by decide)]
  show x.toInt32.toInt8.toBitVec.toInt = _
  have := own_low x
  have hn : (x.toBitVec.setWidth 8).toNat = x.toBitVec.toNat % 256 := by rw [BitVec.toNat_setWidth]
  rw [e, own_c8 _ (by omega)]
  omega
def own_N (V : Int) (n : Nat) : Prop := 1 ≤ n ∧ V < 128 ^ n ∧ (n = 1 ∨ 128 ^ (n - 1) ≤ V)
theorem own_len (v : Int64) (h : 0 ≤ v.toInt) : ∃ n : Nat, n ≤ 9 ∧ (f_1 v).toInt = n ∧ own_N v.toInt n := by
  have a1 := v.toInt_lt
  have k1 : (128 : Int64).toInt = 128 := rfl
  have k2 : (16384 : Int64).toInt = 16384 := rfl
  have k3 : (2097152 : Int64).toInt = 2097152 := rfl
  have k4 : (268435456 : Int64).toInt = 268435456 := rfl
  have k5 : (34359738368 : Int64).toInt = 34359738368 := rfl
  have k6 : (4398046511104 : Int64).toInt = 4398046511104 := rfl
  have k7 : (562949953421312 : Int64).toInt = 562949953421312 := rfl
  have k8 : (72057594037927936 : Int64).toInt = 72057594037927936 := rfl
  simp only [f_1, Int64.lt_iff_toInt_lt, k1, k2, k3, k4, k5, k6, k7, k8]
  split
  · exact ⟨1, by decide, rfl, by decide, by omega, Or.inl rfl⟩
  split
  · exact ⟨2, by decide, rfl, by decide, by omega, Or.inr (by omega)⟩
  split
  · exact ⟨3, by decide, rfl, by decide, by omega, Or.inr (by omega)⟩
  split
  · exact ⟨4, by decide, rfl, by decide, by omega, Or.inr (by omega)⟩
  split
  · exact ⟨5, by decide, rfl, by decide, by omega, Or.inr (by omega)⟩
  split
  · exact ⟨6, by decide, rfl, by decide, by omega, Or.inr (by omega)⟩
  split
  · exact ⟨7, by decide, rfl, by decide, by omega, Or.inr (by omega)⟩
  split
  · exact ⟨8, by decide, rfl, by decide, by omega, Or.inr (by omega)⟩
  · exact ⟨9, by decide, rfl, by decide, by omega, Or.inr (by omega)⟩
theorem own_nar (x : Int32) : (nar .byte x.toInt8.toInt32) = x.toInt8.toInt32 := own_bytefix x
theorem own_clampadd (i : Int32) (h0 : 0 ≤ i.toInt) (h1 : i.toInt < 1000) : (i + 1).toInt = i.toInt + 1 ∧ (i + 1).toNatClampNeg = i.toNatClampNeg + 1 := by
  have c1 : (1 : Int32).toInt = 1 := rfl
  have e : (i + 1).toInt = i.toInt + 1 := by rw [o_i32 (by omega) (by omega), c1]
  refine ⟨e, ?_⟩
  simp only [Int32.toNatClampNeg, e]; omega
theorem own_spec : ∀ (n k : Nat) (v : Int64) (i : Int32) (g : Nat → Int32), 0 ≤ v.toInt → own_N v.toInt n → n ≤ k → 0 ≤ i.toInt → i.toInt + n < 1000 →
    (own_wr k v i g).1.toInt = i.toInt + n ∧ ∀ j, ((own_wr k v i g).2 j).toInt = if i.toNatClampNeg ≤ j ∧ j < i.toNatClampNeg + n then (if j + 1 < i.toNatClampNeg + n then (v.toInt / 128 ^ (j - i.toNatClampNeg)) % 128 - 128 else v.toInt / 128 ^ (j - i.toNatClampNeg)) else (g j).toInt := by
  intro n
  have k128 : (128 : Int64).toInt = 128 := rfl
  induction n with
  | zero => intro k v i g _ hn; exact absurd hn.1 (by decide)
  | succ n ih =>
    intro k v i g h0 hn hk hi hi2
    obtain ⟨k, rfl⟩ : ∃ k', k = k' + 1 := ⟨k - 1, by omega⟩
    obtain ⟨-, hN1, hN2⟩ := hn
    obtain ⟨e1, e2⟩ := own_clampadd i hi (by omega)
    rw [own_wr]
    by_cases q : v < 128
    · have q' := Int64.lt_iff_toInt_lt.mp q
      rw [k128] at q'
      rw [if_pos q]
      have hn0 : n = 0 := by
        rcases hN2 with z | z
        · omega
        · rcases Nat.eq_zero_or_pos n with y | y
          · exact y
          · have hp : (0 : Int) < 128 ^ (n - 1) := Int.pow_pos (by decide)
            have : (128 : Int) ^ n = 128 ^ (n - 1) * 128 := by rw [← Int.pow_succ]; congr 1; omega
            simp at z
            omega
      subst hn0
      refine ⟨e1, fun j => ?_⟩
      simp only [own_up]
      by_cases r : j = i.toNatClampNeg
      · subst r
        rw [if_pos rfl, if_pos (by omega), if_neg (by omega), own_nar, own_bz v h0 q']
        simp
      · rw [if_neg r, if_neg (by omega)]
    · have q' : ¬ v.toInt < 128 := fun z => q (Int64.lt_iff_toInt_lt.mpr (by rw [k128]; exact z))
      rw [if_neg q]
      have hn1 : 1 ≤ n := by
        rcases Nat.eq_zero_or_pos n with y | y
        · subst y; simp at hN1; omega
        · exact y
      have s7 := own_shr7 v h0
      have N' : own_N ((v.toUInt64 >>> ((7 : Int32) &&& 0x3f).toInt64.toUInt64).toInt64).toInt n := by
        rw [s7]
        refine ⟨hn1, Int.ediv_lt_of_lt_mul (by decide) (by rw [← Int.pow_succ]; exact hN1), ?_⟩
        rcases Nat.eq_or_lt_of_le hn1 with y | y
        · exact Or.inl y.symm
        · refine Or.inr ?_
          rcases hN2 with z | z
          · omega
          · have hz : (128 : Int) ^ n = 128 ^ (n - 1) * 128 := by rw [← Int.pow_succ]; congr 1; omega
            simp only [Nat.add_sub_cancel] at z
            rw [hz] at z
            exact (Int.le_ediv_iff_mul_le (by decide)).mpr z
      obtain ⟨f1, f2⟩ := ih k _ (i + 1) (own_up g i.toNatClampNeg (nar .byte (v ||| 128).toInt32.toInt8.toInt32)) (by rw [s7]; omega) N' (by omega) (by omega) (by omega)
      refine ⟨by rw [f1, e1]; omega, fun j => ?_⟩
      rw [f2 j, e2]
      by_cases r : j = i.toNatClampNeg
      · subst r
        rw [if_neg (by omega), if_pos (by omega), if_pos (by omega)]
        simp only [own_up, if_true]
        rw [own_nar, own_by]; simp
      · by_cases t : i.toNatClampNeg + 1 ≤ j ∧ j < i.toNatClampNeg + 1 + n
        · have hdiv : v.toInt / 128 / 128 ^ (j - (i.toNatClampNeg + 1)) = v.toInt / 128 ^ (j - i.toNatClampNeg) := by
            rw [Int.ediv_ediv_of_nonneg (by decide), Int.mul_comm, ← Int.pow_succ]
            congr 2; omega
          rw [if_pos t, if_pos (show i.toNatClampNeg ≤ j ∧ j < i.toNatClampNeg + (n + 1) by omega), s7, hdiv]
          by_cases y : j + 1 < i.toNatClampNeg + 1 + n
          · rw [if_pos y, if_pos (by omega)]
          · rw [if_neg y, if_neg (by omega)]
        · rw [if_neg t, if_neg (by omega)]
          simp only [own_up, if_neg r]
theorem own_main (v : Int64) (off s : Int32) (hv : 0 ≤ v.toInt) (hoff : 0 ≤ off.toInt ∧ off.toInt ≤ 3) (hs : nar .byte s = s) :
    (own_wr 9 v off (fun _ => nar .byte s)).1 = off + f_1 v ∧ ∀ (P : Nat) (p : Int32), p.toInt = (P : Int) → P < 13 → f_3 (own_wr 9 v off (fun _ => nar .byte s)).2 P p v off (f_1 v) s = 1 := by
  obtain ⟨n, hn9, hn, hN⟩ := own_len v hv
  obtain ⟨g1, g2⟩ := own_spec n 9 v off (fun _ => nar .byte s) hv hN hn9 hoff.1 (by omega)
  have hoffn : (off.toNatClampNeg : Int) = off.toInt := by simp only [Int32.toNatClampNeg]; omega
  have n1 := hN.1
  constructor
  · apply Int32.toInt_inj.mp
    rw [g1, o_i32 (by omega) (by omega), hn]
  · intro P p hp hP
    have hi : (p - off).toInt = P - off.toInt := by rw [o_s32 (by omega) (by omega), hp]
    have z0 : (0 : Int32).toInt = 0 := rfl
    have z1 : (1 : Int32).toInt = 1 := rfl
    have z7 : (7 : Int32).toInt = 7 := rfl
    have hn1 : (f_1 v - 1).toInt = n - 1 := by rw [o_s32 (by omega) (by omega), hn, z1]
    have gP := g2 P
    generalize (own_wr 9 v off (fun _ => nar .byte s)).2 = g at *
    have out : ¬ (off.toNatClampNeg ≤ P ∧ P < off.toNatClampNeg + n) → g P = s := fun q => by
      rw [if_neg q] at gP
      rw [← hs]; exact Int32.toInt_inj.mp gP
    rw [f_3]
    by_cases q : p - off < 0
    · have q' := Int32.lt_iff_toInt_lt.mp q
      rw [if_pos q, if_pos (out (by omega))]
    · have q' : ¬ (p - off).toInt < 0 := fun y => q (Int32.lt_iff_toInt_lt.mpr (by rw [z0]; exact y))
      rw [if_neg q]
      by_cases r : p - off < f_1 v
      · have r' := Int32.lt_iff_toInt_lt.mp r
        rw [if_pos r]
        rw [if_pos (by omega)] at gP
        have h7 : ((7 : Int32) * (p - off)).toInt = 7 * (P - off.toInt) := by
          rw [Int32.toInt_mul, z7, hi, Int.bmod_def]
          split <;> omega
        have hk : ((7 : Int32) * (p - off)).toBitVec.toNat % 64 = 7 * (P - off.toNatClampNeg) := by
          have e : ((7 : Int32) * (p - off)).toInt = ((7 : Int32) * (p - off)).toBitVec.toInt := rfl
          rw [e, BitVec.toInt_eq_toNat_cond] at h7
          split at h7 <;> omega
        have sh := own_ush v ((7 : Int32) * (p - off)) _ hk hv
        have hpow : ((2 ^ (7 * (P - off.toNatClampNeg)) : Nat) : Int) = 128 ^ (P - off.toNatClampNeg) := by
          rw [Nat.pow_mul]; norm_cast
        rw [hpow] at sh
        have m7 := c_maskL (((v.toUInt64 >>> (((7 : Int32) * (p - off)) &&& 0x3f).toInt64.toUInt64).toInt64)) 127 7 (by decide) (by decide)
        rw [sh] at m7
        generalize ((v.toUInt64 >>> (((7 : Int32) * (p - off)) &&& 0x3f).toInt64.toUInt64).toInt64) &&& 127 = gr at *
        have m7' : gr.toInt = v.toInt / 128 ^ (P - off.toNatClampNeg) % 128 := m7
        by_cases t : p - off < f_1 v - 1
        · have t' := Int32.lt_iff_toInt_lt.mp t
          rw [if_pos (by omega)] at gP
          rw [if_pos t, if_pos]
          apply Int32.toInt_inj.mp
          rw [gP, own_by, m7']
          omega
        · have t' : ¬ (p - off).toInt < (f_1 v - 1).toInt := fun y => t (Int32.lt_iff_toInt_lt.mpr y)
          rw [if_neg (by omega)] at gP
          have hlast : v.toInt / 128 ^ (P - off.toNatClampNeg) < 128 := by
            apply Int.ediv_lt_of_lt_mul (Int.pow_pos (by decide))
            have : (128 : Int) * 128 ^ (P - off.toNatClampNeg) = 128 ^ n := by
              rw [Int.mul_comm, ← Int.pow_succ]; congr 1; omega
            rw [this]; exact hN.2.1
          have hnn : 0 ≤ v.toInt / 128 ^ (P - off.toNatClampNeg) := Int.ediv_nonneg hv (Int.le_of_lt (Int.pow_pos (by decide)))
          rw [if_neg t, if_pos]
          apply Int32.toInt_inj.mp
          rw [gP, own_bz _ (by rw [m7']; omega) (by rw [m7']; omega), m7']
          omega
      · have r' : ¬ (p - off).toInt < (f_1 v).toInt := fun y => r (Int32.lt_iff_toInt_lt.mpr y)
        rw [if_neg r, if_pos (out (by omega))]
theorem pn_0 : plainName "com/example/keyfold/keyfold/VarintWritePinLaw" = true := by first | (simp [plainName, overriddenIn]; done) | decide +kernel
theorem ef_0 (m : MethodId) (q0 : Int64) (p1 : Int32) (p2 : Int32) (p3 : Int32) : entryFrame m #[(.long q0), (.int p1), (.int p2), (.int p3)] maxLocals = mkF m 0 #[.val (.long q0), .second, .val (.int p1), .val (.int p2), .val (.int p3), .unset, .unset, .unset, .unset, .unset, .unset, .unset] [] := by first | rfl | (simp [entryFrame, mkF, argsToLocals, Value.category, maxLocals]; done)
set_option maxRecDepth 65536 in
set_option maxHeartbeats 40000000 in
theorem rm0 {l : Launch} {Z : State} {a0 : Array Value} (hw : ∀ d ∈ tables_1, d.before a0 Z = true) (q0 : Int64) (p1 : Int32) (p2 : Int32) (p3 : Int32) (h0 : Heap) (n0 : Nat) (hz : n0 ≤ h0.size) :
    OMet l Z x code maxLocals ret room_1 #[(.long q0), (.int p1), (.int p2), (.int p3)] h0 n0 16 128 (fun v _ => v = some (.int 1)) := by
  refine o_body (plainFor_of_name pn_0) hz (fun m => ef_0 m q0 p1 p2 p3) ?_
  intro p e s m below meth c s₁ G0
  refine o_lloadN G0 at_0 (pc' := 1) rfl rfl ?_
  refine o_ldc2 G0 at_1 (pc' := 4) rfl (hw _ (List.mem_of_getElem? (i := 0) rfl)) ?_
  obtain ⟨v1, e1⟩ : ∃ z, q0 &&& (9223372036854775807 : Int64) = z := ⟨_, rfl⟩
  refine o_land G0 at_4 (pc' := 5) rfl e1 ?_
  refine o_iloadN G0 at_5 (pc' := 6) rfl rfl ?_
  refine o_bipush G0 at_6 (pc' := 8) rfl (v := (63 : Int32)) rfl ?_
  obtain ⟨v2, e2⟩ : ∃ z, p1 &&& (63 : Int32) = z := ⟨_, rfl⟩
  refine o_iand G0 at_8 (pc' := 9) rfl e2 ?_
  obtain ⟨v3, e3⟩ : ∃ z, (v1.toUInt64 >>> (v2 &&& 0x3f).toInt64.toUInt64).toInt64 = z := ⟨_, rfl⟩
  refine o_lushr G0 at_9 (pc' := 10) rfl e3 ?_
  refine o_lstore G0 at_10 (pc' := 12) rfl (l' := #[.val (.long q0), .second, .val (.int p1), .val (.int p2), .val (.int p3), .val (.long v3), .second, .unset, .unset, .unset, .unset, .unset]) rfl ?_
  refine o_iloadN G0 at_12 (pc' := 13) rfl rfl ?_
  refine o_iconst G0 at_13 (pc' := 14) rfl (v := (3 : Int32)) rfl ?_
  obtain ⟨v4, e4⟩ : ∃ z, p2 &&& (3 : Int32) = z := ⟨_, rfl⟩
  refine o_iand G0 at_14 (pc' := 15) rfl e4 ?_
  refine o_istore G0 at_15 (pc' := 17) rfl (l' := #[.val (.long q0), .second, .val (.int p1), .val (.int p2), .val (.int p3), .val (.long v3), .second, .val (.int v4), .unset, .unset, .unset, .unset]) rfl ?_
  refine o_iload G0 at_17 (pc' := 19) rfl rfl ?_
  obtain ⟨v5, e5⟩ : ∃ z, p3.toInt8.toInt32 = z := ⟨_, rfl⟩
  refine o_i2b G0 at_19 (pc' := 20) rfl e5 ?_
  refine o_istore G0 at_20 (pc' := 22) rfl (l' := #[.val (.long q0), .second, .val (.int p1), .val (.int p2), .val (.int p3), .val (.long v3), .second, .val (.int v4), .val (.int v5), .unset, .unset, .unset]) rfl ?_
  refine o_bipush G0 at_22 (pc' := 24) rfl (v := (13 : Int32)) rfl ?_
  refine o_newarray G0 (N := 13) (cap := 13) (hw _ (List.mem_of_getElem? (i := 1) rfl)) rfl (by decide) (by decide) at_24 (pc' := 26) rfl (by decide) (by decide) ?_
  intro T6 h6 b6 G6 g6 g_b6 E6 A_b6
  replace A_b6 : OArr Z h6 b6 .byte 13 (fun _ => (.int (0 : Int32))) := A_b6
  refine o_dup G6 at_26 (pc' := 27) rfl rfl ?_
  refine o_iconst G6 at_27 (pc' := 28) rfl (v := (0 : Int32)) rfl ?_
  refine o_iload G6 at_28 (pc' := 30) rfl rfl ?_
  refine o_bastore G6 A_b6 g_b6 (i := 0) rfl (by decide) at_30 (pc' := 31) rfl ?_
  intro T7 h7 G7 W7 A7
  replace A_b6 := A7
  refine o_dup G7 at_31 (pc' := 32) rfl rfl ?_
  refine o_iconst G7 at_32 (pc' := 33) rfl (v := (1 : Int32)) rfl ?_
  refine o_iload G7 at_33 (pc' := 35) rfl rfl ?_
  refine o_bastore G7 A_b6 g_b6 (i := 1) rfl (by decide) at_35 (pc' := 36) rfl ?_
  intro T8 h8 G8 W8 A8
  replace A_b6 := A8
  refine o_dup G8 at_36 (pc' := 37) rfl rfl ?_
  refine o_iconst G8 at_37 (pc' := 38) rfl (v := (2 : Int32)) rfl ?_
  refine o_iload G8 at_38 (pc' := 40) rfl rfl ?_
  refine o_bastore G8 A_b6 g_b6 (i := 2) rfl (by decide) at_40 (pc' := 41) rfl ?_
  intro T9 h9 G9 W9 A9
  replace A_b6 := A9
  refine o_dup G9 at_41 (pc' := 42) rfl rfl ?_
  refine o_iconst G9 at_42 (pc' := 43) rfl (v := (3 : Int32)) rfl ?_
  refine o_iload G9 at_43 (pc' := 45) rfl rfl ?_
  refine o_bastore G9 A_b6 g_b6 (i := 3) rfl (by decide) at_45 (pc' := 46) rfl ?_
  intro T10 h10 G10 W10 A10
  replace A_b6 := A10
  refine o_dup G10 at_46 (pc' := 47) rfl rfl ?_
  refine o_iconst G10 at_47 (pc' := 48) rfl (v := (4 : Int32)) rfl ?_
  refine o_iload G10 at_48 (pc' := 50) rfl rfl ?_
  refine o_bastore G10 A_b6 g_b6 (i := 4) rfl (by decide) at_50 (pc' := 51) rfl ?_
  intro T11 h11 G11 W11 A11
  replace A_b6 := A11
  refine o_dup G11 at_51 (pc' := 52) rfl rfl ?_
  refine o_iconst G11 at_52 (pc' := 53) rfl (v := (5 : Int32)) rfl ?_
  refine o_iload G11 at_53 (pc' := 55) rfl rfl ?_
  refine o_bastore G11 A_b6 g_b6 (i := 5) rfl (by decide) at_55 (pc' := 56) rfl ?_
  intro T12 h12 G12 W12 A12
  replace A_b6 := A12
  refine o_dup G12 at_56 (pc' := 57) rfl rfl ?_
  refine o_bipush G12 at_57 (pc' := 59) rfl (v := (6 : Int32)) rfl ?_
  refine o_iload G12 at_59 (pc' := 61) rfl rfl ?_
  refine o_bastore G12 A_b6 g_b6 (i := 6) rfl (by decide) at_61 (pc' := 62) rfl ?_
  intro T13 h13 G13 W13 A13
  replace A_b6 := A13
  refine o_dup G13 at_62 (pc' := 63) rfl rfl ?_
  refine o_bipush G13 at_63 (pc' := 65) rfl (v := (7 : Int32)) rfl ?_
  refine o_iload G13 at_65 (pc' := 67) rfl rfl ?_
  refine o_bastore G13 A_b6 g_b6 (i := 7) rfl (by decide) at_67 (pc' := 68) rfl ?_
  intro T14 h14 G14 W14 A14
  replace A_b6 := A14
  refine o_dup G14 at_68 (pc' := 69) rfl rfl ?_
  refine o_bipush G14 at_69 (pc' := 71) rfl (v := (8 : Int32)) rfl ?_
  refine o_iload G14 at_71 (pc' := 73) rfl rfl ?_
  refine o_bastore G14 A_b6 g_b6 (i := 8) rfl (by decide) at_73 (pc' := 74) rfl ?_
  intro T15 h15 G15 W15 A15
  replace A_b6 := A15
  refine o_dup G15 at_74 (pc' := 75) rfl rfl ?_
  refine o_bipush G15 at_75 (pc' := 77) rfl (v := (9 : Int32)) rfl ?_
  refine o_iload G15 at_77 (pc' := 79) rfl rfl ?_
  refine o_bastore G15 A_b6 g_b6 (i := 9) rfl (by decide) at_79 (pc' := 80) rfl ?_
  intro T16 h16 G16 W16 A16
  replace A_b6 := A16
  refine o_dup G16 at_80 (pc' := 81) rfl rfl ?_
  refine o_bipush G16 at_81 (pc' := 83) rfl (v := (10 : Int32)) rfl ?_
  refine o_iload G16 at_83 (pc' := 85) rfl rfl ?_
  refine o_bastore G16 A_b6 g_b6 (i := 10) rfl (by decide) at_85 (pc' := 86) rfl ?_
  intro T17 h17 G17 W17 A17
  replace A_b6 := A17
  refine o_dup G17 at_86 (pc' := 87) rfl rfl ?_
  refine o_bipush G17 at_87 (pc' := 89) rfl (v := (11 : Int32)) rfl ?_
  refine o_iload G17 at_89 (pc' := 91) rfl rfl ?_
  refine o_bastore G17 A_b6 g_b6 (i := 11) rfl (by decide) at_91 (pc' := 92) rfl ?_
  intro T18 h18 G18 W18 A18
  replace A_b6 := A18
  refine o_dup G18 at_92 (pc' := 93) rfl rfl ?_
  refine o_bipush G18 at_93 (pc' := 95) rfl (v := (12 : Int32)) rfl ?_
  refine o_iload G18 at_95 (pc' := 97) rfl rfl ?_
  refine o_bastore G18 A_b6 g_b6 (i := 12) rfl (by decide) at_97 (pc' := 98) rfl ?_
  intro T19 h19 G19 W19 A19
  replace A_b6 := A19
  refine o_astore G19 at_98 (pc' := 100) rfl rfl (l' := #[.val (.long q0), .second, .val (.int p1), .val (.int p2), .val (.int p3), .val (.long v3), .second, .val (.int v4), .val (.int v5), .val (.ref b6), .unset, .unset]) rfl ?_
  refine o_lload G19 at_100 (pc' := 102) rfl rfl ?_
  obtain ⟨v20, e20⟩ : ∃ z, f_1 v3 = z := ⟨_, rfl⟩
  refine o_callP G19 (z := (⟨"com/example/keyfold/keyfold/VarintWritePinLaw", "length", "(J)I"⟩ : MethodName)) (r := (.int v20)) (argsL := [(.long v3)]) (rest := []) (W := 0) (hw _ (List.mem_of_getElem? (i := 2) rfl)) (hw _ (List.mem_of_getElem? (i := 3) rfl)) at_102 (by decide) (hw _ (List.mem_of_getElem? (i := 4) rfl)) (hw _ (List.mem_of_getElem? (i := 5) rfl)) (by rw [← e20]; exact rm1 hw v3 h19 n0 G19.sz) (by decide) (by decide) rfl (lenOf pd_0 rfl) rfl (Nat.le_of_eq rfl) (pc' := 105) rfl (by decide) (by decide) ?_
  intro T21 G21
  refine o_istore G21 at_105 (pc' := 107) rfl (l' := #[.val (.long q0), .second, .val (.int p1), .val (.int p2), .val (.int p3), .val (.long v3), .second, .val (.int v4), .val (.int v5), .val (.ref b6), .val (.int v20), .unset]) rfl ?_
  refine o_lload G21 at_107 (pc' := 109) rfl rfl ?_
  refine o_aload G21 at_109 (pc' := 111) rfl rfl rfl ?_
  refine o_iload G21 at_111 (pc' := 113) rfl rfl ?_
  have hoff : 0 ≤ v4.toInt ∧ v4.toInt ≤ 3 := by
    rw [← e4]; exact c_and _ 3 (by decide)
  have hv : 0 ≤ v3.toInt := by
    rw [← e3, ← e1]; exact own_nn _ _
  have hv2 := v3.toInt_lt
  have A_f : OArr Z h19 b6 .byte 13 (fun j => .int ((fun _ => nar .byte v5) j)) := by
    refine A_b6.congr (fun j hj => ?_)
    match j, hj with
    | 0, _ => rfl
    | 1, _ => rfl
    | 2, _ => rfl
    | 3, _ => rfl
    | 4, _ => rfl
    | 5, _ => rfl
    | 6, _ => rfl
    | 7, _ => rfl
    | 8, _ => rfl
    | 9, _ => rfl
    | 10, _ => rfl
    | 11, _ => rfl
    | 12, _ => rfl
    | j + 13, hj => omega
  refine o_callS G21 (z := (⟨"com/example/keyfold/keyfold/Varint", "write", "(J[BI)I"⟩ : MethodName)) (argsL := [(.long v3), (.ref b6), (.int v4)]) (rest := []) (W := 0) (hw _ (List.mem_of_getElem? (i := 7) rfl)) (hw _ (List.mem_of_getElem? (i := 8) rfl)) at_113 (by decide) (hw _ (List.mem_of_getElem? (i := 9) rfl)) (hw _ (List.mem_of_getElem? (i := 10) rfl)) (rm2 hw v3 b6 v4 h19 n0 G21.sz g_b6 (fun _ => nar .byte v5) A_f hv (by omega) hoff.1 (by omega)) (by decide) (by decide) rfl (lenOf pd_1 rfl) rfl (Nat.le_of_eq rfl) (pc' := 116) rfl (by decide) (by decide) ?_
  rintro _ T22 h22 G22 ⟨rfl, K22, A22⟩
  have hm := own_main v3 v4 v5 hv hoff (by rw [← e5]; exact own_bytefix _)
  obtain ⟨v23, e23⟩ : ∃ z, (own_wr 9 v3 v4 (fun _ => nar .byte v5)).1 = z := ⟨_, rfl⟩
  rw [e23]
  refine o_istore G22 at_116 (pc' := 118) rfl (l' := #[.val (.long q0), .second, .val (.int p1), .val (.int p2), .val (.int p3), .val (.long v3), .second, .val (.int v4), .val (.int v5), .val (.ref b6), .val (.int v20), .val (.int v23)]) rfl ?_
  refine o_iload G22 at_118 (pc' := 120) rfl rfl ?_
  refine o_iload G22 at_120 (pc' := 122) rfl rfl ?_
  refine o_iload G22 at_122 (pc' := 124) rfl rfl ?_
  obtain ⟨v24, e24⟩ : ∃ z, v4 + v20 = z := ⟨_, rfl⟩
  refine o_iadd G22 at_124 (pc' := 125) rfl e24 ?_
  refine o_icmp_ne G22 at_125 (by decide) (pcT := 360) (by decide) (pc' := 128) rfl (fun q => absurd (by rw [← e23, ← e24, ← e20]; exact hm.1) q) (fun _ => ?_)
  refine o_aload G22 at_128 (pc' := 130) rfl rfl rfl ?_
  refine o_iconst G22 at_130 (pc' := 131) rfl (v := (0 : Int32)) rfl ?_
  refine o_lload G22 at_131 (pc' := 133) rfl rfl ?_
  refine o_iload G22 at_133 (pc' := 135) rfl rfl ?_
  refine o_iload G22 at_135 (pc' := 137) rfl rfl ?_
  refine o_iload G22 at_137 (pc' := 139) rfl rfl ?_
  obtain ⟨v25, e25⟩ : ∃ z, f_3 (own_wr 9 v3 v4 (fun _ => nar .byte v5)).2 0 (0 : Int32) v3 v4 v20 v5 = z := ⟨_, rfl⟩
  refine o_callP G22 (z := (⟨"com/example/keyfold/keyfold/VarintWritePinLaw", "at", "([BIJIIB)Z"⟩ : MethodName)) (r := (.int v25)) (argsL := [(.ref b6), (.int (0 : Int32)), (.long v3), (.int v4), (.int v20), (.int v5)]) (rest := []) (W := 0) (hw _ (List.mem_of_getElem? (i := 12) rfl)) (hw _ (List.mem_of_getElem? (i := 13) rfl)) at_139 (by decide) (hw _ (List.mem_of_getElem? (i := 4) rfl)) (hw _ (List.mem_of_getElem? (i := 14) rfl)) (by rw [← e25]; exact rm3 hw b6 (0 : Int32) v3 v4 v20 v5 h22 n0 G22.sz (own_wr 9 v3 v4 (fun _ => nar .byte v5)).2 A22 0 rfl (by decide)) (by decide) (by decide) rfl (lenOf pd_2 rfl) rfl (Nat.le_of_eq rfl) (pc' := 142) rfl (by decide) (by decide) ?_
  intro T26 G26
  refine o_if_eq G26 at_142 (by decide) (pcT := 360) (by decide) (pc' := 145) rfl (fun q => absurd q (by rw [← e25, ← e20]; exact own_ne1 (hm.2 0 _ rfl (by decide)))) (fun _ => ?_)
  refine o_aload G26 at_145 (pc' := 147) rfl rfl rfl ?_
  refine o_iconst G26 at_147 (pc' := 148) rfl (v := (1 : Int32)) rfl ?_
  refine o_lload G26 at_148 (pc' := 150) rfl rfl ?_
  refine o_iload G26 at_150 (pc' := 152) rfl rfl ?_
  refine o_iload G26 at_152 (pc' := 154) rfl rfl ?_
  refine o_iload G26 at_154 (pc' := 156) rfl rfl ?_
  obtain ⟨v27, e27⟩ : ∃ z, f_3 (own_wr 9 v3 v4 (fun _ => nar .byte v5)).2 1 (1 : Int32) v3 v4 v20 v5 = z := ⟨_, rfl⟩
  refine o_callP G26 (z := (⟨"com/example/keyfold/keyfold/VarintWritePinLaw", "at", "([BIJIIB)Z"⟩ : MethodName)) (r := (.int v27)) (argsL := [(.ref b6), (.int (1 : Int32)), (.long v3), (.int v4), (.int v20), (.int v5)]) (rest := []) (W := 0) (hw _ (List.mem_of_getElem? (i := 12) rfl)) (hw _ (List.mem_of_getElem? (i := 13) rfl)) at_156 (by decide) (hw _ (List.mem_of_getElem? (i := 4) rfl)) (hw _ (List.mem_of_getElem? (i := 14) rfl)) (by rw [← e27]; exact rm3 hw b6 (1 : Int32) v3 v4 v20 v5 h22 n0 G26.sz (own_wr 9 v3 v4 (fun _ => nar .byte v5)).2 A22 1 rfl (by decide)) (by decide) (by decide) rfl (lenOf pd_2 rfl) rfl (Nat.le_of_eq rfl) (pc' := 159) rfl (by decide) (by decide) ?_
  intro T28 G28
  refine o_if_eq G28 at_159 (by decide) (pcT := 360) (by decide) (pc' := 162) rfl (fun q => absurd q (by rw [← e27, ← e20]; exact own_ne1 (hm.2 1 _ rfl (by decide)))) (fun _ => ?_)
  refine o_aload G28 at_162 (pc' := 164) rfl rfl rfl ?_
  refine o_iconst G28 at_164 (pc' := 165) rfl (v := (2 : Int32)) rfl ?_
  refine o_lload G28 at_165 (pc' := 167) rfl rfl ?_
  refine o_iload G28 at_167 (pc' := 169) rfl rfl ?_
  refine o_iload G28 at_169 (pc' := 171) rfl rfl ?_
  refine o_iload G28 at_171 (pc' := 173) rfl rfl ?_
  obtain ⟨v29, e29⟩ : ∃ z, f_3 (own_wr 9 v3 v4 (fun _ => nar .byte v5)).2 2 (2 : Int32) v3 v4 v20 v5 = z := ⟨_, rfl⟩
  refine o_callP G28 (z := (⟨"com/example/keyfold/keyfold/VarintWritePinLaw", "at", "([BIJIIB)Z"⟩ : MethodName)) (r := (.int v29)) (argsL := [(.ref b6), (.int (2 : Int32)), (.long v3), (.int v4), (.int v20), (.int v5)]) (rest := []) (W := 0) (hw _ (List.mem_of_getElem? (i := 12) rfl)) (hw _ (List.mem_of_getElem? (i := 13) rfl)) at_173 (by decide) (hw _ (List.mem_of_getElem? (i := 4) rfl)) (hw _ (List.mem_of_getElem? (i := 14) rfl)) (by rw [← e29]; exact rm3 hw b6 (2 : Int32) v3 v4 v20 v5 h22 n0 G28.sz (own_wr 9 v3 v4 (fun _ => nar .byte v5)).2 A22 2 rfl (by decide)) (by decide) (by decide) rfl (lenOf pd_2 rfl) rfl (Nat.le_of_eq rfl) (pc' := 176) rfl (by decide) (by decide) ?_
  intro T30 G30
  refine o_if_eq G30 at_176 (by decide) (pcT := 360) (by decide) (pc' := 179) rfl (fun q => absurd q (by rw [← e29, ← e20]; exact own_ne1 (hm.2 2 _ rfl (by decide)))) (fun _ => ?_)
  refine o_aload G30 at_179 (pc' := 181) rfl rfl rfl ?_
  refine o_iconst G30 at_181 (pc' := 182) rfl (v := (3 : Int32)) rfl ?_
  refine o_lload G30 at_182 (pc' := 184) rfl rfl ?_
  refine o_iload G30 at_184 (pc' := 186) rfl rfl ?_
  refine o_iload G30 at_186 (pc' := 188) rfl rfl ?_
  refine o_iload G30 at_188 (pc' := 190) rfl rfl ?_
  obtain ⟨v31, e31⟩ : ∃ z, f_3 (own_wr 9 v3 v4 (fun _ => nar .byte v5)).2 3 (3 : Int32) v3 v4 v20 v5 = z := ⟨_, rfl⟩
  refine o_callP G30 (z := (⟨"com/example/keyfold/keyfold/VarintWritePinLaw", "at", "([BIJIIB)Z"⟩ : MethodName)) (r := (.int v31)) (argsL := [(.ref b6), (.int (3 : Int32)), (.long v3), (.int v4), (.int v20), (.int v5)]) (rest := []) (W := 0) (hw _ (List.mem_of_getElem? (i := 12) rfl)) (hw _ (List.mem_of_getElem? (i := 13) rfl)) at_190 (by decide) (hw _ (List.mem_of_getElem? (i := 4) rfl)) (hw _ (List.mem_of_getElem? (i := 14) rfl)) (by rw [← e31]; exact rm3 hw b6 (3 : Int32) v3 v4 v20 v5 h22 n0 G30.sz (own_wr 9 v3 v4 (fun _ => nar .byte v5)).2 A22 3 rfl (by decide)) (by decide) (by decide) rfl (lenOf pd_2 rfl) rfl (Nat.le_of_eq rfl) (pc' := 193) rfl (by decide) (by decide) ?_
  intro T32 G32
  refine o_if_eq G32 at_193 (by decide) (pcT := 360) (by decide) (pc' := 196) rfl (fun q => absurd q (by rw [← e31, ← e20]; exact own_ne1 (hm.2 3 _ rfl (by decide)))) (fun _ => ?_)
  refine o_aload G32 at_196 (pc' := 198) rfl rfl rfl ?_
  refine o_iconst G32 at_198 (pc' := 199) rfl (v := (4 : Int32)) rfl ?_
  refine o_lload G32 at_199 (pc' := 201) rfl rfl ?_
  refine o_iload G32 at_201 (pc' := 203) rfl rfl ?_
  refine o_iload G32 at_203 (pc' := 205) rfl rfl ?_
  refine o_iload G32 at_205 (pc' := 207) rfl rfl ?_
  obtain ⟨v33, e33⟩ : ∃ z, f_3 (own_wr 9 v3 v4 (fun _ => nar .byte v5)).2 4 (4 : Int32) v3 v4 v20 v5 = z := ⟨_, rfl⟩
  refine o_callP G32 (z := (⟨"com/example/keyfold/keyfold/VarintWritePinLaw", "at", "([BIJIIB)Z"⟩ : MethodName)) (r := (.int v33)) (argsL := [(.ref b6), (.int (4 : Int32)), (.long v3), (.int v4), (.int v20), (.int v5)]) (rest := []) (W := 0) (hw _ (List.mem_of_getElem? (i := 12) rfl)) (hw _ (List.mem_of_getElem? (i := 13) rfl)) at_207 (by decide) (hw _ (List.mem_of_getElem? (i := 4) rfl)) (hw _ (List.mem_of_getElem? (i := 14) rfl)) (by rw [← e33]; exact rm3 hw b6 (4 : Int32) v3 v4 v20 v5 h22 n0 G32.sz (own_wr 9 v3 v4 (fun _ => nar .byte v5)).2 A22 4 rfl (by decide)) (by decide) (by decide) rfl (lenOf pd_2 rfl) rfl (Nat.le_of_eq rfl) (pc' := 210) rfl (by decide) (by decide) ?_
  intro T34 G34
  refine o_if_eq G34 at_210 (by decide) (pcT := 360) (by decide) (pc' := 213) rfl (fun q => absurd q (by rw [← e33, ← e20]; exact own_ne1 (hm.2 4 _ rfl (by decide)))) (fun _ => ?_)
  refine o_aload G34 at_213 (pc' := 215) rfl rfl rfl ?_
  refine o_iconst G34 at_215 (pc' := 216) rfl (v := (5 : Int32)) rfl ?_
  refine o_lload G34 at_216 (pc' := 218) rfl rfl ?_
  refine o_iload G34 at_218 (pc' := 220) rfl rfl ?_
  refine o_iload G34 at_220 (pc' := 222) rfl rfl ?_
  refine o_iload G34 at_222 (pc' := 224) rfl rfl ?_
  obtain ⟨v35, e35⟩ : ∃ z, f_3 (own_wr 9 v3 v4 (fun _ => nar .byte v5)).2 5 (5 : Int32) v3 v4 v20 v5 = z := ⟨_, rfl⟩
  refine o_callP G34 (z := (⟨"com/example/keyfold/keyfold/VarintWritePinLaw", "at", "([BIJIIB)Z"⟩ : MethodName)) (r := (.int v35)) (argsL := [(.ref b6), (.int (5 : Int32)), (.long v3), (.int v4), (.int v20), (.int v5)]) (rest := []) (W := 0) (hw _ (List.mem_of_getElem? (i := 12) rfl)) (hw _ (List.mem_of_getElem? (i := 13) rfl)) at_224 (by decide) (hw _ (List.mem_of_getElem? (i := 4) rfl)) (hw _ (List.mem_of_getElem? (i := 14) rfl)) (by rw [← e35]; exact rm3 hw b6 (5 : Int32) v3 v4 v20 v5 h22 n0 G34.sz (own_wr 9 v3 v4 (fun _ => nar .byte v5)).2 A22 5 rfl (by decide)) (by decide) (by decide) rfl (lenOf pd_2 rfl) rfl (Nat.le_of_eq rfl) (pc' := 227) rfl (by decide) (by decide) ?_
  intro T36 G36
  refine o_if_eq G36 at_227 (by decide) (pcT := 360) (by decide) (pc' := 230) rfl (fun q => absurd q (by rw [← e35, ← e20]; exact own_ne1 (hm.2 5 _ rfl (by decide)))) (fun _ => ?_)
  refine o_aload G36 at_230 (pc' := 232) rfl rfl rfl ?_
  refine o_bipush G36 at_232 (pc' := 234) rfl (v := (6 : Int32)) rfl ?_
  refine o_lload G36 at_234 (pc' := 236) rfl rfl ?_
  refine o_iload G36 at_236 (pc' := 238) rfl rfl ?_
  refine o_iload G36 at_238 (pc' := 240) rfl rfl ?_
  refine o_iload G36 at_240 (pc' := 242) rfl rfl ?_
  obtain ⟨v37, e37⟩ : ∃ z, f_3 (own_wr 9 v3 v4 (fun _ => nar .byte v5)).2 6 (6 : Int32) v3 v4 v20 v5 = z := ⟨_, rfl⟩
  refine o_callP G36 (z := (⟨"com/example/keyfold/keyfold/VarintWritePinLaw", "at", "([BIJIIB)Z"⟩ : MethodName)) (r := (.int v37)) (argsL := [(.ref b6), (.int (6 : Int32)), (.long v3), (.int v4), (.int v20), (.int v5)]) (rest := []) (W := 0) (hw _ (List.mem_of_getElem? (i := 12) rfl)) (hw _ (List.mem_of_getElem? (i := 13) rfl)) at_242 (by decide) (hw _ (List.mem_of_getElem? (i := 4) rfl)) (hw _ (List.mem_of_getElem? (i := 14) rfl)) (by rw [← e37]; exact rm3 hw b6 (6 : Int32) v3 v4 v20 v5 h22 n0 G36.sz (own_wr 9 v3 v4 (fun _ => nar .byte v5)).2 A22 6 rfl (by decide)) (by decide) (by decide) rfl (lenOf pd_2 rfl) rfl (Nat.le_of_eq rfl) (pc' := 245) rfl (by decide) (by decide) ?_
  intro T38 G38
  refine o_if_eq G38 at_245 (by decide) (pcT := 360) (by decide) (pc' := 248) rfl (fun q => absurd q (by rw [← e37, ← e20]; exact own_ne1 (hm.2 6 _ rfl (by decide)))) (fun _ => ?_)
  refine o_aload G38 at_248 (pc' := 250) rfl rfl rfl ?_
  refine o_bipush G38 at_250 (pc' := 252) rfl (v := (7 : Int32)) rfl ?_
  refine o_lload G38 at_252 (pc' := 254) rfl rfl ?_
  refine o_iload G38 at_254 (pc' := 256) rfl rfl ?_
  refine o_iload G38 at_256 (pc' := 258) rfl rfl ?_
  refine o_iload G38 at_258 (pc' := 260) rfl rfl ?_
  obtain ⟨v39, e39⟩ : ∃ z, f_3 (own_wr 9 v3 v4 (fun _ => nar .byte v5)).2 7 (7 : Int32) v3 v4 v20 v5 = z := ⟨_, rfl⟩
  refine o_callP G38 (z := (⟨"com/example/keyfold/keyfold/VarintWritePinLaw", "at", "([BIJIIB)Z"⟩ : MethodName)) (r := (.int v39)) (argsL := [(.ref b6), (.int (7 : Int32)), (.long v3), (.int v4), (.int v20), (.int v5)]) (rest := []) (W := 0) (hw _ (List.mem_of_getElem? (i := 12) rfl)) (hw _ (List.mem_of_getElem? (i := 13) rfl)) at_260 (by decide) (hw _ (List.mem_of_getElem? (i := 4) rfl)) (hw _ (List.mem_of_getElem? (i := 14) rfl)) (by rw [← e39]; exact rm3 hw b6 (7 : Int32) v3 v4 v20 v5 h22 n0 G38.sz (own_wr 9 v3 v4 (fun _ => nar .byte v5)).2 A22 7 rfl (by decide)) (by decide) (by decide) rfl (lenOf pd_2 rfl) rfl (Nat.le_of_eq rfl) (pc' := 263) rfl (by decide) (by decide) ?_
  intro T40 G40
  refine o_if_eq G40 at_263 (by decide) (pcT := 360) (by decide) (pc' := 266) rfl (fun q => absurd q (by rw [← e39, ← e20]; exact own_ne1 (hm.2 7 _ rfl (by decide)))) (fun _ => ?_)
  refine o_aload G40 at_266 (pc' := 268) rfl rfl rfl ?_
  refine o_bipush G40 at_268 (pc' := 270) rfl (v := (8 : Int32)) rfl ?_
  refine o_lload G40 at_270 (pc' := 272) rfl rfl ?_
  refine o_iload G40 at_272 (pc' := 274) rfl rfl ?_
  refine o_iload G40 at_274 (pc' := 276) rfl rfl ?_
  refine o_iload G40 at_276 (pc' := 278) rfl rfl ?_
  obtain ⟨v41, e41⟩ : ∃ z, f_3 (own_wr 9 v3 v4 (fun _ => nar .byte v5)).2 8 (8 : Int32) v3 v4 v20 v5 = z := ⟨_, rfl⟩
  refine o_callP G40 (z := (⟨"com/example/keyfold/keyfold/VarintWritePinLaw", "at", "([BIJIIB)Z"⟩ : MethodName)) (r := (.int v41)) (argsL := [(.ref b6), (.int (8 : Int32)), (.long v3), (.int v4), (.int v20), (.int v5)]) (rest := []) (W := 0) (hw _ (List.mem_of_getElem? (i := 12) rfl)) (hw _ (List.mem_of_getElem? (i := 13) rfl)) at_278 (by decide) (hw _ (List.mem_of_getElem? (i := 4) rfl)) (hw _ (List.mem_of_getElem? (i := 14) rfl)) (by rw [← e41]; exact rm3 hw b6 (8 : Int32) v3 v4 v20 v5 h22 n0 G40.sz (own_wr 9 v3 v4 (fun _ => nar .byte v5)).2 A22 8 rfl (by decide)) (by decide) (by decide) rfl (lenOf pd_2 rfl) rfl (Nat.le_of_eq rfl) (pc' := 281) rfl (by decide) (by decide) ?_
  intro T42 G42
  refine o_if_eq G42 at_281 (by decide) (pcT := 360) (by decide) (pc' := 284) rfl (fun q => absurd q (by rw [← e41, ← e20]; exact own_ne1 (hm.2 8 _ rfl (by decide)))) (fun _ => ?_)
  refine o_aload G42 at_284 (pc' := 286) rfl rfl rfl ?_
  refine o_bipush G42 at_286 (pc' := 288) rfl (v := (9 : Int32)) rfl ?_
  refine o_lload G42 at_288 (pc' := 290) rfl rfl ?_
  refine o_iload G42 at_290 (pc' := 292) rfl rfl ?_
  refine o_iload G42 at_292 (pc' := 294) rfl rfl ?_
  refine o_iload G42 at_294 (pc' := 296) rfl rfl ?_
  obtain ⟨v43, e43⟩ : ∃ z, f_3 (own_wr 9 v3 v4 (fun _ => nar .byte v5)).2 9 (9 : Int32) v3 v4 v20 v5 = z := ⟨_, rfl⟩
  refine o_callP G42 (z := (⟨"com/example/keyfold/keyfold/VarintWritePinLaw", "at", "([BIJIIB)Z"⟩ : MethodName)) (r := (.int v43)) (argsL := [(.ref b6), (.int (9 : Int32)), (.long v3), (.int v4), (.int v20), (.int v5)]) (rest := []) (W := 0) (hw _ (List.mem_of_getElem? (i := 12) rfl)) (hw _ (List.mem_of_getElem? (i := 13) rfl)) at_296 (by decide) (hw _ (List.mem_of_getElem? (i := 4) rfl)) (hw _ (List.mem_of_getElem? (i := 14) rfl)) (by rw [← e43]; exact rm3 hw b6 (9 : Int32) v3 v4 v20 v5 h22 n0 G42.sz (own_wr 9 v3 v4 (fun _ => nar .byte v5)).2 A22 9 rfl (by decide)) (by decide) (by decide) rfl (lenOf pd_2 rfl) rfl (Nat.le_of_eq rfl) (pc' := 299) rfl (by decide) (by decide) ?_
  intro T44 G44
  refine o_if_eq G44 at_299 (by decide) (pcT := 360) (by decide) (pc' := 302) rfl (fun q => absurd q (by rw [← e43, ← e20]; exact own_ne1 (hm.2 9 _ rfl (by decide)))) (fun _ => ?_)
  refine o_aload G44 at_302 (pc' := 304) rfl rfl rfl ?_
  refine o_bipush G44 at_304 (pc' := 306) rfl (v := (10 : Int32)) rfl ?_
  refine o_lload G44 at_306 (pc' := 308) rfl rfl ?_
  refine o_iload G44 at_308 (pc' := 310) rfl rfl ?_
  refine o_iload G44 at_310 (pc' := 312) rfl rfl ?_
  refine o_iload G44 at_312 (pc' := 314) rfl rfl ?_
  obtain ⟨v45, e45⟩ : ∃ z, f_3 (own_wr 9 v3 v4 (fun _ => nar .byte v5)).2 10 (10 : Int32) v3 v4 v20 v5 = z := ⟨_, rfl⟩
  refine o_callP G44 (z := (⟨"com/example/keyfold/keyfold/VarintWritePinLaw", "at", "([BIJIIB)Z"⟩ : MethodName)) (r := (.int v45)) (argsL := [(.ref b6), (.int (10 : Int32)), (.long v3), (.int v4), (.int v20), (.int v5)]) (rest := []) (W := 0) (hw _ (List.mem_of_getElem? (i := 12) rfl)) (hw _ (List.mem_of_getElem? (i := 13) rfl)) at_314 (by decide) (hw _ (List.mem_of_getElem? (i := 4) rfl)) (hw _ (List.mem_of_getElem? (i := 14) rfl)) (by rw [← e45]; exact rm3 hw b6 (10 : Int32) v3 v4 v20 v5 h22 n0 G44.sz (own_wr 9 v3 v4 (fun _ => nar .byte v5)).2 A22 10 rfl (by decide)) (by decide) (by decide) rfl (lenOf pd_2 rfl) rfl (Nat.le_of_eq rfl) (pc' := 317) rfl (by decide) (by decide) ?_
  intro T46 G46
  refine o_if_eq G46 at_317 (by decide) (pcT := 360) (by decide) (pc' := 320) rfl (fun q => absurd q (by rw [← e45, ← e20]; exact own_ne1 (hm.2 10 _ rfl (by decide)))) (fun _ => ?_)
  refine o_aload G46 at_320 (pc' := 322) rfl rfl rfl ?_
  refine o_bipush G46 at_322 (pc' := 324) rfl (v := (11 : Int32)) rfl ?_
  refine o_lload G46 at_324 (pc' := 326) rfl rfl ?_
  refine o_iload G46 at_326 (pc' := 328) rfl rfl ?_
  refine o_iload G46 at_328 (pc' := 330) rfl rfl ?_
  refine o_iload G46 at_330 (pc' := 332) rfl rfl ?_
  obtain ⟨v47, e47⟩ : ∃ z, f_3 (own_wr 9 v3 v4 (fun _ => nar .byte v5)).2 11 (11 : Int32) v3 v4 v20 v5 = z := ⟨_, rfl⟩
  refine o_callP G46 (z := (⟨"com/example/keyfold/keyfold/VarintWritePinLaw", "at", "([BIJIIB)Z"⟩ : MethodName)) (r := (.int v47)) (argsL := [(.ref b6), (.int (11 : Int32)), (.long v3), (.int v4), (.int v20), (.int v5)]) (rest := []) (W := 0) (hw _ (List.mem_of_getElem? (i := 12) rfl)) (hw _ (List.mem_of_getElem? (i := 13) rfl)) at_332 (by decide) (hw _ (List.mem_of_getElem? (i := 4) rfl)) (hw _ (List.mem_of_getElem? (i := 14) rfl)) (by rw [← e47]; exact rm3 hw b6 (11 : Int32) v3 v4 v20 v5 h22 n0 G46.sz (own_wr 9 v3 v4 (fun _ => nar .byte v5)).2 A22 11 rfl (by decide)) (by decide) (by decide) rfl (lenOf pd_2 rfl) rfl (Nat.le_of_eq rfl) (pc' := 335) rfl (by decide) (by decide) ?_
  intro T48 G48
  refine o_if_eq G48 at_335 (by decide) (pcT := 360) (by decide) (pc' := 338) rfl (fun q => absurd q (by rw [← e47, ← e20]; exact own_ne1 (hm.2 11 _ rfl (by decide)))) (fun _ => ?_)
  refine o_aload G48 at_338 (pc' := 340) rfl rfl rfl ?_
  refine o_bipush G48 at_340 (pc' := 342) rfl (v := (12 : Int32)) rfl ?_
  refine o_lload G48 at_342 (pc' := 344) rfl rfl ?_
  refine o_iload G48 at_344 (pc' := 346) rfl rfl ?_
  refine o_iload G48 at_346 (pc' := 348) rfl rfl ?_
  refine o_iload G48 at_348 (pc' := 350) rfl rfl ?_
  obtain ⟨v49, e49⟩ : ∃ z, f_3 (own_wr 9 v3 v4 (fun _ => nar .byte v5)).2 12 (12 : Int32) v3 v4 v20 v5 = z := ⟨_, rfl⟩
  refine o_callP G48 (z := (⟨"com/example/keyfold/keyfold/VarintWritePinLaw", "at", "([BIJIIB)Z"⟩ : MethodName)) (r := (.int v49)) (argsL := [(.ref b6), (.int (12 : Int32)), (.long v3), (.int v4), (.int v20), (.int v5)]) (rest := []) (W := 0) (hw _ (List.mem_of_getElem? (i := 12) rfl)) (hw _ (List.mem_of_getElem? (i := 13) rfl)) at_350 (by decide) (hw _ (List.mem_of_getElem? (i := 4) rfl)) (hw _ (List.mem_of_getElem? (i := 14) rfl)) (by rw [← e49]; exact rm3 hw b6 (12 : Int32) v3 v4 v20 v5 h22 n0 G48.sz (own_wr 9 v3 v4 (fun _ => nar .byte v5)).2 A22 12 rfl (by decide)) (by decide) (by decide) rfl (lenOf pd_2 rfl) rfl (Nat.le_of_eq rfl) (pc' := 353) rfl (by decide) (by decide) ?_
  intro T50 G50
  refine o_if_eq G50 at_353 (by decide) (pcT := 360) (by decide) (pc' := 356) rfl (fun q => absurd q (by rw [← e49, ← e20]; exact own_ne1 (hm.2 12 _ rfl (by decide)))) (fun _ => ?_)
  refine o_iconst G50 at_356 (pc' := 357) rfl (v := (1 : Int32)) rfl ?_
  refine o_goto G50 at_357 (by decide) (pc' := 361) rfl ?_
  exact o_nreturn (t := .boolean) G50 (by simp) at_361 rfl (by decide) (by decide)
set_option maxRecDepth 65536 in
set_option maxHeartbeats 40000000 in
theorem comes_1 {Post : Tables → Env → Array Value → State → Outcome → State → Prop} (hpost : ∀ tb e args s v u, (limb_1_1.after args s (.returned v) u = true ∧ limb_1_2.after args s (.returned v) u = true ∧ True) → FrameEnd s (.returned v) u (Jvm.fieldLocs frame_1_writes args s ++ Jvm.arrayLocs frame_1_arrays args s ++ Jvm.staticLocs frame_1_statics s) 16 128 → Post tb e args s (.returned v) u) :
    ArmFor flags0 classFile x code maxLocals ret World_1 tables_1 room_1 Calls_1 rest_1 Pre_1 Post := by
  intro l hfl _ _ p e ha hc hk s m args below hf hA hF happ hP
  obtain ⟨hcalls, hrest, hpre⟩ := hP
  obtain ⟨-, -, -, hnamed, -, -, -, hat⟩ := (Spec.applies_iff hf).mp happ
  obtain ⟨hg, hn⟩ := and_e (Cond.before_iff.mp (show (Jvm.Cond.and given_1 narrow_1).before args s = true from hpre))
  obtain ⟨g1, g2⟩ := and_e hg
  obtain ⟨g3, g4⟩ := and_e g2
  obtain ⟨g5, g6⟩ := and_e g4
  obtain ⟨g7, g8⟩ := and_e g6
  obtain ⟨w0, w1, w2, w3, rfl⟩ : ∃ w0 w1 w2 w3 : Value, args = #[w0, w1, w2, w3] := by
    have hs : args.size = 4 := by simpa [Cond.value, given_1] using g1
    obtain ⟨L⟩ := args
    match L, hs with
    | [w0, w1, w2, w3], _ => exact ⟨w0, w1, w2, w3, rfl⟩
  have hw := fun d (hd : d ∈ tables_1) => atoms_spec (ws := Jvm.Cond.code x code maxLocals ret :: tables_1) hat d (List.mem_cons_of_mem _ hd)
  obtain ⟨i0, ei0⟩ := isL_v g3
  obtain rfl : w0 = (.long i0) := Option.some.inj ei0
  obtain ⟨i1, ei1⟩ := is_v g5
  obtain rfl : w1 = (.int i1) := Option.some.inj ei1
  obtain ⟨i2, ei2⟩ := is_v g7
  obtain rfl : w2 = (.int i2) := Option.some.inj ei2
  obtain ⟨i3, ei3⟩ := is_v g8
  obtain rfl : w3 = (.int i3) := Option.some.inj ei3
  obtain ⟨n, o, h1, h2, h3, _, L, rfl, ⟨N, _, hv⟩, hq⟩ := rm0 (l := l) (Z := s) hw i0 i1 i2 i3 s.heap s.heap.size (Nat.le_refl _)  tables_1 p e ha hc hk s m _ below hf ((Spec.applies_iff_loose hf).mp happ).1 ⟨rfl, State.Warmed39.refl s, rfl⟩ trivial
  subst hv
  refine ⟨n, _, h1, h2, h3, hpost _ _ _ _ _ _ ⟨Cond.after_iff.mpr rfl, Cond.after_iff.mpr (eq_i res_at (Term.int_eval (1)) rfl), trivial⟩ ⟨hq.1, hq.2.1, (hq.2.2.sift fun y hy => Or.inr (N y hy)).mono (by decide) (by decide)⟩⟩
theorem main_1_1 : Claimed_1_1 := comes_1 fun _ _ _ _ _ _ h hF => ⟨h.1, hF⟩
theorem main_1_2 : Claimed_1_2 := comes_1 fun _ _ _ _ _ _ h hF => ⟨h.2.1, hF⟩
end Jvm.Pilot.@@N@@
namespace Jvm.Pilot.@@N@@
open Jvm Jvm.ClassFile Sem Op Lib Jvm.Free Jvm.Stand Jvm.Pilot.@@N@@.Jvm.D
/-! MADE BY PROGRAM (witnessworld.py) out of the Statement's table words and the real class files: 9 classes; the members and pool entries that the words name. The judged class is class 1, her method 1. -/
namespace start1
open Jvm.ClassFile
def u (s : String) : CpInfo := .utf8 (stringToUtf16 s)
/-- a pool by its gaps: so many unusable entries, then the entry; so many at the end -/
def gap : Nat → List CpInfo → List CpInfo
  | 0, r => r
  | n + 1, r => .unusable :: gap n r
def poolList (es : List (Nat × CpInfo)) (last : Nat) : List CpInfo := es.foldr (fun e r => gap e.1 (e.2 :: r)) (gap last [])
def pool (es : List (Nat × CpInfo)) (last : Nat) : Array CpInfo := ⟨poolList es last⟩
def fileOf (pool : Array CpInfo) (this : Nat) (attrs : Array Attribute := #[]) (ms : Array MethodInfo := #[]) (fl : Nat := 33) (sup : Nat := 0) (ifs : Array Nat := #[]) (fds : Array FieldInfo := #[]) : ClassFile where
  minorVersion := 0
  majorVersion := 65
  constantPool := pool
  accessFlags := fl
  thisClass := this
  superClass := sup
  interfaces := ifs
  fields := fds
  methods := ms
  attributes := attrs
def plain (name : String) (sup : Option ClassId) : Class where
  name := name
  kind := .ordinary
  loader := none
  accessFlags := 33
  super := sup
  interfaces := #[]
  cf := none
  fields := #[]
  methods := #[]
  instanceTypes := #[]
  staticTypes := #[]
  resolved := #[]
  callSites := []
  init := .initialized
  statics := none
  mirror := none

def pool0 : Array CpInfo := pool [(5, u "<init>"), (0, u "()V"), (1, .class_ 10), (1, u "java/lang/Object")] 113

def k0m0 : Method := { name := "<init>", desc := "()V", sig := { parameters := [], returnType := none }, accessFlags := 1, code := none }
/-- java/lang/Object -/
def k0 : Class := { plain "java/lang/Object" none with
  accessFlags := 33
  interfaces := #[]
  cf := some (fileOf pool0 8 #[] #[{ accessFlags := 1, nameIndex := 5, descriptorIndex := 6, attributes := #[] }] 33 0 #[] #[])
  fields := #[]
  methods := #[k0m0]
  instanceTypes := #[]
  staticTypes := #[]
  resolved := Array.replicate 124 none
  statics := none }

def pool1 : Array CpInfo := pool [(2, .class_ 4), (1, u "java/lang/Object"), (0, u "<init>"), (0, u "()V"), (2, .long 9223372036854775807), (1, .methodref 12 13), (0, .class_ 14), (0, .nameAndType 15 16), (0, u "com/example/keyfold/keyfold/VarintWritePinLaw"), (0, u "length"), (0, u "(J)I"), (0, .methodref 18 19), (0, .class_ 20), (0, .nameAndType 21 22), (0, u "com/example/keyfold/keyfold/Varint"), (0, u "write"), (0, u "(J[BI)I"), (0, .methodref 12 24), (0, .nameAndType 25 26), (0, u "at"), (0, u "([BIJIIB)Z"), (0, .long 128), (1, .long 16384), (1, .long 2097152), (1, .long 268435456), (1, .long 34359738368), (1, .long 4398046511104), (1, .long 562949953421312), (1, .long 72057594037927936), (1, .long 127), (3, u "law"), (0, u "(JIII)Z")] 5

def k1m0 : Method := { name := "<init>", desc := "()V", sig := { parameters := [], returnType := none }, accessFlags := 1, code := none }
def k1c1 : Code := { maxStack := 7, maxLocals := 12, code := code, exceptionTable := #[], attributes := #[] }
def k1m1 : Method := { name := "law", desc := "(JIII)Z", sig := { parameters := [.long, .int, .int, .int], returnType := some .boolean }, accessFlags := 9, code := some k1c1 }
def k1c2 : Code := { maxStack := 4, maxLocals := 2, code := method_3_code, exceptionTable := #[], attributes := #[] }
def k1m2 : Method := { name := "length", desc := "(J)I", sig := { parameters := [.long], returnType := some .int }, accessFlags := 10, code := some k1c2 }
def k1c3 : Code := { maxStack := 5, maxLocals := 10, code := method_4_code, exceptionTable := #[], attributes := #[] }
def k1m3 : Method := { name := "at", desc := "([BIJIIB)Z", sig := { parameters := [(.array .byte), .int, .long, .int, .int, .byte], returnType := some .boolean }, accessFlags := 10, code := some k1c3 }
/-- com/example/keyfold/keyfold/VarintWritePinLaw -/
def k1 : Class := { plain "com/example/keyfold/keyfold/VarintWritePinLaw" (some 0) with
  accessFlags := 49
  interfaces := #[]
  cf := some (fileOf pool1 12 #[] #[{ accessFlags := 1, nameIndex := 5, descriptorIndex := 6, attributes := #[] }, { accessFlags := 9, nameIndex := 47, descriptorIndex := 48, attributes := #[] }, { accessFlags := 10, nameIndex := 15, descriptorIndex := 16, attributes := #[] }, { accessFlags := 10, nameIndex := 25, descriptorIndex := 26, attributes := #[] }] 49 2 #[] #[])
  fields := #[]
  methods := #[k1m0, k1m1, k1m2, k1m3]
  instanceTypes := #[]
  staticTypes := #[]
  resolved := Array.replicate 54 none
  statics := none }

def pool2 : Array CpInfo := pool [(2, .class_ 4), (1, u "java/lang/Object"), (0, u "<init>"), (0, u "()V"), (0, .long 128), (7, .class_ 16), (0, u "com/example/keyfold/keyfold/Varint"), (0, u "MAX_BYTES"), (0, u "I"), (6, u "write"), (0, u "(J[BI)I")] 6

def k2m0 : Method := { name := "<init>", desc := "()V", sig := { parameters := [], returnType := none }, accessFlags := 2, code := none }
def k2c1 : Code := { maxStack := 6, maxLocals := 4, code := prog_142_method_3_code, exceptionTable := #[], attributes := #[] }
def k2m1 : Method := { name := "write", desc := "(J[BI)I", sig := { parameters := [.long, (.array .byte), .int], returnType := some .int }, accessFlags := 8, code := some k2c1 }
/-- com/example/keyfold/keyfold/Varint -/
def k2 : Class := { plain "com/example/keyfold/keyfold/Varint" (some 0) with
  accessFlags := 48
  interfaces := #[]
  cf := some (fileOf pool2 15 #[] #[{ accessFlags := 2, nameIndex := 5, descriptorIndex := 6, attributes := #[] }, { accessFlags := 8, nameIndex := 25, descriptorIndex := 26, attributes := #[] }] 48 2 #[] #[{ accessFlags := 24, nameIndex := 17, descriptorIndex := 18, attributes := #[] }])
  fields := #[{ name := "MAX_BYTES", type := .int, accessFlags := 24, slot := 0, constantValue := 0 }]
  methods := #[k2m0, k2m1]
  instanceTypes := #[]
  staticTypes := #[.int]
  resolved := Array.replicate 33 none
  statics := none }

def pool3 : Array CpInfo := pool [(1, u "java/lang/Cloneable"), (0, .class_ 1), (0, u "java/lang/Object"), (0, .class_ 3)] 3

/-- java/lang/Cloneable -/
def k3 : Class := { plain "java/lang/Cloneable" (some 0) with
  accessFlags := 1537
  interfaces := #[]
  cf := some (fileOf pool3 2 #[] #[] 1537 4 #[] #[])
  fields := #[]
  methods := #[]
  instanceTypes := #[]
  staticTypes := #[]
  resolved := Array.replicate 8 none
  statics := none }

def pool4 : Array CpInfo := pool [(1, u "java/io/Serializable"), (0, .class_ 1), (0, u "java/lang/Object"), (0, .class_ 3)] 3

/-- java/io/Serializable -/
def k4 : Class := { plain "java/io/Serializable" (some 0) with
  accessFlags := 1537
  interfaces := #[]
  cf := some (fileOf pool4 2 #[] #[] 1537 4 #[] #[])
  fields := #[]
  methods := #[]
  instanceTypes := #[]
  staticTypes := #[]
  resolved := Array.replicate 8 none
  statics := none }

/-- the primitive byte -/
def k5 : Class := { plain "byte" none with kind := .primitive 'B', accessFlags := 0x411 }
/-- [B -/
def k6 : Class := { plain "[B" (some 0) with kind := .array 5 .byte, interfaces := #[3, 4], accessFlags := 1041 }

/-- the primitive int -/
def k7 : Class := { plain "int" none with kind := .primitive 'I', accessFlags := 0x411 }
/-- [I -/
def k8 : Class := { plain "[I" (some 0) with kind := .array 7 .int, interfaces := #[3, 4], accessFlags := 1041 }

def heap : Heap := #[]
def classes : Array Class := #[k0, k1, k2, k3, k4, k5, k6, k7, k8]
def interned : List (Array UInt16 × Addr) := []
def slotsUsed : Nat := 0
def theMethod : MethodId := ⟨1, 1⟩
def args0 : Array Value := #[.long 5, .int 5, .int 5, .int 5]
def aboutOver (below : List Frame) : State where
  vm := { classes := classes, interned := interned.toArray }
  heap := heap
  slotsUsed := slotsUsed
  threads := #[{ frames := .invoking theMethod args0 :: below }]
def below0 : List Frame := [.native { method := ⟨0, 0⟩, args := #[] }]
def about1 : State := aboutOver below0
def p0 : Program := .bare "" "" ""
def e0 : Env := launch0.env 0 0 0
theorem w_frames : about1.frames = Frame.invoking theMethod args0 :: below0 := rfl
set_option maxRecDepth 65536 in
theorem w_args : argsFit about1.vm theMethod args0 = true := by decide +kernel
set_option maxRecDepth 65536 in
theorem w_heap : heapFits about1 = true := by decide +kernel
set_option maxRecDepth 65536 in
theorem w_runnable : about1.curStatus? = some .runnable := by decide +kernel
set_option maxRecDepth 65536 in
theorem w_alone : about1.alone = true := by decide +kernel
set_option maxRecDepth 65536 in
theorem w_named : about1.methodNamed? x = some theMethod := by decide +kernel
set_option maxRecDepth 65536 in
theorem w_hears : about1.hears theMethod below0 = true := by decide +kernel
set_option maxRecDepth 65536 in
theorem w_ripe : about1.ripe theMethod args0 below0 = true := by decide +kernel
theorem w_running : about1.status = .running := rfl
set_option maxRecDepth 65536 in
theorem w_room : about1.hasRoom e0.platform room_1 = true :=
  launch0.hasRoom_least _ room_1 (by decide +kernel) (by decide +kernel) (by decide +kernel) (by decide +kernel) (by decide +kernel) (by decide +kernel)
theorem allAtoms_all (ts : List Jvm.Cond) (a : Array Jvm.Value) (st : Jvm.State) : (allAtoms ts).before a st = ts.all (fun c => c.before a st) := by
  induction ts with
  | nil => rfl
  | cons c t ih =>
    show (Jvm.Cond.and c (allAtoms t)).before a st = _
    rw [Jvm.Cond.before_and, ih, List.all_cons]
def words1 : List Jvm.Cond := Jvm.Cond.code x code maxLocals ret :: tables_1
/-- a 'code' word, met by the world's own term for the bytes: nothing is compared byte by byte -/
theorem code_word {y : MethodName} {bytes : ByteArray} {mx : Nat} {rt : Option FieldType} {a : Array Value} {s : State} {m : MethodId} {meth : Method} {c : Code} (h1 : s.methodNamed? y = some m) (h2 : s.vm.method? m = some meth) (h3 : meth.code = some c) (h4 : c.code = bytes)
    (h5 : (c.maxLocals == mx && c.exceptionTable.isEmpty && decide (c.maxStack ≤ mostOperands) && decide (meth.sig.returnType = rt) && !meth.locks && decide (parseMethodDescriptor y.desc = some meth.sig)) = true) : (Jvm.Cond.code y bytes mx rt).before a s = true := by
  simp only [Bool.and_eq_true, beq_iff_eq, Bool.not_eq_true', decide_eq_true_eq] at h5
  obtain ⟨⟨⟨⟨⟨g1, g2⟩, g3⟩, g4⟩, g5⟩, g6⟩ := h5
  simp [Cond.before, Cond.holds, Cond.value, h1, h2, h3, h4, g1, g2, g3, g4, g5, g6]
def isCode : Jvm.Cond → Bool
  | .code _ _ _ _ => true
  | _ => false
theorem all_split {L : List Jvm.Cond} {P : Jvm.Cond → Bool} (h1 : L.all (fun c => isCode c || P c) = true) (h2 : ∀ c ∈ L.filter isCode, P c = true) : L.all P = true := by
  refine List.all_eq_true.mpr fun c hc => ?_
  have h := List.all_eq_true.mp h1 c hc
  rcases Bool.eq_false_or_eq_true (isCode c) with hi | hi
  · exact h2 c (List.mem_filter.mpr ⟨hc, hi⟩)
  · simpa [hi] using h
set_option maxRecDepth 65536 in
theorem w_c0 : (Jvm.Cond.code x code maxLocals ret).before args0 about1 = true := code_word (m := ⟨1, 1⟩) (meth := k1m1) (c := k1c1) (by decide +kernel) rfl rfl rfl (by decide +kernel)
set_option maxRecDepth 65536 in
theorem w_c1 : (Jvm.Cond.code ({ cls := "com/example/keyfold/keyfold/VarintWritePinLaw", name := "length", desc := "(J)I" } : Jvm.MethodName) method_3_code (2 : Nat) (Option.some Jvm.ClassFile.FieldType.int)).before args0 about1 = true := code_word (m := ⟨1, 2⟩) (meth := k1m2) (c := k1c2) (by decide +kernel) rfl rfl rfl (by decide +kernel)
set_option maxRecDepth 65536 in
theorem w_c2 : (Jvm.Cond.code ({ cls := "com/example/keyfold/keyfold/Varint", name := "write", desc := "(J[BI)I" } : Jvm.MethodName) prog_142_method_3_code (4 : Nat) (Option.some Jvm.ClassFile.FieldType.int)).before args0 about1 = true := code_word (m := ⟨2, 1⟩) (meth := k2m1) (c := k2c1) (by decide +kernel) rfl rfl rfl (by decide +kernel)
set_option maxRecDepth 65536 in
theorem w_c3 : (Jvm.Cond.code ({ cls := "com/example/keyfold/keyfold/VarintWritePinLaw", name := "at", desc := "([BIJIIB)Z" } : Jvm.MethodName) method_4_code (10 : Nat) (Option.some Jvm.ClassFile.FieldType.boolean)).before args0 about1 = true := code_word (m := ⟨1, 3⟩) (meth := k1m3) (c := k1c3) (by decide +kernel) rfl rfl rfl (by decide +kernel)
def codes1 : List Jvm.Cond := [Jvm.Cond.code x code maxLocals ret, Jvm.Cond.code ({ cls := "com/example/keyfold/keyfold/VarintWritePinLaw", name := "length", desc := "(J)I" } : Jvm.MethodName) method_3_code (2 : Nat) (Option.some Jvm.ClassFile.FieldType.int), Jvm.Cond.code ({ cls := "com/example/keyfold/keyfold/Varint", name := "write", desc := "(J[BI)I" } : Jvm.MethodName) prog_142_method_3_code (4 : Nat) (Option.some Jvm.ClassFile.FieldType.int), Jvm.Cond.code ({ cls := "com/example/keyfold/keyfold/VarintWritePinLaw", name := "at", desc := "([BIJIIB)Z" } : Jvm.MethodName) method_4_code (10 : Nat) (Option.some Jvm.ClassFile.FieldType.boolean)]
set_option maxRecDepth 65536 in
theorem codes_eq : words1.filter isCode = codes1 := rfl
theorem w_codes : ∀ c ∈ words1.filter isCode, c.before args0 about1 = true := by
  rw [codes_eq]
  intro c hc
  simp only [codes1, List.mem_cons, List.not_mem_nil, or_false] at hc
  rcases hc with rfl | rfl | rfl | rfl
  · exact w_c0
  · exact w_c1
  · exact w_c2
  · exact w_c3
set_option maxRecDepth 65536 in
theorem w_t1 : words1.all (fun c => isCode c || c.before args0 about1) = true := by decide +kernel
theorem w_tables : (allAtoms (Jvm.Cond.code x code maxLocals ret :: tables_1)).before args0 about1 = true := by
  rw [allAtoms_all]
  show words1.all (fun c => c.before args0 about1) = true
  refine all_split ?_ w_codes
  rw [w_t1]
set_option maxRecDepth 65536 in
theorem w_case : (Jvm.Cond.and given_1 narrow_1).before args0 about1 = true := by decide +kernel
theorem w_applies : (headSpec (Jvm.Cond.code x code maxLocals ret :: tables_1) room_1).applies x e0.platform about1 = true :=
  (Spec.applies_iff w_frames).mpr ⟨w_running, w_runnable, w_alone, w_named, w_hears, w_ripe, w_room, w_tables⟩
theorem atStart : AtStart classFile x code maxLocals ret World_1 tables_1 room_1 Calls_1 rest_1 Pre_1 launch0 p0 e0 about1 theMethod args0 below0 :=
  ⟨lists_1, trivial, launch0.admits_env _ _ _, launch0.least_env, fairChoices_fair.cas, fairChoices_fair.clock, w_frames, w_args, w_heap, w_applies, trivial, trivial, w_case⟩
end start1
theorem witness_1 : WitnessClaimed_1 := ⟨start1.p0, start1.e0, start1.about1, start1.theMethod, start1.args0, start1.below0, start1.atStart⟩
end Jvm.Pilot.@@N@@
