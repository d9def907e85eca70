import JvmDerived
import JvmDerived.Pilot.@@N@@Statement
import JvmDerived.Pilot.@@N@@Code
set_option linter.unusedVariables false
set_option linter.unusedSimpArgs false
namespace Jvm.Pilot.@@N@@
open Jvm Jvm.ClassFile Sem Op Lib Jvm.Free Jvm.Stand Jvm.LawKit Jvm.RoadKit Bundle Jvm.Pilot.@@N@@.Jvm.D

section OwnKit
/-- from here the run comes to a return that says Q -/
def OFin (n0 : Nat) (p : Program) (e : Env) (below : List Frame) (s : State) (Q : Option Value → Heap → Prop) (ck sk : Nat) (T : State) (g : JFrame) : Prop :=
  ∃ s₂ o, Steps p.tables e below (T.setTop g) s₂ ∧ s₂.status = .running ∧ Ended s₂ below o ∧ ∃ v L, o = .returned v ∧ (Fr n0 L ∧ n0 ≤ s₂.heap.size ∧ Q v s₂.heap) ∧ FrameEnd s o s₂ L ck sk
/-- where the walk of a body stands, with all that is known of the body -/
def OG (l : Launch) (Z : State) (y : MethodName) (bytes : ByteArray) (maxl : Nat) (ret : Option FieldType) (n0 : Nat) (p : Program) (e : Env) (R : Room) (s : State) (m : MethodId) (args : Array Value) (below : List Frame) (meth : Method) (c : Code) (T : State) (h : Heap) (cells slots : Nat) : Prop :=
  p.tables.exec = Jvm.exec ∧ c.code = bytes ∧ c.maxLocals = maxl ∧ s.vm.findClass y.cls = some m.cls ∧ meth.name = y.name ∧ meth.sig.returnType = ret ∧ meth.locks = false ∧ Z.Warmed39 s.vm ∧ T.heap = h ∧ n0 ≤ h.size ∧ ∃ locs, Stand p l e R s m args below meth c T locs cells slots ∧ Fr n0 locs
/-- a body's contract -/
def OMet (l : Launch) (Z : State) (y : MethodName) (bytes : ByteArray) (maxl : Nat) (ret : Option FieldType) (rm : Room) (as' : Array Value) (h0 : Heap) (n0 : Nat) (ck sk : Nat) (Q : Option Value → Heap → Prop) : Prop :=
  ∀ ws : List Jvm.Cond, MetFree l y (head1 (Jvm.Cond.code y bytes maxl ret :: ws) rm) (fun a U => a = as' ∧ Z.Warmed39 U.vm ∧ U.heap = h0) (fun _ _ _ _ _ => True) (fun _ U o U' => ∃ v L, o = .returned v ∧ (Fr n0 L ∧ n0 ≤ U'.heap.size ∧ Q v U'.heap) ∧ FrameEnd U o U' L ck sk)
variable {l : Launch} {Z : State} {y : MethodName} {bytes : ByteArray} {maxl : Nat} {ret : Option FieldType} {n0 : Nat} {p : Program} {e : Env} {R : Room} {s : State} {m : MethodId} {args : Array Value} {below : List Frame} {meth : Method} {c : Code} {T : State} {h : Heap} {cells slots ck sk : Nat} {Q : Option Value → Heap → Prop} {pc pc' : Nat} {Ls : Array Slot} {rest : List Value} {a0 : Array Value}
theorem o_step {T' : State} {g g' : JFrame} (st : ∀ t, Steps p.tables e below (T'.setTop g') t → Steps p.tables e below (T.setTop g) t) (k : OFin n0 p e below s Q ck sk T' g') : OFin n0 p e below s Q ck sk T g := by
  obtain ⟨s₂, o, h1, r⟩ := k
  exact ⟨s₂, o, st _ h1, r⟩
theorem o_body {rm : Room} {as' : Array Value} {h0 : Heap} (hy : plainFor y = true) (hz : n0 ≤ h0.size) (hent : ∀ m, entryFrame m as' maxl = mkF m 0 Ls [])
    (body : ∀ (p : Program) (e : Env) (s : State) (m : MethodId) (below : List Frame) (meth : Method) (c : Code) (s₁ : State), OG l Z y bytes maxl ret n0 p e rm s m as' below meth c s₁ h0 0 0 → OFin n0 p e below s Q ck sk s₁ (mkF m 0 Ls [])) : OMet l Z y bytes maxl ret rm as' h0 n0 ck sk Q := by
  intro ws
  refine MetFree.of_bodySF hy hisR ?_
  intro p e s m args below meth c s₁ Bd hml0 hP hK
  obtain ⟨ha, hZ, hh⟩ := hP
  subst ha
  have e0 : s₁.heap = h0 := by rw [← hh, Bd.state]; rfl
  have k := body p e s m below meth c s₁ ⟨Bd.exec, Bd.bytes, hml0, findClass_of_methodNamed Bd.named, (name_of_methodNamed Bd.named Bd.method).1, Bd.returns, Bd.notSynchronized, hZ, e0, hz, [], Stand.of_body Bd, Fr.nil n0⟩
  rw [← hent m] at k
  exact k
theorem OG.sz (G : OG l Z y bytes maxl ret n0 p e R s m args below meth c T h cells slots) : n0 ≤ h.size := G.2.2.2.2.2.2.2.2.2.1
theorem OG.eh (G : OG l Z y bytes maxl ret n0 p e R s m args below meth c T h cells slots) : T.heap = h := G.2.2.2.2.2.2.2.2.1
theorem OG.wm (G : OG l Z y bytes maxl ret n0 p e R s m args below meth c T h cells slots) : Z.Warmed39 s.vm := G.2.2.2.2.2.2.2.1
theorem o_iloadN (G : OG l Z y bytes maxl ret n0 p e R s m args below meth c T h cells slots) {k0 : Fin 4} {v : Int32} (hd : decode bytes pc = .ok (.iload_n k0, 1)) (hp : pc + 1 = pc') (hl : Ls[k0.val]? = some (.val (.int v))) (k : OFin n0 p e below s Q ck sk T (mkF m pc' Ls (.int v :: rest))) : OFin n0 p e below s Q ck sk T (mkF m pc Ls rest) := by
  subst hp
  obtain ⟨hx, hby, -, -, -, -, -, -, -, -, locs, X, -⟩ := G
  exact o_step (fun _ hr => XS.iloadN X.here hx rfl (hb hby hd) hl hr) k
theorem o_iload (G : OG l Z y bytes maxl ret n0 p e R s m args below meth c T h cells slots) {k0 : Nat} {v : Int32} (hd : decode bytes pc = .ok (.iload k0, 2)) (hp : pc + 2 = pc') (hl : Ls[k0]? = some (.val (.int v))) (k : OFin n0 p e below s Q ck sk T (mkF m pc' Ls (.int v :: rest))) : OFin n0 p e below s Q ck sk T (mkF m pc Ls rest) := by
  subst hp
  obtain ⟨hx, hby, -, -, -, -, -, -, -, -, locs, X, -⟩ := G
  exact o_step (fun _ hr => XS.iload X.here hx rfl (hb hby hd) hl hr) k
theorem o_lloadN (G : OG l Z y bytes maxl ret n0 p e R s m args below meth c T h cells slots) {k0 : Fin 4} {v : Int64} (hd : decode bytes pc = .ok (.lload_n k0, 1)) (hp : pc + 1 = pc') (hl : Ls[k0.val]? = some (.val (.long v))) (k : OFin n0 p e below s Q ck sk T (mkF m pc' Ls (.long v :: rest))) : OFin n0 p e below s Q ck sk T (mkF m pc Ls rest) := by
  subst hp
  obtain ⟨hx, hby, -, -, -, -, -, -, -, -, locs, X, -⟩ := G
  exact o_step (fun _ hr => XS.lloadN X.here hx rfl (hb hby hd) hl hr) k
theorem o_aloadN (G : OG l Z y bytes maxl ret n0 p e R s m args below meth c T h cells slots) {k0 : Fin 4} {v : Value} (hd : decode bytes pc = .ok (.aload_n k0, 1)) (hp : pc + 1 = pc') (hl : Ls[k0.val]? = some (.val v)) (hv : v.isRef = true) (k : OFin n0 p e below s Q ck sk T (mkF m pc' Ls (v :: rest))) : OFin n0 p e below s Q ck sk T (mkF m pc Ls rest) := by
  subst hp
  obtain ⟨hx, hby, -, -, -, -, -, -, -, -, locs, X, -⟩ := G
  exact o_step (fun _ hr => XS.aloadN X.here hx rfl (hb hby hd) hl hv hr) k
theorem o_aload (G : OG l Z y bytes maxl ret n0 p e R s m args below meth c T h cells slots) {k0 : Nat} {v : Value} (hd : decode bytes pc = .ok (.aload k0, 2)) (hp : pc + 2 = pc') (hl : Ls[k0]? = some (.val v)) (hv : v.isRef = true) (k : OFin n0 p e below s Q ck sk T (mkF m pc' Ls (v :: rest))) : OFin n0 p e below s Q ck sk T (mkF m pc Ls rest) := by
  subst hp
  obtain ⟨hx, hby, -, -, -, -, -, -, -, -, locs, X, -⟩ := G
  exact o_step (fun _ hr => XS.aload X.here hx rfl (hb hby hd) hl hv hr) k
theorem o_istoreN (G : OG l Z y bytes maxl ret n0 p e R s m args below meth c T h cells slots) {k0 : Fin 4} {v : Int32} {l' : Array Slot} (hd : decode bytes pc = .ok (.istore_n k0, 1)) (hp : pc + 1 = pc') (hl : storeLocals Ls k0.val (.int v) = some l') (k : OFin n0 p e below s Q ck sk T (mkF m pc' l' rest)) : OFin n0 p e below s Q ck sk T (mkF m pc Ls (.int v :: rest)) := by
  subst hp
  obtain ⟨hx, hby, -, -, -, -, -, -, -, -, locs, X, -⟩ := G
  exact o_step (fun _ hr => XS.istoreN X.here hx rfl (hb hby hd) rfl hl hr) k
theorem o_istore (G : OG l Z y bytes maxl ret n0 p e R s m args below meth c T h cells slots) {k0 : Nat} {v : Int32} {l' : Array Slot} (hd : decode bytes pc = .ok (.istore k0, 2)) (hp : pc + 2 = pc') (hl : storeLocals Ls k0 (.int v) = some l') (k : OFin n0 p e below s Q ck sk T (mkF m pc' l' rest)) : OFin n0 p e below s Q ck sk T (mkF m pc Ls (.int v :: rest)) := by
  subst hp
  obtain ⟨hx, hby, -, -, -, -, -, -, -, -, locs, X, -⟩ := G
  exact o_step (fun _ hr => XS.istore X.here hx rfl (hb hby hd) rfl hl hr) k
theorem o_astore (G : OG l Z y bytes maxl ret n0 p e R s m args below meth c T h cells slots) {k0 : Nat} {v : Value} {l' : Array Slot} (hd : decode bytes pc = .ok (.astore k0, 2)) (hp : pc + 2 = pc') (hv : v.isRef = true) (hl : storeLocals Ls k0 v = some l') (k : OFin n0 p e below s Q ck sk T (mkF m pc' l' rest)) : OFin n0 p e below s Q ck sk T (mkF m pc Ls (v :: rest)) := by
  subst hp
  obtain ⟨hx, hby, -, -, -, -, -, -, -, -, locs, X, -⟩ := G
  exact o_step (fun _ hr => XS.astore X.here hx rfl (hb hby hd) rfl hv hl hr) k
theorem o_iconst (G : OG l Z y bytes maxl ret n0 p e R s m args below meth c T h cells slots) {i : Int} {v : Int32} (hd : decode bytes pc = .ok (.iconst i, 1)) (hp : pc + 1 = pc') (hv : Int32.ofInt i = v) (k : OFin n0 p e below s Q ck sk T (mkF m pc' Ls (.int v :: rest))) : OFin n0 p e below s Q ck sk T (mkF m pc Ls rest) := by
  subst hp
  subst hv
  obtain ⟨hx, hby, -, -, -, -, -, -, -, -, locs, X, -⟩ := G
  exact o_step (fun _ hr => XS.iconst X.here hx rfl (hb hby hd) hr) k
theorem o_bipush (G : OG l Z y bytes maxl ret n0 p e R s m args below meth c T h cells slots) {i : Int} {v : Int32} (hd : decode bytes pc = .ok (.bipush i, 2)) (hp : pc + 2 = pc') (hv : (Int8.ofInt i).toInt32 = v) (k : OFin n0 p e below s Q ck sk T (mkF m pc' Ls (.int v :: rest))) : OFin n0 p e below s Q ck sk T (mkF m pc Ls rest) := by
  subst hp
  subst hv
  obtain ⟨hx, hby, -, -, -, -, -, -, -, -, locs, X, -⟩ := G
  exact o_step (fun _ hr => XS.bipush X.here hx rfl (hb hby hd) hr) k
theorem o_iadd (G : OG l Z y bytes maxl ret n0 p e R s m args below meth c T h cells slots) {u w v : Int32} (hd : decode bytes pc = .ok (.iadd, 1)) (hp : pc + 1 = pc') (hv : u + w = v) (k : OFin n0 p e below s Q ck sk T (mkF m pc' Ls (.int v :: rest))) : OFin n0 p e below s Q ck sk T (mkF m pc Ls (.int w :: .int u :: rest)) := by
  subst hp
  subst hv
  obtain ⟨hx, hby, -, -, -, -, -, -, -, -, locs, X, -⟩ := G
  exact o_step (fun _ hr => XS.iadd X.here hx rfl (hb hby hd) rfl hr) k
theorem o_isub (G : OG l Z y bytes maxl ret n0 p e R s m args below meth c T h cells slots) {u w v : Int32} (hd : decode bytes pc = .ok (.isub, 1)) (hp : pc + 1 = pc') (hv : u - w = v) (k : OFin n0 p e below s Q ck sk T (mkF m pc' Ls (.int v :: rest))) : OFin n0 p e below s Q ck sk T (mkF m pc Ls (.int w :: .int u :: rest)) := by
  subst hp
  subst hv
  obtain ⟨hx, hby, -, -, -, -, -, -, -, -, locs, X, -⟩ := G
  exact o_step (fun _ hr => XS.isub X.here hx rfl (hb hby hd) rfl hr) k
theorem o_imul (G : OG l Z y bytes maxl ret n0 p e R s m args below meth c T h cells slots) {u w v : Int32} (hd : decode bytes pc = .ok (.imul, 1)) (hp : pc + 1 = pc') (hv : u * w = v) (k : OFin n0 p e below s Q ck sk T (mkF m pc' Ls (.int v :: rest))) : OFin n0 p e below s Q ck sk T (mkF m pc Ls (.int w :: .int u :: rest)) := by
  subst hp
  subst hv
  obtain ⟨hx, hby, -, -, -, -, -, -, -, -, locs, X, -⟩ := G
  exact o_step (fun _ hr => XS.imul X.here hx rfl (hb hby hd) rfl hr) k
theorem o_iand (G : OG l Z y bytes maxl ret n0 p e R s m args below meth c T h cells slots) {u w v : Int32} (hd : decode bytes pc = .ok (.iand, 1)) (hp : pc + 1 = pc') (hv : u &&& w = v) (k : OFin n0 p e below s Q ck sk T (mkF m pc' Ls (.int v :: rest))) : OFin n0 p e below s Q ck sk T (mkF m pc Ls (.int w :: .int u :: rest)) := by
  subst hp
  subst hv
  obtain ⟨hx, hby, -, -, -, -, -, -, -, -, locs, X, -⟩ := G
  exact o_step (fun _ hr => XS.iand X.here hx rfl (hb hby hd) rfl hr) k
theorem o_ior (G : OG l Z y bytes maxl ret n0 p e R s m args below meth c T h cells slots) {u w v : Int32} (hd : decode bytes pc = .ok (.ior, 1)) (hp : pc + 1 = pc') (hv : u ||| w = v) (k : OFin n0 p e below s Q ck sk T (mkF m pc' Ls (.int v :: rest))) : OFin n0 p e below s Q ck sk T (mkF m pc Ls (.int w :: .int u :: rest)) := by
  subst hp
  subst hv
  obtain ⟨hx, hby, -, -, -, -, -, -, -, -, locs, X, -⟩ := G
  exact o_step (fun _ hr => XS.ior X.here hx rfl (hb hby hd) rfl hr) k
theorem o_ishl (G : OG l Z y bytes maxl ret n0 p e R s m args below meth c T h cells slots) {u v : Int32} {w : Int32} (hd : decode bytes pc = .ok (.ishl, 1)) (hp : pc + 1 = pc') (hv : u <<< (w &&& 31) = v) (k : OFin n0 p e below s Q ck sk T (mkF m pc' Ls (.int v :: rest))) : OFin n0 p e below s Q ck sk T (mkF m pc Ls (.int w :: .int u :: rest)) := by
  subst hp
  subst hv
  obtain ⟨hx, hby, -, -, -, -, -, -, -, -, locs, X, -⟩ := G
  exact o_step (fun _ hr => XS.ishl X.here hx rfl (hb hby hd) rfl hr) k
theorem o_iushr (G : OG l Z y bytes maxl ret n0 p e R s m args below meth c T h cells slots) {u v : Int32} {w : Int32} (hd : decode bytes pc = .ok (.iushr, 1)) (hp : pc + 1 = pc') (hv : (u.toUInt32 >>> (w &&& 31).toUInt32).toInt32 = v) (k : OFin n0 p e below s Q ck sk T (mkF m pc' Ls (.int v :: rest))) : OFin n0 p e below s Q ck sk T (mkF m pc Ls (.int w :: .int u :: rest)) := by
  subst hp
  subst hv
  obtain ⟨hx, hby, -, -, -, -, -, -, -, -, locs, X, -⟩ := G
  exact o_step (fun _ hr => XS.iushr X.here hx rfl (hb hby hd) rfl hr) k
theorem o_lushr (G : OG l Z y bytes maxl ret n0 p e R s m args below meth c T h cells slots) {u v : Int64} {w : Int32} (hd : decode bytes pc = .ok (.lushr, 1)) (hp : pc + 1 = pc') (hv : (u.toUInt64 >>> (w &&& 0x3f).toInt64.toUInt64).toInt64 = v) (k : OFin n0 p e below s Q ck sk T (mkF m pc' Ls (.long v :: rest))) : OFin n0 p e below s Q ck sk T (mkF m pc Ls (.int w :: .long u :: rest)) := by
  subst hp
  subst hv
  obtain ⟨hx, hby, -, -, -, -, -, -, -, -, locs, X, -⟩ := G
  exact o_step (fun _ hr => XS.lushr X.here hx rfl (hb hby hd) rfl hr) k
theorem o_l2i (G : OG l Z y bytes maxl ret n0 p e R s m args below meth c T h cells slots) {u : Int64} {v : Int32} (hd : decode bytes pc = .ok (.l2i, 1)) (hp : pc + 1 = pc') (hv : u.toInt32 = v) (k : OFin n0 p e below s Q ck sk T (mkF m pc' Ls (.int v :: rest))) : OFin n0 p e below s Q ck sk T (mkF m pc Ls (.long u :: rest)) := by
  subst hp
  subst hv
  obtain ⟨hx, hby, -, -, -, -, -, -, -, -, locs, X, -⟩ := G
  exact o_step (fun _ hr => XS.l2i X.here hx rfl (hb hby hd) rfl hr) k
theorem o_irem (G : OG l Z y bytes maxl ret n0 p e R s m args below meth c T h cells slots) {u w v : Int32} (hd : decode bytes pc = .ok (.irem, 1)) (hp : pc + 1 = pc') (hw0 : w ≠ 0) (hv : u % w = v) (k : OFin n0 p e below s Q ck sk T (mkF m pc' Ls (.int v :: rest))) : OFin n0 p e below s Q ck sk T (mkF m pc Ls (.int w :: .int u :: rest)) := by
  subst hp
  subst hv
  obtain ⟨hx, hby, -, -, -, -, -, -, -, -, locs, X, -⟩ := G
  exact o_step (fun _ hr => iremM X hx rfl (hb hby hd) rfl hw0 hr) k
theorem o_dup (G : OG l Z y bytes maxl ret n0 p e R s m args below meth c T h cells slots) {v : Value} (hd : decode bytes pc = .ok (.dup, 1)) (hp : pc + 1 = pc') (hc : v.category = 1) (k : OFin n0 p e below s Q ck sk T (mkF m pc' Ls (v :: v :: rest))) : OFin n0 p e below s Q ck sk T (mkF m pc Ls (v :: rest)) := by
  subst hp
  obtain ⟨hx, hby, -, -, -, -, -, -, -, -, locs, X, -⟩ := G
  exact o_step (fun _ hr => XS.dup X.here hx rfl (hb hby hd) rfl hc hr) k
theorem o_dup2 (G : OG l Z y bytes maxl ret n0 p e R s m args below meth c T h cells slots) {v w : Value} (hc : v.category = 1) (hc' : w.category = 1) (hd : decode bytes pc = .ok (.dup2, 1)) (hp : pc + 1 = pc') (k : OFin n0 p e below s Q ck sk T (mkF m pc' Ls (v :: w :: v :: w :: rest))) : OFin n0 p e below s Q ck sk T (mkF m pc Ls (v :: w :: rest)) := by
  subst hp
  obtain ⟨hx, hby, -, -, -, -, -, -, -, -, locs, X, -⟩ := G
  exact o_step (fun _ hr => Jvm.Free.XT.dup2 X.here hx rfl (hb hby hd) rfl hc hc' hr) k
theorem o_goto (G : OG l Z y bytes maxl ret n0 p e R s m args below meth c T h cells slots) {o : Int} (hd : decode bytes pc = .ok (.goto o, 3)) (ho : 0 ≤ (pc : Int) + o) (hp : ((pc : Int) + o).toNat = pc') (k : OFin n0 p e below s Q ck sk T (mkF m pc' Ls rest)) : OFin n0 p e below s Q ck sk T (mkF m pc Ls rest) := by
  obtain ⟨hx, hby, -, -, -, -, -, -, -, -, locs, X, -⟩ := G
  exact o_step (fun _ hr => XS.goto X.here hx rfl (pc0 := pc) (pc' := pc') rfl (hb hby hd) ho hp hr) k
theorem o_icmp_lt (G : OG l Z y bytes maxl ret n0 p e R s m args below meth c T h cells slots) {o : Int} {pcT : Nat} {u w : Int32} (hd : decode bytes pc = .ok (.if_icmp .lt o, 3)) (ho : 0 ≤ (pc : Int) + o) (hpT : ((pc : Int) + o).toNat = pcT) (hp : pc + 3 = pc') (kT : u < w → OFin n0 p e below s Q ck sk T (mkF m pcT Ls rest)) (kF : ¬ u < w → OFin n0 p e below s Q ck sk T (mkF m pc' Ls rest)) : OFin n0 p e below s Q ck sk T (mkF m pc Ls (.int w :: .int u :: rest)) := by
  subst hp
  obtain ⟨hx, hby, -, -, -, -, -, -, -, -, locs, X, -⟩ := G
  by_cases q : u < w
  · exact o_step (fun _ hr => XS.icmpYes X.here hx rfl (pc0 := pc) (pc' := pcT) rfl (hb hby hd) rfl (tlt q).1 ho hpT hr) (kT q)
  · exact o_step (fun _ hr => XS.icmpNo X.here hx rfl (hb hby hd) rfl (flt q).1 hr) (kF q)
theorem o_icmp_ge (G : OG l Z y bytes maxl ret n0 p e R s m args below meth c T h cells slots) {o : Int} {pcT : Nat} {u w : Int32} (hd : decode bytes pc = .ok (.if_icmp .ge o, 3)) (ho : 0 ≤ (pc : Int) + o) (hpT : ((pc : Int) + o).toNat = pcT) (hp : pc + 3 = pc') (kT : ¬ u < w → OFin n0 p e below s Q ck sk T (mkF m pcT Ls rest)) (kF : u < w → OFin n0 p e below s Q ck sk T (mkF m pc' Ls rest)) : OFin n0 p e below s Q ck sk T (mkF m pc Ls (.int w :: .int u :: rest)) := by
  subst hp
  obtain ⟨hx, hby, -, -, -, -, -, -, -, -, locs, X, -⟩ := G
  by_cases q : ¬ u < w
  · exact o_step (fun _ hr => XS.icmpYes X.here hx rfl (pc0 := pc) (pc' := pcT) rfl (hb hby hd) rfl (flt q).2.1 ho hpT hr) (kT q)
  · have q := Decidable.not_not.mp q
    exact o_step (fun _ hr => XS.icmpNo X.here hx rfl (hb hby hd) rfl (tlt q).2.1 hr) (kF q)
theorem o_icmp_eq (G : OG l Z y bytes maxl ret n0 p e R s m args below meth c T h cells slots) {o : Int} {pcT : Nat} {u w : Int32} (hd : decode bytes pc = .ok (.if_icmp .eq o, 3)) (ho : 0 ≤ (pc : Int) + o) (hpT : ((pc : Int) + o).toNat = pcT) (hp : pc + 3 = pc') (kT : u = w → OFin n0 p e below s Q ck sk T (mkF m pcT Ls rest)) (kF : ¬ u = w → OFin n0 p e below s Q ck sk T (mkF m pc' Ls rest)) : OFin n0 p e below s Q ck sk T (mkF m pc Ls (.int w :: .int u :: rest)) := by
  subst hp
  obtain ⟨hx, hby, -, -, -, -, -, -, -, -, locs, X, -⟩ := G
  by_cases q : u = w
  · exact o_step (fun _ hr => XS.icmpYes X.here hx rfl (pc0 := pc) (pc' := pcT) rfl (hb hby hd) rfl (teq q).1 ho hpT hr) (kT q)
  · exact o_step (fun _ hr => XS.icmpNo X.here hx rfl (hb hby hd) rfl (feq q).1 hr) (kF q)
theorem o_if_eq (G : OG l Z y bytes maxl ret n0 p e R s m args below meth c T h cells slots) {o : Int} {pcT : Nat} {u : Int32} (hd : decode bytes pc = .ok (.ifCond .eq o, 3)) (ho : 0 ≤ (pc : Int) + o) (hpT : ((pc : Int) + o).toNat = pcT) (hp : pc + 3 = pc') (kT : u = (0 : Int32) → OFin n0 p e below s Q ck sk T (mkF m pcT Ls rest)) (kF : ¬ u = (0 : Int32) → OFin n0 p e below s Q ck sk T (mkF m pc' Ls rest)) : OFin n0 p e below s Q ck sk T (mkF m pc Ls (.int u :: rest)) := by
  subst hp
  obtain ⟨hx, hby, -, -, -, -, -, -, -, -, locs, X, -⟩ := G
  by_cases q : u = (0 : Int32)
  · exact o_step (fun _ hr => XS.ifYes X.here hx rfl (pc0 := pc) (pc' := pcT) rfl (hb hby hd) rfl ((if0 _ _).trans (teq q).1) ho hpT hr) (kT q)
  · exact o_step (fun _ hr => XS.ifNo X.here hx rfl (hb hby hd) rfl ((if0 _ _).trans (feq q).1) hr) (kF q)
theorem o_icmp_ne (G : OG l Z y bytes maxl ret n0 p e R s m args below meth c T h cells slots) {o : Int} {pcT : Nat} {u w : Int32} (hd : decode bytes pc = .ok (.if_icmp .ne o, 3)) (ho : 0 ≤ (pc : Int) + o) (hpT : ((pc : Int) + o).toNat = pcT) (hp : pc + 3 = pc') (kT : ¬ u = w → OFin n0 p e below s Q ck sk T (mkF m pcT Ls rest)) (kF : u = w → OFin n0 p e below s Q ck sk T (mkF m pc' Ls rest)) : OFin n0 p e below s Q ck sk T (mkF m pc Ls (.int w :: .int u :: rest)) := by
  subst hp
  obtain ⟨hx, hby, -, -, -, -, -, -, -, -, locs, X, -⟩ := G
  by_cases q : ¬ u = w
  · exact o_step (fun _ hr => XS.icmpYes X.here hx rfl (pc0 := pc) (pc' := pcT) rfl (hb hby hd) rfl (feq q).2 ho hpT hr) (kT q)
  · have q := Decidable.not_not.mp q
    exact o_step (fun _ hr => XS.icmpNo X.here hx rfl (hb hby hd) rfl (teq q).2 hr) (kF q)
theorem o_ldc2 (G : OG l Z y bytes maxl ret n0 p e R s m args below meth c T h cells slots) {index : Nat} {v : Int64} (hd : decode bytes pc = .ok (.ldc2_w index, 3)) (hp : pc + 3 = pc') (w : (Jvm.Cond.constantLong y.cls index v).before a0 Z = true) (k : OFin n0 p e below s Q ck sk T (mkF m pc' Ls (.long v :: rest))) : OFin n0 p e below s Q ck sk T (mkF m pc Ls rest) := by
  subst hp
  obtain ⟨hx, hby, -, hown, -, -, -, hZ, -, -, locs, X, -⟩ := G
  exact o_step (fun _ hr => X.ldc2Long hx hown (mvT hZ w) (g := (mkF m pc Ls rest)) rfl (hb hby hd) _ hr) k
theorem o_ldc (G : OG l Z y bytes maxl ret n0 p e R s m args below meth c T h cells slots) {index : Nat} {v : Int32} (hd : decode bytes pc = .ok (.ldc index, 2)) (hp : pc + 2 = pc') (w : (Jvm.Cond.constant y.cls index v).before a0 Z = true) (k : OFin n0 p e below s Q ck sk T (mkF m pc' Ls (.int v :: rest))) : OFin n0 p e below s Q ck sk T (mkF m pc Ls rest) := by
  subst hp
  obtain ⟨hx, hby, -, hown, -, -, -, hZ, -, -, locs, X, -⟩ := G
  exact o_step (fun _ hr => X.ldcInt hx hown (mvT hZ w) (g := (mkF m pc Ls rest)) rfl (hb hby hd) _ hr) k
theorem o_ireturn {v : Int32} (G : OG l Z y bytes maxl (some .int) n0 p e R s m args below meth c T h cells slots)  (hd : decode bytes pc = .ok (.ireturn, 1)) (hq : Q (some (.int v)) h) (hc : cells ≤ ck) (hs : slots ≤ sk) : OFin n0 p e below s Q ck sk T (mkF m pc Ls (.int v :: rest)) := by
  obtain ⟨hx, hby, -, -, -, hret, hlk, -, eT, hz, locs, X, N⟩ := G
  obtain ⟨fs, hr, hrun, hended, hW, hsame⟩ := X.leave (v := some (.int v)) (fun h => by rw [hret] at h; cases h) hlk
  refine ⟨_, _, retOut X hx hret rfl (Or.inl ⟨rfl, Or.inl rfl, _, rfl⟩) (hb hby hd) hr, hrun, hended, _, _, rfl, ⟨N, ?_, ?_⟩, ⟨_, rfl⟩, hW, hsame.mono hc hs⟩
  · show n0 ≤ T.heap.size
    rw [eT]; exact hz
  · show Q _ T.heap
    rw [eT]; exact hq
theorem o_nreturn {v : Int32} {t : FieldType} (G : OG l Z y bytes maxl (some t) n0 p e R s m args below meth c T h cells slots) (ht : t = .boolean ∨ t = .byte ∨ t = .char ∨ t = .short) (hd : decode bytes pc = .ok (.ireturn, 1)) (hq : Q (some (.int (nar t v))) h) (hc : cells ≤ ck) (hs : slots ≤ sk) : OFin n0 p e below s Q ck sk T (mkF m pc Ls (.int v :: rest)) := by
  obtain ⟨hx, hby, -, -, -, hret, hlk, -, eT, hz, locs, X, N⟩ := G
  obtain ⟨fs, hr, hrun, hended, hW, hsame⟩ := X.leave (v := some (.int (nar t v))) (fun h => by rw [hret] at h; cases h) hlk
  refine ⟨_, _, retN X hx hret ht (hb hby hd) hr, hrun, hended, _, _, rfl, ⟨N, ?_, ?_⟩, ⟨_, rfl⟩, hW, hsame.mono hc hs⟩
  · show n0 ≤ T.heap.size
    rw [eT]; exact hz
  · show Q _ T.heap
    rw [eT]; exact hq
theorem o_return (G : OG l Z y bytes maxl none n0 p e R s m args below meth c T h cells slots) (hd : decode bytes pc = .ok (.return_, 1)) (hq : Q none h) (hc : cells ≤ ck) (hs : slots ≤ sk) : OFin n0 p e below s Q ck sk T (mkF m pc Ls []) := by
  obtain ⟨hx, hby, -, -, -, hret, hlk, -, eT, hz, locs, X, N⟩ := G
  obtain ⟨fs, hr, hrun, hended, hW, hsame⟩ := X.leave (v := none) (fun _ => rfl) hlk
  refine ⟨_, _, X.returnOut hx hret (hb hby hd) hr, hrun, hended, _, _, rfl, ⟨N, ?_, ?_⟩, ⟨_, rfl⟩, hW, hsame.mono hc hs⟩
  · show n0 ≤ T.heap.size
    rw [eT]; exact hz
  · show Q _ T.heap
    rw [eT]; exact hq
theorem o_callS (G : OG l Z y bytes maxl ret n0 p e R s m args below meth c T h cells slots) {z : MethodName} {bz : ByteArray} {mz : Nat} {rz : Option FieldType} {rm : Room} {Q' : Option Value → Heap → Prop} {index W : Nat} {argsL st : List Value} (w1 : (Jvm.Cond.methodLink y.cls index z).before a0 Z = true) (w2 : (Jvm.Cond.static z).before a0 Z = true) (hd : decode bytes pc = .ok (.invokestatic index, 3))
    (hy : z.cls ≠ "java/lang/invoke/MethodHandle" ∧ z.cls ≠ "java/lang/invoke/VarHandle") (w3 : (Jvm.Cond.initialized z.cls).before a0 Z = true) (w4 : (Jvm.Cond.code z bz mz rz).before a0 Z = true)
    (hM : OMet l Z z bz mz rz rm argsL.toArray h n0 rm.cells rm.slots Q') (hfr : rm.frames + 1 ≤ R.frames) (hlo : W + (mz + 11) + rm.locals ≤ R.locals) (hsz : Ls.size = maxl)
    (hlen : ∀ sig, parseMethodDescriptor z.desc = some sig → argsL.length = sig.parameters.length) (hst : st = argsL.reverse ++ rest) (hW : (rest.map fun v => v.category).sum ≤ W) (hp : pc + 3 = pc') (hc : cells + rm.cells ≤ R.cells) (hs : slots + rm.slots ≤ R.slots)
    (k : ∀ (v : Option Value) (T' : State) (h' : Heap), OG l Z y bytes maxl ret n0 p e R s m args below meth c T' h' (cells + rm.cells) (slots + rm.slots) → Q' v h' → OFin n0 p e below s Q ck sk T' (mkF m pc' Ls (v.toList ++ rest))) : OFin n0 p e below s Q ck sk T (mkF m pc Ls st) := by
  subst hp hst
  obtain ⟨hx, hby, hml, hown, hnm, hret, hlk, hZ, eT, hz, locs, X, N⟩ := G
  obtain ⟨v, vm1, ⟨T', L', k', n'⟩, -, X', ⟨L, ⟨N', z', hQ⟩, l1, y1, z1⟩, st0⟩ := Jvm.LawKit.callS X hx (y := z) hown (mvT hZ w1) (mvT hZ w2) (mvT hZ w3) (mvT hZ w4) hy (backOf (W := W) (Q := fun v h L => Fr n0 L ∧ n0 ≤ h.size ∧ Q' v h) (hM []) hZ w4 w3 hfr hlo) (g := (mkF m pc Ls (argsL.reverse ++ rest))) rfl (by show Ls.size = _; rw [hml]; exact hsz) (argsL := argsL) (rest := rest) hlen rfl (by show 2 * 0 + _ ≤ _; omega) (hb hby hd) (fun _ _ => ⟨rfl, eT, hc, hs⟩)
  dsimp only [Pt.U, Pt.locs, Pt.cells, Pt.slots] at X' l1 y1 z1 st0 hQ N' z'
  subst l1 y1 z1
  exact o_step st0 (k v T' T'.heap ⟨hx, hby, hml, hown, hnm, hret, hlk, hZ, rfl, z', _, X', Fr.app N N'⟩ hQ)
theorem o_callI (G : OG l Z y bytes maxl ret n0 p e R s m args below meth c T h cells slots) {z : MethodName} {bz : ByteArray} {mz : Nat} {rz : Option FieldType} {rm : Room} {Q' : Option Value → Heap → Prop} {index W : Nat} {argsL st : List Value} {a : Addr} (hz1 : z.name = "<init>") (w1 : (Jvm.Cond.methodLink y.cls index z).before a0 Z = true) (w2 : (Jvm.Cond.instanceMethod z).before a0 Z = true) (hrz : rz = none) (hd : decode bytes pc = .ok (.invokespecial index, 3))
    (hy : z.cls ≠ "java/lang/invoke/MethodHandle" ∧ z.cls ≠ "java/lang/invoke/VarHandle") (w3 : (Jvm.Cond.initialized z.cls).before a0 Z = true) (w4 : (Jvm.Cond.code z bz mz rz).before a0 Z = true)
    (hM : OMet l Z z bz mz rz rm (.ref a :: argsL).toArray h n0 rm.cells rm.slots Q') (hfr : rm.frames + 1 ≤ R.frames) (hlo : W + (mz + 11) + rm.locals ≤ R.locals) (hsz : Ls.size = maxl)
    (hlen : ∀ sig, parseMethodDescriptor z.desc = some sig → argsL.length = sig.parameters.length) (hst : st = argsL.reverse ++ .ref a :: rest) (hW : (rest.map fun v => v.category).sum ≤ W) (hp : pc + 3 = pc') (hc : cells + rm.cells ≤ R.cells) (hs : slots + rm.slots ≤ R.slots)
    (k : ∀ (v : Option Value) (T' : State) (h' : Heap), OG l Z y bytes maxl ret n0 p e R s m args below meth c T' h' (cells + rm.cells) (slots + rm.slots) → Q' v h' → OFin n0 p e below s Q ck sk T' (mkF m pc' Ls (v.toList ++ rest))) : OFin n0 p e below s Q ck sk T (mkF m pc Ls st) := by
  subst hp hst
  obtain ⟨hx, hby, hml, hown, hnm, hret, hlk, hZ, eT, hz, locs, X, N⟩ := G
  subst hrz
  obtain ⟨v, vm1, ⟨T', L', k', n'⟩, -, X', ⟨L, ⟨N', z', hQ⟩, l1, y1, z1⟩, st0⟩ := X.specialBack hx (y := z) hz1 hown (mvT hZ w1) (mvT hZ w2) (mvT hZ w4) hy (backOf (W := W) (Q := fun v h L => Fr n0 L ∧ n0 ≤ h.size ∧ Q' v h) (hM []) hZ w4 w3 hfr hlo) (g := (mkF m pc Ls (argsL.reverse ++ .ref a :: rest))) rfl (by show Ls.size = _; rw [hml]; exact hsz) (Steps.refl _) (a := a) (argsL := argsL) (rest := rest) hlen rfl (by show 2 * 0 + _ ≤ _; omega) (hb hby hd) (fun _ _ => ⟨rfl, eT, hc, hs⟩)
  dsimp only [Pt.U, Pt.locs, Pt.cells, Pt.slots] at X' l1 y1 z1 st0 hQ N' z'
  subst l1 y1 z1
  exact o_step (fun _ hr => st0.trans hr) (k v T' T'.heap ⟨hx, hby, hml, hown, hnm, hret, hlk, hZ, rfl, z', _, X', Fr.app N N'⟩ hQ)
theorem o_callV (G : OG l Z y bytes maxl ret n0 p e R s m args below meth c T h cells slots) {z : MethodName} {bz : ByteArray} {mz : Nat} {rz : Option FieldType} {rm : Room} {Q' : Option Value → Heap → Prop} {index W : Nat} {argsL st : List Value} {a : Addr} {C : String} (E : Exa Z h a C) (w1 : (Jvm.Cond.methodLink y.cls index z).before a0 Z = true) (w2 : (Jvm.Cond.instanceMethod z).before a0 Z = true) (w5 : (Jvm.Cond.declares z).before a0 Z = true) (w6 : (Jvm.Cond.selects C z z).before a0 Z = true) (hd : decode bytes pc = .ok (.invokevirtual index, 3))
    (hy : z.cls ≠ "java/lang/invoke/MethodHandle" ∧ z.cls ≠ "java/lang/invoke/VarHandle") (w3 : (Jvm.Cond.initialized z.cls).before a0 Z = true) (w4 : (Jvm.Cond.code z bz mz rz).before a0 Z = true)
    (hM : OMet l Z z bz mz rz rm (.ref a :: argsL).toArray h n0 rm.cells rm.slots Q') (hfr : rm.frames + 1 ≤ R.frames) (hlo : W + (mz + 11) + rm.locals ≤ R.locals) (hsz : Ls.size = maxl)
    (hlen : ∀ sig, parseMethodDescriptor z.desc = some sig → argsL.length = sig.parameters.length) (hst : st = argsL.reverse ++ .ref a :: rest) (hW : (rest.map fun v => v.category).sum ≤ W) (hp : pc + 3 = pc') (hc : cells + rm.cells ≤ R.cells) (hs : slots + rm.slots ≤ R.slots)
    (k : ∀ (v : Option Value) (T' : State) (h' : Heap), OG l Z y bytes maxl ret n0 p e R s m args below meth c T' h' (cells + rm.cells) (slots + rm.slots) → Q' v h' → OFin n0 p e below s Q ck sk T' (mkF m pc' Ls (v.toList ++ rest))) : OFin n0 p e below s Q ck sk T (mkF m pc Ls st) := by
  subst hp hst
  obtain ⟨hx, hby, hml, hown, hnm, hret, hlk, hZ, eT, hz, locs, X, N⟩ := G
  obtain ⟨cq, kq, qa, qb, qc⟩ := isOf hZ eT E
  obtain ⟨v, vm1, ⟨T', L', k', n'⟩, -, X', ⟨L, ⟨N', z', hQ⟩, l1, y1, z1⟩, st0⟩ := X.virtualBack hx (y := z) (z := z) hown (mvT hZ w1) (mvT hZ w5) (notFace_of_selects (args := #[]) (mvT hZ w6)) (mvT hZ w6) (mvT hZ w2) hy (backOf (W := W) (Q := fun v h L => Fr n0 L ∧ n0 ≤ h.size ∧ Q' v h) (hM []) hZ w4 w3 hfr hlo) qa qc (g := (mkF m pc Ls (argsL.reverse ++ .ref a :: rest))) rfl (by show Ls.size = _; rw [hml]; exact hsz) (Steps.refl _) (argsL := argsL) (rest := rest) hlen rfl (by show 2 * 0 + _ ≤ _; omega) (hb hby hd) (fun _ _ => ⟨rfl, eT, hc, hs⟩)
  dsimp only [Pt.U, Pt.locs, Pt.cells, Pt.slots] at X' l1 y1 z1 st0 hQ N' z'
  subst l1 y1 z1
  exact o_step (fun _ hr => st0.trans hr) (k v T' T'.heap ⟨hx, hby, hml, hown, hnm, hret, hlk, hZ, rfl, z', _, X', Fr.app N N'⟩ hQ)
theorem o_callPr (G : OG l Z y bytes maxl ret n0 p e R s m args below meth c T h cells slots) {z : MethodName} {bz : ByteArray} {mz : Nat} {rz : Option FieldType} {rm : Room} {Q' : Option Value → Heap → Prop} {index W : Nat} {argsL st : List Value} {a : Addr} {C : String} {kk : Nat} (E : Exa Z h a C) (w1 : (Jvm.Cond.methodLink y.cls index z).before a0 Z = true) (w2 : (Jvm.Cond.instanceMethod z).before a0 Z = true) (w5 : (Jvm.Cond.privateMethod z).before a0 Z = true) (w6 : (Jvm.Cond.instantiable z.cls kk).before a0 Z = true) (hd : decode bytes pc = .ok (.invokevirtual index, 3))
    (hy : z.cls ≠ "java/lang/invoke/MethodHandle" ∧ z.cls ≠ "java/lang/invoke/VarHandle") (w3 : (Jvm.Cond.initialized z.cls).before a0 Z = true) (w4 : (Jvm.Cond.code z bz mz rz).before a0 Z = true)
    (hM : OMet l Z z bz mz rz rm (.ref a :: argsL).toArray h n0 rm.cells rm.slots Q') (hfr : rm.frames + 1 ≤ R.frames) (hlo : W + (mz + 11) + rm.locals ≤ R.locals) (hsz : Ls.size = maxl)
    (hlen : ∀ sig, parseMethodDescriptor z.desc = some sig → argsL.length = sig.parameters.length) (hst : st = argsL.reverse ++ .ref a :: rest) (hW : (rest.map fun v => v.category).sum ≤ W) (hp : pc + 3 = pc') (hc : cells + rm.cells ≤ R.cells) (hs : slots + rm.slots ≤ R.slots)
    (k : ∀ (v : Option Value) (T' : State) (h' : Heap), OG l Z y bytes maxl ret n0 p e R s m args below meth c T' h' (cells + rm.cells) (slots + rm.slots) → Q' v h' → OFin n0 p e below s Q ck sk T' (mkF m pc' Ls (v.toList ++ rest))) : OFin n0 p e below s Q ck sk T (mkF m pc Ls st) := by
  subst hp hst
  obtain ⟨hx, hby, hml, hown, hnm, hret, hlk, hZ, eT, hz, locs, X, N⟩ := G
  obtain ⟨cq, hq1, hq2⟩ := E.cell
  have hpr : s.PrivateAt z := Cond.privateMethod_at (mvP hZ w5 (args := #[]))
  obtain ⟨ci, ki, i1, i2, -, i4, -⟩ := Cond.instantiable_spec (mvT (args := #[]) hZ w6)
  have hni : ki.isInterface = false := (Bool.or_eq_false_iff.mp i4).1
  have hsel : (Jvm.Cond.selects z.cls z z).before args s = true := selects_self_of_private i1 i2 hni hpr (mvT hZ w2) hy
  obtain ⟨v, vm1, ⟨T', L', k', n'⟩, -, X', ⟨L, ⟨N', z', hQ⟩, l1, y1, z1⟩, st0⟩ := X.privateBack hx (y := z) hown (mvT hZ w1) (mvT hZ w2) hsel hpr (mvT hZ w4) hy (backOf (W := W) (Q := fun v h L => Fr n0 L ∧ n0 ≤ h.size ∧ Q' v h) (hM []) hZ w4 w3 hfr hlo) (g := (mkF m pc Ls (argsL.reverse ++ .ref a :: rest))) rfl (by show Ls.size = _; rw [hml]; exact hsz) (Steps.refl _) (a := a) (by rw [eT]; exact hq1) hq2 (argsL := argsL) (rest := rest) hlen rfl (by show 2 * 0 + _ ≤ _; omega) (hb hby hd) (fun _ _ => ⟨rfl, eT, hc, hs⟩)
  dsimp only [Pt.U, Pt.locs, Pt.cells, Pt.slots] at X' l1 y1 z1 st0 hQ N' z'
  subst l1 y1 z1
  exact o_step (fun _ hr => st0.trans hr) (k v T' T'.heap ⟨hx, hby, hml, hown, hnm, hret, hlk, hZ, rfl, z', _, X', Fr.app N N'⟩ hQ)
theorem o_initO (G : OG l Z y bytes maxl ret n0 p e R s m args below meth c T h cells slots) {idx W : Nat} {a : Addr} (w1 : (Jvm.Cond.methodLink y.cls idx Lib.objectInit).before a0 Z = true) (w2 : (Jvm.Cond.instanceMethod Lib.objectInit).before a0 Z = true) (w3 : (Jvm.Cond.code Lib.objectInit ⟨#[0xb1]⟩ 1 none).before a0 Z = true) (hd : decode bytes pc = .ok (.invokespecial idx, 3)) (hp : pc + 3 = pc') (hsz : Ls.size = maxl) (hf : 1 ≤ R.frames) (hW : (rest.map fun v => v.category).sum ≤ W) (hl : W + 12 ≤ R.locals)
    (k : ∀ T', OG l Z y bytes maxl ret n0 p e R s m args below meth c T' h cells slots → OFin n0 p e below s Q ck sk T' (mkF m pc' Ls rest)) : OFin n0 p e below s Q ck sk T (mkF m pc Ls (.ref a :: rest)) := by
  subst hp
  obtain ⟨hx, hby, hml, hown, hnm, hret, hlk, hZ, eT, hz, locs, X, N⟩ := G
  obtain ⟨T', X', e', st⟩ := initO X hx hZ hown w1 w2 w3 eT (g := (mkF m pc Ls (.ref a :: rest))) rfl (by show Ls.size = _; rw [hml]; exact hsz) rfl (hb hby hd) hf (W := W) (by show 2 * 0 + _ ≤ _; omega) hl
  exact o_step st (k T' ⟨hx, hby, hml, hown, hnm, hret, hlk, hZ, e', hz, _, X', N⟩)
theorem o_new (G : OG l Z y bytes maxl ret n0 p e R s m args below meth c T h cells slots) {C : String} {index n : Nat} (w : (Jvm.Cond.classLink y.cls index C).before a0 Z = true) (wi : (Jvm.Cond.instantiable C n).before a0 Z = true) (wz : (Jvm.Cond.initialized C).before a0 Z = true) (hd : decode bytes pc = .ok (.new index, 3)) (hp : pc + 3 = pc') (hc : cells + 1 ≤ R.cells) (hl : slots + n ≤ R.slots)
    (k : ∀ (T' : State) (h' : Heap) (a : Addr), OG l Z y bytes maxl ret n0 p e R s m args below meth c T' h' (cells + 1) (slots + n) → a = h.size → n0 ≤ a → Ext h h' → Exa Z h' a C → (∀ {O nm d : String} {ty : FieldType}, Laid Z a0 C O nm d → parseFieldDescriptor d = some ty → Fld Z h' a O nm d (defaultValue ty)) → OFin n0 p e below s Q ck sk T' (mkF m pc' Ls (.ref a :: rest))) : OFin n0 p e below s Q ck sk T (mkF m pc Ls rest) := by
  subst hp
  obtain ⟨hx, hby, hml, hown, hnm, hret, hlk, hZ, eT, hz, locs, X, N⟩ := G
  obtain ⟨T', h', X', e', E', A', D', -, st⟩ := newO X hx hZ hown w wi wz eT (g := (mkF m pc Ls rest)) rfl (hb hby hd) hc hl
  exact o_step st (k T' h' h.size ⟨hx, hby, hml, hown, hnm, hret, hlk, hZ, e', Nat.le_trans hz E'.1, _, X', N⟩ rfl hz E' A' D')
theorem o_getF (G : OG l Z y bytes maxl ret n0 p e R s m args below meth c T h cells slots) {R0 O nm d host : String} {index : Nat} {a : Addr} {v : Value} (w : (Jvm.Cond.fieldLink y.cls index R0 nm d).before a0 Z = true ∨ (Jvm.Cond.fieldLinkNest y.cls index R0 nm d host).before a0 Z = true) (via : Via Z R0 O nm d) (F : Fld Z h a O nm d v) (hd : decode bytes pc = .ok (.getfield index, 3)) (hp : pc + 3 = pc')
    (k : ∀ T', OG l Z y bytes maxl ret n0 p e R s m args below meth c T' h cells slots → OFin n0 p e below s Q ck sk T' (mkF m pc' Ls (v :: rest))) : OFin n0 p e below s Q ck sk T (mkF m pc Ls (.ref a :: rest)) := by
  subst hp
  obtain ⟨hx, hby, hml, hown, hnm, hret, hlk, hZ, eT, hz, locs, X, N⟩ := G
  obtain ⟨T', X', e', st⟩ := getF X hx hZ hown w via eT F (g := (mkF m pc Ls (.ref a :: rest))) rfl rfl (hb hby hd)
  exact o_step st (k T' ⟨hx, hby, hml, hown, hnm, hret, hlk, hZ, e', hz, _, X', N⟩)
theorem o_putF (G : OG l Z y bytes maxl ret n0 p e R s m args below meth c T h cells slots) {R0 O nm d host C : String} {index kk : Nat} {ty : FieldType} {a : Addr} {v old : Value} (w : (Jvm.Cond.fieldLink y.cls index R0 nm d).before a0 Z = true ∨ (Jvm.Cond.fieldLinkNest y.cls index R0 nm d host).before a0 Z = true) (via : Via Z R0 O nm d) (F : Fld Z h a O nm d old) (E : Exa Z h a C) (L : (Jvm.Cond.lays C O nm d).before a0 Z = true ∨ ((Jvm.Cond.laysFinal C O nm d).before a0 Z = true ∧ y.cls = O ∧ y.name = "<init>")) (wi : (Jvm.Cond.instantiable C kk).before a0 Z = true)
    (hty : parseFieldDescriptor d = some ty) (hn : narrow ty v = v) (hf : fits ty v = true) (hg : n0 ≤ a) (hd : decode bytes pc = .ok (.putfield index, 3)) (hp : pc + 3 = pc')
    (k : ∀ (T' : State) (h' : Heap), OG l Z y bytes maxl ret n0 p e R s m args below meth c T' h' cells slots → Wr h h' a (Jvm.RoadKit.slotOf Z O nm d) v → OFin n0 p e below s Q ck sk T' (mkF m pc' Ls rest)) : OFin n0 p e below s Q ck sk T (mkF m pc Ls (v :: .ref a :: rest)) := by
  subst hp
  obtain ⟨hx, hby, hml, hown, hnm, hret, hlk, hZ, eT, hz, locs, X, N⟩ := G
  obtain ⟨T', h', X', e', W', st⟩ := putF X hx hZ hown w via eT F E (L.imp id (fun q => ⟨q.1, q.2.1, hnm.trans q.2.2⟩)) wi hty hn hf (g := (mkF m pc Ls (v :: .ref a :: rest))) rfl rfl (hb hby hd)
  exact o_step st (k T' h' ⟨hx, hby, hml, hown, hnm, hret, hlk, hZ, e', by rw [W'.size]; exact hz, _, X', Fr.snoc X' N hg⟩ W')
/-- an array of n places at a; place j holds f j -/
def OArr (Z : State) (h : Heap) (a : Addr) (ty : FieldType) (n : Nat) (f : Nat → Value) : Prop := ∃ cl : Cell, Arr Z h a cl ty ∧ cl.slots.size = n ∧ ∀ j, j < n → cl.slots[j]? = some (f j)
def o_set (f : Nat → Value) (i : Nat) (v : Value) : Nat → Value := fun j => if j = i then v else f j
theorem OArr.lt {a : Addr} {ty : FieldType} {n : Nat} {f : Nat → Value} (A : OArr Z h a ty n f) : a < h.size := by obtain ⟨cl, A, -⟩ := A; exact A.lt
theorem OArr.ext {h' : Heap} {a : Addr} {ty : FieldType} {n : Nat} {f : Nat → Value} (A : OArr Z h a ty n f) (E : Ext h h') : OArr Z h' a ty n f := by obtain ⟨cl, A, r⟩ := A; exact ⟨cl, A.ext E, r⟩
theorem OArr.other {h' : Heap} {a b : Addr} {sl : Nat} {v : Value} {ty : FieldType} {n : Nat} {f : Nat → Value} (A : OArr Z h b ty n f) (W : Wr h h' a sl v) (q : b ≠ a) : OArr Z h' b ty n f := by obtain ⟨cl, A, r⟩ := A; exact ⟨cl, A.other W q, r⟩
theorem OArr.keep {h' : Heap} {a : Addr} {ws : List Addr} {ty : FieldType} {n : Nat} {f : Nat → Value} (A : OArr Z h a ty n f) (K : Keep h h' ws) (q : a ∉ ws) : OArr Z h' a ty n f := by obtain ⟨cl, A, r⟩ := A; exact ⟨cl, ⟨K.2.1 a cl A.1 q, A.2⟩, r⟩
theorem OArr.same {h' : Heap} {a : Addr} {i : Nat} {v : Value} {ty : FieldType} {n : Nat} {f : Nat → Value} (A : OArr Z h a ty n f) (W : Wr h h' a i v) : OArr Z h' a ty n (o_set f i v) := by
  obtain ⟨cl, A, S, H⟩ := A
  have hi : i < n := by
    obtain ⟨cell, h1, -, h3, -⟩ := W
    cases h1.symm.trans A.1
    rw [← S]; exact h3
  refine ⟨_, A.same W, by rw [sz_set]; exact S, fun j hj => ?_⟩
  by_cases q : j = i
  · subst q; simp [Cell.setSlot, o_set, S, hi]
  · have := H j hj
    simp only [Cell.setSlot, o_set, q, if_false]
    rw [Array.getElem?_setIfInBounds_ne (Ne.symm q)]; exact this
theorem OArr.congr {a : Addr} {ty : FieldType} {n : Nat} {f f' : Nat → Value} (A : OArr Z h a ty n f) (q : ∀ j, j < n → f j = f' j) : OArr Z h a ty n f' := by
  obtain ⟨cl, A, S, H⟩ := A
  exact ⟨cl, A, S, fun j hj => by rw [← q j hj]; exact H j hj⟩
theorem o_clamp {j : Int32} {i : Nat} (h : j.toInt = (i : Int)) : ¬ j < 0 ∧ j.toNatClampNeg = i := by
  constructor
  · rw [Int32.lt_iff_toInt_lt, h]; have : (0 : Int32).toInt = 0 := rfl
    omega
  · simp only [Int32.toNatClampNeg, h]; rfl
theorem o_arraylength (G : OG l Z y bytes maxl ret n0 p e R s m args below meth c T h cells slots) {a : Addr} {ty : FieldType} {n : Nat} {f : Nat → Value} {v : Int32} (A : OArr Z h a ty n f) (hv : Nat.toInt32 n = v) (hd : decode bytes pc = .ok (.arraylength, 1)) (hp : pc + 1 = pc') (k : OFin n0 p e below s Q ck sk T (mkF m pc' Ls (.int v :: rest))) : OFin n0 p e below s Q ck sk T (mkF m pc Ls (.ref a :: rest)) := by
  subst hp hv
  obtain ⟨hx, hby, -, -, -, -, -, hZ, eT, -, locs, X, -⟩ := G
  obtain ⟨cl, A, S, -⟩ := A
  subst S
  exact o_step (fun _ hr => X.arraylength hx (by rw [eT]; exact A.1) (State.isArrayOf_alike hZ.alike A.2.1) (g := (mkF m pc Ls (.ref a :: rest))) rfl rfl (hb hby hd) _ hr) k
theorem o_iaload (G : OG l Z y bytes maxl ret n0 p e R s m args below meth c T h cells slots) {a : Addr} {n i : Nat} {f : Nat → Value} {j : Int32} {v : Value} (A : OArr Z h a .int n f) (hj : j.toInt = (i : Int)) (hi : i < n) (hv : f i = v) (hd : decode bytes pc = .ok (.iaload, 1)) (hp : pc + 1 = pc') (k : OFin n0 p e below s Q ck sk T (mkF m pc' Ls (v :: rest))) : OFin n0 p e below s Q ck sk T (mkF m pc Ls (.int j :: .ref a :: rest)) := by
  subst hp hv
  obtain ⟨hx, hby, -, -, -, -, -, hZ, eT, -, locs, X, -⟩ := G
  obtain ⟨cl, A, S, H⟩ := A
  obtain ⟨q1, q2⟩ := o_clamp hj
  exact o_step (fun _ hr => X.iaload hx (j := j) (v := f i) (by rw [eT]; exact A.1) (State.isArrayOf_alike hZ.alike A.2.1) A.2.2 (by rw [S, q2]; exact fun q => q.elim q1 (fun q => absurd hi (Nat.not_lt.mpr q))) (by rw [q2]; exact H i hi) (g := (mkF m pc Ls (.int j :: .ref a :: rest))) rfl rfl (hb hby hd) _ hr) k
theorem o_aaload (G : OG l Z y bytes maxl ret n0 p e R s m args below meth c T h cells slots) {ty : FieldType} (hty : ty.isReference = true) {a : Addr} {n i : Nat} {f : Nat → Value} {j : Int32} {v : Value} (A : OArr Z h a ty n f) (hj : j.toInt = (i : Int)) (hi : i < n) (hv : f i = v) (hd : decode bytes pc = .ok (.aaload, 1)) (hp : pc + 1 = pc') (k : OFin n0 p e below s Q ck sk T (mkF m pc' Ls (v :: rest))) : OFin n0 p e below s Q ck sk T (mkF m pc Ls (.int j :: .ref a :: rest)) := by
  subst hp hv
  obtain ⟨hx, hby, -, -, -, -, -, hZ, eT, -, locs, X, -⟩ := G
  obtain ⟨cl, A, S, H⟩ := A
  obtain ⟨q1, q2⟩ := o_clamp hj
  exact o_step (fun _ hr => X.aaload hx (j := j) (v := f i) (by rw [eT]; exact A.1) (State.isArrayOf_alike hZ.alike A.2.1) hty A.2.2 (by rw [S, q2]; exact fun q => q.elim q1 (fun q => absurd hi (Nat.not_lt.mpr q))) (by rw [q2]; exact H i hi) (g := (mkF m pc Ls (.int j :: .ref a :: rest))) rfl rfl (hb hby hd) _ hr) k
theorem o_iastore (G : OG l Z y bytes maxl ret n0 p e R s m args below meth c T h cells slots) {a : Addr} {n i : Nat} {f : Nat → Value} {j : Int32} {v : Int32} (A : OArr Z h a .int n f) (hg : n0 ≤ a) (hj : j.toInt = (i : Int)) (hi : i < n) (hd : decode bytes pc = .ok (.iastore, 1)) (hp : pc + 1 = pc')
    (k : ∀ (T' : State) (h' : Heap), OG l Z y bytes maxl ret n0 p e R s m args below meth c T' h' cells slots → Wr h h' a i (.int v) → OArr Z h' a .int n (o_set f i (.int v)) → OFin n0 p e below s Q ck sk T' (mkF m pc' Ls rest)) : OFin n0 p e below s Q ck sk T (mkF m pc Ls (.int v :: .int j :: .ref a :: rest)) := by
  subst hp
  have A0 := A
  obtain ⟨hx, hby, hml, hown, hnm, hret, hlk, hZ, eT, hz, locs, X, N⟩ := G
  obtain ⟨cl, A, S, H⟩ := A
  obtain ⟨q1, q2⟩ := o_clamp hj
  obtain ⟨T', h', X', e', W', st⟩ := stI X hx hZ eT A (j := j) (x := v) (by rw [S, q2]; exact fun q => q.elim q1 (fun q => absurd hi (Nat.not_lt.mpr q))) (g := (mkF m pc Ls (.int v :: .int j :: .ref a :: rest))) rfl rfl (hb hby hd)
  rw [q2] at W' X'
  exact o_step st (k T' h' ⟨hx, hby, hml, hown, hnm, hret, hlk, hZ, e', by rw [W'.size]; exact hz, _, X', Fr.snoc X' N hg⟩ W' (A0.same W'))
theorem o_newarray (G : OG l Z y bytes maxl ret n0 p e R s m args below meth c T h cells slots) {aty : ArrayType} {n : Int32} {N cap : Nat} (w : (Jvm.Cond.arrayClass (newarray.typeOf aty)).before a0 Z = true) (hn : n.toInt = (N : Int)) (hcap : N ≤ cap) (hb8 : cap * 8 ≤ 536870912) (hd : decode bytes pc = .ok (.newarray aty, 2)) (hp : pc + 2 = pc') (hc : cells + 1 ≤ R.cells) (hl : slots + cap ≤ R.slots)
    (k : ∀ (T' : State) (h' : Heap) (a : Addr), OG l Z y bytes maxl ret n0 p e R s m args below meth c T' h' (cells + 1) (slots + cap) → a = h.size → n0 ≤ a → Ext h h' → OArr Z h' a (newarray.typeOf aty) N (fun _ => defaultValue (newarray.typeOf aty)) → OFin n0 p e below s Q ck sk T' (mkF m pc' Ls (.ref a :: rest))) : OFin n0 p e below s Q ck sk T (mkF m pc Ls (.int n :: rest)) := by
  subst hp
  obtain ⟨hx, hby, hml, hown, hnm, hret, hlk, hZ, eT, hz, locs, X, N'⟩ := G
  obtain ⟨q1, q2⟩ := o_clamp hn
  obtain ⟨T', h', cA, X', e', E', A', st⟩ := newP X hx hZ w eT (g := (mkF m pc Ls (.int n :: rest))) rfl (hb hby hd) rfl q1 (cap := cap) (by rw [q2]; exact hcap) hb8 hc hl
  refine o_step st (k T' h' h.size ⟨hx, hby, hml, hown, hnm, hret, hlk, hZ, e', Nat.le_trans hz E'.1, _, X', N'⟩ rfl hz E' ⟨_, A', by rw [sz_new, q2], fun j hj => ?_⟩)
  simp [newA, q2, hj]
theorem o_newarrayE (G : OG l Z y bytes maxl ret n0 p e R s m args below meth c T h cells slots) {aty : ArrayType} {n : Int32} {N cap : Nat} {ad : String} (had : "[" ++ (newarray.typeOf aty).toString = ad) (w : (Jvm.Cond.arrayClass (newarray.typeOf aty)).before a0 Z = true) (hn : n.toInt = (N : Int)) (hcap : N ≤ cap) (hb8 : cap * 8 ≤ 536870912) (hd : decode bytes pc = .ok (.newarray aty, 2)) (hp : pc + 2 = pc') (hc : cells + 1 ≤ R.cells) (hl : slots + cap ≤ R.slots)
    (k : ∀ (T' : State) (h' : Heap) (a : Addr), OG l Z y bytes maxl ret n0 p e R s m args below meth c T' h' (cells + 1) (slots + cap) → a = h.size → n0 ≤ a → Ext h h' → OArr Z h' a (newarray.typeOf aty) N (fun _ => defaultValue (newarray.typeOf aty)) → Exa Z h' a ad → OFin n0 p e below s Q ck sk T' (mkF m pc' Ls (.ref a :: rest))) : OFin n0 p e below s Q ck sk T (mkF m pc Ls (.int n :: rest)) := by
  subst hp
  subst had
  obtain ⟨hx, hby, hml, hown, hnm, hret, hlk, hZ, eT, hz, locs, X, N'⟩ := G
  obtain ⟨q1, q2⟩ := o_clamp hn
  have hcb : componentBytes (newarray.typeOf aty) ≤ 8 := by cases aty <;> decide
  have hby8 : n.toNatClampNeg * componentBytes (newarray.typeOf aty) ≤ 536870912 := by
    rw [q2]; exact Nat.le_trans (Nat.mul_le_mul hcap hcb) hb8
  obtain ⟨cA, kA, comp, f1, f2, f3, X', st⟩ := X.newarrayPrim hx (mvA hZ w) (g := (mkF m pc Ls (.int n :: rest))) rfl (hb hby hd) rfl q1 hby8 hc (by rw [q2]; omega)
  subst eT
  have f1' : Z.vm.findClass ("[" ++ (newarray.typeOf aty).toString) = some cA := by rw [← hZ.alike.findClass]; exact f1
  obtain ⟨kZ, z1, -⟩ := Vm.findClass_spec f1'
  obtain ⟨k', z2, z3⟩ := hZ.alike.2.2 _ _ z1
  cases f2.symm.trans z2
  have kk : kZ.kind = .array comp (newarray.typeOf aty) := by rw [← f3, z3]
  have hlast : (T.pushCell { cls := cA, slots := Array.replicate n.toNatClampNeg (defaultValue (newarray.typeOf aty)), vm := .none }).heap[T.heap.size]? = some { cls := cA, slots := Array.replicate n.toNatClampNeg (defaultValue (newarray.typeOf aty)), vm := .none } := by
    show (T.heap.push _)[T.heap.size]? = _
    simp
  have hE : Ext T.heap (T.pushCell { cls := cA, slots := Array.replicate n.toNatClampNeg (defaultValue (newarray.typeOf aty)), vm := .none }).heap := ext_of fun a q => Array.getElem?_push_lt q |>.trans (Array.getElem?_eq_getElem q).symm
  have hA : Arr Z (T.pushCell { cls := cA, slots := Array.replicate n.toNatClampNeg (defaultValue (newarray.typeOf aty)), vm := .none }).heap T.heap.size { cls := cA, slots := Array.replicate n.toNatClampNeg (defaultValue (newarray.typeOf aty)), vm := .none } (newarray.typeOf aty) := ⟨hlast, ⟨by simp, kZ, z1, comp, kk⟩, by simp⟩
  refine o_step st (k _ _ T.heap.size ⟨hx, hby, hml, hown, hnm, hret, hlk, hZ, rfl, Nat.le_trans hz hE.1, _, X'.more (Nat.le_refl _) (by rw [q2]; omega), N'⟩ rfl hz hE ⟨_, hA, by simp [q2], fun j hj => ?_⟩ (exa_arr hA f1' rfl))
  simp [q2, hj]
/-- the array at a may hold objects of the class C -/
def OMay (Z : State) (h : Heap) (a : Addr) (C : String) : Prop := ∃ (cl : Cell) (k : Class) (comp : ClassId) (t : FieldType), h[a]? = some cl ∧ Z.vm.classes[cl.cls]? = some k ∧ k.kind = .array comp t ∧ Z.vm.findClass C = some comp
theorem o_may_arr {a : Addr} {k : ClassId} {ty : FieldType} {n : Int32} {C : String} (A : Arr Z h a (newA k (.array ty) n) (.array ty)) (O : OvrA Z k ty C) : OMay Z h a C := by
  obtain ⟨kk, comp, o1, o2, o3⟩ := O
  exact ⟨_, kk, comp, _, A.1, o1, o2, o3⟩
theorem OMay.ext {h' : Heap} {a : Addr} {C : String} (M : OMay Z h a C) (E : Ext h h') : OMay Z h' a C := by obtain ⟨cl, k, comp, t, h1, r⟩ := M; exact ⟨cl, k, comp, t, E.2 _ _ h1, r⟩
theorem OMay.wr {h' : Heap} {a b : Addr} {sl : Nat} {v : Value} {C : String} (M : OMay Z h a C) (W : Wr h h' b sl v) : OMay Z h' a C := by
  obtain ⟨cl, k, comp, t, h1, h2, r⟩ := M
  obtain ⟨c', e1, e2, -⟩ := wr_at W h1
  exact ⟨c', k, comp, t, e1, by rw [e2]; exact h2, r⟩
theorem OMay.keep {h' : Heap} {a : Addr} {ws : List Addr} {C : String} (M : OMay Z h a C) (K : Keep h h' ws) : OMay Z h' a C := by
  obtain ⟨cl, k, comp, t, h1, h2, r⟩ := M
  obtain ⟨c', e1, e2, -⟩ := K.2.2 _ _ h1
  exact ⟨c', k, comp, t, e1, by rw [e2]; exact h2, r⟩
theorem OMay.sto {a b : Addr} {C : String} (M : OMay Z h a C) (I : Ins Z h b C true) : Sto Z h a (.ref b) := by
  obtain ⟨cl, k, comp, t, h1, h2, h3, h4⟩ := M
  obtain ⟨cv, cT, i1, i2, i3⟩ := I
  cases h4.symm.trans i2
  simp only [Bool.and_eq_true, Bool.not_eq_true'] at i3
  obtain ⟨kc, q⟩ := Vm.classAt_of_findClass h4
  obtain ⟨kv, q2⟩ := Vm.classAt_of_assignable i3.2 ⟨kc, q⟩
  exact Or.inr ⟨cl, cv, k, kv, kc, comp, t, b, h1, h2, h3, q, rfl, i1, i3.1, q2, i3.2⟩
theorem o_aastore (G : OG l Z y bytes maxl ret n0 p e R s m args below meth c T h cells slots) {a : Addr} {ty : FieldType} {n i : Nat} {f : Nat → Value} {j : Int32} {v : Value} (A : OArr Z h a ty n f) (hty : ty.isReference = true) (S : Sto Z h a v) (hg : n0 ≤ a) (hj : j.toInt = (i : Int)) (hi : i < n) (hd : decode bytes pc = .ok (.aastore, 1)) (hp : pc + 1 = pc')
    (k : ∀ (T' : State) (h' : Heap), OG l Z y bytes maxl ret n0 p e R s m args below meth c T' h' cells slots → Wr h h' a i v → OArr Z h' a ty n (o_set f i v) → OFin n0 p e below s Q ck sk T' (mkF m pc' Ls rest)) : OFin n0 p e below s Q ck sk T (mkF m pc Ls (v :: .int j :: .ref a :: rest)) := by
  subst hp
  have A0 := A
  obtain ⟨hx, hby, hml, hown, hnm, hret, hlk, hZ, eT, hz, locs, X, N⟩ := G
  obtain ⟨cl, A, Sz, H⟩ := A
  obtain ⟨q1, q2⟩ := o_clamp hj
  obtain ⟨T', h', X', e', W', st⟩ := stR X hx hZ eT A (j := j) (v := v) (by rw [Sz, q2]; exact fun q => q.elim q1 (fun q => absurd hi (Nat.not_lt.mpr q))) hty S (g := (mkF m pc Ls (v :: .int j :: .ref a :: rest))) rfl rfl (hb hby hd)
  rw [q2] at W' X'
  exact o_step st (k T' h' ⟨hx, hby, hml, hown, hnm, hret, hlk, hZ, e', by rw [W'.size]; exact hz, _, X', Fr.snoc X' N hg⟩ W' (A0.same W'))
theorem o_anewarrayA (G : OG l Z y bytes maxl ret n0 p e R s m args below meth c T h cells slots) {C ad : String} {ty : FieldType} {index : Nat} {n : Int32} {N cap : Nat} (hC : (FieldType.array ty).toString = C) (had : "[" ++ C = ad) (w1 : (Jvm.Cond.classLink y.cls index C).before a0 Z = true) (w2 : (Jvm.Cond.arrayOver (.array ty)).before a0 Z = true) (hn : n.toInt = (N : Int)) (hcap : N ≤ cap) (hb8 : cap * 8 ≤ 536870912) (hd : decode bytes pc = .ok (.anewarray index, 3)) (hp : pc + 3 = pc') (hc : cells + 1 ≤ R.cells) (hl : slots + cap ≤ R.slots)
    (k : ∀ (T' : State) (h' : Heap) (a : Addr), OG l Z y bytes maxl ret n0 p e R s m args below meth c T' h' (cells + 1) (slots + cap) → a = h.size → n0 ≤ a → Ext h h' → OArr Z h' a (.array ty) N (fun _ => .null) → OMay Z h' a C → OFin n0 p e below s Q ck sk T' (mkF m pc' Ls (.ref a :: rest))) : OFin n0 p e below s Q ck sk T (mkF m pc Ls (.int n :: rest)) := by
  subst hp
  obtain ⟨hx, hby, hml, hown, hnm, hret, hlk, hZ, eT, hz, locs, X, N'⟩ := G
  obtain ⟨q1, q2⟩ := o_clamp hn
  obtain ⟨T', h', cA, X', e', E', A', -, O', st⟩ := newRA X hx hZ hown hC w1 w2 eT (g := (mkF m pc Ls (.int n :: rest))) rfl (hb hby hd) rfl q1 (cap := cap) (by rw [q2]; exact hcap) hb8 hc hl had
  refine o_step st (k T' h' h.size ⟨hx, hby, hml, hown, hnm, hret, hlk, hZ, e', Nat.le_trans hz E'.1, _, X', N'⟩ rfl hz E' ⟨_, A', by rw [sz_new, q2], fun j hj => ?_⟩ (o_may_arr A' O'))
  simp [newA, q2, hj, defaultValue]
theorem o_ne {a b : Nat} (h : ¬ a = b) : a ≠ b := h
theorem o_toArv {a : Addr} {ty : FieldType} {N : Nat} {f : Nat → Value} (A : OArr Z h a ty N f) (hN : N < 2147483648) (hf : ∀ i, i < N → fits ty (f i) = true) : ∃ k, Arv Z h a k ty (Int32.ofNat N) ((List.range N).map f) .null := by
  obtain ⟨cl, A, S, H⟩ := A
  have e : (Int32.ofNat N).toInt = (N : Int) := Int32.toInt_ofNat_of_lt (by omega)
  obtain ⟨q1, q2⟩ := o_clamp e
  have g : ∀ i, i < N → ((List.range N).map f).getD i .null = f i := fun i hi => by
    rw [List.getD_eq_getElem?_getD, List.getElem?_map, List.getElem?_range hi]; rfl
  refine ⟨cl.cls, cl, A, rfl, by rw [q2]; exact S, q1, fun i hi => ?_, fun i hi => ?_⟩
  · rw [S] at hi; rw [g i hi]; exact H i hi
  · rw [S] at hi; rw [g i hi]; exact hf i hi
theorem o_acopy0 (G : OG l Z y bytes maxl ret n0 p e R s m args below meth c T h cells slots) {index W : Nat} {a b : Addr} {ty ty' : FieldType} {N M S D : Nat} {f g : Nat → Value} {sp dp nn : Int32} (A : OArr Z h a ty N f) (B : OArr Z h b ty' M g) (hfA : ∀ i, i < N → fits ty (f i) = true) (hfB : ∀ i, i < M → fits ty' (g i) = true) (hN : N < 2147483648) (hM : M < 2147483648) (hk : (ty = ty' ∧ refKind ty = false) ∨ (refKind ty = true ∧ refKind ty' = true)) (hS : sp.toInt = (S : Int)) (hD : dp.toInt = (D : Int)) (hn : nn = 0) (h1 : S ≤ N) (h2 : D ≤ M)
    (w1 : (Jvm.Cond.methodLink y.cls index Jvm.Stand.acN).before a0 Z = true) (w2 : (Jvm.Cond.native Jvm.Stand.acN).before a0 Z = true) (w3 : (Jvm.Cond.static Jvm.Stand.acN).before a0 Z = true) (w4 : (Jvm.Cond.initialized "java/lang/System").before a0 Z = true) (hg : n0 ≤ b) (hsz : Ls.size = maxl) (hd : decode bytes pc = .ok (.invokestatic index, 3)) (hp : pc + 3 = pc') (hfr : 1 ≤ R.frames) (hW : (rest.map fun v => v.category).sum ≤ W) (hlo : W + (nativeFrameWords "java/lang/System" "arraycopy" 5 + 11) ≤ R.locals)
    (k : ∀ (T' : State) (h' : Heap), OG l Z y bytes maxl ret n0 p e R s m args below meth c T' h' cells slots → Keep h h' [b] → OArr Z h' b ty' M g → OFin n0 p e below s Q ck sk T' (mkF m pc' Ls rest)) : OFin n0 p e below s Q ck sk T (mkF m pc Ls (.int nn :: .int dp :: .ref b :: .int sp :: .ref a :: rest)) := by
  subst hp hn
  obtain ⟨hx, hby, hml, hown, hnm, hret, hlk, hZ, eT, hz, locs, X, Nf⟩ := G
  obtain ⟨k1, V1⟩ := o_toArv A hN hfA
  obtain ⟨k2, V2⟩ := o_toArv B hM hfB
  obtain ⟨s1, s2⟩ := o_clamp hS
  obtain ⟨d1, d2⟩ := o_clamp hD
  have z0 : (0 : Int32).toNatClampNeg = 0 := rfl
  have n1 : (Int32.ofNat N).toNatClampNeg = N := (o_clamp (Int32.toInt_ofNat_of_lt (by omega))).2
  have n2 : (Int32.ofNat M).toNatClampNeg = M := (o_clamp (Int32.toInt_ofNat_of_lt (by omega))).2
  obtain ⟨T', h', L, X', e', N', K', V', st⟩ := cpA X hx hZ hown w1 w2 w3 w4 eT (us := []) V1 V2 (hk.imp id (fun q => ⟨q.1, q.2, trivial⟩)) s1 d1 (by decide) (by rw [s2, z0, n1]; omega) (by rw [d2, z0, n2]; omega) (by rw [z0]; rfl) (by rw [d2, z0]; simp; omega) Nf hg (g := (mkF m pc Ls (.int 0 :: .int dp :: .ref b :: .int sp :: .ref a :: rest))) rfl (by show Ls.size = _; rw [hml]; exact hsz) rfl (hb hby hd) hfr (W := W) (by show 2 * 0 + _ ≤ _; omega) hlo
  refine o_step st (k T' h' ⟨hx, hby, hml, hown, hnm, hret, hlk, hZ, e', Nat.le_trans hz K'.1, _, X', N'⟩ K' ?_)
  rw [d2, z0] at V'
  obtain ⟨cl, A', -, S', -, H', -⟩ := V'
  refine ⟨cl, A', by rw [S', n2], fun j hj => ?_⟩
  rw [H' j (by rw [S', n2]; exact hj)]
  simp only [List.append_nil, Nat.add_zero, List.take_append_drop]
  rw [List.getD_eq_getElem?_getD, List.getElem?_map, List.getElem?_range hj]; rfl
theorem o_acopy (G : OG l Z y bytes maxl ret n0 p e R s m args below meth c T h cells slots) {index W : Nat} {a b : Addr} {ty : FieldType} {N M S D L : Nat} {f g : Nat → Value} {sp dp nn : Int32} (A : OArr Z h a ty N f) (B : OArr Z h b ty M g) (hfA : ∀ i, i < N → fits ty (f i) = true) (hfB : ∀ i, i < M → fits ty (g i) = true) (hN : N < 2147483648) (hM : M < 2147483648) (hk : refKind ty = false) (hS : sp.toInt = (S : Int)) (hD : dp.toInt = (D : Int)) (hn : nn.toInt = (L : Int)) (h1 : S + L ≤ N) (h2 : D + L ≤ M)
    (w1 : (Jvm.Cond.methodLink y.cls index Jvm.Stand.acN).before a0 Z = true) (w2 : (Jvm.Cond.native Jvm.Stand.acN).before a0 Z = true) (w3 : (Jvm.Cond.static Jvm.Stand.acN).before a0 Z = true) (w4 : (Jvm.Cond.initialized "java/lang/System").before a0 Z = true) (hg : n0 ≤ b) (hsz : Ls.size = maxl) (hd : decode bytes pc = .ok (.invokestatic index, 3)) (hp : pc + 3 = pc') (hfr : 1 ≤ R.frames) (hW : (rest.map fun v => v.category).sum ≤ W) (hlo : W + (nativeFrameWords "java/lang/System" "arraycopy" 5 + 11) ≤ R.locals)
    (k : ∀ (T' : State) (h' : Heap) (g' : Nat → Value), OG l Z y bytes maxl ret n0 p e R s m args below meth c T' h' cells slots → Keep h h' [b] → OArr Z h' b ty M g' → (∀ j, j < M → g' j = if D ≤ j ∧ j < D + L then f (S + (j - D)) else g j) → OFin n0 p e below s Q ck sk T' (mkF m pc' Ls rest)) : OFin n0 p e below s Q ck sk T (mkF m pc Ls (.int nn :: .int dp :: .ref b :: .int sp :: .ref a :: rest)) := by
  subst hp
  obtain ⟨hx, hby, hml, hown, hnm, hret, hlk, hZ, eT, hz, locs, X, Nf⟩ := G
  obtain ⟨k1, V1⟩ := o_toArv A hN hfA
  obtain ⟨k2, V2⟩ := o_toArv B hM hfB
  obtain ⟨s1, s2⟩ := o_clamp hS
  obtain ⟨d1, d2⟩ := o_clamp hD
  obtain ⟨t1, t2⟩ := o_clamp hn
  have n1 : (Int32.ofNat N).toNatClampNeg = N := (o_clamp (Int32.toInt_ofNat_of_lt (by omega))).2
  have n2 : (Int32.ofNat M).toNatClampNeg = M := (o_clamp (Int32.toInt_ofNat_of_lt (by omega))).2
  obtain ⟨T', h', LL, X', e', N', K', V', st⟩ := cpA X hx hZ hown w1 w2 w3 w4 eT V1 V2 (Or.inl ⟨rfl, hk⟩) s1 d1 t1 (by rw [s2, t2, n1]; omega) (by rw [d2, t2, n2]; omega) rfl (by rw [d2, t2]; simp; omega) Nf hg (g := (mkF m pc Ls (.int nn :: .int dp :: .ref b :: .int sp :: .ref a :: rest))) rfl (by show Ls.size = _; rw [hml]; exact hsz) rfl (hb hby hd) hfr (W := W) (by show 2 * 0 + _ ≤ _; omega) hlo
  obtain ⟨cl, A', -, S', -, H', -⟩ := V'
  rw [n2] at S'
  refine o_step st (k T' h' (fun j => if D ≤ j ∧ j < D + L then f (S + (j - D)) else g j) ⟨hx, hby, hml, hown, hnm, hret, hlk, hZ, e', Nat.le_trans hz K'.1, _, X', N'⟩ K' ⟨cl, A', S', fun j hj => ?_⟩ (fun _ _ => rfl))
  rw [H' j (by rw [S']; exact hj), d2, t2, s2]
  congr 1
  show _ = if D ≤ j ∧ j < D + L then f (S + (j - D)) else g j
  rw [List.getD_eq_getElem?_getD, List.append_assoc]
  have lt : (List.take D ((List.range M).map g)).length = D := by simp; omega
  by_cases q : j < D
  · rw [List.getElem?_append_left (by rw [lt]; exact q), List.getElem?_take_of_lt q, List.getElem?_map, List.getElem?_range hj, if_neg (by omega)]; rfl
  · rw [List.getElem?_append_right (by rw [lt]; omega), lt]
    by_cases q2 : j < D + L
    · rw [List.getElem?_append_left (by simp; omega), if_pos (by omega), List.getElem?_map, List.getElem?_range (by omega)]
      simp only [Option.map_some, Option.getD_some]
      rw [List.getD_eq_getElem?_getD, List.getElem?_map, List.getElem?_range (by omega)]; rfl
    · rw [List.getElem?_append_right (by simp; omega), if_neg (by omega), List.getElem?_drop]
      have e2 : D + L + (j - D - (List.map (fun i => ((List.range N).map f).getD (S + i) .null) (List.range L)).length) = j := by simp; omega
      rw [e2, List.getElem?_map, List.getElem?_range hj]; rfl
/-- a contract that leaves the heap as it was and returns one value -/
abbrev OVal (h0 : Heap) (r : Value) : Option Value → Heap → Prop := fun v h => v = some r ∧ h0 = h
theorem o_callP (G : OG l Z y bytes maxl ret n0 p e R s m args below meth c T h cells slots) {z : MethodName} {bz : ByteArray} {mz : Nat} {rz : Option FieldType} {rm : Room} {r : Value} {index W : Nat} {argsL st : List Value} (w1 : (Jvm.Cond.methodLink y.cls index z).before a0 Z = true) (w2 : (Jvm.Cond.static z).before a0 Z = true) (hd : decode bytes pc = .ok (.invokestatic index, 3))
    (hy : z.cls ≠ "java/lang/invoke/MethodHandle" ∧ z.cls ≠ "java/lang/invoke/VarHandle") (w3 : (Jvm.Cond.initialized z.cls).before a0 Z = true) (w4 : (Jvm.Cond.code z bz mz rz).before a0 Z = true)
    (hM : OMet l Z z bz mz rz rm argsL.toArray h n0 rm.cells rm.slots (OVal h r)) (hfr : rm.frames + 1 ≤ R.frames) (hlo : W + (mz + 11) + rm.locals ≤ R.locals) (hsz : Ls.size = maxl)
    (hlen : ∀ sig, parseMethodDescriptor z.desc = some sig → argsL.length = sig.parameters.length) (hst : st = argsL.reverse ++ rest) (hW : (rest.map fun v => v.category).sum ≤ W) (hp : pc + 3 = pc') (hc : cells + rm.cells ≤ R.cells) (hs : slots + rm.slots ≤ R.slots)
    (k : ∀ (T' : State), OG l Z y bytes maxl ret n0 p e R s m args below meth c T' h (cells + rm.cells) (slots + rm.slots) → OFin n0 p e below s Q ck sk T' (mkF m pc' Ls (r :: rest))) : OFin n0 p e below s Q ck sk T (mkF m pc Ls st) := by
  refine o_callS G w1 w2 hd hy w3 w4 hM hfr hlo hsz hlen hst hW hp hc hs ?_
  rintro v T' h' G' ⟨hv, hh⟩
  subst hv hh
  exact k T' G'
theorem o_callVP (G : OG l Z y bytes maxl ret n0 p e R s m args below meth c T h cells slots) {z : MethodName} {bz : ByteArray} {mz : Nat} {rz : Option FieldType} {rm : Room} {r : Value} {index W : Nat} {argsL st : List Value} {a : Addr} {C : String} (E : Exa Z h a C) (w1 : (Jvm.Cond.methodLink y.cls index z).before a0 Z = true) (w2 : (Jvm.Cond.instanceMethod z).before a0 Z = true) (w5 : (Jvm.Cond.declares z).before a0 Z = true) (w6 : (Jvm.Cond.selects C z z).before a0 Z = true) (hd : decode bytes pc = .ok (.invokevirtual index, 3))
    (hy : z.cls ≠ "java/lang/invoke/MethodHandle" ∧ z.cls ≠ "java/lang/invoke/VarHandle") (w3 : (Jvm.Cond.initialized z.cls).before a0 Z = true) (w4 : (Jvm.Cond.code z bz mz rz).before a0 Z = true)
    (hM : OMet l Z z bz mz rz rm (.ref a :: argsL).toArray h n0 rm.cells rm.slots (OVal h r)) (hfr : rm.frames + 1 ≤ R.frames) (hlo : W + (mz + 11) + rm.locals ≤ R.locals) (hsz : Ls.size = maxl)
    (hlen : ∀ sig, parseMethodDescriptor z.desc = some sig → argsL.length = sig.parameters.length) (hst : st = argsL.reverse ++ .ref a :: rest) (hW : (rest.map fun v => v.category).sum ≤ W) (hp : pc + 3 = pc') (hc : cells + rm.cells ≤ R.cells) (hs : slots + rm.slots ≤ R.slots)
    (k : ∀ (T' : State), OG l Z y bytes maxl ret n0 p e R s m args below meth c T' h (cells + rm.cells) (slots + rm.slots) → OFin n0 p e below s Q ck sk T' (mkF m pc' Ls (r :: rest))) : OFin n0 p e below s Q ck sk T (mkF m pc Ls st) := by
  refine o_callV G E w1 w2 w5 w6 hd hy w3 w4 hM hfr hlo hsz hlen hst hW hp hc hs ?_
  rintro v T' h' G' ⟨hv, hh⟩
  subst hv hh
  exact k T' G'
end OwnKit
theorem pd_0 : parseMethodDescriptor "(III)V" = some ⟨[.int, .int, .int], none⟩ := by decide +kernel
theorem pd_1 : parseMethodDescriptor "(II)V" = some ⟨[.int, .int], none⟩ := by decide +kernel
theorem pd_2 : parseMethodDescriptor "(I)I" = some ⟨[.int], some .int⟩ := by decide +kernel
theorem pd_3 : parseMethodDescriptor "(II)I" = some ⟨[.int, .int], some .int⟩ := by decide +kernel
theorem pd_4 : parseMethodDescriptor "(IJ)V" = some ⟨[.int, .long], none⟩ := by decide +kernel
theorem pd_5 : parseMethodDescriptor "(I)V" = some ⟨[.int], none⟩ := by decide +kernel
theorem pd_6 : parseMethodDescriptor "(IJ[I)I" = some ⟨[.int, .long, (.array .int)], some .int⟩ := by decide +kernel
theorem pd_7 : parseMethodDescriptor "()I" = some ⟨[], some .int⟩ := by decide +kernel
theorem pd_8 : parseMethodDescriptor "(IIIII)I" = some ⟨[.int, .int, .int, .int, .int], some .int⟩ := by decide +kernel
theorem d6_0 : decode prog_81_method_21_code 0 = .ok (.iload_n 0, 1) := by decide +kernel
theorem d6_1 : decode prog_81_method_21_code 1 = .ok (.bipush 6, 2) := by decide +kernel
theorem d6_3 : decode prog_81_method_21_code 3 = .ok (.ishl, 1) := by decide +kernel
theorem d6_4 : decode prog_81_method_21_code 4 = .ok (.iload_n 1, 1) := by decide +kernel
theorem d6_5 : decode prog_81_method_21_code 5 = .ok (.ior, 1) := by decide +kernel
theorem d6_6 : decode prog_81_method_21_code 6 = .ok (.ireturn, 1) := by decide +kernel
theorem pn_6 : plainName "com/example/keyfold/keyfold/KeyRuns" = true := by first | (simp [plainName, overriddenIn]; done) | decide +kernel
theorem ef_6 (m : MethodId) (p0 : Int32) (p1 : Int32) : entryFrame m #[(.int p0), (.int p1)] 2 = mkF m 0 #[.val (.int p0), .val (.int p1)] [] := by first | (simp [entryFrame, mkF, argsToLocals, Value.category]; done) | rfl
def f_6 (p0 : Int32) (p1 : Int32) : Int32 := ((p0 <<< ((6 : Int32) &&& 31)) ||| p1)
set_option maxRecDepth 65536 in
set_option maxHeartbeats 40000000 in
theorem rm6 {l : Launch} {Z : State} {a0 : Array Value} (hw : ∀ d ∈ tables_1, d.before a0 Z = true) (p0 : Int32) (p1 : Int32) (h0 : Heap) (n0 : Nat) (hz : n0 ≤ h0.size) :
    OMet l Z (⟨"com/example/keyfold/keyfold/KeyRuns", "place", "(II)I"⟩ : MethodName) prog_81_method_21_code 2 (some .int) ({ frames := 0, cells := 0, slots := 0, locals := 0 } : Room) #[(.int p0), (.int p1)] h0 n0 ({ frames := 0, cells := 0, slots := 0, locals := 0 } : Room).cells ({ frames := 0, cells := 0, slots := 0, locals := 0 } : Room).slots (OVal h0 (.int (f_6 p0 p1))) := by
  refine o_body (plainFor_of_name pn_6) hz (fun m => ef_6 m p0 p1) ?_
  intro p e s m below meth c s₁ G0
  refine o_iloadN G0 d6_0 (pc' := 1) rfl rfl ?_
  refine o_bipush G0 d6_1 (pc' := 3) rfl (v := (6 : Int32)) rfl ?_
  obtain ⟨v1, e1⟩ : ∃ z, p0 <<< ((6 : Int32) &&& 31) = z := ⟨_, rfl⟩
  refine o_ishl G0 d6_3 (pc' := 4) rfl e1 ?_
  refine o_iloadN G0 d6_4 (pc' := 5) rfl rfl ?_
  obtain ⟨v2, e2⟩ : ∃ z, v1 ||| p1 = z := ⟨_, rfl⟩
  refine o_ior G0 d6_5 (pc' := 6) rfl e2 ?_
  have hq : v2 = f_6 p0 p1 := by
    subst e1 e2
    rw [f_6]
  exact o_ireturn G0 d6_6 ⟨congrArg (fun z => some (Value.int z)) hq, rfl⟩ (by decide) (by decide)
theorem d12_0 : decode method_3_code 0 = .ok (.iconst 1, 1) := by decide +kernel
theorem d12_1 : decode method_3_code 1 = .ok (.istore 5, 2) := by decide +kernel
theorem d12_3 : decode method_3_code 3 = .ok (.iload_n 0, 1) := by decide +kernel
theorem d12_4 : decode method_3_code 4 = .ok (.iload_n 1, 1) := by decide +kernel
theorem d12_5 : decode method_3_code 5 = .ok (.if_icmp .ne 9, 3) := by decide +kernel
theorem d12_8 : decode method_3_code 8 = .ok (.iload 5, 2) := by decide +kernel
theorem d12_10 : decode method_3_code 10 = .ok (.iload_n 3, 1) := by decide +kernel
theorem d12_11 : decode method_3_code 11 = .ok (.iadd, 1) := by decide +kernel
theorem d12_12 : decode method_3_code 12 = .ok (.istore 5, 2) := by decide +kernel
theorem d12_14 : decode method_3_code 14 = .ok (.iload_n 0, 1) := by decide +kernel
theorem d12_15 : decode method_3_code 15 = .ok (.iload_n 2, 1) := by decide +kernel
theorem d12_16 : decode method_3_code 16 = .ok (.if_icmp .ne 10, 3) := by decide +kernel
theorem d12_19 : decode method_3_code 19 = .ok (.iload 5, 2) := by decide +kernel
theorem d12_21 : decode method_3_code 21 = .ok (.iload 4, 2) := by decide +kernel
theorem d12_23 : decode method_3_code 23 = .ok (.iadd, 1) := by decide +kernel
theorem d12_24 : decode method_3_code 24 = .ok (.istore 5, 2) := by decide +kernel
theorem d12_26 : decode method_3_code 26 = .ok (.iload 5, 2) := by decide +kernel
theorem d12_28 : decode method_3_code 28 = .ok (.ireturn, 1) := by decide +kernel
theorem pn_12 : plainName "com/example/keyfold/keyfold/KeyRunsCountPinLaw" = true := by first | (simp [plainName, overriddenIn]; done) | decide +kernel
theorem ef_12 (m : MethodId) (p0 : Int32) (p1 : Int32) (p2 : Int32) (p3 : Int32) (p4 : Int32) : entryFrame m #[(.int p0), (.int p1), (.int p2), (.int p3), (.int p4)] 6 = mkF m 0 #[.val (.int p0), .val (.int p1), .val (.int p2), .val (.int p3), .val (.int p4), .unset] [] := by first | (simp [entryFrame, mkF, argsToLocals, Value.category]; done) | rfl
def f_12 (p0 : Int32) (p1 : Int32) (p2 : Int32) (p3 : Int32) (p4 : Int32) : Int32 := (if p0 = p2 then ((if p0 = p1 then ((1 : Int32) + p3) else (1 : Int32)) + p4) else (if p0 = p1 then ((1 : Int32) + p3) else (1 : Int32)))
set_option maxRecDepth 65536 in
set_option maxHeartbeats 40000000 in
theorem rm12 {l : Launch} {Z : State} {a0 : Array Value} (hw : ∀ d ∈ tables_1, d.before a0 Z = true) (p0 : Int32) (p1 : Int32) (p2 : Int32) (p3 : Int32) (p4 : Int32) (h0 : Heap) (n0 : Nat) (hz : n0 ≤ h0.size) :
    OMet l Z (⟨"com/example/keyfold/keyfold/KeyRunsCountPinLaw", "expected", "(IIIII)I"⟩ : MethodName) method_3_code 6 (some .int) ({ frames := 0, cells := 0, slots := 0, locals := 0 } : Room) #[(.int p0), (.int p1), (.int p2), (.int p3), (.int p4)] h0 n0 ({ frames := 0, cells := 0, slots := 0, locals := 0 } : Room).cells ({ frames := 0, cells := 0, slots := 0, locals := 0 } : Room).slots (OVal h0 (.int (f_12 p0 p1 p2 p3 p4))) := by
  refine o_body (plainFor_of_name pn_12) hz (fun m => ef_12 m p0 p1 p2 p3 p4) ?_
  intro p e s m below meth c s₁ G0
  refine o_iconst G0 d12_0 (pc' := 1) rfl (v := (1 : Int32)) rfl ?_
  refine o_istore G0 d12_1 (pc' := 3) rfl (l' := #[.val (.int p0), .val (.int p1), .val (.int p2), .val (.int p3), .val (.int p4), .val (.int (1 : Int32))]) rfl ?_
  refine o_iloadN G0 d12_3 (pc' := 4) rfl rfl ?_
  refine o_iloadN G0 d12_4 (pc' := 5) rfl rfl ?_
  obtain ⟨v1, e1⟩ : ∃ z, (if p0 = p1 then ((1 : Int32) + p3) else (1 : Int32)) = z := ⟨_, rfl⟩
  have K2 : ∀ T', OG l Z (⟨"com/example/keyfold/keyfold/KeyRunsCountPinLaw", "expected", "(IIIII)I"⟩ : MethodName) method_3_code 6 (some .int) n0 p e ({ frames := 0, cells := 0, slots := 0, locals := 0 } : Room) s m #[(.int p0), (.int p1), (.int p2), (.int p3), (.int p4)] below meth c T' h0 0 0 → OFin n0 p e below s (OVal h0 (.int (f_12 p0 p1 p2 p3 p4))) ({ frames := 0, cells := 0, slots := 0, locals := 0 } : Room).cells ({ frames := 0, cells := 0, slots := 0, locals := 0 } : Room).slots T' (mkF m 14 #[.val (.int p0), .val (.int p1), .val (.int p2), .val (.int p3), .val (.int p4), .val (.int v1)] []) := by
    intro T2 G2
    refine o_iloadN G2 d12_14 (pc' := 15) rfl rfl ?_
    refine o_iloadN G2 d12_15 (pc' := 16) rfl rfl ?_
    obtain ⟨v3, e3⟩ : ∃ z, (if p0 = p2 then (v1 + p4) else v1) = z := ⟨_, rfl⟩
    have K4 : ∀ T', OG l Z (⟨"com/example/keyfold/keyfold/KeyRunsCountPinLaw", "expected", "(IIIII)I"⟩ : MethodName) method_3_code 6 (some .int) n0 p e ({ frames := 0, cells := 0, slots := 0, locals := 0 } : Room) s m #[(.int p0), (.int p1), (.int p2), (.int p3), (.int p4)] below meth c T' h0 0 0 → OFin n0 p e below s (OVal h0 (.int (f_12 p0 p1 p2 p3 p4))) ({ frames := 0, cells := 0, slots := 0, locals := 0 } : Room).cells ({ frames := 0, cells := 0, slots := 0, locals := 0 } : Room).slots T' (mkF m 26 #[.val (.int p0), .val (.int p1), .val (.int p2), .val (.int p3), .val (.int p4), .val (.int v3)] []) := by
      intro T4 G4
      refine o_iload G4 d12_26 (pc' := 28) rfl rfl ?_
      have hq : v3 = f_12 p0 p1 p2 p3 p4 := by
        subst e1 e3
        rw [f_12]
      exact o_ireturn G4 d12_28 ⟨congrArg (fun z => some (Value.int z)) hq, rfl⟩ (by decide) (by decide)
    refine o_icmp_ne G2 d12_16 (by decide) (pcT := 26) (by decide) (pc' := 19) rfl (fun hc16 => ?_) (fun hc16 => ?_)
    · rw [if_neg hc16] at e3
      subst e3
      exact K4 _ G2
    · refine o_iload G2 d12_19 (pc' := 21) rfl rfl ?_
      refine o_iload G2 d12_21 (pc' := 23) rfl rfl ?_
      obtain ⟨v5, e5⟩ : ∃ z, v1 + p4 = z := ⟨_, rfl⟩
      refine o_iadd G2 d12_23 (pc' := 24) rfl e5 ?_
      refine o_istore G2 d12_24 (pc' := 26) rfl (l' := #[.val (.int p0), .val (.int p1), .val (.int p2), .val (.int p3), .val (.int p4), .val (.int v5)]) rfl ?_
      subst e5
      rw [if_pos hc16] at e3
      subst e3
      exact K4 _ G2
  refine o_icmp_ne G0 d12_5 (by decide) (pcT := 14) (by decide) (pc' := 8) rfl (fun hc5 => ?_) (fun hc5 => ?_)
  · rw [if_neg hc5] at e1
    subst e1
    exact K2 _ G0
  · refine o_iload G0 d12_8 (pc' := 10) rfl rfl ?_
    refine o_iloadN G0 d12_10 (pc' := 11) rfl rfl ?_
    obtain ⟨v6, e6⟩ : ∃ z, (1 : Int32) + p3 = z := ⟨_, rfl⟩
    refine o_iadd G0 d12_11 (pc' := 12) rfl e6 ?_
    refine o_istore G0 d12_12 (pc' := 14) rfl (l' := #[.val (.int p0), .val (.int p1), .val (.int p2), .val (.int p3), .val (.int p4), .val (.int v6)]) rfl ?_
    subst e6
    rw [if_pos hc5] at e1
    subst e1
    exact K2 _ G0
theorem d10_0 : decode prog_81_method_2_code 0 = .ok (.aload_n 0, 1) := by decide +kernel
theorem d10_1 : decode prog_81_method_2_code 1 = .ok (.getfield 35, 3) := by decide +kernel
theorem d10_4 : decode prog_81_method_2_code 4 = .ok (.ireturn, 1) := by decide +kernel
theorem pn_10 : plainName "com/example/keyfold/keyfold/KeyRuns" = true := by first | (simp [plainName, overriddenIn]; done) | decide +kernel
theorem ef_10 (m : MethodId) (r0 : Addr) : entryFrame m #[(.ref r0)] 1 = mkF m 0 #[.val (.ref r0)] [] := by first | (simp [entryFrame, mkF, argsToLocals, Value.category]; done) | rfl
def f_10 (x : Int32)  : Int32 := x
set_option maxRecDepth 65536 in
set_option maxHeartbeats 40000000 in
theorem rm10 {l : Launch} {Z : State} {a0 : Array Value} (hw : ∀ d ∈ tables_1, d.before a0 Z = true) (r0 : Addr) (h0 : Heap) (n0 : Nat) (hz : n0 ≤ h0.size) (x : Int32) (F_e : Fld Z h0 r0 "com/example/keyfold/keyfold/KeyRuns" "entries" "I" (.int x)) :
    OMet l Z (⟨"com/example/keyfold/keyfold/KeyRuns", "entries", "()I"⟩ : MethodName) prog_81_method_2_code 1 (some .int) ({ frames := 0, cells := 0, slots := 0, locals := 0 } : Room) #[(.ref r0)] h0 n0 ({ frames := 0, cells := 0, slots := 0, locals := 0 } : Room).cells ({ frames := 0, cells := 0, slots := 0, locals := 0 } : Room).slots (OVal h0 (.int (f_10 x))) := by
  refine o_body (plainFor_of_name pn_10) hz (fun m => ef_10 m r0) ?_
  intro p e s m below meth c s₁ G0
  refine o_aloadN G0 d10_0 (pc' := 1) rfl rfl rfl ?_
  refine o_getF G0 (host := "") (Or.inl (hw _ (List.mem_of_getElem? (i := 57) rfl))) Via.refl F_e d10_1 (pc' := 4) rfl ?_
  intro T1 G1
  have hq : x = f_10 x := rfl
  exact o_ireturn G1 d10_4 ⟨congrArg (fun z => some (Value.int z)) hq, rfl⟩ (by decide) (by decide)
def own_a1 (x : Addr) (j : Nat) : Value := if j = 0 then .ref x else .null
def own_k (n : Int32) (j : Nat) : Int32 := if j = 0 then n else 0
def own_c3 (x0 x1 x2 : Int32) (j : Nat) : Int32 := match j with | 0 => x0 | 1 => x1 | 2 => x2 | _ => 0
def own_iv (f : Nat → Value) (j : Nat) : Int32 := match f j with | .int x => x | _ => 0
def own_KR (Z : State) (h : Heap) (n0 : Nat) (k r cc ks st ra ca : Addr) (nk en x0 x1 x2 : Int32) : Prop :=
  (n0 ≤ k ∧ @LT.lt Nat _ k r ∧ @LT.lt Nat _ r cc ∧ @LT.lt Nat _ cc ks ∧ @LT.lt Nat _ ks st ∧ @LT.lt Nat _ st ra ∧ @LT.lt Nat _ ra ca) ∧ Exa Z h k "com/example/keyfold/keyfold/KeyRuns" ∧ Fld Z h k "com/example/keyfold/keyfold/KeyRuns" "columns" "I" (.int 1) ∧ Fld Z h k "com/example/keyfold/keyfold/KeyRuns" "stride" "I" (.int 4) ∧ Fld Z h k "com/example/keyfold/keyfold/KeyRuns" "runs" "[[I" (.ref r) ∧ Fld Z h k "com/example/keyfold/keyfold/KeyRuns" "counts" "[[I" (.ref cc) ∧ Fld Z h k "com/example/keyfold/keyfold/KeyRuns" "runKeys" "[I" (.ref ks) ∧ Fld Z h k "com/example/keyfold/keyfold/KeyRuns" "runStarts" "[I" (.ref st) ∧ Fld Z h k "com/example/keyfold/keyfold/KeyRuns" "runCount" "I" (.int 1) ∧ Fld Z h k "com/example/keyfold/keyfold/KeyRuns" "entries" "I" (.int en) ∧
  OArr Z h r (.array .int) 4 (own_a1 ra) ∧ OArr Z h cc (.array .int) 4 (own_a1 ca) ∧ OArr Z h ks .int 4 (fun j => .int (own_k nk j)) ∧ (∃ f : Nat → Int32, OArr Z h st .int 4 (fun j => .int (f j))) ∧ (∃ f : Nat → Int32, OArr Z h ra .int 256 (fun j => .int (f j))) ∧ OArr Z h ca .int 64 (fun j => .int (own_c3 x0 x1 x2 j))
theorem d4_0 : decode prog_81_method_26_code 0 = .ok (.aload_n 0, 1) := by decide +kernel
theorem d4_1 : decode prog_81_method_26_code 1 = .ok (.getfield 18, 3) := by decide +kernel
theorem d4_4 : decode prog_81_method_26_code 4 = .ok (.iload_n 1, 1) := by decide +kernel
theorem d4_5 : decode prog_81_method_26_code 5 = .ok (.aload_n 0, 1) := by decide +kernel
theorem d4_6 : decode prog_81_method_26_code 6 = .ok (.getfield 18, 3) := by decide +kernel
theorem d4_9 : decode prog_81_method_26_code 9 = .ok (.iload_n 2, 1) := by decide +kernel
theorem d4_10 : decode prog_81_method_26_code 10 = .ok (.iload_n 3, 1) := by decide +kernel
theorem d4_11 : decode prog_81_method_26_code 11 = .ok (.invokestatic 63, 3) := by decide +kernel
theorem d4_14 : decode prog_81_method_26_code 14 = .ok (.aload_n 0, 1) := by decide +kernel
theorem d4_15 : decode prog_81_method_26_code 15 = .ok (.getfield 22, 3) := by decide +kernel
theorem d4_18 : decode prog_81_method_26_code 18 = .ok (.iload_n 1, 1) := by decide +kernel
theorem d4_19 : decode prog_81_method_26_code 19 = .ok (.aload_n 0, 1) := by decide +kernel
theorem d4_20 : decode prog_81_method_26_code 20 = .ok (.getfield 22, 3) := by decide +kernel
theorem d4_23 : decode prog_81_method_26_code 23 = .ok (.iload_n 2, 1) := by decide +kernel
theorem d4_24 : decode prog_81_method_26_code 24 = .ok (.iload_n 3, 1) := by decide +kernel
theorem d4_25 : decode prog_81_method_26_code 25 = .ok (.invokestatic 63, 3) := by decide +kernel
theorem d4_28 : decode prog_81_method_26_code 28 = .ok (.aload_n 0, 1) := by decide +kernel
theorem d4_29 : decode prog_81_method_26_code 29 = .ok (.getfield 25, 3) := by decide +kernel
theorem d4_32 : decode prog_81_method_26_code 32 = .ok (.iload_n 1, 1) := by decide +kernel
theorem d4_33 : decode prog_81_method_26_code 33 = .ok (.aload_n 0, 1) := by decide +kernel
theorem d4_34 : decode prog_81_method_26_code 34 = .ok (.getfield 25, 3) := by decide +kernel
theorem d4_37 : decode prog_81_method_26_code 37 = .ok (.iload_n 2, 1) := by decide +kernel
theorem d4_38 : decode prog_81_method_26_code 38 = .ok (.iload_n 3, 1) := by decide +kernel
theorem d4_39 : decode prog_81_method_26_code 39 = .ok (.invokestatic 63, 3) := by decide +kernel
theorem d4_42 : decode prog_81_method_26_code 42 = .ok (.aload_n 0, 1) := by decide +kernel
theorem d4_43 : decode prog_81_method_26_code 43 = .ok (.getfield 28, 3) := by decide +kernel
theorem d4_46 : decode prog_81_method_26_code 46 = .ok (.iload_n 1, 1) := by decide +kernel
theorem d4_47 : decode prog_81_method_26_code 47 = .ok (.aload_n 0, 1) := by decide +kernel
theorem d4_48 : decode prog_81_method_26_code 48 = .ok (.getfield 28, 3) := by decide +kernel
theorem d4_51 : decode prog_81_method_26_code 51 = .ok (.iload_n 2, 1) := by decide +kernel
theorem d4_52 : decode prog_81_method_26_code 52 = .ok (.iload_n 3, 1) := by decide +kernel
theorem d4_53 : decode prog_81_method_26_code 53 = .ok (.invokestatic 63, 3) := by decide +kernel
theorem d4_56 : decode prog_81_method_26_code 56 = .ok (.return_, 1) := by decide +kernel
theorem pn_4 : plainName "com/example/keyfold/keyfold/KeyRuns" = true := by first | (simp [plainName, overriddenIn]; done) | decide +kernel
theorem ef_4 (m : MethodId) (r0 : Addr) (p1 : Int32) (p2 : Int32) (p3 : Int32) : entryFrame m #[(.ref r0), (.int p1), (.int p2), (.int p3)] 4 = mkF m 0 #[.val (.ref r0), .val (.int p1), .val (.int p2), .val (.int p3)] [] := by first | (simp [entryFrame, mkF, argsToLocals, Value.category]; done) | rfl
set_option maxRecDepth 65536 in
set_option maxHeartbeats 40000000 in
theorem rm4 {l : Launch} {Z : State} {a0 : Array Value} (hw : ∀ d ∈ tables_1, d.before a0 Z = true) (r0 : Addr) (h0 : Heap) (n0 : Nat) (hz : n0 ≤ h0.size) (r cc ks st : Addr) (hlt : n0 ≤ r0 ∧ @LT.lt Nat _ r0 r ∧ @LT.lt Nat _ r cc ∧ @LT.lt Nat _ cc ks ∧ @LT.lt Nat _ ks st) (E_r0 : Exa Z h0 r0 "com/example/keyfold/keyfold/KeyRuns") (F_runs : Fld Z h0 r0 "com/example/keyfold/keyfold/KeyRuns" "runs" "[[I" (.ref r)) (F_counts : Fld Z h0 r0 "com/example/keyfold/keyfold/KeyRuns" "counts" "[[I" (.ref cc)) (F_runKeys : Fld Z h0 r0 "com/example/keyfold/keyfold/KeyRuns" "runKeys" "[I" (.ref ks)) (F_runStarts : Fld Z h0 r0 "com/example/keyfold/keyfold/KeyRuns" "runStarts" "[I" (.ref st)) (A_r : OArr Z h0 r (.array .int) 4 (fun _ => .null)) (A_c : OArr Z h0 cc (.array .int) 4 (fun _ => .null)) (A_ks : OArr Z h0 ks .int 4 (fun _ => .int (0 : Int32))) (A_st : OArr Z h0 st .int 4 (fun _ => .int (0 : Int32))) :
    OMet l Z (⟨"com/example/keyfold/keyfold/KeyRuns", "moveRuns", "(III)V"⟩ : MethodName) prog_81_method_26_code 4 none ({ frames := 1, cells := 0, slots := 0, locals := 24 } : Room) #[(.ref r0), (.int (0 : Int32)), (.int (1 : Int32)), (.int (0 : Int32))] h0 n0 ({ frames := 1, cells := 0, slots := 0, locals := 24 } : Room).cells ({ frames := 1, cells := 0, slots := 0, locals := 24 } : Room).slots (fun v h => v = none ∧ Keep h0 h [r, cc, ks, st] ∧ OArr Z h r (.array .int) 4 (fun _ => .null) ∧ OArr Z h cc (.array .int) 4 (fun _ => .null) ∧ OArr Z h ks .int 4 (fun _ => .int (0 : Int32)) ∧ OArr Z h st .int 4 (fun _ => .int (0 : Int32))) := by
  refine o_body (plainFor_of_name pn_4) hz (fun m => ef_4 m r0 (0 : Int32) (1 : Int32) (0 : Int32)) ?_
  intro p e s m below meth c s₁ G0
  have K : Keep h0 h0 [r, cc, ks, st] := Keep.refl _ _
  refine o_aloadN G0 d4_0 (pc' := 1) rfl rfl rfl ?_
  refine o_getF G0 (host := "") (Or.inl (hw _ (List.mem_of_getElem? (i := 15) rfl))) Via.refl F_runs d4_1 (pc' := 4) rfl ?_
  intro T1 G1
  refine o_iloadN G1 d4_4 (pc' := 5) rfl rfl ?_
  refine o_aloadN G1 d4_5 (pc' := 6) rfl rfl rfl ?_
  refine o_getF G1 (host := "") (Or.inl (hw _ (List.mem_of_getElem? (i := 15) rfl))) Via.refl F_runs d4_6 (pc' := 9) rfl ?_
  intro T2 G2
  refine o_iloadN G2 d4_9 (pc' := 10) rfl rfl ?_
  refine o_iloadN G2 d4_10 (pc' := 11) rfl rfl ?_
  refine o_acopy0 G2 (S := 0) (D := 1) (rest := []) A_r A_r (by intro i _; first | rfl | (simp only [o_set]; (repeat' split) <;> rfl)) (by intro i _; first | rfl | (simp only [o_set]; (repeat' split) <;> rfl)) (by decide) (by decide) (Or.inr ⟨rfl, rfl⟩) rfl rfl rfl (by decide) (by decide) (hw _ (List.mem_of_getElem? (i := 34) rfl)) (hw _ (List.mem_of_getElem? (i := 37) rfl)) (hw _ (List.mem_of_getElem? (i := 35) rfl)) (hw _ (List.mem_of_getElem? (i := 36) rfl)) (by omega) rfl d4_11 (pc' := 14) rfl (by decide) (W := 0) (Nat.le_of_eq rfl) (by decide) ?_
  intro T3 h3 G3 K3 A3
  replace K := K.trans K3 (allS (Or.inl (List.mem_of_getElem? (i := 0) rfl)) all0)
  replace E_r0 := E_r0.keep K3
  replace A_c := A_c.keep K3 (ninS (Ne.symm (o_ne (by omega))) nin0)
  replace A_ks := A_ks.keep K3 (ninS (Ne.symm (o_ne (by omega))) nin0)
  replace A_st := A_st.keep K3 (ninS (Ne.symm (o_ne (by omega))) nin0)
  replace F_runs := F_runs.keep K3 (ninS (o_ne (by omega)) nin0)
  replace F_counts := F_counts.keep K3 (ninS (o_ne (by omega)) nin0)
  replace F_runKeys := F_runKeys.keep K3 (ninS (o_ne (by omega)) nin0)
  replace F_runStarts := F_runStarts.keep K3 (ninS (o_ne (by omega)) nin0)
  have A_r := A3
  refine o_aloadN G3 d4_14 (pc' := 15) rfl rfl rfl ?_
  refine o_getF G3 (host := "") (Or.inl (hw _ (List.mem_of_getElem? (i := 17) rfl))) Via.refl F_counts d4_15 (pc' := 18) rfl ?_
  intro T4 G4
  refine o_iloadN G4 d4_18 (pc' := 19) rfl rfl ?_
  refine o_aloadN G4 d4_19 (pc' := 20) rfl rfl rfl ?_
  refine o_getF G4 (host := "") (Or.inl (hw _ (List.mem_of_getElem? (i := 17) rfl))) Via.refl F_counts d4_20 (pc' := 23) rfl ?_
  intro T5 G5
  refine o_iloadN G5 d4_23 (pc' := 24) rfl rfl ?_
  refine o_iloadN G5 d4_24 (pc' := 25) rfl rfl ?_
  refine o_acopy0 G5 (S := 0) (D := 1) (rest := []) A_c A_c (by intro i _; first | rfl | (simp only [o_set]; (repeat' split) <;> rfl)) (by intro i _; first | rfl | (simp only [o_set]; (repeat' split) <;> rfl)) (by decide) (by decide) (Or.inr ⟨rfl, rfl⟩) rfl rfl rfl (by decide) (by decide) (hw _ (List.mem_of_getElem? (i := 34) rfl)) (hw _ (List.mem_of_getElem? (i := 37) rfl)) (hw _ (List.mem_of_getElem? (i := 35) rfl)) (hw _ (List.mem_of_getElem? (i := 36) rfl)) (by omega) rfl d4_25 (pc' := 28) rfl (by decide) (W := 0) (Nat.le_of_eq rfl) (by decide) ?_
  intro T6 h6 G6 K6 A6
  replace K := K.trans K6 (allS (Or.inl (List.mem_of_getElem? (i := 1) rfl)) all0)
  replace E_r0 := E_r0.keep K6
  replace A_ks := A_ks.keep K6 (ninS (Ne.symm (o_ne (by omega))) nin0)
  replace A_st := A_st.keep K6 (ninS (Ne.symm (o_ne (by omega))) nin0)
  replace F_runs := F_runs.keep K6 (ninS (o_ne (by omega)) nin0)
  replace F_counts := F_counts.keep K6 (ninS (o_ne (by omega)) nin0)
  replace F_runKeys := F_runKeys.keep K6 (ninS (o_ne (by omega)) nin0)
  replace F_runStarts := F_runStarts.keep K6 (ninS (o_ne (by omega)) nin0)
  replace A_r := A_r.keep K6 (ninS (o_ne (by omega)) nin0)
  have A_c := A6
  refine o_aloadN G6 d4_28 (pc' := 29) rfl rfl rfl ?_
  refine o_getF G6 (host := "") (Or.inl (hw _ (List.mem_of_getElem? (i := 20) rfl))) Via.refl F_runKeys d4_29 (pc' := 32) rfl ?_
  intro T7 G7
  refine o_iloadN G7 d4_32 (pc' := 33) rfl rfl ?_
  refine o_aloadN G7 d4_33 (pc' := 34) rfl rfl rfl ?_
  refine o_getF G7 (host := "") (Or.inl (hw _ (List.mem_of_getElem? (i := 20) rfl))) Via.refl F_runKeys d4_34 (pc' := 37) rfl ?_
  intro T8 G8
  refine o_iloadN G8 d4_37 (pc' := 38) rfl rfl ?_
  refine o_iloadN G8 d4_38 (pc' := 39) rfl rfl ?_
  refine o_acopy0 G8 (S := 0) (D := 1) (rest := []) A_ks A_ks (by intro i _; first | rfl | (simp only [o_set]; (repeat' split) <;> rfl)) (by intro i _; first | rfl | (simp only [o_set]; (repeat' split) <;> rfl)) (by decide) (by decide) (Or.inl ⟨rfl, rfl⟩) rfl rfl rfl (by decide) (by decide) (hw _ (List.mem_of_getElem? (i := 34) rfl)) (hw _ (List.mem_of_getElem? (i := 37) rfl)) (hw _ (List.mem_of_getElem? (i := 35) rfl)) (hw _ (List.mem_of_getElem? (i := 36) rfl)) (by omega) rfl d4_39 (pc' := 42) rfl (by decide) (W := 0) (Nat.le_of_eq rfl) (by decide) ?_
  intro T9 h9 G9 K9 A9
  replace K := K.trans K9 (allS (Or.inl (List.mem_of_getElem? (i := 2) rfl)) all0)
  replace E_r0 := E_r0.keep K9
  replace A_st := A_st.keep K9 (ninS (Ne.symm (o_ne (by omega))) nin0)
  replace F_runs := F_runs.keep K9 (ninS (o_ne (by omega)) nin0)
  replace F_counts := F_counts.keep K9 (ninS (o_ne (by omega)) nin0)
  replace F_runKeys := F_runKeys.keep K9 (ninS (o_ne (by omega)) nin0)
  replace F_runStarts := F_runStarts.keep K9 (ninS (o_ne (by omega)) nin0)
  replace A_r := A_r.keep K9 (ninS (o_ne (by omega)) nin0)
  replace A_c := A_c.keep K9 (ninS (o_ne (by omega)) nin0)
  have A_ks := A9
  refine o_aloadN G9 d4_42 (pc' := 43) rfl rfl rfl ?_
  refine o_getF G9 (host := "") (Or.inl (hw _ (List.mem_of_getElem? (i := 22) rfl))) Via.refl F_runStarts d4_43 (pc' := 46) rfl ?_
  intro T10 G10
  refine o_iloadN G10 d4_46 (pc' := 47) rfl rfl ?_
  refine o_aloadN G10 d4_47 (pc' := 48) rfl rfl rfl ?_
  refine o_getF G10 (host := "") (Or.inl (hw _ (List.mem_of_getElem? (i := 22) rfl))) Via.refl F_runStarts d4_48 (pc' := 51) rfl ?_
  intro T11 G11
  refine o_iloadN G11 d4_51 (pc' := 52) rfl rfl ?_
  refine o_iloadN G11 d4_52 (pc' := 53) rfl rfl ?_
  refine o_acopy0 G11 (S := 0) (D := 1) (rest := []) A_st A_st (by intro i _; first | rfl | (simp only [o_set]; (repeat' split) <;> rfl)) (by intro i _; first | rfl | (simp only [o_set]; (repeat' split) <;> rfl)) (by decide) (by decide) (Or.inl ⟨rfl, rfl⟩) rfl rfl rfl (by decide) (by decide) (hw _ (List.mem_of_getElem? (i := 34) rfl)) (hw _ (List.mem_of_getElem? (i := 37) rfl)) (hw _ (List.mem_of_getElem? (i := 35) rfl)) (hw _ (List.mem_of_getElem? (i := 36) rfl)) (by omega) rfl d4_53 (pc' := 56) rfl (by decide) (W := 0) (Nat.le_of_eq rfl) (by decide) ?_
  intro T12 h12 G12 K12 A12
  replace K := K.trans K12 (allS (Or.inl (List.mem_of_getElem? (i := 3) rfl)) all0)
  replace E_r0 := E_r0.keep K12
  replace F_runs := F_runs.keep K12 (ninS (o_ne (by omega)) nin0)
  replace F_counts := F_counts.keep K12 (ninS (o_ne (by omega)) nin0)
  replace F_runKeys := F_runKeys.keep K12 (ninS (o_ne (by omega)) nin0)
  replace F_runStarts := F_runStarts.keep K12 (ninS (o_ne (by omega)) nin0)
  replace A_r := A_r.keep K12 (ninS (o_ne (by omega)) nin0)
  replace A_c := A_c.keep K12 (ninS (o_ne (by omega)) nin0)
  replace A_ks := A_ks.keep K12 (ninS (o_ne (by omega)) nin0)
  have A_st := A12
  exact o_return G12 d4_56 ⟨rfl, K, A_r, A_c, A_ks, A_st⟩ (by decide) (by decide)
theorem d3_0 : decode prog_81_method_24_code 0 = .ok (.aload_n 0, 1) := by decide +kernel
theorem d3_1 : decode prog_81_method_24_code 1 = .ok (.getfield 38, 3) := by decide +kernel
theorem d3_4 : decode prog_81_method_24_code 4 = .ok (.aload_n 0, 1) := by decide +kernel
theorem d3_5 : decode prog_81_method_24_code 5 = .ok (.getfield 18, 3) := by decide +kernel
theorem d3_8 : decode prog_81_method_24_code 8 = .ok (.arraylength, 1) := by decide +kernel
theorem d3_9 : decode prog_81_method_24_code 9 = .ok (.if_icmp .ne 64, 3) := by decide +kernel
theorem d3_73 : decode prog_81_method_24_code 73 = .ok (.aload_n 0, 1) := by decide +kernel
theorem d3_74 : decode prog_81_method_24_code 74 = .ok (.iload_n 1, 1) := by decide +kernel
theorem d3_75 : decode prog_81_method_24_code 75 = .ok (.iload_n 1, 1) := by decide +kernel
theorem d3_76 : decode prog_81_method_24_code 76 = .ok (.iconst 1, 1) := by decide +kernel
theorem d3_77 : decode prog_81_method_24_code 77 = .ok (.iadd, 1) := by decide +kernel
theorem d3_78 : decode prog_81_method_24_code 78 = .ok (.aload_n 0, 1) := by decide +kernel
theorem d3_79 : decode prog_81_method_24_code 79 = .ok (.getfield 38, 3) := by decide +kernel
theorem d3_82 : decode prog_81_method_24_code 82 = .ok (.iload_n 1, 1) := by decide +kernel
theorem d3_83 : decode prog_81_method_24_code 83 = .ok (.isub, 1) := by decide +kernel
theorem d3_84 : decode prog_81_method_24_code 84 = .ok (.invokevirtual 76, 3) := by decide +kernel
theorem d3_87 : decode prog_81_method_24_code 87 = .ok (.aload_n 0, 1) := by decide +kernel
theorem d3_88 : decode prog_81_method_24_code 88 = .ok (.getfield 18, 3) := by decide +kernel
theorem d3_91 : decode prog_81_method_24_code 91 = .ok (.iload_n 1, 1) := by decide +kernel
theorem d3_92 : decode prog_81_method_24_code 92 = .ok (.bipush 64, 2) := by decide +kernel
theorem d3_94 : decode prog_81_method_24_code 94 = .ok (.aload_n 0, 1) := by decide +kernel
theorem d3_95 : decode prog_81_method_24_code 95 = .ok (.getfield 13, 3) := by decide +kernel
theorem d3_98 : decode prog_81_method_24_code 98 = .ok (.imul, 1) := by decide +kernel
theorem d3_99 : decode prog_81_method_24_code 99 = .ok (.newarray .int, 2) := by decide +kernel
theorem d3_101 : decode prog_81_method_24_code 101 = .ok (.aastore, 1) := by decide +kernel
theorem d3_102 : decode prog_81_method_24_code 102 = .ok (.aload_n 0, 1) := by decide +kernel
theorem d3_103 : decode prog_81_method_24_code 103 = .ok (.getfield 22, 3) := by decide +kernel
theorem d3_106 : decode prog_81_method_24_code 106 = .ok (.iload_n 1, 1) := by decide +kernel
theorem d3_107 : decode prog_81_method_24_code 107 = .ok (.bipush 64, 2) := by decide +kernel
theorem d3_109 : decode prog_81_method_24_code 109 = .ok (.newarray .int, 2) := by decide +kernel
theorem d3_111 : decode prog_81_method_24_code 111 = .ok (.aastore, 1) := by decide +kernel
theorem d3_112 : decode prog_81_method_24_code 112 = .ok (.aload_n 0, 1) := by decide +kernel
theorem d3_113 : decode prog_81_method_24_code 113 = .ok (.getfield 25, 3) := by decide +kernel
theorem d3_116 : decode prog_81_method_24_code 116 = .ok (.iload_n 1, 1) := by decide +kernel
theorem d3_117 : decode prog_81_method_24_code 117 = .ok (.iconst 0, 1) := by decide +kernel
theorem d3_118 : decode prog_81_method_24_code 118 = .ok (.iastore, 1) := by decide +kernel
theorem d3_119 : decode prog_81_method_24_code 119 = .ok (.aload_n 0, 1) := by decide +kernel
theorem d3_120 : decode prog_81_method_24_code 120 = .ok (.getfield 28, 3) := by decide +kernel
theorem d3_123 : decode prog_81_method_24_code 123 = .ok (.iload_n 1, 1) := by decide +kernel
theorem d3_124 : decode prog_81_method_24_code 124 = .ok (.iload_n 2, 1) := by decide +kernel
theorem d3_125 : decode prog_81_method_24_code 125 = .ok (.iastore, 1) := by decide +kernel
theorem d3_126 : decode prog_81_method_24_code 126 = .ok (.aload_n 0, 1) := by decide +kernel
theorem d3_127 : decode prog_81_method_24_code 127 = .ok (.dup, 1) := by decide +kernel
theorem d3_128 : decode prog_81_method_24_code 128 = .ok (.getfield 38, 3) := by decide +kernel
theorem d3_131 : decode prog_81_method_24_code 131 = .ok (.iconst 1, 1) := by decide +kernel
theorem d3_132 : decode prog_81_method_24_code 132 = .ok (.iadd, 1) := by decide +kernel
theorem d3_133 : decode prog_81_method_24_code 133 = .ok (.putfield 38, 3) := by decide +kernel
theorem d3_136 : decode prog_81_method_24_code 136 = .ok (.return_, 1) := by decide +kernel
theorem pn_3 : plainName "com/example/keyfold/keyfold/KeyRuns" = true := by first | (simp [plainName, overriddenIn]; done) | decide +kernel
theorem ef_3 (m : MethodId) (r0 : Addr) (p1 : Int32) (p2 : Int32) : entryFrame m #[(.ref r0), (.int p1), (.int p2)] 4 = mkF m 0 #[.val (.ref r0), .val (.int p1), .val (.int p2), .unset] [] := by first | (simp [entryFrame, mkF, argsToLocals, Value.category]; done) | rfl
set_option maxRecDepth 65536 in
set_option maxHeartbeats 40000000 in
theorem rm3 {l : Launch} {Z : State} {a0 : Array Value} (hw : ∀ d ∈ tables_1, d.before a0 Z = true) (r0 : Addr) (h0 : Heap) (n0 : Nat) (hz : n0 ≤ h0.size) (r cc ks st : Addr) (hlt : n0 ≤ r0 ∧ @LT.lt Nat _ r0 r ∧ @LT.lt Nat _ r cc ∧ @LT.lt Nat _ cc ks ∧ @LT.lt Nat _ ks st) (E_r0 : Exa Z h0 r0 "com/example/keyfold/keyfold/KeyRuns") (F_runs : Fld Z h0 r0 "com/example/keyfold/keyfold/KeyRuns" "runs" "[[I" (.ref r)) (F_counts : Fld Z h0 r0 "com/example/keyfold/keyfold/KeyRuns" "counts" "[[I" (.ref cc)) (F_runKeys : Fld Z h0 r0 "com/example/keyfold/keyfold/KeyRuns" "runKeys" "[I" (.ref ks)) (F_runStarts : Fld Z h0 r0 "com/example/keyfold/keyfold/KeyRuns" "runStarts" "[I" (.ref st)) (A_r : OArr Z h0 r (.array .int) 4 (fun _ => .null)) (A_c : OArr Z h0 cc (.array .int) 4 (fun _ => .null)) (A_ks : OArr Z h0 ks .int 4 (fun _ => .int (0 : Int32))) (A_st : OArr Z h0 st .int 4 (fun _ => .int (0 : Int32))) (M_r : OMay Z h0 r "[I") (M_c : OMay Z h0 cc "[I") (F_runCount : Fld Z h0 r0 "com/example/keyfold/keyfold/KeyRuns" "runCount" "I" (.int (0 : Int32))) (F_stride : Fld Z h0 r0 "com/example/keyfold/keyfold/KeyRuns" "stride" "I" (.int (4 : Int32))) (F_columns : Fld Z h0 r0 "com/example/keyfold/keyfold/KeyRuns" "columns" "I" (.int (1 : Int32))) (F_entries : Fld Z h0 r0 "com/example/keyfold/keyfold/KeyRuns" "entries" "I" (.int (0 : Int32))) :
    OMet l Z (⟨"com/example/keyfold/keyfold/KeyRuns", "insertRun", "(II)V"⟩ : MethodName) prog_81_method_24_code 4 none ({ frames := 2, cells := 2, slots := 320, locals := 39 } : Room) #[(.ref r0), (.int (0 : Int32)), (.int (0 : Int32))] h0 n0 ({ frames := 2, cells := 2, slots := 320, locals := 39 } : Room).cells ({ frames := 2, cells := 2, slots := 320, locals := 39 } : Room).slots (fun v h => v = none ∧ Keep h0 h [r0, r, cc, ks, st] ∧ ∃ ra ca : Addr, st < ra ∧ ra < ca ∧ Fld Z h r0 "com/example/keyfold/keyfold/KeyRuns" "runs" "[[I" (.ref r) ∧ Fld Z h r0 "com/example/keyfold/keyfold/KeyRuns" "counts" "[[I" (.ref cc) ∧ Fld Z h r0 "com/example/keyfold/keyfold/KeyRuns" "runKeys" "[I" (.ref ks) ∧ Fld Z h r0 "com/example/keyfold/keyfold/KeyRuns" "runStarts" "[I" (.ref st) ∧ Fld Z h r0 "com/example/keyfold/keyfold/KeyRuns" "runCount" "I" (.int 1) ∧ Fld Z h r0 "com/example/keyfold/keyfold/KeyRuns" "stride" "I" (.int 4) ∧ Fld Z h r0 "com/example/keyfold/keyfold/KeyRuns" "columns" "I" (.int 1) ∧ Fld Z h r0 "com/example/keyfold/keyfold/KeyRuns" "entries" "I" (.int 0) ∧ OArr Z h r (.array .int) 4 (own_a1 ra) ∧ OArr Z h cc (.array .int) 4 (own_a1 ca) ∧ OArr Z h ks .int 4 (fun j => .int (own_k 0 j)) ∧ OArr Z h st .int 4 (fun _ => .int (0 : Int32)) ∧ OArr Z h ra .int 256 (fun _ => .int (0 : Int32)) ∧ OArr Z h ca .int 64 (fun j => .int (own_c3 0 0 0 j))) := by
  refine o_body (plainFor_of_name pn_3) hz (fun m => ef_3 m r0 (0 : Int32) (0 : Int32)) ?_
  intro p e s m below meth c s₁ G0
  have K : Keep h0 h0 [r0, r, cc, ks, st] := Keep.refl _ _
  refine o_aloadN G0 d3_0 (pc' := 1) rfl rfl rfl ?_
  refine o_getF G0 (host := "") (Or.inl (hw _ (List.mem_of_getElem? (i := 28) rfl))) Via.refl F_runCount d3_1 (pc' := 4) rfl ?_
  intro T1 G1
  refine o_aloadN G1 d3_4 (pc' := 5) rfl rfl rfl ?_
  refine o_getF G1 (host := "") (Or.inl (hw _ (List.mem_of_getElem? (i := 15) rfl))) Via.refl F_runs d3_5 (pc' := 8) rfl ?_
  intro T2 G2
  refine o_arraylength G2 A_r (v := (4 : Int32)) rfl d3_8 (pc' := 9) rfl ?_
  refine o_icmp_ne G2 d3_9 (by decide) (pcT := 73) (by decide) (pc' := 12) rfl (fun _ => ?_) (fun q => absurd q (by decide))
  refine o_aloadN G2 d3_73 (pc' := 74) rfl rfl rfl ?_
  refine o_iloadN G2 d3_74 (pc' := 75) rfl rfl ?_
  refine o_iloadN G2 d3_75 (pc' := 76) rfl rfl ?_
  refine o_iconst G2 d3_76 (pc' := 77) rfl (v := (1 : Int32)) rfl ?_
  refine o_iadd G2 d3_77 (pc' := 78) rfl (v := (1 : Int32)) (by decide) ?_
  refine o_aloadN G2 d3_78 (pc' := 79) rfl rfl rfl ?_
  refine o_getF G2 (host := "") (Or.inl (hw _ (List.mem_of_getElem? (i := 28) rfl))) Via.refl F_runCount d3_79 (pc' := 82) rfl ?_
  intro T3 G3
  refine o_iloadN G3 d3_82 (pc' := 83) rfl rfl ?_
  refine o_isub G3 d3_83 (pc' := 84) rfl (v := (0 : Int32)) (by decide) ?_
  refine o_callPr G3 (z := (⟨"com/example/keyfold/keyfold/KeyRuns", "moveRuns", "(III)V"⟩ : MethodName)) (argsL := [(.int (0 : Int32)), (.int (1 : Int32)), (.int (0 : Int32))]) (rest := []) (W := 0) E_r0 (hw _ (List.mem_of_getElem? (i := 30) rfl)) (hw _ (List.mem_of_getElem? (i := 31) rfl)) (hw _ (List.mem_of_getElem? (i := 32) rfl)) (hw _ (List.mem_of_getElem? (i := 1) rfl)) d3_84 (by decide) (hw _ (List.mem_of_getElem? (i := 2) rfl)) (hw _ (List.mem_of_getElem? (i := 33) rfl)) (rm4 hw r0 h0 n0 G3.sz r cc ks st hlt E_r0 F_runs F_counts F_runKeys F_runStarts A_r A_c A_ks A_st) (by decide) (by decide) rfl (lenOf pd_0 rfl) rfl (Nat.le_of_eq rfl) (pc' := 87) rfl (by decide) (by decide) ?_
  rintro _ T4 h4 G4 ⟨rfl, K4, Ar4, Ac4, Ak4, As4⟩
  replace K := K.trans K4 (allS (Or.inl (List.mem_of_getElem? (i := 1) rfl)) (allS (Or.inl (List.mem_of_getElem? (i := 2) rfl)) (allS (Or.inl (List.mem_of_getElem? (i := 3) rfl)) (allS (Or.inl (List.mem_of_getElem? (i := 4) rfl)) all0))))
  replace E_r0 := E_r0.keep K4
  replace F_runs := F_runs.keep K4 (ninS (o_ne (by omega)) (ninS (o_ne (by omega)) (ninS (o_ne (by omega)) (ninS (o_ne (by omega)) nin0))))
  replace F_counts := F_counts.keep K4 (ninS (o_ne (by omega)) (ninS (o_ne (by omega)) (ninS (o_ne (by omega)) (ninS (o_ne (by omega)) nin0))))
  replace F_runKeys := F_runKeys.keep K4 (ninS (o_ne (by omega)) (ninS (o_ne (by omega)) (ninS (o_ne (by omega)) (ninS (o_ne (by omega)) nin0))))
  replace F_runStarts := F_runStarts.keep K4 (ninS (o_ne (by omega)) (ninS (o_ne (by omega)) (ninS (o_ne (by omega)) (ninS (o_ne (by omega)) nin0))))
  replace F_runCount := F_runCount.keep K4 (ninS (o_ne (by omega)) (ninS (o_ne (by omega)) (ninS (o_ne (by omega)) (ninS (o_ne (by omega)) nin0))))
  replace F_stride := F_stride.keep K4 (ninS (o_ne (by omega)) (ninS (o_ne (by omega)) (ninS (o_ne (by omega)) (ninS (o_ne (by omega)) nin0))))
  replace M_r := M_r.keep K4
  replace M_c := M_c.keep K4
  replace F_columns := F_columns.keep K4 (ninS (o_ne (by omega)) (ninS (o_ne (by omega)) (ninS (o_ne (by omega)) (ninS (o_ne (by omega)) nin0))))
  replace F_entries := F_entries.keep K4 (ninS (o_ne (by omega)) (ninS (o_ne (by omega)) (ninS (o_ne (by omega)) (ninS (o_ne (by omega)) nin0))))
  have A_r := Ar4
  have A_c := Ac4
  have A_ks := Ak4
  have A_st := As4
  show OFin n0 p e below s (fun v h => v = none ∧ Keep h0 h [r0, r, cc, ks, st] ∧ ∃ ra ca : Addr, st < ra ∧ ra < ca ∧ Fld Z h r0 "com/example/keyfold/keyfold/KeyRuns" "runs" "[[I" (.ref r) ∧ Fld Z h r0 "com/example/keyfold/keyfold/KeyRuns" "counts" "[[I" (.ref cc) ∧ Fld Z h r0 "com/example/keyfold/keyfold/KeyRuns" "runKeys" "[I" (.ref ks) ∧ Fld Z h r0 "com/example/keyfold/keyfold/KeyRuns" "runStarts" "[I" (.ref st) ∧ Fld Z h r0 "com/example/keyfold/keyfold/KeyRuns" "runCount" "I" (.int 1) ∧ Fld Z h r0 "com/example/keyfold/keyfold/KeyRuns" "stride" "I" (.int 4) ∧ Fld Z h r0 "com/example/keyfold/keyfold/KeyRuns" "columns" "I" (.int 1) ∧ Fld Z h r0 "com/example/keyfold/keyfold/KeyRuns" "entries" "I" (.int 0) ∧ OArr Z h r (.array .int) 4 (own_a1 ra) ∧ OArr Z h cc (.array .int) 4 (own_a1 ca) ∧ OArr Z h ks .int 4 (fun j => .int (own_k 0 j)) ∧ OArr Z h st .int 4 (fun _ => .int (0 : Int32)) ∧ OArr Z h ra .int 256 (fun _ => .int (0 : Int32)) ∧ OArr Z h ca .int 64 (fun j => .int (own_c3 0 0 0 j))) 2 320 T4 (mkF m 87 #[.val (.ref r0), .val (.int (0 : Int32)), .val (.int (0 : Int32)), .unset] [])
  refine o_aloadN G4 d3_87 (pc' := 88) rfl rfl rfl ?_
  refine o_getF G4 (host := "") (Or.inl (hw _ (List.mem_of_getElem? (i := 15) rfl))) Via.refl F_runs d3_88 (pc' := 91) rfl ?_
  intro T5 G5
  refine o_iloadN G5 d3_91 (pc' := 92) rfl rfl ?_
  refine o_bipush G5 d3_92 (pc' := 94) rfl (v := (64 : Int32)) rfl ?_
  refine o_aloadN G5 d3_94 (pc' := 95) rfl rfl rfl ?_
  refine o_getF G5 (host := "") (Or.inl (hw _ (List.mem_of_getElem? (i := 11) rfl))) Via.refl F_stride d3_95 (pc' := 98) rfl ?_
  intro T6 G6
  refine o_imul G6 d3_98 (pc' := 99) rfl (v := (256 : Int32)) (by decide) ?_
  refine o_newarrayE G6 (N := 256) (cap := 256) (ad := "[I") rfl (hw _ (List.mem_of_getElem? (i := 19) rfl)) rfl (by decide) (by decide) d3_99 (pc' := 101) rfl (by decide) (by decide) ?_
  intro T7 h7 b7 G7 g7 g_b7 E7 A_b7 X_b7
  have ne_r0_b7 : r0 ≠ b7 := Nat.ne_of_lt (Nat.lt_of_lt_of_eq E_r0.lt g7.symm)
  have ne_r_b7 : r ≠ b7 := Nat.ne_of_lt (Nat.lt_of_lt_of_eq A_r.lt g7.symm)
  have ne_cc_b7 : cc ≠ b7 := Nat.ne_of_lt (Nat.lt_of_lt_of_eq A_c.lt g7.symm)
  have ne_ks_b7 : ks ≠ b7 := Nat.ne_of_lt (Nat.lt_of_lt_of_eq A_ks.lt g7.symm)
  have ne_st_b7 : st ≠ b7 := Nat.ne_of_lt (Nat.lt_of_lt_of_eq A_st.lt g7.symm)
  have hl_b7 : st < b7 := Nat.lt_of_lt_of_eq A_st.lt g7.symm
  have sz_b7 : h0.size ≤ b7 := Nat.le_trans K.1 (Nat.le_of_eq g7.symm)
  replace K := K.ext E7
  replace E_r0 := E_r0.ext E7
  replace F_runs := F_runs.ext E7
  replace F_counts := F_counts.ext E7
  replace F_runKeys := F_runKeys.ext E7
  replace F_runStarts := F_runStarts.ext E7
  replace F_runCount := F_runCount.ext E7
  replace F_stride := F_stride.ext E7
  replace M_r := M_r.ext E7
  replace M_c := M_c.ext E7
  replace F_columns := F_columns.ext E7
  replace F_entries := F_entries.ext E7
  replace A_r := A_r.ext E7
  replace A_c := A_c.ext E7
  replace A_ks := A_ks.ext E7
  replace A_st := A_st.ext E7
  replace A_b7 : OArr Z h7 b7 .int 256 (fun _ => (.int (0 : Int32))) := A_b7
  refine o_aastore G7 A_r rfl (M_r.sto (Ins.self X_b7)) (by omega) (i := 0) rfl (by decide) d3_101 (pc' := 102) rfl ?_
  intro T8 h8 G8 W8 A8
  replace K := K.wr W8 (Or.inl (List.mem_of_getElem? (i := 1) rfl))
  replace E_r0 := E_r0.wr W8
  replace F_runs := F_runs.other W8 (Or.inl (o_ne (by omega)))
  replace F_counts := F_counts.other W8 (Or.inl (o_ne (by omega)))
  replace F_runKeys := F_runKeys.other W8 (Or.inl (o_ne (by omega)))
  replace F_runStarts := F_runStarts.other W8 (Or.inl (o_ne (by omega)))
  replace F_runCount := F_runCount.other W8 (Or.inl (o_ne (by omega)))
  replace F_stride := F_stride.other W8 (Or.inl (o_ne (by omega)))
  replace M_r := M_r.wr W8
  replace M_c := M_c.wr W8
  replace F_columns := F_columns.other W8 (Or.inl (o_ne (by omega)))
  replace F_entries := F_entries.other W8 (Or.inl (o_ne (by omega)))
  replace A_c := A_c.other W8 (Ne.symm (o_ne (by omega)))
  replace A_ks := A_ks.other W8 (Ne.symm (o_ne (by omega)))
  replace A_st := A_st.other W8 (Ne.symm (o_ne (by omega)))
  replace A_b7 := A_b7.other W8 (Ne.symm ne_r_b7)
  replace X_b7 := X_b7.wr W8
  replace A_r := A8
  refine o_aloadN G8 d3_102 (pc' := 103) rfl rfl rfl ?_
  refine o_getF G8 (host := "") (Or.inl (hw _ (List.mem_of_getElem? (i := 17) rfl))) Via.refl F_counts d3_103 (pc' := 106) rfl ?_
  intro T9 G9
  refine o_iloadN G9 d3_106 (pc' := 107) rfl rfl ?_
  refine o_bipush G9 d3_107 (pc' := 109) rfl (v := (64 : Int32)) rfl ?_
  refine o_newarrayE G9 (N := 64) (cap := 64) (ad := "[I") rfl (hw _ (List.mem_of_getElem? (i := 19) rfl)) rfl (by decide) (by decide) d3_109 (pc' := 111) rfl (by decide) (by decide) ?_
  intro T10 h10 b10 G10 g10 g_b10 E10 A_b10 X_b10
  have ne_r0_b10 : r0 ≠ b10 := Nat.ne_of_lt (Nat.lt_of_lt_of_eq E_r0.lt g10.symm)
  have ne_r_b10 : r ≠ b10 := Nat.ne_of_lt (Nat.lt_of_lt_of_eq A_r.lt g10.symm)
  have ne_cc_b10 : cc ≠ b10 := Nat.ne_of_lt (Nat.lt_of_lt_of_eq A_c.lt g10.symm)
  have ne_ks_b10 : ks ≠ b10 := Nat.ne_of_lt (Nat.lt_of_lt_of_eq A_ks.lt g10.symm)
  have ne_st_b10 : st ≠ b10 := Nat.ne_of_lt (Nat.lt_of_lt_of_eq A_st.lt g10.symm)
  have ne_b7_b10 : b7 ≠ b10 := Nat.ne_of_lt (Nat.lt_of_lt_of_eq A_b7.lt g10.symm)
  have hl_b10 : b7 < b10 := Nat.lt_of_lt_of_eq A_b7.lt g10.symm
  have sz_b10 : h0.size ≤ b10 := Nat.le_trans K.1 (Nat.le_of_eq g10.symm)
  replace K := K.ext E10
  replace E_r0 := E_r0.ext E10
  replace F_runs := F_runs.ext E10
  replace F_counts := F_counts.ext E10
  replace F_runKeys := F_runKeys.ext E10
  replace F_runStarts := F_runStarts.ext E10
  replace F_runCount := F_runCount.ext E10
  replace F_stride := F_stride.ext E10
  replace M_r := M_r.ext E10
  replace M_c := M_c.ext E10
  replace F_columns := F_columns.ext E10
  replace F_entries := F_entries.ext E10
  replace A_r := A_r.ext E10
  replace A_c := A_c.ext E10
  replace A_ks := A_ks.ext E10
  replace A_st := A_st.ext E10
  replace A_b7 := A_b7.ext E10
  replace X_b7 := X_b7.ext E10
  replace A_b10 : OArr Z h10 b10 .int 64 (fun _ => (.int (0 : Int32))) := A_b10
  refine o_aastore G10 A_c rfl (M_c.sto (Ins.self X_b10)) (by omega) (i := 0) rfl (by decide) d3_111 (pc' := 112) rfl ?_
  intro T11 h11 G11 W11 A11
  replace K := K.wr W11 (Or.inl (List.mem_of_getElem? (i := 2) rfl))
  replace E_r0 := E_r0.wr W11
  replace F_runs := F_runs.other W11 (Or.inl (o_ne (by omega)))
  replace F_counts := F_counts.other W11 (Or.inl (o_ne (by omega)))
  replace F_runKeys := F_runKeys.other W11 (Or.inl (o_ne (by omega)))
  replace F_runStarts := F_runStarts.other W11 (Or.inl (o_ne (by omega)))
  replace F_runCount := F_runCount.other W11 (Or.inl (o_ne (by omega)))
  replace F_stride := F_stride.other W11 (Or.inl (o_ne (by omega)))
  replace M_r := M_r.wr W11
  replace M_c := M_c.wr W11
  replace F_columns := F_columns.other W11 (Or.inl (o_ne (by omega)))
  replace F_entries := F_entries.other W11 (Or.inl (o_ne (by omega)))
  replace A_r := A_r.other W11 (o_ne (by omega))
  replace A_ks := A_ks.other W11 (Ne.symm (o_ne (by omega)))
  replace A_st := A_st.other W11 (Ne.symm (o_ne (by omega)))
  replace A_b7 := A_b7.other W11 (Ne.symm ne_cc_b7)
  replace X_b7 := X_b7.wr W11
  replace A_b10 := A_b10.other W11 (Ne.symm ne_cc_b10)
  replace X_b10 := X_b10.wr W11
  replace A_c := A11
  refine o_aloadN G11 d3_112 (pc' := 113) rfl rfl rfl ?_
  refine o_getF G11 (host := "") (Or.inl (hw _ (List.mem_of_getElem? (i := 20) rfl))) Via.refl F_runKeys d3_113 (pc' := 116) rfl ?_
  intro T12 G12
  refine o_iloadN G12 d3_116 (pc' := 117) rfl rfl ?_
  refine o_iconst G12 d3_117 (pc' := 118) rfl (v := (0 : Int32)) rfl ?_
  refine o_iastore G12 A_ks (by omega) (i := 0) rfl (by decide) d3_118 (pc' := 119) rfl ?_
  intro T13 h13 G13 W13 A13
  replace K := K.wr W13 (Or.inl (List.mem_of_getElem? (i := 3) rfl))
  replace E_r0 := E_r0.wr W13
  replace F_runs := F_runs.other W13 (Or.inl (o_ne (by omega)))
  replace F_counts := F_counts.other W13 (Or.inl (o_ne (by omega)))
  replace F_runKeys := F_runKeys.other W13 (Or.inl (o_ne (by omega)))
  replace F_runStarts := F_runStarts.other W13 (Or.inl (o_ne (by omega)))
  replace F_runCount := F_runCount.other W13 (Or.inl (o_ne (by omega)))
  replace F_stride := F_stride.other W13 (Or.inl (o_ne (by omega)))
  replace M_r := M_r.wr W13
  replace M_c := M_c.wr W13
  replace F_columns := F_columns.other W13 (Or.inl (o_ne (by omega)))
  replace F_entries := F_entries.other W13 (Or.inl (o_ne (by omega)))
  replace A_r := A_r.other W13 (o_ne (by omega))
  replace A_c := A_c.other W13 (o_ne (by omega))
  replace A_st := A_st.other W13 (Ne.symm (o_ne (by omega)))
  replace A_b7 := A_b7.other W13 (Ne.symm ne_ks_b7)
  replace X_b7 := X_b7.wr W13
  replace A_b10 := A_b10.other W13 (Ne.symm ne_ks_b10)
  replace X_b10 := X_b10.wr W13
  replace A_ks := A13
  refine o_aloadN G13 d3_119 (pc' := 120) rfl rfl rfl ?_
  refine o_getF G13 (host := "") (Or.inl (hw _ (List.mem_of_getElem? (i := 22) rfl))) Via.refl F_runStarts d3_120 (pc' := 123) rfl ?_
  intro T14 G14
  refine o_iloadN G14 d3_123 (pc' := 124) rfl rfl ?_
  refine o_iloadN G14 d3_124 (pc' := 125) rfl rfl ?_
  refine o_iastore G14 A_st (by omega) (i := 0) rfl (by decide) d3_125 (pc' := 126) rfl ?_
  intro T15 h15 G15 W15 A15
  replace K := K.wr W15 (Or.inl (List.mem_of_getElem? (i := 4) rfl))
  replace E_r0 := E_r0.wr W15
  replace F_runs := F_runs.other W15 (Or.inl (o_ne (by omega)))
  replace F_counts := F_counts.other W15 (Or.inl (o_ne (by omega)))
  replace F_runKeys := F_runKeys.other W15 (Or.inl (o_ne (by omega)))
  replace F_runStarts := F_runStarts.other W15 (Or.inl (o_ne (by omega)))
  replace F_runCount := F_runCount.other W15 (Or.inl (o_ne (by omega)))
  replace F_stride := F_stride.other W15 (Or.inl (o_ne (by omega)))
  replace M_r := M_r.wr W15
  replace M_c := M_c.wr W15
  replace F_columns := F_columns.other W15 (Or.inl (o_ne (by omega)))
  replace F_entries := F_entries.other W15 (Or.inl (o_ne (by omega)))
  replace A_r := A_r.other W15 (o_ne (by omega))
  replace A_c := A_c.other W15 (o_ne (by omega))
  replace A_ks := A_ks.other W15 (o_ne (by omega))
  replace A_b7 := A_b7.other W15 (Ne.symm ne_st_b7)
  replace X_b7 := X_b7.wr W15
  replace A_b10 := A_b10.other W15 (Ne.symm ne_st_b10)
  replace X_b10 := X_b10.wr W15
  replace A_st := A15
  refine o_aloadN G15 d3_126 (pc' := 127) rfl rfl rfl ?_
  refine o_dup G15 d3_127 (pc' := 128) rfl rfl ?_
  refine o_getF G15 (host := "") (Or.inl (hw _ (List.mem_of_getElem? (i := 28) rfl))) Via.refl F_runCount d3_128 (pc' := 131) rfl ?_
  intro T16 G16
  refine o_iconst G16 d3_131 (pc' := 132) rfl (v := (1 : Int32)) rfl ?_
  refine o_iadd G16 d3_132 (pc' := 133) rfl (v := (1 : Int32)) (by decide) ?_
  refine o_putF G16 (host := "") (Or.inl (hw _ (List.mem_of_getElem? (i := 28) rfl))) Via.refl F_runCount E_r0 (Or.inl (hw _ (List.mem_of_getElem? (i := 29) rfl))) (hw _ (List.mem_of_getElem? (i := 1) rfl)) (ty := .int) (by decide) rfl rfl (by omega) d3_133 (pc' := 136) rfl ?_
  intro T17 h17 G17 W17
  replace K := K.wr W17 (Or.inl (List.mem_of_getElem? (i := 0) rfl))
  replace E_r0 := E_r0.wr W17
  replace F_runs := F_runs.other W17 (Or.inr (slot_ne (Or.inl (hw _ (List.mem_of_getElem? (i := 16) rfl))) (Or.inl (hw _ (List.mem_of_getElem? (i := 29) rfl))) (by decide) (t := (.array (.array .int))) (t' := .int) (by decide) (by decide)))
  replace F_counts := F_counts.other W17 (Or.inr (slot_ne (Or.inl (hw _ (List.mem_of_getElem? (i := 18) rfl))) (Or.inl (hw _ (List.mem_of_getElem? (i := 29) rfl))) (by decide) (t := (.array (.array .int))) (t' := .int) (by decide) (by decide)))
  replace F_runKeys := F_runKeys.other W17 (Or.inr (slot_ne (Or.inl (hw _ (List.mem_of_getElem? (i := 21) rfl))) (Or.inl (hw _ (List.mem_of_getElem? (i := 29) rfl))) (by decide) (t := (.array .int)) (t' := .int) (by decide) (by decide)))
  replace F_runStarts := F_runStarts.other W17 (Or.inr (slot_ne (Or.inl (hw _ (List.mem_of_getElem? (i := 23) rfl))) (Or.inl (hw _ (List.mem_of_getElem? (i := 29) rfl))) (by decide) (t := (.array .int)) (t' := .int) (by decide) (by decide)))
  replace F_runCount := F_runCount.same W17
  replace F_stride := F_stride.other W17 (Or.inr (slot_ne (Or.inr (hw _ (List.mem_of_getElem? (i := 12) rfl))) (Or.inl (hw _ (List.mem_of_getElem? (i := 29) rfl))) (by decide) (t := .int) (t' := .int) (by decide) (by decide)))
  replace M_r := M_r.wr W17
  replace M_c := M_c.wr W17
  replace F_columns := F_columns.other W17 (Or.inr (slot_ne (Or.inr (hw _ (List.mem_of_getElem? (i := 10) rfl))) (Or.inl (hw _ (List.mem_of_getElem? (i := 29) rfl))) (by decide) (t := .int) (t' := .int) (by decide) (by decide)))
  replace F_entries := F_entries.other W17 (Or.inr (slot_ne (Or.inl (hw _ (List.mem_of_getElem? (i := 58) rfl))) (Or.inl (hw _ (List.mem_of_getElem? (i := 29) rfl))) (by decide) (t := .int) (t' := .int) (by decide) (by decide)))
  replace A_r := A_r.other W17 (Ne.symm (o_ne (by omega)))
  replace A_c := A_c.other W17 (Ne.symm (o_ne (by omega)))
  replace A_ks := A_ks.other W17 (Ne.symm (o_ne (by omega)))
  replace A_st := A_st.other W17 (Ne.symm (o_ne (by omega)))
  replace A_b7 := A_b7.other W17 (Ne.symm ne_r0_b7)
  replace X_b7 := X_b7.wr W17
  replace A_b10 := A_b10.other W17 (Ne.symm ne_r0_b10)
  replace X_b10 := X_b10.wr W17
  exact o_return G17 d3_136 ⟨rfl, K, b7, b10, hl_b7, hl_b10, F_runs, F_counts, F_runKeys, F_runStarts, F_runCount, F_stride, F_columns, F_entries, (A_r.congr (by intro j hj; simp only [own_a1, own_k, o_set] <;> (repeat' split) <;> first | rfl | omega)), (A_c.congr (by intro j hj; simp only [own_a1, own_k, o_set] <;> (repeat' split) <;> first | rfl | omega)), (A_ks.congr (by intro j hj; simp only [own_a1, own_k, o_set] <;> (repeat' split) <;> first | rfl | omega)), (A_st.congr (by intro j hj; simp only [own_a1, own_k, o_set] <;> (repeat' split) <;> first | rfl | omega)), A_b7, (A_b10.congr (by intro j hj; simp only [own_c3, o_set] <;> (repeat' split) <;> first | rfl | omega))⟩ (by decide) (by decide)
theorem d1_0 : decode prog_81_method_1_code 0 = .ok (.aload_n 0, 1) := by decide +kernel
theorem d1_1 : decode prog_81_method_1_code 1 = .ok (.invokespecial 3, 3) := by decide +kernel
theorem d1_4 : decode prog_81_method_1_code 4 = .ok (.aload_n 0, 1) := by decide +kernel
theorem d1_5 : decode prog_81_method_1_code 5 = .ok (.iload_n 1, 1) := by decide +kernel
theorem d1_6 : decode prog_81_method_1_code 6 = .ok (.putfield 9, 3) := by decide +kernel
theorem d1_9 : decode prog_81_method_1_code 9 = .ok (.aload_n 0, 1) := by decide +kernel
theorem d1_10 : decode prog_81_method_1_code 10 = .ok (.iconst 3, 1) := by decide +kernel
theorem d1_11 : decode prog_81_method_1_code 11 = .ok (.iload_n 1, 1) := by decide +kernel
theorem d1_12 : decode prog_81_method_1_code 12 = .ok (.iadd, 1) := by decide +kernel
theorem d1_13 : decode prog_81_method_1_code 13 = .ok (.putfield 13, 3) := by decide +kernel
theorem d1_16 : decode prog_81_method_1_code 16 = .ok (.aload_n 0, 1) := by decide +kernel
theorem d1_17 : decode prog_81_method_1_code 17 = .ok (.iconst 4, 1) := by decide +kernel
theorem d1_18 : decode prog_81_method_1_code 18 = .ok (.anewarray 16, 3) := by decide +kernel
theorem d1_21 : decode prog_81_method_1_code 21 = .ok (.putfield 18, 3) := by decide +kernel
theorem d1_24 : decode prog_81_method_1_code 24 = .ok (.aload_n 0, 1) := by decide +kernel
theorem d1_25 : decode prog_81_method_1_code 25 = .ok (.iconst 4, 1) := by decide +kernel
theorem d1_26 : decode prog_81_method_1_code 26 = .ok (.anewarray 16, 3) := by decide +kernel
theorem d1_29 : decode prog_81_method_1_code 29 = .ok (.putfield 22, 3) := by decide +kernel
theorem d1_32 : decode prog_81_method_1_code 32 = .ok (.aload_n 0, 1) := by decide +kernel
theorem d1_33 : decode prog_81_method_1_code 33 = .ok (.iconst 4, 1) := by decide +kernel
theorem d1_34 : decode prog_81_method_1_code 34 = .ok (.newarray .int, 2) := by decide +kernel
theorem d1_36 : decode prog_81_method_1_code 36 = .ok (.putfield 25, 3) := by decide +kernel
theorem d1_39 : decode prog_81_method_1_code 39 = .ok (.aload_n 0, 1) := by decide +kernel
theorem d1_40 : decode prog_81_method_1_code 40 = .ok (.iconst 4, 1) := by decide +kernel
theorem d1_41 : decode prog_81_method_1_code 41 = .ok (.newarray .int, 2) := by decide +kernel
theorem d1_43 : decode prog_81_method_1_code 43 = .ok (.putfield 28, 3) := by decide +kernel
theorem d1_46 : decode prog_81_method_1_code 46 = .ok (.aload_n 0, 1) := by decide +kernel
theorem d1_47 : decode prog_81_method_1_code 47 = .ok (.iconst 0, 1) := by decide +kernel
theorem d1_48 : decode prog_81_method_1_code 48 = .ok (.iconst 0, 1) := by decide +kernel
theorem d1_49 : decode prog_81_method_1_code 49 = .ok (.invokevirtual 31, 3) := by decide +kernel
theorem d1_52 : decode prog_81_method_1_code 52 = .ok (.return_, 1) := by decide +kernel
theorem pn_1 : plainName "com/example/keyfold/keyfold/KeyRuns" = true := by first | (simp [plainName, overriddenIn]; done) | decide +kernel
theorem ef_1 (m : MethodId) (r0 : Addr) (p1 : Int32) : entryFrame m #[(.ref r0), (.int p1)] 2 = mkF m 0 #[.val (.ref r0), .val (.int p1)] [] := by first | (simp [entryFrame, mkF, argsToLocals, Value.category]; done) | rfl
set_option maxRecDepth 65536 in
set_option maxHeartbeats 40000000 in
theorem rm1 {l : Launch} {Z : State} {a0 : Array Value} (hw : ∀ d ∈ tables_1, d.before a0 Z = true) (r0 : Addr) (h0 : Heap) (n0 : Nat) (hz : n0 ≤ h0.size) (g_r0 : n0 ≤ r0) (E_r0 : Exa Z h0 r0 "com/example/keyfold/keyfold/KeyRuns") (F_columns : Fld Z h0 r0 "com/example/keyfold/keyfold/KeyRuns" "columns" "I" (.int (0 : Int32))) (F_stride : Fld Z h0 r0 "com/example/keyfold/keyfold/KeyRuns" "stride" "I" (.int (0 : Int32))) (F_runs : Fld Z h0 r0 "com/example/keyfold/keyfold/KeyRuns" "runs" "[[I" .null) (F_counts : Fld Z h0 r0 "com/example/keyfold/keyfold/KeyRuns" "counts" "[[I" .null) (F_runKeys : Fld Z h0 r0 "com/example/keyfold/keyfold/KeyRuns" "runKeys" "[I" .null) (F_runStarts : Fld Z h0 r0 "com/example/keyfold/keyfold/KeyRuns" "runStarts" "[I" .null) (F_runCount : Fld Z h0 r0 "com/example/keyfold/keyfold/KeyRuns" "runCount" "I" (.int (0 : Int32))) (F_entries : Fld Z h0 r0 "com/example/keyfold/keyfold/KeyRuns" "entries" "I" (.int (0 : Int32))) :
    OMet l Z (⟨"com/example/keyfold/keyfold/KeyRuns", "<init>", "(I)V"⟩ : MethodName) prog_81_method_1_code 2 none ({ frames := 3, cells := 6, slots := 336, locals := 54 } : Room) #[(.ref r0), (.int (1 : Int32))] h0 n0 ({ frames := 3, cells := 6, slots := 336, locals := 54 } : Room).cells ({ frames := 3, cells := 6, slots := 336, locals := 54 } : Room).slots (fun v h => v = none ∧ Keep h0 h [r0] ∧ ∃ r cc ks st ra ca : Addr, own_KR Z h n0 r0 r cc ks st ra ca 0 0 0 0 0) := by
  refine o_body (plainFor_of_name pn_1) hz (fun m => ef_1 m r0 (1 : Int32)) ?_
  intro p e s m below meth c s₁ G0
  have K : Keep h0 h0 [r0] := Keep.refl _ _
  refine o_aloadN G0 d1_0 (pc' := 1) rfl rfl rfl ?_
  refine o_initO G0 (hw _ (List.mem_of_getElem? (i := 6) rfl)) (hw _ (List.mem_of_getElem? (i := 7) rfl)) (hw _ (List.mem_of_getElem? (i := 8) rfl)) d1_1 (pc' := 4) rfl rfl (by decide) (W := 0) (Nat.le_of_eq rfl) (by decide) ?_
  intro T1 G1
  refine o_aloadN G1 d1_4 (pc' := 5) rfl rfl rfl ?_
  refine o_iloadN G1 d1_5 (pc' := 6) rfl rfl ?_
  refine o_putF G1 (host := "") (Or.inl (hw _ (List.mem_of_getElem? (i := 9) rfl))) Via.refl F_columns E_r0 (Or.inr ⟨(hw _ (List.mem_of_getElem? (i := 10) rfl)), rfl, rfl⟩) (hw _ (List.mem_of_getElem? (i := 1) rfl)) (ty := .int) (by decide) rfl rfl g_r0 d1_6 (pc' := 9) rfl ?_
  intro T2 h2 G2 W2
  replace K := K.wr W2 (Or.inl (List.mem_of_getElem? (i := 0) rfl))
  replace E_r0 := E_r0.wr W2
  replace F_columns := F_columns.same W2
  replace F_stride := F_stride.other W2 (Or.inr (slot_ne (Or.inr (hw _ (List.mem_of_getElem? (i := 12) rfl))) (Or.inr (hw _ (List.mem_of_getElem? (i := 10) rfl))) (by decide) (t := .int) (t' := .int) (by decide) (by decide)))
  replace F_runs := F_runs.other W2 (Or.inr (slot_ne (Or.inl (hw _ (List.mem_of_getElem? (i := 16) rfl))) (Or.inr (hw _ (List.mem_of_getElem? (i := 10) rfl))) (by decide) (t := (.array (.array .int))) (t' := .int) (by decide) (by decide)))
  replace F_counts := F_counts.other W2 (Or.inr (slot_ne (Or.inl (hw _ (List.mem_of_getElem? (i := 18) rfl))) (Or.inr (hw _ (List.mem_of_getElem? (i := 10) rfl))) (by decide) (t := (.array (.array .int))) (t' := .int) (by decide) (by decide)))
  replace F_runKeys := F_runKeys.other W2 (Or.inr (slot_ne (Or.inl (hw _ (List.mem_of_getElem? (i := 21) rfl))) (Or.inr (hw _ (List.mem_of_getElem? (i := 10) rfl))) (by decide) (t := (.array .int)) (t' := .int) (by decide) (by decide)))
  replace F_runStarts := F_runStarts.other W2 (Or.inr (slot_ne (Or.inl (hw _ (List.mem_of_getElem? (i := 23) rfl))) (Or.inr (hw _ (List.mem_of_getElem? (i := 10) rfl))) (by decide) (t := (.array .int)) (t' := .int) (by decide) (by decide)))
  replace F_runCount := F_runCount.other W2 (Or.inr (slot_ne (Or.inl (hw _ (List.mem_of_getElem? (i := 29) rfl))) (Or.inr (hw _ (List.mem_of_getElem? (i := 10) rfl))) (by decide) (t := .int) (t' := .int) (by decide) (by decide)))
  replace F_entries := F_entries.other W2 (Or.inr (slot_ne (Or.inl (hw _ (List.mem_of_getElem? (i := 58) rfl))) (Or.inr (hw _ (List.mem_of_getElem? (i := 10) rfl))) (by decide) (t := .int) (t' := .int) (by decide) (by decide)))
  refine o_aloadN G2 d1_9 (pc' := 10) rfl rfl rfl ?_
  refine o_iconst G2 d1_10 (pc' := 11) rfl (v := (3 : Int32)) rfl ?_
  refine o_iloadN G2 d1_11 (pc' := 12) rfl rfl ?_
  refine o_iadd G2 d1_12 (pc' := 13) rfl (v := (4 : Int32)) (by decide) ?_
  refine o_putF G2 (host := "") (Or.inl (hw _ (List.mem_of_getElem? (i := 11) rfl))) Via.refl F_stride E_r0 (Or.inr ⟨(hw _ (List.mem_of_getElem? (i := 12) rfl)), rfl, rfl⟩) (hw _ (List.mem_of_getElem? (i := 1) rfl)) (ty := .int) (by decide) rfl rfl g_r0 d1_13 (pc' := 16) rfl ?_
  intro T3 h3 G3 W3
  replace K := K.wr W3 (Or.inl (List.mem_of_getElem? (i := 0) rfl))
  replace E_r0 := E_r0.wr W3
  replace F_columns := F_columns.other W3 (Or.inr (slot_ne (Or.inr (hw _ (List.mem_of_getElem? (i := 10) rfl))) (Or.inr (hw _ (List.mem_of_getElem? (i := 12) rfl))) (by decide) (t := .int) (t' := .int) (by decide) (by decide)))
  replace F_stride := F_stride.same W3
  replace F_runs := F_runs.other W3 (Or.inr (slot_ne (Or.inl (hw _ (List.mem_of_getElem? (i := 16) rfl))) (Or.inr (hw _ (List.mem_of_getElem? (i := 12) rfl))) (by decide) (t := (.array (.array .int))) (t' := .int) (by decide) (by decide)))
  replace F_counts := F_counts.other W3 (Or.inr (slot_ne (Or.inl (hw _ (List.mem_of_getElem? (i := 18) rfl))) (Or.inr (hw _ (List.mem_of_getElem? (i := 12) rfl))) (by decide) (t := (.array (.array .int))) (t' := .int) (by decide) (by decide)))
  replace F_runKeys := F_runKeys.other W3 (Or.inr (slot_ne (Or.inl (hw _ (List.mem_of_getElem? (i := 21) rfl))) (Or.inr (hw _ (List.mem_of_getElem? (i := 12) rfl))) (by decide) (t := (.array .int)) (t' := .int) (by decide) (by decide)))
  replace F_runStarts := F_runStarts.other W3 (Or.inr (slot_ne (Or.inl (hw _ (List.mem_of_getElem? (i := 23) rfl))) (Or.inr (hw _ (List.mem_of_getElem? (i := 12) rfl))) (by decide) (t := (.array .int)) (t' := .int) (by decide) (by decide)))
  replace F_runCount := F_runCount.other W3 (Or.inr (slot_ne (Or.inl (hw _ (List.mem_of_getElem? (i := 29) rfl))) (Or.inr (hw _ (List.mem_of_getElem? (i := 12) rfl))) (by decide) (t := .int) (t' := .int) (by decide) (by decide)))
  replace F_entries := F_entries.other W3 (Or.inr (slot_ne (Or.inl (hw _ (List.mem_of_getElem? (i := 58) rfl))) (Or.inr (hw _ (List.mem_of_getElem? (i := 12) rfl))) (by decide) (t := .int) (t' := .int) (by decide) (by decide)))
  refine o_aloadN G3 d1_16 (pc' := 17) rfl rfl rfl ?_
  refine o_iconst G3 d1_17 (pc' := 18) rfl (v := (4 : Int32)) rfl ?_
  refine o_anewarrayA G3 (N := 4) (cap := 4) (ad := "[[I") (C := "[I") rfl rfl (hw _ (List.mem_of_getElem? (i := 13) rfl)) (hw _ (List.mem_of_getElem? (i := 14) rfl)) rfl (by decide) (by decide) d1_18 (pc' := 21) rfl (by decide) (by decide) ?_
  intro T4 h4 b4 G4 g4 g_b4 E4 A_b4 M_b4
  have ne_r0_b4 : r0 ≠ b4 := Nat.ne_of_lt (Nat.lt_of_lt_of_eq E_r0.lt g4.symm)
  have hl_b4 : r0 < b4 := Nat.lt_of_lt_of_eq E_r0.lt g4.symm
  have sz_b4 : h0.size ≤ b4 := Nat.le_trans K.1 (Nat.le_of_eq g4.symm)
  replace K := K.ext E4
  replace E_r0 := E_r0.ext E4
  replace F_columns := F_columns.ext E4
  replace F_stride := F_stride.ext E4
  replace F_runs := F_runs.ext E4
  replace F_counts := F_counts.ext E4
  replace F_runKeys := F_runKeys.ext E4
  replace F_runStarts := F_runStarts.ext E4
  replace F_runCount := F_runCount.ext E4
  replace F_entries := F_entries.ext E4
  refine o_putF G4 (host := "") (Or.inl (hw _ (List.mem_of_getElem? (i := 15) rfl))) Via.refl F_runs E_r0 (Or.inl (hw _ (List.mem_of_getElem? (i := 16) rfl))) (hw _ (List.mem_of_getElem? (i := 1) rfl)) (ty := (.array (.array .int))) (by decide) rfl rfl g_r0 d1_21 (pc' := 24) rfl ?_
  intro T5 h5 G5 W5
  replace K := K.wr W5 (Or.inl (List.mem_of_getElem? (i := 0) rfl))
  replace E_r0 := E_r0.wr W5
  replace F_columns := F_columns.other W5 (Or.inr (slot_ne (Or.inr (hw _ (List.mem_of_getElem? (i := 10) rfl))) (Or.inl (hw _ (List.mem_of_getElem? (i := 16) rfl))) (by decide) (t := .int) (t' := (.array (.array .int))) (by decide) (by decide)))
  replace F_stride := F_stride.other W5 (Or.inr (slot_ne (Or.inr (hw _ (List.mem_of_getElem? (i := 12) rfl))) (Or.inl (hw _ (List.mem_of_getElem? (i := 16) rfl))) (by decide) (t := .int) (t' := (.array (.array .int))) (by decide) (by decide)))
  replace F_runs := F_runs.same W5
  replace F_counts := F_counts.other W5 (Or.inr (slot_ne (Or.inl (hw _ (List.mem_of_getElem? (i := 18) rfl))) (Or.inl (hw _ (List.mem_of_getElem? (i := 16) rfl))) (by decide) (t := (.array (.array .int))) (t' := (.array (.array .int))) (by decide) (by decide)))
  replace F_runKeys := F_runKeys.other W5 (Or.inr (slot_ne (Or.inl (hw _ (List.mem_of_getElem? (i := 21) rfl))) (Or.inl (hw _ (List.mem_of_getElem? (i := 16) rfl))) (by decide) (t := (.array .int)) (t' := (.array (.array .int))) (by decide) (by decide)))
  replace F_runStarts := F_runStarts.other W5 (Or.inr (slot_ne (Or.inl (hw _ (List.mem_of_getElem? (i := 23) rfl))) (Or.inl (hw _ (List.mem_of_getElem? (i := 16) rfl))) (by decide) (t := (.array .int)) (t' := (.array (.array .int))) (by decide) (by decide)))
  replace F_runCount := F_runCount.other W5 (Or.inr (slot_ne (Or.inl (hw _ (List.mem_of_getElem? (i := 29) rfl))) (Or.inl (hw _ (List.mem_of_getElem? (i := 16) rfl))) (by decide) (t := .int) (t' := (.array (.array .int))) (by decide) (by decide)))
  replace F_entries := F_entries.other W5 (Or.inr (slot_ne (Or.inl (hw _ (List.mem_of_getElem? (i := 58) rfl))) (Or.inl (hw _ (List.mem_of_getElem? (i := 16) rfl))) (by decide) (t := .int) (t' := (.array (.array .int))) (by decide) (by decide)))
  replace A_b4 := A_b4.other W5 (Ne.symm ne_r0_b4)
  replace M_b4 := M_b4.wr W5
  refine o_aloadN G5 d1_24 (pc' := 25) rfl rfl rfl ?_
  refine o_iconst G5 d1_25 (pc' := 26) rfl (v := (4 : Int32)) rfl ?_
  refine o_anewarrayA G5 (N := 4) (cap := 4) (ad := "[[I") (C := "[I") rfl rfl (hw _ (List.mem_of_getElem? (i := 13) rfl)) (hw _ (List.mem_of_getElem? (i := 14) rfl)) rfl (by decide) (by decide) d1_26 (pc' := 29) rfl (by decide) (by decide) ?_
  intro T6 h6 b6 G6 g6 g_b6 E6 A_b6 M_b6
  have ne_r0_b6 : r0 ≠ b6 := Nat.ne_of_lt (Nat.lt_of_lt_of_eq E_r0.lt g6.symm)
  have ne_b4_b6 : b4 ≠ b6 := Nat.ne_of_lt (Nat.lt_of_lt_of_eq A_b4.lt g6.symm)
  have hl_b6 : b4 < b6 := Nat.lt_of_lt_of_eq A_b4.lt g6.symm
  have sz_b6 : h0.size ≤ b6 := Nat.le_trans K.1 (Nat.le_of_eq g6.symm)
  replace K := K.ext E6
  replace E_r0 := E_r0.ext E6
  replace F_columns := F_columns.ext E6
  replace F_stride := F_stride.ext E6
  replace F_runs := F_runs.ext E6
  replace F_counts := F_counts.ext E6
  replace F_runKeys := F_runKeys.ext E6
  replace F_runStarts := F_runStarts.ext E6
  replace F_runCount := F_runCount.ext E6
  replace F_entries := F_entries.ext E6
  replace A_b4 := A_b4.ext E6
  replace M_b4 := M_b4.ext E6
  refine o_putF G6 (host := "") (Or.inl (hw _ (List.mem_of_getElem? (i := 17) rfl))) Via.refl F_counts E_r0 (Or.inl (hw _ (List.mem_of_getElem? (i := 18) rfl))) (hw _ (List.mem_of_getElem? (i := 1) rfl)) (ty := (.array (.array .int))) (by decide) rfl rfl g_r0 d1_29 (pc' := 32) rfl ?_
  intro T7 h7 G7 W7
  replace K := K.wr W7 (Or.inl (List.mem_of_getElem? (i := 0) rfl))
  replace E_r0 := E_r0.wr W7
  replace F_columns := F_columns.other W7 (Or.inr (slot_ne (Or.inr (hw _ (List.mem_of_getElem? (i := 10) rfl))) (Or.inl (hw _ (List.mem_of_getElem? (i := 18) rfl))) (by decide) (t := .int) (t' := (.array (.array .int))) (by decide) (by decide)))
  replace F_stride := F_stride.other W7 (Or.inr (slot_ne (Or.inr (hw _ (List.mem_of_getElem? (i := 12) rfl))) (Or.inl (hw _ (List.mem_of_getElem? (i := 18) rfl))) (by decide) (t := .int) (t' := (.array (.array .int))) (by decide) (by decide)))
  replace F_runs := F_runs.other W7 (Or.inr (slot_ne (Or.inl (hw _ (List.mem_of_getElem? (i := 16) rfl))) (Or.inl (hw _ (List.mem_of_getElem? (i := 18) rfl))) (by decide) (t := (.array (.array .int))) (t' := (.array (.array .int))) (by decide) (by decide)))
  replace F_counts := F_counts.same W7
  replace F_runKeys := F_runKeys.other W7 (Or.inr (slot_ne (Or.inl (hw _ (List.mem_of_getElem? (i := 21) rfl))) (Or.inl (hw _ (List.mem_of_getElem? (i := 18) rfl))) (by decide) (t := (.array .int)) (t' := (.array (.array .int))) (by decide) (by decide)))
  replace F_runStarts := F_runStarts.other W7 (Or.inr (slot_ne (Or.inl (hw _ (List.mem_of_getElem? (i := 23) rfl))) (Or.inl (hw _ (List.mem_of_getElem? (i := 18) rfl))) (by decide) (t := (.array .int)) (t' := (.array (.array .int))) (by decide) (by decide)))
  replace F_runCount := F_runCount.other W7 (Or.inr (slot_ne (Or.inl (hw _ (List.mem_of_getElem? (i := 29) rfl))) (Or.inl (hw _ (List.mem_of_getElem? (i := 18) rfl))) (by decide) (t := .int) (t' := (.array (.array .int))) (by decide) (by decide)))
  replace F_entries := F_entries.other W7 (Or.inr (slot_ne (Or.inl (hw _ (List.mem_of_getElem? (i := 58) rfl))) (Or.inl (hw _ (List.mem_of_getElem? (i := 18) rfl))) (by decide) (t := .int) (t' := (.array (.array .int))) (by decide) (by decide)))
  replace A_b4 := A_b4.other W7 (Ne.symm ne_r0_b4)
  replace M_b4 := M_b4.wr W7
  replace A_b6 := A_b6.other W7 (Ne.symm ne_r0_b6)
  replace M_b6 := M_b6.wr W7
  refine o_aloadN G7 d1_32 (pc' := 33) rfl rfl rfl ?_
  refine o_iconst G7 d1_33 (pc' := 34) rfl (v := (4 : Int32)) rfl ?_
  refine o_newarrayE G7 (N := 4) (cap := 4) (ad := "[I") rfl (hw _ (List.mem_of_getElem? (i := 19) rfl)) rfl (by decide) (by decide) d1_34 (pc' := 36) rfl (by decide) (by decide) ?_
  intro T8 h8 b8 G8 g8 g_b8 E8 A_b8 X_b8
  have ne_r0_b8 : r0 ≠ b8 := Nat.ne_of_lt (Nat.lt_of_lt_of_eq E_r0.lt g8.symm)
  have ne_b4_b8 : b4 ≠ b8 := Nat.ne_of_lt (Nat.lt_of_lt_of_eq A_b4.lt g8.symm)
  have ne_b6_b8 : b6 ≠ b8 := Nat.ne_of_lt (Nat.lt_of_lt_of_eq A_b6.lt g8.symm)
  have hl_b8 : b6 < b8 := Nat.lt_of_lt_of_eq A_b6.lt g8.symm
  have sz_b8 : h0.size ≤ b8 := Nat.le_trans K.1 (Nat.le_of_eq g8.symm)
  replace K := K.ext E8
  replace E_r0 := E_r0.ext E8
  replace F_columns := F_columns.ext E8
  replace F_stride := F_stride.ext E8
  replace F_runs := F_runs.ext E8
  replace F_counts := F_counts.ext E8
  replace F_runKeys := F_runKeys.ext E8
  replace F_runStarts := F_runStarts.ext E8
  replace F_runCount := F_runCount.ext E8
  replace F_entries := F_entries.ext E8
  replace A_b4 := A_b4.ext E8
  replace M_b4 := M_b4.ext E8
  replace A_b6 := A_b6.ext E8
  replace M_b6 := M_b6.ext E8
  replace A_b8 : OArr Z h8 b8 .int 4 (fun _ => (.int (0 : Int32))) := A_b8
  refine o_putF G8 (host := "") (Or.inl (hw _ (List.mem_of_getElem? (i := 20) rfl))) Via.refl F_runKeys E_r0 (Or.inl (hw _ (List.mem_of_getElem? (i := 21) rfl))) (hw _ (List.mem_of_getElem? (i := 1) rfl)) (ty := (.array .int)) (by decide) rfl rfl g_r0 d1_36 (pc' := 39) rfl ?_
  intro T9 h9 G9 W9
  replace K := K.wr W9 (Or.inl (List.mem_of_getElem? (i := 0) rfl))
  replace E_r0 := E_r0.wr W9
  replace F_columns := F_columns.other W9 (Or.inr (slot_ne (Or.inr (hw _ (List.mem_of_getElem? (i := 10) rfl))) (Or.inl (hw _ (List.mem_of_getElem? (i := 21) rfl))) (by decide) (t := .int) (t' := (.array .int)) (by decide) (by decide)))
  replace F_stride := F_stride.other W9 (Or.inr (slot_ne (Or.inr (hw _ (List.mem_of_getElem? (i := 12) rfl))) (Or.inl (hw _ (List.mem_of_getElem? (i := 21) rfl))) (by decide) (t := .int) (t' := (.array .int)) (by decide) (by decide)))
  replace F_runs := F_runs.other W9 (Or.inr (slot_ne (Or.inl (hw _ (List.mem_of_getElem? (i := 16) rfl))) (Or.inl (hw _ (List.mem_of_getElem? (i := 21) rfl))) (by decide) (t := (.array (.array .int))) (t' := (.array .int)) (by decide) (by decide)))
  replace F_counts := F_counts.other W9 (Or.inr (slot_ne (Or.inl (hw _ (List.mem_of_getElem? (i := 18) rfl))) (Or.inl (hw _ (List.mem_of_getElem? (i := 21) rfl))) (by decide) (t := (.array (.array .int))) (t' := (.array .int)) (by decide) (by decide)))
  replace F_runKeys := F_runKeys.same W9
  replace F_runStarts := F_runStarts.other W9 (Or.inr (slot_ne (Or.inl (hw _ (List.mem_of_getElem? (i := 23) rfl))) (Or.inl (hw _ (List.mem_of_getElem? (i := 21) rfl))) (by decide) (t := (.array .int)) (t' := (.array .int)) (by decide) (by decide)))
  replace F_runCount := F_runCount.other W9 (Or.inr (slot_ne (Or.inl (hw _ (List.mem_of_getElem? (i := 29) rfl))) (Or.inl (hw _ (List.mem_of_getElem? (i := 21) rfl))) (by decide) (t := .int) (t' := (.array .int)) (by decide) (by decide)))
  replace F_entries := F_entries.other W9 (Or.inr (slot_ne (Or.inl (hw _ (List.mem_of_getElem? (i := 58) rfl))) (Or.inl (hw _ (List.mem_of_getElem? (i := 21) rfl))) (by decide) (t := .int) (t' := (.array .int)) (by decide) (by decide)))
  replace A_b4 := A_b4.other W9 (Ne.symm ne_r0_b4)
  replace M_b4 := M_b4.wr W9
  replace A_b6 := A_b6.other W9 (Ne.symm ne_r0_b6)
  replace M_b6 := M_b6.wr W9
  replace A_b8 := A_b8.other W9 (Ne.symm ne_r0_b8)
  replace X_b8 := X_b8.wr W9
  refine o_aloadN G9 d1_39 (pc' := 40) rfl rfl rfl ?_
  refine o_iconst G9 d1_40 (pc' := 41) rfl (v := (4 : Int32)) rfl ?_
  refine o_newarrayE G9 (N := 4) (cap := 4) (ad := "[I") rfl (hw _ (List.mem_of_getElem? (i := 19) rfl)) rfl (by decide) (by decide) d1_41 (pc' := 43) rfl (by decide) (by decide) ?_
  intro T10 h10 b10 G10 g10 g_b10 E10 A_b10 X_b10
  have ne_r0_b10 : r0 ≠ b10 := Nat.ne_of_lt (Nat.lt_of_lt_of_eq E_r0.lt g10.symm)
  have ne_b4_b10 : b4 ≠ b10 := Nat.ne_of_lt (Nat.lt_of_lt_of_eq A_b4.lt g10.symm)
  have ne_b6_b10 : b6 ≠ b10 := Nat.ne_of_lt (Nat.lt_of_lt_of_eq A_b6.lt g10.symm)
  have ne_b8_b10 : b8 ≠ b10 := Nat.ne_of_lt (Nat.lt_of_lt_of_eq A_b8.lt g10.symm)
  have hl_b10 : b8 < b10 := Nat.lt_of_lt_of_eq A_b8.lt g10.symm
  have sz_b10 : h0.size ≤ b10 := Nat.le_trans K.1 (Nat.le_of_eq g10.symm)
  replace K := K.ext E10
  replace E_r0 := E_r0.ext E10
  replace F_columns := F_columns.ext E10
  replace F_stride := F_stride.ext E10
  replace F_runs := F_runs.ext E10
  replace F_counts := F_counts.ext E10
  replace F_runKeys := F_runKeys.ext E10
  replace F_runStarts := F_runStarts.ext E10
  replace F_runCount := F_runCount.ext E10
  replace F_entries := F_entries.ext E10
  replace A_b4 := A_b4.ext E10
  replace M_b4 := M_b4.ext E10
  replace A_b6 := A_b6.ext E10
  replace M_b6 := M_b6.ext E10
  replace A_b8 := A_b8.ext E10
  replace X_b8 := X_b8.ext E10
  replace A_b10 : OArr Z h10 b10 .int 4 (fun _ => (.int (0 : Int32))) := A_b10
  refine o_putF G10 (host := "") (Or.inl (hw _ (List.mem_of_getElem? (i := 22) rfl))) Via.refl F_runStarts E_r0 (Or.inl (hw _ (List.mem_of_getElem? (i := 23) rfl))) (hw _ (List.mem_of_getElem? (i := 1) rfl)) (ty := (.array .int)) (by decide) rfl rfl g_r0 d1_43 (pc' := 46) rfl ?_
  intro T11 h11 G11 W11
  replace K := K.wr W11 (Or.inl (List.mem_of_getElem? (i := 0) rfl))
  replace E_r0 := E_r0.wr W11
  replace F_columns := F_columns.other W11 (Or.inr (slot_ne (Or.inr (hw _ (List.mem_of_getElem? (i := 10) rfl))) (Or.inl (hw _ (List.mem_of_getElem? (i := 23) rfl))) (by decide) (t := .int) (t' := (.array .int)) (by decide) (by decide)))
  replace F_stride := F_stride.other W11 (Or.inr (slot_ne (Or.inr (hw _ (List.mem_of_getElem? (i := 12) rfl))) (Or.inl (hw _ (List.mem_of_getElem? (i := 23) rfl))) (by decide) (t := .int) (t' := (.array .int)) (by decide) (by decide)))
  replace F_runs := F_runs.other W11 (Or.inr (slot_ne (Or.inl (hw _ (List.mem_of_getElem? (i := 16) rfl))) (Or.inl (hw _ (List.mem_of_getElem? (i := 23) rfl))) (by decide) (t := (.array (.array .int))) (t' := (.array .int)) (by decide) (by decide)))
  replace F_counts := F_counts.other W11 (Or.inr (slot_ne (Or.inl (hw _ (List.mem_of_getElem? (i := 18) rfl))) (Or.inl (hw _ (List.mem_of_getElem? (i := 23) rfl))) (by decide) (t := (.array (.array .int))) (t' := (.array .int)) (by decide) (by decide)))
  replace F_runKeys := F_runKeys.other W11 (Or.inr (slot_ne (Or.inl (hw _ (List.mem_of_getElem? (i := 21) rfl))) (Or.inl (hw _ (List.mem_of_getElem? (i := 23) rfl))) (by decide) (t := (.array .int)) (t' := (.array .int)) (by decide) (by decide)))
  replace F_runStarts := F_runStarts.same W11
  replace F_runCount := F_runCount.other W11 (Or.inr (slot_ne (Or.inl (hw _ (List.mem_of_getElem? (i := 29) rfl))) (Or.inl (hw _ (List.mem_of_getElem? (i := 23) rfl))) (by decide) (t := .int) (t' := (.array .int)) (by decide) (by decide)))
  replace F_entries := F_entries.other W11 (Or.inr (slot_ne (Or.inl (hw _ (List.mem_of_getElem? (i := 58) rfl))) (Or.inl (hw _ (List.mem_of_getElem? (i := 23) rfl))) (by decide) (t := .int) (t' := (.array .int)) (by decide) (by decide)))
  replace A_b4 := A_b4.other W11 (Ne.symm ne_r0_b4)
  replace M_b4 := M_b4.wr W11
  replace A_b6 := A_b6.other W11 (Ne.symm ne_r0_b6)
  replace M_b6 := M_b6.wr W11
  replace A_b8 := A_b8.other W11 (Ne.symm ne_r0_b8)
  replace X_b8 := X_b8.wr W11
  replace A_b10 := A_b10.other W11 (Ne.symm ne_r0_b10)
  replace X_b10 := X_b10.wr W11
  refine o_aloadN G11 d1_46 (pc' := 47) rfl rfl rfl ?_
  refine o_iconst G11 d1_47 (pc' := 48) rfl (v := (0 : Int32)) rfl ?_
  refine o_iconst G11 d1_48 (pc' := 49) rfl (v := (0 : Int32)) rfl ?_
  refine o_callPr G11 (z := (⟨"com/example/keyfold/keyfold/KeyRuns", "insertRun", "(II)V"⟩ : MethodName)) (argsL := [(.int (0 : Int32)), (.int (0 : Int32))]) (rest := []) (W := 0) E_r0 (hw _ (List.mem_of_getElem? (i := 24) rfl)) (hw _ (List.mem_of_getElem? (i := 25) rfl)) (hw _ (List.mem_of_getElem? (i := 26) rfl)) (hw _ (List.mem_of_getElem? (i := 1) rfl)) d1_49 (by decide) (hw _ (List.mem_of_getElem? (i := 2) rfl)) (hw _ (List.mem_of_getElem? (i := 27) rfl)) (rm3 hw r0 h11 n0 G11.sz b4 b6 b8 b10 ⟨g_r0, hl_b4, hl_b6, hl_b8, hl_b10⟩ E_r0 F_runs F_counts F_runKeys F_runStarts A_b4 A_b6 A_b8 A_b10 M_b4 M_b6 F_runCount F_stride F_columns F_entries) (by decide) (by decide) rfl (lenOf pd_1 rfl) rfl (Nat.le_of_eq rfl) (pc' := 52) rfl (by decide) (by decide) ?_
  rintro _ T12 h12 G12 ⟨rfl, K12, ra, ca, l1, l2, Fq1, Fq2, Fq3, Fq4, Fq5, Fq6, Fcol, Fent, B1, B2, B3, B4, B5, B6⟩
  replace K := K.trans K12 (allS (Or.inl (List.mem_of_getElem? (i := 0) rfl)) (allS (Or.inr sz_b4) (allS (Or.inr sz_b6) (allS (Or.inr sz_b8) (allS (Or.inr sz_b10) all0)))))
  replace E_r0 := E_r0.keep K12
  replace M_b4 := M_b4.keep K12
  replace M_b6 := M_b6.keep K12
  replace X_b8 := X_b8.keep K12
  replace X_b10 := X_b10.keep K12
  show OFin n0 p e below s (fun v h => v = none ∧ Keep h0 h [r0] ∧ ∃ r cc ks st ra ca : Addr, own_KR Z h n0 r0 r cc ks st ra ca 0 0 0 0 0) 6 336 T12 (mkF m 52 #[.val (.ref r0), .val (.int (1 : Int32))] [])
  exact o_return G12 d1_52 ⟨rfl, K, b4, b6, b8, b10, ra, ca, ⟨g_r0, hl_b4, hl_b6, hl_b8, hl_b10, l1, l2⟩, E_r0, Fcol, Fq6, Fq1, Fq2, Fq3, Fq4, Fq5, Fent, B1, B2, B3, ⟨_, B4⟩, ⟨_, B5⟩, B6⟩ (by decide) (by decide)
theorem d8_0 : decode prog_81_method_22_code 0 = .ok (.iload_n 1, 1) := by decide +kernel
theorem d8_1 : decode prog_81_method_22_code 1 = .ok (.bipush 63, 2) := by decide +kernel
theorem d8_3 : decode prog_81_method_22_code 3 = .ok (.iand, 1) := by decide +kernel
theorem d8_4 : decode prog_81_method_22_code 4 = .ok (.aload_n 0, 1) := by decide +kernel
theorem d8_5 : decode prog_81_method_22_code 5 = .ok (.getfield 13, 3) := by decide +kernel
theorem d8_8 : decode prog_81_method_22_code 8 = .ok (.imul, 1) := by decide +kernel
theorem d8_9 : decode prog_81_method_22_code 9 = .ok (.ireturn, 1) := by decide +kernel
theorem pn_8 : plainName "com/example/keyfold/keyfold/KeyRuns" = true := by first | (simp [plainName, overriddenIn]; done) | decide +kernel
theorem ef_8 (m : MethodId) (r0 : Addr) (p1 : Int32) : entryFrame m #[(.ref r0), (.int p1)] 2 = mkF m 0 #[.val (.ref r0), .val (.int p1)] [] := by first | (simp [entryFrame, mkF, argsToLocals, Value.category]; done) | rfl
def f_8 (x : Int32) (p1 : Int32) : Int32 := ((p1 &&& (63 : Int32)) * x)
set_option maxRecDepth 65536 in
set_option maxHeartbeats 40000000 in
theorem rm8 {l : Launch} {Z : State} {a0 : Array Value} (hw : ∀ d ∈ tables_1, d.before a0 Z = true) (r0 : Addr) (p1 : Int32) (h0 : Heap) (n0 : Nat) (hz : n0 ≤ h0.size) (x : Int32) (F_s : Fld Z h0 r0 "com/example/keyfold/keyfold/KeyRuns" "stride" "I" (.int x)) :
    OMet l Z (⟨"com/example/keyfold/keyfold/KeyRuns", "at", "(I)I"⟩ : MethodName) prog_81_method_22_code 2 (some .int) ({ frames := 0, cells := 0, slots := 0, locals := 0 } : Room) #[(.ref r0), (.int p1)] h0 n0 ({ frames := 0, cells := 0, slots := 0, locals := 0 } : Room).cells ({ frames := 0, cells := 0, slots := 0, locals := 0 } : Room).slots (OVal h0 (.int (f_8 x p1))) := by
  refine o_body (plainFor_of_name pn_8) hz (fun m => ef_8 m r0 p1) ?_
  intro p e s m below meth c s₁ G0
  refine o_iloadN G0 d8_0 (pc' := 1) rfl rfl ?_
  refine o_bipush G0 d8_1 (pc' := 3) rfl (v := (63 : Int32)) rfl ?_
  obtain ⟨v1, e1⟩ : ∃ z, p1 &&& (63 : Int32) = z := ⟨_, rfl⟩
  refine o_iand G0 d8_3 (pc' := 4) rfl e1 ?_
  refine o_aloadN G0 d8_4 (pc' := 5) rfl rfl rfl ?_
  refine o_getF G0 (host := "") (Or.inl (hw _ (List.mem_of_getElem? (i := 11) rfl))) Via.refl F_s d8_5 (pc' := 8) rfl ?_
  intro T2 G2
  obtain ⟨v3, e3⟩ : ∃ z, v1 * x = z := ⟨_, rfl⟩
  refine o_imul G2 d8_8 (pc' := 9) rfl e3 ?_
  have hq : v3 = f_8 x p1 := by
    subst e1 e3
    rw [f_8]
  exact o_ireturn G2 d8_9 ⟨congrArg (fun z => some (Value.int z)) hq, rfl⟩ (by decide) (by decide)
theorem d7_0 : decode prog_81_method_13_code 0 = .ok (.aload_n 0, 1) := by decide +kernel
theorem d7_1 : decode prog_81_method_13_code 1 = .ok (.getfield 18, 3) := by decide +kernel
theorem d7_4 : decode prog_81_method_13_code 4 = .ok (.iload_n 1, 1) := by decide +kernel
theorem d7_5 : decode prog_81_method_13_code 5 = .ok (.bipush 6, 2) := by decide +kernel
theorem d7_7 : decode prog_81_method_13_code 7 = .ok (.iushr, 1) := by decide +kernel
theorem d7_8 : decode prog_81_method_13_code 8 = .ok (.aaload, 1) := by decide +kernel
theorem d7_9 : decode prog_81_method_13_code 9 = .ok (.astore 4, 2) := by decide +kernel
theorem d7_11 : decode prog_81_method_13_code 11 = .ok (.aload_n 0, 1) := by decide +kernel
theorem d7_12 : decode prog_81_method_13_code 12 = .ok (.iload_n 1, 1) := by decide +kernel
theorem d7_13 : decode prog_81_method_13_code 13 = .ok (.invokevirtual 45, 3) := by decide +kernel
theorem d7_16 : decode prog_81_method_13_code 16 = .ok (.iconst 0, 1) := by decide +kernel
theorem d7_17 : decode prog_81_method_13_code 17 = .ok (.iadd, 1) := by decide +kernel
theorem d7_18 : decode prog_81_method_13_code 18 = .ok (.istore 5, 2) := by decide +kernel
theorem d7_20 : decode prog_81_method_13_code 20 = .ok (.aload 4, 2) := by decide +kernel
theorem d7_22 : decode prog_81_method_13_code 22 = .ok (.iload 5, 2) := by decide +kernel
theorem d7_24 : decode prog_81_method_13_code 24 = .ok (.lload_n 2, 1) := by decide +kernel
theorem d7_25 : decode prog_81_method_13_code 25 = .ok (.bipush 32, 2) := by decide +kernel
theorem d7_27 : decode prog_81_method_13_code 27 = .ok (.lushr, 1) := by decide +kernel
theorem d7_28 : decode prog_81_method_13_code 28 = .ok (.l2i, 1) := by decide +kernel
theorem d7_29 : decode prog_81_method_13_code 29 = .ok (.iastore, 1) := by decide +kernel
theorem d7_30 : decode prog_81_method_13_code 30 = .ok (.aload 4, 2) := by decide +kernel
theorem d7_32 : decode prog_81_method_13_code 32 = .ok (.iload 5, 2) := by decide +kernel
theorem d7_34 : decode prog_81_method_13_code 34 = .ok (.iconst 1, 1) := by decide +kernel
theorem d7_35 : decode prog_81_method_13_code 35 = .ok (.iadd, 1) := by decide +kernel
theorem d7_36 : decode prog_81_method_13_code 36 = .ok (.lload_n 2, 1) := by decide +kernel
theorem d7_37 : decode prog_81_method_13_code 37 = .ok (.l2i, 1) := by decide +kernel
theorem d7_38 : decode prog_81_method_13_code 38 = .ok (.iastore, 1) := by decide +kernel
theorem d7_39 : decode prog_81_method_13_code 39 = .ok (.return_, 1) := by decide +kernel
theorem pn_7 : plainName "com/example/keyfold/keyfold/KeyRuns" = true := by first | (simp [plainName, overriddenIn]; done) | decide +kernel
theorem ef_7 (m : MethodId) (r0 : Addr) (p1 : Int32) (q2 : Int64) : entryFrame m #[(.ref r0), (.int p1), (.long q2)] 6 = mkF m 0 #[.val (.ref r0), .val (.int p1), .val (.long q2), .second, .unset, .unset] [] := by first | (simp [entryFrame, mkF, argsToLocals, Value.category]; done) | rfl
set_option maxRecDepth 65536 in
set_option maxHeartbeats 40000000 in
theorem rm7_0 {l : Launch} {Z : State} {a0 : Array Value} (hw : ∀ d ∈ tables_1, d.before a0 Z = true) (r0 : Addr) (q2 : Int64) (h0 : Heap) (n0 : Nat) (hz : n0 ≤ h0.size) (r ra : Addr) (hg : n0 ≤ ra) (hn0 : r0 ≠ ra) (hn1 : r ≠ ra) (E_r0 : Exa Z h0 r0 "com/example/keyfold/keyfold/KeyRuns") (F_runs : Fld Z h0 r0 "com/example/keyfold/keyfold/KeyRuns" "runs" "[[I" (.ref r)) (F_stride : Fld Z h0 r0 "com/example/keyfold/keyfold/KeyRuns" "stride" "I" (.int 4)) (A_r : OArr Z h0 r (.array .int) 4 (own_a1 ra)) (fra : Nat → Int32) (A_ra : OArr Z h0 ra .int 256 (fun j => .int (fra j))) :
    OMet l Z (⟨"com/example/keyfold/keyfold/KeyRuns", "setFirstRowId", "(IJ)V"⟩ : MethodName) prog_81_method_13_code 6 none ({ frames := 1, cells := 0, slots := 0, locals := 13 } : Room) #[(.ref r0), (.int (0 : Int32)), (.long q2)] h0 n0 ({ frames := 1, cells := 0, slots := 0, locals := 13 } : Room).cells ({ frames := 1, cells := 0, slots := 0, locals := 13 } : Room).slots (fun v h => v = none ∧ Keep h0 h [ra] ∧ ∃ f : Nat → Int32, OArr Z h ra .int 256 (fun j => .int (f j))) := by
  refine o_body (plainFor_of_name pn_7) hz (fun m => ef_7 m r0 (0 : Int32) q2) ?_
  intro p e s m below meth c s₁ G0
  have K : Keep h0 h0 [ra] := Keep.refl _ _
  refine o_aloadN G0 d7_0 (pc' := 1) rfl rfl rfl ?_
  refine o_getF G0 (host := "") (Or.inl (hw _ (List.mem_of_getElem? (i := 15) rfl))) Via.refl F_runs d7_1 (pc' := 4) rfl ?_
  intro T1 G1
  refine o_iloadN G1 d7_4 (pc' := 5) rfl rfl ?_
  refine o_bipush G1 d7_5 (pc' := 7) rfl (v := (6 : Int32)) rfl ?_
  refine o_iushr G1 d7_7 (pc' := 8) rfl (v := (0 : Int32)) (by decide) ?_
  refine o_aaload G1 rfl A_r (i := 0) rfl (by decide) (v := (.ref ra)) rfl d7_8 (pc' := 9) rfl ?_
  refine o_astore G1 d7_9 (pc' := 11) rfl rfl (l' := #[.val (.ref r0), .val (.int (0 : Int32)), .val (.long q2), .second, .val (.ref ra), .unset]) rfl ?_
  refine o_aloadN G1 d7_11 (pc' := 12) rfl rfl rfl ?_
  refine o_iloadN G1 d7_12 (pc' := 13) rfl rfl ?_
  refine o_callPr G1 (z := (⟨"com/example/keyfold/keyfold/KeyRuns", "at", "(I)I"⟩ : MethodName)) (argsL := [(.int (0 : Int32))]) (rest := []) (W := 0) E_r0 (hw _ (List.mem_of_getElem? (i := 53) rfl)) (hw _ (List.mem_of_getElem? (i := 54) rfl)) (hw _ (List.mem_of_getElem? (i := 55) rfl)) (hw _ (List.mem_of_getElem? (i := 1) rfl)) d7_13 (by decide) (hw _ (List.mem_of_getElem? (i := 2) rfl)) (hw _ (List.mem_of_getElem? (i := 56) rfl)) (rm8 hw r0 (0 : Int32) h0 n0 G1.sz (4 : Int32) F_stride) (by decide) (by decide) rfl (lenOf pd_2 rfl) rfl (Nat.le_of_eq rfl) (pc' := 16) rfl (by decide) (by decide) ?_
  rintro _ T2 h2 G2 ⟨rfl, hh⟩
  subst hh
  show OFin n0 p e below s (fun v h => v = none ∧ Keep h0 h [ra] ∧ ∃ f : Nat → Int32, OArr Z h ra .int 256 (fun j => .int (f j))) 0 0 T2 (mkF m 16 #[.val (.ref r0), .val (.int (0 : Int32)), .val (.long q2), .second, .val (.ref ra), .unset] [(.int (0 : Int32))])
  refine o_iconst G2 d7_16 (pc' := 17) rfl (v := (0 : Int32)) rfl ?_
  refine o_iadd G2 d7_17 (pc' := 18) rfl (v := (0 : Int32)) (by decide) ?_
  refine o_istore G2 d7_18 (pc' := 20) rfl (l' := #[.val (.ref r0), .val (.int (0 : Int32)), .val (.long q2), .second, .val (.ref ra), .val (.int (0 : Int32))]) rfl ?_
  refine o_aload G2 d7_20 (pc' := 22) rfl rfl rfl ?_
  refine o_iload G2 d7_22 (pc' := 24) rfl rfl ?_
  refine o_lloadN G2 d7_24 (pc' := 25) rfl rfl ?_
  refine o_bipush G2 d7_25 (pc' := 27) rfl (v := (32 : Int32)) rfl ?_
  obtain ⟨v3, e3⟩ : ∃ z, (q2.toUInt64 >>> ((32 : Int32) &&& 0x3f).toInt64.toUInt64).toInt64 = z := ⟨_, rfl⟩
  refine o_lushr G2 d7_27 (pc' := 28) rfl e3 ?_
  obtain ⟨v4, e4⟩ : ∃ z, v3.toInt32 = z := ⟨_, rfl⟩
  refine o_l2i G2 d7_28 (pc' := 29) rfl e4 ?_
  refine o_iastore G2 A_ra hg (i := 0) rfl (by decide) d7_29 (pc' := 30) rfl ?_
  intro T5 h5 G5 W5 A5
  replace K := K.wr W5 (Or.inl (List.mem_of_getElem? (i := 0) rfl))
  replace E_r0 := E_r0.wr W5
  replace F_stride := F_stride.other W5 (Or.inl hn0)
  replace F_runs := F_runs.other W5 (Or.inl hn0)
  replace A_r := A_r.other W5 hn1
  replace A_ra := A5
  refine o_aload G5 d7_30 (pc' := 32) rfl rfl rfl ?_
  refine o_iload G5 d7_32 (pc' := 34) rfl rfl ?_
  refine o_iconst G5 d7_34 (pc' := 35) rfl (v := (1 : Int32)) rfl ?_
  refine o_iadd G5 d7_35 (pc' := 36) rfl (v := (1 : Int32)) (by decide) ?_
  refine o_lloadN G5 d7_36 (pc' := 37) rfl rfl ?_
  obtain ⟨v6, e6⟩ : ∃ z, q2.toInt32 = z := ⟨_, rfl⟩
  refine o_l2i G5 d7_37 (pc' := 38) rfl e6 ?_
  refine o_iastore G5 A_ra hg (i := 1) rfl (by decide) d7_38 (pc' := 39) rfl ?_
  intro T7 h7 G7 W7 A7
  replace K := K.wr W7 (Or.inl (List.mem_of_getElem? (i := 0) rfl))
  replace E_r0 := E_r0.wr W7
  replace F_stride := F_stride.other W7 (Or.inl hn0)
  replace F_runs := F_runs.other W7 (Or.inl hn0)
  replace A_r := A_r.other W7 hn1
  replace A_ra := A7
  exact o_return G7 d7_39 ⟨rfl, K, ⟨_, (A_ra.congr (f' := fun j => .int (own_iv (o_set (o_set (fun j => .int (fra j)) 0 (.int v4)) 1 (.int v6)) j)) (by intro j hj; simp only [own_iv, o_set]; (repeat' split) <;> simp_all))⟩⟩ (by decide) (by decide)
set_option maxRecDepth 65536 in
set_option maxHeartbeats 40000000 in
theorem rm7_1 {l : Launch} {Z : State} {a0 : Array Value} (hw : ∀ d ∈ tables_1, d.before a0 Z = true) (r0 : Addr) (q2 : Int64) (h0 : Heap) (n0 : Nat) (hz : n0 ≤ h0.size) (r ra : Addr) (hg : n0 ≤ ra) (hn0 : r0 ≠ ra) (hn1 : r ≠ ra) (E_r0 : Exa Z h0 r0 "com/example/keyfold/keyfold/KeyRuns") (F_runs : Fld Z h0 r0 "com/example/keyfold/keyfold/KeyRuns" "runs" "[[I" (.ref r)) (F_stride : Fld Z h0 r0 "com/example/keyfold/keyfold/KeyRuns" "stride" "I" (.int 4)) (A_r : OArr Z h0 r (.array .int) 4 (own_a1 ra)) (fra : Nat → Int32) (A_ra : OArr Z h0 ra .int 256 (fun j => .int (fra j))) :
    OMet l Z (⟨"com/example/keyfold/keyfold/KeyRuns", "setFirstRowId", "(IJ)V"⟩ : MethodName) prog_81_method_13_code 6 none ({ frames := 1, cells := 0, slots := 0, locals := 13 } : Room) #[(.ref r0), (.int (1 : Int32)), (.long q2)] h0 n0 ({ frames := 1, cells := 0, slots := 0, locals := 13 } : Room).cells ({ frames := 1, cells := 0, slots := 0, locals := 13 } : Room).slots (fun v h => v = none ∧ Keep h0 h [ra] ∧ ∃ f : Nat → Int32, OArr Z h ra .int 256 (fun j => .int (f j))) := by
  refine o_body (plainFor_of_name pn_7) hz (fun m => ef_7 m r0 (1 : Int32) q2) ?_
  intro p e s m below meth c s₁ G0
  have K : Keep h0 h0 [ra] := Keep.refl _ _
  refine o_aloadN G0 d7_0 (pc' := 1) rfl rfl rfl ?_
  refine o_getF G0 (host := "") (Or.inl (hw _ (List.mem_of_getElem? (i := 15) rfl))) Via.refl F_runs d7_1 (pc' := 4) rfl ?_
  intro T1 G1
  refine o_iloadN G1 d7_4 (pc' := 5) rfl rfl ?_
  refine o_bipush G1 d7_5 (pc' := 7) rfl (v := (6 : Int32)) rfl ?_
  refine o_iushr G1 d7_7 (pc' := 8) rfl (v := (0 : Int32)) (by decide) ?_
  refine o_aaload G1 rfl A_r (i := 0) rfl (by decide) (v := (.ref ra)) rfl d7_8 (pc' := 9) rfl ?_
  refine o_astore G1 d7_9 (pc' := 11) rfl rfl (l' := #[.val (.ref r0), .val (.int (1 : Int32)), .val (.long q2), .second, .val (.ref ra), .unset]) rfl ?_
  refine o_aloadN G1 d7_11 (pc' := 12) rfl rfl rfl ?_
  refine o_iloadN G1 d7_12 (pc' := 13) rfl rfl ?_
  refine o_callPr G1 (z := (⟨"com/example/keyfold/keyfold/KeyRuns", "at", "(I)I"⟩ : MethodName)) (argsL := [(.int (1 : Int32))]) (rest := []) (W := 0) E_r0 (hw _ (List.mem_of_getElem? (i := 53) rfl)) (hw _ (List.mem_of_getElem? (i := 54) rfl)) (hw _ (List.mem_of_getElem? (i := 55) rfl)) (hw _ (List.mem_of_getElem? (i := 1) rfl)) d7_13 (by decide) (hw _ (List.mem_of_getElem? (i := 2) rfl)) (hw _ (List.mem_of_getElem? (i := 56) rfl)) (rm8 hw r0 (1 : Int32) h0 n0 G1.sz (4 : Int32) F_stride) (by decide) (by decide) rfl (lenOf pd_2 rfl) rfl (Nat.le_of_eq rfl) (pc' := 16) rfl (by decide) (by decide) ?_
  rintro _ T2 h2 G2 ⟨rfl, hh⟩
  subst hh
  show OFin n0 p e below s (fun v h => v = none ∧ Keep h0 h [ra] ∧ ∃ f : Nat → Int32, OArr Z h ra .int 256 (fun j => .int (f j))) 0 0 T2 (mkF m 16 #[.val (.ref r0), .val (.int (1 : Int32)), .val (.long q2), .second, .val (.ref ra), .unset] [(.int (4 : Int32))])
  refine o_iconst G2 d7_16 (pc' := 17) rfl (v := (0 : Int32)) rfl ?_
  refine o_iadd G2 d7_17 (pc' := 18) rfl (v := (4 : Int32)) (by decide) ?_
  refine o_istore G2 d7_18 (pc' := 20) rfl (l' := #[.val (.ref r0), .val (.int (1 : Int32)), .val (.long q2), .second, .val (.ref ra), .val (.int (4 : Int32))]) rfl ?_
  refine o_aload G2 d7_20 (pc' := 22) rfl rfl rfl ?_
  refine o_iload G2 d7_22 (pc' := 24) rfl rfl ?_
  refine o_lloadN G2 d7_24 (pc' := 25) rfl rfl ?_
  refine o_bipush G2 d7_25 (pc' := 27) rfl (v := (32 : Int32)) rfl ?_
  obtain ⟨v3, e3⟩ : ∃ z, (q2.toUInt64 >>> ((32 : Int32) &&& 0x3f).toInt64.toUInt64).toInt64 = z := ⟨_, rfl⟩
  refine o_lushr G2 d7_27 (pc' := 28) rfl e3 ?_
  obtain ⟨v4, e4⟩ : ∃ z, v3.toInt32 = z := ⟨_, rfl⟩
  refine o_l2i G2 d7_28 (pc' := 29) rfl e4 ?_
  refine o_iastore G2 A_ra hg (i := 4) rfl (by decide) d7_29 (pc' := 30) rfl ?_
  intro T5 h5 G5 W5 A5
  replace K := K.wr W5 (Or.inl (List.mem_of_getElem? (i := 0) rfl))
  replace E_r0 := E_r0.wr W5
  replace F_stride := F_stride.other W5 (Or.inl hn0)
  replace F_runs := F_runs.other W5 (Or.inl hn0)
  replace A_r := A_r.other W5 hn1
  replace A_ra := A5
  refine o_aload G5 d7_30 (pc' := 32) rfl rfl rfl ?_
  refine o_iload G5 d7_32 (pc' := 34) rfl rfl ?_
  refine o_iconst G5 d7_34 (pc' := 35) rfl (v := (1 : Int32)) rfl ?_
  refine o_iadd G5 d7_35 (pc' := 36) rfl (v := (5 : Int32)) (by decide) ?_
  refine o_lloadN G5 d7_36 (pc' := 37) rfl rfl ?_
  obtain ⟨v6, e6⟩ : ∃ z, q2.toInt32 = z := ⟨_, rfl⟩
  refine o_l2i G5 d7_37 (pc' := 38) rfl e6 ?_
  refine o_iastore G5 A_ra hg (i := 5) rfl (by decide) d7_38 (pc' := 39) rfl ?_
  intro T7 h7 G7 W7 A7
  replace K := K.wr W7 (Or.inl (List.mem_of_getElem? (i := 0) rfl))
  replace E_r0 := E_r0.wr W7
  replace F_stride := F_stride.other W7 (Or.inl hn0)
  replace F_runs := F_runs.other W7 (Or.inl hn0)
  replace A_r := A_r.other W7 hn1
  replace A_ra := A7
  exact o_return G7 d7_39 ⟨rfl, K, ⟨_, (A_ra.congr (f' := fun j => .int (own_iv (o_set (o_set (fun j => .int (fra j)) 4 (.int v4)) 5 (.int v6)) j)) (by intro j hj; simp only [own_iv, o_set]; (repeat' split) <;> simp_all))⟩⟩ (by decide) (by decide)
set_option maxRecDepth 65536 in
set_option maxHeartbeats 40000000 in
theorem rm7_2 {l : Launch} {Z : State} {a0 : Array Value} (hw : ∀ d ∈ tables_1, d.before a0 Z = true) (r0 : Addr) (q2 : Int64) (h0 : Heap) (n0 : Nat) (hz : n0 ≤ h0.size) (r ra : Addr) (hg : n0 ≤ ra) (hn0 : r0 ≠ ra) (hn1 : r ≠ ra) (E_r0 : Exa Z h0 r0 "com/example/keyfold/keyfold/KeyRuns") (F_runs : Fld Z h0 r0 "com/example/keyfold/keyfold/KeyRuns" "runs" "[[I" (.ref r)) (F_stride : Fld Z h0 r0 "com/example/keyfold/keyfold/KeyRuns" "stride" "I" (.int 4)) (A_r : OArr Z h0 r (.array .int) 4 (own_a1 ra)) (fra : Nat → Int32) (A_ra : OArr Z h0 ra .int 256 (fun j => .int (fra j))) :
    OMet l Z (⟨"com/example/keyfold/keyfold/KeyRuns", "setFirstRowId", "(IJ)V"⟩ : MethodName) prog_81_method_13_code 6 none ({ frames := 1, cells := 0, slots := 0, locals := 13 } : Room) #[(.ref r0), (.int (2 : Int32)), (.long q2)] h0 n0 ({ frames := 1, cells := 0, slots := 0, locals := 13 } : Room).cells ({ frames := 1, cells := 0, slots := 0, locals := 13 } : Room).slots (fun v h => v = none ∧ Keep h0 h [ra] ∧ ∃ f : Nat → Int32, OArr Z h ra .int 256 (fun j => .int (f j))) := by
  refine o_body (plainFor_of_name pn_7) hz (fun m => ef_7 m r0 (2 : Int32) q2) ?_
  intro p e s m below meth c s₁ G0
  have K : Keep h0 h0 [ra] := Keep.refl _ _
  refine o_aloadN G0 d7_0 (pc' := 1) rfl rfl rfl ?_
  refine o_getF G0 (host := "") (Or.inl (hw _ (List.mem_of_getElem? (i := 15) rfl))) Via.refl F_runs d7_1 (pc' := 4) rfl ?_
  intro T1 G1
  refine o_iloadN G1 d7_4 (pc' := 5) rfl rfl ?_
  refine o_bipush G1 d7_5 (pc' := 7) rfl (v := (6 : Int32)) rfl ?_
  refine o_iushr G1 d7_7 (pc' := 8) rfl (v := (0 : Int32)) (by decide) ?_
  refine o_aaload G1 rfl A_r (i := 0) rfl (by decide) (v := (.ref ra)) rfl d7_8 (pc' := 9) rfl ?_
  refine o_astore G1 d7_9 (pc' := 11) rfl rfl (l' := #[.val (.ref r0), .val (.int (2 : Int32)), .val (.long q2), .second, .val (.ref ra), .unset]) rfl ?_
  refine o_aloadN G1 d7_11 (pc' := 12) rfl rfl rfl ?_
  refine o_iloadN G1 d7_12 (pc' := 13) rfl rfl ?_
  refine o_callPr G1 (z := (⟨"com/example/keyfold/keyfold/KeyRuns", "at", "(I)I"⟩ : MethodName)) (argsL := [(.int (2 : Int32))]) (rest := []) (W := 0) E_r0 (hw _ (List.mem_of_getElem? (i := 53) rfl)) (hw _ (List.mem_of_getElem? (i := 54) rfl)) (hw _ (List.mem_of_getElem? (i := 55) rfl)) (hw _ (List.mem_of_getElem? (i := 1) rfl)) d7_13 (by decide) (hw _ (List.mem_of_getElem? (i := 2) rfl)) (hw _ (List.mem_of_getElem? (i := 56) rfl)) (rm8 hw r0 (2 : Int32) h0 n0 G1.sz (4 : Int32) F_stride) (by decide) (by decide) rfl (lenOf pd_2 rfl) rfl (Nat.le_of_eq rfl) (pc' := 16) rfl (by decide) (by decide) ?_
  rintro _ T2 h2 G2 ⟨rfl, hh⟩
  subst hh
  show OFin n0 p e below s (fun v h => v = none ∧ Keep h0 h [ra] ∧ ∃ f : Nat → Int32, OArr Z h ra .int 256 (fun j => .int (f j))) 0 0 T2 (mkF m 16 #[.val (.ref r0), .val (.int (2 : Int32)), .val (.long q2), .second, .val (.ref ra), .unset] [(.int (8 : Int32))])
  refine o_iconst G2 d7_16 (pc' := 17) rfl (v := (0 : Int32)) rfl ?_
  refine o_iadd G2 d7_17 (pc' := 18) rfl (v := (8 : Int32)) (by decide) ?_
  refine o_istore G2 d7_18 (pc' := 20) rfl (l' := #[.val (.ref r0), .val (.int (2 : Int32)), .val (.long q2), .second, .val (.ref ra), .val (.int (8 : Int32))]) rfl ?_
  refine o_aload G2 d7_20 (pc' := 22) rfl rfl rfl ?_
  refine o_iload G2 d7_22 (pc' := 24) rfl rfl ?_
  refine o_lloadN G2 d7_24 (pc' := 25) rfl rfl ?_
  refine o_bipush G2 d7_25 (pc' := 27) rfl (v := (32 : Int32)) rfl ?_
  obtain ⟨v3, e3⟩ : ∃ z, (q2.toUInt64 >>> ((32 : Int32) &&& 0x3f).toInt64.toUInt64).toInt64 = z := ⟨_, rfl⟩
  refine o_lushr G2 d7_27 (pc' := 28) rfl e3 ?_
  obtain ⟨v4, e4⟩ : ∃ z, v3.toInt32 = z := ⟨_, rfl⟩
  refine o_l2i G2 d7_28 (pc' := 29) rfl e4 ?_
  refine o_iastore G2 A_ra hg (i := 8) rfl (by decide) d7_29 (pc' := 30) rfl ?_
  intro T5 h5 G5 W5 A5
  replace K := K.wr W5 (Or.inl (List.mem_of_getElem? (i := 0) rfl))
  replace E_r0 := E_r0.wr W5
  replace F_stride := F_stride.other W5 (Or.inl hn0)
  replace F_runs := F_runs.other W5 (Or.inl hn0)
  replace A_r := A_r.other W5 hn1
  replace A_ra := A5
  refine o_aload G5 d7_30 (pc' := 32) rfl rfl rfl ?_
  refine o_iload G5 d7_32 (pc' := 34) rfl rfl ?_
  refine o_iconst G5 d7_34 (pc' := 35) rfl (v := (1 : Int32)) rfl ?_
  refine o_iadd G5 d7_35 (pc' := 36) rfl (v := (9 : Int32)) (by decide) ?_
  refine o_lloadN G5 d7_36 (pc' := 37) rfl rfl ?_
  obtain ⟨v6, e6⟩ : ∃ z, q2.toInt32 = z := ⟨_, rfl⟩
  refine o_l2i G5 d7_37 (pc' := 38) rfl e6 ?_
  refine o_iastore G5 A_ra hg (i := 9) rfl (by decide) d7_38 (pc' := 39) rfl ?_
  intro T7 h7 G7 W7 A7
  replace K := K.wr W7 (Or.inl (List.mem_of_getElem? (i := 0) rfl))
  replace E_r0 := E_r0.wr W7
  replace F_stride := F_stride.other W7 (Or.inl hn0)
  replace F_runs := F_runs.other W7 (Or.inl hn0)
  replace A_r := A_r.other W7 hn1
  replace A_ra := A7
  exact o_return G7 d7_39 ⟨rfl, K, ⟨_, (A_ra.congr (f' := fun j => .int (own_iv (o_set (o_set (fun j => .int (fra j)) 8 (.int v4)) 9 (.int v6)) j)) (by intro j hj; simp only [own_iv, o_set]; (repeat' split) <;> simp_all))⟩⟩ (by decide) (by decide)
theorem d5_0 : decode prog_81_method_17_code 0 = .ok (.aload_n 0, 1) := by decide +kernel
theorem d5_1 : decode prog_81_method_17_code 1 = .ok (.getfield 38, 3) := by decide +kernel
theorem d5_4 : decode prog_81_method_17_code 4 = .ok (.iconst 1, 1) := by decide +kernel
theorem d5_5 : decode prog_81_method_17_code 5 = .ok (.isub, 1) := by decide +kernel
theorem d5_6 : decode prog_81_method_17_code 6 = .ok (.istore 5, 2) := by decide +kernel
theorem d5_8 : decode prog_81_method_17_code 8 = .ok (.aload_n 0, 1) := by decide +kernel
theorem d5_9 : decode prog_81_method_17_code 9 = .ok (.getfield 25, 3) := by decide +kernel
theorem d5_12 : decode prog_81_method_17_code 12 = .ok (.iload 5, 2) := by decide +kernel
theorem d5_14 : decode prog_81_method_17_code 14 = .ok (.iaload, 1) := by decide +kernel
theorem d5_15 : decode prog_81_method_17_code 15 = .ok (.istore 6, 2) := by decide +kernel
theorem d5_17 : decode prog_81_method_17_code 17 = .ok (.iload_n 1, 1) := by decide +kernel
theorem d5_18 : decode prog_81_method_17_code 18 = .ok (.iconst (-1), 1) := by decide +kernel
theorem d5_19 : decode prog_81_method_17_code 19 = .ok (.if_icmp .eq 18, 3) := by decide +kernel
theorem d5_37 : decode prog_81_method_17_code 37 = .ok (.iload 6, 2) := by decide +kernel
theorem d5_39 : decode prog_81_method_17_code 39 = .ok (.bipush 48, 2) := by decide +kernel
theorem d5_41 : decode prog_81_method_17_code 41 = .ok (.if_icmp .lt 22, 3) := by decide +kernel
theorem d5_63 : decode prog_81_method_17_code 63 = .ok (.aload_n 0, 1) := by decide +kernel
theorem d5_64 : decode prog_81_method_17_code 64 = .ok (.getfield 25, 3) := by decide +kernel
theorem d5_67 : decode prog_81_method_17_code 67 = .ok (.iload 5, 2) := by decide +kernel
theorem d5_69 : decode prog_81_method_17_code 69 = .ok (.iaload, 1) := by decide +kernel
theorem d5_70 : decode prog_81_method_17_code 70 = .ok (.bipush 64, 2) := by decide +kernel
theorem d5_72 : decode prog_81_method_17_code 72 = .ok (.if_icmp .ne 36, 3) := by decide +kernel
theorem d5_108 : decode prog_81_method_17_code 108 = .ok (.aload_n 0, 1) := by decide +kernel
theorem d5_109 : decode prog_81_method_17_code 109 = .ok (.getfield 18, 3) := by decide +kernel
theorem d5_112 : decode prog_81_method_17_code 112 = .ok (.iload 5, 2) := by decide +kernel
theorem d5_114 : decode prog_81_method_17_code 114 = .ok (.aaload, 1) := by decide +kernel
theorem d5_115 : decode prog_81_method_17_code 115 = .ok (.astore 7, 2) := by decide +kernel
theorem d5_117 : decode prog_81_method_17_code 117 = .ok (.aload 7, 2) := by decide +kernel
theorem d5_119 : decode prog_81_method_17_code 119 = .ok (.iload 6, 2) := by decide +kernel
theorem d5_121 : decode prog_81_method_17_code 121 = .ok (.aload_n 0, 1) := by decide +kernel
theorem d5_122 : decode prog_81_method_17_code 122 = .ok (.getfield 13, 3) := by decide +kernel
theorem d5_125 : decode prog_81_method_17_code 125 = .ok (.imul, 1) := by decide +kernel
theorem d5_126 : decode prog_81_method_17_code 126 = .ok (.aload 7, 2) := by decide +kernel
theorem d5_128 : decode prog_81_method_17_code 128 = .ok (.iload 6, 2) := by decide +kernel
theorem d5_130 : decode prog_81_method_17_code 130 = .ok (.iconst 1, 1) := by decide +kernel
theorem d5_131 : decode prog_81_method_17_code 131 = .ok (.iadd, 1) := by decide +kernel
theorem d5_132 : decode prog_81_method_17_code 132 = .ok (.aload_n 0, 1) := by decide +kernel
theorem d5_133 : decode prog_81_method_17_code 133 = .ok (.getfield 13, 3) := by decide +kernel
theorem d5_136 : decode prog_81_method_17_code 136 = .ok (.imul, 1) := by decide +kernel
theorem d5_137 : decode prog_81_method_17_code 137 = .ok (.aload_n 0, 1) := by decide +kernel
theorem d5_138 : decode prog_81_method_17_code 138 = .ok (.getfield 25, 3) := by decide +kernel
theorem d5_141 : decode prog_81_method_17_code 141 = .ok (.iload 5, 2) := by decide +kernel
theorem d5_143 : decode prog_81_method_17_code 143 = .ok (.iaload, 1) := by decide +kernel
theorem d5_144 : decode prog_81_method_17_code 144 = .ok (.iload 6, 2) := by decide +kernel
theorem d5_146 : decode prog_81_method_17_code 146 = .ok (.isub, 1) := by decide +kernel
theorem d5_147 : decode prog_81_method_17_code 147 = .ok (.aload_n 0, 1) := by decide +kernel
theorem d5_148 : decode prog_81_method_17_code 148 = .ok (.getfield 13, 3) := by decide +kernel
theorem d5_151 : decode prog_81_method_17_code 151 = .ok (.imul, 1) := by decide +kernel
theorem d5_152 : decode prog_81_method_17_code 152 = .ok (.invokestatic 63, 3) := by decide +kernel
theorem d5_155 : decode prog_81_method_17_code 155 = .ok (.aload_n 0, 1) := by decide +kernel
theorem d5_156 : decode prog_81_method_17_code 156 = .ok (.getfield 22, 3) := by decide +kernel
theorem d5_159 : decode prog_81_method_17_code 159 = .ok (.iload 5, 2) := by decide +kernel
theorem d5_161 : decode prog_81_method_17_code 161 = .ok (.aaload, 1) := by decide +kernel
theorem d5_162 : decode prog_81_method_17_code 162 = .ok (.iload 6, 2) := by decide +kernel
theorem d5_164 : decode prog_81_method_17_code 164 = .ok (.aload_n 0, 1) := by decide +kernel
theorem d5_165 : decode prog_81_method_17_code 165 = .ok (.getfield 22, 3) := by decide +kernel
theorem d5_168 : decode prog_81_method_17_code 168 = .ok (.iload 5, 2) := by decide +kernel
theorem d5_170 : decode prog_81_method_17_code 170 = .ok (.aaload, 1) := by decide +kernel
theorem d5_171 : decode prog_81_method_17_code 171 = .ok (.iload 6, 2) := by decide +kernel
theorem d5_173 : decode prog_81_method_17_code 173 = .ok (.iconst 1, 1) := by decide +kernel
theorem d5_174 : decode prog_81_method_17_code 174 = .ok (.iadd, 1) := by decide +kernel
theorem d5_175 : decode prog_81_method_17_code 175 = .ok (.aload_n 0, 1) := by decide +kernel
theorem d5_176 : decode prog_81_method_17_code 176 = .ok (.getfield 25, 3) := by decide +kernel
theorem d5_179 : decode prog_81_method_17_code 179 = .ok (.iload 5, 2) := by decide +kernel
theorem d5_181 : decode prog_81_method_17_code 181 = .ok (.iaload, 1) := by decide +kernel
theorem d5_182 : decode prog_81_method_17_code 182 = .ok (.iload 6, 2) := by decide +kernel
theorem d5_184 : decode prog_81_method_17_code 184 = .ok (.isub, 1) := by decide +kernel
theorem d5_185 : decode prog_81_method_17_code 185 = .ok (.invokestatic 63, 3) := by decide +kernel
theorem d5_188 : decode prog_81_method_17_code 188 = .ok (.aload_n 0, 1) := by decide +kernel
theorem d5_189 : decode prog_81_method_17_code 189 = .ok (.getfield 25, 3) := by decide +kernel
theorem d5_192 : decode prog_81_method_17_code 192 = .ok (.iload 5, 2) := by decide +kernel
theorem d5_194 : decode prog_81_method_17_code 194 = .ok (.dup2, 1) := by decide +kernel
theorem d5_195 : decode prog_81_method_17_code 195 = .ok (.iaload, 1) := by decide +kernel
theorem d5_196 : decode prog_81_method_17_code 196 = .ok (.iconst 1, 1) := by decide +kernel
theorem d5_197 : decode prog_81_method_17_code 197 = .ok (.iadd, 1) := by decide +kernel
theorem d5_198 : decode prog_81_method_17_code 198 = .ok (.iastore, 1) := by decide +kernel
theorem d5_199 : decode prog_81_method_17_code 199 = .ok (.iload 5, 2) := by decide +kernel
theorem d5_201 : decode prog_81_method_17_code 201 = .ok (.iload 6, 2) := by decide +kernel
theorem d5_203 : decode prog_81_method_17_code 203 = .ok (.invokestatic 41, 3) := by decide +kernel
theorem d5_206 : decode prog_81_method_17_code 206 = .ok (.istore 8, 2) := by decide +kernel
theorem d5_208 : decode prog_81_method_17_code 208 = .ok (.aload_n 0, 1) := by decide +kernel
theorem d5_209 : decode prog_81_method_17_code 209 = .ok (.getfield 22, 3) := by decide +kernel
theorem d5_212 : decode prog_81_method_17_code 212 = .ok (.iload 5, 2) := by decide +kernel
theorem d5_214 : decode prog_81_method_17_code 214 = .ok (.aaload, 1) := by decide +kernel
theorem d5_215 : decode prog_81_method_17_code 215 = .ok (.iload 6, 2) := by decide +kernel
theorem d5_217 : decode prog_81_method_17_code 217 = .ok (.iconst 1, 1) := by decide +kernel
theorem d5_218 : decode prog_81_method_17_code 218 = .ok (.iastore, 1) := by decide +kernel
theorem d5_219 : decode prog_81_method_17_code 219 = .ok (.aload_n 0, 1) := by decide +kernel
theorem d5_220 : decode prog_81_method_17_code 220 = .ok (.iload 8, 2) := by decide +kernel
theorem d5_222 : decode prog_81_method_17_code 222 = .ok (.lload_n 2, 1) := by decide +kernel
theorem d5_223 : decode prog_81_method_17_code 223 = .ok (.invokevirtual 69, 3) := by decide +kernel
theorem d5_226 : decode prog_81_method_17_code 226 = .ok (.aload 4, 2) := by decide +kernel
theorem d5_228 : decode prog_81_method_17_code 228 = .ok (.iconst 0, 1) := by decide +kernel
theorem d5_229 : decode prog_81_method_17_code 229 = .ok (.aload 7, 2) := by decide +kernel
theorem d5_231 : decode prog_81_method_17_code 231 = .ok (.iload 6, 2) := by decide +kernel
theorem d5_233 : decode prog_81_method_17_code 233 = .ok (.aload_n 0, 1) := by decide +kernel
theorem d5_234 : decode prog_81_method_17_code 234 = .ok (.getfield 13, 3) := by decide +kernel
theorem d5_237 : decode prog_81_method_17_code 237 = .ok (.imul, 1) := by decide +kernel
theorem d5_238 : decode prog_81_method_17_code 238 = .ok (.iconst 3, 1) := by decide +kernel
theorem d5_239 : decode prog_81_method_17_code 239 = .ok (.iadd, 1) := by decide +kernel
theorem d5_240 : decode prog_81_method_17_code 240 = .ok (.aload_n 0, 1) := by decide +kernel
theorem d5_241 : decode prog_81_method_17_code 241 = .ok (.getfield 9, 3) := by decide +kernel
theorem d5_244 : decode prog_81_method_17_code 244 = .ok (.invokestatic 63, 3) := by decide +kernel
theorem d5_247 : decode prog_81_method_17_code 247 = .ok (.iload 5, 2) := by decide +kernel
theorem d5_249 : decode prog_81_method_17_code 249 = .ok (.iconst 1, 1) := by decide +kernel
theorem d5_250 : decode prog_81_method_17_code 250 = .ok (.iadd, 1) := by decide +kernel
theorem d5_251 : decode prog_81_method_17_code 251 = .ok (.istore 9, 2) := by decide +kernel
theorem d5_253 : decode prog_81_method_17_code 253 = .ok (.iload 9, 2) := by decide +kernel
theorem d5_255 : decode prog_81_method_17_code 255 = .ok (.aload_n 0, 1) := by decide +kernel
theorem d5_256 : decode prog_81_method_17_code 256 = .ok (.getfield 38, 3) := by decide +kernel
theorem d5_259 : decode prog_81_method_17_code 259 = .ok (.if_icmp .ge 20, 3) := by decide +kernel
theorem d5_279 : decode prog_81_method_17_code 279 = .ok (.aload_n 0, 1) := by decide +kernel
theorem d5_280 : decode prog_81_method_17_code 280 = .ok (.dup, 1) := by decide +kernel
theorem d5_281 : decode prog_81_method_17_code 281 = .ok (.getfield 35, 3) := by decide +kernel
theorem d5_284 : decode prog_81_method_17_code 284 = .ok (.iconst 1, 1) := by decide +kernel
theorem d5_285 : decode prog_81_method_17_code 285 = .ok (.iadd, 1) := by decide +kernel
theorem d5_286 : decode prog_81_method_17_code 286 = .ok (.putfield 35, 3) := by decide +kernel
theorem d5_289 : decode prog_81_method_17_code 289 = .ok (.iload 8, 2) := by decide +kernel
theorem d5_291 : decode prog_81_method_17_code 291 = .ok (.ireturn, 1) := by decide +kernel
theorem pn_5 : plainName "com/example/keyfold/keyfold/KeyRuns" = true := by first | (simp [plainName, overriddenIn]; done) | decide +kernel
theorem ef_5 (m : MethodId) (r0 : Addr) (p1 : Int32) (q2 : Int64) (r3 : Addr) : entryFrame m #[(.ref r0), (.int p1), (.long q2), (.ref r3)] 10 = mkF m 0 #[.val (.ref r0), .val (.int p1), .val (.long q2), .second, .val (.ref r3), .unset, .unset, .unset, .unset, .unset] [] := by first | (simp [entryFrame, mkF, argsToLocals, Value.category]; done) | rfl
set_option maxRecDepth 65536 in
set_option maxHeartbeats 40000000 in
theorem rm5_0 {l : Launch} {Z : State} {a0 : Array Value} (hw : ∀ d ∈ tables_1, d.before a0 Z = true) (r0 : Addr) (q2 : Int64) (r4 : Addr) (h0 : Heap) (n0 : Nat) (hz : n0 ≤ h0.size) (r cc ks st ra ca : Addr) (en x0 x1 x2 : Int32) (KR : own_KR Z h0 n0 r0 r cc ks st ra ca (0 : Int32) en x0 x1 x2) (hu0 : r4 ≠ r0) (hu1 : r4 ≠ ks) (hu2 : r4 ≠ ra) (hu3 : r4 ≠ ca) (A_r4 : OArr Z h0 r4 .int 1 (fun _ => .int (0 : Int32))) :
    OMet l Z (⟨"com/example/keyfold/keyfold/KeyRuns", "insert", "(IJ[I)I"⟩ : MethodName) prog_81_method_17_code 10 (some .int) ({ frames := 2, cells := 0, slots := 0, locals := 30 } : Room) #[(.ref r0), (.int (-1 : Int32)), (.long q2), (.ref r4)] h0 n0 ({ frames := 2, cells := 0, slots := 0, locals := 30 } : Room).cells ({ frames := 2, cells := 0, slots := 0, locals := 30 } : Room).slots (fun v h => v = some (.int (0 : Int32)) ∧ Keep h0 h [r0, ks, ra, ca] ∧ own_KR Z h n0 r0 r cc ks st ra ca (1 : Int32) (en + 1) 1 x1 x2) := by
  refine o_body (plainFor_of_name pn_5) hz (fun m => ef_5 m r0 (-1 : Int32) q2 r4) ?_
  intro p e s m below meth c s₁ G0
  have K : Keep h0 h0 [r0, ks, ra, ca] := Keep.refl _ _
  obtain ⟨hlt, E_r0, F_columns_r0, F_stride_r0, F_runs_r0, F_counts_r0, F_runKeys_r0, F_runStarts_r0, F_runCount_r0, F_entries_r0, A_r, A_c, A_ks, ⟨fst, A_st⟩, ⟨fra, A_ra⟩, A_ca⟩ := KR
  refine o_aloadN G0 d5_0 (pc' := 1) rfl rfl rfl ?_
  refine o_getF G0 (host := "") (Or.inl (hw _ (List.mem_of_getElem? (i := 28) rfl))) Via.refl F_runCount_r0 d5_1 (pc' := 4) rfl ?_
  intro T1 G1
  refine o_iconst G1 d5_4 (pc' := 5) rfl (v := (1 : Int32)) rfl ?_
  refine o_isub G1 d5_5 (pc' := 6) rfl (v := (0 : Int32)) (by decide) ?_
  refine o_istore G1 d5_6 (pc' := 8) rfl (l' := #[.val (.ref r0), .val (.int (-1 : Int32)), .val (.long q2), .second, .val (.ref r4), .val (.int (0 : Int32)), .unset, .unset, .unset, .unset]) rfl ?_
  refine o_aloadN G1 d5_8 (pc' := 9) rfl rfl rfl ?_
  refine o_getF G1 (host := "") (Or.inl (hw _ (List.mem_of_getElem? (i := 20) rfl))) Via.refl F_runKeys_r0 d5_9 (pc' := 12) rfl ?_
  intro T2 G2
  refine o_iload G2 d5_12 (pc' := 14) rfl rfl ?_
  refine o_iaload G2 A_ks (i := 0) rfl (by decide) (v := (.int (0 : Int32))) rfl d5_14 (pc' := 15) rfl ?_
  refine o_istore G2 d5_15 (pc' := 17) rfl (l' := #[.val (.ref r0), .val (.int (-1 : Int32)), .val (.long q2), .second, .val (.ref r4), .val (.int (0 : Int32)), .val (.int (0 : Int32)), .unset, .unset, .unset]) rfl ?_
  refine o_iloadN G2 d5_17 (pc' := 18) rfl rfl ?_
  refine o_iconst G2 d5_18 (pc' := 19) rfl (v := (-1 : Int32)) rfl ?_
  refine o_icmp_eq G2 d5_19 (by decide) (pcT := 37) (by decide) (pc' := 22) rfl (fun _ => ?_) (fun q => absurd (by decide) q)
  refine o_iload G2 d5_37 (pc' := 39) rfl rfl ?_
  refine o_bipush G2 d5_39 (pc' := 41) rfl (v := (48 : Int32)) rfl ?_
  refine o_icmp_lt G2 d5_41 (by decide) (pcT := 63) (by decide) (pc' := 44) rfl (fun _ => ?_) (fun q => absurd (by decide) q)
  refine o_aloadN G2 d5_63 (pc' := 64) rfl rfl rfl ?_
  refine o_getF G2 (host := "") (Or.inl (hw _ (List.mem_of_getElem? (i := 20) rfl))) Via.refl F_runKeys_r0 d5_64 (pc' := 67) rfl ?_
  intro T3 G3
  refine o_iload G3 d5_67 (pc' := 69) rfl rfl ?_
  refine o_iaload G3 A_ks (i := 0) rfl (by decide) (v := (.int (0 : Int32))) rfl d5_69 (pc' := 70) rfl ?_
  refine o_bipush G3 d5_70 (pc' := 72) rfl (v := (64 : Int32)) rfl ?_
  refine o_icmp_ne G3 d5_72 (by decide) (pcT := 108) (by decide) (pc' := 75) rfl (fun _ => ?_) (fun q => absurd q (by decide))
  refine o_aloadN G3 d5_108 (pc' := 109) rfl rfl rfl ?_
  refine o_getF G3 (host := "") (Or.inl (hw _ (List.mem_of_getElem? (i := 15) rfl))) Via.refl F_runs_r0 d5_109 (pc' := 112) rfl ?_
  intro T4 G4
  refine o_iload G4 d5_112 (pc' := 114) rfl rfl ?_
  refine o_aaload G4 rfl A_r (i := 0) rfl (by decide) (v := (.ref ra)) rfl d5_114 (pc' := 115) rfl ?_
  refine o_astore G4 d5_115 (pc' := 117) rfl rfl (l' := #[.val (.ref r0), .val (.int (-1 : Int32)), .val (.long q2), .second, .val (.ref r4), .val (.int (0 : Int32)), .val (.int (0 : Int32)), .val (.ref ra), .unset, .unset]) rfl ?_
  refine o_aload G4 d5_117 (pc' := 119) rfl rfl rfl ?_
  refine o_iload G4 d5_119 (pc' := 121) rfl rfl ?_
  refine o_aloadN G4 d5_121 (pc' := 122) rfl rfl rfl ?_
  refine o_getF G4 (host := "") (Or.inl (hw _ (List.mem_of_getElem? (i := 11) rfl))) Via.refl F_stride_r0 d5_122 (pc' := 125) rfl ?_
  intro T5 G5
  refine o_imul G5 d5_125 (pc' := 126) rfl (v := (0 : Int32)) (by decide) ?_
  refine o_aload G5 d5_126 (pc' := 128) rfl rfl rfl ?_
  refine o_iload G5 d5_128 (pc' := 130) rfl rfl ?_
  refine o_iconst G5 d5_130 (pc' := 131) rfl (v := (1 : Int32)) rfl ?_
  refine o_iadd G5 d5_131 (pc' := 132) rfl (v := (1 : Int32)) (by decide) ?_
  refine o_aloadN G5 d5_132 (pc' := 133) rfl rfl rfl ?_
  refine o_getF G5 (host := "") (Or.inl (hw _ (List.mem_of_getElem? (i := 11) rfl))) Via.refl F_stride_r0 d5_133 (pc' := 136) rfl ?_
  intro T6 G6
  refine o_imul G6 d5_136 (pc' := 137) rfl (v := (4 : Int32)) (by decide) ?_
  refine o_aloadN G6 d5_137 (pc' := 138) rfl rfl rfl ?_
  refine o_getF G6 (host := "") (Or.inl (hw _ (List.mem_of_getElem? (i := 20) rfl))) Via.refl F_runKeys_r0 d5_138 (pc' := 141) rfl ?_
  intro T7 G7
  refine o_iload G7 d5_141 (pc' := 143) rfl rfl ?_
  refine o_iaload G7 A_ks (i := 0) rfl (by decide) (v := (.int (0 : Int32))) rfl d5_143 (pc' := 144) rfl ?_
  refine o_iload G7 d5_144 (pc' := 146) rfl rfl ?_
  refine o_isub G7 d5_146 (pc' := 147) rfl (v := (0 : Int32)) (by decide) ?_
  refine o_aloadN G7 d5_147 (pc' := 148) rfl rfl rfl ?_
  refine o_getF G7 (host := "") (Or.inl (hw _ (List.mem_of_getElem? (i := 11) rfl))) Via.refl F_stride_r0 d5_148 (pc' := 151) rfl ?_
  intro T8 G8
  refine o_imul G8 d5_151 (pc' := 152) rfl (v := (0 : Int32)) (by decide) ?_
  refine o_acopy0 G8 (S := 0) (D := 4) (rest := []) A_ra A_ra (by intro i _; first | rfl | (simp only [o_set]; (repeat' split) <;> rfl)) (by intro i _; first | rfl | (simp only [o_set]; (repeat' split) <;> rfl)) (by decide) (by decide) (Or.inl ⟨rfl, rfl⟩) rfl rfl rfl (by decide) (by decide) (hw _ (List.mem_of_getElem? (i := 34) rfl)) (hw _ (List.mem_of_getElem? (i := 37) rfl)) (hw _ (List.mem_of_getElem? (i := 35) rfl)) (hw _ (List.mem_of_getElem? (i := 36) rfl)) (by omega) rfl d5_152 (pc' := 155) rfl (by decide) (W := 0) (Nat.le_of_eq rfl) (by decide) ?_
  intro T9 h9 G9 K9 A9
  replace K := K.trans K9 (allS (Or.inl (List.mem_of_getElem? (i := 2) rfl)) all0)
  replace E_r0 := E_r0.keep K9
  replace F_columns_r0 := F_columns_r0.keep K9 (ninS (o_ne (by omega)) nin0)
  replace F_stride_r0 := F_stride_r0.keep K9 (ninS (o_ne (by omega)) nin0)
  replace F_runs_r0 := F_runs_r0.keep K9 (ninS (o_ne (by omega)) nin0)
  replace F_counts_r0 := F_counts_r0.keep K9 (ninS (o_ne (by omega)) nin0)
  replace F_runKeys_r0 := F_runKeys_r0.keep K9 (ninS (o_ne (by omega)) nin0)
  replace F_runStarts_r0 := F_runStarts_r0.keep K9 (ninS (o_ne (by omega)) nin0)
  replace F_runCount_r0 := F_runCount_r0.keep K9 (ninS (o_ne (by omega)) nin0)
  replace F_entries_r0 := F_entries_r0.keep K9 (ninS (o_ne (by omega)) nin0)
  replace A_r := A_r.keep K9 (ninS (o_ne (by omega)) nin0)
  replace A_c := A_c.keep K9 (ninS (o_ne (by omega)) nin0)
  replace A_ks := A_ks.keep K9 (ninS (o_ne (by omega)) nin0)
  replace A_st := A_st.keep K9 (ninS (o_ne (by omega)) nin0)
  replace A_ca := A_ca.keep K9 (ninS (Ne.symm (o_ne (by omega))) nin0)
  replace A_r4 := A_r4.keep K9 (ninS hu2 nin0)
  have A_ra := A9
  refine o_aloadN G9 d5_155 (pc' := 156) rfl rfl rfl ?_
  refine o_getF G9 (host := "") (Or.inl (hw _ (List.mem_of_getElem? (i := 17) rfl))) Via.refl F_counts_r0 d5_156 (pc' := 159) rfl ?_
  intro T10 G10
  refine o_iload G10 d5_159 (pc' := 161) rfl rfl ?_
  refine o_aaload G10 rfl A_c (i := 0) rfl (by decide) (v := (.ref ca)) rfl d5_161 (pc' := 162) rfl ?_
  refine o_iload G10 d5_162 (pc' := 164) rfl rfl ?_
  refine o_aloadN G10 d5_164 (pc' := 165) rfl rfl rfl ?_
  refine o_getF G10 (host := "") (Or.inl (hw _ (List.mem_of_getElem? (i := 17) rfl))) Via.refl F_counts_r0 d5_165 (pc' := 168) rfl ?_
  intro T11 G11
  refine o_iload G11 d5_168 (pc' := 170) rfl rfl ?_
  refine o_aaload G11 rfl A_c (i := 0) rfl (by decide) (v := (.ref ca)) rfl d5_170 (pc' := 171) rfl ?_
  refine o_iload G11 d5_171 (pc' := 173) rfl rfl ?_
  refine o_iconst G11 d5_173 (pc' := 174) rfl (v := (1 : Int32)) rfl ?_
  refine o_iadd G11 d5_174 (pc' := 175) rfl (v := (1 : Int32)) (by decide) ?_
  refine o_aloadN G11 d5_175 (pc' := 176) rfl rfl rfl ?_
  refine o_getF G11 (host := "") (Or.inl (hw _ (List.mem_of_getElem? (i := 20) rfl))) Via.refl F_runKeys_r0 d5_176 (pc' := 179) rfl ?_
  intro T12 G12
  refine o_iload G12 d5_179 (pc' := 181) rfl rfl ?_
  refine o_iaload G12 A_ks (i := 0) rfl (by decide) (v := (.int (0 : Int32))) rfl d5_181 (pc' := 182) rfl ?_
  refine o_iload G12 d5_182 (pc' := 184) rfl rfl ?_
  refine o_isub G12 d5_184 (pc' := 185) rfl (v := (0 : Int32)) (by decide) ?_
  refine o_acopy0 G12 (S := 0) (D := 1) (rest := []) A_ca A_ca (by intro i _; first | rfl | (simp only [o_set]; (repeat' split) <;> rfl)) (by intro i _; first | rfl | (simp only [o_set]; (repeat' split) <;> rfl)) (by decide) (by decide) (Or.inl ⟨rfl, rfl⟩) rfl rfl rfl (by decide) (by decide) (hw _ (List.mem_of_getElem? (i := 34) rfl)) (hw _ (List.mem_of_getElem? (i := 37) rfl)) (hw _ (List.mem_of_getElem? (i := 35) rfl)) (hw _ (List.mem_of_getElem? (i := 36) rfl)) (by omega) rfl d5_185 (pc' := 188) rfl (by decide) (W := 0) (Nat.le_of_eq rfl) (by decide) ?_
  intro T13 h13 G13 K13 A13
  replace K := K.trans K13 (allS (Or.inl (List.mem_of_getElem? (i := 3) rfl)) all0)
  replace E_r0 := E_r0.keep K13
  replace F_columns_r0 := F_columns_r0.keep K13 (ninS (o_ne (by omega)) nin0)
  replace F_stride_r0 := F_stride_r0.keep K13 (ninS (o_ne (by omega)) nin0)
  replace F_runs_r0 := F_runs_r0.keep K13 (ninS (o_ne (by omega)) nin0)
  replace F_counts_r0 := F_counts_r0.keep K13 (ninS (o_ne (by omega)) nin0)
  replace F_runKeys_r0 := F_runKeys_r0.keep K13 (ninS (o_ne (by omega)) nin0)
  replace F_runStarts_r0 := F_runStarts_r0.keep K13 (ninS (o_ne (by omega)) nin0)
  replace F_runCount_r0 := F_runCount_r0.keep K13 (ninS (o_ne (by omega)) nin0)
  replace F_entries_r0 := F_entries_r0.keep K13 (ninS (o_ne (by omega)) nin0)
  replace A_r := A_r.keep K13 (ninS (o_ne (by omega)) nin0)
  replace A_c := A_c.keep K13 (ninS (o_ne (by omega)) nin0)
  replace A_ks := A_ks.keep K13 (ninS (o_ne (by omega)) nin0)
  replace A_st := A_st.keep K13 (ninS (o_ne (by omega)) nin0)
  replace A_r4 := A_r4.keep K13 (ninS hu3 nin0)
  replace A_ra := A_ra.keep K13 (ninS (o_ne (by omega)) nin0)
  have A_ca := A13
  refine o_aloadN G13 d5_188 (pc' := 189) rfl rfl rfl ?_
  refine o_getF G13 (host := "") (Or.inl (hw _ (List.mem_of_getElem? (i := 20) rfl))) Via.refl F_runKeys_r0 d5_189 (pc' := 192) rfl ?_
  intro T14 G14
  refine o_iload G14 d5_192 (pc' := 194) rfl rfl ?_
  refine o_dup2 G14 rfl rfl d5_194 (pc' := 195) rfl ?_
  refine o_iaload G14 A_ks (i := 0) rfl (by decide) (v := (.int (0 : Int32))) rfl d5_195 (pc' := 196) rfl ?_
  refine o_iconst G14 d5_196 (pc' := 197) rfl (v := (1 : Int32)) rfl ?_
  refine o_iadd G14 d5_197 (pc' := 198) rfl (v := (1 : Int32)) (by decide) ?_
  refine o_iastore G14 A_ks (by omega) (i := 0) rfl (by decide) d5_198 (pc' := 199) rfl ?_
  intro T15 h15 G15 W15 A15
  replace K := K.wr W15 (Or.inl (List.mem_of_getElem? (i := 1) rfl))
  replace E_r0 := E_r0.wr W15
  replace F_columns_r0 := F_columns_r0.other W15 (Or.inl (o_ne (by omega)))
  replace F_stride_r0 := F_stride_r0.other W15 (Or.inl (o_ne (by omega)))
  replace F_runs_r0 := F_runs_r0.other W15 (Or.inl (o_ne (by omega)))
  replace F_counts_r0 := F_counts_r0.other W15 (Or.inl (o_ne (by omega)))
  replace F_runKeys_r0 := F_runKeys_r0.other W15 (Or.inl (o_ne (by omega)))
  replace F_runStarts_r0 := F_runStarts_r0.other W15 (Or.inl (o_ne (by omega)))
  replace F_runCount_r0 := F_runCount_r0.other W15 (Or.inl (o_ne (by omega)))
  replace F_entries_r0 := F_entries_r0.other W15 (Or.inl (o_ne (by omega)))
  replace A_r := A_r.other W15 (o_ne (by omega))
  replace A_c := A_c.other W15 (o_ne (by omega))
  replace A_st := A_st.other W15 (Ne.symm (o_ne (by omega)))
  replace A_r4 := A_r4.other W15 hu1
  replace A_ra := A_ra.other W15 (Ne.symm (o_ne (by omega)))
  replace A_ca := A_ca.other W15 (Ne.symm (o_ne (by omega)))
  replace A_ks := A15
  refine o_iload G15 d5_199 (pc' := 201) rfl rfl ?_
  refine o_iload G15 d5_201 (pc' := 203) rfl rfl ?_
  refine o_callP G15 (z := (⟨"com/example/keyfold/keyfold/KeyRuns", "place", "(II)I"⟩ : MethodName)) (r := .int (0 : Int32)) (argsL := [(.int (0 : Int32)), (.int (0 : Int32))]) (rest := []) (W := 0) (hw _ (List.mem_of_getElem? (i := 45) rfl)) (hw _ (List.mem_of_getElem? (i := 46) rfl)) d5_203 (by decide) (hw _ (List.mem_of_getElem? (i := 2) rfl)) (hw _ (List.mem_of_getElem? (i := 47) rfl)) (by rw [show (0 : Int32) = f_6 (0 : Int32) (0 : Int32) by decide]; exact rm6 hw (0 : Int32) (0 : Int32) h15 n0 G15.sz) (by decide) (by decide) rfl (lenOf pd_3 rfl) rfl (Nat.le_of_eq rfl) (pc' := 206) rfl (by decide) (by decide) ?_
  intro T16 G16
  refine o_istore G16 d5_206 (pc' := 208) rfl (l' := #[.val (.ref r0), .val (.int (-1 : Int32)), .val (.long q2), .second, .val (.ref r4), .val (.int (0 : Int32)), .val (.int (0 : Int32)), .val (.ref ra), .val (.int (0 : Int32)), .unset]) rfl ?_
  refine o_aloadN G16 d5_208 (pc' := 209) rfl rfl rfl ?_
  refine o_getF G16 (host := "") (Or.inl (hw _ (List.mem_of_getElem? (i := 17) rfl))) Via.refl F_counts_r0 d5_209 (pc' := 212) rfl ?_
  intro T17 G17
  refine o_iload G17 d5_212 (pc' := 214) rfl rfl ?_
  refine o_aaload G17 rfl A_c (i := 0) rfl (by decide) (v := (.ref ca)) rfl d5_214 (pc' := 215) rfl ?_
  refine o_iload G17 d5_215 (pc' := 217) rfl rfl ?_
  refine o_iconst G17 d5_217 (pc' := 218) rfl (v := (1 : Int32)) rfl ?_
  refine o_iastore G17 A_ca (by omega) (i := 0) rfl (by decide) d5_218 (pc' := 219) rfl ?_
  intro T18 h18 G18 W18 A18
  replace K := K.wr W18 (Or.inl (List.mem_of_getElem? (i := 3) rfl))
  replace E_r0 := E_r0.wr W18
  replace F_columns_r0 := F_columns_r0.other W18 (Or.inl (o_ne (by omega)))
  replace F_stride_r0 := F_stride_r0.other W18 (Or.inl (o_ne (by omega)))
  replace F_runs_r0 := F_runs_r0.other W18 (Or.inl (o_ne (by omega)))
  replace F_counts_r0 := F_counts_r0.other W18 (Or.inl (o_ne (by omega)))
  replace F_runKeys_r0 := F_runKeys_r0.other W18 (Or.inl (o_ne (by omega)))
  replace F_runStarts_r0 := F_runStarts_r0.other W18 (Or.inl (o_ne (by omega)))
  replace F_runCount_r0 := F_runCount_r0.other W18 (Or.inl (o_ne (by omega)))
  replace F_entries_r0 := F_entries_r0.other W18 (Or.inl (o_ne (by omega)))
  replace A_r := A_r.other W18 (o_ne (by omega))
  replace A_c := A_c.other W18 (o_ne (by omega))
  replace A_ks := A_ks.other W18 (o_ne (by omega))
  replace A_st := A_st.other W18 (o_ne (by omega))
  replace A_r4 := A_r4.other W18 hu3
  replace A_ra := A_ra.other W18 (o_ne (by omega))
  replace A_ca := A18
  refine o_aloadN G18 d5_219 (pc' := 220) rfl rfl rfl ?_
  refine o_iload G18 d5_220 (pc' := 222) rfl rfl ?_
  refine o_lloadN G18 d5_222 (pc' := 223) rfl rfl ?_
  refine o_callV G18 (z := (⟨"com/example/keyfold/keyfold/KeyRuns", "setFirstRowId", "(IJ)V"⟩ : MethodName)) (argsL := [(.int (0 : Int32)), (.long q2)]) (rest := []) (W := 0) E_r0 (hw _ (List.mem_of_getElem? (i := 48) rfl)) (hw _ (List.mem_of_getElem? (i := 50) rfl)) (hw _ (List.mem_of_getElem? (i := 49) rfl)) (hw _ (List.mem_of_getElem? (i := 51) rfl)) d5_223 (by decide) (hw _ (List.mem_of_getElem? (i := 2) rfl)) (hw _ (List.mem_of_getElem? (i := 52) rfl)) (rm7_0 hw r0 q2 h18 n0 G18.sz r ra (by omega) (o_ne (by omega)) (o_ne (by omega)) E_r0 F_runs_r0 F_stride_r0 A_r _ A_ra) (by decide) (by decide) rfl (lenOf pd_4 rfl) rfl (Nat.le_of_eq rfl) (pc' := 226) rfl (by decide) (by decide) ?_
  rintro _ T19 h19 G19 ⟨rfl, K19, fra19, A19⟩
  replace K := K.trans K19 (allS (Or.inl (List.mem_of_getElem? (i := 2) rfl)) all0)
  replace E_r0 := E_r0.keep K19
  replace F_columns_r0 := F_columns_r0.keep K19 (ninS (o_ne (by omega)) nin0)
  replace F_stride_r0 := F_stride_r0.keep K19 (ninS (o_ne (by omega)) nin0)
  replace F_runs_r0 := F_runs_r0.keep K19 (ninS (o_ne (by omega)) nin0)
  replace F_counts_r0 := F_counts_r0.keep K19 (ninS (o_ne (by omega)) nin0)
  replace F_runKeys_r0 := F_runKeys_r0.keep K19 (ninS (o_ne (by omega)) nin0)
  replace F_runStarts_r0 := F_runStarts_r0.keep K19 (ninS (o_ne (by omega)) nin0)
  replace F_runCount_r0 := F_runCount_r0.keep K19 (ninS (o_ne (by omega)) nin0)
  replace F_entries_r0 := F_entries_r0.keep K19 (ninS (o_ne (by omega)) nin0)
  replace A_r := A_r.keep K19 (ninS (o_ne (by omega)) nin0)
  replace A_c := A_c.keep K19 (ninS (o_ne (by omega)) nin0)
  replace A_ks := A_ks.keep K19 (ninS (o_ne (by omega)) nin0)
  replace A_st := A_st.keep K19 (ninS (o_ne (by omega)) nin0)
  replace A_r4 := A_r4.keep K19 (ninS hu2 nin0)
  replace A_ca := A_ca.keep K19 (ninS (Ne.symm (o_ne (by omega))) nin0)
  have A_ra := A19
  show OFin n0 p e below s (fun v h => v = some (.int (0 : Int32)) ∧ Keep h0 h [r0, ks, ra, ca] ∧ own_KR Z h n0 r0 r cc ks st ra ca (1 : Int32) (en + 1) 1 x1 x2) 0 0 T19 (mkF m 226 #[.val (.ref r0), .val (.int (-1 : Int32)), .val (.long q2), .second, .val (.ref r4), .val (.int (0 : Int32)), .val (.int (0 : Int32)), .val (.ref ra), .val (.int (0 : Int32)), .unset] [])
  refine o_aload G19 d5_226 (pc' := 228) rfl rfl rfl ?_
  refine o_iconst G19 d5_228 (pc' := 229) rfl (v := (0 : Int32)) rfl ?_
  refine o_aload G19 d5_229 (pc' := 231) rfl rfl rfl ?_
  refine o_iload G19 d5_231 (pc' := 233) rfl rfl ?_
  refine o_aloadN G19 d5_233 (pc' := 234) rfl rfl rfl ?_
  refine o_getF G19 (host := "") (Or.inl (hw _ (List.mem_of_getElem? (i := 11) rfl))) Via.refl F_stride_r0 d5_234 (pc' := 237) rfl ?_
  intro T20 G20
  refine o_imul G20 d5_237 (pc' := 238) rfl (v := (0 : Int32)) (by decide) ?_
  refine o_iconst G20 d5_238 (pc' := 239) rfl (v := (3 : Int32)) rfl ?_
  refine o_iadd G20 d5_239 (pc' := 240) rfl (v := (3 : Int32)) (by decide) ?_
  refine o_aloadN G20 d5_240 (pc' := 241) rfl rfl rfl ?_
  refine o_getF G20 (host := "") (Or.inl (hw _ (List.mem_of_getElem? (i := 9) rfl))) Via.refl F_columns_r0 d5_241 (pc' := 244) rfl ?_
  intro T21 G21
  refine o_acopy G21 (S := 0) (D := 3) (L := 1) (rest := []) A_r4 A_ra (by intro i _; first | rfl | (simp only [o_set]; (repeat' split) <;> rfl)) (by intro i _; first | rfl | (simp only [o_set]; (repeat' split) <;> rfl)) (by decide) (by decide) rfl rfl rfl rfl (by decide) (by decide) (hw _ (List.mem_of_getElem? (i := 34) rfl)) (hw _ (List.mem_of_getElem? (i := 37) rfl)) (hw _ (List.mem_of_getElem? (i := 35) rfl)) (hw _ (List.mem_of_getElem? (i := 36) rfl)) (by omega) rfl d5_244 (pc' := 247) rfl (by decide) (W := 0) (Nat.le_of_eq rfl) (by decide) ?_
  intro T22 h22 c22 G22 K22 A22 Q22
  replace K := K.trans K22 (allS (Or.inl (List.mem_of_getElem? (i := 2) rfl)) all0)
  replace E_r0 := E_r0.keep K22
  replace F_columns_r0 := F_columns_r0.keep K22 (ninS (o_ne (by omega)) nin0)
  replace F_stride_r0 := F_stride_r0.keep K22 (ninS (o_ne (by omega)) nin0)
  replace F_runs_r0 := F_runs_r0.keep K22 (ninS (o_ne (by omega)) nin0)
  replace F_counts_r0 := F_counts_r0.keep K22 (ninS (o_ne (by omega)) nin0)
  replace F_runKeys_r0 := F_runKeys_r0.keep K22 (ninS (o_ne (by omega)) nin0)
  replace F_runStarts_r0 := F_runStarts_r0.keep K22 (ninS (o_ne (by omega)) nin0)
  replace F_runCount_r0 := F_runCount_r0.keep K22 (ninS (o_ne (by omega)) nin0)
  replace F_entries_r0 := F_entries_r0.keep K22 (ninS (o_ne (by omega)) nin0)
  replace A_r := A_r.keep K22 (ninS (o_ne (by omega)) nin0)
  replace A_c := A_c.keep K22 (ninS (o_ne (by omega)) nin0)
  replace A_ks := A_ks.keep K22 (ninS (o_ne (by omega)) nin0)
  replace A_st := A_st.keep K22 (ninS (o_ne (by omega)) nin0)
  replace A_r4 := A_r4.keep K22 (ninS hu2 nin0)
  replace A_ca := A_ca.keep K22 (ninS (Ne.symm (o_ne (by omega))) nin0)
  have A_ra := A22
  refine o_iload G22 d5_247 (pc' := 249) rfl rfl ?_
  refine o_iconst G22 d5_249 (pc' := 250) rfl (v := (1 : Int32)) rfl ?_
  refine o_iadd G22 d5_250 (pc' := 251) rfl (v := (1 : Int32)) (by decide) ?_
  refine o_istore G22 d5_251 (pc' := 253) rfl (l' := #[.val (.ref r0), .val (.int (-1 : Int32)), .val (.long q2), .second, .val (.ref r4), .val (.int (0 : Int32)), .val (.int (0 : Int32)), .val (.ref ra), .val (.int (0 : Int32)), .val (.int (1 : Int32))]) rfl ?_
  refine o_iload G22 d5_253 (pc' := 255) rfl rfl ?_
  refine o_aloadN G22 d5_255 (pc' := 256) rfl rfl rfl ?_
  refine o_getF G22 (host := "") (Or.inl (hw _ (List.mem_of_getElem? (i := 28) rfl))) Via.refl F_runCount_r0 d5_256 (pc' := 259) rfl ?_
  intro T23 G23
  refine o_icmp_ge G23 d5_259 (by decide) (pcT := 279) (by decide) (pc' := 262) rfl (fun _ => ?_) (fun q => absurd q (by decide))
  refine o_aloadN G23 d5_279 (pc' := 280) rfl rfl rfl ?_
  refine o_dup G23 d5_280 (pc' := 281) rfl rfl ?_
  refine o_getF G23 (host := "") (Or.inl (hw _ (List.mem_of_getElem? (i := 57) rfl))) Via.refl F_entries_r0 d5_281 (pc' := 284) rfl ?_
  intro T24 G24
  refine o_iconst G24 d5_284 (pc' := 285) rfl (v := (1 : Int32)) rfl ?_
  obtain ⟨v25, e25⟩ : ∃ z, en + (1 : Int32) = z := ⟨_, rfl⟩
  refine o_iadd G24 d5_285 (pc' := 286) rfl e25 ?_
  refine o_putF G24 (host := "") (Or.inl (hw _ (List.mem_of_getElem? (i := 57) rfl))) Via.refl F_entries_r0 E_r0 (Or.inl (hw _ (List.mem_of_getElem? (i := 58) rfl))) (hw _ (List.mem_of_getElem? (i := 1) rfl)) (ty := .int) (by decide) rfl rfl (by omega) d5_286 (pc' := 289) rfl ?_
  intro T26 h26 G26 W26
  replace K := K.wr W26 (Or.inl (List.mem_of_getElem? (i := 0) rfl))
  replace E_r0 := E_r0.wr W26
  replace F_columns_r0 := F_columns_r0.other W26 (Or.inr (slot_ne (Or.inr (hw _ (List.mem_of_getElem? (i := 10) rfl))) (Or.inl (hw _ (List.mem_of_getElem? (i := 58) rfl))) (by decide) (t := .int) (t' := .int) (by decide) (by decide)))
  replace F_stride_r0 := F_stride_r0.other W26 (Or.inr (slot_ne (Or.inr (hw _ (List.mem_of_getElem? (i := 12) rfl))) (Or.inl (hw _ (List.mem_of_getElem? (i := 58) rfl))) (by decide) (t := .int) (t' := .int) (by decide) (by decide)))
  replace F_runs_r0 := F_runs_r0.other W26 (Or.inr (slot_ne (Or.inl (hw _ (List.mem_of_getElem? (i := 16) rfl))) (Or.inl (hw _ (List.mem_of_getElem? (i := 58) rfl))) (by decide) (t := (.array (.array .int))) (t' := .int) (by decide) (by decide)))
  replace F_counts_r0 := F_counts_r0.other W26 (Or.inr (slot_ne (Or.inl (hw _ (List.mem_of_getElem? (i := 18) rfl))) (Or.inl (hw _ (List.mem_of_getElem? (i := 58) rfl))) (by decide) (t := (.array (.array .int))) (t' := .int) (by decide) (by decide)))
  replace F_runKeys_r0 := F_runKeys_r0.other W26 (Or.inr (slot_ne (Or.inl (hw _ (List.mem_of_getElem? (i := 21) rfl))) (Or.inl (hw _ (List.mem_of_getElem? (i := 58) rfl))) (by decide) (t := (.array .int)) (t' := .int) (by decide) (by decide)))
  replace F_runStarts_r0 := F_runStarts_r0.other W26 (Or.inr (slot_ne (Or.inl (hw _ (List.mem_of_getElem? (i := 23) rfl))) (Or.inl (hw _ (List.mem_of_getElem? (i := 58) rfl))) (by decide) (t := (.array .int)) (t' := .int) (by decide) (by decide)))
  replace F_runCount_r0 := F_runCount_r0.other W26 (Or.inr (slot_ne (Or.inl (hw _ (List.mem_of_getElem? (i := 29) rfl))) (Or.inl (hw _ (List.mem_of_getElem? (i := 58) rfl))) (by decide) (t := .int) (t' := .int) (by decide) (by decide)))
  replace F_entries_r0 := F_entries_r0.same W26
  replace A_r := A_r.other W26 (Ne.symm (o_ne (by omega)))
  replace A_c := A_c.other W26 (Ne.symm (o_ne (by omega)))
  replace A_ks := A_ks.other W26 (Ne.symm (o_ne (by omega)))
  replace A_st := A_st.other W26 (Ne.symm (o_ne (by omega)))
  replace A_r4 := A_r4.other W26 hu0
  replace A_ca := A_ca.other W26 (Ne.symm (o_ne (by omega)))
  replace A_ra := A_ra.other W26 (Ne.symm (o_ne (by omega)))
  refine o_iload G26 d5_289 (pc' := 291) rfl rfl ?_
  subst e25
  exact o_ireturn G26 d5_291 ⟨rfl, K, hlt, E_r0, F_columns_r0, F_stride_r0, F_runs_r0, F_counts_r0, F_runKeys_r0, F_runStarts_r0, F_runCount_r0, F_entries_r0, A_r, A_c, (A_ks.congr (by intro j hj; simp only [own_k, o_set]; (repeat' split) <;> rfl)), ⟨_, A_st⟩, ⟨own_iv c22, A_ra.congr (by intro j hj; simp only [own_iv]; rw [Q22 j hj]; (repeat' split) <;> simp_all [o_set])⟩, (A_ca.congr (by intro j hj; match j with | 0 => rfl | 1 => rfl | 2 => rfl | j + 3 => simp [o_set, own_c3]))⟩ (by decide) (by decide)
set_option maxRecDepth 65536 in
set_option maxHeartbeats 40000000 in
theorem rm5_1 {l : Launch} {Z : State} {a0 : Array Value} (hw : ∀ d ∈ tables_1, d.before a0 Z = true) (r0 : Addr) (q2 : Int64) (r4 : Addr) (h0 : Heap) (n0 : Nat) (hz : n0 ≤ h0.size) (r cc ks st ra ca : Addr) (en x0 x1 x2 : Int32) (KR : own_KR Z h0 n0 r0 r cc ks st ra ca (1 : Int32) en x0 x1 x2) (hu0 : r4 ≠ r0) (hu1 : r4 ≠ ks) (hu2 : r4 ≠ ra) (hu3 : r4 ≠ ca) (A_r4 : OArr Z h0 r4 .int 1 (fun _ => .int (0 : Int32))) :
    OMet l Z (⟨"com/example/keyfold/keyfold/KeyRuns", "insert", "(IJ[I)I"⟩ : MethodName) prog_81_method_17_code 10 (some .int) ({ frames := 2, cells := 0, slots := 0, locals := 30 } : Room) #[(.ref r0), (.int (-1 : Int32)), (.long q2), (.ref r4)] h0 n0 ({ frames := 2, cells := 0, slots := 0, locals := 30 } : Room).cells ({ frames := 2, cells := 0, slots := 0, locals := 30 } : Room).slots (fun v h => v = some (.int (1 : Int32)) ∧ Keep h0 h [r0, ks, ra, ca] ∧ own_KR Z h n0 r0 r cc ks st ra ca (2 : Int32) (en + 1) x0 1 x2) := by
  refine o_body (plainFor_of_name pn_5) hz (fun m => ef_5 m r0 (-1 : Int32) q2 r4) ?_
  intro p e s m below meth c s₁ G0
  have K : Keep h0 h0 [r0, ks, ra, ca] := Keep.refl _ _
  obtain ⟨hlt, E_r0, F_columns_r0, F_stride_r0, F_runs_r0, F_counts_r0, F_runKeys_r0, F_runStarts_r0, F_runCount_r0, F_entries_r0, A_r, A_c, A_ks, ⟨fst, A_st⟩, ⟨fra, A_ra⟩, A_ca⟩ := KR
  refine o_aloadN G0 d5_0 (pc' := 1) rfl rfl rfl ?_
  refine o_getF G0 (host := "") (Or.inl (hw _ (List.mem_of_getElem? (i := 28) rfl))) Via.refl F_runCount_r0 d5_1 (pc' := 4) rfl ?_
  intro T1 G1
  refine o_iconst G1 d5_4 (pc' := 5) rfl (v := (1 : Int32)) rfl ?_
  refine o_isub G1 d5_5 (pc' := 6) rfl (v := (0 : Int32)) (by decide) ?_
  refine o_istore G1 d5_6 (pc' := 8) rfl (l' := #[.val (.ref r0), .val (.int (-1 : Int32)), .val (.long q2), .second, .val (.ref r4), .val (.int (0 : Int32)), .unset, .unset, .unset, .unset]) rfl ?_
  refine o_aloadN G1 d5_8 (pc' := 9) rfl rfl rfl ?_
  refine o_getF G1 (host := "") (Or.inl (hw _ (List.mem_of_getElem? (i := 20) rfl))) Via.refl F_runKeys_r0 d5_9 (pc' := 12) rfl ?_
  intro T2 G2
  refine o_iload G2 d5_12 (pc' := 14) rfl rfl ?_
  refine o_iaload G2 A_ks (i := 0) rfl (by decide) (v := (.int (1 : Int32))) rfl d5_14 (pc' := 15) rfl ?_
  refine o_istore G2 d5_15 (pc' := 17) rfl (l' := #[.val (.ref r0), .val (.int (-1 : Int32)), .val (.long q2), .second, .val (.ref r4), .val (.int (0 : Int32)), .val (.int (1 : Int32)), .unset, .unset, .unset]) rfl ?_
  refine o_iloadN G2 d5_17 (pc' := 18) rfl rfl ?_
  refine o_iconst G2 d5_18 (pc' := 19) rfl (v := (-1 : Int32)) rfl ?_
  refine o_icmp_eq G2 d5_19 (by decide) (pcT := 37) (by decide) (pc' := 22) rfl (fun _ => ?_) (fun q => absurd (by decide) q)
  refine o_iload G2 d5_37 (pc' := 39) rfl rfl ?_
  refine o_bipush G2 d5_39 (pc' := 41) rfl (v := (48 : Int32)) rfl ?_
  refine o_icmp_lt G2 d5_41 (by decide) (pcT := 63) (by decide) (pc' := 44) rfl (fun _ => ?_) (fun q => absurd (by decide) q)
  refine o_aloadN G2 d5_63 (pc' := 64) rfl rfl rfl ?_
  refine o_getF G2 (host := "") (Or.inl (hw _ (List.mem_of_getElem? (i := 20) rfl))) Via.refl F_runKeys_r0 d5_64 (pc' := 67) rfl ?_
  intro T3 G3
  refine o_iload G3 d5_67 (pc' := 69) rfl rfl ?_
  refine o_iaload G3 A_ks (i := 0) rfl (by decide) (v := (.int (1 : Int32))) rfl d5_69 (pc' := 70) rfl ?_
  refine o_bipush G3 d5_70 (pc' := 72) rfl (v := (64 : Int32)) rfl ?_
  refine o_icmp_ne G3 d5_72 (by decide) (pcT := 108) (by decide) (pc' := 75) rfl (fun _ => ?_) (fun q => absurd q (by decide))
  refine o_aloadN G3 d5_108 (pc' := 109) rfl rfl rfl ?_
  refine o_getF G3 (host := "") (Or.inl (hw _ (List.mem_of_getElem? (i := 15) rfl))) Via.refl F_runs_r0 d5_109 (pc' := 112) rfl ?_
  intro T4 G4
  refine o_iload G4 d5_112 (pc' := 114) rfl rfl ?_
  refine o_aaload G4 rfl A_r (i := 0) rfl (by decide) (v := (.ref ra)) rfl d5_114 (pc' := 115) rfl ?_
  refine o_astore G4 d5_115 (pc' := 117) rfl rfl (l' := #[.val (.ref r0), .val (.int (-1 : Int32)), .val (.long q2), .second, .val (.ref r4), .val (.int (0 : Int32)), .val (.int (1 : Int32)), .val (.ref ra), .unset, .unset]) rfl ?_
  refine o_aload G4 d5_117 (pc' := 119) rfl rfl rfl ?_
  refine o_iload G4 d5_119 (pc' := 121) rfl rfl ?_
  refine o_aloadN G4 d5_121 (pc' := 122) rfl rfl rfl ?_
  refine o_getF G4 (host := "") (Or.inl (hw _ (List.mem_of_getElem? (i := 11) rfl))) Via.refl F_stride_r0 d5_122 (pc' := 125) rfl ?_
  intro T5 G5
  refine o_imul G5 d5_125 (pc' := 126) rfl (v := (4 : Int32)) (by decide) ?_
  refine o_aload G5 d5_126 (pc' := 128) rfl rfl rfl ?_
  refine o_iload G5 d5_128 (pc' := 130) rfl rfl ?_
  refine o_iconst G5 d5_130 (pc' := 131) rfl (v := (1 : Int32)) rfl ?_
  refine o_iadd G5 d5_131 (pc' := 132) rfl (v := (2 : Int32)) (by decide) ?_
  refine o_aloadN G5 d5_132 (pc' := 133) rfl rfl rfl ?_
  refine o_getF G5 (host := "") (Or.inl (hw _ (List.mem_of_getElem? (i := 11) rfl))) Via.refl F_stride_r0 d5_133 (pc' := 136) rfl ?_
  intro T6 G6
  refine o_imul G6 d5_136 (pc' := 137) rfl (v := (8 : Int32)) (by decide) ?_
  refine o_aloadN G6 d5_137 (pc' := 138) rfl rfl rfl ?_
  refine o_getF G6 (host := "") (Or.inl (hw _ (List.mem_of_getElem? (i := 20) rfl))) Via.refl F_runKeys_r0 d5_138 (pc' := 141) rfl ?_
  intro T7 G7
  refine o_iload G7 d5_141 (pc' := 143) rfl rfl ?_
  refine o_iaload G7 A_ks (i := 0) rfl (by decide) (v := (.int (1 : Int32))) rfl d5_143 (pc' := 144) rfl ?_
  refine o_iload G7 d5_144 (pc' := 146) rfl rfl ?_
  refine o_isub G7 d5_146 (pc' := 147) rfl (v := (0 : Int32)) (by decide) ?_
  refine o_aloadN G7 d5_147 (pc' := 148) rfl rfl rfl ?_
  refine o_getF G7 (host := "") (Or.inl (hw _ (List.mem_of_getElem? (i := 11) rfl))) Via.refl F_stride_r0 d5_148 (pc' := 151) rfl ?_
  intro T8 G8
  refine o_imul G8 d5_151 (pc' := 152) rfl (v := (0 : Int32)) (by decide) ?_
  refine o_acopy0 G8 (S := 4) (D := 8) (rest := []) A_ra A_ra (by intro i _; first | rfl | (simp only [o_set]; (repeat' split) <;> rfl)) (by intro i _; first | rfl | (simp only [o_set]; (repeat' split) <;> rfl)) (by decide) (by decide) (Or.inl ⟨rfl, rfl⟩) rfl rfl rfl (by decide) (by decide) (hw _ (List.mem_of_getElem? (i := 34) rfl)) (hw _ (List.mem_of_getElem? (i := 37) rfl)) (hw _ (List.mem_of_getElem? (i := 35) rfl)) (hw _ (List.mem_of_getElem? (i := 36) rfl)) (by omega) rfl d5_152 (pc' := 155) rfl (by decide) (W := 0) (Nat.le_of_eq rfl) (by decide) ?_
  intro T9 h9 G9 K9 A9
  replace K := K.trans K9 (allS (Or.inl (List.mem_of_getElem? (i := 2) rfl)) all0)
  replace E_r0 := E_r0.keep K9
  replace F_columns_r0 := F_columns_r0.keep K9 (ninS (o_ne (by omega)) nin0)
  replace F_stride_r0 := F_stride_r0.keep K9 (ninS (o_ne (by omega)) nin0)
  replace F_runs_r0 := F_runs_r0.keep K9 (ninS (o_ne (by omega)) nin0)
  replace F_counts_r0 := F_counts_r0.keep K9 (ninS (o_ne (by omega)) nin0)
  replace F_runKeys_r0 := F_runKeys_r0.keep K9 (ninS (o_ne (by omega)) nin0)
  replace F_runStarts_r0 := F_runStarts_r0.keep K9 (ninS (o_ne (by omega)) nin0)
  replace F_runCount_r0 := F_runCount_r0.keep K9 (ninS (o_ne (by omega)) nin0)
  replace F_entries_r0 := F_entries_r0.keep K9 (ninS (o_ne (by omega)) nin0)
  replace A_r := A_r.keep K9 (ninS (o_ne (by omega)) nin0)
  replace A_c := A_c.keep K9 (ninS (o_ne (by omega)) nin0)
  replace A_ks := A_ks.keep K9 (ninS (o_ne (by omega)) nin0)
  replace A_st := A_st.keep K9 (ninS (o_ne (by omega)) nin0)
  replace A_ca := A_ca.keep K9 (ninS (Ne.symm (o_ne (by omega))) nin0)
  replace A_r4 := A_r4.keep K9 (ninS hu2 nin0)
  have A_ra := A9
  refine o_aloadN G9 d5_155 (pc' := 156) rfl rfl rfl ?_
  refine o_getF G9 (host := "") (Or.inl (hw _ (List.mem_of_getElem? (i := 17) rfl))) Via.refl F_counts_r0 d5_156 (pc' := 159) rfl ?_
  intro T10 G10
  refine o_iload G10 d5_159 (pc' := 161) rfl rfl ?_
  refine o_aaload G10 rfl A_c (i := 0) rfl (by decide) (v := (.ref ca)) rfl d5_161 (pc' := 162) rfl ?_
  refine o_iload G10 d5_162 (pc' := 164) rfl rfl ?_
  refine o_aloadN G10 d5_164 (pc' := 165) rfl rfl rfl ?_
  refine o_getF G10 (host := "") (Or.inl (hw _ (List.mem_of_getElem? (i := 17) rfl))) Via.refl F_counts_r0 d5_165 (pc' := 168) rfl ?_
  intro T11 G11
  refine o_iload G11 d5_168 (pc' := 170) rfl rfl ?_
  refine o_aaload G11 rfl A_c (i := 0) rfl (by decide) (v := (.ref ca)) rfl d5_170 (pc' := 171) rfl ?_
  refine o_iload G11 d5_171 (pc' := 173) rfl rfl ?_
  refine o_iconst G11 d5_173 (pc' := 174) rfl (v := (1 : Int32)) rfl ?_
  refine o_iadd G11 d5_174 (pc' := 175) rfl (v := (2 : Int32)) (by decide) ?_
  refine o_aloadN G11 d5_175 (pc' := 176) rfl rfl rfl ?_
  refine o_getF G11 (host := "") (Or.inl (hw _ (List.mem_of_getElem? (i := 20) rfl))) Via.refl F_runKeys_r0 d5_176 (pc' := 179) rfl ?_
  intro T12 G12
  refine o_iload G12 d5_179 (pc' := 181) rfl rfl ?_
  refine o_iaload G12 A_ks (i := 0) rfl (by decide) (v := (.int (1 : Int32))) rfl d5_181 (pc' := 182) rfl ?_
  refine o_iload G12 d5_182 (pc' := 184) rfl rfl ?_
  refine o_isub G12 d5_184 (pc' := 185) rfl (v := (0 : Int32)) (by decide) ?_
  refine o_acopy0 G12 (S := 1) (D := 2) (rest := []) A_ca A_ca (by intro i _; first | rfl | (simp only [o_set]; (repeat' split) <;> rfl)) (by intro i _; first | rfl | (simp only [o_set]; (repeat' split) <;> rfl)) (by decide) (by decide) (Or.inl ⟨rfl, rfl⟩) rfl rfl rfl (by decide) (by decide) (hw _ (List.mem_of_getElem? (i := 34) rfl)) (hw _ (List.mem_of_getElem? (i := 37) rfl)) (hw _ (List.mem_of_getElem? (i := 35) rfl)) (hw _ (List.mem_of_getElem? (i := 36) rfl)) (by omega) rfl d5_185 (pc' := 188) rfl (by decide) (W := 0) (Nat.le_of_eq rfl) (by decide) ?_
  intro T13 h13 G13 K13 A13
  replace K := K.trans K13 (allS (Or.inl (List.mem_of_getElem? (i := 3) rfl)) all0)
  replace E_r0 := E_r0.keep K13
  replace F_columns_r0 := F_columns_r0.keep K13 (ninS (o_ne (by omega)) nin0)
  replace F_stride_r0 := F_stride_r0.keep K13 (ninS (o_ne (by omega)) nin0)
  replace F_runs_r0 := F_runs_r0.keep K13 (ninS (o_ne (by omega)) nin0)
  replace F_counts_r0 := F_counts_r0.keep K13 (ninS (o_ne (by omega)) nin0)
  replace F_runKeys_r0 := F_runKeys_r0.keep K13 (ninS (o_ne (by omega)) nin0)
  replace F_runStarts_r0 := F_runStarts_r0.keep K13 (ninS (o_ne (by omega)) nin0)
  replace F_runCount_r0 := F_runCount_r0.keep K13 (ninS (o_ne (by omega)) nin0)
  replace F_entries_r0 := F_entries_r0.keep K13 (ninS (o_ne (by omega)) nin0)
  replace A_r := A_r.keep K13 (ninS (o_ne (by omega)) nin0)
  replace A_c := A_c.keep K13 (ninS (o_ne (by omega)) nin0)
  replace A_ks := A_ks.keep K13 (ninS (o_ne (by omega)) nin0)
  replace A_st := A_st.keep K13 (ninS (o_ne (by omega)) nin0)
  replace A_r4 := A_r4.keep K13 (ninS hu3 nin0)
  replace A_ra := A_ra.keep K13 (ninS (o_ne (by omega)) nin0)
  have A_ca := A13
  refine o_aloadN G13 d5_188 (pc' := 189) rfl rfl rfl ?_
  refine o_getF G13 (host := "") (Or.inl (hw _ (List.mem_of_getElem? (i := 20) rfl))) Via.refl F_runKeys_r0 d5_189 (pc' := 192) rfl ?_
  intro T14 G14
  refine o_iload G14 d5_192 (pc' := 194) rfl rfl ?_
  refine o_dup2 G14 rfl rfl d5_194 (pc' := 195) rfl ?_
  refine o_iaload G14 A_ks (i := 0) rfl (by decide) (v := (.int (1 : Int32))) rfl d5_195 (pc' := 196) rfl ?_
  refine o_iconst G14 d5_196 (pc' := 197) rfl (v := (1 : Int32)) rfl ?_
  refine o_iadd G14 d5_197 (pc' := 198) rfl (v := (2 : Int32)) (by decide) ?_
  refine o_iastore G14 A_ks (by omega) (i := 0) rfl (by decide) d5_198 (pc' := 199) rfl ?_
  intro T15 h15 G15 W15 A15
  replace K := K.wr W15 (Or.inl (List.mem_of_getElem? (i := 1) rfl))
  replace E_r0 := E_r0.wr W15
  replace F_columns_r0 := F_columns_r0.other W15 (Or.inl (o_ne (by omega)))
  replace F_stride_r0 := F_stride_r0.other W15 (Or.inl (o_ne (by omega)))
  replace F_runs_r0 := F_runs_r0.other W15 (Or.inl (o_ne (by omega)))
  replace F_counts_r0 := F_counts_r0.other W15 (Or.inl (o_ne (by omega)))
  replace F_runKeys_r0 := F_runKeys_r0.other W15 (Or.inl (o_ne (by omega)))
  replace F_runStarts_r0 := F_runStarts_r0.other W15 (Or.inl (o_ne (by omega)))
  replace F_runCount_r0 := F_runCount_r0.other W15 (Or.inl (o_ne (by omega)))
  replace F_entries_r0 := F_entries_r0.other W15 (Or.inl (o_ne (by omega)))
  replace A_r := A_r.other W15 (o_ne (by omega))
  replace A_c := A_c.other W15 (o_ne (by omega))
  replace A_st := A_st.other W15 (Ne.symm (o_ne (by omega)))
  replace A_r4 := A_r4.other W15 hu1
  replace A_ra := A_ra.other W15 (Ne.symm (o_ne (by omega)))
  replace A_ca := A_ca.other W15 (Ne.symm (o_ne (by omega)))
  replace A_ks := A15
  refine o_iload G15 d5_199 (pc' := 201) rfl rfl ?_
  refine o_iload G15 d5_201 (pc' := 203) rfl rfl ?_
  refine o_callP G15 (z := (⟨"com/example/keyfold/keyfold/KeyRuns", "place", "(II)I"⟩ : MethodName)) (r := .int (1 : Int32)) (argsL := [(.int (0 : Int32)), (.int (1 : Int32))]) (rest := []) (W := 0) (hw _ (List.mem_of_getElem? (i := 45) rfl)) (hw _ (List.mem_of_getElem? (i := 46) rfl)) d5_203 (by decide) (hw _ (List.mem_of_getElem? (i := 2) rfl)) (hw _ (List.mem_of_getElem? (i := 47) rfl)) (by rw [show (1 : Int32) = f_6 (0 : Int32) (1 : Int32) by decide]; exact rm6 hw (0 : Int32) (1 : Int32) h15 n0 G15.sz) (by decide) (by decide) rfl (lenOf pd_3 rfl) rfl (Nat.le_of_eq rfl) (pc' := 206) rfl (by decide) (by decide) ?_
  intro T16 G16
  refine o_istore G16 d5_206 (pc' := 208) rfl (l' := #[.val (.ref r0), .val (.int (-1 : Int32)), .val (.long q2), .second, .val (.ref r4), .val (.int (0 : Int32)), .val (.int (1 : Int32)), .val (.ref ra), .val (.int (1 : Int32)), .unset]) rfl ?_
  refine o_aloadN G16 d5_208 (pc' := 209) rfl rfl rfl ?_
  refine o_getF G16 (host := "") (Or.inl (hw _ (List.mem_of_getElem? (i := 17) rfl))) Via.refl F_counts_r0 d5_209 (pc' := 212) rfl ?_
  intro T17 G17
  refine o_iload G17 d5_212 (pc' := 214) rfl rfl ?_
  refine o_aaload G17 rfl A_c (i := 0) rfl (by decide) (v := (.ref ca)) rfl d5_214 (pc' := 215) rfl ?_
  refine o_iload G17 d5_215 (pc' := 217) rfl rfl ?_
  refine o_iconst G17 d5_217 (pc' := 218) rfl (v := (1 : Int32)) rfl ?_
  refine o_iastore G17 A_ca (by omega) (i := 1) rfl (by decide) d5_218 (pc' := 219) rfl ?_
  intro T18 h18 G18 W18 A18
  replace K := K.wr W18 (Or.inl (List.mem_of_getElem? (i := 3) rfl))
  replace E_r0 := E_r0.wr W18
  replace F_columns_r0 := F_columns_r0.other W18 (Or.inl (o_ne (by omega)))
  replace F_stride_r0 := F_stride_r0.other W18 (Or.inl (o_ne (by omega)))
  replace F_runs_r0 := F_runs_r0.other W18 (Or.inl (o_ne (by omega)))
  replace F_counts_r0 := F_counts_r0.other W18 (Or.inl (o_ne (by omega)))
  replace F_runKeys_r0 := F_runKeys_r0.other W18 (Or.inl (o_ne (by omega)))
  replace F_runStarts_r0 := F_runStarts_r0.other W18 (Or.inl (o_ne (by omega)))
  replace F_runCount_r0 := F_runCount_r0.other W18 (Or.inl (o_ne (by omega)))
  replace F_entries_r0 := F_entries_r0.other W18 (Or.inl (o_ne (by omega)))
  replace A_r := A_r.other W18 (o_ne (by omega))
  replace A_c := A_c.other W18 (o_ne (by omega))
  replace A_ks := A_ks.other W18 (o_ne (by omega))
  replace A_st := A_st.other W18 (o_ne (by omega))
  replace A_r4 := A_r4.other W18 hu3
  replace A_ra := A_ra.other W18 (o_ne (by omega))
  replace A_ca := A18
  refine o_aloadN G18 d5_219 (pc' := 220) rfl rfl rfl ?_
  refine o_iload G18 d5_220 (pc' := 222) rfl rfl ?_
  refine o_lloadN G18 d5_222 (pc' := 223) rfl rfl ?_
  refine o_callV G18 (z := (⟨"com/example/keyfold/keyfold/KeyRuns", "setFirstRowId", "(IJ)V"⟩ : MethodName)) (argsL := [(.int (1 : Int32)), (.long q2)]) (rest := []) (W := 0) E_r0 (hw _ (List.mem_of_getElem? (i := 48) rfl)) (hw _ (List.mem_of_getElem? (i := 50) rfl)) (hw _ (List.mem_of_getElem? (i := 49) rfl)) (hw _ (List.mem_of_getElem? (i := 51) rfl)) d5_223 (by decide) (hw _ (List.mem_of_getElem? (i := 2) rfl)) (hw _ (List.mem_of_getElem? (i := 52) rfl)) (rm7_1 hw r0 q2 h18 n0 G18.sz r ra (by omega) (o_ne (by omega)) (o_ne (by omega)) E_r0 F_runs_r0 F_stride_r0 A_r _ A_ra) (by decide) (by decide) rfl (lenOf pd_4 rfl) rfl (Nat.le_of_eq rfl) (pc' := 226) rfl (by decide) (by decide) ?_
  rintro _ T19 h19 G19 ⟨rfl, K19, fra19, A19⟩
  replace K := K.trans K19 (allS (Or.inl (List.mem_of_getElem? (i := 2) rfl)) all0)
  replace E_r0 := E_r0.keep K19
  replace F_columns_r0 := F_columns_r0.keep K19 (ninS (o_ne (by omega)) nin0)
  replace F_stride_r0 := F_stride_r0.keep K19 (ninS (o_ne (by omega)) nin0)
  replace F_runs_r0 := F_runs_r0.keep K19 (ninS (o_ne (by omega)) nin0)
  replace F_counts_r0 := F_counts_r0.keep K19 (ninS (o_ne (by omega)) nin0)
  replace F_runKeys_r0 := F_runKeys_r0.keep K19 (ninS (o_ne (by omega)) nin0)
  replace F_runStarts_r0 := F_runStarts_r0.keep K19 (ninS (o_ne (by omega)) nin0)
  replace F_runCount_r0 := F_runCount_r0.keep K19 (ninS (o_ne (by omega)) nin0)
  replace F_entries_r0 := F_entries_r0.keep K19 (ninS (o_ne (by omega)) nin0)
  replace A_r := A_r.keep K19 (ninS (o_ne (by omega)) nin0)
  replace A_c := A_c.keep K19 (ninS (o_ne (by omega)) nin0)
  replace A_ks := A_ks.keep K19 (ninS (o_ne (by omega)) nin0)
  replace A_st := A_st.keep K19 (ninS (o_ne (by omega)) nin0)
  replace A_r4 := A_r4.keep K19 (ninS hu2 nin0)
  replace A_ca := A_ca.keep K19 (ninS (Ne.symm (o_ne (by omega))) nin0)
  have A_ra := A19
  show OFin n0 p e below s (fun v h => v = some (.int (1 : Int32)) ∧ Keep h0 h [r0, ks, ra, ca] ∧ own_KR Z h n0 r0 r cc ks st ra ca (2 : Int32) (en + 1) x0 1 x2) 0 0 T19 (mkF m 226 #[.val (.ref r0), .val (.int (-1 : Int32)), .val (.long q2), .second, .val (.ref r4), .val (.int (0 : Int32)), .val (.int (1 : Int32)), .val (.ref ra), .val (.int (1 : Int32)), .unset] [])
  refine o_aload G19 d5_226 (pc' := 228) rfl rfl rfl ?_
  refine o_iconst G19 d5_228 (pc' := 229) rfl (v := (0 : Int32)) rfl ?_
  refine o_aload G19 d5_229 (pc' := 231) rfl rfl rfl ?_
  refine o_iload G19 d5_231 (pc' := 233) rfl rfl ?_
  refine o_aloadN G19 d5_233 (pc' := 234) rfl rfl rfl ?_
  refine o_getF G19 (host := "") (Or.inl (hw _ (List.mem_of_getElem? (i := 11) rfl))) Via.refl F_stride_r0 d5_234 (pc' := 237) rfl ?_
  intro T20 G20
  refine o_imul G20 d5_237 (pc' := 238) rfl (v := (4 : Int32)) (by decide) ?_
  refine o_iconst G20 d5_238 (pc' := 239) rfl (v := (3 : Int32)) rfl ?_
  refine o_iadd G20 d5_239 (pc' := 240) rfl (v := (7 : Int32)) (by decide) ?_
  refine o_aloadN G20 d5_240 (pc' := 241) rfl rfl rfl ?_
  refine o_getF G20 (host := "") (Or.inl (hw _ (List.mem_of_getElem? (i := 9) rfl))) Via.refl F_columns_r0 d5_241 (pc' := 244) rfl ?_
  intro T21 G21
  refine o_acopy G21 (S := 0) (D := 7) (L := 1) (rest := []) A_r4 A_ra (by intro i _; first | rfl | (simp only [o_set]; (repeat' split) <;> rfl)) (by intro i _; first | rfl | (simp only [o_set]; (repeat' split) <;> rfl)) (by decide) (by decide) rfl rfl rfl rfl (by decide) (by decide) (hw _ (List.mem_of_getElem? (i := 34) rfl)) (hw _ (List.mem_of_getElem? (i := 37) rfl)) (hw _ (List.mem_of_getElem? (i := 35) rfl)) (hw _ (List.mem_of_getElem? (i := 36) rfl)) (by omega) rfl d5_244 (pc' := 247) rfl (by decide) (W := 0) (Nat.le_of_eq rfl) (by decide) ?_
  intro T22 h22 c22 G22 K22 A22 Q22
  replace K := K.trans K22 (allS (Or.inl (List.mem_of_getElem? (i := 2) rfl)) all0)
  replace E_r0 := E_r0.keep K22
  replace F_columns_r0 := F_columns_r0.keep K22 (ninS (o_ne (by omega)) nin0)
  replace F_stride_r0 := F_stride_r0.keep K22 (ninS (o_ne (by omega)) nin0)
  replace F_runs_r0 := F_runs_r0.keep K22 (ninS (o_ne (by omega)) nin0)
  replace F_counts_r0 := F_counts_r0.keep K22 (ninS (o_ne (by omega)) nin0)
  replace F_runKeys_r0 := F_runKeys_r0.keep K22 (ninS (o_ne (by omega)) nin0)
  replace F_runStarts_r0 := F_runStarts_r0.keep K22 (ninS (o_ne (by omega)) nin0)
  replace F_runCount_r0 := F_runCount_r0.keep K22 (ninS (o_ne (by omega)) nin0)
  replace F_entries_r0 := F_entries_r0.keep K22 (ninS (o_ne (by omega)) nin0)
  replace A_r := A_r.keep K22 (ninS (o_ne (by omega)) nin0)
  replace A_c := A_c.keep K22 (ninS (o_ne (by omega)) nin0)
  replace A_ks := A_ks.keep K22 (ninS (o_ne (by omega)) nin0)
  replace A_st := A_st.keep K22 (ninS (o_ne (by omega)) nin0)
  replace A_r4 := A_r4.keep K22 (ninS hu2 nin0)
  replace A_ca := A_ca.keep K22 (ninS (Ne.symm (o_ne (by omega))) nin0)
  have A_ra := A22
  refine o_iload G22 d5_247 (pc' := 249) rfl rfl ?_
  refine o_iconst G22 d5_249 (pc' := 250) rfl (v := (1 : Int32)) rfl ?_
  refine o_iadd G22 d5_250 (pc' := 251) rfl (v := (1 : Int32)) (by decide) ?_
  refine o_istore G22 d5_251 (pc' := 253) rfl (l' := #[.val (.ref r0), .val (.int (-1 : Int32)), .val (.long q2), .second, .val (.ref r4), .val (.int (0 : Int32)), .val (.int (1 : Int32)), .val (.ref ra), .val (.int (1 : Int32)), .val (.int (1 : Int32))]) rfl ?_
  refine o_iload G22 d5_253 (pc' := 255) rfl rfl ?_
  refine o_aloadN G22 d5_255 (pc' := 256) rfl rfl rfl ?_
  refine o_getF G22 (host := "") (Or.inl (hw _ (List.mem_of_getElem? (i := 28) rfl))) Via.refl F_runCount_r0 d5_256 (pc' := 259) rfl ?_
  intro T23 G23
  refine o_icmp_ge G23 d5_259 (by decide) (pcT := 279) (by decide) (pc' := 262) rfl (fun _ => ?_) (fun q => absurd q (by decide))
  refine o_aloadN G23 d5_279 (pc' := 280) rfl rfl rfl ?_
  refine o_dup G23 d5_280 (pc' := 281) rfl rfl ?_
  refine o_getF G23 (host := "") (Or.inl (hw _ (List.mem_of_getElem? (i := 57) rfl))) Via.refl F_entries_r0 d5_281 (pc' := 284) rfl ?_
  intro T24 G24
  refine o_iconst G24 d5_284 (pc' := 285) rfl (v := (1 : Int32)) rfl ?_
  obtain ⟨v25, e25⟩ : ∃ z, en + (1 : Int32) = z := ⟨_, rfl⟩
  refine o_iadd G24 d5_285 (pc' := 286) rfl e25 ?_
  refine o_putF G24 (host := "") (Or.inl (hw _ (List.mem_of_getElem? (i := 57) rfl))) Via.refl F_entries_r0 E_r0 (Or.inl (hw _ (List.mem_of_getElem? (i := 58) rfl))) (hw _ (List.mem_of_getElem? (i := 1) rfl)) (ty := .int) (by decide) rfl rfl (by omega) d5_286 (pc' := 289) rfl ?_
  intro T26 h26 G26 W26
  replace K := K.wr W26 (Or.inl (List.mem_of_getElem? (i := 0) rfl))
  replace E_r0 := E_r0.wr W26
  replace F_columns_r0 := F_columns_r0.other W26 (Or.inr (slot_ne (Or.inr (hw _ (List.mem_of_getElem? (i := 10) rfl))) (Or.inl (hw _ (List.mem_of_getElem? (i := 58) rfl))) (by decide) (t := .int) (t' := .int) (by decide) (by decide)))
  replace F_stride_r0 := F_stride_r0.other W26 (Or.inr (slot_ne (Or.inr (hw _ (List.mem_of_getElem? (i := 12) rfl))) (Or.inl (hw _ (List.mem_of_getElem? (i := 58) rfl))) (by decide) (t := .int) (t' := .int) (by decide) (by decide)))
  replace F_runs_r0 := F_runs_r0.other W26 (Or.inr (slot_ne (Or.inl (hw _ (List.mem_of_getElem? (i := 16) rfl))) (Or.inl (hw _ (List.mem_of_getElem? (i := 58) rfl))) (by decide) (t := (.array (.array .int))) (t' := .int) (by decide) (by decide)))
  replace F_counts_r0 := F_counts_r0.other W26 (Or.inr (slot_ne (Or.inl (hw _ (List.mem_of_getElem? (i := 18) rfl))) (Or.inl (hw _ (List.mem_of_getElem? (i := 58) rfl))) (by decide) (t := (.array (.array .int))) (t' := .int) (by decide) (by decide)))
  replace F_runKeys_r0 := F_runKeys_r0.other W26 (Or.inr (slot_ne (Or.inl (hw _ (List.mem_of_getElem? (i := 21) rfl))) (Or.inl (hw _ (List.mem_of_getElem? (i := 58) rfl))) (by decide) (t := (.array .int)) (t' := .int) (by decide) (by decide)))
  replace F_runStarts_r0 := F_runStarts_r0.other W26 (Or.inr (slot_ne (Or.inl (hw _ (List.mem_of_getElem? (i := 23) rfl))) (Or.inl (hw _ (List.mem_of_getElem? (i := 58) rfl))) (by decide) (t := (.array .int)) (t' := .int) (by decide) (by decide)))
  replace F_runCount_r0 := F_runCount_r0.other W26 (Or.inr (slot_ne (Or.inl (hw _ (List.mem_of_getElem? (i := 29) rfl))) (Or.inl (hw _ (List.mem_of_getElem? (i := 58) rfl))) (by decide) (t := .int) (t' := .int) (by decide) (by decide)))
  replace F_entries_r0 := F_entries_r0.same W26
  replace A_r := A_r.other W26 (Ne.symm (o_ne (by omega)))
  replace A_c := A_c.other W26 (Ne.symm (o_ne (by omega)))
  replace A_ks := A_ks.other W26 (Ne.symm (o_ne (by omega)))
  replace A_st := A_st.other W26 (Ne.symm (o_ne (by omega)))
  replace A_r4 := A_r4.other W26 hu0
  replace A_ca := A_ca.other W26 (Ne.symm (o_ne (by omega)))
  replace A_ra := A_ra.other W26 (Ne.symm (o_ne (by omega)))
  refine o_iload G26 d5_289 (pc' := 291) rfl rfl ?_
  subst e25
  exact o_ireturn G26 d5_291 ⟨rfl, K, hlt, E_r0, F_columns_r0, F_stride_r0, F_runs_r0, F_counts_r0, F_runKeys_r0, F_runStarts_r0, F_runCount_r0, F_entries_r0, A_r, A_c, (A_ks.congr (by intro j hj; simp only [own_k, o_set]; (repeat' split) <;> rfl)), ⟨_, A_st⟩, ⟨own_iv c22, A_ra.congr (by intro j hj; simp only [own_iv]; rw [Q22 j hj]; (repeat' split) <;> simp_all [o_set])⟩, (A_ca.congr (by intro j hj; match j with | 0 => rfl | 1 => rfl | 2 => rfl | j + 3 => simp [o_set, own_c3]))⟩ (by decide) (by decide)
set_option maxRecDepth 65536 in
set_option maxHeartbeats 40000000 in
theorem rm5_2 {l : Launch} {Z : State} {a0 : Array Value} (hw : ∀ d ∈ tables_1, d.before a0 Z = true) (r0 : Addr) (q2 : Int64) (r4 : Addr) (h0 : Heap) (n0 : Nat) (hz : n0 ≤ h0.size) (r cc ks st ra ca : Addr) (en x0 x1 x2 : Int32) (KR : own_KR Z h0 n0 r0 r cc ks st ra ca (2 : Int32) en x0 x1 x2) (hu0 : r4 ≠ r0) (hu1 : r4 ≠ ks) (hu2 : r4 ≠ ra) (hu3 : r4 ≠ ca) (A_r4 : OArr Z h0 r4 .int 1 (fun _ => .int (0 : Int32))) :
    OMet l Z (⟨"com/example/keyfold/keyfold/KeyRuns", "insert", "(IJ[I)I"⟩ : MethodName) prog_81_method_17_code 10 (some .int) ({ frames := 2, cells := 0, slots := 0, locals := 30 } : Room) #[(.ref r0), (.int (-1 : Int32)), (.long q2), (.ref r4)] h0 n0 ({ frames := 2, cells := 0, slots := 0, locals := 30 } : Room).cells ({ frames := 2, cells := 0, slots := 0, locals := 30 } : Room).slots (fun v h => v = some (.int (2 : Int32)) ∧ Keep h0 h [r0, ks, ra, ca] ∧ own_KR Z h n0 r0 r cc ks st ra ca (3 : Int32) (en + 1) x0 x1 1) := by
  refine o_body (plainFor_of_name pn_5) hz (fun m => ef_5 m r0 (-1 : Int32) q2 r4) ?_
  intro p e s m below meth c s₁ G0
  have K : Keep h0 h0 [r0, ks, ra, ca] := Keep.refl _ _
  obtain ⟨hlt, E_r0, F_columns_r0, F_stride_r0, F_runs_r0, F_counts_r0, F_runKeys_r0, F_runStarts_r0, F_runCount_r0, F_entries_r0, A_r, A_c, A_ks, ⟨fst, A_st⟩, ⟨fra, A_ra⟩, A_ca⟩ := KR
  refine o_aloadN G0 d5_0 (pc' := 1) rfl rfl rfl ?_
  refine o_getF G0 (host := "") (Or.inl (hw _ (List.mem_of_getElem? (i := 28) rfl))) Via.refl F_runCount_r0 d5_1 (pc' := 4) rfl ?_
  intro T1 G1
  refine o_iconst G1 d5_4 (pc' := 5) rfl (v := (1 : Int32)) rfl ?_
  refine o_isub G1 d5_5 (pc' := 6) rfl (v := (0 : Int32)) (by decide) ?_
  refine o_istore G1 d5_6 (pc' := 8) rfl (l' := #[.val (.ref r0), .val (.int (-1 : Int32)), .val (.long q2), .second, .val (.ref r4), .val (.int (0 : Int32)), .unset, .unset, .unset, .unset]) rfl ?_
  refine o_aloadN G1 d5_8 (pc' := 9) rfl rfl rfl ?_
  refine o_getF G1 (host := "") (Or.inl (hw _ (List.mem_of_getElem? (i := 20) rfl))) Via.refl F_runKeys_r0 d5_9 (pc' := 12) rfl ?_
  intro T2 G2
  refine o_iload G2 d5_12 (pc' := 14) rfl rfl ?_
  refine o_iaload G2 A_ks (i := 0) rfl (by decide) (v := (.int (2 : Int32))) rfl d5_14 (pc' := 15) rfl ?_
  refine o_istore G2 d5_15 (pc' := 17) rfl (l' := #[.val (.ref r0), .val (.int (-1 : Int32)), .val (.long q2), .second, .val (.ref r4), .val (.int (0 : Int32)), .val (.int (2 : Int32)), .unset, .unset, .unset]) rfl ?_
  refine o_iloadN G2 d5_17 (pc' := 18) rfl rfl ?_
  refine o_iconst G2 d5_18 (pc' := 19) rfl (v := (-1 : Int32)) rfl ?_
  refine o_icmp_eq G2 d5_19 (by decide) (pcT := 37) (by decide) (pc' := 22) rfl (fun _ => ?_) (fun q => absurd (by decide) q)
  refine o_iload G2 d5_37 (pc' := 39) rfl rfl ?_
  refine o_bipush G2 d5_39 (pc' := 41) rfl (v := (48 : Int32)) rfl ?_
  refine o_icmp_lt G2 d5_41 (by decide) (pcT := 63) (by decide) (pc' := 44) rfl (fun _ => ?_) (fun q => absurd (by decide) q)
  refine o_aloadN G2 d5_63 (pc' := 64) rfl rfl rfl ?_
  refine o_getF G2 (host := "") (Or.inl (hw _ (List.mem_of_getElem? (i := 20) rfl))) Via.refl F_runKeys_r0 d5_64 (pc' := 67) rfl ?_
  intro T3 G3
  refine o_iload G3 d5_67 (pc' := 69) rfl rfl ?_
  refine o_iaload G3 A_ks (i := 0) rfl (by decide) (v := (.int (2 : Int32))) rfl d5_69 (pc' := 70) rfl ?_
  refine o_bipush G3 d5_70 (pc' := 72) rfl (v := (64 : Int32)) rfl ?_
  refine o_icmp_ne G3 d5_72 (by decide) (pcT := 108) (by decide) (pc' := 75) rfl (fun _ => ?_) (fun q => absurd q (by decide))
  refine o_aloadN G3 d5_108 (pc' := 109) rfl rfl rfl ?_
  refine o_getF G3 (host := "") (Or.inl (hw _ (List.mem_of_getElem? (i := 15) rfl))) Via.refl F_runs_r0 d5_109 (pc' := 112) rfl ?_
  intro T4 G4
  refine o_iload G4 d5_112 (pc' := 114) rfl rfl ?_
  refine o_aaload G4 rfl A_r (i := 0) rfl (by decide) (v := (.ref ra)) rfl d5_114 (pc' := 115) rfl ?_
  refine o_astore G4 d5_115 (pc' := 117) rfl rfl (l' := #[.val (.ref r0), .val (.int (-1 : Int32)), .val (.long q2), .second, .val (.ref r4), .val (.int (0 : Int32)), .val (.int (2 : Int32)), .val (.ref ra), .unset, .unset]) rfl ?_
  refine o_aload G4 d5_117 (pc' := 119) rfl rfl rfl ?_
  refine o_iload G4 d5_119 (pc' := 121) rfl rfl ?_
  refine o_aloadN G4 d5_121 (pc' := 122) rfl rfl rfl ?_
  refine o_getF G4 (host := "") (Or.inl (hw _ (List.mem_of_getElem? (i := 11) rfl))) Via.refl F_stride_r0 d5_122 (pc' := 125) rfl ?_
  intro T5 G5
  refine o_imul G5 d5_125 (pc' := 126) rfl (v := (8 : Int32)) (by decide) ?_
  refine o_aload G5 d5_126 (pc' := 128) rfl rfl rfl ?_
  refine o_iload G5 d5_128 (pc' := 130) rfl rfl ?_
  refine o_iconst G5 d5_130 (pc' := 131) rfl (v := (1 : Int32)) rfl ?_
  refine o_iadd G5 d5_131 (pc' := 132) rfl (v := (3 : Int32)) (by decide) ?_
  refine o_aloadN G5 d5_132 (pc' := 133) rfl rfl rfl ?_
  refine o_getF G5 (host := "") (Or.inl (hw _ (List.mem_of_getElem? (i := 11) rfl))) Via.refl F_stride_r0 d5_133 (pc' := 136) rfl ?_
  intro T6 G6
  refine o_imul G6 d5_136 (pc' := 137) rfl (v := (12 : Int32)) (by decide) ?_
  refine o_aloadN G6 d5_137 (pc' := 138) rfl rfl rfl ?_
  refine o_getF G6 (host := "") (Or.inl (hw _ (List.mem_of_getElem? (i := 20) rfl))) Via.refl F_runKeys_r0 d5_138 (pc' := 141) rfl ?_
  intro T7 G7
  refine o_iload G7 d5_141 (pc' := 143) rfl rfl ?_
  refine o_iaload G7 A_ks (i := 0) rfl (by decide) (v := (.int (2 : Int32))) rfl d5_143 (pc' := 144) rfl ?_
  refine o_iload G7 d5_144 (pc' := 146) rfl rfl ?_
  refine o_isub G7 d5_146 (pc' := 147) rfl (v := (0 : Int32)) (by decide) ?_
  refine o_aloadN G7 d5_147 (pc' := 148) rfl rfl rfl ?_
  refine o_getF G7 (host := "") (Or.inl (hw _ (List.mem_of_getElem? (i := 11) rfl))) Via.refl F_stride_r0 d5_148 (pc' := 151) rfl ?_
  intro T8 G8
  refine o_imul G8 d5_151 (pc' := 152) rfl (v := (0 : Int32)) (by decide) ?_
  refine o_acopy0 G8 (S := 8) (D := 12) (rest := []) A_ra A_ra (by intro i _; first | rfl | (simp only [o_set]; (repeat' split) <;> rfl)) (by intro i _; first | rfl | (simp only [o_set]; (repeat' split) <;> rfl)) (by decide) (by decide) (Or.inl ⟨rfl, rfl⟩) rfl rfl rfl (by decide) (by decide) (hw _ (List.mem_of_getElem? (i := 34) rfl)) (hw _ (List.mem_of_getElem? (i := 37) rfl)) (hw _ (List.mem_of_getElem? (i := 35) rfl)) (hw _ (List.mem_of_getElem? (i := 36) rfl)) (by omega) rfl d5_152 (pc' := 155) rfl (by decide) (W := 0) (Nat.le_of_eq rfl) (by decide) ?_
  intro T9 h9 G9 K9 A9
  replace K := K.trans K9 (allS (Or.inl (List.mem_of_getElem? (i := 2) rfl)) all0)
  replace E_r0 := E_r0.keep K9
  replace F_columns_r0 := F_columns_r0.keep K9 (ninS (o_ne (by omega)) nin0)
  replace F_stride_r0 := F_stride_r0.keep K9 (ninS (o_ne (by omega)) nin0)
  replace F_runs_r0 := F_runs_r0.keep K9 (ninS (o_ne (by omega)) nin0)
  replace F_counts_r0 := F_counts_r0.keep K9 (ninS (o_ne (by omega)) nin0)
  replace F_runKeys_r0 := F_runKeys_r0.keep K9 (ninS (o_ne (by omega)) nin0)
  replace F_runStarts_r0 := F_runStarts_r0.keep K9 (ninS (o_ne (by omega)) nin0)
  replace F_runCount_r0 := F_runCount_r0.keep K9 (ninS (o_ne (by omega)) nin0)
  replace F_entries_r0 := F_entries_r0.keep K9 (ninS (o_ne (by omega)) nin0)
  replace A_r := A_r.keep K9 (ninS (o_ne (by omega)) nin0)
  replace A_c := A_c.keep K9 (ninS (o_ne (by omega)) nin0)
  replace A_ks := A_ks.keep K9 (ninS (o_ne (by omega)) nin0)
  replace A_st := A_st.keep K9 (ninS (o_ne (by omega)) nin0)
  replace A_ca := A_ca.keep K9 (ninS (Ne.symm (o_ne (by omega))) nin0)
  replace A_r4 := A_r4.keep K9 (ninS hu2 nin0)
  have A_ra := A9
  refine o_aloadN G9 d5_155 (pc' := 156) rfl rfl rfl ?_
  refine o_getF G9 (host := "") (Or.inl (hw _ (List.mem_of_getElem? (i := 17) rfl))) Via.refl F_counts_r0 d5_156 (pc' := 159) rfl ?_
  intro T10 G10
  refine o_iload G10 d5_159 (pc' := 161) rfl rfl ?_
  refine o_aaload G10 rfl A_c (i := 0) rfl (by decide) (v := (.ref ca)) rfl d5_161 (pc' := 162) rfl ?_
  refine o_iload G10 d5_162 (pc' := 164) rfl rfl ?_
  refine o_aloadN G10 d5_164 (pc' := 165) rfl rfl rfl ?_
  refine o_getF G10 (host := "") (Or.inl (hw _ (List.mem_of_getElem? (i := 17) rfl))) Via.refl F_counts_r0 d5_165 (pc' := 168) rfl ?_
  intro T11 G11
  refine o_iload G11 d5_168 (pc' := 170) rfl rfl ?_
  refine o_aaload G11 rfl A_c (i := 0) rfl (by decide) (v := (.ref ca)) rfl d5_170 (pc' := 171) rfl ?_
  refine o_iload G11 d5_171 (pc' := 173) rfl rfl ?_
  refine o_iconst G11 d5_173 (pc' := 174) rfl (v := (1 : Int32)) rfl ?_
  refine o_iadd G11 d5_174 (pc' := 175) rfl (v := (3 : Int32)) (by decide) ?_
  refine o_aloadN G11 d5_175 (pc' := 176) rfl rfl rfl ?_
  refine o_getF G11 (host := "") (Or.inl (hw _ (List.mem_of_getElem? (i := 20) rfl))) Via.refl F_runKeys_r0 d5_176 (pc' := 179) rfl ?_
  intro T12 G12
  refine o_iload G12 d5_179 (pc' := 181) rfl rfl ?_
  refine o_iaload G12 A_ks (i := 0) rfl (by decide) (v := (.int (2 : Int32))) rfl d5_181 (pc' := 182) rfl ?_
  refine o_iload G12 d5_182 (pc' := 184) rfl rfl ?_
  refine o_isub G12 d5_184 (pc' := 185) rfl (v := (0 : Int32)) (by decide) ?_
  refine o_acopy0 G12 (S := 2) (D := 3) (rest := []) A_ca A_ca (by intro i _; first | rfl | (simp only [o_set]; (repeat' split) <;> rfl)) (by intro i _; first | rfl | (simp only [o_set]; (repeat' split) <;> rfl)) (by decide) (by decide) (Or.inl ⟨rfl, rfl⟩) rfl rfl rfl (by decide) (by decide) (hw _ (List.mem_of_getElem? (i := 34) rfl)) (hw _ (List.mem_of_getElem? (i := 37) rfl)) (hw _ (List.mem_of_getElem? (i := 35) rfl)) (hw _ (List.mem_of_getElem? (i := 36) rfl)) (by omega) rfl d5_185 (pc' := 188) rfl (by decide) (W := 0) (Nat.le_of_eq rfl) (by decide) ?_
  intro T13 h13 G13 K13 A13
  replace K := K.trans K13 (allS (Or.inl (List.mem_of_getElem? (i := 3) rfl)) all0)
  replace E_r0 := E_r0.keep K13
  replace F_columns_r0 := F_columns_r0.keep K13 (ninS (o_ne (by omega)) nin0)
  replace F_stride_r0 := F_stride_r0.keep K13 (ninS (o_ne (by omega)) nin0)
  replace F_runs_r0 := F_runs_r0.keep K13 (ninS (o_ne (by omega)) nin0)
  replace F_counts_r0 := F_counts_r0.keep K13 (ninS (o_ne (by omega)) nin0)
  replace F_runKeys_r0 := F_runKeys_r0.keep K13 (ninS (o_ne (by omega)) nin0)
  replace F_runStarts_r0 := F_runStarts_r0.keep K13 (ninS (o_ne (by omega)) nin0)
  replace F_runCount_r0 := F_runCount_r0.keep K13 (ninS (o_ne (by omega)) nin0)
  replace F_entries_r0 := F_entries_r0.keep K13 (ninS (o_ne (by omega)) nin0)
  replace A_r := A_r.keep K13 (ninS (o_ne (by omega)) nin0)
  replace A_c := A_c.keep K13 (ninS (o_ne (by omega)) nin0)
  replace A_ks := A_ks.keep K13 (ninS (o_ne (by omega)) nin0)
  replace A_st := A_st.keep K13 (ninS (o_ne (by omega)) nin0)
  replace A_r4 := A_r4.keep K13 (ninS hu3 nin0)
  replace A_ra := A_ra.keep K13 (ninS (o_ne (by omega)) nin0)
  have A_ca := A13
  refine o_aloadN G13 d5_188 (pc' := 189) rfl rfl rfl ?_
  refine o_getF G13 (host := "") (Or.inl (hw _ (List.mem_of_getElem? (i := 20) rfl))) Via.refl F_runKeys_r0 d5_189 (pc' := 192) rfl ?_
  intro T14 G14
  refine o_iload G14 d5_192 (pc' := 194) rfl rfl ?_
  refine o_dup2 G14 rfl rfl d5_194 (pc' := 195) rfl ?_
  refine o_iaload G14 A_ks (i := 0) rfl (by decide) (v := (.int (2 : Int32))) rfl d5_195 (pc' := 196) rfl ?_
  refine o_iconst G14 d5_196 (pc' := 197) rfl (v := (1 : Int32)) rfl ?_
  refine o_iadd G14 d5_197 (pc' := 198) rfl (v := (3 : Int32)) (by decide) ?_
  refine o_iastore G14 A_ks (by omega) (i := 0) rfl (by decide) d5_198 (pc' := 199) rfl ?_
  intro T15 h15 G15 W15 A15
  replace K := K.wr W15 (Or.inl (List.mem_of_getElem? (i := 1) rfl))
  replace E_r0 := E_r0.wr W15
  replace F_columns_r0 := F_columns_r0.other W15 (Or.inl (o_ne (by omega)))
  replace F_stride_r0 := F_stride_r0.other W15 (Or.inl (o_ne (by omega)))
  replace F_runs_r0 := F_runs_r0.other W15 (Or.inl (o_ne (by omega)))
  replace F_counts_r0 := F_counts_r0.other W15 (Or.inl (o_ne (by omega)))
  replace F_runKeys_r0 := F_runKeys_r0.other W15 (Or.inl (o_ne (by omega)))
  replace F_runStarts_r0 := F_runStarts_r0.other W15 (Or.inl (o_ne (by omega)))
  replace F_runCount_r0 := F_runCount_r0.other W15 (Or.inl (o_ne (by omega)))
  replace F_entries_r0 := F_entries_r0.other W15 (Or.inl (o_ne (by omega)))
  replace A_r := A_r.other W15 (o_ne (by omega))
  replace A_c := A_c.other W15 (o_ne (by omega))
  replace A_st := A_st.other W15 (Ne.symm (o_ne (by omega)))
  replace A_r4 := A_r4.other W15 hu1
  replace A_ra := A_ra.other W15 (Ne.symm (o_ne (by omega)))
  replace A_ca := A_ca.other W15 (Ne.symm (o_ne (by omega)))
  replace A_ks := A15
  refine o_iload G15 d5_199 (pc' := 201) rfl rfl ?_
  refine o_iload G15 d5_201 (pc' := 203) rfl rfl ?_
  refine o_callP G15 (z := (⟨"com/example/keyfold/keyfold/KeyRuns", "place", "(II)I"⟩ : MethodName)) (r := .int (2 : Int32)) (argsL := [(.int (0 : Int32)), (.int (2 : Int32))]) (rest := []) (W := 0) (hw _ (List.mem_of_getElem? (i := 45) rfl)) (hw _ (List.mem_of_getElem? (i := 46) rfl)) d5_203 (by decide) (hw _ (List.mem_of_getElem? (i := 2) rfl)) (hw _ (List.mem_of_getElem? (i := 47) rfl)) (by rw [show (2 : Int32) = f_6 (0 : Int32) (2 : Int32) by decide]; exact rm6 hw (0 : Int32) (2 : Int32) h15 n0 G15.sz) (by decide) (by decide) rfl (lenOf pd_3 rfl) rfl (Nat.le_of_eq rfl) (pc' := 206) rfl (by decide) (by decide) ?_
  intro T16 G16
  refine o_istore G16 d5_206 (pc' := 208) rfl (l' := #[.val (.ref r0), .val (.int (-1 : Int32)), .val (.long q2), .second, .val (.ref r4), .val (.int (0 : Int32)), .val (.int (2 : Int32)), .val (.ref ra), .val (.int (2 : Int32)), .unset]) rfl ?_
  refine o_aloadN G16 d5_208 (pc' := 209) rfl rfl rfl ?_
  refine o_getF G16 (host := "") (Or.inl (hw _ (List.mem_of_getElem? (i := 17) rfl))) Via.refl F_counts_r0 d5_209 (pc' := 212) rfl ?_
  intro T17 G17
  refine o_iload G17 d5_212 (pc' := 214) rfl rfl ?_
  refine o_aaload G17 rfl A_c (i := 0) rfl (by decide) (v := (.ref ca)) rfl d5_214 (pc' := 215) rfl ?_
  refine o_iload G17 d5_215 (pc' := 217) rfl rfl ?_
  refine o_iconst G17 d5_217 (pc' := 218) rfl (v := (1 : Int32)) rfl ?_
  refine o_iastore G17 A_ca (by omega) (i := 2) rfl (by decide) d5_218 (pc' := 219) rfl ?_
  intro T18 h18 G18 W18 A18
  replace K := K.wr W18 (Or.inl (List.mem_of_getElem? (i := 3) rfl))
  replace E_r0 := E_r0.wr W18
  replace F_columns_r0 := F_columns_r0.other W18 (Or.inl (o_ne (by omega)))
  replace F_stride_r0 := F_stride_r0.other W18 (Or.inl (o_ne (by omega)))
  replace F_runs_r0 := F_runs_r0.other W18 (Or.inl (o_ne (by omega)))
  replace F_counts_r0 := F_counts_r0.other W18 (Or.inl (o_ne (by omega)))
  replace F_runKeys_r0 := F_runKeys_r0.other W18 (Or.inl (o_ne (by omega)))
  replace F_runStarts_r0 := F_runStarts_r0.other W18 (Or.inl (o_ne (by omega)))
  replace F_runCount_r0 := F_runCount_r0.other W18 (Or.inl (o_ne (by omega)))
  replace F_entries_r0 := F_entries_r0.other W18 (Or.inl (o_ne (by omega)))
  replace A_r := A_r.other W18 (o_ne (by omega))
  replace A_c := A_c.other W18 (o_ne (by omega))
  replace A_ks := A_ks.other W18 (o_ne (by omega))
  replace A_st := A_st.other W18 (o_ne (by omega))
  replace A_r4 := A_r4.other W18 hu3
  replace A_ra := A_ra.other W18 (o_ne (by omega))
  replace A_ca := A18
  refine o_aloadN G18 d5_219 (pc' := 220) rfl rfl rfl ?_
  refine o_iload G18 d5_220 (pc' := 222) rfl rfl ?_
  refine o_lloadN G18 d5_222 (pc' := 223) rfl rfl ?_
  refine o_callV G18 (z := (⟨"com/example/keyfold/keyfold/KeyRuns", "setFirstRowId", "(IJ)V"⟩ : MethodName)) (argsL := [(.int (2 : Int32)), (.long q2)]) (rest := []) (W := 0) E_r0 (hw _ (List.mem_of_getElem? (i := 48) rfl)) (hw _ (List.mem_of_getElem? (i := 50) rfl)) (hw _ (List.mem_of_getElem? (i := 49) rfl)) (hw _ (List.mem_of_getElem? (i := 51) rfl)) d5_223 (by decide) (hw _ (List.mem_of_getElem? (i := 2) rfl)) (hw _ (List.mem_of_getElem? (i := 52) rfl)) (rm7_2 hw r0 q2 h18 n0 G18.sz r ra (by omega) (o_ne (by omega)) (o_ne (by omega)) E_r0 F_runs_r0 F_stride_r0 A_r _ A_ra) (by decide) (by decide) rfl (lenOf pd_4 rfl) rfl (Nat.le_of_eq rfl) (pc' := 226) rfl (by decide) (by decide) ?_
  rintro _ T19 h19 G19 ⟨rfl, K19, fra19, A19⟩
  replace K := K.trans K19 (allS (Or.inl (List.mem_of_getElem? (i := 2) rfl)) all0)
  replace E_r0 := E_r0.keep K19
  replace F_columns_r0 := F_columns_r0.keep K19 (ninS (o_ne (by omega)) nin0)
  replace F_stride_r0 := F_stride_r0.keep K19 (ninS (o_ne (by omega)) nin0)
  replace F_runs_r0 := F_runs_r0.keep K19 (ninS (o_ne (by omega)) nin0)
  replace F_counts_r0 := F_counts_r0.keep K19 (ninS (o_ne (by omega)) nin0)
  replace F_runKeys_r0 := F_runKeys_r0.keep K19 (ninS (o_ne (by omega)) nin0)
  replace F_runStarts_r0 := F_runStarts_r0.keep K19 (ninS (o_ne (by omega)) nin0)
  replace F_runCount_r0 := F_runCount_r0.keep K19 (ninS (o_ne (by omega)) nin0)
  replace F_entries_r0 := F_entries_r0.keep K19 (ninS (o_ne (by omega)) nin0)
  replace A_r := A_r.keep K19 (ninS (o_ne (by omega)) nin0)
  replace A_c := A_c.keep K19 (ninS (o_ne (by omega)) nin0)
  replace A_ks := A_ks.keep K19 (ninS (o_ne (by omega)) nin0)
  replace A_st := A_st.keep K19 (ninS (o_ne (by omega)) nin0)
  replace A_r4 := A_r4.keep K19 (ninS hu2 nin0)
  replace A_ca := A_ca.keep K19 (ninS (Ne.symm (o_ne (by omega))) nin0)
  have A_ra := A19
  show OFin n0 p e below s (fun v h => v = some (.int (2 : Int32)) ∧ Keep h0 h [r0, ks, ra, ca] ∧ own_KR Z h n0 r0 r cc ks st ra ca (3 : Int32) (en + 1) x0 x1 1) 0 0 T19 (mkF m 226 #[.val (.ref r0), .val (.int (-1 : Int32)), .val (.long q2), .second, .val (.ref r4), .val (.int (0 : Int32)), .val (.int (2 : Int32)), .val (.ref ra), .val (.int (2 : Int32)), .unset] [])
  refine o_aload G19 d5_226 (pc' := 228) rfl rfl rfl ?_
  refine o_iconst G19 d5_228 (pc' := 229) rfl (v := (0 : Int32)) rfl ?_
  refine o_aload G19 d5_229 (pc' := 231) rfl rfl rfl ?_
  refine o_iload G19 d5_231 (pc' := 233) rfl rfl ?_
  refine o_aloadN G19 d5_233 (pc' := 234) rfl rfl rfl ?_
  refine o_getF G19 (host := "") (Or.inl (hw _ (List.mem_of_getElem? (i := 11) rfl))) Via.refl F_stride_r0 d5_234 (pc' := 237) rfl ?_
  intro T20 G20
  refine o_imul G20 d5_237 (pc' := 238) rfl (v := (8 : Int32)) (by decide) ?_
  refine o_iconst G20 d5_238 (pc' := 239) rfl (v := (3 : Int32)) rfl ?_
  refine o_iadd G20 d5_239 (pc' := 240) rfl (v := (11 : Int32)) (by decide) ?_
  refine o_aloadN G20 d5_240 (pc' := 241) rfl rfl rfl ?_
  refine o_getF G20 (host := "") (Or.inl (hw _ (List.mem_of_getElem? (i := 9) rfl))) Via.refl F_columns_r0 d5_241 (pc' := 244) rfl ?_
  intro T21 G21
  refine o_acopy G21 (S := 0) (D := 11) (L := 1) (rest := []) A_r4 A_ra (by intro i _; first | rfl | (simp only [o_set]; (repeat' split) <;> rfl)) (by intro i _; first | rfl | (simp only [o_set]; (repeat' split) <;> rfl)) (by decide) (by decide) rfl rfl rfl rfl (by decide) (by decide) (hw _ (List.mem_of_getElem? (i := 34) rfl)) (hw _ (List.mem_of_getElem? (i := 37) rfl)) (hw _ (List.mem_of_getElem? (i := 35) rfl)) (hw _ (List.mem_of_getElem? (i := 36) rfl)) (by omega) rfl d5_244 (pc' := 247) rfl (by decide) (W := 0) (Nat.le_of_eq rfl) (by decide) ?_
  intro T22 h22 c22 G22 K22 A22 Q22
  replace K := K.trans K22 (allS (Or.inl (List.mem_of_getElem? (i := 2) rfl)) all0)
  replace E_r0 := E_r0.keep K22
  replace F_columns_r0 := F_columns_r0.keep K22 (ninS (o_ne (by omega)) nin0)
  replace F_stride_r0 := F_stride_r0.keep K22 (ninS (o_ne (by omega)) nin0)
  replace F_runs_r0 := F_runs_r0.keep K22 (ninS (o_ne (by omega)) nin0)
  replace F_counts_r0 := F_counts_r0.keep K22 (ninS (o_ne (by omega)) nin0)
  replace F_runKeys_r0 := F_runKeys_r0.keep K22 (ninS (o_ne (by omega)) nin0)
  replace F_runStarts_r0 := F_runStarts_r0.keep K22 (ninS (o_ne (by omega)) nin0)
  replace F_runCount_r0 := F_runCount_r0.keep K22 (ninS (o_ne (by omega)) nin0)
  replace F_entries_r0 := F_entries_r0.keep K22 (ninS (o_ne (by omega)) nin0)
  replace A_r := A_r.keep K22 (ninS (o_ne (by omega)) nin0)
  replace A_c := A_c.keep K22 (ninS (o_ne (by omega)) nin0)
  replace A_ks := A_ks.keep K22 (ninS (o_ne (by omega)) nin0)
  replace A_st := A_st.keep K22 (ninS (o_ne (by omega)) nin0)
  replace A_r4 := A_r4.keep K22 (ninS hu2 nin0)
  replace A_ca := A_ca.keep K22 (ninS (Ne.symm (o_ne (by omega))) nin0)
  have A_ra := A22
  refine o_iload G22 d5_247 (pc' := 249) rfl rfl ?_
  refine o_iconst G22 d5_249 (pc' := 250) rfl (v := (1 : Int32)) rfl ?_
  refine o_iadd G22 d5_250 (pc' := 251) rfl (v := (1 : Int32)) (by decide) ?_
  refine o_istore G22 d5_251 (pc' := 253) rfl (l' := #[.val (.ref r0), .val (.int (-1 : Int32)), .val (.long q2), .second, .val (.ref r4), .val (.int (0 : Int32)), .val (.int (2 : Int32)), .val (.ref ra), .val (.int (2 : Int32)), .val (.int (1 : Int32))]) rfl ?_
  refine o_iload G22 d5_253 (pc' := 255) rfl rfl ?_
  refine o_aloadN G22 d5_255 (pc' := 256) rfl rfl rfl ?_
  refine o_getF G22 (host := "") (Or.inl (hw _ (List.mem_of_getElem? (i := 28) rfl))) Via.refl F_runCount_r0 d5_256 (pc' := 259) rfl ?_
  intro T23 G23
  refine o_icmp_ge G23 d5_259 (by decide) (pcT := 279) (by decide) (pc' := 262) rfl (fun _ => ?_) (fun q => absurd q (by decide))
  refine o_aloadN G23 d5_279 (pc' := 280) rfl rfl rfl ?_
  refine o_dup G23 d5_280 (pc' := 281) rfl rfl ?_
  refine o_getF G23 (host := "") (Or.inl (hw _ (List.mem_of_getElem? (i := 57) rfl))) Via.refl F_entries_r0 d5_281 (pc' := 284) rfl ?_
  intro T24 G24
  refine o_iconst G24 d5_284 (pc' := 285) rfl (v := (1 : Int32)) rfl ?_
  obtain ⟨v25, e25⟩ : ∃ z, en + (1 : Int32) = z := ⟨_, rfl⟩
  refine o_iadd G24 d5_285 (pc' := 286) rfl e25 ?_
  refine o_putF G24 (host := "") (Or.inl (hw _ (List.mem_of_getElem? (i := 57) rfl))) Via.refl F_entries_r0 E_r0 (Or.inl (hw _ (List.mem_of_getElem? (i := 58) rfl))) (hw _ (List.mem_of_getElem? (i := 1) rfl)) (ty := .int) (by decide) rfl rfl (by omega) d5_286 (pc' := 289) rfl ?_
  intro T26 h26 G26 W26
  replace K := K.wr W26 (Or.inl (List.mem_of_getElem? (i := 0) rfl))
  replace E_r0 := E_r0.wr W26
  replace F_columns_r0 := F_columns_r0.other W26 (Or.inr (slot_ne (Or.inr (hw _ (List.mem_of_getElem? (i := 10) rfl))) (Or.inl (hw _ (List.mem_of_getElem? (i := 58) rfl))) (by decide) (t := .int) (t' := .int) (by decide) (by decide)))
  replace F_stride_r0 := F_stride_r0.other W26 (Or.inr (slot_ne (Or.inr (hw _ (List.mem_of_getElem? (i := 12) rfl))) (Or.inl (hw _ (List.mem_of_getElem? (i := 58) rfl))) (by decide) (t := .int) (t' := .int) (by decide) (by decide)))
  replace F_runs_r0 := F_runs_r0.other W26 (Or.inr (slot_ne (Or.inl (hw _ (List.mem_of_getElem? (i := 16) rfl))) (Or.inl (hw _ (List.mem_of_getElem? (i := 58) rfl))) (by decide) (t := (.array (.array .int))) (t' := .int) (by decide) (by decide)))
  replace F_counts_r0 := F_counts_r0.other W26 (Or.inr (slot_ne (Or.inl (hw _ (List.mem_of_getElem? (i := 18) rfl))) (Or.inl (hw _ (List.mem_of_getElem? (i := 58) rfl))) (by decide) (t := (.array (.array .int))) (t' := .int) (by decide) (by decide)))
  replace F_runKeys_r0 := F_runKeys_r0.other W26 (Or.inr (slot_ne (Or.inl (hw _ (List.mem_of_getElem? (i := 21) rfl))) (Or.inl (hw _ (List.mem_of_getElem? (i := 58) rfl))) (by decide) (t := (.array .int)) (t' := .int) (by decide) (by decide)))
  replace F_runStarts_r0 := F_runStarts_r0.other W26 (Or.inr (slot_ne (Or.inl (hw _ (List.mem_of_getElem? (i := 23) rfl))) (Or.inl (hw _ (List.mem_of_getElem? (i := 58) rfl))) (by decide) (t := (.array .int)) (t' := .int) (by decide) (by decide)))
  replace F_runCount_r0 := F_runCount_r0.other W26 (Or.inr (slot_ne (Or.inl (hw _ (List.mem_of_getElem? (i := 29) rfl))) (Or.inl (hw _ (List.mem_of_getElem? (i := 58) rfl))) (by decide) (t := .int) (t' := .int) (by decide) (by decide)))
  replace F_entries_r0 := F_entries_r0.same W26
  replace A_r := A_r.other W26 (Ne.symm (o_ne (by omega)))
  replace A_c := A_c.other W26 (Ne.symm (o_ne (by omega)))
  replace A_ks := A_ks.other W26 (Ne.symm (o_ne (by omega)))
  replace A_st := A_st.other W26 (Ne.symm (o_ne (by omega)))
  replace A_r4 := A_r4.other W26 hu0
  replace A_ca := A_ca.other W26 (Ne.symm (o_ne (by omega)))
  replace A_ra := A_ra.other W26 (Ne.symm (o_ne (by omega)))
  refine o_iload G26 d5_289 (pc' := 291) rfl rfl ?_
  subst e25
  exact o_ireturn G26 d5_291 ⟨rfl, K, hlt, E_r0, F_columns_r0, F_stride_r0, F_runs_r0, F_counts_r0, F_runKeys_r0, F_runStarts_r0, F_runCount_r0, F_entries_r0, A_r, A_c, (A_ks.congr (by intro j hj; simp only [own_k, o_set]; (repeat' split) <;> rfl)), ⟨_, A_st⟩, ⟨own_iv c22, A_ra.congr (by intro j hj; simp only [own_iv]; rw [Q22 j hj]; (repeat' split) <;> simp_all [o_set])⟩, (A_ca.congr (by intro j hj; match j with | 0 => rfl | 1 => rfl | 2 => rfl | j + 3 => simp [o_set, own_c3]))⟩ (by decide) (by decide)
theorem d9_0 : decode prog_81_method_12_code 0 = .ok (.iload_n 1, 1) := by decide +kernel
theorem d9_1 : decode prog_81_method_12_code 1 = .ok (.bipush 6, 2) := by decide +kernel
theorem d9_3 : decode prog_81_method_12_code 3 = .ok (.iushr, 1) := by decide +kernel
theorem d9_4 : decode prog_81_method_12_code 4 = .ok (.istore_n 3, 1) := by decide +kernel
theorem d9_5 : decode prog_81_method_12_code 5 = .ok (.aload_n 0, 1) := by decide +kernel
theorem d9_6 : decode prog_81_method_12_code 6 = .ok (.getfield 22, 3) := by decide +kernel
theorem d9_9 : decode prog_81_method_12_code 9 = .ok (.iload_n 3, 1) := by decide +kernel
theorem d9_10 : decode prog_81_method_12_code 10 = .ok (.aaload, 1) := by decide +kernel
theorem d9_11 : decode prog_81_method_12_code 11 = .ok (.iload_n 1, 1) := by decide +kernel
theorem d9_12 : decode prog_81_method_12_code 12 = .ok (.bipush 63, 2) := by decide +kernel
theorem d9_14 : decode prog_81_method_12_code 14 = .ok (.iand, 1) := by decide +kernel
theorem d9_15 : decode prog_81_method_12_code 15 = .ok (.dup2, 1) := by decide +kernel
theorem d9_16 : decode prog_81_method_12_code 16 = .ok (.iaload, 1) := by decide +kernel
theorem d9_17 : decode prog_81_method_12_code 17 = .ok (.iload_n 2, 1) := by decide +kernel
theorem d9_18 : decode prog_81_method_12_code 18 = .ok (.iadd, 1) := by decide +kernel
theorem d9_19 : decode prog_81_method_12_code 19 = .ok (.iastore, 1) := by decide +kernel
theorem d9_20 : decode prog_81_method_12_code 20 = .ok (.iload_n 3, 1) := by decide +kernel
theorem d9_21 : decode prog_81_method_12_code 21 = .ok (.iconst 1, 1) := by decide +kernel
theorem d9_22 : decode prog_81_method_12_code 22 = .ok (.iadd, 1) := by decide +kernel
theorem d9_23 : decode prog_81_method_12_code 23 = .ok (.istore 4, 2) := by decide +kernel
theorem d9_25 : decode prog_81_method_12_code 25 = .ok (.iload 4, 2) := by decide +kernel
theorem d9_27 : decode prog_81_method_12_code 27 = .ok (.aload_n 0, 1) := by decide +kernel
theorem d9_28 : decode prog_81_method_12_code 28 = .ok (.getfield 38, 3) := by decide +kernel
theorem d9_31 : decode prog_81_method_12_code 31 = .ok (.if_icmp .ge 20, 3) := by decide +kernel
theorem d9_51 : decode prog_81_method_12_code 51 = .ok (.aload_n 0, 1) := by decide +kernel
theorem d9_52 : decode prog_81_method_12_code 52 = .ok (.dup, 1) := by decide +kernel
theorem d9_53 : decode prog_81_method_12_code 53 = .ok (.getfield 35, 3) := by decide +kernel
theorem d9_56 : decode prog_81_method_12_code 56 = .ok (.iload_n 2, 1) := by decide +kernel
theorem d9_57 : decode prog_81_method_12_code 57 = .ok (.iadd, 1) := by decide +kernel
theorem d9_58 : decode prog_81_method_12_code 58 = .ok (.putfield 35, 3) := by decide +kernel
theorem d9_61 : decode prog_81_method_12_code 61 = .ok (.return_, 1) := by decide +kernel
theorem pn_9 : plainName "com/example/keyfold/keyfold/KeyRuns" = true := by first | (simp [plainName, overriddenIn]; done) | decide +kernel
theorem ef_9 (m : MethodId) (r0 : Addr) (p1 : Int32) (p2 : Int32) : entryFrame m #[(.ref r0), (.int p1), (.int p2)] 5 = mkF m 0 #[.val (.ref r0), .val (.int p1), .val (.int p2), .unset, .unset] [] := by first | (simp [entryFrame, mkF, argsToLocals, Value.category]; done) | rfl
set_option maxRecDepth 65536 in
set_option maxHeartbeats 40000000 in
theorem rm9_0 {l : Launch} {Z : State} {a0 : Array Value} (hw : ∀ d ∈ tables_1, d.before a0 Z = true) (r0 : Addr) (p2 : Int32) (h0 : Heap) (n0 : Nat) (hz : n0 ≤ h0.size) (nk : Int32) (r cc ks st ra ca : Addr) (en x0 x1 x2 : Int32) (KR : own_KR Z h0 n0 r0 r cc ks st ra ca nk en x0 x1 x2) :
    OMet l Z (⟨"com/example/keyfold/keyfold/KeyRuns", "count", "(II)V"⟩ : MethodName) prog_81_method_12_code 5 none ({ frames := 0, cells := 0, slots := 0, locals := 0 } : Room) #[(.ref r0), (.int (0 : Int32)), (.int p2)] h0 n0 ({ frames := 0, cells := 0, slots := 0, locals := 0 } : Room).cells ({ frames := 0, cells := 0, slots := 0, locals := 0 } : Room).slots (fun v h => v = none ∧ Keep h0 h [r0, ca] ∧ own_KR Z h n0 r0 r cc ks st ra ca nk (en + p2) (x0 + p2) x1 x2) := by
  refine o_body (plainFor_of_name pn_9) hz (fun m => ef_9 m r0 (0 : Int32) p2) ?_
  intro p e s m below meth c s₁ G0
  have K : Keep h0 h0 [r0, ca] := Keep.refl _ _
  obtain ⟨hlt, E_r0, F_columns_r0, F_stride_r0, F_runs_r0, F_counts_r0, F_runKeys_r0, F_runStarts_r0, F_runCount_r0, F_entries_r0, A_r, A_c, A_ks, ⟨fst, A_st⟩, ⟨fra, A_ra⟩, A_ca⟩ := KR
  refine o_iloadN G0 d9_0 (pc' := 1) rfl rfl ?_
  refine o_bipush G0 d9_1 (pc' := 3) rfl (v := (6 : Int32)) rfl ?_
  refine o_iushr G0 d9_3 (pc' := 4) rfl (v := (0 : Int32)) (by decide) ?_
  refine o_istoreN G0 d9_4 (pc' := 5) rfl (l' := #[.val (.ref r0), .val (.int (0 : Int32)), .val (.int p2), .val (.int (0 : Int32)), .unset]) rfl ?_
  refine o_aloadN G0 d9_5 (pc' := 6) rfl rfl rfl ?_
  refine o_getF G0 (host := "") (Or.inl (hw _ (List.mem_of_getElem? (i := 17) rfl))) Via.refl F_counts_r0 d9_6 (pc' := 9) rfl ?_
  intro T1 G1
  refine o_iloadN G1 d9_9 (pc' := 10) rfl rfl ?_
  refine o_aaload G1 rfl A_c (i := 0) rfl (by decide) (v := (.ref ca)) rfl d9_10 (pc' := 11) rfl ?_
  refine o_iloadN G1 d9_11 (pc' := 12) rfl rfl ?_
  refine o_bipush G1 d9_12 (pc' := 14) rfl (v := (63 : Int32)) rfl ?_
  refine o_iand G1 d9_14 (pc' := 15) rfl (v := (0 : Int32)) (by decide) ?_
  refine o_dup2 G1 rfl rfl d9_15 (pc' := 16) rfl ?_
  refine o_iaload G1 A_ca (i := 0) rfl (by decide) (v := (.int x0)) rfl d9_16 (pc' := 17) rfl ?_
  refine o_iloadN G1 d9_17 (pc' := 18) rfl rfl ?_
  obtain ⟨v2, e2⟩ : ∃ z, x0 + p2 = z := ⟨_, rfl⟩
  refine o_iadd G1 d9_18 (pc' := 19) rfl e2 ?_
  refine o_iastore G1 A_ca (by omega) (i := 0) rfl (by decide) d9_19 (pc' := 20) rfl ?_
  intro T3 h3 G3 W3 A3
  replace K := K.wr W3 (Or.inl (List.mem_of_getElem? (i := 1) rfl))
  replace E_r0 := E_r0.wr W3
  replace F_columns_r0 := F_columns_r0.other W3 (Or.inl (o_ne (by omega)))
  replace F_stride_r0 := F_stride_r0.other W3 (Or.inl (o_ne (by omega)))
  replace F_runs_r0 := F_runs_r0.other W3 (Or.inl (o_ne (by omega)))
  replace F_counts_r0 := F_counts_r0.other W3 (Or.inl (o_ne (by omega)))
  replace F_runKeys_r0 := F_runKeys_r0.other W3 (Or.inl (o_ne (by omega)))
  replace F_runStarts_r0 := F_runStarts_r0.other W3 (Or.inl (o_ne (by omega)))
  replace F_runCount_r0 := F_runCount_r0.other W3 (Or.inl (o_ne (by omega)))
  replace F_entries_r0 := F_entries_r0.other W3 (Or.inl (o_ne (by omega)))
  replace A_r := A_r.other W3 (o_ne (by omega))
  replace A_c := A_c.other W3 (o_ne (by omega))
  replace A_ks := A_ks.other W3 (o_ne (by omega))
  replace A_st := A_st.other W3 (o_ne (by omega))
  replace A_ra := A_ra.other W3 (o_ne (by omega))
  replace A_ca := A3
  refine o_iloadN G3 d9_20 (pc' := 21) rfl rfl ?_
  refine o_iconst G3 d9_21 (pc' := 22) rfl (v := (1 : Int32)) rfl ?_
  refine o_iadd G3 d9_22 (pc' := 23) rfl (v := (1 : Int32)) (by decide) ?_
  refine o_istore G3 d9_23 (pc' := 25) rfl (l' := #[.val (.ref r0), .val (.int (0 : Int32)), .val (.int p2), .val (.int (0 : Int32)), .val (.int (1 : Int32))]) rfl ?_
  refine o_iload G3 d9_25 (pc' := 27) rfl rfl ?_
  refine o_aloadN G3 d9_27 (pc' := 28) rfl rfl rfl ?_
  refine o_getF G3 (host := "") (Or.inl (hw _ (List.mem_of_getElem? (i := 28) rfl))) Via.refl F_runCount_r0 d9_28 (pc' := 31) rfl ?_
  intro T4 G4
  refine o_icmp_ge G4 d9_31 (by decide) (pcT := 51) (by decide) (pc' := 34) rfl (fun _ => ?_) (fun q => absurd q (by decide))
  refine o_aloadN G4 d9_51 (pc' := 52) rfl rfl rfl ?_
  refine o_dup G4 d9_52 (pc' := 53) rfl rfl ?_
  refine o_getF G4 (host := "") (Or.inl (hw _ (List.mem_of_getElem? (i := 57) rfl))) Via.refl F_entries_r0 d9_53 (pc' := 56) rfl ?_
  intro T5 G5
  refine o_iloadN G5 d9_56 (pc' := 57) rfl rfl ?_
  obtain ⟨v6, e6⟩ : ∃ z, en + p2 = z := ⟨_, rfl⟩
  refine o_iadd G5 d9_57 (pc' := 58) rfl e6 ?_
  refine o_putF G5 (host := "") (Or.inl (hw _ (List.mem_of_getElem? (i := 57) rfl))) Via.refl F_entries_r0 E_r0 (Or.inl (hw _ (List.mem_of_getElem? (i := 58) rfl))) (hw _ (List.mem_of_getElem? (i := 1) rfl)) (ty := .int) (by decide) rfl rfl (by omega) d9_58 (pc' := 61) rfl ?_
  intro T7 h7 G7 W7
  replace K := K.wr W7 (Or.inl (List.mem_of_getElem? (i := 0) rfl))
  replace E_r0 := E_r0.wr W7
  replace F_columns_r0 := F_columns_r0.other W7 (Or.inr (slot_ne (Or.inr (hw _ (List.mem_of_getElem? (i := 10) rfl))) (Or.inl (hw _ (List.mem_of_getElem? (i := 58) rfl))) (by decide) (t := .int) (t' := .int) (by decide) (by decide)))
  replace F_stride_r0 := F_stride_r0.other W7 (Or.inr (slot_ne (Or.inr (hw _ (List.mem_of_getElem? (i := 12) rfl))) (Or.inl (hw _ (List.mem_of_getElem? (i := 58) rfl))) (by decide) (t := .int) (t' := .int) (by decide) (by decide)))
  replace F_runs_r0 := F_runs_r0.other W7 (Or.inr (slot_ne (Or.inl (hw _ (List.mem_of_getElem? (i := 16) rfl))) (Or.inl (hw _ (List.mem_of_getElem? (i := 58) rfl))) (by decide) (t := (.array (.array .int))) (t' := .int) (by decide) (by decide)))
  replace F_counts_r0 := F_counts_r0.other W7 (Or.inr (slot_ne (Or.inl (hw _ (List.mem_of_getElem? (i := 18) rfl))) (Or.inl (hw _ (List.mem_of_getElem? (i := 58) rfl))) (by decide) (t := (.array (.array .int))) (t' := .int) (by decide) (by decide)))
  replace F_runKeys_r0 := F_runKeys_r0.other W7 (Or.inr (slot_ne (Or.inl (hw _ (List.mem_of_getElem? (i := 21) rfl))) (Or.inl (hw _ (List.mem_of_getElem? (i := 58) rfl))) (by decide) (t := (.array .int)) (t' := .int) (by decide) (by decide)))
  replace F_runStarts_r0 := F_runStarts_r0.other W7 (Or.inr (slot_ne (Or.inl (hw _ (List.mem_of_getElem? (i := 23) rfl))) (Or.inl (hw _ (List.mem_of_getElem? (i := 58) rfl))) (by decide) (t := (.array .int)) (t' := .int) (by decide) (by decide)))
  replace F_runCount_r0 := F_runCount_r0.other W7 (Or.inr (slot_ne (Or.inl (hw _ (List.mem_of_getElem? (i := 29) rfl))) (Or.inl (hw _ (List.mem_of_getElem? (i := 58) rfl))) (by decide) (t := .int) (t' := .int) (by decide) (by decide)))
  replace F_entries_r0 := F_entries_r0.same W7
  replace A_r := A_r.other W7 (Ne.symm (o_ne (by omega)))
  replace A_c := A_c.other W7 (Ne.symm (o_ne (by omega)))
  replace A_ks := A_ks.other W7 (Ne.symm (o_ne (by omega)))
  replace A_st := A_st.other W7 (Ne.symm (o_ne (by omega)))
  replace A_ra := A_ra.other W7 (Ne.symm (o_ne (by omega)))
  replace A_ca := A_ca.other W7 (Ne.symm (o_ne (by omega)))
  subst e2 e6
  exact o_return G7 d9_61 ⟨rfl, K, hlt, E_r0, F_columns_r0, F_stride_r0, F_runs_r0, F_counts_r0, F_runKeys_r0, F_runStarts_r0, F_runCount_r0, F_entries_r0, A_r, A_c, A_ks, ⟨_, A_st⟩, ⟨_, A_ra⟩, (A_ca.congr (by intro j hj; match j with | 0 => rfl | 1 => rfl | 2 => rfl | j + 3 => simp [o_set, own_c3]))⟩ (by decide) (by decide)
set_option maxRecDepth 65536 in
set_option maxHeartbeats 40000000 in
theorem rm9_1 {l : Launch} {Z : State} {a0 : Array Value} (hw : ∀ d ∈ tables_1, d.before a0 Z = true) (r0 : Addr) (p2 : Int32) (h0 : Heap) (n0 : Nat) (hz : n0 ≤ h0.size) (nk : Int32) (r cc ks st ra ca : Addr) (en x0 x1 x2 : Int32) (KR : own_KR Z h0 n0 r0 r cc ks st ra ca nk en x0 x1 x2) :
    OMet l Z (⟨"com/example/keyfold/keyfold/KeyRuns", "count", "(II)V"⟩ : MethodName) prog_81_method_12_code 5 none ({ frames := 0, cells := 0, slots := 0, locals := 0 } : Room) #[(.ref r0), (.int (1 : Int32)), (.int p2)] h0 n0 ({ frames := 0, cells := 0, slots := 0, locals := 0 } : Room).cells ({ frames := 0, cells := 0, slots := 0, locals := 0 } : Room).slots (fun v h => v = none ∧ Keep h0 h [r0, ca] ∧ own_KR Z h n0 r0 r cc ks st ra ca nk (en + p2) x0 (x1 + p2) x2) := by
  refine o_body (plainFor_of_name pn_9) hz (fun m => ef_9 m r0 (1 : Int32) p2) ?_
  intro p e s m below meth c s₁ G0
  have K : Keep h0 h0 [r0, ca] := Keep.refl _ _
  obtain ⟨hlt, E_r0, F_columns_r0, F_stride_r0, F_runs_r0, F_counts_r0, F_runKeys_r0, F_runStarts_r0, F_runCount_r0, F_entries_r0, A_r, A_c, A_ks, ⟨fst, A_st⟩, ⟨fra, A_ra⟩, A_ca⟩ := KR
  refine o_iloadN G0 d9_0 (pc' := 1) rfl rfl ?_
  refine o_bipush G0 d9_1 (pc' := 3) rfl (v := (6 : Int32)) rfl ?_
  refine o_iushr G0 d9_3 (pc' := 4) rfl (v := (0 : Int32)) (by decide) ?_
  refine o_istoreN G0 d9_4 (pc' := 5) rfl (l' := #[.val (.ref r0), .val (.int (1 : Int32)), .val (.int p2), .val (.int (0 : Int32)), .unset]) rfl ?_
  refine o_aloadN G0 d9_5 (pc' := 6) rfl rfl rfl ?_
  refine o_getF G0 (host := "") (Or.inl (hw _ (List.mem_of_getElem? (i := 17) rfl))) Via.refl F_counts_r0 d9_6 (pc' := 9) rfl ?_
  intro T1 G1
  refine o_iloadN G1 d9_9 (pc' := 10) rfl rfl ?_
  refine o_aaload G1 rfl A_c (i := 0) rfl (by decide) (v := (.ref ca)) rfl d9_10 (pc' := 11) rfl ?_
  refine o_iloadN G1 d9_11 (pc' := 12) rfl rfl ?_
  refine o_bipush G1 d9_12 (pc' := 14) rfl (v := (63 : Int32)) rfl ?_
  refine o_iand G1 d9_14 (pc' := 15) rfl (v := (1 : Int32)) (by decide) ?_
  refine o_dup2 G1 rfl rfl d9_15 (pc' := 16) rfl ?_
  refine o_iaload G1 A_ca (i := 1) rfl (by decide) (v := (.int x1)) rfl d9_16 (pc' := 17) rfl ?_
  refine o_iloadN G1 d9_17 (pc' := 18) rfl rfl ?_
  obtain ⟨v2, e2⟩ : ∃ z, x1 + p2 = z := ⟨_, rfl⟩
  refine o_iadd G1 d9_18 (pc' := 19) rfl e2 ?_
  refine o_iastore G1 A_ca (by omega) (i := 1) rfl (by decide) d9_19 (pc' := 20) rfl ?_
  intro T3 h3 G3 W3 A3
  replace K := K.wr W3 (Or.inl (List.mem_of_getElem? (i := 1) rfl))
  replace E_r0 := E_r0.wr W3
  replace F_columns_r0 := F_columns_r0.other W3 (Or.inl (o_ne (by omega)))
  replace F_stride_r0 := F_stride_r0.other W3 (Or.inl (o_ne (by omega)))
  replace F_runs_r0 := F_runs_r0.other W3 (Or.inl (o_ne (by omega)))
  replace F_counts_r0 := F_counts_r0.other W3 (Or.inl (o_ne (by omega)))
  replace F_runKeys_r0 := F_runKeys_r0.other W3 (Or.inl (o_ne (by omega)))
  replace F_runStarts_r0 := F_runStarts_r0.other W3 (Or.inl (o_ne (by omega)))
  replace F_runCount_r0 := F_runCount_r0.other W3 (Or.inl (o_ne (by omega)))
  replace F_entries_r0 := F_entries_r0.other W3 (Or.inl (o_ne (by omega)))
  replace A_r := A_r.other W3 (o_ne (by omega))
  replace A_c := A_c.other W3 (o_ne (by omega))
  replace A_ks := A_ks.other W3 (o_ne (by omega))
  replace A_st := A_st.other W3 (o_ne (by omega))
  replace A_ra := A_ra.other W3 (o_ne (by omega))
  replace A_ca := A3
  refine o_iloadN G3 d9_20 (pc' := 21) rfl rfl ?_
  refine o_iconst G3 d9_21 (pc' := 22) rfl (v := (1 : Int32)) rfl ?_
  refine o_iadd G3 d9_22 (pc' := 23) rfl (v := (1 : Int32)) (by decide) ?_
  refine o_istore G3 d9_23 (pc' := 25) rfl (l' := #[.val (.ref r0), .val (.int (1 : Int32)), .val (.int p2), .val (.int (0 : Int32)), .val (.int (1 : Int32))]) rfl ?_
  refine o_iload G3 d9_25 (pc' := 27) rfl rfl ?_
  refine o_aloadN G3 d9_27 (pc' := 28) rfl rfl rfl ?_
  refine o_getF G3 (host := "") (Or.inl (hw _ (List.mem_of_getElem? (i := 28) rfl))) Via.refl F_runCount_r0 d9_28 (pc' := 31) rfl ?_
  intro T4 G4
  refine o_icmp_ge G4 d9_31 (by decide) (pcT := 51) (by decide) (pc' := 34) rfl (fun _ => ?_) (fun q => absurd q (by decide))
  refine o_aloadN G4 d9_51 (pc' := 52) rfl rfl rfl ?_
  refine o_dup G4 d9_52 (pc' := 53) rfl rfl ?_
  refine o_getF G4 (host := "") (Or.inl (hw _ (List.mem_of_getElem? (i := 57) rfl))) Via.refl F_entries_r0 d9_53 (pc' := 56) rfl ?_
  intro T5 G5
  refine o_iloadN G5 d9_56 (pc' := 57) rfl rfl ?_
  obtain ⟨v6, e6⟩ : ∃ z, en + p2 = z := ⟨_, rfl⟩
  refine o_iadd G5 d9_57 (pc' := 58) rfl e6 ?_
  refine o_putF G5 (host := "") (Or.inl (hw _ (List.mem_of_getElem? (i := 57) rfl))) Via.refl F_entries_r0 E_r0 (Or.inl (hw _ (List.mem_of_getElem? (i := 58) rfl))) (hw _ (List.mem_of_getElem? (i := 1) rfl)) (ty := .int) (by decide) rfl rfl (by omega) d9_58 (pc' := 61) rfl ?_
  intro T7 h7 G7 W7
  replace K := K.wr W7 (Or.inl (List.mem_of_getElem? (i := 0) rfl))
  replace E_r0 := E_r0.wr W7
  replace F_columns_r0 := F_columns_r0.other W7 (Or.inr (slot_ne (Or.inr (hw _ (List.mem_of_getElem? (i := 10) rfl))) (Or.inl (hw _ (List.mem_of_getElem? (i := 58) rfl))) (by decide) (t := .int) (t' := .int) (by decide) (by decide)))
  replace F_stride_r0 := F_stride_r0.other W7 (Or.inr (slot_ne (Or.inr (hw _ (List.mem_of_getElem? (i := 12) rfl))) (Or.inl (hw _ (List.mem_of_getElem? (i := 58) rfl))) (by decide) (t := .int) (t' := .int) (by decide) (by decide)))
  replace F_runs_r0 := F_runs_r0.other W7 (Or.inr (slot_ne (Or.inl (hw _ (List.mem_of_getElem? (i := 16) rfl))) (Or.inl (hw _ (List.mem_of_getElem? (i := 58) rfl))) (by decide) (t := (.array (.array .int))) (t' := .int) (by decide) (by decide)))
  replace F_counts_r0 := F_counts_r0.other W7 (Or.inr (slot_ne (Or.inl (hw _ (List.mem_of_getElem? (i := 18) rfl))) (Or.inl (hw _ (List.mem_of_getElem? (i := 58) rfl))) (by decide) (t := (.array (.array .int))) (t' := .int) (by decide) (by decide)))
  replace F_runKeys_r0 := F_runKeys_r0.other W7 (Or.inr (slot_ne (Or.inl (hw _ (List.mem_of_getElem? (i := 21) rfl))) (Or.inl (hw _ (List.mem_of_getElem? (i := 58) rfl))) (by decide) (t := (.array .int)) (t' := .int) (by decide) (by decide)))
  replace F_runStarts_r0 := F_runStarts_r0.other W7 (Or.inr (slot_ne (Or.inl (hw _ (List.mem_of_getElem? (i := 23) rfl))) (Or.inl (hw _ (List.mem_of_getElem? (i := 58) rfl))) (by decide) (t := (.array .int)) (t' := .int) (by decide) (by decide)))
  replace F_runCount_r0 := F_runCount_r0.other W7 (Or.inr (slot_ne (Or.inl (hw _ (List.mem_of_getElem? (i := 29) rfl))) (Or.inl (hw _ (List.mem_of_getElem? (i := 58) rfl))) (by decide) (t := .int) (t' := .int) (by decide) (by decide)))
  replace F_entries_r0 := F_entries_r0.same W7
  replace A_r := A_r.other W7 (Ne.symm (o_ne (by omega)))
  replace A_c := A_c.other W7 (Ne.symm (o_ne (by omega)))
  replace A_ks := A_ks.other W7 (Ne.symm (o_ne (by omega)))
  replace A_st := A_st.other W7 (Ne.symm (o_ne (by omega)))
  replace A_ra := A_ra.other W7 (Ne.symm (o_ne (by omega)))
  replace A_ca := A_ca.other W7 (Ne.symm (o_ne (by omega)))
  subst e2 e6
  exact o_return G7 d9_61 ⟨rfl, K, hlt, E_r0, F_columns_r0, F_stride_r0, F_runs_r0, F_counts_r0, F_runKeys_r0, F_runStarts_r0, F_runCount_r0, F_entries_r0, A_r, A_c, A_ks, ⟨_, A_st⟩, ⟨_, A_ra⟩, (A_ca.congr (by intro j hj; match j with | 0 => rfl | 1 => rfl | 2 => rfl | j + 3 => simp [o_set, own_c3]))⟩ (by decide) (by decide)
set_option maxRecDepth 65536 in
set_option maxHeartbeats 40000000 in
theorem rm9_2 {l : Launch} {Z : State} {a0 : Array Value} (hw : ∀ d ∈ tables_1, d.before a0 Z = true) (r0 : Addr) (p2 : Int32) (h0 : Heap) (n0 : Nat) (hz : n0 ≤ h0.size) (nk : Int32) (r cc ks st ra ca : Addr) (en x0 x1 x2 : Int32) (KR : own_KR Z h0 n0 r0 r cc ks st ra ca nk en x0 x1 x2) :
    OMet l Z (⟨"com/example/keyfold/keyfold/KeyRuns", "count", "(II)V"⟩ : MethodName) prog_81_method_12_code 5 none ({ frames := 0, cells := 0, slots := 0, locals := 0 } : Room) #[(.ref r0), (.int (2 : Int32)), (.int p2)] h0 n0 ({ frames := 0, cells := 0, slots := 0, locals := 0 } : Room).cells ({ frames := 0, cells := 0, slots := 0, locals := 0 } : Room).slots (fun v h => v = none ∧ Keep h0 h [r0, ca] ∧ own_KR Z h n0 r0 r cc ks st ra ca nk (en + p2) x0 x1 (x2 + p2)) := by
  refine o_body (plainFor_of_name pn_9) hz (fun m => ef_9 m r0 (2 : Int32) p2) ?_
  intro p e s m below meth c s₁ G0
  have K : Keep h0 h0 [r0, ca] := Keep.refl _ _
  obtain ⟨hlt, E_r0, F_columns_r0, F_stride_r0, F_runs_r0, F_counts_r0, F_runKeys_r0, F_runStarts_r0, F_runCount_r0, F_entries_r0, A_r, A_c, A_ks, ⟨fst, A_st⟩, ⟨fra, A_ra⟩, A_ca⟩ := KR
  refine o_iloadN G0 d9_0 (pc' := 1) rfl rfl ?_
  refine o_bipush G0 d9_1 (pc' := 3) rfl (v := (6 : Int32)) rfl ?_
  refine o_iushr G0 d9_3 (pc' := 4) rfl (v := (0 : Int32)) (by decide) ?_
  refine o_istoreN G0 d9_4 (pc' := 5) rfl (l' := #[.val (.ref r0), .val (.int (2 : Int32)), .val (.int p2), .val (.int (0 : Int32)), .unset]) rfl ?_
  refine o_aloadN G0 d9_5 (pc' := 6) rfl rfl rfl ?_
  refine o_getF G0 (host := "") (Or.inl (hw _ (List.mem_of_getElem? (i := 17) rfl))) Via.refl F_counts_r0 d9_6 (pc' := 9) rfl ?_
  intro T1 G1
  refine o_iloadN G1 d9_9 (pc' := 10) rfl rfl ?_
  refine o_aaload G1 rfl A_c (i := 0) rfl (by decide) (v := (.ref ca)) rfl d9_10 (pc' := 11) rfl ?_
  refine o_iloadN G1 d9_11 (pc' := 12) rfl rfl ?_
  refine o_bipush G1 d9_12 (pc' := 14) rfl (v := (63 : Int32)) rfl ?_
  refine o_iand G1 d9_14 (pc' := 15) rfl (v := (2 : Int32)) (by decide) ?_
  refine o_dup2 G1 rfl rfl d9_15 (pc' := 16) rfl ?_
  refine o_iaload G1 A_ca (i := 2) rfl (by decide) (v := (.int x2)) rfl d9_16 (pc' := 17) rfl ?_
  refine o_iloadN G1 d9_17 (pc' := 18) rfl rfl ?_
  obtain ⟨v2, e2⟩ : ∃ z, x2 + p2 = z := ⟨_, rfl⟩
  refine o_iadd G1 d9_18 (pc' := 19) rfl e2 ?_
  refine o_iastore G1 A_ca (by omega) (i := 2) rfl (by decide) d9_19 (pc' := 20) rfl ?_
  intro T3 h3 G3 W3 A3
  replace K := K.wr W3 (Or.inl (List.mem_of_getElem? (i := 1) rfl))
  replace E_r0 := E_r0.wr W3
  replace F_columns_r0 := F_columns_r0.other W3 (Or.inl (o_ne (by omega)))
  replace F_stride_r0 := F_stride_r0.other W3 (Or.inl (o_ne (by omega)))
  replace F_runs_r0 := F_runs_r0.other W3 (Or.inl (o_ne (by omega)))
  replace F_counts_r0 := F_counts_r0.other W3 (Or.inl (o_ne (by omega)))
  replace F_runKeys_r0 := F_runKeys_r0.other W3 (Or.inl (o_ne (by omega)))
  replace F_runStarts_r0 := F_runStarts_r0.other W3 (Or.inl (o_ne (by omega)))
  replace F_runCount_r0 := F_runCount_r0.other W3 (Or.inl (o_ne (by omega)))
  replace F_entries_r0 := F_entries_r0.other W3 (Or.inl (o_ne (by omega)))
  replace A_r := A_r.other W3 (o_ne (by omega))
  replace A_c := A_c.other W3 (o_ne (by omega))
  replace A_ks := A_ks.other W3 (o_ne (by omega))
  replace A_st := A_st.other W3 (o_ne (by omega))
  replace A_ra := A_ra.other W3 (o_ne (by omega))
  replace A_ca := A3
  refine o_iloadN G3 d9_20 (pc' := 21) rfl rfl ?_
  refine o_iconst G3 d9_21 (pc' := 22) rfl (v := (1 : Int32)) rfl ?_
  refine o_iadd G3 d9_22 (pc' := 23) rfl (v := (1 : Int32)) (by decide) ?_
  refine o_istore G3 d9_23 (pc' := 25) rfl (l' := #[.val (.ref r0), .val (.int (2 : Int32)), .val (.int p2), .val (.int (0 : Int32)), .val (.int (1 : Int32))]) rfl ?_
  refine o_iload G3 d9_25 (pc' := 27) rfl rfl ?_
  refine o_aloadN G3 d9_27 (pc' := 28) rfl rfl rfl ?_
  refine o_getF G3 (host := "") (Or.inl (hw _ (List.mem_of_getElem? (i := 28) rfl))) Via.refl F_runCount_r0 d9_28 (pc' := 31) rfl ?_
  intro T4 G4
  refine o_icmp_ge G4 d9_31 (by decide) (pcT := 51) (by decide) (pc' := 34) rfl (fun _ => ?_) (fun q => absurd q (by decide))
  refine o_aloadN G4 d9_51 (pc' := 52) rfl rfl rfl ?_
  refine o_dup G4 d9_52 (pc' := 53) rfl rfl ?_
  refine o_getF G4 (host := "") (Or.inl (hw _ (List.mem_of_getElem? (i := 57) rfl))) Via.refl F_entries_r0 d9_53 (pc' := 56) rfl ?_
  intro T5 G5
  refine o_iloadN G5 d9_56 (pc' := 57) rfl rfl ?_
  obtain ⟨v6, e6⟩ : ∃ z, en + p2 = z := ⟨_, rfl⟩
  refine o_iadd G5 d9_57 (pc' := 58) rfl e6 ?_
  refine o_putF G5 (host := "") (Or.inl (hw _ (List.mem_of_getElem? (i := 57) rfl))) Via.refl F_entries_r0 E_r0 (Or.inl (hw _ (List.mem_of_getElem? (i := 58) rfl))) (hw _ (List.mem_of_getElem? (i := 1) rfl)) (ty := .int) (by decide) rfl rfl (by omega) d9_58 (pc' := 61) rfl ?_
  intro T7 h7 G7 W7
  replace K := K.wr W7 (Or.inl (List.mem_of_getElem? (i := 0) rfl))
  replace E_r0 := E_r0.wr W7
  replace F_columns_r0 := F_columns_r0.other W7 (Or.inr (slot_ne (Or.inr (hw _ (List.mem_of_getElem? (i := 10) rfl))) (Or.inl (hw _ (List.mem_of_getElem? (i := 58) rfl))) (by decide) (t := .int) (t' := .int) (by decide) (by decide)))
  replace F_stride_r0 := F_stride_r0.other W7 (Or.inr (slot_ne (Or.inr (hw _ (List.mem_of_getElem? (i := 12) rfl))) (Or.inl (hw _ (List.mem_of_getElem? (i := 58) rfl))) (by decide) (t := .int) (t' := .int) (by decide) (by decide)))
  replace F_runs_r0 := F_runs_r0.other W7 (Or.inr (slot_ne (Or.inl (hw _ (List.mem_of_getElem? (i := 16) rfl))) (Or.inl (hw _ (List.mem_of_getElem? (i := 58) rfl))) (by decide) (t := (.array (.array .int))) (t' := .int) (by decide) (by decide)))
  replace F_counts_r0 := F_counts_r0.other W7 (Or.inr (slot_ne (Or.inl (hw _ (List.mem_of_getElem? (i := 18) rfl))) (Or.inl (hw _ (List.mem_of_getElem? (i := 58) rfl))) (by decide) (t := (.array (.array .int))) (t' := .int) (by decide) (by decide)))
  replace F_runKeys_r0 := F_runKeys_r0.other W7 (Or.inr (slot_ne (Or.inl (hw _ (List.mem_of_getElem? (i := 21) rfl))) (Or.inl (hw _ (List.mem_of_getElem? (i := 58) rfl))) (by decide) (t := (.array .int)) (t' := .int) (by decide) (by decide)))
  replace F_runStarts_r0 := F_runStarts_r0.other W7 (Or.inr (slot_ne (Or.inl (hw _ (List.mem_of_getElem? (i := 23) rfl))) (Or.inl (hw _ (List.mem_of_getElem? (i := 58) rfl))) (by decide) (t := (.array .int)) (t' := .int) (by decide) (by decide)))
  replace F_runCount_r0 := F_runCount_r0.other W7 (Or.inr (slot_ne (Or.inl (hw _ (List.mem_of_getElem? (i := 29) rfl))) (Or.inl (hw _ (List.mem_of_getElem? (i := 58) rfl))) (by decide) (t := .int) (t' := .int) (by decide) (by decide)))
  replace F_entries_r0 := F_entries_r0.same W7
  replace A_r := A_r.other W7 (Ne.symm (o_ne (by omega)))
  replace A_c := A_c.other W7 (Ne.symm (o_ne (by omega)))
  replace A_ks := A_ks.other W7 (Ne.symm (o_ne (by omega)))
  replace A_st := A_st.other W7 (Ne.symm (o_ne (by omega)))
  replace A_ra := A_ra.other W7 (Ne.symm (o_ne (by omega)))
  replace A_ca := A_ca.other W7 (Ne.symm (o_ne (by omega)))
  subst e2 e6
  exact o_return G7 d9_61 ⟨rfl, K, hlt, E_r0, F_columns_r0, F_stride_r0, F_runs_r0, F_counts_r0, F_runKeys_r0, F_runStarts_r0, F_runCount_r0, F_entries_r0, A_r, A_c, A_ks, ⟨_, A_st⟩, ⟨_, A_ra⟩, (A_ca.congr (by intro j hj; match j with | 0 => rfl | 1 => rfl | 2 => rfl | j + 3 => simp [o_set, own_c3]))⟩ (by decide) (by decide)
theorem d11_0 : decode prog_81_method_8_code 0 = .ok (.aload_n 0, 1) := by decide +kernel
theorem d11_1 : decode prog_81_method_8_code 1 = .ok (.getfield 22, 3) := by decide +kernel
theorem d11_4 : decode prog_81_method_8_code 4 = .ok (.iload_n 1, 1) := by decide +kernel
theorem d11_5 : decode prog_81_method_8_code 5 = .ok (.bipush 6, 2) := by decide +kernel
theorem d11_7 : decode prog_81_method_8_code 7 = .ok (.iushr, 1) := by decide +kernel
theorem d11_8 : decode prog_81_method_8_code 8 = .ok (.aaload, 1) := by decide +kernel
theorem d11_9 : decode prog_81_method_8_code 9 = .ok (.iload_n 1, 1) := by decide +kernel
theorem d11_10 : decode prog_81_method_8_code 10 = .ok (.bipush 63, 2) := by decide +kernel
theorem d11_12 : decode prog_81_method_8_code 12 = .ok (.iand, 1) := by decide +kernel
theorem d11_13 : decode prog_81_method_8_code 13 = .ok (.iaload, 1) := by decide +kernel
theorem d11_14 : decode prog_81_method_8_code 14 = .ok (.ireturn, 1) := by decide +kernel
theorem pn_11 : plainName "com/example/keyfold/keyfold/KeyRuns" = true := by first | (simp [plainName, overriddenIn]; done) | decide +kernel
theorem ef_11 (m : MethodId) (r0 : Addr) (p1 : Int32) : entryFrame m #[(.ref r0), (.int p1)] 2 = mkF m 0 #[.val (.ref r0), .val (.int p1)] [] := by first | (simp [entryFrame, mkF, argsToLocals, Value.category]; done) | rfl
set_option maxRecDepth 65536 in
set_option maxHeartbeats 40000000 in
theorem rm11_0 {l : Launch} {Z : State} {a0 : Array Value} (hw : ∀ d ∈ tables_1, d.before a0 Z = true) (r0 : Addr) (h0 : Heap) (n0 : Nat) (hz : n0 ≤ h0.size) (nk : Int32) (r cc ks st ra ca : Addr) (en x0 x1 x2 : Int32) (KR : own_KR Z h0 n0 r0 r cc ks st ra ca nk en x0 x1 x2) :
    OMet l Z (⟨"com/example/keyfold/keyfold/KeyRuns", "entries", "(I)I"⟩ : MethodName) prog_81_method_8_code 2 (some .int) ({ frames := 0, cells := 0, slots := 0, locals := 0 } : Room) #[(.ref r0), (.int (0 : Int32))] h0 n0 ({ frames := 0, cells := 0, slots := 0, locals := 0 } : Room).cells ({ frames := 0, cells := 0, slots := 0, locals := 0 } : Room).slots (OVal h0 (.int x0)) := by
  refine o_body (plainFor_of_name pn_11) hz (fun m => ef_11 m r0 (0 : Int32)) ?_
  intro p e s m below meth c s₁ G0
  obtain ⟨hlt, E_r0, F_columns_r0, F_stride_r0, F_runs_r0, F_counts_r0, F_runKeys_r0, F_runStarts_r0, F_runCount_r0, F_entries_r0, A_r, A_c, A_ks, ⟨fst, A_st⟩, ⟨fra, A_ra⟩, A_ca⟩ := KR
  refine o_aloadN G0 d11_0 (pc' := 1) rfl rfl rfl ?_
  refine o_getF G0 (host := "") (Or.inl (hw _ (List.mem_of_getElem? (i := 17) rfl))) Via.refl F_counts_r0 d11_1 (pc' := 4) rfl ?_
  intro T1 G1
  refine o_iloadN G1 d11_4 (pc' := 5) rfl rfl ?_
  refine o_bipush G1 d11_5 (pc' := 7) rfl (v := (6 : Int32)) rfl ?_
  refine o_iushr G1 d11_7 (pc' := 8) rfl (v := (0 : Int32)) (by decide) ?_
  refine o_aaload G1 rfl A_c (i := 0) rfl (by decide) (v := (.ref ca)) rfl d11_8 (pc' := 9) rfl ?_
  refine o_iloadN G1 d11_9 (pc' := 10) rfl rfl ?_
  refine o_bipush G1 d11_10 (pc' := 12) rfl (v := (63 : Int32)) rfl ?_
  refine o_iand G1 d11_12 (pc' := 13) rfl (v := (0 : Int32)) (by decide) ?_
  refine o_iaload G1 A_ca (i := 0) rfl (by decide) (v := (.int x0)) rfl d11_13 (pc' := 14) rfl ?_
  exact o_ireturn G1 d11_14 ⟨rfl, rfl⟩ (by decide) (by decide)
set_option maxRecDepth 65536 in
set_option maxHeartbeats 40000000 in
theorem rm11_1 {l : Launch} {Z : State} {a0 : Array Value} (hw : ∀ d ∈ tables_1, d.before a0 Z = true) (r0 : Addr) (h0 : Heap) (n0 : Nat) (hz : n0 ≤ h0.size) (nk : Int32) (r cc ks st ra ca : Addr) (en x0 x1 x2 : Int32) (KR : own_KR Z h0 n0 r0 r cc ks st ra ca nk en x0 x1 x2) :
    OMet l Z (⟨"com/example/keyfold/keyfold/KeyRuns", "entries", "(I)I"⟩ : MethodName) prog_81_method_8_code 2 (some .int) ({ frames := 0, cells := 0, slots := 0, locals := 0 } : Room) #[(.ref r0), (.int (1 : Int32))] h0 n0 ({ frames := 0, cells := 0, slots := 0, locals := 0 } : Room).cells ({ frames := 0, cells := 0, slots := 0, locals := 0 } : Room).slots (OVal h0 (.int x1)) := by
  refine o_body (plainFor_of_name pn_11) hz (fun m => ef_11 m r0 (1 : Int32)) ?_
  intro p e s m below meth c s₁ G0
  obtain ⟨hlt, E_r0, F_columns_r0, F_stride_r0, F_runs_r0, F_counts_r0, F_runKeys_r0, F_runStarts_r0, F_runCount_r0, F_entries_r0, A_r, A_c, A_ks, ⟨fst, A_st⟩, ⟨fra, A_ra⟩, A_ca⟩ := KR
  refine o_aloadN G0 d11_0 (pc' := 1) rfl rfl rfl ?_
  refine o_getF G0 (host := "") (Or.inl (hw _ (List.mem_of_getElem? (i := 17) rfl))) Via.refl F_counts_r0 d11_1 (pc' := 4) rfl ?_
  intro T1 G1
  refine o_iloadN G1 d11_4 (pc' := 5) rfl rfl ?_
  refine o_bipush G1 d11_5 (pc' := 7) rfl (v := (6 : Int32)) rfl ?_
  refine o_iushr G1 d11_7 (pc' := 8) rfl (v := (0 : Int32)) (by decide) ?_
  refine o_aaload G1 rfl A_c (i := 0) rfl (by decide) (v := (.ref ca)) rfl d11_8 (pc' := 9) rfl ?_
  refine o_iloadN G1 d11_9 (pc' := 10) rfl rfl ?_
  refine o_bipush G1 d11_10 (pc' := 12) rfl (v := (63 : Int32)) rfl ?_
  refine o_iand G1 d11_12 (pc' := 13) rfl (v := (1 : Int32)) (by decide) ?_
  refine o_iaload G1 A_ca (i := 1) rfl (by decide) (v := (.int x1)) rfl d11_13 (pc' := 14) rfl ?_
  exact o_ireturn G1 d11_14 ⟨rfl, rfl⟩ (by decide) (by decide)
set_option maxRecDepth 65536 in
set_option maxHeartbeats 40000000 in
theorem rm11_2 {l : Launch} {Z : State} {a0 : Array Value} (hw : ∀ d ∈ tables_1, d.before a0 Z = true) (r0 : Addr) (h0 : Heap) (n0 : Nat) (hz : n0 ≤ h0.size) (nk : Int32) (r cc ks st ra ca : Addr) (en x0 x1 x2 : Int32) (KR : own_KR Z h0 n0 r0 r cc ks st ra ca nk en x0 x1 x2) :
    OMet l Z (⟨"com/example/keyfold/keyfold/KeyRuns", "entries", "(I)I"⟩ : MethodName) prog_81_method_8_code 2 (some .int) ({ frames := 0, cells := 0, slots := 0, locals := 0 } : Room) #[(.ref r0), (.int (2 : Int32))] h0 n0 ({ frames := 0, cells := 0, slots := 0, locals := 0 } : Room).cells ({ frames := 0, cells := 0, slots := 0, locals := 0 } : Room).slots (OVal h0 (.int x2)) := by
  refine o_body (plainFor_of_name pn_11) hz (fun m => ef_11 m r0 (2 : Int32)) ?_
  intro p e s m below meth c s₁ G0
  obtain ⟨hlt, E_r0, F_columns_r0, F_stride_r0, F_runs_r0, F_counts_r0, F_runKeys_r0, F_runStarts_r0, F_runCount_r0, F_entries_r0, A_r, A_c, A_ks, ⟨fst, A_st⟩, ⟨fra, A_ra⟩, A_ca⟩ := KR
  refine o_aloadN G0 d11_0 (pc' := 1) rfl rfl rfl ?_
  refine o_getF G0 (host := "") (Or.inl (hw _ (List.mem_of_getElem? (i := 17) rfl))) Via.refl F_counts_r0 d11_1 (pc' := 4) rfl ?_
  intro T1 G1
  refine o_iloadN G1 d11_4 (pc' := 5) rfl rfl ?_
  refine o_bipush G1 d11_5 (pc' := 7) rfl (v := (6 : Int32)) rfl ?_
  refine o_iushr G1 d11_7 (pc' := 8) rfl (v := (0 : Int32)) (by decide) ?_
  refine o_aaload G1 rfl A_c (i := 0) rfl (by decide) (v := (.ref ca)) rfl d11_8 (pc' := 9) rfl ?_
  refine o_iloadN G1 d11_9 (pc' := 10) rfl rfl ?_
  refine o_bipush G1 d11_10 (pc' := 12) rfl (v := (63 : Int32)) rfl ?_
  refine o_iand G1 d11_12 (pc' := 13) rfl (v := (2 : Int32)) (by decide) ?_
  refine o_iaload G1 A_ca (i := 2) rfl (by decide) (v := (.int x2)) rfl d11_13 (pc' := 14) rfl ?_
  exact o_ireturn G1 d11_14 ⟨rfl, rfl⟩ (by decide) (by decide)
theorem own_m3 (x : Int32) : (x &&& (2147483647 : Int32)) % (3 : Int32) = 0 ∨ (x &&& (2147483647 : Int32)) % (3 : Int32) = 1 ∨ (x &&& (2147483647 : Int32)) % (3 : Int32) = 2 := by
  have h := c_and x 2147483647 (by decide)
  have e : ((x &&& (2147483647 : Int32)) % (3 : Int32)).toInt = (x &&& (2147483647 : Int32)).toInt % 3 := by rw [Int32.toInt_mod, Int.tmod_eq_emod_of_nonneg h.1]; rfl
  have r : (x &&& (2147483647 : Int32)).toInt % 3 = 0 ∨ (x &&& (2147483647 : Int32)).toInt % 3 = 1 ∨ (x &&& (2147483647 : Int32)).toInt % 3 = 2 := by omega
  rw [← e] at r
  exact r.imp (fun q => Int32.toInt_inj.mp q) (fun r => r.imp (fun q => Int32.toInt_inj.mp q) (fun q => Int32.toInt_inj.mp q))
theorem pn_0 : plainName "com/example/keyfold/keyfold/KeyRunsCountPinLaw" = true := by first | (simp [plainName, overriddenIn]; done) | decide +kernel
theorem ef_0 (m : MethodId) (p0 : Int32) (p1 : Int32) (p2 : Int32) (p3 : Int32) : entryFrame m #[(.int p0), (.int p1), (.int p2), (.int p3)] maxLocals = mkF m 0 #[.val (.int p0), .val (.int p1), .val (.int p2), .val (.int p3), .unset, .unset, .unset, .unset, .unset, .unset, .unset, .unset, .unset] [] := by first | (simp [entryFrame, mkF, argsToLocals, Value.category, maxLocals]; done) | rfl
set_option maxRecDepth 65536 in
set_option maxHeartbeats 40000000 in
theorem rm0 {l : Launch} {Z : State} {a0 : Array Value} (hw : ∀ d ∈ tables_1, d.before a0 Z = true) (p0 : Int32) (p1 : Int32) (p2 : Int32) (p3 : Int32) (h0 : Heap) (n0 : Nat) (hz : n0 ≤ h0.size) :
    OMet l Z x code maxLocals ret room_1 #[(.int p0), (.int p1), (.int p2), (.int p3)] h0 n0 32 768 (fun v _ => v = some (.int 1)) := by
  refine o_body (plainFor_of_name pn_0) hz (fun m => ef_0 m p0 p1 p2 p3) ?_
  intro p e s m below meth c s₁ G0
  refine o_new G0 (hw _ (List.mem_of_getElem? (i := 0) rfl)) (hw _ (List.mem_of_getElem? (i := 1) rfl)) (hw _ (List.mem_of_getElem? (i := 2) rfl)) at_0 (pc' := 3) rfl (by decide) (by decide) ?_
  intro T1 h1 b1 G1 g1 g_b1 E1 A1 D1
  have F_columns_b1 : Fld Z h1 b1 "com/example/keyfold/keyfold/KeyRuns" "columns" "I" (.int (0 : Int32)) := D1 (Or.inr (hw _ (List.mem_of_getElem? (i := 10) rfl))) (ty := .int) (by decide)
  have F_stride_b1 : Fld Z h1 b1 "com/example/keyfold/keyfold/KeyRuns" "stride" "I" (.int (0 : Int32)) := D1 (Or.inr (hw _ (List.mem_of_getElem? (i := 12) rfl))) (ty := .int) (by decide)
  have F_runs_b1 : Fld Z h1 b1 "com/example/keyfold/keyfold/KeyRuns" "runs" "[[I" .null := D1 (Or.inl (hw _ (List.mem_of_getElem? (i := 16) rfl))) (ty := (.array (.array .int))) (by decide)
  have F_counts_b1 : Fld Z h1 b1 "com/example/keyfold/keyfold/KeyRuns" "counts" "[[I" .null := D1 (Or.inl (hw _ (List.mem_of_getElem? (i := 18) rfl))) (ty := (.array (.array .int))) (by decide)
  have F_runKeys_b1 : Fld Z h1 b1 "com/example/keyfold/keyfold/KeyRuns" "runKeys" "[I" .null := D1 (Or.inl (hw _ (List.mem_of_getElem? (i := 21) rfl))) (ty := (.array .int)) (by decide)
  have F_runStarts_b1 : Fld Z h1 b1 "com/example/keyfold/keyfold/KeyRuns" "runStarts" "[I" .null := D1 (Or.inl (hw _ (List.mem_of_getElem? (i := 23) rfl))) (ty := (.array .int)) (by decide)
  have F_runCount_b1 : Fld Z h1 b1 "com/example/keyfold/keyfold/KeyRuns" "runCount" "I" (.int (0 : Int32)) := D1 (Or.inl (hw _ (List.mem_of_getElem? (i := 29) rfl))) (ty := .int) (by decide)
  have F_entries_b1 : Fld Z h1 b1 "com/example/keyfold/keyfold/KeyRuns" "entries" "I" (.int (0 : Int32)) := D1 (Or.inl (hw _ (List.mem_of_getElem? (i := 58) rfl))) (ty := .int) (by decide)
  refine o_dup G1 at_3 (pc' := 4) rfl rfl ?_
  refine o_iconst G1 at_4 (pc' := 5) rfl (v := (1 : Int32)) rfl ?_
  refine o_callI G1 (z := (⟨"com/example/keyfold/keyfold/KeyRuns", "<init>", "(I)V"⟩ : MethodName)) (argsL := [(.int (1 : Int32))]) (rest := [(.ref b1)]) (W := 1) (a := b1) rfl (hw _ (List.mem_of_getElem? (i := 3) rfl)) (hw _ (List.mem_of_getElem? (i := 4) rfl)) rfl at_5 (by decide) (hw _ (List.mem_of_getElem? (i := 2) rfl)) (hw _ (List.mem_of_getElem? (i := 5) rfl)) (rm1 hw b1 h1 n0 G1.sz g_b1 A1 F_columns_b1 F_stride_b1 F_runs_b1 F_counts_b1 F_runKeys_b1 F_runStarts_b1 F_runCount_b1 F_entries_b1) (by decide) (by decide) rfl (lenOf pd_5 rfl) rfl (Nat.le_of_eq rfl) (pc' := 8) rfl (by decide) (by decide) ?_
  rintro _ T2 h2 G2 ⟨rfl, K2, r, cc, ks, st, ra, ca, KR2⟩
  obtain ⟨hlt2, E_b1, F_columns_b1, F_stride_b1, F_runs_b1, F_counts_b1, F_runKeys_b1, F_runStarts_b1, F_runCount_b1, F_entries_b1, A_r, A_c, A_ks, ⟨fst, A_st⟩, ⟨fra, A_ra⟩, A_ca⟩ := KR2
  show OFin n0 p e below s (fun v _ => v = some (.int 1)) 32 768 T2 (mkF m 8 #[.val (.int p0), .val (.int p1), .val (.int p2), .val (.int p3), .unset, .unset, .unset, .unset, .unset, .unset, .unset, .unset, .unset] [(.ref b1)])
  refine o_astore G2 at_8 (pc' := 10) rfl rfl (l' := #[.val (.int p0), .val (.int p1), .val (.int p2), .val (.int p3), .val (.ref b1), .unset, .unset, .unset, .unset, .unset, .unset, .unset, .unset]) rfl ?_
  refine o_iconst G2 at_10 (pc' := 11) rfl (v := (1 : Int32)) rfl ?_
  refine o_newarray G2 (N := 1) (cap := 1) (hw _ (List.mem_of_getElem? (i := 19) rfl)) rfl (by decide) (by decide) at_11 (pc' := 13) rfl (by decide) (by decide) ?_
  intro T3 h3 b3 G3 g3 g_b3 E3 A_b3
  have ne_b1_b3 : b1 ≠ b3 := Nat.ne_of_lt (Nat.lt_of_lt_of_eq E_b1.lt g3.symm)
  have ne_r_b3 : r ≠ b3 := Nat.ne_of_lt (Nat.lt_of_lt_of_eq A_r.lt g3.symm)
  have ne_cc_b3 : cc ≠ b3 := Nat.ne_of_lt (Nat.lt_of_lt_of_eq A_c.lt g3.symm)
  have ne_ks_b3 : ks ≠ b3 := Nat.ne_of_lt (Nat.lt_of_lt_of_eq A_ks.lt g3.symm)
  have ne_st_b3 : st ≠ b3 := Nat.ne_of_lt (Nat.lt_of_lt_of_eq A_st.lt g3.symm)
  have ne_ra_b3 : ra ≠ b3 := Nat.ne_of_lt (Nat.lt_of_lt_of_eq A_ra.lt g3.symm)
  have ne_ca_b3 : ca ≠ b3 := Nat.ne_of_lt (Nat.lt_of_lt_of_eq A_ca.lt g3.symm)
  replace E_b1 := E_b1.ext E3
  replace F_columns_b1 := F_columns_b1.ext E3
  replace F_stride_b1 := F_stride_b1.ext E3
  replace F_runs_b1 := F_runs_b1.ext E3
  replace F_counts_b1 := F_counts_b1.ext E3
  replace F_runKeys_b1 := F_runKeys_b1.ext E3
  replace F_runStarts_b1 := F_runStarts_b1.ext E3
  replace F_runCount_b1 := F_runCount_b1.ext E3
  replace F_entries_b1 := F_entries_b1.ext E3
  replace A_r := A_r.ext E3
  replace A_c := A_c.ext E3
  replace A_ks := A_ks.ext E3
  replace A_st := A_st.ext E3
  replace A_ra := A_ra.ext E3
  replace A_ca := A_ca.ext E3
  replace A_b3 : OArr Z h3 b3 .int 1 (fun _ => (.int (0 : Int32))) := A_b3
  refine o_dup G3 at_13 (pc' := 14) rfl rfl ?_
  refine o_iconst G3 at_14 (pc' := 15) rfl (v := (0 : Int32)) rfl ?_
  refine o_iconst G3 at_15 (pc' := 16) rfl (v := (0 : Int32)) rfl ?_
  refine o_iastore G3 A_b3 g_b3 (i := 0) rfl (by decide) at_16 (pc' := 17) rfl ?_
  intro T4 h4 G4 W4 A4
  replace E_b1 := E_b1.wr W4
  replace F_columns_b1 := F_columns_b1.other W4 (Or.inl ne_b1_b3)
  replace F_stride_b1 := F_stride_b1.other W4 (Or.inl ne_b1_b3)
  replace F_runs_b1 := F_runs_b1.other W4 (Or.inl ne_b1_b3)
  replace F_counts_b1 := F_counts_b1.other W4 (Or.inl ne_b1_b3)
  replace F_runKeys_b1 := F_runKeys_b1.other W4 (Or.inl ne_b1_b3)
  replace F_runStarts_b1 := F_runStarts_b1.other W4 (Or.inl ne_b1_b3)
  replace F_runCount_b1 := F_runCount_b1.other W4 (Or.inl ne_b1_b3)
  replace F_entries_b1 := F_entries_b1.other W4 (Or.inl ne_b1_b3)
  replace A_r := A_r.other W4 ne_r_b3
  replace A_c := A_c.other W4 ne_cc_b3
  replace A_ks := A_ks.other W4 ne_ks_b3
  replace A_st := A_st.other W4 ne_st_b3
  replace A_ra := A_ra.other W4 ne_ra_b3
  replace A_ca := A_ca.other W4 ne_ca_b3
  replace A_b3 := A4
  refine o_astore G4 at_17 (pc' := 19) rfl rfl (l' := #[.val (.int p0), .val (.int p1), .val (.int p2), .val (.int p3), .val (.ref b1), .val (.ref b3), .unset, .unset, .unset, .unset, .unset, .unset, .unset]) rfl ?_
  refine o_aload G4 at_19 (pc' := 21) rfl rfl rfl ?_
  refine o_iconst G4 at_21 (pc' := 22) rfl (v := (-1 : Int32)) rfl ?_
  refine o_ldc2 G4 at_22 (pc' := 25) rfl (hw _ (List.mem_of_getElem? (i := 39) rfl)) ?_
  refine o_aload G4 at_25 (pc' := 27) rfl rfl rfl ?_
  have A_n : OArr Z h4 b3 .int 1 (fun _ => .int (0 : Int32)) := A_b3.congr (by intro j hj; match j, hj with | 0, _ => rfl)
  refine o_callV G4 (z := (⟨"com/example/keyfold/keyfold/KeyRuns", "insert", "(IJ[I)I"⟩ : MethodName)) (argsL := [(.int (-1 : Int32)), (.long (10 : Int64)), (.ref b3)]) (rest := []) (W := 0) E_b1 (hw _ (List.mem_of_getElem? (i := 40) rfl)) (hw _ (List.mem_of_getElem? (i := 42) rfl)) (hw _ (List.mem_of_getElem? (i := 41) rfl)) (hw _ (List.mem_of_getElem? (i := 43) rfl)) at_27 (by decide) (hw _ (List.mem_of_getElem? (i := 2) rfl)) (hw _ (List.mem_of_getElem? (i := 44) rfl)) (rm5_0 hw b1 (10 : Int64) b3 h4 n0 G4.sz r cc ks st ra ca (0 : Int32) (0 : Int32) (0 : Int32) (0 : Int32) ⟨hlt2, E_b1, F_columns_b1, F_stride_b1, F_runs_b1, F_counts_b1, F_runKeys_b1, F_runStarts_b1, F_runCount_b1, F_entries_b1, A_r, A_c, A_ks, ⟨_, A_st⟩, ⟨_, A_ra⟩, A_ca⟩ (Ne.symm ne_b1_b3) (Ne.symm ne_ks_b3) (Ne.symm ne_ra_b3) (Ne.symm ne_ca_b3) A_n) (by decide) (by decide) rfl (lenOf pd_6 rfl) rfl (Nat.le_of_eq rfl) (pc' := 30) rfl (by decide) (by decide) ?_
  rintro _ T5 h5 G5 ⟨rfl, K5, KR5⟩
  have KR5 : own_KR Z h5 n0 b1 r cc ks st ra ca (1 : Int32) (1 : Int32) (1 : Int32) (0 : Int32) (0 : Int32) := KR5
  replace E_b1 := E_b1.keep K5
  replace A_r := A_r.keep K5 (ninS (Ne.symm (o_ne (by omega))) (ninS (o_ne (by omega)) (ninS (o_ne (by omega)) (ninS (o_ne (by omega)) nin0))))
  replace A_c := A_c.keep K5 (ninS (Ne.symm (o_ne (by omega))) (ninS (o_ne (by omega)) (ninS (o_ne (by omega)) (ninS (o_ne (by omega)) nin0))))
  replace A_st := A_st.keep K5 (ninS (Ne.symm (o_ne (by omega))) (ninS (Ne.symm (o_ne (by omega))) (ninS (o_ne (by omega)) (ninS (o_ne (by omega)) nin0))))
  replace A_b3 := A_b3.keep K5 (ninS (Ne.symm ne_b1_b3) (ninS (Ne.symm ne_ks_b3) (ninS (Ne.symm ne_ra_b3) (ninS (Ne.symm ne_ca_b3) nin0))))
  obtain ⟨hlt5, E_b1, F_columns_b1, F_stride_b1, F_runs_b1, F_counts_b1, F_runKeys_b1, F_runStarts_b1, F_runCount_b1, F_entries_b1, A_r, A_c, A_ks, ⟨fst, A_st⟩, ⟨fra, A_ra⟩, A_ca⟩ := KR5
  show OFin n0 p e below s (fun v _ => v = some (.int 1)) 32 768 T5 (mkF m 30 #[.val (.int p0), .val (.int p1), .val (.int p2), .val (.int p3), .val (.ref b1), .val (.ref b3), .unset, .unset, .unset, .unset, .unset, .unset, .unset] [(.int (0 : Int32))])
  refine o_istore G5 at_30 (pc' := 32) rfl (l' := #[.val (.int p0), .val (.int p1), .val (.int p2), .val (.int p3), .val (.ref b1), .val (.ref b3), .val (.int (0 : Int32)), .unset, .unset, .unset, .unset, .unset, .unset]) rfl ?_
  refine o_aload G5 at_32 (pc' := 34) rfl rfl rfl ?_
  refine o_iconst G5 at_34 (pc' := 35) rfl (v := (-1 : Int32)) rfl ?_
  refine o_ldc2 G5 at_35 (pc' := 38) rfl (hw _ (List.mem_of_getElem? (i := 59) rfl)) ?_
  refine o_aload G5 at_38 (pc' := 40) rfl rfl rfl ?_
  have A_n : OArr Z h5 b3 .int 1 (fun _ => .int (0 : Int32)) := A_b3.congr (by intro j hj; match j, hj with | 0, _ => rfl)
  refine o_callV G5 (z := (⟨"com/example/keyfold/keyfold/KeyRuns", "insert", "(IJ[I)I"⟩ : MethodName)) (argsL := [(.int (-1 : Int32)), (.long (20 : Int64)), (.ref b3)]) (rest := []) (W := 0) E_b1 (hw _ (List.mem_of_getElem? (i := 40) rfl)) (hw _ (List.mem_of_getElem? (i := 42) rfl)) (hw _ (List.mem_of_getElem? (i := 41) rfl)) (hw _ (List.mem_of_getElem? (i := 43) rfl)) at_40 (by decide) (hw _ (List.mem_of_getElem? (i := 2) rfl)) (hw _ (List.mem_of_getElem? (i := 44) rfl)) (rm5_1 hw b1 (20 : Int64) b3 h5 n0 G5.sz r cc ks st ra ca (1 : Int32) (1 : Int32) (0 : Int32) (0 : Int32) ⟨hlt5, E_b1, F_columns_b1, F_stride_b1, F_runs_b1, F_counts_b1, F_runKeys_b1, F_runStarts_b1, F_runCount_b1, F_entries_b1, A_r, A_c, A_ks, ⟨_, A_st⟩, ⟨_, A_ra⟩, A_ca⟩ (Ne.symm ne_b1_b3) (Ne.symm ne_ks_b3) (Ne.symm ne_ra_b3) (Ne.symm ne_ca_b3) A_n) (by decide) (by decide) rfl (lenOf pd_6 rfl) rfl (Nat.le_of_eq rfl) (pc' := 43) rfl (by decide) (by decide) ?_
  rintro _ T6 h6 G6 ⟨rfl, K6, KR6⟩
  have KR6 : own_KR Z h6 n0 b1 r cc ks st ra ca (2 : Int32) (2 : Int32) (1 : Int32) (1 : Int32) (0 : Int32) := KR6
  replace A_b3 := A_b3.keep K6 (ninS (Ne.symm ne_b1_b3) (ninS (Ne.symm ne_ks_b3) (ninS (Ne.symm ne_ra_b3) (ninS (Ne.symm ne_ca_b3) nin0))))
  replace E_b1 := E_b1.keep K6
  replace A_r := A_r.keep K6 (ninS (Ne.symm (o_ne (by omega))) (ninS (o_ne (by omega)) (ninS (o_ne (by omega)) (ninS (o_ne (by omega)) nin0))))
  replace A_c := A_c.keep K6 (ninS (Ne.symm (o_ne (by omega))) (ninS (o_ne (by omega)) (ninS (o_ne (by omega)) (ninS (o_ne (by omega)) nin0))))
  replace A_st := A_st.keep K6 (ninS (Ne.symm (o_ne (by omega))) (ninS (Ne.symm (o_ne (by omega))) (ninS (o_ne (by omega)) (ninS (o_ne (by omega)) nin0))))
  obtain ⟨hlt6, E_b1, F_columns_b1, F_stride_b1, F_runs_b1, F_counts_b1, F_runKeys_b1, F_runStarts_b1, F_runCount_b1, F_entries_b1, A_r, A_c, A_ks, ⟨fst, A_st⟩, ⟨fra, A_ra⟩, A_ca⟩ := KR6
  show OFin n0 p e below s (fun v _ => v = some (.int 1)) 32 768 T6 (mkF m 43 #[.val (.int p0), .val (.int p1), .val (.int p2), .val (.int p3), .val (.ref b1), .val (.ref b3), .val (.int (0 : Int32)), .unset, .unset, .unset, .unset, .unset, .unset] [(.int (1 : Int32))])
  refine o_istore G6 at_43 (pc' := 45) rfl (l' := #[.val (.int p0), .val (.int p1), .val (.int p2), .val (.int p3), .val (.ref b1), .val (.ref b3), .val (.int (0 : Int32)), .val (.int (1 : Int32)), .unset, .unset, .unset, .unset, .unset]) rfl ?_
  refine o_aload G6 at_45 (pc' := 47) rfl rfl rfl ?_
  refine o_iconst G6 at_47 (pc' := 48) rfl (v := (-1 : Int32)) rfl ?_
  refine o_ldc2 G6 at_48 (pc' := 51) rfl (hw _ (List.mem_of_getElem? (i := 60) rfl)) ?_
  refine o_aload G6 at_51 (pc' := 53) rfl rfl rfl ?_
  have A_n : OArr Z h6 b3 .int 1 (fun _ => .int (0 : Int32)) := A_b3.congr (by intro j hj; match j, hj with | 0, _ => rfl)
  refine o_callV G6 (z := (⟨"com/example/keyfold/keyfold/KeyRuns", "insert", "(IJ[I)I"⟩ : MethodName)) (argsL := [(.int (-1 : Int32)), (.long (30 : Int64)), (.ref b3)]) (rest := []) (W := 0) E_b1 (hw _ (List.mem_of_getElem? (i := 40) rfl)) (hw _ (List.mem_of_getElem? (i := 42) rfl)) (hw _ (List.mem_of_getElem? (i := 41) rfl)) (hw _ (List.mem_of_getElem? (i := 43) rfl)) at_53 (by decide) (hw _ (List.mem_of_getElem? (i := 2) rfl)) (hw _ (List.mem_of_getElem? (i := 44) rfl)) (rm5_2 hw b1 (30 : Int64) b3 h6 n0 G6.sz r cc ks st ra ca (2 : Int32) (1 : Int32) (1 : Int32) (0 : Int32) ⟨hlt6, E_b1, F_columns_b1, F_stride_b1, F_runs_b1, F_counts_b1, F_runKeys_b1, F_runStarts_b1, F_runCount_b1, F_entries_b1, A_r, A_c, A_ks, ⟨_, A_st⟩, ⟨_, A_ra⟩, A_ca⟩ (Ne.symm ne_b1_b3) (Ne.symm ne_ks_b3) (Ne.symm ne_ra_b3) (Ne.symm ne_ca_b3) A_n) (by decide) (by decide) rfl (lenOf pd_6 rfl) rfl (Nat.le_of_eq rfl) (pc' := 56) rfl (by decide) (by decide) ?_
  rintro _ T7 h7 G7 ⟨rfl, K7, KR7⟩
  have KR7 : own_KR Z h7 n0 b1 r cc ks st ra ca (3 : Int32) (3 : Int32) (1 : Int32) (1 : Int32) (1 : Int32) := KR7
  replace A_b3 := A_b3.keep K7 (ninS (Ne.symm ne_b1_b3) (ninS (Ne.symm ne_ks_b3) (ninS (Ne.symm ne_ra_b3) (ninS (Ne.symm ne_ca_b3) nin0))))
  replace E_b1 := E_b1.keep K7
  replace A_r := A_r.keep K7 (ninS (Ne.symm (o_ne (by omega))) (ninS (o_ne (by omega)) (ninS (o_ne (by omega)) (ninS (o_ne (by omega)) nin0))))
  replace A_c := A_c.keep K7 (ninS (Ne.symm (o_ne (by omega))) (ninS (o_ne (by omega)) (ninS (o_ne (by omega)) (ninS (o_ne (by omega)) nin0))))
  replace A_st := A_st.keep K7 (ninS (Ne.symm (o_ne (by omega))) (ninS (Ne.symm (o_ne (by omega))) (ninS (o_ne (by omega)) (ninS (o_ne (by omega)) nin0))))
  obtain ⟨hlt7, E_b1, F_columns_b1, F_stride_b1, F_runs_b1, F_counts_b1, F_runKeys_b1, F_runStarts_b1, F_runCount_b1, F_entries_b1, A_r, A_c, A_ks, ⟨fst, A_st⟩, ⟨fra, A_ra⟩, A_ca⟩ := KR7
  show OFin n0 p e below s (fun v _ => v = some (.int 1)) 32 768 T7 (mkF m 56 #[.val (.int p0), .val (.int p1), .val (.int p2), .val (.int p3), .val (.ref b1), .val (.ref b3), .val (.int (0 : Int32)), .val (.int (1 : Int32)), .unset, .unset, .unset, .unset, .unset] [(.int (2 : Int32))])
  refine o_istore G7 at_56 (pc' := 58) rfl (l' := #[.val (.int p0), .val (.int p1), .val (.int p2), .val (.int p3), .val (.ref b1), .val (.ref b3), .val (.int (0 : Int32)), .val (.int (1 : Int32)), .val (.int (2 : Int32)), .unset, .unset, .unset, .unset]) rfl ?_
  refine o_iloadN G7 at_58 (pc' := 59) rfl rfl ?_
  refine o_ldc G7 at_59 (pc' := 61) rfl (hw _ (List.mem_of_getElem? (i := 61) rfl)) ?_
  obtain ⟨v8, e8⟩ : ∃ z, p0 &&& (2147483647 : Int32) = z := ⟨_, rfl⟩
  refine o_iand G7 at_61 (pc' := 62) rfl e8 ?_
  refine o_iconst G7 at_62 (pc' := 63) rfl (v := (3 : Int32)) rfl ?_
  obtain ⟨v9, e9⟩ : ∃ z, v8 % (3 : Int32) = z := ⟨_, rfl⟩
  refine o_irem G7 at_63 (pc' := 64) rfl (by decide) e9 ?_
  refine o_istore G7 at_64 (pc' := 66) rfl (l' := #[.val (.int p0), .val (.int p1), .val (.int p2), .val (.int p3), .val (.ref b1), .val (.ref b3), .val (.int (0 : Int32)), .val (.int (1 : Int32)), .val (.int (2 : Int32)), .val (.int v9), .unset, .unset, .unset]) rfl ?_
  refine o_iloadN G7 at_66 (pc' := 67) rfl rfl ?_
  refine o_ldc G7 at_67 (pc' := 69) rfl (hw _ (List.mem_of_getElem? (i := 61) rfl)) ?_
  obtain ⟨v10, e10⟩ : ∃ z, p2 &&& (2147483647 : Int32) = z := ⟨_, rfl⟩
  refine o_iand G7 at_69 (pc' := 70) rfl e10 ?_
  refine o_iconst G7 at_70 (pc' := 71) rfl (v := (3 : Int32)) rfl ?_
  obtain ⟨v11, e11⟩ : ∃ z, v10 % (3 : Int32) = z := ⟨_, rfl⟩
  refine o_irem G7 at_71 (pc' := 72) rfl (by decide) e11 ?_
  refine o_istore G7 at_72 (pc' := 74) rfl (l' := #[.val (.int p0), .val (.int p1), .val (.int p2), .val (.int p3), .val (.ref b1), .val (.ref b3), .val (.int (0 : Int32)), .val (.int (1 : Int32)), .val (.int (2 : Int32)), .val (.int v9), .val (.int v11), .unset, .unset]) rfl ?_
  have ha : v9 = (0 : Int32) ∨ v9 = (1 : Int32) ∨ v9 = (2 : Int32) := by
    subst e8 e9 e10 e11; exact own_m3 _
  have hb : v11 = (0 : Int32) ∨ v11 = (1 : Int32) ∨ v11 = (2 : Int32) := by
    subst e8 e9 e10 e11; exact own_m3 _
  rcases ha with ha | ha | ha <;> rcases hb with hb | hb | hb
  · subst ha hb
    refine o_iconst G7 at_74 (pc' := 75) rfl (v := (3 : Int32)) rfl ?_
    refine o_newarray G7 (N := 3) (cap := 3) (hw _ (List.mem_of_getElem? (i := 19) rfl)) rfl (by decide) (by decide) at_75 (pc' := 77) rfl (by decide) (by decide) ?_
    intro T12 h12 b12 G12 g12 g_b12 E12 A_b12
    have ne_b3_b12 : b3 ≠ b12 := Nat.ne_of_lt (Nat.lt_of_lt_of_eq A_b3.lt g12.symm)
    have ne_b1_b12 : b1 ≠ b12 := Nat.ne_of_lt (Nat.lt_of_lt_of_eq E_b1.lt g12.symm)
    have ne_r_b12 : r ≠ b12 := Nat.ne_of_lt (Nat.lt_of_lt_of_eq A_r.lt g12.symm)
    have ne_cc_b12 : cc ≠ b12 := Nat.ne_of_lt (Nat.lt_of_lt_of_eq A_c.lt g12.symm)
    have ne_ks_b12 : ks ≠ b12 := Nat.ne_of_lt (Nat.lt_of_lt_of_eq A_ks.lt g12.symm)
    have ne_st_b12 : st ≠ b12 := Nat.ne_of_lt (Nat.lt_of_lt_of_eq A_st.lt g12.symm)
    have ne_ra_b12 : ra ≠ b12 := Nat.ne_of_lt (Nat.lt_of_lt_of_eq A_ra.lt g12.symm)
    have ne_ca_b12 : ca ≠ b12 := Nat.ne_of_lt (Nat.lt_of_lt_of_eq A_ca.lt g12.symm)
    replace A_b3 := A_b3.ext E12
    replace E_b1 := E_b1.ext E12
    replace F_columns_b1 := F_columns_b1.ext E12
    replace F_stride_b1 := F_stride_b1.ext E12
    replace F_runs_b1 := F_runs_b1.ext E12
    replace F_counts_b1 := F_counts_b1.ext E12
    replace F_runKeys_b1 := F_runKeys_b1.ext E12
    replace F_runStarts_b1 := F_runStarts_b1.ext E12
    replace F_runCount_b1 := F_runCount_b1.ext E12
    replace F_entries_b1 := F_entries_b1.ext E12
    replace A_r := A_r.ext E12
    replace A_c := A_c.ext E12
    replace A_ks := A_ks.ext E12
    replace A_st := A_st.ext E12
    replace A_ra := A_ra.ext E12
    replace A_ca := A_ca.ext E12
    replace A_b12 : OArr Z h12 b12 .int 3 (fun _ => (.int (0 : Int32))) := A_b12
    refine o_dup G12 at_77 (pc' := 78) rfl rfl ?_
    refine o_iconst G12 at_78 (pc' := 79) rfl (v := (0 : Int32)) rfl ?_
    refine o_iload G12 at_79 (pc' := 81) rfl rfl ?_
    refine o_iastore G12 A_b12 g_b12 (i := 0) rfl (by decide) at_81 (pc' := 82) rfl ?_
    intro T13 h13 G13 W13 A13
    replace A_b3 := A_b3.other W13 ne_b3_b12
    replace E_b1 := E_b1.wr W13
    replace F_columns_b1 := F_columns_b1.other W13 (Or.inl ne_b1_b12)
    replace F_stride_b1 := F_stride_b1.other W13 (Or.inl ne_b1_b12)
    replace F_runs_b1 := F_runs_b1.other W13 (Or.inl ne_b1_b12)
    replace F_counts_b1 := F_counts_b1.other W13 (Or.inl ne_b1_b12)
    replace F_runKeys_b1 := F_runKeys_b1.other W13 (Or.inl ne_b1_b12)
    replace F_runStarts_b1 := F_runStarts_b1.other W13 (Or.inl ne_b1_b12)
    replace F_runCount_b1 := F_runCount_b1.other W13 (Or.inl ne_b1_b12)
    replace F_entries_b1 := F_entries_b1.other W13 (Or.inl ne_b1_b12)
    replace A_r := A_r.other W13 ne_r_b12
    replace A_c := A_c.other W13 ne_cc_b12
    replace A_ks := A_ks.other W13 ne_ks_b12
    replace A_st := A_st.other W13 ne_st_b12
    replace A_ra := A_ra.other W13 ne_ra_b12
    replace A_ca := A_ca.other W13 ne_ca_b12
    replace A_b12 := A13
    refine o_dup G13 at_82 (pc' := 83) rfl rfl ?_
    refine o_iconst G13 at_83 (pc' := 84) rfl (v := (1 : Int32)) rfl ?_
    refine o_iload G13 at_84 (pc' := 86) rfl rfl ?_
    refine o_iastore G13 A_b12 g_b12 (i := 1) rfl (by decide) at_86 (pc' := 87) rfl ?_
    intro T14 h14 G14 W14 A14
    replace A_b3 := A_b3.other W14 ne_b3_b12
    replace E_b1 := E_b1.wr W14
    replace F_columns_b1 := F_columns_b1.other W14 (Or.inl ne_b1_b12)
    replace F_stride_b1 := F_stride_b1.other W14 (Or.inl ne_b1_b12)
    replace F_runs_b1 := F_runs_b1.other W14 (Or.inl ne_b1_b12)
    replace F_counts_b1 := F_counts_b1.other W14 (Or.inl ne_b1_b12)
    replace F_runKeys_b1 := F_runKeys_b1.other W14 (Or.inl ne_b1_b12)
    replace F_runStarts_b1 := F_runStarts_b1.other W14 (Or.inl ne_b1_b12)
    replace F_runCount_b1 := F_runCount_b1.other W14 (Or.inl ne_b1_b12)
    replace F_entries_b1 := F_entries_b1.other W14 (Or.inl ne_b1_b12)
    replace A_r := A_r.other W14 ne_r_b12
    replace A_c := A_c.other W14 ne_cc_b12
    replace A_ks := A_ks.other W14 ne_ks_b12
    replace A_st := A_st.other W14 ne_st_b12
    replace A_ra := A_ra.other W14 ne_ra_b12
    replace A_ca := A_ca.other W14 ne_ca_b12
    replace A_b12 := A14
    refine o_dup G14 at_87 (pc' := 88) rfl rfl ?_
    refine o_iconst G14 at_88 (pc' := 89) rfl (v := (2 : Int32)) rfl ?_
    refine o_iload G14 at_89 (pc' := 91) rfl rfl ?_
    refine o_iastore G14 A_b12 g_b12 (i := 2) rfl (by decide) at_91 (pc' := 92) rfl ?_
    intro T15 h15 G15 W15 A15
    replace A_b3 := A_b3.other W15 ne_b3_b12
    replace E_b1 := E_b1.wr W15
    replace F_columns_b1 := F_columns_b1.other W15 (Or.inl ne_b1_b12)
    replace F_stride_b1 := F_stride_b1.other W15 (Or.inl ne_b1_b12)
    replace F_runs_b1 := F_runs_b1.other W15 (Or.inl ne_b1_b12)
    replace F_counts_b1 := F_counts_b1.other W15 (Or.inl ne_b1_b12)
    replace F_runKeys_b1 := F_runKeys_b1.other W15 (Or.inl ne_b1_b12)
    replace F_runStarts_b1 := F_runStarts_b1.other W15 (Or.inl ne_b1_b12)
    replace F_runCount_b1 := F_runCount_b1.other W15 (Or.inl ne_b1_b12)
    replace F_entries_b1 := F_entries_b1.other W15 (Or.inl ne_b1_b12)
    replace A_r := A_r.other W15 ne_r_b12
    replace A_c := A_c.other W15 ne_cc_b12
    replace A_ks := A_ks.other W15 ne_ks_b12
    replace A_st := A_st.other W15 ne_st_b12
    replace A_ra := A_ra.other W15 ne_ra_b12
    replace A_ca := A_ca.other W15 ne_ca_b12
    replace A_b12 := A15
    refine o_astore G15 at_92 (pc' := 94) rfl rfl (l' := #[.val (.int p0), .val (.int p1), .val (.int p2), .val (.int p3), .val (.ref b1), .val (.ref b3), .val (.int (0 : Int32)), .val (.int (1 : Int32)), .val (.int (2 : Int32)), .val (.int (0 : Int32)), .val (.int (0 : Int32)), .val (.ref b12), .unset]) rfl ?_
    refine o_aload G15 at_94 (pc' := 96) rfl rfl rfl ?_
    refine o_aload G15 at_96 (pc' := 98) rfl rfl rfl ?_
    refine o_iload G15 at_98 (pc' := 100) rfl rfl ?_
    refine o_iaload G15 A_b12 (i := 0) rfl (by decide) (v := (.int (0 : Int32))) rfl at_100 (pc' := 101) rfl ?_
    refine o_iloadN G15 at_101 (pc' := 102) rfl rfl ?_
    refine o_callV G15 (z := (⟨"com/example/keyfold/keyfold/KeyRuns", "count", "(II)V"⟩ : MethodName)) (argsL := [(.int (0 : Int32)), (.int p1)]) (rest := []) (W := 0) E_b1 (hw _ (List.mem_of_getElem? (i := 62) rfl)) (hw _ (List.mem_of_getElem? (i := 64) rfl)) (hw _ (List.mem_of_getElem? (i := 63) rfl)) (hw _ (List.mem_of_getElem? (i := 65) rfl)) at_102 (by decide) (hw _ (List.mem_of_getElem? (i := 2) rfl)) (hw _ (List.mem_of_getElem? (i := 66) rfl)) (rm9_0 hw b1 p1 h15 n0 G15.sz (3 : Int32) r cc ks st ra ca (3 : Int32) (1 : Int32) (1 : Int32) (1 : Int32) ⟨hlt7, E_b1, F_columns_b1, F_stride_b1, F_runs_b1, F_counts_b1, F_runKeys_b1, F_runStarts_b1, F_runCount_b1, F_entries_b1, A_r, A_c, A_ks, ⟨_, A_st⟩, ⟨_, A_ra⟩, A_ca⟩) (by decide) (by decide) rfl (lenOf pd_1 rfl) rfl (Nat.le_of_eq rfl) (pc' := 105) rfl (by decide) (by decide) ?_
    rintro _ T16 h16 G16 ⟨rfl, K16, KR16⟩
    replace A_b3 := A_b3.keep K16 (ninS (Ne.symm ne_b1_b3) (ninS (Ne.symm ne_ca_b3) nin0))
    replace E_b1 := E_b1.keep K16
    replace A_r := A_r.keep K16 (ninS (Ne.symm (o_ne (by omega))) (ninS (o_ne (by omega)) nin0))
    replace A_c := A_c.keep K16 (ninS (Ne.symm (o_ne (by omega))) (ninS (o_ne (by omega)) nin0))
    replace A_ks := A_ks.keep K16 (ninS (Ne.symm (o_ne (by omega))) (ninS (o_ne (by omega)) nin0))
    replace A_st := A_st.keep K16 (ninS (Ne.symm (o_ne (by omega))) (ninS (o_ne (by omega)) nin0))
    replace A_ra := A_ra.keep K16 (ninS (Ne.symm (o_ne (by omega))) (ninS (o_ne (by omega)) nin0))
    replace A_b12 := A_b12.keep K16 (ninS (Ne.symm ne_b1_b12) (ninS (Ne.symm ne_ca_b12) nin0))
    obtain ⟨hlt16, E_b1, F_columns_b1, F_stride_b1, F_runs_b1, F_counts_b1, F_runKeys_b1, F_runStarts_b1, F_runCount_b1, F_entries_b1, A_r, A_c, A_ks, ⟨fst, A_st⟩, ⟨fra, A_ra⟩, A_ca⟩ := KR16
    show OFin n0 p e below s (fun v _ => v = some (.int 1)) 32 768 T16 (mkF m 105 #[.val (.int p0), .val (.int p1), .val (.int p2), .val (.int p3), .val (.ref b1), .val (.ref b3), .val (.int (0 : Int32)), .val (.int (1 : Int32)), .val (.int (2 : Int32)), .val (.int (0 : Int32)), .val (.int (0 : Int32)), .val (.ref b12), .unset] [])
    refine o_aload G16 at_105 (pc' := 107) rfl rfl rfl ?_
    refine o_aload G16 at_107 (pc' := 109) rfl rfl rfl ?_
    refine o_iload G16 at_109 (pc' := 111) rfl rfl ?_
    refine o_iaload G16 A_b12 (i := 0) rfl (by decide) (v := (.int (0 : Int32))) rfl at_111 (pc' := 112) rfl ?_
    refine o_iloadN G16 at_112 (pc' := 113) rfl rfl ?_
    refine o_callV G16 (z := (⟨"com/example/keyfold/keyfold/KeyRuns", "count", "(II)V"⟩ : MethodName)) (argsL := [(.int (0 : Int32)), (.int p3)]) (rest := []) (W := 0) E_b1 (hw _ (List.mem_of_getElem? (i := 62) rfl)) (hw _ (List.mem_of_getElem? (i := 64) rfl)) (hw _ (List.mem_of_getElem? (i := 63) rfl)) (hw _ (List.mem_of_getElem? (i := 65) rfl)) at_113 (by decide) (hw _ (List.mem_of_getElem? (i := 2) rfl)) (hw _ (List.mem_of_getElem? (i := 66) rfl)) (rm9_0 hw b1 p3 h16 n0 G16.sz (3 : Int32) r cc ks st ra ca ((3 : Int32) + p1) ((1 : Int32) + p1) (1 : Int32) (1 : Int32) ⟨hlt16, E_b1, F_columns_b1, F_stride_b1, F_runs_b1, F_counts_b1, F_runKeys_b1, F_runStarts_b1, F_runCount_b1, F_entries_b1, A_r, A_c, A_ks, ⟨_, A_st⟩, ⟨_, A_ra⟩, A_ca⟩) (by decide) (by decide) rfl (lenOf pd_1 rfl) rfl (Nat.le_of_eq rfl) (pc' := 116) rfl (by decide) (by decide) ?_
    rintro _ T17 h17 G17 ⟨rfl, K17, KR17⟩
    replace A_b3 := A_b3.keep K17 (ninS (Ne.symm ne_b1_b3) (ninS (Ne.symm ne_ca_b3) nin0))
    replace A_b12 := A_b12.keep K17 (ninS (Ne.symm ne_b1_b12) (ninS (Ne.symm ne_ca_b12) nin0))
    replace E_b1 := E_b1.keep K17
    replace A_r := A_r.keep K17 (ninS (Ne.symm (o_ne (by omega))) (ninS (o_ne (by omega)) nin0))
    replace A_c := A_c.keep K17 (ninS (Ne.symm (o_ne (by omega))) (ninS (o_ne (by omega)) nin0))
    replace A_ks := A_ks.keep K17 (ninS (Ne.symm (o_ne (by omega))) (ninS (o_ne (by omega)) nin0))
    replace A_st := A_st.keep K17 (ninS (Ne.symm (o_ne (by omega))) (ninS (o_ne (by omega)) nin0))
    replace A_ra := A_ra.keep K17 (ninS (Ne.symm (o_ne (by omega))) (ninS (o_ne (by omega)) nin0))
    obtain ⟨hlt17, E_b1, F_columns_b1, F_stride_b1, F_runs_b1, F_counts_b1, F_runKeys_b1, F_runStarts_b1, F_runCount_b1, F_entries_b1, A_r, A_c, A_ks, ⟨fst, A_st⟩, ⟨fra, A_ra⟩, A_ca⟩ := KR17
    show OFin n0 p e below s (fun v _ => v = some (.int 1)) 32 768 T17 (mkF m 116 #[.val (.int p0), .val (.int p1), .val (.int p2), .val (.int p3), .val (.ref b1), .val (.ref b3), .val (.int (0 : Int32)), .val (.int (1 : Int32)), .val (.int (2 : Int32)), .val (.int (0 : Int32)), .val (.int (0 : Int32)), .val (.ref b12), .unset] [])
    refine o_aload G17 at_116 (pc' := 118) rfl rfl rfl ?_
    refine o_callVP G17 (z := (⟨"com/example/keyfold/keyfold/KeyRuns", "entries", "()I"⟩ : MethodName)) (argsL := []) (rest := []) (W := 0) (r := .int (((3 : Int32) + p1) + p3)) E_b1 (hw _ (List.mem_of_getElem? (i := 67) rfl)) (hw _ (List.mem_of_getElem? (i := 69) rfl)) (hw _ (List.mem_of_getElem? (i := 68) rfl)) (hw _ (List.mem_of_getElem? (i := 70) rfl)) at_118 (by decide) (hw _ (List.mem_of_getElem? (i := 2) rfl)) (hw _ (List.mem_of_getElem? (i := 71) rfl)) (rm10 hw b1 h17 n0 G17.sz (((3 : Int32) + p1) + p3) F_entries_b1) (by decide) (by decide) rfl (lenOf pd_7 rfl) rfl (Nat.le_of_eq rfl) (pc' := 121) rfl (by decide) (by decide) ?_
    intro T18 G18
    refine o_iconst G18 at_121 (pc' := 122) rfl (v := (3 : Int32)) rfl ?_
    refine o_iloadN G18 at_122 (pc' := 123) rfl rfl ?_
    obtain ⟨v19, e19⟩ : ∃ z, (3 : Int32) + p1 = z := ⟨_, rfl⟩
    refine o_iadd G18 at_123 (pc' := 124) rfl e19 ?_
    refine o_iloadN G18 at_124 (pc' := 125) rfl rfl ?_
    obtain ⟨v20, e20⟩ : ∃ z, v19 + p3 = z := ⟨_, rfl⟩
    refine o_iadd G18 at_125 (pc' := 126) rfl e20 ?_
    refine o_icmp_ne G18 at_126 (by decide) (pcT := 133) (by decide) (pc' := 129) rfl (fun q => absurd (by subst e19 e20; first | rfl | exact own_e1 _ _ | exact own_e2 _ _ | decide) q) (fun _ => ?_)
    refine o_iconst G18 at_129 (pc' := 130) rfl (v := (1 : Int32)) rfl ?_
    refine o_goto G18 at_130 (by decide) (pc' := 134) rfl ?_
    refine o_istore G18 at_134 (pc' := 136) rfl (l' := #[.val (.int p0), .val (.int p1), .val (.int p2), .val (.int p3), .val (.ref b1), .val (.ref b3), .val (.int (0 : Int32)), .val (.int (1 : Int32)), .val (.int (2 : Int32)), .val (.int (0 : Int32)), .val (.int (0 : Int32)), .val (.ref b12), .val (.int (1 : Int32))]) rfl ?_
    refine o_iload G18 at_136 (pc' := 138) rfl rfl ?_
    refine o_if_eq G18 at_138 (by decide) (pcT := 165) (by decide) (pc' := 141) rfl (fun q => absurd q (by decide)) (fun _ => ?_)
    refine o_aload G18 at_141 (pc' := 143) rfl rfl rfl ?_
    refine o_iload G18 at_143 (pc' := 145) rfl rfl ?_
    refine o_callVP G18 (z := (⟨"com/example/keyfold/keyfold/KeyRuns", "entries", "(I)I"⟩ : MethodName)) (argsL := [(.int (0 : Int32))]) (rest := []) (W := 0) (r := .int (((1 : Int32) + p1) + p3)) E_b1 (hw _ (List.mem_of_getElem? (i := 72) rfl)) (hw _ (List.mem_of_getElem? (i := 74) rfl)) (hw _ (List.mem_of_getElem? (i := 73) rfl)) (hw _ (List.mem_of_getElem? (i := 75) rfl)) at_145 (by decide) (hw _ (List.mem_of_getElem? (i := 2) rfl)) (hw _ (List.mem_of_getElem? (i := 76) rfl)) (rm11_0 hw b1 h17 n0 G18.sz (3 : Int32) r cc ks st ra ca (((3 : Int32) + p1) + p3) (((1 : Int32) + p1) + p3) (1 : Int32) (1 : Int32) ⟨hlt17, E_b1, F_columns_b1, F_stride_b1, F_runs_b1, F_counts_b1, F_runKeys_b1, F_runStarts_b1, F_runCount_b1, F_entries_b1, A_r, A_c, A_ks, ⟨_, A_st⟩, ⟨_, A_ra⟩, A_ca⟩) (by decide) (by decide) rfl (lenOf pd_2 rfl) rfl (Nat.le_of_eq rfl) (pc' := 148) rfl (by decide) (by decide) ?_
    intro T21 G21
    refine o_iconst G21 at_148 (pc' := 149) rfl (v := (0 : Int32)) rfl ?_
    refine o_iload G21 at_149 (pc' := 151) rfl rfl ?_
    refine o_iload G21 at_151 (pc' := 153) rfl rfl ?_
    refine o_iloadN G21 at_153 (pc' := 154) rfl rfl ?_
    refine o_iloadN G21 at_154 (pc' := 155) rfl rfl ?_
    obtain ⟨v22, e22⟩ : ∃ z, f_12 (0 : Int32) (0 : Int32) (0 : Int32) p1 p3 = z := ⟨_, rfl⟩
    refine o_callP G21 (z := (⟨"com/example/keyfold/keyfold/KeyRunsCountPinLaw", "expected", "(IIIII)I"⟩ : MethodName)) (r := (.int v22)) (argsL := [(.int (0 : Int32)), (.int (0 : Int32)), (.int (0 : Int32)), (.int p1), (.int p3)]) (rest := [(.int (((1 : Int32) + p1) + p3))]) (W := 1) (hw _ (List.mem_of_getElem? (i := 77) rfl)) (hw _ (List.mem_of_getElem? (i := 78) rfl)) at_155 (by decide) (hw _ (List.mem_of_getElem? (i := 79) rfl)) (hw _ (List.mem_of_getElem? (i := 80) rfl)) (by rw [← e22]; exact rm12 hw (0 : Int32) (0 : Int32) (0 : Int32) p1 p3 h17 n0 G21.sz) (by decide) (by decide) rfl (lenOf pd_8 rfl) rfl (Nat.le_of_eq rfl) (pc' := 158) rfl (by decide) (by decide) ?_
    intro T23 G23
    refine o_icmp_ne G23 at_158 (by decide) (pcT := 165) (by decide) (pc' := 161) rfl (fun q => absurd (by subst e19 e20 e22; first | rfl | exact own_e1 _ _ | exact own_e2 _ _ | decide) q) (fun _ => ?_)
    refine o_iconst G23 at_161 (pc' := 162) rfl (v := (1 : Int32)) rfl ?_
    refine o_goto G23 at_162 (by decide) (pc' := 166) rfl ?_
    refine o_istore G23 at_166 (pc' := 168) rfl (l' := #[.val (.int p0), .val (.int p1), .val (.int p2), .val (.int p3), .val (.ref b1), .val (.ref b3), .val (.int (0 : Int32)), .val (.int (1 : Int32)), .val (.int (2 : Int32)), .val (.int (0 : Int32)), .val (.int (0 : Int32)), .val (.ref b12), .val (.int (1 : Int32))]) rfl ?_
    refine o_iload G23 at_168 (pc' := 170) rfl rfl ?_
    refine o_if_eq G23 at_170 (by decide) (pcT := 197) (by decide) (pc' := 173) rfl (fun q => absurd q (by decide)) (fun _ => ?_)
    refine o_aload G23 at_173 (pc' := 175) rfl rfl rfl ?_
    refine o_iload G23 at_175 (pc' := 177) rfl rfl ?_
    refine o_callVP G23 (z := (⟨"com/example/keyfold/keyfold/KeyRuns", "entries", "(I)I"⟩ : MethodName)) (argsL := [(.int (1 : Int32))]) (rest := []) (W := 0) (r := .int (1 : Int32)) E_b1 (hw _ (List.mem_of_getElem? (i := 72) rfl)) (hw _ (List.mem_of_getElem? (i := 74) rfl)) (hw _ (List.mem_of_getElem? (i := 73) rfl)) (hw _ (List.mem_of_getElem? (i := 75) rfl)) at_177 (by decide) (hw _ (List.mem_of_getElem? (i := 2) rfl)) (hw _ (List.mem_of_getElem? (i := 76) rfl)) (rm11_1 hw b1 h17 n0 G23.sz (3 : Int32) r cc ks st ra ca (((3 : Int32) + p1) + p3) (((1 : Int32) + p1) + p3) (1 : Int32) (1 : Int32) ⟨hlt17, E_b1, F_columns_b1, F_stride_b1, F_runs_b1, F_counts_b1, F_runKeys_b1, F_runStarts_b1, F_runCount_b1, F_entries_b1, A_r, A_c, A_ks, ⟨_, A_st⟩, ⟨_, A_ra⟩, A_ca⟩) (by decide) (by decide) rfl (lenOf pd_2 rfl) rfl (Nat.le_of_eq rfl) (pc' := 180) rfl (by decide) (by decide) ?_
    intro T24 G24
    refine o_iconst G24 at_180 (pc' := 181) rfl (v := (1 : Int32)) rfl ?_
    refine o_iload G24 at_181 (pc' := 183) rfl rfl ?_
    refine o_iload G24 at_183 (pc' := 185) rfl rfl ?_
    refine o_iloadN G24 at_185 (pc' := 186) rfl rfl ?_
    refine o_iloadN G24 at_186 (pc' := 187) rfl rfl ?_
    obtain ⟨v25, e25⟩ : ∃ z, f_12 (1 : Int32) (0 : Int32) (0 : Int32) p1 p3 = z := ⟨_, rfl⟩
    refine o_callP G24 (z := (⟨"com/example/keyfold/keyfold/KeyRunsCountPinLaw", "expected", "(IIIII)I"⟩ : MethodName)) (r := (.int v25)) (argsL := [(.int (1 : Int32)), (.int (0 : Int32)), (.int (0 : Int32)), (.int p1), (.int p3)]) (rest := [(.int (1 : Int32))]) (W := 1) (hw _ (List.mem_of_getElem? (i := 77) rfl)) (hw _ (List.mem_of_getElem? (i := 78) rfl)) at_187 (by decide) (hw _ (List.mem_of_getElem? (i := 79) rfl)) (hw _ (List.mem_of_getElem? (i := 80) rfl)) (by rw [← e25]; exact rm12 hw (1 : Int32) (0 : Int32) (0 : Int32) p1 p3 h17 n0 G24.sz) (by decide) (by decide) rfl (lenOf pd_8 rfl) rfl (Nat.le_of_eq rfl) (pc' := 190) rfl (by decide) (by decide) ?_
    intro T26 G26
    refine o_icmp_ne G26 at_190 (by decide) (pcT := 197) (by decide) (pc' := 193) rfl (fun q => absurd (by subst e19 e20 e22 e25; first | rfl | exact own_e1 _ _ | exact own_e2 _ _ | decide) q) (fun _ => ?_)
    refine o_iconst G26 at_193 (pc' := 194) rfl (v := (1 : Int32)) rfl ?_
    refine o_goto G26 at_194 (by decide) (pc' := 198) rfl ?_
    refine o_istore G26 at_198 (pc' := 200) rfl (l' := #[.val (.int p0), .val (.int p1), .val (.int p2), .val (.int p3), .val (.ref b1), .val (.ref b3), .val (.int (0 : Int32)), .val (.int (1 : Int32)), .val (.int (2 : Int32)), .val (.int (0 : Int32)), .val (.int (0 : Int32)), .val (.ref b12), .val (.int (1 : Int32))]) rfl ?_
    refine o_iload G26 at_200 (pc' := 202) rfl rfl ?_
    refine o_if_eq G26 at_202 (by decide) (pcT := 229) (by decide) (pc' := 205) rfl (fun q => absurd q (by decide)) (fun _ => ?_)
    refine o_aload G26 at_205 (pc' := 207) rfl rfl rfl ?_
    refine o_iload G26 at_207 (pc' := 209) rfl rfl ?_
    refine o_callVP G26 (z := (⟨"com/example/keyfold/keyfold/KeyRuns", "entries", "(I)I"⟩ : MethodName)) (argsL := [(.int (2 : Int32))]) (rest := []) (W := 0) (r := .int (1 : Int32)) E_b1 (hw _ (List.mem_of_getElem? (i := 72) rfl)) (hw _ (List.mem_of_getElem? (i := 74) rfl)) (hw _ (List.mem_of_getElem? (i := 73) rfl)) (hw _ (List.mem_of_getElem? (i := 75) rfl)) at_209 (by decide) (hw _ (List.mem_of_getElem? (i := 2) rfl)) (hw _ (List.mem_of_getElem? (i := 76) rfl)) (rm11_2 hw b1 h17 n0 G26.sz (3 : Int32) r cc ks st ra ca (((3 : Int32) + p1) + p3) (((1 : Int32) + p1) + p3) (1 : Int32) (1 : Int32) ⟨hlt17, E_b1, F_columns_b1, F_stride_b1, F_runs_b1, F_counts_b1, F_runKeys_b1, F_runStarts_b1, F_runCount_b1, F_entries_b1, A_r, A_c, A_ks, ⟨_, A_st⟩, ⟨_, A_ra⟩, A_ca⟩) (by decide) (by decide) rfl (lenOf pd_2 rfl) rfl (Nat.le_of_eq rfl) (pc' := 212) rfl (by decide) (by decide) ?_
    intro T27 G27
    refine o_iconst G27 at_212 (pc' := 213) rfl (v := (2 : Int32)) rfl ?_
    refine o_iload G27 at_213 (pc' := 215) rfl rfl ?_
    refine o_iload G27 at_215 (pc' := 217) rfl rfl ?_
    refine o_iloadN G27 at_217 (pc' := 218) rfl rfl ?_
    refine o_iloadN G27 at_218 (pc' := 219) rfl rfl ?_
    obtain ⟨v28, e28⟩ : ∃ z, f_12 (2 : Int32) (0 : Int32) (0 : Int32) p1 p3 = z := ⟨_, rfl⟩
    refine o_callP G27 (z := (⟨"com/example/keyfold/keyfold/KeyRunsCountPinLaw", "expected", "(IIIII)I"⟩ : MethodName)) (r := (.int v28)) (argsL := [(.int (2 : Int32)), (.int (0 : Int32)), (.int (0 : Int32)), (.int p1), (.int p3)]) (rest := [(.int (1 : Int32))]) (W := 1) (hw _ (List.mem_of_getElem? (i := 77) rfl)) (hw _ (List.mem_of_getElem? (i := 78) rfl)) at_219 (by decide) (hw _ (List.mem_of_getElem? (i := 79) rfl)) (hw _ (List.mem_of_getElem? (i := 80) rfl)) (by rw [← e28]; exact rm12 hw (2 : Int32) (0 : Int32) (0 : Int32) p1 p3 h17 n0 G27.sz) (by decide) (by decide) rfl (lenOf pd_8 rfl) rfl (Nat.le_of_eq rfl) (pc' := 222) rfl (by decide) (by decide) ?_
    intro T29 G29
    refine o_icmp_ne G29 at_222 (by decide) (pcT := 229) (by decide) (pc' := 225) rfl (fun q => absurd (by subst e19 e20 e22 e25 e28; first | rfl | exact own_e1 _ _ | exact own_e2 _ _ | decide) q) (fun _ => ?_)
    refine o_iconst G29 at_225 (pc' := 226) rfl (v := (1 : Int32)) rfl ?_
    refine o_goto G29 at_226 (by decide) (pc' := 230) rfl ?_
    refine o_istore G29 at_230 (pc' := 232) rfl (l' := #[.val (.int p0), .val (.int p1), .val (.int p2), .val (.int p3), .val (.ref b1), .val (.ref b3), .val (.int (0 : Int32)), .val (.int (1 : Int32)), .val (.int (2 : Int32)), .val (.int (0 : Int32)), .val (.int (0 : Int32)), .val (.ref b12), .val (.int (1 : Int32))]) rfl ?_
    refine o_iload G29 at_232 (pc' := 234) rfl rfl ?_
    exact o_nreturn (t := .boolean) G29 (by simp) at_234 rfl (by decide) (by decide)
  · subst ha hb
    refine o_iconst G7 at_74 (pc' := 75) rfl (v := (3 : Int32)) rfl ?_
    refine o_newarray G7 (N := 3) (cap := 3) (hw _ (List.mem_of_getElem? (i := 19) rfl)) rfl (by decide) (by decide) at_75 (pc' := 77) rfl (by decide) (by decide) ?_
    intro T30 h30 b30 G30 g30 g_b30 E30 A_b30
    have ne_b3_b30 : b3 ≠ b30 := Nat.ne_of_lt (Nat.lt_of_lt_of_eq A_b3.lt g30.symm)
    have ne_b1_b30 : b1 ≠ b30 := Nat.ne_of_lt (Nat.lt_of_lt_of_eq E_b1.lt g30.symm)
    have ne_r_b30 : r ≠ b30 := Nat.ne_of_lt (Nat.lt_of_lt_of_eq A_r.lt g30.symm)
    have ne_cc_b30 : cc ≠ b30 := Nat.ne_of_lt (Nat.lt_of_lt_of_eq A_c.lt g30.symm)
    have ne_ks_b30 : ks ≠ b30 := Nat.ne_of_lt (Nat.lt_of_lt_of_eq A_ks.lt g30.symm)
    have ne_st_b30 : st ≠ b30 := Nat.ne_of_lt (Nat.lt_of_lt_of_eq A_st.lt g30.symm)
    have ne_ra_b30 : ra ≠ b30 := Nat.ne_of_lt (Nat.lt_of_lt_of_eq A_ra.lt g30.symm)
    have ne_ca_b30 : ca ≠ b30 := Nat.ne_of_lt (Nat.lt_of_lt_of_eq A_ca.lt g30.symm)
    replace A_b3 := A_b3.ext E30
    replace E_b1 := E_b1.ext E30
    replace F_columns_b1 := F_columns_b1.ext E30
    replace F_stride_b1 := F_stride_b1.ext E30
    replace F_runs_b1 := F_runs_b1.ext E30
    replace F_counts_b1 := F_counts_b1.ext E30
    replace F_runKeys_b1 := F_runKeys_b1.ext E30
    replace F_runStarts_b1 := F_runStarts_b1.ext E30
    replace F_runCount_b1 := F_runCount_b1.ext E30
    replace F_entries_b1 := F_entries_b1.ext E30
    replace A_r := A_r.ext E30
    replace A_c := A_c.ext E30
    replace A_ks := A_ks.ext E30
    replace A_st := A_st.ext E30
    replace A_ra := A_ra.ext E30
    replace A_ca := A_ca.ext E30
    replace A_b30 : OArr Z h30 b30 .int 3 (fun _ => (.int (0 : Int32))) := A_b30
    refine o_dup G30 at_77 (pc' := 78) rfl rfl ?_
    refine o_iconst G30 at_78 (pc' := 79) rfl (v := (0 : Int32)) rfl ?_
    refine o_iload G30 at_79 (pc' := 81) rfl rfl ?_
    refine o_iastore G30 A_b30 g_b30 (i := 0) rfl (by decide) at_81 (pc' := 82) rfl ?_
    intro T31 h31 G31 W31 A31
    replace A_b3 := A_b3.other W31 ne_b3_b30
    replace E_b1 := E_b1.wr W31
    replace F_columns_b1 := F_columns_b1.other W31 (Or.inl ne_b1_b30)
    replace F_stride_b1 := F_stride_b1.other W31 (Or.inl ne_b1_b30)
    replace F_runs_b1 := F_runs_b1.other W31 (Or.inl ne_b1_b30)
    replace F_counts_b1 := F_counts_b1.other W31 (Or.inl ne_b1_b30)
    replace F_runKeys_b1 := F_runKeys_b1.other W31 (Or.inl ne_b1_b30)
    replace F_runStarts_b1 := F_runStarts_b1.other W31 (Or.inl ne_b1_b30)
    replace F_runCount_b1 := F_runCount_b1.other W31 (Or.inl ne_b1_b30)
    replace F_entries_b1 := F_entries_b1.other W31 (Or.inl ne_b1_b30)
    replace A_r := A_r.other W31 ne_r_b30
    replace A_c := A_c.other W31 ne_cc_b30
    replace A_ks := A_ks.other W31 ne_ks_b30
    replace A_st := A_st.other W31 ne_st_b30
    replace A_ra := A_ra.other W31 ne_ra_b30
    replace A_ca := A_ca.other W31 ne_ca_b30
    replace A_b30 := A31
    refine o_dup G31 at_82 (pc' := 83) rfl rfl ?_
    refine o_iconst G31 at_83 (pc' := 84) rfl (v := (1 : Int32)) rfl ?_
    refine o_iload G31 at_84 (pc' := 86) rfl rfl ?_
    refine o_iastore G31 A_b30 g_b30 (i := 1) rfl (by decide) at_86 (pc' := 87) rfl ?_
    intro T32 h32 G32 W32 A32
    replace A_b3 := A_b3.other W32 ne_b3_b30
    replace E_b1 := E_b1.wr W32
    replace F_columns_b1 := F_columns_b1.other W32 (Or.inl ne_b1_b30)
    replace F_stride_b1 := F_stride_b1.other W32 (Or.inl ne_b1_b30)
    replace F_runs_b1 := F_runs_b1.other W32 (Or.inl ne_b1_b30)
    replace F_counts_b1 := F_counts_b1.other W32 (Or.inl ne_b1_b30)
    replace F_runKeys_b1 := F_runKeys_b1.other W32 (Or.inl ne_b1_b30)
    replace F_runStarts_b1 := F_runStarts_b1.other W32 (Or.inl ne_b1_b30)
    replace F_runCount_b1 := F_runCount_b1.other W32 (Or.inl ne_b1_b30)
    replace F_entries_b1 := F_entries_b1.other W32 (Or.inl ne_b1_b30)
    replace A_r := A_r.other W32 ne_r_b30
    replace A_c := A_c.other W32 ne_cc_b30
    replace A_ks := A_ks.other W32 ne_ks_b30
    replace A_st := A_st.other W32 ne_st_b30
    replace A_ra := A_ra.other W32 ne_ra_b30
    replace A_ca := A_ca.other W32 ne_ca_b30
    replace A_b30 := A32
    refine o_dup G32 at_87 (pc' := 88) rfl rfl ?_
    refine o_iconst G32 at_88 (pc' := 89) rfl (v := (2 : Int32)) rfl ?_
    refine o_iload G32 at_89 (pc' := 91) rfl rfl ?_
    refine o_iastore G32 A_b30 g_b30 (i := 2) rfl (by decide) at_91 (pc' := 92) rfl ?_
    intro T33 h33 G33 W33 A33
    replace A_b3 := A_b3.other W33 ne_b3_b30
    replace E_b1 := E_b1.wr W33
    replace F_columns_b1 := F_columns_b1.other W33 (Or.inl ne_b1_b30)
    replace F_stride_b1 := F_stride_b1.other W33 (Or.inl ne_b1_b30)
    replace F_runs_b1 := F_runs_b1.other W33 (Or.inl ne_b1_b30)
    replace F_counts_b1 := F_counts_b1.other W33 (Or.inl ne_b1_b30)
    replace F_runKeys_b1 := F_runKeys_b1.other W33 (Or.inl ne_b1_b30)
    replace F_runStarts_b1 := F_runStarts_b1.other W33 (Or.inl ne_b1_b30)
    replace F_runCount_b1 := F_runCount_b1.other W33 (Or.inl ne_b1_b30)
    replace F_entries_b1 := F_entries_b1.other W33 (Or.inl ne_b1_b30)
    replace A_r := A_r.other W33 ne_r_b30
    replace A_c := A_c.other W33 ne_cc_b30
    replace A_ks := A_ks.other W33 ne_ks_b30
    replace A_st := A_st.other W33 ne_st_b30
    replace A_ra := A_ra.other W33 ne_ra_b30
    replace A_ca := A_ca.other W33 ne_ca_b30
    replace A_b30 := A33
    refine o_astore G33 at_92 (pc' := 94) rfl rfl (l' := #[.val (.int p0), .val (.int p1), .val (.int p2), .val (.int p3), .val (.ref b1), .val (.ref b3), .val (.int (0 : Int32)), .val (.int (1 : Int32)), .val (.int (2 : Int32)), .val (.int (0 : Int32)), .val (.int (1 : Int32)), .val (.ref b30), .unset]) rfl ?_
    refine o_aload G33 at_94 (pc' := 96) rfl rfl rfl ?_
    refine o_aload G33 at_96 (pc' := 98) rfl rfl rfl ?_
    refine o_iload G33 at_98 (pc' := 100) rfl rfl ?_
    refine o_iaload G33 A_b30 (i := 0) rfl (by decide) (v := (.int (0 : Int32))) rfl at_100 (pc' := 101) rfl ?_
    refine o_iloadN G33 at_101 (pc' := 102) rfl rfl ?_
    refine o_callV G33 (z := (⟨"com/example/keyfold/keyfold/KeyRuns", "count", "(II)V"⟩ : MethodName)) (argsL := [(.int (0 : Int32)), (.int p1)]) (rest := []) (W := 0) E_b1 (hw _ (List.mem_of_getElem? (i := 62) rfl)) (hw _ (List.mem_of_getElem? (i := 64) rfl)) (hw _ (List.mem_of_getElem? (i := 63) rfl)) (hw _ (List.mem_of_getElem? (i := 65) rfl)) at_102 (by decide) (hw _ (List.mem_of_getElem? (i := 2) rfl)) (hw _ (List.mem_of_getElem? (i := 66) rfl)) (rm9_0 hw b1 p1 h33 n0 G33.sz (3 : Int32) r cc ks st ra ca (3 : Int32) (1 : Int32) (1 : Int32) (1 : Int32) ⟨hlt7, E_b1, F_columns_b1, F_stride_b1, F_runs_b1, F_counts_b1, F_runKeys_b1, F_runStarts_b1, F_runCount_b1, F_entries_b1, A_r, A_c, A_ks, ⟨_, A_st⟩, ⟨_, A_ra⟩, A_ca⟩) (by decide) (by decide) rfl (lenOf pd_1 rfl) rfl (Nat.le_of_eq rfl) (pc' := 105) rfl (by decide) (by decide) ?_
    rintro _ T34 h34 G34 ⟨rfl, K34, KR34⟩
    replace A_b3 := A_b3.keep K34 (ninS (Ne.symm ne_b1_b3) (ninS (Ne.symm ne_ca_b3) nin0))
    replace E_b1 := E_b1.keep K34
    replace A_r := A_r.keep K34 (ninS (Ne.symm (o_ne (by omega))) (ninS (o_ne (by omega)) nin0))
    replace A_c := A_c.keep K34 (ninS (Ne.symm (o_ne (by omega))) (ninS (o_ne (by omega)) nin0))
    replace A_ks := A_ks.keep K34 (ninS (Ne.symm (o_ne (by omega))) (ninS (o_ne (by omega)) nin0))
    replace A_st := A_st.keep K34 (ninS (Ne.symm (o_ne (by omega))) (ninS (o_ne (by omega)) nin0))
    replace A_ra := A_ra.keep K34 (ninS (Ne.symm (o_ne (by omega))) (ninS (o_ne (by omega)) nin0))
    replace A_b30 := A_b30.keep K34 (ninS (Ne.symm ne_b1_b30) (ninS (Ne.symm ne_ca_b30) nin0))
    obtain ⟨hlt34, E_b1, F_columns_b1, F_stride_b1, F_runs_b1, F_counts_b1, F_runKeys_b1, F_runStarts_b1, F_runCount_b1, F_entries_b1, A_r, A_c, A_ks, ⟨fst, A_st⟩, ⟨fra, A_ra⟩, A_ca⟩ := KR34
    show OFin n0 p e below s (fun v _ => v = some (.int 1)) 32 768 T34 (mkF m 105 #[.val (.int p0), .val (.int p1), .val (.int p2), .val (.int p3), .val (.ref b1), .val (.ref b3), .val (.int (0 : Int32)), .val (.int (1 : Int32)), .val (.int (2 : Int32)), .val (.int (0 : Int32)), .val (.int (1 : Int32)), .val (.ref b30), .unset] [])
    refine o_aload G34 at_105 (pc' := 107) rfl rfl rfl ?_
    refine o_aload G34 at_107 (pc' := 109) rfl rfl rfl ?_
    refine o_iload G34 at_109 (pc' := 111) rfl rfl ?_
    refine o_iaload G34 A_b30 (i := 1) rfl (by decide) (v := (.int (1 : Int32))) rfl at_111 (pc' := 112) rfl ?_
    refine o_iloadN G34 at_112 (pc' := 113) rfl rfl ?_
    refine o_callV G34 (z := (⟨"com/example/keyfold/keyfold/KeyRuns", "count", "(II)V"⟩ : MethodName)) (argsL := [(.int (1 : Int32)), (.int p3)]) (rest := []) (W := 0) E_b1 (hw _ (List.mem_of_getElem? (i := 62) rfl)) (hw _ (List.mem_of_getElem? (i := 64) rfl)) (hw _ (List.mem_of_getElem? (i := 63) rfl)) (hw _ (List.mem_of_getElem? (i := 65) rfl)) at_113 (by decide) (hw _ (List.mem_of_getElem? (i := 2) rfl)) (hw _ (List.mem_of_getElem? (i := 66) rfl)) (rm9_1 hw b1 p3 h34 n0 G34.sz (3 : Int32) r cc ks st ra ca ((3 : Int32) + p1) ((1 : Int32) + p1) (1 : Int32) (1 : Int32) ⟨hlt34, E_b1, F_columns_b1, F_stride_b1, F_runs_b1, F_counts_b1, F_runKeys_b1, F_runStarts_b1, F_runCount_b1, F_entries_b1, A_r, A_c, A_ks, ⟨_, A_st⟩, ⟨_, A_ra⟩, A_ca⟩) (by decide) (by decide) rfl (lenOf pd_1 rfl) rfl (Nat.le_of_eq rfl) (pc' := 116) rfl (by decide) (by decide) ?_
    rintro _ T35 h35 G35 ⟨rfl, K35, KR35⟩
    replace A_b3 := A_b3.keep K35 (ninS (Ne.symm ne_b1_b3) (ninS (Ne.symm ne_ca_b3) nin0))
    replace A_b30 := A_b30.keep K35 (ninS (Ne.symm ne_b1_b30) (ninS (Ne.symm ne_ca_b30) nin0))
    replace E_b1 := E_b1.keep K35
    replace A_r := A_r.keep K35 (ninS (Ne.symm (o_ne (by omega))) (ninS (o_ne (by omega)) nin0))
    replace A_c := A_c.keep K35 (ninS (Ne.symm (o_ne (by omega))) (ninS (o_ne (by omega)) nin0))
    replace A_ks := A_ks.keep K35 (ninS (Ne.symm (o_ne (by omega))) (ninS (o_ne (by omega)) nin0))
    replace A_st := A_st.keep K35 (ninS (Ne.symm (o_ne (by omega))) (ninS (o_ne (by omega)) nin0))
    replace A_ra := A_ra.keep K35 (ninS (Ne.symm (o_ne (by omega))) (ninS (o_ne (by omega)) nin0))
    obtain ⟨hlt35, E_b1, F_columns_b1, F_stride_b1, F_runs_b1, F_counts_b1, F_runKeys_b1, F_runStarts_b1, F_runCount_b1, F_entries_b1, A_r, A_c, A_ks, ⟨fst, A_st⟩, ⟨fra, A_ra⟩, A_ca⟩ := KR35
    show OFin n0 p e below s (fun v _ => v = some (.int 1)) 32 768 T35 (mkF m 116 #[.val (.int p0), .val (.int p1), .val (.int p2), .val (.int p3), .val (.ref b1), .val (.ref b3), .val (.int (0 : Int32)), .val (.int (1 : Int32)), .val (.int (2 : Int32)), .val (.int (0 : Int32)), .val (.int (1 : Int32)), .val (.ref b30), .unset] [])
    refine o_aload G35 at_116 (pc' := 118) rfl rfl rfl ?_
    refine o_callVP G35 (z := (⟨"com/example/keyfold/keyfold/KeyRuns", "entries", "()I"⟩ : MethodName)) (argsL := []) (rest := []) (W := 0) (r := .int (((3 : Int32) + p1) + p3)) E_b1 (hw _ (List.mem_of_getElem? (i := 67) rfl)) (hw _ (List.mem_of_getElem? (i := 69) rfl)) (hw _ (List.mem_of_getElem? (i := 68) rfl)) (hw _ (List.mem_of_getElem? (i := 70) rfl)) at_118 (by decide) (hw _ (List.mem_of_getElem? (i := 2) rfl)) (hw _ (List.mem_of_getElem? (i := 71) rfl)) (rm10 hw b1 h35 n0 G35.sz (((3 : Int32) + p1) + p3) F_entries_b1) (by decide) (by decide) rfl (lenOf pd_7 rfl) rfl (Nat.le_of_eq rfl) (pc' := 121) rfl (by decide) (by decide) ?_
    intro T36 G36
    refine o_iconst G36 at_121 (pc' := 122) rfl (v := (3 : Int32)) rfl ?_
    refine o_iloadN G36 at_122 (pc' := 123) rfl rfl ?_
    obtain ⟨v37, e37⟩ : ∃ z, (3 : Int32) + p1 = z := ⟨_, rfl⟩
    refine o_iadd G36 at_123 (pc' := 124) rfl e37 ?_
    refine o_iloadN G36 at_124 (pc' := 125) rfl rfl ?_
    obtain ⟨v38, e38⟩ : ∃ z, v37 + p3 = z := ⟨_, rfl⟩
    refine o_iadd G36 at_125 (pc' := 126) rfl e38 ?_
    refine o_icmp_ne G36 at_126 (by decide) (pcT := 133) (by decide) (pc' := 129) rfl (fun q => absurd (by subst e37 e38; first | rfl | exact own_e1 _ _ | exact own_e2 _ _ | decide) q) (fun _ => ?_)
    refine o_iconst G36 at_129 (pc' := 130) rfl (v := (1 : Int32)) rfl ?_
    refine o_goto G36 at_130 (by decide) (pc' := 134) rfl ?_
    refine o_istore G36 at_134 (pc' := 136) rfl (l' := #[.val (.int p0), .val (.int p1), .val (.int p2), .val (.int p3), .val (.ref b1), .val (.ref b3), .val (.int (0 : Int32)), .val (.int (1 : Int32)), .val (.int (2 : Int32)), .val (.int (0 : Int32)), .val (.int (1 : Int32)), .val (.ref b30), .val (.int (1 : Int32))]) rfl ?_
    refine o_iload G36 at_136 (pc' := 138) rfl rfl ?_
    refine o_if_eq G36 at_138 (by decide) (pcT := 165) (by decide) (pc' := 141) rfl (fun q => absurd q (by decide)) (fun _ => ?_)
    refine o_aload G36 at_141 (pc' := 143) rfl rfl rfl ?_
    refine o_iload G36 at_143 (pc' := 145) rfl rfl ?_
    refine o_callVP G36 (z := (⟨"com/example/keyfold/keyfold/KeyRuns", "entries", "(I)I"⟩ : MethodName)) (argsL := [(.int (0 : Int32))]) (rest := []) (W := 0) (r := .int ((1 : Int32) + p1)) E_b1 (hw _ (List.mem_of_getElem? (i := 72) rfl)) (hw _ (List.mem_of_getElem? (i := 74) rfl)) (hw _ (List.mem_of_getElem? (i := 73) rfl)) (hw _ (List.mem_of_getElem? (i := 75) rfl)) at_145 (by decide) (hw _ (List.mem_of_getElem? (i := 2) rfl)) (hw _ (List.mem_of_getElem? (i := 76) rfl)) (rm11_0 hw b1 h35 n0 G36.sz (3 : Int32) r cc ks st ra ca (((3 : Int32) + p1) + p3) ((1 : Int32) + p1) ((1 : Int32) + p3) (1 : Int32) ⟨hlt35, E_b1, F_columns_b1, F_stride_b1, F_runs_b1, F_counts_b1, F_runKeys_b1, F_runStarts_b1, F_runCount_b1, F_entries_b1, A_r, A_c, A_ks, ⟨_, A_st⟩, ⟨_, A_ra⟩, A_ca⟩) (by decide) (by decide) rfl (lenOf pd_2 rfl) rfl (Nat.le_of_eq rfl) (pc' := 148) rfl (by decide) (by decide) ?_
    intro T39 G39
    refine o_iconst G39 at_148 (pc' := 149) rfl (v := (0 : Int32)) rfl ?_
    refine o_iload G39 at_149 (pc' := 151) rfl rfl ?_
    refine o_iload G39 at_151 (pc' := 153) rfl rfl ?_
    refine o_iloadN G39 at_153 (pc' := 154) rfl rfl ?_
    refine o_iloadN G39 at_154 (pc' := 155) rfl rfl ?_
    obtain ⟨v40, e40⟩ : ∃ z, f_12 (0 : Int32) (0 : Int32) (1 : Int32) p1 p3 = z := ⟨_, rfl⟩
    refine o_callP G39 (z := (⟨"com/example/keyfold/keyfold/KeyRunsCountPinLaw", "expected", "(IIIII)I"⟩ : MethodName)) (r := (.int v40)) (argsL := [(.int (0 : Int32)), (.int (0 : Int32)), (.int (1 : Int32)), (.int p1), (.int p3)]) (rest := [(.int ((1 : Int32) + p1))]) (W := 1) (hw _ (List.mem_of_getElem? (i := 77) rfl)) (hw _ (List.mem_of_getElem? (i := 78) rfl)) at_155 (by decide) (hw _ (List.mem_of_getElem? (i := 79) rfl)) (hw _ (List.mem_of_getElem? (i := 80) rfl)) (by rw [← e40]; exact rm12 hw (0 : Int32) (0 : Int32) (1 : Int32) p1 p3 h35 n0 G39.sz) (by decide) (by decide) rfl (lenOf pd_8 rfl) rfl (Nat.le_of_eq rfl) (pc' := 158) rfl (by decide) (by decide) ?_
    intro T41 G41
    refine o_icmp_ne G41 at_158 (by decide) (pcT := 165) (by decide) (pc' := 161) rfl (fun q => absurd (by subst e37 e38 e40; first | rfl | exact own_e1 _ _ | exact own_e2 _ _ | decide) q) (fun _ => ?_)
    refine o_iconst G41 at_161 (pc' := 162) rfl (v := (1 : Int32)) rfl ?_
    refine o_goto G41 at_162 (by decide) (pc' := 166) rfl ?_
    refine o_istore G41 at_166 (pc' := 168) rfl (l' := #[.val (.int p0), .val (.int p1), .val (.int p2), .val (.int p3), .val (.ref b1), .val (.ref b3), .val (.int (0 : Int32)), .val (.int (1 : Int32)), .val (.int (2 : Int32)), .val (.int (0 : Int32)), .val (.int (1 : Int32)), .val (.ref b30), .val (.int (1 : Int32))]) rfl ?_
    refine o_iload G41 at_168 (pc' := 170) rfl rfl ?_
    refine o_if_eq G41 at_170 (by decide) (pcT := 197) (by decide) (pc' := 173) rfl (fun q => absurd q (by decide)) (fun _ => ?_)
    refine o_aload G41 at_173 (pc' := 175) rfl rfl rfl ?_
    refine o_iload G41 at_175 (pc' := 177) rfl rfl ?_
    refine o_callVP G41 (z := (⟨"com/example/keyfold/keyfold/KeyRuns", "entries", "(I)I"⟩ : MethodName)) (argsL := [(.int (1 : Int32))]) (rest := []) (W := 0) (r := .int ((1 : Int32) + p3)) E_b1 (hw _ (List.mem_of_getElem? (i := 72) rfl)) (hw _ (List.mem_of_getElem? (i := 74) rfl)) (hw _ (List.mem_of_getElem? (i := 73) rfl)) (hw _ (List.mem_of_getElem? (i := 75) rfl)) at_177 (by decide) (hw _ (List.mem_of_getElem? (i := 2) rfl)) (hw _ (List.mem_of_getElem? (i := 76) rfl)) (rm11_1 hw b1 h35 n0 G41.sz (3 : Int32) r cc ks st ra ca (((3 : Int32) + p1) + p3) ((1 : Int32) + p1) ((1 : Int32) + p3) (1 : Int32) ⟨hlt35, E_b1, F_columns_b1, F_stride_b1, F_runs_b1, F_counts_b1, F_runKeys_b1, F_runStarts_b1, F_runCount_b1, F_entries_b1, A_r, A_c, A_ks, ⟨_, A_st⟩, ⟨_, A_ra⟩, A_ca⟩) (by decide) (by decide) rfl (lenOf pd_2 rfl) rfl (Nat.le_of_eq rfl) (pc' := 180) rfl (by decide) (by decide) ?_
    intro T42 G42
    refine o_iconst G42 at_180 (pc' := 181) rfl (v := (1 : Int32)) rfl ?_
    refine o_iload G42 at_181 (pc' := 183) rfl rfl ?_
    refine o_iload G42 at_183 (pc' := 185) rfl rfl ?_
    refine o_iloadN G42 at_185 (pc' := 186) rfl rfl ?_
    refine o_iloadN G42 at_186 (pc' := 187) rfl rfl ?_
    obtain ⟨v43, e43⟩ : ∃ z, f_12 (1 : Int32) (0 : Int32) (1 : Int32) p1 p3 = z := ⟨_, rfl⟩
    refine o_callP G42 (z := (⟨"com/example/keyfold/keyfold/KeyRunsCountPinLaw", "expected", "(IIIII)I"⟩ : MethodName)) (r := (.int v43)) (argsL := [(.int (1 : Int32)), (.int (0 : Int32)), (.int (1 : Int32)), (.int p1), (.int p3)]) (rest := [(.int ((1 : Int32) + p3))]) (W := 1) (hw _ (List.mem_of_getElem? (i := 77) rfl)) (hw _ (List.mem_of_getElem? (i := 78) rfl)) at_187 (by decide) (hw _ (List.mem_of_getElem? (i := 79) rfl)) (hw _ (List.mem_of_getElem? (i := 80) rfl)) (by rw [← e43]; exact rm12 hw (1 : Int32) (0 : Int32) (1 : Int32) p1 p3 h35 n0 G42.sz) (by decide) (by decide) rfl (lenOf pd_8 rfl) rfl (Nat.le_of_eq rfl) (pc' := 190) rfl (by decide) (by decide) ?_
    intro T44 G44
    refine o_icmp_ne G44 at_190 (by decide) (pcT := 197) (by decide) (pc' := 193) rfl (fun q => absurd (by subst e37 e38 e40 e43; first | rfl | exact own_e1 _ _ | exact own_e2 _ _ | decide) q) (fun _ => ?_)
    refine o_iconst G44 at_193 (pc' := 194) rfl (v := (1 : Int32)) rfl ?_
    refine o_goto G44 at_194 (by decide) (pc' := 198) rfl ?_
    refine o_istore G44 at_198 (pc' := 200) rfl (l' := #[.val (.int p0), .val (.int p1), .val (.int p2), .val (.int p3), .val (.ref b1), .val (.ref b3), .val (.int (0 : Int32)), .val (.int (1 : Int32)), .val (.int (2 : Int32)), .val (.int (0 : Int32)), .val (.int (1 : Int32)), .val (.ref b30), .val (.int (1 : Int32))]) rfl ?_
    refine o_iload G44 at_200 (pc' := 202) rfl rfl ?_
    refine o_if_eq G44 at_202 (by decide) (pcT := 229) (by decide) (pc' := 205) rfl (fun q => absurd q (by decide)) (fun _ => ?_)
    refine o_aload G44 at_205 (pc' := 207) rfl rfl rfl ?_
    refine o_iload G44 at_207 (pc' := 209) rfl rfl ?_
    refine o_callVP G44 (z := (⟨"com/example/keyfold/keyfold/KeyRuns", "entries", "(I)I"⟩ : MethodName)) (argsL := [(.int (2 : Int32))]) (rest := []) (W := 0) (r := .int (1 : Int32)) E_b1 (hw _ (List.mem_of_getElem? (i := 72) rfl)) (hw _ (List.mem_of_getElem? (i := 74) rfl)) (hw _ (List.mem_of_getElem? (i := 73) rfl)) (hw _ (List.mem_of_getElem? (i := 75) rfl)) at_209 (by decide) (hw _ (List.mem_of_getElem? (i := 2) rfl)) (hw _ (List.mem_of_getElem? (i := 76) rfl)) (rm11_2 hw b1 h35 n0 G44.sz (3 : Int32) r cc ks st ra ca (((3 : Int32) + p1) + p3) ((1 : Int32) + p1) ((1 : Int32) + p3) (1 : Int32) ⟨hlt35, E_b1, F_columns_b1, F_stride_b1, F_runs_b1, F_counts_b1, F_runKeys_b1, F_runStarts_b1, F_runCount_b1, F_entries_b1, A_r, A_c, A_ks, ⟨_, A_st⟩, ⟨_, A_ra⟩, A_ca⟩) (by decide) (by decide) rfl (lenOf pd_2 rfl) rfl (Nat.le_of_eq rfl) (pc' := 212) rfl (by decide) (by decide) ?_
    intro T45 G45
    refine o_iconst G45 at_212 (pc' := 213) rfl (v := (2 : Int32)) rfl ?_
    refine o_iload G45 at_213 (pc' := 215) rfl rfl ?_
    refine o_iload G45 at_215 (pc' := 217) rfl rfl ?_
    refine o_iloadN G45 at_217 (pc' := 218) rfl rfl ?_
    refine o_iloadN G45 at_218 (pc' := 219) rfl rfl ?_
    obtain ⟨v46, e46⟩ : ∃ z, f_12 (2 : Int32) (0 : Int32) (1 : Int32) p1 p3 = z := ⟨_, rfl⟩
    refine o_callP G45 (z := (⟨"com/example/keyfold/keyfold/KeyRunsCountPinLaw", "expected", "(IIIII)I"⟩ : MethodName)) (r := (.int v46)) (argsL := [(.int (2 : Int32)), (.int (0 : Int32)), (.int (1 : Int32)), (.int p1), (.int p3)]) (rest := [(.int (1 : Int32))]) (W := 1) (hw _ (List.mem_of_getElem? (i := 77) rfl)) (hw _ (List.mem_of_getElem? (i := 78) rfl)) at_219 (by decide) (hw _ (List.mem_of_getElem? (i := 79) rfl)) (hw _ (List.mem_of_getElem? (i := 80) rfl)) (by rw [← e46]; exact rm12 hw (2 : Int32) (0 : Int32) (1 : Int32) p1 p3 h35 n0 G45.sz) (by decide) (by decide) rfl (lenOf pd_8 rfl) rfl (Nat.le_of_eq rfl) (pc' := 222) rfl (by decide) (by decide) ?_
    intro T47 G47
    refine o_icmp_ne G47 at_222 (by decide) (pcT := 229) (by decide) (pc' := 225) rfl (fun q => absurd (by subst e37 e38 e40 e43 e46; first | rfl | exact own_e1 _ _ | exact own_e2 _ _ | decide) q) (fun _ => ?_)
    refine o_iconst G47 at_225 (pc' := 226) rfl (v := (1 : Int32)) rfl ?_
    refine o_goto G47 at_226 (by decide) (pc' := 230) rfl ?_
    refine o_istore G47 at_230 (pc' := 232) rfl (l' := #[.val (.int p0), .val (.int p1), .val (.int p2), .val (.int p3), .val (.ref b1), .val (.ref b3), .val (.int (0 : Int32)), .val (.int (1 : Int32)), .val (.int (2 : Int32)), .val (.int (0 : Int32)), .val (.int (1 : Int32)), .val (.ref b30), .val (.int (1 : Int32))]) rfl ?_
    refine o_iload G47 at_232 (pc' := 234) rfl rfl ?_
    exact o_nreturn (t := .boolean) G47 (by simp) at_234 rfl (by decide) (by decide)
  · subst ha hb
    refine o_iconst G7 at_74 (pc' := 75) rfl (v := (3 : Int32)) rfl ?_
    refine o_newarray G7 (N := 3) (cap := 3) (hw _ (List.mem_of_getElem? (i := 19) rfl)) rfl (by decide) (by decide) at_75 (pc' := 77) rfl (by decide) (by decide) ?_
    intro T48 h48 b48 G48 g48 g_b48 E48 A_b48
    have ne_b3_b48 : b3 ≠ b48 := Nat.ne_of_lt (Nat.lt_of_lt_of_eq A_b3.lt g48.symm)
    have ne_b1_b48 : b1 ≠ b48 := Nat.ne_of_lt (Nat.lt_of_lt_of_eq E_b1.lt g48.symm)
    have ne_r_b48 : r ≠ b48 := Nat.ne_of_lt (Nat.lt_of_lt_of_eq A_r.lt g48.symm)
    have ne_cc_b48 : cc ≠ b48 := Nat.ne_of_lt (Nat.lt_of_lt_of_eq A_c.lt g48.symm)
    have ne_ks_b48 : ks ≠ b48 := Nat.ne_of_lt (Nat.lt_of_lt_of_eq A_ks.lt g48.symm)
    have ne_st_b48 : st ≠ b48 := Nat.ne_of_lt (Nat.lt_of_lt_of_eq A_st.lt g48.symm)
    have ne_ra_b48 : ra ≠ b48 := Nat.ne_of_lt (Nat.lt_of_lt_of_eq A_ra.lt g48.symm)
    have ne_ca_b48 : ca ≠ b48 := Nat.ne_of_lt (Nat.lt_of_lt_of_eq A_ca.lt g48.symm)
    replace A_b3 := A_b3.ext E48
    replace E_b1 := E_b1.ext E48
    replace F_columns_b1 := F_columns_b1.ext E48
    replace F_stride_b1 := F_stride_b1.ext E48
    replace F_runs_b1 := F_runs_b1.ext E48
    replace F_counts_b1 := F_counts_b1.ext E48
    replace F_runKeys_b1 := F_runKeys_b1.ext E48
    replace F_runStarts_b1 := F_runStarts_b1.ext E48
    replace F_runCount_b1 := F_runCount_b1.ext E48
    replace F_entries_b1 := F_entries_b1.ext E48
    replace A_r := A_r.ext E48
    replace A_c := A_c.ext E48
    replace A_ks := A_ks.ext E48
    replace A_st := A_st.ext E48
    replace A_ra := A_ra.ext E48
    replace A_ca := A_ca.ext E48
    replace A_b48 : OArr Z h48 b48 .int 3 (fun _ => (.int (0 : Int32))) := A_b48
    refine o_dup G48 at_77 (pc' := 78) rfl rfl ?_
    refine o_iconst G48 at_78 (pc' := 79) rfl (v := (0 : Int32)) rfl ?_
    refine o_iload G48 at_79 (pc' := 81) rfl rfl ?_
    refine o_iastore G48 A_b48 g_b48 (i := 0) rfl (by decide) at_81 (pc' := 82) rfl ?_
    intro T49 h49 G49 W49 A49
    replace A_b3 := A_b3.other W49 ne_b3_b48
    replace E_b1 := E_b1.wr W49
    replace F_columns_b1 := F_columns_b1.other W49 (Or.inl ne_b1_b48)
    replace F_stride_b1 := F_stride_b1.other W49 (Or.inl ne_b1_b48)
    replace F_runs_b1 := F_runs_b1.other W49 (Or.inl ne_b1_b48)
    replace F_counts_b1 := F_counts_b1.other W49 (Or.inl ne_b1_b48)
    replace F_runKeys_b1 := F_runKeys_b1.other W49 (Or.inl ne_b1_b48)
    replace F_runStarts_b1 := F_runStarts_b1.other W49 (Or.inl ne_b1_b48)
    replace F_runCount_b1 := F_runCount_b1.other W49 (Or.inl ne_b1_b48)
    replace F_entries_b1 := F_entries_b1.other W49 (Or.inl ne_b1_b48)
    replace A_r := A_r.other W49 ne_r_b48
    replace A_c := A_c.other W49 ne_cc_b48
    replace A_ks := A_ks.other W49 ne_ks_b48
    replace A_st := A_st.other W49 ne_st_b48
    replace A_ra := A_ra.other W49 ne_ra_b48
    replace A_ca := A_ca.other W49 ne_ca_b48
    replace A_b48 := A49
    refine o_dup G49 at_82 (pc' := 83) rfl rfl ?_
    refine o_iconst G49 at_83 (pc' := 84) rfl (v := (1 : Int32)) rfl ?_
    refine o_iload G49 at_84 (pc' := 86) rfl rfl ?_
    refine o_iastore G49 A_b48 g_b48 (i := 1) rfl (by decide) at_86 (pc' := 87) rfl ?_
    intro T50 h50 G50 W50 A50
    replace A_b3 := A_b3.other W50 ne_b3_b48
    replace E_b1 := E_b1.wr W50
    replace F_columns_b1 := F_columns_b1.other W50 (Or.inl ne_b1_b48)
    replace F_stride_b1 := F_stride_b1.other W50 (Or.inl ne_b1_b48)
    replace F_runs_b1 := F_runs_b1.other W50 (Or.inl ne_b1_b48)
    replace F_counts_b1 := F_counts_b1.other W50 (Or.inl ne_b1_b48)
    replace F_runKeys_b1 := F_runKeys_b1.other W50 (Or.inl ne_b1_b48)
    replace F_runStarts_b1 := F_runStarts_b1.other W50 (Or.inl ne_b1_b48)
    replace F_runCount_b1 := F_runCount_b1.other W50 (Or.inl ne_b1_b48)
    replace F_entries_b1 := F_entries_b1.other W50 (Or.inl ne_b1_b48)
    replace A_r := A_r.other W50 ne_r_b48
    replace A_c := A_c.other W50 ne_cc_b48
    replace A_ks := A_ks.other W50 ne_ks_b48
    replace A_st := A_st.other W50 ne_st_b48
    replace A_ra := A_ra.other W50 ne_ra_b48
    replace A_ca := A_ca.other W50 ne_ca_b48
    replace A_b48 := A50
    refine o_dup G50 at_87 (pc' := 88) rfl rfl ?_
    refine o_iconst G50 at_88 (pc' := 89) rfl (v := (2 : Int32)) rfl ?_
    refine o_iload G50 at_89 (pc' := 91) rfl rfl ?_
    refine o_iastore G50 A_b48 g_b48 (i := 2) rfl (by decide) at_91 (pc' := 92) rfl ?_
    intro T51 h51 G51 W51 A51
    replace A_b3 := A_b3.other W51 ne_b3_b48
    replace E_b1 := E_b1.wr W51
    replace F_columns_b1 := F_columns_b1.other W51 (Or.inl ne_b1_b48)
    replace F_stride_b1 := F_stride_b1.other W51 (Or.inl ne_b1_b48)
    replace F_runs_b1 := F_runs_b1.other W51 (Or.inl ne_b1_b48)
    replace F_counts_b1 := F_counts_b1.other W51 (Or.inl ne_b1_b48)
    replace F_runKeys_b1 := F_runKeys_b1.other W51 (Or.inl ne_b1_b48)
    replace F_runStarts_b1 := F_runStarts_b1.other W51 (Or.inl ne_b1_b48)
    replace F_runCount_b1 := F_runCount_b1.other W51 (Or.inl ne_b1_b48)
    replace F_entries_b1 := F_entries_b1.other W51 (Or.inl ne_b1_b48)
    replace A_r := A_r.other W51 ne_r_b48
    replace A_c := A_c.other W51 ne_cc_b48
    replace A_ks := A_ks.other W51 ne_ks_b48
    replace A_st := A_st.other W51 ne_st_b48
    replace A_ra := A_ra.other W51 ne_ra_b48
    replace A_ca := A_ca.other W51 ne_ca_b48
    replace A_b48 := A51
    refine o_astore G51 at_92 (pc' := 94) rfl rfl (l' := #[.val (.int p0), .val (.int p1), .val (.int p2), .val (.int p3), .val (.ref b1), .val (.ref b3), .val (.int (0 : Int32)), .val (.int (1 : Int32)), .val (.int (2 : Int32)), .val (.int (0 : Int32)), .val (.int (2 : Int32)), .val (.ref b48), .unset]) rfl ?_
    refine o_aload G51 at_94 (pc' := 96) rfl rfl rfl ?_
    refine o_aload G51 at_96 (pc' := 98) rfl rfl rfl ?_
    refine o_iload G51 at_98 (pc' := 100) rfl rfl ?_
    refine o_iaload G51 A_b48 (i := 0) rfl (by decide) (v := (.int (0 : Int32))) rfl at_100 (pc' := 101) rfl ?_
    refine o_iloadN G51 at_101 (pc' := 102) rfl rfl ?_
    refine o_callV G51 (z := (⟨"com/example/keyfold/keyfold/KeyRuns", "count", "(II)V"⟩ : MethodName)) (argsL := [(.int (0 : Int32)), (.int p1)]) (rest := []) (W := 0) E_b1 (hw _ (List.mem_of_getElem? (i := 62) rfl)) (hw _ (List.mem_of_getElem? (i := 64) rfl)) (hw _ (List.mem_of_getElem? (i := 63) rfl)) (hw _ (List.mem_of_getElem? (i := 65) rfl)) at_102 (by decide) (hw _ (List.mem_of_getElem? (i := 2) rfl)) (hw _ (List.mem_of_getElem? (i := 66) rfl)) (rm9_0 hw b1 p1 h51 n0 G51.sz (3 : Int32) r cc ks st ra ca (3 : Int32) (1 : Int32) (1 : Int32) (1 : Int32) ⟨hlt7, E_b1, F_columns_b1, F_stride_b1, F_runs_b1, F_counts_b1, F_runKeys_b1, F_runStarts_b1, F_runCount_b1, F_entries_b1, A_r, A_c, A_ks, ⟨_, A_st⟩, ⟨_, A_ra⟩, A_ca⟩) (by decide) (by decide) rfl (lenOf pd_1 rfl) rfl (Nat.le_of_eq rfl) (pc' := 105) rfl (by decide) (by decide) ?_
    rintro _ T52 h52 G52 ⟨rfl, K52, KR52⟩
    replace A_b3 := A_b3.keep K52 (ninS (Ne.symm ne_b1_b3) (ninS (Ne.symm ne_ca_b3) nin0))
    replace E_b1 := E_b1.keep K52
    replace A_r := A_r.keep K52 (ninS (Ne.symm (o_ne (by omega))) (ninS (o_ne (by omega)) nin0))
    replace A_c := A_c.keep K52 (ninS (Ne.symm (o_ne (by omega))) (ninS (o_ne (by omega)) nin0))
    replace A_ks := A_ks.keep K52 (ninS (Ne.symm (o_ne (by omega))) (ninS (o_ne (by omega)) nin0))
    replace A_st := A_st.keep K52 (ninS (Ne.symm (o_ne (by omega))) (ninS (o_ne (by omega)) nin0))
    replace A_ra := A_ra.keep K52 (ninS (Ne.symm (o_ne (by omega))) (ninS (o_ne (by omega)) nin0))
    replace A_b48 := A_b48.keep K52 (ninS (Ne.symm ne_b1_b48) (ninS (Ne.symm ne_ca_b48) nin0))
    obtain ⟨hlt52, E_b1, F_columns_b1, F_stride_b1, F_runs_b1, F_counts_b1, F_runKeys_b1, F_runStarts_b1, F_runCount_b1, F_entries_b1, A_r, A_c, A_ks, ⟨fst, A_st⟩, ⟨fra, A_ra⟩, A_ca⟩ := KR52
    show OFin n0 p e below s (fun v _ => v = some (.int 1)) 32 768 T52 (mkF m 105 #[.val (.int p0), .val (.int p1), .val (.int p2), .val (.int p3), .val (.ref b1), .val (.ref b3), .val (.int (0 : Int32)), .val (.int (1 : Int32)), .val (.int (2 : Int32)), .val (.int (0 : Int32)), .val (.int (2 : Int32)), .val (.ref b48), .unset] [])
    refine o_aload G52 at_105 (pc' := 107) rfl rfl rfl ?_
    refine o_aload G52 at_107 (pc' := 109) rfl rfl rfl ?_
    refine o_iload G52 at_109 (pc' := 111) rfl rfl ?_
    refine o_iaload G52 A_b48 (i := 2) rfl (by decide) (v := (.int (2 : Int32))) rfl at_111 (pc' := 112) rfl ?_
    refine o_iloadN G52 at_112 (pc' := 113) rfl rfl ?_
    refine o_callV G52 (z := (⟨"com/example/keyfold/keyfold/KeyRuns", "count", "(II)V"⟩ : MethodName)) (argsL := [(.int (2 : Int32)), (.int p3)]) (rest := []) (W := 0) E_b1 (hw _ (List.mem_of_getElem? (i := 62) rfl)) (hw _ (List.mem_of_getElem? (i := 64) rfl)) (hw _ (List.mem_of_getElem? (i := 63) rfl)) (hw _ (List.mem_of_getElem? (i := 65) rfl)) at_113 (by decide) (hw _ (List.mem_of_getElem? (i := 2) rfl)) (hw _ (List.mem_of_getElem? (i := 66) rfl)) (rm9_2 hw b1 p3 h52 n0 G52.sz (3 : Int32) r cc ks st ra ca ((3 : Int32) + p1) ((1 : Int32) + p1) (1 : Int32) (1 : Int32) ⟨hlt52, E_b1, F_columns_b1, F_stride_b1, F_runs_b1, F_counts_b1, F_runKeys_b1, F_runStarts_b1, F_runCount_b1, F_entries_b1, A_r, A_c, A_ks, ⟨_, A_st⟩, ⟨_, A_ra⟩, A_ca⟩) (by decide) (by decide) rfl (lenOf pd_1 rfl) rfl (Nat.le_of_eq rfl) (pc' := 116) rfl (by decide) (by decide) ?_
    rintro _ T53 h53 G53 ⟨rfl, K53, KR53⟩
    replace A_b3 := A_b3.keep K53 (ninS (Ne.symm ne_b1_b3) (ninS (Ne.symm ne_ca_b3) nin0))
    replace A_b48 := A_b48.keep K53 (ninS (Ne.symm ne_b1_b48) (ninS (Ne.symm ne_ca_b48) nin0))
    replace E_b1 := E_b1.keep K53
    replace A_r := A_r.keep K53 (ninS (Ne.symm (o_ne (by omega))) (ninS (o_ne (by omega)) nin0))
    replace A_c := A_c.keep K53 (ninS (Ne.symm (o_ne (by omega))) (ninS (o_ne (by omega)) nin0))
    replace A_ks := A_ks.keep K53 (ninS (Ne.symm (o_ne (by omega))) (ninS (o_ne (by omega)) nin0))
    replace A_st := A_st.keep K53 (ninS (Ne.symm (o_ne (by omega))) (ninS (o_ne (by omega)) nin0))
    replace A_ra := A_ra.keep K53 (ninS (Ne.symm (o_ne (by omega))) (ninS (o_ne (by omega)) nin0))
    obtain ⟨hlt53, E_b1, F_columns_b1, F_stride_b1, F_runs_b1, F_counts_b1, F_runKeys_b1, F_runStarts_b1, F_runCount_b1, F_entries_b1, A_r, A_c, A_ks, ⟨fst, A_st⟩, ⟨fra, A_ra⟩, A_ca⟩ := KR53
    show OFin n0 p e below s (fun v _ => v = some (.int 1)) 32 768 T53 (mkF m 116 #[.val (.int p0), .val (.int p1), .val (.int p2), .val (.int p3), .val (.ref b1), .val (.ref b3), .val (.int (0 : Int32)), .val (.int (1 : Int32)), .val (.int (2 : Int32)), .val (.int (0 : Int32)), .val (.int (2 : Int32)), .val (.ref b48), .unset] [])
    refine o_aload G53 at_116 (pc' := 118) rfl rfl rfl ?_
    refine o_callVP G53 (z := (⟨"com/example/keyfold/keyfold/KeyRuns", "entries", "()I"⟩ : MethodName)) (argsL := []) (rest := []) (W := 0) (r := .int (((3 : Int32) + p1) + p3)) E_b1 (hw _ (List.mem_of_getElem? (i := 67) rfl)) (hw _ (List.mem_of_getElem? (i := 69) rfl)) (hw _ (List.mem_of_getElem? (i := 68) rfl)) (hw _ (List.mem_of_getElem? (i := 70) rfl)) at_118 (by decide) (hw _ (List.mem_of_getElem? (i := 2) rfl)) (hw _ (List.mem_of_getElem? (i := 71) rfl)) (rm10 hw b1 h53 n0 G53.sz (((3 : Int32) + p1) + p3) F_entries_b1) (by decide) (by decide) rfl (lenOf pd_7 rfl) rfl (Nat.le_of_eq rfl) (pc' := 121) rfl (by decide) (by decide) ?_
    intro T54 G54
    refine o_iconst G54 at_121 (pc' := 122) rfl (v := (3 : Int32)) rfl ?_
    refine o_iloadN G54 at_122 (pc' := 123) rfl rfl ?_
    obtain ⟨v55, e55⟩ : ∃ z, (3 : Int32) + p1 = z := ⟨_, rfl⟩
    refine o_iadd G54 at_123 (pc' := 124) rfl e55 ?_
    refine o_iloadN G54 at_124 (pc' := 125) rfl rfl ?_
    obtain ⟨v56, e56⟩ : ∃ z, v55 + p3 = z := ⟨_, rfl⟩
    refine o_iadd G54 at_125 (pc' := 126) rfl e56 ?_
    refine o_icmp_ne G54 at_126 (by decide) (pcT := 133) (by decide) (pc' := 129) rfl (fun q => absurd (by subst e55 e56; first | rfl | exact own_e1 _ _ | exact own_e2 _ _ | decide) q) (fun _ => ?_)
    refine o_iconst G54 at_129 (pc' := 130) rfl (v := (1 : Int32)) rfl ?_
    refine o_goto G54 at_130 (by decide) (pc' := 134) rfl ?_
    refine o_istore G54 at_134 (pc' := 136) rfl (l' := #[.val (.int p0), .val (.int p1), .val (.int p2), .val (.int p3), .val (.ref b1), .val (.ref b3), .val (.int (0 : Int32)), .val (.int (1 : Int32)), .val (.int (2 : Int32)), .val (.int (0 : Int32)), .val (.int (2 : Int32)), .val (.ref b48), .val (.int (1 : Int32))]) rfl ?_
    refine o_iload G54 at_136 (pc' := 138) rfl rfl ?_
    refine o_if_eq G54 at_138 (by decide) (pcT := 165) (by decide) (pc' := 141) rfl (fun q => absurd q (by decide)) (fun _ => ?_)
    refine o_aload G54 at_141 (pc' := 143) rfl rfl rfl ?_
    refine o_iload G54 at_143 (pc' := 145) rfl rfl ?_
    refine o_callVP G54 (z := (⟨"com/example/keyfold/keyfold/KeyRuns", "entries", "(I)I"⟩ : MethodName)) (argsL := [(.int (0 : Int32))]) (rest := []) (W := 0) (r := .int ((1 : Int32) + p1)) E_b1 (hw _ (List.mem_of_getElem? (i := 72) rfl)) (hw _ (List.mem_of_getElem? (i := 74) rfl)) (hw _ (List.mem_of_getElem? (i := 73) rfl)) (hw _ (List.mem_of_getElem? (i := 75) rfl)) at_145 (by decide) (hw _ (List.mem_of_getElem? (i := 2) rfl)) (hw _ (List.mem_of_getElem? (i := 76) rfl)) (rm11_0 hw b1 h53 n0 G54.sz (3 : Int32) r cc ks st ra ca (((3 : Int32) + p1) + p3) ((1 : Int32) + p1) (1 : Int32) ((1 : Int32) + p3) ⟨hlt53, E_b1, F_columns_b1, F_stride_b1, F_runs_b1, F_counts_b1, F_runKeys_b1, F_runStarts_b1, F_runCount_b1, F_entries_b1, A_r, A_c, A_ks, ⟨_, A_st⟩, ⟨_, A_ra⟩, A_ca⟩) (by decide) (by decide) rfl (lenOf pd_2 rfl) rfl (Nat.le_of_eq rfl) (pc' := 148) rfl (by decide) (by decide) ?_
    intro T57 G57
    refine o_iconst G57 at_148 (pc' := 149) rfl (v := (0 : Int32)) rfl ?_
    refine o_iload G57 at_149 (pc' := 151) rfl rfl ?_
    refine o_iload G57 at_151 (pc' := 153) rfl rfl ?_
    refine o_iloadN G57 at_153 (pc' := 154) rfl rfl ?_
    refine o_iloadN G57 at_154 (pc' := 155) rfl rfl ?_
    obtain ⟨v58, e58⟩ : ∃ z, f_12 (0 : Int32) (0 : Int32) (2 : Int32) p1 p3 = z := ⟨_, rfl⟩
    refine o_callP G57 (z := (⟨"com/example/keyfold/keyfold/KeyRunsCountPinLaw", "expected", "(IIIII)I"⟩ : MethodName)) (r := (.int v58)) (argsL := [(.int (0 : Int32)), (.int (0 : Int32)), (.int (2 : Int32)), (.int p1), (.int p3)]) (rest := [(.int ((1 : Int32) + p1))]) (W := 1) (hw _ (List.mem_of_getElem? (i := 77) rfl)) (hw _ (List.mem_of_getElem? (i := 78) rfl)) at_155 (by decide) (hw _ (List.mem_of_getElem? (i := 79) rfl)) (hw _ (List.mem_of_getElem? (i := 80) rfl)) (by rw [← e58]; exact rm12 hw (0 : Int32) (0 : Int32) (2 : Int32) p1 p3 h53 n0 G57.sz) (by decide) (by decide) rfl (lenOf pd_8 rfl) rfl (Nat.le_of_eq rfl) (pc' := 158) rfl (by decide) (by decide) ?_
    intro T59 G59
    refine o_icmp_ne G59 at_158 (by decide) (pcT := 165) (by decide) (pc' := 161) rfl (fun q => absurd (by subst e55 e56 e58; first | rfl | exact own_e1 _ _ | exact own_e2 _ _ | decide) q) (fun _ => ?_)
    refine o_iconst G59 at_161 (pc' := 162) rfl (v := (1 : Int32)) rfl ?_
    refine o_goto G59 at_162 (by decide) (pc' := 166) rfl ?_
    refine o_istore G59 at_166 (pc' := 168) rfl (l' := #[.val (.int p0), .val (.int p1), .val (.int p2), .val (.int p3), .val (.ref b1), .val (.ref b3), .val (.int (0 : Int32)), .val (.int (1 : Int32)), .val (.int (2 : Int32)), .val (.int (0 : Int32)), .val (.int (2 : Int32)), .val (.ref b48), .val (.int (1 : Int32))]) rfl ?_
    refine o_iload G59 at_168 (pc' := 170) rfl rfl ?_
    refine o_if_eq G59 at_170 (by decide) (pcT := 197) (by decide) (pc' := 173) rfl (fun q => absurd q (by decide)) (fun _ => ?_)
    refine o_aload G59 at_173 (pc' := 175) rfl rfl rfl ?_
    refine o_iload G59 at_175 (pc' := 177) rfl rfl ?_
    refine o_callVP G59 (z := (⟨"com/example/keyfold/keyfold/KeyRuns", "entries", "(I)I"⟩ : MethodName)) (argsL := [(.int (1 : Int32))]) (rest := []) (W := 0) (r := .int (1 : Int32)) E_b1 (hw _ (List.mem_of_getElem? (i := 72) rfl)) (hw _ (List.mem_of_getElem? (i := 74) rfl)) (hw _ (List.mem_of_getElem? (i := 73) rfl)) (hw _ (List.mem_of_getElem? (i := 75) rfl)) at_177 (by decide) (hw _ (List.mem_of_getElem? (i := 2) rfl)) (hw _ (List.mem_of_getElem? (i := 76) rfl)) (rm11_1 hw b1 h53 n0 G59.sz (3 : Int32) r cc ks st ra ca (((3 : Int32) + p1) + p3) ((1 : Int32) + p1) (1 : Int32) ((1 : Int32) + p3) ⟨hlt53, E_b1, F_columns_b1, F_stride_b1, F_runs_b1, F_counts_b1, F_runKeys_b1, F_runStarts_b1, F_runCount_b1, F_entries_b1, A_r, A_c, A_ks, ⟨_, A_st⟩, ⟨_, A_ra⟩, A_ca⟩) (by decide) (by decide) rfl (lenOf pd_2 rfl) rfl (Nat.le_of_eq rfl) (pc' := 180) rfl (by decide) (by decide) ?_
    intro T60 G60
    refine o_iconst G60 at_180 (pc' := 181) rfl (v := (1 : Int32)) rfl ?_
    refine o_iload G60 at_181 (pc' := 183) rfl rfl ?_
    refine o_iload G60 at_183 (pc' := 185) rfl rfl ?_
    refine o_iloadN G60 at_185 (pc' := 186) rfl rfl ?_
    refine o_iloadN G60 at_186 (pc' := 187) rfl rfl ?_
    obtain ⟨v61, e61⟩ : ∃ z, f_12 (1 : Int32) (0 : Int32) (2 : Int32) p1 p3 = z := ⟨_, rfl⟩
    refine o_callP G60 (z := (⟨"com/example/keyfold/keyfold/KeyRunsCountPinLaw", "expected", "(IIIII)I"⟩ : MethodName)) (r := (.int v61)) (argsL := [(.int (1 : Int32)), (.int (0 : Int32)), (.int (2 : Int32)), (.int p1), (.int p3)]) (rest := [(.int (1 : Int32))]) (W := 1) (hw _ (List.mem_of_getElem? (i := 77) rfl)) (hw _ (List.mem_of_getElem? (i := 78) rfl)) at_187 (by decide) (hw _ (List.mem_of_getElem? (i := 79) rfl)) (hw _ (List.mem_of_getElem? (i := 80) rfl)) (by rw [← e61]; exact rm12 hw (1 : Int32) (0 : Int32) (2 : Int32) p1 p3 h53 n0 G60.sz) (by decide) (by decide) rfl (lenOf pd_8 rfl) rfl (Nat.le_of_eq rfl) (pc' := 190) rfl (by decide) (by decide) ?_
    intro T62 G62
    refine o_icmp_ne G62 at_190 (by decide) (pcT := 197) (by decide) (pc' := 193) rfl (fun q => absurd (by subst e55 e56 e58 e61; first | rfl | exact own_e1 _ _ | exact own_e2 _ _ | decide) q) (fun _ => ?_)
    refine o_iconst G62 at_193 (pc' := 194) rfl (v := (1 : Int32)) rfl ?_
    refine o_goto G62 at_194 (by decide) (pc' := 198) rfl ?_
    refine o_istore G62 at_198 (pc' := 200) rfl (l' := #[.val (.int p0), .val (.int p1), .val (.int p2), .val (.int p3), .val (.ref b1), .val (.ref b3), .val (.int (0 : Int32)), .val (.int (1 : Int32)), .val (.int (2 : Int32)), .val (.int (0 : Int32)), .val (.int (2 : Int32)), .val (.ref b48), .val (.int (1 : Int32))]) rfl ?_
    refine o_iload G62 at_200 (pc' := 202) rfl rfl ?_
    refine o_if_eq G62 at_202 (by decide) (pcT := 229) (by decide) (pc' := 205) rfl (fun q => absurd q (by decide)) (fun _ => ?_)
    refine o_aload G62 at_205 (pc' := 207) rfl rfl rfl ?_
    refine o_iload G62 at_207 (pc' := 209) rfl rfl ?_
    refine o_callVP G62 (z := (⟨"com/example/keyfold/keyfold/KeyRuns", "entries", "(I)I"⟩ : MethodName)) (argsL := [(.int (2 : Int32))]) (rest := []) (W := 0) (r := .int ((1 : Int32) + p3)) E_b1 (hw _ (List.mem_of_getElem? (i := 72) rfl)) (hw _ (List.mem_of_getElem? (i := 74) rfl)) (hw _ (List.mem_of_getElem? (i := 73) rfl)) (hw _ (List.mem_of_getElem? (i := 75) rfl)) at_209 (by decide) (hw _ (List.mem_of_getElem? (i := 2) rfl)) (hw _ (List.mem_of_getElem? (i := 76) rfl)) (rm11_2 hw b1 h53 n0 G62.sz (3 : Int32) r cc ks st ra ca (((3 : Int32) + p1) + p3) ((1 : Int32) + p1) (1 : Int32) ((1 : Int32) + p3) ⟨hlt53, E_b1, F_columns_b1, F_stride_b1, F_runs_b1, F_counts_b1, F_runKeys_b1, F_runStarts_b1, F_runCount_b1, F_entries_b1, A_r, A_c, A_ks, ⟨_, A_st⟩, ⟨_, A_ra⟩, A_ca⟩) (by decide) (by decide) rfl (lenOf pd_2 rfl) rfl (Nat.le_of_eq rfl) (pc' := 212) rfl (by decide) (by decide) ?_
    intro T63 G63
    refine o_iconst G63 at_212 (pc' := 213) rfl (v := (2 : Int32)) rfl ?_
    refine o_iload G63 at_213 (pc' := 215) rfl rfl ?_
    refine o_iload G63 at_215 (pc' := 217) rfl rfl ?_
    refine o_iloadN G63 at_217 (pc' := 218) rfl rfl ?_
    refine o_iloadN G63 at_218 (pc' := 219) rfl rfl ?_
    obtain ⟨v64, e64⟩ : ∃ z, f_12 (2 : Int32) (0 : Int32) (2 : Int32) p1 p3 = z := ⟨_, rfl⟩
    refine o_callP G63 (z := (⟨"com/example/keyfold/keyfold/KeyRunsCountPinLaw", "expected", "(IIIII)I"⟩ : MethodName)) (r := (.int v64)) (argsL := [(.int (2 : Int32)), (.int (0 : Int32)), (.int (2 : Int32)), (.int p1), (.int p3)]) (rest := [(.int ((1 : Int32) + p3))]) (W := 1) (hw _ (List.mem_of_getElem? (i := 77) rfl)) (hw _ (List.mem_of_getElem? (i := 78) rfl)) at_219 (by decide) (hw _ (List.mem_of_getElem? (i := 79) rfl)) (hw _ (List.mem_of_getElem? (i := 80) rfl)) (by rw [← e64]; exact rm12 hw (2 : Int32) (0 : Int32) (2 : Int32) p1 p3 h53 n0 G63.sz) (by decide) (by decide) rfl (lenOf pd_8 rfl) rfl (Nat.le_of_eq rfl) (pc' := 222) rfl (by decide) (by decide) ?_
    intro T65 G65
    refine o_icmp_ne G65 at_222 (by decide) (pcT := 229) (by decide) (pc' := 225) rfl (fun q => absurd (by subst e55 e56 e58 e61 e64; first | rfl | exact own_e1 _ _ | exact own_e2 _ _ | decide) q) (fun _ => ?_)
    refine o_iconst G65 at_225 (pc' := 226) rfl (v := (1 : Int32)) rfl ?_
    refine o_goto G65 at_226 (by decide) (pc' := 230) rfl ?_
    refine o_istore G65 at_230 (pc' := 232) rfl (l' := #[.val (.int p0), .val (.int p1), .val (.int p2), .val (.int p3), .val (.ref b1), .val (.ref b3), .val (.int (0 : Int32)), .val (.int (1 : Int32)), .val (.int (2 : Int32)), .val (.int (0 : Int32)), .val (.int (2 : Int32)), .val (.ref b48), .val (.int (1 : Int32))]) rfl ?_
    refine o_iload G65 at_232 (pc' := 234) rfl rfl ?_
    exact o_nreturn (t := .boolean) G65 (by simp) at_234 rfl (by decide) (by decide)
  · subst ha hb
    refine o_iconst G7 at_74 (pc' := 75) rfl (v := (3 : Int32)) rfl ?_
    refine o_newarray G7 (N := 3) (cap := 3) (hw _ (List.mem_of_getElem? (i := 19) rfl)) rfl (by decide) (by decide) at_75 (pc' := 77) rfl (by decide) (by decide) ?_
    intro T66 h66 b66 G66 g66 g_b66 E66 A_b66
    have ne_b3_b66 : b3 ≠ b66 := Nat.ne_of_lt (Nat.lt_of_lt_of_eq A_b3.lt g66.symm)
    have ne_b1_b66 : b1 ≠ b66 := Nat.ne_of_lt (Nat.lt_of_lt_of_eq E_b1.lt g66.symm)
    have ne_r_b66 : r ≠ b66 := Nat.ne_of_lt (Nat.lt_of_lt_of_eq A_r.lt g66.symm)
    have ne_cc_b66 : cc ≠ b66 := Nat.ne_of_lt (Nat.lt_of_lt_of_eq A_c.lt g66.symm)
    have ne_ks_b66 : ks ≠ b66 := Nat.ne_of_lt (Nat.lt_of_lt_of_eq A_ks.lt g66.symm)
    have ne_st_b66 : st ≠ b66 := Nat.ne_of_lt (Nat.lt_of_lt_of_eq A_st.lt g66.symm)
    have ne_ra_b66 : ra ≠ b66 := Nat.ne_of_lt (Nat.lt_of_lt_of_eq A_ra.lt g66.symm)
    have ne_ca_b66 : ca ≠ b66 := Nat.ne_of_lt (Nat.lt_of_lt_of_eq A_ca.lt g66.symm)
    replace A_b3 := A_b3.ext E66
    replace E_b1 := E_b1.ext E66
    replace F_columns_b1 := F_columns_b1.ext E66
    replace F_stride_b1 := F_stride_b1.ext E66
    replace F_runs_b1 := F_runs_b1.ext E66
    replace F_counts_b1 := F_counts_b1.ext E66
    replace F_runKeys_b1 := F_runKeys_b1.ext E66
    replace F_runStarts_b1 := F_runStarts_b1.ext E66
    replace F_runCount_b1 := F_runCount_b1.ext E66
    replace F_entries_b1 := F_entries_b1.ext E66
    replace A_r := A_r.ext E66
    replace A_c := A_c.ext E66
    replace A_ks := A_ks.ext E66
    replace A_st := A_st.ext E66
    replace A_ra := A_ra.ext E66
    replace A_ca := A_ca.ext E66
    replace A_b66 : OArr Z h66 b66 .int 3 (fun _ => (.int (0 : Int32))) := A_b66
    refine o_dup G66 at_77 (pc' := 78) rfl rfl ?_
    refine o_iconst G66 at_78 (pc' := 79) rfl (v := (0 : Int32)) rfl ?_
    refine o_iload G66 at_79 (pc' := 81) rfl rfl ?_
    refine o_iastore G66 A_b66 g_b66 (i := 0) rfl (by decide) at_81 (pc' := 82) rfl ?_
    intro T67 h67 G67 W67 A67
    replace A_b3 := A_b3.other W67 ne_b3_b66
    replace E_b1 := E_b1.wr W67
    replace F_columns_b1 := F_columns_b1.other W67 (Or.inl ne_b1_b66)
    replace F_stride_b1 := F_stride_b1.other W67 (Or.inl ne_b1_b66)
    replace F_runs_b1 := F_runs_b1.other W67 (Or.inl ne_b1_b66)
    replace F_counts_b1 := F_counts_b1.other W67 (Or.inl ne_b1_b66)
    replace F_runKeys_b1 := F_runKeys_b1.other W67 (Or.inl ne_b1_b66)
    replace F_runStarts_b1 := F_runStarts_b1.other W67 (Or.inl ne_b1_b66)
    replace F_runCount_b1 := F_runCount_b1.other W67 (Or.inl ne_b1_b66)
    replace F_entries_b1 := F_entries_b1.other W67 (Or.inl ne_b1_b66)
    replace A_r := A_r.other W67 ne_r_b66
    replace A_c := A_c.other W67 ne_cc_b66
    replace A_ks := A_ks.other W67 ne_ks_b66
    replace A_st := A_st.other W67 ne_st_b66
    replace A_ra := A_ra.other W67 ne_ra_b66
    replace A_ca := A_ca.other W67 ne_ca_b66
    replace A_b66 := A67
    refine o_dup G67 at_82 (pc' := 83) rfl rfl ?_
    refine o_iconst G67 at_83 (pc' := 84) rfl (v := (1 : Int32)) rfl ?_
    refine o_iload G67 at_84 (pc' := 86) rfl rfl ?_
    refine o_iastore G67 A_b66 g_b66 (i := 1) rfl (by decide) at_86 (pc' := 87) rfl ?_
    intro T68 h68 G68 W68 A68
    replace A_b3 := A_b3.other W68 ne_b3_b66
    replace E_b1 := E_b1.wr W68
    replace F_columns_b1 := F_columns_b1.other W68 (Or.inl ne_b1_b66)
    replace F_stride_b1 := F_stride_b1.other W68 (Or.inl ne_b1_b66)
    replace F_runs_b1 := F_runs_b1.other W68 (Or.inl ne_b1_b66)
    replace F_counts_b1 := F_counts_b1.other W68 (Or.inl ne_b1_b66)
    replace F_runKeys_b1 := F_runKeys_b1.other W68 (Or.inl ne_b1_b66)
    replace F_runStarts_b1 := F_runStarts_b1.other W68 (Or.inl ne_b1_b66)
    replace F_runCount_b1 := F_runCount_b1.other W68 (Or.inl ne_b1_b66)
    replace F_entries_b1 := F_entries_b1.other W68 (Or.inl ne_b1_b66)
    replace A_r := A_r.other W68 ne_r_b66
    replace A_c := A_c.other W68 ne_cc_b66
    replace A_ks := A_ks.other W68 ne_ks_b66
    replace A_st := A_st.other W68 ne_st_b66
    replace A_ra := A_ra.other W68 ne_ra_b66
    replace A_ca := A_ca.other W68 ne_ca_b66
    replace A_b66 := A68
    refine o_dup G68 at_87 (pc' := 88) rfl rfl ?_
    refine o_iconst G68 at_88 (pc' := 89) rfl (v := (2 : Int32)) rfl ?_
    refine o_iload G68 at_89 (pc' := 91) rfl rfl ?_
    refine o_iastore G68 A_b66 g_b66 (i := 2) rfl (by decide) at_91 (pc' := 92) rfl ?_
    intro T69 h69 G69 W69 A69
    replace A_b3 := A_b3.other W69 ne_b3_b66
    replace E_b1 := E_b1.wr W69
    replace F_columns_b1 := F_columns_b1.other W69 (Or.inl ne_b1_b66)
    replace F_stride_b1 := F_stride_b1.other W69 (Or.inl ne_b1_b66)
    replace F_runs_b1 := F_runs_b1.other W69 (Or.inl ne_b1_b66)
    replace F_counts_b1 := F_counts_b1.other W69 (Or.inl ne_b1_b66)
    replace F_runKeys_b1 := F_runKeys_b1.other W69 (Or.inl ne_b1_b66)
    replace F_runStarts_b1 := F_runStarts_b1.other W69 (Or.inl ne_b1_b66)
    replace F_runCount_b1 := F_runCount_b1.other W69 (Or.inl ne_b1_b66)
    replace F_entries_b1 := F_entries_b1.other W69 (Or.inl ne_b1_b66)
    replace A_r := A_r.other W69 ne_r_b66
    replace A_c := A_c.other W69 ne_cc_b66
    replace A_ks := A_ks.other W69 ne_ks_b66
    replace A_st := A_st.other W69 ne_st_b66
    replace A_ra := A_ra.other W69 ne_ra_b66
    replace A_ca := A_ca.other W69 ne_ca_b66
    replace A_b66 := A69
    refine o_astore G69 at_92 (pc' := 94) rfl rfl (l' := #[.val (.int p0), .val (.int p1), .val (.int p2), .val (.int p3), .val (.ref b1), .val (.ref b3), .val (.int (0 : Int32)), .val (.int (1 : Int32)), .val (.int (2 : Int32)), .val (.int (1 : Int32)), .val (.int (0 : Int32)), .val (.ref b66), .unset]) rfl ?_
    refine o_aload G69 at_94 (pc' := 96) rfl rfl rfl ?_
    refine o_aload G69 at_96 (pc' := 98) rfl rfl rfl ?_
    refine o_iload G69 at_98 (pc' := 100) rfl rfl ?_
    refine o_iaload G69 A_b66 (i := 1) rfl (by decide) (v := (.int (1 : Int32))) rfl at_100 (pc' := 101) rfl ?_
    refine o_iloadN G69 at_101 (pc' := 102) rfl rfl ?_
    refine o_callV G69 (z := (⟨"com/example/keyfold/keyfold/KeyRuns", "count", "(II)V"⟩ : MethodName)) (argsL := [(.int (1 : Int32)), (.int p1)]) (rest := []) (W := 0) E_b1 (hw _ (List.mem_of_getElem? (i := 62) rfl)) (hw _ (List.mem_of_getElem? (i := 64) rfl)) (hw _ (List.mem_of_getElem? (i := 63) rfl)) (hw _ (List.mem_of_getElem? (i := 65) rfl)) at_102 (by decide) (hw _ (List.mem_of_getElem? (i := 2) rfl)) (hw _ (List.mem_of_getElem? (i := 66) rfl)) (rm9_1 hw b1 p1 h69 n0 G69.sz (3 : Int32) r cc ks st ra ca (3 : Int32) (1 : Int32) (1 : Int32) (1 : Int32) ⟨hlt7, E_b1, F_columns_b1, F_stride_b1, F_runs_b1, F_counts_b1, F_runKeys_b1, F_runStarts_b1, F_runCount_b1, F_entries_b1, A_r, A_c, A_ks, ⟨_, A_st⟩, ⟨_, A_ra⟩, A_ca⟩) (by decide) (by decide) rfl (lenOf pd_1 rfl) rfl (Nat.le_of_eq rfl) (pc' := 105) rfl (by decide) (by decide) ?_
    rintro _ T70 h70 G70 ⟨rfl, K70, KR70⟩
    replace A_b3 := A_b3.keep K70 (ninS (Ne.symm ne_b1_b3) (ninS (Ne.symm ne_ca_b3) nin0))
    replace E_b1 := E_b1.keep K70
    replace A_r := A_r.keep K70 (ninS (Ne.symm (o_ne (by omega))) (ninS (o_ne (by omega)) nin0))
    replace A_c := A_c.keep K70 (ninS (Ne.symm (o_ne (by omega))) (ninS (o_ne (by omega)) nin0))
    replace A_ks := A_ks.keep K70 (ninS (Ne.symm (o_ne (by omega))) (ninS (o_ne (by omega)) nin0))
    replace A_st := A_st.keep K70 (ninS (Ne.symm (o_ne (by omega))) (ninS (o_ne (by omega)) nin0))
    replace A_ra := A_ra.keep K70 (ninS (Ne.symm (o_ne (by omega))) (ninS (o_ne (by omega)) nin0))
    replace A_b66 := A_b66.keep K70 (ninS (Ne.symm ne_b1_b66) (ninS (Ne.symm ne_ca_b66) nin0))
    obtain ⟨hlt70, E_b1, F_columns_b1, F_stride_b1, F_runs_b1, F_counts_b1, F_runKeys_b1, F_runStarts_b1, F_runCount_b1, F_entries_b1, A_r, A_c, A_ks, ⟨fst, A_st⟩, ⟨fra, A_ra⟩, A_ca⟩ := KR70
    show OFin n0 p e below s (fun v _ => v = some (.int 1)) 32 768 T70 (mkF m 105 #[.val (.int p0), .val (.int p1), .val (.int p2), .val (.int p3), .val (.ref b1), .val (.ref b3), .val (.int (0 : Int32)), .val (.int (1 : Int32)), .val (.int (2 : Int32)), .val (.int (1 : Int32)), .val (.int (0 : Int32)), .val (.ref b66), .unset] [])
    refine o_aload G70 at_105 (pc' := 107) rfl rfl rfl ?_
    refine o_aload G70 at_107 (pc' := 109) rfl rfl rfl ?_
    refine o_iload G70 at_109 (pc' := 111) rfl rfl ?_
    refine o_iaload G70 A_b66 (i := 0) rfl (by decide) (v := (.int (0 : Int32))) rfl at_111 (pc' := 112) rfl ?_
    refine o_iloadN G70 at_112 (pc' := 113) rfl rfl ?_
    refine o_callV G70 (z := (⟨"com/example/keyfold/keyfold/KeyRuns", "count", "(II)V"⟩ : MethodName)) (argsL := [(.int (0 : Int32)), (.int p3)]) (rest := []) (W := 0) E_b1 (hw _ (List.mem_of_getElem? (i := 62) rfl)) (hw _ (List.mem_of_getElem? (i := 64) rfl)) (hw _ (List.mem_of_getElem? (i := 63) rfl)) (hw _ (List.mem_of_getElem? (i := 65) rfl)) at_113 (by decide) (hw _ (List.mem_of_getElem? (i := 2) rfl)) (hw _ (List.mem_of_getElem? (i := 66) rfl)) (rm9_0 hw b1 p3 h70 n0 G70.sz (3 : Int32) r cc ks st ra ca ((3 : Int32) + p1) (1 : Int32) ((1 : Int32) + p1) (1 : Int32) ⟨hlt70, E_b1, F_columns_b1, F_stride_b1, F_runs_b1, F_counts_b1, F_runKeys_b1, F_runStarts_b1, F_runCount_b1, F_entries_b1, A_r, A_c, A_ks, ⟨_, A_st⟩, ⟨_, A_ra⟩, A_ca⟩) (by decide) (by decide) rfl (lenOf pd_1 rfl) rfl (Nat.le_of_eq rfl) (pc' := 116) rfl (by decide) (by decide) ?_
    rintro _ T71 h71 G71 ⟨rfl, K71, KR71⟩
    replace A_b3 := A_b3.keep K71 (ninS (Ne.symm ne_b1_b3) (ninS (Ne.symm ne_ca_b3) nin0))
    replace A_b66 := A_b66.keep K71 (ninS (Ne.symm ne_b1_b66) (ninS (Ne.symm ne_ca_b66) nin0))
    replace E_b1 := E_b1.keep K71
    replace A_r := A_r.keep K71 (ninS (Ne.symm (o_ne (by omega))) (ninS (o_ne (by omega)) nin0))
    replace A_c := A_c.keep K71 (ninS (Ne.symm (o_ne (by omega))) (ninS (o_ne (by omega)) nin0))
    replace A_ks := A_ks.keep K71 (ninS (Ne.symm (o_ne (by omega))) (ninS (o_ne (by omega)) nin0))
    replace A_st := A_st.keep K71 (ninS (Ne.symm (o_ne (by omega))) (ninS (o_ne (by omega)) nin0))
    replace A_ra := A_ra.keep K71 (ninS (Ne.symm (o_ne (by omega))) (ninS (o_ne (by omega)) nin0))
    obtain ⟨hlt71, E_b1, F_columns_b1, F_stride_b1, F_runs_b1, F_counts_b1, F_runKeys_b1, F_runStarts_b1, F_runCount_b1, F_entries_b1, A_r, A_c, A_ks, ⟨fst, A_st⟩, ⟨fra, A_ra⟩, A_ca⟩ := KR71
    show OFin n0 p e below s (fun v _ => v = some (.int 1)) 32 768 T71 (mkF m 116 #[.val (.int p0), .val (.int p1), .val (.int p2), .val (.int p3), .val (.ref b1), .val (.ref b3), .val (.int (0 : Int32)), .val (.int (1 : Int32)), .val (.int (2 : Int32)), .val (.int (1 : Int32)), .val (.int (0 : Int32)), .val (.ref b66), .unset] [])
    refine o_aload G71 at_116 (pc' := 118) rfl rfl rfl ?_
    refine o_callVP G71 (z := (⟨"com/example/keyfold/keyfold/KeyRuns", "entries", "()I"⟩ : MethodName)) (argsL := []) (rest := []) (W := 0) (r := .int (((3 : Int32) + p1) + p3)) E_b1 (hw _ (List.mem_of_getElem? (i := 67) rfl)) (hw _ (List.mem_of_getElem? (i := 69) rfl)) (hw _ (List.mem_of_getElem? (i := 68) rfl)) (hw _ (List.mem_of_getElem? (i := 70) rfl)) at_118 (by decide) (hw _ (List.mem_of_getElem? (i := 2) rfl)) (hw _ (List.mem_of_getElem? (i := 71) rfl)) (rm10 hw b1 h71 n0 G71.sz (((3 : Int32) + p1) + p3) F_entries_b1) (by decide) (by decide) rfl (lenOf pd_7 rfl) rfl (Nat.le_of_eq rfl) (pc' := 121) rfl (by decide) (by decide) ?_
    intro T72 G72
    refine o_iconst G72 at_121 (pc' := 122) rfl (v := (3 : Int32)) rfl ?_
    refine o_iloadN G72 at_122 (pc' := 123) rfl rfl ?_
    obtain ⟨v73, e73⟩ : ∃ z, (3 : Int32) + p1 = z := ⟨_, rfl⟩
    refine o_iadd G72 at_123 (pc' := 124) rfl e73 ?_
    refine o_iloadN G72 at_124 (pc' := 125) rfl rfl ?_
    obtain ⟨v74, e74⟩ : ∃ z, v73 + p3 = z := ⟨_, rfl⟩
    refine o_iadd G72 at_125 (pc' := 126) rfl e74 ?_
    refine o_icmp_ne G72 at_126 (by decide) (pcT := 133) (by decide) (pc' := 129) rfl (fun q => absurd (by subst e73 e74; first | rfl | exact own_e1 _ _ | exact own_e2 _ _ | decide) q) (fun _ => ?_)
    refine o_iconst G72 at_129 (pc' := 130) rfl (v := (1 : Int32)) rfl ?_
    refine o_goto G72 at_130 (by decide) (pc' := 134) rfl ?_
    refine o_istore G72 at_134 (pc' := 136) rfl (l' := #[.val (.int p0), .val (.int p1), .val (.int p2), .val (.int p3), .val (.ref b1), .val (.ref b3), .val (.int (0 : Int32)), .val (.int (1 : Int32)), .val (.int (2 : Int32)), .val (.int (1 : Int32)), .val (.int (0 : Int32)), .val (.ref b66), .val (.int (1 : Int32))]) rfl ?_
    refine o_iload G72 at_136 (pc' := 138) rfl rfl ?_
    refine o_if_eq G72 at_138 (by decide) (pcT := 165) (by decide) (pc' := 141) rfl (fun q => absurd q (by decide)) (fun _ => ?_)
    refine o_aload G72 at_141 (pc' := 143) rfl rfl rfl ?_
    refine o_iload G72 at_143 (pc' := 145) rfl rfl ?_
    refine o_callVP G72 (z := (⟨"com/example/keyfold/keyfold/KeyRuns", "entries", "(I)I"⟩ : MethodName)) (argsL := [(.int (0 : Int32))]) (rest := []) (W := 0) (r := .int ((1 : Int32) + p3)) E_b1 (hw _ (List.mem_of_getElem? (i := 72) rfl)) (hw _ (List.mem_of_getElem? (i := 74) rfl)) (hw _ (List.mem_of_getElem? (i := 73) rfl)) (hw _ (List.mem_of_getElem? (i := 75) rfl)) at_145 (by decide) (hw _ (List.mem_of_getElem? (i := 2) rfl)) (hw _ (List.mem_of_getElem? (i := 76) rfl)) (rm11_0 hw b1 h71 n0 G72.sz (3 : Int32) r cc ks st ra ca (((3 : Int32) + p1) + p3) ((1 : Int32) + p3) ((1 : Int32) + p1) (1 : Int32) ⟨hlt71, E_b1, F_columns_b1, F_stride_b1, F_runs_b1, F_counts_b1, F_runKeys_b1, F_runStarts_b1, F_runCount_b1, F_entries_b1, A_r, A_c, A_ks, ⟨_, A_st⟩, ⟨_, A_ra⟩, A_ca⟩) (by decide) (by decide) rfl (lenOf pd_2 rfl) rfl (Nat.le_of_eq rfl) (pc' := 148) rfl (by decide) (by decide) ?_
    intro T75 G75
    refine o_iconst G75 at_148 (pc' := 149) rfl (v := (0 : Int32)) rfl ?_
    refine o_iload G75 at_149 (pc' := 151) rfl rfl ?_
    refine o_iload G75 at_151 (pc' := 153) rfl rfl ?_
    refine o_iloadN G75 at_153 (pc' := 154) rfl rfl ?_
    refine o_iloadN G75 at_154 (pc' := 155) rfl rfl ?_
    obtain ⟨v76, e76⟩ : ∃ z, f_12 (0 : Int32) (1 : Int32) (0 : Int32) p1 p3 = z := ⟨_, rfl⟩
    refine o_callP G75 (z := (⟨"com/example/keyfold/keyfold/KeyRunsCountPinLaw", "expected", "(IIIII)I"⟩ : MethodName)) (r := (.int v76)) (argsL := [(.int (0 : Int32)), (.int (1 : Int32)), (.int (0 : Int32)), (.int p1), (.int p3)]) (rest := [(.int ((1 : Int32) + p3))]) (W := 1) (hw _ (List.mem_of_getElem? (i := 77) rfl)) (hw _ (List.mem_of_getElem? (i := 78) rfl)) at_155 (by decide) (hw _ (List.mem_of_getElem? (i := 79) rfl)) (hw _ (List.mem_of_getElem? (i := 80) rfl)) (by rw [← e76]; exact rm12 hw (0 : Int32) (1 : Int32) (0 : Int32) p1 p3 h71 n0 G75.sz) (by decide) (by decide) rfl (lenOf pd_8 rfl) rfl (Nat.le_of_eq rfl) (pc' := 158) rfl (by decide) (by decide) ?_
    intro T77 G77
    refine o_icmp_ne G77 at_158 (by decide) (pcT := 165) (by decide) (pc' := 161) rfl (fun q => absurd (by subst e73 e74 e76; first | rfl | exact own_e1 _ _ | exact own_e2 _ _ | decide) q) (fun _ => ?_)
    refine o_iconst G77 at_161 (pc' := 162) rfl (v := (1 : Int32)) rfl ?_
    refine o_goto G77 at_162 (by decide) (pc' := 166) rfl ?_
    refine o_istore G77 at_166 (pc' := 168) rfl (l' := #[.val (.int p0), .val (.int p1), .val (.int p2), .val (.int p3), .val (.ref b1), .val (.ref b3), .val (.int (0 : Int32)), .val (.int (1 : Int32)), .val (.int (2 : Int32)), .val (.int (1 : Int32)), .val (.int (0 : Int32)), .val (.ref b66), .val (.int (1 : Int32))]) rfl ?_
    refine o_iload G77 at_168 (pc' := 170) rfl rfl ?_
    refine o_if_eq G77 at_170 (by decide) (pcT := 197) (by decide) (pc' := 173) rfl (fun q => absurd q (by decide)) (fun _ => ?_)
    refine o_aload G77 at_173 (pc' := 175) rfl rfl rfl ?_
    refine o_iload G77 at_175 (pc' := 177) rfl rfl ?_
    refine o_callVP G77 (z := (⟨"com/example/keyfold/keyfold/KeyRuns", "entries", "(I)I"⟩ : MethodName)) (argsL := [(.int (1 : Int32))]) (rest := []) (W := 0) (r := .int ((1 : Int32) + p1)) E_b1 (hw _ (List.mem_of_getElem? (i := 72) rfl)) (hw _ (List.mem_of_getElem? (i := 74) rfl)) (hw _ (List.mem_of_getElem? (i := 73) rfl)) (hw _ (List.mem_of_getElem? (i := 75) rfl)) at_177 (by decide) (hw _ (List.mem_of_getElem? (i := 2) rfl)) (hw _ (List.mem_of_getElem? (i := 76) rfl)) (rm11_1 hw b1 h71 n0 G77.sz (3 : Int32) r cc ks st ra ca (((3 : Int32) + p1) + p3) ((1 : Int32) + p3) ((1 : Int32) + p1) (1 : Int32) ⟨hlt71, E_b1, F_columns_b1, F_stride_b1, F_runs_b1, F_counts_b1, F_runKeys_b1, F_runStarts_b1, F_runCount_b1, F_entries_b1, A_r, A_c, A_ks, ⟨_, A_st⟩, ⟨_, A_ra⟩, A_ca⟩) (by decide) (by decide) rfl (lenOf pd_2 rfl) rfl (Nat.le_of_eq rfl) (pc' := 180) rfl (by decide) (by decide) ?_
    intro T78 G78
    refine o_iconst G78 at_180 (pc' := 181) rfl (v := (1 : Int32)) rfl ?_
    refine o_iload G78 at_181 (pc' := 183) rfl rfl ?_
    refine o_iload G78 at_183 (pc' := 185) rfl rfl ?_
    refine o_iloadN G78 at_185 (pc' := 186) rfl rfl ?_
    refine o_iloadN G78 at_186 (pc' := 187) rfl rfl ?_
    obtain ⟨v79, e79⟩ : ∃ z, f_12 (1 : Int32) (1 : Int32) (0 : Int32) p1 p3 = z := ⟨_, rfl⟩
    refine o_callP G78 (z := (⟨"com/example/keyfold/keyfold/KeyRunsCountPinLaw", "expected", "(IIIII)I"⟩ : MethodName)) (r := (.int v79)) (argsL := [(.int (1 : Int32)), (.int (1 : Int32)), (.int (0 : Int32)), (.int p1), (.int p3)]) (rest := [(.int ((1 : Int32) + p1))]) (W := 1) (hw _ (List.mem_of_getElem? (i := 77) rfl)) (hw _ (List.mem_of_getElem? (i := 78) rfl)) at_187 (by decide) (hw _ (List.mem_of_getElem? (i := 79) rfl)) (hw _ (List.mem_of_getElem? (i := 80) rfl)) (by rw [← e79]; exact rm12 hw (1 : Int32) (1 : Int32) (0 : Int32) p1 p3 h71 n0 G78.sz) (by decide) (by decide) rfl (lenOf pd_8 rfl) rfl (Nat.le_of_eq rfl) (pc' := 190) rfl (by decide) (by decide) ?_
    intro T80 G80
    refine o_icmp_ne G80 at_190 (by decide) (pcT := 197) (by decide) (pc' := 193) rfl (fun q => absurd (by subst e73 e74 e76 e79; first | rfl | exact own_e1 _ _ | exact own_e2 _ _ | decide) q) (fun _ => ?_)
    refine o_iconst G80 at_193 (pc' := 194) rfl (v := (1 : Int32)) rfl ?_
    refine o_goto G80 at_194 (by decide) (pc' := 198) rfl ?_
    refine o_istore G80 at_198 (pc' := 200) rfl (l' := #[.val (.int p0), .val (.int p1), .val (.int p2), .val (.int p3), .val (.ref b1), .val (.ref b3), .val (.int (0 : Int32)), .val (.int (1 : Int32)), .val (.int (2 : Int32)), .val (.int (1 : Int32)), .val (.int (0 : Int32)), .val (.ref b66), .val (.int (1 : Int32))]) rfl ?_
    refine o_iload G80 at_200 (pc' := 202) rfl rfl ?_
    refine o_if_eq G80 at_202 (by decide) (pcT := 229) (by decide) (pc' := 205) rfl (fun q => absurd q (by decide)) (fun _ => ?_)
    refine o_aload G80 at_205 (pc' := 207) rfl rfl rfl ?_
    refine o_iload G80 at_207 (pc' := 209) rfl rfl ?_
    refine o_callVP G80 (z := (⟨"com/example/keyfold/keyfold/KeyRuns", "entries", "(I)I"⟩ : MethodName)) (argsL := [(.int (2 : Int32))]) (rest := []) (W := 0) (r := .int (1 : Int32)) E_b1 (hw _ (List.mem_of_getElem? (i := 72) rfl)) (hw _ (List.mem_of_getElem? (i := 74) rfl)) (hw _ (List.mem_of_getElem? (i := 73) rfl)) (hw _ (List.mem_of_getElem? (i := 75) rfl)) at_209 (by decide) (hw _ (List.mem_of_getElem? (i := 2) rfl)) (hw _ (List.mem_of_getElem? (i := 76) rfl)) (rm11_2 hw b1 h71 n0 G80.sz (3 : Int32) r cc ks st ra ca (((3 : Int32) + p1) + p3) ((1 : Int32) + p3) ((1 : Int32) + p1) (1 : Int32) ⟨hlt71, E_b1, F_columns_b1, F_stride_b1, F_runs_b1, F_counts_b1, F_runKeys_b1, F_runStarts_b1, F_runCount_b1, F_entries_b1, A_r, A_c, A_ks, ⟨_, A_st⟩, ⟨_, A_ra⟩, A_ca⟩) (by decide) (by decide) rfl (lenOf pd_2 rfl) rfl (Nat.le_of_eq rfl) (pc' := 212) rfl (by decide) (by decide) ?_
    intro T81 G81
    refine o_iconst G81 at_212 (pc' := 213) rfl (v := (2 : Int32)) rfl ?_
    refine o_iload G81 at_213 (pc' := 215) rfl rfl ?_
    refine o_iload G81 at_215 (pc' := 217) rfl rfl ?_
    refine o_iloadN G81 at_217 (pc' := 218) rfl rfl ?_
    refine o_iloadN G81 at_218 (pc' := 219) rfl rfl ?_
    obtain ⟨v82, e82⟩ : ∃ z, f_12 (2 : Int32) (1 : Int32) (0 : Int32) p1 p3 = z := ⟨_, rfl⟩
    refine o_callP G81 (z := (⟨"com/example/keyfold/keyfold/KeyRunsCountPinLaw", "expected", "(IIIII)I"⟩ : MethodName)) (r := (.int v82)) (argsL := [(.int (2 : Int32)), (.int (1 : Int32)), (.int (0 : Int32)), (.int p1), (.int p3)]) (rest := [(.int (1 : Int32))]) (W := 1) (hw _ (List.mem_of_getElem? (i := 77) rfl)) (hw _ (List.mem_of_getElem? (i := 78) rfl)) at_219 (by decide) (hw _ (List.mem_of_getElem? (i := 79) rfl)) (hw _ (List.mem_of_getElem? (i := 80) rfl)) (by rw [← e82]; exact rm12 hw (2 : Int32) (1 : Int32) (0 : Int32) p1 p3 h71 n0 G81.sz) (by decide) (by decide) rfl (lenOf pd_8 rfl) rfl (Nat.le_of_eq rfl) (pc' := 222) rfl (by decide) (by decide) ?_
    intro T83 G83
    refine o_icmp_ne G83 at_222 (by decide) (pcT := 229) (by decide) (pc' := 225) rfl (fun q => absurd (by subst e73 e74 e76 e79 e82; first | rfl | exact own_e1 _ _ | exact own_e2 _ _ | decide) q) (fun _ => ?_)
    refine o_iconst G83 at_225 (pc' := 226) rfl (v := (1 : Int32)) rfl ?_
    refine o_goto G83 at_226 (by decide) (pc' := 230) rfl ?_
    refine o_istore G83 at_230 (pc' := 232) rfl (l' := #[.val (.int p0), .val (.int p1), .val (.int p2), .val (.int p3), .val (.ref b1), .val (.ref b3), .val (.int (0 : Int32)), .val (.int (1 : Int32)), .val (.int (2 : Int32)), .val (.int (1 : Int32)), .val (.int (0 : Int32)), .val (.ref b66), .val (.int (1 : Int32))]) rfl ?_
    refine o_iload G83 at_232 (pc' := 234) rfl rfl ?_
    exact o_nreturn (t := .boolean) G83 (by simp) at_234 rfl (by decide) (by decide)
  · subst ha hb
    refine o_iconst G7 at_74 (pc' := 75) rfl (v := (3 : Int32)) rfl ?_
    refine o_newarray G7 (N := 3) (cap := 3) (hw _ (List.mem_of_getElem? (i := 19) rfl)) rfl (by decide) (by decide) at_75 (pc' := 77) rfl (by decide) (by decide) ?_
    intro T84 h84 b84 G84 g84 g_b84 E84 A_b84
    have ne_b3_b84 : b3 ≠ b84 := Nat.ne_of_lt (Nat.lt_of_lt_of_eq A_b3.lt g84.symm)
    have ne_b1_b84 : b1 ≠ b84 := Nat.ne_of_lt (Nat.lt_of_lt_of_eq E_b1.lt g84.symm)
    have ne_r_b84 : r ≠ b84 := Nat.ne_of_lt (Nat.lt_of_lt_of_eq A_r.lt g84.symm)
    have ne_cc_b84 : cc ≠ b84 := Nat.ne_of_lt (Nat.lt_of_lt_of_eq A_c.lt g84.symm)
    have ne_ks_b84 : ks ≠ b84 := Nat.ne_of_lt (Nat.lt_of_lt_of_eq A_ks.lt g84.symm)
    have ne_st_b84 : st ≠ b84 := Nat.ne_of_lt (Nat.lt_of_lt_of_eq A_st.lt g84.symm)
    have ne_ra_b84 : ra ≠ b84 := Nat.ne_of_lt (Nat.lt_of_lt_of_eq A_ra.lt g84.symm)
    have ne_ca_b84 : ca ≠ b84 := Nat.ne_of_lt (Nat.lt_of_lt_of_eq A_ca.lt g84.symm)
    replace A_b3 := A_b3.ext E84
    replace E_b1 := E_b1.ext E84
    replace F_columns_b1 := F_columns_b1.ext E84
    replace F_stride_b1 := F_stride_b1.ext E84
    replace F_runs_b1 := F_runs_b1.ext E84
    replace F_counts_b1 := F_counts_b1.ext E84
    replace F_runKeys_b1 := F_runKeys_b1.ext E84
    replace F_runStarts_b1 := F_runStarts_b1.ext E84
    replace F_runCount_b1 := F_runCount_b1.ext E84
    replace F_entries_b1 := F_entries_b1.ext E84
    replace A_r := A_r.ext E84
    replace A_c := A_c.ext E84
    replace A_ks := A_ks.ext E84
    replace A_st := A_st.ext E84
    replace A_ra := A_ra.ext E84
    replace A_ca := A_ca.ext E84
    replace A_b84 : OArr Z h84 b84 .int 3 (fun _ => (.int (0 : Int32))) := A_b84
    refine o_dup G84 at_77 (pc' := 78) rfl rfl ?_
    refine o_iconst G84 at_78 (pc' := 79) rfl (v := (0 : Int32)) rfl ?_
    refine o_iload G84 at_79 (pc' := 81) rfl rfl ?_
    refine o_iastore G84 A_b84 g_b84 (i := 0) rfl (by decide) at_81 (pc' := 82) rfl ?_
    intro T85 h85 G85 W85 A85
    replace A_b3 := A_b3.other W85 ne_b3_b84
    replace E_b1 := E_b1.wr W85
    replace F_columns_b1 := F_columns_b1.other W85 (Or.inl ne_b1_b84)
    replace F_stride_b1 := F_stride_b1.other W85 (Or.inl ne_b1_b84)
    replace F_runs_b1 := F_runs_b1.other W85 (Or.inl ne_b1_b84)
    replace F_counts_b1 := F_counts_b1.other W85 (Or.inl ne_b1_b84)
    replace F_runKeys_b1 := F_runKeys_b1.other W85 (Or.inl ne_b1_b84)
    replace F_runStarts_b1 := F_runStarts_b1.other W85 (Or.inl ne_b1_b84)
    replace F_runCount_b1 := F_runCount_b1.other W85 (Or.inl ne_b1_b84)
    replace F_entries_b1 := F_entries_b1.other W85 (Or.inl ne_b1_b84)
    replace A_r := A_r.other W85 ne_r_b84
    replace A_c := A_c.other W85 ne_cc_b84
    replace A_ks := A_ks.other W85 ne_ks_b84
    replace A_st := A_st.other W85 ne_st_b84
    replace A_ra := A_ra.other W85 ne_ra_b84
    replace A_ca := A_ca.other W85 ne_ca_b84
    replace A_b84 := A85
    refine o_dup G85 at_82 (pc' := 83) rfl rfl ?_
    refine o_iconst G85 at_83 (pc' := 84) rfl (v := (1 : Int32)) rfl ?_
    refine o_iload G85 at_84 (pc' := 86) rfl rfl ?_
    refine o_iastore G85 A_b84 g_b84 (i := 1) rfl (by decide) at_86 (pc' := 87) rfl ?_
    intro T86 h86 G86 W86 A86
    replace A_b3 := A_b3.other W86 ne_b3_b84
    replace E_b1 := E_b1.wr W86
    replace F_columns_b1 := F_columns_b1.other W86 (Or.inl ne_b1_b84)
    replace F_stride_b1 := F_stride_b1.other W86 (Or.inl ne_b1_b84)
    replace F_runs_b1 := F_runs_b1.other W86 (Or.inl ne_b1_b84)
    replace F_counts_b1 := F_counts_b1.other W86 (Or.inl ne_b1_b84)
    replace F_runKeys_b1 := F_runKeys_b1.other W86 (Or.inl ne_b1_b84)
    replace F_runStarts_b1 := F_runStarts_b1.other W86 (Or.inl ne_b1_b84)
    replace F_runCount_b1 := F_runCount_b1.other W86 (Or.inl ne_b1_b84)
    replace F_entries_b1 := F_entries_b1.other W86 (Or.inl ne_b1_b84)
    replace A_r := A_r.other W86 ne_r_b84
    replace A_c := A_c.other W86 ne_cc_b84
    replace A_ks := A_ks.other W86 ne_ks_b84
    replace A_st := A_st.other W86 ne_st_b84
    replace A_ra := A_ra.other W86 ne_ra_b84
    replace A_ca := A_ca.other W86 ne_ca_b84
    replace A_b84 := A86
    refine o_dup G86 at_87 (pc' := 88) rfl rfl ?_
    refine o_iconst G86 at_88 (pc' := 89) rfl (v := (2 : Int32)) rfl ?_
    refine o_iload G86 at_89 (pc' := 91) rfl rfl ?_
    refine o_iastore G86 A_b84 g_b84 (i := 2) rfl (by decide) at_91 (pc' := 92) rfl ?_
    intro T87 h87 G87 W87 A87
    replace A_b3 := A_b3.other W87 ne_b3_b84
    replace E_b1 := E_b1.wr W87
    replace F_columns_b1 := F_columns_b1.other W87 (Or.inl ne_b1_b84)
    replace F_stride_b1 := F_stride_b1.other W87 (Or.inl ne_b1_b84)
    replace F_runs_b1 := F_runs_b1.other W87 (Or.inl ne_b1_b84)
    replace F_counts_b1 := F_counts_b1.other W87 (Or.inl ne_b1_b84)
    replace F_runKeys_b1 := F_runKeys_b1.other W87 (Or.inl ne_b1_b84)
    replace F_runStarts_b1 := F_runStarts_b1.other W87 (Or.inl ne_b1_b84)
    replace F_runCount_b1 := F_runCount_b1.other W87 (Or.inl ne_b1_b84)
    replace F_entries_b1 := F_entries_b1.other W87 (Or.inl ne_b1_b84)
    replace A_r := A_r.other W87 ne_r_b84
    replace A_c := A_c.other W87 ne_cc_b84
    replace A_ks := A_ks.other W87 ne_ks_b84
    replace A_st := A_st.other W87 ne_st_b84
    replace A_ra := A_ra.other W87 ne_ra_b84
    replace A_ca := A_ca.other W87 ne_ca_b84
    replace A_b84 := A87
    refine o_astore G87 at_92 (pc' := 94) rfl rfl (l' := #[.val (.int p0), .val (.int p1), .val (.int p2), .val (.int p3), .val (.ref b1), .val (.ref b3), .val (.int (0 : Int32)), .val (.int (1 : Int32)), .val (.int (2 : Int32)), .val (.int (1 : Int32)), .val (.int (1 : Int32)), .val (.ref b84), .unset]) rfl ?_
    refine o_aload G87 at_94 (pc' := 96) rfl rfl rfl ?_
    refine o_aload G87 at_96 (pc' := 98) rfl rfl rfl ?_
    refine o_iload G87 at_98 (pc' := 100) rfl rfl ?_
    refine o_iaload G87 A_b84 (i := 1) rfl (by decide) (v := (.int (1 : Int32))) rfl at_100 (pc' := 101) rfl ?_
    refine o_iloadN G87 at_101 (pc' := 102) rfl rfl ?_
    refine o_callV G87 (z := (⟨"com/example/keyfold/keyfold/KeyRuns", "count", "(II)V"⟩ : MethodName)) (argsL := [(.int (1 : Int32)), (.int p1)]) (rest := []) (W := 0) E_b1 (hw _ (List.mem_of_getElem? (i := 62) rfl)) (hw _ (List.mem_of_getElem? (i := 64) rfl)) (hw _ (List.mem_of_getElem? (i := 63) rfl)) (hw _ (List.mem_of_getElem? (i := 65) rfl)) at_102 (by decide) (hw _ (List.mem_of_getElem? (i := 2) rfl)) (hw _ (List.mem_of_getElem? (i := 66) rfl)) (rm9_1 hw b1 p1 h87 n0 G87.sz (3 : Int32) r cc ks st ra ca (3 : Int32) (1 : Int32) (1 : Int32) (1 : Int32) ⟨hlt7, E_b1, F_columns_b1, F_stride_b1, F_runs_b1, F_counts_b1, F_runKeys_b1, F_runStarts_b1, F_runCount_b1, F_entries_b1, A_r, A_c, A_ks, ⟨_, A_st⟩, ⟨_, A_ra⟩, A_ca⟩) (by decide) (by decide) rfl (lenOf pd_1 rfl) rfl (Nat.le_of_eq rfl) (pc' := 105) rfl (by decide) (by decide) ?_
    rintro _ T88 h88 G88 ⟨rfl, K88, KR88⟩
    replace A_b3 := A_b3.keep K88 (ninS (Ne.symm ne_b1_b3) (ninS (Ne.symm ne_ca_b3) nin0))
    replace E_b1 := E_b1.keep K88
    replace A_r := A_r.keep K88 (ninS (Ne.symm (o_ne (by omega))) (ninS (o_ne (by omega)) nin0))
    replace A_c := A_c.keep K88 (ninS (Ne.symm (o_ne (by omega))) (ninS (o_ne (by omega)) nin0))
    replace A_ks := A_ks.keep K88 (ninS (Ne.symm (o_ne (by omega))) (ninS (o_ne (by omega)) nin0))
    replace A_st := A_st.keep K88 (ninS (Ne.symm (o_ne (by omega))) (ninS (o_ne (by omega)) nin0))
    replace A_ra := A_ra.keep K88 (ninS (Ne.symm (o_ne (by omega))) (ninS (o_ne (by omega)) nin0))
    replace A_b84 := A_b84.keep K88 (ninS (Ne.symm ne_b1_b84) (ninS (Ne.symm ne_ca_b84) nin0))
    obtain ⟨hlt88, E_b1, F_columns_b1, F_stride_b1, F_runs_b1, F_counts_b1, F_runKeys_b1, F_runStarts_b1, F_runCount_b1, F_entries_b1, A_r, A_c, A_ks, ⟨fst, A_st⟩, ⟨fra, A_ra⟩, A_ca⟩ := KR88
    show OFin n0 p e below s (fun v _ => v = some (.int 1)) 32 768 T88 (mkF m 105 #[.val (.int p0), .val (.int p1), .val (.int p2), .val (.int p3), .val (.ref b1), .val (.ref b3), .val (.int (0 : Int32)), .val (.int (1 : Int32)), .val (.int (2 : Int32)), .val (.int (1 : Int32)), .val (.int (1 : Int32)), .val (.ref b84), .unset] [])
    refine o_aload G88 at_105 (pc' := 107) rfl rfl rfl ?_
    refine o_aload G88 at_107 (pc' := 109) rfl rfl rfl ?_
    refine o_iload G88 at_109 (pc' := 111) rfl rfl ?_
    refine o_iaload G88 A_b84 (i := 1) rfl (by decide) (v := (.int (1 : Int32))) rfl at_111 (pc' := 112) rfl ?_
    refine o_iloadN G88 at_112 (pc' := 113) rfl rfl ?_
    refine o_callV G88 (z := (⟨"com/example/keyfold/keyfold/KeyRuns", "count", "(II)V"⟩ : MethodName)) (argsL := [(.int (1 : Int32)), (.int p3)]) (rest := []) (W := 0) E_b1 (hw _ (List.mem_of_getElem? (i := 62) rfl)) (hw _ (List.mem_of_getElem? (i := 64) rfl)) (hw _ (List.mem_of_getElem? (i := 63) rfl)) (hw _ (List.mem_of_getElem? (i := 65) rfl)) at_113 (by decide) (hw _ (List.mem_of_getElem? (i := 2) rfl)) (hw _ (List.mem_of_getElem? (i := 66) rfl)) (rm9_1 hw b1 p3 h88 n0 G88.sz (3 : Int32) r cc ks st ra ca ((3 : Int32) + p1) (1 : Int32) ((1 : Int32) + p1) (1 : Int32) ⟨hlt88, E_b1, F_columns_b1, F_stride_b1, F_runs_b1, F_counts_b1, F_runKeys_b1, F_runStarts_b1, F_runCount_b1, F_entries_b1, A_r, A_c, A_ks, ⟨_, A_st⟩, ⟨_, A_ra⟩, A_ca⟩) (by decide) (by decide) rfl (lenOf pd_1 rfl) rfl (Nat.le_of_eq rfl) (pc' := 116) rfl (by decide) (by decide) ?_
    rintro _ T89 h89 G89 ⟨rfl, K89, KR89⟩
    replace A_b3 := A_b3.keep K89 (ninS (Ne.symm ne_b1_b3) (ninS (Ne.symm ne_ca_b3) nin0))
    replace A_b84 := A_b84.keep K89 (ninS (Ne.symm ne_b1_b84) (ninS (Ne.symm ne_ca_b84) nin0))
    replace E_b1 := E_b1.keep K89
    replace A_r := A_r.keep K89 (ninS (Ne.symm (o_ne (by omega))) (ninS (o_ne (by omega)) nin0))
    replace A_c := A_c.keep K89 (ninS (Ne.symm (o_ne (by omega))) (ninS (o_ne (by omega)) nin0))
    replace A_ks := A_ks.keep K89 (ninS (Ne.symm (o_ne (by omega))) (ninS (o_ne (by omega)) nin0))
    replace A_st := A_st.keep K89 (ninS (Ne.symm (o_ne (by omega))) (ninS (o_ne (by omega)) nin0))
    replace A_ra := A_ra.keep K89 (ninS (Ne.symm (o_ne (by omega))) (ninS (o_ne (by omega)) nin0))
    obtain ⟨hlt89, E_b1, F_columns_b1, F_stride_b1, F_runs_b1, F_counts_b1, F_runKeys_b1, F_runStarts_b1, F_runCount_b1, F_entries_b1, A_r, A_c, A_ks, ⟨fst, A_st⟩, ⟨fra, A_ra⟩, A_ca⟩ := KR89
    show OFin n0 p e below s (fun v _ => v = some (.int 1)) 32 768 T89 (mkF m 116 #[.val (.int p0), .val (.int p1), .val (.int p2), .val (.int p3), .val (.ref b1), .val (.ref b3), .val (.int (0 : Int32)), .val (.int (1 : Int32)), .val (.int (2 : Int32)), .val (.int (1 : Int32)), .val (.int (1 : Int32)), .val (.ref b84), .unset] [])
    refine o_aload G89 at_116 (pc' := 118) rfl rfl rfl ?_
    refine o_callVP G89 (z := (⟨"com/example/keyfold/keyfold/KeyRuns", "entries", "()I"⟩ : MethodName)) (argsL := []) (rest := []) (W := 0) (r := .int (((3 : Int32) + p1) + p3)) E_b1 (hw _ (List.mem_of_getElem? (i := 67) rfl)) (hw _ (List.mem_of_getElem? (i := 69) rfl)) (hw _ (List.mem_of_getElem? (i := 68) rfl)) (hw _ (List.mem_of_getElem? (i := 70) rfl)) at_118 (by decide) (hw _ (List.mem_of_getElem? (i := 2) rfl)) (hw _ (List.mem_of_getElem? (i := 71) rfl)) (rm10 hw b1 h89 n0 G89.sz (((3 : Int32) + p1) + p3) F_entries_b1) (by decide) (by decide) rfl (lenOf pd_7 rfl) rfl (Nat.le_of_eq rfl) (pc' := 121) rfl (by decide) (by decide) ?_
    intro T90 G90
    refine o_iconst G90 at_121 (pc' := 122) rfl (v := (3 : Int32)) rfl ?_
    refine o_iloadN G90 at_122 (pc' := 123) rfl rfl ?_
    obtain ⟨v91, e91⟩ : ∃ z, (3 : Int32) + p1 = z := ⟨_, rfl⟩
    refine o_iadd G90 at_123 (pc' := 124) rfl e91 ?_
    refine o_iloadN G90 at_124 (pc' := 125) rfl rfl ?_
    obtain ⟨v92, e92⟩ : ∃ z, v91 + p3 = z := ⟨_, rfl⟩
    refine o_iadd G90 at_125 (pc' := 126) rfl e92 ?_
    refine o_icmp_ne G90 at_126 (by decide) (pcT := 133) (by decide) (pc' := 129) rfl (fun q => absurd (by subst e91 e92; first | rfl | exact own_e1 _ _ | exact own_e2 _ _ | decide) q) (fun _ => ?_)
    refine o_iconst G90 at_129 (pc' := 130) rfl (v := (1 : Int32)) rfl ?_
    refine o_goto G90 at_130 (by decide) (pc' := 134) rfl ?_
    refine o_istore G90 at_134 (pc' := 136) rfl (l' := #[.val (.int p0), .val (.int p1), .val (.int p2), .val (.int p3), .val (.ref b1), .val (.ref b3), .val (.int (0 : Int32)), .val (.int (1 : Int32)), .val (.int (2 : Int32)), .val (.int (1 : Int32)), .val (.int (1 : Int32)), .val (.ref b84), .val (.int (1 : Int32))]) rfl ?_
    refine o_iload G90 at_136 (pc' := 138) rfl rfl ?_
    refine o_if_eq G90 at_138 (by decide) (pcT := 165) (by decide) (pc' := 141) rfl (fun q => absurd q (by decide)) (fun _ => ?_)
    refine o_aload G90 at_141 (pc' := 143) rfl rfl rfl ?_
    refine o_iload G90 at_143 (pc' := 145) rfl rfl ?_
    refine o_callVP G90 (z := (⟨"com/example/keyfold/keyfold/KeyRuns", "entries", "(I)I"⟩ : MethodName)) (argsL := [(.int (0 : Int32))]) (rest := []) (W := 0) (r := .int (1 : Int32)) E_b1 (hw _ (List.mem_of_getElem? (i := 72) rfl)) (hw _ (List.mem_of_getElem? (i := 74) rfl)) (hw _ (List.mem_of_getElem? (i := 73) rfl)) (hw _ (List.mem_of_getElem? (i := 75) rfl)) at_145 (by decide) (hw _ (List.mem_of_getElem? (i := 2) rfl)) (hw _ (List.mem_of_getElem? (i := 76) rfl)) (rm11_0 hw b1 h89 n0 G90.sz (3 : Int32) r cc ks st ra ca (((3 : Int32) + p1) + p3) (1 : Int32) (((1 : Int32) + p1) + p3) (1 : Int32) ⟨hlt89, E_b1, F_columns_b1, F_stride_b1, F_runs_b1, F_counts_b1, F_runKeys_b1, F_runStarts_b1, F_runCount_b1, F_entries_b1, A_r, A_c, A_ks, ⟨_, A_st⟩, ⟨_, A_ra⟩, A_ca⟩) (by decide) (by decide) rfl (lenOf pd_2 rfl) rfl (Nat.le_of_eq rfl) (pc' := 148) rfl (by decide) (by decide) ?_
    intro T93 G93
    refine o_iconst G93 at_148 (pc' := 149) rfl (v := (0 : Int32)) rfl ?_
    refine o_iload G93 at_149 (pc' := 151) rfl rfl ?_
    refine o_iload G93 at_151 (pc' := 153) rfl rfl ?_
    refine o_iloadN G93 at_153 (pc' := 154) rfl rfl ?_
    refine o_iloadN G93 at_154 (pc' := 155) rfl rfl ?_
    obtain ⟨v94, e94⟩ : ∃ z, f_12 (0 : Int32) (1 : Int32) (1 : Int32) p1 p3 = z := ⟨_, rfl⟩
    refine o_callP G93 (z := (⟨"com/example/keyfold/keyfold/KeyRunsCountPinLaw", "expected", "(IIIII)I"⟩ : MethodName)) (r := (.int v94)) (argsL := [(.int (0 : Int32)), (.int (1 : Int32)), (.int (1 : Int32)), (.int p1), (.int p3)]) (rest := [(.int (1 : Int32))]) (W := 1) (hw _ (List.mem_of_getElem? (i := 77) rfl)) (hw _ (List.mem_of_getElem? (i := 78) rfl)) at_155 (by decide) (hw _ (List.mem_of_getElem? (i := 79) rfl)) (hw _ (List.mem_of_getElem? (i := 80) rfl)) (by rw [← e94]; exact rm12 hw (0 : Int32) (1 : Int32) (1 : Int32) p1 p3 h89 n0 G93.sz) (by decide) (by decide) rfl (lenOf pd_8 rfl) rfl (Nat.le_of_eq rfl) (pc' := 158) rfl (by decide) (by decide) ?_
    intro T95 G95
    refine o_icmp_ne G95 at_158 (by decide) (pcT := 165) (by decide) (pc' := 161) rfl (fun q => absurd (by subst e91 e92 e94; first | rfl | exact own_e1 _ _ | exact own_e2 _ _ | decide) q) (fun _ => ?_)
    refine o_iconst G95 at_161 (pc' := 162) rfl (v := (1 : Int32)) rfl ?_
    refine o_goto G95 at_162 (by decide) (pc' := 166) rfl ?_
    refine o_istore G95 at_166 (pc' := 168) rfl (l' := #[.val (.int p0), .val (.int p1), .val (.int p2), .val (.int p3), .val (.ref b1), .val (.ref b3), .val (.int (0 : Int32)), .val (.int (1 : Int32)), .val (.int (2 : Int32)), .val (.int (1 : Int32)), .val (.int (1 : Int32)), .val (.ref b84), .val (.int (1 : Int32))]) rfl ?_
    refine o_iload G95 at_168 (pc' := 170) rfl rfl ?_
    refine o_if_eq G95 at_170 (by decide) (pcT := 197) (by decide) (pc' := 173) rfl (fun q => absurd q (by decide)) (fun _ => ?_)
    refine o_aload G95 at_173 (pc' := 175) rfl rfl rfl ?_
    refine o_iload G95 at_175 (pc' := 177) rfl rfl ?_
    refine o_callVP G95 (z := (⟨"com/example/keyfold/keyfold/KeyRuns", "entries", "(I)I"⟩ : MethodName)) (argsL := [(.int (1 : Int32))]) (rest := []) (W := 0) (r := .int (((1 : Int32) + p1) + p3)) E_b1 (hw _ (List.mem_of_getElem? (i := 72) rfl)) (hw _ (List.mem_of_getElem? (i := 74) rfl)) (hw _ (List.mem_of_getElem? (i := 73) rfl)) (hw _ (List.mem_of_getElem? (i := 75) rfl)) at_177 (by decide) (hw _ (List.mem_of_getElem? (i := 2) rfl)) (hw _ (List.mem_of_getElem? (i := 76) rfl)) (rm11_1 hw b1 h89 n0 G95.sz (3 : Int32) r cc ks st ra ca (((3 : Int32) + p1) + p3) (1 : Int32) (((1 : Int32) + p1) + p3) (1 : Int32) ⟨hlt89, E_b1, F_columns_b1, F_stride_b1, F_runs_b1, F_counts_b1, F_runKeys_b1, F_runStarts_b1, F_runCount_b1, F_entries_b1, A_r, A_c, A_ks, ⟨_, A_st⟩, ⟨_, A_ra⟩, A_ca⟩) (by decide) (by decide) rfl (lenOf pd_2 rfl) rfl (Nat.le_of_eq rfl) (pc' := 180) rfl (by decide) (by decide) ?_
    intro T96 G96
    refine o_iconst G96 at_180 (pc' := 181) rfl (v := (1 : Int32)) rfl ?_
    refine o_iload G96 at_181 (pc' := 183) rfl rfl ?_
    refine o_iload G96 at_183 (pc' := 185) rfl rfl ?_
    refine o_iloadN G96 at_185 (pc' := 186) rfl rfl ?_
    refine o_iloadN G96 at_186 (pc' := 187) rfl rfl ?_
    obtain ⟨v97, e97⟩ : ∃ z, f_12 (1 : Int32) (1 : Int32) (1 : Int32) p1 p3 = z := ⟨_, rfl⟩
    refine o_callP G96 (z := (⟨"com/example/keyfold/keyfold/KeyRunsCountPinLaw", "expected", "(IIIII)I"⟩ : MethodName)) (r := (.int v97)) (argsL := [(.int (1 : Int32)), (.int (1 : Int32)), (.int (1 : Int32)), (.int p1), (.int p3)]) (rest := [(.int (((1 : Int32) + p1) + p3))]) (W := 1) (hw _ (List.mem_of_getElem? (i := 77) rfl)) (hw _ (List.mem_of_getElem? (i := 78) rfl)) at_187 (by decide) (hw _ (List.mem_of_getElem? (i := 79) rfl)) (hw _ (List.mem_of_getElem? (i := 80) rfl)) (by rw [← e97]; exact rm12 hw (1 : Int32) (1 : Int32) (1 : Int32) p1 p3 h89 n0 G96.sz) (by decide) (by decide) rfl (lenOf pd_8 rfl) rfl (Nat.le_of_eq rfl) (pc' := 190) rfl (by decide) (by decide) ?_
    intro T98 G98
    refine o_icmp_ne G98 at_190 (by decide) (pcT := 197) (by decide) (pc' := 193) rfl (fun q => absurd (by subst e91 e92 e94 e97; first | rfl | exact own_e1 _ _ | exact own_e2 _ _ | decide) q) (fun _ => ?_)
    refine o_iconst G98 at_193 (pc' := 194) rfl (v := (1 : Int32)) rfl ?_
    refine o_goto G98 at_194 (by decide) (pc' := 198) rfl ?_
    refine o_istore G98 at_198 (pc' := 200) rfl (l' := #[.val (.int p0), .val (.int p1), .val (.int p2), .val (.int p3), .val (.ref b1), .val (.ref b3), .val (.int (0 : Int32)), .val (.int (1 : Int32)), .val (.int (2 : Int32)), .val (.int (1 : Int32)), .val (.int (1 : Int32)), .val (.ref b84), .val (.int (1 : Int32))]) rfl ?_
    refine o_iload G98 at_200 (pc' := 202) rfl rfl ?_
    refine o_if_eq G98 at_202 (by decide) (pcT := 229) (by decide) (pc' := 205) rfl (fun q => absurd q (by decide)) (fun _ => ?_)
    refine o_aload G98 at_205 (pc' := 207) rfl rfl rfl ?_
    refine o_iload G98 at_207 (pc' := 209) rfl rfl ?_
    refine o_callVP G98 (z := (⟨"com/example/keyfold/keyfold/KeyRuns", "entries", "(I)I"⟩ : MethodName)) (argsL := [(.int (2 : Int32))]) (rest := []) (W := 0) (r := .int (1 : Int32)) E_b1 (hw _ (List.mem_of_getElem? (i := 72) rfl)) (hw _ (List.mem_of_getElem? (i := 74) rfl)) (hw _ (List.mem_of_getElem? (i := 73) rfl)) (hw _ (List.mem_of_getElem? (i := 75) rfl)) at_209 (by decide) (hw _ (List.mem_of_getElem? (i := 2) rfl)) (hw _ (List.mem_of_getElem? (i := 76) rfl)) (rm11_2 hw b1 h89 n0 G98.sz (3 : Int32) r cc ks st ra ca (((3 : Int32) + p1) + p3) (1 : Int32) (((1 : Int32) + p1) + p3) (1 : Int32) ⟨hlt89, E_b1, F_columns_b1, F_stride_b1, F_runs_b1, F_counts_b1, F_runKeys_b1, F_runStarts_b1, F_runCount_b1, F_entries_b1, A_r, A_c, A_ks, ⟨_, A_st⟩, ⟨_, A_ra⟩, A_ca⟩) (by decide) (by decide) rfl (lenOf pd_2 rfl) rfl (Nat.le_of_eq rfl) (pc' := 212) rfl (by decide) (by decide) ?_
    intro T99 G99
    refine o_iconst G99 at_212 (pc' := 213) rfl (v := (2 : Int32)) rfl ?_
    refine o_iload G99 at_213 (pc' := 215) rfl rfl ?_
    refine o_iload G99 at_215 (pc' := 217) rfl rfl ?_
    refine o_iloadN G99 at_217 (pc' := 218) rfl rfl ?_
    refine o_iloadN G99 at_218 (pc' := 219) rfl rfl ?_
    obtain ⟨v100, e100⟩ : ∃ z, f_12 (2 : Int32) (1 : Int32) (1 : Int32) p1 p3 = z := ⟨_, rfl⟩
    refine o_callP G99 (z := (⟨"com/example/keyfold/keyfold/KeyRunsCountPinLaw", "expected", "(IIIII)I"⟩ : MethodName)) (r := (.int v100)) (argsL := [(.int (2 : Int32)), (.int (1 : Int32)), (.int (1 : Int32)), (.int p1), (.int p3)]) (rest := [(.int (1 : Int32))]) (W := 1) (hw _ (List.mem_of_getElem? (i := 77) rfl)) (hw _ (List.mem_of_getElem? (i := 78) rfl)) at_219 (by decide) (hw _ (List.mem_of_getElem? (i := 79) rfl)) (hw _ (List.mem_of_getElem? (i := 80) rfl)) (by rw [← e100]; exact rm12 hw (2 : Int32) (1 : Int32) (1 : Int32) p1 p3 h89 n0 G99.sz) (by decide) (by decide) rfl (lenOf pd_8 rfl) rfl (Nat.le_of_eq rfl) (pc' := 222) rfl (by decide) (by decide) ?_
    intro T101 G101
    refine o_icmp_ne G101 at_222 (by decide) (pcT := 229) (by decide) (pc' := 225) rfl (fun q => absurd (by subst e91 e92 e94 e97 e100; first | rfl | exact own_e1 _ _ | exact own_e2 _ _ | decide) q) (fun _ => ?_)
    refine o_iconst G101 at_225 (pc' := 226) rfl (v := (1 : Int32)) rfl ?_
    refine o_goto G101 at_226 (by decide) (pc' := 230) rfl ?_
    refine o_istore G101 at_230 (pc' := 232) rfl (l' := #[.val (.int p0), .val (.int p1), .val (.int p2), .val (.int p3), .val (.ref b1), .val (.ref b3), .val (.int (0 : Int32)), .val (.int (1 : Int32)), .val (.int (2 : Int32)), .val (.int (1 : Int32)), .val (.int (1 : Int32)), .val (.ref b84), .val (.int (1 : Int32))]) rfl ?_
    refine o_iload G101 at_232 (pc' := 234) rfl rfl ?_
    exact o_nreturn (t := .boolean) G101 (by simp) at_234 rfl (by decide) (by decide)
  · subst ha hb
    refine o_iconst G7 at_74 (pc' := 75) rfl (v := (3 : Int32)) rfl ?_
    refine o_newarray G7 (N := 3) (cap := 3) (hw _ (List.mem_of_getElem? (i := 19) rfl)) rfl (by decide) (by decide) at_75 (pc' := 77) rfl (by decide) (by decide) ?_
    intro T102 h102 b102 G102 g102 g_b102 E102 A_b102
    have ne_b3_b102 : b3 ≠ b102 := Nat.ne_of_lt (Nat.lt_of_lt_of_eq A_b3.lt g102.symm)
    have ne_b1_b102 : b1 ≠ b102 := Nat.ne_of_lt (Nat.lt_of_lt_of_eq E_b1.lt g102.symm)
    have ne_r_b102 : r ≠ b102 := Nat.ne_of_lt (Nat.lt_of_lt_of_eq A_r.lt g102.symm)
    have ne_cc_b102 : cc ≠ b102 := Nat.ne_of_lt (Nat.lt_of_lt_of_eq A_c.lt g102.symm)
    have ne_ks_b102 : ks ≠ b102 := Nat.ne_of_lt (Nat.lt_of_lt_of_eq A_ks.lt g102.symm)
    have ne_st_b102 : st ≠ b102 := Nat.ne_of_lt (Nat.lt_of_lt_of_eq A_st.lt g102.symm)
    have ne_ra_b102 : ra ≠ b102 := Nat.ne_of_lt (Nat.lt_of_lt_of_eq A_ra.lt g102.symm)
    have ne_ca_b102 : ca ≠ b102 := Nat.ne_of_lt (Nat.lt_of_lt_of_eq A_ca.lt g102.symm)
    replace A_b3 := A_b3.ext E102
    replace E_b1 := E_b1.ext E102
    replace F_columns_b1 := F_columns_b1.ext E102
    replace F_stride_b1 := F_stride_b1.ext E102
    replace F_runs_b1 := F_runs_b1.ext E102
    replace F_counts_b1 := F_counts_b1.ext E102
    replace F_runKeys_b1 := F_runKeys_b1.ext E102
    replace F_runStarts_b1 := F_runStarts_b1.ext E102
    replace F_runCount_b1 := F_runCount_b1.ext E102
    replace F_entries_b1 := F_entries_b1.ext E102
    replace A_r := A_r.ext E102
    replace A_c := A_c.ext E102
    replace A_ks := A_ks.ext E102
    replace A_st := A_st.ext E102
    replace A_ra := A_ra.ext E102
    replace A_ca := A_ca.ext E102
    replace A_b102 : OArr Z h102 b102 .int 3 (fun _ => (.int (0 : Int32))) := A_b102
    refine o_dup G102 at_77 (pc' := 78) rfl rfl ?_
    refine o_iconst G102 at_78 (pc' := 79) rfl (v := (0 : Int32)) rfl ?_
    refine o_iload G102 at_79 (pc' := 81) rfl rfl ?_
    refine o_iastore G102 A_b102 g_b102 (i := 0) rfl (by decide) at_81 (pc' := 82) rfl ?_
    intro T103 h103 G103 W103 A103
    replace A_b3 := A_b3.other W103 ne_b3_b102
    replace E_b1 := E_b1.wr W103
    replace F_columns_b1 := F_columns_b1.other W103 (Or.inl ne_b1_b102)
    replace F_stride_b1 := F_stride_b1.other W103 (Or.inl ne_b1_b102)
    replace F_runs_b1 := F_runs_b1.other W103 (Or.inl ne_b1_b102)
    replace F_counts_b1 := F_counts_b1.other W103 (Or.inl ne_b1_b102)
    replace F_runKeys_b1 := F_runKeys_b1.other W103 (Or.inl ne_b1_b102)
    replace F_runStarts_b1 := F_runStarts_b1.other W103 (Or.inl ne_b1_b102)
    replace F_runCount_b1 := F_runCount_b1.other W103 (Or.inl ne_b1_b102)
    replace F_entries_b1 := F_entries_b1.other W103 (Or.inl ne_b1_b102)
    replace A_r := A_r.other W103 ne_r_b102
    replace A_c := A_c.other W103 ne_cc_b102
    replace A_ks := A_ks.other W103 ne_ks_b102
    replace A_st := A_st.other W103 ne_st_b102
    replace A_ra := A_ra.other W103 ne_ra_b102
    replace A_ca := A_ca.other W103 ne_ca_b102
    replace A_b102 := A103
    refine o_dup G103 at_82 (pc' := 83) rfl rfl ?_
    refine o_iconst G103 at_83 (pc' := 84) rfl (v := (1 : Int32)) rfl ?_
    refine o_iload G103 at_84 (pc' := 86) rfl rfl ?_
    refine o_iastore G103 A_b102 g_b102 (i := 1) rfl (by decide) at_86 (pc' := 87) rfl ?_
    intro T104 h104 G104 W104 A104
    replace A_b3 := A_b3.other W104 ne_b3_b102
    replace E_b1 := E_b1.wr W104
    replace F_columns_b1 := F_columns_b1.other W104 (Or.inl ne_b1_b102)
    replace F_stride_b1 := F_stride_b1.other W104 (Or.inl ne_b1_b102)
    replace F_runs_b1 := F_runs_b1.other W104 (Or.inl ne_b1_b102)
    replace F_counts_b1 := F_counts_b1.other W104 (Or.inl ne_b1_b102)
    replace F_runKeys_b1 := F_runKeys_b1.other W104 (Or.inl ne_b1_b102)
    replace F_runStarts_b1 := F_runStarts_b1.other W104 (Or.inl ne_b1_b102)
    replace F_runCount_b1 := F_runCount_b1.other W104 (Or.inl ne_b1_b102)
    replace F_entries_b1 := F_entries_b1.other W104 (Or.inl ne_b1_b102)
    replace A_r := A_r.other W104 ne_r_b102
    replace A_c := A_c.other W104 ne_cc_b102
    replace A_ks := A_ks.other W104 ne_ks_b102
    replace A_st := A_st.other W104 ne_st_b102
    replace A_ra := A_ra.other W104 ne_ra_b102
    replace A_ca := A_ca.other W104 ne_ca_b102
    replace A_b102 := A104
    refine o_dup G104 at_87 (pc' := 88) rfl rfl ?_
    refine o_iconst G104 at_88 (pc' := 89) rfl (v := (2 : Int32)) rfl ?_
    refine o_iload G104 at_89 (pc' := 91) rfl rfl ?_
    refine o_iastore G104 A_b102 g_b102 (i := 2) rfl (by decide) at_91 (pc' := 92) rfl ?_
    intro T105 h105 G105 W105 A105
    replace A_b3 := A_b3.other W105 ne_b3_b102
    replace E_b1 := E_b1.wr W105
    replace F_columns_b1 := F_columns_b1.other W105 (Or.inl ne_b1_b102)
    replace F_stride_b1 := F_stride_b1.other W105 (Or.inl ne_b1_b102)
    replace F_runs_b1 := F_runs_b1.other W105 (Or.inl ne_b1_b102)
    replace F_counts_b1 := F_counts_b1.other W105 (Or.inl ne_b1_b102)
    replace F_runKeys_b1 := F_runKeys_b1.other W105 (Or.inl ne_b1_b102)
    replace F_runStarts_b1 := F_runStarts_b1.other W105 (Or.inl ne_b1_b102)
    replace F_runCount_b1 := F_runCount_b1.other W105 (Or.inl ne_b1_b102)
    replace F_entries_b1 := F_entries_b1.other W105 (Or.inl ne_b1_b102)
    replace A_r := A_r.other W105 ne_r_b102
    replace A_c := A_c.other W105 ne_cc_b102
    replace A_ks := A_ks.other W105 ne_ks_b102
    replace A_st := A_st.other W105 ne_st_b102
    replace A_ra := A_ra.other W105 ne_ra_b102
    replace A_ca := A_ca.other W105 ne_ca_b102
    replace A_b102 := A105
    refine o_astore G105 at_92 (pc' := 94) rfl rfl (l' := #[.val (.int p0), .val (.int p1), .val (.int p2), .val (.int p3), .val (.ref b1), .val (.ref b3), .val (.int (0 : Int32)), .val (.int (1 : Int32)), .val (.int (2 : Int32)), .val (.int (1 : Int32)), .val (.int (2 : Int32)), .val (.ref b102), .unset]) rfl ?_
    refine o_aload G105 at_94 (pc' := 96) rfl rfl rfl ?_
    refine o_aload G105 at_96 (pc' := 98) rfl rfl rfl ?_
    refine o_iload G105 at_98 (pc' := 100) rfl rfl ?_
    refine o_iaload G105 A_b102 (i := 1) rfl (by decide) (v := (.int (1 : Int32))) rfl at_100 (pc' := 101) rfl ?_
    refine o_iloadN G105 at_101 (pc' := 102) rfl rfl ?_
    refine o_callV G105 (z := (⟨"com/example/keyfold/keyfold/KeyRuns", "count", "(II)V"⟩ : MethodName)) (argsL := [(.int (1 : Int32)), (.int p1)]) (rest := []) (W := 0) E_b1 (hw _ (List.mem_of_getElem? (i := 62) rfl)) (hw _ (List.mem_of_getElem? (i := 64) rfl)) (hw _ (List.mem_of_getElem? (i := 63) rfl)) (hw _ (List.mem_of_getElem? (i := 65) rfl)) at_102 (by decide) (hw _ (List.mem_of_getElem? (i := 2) rfl)) (hw _ (List.mem_of_getElem? (i := 66) rfl)) (rm9_1 hw b1 p1 h105 n0 G105.sz (3 : Int32) r cc ks st ra ca (3 : Int32) (1 : Int32) (1 : Int32) (1 : Int32) ⟨hlt7, E_b1, F_columns_b1, F_stride_b1, F_runs_b1, F_counts_b1, F_runKeys_b1, F_runStarts_b1, F_runCount_b1, F_entries_b1, A_r, A_c, A_ks, ⟨_, A_st⟩, ⟨_, A_ra⟩, A_ca⟩) (by decide) (by decide) rfl (lenOf pd_1 rfl) rfl (Nat.le_of_eq rfl) (pc' := 105) rfl (by decide) (by decide) ?_
    rintro _ T106 h106 G106 ⟨rfl, K106, KR106⟩
    replace A_b3 := A_b3.keep K106 (ninS (Ne.symm ne_b1_b3) (ninS (Ne.symm ne_ca_b3) nin0))
    replace E_b1 := E_b1.keep K106
    replace A_r := A_r.keep K106 (ninS (Ne.symm (o_ne (by omega))) (ninS (o_ne (by omega)) nin0))
    replace A_c := A_c.keep K106 (ninS (Ne.symm (o_ne (by omega))) (ninS (o_ne (by omega)) nin0))
    replace A_ks := A_ks.keep K106 (ninS (Ne.symm (o_ne (by omega))) (ninS (o_ne (by omega)) nin0))
    replace A_st := A_st.keep K106 (ninS (Ne.symm (o_ne (by omega))) (ninS (o_ne (by omega)) nin0))
    replace A_ra := A_ra.keep K106 (ninS (Ne.symm (o_ne (by omega))) (ninS (o_ne (by omega)) nin0))
    replace A_b102 := A_b102.keep K106 (ninS (Ne.symm ne_b1_b102) (ninS (Ne.symm ne_ca_b102) nin0))
    obtain ⟨hlt106, E_b1, F_columns_b1, F_stride_b1, F_runs_b1, F_counts_b1, F_runKeys_b1, F_runStarts_b1, F_runCount_b1, F_entries_b1, A_r, A_c, A_ks, ⟨fst, A_st⟩, ⟨fra, A_ra⟩, A_ca⟩ := KR106
    show OFin n0 p e below s (fun v _ => v = some (.int 1)) 32 768 T106 (mkF m 105 #[.val (.int p0), .val (.int p1), .val (.int p2), .val (.int p3), .val (.ref b1), .val (.ref b3), .val (.int (0 : Int32)), .val (.int (1 : Int32)), .val (.int (2 : Int32)), .val (.int (1 : Int32)), .val (.int (2 : Int32)), .val (.ref b102), .unset] [])
    refine o_aload G106 at_105 (pc' := 107) rfl rfl rfl ?_
    refine o_aload G106 at_107 (pc' := 109) rfl rfl rfl ?_
    refine o_iload G106 at_109 (pc' := 111) rfl rfl ?_
    refine o_iaload G106 A_b102 (i := 2) rfl (by decide) (v := (.int (2 : Int32))) rfl at_111 (pc' := 112) rfl ?_
    refine o_iloadN G106 at_112 (pc' := 113) rfl rfl ?_
    refine o_callV G106 (z := (⟨"com/example/keyfold/keyfold/KeyRuns", "count", "(II)V"⟩ : MethodName)) (argsL := [(.int (2 : Int32)), (.int p3)]) (rest := []) (W := 0) E_b1 (hw _ (List.mem_of_getElem? (i := 62) rfl)) (hw _ (List.mem_of_getElem? (i := 64) rfl)) (hw _ (List.mem_of_getElem? (i := 63) rfl)) (hw _ (List.mem_of_getElem? (i := 65) rfl)) at_113 (by decide) (hw _ (List.mem_of_getElem? (i := 2) rfl)) (hw _ (List.mem_of_getElem? (i := 66) rfl)) (rm9_2 hw b1 p3 h106 n0 G106.sz (3 : Int32) r cc ks st ra ca ((3 : Int32) + p1) (1 : Int32) ((1 : Int32) + p1) (1 : Int32) ⟨hlt106, E_b1, F_columns_b1, F_stride_b1, F_runs_b1, F_counts_b1, F_runKeys_b1, F_runStarts_b1, F_runCount_b1, F_entries_b1, A_r, A_c, A_ks, ⟨_, A_st⟩, ⟨_, A_ra⟩, A_ca⟩) (by decide) (by decide) rfl (lenOf pd_1 rfl) rfl (Nat.le_of_eq rfl) (pc' := 116) rfl (by decide) (by decide) ?_
    rintro _ T107 h107 G107 ⟨rfl, K107, KR107⟩
    replace A_b3 := A_b3.keep K107 (ninS (Ne.symm ne_b1_b3) (ninS (Ne.symm ne_ca_b3) nin0))
    replace A_b102 := A_b102.keep K107 (ninS (Ne.symm ne_b1_b102) (ninS (Ne.symm ne_ca_b102) nin0))
    replace E_b1 := E_b1.keep K107
    replace A_r := A_r.keep K107 (ninS (Ne.symm (o_ne (by omega))) (ninS (o_ne (by omega)) nin0))
    replace A_c := A_c.keep K107 (ninS (Ne.symm (o_ne (by omega))) (ninS (o_ne (by omega)) nin0))
    replace A_ks := A_ks.keep K107 (ninS (Ne.symm (o_ne (by omega))) (ninS (o_ne (by omega)) nin0))
    replace A_st := A_st.keep K107 (ninS (Ne.symm (o_ne (by omega))) (ninS (o_ne (by omega)) nin0))
    replace A_ra := A_ra.keep K107 (ninS (Ne.symm (o_ne (by omega))) (ninS (o_ne (by omega)) nin0))
    obtain ⟨hlt107, E_b1, F_columns_b1, F_stride_b1, F_runs_b1, F_counts_b1, F_runKeys_b1, F_runStarts_b1, F_runCount_b1, F_entries_b1, A_r, A_c, A_ks, ⟨fst, A_st⟩, ⟨fra, A_ra⟩, A_ca⟩ := KR107
    show OFin n0 p e below s (fun v _ => v = some (.int 1)) 32 768 T107 (mkF m 116 #[.val (.int p0), .val (.int p1), .val (.int p2), .val (.int p3), .val (.ref b1), .val (.ref b3), .val (.int (0 : Int32)), .val (.int (1 : Int32)), .val (.int (2 : Int32)), .val (.int (1 : Int32)), .val (.int (2 : Int32)), .val (.ref b102), .unset] [])
    refine o_aload G107 at_116 (pc' := 118) rfl rfl rfl ?_
    refine o_callVP G107 (z := (⟨"com/example/keyfold/keyfold/KeyRuns", "entries", "()I"⟩ : MethodName)) (argsL := []) (rest := []) (W := 0) (r := .int (((3 : Int32) + p1) + p3)) E_b1 (hw _ (List.mem_of_getElem? (i := 67) rfl)) (hw _ (List.mem_of_getElem? (i := 69) rfl)) (hw _ (List.mem_of_getElem? (i := 68) rfl)) (hw _ (List.mem_of_getElem? (i := 70) rfl)) at_118 (by decide) (hw _ (List.mem_of_getElem? (i := 2) rfl)) (hw _ (List.mem_of_getElem? (i := 71) rfl)) (rm10 hw b1 h107 n0 G107.sz (((3 : Int32) + p1) + p3) F_entries_b1) (by decide) (by decide) rfl (lenOf pd_7 rfl) rfl (Nat.le_of_eq rfl) (pc' := 121) rfl (by decide) (by decide) ?_
    intro T108 G108
    refine o_iconst G108 at_121 (pc' := 122) rfl (v := (3 : Int32)) rfl ?_
    refine o_iloadN G108 at_122 (pc' := 123) rfl rfl ?_
    obtain ⟨v109, e109⟩ : ∃ z, (3 : Int32) + p1 = z := ⟨_, rfl⟩
    refine o_iadd G108 at_123 (pc' := 124) rfl e109 ?_
    refine o_iloadN G108 at_124 (pc' := 125) rfl rfl ?_
    obtain ⟨v110, e110⟩ : ∃ z, v109 + p3 = z := ⟨_, rfl⟩
    refine o_iadd G108 at_125 (pc' := 126) rfl e110 ?_
    refine o_icmp_ne G108 at_126 (by decide) (pcT := 133) (by decide) (pc' := 129) rfl (fun q => absurd (by subst e109 e110; first | rfl | exact own_e1 _ _ | exact own_e2 _ _ | decide) q) (fun _ => ?_)
    refine o_iconst G108 at_129 (pc' := 130) rfl (v := (1 : Int32)) rfl ?_
    refine o_goto G108 at_130 (by decide) (pc' := 134) rfl ?_
    refine o_istore G108 at_134 (pc' := 136) rfl (l' := #[.val (.int p0), .val (.int p1), .val (.int p2), .val (.int p3), .val (.ref b1), .val (.ref b3), .val (.int (0 : Int32)), .val (.int (1 : Int32)), .val (.int (2 : Int32)), .val (.int (1 : Int32)), .val (.int (2 : Int32)), .val (.ref b102), .val (.int (1 : Int32))]) rfl ?_
    refine o_iload G108 at_136 (pc' := 138) rfl rfl ?_
    refine o_if_eq G108 at_138 (by decide) (pcT := 165) (by decide) (pc' := 141) rfl (fun q => absurd q (by decide)) (fun _ => ?_)
    refine o_aload G108 at_141 (pc' := 143) rfl rfl rfl ?_
    refine o_iload G108 at_143 (pc' := 145) rfl rfl ?_
    refine o_callVP G108 (z := (⟨"com/example/keyfold/keyfold/KeyRuns", "entries", "(I)I"⟩ : MethodName)) (argsL := [(.int (0 : Int32))]) (rest := []) (W := 0) (r := .int (1 : Int32)) E_b1 (hw _ (List.mem_of_getElem? (i := 72) rfl)) (hw _ (List.mem_of_getElem? (i := 74) rfl)) (hw _ (List.mem_of_getElem? (i := 73) rfl)) (hw _ (List.mem_of_getElem? (i := 75) rfl)) at_145 (by decide) (hw _ (List.mem_of_getElem? (i := 2) rfl)) (hw _ (List.mem_of_getElem? (i := 76) rfl)) (rm11_0 hw b1 h107 n0 G108.sz (3 : Int32) r cc ks st ra ca (((3 : Int32) + p1) + p3) (1 : Int32) ((1 : Int32) + p1) ((1 : Int32) + p3) ⟨hlt107, E_b1, F_columns_b1, F_stride_b1, F_runs_b1, F_counts_b1, F_runKeys_b1, F_runStarts_b1, F_runCount_b1, F_entries_b1, A_r, A_c, A_ks, ⟨_, A_st⟩, ⟨_, A_ra⟩, A_ca⟩) (by decide) (by decide) rfl (lenOf pd_2 rfl) rfl (Nat.le_of_eq rfl) (pc' := 148) rfl (by decide) (by decide) ?_
    intro T111 G111
    refine o_iconst G111 at_148 (pc' := 149) rfl (v := (0 : Int32)) rfl ?_
    refine o_iload G111 at_149 (pc' := 151) rfl rfl ?_
    refine o_iload G111 at_151 (pc' := 153) rfl rfl ?_
    refine o_iloadN G111 at_153 (pc' := 154) rfl rfl ?_
    refine o_iloadN G111 at_154 (pc' := 155) rfl rfl ?_
    obtain ⟨v112, e112⟩ : ∃ z, f_12 (0 : Int32) (1 : Int32) (2 : Int32) p1 p3 = z := ⟨_, rfl⟩
    refine o_callP G111 (z := (⟨"com/example/keyfold/keyfold/KeyRunsCountPinLaw", "expected", "(IIIII)I"⟩ : MethodName)) (r := (.int v112)) (argsL := [(.int (0 : Int32)), (.int (1 : Int32)), (.int (2 : Int32)), (.int p1), (.int p3)]) (rest := [(.int (1 : Int32))]) (W := 1) (hw _ (List.mem_of_getElem? (i := 77) rfl)) (hw _ (List.mem_of_getElem? (i := 78) rfl)) at_155 (by decide) (hw _ (List.mem_of_getElem? (i := 79) rfl)) (hw _ (List.mem_of_getElem? (i := 80) rfl)) (by rw [← e112]; exact rm12 hw (0 : Int32) (1 : Int32) (2 : Int32) p1 p3 h107 n0 G111.sz) (by decide) (by decide) rfl (lenOf pd_8 rfl) rfl (Nat.le_of_eq rfl) (pc' := 158) rfl (by decide) (by decide) ?_
    intro T113 G113
    refine o_icmp_ne G113 at_158 (by decide) (pcT := 165) (by decide) (pc' := 161) rfl (fun q => absurd (by subst e109 e110 e112; first | rfl | exact own_e1 _ _ | exact own_e2 _ _ | decide) q) (fun _ => ?_)
    refine o_iconst G113 at_161 (pc' := 162) rfl (v := (1 : Int32)) rfl ?_
    refine o_goto G113 at_162 (by decide) (pc' := 166) rfl ?_
    refine o_istore G113 at_166 (pc' := 168) rfl (l' := #[.val (.int p0), .val (.int p1), .val (.int p2), .val (.int p3), .val (.ref b1), .val (.ref b3), .val (.int (0 : Int32)), .val (.int (1 : Int32)), .val (.int (2 : Int32)), .val (.int (1 : Int32)), .val (.int (2 : Int32)), .val (.ref b102), .val (.int (1 : Int32))]) rfl ?_
    refine o_iload G113 at_168 (pc' := 170) rfl rfl ?_
    refine o_if_eq G113 at_170 (by decide) (pcT := 197) (by decide) (pc' := 173) rfl (fun q => absurd q (by decide)) (fun _ => ?_)
    refine o_aload G113 at_173 (pc' := 175) rfl rfl rfl ?_
    refine o_iload G113 at_175 (pc' := 177) rfl rfl ?_
    refine o_callVP G113 (z := (⟨"com/example/keyfold/keyfold/KeyRuns", "entries", "(I)I"⟩ : MethodName)) (argsL := [(.int (1 : Int32))]) (rest := []) (W := 0) (r := .int ((1 : Int32) + p1)) E_b1 (hw _ (List.mem_of_getElem? (i := 72) rfl)) (hw _ (List.mem_of_getElem? (i := 74) rfl)) (hw _ (List.mem_of_getElem? (i := 73) rfl)) (hw _ (List.mem_of_getElem? (i := 75) rfl)) at_177 (by decide) (hw _ (List.mem_of_getElem? (i := 2) rfl)) (hw _ (List.mem_of_getElem? (i := 76) rfl)) (rm11_1 hw b1 h107 n0 G113.sz (3 : Int32) r cc ks st ra ca (((3 : Int32) + p1) + p3) (1 : Int32) ((1 : Int32) + p1) ((1 : Int32) + p3) ⟨hlt107, E_b1, F_columns_b1, F_stride_b1, F_runs_b1, F_counts_b1, F_runKeys_b1, F_runStarts_b1, F_runCount_b1, F_entries_b1, A_r, A_c, A_ks, ⟨_, A_st⟩, ⟨_, A_ra⟩, A_ca⟩) (by decide) (by decide) rfl (lenOf pd_2 rfl) rfl (Nat.le_of_eq rfl) (pc' := 180) rfl (by decide) (by decide) ?_
    intro T114 G114
    refine o_iconst G114 at_180 (pc' := 181) rfl (v := (1 : Int32)) rfl ?_
    refine o_iload G114 at_181 (pc' := 183) rfl rfl ?_
    refine o_iload G114 at_183 (pc' := 185) rfl rfl ?_
    refine o_iloadN G114 at_185 (pc' := 186) rfl rfl ?_
    refine o_iloadN G114 at_186 (pc' := 187) rfl rfl ?_
    obtain ⟨v115, e115⟩ : ∃ z, f_12 (1 : Int32) (1 : Int32) (2 : Int32) p1 p3 = z := ⟨_, rfl⟩
    refine o_callP G114 (z := (⟨"com/example/keyfold/keyfold/KeyRunsCountPinLaw", "expected", "(IIIII)I"⟩ : MethodName)) (r := (.int v115)) (argsL := [(.int (1 : Int32)), (.int (1 : Int32)), (.int (2 : Int32)), (.int p1), (.int p3)]) (rest := [(.int ((1 : Int32) + p1))]) (W := 1) (hw _ (List.mem_of_getElem? (i := 77) rfl)) (hw _ (List.mem_of_getElem? (i := 78) rfl)) at_187 (by decide) (hw _ (List.mem_of_getElem? (i := 79) rfl)) (hw _ (List.mem_of_getElem? (i := 80) rfl)) (by rw [← e115]; exact rm12 hw (1 : Int32) (1 : Int32) (2 : Int32) p1 p3 h107 n0 G114.sz) (by decide) (by decide) rfl (lenOf pd_8 rfl) rfl (Nat.le_of_eq rfl) (pc' := 190) rfl (by decide) (by decide) ?_
    intro T116 G116
    refine o_icmp_ne G116 at_190 (by decide) (pcT := 197) (by decide) (pc' := 193) rfl (fun q => absurd (by subst e109 e110 e112 e115; first | rfl | exact own_e1 _ _ | exact own_e2 _ _ | decide) q) (fun _ => ?_)
    refine o_iconst G116 at_193 (pc' := 194) rfl (v := (1 : Int32)) rfl ?_
    refine o_goto G116 at_194 (by decide) (pc' := 198) rfl ?_
    refine o_istore G116 at_198 (pc' := 200) rfl (l' := #[.val (.int p0), .val (.int p1), .val (.int p2), .val (.int p3), .val (.ref b1), .val (.ref b3), .val (.int (0 : Int32)), .val (.int (1 : Int32)), .val (.int (2 : Int32)), .val (.int (1 : Int32)), .val (.int (2 : Int32)), .val (.ref b102), .val (.int (1 : Int32))]) rfl ?_
    refine o_iload G116 at_200 (pc' := 202) rfl rfl ?_
    refine o_if_eq G116 at_202 (by decide) (pcT := 229) (by decide) (pc' := 205) rfl (fun q => absurd q (by decide)) (fun _ => ?_)
    refine o_aload G116 at_205 (pc' := 207) rfl rfl rfl ?_
    refine o_iload G116 at_207 (pc' := 209) rfl rfl ?_
    refine o_callVP G116 (z := (⟨"com/example/keyfold/keyfold/KeyRuns", "entries", "(I)I"⟩ : MethodName)) (argsL := [(.int (2 : Int32))]) (rest := []) (W := 0) (r := .int ((1 : Int32) + p3)) E_b1 (hw _ (List.mem_of_getElem? (i := 72) rfl)) (hw _ (List.mem_of_getElem? (i := 74) rfl)) (hw _ (List.mem_of_getElem? (i := 73) rfl)) (hw _ (List.mem_of_getElem? (i := 75) rfl)) at_209 (by decide) (hw _ (List.mem_of_getElem? (i := 2) rfl)) (hw _ (List.mem_of_getElem? (i := 76) rfl)) (rm11_2 hw b1 h107 n0 G116.sz (3 : Int32) r cc ks st ra ca (((3 : Int32) + p1) + p3) (1 : Int32) ((1 : Int32) + p1) ((1 : Int32) + p3) ⟨hlt107, E_b1, F_columns_b1, F_stride_b1, F_runs_b1, F_counts_b1, F_runKeys_b1, F_runStarts_b1, F_runCount_b1, F_entries_b1, A_r, A_c, A_ks, ⟨_, A_st⟩, ⟨_, A_ra⟩, A_ca⟩) (by decide) (by decide) rfl (lenOf pd_2 rfl) rfl (Nat.le_of_eq rfl) (pc' := 212) rfl (by decide) (by decide) ?_
    intro T117 G117
    refine o_iconst G117 at_212 (pc' := 213) rfl (v := (2 : Int32)) rfl ?_
    refine o_iload G117 at_213 (pc' := 215) rfl rfl ?_
    refine o_iload G117 at_215 (pc' := 217) rfl rfl ?_
    refine o_iloadN G117 at_217 (pc' := 218) rfl rfl ?_
    refine o_iloadN G117 at_218 (pc' := 219) rfl rfl ?_
    obtain ⟨v118, e118⟩ : ∃ z, f_12 (2 : Int32) (1 : Int32) (2 : Int32) p1 p3 = z := ⟨_, rfl⟩
    refine o_callP G117 (z := (⟨"com/example/keyfold/keyfold/KeyRunsCountPinLaw", "expected", "(IIIII)I"⟩ : MethodName)) (r := (.int v118)) (argsL := [(.int (2 : Int32)), (.int (1 : Int32)), (.int (2 : Int32)), (.int p1), (.int p3)]) (rest := [(.int ((1 : Int32) + p3))]) (W := 1) (hw _ (List.mem_of_getElem? (i := 77) rfl)) (hw _ (List.mem_of_getElem? (i := 78) rfl)) at_219 (by decide) (hw _ (List.mem_of_getElem? (i := 79) rfl)) (hw _ (List.mem_of_getElem? (i := 80) rfl)) (by rw [← e118]; exact rm12 hw (2 : Int32) (1 : Int32) (2 : Int32) p1 p3 h107 n0 G117.sz) (by decide) (by decide) rfl (lenOf pd_8 rfl) rfl (Nat.le_of_eq rfl) (pc' := 222) rfl (by decide) (by decide) ?_
    intro T119 G119
    refine o_icmp_ne G119 at_222 (by decide) (pcT := 229) (by decide) (pc' := 225) rfl (fun q => absurd (by subst e109 e110 e112 e115 e118; first | rfl | exact own_e1 _ _ | exact own_e2 _ _ | decide) q) (fun _ => ?_)
    refine o_iconst G119 at_225 (pc' := 226) rfl (v := (1 : Int32)) rfl ?_
    refine o_goto G119 at_226 (by decide) (pc' := 230) rfl ?_
    refine o_istore G119 at_230 (pc' := 232) rfl (l' := #[.val (.int p0), .val (.int p1), .val (.int p2), .val (.int p3), .val (.ref b1), .val (.ref b3), .val (.int (0 : Int32)), .val (.int (1 : Int32)), .val (.int (2 : Int32)), .val (.int (1 : Int32)), .val (.int (2 : Int32)), .val (.ref b102), .val (.int (1 : Int32))]) rfl ?_
    refine o_iload G119 at_232 (pc' := 234) rfl rfl ?_
    exact o_nreturn (t := .boolean) G119 (by simp) at_234 rfl (by decide) (by decide)
  · subst ha hb
    refine o_iconst G7 at_74 (pc' := 75) rfl (v := (3 : Int32)) rfl ?_
    refine o_newarray G7 (N := 3) (cap := 3) (hw _ (List.mem_of_getElem? (i := 19) rfl)) rfl (by decide) (by decide) at_75 (pc' := 77) rfl (by decide) (by decide) ?_
    intro T120 h120 b120 G120 g120 g_b120 E120 A_b120
    have ne_b3_b120 : b3 ≠ b120 := Nat.ne_of_lt (Nat.lt_of_lt_of_eq A_b3.lt g120.symm)
    have ne_b1_b120 : b1 ≠ b120 := Nat.ne_of_lt (Nat.lt_of_lt_of_eq E_b1.lt g120.symm)
    have ne_r_b120 : r ≠ b120 := Nat.ne_of_lt (Nat.lt_of_lt_of_eq A_r.lt g120.symm)
    have ne_cc_b120 : cc ≠ b120 := Nat.ne_of_lt (Nat.lt_of_lt_of_eq A_c.lt g120.symm)
    have ne_ks_b120 : ks ≠ b120 := Nat.ne_of_lt (Nat.lt_of_lt_of_eq A_ks.lt g120.symm)
    have ne_st_b120 : st ≠ b120 := Nat.ne_of_lt (Nat.lt_of_lt_of_eq A_st.lt g120.symm)
    have ne_ra_b120 : ra ≠ b120 := Nat.ne_of_lt (Nat.lt_of_lt_of_eq A_ra.lt g120.symm)
    have ne_ca_b120 : ca ≠ b120 := Nat.ne_of_lt (Nat.lt_of_lt_of_eq A_ca.lt g120.symm)
    replace A_b3 := A_b3.ext E120
    replace E_b1 := E_b1.ext E120
    replace F_columns_b1 := F_columns_b1.ext E120
    replace F_stride_b1 := F_stride_b1.ext E120
    replace F_runs_b1 := F_runs_b1.ext E120
    replace F_counts_b1 := F_counts_b1.ext E120
    replace F_runKeys_b1 := F_runKeys_b1.ext E120
    replace F_runStarts_b1 := F_runStarts_b1.ext E120
    replace F_runCount_b1 := F_runCount_b1.ext E120
    replace F_entries_b1 := F_entries_b1.ext E120
    replace A_r := A_r.ext E120
    replace A_c := A_c.ext E120
    replace A_ks := A_ks.ext E120
    replace A_st := A_st.ext E120
    replace A_ra := A_ra.ext E120
    replace A_ca := A_ca.ext E120
    replace A_b120 : OArr Z h120 b120 .int 3 (fun _ => (.int (0 : Int32))) := A_b120
    refine o_dup G120 at_77 (pc' := 78) rfl rfl ?_
    refine o_iconst G120 at_78 (pc' := 79) rfl (v := (0 : Int32)) rfl ?_
    refine o_iload G120 at_79 (pc' := 81) rfl rfl ?_
    refine o_iastore G120 A_b120 g_b120 (i := 0) rfl (by decide) at_81 (pc' := 82) rfl ?_
    intro T121 h121 G121 W121 A121
    replace A_b3 := A_b3.other W121 ne_b3_b120
    replace E_b1 := E_b1.wr W121
    replace F_columns_b1 := F_columns_b1.other W121 (Or.inl ne_b1_b120)
    replace F_stride_b1 := F_stride_b1.other W121 (Or.inl ne_b1_b120)
    replace F_runs_b1 := F_runs_b1.other W121 (Or.inl ne_b1_b120)
    replace F_counts_b1 := F_counts_b1.other W121 (Or.inl ne_b1_b120)
    replace F_runKeys_b1 := F_runKeys_b1.other W121 (Or.inl ne_b1_b120)
    replace F_runStarts_b1 := F_runStarts_b1.other W121 (Or.inl ne_b1_b120)
    replace F_runCount_b1 := F_runCount_b1.other W121 (Or.inl ne_b1_b120)
    replace F_entries_b1 := F_entries_b1.other W121 (Or.inl ne_b1_b120)
    replace A_r := A_r.other W121 ne_r_b120
    replace A_c := A_c.other W121 ne_cc_b120
    replace A_ks := A_ks.other W121 ne_ks_b120
    replace A_st := A_st.other W121 ne_st_b120
    replace A_ra := A_ra.other W121 ne_ra_b120
    replace A_ca := A_ca.other W121 ne_ca_b120
    replace A_b120 := A121
    refine o_dup G121 at_82 (pc' := 83) rfl rfl ?_
    refine o_iconst G121 at_83 (pc' := 84) rfl (v := (1 : Int32)) rfl ?_
    refine o_iload G121 at_84 (pc' := 86) rfl rfl ?_
    refine o_iastore G121 A_b120 g_b120 (i := 1) rfl (by decide) at_86 (pc' := 87) rfl ?_
    intro T122 h122 G122 W122 A122
    replace A_b3 := A_b3.other W122 ne_b3_b120
    replace E_b1 := E_b1.wr W122
    replace F_columns_b1 := F_columns_b1.other W122 (Or.inl ne_b1_b120)
    replace F_stride_b1 := F_stride_b1.other W122 (Or.inl ne_b1_b120)
    replace F_runs_b1 := F_runs_b1.other W122 (Or.inl ne_b1_b120)
    replace F_counts_b1 := F_counts_b1.other W122 (Or.inl ne_b1_b120)
    replace F_runKeys_b1 := F_runKeys_b1.other W122 (Or.inl ne_b1_b120)
    replace F_runStarts_b1 := F_runStarts_b1.other W122 (Or.inl ne_b1_b120)
    replace F_runCount_b1 := F_runCount_b1.other W122 (Or.inl ne_b1_b120)
    replace F_entries_b1 := F_entries_b1.other W122 (Or.inl ne_b1_b120)
    replace A_r := A_r.other W122 ne_r_b120
    replace A_c := A_c.other W122 ne_cc_b120
    replace A_ks := A_ks.other W122 ne_ks_b120
    replace A_st := A_st.other W122 ne_st_b120
    replace A_ra := A_ra.other W122 ne_ra_b120
    replace A_ca := A_ca.other W122 ne_ca_b120
    replace A_b120 := A122
    refine o_dup G122 at_87 (pc' := 88) rfl rfl ?_
    refine o_iconst G122 at_88 (pc' := 89) rfl (v := (2 : Int32)) rfl ?_
    refine o_iload G122 at_89 (pc' := 91) rfl rfl ?_
    refine o_iastore G122 A_b120 g_b120 (i := 2) rfl (by decide) at_91 (pc' := 92) rfl ?_
    intro T123 h123 G123 W123 A123
    replace A_b3 := A_b3.other W123 ne_b3_b120
    replace E_b1 := E_b1.wr W123
    replace F_columns_b1 := F_columns_b1.other W123 (Or.inl ne_b1_b120)
    replace F_stride_b1 := F_stride_b1.other W123 (Or.inl ne_b1_b120)
    replace F_runs_b1 := F_runs_b1.other W123 (Or.inl ne_b1_b120)
    replace F_counts_b1 := F_counts_b1.other W123 (Or.inl ne_b1_b120)
    replace F_runKeys_b1 := F_runKeys_b1.other W123 (Or.inl ne_b1_b120)
    replace F_runStarts_b1 := F_runStarts_b1.other W123 (Or.inl ne_b1_b120)
    replace F_runCount_b1 := F_runCount_b1.other W123 (Or.inl ne_b1_b120)
    replace F_entries_b1 := F_entries_b1.other W123 (Or.inl ne_b1_b120)
    replace A_r := A_r.other W123 ne_r_b120
    replace A_c := A_c.other W123 ne_cc_b120
    replace A_ks := A_ks.other W123 ne_ks_b120
    replace A_st := A_st.other W123 ne_st_b120
    replace A_ra := A_ra.other W123 ne_ra_b120
    replace A_ca := A_ca.other W123 ne_ca_b120
    replace A_b120 := A123
    refine o_astore G123 at_92 (pc' := 94) rfl rfl (l' := #[.val (.int p0), .val (.int p1), .val (.int p2), .val (.int p3), .val (.ref b1), .val (.ref b3), .val (.int (0 : Int32)), .val (.int (1 : Int32)), .val (.int (2 : Int32)), .val (.int (2 : Int32)), .val (.int (0 : Int32)), .val (.ref b120), .unset]) rfl ?_
    refine o_aload G123 at_94 (pc' := 96) rfl rfl rfl ?_
    refine o_aload G123 at_96 (pc' := 98) rfl rfl rfl ?_
    refine o_iload G123 at_98 (pc' := 100) rfl rfl ?_
    refine o_iaload G123 A_b120 (i := 2) rfl (by decide) (v := (.int (2 : Int32))) rfl at_100 (pc' := 101) rfl ?_
    refine o_iloadN G123 at_101 (pc' := 102) rfl rfl ?_
    refine o_callV G123 (z := (⟨"com/example/keyfold/keyfold/KeyRuns", "count", "(II)V"⟩ : MethodName)) (argsL := [(.int (2 : Int32)), (.int p1)]) (rest := []) (W := 0) E_b1 (hw _ (List.mem_of_getElem? (i := 62) rfl)) (hw _ (List.mem_of_getElem? (i := 64) rfl)) (hw _ (List.mem_of_getElem? (i := 63) rfl)) (hw _ (List.mem_of_getElem? (i := 65) rfl)) at_102 (by decide) (hw _ (List.mem_of_getElem? (i := 2) rfl)) (hw _ (List.mem_of_getElem? (i := 66) rfl)) (rm9_2 hw b1 p1 h123 n0 G123.sz (3 : Int32) r cc ks st ra ca (3 : Int32) (1 : Int32) (1 : Int32) (1 : Int32) ⟨hlt7, E_b1, F_columns_b1, F_stride_b1, F_runs_b1, F_counts_b1, F_runKeys_b1, F_runStarts_b1, F_runCount_b1, F_entries_b1, A_r, A_c, A_ks, ⟨_, A_st⟩, ⟨_, A_ra⟩, A_ca⟩) (by decide) (by decide) rfl (lenOf pd_1 rfl) rfl (Nat.le_of_eq rfl) (pc' := 105) rfl (by decide) (by decide) ?_
    rintro _ T124 h124 G124 ⟨rfl, K124, KR124⟩
    replace A_b3 := A_b3.keep K124 (ninS (Ne.symm ne_b1_b3) (ninS (Ne.symm ne_ca_b3) nin0))
    replace E_b1 := E_b1.keep K124
    replace A_r := A_r.keep K124 (ninS (Ne.symm (o_ne (by omega))) (ninS (o_ne (by omega)) nin0))
    replace A_c := A_c.keep K124 (ninS (Ne.symm (o_ne (by omega))) (ninS (o_ne (by omega)) nin0))
    replace A_ks := A_ks.keep K124 (ninS (Ne.symm (o_ne (by omega))) (ninS (o_ne (by omega)) nin0))
    replace A_st := A_st.keep K124 (ninS (Ne.symm (o_ne (by omega))) (ninS (o_ne (by omega)) nin0))
    replace A_ra := A_ra.keep K124 (ninS (Ne.symm (o_ne (by omega))) (ninS (o_ne (by omega)) nin0))
    replace A_b120 := A_b120.keep K124 (ninS (Ne.symm ne_b1_b120) (ninS (Ne.symm ne_ca_b120) nin0))
    obtain ⟨hlt124, E_b1, F_columns_b1, F_stride_b1, F_runs_b1, F_counts_b1, F_runKeys_b1, F_runStarts_b1, F_runCount_b1, F_entries_b1, A_r, A_c, A_ks, ⟨fst, A_st⟩, ⟨fra, A_ra⟩, A_ca⟩ := KR124
    show OFin n0 p e below s (fun v _ => v = some (.int 1)) 32 768 T124 (mkF m 105 #[.val (.int p0), .val (.int p1), .val (.int p2), .val (.int p3), .val (.ref b1), .val (.ref b3), .val (.int (0 : Int32)), .val (.int (1 : Int32)), .val (.int (2 : Int32)), .val (.int (2 : Int32)), .val (.int (0 : Int32)), .val (.ref b120), .unset] [])
    refine o_aload G124 at_105 (pc' := 107) rfl rfl rfl ?_
    refine o_aload G124 at_107 (pc' := 109) rfl rfl rfl ?_
    refine o_iload G124 at_109 (pc' := 111) rfl rfl ?_
    refine o_iaload G124 A_b120 (i := 0) rfl (by decide) (v := (.int (0 : Int32))) rfl at_111 (pc' := 112) rfl ?_
    refine o_iloadN G124 at_112 (pc' := 113) rfl rfl ?_
    refine o_callV G124 (z := (⟨"com/example/keyfold/keyfold/KeyRuns", "count", "(II)V"⟩ : MethodName)) (argsL := [(.int (0 : Int32)), (.int p3)]) (rest := []) (W := 0) E_b1 (hw _ (List.mem_of_getElem? (i := 62) rfl)) (hw _ (List.mem_of_getElem? (i := 64) rfl)) (hw _ (List.mem_of_getElem? (i := 63) rfl)) (hw _ (List.mem_of_getElem? (i := 65) rfl)) at_113 (by decide) (hw _ (List.mem_of_getElem? (i := 2) rfl)) (hw _ (List.mem_of_getElem? (i := 66) rfl)) (rm9_0 hw b1 p3 h124 n0 G124.sz (3 : Int32) r cc ks st ra ca ((3 : Int32) + p1) (1 : Int32) (1 : Int32) ((1 : Int32) + p1) ⟨hlt124, E_b1, F_columns_b1, F_stride_b1, F_runs_b1, F_counts_b1, F_runKeys_b1, F_runStarts_b1, F_runCount_b1, F_entries_b1, A_r, A_c, A_ks, ⟨_, A_st⟩, ⟨_, A_ra⟩, A_ca⟩) (by decide) (by decide) rfl (lenOf pd_1 rfl) rfl (Nat.le_of_eq rfl) (pc' := 116) rfl (by decide) (by decide) ?_
    rintro _ T125 h125 G125 ⟨rfl, K125, KR125⟩
    replace A_b3 := A_b3.keep K125 (ninS (Ne.symm ne_b1_b3) (ninS (Ne.symm ne_ca_b3) nin0))
    replace A_b120 := A_b120.keep K125 (ninS (Ne.symm ne_b1_b120) (ninS (Ne.symm ne_ca_b120) nin0))
    replace E_b1 := E_b1.keep K125
    replace A_r := A_r.keep K125 (ninS (Ne.symm (o_ne (by omega))) (ninS (o_ne (by omega)) nin0))
    replace A_c := A_c.keep K125 (ninS (Ne.symm (o_ne (by omega))) (ninS (o_ne (by omega)) nin0))
    replace A_ks := A_ks.keep K125 (ninS (Ne.symm (o_ne (by omega))) (ninS (o_ne (by omega)) nin0))
    replace A_st := A_st.keep K125 (ninS (Ne.symm (o_ne (by omega))) (ninS (o_ne (by omega)) nin0))
    replace A_ra := A_ra.keep K125 (ninS (Ne.symm (o_ne (by omega))) (ninS (o_ne (by omega)) nin0))
    obtain ⟨hlt125, E_b1, F_columns_b1, F_stride_b1, F_runs_b1, F_counts_b1, F_runKeys_b1, F_runStarts_b1, F_runCount_b1, F_entries_b1, A_r, A_c, A_ks, ⟨fst, A_st⟩, ⟨fra, A_ra⟩, A_ca⟩ := KR125
    show OFin n0 p e below s (fun v _ => v = some (.int 1)) 32 768 T125 (mkF m 116 #[.val (.int p0), .val (.int p1), .val (.int p2), .val (.int p3), .val (.ref b1), .val (.ref b3), .val (.int (0 : Int32)), .val (.int (1 : Int32)), .val (.int (2 : Int32)), .val (.int (2 : Int32)), .val (.int (0 : Int32)), .val (.ref b120), .unset] [])
    refine o_aload G125 at_116 (pc' := 118) rfl rfl rfl ?_
    refine o_callVP G125 (z := (⟨"com/example/keyfold/keyfold/KeyRuns", "entries", "()I"⟩ : MethodName)) (argsL := []) (rest := []) (W := 0) (r := .int (((3 : Int32) + p1) + p3)) E_b1 (hw _ (List.mem_of_getElem? (i := 67) rfl)) (hw _ (List.mem_of_getElem? (i := 69) rfl)) (hw _ (List.mem_of_getElem? (i := 68) rfl)) (hw _ (List.mem_of_getElem? (i := 70) rfl)) at_118 (by decide) (hw _ (List.mem_of_getElem? (i := 2) rfl)) (hw _ (List.mem_of_getElem? (i := 71) rfl)) (rm10 hw b1 h125 n0 G125.sz (((3 : Int32) + p1) + p3) F_entries_b1) (by decide) (by decide) rfl (lenOf pd_7 rfl) rfl (Nat.le_of_eq rfl) (pc' := 121) rfl (by decide) (by decide) ?_
    intro T126 G126
    refine o_iconst G126 at_121 (pc' := 122) rfl (v := (3 : Int32)) rfl ?_
    refine o_iloadN G126 at_122 (pc' := 123) rfl rfl ?_
    obtain ⟨v127, e127⟩ : ∃ z, (3 : Int32) + p1 = z := ⟨_, rfl⟩
    refine o_iadd G126 at_123 (pc' := 124) rfl e127 ?_
    refine o_iloadN G126 at_124 (pc' := 125) rfl rfl ?_
    obtain ⟨v128, e128⟩ : ∃ z, v127 + p3 = z := ⟨_, rfl⟩
    refine o_iadd G126 at_125 (pc' := 126) rfl e128 ?_
    refine o_icmp_ne G126 at_126 (by decide) (pcT := 133) (by decide) (pc' := 129) rfl (fun q => absurd (by subst e127 e128; first | rfl | exact own_e1 _ _ | exact own_e2 _ _ | decide) q) (fun _ => ?_)
    refine o_iconst G126 at_129 (pc' := 130) rfl (v := (1 : Int32)) rfl ?_
    refine o_goto G126 at_130 (by decide) (pc' := 134) rfl ?_
    refine o_istore G126 at_134 (pc' := 136) rfl (l' := #[.val (.int p0), .val (.int p1), .val (.int p2), .val (.int p3), .val (.ref b1), .val (.ref b3), .val (.int (0 : Int32)), .val (.int (1 : Int32)), .val (.int (2 : Int32)), .val (.int (2 : Int32)), .val (.int (0 : Int32)), .val (.ref b120), .val (.int (1 : Int32))]) rfl ?_
    refine o_iload G126 at_136 (pc' := 138) rfl rfl ?_
    refine o_if_eq G126 at_138 (by decide) (pcT := 165) (by decide) (pc' := 141) rfl (fun q => absurd q (by decide)) (fun _ => ?_)
    refine o_aload G126 at_141 (pc' := 143) rfl rfl rfl ?_
    refine o_iload G126 at_143 (pc' := 145) rfl rfl ?_
    refine o_callVP G126 (z := (⟨"com/example/keyfold/keyfold/KeyRuns", "entries", "(I)I"⟩ : MethodName)) (argsL := [(.int (0 : Int32))]) (rest := []) (W := 0) (r := .int ((1 : Int32) + p3)) E_b1 (hw _ (List.mem_of_getElem? (i := 72) rfl)) (hw _ (List.mem_of_getElem? (i := 74) rfl)) (hw _ (List.mem_of_getElem? (i := 73) rfl)) (hw _ (List.mem_of_getElem? (i := 75) rfl)) at_145 (by decide) (hw _ (List.mem_of_getElem? (i := 2) rfl)) (hw _ (List.mem_of_getElem? (i := 76) rfl)) (rm11_0 hw b1 h125 n0 G126.sz (3 : Int32) r cc ks st ra ca (((3 : Int32) + p1) + p3) ((1 : Int32) + p3) (1 : Int32) ((1 : Int32) + p1) ⟨hlt125, E_b1, F_columns_b1, F_stride_b1, F_runs_b1, F_counts_b1, F_runKeys_b1, F_runStarts_b1, F_runCount_b1, F_entries_b1, A_r, A_c, A_ks, ⟨_, A_st⟩, ⟨_, A_ra⟩, A_ca⟩) (by decide) (by decide) rfl (lenOf pd_2 rfl) rfl (Nat.le_of_eq rfl) (pc' := 148) rfl (by decide) (by decide) ?_
    intro T129 G129
    refine o_iconst G129 at_148 (pc' := 149) rfl (v := (0 : Int32)) rfl ?_
    refine o_iload G129 at_149 (pc' := 151) rfl rfl ?_
    refine o_iload G129 at_151 (pc' := 153) rfl rfl ?_
    refine o_iloadN G129 at_153 (pc' := 154) rfl rfl ?_
    refine o_iloadN G129 at_154 (pc' := 155) rfl rfl ?_
    obtain ⟨v130, e130⟩ : ∃ z, f_12 (0 : Int32) (2 : Int32) (0 : Int32) p1 p3 = z := ⟨_, rfl⟩
    refine o_callP G129 (z := (⟨"com/example/keyfold/keyfold/KeyRunsCountPinLaw", "expected", "(IIIII)I"⟩ : MethodName)) (r := (.int v130)) (argsL := [(.int (0 : Int32)), (.int (2 : Int32)), (.int (0 : Int32)), (.int p1), (.int p3)]) (rest := [(.int ((1 : Int32) + p3))]) (W := 1) (hw _ (List.mem_of_getElem? (i := 77) rfl)) (hw _ (List.mem_of_getElem? (i := 78) rfl)) at_155 (by decide) (hw _ (List.mem_of_getElem? (i := 79) rfl)) (hw _ (List.mem_of_getElem? (i := 80) rfl)) (by rw [← e130]; exact rm12 hw (0 : Int32) (2 : Int32) (0 : Int32) p1 p3 h125 n0 G129.sz) (by decide) (by decide) rfl (lenOf pd_8 rfl) rfl (Nat.le_of_eq rfl) (pc' := 158) rfl (by decide) (by decide) ?_
    intro T131 G131
    refine o_icmp_ne G131 at_158 (by decide) (pcT := 165) (by decide) (pc' := 161) rfl (fun q => absurd (by subst e127 e128 e130; first | rfl | exact own_e1 _ _ | exact own_e2 _ _ | decide) q) (fun _ => ?_)
    refine o_iconst G131 at_161 (pc' := 162) rfl (v := (1 : Int32)) rfl ?_
    refine o_goto G131 at_162 (by decide) (pc' := 166) rfl ?_
    refine o_istore G131 at_166 (pc' := 168) rfl (l' := #[.val (.int p0), .val (.int p1), .val (.int p2), .val (.int p3), .val (.ref b1), .val (.ref b3), .val (.int (0 : Int32)), .val (.int (1 : Int32)), .val (.int (2 : Int32)), .val (.int (2 : Int32)), .val (.int (0 : Int32)), .val (.ref b120), .val (.int (1 : Int32))]) rfl ?_
    refine o_iload G131 at_168 (pc' := 170) rfl rfl ?_
    refine o_if_eq G131 at_170 (by decide) (pcT := 197) (by decide) (pc' := 173) rfl (fun q => absurd q (by decide)) (fun _ => ?_)
    refine o_aload G131 at_173 (pc' := 175) rfl rfl rfl ?_
    refine o_iload G131 at_175 (pc' := 177) rfl rfl ?_
    refine o_callVP G131 (z := (⟨"com/example/keyfold/keyfold/KeyRuns", "entries", "(I)I"⟩ : MethodName)) (argsL := [(.int (1 : Int32))]) (rest := []) (W := 0) (r := .int (1 : Int32)) E_b1 (hw _ (List.mem_of_getElem? (i := 72) rfl)) (hw _ (List.mem_of_getElem? (i := 74) rfl)) (hw _ (List.mem_of_getElem? (i := 73) rfl)) (hw _ (List.mem_of_getElem? (i := 75) rfl)) at_177 (by decide) (hw _ (List.mem_of_getElem? (i := 2) rfl)) (hw _ (List.mem_of_getElem? (i := 76) rfl)) (rm11_1 hw b1 h125 n0 G131.sz (3 : Int32) r cc ks st ra ca (((3 : Int32) + p1) + p3) ((1 : Int32) + p3) (1 : Int32) ((1 : Int32) + p1) ⟨hlt125, E_b1, F_columns_b1, F_stride_b1, F_runs_b1, F_counts_b1, F_runKeys_b1, F_runStarts_b1, F_runCount_b1, F_entries_b1, A_r, A_c, A_ks, ⟨_, A_st⟩, ⟨_, A_ra⟩, A_ca⟩) (by decide) (by decide) rfl (lenOf pd_2 rfl) rfl (Nat.le_of_eq rfl) (pc' := 180) rfl (by decide) (by decide) ?_
    intro T132 G132
    refine o_iconst G132 at_180 (pc' := 181) rfl (v := (1 : Int32)) rfl ?_
    refine o_iload G132 at_181 (pc' := 183) rfl rfl ?_
    refine o_iload G132 at_183 (pc' := 185) rfl rfl ?_
    refine o_iloadN G132 at_185 (pc' := 186) rfl rfl ?_
    refine o_iloadN G132 at_186 (pc' := 187) rfl rfl ?_
    obtain ⟨v133, e133⟩ : ∃ z, f_12 (1 : Int32) (2 : Int32) (0 : Int32) p1 p3 = z := ⟨_, rfl⟩
    refine o_callP G132 (z := (⟨"com/example/keyfold/keyfold/KeyRunsCountPinLaw", "expected", "(IIIII)I"⟩ : MethodName)) (r := (.int v133)) (argsL := [(.int (1 : Int32)), (.int (2 : Int32)), (.int (0 : Int32)), (.int p1), (.int p3)]) (rest := [(.int (1 : Int32))]) (W := 1) (hw _ (List.mem_of_getElem? (i := 77) rfl)) (hw _ (List.mem_of_getElem? (i := 78) rfl)) at_187 (by decide) (hw _ (List.mem_of_getElem? (i := 79) rfl)) (hw _ (List.mem_of_getElem? (i := 80) rfl)) (by rw [← e133]; exact rm12 hw (1 : Int32) (2 : Int32) (0 : Int32) p1 p3 h125 n0 G132.sz) (by decide) (by decide) rfl (lenOf pd_8 rfl) rfl (Nat.le_of_eq rfl) (pc' := 190) rfl (by decide) (by decide) ?_
    intro T134 G134
    refine o_icmp_ne G134 at_190 (by decide) (pcT := 197) (by decide) (pc' := 193) rfl (fun q => absurd (by subst e127 e128 e130 e133; first | rfl | exact own_e1 _ _ | exact own_e2 _ _ | decide) q) (fun _ => ?_)
    refine o_iconst G134 at_193 (pc' := 194) rfl (v := (1 : Int32)) rfl ?_
    refine o_goto G134 at_194 (by decide) (pc' := 198) rfl ?_
    refine o_istore G134 at_198 (pc' := 200) rfl (l' := #[.val (.int p0), .val (.int p1), .val (.int p2), .val (.int p3), .val (.ref b1), .val (.ref b3), .val (.int (0 : Int32)), .val (.int (1 : Int32)), .val (.int (2 : Int32)), .val (.int (2 : Int32)), .val (.int (0 : Int32)), .val (.ref b120), .val (.int (1 : Int32))]) rfl ?_
    refine o_iload G134 at_200 (pc' := 202) rfl rfl ?_
    refine o_if_eq G134 at_202 (by decide) (pcT := 229) (by decide) (pc' := 205) rfl (fun q => absurd q (by decide)) (fun _ => ?_)
    refine o_aload G134 at_205 (pc' := 207) rfl rfl rfl ?_
    refine o_iload G134 at_207 (pc' := 209) rfl rfl ?_
    refine o_callVP G134 (z := (⟨"com/example/keyfold/keyfold/KeyRuns", "entries", "(I)I"⟩ : MethodName)) (argsL := [(.int (2 : Int32))]) (rest := []) (W := 0) (r := .int ((1 : Int32) + p1)) E_b1 (hw _ (List.mem_of_getElem? (i := 72) rfl)) (hw _ (List.mem_of_getElem? (i := 74) rfl)) (hw _ (List.mem_of_getElem? (i := 73) rfl)) (hw _ (List.mem_of_getElem? (i := 75) rfl)) at_209 (by decide) (hw _ (List.mem_of_getElem? (i := 2) rfl)) (hw _ (List.mem_of_getElem? (i := 76) rfl)) (rm11_2 hw b1 h125 n0 G134.sz (3 : Int32) r cc ks st ra ca (((3 : Int32) + p1) + p3) ((1 : Int32) + p3) (1 : Int32) ((1 : Int32) + p1) ⟨hlt125, E_b1, F_columns_b1, F_stride_b1, F_runs_b1, F_counts_b1, F_runKeys_b1, F_runStarts_b1, F_runCount_b1, F_entries_b1, A_r, A_c, A_ks, ⟨_, A_st⟩, ⟨_, A_ra⟩, A_ca⟩) (by decide) (by decide) rfl (lenOf pd_2 rfl) rfl (Nat.le_of_eq rfl) (pc' := 212) rfl (by decide) (by decide) ?_
    intro T135 G135
    refine o_iconst G135 at_212 (pc' := 213) rfl (v := (2 : Int32)) rfl ?_
    refine o_iload G135 at_213 (pc' := 215) rfl rfl ?_
    refine o_iload G135 at_215 (pc' := 217) rfl rfl ?_
    refine o_iloadN G135 at_217 (pc' := 218) rfl rfl ?_
    refine o_iloadN G135 at_218 (pc' := 219) rfl rfl ?_
    obtain ⟨v136, e136⟩ : ∃ z, f_12 (2 : Int32) (2 : Int32) (0 : Int32) p1 p3 = z := ⟨_, rfl⟩
    refine o_callP G135 (z := (⟨"com/example/keyfold/keyfold/KeyRunsCountPinLaw", "expected", "(IIIII)I"⟩ : MethodName)) (r := (.int v136)) (argsL := [(.int (2 : Int32)), (.int (2 : Int32)), (.int (0 : Int32)), (.int p1), (.int p3)]) (rest := [(.int ((1 : Int32) + p1))]) (W := 1) (hw _ (List.mem_of_getElem? (i := 77) rfl)) (hw _ (List.mem_of_getElem? (i := 78) rfl)) at_219 (by decide) (hw _ (List.mem_of_getElem? (i := 79) rfl)) (hw _ (List.mem_of_getElem? (i := 80) rfl)) (by rw [← e136]; exact rm12 hw (2 : Int32) (2 : Int32) (0 : Int32) p1 p3 h125 n0 G135.sz) (by decide) (by decide) rfl (lenOf pd_8 rfl) rfl (Nat.le_of_eq rfl) (pc' := 222) rfl (by decide) (by decide) ?_
    intro T137 G137
    refine o_icmp_ne G137 at_222 (by decide) (pcT := 229) (by decide) (pc' := 225) rfl (fun q => absurd (by subst e127 e128 e130 e133 e136; first | rfl | exact own_e1 _ _ | exact own_e2 _ _ | decide) q) (fun _ => ?_)
    refine o_iconst G137 at_225 (pc' := 226) rfl (v := (1 : Int32)) rfl ?_
    refine o_goto G137 at_226 (by decide) (pc' := 230) rfl ?_
    refine o_istore G137 at_230 (pc' := 232) rfl (l' := #[.val (.int p0), .val (.int p1), .val (.int p2), .val (.int p3), .val (.ref b1), .val (.ref b3), .val (.int (0 : Int32)), .val (.int (1 : Int32)), .val (.int (2 : Int32)), .val (.int (2 : Int32)), .val (.int (0 : Int32)), .val (.ref b120), .val (.int (1 : Int32))]) rfl ?_
    refine o_iload G137 at_232 (pc' := 234) rfl rfl ?_
    exact o_nreturn (t := .boolean) G137 (by simp) at_234 rfl (by decide) (by decide)
  · subst ha hb
    refine o_iconst G7 at_74 (pc' := 75) rfl (v := (3 : Int32)) rfl ?_
    refine o_newarray G7 (N := 3) (cap := 3) (hw _ (List.mem_of_getElem? (i := 19) rfl)) rfl (by decide) (by decide) at_75 (pc' := 77) rfl (by decide) (by decide) ?_
    intro T138 h138 b138 G138 g138 g_b138 E138 A_b138
    have ne_b3_b138 : b3 ≠ b138 := Nat.ne_of_lt (Nat.lt_of_lt_of_eq A_b3.lt g138.symm)
    have ne_b1_b138 : b1 ≠ b138 := Nat.ne_of_lt (Nat.lt_of_lt_of_eq E_b1.lt g138.symm)
    have ne_r_b138 : r ≠ b138 := Nat.ne_of_lt (Nat.lt_of_lt_of_eq A_r.lt g138.symm)
    have ne_cc_b138 : cc ≠ b138 := Nat.ne_of_lt (Nat.lt_of_lt_of_eq A_c.lt g138.symm)
    have ne_ks_b138 : ks ≠ b138 := Nat.ne_of_lt (Nat.lt_of_lt_of_eq A_ks.lt g138.symm)
    have ne_st_b138 : st ≠ b138 := Nat.ne_of_lt (Nat.lt_of_lt_of_eq A_st.lt g138.symm)
    have ne_ra_b138 : ra ≠ b138 := Nat.ne_of_lt (Nat.lt_of_lt_of_eq A_ra.lt g138.symm)
    have ne_ca_b138 : ca ≠ b138 := Nat.ne_of_lt (Nat.lt_of_lt_of_eq A_ca.lt g138.symm)
    replace A_b3 := A_b3.ext E138
    replace E_b1 := E_b1.ext E138
    replace F_columns_b1 := F_columns_b1.ext E138
    replace F_stride_b1 := F_stride_b1.ext E138
    replace F_runs_b1 := F_runs_b1.ext E138
    replace F_counts_b1 := F_counts_b1.ext E138
    replace F_runKeys_b1 := F_runKeys_b1.ext E138
    replace F_runStarts_b1 := F_runStarts_b1.ext E138
    replace F_runCount_b1 := F_runCount_b1.ext E138
    replace F_entries_b1 := F_entries_b1.ext E138
    replace A_r := A_r.ext E138
    replace A_c := A_c.ext E138
    replace A_ks := A_ks.ext E138
    replace A_st := A_st.ext E138
    replace A_ra := A_ra.ext E138
    replace A_ca := A_ca.ext E138
    replace A_b138 : OArr Z h138 b138 .int 3 (fun _ => (.int (0 : Int32))) := A_b138
    refine o_dup G138 at_77 (pc' := 78) rfl rfl ?_
    refine o_iconst G138 at_78 (pc' := 79) rfl (v := (0 : Int32)) rfl ?_
    refine o_iload G138 at_79 (pc' := 81) rfl rfl ?_
    refine o_iastore G138 A_b138 g_b138 (i := 0) rfl (by decide) at_81 (pc' := 82) rfl ?_
    intro T139 h139 G139 W139 A139
    replace A_b3 := A_b3.other W139 ne_b3_b138
    replace E_b1 := E_b1.wr W139
    replace F_columns_b1 := F_columns_b1.other W139 (Or.inl ne_b1_b138)
    replace F_stride_b1 := F_stride_b1.other W139 (Or.inl ne_b1_b138)
    replace F_runs_b1 := F_runs_b1.other W139 (Or.inl ne_b1_b138)
    replace F_counts_b1 := F_counts_b1.other W139 (Or.inl ne_b1_b138)
    replace F_runKeys_b1 := F_runKeys_b1.other W139 (Or.inl ne_b1_b138)
    replace F_runStarts_b1 := F_runStarts_b1.other W139 (Or.inl ne_b1_b138)
    replace F_runCount_b1 := F_runCount_b1.other W139 (Or.inl ne_b1_b138)
    replace F_entries_b1 := F_entries_b1.other W139 (Or.inl ne_b1_b138)
    replace A_r := A_r.other W139 ne_r_b138
    replace A_c := A_c.other W139 ne_cc_b138
    replace A_ks := A_ks.other W139 ne_ks_b138
    replace A_st := A_st.other W139 ne_st_b138
    replace A_ra := A_ra.other W139 ne_ra_b138
    replace A_ca := A_ca.other W139 ne_ca_b138
    replace A_b138 := A139
    refine o_dup G139 at_82 (pc' := 83) rfl rfl ?_
    refine o_iconst G139 at_83 (pc' := 84) rfl (v := (1 : Int32)) rfl ?_
    refine o_iload G139 at_84 (pc' := 86) rfl rfl ?_
    refine o_iastore G139 A_b138 g_b138 (i := 1) rfl (by decide) at_86 (pc' := 87) rfl ?_
    intro T140 h140 G140 W140 A140
    replace A_b3 := A_b3.other W140 ne_b3_b138
    replace E_b1 := E_b1.wr W140
    replace F_columns_b1 := F_columns_b1.other W140 (Or.inl ne_b1_b138)
    replace F_stride_b1 := F_stride_b1.other W140 (Or.inl ne_b1_b138)
    replace F_runs_b1 := F_runs_b1.other W140 (Or.inl ne_b1_b138)
    replace F_counts_b1 := F_counts_b1.other W140 (Or.inl ne_b1_b138)
    replace F_runKeys_b1 := F_runKeys_b1.other W140 (Or.inl ne_b1_b138)
    replace F_runStarts_b1 := F_runStarts_b1.other W140 (Or.inl ne_b1_b138)
    replace F_runCount_b1 := F_runCount_b1.other W140 (Or.inl ne_b1_b138)
    replace F_entries_b1 := F_entries_b1.other W140 (Or.inl ne_b1_b138)
    replace A_r := A_r.other W140 ne_r_b138
    replace A_c := A_c.other W140 ne_cc_b138
    replace A_ks := A_ks.other W140 ne_ks_b138
    replace A_st := A_st.other W140 ne_st_b138
    replace A_ra := A_ra.other W140 ne_ra_b138
    replace A_ca := A_ca.other W140 ne_ca_b138
    replace A_b138 := A140
    refine o_dup G140 at_87 (pc' := 88) rfl rfl ?_
    refine o_iconst G140 at_88 (pc' := 89) rfl (v := (2 : Int32)) rfl ?_
    refine o_iload G140 at_89 (pc' := 91) rfl rfl ?_
    refine o_iastore G140 A_b138 g_b138 (i := 2) rfl (by decide) at_91 (pc' := 92) rfl ?_
    intro T141 h141 G141 W141 A141
    replace A_b3 := A_b3.other W141 ne_b3_b138
    replace E_b1 := E_b1.wr W141
    replace F_columns_b1 := F_columns_b1.other W141 (Or.inl ne_b1_b138)
    replace F_stride_b1 := F_stride_b1.other W141 (Or.inl ne_b1_b138)
    replace F_runs_b1 := F_runs_b1.other W141 (Or.inl ne_b1_b138)
    replace F_counts_b1 := F_counts_b1.other W141 (Or.inl ne_b1_b138)
    replace F_runKeys_b1 := F_runKeys_b1.other W141 (Or.inl ne_b1_b138)
    replace F_runStarts_b1 := F_runStarts_b1.other W141 (Or.inl ne_b1_b138)
    replace F_runCount_b1 := F_runCount_b1.other W141 (Or.inl ne_b1_b138)
    replace F_entries_b1 := F_entries_b1.other W141 (Or.inl ne_b1_b138)
    replace A_r := A_r.other W141 ne_r_b138
    replace A_c := A_c.other W141 ne_cc_b138
    replace A_ks := A_ks.other W141 ne_ks_b138
    replace A_st := A_st.other W141 ne_st_b138
    replace A_ra := A_ra.other W141 ne_ra_b138
    replace A_ca := A_ca.other W141 ne_ca_b138
    replace A_b138 := A141
    refine o_astore G141 at_92 (pc' := 94) rfl rfl (l' := #[.val (.int p0), .val (.int p1), .val (.int p2), .val (.int p3), .val (.ref b1), .val (.ref b3), .val (.int (0 : Int32)), .val (.int (1 : Int32)), .val (.int (2 : Int32)), .val (.int (2 : Int32)), .val (.int (1 : Int32)), .val (.ref b138), .unset]) rfl ?_
    refine o_aload G141 at_94 (pc' := 96) rfl rfl rfl ?_
    refine o_aload G141 at_96 (pc' := 98) rfl rfl rfl ?_
    refine o_iload G141 at_98 (pc' := 100) rfl rfl ?_
    refine o_iaload G141 A_b138 (i := 2) rfl (by decide) (v := (.int (2 : Int32))) rfl at_100 (pc' := 101) rfl ?_
    refine o_iloadN G141 at_101 (pc' := 102) rfl rfl ?_
    refine o_callV G141 (z := (⟨"com/example/keyfold/keyfold/KeyRuns", "count", "(II)V"⟩ : MethodName)) (argsL := [(.int (2 : Int32)), (.int p1)]) (rest := []) (W := 0) E_b1 (hw _ (List.mem_of_getElem? (i := 62) rfl)) (hw _ (List.mem_of_getElem? (i := 64) rfl)) (hw _ (List.mem_of_getElem? (i := 63) rfl)) (hw _ (List.mem_of_getElem? (i := 65) rfl)) at_102 (by decide) (hw _ (List.mem_of_getElem? (i := 2) rfl)) (hw _ (List.mem_of_getElem? (i := 66) rfl)) (rm9_2 hw b1 p1 h141 n0 G141.sz (3 : Int32) r cc ks st ra ca (3 : Int32) (1 : Int32) (1 : Int32) (1 : Int32) ⟨hlt7, E_b1, F_columns_b1, F_stride_b1, F_runs_b1, F_counts_b1, F_runKeys_b1, F_runStarts_b1, F_runCount_b1, F_entries_b1, A_r, A_c, A_ks, ⟨_, A_st⟩, ⟨_, A_ra⟩, A_ca⟩) (by decide) (by decide) rfl (lenOf pd_1 rfl) rfl (Nat.le_of_eq rfl) (pc' := 105) rfl (by decide) (by decide) ?_
    rintro _ T142 h142 G142 ⟨rfl, K142, KR142⟩
    replace A_b3 := A_b3.keep K142 (ninS (Ne.symm ne_b1_b3) (ninS (Ne.symm ne_ca_b3) nin0))
    replace E_b1 := E_b1.keep K142
    replace A_r := A_r.keep K142 (ninS (Ne.symm (o_ne (by omega))) (ninS (o_ne (by omega)) nin0))
    replace A_c := A_c.keep K142 (ninS (Ne.symm (o_ne (by omega))) (ninS (o_ne (by omega)) nin0))
    replace A_ks := A_ks.keep K142 (ninS (Ne.symm (o_ne (by omega))) (ninS (o_ne (by omega)) nin0))
    replace A_st := A_st.keep K142 (ninS (Ne.symm (o_ne (by omega))) (ninS (o_ne (by omega)) nin0))
    replace A_ra := A_ra.keep K142 (ninS (Ne.symm (o_ne (by omega))) (ninS (o_ne (by omega)) nin0))
    replace A_b138 := A_b138.keep K142 (ninS (Ne.symm ne_b1_b138) (ninS (Ne.symm ne_ca_b138) nin0))
    obtain ⟨hlt142, E_b1, F_columns_b1, F_stride_b1, F_runs_b1, F_counts_b1, F_runKeys_b1, F_runStarts_b1, F_runCount_b1, F_entries_b1, A_r, A_c, A_ks, ⟨fst, A_st⟩, ⟨fra, A_ra⟩, A_ca⟩ := KR142
    show OFin n0 p e below s (fun v _ => v = some (.int 1)) 32 768 T142 (mkF m 105 #[.val (.int p0), .val (.int p1), .val (.int p2), .val (.int p3), .val (.ref b1), .val (.ref b3), .val (.int (0 : Int32)), .val (.int (1 : Int32)), .val (.int (2 : Int32)), .val (.int (2 : Int32)), .val (.int (1 : Int32)), .val (.ref b138), .unset] [])
    refine o_aload G142 at_105 (pc' := 107) rfl rfl rfl ?_
    refine o_aload G142 at_107 (pc' := 109) rfl rfl rfl ?_
    refine o_iload G142 at_109 (pc' := 111) rfl rfl ?_
    refine o_iaload G142 A_b138 (i := 1) rfl (by decide) (v := (.int (1 : Int32))) rfl at_111 (pc' := 112) rfl ?_
    refine o_iloadN G142 at_112 (pc' := 113) rfl rfl ?_
    refine o_callV G142 (z := (⟨"com/example/keyfold/keyfold/KeyRuns", "count", "(II)V"⟩ : MethodName)) (argsL := [(.int (1 : Int32)), (.int p3)]) (rest := []) (W := 0) E_b1 (hw _ (List.mem_of_getElem? (i := 62) rfl)) (hw _ (List.mem_of_getElem? (i := 64) rfl)) (hw _ (List.mem_of_getElem? (i := 63) rfl)) (hw _ (List.mem_of_getElem? (i := 65) rfl)) at_113 (by decide) (hw _ (List.mem_of_getElem? (i := 2) rfl)) (hw _ (List.mem_of_getElem? (i := 66) rfl)) (rm9_1 hw b1 p3 h142 n0 G142.sz (3 : Int32) r cc ks st ra ca ((3 : Int32) + p1) (1 : Int32) (1 : Int32) ((1 : Int32) + p1) ⟨hlt142, E_b1, F_columns_b1, F_stride_b1, F_runs_b1, F_counts_b1, F_runKeys_b1, F_runStarts_b1, F_runCount_b1, F_entries_b1, A_r, A_c, A_ks, ⟨_, A_st⟩, ⟨_, A_ra⟩, A_ca⟩) (by decide) (by decide) rfl (lenOf pd_1 rfl) rfl (Nat.le_of_eq rfl) (pc' := 116) rfl (by decide) (by decide) ?_
    rintro _ T143 h143 G143 ⟨rfl, K143, KR143⟩
    replace A_b3 := A_b3.keep K143 (ninS (Ne.symm ne_b1_b3) (ninS (Ne.symm ne_ca_b3) nin0))
    replace A_b138 := A_b138.keep K143 (ninS (Ne.symm ne_b1_b138) (ninS (Ne.symm ne_ca_b138) nin0))
    replace E_b1 := E_b1.keep K143
    replace A_r := A_r.keep K143 (ninS (Ne.symm (o_ne (by omega))) (ninS (o_ne (by omega)) nin0))
    replace A_c := A_c.keep K143 (ninS (Ne.symm (o_ne (by omega))) (ninS (o_ne (by omega)) nin0))
    replace A_ks := A_ks.keep K143 (ninS (Ne.symm (o_ne (by omega))) (ninS (o_ne (by omega)) nin0))
    replace A_st := A_st.keep K143 (ninS (Ne.symm (o_ne (by omega))) (ninS (o_ne (by omega)) nin0))
    replace A_ra := A_ra.keep K143 (ninS (Ne.symm (o_ne (by omega))) (ninS (o_ne (by omega)) nin0))
    obtain ⟨hlt143, E_b1, F_columns_b1, F_stride_b1, F_runs_b1, F_counts_b1, F_runKeys_b1, F_runStarts_b1, F_runCount_b1, F_entries_b1, A_r, A_c, A_ks, ⟨fst, A_st⟩, ⟨fra, A_ra⟩, A_ca⟩ := KR143
    show OFin n0 p e below s (fun v _ => v = some (.int 1)) 32 768 T143 (mkF m 116 #[.val (.int p0), .val (.int p1), .val (.int p2), .val (.int p3), .val (.ref b1), .val (.ref b3), .val (.int (0 : Int32)), .val (.int (1 : Int32)), .val (.int (2 : Int32)), .val (.int (2 : Int32)), .val (.int (1 : Int32)), .val (.ref b138), .unset] [])
    refine o_aload G143 at_116 (pc' := 118) rfl rfl rfl ?_
    refine o_callVP G143 (z := (⟨"com/example/keyfold/keyfold/KeyRuns", "entries", "()I"⟩ : MethodName)) (argsL := []) (rest := []) (W := 0) (r := .int (((3 : Int32) + p1) + p3)) E_b1 (hw _ (List.mem_of_getElem? (i := 67) rfl)) (hw _ (List.mem_of_getElem? (i := 69) rfl)) (hw _ (List.mem_of_getElem? (i := 68) rfl)) (hw _ (List.mem_of_getElem? (i := 70) rfl)) at_118 (by decide) (hw _ (List.mem_of_getElem? (i := 2) rfl)) (hw _ (List.mem_of_getElem? (i := 71) rfl)) (rm10 hw b1 h143 n0 G143.sz (((3 : Int32) + p1) + p3) F_entries_b1) (by decide) (by decide) rfl (lenOf pd_7 rfl) rfl (Nat.le_of_eq rfl) (pc' := 121) rfl (by decide) (by decide) ?_
    intro T144 G144
    refine o_iconst G144 at_121 (pc' := 122) rfl (v := (3 : Int32)) rfl ?_
    refine o_iloadN G144 at_122 (pc' := 123) rfl rfl ?_
    obtain ⟨v145, e145⟩ : ∃ z, (3 : Int32) + p1 = z := ⟨_, rfl⟩
    refine o_iadd G144 at_123 (pc' := 124) rfl e145 ?_
    refine o_iloadN G144 at_124 (pc' := 125) rfl rfl ?_
    obtain ⟨v146, e146⟩ : ∃ z, v145 + p3 = z := ⟨_, rfl⟩
    refine o_iadd G144 at_125 (pc' := 126) rfl e146 ?_
    refine o_icmp_ne G144 at_126 (by decide) (pcT := 133) (by decide) (pc' := 129) rfl (fun q => absurd (by subst e145 e146; first | rfl | exact own_e1 _ _ | exact own_e2 _ _ | decide) q) (fun _ => ?_)
    refine o_iconst G144 at_129 (pc' := 130) rfl (v := (1 : Int32)) rfl ?_
    refine o_goto G144 at_130 (by decide) (pc' := 134) rfl ?_
    refine o_istore G144 at_134 (pc' := 136) rfl (l' := #[.val (.int p0), .val (.int p1), .val (.int p2), .val (.int p3), .val (.ref b1), .val (.ref b3), .val (.int (0 : Int32)), .val (.int (1 : Int32)), .val (.int (2 : Int32)), .val (.int (2 : Int32)), .val (.int (1 : Int32)), .val (.ref b138), .val (.int (1 : Int32))]) rfl ?_
    refine o_iload G144 at_136 (pc' := 138) rfl rfl ?_
    refine o_if_eq G144 at_138 (by decide) (pcT := 165) (by decide) (pc' := 141) rfl (fun q => absurd q (by decide)) (fun _ => ?_)
    refine o_aload G144 at_141 (pc' := 143) rfl rfl rfl ?_
    refine o_iload G144 at_143 (pc' := 145) rfl rfl ?_
    refine o_callVP G144 (z := (⟨"com/example/keyfold/keyfold/KeyRuns", "entries", "(I)I"⟩ : MethodName)) (argsL := [(.int (0 : Int32))]) (rest := []) (W := 0) (r := .int (1 : Int32)) E_b1 (hw _ (List.mem_of_getElem? (i := 72) rfl)) (hw _ (List.mem_of_getElem? (i := 74) rfl)) (hw _ (List.mem_of_getElem? (i := 73) rfl)) (hw _ (List.mem_of_getElem? (i := 75) rfl)) at_145 (by decide) (hw _ (List.mem_of_getElem? (i := 2) rfl)) (hw _ (List.mem_of_getElem? (i := 76) rfl)) (rm11_0 hw b1 h143 n0 G144.sz (3 : Int32) r cc ks st ra ca (((3 : Int32) + p1) + p3) (1 : Int32) ((1 : Int32) + p3) ((1 : Int32) + p1) ⟨hlt143, E_b1, F_columns_b1, F_stride_b1, F_runs_b1, F_counts_b1, F_runKeys_b1, F_runStarts_b1, F_runCount_b1, F_entries_b1, A_r, A_c, A_ks, ⟨_, A_st⟩, ⟨_, A_ra⟩, A_ca⟩) (by decide) (by decide) rfl (lenOf pd_2 rfl) rfl (Nat.le_of_eq rfl) (pc' := 148) rfl (by decide) (by decide) ?_
    intro T147 G147
    refine o_iconst G147 at_148 (pc' := 149) rfl (v := (0 : Int32)) rfl ?_
    refine o_iload G147 at_149 (pc' := 151) rfl rfl ?_
    refine o_iload G147 at_151 (pc' := 153) rfl rfl ?_
    refine o_iloadN G147 at_153 (pc' := 154) rfl rfl ?_
    refine o_iloadN G147 at_154 (pc' := 155) rfl rfl ?_
    obtain ⟨v148, e148⟩ : ∃ z, f_12 (0 : Int32) (2 : Int32) (1 : Int32) p1 p3 = z := ⟨_, rfl⟩
    refine o_callP G147 (z := (⟨"com/example/keyfold/keyfold/KeyRunsCountPinLaw", "expected", "(IIIII)I"⟩ : MethodName)) (r := (.int v148)) (argsL := [(.int (0 : Int32)), (.int (2 : Int32)), (.int (1 : Int32)), (.int p1), (.int p3)]) (rest := [(.int (1 : Int32))]) (W := 1) (hw _ (List.mem_of_getElem? (i := 77) rfl)) (hw _ (List.mem_of_getElem? (i := 78) rfl)) at_155 (by decide) (hw _ (List.mem_of_getElem? (i := 79) rfl)) (hw _ (List.mem_of_getElem? (i := 80) rfl)) (by rw [← e148]; exact rm12 hw (0 : Int32) (2 : Int32) (1 : Int32) p1 p3 h143 n0 G147.sz) (by decide) (by decide) rfl (lenOf pd_8 rfl) rfl (Nat.le_of_eq rfl) (pc' := 158) rfl (by decide) (by decide) ?_
    intro T149 G149
    refine o_icmp_ne G149 at_158 (by decide) (pcT := 165) (by decide) (pc' := 161) rfl (fun q => absurd (by subst e145 e146 e148; first | rfl | exact own_e1 _ _ | exact own_e2 _ _ | decide) q) (fun _ => ?_)
    refine o_iconst G149 at_161 (pc' := 162) rfl (v := (1 : Int32)) rfl ?_
    refine o_goto G149 at_162 (by decide) (pc' := 166) rfl ?_
    refine o_istore G149 at_166 (pc' := 168) rfl (l' := #[.val (.int p0), .val (.int p1), .val (.int p2), .val (.int p3), .val (.ref b1), .val (.ref b3), .val (.int (0 : Int32)), .val (.int (1 : Int32)), .val (.int (2 : Int32)), .val (.int (2 : Int32)), .val (.int (1 : Int32)), .val (.ref b138), .val (.int (1 : Int32))]) rfl ?_
    refine o_iload G149 at_168 (pc' := 170) rfl rfl ?_
    refine o_if_eq G149 at_170 (by decide) (pcT := 197) (by decide) (pc' := 173) rfl (fun q => absurd q (by decide)) (fun _ => ?_)
    refine o_aload G149 at_173 (pc' := 175) rfl rfl rfl ?_
    refine o_iload G149 at_175 (pc' := 177) rfl rfl ?_
    refine o_callVP G149 (z := (⟨"com/example/keyfold/keyfold/KeyRuns", "entries", "(I)I"⟩ : MethodName)) (argsL := [(.int (1 : Int32))]) (rest := []) (W := 0) (r := .int ((1 : Int32) + p3)) E_b1 (hw _ (List.mem_of_getElem? (i := 72) rfl)) (hw _ (List.mem_of_getElem? (i := 74) rfl)) (hw _ (List.mem_of_getElem? (i := 73) rfl)) (hw _ (List.mem_of_getElem? (i := 75) rfl)) at_177 (by decide) (hw _ (List.mem_of_getElem? (i := 2) rfl)) (hw _ (List.mem_of_getElem? (i := 76) rfl)) (rm11_1 hw b1 h143 n0 G149.sz (3 : Int32) r cc ks st ra ca (((3 : Int32) + p1) + p3) (1 : Int32) ((1 : Int32) + p3) ((1 : Int32) + p1) ⟨hlt143, E_b1, F_columns_b1, F_stride_b1, F_runs_b1, F_counts_b1, F_runKeys_b1, F_runStarts_b1, F_runCount_b1, F_entries_b1, A_r, A_c, A_ks, ⟨_, A_st⟩, ⟨_, A_ra⟩, A_ca⟩) (by decide) (by decide) rfl (lenOf pd_2 rfl) rfl (Nat.le_of_eq rfl) (pc' := 180) rfl (by decide) (by decide) ?_
    intro T150 G150
    refine o_iconst G150 at_180 (pc' := 181) rfl (v := (1 : Int32)) rfl ?_
    refine o_iload G150 at_181 (pc' := 183) rfl rfl ?_
    refine o_iload G150 at_183 (pc' := 185) rfl rfl ?_
    refine o_iloadN G150 at_185 (pc' := 186) rfl rfl ?_
    refine o_iloadN G150 at_186 (pc' := 187) rfl rfl ?_
    obtain ⟨v151, e151⟩ : ∃ z, f_12 (1 : Int32) (2 : Int32) (1 : Int32) p1 p3 = z := ⟨_, rfl⟩
    refine o_callP G150 (z := (⟨"com/example/keyfold/keyfold/KeyRunsCountPinLaw", "expected", "(IIIII)I"⟩ : MethodName)) (r := (.int v151)) (argsL := [(.int (1 : Int32)), (.int (2 : Int32)), (.int (1 : Int32)), (.int p1), (.int p3)]) (rest := [(.int ((1 : Int32) + p3))]) (W := 1) (hw _ (List.mem_of_getElem? (i := 77) rfl)) (hw _ (List.mem_of_getElem? (i := 78) rfl)) at_187 (by decide) (hw _ (List.mem_of_getElem? (i := 79) rfl)) (hw _ (List.mem_of_getElem? (i := 80) rfl)) (by rw [← e151]; exact rm12 hw (1 : Int32) (2 : Int32) (1 : Int32) p1 p3 h143 n0 G150.sz) (by decide) (by decide) rfl (lenOf pd_8 rfl) rfl (Nat.le_of_eq rfl) (pc' := 190) rfl (by decide) (by decide) ?_
    intro T152 G152
    refine o_icmp_ne G152 at_190 (by decide) (pcT := 197) (by decide) (pc' := 193) rfl (fun q => absurd (by subst e145 e146 e148 e151; first | rfl | exact own_e1 _ _ | exact own_e2 _ _ | decide) q) (fun _ => ?_)
    refine o_iconst G152 at_193 (pc' := 194) rfl (v := (1 : Int32)) rfl ?_
    refine o_goto G152 at_194 (by decide) (pc' := 198) rfl ?_
    refine o_istore G152 at_198 (pc' := 200) rfl (l' := #[.val (.int p0), .val (.int p1), .val (.int p2), .val (.int p3), .val (.ref b1), .val (.ref b3), .val (.int (0 : Int32)), .val (.int (1 : Int32)), .val (.int (2 : Int32)), .val (.int (2 : Int32)), .val (.int (1 : Int32)), .val (.ref b138), .val (.int (1 : Int32))]) rfl ?_
    refine o_iload G152 at_200 (pc' := 202) rfl rfl ?_
    refine o_if_eq G152 at_202 (by decide) (pcT := 229) (by decide) (pc' := 205) rfl (fun q => absurd q (by decide)) (fun _ => ?_)
    refine o_aload G152 at_205 (pc' := 207) rfl rfl rfl ?_
    refine o_iload G152 at_207 (pc' := 209) rfl rfl ?_
    refine o_callVP G152 (z := (⟨"com/example/keyfold/keyfold/KeyRuns", "entries", "(I)I"⟩ : MethodName)) (argsL := [(.int (2 : Int32))]) (rest := []) (W := 0) (r := .int ((1 : Int32) + p1)) E_b1 (hw _ (List.mem_of_getElem? (i := 72) rfl)) (hw _ (List.mem_of_getElem? (i := 74) rfl)) (hw _ (List.mem_of_getElem? (i := 73) rfl)) (hw _ (List.mem_of_getElem? (i := 75) rfl)) at_209 (by decide) (hw _ (List.mem_of_getElem? (i := 2) rfl)) (hw _ (List.mem_of_getElem? (i := 76) rfl)) (rm11_2 hw b1 h143 n0 G152.sz (3 : Int32) r cc ks st ra ca (((3 : Int32) + p1) + p3) (1 : Int32) ((1 : Int32) + p3) ((1 : Int32) + p1) ⟨hlt143, E_b1, F_columns_b1, F_stride_b1, F_runs_b1, F_counts_b1, F_runKeys_b1, F_runStarts_b1, F_runCount_b1, F_entries_b1, A_r, A_c, A_ks, ⟨_, A_st⟩, ⟨_, A_ra⟩, A_ca⟩) (by decide) (by decide) rfl (lenOf pd_2 rfl) rfl (Nat.le_of_eq rfl) (pc' := 212) rfl (by decide) (by decide) ?_
    intro T153 G153
    refine o_iconst G153 at_212 (pc' := 213) rfl (v := (2 : Int32)) rfl ?_
    refine o_iload G153 at_213 (pc' := 215) rfl rfl ?_
    refine o_iload G153 at_215 (pc' := 217) rfl rfl ?_
    refine o_iloadN G153 at_217 (pc' := 218) rfl rfl ?_
    refine o_iloadN G153 at_218 (pc' := 219) rfl rfl ?_
    obtain ⟨v154, e154⟩ : ∃ z, f_12 (2 : Int32) (2 : Int32) (1 : Int32) p1 p3 = z := ⟨_, rfl⟩
    refine o_callP G153 (z := (⟨"com/example/keyfold/keyfold/KeyRunsCountPinLaw", "expected", "(IIIII)I"⟩ : MethodName)) (r := (.int v154)) (argsL := [(.int (2 : Int32)), (.int (2 : Int32)), (.int (1 : Int32)), (.int p1), (.int p3)]) (rest := [(.int ((1 : Int32) + p1))]) (W := 1) (hw _ (List.mem_of_getElem? (i := 77) rfl)) (hw _ (List.mem_of_getElem? (i := 78) rfl)) at_219 (by decide) (hw _ (List.mem_of_getElem? (i := 79) rfl)) (hw _ (List.mem_of_getElem? (i := 80) rfl)) (by rw [← e154]; exact rm12 hw (2 : Int32) (2 : Int32) (1 : Int32) p1 p3 h143 n0 G153.sz) (by decide) (by decide) rfl (lenOf pd_8 rfl) rfl (Nat.le_of_eq rfl) (pc' := 222) rfl (by decide) (by decide) ?_
    intro T155 G155
    refine o_icmp_ne G155 at_222 (by decide) (pcT := 229) (by decide) (pc' := 225) rfl (fun q => absurd (by subst e145 e146 e148 e151 e154; first | rfl | exact own_e1 _ _ | exact own_e2 _ _ | decide) q) (fun _ => ?_)
    refine o_iconst G155 at_225 (pc' := 226) rfl (v := (1 : Int32)) rfl ?_
    refine o_goto G155 at_226 (by decide) (pc' := 230) rfl ?_
    refine o_istore G155 at_230 (pc' := 232) rfl (l' := #[.val (.int p0), .val (.int p1), .val (.int p2), .val (.int p3), .val (.ref b1), .val (.ref b3), .val (.int (0 : Int32)), .val (.int (1 : Int32)), .val (.int (2 : Int32)), .val (.int (2 : Int32)), .val (.int (1 : Int32)), .val (.ref b138), .val (.int (1 : Int32))]) rfl ?_
    refine o_iload G155 at_232 (pc' := 234) rfl rfl ?_
    exact o_nreturn (t := .boolean) G155 (by simp) at_234 rfl (by decide) (by decide)
  · subst ha hb
    refine o_iconst G7 at_74 (pc' := 75) rfl (v := (3 : Int32)) rfl ?_
    refine o_newarray G7 (N := 3) (cap := 3) (hw _ (List.mem_of_getElem? (i := 19) rfl)) rfl (by decide) (by decide) at_75 (pc' := 77) rfl (by decide) (by decide) ?_
    intro T156 h156 b156 G156 g156 g_b156 E156 A_b156
    have ne_b3_b156 : b3 ≠ b156 := Nat.ne_of_lt (Nat.lt_of_lt_of_eq A_b3.lt g156.symm)
    have ne_b1_b156 : b1 ≠ b156 := Nat.ne_of_lt (Nat.lt_of_lt_of_eq E_b1.lt g156.symm)
    have ne_r_b156 : r ≠ b156 := Nat.ne_of_lt (Nat.lt_of_lt_of_eq A_r.lt g156.symm)
    have ne_cc_b156 : cc ≠ b156 := Nat.ne_of_lt (Nat.lt_of_lt_of_eq A_c.lt g156.symm)
    have ne_ks_b156 : ks ≠ b156 := Nat.ne_of_lt (Nat.lt_of_lt_of_eq A_ks.lt g156.symm)
    have ne_st_b156 : st ≠ b156 := Nat.ne_of_lt (Nat.lt_of_lt_of_eq A_st.lt g156.symm)
    have ne_ra_b156 : ra ≠ b156 := Nat.ne_of_lt (Nat.lt_of_lt_of_eq A_ra.lt g156.symm)
    have ne_ca_b156 : ca ≠ b156 := Nat.ne_of_lt (Nat.lt_of_lt_of_eq A_ca.lt g156.symm)
    replace A_b3 := A_b3.ext E156
    replace E_b1 := E_b1.ext E156
    replace F_columns_b1 := F_columns_b1.ext E156
    replace F_stride_b1 := F_stride_b1.ext E156
    replace F_runs_b1 := F_runs_b1.ext E156
    replace F_counts_b1 := F_counts_b1.ext E156
    replace F_runKeys_b1 := F_runKeys_b1.ext E156
    replace F_runStarts_b1 := F_runStarts_b1.ext E156
    replace F_runCount_b1 := F_runCount_b1.ext E156
    replace F_entries_b1 := F_entries_b1.ext E156
    replace A_r := A_r.ext E156
    replace A_c := A_c.ext E156
    replace A_ks := A_ks.ext E156
    replace A_st := A_st.ext E156
    replace A_ra := A_ra.ext E156
    replace A_ca := A_ca.ext E156
    replace A_b156 : OArr Z h156 b156 .int 3 (fun _ => (.int (0 : Int32))) := A_b156
    refine o_dup G156 at_77 (pc' := 78) rfl rfl ?_
    refine o_iconst G156 at_78 (pc' := 79) rfl (v := (0 : Int32)) rfl ?_
    refine o_iload G156 at_79 (pc' := 81) rfl rfl ?_
    refine o_iastore G156 A_b156 g_b156 (i := 0) rfl (by decide) at_81 (pc' := 82) rfl ?_
    intro T157 h157 G157 W157 A157
    replace A_b3 := A_b3.other W157 ne_b3_b156
    replace E_b1 := E_b1.wr W157
    replace F_columns_b1 := F_columns_b1.other W157 (Or.inl ne_b1_b156)
    replace F_stride_b1 := F_stride_b1.other W157 (Or.inl ne_b1_b156)
    replace F_runs_b1 := F_runs_b1.other W157 (Or.inl ne_b1_b156)
    replace F_counts_b1 := F_counts_b1.other W157 (Or.inl ne_b1_b156)
    replace F_runKeys_b1 := F_runKeys_b1.other W157 (Or.inl ne_b1_b156)
    replace F_runStarts_b1 := F_runStarts_b1.other W157 (Or.inl ne_b1_b156)
    replace F_runCount_b1 := F_runCount_b1.other W157 (Or.inl ne_b1_b156)
    replace F_entries_b1 := F_entries_b1.other W157 (Or.inl ne_b1_b156)
    replace A_r := A_r.other W157 ne_r_b156
    replace A_c := A_c.other W157 ne_cc_b156
    replace A_ks := A_ks.other W157 ne_ks_b156
    replace A_st := A_st.other W157 ne_st_b156
    replace A_ra := A_ra.other W157 ne_ra_b156
    replace A_ca := A_ca.other W157 ne_ca_b156
    replace A_b156 := A157
    refine o_dup G157 at_82 (pc' := 83) rfl rfl ?_
    refine o_iconst G157 at_83 (pc' := 84) rfl (v := (1 : Int32)) rfl ?_
    refine o_iload G157 at_84 (pc' := 86) rfl rfl ?_
    refine o_iastore G157 A_b156 g_b156 (i := 1) rfl (by decide) at_86 (pc' := 87) rfl ?_
    intro T158 h158 G158 W158 A158
    replace A_b3 := A_b3.other W158 ne_b3_b156
    replace E_b1 := E_b1.wr W158
    replace F_columns_b1 := F_columns_b1.other W158 (Or.inl ne_b1_b156)
    replace F_stride_b1 := F_stride_b1.other W158 (Or.inl ne_b1_b156)
    replace F_runs_b1 := F_runs_b1.other W158 (Or.inl ne_b1_b156)
    replace F_counts_b1 := F_counts_b1.other W158 (Or.inl ne_b1_b156)
    replace F_runKeys_b1 := F_runKeys_b1.other W158 (Or.inl ne_b1_b156)
    replace F_runStarts_b1 := F_runStarts_b1.other W158 (Or.inl ne_b1_b156)
    replace F_runCount_b1 := F_runCount_b1.other W158 (Or.inl ne_b1_b156)
    replace F_entries_b1 := F_entries_b1.other W158 (Or.inl ne_b1_b156)
    replace A_r := A_r.other W158 ne_r_b156
    replace A_c := A_c.other W158 ne_cc_b156
    replace A_ks := A_ks.other W158 ne_ks_b156
    replace A_st := A_st.other W158 ne_st_b156
    replace A_ra := A_ra.other W158 ne_ra_b156
    replace A_ca := A_ca.other W158 ne_ca_b156
    replace A_b156 := A158
    refine o_dup G158 at_87 (pc' := 88) rfl rfl ?_
    refine o_iconst G158 at_88 (pc' := 89) rfl (v := (2 : Int32)) rfl ?_
    refine o_iload G158 at_89 (pc' := 91) rfl rfl ?_
    refine o_iastore G158 A_b156 g_b156 (i := 2) rfl (by decide) at_91 (pc' := 92) rfl ?_
    intro T159 h159 G159 W159 A159
    replace A_b3 := A_b3.other W159 ne_b3_b156
    replace E_b1 := E_b1.wr W159
    replace F_columns_b1 := F_columns_b1.other W159 (Or.inl ne_b1_b156)
    replace F_stride_b1 := F_stride_b1.other W159 (Or.inl ne_b1_b156)
    replace F_runs_b1 := F_runs_b1.other W159 (Or.inl ne_b1_b156)
    replace F_counts_b1 := F_counts_b1.other W159 (Or.inl ne_b1_b156)
    replace F_runKeys_b1 := F_runKeys_b1.other W159 (Or.inl ne_b1_b156)
    replace F_runStarts_b1 := F_runStarts_b1.other W159 (Or.inl ne_b1_b156)
    replace F_runCount_b1 := F_runCount_b1.other W159 (Or.inl ne_b1_b156)
    replace F_entries_b1 := F_entries_b1.other W159 (Or.inl ne_b1_b156)
    replace A_r := A_r.other W159 ne_r_b156
    replace A_c := A_c.other W159 ne_cc_b156
    replace A_ks := A_ks.other W159 ne_ks_b156
    replace A_st := A_st.other W159 ne_st_b156
    replace A_ra := A_ra.other W159 ne_ra_b156
    replace A_ca := A_ca.other W159 ne_ca_b156
    replace A_b156 := A159
    refine o_astore G159 at_92 (pc' := 94) rfl rfl (l' := #[.val (.int p0), .val (.int p1), .val (.int p2), .val (.int p3), .val (.ref b1), .val (.ref b3), .val (.int (0 : Int32)), .val (.int (1 : Int32)), .val (.int (2 : Int32)), .val (.int (2 : Int32)), .val (.int (2 : Int32)), .val (.ref b156), .unset]) rfl ?_
    refine o_aload G159 at_94 (pc' := 96) rfl rfl rfl ?_
    refine o_aload G159 at_96 (pc' := 98) rfl rfl rfl ?_
    refine o_iload G159 at_98 (pc' := 100) rfl rfl ?_
    refine o_iaload G159 A_b156 (i := 2) rfl (by decide) (v := (.int (2 : Int32))) rfl at_100 (pc' := 101) rfl ?_
    refine o_iloadN G159 at_101 (pc' := 102) rfl rfl ?_
    refine o_callV G159 (z := (⟨"com/example/keyfold/keyfold/KeyRuns", "count", "(II)V"⟩ : MethodName)) (argsL := [(.int (2 : Int32)), (.int p1)]) (rest := []) (W := 0) E_b1 (hw _ (List.mem_of_getElem? (i := 62) rfl)) (hw _ (List.mem_of_getElem? (i := 64) rfl)) (hw _ (List.mem_of_getElem? (i := 63) rfl)) (hw _ (List.mem_of_getElem? (i := 65) rfl)) at_102 (by decide) (hw _ (List.mem_of_getElem? (i := 2) rfl)) (hw _ (List.mem_of_getElem? (i := 66) rfl)) (rm9_2 hw b1 p1 h159 n0 G159.sz (3 : Int32) r cc ks st ra ca (3 : Int32) (1 : Int32) (1 : Int32) (1 : Int32) ⟨hlt7, E_b1, F_columns_b1, F_stride_b1, F_runs_b1, F_counts_b1, F_runKeys_b1, F_runStarts_b1, F_runCount_b1, F_entries_b1, A_r, A_c, A_ks, ⟨_, A_st⟩, ⟨_, A_ra⟩, A_ca⟩) (by decide) (by decide) rfl (lenOf pd_1 rfl) rfl (Nat.le_of_eq rfl) (pc' := 105) rfl (by decide) (by decide) ?_
    rintro _ T160 h160 G160 ⟨rfl, K160, KR160⟩
    replace A_b3 := A_b3.keep K160 (ninS (Ne.symm ne_b1_b3) (ninS (Ne.symm ne_ca_b3) nin0))
    replace E_b1 := E_b1.keep K160
    replace A_r := A_r.keep K160 (ninS (Ne.symm (o_ne (by omega))) (ninS (o_ne (by omega)) nin0))
    replace A_c := A_c.keep K160 (ninS (Ne.symm (o_ne (by omega))) (ninS (o_ne (by omega)) nin0))
    replace A_ks := A_ks.keep K160 (ninS (Ne.symm (o_ne (by omega))) (ninS (o_ne (by omega)) nin0))
    replace A_st := A_st.keep K160 (ninS (Ne.symm (o_ne (by omega))) (ninS (o_ne (by omega)) nin0))
    replace A_ra := A_ra.keep K160 (ninS (Ne.symm (o_ne (by omega))) (ninS (o_ne (by omega)) nin0))
    replace A_b156 := A_b156.keep K160 (ninS (Ne.symm ne_b1_b156) (ninS (Ne.symm ne_ca_b156) nin0))
    obtain ⟨hlt160, E_b1, F_columns_b1, F_stride_b1, F_runs_b1, F_counts_b1, F_runKeys_b1, F_runStarts_b1, F_runCount_b1, F_entries_b1, A_r, A_c, A_ks, ⟨fst, A_st⟩, ⟨fra, A_ra⟩, A_ca⟩ := KR160
    show OFin n0 p e below s (fun v _ => v = some (.int 1)) 32 768 T160 (mkF m 105 #[.val (.int p0), .val (.int p1), .val (.int p2), .val (.int p3), .val (.ref b1), .val (.ref b3), .val (.int (0 : Int32)), .val (.int (1 : Int32)), .val (.int (2 : Int32)), .val (.int (2 : Int32)), .val (.int (2 : Int32)), .val (.ref b156), .unset] [])
    refine o_aload G160 at_105 (pc' := 107) rfl rfl rfl ?_
    refine o_aload G160 at_107 (pc' := 109) rfl rfl rfl ?_
    refine o_iload G160 at_109 (pc' := 111) rfl rfl ?_
    refine o_iaload G160 A_b156 (i := 2) rfl (by decide) (v := (.int (2 : Int32))) rfl at_111 (pc' := 112) rfl ?_
    refine o_iloadN G160 at_112 (pc' := 113) rfl rfl ?_
    refine o_callV G160 (z := (⟨"com/example/keyfold/keyfold/KeyRuns", "count", "(II)V"⟩ : MethodName)) (argsL := [(.int (2 : Int32)), (.int p3)]) (rest := []) (W := 0) E_b1 (hw _ (List.mem_of_getElem? (i := 62) rfl)) (hw _ (List.mem_of_getElem? (i := 64) rfl)) (hw _ (List.mem_of_getElem? (i := 63) rfl)) (hw _ (List.mem_of_getElem? (i := 65) rfl)) at_113 (by decide) (hw _ (List.mem_of_getElem? (i := 2) rfl)) (hw _ (List.mem_of_getElem? (i := 66) rfl)) (rm9_2 hw b1 p3 h160 n0 G160.sz (3 : Int32) r cc ks st ra ca ((3 : Int32) + p1) (1 : Int32) (1 : Int32) ((1 : Int32) + p1) ⟨hlt160, E_b1, F_columns_b1, F_stride_b1, F_runs_b1, F_counts_b1, F_runKeys_b1, F_runStarts_b1, F_runCount_b1, F_entries_b1, A_r, A_c, A_ks, ⟨_, A_st⟩, ⟨_, A_ra⟩, A_ca⟩) (by decide) (by decide) rfl (lenOf pd_1 rfl) rfl (Nat.le_of_eq rfl) (pc' := 116) rfl (by decide) (by decide) ?_
    rintro _ T161 h161 G161 ⟨rfl, K161, KR161⟩
    replace A_b3 := A_b3.keep K161 (ninS (Ne.symm ne_b1_b3) (ninS (Ne.symm ne_ca_b3) nin0))
    replace A_b156 := A_b156.keep K161 (ninS (Ne.symm ne_b1_b156) (ninS (Ne.symm ne_ca_b156) nin0))
    replace E_b1 := E_b1.keep K161
    replace A_r := A_r.keep K161 (ninS (Ne.symm (o_ne (by omega))) (ninS (o_ne (by omega)) nin0))
    replace A_c := A_c.keep K161 (ninS (Ne.symm (o_ne (by omega))) (ninS (o_ne (by omega)) nin0))
    replace A_ks := A_ks.keep K161 (ninS (Ne.symm (o_ne (by omega))) (ninS (o_ne (by omega)) nin0))
    replace A_st := A_st.keep K161 (ninS (Ne.symm (o_ne (by omega))) (ninS (o_ne (by omega)) nin0))
    replace A_ra := A_ra.keep K161 (ninS (Ne.symm (o_ne (by omega))) (ninS (o_ne (by omega)) nin0))
    obtain ⟨hlt161, E_b1, F_columns_b1, F_stride_b1, F_runs_b1, F_counts_b1, F_runKeys_b1, F_runStarts_b1, F_runCount_b1, F_entries_b1, A_r, A_c, A_ks, ⟨fst, A_st⟩, ⟨fra, A_ra⟩, A_ca⟩ := KR161
    show OFin n0 p e below s (fun v _ => v = some (.int 1)) 32 768 T161 (mkF m 116 #[.val (.int p0), .val (.int p1), .val (.int p2), .val (.int p3), .val (.ref b1), .val (.ref b3), .val (.int (0 : Int32)), .val (.int (1 : Int32)), .val (.int (2 : Int32)), .val (.int (2 : Int32)), .val (.int (2 : Int32)), .val (.ref b156), .unset] [])
    refine o_aload G161 at_116 (pc' := 118) rfl rfl rfl ?_
    refine o_callVP G161 (z := (⟨"com/example/keyfold/keyfold/KeyRuns", "entries", "()I"⟩ : MethodName)) (argsL := []) (rest := []) (W := 0) (r := .int (((3 : Int32) + p1) + p3)) E_b1 (hw _ (List.mem_of_getElem? (i := 67) rfl)) (hw _ (List.mem_of_getElem? (i := 69) rfl)) (hw _ (List.mem_of_getElem? (i := 68) rfl)) (hw _ (List.mem_of_getElem? (i := 70) rfl)) at_118 (by decide) (hw _ (List.mem_of_getElem? (i := 2) rfl)) (hw _ (List.mem_of_getElem? (i := 71) rfl)) (rm10 hw b1 h161 n0 G161.sz (((3 : Int32) + p1) + p3) F_entries_b1) (by decide) (by decide) rfl (lenOf pd_7 rfl) rfl (Nat.le_of_eq rfl) (pc' := 121) rfl (by decide) (by decide) ?_
    intro T162 G162
    refine o_iconst G162 at_121 (pc' := 122) rfl (v := (3 : Int32)) rfl ?_
    refine o_iloadN G162 at_122 (pc' := 123) rfl rfl ?_
    obtain ⟨v163, e163⟩ : ∃ z, (3 : Int32) + p1 = z := ⟨_, rfl⟩
    refine o_iadd G162 at_123 (pc' := 124) rfl e163 ?_
    refine o_iloadN G162 at_124 (pc' := 125) rfl rfl ?_
    obtain ⟨v164, e164⟩ : ∃ z, v163 + p3 = z := ⟨_, rfl⟩
    refine o_iadd G162 at_125 (pc' := 126) rfl e164 ?_
    refine o_icmp_ne G162 at_126 (by decide) (pcT := 133) (by decide) (pc' := 129) rfl (fun q => absurd (by subst e163 e164; first | rfl | exact own_e1 _ _ | exact own_e2 _ _ | decide) q) (fun _ => ?_)
    refine o_iconst G162 at_129 (pc' := 130) rfl (v := (1 : Int32)) rfl ?_
    refine o_goto G162 at_130 (by decide) (pc' := 134) rfl ?_
    refine o_istore G162 at_134 (pc' := 136) rfl (l' := #[.val (.int p0), .val (.int p1), .val (.int p2), .val (.int p3), .val (.ref b1), .val (.ref b3), .val (.int (0 : Int32)), .val (.int (1 : Int32)), .val (.int (2 : Int32)), .val (.int (2 : Int32)), .val (.int (2 : Int32)), .val (.ref b156), .val (.int (1 : Int32))]) rfl ?_
    refine o_iload G162 at_136 (pc' := 138) rfl rfl ?_
    refine o_if_eq G162 at_138 (by decide) (pcT := 165) (by decide) (pc' := 141) rfl (fun q => absurd q (by decide)) (fun _ => ?_)
    refine o_aload G162 at_141 (pc' := 143) rfl rfl rfl ?_
    refine o_iload G162 at_143 (pc' := 145) rfl rfl ?_
    refine o_callVP G162 (z := (⟨"com/example/keyfold/keyfold/KeyRuns", "entries", "(I)I"⟩ : MethodName)) (argsL := [(.int (0 : Int32))]) (rest := []) (W := 0) (r := .int (1 : Int32)) E_b1 (hw _ (List.mem_of_getElem? (i := 72) rfl)) (hw _ (List.mem_of_getElem? (i := 74) rfl)) (hw _ (List.mem_of_getElem? (i := 73) rfl)) (hw _ (List.mem_of_getElem? (i := 75) rfl)) at_145 (by decide) (hw _ (List.mem_of_getElem? (i := 2) rfl)) (hw _ (List.mem_of_getElem? (i := 76) rfl)) (rm11_0 hw b1 h161 n0 G162.sz (3 : Int32) r cc ks st ra ca (((3 : Int32) + p1) + p3) (1 : Int32) (1 : Int32) (((1 : Int32) + p1) + p3) ⟨hlt161, E_b1, F_columns_b1, F_stride_b1, F_runs_b1, F_counts_b1, F_runKeys_b1, F_runStarts_b1, F_runCount_b1, F_entries_b1, A_r, A_c, A_ks, ⟨_, A_st⟩, ⟨_, A_ra⟩, A_ca⟩) (by decide) (by decide) rfl (lenOf pd_2 rfl) rfl (Nat.le_of_eq rfl) (pc' := 148) rfl (by decide) (by decide) ?_
    intro T165 G165
    refine o_iconst G165 at_148 (pc' := 149) rfl (v := (0 : Int32)) rfl ?_
    refine o_iload G165 at_149 (pc' := 151) rfl rfl ?_
    refine o_iload G165 at_151 (pc' := 153) rfl rfl ?_
    refine o_iloadN G165 at_153 (pc' := 154) rfl rfl ?_
    refine o_iloadN G165 at_154 (pc' := 155) rfl rfl ?_
    obtain ⟨v166, e166⟩ : ∃ z, f_12 (0 : Int32) (2 : Int32) (2 : Int32) p1 p3 = z := ⟨_, rfl⟩
    refine o_callP G165 (z := (⟨"com/example/keyfold/keyfold/KeyRunsCountPinLaw", "expected", "(IIIII)I"⟩ : MethodName)) (r := (.int v166)) (argsL := [(.int (0 : Int32)), (.int (2 : Int32)), (.int (2 : Int32)), (.int p1), (.int p3)]) (rest := [(.int (1 : Int32))]) (W := 1) (hw _ (List.mem_of_getElem? (i := 77) rfl)) (hw _ (List.mem_of_getElem? (i := 78) rfl)) at_155 (by decide) (hw _ (List.mem_of_getElem? (i := 79) rfl)) (hw _ (List.mem_of_getElem? (i := 80) rfl)) (by rw [← e166]; exact rm12 hw (0 : Int32) (2 : Int32) (2 : Int32) p1 p3 h161 n0 G165.sz) (by decide) (by decide) rfl (lenOf pd_8 rfl) rfl (Nat.le_of_eq rfl) (pc' := 158) rfl (by decide) (by decide) ?_
    intro T167 G167
    refine o_icmp_ne G167 at_158 (by decide) (pcT := 165) (by decide) (pc' := 161) rfl (fun q => absurd (by subst e163 e164 e166; first | rfl | exact own_e1 _ _ | exact own_e2 _ _ | decide) q) (fun _ => ?_)
    refine o_iconst G167 at_161 (pc' := 162) rfl (v := (1 : Int32)) rfl ?_
    refine o_goto G167 at_162 (by decide) (pc' := 166) rfl ?_
    refine o_istore G167 at_166 (pc' := 168) rfl (l' := #[.val (.int p0), .val (.int p1), .val (.int p2), .val (.int p3), .val (.ref b1), .val (.ref b3), .val (.int (0 : Int32)), .val (.int (1 : Int32)), .val (.int (2 : Int32)), .val (.int (2 : Int32)), .val (.int (2 : Int32)), .val (.ref b156), .val (.int (1 : Int32))]) rfl ?_
    refine o_iload G167 at_168 (pc' := 170) rfl rfl ?_
    refine o_if_eq G167 at_170 (by decide) (pcT := 197) (by decide) (pc' := 173) rfl (fun q => absurd q (by decide)) (fun _ => ?_)
    refine o_aload G167 at_173 (pc' := 175) rfl rfl rfl ?_
    refine o_iload G167 at_175 (pc' := 177) rfl rfl ?_
    refine o_callVP G167 (z := (⟨"com/example/keyfold/keyfold/KeyRuns", "entries", "(I)I"⟩ : MethodName)) (argsL := [(.int (1 : Int32))]) (rest := []) (W := 0) (r := .int (1 : Int32)) E_b1 (hw _ (List.mem_of_getElem? (i := 72) rfl)) (hw _ (List.mem_of_getElem? (i := 74) rfl)) (hw _ (List.mem_of_getElem? (i := 73) rfl)) (hw _ (List.mem_of_getElem? (i := 75) rfl)) at_177 (by decide) (hw _ (List.mem_of_getElem? (i := 2) rfl)) (hw _ (List.mem_of_getElem? (i := 76) rfl)) (rm11_1 hw b1 h161 n0 G167.sz (3 : Int32) r cc ks st ra ca (((3 : Int32) + p1) + p3) (1 : Int32) (1 : Int32) (((1 : Int32) + p1) + p3) ⟨hlt161, E_b1, F_columns_b1, F_stride_b1, F_runs_b1, F_counts_b1, F_runKeys_b1, F_runStarts_b1, F_runCount_b1, F_entries_b1, A_r, A_c, A_ks, ⟨_, A_st⟩, ⟨_, A_ra⟩, A_ca⟩) (by decide) (by decide) rfl (lenOf pd_2 rfl) rfl (Nat.le_of_eq rfl) (pc' := 180) rfl (by decide) (by decide) ?_
    intro T168 G168
    refine o_iconst G168 at_180 (pc' := 181) rfl (v := (1 : Int32)) rfl ?_
    refine o_iload G168 at_181 (pc' := 183) rfl rfl ?_
    refine o_iload G168 at_183 (pc' := 185) rfl rfl ?_
    refine o_iloadN G168 at_185 (pc' := 186) rfl rfl ?_
    refine o_iloadN G168 at_186 (pc' := 187) rfl rfl ?_
    obtain ⟨v169, e169⟩ : ∃ z, f_12 (1 : Int32) (2 : Int32) (2 : Int32) p1 p3 = z := ⟨_, rfl⟩
    refine o_callP G168 (z := (⟨"com/example/keyfold/keyfold/KeyRunsCountPinLaw", "expected", "(IIIII)I"⟩ : MethodName)) (r := (.int v169)) (argsL := [(.int (1 : Int32)), (.int (2 : Int32)), (.int (2 : Int32)), (.int p1), (.int p3)]) (rest := [(.int (1 : Int32))]) (W := 1) (hw _ (List.mem_of_getElem? (i := 77) rfl)) (hw _ (List.mem_of_getElem? (i := 78) rfl)) at_187 (by decide) (hw _ (List.mem_of_getElem? (i := 79) rfl)) (hw _ (List.mem_of_getElem? (i := 80) rfl)) (by rw [← e169]; exact rm12 hw (1 : Int32) (2 : Int32) (2 : Int32) p1 p3 h161 n0 G168.sz) (by decide) (by decide) rfl (lenOf pd_8 rfl) rfl (Nat.le_of_eq rfl) (pc' := 190) rfl (by decide) (by decide) ?_
    intro T170 G170
    refine o_icmp_ne G170 at_190 (by decide) (pcT := 197) (by decide) (pc' := 193) rfl (fun q => absurd (by subst e163 e164 e166 e169; first | rfl | exact own_e1 _ _ | exact own_e2 _ _ | decide) q) (fun _ => ?_)
    refine o_iconst G170 at_193 (pc' := 194) rfl (v := (1 : Int32)) rfl ?_
    refine o_goto G170 at_194 (by decide) (pc' := 198) rfl ?_
    refine o_istore G170 at_198 (pc' := 200) rfl (l' := #[.val (.int p0), .val (.int p1), .val (.int p2), .val (.int p3), .val (.ref b1), .val (.ref b3), .val (.int (0 : Int32)), .val (.int (1 : Int32)), .val (.int (2 : Int32)), .val (.int (2 : Int32)), .val (.int (2 : Int32)), .val (.ref b156), .val (.int (1 : Int32))]) rfl ?_
    refine o_iload G170 at_200 (pc' := 202) rfl rfl ?_
    refine o_if_eq G170 at_202 (by decide) (pcT := 229) (by decide) (pc' := 205) rfl (fun q => absurd q (by decide)) (fun _ => ?_)
    refine o_aload G170 at_205 (pc' := 207) rfl rfl rfl ?_
    refine o_iload G170 at_207 (pc' := 209) rfl rfl ?_
    refine o_callVP G170 (z := (⟨"com/example/keyfold/keyfold/KeyRuns", "entries", "(I)I"⟩ : MethodName)) (argsL := [(.int (2 : Int32))]) (rest := []) (W := 0) (r := .int (((1 : Int32) + p1) + p3)) E_b1 (hw _ (List.mem_of_getElem? (i := 72) rfl)) (hw _ (List.mem_of_getElem? (i := 74) rfl)) (hw _ (List.mem_of_getElem? (i := 73) rfl)) (hw _ (List.mem_of_getElem? (i := 75) rfl)) at_209 (by decide) (hw _ (List.mem_of_getElem? (i := 2) rfl)) (hw _ (List.mem_of_getElem? (i := 76) rfl)) (rm11_2 hw b1 h161 n0 G170.sz (3 : Int32) r cc ks st ra ca (((3 : Int32) + p1) + p3) (1 : Int32) (1 : Int32) (((1 : Int32) + p1) + p3) ⟨hlt161, E_b1, F_columns_b1, F_stride_b1, F_runs_b1, F_counts_b1, F_runKeys_b1, F_runStarts_b1, F_runCount_b1, F_entries_b1, A_r, A_c, A_ks, ⟨_, A_st⟩, ⟨_, A_ra⟩, A_ca⟩) (by decide) (by decide) rfl (lenOf pd_2 rfl) rfl (Nat.le_of_eq rfl) (pc' := 212) rfl (by decide) (by decide) ?_
    intro T171 G171
    refine o_iconst G171 at_212 (pc' := 213) rfl (v := (2 : Int32)) rfl ?_
    refine o_iload G171 at_213 (pc' := 215) rfl rfl ?_
    refine o_iload G171 at_215 (pc' := 217) rfl rfl ?_
    refine o_iloadN G171 at_217 (pc' := 218) rfl rfl ?_
    refine o_iloadN G171 at_218 (pc' := 219) rfl rfl ?_
    obtain ⟨v172, e172⟩ : ∃ z, f_12 (2 : Int32) (2 : Int32) (2 : Int32) p1 p3 = z := ⟨_, rfl⟩
    refine o_callP G171 (z := (⟨"com/example/keyfold/keyfold/KeyRunsCountPinLaw", "expected", "(IIIII)I"⟩ : MethodName)) (r := (.int v172)) (argsL := [(.int (2 : Int32)), (.int (2 : Int32)), (.int (2 : Int32)), (.int p1), (.int p3)]) (rest := [(.int (((1 : Int32) + p1) + p3))]) (W := 1) (hw _ (List.mem_of_getElem? (i := 77) rfl)) (hw _ (List.mem_of_getElem? (i := 78) rfl)) at_219 (by decide) (hw _ (List.mem_of_getElem? (i := 79) rfl)) (hw _ (List.mem_of_getElem? (i := 80) rfl)) (by rw [← e172]; exact rm12 hw (2 : Int32) (2 : Int32) (2 : Int32) p1 p3 h161 n0 G171.sz) (by decide) (by decide) rfl (lenOf pd_8 rfl) rfl (Nat.le_of_eq rfl) (pc' := 222) rfl (by decide) (by decide) ?_
    intro T173 G173
    refine o_icmp_ne G173 at_222 (by decide) (pcT := 229) (by decide) (pc' := 225) rfl (fun q => absurd (by subst e163 e164 e166 e169 e172; first | rfl | exact own_e1 _ _ | exact own_e2 _ _ | decide) q) (fun _ => ?_)
    refine o_iconst G173 at_225 (pc' := 226) rfl (v := (1 : Int32)) rfl ?_
    refine o_goto G173 at_226 (by decide) (pc' := 230) rfl ?_
    refine o_istore G173 at_230 (pc' := 232) rfl (l' := #[.val (.int p0), .val (.int p1), .val (.int p2), .val (.int p3), .val (.ref b1), .val (.ref b3), .val (.int (0 : Int32)), .val (.int (1 : Int32)), .val (.int (2 : Int32)), .val (.int (2 : Int32)), .val (.int (2 : Int32)), .val (.ref b156), .val (.int (1 : Int32))]) rfl ?_
    refine o_iload G173 at_232 (pc' := 234) rfl rfl ?_
    exact o_nreturn (t := .boolean) G173 (by simp) at_234 rfl (by decide) (by decide)
set_option maxRecDepth 65536 in
set_option maxHeartbeats 40000000 in
theorem comes_1 {Post : Tables → Env → Array Value → State → Outcome → State → Prop} (hpost : ∀ tb e args s v u, (limb_1_1.after args s (.returned v) u = true ∧ limb_1_2.after args s (.returned v) u = true ∧ True) → FrameEnd s (.returned v) u (Jvm.fieldLocs frame_1_writes args s ++ Jvm.arrayLocs frame_1_arrays args s ++ Jvm.staticLocs frame_1_statics s) 32 768 → Post tb e args s (.returned v) u) :
    ArmFor flags0 classFile x code maxLocals ret World_1 tables_1 room_1 Calls_1 rest_1 Pre_1 Post := by
  intro l hfl _ _ p e ha hc hk s m args below hf hA hF happ hP
  obtain ⟨hcalls, hrest, hpre⟩ := hP
  obtain ⟨-, -, -, hnamed, -, -, -, hat⟩ := (Spec.applies_iff hf).mp happ
  obtain ⟨hg, hn⟩ := and_e (Cond.before_iff.mp (show (Jvm.Cond.and given_1 narrow_1).before args s = true from hpre))
  obtain ⟨g1, g2⟩ := and_e hg
  obtain ⟨g3, g4⟩ := and_e g2
  obtain ⟨g5, g6⟩ := and_e g4
  obtain ⟨g7, g8⟩ := and_e g6
  obtain ⟨w0, w1, w2, w3, rfl⟩ : ∃ w0 w1 w2 w3 : Value, args = #[w0, w1, w2, w3] := by
    have hs : args.size = 4 := by simpa [Cond.value, given_1] using g1
    obtain ⟨L⟩ := args
    match L, hs with
    | [w0, w1, w2, w3], _ => exact ⟨w0, w1, w2, w3, rfl⟩
  have hw := fun d (hd : d ∈ tables_1) => atoms_spec (ws := Jvm.Cond.code x code maxLocals ret :: tables_1) hat d (List.mem_cons_of_mem _ hd)
  obtain ⟨i0, ei0⟩ := is_v g3
  obtain rfl : w0 = (.int i0) := Option.some.inj ei0
  obtain ⟨i1, ei1⟩ := is_v g5
  obtain rfl : w1 = (.int i1) := Option.some.inj ei1
  obtain ⟨i2, ei2⟩ := is_v g7
  obtain rfl : w2 = (.int i2) := Option.some.inj ei2
  obtain ⟨i3, ei3⟩ := is_v g8
  obtain rfl : w3 = (.int i3) := Option.some.inj ei3
  obtain ⟨n, o, h1, h2, h3, _, L, rfl, ⟨N, _, hv⟩, hq⟩ := rm0 (l := l) (Z := s) hw i0 i1 i2 i3 s.heap s.heap.size (Nat.le_refl _)  tables_1 p e ha hc hk s m _ below hf ((Spec.applies_iff_loose hf).mp happ).1 ⟨rfl, State.Warmed39.refl s, rfl⟩ trivial
  subst hv
  refine ⟨n, _, h1, h2, h3, hpost _ _ _ _ _ _ ⟨Cond.after_iff.mpr rfl, Cond.after_iff.mpr (eq_i res_at (Term.int_eval (1)) rfl), trivial⟩ ⟨hq.1, hq.2.1, (hq.2.2.sift fun y hy => Or.inr (N y hy)).mono (by decide) (by decide)⟩⟩
theorem main_1_1 : Claimed_1_1 := comes_1 fun _ _ _ _ _ _ h hF => ⟨h.1, hF⟩
theorem main_1_2 : Claimed_1_2 := comes_1 fun _ _ _ _ _ _ h hF => ⟨h.2.1, hF⟩
end Jvm.Pilot.@@N@@
namespace Jvm.Pilot.@@N@@
open Jvm Jvm.ClassFile Sem Op Lib Jvm.Free Jvm.Stand Jvm.Pilot.@@N@@.Jvm.D
/-! MADE BY PROGRAM (witnessworld.py) out of the Statement's table words and the real class files: 10 classes; the members and pool entries that the words name. The judged class is class 1, her method 1. -/
namespace start1
open Jvm.ClassFile
def u (s : String) : CpInfo := .utf8 (stringToUtf16 s)
/-- a pool by its gaps: so many unusable entries, then the entry; so many at the end -/
def gap : Nat → List CpInfo → List CpInfo
  | 0, r => r
  | n + 1, r => .unusable :: gap n r
def poolList (es : List (Nat × CpInfo)) (last : Nat) : List CpInfo := es.foldr (fun e r => gap e.1 (e.2 :: r)) (gap last [])
def pool (es : List (Nat × CpInfo)) (last : Nat) : Array CpInfo := ⟨poolList es last⟩
def fileOf (pool : Array CpInfo) (this : Nat) (attrs : Array Attribute := #[]) (ms : Array MethodInfo := #[]) (fl : Nat := 33) (sup : Nat := 0) (ifs : Array Nat := #[]) (fds : Array FieldInfo := #[]) : ClassFile where
  minorVersion := 0
  majorVersion := 65
  constantPool := pool
  accessFlags := fl
  thisClass := this
  superClass := sup
  interfaces := ifs
  fields := fds
  methods := ms
  attributes := attrs
def plain (name : String) (sup : Option ClassId) : Class where
  name := name
  kind := .ordinary
  loader := none
  accessFlags := 33
  super := sup
  interfaces := #[]
  cf := none
  fields := #[]
  methods := #[]
  instanceTypes := #[]
  staticTypes := #[]
  resolved := #[]
  callSites := []
  init := .initialized
  statics := none
  mirror := none

def pool0 : Array CpInfo := pool [(5, u "<init>"), (0, u "()V"), (1, .class_ 10), (1, u "java/lang/Object")] 113

def k0c0 : Code := { maxStack := 0, maxLocals := 1, code := object_method_1_code, exceptionTable := #[], attributes := #[] }
def k0m0 : Method := { name := "<init>", desc := "()V", sig := { parameters := [], returnType := none }, accessFlags := 1, code := some k0c0 }
/-- java/lang/Object -/
def k0 : Class := { plain "java/lang/Object" none with
  accessFlags := 33
  interfaces := #[]
  cf := some (fileOf pool0 8 #[] #[{ accessFlags := 1, nameIndex := 5, descriptorIndex := 6, attributes := #[] }] 33 0 #[] #[])
  fields := #[]
  methods := #[k0m0]
  instanceTypes := #[]
  staticTypes := #[]
  resolved := Array.replicate 124 none
  statics := none }

def pool1 : Array CpInfo := pool [(2, .class_ 4), (1, u "java/lang/Object"), (0, u "<init>"), (0, u "()V"), (0, .class_ 8), (0, u "com/example/keyfold/keyfold/KeyRuns"), (0, .methodref 7 10), (0, .nameAndType 5 11), (0, u "(I)V"), (0, .long 10), (1, .methodref 7 15), (0, .nameAndType 16 17), (0, u "insert"), (0, u "(IJ[I)I"), (0, .long 20), (1, .long 30), (1, .integer 2147483647), (0, .methodref 7 24), (0, .nameAndType 25 26), (0, u "count"), (0, u "(II)V"), (0, .methodref 7 28), (0, .nameAndType 29 30), (0, u "entries"), (0, u "()I"), (0, .methodref 7 32), (0, .nameAndType 29 33), (0, u "(I)I"), (0, .methodref 35 36), (0, .class_ 37), (0, .nameAndType 38 39), (0, u "com/example/keyfold/keyfold/KeyRunsCountPinLaw"), (0, u "expected"), (0, u "(IIIII)I"), (2, u "law"), (0, u "(IIII)Z")] 5

def k1m0 : Method := { name := "<init>", desc := "()V", sig := { parameters := [], returnType := none }, accessFlags := 1, code := none }
def k1c1 : Code := { maxStack := 6, maxLocals := 13, code := code, exceptionTable := #[], attributes := #[] }
def k1m1 : Method := { name := "law", desc := "(IIII)Z", sig := { parameters := [.int, .int, .int, .int], returnType := some .boolean }, accessFlags := 9, code := some k1c1 }
def k1c2 : Code := { maxStack := 2, maxLocals := 6, code := method_3_code, exceptionTable := #[], attributes := #[] }
def k1m2 : Method := { name := "expected", desc := "(IIIII)I", sig := { parameters := [.int, .int, .int, .int, .int], returnType := some .int }, accessFlags := 10, code := some k1c2 }
/-- com/example/keyfold/keyfold/KeyRunsCountPinLaw -/
def k1 : Class := { plain "com/example/keyfold/keyfold/KeyRunsCountPinLaw" (some 0) with
  accessFlags := 49
  interfaces := #[]
  cf := some (fileOf pool1 35 #[] #[{ accessFlags := 1, nameIndex := 5, descriptorIndex := 6, attributes := #[] }, { accessFlags := 9, nameIndex := 42, descriptorIndex := 43, attributes := #[] }, { accessFlags := 10, nameIndex := 38, descriptorIndex := 39, attributes := #[] }] 49 2 #[] #[])
  fields := #[]
  methods := #[k1m0, k1m1, k1m2]
  instanceTypes := #[]
  staticTypes := #[]
  resolved := Array.replicate 49 none
  statics := none }

def pool2 : Array CpInfo := pool [(1, .class_ 2), (0, u "com/example/keyfold/keyfold/KeyRuns"), (0, .methodref 4 5), (0, .class_ 6), (0, .nameAndType 7 8), (0, u "java/lang/Object"), (0, u "<init>"), (0, u "()V"), (0, .fieldref 1 10), (0, .nameAndType 11 12), (0, u "columns"), (0, u "I"), (0, .fieldref 1 14), (0, .nameAndType 15 12), (0, u "stride"), (0, .class_ 17), (0, u "[I"), (0, .fieldref 1 19), (0, .nameAndType 20 21), (0, u "runs"), (0, u "[[I"), (0, .fieldref 1 23), (0, .nameAndType 24 21), (0, u "counts"), (0, .fieldref 1 26), (0, .nameAndType 27 17), (0, u "runKeys"), (0, .fieldref 1 29), (0, .nameAndType 30 17), (0, u "runStarts"), (0, .methodref 1 32), (0, .nameAndType 33 34), (0, u "insertRun"), (0, u "(II)V"), (0, .fieldref 1 36), (0, .nameAndType 37 12), (0, u "entries"), (0, .fieldref 1 39), (0, .nameAndType 40 12), (0, u "runCount"), (0, .methodref 1 42), (0, .nameAndType 43 44), (0, u "place"), (0, u "(II)I"), (0, .methodref 1 46), (0, .nameAndType 47 48), (0, u "at"), (0, u "(I)I"), (13, u "(I)V"), (0, .methodref 64 65), (0, .class_ 66), (0, .nameAndType 67 68), (0, u "java/lang/System"), (0, u "arraycopy"), (0, u "(Ljava/lang/Object;ILjava/lang/Object;II)V"), (0, .methodref 1 70), (0, .nameAndType 71 72), (0, u "setFirstRowId"), (0, u "(IJ)V"), (3, .methodref 1 77), (0, .nameAndType 78 79), (0, u "moveRuns"), (0, u "(III)V"), (25, u "NONE"), (2, u "RUN_BITS"), (1, u "RUN"), (1, u "FILLED"), (1, u "ROW_ID"), (1, u "RESTART"), (1, u "NUMBERS"), (3, u "()I"), (11, u "count"), (5, u "insert"), (0, u "(IJ[I)I")] 6

def k2c0 : Code := { maxStack := 3, maxLocals := 2, code := prog_81_method_1_code, exceptionTable := #[], attributes := #[] }
def k2m0 : Method := { name := "<init>", desc := "(I)V", sig := { parameters := [.int], returnType := none }, accessFlags := 0, code := some k2c0 }
def k2c1 : Code := { maxStack := 1, maxLocals := 1, code := prog_81_method_2_code, exceptionTable := #[], attributes := #[] }
def k2m1 : Method := { name := "entries", desc := "()I", sig := { parameters := [], returnType := some .int }, accessFlags := 0, code := some k2c1 }
def k2c2 : Code := { maxStack := 3, maxLocals := 2, code := prog_81_method_8_code, exceptionTable := #[], attributes := #[] }
def k2m2 : Method := { name := "entries", desc := "(I)I", sig := { parameters := [.int], returnType := some .int }, accessFlags := 0, code := some k2c2 }
def k2c3 : Code := { maxStack := 4, maxLocals := 5, code := prog_81_method_12_code, exceptionTable := #[], attributes := #[] }
def k2m3 : Method := { name := "count", desc := "(II)V", sig := { parameters := [.int, .int], returnType := none }, accessFlags := 0, code := some k2c3 }
def k2c4 : Code := { maxStack := 5, maxLocals := 6, code := prog_81_method_13_code, exceptionTable := #[], attributes := #[] }
def k2m4 : Method := { name := "setFirstRowId", desc := "(IJ)V", sig := { parameters := [.int, .long], returnType := none }, accessFlags := 0, code := some k2c4 }
def k2c5 : Code := { maxStack := 6, maxLocals := 10, code := prog_81_method_17_code, exceptionTable := #[], attributes := #[] }
def k2m5 : Method := { name := "insert", desc := "(IJ[I)I", sig := { parameters := [.int, .long, (.array .int)], returnType := some .int }, accessFlags := 0, code := some k2c5 }
def k2c6 : Code := { maxStack := 2, maxLocals := 2, code := prog_81_method_21_code, exceptionTable := #[], attributes := #[] }
def k2m6 : Method := { name := "place", desc := "(II)I", sig := { parameters := [.int, .int], returnType := some .int }, accessFlags := 10, code := some k2c6 }
def k2c7 : Code := { maxStack := 2, maxLocals := 2, code := prog_81_method_22_code, exceptionTable := #[], attributes := #[] }
def k2m7 : Method := { name := "at", desc := "(I)I", sig := { parameters := [.int], returnType := some .int }, accessFlags := 2, code := some k2c7 }
def k2c8 : Code := { maxStack := 5, maxLocals := 4, code := prog_81_method_24_code, exceptionTable := #[], attributes := #[] }
def k2m8 : Method := { name := "insertRun", desc := "(II)V", sig := { parameters := [.int, .int], returnType := none }, accessFlags := 2, code := some k2c8 }
def k2c9 : Code := { maxStack := 5, maxLocals := 4, code := prog_81_method_26_code, exceptionTable := #[], attributes := #[] }
def k2m9 : Method := { name := "moveRuns", desc := "(III)V", sig := { parameters := [.int, .int, .int], returnType := none }, accessFlags := 2, code := some k2c9 }
/-- com/example/keyfold/keyfold/KeyRuns -/
def k2 : Class := { plain "com/example/keyfold/keyfold/KeyRuns" (some 0) with
  accessFlags := 48
  interfaces := #[]
  cf := some (fileOf pool2 1 #[] #[{ accessFlags := 0, nameIndex := 7, descriptorIndex := 62, attributes := #[] }, { accessFlags := 0, nameIndex := 37, descriptorIndex := 122, attributes := #[] }, { accessFlags := 0, nameIndex := 37, descriptorIndex := 48, attributes := #[] }, { accessFlags := 0, nameIndex := 134, descriptorIndex := 34, attributes := #[] }, { accessFlags := 0, nameIndex := 71, descriptorIndex := 72, attributes := #[] }, { accessFlags := 0, nameIndex := 140, descriptorIndex := 141, attributes := #[] }, { accessFlags := 10, nameIndex := 43, descriptorIndex := 44, attributes := #[] }, { accessFlags := 2, nameIndex := 47, descriptorIndex := 48, attributes := #[] }, { accessFlags := 2, nameIndex := 33, descriptorIndex := 34, attributes := #[] }, { accessFlags := 2, nameIndex := 78, descriptorIndex := 79, attributes := #[] }] 48 4 #[] #[{ accessFlags := 24, nameIndex := 105, descriptorIndex := 12, attributes := #[] }, { accessFlags := 26, nameIndex := 108, descriptorIndex := 12, attributes := #[] }, { accessFlags := 26, nameIndex := 110, descriptorIndex := 12, attributes := #[] }, { accessFlags := 26, nameIndex := 112, descriptorIndex := 12, attributes := #[] }, { accessFlags := 26, nameIndex := 114, descriptorIndex := 12, attributes := #[] }, { accessFlags := 26, nameIndex := 116, descriptorIndex := 12, attributes := #[] }, { accessFlags := 26, nameIndex := 118, descriptorIndex := 12, attributes := #[] }, { accessFlags := 18, nameIndex := 11, descriptorIndex := 12, attributes := #[] }, { accessFlags := 18, nameIndex := 15, descriptorIndex := 12, attributes := #[] }, { accessFlags := 2, nameIndex := 20, descriptorIndex := 21, attributes := #[] }, { accessFlags := 2, nameIndex := 24, descriptorIndex := 21, attributes := #[] }, { accessFlags := 2, nameIndex := 27, descriptorIndex := 17, attributes := #[] }, { accessFlags := 2, nameIndex := 30, descriptorIndex := 17, attributes := #[] }, { accessFlags := 2, nameIndex := 40, descriptorIndex := 12, attributes := #[] }, { accessFlags := 2, nameIndex := 37, descriptorIndex := 12, attributes := #[] }])
  fields := #[{ name := "NONE", type := .int, accessFlags := 24, slot := 0, constantValue := 0 }, { name := "RUN_BITS", type := .int, accessFlags := 26, slot := 1, constantValue := 0 }, { name := "RUN", type := .int, accessFlags := 26, slot := 2, constantValue := 0 }, { name := "FILLED", type := .int, accessFlags := 26, slot := 3, constantValue := 0 }, { name := "ROW_ID", type := .int, accessFlags := 26, slot := 4, constantValue := 0 }, { name := "RESTART", type := .int, accessFlags := 26, slot := 5, constantValue := 0 }, { name := "NUMBERS", type := .int, accessFlags := 26, slot := 6, constantValue := 0 }, { name := "columns", type := .int, accessFlags := 18, slot := 0, constantValue := 0 }, { name := "stride", type := .int, accessFlags := 18, slot := 1, constantValue := 0 }, { name := "runs", type := (.array (.array .int)), accessFlags := 2, slot := 2, constantValue := 0 }, { name := "counts", type := (.array (.array .int)), accessFlags := 2, slot := 3, constantValue := 0 }, { name := "runKeys", type := (.array .int), accessFlags := 2, slot := 4, constantValue := 0 }, { name := "runStarts", type := (.array .int), accessFlags := 2, slot := 5, constantValue := 0 }, { name := "runCount", type := .int, accessFlags := 2, slot := 6, constantValue := 0 }, { name := "entries", type := .int, accessFlags := 2, slot := 7, constantValue := 0 }]
  methods := #[k2m0, k2m1, k2m2, k2m3, k2m4, k2m5, k2m6, k2m7, k2m8, k2m9]
  instanceTypes := #[.int, .int, (.array (.array .int)), (.array (.array .int)), (.array .int), (.array .int), .int, .int]
  staticTypes := #[.int, .int, .int, .int, .int, .int, .int]
  resolved := Array.replicate 148 none
  statics := none }

def pool3 : Array CpInfo := pool [(2, .class_ 4), (1, u "java/lang/Object"), (0, u "<init>"), (0, u "()V"), (1, .class_ 10), (1, u "java/lang/System"), (0, u "allowSecurityManager"), (0, u "I"), (16, u "cons"), (0, u "Ljava/io/Console;"), (77, .class_ 110), (1, u "java/lang/System$CallersHolder"), (43, u "initialErrStream"), (0, u "Ljava/io/PrintStream;"), (19, u "security"), (0, u "Ljava/lang/SecurityManager;"), (31, .class_ 209), (0, u "java/lang/System$1"), (7, u "props"), (0, u "Ljava/util/Properties;"), (2, u "lineSeparator"), (0, u "Ljava/lang/String;"), (96, .class_ 321), (1, u "java/lang/System$LoggerFinder"), (5, .class_ 328), (0, u "java/lang/System$Logger"), (67, u "err"), (2, u "out"), (91, u "notSupportedJnuEncoding"), (15, u "in"), (17, u "initialIn"), (0, u "Ljava/io/InputStream;"), (35, u "bootLayer"), (0, u "Ljava/lang/ModuleLayer;"), (99, .class_ 664), (0, u "java/lang/System$2"), (9, u "NEVER"), (2, u "MAYBE"), (49, u "arraycopy"), (0, u "(Ljava/lang/Object;ILjava/lang/Object;II)V"), (72, .class_ 802), (0, u "java/lang/System$Logger$Level")] 31

def k3m0 : Method := { name := "<init>", desc := "()V", sig := { parameters := [], returnType := none }, accessFlags := 2, code := none }
def k3m1 : Method := { name := "arraycopy", desc := "(Ljava/lang/Object;ILjava/lang/Object;II)V", sig := { parameters := [(.object "java/lang/Object"), .int, (.object "java/lang/Object"), .int, .int], returnType := none }, accessFlags := 265, code := none }
/-- java/lang/System -/
def k3 : Class := { plain "java/lang/System" (some 0) with
  accessFlags := 49
  interfaces := #[]
  cf := some (fileOf pool3 8 #[.nestMembers #[319, 327, 801, 108, 663, 208]] #[{ accessFlags := 2, nameIndex := 5, descriptorIndex := 6, attributes := #[] }, { accessFlags := 265, nameIndex := 727, descriptorIndex := 728, attributes := #[] }] 49 2 #[] #[{ accessFlags := 25, nameIndex := 507, descriptorIndex := 526, attributes := #[] }, { accessFlags := 25, nameIndex := 399, descriptorIndex := 155, attributes := #[] }, { accessFlags := 25, nameIndex := 396, descriptorIndex := 155, attributes := #[] }, { accessFlags := 10, nameIndex := 525, descriptorIndex := 526, attributes := #[] }, { accessFlags := 26, nameIndex := 674, descriptorIndex := 12, attributes := #[] }, { accessFlags := 26, nameIndex := 677, descriptorIndex := 12, attributes := #[] }, { accessFlags := 10, nameIndex := 11, descriptorIndex := 12, attributes := #[] }, { accessFlags := 74, nameIndex := 175, descriptorIndex := 176, attributes := #[] }, { accessFlags := 10, nameIndex := 491, descriptorIndex := 222, attributes := #[] }, { accessFlags := 74, nameIndex := 29, descriptorIndex := 30, attributes := #[] }, { accessFlags := 74, nameIndex := 154, descriptorIndex := 155, attributes := #[] }, { accessFlags := 10, nameIndex := 217, descriptorIndex := 218, attributes := #[] }, { accessFlags := 10, nameIndex := 221, descriptorIndex := 222, attributes := #[] }, { accessFlags := 8, nameIndex := 562, descriptorIndex := 563, attributes := #[] }])
  fields := #[{ name := "in", type := (.object "java/io/InputStream"), accessFlags := 25, slot := 0, constantValue := 0 }, { name := "out", type := (.object "java/io/PrintStream"), accessFlags := 25, slot := 1, constantValue := 0 }, { name := "err", type := (.object "java/io/PrintStream"), accessFlags := 25, slot := 2, constantValue := 0 }, { name := "initialIn", type := (.object "java/io/InputStream"), accessFlags := 10, slot := 3, constantValue := 0 }, { name := "NEVER", type := .int, accessFlags := 26, slot := 4, constantValue := 0 }, { name := "MAYBE", type := .int, accessFlags := 26, slot := 5, constantValue := 0 }, { name := "allowSecurityManager", type := .int, accessFlags := 10, slot := 6, constantValue := 0 }, { name := "security", type := (.object "java/lang/SecurityManager"), accessFlags := 74, slot := 7, constantValue := 0 }, { name := "notSupportedJnuEncoding", type := (.object "java/lang/String"), accessFlags := 10, slot := 8, constantValue := 0 }, { name := "cons", type := (.object "java/io/Console"), accessFlags := 74, slot := 9, constantValue := 0 }, { name := "initialErrStream", type := (.object "java/io/PrintStream"), accessFlags := 74, slot := 10, constantValue := 0 }, { name := "props", type := (.object "java/util/Properties"), accessFlags := 10, slot := 11, constantValue := 0 }, { name := "lineSeparator", type := (.object "java/lang/String"), accessFlags := 10, slot := 12, constantValue := 0 }, { name := "bootLayer", type := (.object "java/lang/ModuleLayer"), accessFlags := 8, slot := 13, constantValue := 0 }]
  methods := #[k3m0, k3m1]
  instanceTypes := #[]
  staticTypes := #[(.object "java/io/InputStream"), (.object "java/io/PrintStream"), (.object "java/io/PrintStream"), (.object "java/io/InputStream"), .int, .int, .int, (.object "java/lang/SecurityManager"), (.object "java/lang/String"), (.object "java/io/Console"), (.object "java/io/PrintStream"), (.object "java/util/Properties"), (.object "java/lang/String"), (.object "java/lang/ModuleLayer")]
  resolved := Array.replicate 834 none
  statics := none }

def pool4 : Array CpInfo := pool [(1, u "java/lang/Cloneable"), (0, .class_ 1), (0, u "java/lang/Object"), (0, .class_ 3)] 3

/-- java/lang/Cloneable -/
def k4 : Class := { plain "java/lang/Cloneable" (some 0) with
  accessFlags := 1537
  interfaces := #[]
  cf := some (fileOf pool4 2 #[] #[] 1537 4 #[] #[])
  fields := #[]
  methods := #[]
  instanceTypes := #[]
  staticTypes := #[]
  resolved := Array.replicate 8 none
  statics := none }

def pool5 : Array CpInfo := pool [(1, u "java/io/Serializable"), (0, .class_ 1), (0, u "java/lang/Object"), (0, .class_ 3)] 3

/-- java/io/Serializable -/
def k5 : Class := { plain "java/io/Serializable" (some 0) with
  accessFlags := 1537
  interfaces := #[]
  cf := some (fileOf pool5 2 #[] #[] 1537 4 #[] #[])
  fields := #[]
  methods := #[]
  instanceTypes := #[]
  staticTypes := #[]
  resolved := Array.replicate 8 none
  statics := none }

/-- the primitive byte -/
def k6 : Class := { plain "byte" none with kind := .primitive 'B', accessFlags := 0x411 }
/-- [B -/
def k7 : Class := { plain "[B" (some 0) with kind := .array 6 .byte, interfaces := #[4, 5], accessFlags := 1041 }

/-- the primitive int -/
def k8 : Class := { plain "int" none with kind := .primitive 'I', accessFlags := 0x411 }
/-- [I -/
def k9 : Class := { plain "[I" (some 0) with kind := .array 8 .int, interfaces := #[4, 5], accessFlags := 1041 }

def heap : Heap := #[]
def k10 : Class := { plain "[[I" (some 0) with kind := .array 9 (.array .int), interfaces := #[4, 5], accessFlags := 1041 }
def classes : Array Class := #[k0, k1, k2, k3, k4, k5, k6, k7, k8, k9, k10]
def interned : List (Array UInt16 × Addr) := []
def slotsUsed : Nat := 0
def theMethod : MethodId := ⟨1, 1⟩
def args0 : Array Value := #[.int 5, .int 5, .int 5, .int 5]
def aboutOver (below : List Frame) : State where
  vm := { classes := classes, interned := interned.toArray }
  heap := heap
  slotsUsed := slotsUsed
  threads := #[{ frames := .invoking theMethod args0 :: below }]
def below0 : List Frame := [.native { method := ⟨0, 0⟩, args := #[] }]
def about1 : State := aboutOver below0
def p0 : Program := .bare "" "" ""
def e0 : Env := launch0.env 0 0 0
theorem w_frames : about1.frames = Frame.invoking theMethod args0 :: below0 := rfl
set_option maxRecDepth 65536 in
theorem w_args : argsFit about1.vm theMethod args0 = true := by decide +kernel
set_option maxRecDepth 65536 in
theorem w_heap : heapFits about1 = true := by decide +kernel
set_option maxRecDepth 65536 in
theorem w_runnable : about1.curStatus? = some .runnable := by decide +kernel
set_option maxRecDepth 65536 in
theorem w_alone : about1.alone = true := by decide +kernel
set_option maxRecDepth 65536 in
theorem w_named : about1.methodNamed? x = some theMethod := by decide +kernel
set_option maxRecDepth 65536 in
theorem w_hears : about1.hears theMethod below0 = true := by decide +kernel
set_option maxRecDepth 65536 in
theorem w_ripe : about1.ripe theMethod args0 below0 = true := by decide +kernel
theorem w_running : about1.status = .running := rfl
set_option maxRecDepth 65536 in
theorem w_room : about1.hasRoom e0.platform room_1 = true :=
  launch0.hasRoom_least _ room_1 (by decide +kernel) (by decide +kernel) (by decide +kernel) (by decide +kernel) (by decide +kernel) (by decide +kernel)
theorem allAtoms_all (ts : List Jvm.Cond) (a : Array Jvm.Value) (st : Jvm.State) : (allAtoms ts).before a st = ts.all (fun c => c.before a st) := by
  induction ts with
  | nil => rfl
  | cons c t ih =>
    show (Jvm.Cond.and c (allAtoms t)).before a st = _
    rw [Jvm.Cond.before_and, ih, List.all_cons]
def words1 : List Jvm.Cond := Jvm.Cond.code x code maxLocals ret :: tables_1
/-- a 'code' word, met by the world's own term for the bytes: nothing is compared byte by byte -/
theorem code_word {y : MethodName} {bytes : ByteArray} {mx : Nat} {rt : Option FieldType} {a : Array Value} {s : State} {m : MethodId} {meth : Method} {c : Code} (h1 : s.methodNamed? y = some m) (h2 : s.vm.method? m = some meth) (h3 : meth.code = some c) (h4 : c.code = bytes)
    (h5 : (c.maxLocals == mx && c.exceptionTable.isEmpty && decide (c.maxStack ≤ mostOperands) && decide (meth.sig.returnType = rt) && !meth.locks && decide (parseMethodDescriptor y.desc = some meth.sig)) = true) : (Jvm.Cond.code y bytes mx rt).before a s = true := by
  simp only [Bool.and_eq_true, beq_iff_eq, Bool.not_eq_true', decide_eq_true_eq] at h5
  obtain ⟨⟨⟨⟨⟨g1, g2⟩, g3⟩, g4⟩, g5⟩, g6⟩ := h5
  simp [Cond.before, Cond.holds, Cond.value, h1, h2, h3, h4, g1, g2, g3, g4, g5, g6]
def isCode : Jvm.Cond → Bool
  | .code _ _ _ _ => true
  | _ => false
theorem all_split {L : List Jvm.Cond} {P : Jvm.Cond → Bool} (h1 : L.all (fun c => isCode c || P c) = true) (h2 : ∀ c ∈ L.filter isCode, P c = true) : L.all P = true := by
  refine List.all_eq_true.mpr fun c hc => ?_
  have h := List.all_eq_true.mp h1 c hc
  rcases Bool.eq_false_or_eq_true (isCode c) with hi | hi
  · exact h2 c (List.mem_filter.mpr ⟨hc, hi⟩)
  · simpa [hi] using h
set_option maxRecDepth 65536 in
theorem w_c0 : (Jvm.Cond.code x code maxLocals ret).before args0 about1 = true := code_word (m := ⟨1, 1⟩) (meth := k1m1) (c := k1c1) (by decide +kernel) rfl rfl rfl (by decide +kernel)
set_option maxRecDepth 65536 in
theorem w_c1 : (Jvm.Cond.code ({ cls := "com/example/keyfold/keyfold/KeyRuns", name := "<init>", desc := "(I)V" } : Jvm.MethodName) prog_81_method_1_code (2 : Nat) (Option.none : Option Jvm.ClassFile.FieldType)).before args0 about1 = true := code_word (m := ⟨2, 0⟩) (meth := k2m0) (c := k2c0) (by decide +kernel) rfl rfl rfl (by decide +kernel)
set_option maxRecDepth 65536 in
theorem w_c2 : (Jvm.Cond.code ({ cls := "java/lang/Object", name := "<init>", desc := "()V" } : Jvm.MethodName) object_method_1_code (1 : Nat) (Option.none : Option Jvm.ClassFile.FieldType)).before args0 about1 = true := code_word (m := ⟨0, 0⟩) (meth := k0m0) (c := k0c0) (by decide +kernel) rfl rfl rfl (by decide +kernel)
set_option maxRecDepth 65536 in
theorem w_c3 : (Jvm.Cond.code ({ cls := "com/example/keyfold/keyfold/KeyRuns", name := "insertRun", desc := "(II)V" } : Jvm.MethodName) prog_81_method_24_code (4 : Nat) (Option.none : Option Jvm.ClassFile.FieldType)).before args0 about1 = true := code_word (m := ⟨2, 8⟩) (meth := k2m8) (c := k2c8) (by decide +kernel) rfl rfl rfl (by decide +kernel)
set_option maxRecDepth 65536 in
theorem w_c4 : (Jvm.Cond.code ({ cls := "com/example/keyfold/keyfold/KeyRuns", name := "moveRuns", desc := "(III)V" } : Jvm.MethodName) prog_81_method_26_code (4 : Nat) (Option.none : Option Jvm.ClassFile.FieldType)).before args0 about1 = true := code_word (m := ⟨2, 9⟩) (meth := k2m9) (c := k2c9) (by decide +kernel) rfl rfl rfl (by decide +kernel)
set_option maxRecDepth 65536 in
theorem w_c5 : (Jvm.Cond.code ({ cls := "com/example/keyfold/keyfold/KeyRuns", name := "insert", desc := "(IJ[I)I" } : Jvm.MethodName) prog_81_method_17_code (10 : Nat) (Option.some Jvm.ClassFile.FieldType.int)).before args0 about1 = true := code_word (m := ⟨2, 5⟩) (meth := k2m5) (c := k2c5) (by decide +kernel) rfl rfl rfl (by decide +kernel)
set_option maxRecDepth 65536 in
theorem w_c6 : (Jvm.Cond.code ({ cls := "com/example/keyfold/keyfold/KeyRuns", name := "place", desc := "(II)I" } : Jvm.MethodName) prog_81_method_21_code (2 : Nat) (Option.some Jvm.ClassFile.FieldType.int)).before args0 about1 = true := code_word (m := ⟨2, 6⟩) (meth := k2m6) (c := k2c6) (by decide +kernel) rfl rfl rfl (by decide +kernel)
set_option maxRecDepth 65536 in
theorem w_c7 : (Jvm.Cond.code ({ cls := "com/example/keyfold/keyfold/KeyRuns", name := "setFirstRowId", desc := "(IJ)V" } : Jvm.MethodName) prog_81_method_13_code (6 : Nat) (Option.none : Option Jvm.ClassFile.FieldType)).before args0 about1 = true := code_word (m := ⟨2, 4⟩) (meth := k2m4) (c := k2c4) (by decide +kernel) rfl rfl rfl (by decide +kernel)
set_option maxRecDepth 65536 in
theorem w_c8 : (Jvm.Cond.code ({ cls := "com/example/keyfold/keyfold/KeyRuns", name := "at", desc := "(I)I" } : Jvm.MethodName) prog_81_method_22_code (2 : Nat) (Option.some Jvm.ClassFile.FieldType.int)).before args0 about1 = true := code_word (m := ⟨2, 7⟩) (meth := k2m7) (c := k2c7) (by decide +kernel) rfl rfl rfl (by decide +kernel)
set_option maxRecDepth 65536 in
theorem w_c9 : (Jvm.Cond.code ({ cls := "com/example/keyfold/keyfold/KeyRuns", name := "count", desc := "(II)V" } : Jvm.MethodName) prog_81_method_12_code (5 : Nat) (Option.none : Option Jvm.ClassFile.FieldType)).before args0 about1 = true := code_word (m := ⟨2, 3⟩) (meth := k2m3) (c := k2c3) (by decide +kernel) rfl rfl rfl (by decide +kernel)
set_option maxRecDepth 65536 in
theorem w_c10 : (Jvm.Cond.code ({ cls := "com/example/keyfold/keyfold/KeyRuns", name := "entries", desc := "()I" } : Jvm.MethodName) prog_81_method_2_code (1 : Nat) (Option.some Jvm.ClassFile.FieldType.int)).before args0 about1 = true := code_word (m := ⟨2, 1⟩) (meth := k2m1) (c := k2c1) (by decide +kernel) rfl rfl rfl (by decide +kernel)
set_option maxRecDepth 65536 in
theorem w_c11 : (Jvm.Cond.code ({ cls := "com/example/keyfold/keyfold/KeyRuns", name := "entries", desc := "(I)I" } : Jvm.MethodName) prog_81_method_8_code (2 : Nat) (Option.some Jvm.ClassFile.FieldType.int)).before args0 about1 = true := code_word (m := ⟨2, 2⟩) (meth := k2m2) (c := k2c2) (by decide +kernel) rfl rfl rfl (by decide +kernel)
set_option maxRecDepth 65536 in
theorem w_c12 : (Jvm.Cond.code ({ cls := "com/example/keyfold/keyfold/KeyRunsCountPinLaw", name := "expected", desc := "(IIIII)I" } : Jvm.MethodName) method_3_code (6 : Nat) (Option.some Jvm.ClassFile.FieldType.int)).before args0 about1 = true := code_word (m := ⟨1, 2⟩) (meth := k1m2) (c := k1c2) (by decide +kernel) rfl rfl rfl (by decide +kernel)
def codes1 : List Jvm.Cond := [Jvm.Cond.code x code maxLocals ret, Jvm.Cond.code ({ cls := "com/example/keyfold/keyfold/KeyRuns", name := "<init>", desc := "(I)V" } : Jvm.MethodName) prog_81_method_1_code (2 : Nat) (Option.none : Option Jvm.ClassFile.FieldType), Jvm.Cond.code ({ cls := "java/lang/Object", name := "<init>", desc := "()V" } : Jvm.MethodName) object_method_1_code (1 : Nat) (Option.none : Option Jvm.ClassFile.FieldType), Jvm.Cond.code ({ cls := "com/example/keyfold/keyfold/KeyRuns", name := "insertRun", desc := "(II)V" } : Jvm.MethodName) prog_81_method_24_code (4 : Nat) (Option.none : Option Jvm.ClassFile.FieldType), Jvm.Cond.code ({ cls := "com/example/keyfold/keyfold/KeyRuns", name := "moveRuns", desc := "(III)V" } : Jvm.MethodName) prog_81_method_26_code (4 : Nat) (Option.none : Option Jvm.ClassFile.FieldType), Jvm.Cond.code ({ cls := "com/example/keyfold/keyfold/KeyRuns", name := "insert", desc := "(IJ[I)I" } : Jvm.MethodName) prog_81_method_17_code (10 : Nat) (Option.some Jvm.ClassFile.FieldType.int), Jvm.Cond.code ({ cls := "com/example/keyfold/keyfold/KeyRuns", name := "place", desc := "(II)I" } : Jvm.MethodName) prog_81_method_21_code (2 : Nat) (Option.some Jvm.ClassFile.FieldType.int), Jvm.Cond.code ({ cls := "com/example/keyfold/keyfold/KeyRuns", name := "setFirstRowId", desc := "(IJ)V" } : Jvm.MethodName) prog_81_method_13_code (6 : Nat) (Option.none : Option Jvm.ClassFile.FieldType), Jvm.Cond.code ({ cls := "com/example/keyfold/keyfold/KeyRuns", name := "at", desc := "(I)I" } : Jvm.MethodName) prog_81_method_22_code (2 : Nat) (Option.some Jvm.ClassFile.FieldType.int), Jvm.Cond.code ({ cls := "com/example/keyfold/keyfold/KeyRuns", name := "count", desc := "(II)V" } : Jvm.MethodName) prog_81_method_12_code (5 : Nat) (Option.none : Option Jvm.ClassFile.FieldType), Jvm.Cond.code ({ cls := "com/example/keyfold/keyfold/KeyRuns", name := "entries", desc := "()I" } : Jvm.MethodName) prog_81_method_2_code (1 : Nat) (Option.some Jvm.ClassFile.FieldType.int), Jvm.Cond.code ({ cls := "com/example/keyfold/keyfold/KeyRuns", name := "entries", desc := "(I)I" } : Jvm.MethodName) prog_81_method_8_code (2 : Nat) (Option.some Jvm.ClassFile.FieldType.int), Jvm.Cond.code ({ cls := "com/example/keyfold/keyfold/KeyRunsCountPinLaw", name := "expected", desc := "(IIIII)I" } : Jvm.MethodName) method_3_code (6 : Nat) (Option.some Jvm.ClassFile.FieldType.int)]
set_option maxRecDepth 65536 in
theorem codes_eq : words1.filter isCode = codes1 := rfl
theorem w_codes : ∀ c ∈ words1.filter isCode, c.before args0 about1 = true := by
  rw [codes_eq]
  intro c hc
  simp only [codes1, List.mem_cons, List.not_mem_nil, or_false] at hc
  rcases hc with rfl | rfl | rfl | rfl | rfl | rfl | rfl | rfl | rfl | rfl | rfl | rfl | rfl
  · exact w_c0
  · exact w_c1
  · exact w_c2
  · exact w_c3
  · exact w_c4
  · exact w_c5
  · exact w_c6
  · exact w_c7
  · exact w_c8
  · exact w_c9
  · exact w_c10
  · exact w_c11
  · exact w_c12
set_option maxRecDepth 65536 in
theorem w_t1 : (words1.take 24).all (fun c => isCode c || c.before args0 about1) = true := by decide +kernel
set_option maxRecDepth 65536 in
theorem w_t2 : ((words1.drop 24).take 24).all (fun c => isCode c || c.before args0 about1) = true := by decide +kernel
set_option maxRecDepth 65536 in
theorem w_t3 : (((words1.drop 24).drop 24).take 24).all (fun c => isCode c || c.before args0 about1) = true := by decide +kernel
set_option maxRecDepth 65536 in
theorem w_t4 : (((words1.drop 24).drop 24).drop 24).all (fun c => isCode c || c.before args0 about1) = true := by decide +kernel
theorem w_tables : (allAtoms (Jvm.Cond.code x code maxLocals ret :: tables_1)).before args0 about1 = true := by
  rw [allAtoms_all]
  show words1.all (fun c => c.before args0 about1) = true
  refine all_split ?_ w_codes
  rw [← List.take_append_drop 24 words1, List.all_append, w_t1, ← List.take_append_drop 24 (words1.drop 24), List.all_append, w_t2, ← List.take_append_drop 24 ((words1.drop 24).drop 24), List.all_append, w_t3, w_t4]
  rfl
set_option maxRecDepth 65536 in
theorem w_case : (Jvm.Cond.and given_1 narrow_1).before args0 about1 = true := by decide +kernel
theorem w_applies : (headSpec (Jvm.Cond.code x code maxLocals ret :: tables_1) room_1).applies x e0.platform about1 = true :=
  (Spec.applies_iff w_frames).mpr ⟨w_running, w_runnable, w_alone, w_named, w_hears, w_ripe, w_room, w_tables⟩
theorem atStart : AtStart classFile x code maxLocals ret World_1 tables_1 room_1 Calls_1 rest_1 Pre_1 launch0 p0 e0 about1 theMethod args0 below0 :=
  ⟨lists_1, trivial, launch0.admits_env _ _ _, launch0.least_env, fairChoices_fair.cas, fairChoices_fair.clock, w_frames, w_args, w_heap, w_applies, trivial, trivial, w_case⟩
end start1
theorem witness_1 : WitnessClaimed_1 := ⟨start1.p0, start1.e0, start1.about1, start1.theMethod, start1.args0, start1.below0, start1.atStart⟩
end Jvm.Pilot.@@N@@
