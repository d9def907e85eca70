import JvmDerived
import JvmDerived.Pilot.@@N@@Statement
import JvmDerived.Pilot.@@N@@Code
set_option linter.unusedVariables false
set_option linter.unusedSimpArgs false
namespace Jvm.Pilot.@@N@@
open Jvm Jvm.ClassFile Sem Op Lib Jvm.Free Jvm.Stand Jvm.LawKit Jvm.RoadKit Bundle Jvm.Pilot.@@N@@.Jvm.D

section OwnKit
/-- from here the run comes to a return that says Q -/
def OFin (n0 : Nat) (p : Program) (e : Env) (below : List Frame) (s : State) (Q : Option Value → Heap → Prop) (ck sk : Nat) (T : State) (g : JFrame) : Prop :=
  ∃ s₂ o, Steps p.tables e below (T.setTop g) s₂ ∧ s₂.status = .running ∧ Ended s₂ below o ∧ ∃ v L, o = .returned v ∧ (Fr n0 L ∧ n0 ≤ s₂.heap.size ∧ Q v s₂.heap) ∧ FrameEnd s o s₂ L ck sk
/-- where the walk of a body stands, with all that is known of the body -/
def OG (l : Launch) (Z : State) (y : MethodName) (bytes : ByteArray) (maxl : Nat) (ret : Option FieldType) (n0 : Nat) (p : Program) (e : Env) (R : Room) (s : State) (m : MethodId) (args : Array Value) (below : List Frame) (meth : Method) (c : Code) (T : State) (h : Heap) (cells slots : Nat) : Prop :=
  p.tables.exec = Jvm.exec ∧ c.code = bytes ∧ c.maxLocals = maxl ∧ s.vm.findClass y.cls = some m.cls ∧ meth.name = y.name ∧ meth.sig.returnType = ret ∧ meth.locks = false ∧ Z.Warmed39 s.vm ∧ T.heap = h ∧ n0 ≤ h.size ∧ ∃ locs, Stand p l e R s m args below meth c T locs cells slots ∧ Fr n0 locs
/-- a body's contract -/
def OMet (l : Launch) (Z : State) (y : MethodName) (bytes : ByteArray) (maxl : Nat) (ret : Option FieldType) (rm : Room) (as' : Array Value) (h0 : Heap) (n0 : Nat) (ck sk : Nat) (Q : Option Value → Heap → Prop) : Prop :=
  ∀ ws : List Jvm.Cond, MetFree l y (head1 (Jvm.Cond.code y bytes maxl ret :: ws) rm) (fun a U => a = as' ∧ Z.Warmed39 U.vm ∧ U.heap = h0) (fun _ _ _ _ _ => True) (fun _ U o U' => ∃ v L, o = .returned v ∧ (Fr n0 L ∧ n0 ≤ U'.heap.size ∧ Q v U'.heap) ∧ FrameEnd U o U' L ck sk)
variable {l : Launch} {Z : State} {y : MethodName} {bytes : ByteArray} {maxl : Nat} {ret : Option FieldType} {n0 : Nat} {p : Program} {e : Env} {R : Room} {s : State} {m : MethodId} {args : Array Value} {below : List Frame} {meth : Method} {c : Code} {T : State} {h : Heap} {cells slots ck sk : Nat} {Q : Option Value → Heap → Prop} {pc pc' : Nat} {Ls : Array Slot} {rest : List Value} {a0 : Array Value}
theorem o_step {T' : State} {g g' : JFrame} (st : ∀ t, Steps p.tables e below (T'.setTop g') t → Steps p.tables e below (T.setTop g) t) (k : OFin n0 p e below s Q ck sk T' g') : OFin n0 p e below s Q ck sk T g := by
  obtain ⟨s₂, o, h1, r⟩ := k
  exact ⟨s₂, o, st _ h1, r⟩
theorem o_body {rm : Room} {as' : Array Value} {h0 : Heap} (hy : plainFor y = true) (hz : n0 ≤ h0.size) (hent : ∀ m, entryFrame m as' maxl = mkF m 0 Ls [])
    (body : ∀ (p : Program) (e : Env) (s : State) (m : MethodId) (below : List Frame) (meth : Method) (c : Code) (s₁ : State), OG l Z y bytes maxl ret n0 p e rm s m as' below meth c s₁ h0 0 0 → OFin n0 p e below s Q ck sk s₁ (mkF m 0 Ls [])) : OMet l Z y bytes maxl ret rm as' h0 n0 ck sk Q := by
  intro ws
  refine MetFree.of_bodySF hy hisR ?_
  intro p e s m args below meth c s₁ Bd hml0 hP hK
  obtain ⟨ha, hZ, hh⟩ := hP
  subst ha
  have e0 : s₁.heap = h0 := by rw [← hh, Bd.state]; rfl
  have k := body p e s m below meth c s₁ ⟨Bd.exec, Bd.bytes, hml0, findClass_of_methodNamed Bd.named, (name_of_methodNamed Bd.named Bd.method).1, Bd.returns, Bd.notSynchronized, hZ, e0, hz, [], Stand.of_body Bd, Fr.nil n0⟩
  rw [← hent m] at k
  exact k
theorem OG.sz (G : OG l Z y bytes maxl ret n0 p e R s m args below meth c T h cells slots) : n0 ≤ h.size := G.2.2.2.2.2.2.2.2.2.1
theorem OG.eh (G : OG l Z y bytes maxl ret n0 p e R s m args below meth c T h cells slots) : T.heap = h := G.2.2.2.2.2.2.2.2.1
theorem OG.wm (G : OG l Z y bytes maxl ret n0 p e R s m args below meth c T h cells slots) : Z.Warmed39 s.vm := G.2.2.2.2.2.2.2.1
theorem o_iloadN (G : OG l Z y bytes maxl ret n0 p e R s m args below meth c T h cells slots) {k0 : Fin 4} {v : Int32} (hd : decode bytes pc = .ok (.iload_n k0, 1)) (hp : pc + 1 = pc') (hl : Ls[k0.val]? = some (.val (.int v))) (k : OFin n0 p e below s Q ck sk T (mkF m pc' Ls (.int v :: rest))) : OFin n0 p e below s Q ck sk T (mkF m pc Ls rest) := by
  subst hp
  obtain ⟨hx, hby, -, -, -, -, -, -, -, -, locs, X, -⟩ := G
  exact o_step (fun _ hr => XS.iloadN X.here hx rfl (hb hby hd) hl hr) k
theorem o_iload (G : OG l Z y bytes maxl ret n0 p e R s m args below meth c T h cells slots) {k0 : Nat} {v : Int32} (hd : decode bytes pc = .ok (.iload k0, 2)) (hp : pc + 2 = pc') (hl : Ls[k0]? = some (.val (.int v))) (k : OFin n0 p e below s Q ck sk T (mkF m pc' Ls (.int v :: rest))) : OFin n0 p e below s Q ck sk T (mkF m pc Ls rest) := by
  subst hp
  obtain ⟨hx, hby, -, -, -, -, -, -, -, -, locs, X, -⟩ := G
  exact o_step (fun _ hr => XS.iload X.here hx rfl (hb hby hd) hl hr) k
theorem o_lload (G : OG l Z y bytes maxl ret n0 p e R s m args below meth c T h cells slots) {k0 : Nat} {v : Int64} (hd : decode bytes pc = .ok (.lload k0, 2)) (hp : pc + 2 = pc') (hl : Ls[k0]? = some (.val (.long v))) (k : OFin n0 p e below s Q ck sk T (mkF m pc' Ls (.long v :: rest))) : OFin n0 p e below s Q ck sk T (mkF m pc Ls rest) := by
  subst hp
  obtain ⟨hx, hby, -, -, -, -, -, -, -, -, locs, X, -⟩ := G
  exact o_step (fun _ hr => XS.lload X.here hx rfl (hb hby hd) hl hr) k
theorem o_istoreN (G : OG l Z y bytes maxl ret n0 p e R s m args below meth c T h cells slots) {k0 : Fin 4} {v : Int32} {l' : Array Slot} (hd : decode bytes pc = .ok (.istore_n k0, 1)) (hp : pc + 1 = pc') (hl : storeLocals Ls k0.val (.int v) = some l') (k : OFin n0 p e below s Q ck sk T (mkF m pc' l' rest)) : OFin n0 p e below s Q ck sk T (mkF m pc Ls (.int v :: rest)) := by
  subst hp
  obtain ⟨hx, hby, -, -, -, -, -, -, -, -, locs, X, -⟩ := G
  exact o_step (fun _ hr => XS.istoreN X.here hx rfl (hb hby hd) rfl hl hr) k
theorem o_istore (G : OG l Z y bytes maxl ret n0 p e R s m args below meth c T h cells slots) {k0 : Nat} {v : Int32} {l' : Array Slot} (hd : decode bytes pc = .ok (.istore k0, 2)) (hp : pc + 2 = pc') (hl : storeLocals Ls k0 (.int v) = some l') (k : OFin n0 p e below s Q ck sk T (mkF m pc' l' rest)) : OFin n0 p e below s Q ck sk T (mkF m pc Ls (.int v :: rest)) := by
  subst hp
  obtain ⟨hx, hby, -, -, -, -, -, -, -, -, locs, X, -⟩ := G
  exact o_step (fun _ hr => XS.istore X.here hx rfl (hb hby hd) rfl hl hr) k
theorem o_lstore (G : OG l Z y bytes maxl ret n0 p e R s m args below meth c T h cells slots) {k0 : Nat} {v : Int64} {l' : Array Slot} (hd : decode bytes pc = .ok (.lstore k0, 2)) (hp : pc + 2 = pc') (hl : storeLocals Ls k0 (.long v) = some l') (k : OFin n0 p e below s Q ck sk T (mkF m pc' l' rest)) : OFin n0 p e below s Q ck sk T (mkF m pc Ls (.long v :: rest)) := by
  subst hp
  obtain ⟨hx, hby, -, -, -, -, -, -, -, -, locs, X, -⟩ := G
  exact o_step (fun _ hr => XS.lstore X.here hx rfl (hb hby hd) rfl hl hr) k
theorem o_iconst (G : OG l Z y bytes maxl ret n0 p e R s m args below meth c T h cells slots) {i : Int} {v : Int32} (hd : decode bytes pc = .ok (.iconst i, 1)) (hp : pc + 1 = pc') (hv : Int32.ofInt i = v) (k : OFin n0 p e below s Q ck sk T (mkF m pc' Ls (.int v :: rest))) : OFin n0 p e below s Q ck sk T (mkF m pc Ls rest) := by
  subst hp
  subst hv
  obtain ⟨hx, hby, -, -, -, -, -, -, -, -, locs, X, -⟩ := G
  exact o_step (fun _ hr => XS.iconst X.here hx rfl (hb hby hd) hr) k
theorem o_bipush (G : OG l Z y bytes maxl ret n0 p e R s m args below meth c T h cells slots) {i : Int} {v : Int32} (hd : decode bytes pc = .ok (.bipush i, 2)) (hp : pc + 2 = pc') (hv : (Int8.ofInt i).toInt32 = v) (k : OFin n0 p e below s Q ck sk T (mkF m pc' Ls (.int v :: rest))) : OFin n0 p e below s Q ck sk T (mkF m pc Ls rest) := by
  subst hp
  subst hv
  obtain ⟨hx, hby, -, -, -, -, -, -, -, -, locs, X, -⟩ := G
  exact o_step (fun _ hr => XS.bipush X.here hx rfl (hb hby hd) hr) k
theorem o_iadd (G : OG l Z y bytes maxl ret n0 p e R s m args below meth c T h cells slots) {u w v : Int32} (hd : decode bytes pc = .ok (.iadd, 1)) (hp : pc + 1 = pc') (hv : u + w = v) (k : OFin n0 p e below s Q ck sk T (mkF m pc' Ls (.int v :: rest))) : OFin n0 p e below s Q ck sk T (mkF m pc Ls (.int w :: .int u :: rest)) := by
  subst hp
  subst hv
  obtain ⟨hx, hby, -, -, -, -, -, -, -, -, locs, X, -⟩ := G
  exact o_step (fun _ hr => XS.iadd X.here hx rfl (hb hby hd) rfl hr) k
theorem o_isub (G : OG l Z y bytes maxl ret n0 p e R s m args below meth c T h cells slots) {u w v : Int32} (hd : decode bytes pc = .ok (.isub, 1)) (hp : pc + 1 = pc') (hv : u - w = v) (k : OFin n0 p e below s Q ck sk T (mkF m pc' Ls (.int v :: rest))) : OFin n0 p e below s Q ck sk T (mkF m pc Ls (.int w :: .int u :: rest)) := by
  subst hp
  subst hv
  obtain ⟨hx, hby, -, -, -, -, -, -, -, -, locs, X, -⟩ := G
  exact o_step (fun _ hr => XS.isub X.here hx rfl (hb hby hd) rfl hr) k
theorem o_imul (G : OG l Z y bytes maxl ret n0 p e R s m args below meth c T h cells slots) {u w v : Int32} (hd : decode bytes pc = .ok (.imul, 1)) (hp : pc + 1 = pc') (hv : u * w = v) (k : OFin n0 p e below s Q ck sk T (mkF m pc' Ls (.int v :: rest))) : OFin n0 p e below s Q ck sk T (mkF m pc Ls (.int w :: .int u :: rest)) := by
  subst hp
  subst hv
  obtain ⟨hx, hby, -, -, -, -, -, -, -, -, locs, X, -⟩ := G
  exact o_step (fun _ hr => XS.imul X.here hx rfl (hb hby hd) rfl hr) k
theorem o_lmul (G : OG l Z y bytes maxl ret n0 p e R s m args below meth c T h cells slots) {u w v : Int64} (hd : decode bytes pc = .ok (.lmul, 1)) (hp : pc + 1 = pc') (hv : u * w = v) (k : OFin n0 p e below s Q ck sk T (mkF m pc' Ls (.long v :: rest))) : OFin n0 p e below s Q ck sk T (mkF m pc Ls (.long w :: .long u :: rest)) := by
  subst hp
  subst hv
  obtain ⟨hx, hby, -, -, -, -, -, -, -, -, locs, X, -⟩ := G
  exact o_step (fun _ hr => XS.lmul X.here hx rfl (hb hby hd) rfl hr) k
theorem o_iand (G : OG l Z y bytes maxl ret n0 p e R s m args below meth c T h cells slots) {u w v : Int32} (hd : decode bytes pc = .ok (.iand, 1)) (hp : pc + 1 = pc') (hv : u &&& w = v) (k : OFin n0 p e below s Q ck sk T (mkF m pc' Ls (.int v :: rest))) : OFin n0 p e below s Q ck sk T (mkF m pc Ls (.int w :: .int u :: rest)) := by
  subst hp
  subst hv
  obtain ⟨hx, hby, -, -, -, -, -, -, -, -, locs, X, -⟩ := G
  exact o_step (fun _ hr => XS.iand X.here hx rfl (hb hby hd) rfl hr) k
theorem o_i2l (G : OG l Z y bytes maxl ret n0 p e R s m args below meth c T h cells slots) {u : Int32} {v : Int64} (hd : decode bytes pc = .ok (.i2l, 1)) (hp : pc + 1 = pc') (hv : u.toInt64 = v) (k : OFin n0 p e below s Q ck sk T (mkF m pc' Ls (.long v :: rest))) : OFin n0 p e below s Q ck sk T (mkF m pc Ls (.int u :: rest)) := by
  subst hp
  subst hv
  obtain ⟨hx, hby, -, -, -, -, -, -, -, -, locs, X, -⟩ := G
  exact o_step (fun _ hr => XS.i2l X.here hx rfl (hb hby hd) rfl hr) k
theorem o_idiv (G : OG l Z y bytes maxl ret n0 p e R s m args below meth c T h cells slots) {u w v : Int32} (hd : decode bytes pc = .ok (.idiv, 1)) (hp : pc + 1 = pc') (hw0 : w ≠ 0) (hv : u / w = v) (k : OFin n0 p e below s Q ck sk T (mkF m pc' Ls (.int v :: rest))) : OFin n0 p e below s Q ck sk T (mkF m pc Ls (.int w :: .int u :: rest)) := by
  subst hp
  subst hv
  obtain ⟨hx, hby, -, -, -, -, -, -, -, -, locs, X, -⟩ := G
  exact o_step (fun _ hr => XS.idiv X.here hx rfl (hb hby hd) rfl hw0 hr) k
theorem o_irem (G : OG l Z y bytes maxl ret n0 p e R s m args below meth c T h cells slots) {u w v : Int32} (hd : decode bytes pc = .ok (.irem, 1)) (hp : pc + 1 = pc') (hw0 : w ≠ 0) (hv : u % w = v) (k : OFin n0 p e below s Q ck sk T (mkF m pc' Ls (.int v :: rest))) : OFin n0 p e below s Q ck sk T (mkF m pc Ls (.int w :: .int u :: rest)) := by
  subst hp
  subst hv
  obtain ⟨hx, hby, -, -, -, -, -, -, -, -, locs, X, -⟩ := G
  exact o_step (fun _ hr => iremM X hx rfl (hb hby hd) rfl hw0 hr) k
theorem o_goto (G : OG l Z y bytes maxl ret n0 p e R s m args below meth c T h cells slots) {o : Int} (hd : decode bytes pc = .ok (.goto o, 3)) (ho : 0 ≤ (pc : Int) + o) (hp : ((pc : Int) + o).toNat = pc') (k : OFin n0 p e below s Q ck sk T (mkF m pc' Ls rest)) : OFin n0 p e below s Q ck sk T (mkF m pc Ls rest) := by
  obtain ⟨hx, hby, -, -, -, -, -, -, -, -, locs, X, -⟩ := G
  exact o_step (fun _ hr => XS.goto X.here hx rfl (pc0 := pc) (pc' := pc') rfl (hb hby hd) ho hp hr) k
theorem o_icmp_lt (G : OG l Z y bytes maxl ret n0 p e R s m args below meth c T h cells slots) {o : Int} {pcT : Nat} {u w : Int32} (hd : decode bytes pc = .ok (.if_icmp .lt o, 3)) (ho : 0 ≤ (pc : Int) + o) (hpT : ((pc : Int) + o).toNat = pcT) (hp : pc + 3 = pc') (kT : u < w → OFin n0 p e below s Q ck sk T (mkF m pcT Ls rest)) (kF : ¬ u < w → OFin n0 p e below s Q ck sk T (mkF m pc' Ls rest)) : OFin n0 p e below s Q ck sk T (mkF m pc Ls (.int w :: .int u :: rest)) := by
  subst hp
  obtain ⟨hx, hby, -, -, -, -, -, -, -, -, locs, X, -⟩ := G
  by_cases q : u < w
  · exact o_step (fun _ hr => XS.icmpYes X.here hx rfl (pc0 := pc) (pc' := pcT) rfl (hb hby hd) rfl (tlt q).1 ho hpT hr) (kT q)
  · exact o_step (fun _ hr => XS.icmpNo X.here hx rfl (hb hby hd) rfl (flt q).1 hr) (kF q)
theorem o_if_ge (G : OG l Z y bytes maxl ret n0 p e R s m args below meth c T h cells slots) {o : Int} {pcT : Nat} {u : Int32} (hd : decode bytes pc = .ok (.ifCond .ge o, 3)) (ho : 0 ≤ (pc : Int) + o) (hpT : ((pc : Int) + o).toNat = pcT) (hp : pc + 3 = pc') (kT : ¬ u < (0 : Int32) → OFin n0 p e below s Q ck sk T (mkF m pcT Ls rest)) (kF : u < (0 : Int32) → OFin n0 p e below s Q ck sk T (mkF m pc' Ls rest)) : OFin n0 p e below s Q ck sk T (mkF m pc Ls (.int u :: rest)) := by
  subst hp
  obtain ⟨hx, hby, -, -, -, -, -, -, -, -, locs, X, -⟩ := G
  by_cases q : ¬ u < (0 : Int32)
  · exact o_step (fun _ hr => XS.ifYes X.here hx rfl (pc0 := pc) (pc' := pcT) rfl (hb hby hd) rfl ((if0 _ _).trans (flt q).2.1) ho hpT hr) (kT q)
  · have q := Decidable.not_not.mp q
    exact o_step (fun _ hr => XS.ifNo X.here hx rfl (hb hby hd) rfl ((if0 _ _).trans (tlt q).2.1) hr) (kF q)
theorem o_if_gt (G : OG l Z y bytes maxl ret n0 p e R s m args below meth c T h cells slots) {o : Int} {pcT : Nat} {u : Int32} (hd : decode bytes pc = .ok (.ifCond .gt o, 3)) (ho : 0 ≤ (pc : Int) + o) (hpT : ((pc : Int) + o).toNat = pcT) (hp : pc + 3 = pc') (kT : (0 : Int32) < u → OFin n0 p e below s Q ck sk T (mkF m pcT Ls rest)) (kF : ¬ (0 : Int32) < u → OFin n0 p e below s Q ck sk T (mkF m pc' Ls rest)) : OFin n0 p e below s Q ck sk T (mkF m pc Ls (.int u :: rest)) := by
  subst hp
  obtain ⟨hx, hby, -, -, -, -, -, -, -, -, locs, X, -⟩ := G
  by_cases q : (0 : Int32) < u
  · exact o_step (fun _ hr => XS.ifYes X.here hx rfl (pc0 := pc) (pc' := pcT) rfl (hb hby hd) rfl ((if0 _ _).trans (tlt q).2.2.1) ho hpT hr) (kT q)
  · exact o_step (fun _ hr => XS.ifNo X.here hx rfl (hb hby hd) rfl ((if0 _ _).trans (flt q).2.2.1) hr) (kF q)
theorem o_icmp_ne (G : OG l Z y bytes maxl ret n0 p e R s m args below meth c T h cells slots) {o : Int} {pcT : Nat} {u w : Int32} (hd : decode bytes pc = .ok (.if_icmp .ne o, 3)) (ho : 0 ≤ (pc : Int) + o) (hpT : ((pc : Int) + o).toNat = pcT) (hp : pc + 3 = pc') (kT : ¬ u = w → OFin n0 p e below s Q ck sk T (mkF m pcT Ls rest)) (kF : u = w → OFin n0 p e below s Q ck sk T (mkF m pc' Ls rest)) : OFin n0 p e below s Q ck sk T (mkF m pc Ls (.int w :: .int u :: rest)) := by
  subst hp
  obtain ⟨hx, hby, -, -, -, -, -, -, -, -, locs, X, -⟩ := G
  by_cases q : ¬ u = w
  · exact o_step (fun _ hr => XS.icmpYes X.here hx rfl (pc0 := pc) (pc' := pcT) rfl (hb hby hd) rfl (feq q).2 ho hpT hr) (kT q)
  · have q := Decidable.not_not.mp q
    exact o_step (fun _ hr => XS.icmpNo X.here hx rfl (hb hby hd) rfl (teq q).2 hr) (kF q)
theorem o_if_ne (G : OG l Z y bytes maxl ret n0 p e R s m args below meth c T h cells slots) {o : Int} {pcT : Nat} {u : Int32} (hd : decode bytes pc = .ok (.ifCond .ne o, 3)) (ho : 0 ≤ (pc : Int) + o) (hpT : ((pc : Int) + o).toNat = pcT) (hp : pc + 3 = pc') (kT : ¬ u = (0 : Int32) → OFin n0 p e below s Q ck sk T (mkF m pcT Ls rest)) (kF : u = (0 : Int32) → OFin n0 p e below s Q ck sk T (mkF m pc' Ls rest)) : OFin n0 p e below s Q ck sk T (mkF m pc Ls (.int u :: rest)) := by
  subst hp
  obtain ⟨hx, hby, -, -, -, -, -, -, -, -, locs, X, -⟩ := G
  by_cases q : ¬ u = (0 : Int32)
  · exact o_step (fun _ hr => XS.ifYes X.here hx rfl (pc0 := pc) (pc' := pcT) rfl (hb hby hd) rfl ((if0 _ _).trans (feq q).2) ho hpT hr) (kT q)
  · have q := Decidable.not_not.mp q
    exact o_step (fun _ hr => XS.ifNo X.here hx rfl (hb hby hd) rfl ((if0 _ _).trans (teq q).2) hr) (kF q)
theorem o_lcmp_ge (G : OG l Z y bytes maxl ret n0 p e R s m args below meth c T h cells slots) {o : Int} {pc1 pcT : Nat} {u w : Int64} (hd : decode bytes pc = .ok (.lcmp, 1)) (hp1 : pc + 1 = pc1) (hd2 : decode bytes pc1 = .ok (.ifCond .ge o, 3)) (ho : 0 ≤ (pc1 : Int) + o) (hpT : ((pc1 : Int) + o).toNat = pcT) (hp : pc1 + 3 = pc') (kT : ¬ u < w → OFin n0 p e below s Q ck sk T (mkF m pcT Ls rest)) (kF : u < w → OFin n0 p e below s Q ck sk T (mkF m pc' Ls rest)) : OFin n0 p e below s Q ck sk T (mkF m pc Ls (.long w :: .long u :: rest)) := by
  have G0 := G
  obtain ⟨hx, hby, -, -, -, -, -, -, -, -, locs, X, -⟩ := G
  subst hp1
  refine o_step (fun _ hr => XS.lcmp X.here hx rfl (hb hby hd) rfl hr) ?_
  show OFin n0 p e below s Q ck sk T (mkF m (pc + 1) Ls (.int (lcmpW u w) :: rest))
  refine o_if_ge G0 hd2 ho hpT hp (fun q => kT ?_) (fun q => kF ?_)
  · simpa only [lw_lt] using q
  · simpa only [lw_lt] using q
theorem o_lcmp_gt (G : OG l Z y bytes maxl ret n0 p e R s m args below meth c T h cells slots) {o : Int} {pc1 pcT : Nat} {u w : Int64} (hd : decode bytes pc = .ok (.lcmp, 1)) (hp1 : pc + 1 = pc1) (hd2 : decode bytes pc1 = .ok (.ifCond .gt o, 3)) (ho : 0 ≤ (pc1 : Int) + o) (hpT : ((pc1 : Int) + o).toNat = pcT) (hp : pc1 + 3 = pc') (kT : w < u → OFin n0 p e below s Q ck sk T (mkF m pcT Ls rest)) (kF : ¬ w < u → OFin n0 p e below s Q ck sk T (mkF m pc' Ls rest)) : OFin n0 p e below s Q ck sk T (mkF m pc Ls (.long w :: .long u :: rest)) := by
  have G0 := G
  obtain ⟨hx, hby, -, -, -, -, -, -, -, -, locs, X, -⟩ := G
  subst hp1
  refine o_step (fun _ hr => XS.lcmp X.here hx rfl (hb hby hd) rfl hr) ?_
  show OFin n0 p e below s Q ck sk T (mkF m (pc + 1) Ls (.int (lcmpW u w) :: rest))
  refine o_if_gt G0 hd2 ho hpT hp (fun q => kT ?_) (fun q => kF ?_)
  · simpa only [lw_gt] using q
  · simpa only [lw_gt] using q
theorem o_ldc2 (G : OG l Z y bytes maxl ret n0 p e R s m args below meth c T h cells slots) {index : Nat} {v : Int64} (hd : decode bytes pc = .ok (.ldc2_w index, 3)) (hp : pc + 3 = pc') (w : (Jvm.Cond.constantLong y.cls index v).before a0 Z = true) (k : OFin n0 p e below s Q ck sk T (mkF m pc' Ls (.long v :: rest))) : OFin n0 p e below s Q ck sk T (mkF m pc Ls rest) := by
  subst hp
  obtain ⟨hx, hby, -, hown, -, -, -, hZ, -, -, locs, X, -⟩ := G
  exact o_step (fun _ hr => X.ldc2Long hx hown (mvT hZ w) (g := (mkF m pc Ls rest)) rfl (hb hby hd) _ hr) k
theorem o_ldc (G : OG l Z y bytes maxl ret n0 p e R s m args below meth c T h cells slots) {index : Nat} {v : Int32} (hd : decode bytes pc = .ok (.ldc index, 2)) (hp : pc + 2 = pc') (w : (Jvm.Cond.constant y.cls index v).before a0 Z = true) (k : OFin n0 p e below s Q ck sk T (mkF m pc' Ls (.int v :: rest))) : OFin n0 p e below s Q ck sk T (mkF m pc Ls rest) := by
  subst hp
  obtain ⟨hx, hby, -, hown, -, -, -, hZ, -, -, locs, X, -⟩ := G
  exact o_step (fun _ hr => X.ldcInt hx hown (mvT hZ w) (g := (mkF m pc Ls rest)) rfl (hb hby hd) _ hr) k
theorem o_ireturn {v : Int32} (G : OG l Z y bytes maxl (some .int) n0 p e R s m args below meth c T h cells slots)  (hd : decode bytes pc = .ok (.ireturn, 1)) (hq : Q (some (.int v)) h) (hc : cells ≤ ck) (hs : slots ≤ sk) : OFin n0 p e below s Q ck sk T (mkF m pc Ls (.int v :: rest)) := by
  obtain ⟨hx, hby, -, -, -, hret, hlk, -, eT, hz, locs, X, N⟩ := G
  obtain ⟨fs, hr, hrun, hended, hW, hsame⟩ := X.leave (v := some (.int v)) (fun h => by rw [hret] at h; cases h) hlk
  refine ⟨_, _, retOut X hx hret rfl (Or.inl ⟨rfl, Or.inl rfl, _, rfl⟩) (hb hby hd) hr, hrun, hended, _, _, rfl, ⟨N, ?_, ?_⟩, ⟨_, rfl⟩, hW, hsame.mono hc hs⟩
  · show n0 ≤ T.heap.size
    rw [eT]; exact hz
  · show Q _ T.heap
    rw [eT]; exact hq
theorem o_nreturn {v : Int32} {t : FieldType} (G : OG l Z y bytes maxl (some t) n0 p e R s m args below meth c T h cells slots) (ht : t = .boolean ∨ t = .byte ∨ t = .char ∨ t = .short) (hd : decode bytes pc = .ok (.ireturn, 1)) (hq : Q (some (.int (nar t v))) h) (hc : cells ≤ ck) (hs : slots ≤ sk) : OFin n0 p e below s Q ck sk T (mkF m pc Ls (.int v :: rest)) := by
  obtain ⟨hx, hby, -, -, -, hret, hlk, -, eT, hz, locs, X, N⟩ := G
  obtain ⟨fs, hr, hrun, hended, hW, hsame⟩ := X.leave (v := some (.int (nar t v))) (fun h => by rw [hret] at h; cases h) hlk
  refine ⟨_, _, retN X hx hret ht (hb hby hd) hr, hrun, hended, _, _, rfl, ⟨N, ?_, ?_⟩, ⟨_, rfl⟩, hW, hsame.mono hc hs⟩
  · show n0 ≤ T.heap.size
    rw [eT]; exact hz
  · show Q _ T.heap
    rw [eT]; exact hq
theorem o_callS (G : OG l Z y bytes maxl ret n0 p e R s m args below meth c T h cells slots) {z : MethodName} {bz : ByteArray} {mz : Nat} {rz : Option FieldType} {rm : Room} {Q' : Option Value → Heap → Prop} {index W : Nat} {argsL st : List Value} (w1 : (Jvm.Cond.methodLink y.cls index z).before a0 Z = true) (w2 : (Jvm.Cond.static z).before a0 Z = true) (hd : decode bytes pc = .ok (.invokestatic index, 3))
    (hy : z.cls ≠ "java/lang/invoke/MethodHandle" ∧ z.cls ≠ "java/lang/invoke/VarHandle") (w3 : (Jvm.Cond.initialized z.cls).before a0 Z = true) (w4 : (Jvm.Cond.code z bz mz rz).before a0 Z = true)
    (hM : OMet l Z z bz mz rz rm argsL.toArray h n0 rm.cells rm.slots Q') (hfr : rm.frames + 1 ≤ R.frames) (hlo : W + (mz + 11) + rm.locals ≤ R.locals) (hsz : Ls.size = maxl)
    (hlen : ∀ sig, parseMethodDescriptor z.desc = some sig → argsL.length = sig.parameters.length) (hst : st = argsL.reverse ++ rest) (hW : (rest.map fun v => v.category).sum ≤ W) (hp : pc + 3 = pc') (hc : cells + rm.cells ≤ R.cells) (hs : slots + rm.slots ≤ R.slots)
    (k : ∀ (v : Option Value) (T' : State) (h' : Heap), OG l Z y bytes maxl ret n0 p e R s m args below meth c T' h' (cells + rm.cells) (slots + rm.slots) → Q' v h' → OFin n0 p e below s Q ck sk T' (mkF m pc' Ls (v.toList ++ rest))) : OFin n0 p e below s Q ck sk T (mkF m pc Ls st) := by
  subst hp hst
  obtain ⟨hx, hby, hml, hown, hnm, hret, hlk, hZ, eT, hz, locs, X, N⟩ := G
  obtain ⟨v, vm1, ⟨T', L', k', n'⟩, -, X', ⟨L, ⟨N', z', hQ⟩, l1, y1, z1⟩, st0⟩ := Jvm.LawKit.callS X hx (y := z) hown (mvT hZ w1) (mvT hZ w2) (mvT hZ w3) (mvT hZ w4) hy (backOf (W := W) (Q := fun v h L => Fr n0 L ∧ n0 ≤ h.size ∧ Q' v h) (hM []) hZ w4 w3 hfr hlo) (g := (mkF m pc Ls (argsL.reverse ++ rest))) rfl (by show Ls.size = _; rw [hml]; exact hsz) (argsL := argsL) (rest := rest) hlen rfl (by show 2 * 0 + _ ≤ _; omega) (hb hby hd) (fun _ _ => ⟨rfl, eT, hc, hs⟩)
  dsimp only [Pt.U, Pt.locs, Pt.cells, Pt.slots] at X' l1 y1 z1 st0 hQ N' z'
  subst l1 y1 z1
  exact o_step st0 (k v T' T'.heap ⟨hx, hby, hml, hown, hnm, hret, hlk, hZ, rfl, z', _, X', Fr.app N N'⟩ hQ)
/-- an array of n places at a; place j holds f j -/
def OArr (Z : State) (h : Heap) (a : Addr) (ty : FieldType) (n : Nat) (f : Nat → Value) : Prop := ∃ cl : Cell, Arr Z h a cl ty ∧ cl.slots.size = n ∧ ∀ j, j < n → cl.slots[j]? = some (f j)
theorem OArr.lt {a : Addr} {ty : FieldType} {n : Nat} {f : Nat → Value} (A : OArr Z h a ty n f) : a < h.size := by obtain ⟨cl, A, -⟩ := A; exact A.lt
/-- a contract that leaves the heap as it was and returns one value -/
abbrev OVal (h0 : Heap) (r : Value) : Option Value → Heap → Prop := fun v h => v = some r ∧ h0 = h
theorem o_callP (G : OG l Z y bytes maxl ret n0 p e R s m args below meth c T h cells slots) {z : MethodName} {bz : ByteArray} {mz : Nat} {rz : Option FieldType} {rm : Room} {r : Value} {index W : Nat} {argsL st : List Value} (w1 : (Jvm.Cond.methodLink y.cls index z).before a0 Z = true) (w2 : (Jvm.Cond.static z).before a0 Z = true) (hd : decode bytes pc = .ok (.invokestatic index, 3))
    (hy : z.cls ≠ "java/lang/invoke/MethodHandle" ∧ z.cls ≠ "java/lang/invoke/VarHandle") (w3 : (Jvm.Cond.initialized z.cls).before a0 Z = true) (w4 : (Jvm.Cond.code z bz mz rz).before a0 Z = true)
    (hM : OMet l Z z bz mz rz rm argsL.toArray h n0 rm.cells rm.slots (OVal h r)) (hfr : rm.frames + 1 ≤ R.frames) (hlo : W + (mz + 11) + rm.locals ≤ R.locals) (hsz : Ls.size = maxl)
    (hlen : ∀ sig, parseMethodDescriptor z.desc = some sig → argsL.length = sig.parameters.length) (hst : st = argsL.reverse ++ rest) (hW : (rest.map fun v => v.category).sum ≤ W) (hp : pc + 3 = pc') (hc : cells + rm.cells ≤ R.cells) (hs : slots + rm.slots ≤ R.slots)
    (k : ∀ (T' : State), OG l Z y bytes maxl ret n0 p e R s m args below meth c T' h (cells + rm.cells) (slots + rm.slots) → OFin n0 p e below s Q ck sk T' (mkF m pc' Ls (r :: rest))) : OFin n0 p e below s Q ck sk T (mkF m pc Ls st) := by
  refine o_callS G w1 w2 hd hy w3 w4 hM hfr hlo hsz hlen hst hW hp hc hs ?_
  rintro v T' h' G' ⟨hv, hh⟩
  subst hv hh
  exact k T' G'
end OwnKit
theorem pd_0 : parseMethodDescriptor "(II)I" = some ⟨[.int, .int], some .int⟩ := by decide +kernel
theorem pd_1 : parseMethodDescriptor "(I)I" = some ⟨[.int], some .int⟩ := by decide +kernel
theorem d1_0 : decode jdk_29_method_65_code 0 = .ok (.iload_n 0, 1) := by decide +kernel
theorem d1_1 : decode jdk_29_method_65_code 1 = .ok (.iload_n 1, 1) := by decide +kernel
theorem d1_2 : decode jdk_29_method_65_code 2 = .ok (.if_icmp .lt 7, 3) := by decide +kernel
theorem d1_5 : decode jdk_29_method_65_code 5 = .ok (.iload_n 0, 1) := by decide +kernel
theorem d1_6 : decode jdk_29_method_65_code 6 = .ok (.goto 4, 3) := by decide +kernel
theorem d1_9 : decode jdk_29_method_65_code 9 = .ok (.iload_n 1, 1) := by decide +kernel
theorem d1_10 : decode jdk_29_method_65_code 10 = .ok (.ireturn, 1) := by decide +kernel
theorem ef_1 (m : MethodId) (p0 : Int32) (p1 : Int32) : entryFrame m #[(.int p0), (.int p1)] 2 = mkF m 0 #[.val (.int p0), .val (.int p1)] [] := by first | rfl | (simp [entryFrame, mkF, argsToLocals, Value.category]; done)
def f_1 (p0 : Int32) (p1 : Int32) : Int32 := if p0 < p1 then p1 else p0
set_option maxRecDepth 65536 in
set_option maxHeartbeats 40000000 in
theorem rm1 {l : Launch} {Z : State} {a0 : Array Value} (hw : ∀ d ∈ tables_1, d.before a0 Z = true) (p0 : Int32) (p1 : Int32) (h0 : Heap) (n0 : Nat) (hz : n0 ≤ h0.size) :
    OMet l Z (⟨"java/lang/Math", "max", "(II)I"⟩ : MethodName) jdk_29_method_65_code 2 (some .int) ({ frames := 0, cells := 0, slots := 0, locals := 0 } : Room) #[(.int p0), (.int p1)] h0 n0 ({ frames := 0, cells := 0, slots := 0, locals := 0 } : Room).cells ({ frames := 0, cells := 0, slots := 0, locals := 0 } : Room).slots (OVal h0 (.int (f_1 p0 p1))) := by
  refine o_body (Jvm.Free.JP.mathPlain rfl (by decide +kernel)) hz (fun m => ef_1 m p0 p1) ?_
  intro p e s m below meth c s₁ G0
  refine o_iloadN G0 d1_0 (pc' := 1) rfl rfl ?_
  refine o_iloadN G0 d1_1 (pc' := 2) rfl rfl ?_
  refine o_icmp_lt G0 d1_2 (by decide) (pcT := 9) (by decide) (pc' := 5) rfl (fun hc2 => ?_) (fun hc2 => ?_)
  · refine o_iloadN G0 d1_9 (pc' := 10) rfl rfl ?_
    have hq : p1 = f_1 p0 p1 := by
      rw [f_1, if_pos hc2]
    exact o_ireturn G0 d1_10 ⟨congrArg (fun z => some (Value.int z)) hq, rfl⟩ (by decide) (by decide)
  · refine o_iloadN G0 d1_5 (pc' := 6) rfl rfl ?_
    refine o_goto G0 d1_6 (by decide) (pc' := 10) rfl ?_
    have hq : p0 = f_1 p0 p1 := by
      rw [f_1, if_neg hc2]
    exact o_ireturn G0 d1_10 ⟨congrArg (fun z => some (Value.int z)) hq, rfl⟩ (by decide) (by decide)
theorem d2_0 : decode prog_45_method_2_code 0 = .ok (.iconst 1, 1) := by decide +kernel
theorem d2_1 : decode prog_45_method_2_code 1 = .ok (.iload_n 0, 1) := by decide +kernel
theorem d2_2 : decode prog_45_method_2_code 2 = .ok (.bipush 57, 2) := by decide +kernel
theorem d2_4 : decode prog_45_method_2_code 4 = .ok (.iadd, 1) := by decide +kernel
theorem d2_5 : decode prog_45_method_2_code 5 = .ok (.iconst 1, 1) := by decide +kernel
theorem d2_6 : decode prog_45_method_2_code 6 = .ok (.isub, 1) := by decide +kernel
theorem d2_7 : decode prog_45_method_2_code 7 = .ok (.bipush 57, 2) := by decide +kernel
theorem d2_9 : decode prog_45_method_2_code 9 = .ok (.idiv, 1) := by decide +kernel
theorem d2_10 : decode prog_45_method_2_code 10 = .ok (.invokestatic 73, 3) := by decide +kernel
theorem d2_13 : decode prog_45_method_2_code 13 = .ok (.ireturn, 1) := by decide +kernel
theorem pn_2 : plainName "com/example/auth_token_server/authtokenserver/signing/Modulus" = true := by first | (simp [plainName, overriddenIn]; done) | decide +kernel
theorem ef_2 (m : MethodId) (p0 : Int32) : entryFrame m #[(.int p0)] 1 = mkF m 0 #[.val (.int p0)] [] := by first | rfl | (simp [entryFrame, mkF, argsToLocals, Value.category]; done)
def f_2 (p0 : Int32) : Int32 := (f_1 (1 : Int32) (((p0 + (57 : Int32)) - (1 : Int32)) / (57 : Int32)))
set_option maxRecDepth 65536 in
set_option maxHeartbeats 40000000 in
theorem rm2 {l : Launch} {Z : State} {a0 : Array Value} (hw : ∀ d ∈ tables_1, d.before a0 Z = true) (p0 : Int32) (h0 : Heap) (n0 : Nat) (hz : n0 ≤ h0.size) :
    OMet l Z (⟨"com/example/auth_token_server/authtokenserver/signing/Modulus", "limbsOf", "(I)I"⟩ : MethodName) prog_45_method_2_code 1 (some .int) ({ frames := 1, cells := 0, slots := 0, locals := 13 } : Room) #[(.int p0)] h0 n0 ({ frames := 1, cells := 0, slots := 0, locals := 13 } : Room).cells ({ frames := 1, cells := 0, slots := 0, locals := 13 } : Room).slots (OVal h0 (.int (f_2 p0))) := by
  refine o_body (plainFor_of_name pn_2) hz (fun m => ef_2 m p0) ?_
  intro p e s m below meth c s₁ G0
  refine o_iconst G0 d2_0 (pc' := 1) rfl (v := (1 : Int32)) rfl ?_
  refine o_iloadN G0 d2_1 (pc' := 2) rfl rfl ?_
  refine o_bipush G0 d2_2 (pc' := 4) rfl (v := (57 : Int32)) rfl ?_
  obtain ⟨v1, e1⟩ : ∃ z, p0 + (57 : Int32) = z := ⟨_, rfl⟩
  refine o_iadd G0 d2_4 (pc' := 5) rfl e1 ?_
  refine o_iconst G0 d2_5 (pc' := 6) rfl (v := (1 : Int32)) rfl ?_
  obtain ⟨v2, e2⟩ : ∃ z, v1 - (1 : Int32) = z := ⟨_, rfl⟩
  refine o_isub G0 d2_6 (pc' := 7) rfl e2 ?_
  refine o_bipush G0 d2_7 (pc' := 9) rfl (v := (57 : Int32)) rfl ?_
  obtain ⟨v3, e3⟩ : ∃ z, v2 / (57 : Int32) = z := ⟨_, rfl⟩
  refine o_idiv G0 d2_9 (pc' := 10) rfl (by decide) e3 ?_
  obtain ⟨v4, e4⟩ : ∃ z, f_1 (1 : Int32) v3 = z := ⟨_, rfl⟩
  refine o_callP G0 (z := (⟨"java/lang/Math", "max", "(II)I"⟩ : MethodName)) (r := (.int v4)) (argsL := [(.int (1 : Int32)), (.int v3)]) (rest := []) (W := 0) (hw _ (List.mem_of_getElem? (i := 10) rfl)) (hw _ (List.mem_of_getElem? (i := 3) rfl)) d2_10 (by decide) (hw _ (List.mem_of_getElem? (i := 4) rfl)) (hw _ (List.mem_of_getElem? (i := 5) rfl)) (by rw [← e4]; exact rm1 hw (1 : Int32) v3 h0 n0 G0.sz) (by decide) (by decide) rfl (lenOf pd_0 rfl) rfl (Nat.le_of_eq rfl) (pc' := 13) rfl (by decide) (by decide) ?_
  intro T5 G5
  have hq : v4 = f_2 p0 := by
    subst e1 e2 e3 e4
    rw [f_2]
  exact o_ireturn G5 d2_13 ⟨congrArg (fun z => some (Value.int z)) hq, rfl⟩ (by decide) (by decide)
theorem pn_0 : plainName "com/example/auth_token_server/authtokenserver/signing/ModulusLimbsOfPinLaw" = true := by first | (simp [plainName, overriddenIn]; done) | decide +kernel
theorem ef_0 (m : MethodId) (p0 : Int32) (p1 : Int32) : entryFrame m #[(.int p0), (.int p1)] maxLocals = mkF m 0 #[.val (.int p0), .val (.int p1), .unset, .unset, .unset, .unset, .unset] [] := by first | rfl | (simp [entryFrame, mkF, argsToLocals, Value.category, maxLocals]; done)
def f_0 (p0 : Int32) (p1 : Int32) : Int32 := if (if (p1 &&& (3 : Int32)) = (0 : Int32) then ((p0 &&& (2147483647 : Int32)) % (2147483592 : Int32)) else (f_1 (0 : Int32) (((57 : Int32) * ((p0 &&& (2147483647 : Int32)) % (37674852 : Int32))) + ((p1 &&& (3 : Int32)) - (2 : Int32))))) = (0 : Int32) then (if (f_2 (if (p1 &&& (3 : Int32)) = (0 : Int32) then ((p0 &&& (2147483647 : Int32)) % (2147483592 : Int32)) else (f_1 (0 : Int32) (((57 : Int32) * ((p0 &&& (2147483647 : Int32)) % (37674852 : Int32))) + ((p1 &&& (3 : Int32)) - (2 : Int32)))))) = (1 : Int32) then (1 : Int32) else (0 : Int32)) else (if (f_2 (if (p1 &&& (3 : Int32)) = (0 : Int32) then ((p0 &&& (2147483647 : Int32)) % (2147483592 : Int32)) else (f_1 (0 : Int32) (((57 : Int32) * ((p0 &&& (2147483647 : Int32)) % (37674852 : Int32))) + ((p1 &&& (3 : Int32)) - (2 : Int32)))))) < (1 : Int32) then (0 : Int32) else (if ((57 : Int64) * (((f_2 (if (p1 &&& (3 : Int32)) = (0 : Int32) then ((p0 &&& (2147483647 : Int32)) % (2147483592 : Int32)) else (f_1 (0 : Int32) (((57 : Int32) * ((p0 &&& (2147483647 : Int32)) % (37674852 : Int32))) + ((p1 &&& (3 : Int32)) - (2 : Int32)))))) - (1 : Int32)).toInt64)) < ((if (p1 &&& (3 : Int32)) = (0 : Int32) then ((p0 &&& (2147483647 : Int32)) % (2147483592 : Int32)) else (f_1 (0 : Int32) (((57 : Int32) * ((p0 &&& (2147483647 : Int32)) % (37674852 : Int32))) + ((p1 &&& (3 : Int32)) - (2 : Int32))))).toInt64) then (if ((57 : Int64) * ((f_2 (if (p1 &&& (3 : Int32)) = (0 : Int32) then ((p0 &&& (2147483647 : Int32)) % (2147483592 : Int32)) else (f_1 (0 : Int32) (((57 : Int32) * ((p0 &&& (2147483647 : Int32)) % (37674852 : Int32))) + ((p1 &&& (3 : Int32)) - (2 : Int32)))))).toInt64)) < ((if (p1 &&& (3 : Int32)) = (0 : Int32) then ((p0 &&& (2147483647 : Int32)) % (2147483592 : Int32)) else (f_1 (0 : Int32) (((57 : Int32) * ((p0 &&& (2147483647 : Int32)) % (37674852 : Int32))) + ((p1 &&& (3 : Int32)) - (2 : Int32))))).toInt64) then (0 : Int32) else (1 : Int32)) else (0 : Int32)))
set_option maxRecDepth 65536 in
set_option maxHeartbeats 40000000 in
theorem rm0 {l : Launch} {Z : State} {a0 : Array Value} (hw : ∀ d ∈ tables_1, d.before a0 Z = true) (p0 : Int32) (p1 : Int32) (h0 : Heap) (n0 : Nat) (hz : n0 ≤ h0.size) :
    OMet l Z x code maxLocals ret room_1 #[(.int p0), (.int p1)] h0 n0 0 0 (OVal h0 (.int (f_0 p0 p1))) := by
  refine o_body (plainFor_of_name pn_0) hz (fun m => ef_0 m p0 p1) ?_
  intro p e s m below meth c s₁ G0
  refine o_iloadN G0 at_0 (pc' := 1) rfl rfl ?_
  refine o_iconst G0 at_1 (pc' := 2) rfl (v := (3 : Int32)) rfl ?_
  obtain ⟨v1, e1⟩ : ∃ z, p1 &&& (3 : Int32) = z := ⟨_, rfl⟩
  refine o_iand G0 at_2 (pc' := 3) rfl e1 ?_
  refine o_istoreN G0 at_3 (pc' := 4) rfl (l' := #[.val (.int p0), .val (.int p1), .val (.int v1), .unset, .unset, .unset, .unset]) rfl ?_
  refine o_iloadN G0 at_4 (pc' := 5) rfl rfl ?_
  obtain ⟨v2, e2⟩ : ∃ z, (if v1 = (0 : Int32) then ((p0 &&& (2147483647 : Int32)) % (2147483592 : Int32)) else (f_1 (0 : Int32) (((57 : Int32) * ((p0 &&& (2147483647 : Int32)) % (37674852 : Int32))) + (v1 - (2 : Int32))))) = z := ⟨_, rfl⟩
  have K3 : ∀ T', OG l Z x code maxLocals ret n0 p e room_1 s m #[(.int p0), (.int p1)] below meth c T' h0 0 0 → OFin n0 p e below s (OVal h0 (.int (f_0 p0 p1))) 0 0 T' (mkF m 38 #[.val (.int p0), .val (.int p1), .val (.int v1), .val (.int v2), .unset, .unset, .unset] []) := by
    intro T3 G3
    refine o_iloadN G3 at_38 (pc' := 39) rfl rfl ?_
    obtain ⟨v4, e4⟩ : ∃ z, f_2 v2 = z := ⟨_, rfl⟩
    refine o_callP G3 (z := (⟨"com/example/auth_token_server/authtokenserver/signing/Modulus", "limbsOf", "(I)I"⟩ : MethodName)) (r := (.int v4)) (argsL := [(.int v2)]) (rest := []) (W := 0) (hw _ (List.mem_of_getElem? (i := 6) rfl)) (hw _ (List.mem_of_getElem? (i := 7) rfl)) at_39 (by decide) (hw _ (List.mem_of_getElem? (i := 8) rfl)) (hw _ (List.mem_of_getElem? (i := 9) rfl)) (by rw [← e4]; exact rm2 hw v2 h0 n0 G3.sz) (by decide) (by decide) rfl (lenOf pd_1 rfl) rfl (Nat.le_of_eq rfl) (pc' := 42) rfl (by decide) (by decide) ?_
    intro T5 G5
    refine o_istore G5 at_42 (pc' := 44) rfl (l' := #[.val (.int p0), .val (.int p1), .val (.int v1), .val (.int v2), .val (.int v4), .unset, .unset]) rfl ?_
    refine o_iloadN G5 at_44 (pc' := 45) rfl rfl ?_
    refine o_if_ne G5 at_45 (by decide) (pcT := 60) (by decide) (pc' := 48) rfl (fun hc45 => ?_) (fun hc45 => ?_)
    · refine o_iloadN G5 at_60 (pc' := 61) rfl rfl ?_
      obtain ⟨v6, e6⟩ : ∃ z, v2.toInt64 = z := ⟨_, rfl⟩
      refine o_i2l G5 at_61 (pc' := 62) rfl e6 ?_
      refine o_lstore G5 at_62 (pc' := 64) rfl (l' := #[.val (.int p0), .val (.int p1), .val (.int v1), .val (.int v2), .val (.int v4), .val (.long v6), .second]) rfl ?_
      refine o_iload G5 at_64 (pc' := 66) rfl rfl ?_
      refine o_iconst G5 at_66 (pc' := 67) rfl (v := (1 : Int32)) rfl ?_
      refine o_icmp_lt G5 at_67 (by decide) (pcT := 102) (by decide) (pc' := 70) rfl (fun hc67 => ?_) (fun hc67 => ?_)
      · refine o_iconst G5 at_102 (pc' := 103) rfl (v := (0 : Int32)) rfl ?_
        have hq : (nar .boolean (0 : Int32)) = f_0 p0 p1 := by
          subst e1 e2 e4 e6
          rw [f_0, if_neg hc45, if_pos hc67]
          try rfl
        exact o_nreturn (t := .boolean) G5 (by simp) at_103 ⟨congrArg (fun z => some (Value.int z)) hq, rfl⟩ (by decide) (by decide)
      · refine o_ldc2 G5 at_70 (pc' := 73) rfl (hw _ (List.mem_of_getElem? (i := 11) rfl)) ?_
        refine o_iload G5 at_73 (pc' := 75) rfl rfl ?_
        refine o_iconst G5 at_75 (pc' := 76) rfl (v := (1 : Int32)) rfl ?_
        obtain ⟨v7, e7⟩ : ∃ z, v4 - (1 : Int32) = z := ⟨_, rfl⟩
        refine o_isub G5 at_76 (pc' := 77) rfl e7 ?_
        obtain ⟨v8, e8⟩ : ∃ z, v7.toInt64 = z := ⟨_, rfl⟩
        refine o_i2l G5 at_77 (pc' := 78) rfl e8 ?_
        obtain ⟨v9, e9⟩ : ∃ z, (57 : Int64) * v8 = z := ⟨_, rfl⟩
        refine o_lmul G5 at_78 (pc' := 79) rfl e9 ?_
        refine o_lload G5 at_79 (pc' := 81) rfl rfl ?_
        refine o_lcmp_ge G5 at_81 (pc1 := 82) rfl at_82 (by decide) (pcT := 102) (by decide) (pc' := 85) rfl (fun hc81 => ?_) (fun hc81 => ?_)
        · refine o_iconst G5 at_102 (pc' := 103) rfl (v := (0 : Int32)) rfl ?_
          have hq : (nar .boolean (0 : Int32)) = f_0 p0 p1 := by
            subst e1 e2 e4 e6 e7 e8 e9
            rw [f_0, if_neg hc45, if_neg hc67, if_neg hc81]
            try rfl
          exact o_nreturn (t := .boolean) G5 (by simp) at_103 ⟨congrArg (fun z => some (Value.int z)) hq, rfl⟩ (by decide) (by decide)
        · refine o_lload G5 at_85 (pc' := 87) rfl rfl ?_
          refine o_ldc2 G5 at_87 (pc' := 90) rfl (hw _ (List.mem_of_getElem? (i := 11) rfl)) ?_
          refine o_iload G5 at_90 (pc' := 92) rfl rfl ?_
          obtain ⟨v10, e10⟩ : ∃ z, v4.toInt64 = z := ⟨_, rfl⟩
          refine o_i2l G5 at_92 (pc' := 93) rfl e10 ?_
          obtain ⟨v11, e11⟩ : ∃ z, (57 : Int64) * v10 = z := ⟨_, rfl⟩
          refine o_lmul G5 at_93 (pc' := 94) rfl e11 ?_
          refine o_lcmp_gt G5 at_94 (pc1 := 95) rfl at_95 (by decide) (pcT := 102) (by decide) (pc' := 98) rfl (fun hc94 => ?_) (fun hc94 => ?_)
          · refine o_iconst G5 at_102 (pc' := 103) rfl (v := (0 : Int32)) rfl ?_
            have hq : (nar .boolean (0 : Int32)) = f_0 p0 p1 := by
              subst e1 e2 e4 e6 e7 e8 e9 e10 e11
              rw [f_0, if_neg hc45, if_neg hc67, if_pos hc81, if_pos hc94]
              try rfl
            exact o_nreturn (t := .boolean) G5 (by simp) at_103 ⟨congrArg (fun z => some (Value.int z)) hq, rfl⟩ (by decide) (by decide)
          · refine o_iconst G5 at_98 (pc' := 99) rfl (v := (1 : Int32)) rfl ?_
            refine o_goto G5 at_99 (by decide) (pc' := 103) rfl ?_
            have hq : (nar .boolean (1 : Int32)) = f_0 p0 p1 := by
              subst e1 e2 e4 e6 e7 e8 e9 e10 e11
              rw [f_0, if_neg hc45, if_neg hc67, if_pos hc81, if_neg hc94]
              try rfl
            exact o_nreturn (t := .boolean) G5 (by simp) at_103 ⟨congrArg (fun z => some (Value.int z)) hq, rfl⟩ (by decide) (by decide)
    · refine o_iload G5 at_48 (pc' := 50) rfl rfl ?_
      refine o_iconst G5 at_50 (pc' := 51) rfl (v := (1 : Int32)) rfl ?_
      refine o_icmp_ne G5 at_51 (by decide) (pcT := 58) (by decide) (pc' := 54) rfl (fun hc51 => ?_) (fun hc51 => ?_)
      · refine o_iconst G5 at_58 (pc' := 59) rfl (v := (0 : Int32)) rfl ?_
        have hq : (nar .boolean (0 : Int32)) = f_0 p0 p1 := by
          subst e1 e2 e4
          rw [f_0, if_pos hc45, if_neg hc51]
          try rfl
        exact o_nreturn (t := .boolean) G5 (by simp) at_59 ⟨congrArg (fun z => some (Value.int z)) hq, rfl⟩ (by decide) (by decide)
      · refine o_iconst G5 at_54 (pc' := 55) rfl (v := (1 : Int32)) rfl ?_
        refine o_goto G5 at_55 (by decide) (pc' := 59) rfl ?_
        have hq : (nar .boolean (1 : Int32)) = f_0 p0 p1 := by
          subst e1 e2 e4
          rw [f_0, if_pos hc45, if_pos hc51]
          try rfl
        exact o_nreturn (t := .boolean) G5 (by simp) at_59 ⟨congrArg (fun z => some (Value.int z)) hq, rfl⟩ (by decide) (by decide)
  refine o_if_ne G0 at_5 (by decide) (pcT := 19) (by decide) (pc' := 8) rfl (fun hc5 => ?_) (fun hc5 => ?_)
  · refine o_iconst G0 at_19 (pc' := 20) rfl (v := (0 : Int32)) rfl ?_
    refine o_bipush G0 at_20 (pc' := 22) rfl (v := (57 : Int32)) rfl ?_
    refine o_iloadN G0 at_22 (pc' := 23) rfl rfl ?_
    refine o_ldc G0 at_23 (pc' := 25) rfl (hw _ (List.mem_of_getElem? (i := 0) rfl)) ?_
    obtain ⟨v12, e12⟩ : ∃ z, p0 &&& (2147483647 : Int32) = z := ⟨_, rfl⟩
    refine o_iand G0 at_25 (pc' := 26) rfl e12 ?_
    refine o_ldc G0 at_26 (pc' := 28) rfl (hw _ (List.mem_of_getElem? (i := 1) rfl)) ?_
    obtain ⟨v13, e13⟩ : ∃ z, v12 % (37674852 : Int32) = z := ⟨_, rfl⟩
    refine o_irem G0 at_28 (pc' := 29) rfl (by decide) e13 ?_
    obtain ⟨v14, e14⟩ : ∃ z, (57 : Int32) * v13 = z := ⟨_, rfl⟩
    refine o_imul G0 at_29 (pc' := 30) rfl e14 ?_
    refine o_iloadN G0 at_30 (pc' := 31) rfl rfl ?_
    refine o_iconst G0 at_31 (pc' := 32) rfl (v := (2 : Int32)) rfl ?_
    obtain ⟨v15, e15⟩ : ∃ z, v1 - (2 : Int32) = z := ⟨_, rfl⟩
    refine o_isub G0 at_32 (pc' := 33) rfl e15 ?_
    obtain ⟨v16, e16⟩ : ∃ z, v14 + v15 = z := ⟨_, rfl⟩
    refine o_iadd G0 at_33 (pc' := 34) rfl e16 ?_
    obtain ⟨v17, e17⟩ : ∃ z, f_1 (0 : Int32) v16 = z := ⟨_, rfl⟩
    refine o_callP G0 (z := (⟨"java/lang/Math", "max", "(II)I"⟩ : MethodName)) (r := (.int v17)) (argsL := [(.int (0 : Int32)), (.int v16)]) (rest := []) (W := 0) (hw _ (List.mem_of_getElem? (i := 2) rfl)) (hw _ (List.mem_of_getElem? (i := 3) rfl)) at_34 (by decide) (hw _ (List.mem_of_getElem? (i := 4) rfl)) (hw _ (List.mem_of_getElem? (i := 5) rfl)) (by rw [← e17]; exact rm1 hw (0 : Int32) v16 h0 n0 G0.sz) (by decide) (by decide) rfl (lenOf pd_0 rfl) rfl (Nat.le_of_eq rfl) (pc' := 37) rfl (by decide) (by decide) ?_
    intro T18 G18
    refine o_istoreN G18 at_37 (pc' := 38) rfl (l' := #[.val (.int p0), .val (.int p1), .val (.int v1), .val (.int v17), .unset, .unset, .unset]) rfl ?_
    subst e12 e13 e14 e15 e16 e17
    rw [if_neg hc5] at e2
    subst e2
    exact K3 _ G18
  · refine o_iloadN G0 at_8 (pc' := 9) rfl rfl ?_
    refine o_ldc G0 at_9 (pc' := 11) rfl (hw _ (List.mem_of_getElem? (i := 0) rfl)) ?_
    obtain ⟨v19, e19⟩ : ∃ z, p0 &&& (2147483647 : Int32) = z := ⟨_, rfl⟩
    refine o_iand G0 at_11 (pc' := 12) rfl e19 ?_
    refine o_ldc G0 at_12 (pc' := 14) rfl (hw _ (List.mem_of_getElem? (i := 12) rfl)) ?_
    obtain ⟨v20, e20⟩ : ∃ z, v19 % (2147483592 : Int32) = z := ⟨_, rfl⟩
    refine o_irem G0 at_14 (pc' := 15) rfl (by decide) e20 ?_
    refine o_istoreN G0 at_15 (pc' := 16) rfl (l' := #[.val (.int p0), .val (.int p1), .val (.int v1), .val (.int v20), .unset, .unset, .unset]) rfl ?_
    refine o_goto G0 at_16 (by decide) (pc' := 38) rfl ?_
    subst e19 e20
    rw [if_pos hc5] at e2
    subst e2
    exact K3 _ G0
theorem own_add32 (a b : Int32) (h1 : -2147483648 ≤ a.toInt + b.toInt) (h2 : a.toInt + b.toInt < 2147483648) : (a + b).toInt = a.toInt + b.toInt := by
  rw [Int32.toInt_add, Int.bmod_def]
  split <;> omega
theorem own_sub32 (a b : Int32) (h1 : -2147483648 ≤ a.toInt - b.toInt) (h2 : a.toInt - b.toInt < 2147483648) : (a - b).toInt = a.toInt - b.toInt := by
  rw [Int32.toInt_sub, Int.bmod_def]
  split <;> omega
theorem own_mul32 (a b : Int32) (h1 : -2147483648 ≤ a.toInt * b.toInt) (h2 : a.toInt * b.toInt < 2147483648) : (a * b).toInt = a.toInt * b.toInt := by
  rw [Int32.toInt_mul, Int.bmod_def]
  generalize a.toInt * b.toInt = z at *
  split <;> omega
theorem own_mul64 (a b : Int64) (h1 : -9223372036854775808 ≤ a.toInt * b.toInt) (h2 : a.toInt * b.toInt < 9223372036854775808) : (a * b).toInt = a.toInt * b.toInt := by
  rw [Int64.toInt_mul, Int.bmod_def]
  generalize a.toInt * b.toInt = z at *
  split <;> omega
theorem own_max (a b : Int32) : (f_1 a b).toInt = if a.toInt < b.toInt then b.toInt else a.toInt := by
  rw [f_1]
  by_cases h : a < b
  · rw [if_pos h, if_pos (Int32.lt_iff_toInt_lt.mp h)]
  · rw [if_neg h, if_neg (fun q => h (Int32.lt_iff_toInt_lt.mpr q))]
theorem own_and (x m : Int32) (hm : 0 ≤ m.toInt) : 0 ≤ (x &&& m).toInt ∧ (x &&& m).toInt ≤ m.toInt := by
  have h1 : (x &&& m).toBitVec.toNat ≤ m.toBitVec.toNat := by
    rw [Int32.toBitVec_and, BitVec.toNat_and]; exact Nat.and_le_right
  have e1 : m.toInt = m.toBitVec.toInt := rfl
  have e2 : (x &&& m).toInt = (x &&& m).toBitVec.toInt := rfl
  have l1 := m.toBitVec.isLt
  rw [e1] at hm ⊢
  rw [e2]
  generalize (x &&& m).toBitVec = a at *
  generalize m.toBitVec = b at *
  rw [BitVec.toInt_eq_toNat_cond] at hm ⊢
  rw [BitVec.toInt_eq_toNat_cond]
  split at hm
  · rw [if_pos (by omega)]; omega
  · omega
theorem own_rem (a b : Int32) (ha : 0 ≤ a.toInt) : (a % b).toInt = a.toInt % b.toInt := by
  rw [Int32.toInt_mod, Int.tmod_eq_emod_of_nonneg ha]
theorem own_key (b : Int32) (h0 : 0 ≤ b.toInt) (h1 : b.toInt ≤ 2147483591) : (f_2 b).toInt = if 1 < (b.toInt + 56) / 57 then (b.toInt + 56) / 57 else 1 := by
  have e1 : b + 57 - 1 = b + 56 := by
    rw [Int32.sub_eq_add_neg, Int32.add_assoc]; rfl
  have c57 : (57 : Int32).toInt = 57 := rfl
  have c56 : (56 : Int32).toInt = 56 := rfl
  have c1 : (1 : Int32).toInt = 1 := rfl
  rw [f_2, own_max, e1, c1, Int32.toInt_div_of_ne_right _ _ (by decide), own_add32 _ _ (by omega) (by omega), Int.tdiv_eq_ediv_of_nonneg (by omega), c57, c56]
theorem own_bits (p0 p1 : Int32) : 0 ≤ (if (p1 &&& (3 : Int32)) = (0 : Int32) then ((p0 &&& (2147483647 : Int32)) % (2147483592 : Int32)) else (f_1 (0 : Int32) (((57 : Int32) * ((p0 &&& (2147483647 : Int32)) % (37674852 : Int32))) + ((p1 &&& (3 : Int32)) - (2 : Int32))))).toInt ∧
    (if (p1 &&& (3 : Int32)) = (0 : Int32) then ((p0 &&& (2147483647 : Int32)) % (2147483592 : Int32)) else (f_1 (0 : Int32) (((57 : Int32) * ((p0 &&& (2147483647 : Int32)) % (37674852 : Int32))) + ((p1 &&& (3 : Int32)) - (2 : Int32))))).toInt ≤ 2147483591 := by
  have h := own_and p0 2147483647 (by decide)
  have h3 := own_and p1 3 (by decide)
  have k1 : (2147483592 : Int32).toInt = 2147483592 := rfl
  have k2 : (37674852 : Int32).toInt = 37674852 := rfl
  have k3 : (3 : Int32).toInt = 3 := rfl
  have k4 : (57 : Int32).toInt = 57 := rfl
  have k5 : (2 : Int32).toInt = 2 := rfl
  have k6 : (0 : Int32).toInt = 0 := rfl
  have r1 := own_rem (p0 &&& 2147483647) 2147483592 h.1
  have r2 := own_rem (p0 &&& 2147483647) 37674852 h.1
  split
  · rw [r1, k1]; omega
  · have m1 : ((57 : Int32) * ((p0 &&& (2147483647 : Int32)) % (37674852 : Int32))).toInt = 57 * ((p0 &&& (2147483647 : Int32)).toInt % 37674852) := by
      rw [own_mul32 _ _ (by rw [r2, k2, k4]; omega) (by rw [r2, k2, k4]; omega), r2, k2, k4]
    have m2 : ((p1 &&& (3 : Int32)) - (2 : Int32)).toInt = (p1 &&& (3 : Int32)).toInt - 2 := by
      rw [own_sub32 _ _ (by rw [k5]; omega) (by rw [k5]; omega), k5]
    have m3 := own_add32 ((57 : Int32) * ((p0 &&& (2147483647 : Int32)) % (37674852 : Int32))) ((p1 &&& (3 : Int32)) - (2 : Int32)) (by rw [m1, m2]; omega) (by rw [m1, m2]; omega)
    rw [own_max, m3, m1, m2, k6]
    split <;> omega
theorem own_law (p0 p1 : Int32) : f_0 p0 p1 = 1 := by
  rw [f_0]
  have h := own_bits p0 p1
  revert h
  generalize (if (p1 &&& (3 : Int32)) = (0 : Int32) then ((p0 &&& (2147483647 : Int32)) % (2147483592 : Int32)) else (f_1 (0 : Int32) (((57 : Int32) * ((p0 &&& (2147483647 : Int32)) % (37674852 : Int32))) + ((p1 &&& (3 : Int32)) - (2 : Int32))))) = b
  intro ⟨h0, h1⟩
  have hk := own_key b h0 h1
  have c1 : (1 : Int32).toInt = 1 := rfl
  have c57 : (57 : Int64).toInt = 57 := rfl
  by_cases q : b = 0
  · subst q
    rw [if_pos rfl, if_pos (by decide)]
  · have q' : b.toInt ≠ 0 := fun z => q (Int32.toInt_inj.mp z)
    have n1 : 1 ≤ (f_2 b).toInt := by rw [hk]; split <;> omega
    have n2 : (f_2 b).toInt ≤ 37675152 := by rw [hk]; split <;> omega
    have e1 : (f_2 b - 1).toInt = (f_2 b).toInt - 1 := by rw [own_sub32 _ _ (by rw [c1]; omega) (by rw [c1]; omega), c1]
    have e2 : ((57 : Int64) * (f_2 b - 1).toInt64).toInt = 57 * ((f_2 b).toInt - 1) := by
      rw [own_mul64 _ _ (by rw [Int32.toInt_toInt64, e1, c57]; omega) (by rw [Int32.toInt_toInt64, e1, c57]; omega), Int32.toInt_toInt64, e1, c57]
    have e3 : ((57 : Int64) * (f_2 b).toInt64).toInt = 57 * (f_2 b).toInt := by
      rw [own_mul64 _ _ (by rw [Int32.toInt_toInt64, c57]; omega) (by rw [Int32.toInt_toInt64, c57]; omega), Int32.toInt_toInt64, c57]
    rw [if_neg q, if_neg (by rw [Int32.lt_iff_toInt_lt, c1]; omega), if_pos (by rw [Int64.lt_iff_toInt_lt, e2, Int32.toInt_toInt64, hk]; split <;> omega), if_neg (by rw [Int64.lt_iff_toInt_lt, e3, Int32.toInt_toInt64, hk]; split <;> omega)]
set_option maxRecDepth 65536 in
set_option maxHeartbeats 40000000 in
theorem comes_1 {Post : Tables → Env → Array Value → State → Outcome → State → Prop} (hpost : ∀ tb e args s v u, (limb_1_1.after args s (.returned v) u = true ∧ limb_1_2.after args s (.returned v) u = true ∧ True) → FrameEnd s (.returned v) u (Jvm.fieldLocs frame_1_writes args s ++ Jvm.arrayLocs frame_1_arrays args s ++ Jvm.staticLocs frame_1_statics s) 0 0 → Post tb e args s (.returned v) u) :
    ArmFor flags0 classFile x code maxLocals ret World_1 tables_1 room_1 Calls_1 rest_1 Pre_1 Post := by
  intro l hfl _ _ p e ha hc hk s m args below hf hA hF happ hP
  obtain ⟨hcalls, hrest, hpre⟩ := hP
  obtain ⟨-, -, -, hnamed, -, -, -, hat⟩ := (Spec.applies_iff hf).mp happ
  obtain ⟨hg, hn⟩ := and_e (Cond.before_iff.mp (show (Jvm.Cond.and given_1 narrow_1).before args s = true from hpre))
  obtain ⟨g1, g2⟩ := and_e hg
  obtain ⟨g3, g4⟩ := and_e g2
  obtain ⟨w0, w1, rfl⟩ : ∃ w0 w1 : Value, args = #[w0, w1] := by
    have hs : args.size = 2 := by simpa [Cond.value, given_1] using g1
    obtain ⟨L⟩ := args
    match L, hs with
    | [w0, w1], _ => exact ⟨w0, w1, rfl⟩
  have hw := fun d (hd : d ∈ tables_1) => atoms_spec (ws := Jvm.Cond.code x code maxLocals ret :: tables_1) hat d (List.mem_cons_of_mem _ hd)
  obtain ⟨i0, ei0⟩ := is_v g3
  obtain rfl : w0 = (.int i0) := Option.some.inj ei0
  obtain ⟨i1, ei1⟩ := is_v g4
  obtain rfl : w1 = (.int i1) := Option.some.inj ei1
  obtain ⟨n, o, h1, h2, h3, _, L, rfl, ⟨N, _, hv⟩, hq⟩ := rm0 (l := l) (Z := s) hw i0 i1 s.heap s.heap.size (Nat.le_refl _)  tables_1 p e ha hc hk s m _ below hf ((Spec.applies_iff_loose hf).mp happ).1 ⟨rfl, State.Warmed39.refl s, rfl⟩ trivial
  obtain ⟨hv, -⟩ := hv
  rw [own_law] at hv
  subst hv
  refine ⟨n, _, h1, h2, h3, hpost _ _ _ _ _ _ ⟨Cond.after_iff.mpr rfl, Cond.after_iff.mpr (eq_i res_at (Term.int_eval (1)) rfl), trivial⟩ ⟨hq.1, hq.2.1, (hq.2.2.sift fun y hy => Or.inr (N y hy)).mono (by decide) (by decide)⟩⟩
theorem main_1_1 : Claimed_1_1 := comes_1 fun _ _ _ _ _ _ h hF => ⟨h.1, hF⟩
theorem main_1_2 : Claimed_1_2 := comes_1 fun _ _ _ _ _ _ h hF => ⟨h.2.1, hF⟩
end Jvm.Pilot.@@N@@
namespace Jvm.Pilot.@@N@@
open Jvm Jvm.ClassFile Sem Op Lib Jvm.Free Jvm.Stand Jvm.Pilot.@@N@@.Jvm.D
/-! MADE BY PROGRAM (witnessworld.py) out of the Statement's table words and the real class files: 10 classes; the members and pool entries that the words name. The judged class is class 1, her method 1. -/
namespace start1
open Jvm.ClassFile
def u (s : String) : CpInfo := .utf8 (stringToUtf16 s)
/-- a pool by its gaps: so many unusable entries, then the entry; so many at the end -/
def gap : Nat → List CpInfo → List CpInfo
  | 0, r => r
  | n + 1, r => .unusable :: gap n r
def poolList (es : List (Nat × CpInfo)) (last : Nat) : List CpInfo := es.foldr (fun e r => gap e.1 (e.2 :: r)) (gap last [])
def pool (es : List (Nat × CpInfo)) (last : Nat) : Array CpInfo := ⟨poolList es last⟩
def fileOf (pool : Array CpInfo) (this : Nat) (attrs : Array Attribute := #[]) (ms : Array MethodInfo := #[]) (fl : Nat := 33) (sup : Nat := 0) (ifs : Array Nat := #[]) (fds : Array FieldInfo := #[]) : ClassFile where
  minorVersion := 0
  majorVersion := 65
  constantPool := pool
  accessFlags := fl
  thisClass := this
  superClass := sup
  interfaces := ifs
  fields := fds
  methods := ms
  attributes := attrs
def plain (name : String) (sup : Option ClassId) : Class where
  name := name
  kind := .ordinary
  loader := none
  accessFlags := 33
  super := sup
  interfaces := #[]
  cf := none
  fields := #[]
  methods := #[]
  instanceTypes := #[]
  staticTypes := #[]
  resolved := #[]
  callSites := []
  init := .initialized
  statics := none
  mirror := none

def pool0 : Array CpInfo := pool [(5, u "<init>"), (0, u "()V"), (1, .class_ 10), (1, u "java/lang/Object")] 113

def k0m0 : Method := { name := "<init>", desc := "()V", sig := { parameters := [], returnType := none }, accessFlags := 1, code := none }
/-- java/lang/Object -/
def k0 : Class := { plain "java/lang/Object" none with
  accessFlags := 33
  interfaces := #[]
  cf := some (fileOf pool0 8 #[] #[{ accessFlags := 1, nameIndex := 5, descriptorIndex := 6, attributes := #[] }] 33 0 #[] #[])
  fields := #[]
  methods := #[k0m0]
  instanceTypes := #[]
  staticTypes := #[]
  resolved := Array.replicate 124 none
  statics := none }

def pool1 : Array CpInfo := pool [(2, .class_ 4), (1, u "java/lang/Object"), (0, u "<init>"), (0, u "()V"), (0, .integer 2147483647), (0, .integer 2147483592), (0, .integer 37674852), (0, .methodref 11 12), (0, .class_ 13), (0, .nameAndType 14 15), (0, u "java/lang/Math"), (0, u "max"), (0, u "(II)I"), (0, .methodref 17 18), (0, .class_ 19), (0, .nameAndType 20 21), (0, u "com/example/auth_token_server/authtokenserver/signing/Modulus"), (0, u "limbsOf"), (0, u "(I)I"), (0, .long 57), (1, .class_ 25), (0, u "com/example/auth_token_server/authtokenserver/signing/ModulusLimbsOfPinLaw"), (2, u "law"), (0, u "(II)Z")] 3

def k1m0 : Method := { name := "<init>", desc := "()V", sig := { parameters := [], returnType := none }, accessFlags := 1, code := none }
def k1c1 : Code := { maxStack := 6, maxLocals := 7, code := code, exceptionTable := #[], attributes := #[] }
def k1m1 : Method := { name := "law", desc := "(II)Z", sig := { parameters := [.int, .int], returnType := some .boolean }, accessFlags := 9, code := some k1c1 }
/-- com/example/auth_token_server/authtokenserver/signing/ModulusLimbsOfPinLaw -/
def k1 : Class := { plain "com/example/auth_token_server/authtokenserver/signing/ModulusLimbsOfPinLaw" (some 0) with
  accessFlags := 49
  interfaces := #[]
  cf := some (fileOf pool1 24 #[] #[{ accessFlags := 1, nameIndex := 5, descriptorIndex := 6, attributes := #[] }, { accessFlags := 9, nameIndex := 28, descriptorIndex := 29, attributes := #[] }] 49 2 #[] #[])
  fields := #[]
  methods := #[k1m0, k1m1]
  instanceTypes := #[]
  staticTypes := #[]
  resolved := Array.replicate 33 none
  statics := none }

def pool2 : Array CpInfo := pool [(1, .class_ 2), (0, u "java/lang/Math"), (1, .class_ 6), (1, u "java/lang/Object"), (0, u "<init>"), (0, u "()V"), (89, .class_ 100), (1, u "java/lang/Math$RandomNumberGeneratorHolder"), (71, u "negativeZeroFloatBits"), (0, u "J"), (2, u "negativeZeroDoubleBits"), (21, u "max"), (46, u "$assertionsDisabled"), (0, u "Z"), (88, u "(II)I"), (2, u "twoToTheDoubleScaleDown"), (0, u "D"), (4, u "twoToTheDoubleScaleUp"), (9, u "E"), (3, u "PI"), (2, u "TAU"), (2, u "DEGREES_TO_RADIANS"), (0, u "RADIANS_TO_DEGREES")] 94

def k2m0 : Method := { name := "<init>", desc := "()V", sig := { parameters := [], returnType := none }, accessFlags := 2, code := none }
def k2c1 : Code := { maxStack := 2, maxLocals := 2, code := jdk_29_method_65_code, exceptionTable := #[], attributes := #[] }
def k2m1 : Method := { name := "max", desc := "(II)I", sig := { parameters := [.int, .int], returnType := some .int }, accessFlags := 9, code := some k2c1 }
/-- java/lang/Math -/
def k2 : Class := { plain "java/lang/Math" (some 0) with
  accessFlags := 49
  interfaces := #[]
  cf := some (fileOf pool2 1 #[.nestMembers #[98]] #[{ accessFlags := 2, nameIndex := 7, descriptorIndex := 8, attributes := #[] }, { accessFlags := 9, nameIndex := 198, descriptorIndex := 335, attributes := #[] }] 49 4 #[] #[{ accessFlags := 25, nameIndex := 354, descriptorIndex := 339, attributes := #[] }, { accessFlags := 25, nameIndex := 358, descriptorIndex := 339, attributes := #[] }, { accessFlags := 25, nameIndex := 361, descriptorIndex := 339, attributes := #[] }, { accessFlags := 26, nameIndex := 364, descriptorIndex := 339, attributes := #[] }, { accessFlags := 26, nameIndex := 365, descriptorIndex := 339, attributes := #[] }, { accessFlags := 26, nameIndex := 172, descriptorIndex := 173, attributes := #[] }, { accessFlags := 26, nameIndex := 176, descriptorIndex := 173, attributes := #[] }, { accessFlags := 8, nameIndex := 344, descriptorIndex := 339, attributes := #[] }, { accessFlags := 8, nameIndex := 338, descriptorIndex := 339, attributes := #[] }, { accessFlags := 4120, nameIndex := 245, descriptorIndex := 246, attributes := #[] }])
  fields := #[{ name := "E", type := .double, accessFlags := 25, slot := 0, constantValue := 0 }, { name := "PI", type := .double, accessFlags := 25, slot := 1, constantValue := 0 }, { name := "TAU", type := .double, accessFlags := 25, slot := 2, constantValue := 0 }, { name := "DEGREES_TO_RADIANS", type := .double, accessFlags := 26, slot := 3, constantValue := 0 }, { name := "RADIANS_TO_DEGREES", type := .double, accessFlags := 26, slot := 4, constantValue := 0 }, { name := "negativeZeroFloatBits", type := .long, accessFlags := 26, slot := 5, constantValue := 0 }, { name := "negativeZeroDoubleBits", type := .long, accessFlags := 26, slot := 6, constantValue := 0 }, { name := "twoToTheDoubleScaleUp", type := .double, accessFlags := 8, slot := 7, constantValue := 0 }, { name := "twoToTheDoubleScaleDown", type := .double, accessFlags := 8, slot := 8, constantValue := 0 }, { name := "$assertionsDisabled", type := .boolean, accessFlags := 4120, slot := 9, constantValue := 0 }]
  methods := #[k2m0, k2m1]
  instanceTypes := #[]
  staticTypes := #[.double, .double, .double, .double, .double, .long, .long, .double, .double, .boolean]
  resolved := Array.replicate 460 none
  statics := none }

def pool3 : Array CpInfo := pool [(1, .class_ 2), (0, u "com/example/auth_token_server/authtokenserver/signing/Modulus"), (3, .class_ 8), (1, u "java/lang/Object"), (21, u "limbsOf"), (0, u "(I)I"), (10, u "modulus"), (0, u "[J"), (6, u "inverse"), (0, u "J"), (17, u "rSquared"), (2, u "one"), (0, .methodref 74 75), (0, .class_ 76), (0, .nameAndType 77 78), (0, u "java/lang/Math"), (0, u "max"), (0, u "(II)I"), (3, u "chunkWeights"), (0, u "[[J"), (15, u "workspaces"), (0, u "Ljava/lang/ThreadLocal;"), (30, .class_ 132), (0, u "com/example/auth_token_server/authtokenserver/signing/Modulus$Workspace"), (63, u "LIMB_BITS"), (0, u "I"), (2, u "MOST_LIMBS"), (1, u "LIMB"), (0, u "HIGH_SHIFT"), (1, u "WINDOW"), (1, u "ODD_POWERS"), (1, u "SHORT_EXPONENT_BITS")] 58

def k3c0 : Code := { maxStack := 3, maxLocals := 1, code := prog_45_method_2_code, exceptionTable := #[], attributes := #[] }
def k3m0 : Method := { name := "limbsOf", desc := "(I)I", sig := { parameters := [.int], returnType := some .int }, accessFlags := 8, code := some k3c0 }
/-- com/example/auth_token_server/authtokenserver/signing/Modulus -/
def k3 : Class := { plain "com/example/auth_token_server/authtokenserver/signing/Modulus" (some 0) with
  accessFlags := 32
  interfaces := #[]
  cf := some (fileOf pool3 1 #[.nestMembers #[131]] #[{ accessFlags := 8, nameIndex := 30, descriptorIndex := 31, attributes := #[] }] 32 6 #[] #[{ accessFlags := 24, nameIndex := 196, descriptorIndex := 197, attributes := #[] }, { accessFlags := 24, nameIndex := 200, descriptorIndex := 197, attributes := #[] }, { accessFlags := 26, nameIndex := 202, descriptorIndex := 51, attributes := #[] }, { accessFlags := 26, nameIndex := 203, descriptorIndex := 197, attributes := #[] }, { accessFlags := 26, nameIndex := 205, descriptorIndex := 197, attributes := #[] }, { accessFlags := 26, nameIndex := 207, descriptorIndex := 197, attributes := #[] }, { accessFlags := 26, nameIndex := 209, descriptorIndex := 197, attributes := #[] }, { accessFlags := 18, nameIndex := 42, descriptorIndex := 43, attributes := #[] }, { accessFlags := 18, nameIndex := 50, descriptorIndex := 51, attributes := #[] }, { accessFlags := 18, nameIndex := 69, descriptorIndex := 43, attributes := #[] }, { accessFlags := 18, nameIndex := 72, descriptorIndex := 43, attributes := #[] }, { accessFlags := 18, nameIndex := 82, descriptorIndex := 83, attributes := #[] }, { accessFlags := 18, nameIndex := 99, descriptorIndex := 100, attributes := #[] }])
  fields := #[{ name := "LIMB_BITS", type := .int, accessFlags := 24, slot := 0, constantValue := 0 }, { name := "MOST_LIMBS", type := .int, accessFlags := 24, slot := 1, constantValue := 0 }, { name := "LIMB", type := .long, accessFlags := 26, slot := 2, constantValue := 0 }, { name := "HIGH_SHIFT", type := .int, accessFlags := 26, slot := 3, constantValue := 0 }, { name := "WINDOW", type := .int, accessFlags := 26, slot := 4, constantValue := 0 }, { name := "ODD_POWERS", type := .int, accessFlags := 26, slot := 5, constantValue := 0 }, { name := "SHORT_EXPONENT_BITS", type := .int, accessFlags := 26, slot := 6, constantValue := 0 }, { name := "modulus", type := (.array .long), accessFlags := 18, slot := 0, constantValue := 0 }, { name := "inverse", type := .long, accessFlags := 18, slot := 1, constantValue := 0 }, { name := "rSquared", type := (.array .long), accessFlags := 18, slot := 2, constantValue := 0 }, { name := "one", type := (.array .long), accessFlags := 18, slot := 3, constantValue := 0 }, { name := "chunkWeights", type := (.array (.array .long)), accessFlags := 18, slot := 4, constantValue := 0 }, { name := "workspaces", type := (.object "java/lang/ThreadLocal"), accessFlags := 18, slot := 5, constantValue := 0 }]
  methods := #[k3m0]
  instanceTypes := #[(.array .long), .long, (.array .long), (.array .long), (.array (.array .long)), (.object "java/lang/ThreadLocal")]
  staticTypes := #[.int, .int, .long, .int, .int, .int, .int]
  resolved := Array.replicate 268 none
  statics := none }

def pool4 : Array CpInfo := pool [(1, u "java/lang/Cloneable"), (0, .class_ 1), (0, u "java/lang/Object"), (0, .class_ 3)] 3

/-- java/lang/Cloneable -/
def k4 : Class := { plain "java/lang/Cloneable" (some 0) with
  accessFlags := 1537
  interfaces := #[]
  cf := some (fileOf pool4 2 #[] #[] 1537 4 #[] #[])
  fields := #[]
  methods := #[]
  instanceTypes := #[]
  staticTypes := #[]
  resolved := Array.replicate 8 none
  statics := none }

def pool5 : Array CpInfo := pool [(1, u "java/io/Serializable"), (0, .class_ 1), (0, u "java/lang/Object"), (0, .class_ 3)] 3

/-- java/io/Serializable -/
def k5 : Class := { plain "java/io/Serializable" (some 0) with
  accessFlags := 1537
  interfaces := #[]
  cf := some (fileOf pool5 2 #[] #[] 1537 4 #[] #[])
  fields := #[]
  methods := #[]
  instanceTypes := #[]
  staticTypes := #[]
  resolved := Array.replicate 8 none
  statics := none }

/-- the primitive byte -/
def k6 : Class := { plain "byte" none with kind := .primitive 'B', accessFlags := 0x411 }
/-- [B -/
def k7 : Class := { plain "[B" (some 0) with kind := .array 6 .byte, interfaces := #[4, 5], accessFlags := 1041 }

/-- the primitive int -/
def k8 : Class := { plain "int" none with kind := .primitive 'I', accessFlags := 0x411 }
/-- [I -/
def k9 : Class := { plain "[I" (some 0) with kind := .array 8 .int, interfaces := #[4, 5], accessFlags := 1041 }

def heap : Heap := #[]
def classes : Array Class := #[k0, k1, k2, k3, k4, k5, k6, k7, k8, k9]
def interned : List (Array UInt16 × Addr) := []
def slotsUsed : Nat := 0
def theMethod : MethodId := ⟨1, 1⟩
def args0 : Array Value := #[.int 5, .int 5]
def aboutOver (below : List Frame) : State where
  vm := { classes := classes, interned := interned.toArray }
  heap := heap
  slotsUsed := slotsUsed
  threads := #[{ frames := .invoking theMethod args0 :: below }]
def below0 : List Frame := [.native { method := ⟨0, 0⟩, args := #[] }]
def about1 : State := aboutOver below0
def p0 : Program := .bare "" "" ""
def e0 : Env := launch0.env 0 0 0
theorem w_frames : about1.frames = Frame.invoking theMethod args0 :: below0 := rfl
set_option maxRecDepth 65536 in
theorem w_args : argsFit about1.vm theMethod args0 = true := by decide +kernel
set_option maxRecDepth 65536 in
theorem w_heap : heapFits about1 = true := by decide +kernel
set_option maxRecDepth 65536 in
theorem w_runnable : about1.curStatus? = some .runnable := by decide +kernel
set_option maxRecDepth 65536 in
theorem w_alone : about1.alone = true := by decide +kernel
set_option maxRecDepth 65536 in
theorem w_named : about1.methodNamed? x = some theMethod := by decide +kernel
set_option maxRecDepth 65536 in
theorem w_hears : about1.hears theMethod below0 = true := by decide +kernel
set_option maxRecDepth 65536 in
theorem w_ripe : about1.ripe theMethod args0 below0 = true := by decide +kernel
theorem w_running : about1.status = .running := rfl
set_option maxRecDepth 65536 in
theorem w_room : about1.hasRoom e0.platform room_1 = true :=
  launch0.hasRoom_least _ room_1 (by decide +kernel) (by decide +kernel) (by decide +kernel) (by decide +kernel) (by decide +kernel) (by decide +kernel)
theorem allAtoms_all (ts : List Jvm.Cond) (a : Array Jvm.Value) (st : Jvm.State) : (allAtoms ts).before a st = ts.all (fun c => c.before a st) := by
  induction ts with
  | nil => rfl
  | cons c t ih =>
    show (Jvm.Cond.and c (allAtoms t)).before a st = _
    rw [Jvm.Cond.before_and, ih, List.all_cons]
def words1 : List Jvm.Cond := Jvm.Cond.code x code maxLocals ret :: tables_1
/-- a 'code' word, met by the world's own term for the bytes: nothing is compared byte by byte -/
theorem code_word {y : MethodName} {bytes : ByteArray} {mx : Nat} {rt : Option FieldType} {a : Array Value} {s : State} {m : MethodId} {meth : Method} {c : Code} (h1 : s.methodNamed? y = some m) (h2 : s.vm.method? m = some meth) (h3 : meth.code = some c) (h4 : c.code = bytes)
    (h5 : (c.maxLocals == mx && c.exceptionTable.isEmpty && decide (c.maxStack ≤ mostOperands) && decide (meth.sig.returnType = rt) && !meth.locks && decide (parseMethodDescriptor y.desc = some meth.sig)) = true) : (Jvm.Cond.code y bytes mx rt).before a s = true := by
  simp only [Bool.and_eq_true, beq_iff_eq, Bool.not_eq_true', decide_eq_true_eq] at h5
  obtain ⟨⟨⟨⟨⟨g1, g2⟩, g3⟩, g4⟩, g5⟩, g6⟩ := h5
  simp [Cond.before, Cond.holds, Cond.value, h1, h2, h3, h4, g1, g2, g3, g4, g5, g6]
def isCode : Jvm.Cond → Bool
  | .code _ _ _ _ => true
  | _ => false
theorem all_split {L : List Jvm.Cond} {P : Jvm.Cond → Bool} (h1 : L.all (fun c => isCode c || P c) = true) (h2 : ∀ c ∈ L.filter isCode, P c = true) : L.all P = true := by
  refine List.all_eq_true.mpr fun c hc => ?_
  have h := List.all_eq_true.mp h1 c hc
  rcases Bool.eq_false_or_eq_true (isCode c) with hi | hi
  · exact h2 c (List.mem_filter.mpr ⟨hc, hi⟩)
  · simpa [hi] using h
set_option maxRecDepth 65536 in
theorem w_c0 : (Jvm.Cond.code x code maxLocals ret).before args0 about1 = true := code_word (m := ⟨1, 1⟩) (meth := k1m1) (c := k1c1) (by decide +kernel) rfl rfl rfl (by decide +kernel)
set_option maxRecDepth 65536 in
theorem w_c1 : (Jvm.Cond.code ({ cls := "java/lang/Math", name := "max", desc := "(II)I" } : Jvm.MethodName) jdk_29_method_65_code (2 : Nat) (Option.some Jvm.ClassFile.FieldType.int)).before args0 about1 = true := code_word (m := ⟨2, 1⟩) (meth := k2m1) (c := k2c1) (by decide +kernel) rfl rfl rfl (by decide +kernel)
set_option maxRecDepth 65536 in
theorem w_c2 : (Jvm.Cond.code ({ cls := "com/example/auth_token_server/authtokenserver/signing/Modulus", name := "limbsOf", desc := "(I)I" } : Jvm.MethodName) prog_45_method_2_code (1 : Nat) (Option.some Jvm.ClassFile.FieldType.int)).before args0 about1 = true := code_word (m := ⟨3, 0⟩) (meth := k3m0) (c := k3c0) (by decide +kernel) rfl rfl rfl (by decide +kernel)
def codes1 : List Jvm.Cond := [Jvm.Cond.code x code maxLocals ret, Jvm.Cond.code ({ cls := "java/lang/Math", name := "max", desc := "(II)I" } : Jvm.MethodName) jdk_29_method_65_code (2 : Nat) (Option.some Jvm.ClassFile.FieldType.int), Jvm.Cond.code ({ cls := "com/example/auth_token_server/authtokenserver/signing/Modulus", name := "limbsOf", desc := "(I)I" } : Jvm.MethodName) prog_45_method_2_code (1 : Nat) (Option.some Jvm.ClassFile.FieldType.int)]
set_option maxRecDepth 65536 in
theorem codes_eq : words1.filter isCode = codes1 := rfl
theorem w_codes : ∀ c ∈ words1.filter isCode, c.before args0 about1 = true := by
  rw [codes_eq]
  intro c hc
  simp only [codes1, List.mem_cons, List.not_mem_nil, or_false] at hc
  rcases hc with rfl | rfl | rfl
  · exact w_c0
  · exact w_c1
  · exact w_c2
set_option maxRecDepth 65536 in
theorem w_t1 : words1.all (fun c => isCode c || c.before args0 about1) = true := by decide +kernel
theorem w_tables : (allAtoms (Jvm.Cond.code x code maxLocals ret :: tables_1)).before args0 about1 = true := by
  rw [allAtoms_all]
  show words1.all (fun c => c.before args0 about1) = true
  refine all_split ?_ w_codes
  rw [w_t1]
set_option maxRecDepth 65536 in
theorem w_case : (Jvm.Cond.and given_1 narrow_1).before args0 about1 = true := by decide +kernel
theorem w_applies : (headSpec (Jvm.Cond.code x code maxLocals ret :: tables_1) room_1).applies x e0.platform about1 = true :=
  (Spec.applies_iff w_frames).mpr ⟨w_running, w_runnable, w_alone, w_named, w_hears, w_ripe, w_room, w_tables⟩
theorem atStart : AtStart classFile x code maxLocals ret World_1 tables_1 room_1 Calls_1 rest_1 Pre_1 launch0 p0 e0 about1 theMethod args0 below0 :=
  ⟨lists_1, trivial, launch0.admits_env _ _ _, launch0.least_env, fairChoices_fair.cas, fairChoices_fair.clock, w_frames, w_args, w_heap, w_applies, trivial, trivial, w_case⟩
end start1
theorem witness_1 : WitnessClaimed_1 := ⟨start1.p0, start1.e0, start1.about1, start1.theMethod, start1.args0, start1.below0, start1.atStart⟩
end Jvm.Pilot.@@N@@
