import JvmDerived
import JvmDerived.Pilot.@@N@@Statement
import JvmDerived.Pilot.@@N@@Code
set_option linter.unusedVariables false
set_option linter.unusedSimpArgs false
namespace Jvm.Pilot.@@N@@
open Jvm Jvm.ClassFile Sem Op Lib Jvm.Free Jvm.Stand Jvm.LawKit Jvm.RoadKit Bundle Jvm.Pilot.@@N@@.Jvm.D

section OwnKit
/-- from here the run comes to a return that says Q -/
def OFin (n0 : Nat) (p : Program) (e : Env) (below : List Frame) (s : State) (Q : Option Value → Heap → Prop) (ck sk : Nat) (T : State) (g : JFrame) : Prop :=
  ∃ s₂ o, Steps p.tables e below (T.setTop g) s₂ ∧ s₂.status = .running ∧ Ended s₂ below o ∧ ∃ v L, o = .returned v ∧ (Fr n0 L ∧ n0 ≤ s₂.heap.size ∧ Q v s₂.heap) ∧ FrameEnd s o s₂ L ck sk
/-- where the walk of a body stands, with all that is known of the body -/
def OG (l : Launch) (Z : State) (y : MethodName) (bytes : ByteArray) (maxl : Nat) (ret : Option FieldType) (n0 : Nat) (p : Program) (e : Env) (R : Room) (s : State) (m : MethodId) (args : Array Value) (below : List Frame) (meth : Method) (c : Code) (T : State) (h : Heap) (cells slots : Nat) : Prop :=
  p.tables.exec = Jvm.exec ∧ c.code = bytes ∧ c.maxLocals = maxl ∧ s.vm.findClass y.cls = some m.cls ∧ meth.name = y.name ∧ meth.sig.returnType = ret ∧ meth.locks = false ∧ Z.Warmed39 s.vm ∧ T.heap = h ∧ n0 ≤ h.size ∧ ∃ locs, Stand p l e R s m args below meth c T locs cells slots ∧ Fr n0 locs
/-- a body's contract -/
def OMet (l : Launch) (Z : State) (y : MethodName) (bytes : ByteArray) (maxl : Nat) (ret : Option FieldType) (rm : Room) (as' : Array Value) (h0 : Heap) (n0 : Nat) (ck sk : Nat) (Q : Option Value → Heap → Prop) : Prop :=
  ∀ ws : List Jvm.Cond, MetFree l y (head1 (Jvm.Cond.code y bytes maxl ret :: ws) rm) (fun a U => a = as' ∧ Z.Warmed39 U.vm ∧ U.heap = h0) (fun _ _ _ _ _ => True) (fun _ U o U' => ∃ v L, o = .returned v ∧ (Fr n0 L ∧ n0 ≤ U'.heap.size ∧ Q v U'.heap) ∧ FrameEnd U o U' L ck sk)
variable {l : Launch} {Z : State} {y : MethodName} {bytes : ByteArray} {maxl : Nat} {ret : Option FieldType} {n0 : Nat} {p : Program} {e : Env} {R : Room} {s : State} {m : MethodId} {args : Array Value} {below : List Frame} {meth : Method} {c : Code} {T : State} {h : Heap} {cells slots ck sk : Nat} {Q : Option Value → Heap → Prop} {pc pc' : Nat} {Ls : Array Slot} {rest : List Value} {a0 : Array Value}
theorem o_step {T' : State} {g g' : JFrame} (st : ∀ t, Steps p.tables e below (T'.setTop g') t → Steps p.tables e below (T.setTop g) t) (k : OFin n0 p e below s Q ck sk T' g') : OFin n0 p e below s Q ck sk T g := by
  obtain ⟨s₂, o, h1, r⟩ := k
  exact ⟨s₂, o, st _ h1, r⟩
theorem o_body {rm : Room} {as' : Array Value} {h0 : Heap} (hy : plainFor y = true) (hz : n0 ≤ h0.size) (hent : ∀ m, entryFrame m as' maxl = mkF m 0 Ls [])
    (body : ∀ (p : Program) (e : Env) (s : State) (m : MethodId) (below : List Frame) (meth : Method) (c : Code) (s₁ : State), OG l Z y bytes maxl ret n0 p e rm s m as' below meth c s₁ h0 0 0 → OFin n0 p e below s Q ck sk s₁ (mkF m 0 Ls [])) : OMet l Z y bytes maxl ret rm as' h0 n0 ck sk Q := by
  intro ws
  refine MetFree.of_bodySF hy hisR ?_
  intro p e s m args below meth c s₁ Bd hml0 hP hK
  obtain ⟨ha, hZ, hh⟩ := hP
  subst ha
  have e0 : s₁.heap = h0 := by rw [← hh, Bd.state]; rfl
  have k := body p e s m below meth c s₁ ⟨Bd.exec, Bd.bytes, hml0, findClass_of_methodNamed Bd.named, (name_of_methodNamed Bd.named Bd.method).1, Bd.returns, Bd.notSynchronized, hZ, e0, hz, [], Stand.of_body Bd, Fr.nil n0⟩
  rw [← hent m] at k
  exact k
theorem OG.sz (G : OG l Z y bytes maxl ret n0 p e R s m args below meth c T h cells slots) : n0 ≤ h.size := G.2.2.2.2.2.2.2.2.2.1
theorem OG.eh (G : OG l Z y bytes maxl ret n0 p e R s m args below meth c T h cells slots) : T.heap = h := G.2.2.2.2.2.2.2.2.1
theorem OG.wm (G : OG l Z y bytes maxl ret n0 p e R s m args below meth c T h cells slots) : Z.Warmed39 s.vm := G.2.2.2.2.2.2.2.1
theorem o_iloadN (G : OG l Z y bytes maxl ret n0 p e R s m args below meth c T h cells slots) {k0 : Fin 4} {v : Int32} (hd : decode bytes pc = .ok (.iload_n k0, 1)) (hp : pc + 1 = pc') (hl : Ls[k0.val]? = some (.val (.int v))) (k : OFin n0 p e below s Q ck sk T (mkF m pc' Ls (.int v :: rest))) : OFin n0 p e below s Q ck sk T (mkF m pc Ls rest) := by
  subst hp
  obtain ⟨hx, hby, -, -, -, -, -, -, -, -, locs, X, -⟩ := G
  exact o_step (fun _ hr => XS.iloadN X.here hx rfl (hb hby hd) hl hr) k
theorem o_iload (G : OG l Z y bytes maxl ret n0 p e R s m args below meth c T h cells slots) {k0 : Nat} {v : Int32} (hd : decode bytes pc = .ok (.iload k0, 2)) (hp : pc + 2 = pc') (hl : Ls[k0]? = some (.val (.int v))) (k : OFin n0 p e below s Q ck sk T (mkF m pc' Ls (.int v :: rest))) : OFin n0 p e below s Q ck sk T (mkF m pc Ls rest) := by
  subst hp
  obtain ⟨hx, hby, -, -, -, -, -, -, -, -, locs, X, -⟩ := G
  exact o_step (fun _ hr => XS.iload X.here hx rfl (hb hby hd) hl hr) k
theorem o_lloadN (G : OG l Z y bytes maxl ret n0 p e R s m args below meth c T h cells slots) {k0 : Fin 4} {v : Int64} (hd : decode bytes pc = .ok (.lload_n k0, 1)) (hp : pc + 1 = pc') (hl : Ls[k0.val]? = some (.val (.long v))) (k : OFin n0 p e below s Q ck sk T (mkF m pc' Ls (.long v :: rest))) : OFin n0 p e below s Q ck sk T (mkF m pc Ls rest) := by
  subst hp
  obtain ⟨hx, hby, -, -, -, -, -, -, -, -, locs, X, -⟩ := G
  exact o_step (fun _ hr => XS.lloadN X.here hx rfl (hb hby hd) hl hr) k
theorem o_lload (G : OG l Z y bytes maxl ret n0 p e R s m args below meth c T h cells slots) {k0 : Nat} {v : Int64} (hd : decode bytes pc = .ok (.lload k0, 2)) (hp : pc + 2 = pc') (hl : Ls[k0]? = some (.val (.long v))) (k : OFin n0 p e below s Q ck sk T (mkF m pc' Ls (.long v :: rest))) : OFin n0 p e below s Q ck sk T (mkF m pc Ls rest) := by
  subst hp
  obtain ⟨hx, hby, -, -, -, -, -, -, -, -, locs, X, -⟩ := G
  exact o_step (fun _ hr => XS.lload X.here hx rfl (hb hby hd) hl hr) k
theorem o_istore (G : OG l Z y bytes maxl ret n0 p e R s m args below meth c T h cells slots) {k0 : Nat} {v : Int32} {l' : Array Slot} (hd : decode bytes pc = .ok (.istore k0, 2)) (hp : pc + 2 = pc') (hl : storeLocals Ls k0 (.int v) = some l') (k : OFin n0 p e below s Q ck sk T (mkF m pc' l' rest)) : OFin n0 p e below s Q ck sk T (mkF m pc Ls (.int v :: rest)) := by
  subst hp
  obtain ⟨hx, hby, -, -, -, -, -, -, -, -, locs, X, -⟩ := G
  exact o_step (fun _ hr => XS.istore X.here hx rfl (hb hby hd) rfl hl hr) k
theorem o_lstoreN (G : OG l Z y bytes maxl ret n0 p e R s m args below meth c T h cells slots) {k0 : Fin 4} {v : Int64} {l' : Array Slot} (hd : decode bytes pc = .ok (.lstore_n k0, 1)) (hp : pc + 1 = pc') (hl : storeLocals Ls k0.val (.long v) = some l') (k : OFin n0 p e below s Q ck sk T (mkF m pc' l' rest)) : OFin n0 p e below s Q ck sk T (mkF m pc Ls (.long v :: rest)) := by
  subst hp
  obtain ⟨hx, hby, -, -, -, -, -, -, -, -, locs, X, -⟩ := G
  exact o_step (fun _ hr => XS.lstoreN X.here hx rfl (hb hby hd) rfl hl hr) k
theorem o_lstore (G : OG l Z y bytes maxl ret n0 p e R s m args below meth c T h cells slots) {k0 : Nat} {v : Int64} {l' : Array Slot} (hd : decode bytes pc = .ok (.lstore k0, 2)) (hp : pc + 2 = pc') (hl : storeLocals Ls k0 (.long v) = some l') (k : OFin n0 p e below s Q ck sk T (mkF m pc' l' rest)) : OFin n0 p e below s Q ck sk T (mkF m pc Ls (.long v :: rest)) := by
  subst hp
  obtain ⟨hx, hby, -, -, -, -, -, -, -, -, locs, X, -⟩ := G
  exact o_step (fun _ hr => XS.lstore X.here hx rfl (hb hby hd) rfl hl hr) k
theorem o_iconst (G : OG l Z y bytes maxl ret n0 p e R s m args below meth c T h cells slots) {i : Int} {v : Int32} (hd : decode bytes pc = .ok (.iconst i, 1)) (hp : pc + 1 = pc') (hv : Int32.ofInt i = v) (k : OFin n0 p e below s Q ck sk T (mkF m pc' Ls (.int v :: rest))) : OFin n0 p e below s Q ck sk T (mkF m pc Ls rest) := by
  subst hp
  subst hv
  obtain ⟨hx, hby, -, -, -, -, -, -, -, -, locs, X, -⟩ := G
  exact o_step (fun _ hr => XS.iconst X.here hx rfl (hb hby hd) hr) k
theorem o_bipush (G : OG l Z y bytes maxl ret n0 p e R s m args below meth c T h cells slots) {i : Int} {v : Int32} (hd : decode bytes pc = .ok (.bipush i, 2)) (hp : pc + 2 = pc') (hv : (Int8.ofInt i).toInt32 = v) (k : OFin n0 p e below s Q ck sk T (mkF m pc' Ls (.int v :: rest))) : OFin n0 p e below s Q ck sk T (mkF m pc Ls rest) := by
  subst hp
  subst hv
  obtain ⟨hx, hby, -, -, -, -, -, -, -, -, locs, X, -⟩ := G
  exact o_step (fun _ hr => XS.bipush X.here hx rfl (hb hby hd) hr) k
theorem o_sipush (G : OG l Z y bytes maxl ret n0 p e R s m args below meth c T h cells slots) {i : Int} {v : Int32} (hd : decode bytes pc = .ok (.sipush i, 3)) (hp : pc + 3 = pc') (hv : (Int16.ofInt i).toInt32 = v) (k : OFin n0 p e below s Q ck sk T (mkF m pc' Ls (.int v :: rest))) : OFin n0 p e below s Q ck sk T (mkF m pc Ls rest) := by
  subst hp
  subst hv
  obtain ⟨hx, hby, -, -, -, -, -, -, -, -, locs, X, -⟩ := G
  exact o_step (fun _ hr => XS.sipush X.here hx rfl (hb hby hd) hr) k
theorem o_iadd (G : OG l Z y bytes maxl ret n0 p e R s m args below meth c T h cells slots) {u w v : Int32} (hd : decode bytes pc = .ok (.iadd, 1)) (hp : pc + 1 = pc') (hv : u + w = v) (k : OFin n0 p e below s Q ck sk T (mkF m pc' Ls (.int v :: rest))) : OFin n0 p e below s Q ck sk T (mkF m pc Ls (.int w :: .int u :: rest)) := by
  subst hp
  subst hv
  obtain ⟨hx, hby, -, -, -, -, -, -, -, -, locs, X, -⟩ := G
  exact o_step (fun _ hr => XS.iadd X.here hx rfl (hb hby hd) rfl hr) k
theorem o_lmul (G : OG l Z y bytes maxl ret n0 p e R s m args below meth c T h cells slots) {u w v : Int64} (hd : decode bytes pc = .ok (.lmul, 1)) (hp : pc + 1 = pc') (hv : u * w = v) (k : OFin n0 p e below s Q ck sk T (mkF m pc' Ls (.long v :: rest))) : OFin n0 p e below s Q ck sk T (mkF m pc Ls (.long w :: .long u :: rest)) := by
  subst hp
  subst hv
  obtain ⟨hx, hby, -, -, -, -, -, -, -, -, locs, X, -⟩ := G
  exact o_step (fun _ hr => XS.lmul X.here hx rfl (hb hby hd) rfl hr) k
theorem o_iand (G : OG l Z y bytes maxl ret n0 p e R s m args below meth c T h cells slots) {u w v : Int32} (hd : decode bytes pc = .ok (.iand, 1)) (hp : pc + 1 = pc') (hv : u &&& w = v) (k : OFin n0 p e below s Q ck sk T (mkF m pc' Ls (.int v :: rest))) : OFin n0 p e below s Q ck sk T (mkF m pc Ls (.int w :: .int u :: rest)) := by
  subst hp
  subst hv
  obtain ⟨hx, hby, -, -, -, -, -, -, -, -, locs, X, -⟩ := G
  exact o_step (fun _ hr => XS.iand X.here hx rfl (hb hby hd) rfl hr) k
theorem o_ior (G : OG l Z y bytes maxl ret n0 p e R s m args below meth c T h cells slots) {u w v : Int32} (hd : decode bytes pc = .ok (.ior, 1)) (hp : pc + 1 = pc') (hv : u ||| w = v) (k : OFin n0 p e below s Q ck sk T (mkF m pc' Ls (.int v :: rest))) : OFin n0 p e below s Q ck sk T (mkF m pc Ls (.int w :: .int u :: rest)) := by
  subst hp
  subst hv
  obtain ⟨hx, hby, -, -, -, -, -, -, -, -, locs, X, -⟩ := G
  exact o_step (fun _ hr => XS.ior X.here hx rfl (hb hby hd) rfl hr) k
theorem o_lxor (G : OG l Z y bytes maxl ret n0 p e R s m args below meth c T h cells slots) {u w v : Int64} (hd : decode bytes pc = .ok (.lxor, 1)) (hp : pc + 1 = pc') (hv : u ^^^ w = v) (k : OFin n0 p e below s Q ck sk T (mkF m pc' Ls (.long v :: rest))) : OFin n0 p e below s Q ck sk T (mkF m pc Ls (.long w :: .long u :: rest)) := by
  subst hp
  subst hv
  obtain ⟨hx, hby, -, -, -, -, -, -, -, -, locs, X, -⟩ := G
  exact o_step (fun _ hr => XS.lxor X.here hx rfl (hb hby hd) rfl hr) k
theorem o_ishl (G : OG l Z y bytes maxl ret n0 p e R s m args below meth c T h cells slots) {u v : Int32} {w : Int32} (hd : decode bytes pc = .ok (.ishl, 1)) (hp : pc + 1 = pc') (hv : u <<< (w &&& 31) = v) (k : OFin n0 p e below s Q ck sk T (mkF m pc' Ls (.int v :: rest))) : OFin n0 p e below s Q ck sk T (mkF m pc Ls (.int w :: .int u :: rest)) := by
  subst hp
  subst hv
  obtain ⟨hx, hby, -, -, -, -, -, -, -, -, locs, X, -⟩ := G
  exact o_step (fun _ hr => XS.ishl X.here hx rfl (hb hby hd) rfl hr) k
theorem o_iushr (G : OG l Z y bytes maxl ret n0 p e R s m args below meth c T h cells slots) {u v : Int32} {w : Int32} (hd : decode bytes pc = .ok (.iushr, 1)) (hp : pc + 1 = pc') (hv : (u.toUInt32 >>> (w &&& 31).toUInt32).toInt32 = v) (k : OFin n0 p e below s Q ck sk T (mkF m pc' Ls (.int v :: rest))) : OFin n0 p e below s Q ck sk T (mkF m pc Ls (.int w :: .int u :: rest)) := by
  subst hp
  subst hv
  obtain ⟨hx, hby, -, -, -, -, -, -, -, -, locs, X, -⟩ := G
  exact o_step (fun _ hr => XS.iushr X.here hx rfl (hb hby hd) rfl hr) k
theorem o_i2l (G : OG l Z y bytes maxl ret n0 p e R s m args below meth c T h cells slots) {u : Int32} {v : Int64} (hd : decode bytes pc = .ok (.i2l, 1)) (hp : pc + 1 = pc') (hv : u.toInt64 = v) (k : OFin n0 p e below s Q ck sk T (mkF m pc' Ls (.long v :: rest))) : OFin n0 p e below s Q ck sk T (mkF m pc Ls (.int u :: rest)) := by
  subst hp
  subst hv
  obtain ⟨hx, hby, -, -, -, -, -, -, -, -, locs, X, -⟩ := G
  exact o_step (fun _ hr => XS.i2l X.here hx rfl (hb hby hd) rfl hr) k
theorem o_irem (G : OG l Z y bytes maxl ret n0 p e R s m args below meth c T h cells slots) {u w v : Int32} (hd : decode bytes pc = .ok (.irem, 1)) (hp : pc + 1 = pc') (hw0 : w ≠ 0) (hv : u % w = v) (k : OFin n0 p e below s Q ck sk T (mkF m pc' Ls (.int v :: rest))) : OFin n0 p e below s Q ck sk T (mkF m pc Ls (.int w :: .int u :: rest)) := by
  subst hp
  subst hv
  obtain ⟨hx, hby, -, -, -, -, -, -, -, -, locs, X, -⟩ := G
  exact o_step (fun _ hr => iremM X hx rfl (hb hby hd) rfl hw0 hr) k
theorem o_goto (G : OG l Z y bytes maxl ret n0 p e R s m args below meth c T h cells slots) {o : Int} (hd : decode bytes pc = .ok (.goto o, 3)) (ho : 0 ≤ (pc : Int) + o) (hp : ((pc : Int) + o).toNat = pc') (k : OFin n0 p e below s Q ck sk T (mkF m pc' Ls rest)) : OFin n0 p e below s Q ck sk T (mkF m pc Ls rest) := by
  obtain ⟨hx, hby, -, -, -, -, -, -, -, -, locs, X, -⟩ := G
  exact o_step (fun _ hr => XS.goto X.here hx rfl (pc0 := pc) (pc' := pc') rfl (hb hby hd) ho hp hr) k
theorem o_icmp_ge (G : OG l Z y bytes maxl ret n0 p e R s m args below meth c T h cells slots) {o : Int} {pcT : Nat} {u w : Int32} (hd : decode bytes pc = .ok (.if_icmp .ge o, 3)) (ho : 0 ≤ (pc : Int) + o) (hpT : ((pc : Int) + o).toNat = pcT) (hp : pc + 3 = pc') (kT : ¬ u < w → OFin n0 p e below s Q ck sk T (mkF m pcT Ls rest)) (kF : u < w → OFin n0 p e below s Q ck sk T (mkF m pc' Ls rest)) : OFin n0 p e below s Q ck sk T (mkF m pc Ls (.int w :: .int u :: rest)) := by
  subst hp
  obtain ⟨hx, hby, -, -, -, -, -, -, -, -, locs, X, -⟩ := G
  by_cases q : ¬ u < w
  · exact o_step (fun _ hr => XS.icmpYes X.here hx rfl (pc0 := pc) (pc' := pcT) rfl (hb hby hd) rfl (flt q).2.1 ho hpT hr) (kT q)
  · have q := Decidable.not_not.mp q
    exact o_step (fun _ hr => XS.icmpNo X.here hx rfl (hb hby hd) rfl (tlt q).2.1 hr) (kF q)
theorem o_icmp_ne (G : OG l Z y bytes maxl ret n0 p e R s m args below meth c T h cells slots) {o : Int} {pcT : Nat} {u w : Int32} (hd : decode bytes pc = .ok (.if_icmp .ne o, 3)) (ho : 0 ≤ (pc : Int) + o) (hpT : ((pc : Int) + o).toNat = pcT) (hp : pc + 3 = pc') (kT : ¬ u = w → OFin n0 p e below s Q ck sk T (mkF m pcT Ls rest)) (kF : u = w → OFin n0 p e below s Q ck sk T (mkF m pc' Ls rest)) : OFin n0 p e below s Q ck sk T (mkF m pc Ls (.int w :: .int u :: rest)) := by
  subst hp
  obtain ⟨hx, hby, -, -, -, -, -, -, -, -, locs, X, -⟩ := G
  by_cases q : ¬ u = w
  · exact o_step (fun _ hr => XS.icmpYes X.here hx rfl (pc0 := pc) (pc' := pcT) rfl (hb hby hd) rfl (feq q).2 ho hpT hr) (kT q)
  · have q := Decidable.not_not.mp q
    exact o_step (fun _ hr => XS.icmpNo X.here hx rfl (hb hby hd) rfl (teq q).2 hr) (kF q)
theorem o_if_ne (G : OG l Z y bytes maxl ret n0 p e R s m args below meth c T h cells slots) {o : Int} {pcT : Nat} {u : Int32} (hd : decode bytes pc = .ok (.ifCond .ne o, 3)) (ho : 0 ≤ (pc : Int) + o) (hpT : ((pc : Int) + o).toNat = pcT) (hp : pc + 3 = pc') (kT : ¬ u = (0 : Int32) → OFin n0 p e below s Q ck sk T (mkF m pcT Ls rest)) (kF : u = (0 : Int32) → OFin n0 p e below s Q ck sk T (mkF m pc' Ls rest)) : OFin n0 p e below s Q ck sk T (mkF m pc Ls (.int u :: rest)) := by
  subst hp
  obtain ⟨hx, hby, -, -, -, -, -, -, -, -, locs, X, -⟩ := G
  by_cases q : ¬ u = (0 : Int32)
  · exact o_step (fun _ hr => XS.ifYes X.here hx rfl (pc0 := pc) (pc' := pcT) rfl (hb hby hd) rfl ((if0 _ _).trans (feq q).2) ho hpT hr) (kT q)
  · have q := Decidable.not_not.mp q
    exact o_step (fun _ hr => XS.ifNo X.here hx rfl (hb hby hd) rfl ((if0 _ _).trans (teq q).2) hr) (kF q)
theorem o_lcmp_ne (G : OG l Z y bytes maxl ret n0 p e R s m args below meth c T h cells slots) {o : Int} {pc1 pcT : Nat} {u w : Int64} (hd : decode bytes pc = .ok (.lcmp, 1)) (hp1 : pc + 1 = pc1) (hd2 : decode bytes pc1 = .ok (.ifCond .ne o, 3)) (ho : 0 ≤ (pc1 : Int) + o) (hpT : ((pc1 : Int) + o).toNat = pcT) (hp : pc1 + 3 = pc') (kT : ¬ u = w → OFin n0 p e below s Q ck sk T (mkF m pcT Ls rest)) (kF : u = w → OFin n0 p e below s Q ck sk T (mkF m pc' Ls rest)) : OFin n0 p e below s Q ck sk T (mkF m pc Ls (.long w :: .long u :: rest)) := by
  have G0 := G
  obtain ⟨hx, hby, -, -, -, -, -, -, -, -, locs, X, -⟩ := G
  subst hp1
  refine o_step (fun _ hr => XS.lcmp X.here hx rfl (hb hby hd) rfl hr) ?_
  show OFin n0 p e below s Q ck sk T (mkF m (pc + 1) Ls (.int (lcmpW u w) :: rest))
  refine o_if_ne G0 hd2 ho hpT hp (fun q => kT ?_) (fun q => kF ?_)
  · simpa only [lw_eq] using q
  · simpa only [lw_eq] using q
theorem o_ldc2 (G : OG l Z y bytes maxl ret n0 p e R s m args below meth c T h cells slots) {index : Nat} {v : Int64} (hd : decode bytes pc = .ok (.ldc2_w index, 3)) (hp : pc + 3 = pc') (w : (Jvm.Cond.constantLong y.cls index v).before a0 Z = true) (k : OFin n0 p e below s Q ck sk T (mkF m pc' Ls (.long v :: rest))) : OFin n0 p e below s Q ck sk T (mkF m pc Ls rest) := by
  subst hp
  obtain ⟨hx, hby, -, hown, -, -, -, hZ, -, -, locs, X, -⟩ := G
  exact o_step (fun _ hr => X.ldc2Long hx hown (mvT hZ w) (g := (mkF m pc Ls rest)) rfl (hb hby hd) _ hr) k
theorem o_ldc (G : OG l Z y bytes maxl ret n0 p e R s m args below meth c T h cells slots) {index : Nat} {v : Int32} (hd : decode bytes pc = .ok (.ldc index, 2)) (hp : pc + 2 = pc') (w : (Jvm.Cond.constant y.cls index v).before a0 Z = true) (k : OFin n0 p e below s Q ck sk T (mkF m pc' Ls (.int v :: rest))) : OFin n0 p e below s Q ck sk T (mkF m pc Ls rest) := by
  subst hp
  obtain ⟨hx, hby, -, hown, -, -, -, hZ, -, -, locs, X, -⟩ := G
  exact o_step (fun _ hr => X.ldcInt hx hown (mvT hZ w) (g := (mkF m pc Ls rest)) rfl (hb hby hd) _ hr) k
theorem o_lreturn {v : Int64} (G : OG l Z y bytes maxl (some .long) n0 p e R s m args below meth c T h cells slots)  (hd : decode bytes pc = .ok (.lreturn, 1)) (hq : Q (some (.long v)) h) (hc : cells ≤ ck) (hs : slots ≤ sk) : OFin n0 p e below s Q ck sk T (mkF m pc Ls (.long v :: rest)) := by
  obtain ⟨hx, hby, -, -, -, hret, hlk, -, eT, hz, locs, X, N⟩ := G
  obtain ⟨fs, hr, hrun, hended, hW, hsame⟩ := X.leave (v := some (.long v)) (fun h => by rw [hret] at h; cases h) hlk
  refine ⟨_, _, retOut X hx hret rfl (Or.inr (Or.inl ⟨rfl, rfl, _, rfl⟩)) (hb hby hd) hr, hrun, hended, _, _, rfl, ⟨N, ?_, ?_⟩, ⟨_, rfl⟩, hW, hsame.mono hc hs⟩
  · show n0 ≤ T.heap.size
    rw [eT]; exact hz
  · show Q _ T.heap
    rw [eT]; exact hq
theorem o_nreturn {v : Int32} {t : FieldType} (G : OG l Z y bytes maxl (some t) n0 p e R s m args below meth c T h cells slots) (ht : t = .boolean ∨ t = .byte ∨ t = .char ∨ t = .short) (hd : decode bytes pc = .ok (.ireturn, 1)) (hq : Q (some (.int (nar t v))) h) (hc : cells ≤ ck) (hs : slots ≤ sk) : OFin n0 p e below s Q ck sk T (mkF m pc Ls (.int v :: rest)) := by
  obtain ⟨hx, hby, -, -, -, hret, hlk, -, eT, hz, locs, X, N⟩ := G
  obtain ⟨fs, hr, hrun, hended, hW, hsame⟩ := X.leave (v := some (.int (nar t v))) (fun h => by rw [hret] at h; cases h) hlk
  refine ⟨_, _, retN X hx hret ht (hb hby hd) hr, hrun, hended, _, _, rfl, ⟨N, ?_, ?_⟩, ⟨_, rfl⟩, hW, hsame.mono hc hs⟩
  · show n0 ≤ T.heap.size
    rw [eT]; exact hz
  · show Q _ T.heap
    rw [eT]; exact hq
theorem o_callS (G : OG l Z y bytes maxl ret n0 p e R s m args below meth c T h cells slots) {z : MethodName} {bz : ByteArray} {mz : Nat} {rz : Option FieldType} {rm : Room} {Q' : Option Value → Heap → Prop} {index W : Nat} {argsL st : List Value} (w1 : (Jvm.Cond.methodLink y.cls index z).before a0 Z = true) (w2 : (Jvm.Cond.static z).before a0 Z = true) (hd : decode bytes pc = .ok (.invokestatic index, 3))
    (hy : z.cls ≠ "java/lang/invoke/MethodHandle" ∧ z.cls ≠ "java/lang/invoke/VarHandle") (w3 : (Jvm.Cond.initialized z.cls).before a0 Z = true) (w4 : (Jvm.Cond.code z bz mz rz).before a0 Z = true)
    (hM : OMet l Z z bz mz rz rm argsL.toArray h n0 rm.cells rm.slots Q') (hfr : rm.frames + 1 ≤ R.frames) (hlo : W + (mz + 11) + rm.locals ≤ R.locals) (hsz : Ls.size = maxl)
    (hlen : ∀ sig, parseMethodDescriptor z.desc = some sig → argsL.length = sig.parameters.length) (hst : st = argsL.reverse ++ rest) (hW : (rest.map fun v => v.category).sum ≤ W) (hp : pc + 3 = pc') (hc : cells + rm.cells ≤ R.cells) (hs : slots + rm.slots ≤ R.slots)
    (k : ∀ (v : Option Value) (T' : State) (h' : Heap), OG l Z y bytes maxl ret n0 p e R s m args below meth c T' h' (cells + rm.cells) (slots + rm.slots) → Q' v h' → OFin n0 p e below s Q ck sk T' (mkF m pc' Ls (v.toList ++ rest))) : OFin n0 p e below s Q ck sk T (mkF m pc Ls st) := by
  subst hp hst
  obtain ⟨hx, hby, hml, hown, hnm, hret, hlk, hZ, eT, hz, locs, X, N⟩ := G
  obtain ⟨v, vm1, ⟨T', L', k', n'⟩, -, X', ⟨L, ⟨N', z', hQ⟩, l1, y1, z1⟩, st0⟩ := Jvm.LawKit.callS X hx (y := z) hown (mvT hZ w1) (mvT hZ w2) (mvT hZ w3) (mvT hZ w4) hy (backOf (W := W) (Q := fun v h L => Fr n0 L ∧ n0 ≤ h.size ∧ Q' v h) (hM []) hZ w4 w3 hfr hlo) (g := (mkF m pc Ls (argsL.reverse ++ rest))) rfl (by show Ls.size = _; rw [hml]; exact hsz) (argsL := argsL) (rest := rest) hlen rfl (by show 2 * 0 + _ ≤ _; omega) (hb hby hd) (fun _ _ => ⟨rfl, eT, hc, hs⟩)
  dsimp only [Pt.U, Pt.locs, Pt.cells, Pt.slots] at X' l1 y1 z1 st0 hQ N' z'
  subst l1 y1 z1
  exact o_step st0 (k v T' T'.heap ⟨hx, hby, hml, hown, hnm, hret, hlk, hZ, rfl, z', _, X', Fr.app N N'⟩ hQ)
/-- a contract that leaves the heap as it was and returns one value -/
abbrev OVal (h0 : Heap) (r : Value) : Option Value → Heap → Prop := fun v h => v = some r ∧ h0 = h
theorem o_callP (G : OG l Z y bytes maxl ret n0 p e R s m args below meth c T h cells slots) {z : MethodName} {bz : ByteArray} {mz : Nat} {rz : Option FieldType} {rm : Room} {r : Value} {index W : Nat} {argsL st : List Value} (w1 : (Jvm.Cond.methodLink y.cls index z).before a0 Z = true) (w2 : (Jvm.Cond.static z).before a0 Z = true) (hd : decode bytes pc = .ok (.invokestatic index, 3))
    (hy : z.cls ≠ "java/lang/invoke/MethodHandle" ∧ z.cls ≠ "java/lang/invoke/VarHandle") (w3 : (Jvm.Cond.initialized z.cls).before a0 Z = true) (w4 : (Jvm.Cond.code z bz mz rz).before a0 Z = true)
    (hM : OMet l Z z bz mz rz rm argsL.toArray h n0 rm.cells rm.slots (OVal h r)) (hfr : rm.frames + 1 ≤ R.frames) (hlo : W + (mz + 11) + rm.locals ≤ R.locals) (hsz : Ls.size = maxl)
    (hlen : ∀ sig, parseMethodDescriptor z.desc = some sig → argsL.length = sig.parameters.length) (hst : st = argsL.reverse ++ rest) (hW : (rest.map fun v => v.category).sum ≤ W) (hp : pc + 3 = pc') (hc : cells + rm.cells ≤ R.cells) (hs : slots + rm.slots ≤ R.slots)
    (k : ∀ (T' : State), OG l Z y bytes maxl ret n0 p e R s m args below meth c T' h (cells + rm.cells) (slots + rm.slots) → OFin n0 p e below s Q ck sk T' (mkF m pc' Ls (r :: rest))) : OFin n0 p e below s Q ck sk T (mkF m pc Ls st) := by
  refine o_callS G w1 w2 hd hy w3 w4 hM hfr hlo hsz hlen hst hW hp hc hs ?_
  rintro v T' h' G' ⟨hv, hh⟩
  subst hv hh
  exact k T' G'
end OwnKit
theorem pd_0 : parseMethodDescriptor "(JI)J" = some ⟨[.long, .int], some .long⟩ := by decide +kernel
theorem d1_0 : decode method_2_code 0 = .ok (.lload_n 0, 1) := by decide +kernel
theorem d1_1 : decode method_2_code 1 = .ok (.iload_n 2, 1) := by decide +kernel
theorem d1_2 : decode method_2_code 2 = .ok (.i2l, 1) := by decide +kernel
theorem d1_3 : decode method_2_code 3 = .ok (.lxor, 1) := by decide +kernel
theorem d1_4 : decode method_2_code 4 = .ok (.ldc2_w 7, 3) := by decide +kernel
theorem d1_7 : decode method_2_code 7 = .ok (.lmul, 1) := by decide +kernel
theorem d1_8 : decode method_2_code 8 = .ok (.lreturn, 1) := by decide +kernel
theorem pn_1 : plainName "com/example/pocket_simhash/pocketsimhash/Fnv1a64ExtendPinLaw" = true := by first | (simp [plainName, overriddenIn]; done) | decide +kernel
theorem ef_1 (m : MethodId) (q0 : Int64) (p1 : Int32) : entryFrame m #[(.long q0), (.int p1)] 3 = mkF m 0 #[.val (.long q0), .second, .val (.int p1)] [] := by first | (simp [entryFrame, mkF, argsToLocals, Value.category]; done) | rfl
def f_1 (q0 : Int64) (p1 : Int32) : Int64 := ((q0 ^^^ (p1.toInt64)) * (1099511628211 : Int64))
set_option maxRecDepth 65536 in
set_option maxHeartbeats 40000000 in
theorem rm1 {l : Launch} {Z : State} {a0 : Array Value} (hw : ∀ d ∈ tables_1, d.before a0 Z = true) (q0 : Int64) (p1 : Int32) (h0 : Heap) (n0 : Nat) (hz : n0 ≤ h0.size) :
    OMet l Z (⟨"com/example/pocket_simhash/pocketsimhash/Fnv1a64ExtendPinLaw", "mix", "(JI)J"⟩ : MethodName) method_2_code 3 (some .long) ({ frames := 0, cells := 0, slots := 0, locals := 0 } : Room) #[(.long q0), (.int p1)] h0 n0 ({ frames := 0, cells := 0, slots := 0, locals := 0 } : Room).cells ({ frames := 0, cells := 0, slots := 0, locals := 0 } : Room).slots (OVal h0 (.long (f_1 q0 p1))) := by
  refine o_body (plainFor_of_name pn_1) hz (fun m => ef_1 m q0 p1) ?_
  intro p e s m below meth c s₁ G0
  refine o_lloadN G0 d1_0 (pc' := 1) rfl rfl ?_
  refine o_iloadN G0 d1_1 (pc' := 2) rfl rfl ?_
  obtain ⟨v1, e1⟩ : ∃ z, p1.toInt64 = z := ⟨_, rfl⟩
  refine o_i2l G0 d1_2 (pc' := 3) rfl e1 ?_
  obtain ⟨v2, e2⟩ : ∃ z, q0 ^^^ v1 = z := ⟨_, rfl⟩
  refine o_lxor G0 d1_3 (pc' := 4) rfl e2 ?_
  refine o_ldc2 G0 d1_4 (pc' := 7) rfl (hw _ (List.mem_of_getElem? (i := 5) rfl)) ?_
  obtain ⟨v3, e3⟩ : ∃ z, v2 * (1099511628211 : Int64) = z := ⟨_, rfl⟩
  refine o_lmul G0 d1_7 (pc' := 8) rfl e3 ?_
  have hq : v3 = f_1 q0 p1 := by
    subst e1 e2 e3
    rw [f_1]
  exact o_lreturn G0 d1_8 ⟨congrArg (fun z => some (Value.long z)) hq, rfl⟩ (by decide) (by decide)
theorem d3_0 : decode prog_15_method_8_code 0 = .ok (.lload_n 0, 1) := by decide +kernel
theorem d3_1 : decode prog_15_method_8_code 1 = .ok (.iload_n 2, 1) := by decide +kernel
theorem d3_2 : decode prog_15_method_8_code 2 = .ok (.i2l, 1) := by decide +kernel
theorem d3_3 : decode prog_15_method_8_code 3 = .ok (.lxor, 1) := by decide +kernel
theorem d3_4 : decode prog_15_method_8_code 4 = .ok (.ldc2_w 52, 3) := by decide +kernel
theorem d3_7 : decode prog_15_method_8_code 7 = .ok (.lmul, 1) := by decide +kernel
theorem d3_8 : decode prog_15_method_8_code 8 = .ok (.lreturn, 1) := by decide +kernel
theorem pn_3 : plainName "com/example/pocket_simhash/pocketsimhash/Fnv1a64" = true := by first | (simp [plainName, overriddenIn]; done) | decide +kernel
theorem ef_3 (m : MethodId) (q0 : Int64) (p1 : Int32) : entryFrame m #[(.long q0), (.int p1)] 3 = mkF m 0 #[.val (.long q0), .second, .val (.int p1)] [] := by first | (simp [entryFrame, mkF, argsToLocals, Value.category]; done) | rfl
def f_3 (q0 : Int64) (p1 : Int32) : Int64 := ((q0 ^^^ (p1.toInt64)) * (1099511628211 : Int64))
set_option maxRecDepth 65536 in
set_option maxHeartbeats 40000000 in
theorem rm3 {l : Launch} {Z : State} {a0 : Array Value} (hw : ∀ d ∈ tables_1, d.before a0 Z = true) (q0 : Int64) (p1 : Int32) (h0 : Heap) (n0 : Nat) (hz : n0 ≤ h0.size) :
    OMet l Z (⟨"com/example/pocket_simhash/pocketsimhash/Fnv1a64", "mix", "(JI)J"⟩ : MethodName) prog_15_method_8_code 3 (some .long) ({ frames := 0, cells := 0, slots := 0, locals := 0 } : Room) #[(.long q0), (.int p1)] h0 n0 ({ frames := 0, cells := 0, slots := 0, locals := 0 } : Room).cells ({ frames := 0, cells := 0, slots := 0, locals := 0 } : Room).slots (OVal h0 (.long (f_3 q0 p1))) := by
  refine o_body (plainFor_of_name pn_3) hz (fun m => ef_3 m q0 p1) ?_
  intro p e s m below meth c s₁ G0
  refine o_lloadN G0 d3_0 (pc' := 1) rfl rfl ?_
  refine o_iloadN G0 d3_1 (pc' := 2) rfl rfl ?_
  obtain ⟨v1, e1⟩ : ∃ z, p1.toInt64 = z := ⟨_, rfl⟩
  refine o_i2l G0 d3_2 (pc' := 3) rfl e1 ?_
  obtain ⟨v2, e2⟩ : ∃ z, q0 ^^^ v1 = z := ⟨_, rfl⟩
  refine o_lxor G0 d3_3 (pc' := 4) rfl e2 ?_
  refine o_ldc2 G0 d3_4 (pc' := 7) rfl (hw _ (List.mem_of_getElem? (i := 14) rfl)) ?_
  obtain ⟨v3, e3⟩ : ∃ z, v2 * (1099511628211 : Int64) = z := ⟨_, rfl⟩
  refine o_lmul G0 d3_7 (pc' := 8) rfl e3 ?_
  have hq : v3 = f_3 q0 p1 := by
    subst e1 e2 e3
    rw [f_3]
  exact o_lreturn G0 d3_8 ⟨congrArg (fun z => some (Value.long z)) hq, rfl⟩ (by decide) (by decide)
theorem d2_0 : decode prog_15_method_7_code 0 = .ok (.lload_n 0, 1) := by decide +kernel
theorem d2_1 : decode prog_15_method_7_code 1 = .ok (.lstore_n 3, 1) := by decide +kernel
theorem d2_2 : decode prog_15_method_7_code 2 = .ok (.iload_n 2, 1) := by decide +kernel
theorem d2_3 : decode prog_15_method_7_code 3 = .ok (.sipush 128, 3) := by decide +kernel
theorem d2_6 : decode prog_15_method_7_code 6 = .ok (.if_icmp .ge 12, 3) := by decide +kernel
theorem d2_9 : decode prog_15_method_7_code 9 = .ok (.lload_n 3, 1) := by decide +kernel
theorem d2_10 : decode prog_15_method_7_code 10 = .ok (.iload_n 2, 1) := by decide +kernel
theorem d2_11 : decode prog_15_method_7_code 11 = .ok (.invokestatic 11, 3) := by decide +kernel
theorem d2_14 : decode prog_15_method_7_code 14 = .ok (.lstore_n 3, 1) := by decide +kernel
theorem d2_15 : decode prog_15_method_7_code 15 = .ok (.goto 148, 3) := by decide +kernel
theorem d2_18 : decode prog_15_method_7_code 18 = .ok (.iload_n 2, 1) := by decide +kernel
theorem d2_19 : decode prog_15_method_7_code 19 = .ok (.sipush 2048, 3) := by decide +kernel
theorem d2_22 : decode prog_15_method_7_code 22 = .ok (.if_icmp .ge 32, 3) := by decide +kernel
theorem d2_25 : decode prog_15_method_7_code 25 = .ok (.lload_n 3, 1) := by decide +kernel
theorem d2_26 : decode prog_15_method_7_code 26 = .ok (.sipush 192, 3) := by decide +kernel
theorem d2_29 : decode prog_15_method_7_code 29 = .ok (.iload_n 2, 1) := by decide +kernel
theorem d2_30 : decode prog_15_method_7_code 30 = .ok (.bipush 6, 2) := by decide +kernel
theorem d2_32 : decode prog_15_method_7_code 32 = .ok (.iushr, 1) := by decide +kernel
theorem d2_33 : decode prog_15_method_7_code 33 = .ok (.ior, 1) := by decide +kernel
theorem d2_34 : decode prog_15_method_7_code 34 = .ok (.invokestatic 11, 3) := by decide +kernel
theorem d2_37 : decode prog_15_method_7_code 37 = .ok (.lstore_n 3, 1) := by decide +kernel
theorem d2_38 : decode prog_15_method_7_code 38 = .ok (.lload_n 3, 1) := by decide +kernel
theorem d2_39 : decode prog_15_method_7_code 39 = .ok (.sipush 128, 3) := by decide +kernel
theorem d2_42 : decode prog_15_method_7_code 42 = .ok (.iload_n 2, 1) := by decide +kernel
theorem d2_43 : decode prog_15_method_7_code 43 = .ok (.bipush 63, 2) := by decide +kernel
theorem d2_45 : decode prog_15_method_7_code 45 = .ok (.iand, 1) := by decide +kernel
theorem d2_46 : decode prog_15_method_7_code 46 = .ok (.ior, 1) := by decide +kernel
theorem d2_47 : decode prog_15_method_7_code 47 = .ok (.invokestatic 11, 3) := by decide +kernel
theorem d2_50 : decode prog_15_method_7_code 50 = .ok (.lstore_n 3, 1) := by decide +kernel
theorem d2_51 : decode prog_15_method_7_code 51 = .ok (.goto 112, 3) := by decide +kernel
theorem d2_54 : decode prog_15_method_7_code 54 = .ok (.iload_n 2, 1) := by decide +kernel
theorem d2_55 : decode prog_15_method_7_code 55 = .ok (.ldc 51, 2) := by decide +kernel
theorem d2_57 : decode prog_15_method_7_code 57 = .ok (.if_icmp .ge 48, 3) := by decide +kernel
theorem d2_60 : decode prog_15_method_7_code 60 = .ok (.lload_n 3, 1) := by decide +kernel
theorem d2_61 : decode prog_15_method_7_code 61 = .ok (.sipush 224, 3) := by decide +kernel
theorem d2_64 : decode prog_15_method_7_code 64 = .ok (.iload_n 2, 1) := by decide +kernel
theorem d2_65 : decode prog_15_method_7_code 65 = .ok (.bipush 12, 2) := by decide +kernel
theorem d2_67 : decode prog_15_method_7_code 67 = .ok (.iushr, 1) := by decide +kernel
theorem d2_68 : decode prog_15_method_7_code 68 = .ok (.ior, 1) := by decide +kernel
theorem d2_69 : decode prog_15_method_7_code 69 = .ok (.invokestatic 11, 3) := by decide +kernel
theorem d2_72 : decode prog_15_method_7_code 72 = .ok (.lstore_n 3, 1) := by decide +kernel
theorem d2_73 : decode prog_15_method_7_code 73 = .ok (.lload_n 3, 1) := by decide +kernel
theorem d2_74 : decode prog_15_method_7_code 74 = .ok (.sipush 128, 3) := by decide +kernel
theorem d2_77 : decode prog_15_method_7_code 77 = .ok (.iload_n 2, 1) := by decide +kernel
theorem d2_78 : decode prog_15_method_7_code 78 = .ok (.bipush 6, 2) := by decide +kernel
theorem d2_80 : decode prog_15_method_7_code 80 = .ok (.iushr, 1) := by decide +kernel
theorem d2_81 : decode prog_15_method_7_code 81 = .ok (.bipush 63, 2) := by decide +kernel
theorem d2_83 : decode prog_15_method_7_code 83 = .ok (.iand, 1) := by decide +kernel
theorem d2_84 : decode prog_15_method_7_code 84 = .ok (.ior, 1) := by decide +kernel
theorem d2_85 : decode prog_15_method_7_code 85 = .ok (.invokestatic 11, 3) := by decide +kernel
theorem d2_88 : decode prog_15_method_7_code 88 = .ok (.lstore_n 3, 1) := by decide +kernel
theorem d2_89 : decode prog_15_method_7_code 89 = .ok (.lload_n 3, 1) := by decide +kernel
theorem d2_90 : decode prog_15_method_7_code 90 = .ok (.sipush 128, 3) := by decide +kernel
theorem d2_93 : decode prog_15_method_7_code 93 = .ok (.iload_n 2, 1) := by decide +kernel
theorem d2_94 : decode prog_15_method_7_code 94 = .ok (.bipush 63, 2) := by decide +kernel
theorem d2_96 : decode prog_15_method_7_code 96 = .ok (.iand, 1) := by decide +kernel
theorem d2_97 : decode prog_15_method_7_code 97 = .ok (.ior, 1) := by decide +kernel
theorem d2_98 : decode prog_15_method_7_code 98 = .ok (.invokestatic 11, 3) := by decide +kernel
theorem d2_101 : decode prog_15_method_7_code 101 = .ok (.lstore_n 3, 1) := by decide +kernel
theorem d2_102 : decode prog_15_method_7_code 102 = .ok (.goto 61, 3) := by decide +kernel
theorem d2_105 : decode prog_15_method_7_code 105 = .ok (.lload_n 3, 1) := by decide +kernel
theorem d2_106 : decode prog_15_method_7_code 106 = .ok (.sipush 240, 3) := by decide +kernel
theorem d2_109 : decode prog_15_method_7_code 109 = .ok (.iload_n 2, 1) := by decide +kernel
theorem d2_110 : decode prog_15_method_7_code 110 = .ok (.bipush 18, 2) := by decide +kernel
theorem d2_112 : decode prog_15_method_7_code 112 = .ok (.iushr, 1) := by decide +kernel
theorem d2_113 : decode prog_15_method_7_code 113 = .ok (.ior, 1) := by decide +kernel
theorem d2_114 : decode prog_15_method_7_code 114 = .ok (.invokestatic 11, 3) := by decide +kernel
theorem d2_117 : decode prog_15_method_7_code 117 = .ok (.lstore_n 3, 1) := by decide +kernel
theorem d2_118 : decode prog_15_method_7_code 118 = .ok (.lload_n 3, 1) := by decide +kernel
theorem d2_119 : decode prog_15_method_7_code 119 = .ok (.sipush 128, 3) := by decide +kernel
theorem d2_122 : decode prog_15_method_7_code 122 = .ok (.iload_n 2, 1) := by decide +kernel
theorem d2_123 : decode prog_15_method_7_code 123 = .ok (.bipush 12, 2) := by decide +kernel
theorem d2_125 : decode prog_15_method_7_code 125 = .ok (.iushr, 1) := by decide +kernel
theorem d2_126 : decode prog_15_method_7_code 126 = .ok (.bipush 63, 2) := by decide +kernel
theorem d2_128 : decode prog_15_method_7_code 128 = .ok (.iand, 1) := by decide +kernel
theorem d2_129 : decode prog_15_method_7_code 129 = .ok (.ior, 1) := by decide +kernel
theorem d2_130 : decode prog_15_method_7_code 130 = .ok (.invokestatic 11, 3) := by decide +kernel
theorem d2_133 : decode prog_15_method_7_code 133 = .ok (.lstore_n 3, 1) := by decide +kernel
theorem d2_134 : decode prog_15_method_7_code 134 = .ok (.lload_n 3, 1) := by decide +kernel
theorem d2_135 : decode prog_15_method_7_code 135 = .ok (.sipush 128, 3) := by decide +kernel
theorem d2_138 : decode prog_15_method_7_code 138 = .ok (.iload_n 2, 1) := by decide +kernel
theorem d2_139 : decode prog_15_method_7_code 139 = .ok (.bipush 6, 2) := by decide +kernel
theorem d2_141 : decode prog_15_method_7_code 141 = .ok (.iushr, 1) := by decide +kernel
theorem d2_142 : decode prog_15_method_7_code 142 = .ok (.bipush 63, 2) := by decide +kernel
theorem d2_144 : decode prog_15_method_7_code 144 = .ok (.iand, 1) := by decide +kernel
theorem d2_145 : decode prog_15_method_7_code 145 = .ok (.ior, 1) := by decide +kernel
theorem d2_146 : decode prog_15_method_7_code 146 = .ok (.invokestatic 11, 3) := by decide +kernel
theorem d2_149 : decode prog_15_method_7_code 149 = .ok (.lstore_n 3, 1) := by decide +kernel
theorem d2_150 : decode prog_15_method_7_code 150 = .ok (.lload_n 3, 1) := by decide +kernel
theorem d2_151 : decode prog_15_method_7_code 151 = .ok (.sipush 128, 3) := by decide +kernel
theorem d2_154 : decode prog_15_method_7_code 154 = .ok (.iload_n 2, 1) := by decide +kernel
theorem d2_155 : decode prog_15_method_7_code 155 = .ok (.bipush 63, 2) := by decide +kernel
theorem d2_157 : decode prog_15_method_7_code 157 = .ok (.iand, 1) := by decide +kernel
theorem d2_158 : decode prog_15_method_7_code 158 = .ok (.ior, 1) := by decide +kernel
theorem d2_159 : decode prog_15_method_7_code 159 = .ok (.invokestatic 11, 3) := by decide +kernel
theorem d2_162 : decode prog_15_method_7_code 162 = .ok (.lstore_n 3, 1) := by decide +kernel
theorem d2_163 : decode prog_15_method_7_code 163 = .ok (.lload_n 3, 1) := by decide +kernel
theorem d2_164 : decode prog_15_method_7_code 164 = .ok (.lreturn, 1) := by decide +kernel
theorem pn_2 : plainName "com/example/pocket_simhash/pocketsimhash/Fnv1a64" = true := by first | (simp [plainName, overriddenIn]; done) | decide +kernel
theorem ef_2 (m : MethodId) (q0 : Int64) (p1 : Int32) : entryFrame m #[(.long q0), (.int p1)] 5 = mkF m 0 #[.val (.long q0), .second, .val (.int p1), .unset, .unset] [] := by first | (simp [entryFrame, mkF, argsToLocals, Value.category]; done) | rfl
def f_2 (q0 : Int64) (p1 : Int32) : Int64 := if p1 < (128 : Int32) then (f_3 q0 p1) else (if p1 < (2048 : Int32) then (f_3 (f_3 q0 ((192 : Int32) ||| ((p1.toUInt32 >>> ((6 : Int32) &&& 31).toUInt32).toInt32))) ((128 : Int32) ||| (p1 &&& (63 : Int32)))) else (if p1 < (65536 : Int32) then (f_3 (f_3 (f_3 q0 ((224 : Int32) ||| ((p1.toUInt32 >>> ((12 : Int32) &&& 31).toUInt32).toInt32))) ((128 : Int32) ||| (((p1.toUInt32 >>> ((6 : Int32) &&& 31).toUInt32).toInt32) &&& (63 : Int32)))) ((128 : Int32) ||| (p1 &&& (63 : Int32)))) else (f_3 (f_3 (f_3 (f_3 q0 ((240 : Int32) ||| ((p1.toUInt32 >>> ((18 : Int32) &&& 31).toUInt32).toInt32))) ((128 : Int32) ||| (((p1.toUInt32 >>> ((12 : Int32) &&& 31).toUInt32).toInt32) &&& (63 : Int32)))) ((128 : Int32) ||| (((p1.toUInt32 >>> ((6 : Int32) &&& 31).toUInt32).toInt32) &&& (63 : Int32)))) ((128 : Int32) ||| (p1 &&& (63 : Int32))))))
set_option maxRecDepth 65536 in
set_option maxHeartbeats 40000000 in
theorem rm2 {l : Launch} {Z : State} {a0 : Array Value} (hw : ∀ d ∈ tables_1, d.before a0 Z = true) (q0 : Int64) (p1 : Int32) (h0 : Heap) (n0 : Nat) (hz : n0 ≤ h0.size) :
    OMet l Z (⟨"com/example/pocket_simhash/pocketsimhash/Fnv1a64", "extend", "(JI)J"⟩ : MethodName) prog_15_method_7_code 5 (some .long) ({ frames := 1, cells := 0, slots := 0, locals := 14 } : Room) #[(.long q0), (.int p1)] h0 n0 ({ frames := 1, cells := 0, slots := 0, locals := 14 } : Room).cells ({ frames := 1, cells := 0, slots := 0, locals := 14 } : Room).slots (OVal h0 (.long (f_2 q0 p1))) := by
  refine o_body (plainFor_of_name pn_2) hz (fun m => ef_2 m q0 p1) ?_
  intro p e s m below meth c s₁ G0
  refine o_lloadN G0 d2_0 (pc' := 1) rfl rfl ?_
  refine o_lstoreN G0 d2_1 (pc' := 2) rfl (l' := #[.val (.long q0), .second, .val (.int p1), .val (.long q0), .second]) rfl ?_
  refine o_iloadN G0 d2_2 (pc' := 3) rfl rfl ?_
  refine o_sipush G0 d2_3 (pc' := 6) rfl (v := (128 : Int32)) rfl ?_
  refine o_icmp_ge G0 d2_6 (by decide) (pcT := 18) (by decide) (pc' := 9) rfl (fun hc6 => ?_) (fun hc6 => ?_)
  · refine o_iloadN G0 d2_18 (pc' := 19) rfl rfl ?_
    refine o_sipush G0 d2_19 (pc' := 22) rfl (v := (2048 : Int32)) rfl ?_
    refine o_icmp_ge G0 d2_22 (by decide) (pcT := 54) (by decide) (pc' := 25) rfl (fun hc22 => ?_) (fun hc22 => ?_)
    · refine o_iloadN G0 d2_54 (pc' := 55) rfl rfl ?_
      refine o_ldc G0 d2_55 (pc' := 57) rfl (hw _ (List.mem_of_getElem? (i := 10) rfl)) ?_
      refine o_icmp_ge G0 d2_57 (by decide) (pcT := 105) (by decide) (pc' := 60) rfl (fun hc57 => ?_) (fun hc57 => ?_)
      · refine o_lloadN G0 d2_105 (pc' := 106) rfl rfl ?_
        refine o_sipush G0 d2_106 (pc' := 109) rfl (v := (240 : Int32)) rfl ?_
        refine o_iloadN G0 d2_109 (pc' := 110) rfl rfl ?_
        refine o_bipush G0 d2_110 (pc' := 112) rfl (v := (18 : Int32)) rfl ?_
        obtain ⟨v1, e1⟩ : ∃ z, (p1.toUInt32 >>> ((18 : Int32) &&& 31).toUInt32).toInt32 = z := ⟨_, rfl⟩
        refine o_iushr G0 d2_112 (pc' := 113) rfl e1 ?_
        obtain ⟨v2, e2⟩ : ∃ z, (240 : Int32) ||| v1 = z := ⟨_, rfl⟩
        refine o_ior G0 d2_113 (pc' := 114) rfl e2 ?_
        obtain ⟨v3, e3⟩ : ∃ z, f_3 q0 v2 = z := ⟨_, rfl⟩
        refine o_callP G0 (z := (⟨"com/example/pocket_simhash/pocketsimhash/Fnv1a64", "mix", "(JI)J"⟩ : MethodName)) (r := (.long v3)) (argsL := [(.long q0), (.int v2)]) (rest := []) (W := 0) (hw _ (List.mem_of_getElem? (i := 11) rfl)) (hw _ (List.mem_of_getElem? (i := 12) rfl)) d2_114 (by decide) (hw _ (List.mem_of_getElem? (i := 8) rfl)) (hw _ (List.mem_of_getElem? (i := 13) rfl)) (by rw [← e3]; exact rm3 hw q0 v2 h0 n0 G0.sz) (by decide) (by decide) rfl (lenOf pd_0 rfl) rfl (Nat.le_of_eq rfl) (pc' := 117) rfl (by decide) (by decide) ?_
        intro T4 G4
        refine o_lstoreN G4 d2_117 (pc' := 118) rfl (l' := #[.val (.long q0), .second, .val (.int p1), .val (.long v3), .second]) rfl ?_
        refine o_lloadN G4 d2_118 (pc' := 119) rfl rfl ?_
        refine o_sipush G4 d2_119 (pc' := 122) rfl (v := (128 : Int32)) rfl ?_
        refine o_iloadN G4 d2_122 (pc' := 123) rfl rfl ?_
        refine o_bipush G4 d2_123 (pc' := 125) rfl (v := (12 : Int32)) rfl ?_
        obtain ⟨v5, e5⟩ : ∃ z, (p1.toUInt32 >>> ((12 : Int32) &&& 31).toUInt32).toInt32 = z := ⟨_, rfl⟩
        refine o_iushr G4 d2_125 (pc' := 126) rfl e5 ?_
        refine o_bipush G4 d2_126 (pc' := 128) rfl (v := (63 : Int32)) rfl ?_
        obtain ⟨v6, e6⟩ : ∃ z, v5 &&& (63 : Int32) = z := ⟨_, rfl⟩
        refine o_iand G4 d2_128 (pc' := 129) rfl e6 ?_
        obtain ⟨v7, e7⟩ : ∃ z, (128 : Int32) ||| v6 = z := ⟨_, rfl⟩
        refine o_ior G4 d2_129 (pc' := 130) rfl e7 ?_
        obtain ⟨v8, e8⟩ : ∃ z, f_3 v3 v7 = z := ⟨_, rfl⟩
        refine o_callP G4 (z := (⟨"com/example/pocket_simhash/pocketsimhash/Fnv1a64", "mix", "(JI)J"⟩ : MethodName)) (r := (.long v8)) (argsL := [(.long v3), (.int v7)]) (rest := []) (W := 0) (hw _ (List.mem_of_getElem? (i := 11) rfl)) (hw _ (List.mem_of_getElem? (i := 12) rfl)) d2_130 (by decide) (hw _ (List.mem_of_getElem? (i := 8) rfl)) (hw _ (List.mem_of_getElem? (i := 13) rfl)) (by rw [← e8]; exact rm3 hw v3 v7 h0 n0 G4.sz) (by decide) (by decide) rfl (lenOf pd_0 rfl) rfl (Nat.le_of_eq rfl) (pc' := 133) rfl (by decide) (by decide) ?_
        intro T9 G9
        refine o_lstoreN G9 d2_133 (pc' := 134) rfl (l' := #[.val (.long q0), .second, .val (.int p1), .val (.long v8), .second]) rfl ?_
        refine o_lloadN G9 d2_134 (pc' := 135) rfl rfl ?_
        refine o_sipush G9 d2_135 (pc' := 138) rfl (v := (128 : Int32)) rfl ?_
        refine o_iloadN G9 d2_138 (pc' := 139) rfl rfl ?_
        refine o_bipush G9 d2_139 (pc' := 141) rfl (v := (6 : Int32)) rfl ?_
        obtain ⟨v10, e10⟩ : ∃ z, (p1.toUInt32 >>> ((6 : Int32) &&& 31).toUInt32).toInt32 = z := ⟨_, rfl⟩
        refine o_iushr G9 d2_141 (pc' := 142) rfl e10 ?_
        refine o_bipush G9 d2_142 (pc' := 144) rfl (v := (63 : Int32)) rfl ?_
        obtain ⟨v11, e11⟩ : ∃ z, v10 &&& (63 : Int32) = z := ⟨_, rfl⟩
        refine o_iand G9 d2_144 (pc' := 145) rfl e11 ?_
        obtain ⟨v12, e12⟩ : ∃ z, (128 : Int32) ||| v11 = z := ⟨_, rfl⟩
        refine o_ior G9 d2_145 (pc' := 146) rfl e12 ?_
        obtain ⟨v13, e13⟩ : ∃ z, f_3 v8 v12 = z := ⟨_, rfl⟩
        refine o_callP G9 (z := (⟨"com/example/pocket_simhash/pocketsimhash/Fnv1a64", "mix", "(JI)J"⟩ : MethodName)) (r := (.long v13)) (argsL := [(.long v8), (.int v12)]) (rest := []) (W := 0) (hw _ (List.mem_of_getElem? (i := 11) rfl)) (hw _ (List.mem_of_getElem? (i := 12) rfl)) d2_146 (by decide) (hw _ (List.mem_of_getElem? (i := 8) rfl)) (hw _ (List.mem_of_getElem? (i := 13) rfl)) (by rw [← e13]; exact rm3 hw v8 v12 h0 n0 G9.sz) (by decide) (by decide) rfl (lenOf pd_0 rfl) rfl (Nat.le_of_eq rfl) (pc' := 149) rfl (by decide) (by decide) ?_
        intro T14 G14
        refine o_lstoreN G14 d2_149 (pc' := 150) rfl (l' := #[.val (.long q0), .second, .val (.int p1), .val (.long v13), .second]) rfl ?_
        refine o_lloadN G14 d2_150 (pc' := 151) rfl rfl ?_
        refine o_sipush G14 d2_151 (pc' := 154) rfl (v := (128 : Int32)) rfl ?_
        refine o_iloadN G14 d2_154 (pc' := 155) rfl rfl ?_
        refine o_bipush G14 d2_155 (pc' := 157) rfl (v := (63 : Int32)) rfl ?_
        obtain ⟨v15, e15⟩ : ∃ z, p1 &&& (63 : Int32) = z := ⟨_, rfl⟩
        refine o_iand G14 d2_157 (pc' := 158) rfl e15 ?_
        obtain ⟨v16, e16⟩ : ∃ z, (128 : Int32) ||| v15 = z := ⟨_, rfl⟩
        refine o_ior G14 d2_158 (pc' := 159) rfl e16 ?_
        obtain ⟨v17, e17⟩ : ∃ z, f_3 v13 v16 = z := ⟨_, rfl⟩
        refine o_callP G14 (z := (⟨"com/example/pocket_simhash/pocketsimhash/Fnv1a64", "mix", "(JI)J"⟩ : MethodName)) (r := (.long v17)) (argsL := [(.long v13), (.int v16)]) (rest := []) (W := 0) (hw _ (List.mem_of_getElem? (i := 11) rfl)) (hw _ (List.mem_of_getElem? (i := 12) rfl)) d2_159 (by decide) (hw _ (List.mem_of_getElem? (i := 8) rfl)) (hw _ (List.mem_of_getElem? (i := 13) rfl)) (by rw [← e17]; exact rm3 hw v13 v16 h0 n0 G14.sz) (by decide) (by decide) rfl (lenOf pd_0 rfl) rfl (Nat.le_of_eq rfl) (pc' := 162) rfl (by decide) (by decide) ?_
        intro T18 G18
        refine o_lstoreN G18 d2_162 (pc' := 163) rfl (l' := #[.val (.long q0), .second, .val (.int p1), .val (.long v17), .second]) rfl ?_
        refine o_lloadN G18 d2_163 (pc' := 164) rfl rfl ?_
        have hq : v17 = f_2 q0 p1 := by
          subst e1 e2 e3 e5 e6 e7 e8 e10 e11 e12 e13 e15 e16 e17
          rw [f_2, if_neg hc6, if_neg hc22, if_neg hc57]
        exact o_lreturn G18 d2_164 ⟨congrArg (fun z => some (Value.long z)) hq, rfl⟩ (by decide) (by decide)
      · refine o_lloadN G0 d2_60 (pc' := 61) rfl rfl ?_
        refine o_sipush G0 d2_61 (pc' := 64) rfl (v := (224 : Int32)) rfl ?_
        refine o_iloadN G0 d2_64 (pc' := 65) rfl rfl ?_
        refine o_bipush G0 d2_65 (pc' := 67) rfl (v := (12 : Int32)) rfl ?_
        obtain ⟨v19, e19⟩ : ∃ z, (p1.toUInt32 >>> ((12 : Int32) &&& 31).toUInt32).toInt32 = z := ⟨_, rfl⟩
        refine o_iushr G0 d2_67 (pc' := 68) rfl e19 ?_
        obtain ⟨v20, e20⟩ : ∃ z, (224 : Int32) ||| v19 = z := ⟨_, rfl⟩
        refine o_ior G0 d2_68 (pc' := 69) rfl e20 ?_
        obtain ⟨v21, e21⟩ : ∃ z, f_3 q0 v20 = z := ⟨_, rfl⟩
        refine o_callP G0 (z := (⟨"com/example/pocket_simhash/pocketsimhash/Fnv1a64", "mix", "(JI)J"⟩ : MethodName)) (r := (.long v21)) (argsL := [(.long q0), (.int v20)]) (rest := []) (W := 0) (hw _ (List.mem_of_getElem? (i := 11) rfl)) (hw _ (List.mem_of_getElem? (i := 12) rfl)) d2_69 (by decide) (hw _ (List.mem_of_getElem? (i := 8) rfl)) (hw _ (List.mem_of_getElem? (i := 13) rfl)) (by rw [← e21]; exact rm3 hw q0 v20 h0 n0 G0.sz) (by decide) (by decide) rfl (lenOf pd_0 rfl) rfl (Nat.le_of_eq rfl) (pc' := 72) rfl (by decide) (by decide) ?_
        intro T22 G22
        refine o_lstoreN G22 d2_72 (pc' := 73) rfl (l' := #[.val (.long q0), .second, .val (.int p1), .val (.long v21), .second]) rfl ?_
        refine o_lloadN G22 d2_73 (pc' := 74) rfl rfl ?_
        refine o_sipush G22 d2_74 (pc' := 77) rfl (v := (128 : Int32)) rfl ?_
        refine o_iloadN G22 d2_77 (pc' := 78) rfl rfl ?_
        refine o_bipush G22 d2_78 (pc' := 80) rfl (v := (6 : Int32)) rfl ?_
        obtain ⟨v23, e23⟩ : ∃ z, (p1.toUInt32 >>> ((6 : Int32) &&& 31).toUInt32).toInt32 = z := ⟨_, rfl⟩
        refine o_iushr G22 d2_80 (pc' := 81) rfl e23 ?_
        refine o_bipush G22 d2_81 (pc' := 83) rfl (v := (63 : Int32)) rfl ?_
        obtain ⟨v24, e24⟩ : ∃ z, v23 &&& (63 : Int32) = z := ⟨_, rfl⟩
        refine o_iand G22 d2_83 (pc' := 84) rfl e24 ?_
        obtain ⟨v25, e25⟩ : ∃ z, (128 : Int32) ||| v24 = z := ⟨_, rfl⟩
        refine o_ior G22 d2_84 (pc' := 85) rfl e25 ?_
        obtain ⟨v26, e26⟩ : ∃ z, f_3 v21 v25 = z := ⟨_, rfl⟩
        refine o_callP G22 (z := (⟨"com/example/pocket_simhash/pocketsimhash/Fnv1a64", "mix", "(JI)J"⟩ : MethodName)) (r := (.long v26)) (argsL := [(.long v21), (.int v25)]) (rest := []) (W := 0) (hw _ (List.mem_of_getElem? (i := 11) rfl)) (hw _ (List.mem_of_getElem? (i := 12) rfl)) d2_85 (by decide) (hw _ (List.mem_of_getElem? (i := 8) rfl)) (hw _ (List.mem_of_getElem? (i := 13) rfl)) (by rw [← e26]; exact rm3 hw v21 v25 h0 n0 G22.sz) (by decide) (by decide) rfl (lenOf pd_0 rfl) rfl (Nat.le_of_eq rfl) (pc' := 88) rfl (by decide) (by decide) ?_
        intro T27 G27
        refine o_lstoreN G27 d2_88 (pc' := 89) rfl (l' := #[.val (.long q0), .second, .val (.int p1), .val (.long v26), .second]) rfl ?_
        refine o_lloadN G27 d2_89 (pc' := 90) rfl rfl ?_
        refine o_sipush G27 d2_90 (pc' := 93) rfl (v := (128 : Int32)) rfl ?_
        refine o_iloadN G27 d2_93 (pc' := 94) rfl rfl ?_
        refine o_bipush G27 d2_94 (pc' := 96) rfl (v := (63 : Int32)) rfl ?_
        obtain ⟨v28, e28⟩ : ∃ z, p1 &&& (63 : Int32) = z := ⟨_, rfl⟩
        refine o_iand G27 d2_96 (pc' := 97) rfl e28 ?_
        obtain ⟨v29, e29⟩ : ∃ z, (128 : Int32) ||| v28 = z := ⟨_, rfl⟩
        refine o_ior G27 d2_97 (pc' := 98) rfl e29 ?_
        obtain ⟨v30, e30⟩ : ∃ z, f_3 v26 v29 = z := ⟨_, rfl⟩
        refine o_callP G27 (z := (⟨"com/example/pocket_simhash/pocketsimhash/Fnv1a64", "mix", "(JI)J"⟩ : MethodName)) (r := (.long v30)) (argsL := [(.long v26), (.int v29)]) (rest := []) (W := 0) (hw _ (List.mem_of_getElem? (i := 11) rfl)) (hw _ (List.mem_of_getElem? (i := 12) rfl)) d2_98 (by decide) (hw _ (List.mem_of_getElem? (i := 8) rfl)) (hw _ (List.mem_of_getElem? (i := 13) rfl)) (by rw [← e30]; exact rm3 hw v26 v29 h0 n0 G27.sz) (by decide) (by decide) rfl (lenOf pd_0 rfl) rfl (Nat.le_of_eq rfl) (pc' := 101) rfl (by decide) (by decide) ?_
        intro T31 G31
        refine o_lstoreN G31 d2_101 (pc' := 102) rfl (l' := #[.val (.long q0), .second, .val (.int p1), .val (.long v30), .second]) rfl ?_
        refine o_goto G31 d2_102 (by decide) (pc' := 163) rfl ?_
        refine o_lloadN G31 d2_163 (pc' := 164) rfl rfl ?_
        have hq : v30 = f_2 q0 p1 := by
          subst e19 e20 e21 e23 e24 e25 e26 e28 e29 e30
          rw [f_2, if_neg hc6, if_neg hc22, if_pos hc57]
        exact o_lreturn G31 d2_164 ⟨congrArg (fun z => some (Value.long z)) hq, rfl⟩ (by decide) (by decide)
    · refine o_lloadN G0 d2_25 (pc' := 26) rfl rfl ?_
      refine o_sipush G0 d2_26 (pc' := 29) rfl (v := (192 : Int32)) rfl ?_
      refine o_iloadN G0 d2_29 (pc' := 30) rfl rfl ?_
      refine o_bipush G0 d2_30 (pc' := 32) rfl (v := (6 : Int32)) rfl ?_
      obtain ⟨v32, e32⟩ : ∃ z, (p1.toUInt32 >>> ((6 : Int32) &&& 31).toUInt32).toInt32 = z := ⟨_, rfl⟩
      refine o_iushr G0 d2_32 (pc' := 33) rfl e32 ?_
      obtain ⟨v33, e33⟩ : ∃ z, (192 : Int32) ||| v32 = z := ⟨_, rfl⟩
      refine o_ior G0 d2_33 (pc' := 34) rfl e33 ?_
      obtain ⟨v34, e34⟩ : ∃ z, f_3 q0 v33 = z := ⟨_, rfl⟩
      refine o_callP G0 (z := (⟨"com/example/pocket_simhash/pocketsimhash/Fnv1a64", "mix", "(JI)J"⟩ : MethodName)) (r := (.long v34)) (argsL := [(.long q0), (.int v33)]) (rest := []) (W := 0) (hw _ (List.mem_of_getElem? (i := 11) rfl)) (hw _ (List.mem_of_getElem? (i := 12) rfl)) d2_34 (by decide) (hw _ (List.mem_of_getElem? (i := 8) rfl)) (hw _ (List.mem_of_getElem? (i := 13) rfl)) (by rw [← e34]; exact rm3 hw q0 v33 h0 n0 G0.sz) (by decide) (by decide) rfl (lenOf pd_0 rfl) rfl (Nat.le_of_eq rfl) (pc' := 37) rfl (by decide) (by decide) ?_
      intro T35 G35
      refine o_lstoreN G35 d2_37 (pc' := 38) rfl (l' := #[.val (.long q0), .second, .val (.int p1), .val (.long v34), .second]) rfl ?_
      refine o_lloadN G35 d2_38 (pc' := 39) rfl rfl ?_
      refine o_sipush G35 d2_39 (pc' := 42) rfl (v := (128 : Int32)) rfl ?_
      refine o_iloadN G35 d2_42 (pc' := 43) rfl rfl ?_
      refine o_bipush G35 d2_43 (pc' := 45) rfl (v := (63 : Int32)) rfl ?_
      obtain ⟨v36, e36⟩ : ∃ z, p1 &&& (63 : Int32) = z := ⟨_, rfl⟩
      refine o_iand G35 d2_45 (pc' := 46) rfl e36 ?_
      obtain ⟨v37, e37⟩ : ∃ z, (128 : Int32) ||| v36 = z := ⟨_, rfl⟩
      refine o_ior G35 d2_46 (pc' := 47) rfl e37 ?_
      obtain ⟨v38, e38⟩ : ∃ z, f_3 v34 v37 = z := ⟨_, rfl⟩
      refine o_callP G35 (z := (⟨"com/example/pocket_simhash/pocketsimhash/Fnv1a64", "mix", "(JI)J"⟩ : MethodName)) (r := (.long v38)) (argsL := [(.long v34), (.int v37)]) (rest := []) (W := 0) (hw _ (List.mem_of_getElem? (i := 11) rfl)) (hw _ (List.mem_of_getElem? (i := 12) rfl)) d2_47 (by decide) (hw _ (List.mem_of_getElem? (i := 8) rfl)) (hw _ (List.mem_of_getElem? (i := 13) rfl)) (by rw [← e38]; exact rm3 hw v34 v37 h0 n0 G35.sz) (by decide) (by decide) rfl (lenOf pd_0 rfl) rfl (Nat.le_of_eq rfl) (pc' := 50) rfl (by decide) (by decide) ?_
      intro T39 G39
      refine o_lstoreN G39 d2_50 (pc' := 51) rfl (l' := #[.val (.long q0), .second, .val (.int p1), .val (.long v38), .second]) rfl ?_
      refine o_goto G39 d2_51 (by decide) (pc' := 163) rfl ?_
      refine o_lloadN G39 d2_163 (pc' := 164) rfl rfl ?_
      have hq : v38 = f_2 q0 p1 := by
        subst e32 e33 e34 e36 e37 e38
        rw [f_2, if_neg hc6, if_pos hc22]
      exact o_lreturn G39 d2_164 ⟨congrArg (fun z => some (Value.long z)) hq, rfl⟩ (by decide) (by decide)
  · refine o_lloadN G0 d2_9 (pc' := 10) rfl rfl ?_
    refine o_iloadN G0 d2_10 (pc' := 11) rfl rfl ?_
    obtain ⟨v40, e40⟩ : ∃ z, f_3 q0 p1 = z := ⟨_, rfl⟩
    refine o_callP G0 (z := (⟨"com/example/pocket_simhash/pocketsimhash/Fnv1a64", "mix", "(JI)J"⟩ : MethodName)) (r := (.long v40)) (argsL := [(.long q0), (.int p1)]) (rest := []) (W := 0) (hw _ (List.mem_of_getElem? (i := 11) rfl)) (hw _ (List.mem_of_getElem? (i := 12) rfl)) d2_11 (by decide) (hw _ (List.mem_of_getElem? (i := 8) rfl)) (hw _ (List.mem_of_getElem? (i := 13) rfl)) (by rw [← e40]; exact rm3 hw q0 p1 h0 n0 G0.sz) (by decide) (by decide) rfl (lenOf pd_0 rfl) rfl (Nat.le_of_eq rfl) (pc' := 14) rfl (by decide) (by decide) ?_
    intro T41 G41
    refine o_lstoreN G41 d2_14 (pc' := 15) rfl (l' := #[.val (.long q0), .second, .val (.int p1), .val (.long v40), .second]) rfl ?_
    refine o_goto G41 d2_15 (by decide) (pc' := 163) rfl ?_
    refine o_lloadN G41 d2_163 (pc' := 164) rfl rfl ?_
    have hq : v40 = f_2 q0 p1 := by
      subst e40
      rw [f_2, if_pos hc6]
    exact o_lreturn G41 d2_164 ⟨congrArg (fun z => some (Value.long z)) hq, rfl⟩ (by decide) (by decide)
theorem pn_0 : plainName "com/example/pocket_simhash/pocketsimhash/Fnv1a64ExtendPinLaw" = true := by first | (simp [plainName, overriddenIn]; done) | decide +kernel
theorem ef_0 (m : MethodId) (q0 : Int64) (p1 : Int32) (p2 : Int32) (p3 : Int32) (p4 : Int32) (p5 : Int32) : entryFrame m #[(.long q0), (.int p1), (.int p2), (.int p3), (.int p4), (.int p5)] maxLocals = mkF m 0 #[.val (.long q0), .second, .val (.int p1), .val (.int p2), .val (.int p3), .val (.int p4), .val (.int p5), .unset, .unset, .unset, .unset, .unset, .unset, .unset, .unset, .unset] [] := by first | (simp [entryFrame, mkF, argsToLocals, Value.category, maxLocals]; done) | rfl
def f_0 (q0 : Int64) (p1 : Int32) (p2 : Int32) (p3 : Int32) (p4 : Int32) (p5 : Int32) : Int32 := if (p1 &&& (3 : Int32)) = (0 : Int32) then (if (f_2 q0 (p2 &&& (127 : Int32))) = (f_1 q0 (p2 &&& (127 : Int32))) then (1 : Int32) else (0 : Int32)) else (if (p1 &&& (3 : Int32)) = (1 : Int32) then (if (f_2 q0 (((((194 : Int32) + ((p2 &&& (2147483647 : Int32)) % (30 : Int32))) &&& (31 : Int32)) <<< ((6 : Int32) &&& 31)) ||| (((128 : Int32) ||| (p3 &&& (63 : Int32))) &&& (63 : Int32)))) = (f_1 (f_1 q0 ((194 : Int32) + ((p2 &&& (2147483647 : Int32)) % (30 : Int32)))) ((128 : Int32) ||| (p3 &&& (63 : Int32)))) then (1 : Int32) else (0 : Int32)) else (if (p1 &&& (3 : Int32)) = (2 : Int32) then (if ((224 : Int32) + ((p2 &&& (2147483647 : Int32)) % (16 : Int32))) = (224 : Int32) then (if (f_2 q0 ((((((224 : Int32) + ((p2 &&& (2147483647 : Int32)) % (16 : Int32))) &&& (15 : Int32)) <<< ((12 : Int32) &&& 31)) ||| (((((128 : Int32) ||| (p3 &&& (63 : Int32))) ||| (32 : Int32)) &&& (63 : Int32)) <<< ((6 : Int32) &&& 31))) ||| (((128 : Int32) ||| (p4 &&& (63 : Int32))) &&& (63 : Int32)))) = (f_1 (f_1 (f_1 q0 ((224 : Int32) + ((p2 &&& (2147483647 : Int32)) % (16 : Int32)))) (((128 : Int32) ||| (p3 &&& (63 : Int32))) ||| (32 : Int32))) ((128 : Int32) ||| (p4 &&& (63 : Int32)))) then (1 : Int32) else (0 : Int32)) else (if ((224 : Int32) + ((p2 &&& (2147483647 : Int32)) % (16 : Int32))) = (237 : Int32) then (if (f_2 q0 ((((((224 : Int32) + ((p2 &&& (2147483647 : Int32)) % (16 : Int32))) &&& (15 : Int32)) <<< ((12 : Int32) &&& 31)) ||| (((((128 : Int32) ||| (p3 &&& (63 : Int32))) &&& (159 : Int32)) &&& (63 : Int32)) <<< ((6 : Int32) &&& 31))) ||| (((128 : Int32) ||| (p4 &&& (63 : Int32))) &&& (63 : Int32)))) = (f_1 (f_1 (f_1 q0 ((224 : Int32) + ((p2 &&& (2147483647 : Int32)) % (16 : Int32)))) (((128 : Int32) ||| (p3 &&& (63 : Int32))) &&& (159 : Int32))) ((128 : Int32) ||| (p4 &&& (63 : Int32)))) then (1 : Int32) else (0 : Int32)) else (if (f_2 q0 ((((((224 : Int32) + ((p2 &&& (2147483647 : Int32)) % (16 : Int32))) &&& (15 : Int32)) <<< ((12 : Int32) &&& 31)) ||| ((((128 : Int32) ||| (p3 &&& (63 : Int32))) &&& (63 : Int32)) <<< ((6 : Int32) &&& 31))) ||| (((128 : Int32) ||| (p4 &&& (63 : Int32))) &&& (63 : Int32)))) = (f_1 (f_1 (f_1 q0 ((224 : Int32) + ((p2 &&& (2147483647 : Int32)) % (16 : Int32)))) ((128 : Int32) ||| (p3 &&& (63 : Int32)))) ((128 : Int32) ||| (p4 &&& (63 : Int32)))) then (1 : Int32) else (0 : Int32)))) else (if ((240 : Int32) + ((p2 &&& (2147483647 : Int32)) % (5 : Int32))) = (240 : Int32) then (if (f_2 q0 (((((((240 : Int32) + ((p2 &&& (2147483647 : Int32)) % (5 : Int32))) &&& (7 : Int32)) <<< ((18 : Int32) &&& 31)) ||| ((((144 : Int32) + ((p3 &&& (2147483647 : Int32)) % (48 : Int32))) &&& (63 : Int32)) <<< ((12 : Int32) &&& 31))) ||| ((((128 : Int32) ||| (p4 &&& (63 : Int32))) &&& (63 : Int32)) <<< ((6 : Int32) &&& 31))) ||| (((128 : Int32) ||| (p5 &&& (63 : Int32))) &&& (63 : Int32)))) = (f_1 (f_1 (f_1 (f_1 q0 ((240 : Int32) + ((p2 &&& (2147483647 : Int32)) % (5 : Int32)))) ((144 : Int32) + ((p3 &&& (2147483647 : Int32)) % (48 : Int32)))) ((128 : Int32) ||| (p4 &&& (63 : Int32)))) ((128 : Int32) ||| (p5 &&& (63 : Int32)))) then (1 : Int32) else (0 : Int32)) else (if ((240 : Int32) + ((p2 &&& (2147483647 : Int32)) % (5 : Int32))) = (244 : Int32) then (if (f_2 q0 (((((((240 : Int32) + ((p2 &&& (2147483647 : Int32)) % (5 : Int32))) &&& (7 : Int32)) <<< ((18 : Int32) &&& 31)) ||| ((((128 : Int32) ||| (p3 &&& (15 : Int32))) &&& (63 : Int32)) <<< ((12 : Int32) &&& 31))) ||| ((((128 : Int32) ||| (p4 &&& (63 : Int32))) &&& (63 : Int32)) <<< ((6 : Int32) &&& 31))) ||| (((128 : Int32) ||| (p5 &&& (63 : Int32))) &&& (63 : Int32)))) = (f_1 (f_1 (f_1 (f_1 q0 ((240 : Int32) + ((p2 &&& (2147483647 : Int32)) % (5 : Int32)))) ((128 : Int32) ||| (p3 &&& (15 : Int32)))) ((128 : Int32) ||| (p4 &&& (63 : Int32)))) ((128 : Int32) ||| (p5 &&& (63 : Int32)))) then (1 : Int32) else (0 : Int32)) else (if (f_2 q0 (((((((240 : Int32) + ((p2 &&& (2147483647 : Int32)) % (5 : Int32))) &&& (7 : Int32)) <<< ((18 : Int32) &&& 31)) ||| ((((128 : Int32) ||| (p3 &&& (63 : Int32))) &&& (63 : Int32)) <<< ((12 : Int32) &&& 31))) ||| ((((128 : Int32) ||| (p4 &&& (63 : Int32))) &&& (63 : Int32)) <<< ((6 : Int32) &&& 31))) ||| (((128 : Int32) ||| (p5 &&& (63 : Int32))) &&& (63 : Int32)))) = (f_1 (f_1 (f_1 (f_1 q0 ((240 : Int32) + ((p2 &&& (2147483647 : Int32)) % (5 : Int32)))) ((128 : Int32) ||| (p3 &&& (63 : Int32)))) ((128 : Int32) ||| (p4 &&& (63 : Int32)))) ((128 : Int32) ||| (p5 &&& (63 : Int32)))) then (1 : Int32) else (0 : Int32))))))
set_option maxRecDepth 65536 in
set_option maxHeartbeats 40000000 in
theorem rm0 {l : Launch} {Z : State} {a0 : Array Value} (hw : ∀ d ∈ tables_1, d.before a0 Z = true) (q0 : Int64) (p1 : Int32) (p2 : Int32) (p3 : Int32) (p4 : Int32) (p5 : Int32) (h0 : Heap) (n0 : Nat) (hz : n0 ≤ h0.size) :
    OMet l Z x code maxLocals ret room_1 #[(.long q0), (.int p1), (.int p2), (.int p3), (.int p4), (.int p5)] h0 n0 0 0 (OVal h0 (.int (f_0 q0 p1 p2 p3 p4 p5))) := by
  refine o_body (plainFor_of_name pn_0) hz (fun m => ef_0 m q0 p1 p2 p3 p4 p5) ?_
  intro p e s m below meth c s₁ G0
  refine o_iloadN G0 at_0 (pc' := 1) rfl rfl ?_
  refine o_iconst G0 at_1 (pc' := 2) rfl (v := (3 : Int32)) rfl ?_
  obtain ⟨v1, e1⟩ : ∃ z, p1 &&& (3 : Int32) = z := ⟨_, rfl⟩
  refine o_iand G0 at_2 (pc' := 3) rfl e1 ?_
  refine o_istore G0 at_3 (pc' := 5) rfl (l' := #[.val (.long q0), .second, .val (.int p1), .val (.int p2), .val (.int p3), .val (.int p4), .val (.int p5), .val (.int v1), .unset, .unset, .unset, .unset, .unset, .unset, .unset, .unset]) rfl ?_
  refine o_iloadN G0 at_5 (pc' := 6) rfl rfl ?_
  refine o_ldc G0 at_6 (pc' := 8) rfl (hw _ (List.mem_of_getElem? (i := 0) rfl)) ?_
  obtain ⟨v2, e2⟩ : ∃ z, p2 &&& (2147483647 : Int32) = z := ⟨_, rfl⟩
  refine o_iand G0 at_8 (pc' := 9) rfl e2 ?_
  refine o_istore G0 at_9 (pc' := 11) rfl (l' := #[.val (.long q0), .second, .val (.int p1), .val (.int p2), .val (.int p3), .val (.int p4), .val (.int p5), .val (.int v1), .val (.int v2), .unset, .unset, .unset, .unset, .unset, .unset, .unset]) rfl ?_
  refine o_sipush G0 at_11 (pc' := 14) rfl (v := (128 : Int32)) rfl ?_
  refine o_iload G0 at_14 (pc' := 16) rfl rfl ?_
  refine o_bipush G0 at_16 (pc' := 18) rfl (v := (63 : Int32)) rfl ?_
  obtain ⟨v3, e3⟩ : ∃ z, p3 &&& (63 : Int32) = z := ⟨_, rfl⟩
  refine o_iand G0 at_18 (pc' := 19) rfl e3 ?_
  obtain ⟨v4, e4⟩ : ∃ z, (128 : Int32) ||| v3 = z := ⟨_, rfl⟩
  refine o_ior G0 at_19 (pc' := 20) rfl e4 ?_
  refine o_istore G0 at_20 (pc' := 22) rfl (l' := #[.val (.long q0), .second, .val (.int p1), .val (.int p2), .val (.int p3), .val (.int p4), .val (.int p5), .val (.int v1), .val (.int v2), .val (.int v4), .unset, .unset, .unset, .unset, .unset, .unset]) rfl ?_
  refine o_sipush G0 at_22 (pc' := 25) rfl (v := (128 : Int32)) rfl ?_
  refine o_iload G0 at_25 (pc' := 27) rfl rfl ?_
  refine o_bipush G0 at_27 (pc' := 29) rfl (v := (63 : Int32)) rfl ?_
  obtain ⟨v5, e5⟩ : ∃ z, p4 &&& (63 : Int32) = z := ⟨_, rfl⟩
  refine o_iand G0 at_29 (pc' := 30) rfl e5 ?_
  obtain ⟨v6, e6⟩ : ∃ z, (128 : Int32) ||| v5 = z := ⟨_, rfl⟩
  refine o_ior G0 at_30 (pc' := 31) rfl e6 ?_
  refine o_istore G0 at_31 (pc' := 33) rfl (l' := #[.val (.long q0), .second, .val (.int p1), .val (.int p2), .val (.int p3), .val (.int p4), .val (.int p5), .val (.int v1), .val (.int v2), .val (.int v4), .val (.int v6), .unset, .unset, .unset, .unset, .unset]) rfl ?_
  refine o_sipush G0 at_33 (pc' := 36) rfl (v := (128 : Int32)) rfl ?_
  refine o_iload G0 at_36 (pc' := 38) rfl rfl ?_
  refine o_bipush G0 at_38 (pc' := 40) rfl (v := (63 : Int32)) rfl ?_
  obtain ⟨v7, e7⟩ : ∃ z, p5 &&& (63 : Int32) = z := ⟨_, rfl⟩
  refine o_iand G0 at_40 (pc' := 41) rfl e7 ?_
  obtain ⟨v8, e8⟩ : ∃ z, (128 : Int32) ||| v7 = z := ⟨_, rfl⟩
  refine o_ior G0 at_41 (pc' := 42) rfl e8 ?_
  refine o_istore G0 at_42 (pc' := 44) rfl (l' := #[.val (.long q0), .second, .val (.int p1), .val (.int p2), .val (.int p3), .val (.int p4), .val (.int p5), .val (.int v1), .val (.int v2), .val (.int v4), .val (.int v6), .val (.int v8), .unset, .unset, .unset, .unset]) rfl ?_
  refine o_iload G0 at_44 (pc' := 46) rfl rfl ?_
  refine o_if_ne G0 at_46 (by decide) (pcT := 70) (by decide) (pc' := 49) rfl (fun hc46 => ?_) (fun hc46 => ?_)
  · refine o_iload G0 at_70 (pc' := 72) rfl rfl ?_
    refine o_iconst G0 at_72 (pc' := 73) rfl (v := (1 : Int32)) rfl ?_
    refine o_icmp_ne G0 at_73 (by decide) (pcT := 119) (by decide) (pc' := 76) rfl (fun hc73 => ?_) (fun hc73 => ?_)
    · refine o_iload G0 at_119 (pc' := 121) rfl rfl ?_
      refine o_iconst G0 at_121 (pc' := 122) rfl (v := (2 : Int32)) rfl ?_
      refine o_icmp_ne G0 at_122 (by decide) (pcT := 216) (by decide) (pc' := 125) rfl (fun hc122 => ?_) (fun hc122 => ?_)
      · refine o_sipush G0 at_216 (pc' := 219) rfl (v := (240 : Int32)) rfl ?_
        refine o_iload G0 at_219 (pc' := 221) rfl rfl ?_
        refine o_iconst G0 at_221 (pc' := 222) rfl (v := (5 : Int32)) rfl ?_
        obtain ⟨v9, e9⟩ : ∃ z, v2 % (5 : Int32) = z := ⟨_, rfl⟩
        refine o_irem G0 at_222 (pc' := 223) rfl (by decide) e9 ?_
        obtain ⟨v10, e10⟩ : ∃ z, (240 : Int32) + v9 = z := ⟨_, rfl⟩
        refine o_iadd G0 at_223 (pc' := 224) rfl e10 ?_
        refine o_istore G0 at_224 (pc' := 226) rfl (l' := #[.val (.long q0), .second, .val (.int p1), .val (.int p2), .val (.int p3), .val (.int p4), .val (.int p5), .val (.int v1), .val (.int v2), .val (.int v4), .val (.int v6), .val (.int v8), .unset, .unset, .unset, .val (.int v10)]) rfl ?_
        refine o_iload G0 at_226 (pc' := 228) rfl rfl ?_
        refine o_sipush G0 at_228 (pc' := 231) rfl (v := (240 : Int32)) rfl ?_
        refine o_icmp_ne G0 at_231 (by decide) (pcT := 251) (by decide) (pc' := 234) rfl (fun hc231 => ?_) (fun hc231 => ?_)
        · refine o_iload G0 at_251 (pc' := 253) rfl rfl ?_
          refine o_sipush G0 at_253 (pc' := 256) rfl (v := (244 : Int32)) rfl ?_
          refine o_icmp_ne G0 at_256 (by decide) (pcT := 270) (by decide) (pc' := 259) rfl (fun hc256 => ?_) (fun hc256 => ?_)
          · refine o_iload G0 at_270 (pc' := 272) rfl rfl ?_
            refine o_bipush G0 at_272 (pc' := 274) rfl (v := (7 : Int32)) rfl ?_
            obtain ⟨v11, e11⟩ : ∃ z, v10 &&& (7 : Int32) = z := ⟨_, rfl⟩
            refine o_iand G0 at_274 (pc' := 275) rfl e11 ?_
            refine o_bipush G0 at_275 (pc' := 277) rfl (v := (18 : Int32)) rfl ?_
            obtain ⟨v12, e12⟩ : ∃ z, v11 <<< ((18 : Int32) &&& 31) = z := ⟨_, rfl⟩
            refine o_ishl G0 at_277 (pc' := 278) rfl e12 ?_
            refine o_iload G0 at_278 (pc' := 280) rfl rfl ?_
            refine o_bipush G0 at_280 (pc' := 282) rfl (v := (63 : Int32)) rfl ?_
            obtain ⟨v13, e13⟩ : ∃ z, v4 &&& (63 : Int32) = z := ⟨_, rfl⟩
            refine o_iand G0 at_282 (pc' := 283) rfl e13 ?_
            refine o_bipush G0 at_283 (pc' := 285) rfl (v := (12 : Int32)) rfl ?_
            obtain ⟨v14, e14⟩ : ∃ z, v13 <<< ((12 : Int32) &&& 31) = z := ⟨_, rfl⟩
            refine o_ishl G0 at_285 (pc' := 286) rfl e14 ?_
            obtain ⟨v15, e15⟩ : ∃ z, v12 ||| v14 = z := ⟨_, rfl⟩
            refine o_ior G0 at_286 (pc' := 287) rfl e15 ?_
            refine o_iload G0 at_287 (pc' := 289) rfl rfl ?_
            refine o_bipush G0 at_289 (pc' := 291) rfl (v := (63 : Int32)) rfl ?_
            obtain ⟨v16, e16⟩ : ∃ z, v6 &&& (63 : Int32) = z := ⟨_, rfl⟩
            refine o_iand G0 at_291 (pc' := 292) rfl e16 ?_
            refine o_bipush G0 at_292 (pc' := 294) rfl (v := (6 : Int32)) rfl ?_
            obtain ⟨v17, e17⟩ : ∃ z, v16 <<< ((6 : Int32) &&& 31) = z := ⟨_, rfl⟩
            refine o_ishl G0 at_294 (pc' := 295) rfl e17 ?_
            obtain ⟨v18, e18⟩ : ∃ z, v15 ||| v17 = z := ⟨_, rfl⟩
            refine o_ior G0 at_295 (pc' := 296) rfl e18 ?_
            refine o_iload G0 at_296 (pc' := 298) rfl rfl ?_
            refine o_bipush G0 at_298 (pc' := 300) rfl (v := (63 : Int32)) rfl ?_
            obtain ⟨v19, e19⟩ : ∃ z, v8 &&& (63 : Int32) = z := ⟨_, rfl⟩
            refine o_iand G0 at_300 (pc' := 301) rfl e19 ?_
            obtain ⟨v20, e20⟩ : ∃ z, v18 ||| v19 = z := ⟨_, rfl⟩
            refine o_ior G0 at_301 (pc' := 302) rfl e20 ?_
            refine o_istore G0 at_302 (pc' := 304) rfl (l' := #[.val (.long q0), .second, .val (.int p1), .val (.int p2), .val (.int p3), .val (.int p4), .val (.int p5), .val (.int v1), .val (.int v2), .val (.int v4), .val (.int v6), .val (.int v8), .val (.int v20), .unset, .unset, .val (.int v10)]) rfl ?_
            refine o_lloadN G0 at_304 (pc' := 305) rfl rfl ?_
            refine o_iload G0 at_305 (pc' := 307) rfl rfl ?_
            obtain ⟨v21, e21⟩ : ∃ z, f_1 q0 v10 = z := ⟨_, rfl⟩
            refine o_callP G0 (z := (⟨"com/example/pocket_simhash/pocketsimhash/Fnv1a64ExtendPinLaw", "mix", "(JI)J"⟩ : MethodName)) (r := (.long v21)) (argsL := [(.long q0), (.int v10)]) (rest := []) (W := 0) (hw _ (List.mem_of_getElem? (i := 1) rfl)) (hw _ (List.mem_of_getElem? (i := 2) rfl)) at_307 (by decide) (hw _ (List.mem_of_getElem? (i := 3) rfl)) (hw _ (List.mem_of_getElem? (i := 4) rfl)) (by rw [← e21]; exact rm1 hw q0 v10 h0 n0 G0.sz) (by decide) (by decide) rfl (lenOf pd_0 rfl) rfl (Nat.le_of_eq rfl) (pc' := 310) rfl (by decide) (by decide) ?_
            intro T22 G22
            refine o_iload G22 at_310 (pc' := 312) rfl rfl ?_
            obtain ⟨v23, e23⟩ : ∃ z, f_1 v21 v4 = z := ⟨_, rfl⟩
            refine o_callP G22 (z := (⟨"com/example/pocket_simhash/pocketsimhash/Fnv1a64ExtendPinLaw", "mix", "(JI)J"⟩ : MethodName)) (r := (.long v23)) (argsL := [(.long v21), (.int v4)]) (rest := []) (W := 0) (hw _ (List.mem_of_getElem? (i := 1) rfl)) (hw _ (List.mem_of_getElem? (i := 2) rfl)) at_312 (by decide) (hw _ (List.mem_of_getElem? (i := 3) rfl)) (hw _ (List.mem_of_getElem? (i := 4) rfl)) (by rw [← e23]; exact rm1 hw v21 v4 h0 n0 G22.sz) (by decide) (by decide) rfl (lenOf pd_0 rfl) rfl (Nat.le_of_eq rfl) (pc' := 315) rfl (by decide) (by decide) ?_
            intro T24 G24
            refine o_iload G24 at_315 (pc' := 317) rfl rfl ?_
            obtain ⟨v25, e25⟩ : ∃ z, f_1 v23 v6 = z := ⟨_, rfl⟩
            refine o_callP G24 (z := (⟨"com/example/pocket_simhash/pocketsimhash/Fnv1a64ExtendPinLaw", "mix", "(JI)J"⟩ : MethodName)) (r := (.long v25)) (argsL := [(.long v23), (.int v6)]) (rest := []) (W := 0) (hw _ (List.mem_of_getElem? (i := 1) rfl)) (hw _ (List.mem_of_getElem? (i := 2) rfl)) at_317 (by decide) (hw _ (List.mem_of_getElem? (i := 3) rfl)) (hw _ (List.mem_of_getElem? (i := 4) rfl)) (by rw [← e25]; exact rm1 hw v23 v6 h0 n0 G24.sz) (by decide) (by decide) rfl (lenOf pd_0 rfl) rfl (Nat.le_of_eq rfl) (pc' := 320) rfl (by decide) (by decide) ?_
            intro T26 G26
            refine o_iload G26 at_320 (pc' := 322) rfl rfl ?_
            obtain ⟨v27, e27⟩ : ∃ z, f_1 v25 v8 = z := ⟨_, rfl⟩
            refine o_callP G26 (z := (⟨"com/example/pocket_simhash/pocketsimhash/Fnv1a64ExtendPinLaw", "mix", "(JI)J"⟩ : MethodName)) (r := (.long v27)) (argsL := [(.long v25), (.int v8)]) (rest := []) (W := 0) (hw _ (List.mem_of_getElem? (i := 1) rfl)) (hw _ (List.mem_of_getElem? (i := 2) rfl)) at_322 (by decide) (hw _ (List.mem_of_getElem? (i := 3) rfl)) (hw _ (List.mem_of_getElem? (i := 4) rfl)) (by rw [← e27]; exact rm1 hw v25 v8 h0 n0 G26.sz) (by decide) (by decide) rfl (lenOf pd_0 rfl) rfl (Nat.le_of_eq rfl) (pc' := 325) rfl (by decide) (by decide) ?_
            intro T28 G28
            refine o_lstore G28 at_325 (pc' := 327) rfl (l' := #[.val (.long q0), .second, .val (.int p1), .val (.int p2), .val (.int p3), .val (.int p4), .val (.int p5), .val (.int v1), .val (.int v2), .val (.int v4), .val (.int v6), .val (.int v8), .val (.int v20), .val (.long v27), .second, .val (.int v10)]) rfl ?_
            refine o_lloadN G28 at_327 (pc' := 328) rfl rfl ?_
            refine o_iload G28 at_328 (pc' := 330) rfl rfl ?_
            obtain ⟨v29, e29⟩ : ∃ z, f_2 q0 v20 = z := ⟨_, rfl⟩
            refine o_callP G28 (z := (⟨"com/example/pocket_simhash/pocketsimhash/Fnv1a64", "extend", "(JI)J"⟩ : MethodName)) (r := (.long v29)) (argsL := [(.long q0), (.int v20)]) (rest := []) (W := 0) (hw _ (List.mem_of_getElem? (i := 6) rfl)) (hw _ (List.mem_of_getElem? (i := 7) rfl)) at_330 (by decide) (hw _ (List.mem_of_getElem? (i := 8) rfl)) (hw _ (List.mem_of_getElem? (i := 9) rfl)) (by rw [← e29]; exact rm2 hw q0 v20 h0 n0 G28.sz) (by decide) (by decide) rfl (lenOf pd_0 rfl) rfl (Nat.le_of_eq rfl) (pc' := 333) rfl (by decide) (by decide) ?_
            intro T30 G30
            refine o_lload G30 at_333 (pc' := 335) rfl rfl ?_
            refine o_lcmp_ne G30 at_335 (pc1 := 336) rfl at_336 (by decide) (pcT := 343) (by decide) (pc' := 339) rfl (fun hc335 => ?_) (fun hc335 => ?_)
            · refine o_iconst G30 at_343 (pc' := 344) rfl (v := (0 : Int32)) rfl ?_
              have hq : (nar .boolean (0 : Int32)) = f_0 q0 p1 p2 p3 p4 p5 := by
                subst e1 e2 e3 e4 e5 e6 e7 e8 e9 e10 e11 e12 e13 e14 e15 e16 e17 e18 e19 e20 e21 e23 e25 e27 e29
                rw [f_0, if_neg hc46, if_neg hc73, if_neg hc122, if_neg hc231, if_neg hc256, if_neg hc335]
                try rfl
              exact o_nreturn (t := .boolean) G30 (by simp) at_344 ⟨congrArg (fun z => some (Value.int z)) hq, rfl⟩ (by decide) (by decide)
            · refine o_iconst G30 at_339 (pc' := 340) rfl (v := (1 : Int32)) rfl ?_
              refine o_goto G30 at_340 (by decide) (pc' := 344) rfl ?_
              have hq : (nar .boolean (1 : Int32)) = f_0 q0 p1 p2 p3 p4 p5 := by
                subst e1 e2 e3 e4 e5 e6 e7 e8 e9 e10 e11 e12 e13 e14 e15 e16 e17 e18 e19 e20 e21 e23 e25 e27 e29
                rw [f_0, if_neg hc46, if_neg hc73, if_neg hc122, if_neg hc231, if_neg hc256, if_pos hc335]
                try rfl
              exact o_nreturn (t := .boolean) G30 (by simp) at_344 ⟨congrArg (fun z => some (Value.int z)) hq, rfl⟩ (by decide) (by decide)
          · refine o_sipush G0 at_259 (pc' := 262) rfl (v := (128 : Int32)) rfl ?_
            refine o_iload G0 at_262 (pc' := 264) rfl rfl ?_
            refine o_bipush G0 at_264 (pc' := 266) rfl (v := (15 : Int32)) rfl ?_
            obtain ⟨v31, e31⟩ : ∃ z, p3 &&& (15 : Int32) = z := ⟨_, rfl⟩
            refine o_iand G0 at_266 (pc' := 267) rfl e31 ?_
            obtain ⟨v32, e32⟩ : ∃ z, (128 : Int32) ||| v31 = z := ⟨_, rfl⟩
            refine o_ior G0 at_267 (pc' := 268) rfl e32 ?_
            refine o_istore G0 at_268 (pc' := 270) rfl (l' := #[.val (.long q0), .second, .val (.int p1), .val (.int p2), .val (.int p3), .val (.int p4), .val (.int p5), .val (.int v1), .val (.int v2), .val (.int v32), .val (.int v6), .val (.int v8), .unset, .unset, .unset, .val (.int v10)]) rfl ?_
            refine o_iload G0 at_270 (pc' := 272) rfl rfl ?_
            refine o_bipush G0 at_272 (pc' := 274) rfl (v := (7 : Int32)) rfl ?_
            obtain ⟨v33, e33⟩ : ∃ z, v10 &&& (7 : Int32) = z := ⟨_, rfl⟩
            refine o_iand G0 at_274 (pc' := 275) rfl e33 ?_
            refine o_bipush G0 at_275 (pc' := 277) rfl (v := (18 : Int32)) rfl ?_
            obtain ⟨v34, e34⟩ : ∃ z, v33 <<< ((18 : Int32) &&& 31) = z := ⟨_, rfl⟩
            refine o_ishl G0 at_277 (pc' := 278) rfl e34 ?_
            refine o_iload G0 at_278 (pc' := 280) rfl rfl ?_
            refine o_bipush G0 at_280 (pc' := 282) rfl (v := (63 : Int32)) rfl ?_
            obtain ⟨v35, e35⟩ : ∃ z, v32 &&& (63 : Int32) = z := ⟨_, rfl⟩
            refine o_iand G0 at_282 (pc' := 283) rfl e35 ?_
            refine o_bipush G0 at_283 (pc' := 285) rfl (v := (12 : Int32)) rfl ?_
            obtain ⟨v36, e36⟩ : ∃ z, v35 <<< ((12 : Int32) &&& 31) = z := ⟨_, rfl⟩
            refine o_ishl G0 at_285 (pc' := 286) rfl e36 ?_
            obtain ⟨v37, e37⟩ : ∃ z, v34 ||| v36 = z := ⟨_, rfl⟩
            refine o_ior G0 at_286 (pc' := 287) rfl e37 ?_
            refine o_iload G0 at_287 (pc' := 289) rfl rfl ?_
            refine o_bipush G0 at_289 (pc' := 291) rfl (v := (63 : Int32)) rfl ?_
            obtain ⟨v38, e38⟩ : ∃ z, v6 &&& (63 : Int32) = z := ⟨_, rfl⟩
            refine o_iand G0 at_291 (pc' := 292) rfl e38 ?_
            refine o_bipush G0 at_292 (pc' := 294) rfl (v := (6 : Int32)) rfl ?_
            obtain ⟨v39, e39⟩ : ∃ z, v38 <<< ((6 : Int32) &&& 31) = z := ⟨_, rfl⟩
            refine o_ishl G0 at_294 (pc' := 295) rfl e39 ?_
            obtain ⟨v40, e40⟩ : ∃ z, v37 ||| v39 = z := ⟨_, rfl⟩
            refine o_ior G0 at_295 (pc' := 296) rfl e40 ?_
            refine o_iload G0 at_296 (pc' := 298) rfl rfl ?_
            refine o_bipush G0 at_298 (pc' := 300) rfl (v := (63 : Int32)) rfl ?_
            obtain ⟨v41, e41⟩ : ∃ z, v8 &&& (63 : Int32) = z := ⟨_, rfl⟩
            refine o_iand G0 at_300 (pc' := 301) rfl e41 ?_
            obtain ⟨v42, e42⟩ : ∃ z, v40 ||| v41 = z := ⟨_, rfl⟩
            refine o_ior G0 at_301 (pc' := 302) rfl e42 ?_
            refine o_istore G0 at_302 (pc' := 304) rfl (l' := #[.val (.long q0), .second, .val (.int p1), .val (.int p2), .val (.int p3), .val (.int p4), .val (.int p5), .val (.int v1), .val (.int v2), .val (.int v32), .val (.int v6), .val (.int v8), .val (.int v42), .unset, .unset, .val (.int v10)]) rfl ?_
            refine o_lloadN G0 at_304 (pc' := 305) rfl rfl ?_
            refine o_iload G0 at_305 (pc' := 307) rfl rfl ?_
            obtain ⟨v43, e43⟩ : ∃ z, f_1 q0 v10 = z := ⟨_, rfl⟩
            refine o_callP G0 (z := (⟨"com/example/pocket_simhash/pocketsimhash/Fnv1a64ExtendPinLaw", "mix", "(JI)J"⟩ : MethodName)) (r := (.long v43)) (argsL := [(.long q0), (.int v10)]) (rest := []) (W := 0) (hw _ (List.mem_of_getElem? (i := 1) rfl)) (hw _ (List.mem_of_getElem? (i := 2) rfl)) at_307 (by decide) (hw _ (List.mem_of_getElem? (i := 3) rfl)) (hw _ (List.mem_of_getElem? (i := 4) rfl)) (by rw [← e43]; exact rm1 hw q0 v10 h0 n0 G0.sz) (by decide) (by decide) rfl (lenOf pd_0 rfl) rfl (Nat.le_of_eq rfl) (pc' := 310) rfl (by decide) (by decide) ?_
            intro T44 G44
            refine o_iload G44 at_310 (pc' := 312) rfl rfl ?_
            obtain ⟨v45, e45⟩ : ∃ z, f_1 v43 v32 = z := ⟨_, rfl⟩
            refine o_callP G44 (z := (⟨"com/example/pocket_simhash/pocketsimhash/Fnv1a64ExtendPinLaw", "mix", "(JI)J"⟩ : MethodName)) (r := (.long v45)) (argsL := [(.long v43), (.int v32)]) (rest := []) (W := 0) (hw _ (List.mem_of_getElem? (i := 1) rfl)) (hw _ (List.mem_of_getElem? (i := 2) rfl)) at_312 (by decide) (hw _ (List.mem_of_getElem? (i := 3) rfl)) (hw _ (List.mem_of_getElem? (i := 4) rfl)) (by rw [← e45]; exact rm1 hw v43 v32 h0 n0 G44.sz) (by decide) (by decide) rfl (lenOf pd_0 rfl) rfl (Nat.le_of_eq rfl) (pc' := 315) rfl (by decide) (by decide) ?_
            intro T46 G46
            refine o_iload G46 at_315 (pc' := 317) rfl rfl ?_
            obtain ⟨v47, e47⟩ : ∃ z, f_1 v45 v6 = z := ⟨_, rfl⟩
            refine o_callP G46 (z := (⟨"com/example/pocket_simhash/pocketsimhash/Fnv1a64ExtendPinLaw", "mix", "(JI)J"⟩ : MethodName)) (r := (.long v47)) (argsL := [(.long v45), (.int v6)]) (rest := []) (W := 0) (hw _ (List.mem_of_getElem? (i := 1) rfl)) (hw _ (List.mem_of_getElem? (i := 2) rfl)) at_317 (by decide) (hw _ (List.mem_of_getElem? (i := 3) rfl)) (hw _ (List.mem_of_getElem? (i := 4) rfl)) (by rw [← e47]; exact rm1 hw v45 v6 h0 n0 G46.sz) (by decide) (by decide) rfl (lenOf pd_0 rfl) rfl (Nat.le_of_eq rfl) (pc' := 320) rfl (by decide) (by decide) ?_
            intro T48 G48
            refine o_iload G48 at_320 (pc' := 322) rfl rfl ?_
            obtain ⟨v49, e49⟩ : ∃ z, f_1 v47 v8 = z := ⟨_, rfl⟩
            refine o_callP G48 (z := (⟨"com/example/pocket_simhash/pocketsimhash/Fnv1a64ExtendPinLaw", "mix", "(JI)J"⟩ : MethodName)) (r := (.long v49)) (argsL := [(.long v47), (.int v8)]) (rest := []) (W := 0) (hw _ (List.mem_of_getElem? (i := 1) rfl)) (hw _ (List.mem_of_getElem? (i := 2) rfl)) at_322 (by decide) (hw _ (List.mem_of_getElem? (i := 3) rfl)) (hw _ (List.mem_of_getElem? (i := 4) rfl)) (by rw [← e49]; exact rm1 hw v47 v8 h0 n0 G48.sz) (by decide) (by decide) rfl (lenOf pd_0 rfl) rfl (Nat.le_of_eq rfl) (pc' := 325) rfl (by decide) (by decide) ?_
            intro T50 G50
            refine o_lstore G50 at_325 (pc' := 327) rfl (l' := #[.val (.long q0), .second, .val (.int p1), .val (.int p2), .val (.int p3), .val (.int p4), .val (.int p5), .val (.int v1), .val (.int v2), .val (.int v32), .val (.int v6), .val (.int v8), .val (.int v42), .val (.long v49), .second, .val (.int v10)]) rfl ?_
            refine o_lloadN G50 at_327 (pc' := 328) rfl rfl ?_
            refine o_iload G50 at_328 (pc' := 330) rfl rfl ?_
            obtain ⟨v51, e51⟩ : ∃ z, f_2 q0 v42 = z := ⟨_, rfl⟩
            refine o_callP G50 (z := (⟨"com/example/pocket_simhash/pocketsimhash/Fnv1a64", "extend", "(JI)J"⟩ : MethodName)) (r := (.long v51)) (argsL := [(.long q0), (.int v42)]) (rest := []) (W := 0) (hw _ (List.mem_of_getElem? (i := 6) rfl)) (hw _ (List.mem_of_getElem? (i := 7) rfl)) at_330 (by decide) (hw _ (List.mem_of_getElem? (i := 8) rfl)) (hw _ (List.mem_of_getElem? (i := 9) rfl)) (by rw [← e51]; exact rm2 hw q0 v42 h0 n0 G50.sz) (by decide) (by decide) rfl (lenOf pd_0 rfl) rfl (Nat.le_of_eq rfl) (pc' := 333) rfl (by decide) (by decide) ?_
            intro T52 G52
            refine o_lload G52 at_333 (pc' := 335) rfl rfl ?_
            refine o_lcmp_ne G52 at_335 (pc1 := 336) rfl at_336 (by decide) (pcT := 343) (by decide) (pc' := 339) rfl (fun hc335 => ?_) (fun hc335 => ?_)
            · refine o_iconst G52 at_343 (pc' := 344) rfl (v := (0 : Int32)) rfl ?_
              have hq : (nar .boolean (0 : Int32)) = f_0 q0 p1 p2 p3 p4 p5 := by
                subst e1 e2 e3 e4 e5 e6 e7 e8 e9 e10 e31 e32 e33 e34 e35 e36 e37 e38 e39 e40 e41 e42 e43 e45 e47 e49 e51
                rw [f_0, if_neg hc46, if_neg hc73, if_neg hc122, if_neg hc231, if_pos hc256, if_neg hc335]
                try rfl
              exact o_nreturn (t := .boolean) G52 (by simp) at_344 ⟨congrArg (fun z => some (Value.int z)) hq, rfl⟩ (by decide) (by decide)
            · refine o_iconst G52 at_339 (pc' := 340) rfl (v := (1 : Int32)) rfl ?_
              refine o_goto G52 at_340 (by decide) (pc' := 344) rfl ?_
              have hq : (nar .boolean (1 : Int32)) = f_0 q0 p1 p2 p3 p4 p5 := by
                subst e1 e2 e3 e4 e5 e6 e7 e8 e9 e10 e31 e32 e33 e34 e35 e36 e37 e38 e39 e40 e41 e42 e43 e45 e47 e49 e51
                rw [f_0, if_neg hc46, if_neg hc73, if_neg hc122, if_neg hc231, if_pos hc256, if_pos hc335]
                try rfl
              exact o_nreturn (t := .boolean) G52 (by simp) at_344 ⟨congrArg (fun z => some (Value.int z)) hq, rfl⟩ (by decide) (by decide)
        · refine o_sipush G0 at_234 (pc' := 237) rfl (v := (144 : Int32)) rfl ?_
          refine o_iload G0 at_237 (pc' := 239) rfl rfl ?_
          refine o_ldc G0 at_239 (pc' := 241) rfl (hw _ (List.mem_of_getElem? (i := 0) rfl)) ?_
          obtain ⟨v53, e53⟩ : ∃ z, p3 &&& (2147483647 : Int32) = z := ⟨_, rfl⟩
          refine o_iand G0 at_241 (pc' := 242) rfl e53 ?_
          refine o_bipush G0 at_242 (pc' := 244) rfl (v := (48 : Int32)) rfl ?_
          obtain ⟨v54, e54⟩ : ∃ z, v53 % (48 : Int32) = z := ⟨_, rfl⟩
          refine o_irem G0 at_244 (pc' := 245) rfl (by decide) e54 ?_
          obtain ⟨v55, e55⟩ : ∃ z, (144 : Int32) + v54 = z := ⟨_, rfl⟩
          refine o_iadd G0 at_245 (pc' := 246) rfl e55 ?_
          refine o_istore G0 at_246 (pc' := 248) rfl (l' := #[.val (.long q0), .second, .val (.int p1), .val (.int p2), .val (.int p3), .val (.int p4), .val (.int p5), .val (.int v1), .val (.int v2), .val (.int v55), .val (.int v6), .val (.int v8), .unset, .unset, .unset, .val (.int v10)]) rfl ?_
          refine o_goto G0 at_248 (by decide) (pc' := 270) rfl ?_
          refine o_iload G0 at_270 (pc' := 272) rfl rfl ?_
          refine o_bipush G0 at_272 (pc' := 274) rfl (v := (7 : Int32)) rfl ?_
          obtain ⟨v56, e56⟩ : ∃ z, v10 &&& (7 : Int32) = z := ⟨_, rfl⟩
          refine o_iand G0 at_274 (pc' := 275) rfl e56 ?_
          refine o_bipush G0 at_275 (pc' := 277) rfl (v := (18 : Int32)) rfl ?_
          obtain ⟨v57, e57⟩ : ∃ z, v56 <<< ((18 : Int32) &&& 31) = z := ⟨_, rfl⟩
          refine o_ishl G0 at_277 (pc' := 278) rfl e57 ?_
          refine o_iload G0 at_278 (pc' := 280) rfl rfl ?_
          refine o_bipush G0 at_280 (pc' := 282) rfl (v := (63 : Int32)) rfl ?_
          obtain ⟨v58, e58⟩ : ∃ z, v55 &&& (63 : Int32) = z := ⟨_, rfl⟩
          refine o_iand G0 at_282 (pc' := 283) rfl e58 ?_
          refine o_bipush G0 at_283 (pc' := 285) rfl (v := (12 : Int32)) rfl ?_
          obtain ⟨v59, e59⟩ : ∃ z, v58 <<< ((12 : Int32) &&& 31) = z := ⟨_, rfl⟩
          refine o_ishl G0 at_285 (pc' := 286) rfl e59 ?_
          obtain ⟨v60, e60⟩ : ∃ z, v57 ||| v59 = z := ⟨_, rfl⟩
          refine o_ior G0 at_286 (pc' := 287) rfl e60 ?_
          refine o_iload G0 at_287 (pc' := 289) rfl rfl ?_
          refine o_bipush G0 at_289 (pc' := 291) rfl (v := (63 : Int32)) rfl ?_
          obtain ⟨v61, e61⟩ : ∃ z, v6 &&& (63 : Int32) = z := ⟨_, rfl⟩
          refine o_iand G0 at_291 (pc' := 292) rfl e61 ?_
          refine o_bipush G0 at_292 (pc' := 294) rfl (v := (6 : Int32)) rfl ?_
          obtain ⟨v62, e62⟩ : ∃ z, v61 <<< ((6 : Int32) &&& 31) = z := ⟨_, rfl⟩
          refine o_ishl G0 at_294 (pc' := 295) rfl e62 ?_
          obtain ⟨v63, e63⟩ : ∃ z, v60 ||| v62 = z := ⟨_, rfl⟩
          refine o_ior G0 at_295 (pc' := 296) rfl e63 ?_
          refine o_iload G0 at_296 (pc' := 298) rfl rfl ?_
          refine o_bipush G0 at_298 (pc' := 300) rfl (v := (63 : Int32)) rfl ?_
          obtain ⟨v64, e64⟩ : ∃ z, v8 &&& (63 : Int32) = z := ⟨_, rfl⟩
          refine o_iand G0 at_300 (pc' := 301) rfl e64 ?_
          obtain ⟨v65, e65⟩ : ∃ z, v63 ||| v64 = z := ⟨_, rfl⟩
          refine o_ior G0 at_301 (pc' := 302) rfl e65 ?_
          refine o_istore G0 at_302 (pc' := 304) rfl (l' := #[.val (.long q0), .second, .val (.int p1), .val (.int p2), .val (.int p3), .val (.int p4), .val (.int p5), .val (.int v1), .val (.int v2), .val (.int v55), .val (.int v6), .val (.int v8), .val (.int v65), .unset, .unset, .val (.int v10)]) rfl ?_
          refine o_lloadN G0 at_304 (pc' := 305) rfl rfl ?_
          refine o_iload G0 at_305 (pc' := 307) rfl rfl ?_
          obtain ⟨v66, e66⟩ : ∃ z, f_1 q0 v10 = z := ⟨_, rfl⟩
          refine o_callP G0 (z := (⟨"com/example/pocket_simhash/pocketsimhash/Fnv1a64ExtendPinLaw", "mix", "(JI)J"⟩ : MethodName)) (r := (.long v66)) (argsL := [(.long q0), (.int v10)]) (rest := []) (W := 0) (hw _ (List.mem_of_getElem? (i := 1) rfl)) (hw _ (List.mem_of_getElem? (i := 2) rfl)) at_307 (by decide) (hw _ (List.mem_of_getElem? (i := 3) rfl)) (hw _ (List.mem_of_getElem? (i := 4) rfl)) (by rw [← e66]; exact rm1 hw q0 v10 h0 n0 G0.sz) (by decide) (by decide) rfl (lenOf pd_0 rfl) rfl (Nat.le_of_eq rfl) (pc' := 310) rfl (by decide) (by decide) ?_
          intro T67 G67
          refine o_iload G67 at_310 (pc' := 312) rfl rfl ?_
          obtain ⟨v68, e68⟩ : ∃ z, f_1 v66 v55 = z := ⟨_, rfl⟩
          refine o_callP G67 (z := (⟨"com/example/pocket_simhash/pocketsimhash/Fnv1a64ExtendPinLaw", "mix", "(JI)J"⟩ : MethodName)) (r := (.long v68)) (argsL := [(.long v66), (.int v55)]) (rest := []) (W := 0) (hw _ (List.mem_of_getElem? (i := 1) rfl)) (hw _ (List.mem_of_getElem? (i := 2) rfl)) at_312 (by decide) (hw _ (List.mem_of_getElem? (i := 3) rfl)) (hw _ (List.mem_of_getElem? (i := 4) rfl)) (by rw [← e68]; exact rm1 hw v66 v55 h0 n0 G67.sz) (by decide) (by decide) rfl (lenOf pd_0 rfl) rfl (Nat.le_of_eq rfl) (pc' := 315) rfl (by decide) (by decide) ?_
          intro T69 G69
          refine o_iload G69 at_315 (pc' := 317) rfl rfl ?_
          obtain ⟨v70, e70⟩ : ∃ z, f_1 v68 v6 = z := ⟨_, rfl⟩
          refine o_callP G69 (z := (⟨"com/example/pocket_simhash/pocketsimhash/Fnv1a64ExtendPinLaw", "mix", "(JI)J"⟩ : MethodName)) (r := (.long v70)) (argsL := [(.long v68), (.int v6)]) (rest := []) (W := 0) (hw _ (List.mem_of_getElem? (i := 1) rfl)) (hw _ (List.mem_of_getElem? (i := 2) rfl)) at_317 (by decide) (hw _ (List.mem_of_getElem? (i := 3) rfl)) (hw _ (List.mem_of_getElem? (i := 4) rfl)) (by rw [← e70]; exact rm1 hw v68 v6 h0 n0 G69.sz) (by decide) (by decide) rfl (lenOf pd_0 rfl) rfl (Nat.le_of_eq rfl) (pc' := 320) rfl (by decide) (by decide) ?_
          intro T71 G71
          refine o_iload G71 at_320 (pc' := 322) rfl rfl ?_
          obtain ⟨v72, e72⟩ : ∃ z, f_1 v70 v8 = z := ⟨_, rfl⟩
          refine o_callP G71 (z := (⟨"com/example/pocket_simhash/pocketsimhash/Fnv1a64ExtendPinLaw", "mix", "(JI)J"⟩ : MethodName)) (r := (.long v72)) (argsL := [(.long v70), (.int v8)]) (rest := []) (W := 0) (hw _ (List.mem_of_getElem? (i := 1) rfl)) (hw _ (List.mem_of_getElem? (i := 2) rfl)) at_322 (by decide) (hw _ (List.mem_of_getElem? (i := 3) rfl)) (hw _ (List.mem_of_getElem? (i := 4) rfl)) (by rw [← e72]; exact rm1 hw v70 v8 h0 n0 G71.sz) (by decide) (by decide) rfl (lenOf pd_0 rfl) rfl (Nat.le_of_eq rfl) (pc' := 325) rfl (by decide) (by decide) ?_
          intro T73 G73
          refine o_lstore G73 at_325 (pc' := 327) rfl (l' := #[.val (.long q0), .second, .val (.int p1), .val (.int p2), .val (.int p3), .val (.int p4), .val (.int p5), .val (.int v1), .val (.int v2), .val (.int v55), .val (.int v6), .val (.int v8), .val (.int v65), .val (.long v72), .second, .val (.int v10)]) rfl ?_
          refine o_lloadN G73 at_327 (pc' := 328) rfl rfl ?_
          refine o_iload G73 at_328 (pc' := 330) rfl rfl ?_
          obtain ⟨v74, e74⟩ : ∃ z, f_2 q0 v65 = z := ⟨_, rfl⟩
          refine o_callP G73 (z := (⟨"com/example/pocket_simhash/pocketsimhash/Fnv1a64", "extend", "(JI)J"⟩ : MethodName)) (r := (.long v74)) (argsL := [(.long q0), (.int v65)]) (rest := []) (W := 0) (hw _ (List.mem_of_getElem? (i := 6) rfl)) (hw _ (List.mem_of_getElem? (i := 7) rfl)) at_330 (by decide) (hw _ (List.mem_of_getElem? (i := 8) rfl)) (hw _ (List.mem_of_getElem? (i := 9) rfl)) (by rw [← e74]; exact rm2 hw q0 v65 h0 n0 G73.sz) (by decide) (by decide) rfl (lenOf pd_0 rfl) rfl (Nat.le_of_eq rfl) (pc' := 333) rfl (by decide) (by decide) ?_
          intro T75 G75
          refine o_lload G75 at_333 (pc' := 335) rfl rfl ?_
          refine o_lcmp_ne G75 at_335 (pc1 := 336) rfl at_336 (by decide) (pcT := 343) (by decide) (pc' := 339) rfl (fun hc335 => ?_) (fun hc335 => ?_)
          · refine o_iconst G75 at_343 (pc' := 344) rfl (v := (0 : Int32)) rfl ?_
            have hq : (nar .boolean (0 : Int32)) = f_0 q0 p1 p2 p3 p4 p5 := by
              subst e1 e2 e3 e4 e5 e6 e7 e8 e9 e10 e53 e54 e55 e56 e57 e58 e59 e60 e61 e62 e63 e64 e65 e66 e68 e70 e72 e74
              rw [f_0, if_neg hc46, if_neg hc73, if_neg hc122, if_pos hc231, if_neg hc335]
              try rfl
            exact o_nreturn (t := .boolean) G75 (by simp) at_344 ⟨congrArg (fun z => some (Value.int z)) hq, rfl⟩ (by decide) (by decide)
          · refine o_iconst G75 at_339 (pc' := 340) rfl (v := (1 : Int32)) rfl ?_
            refine o_goto G75 at_340 (by decide) (pc' := 344) rfl ?_
            have hq : (nar .boolean (1 : Int32)) = f_0 q0 p1 p2 p3 p4 p5 := by
              subst e1 e2 e3 e4 e5 e6 e7 e8 e9 e10 e53 e54 e55 e56 e57 e58 e59 e60 e61 e62 e63 e64 e65 e66 e68 e70 e72 e74
              rw [f_0, if_neg hc46, if_neg hc73, if_neg hc122, if_pos hc231, if_pos hc335]
              try rfl
            exact o_nreturn (t := .boolean) G75 (by simp) at_344 ⟨congrArg (fun z => some (Value.int z)) hq, rfl⟩ (by decide) (by decide)
      · refine o_sipush G0 at_125 (pc' := 128) rfl (v := (224 : Int32)) rfl ?_
        refine o_iload G0 at_128 (pc' := 130) rfl rfl ?_
        refine o_bipush G0 at_130 (pc' := 132) rfl (v := (16 : Int32)) rfl ?_
        obtain ⟨v76, e76⟩ : ∃ z, v2 % (16 : Int32) = z := ⟨_, rfl⟩
        refine o_irem G0 at_132 (pc' := 133) rfl (by decide) e76 ?_
        obtain ⟨v77, e77⟩ : ∃ z, (224 : Int32) + v76 = z := ⟨_, rfl⟩
        refine o_iadd G0 at_133 (pc' := 134) rfl e77 ?_
        refine o_istore G0 at_134 (pc' := 136) rfl (l' := #[.val (.long q0), .second, .val (.int p1), .val (.int p2), .val (.int p3), .val (.int p4), .val (.int p5), .val (.int v1), .val (.int v2), .val (.int v4), .val (.int v6), .val (.int v8), .unset, .unset, .unset, .val (.int v77)]) rfl ?_
        refine o_iload G0 at_136 (pc' := 138) rfl rfl ?_
        refine o_sipush G0 at_138 (pc' := 141) rfl (v := (224 : Int32)) rfl ?_
        refine o_icmp_ne G0 at_141 (by decide) (pcT := 154) (by decide) (pc' := 144) rfl (fun hc141 => ?_) (fun hc141 => ?_)
        · refine o_iload G0 at_154 (pc' := 156) rfl rfl ?_
          refine o_sipush G0 at_156 (pc' := 159) rfl (v := (237 : Int32)) rfl ?_
          refine o_icmp_ne G0 at_159 (by decide) (pcT := 170) (by decide) (pc' := 162) rfl (fun hc159 => ?_) (fun hc159 => ?_)
          · refine o_iload G0 at_170 (pc' := 172) rfl rfl ?_
            refine o_bipush G0 at_172 (pc' := 174) rfl (v := (15 : Int32)) rfl ?_
            obtain ⟨v78, e78⟩ : ∃ z, v77 &&& (15 : Int32) = z := ⟨_, rfl⟩
            refine o_iand G0 at_174 (pc' := 175) rfl e78 ?_
            refine o_bipush G0 at_175 (pc' := 177) rfl (v := (12 : Int32)) rfl ?_
            obtain ⟨v79, e79⟩ : ∃ z, v78 <<< ((12 : Int32) &&& 31) = z := ⟨_, rfl⟩
            refine o_ishl G0 at_177 (pc' := 178) rfl e79 ?_
            refine o_iload G0 at_178 (pc' := 180) rfl rfl ?_
            refine o_bipush G0 at_180 (pc' := 182) rfl (v := (63 : Int32)) rfl ?_
            obtain ⟨v80, e80⟩ : ∃ z, v4 &&& (63 : Int32) = z := ⟨_, rfl⟩
            refine o_iand G0 at_182 (pc' := 183) rfl e80 ?_
            refine o_bipush G0 at_183 (pc' := 185) rfl (v := (6 : Int32)) rfl ?_
            obtain ⟨v81, e81⟩ : ∃ z, v80 <<< ((6 : Int32) &&& 31) = z := ⟨_, rfl⟩
            refine o_ishl G0 at_185 (pc' := 186) rfl e81 ?_
            obtain ⟨v82, e82⟩ : ∃ z, v79 ||| v81 = z := ⟨_, rfl⟩
            refine o_ior G0 at_186 (pc' := 187) rfl e82 ?_
            refine o_iload G0 at_187 (pc' := 189) rfl rfl ?_
            refine o_bipush G0 at_189 (pc' := 191) rfl (v := (63 : Int32)) rfl ?_
            obtain ⟨v83, e83⟩ : ∃ z, v6 &&& (63 : Int32) = z := ⟨_, rfl⟩
            refine o_iand G0 at_191 (pc' := 192) rfl e83 ?_
            obtain ⟨v84, e84⟩ : ∃ z, v82 ||| v83 = z := ⟨_, rfl⟩
            refine o_ior G0 at_192 (pc' := 193) rfl e84 ?_
            refine o_istore G0 at_193 (pc' := 195) rfl (l' := #[.val (.long q0), .second, .val (.int p1), .val (.int p2), .val (.int p3), .val (.int p4), .val (.int p5), .val (.int v1), .val (.int v2), .val (.int v4), .val (.int v6), .val (.int v8), .val (.int v84), .unset, .unset, .val (.int v77)]) rfl ?_
            refine o_lloadN G0 at_195 (pc' := 196) rfl rfl ?_
            refine o_iload G0 at_196 (pc' := 198) rfl rfl ?_
            obtain ⟨v85, e85⟩ : ∃ z, f_1 q0 v77 = z := ⟨_, rfl⟩
            refine o_callP G0 (z := (⟨"com/example/pocket_simhash/pocketsimhash/Fnv1a64ExtendPinLaw", "mix", "(JI)J"⟩ : MethodName)) (r := (.long v85)) (argsL := [(.long q0), (.int v77)]) (rest := []) (W := 0) (hw _ (List.mem_of_getElem? (i := 1) rfl)) (hw _ (List.mem_of_getElem? (i := 2) rfl)) at_198 (by decide) (hw _ (List.mem_of_getElem? (i := 3) rfl)) (hw _ (List.mem_of_getElem? (i := 4) rfl)) (by rw [← e85]; exact rm1 hw q0 v77 h0 n0 G0.sz) (by decide) (by decide) rfl (lenOf pd_0 rfl) rfl (Nat.le_of_eq rfl) (pc' := 201) rfl (by decide) (by decide) ?_
            intro T86 G86
            refine o_iload G86 at_201 (pc' := 203) rfl rfl ?_
            obtain ⟨v87, e87⟩ : ∃ z, f_1 v85 v4 = z := ⟨_, rfl⟩
            refine o_callP G86 (z := (⟨"com/example/pocket_simhash/pocketsimhash/Fnv1a64ExtendPinLaw", "mix", "(JI)J"⟩ : MethodName)) (r := (.long v87)) (argsL := [(.long v85), (.int v4)]) (rest := []) (W := 0) (hw _ (List.mem_of_getElem? (i := 1) rfl)) (hw _ (List.mem_of_getElem? (i := 2) rfl)) at_203 (by decide) (hw _ (List.mem_of_getElem? (i := 3) rfl)) (hw _ (List.mem_of_getElem? (i := 4) rfl)) (by rw [← e87]; exact rm1 hw v85 v4 h0 n0 G86.sz) (by decide) (by decide) rfl (lenOf pd_0 rfl) rfl (Nat.le_of_eq rfl) (pc' := 206) rfl (by decide) (by decide) ?_
            intro T88 G88
            refine o_iload G88 at_206 (pc' := 208) rfl rfl ?_
            obtain ⟨v89, e89⟩ : ∃ z, f_1 v87 v6 = z := ⟨_, rfl⟩
            refine o_callP G88 (z := (⟨"com/example/pocket_simhash/pocketsimhash/Fnv1a64ExtendPinLaw", "mix", "(JI)J"⟩ : MethodName)) (r := (.long v89)) (argsL := [(.long v87), (.int v6)]) (rest := []) (W := 0) (hw _ (List.mem_of_getElem? (i := 1) rfl)) (hw _ (List.mem_of_getElem? (i := 2) rfl)) at_208 (by decide) (hw _ (List.mem_of_getElem? (i := 3) rfl)) (hw _ (List.mem_of_getElem? (i := 4) rfl)) (by rw [← e89]; exact rm1 hw v87 v6 h0 n0 G88.sz) (by decide) (by decide) rfl (lenOf pd_0 rfl) rfl (Nat.le_of_eq rfl) (pc' := 211) rfl (by decide) (by decide) ?_
            intro T90 G90
            refine o_lstore G90 at_211 (pc' := 213) rfl (l' := #[.val (.long q0), .second, .val (.int p1), .val (.int p2), .val (.int p3), .val (.int p4), .val (.int p5), .val (.int v1), .val (.int v2), .val (.int v4), .val (.int v6), .val (.int v8), .val (.int v84), .val (.long v89), .second, .val (.int v77)]) rfl ?_
            refine o_goto G90 at_213 (by decide) (pc' := 327) rfl ?_
            refine o_lloadN G90 at_327 (pc' := 328) rfl rfl ?_
            refine o_iload G90 at_328 (pc' := 330) rfl rfl ?_
            obtain ⟨v91, e91⟩ : ∃ z, f_2 q0 v84 = z := ⟨_, rfl⟩
            refine o_callP G90 (z := (⟨"com/example/pocket_simhash/pocketsimhash/Fnv1a64", "extend", "(JI)J"⟩ : MethodName)) (r := (.long v91)) (argsL := [(.long q0), (.int v84)]) (rest := []) (W := 0) (hw _ (List.mem_of_getElem? (i := 6) rfl)) (hw _ (List.mem_of_getElem? (i := 7) rfl)) at_330 (by decide) (hw _ (List.mem_of_getElem? (i := 8) rfl)) (hw _ (List.mem_of_getElem? (i := 9) rfl)) (by rw [← e91]; exact rm2 hw q0 v84 h0 n0 G90.sz) (by decide) (by decide) rfl (lenOf pd_0 rfl) rfl (Nat.le_of_eq rfl) (pc' := 333) rfl (by decide) (by decide) ?_
            intro T92 G92
            refine o_lload G92 at_333 (pc' := 335) rfl rfl ?_
            refine o_lcmp_ne G92 at_335 (pc1 := 336) rfl at_336 (by decide) (pcT := 343) (by decide) (pc' := 339) rfl (fun hc335 => ?_) (fun hc335 => ?_)
            · refine o_iconst G92 at_343 (pc' := 344) rfl (v := (0 : Int32)) rfl ?_
              have hq : (nar .boolean (0 : Int32)) = f_0 q0 p1 p2 p3 p4 p5 := by
                subst e1 e2 e3 e4 e5 e6 e7 e8 e76 e77 e78 e79 e80 e81 e82 e83 e84 e85 e87 e89 e91
                rw [f_0, if_neg hc46, if_neg hc73, if_pos hc122, if_neg hc141, if_neg hc159, if_neg hc335]
                try rfl
              exact o_nreturn (t := .boolean) G92 (by simp) at_344 ⟨congrArg (fun z => some (Value.int z)) hq, rfl⟩ (by decide) (by decide)
            · refine o_iconst G92 at_339 (pc' := 340) rfl (v := (1 : Int32)) rfl ?_
              refine o_goto G92 at_340 (by decide) (pc' := 344) rfl ?_
              have hq : (nar .boolean (1 : Int32)) = f_0 q0 p1 p2 p3 p4 p5 := by
                subst e1 e2 e3 e4 e5 e6 e7 e8 e76 e77 e78 e79 e80 e81 e82 e83 e84 e85 e87 e89 e91
                rw [f_0, if_neg hc46, if_neg hc73, if_pos hc122, if_neg hc141, if_neg hc159, if_pos hc335]
                try rfl
              exact o_nreturn (t := .boolean) G92 (by simp) at_344 ⟨congrArg (fun z => some (Value.int z)) hq, rfl⟩ (by decide) (by decide)
          · refine o_iload G0 at_162 (pc' := 164) rfl rfl ?_
            refine o_sipush G0 at_164 (pc' := 167) rfl (v := (159 : Int32)) rfl ?_
            obtain ⟨v93, e93⟩ : ∃ z, v4 &&& (159 : Int32) = z := ⟨_, rfl⟩
            refine o_iand G0 at_167 (pc' := 168) rfl e93 ?_
            refine o_istore G0 at_168 (pc' := 170) rfl (l' := #[.val (.long q0), .second, .val (.int p1), .val (.int p2), .val (.int p3), .val (.int p4), .val (.int p5), .val (.int v1), .val (.int v2), .val (.int v93), .val (.int v6), .val (.int v8), .unset, .unset, .unset, .val (.int v77)]) rfl ?_
            refine o_iload G0 at_170 (pc' := 172) rfl rfl ?_
            refine o_bipush G0 at_172 (pc' := 174) rfl (v := (15 : Int32)) rfl ?_
            obtain ⟨v94, e94⟩ : ∃ z, v77 &&& (15 : Int32) = z := ⟨_, rfl⟩
            refine o_iand G0 at_174 (pc' := 175) rfl e94 ?_
            refine o_bipush G0 at_175 (pc' := 177) rfl (v := (12 : Int32)) rfl ?_
            obtain ⟨v95, e95⟩ : ∃ z, v94 <<< ((12 : Int32) &&& 31) = z := ⟨_, rfl⟩
            refine o_ishl G0 at_177 (pc' := 178) rfl e95 ?_
            refine o_iload G0 at_178 (pc' := 180) rfl rfl ?_
            refine o_bipush G0 at_180 (pc' := 182) rfl (v := (63 : Int32)) rfl ?_
            obtain ⟨v96, e96⟩ : ∃ z, v93 &&& (63 : Int32) = z := ⟨_, rfl⟩
            refine o_iand G0 at_182 (pc' := 183) rfl e96 ?_
            refine o_bipush G0 at_183 (pc' := 185) rfl (v := (6 : Int32)) rfl ?_
            obtain ⟨v97, e97⟩ : ∃ z, v96 <<< ((6 : Int32) &&& 31) = z := ⟨_, rfl⟩
            refine o_ishl G0 at_185 (pc' := 186) rfl e97 ?_
            obtain ⟨v98, e98⟩ : ∃ z, v95 ||| v97 = z := ⟨_, rfl⟩
            refine o_ior G0 at_186 (pc' := 187) rfl e98 ?_
            refine o_iload G0 at_187 (pc' := 189) rfl rfl ?_
            refine o_bipush G0 at_189 (pc' := 191) rfl (v := (63 : Int32)) rfl ?_
            obtain ⟨v99, e99⟩ : ∃ z, v6 &&& (63 : Int32) = z := ⟨_, rfl⟩
            refine o_iand G0 at_191 (pc' := 192) rfl e99 ?_
            obtain ⟨v100, e100⟩ : ∃ z, v98 ||| v99 = z := ⟨_, rfl⟩
            refine o_ior G0 at_192 (pc' := 193) rfl e100 ?_
            refine o_istore G0 at_193 (pc' := 195) rfl (l' := #[.val (.long q0), .second, .val (.int p1), .val (.int p2), .val (.int p3), .val (.int p4), .val (.int p5), .val (.int v1), .val (.int v2), .val (.int v93), .val (.int v6), .val (.int v8), .val (.int v100), .unset, .unset, .val (.int v77)]) rfl ?_
            refine o_lloadN G0 at_195 (pc' := 196) rfl rfl ?_
            refine o_iload G0 at_196 (pc' := 198) rfl rfl ?_
            obtain ⟨v101, e101⟩ : ∃ z, f_1 q0 v77 = z := ⟨_, rfl⟩
            refine o_callP G0 (z := (⟨"com/example/pocket_simhash/pocketsimhash/Fnv1a64ExtendPinLaw", "mix", "(JI)J"⟩ : MethodName)) (r := (.long v101)) (argsL := [(.long q0), (.int v77)]) (rest := []) (W := 0) (hw _ (List.mem_of_getElem? (i := 1) rfl)) (hw _ (List.mem_of_getElem? (i := 2) rfl)) at_198 (by decide) (hw _ (List.mem_of_getElem? (i := 3) rfl)) (hw _ (List.mem_of_getElem? (i := 4) rfl)) (by rw [← e101]; exact rm1 hw q0 v77 h0 n0 G0.sz) (by decide) (by decide) rfl (lenOf pd_0 rfl) rfl (Nat.le_of_eq rfl) (pc' := 201) rfl (by decide) (by decide) ?_
            intro T102 G102
            refine o_iload G102 at_201 (pc' := 203) rfl rfl ?_
            obtain ⟨v103, e103⟩ : ∃ z, f_1 v101 v93 = z := ⟨_, rfl⟩
            refine o_callP G102 (z := (⟨"com/example/pocket_simhash/pocketsimhash/Fnv1a64ExtendPinLaw", "mix", "(JI)J"⟩ : MethodName)) (r := (.long v103)) (argsL := [(.long v101), (.int v93)]) (rest := []) (W := 0) (hw _ (List.mem_of_getElem? (i := 1) rfl)) (hw _ (List.mem_of_getElem? (i := 2) rfl)) at_203 (by decide) (hw _ (List.mem_of_getElem? (i := 3) rfl)) (hw _ (List.mem_of_getElem? (i := 4) rfl)) (by rw [← e103]; exact rm1 hw v101 v93 h0 n0 G102.sz) (by decide) (by decide) rfl (lenOf pd_0 rfl) rfl (Nat.le_of_eq rfl) (pc' := 206) rfl (by decide) (by decide) ?_
            intro T104 G104
            refine o_iload G104 at_206 (pc' := 208) rfl rfl ?_
            obtain ⟨v105, e105⟩ : ∃ z, f_1 v103 v6 = z := ⟨_, rfl⟩
            refine o_callP G104 (z := (⟨"com/example/pocket_simhash/pocketsimhash/Fnv1a64ExtendPinLaw", "mix", "(JI)J"⟩ : MethodName)) (r := (.long v105)) (argsL := [(.long v103), (.int v6)]) (rest := []) (W := 0) (hw _ (List.mem_of_getElem? (i := 1) rfl)) (hw _ (List.mem_of_getElem? (i := 2) rfl)) at_208 (by decide) (hw _ (List.mem_of_getElem? (i := 3) rfl)) (hw _ (List.mem_of_getElem? (i := 4) rfl)) (by rw [← e105]; exact rm1 hw v103 v6 h0 n0 G104.sz) (by decide) (by decide) rfl (lenOf pd_0 rfl) rfl (Nat.le_of_eq rfl) (pc' := 211) rfl (by decide) (by decide) ?_
            intro T106 G106
            refine o_lstore G106 at_211 (pc' := 213) rfl (l' := #[.val (.long q0), .second, .val (.int p1), .val (.int p2), .val (.int p3), .val (.int p4), .val (.int p5), .val (.int v1), .val (.int v2), .val (.int v93), .val (.int v6), .val (.int v8), .val (.int v100), .val (.long v105), .second, .val (.int v77)]) rfl ?_
            refine o_goto G106 at_213 (by decide) (pc' := 327) rfl ?_
            refine o_lloadN G106 at_327 (pc' := 328) rfl rfl ?_
            refine o_iload G106 at_328 (pc' := 330) rfl rfl ?_
            obtain ⟨v107, e107⟩ : ∃ z, f_2 q0 v100 = z := ⟨_, rfl⟩
            refine o_callP G106 (z := (⟨"com/example/pocket_simhash/pocketsimhash/Fnv1a64", "extend", "(JI)J"⟩ : MethodName)) (r := (.long v107)) (argsL := [(.long q0), (.int v100)]) (rest := []) (W := 0) (hw _ (List.mem_of_getElem? (i := 6) rfl)) (hw _ (List.mem_of_getElem? (i := 7) rfl)) at_330 (by decide) (hw _ (List.mem_of_getElem? (i := 8) rfl)) (hw _ (List.mem_of_getElem? (i := 9) rfl)) (by rw [← e107]; exact rm2 hw q0 v100 h0 n0 G106.sz) (by decide) (by decide) rfl (lenOf pd_0 rfl) rfl (Nat.le_of_eq rfl) (pc' := 333) rfl (by decide) (by decide) ?_
            intro T108 G108
            refine o_lload G108 at_333 (pc' := 335) rfl rfl ?_
            refine o_lcmp_ne G108 at_335 (pc1 := 336) rfl at_336 (by decide) (pcT := 343) (by decide) (pc' := 339) rfl (fun hc335 => ?_) (fun hc335 => ?_)
            · refine o_iconst G108 at_343 (pc' := 344) rfl (v := (0 : Int32)) rfl ?_
              have hq : (nar .boolean (0 : Int32)) = f_0 q0 p1 p2 p3 p4 p5 := by
                subst e1 e2 e3 e4 e5 e6 e7 e8 e76 e77 e93 e94 e95 e96 e97 e98 e99 e100 e101 e103 e105 e107
                rw [f_0, if_neg hc46, if_neg hc73, if_pos hc122, if_neg hc141, if_pos hc159, if_neg hc335]
                try rfl
              exact o_nreturn (t := .boolean) G108 (by simp) at_344 ⟨congrArg (fun z => some (Value.int z)) hq, rfl⟩ (by decide) (by decide)
            · refine o_iconst G108 at_339 (pc' := 340) rfl (v := (1 : Int32)) rfl ?_
              refine o_goto G108 at_340 (by decide) (pc' := 344) rfl ?_
              have hq : (nar .boolean (1 : Int32)) = f_0 q0 p1 p2 p3 p4 p5 := by
                subst e1 e2 e3 e4 e5 e6 e7 e8 e76 e77 e93 e94 e95 e96 e97 e98 e99 e100 e101 e103 e105 e107
                rw [f_0, if_neg hc46, if_neg hc73, if_pos hc122, if_neg hc141, if_pos hc159, if_pos hc335]
                try rfl
              exact o_nreturn (t := .boolean) G108 (by simp) at_344 ⟨congrArg (fun z => some (Value.int z)) hq, rfl⟩ (by decide) (by decide)
        · refine o_iload G0 at_144 (pc' := 146) rfl rfl ?_
          refine o_bipush G0 at_146 (pc' := 148) rfl (v := (32 : Int32)) rfl ?_
          obtain ⟨v109, e109⟩ : ∃ z, v4 ||| (32 : Int32) = z := ⟨_, rfl⟩
          refine o_ior G0 at_148 (pc' := 149) rfl e109 ?_
          refine o_istore G0 at_149 (pc' := 151) rfl (l' := #[.val (.long q0), .second, .val (.int p1), .val (.int p2), .val (.int p3), .val (.int p4), .val (.int p5), .val (.int v1), .val (.int v2), .val (.int v109), .val (.int v6), .val (.int v8), .unset, .unset, .unset, .val (.int v77)]) rfl ?_
          refine o_goto G0 at_151 (by decide) (pc' := 170) rfl ?_
          refine o_iload G0 at_170 (pc' := 172) rfl rfl ?_
          refine o_bipush G0 at_172 (pc' := 174) rfl (v := (15 : Int32)) rfl ?_
          obtain ⟨v110, e110⟩ : ∃ z, v77 &&& (15 : Int32) = z := ⟨_, rfl⟩
          refine o_iand G0 at_174 (pc' := 175) rfl e110 ?_
          refine o_bipush G0 at_175 (pc' := 177) rfl (v := (12 : Int32)) rfl ?_
          obtain ⟨v111, e111⟩ : ∃ z, v110 <<< ((12 : Int32) &&& 31) = z := ⟨_, rfl⟩
          refine o_ishl G0 at_177 (pc' := 178) rfl e111 ?_
          refine o_iload G0 at_178 (pc' := 180) rfl rfl ?_
          refine o_bipush G0 at_180 (pc' := 182) rfl (v := (63 : Int32)) rfl ?_
          obtain ⟨v112, e112⟩ : ∃ z, v109 &&& (63 : Int32) = z := ⟨_, rfl⟩
          refine o_iand G0 at_182 (pc' := 183) rfl e112 ?_
          refine o_bipush G0 at_183 (pc' := 185) rfl (v := (6 : Int32)) rfl ?_
          obtain ⟨v113, e113⟩ : ∃ z, v112 <<< ((6 : Int32) &&& 31) = z := ⟨_, rfl⟩
          refine o_ishl G0 at_185 (pc' := 186) rfl e113 ?_
          obtain ⟨v114, e114⟩ : ∃ z, v111 ||| v113 = z := ⟨_, rfl⟩
          refine o_ior G0 at_186 (pc' := 187) rfl e114 ?_
          refine o_iload G0 at_187 (pc' := 189) rfl rfl ?_
          refine o_bipush G0 at_189 (pc' := 191) rfl (v := (63 : Int32)) rfl ?_
          obtain ⟨v115, e115⟩ : ∃ z, v6 &&& (63 : Int32) = z := ⟨_, rfl⟩
          refine o_iand G0 at_191 (pc' := 192) rfl e115 ?_
          obtain ⟨v116, e116⟩ : ∃ z, v114 ||| v115 = z := ⟨_, rfl⟩
          refine o_ior G0 at_192 (pc' := 193) rfl e116 ?_
          refine o_istore G0 at_193 (pc' := 195) rfl (l' := #[.val (.long q0), .second, .val (.int p1), .val (.int p2), .val (.int p3), .val (.int p4), .val (.int p5), .val (.int v1), .val (.int v2), .val (.int v109), .val (.int v6), .val (.int v8), .val (.int v116), .unset, .unset, .val (.int v77)]) rfl ?_
          refine o_lloadN G0 at_195 (pc' := 196) rfl rfl ?_
          refine o_iload G0 at_196 (pc' := 198) rfl rfl ?_
          obtain ⟨v117, e117⟩ : ∃ z, f_1 q0 v77 = z := ⟨_, rfl⟩
          refine o_callP G0 (z := (⟨"com/example/pocket_simhash/pocketsimhash/Fnv1a64ExtendPinLaw", "mix", "(JI)J"⟩ : MethodName)) (r := (.long v117)) (argsL := [(.long q0), (.int v77)]) (rest := []) (W := 0) (hw _ (List.mem_of_getElem? (i := 1) rfl)) (hw _ (List.mem_of_getElem? (i := 2) rfl)) at_198 (by decide) (hw _ (List.mem_of_getElem? (i := 3) rfl)) (hw _ (List.mem_of_getElem? (i := 4) rfl)) (by rw [← e117]; exact rm1 hw q0 v77 h0 n0 G0.sz) (by decide) (by decide) rfl (lenOf pd_0 rfl) rfl (Nat.le_of_eq rfl) (pc' := 201) rfl (by decide) (by decide) ?_
          intro T118 G118
          refine o_iload G118 at_201 (pc' := 203) rfl rfl ?_
          obtain ⟨v119, e119⟩ : ∃ z, f_1 v117 v109 = z := ⟨_, rfl⟩
          refine o_callP G118 (z := (⟨"com/example/pocket_simhash/pocketsimhash/Fnv1a64ExtendPinLaw", "mix", "(JI)J"⟩ : MethodName)) (r := (.long v119)) (argsL := [(.long v117), (.int v109)]) (rest := []) (W := 0) (hw _ (List.mem_of_getElem? (i := 1) rfl)) (hw _ (List.mem_of_getElem? (i := 2) rfl)) at_203 (by decide) (hw _ (List.mem_of_getElem? (i := 3) rfl)) (hw _ (List.mem_of_getElem? (i := 4) rfl)) (by rw [← e119]; exact rm1 hw v117 v109 h0 n0 G118.sz) (by decide) (by decide) rfl (lenOf pd_0 rfl) rfl (Nat.le_of_eq rfl) (pc' := 206) rfl (by decide) (by decide) ?_
          intro T120 G120
          refine o_iload G120 at_206 (pc' := 208) rfl rfl ?_
          obtain ⟨v121, e121⟩ : ∃ z, f_1 v119 v6 = z := ⟨_, rfl⟩
          refine o_callP G120 (z := (⟨"com/example/pocket_simhash/pocketsimhash/Fnv1a64ExtendPinLaw", "mix", "(JI)J"⟩ : MethodName)) (r := (.long v121)) (argsL := [(.long v119), (.int v6)]) (rest := []) (W := 0) (hw _ (List.mem_of_getElem? (i := 1) rfl)) (hw _ (List.mem_of_getElem? (i := 2) rfl)) at_208 (by decide) (hw _ (List.mem_of_getElem? (i := 3) rfl)) (hw _ (List.mem_of_getElem? (i := 4) rfl)) (by rw [← e121]; exact rm1 hw v119 v6 h0 n0 G120.sz) (by decide) (by decide) rfl (lenOf pd_0 rfl) rfl (Nat.le_of_eq rfl) (pc' := 211) rfl (by decide) (by decide) ?_
          intro T122 G122
          refine o_lstore G122 at_211 (pc' := 213) rfl (l' := #[.val (.long q0), .second, .val (.int p1), .val (.int p2), .val (.int p3), .val (.int p4), .val (.int p5), .val (.int v1), .val (.int v2), .val (.int v109), .val (.int v6), .val (.int v8), .val (.int v116), .val (.long v121), .second, .val (.int v77)]) rfl ?_
          refine o_goto G122 at_213 (by decide) (pc' := 327) rfl ?_
          refine o_lloadN G122 at_327 (pc' := 328) rfl rfl ?_
          refine o_iload G122 at_328 (pc' := 330) rfl rfl ?_
          obtain ⟨v123, e123⟩ : ∃ z, f_2 q0 v116 = z := ⟨_, rfl⟩
          refine o_callP G122 (z := (⟨"com/example/pocket_simhash/pocketsimhash/Fnv1a64", "extend", "(JI)J"⟩ : MethodName)) (r := (.long v123)) (argsL := [(.long q0), (.int v116)]) (rest := []) (W := 0) (hw _ (List.mem_of_getElem? (i := 6) rfl)) (hw _ (List.mem_of_getElem? (i := 7) rfl)) at_330 (by decide) (hw _ (List.mem_of_getElem? (i := 8) rfl)) (hw _ (List.mem_of_getElem? (i := 9) rfl)) (by rw [← e123]; exact rm2 hw q0 v116 h0 n0 G122.sz) (by decide) (by decide) rfl (lenOf pd_0 rfl) rfl (Nat.le_of_eq rfl) (pc' := 333) rfl (by decide) (by decide) ?_
          intro T124 G124
          refine o_lload G124 at_333 (pc' := 335) rfl rfl ?_
          refine o_lcmp_ne G124 at_335 (pc1 := 336) rfl at_336 (by decide) (pcT := 343) (by decide) (pc' := 339) rfl (fun hc335 => ?_) (fun hc335 => ?_)
          · refine o_iconst G124 at_343 (pc' := 344) rfl (v := (0 : Int32)) rfl ?_
            have hq : (nar .boolean (0 : Int32)) = f_0 q0 p1 p2 p3 p4 p5 := by
              subst e1 e2 e3 e4 e5 e6 e7 e8 e76 e77 e109 e110 e111 e112 e113 e114 e115 e116 e117 e119 e121 e123
              rw [f_0, if_neg hc46, if_neg hc73, if_pos hc122, if_pos hc141, if_neg hc335]
              try rfl
            exact o_nreturn (t := .boolean) G124 (by simp) at_344 ⟨congrArg (fun z => some (Value.int z)) hq, rfl⟩ (by decide) (by decide)
          · refine o_iconst G124 at_339 (pc' := 340) rfl (v := (1 : Int32)) rfl ?_
            refine o_goto G124 at_340 (by decide) (pc' := 344) rfl ?_
            have hq : (nar .boolean (1 : Int32)) = f_0 q0 p1 p2 p3 p4 p5 := by
              subst e1 e2 e3 e4 e5 e6 e7 e8 e76 e77 e109 e110 e111 e112 e113 e114 e115 e116 e117 e119 e121 e123
              rw [f_0, if_neg hc46, if_neg hc73, if_pos hc122, if_pos hc141, if_pos hc335]
              try rfl
            exact o_nreturn (t := .boolean) G124 (by simp) at_344 ⟨congrArg (fun z => some (Value.int z)) hq, rfl⟩ (by decide) (by decide)
    · refine o_sipush G0 at_76 (pc' := 79) rfl (v := (194 : Int32)) rfl ?_
      refine o_iload G0 at_79 (pc' := 81) rfl rfl ?_
      refine o_bipush G0 at_81 (pc' := 83) rfl (v := (30 : Int32)) rfl ?_
      obtain ⟨v125, e125⟩ : ∃ z, v2 % (30 : Int32) = z := ⟨_, rfl⟩
      refine o_irem G0 at_83 (pc' := 84) rfl (by decide) e125 ?_
      obtain ⟨v126, e126⟩ : ∃ z, (194 : Int32) + v125 = z := ⟨_, rfl⟩
      refine o_iadd G0 at_84 (pc' := 85) rfl e126 ?_
      refine o_istore G0 at_85 (pc' := 87) rfl (l' := #[.val (.long q0), .second, .val (.int p1), .val (.int p2), .val (.int p3), .val (.int p4), .val (.int p5), .val (.int v1), .val (.int v2), .val (.int v4), .val (.int v6), .val (.int v8), .unset, .unset, .unset, .val (.int v126)]) rfl ?_
      refine o_iload G0 at_87 (pc' := 89) rfl rfl ?_
      refine o_bipush G0 at_89 (pc' := 91) rfl (v := (31 : Int32)) rfl ?_
      obtain ⟨v127, e127⟩ : ∃ z, v126 &&& (31 : Int32) = z := ⟨_, rfl⟩
      refine o_iand G0 at_91 (pc' := 92) rfl e127 ?_
      refine o_bipush G0 at_92 (pc' := 94) rfl (v := (6 : Int32)) rfl ?_
      obtain ⟨v128, e128⟩ : ∃ z, v127 <<< ((6 : Int32) &&& 31) = z := ⟨_, rfl⟩
      refine o_ishl G0 at_94 (pc' := 95) rfl e128 ?_
      refine o_iload G0 at_95 (pc' := 97) rfl rfl ?_
      refine o_bipush G0 at_97 (pc' := 99) rfl (v := (63 : Int32)) rfl ?_
      obtain ⟨v129, e129⟩ : ∃ z, v4 &&& (63 : Int32) = z := ⟨_, rfl⟩
      refine o_iand G0 at_99 (pc' := 100) rfl e129 ?_
      obtain ⟨v130, e130⟩ : ∃ z, v128 ||| v129 = z := ⟨_, rfl⟩
      refine o_ior G0 at_100 (pc' := 101) rfl e130 ?_
      refine o_istore G0 at_101 (pc' := 103) rfl (l' := #[.val (.long q0), .second, .val (.int p1), .val (.int p2), .val (.int p3), .val (.int p4), .val (.int p5), .val (.int v1), .val (.int v2), .val (.int v4), .val (.int v6), .val (.int v8), .val (.int v130), .unset, .unset, .val (.int v126)]) rfl ?_
      refine o_lloadN G0 at_103 (pc' := 104) rfl rfl ?_
      refine o_iload G0 at_104 (pc' := 106) rfl rfl ?_
      obtain ⟨v131, e131⟩ : ∃ z, f_1 q0 v126 = z := ⟨_, rfl⟩
      refine o_callP G0 (z := (⟨"com/example/pocket_simhash/pocketsimhash/Fnv1a64ExtendPinLaw", "mix", "(JI)J"⟩ : MethodName)) (r := (.long v131)) (argsL := [(.long q0), (.int v126)]) (rest := []) (W := 0) (hw _ (List.mem_of_getElem? (i := 1) rfl)) (hw _ (List.mem_of_getElem? (i := 2) rfl)) at_106 (by decide) (hw _ (List.mem_of_getElem? (i := 3) rfl)) (hw _ (List.mem_of_getElem? (i := 4) rfl)) (by rw [← e131]; exact rm1 hw q0 v126 h0 n0 G0.sz) (by decide) (by decide) rfl (lenOf pd_0 rfl) rfl (Nat.le_of_eq rfl) (pc' := 109) rfl (by decide) (by decide) ?_
      intro T132 G132
      refine o_iload G132 at_109 (pc' := 111) rfl rfl ?_
      obtain ⟨v133, e133⟩ : ∃ z, f_1 v131 v4 = z := ⟨_, rfl⟩
      refine o_callP G132 (z := (⟨"com/example/pocket_simhash/pocketsimhash/Fnv1a64ExtendPinLaw", "mix", "(JI)J"⟩ : MethodName)) (r := (.long v133)) (argsL := [(.long v131), (.int v4)]) (rest := []) (W := 0) (hw _ (List.mem_of_getElem? (i := 1) rfl)) (hw _ (List.mem_of_getElem? (i := 2) rfl)) at_111 (by decide) (hw _ (List.mem_of_getElem? (i := 3) rfl)) (hw _ (List.mem_of_getElem? (i := 4) rfl)) (by rw [← e133]; exact rm1 hw v131 v4 h0 n0 G132.sz) (by decide) (by decide) rfl (lenOf pd_0 rfl) rfl (Nat.le_of_eq rfl) (pc' := 114) rfl (by decide) (by decide) ?_
      intro T134 G134
      refine o_lstore G134 at_114 (pc' := 116) rfl (l' := #[.val (.long q0), .second, .val (.int p1), .val (.int p2), .val (.int p3), .val (.int p4), .val (.int p5), .val (.int v1), .val (.int v2), .val (.int v4), .val (.int v6), .val (.int v8), .val (.int v130), .val (.long v133), .second, .val (.int v126)]) rfl ?_
      refine o_goto G134 at_116 (by decide) (pc' := 327) rfl ?_
      refine o_lloadN G134 at_327 (pc' := 328) rfl rfl ?_
      refine o_iload G134 at_328 (pc' := 330) rfl rfl ?_
      obtain ⟨v135, e135⟩ : ∃ z, f_2 q0 v130 = z := ⟨_, rfl⟩
      refine o_callP G134 (z := (⟨"com/example/pocket_simhash/pocketsimhash/Fnv1a64", "extend", "(JI)J"⟩ : MethodName)) (r := (.long v135)) (argsL := [(.long q0), (.int v130)]) (rest := []) (W := 0) (hw _ (List.mem_of_getElem? (i := 6) rfl)) (hw _ (List.mem_of_getElem? (i := 7) rfl)) at_330 (by decide) (hw _ (List.mem_of_getElem? (i := 8) rfl)) (hw _ (List.mem_of_getElem? (i := 9) rfl)) (by rw [← e135]; exact rm2 hw q0 v130 h0 n0 G134.sz) (by decide) (by decide) rfl (lenOf pd_0 rfl) rfl (Nat.le_of_eq rfl) (pc' := 333) rfl (by decide) (by decide) ?_
      intro T136 G136
      refine o_lload G136 at_333 (pc' := 335) rfl rfl ?_
      refine o_lcmp_ne G136 at_335 (pc1 := 336) rfl at_336 (by decide) (pcT := 343) (by decide) (pc' := 339) rfl (fun hc335 => ?_) (fun hc335 => ?_)
      · refine o_iconst G136 at_343 (pc' := 344) rfl (v := (0 : Int32)) rfl ?_
        have hq : (nar .boolean (0 : Int32)) = f_0 q0 p1 p2 p3 p4 p5 := by
          subst e1 e2 e3 e4 e5 e6 e7 e8 e125 e126 e127 e128 e129 e130 e131 e133 e135
          rw [f_0, if_neg hc46, if_pos hc73, if_neg hc335]
          try rfl
        exact o_nreturn (t := .boolean) G136 (by simp) at_344 ⟨congrArg (fun z => some (Value.int z)) hq, rfl⟩ (by decide) (by decide)
      · refine o_iconst G136 at_339 (pc' := 340) rfl (v := (1 : Int32)) rfl ?_
        refine o_goto G136 at_340 (by decide) (pc' := 344) rfl ?_
        have hq : (nar .boolean (1 : Int32)) = f_0 q0 p1 p2 p3 p4 p5 := by
          subst e1 e2 e3 e4 e5 e6 e7 e8 e125 e126 e127 e128 e129 e130 e131 e133 e135
          rw [f_0, if_neg hc46, if_pos hc73, if_pos hc335]
          try rfl
        exact o_nreturn (t := .boolean) G136 (by simp) at_344 ⟨congrArg (fun z => some (Value.int z)) hq, rfl⟩ (by decide) (by decide)
  · refine o_iloadN G0 at_49 (pc' := 50) rfl rfl ?_
    refine o_bipush G0 at_50 (pc' := 52) rfl (v := (127 : Int32)) rfl ?_
    obtain ⟨v137, e137⟩ : ∃ z, p2 &&& (127 : Int32) = z := ⟨_, rfl⟩
    refine o_iand G0 at_52 (pc' := 53) rfl e137 ?_
    refine o_istore G0 at_53 (pc' := 55) rfl (l' := #[.val (.long q0), .second, .val (.int p1), .val (.int p2), .val (.int p3), .val (.int p4), .val (.int p5), .val (.int v1), .val (.int v2), .val (.int v4), .val (.int v6), .val (.int v8), .unset, .unset, .unset, .val (.int v137)]) rfl ?_
    refine o_iload G0 at_55 (pc' := 57) rfl rfl ?_
    refine o_istore G0 at_57 (pc' := 59) rfl (l' := #[.val (.long q0), .second, .val (.int p1), .val (.int p2), .val (.int p3), .val (.int p4), .val (.int p5), .val (.int v1), .val (.int v2), .val (.int v4), .val (.int v6), .val (.int v8), .val (.int v137), .unset, .unset, .val (.int v137)]) rfl ?_
    refine o_lloadN G0 at_59 (pc' := 60) rfl rfl ?_
    refine o_iload G0 at_60 (pc' := 62) rfl rfl ?_
    obtain ⟨v138, e138⟩ : ∃ z, f_1 q0 v137 = z := ⟨_, rfl⟩
    refine o_callP G0 (z := (⟨"com/example/pocket_simhash/pocketsimhash/Fnv1a64ExtendPinLaw", "mix", "(JI)J"⟩ : MethodName)) (r := (.long v138)) (argsL := [(.long q0), (.int v137)]) (rest := []) (W := 0) (hw _ (List.mem_of_getElem? (i := 1) rfl)) (hw _ (List.mem_of_getElem? (i := 2) rfl)) at_62 (by decide) (hw _ (List.mem_of_getElem? (i := 3) rfl)) (hw _ (List.mem_of_getElem? (i := 4) rfl)) (by rw [← e138]; exact rm1 hw q0 v137 h0 n0 G0.sz) (by decide) (by decide) rfl (lenOf pd_0 rfl) rfl (Nat.le_of_eq rfl) (pc' := 65) rfl (by decide) (by decide) ?_
    intro T139 G139
    refine o_lstore G139 at_65 (pc' := 67) rfl (l' := #[.val (.long q0), .second, .val (.int p1), .val (.int p2), .val (.int p3), .val (.int p4), .val (.int p5), .val (.int v1), .val (.int v2), .val (.int v4), .val (.int v6), .val (.int v8), .val (.int v137), .val (.long v138), .second, .val (.int v137)]) rfl ?_
    refine o_goto G139 at_67 (by decide) (pc' := 327) rfl ?_
    refine o_lloadN G139 at_327 (pc' := 328) rfl rfl ?_
    refine o_iload G139 at_328 (pc' := 330) rfl rfl ?_
    obtain ⟨v140, e140⟩ : ∃ z, f_2 q0 v137 = z := ⟨_, rfl⟩
    refine o_callP G139 (z := (⟨"com/example/pocket_simhash/pocketsimhash/Fnv1a64", "extend", "(JI)J"⟩ : MethodName)) (r := (.long v140)) (argsL := [(.long q0), (.int v137)]) (rest := []) (W := 0) (hw _ (List.mem_of_getElem? (i := 6) rfl)) (hw _ (List.mem_of_getElem? (i := 7) rfl)) at_330 (by decide) (hw _ (List.mem_of_getElem? (i := 8) rfl)) (hw _ (List.mem_of_getElem? (i := 9) rfl)) (by rw [← e140]; exact rm2 hw q0 v137 h0 n0 G139.sz) (by decide) (by decide) rfl (lenOf pd_0 rfl) rfl (Nat.le_of_eq rfl) (pc' := 333) rfl (by decide) (by decide) ?_
    intro T141 G141
    refine o_lload G141 at_333 (pc' := 335) rfl rfl ?_
    refine o_lcmp_ne G141 at_335 (pc1 := 336) rfl at_336 (by decide) (pcT := 343) (by decide) (pc' := 339) rfl (fun hc335 => ?_) (fun hc335 => ?_)
    · refine o_iconst G141 at_343 (pc' := 344) rfl (v := (0 : Int32)) rfl ?_
      have hq : (nar .boolean (0 : Int32)) = f_0 q0 p1 p2 p3 p4 p5 := by
        subst e1 e2 e3 e4 e5 e6 e7 e8 e137 e138 e140
        rw [f_0, if_pos hc46, if_neg hc335]
        try rfl
      exact o_nreturn (t := .boolean) G141 (by simp) at_344 ⟨congrArg (fun z => some (Value.int z)) hq, rfl⟩ (by decide) (by decide)
    · refine o_iconst G141 at_339 (pc' := 340) rfl (v := (1 : Int32)) rfl ?_
      refine o_goto G141 at_340 (by decide) (pc' := 344) rfl ?_
      have hq : (nar .boolean (1 : Int32)) = f_0 q0 p1 p2 p3 p4 p5 := by
        subst e1 e2 e3 e4 e5 e6 e7 e8 e137 e138 e140
        rw [f_0, if_pos hc46, if_pos hc335]
        try rfl
      exact o_nreturn (t := .boolean) G141 (by simp) at_344 ⟨congrArg (fun z => some (Value.int z)) hq, rfl⟩ (by decide) (by decide)
theorem own_m63 (x : Int32) : (x &&& 63).toInt = x.toInt % 64 := c_mask x 63 6 (by decide) (by decide)
theorem own_orc (x : Int32) (c : Int32) (k : Nat) (hk : k ≤ 31) (P : Int) (hP : P = (2 ^ k : Nat)) (hc : c.toInt % P = 0) (h0 : 0 ≤ c.toInt) (h3 : c.toInt ≤ 1073741824) (h1 : 0 ≤ x.toInt) (h2 : x.toInt < P) (h4 : P ≤ 1073741824) : (c ||| x).toInt = c.toInt + x.toInt := by
  have h := c_or c x k hk P hP hc h1 h2
  have a1 := (c ||| x).toInt_lt
  have a2 := (c ||| x).le_toInt
  omega
theorem own_shl (x q : Int32) (k : Nat) (P : Int) (hP : P = (2 ^ k : Nat)) (hk : q.toBitVec.toNat % 32 = k) (h1 : 0 ≤ x.toInt * P) (h2 : x.toInt * P < 2147483648) : (x <<< (q &&& 31)).toInt = x.toInt * P := by
  have h := c_ishl x q k hk
  rw [← hP] at h
  have a1 := (x <<< (q &&& 31)).toInt_lt
  have a2 := (x <<< (q &&& 31)).le_toInt
  generalize x.toInt * P = z at *
  omega
theorem own_shr (x q : Int32) (k : Nat) (P : Int) (hP : P = (2 ^ k : Nat)) (hk : q.toBitVec.toNat % 32 = k) (h0 : 0 < k) (h1 : 0 ≤ x.toInt) : ((x.toUInt32 >>> (q &&& 31).toUInt32).toInt32).toInt = x.toInt / P := by
  have a1 := x.toInt_lt
  rw [c_iushr x q k hk h0, ← hP, Int.emod_eq_of_lt h1 (by omega)]
theorem own_lt32 (x y : Int32) : x < y ↔ x.toInt < y.toInt := Int32.lt_iff_toInt_lt
theorem own_ext2 (h : Int64) (b0 c1 : Int32) (l0 : 194 ≤ b0.toInt) (u0 : b0.toInt ≤ 223) (l1 : 128 ≤ c1.toInt) (u1 : c1.toInt < 192) :
    f_2 h (((b0 &&& (31 : Int32)) <<< ((6 : Int32) &&& 31)) ||| (c1 &&& (63 : Int32))) = f_1 (f_1 h b0) c1 := by
  have e1 : (b0 &&& 31).toInt = b0.toInt - 192 := by rw [c_mask b0 31 5 (by decide) (by decide)]; omega
  have e2 : (c1 &&& 63).toInt = c1.toInt - 128 := by rw [own_m63]; omega
  have e3 : ((b0 &&& (31 : Int32)) <<< ((6 : Int32) &&& 31)).toInt = (b0.toInt - 192) * 64 := by
    rw [own_shl _ _ 6 64 rfl (by decide) (by rw [e1]; omega) (by rw [e1]; omega), e1]
  have e4 := own_orc (c1 &&& 63) ((b0 &&& (31 : Int32)) <<< ((6 : Int32) &&& 31)) 6 (by decide) 64 rfl (by rw [e3]; omega) (by rw [e3]; omega) (by rw [e3]; omega) (by rw [e2]; omega) (by rw [e2]; omega) (by decide)
  rw [e3, e2] at e4
  generalize ((b0 &&& (31 : Int32)) <<< ((6 : Int32) &&& 31)) ||| (c1 &&& (63 : Int32)) = cp at *
  have k1 : (128 : Int32).toInt = 128 := rfl
  have k2 : (2048 : Int32).toInt = 2048 := rfl
  have k3 : (192 : Int32).toInt = 192 := rfl
  rw [f_2, if_neg (by rw [own_lt32, k1]; omega), if_pos (by rw [own_lt32, k2]; omega)]
  have s1 := own_shr cp 6 6 64 rfl (by decide) (by decide) (by omega)
  have x1 : (192 : Int32) ||| ((cp.toUInt32 >>> ((6 : Int32) &&& 31).toUInt32).toInt32) = b0 := by
    apply Int32.toInt_inj.mp
    rw [own_orc _ 192 6 (by decide) 64 rfl (by decide) (by decide) (by decide) (by rw [s1]; omega) (by rw [s1]; omega) (by decide), s1, k3]; omega
  have x2 : (128 : Int32) ||| (cp &&& 63) = c1 := by
    apply Int32.toInt_inj.mp
    rw [own_orc _ 128 6 (by decide) 64 rfl (by decide) (by decide) (by decide) (by rw [own_m63]; omega) (by rw [own_m63]; omega) (by decide), own_m63, k1]; omega
  rw [x1, x2]; rfl
theorem own_ext3 (h : Int64) (b0 c1 c2 : Int32) (l0 : 224 ≤ b0.toInt) (u0 : b0.toInt ≤ 239) (l1 : 128 ≤ c1.toInt) (u1 : c1.toInt < 192) (l2 : 128 ≤ c2.toInt) (u2 : c2.toInt < 192) (hE : b0.toInt = 224 → 160 ≤ c1.toInt) :
    f_2 h ((((b0 &&& (15 : Int32)) <<< ((12 : Int32) &&& 31)) ||| ((c1 &&& (63 : Int32)) <<< ((6 : Int32) &&& 31))) ||| (c2 &&& (63 : Int32))) = f_1 (f_1 (f_1 h b0) c1) c2 := by
  have e1 : (b0 &&& 15).toInt = b0.toInt - 224 := by rw [c_mask b0 15 4 (by decide) (by decide)]; omega
  have e2 : (c1 &&& 63).toInt = c1.toInt - 128 := by rw [own_m63]; omega
  have e2' : (c2 &&& 63).toInt = c2.toInt - 128 := by rw [own_m63]; omega
  have e3 : ((b0 &&& (15 : Int32)) <<< ((12 : Int32) &&& 31)).toInt = (b0.toInt - 224) * 4096 := by
    rw [own_shl _ _ 12 4096 rfl (by decide) (by rw [e1]; omega) (by rw [e1]; omega), e1]
  have e3' : ((c1 &&& (63 : Int32)) <<< ((6 : Int32) &&& 31)).toInt = (c1.toInt - 128) * 64 := by
    rw [own_shl _ _ 6 64 rfl (by decide) (by rw [e2]; omega) (by rw [e2]; omega), e2]
  have e4 := own_orc ((c1 &&& (63 : Int32)) <<< ((6 : Int32) &&& 31)) ((b0 &&& (15 : Int32)) <<< ((12 : Int32) &&& 31)) 12 (by decide) 4096 rfl (by rw [e3]; omega) (by rw [e3]; omega) (by rw [e3]; omega) (by rw [e3']; omega) (by rw [e3']; omega) (by decide)
  rw [e3, e3'] at e4
  have e5 := own_orc (c2 &&& 63) (((b0 &&& (15 : Int32)) <<< ((12 : Int32) &&& 31)) ||| ((c1 &&& (63 : Int32)) <<< ((6 : Int32) &&& 31))) 6 (by decide) 64 rfl (by rw [e4]; omega) (by rw [e4]; omega) (by rw [e4]; omega) (by rw [e2']; omega) (by rw [e2']; omega) (by decide)
  rw [e4, e2'] at e5
  generalize (((b0 &&& (15 : Int32)) <<< ((12 : Int32) &&& 31)) ||| ((c1 &&& (63 : Int32)) <<< ((6 : Int32) &&& 31))) ||| (c2 &&& (63 : Int32)) = cp at *
  have k1 : (128 : Int32).toInt = 128 := rfl
  have k2 : (2048 : Int32).toInt = 2048 := rfl
  have k3 : (224 : Int32).toInt = 224 := rfl
  have k4 : (65536 : Int32).toInt = 65536 := rfl
  rw [f_2, if_neg (by rw [own_lt32, k1]; omega), if_neg (by rw [own_lt32, k2]; omega), if_pos (by rw [own_lt32, k4]; omega)]
  have s1 := own_shr cp 12 12 4096 rfl (by decide) (by decide) (by omega)
  have s2 := own_shr cp 6 6 64 rfl (by decide) (by decide) (by omega)
  have x1 : (224 : Int32) ||| ((cp.toUInt32 >>> ((12 : Int32) &&& 31).toUInt32).toInt32) = b0 := by
    apply Int32.toInt_inj.mp
    rw [own_orc _ 224 5 (by decide) 32 rfl (by decide) (by decide) (by decide) (by rw [s1]; omega) (by rw [s1]; omega) (by decide), s1, k3]; omega
  have x2 : (128 : Int32) ||| (((cp.toUInt32 >>> ((6 : Int32) &&& 31).toUInt32).toInt32) &&& 63) = c1 := by
    apply Int32.toInt_inj.mp
    rw [own_orc _ 128 6 (by decide) 64 rfl (by decide) (by decide) (by decide) (by rw [own_m63]; omega) (by rw [own_m63]; omega) (by decide), own_m63, s2, k1]; omega
  have x3 : (128 : Int32) ||| (cp &&& 63) = c2 := by
    apply Int32.toInt_inj.mp
    rw [own_orc _ 128 6 (by decide) 64 rfl (by decide) (by decide) (by decide) (by rw [own_m63]; omega) (by rw [own_m63]; omega) (by decide), own_m63, k1]; omega
  rw [x1, x2, x3]; rfl
theorem own_ext4 (h : Int64) (b0 c1 c2 c3 : Int32) (l0 : 240 ≤ b0.toInt) (u0 : b0.toInt ≤ 244) (l1 : 128 ≤ c1.toInt) (u1 : c1.toInt < 192) (l2 : 128 ≤ c2.toInt) (u2 : c2.toInt < 192) (l3 : 128 ≤ c3.toInt) (u3 : c3.toInt < 192) (hE : b0.toInt = 240 → 144 ≤ c1.toInt) :
    f_2 h (((((b0 &&& (7 : Int32)) <<< ((18 : Int32) &&& 31)) ||| ((c1 &&& (63 : Int32)) <<< ((12 : Int32) &&& 31))) ||| ((c2 &&& (63 : Int32)) <<< ((6 : Int32) &&& 31))) ||| (c3 &&& (63 : Int32))) = f_1 (f_1 (f_1 (f_1 h b0) c1) c2) c3 := by
  have e1 : (b0 &&& 7).toInt = b0.toInt - 240 := by rw [c_mask b0 7 3 (by decide) (by decide)]; omega
  have e2 : (c1 &&& 63).toInt = c1.toInt - 128 := by rw [own_m63]; omega
  have e2' : (c2 &&& 63).toInt = c2.toInt - 128 := by rw [own_m63]; omega
  have e2'' : (c3 &&& 63).toInt = c3.toInt - 128 := by rw [own_m63]; omega
  have e3 : ((b0 &&& (7 : Int32)) <<< ((18 : Int32) &&& 31)).toInt = (b0.toInt - 240) * 262144 := by
    rw [own_shl _ _ 18 262144 rfl (by decide) (by rw [e1]; omega) (by rw [e1]; omega), e1]
  have e3' : ((c1 &&& (63 : Int32)) <<< ((12 : Int32) &&& 31)).toInt = (c1.toInt - 128) * 4096 := by
    rw [own_shl _ _ 12 4096 rfl (by decide) (by rw [e2]; omega) (by rw [e2]; omega), e2]
  have e3'' : ((c2 &&& (63 : Int32)) <<< ((6 : Int32) &&& 31)).toInt = (c2.toInt - 128) * 64 := by
    rw [own_shl _ _ 6 64 rfl (by decide) (by rw [e2']; omega) (by rw [e2']; omega), e2']
  have e4 := own_orc ((c1 &&& (63 : Int32)) <<< ((12 : Int32) &&& 31)) ((b0 &&& (7 : Int32)) <<< ((18 : Int32) &&& 31)) 18 (by decide) 262144 rfl (by rw [e3]; omega) (by rw [e3]; omega) (by rw [e3]; omega) (by rw [e3']; omega) (by rw [e3']; omega) (by decide)
  rw [e3, e3'] at e4
  have e5 := own_orc ((c2 &&& (63 : Int32)) <<< ((6 : Int32) &&& 31)) (((b0 &&& (7 : Int32)) <<< ((18 : Int32) &&& 31)) ||| ((c1 &&& (63 : Int32)) <<< ((12 : Int32) &&& 31))) 12 (by decide) 4096 rfl (by rw [e4]; omega) (by rw [e4]; omega) (by rw [e4]; omega) (by rw [e3'']; omega) (by rw [e3'']; omega) (by decide)
  rw [e4, e3''] at e5
  have e6 := own_orc (c3 &&& 63) ((((b0 &&& (7 : Int32)) <<< ((18 : Int32) &&& 31)) ||| ((c1 &&& (63 : Int32)) <<< ((12 : Int32) &&& 31))) ||| ((c2 &&& (63 : Int32)) <<< ((6 : Int32) &&& 31))) 6 (by decide) 64 rfl (by rw [e5]; omega) (by rw [e5]; omega) (by rw [e5]; omega) (by rw [e2'']; omega) (by rw [e2'']; omega) (by decide)
  rw [e5, e2''] at e6
  generalize ((((b0 &&& (7 : Int32)) <<< ((18 : Int32) &&& 31)) ||| ((c1 &&& (63 : Int32)) <<< ((12 : Int32) &&& 31))) ||| ((c2 &&& (63 : Int32)) <<< ((6 : Int32) &&& 31))) ||| (c3 &&& (63 : Int32)) = cp at *
  have k1 : (128 : Int32).toInt = 128 := rfl
  have k2 : (2048 : Int32).toInt = 2048 := rfl
  have k3 : (240 : Int32).toInt = 240 := rfl
  have k4 : (65536 : Int32).toInt = 65536 := rfl
  rw [f_2, if_neg (by rw [own_lt32, k1]; omega), if_neg (by rw [own_lt32, k2]; omega), if_neg (by rw [own_lt32, k4]; omega)]
  have s0 := own_shr cp 18 18 262144 rfl (by decide) (by decide) (by omega)
  have s1 := own_shr cp 12 12 4096 rfl (by decide) (by decide) (by omega)
  have s2 := own_shr cp 6 6 64 rfl (by decide) (by decide) (by omega)
  have x0 : (240 : Int32) ||| ((cp.toUInt32 >>> ((18 : Int32) &&& 31).toUInt32).toInt32) = b0 := by
    apply Int32.toInt_inj.mp
    rw [own_orc _ 240 4 (by decide) 16 rfl (by decide) (by decide) (by decide) (by rw [s0]; omega) (by rw [s0]; omega) (by decide), s0, k3]; omega
  have x1 : (128 : Int32) ||| (((cp.toUInt32 >>> ((12 : Int32) &&& 31).toUInt32).toInt32) &&& 63) = c1 := by
    apply Int32.toInt_inj.mp
    rw [own_orc _ 128 6 (by decide) 64 rfl (by decide) (by decide) (by decide) (by rw [own_m63]; omega) (by rw [own_m63]; omega) (by decide), own_m63, s1, k1]; omega
  have x2 : (128 : Int32) ||| (((cp.toUInt32 >>> ((6 : Int32) &&& 31).toUInt32).toInt32) &&& 63) = c2 := by
    apply Int32.toInt_inj.mp
    rw [own_orc _ 128 6 (by decide) 64 rfl (by decide) (by decide) (by decide) (by rw [own_m63]; omega) (by rw [own_m63]; omega) (by decide), own_m63, s2, k1]; omega
  have x3 : (128 : Int32) ||| (cp &&& 63) = c3 := by
    apply Int32.toInt_inj.mp
    rw [own_orc _ 128 6 (by decide) 64 rfl (by decide) (by decide) (by decide) (by rw [own_m63]; omega) (by rw [own_m63]; omega) (by decide), own_m63, k1]; omega
  rw [x0, x1, x2, x3]; rfl
theorem own_c (x : Int32) : 128 ≤ ((128 : Int32) ||| (x &&& 63)).toInt ∧ ((128 : Int32) ||| (x &&& 63)).toInt < 192 := by
  have h := own_m63 x
  have k : (128 : Int32).toInt = 128 := rfl
  rw [own_orc _ 128 6 (by decide) 64 rfl (by decide) (by decide) (by decide) (by omega) (by omega) (by decide), h, k]; omega
theorem own_c15 (x : Int32) : 128 ≤ ((128 : Int32) ||| (x &&& 15)).toInt ∧ ((128 : Int32) ||| (x &&& 15)).toInt < 192 := by
  have h := c_mask x 15 4 (by decide) (by decide)
  have k : (128 : Int32).toInt = 128 := rfl
  rw [own_orc _ 128 6 (by decide) 64 rfl (by decide) (by decide) (by decide) (by omega) (by omega) (by decide), h, k]; omega
theorem own_b (x c : Int32) (n : Int32) (N C : Int) (hn : n.toInt = N) (hN : 0 < N) (hN2 : N < 1000) (hc : c.toInt = C) (h0 : 0 ≤ C) (h1 : C < 1000) : C ≤ (c + ((x &&& (2147483647 : Int32)) % n)).toInt ∧ (c + ((x &&& (2147483647 : Int32)) % n)).toInt < C + N := by
  have h := c_and x 2147483647 (by decide)
  have hr : ((x &&& (2147483647 : Int32)) % n).toInt = (x &&& (2147483647 : Int32)).toInt % N := by rw [Int32.toInt_mod, Int.tmod_eq_emod_of_nonneg h.1, hn]
  have r1 := Int.emod_nonneg (x &&& (2147483647 : Int32)).toInt (by omega : N ≠ 0)
  have r2 := Int.emod_lt_of_pos (x &&& (2147483647 : Int32)).toInt hN
  rw [Int32.toInt_add, hr, hc, Int.bmod_def]
  split <;> omega
theorem own_c32 (x : Int32) : 160 ≤ (((128 : Int32) ||| (x &&& 63)) ||| (32 : Int32)).toInt ∧ (((128 : Int32) ||| (x &&& 63)) ||| (32 : Int32)).toInt < 192 := by
  have h := own_m63 x
  obtain ⟨u, hu⟩ : ∃ u : Fin 64, x &&& 63 = Int32.ofNat u.val := ⟨⟨(x &&& 63).toInt.toNat, by omega⟩, by
    apply Int32.toInt_inj.mp
    rw [Int32.toInt_ofNat_of_lt (by show (x &&& 63).toInt.toNat < _; omega)]
    show _ = ((x &&& 63).toInt.toNat : Int)
    omega⟩
  rw [hu]; revert u
  have : ∀ u : Fin 64, 160 ≤ (((128 : Int32) ||| (Int32.ofNat u.val)) ||| (32 : Int32)).toInt ∧ (((128 : Int32) ||| (Int32.ofNat u.val)) ||| (32 : Int32)).toInt < 192 := by decide +kernel
  exact fun u _ => this u
theorem own_c9f (x : Int32) : 128 ≤ (((128 : Int32) ||| (x &&& 63)) &&& (159 : Int32)).toInt ∧ (((128 : Int32) ||| (x &&& 63)) &&& (159 : Int32)).toInt < 192 := by
  have h := own_m63 x
  obtain ⟨u, hu⟩ : ∃ u : Fin 64, x &&& 63 = Int32.ofNat u.val := ⟨⟨(x &&& 63).toInt.toNat, by omega⟩, by
    apply Int32.toInt_inj.mp
    rw [Int32.toInt_ofNat_of_lt (by show (x &&& 63).toInt.toNat < _; omega)]
    show _ = ((x &&& 63).toInt.toNat : Int)
    omega⟩
  rw [hu]; revert u
  have : ∀ u : Fin 64, 128 ≤ (((128 : Int32) ||| (Int32.ofNat u.val)) &&& (159 : Int32)).toInt ∧ (((128 : Int32) ||| (Int32.ofNat u.val)) &&& (159 : Int32)).toInt < 192 := by decide +kernel
  exact fun u _ => this u
theorem own_law (q0 : Int64) (p1 p2 p3 p4 p5 : Int32) : f_0 q0 p1 p2 p3 p4 p5 = 1 := by
  rw [f_0]
  have b30 := own_b p2 194 30 30 194 rfl (by decide) (by decide) rfl (by decide) (by decide)
  have b16 := own_b p2 224 16 16 224 rfl (by decide) (by decide) rfl (by decide) (by decide)
  have b5 := own_b p2 240 5 5 240 rfl (by decide) (by decide) rfl (by decide) (by decide)
  have b48 := own_b p3 144 48 48 144 rfl (by decide) (by decide) rfl (by decide) (by decide)
  have c3 := own_c p3
  have c4 := own_c p4
  have c5 := own_c p5
  have c3a := own_c32 p3
  have c3b := own_c9f p3
  have c3c := own_c15 p3
  have m7 := c_mask p2 127 7 (by decide) (by decide)
  split
  · rw [if_pos]
    rw [f_2, if_pos]; rfl
    rw [own_lt32, m7]; have : (128 : Int32).toInt = 128 := rfl
    omega
  · split
    · rw [if_pos (own_ext2 q0 _ _ b30.1 (by omega) c3.1 c3.2)]
    · split
      · split
        · rw [if_pos (own_ext3 q0 _ _ _ b16.1 (by omega) (by omega) c3a.2 c4.1 c4.2 (fun _ => c3a.1))]
        · rename_i n1
          have n2 : ((224 : Int32) + ((p2 &&& (2147483647 : Int32)) % (16 : Int32))).toInt ≠ 224 := fun z => n1 (Int32.toInt_inj.mp z)
          split
          · rw [if_pos (own_ext3 q0 _ _ _ b16.1 (by omega) c3b.1 c3b.2 c4.1 c4.2 (fun z => absurd z n2))]
          · rw [if_pos (own_ext3 q0 _ _ _ b16.1 (by omega) c3.1 c3.2 c4.1 c4.2 (fun z => absurd z n2))]
      · split
        · rw [if_pos (own_ext4 q0 _ _ _ _ b5.1 (by omega) (by omega) (by omega) c4.1 c4.2 c5.1 c5.2 (fun _ => b48.1))]
        · rename_i n1
          have n2 : ((240 : Int32) + ((p2 &&& (2147483647 : Int32)) % (5 : Int32))).toInt ≠ 240 := fun z => n1 (Int32.toInt_inj.mp z)
          split
          · rw [if_pos (own_ext4 q0 _ _ _ _ b5.1 (by omega) c3c.1 c3c.2 c4.1 c4.2 c5.1 c5.2 (fun z => absurd z n2))]
          · rw [if_pos (own_ext4 q0 _ _ _ _ b5.1 (by omega) c3.1 c3.2 c4.1 c4.2 c5.1 c5.2 (fun z => absurd z n2))]
set_option maxRecDepth 65536 in
set_option maxHeartbeats 40000000 in
theorem comes_1 {Post : Tables → Env → Array Value → State → Outcome → State → Prop} (hpost : ∀ tb e args s v u, (limb_1_1.after args s (.returned v) u = true ∧ limb_1_2.after args s (.returned v) u = true ∧ True) → FrameEnd s (.returned v) u (Jvm.fieldLocs frame_1_writes args s ++ Jvm.arrayLocs frame_1_arrays args s ++ Jvm.staticLocs frame_1_statics s) 0 0 → Post tb e args s (.returned v) u) :
    ArmFor flags0 classFile x code maxLocals ret World_1 tables_1 room_1 Calls_1 rest_1 Pre_1 Post := by
  intro l hfl _ _ p e ha hc hk s m args below hf hA hF happ hP
  obtain ⟨hcalls, hrest, hpre⟩ := hP
  obtain ⟨-, -, -, hnamed, -, -, -, hat⟩ := (Spec.applies_iff hf).mp happ
  obtain ⟨hg, hn⟩ := and_e (Cond.before_iff.mp (show (Jvm.Cond.and given_1 narrow_1).before args s = true from hpre))
  obtain ⟨g1, g2⟩ := and_e hg
  obtain ⟨g3, g4⟩ := and_e g2
  obtain ⟨g5, g6⟩ := and_e g4
  obtain ⟨g7, g8⟩ := and_e g6
  obtain ⟨g9, g10⟩ := and_e g8
  obtain ⟨g11, g12⟩ := and_e g10
  obtain ⟨w0, w1, w2, w3, w4, w5, rfl⟩ : ∃ w0 w1 w2 w3 w4 w5 : Value, args = #[w0, w1, w2, w3, w4, w5] := by
    have hs : args.size = 6 := by simpa [Cond.value, given_1] using g1
    obtain ⟨L⟩ := args
    match L, hs with
    | [w0, w1, w2, w3, w4, w5], _ => exact ⟨w0, w1, w2, w3, w4, w5, rfl⟩
  have hw := fun d (hd : d ∈ tables_1) => atoms_spec (ws := Jvm.Cond.code x code maxLocals ret :: tables_1) hat d (List.mem_cons_of_mem _ hd)
  obtain ⟨i0, ei0⟩ := isL_v g3
  obtain rfl : w0 = (.long i0) := Option.some.inj ei0
  obtain ⟨i1, ei1⟩ := is_v g5
  obtain rfl : w1 = (.int i1) := Option.some.inj ei1
  obtain ⟨i2, ei2⟩ := is_v g7
  obtain rfl : w2 = (.int i2) := Option.some.inj ei2
  obtain ⟨i3, ei3⟩ := is_v g9
  obtain rfl : w3 = (.int i3) := Option.some.inj ei3
  obtain ⟨i4, ei4⟩ := is_v g11
  obtain rfl : w4 = (.int i4) := Option.some.inj ei4
  obtain ⟨i5, ei5⟩ := is_v g12
  obtain rfl : w5 = (.int i5) := Option.some.inj ei5
  obtain ⟨n, o, h1, h2, h3, _, L, rfl, ⟨N, _, hv⟩, hq⟩ := rm0 (l := l) (Z := s) hw i0 i1 i2 i3 i4 i5 s.heap s.heap.size (Nat.le_refl _)  tables_1 p e ha hc hk s m _ below hf ((Spec.applies_iff_loose hf).mp happ).1 ⟨rfl, State.Warmed39.refl s, rfl⟩ trivial
  obtain ⟨hv, -⟩ := hv
  rw [own_law] at hv
  subst hv
  refine ⟨n, _, h1, h2, h3, hpost _ _ _ _ _ _ ⟨Cond.after_iff.mpr rfl, Cond.after_iff.mpr (eq_i res_at (Term.int_eval (1)) rfl), trivial⟩ ⟨hq.1, hq.2.1, (hq.2.2.sift fun y hy => Or.inr (N y hy)).mono (by decide) (by decide)⟩⟩
theorem main_1_1 : Claimed_1_1 := comes_1 fun _ _ _ _ _ _ h hF => ⟨h.1, hF⟩
theorem main_1_2 : Claimed_1_2 := comes_1 fun _ _ _ _ _ _ h hF => ⟨h.2.1, hF⟩
end Jvm.Pilot.@@N@@
namespace Jvm.Pilot.@@N@@
open Jvm Jvm.ClassFile Sem Op Lib Jvm.Free Jvm.Stand Jvm.Pilot.@@N@@.Jvm.D
/-! MADE BY PROGRAM (witnessworld.py) out of the Statement's table words and the real class files: 9 classes; the members and pool entries that the words name. The judged class is class 1, her method 2. -/
namespace start1
open Jvm.ClassFile
def u (s : String) : CpInfo := .utf8 (stringToUtf16 s)
/-- a pool by its gaps: so many unusable entries, then the entry; so many at the end -/
def gap : Nat → List CpInfo → List CpInfo
  | 0, r => r
  | n + 1, r => .unusable :: gap n r
def poolList (es : List (Nat × CpInfo)) (last : Nat) : List CpInfo := es.foldr (fun e r => gap e.1 (e.2 :: r)) (gap last [])
def pool (es : List (Nat × CpInfo)) (last : Nat) : Array CpInfo := ⟨poolList es last⟩
def fileOf (pool : Array CpInfo) (this : Nat) (attrs : Array Attribute := #[]) (ms : Array MethodInfo := #[]) (fl : Nat := 33) (sup : Nat := 0) (ifs : Array Nat := #[]) (fds : Array FieldInfo := #[]) : ClassFile where
  minorVersion := 0
  majorVersion := 65
  constantPool := pool
  accessFlags := fl
  thisClass := this
  superClass := sup
  interfaces := ifs
  fields := fds
  methods := ms
  attributes := attrs
def plain (name : String) (sup : Option ClassId) : Class where
  name := name
  kind := .ordinary
  loader := none
  accessFlags := 33
  super := sup
  interfaces := #[]
  cf := none
  fields := #[]
  methods := #[]
  instanceTypes := #[]
  staticTypes := #[]
  resolved := #[]
  callSites := []
  init := .initialized
  statics := none
  mirror := none

def pool0 : Array CpInfo := pool [(5, u "<init>"), (0, u "()V"), (1, .class_ 10), (1, u "java/lang/Object")] 113

def k0m0 : Method := { name := "<init>", desc := "()V", sig := { parameters := [], returnType := none }, accessFlags := 1, code := none }
/-- java/lang/Object -/
def k0 : Class := { plain "java/lang/Object" none with
  accessFlags := 33
  interfaces := #[]
  cf := some (fileOf pool0 8 #[] #[{ accessFlags := 1, nameIndex := 5, descriptorIndex := 6, attributes := #[] }] 33 0 #[] #[])
  fields := #[]
  methods := #[k0m0]
  instanceTypes := #[]
  staticTypes := #[]
  resolved := Array.replicate 124 none
  statics := none }

def pool1 : Array CpInfo := pool [(2, .class_ 4), (1, u "java/lang/Object"), (0, u "<init>"), (0, u "()V"), (0, .long 1099511628211), (1, .integer 2147483647), (0, .methodref 11 12), (0, .class_ 13), (0, .nameAndType 14 15), (0, u "com/example/pocket_simhash/pocketsimhash/Fnv1a64ExtendPinLaw"), (0, u "mix"), (0, u "(JI)J"), (0, .methodref 17 18), (0, .class_ 19), (0, .nameAndType 20 15), (0, u "com/example/pocket_simhash/pocketsimhash/Fnv1a64"), (0, u "extend"), (2, u "law"), (0, u "(JIIIII)Z")] 3

def k1m0 : Method := { name := "<init>", desc := "()V", sig := { parameters := [], returnType := none }, accessFlags := 1, code := none }
def k1c1 : Code := { maxStack := 4, maxLocals := 3, code := method_2_code, exceptionTable := #[], attributes := #[] }
def k1m1 : Method := { name := "mix", desc := "(JI)J", sig := { parameters := [.long, .int], returnType := some .long }, accessFlags := 10, code := some k1c1 }
def k1c2 : Code := { maxStack := 4, maxLocals := 16, code := code, exceptionTable := #[], attributes := #[] }
def k1m2 : Method := { name := "law", desc := "(JIIIII)Z", sig := { parameters := [.long, .int, .int, .int, .int, .int], returnType := some .boolean }, accessFlags := 9, code := some k1c2 }
/-- com/example/pocket_simhash/pocketsimhash/Fnv1a64ExtendPinLaw -/
def k1 : Class := { plain "com/example/pocket_simhash/pocketsimhash/Fnv1a64ExtendPinLaw" (some 0) with
  accessFlags := 49
  interfaces := #[]
  cf := some (fileOf pool1 11 #[] #[{ accessFlags := 1, nameIndex := 5, descriptorIndex := 6, attributes := #[] }, { accessFlags := 10, nameIndex := 14, descriptorIndex := 15, attributes := #[] }, { accessFlags := 9, nameIndex := 23, descriptorIndex := 24, attributes := #[] }] 49 2 #[] #[])
  fields := #[]
  methods := #[k1m0, k1m1, k1m2]
  instanceTypes := #[]
  staticTypes := #[]
  resolved := Array.replicate 28 none
  statics := none }

def pool2 : Array CpInfo := pool [(2, .class_ 4), (1, u "java/lang/Object"), (0, u "<init>"), (0, u "()V"), (0, .class_ 8), (0, u "com/example/pocket_simhash/pocketsimhash/Fnv1a64"), (2, .methodref 7 12), (0, .nameAndType 13 14), (0, u "mix"), (0, u "(JI)J"), (12, u "extend"), (23, .integer 65536), (0, .long 1099511628211), (1, u "OFFSET_BASIS"), (0, u "J"), (1, u "PRIME"), (0, u "REPLACEMENT_CHARACTER"), (0, u "I")] 11

def k2m0 : Method := { name := "<init>", desc := "()V", sig := { parameters := [], returnType := none }, accessFlags := 2, code := none }
def k2c1 : Code := { maxStack := 5, maxLocals := 5, code := prog_15_method_7_code, exceptionTable := #[], attributes := #[] }
def k2m1 : Method := { name := "extend", desc := "(JI)J", sig := { parameters := [.long, .int], returnType := some .long }, accessFlags := 8, code := some k2c1 }
def k2c2 : Code := { maxStack := 4, maxLocals := 3, code := prog_15_method_8_code, exceptionTable := #[], attributes := #[] }
def k2m2 : Method := { name := "mix", desc := "(JI)J", sig := { parameters := [.long, .int], returnType := some .long }, accessFlags := 10, code := some k2c2 }
/-- com/example/pocket_simhash/pocketsimhash/Fnv1a64 -/
def k2 : Class := { plain "com/example/pocket_simhash/pocketsimhash/Fnv1a64" (some 0) with
  accessFlags := 33
  interfaces := #[]
  cf := some (fileOf pool2 7 #[] #[{ accessFlags := 2, nameIndex := 5, descriptorIndex := 6, attributes := #[] }, { accessFlags := 8, nameIndex := 27, descriptorIndex := 14, attributes := #[] }, { accessFlags := 10, nameIndex := 13, descriptorIndex := 14, attributes := #[] }] 33 2 #[] #[{ accessFlags := 26, nameIndex := 54, descriptorIndex := 55, attributes := #[] }, { accessFlags := 26, nameIndex := 57, descriptorIndex := 55, attributes := #[] }, { accessFlags := 26, nameIndex := 58, descriptorIndex := 59, attributes := #[] }])
  fields := #[{ name := "OFFSET_BASIS", type := .long, accessFlags := 26, slot := 0, constantValue := 0 }, { name := "PRIME", type := .long, accessFlags := 26, slot := 1, constantValue := 0 }, { name := "REPLACEMENT_CHARACTER", type := .int, accessFlags := 26, slot := 2, constantValue := 0 }]
  methods := #[k2m0, k2m1, k2m2]
  instanceTypes := #[]
  staticTypes := #[.long, .long, .int]
  resolved := Array.replicate 71 none
  statics := none }

def pool3 : Array CpInfo := pool [(1, u "java/lang/Cloneable"), (0, .class_ 1), (0, u "java/lang/Object"), (0, .class_ 3)] 3

/-- java/lang/Cloneable -/
def k3 : Class := { plain "java/lang/Cloneable" (some 0) with
  accessFlags := 1537
  interfaces := #[]
  cf := some (fileOf pool3 2 #[] #[] 1537 4 #[] #[])
  fields := #[]
  methods := #[]
  instanceTypes := #[]
  staticTypes := #[]
  resolved := Array.replicate 8 none
  statics := none }

def pool4 : Array CpInfo := pool [(1, u "java/io/Serializable"), (0, .class_ 1), (0, u "java/lang/Object"), (0, .class_ 3)] 3

/-- java/io/Serializable -/
def k4 : Class := { plain "java/io/Serializable" (some 0) with
  accessFlags := 1537
  interfaces := #[]
  cf := some (fileOf pool4 2 #[] #[] 1537 4 #[] #[])
  fields := #[]
  methods := #[]
  instanceTypes := #[]
  staticTypes := #[]
  resolved := Array.replicate 8 none
  statics := none }

/-- the primitive byte -/
def k5 : Class := { plain "byte" none with kind := .primitive 'B', accessFlags := 0x411 }
/-- [B -/
def k6 : Class := { plain "[B" (some 0) with kind := .array 5 .byte, interfaces := #[3, 4], accessFlags := 1041 }

/-- the primitive int -/
def k7 : Class := { plain "int" none with kind := .primitive 'I', accessFlags := 0x411 }
/-- [I -/
def k8 : Class := { plain "[I" (some 0) with kind := .array 7 .int, interfaces := #[3, 4], accessFlags := 1041 }

def heap : Heap := #[]
def classes : Array Class := #[k0, k1, k2, k3, k4, k5, k6, k7, k8]
def interned : List (Array UInt16 × Addr) := []
def slotsUsed : Nat := 0
def theMethod : MethodId := ⟨1, 2⟩
def args0 : Array Value := #[.long 5, .int 5, .int 5, .int 5, .int 5, .int 5]
def aboutOver (below : List Frame) : State where
  vm := { classes := classes, interned := interned.toArray }
  heap := heap
  slotsUsed := slotsUsed
  threads := #[{ frames := .invoking theMethod args0 :: below }]
def below0 : List Frame := [.native { method := ⟨0, 0⟩, args := #[] }]
def about1 : State := aboutOver below0
def p0 : Program := .bare "" "" ""
def e0 : Env := launch0.env 0 0 0
theorem w_frames : about1.frames = Frame.invoking theMethod args0 :: below0 := rfl
set_option maxRecDepth 65536 in
theorem w_args : argsFit about1.vm theMethod args0 = true := by decide +kernel
set_option maxRecDepth 65536 in
theorem w_heap : heapFits about1 = true := by decide +kernel
set_option maxRecDepth 65536 in
theorem w_runnable : about1.curStatus? = some .runnable := by decide +kernel
set_option maxRecDepth 65536 in
theorem w_alone : about1.alone = true := by decide +kernel
set_option maxRecDepth 65536 in
theorem w_named : about1.methodNamed? x = some theMethod := by decide +kernel
set_option maxRecDepth 65536 in
theorem w_hears : about1.hears theMethod below0 = true := by decide +kernel
set_option maxRecDepth 65536 in
theorem w_ripe : about1.ripe theMethod args0 below0 = true := by decide +kernel
theorem w_running : about1.status = .running := rfl
set_option maxRecDepth 65536 in
theorem w_room : about1.hasRoom e0.platform room_1 = true :=
  launch0.hasRoom_least _ room_1 (by decide +kernel) (by decide +kernel) (by decide +kernel) (by decide +kernel) (by decide +kernel) (by decide +kernel)
theorem allAtoms_all (ts : List Jvm.Cond) (a : Array Jvm.Value) (st : Jvm.State) : (allAtoms ts).before a st = ts.all (fun c => c.before a st) := by
  induction ts with
  | nil => rfl
  | cons c t ih =>
    show (Jvm.Cond.and c (allAtoms t)).before a st = _
    rw [Jvm.Cond.before_and, ih, List.all_cons]
def words1 : List Jvm.Cond := Jvm.Cond.code x code maxLocals ret :: tables_1
/-- a 'code' word, met by the world's own term for the bytes: nothing is compared byte by byte -/
theorem code_word {y : MethodName} {bytes : ByteArray} {mx : Nat} {rt : Option FieldType} {a : Array Value} {s : State} {m : MethodId} {meth : Method} {c : Code} (h1 : s.methodNamed? y = some m) (h2 : s.vm.method? m = some meth) (h3 : meth.code = some c) (h4 : c.code = bytes)
    (h5 : (c.maxLocals == mx && c.exceptionTable.isEmpty && decide (c.maxStack ≤ mostOperands) && decide (meth.sig.returnType = rt) && !meth.locks && decide (parseMethodDescriptor y.desc = some meth.sig)) = true) : (Jvm.Cond.code y bytes mx rt).before a s = true := by
  simp only [Bool.and_eq_true, beq_iff_eq, Bool.not_eq_true', decide_eq_true_eq] at h5
  obtain ⟨⟨⟨⟨⟨g1, g2⟩, g3⟩, g4⟩, g5⟩, g6⟩ := h5
  simp [Cond.before, Cond.holds, Cond.value, h1, h2, h3, h4, g1, g2, g3, g4, g5, g6]
def isCode : Jvm.Cond → Bool
  | .code _ _ _ _ => true
  | _ => false
theorem all_split {L : List Jvm.Cond} {P : Jvm.Cond → Bool} (h1 : L.all (fun c => isCode c || P c) = true) (h2 : ∀ c ∈ L.filter isCode, P c = true) : L.all P = true := by
  refine List.all_eq_true.mpr fun c hc => ?_
  have h := List.all_eq_true.mp h1 c hc
  rcases Bool.eq_false_or_eq_true (isCode c) with hi | hi
  · exact h2 c (List.mem_filter.mpr ⟨hc, hi⟩)
  · simpa [hi] using h
set_option maxRecDepth 65536 in
theorem w_c0 : (Jvm.Cond.code x code maxLocals ret).before args0 about1 = true := code_word (m := ⟨1, 2⟩) (meth := k1m2) (c := k1c2) (by decide +kernel) rfl rfl rfl (by decide +kernel)
set_option maxRecDepth 65536 in
theorem w_c1 : (Jvm.Cond.code ({ cls := "com/example/pocket_simhash/pocketsimhash/Fnv1a64ExtendPinLaw", name := "mix", desc := "(JI)J" } : Jvm.MethodName) method_2_code (3 : Nat) (Option.some Jvm.ClassFile.FieldType.long)).before args0 about1 = true := code_word (m := ⟨1, 1⟩) (meth := k1m1) (c := k1c1) (by decide +kernel) rfl rfl rfl (by decide +kernel)
set_option maxRecDepth 65536 in
theorem w_c2 : (Jvm.Cond.code ({ cls := "com/example/pocket_simhash/pocketsimhash/Fnv1a64", name := "extend", desc := "(JI)J" } : Jvm.MethodName) prog_15_method_7_code (5 : Nat) (Option.some Jvm.ClassFile.FieldType.long)).before args0 about1 = true := code_word (m := ⟨2, 1⟩) (meth := k2m1) (c := k2c1) (by decide +kernel) rfl rfl rfl (by decide +kernel)
set_option maxRecDepth 65536 in
theorem w_c3 : (Jvm.Cond.code ({ cls := "com/example/pocket_simhash/pocketsimhash/Fnv1a64", name := "mix", desc := "(JI)J" } : Jvm.MethodName) prog_15_method_8_code (3 : Nat) (Option.some Jvm.ClassFile.FieldType.long)).before args0 about1 = true := code_word (m := ⟨2, 2⟩) (meth := k2m2) (c := k2c2) (by decide +kernel) rfl rfl rfl (by decide +kernel)
def codes1 : List Jvm.Cond := [Jvm.Cond.code x code maxLocals ret, Jvm.Cond.code ({ cls := "com/example/pocket_simhash/pocketsimhash/Fnv1a64ExtendPinLaw", name := "mix", desc := "(JI)J" } : Jvm.MethodName) method_2_code (3 : Nat) (Option.some Jvm.ClassFile.FieldType.long), Jvm.Cond.code ({ cls := "com/example/pocket_simhash/pocketsimhash/Fnv1a64", name := "extend", desc := "(JI)J" } : Jvm.MethodName) prog_15_method_7_code (5 : Nat) (Option.some Jvm.ClassFile.FieldType.long), Jvm.Cond.code ({ cls := "com/example/pocket_simhash/pocketsimhash/Fnv1a64", name := "mix", desc := "(JI)J" } : Jvm.MethodName) prog_15_method_8_code (3 : Nat) (Option.some Jvm.ClassFile.FieldType.long)]
set_option maxRecDepth 65536 in
theorem codes_eq : words1.filter isCode = codes1 := rfl
theorem w_codes : ∀ c ∈ words1.filter isCode, c.before args0 about1 = true := by
  rw [codes_eq]
  intro c hc
  simp only [codes1, List.mem_cons, List.not_mem_nil, or_false] at hc
  rcases hc with rfl | rfl | rfl | rfl
  · exact w_c0
  · exact w_c1
  · exact w_c2
  · exact w_c3
set_option maxRecDepth 65536 in
theorem w_t1 : words1.all (fun c => isCode c || c.before args0 about1) = true := by decide +kernel
theorem w_tables : (allAtoms (Jvm.Cond.code x code maxLocals ret :: tables_1)).before args0 about1 = true := by
  rw [allAtoms_all]
  show words1.all (fun c => c.before args0 about1) = true
  refine all_split ?_ w_codes
  rw [w_t1]
set_option maxRecDepth 65536 in
theorem w_case : (Jvm.Cond.and given_1 narrow_1).before args0 about1 = true := by decide +kernel
theorem w_applies : (headSpec (Jvm.Cond.code x code maxLocals ret :: tables_1) room_1).applies x e0.platform about1 = true :=
  (Spec.applies_iff w_frames).mpr ⟨w_running, w_runnable, w_alone, w_named, w_hears, w_ripe, w_room, w_tables⟩
theorem atStart : AtStart classFile x code maxLocals ret World_1 tables_1 room_1 Calls_1 rest_1 Pre_1 launch0 p0 e0 about1 theMethod args0 below0 :=
  ⟨lists_1, trivial, launch0.admits_env _ _ _, launch0.least_env, fairChoices_fair.cas, fairChoices_fair.clock, w_frames, w_args, w_heap, w_applies, trivial, trivial, w_case⟩
end start1
theorem witness_1 : WitnessClaimed_1 := ⟨start1.p0, start1.e0, start1.about1, start1.theMethod, start1.args0, start1.below0, start1.atStart⟩
end Jvm.Pilot.@@N@@
