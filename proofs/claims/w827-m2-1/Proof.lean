import JvmDerived
import JvmDerived.Pilot.@@N@@Statement
import JvmDerived.Pilot.@@N@@Code
set_option linter.unusedVariables false
set_option linter.unusedSimpArgs false
namespace Jvm.Pilot.@@N@@
open Jvm Jvm.ClassFile Sem Op Lib Jvm.Free Jvm.Stand Jvm.LawKit Jvm.RoadKit Bundle Jvm.Pilot.@@N@@.Jvm.D

section OwnKit
/-- from here the run comes to a return that says Q -/
def OFin (n0 : Nat) (p : Program) (e : Env) (below : List Frame) (s : State) (Q : Option Value → Heap → Prop) (ck sk : Nat) (T : State) (g : JFrame) : Prop :=
  ∃ s₂ o, Steps p.tables e below (T.setTop g) s₂ ∧ s₂.status = .running ∧ Ended s₂ below o ∧ ∃ v L, o = .returned v ∧ (Fr n0 L ∧ n0 ≤ s₂.heap.size ∧ Q v s₂.heap) ∧ FrameEnd s o s₂ L ck sk
/-- where the walk of a body stands, with all that is known of the body -/
def OG (l : Launch) (Z : State) (y : MethodName) (bytes : ByteArray) (maxl : Nat) (ret : Option FieldType) (n0 : Nat) (p : Program) (e : Env) (R : Room) (s : State) (m : MethodId) (args : Array Value) (below : List Frame) (meth : Method) (c : Code) (T : State) (h : Heap) (cells slots : Nat) : Prop :=
  p.tables.exec = Jvm.exec ∧ c.code = bytes ∧ c.maxLocals = maxl ∧ s.vm.findClass y.cls = some m.cls ∧ meth.name = y.name ∧ meth.sig.returnType = ret ∧ meth.locks = false ∧ Z.Warmed39 s.vm ∧ T.heap = h ∧ n0 ≤ h.size ∧ ∃ locs, Stand p l e R s m args below meth c T locs cells slots ∧ Fr n0 locs
/-- a body's contract -/
def OMet (l : Launch) (Z : State) (y : MethodName) (bytes : ByteArray) (maxl : Nat) (ret : Option FieldType) (rm : Room) (as' : Array Value) (h0 : Heap) (n0 : Nat) (ck sk : Nat) (Q : Option Value → Heap → Prop) : Prop :=
  ∀ ws : List Jvm.Cond, MetFree l y (head1 (Jvm.Cond.code y bytes maxl ret :: ws) rm) (fun a U => a = as' ∧ Z.Warmed39 U.vm ∧ U.heap = h0) (fun _ _ _ _ _ => True) (fun _ U o U' => ∃ v L, o = .returned v ∧ (Fr n0 L ∧ n0 ≤ U'.heap.size ∧ Q v U'.heap) ∧ FrameEnd U o U' L ck sk)
variable {l : Launch} {Z : State} {y : MethodName} {bytes : ByteArray} {maxl : Nat} {ret : Option FieldType} {n0 : Nat} {p : Program} {e : Env} {R : Room} {s : State} {m : MethodId} {args : Array Value} {below : List Frame} {meth : Method} {c : Code} {T : State} {h : Heap} {cells slots ck sk : Nat} {Q : Option Value → Heap → Prop} {pc pc' : Nat} {Ls : Array Slot} {rest : List Value} {a0 : Array Value}
theorem o_step {T' : State} {g g' : JFrame} (st : ∀ t, Steps p.tables e below (T'.setTop g') t → Steps p.tables e below (T.setTop g) t) (k : OFin n0 p e below s Q ck sk T' g') : OFin n0 p e below s Q ck sk T g := by
  obtain ⟨s₂, o, h1, r⟩ := k
  exact ⟨s₂, o, st _ h1, r⟩
theorem o_body {rm : Room} {as' : Array Value} {h0 : Heap} (hy : plainFor y = true) (hz : n0 ≤ h0.size) (hent : ∀ m, entryFrame m as' maxl = mkF m 0 Ls [])
    (body : ∀ (p : Program) (e : Env) (s : State) (m : MethodId) (below : List Frame) (meth : Method) (c : Code) (s₁ : State), OG l Z y bytes maxl ret n0 p e rm s m as' below meth c s₁ h0 0 0 → OFin n0 p e below s Q ck sk s₁ (mkF m 0 Ls [])) : OMet l Z y bytes maxl ret rm as' h0 n0 ck sk Q := by
  intro ws
  refine MetFree.of_bodySF hy hisR ?_
  intro p e s m args below meth c s₁ Bd hml0 hP hK
  obtain ⟨ha, hZ, hh⟩ := hP
  subst ha
  have e0 : s₁.heap = h0 := by rw [← hh, Bd.state]; rfl
  have k := body p e s m below meth c s₁ ⟨Bd.exec, Bd.bytes, hml0, findClass_of_methodNamed Bd.named, (name_of_methodNamed Bd.named Bd.method).1, Bd.returns, Bd.notSynchronized, hZ, e0, hz, [], Stand.of_body Bd, Fr.nil n0⟩
  rw [← hent m] at k
  exact k
theorem OG.sz (G : OG l Z y bytes maxl ret n0 p e R s m args below meth c T h cells slots) : n0 ≤ h.size := G.2.2.2.2.2.2.2.2.2.1
theorem OG.eh (G : OG l Z y bytes maxl ret n0 p e R s m args below meth c T h cells slots) : T.heap = h := G.2.2.2.2.2.2.2.2.1
theorem OG.wm (G : OG l Z y bytes maxl ret n0 p e R s m args below meth c T h cells slots) : Z.Warmed39 s.vm := G.2.2.2.2.2.2.2.1
theorem o_iloadN (G : OG l Z y bytes maxl ret n0 p e R s m args below meth c T h cells slots) {k0 : Fin 4} {v : Int32} (hd : decode bytes pc = .ok (.iload_n k0, 1)) (hp : pc + 1 = pc') (hl : Ls[k0.val]? = some (.val (.int v))) (k : OFin n0 p e below s Q ck sk T (mkF m pc' Ls (.int v :: rest))) : OFin n0 p e below s Q ck sk T (mkF m pc Ls rest) := by
  subst hp
  obtain ⟨hx, hby, -, -, -, -, -, -, -, -, locs, X, -⟩ := G
  exact o_step (fun _ hr => XS.iloadN X.here hx rfl (hb hby hd) hl hr) k
theorem o_iload (G : OG l Z y bytes maxl ret n0 p e R s m args below meth c T h cells slots) {k0 : Nat} {v : Int32} (hd : decode bytes pc = .ok (.iload k0, 2)) (hp : pc + 2 = pc') (hl : Ls[k0]? = some (.val (.int v))) (k : OFin n0 p e below s Q ck sk T (mkF m pc' Ls (.int v :: rest))) : OFin n0 p e below s Q ck sk T (mkF m pc Ls rest) := by
  subst hp
  obtain ⟨hx, hby, -, -, -, -, -, -, -, -, locs, X, -⟩ := G
  exact o_step (fun _ hr => XS.iload X.here hx rfl (hb hby hd) hl hr) k
theorem o_aloadN (G : OG l Z y bytes maxl ret n0 p e R s m args below meth c T h cells slots) {k0 : Fin 4} {v : Value} (hd : decode bytes pc = .ok (.aload_n k0, 1)) (hp : pc + 1 = pc') (hl : Ls[k0.val]? = some (.val v)) (hv : v.isRef = true) (k : OFin n0 p e below s Q ck sk T (mkF m pc' Ls (v :: rest))) : OFin n0 p e below s Q ck sk T (mkF m pc Ls rest) := by
  subst hp
  obtain ⟨hx, hby, -, -, -, -, -, -, -, -, locs, X, -⟩ := G
  exact o_step (fun _ hr => XS.aloadN X.here hx rfl (hb hby hd) hl hv hr) k
theorem o_aload (G : OG l Z y bytes maxl ret n0 p e R s m args below meth c T h cells slots) {k0 : Nat} {v : Value} (hd : decode bytes pc = .ok (.aload k0, 2)) (hp : pc + 2 = pc') (hl : Ls[k0]? = some (.val v)) (hv : v.isRef = true) (k : OFin n0 p e below s Q ck sk T (mkF m pc' Ls (v :: rest))) : OFin n0 p e below s Q ck sk T (mkF m pc Ls rest) := by
  subst hp
  obtain ⟨hx, hby, -, -, -, -, -, -, -, -, locs, X, -⟩ := G
  exact o_step (fun _ hr => XS.aload X.here hx rfl (hb hby hd) hl hv hr) k
theorem o_istoreN (G : OG l Z y bytes maxl ret n0 p e R s m args below meth c T h cells slots) {k0 : Fin 4} {v : Int32} {l' : Array Slot} (hd : decode bytes pc = .ok (.istore_n k0, 1)) (hp : pc + 1 = pc') (hl : storeLocals Ls k0.val (.int v) = some l') (k : OFin n0 p e below s Q ck sk T (mkF m pc' l' rest)) : OFin n0 p e below s Q ck sk T (mkF m pc Ls (.int v :: rest)) := by
  subst hp
  obtain ⟨hx, hby, -, -, -, -, -, -, -, -, locs, X, -⟩ := G
  exact o_step (fun _ hr => XS.istoreN X.here hx rfl (hb hby hd) rfl hl hr) k
theorem o_istore (G : OG l Z y bytes maxl ret n0 p e R s m args below meth c T h cells slots) {k0 : Nat} {v : Int32} {l' : Array Slot} (hd : decode bytes pc = .ok (.istore k0, 2)) (hp : pc + 2 = pc') (hl : storeLocals Ls k0 (.int v) = some l') (k : OFin n0 p e below s Q ck sk T (mkF m pc' l' rest)) : OFin n0 p e below s Q ck sk T (mkF m pc Ls (.int v :: rest)) := by
  subst hp
  obtain ⟨hx, hby, -, -, -, -, -, -, -, -, locs, X, -⟩ := G
  exact o_step (fun _ hr => XS.istore X.here hx rfl (hb hby hd) rfl hl hr) k
theorem o_astore (G : OG l Z y bytes maxl ret n0 p e R s m args below meth c T h cells slots) {k0 : Nat} {v : Value} {l' : Array Slot} (hd : decode bytes pc = .ok (.astore k0, 2)) (hp : pc + 2 = pc') (hv : v.isRef = true) (hl : storeLocals Ls k0 v = some l') (k : OFin n0 p e below s Q ck sk T (mkF m pc' l' rest)) : OFin n0 p e below s Q ck sk T (mkF m pc Ls (v :: rest)) := by
  subst hp
  obtain ⟨hx, hby, -, -, -, -, -, -, -, -, locs, X, -⟩ := G
  exact o_step (fun _ hr => XS.astore X.here hx rfl (hb hby hd) rfl hv hl hr) k
theorem o_iconst (G : OG l Z y bytes maxl ret n0 p e R s m args below meth c T h cells slots) {i : Int} {v : Int32} (hd : decode bytes pc = .ok (.iconst i, 1)) (hp : pc + 1 = pc') (hv : Int32.ofInt i = v) (k : OFin n0 p e below s Q ck sk T (mkF m pc' Ls (.int v :: rest))) : OFin n0 p e below s Q ck sk T (mkF m pc Ls rest) := by
  subst hp
  subst hv
  obtain ⟨hx, hby, -, -, -, -, -, -, -, -, locs, X, -⟩ := G
  exact o_step (fun _ hr => XS.iconst X.here hx rfl (hb hby hd) hr) k
theorem o_bipush (G : OG l Z y bytes maxl ret n0 p e R s m args below meth c T h cells slots) {i : Int} {v : Int32} (hd : decode bytes pc = .ok (.bipush i, 2)) (hp : pc + 2 = pc') (hv : (Int8.ofInt i).toInt32 = v) (k : OFin n0 p e below s Q ck sk T (mkF m pc' Ls (.int v :: rest))) : OFin n0 p e below s Q ck sk T (mkF m pc Ls rest) := by
  subst hp
  subst hv
  obtain ⟨hx, hby, -, -, -, -, -, -, -, -, locs, X, -⟩ := G
  exact o_step (fun _ hr => XS.bipush X.here hx rfl (hb hby hd) hr) k
theorem o_sipush (G : OG l Z y bytes maxl ret n0 p e R s m args below meth c T h cells slots) {i : Int} {v : Int32} (hd : decode bytes pc = .ok (.sipush i, 3)) (hp : pc + 3 = pc') (hv : (Int16.ofInt i).toInt32 = v) (k : OFin n0 p e below s Q ck sk T (mkF m pc' Ls (.int v :: rest))) : OFin n0 p e below s Q ck sk T (mkF m pc Ls rest) := by
  subst hp
  subst hv
  obtain ⟨hx, hby, -, -, -, -, -, -, -, -, locs, X, -⟩ := G
  exact o_step (fun _ hr => XS.sipush X.here hx rfl (hb hby hd) hr) k
theorem o_iadd (G : OG l Z y bytes maxl ret n0 p e R s m args below meth c T h cells slots) {u w v : Int32} (hd : decode bytes pc = .ok (.iadd, 1)) (hp : pc + 1 = pc') (hv : u + w = v) (k : OFin n0 p e below s Q ck sk T (mkF m pc' Ls (.int v :: rest))) : OFin n0 p e below s Q ck sk T (mkF m pc Ls (.int w :: .int u :: rest)) := by
  subst hp
  subst hv
  obtain ⟨hx, hby, -, -, -, -, -, -, -, -, locs, X, -⟩ := G
  exact o_step (fun _ hr => XS.iadd X.here hx rfl (hb hby hd) rfl hr) k
theorem o_isub (G : OG l Z y bytes maxl ret n0 p e R s m args below meth c T h cells slots) {u w v : Int32} (hd : decode bytes pc = .ok (.isub, 1)) (hp : pc + 1 = pc') (hv : u - w = v) (k : OFin n0 p e below s Q ck sk T (mkF m pc' Ls (.int v :: rest))) : OFin n0 p e below s Q ck sk T (mkF m pc Ls (.int w :: .int u :: rest)) := by
  subst hp
  subst hv
  obtain ⟨hx, hby, -, -, -, -, -, -, -, -, locs, X, -⟩ := G
  exact o_step (fun _ hr => XS.isub X.here hx rfl (hb hby hd) rfl hr) k
theorem o_iand (G : OG l Z y bytes maxl ret n0 p e R s m args below meth c T h cells slots) {u w v : Int32} (hd : decode bytes pc = .ok (.iand, 1)) (hp : pc + 1 = pc') (hv : u &&& w = v) (k : OFin n0 p e below s Q ck sk T (mkF m pc' Ls (.int v :: rest))) : OFin n0 p e below s Q ck sk T (mkF m pc Ls (.int w :: .int u :: rest)) := by
  subst hp
  subst hv
  obtain ⟨hx, hby, -, -, -, -, -, -, -, -, locs, X, -⟩ := G
  exact o_step (fun _ hr => XS.iand X.here hx rfl (hb hby hd) rfl hr) k
theorem o_iushr (G : OG l Z y bytes maxl ret n0 p e R s m args below meth c T h cells slots) {u v : Int32} {w : Int32} (hd : decode bytes pc = .ok (.iushr, 1)) (hp : pc + 1 = pc') (hv : (u.toUInt32 >>> (w &&& 31).toUInt32).toInt32 = v) (k : OFin n0 p e below s Q ck sk T (mkF m pc' Ls (.int v :: rest))) : OFin n0 p e below s Q ck sk T (mkF m pc Ls (.int w :: .int u :: rest)) := by
  subst hp
  subst hv
  obtain ⟨hx, hby, -, -, -, -, -, -, -, -, locs, X, -⟩ := G
  exact o_step (fun _ hr => XS.iushr X.here hx rfl (hb hby hd) rfl hr) k
theorem o_i2b (G : OG l Z y bytes maxl ret n0 p e R s m args below meth c T h cells slots) {u : Int32} {v : Int32} (hd : decode bytes pc = .ok (.i2b, 1)) (hp : pc + 1 = pc') (hv : u.toInt8.toInt32 = v) (k : OFin n0 p e below s Q ck sk T (mkF m pc' Ls (.int v :: rest))) : OFin n0 p e below s Q ck sk T (mkF m pc Ls (.int u :: rest)) := by
  subst hp
  subst hv
  obtain ⟨hx, hby, -, -, -, -, -, -, -, -, locs, X, -⟩ := G
  exact o_step (fun _ hr => XS.i2b X.here hx rfl (hb hby hd) rfl hr) k
theorem o_dup (G : OG l Z y bytes maxl ret n0 p e R s m args below meth c T h cells slots) {v : Value} (hd : decode bytes pc = .ok (.dup, 1)) (hp : pc + 1 = pc') (hc : v.category = 1) (k : OFin n0 p e below s Q ck sk T (mkF m pc' Ls (v :: v :: rest))) : OFin n0 p e below s Q ck sk T (mkF m pc Ls (v :: rest)) := by
  subst hp
  obtain ⟨hx, hby, -, -, -, -, -, -, -, -, locs, X, -⟩ := G
  exact o_step (fun _ hr => XS.dup X.here hx rfl (hb hby hd) rfl hc hr) k
theorem o_goto (G : OG l Z y bytes maxl ret n0 p e R s m args below meth c T h cells slots) {o : Int} (hd : decode bytes pc = .ok (.goto o, 3)) (ho : 0 ≤ (pc : Int) + o) (hp : ((pc : Int) + o).toNat = pc') (k : OFin n0 p e below s Q ck sk T (mkF m pc' Ls rest)) : OFin n0 p e below s Q ck sk T (mkF m pc Ls rest) := by
  obtain ⟨hx, hby, -, -, -, -, -, -, -, -, locs, X, -⟩ := G
  exact o_step (fun _ hr => XS.goto X.here hx rfl (pc0 := pc) (pc' := pc') rfl (hb hby hd) ho hp hr) k
theorem o_icmp_lt (G : OG l Z y bytes maxl ret n0 p e R s m args below meth c T h cells slots) {o : Int} {pcT : Nat} {u w : Int32} (hd : decode bytes pc = .ok (.if_icmp .lt o, 3)) (ho : 0 ≤ (pc : Int) + o) (hpT : ((pc : Int) + o).toNat = pcT) (hp : pc + 3 = pc') (kT : u < w → OFin n0 p e below s Q ck sk T (mkF m pcT Ls rest)) (kF : ¬ u < w → OFin n0 p e below s Q ck sk T (mkF m pc' Ls rest)) : OFin n0 p e below s Q ck sk T (mkF m pc Ls (.int w :: .int u :: rest)) := by
  subst hp
  obtain ⟨hx, hby, -, -, -, -, -, -, -, -, locs, X, -⟩ := G
  by_cases q : u < w
  · exact o_step (fun _ hr => XS.icmpYes X.here hx rfl (pc0 := pc) (pc' := pcT) rfl (hb hby hd) rfl (tlt q).1 ho hpT hr) (kT q)
  · exact o_step (fun _ hr => XS.icmpNo X.here hx rfl (hb hby hd) rfl (flt q).1 hr) (kF q)
theorem o_icmp_ge (G : OG l Z y bytes maxl ret n0 p e R s m args below meth c T h cells slots) {o : Int} {pcT : Nat} {u w : Int32} (hd : decode bytes pc = .ok (.if_icmp .ge o, 3)) (ho : 0 ≤ (pc : Int) + o) (hpT : ((pc : Int) + o).toNat = pcT) (hp : pc + 3 = pc') (kT : ¬ u < w → OFin n0 p e below s Q ck sk T (mkF m pcT Ls rest)) (kF : u < w → OFin n0 p e below s Q ck sk T (mkF m pc' Ls rest)) : OFin n0 p e below s Q ck sk T (mkF m pc Ls (.int w :: .int u :: rest)) := by
  subst hp
  obtain ⟨hx, hby, -, -, -, -, -, -, -, -, locs, X, -⟩ := G
  by_cases q : ¬ u < w
  · exact o_step (fun _ hr => XS.icmpYes X.here hx rfl (pc0 := pc) (pc' := pcT) rfl (hb hby hd) rfl (flt q).2.1 ho hpT hr) (kT q)
  · have q := Decidable.not_not.mp q
    exact o_step (fun _ hr => XS.icmpNo X.here hx rfl (hb hby hd) rfl (tlt q).2.1 hr) (kF q)
theorem o_icmp_le (G : OG l Z y bytes maxl ret n0 p e R s m args below meth c T h cells slots) {o : Int} {pcT : Nat} {u w : Int32} (hd : decode bytes pc = .ok (.if_icmp .le o, 3)) (ho : 0 ≤ (pc : Int) + o) (hpT : ((pc : Int) + o).toNat = pcT) (hp : pc + 3 = pc') (kT : ¬ w < u → OFin n0 p e below s Q ck sk T (mkF m pcT Ls rest)) (kF : w < u → OFin n0 p e below s Q ck sk T (mkF m pc' Ls rest)) : OFin n0 p e below s Q ck sk T (mkF m pc Ls (.int w :: .int u :: rest)) := by
  subst hp
  obtain ⟨hx, hby, -, -, -, -, -, -, -, -, locs, X, -⟩ := G
  by_cases q : ¬ w < u
  · exact o_step (fun _ hr => XS.icmpYes X.here hx rfl (pc0 := pc) (pc' := pcT) rfl (hb hby hd) rfl (flt q).2.2.2 ho hpT hr) (kT q)
  · have q := Decidable.not_not.mp q
    exact o_step (fun _ hr => XS.icmpNo X.here hx rfl (hb hby hd) rfl (tlt q).2.2.2 hr) (kF q)
theorem o_if_le (G : OG l Z y bytes maxl ret n0 p e R s m args below meth c T h cells slots) {o : Int} {pcT : Nat} {u : Int32} (hd : decode bytes pc = .ok (.ifCond .le o, 3)) (ho : 0 ≤ (pc : Int) + o) (hpT : ((pc : Int) + o).toNat = pcT) (hp : pc + 3 = pc') (kT : ¬ (0 : Int32) < u → OFin n0 p e below s Q ck sk T (mkF m pcT Ls rest)) (kF : (0 : Int32) < u → OFin n0 p e below s Q ck sk T (mkF m pc' Ls rest)) : OFin n0 p e below s Q ck sk T (mkF m pc Ls (.int u :: rest)) := by
  subst hp
  obtain ⟨hx, hby, -, -, -, -, -, -, -, -, locs, X, -⟩ := G
  by_cases q : ¬ (0 : Int32) < u
  · exact o_step (fun _ hr => XS.ifYes X.here hx rfl (pc0 := pc) (pc' := pcT) rfl (hb hby hd) rfl ((if0 _ _).trans (flt q).2.2.2) ho hpT hr) (kT q)
  · have q := Decidable.not_not.mp q
    exact o_step (fun _ hr => XS.ifNo X.here hx rfl (hb hby hd) rfl ((if0 _ _).trans (tlt q).2.2.2) hr) (kF q)
theorem o_icmp_eq (G : OG l Z y bytes maxl ret n0 p e R s m args below meth c T h cells slots) {o : Int} {pcT : Nat} {u w : Int32} (hd : decode bytes pc = .ok (.if_icmp .eq o, 3)) (ho : 0 ≤ (pc : Int) + o) (hpT : ((pc : Int) + o).toNat = pcT) (hp : pc + 3 = pc') (kT : u = w → OFin n0 p e below s Q ck sk T (mkF m pcT Ls rest)) (kF : ¬ u = w → OFin n0 p e below s Q ck sk T (mkF m pc' Ls rest)) : OFin n0 p e below s Q ck sk T (mkF m pc Ls (.int w :: .int u :: rest)) := by
  subst hp
  obtain ⟨hx, hby, -, -, -, -, -, -, -, -, locs, X, -⟩ := G
  by_cases q : u = w
  · exact o_step (fun _ hr => XS.icmpYes X.here hx rfl (pc0 := pc) (pc' := pcT) rfl (hb hby hd) rfl (teq q).1 ho hpT hr) (kT q)
  · exact o_step (fun _ hr => XS.icmpNo X.here hx rfl (hb hby hd) rfl (feq q).1 hr) (kF q)
theorem o_if_eq (G : OG l Z y bytes maxl ret n0 p e R s m args below meth c T h cells slots) {o : Int} {pcT : Nat} {u : Int32} (hd : decode bytes pc = .ok (.ifCond .eq o, 3)) (ho : 0 ≤ (pc : Int) + o) (hpT : ((pc : Int) + o).toNat = pcT) (hp : pc + 3 = pc') (kT : u = (0 : Int32) → OFin n0 p e below s Q ck sk T (mkF m pcT Ls rest)) (kF : ¬ u = (0 : Int32) → OFin n0 p e below s Q ck sk T (mkF m pc' Ls rest)) : OFin n0 p e below s Q ck sk T (mkF m pc Ls (.int u :: rest)) := by
  subst hp
  obtain ⟨hx, hby, -, -, -, -, -, -, -, -, locs, X, -⟩ := G
  by_cases q : u = (0 : Int32)
  · exact o_step (fun _ hr => XS.ifYes X.here hx rfl (pc0 := pc) (pc' := pcT) rfl (hb hby hd) rfl ((if0 _ _).trans (teq q).1) ho hpT hr) (kT q)
  · exact o_step (fun _ hr => XS.ifNo X.here hx rfl (hb hby hd) rfl ((if0 _ _).trans (feq q).1) hr) (kF q)
theorem o_icmp_ne (G : OG l Z y bytes maxl ret n0 p e R s m args below meth c T h cells slots) {o : Int} {pcT : Nat} {u w : Int32} (hd : decode bytes pc = .ok (.if_icmp .ne o, 3)) (ho : 0 ≤ (pc : Int) + o) (hpT : ((pc : Int) + o).toNat = pcT) (hp : pc + 3 = pc') (kT : ¬ u = w → OFin n0 p e below s Q ck sk T (mkF m pcT Ls rest)) (kF : u = w → OFin n0 p e below s Q ck sk T (mkF m pc' Ls rest)) : OFin n0 p e below s Q ck sk T (mkF m pc Ls (.int w :: .int u :: rest)) := by
  subst hp
  obtain ⟨hx, hby, -, -, -, -, -, -, -, -, locs, X, -⟩ := G
  by_cases q : ¬ u = w
  · exact o_step (fun _ hr => XS.icmpYes X.here hx rfl (pc0 := pc) (pc' := pcT) rfl (hb hby hd) rfl (feq q).2 ho hpT hr) (kT q)
  · have q := Decidable.not_not.mp q
    exact o_step (fun _ hr => XS.icmpNo X.here hx rfl (hb hby hd) rfl (teq q).2 hr) (kF q)
theorem o_if_ne (G : OG l Z y bytes maxl ret n0 p e R s m args below meth c T h cells slots) {o : Int} {pcT : Nat} {u : Int32} (hd : decode bytes pc = .ok (.ifCond .ne o, 3)) (ho : 0 ≤ (pc : Int) + o) (hpT : ((pc : Int) + o).toNat = pcT) (hp : pc + 3 = pc') (kT : ¬ u = (0 : Int32) → OFin n0 p e below s Q ck sk T (mkF m pcT Ls rest)) (kF : u = (0 : Int32) → OFin n0 p e below s Q ck sk T (mkF m pc' Ls rest)) : OFin n0 p e below s Q ck sk T (mkF m pc Ls (.int u :: rest)) := by
  subst hp
  obtain ⟨hx, hby, -, -, -, -, -, -, -, -, locs, X, -⟩ := G
  by_cases q : ¬ u = (0 : Int32)
  · exact o_step (fun _ hr => XS.ifYes X.here hx rfl (pc0 := pc) (pc' := pcT) rfl (hb hby hd) rfl ((if0 _ _).trans (feq q).2) ho hpT hr) (kT q)
  · have q := Decidable.not_not.mp q
    exact o_step (fun _ hr => XS.ifNo X.here hx rfl (hb hby hd) rfl ((if0 _ _).trans (teq q).2) hr) (kF q)
theorem o_areturn {v : Value} {t : FieldType} (G : OG l Z y bytes maxl (some t) n0 p e R s m args below meth c T h cells slots) (hn : narrow t v = v) (ht : t.isReference = true) (hv : v.isRef = true) (hd : decode bytes pc = .ok (.areturn, 1)) (hq : Q (some v) h) (hc : cells ≤ ck) (hs : slots ≤ sk) : OFin n0 p e below s Q ck sk T (mkF m pc Ls (v :: rest)) := by
  obtain ⟨hx, hby, -, -, -, hret, hlk, -, eT, hz, locs, X, N⟩ := G
  obtain ⟨fs, hr, hrun, hended, hW, hsame⟩ := X.leave (v := some v) (fun h => by rw [hret] at h; cases h) hlk
  refine ⟨_, _, retOut X hx hret hn (Or.inr (Or.inr (Or.inr (Or.inr ⟨rfl, ht, hv⟩)))) (hb hby hd) hr, hrun, hended, _, _, rfl, ⟨N, ?_, ?_⟩, ⟨_, rfl⟩, hW, hsame.mono hc hs⟩
  · show n0 ≤ T.heap.size
    rw [eT]; exact hz
  · show Q _ T.heap
    rw [eT]; exact hq
theorem o_nreturn {v : Int32} {t : FieldType} (G : OG l Z y bytes maxl (some t) n0 p e R s m args below meth c T h cells slots) (ht : t = .boolean ∨ t = .byte ∨ t = .char ∨ t = .short) (hd : decode bytes pc = .ok (.ireturn, 1)) (hq : Q (some (.int (nar t v))) h) (hc : cells ≤ ck) (hs : slots ≤ sk) : OFin n0 p e below s Q ck sk T (mkF m pc Ls (.int v :: rest)) := by
  obtain ⟨hx, hby, -, -, -, hret, hlk, -, eT, hz, locs, X, N⟩ := G
  obtain ⟨fs, hr, hrun, hended, hW, hsame⟩ := X.leave (v := some (.int (nar t v))) (fun h => by rw [hret] at h; cases h) hlk
  refine ⟨_, _, retN X hx hret ht (hb hby hd) hr, hrun, hended, _, _, rfl, ⟨N, ?_, ?_⟩, ⟨_, rfl⟩, hW, hsame.mono hc hs⟩
  · show n0 ≤ T.heap.size
    rw [eT]; exact hz
  · show Q _ T.heap
    rw [eT]; exact hq
theorem o_return (G : OG l Z y bytes maxl none n0 p e R s m args below meth c T h cells slots) (hd : decode bytes pc = .ok (.return_, 1)) (hq : Q none h) (hc : cells ≤ ck) (hs : slots ≤ sk) : OFin n0 p e below s Q ck sk T (mkF m pc Ls []) := by
  obtain ⟨hx, hby, -, -, -, hret, hlk, -, eT, hz, locs, X, N⟩ := G
  obtain ⟨fs, hr, hrun, hended, hW, hsame⟩ := X.leave (v := none) (fun _ => rfl) hlk
  refine ⟨_, _, X.returnOut hx hret (hb hby hd) hr, hrun, hended, _, _, rfl, ⟨N, ?_, ?_⟩, ⟨_, rfl⟩, hW, hsame.mono hc hs⟩
  · show n0 ≤ T.heap.size
    rw [eT]; exact hz
  · show Q _ T.heap
    rw [eT]; exact hq
theorem o_callI (G : OG l Z y bytes maxl ret n0 p e R s m args below meth c T h cells slots) {z : MethodName} {bz : ByteArray} {mz : Nat} {rz : Option FieldType} {rm : Room} {Q' : Option Value → Heap → Prop} {index W : Nat} {argsL st : List Value} {a : Addr} (hz1 : z.name = "<init>") (w1 : (Jvm.Cond.methodLink y.cls index z).before a0 Z = true) (w2 : (Jvm.Cond.instanceMethod z).before a0 Z = true) (hrz : rz = none) (hd : decode bytes pc = .ok (.invokespecial index, 3))
    (hy : z.cls ≠ "java/lang/invoke/MethodHandle" ∧ z.cls ≠ "java/lang/invoke/VarHandle") (w3 : (Jvm.Cond.initialized z.cls).before a0 Z = true) (w4 : (Jvm.Cond.code z bz mz rz).before a0 Z = true)
    (hM : OMet l Z z bz mz rz rm (.ref a :: argsL).toArray h n0 rm.cells rm.slots Q') (hfr : rm.frames + 1 ≤ R.frames) (hlo : W + (mz + 11) + rm.locals ≤ R.locals) (hsz : Ls.size = maxl)
    (hlen : ∀ sig, parseMethodDescriptor z.desc = some sig → argsL.length = sig.parameters.length) (hst : st = argsL.reverse ++ .ref a :: rest) (hW : (rest.map fun v => v.category).sum ≤ W) (hp : pc + 3 = pc') (hc : cells + rm.cells ≤ R.cells) (hs : slots + rm.slots ≤ R.slots)
    (k : ∀ (v : Option Value) (T' : State) (h' : Heap), OG l Z y bytes maxl ret n0 p e R s m args below meth c T' h' (cells + rm.cells) (slots + rm.slots) → Q' v h' → OFin n0 p e below s Q ck sk T' (mkF m pc' Ls (v.toList ++ rest))) : OFin n0 p e below s Q ck sk T (mkF m pc Ls st) := by
  subst hp hst
  obtain ⟨hx, hby, hml, hown, hnm, hret, hlk, hZ, eT, hz, locs, X, N⟩ := G
  subst hrz
  obtain ⟨v, vm1, ⟨T', L', k', n'⟩, -, X', ⟨L, ⟨N', z', hQ⟩, l1, y1, z1⟩, st0⟩ := X.specialBack hx (y := z) hz1 hown (mvT hZ w1) (mvT hZ w2) (mvT hZ w4) hy (backOf (W := W) (Q := fun v h L => Fr n0 L ∧ n0 ≤ h.size ∧ Q' v h) (hM []) hZ w4 w3 hfr hlo) (g := (mkF m pc Ls (argsL.reverse ++ .ref a :: rest))) rfl (by show Ls.size = _; rw [hml]; exact hsz) (Steps.refl _) (a := a) (argsL := argsL) (rest := rest) hlen rfl (by show 2 * 0 + _ ≤ _; omega) (hb hby hd) (fun _ _ => ⟨rfl, eT, hc, hs⟩)
  dsimp only [Pt.U, Pt.locs, Pt.cells, Pt.slots] at X' l1 y1 z1 st0 hQ N' z'
  subst l1 y1 z1
  exact o_step (fun _ hr => st0.trans hr) (k v T' T'.heap ⟨hx, hby, hml, hown, hnm, hret, hlk, hZ, rfl, z', _, X', Fr.app N N'⟩ hQ)
theorem o_callV (G : OG l Z y bytes maxl ret n0 p e R s m args below meth c T h cells slots) {z : MethodName} {bz : ByteArray} {mz : Nat} {rz : Option FieldType} {rm : Room} {Q' : Option Value → Heap → Prop} {index W : Nat} {argsL st : List Value} {a : Addr} {C : String} (E : Exa Z h a C) (w1 : (Jvm.Cond.methodLink y.cls index z).before a0 Z = true) (w2 : (Jvm.Cond.instanceMethod z).before a0 Z = true) (w5 : (Jvm.Cond.declares z).before a0 Z = true) (w6 : (Jvm.Cond.selects C z z).before a0 Z = true) (hd : decode bytes pc = .ok (.invokevirtual index, 3))
    (hy : z.cls ≠ "java/lang/invoke/MethodHandle" ∧ z.cls ≠ "java/lang/invoke/VarHandle") (w3 : (Jvm.Cond.initialized z.cls).before a0 Z = true) (w4 : (Jvm.Cond.code z bz mz rz).before a0 Z = true)
    (hM : OMet l Z z bz mz rz rm (.ref a :: argsL).toArray h n0 rm.cells rm.slots Q') (hfr : rm.frames + 1 ≤ R.frames) (hlo : W + (mz + 11) + rm.locals ≤ R.locals) (hsz : Ls.size = maxl)
    (hlen : ∀ sig, parseMethodDescriptor z.desc = some sig → argsL.length = sig.parameters.length) (hst : st = argsL.reverse ++ .ref a :: rest) (hW : (rest.map fun v => v.category).sum ≤ W) (hp : pc + 3 = pc') (hc : cells + rm.cells ≤ R.cells) (hs : slots + rm.slots ≤ R.slots)
    (k : ∀ (v : Option Value) (T' : State) (h' : Heap), OG l Z y bytes maxl ret n0 p e R s m args below meth c T' h' (cells + rm.cells) (slots + rm.slots) → Q' v h' → OFin n0 p e below s Q ck sk T' (mkF m pc' Ls (v.toList ++ rest))) : OFin n0 p e below s Q ck sk T (mkF m pc Ls st) := by
  subst hp hst
  obtain ⟨hx, hby, hml, hown, hnm, hret, hlk, hZ, eT, hz, locs, X, N⟩ := G
  obtain ⟨cq, kq, qa, qb, qc⟩ := isOf hZ eT E
  obtain ⟨v, vm1, ⟨T', L', k', n'⟩, -, X', ⟨L, ⟨N', z', hQ⟩, l1, y1, z1⟩, st0⟩ := X.virtualBack hx (y := z) (z := z) hown (mvT hZ w1) (mvT hZ w5) (notFace_of_selects (args := #[]) (mvT hZ w6)) (mvT hZ w6) (mvT hZ w2) hy (backOf (W := W) (Q := fun v h L => Fr n0 L ∧ n0 ≤ h.size ∧ Q' v h) (hM []) hZ w4 w3 hfr hlo) qa qc (g := (mkF m pc Ls (argsL.reverse ++ .ref a :: rest))) rfl (by show Ls.size = _; rw [hml]; exact hsz) (Steps.refl _) (argsL := argsL) (rest := rest) hlen rfl (by show 2 * 0 + _ ≤ _; omega) (hb hby hd) (fun _ _ => ⟨rfl, eT, hc, hs⟩)
  dsimp only [Pt.U, Pt.locs, Pt.cells, Pt.slots] at X' l1 y1 z1 st0 hQ N' z'
  subst l1 y1 z1
  exact o_step (fun _ hr => st0.trans hr) (k v T' T'.heap ⟨hx, hby, hml, hown, hnm, hret, hlk, hZ, rfl, z', _, X', Fr.app N N'⟩ hQ)
theorem o_initO (G : OG l Z y bytes maxl ret n0 p e R s m args below meth c T h cells slots) {idx W : Nat} {a : Addr} (w1 : (Jvm.Cond.methodLink y.cls idx Lib.objectInit).before a0 Z = true) (w2 : (Jvm.Cond.instanceMethod Lib.objectInit).before a0 Z = true) (w3 : (Jvm.Cond.code Lib.objectInit ⟨#[0xb1]⟩ 1 none).before a0 Z = true) (hd : decode bytes pc = .ok (.invokespecial idx, 3)) (hp : pc + 3 = pc') (hsz : Ls.size = maxl) (hf : 1 ≤ R.frames) (hW : (rest.map fun v => v.category).sum ≤ W) (hl : W + 12 ≤ R.locals)
    (k : ∀ T', OG l Z y bytes maxl ret n0 p e R s m args below meth c T' h cells slots → OFin n0 p e below s Q ck sk T' (mkF m pc' Ls rest)) : OFin n0 p e below s Q ck sk T (mkF m pc Ls (.ref a :: rest)) := by
  subst hp
  obtain ⟨hx, hby, hml, hown, hnm, hret, hlk, hZ, eT, hz, locs, X, N⟩ := G
  obtain ⟨T', X', e', st⟩ := initO X hx hZ hown w1 w2 w3 eT (g := (mkF m pc Ls (.ref a :: rest))) rfl (by show Ls.size = _; rw [hml]; exact hsz) rfl (hb hby hd) hf (W := W) (by show 2 * 0 + _ ≤ _; omega) hl
  exact o_step st (k T' ⟨hx, hby, hml, hown, hnm, hret, hlk, hZ, e', hz, _, X', N⟩)
theorem o_new (G : OG l Z y bytes maxl ret n0 p e R s m args below meth c T h cells slots) {C : String} {index n : Nat} (w : (Jvm.Cond.classLink y.cls index C).before a0 Z = true) (wi : (Jvm.Cond.instantiable C n).before a0 Z = true) (wz : (Jvm.Cond.initialized C).before a0 Z = true) (hd : decode bytes pc = .ok (.new index, 3)) (hp : pc + 3 = pc') (hc : cells + 1 ≤ R.cells) (hl : slots + n ≤ R.slots)
    (k : ∀ (T' : State) (h' : Heap) (a : Addr), OG l Z y bytes maxl ret n0 p e R s m args below meth c T' h' (cells + 1) (slots + n) → a = h.size → n0 ≤ a → Ext h h' → Exa Z h' a C → (∀ {O nm d : String} {ty : FieldType}, Laid Z a0 C O nm d → parseFieldDescriptor d = some ty → Fld Z h' a O nm d (defaultValue ty)) → OFin n0 p e below s Q ck sk T' (mkF m pc' Ls (.ref a :: rest))) : OFin n0 p e below s Q ck sk T (mkF m pc Ls rest) := by
  subst hp
  obtain ⟨hx, hby, hml, hown, hnm, hret, hlk, hZ, eT, hz, locs, X, N⟩ := G
  obtain ⟨T', h', X', e', E', A', D', -, st⟩ := newO X hx hZ hown w wi wz eT (g := (mkF m pc Ls rest)) rfl (hb hby hd) hc hl
  exact o_step st (k T' h' h.size ⟨hx, hby, hml, hown, hnm, hret, hlk, hZ, e', Nat.le_trans hz E'.1, _, X', N⟩ rfl hz E' A' D')
theorem o_getF (G : OG l Z y bytes maxl ret n0 p e R s m args below meth c T h cells slots) {R0 O nm d host : String} {index : Nat} {a : Addr} {v : Value} (w : (Jvm.Cond.fieldLink y.cls index R0 nm d).before a0 Z = true ∨ (Jvm.Cond.fieldLinkNest y.cls index R0 nm d host).before a0 Z = true) (via : Via Z R0 O nm d) (F : Fld Z h a O nm d v) (hd : decode bytes pc = .ok (.getfield index, 3)) (hp : pc + 3 = pc')
    (k : ∀ T', OG l Z y bytes maxl ret n0 p e R s m args below meth c T' h cells slots → OFin n0 p e below s Q ck sk T' (mkF m pc' Ls (v :: rest))) : OFin n0 p e below s Q ck sk T (mkF m pc Ls (.ref a :: rest)) := by
  subst hp
  obtain ⟨hx, hby, hml, hown, hnm, hret, hlk, hZ, eT, hz, locs, X, N⟩ := G
  obtain ⟨T', X', e', st⟩ := getF X hx hZ hown w via eT F (g := (mkF m pc Ls (.ref a :: rest))) rfl rfl (hb hby hd)
  exact o_step st (k T' ⟨hx, hby, hml, hown, hnm, hret, hlk, hZ, e', hz, _, X', N⟩)
theorem o_putF (G : OG l Z y bytes maxl ret n0 p e R s m args below meth c T h cells slots) {R0 O nm d host C : String} {index kk : Nat} {ty : FieldType} {a : Addr} {v old : Value} (w : (Jvm.Cond.fieldLink y.cls index R0 nm d).before a0 Z = true ∨ (Jvm.Cond.fieldLinkNest y.cls index R0 nm d host).before a0 Z = true) (via : Via Z R0 O nm d) (F : Fld Z h a O nm d old) (E : Exa Z h a C) (L : (Jvm.Cond.lays C O nm d).before a0 Z = true ∨ ((Jvm.Cond.laysFinal C O nm d).before a0 Z = true ∧ y.cls = O ∧ y.name = "<init>")) (wi : (Jvm.Cond.instantiable C kk).before a0 Z = true)
    (hty : parseFieldDescriptor d = some ty) (hn : narrow ty v = v) (hf : fits ty v = true) (hg : n0 ≤ a) (hd : decode bytes pc = .ok (.putfield index, 3)) (hp : pc + 3 = pc')
    (k : ∀ (T' : State) (h' : Heap), OG l Z y bytes maxl ret n0 p e R s m args below meth c T' h' cells slots → Wr h h' a (Jvm.RoadKit.slotOf Z O nm d) v → OFin n0 p e below s Q ck sk T' (mkF m pc' Ls rest)) : OFin n0 p e below s Q ck sk T (mkF m pc Ls (v :: .ref a :: rest)) := by
  subst hp
  obtain ⟨hx, hby, hml, hown, hnm, hret, hlk, hZ, eT, hz, locs, X, N⟩ := G
  obtain ⟨T', h', X', e', W', st⟩ := putF X hx hZ hown w via eT F E (L.imp id (fun q => ⟨q.1, q.2.1, hnm.trans q.2.2⟩)) wi hty hn hf (g := (mkF m pc Ls (v :: .ref a :: rest))) rfl rfl (hb hby hd)
  exact o_step st (k T' h' ⟨hx, hby, hml, hown, hnm, hret, hlk, hZ, e', by rw [W'.size]; exact hz, _, X', Fr.snoc X' N hg⟩ W')
/-- an array of n places at a; place j holds f j -/
def OArr (Z : State) (h : Heap) (a : Addr) (ty : FieldType) (n : Nat) (f : Nat → Value) : Prop := ∃ cl : Cell, Arr Z h a cl ty ∧ cl.slots.size = n ∧ ∀ j, j < n → cl.slots[j]? = some (f j)
def o_set (f : Nat → Value) (i : Nat) (v : Value) : Nat → Value := fun j => if j = i then v else f j
theorem OArr.lt {a : Addr} {ty : FieldType} {n : Nat} {f : Nat → Value} (A : OArr Z h a ty n f) : a < h.size := by obtain ⟨cl, A, -⟩ := A; exact A.lt
theorem OArr.ext {h' : Heap} {a : Addr} {ty : FieldType} {n : Nat} {f : Nat → Value} (A : OArr Z h a ty n f) (E : Ext h h') : OArr Z h' a ty n f := by obtain ⟨cl, A, r⟩ := A; exact ⟨cl, A.ext E, r⟩
theorem OArr.other {h' : Heap} {a b : Addr} {sl : Nat} {v : Value} {ty : FieldType} {n : Nat} {f : Nat → Value} (A : OArr Z h b ty n f) (W : Wr h h' a sl v) (q : b ≠ a) : OArr Z h' b ty n f := by obtain ⟨cl, A, r⟩ := A; exact ⟨cl, A.other W q, r⟩
theorem OArr.keep {h' : Heap} {a : Addr} {ws : List Addr} {ty : FieldType} {n : Nat} {f : Nat → Value} (A : OArr Z h a ty n f) (K : Keep h h' ws) (q : a ∉ ws) : OArr Z h' a ty n f := by obtain ⟨cl, A, r⟩ := A; exact ⟨cl, ⟨K.2.1 a cl A.1 q, A.2⟩, r⟩
theorem OArr.same {h' : Heap} {a : Addr} {i : Nat} {v : Value} {ty : FieldType} {n : Nat} {f : Nat → Value} (A : OArr Z h a ty n f) (W : Wr h h' a i v) : OArr Z h' a ty n (o_set f i v) := by
  obtain ⟨cl, A, S, H⟩ := A
  have hi : i < n := by
    obtain ⟨cell, h1, -, h3, -⟩ := W
    cases h1.symm.trans A.1
    rw [← S]; exact h3
  refine ⟨_, A.same W, by rw [sz_set]; exact S, fun j hj => ?_⟩
  by_cases q : j = i
  · subst q; simp [Cell.setSlot, o_set, S, hi]
  · have := H j hj
    simp only [Cell.setSlot, o_set, q, if_false]
    rw [Array.getElem?_setIfInBounds_ne (Ne.symm q)]; exact this
theorem OArr.congr {a : Addr} {ty : FieldType} {n : Nat} {f f' : Nat → Value} (A : OArr Z h a ty n f) (q : ∀ j, j < n → f j = f' j) : OArr Z h a ty n f' := by
  obtain ⟨cl, A, S, H⟩ := A
  exact ⟨cl, A, S, fun j hj => by rw [← q j hj]; exact H j hj⟩
theorem o_clamp {j : Int32} {i : Nat} (h : j.toInt = (i : Int)) : ¬ j < 0 ∧ j.toNatClampNeg = i := by
  constructor
  · rw [Int32.lt_iff_toInt_lt, h]; have : (0 : Int32).toInt = 0 := rfl
    omega
  · simp only [Int32.toNatClampNeg, h]; rfl
theorem o_arraylength (G : OG l Z y bytes maxl ret n0 p e R s m args below meth c T h cells slots) {a : Addr} {ty : FieldType} {n : Nat} {f : Nat → Value} {v : Int32} (A : OArr Z h a ty n f) (hv : Nat.toInt32 n = v) (hd : decode bytes pc = .ok (.arraylength, 1)) (hp : pc + 1 = pc') (k : OFin n0 p e below s Q ck sk T (mkF m pc' Ls (.int v :: rest))) : OFin n0 p e below s Q ck sk T (mkF m pc Ls (.ref a :: rest)) := by
  subst hp hv
  obtain ⟨hx, hby, -, -, -, -, -, hZ, eT, -, locs, X, -⟩ := G
  obtain ⟨cl, A, S, -⟩ := A
  subst S
  exact o_step (fun _ hr => X.arraylength hx (by rw [eT]; exact A.1) (State.isArrayOf_alike hZ.alike A.2.1) (g := (mkF m pc Ls (.ref a :: rest))) rfl rfl (hb hby hd) _ hr) k
theorem o_baload (G : OG l Z y bytes maxl ret n0 p e R s m args below meth c T h cells slots) {a : Addr} {n i : Nat} {f : Nat → Value} {j : Int32} {v : Value} (A : OArr Z h a .byte n f) (hj : j.toInt = (i : Int)) (hi : i < n) (hv : f i = v) (hd : decode bytes pc = .ok (.baload, 1)) (hp : pc + 1 = pc') (k : OFin n0 p e below s Q ck sk T (mkF m pc' Ls (v :: rest))) : OFin n0 p e below s Q ck sk T (mkF m pc Ls (.int j :: .ref a :: rest)) := by
  subst hp hv
  obtain ⟨hx, hby, -, -, -, -, -, hZ, eT, -, locs, X, -⟩ := G
  obtain ⟨cl, A, S, H⟩ := A
  obtain ⟨q1, q2⟩ := o_clamp hj
  exact o_step (fun _ hr => X.baloadBytes hx (j := j) (v := f i) (by rw [eT]; exact A.1) (State.isArrayOf_alike hZ.alike A.2.1) A.2.2 (by rw [S, q2]; exact fun q => q.elim q1 (fun q => absurd hi (Nat.not_lt.mpr q))) (by rw [q2]; exact H i hi) (g := (mkF m pc Ls (.int j :: .ref a :: rest))) rfl rfl (hb hby hd) _ hr) k
theorem o_bastore (G : OG l Z y bytes maxl ret n0 p e R s m args below meth c T h cells slots) {a : Addr} {n i : Nat} {f : Nat → Value} {j : Int32} {v : Int32} (A : OArr Z h a .byte n f) (hg : n0 ≤ a) (hj : j.toInt = (i : Int)) (hi : i < n) (hd : decode bytes pc = .ok (.bastore, 1)) (hp : pc + 1 = pc')
    (k : ∀ (T' : State) (h' : Heap), OG l Z y bytes maxl ret n0 p e R s m args below meth c T' h' cells slots → Wr h h' a i (.int (nar .byte v)) → OArr Z h' a .byte n (o_set f i (.int (nar .byte v))) → OFin n0 p e below s Q ck sk T' (mkF m pc' Ls rest)) : OFin n0 p e below s Q ck sk T (mkF m pc Ls (.int v :: .int j :: .ref a :: rest)) := by
  subst hp
  have A0 := A
  obtain ⟨hx, hby, hml, hown, hnm, hret, hlk, hZ, eT, hz, locs, X, N⟩ := G
  obtain ⟨cl, A, S, H⟩ := A
  obtain ⟨q1, q2⟩ := o_clamp hj
  obtain ⟨T', h', X', e', W', st⟩ := stB X hx hZ eT A (j := j) (x := v) (by rw [S, q2]; exact fun q => q.elim q1 (fun q => absurd hi (Nat.not_lt.mpr q))) (g := (mkF m pc Ls (.int v :: .int j :: .ref a :: rest))) rfl rfl (hb hby hd)
  rw [q2] at W' X'
  exact o_step st (k T' h' ⟨hx, hby, hml, hown, hnm, hret, hlk, hZ, e', by rw [W'.size]; exact hz, _, X', Fr.snoc X' N hg⟩ W' (A0.same W'))
theorem o_newarray (G : OG l Z y bytes maxl ret n0 p e R s m args below meth c T h cells slots) {aty : ArrayType} {n : Int32} {N cap : Nat} (w : (Jvm.Cond.arrayClass (newarray.typeOf aty)).before a0 Z = true) (hn : n.toInt = (N : Int)) (hcap : N ≤ cap) (hb8 : cap * 8 ≤ 536870912) (hd : decode bytes pc = .ok (.newarray aty, 2)) (hp : pc + 2 = pc') (hc : cells + 1 ≤ R.cells) (hl : slots + cap ≤ R.slots)
    (k : ∀ (T' : State) (h' : Heap) (a : Addr), OG l Z y bytes maxl ret n0 p e R s m args below meth c T' h' (cells + 1) (slots + cap) → a = h.size → n0 ≤ a → Ext h h' → OArr Z h' a (newarray.typeOf aty) N (fun _ => defaultValue (newarray.typeOf aty)) → OFin n0 p e below s Q ck sk T' (mkF m pc' Ls (.ref a :: rest))) : OFin n0 p e below s Q ck sk T (mkF m pc Ls (.int n :: rest)) := by
  subst hp
  obtain ⟨hx, hby, hml, hown, hnm, hret, hlk, hZ, eT, hz, locs, X, N'⟩ := G
  obtain ⟨q1, q2⟩ := o_clamp hn
  obtain ⟨T', h', cA, X', e', E', A', st⟩ := newP X hx hZ w eT (g := (mkF m pc Ls (.int n :: rest))) rfl (hb hby hd) rfl q1 (cap := cap) (by rw [q2]; exact hcap) hb8 hc hl
  refine o_step st (k T' h' h.size ⟨hx, hby, hml, hown, hnm, hret, hlk, hZ, e', Nat.le_trans hz E'.1, _, X', N'⟩ rfl hz E' ⟨_, A', by rw [sz_new, q2], fun j hj => ?_⟩)
  simp [newA, q2, hj]
/-- a contract that leaves the heap as it was and returns one value -/
abbrev OVal (h0 : Heap) (r : Value) : Option Value → Heap → Prop := fun v h => v = some r ∧ h0 = h
theorem o_callVP (G : OG l Z y bytes maxl ret n0 p e R s m args below meth c T h cells slots) {z : MethodName} {bz : ByteArray} {mz : Nat} {rz : Option FieldType} {rm : Room} {r : Value} {index W : Nat} {argsL st : List Value} {a : Addr} {C : String} (E : Exa Z h a C) (w1 : (Jvm.Cond.methodLink y.cls index z).before a0 Z = true) (w2 : (Jvm.Cond.instanceMethod z).before a0 Z = true) (w5 : (Jvm.Cond.declares z).before a0 Z = true) (w6 : (Jvm.Cond.selects C z z).before a0 Z = true) (hd : decode bytes pc = .ok (.invokevirtual index, 3))
    (hy : z.cls ≠ "java/lang/invoke/MethodHandle" ∧ z.cls ≠ "java/lang/invoke/VarHandle") (w3 : (Jvm.Cond.initialized z.cls).before a0 Z = true) (w4 : (Jvm.Cond.code z bz mz rz).before a0 Z = true)
    (hM : OMet l Z z bz mz rz rm (.ref a :: argsL).toArray h n0 rm.cells rm.slots (OVal h r)) (hfr : rm.frames + 1 ≤ R.frames) (hlo : W + (mz + 11) + rm.locals ≤ R.locals) (hsz : Ls.size = maxl)
    (hlen : ∀ sig, parseMethodDescriptor z.desc = some sig → argsL.length = sig.parameters.length) (hst : st = argsL.reverse ++ .ref a :: rest) (hW : (rest.map fun v => v.category).sum ≤ W) (hp : pc + 3 = pc') (hc : cells + rm.cells ≤ R.cells) (hs : slots + rm.slots ≤ R.slots)
    (k : ∀ (T' : State), OG l Z y bytes maxl ret n0 p e R s m args below meth c T' h (cells + rm.cells) (slots + rm.slots) → OFin n0 p e below s Q ck sk T' (mkF m pc' Ls (r :: rest))) : OFin n0 p e below s Q ck sk T (mkF m pc Ls st) := by
  refine o_callV G E w1 w2 w5 w6 hd hy w3 w4 hM hfr hlo hsz hlen hst hW hp hc hs ?_
  rintro v T' h' G' ⟨hv, hh⟩
  subst hv hh
  exact k T' G'
end OwnKit
theorem pd_0 : parseMethodDescriptor "([BII)V" = some ⟨[(.array .byte), .int, .int], none⟩ := by decide +kernel
theorem pd_1 : parseMethodDescriptor "()Z" = some ⟨[], some .boolean⟩ := by decide +kernel
theorem pd_2 : parseMethodDescriptor "([B)V" = some ⟨[(.array .byte)], none⟩ := by decide +kernel
theorem pd_3 : parseMethodDescriptor "(I)Lcom/example/ronda/ronda/engine/Der;" = some ⟨[.int], some (.object "com/example/ronda/ronda/engine/Der")⟩ := by decide +kernel
theorem pd_4 : parseMethodDescriptor "(I)Z" = some ⟨[.int], some .boolean⟩ := by decide +kernel
theorem d2_0 : decode prog_5_method_2_code 0 = .ok (.aload_n 0, 1) := by decide +kernel
theorem d2_1 : decode prog_5_method_2_code 1 = .ok (.invokespecial 7, 3) := by decide +kernel
theorem d2_4 : decode prog_5_method_2_code 4 = .ok (.aload_n 0, 1) := by decide +kernel
theorem d2_5 : decode prog_5_method_2_code 5 = .ok (.aload_n 1, 1) := by decide +kernel
theorem d2_6 : decode prog_5_method_2_code 6 = .ok (.putfield 12, 3) := by decide +kernel
theorem d2_9 : decode prog_5_method_2_code 9 = .ok (.aload_n 0, 1) := by decide +kernel
theorem d2_10 : decode prog_5_method_2_code 10 = .ok (.iload_n 2, 1) := by decide +kernel
theorem d2_11 : decode prog_5_method_2_code 11 = .ok (.putfield 16, 3) := by decide +kernel
theorem d2_14 : decode prog_5_method_2_code 14 = .ok (.aload_n 0, 1) := by decide +kernel
theorem d2_15 : decode prog_5_method_2_code 15 = .ok (.iload_n 3, 1) := by decide +kernel
theorem d2_16 : decode prog_5_method_2_code 16 = .ok (.putfield 20, 3) := by decide +kernel
theorem d2_19 : decode prog_5_method_2_code 19 = .ok (.return_, 1) := by decide +kernel
theorem pn_2 : plainName "com/example/ronda/ronda/engine/Der" = true := by first | (simp [plainName, overriddenIn]; done) | decide +kernel
theorem ef_2 (m : MethodId) (r0 : Addr) (r1 : Addr) (p2 : Int32) (p3 : Int32) : entryFrame m #[(.ref r0), (.ref r1), (.int p2), (.int p3)] 4 = mkF m 0 #[.val (.ref r0), .val (.ref r1), .val (.int p2), .val (.int p3)] [] := by first | (simp [entryFrame, mkF, argsToLocals, Value.category]; done) | rfl
set_option maxRecDepth 65536 in
set_option maxHeartbeats 40000000 in
theorem rm2 {l : Launch} {Z : State} {a0 : Array Value} (hw : ∀ d ∈ tables_1, d.before a0 Z = true) (r0 : Addr) (r1 : Addr) (p2 : Int32) (p3 : Int32) (h0 : Heap) (n0 : Nat) (hz : n0 ≤ h0.size) (g_r0 : n0 ≤ r0) (E_r0 : Exa Z h0 r0 "com/example/ronda/ronda/engine/Der") (F_bytes_r0 : Fld Z h0 r0 "com/example/ronda/ronda/engine/Der" "bytes" "[B" .null) (F_position_r0 : Fld Z h0 r0 "com/example/ronda/ronda/engine/Der" "position" "I" (.int (0 : Int32))) (F_end_r0 : Fld Z h0 r0 "com/example/ronda/ronda/engine/Der" "end" "I" (.int (0 : Int32))) :
    OMet l Z (⟨"com/example/ronda/ronda/engine/Der", "<init>", "([BII)V"⟩ : MethodName) prog_5_method_2_code 4 none ({ frames := 1, cells := 0, slots := 0, locals := 12 } : Room) #[(.ref r0), (.ref r1), (.int p2), (.int p3)] h0 n0 ({ frames := 1, cells := 0, slots := 0, locals := 12 } : Room).cells ({ frames := 1, cells := 0, slots := 0, locals := 12 } : Room).slots (fun v h => v = none ∧ Keep h0 h [r0] ∧ Exa Z h r0 "com/example/ronda/ronda/engine/Der" ∧ Fld Z h r0 "com/example/ronda/ronda/engine/Der" "bytes" "[B" (.ref r1) ∧ Fld Z h r0 "com/example/ronda/ronda/engine/Der" "position" "I" (.int p2) ∧ Fld Z h r0 "com/example/ronda/ronda/engine/Der" "end" "I" (.int p3)) := by
  refine o_body (plainFor_of_name pn_2) hz (fun m => ef_2 m r0 r1 p2 p3) ?_
  intro p e s m below meth c s₁ G0
  have K : Keep h0 h0 [r0] := Keep.refl _ _
  refine o_aloadN G0 d2_0 (pc' := 1) rfl rfl rfl ?_
  refine o_initO G0 (hw _ (List.mem_of_getElem? (i := 10) rfl)) (hw _ (List.mem_of_getElem? (i := 11) rfl)) (hw _ (List.mem_of_getElem? (i := 12) rfl)) d2_1 (pc' := 4) rfl rfl (by decide) (W := 0) (Nat.le_of_eq rfl) (by decide) ?_
  intro T1 G1
  refine o_aloadN G1 d2_4 (pc' := 5) rfl rfl rfl ?_
  refine o_aloadN G1 d2_5 (pc' := 6) rfl rfl rfl ?_
  refine o_putF G1 (host := "") (Or.inl (hw _ (List.mem_of_getElem? (i := 13) rfl))) Via.refl F_bytes_r0 E_r0 (Or.inr ⟨(hw _ (List.mem_of_getElem? (i := 14) rfl)), rfl, rfl⟩) (hw _ (List.mem_of_getElem? (i := 2) rfl)) (ty := (.array .byte)) (by decide) rfl rfl g_r0 d2_6 (pc' := 9) rfl ?_
  intro T2 h2 G2 W2
  replace E_r0 := E_r0.wr W2
  replace F_bytes_r0 := F_bytes_r0.same W2
  replace F_position_r0 := F_position_r0.other W2 (Or.inr (slot_ne (Or.inl (hw _ (List.mem_of_getElem? (i := 16) rfl))) (Or.inr (hw _ (List.mem_of_getElem? (i := 14) rfl))) (by decide) (t := .int) (t' := (.array .byte)) (by decide) (by decide)))
  replace F_end_r0 := F_end_r0.other W2 (Or.inr (slot_ne (Or.inr (hw _ (List.mem_of_getElem? (i := 18) rfl))) (Or.inr (hw _ (List.mem_of_getElem? (i := 14) rfl))) (by decide) (t := .int) (t' := (.array .byte)) (by decide) (by decide)))
  replace K := K.wr W2 (Or.inl (List.mem_of_getElem? (i := 0) rfl))
  refine o_aloadN G2 d2_9 (pc' := 10) rfl rfl rfl ?_
  refine o_iloadN G2 d2_10 (pc' := 11) rfl rfl ?_
  refine o_putF G2 (host := "") (Or.inl (hw _ (List.mem_of_getElem? (i := 15) rfl))) Via.refl F_position_r0 E_r0 (Or.inl (hw _ (List.mem_of_getElem? (i := 16) rfl))) (hw _ (List.mem_of_getElem? (i := 2) rfl)) (ty := .int) (by decide) rfl rfl g_r0 d2_11 (pc' := 14) rfl ?_
  intro T3 h3 G3 W3
  replace E_r0 := E_r0.wr W3
  replace F_bytes_r0 := F_bytes_r0.other W3 (Or.inr (slot_ne (Or.inr (hw _ (List.mem_of_getElem? (i := 14) rfl))) (Or.inl (hw _ (List.mem_of_getElem? (i := 16) rfl))) (by decide) (t := (.array .byte)) (t' := .int) (by decide) (by decide)))
  replace F_position_r0 := F_position_r0.same W3
  replace F_end_r0 := F_end_r0.other W3 (Or.inr (slot_ne (Or.inr (hw _ (List.mem_of_getElem? (i := 18) rfl))) (Or.inl (hw _ (List.mem_of_getElem? (i := 16) rfl))) (by decide) (t := .int) (t' := .int) (by decide) (by decide)))
  replace K := K.wr W3 (Or.inl (List.mem_of_getElem? (i := 0) rfl))
  refine o_aloadN G3 d2_14 (pc' := 15) rfl rfl rfl ?_
  refine o_iloadN G3 d2_15 (pc' := 16) rfl rfl ?_
  refine o_putF G3 (host := "") (Or.inl (hw _ (List.mem_of_getElem? (i := 17) rfl))) Via.refl F_end_r0 E_r0 (Or.inr ⟨(hw _ (List.mem_of_getElem? (i := 18) rfl)), rfl, rfl⟩) (hw _ (List.mem_of_getElem? (i := 2) rfl)) (ty := .int) (by decide) rfl rfl g_r0 d2_16 (pc' := 19) rfl ?_
  intro T4 h4 G4 W4
  replace E_r0 := E_r0.wr W4
  replace F_bytes_r0 := F_bytes_r0.other W4 (Or.inr (slot_ne (Or.inr (hw _ (List.mem_of_getElem? (i := 14) rfl))) (Or.inr (hw _ (List.mem_of_getElem? (i := 18) rfl))) (by decide) (t := (.array .byte)) (t' := .int) (by decide) (by decide)))
  replace F_position_r0 := F_position_r0.other W4 (Or.inr (slot_ne (Or.inl (hw _ (List.mem_of_getElem? (i := 16) rfl))) (Or.inr (hw _ (List.mem_of_getElem? (i := 18) rfl))) (by decide) (t := .int) (t' := .int) (by decide) (by decide)))
  replace F_end_r0 := F_end_r0.same W4
  replace K := K.wr W4 (Or.inl (List.mem_of_getElem? (i := 0) rfl))
  exact o_return G4 d2_19 ⟨rfl, K, E_r0, F_bytes_r0, F_position_r0, F_end_r0⟩ (by decide) (by decide)
theorem d1_0 : decode prog_5_method_1_code 0 = .ok (.aload_n 0, 1) := by decide +kernel
theorem d1_1 : decode prog_5_method_1_code 1 = .ok (.aload_n 1, 1) := by decide +kernel
theorem d1_2 : decode prog_5_method_1_code 2 = .ok (.iconst 0, 1) := by decide +kernel
theorem d1_3 : decode prog_5_method_1_code 3 = .ok (.aload_n 1, 1) := by decide +kernel
theorem d1_4 : decode prog_5_method_1_code 4 = .ok (.arraylength, 1) := by decide +kernel
theorem d1_5 : decode prog_5_method_1_code 5 = .ok (.invokespecial 1, 3) := by decide +kernel
theorem d1_8 : decode prog_5_method_1_code 8 = .ok (.return_, 1) := by decide +kernel
theorem pn_1 : plainName "com/example/ronda/ronda/engine/Der" = true := by first | (simp [plainName, overriddenIn]; done) | decide +kernel
theorem ef_1 (m : MethodId) (r0 : Addr) (r1 : Addr) : entryFrame m #[(.ref r0), (.ref r1)] 2 = mkF m 0 #[.val (.ref r0), .val (.ref r1)] [] := by first | (simp [entryFrame, mkF, argsToLocals, Value.category]; done) | rfl
set_option maxRecDepth 65536 in
set_option maxHeartbeats 40000000 in
theorem rm1 {l : Launch} {Z : State} {a0 : Array Value} (hw : ∀ d ∈ tables_1, d.before a0 Z = true) (r0 : Addr) (r1 : Addr) (h0 : Heap) (n0 : Nat) (hz : n0 ≤ h0.size) (g_r0 : n0 ≤ r0) (E_r0 : Exa Z h0 r0 "com/example/ronda/ronda/engine/Der") (F_bytes_r0 : Fld Z h0 r0 "com/example/ronda/ronda/engine/Der" "bytes" "[B" .null) (F_position_r0 : Fld Z h0 r0 "com/example/ronda/ronda/engine/Der" "position" "I" (.int (0 : Int32))) (F_end_r0 : Fld Z h0 r0 "com/example/ronda/ronda/engine/Der" "end" "I" (.int (0 : Int32))) (n : Nat) (N : Int32) (hN : Nat.toInt32 n = N) (f : Nat → Value) (A_r1 : OArr Z h0 r1 .byte n f) :
    OMet l Z (⟨"com/example/ronda/ronda/engine/Der", "<init>", "([B)V"⟩ : MethodName) prog_5_method_1_code 2 none ({ frames := 2, cells := 0, slots := 0, locals := 27 } : Room) #[(.ref r0), (.ref r1)] h0 n0 ({ frames := 2, cells := 0, slots := 0, locals := 27 } : Room).cells ({ frames := 2, cells := 0, slots := 0, locals := 27 } : Room).slots (fun v h => v = none ∧ Keep h0 h [r0] ∧ Exa Z h r0 "com/example/ronda/ronda/engine/Der" ∧ Fld Z h r0 "com/example/ronda/ronda/engine/Der" "bytes" "[B" (.ref r1) ∧ Fld Z h r0 "com/example/ronda/ronda/engine/Der" "position" "I" (.int (0 : Int32)) ∧ Fld Z h r0 "com/example/ronda/ronda/engine/Der" "end" "I" (.int N)) := by
  refine o_body (plainFor_of_name pn_1) hz (fun m => ef_1 m r0 r1) ?_
  intro p e s m below meth c s₁ G0
  refine o_aloadN G0 d1_0 (pc' := 1) rfl rfl rfl ?_
  refine o_aloadN G0 d1_1 (pc' := 2) rfl rfl rfl ?_
  refine o_iconst G0 d1_2 (pc' := 3) rfl (v := (0 : Int32)) rfl ?_
  refine o_aloadN G0 d1_3 (pc' := 4) rfl rfl rfl ?_
  refine o_arraylength G0 A_r1 (v := N) hN d1_4 (pc' := 5) rfl ?_
  refine o_callI G0 (z := (⟨"com/example/ronda/ronda/engine/Der", "<init>", "([BII)V"⟩ : MethodName)) (argsL := [(.ref r1), (.int (0 : Int32)), (.int N)]) (rest := []) (W := 0) (a := r0) rfl (hw _ (List.mem_of_getElem? (i := 7) rfl)) (hw _ (List.mem_of_getElem? (i := 8) rfl)) rfl d1_5 (by decide) (hw _ (List.mem_of_getElem? (i := 3) rfl)) (hw _ (List.mem_of_getElem? (i := 9) rfl)) (rm2 hw r0 r1 (0 : Int32) N h0 n0 G0.sz g_r0 E_r0 F_bytes_r0 F_position_r0 F_end_r0) (by decide) (by decide) rfl (lenOf pd_0 rfl) rfl (Nat.le_of_eq rfl) (pc' := 8) rfl (by decide) (by decide) ?_
  rintro _ T1 h1 G1 ⟨rfl, K1, E1, F1, F2, F3⟩
  show OFin n0 p e below s (fun v h => v = none ∧ Keep h0 h [r0] ∧ Exa Z h r0 "com/example/ronda/ronda/engine/Der" ∧ Fld Z h r0 "com/example/ronda/ronda/engine/Der" "bytes" "[B" (.ref r1) ∧ Fld Z h r0 "com/example/ronda/ronda/engine/Der" "position" "I" (.int (0 : Int32)) ∧ Fld Z h r0 "com/example/ronda/ronda/engine/Der" "end" "I" (.int N)) 0 0 T1 (mkF m 8 #[.val (.ref r0), .val (.ref r1)] [])
  exact o_return G1 d1_8 ⟨rfl, K1, E1, F1, F2, F3⟩ (by decide) (by decide)
theorem d6_0 : decode prog_5_method_4_code 0 = .ok (.aload_n 0, 1) := by decide +kernel
theorem d6_1 : decode prog_5_method_4_code 1 = .ok (.getfield 16, 3) := by decide +kernel
theorem d6_4 : decode prog_5_method_4_code 4 = .ok (.aload_n 0, 1) := by decide +kernel
theorem d6_5 : decode prog_5_method_4_code 5 = .ok (.getfield 20, 3) := by decide +kernel
theorem d6_8 : decode prog_5_method_4_code 8 = .ok (.if_icmp .ge 7, 3) := by decide +kernel
theorem d6_11 : decode prog_5_method_4_code 11 = .ok (.iconst 1, 1) := by decide +kernel
theorem d6_12 : decode prog_5_method_4_code 12 = .ok (.goto 4, 3) := by decide +kernel
theorem d6_15 : decode prog_5_method_4_code 15 = .ok (.iconst 0, 1) := by decide +kernel
theorem d6_16 : decode prog_5_method_4_code 16 = .ok (.ireturn, 1) := by decide +kernel
theorem pn_6 : plainName "com/example/ronda/ronda/engine/Der" = true := by first | (simp [plainName, overriddenIn]; done) | decide +kernel
theorem ef_6 (m : MethodId) (r0 : Addr) : entryFrame m #[(.ref r0)] 1 = mkF m 0 #[.val (.ref r0)] [] := by first | (simp [entryFrame, mkF, argsToLocals, Value.category]; done) | rfl
def f_6 (x1 x2 : Int32)  : Int32 := if x1 < x2 then (1 : Int32) else (0 : Int32)
set_option maxRecDepth 65536 in
set_option maxHeartbeats 40000000 in
theorem rm6 {l : Launch} {Z : State} {a0 : Array Value} (hw : ∀ d ∈ tables_1, d.before a0 Z = true) (r0 : Addr) (h0 : Heap) (n0 : Nat) (hz : n0 ≤ h0.size) (x1 x2 : Int32) (F_p : Fld Z h0 r0 "com/example/ronda/ronda/engine/Der" "position" "I" (.int x1)) (F_e : Fld Z h0 r0 "com/example/ronda/ronda/engine/Der" "end" "I" (.int x2)) :
    OMet l Z (⟨"com/example/ronda/ronda/engine/Der", "hasMore", "()Z"⟩ : MethodName) prog_5_method_4_code 1 (some .boolean) ({ frames := 0, cells := 0, slots := 0, locals := 0 } : Room) #[(.ref r0)] h0 n0 ({ frames := 0, cells := 0, slots := 0, locals := 0 } : Room).cells ({ frames := 0, cells := 0, slots := 0, locals := 0 } : Room).slots (OVal h0 (.int (f_6 x1 x2))) := by
  refine o_body (plainFor_of_name pn_6) hz (fun m => ef_6 m r0) ?_
  intro p e s m below meth c s₁ G0
  refine o_aloadN G0 d6_0 (pc' := 1) rfl rfl rfl ?_
  refine o_getF G0 (host := "") (Or.inl (hw _ (List.mem_of_getElem? (i := 15) rfl))) Via.refl F_p d6_1 (pc' := 4) rfl ?_
  intro T1 G1
  refine o_aloadN G1 d6_4 (pc' := 5) rfl rfl rfl ?_
  refine o_getF G1 (host := "") (Or.inl (hw _ (List.mem_of_getElem? (i := 17) rfl))) Via.refl F_e d6_5 (pc' := 8) rfl ?_
  intro T2 G2
  refine o_icmp_ge G2 d6_8 (by decide) (pcT := 15) (by decide) (pc' := 11) rfl (fun hc8 => ?_) (fun hc8 => ?_)
  · refine o_iconst G2 d6_15 (pc' := 16) rfl (v := (0 : Int32)) rfl ?_
    have hq : (nar .boolean (0 : Int32)) = f_6 x1 x2 := by
      rw [f_6, if_neg hc8]
      try rfl
    exact o_nreturn (t := .boolean) G2 (by simp) d6_16 ⟨congrArg (fun z => some (Value.int z)) hq, rfl⟩ (by decide) (by decide)
  · refine o_iconst G2 d6_11 (pc' := 12) rfl (v := (1 : Int32)) rfl ?_
    refine o_goto G2 d6_12 (by decide) (pc' := 16) rfl ?_
    have hq : (nar .boolean (1 : Int32)) = f_6 x1 x2 := by
      rw [f_6, if_pos hc8]
      try rfl
    exact o_nreturn (t := .boolean) G2 (by simp) d6_16 ⟨congrArg (fun z => some (Value.int z)) hq, rfl⟩ (by decide) (by decide)
def own_a4 (y0 y1 y2 y3 : Int32) (j : Nat) : Value := match j with | 0 => .int y0 | 1 => .int y1 | 2 => .int y2 | _ => .int y3
theorem d4_0 : decode prog_5_method_6_code 0 = .ok (.aload_n 0, 1) := by decide +kernel
theorem d4_1 : decode prog_5_method_6_code 1 = .ok (.getfield 20, 3) := by decide +kernel
theorem d4_4 : decode prog_5_method_6_code 4 = .ok (.aload_n 0, 1) := by decide +kernel
theorem d4_5 : decode prog_5_method_6_code 5 = .ok (.getfield 16, 3) := by decide +kernel
theorem d4_8 : decode prog_5_method_6_code 8 = .ok (.isub, 1) := by decide +kernel
theorem d4_9 : decode prog_5_method_6_code 9 = .ok (.iconst 2, 1) := by decide +kernel
theorem d4_10 : decode prog_5_method_6_code 10 = .ok (.if_icmp .lt 20, 3) := by decide +kernel
theorem d4_13 : decode prog_5_method_6_code 13 = .ok (.aload_n 0, 1) := by decide +kernel
theorem d4_14 : decode prog_5_method_6_code 14 = .ok (.getfield 12, 3) := by decide +kernel
theorem d4_17 : decode prog_5_method_6_code 17 = .ok (.aload_n 0, 1) := by decide +kernel
theorem d4_18 : decode prog_5_method_6_code 18 = .ok (.getfield 16, 3) := by decide +kernel
theorem d4_21 : decode prog_5_method_6_code 21 = .ok (.baload, 1) := by decide +kernel
theorem d4_22 : decode prog_5_method_6_code 22 = .ok (.sipush 255, 3) := by decide +kernel
theorem d4_25 : decode prog_5_method_6_code 25 = .ok (.iand, 1) := by decide +kernel
theorem d4_26 : decode prog_5_method_6_code 26 = .ok (.iload_n 1, 1) := by decide +kernel
theorem d4_27 : decode prog_5_method_6_code 27 = .ok (.if_icmp .eq 17, 3) := by decide +kernel
theorem d4_44 : decode prog_5_method_6_code 44 = .ok (.aload_n 0, 1) := by decide +kernel
theorem d4_45 : decode prog_5_method_6_code 45 = .ok (.getfield 16, 3) := by decide +kernel
theorem d4_48 : decode prog_5_method_6_code 48 = .ok (.iconst 2, 1) := by decide +kernel
theorem d4_49 : decode prog_5_method_6_code 49 = .ok (.iadd, 1) := by decide +kernel
theorem d4_50 : decode prog_5_method_6_code 50 = .ok (.istore_n 2, 1) := by decide +kernel
theorem d4_51 : decode prog_5_method_6_code 51 = .ok (.aload_n 0, 1) := by decide +kernel
theorem d4_52 : decode prog_5_method_6_code 52 = .ok (.getfield 12, 3) := by decide +kernel
theorem d4_55 : decode prog_5_method_6_code 55 = .ok (.aload_n 0, 1) := by decide +kernel
theorem d4_56 : decode prog_5_method_6_code 56 = .ok (.getfield 16, 3) := by decide +kernel
theorem d4_59 : decode prog_5_method_6_code 59 = .ok (.iconst 1, 1) := by decide +kernel
theorem d4_60 : decode prog_5_method_6_code 60 = .ok (.iadd, 1) := by decide +kernel
theorem d4_61 : decode prog_5_method_6_code 61 = .ok (.baload, 1) := by decide +kernel
theorem d4_62 : decode prog_5_method_6_code 62 = .ok (.sipush 255, 3) := by decide +kernel
theorem d4_65 : decode prog_5_method_6_code 65 = .ok (.iand, 1) := by decide +kernel
theorem d4_66 : decode prog_5_method_6_code 66 = .ok (.istore_n 3, 1) := by decide +kernel
theorem d4_67 : decode prog_5_method_6_code 67 = .ok (.iload_n 3, 1) := by decide +kernel
theorem d4_68 : decode prog_5_method_6_code 68 = .ok (.bipush 127, 2) := by decide +kernel
theorem d4_70 : decode prog_5_method_6_code 70 = .ok (.if_icmp .le 73, 3) := by decide +kernel
theorem d4_143 : decode prog_5_method_6_code 143 = .ok (.iload_n 3, 1) := by decide +kernel
theorem d4_144 : decode prog_5_method_6_code 144 = .ok (.aload_n 0, 1) := by decide +kernel
theorem d4_145 : decode prog_5_method_6_code 145 = .ok (.getfield 20, 3) := by decide +kernel
theorem d4_148 : decode prog_5_method_6_code 148 = .ok (.iload_n 2, 1) := by decide +kernel
theorem d4_149 : decode prog_5_method_6_code 149 = .ok (.isub, 1) := by decide +kernel
theorem d4_150 : decode prog_5_method_6_code 150 = .ok (.if_icmp .le 13, 3) := by decide +kernel
theorem d4_163 : decode prog_5_method_6_code 163 = .ok (.aload_n 0, 1) := by decide +kernel
theorem d4_164 : decode prog_5_method_6_code 164 = .ok (.iload_n 2, 1) := by decide +kernel
theorem d4_165 : decode prog_5_method_6_code 165 = .ok (.iload_n 3, 1) := by decide +kernel
theorem d4_166 : decode prog_5_method_6_code 166 = .ok (.iadd, 1) := by decide +kernel
theorem d4_167 : decode prog_5_method_6_code 167 = .ok (.putfield 16, 3) := by decide +kernel
theorem d4_170 : decode prog_5_method_6_code 170 = .ok (.new 2, 3) := by decide +kernel
theorem d4_173 : decode prog_5_method_6_code 173 = .ok (.dup, 1) := by decide +kernel
theorem d4_174 : decode prog_5_method_6_code 174 = .ok (.aload_n 0, 1) := by decide +kernel
theorem d4_175 : decode prog_5_method_6_code 175 = .ok (.getfield 12, 3) := by decide +kernel
theorem d4_178 : decode prog_5_method_6_code 178 = .ok (.iload_n 2, 1) := by decide +kernel
theorem d4_179 : decode prog_5_method_6_code 179 = .ok (.aload_n 0, 1) := by decide +kernel
theorem d4_180 : decode prog_5_method_6_code 180 = .ok (.getfield 16, 3) := by decide +kernel
theorem d4_183 : decode prog_5_method_6_code 183 = .ok (.invokespecial 1, 3) := by decide +kernel
theorem d4_186 : decode prog_5_method_6_code 186 = .ok (.areturn, 1) := by decide +kernel
theorem pn_4 : plainName "com/example/ronda/ronda/engine/Der" = true := by first | (simp [plainName, overriddenIn]; done) | decide +kernel
theorem ef_4 (m : MethodId) (r0 : Addr) (p1 : Int32) : entryFrame m #[(.ref r0), (.int p1)] 6 = mkF m 0 #[.val (.ref r0), .val (.int p1), .unset, .unset, .unset, .unset] [] := by first | (simp [entryFrame, mkF, argsToLocals, Value.category]; done) | rfl
set_option maxRecDepth 65536 in
set_option maxHeartbeats 40000000 in
theorem rm4 {l : Launch} {Z : State} {a0 : Array Value} (hw : ∀ d ∈ tables_1, d.before a0 Z = true) (r0 : Addr) (p1 : Int32) (h0 : Heap) (n0 : Nat) (hz : n0 ≤ h0.size) (ra : Addr) (y0 y1 y2 y3 : Int32) (g_r0 : n0 ≤ r0) (hne : ra ≠ r0) (E_r0 : Exa Z h0 r0 "com/example/ronda/ronda/engine/Der") (F_bytes_r0 : Fld Z h0 r0 "com/example/ronda/ronda/engine/Der" "bytes" "[B" (.ref ra)) (F_position_r0 : Fld Z h0 r0 "com/example/ronda/ronda/engine/Der" "position" "I" (.int (0 : Int32))) (F_end_r0 : Fld Z h0 r0 "com/example/ronda/ronda/engine/Der" "end" "I" (.int (4 : Int32))) (A_ra : OArr Z h0 ra .byte 4 (own_a4 y0 y1 y2 y3)) (htag : y0 &&& (255 : Int32) = p1) (hl1 : ¬ (127 : Int32) < y1 &&& (255 : Int32)) (hl2 : ¬ (2 : Int32) < y1 &&& (255 : Int32)) :
    OMet l Z (⟨"com/example/ronda/ronda/engine/Der", "next", "(I)Lcom/example/ronda/ronda/engine/Der;"⟩ : MethodName) prog_5_method_6_code 6 (some (.object "com/example/ronda/ronda/engine/Der")) ({ frames := 2, cells := 1, slots := 3, locals := 28 } : Room) #[(.ref r0), (.int p1)] h0 n0 ({ frames := 2, cells := 1, slots := 3, locals := 28 } : Room).cells ({ frames := 2, cells := 1, slots := 3, locals := 28 } : Room).slots (fun v h => ∃ b, v = some (.ref b) ∧ n0 ≤ b ∧ h0.size ≤ b ∧ Keep h0 h [r0] ∧ Fld Z h r0 "com/example/ronda/ronda/engine/Der" "bytes" "[B" (.ref ra) ∧ Fld Z h r0 "com/example/ronda/ronda/engine/Der" "end" "I" (.int (4 : Int32)) ∧ Fld Z h r0 "com/example/ronda/ronda/engine/Der" "position" "I" (.int ((2 : Int32) + (y1 &&& (255 : Int32)))) ∧ Exa Z h b "com/example/ronda/ronda/engine/Der" ∧ Fld Z h b "com/example/ronda/ronda/engine/Der" "bytes" "[B" (.ref ra) ∧ Fld Z h b "com/example/ronda/ronda/engine/Der" "position" "I" (.int (2 : Int32)) ∧ Fld Z h b "com/example/ronda/ronda/engine/Der" "end" "I" (.int ((2 : Int32) + (y1 &&& (255 : Int32))))) := by
  refine o_body (plainFor_of_name pn_4) hz (fun m => ef_4 m r0 p1) ?_
  intro p e s m below meth c s₁ G0
  have K : Keep h0 h0 [r0] := Keep.refl _ _
  refine o_aloadN G0 d4_0 (pc' := 1) rfl rfl rfl ?_
  refine o_getF G0 (host := "") (Or.inl (hw _ (List.mem_of_getElem? (i := 17) rfl))) Via.refl F_end_r0 d4_1 (pc' := 4) rfl ?_
  intro T1 G1
  refine o_aloadN G1 d4_4 (pc' := 5) rfl rfl rfl ?_
  refine o_getF G1 (host := "") (Or.inl (hw _ (List.mem_of_getElem? (i := 15) rfl))) Via.refl F_position_r0 d4_5 (pc' := 8) rfl ?_
  intro T2 G2
  refine o_isub G2 d4_8 (pc' := 9) rfl (v := (4 : Int32)) (by decide) ?_
  refine o_iconst G2 d4_9 (pc' := 10) rfl (v := (2 : Int32)) rfl ?_
  refine o_icmp_lt G2 d4_10 (by decide) (pcT := 30) (by decide) (pc' := 13) rfl (fun q => absurd q (by decide)) (fun _ => ?_)
  refine o_aloadN G2 d4_13 (pc' := 14) rfl rfl rfl ?_
  refine o_getF G2 (host := "") (Or.inl (hw _ (List.mem_of_getElem? (i := 13) rfl))) Via.refl F_bytes_r0 d4_14 (pc' := 17) rfl ?_
  intro T3 G3
  refine o_aloadN G3 d4_17 (pc' := 18) rfl rfl rfl ?_
  refine o_getF G3 (host := "") (Or.inl (hw _ (List.mem_of_getElem? (i := 15) rfl))) Via.refl F_position_r0 d4_18 (pc' := 21) rfl ?_
  intro T4 G4
  refine o_baload G4 A_ra (i := 0) rfl (by decide) (v := (.int y0)) rfl d4_21 (pc' := 22) rfl ?_
  refine o_sipush G4 d4_22 (pc' := 25) rfl (v := (255 : Int32)) rfl ?_
  obtain ⟨v5, e5⟩ : ∃ z, y0 &&& (255 : Int32) = z := ⟨_, rfl⟩
  refine o_iand G4 d4_25 (pc' := 26) rfl e5 ?_
  refine o_iloadN G4 d4_26 (pc' := 27) rfl rfl ?_
  refine o_icmp_eq G4 d4_27 (by decide) (pcT := 44) (by decide) (pc' := 30) rfl (fun _ => ?_) (fun q => absurd (by rw [← e5]; exact htag) q)
  refine o_aloadN G4 d4_44 (pc' := 45) rfl rfl rfl ?_
  refine o_getF G4 (host := "") (Or.inl (hw _ (List.mem_of_getElem? (i := 15) rfl))) Via.refl F_position_r0 d4_45 (pc' := 48) rfl ?_
  intro T6 G6
  refine o_iconst G6 d4_48 (pc' := 49) rfl (v := (2 : Int32)) rfl ?_
  refine o_iadd G6 d4_49 (pc' := 50) rfl (v := (2 : Int32)) (by decide) ?_
  refine o_istoreN G6 d4_50 (pc' := 51) rfl (l' := #[.val (.ref r0), .val (.int p1), .val (.int (2 : Int32)), .unset, .unset, .unset]) rfl ?_
  refine o_aloadN G6 d4_51 (pc' := 52) rfl rfl rfl ?_
  refine o_getF G6 (host := "") (Or.inl (hw _ (List.mem_of_getElem? (i := 13) rfl))) Via.refl F_bytes_r0 d4_52 (pc' := 55) rfl ?_
  intro T7 G7
  refine o_aloadN G7 d4_55 (pc' := 56) rfl rfl rfl ?_
  refine o_getF G7 (host := "") (Or.inl (hw _ (List.mem_of_getElem? (i := 15) rfl))) Via.refl F_position_r0 d4_56 (pc' := 59) rfl ?_
  intro T8 G8
  refine o_iconst G8 d4_59 (pc' := 60) rfl (v := (1 : Int32)) rfl ?_
  refine o_iadd G8 d4_60 (pc' := 61) rfl (v := (1 : Int32)) (by decide) ?_
  refine o_baload G8 A_ra (i := 1) rfl (by decide) (v := (.int y1)) rfl d4_61 (pc' := 62) rfl ?_
  refine o_sipush G8 d4_62 (pc' := 65) rfl (v := (255 : Int32)) rfl ?_
  obtain ⟨v9, e9⟩ : ∃ z, y1 &&& (255 : Int32) = z := ⟨_, rfl⟩
  refine o_iand G8 d4_65 (pc' := 66) rfl e9 ?_
  refine o_istoreN G8 d4_66 (pc' := 67) rfl (l' := #[.val (.ref r0), .val (.int p1), .val (.int (2 : Int32)), .val (.int v9), .unset, .unset]) rfl ?_
  refine o_iloadN G8 d4_67 (pc' := 68) rfl rfl ?_
  refine o_bipush G8 d4_68 (pc' := 70) rfl (v := (127 : Int32)) rfl ?_
  refine o_icmp_le G8 d4_70 (by decide) (pcT := 143) (by decide) (pc' := 73) rfl (fun _ => ?_) (fun q => absurd q (by rw [← e9]; exact hl1))
  refine o_iloadN G8 d4_143 (pc' := 144) rfl rfl ?_
  refine o_aloadN G8 d4_144 (pc' := 145) rfl rfl rfl ?_
  refine o_getF G8 (host := "") (Or.inl (hw _ (List.mem_of_getElem? (i := 17) rfl))) Via.refl F_end_r0 d4_145 (pc' := 148) rfl ?_
  intro T10 G10
  refine o_iloadN G10 d4_148 (pc' := 149) rfl rfl ?_
  refine o_isub G10 d4_149 (pc' := 150) rfl (v := (2 : Int32)) (by decide) ?_
  refine o_icmp_le G10 d4_150 (by decide) (pcT := 163) (by decide) (pc' := 153) rfl (fun _ => ?_) (fun q => absurd q (by rw [← e9]; exact hl2))
  refine o_aloadN G10 d4_163 (pc' := 164) rfl rfl rfl ?_
  refine o_iloadN G10 d4_164 (pc' := 165) rfl rfl ?_
  refine o_iloadN G10 d4_165 (pc' := 166) rfl rfl ?_
  obtain ⟨v11, e11⟩ : ∃ z, (2 : Int32) + v9 = z := ⟨_, rfl⟩
  refine o_iadd G10 d4_166 (pc' := 167) rfl e11 ?_
  refine o_putF G10 (host := "") (Or.inl (hw _ (List.mem_of_getElem? (i := 15) rfl))) Via.refl F_position_r0 E_r0 (Or.inl (hw _ (List.mem_of_getElem? (i := 16) rfl))) (hw _ (List.mem_of_getElem? (i := 2) rfl)) (ty := .int) (by decide) rfl rfl g_r0 d4_167 (pc' := 170) rfl ?_
  intro T12 h12 G12 W12
  replace E_r0 := E_r0.wr W12
  replace F_bytes_r0 := F_bytes_r0.other W12 (Or.inr (slot_ne (Or.inr (hw _ (List.mem_of_getElem? (i := 14) rfl))) (Or.inl (hw _ (List.mem_of_getElem? (i := 16) rfl))) (by decide) (t := (.array .byte)) (t' := .int) (by decide) (by decide)))
  replace F_position_r0 := F_position_r0.same W12
  replace F_end_r0 := F_end_r0.other W12 (Or.inr (slot_ne (Or.inr (hw _ (List.mem_of_getElem? (i := 18) rfl))) (Or.inl (hw _ (List.mem_of_getElem? (i := 16) rfl))) (by decide) (t := .int) (t' := .int) (by decide) (by decide)))
  replace K := K.wr W12 (Or.inl (List.mem_of_getElem? (i := 0) rfl))
  replace A_ra := A_ra.other W12 hne
  refine o_new G12 (hw _ (List.mem_of_getElem? (i := 24) rfl)) (hw _ (List.mem_of_getElem? (i := 2) rfl)) (hw _ (List.mem_of_getElem? (i := 3) rfl)) d4_170 (pc' := 173) rfl (by decide) (by decide) ?_
  intro T13 h13 b13 G13 g13 g_b13 E13 A13 D13
  have ne_r0_b13 : r0 ≠ b13 := Nat.ne_of_lt (Nat.lt_of_lt_of_eq E_r0.lt g13.symm)
  have ne_ra_b13 : ra ≠ b13 := Nat.ne_of_lt (Nat.lt_of_lt_of_eq A_ra.lt g13.symm)
  have sz_b13 : h0.size ≤ b13 := Nat.le_trans K.1 (Nat.le_of_eq g13.symm)
  replace E_r0 := E_r0.ext E13
  replace F_bytes_r0 := F_bytes_r0.ext E13
  replace F_position_r0 := F_position_r0.ext E13
  replace F_end_r0 := F_end_r0.ext E13
  replace K := K.ext E13
  replace A_ra := A_ra.ext E13
  have F_bytes_b13 : Fld Z h13 b13 "com/example/ronda/ronda/engine/Der" "bytes" "[B" .null := D13 (Or.inr (hw _ (List.mem_of_getElem? (i := 14) rfl))) (ty := (.array .byte)) (by decide)
  have F_position_b13 : Fld Z h13 b13 "com/example/ronda/ronda/engine/Der" "position" "I" (.int (0 : Int32)) := D13 (Or.inl (hw _ (List.mem_of_getElem? (i := 16) rfl))) (ty := .int) (by decide)
  have F_end_b13 : Fld Z h13 b13 "com/example/ronda/ronda/engine/Der" "end" "I" (.int (0 : Int32)) := D13 (Or.inr (hw _ (List.mem_of_getElem? (i := 18) rfl))) (ty := .int) (by decide)
  refine o_dup G13 d4_173 (pc' := 174) rfl rfl ?_
  refine o_aloadN G13 d4_174 (pc' := 175) rfl rfl rfl ?_
  refine o_getF G13 (host := "") (Or.inl (hw _ (List.mem_of_getElem? (i := 13) rfl))) Via.refl F_bytes_r0 d4_175 (pc' := 178) rfl ?_
  intro T14 G14
  refine o_iloadN G14 d4_178 (pc' := 179) rfl rfl ?_
  refine o_aloadN G14 d4_179 (pc' := 180) rfl rfl rfl ?_
  refine o_getF G14 (host := "") (Or.inl (hw _ (List.mem_of_getElem? (i := 15) rfl))) Via.refl F_position_r0 d4_180 (pc' := 183) rfl ?_
  intro T15 G15
  refine o_callI G15 (z := (⟨"com/example/ronda/ronda/engine/Der", "<init>", "([BII)V"⟩ : MethodName)) (argsL := [(.ref ra), (.int (2 : Int32)), (.int v11)]) (rest := [(.ref b13)]) (W := 1) (a := b13) rfl (hw _ (List.mem_of_getElem? (i := 7) rfl)) (hw _ (List.mem_of_getElem? (i := 8) rfl)) rfl d4_183 (by decide) (hw _ (List.mem_of_getElem? (i := 3) rfl)) (hw _ (List.mem_of_getElem? (i := 9) rfl)) (rm2 hw b13 ra (2 : Int32) v11 h13 n0 G15.sz g_b13 A13 F_bytes_b13 F_position_b13 F_end_b13) (by decide) (by decide) rfl (lenOf pd_0 rfl) rfl (Nat.le_of_eq rfl) (pc' := 186) rfl (by decide) (by decide) ?_
  rintro _ T16 h16 G16 ⟨rfl, K16, E16, Fb1, Fb2, Fb3⟩
  replace E_r0 := E_r0.keep K16
  replace F_bytes_r0 := F_bytes_r0.keep K16 (ninS ne_r0_b13 nin0)
  replace F_position_r0 := F_position_r0.keep K16 (ninS ne_r0_b13 nin0)
  replace F_end_r0 := F_end_r0.keep K16 (ninS ne_r0_b13 nin0)
  replace K := K.trans K16 (allS (Or.inr sz_b13) all0)
  replace A_ra := A_ra.keep K16 (ninS ne_ra_b13 nin0)
  replace A13 := A13.keep K16
  show OFin n0 p e below s (fun v h => ∃ b, v = some (.ref b) ∧ n0 ≤ b ∧ h0.size ≤ b ∧ Keep h0 h [r0] ∧ Fld Z h r0 "com/example/ronda/ronda/engine/Der" "bytes" "[B" (.ref ra) ∧ Fld Z h r0 "com/example/ronda/ronda/engine/Der" "end" "I" (.int (4 : Int32)) ∧ Fld Z h r0 "com/example/ronda/ronda/engine/Der" "position" "I" (.int ((2 : Int32) + (y1 &&& (255 : Int32)))) ∧ Exa Z h b "com/example/ronda/ronda/engine/Der" ∧ Fld Z h b "com/example/ronda/ronda/engine/Der" "bytes" "[B" (.ref ra) ∧ Fld Z h b "com/example/ronda/ronda/engine/Der" "position" "I" (.int (2 : Int32)) ∧ Fld Z h b "com/example/ronda/ronda/engine/Der" "end" "I" (.int ((2 : Int32) + (y1 &&& (255 : Int32))))) 1 3 T16 (mkF m 186 #[.val (.ref r0), .val (.int p1), .val (.int (2 : Int32)), .val (.int v9), .unset, .unset] [(.ref b13)])
  subst e5 e9 e11
  exact o_areturn G16 rfl rfl rfl d4_186 ⟨_, rfl, g_b13, sz_b13, K, F_bytes_r0, F_end_r0, F_position_r0, E16, Fb1, Fb2, Fb3⟩ (by decide) (by decide)
theorem own_hm {x1 x2 : Int32} (h : ¬ f_6 x1 x2 = 0) : x1 < x2 := by
  by_cases q : x1 < x2
  · exact q
  · exact absurd (by rw [f_6, if_neg q]) h
theorem d5_0 : decode prog_5_method_5_code 0 = .ok (.aload_n 0, 1) := by decide +kernel
theorem d5_1 : decode prog_5_method_5_code 1 = .ok (.invokevirtual 50, 3) := by decide +kernel
theorem d5_4 : decode prog_5_method_5_code 4 = .ok (.ifCond .eq 24, 3) := by decide +kernel
theorem d5_7 : decode prog_5_method_5_code 7 = .ok (.aload_n 0, 1) := by decide +kernel
theorem d5_8 : decode prog_5_method_5_code 8 = .ok (.getfield 12, 3) := by decide +kernel
theorem d5_11 : decode prog_5_method_5_code 11 = .ok (.aload_n 0, 1) := by decide +kernel
theorem d5_12 : decode prog_5_method_5_code 12 = .ok (.getfield 16, 3) := by decide +kernel
theorem d5_15 : decode prog_5_method_5_code 15 = .ok (.baload, 1) := by decide +kernel
theorem d5_16 : decode prog_5_method_5_code 16 = .ok (.sipush 255, 3) := by decide +kernel
theorem d5_19 : decode prog_5_method_5_code 19 = .ok (.iand, 1) := by decide +kernel
theorem d5_20 : decode prog_5_method_5_code 20 = .ok (.iload_n 1, 1) := by decide +kernel
theorem d5_21 : decode prog_5_method_5_code 21 = .ok (.if_icmp .ne 7, 3) := by decide +kernel
theorem d5_24 : decode prog_5_method_5_code 24 = .ok (.iconst 1, 1) := by decide +kernel
theorem d5_25 : decode prog_5_method_5_code 25 = .ok (.goto 4, 3) := by decide +kernel
theorem d5_28 : decode prog_5_method_5_code 28 = .ok (.iconst 0, 1) := by decide +kernel
theorem d5_29 : decode prog_5_method_5_code 29 = .ok (.ireturn, 1) := by decide +kernel
theorem pn_5 : plainName "com/example/ronda/ronda/engine/Der" = true := by first | (simp [plainName, overriddenIn]; done) | decide +kernel
theorem ef_5 (m : MethodId) (r0 : Addr) (p1 : Int32) : entryFrame m #[(.ref r0), (.int p1)] 2 = mkF m 0 #[.val (.ref r0), .val (.int p1)] [] := by first | (simp [entryFrame, mkF, argsToLocals, Value.category]; done) | rfl
def f_5 (x1 x2 y : Int32) (p1 : Int32) : Int32 := if (f_6 x1 x2) = (0 : Int32) then (0 : Int32) else (if (y &&& (255 : Int32)) = p1 then (1 : Int32) else (0 : Int32))
set_option maxRecDepth 65536 in
set_option maxHeartbeats 40000000 in
theorem rm5 {l : Launch} {Z : State} {a0 : Array Value} (hw : ∀ d ∈ tables_1, d.before a0 Z = true) (r0 : Addr) (p1 : Int32) (h0 : Heap) (n0 : Nat) (hz : n0 ≤ h0.size) (x1 x2 y : Int32) (n P : Nat) (f : Nat → Value) (ra : Addr) (E_r0 : Exa Z h0 r0 "com/example/ronda/ronda/engine/Der") (F_b : Fld Z h0 r0 "com/example/ronda/ronda/engine/Der" "bytes" "[B" (.ref ra)) (F_p : Fld Z h0 r0 "com/example/ronda/ronda/engine/Der" "position" "I" (.int x1)) (F_e : Fld Z h0 r0 "com/example/ronda/ronda/engine/Der" "end" "I" (.int x2)) (A_ra : OArr Z h0 ra .byte n f) (hx1 : x1.toInt = (P : Int)) (hP : x1 < x2 → P < n) (hy : x1 < x2 → f P = .int y) :
    OMet l Z (⟨"com/example/ronda/ronda/engine/Der", "nextIs", "(I)Z"⟩ : MethodName) prog_5_method_5_code 2 (some .boolean) ({ frames := 1, cells := 0, slots := 0, locals := 12 } : Room) #[(.ref r0), (.int p1)] h0 n0 ({ frames := 1, cells := 0, slots := 0, locals := 12 } : Room).cells ({ frames := 1, cells := 0, slots := 0, locals := 12 } : Room).slots (OVal h0 (.int (f_5 x1 x2 y p1))) := by
  refine o_body (plainFor_of_name pn_5) hz (fun m => ef_5 m r0 p1) ?_
  intro p e s m below meth c s₁ G0
  refine o_aloadN G0 d5_0 (pc' := 1) rfl rfl rfl ?_
  obtain ⟨v1, e1⟩ : ∃ z, f_6 x1 x2 = z := ⟨_, rfl⟩
  refine o_callVP G0 (z := (⟨"com/example/ronda/ronda/engine/Der", "hasMore", "()Z"⟩ : MethodName)) (argsL := []) (rest := []) (W := 0) (r := (.int v1)) E_r0 (hw _ (List.mem_of_getElem? (i := 30) rfl)) (hw _ (List.mem_of_getElem? (i := 32) rfl)) (hw _ (List.mem_of_getElem? (i := 31) rfl)) (hw _ (List.mem_of_getElem? (i := 33) rfl)) d5_1 (by decide) (hw _ (List.mem_of_getElem? (i := 3) rfl)) (hw _ (List.mem_of_getElem? (i := 34) rfl)) (by rw [← e1]; exact rm6 hw r0 h0 n0 G0.sz x1 x2 F_p F_e) (by decide) (by decide) rfl (lenOf pd_1 rfl) rfl (Nat.le_of_eq rfl) (pc' := 4) rfl (by decide) (by decide) ?_
  intro T2 G2
  refine o_if_eq G2 d5_4 (by decide) (pcT := 28) (by decide) (pc' := 7) rfl (fun hc4 => ?_) (fun hc4 => ?_)
  · refine o_iconst G2 d5_28 (pc' := 29) rfl (v := (0 : Int32)) rfl ?_
    have hq : (nar .boolean (0 : Int32)) = f_5 x1 x2 y p1 := by
      subst e1
      rw [f_5, if_pos hc4]
      try rfl
    exact o_nreturn (t := .boolean) G2 (by simp) d5_29 ⟨congrArg (fun z => some (Value.int z)) hq, rfl⟩ (by decide) (by decide)
  · refine o_aloadN G2 d5_7 (pc' := 8) rfl rfl rfl ?_
    refine o_getF G2 (host := "") (Or.inl (hw _ (List.mem_of_getElem? (i := 13) rfl))) Via.refl F_b d5_8 (pc' := 11) rfl ?_
    intro T3 G3
    refine o_aloadN G3 d5_11 (pc' := 12) rfl rfl rfl ?_
    refine o_getF G3 (host := "") (Or.inl (hw _ (List.mem_of_getElem? (i := 15) rfl))) Via.refl F_p d5_12 (pc' := 15) rfl ?_
    intro T4 G4
    refine o_baload G4 A_ra (i := P) hx1 (hP (own_hm (by rw [e1]; exact hc4))) (v := (.int y)) (hy (own_hm (by rw [e1]; exact hc4))) d5_15 (pc' := 16) rfl ?_
    refine o_sipush G4 d5_16 (pc' := 19) rfl (v := (255 : Int32)) rfl ?_
    obtain ⟨v5, e5⟩ : ∃ z, y &&& (255 : Int32) = z := ⟨_, rfl⟩
    refine o_iand G4 d5_19 (pc' := 20) rfl e5 ?_
    refine o_iloadN G4 d5_20 (pc' := 21) rfl rfl ?_
    refine o_icmp_ne G4 d5_21 (by decide) (pcT := 28) (by decide) (pc' := 24) rfl (fun hc21 => ?_) (fun hc21 => ?_)
    · refine o_iconst G4 d5_28 (pc' := 29) rfl (v := (0 : Int32)) rfl ?_
      have hq : (nar .boolean (0 : Int32)) = f_5 x1 x2 y p1 := by
        subst e1 e5
        rw [f_5, if_neg hc4, if_neg hc21]
        try rfl
      exact o_nreturn (t := .boolean) G4 (by simp) d5_29 ⟨congrArg (fun z => some (Value.int z)) hq, rfl⟩ (by decide) (by decide)
    · refine o_iconst G4 d5_24 (pc' := 25) rfl (v := (1 : Int32)) rfl ?_
      refine o_goto G4 d5_25 (by decide) (pc' := 29) rfl ?_
      have hq : (nar .boolean (1 : Int32)) = f_5 x1 x2 y p1 := by
        subst e1 e5
        rw [f_5, if_neg hc4, if_pos hc21]
        try rfl
      exact o_nreturn (t := .boolean) G4 (by simp) d5_29 ⟨congrArg (fun z => some (Value.int z)) hq, rfl⟩ (by decide) (by decide)
theorem own_ni (x1 x2 y p1 : Int32) (h : x1 < x2) : f_5 x1 x2 y p1 = if y &&& (255 : Int32) = p1 then 1 else 0 := by
  rw [f_5, f_6, if_pos h, if_neg (by decide)]
theorem own_ni0 (x1 x2 y p1 : Int32) (h : ¬ x1 < x2) : f_5 x1 x2 y p1 = 0 := by
  rw [f_5, f_6, if_neg h, if_pos rfl]
theorem own_m4 (x : Int32) : (x &&& (2147483647 : Int32)) % (4 : Int32) = 0 ∨ (x &&& (2147483647 : Int32)) % (4 : Int32) = 1 ∨ (x &&& (2147483647 : Int32)) % (4 : Int32) = 2 ∨ (x &&& (2147483647 : Int32)) % (4 : Int32) = 3 := by
  have h := c_and x 2147483647 (by decide)
  have e : ((x &&& (2147483647 : Int32)) % (4 : Int32)).toInt = (x &&& (2147483647 : Int32)).toInt % 4 := by rw [Int32.toInt_mod, Int.tmod_eq_emod_of_nonneg h.1]; rfl
  have r : (x &&& (2147483647 : Int32)).toInt % 4 = 0 ∨ (x &&& (2147483647 : Int32)).toInt % 4 = 1 ∨ (x &&& (2147483647 : Int32)).toInt % 4 = 2 ∨ (x &&& (2147483647 : Int32)).toInt % 4 = 3 := by omega
  rw [← e] at r
  exact r.imp (fun q => Int32.toInt_inj.mp q) (fun r => r.imp (fun q => Int32.toInt_inj.mp q) (fun r => r.imp (fun q => Int32.toInt_inj.mp q) (fun q => Int32.toInt_inj.mp q)))
theorem own_tag (x : Int32) : nar .byte x.toInt8.toInt32 &&& (255 : Int32) = x &&& (255 : Int32) := by
  apply Int32.toInt_inj.mp
  rw [c_mask _ 255 8 (by decide) (by decide), c_mask _ 255 8 (by decide) (by decide)]
  have h1 := (c_i2b x).1
  have h2 := (c_i2b x.toInt8.toInt32).1
  have e : nar .byte x.toInt8.toInt32 = x.toInt8.toInt32.toInt8.toInt32 := rfl
  rw [e]
  show _ % 256 = _ % 256
  omega
theorem own_k3 (x : Int32) : x &&& (3 : Int32) = 0 ∨ x &&& (3 : Int32) = 1 ∨ x &&& (3 : Int32) = 2 ∨ x &&& (3 : Int32) = 3 := by
  have e : (x &&& (3 : Int32)).toInt = x.toInt % 4 := c_mask x 3 2 (by decide) (by decide)
  have r : x.toInt % 4 = 0 ∨ x.toInt % 4 = 1 ∨ x.toInt % 4 = 2 ∨ x.toInt % 4 = 3 := by omega
  rw [← e] at r
  exact r.imp (fun q => Int32.toInt_inj.mp q) (fun r => r.imp (fun q => Int32.toInt_inj.mp q) (fun r => r.imp (fun q => Int32.toInt_inj.mp q) (fun q => Int32.toInt_inj.mp q)))
theorem own_k1 (x : Int32) : x &&& (1 : Int32) = 0 ∨ x &&& (1 : Int32) = 1 := by
  have e : (x &&& (1 : Int32)).toInt = x.toInt % 2 := c_mask x 1 1 (by decide) (by decide)
  have r : x.toInt % 2 = 0 ∨ x.toInt % 2 = 1 := by omega
  rw [← e] at r
  exact r.imp (fun q => Int32.toInt_inj.mp q) (fun q => Int32.toInt_inj.mp q)
theorem pn_0 : plainName "com/example/ronda/ronda/engine/DerNextIsPinLaw" = true := by first | (simp [plainName, overriddenIn]; done) | decide +kernel
theorem ef_0 (m : MethodId) (p0 : Int32) (p1 : Int32) (p2 : Int32) (p3 : Int32) (p4 : Int32) (p5 : Int32) : entryFrame m #[(.int p0), (.int p1), (.int p2), (.int p3), (.int p4), (.int p5)] maxLocals = mkF m 0 #[.val (.int p0), .val (.int p1), .val (.int p2), .val (.int p3), .val (.int p4), .val (.int p5), .unset, .unset, .unset, .unset, .unset, .unset, .unset, .unset] [] := by first | (simp [entryFrame, mkF, argsToLocals, Value.category, maxLocals]; done) | rfl
set_option maxRecDepth 65536 in
set_option maxHeartbeats 40000000 in
theorem rm0 {l : Launch} {Z : State} {a0 : Array Value} (hw : ∀ d ∈ tables_1, d.before a0 Z = true) (p0 : Int32) (p1 : Int32) (p2 : Int32) (p3 : Int32) (p4 : Int32) (p5 : Int32) (h0 : Heap) (n0 : Nat) (hz : n0 ≤ h0.size) :
    OMet l Z x code maxLocals ret room_1 #[(.int p0), (.int p1), (.int p2), (.int p3), (.int p4), (.int p5)] h0 n0 16 128 (fun v _ => v = some (.int 1)) := by
  refine o_body (plainFor_of_name pn_0) hz (fun m => ef_0 m p0 p1 p2 p3 p4 p5) ?_
  intro p e s m below meth c s₁ G0
  refine o_iload G0 at_0 (pc' := 2) rfl rfl ?_
  refine o_iconst G0 at_2 (pc' := 3) rfl (v := (1 : Int32)) rfl ?_
  obtain ⟨v1, e1⟩ : ∃ z, (p5.toUInt32 >>> ((1 : Int32) &&& 31).toUInt32).toInt32 = z := ⟨_, rfl⟩
  refine o_iushr G0 at_3 (pc' := 4) rfl e1 ?_
  refine o_iconst G0 at_4 (pc' := 5) rfl (v := (3 : Int32)) rfl ?_
  obtain ⟨v2, e2⟩ : ∃ z, v1 &&& (3 : Int32) = z := ⟨_, rfl⟩
  refine o_iand G0 at_5 (pc' := 6) rfl e2 ?_
  refine o_istore G0 at_6 (pc' := 8) rfl (l' := #[.val (.int p0), .val (.int p1), .val (.int p2), .val (.int p3), .val (.int p4), .val (.int p5), .val (.int v2), .unset, .unset, .unset, .unset, .unset, .unset, .unset]) rfl ?_
  refine o_iload G0 at_8 (pc' := 10) rfl rfl ?_
  obtain ⟨v3, e3⟩ : ∃ z, (if v2 = (0 : Int32) then p4 else (if v2 = (1 : Int32) then (p1 &&& (255 : Int32)) else (if v2 = (2 : Int32) then (p2 &&& (255 : Int32)) else (p3 &&& (255 : Int32))))) = z := ⟨_, rfl⟩
  have K4 : ∀ T', OG l Z x code maxLocals ret n0 p e room_1 s m #[(.int p0), (.int p1), (.int p2), (.int p3), (.int p4), (.int p5)] below meth c T' h0 0 0 → OFin n0 p e below s (fun v _ => v = some (.int 1)) 16 128 T' (mkF m 51 #[.val (.int p0), .val (.int p1), .val (.int p2), .val (.int p3), .val (.int p4), .val (.int p5), .val (.int v2), .unset, .unset, .unset, .unset, .unset, .unset, .unset] [(.int v3)]) := by
    intro T4 G4
    refine o_istore G4 at_51 (pc' := 53) rfl (l' := #[.val (.int p0), .val (.int p1), .val (.int p2), .val (.int p3), .val (.int p4), .val (.int p5), .val (.int v2), .val (.int v3), .unset, .unset, .unset, .unset, .unset, .unset]) rfl ?_
    refine o_iload G4 at_53 (pc' := 55) rfl rfl ?_
    refine o_iconst G4 at_55 (pc' := 56) rfl (v := (1 : Int32)) rfl ?_
    obtain ⟨v5, e5⟩ : ∃ z, p5 &&& (1 : Int32) = z := ⟨_, rfl⟩
    refine o_iand G4 at_56 (pc' := 57) rfl e5 ?_
    refine o_if_ne G4 at_57 (by decide) (pcT := 157) (by decide) (pc' := 60) rfl (fun hc57 => ?_) (fun hc57 => ?_)
    · refine o_iloadN G4 at_157 (pc' := 158) rfl rfl ?_
      refine o_iconst G4 at_158 (pc' := 159) rfl (v := (1 : Int32)) rfl ?_
      obtain ⟨v6, e6⟩ : ∃ z, p0 &&& (1 : Int32) = z := ⟨_, rfl⟩
      refine o_iand G4 at_159 (pc' := 160) rfl e6 ?_
      refine o_istore G4 at_160 (pc' := 162) rfl (l' := #[.val (.int p0), .val (.int p1), .val (.int p2), .val (.int p3), .val (.int p4), .val (.int p5), .val (.int v2), .val (.int v3), .val (.int v6), .unset, .unset, .unset, .unset, .unset]) rfl ?_
      have hlen : v6 = (0 : Int32) ∨ v6 = (1 : Int32) := by
        rw [← e6]; exact own_k1 _
      rcases hlen with hl | hl
      · subst hl
        refine o_iconst G4 at_162 (pc' := 163) rfl (v := (4 : Int32)) rfl ?_
        refine o_newarray G4 (N := 4) (cap := 4) (hw _ (List.mem_of_getElem? (i := 0) rfl)) rfl (by decide) (by decide) at_163 (pc' := 165) rfl (by decide) (by decide) ?_
        intro T7 h7 b7 G7 g7 g_b7 E7 A_b7
        replace A_b7 : OArr Z h7 b7 .byte 4 (fun _ => (.int (0 : Int32))) := A_b7
        refine o_dup G7 at_165 (pc' := 166) rfl rfl ?_
        refine o_iconst G7 at_166 (pc' := 167) rfl (v := (0 : Int32)) rfl ?_
        refine o_iloadN G7 at_167 (pc' := 168) rfl rfl ?_
        obtain ⟨v8, e8⟩ : ∃ z, p1.toInt8.toInt32 = z := ⟨_, rfl⟩
        refine o_i2b G7 at_168 (pc' := 169) rfl e8 ?_
        refine o_bastore G7 A_b7 g_b7 (i := 0) rfl (by decide) at_169 (pc' := 170) rfl ?_
        intro T9 h9 G9 W9 A9
        replace A_b7 := A9
        refine o_dup G9 at_170 (pc' := 171) rfl rfl ?_
        refine o_iconst G9 at_171 (pc' := 172) rfl (v := (1 : Int32)) rfl ?_
        refine o_iload G9 at_172 (pc' := 174) rfl rfl ?_
        refine o_i2b G9 at_174 (pc' := 175) rfl (v := (0 : Int32)) (by decide) ?_
        refine o_bastore G9 A_b7 g_b7 (i := 1) rfl (by decide) at_175 (pc' := 176) rfl ?_
        intro T10 h10 G10 W10 A10
        replace A_b7 := A10
        refine o_dup G10 at_176 (pc' := 177) rfl rfl ?_
        refine o_iconst G10 at_177 (pc' := 178) rfl (v := (2 : Int32)) rfl ?_
        refine o_iloadN G10 at_178 (pc' := 179) rfl rfl ?_
        obtain ⟨v11, e11⟩ : ∃ z, p2.toInt8.toInt32 = z := ⟨_, rfl⟩
        refine o_i2b G10 at_179 (pc' := 180) rfl e11 ?_
        refine o_bastore G10 A_b7 g_b7 (i := 2) rfl (by decide) at_180 (pc' := 181) rfl ?_
        intro T12 h12 G12 W12 A12
        replace A_b7 := A12
        refine o_dup G12 at_181 (pc' := 182) rfl rfl ?_
        refine o_iconst G12 at_182 (pc' := 183) rfl (v := (3 : Int32)) rfl ?_
        refine o_iloadN G12 at_183 (pc' := 184) rfl rfl ?_
        obtain ⟨v13, e13⟩ : ∃ z, p3.toInt8.toInt32 = z := ⟨_, rfl⟩
        refine o_i2b G12 at_184 (pc' := 185) rfl e13 ?_
        refine o_bastore G12 A_b7 g_b7 (i := 3) rfl (by decide) at_185 (pc' := 186) rfl ?_
        intro T14 h14 G14 W14 A14
        replace A_b7 := A14
        refine o_astore G14 at_186 (pc' := 188) rfl rfl (l' := #[.val (.int p0), .val (.int p1), .val (.int p2), .val (.int p3), .val (.int p4), .val (.int p5), .val (.int v2), .val (.int v3), .val (.int (0 : Int32)), .val (.ref b7), .unset, .unset, .unset, .unset]) rfl ?_
        refine o_new G14 (hw _ (List.mem_of_getElem? (i := 1) rfl)) (hw _ (List.mem_of_getElem? (i := 2) rfl)) (hw _ (List.mem_of_getElem? (i := 3) rfl)) at_188 (pc' := 191) rfl (by decide) (by decide) ?_
        intro T15 h15 b15 G15 g15 g_b15 E15 A15 D15
        have ne_b7_b15 : b7 ≠ b15 := Nat.ne_of_lt (Nat.lt_of_lt_of_eq A_b7.lt g15.symm)
        replace A_b7 := A_b7.ext E15
        have F_bytes_b15 : Fld Z h15 b15 "com/example/ronda/ronda/engine/Der" "bytes" "[B" .null := D15 (Or.inr (hw _ (List.mem_of_getElem? (i := 14) rfl))) (ty := (.array .byte)) (by decide)
        have F_position_b15 : Fld Z h15 b15 "com/example/ronda/ronda/engine/Der" "position" "I" (.int (0 : Int32)) := D15 (Or.inl (hw _ (List.mem_of_getElem? (i := 16) rfl))) (ty := .int) (by decide)
        have F_end_b15 : Fld Z h15 b15 "com/example/ronda/ronda/engine/Der" "end" "I" (.int (0 : Int32)) := D15 (Or.inr (hw _ (List.mem_of_getElem? (i := 18) rfl))) (ty := .int) (by decide)
        refine o_dup G15 at_191 (pc' := 192) rfl rfl ?_
        refine o_aload G15 at_192 (pc' := 194) rfl rfl rfl ?_
        refine o_callI G15 (z := (⟨"com/example/ronda/ronda/engine/Der", "<init>", "([B)V"⟩ : MethodName)) (argsL := [(.ref b7)]) (rest := [(.ref b15)]) (W := 1) (a := b15) rfl (hw _ (List.mem_of_getElem? (i := 4) rfl)) (hw _ (List.mem_of_getElem? (i := 5) rfl)) rfl at_194 (by decide) (hw _ (List.mem_of_getElem? (i := 3) rfl)) (hw _ (List.mem_of_getElem? (i := 6) rfl)) (rm1 hw b15 b7 h15 n0 G15.sz g_b15 A15 F_bytes_b15 F_position_b15 F_end_b15 4 (4 : Int32) rfl _ A_b7) (by decide) (by decide) rfl (lenOf pd_2 rfl) rfl (Nat.le_of_eq rfl) (pc' := 197) rfl (by decide) (by decide) ?_
        rintro _ T16 h16 G16 ⟨rfl, K16, E16, Fa16, Fb16, Fc16⟩
        replace A_b7 := A_b7.keep K16 (ninS ne_b7_b15 nin0)
        replace A15 := A15.keep K16
        show OFin n0 p e below s (fun v _ => v = some (.int 1)) 16 128 T16 (mkF m 197 #[.val (.int p0), .val (.int p1), .val (.int p2), .val (.int p3), .val (.int p4), .val (.int p5), .val (.int v2), .val (.int v3), .val (.int (0 : Int32)), .val (.ref b7), .unset, .unset, .unset, .unset] [(.ref b15)])
        refine o_astore G16 at_197 (pc' := 199) rfl rfl (l' := #[.val (.int p0), .val (.int p1), .val (.int p2), .val (.int p3), .val (.int p4), .val (.int p5), .val (.int v2), .val (.int v3), .val (.int (0 : Int32)), .val (.ref b7), .val (.ref b15), .unset, .unset, .unset]) rfl ?_
        refine o_aload G16 at_199 (pc' := 201) rfl rfl rfl ?_
        refine o_iloadN G16 at_201 (pc' := 202) rfl rfl ?_
        refine o_sipush G16 at_202 (pc' := 205) rfl (v := (255 : Int32)) rfl ?_
        obtain ⟨v17, e17⟩ : ∃ z, p1 &&& (255 : Int32) = z := ⟨_, rfl⟩
        refine o_iand G16 at_205 (pc' := 206) rfl e17 ?_
        have A_n : OArr Z h16 b7 .byte 4 (own_a4 (nar .byte v8) (0 : Int32) (nar .byte v11) (nar .byte v13)) := by
          refine A_b7.congr (fun j hj => ?_)
          match j, hj with
          | 0, _ => rfl
          | 1, _ => rfl
          | 2, _ => rfl
          | 3, _ => rfl
          | j + 4, hj => omega
        refine o_callV G16 (z := (⟨"com/example/ronda/ronda/engine/Der", "next", "(I)Lcom/example/ronda/ronda/engine/Der;"⟩ : MethodName)) (argsL := [(.int v17)]) (rest := []) (W := 0) A15 (hw _ (List.mem_of_getElem? (i := 19) rfl)) (hw _ (List.mem_of_getElem? (i := 21) rfl)) (hw _ (List.mem_of_getElem? (i := 20) rfl)) (hw _ (List.mem_of_getElem? (i := 22) rfl)) at_206 (by decide) (hw _ (List.mem_of_getElem? (i := 3) rfl)) (hw _ (List.mem_of_getElem? (i := 23) rfl)) (rm4 hw b15 v17 h16 n0 G16.sz b7 (nar .byte v8) (0 : Int32) (nar .byte v11) (nar .byte v13) g_b15 ne_b7_b15 A15 Fa16 Fb16 Fc16 A_n (by rw [← e8, ← e17]; exact own_tag _) (by decide) (by decide)) (by decide) (by decide) rfl (lenOf pd_3 rfl) rfl (Nat.le_of_eq rfl) (pc' := 209) rfl (by decide) (by decide) ?_
        rintro _ T18 h18 G18 ⟨b18, rfl, g_b18, sz18, K18, Fx18, Fy18, Fp18, E18, Fa18, Fb18, Fc18⟩
        have ne_b7_b18 : b7 ≠ b18 := Nat.ne_of_lt (Nat.lt_of_lt_of_le A_b7.lt sz18)
        have ne_b15_b18 : b15 ≠ b18 := Nat.ne_of_lt (Nat.lt_of_lt_of_le A15.lt sz18)
        replace A_b7 := A_b7.keep K18 (ninS ne_b7_b15 nin0)
        replace A15 := A15.keep K18
        show OFin n0 p e below s (fun v _ => v = some (.int 1)) 16 128 T18 (mkF m 209 #[.val (.int p0), .val (.int p1), .val (.int p2), .val (.int p3), .val (.int p4), .val (.int p5), .val (.int v2), .val (.int v3), .val (.int (0 : Int32)), .val (.ref b7), .val (.ref b15), .unset, .unset, .unset] [(.ref b18)])
        have Fp18 : Fld Z h18 b15 "com/example/ronda/ronda/engine/Der" "position" "I" (.int (2 : Int32)) := Fp18
        have Fc18 : Fld Z h18 b18 "com/example/ronda/ronda/engine/Der" "end" "I" (.int (2 : Int32)) := Fc18
        refine o_astore G18 at_209 (pc' := 211) rfl rfl (l' := #[.val (.int p0), .val (.int p1), .val (.int p2), .val (.int p3), .val (.int p4), .val (.int p5), .val (.int v2), .val (.int v3), .val (.int (0 : Int32)), .val (.ref b7), .val (.ref b15), .val (.ref b18), .unset, .unset]) rfl ?_
        refine o_iload G18 at_211 (pc' := 213) rfl rfl ?_
        refine o_if_ne G18 at_213 (by decide) (pcT := 224) (by decide) (pc' := 216) rfl (fun q => absurd (by decide) q) (fun _ => ?_)
        refine o_iloadN G18 at_216 (pc' := 217) rfl rfl ?_
        refine o_sipush G18 at_217 (pc' := 220) rfl (v := (255 : Int32)) rfl ?_
        obtain ⟨v19, e19⟩ : ∃ z, p2 &&& (255 : Int32) = z := ⟨_, rfl⟩
        refine o_iand G18 at_220 (pc' := 221) rfl e19 ?_
        refine o_goto G18 at_221 (by decide) (pc' := 229) rfl ?_
        refine o_iload G18 at_229 (pc' := 231) rfl rfl ?_
        refine o_icmp_ne G18 at_231 (by decide) (pcT := 238) (by decide) (pc' := 234) rfl (fun hc231 => ?_) (fun hc231 => ?_)
        · refine o_iconst G18 at_238 (pc' := 239) rfl (v := (0 : Int32)) rfl ?_
          refine o_istore G18 at_239 (pc' := 241) rfl (l' := #[.val (.int p0), .val (.int p1), .val (.int p2), .val (.int p3), .val (.int p4), .val (.int p5), .val (.int v2), .val (.int v3), .val (.int (0 : Int32)), .val (.ref b7), .val (.ref b15), .val (.ref b18), .val (.int (0 : Int32)), .unset]) rfl ?_
          refine o_iload G18 at_241 (pc' := 243) rfl rfl ?_
          refine o_iconst G18 at_243 (pc' := 244) rfl (v := (1 : Int32)) rfl ?_
          refine o_icmp_ne G18 at_244 (by decide) (pcT := 261) (by decide) (pc' := 247) rfl (fun _ => ?_) (fun q => absurd q (by decide))
          refine o_iconst G18 at_261 (pc' := 262) rfl (v := (0 : Int32)) rfl ?_
          refine o_istore G18 at_262 (pc' := 264) rfl (l' := #[.val (.int p0), .val (.int p1), .val (.int p2), .val (.int p3), .val (.int p4), .val (.int p5), .val (.int v2), .val (.int v3), .val (.int (0 : Int32)), .val (.ref b7), .val (.ref b15), .val (.ref b18), .val (.int (0 : Int32)), .val (.int (0 : Int32))]) rfl ?_
          refine o_aload G18 at_264 (pc' := 266) rfl rfl rfl ?_
          refine o_iload G18 at_266 (pc' := 268) rfl rfl ?_
          obtain ⟨v20, e20⟩ : ∃ z, f_5 (2 : Int32) (4 : Int32) (nar .byte v11) v3 = z := ⟨_, rfl⟩
          refine o_callVP G18 (z := (⟨"com/example/ronda/ronda/engine/Der", "nextIs", "(I)Z"⟩ : MethodName)) (argsL := [(.int v3)]) (rest := []) (W := 0) (r := (.int v20)) A15 (hw _ (List.mem_of_getElem? (i := 25) rfl)) (hw _ (List.mem_of_getElem? (i := 27) rfl)) (hw _ (List.mem_of_getElem? (i := 26) rfl)) (hw _ (List.mem_of_getElem? (i := 28) rfl)) at_268 (by decide) (hw _ (List.mem_of_getElem? (i := 3) rfl)) (hw _ (List.mem_of_getElem? (i := 29) rfl)) (by rw [← e20]; exact rm5 hw b15 v3 h18 n0 G18.sz (2 : Int32) (4 : Int32) (nar .byte v11) 4 2 _ b7 A15 Fx18 Fp18 Fy18 A_b7 rfl (fun _ => by decide) (fun _ => rfl)) (by decide) (by decide) rfl (lenOf pd_4 rfl) rfl (Nat.le_of_eq rfl) (pc' := 271) rfl (by decide) (by decide) ?_
          intro T21 G21
          refine o_iload G21 at_271 (pc' := 273) rfl rfl ?_
          refine o_icmp_ne G21 at_273 (by decide) (pcT := 292) (by decide) (pc' := 276) rfl (fun q => absurd (by
                        subst e1 e2 e3 e5 e8 e11 e13 e17 e19 e20
                        rw [own_ni _ _ _ _ (by decide), own_tag, if_neg hc231]) q) (fun _ => ?_)
          refine o_aload G21 at_276 (pc' := 278) rfl rfl rfl ?_
          refine o_iload G21 at_278 (pc' := 280) rfl rfl ?_
          refine o_callVP G21 (z := (⟨"com/example/ronda/ronda/engine/Der", "nextIs", "(I)Z"⟩ : MethodName)) (argsL := [(.int v3)]) (rest := []) (W := 0) (r := (.int (0 : Int32))) E18 (hw _ (List.mem_of_getElem? (i := 25) rfl)) (hw _ (List.mem_of_getElem? (i := 27) rfl)) (hw _ (List.mem_of_getElem? (i := 26) rfl)) (hw _ (List.mem_of_getElem? (i := 28) rfl)) at_280 (by decide) (hw _ (List.mem_of_getElem? (i := 3) rfl)) (hw _ (List.mem_of_getElem? (i := 29) rfl)) (by rw [← own_ni0 (2 : Int32) (2 : Int32) (0 : Int32) v3 (by decide)]; exact rm5 hw b18 v3 h18 n0 G21.sz (2 : Int32) (2 : Int32) (0 : Int32) 4 2 _ b7 E18 Fa18 Fb18 Fc18 A_b7 rfl (fun q => absurd q (by decide)) (fun q => absurd q (by decide))) (by decide) (by decide) rfl (lenOf pd_4 rfl) rfl (Nat.le_of_eq rfl) (pc' := 283) rfl (by decide) (by decide) ?_
          intro T22 G22
          refine o_iload G22 at_283 (pc' := 285) rfl rfl ?_
          refine o_icmp_ne G22 at_285 (by decide) (pcT := 292) (by decide) (pc' := 288) rfl (fun q => absurd (by decide) q) (fun _ => ?_)
          refine o_iconst G22 at_288 (pc' := 289) rfl (v := (1 : Int32)) rfl ?_
          refine o_goto G22 at_289 (by decide) (pc' := 293) rfl ?_
          exact o_nreturn (t := .boolean) G22 (by simp) at_293 rfl (by decide) (by decide)
        · refine o_iconst G18 at_234 (pc' := 235) rfl (v := (1 : Int32)) rfl ?_
          refine o_goto G18 at_235 (by decide) (pc' := 239) rfl ?_
          refine o_istore G18 at_239 (pc' := 241) rfl (l' := #[.val (.int p0), .val (.int p1), .val (.int p2), .val (.int p3), .val (.int p4), .val (.int p5), .val (.int v2), .val (.int v3), .val (.int (0 : Int32)), .val (.ref b7), .val (.ref b15), .val (.ref b18), .val (.int (1 : Int32)), .unset]) rfl ?_
          refine o_iload G18 at_241 (pc' := 243) rfl rfl ?_
          refine o_iconst G18 at_243 (pc' := 244) rfl (v := (1 : Int32)) rfl ?_
          refine o_icmp_ne G18 at_244 (by decide) (pcT := 261) (by decide) (pc' := 247) rfl (fun _ => ?_) (fun q => absurd q (by decide))
          refine o_iconst G18 at_261 (pc' := 262) rfl (v := (0 : Int32)) rfl ?_
          refine o_istore G18 at_262 (pc' := 264) rfl (l' := #[.val (.int p0), .val (.int p1), .val (.int p2), .val (.int p3), .val (.int p4), .val (.int p5), .val (.int v2), .val (.int v3), .val (.int (0 : Int32)), .val (.ref b7), .val (.ref b15), .val (.ref b18), .val (.int (1 : Int32)), .val (.int (0 : Int32))]) rfl ?_
          refine o_aload G18 at_264 (pc' := 266) rfl rfl rfl ?_
          refine o_iload G18 at_266 (pc' := 268) rfl rfl ?_
          obtain ⟨v23, e23⟩ : ∃ z, f_5 (2 : Int32) (4 : Int32) (nar .byte v11) v3 = z := ⟨_, rfl⟩
          refine o_callVP G18 (z := (⟨"com/example/ronda/ronda/engine/Der", "nextIs", "(I)Z"⟩ : MethodName)) (argsL := [(.int v3)]) (rest := []) (W := 0) (r := (.int v23)) A15 (hw _ (List.mem_of_getElem? (i := 25) rfl)) (hw _ (List.mem_of_getElem? (i := 27) rfl)) (hw _ (List.mem_of_getElem? (i := 26) rfl)) (hw _ (List.mem_of_getElem? (i := 28) rfl)) at_268 (by decide) (hw _ (List.mem_of_getElem? (i := 3) rfl)) (hw _ (List.mem_of_getElem? (i := 29) rfl)) (by rw [← e23]; exact rm5 hw b15 v3 h18 n0 G18.sz (2 : Int32) (4 : Int32) (nar .byte v11) 4 2 _ b7 A15 Fx18 Fp18 Fy18 A_b7 rfl (fun _ => by decide) (fun _ => rfl)) (by decide) (by decide) rfl (lenOf pd_4 rfl) rfl (Nat.le_of_eq rfl) (pc' := 271) rfl (by decide) (by decide) ?_
          intro T24 G24
          refine o_iload G24 at_271 (pc' := 273) rfl rfl ?_
          refine o_icmp_ne G24 at_273 (by decide) (pcT := 292) (by decide) (pc' := 276) rfl (fun q => absurd (by
                        subst e1 e2 e3 e5 e8 e11 e13 e17 e19 e23
                        rw [own_ni _ _ _ _ (by decide), own_tag, if_pos hc231]) q) (fun _ => ?_)
          refine o_aload G24 at_276 (pc' := 278) rfl rfl rfl ?_
          refine o_iload G24 at_278 (pc' := 280) rfl rfl ?_
          refine o_callVP G24 (z := (⟨"com/example/ronda/ronda/engine/Der", "nextIs", "(I)Z"⟩ : MethodName)) (argsL := [(.int v3)]) (rest := []) (W := 0) (r := (.int (0 : Int32))) E18 (hw _ (List.mem_of_getElem? (i := 25) rfl)) (hw _ (List.mem_of_getElem? (i := 27) rfl)) (hw _ (List.mem_of_getElem? (i := 26) rfl)) (hw _ (List.mem_of_getElem? (i := 28) rfl)) at_280 (by decide) (hw _ (List.mem_of_getElem? (i := 3) rfl)) (hw _ (List.mem_of_getElem? (i := 29) rfl)) (by rw [← own_ni0 (2 : Int32) (2 : Int32) (0 : Int32) v3 (by decide)]; exact rm5 hw b18 v3 h18 n0 G24.sz (2 : Int32) (2 : Int32) (0 : Int32) 4 2 _ b7 E18 Fa18 Fb18 Fc18 A_b7 rfl (fun q => absurd q (by decide)) (fun q => absurd q (by decide))) (by decide) (by decide) rfl (lenOf pd_4 rfl) rfl (Nat.le_of_eq rfl) (pc' := 283) rfl (by decide) (by decide) ?_
          intro T25 G25
          refine o_iload G25 at_283 (pc' := 285) rfl rfl ?_
          refine o_icmp_ne G25 at_285 (by decide) (pcT := 292) (by decide) (pc' := 288) rfl (fun q => absurd (by decide) q) (fun _ => ?_)
          refine o_iconst G25 at_288 (pc' := 289) rfl (v := (1 : Int32)) rfl ?_
          refine o_goto G25 at_289 (by decide) (pc' := 293) rfl ?_
          exact o_nreturn (t := .boolean) G25 (by simp) at_293 rfl (by decide) (by decide)
      · subst hl
        refine o_iconst G4 at_162 (pc' := 163) rfl (v := (4 : Int32)) rfl ?_
        refine o_newarray G4 (N := 4) (cap := 4) (hw _ (List.mem_of_getElem? (i := 0) rfl)) rfl (by decide) (by decide) at_163 (pc' := 165) rfl (by decide) (by decide) ?_
        intro T26 h26 b26 G26 g26 g_b26 E26 A_b26
        replace A_b26 : OArr Z h26 b26 .byte 4 (fun _ => (.int (0 : Int32))) := A_b26
        refine o_dup G26 at_165 (pc' := 166) rfl rfl ?_
        refine o_iconst G26 at_166 (pc' := 167) rfl (v := (0 : Int32)) rfl ?_
        refine o_iloadN G26 at_167 (pc' := 168) rfl rfl ?_
        obtain ⟨v27, e27⟩ : ∃ z, p1.toInt8.toInt32 = z := ⟨_, rfl⟩
        refine o_i2b G26 at_168 (pc' := 169) rfl e27 ?_
        refine o_bastore G26 A_b26 g_b26 (i := 0) rfl (by decide) at_169 (pc' := 170) rfl ?_
        intro T28 h28 G28 W28 A28
        replace A_b26 := A28
        refine o_dup G28 at_170 (pc' := 171) rfl rfl ?_
        refine o_iconst G28 at_171 (pc' := 172) rfl (v := (1 : Int32)) rfl ?_
        refine o_iload G28 at_172 (pc' := 174) rfl rfl ?_
        refine o_i2b G28 at_174 (pc' := 175) rfl (v := (1 : Int32)) (by decide) ?_
        refine o_bastore G28 A_b26 g_b26 (i := 1) rfl (by decide) at_175 (pc' := 176) rfl ?_
        intro T29 h29 G29 W29 A29
        replace A_b26 := A29
        refine o_dup G29 at_176 (pc' := 177) rfl rfl ?_
        refine o_iconst G29 at_177 (pc' := 178) rfl (v := (2 : Int32)) rfl ?_
        refine o_iloadN G29 at_178 (pc' := 179) rfl rfl ?_
        obtain ⟨v30, e30⟩ : ∃ z, p2.toInt8.toInt32 = z := ⟨_, rfl⟩
        refine o_i2b G29 at_179 (pc' := 180) rfl e30 ?_
        refine o_bastore G29 A_b26 g_b26 (i := 2) rfl (by decide) at_180 (pc' := 181) rfl ?_
        intro T31 h31 G31 W31 A31
        replace A_b26 := A31
        refine o_dup G31 at_181 (pc' := 182) rfl rfl ?_
        refine o_iconst G31 at_182 (pc' := 183) rfl (v := (3 : Int32)) rfl ?_
        refine o_iloadN G31 at_183 (pc' := 184) rfl rfl ?_
        obtain ⟨v32, e32⟩ : ∃ z, p3.toInt8.toInt32 = z := ⟨_, rfl⟩
        refine o_i2b G31 at_184 (pc' := 185) rfl e32 ?_
        refine o_bastore G31 A_b26 g_b26 (i := 3) rfl (by decide) at_185 (pc' := 186) rfl ?_
        intro T33 h33 G33 W33 A33
        replace A_b26 := A33
        refine o_astore G33 at_186 (pc' := 188) rfl rfl (l' := #[.val (.int p0), .val (.int p1), .val (.int p2), .val (.int p3), .val (.int p4), .val (.int p5), .val (.int v2), .val (.int v3), .val (.int (1 : Int32)), .val (.ref b26), .unset, .unset, .unset, .unset]) rfl ?_
        refine o_new G33 (hw _ (List.mem_of_getElem? (i := 1) rfl)) (hw _ (List.mem_of_getElem? (i := 2) rfl)) (hw _ (List.mem_of_getElem? (i := 3) rfl)) at_188 (pc' := 191) rfl (by decide) (by decide) ?_
        intro T34 h34 b34 G34 g34 g_b34 E34 A34 D34
        have ne_b26_b34 : b26 ≠ b34 := Nat.ne_of_lt (Nat.lt_of_lt_of_eq A_b26.lt g34.symm)
        replace A_b26 := A_b26.ext E34
        have F_bytes_b34 : Fld Z h34 b34 "com/example/ronda/ronda/engine/Der" "bytes" "[B" .null := D34 (Or.inr (hw _ (List.mem_of_getElem? (i := 14) rfl))) (ty := (.array .byte)) (by decide)
        have F_position_b34 : Fld Z h34 b34 "com/example/ronda/ronda/engine/Der" "position" "I" (.int (0 : Int32)) := D34 (Or.inl (hw _ (List.mem_of_getElem? (i := 16) rfl))) (ty := .int) (by decide)
        have F_end_b34 : Fld Z h34 b34 "com/example/ronda/ronda/engine/Der" "end" "I" (.int (0 : Int32)) := D34 (Or.inr (hw _ (List.mem_of_getElem? (i := 18) rfl))) (ty := .int) (by decide)
        refine o_dup G34 at_191 (pc' := 192) rfl rfl ?_
        refine o_aload G34 at_192 (pc' := 194) rfl rfl rfl ?_
        refine o_callI G34 (z := (⟨"com/example/ronda/ronda/engine/Der", "<init>", "([B)V"⟩ : MethodName)) (argsL := [(.ref b26)]) (rest := [(.ref b34)]) (W := 1) (a := b34) rfl (hw _ (List.mem_of_getElem? (i := 4) rfl)) (hw _ (List.mem_of_getElem? (i := 5) rfl)) rfl at_194 (by decide) (hw _ (List.mem_of_getElem? (i := 3) rfl)) (hw _ (List.mem_of_getElem? (i := 6) rfl)) (rm1 hw b34 b26 h34 n0 G34.sz g_b34 A34 F_bytes_b34 F_position_b34 F_end_b34 4 (4 : Int32) rfl _ A_b26) (by decide) (by decide) rfl (lenOf pd_2 rfl) rfl (Nat.le_of_eq rfl) (pc' := 197) rfl (by decide) (by decide) ?_
        rintro _ T35 h35 G35 ⟨rfl, K35, E35, Fa35, Fb35, Fc35⟩
        replace A_b26 := A_b26.keep K35 (ninS ne_b26_b34 nin0)
        replace A34 := A34.keep K35
        show OFin n0 p e below s (fun v _ => v = some (.int 1)) 16 128 T35 (mkF m 197 #[.val (.int p0), .val (.int p1), .val (.int p2), .val (.int p3), .val (.int p4), .val (.int p5), .val (.int v2), .val (.int v3), .val (.int (1 : Int32)), .val (.ref b26), .unset, .unset, .unset, .unset] [(.ref b34)])
        refine o_astore G35 at_197 (pc' := 199) rfl rfl (l' := #[.val (.int p0), .val (.int p1), .val (.int p2), .val (.int p3), .val (.int p4), .val (.int p5), .val (.int v2), .val (.int v3), .val (.int (1 : Int32)), .val (.ref b26), .val (.ref b34), .unset, .unset, .unset]) rfl ?_
        refine o_aload G35 at_199 (pc' := 201) rfl rfl rfl ?_
        refine o_iloadN G35 at_201 (pc' := 202) rfl rfl ?_
        refine o_sipush G35 at_202 (pc' := 205) rfl (v := (255 : Int32)) rfl ?_
        obtain ⟨v36, e36⟩ : ∃ z, p1 &&& (255 : Int32) = z := ⟨_, rfl⟩
        refine o_iand G35 at_205 (pc' := 206) rfl e36 ?_
        have A_n : OArr Z h35 b26 .byte 4 (own_a4 (nar .byte v27) (1 : Int32) (nar .byte v30) (nar .byte v32)) := by
          refine A_b26.congr (fun j hj => ?_)
          match j, hj with
          | 0, _ => rfl
          | 1, _ => rfl
          | 2, _ => rfl
          | 3, _ => rfl
          | j + 4, hj => omega
        refine o_callV G35 (z := (⟨"com/example/ronda/ronda/engine/Der", "next", "(I)Lcom/example/ronda/ronda/engine/Der;"⟩ : MethodName)) (argsL := [(.int v36)]) (rest := []) (W := 0) A34 (hw _ (List.mem_of_getElem? (i := 19) rfl)) (hw _ (List.mem_of_getElem? (i := 21) rfl)) (hw _ (List.mem_of_getElem? (i := 20) rfl)) (hw _ (List.mem_of_getElem? (i := 22) rfl)) at_206 (by decide) (hw _ (List.mem_of_getElem? (i := 3) rfl)) (hw _ (List.mem_of_getElem? (i := 23) rfl)) (rm4 hw b34 v36 h35 n0 G35.sz b26 (nar .byte v27) (1 : Int32) (nar .byte v30) (nar .byte v32) g_b34 ne_b26_b34 A34 Fa35 Fb35 Fc35 A_n (by rw [← e27, ← e36]; exact own_tag _) (by decide) (by decide)) (by decide) (by decide) rfl (lenOf pd_3 rfl) rfl (Nat.le_of_eq rfl) (pc' := 209) rfl (by decide) (by decide) ?_
        rintro _ T37 h37 G37 ⟨b37, rfl, g_b37, sz37, K37, Fx37, Fy37, Fp37, E37, Fa37, Fb37, Fc37⟩
        have ne_b26_b37 : b26 ≠ b37 := Nat.ne_of_lt (Nat.lt_of_lt_of_le A_b26.lt sz37)
        have ne_b34_b37 : b34 ≠ b37 := Nat.ne_of_lt (Nat.lt_of_lt_of_le A34.lt sz37)
        replace A_b26 := A_b26.keep K37 (ninS ne_b26_b34 nin0)
        replace A34 := A34.keep K37
        show OFin n0 p e below s (fun v _ => v = some (.int 1)) 16 128 T37 (mkF m 209 #[.val (.int p0), .val (.int p1), .val (.int p2), .val (.int p3), .val (.int p4), .val (.int p5), .val (.int v2), .val (.int v3), .val (.int (1 : Int32)), .val (.ref b26), .val (.ref b34), .unset, .unset, .unset] [(.ref b37)])
        have Fp37 : Fld Z h37 b34 "com/example/ronda/ronda/engine/Der" "position" "I" (.int (3 : Int32)) := Fp37
        have Fc37 : Fld Z h37 b37 "com/example/ronda/ronda/engine/Der" "end" "I" (.int (3 : Int32)) := Fc37
        refine o_astore G37 at_209 (pc' := 211) rfl rfl (l' := #[.val (.int p0), .val (.int p1), .val (.int p2), .val (.int p3), .val (.int p4), .val (.int p5), .val (.int v2), .val (.int v3), .val (.int (1 : Int32)), .val (.ref b26), .val (.ref b34), .val (.ref b37), .unset, .unset]) rfl ?_
        refine o_iload G37 at_211 (pc' := 213) rfl rfl ?_
        refine o_if_ne G37 at_213 (by decide) (pcT := 224) (by decide) (pc' := 216) rfl (fun _ => ?_) (fun q => absurd q (by decide))
        refine o_iloadN G37 at_224 (pc' := 225) rfl rfl ?_
        refine o_sipush G37 at_225 (pc' := 228) rfl (v := (255 : Int32)) rfl ?_
        obtain ⟨v38, e38⟩ : ∃ z, p3 &&& (255 : Int32) = z := ⟨_, rfl⟩
        refine o_iand G37 at_228 (pc' := 229) rfl e38 ?_
        refine o_iload G37 at_229 (pc' := 231) rfl rfl ?_
        refine o_icmp_ne G37 at_231 (by decide) (pcT := 238) (by decide) (pc' := 234) rfl (fun hc231 => ?_) (fun hc231 => ?_)
        · refine o_iconst G37 at_238 (pc' := 239) rfl (v := (0 : Int32)) rfl ?_
          refine o_istore G37 at_239 (pc' := 241) rfl (l' := #[.val (.int p0), .val (.int p1), .val (.int p2), .val (.int p3), .val (.int p4), .val (.int p5), .val (.int v2), .val (.int v3), .val (.int (1 : Int32)), .val (.ref b26), .val (.ref b34), .val (.ref b37), .val (.int (0 : Int32)), .unset]) rfl ?_
          refine o_iload G37 at_241 (pc' := 243) rfl rfl ?_
          refine o_iconst G37 at_243 (pc' := 244) rfl (v := (1 : Int32)) rfl ?_
          refine o_icmp_ne G37 at_244 (by decide) (pcT := 261) (by decide) (pc' := 247) rfl (fun q => absurd (by decide) q) (fun _ => ?_)
          refine o_iloadN G37 at_247 (pc' := 248) rfl rfl ?_
          refine o_sipush G37 at_248 (pc' := 251) rfl (v := (255 : Int32)) rfl ?_
          obtain ⟨v39, e39⟩ : ∃ z, p2 &&& (255 : Int32) = z := ⟨_, rfl⟩
          refine o_iand G37 at_251 (pc' := 252) rfl e39 ?_
          refine o_iload G37 at_252 (pc' := 254) rfl rfl ?_
          refine o_icmp_ne G37 at_254 (by decide) (pcT := 261) (by decide) (pc' := 257) rfl (fun hc254 => ?_) (fun hc254 => ?_)
          · refine o_iconst G37 at_261 (pc' := 262) rfl (v := (0 : Int32)) rfl ?_
            refine o_istore G37 at_262 (pc' := 264) rfl (l' := #[.val (.int p0), .val (.int p1), .val (.int p2), .val (.int p3), .val (.int p4), .val (.int p5), .val (.int v2), .val (.int v3), .val (.int (1 : Int32)), .val (.ref b26), .val (.ref b34), .val (.ref b37), .val (.int (0 : Int32)), .val (.int (0 : Int32))]) rfl ?_
            refine o_aload G37 at_264 (pc' := 266) rfl rfl rfl ?_
            refine o_iload G37 at_266 (pc' := 268) rfl rfl ?_
            obtain ⟨v40, e40⟩ : ∃ z, f_5 (3 : Int32) (4 : Int32) (nar .byte v32) v3 = z := ⟨_, rfl⟩
            refine o_callVP G37 (z := (⟨"com/example/ronda/ronda/engine/Der", "nextIs", "(I)Z"⟩ : MethodName)) (argsL := [(.int v3)]) (rest := []) (W := 0) (r := (.int v40)) A34 (hw _ (List.mem_of_getElem? (i := 25) rfl)) (hw _ (List.mem_of_getElem? (i := 27) rfl)) (hw _ (List.mem_of_getElem? (i := 26) rfl)) (hw _ (List.mem_of_getElem? (i := 28) rfl)) at_268 (by decide) (hw _ (List.mem_of_getElem? (i := 3) rfl)) (hw _ (List.mem_of_getElem? (i := 29) rfl)) (by rw [← e40]; exact rm5 hw b34 v3 h37 n0 G37.sz (3 : Int32) (4 : Int32) (nar .byte v32) 4 3 _ b26 A34 Fx37 Fp37 Fy37 A_b26 rfl (fun _ => by decide) (fun _ => rfl)) (by decide) (by decide) rfl (lenOf pd_4 rfl) rfl (Nat.le_of_eq rfl) (pc' := 271) rfl (by decide) (by decide) ?_
            intro T41 G41
            refine o_iload G41 at_271 (pc' := 273) rfl rfl ?_
            refine o_icmp_ne G41 at_273 (by decide) (pcT := 292) (by decide) (pc' := 276) rfl (fun q => absurd (by
                            subst e1 e2 e3 e5 e27 e30 e32 e36 e38 e39 e40
                            rw [own_ni _ _ _ _ (by decide), own_tag, if_neg hc231]) q) (fun _ => ?_)
            refine o_aload G41 at_276 (pc' := 278) rfl rfl rfl ?_
            refine o_iload G41 at_278 (pc' := 280) rfl rfl ?_
            obtain ⟨v42, e42⟩ : ∃ z, f_5 (2 : Int32) (3 : Int32) (nar .byte v30) v3 = z := ⟨_, rfl⟩
            refine o_callVP G41 (z := (⟨"com/example/ronda/ronda/engine/Der", "nextIs", "(I)Z"⟩ : MethodName)) (argsL := [(.int v3)]) (rest := []) (W := 0) (r := (.int v42)) E37 (hw _ (List.mem_of_getElem? (i := 25) rfl)) (hw _ (List.mem_of_getElem? (i := 27) rfl)) (hw _ (List.mem_of_getElem? (i := 26) rfl)) (hw _ (List.mem_of_getElem? (i := 28) rfl)) at_280 (by decide) (hw _ (List.mem_of_getElem? (i := 3) rfl)) (hw _ (List.mem_of_getElem? (i := 29) rfl)) (by rw [← e42]; exact rm5 hw b37 v3 h37 n0 G41.sz (2 : Int32) (3 : Int32) (nar .byte v30) 4 2 _ b26 E37 Fa37 Fb37 Fc37 A_b26 rfl (fun _ => by decide) (fun _ => rfl)) (by decide) (by decide) rfl (lenOf pd_4 rfl) rfl (Nat.le_of_eq rfl) (pc' := 283) rfl (by decide) (by decide) ?_
            intro T43 G43
            refine o_iload G43 at_283 (pc' := 285) rfl rfl ?_
            refine o_icmp_ne G43 at_285 (by decide) (pcT := 292) (by decide) (pc' := 288) rfl (fun q => absurd (by
                            subst e1 e2 e3 e5 e27 e30 e32 e36 e38 e39 e40 e42
                            rw [own_ni _ _ _ _ (by decide), own_tag, if_neg hc254]) q) (fun _ => ?_)
            refine o_iconst G43 at_288 (pc' := 289) rfl (v := (1 : Int32)) rfl ?_
            refine o_goto G43 at_289 (by decide) (pc' := 293) rfl ?_
            exact o_nreturn (t := .boolean) G43 (by simp) at_293 rfl (by decide) (by decide)
          · refine o_iconst G37 at_257 (pc' := 258) rfl (v := (1 : Int32)) rfl ?_
            refine o_goto G37 at_258 (by decide) (pc' := 262) rfl ?_
            refine o_istore G37 at_262 (pc' := 264) rfl (l' := #[.val (.int p0), .val (.int p1), .val (.int p2), .val (.int p3), .val (.int p4), .val (.int p5), .val (.int v2), .val (.int v3), .val (.int (1 : Int32)), .val (.ref b26), .val (.ref b34), .val (.ref b37), .val (.int (0 : Int32)), .val (.int (1 : Int32))]) rfl ?_
            refine o_aload G37 at_264 (pc' := 266) rfl rfl rfl ?_
            refine o_iload G37 at_266 (pc' := 268) rfl rfl ?_
            obtain ⟨v44, e44⟩ : ∃ z, f_5 (3 : Int32) (4 : Int32) (nar .byte v32) v3 = z := ⟨_, rfl⟩
            refine o_callVP G37 (z := (⟨"com/example/ronda/ronda/engine/Der", "nextIs", "(I)Z"⟩ : MethodName)) (argsL := [(.int v3)]) (rest := []) (W := 0) (r := (.int v44)) A34 (hw _ (List.mem_of_getElem? (i := 25) rfl)) (hw _ (List.mem_of_getElem? (i := 27) rfl)) (hw _ (List.mem_of_getElem? (i := 26) rfl)) (hw _ (List.mem_of_getElem? (i := 28) rfl)) at_268 (by decide) (hw _ (List.mem_of_getElem? (i := 3) rfl)) (hw _ (List.mem_of_getElem? (i := 29) rfl)) (by rw [← e44]; exact rm5 hw b34 v3 h37 n0 G37.sz (3 : Int32) (4 : Int32) (nar .byte v32) 4 3 _ b26 A34 Fx37 Fp37 Fy37 A_b26 rfl (fun _ => by decide) (fun _ => rfl)) (by decide) (by decide) rfl (lenOf pd_4 rfl) rfl (Nat.le_of_eq rfl) (pc' := 271) rfl (by decide) (by decide) ?_
            intro T45 G45
            refine o_iload G45 at_271 (pc' := 273) rfl rfl ?_
            refine o_icmp_ne G45 at_273 (by decide) (pcT := 292) (by decide) (pc' := 276) rfl (fun q => absurd (by
                            subst e1 e2 e3 e5 e27 e30 e32 e36 e38 e39 e44
                            rw [own_ni _ _ _ _ (by decide), own_tag, if_neg hc231]) q) (fun _ => ?_)
            refine o_aload G45 at_276 (pc' := 278) rfl rfl rfl ?_
            refine o_iload G45 at_278 (pc' := 280) rfl rfl ?_
            obtain ⟨v46, e46⟩ : ∃ z, f_5 (2 : Int32) (3 : Int32) (nar .byte v30) v3 = z := ⟨_, rfl⟩
            refine o_callVP G45 (z := (⟨"com/example/ronda/ronda/engine/Der", "nextIs", "(I)Z"⟩ : MethodName)) (argsL := [(.int v3)]) (rest := []) (W := 0) (r := (.int v46)) E37 (hw _ (List.mem_of_getElem? (i := 25) rfl)) (hw _ (List.mem_of_getElem? (i := 27) rfl)) (hw _ (List.mem_of_getElem? (i := 26) rfl)) (hw _ (List.mem_of_getElem? (i := 28) rfl)) at_280 (by decide) (hw _ (List.mem_of_getElem? (i := 3) rfl)) (hw _ (List.mem_of_getElem? (i := 29) rfl)) (by rw [← e46]; exact rm5 hw b37 v3 h37 n0 G45.sz (2 : Int32) (3 : Int32) (nar .byte v30) 4 2 _ b26 E37 Fa37 Fb37 Fc37 A_b26 rfl (fun _ => by decide) (fun _ => rfl)) (by decide) (by decide) rfl (lenOf pd_4 rfl) rfl (Nat.le_of_eq rfl) (pc' := 283) rfl (by decide) (by decide) ?_
            intro T47 G47
            refine o_iload G47 at_283 (pc' := 285) rfl rfl ?_
            refine o_icmp_ne G47 at_285 (by decide) (pcT := 292) (by decide) (pc' := 288) rfl (fun q => absurd (by
                            subst e1 e2 e3 e5 e27 e30 e32 e36 e38 e39 e44 e46
                            rw [own_ni _ _ _ _ (by decide), own_tag, if_pos hc254]) q) (fun _ => ?_)
            refine o_iconst G47 at_288 (pc' := 289) rfl (v := (1 : Int32)) rfl ?_
            refine o_goto G47 at_289 (by decide) (pc' := 293) rfl ?_
            exact o_nreturn (t := .boolean) G47 (by simp) at_293 rfl (by decide) (by decide)
        · refine o_iconst G37 at_234 (pc' := 235) rfl (v := (1 : Int32)) rfl ?_
          refine o_goto G37 at_235 (by decide) (pc' := 239) rfl ?_
          refine o_istore G37 at_239 (pc' := 241) rfl (l' := #[.val (.int p0), .val (.int p1), .val (.int p2), .val (.int p3), .val (.int p4), .val (.int p5), .val (.int v2), .val (.int v3), .val (.int (1 : Int32)), .val (.ref b26), .val (.ref b34), .val (.ref b37), .val (.int (1 : Int32)), .unset]) rfl ?_
          refine o_iload G37 at_241 (pc' := 243) rfl rfl ?_
          refine o_iconst G37 at_243 (pc' := 244) rfl (v := (1 : Int32)) rfl ?_
          refine o_icmp_ne G37 at_244 (by decide) (pcT := 261) (by decide) (pc' := 247) rfl (fun q => absurd (by decide) q) (fun _ => ?_)
          refine o_iloadN G37 at_247 (pc' := 248) rfl rfl ?_
          refine o_sipush G37 at_248 (pc' := 251) rfl (v := (255 : Int32)) rfl ?_
          obtain ⟨v48, e48⟩ : ∃ z, p2 &&& (255 : Int32) = z := ⟨_, rfl⟩
          refine o_iand G37 at_251 (pc' := 252) rfl e48 ?_
          refine o_iload G37 at_252 (pc' := 254) rfl rfl ?_
          refine o_icmp_ne G37 at_254 (by decide) (pcT := 261) (by decide) (pc' := 257) rfl (fun hc254 => ?_) (fun hc254 => ?_)
          · refine o_iconst G37 at_261 (pc' := 262) rfl (v := (0 : Int32)) rfl ?_
            refine o_istore G37 at_262 (pc' := 264) rfl (l' := #[.val (.int p0), .val (.int p1), .val (.int p2), .val (.int p3), .val (.int p4), .val (.int p5), .val (.int v2), .val (.int v3), .val (.int (1 : Int32)), .val (.ref b26), .val (.ref b34), .val (.ref b37), .val (.int (1 : Int32)), .val (.int (0 : Int32))]) rfl ?_
            refine o_aload G37 at_264 (pc' := 266) rfl rfl rfl ?_
            refine o_iload G37 at_266 (pc' := 268) rfl rfl ?_
            obtain ⟨v49, e49⟩ : ∃ z, f_5 (3 : Int32) (4 : Int32) (nar .byte v32) v3 = z := ⟨_, rfl⟩
            refine o_callVP G37 (z := (⟨"com/example/ronda/ronda/engine/Der", "nextIs", "(I)Z"⟩ : MethodName)) (argsL := [(.int v3)]) (rest := []) (W := 0) (r := (.int v49)) A34 (hw _ (List.mem_of_getElem? (i := 25) rfl)) (hw _ (List.mem_of_getElem? (i := 27) rfl)) (hw _ (List.mem_of_getElem? (i := 26) rfl)) (hw _ (List.mem_of_getElem? (i := 28) rfl)) at_268 (by decide) (hw _ (List.mem_of_getElem? (i := 3) rfl)) (hw _ (List.mem_of_getElem? (i := 29) rfl)) (by rw [← e49]; exact rm5 hw b34 v3 h37 n0 G37.sz (3 : Int32) (4 : Int32) (nar .byte v32) 4 3 _ b26 A34 Fx37 Fp37 Fy37 A_b26 rfl (fun _ => by decide) (fun _ => rfl)) (by decide) (by decide) rfl (lenOf pd_4 rfl) rfl (Nat.le_of_eq rfl) (pc' := 271) rfl (by decide) (by decide) ?_
            intro T50 G50
            refine o_iload G50 at_271 (pc' := 273) rfl rfl ?_
            refine o_icmp_ne G50 at_273 (by decide) (pcT := 292) (by decide) (pc' := 276) rfl (fun q => absurd (by
                            subst e1 e2 e3 e5 e27 e30 e32 e36 e38 e48 e49
                            rw [own_ni _ _ _ _ (by decide), own_tag, if_pos hc231]) q) (fun _ => ?_)
            refine o_aload G50 at_276 (pc' := 278) rfl rfl rfl ?_
            refine o_iload G50 at_278 (pc' := 280) rfl rfl ?_
            obtain ⟨v51, e51⟩ : ∃ z, f_5 (2 : Int32) (3 : Int32) (nar .byte v30) v3 = z := ⟨_, rfl⟩
            refine o_callVP G50 (z := (⟨"com/example/ronda/ronda/engine/Der", "nextIs", "(I)Z"⟩ : MethodName)) (argsL := [(.int v3)]) (rest := []) (W := 0) (r := (.int v51)) E37 (hw _ (List.mem_of_getElem? (i := 25) rfl)) (hw _ (List.mem_of_getElem? (i := 27) rfl)) (hw _ (List.mem_of_getElem? (i := 26) rfl)) (hw _ (List.mem_of_getElem? (i := 28) rfl)) at_280 (by decide) (hw _ (List.mem_of_getElem? (i := 3) rfl)) (hw _ (List.mem_of_getElem? (i := 29) rfl)) (by rw [← e51]; exact rm5 hw b37 v3 h37 n0 G50.sz (2 : Int32) (3 : Int32) (nar .byte v30) 4 2 _ b26 E37 Fa37 Fb37 Fc37 A_b26 rfl (fun _ => by decide) (fun _ => rfl)) (by decide) (by decide) rfl (lenOf pd_4 rfl) rfl (Nat.le_of_eq rfl) (pc' := 283) rfl (by decide) (by decide) ?_
            intro T52 G52
            refine o_iload G52 at_283 (pc' := 285) rfl rfl ?_
            refine o_icmp_ne G52 at_285 (by decide) (pcT := 292) (by decide) (pc' := 288) rfl (fun q => absurd (by
                            subst e1 e2 e3 e5 e27 e30 e32 e36 e38 e48 e49 e51
                            rw [own_ni _ _ _ _ (by decide), own_tag, if_neg hc254]) q) (fun _ => ?_)
            refine o_iconst G52 at_288 (pc' := 289) rfl (v := (1 : Int32)) rfl ?_
            refine o_goto G52 at_289 (by decide) (pc' := 293) rfl ?_
            exact o_nreturn (t := .boolean) G52 (by simp) at_293 rfl (by decide) (by decide)
          · refine o_iconst G37 at_257 (pc' := 258) rfl (v := (1 : Int32)) rfl ?_
            refine o_goto G37 at_258 (by decide) (pc' := 262) rfl ?_
            refine o_istore G37 at_262 (pc' := 264) rfl (l' := #[.val (.int p0), .val (.int p1), .val (.int p2), .val (.int p3), .val (.int p4), .val (.int p5), .val (.int v2), .val (.int v3), .val (.int (1 : Int32)), .val (.ref b26), .val (.ref b34), .val (.ref b37), .val (.int (1 : Int32)), .val (.int (1 : Int32))]) rfl ?_
            refine o_aload G37 at_264 (pc' := 266) rfl rfl rfl ?_
            refine o_iload G37 at_266 (pc' := 268) rfl rfl ?_
            obtain ⟨v53, e53⟩ : ∃ z, f_5 (3 : Int32) (4 : Int32) (nar .byte v32) v3 = z := ⟨_, rfl⟩
            refine o_callVP G37 (z := (⟨"com/example/ronda/ronda/engine/Der", "nextIs", "(I)Z"⟩ : MethodName)) (argsL := [(.int v3)]) (rest := []) (W := 0) (r := (.int v53)) A34 (hw _ (List.mem_of_getElem? (i := 25) rfl)) (hw _ (List.mem_of_getElem? (i := 27) rfl)) (hw _ (List.mem_of_getElem? (i := 26) rfl)) (hw _ (List.mem_of_getElem? (i := 28) rfl)) at_268 (by decide) (hw _ (List.mem_of_getElem? (i := 3) rfl)) (hw _ (List.mem_of_getElem? (i := 29) rfl)) (by rw [← e53]; exact rm5 hw b34 v3 h37 n0 G37.sz (3 : Int32) (4 : Int32) (nar .byte v32) 4 3 _ b26 A34 Fx37 Fp37 Fy37 A_b26 rfl (fun _ => by decide) (fun _ => rfl)) (by decide) (by decide) rfl (lenOf pd_4 rfl) rfl (Nat.le_of_eq rfl) (pc' := 271) rfl (by decide) (by decide) ?_
            intro T54 G54
            refine o_iload G54 at_271 (pc' := 273) rfl rfl ?_
            refine o_icmp_ne G54 at_273 (by decide) (pcT := 292) (by decide) (pc' := 276) rfl (fun q => absurd (by
                            subst e1 e2 e3 e5 e27 e30 e32 e36 e38 e48 e53
                            rw [own_ni _ _ _ _ (by decide), own_tag, if_pos hc231]) q) (fun _ => ?_)
            refine o_aload G54 at_276 (pc' := 278) rfl rfl rfl ?_
            refine o_iload G54 at_278 (pc' := 280) rfl rfl ?_
            obtain ⟨v55, e55⟩ : ∃ z, f_5 (2 : Int32) (3 : Int32) (nar .byte v30) v3 = z := ⟨_, rfl⟩
            refine o_callVP G54 (z := (⟨"com/example/ronda/ronda/engine/Der", "nextIs", "(I)Z"⟩ : MethodName)) (argsL := [(.int v3)]) (rest := []) (W := 0) (r := (.int v55)) E37 (hw _ (List.mem_of_getElem? (i := 25) rfl)) (hw _ (List.mem_of_getElem? (i := 27) rfl)) (hw _ (List.mem_of_getElem? (i := 26) rfl)) (hw _ (List.mem_of_getElem? (i := 28) rfl)) at_280 (by decide) (hw _ (List.mem_of_getElem? (i := 3) rfl)) (hw _ (List.mem_of_getElem? (i := 29) rfl)) (by rw [← e55]; exact rm5 hw b37 v3 h37 n0 G54.sz (2 : Int32) (3 : Int32) (nar .byte v30) 4 2 _ b26 E37 Fa37 Fb37 Fc37 A_b26 rfl (fun _ => by decide) (fun _ => rfl)) (by decide) (by decide) rfl (lenOf pd_4 rfl) rfl (Nat.le_of_eq rfl) (pc' := 283) rfl (by decide) (by decide) ?_
            intro T56 G56
            refine o_iload G56 at_283 (pc' := 285) rfl rfl ?_
            refine o_icmp_ne G56 at_285 (by decide) (pcT := 292) (by decide) (pc' := 288) rfl (fun q => absurd (by
                            subst e1 e2 e3 e5 e27 e30 e32 e36 e38 e48 e53 e55
                            rw [own_ni _ _ _ _ (by decide), own_tag, if_pos hc254]) q) (fun _ => ?_)
            refine o_iconst G56 at_288 (pc' := 289) rfl (v := (1 : Int32)) rfl ?_
            refine o_goto G56 at_289 (by decide) (pc' := 293) rfl ?_
            exact o_nreturn (t := .boolean) G56 (by simp) at_293 rfl (by decide) (by decide)
    · refine o_iloadN G4 at_60 (pc' := 61) rfl rfl ?_
      refine o_iconst G4 at_61 (pc' := 62) rfl (v := (3 : Int32)) rfl ?_
      obtain ⟨v57, e57⟩ : ∃ z, p0 &&& (3 : Int32) = z := ⟨_, rfl⟩
      refine o_iand G4 at_62 (pc' := 63) rfl e57 ?_
      refine o_istore G4 at_63 (pc' := 65) rfl (l' := #[.val (.int p0), .val (.int p1), .val (.int p2), .val (.int p3), .val (.int p4), .val (.int p5), .val (.int v2), .val (.int v3), .val (.int v57), .unset, .unset, .unset, .unset, .unset]) rfl ?_
      have hlen : v57 = (0 : Int32) ∨ v57 = (1 : Int32) ∨ v57 = (2 : Int32) ∨ v57 = (3 : Int32) := by
        rw [← e57]; exact own_k3 _
      rcases hlen with hl | hl | hl | hl
      · subst hl
        refine o_iload G4 at_65 (pc' := 67) rfl rfl ?_
        refine o_newarray G4 (N := 0) (cap := 0) (hw _ (List.mem_of_getElem? (i := 0) rfl)) rfl (by decide) (by decide) at_67 (pc' := 69) rfl (by decide) (by decide) ?_
        intro T58 h58 b58 G58 g58 g_b58 E58 A_b58
        replace A_b58 : OArr Z h58 b58 .byte 0 (fun _ => (.int (0 : Int32))) := A_b58
        refine o_astore G58 at_69 (pc' := 71) rfl rfl (l' := #[.val (.int p0), .val (.int p1), .val (.int p2), .val (.int p3), .val (.int p4), .val (.int p5), .val (.int v2), .val (.int v3), .val (.int (0 : Int32)), .val (.ref b58), .unset, .unset, .unset, .unset]) rfl ?_
        refine o_iload G58 at_71 (pc' := 73) rfl rfl ?_
        refine o_if_le G58 at_73 (by decide) (pcT := 82) (by decide) (pc' := 76) rfl (fun _ => ?_) (fun q => absurd q (by decide))
        refine o_iload G58 at_82 (pc' := 84) rfl rfl ?_
        refine o_iconst G58 at_84 (pc' := 85) rfl (v := (1 : Int32)) rfl ?_
        refine o_icmp_le G58 at_85 (by decide) (pcT := 94) (by decide) (pc' := 88) rfl (fun _ => ?_) (fun q => absurd q (by decide))
        refine o_iload G58 at_94 (pc' := 96) rfl rfl ?_
        refine o_iconst G58 at_96 (pc' := 97) rfl (v := (2 : Int32)) rfl ?_
        refine o_icmp_le G58 at_97 (by decide) (pcT := 106) (by decide) (pc' := 100) rfl (fun _ => ?_) (fun q => absurd q (by decide))
        refine o_new G58 (hw _ (List.mem_of_getElem? (i := 1) rfl)) (hw _ (List.mem_of_getElem? (i := 2) rfl)) (hw _ (List.mem_of_getElem? (i := 3) rfl)) at_106 (pc' := 109) rfl (by decide) (by decide) ?_
        intro T59 h59 b59 G59 g59 g_b59 E59 A59 D59
        have ne_b58_b59 : b58 ≠ b59 := Nat.ne_of_lt (Nat.lt_of_lt_of_eq A_b58.lt g59.symm)
        replace A_b58 := A_b58.ext E59
        have F_bytes_b59 : Fld Z h59 b59 "com/example/ronda/ronda/engine/Der" "bytes" "[B" .null := D59 (Or.inr (hw _ (List.mem_of_getElem? (i := 14) rfl))) (ty := (.array .byte)) (by decide)
        have F_position_b59 : Fld Z h59 b59 "com/example/ronda/ronda/engine/Der" "position" "I" (.int (0 : Int32)) := D59 (Or.inl (hw _ (List.mem_of_getElem? (i := 16) rfl))) (ty := .int) (by decide)
        have F_end_b59 : Fld Z h59 b59 "com/example/ronda/ronda/engine/Der" "end" "I" (.int (0 : Int32)) := D59 (Or.inr (hw _ (List.mem_of_getElem? (i := 18) rfl))) (ty := .int) (by decide)
        refine o_dup G59 at_109 (pc' := 110) rfl rfl ?_
        refine o_aload G59 at_110 (pc' := 112) rfl rfl rfl ?_
        refine o_callI G59 (z := (⟨"com/example/ronda/ronda/engine/Der", "<init>", "([B)V"⟩ : MethodName)) (argsL := [(.ref b58)]) (rest := [(.ref b59)]) (W := 1) (a := b59) rfl (hw _ (List.mem_of_getElem? (i := 4) rfl)) (hw _ (List.mem_of_getElem? (i := 5) rfl)) rfl at_112 (by decide) (hw _ (List.mem_of_getElem? (i := 3) rfl)) (hw _ (List.mem_of_getElem? (i := 6) rfl)) (rm1 hw b59 b58 h59 n0 G59.sz g_b59 A59 F_bytes_b59 F_position_b59 F_end_b59 0 (0 : Int32) rfl _ A_b58) (by decide) (by decide) rfl (lenOf pd_2 rfl) rfl (Nat.le_of_eq rfl) (pc' := 115) rfl (by decide) (by decide) ?_
        rintro _ T60 h60 G60 ⟨rfl, K60, E60, Fa60, Fb60, Fc60⟩
        replace A_b58 := A_b58.keep K60 (ninS ne_b58_b59 nin0)
        replace A59 := A59.keep K60
        show OFin n0 p e below s (fun v _ => v = some (.int 1)) 16 128 T60 (mkF m 115 #[.val (.int p0), .val (.int p1), .val (.int p2), .val (.int p3), .val (.int p4), .val (.int p5), .val (.int v2), .val (.int v3), .val (.int (0 : Int32)), .val (.ref b58), .unset, .unset, .unset, .unset] [(.ref b59)])
        refine o_astore G60 at_115 (pc' := 117) rfl rfl (l' := #[.val (.int p0), .val (.int p1), .val (.int p2), .val (.int p3), .val (.int p4), .val (.int p5), .val (.int v2), .val (.int v3), .val (.int (0 : Int32)), .val (.ref b58), .val (.ref b59), .unset, .unset, .unset]) rfl ?_
        refine o_iload G60 at_117 (pc' := 119) rfl rfl ?_
        refine o_if_le G60 at_119 (by decide) (pcT := 136) (by decide) (pc' := 122) rfl (fun _ => ?_) (fun q => absurd q (by decide))
        refine o_iconst G60 at_136 (pc' := 137) rfl (v := (0 : Int32)) rfl ?_
        refine o_istore G60 at_137 (pc' := 139) rfl (l' := #[.val (.int p0), .val (.int p1), .val (.int p2), .val (.int p3), .val (.int p4), .val (.int p5), .val (.int v2), .val (.int v3), .val (.int (0 : Int32)), .val (.ref b58), .val (.ref b59), .val (.int (0 : Int32)), .unset, .unset]) rfl ?_
        refine o_aload G60 at_139 (pc' := 141) rfl rfl rfl ?_
        refine o_iload G60 at_141 (pc' := 143) rfl rfl ?_
        refine o_callVP G60 (z := (⟨"com/example/ronda/ronda/engine/Der", "nextIs", "(I)Z"⟩ : MethodName)) (argsL := [(.int v3)]) (rest := []) (W := 0) (r := (.int (0 : Int32))) A59 (hw _ (List.mem_of_getElem? (i := 25) rfl)) (hw _ (List.mem_of_getElem? (i := 27) rfl)) (hw _ (List.mem_of_getElem? (i := 26) rfl)) (hw _ (List.mem_of_getElem? (i := 28) rfl)) at_143 (by decide) (hw _ (List.mem_of_getElem? (i := 3) rfl)) (hw _ (List.mem_of_getElem? (i := 29) rfl)) (by rw [← own_ni0 (0 : Int32) (0 : Int32) (0 : Int32) v3 (by decide)]; exact rm5 hw b59 v3 h60 n0 G60.sz (0 : Int32) (0 : Int32) (0 : Int32) 0 0 _ b58 A59 Fa60 Fb60 Fc60 A_b58 rfl (fun q => absurd q (by decide)) (fun q => absurd q (by decide))) (by decide) (by decide) rfl (lenOf pd_4 rfl) rfl (Nat.le_of_eq rfl) (pc' := 146) rfl (by decide) (by decide) ?_
        intro T61 G61
        refine o_iload G61 at_146 (pc' := 148) rfl rfl ?_
        refine o_icmp_ne G61 at_148 (by decide) (pcT := 155) (by decide) (pc' := 151) rfl (fun q => absurd (by decide) q) (fun _ => ?_)
        refine o_iconst G61 at_151 (pc' := 152) rfl (v := (1 : Int32)) rfl ?_
        refine o_goto G61 at_152 (by decide) (pc' := 156) rfl ?_
        exact o_nreturn (t := .boolean) G61 (by simp) at_156 rfl (by decide) (by decide)
      · subst hl
        refine o_iload G4 at_65 (pc' := 67) rfl rfl ?_
        refine o_newarray G4 (N := 1) (cap := 1) (hw _ (List.mem_of_getElem? (i := 0) rfl)) rfl (by decide) (by decide) at_67 (pc' := 69) rfl (by decide) (by decide) ?_
        intro T62 h62 b62 G62 g62 g_b62 E62 A_b62
        replace A_b62 : OArr Z h62 b62 .byte 1 (fun _ => (.int (0 : Int32))) := A_b62
        refine o_astore G62 at_69 (pc' := 71) rfl rfl (l' := #[.val (.int p0), .val (.int p1), .val (.int p2), .val (.int p3), .val (.int p4), .val (.int p5), .val (.int v2), .val (.int v3), .val (.int (1 : Int32)), .val (.ref b62), .unset, .unset, .unset, .unset]) rfl ?_
        refine o_iload G62 at_71 (pc' := 73) rfl rfl ?_
        refine o_if_le G62 at_73 (by decide) (pcT := 82) (by decide) (pc' := 76) rfl (fun q => absurd (by decide) q) (fun _ => ?_)
        refine o_aload G62 at_76 (pc' := 78) rfl rfl rfl ?_
        refine o_iconst G62 at_78 (pc' := 79) rfl (v := (0 : Int32)) rfl ?_
        refine o_iloadN G62 at_79 (pc' := 80) rfl rfl ?_
        obtain ⟨v63, e63⟩ : ∃ z, p1.toInt8.toInt32 = z := ⟨_, rfl⟩
        refine o_i2b G62 at_80 (pc' := 81) rfl e63 ?_
        refine o_bastore G62 A_b62 g_b62 (i := 0) rfl (by decide) at_81 (pc' := 82) rfl ?_
        intro T64 h64 G64 W64 A64
        replace A_b62 := A64
        refine o_iload G64 at_82 (pc' := 84) rfl rfl ?_
        refine o_iconst G64 at_84 (pc' := 85) rfl (v := (1 : Int32)) rfl ?_
        refine o_icmp_le G64 at_85 (by decide) (pcT := 94) (by decide) (pc' := 88) rfl (fun _ => ?_) (fun q => absurd q (by decide))
        refine o_iload G64 at_94 (pc' := 96) rfl rfl ?_
        refine o_iconst G64 at_96 (pc' := 97) rfl (v := (2 : Int32)) rfl ?_
        refine o_icmp_le G64 at_97 (by decide) (pcT := 106) (by decide) (pc' := 100) rfl (fun _ => ?_) (fun q => absurd q (by decide))
        refine o_new G64 (hw _ (List.mem_of_getElem? (i := 1) rfl)) (hw _ (List.mem_of_getElem? (i := 2) rfl)) (hw _ (List.mem_of_getElem? (i := 3) rfl)) at_106 (pc' := 109) rfl (by decide) (by decide) ?_
        intro T65 h65 b65 G65 g65 g_b65 E65 A65 D65
        have ne_b62_b65 : b62 ≠ b65 := Nat.ne_of_lt (Nat.lt_of_lt_of_eq A_b62.lt g65.symm)
        replace A_b62 := A_b62.ext E65
        have F_bytes_b65 : Fld Z h65 b65 "com/example/ronda/ronda/engine/Der" "bytes" "[B" .null := D65 (Or.inr (hw _ (List.mem_of_getElem? (i := 14) rfl))) (ty := (.array .byte)) (by decide)
        have F_position_b65 : Fld Z h65 b65 "com/example/ronda/ronda/engine/Der" "position" "I" (.int (0 : Int32)) := D65 (Or.inl (hw _ (List.mem_of_getElem? (i := 16) rfl))) (ty := .int) (by decide)
        have F_end_b65 : Fld Z h65 b65 "com/example/ronda/ronda/engine/Der" "end" "I" (.int (0 : Int32)) := D65 (Or.inr (hw _ (List.mem_of_getElem? (i := 18) rfl))) (ty := .int) (by decide)
        refine o_dup G65 at_109 (pc' := 110) rfl rfl ?_
        refine o_aload G65 at_110 (pc' := 112) rfl rfl rfl ?_
        refine o_callI G65 (z := (⟨"com/example/ronda/ronda/engine/Der", "<init>", "([B)V"⟩ : MethodName)) (argsL := [(.ref b62)]) (rest := [(.ref b65)]) (W := 1) (a := b65) rfl (hw _ (List.mem_of_getElem? (i := 4) rfl)) (hw _ (List.mem_of_getElem? (i := 5) rfl)) rfl at_112 (by decide) (hw _ (List.mem_of_getElem? (i := 3) rfl)) (hw _ (List.mem_of_getElem? (i := 6) rfl)) (rm1 hw b65 b62 h65 n0 G65.sz g_b65 A65 F_bytes_b65 F_position_b65 F_end_b65 1 (1 : Int32) rfl _ A_b62) (by decide) (by decide) rfl (lenOf pd_2 rfl) rfl (Nat.le_of_eq rfl) (pc' := 115) rfl (by decide) (by decide) ?_
        rintro _ T66 h66 G66 ⟨rfl, K66, E66, Fa66, Fb66, Fc66⟩
        replace A_b62 := A_b62.keep K66 (ninS ne_b62_b65 nin0)
        replace A65 := A65.keep K66
        show OFin n0 p e below s (fun v _ => v = some (.int 1)) 16 128 T66 (mkF m 115 #[.val (.int p0), .val (.int p1), .val (.int p2), .val (.int p3), .val (.int p4), .val (.int p5), .val (.int v2), .val (.int v3), .val (.int (1 : Int32)), .val (.ref b62), .unset, .unset, .unset, .unset] [(.ref b65)])
        refine o_astore G66 at_115 (pc' := 117) rfl rfl (l' := #[.val (.int p0), .val (.int p1), .val (.int p2), .val (.int p3), .val (.int p4), .val (.int p5), .val (.int v2), .val (.int v3), .val (.int (1 : Int32)), .val (.ref b62), .val (.ref b65), .unset, .unset, .unset]) rfl ?_
        refine o_iload G66 at_117 (pc' := 119) rfl rfl ?_
        refine o_if_le G66 at_119 (by decide) (pcT := 136) (by decide) (pc' := 122) rfl (fun q => absurd (by decide) q) (fun _ => ?_)
        refine o_iloadN G66 at_122 (pc' := 123) rfl rfl ?_
        refine o_sipush G66 at_123 (pc' := 126) rfl (v := (255 : Int32)) rfl ?_
        obtain ⟨v67, e67⟩ : ∃ z, p1 &&& (255 : Int32) = z := ⟨_, rfl⟩
        refine o_iand G66 at_126 (pc' := 127) rfl e67 ?_
        refine o_iload G66 at_127 (pc' := 129) rfl rfl ?_
        refine o_icmp_ne G66 at_129 (by decide) (pcT := 136) (by decide) (pc' := 132) rfl (fun hc129 => ?_) (fun hc129 => ?_)
        · refine o_iconst G66 at_136 (pc' := 137) rfl (v := (0 : Int32)) rfl ?_
          refine o_istore G66 at_137 (pc' := 139) rfl (l' := #[.val (.int p0), .val (.int p1), .val (.int p2), .val (.int p3), .val (.int p4), .val (.int p5), .val (.int v2), .val (.int v3), .val (.int (1 : Int32)), .val (.ref b62), .val (.ref b65), .val (.int (0 : Int32)), .unset, .unset]) rfl ?_
          refine o_aload G66 at_139 (pc' := 141) rfl rfl rfl ?_
          refine o_iload G66 at_141 (pc' := 143) rfl rfl ?_
          obtain ⟨v68, e68⟩ : ∃ z, f_5 (0 : Int32) (1 : Int32) (nar .byte v63) v3 = z := ⟨_, rfl⟩
          refine o_callVP G66 (z := (⟨"com/example/ronda/ronda/engine/Der", "nextIs", "(I)Z"⟩ : MethodName)) (argsL := [(.int v3)]) (rest := []) (W := 0) (r := (.int v68)) A65 (hw _ (List.mem_of_getElem? (i := 25) rfl)) (hw _ (List.mem_of_getElem? (i := 27) rfl)) (hw _ (List.mem_of_getElem? (i := 26) rfl)) (hw _ (List.mem_of_getElem? (i := 28) rfl)) at_143 (by decide) (hw _ (List.mem_of_getElem? (i := 3) rfl)) (hw _ (List.mem_of_getElem? (i := 29) rfl)) (by rw [← e68]; exact rm5 hw b65 v3 h66 n0 G66.sz (0 : Int32) (1 : Int32) (nar .byte v63) 1 0 _ b62 A65 Fa66 Fb66 Fc66 A_b62 rfl (fun _ => by decide) (fun _ => rfl)) (by decide) (by decide) rfl (lenOf pd_4 rfl) rfl (Nat.le_of_eq rfl) (pc' := 146) rfl (by decide) (by decide) ?_
          intro T69 G69
          refine o_iload G69 at_146 (pc' := 148) rfl rfl ?_
          refine o_icmp_ne G69 at_148 (by decide) (pcT := 155) (by decide) (pc' := 151) rfl (fun q => absurd (by
                        subst e1 e2 e3 e5 e63 e67 e68
                        rw [own_ni _ _ _ _ (by decide), own_tag, if_neg hc129]) q) (fun _ => ?_)
          refine o_iconst G69 at_151 (pc' := 152) rfl (v := (1 : Int32)) rfl ?_
          refine o_goto G69 at_152 (by decide) (pc' := 156) rfl ?_
          exact o_nreturn (t := .boolean) G69 (by simp) at_156 rfl (by decide) (by decide)
        · refine o_iconst G66 at_132 (pc' := 133) rfl (v := (1 : Int32)) rfl ?_
          refine o_goto G66 at_133 (by decide) (pc' := 137) rfl ?_
          refine o_istore G66 at_137 (pc' := 139) rfl (l' := #[.val (.int p0), .val (.int p1), .val (.int p2), .val (.int p3), .val (.int p4), .val (.int p5), .val (.int v2), .val (.int v3), .val (.int (1 : Int32)), .val (.ref b62), .val (.ref b65), .val (.int (1 : Int32)), .unset, .unset]) rfl ?_
          refine o_aload G66 at_139 (pc' := 141) rfl rfl rfl ?_
          refine o_iload G66 at_141 (pc' := 143) rfl rfl ?_
          obtain ⟨v70, e70⟩ : ∃ z, f_5 (0 : Int32) (1 : Int32) (nar .byte v63) v3 = z := ⟨_, rfl⟩
          refine o_callVP G66 (z := (⟨"com/example/ronda/ronda/engine/Der", "nextIs", "(I)Z"⟩ : MethodName)) (argsL := [(.int v3)]) (rest := []) (W := 0) (r := (.int v70)) A65 (hw _ (List.mem_of_getElem? (i := 25) rfl)) (hw _ (List.mem_of_getElem? (i := 27) rfl)) (hw _ (List.mem_of_getElem? (i := 26) rfl)) (hw _ (List.mem_of_getElem? (i := 28) rfl)) at_143 (by decide) (hw _ (List.mem_of_getElem? (i := 3) rfl)) (hw _ (List.mem_of_getElem? (i := 29) rfl)) (by rw [← e70]; exact rm5 hw b65 v3 h66 n0 G66.sz (0 : Int32) (1 : Int32) (nar .byte v63) 1 0 _ b62 A65 Fa66 Fb66 Fc66 A_b62 rfl (fun _ => by decide) (fun _ => rfl)) (by decide) (by decide) rfl (lenOf pd_4 rfl) rfl (Nat.le_of_eq rfl) (pc' := 146) rfl (by decide) (by decide) ?_
          intro T71 G71
          refine o_iload G71 at_146 (pc' := 148) rfl rfl ?_
          refine o_icmp_ne G71 at_148 (by decide) (pcT := 155) (by decide) (pc' := 151) rfl (fun q => absurd (by
                        subst e1 e2 e3 e5 e63 e67 e70
                        rw [own_ni _ _ _ _ (by decide), own_tag, if_pos hc129]) q) (fun _ => ?_)
          refine o_iconst G71 at_151 (pc' := 152) rfl (v := (1 : Int32)) rfl ?_
          refine o_goto G71 at_152 (by decide) (pc' := 156) rfl ?_
          exact o_nreturn (t := .boolean) G71 (by simp) at_156 rfl (by decide) (by decide)
      · subst hl
        refine o_iload G4 at_65 (pc' := 67) rfl rfl ?_
        refine o_newarray G4 (N := 2) (cap := 2) (hw _ (List.mem_of_getElem? (i := 0) rfl)) rfl (by decide) (by decide) at_67 (pc' := 69) rfl (by decide) (by decide) ?_
        intro T72 h72 b72 G72 g72 g_b72 E72 A_b72
        replace A_b72 : OArr Z h72 b72 .byte 2 (fun _ => (.int (0 : Int32))) := A_b72
        refine o_astore G72 at_69 (pc' := 71) rfl rfl (l' := #[.val (.int p0), .val (.int p1), .val (.int p2), .val (.int p3), .val (.int p4), .val (.int p5), .val (.int v2), .val (.int v3), .val (.int (2 : Int32)), .val (.ref b72), .unset, .unset, .unset, .unset]) rfl ?_
        refine o_iload G72 at_71 (pc' := 73) rfl rfl ?_
        refine o_if_le G72 at_73 (by decide) (pcT := 82) (by decide) (pc' := 76) rfl (fun q => absurd (by decide) q) (fun _ => ?_)
        refine o_aload G72 at_76 (pc' := 78) rfl rfl rfl ?_
        refine o_iconst G72 at_78 (pc' := 79) rfl (v := (0 : Int32)) rfl ?_
        refine o_iloadN G72 at_79 (pc' := 80) rfl rfl ?_
        obtain ⟨v73, e73⟩ : ∃ z, p1.toInt8.toInt32 = z := ⟨_, rfl⟩
        refine o_i2b G72 at_80 (pc' := 81) rfl e73 ?_
        refine o_bastore G72 A_b72 g_b72 (i := 0) rfl (by decide) at_81 (pc' := 82) rfl ?_
        intro T74 h74 G74 W74 A74
        replace A_b72 := A74
        refine o_iload G74 at_82 (pc' := 84) rfl rfl ?_
        refine o_iconst G74 at_84 (pc' := 85) rfl (v := (1 : Int32)) rfl ?_
        refine o_icmp_le G74 at_85 (by decide) (pcT := 94) (by decide) (pc' := 88) rfl (fun q => absurd (by decide) q) (fun _ => ?_)
        refine o_aload G74 at_88 (pc' := 90) rfl rfl rfl ?_
        refine o_iconst G74 at_90 (pc' := 91) rfl (v := (1 : Int32)) rfl ?_
        refine o_iloadN G74 at_91 (pc' := 92) rfl rfl ?_
        obtain ⟨v75, e75⟩ : ∃ z, p2.toInt8.toInt32 = z := ⟨_, rfl⟩
        refine o_i2b G74 at_92 (pc' := 93) rfl e75 ?_
        refine o_bastore G74 A_b72 g_b72 (i := 1) rfl (by decide) at_93 (pc' := 94) rfl ?_
        intro T76 h76 G76 W76 A76
        replace A_b72 := A76
        refine o_iload G76 at_94 (pc' := 96) rfl rfl ?_
        refine o_iconst G76 at_96 (pc' := 97) rfl (v := (2 : Int32)) rfl ?_
        refine o_icmp_le G76 at_97 (by decide) (pcT := 106) (by decide) (pc' := 100) rfl (fun _ => ?_) (fun q => absurd q (by decide))
        refine o_new G76 (hw _ (List.mem_of_getElem? (i := 1) rfl)) (hw _ (List.mem_of_getElem? (i := 2) rfl)) (hw _ (List.mem_of_getElem? (i := 3) rfl)) at_106 (pc' := 109) rfl (by decide) (by decide) ?_
        intro T77 h77 b77 G77 g77 g_b77 E77 A77 D77
        have ne_b72_b77 : b72 ≠ b77 := Nat.ne_of_lt (Nat.lt_of_lt_of_eq A_b72.lt g77.symm)
        replace A_b72 := A_b72.ext E77
        have F_bytes_b77 : Fld Z h77 b77 "com/example/ronda/ronda/engine/Der" "bytes" "[B" .null := D77 (Or.inr (hw _ (List.mem_of_getElem? (i := 14) rfl))) (ty := (.array .byte)) (by decide)
        have F_position_b77 : Fld Z h77 b77 "com/example/ronda/ronda/engine/Der" "position" "I" (.int (0 : Int32)) := D77 (Or.inl (hw _ (List.mem_of_getElem? (i := 16) rfl))) (ty := .int) (by decide)
        have F_end_b77 : Fld Z h77 b77 "com/example/ronda/ronda/engine/Der" "end" "I" (.int (0 : Int32)) := D77 (Or.inr (hw _ (List.mem_of_getElem? (i := 18) rfl))) (ty := .int) (by decide)
        refine o_dup G77 at_109 (pc' := 110) rfl rfl ?_
        refine o_aload G77 at_110 (pc' := 112) rfl rfl rfl ?_
        refine o_callI G77 (z := (⟨"com/example/ronda/ronda/engine/Der", "<init>", "([B)V"⟩ : MethodName)) (argsL := [(.ref b72)]) (rest := [(.ref b77)]) (W := 1) (a := b77) rfl (hw _ (List.mem_of_getElem? (i := 4) rfl)) (hw _ (List.mem_of_getElem? (i := 5) rfl)) rfl at_112 (by decide) (hw _ (List.mem_of_getElem? (i := 3) rfl)) (hw _ (List.mem_of_getElem? (i := 6) rfl)) (rm1 hw b77 b72 h77 n0 G77.sz g_b77 A77 F_bytes_b77 F_position_b77 F_end_b77 2 (2 : Int32) rfl _ A_b72) (by decide) (by decide) rfl (lenOf pd_2 rfl) rfl (Nat.le_of_eq rfl) (pc' := 115) rfl (by decide) (by decide) ?_
        rintro _ T78 h78 G78 ⟨rfl, K78, E78, Fa78, Fb78, Fc78⟩
        replace A_b72 := A_b72.keep K78 (ninS ne_b72_b77 nin0)
        replace A77 := A77.keep K78
        show OFin n0 p e below s (fun v _ => v = some (.int 1)) 16 128 T78 (mkF m 115 #[.val (.int p0), .val (.int p1), .val (.int p2), .val (.int p3), .val (.int p4), .val (.int p5), .val (.int v2), .val (.int v3), .val (.int (2 : Int32)), .val (.ref b72), .unset, .unset, .unset, .unset] [(.ref b77)])
        refine o_astore G78 at_115 (pc' := 117) rfl rfl (l' := #[.val (.int p0), .val (.int p1), .val (.int p2), .val (.int p3), .val (.int p4), .val (.int p5), .val (.int v2), .val (.int v3), .val (.int (2 : Int32)), .val (.ref b72), .val (.ref b77), .unset, .unset, .unset]) rfl ?_
        refine o_iload G78 at_117 (pc' := 119) rfl rfl ?_
        refine o_if_le G78 at_119 (by decide) (pcT := 136) (by decide) (pc' := 122) rfl (fun q => absurd (by decide) q) (fun _ => ?_)
        refine o_iloadN G78 at_122 (pc' := 123) rfl rfl ?_
        refine o_sipush G78 at_123 (pc' := 126) rfl (v := (255 : Int32)) rfl ?_
        obtain ⟨v79, e79⟩ : ∃ z, p1 &&& (255 : Int32) = z := ⟨_, rfl⟩
        refine o_iand G78 at_126 (pc' := 127) rfl e79 ?_
        refine o_iload G78 at_127 (pc' := 129) rfl rfl ?_
        refine o_icmp_ne G78 at_129 (by decide) (pcT := 136) (by decide) (pc' := 132) rfl (fun hc129 => ?_) (fun hc129 => ?_)
        · refine o_iconst G78 at_136 (pc' := 137) rfl (v := (0 : Int32)) rfl ?_
          refine o_istore G78 at_137 (pc' := 139) rfl (l' := #[.val (.int p0), .val (.int p1), .val (.int p2), .val (.int p3), .val (.int p4), .val (.int p5), .val (.int v2), .val (.int v3), .val (.int (2 : Int32)), .val (.ref b72), .val (.ref b77), .val (.int (0 : Int32)), .unset, .unset]) rfl ?_
          refine o_aload G78 at_139 (pc' := 141) rfl rfl rfl ?_
          refine o_iload G78 at_141 (pc' := 143) rfl rfl ?_
          obtain ⟨v80, e80⟩ : ∃ z, f_5 (0 : Int32) (2 : Int32) (nar .byte v73) v3 = z := ⟨_, rfl⟩
          refine o_callVP G78 (z := (⟨"com/example/ronda/ronda/engine/Der", "nextIs", "(I)Z"⟩ : MethodName)) (argsL := [(.int v3)]) (rest := []) (W := 0) (r := (.int v80)) A77 (hw _ (List.mem_of_getElem? (i := 25) rfl)) (hw _ (List.mem_of_getElem? (i := 27) rfl)) (hw _ (List.mem_of_getElem? (i := 26) rfl)) (hw _ (List.mem_of_getElem? (i := 28) rfl)) at_143 (by decide) (hw _ (List.mem_of_getElem? (i := 3) rfl)) (hw _ (List.mem_of_getElem? (i := 29) rfl)) (by rw [← e80]; exact rm5 hw b77 v3 h78 n0 G78.sz (0 : Int32) (2 : Int32) (nar .byte v73) 2 0 _ b72 A77 Fa78 Fb78 Fc78 A_b72 rfl (fun _ => by decide) (fun _ => rfl)) (by decide) (by decide) rfl (lenOf pd_4 rfl) rfl (Nat.le_of_eq rfl) (pc' := 146) rfl (by decide) (by decide) ?_
          intro T81 G81
          refine o_iload G81 at_146 (pc' := 148) rfl rfl ?_
          refine o_icmp_ne G81 at_148 (by decide) (pcT := 155) (by decide) (pc' := 151) rfl (fun q => absurd (by
                        subst e1 e2 e3 e5 e73 e75 e79 e80
                        rw [own_ni _ _ _ _ (by decide), own_tag, if_neg hc129]) q) (fun _ => ?_)
          refine o_iconst G81 at_151 (pc' := 152) rfl (v := (1 : Int32)) rfl ?_
          refine o_goto G81 at_152 (by decide) (pc' := 156) rfl ?_
          exact o_nreturn (t := .boolean) G81 (by simp) at_156 rfl (by decide) (by decide)
        · refine o_iconst G78 at_132 (pc' := 133) rfl (v := (1 : Int32)) rfl ?_
          refine o_goto G78 at_133 (by decide) (pc' := 137) rfl ?_
          refine o_istore G78 at_137 (pc' := 139) rfl (l' := #[.val (.int p0), .val (.int p1), .val (.int p2), .val (.int p3), .val (.int p4), .val (.int p5), .val (.int v2), .val (.int v3), .val (.int (2 : Int32)), .val (.ref b72), .val (.ref b77), .val (.int (1 : Int32)), .unset, .unset]) rfl ?_
          refine o_aload G78 at_139 (pc' := 141) rfl rfl rfl ?_
          refine o_iload G78 at_141 (pc' := 143) rfl rfl ?_
          obtain ⟨v82, e82⟩ : ∃ z, f_5 (0 : Int32) (2 : Int32) (nar .byte v73) v3 = z := ⟨_, rfl⟩
          refine o_callVP G78 (z := (⟨"com/example/ronda/ronda/engine/Der", "nextIs", "(I)Z"⟩ : MethodName)) (argsL := [(.int v3)]) (rest := []) (W := 0) (r := (.int v82)) A77 (hw _ (List.mem_of_getElem? (i := 25) rfl)) (hw _ (List.mem_of_getElem? (i := 27) rfl)) (hw _ (List.mem_of_getElem? (i := 26) rfl)) (hw _ (List.mem_of_getElem? (i := 28) rfl)) at_143 (by decide) (hw _ (List.mem_of_getElem? (i := 3) rfl)) (hw _ (List.mem_of_getElem? (i := 29) rfl)) (by rw [← e82]; exact rm5 hw b77 v3 h78 n0 G78.sz (0 : Int32) (2 : Int32) (nar .byte v73) 2 0 _ b72 A77 Fa78 Fb78 Fc78 A_b72 rfl (fun _ => by decide) (fun _ => rfl)) (by decide) (by decide) rfl (lenOf pd_4 rfl) rfl (Nat.le_of_eq rfl) (pc' := 146) rfl (by decide) (by decide) ?_
          intro T83 G83
          refine o_iload G83 at_146 (pc' := 148) rfl rfl ?_
          refine o_icmp_ne G83 at_148 (by decide) (pcT := 155) (by decide) (pc' := 151) rfl (fun q => absurd (by
                        subst e1 e2 e3 e5 e73 e75 e79 e82
                        rw [own_ni _ _ _ _ (by decide), own_tag, if_pos hc129]) q) (fun _ => ?_)
          refine o_iconst G83 at_151 (pc' := 152) rfl (v := (1 : Int32)) rfl ?_
          refine o_goto G83 at_152 (by decide) (pc' := 156) rfl ?_
          exact o_nreturn (t := .boolean) G83 (by simp) at_156 rfl (by decide) (by decide)
      · subst hl
        refine o_iload G4 at_65 (pc' := 67) rfl rfl ?_
        refine o_newarray G4 (N := 3) (cap := 3) (hw _ (List.mem_of_getElem? (i := 0) rfl)) rfl (by decide) (by decide) at_67 (pc' := 69) rfl (by decide) (by decide) ?_
        intro T84 h84 b84 G84 g84 g_b84 E84 A_b84
        replace A_b84 : OArr Z h84 b84 .byte 3 (fun _ => (.int (0 : Int32))) := A_b84
        refine o_astore G84 at_69 (pc' := 71) rfl rfl (l' := #[.val (.int p0), .val (.int p1), .val (.int p2), .val (.int p3), .val (.int p4), .val (.int p5), .val (.int v2), .val (.int v3), .val (.int (3 : Int32)), .val (.ref b84), .unset, .unset, .unset, .unset]) rfl ?_
        refine o_iload G84 at_71 (pc' := 73) rfl rfl ?_
        refine o_if_le G84 at_73 (by decide) (pcT := 82) (by decide) (pc' := 76) rfl (fun q => absurd (by decide) q) (fun _ => ?_)
        refine o_aload G84 at_76 (pc' := 78) rfl rfl rfl ?_
        refine o_iconst G84 at_78 (pc' := 79) rfl (v := (0 : Int32)) rfl ?_
        refine o_iloadN G84 at_79 (pc' := 80) rfl rfl ?_
        obtain ⟨v85, e85⟩ : ∃ z, p1.toInt8.toInt32 = z := ⟨_, rfl⟩
        refine o_i2b G84 at_80 (pc' := 81) rfl e85 ?_
        refine o_bastore G84 A_b84 g_b84 (i := 0) rfl (by decide) at_81 (pc' := 82) rfl ?_
        intro T86 h86 G86 W86 A86
        replace A_b84 := A86
        refine o_iload G86 at_82 (pc' := 84) rfl rfl ?_
        refine o_iconst G86 at_84 (pc' := 85) rfl (v := (1 : Int32)) rfl ?_
        refine o_icmp_le G86 at_85 (by decide) (pcT := 94) (by decide) (pc' := 88) rfl (fun q => absurd (by decide) q) (fun _ => ?_)
        refine o_aload G86 at_88 (pc' := 90) rfl rfl rfl ?_
        refine o_iconst G86 at_90 (pc' := 91) rfl (v := (1 : Int32)) rfl ?_
        refine o_iloadN G86 at_91 (pc' := 92) rfl rfl ?_
        obtain ⟨v87, e87⟩ : ∃ z, p2.toInt8.toInt32 = z := ⟨_, rfl⟩
        refine o_i2b G86 at_92 (pc' := 93) rfl e87 ?_
        refine o_bastore G86 A_b84 g_b84 (i := 1) rfl (by decide) at_93 (pc' := 94) rfl ?_
        intro T88 h88 G88 W88 A88
        replace A_b84 := A88
        refine o_iload G88 at_94 (pc' := 96) rfl rfl ?_
        refine o_iconst G88 at_96 (pc' := 97) rfl (v := (2 : Int32)) rfl ?_
        refine o_icmp_le G88 at_97 (by decide) (pcT := 106) (by decide) (pc' := 100) rfl (fun q => absurd (by decide) q) (fun _ => ?_)
        refine o_aload G88 at_100 (pc' := 102) rfl rfl rfl ?_
        refine o_iconst G88 at_102 (pc' := 103) rfl (v := (2 : Int32)) rfl ?_
        refine o_iloadN G88 at_103 (pc' := 104) rfl rfl ?_
        obtain ⟨v89, e89⟩ : ∃ z, p3.toInt8.toInt32 = z := ⟨_, rfl⟩
        refine o_i2b G88 at_104 (pc' := 105) rfl e89 ?_
        refine o_bastore G88 A_b84 g_b84 (i := 2) rfl (by decide) at_105 (pc' := 106) rfl ?_
        intro T90 h90 G90 W90 A90
        replace A_b84 := A90
        refine o_new G90 (hw _ (List.mem_of_getElem? (i := 1) rfl)) (hw _ (List.mem_of_getElem? (i := 2) rfl)) (hw _ (List.mem_of_getElem? (i := 3) rfl)) at_106 (pc' := 109) rfl (by decide) (by decide) ?_
        intro T91 h91 b91 G91 g91 g_b91 E91 A91 D91
        have ne_b84_b91 : b84 ≠ b91 := Nat.ne_of_lt (Nat.lt_of_lt_of_eq A_b84.lt g91.symm)
        replace A_b84 := A_b84.ext E91
        have F_bytes_b91 : Fld Z h91 b91 "com/example/ronda/ronda/engine/Der" "bytes" "[B" .null := D91 (Or.inr (hw _ (List.mem_of_getElem? (i := 14) rfl))) (ty := (.array .byte)) (by decide)
        have F_position_b91 : Fld Z h91 b91 "com/example/ronda/ronda/engine/Der" "position" "I" (.int (0 : Int32)) := D91 (Or.inl (hw _ (List.mem_of_getElem? (i := 16) rfl))) (ty := .int) (by decide)
        have F_end_b91 : Fld Z h91 b91 "com/example/ronda/ronda/engine/Der" "end" "I" (.int (0 : Int32)) := D91 (Or.inr (hw _ (List.mem_of_getElem? (i := 18) rfl))) (ty := .int) (by decide)
        refine o_dup G91 at_109 (pc' := 110) rfl rfl ?_
        refine o_aload G91 at_110 (pc' := 112) rfl rfl rfl ?_
        refine o_callI G91 (z := (⟨"com/example/ronda/ronda/engine/Der", "<init>", "([B)V"⟩ : MethodName)) (argsL := [(.ref b84)]) (rest := [(.ref b91)]) (W := 1) (a := b91) rfl (hw _ (List.mem_of_getElem? (i := 4) rfl)) (hw _ (List.mem_of_getElem? (i := 5) rfl)) rfl at_112 (by decide) (hw _ (List.mem_of_getElem? (i := 3) rfl)) (hw _ (List.mem_of_getElem? (i := 6) rfl)) (rm1 hw b91 b84 h91 n0 G91.sz g_b91 A91 F_bytes_b91 F_position_b91 F_end_b91 3 (3 : Int32) rfl _ A_b84) (by decide) (by decide) rfl (lenOf pd_2 rfl) rfl (Nat.le_of_eq rfl) (pc' := 115) rfl (by decide) (by decide) ?_
        rintro _ T92 h92 G92 ⟨rfl, K92, E92, Fa92, Fb92, Fc92⟩
        replace A_b84 := A_b84.keep K92 (ninS ne_b84_b91 nin0)
        replace A91 := A91.keep K92
        show OFin n0 p e below s (fun v _ => v = some (.int 1)) 16 128 T92 (mkF m 115 #[.val (.int p0), .val (.int p1), .val (.int p2), .val (.int p3), .val (.int p4), .val (.int p5), .val (.int v2), .val (.int v3), .val (.int (3 : Int32)), .val (.ref b84), .unset, .unset, .unset, .unset] [(.ref b91)])
        refine o_astore G92 at_115 (pc' := 117) rfl rfl (l' := #[.val (.int p0), .val (.int p1), .val (.int p2), .val (.int p3), .val (.int p4), .val (.int p5), .val (.int v2), .val (.int v3), .val (.int (3 : Int32)), .val (.ref b84), .val (.ref b91), .unset, .unset, .unset]) rfl ?_
        refine o_iload G92 at_117 (pc' := 119) rfl rfl ?_
        refine o_if_le G92 at_119 (by decide) (pcT := 136) (by decide) (pc' := 122) rfl (fun q => absurd (by decide) q) (fun _ => ?_)
        refine o_iloadN G92 at_122 (pc' := 123) rfl rfl ?_
        refine o_sipush G92 at_123 (pc' := 126) rfl (v := (255 : Int32)) rfl ?_
        obtain ⟨v93, e93⟩ : ∃ z, p1 &&& (255 : Int32) = z := ⟨_, rfl⟩
        refine o_iand G92 at_126 (pc' := 127) rfl e93 ?_
        refine o_iload G92 at_127 (pc' := 129) rfl rfl ?_
        refine o_icmp_ne G92 at_129 (by decide) (pcT := 136) (by decide) (pc' := 132) rfl (fun hc129 => ?_) (fun hc129 => ?_)
        · refine o_iconst G92 at_136 (pc' := 137) rfl (v := (0 : Int32)) rfl ?_
          refine o_istore G92 at_137 (pc' := 139) rfl (l' := #[.val (.int p0), .val (.int p1), .val (.int p2), .val (.int p3), .val (.int p4), .val (.int p5), .val (.int v2), .val (.int v3), .val (.int (3 : Int32)), .val (.ref b84), .val (.ref b91), .val (.int (0 : Int32)), .unset, .unset]) rfl ?_
          refine o_aload G92 at_139 (pc' := 141) rfl rfl rfl ?_
          refine o_iload G92 at_141 (pc' := 143) rfl rfl ?_
          obtain ⟨v94, e94⟩ : ∃ z, f_5 (0 : Int32) (3 : Int32) (nar .byte v85) v3 = z := ⟨_, rfl⟩
          refine o_callVP G92 (z := (⟨"com/example/ronda/ronda/engine/Der", "nextIs", "(I)Z"⟩ : MethodName)) (argsL := [(.int v3)]) (rest := []) (W := 0) (r := (.int v94)) A91 (hw _ (List.mem_of_getElem? (i := 25) rfl)) (hw _ (List.mem_of_getElem? (i := 27) rfl)) (hw _ (List.mem_of_getElem? (i := 26) rfl)) (hw _ (List.mem_of_getElem? (i := 28) rfl)) at_143 (by decide) (hw _ (List.mem_of_getElem? (i := 3) rfl)) (hw _ (List.mem_of_getElem? (i := 29) rfl)) (by rw [← e94]; exact rm5 hw b91 v3 h92 n0 G92.sz (0 : Int32) (3 : Int32) (nar .byte v85) 3 0 _ b84 A91 Fa92 Fb92 Fc92 A_b84 rfl (fun _ => by decide) (fun _ => rfl)) (by decide) (by decide) rfl (lenOf pd_4 rfl) rfl (Nat.le_of_eq rfl) (pc' := 146) rfl (by decide) (by decide) ?_
          intro T95 G95
          refine o_iload G95 at_146 (pc' := 148) rfl rfl ?_
          refine o_icmp_ne G95 at_148 (by decide) (pcT := 155) (by decide) (pc' := 151) rfl (fun q => absurd (by
                        subst e1 e2 e3 e5 e85 e87 e89 e93 e94
                        rw [own_ni _ _ _ _ (by decide), own_tag, if_neg hc129]) q) (fun _ => ?_)
          refine o_iconst G95 at_151 (pc' := 152) rfl (v := (1 : Int32)) rfl ?_
          refine o_goto G95 at_152 (by decide) (pc' := 156) rfl ?_
          exact o_nreturn (t := .boolean) G95 (by simp) at_156 rfl (by decide) (by decide)
        · refine o_iconst G92 at_132 (pc' := 133) rfl (v := (1 : Int32)) rfl ?_
          refine o_goto G92 at_133 (by decide) (pc' := 137) rfl ?_
          refine o_istore G92 at_137 (pc' := 139) rfl (l' := #[.val (.int p0), .val (.int p1), .val (.int p2), .val (.int p3), .val (.int p4), .val (.int p5), .val (.int v2), .val (.int v3), .val (.int (3 : Int32)), .val (.ref b84), .val (.ref b91), .val (.int (1 : Int32)), .unset, .unset]) rfl ?_
          refine o_aload G92 at_139 (pc' := 141) rfl rfl rfl ?_
          refine o_iload G92 at_141 (pc' := 143) rfl rfl ?_
          obtain ⟨v96, e96⟩ : ∃ z, f_5 (0 : Int32) (3 : Int32) (nar .byte v85) v3 = z := ⟨_, rfl⟩
          refine o_callVP G92 (z := (⟨"com/example/ronda/ronda/engine/Der", "nextIs", "(I)Z"⟩ : MethodName)) (argsL := [(.int v3)]) (rest := []) (W := 0) (r := (.int v96)) A91 (hw _ (List.mem_of_getElem? (i := 25) rfl)) (hw _ (List.mem_of_getElem? (i := 27) rfl)) (hw _ (List.mem_of_getElem? (i := 26) rfl)) (hw _ (List.mem_of_getElem? (i := 28) rfl)) at_143 (by decide) (hw _ (List.mem_of_getElem? (i := 3) rfl)) (hw _ (List.mem_of_getElem? (i := 29) rfl)) (by rw [← e96]; exact rm5 hw b91 v3 h92 n0 G92.sz (0 : Int32) (3 : Int32) (nar .byte v85) 3 0 _ b84 A91 Fa92 Fb92 Fc92 A_b84 rfl (fun _ => by decide) (fun _ => rfl)) (by decide) (by decide) rfl (lenOf pd_4 rfl) rfl (Nat.le_of_eq rfl) (pc' := 146) rfl (by decide) (by decide) ?_
          intro T97 G97
          refine o_iload G97 at_146 (pc' := 148) rfl rfl ?_
          refine o_icmp_ne G97 at_148 (by decide) (pcT := 155) (by decide) (pc' := 151) rfl (fun q => absurd (by
                        subst e1 e2 e3 e5 e85 e87 e89 e93 e96
                        rw [own_ni _ _ _ _ (by decide), own_tag, if_pos hc129]) q) (fun _ => ?_)
          refine o_iconst G97 at_151 (pc' := 152) rfl (v := (1 : Int32)) rfl ?_
          refine o_goto G97 at_152 (by decide) (pc' := 156) rfl ?_
          exact o_nreturn (t := .boolean) G97 (by simp) at_156 rfl (by decide) (by decide)
  refine o_if_ne G0 at_10 (by decide) (pcT := 18) (by decide) (pc' := 13) rfl (fun hc10 => ?_) (fun hc10 => ?_)
  · refine o_iload G0 at_18 (pc' := 20) rfl rfl ?_
    refine o_iconst G0 at_20 (pc' := 21) rfl (v := (1 : Int32)) rfl ?_
    refine o_icmp_ne G0 at_21 (by decide) (pcT := 32) (by decide) (pc' := 24) rfl (fun hc21 => ?_) (fun hc21 => ?_)
    · refine o_iload G0 at_32 (pc' := 34) rfl rfl ?_
      refine o_iconst G0 at_34 (pc' := 35) rfl (v := (2 : Int32)) rfl ?_
      refine o_icmp_ne G0 at_35 (by decide) (pcT := 46) (by decide) (pc' := 38) rfl (fun hc35 => ?_) (fun hc35 => ?_)
      · refine o_iloadN G0 at_46 (pc' := 47) rfl rfl ?_
        refine o_sipush G0 at_47 (pc' := 50) rfl (v := (255 : Int32)) rfl ?_
        obtain ⟨v98, e98⟩ : ∃ z, p3 &&& (255 : Int32) = z := ⟨_, rfl⟩
        refine o_iand G0 at_50 (pc' := 51) rfl e98 ?_
        subst e98
        rw [if_neg hc10, if_neg hc21, if_neg hc35] at e3
        subst e3
        exact K4 _ G0
      · refine o_iloadN G0 at_38 (pc' := 39) rfl rfl ?_
        refine o_sipush G0 at_39 (pc' := 42) rfl (v := (255 : Int32)) rfl ?_
        obtain ⟨v99, e99⟩ : ∃ z, p2 &&& (255 : Int32) = z := ⟨_, rfl⟩
        refine o_iand G0 at_42 (pc' := 43) rfl e99 ?_
        refine o_goto G0 at_43 (by decide) (pc' := 51) rfl ?_
        subst e99
        rw [if_neg hc10, if_neg hc21, if_pos hc35] at e3
        subst e3
        exact K4 _ G0
    · refine o_iloadN G0 at_24 (pc' := 25) rfl rfl ?_
      refine o_sipush G0 at_25 (pc' := 28) rfl (v := (255 : Int32)) rfl ?_
      obtain ⟨v100, e100⟩ : ∃ z, p1 &&& (255 : Int32) = z := ⟨_, rfl⟩
      refine o_iand G0 at_28 (pc' := 29) rfl e100 ?_
      refine o_goto G0 at_29 (by decide) (pc' := 51) rfl ?_
      subst e100
      rw [if_neg hc10, if_pos hc21] at e3
      subst e3
      exact K4 _ G0
  · refine o_iload G0 at_13 (pc' := 15) rfl rfl ?_
    refine o_goto G0 at_15 (by decide) (pc' := 51) rfl ?_
    rw [if_pos hc10] at e3
    subst e3
    exact K4 _ G0
set_option maxRecDepth 65536 in
set_option maxHeartbeats 40000000 in
theorem comes_1 {Post : Tables → Env → Array Value → State → Outcome → State → Prop} (hpost : ∀ tb e args s v u, (limb_1_1.after args s (.returned v) u = true ∧ limb_1_2.after args s (.returned v) u = true ∧ True) → FrameEnd s (.returned v) u (Jvm.fieldLocs frame_1_writes args s ++ Jvm.arrayLocs frame_1_arrays args s ++ Jvm.staticLocs frame_1_statics s) 16 128 → Post tb e args s (.returned v) u) :
    ArmFor flags0 classFile x code maxLocals ret World_1 tables_1 room_1 Calls_1 rest_1 Pre_1 Post := by
  intro l hfl _ _ p e ha hc hk s m args below hf hA hF happ hP
  obtain ⟨hcalls, hrest, hpre⟩ := hP
  obtain ⟨-, -, -, hnamed, -, -, -, hat⟩ := (Spec.applies_iff hf).mp happ
  obtain ⟨hg, hn⟩ := and_e (Cond.before_iff.mp (show (Jvm.Cond.and given_1 narrow_1).before args s = true from hpre))
  obtain ⟨g1, g2⟩ := and_e hg
  obtain ⟨g3, g4⟩ := and_e g2
  obtain ⟨g5, g6⟩ := and_e g4
  obtain ⟨g7, g8⟩ := and_e g6
  obtain ⟨g9, g10⟩ := and_e g8
  obtain ⟨g11, g12⟩ := and_e g10
  obtain ⟨w0, w1, w2, w3, w4, w5, rfl⟩ : ∃ w0 w1 w2 w3 w4 w5 : Value, args = #[w0, w1, w2, w3, w4, w5] := by
    have hs : args.size = 6 := by simpa [Cond.value, given_1] using g1
    obtain ⟨L⟩ := args
    match L, hs with
    | [w0, w1, w2, w3, w4, w5], _ => exact ⟨w0, w1, w2, w3, w4, w5, rfl⟩
  have hw := fun d (hd : d ∈ tables_1) => atoms_spec (ws := Jvm.Cond.code x code maxLocals ret :: tables_1) hat d (List.mem_cons_of_mem _ hd)
  obtain ⟨i0, ei0⟩ := is_v g3
  obtain rfl : w0 = (.int i0) := Option.some.inj ei0
  obtain ⟨i1, ei1⟩ := is_v g5
  obtain rfl : w1 = (.int i1) := Option.some.inj ei1
  obtain ⟨i2, ei2⟩ := is_v g7
  obtain rfl : w2 = (.int i2) := Option.some.inj ei2
  obtain ⟨i3, ei3⟩ := is_v g9
  obtain rfl : w3 = (.int i3) := Option.some.inj ei3
  obtain ⟨i4, ei4⟩ := is_v g11
  obtain rfl : w4 = (.int i4) := Option.some.inj ei4
  obtain ⟨i5, ei5⟩ := is_v g12
  obtain rfl : w5 = (.int i5) := Option.some.inj ei5
  obtain ⟨n, o, h1, h2, h3, _, L, rfl, ⟨N, _, hv⟩, hq⟩ := rm0 (l := l) (Z := s) hw i0 i1 i2 i3 i4 i5 s.heap s.heap.size (Nat.le_refl _)  tables_1 p e ha hc hk s m _ below hf ((Spec.applies_iff_loose hf).mp happ).1 ⟨rfl, State.Warmed39.refl s, rfl⟩ trivial
  subst hv
  refine ⟨n, _, h1, h2, h3, hpost _ _ _ _ _ _ ⟨Cond.after_iff.mpr rfl, Cond.after_iff.mpr (eq_i res_at (Term.int_eval (1)) rfl), trivial⟩ ⟨hq.1, hq.2.1, (hq.2.2.sift fun y hy => Or.inr (N y hy)).mono (by decide) (by decide)⟩⟩
theorem main_1_1 : Claimed_1_1 := comes_1 fun _ _ _ _ _ _ h hF => ⟨h.1, hF⟩
theorem main_1_2 : Claimed_1_2 := comes_1 fun _ _ _ _ _ _ h hF => ⟨h.2.1, hF⟩
end Jvm.Pilot.@@N@@
namespace Jvm.Pilot.@@N@@
open Jvm Jvm.ClassFile Sem Op Lib Jvm.Free Jvm.Stand Jvm.Pilot.@@N@@.Jvm.D
/-! MADE BY PROGRAM (witnessworld.py) out of the Statement's table words and the real class files: 9 classes; the members and pool entries that the words name. The judged class is class 1, her method 1. -/
namespace start1
open Jvm.ClassFile
def u (s : String) : CpInfo := .utf8 (stringToUtf16 s)
/-- a pool by its gaps: so many unusable entries, then the entry; so many at the end -/
def gap : Nat → List CpInfo → List CpInfo
  | 0, r => r
  | n + 1, r => .unusable :: gap n r
def poolList (es : List (Nat × CpInfo)) (last : Nat) : List CpInfo := es.foldr (fun e r => gap e.1 (e.2 :: r)) (gap last [])
def pool (es : List (Nat × CpInfo)) (last : Nat) : Array CpInfo := ⟨poolList es last⟩
def fileOf (pool : Array CpInfo) (this : Nat) (attrs : Array Attribute := #[]) (ms : Array MethodInfo := #[]) (fl : Nat := 33) (sup : Nat := 0) (ifs : Array Nat := #[]) (fds : Array FieldInfo := #[]) : ClassFile where
  minorVersion := 0
  majorVersion := 65
  constantPool := pool
  accessFlags := fl
  thisClass := this
  superClass := sup
  interfaces := ifs
  fields := fds
  methods := ms
  attributes := attrs
def plain (name : String) (sup : Option ClassId) : Class where
  name := name
  kind := .ordinary
  loader := none
  accessFlags := 33
  super := sup
  interfaces := #[]
  cf := none
  fields := #[]
  methods := #[]
  instanceTypes := #[]
  staticTypes := #[]
  resolved := #[]
  callSites := []
  init := .initialized
  statics := none
  mirror := none

def pool0 : Array CpInfo := pool [(5, u "<init>"), (0, u "()V"), (1, .class_ 10), (1, u "java/lang/Object")] 113

def k0c0 : Code := { maxStack := 0, maxLocals := 1, code := object_method_1_code, exceptionTable := #[], attributes := #[] }
def k0m0 : Method := { name := "<init>", desc := "()V", sig := { parameters := [], returnType := none }, accessFlags := 1, code := some k0c0 }
/-- java/lang/Object -/
def k0 : Class := { plain "java/lang/Object" none with
  accessFlags := 33
  interfaces := #[]
  cf := some (fileOf pool0 8 #[] #[{ accessFlags := 1, nameIndex := 5, descriptorIndex := 6, attributes := #[] }] 33 0 #[] #[])
  fields := #[]
  methods := #[k0m0]
  instanceTypes := #[]
  staticTypes := #[]
  resolved := Array.replicate 124 none
  statics := none }

def pool1 : Array CpInfo := pool [(2, .class_ 4), (1, u "java/lang/Object"), (0, u "<init>"), (0, u "()V"), (0, .class_ 8), (0, u "com/example/ronda/ronda/engine/Der"), (0, .methodref 7 10), (0, .nameAndType 5 11), (0, u "([B)V"), (0, .methodref 7 13), (0, .nameAndType 14 15), (0, u "nextIs"), (0, u "(I)Z"), (0, .methodref 7 17), (0, .nameAndType 18 19), (0, u "next"), (0, u "(I)Lcom/example/ronda/ronda/engine/Der;"), (0, .class_ 21), (0, u "com/example/ronda/ronda/engine/DerNextIsPinLaw"), (2, u "law"), (0, u "(IIIIII)Z")] 8

def k1m0 : Method := { name := "<init>", desc := "()V", sig := { parameters := [], returnType := none }, accessFlags := 1, code := none }
def k1c1 : Code := { maxStack := 4, maxLocals := 14, code := code, exceptionTable := #[], attributes := #[] }
def k1m1 : Method := { name := "law", desc := "(IIIIII)Z", sig := { parameters := [.int, .int, .int, .int, .int, .int], returnType := some .boolean }, accessFlags := 9, code := some k1c1 }
/-- com/example/ronda/ronda/engine/DerNextIsPinLaw -/
def k1 : Class := { plain "com/example/ronda/ronda/engine/DerNextIsPinLaw" (some 0) with
  accessFlags := 49
  interfaces := #[]
  cf := some (fileOf pool1 20 #[] #[{ accessFlags := 1, nameIndex := 5, descriptorIndex := 6, attributes := #[] }, { accessFlags := 9, nameIndex := 24, descriptorIndex := 25, attributes := #[] }] 49 2 #[] #[])
  fields := #[]
  methods := #[k1m0, k1m1]
  instanceTypes := #[]
  staticTypes := #[]
  resolved := Array.replicate 34 none
  statics := none }

def pool2 : Array CpInfo := pool [(1, .methodref 2 3), (0, .class_ 4), (0, .nameAndType 5 6), (0, u "com/example/ronda/ronda/engine/Der"), (0, u "<init>"), (0, u "([BII)V"), (0, .methodref 8 9), (0, .class_ 10), (0, .nameAndType 5 11), (0, u "java/lang/Object"), (0, u "()V"), (0, .fieldref 2 13), (0, .nameAndType 14 15), (0, u "bytes"), (0, u "[B"), (0, .fieldref 2 17), (0, .nameAndType 18 19), (0, u "position"), (0, u "I"), (0, .fieldref 2 21), (0, .nameAndType 22 19), (0, u "end"), (6, u "([B)V"), (20, .methodref 2 51), (0, .nameAndType 52 53), (0, u "hasMore"), (0, u "()Z"), (17, u "next"), (0, u "(I)Lcom/example/ronda/ronda/engine/Der;"), (10, u "INTEGER"), (2, u "BIT_STRING"), (1, u "OCTET_STRING"), (1, u "OBJECT_IDENTIFIER"), (1, u "SEQUENCE"), (7, u "nextIs"), (0, u "(I)Z")] 22

def k2c0 : Code := { maxStack := 4, maxLocals := 2, code := prog_5_method_1_code, exceptionTable := #[], attributes := #[] }
def k2m0 : Method := { name := "<init>", desc := "([B)V", sig := { parameters := [(.array .byte)], returnType := none }, accessFlags := 0, code := some k2c0 }
def k2c1 : Code := { maxStack := 2, maxLocals := 4, code := prog_5_method_2_code, exceptionTable := #[], attributes := #[] }
def k2m1 : Method := { name := "<init>", desc := "([BII)V", sig := { parameters := [(.array .byte), .int, .int], returnType := none }, accessFlags := 2, code := some k2c1 }
def k2c2 : Code := { maxStack := 2, maxLocals := 1, code := prog_5_method_4_code, exceptionTable := #[], attributes := #[] }
def k2m2 : Method := { name := "hasMore", desc := "()Z", sig := { parameters := [], returnType := some .boolean }, accessFlags := 0, code := some k2c2 }
def k2c3 : Code := { maxStack := 2, maxLocals := 2, code := prog_5_method_5_code, exceptionTable := #[], attributes := #[] }
def k2m3 : Method := { name := "nextIs", desc := "(I)Z", sig := { parameters := [.int], returnType := some .boolean }, accessFlags := 0, code := some k2c3 }
def k2c4 : Code := { maxStack := 5, maxLocals := 6, code := prog_5_method_6_code, exceptionTable := #[], attributes := #[] }
def k2m4 : Method := { name := "next", desc := "(I)Lcom/example/ronda/ronda/engine/Der;", sig := { parameters := [.int], returnType := some (.object "com/example/ronda/ronda/engine/Der") }, accessFlags := 0, code := some k2c4 }
/-- com/example/ronda/ronda/engine/Der -/
def k2 : Class := { plain "com/example/ronda/ronda/engine/Der" (some 0) with
  accessFlags := 48
  interfaces := #[]
  cf := some (fileOf pool2 2 #[] #[{ accessFlags := 0, nameIndex := 5, descriptorIndex := 29, attributes := #[] }, { accessFlags := 2, nameIndex := 5, descriptorIndex := 6, attributes := #[] }, { accessFlags := 0, nameIndex := 52, descriptorIndex := 53, attributes := #[] }, { accessFlags := 0, nameIndex := 100, descriptorIndex := 101, attributes := #[] }, { accessFlags := 0, nameIndex := 71, descriptorIndex := 72, attributes := #[] }] 48 8 #[] #[{ accessFlags := 24, nameIndex := 83, descriptorIndex := 19, attributes := #[] }, { accessFlags := 24, nameIndex := 86, descriptorIndex := 19, attributes := #[] }, { accessFlags := 24, nameIndex := 88, descriptorIndex := 19, attributes := #[] }, { accessFlags := 24, nameIndex := 90, descriptorIndex := 19, attributes := #[] }, { accessFlags := 24, nameIndex := 92, descriptorIndex := 19, attributes := #[] }, { accessFlags := 18, nameIndex := 14, descriptorIndex := 15, attributes := #[] }, { accessFlags := 18, nameIndex := 22, descriptorIndex := 19, attributes := #[] }, { accessFlags := 2, nameIndex := 18, descriptorIndex := 19, attributes := #[] }])
  fields := #[{ name := "INTEGER", type := .int, accessFlags := 24, slot := 0, constantValue := 0 }, { name := "BIT_STRING", type := .int, accessFlags := 24, slot := 1, constantValue := 0 }, { name := "OCTET_STRING", type := .int, accessFlags := 24, slot := 2, constantValue := 0 }, { name := "OBJECT_IDENTIFIER", type := .int, accessFlags := 24, slot := 3, constantValue := 0 }, { name := "SEQUENCE", type := .int, accessFlags := 24, slot := 4, constantValue := 0 }, { name := "bytes", type := (.array .byte), accessFlags := 18, slot := 0, constantValue := 0 }, { name := "end", type := .int, accessFlags := 18, slot := 1, constantValue := 0 }, { name := "position", type := .int, accessFlags := 2, slot := 2, constantValue := 0 }]
  methods := #[k2m0, k2m1, k2m2, k2m3, k2m4]
  instanceTypes := #[(.array .byte), .int, .int]
  staticTypes := #[.int, .int, .int, .int, .int]
  resolved := Array.replicate 124 none
  statics := none }

def pool3 : Array CpInfo := pool [(1, u "java/lang/Cloneable"), (0, .class_ 1), (0, u "java/lang/Object"), (0, .class_ 3)] 3

/-- java/lang/Cloneable -/
def k3 : Class := { plain "java/lang/Cloneable" (some 0) with
  accessFlags := 1537
  interfaces := #[]
  cf := some (fileOf pool3 2 #[] #[] 1537 4 #[] #[])
  fields := #[]
  methods := #[]
  instanceTypes := #[]
  staticTypes := #[]
  resolved := Array.replicate 8 none
  statics := none }

def pool4 : Array CpInfo := pool [(1, u "java/io/Serializable"), (0, .class_ 1), (0, u "java/lang/Object"), (0, .class_ 3)] 3

/-- java/io/Serializable -/
def k4 : Class := { plain "java/io/Serializable" (some 0) with
  accessFlags := 1537
  interfaces := #[]
  cf := some (fileOf pool4 2 #[] #[] 1537 4 #[] #[])
  fields := #[]
  methods := #[]
  instanceTypes := #[]
  staticTypes := #[]
  resolved := Array.replicate 8 none
  statics := none }

/-- the primitive byte -/
def k5 : Class := { plain "byte" none with kind := .primitive 'B', accessFlags := 0x411 }
/-- [B -/
def k6 : Class := { plain "[B" (some 0) with kind := .array 5 .byte, interfaces := #[3, 4], accessFlags := 1041 }

/-- the primitive int -/
def k7 : Class := { plain "int" none with kind := .primitive 'I', accessFlags := 0x411 }
/-- [I -/
def k8 : Class := { plain "[I" (some 0) with kind := .array 7 .int, interfaces := #[3, 4], accessFlags := 1041 }

def heap : Heap := #[]
def classes : Array Class := #[k0, k1, k2, k3, k4, k5, k6, k7, k8]
def interned : List (Array UInt16 × Addr) := []
def slotsUsed : Nat := 0
def theMethod : MethodId := ⟨1, 1⟩
def args0 : Array Value := #[.int 5, .int 5, .int 5, .int 5, .int 5, .int 5]
def aboutOver (below : List Frame) : State where
  vm := { classes := classes, interned := interned.toArray }
  heap := heap
  slotsUsed := slotsUsed
  threads := #[{ frames := .invoking theMethod args0 :: below }]
def below0 : List Frame := [.native { method := ⟨0, 0⟩, args := #[] }]
def about1 : State := aboutOver below0
def p0 : Program := .bare "" "" ""
def e0 : Env := launch0.env 0 0 0
theorem w_frames : about1.frames = Frame.invoking theMethod args0 :: below0 := rfl
set_option maxRecDepth 65536 in
theorem w_args : argsFit about1.vm theMethod args0 = true := by decide +kernel
set_option maxRecDepth 65536 in
theorem w_heap : heapFits about1 = true := by decide +kernel
set_option maxRecDepth 65536 in
theorem w_runnable : about1.curStatus? = some .runnable := by decide +kernel
set_option maxRecDepth 65536 in
theorem w_alone : about1.alone = true := by decide +kernel
set_option maxRecDepth 65536 in
theorem w_named : about1.methodNamed? x = some theMethod := by decide +kernel
set_option maxRecDepth 65536 in
theorem w_hears : about1.hears theMethod below0 = true := by decide +kernel
set_option maxRecDepth 65536 in
theorem w_ripe : about1.ripe theMethod args0 below0 = true := by decide +kernel
theorem w_running : about1.status = .running := rfl
set_option maxRecDepth 65536 in
theorem w_room : about1.hasRoom e0.platform room_1 = true :=
  launch0.hasRoom_least _ room_1 (by decide +kernel) (by decide +kernel) (by decide +kernel) (by decide +kernel) (by decide +kernel) (by decide +kernel)
theorem allAtoms_all (ts : List Jvm.Cond) (a : Array Jvm.Value) (st : Jvm.State) : (allAtoms ts).before a st = ts.all (fun c => c.before a st) := by
  induction ts with
  | nil => rfl
  | cons c t ih =>
    show (Jvm.Cond.and c (allAtoms t)).before a st = _
    rw [Jvm.Cond.before_and, ih, List.all_cons]
def words1 : List Jvm.Cond := Jvm.Cond.code x code maxLocals ret :: tables_1
/-- a 'code' word, met by the world's own term for the bytes: nothing is compared byte by byte -/
theorem code_word {y : MethodName} {bytes : ByteArray} {mx : Nat} {rt : Option FieldType} {a : Array Value} {s : State} {m : MethodId} {meth : Method} {c : Code} (h1 : s.methodNamed? y = some m) (h2 : s.vm.method? m = some meth) (h3 : meth.code = some c) (h4 : c.code = bytes)
    (h5 : (c.maxLocals == mx && c.exceptionTable.isEmpty && decide (c.maxStack ≤ mostOperands) && decide (meth.sig.returnType = rt) && !meth.locks && decide (parseMethodDescriptor y.desc = some meth.sig)) = true) : (Jvm.Cond.code y bytes mx rt).before a s = true := by
  simp only [Bool.and_eq_true, beq_iff_eq, Bool.not_eq_true', decide_eq_true_eq] at h5
  obtain ⟨⟨⟨⟨⟨g1, g2⟩, g3⟩, g4⟩, g5⟩, g6⟩ := h5
  simp [Cond.before, Cond.holds, Cond.value, h1, h2, h3, h4, g1, g2, g3, g4, g5, g6]
def isCode : Jvm.Cond → Bool
  | .code _ _ _ _ => true
  | _ => false
theorem all_split {L : List Jvm.Cond} {P : Jvm.Cond → Bool} (h1 : L.all (fun c => isCode c || P c) = true) (h2 : ∀ c ∈ L.filter isCode, P c = true) : L.all P = true := by
  refine List.all_eq_true.mpr fun c hc => ?_
  have h := List.all_eq_true.mp h1 c hc
  rcases Bool.eq_false_or_eq_true (isCode c) with hi | hi
  · exact h2 c (List.mem_filter.mpr ⟨hc, hi⟩)
  · simpa [hi] using h
set_option maxRecDepth 65536 in
theorem w_c0 : (Jvm.Cond.code x code maxLocals ret).before args0 about1 = true := code_word (m := ⟨1, 1⟩) (meth := k1m1) (c := k1c1) (by decide +kernel) rfl rfl rfl (by decide +kernel)
set_option maxRecDepth 65536 in
theorem w_c1 : (Jvm.Cond.code ({ cls := "com/example/ronda/ronda/engine/Der", name := "<init>", desc := "([B)V" } : Jvm.MethodName) prog_5_method_1_code (2 : Nat) (Option.none : Option Jvm.ClassFile.FieldType)).before args0 about1 = true := code_word (m := ⟨2, 0⟩) (meth := k2m0) (c := k2c0) (by decide +kernel) rfl rfl rfl (by decide +kernel)
set_option maxRecDepth 65536 in
theorem w_c2 : (Jvm.Cond.code ({ cls := "com/example/ronda/ronda/engine/Der", name := "<init>", desc := "([BII)V" } : Jvm.MethodName) prog_5_method_2_code (4 : Nat) (Option.none : Option Jvm.ClassFile.FieldType)).before args0 about1 = true := code_word (m := ⟨2, 1⟩) (meth := k2m1) (c := k2c1) (by decide +kernel) rfl rfl rfl (by decide +kernel)
set_option maxRecDepth 65536 in
theorem w_c3 : (Jvm.Cond.code ({ cls := "java/lang/Object", name := "<init>", desc := "()V" } : Jvm.MethodName) object_method_1_code (1 : Nat) (Option.none : Option Jvm.ClassFile.FieldType)).before args0 about1 = true := code_word (m := ⟨0, 0⟩) (meth := k0m0) (c := k0c0) (by decide +kernel) rfl rfl rfl (by decide +kernel)
set_option maxRecDepth 65536 in
theorem w_c4 : (Jvm.Cond.code ({ cls := "com/example/ronda/ronda/engine/Der", name := "next", desc := "(I)Lcom/example/ronda/ronda/engine/Der;" } : Jvm.MethodName) prog_5_method_6_code (6 : Nat) (Option.some (Jvm.ClassFile.FieldType.object "com/example/ronda/ronda/engine/Der"))).before args0 about1 = true := code_word (m := ⟨2, 4⟩) (meth := k2m4) (c := k2c4) (by decide +kernel) rfl rfl rfl (by decide +kernel)
set_option maxRecDepth 65536 in
theorem w_c5 : (Jvm.Cond.code ({ cls := "com/example/ronda/ronda/engine/Der", name := "nextIs", desc := "(I)Z" } : Jvm.MethodName) prog_5_method_5_code (2 : Nat) (Option.some Jvm.ClassFile.FieldType.boolean)).before args0 about1 = true := code_word (m := ⟨2, 3⟩) (meth := k2m3) (c := k2c3) (by decide +kernel) rfl rfl rfl (by decide +kernel)
set_option maxRecDepth 65536 in
theorem w_c6 : (Jvm.Cond.code ({ cls := "com/example/ronda/ronda/engine/Der", name := "hasMore", desc := "()Z" } : Jvm.MethodName) prog_5_method_4_code (1 : Nat) (Option.some Jvm.ClassFile.FieldType.boolean)).before args0 about1 = true := code_word (m := ⟨2, 2⟩) (meth := k2m2) (c := k2c2) (by decide +kernel) rfl rfl rfl (by decide +kernel)
def codes1 : List Jvm.Cond := [Jvm.Cond.code x code maxLocals ret, Jvm.Cond.code ({ cls := "com/example/ronda/ronda/engine/Der", name := "<init>", desc := "([B)V" } : Jvm.MethodName) prog_5_method_1_code (2 : Nat) (Option.none : Option Jvm.ClassFile.FieldType), Jvm.Cond.code ({ cls := "com/example/ronda/ronda/engine/Der", name := "<init>", desc := "([BII)V" } : Jvm.MethodName) prog_5_method_2_code (4 : Nat) (Option.none : Option Jvm.ClassFile.FieldType), Jvm.Cond.code ({ cls := "java/lang/Object", name := "<init>", desc := "()V" } : Jvm.MethodName) object_method_1_code (1 : Nat) (Option.none : Option Jvm.ClassFile.FieldType), Jvm.Cond.code ({ cls := "com/example/ronda/ronda/engine/Der", name := "next", desc := "(I)Lcom/example/ronda/ronda/engine/Der;" } : Jvm.MethodName) prog_5_method_6_code (6 : Nat) (Option.some (Jvm.ClassFile.FieldType.object "com/example/ronda/ronda/engine/Der")), Jvm.Cond.code ({ cls := "com/example/ronda/ronda/engine/Der", name := "nextIs", desc := "(I)Z" } : Jvm.MethodName) prog_5_method_5_code (2 : Nat) (Option.some Jvm.ClassFile.FieldType.boolean), Jvm.Cond.code ({ cls := "com/example/ronda/ronda/engine/Der", name := "hasMore", desc := "()Z" } : Jvm.MethodName) prog_5_method_4_code (1 : Nat) (Option.some Jvm.ClassFile.FieldType.boolean)]
set_option maxRecDepth 65536 in
theorem codes_eq : words1.filter isCode = codes1 := rfl
theorem w_codes : ∀ c ∈ words1.filter isCode, c.before args0 about1 = true := by
  rw [codes_eq]
  intro c hc
  simp only [codes1, List.mem_cons, List.not_mem_nil, or_false] at hc
  rcases hc with rfl | rfl | rfl | rfl | rfl | rfl | rfl
  · exact w_c0
  · exact w_c1
  · exact w_c2
  · exact w_c3
  · exact w_c4
  · exact w_c5
  · exact w_c6
set_option maxRecDepth 65536 in
theorem w_t1 : (words1.take 24).all (fun c => isCode c || c.before args0 about1) = true := by decide +kernel
set_option maxRecDepth 65536 in
theorem w_t2 : (words1.drop 24).all (fun c => isCode c || c.before args0 about1) = true := by decide +kernel
theorem w_tables : (allAtoms (Jvm.Cond.code x code maxLocals ret :: tables_1)).before args0 about1 = true := by
  rw [allAtoms_all]
  show words1.all (fun c => c.before args0 about1) = true
  refine all_split ?_ w_codes
  rw [← List.take_append_drop 24 words1, List.all_append, w_t1, w_t2]
  rfl
set_option maxRecDepth 65536 in
theorem w_case : (Jvm.Cond.and given_1 narrow_1).before args0 about1 = true := by decide +kernel
theorem w_applies : (headSpec (Jvm.Cond.code x code maxLocals ret :: tables_1) room_1).applies x e0.platform about1 = true :=
  (Spec.applies_iff w_frames).mpr ⟨w_running, w_runnable, w_alone, w_named, w_hears, w_ripe, w_room, w_tables⟩
theorem atStart : AtStart classFile x code maxLocals ret World_1 tables_1 room_1 Calls_1 rest_1 Pre_1 launch0 p0 e0 about1 theMethod args0 below0 :=
  ⟨lists_1, trivial, launch0.admits_env _ _ _, launch0.least_env, fairChoices_fair.cas, fairChoices_fair.clock, w_frames, w_args, w_heap, w_applies, trivial, trivial, w_case⟩
end start1
theorem witness_1 : WitnessClaimed_1 := ⟨start1.p0, start1.e0, start1.about1, start1.theMethod, start1.args0, start1.below0, start1.atStart⟩
end Jvm.Pilot.@@N@@
