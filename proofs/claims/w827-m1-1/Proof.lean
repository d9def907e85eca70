import JvmDerived
import JvmDerived.Pilot.@@N@@Statement
import JvmDerived.Pilot.@@N@@Code
set_option linter.unusedVariables false
set_option linter.unusedSimpArgs false
namespace Jvm.Pilot.@@N@@
open Jvm Jvm.ClassFile Sem Op Lib Jvm.Free Jvm.Stand Jvm.LawKit Jvm.RoadKit Bundle Jvm.Pilot.@@N@@.Jvm.D

section OwnKit
/-- from here the run comes to a return that says Q -/
def OFin (n0 : Nat) (p : Program) (e : Env) (below : List Frame) (s : State) (Q : Option Value → Heap → Prop) (ck sk : Nat) (T : State) (g : JFrame) : Prop :=
  ∃ s₂ o, Steps p.tables e below (T.setTop g) s₂ ∧ s₂.status = .running ∧ Ended s₂ below o ∧ ∃ v L, o = .returned v ∧ (Fr n0 L ∧ n0 ≤ s₂.heap.size ∧ Q v s₂.heap) ∧ FrameEnd s o s₂ L ck sk
/-- where the walk of a body stands, with all that is known of the body -/
def OG (l : Launch) (Z : State) (y : MethodName) (bytes : ByteArray) (maxl : Nat) (ret : Option FieldType) (n0 : Nat) (p : Program) (e : Env) (R : Room) (s : State) (m : MethodId) (args : Array Value) (below : List Frame) (meth : Method) (c : Code) (T : State) (h : Heap) (cells slots : Nat) : Prop :=
  p.tables.exec = Jvm.exec ∧ c.code = bytes ∧ c.maxLocals = maxl ∧ s.vm.findClass y.cls = some m.cls ∧ meth.name = y.name ∧ meth.sig.returnType = ret ∧ meth.locks = false ∧ Z.Warmed39 s.vm ∧ T.heap = h ∧ n0 ≤ h.size ∧ ∃ locs, Stand p l e R s m args below meth c T locs cells slots ∧ Fr n0 locs
/-- a body's contract -/
def OMet (l : Launch) (Z : State) (y : MethodName) (bytes : ByteArray) (maxl : Nat) (ret : Option FieldType) (rm : Room) (as' : Array Value) (h0 : Heap) (n0 : Nat) (ck sk : Nat) (Q : Option Value → Heap → Prop) : Prop :=
  ∀ ws : List Jvm.Cond, MetFree l y (head1 (Jvm.Cond.code y bytes maxl ret :: ws) rm) (fun a U => a = as' ∧ Z.Warmed39 U.vm ∧ U.heap = h0) (fun _ _ _ _ _ => True) (fun _ U o U' => ∃ v L, o = .returned v ∧ (Fr n0 L ∧ n0 ≤ U'.heap.size ∧ Q v U'.heap) ∧ FrameEnd U o U' L ck sk)
variable {l : Launch} {Z : State} {y : MethodName} {bytes : ByteArray} {maxl : Nat} {ret : Option FieldType} {n0 : Nat} {p : Program} {e : Env} {R : Room} {s : State} {m : MethodId} {args : Array Value} {below : List Frame} {meth : Method} {c : Code} {T : State} {h : Heap} {cells slots ck sk : Nat} {Q : Option Value → Heap → Prop} {pc pc' : Nat} {Ls : Array Slot} {rest : List Value} {a0 : Array Value}
theorem o_step {T' : State} {g g' : JFrame} (st : ∀ t, Steps p.tables e below (T'.setTop g') t → Steps p.tables e below (T.setTop g) t) (k : OFin n0 p e below s Q ck sk T' g') : OFin n0 p e below s Q ck sk T g := by
  obtain ⟨s₂, o, h1, r⟩ := k
  exact ⟨s₂, o, st _ h1, r⟩
theorem o_body {rm : Room} {as' : Array Value} {h0 : Heap} (hy : plainFor y = true) (hz : n0 ≤ h0.size) (hent : ∀ m, entryFrame m as' maxl = mkF m 0 Ls [])
    (body : ∀ (p : Program) (e : Env) (s : State) (m : MethodId) (below : List Frame) (meth : Method) (c : Code) (s₁ : State), OG l Z y bytes maxl ret n0 p e rm s m as' below meth c s₁ h0 0 0 → OFin n0 p e below s Q ck sk s₁ (mkF m 0 Ls [])) : OMet l Z y bytes maxl ret rm as' h0 n0 ck sk Q := by
  intro ws
  refine MetFree.of_bodySF hy hisR ?_
  intro p e s m args below meth c s₁ Bd hml0 hP hK
  obtain ⟨ha, hZ, hh⟩ := hP
  subst ha
  have e0 : s₁.heap = h0 := by rw [← hh, Bd.state]; rfl
  have k := body p e s m below meth c s₁ ⟨Bd.exec, Bd.bytes, hml0, findClass_of_methodNamed Bd.named, (name_of_methodNamed Bd.named Bd.method).1, Bd.returns, Bd.notSynchronized, hZ, e0, hz, [], Stand.of_body Bd, Fr.nil n0⟩
  rw [← hent m] at k
  exact k
theorem OG.sz (G : OG l Z y bytes maxl ret n0 p e R s m args below meth c T h cells slots) : n0 ≤ h.size := G.2.2.2.2.2.2.2.2.2.1
theorem OG.eh (G : OG l Z y bytes maxl ret n0 p e R s m args below meth c T h cells slots) : T.heap = h := G.2.2.2.2.2.2.2.2.1
theorem OG.wm (G : OG l Z y bytes maxl ret n0 p e R s m args below meth c T h cells slots) : Z.Warmed39 s.vm := G.2.2.2.2.2.2.2.1
theorem o_iloadN (G : OG l Z y bytes maxl ret n0 p e R s m args below meth c T h cells slots) {k0 : Fin 4} {v : Int32} (hd : decode bytes pc = .ok (.iload_n k0, 1)) (hp : pc + 1 = pc') (hl : Ls[k0.val]? = some (.val (.int v))) (k : OFin n0 p e below s Q ck sk T (mkF m pc' Ls (.int v :: rest))) : OFin n0 p e below s Q ck sk T (mkF m pc Ls rest) := by
  subst hp
  obtain ⟨hx, hby, -, -, -, -, -, -, -, -, locs, X, -⟩ := G
  exact o_step (fun _ hr => XS.iloadN X.here hx rfl (hb hby hd) hl hr) k
theorem o_iload (G : OG l Z y bytes maxl ret n0 p e R s m args below meth c T h cells slots) {k0 : Nat} {v : Int32} (hd : decode bytes pc = .ok (.iload k0, 2)) (hp : pc + 2 = pc') (hl : Ls[k0]? = some (.val (.int v))) (k : OFin n0 p e below s Q ck sk T (mkF m pc' Ls (.int v :: rest))) : OFin n0 p e below s Q ck sk T (mkF m pc Ls rest) := by
  subst hp
  obtain ⟨hx, hby, -, -, -, -, -, -, -, -, locs, X, -⟩ := G
  exact o_step (fun _ hr => XS.iload X.here hx rfl (hb hby hd) hl hr) k
theorem o_aloadN (G : OG l Z y bytes maxl ret n0 p e R s m args below meth c T h cells slots) {k0 : Fin 4} {v : Value} (hd : decode bytes pc = .ok (.aload_n k0, 1)) (hp : pc + 1 = pc') (hl : Ls[k0.val]? = some (.val v)) (hv : v.isRef = true) (k : OFin n0 p e below s Q ck sk T (mkF m pc' Ls (v :: rest))) : OFin n0 p e below s Q ck sk T (mkF m pc Ls rest) := by
  subst hp
  obtain ⟨hx, hby, -, -, -, -, -, -, -, -, locs, X, -⟩ := G
  exact o_step (fun _ hr => XS.aloadN X.here hx rfl (hb hby hd) hl hv hr) k
theorem o_aload (G : OG l Z y bytes maxl ret n0 p e R s m args below meth c T h cells slots) {k0 : Nat} {v : Value} (hd : decode bytes pc = .ok (.aload k0, 2)) (hp : pc + 2 = pc') (hl : Ls[k0]? = some (.val v)) (hv : v.isRef = true) (k : OFin n0 p e below s Q ck sk T (mkF m pc' Ls (v :: rest))) : OFin n0 p e below s Q ck sk T (mkF m pc Ls rest) := by
  subst hp
  obtain ⟨hx, hby, -, -, -, -, -, -, -, -, locs, X, -⟩ := G
  exact o_step (fun _ hr => XS.aload X.here hx rfl (hb hby hd) hl hv hr) k
theorem o_istoreN (G : OG l Z y bytes maxl ret n0 p e R s m args below meth c T h cells slots) {k0 : Fin 4} {v : Int32} {l' : Array Slot} (hd : decode bytes pc = .ok (.istore_n k0, 1)) (hp : pc + 1 = pc') (hl : storeLocals Ls k0.val (.int v) = some l') (k : OFin n0 p e below s Q ck sk T (mkF m pc' l' rest)) : OFin n0 p e below s Q ck sk T (mkF m pc Ls (.int v :: rest)) := by
  subst hp
  obtain ⟨hx, hby, -, -, -, -, -, -, -, -, locs, X, -⟩ := G
  exact o_step (fun _ hr => XS.istoreN X.here hx rfl (hb hby hd) rfl hl hr) k
theorem o_istore (G : OG l Z y bytes maxl ret n0 p e R s m args below meth c T h cells slots) {k0 : Nat} {v : Int32} {l' : Array Slot} (hd : decode bytes pc = .ok (.istore k0, 2)) (hp : pc + 2 = pc') (hl : storeLocals Ls k0 (.int v) = some l') (k : OFin n0 p e below s Q ck sk T (mkF m pc' l' rest)) : OFin n0 p e below s Q ck sk T (mkF m pc Ls (.int v :: rest)) := by
  subst hp
  obtain ⟨hx, hby, -, -, -, -, -, -, -, -, locs, X, -⟩ := G
  exact o_step (fun _ hr => XS.istore X.here hx rfl (hb hby hd) rfl hl hr) k
theorem o_astoreN (G : OG l Z y bytes maxl ret n0 p e R s m args below meth c T h cells slots) {k0 : Fin 4} {v : Value} {l' : Array Slot} (hd : decode bytes pc = .ok (.astore_n k0, 1)) (hp : pc + 1 = pc') (hv : v.isRef = true) (hl : storeLocals Ls k0.val v = some l') (k : OFin n0 p e below s Q ck sk T (mkF m pc' l' rest)) : OFin n0 p e below s Q ck sk T (mkF m pc Ls (v :: rest)) := by
  subst hp
  obtain ⟨hx, hby, -, -, -, -, -, -, -, -, locs, X, -⟩ := G
  exact o_step (fun _ hr => XS.astoreN X.here hx rfl (hb hby hd) rfl hv hl hr) k
theorem o_astore (G : OG l Z y bytes maxl ret n0 p e R s m args below meth c T h cells slots) {k0 : Nat} {v : Value} {l' : Array Slot} (hd : decode bytes pc = .ok (.astore k0, 2)) (hp : pc + 2 = pc') (hv : v.isRef = true) (hl : storeLocals Ls k0 v = some l') (k : OFin n0 p e below s Q ck sk T (mkF m pc' l' rest)) : OFin n0 p e below s Q ck sk T (mkF m pc Ls (v :: rest)) := by
  subst hp
  obtain ⟨hx, hby, -, -, -, -, -, -, -, -, locs, X, -⟩ := G
  exact o_step (fun _ hr => XS.astore X.here hx rfl (hb hby hd) rfl hv hl hr) k
theorem o_iconst (G : OG l Z y bytes maxl ret n0 p e R s m args below meth c T h cells slots) {i : Int} {v : Int32} (hd : decode bytes pc = .ok (.iconst i, 1)) (hp : pc + 1 = pc') (hv : Int32.ofInt i = v) (k : OFin n0 p e below s Q ck sk T (mkF m pc' Ls (.int v :: rest))) : OFin n0 p e below s Q ck sk T (mkF m pc Ls rest) := by
  subst hp
  subst hv
  obtain ⟨hx, hby, -, -, -, -, -, -, -, -, locs, X, -⟩ := G
  exact o_step (fun _ hr => XS.iconst X.here hx rfl (hb hby hd) hr) k
theorem o_bipush (G : OG l Z y bytes maxl ret n0 p e R s m args below meth c T h cells slots) {i : Int} {v : Int32} (hd : decode bytes pc = .ok (.bipush i, 2)) (hp : pc + 2 = pc') (hv : (Int8.ofInt i).toInt32 = v) (k : OFin n0 p e below s Q ck sk T (mkF m pc' Ls (.int v :: rest))) : OFin n0 p e below s Q ck sk T (mkF m pc Ls rest) := by
  subst hp
  subst hv
  obtain ⟨hx, hby, -, -, -, -, -, -, -, -, locs, X, -⟩ := G
  exact o_step (fun _ hr => XS.bipush X.here hx rfl (hb hby hd) hr) k
theorem o_sipush (G : OG l Z y bytes maxl ret n0 p e R s m args below meth c T h cells slots) {i : Int} {v : Int32} (hd : decode bytes pc = .ok (.sipush i, 3)) (hp : pc + 3 = pc') (hv : (Int16.ofInt i).toInt32 = v) (k : OFin n0 p e below s Q ck sk T (mkF m pc' Ls (.int v :: rest))) : OFin n0 p e below s Q ck sk T (mkF m pc Ls rest) := by
  subst hp
  subst hv
  obtain ⟨hx, hby, -, -, -, -, -, -, -, -, locs, X, -⟩ := G
  exact o_step (fun _ hr => XS.sipush X.here hx rfl (hb hby hd) hr) k
theorem o_iadd (G : OG l Z y bytes maxl ret n0 p e R s m args below meth c T h cells slots) {u w v : Int32} (hd : decode bytes pc = .ok (.iadd, 1)) (hp : pc + 1 = pc') (hv : u + w = v) (k : OFin n0 p e below s Q ck sk T (mkF m pc' Ls (.int v :: rest))) : OFin n0 p e below s Q ck sk T (mkF m pc Ls (.int w :: .int u :: rest)) := by
  subst hp
  subst hv
  obtain ⟨hx, hby, -, -, -, -, -, -, -, -, locs, X, -⟩ := G
  exact o_step (fun _ hr => XS.iadd X.here hx rfl (hb hby hd) rfl hr) k
theorem o_isub (G : OG l Z y bytes maxl ret n0 p e R s m args below meth c T h cells slots) {u w v : Int32} (hd : decode bytes pc = .ok (.isub, 1)) (hp : pc + 1 = pc') (hv : u - w = v) (k : OFin n0 p e below s Q ck sk T (mkF m pc' Ls (.int v :: rest))) : OFin n0 p e below s Q ck sk T (mkF m pc Ls (.int w :: .int u :: rest)) := by
  subst hp
  subst hv
  obtain ⟨hx, hby, -, -, -, -, -, -, -, -, locs, X, -⟩ := G
  exact o_step (fun _ hr => XS.isub X.here hx rfl (hb hby hd) rfl hr) k
theorem o_iand (G : OG l Z y bytes maxl ret n0 p e R s m args below meth c T h cells slots) {u w v : Int32} (hd : decode bytes pc = .ok (.iand, 1)) (hp : pc + 1 = pc') (hv : u &&& w = v) (k : OFin n0 p e below s Q ck sk T (mkF m pc' Ls (.int v :: rest))) : OFin n0 p e below s Q ck sk T (mkF m pc Ls (.int w :: .int u :: rest)) := by
  subst hp
  subst hv
  obtain ⟨hx, hby, -, -, -, -, -, -, -, -, locs, X, -⟩ := G
  exact o_step (fun _ hr => XS.iand X.here hx rfl (hb hby hd) rfl hr) k
theorem o_ishr (G : OG l Z y bytes maxl ret n0 p e R s m args below meth c T h cells slots) {u v : Int32} {w : Int32} (hd : decode bytes pc = .ok (.ishr, 1)) (hp : pc + 1 = pc') (hv : u >>> (w &&& 31) = v) (k : OFin n0 p e below s Q ck sk T (mkF m pc' Ls (.int v :: rest))) : OFin n0 p e below s Q ck sk T (mkF m pc Ls (.int w :: .int u :: rest)) := by
  subst hp
  subst hv
  obtain ⟨hx, hby, -, -, -, -, -, -, -, -, locs, X, -⟩ := G
  exact o_step (fun _ hr => XS.ishr X.here hx rfl (hb hby hd) rfl hr) k
theorem o_i2b (G : OG l Z y bytes maxl ret n0 p e R s m args below meth c T h cells slots) {u : Int32} {v : Int32} (hd : decode bytes pc = .ok (.i2b, 1)) (hp : pc + 1 = pc') (hv : u.toInt8.toInt32 = v) (k : OFin n0 p e below s Q ck sk T (mkF m pc' Ls (.int v :: rest))) : OFin n0 p e below s Q ck sk T (mkF m pc Ls (.int u :: rest)) := by
  subst hp
  subst hv
  obtain ⟨hx, hby, -, -, -, -, -, -, -, -, locs, X, -⟩ := G
  exact o_step (fun _ hr => XS.i2b X.here hx rfl (hb hby hd) rfl hr) k
theorem o_irem (G : OG l Z y bytes maxl ret n0 p e R s m args below meth c T h cells slots) {u w v : Int32} (hd : decode bytes pc = .ok (.irem, 1)) (hp : pc + 1 = pc') (hw0 : w ≠ 0) (hv : u % w = v) (k : OFin n0 p e below s Q ck sk T (mkF m pc' Ls (.int v :: rest))) : OFin n0 p e below s Q ck sk T (mkF m pc Ls (.int w :: .int u :: rest)) := by
  subst hp
  subst hv
  obtain ⟨hx, hby, -, -, -, -, -, -, -, -, locs, X, -⟩ := G
  exact o_step (fun _ hr => iremM X hx rfl (hb hby hd) rfl hw0 hr) k
theorem o_dup (G : OG l Z y bytes maxl ret n0 p e R s m args below meth c T h cells slots) {v : Value} (hd : decode bytes pc = .ok (.dup, 1)) (hp : pc + 1 = pc') (hc : v.category = 1) (k : OFin n0 p e below s Q ck sk T (mkF m pc' Ls (v :: v :: rest))) : OFin n0 p e below s Q ck sk T (mkF m pc Ls (v :: rest)) := by
  subst hp
  obtain ⟨hx, hby, -, -, -, -, -, -, -, -, locs, X, -⟩ := G
  exact o_step (fun _ hr => XS.dup X.here hx rfl (hb hby hd) rfl hc hr) k
theorem o_goto (G : OG l Z y bytes maxl ret n0 p e R s m args below meth c T h cells slots) {o : Int} (hd : decode bytes pc = .ok (.goto o, 3)) (ho : 0 ≤ (pc : Int) + o) (hp : ((pc : Int) + o).toNat = pc') (k : OFin n0 p e below s Q ck sk T (mkF m pc' Ls rest)) : OFin n0 p e below s Q ck sk T (mkF m pc Ls rest) := by
  obtain ⟨hx, hby, -, -, -, -, -, -, -, -, locs, X, -⟩ := G
  exact o_step (fun _ hr => XS.goto X.here hx rfl (pc0 := pc) (pc' := pc') rfl (hb hby hd) ho hp hr) k
theorem o_icmp_lt (G : OG l Z y bytes maxl ret n0 p e R s m args below meth c T h cells slots) {o : Int} {pcT : Nat} {u w : Int32} (hd : decode bytes pc = .ok (.if_icmp .lt o, 3)) (ho : 0 ≤ (pc : Int) + o) (hpT : ((pc : Int) + o).toNat = pcT) (hp : pc + 3 = pc') (kT : u < w → OFin n0 p e below s Q ck sk T (mkF m pcT Ls rest)) (kF : ¬ u < w → OFin n0 p e below s Q ck sk T (mkF m pc' Ls rest)) : OFin n0 p e below s Q ck sk T (mkF m pc Ls (.int w :: .int u :: rest)) := by
  subst hp
  obtain ⟨hx, hby, -, -, -, -, -, -, -, -, locs, X, -⟩ := G
  by_cases q : u < w
  · exact o_step (fun _ hr => XS.icmpYes X.here hx rfl (pc0 := pc) (pc' := pcT) rfl (hb hby hd) rfl (tlt q).1 ho hpT hr) (kT q)
  · exact o_step (fun _ hr => XS.icmpNo X.here hx rfl (hb hby hd) rfl (flt q).1 hr) (kF q)
theorem o_icmp_ge (G : OG l Z y bytes maxl ret n0 p e R s m args below meth c T h cells slots) {o : Int} {pcT : Nat} {u w : Int32} (hd : decode bytes pc = .ok (.if_icmp .ge o, 3)) (ho : 0 ≤ (pc : Int) + o) (hpT : ((pc : Int) + o).toNat = pcT) (hp : pc + 3 = pc') (kT : ¬ u < w → OFin n0 p e below s Q ck sk T (mkF m pcT Ls rest)) (kF : u < w → OFin n0 p e below s Q ck sk T (mkF m pc' Ls rest)) : OFin n0 p e below s Q ck sk T (mkF m pc Ls (.int w :: .int u :: rest)) := by
  subst hp
  obtain ⟨hx, hby, -, -, -, -, -, -, -, -, locs, X, -⟩ := G
  by_cases q : ¬ u < w
  · exact o_step (fun _ hr => XS.icmpYes X.here hx rfl (pc0 := pc) (pc' := pcT) rfl (hb hby hd) rfl (flt q).2.1 ho hpT hr) (kT q)
  · have q := Decidable.not_not.mp q
    exact o_step (fun _ hr => XS.icmpNo X.here hx rfl (hb hby hd) rfl (tlt q).2.1 hr) (kF q)
theorem o_icmp_le (G : OG l Z y bytes maxl ret n0 p e R s m args below meth c T h cells slots) {o : Int} {pcT : Nat} {u w : Int32} (hd : decode bytes pc = .ok (.if_icmp .le o, 3)) (ho : 0 ≤ (pc : Int) + o) (hpT : ((pc : Int) + o).toNat = pcT) (hp : pc + 3 = pc') (kT : ¬ w < u → OFin n0 p e below s Q ck sk T (mkF m pcT Ls rest)) (kF : w < u → OFin n0 p e below s Q ck sk T (mkF m pc' Ls rest)) : OFin n0 p e below s Q ck sk T (mkF m pc Ls (.int w :: .int u :: rest)) := by
  subst hp
  obtain ⟨hx, hby, -, -, -, -, -, -, -, -, locs, X, -⟩ := G
  by_cases q : ¬ w < u
  · exact o_step (fun _ hr => XS.icmpYes X.here hx rfl (pc0 := pc) (pc' := pcT) rfl (hb hby hd) rfl (flt q).2.2.2 ho hpT hr) (kT q)
  · have q := Decidable.not_not.mp q
    exact o_step (fun _ hr => XS.icmpNo X.here hx rfl (hb hby hd) rfl (tlt q).2.2.2 hr) (kF q)
theorem o_if_le (G : OG l Z y bytes maxl ret n0 p e R s m args below meth c T h cells slots) {o : Int} {pcT : Nat} {u : Int32} (hd : decode bytes pc = .ok (.ifCond .le o, 3)) (ho : 0 ≤ (pc : Int) + o) (hpT : ((pc : Int) + o).toNat = pcT) (hp : pc + 3 = pc') (kT : ¬ (0 : Int32) < u → OFin n0 p e below s Q ck sk T (mkF m pcT Ls rest)) (kF : (0 : Int32) < u → OFin n0 p e below s Q ck sk T (mkF m pc' Ls rest)) : OFin n0 p e below s Q ck sk T (mkF m pc Ls (.int u :: rest)) := by
  subst hp
  obtain ⟨hx, hby, -, -, -, -, -, -, -, -, locs, X, -⟩ := G
  by_cases q : ¬ (0 : Int32) < u
  · exact o_step (fun _ hr => XS.ifYes X.here hx rfl (pc0 := pc) (pc' := pcT) rfl (hb hby hd) rfl ((if0 _ _).trans (flt q).2.2.2) ho hpT hr) (kT q)
  · have q := Decidable.not_not.mp q
    exact o_step (fun _ hr => XS.ifNo X.here hx rfl (hb hby hd) rfl ((if0 _ _).trans (tlt q).2.2.2) hr) (kF q)
theorem o_icmp_eq (G : OG l Z y bytes maxl ret n0 p e R s m args below meth c T h cells slots) {o : Int} {pcT : Nat} {u w : Int32} (hd : decode bytes pc = .ok (.if_icmp .eq o, 3)) (ho : 0 ≤ (pc : Int) + o) (hpT : ((pc : Int) + o).toNat = pcT) (hp : pc + 3 = pc') (kT : u = w → OFin n0 p e below s Q ck sk T (mkF m pcT Ls rest)) (kF : ¬ u = w → OFin n0 p e below s Q ck sk T (mkF m pc' Ls rest)) : OFin n0 p e below s Q ck sk T (mkF m pc Ls (.int w :: .int u :: rest)) := by
  subst hp
  obtain ⟨hx, hby, -, -, -, -, -, -, -, -, locs, X, -⟩ := G
  by_cases q : u = w
  · exact o_step (fun _ hr => XS.icmpYes X.here hx rfl (pc0 := pc) (pc' := pcT) rfl (hb hby hd) rfl (teq q).1 ho hpT hr) (kT q)
  · exact o_step (fun _ hr => XS.icmpNo X.here hx rfl (hb hby hd) rfl (feq q).1 hr) (kF q)
theorem o_if_eq (G : OG l Z y bytes maxl ret n0 p e R s m args below meth c T h cells slots) {o : Int} {pcT : Nat} {u : Int32} (hd : decode bytes pc = .ok (.ifCond .eq o, 3)) (ho : 0 ≤ (pc : Int) + o) (hpT : ((pc : Int) + o).toNat = pcT) (hp : pc + 3 = pc') (kT : u = (0 : Int32) → OFin n0 p e below s Q ck sk T (mkF m pcT Ls rest)) (kF : ¬ u = (0 : Int32) → OFin n0 p e below s Q ck sk T (mkF m pc' Ls rest)) : OFin n0 p e below s Q ck sk T (mkF m pc Ls (.int u :: rest)) := by
  subst hp
  obtain ⟨hx, hby, -, -, -, -, -, -, -, -, locs, X, -⟩ := G
  by_cases q : u = (0 : Int32)
  · exact o_step (fun _ hr => XS.ifYes X.here hx rfl (pc0 := pc) (pc' := pcT) rfl (hb hby hd) rfl ((if0 _ _).trans (teq q).1) ho hpT hr) (kT q)
  · exact o_step (fun _ hr => XS.ifNo X.here hx rfl (hb hby hd) rfl ((if0 _ _).trans (feq q).1) hr) (kF q)
theorem o_icmp_ne (G : OG l Z y bytes maxl ret n0 p e R s m args below meth c T h cells slots) {o : Int} {pcT : Nat} {u w : Int32} (hd : decode bytes pc = .ok (.if_icmp .ne o, 3)) (ho : 0 ≤ (pc : Int) + o) (hpT : ((pc : Int) + o).toNat = pcT) (hp : pc + 3 = pc') (kT : ¬ u = w → OFin n0 p e below s Q ck sk T (mkF m pcT Ls rest)) (kF : u = w → OFin n0 p e below s Q ck sk T (mkF m pc' Ls rest)) : OFin n0 p e below s Q ck sk T (mkF m pc Ls (.int w :: .int u :: rest)) := by
  subst hp
  obtain ⟨hx, hby, -, -, -, -, -, -, -, -, locs, X, -⟩ := G
  by_cases q : ¬ u = w
  · exact o_step (fun _ hr => XS.icmpYes X.here hx rfl (pc0 := pc) (pc' := pcT) rfl (hb hby hd) rfl (feq q).2 ho hpT hr) (kT q)
  · have q := Decidable.not_not.mp q
    exact o_step (fun _ hr => XS.icmpNo X.here hx rfl (hb hby hd) rfl (teq q).2 hr) (kF q)
theorem o_if_ne (G : OG l Z y bytes maxl ret n0 p e R s m args below meth c T h cells slots) {o : Int} {pcT : Nat} {u : Int32} (hd : decode bytes pc = .ok (.ifCond .ne o, 3)) (ho : 0 ≤ (pc : Int) + o) (hpT : ((pc : Int) + o).toNat = pcT) (hp : pc + 3 = pc') (kT : ¬ u = (0 : Int32) → OFin n0 p e below s Q ck sk T (mkF m pcT Ls rest)) (kF : u = (0 : Int32) → OFin n0 p e below s Q ck sk T (mkF m pc' Ls rest)) : OFin n0 p e below s Q ck sk T (mkF m pc Ls (.int u :: rest)) := by
  subst hp
  obtain ⟨hx, hby, -, -, -, -, -, -, -, -, locs, X, -⟩ := G
  by_cases q : ¬ u = (0 : Int32)
  · exact o_step (fun _ hr => XS.ifYes X.here hx rfl (pc0 := pc) (pc' := pcT) rfl (hb hby hd) rfl ((if0 _ _).trans (feq q).2) ho hpT hr) (kT q)
  · have q := Decidable.not_not.mp q
    exact o_step (fun _ hr => XS.ifNo X.here hx rfl (hb hby hd) rfl ((if0 _ _).trans (teq q).2) hr) (kF q)
theorem o_ldc (G : OG l Z y bytes maxl ret n0 p e R s m args below meth c T h cells slots) {index : Nat} {v : Int32} (hd : decode bytes pc = .ok (.ldc index, 2)) (hp : pc + 2 = pc') (w : (Jvm.Cond.constant y.cls index v).before a0 Z = true) (k : OFin n0 p e below s Q ck sk T (mkF m pc' Ls (.int v :: rest))) : OFin n0 p e below s Q ck sk T (mkF m pc Ls rest) := by
  subst hp
  obtain ⟨hx, hby, -, hown, -, -, -, hZ, -, -, locs, X, -⟩ := G
  exact o_step (fun _ hr => X.ldcInt hx hown (mvT hZ w) (g := (mkF m pc Ls rest)) rfl (hb hby hd) _ hr) k
theorem o_areturn {v : Value} {t : FieldType} (G : OG l Z y bytes maxl (some t) n0 p e R s m args below meth c T h cells slots) (hn : narrow t v = v) (ht : t.isReference = true) (hv : v.isRef = true) (hd : decode bytes pc = .ok (.areturn, 1)) (hq : Q (some v) h) (hc : cells ≤ ck) (hs : slots ≤ sk) : OFin n0 p e below s Q ck sk T (mkF m pc Ls (v :: rest)) := by
  obtain ⟨hx, hby, -, -, -, hret, hlk, -, eT, hz, locs, X, N⟩ := G
  obtain ⟨fs, hr, hrun, hended, hW, hsame⟩ := X.leave (v := some v) (fun h => by rw [hret] at h; cases h) hlk
  refine ⟨_, _, retOut X hx hret hn (Or.inr (Or.inr (Or.inr (Or.inr ⟨rfl, ht, hv⟩)))) (hb hby hd) hr, hrun, hended, _, _, rfl, ⟨N, ?_, ?_⟩, ⟨_, rfl⟩, hW, hsame.mono hc hs⟩
  · show n0 ≤ T.heap.size
    rw [eT]; exact hz
  · show Q _ T.heap
    rw [eT]; exact hq
theorem o_nreturn {v : Int32} {t : FieldType} (G : OG l Z y bytes maxl (some t) n0 p e R s m args below meth c T h cells slots) (ht : t = .boolean ∨ t = .byte ∨ t = .char ∨ t = .short) (hd : decode bytes pc = .ok (.ireturn, 1)) (hq : Q (some (.int (nar t v))) h) (hc : cells ≤ ck) (hs : slots ≤ sk) : OFin n0 p e below s Q ck sk T (mkF m pc Ls (.int v :: rest)) := by
  obtain ⟨hx, hby, -, -, -, hret, hlk, -, eT, hz, locs, X, N⟩ := G
  obtain ⟨fs, hr, hrun, hended, hW, hsame⟩ := X.leave (v := some (.int (nar t v))) (fun h => by rw [hret] at h; cases h) hlk
  refine ⟨_, _, retN X hx hret ht (hb hby hd) hr, hrun, hended, _, _, rfl, ⟨N, ?_, ?_⟩, ⟨_, rfl⟩, hW, hsame.mono hc hs⟩
  · show n0 ≤ T.heap.size
    rw [eT]; exact hz
  · show Q _ T.heap
    rw [eT]; exact hq
theorem o_return (G : OG l Z y bytes maxl none n0 p e R s m args below meth c T h cells slots) (hd : decode bytes pc = .ok (.return_, 1)) (hq : Q none h) (hc : cells ≤ ck) (hs : slots ≤ sk) : OFin n0 p e below s Q ck sk T (mkF m pc Ls []) := by
  obtain ⟨hx, hby, -, -, -, hret, hlk, -, eT, hz, locs, X, N⟩ := G
  obtain ⟨fs, hr, hrun, hended, hW, hsame⟩ := X.leave (v := none) (fun _ => rfl) hlk
  refine ⟨_, _, X.returnOut hx hret (hb hby hd) hr, hrun, hended, _, _, rfl, ⟨N, ?_, ?_⟩, ⟨_, rfl⟩, hW, hsame.mono hc hs⟩
  · show n0 ≤ T.heap.size
    rw [eT]; exact hz
  · show Q _ T.heap
    rw [eT]; exact hq
theorem o_callI (G : OG l Z y bytes maxl ret n0 p e R s m args below meth c T h cells slots) {z : MethodName} {bz : ByteArray} {mz : Nat} {rz : Option FieldType} {rm : Room} {Q' : Option Value → Heap → Prop} {index W : Nat} {argsL st : List Value} {a : Addr} (hz1 : z.name = "<init>") (w1 : (Jvm.Cond.methodLink y.cls index z).before a0 Z = true) (w2 : (Jvm.Cond.instanceMethod z).before a0 Z = true) (hrz : rz = none) (hd : decode bytes pc = .ok (.invokespecial index, 3))
    (hy : z.cls ≠ "java/lang/invoke/MethodHandle" ∧ z.cls ≠ "java/lang/invoke/VarHandle") (w3 : (Jvm.Cond.initialized z.cls).before a0 Z = true) (w4 : (Jvm.Cond.code z bz mz rz).before a0 Z = true)
    (hM : OMet l Z z bz mz rz rm (.ref a :: argsL).toArray h n0 rm.cells rm.slots Q') (hfr : rm.frames + 1 ≤ R.frames) (hlo : W + (mz + 11) + rm.locals ≤ R.locals) (hsz : Ls.size = maxl)
    (hlen : ∀ sig, parseMethodDescriptor z.desc = some sig → argsL.length = sig.parameters.length) (hst : st = argsL.reverse ++ .ref a :: rest) (hW : (rest.map fun v => v.category).sum ≤ W) (hp : pc + 3 = pc') (hc : cells + rm.cells ≤ R.cells) (hs : slots + rm.slots ≤ R.slots)
    (k : ∀ (v : Option Value) (T' : State) (h' : Heap), OG l Z y bytes maxl ret n0 p e R s m args below meth c T' h' (cells + rm.cells) (slots + rm.slots) → Q' v h' → OFin n0 p e below s Q ck sk T' (mkF m pc' Ls (v.toList ++ rest))) : OFin n0 p e below s Q ck sk T (mkF m pc Ls st) := by
  subst hp hst
  obtain ⟨hx, hby, hml, hown, hnm, hret, hlk, hZ, eT, hz, locs, X, N⟩ := G
  subst hrz
  obtain ⟨v, vm1, ⟨T', L', k', n'⟩, -, X', ⟨L, ⟨N', z', hQ⟩, l1, y1, z1⟩, st0⟩ := X.specialBack hx (y := z) hz1 hown (mvT hZ w1) (mvT hZ w2) (mvT hZ w4) hy (backOf (W := W) (Q := fun v h L => Fr n0 L ∧ n0 ≤ h.size ∧ Q' v h) (hM []) hZ w4 w3 hfr hlo) (g := (mkF m pc Ls (argsL.reverse ++ .ref a :: rest))) rfl (by show Ls.size = _; rw [hml]; exact hsz) (Steps.refl _) (a := a) (argsL := argsL) (rest := rest) hlen rfl (by show 2 * 0 + _ ≤ _; omega) (hb hby hd) (fun _ _ => ⟨rfl, eT, hc, hs⟩)
  dsimp only [Pt.U, Pt.locs, Pt.cells, Pt.slots] at X' l1 y1 z1 st0 hQ N' z'
  subst l1 y1 z1
  exact o_step (fun _ hr => st0.trans hr) (k v T' T'.heap ⟨hx, hby, hml, hown, hnm, hret, hlk, hZ, rfl, z', _, X', Fr.app N N'⟩ hQ)
theorem o_callV (G : OG l Z y bytes maxl ret n0 p e R s m args below meth c T h cells slots) {z : MethodName} {bz : ByteArray} {mz : Nat} {rz : Option FieldType} {rm : Room} {Q' : Option Value → Heap → Prop} {index W : Nat} {argsL st : List Value} {a : Addr} {C : String} (E : Exa Z h a C) (w1 : (Jvm.Cond.methodLink y.cls index z).before a0 Z = true) (w2 : (Jvm.Cond.instanceMethod z).before a0 Z = true) (w5 : (Jvm.Cond.declares z).before a0 Z = true) (w6 : (Jvm.Cond.selects C z z).before a0 Z = true) (hd : decode bytes pc = .ok (.invokevirtual index, 3))
    (hy : z.cls ≠ "java/lang/invoke/MethodHandle" ∧ z.cls ≠ "java/lang/invoke/VarHandle") (w3 : (Jvm.Cond.initialized z.cls).before a0 Z = true) (w4 : (Jvm.Cond.code z bz mz rz).before a0 Z = true)
    (hM : OMet l Z z bz mz rz rm (.ref a :: argsL).toArray h n0 rm.cells rm.slots Q') (hfr : rm.frames + 1 ≤ R.frames) (hlo : W + (mz + 11) + rm.locals ≤ R.locals) (hsz : Ls.size = maxl)
    (hlen : ∀ sig, parseMethodDescriptor z.desc = some sig → argsL.length = sig.parameters.length) (hst : st = argsL.reverse ++ .ref a :: rest) (hW : (rest.map fun v => v.category).sum ≤ W) (hp : pc + 3 = pc') (hc : cells + rm.cells ≤ R.cells) (hs : slots + rm.slots ≤ R.slots)
    (k : ∀ (v : Option Value) (T' : State) (h' : Heap), OG l Z y bytes maxl ret n0 p e R s m args below meth c T' h' (cells + rm.cells) (slots + rm.slots) → Q' v h' → OFin n0 p e below s Q ck sk T' (mkF m pc' Ls (v.toList ++ rest))) : OFin n0 p e below s Q ck sk T (mkF m pc Ls st) := by
  subst hp hst
  obtain ⟨hx, hby, hml, hown, hnm, hret, hlk, hZ, eT, hz, locs, X, N⟩ := G
  obtain ⟨cq, kq, qa, qb, qc⟩ := isOf hZ eT E
  obtain ⟨v, vm1, ⟨T', L', k', n'⟩, -, X', ⟨L, ⟨N', z', hQ⟩, l1, y1, z1⟩, st0⟩ := X.virtualBack hx (y := z) (z := z) hown (mvT hZ w1) (mvT hZ w5) (notFace_of_selects (args := #[]) (mvT hZ w6)) (mvT hZ w6) (mvT hZ w2) hy (backOf (W := W) (Q := fun v h L => Fr n0 L ∧ n0 ≤ h.size ∧ Q' v h) (hM []) hZ w4 w3 hfr hlo) qa qc (g := (mkF m pc Ls (argsL.reverse ++ .ref a :: rest))) rfl (by show Ls.size = _; rw [hml]; exact hsz) (Steps.refl _) (argsL := argsL) (rest := rest) hlen rfl (by show 2 * 0 + _ ≤ _; omega) (hb hby hd) (fun _ _ => ⟨rfl, eT, hc, hs⟩)
  dsimp only [Pt.U, Pt.locs, Pt.cells, Pt.slots] at X' l1 y1 z1 st0 hQ N' z'
  subst l1 y1 z1
  exact o_step (fun _ hr => st0.trans hr) (k v T' T'.heap ⟨hx, hby, hml, hown, hnm, hret, hlk, hZ, rfl, z', _, X', Fr.app N N'⟩ hQ)
theorem o_initO (G : OG l Z y bytes maxl ret n0 p e R s m args below meth c T h cells slots) {idx W : Nat} {a : Addr} (w1 : (Jvm.Cond.methodLink y.cls idx Lib.objectInit).before a0 Z = true) (w2 : (Jvm.Cond.instanceMethod Lib.objectInit).before a0 Z = true) (w3 : (Jvm.Cond.code Lib.objectInit ⟨#[0xb1]⟩ 1 none).before a0 Z = true) (hd : decode bytes pc = .ok (.invokespecial idx, 3)) (hp : pc + 3 = pc') (hsz : Ls.size = maxl) (hf : 1 ≤ R.frames) (hW : (rest.map fun v => v.category).sum ≤ W) (hl : W + 12 ≤ R.locals)
    (k : ∀ T', OG l Z y bytes maxl ret n0 p e R s m args below meth c T' h cells slots → OFin n0 p e below s Q ck sk T' (mkF m pc' Ls rest)) : OFin n0 p e below s Q ck sk T (mkF m pc Ls (.ref a :: rest)) := by
  subst hp
  obtain ⟨hx, hby, hml, hown, hnm, hret, hlk, hZ, eT, hz, locs, X, N⟩ := G
  obtain ⟨T', X', e', st⟩ := initO X hx hZ hown w1 w2 w3 eT (g := (mkF m pc Ls (.ref a :: rest))) rfl (by show Ls.size = _; rw [hml]; exact hsz) rfl (hb hby hd) hf (W := W) (by show 2 * 0 + _ ≤ _; omega) hl
  exact o_step st (k T' ⟨hx, hby, hml, hown, hnm, hret, hlk, hZ, e', hz, _, X', N⟩)
theorem o_new (G : OG l Z y bytes maxl ret n0 p e R s m args below meth c T h cells slots) {C : String} {index n : Nat} (w : (Jvm.Cond.classLink y.cls index C).before a0 Z = true) (wi : (Jvm.Cond.instantiable C n).before a0 Z = true) (wz : (Jvm.Cond.initialized C).before a0 Z = true) (hd : decode bytes pc = .ok (.new index, 3)) (hp : pc + 3 = pc') (hc : cells + 1 ≤ R.cells) (hl : slots + n ≤ R.slots)
    (k : ∀ (T' : State) (h' : Heap) (a : Addr), OG l Z y bytes maxl ret n0 p e R s m args below meth c T' h' (cells + 1) (slots + n) → a = h.size → n0 ≤ a → Ext h h' → Exa Z h' a C → (∀ {O nm d : String} {ty : FieldType}, Laid Z a0 C O nm d → parseFieldDescriptor d = some ty → Fld Z h' a O nm d (defaultValue ty)) → OFin n0 p e below s Q ck sk T' (mkF m pc' Ls (.ref a :: rest))) : OFin n0 p e below s Q ck sk T (mkF m pc Ls rest) := by
  subst hp
  obtain ⟨hx, hby, hml, hown, hnm, hret, hlk, hZ, eT, hz, locs, X, N⟩ := G
  obtain ⟨T', h', X', e', E', A', D', -, st⟩ := newO X hx hZ hown w wi wz eT (g := (mkF m pc Ls rest)) rfl (hb hby hd) hc hl
  exact o_step st (k T' h' h.size ⟨hx, hby, hml, hown, hnm, hret, hlk, hZ, e', Nat.le_trans hz E'.1, _, X', N⟩ rfl hz E' A' D')
theorem o_getF (G : OG l Z y bytes maxl ret n0 p e R s m args below meth c T h cells slots) {R0 O nm d host : String} {index : Nat} {a : Addr} {v : Value} (w : (Jvm.Cond.fieldLink y.cls index R0 nm d).before a0 Z = true ∨ (Jvm.Cond.fieldLinkNest y.cls index R0 nm d host).before a0 Z = true) (via : Via Z R0 O nm d) (F : Fld Z h a O nm d v) (hd : decode bytes pc = .ok (.getfield index, 3)) (hp : pc + 3 = pc')
    (k : ∀ T', OG l Z y bytes maxl ret n0 p e R s m args below meth c T' h cells slots → OFin n0 p e below s Q ck sk T' (mkF m pc' Ls (v :: rest))) : OFin n0 p e below s Q ck sk T (mkF m pc Ls (.ref a :: rest)) := by
  subst hp
  obtain ⟨hx, hby, hml, hown, hnm, hret, hlk, hZ, eT, hz, locs, X, N⟩ := G
  obtain ⟨T', X', e', st⟩ := getF X hx hZ hown w via eT F (g := (mkF m pc Ls (.ref a :: rest))) rfl rfl (hb hby hd)
  exact o_step st (k T' ⟨hx, hby, hml, hown, hnm, hret, hlk, hZ, e', hz, _, X', N⟩)
theorem o_putF (G : OG l Z y bytes maxl ret n0 p e R s m args below meth c T h cells slots) {R0 O nm d host C : String} {index kk : Nat} {ty : FieldType} {a : Addr} {v old : Value} (w : (Jvm.Cond.fieldLink y.cls index R0 nm d).before a0 Z = true ∨ (Jvm.Cond.fieldLinkNest y.cls index R0 nm d host).before a0 Z = true) (via : Via Z R0 O nm d) (F : Fld Z h a O nm d old) (E : Exa Z h a C) (L : (Jvm.Cond.lays C O nm d).before a0 Z = true ∨ ((Jvm.Cond.laysFinal C O nm d).before a0 Z = true ∧ y.cls = O ∧ y.name = "<init>")) (wi : (Jvm.Cond.instantiable C kk).before a0 Z = true)
    (hty : parseFieldDescriptor d = some ty) (hn : narrow ty v = v) (hf : fits ty v = true) (hg : n0 ≤ a) (hd : decode bytes pc = .ok (.putfield index, 3)) (hp : pc + 3 = pc')
    (k : ∀ (T' : State) (h' : Heap), OG l Z y bytes maxl ret n0 p e R s m args below meth c T' h' cells slots → Wr h h' a (Jvm.RoadKit.slotOf Z O nm d) v → OFin n0 p e below s Q ck sk T' (mkF m pc' Ls rest)) : OFin n0 p e below s Q ck sk T (mkF m pc Ls (v :: .ref a :: rest)) := by
  subst hp
  obtain ⟨hx, hby, hml, hown, hnm, hret, hlk, hZ, eT, hz, locs, X, N⟩ := G
  obtain ⟨T', h', X', e', W', st⟩ := putF X hx hZ hown w via eT F E (L.imp id (fun q => ⟨q.1, q.2.1, hnm.trans q.2.2⟩)) wi hty hn hf (g := (mkF m pc Ls (v :: .ref a :: rest))) rfl rfl (hb hby hd)
  exact o_step st (k T' h' ⟨hx, hby, hml, hown, hnm, hret, hlk, hZ, e', by rw [W'.size]; exact hz, _, X', Fr.snoc X' N hg⟩ W')
/-- an array of n places at a; place j holds f j -/
def OArr (Z : State) (h : Heap) (a : Addr) (ty : FieldType) (n : Nat) (f : Nat → Value) : Prop := ∃ cl : Cell, Arr Z h a cl ty ∧ cl.slots.size = n ∧ ∀ j, j < n → cl.slots[j]? = some (f j)
def o_set (f : Nat → Value) (i : Nat) (v : Value) : Nat → Value := fun j => if j = i then v else f j
theorem OArr.lt {a : Addr} {ty : FieldType} {n : Nat} {f : Nat → Value} (A : OArr Z h a ty n f) : a < h.size := by obtain ⟨cl, A, -⟩ := A; exact A.lt
theorem OArr.ext {h' : Heap} {a : Addr} {ty : FieldType} {n : Nat} {f : Nat → Value} (A : OArr Z h a ty n f) (E : Ext h h') : OArr Z h' a ty n f := by obtain ⟨cl, A, r⟩ := A; exact ⟨cl, A.ext E, r⟩
theorem OArr.other {h' : Heap} {a b : Addr} {sl : Nat} {v : Value} {ty : FieldType} {n : Nat} {f : Nat → Value} (A : OArr Z h b ty n f) (W : Wr h h' a sl v) (q : b ≠ a) : OArr Z h' b ty n f := by obtain ⟨cl, A, r⟩ := A; exact ⟨cl, A.other W q, r⟩
theorem OArr.keep {h' : Heap} {a : Addr} {ws : List Addr} {ty : FieldType} {n : Nat} {f : Nat → Value} (A : OArr Z h a ty n f) (K : Keep h h' ws) (q : a ∉ ws) : OArr Z h' a ty n f := by obtain ⟨cl, A, r⟩ := A; exact ⟨cl, ⟨K.2.1 a cl A.1 q, A.2⟩, r⟩
theorem OArr.same {h' : Heap} {a : Addr} {i : Nat} {v : Value} {ty : FieldType} {n : Nat} {f : Nat → Value} (A : OArr Z h a ty n f) (W : Wr h h' a i v) : OArr Z h' a ty n (o_set f i v) := by
  obtain ⟨cl, A, S, H⟩ := A
  have hi : i < n := by
    obtain ⟨cell, h1, -, h3, -⟩ := W
    cases h1.symm.trans A.1
    rw [← S]; exact h3
  refine ⟨_, A.same W, by rw [sz_set]; exact S, fun j hj => ?_⟩
  by_cases q : j = i
  · subst q; simp [Cell.setSlot, o_set, S, hi]
  · have := H j hj
    simp only [Cell.setSlot, o_set, q, if_false]
    rw [Array.getElem?_setIfInBounds_ne (Ne.symm q)]; exact this
theorem OArr.congr {a : Addr} {ty : FieldType} {n : Nat} {f f' : Nat → Value} (A : OArr Z h a ty n f) (q : ∀ j, j < n → f j = f' j) : OArr Z h a ty n f' := by
  obtain ⟨cl, A, S, H⟩ := A
  exact ⟨cl, A, S, fun j hj => by rw [← q j hj]; exact H j hj⟩
theorem o_clamp {j : Int32} {i : Nat} (h : j.toInt = (i : Int)) : ¬ j < 0 ∧ j.toNatClampNeg = i := by
  constructor
  · rw [Int32.lt_iff_toInt_lt, h]; have : (0 : Int32).toInt = 0 := rfl
    omega
  · simp only [Int32.toNatClampNeg, h]; rfl
theorem o_arraylength (G : OG l Z y bytes maxl ret n0 p e R s m args below meth c T h cells slots) {a : Addr} {ty : FieldType} {n : Nat} {f : Nat → Value} {v : Int32} (A : OArr Z h a ty n f) (hv : Nat.toInt32 n = v) (hd : decode bytes pc = .ok (.arraylength, 1)) (hp : pc + 1 = pc') (k : OFin n0 p e below s Q ck sk T (mkF m pc' Ls (.int v :: rest))) : OFin n0 p e below s Q ck sk T (mkF m pc Ls (.ref a :: rest)) := by
  subst hp hv
  obtain ⟨hx, hby, -, -, -, -, -, hZ, eT, -, locs, X, -⟩ := G
  obtain ⟨cl, A, S, -⟩ := A
  subst S
  exact o_step (fun _ hr => X.arraylength hx (by rw [eT]; exact A.1) (State.isArrayOf_alike hZ.alike A.2.1) (g := (mkF m pc Ls (.ref a :: rest))) rfl rfl (hb hby hd) _ hr) k
theorem o_baload (G : OG l Z y bytes maxl ret n0 p e R s m args below meth c T h cells slots) {a : Addr} {n i : Nat} {f : Nat → Value} {j : Int32} {v : Value} (A : OArr Z h a .byte n f) (hj : j.toInt = (i : Int)) (hi : i < n) (hv : f i = v) (hd : decode bytes pc = .ok (.baload, 1)) (hp : pc + 1 = pc') (k : OFin n0 p e below s Q ck sk T (mkF m pc' Ls (v :: rest))) : OFin n0 p e below s Q ck sk T (mkF m pc Ls (.int j :: .ref a :: rest)) := by
  subst hp hv
  obtain ⟨hx, hby, -, -, -, -, -, hZ, eT, -, locs, X, -⟩ := G
  obtain ⟨cl, A, S, H⟩ := A
  obtain ⟨q1, q2⟩ := o_clamp hj
  exact o_step (fun _ hr => X.baloadBytes hx (j := j) (v := f i) (by rw [eT]; exact A.1) (State.isArrayOf_alike hZ.alike A.2.1) A.2.2 (by rw [S, q2]; exact fun q => q.elim q1 (fun q => absurd hi (Nat.not_lt.mpr q))) (by rw [q2]; exact H i hi) (g := (mkF m pc Ls (.int j :: .ref a :: rest))) rfl rfl (hb hby hd) _ hr) k
theorem o_bastore (G : OG l Z y bytes maxl ret n0 p e R s m args below meth c T h cells slots) {a : Addr} {n i : Nat} {f : Nat → Value} {j : Int32} {v : Int32} (A : OArr Z h a .byte n f) (hg : n0 ≤ a) (hj : j.toInt = (i : Int)) (hi : i < n) (hd : decode bytes pc = .ok (.bastore, 1)) (hp : pc + 1 = pc')
    (k : ∀ (T' : State) (h' : Heap), OG l Z y bytes maxl ret n0 p e R s m args below meth c T' h' cells slots → Wr h h' a i (.int (nar .byte v)) → OArr Z h' a .byte n (o_set f i (.int (nar .byte v))) → OFin n0 p e below s Q ck sk T' (mkF m pc' Ls rest)) : OFin n0 p e below s Q ck sk T (mkF m pc Ls (.int v :: .int j :: .ref a :: rest)) := by
  subst hp
  have A0 := A
  obtain ⟨hx, hby, hml, hown, hnm, hret, hlk, hZ, eT, hz, locs, X, N⟩ := G
  obtain ⟨cl, A, S, H⟩ := A
  obtain ⟨q1, q2⟩ := o_clamp hj
  obtain ⟨T', h', X', e', W', st⟩ := stB X hx hZ eT A (j := j) (x := v) (by rw [S, q2]; exact fun q => q.elim q1 (fun q => absurd hi (Nat.not_lt.mpr q))) (g := (mkF m pc Ls (.int v :: .int j :: .ref a :: rest))) rfl rfl (hb hby hd)
  rw [q2] at W' X'
  exact o_step st (k T' h' ⟨hx, hby, hml, hown, hnm, hret, hlk, hZ, e', by rw [W'.size]; exact hz, _, X', Fr.snoc X' N hg⟩ W' (A0.same W'))
theorem o_newarray (G : OG l Z y bytes maxl ret n0 p e R s m args below meth c T h cells slots) {aty : ArrayType} {n : Int32} {N cap : Nat} (w : (Jvm.Cond.arrayClass (newarray.typeOf aty)).before a0 Z = true) (hn : n.toInt = (N : Int)) (hcap : N ≤ cap) (hb8 : cap * 8 ≤ 536870912) (hd : decode bytes pc = .ok (.newarray aty, 2)) (hp : pc + 2 = pc') (hc : cells + 1 ≤ R.cells) (hl : slots + cap ≤ R.slots)
    (k : ∀ (T' : State) (h' : Heap) (a : Addr), OG l Z y bytes maxl ret n0 p e R s m args below meth c T' h' (cells + 1) (slots + cap) → a = h.size → n0 ≤ a → Ext h h' → OArr Z h' a (newarray.typeOf aty) N (fun _ => defaultValue (newarray.typeOf aty)) → OFin n0 p e below s Q ck sk T' (mkF m pc' Ls (.ref a :: rest))) : OFin n0 p e below s Q ck sk T (mkF m pc Ls (.int n :: rest)) := by
  subst hp
  obtain ⟨hx, hby, hml, hown, hnm, hret, hlk, hZ, eT, hz, locs, X, N'⟩ := G
  obtain ⟨q1, q2⟩ := o_clamp hn
  obtain ⟨T', h', cA, X', e', E', A', st⟩ := newP X hx hZ w eT (g := (mkF m pc Ls (.int n :: rest))) rfl (hb hby hd) rfl q1 (cap := cap) (by rw [q2]; exact hcap) hb8 hc hl
  refine o_step st (k T' h' h.size ⟨hx, hby, hml, hown, hnm, hret, hlk, hZ, e', Nat.le_trans hz E'.1, _, X', N'⟩ rfl hz E' ⟨_, A', by rw [sz_new, q2], fun j hj => ?_⟩)
  simp [newA, q2, hj]
/-- a contract that leaves the heap as it was and returns one value -/
abbrev OVal (h0 : Heap) (r : Value) : Option Value → Heap → Prop := fun v h => v = some r ∧ h0 = h
theorem o_callVP (G : OG l Z y bytes maxl ret n0 p e R s m args below meth c T h cells slots) {z : MethodName} {bz : ByteArray} {mz : Nat} {rz : Option FieldType} {rm : Room} {r : Value} {index W : Nat} {argsL st : List Value} {a : Addr} {C : String} (E : Exa Z h a C) (w1 : (Jvm.Cond.methodLink y.cls index z).before a0 Z = true) (w2 : (Jvm.Cond.instanceMethod z).before a0 Z = true) (w5 : (Jvm.Cond.declares z).before a0 Z = true) (w6 : (Jvm.Cond.selects C z z).before a0 Z = true) (hd : decode bytes pc = .ok (.invokevirtual index, 3))
    (hy : z.cls ≠ "java/lang/invoke/MethodHandle" ∧ z.cls ≠ "java/lang/invoke/VarHandle") (w3 : (Jvm.Cond.initialized z.cls).before a0 Z = true) (w4 : (Jvm.Cond.code z bz mz rz).before a0 Z = true)
    (hM : OMet l Z z bz mz rz rm (.ref a :: argsL).toArray h n0 rm.cells rm.slots (OVal h r)) (hfr : rm.frames + 1 ≤ R.frames) (hlo : W + (mz + 11) + rm.locals ≤ R.locals) (hsz : Ls.size = maxl)
    (hlen : ∀ sig, parseMethodDescriptor z.desc = some sig → argsL.length = sig.parameters.length) (hst : st = argsL.reverse ++ .ref a :: rest) (hW : (rest.map fun v => v.category).sum ≤ W) (hp : pc + 3 = pc') (hc : cells + rm.cells ≤ R.cells) (hs : slots + rm.slots ≤ R.slots)
    (k : ∀ (T' : State), OG l Z y bytes maxl ret n0 p e R s m args below meth c T' h (cells + rm.cells) (slots + rm.slots) → OFin n0 p e below s Q ck sk T' (mkF m pc' Ls (r :: rest))) : OFin n0 p e below s Q ck sk T (mkF m pc Ls st) := by
  refine o_callV G E w1 w2 w5 w6 hd hy w3 w4 hM hfr hlo hsz hlen hst hW hp hc hs ?_
  rintro v T' h' G' ⟨hv, hh⟩
  subst hv hh
  exact k T' G'
end OwnKit
theorem pd_0 : parseMethodDescriptor "([BII)V" = some ⟨[(.array .byte), .int, .int], none⟩ := by decide +kernel
theorem pd_1 : parseMethodDescriptor "([B)V" = some ⟨[(.array .byte)], none⟩ := by decide +kernel
theorem pd_2 : parseMethodDescriptor "()Z" = some ⟨[], some .boolean⟩ := by decide +kernel
theorem pd_3 : parseMethodDescriptor "(I)Lcom/example/ronda/ronda/engine/Der;" = some ⟨[.int], some (.object "com/example/ronda/ronda/engine/Der")⟩ := by decide +kernel
theorem d2_0 : decode prog_5_method_2_code 0 = .ok (.aload_n 0, 1) := by decide +kernel
theorem d2_1 : decode prog_5_method_2_code 1 = .ok (.invokespecial 7, 3) := by decide +kernel
theorem d2_4 : decode prog_5_method_2_code 4 = .ok (.aload_n 0, 1) := by decide +kernel
theorem d2_5 : decode prog_5_method_2_code 5 = .ok (.aload_n 1, 1) := by decide +kernel
theorem d2_6 : decode prog_5_method_2_code 6 = .ok (.putfield 12, 3) := by decide +kernel
theorem d2_9 : decode prog_5_method_2_code 9 = .ok (.aload_n 0, 1) := by decide +kernel
theorem d2_10 : decode prog_5_method_2_code 10 = .ok (.iload_n 2, 1) := by decide +kernel
theorem d2_11 : decode prog_5_method_2_code 11 = .ok (.putfield 16, 3) := by decide +kernel
theorem d2_14 : decode prog_5_method_2_code 14 = .ok (.aload_n 0, 1) := by decide +kernel
theorem d2_15 : decode prog_5_method_2_code 15 = .ok (.iload_n 3, 1) := by decide +kernel
theorem d2_16 : decode prog_5_method_2_code 16 = .ok (.putfield 20, 3) := by decide +kernel
theorem d2_19 : decode prog_5_method_2_code 19 = .ok (.return_, 1) := by decide +kernel
theorem pn_2 : plainName "com/example/ronda/ronda/engine/Der" = true := by first | (simp [plainName, overriddenIn]; done) | decide +kernel
theorem ef_2 (m : MethodId) (r0 : Addr) (r1 : Addr) (p2 : Int32) (p3 : Int32) : entryFrame m #[(.ref r0), (.ref r1), (.int p2), (.int p3)] 4 = mkF m 0 #[.val (.ref r0), .val (.ref r1), .val (.int p2), .val (.int p3)] [] := by first | (simp [entryFrame, mkF, argsToLocals, Value.category]; done) | rfl
set_option maxRecDepth 65536 in
set_option maxHeartbeats 40000000 in
theorem rm2 {l : Launch} {Z : State} {a0 : Array Value} (hw : ∀ d ∈ tables_1, d.before a0 Z = true) (r0 : Addr) (r1 : Addr) (p2 : Int32) (p3 : Int32) (h0 : Heap) (n0 : Nat) (hz : n0 ≤ h0.size) (g_r0 : n0 ≤ r0) (E_r0 : Exa Z h0 r0 "com/example/ronda/ronda/engine/Der") (F_bytes_r0 : Fld Z h0 r0 "com/example/ronda/ronda/engine/Der" "bytes" "[B" .null) (F_position_r0 : Fld Z h0 r0 "com/example/ronda/ronda/engine/Der" "position" "I" (.int (0 : Int32))) (F_end_r0 : Fld Z h0 r0 "com/example/ronda/ronda/engine/Der" "end" "I" (.int (0 : Int32))) :
    OMet l Z (⟨"com/example/ronda/ronda/engine/Der", "<init>", "([BII)V"⟩ : MethodName) prog_5_method_2_code 4 none ({ frames := 1, cells := 0, slots := 0, locals := 12 } : Room) #[(.ref r0), (.ref r1), (.int p2), (.int p3)] h0 n0 ({ frames := 1, cells := 0, slots := 0, locals := 12 } : Room).cells ({ frames := 1, cells := 0, slots := 0, locals := 12 } : Room).slots (fun v h => v = none ∧ Keep h0 h [r0] ∧ Exa Z h r0 "com/example/ronda/ronda/engine/Der" ∧ Fld Z h r0 "com/example/ronda/ronda/engine/Der" "bytes" "[B" (.ref r1) ∧ Fld Z h r0 "com/example/ronda/ronda/engine/Der" "position" "I" (.int p2) ∧ Fld Z h r0 "com/example/ronda/ronda/engine/Der" "end" "I" (.int p3)) := by
  refine o_body (plainFor_of_name pn_2) hz (fun m => ef_2 m r0 r1 p2 p3) ?_
  intro p e s m below meth c s₁ G0
  have K : Keep h0 h0 [r0] := Keep.refl _ _
  refine o_aloadN G0 d2_0 (pc' := 1) rfl rfl rfl ?_
  refine o_initO G0 (hw _ (List.mem_of_getElem? (i := 11) rfl)) (hw _ (List.mem_of_getElem? (i := 12) rfl)) (hw _ (List.mem_of_getElem? (i := 13) rfl)) d2_1 (pc' := 4) rfl rfl (by decide) (W := 0) (Nat.le_of_eq rfl) (by decide) ?_
  intro T1 G1
  refine o_aloadN G1 d2_4 (pc' := 5) rfl rfl rfl ?_
  refine o_aloadN G1 d2_5 (pc' := 6) rfl rfl rfl ?_
  refine o_putF G1 (host := "") (Or.inl (hw _ (List.mem_of_getElem? (i := 14) rfl))) Via.refl F_bytes_r0 E_r0 (Or.inr ⟨(hw _ (List.mem_of_getElem? (i := 15) rfl)), rfl, rfl⟩) (hw _ (List.mem_of_getElem? (i := 3) rfl)) (ty := (.array .byte)) (by decide) rfl rfl g_r0 d2_6 (pc' := 9) rfl ?_
  intro T2 h2 G2 W2
  replace E_r0 := E_r0.wr W2
  replace F_bytes_r0 := F_bytes_r0.same W2
  replace F_position_r0 := F_position_r0.other W2 (Or.inr (slot_ne (Or.inl (hw _ (List.mem_of_getElem? (i := 17) rfl))) (Or.inr (hw _ (List.mem_of_getElem? (i := 15) rfl))) (by decide) (t := .int) (t' := (.array .byte)) (by decide) (by decide)))
  replace F_end_r0 := F_end_r0.other W2 (Or.inr (slot_ne (Or.inr (hw _ (List.mem_of_getElem? (i := 19) rfl))) (Or.inr (hw _ (List.mem_of_getElem? (i := 15) rfl))) (by decide) (t := .int) (t' := (.array .byte)) (by decide) (by decide)))
  replace K := K.wr W2 (Or.inl (List.mem_of_getElem? (i := 0) rfl))
  refine o_aloadN G2 d2_9 (pc' := 10) rfl rfl rfl ?_
  refine o_iloadN G2 d2_10 (pc' := 11) rfl rfl ?_
  refine o_putF G2 (host := "") (Or.inl (hw _ (List.mem_of_getElem? (i := 16) rfl))) Via.refl F_position_r0 E_r0 (Or.inl (hw _ (List.mem_of_getElem? (i := 17) rfl))) (hw _ (List.mem_of_getElem? (i := 3) rfl)) (ty := .int) (by decide) rfl rfl g_r0 d2_11 (pc' := 14) rfl ?_
  intro T3 h3 G3 W3
  replace E_r0 := E_r0.wr W3
  replace F_bytes_r0 := F_bytes_r0.other W3 (Or.inr (slot_ne (Or.inr (hw _ (List.mem_of_getElem? (i := 15) rfl))) (Or.inl (hw _ (List.mem_of_getElem? (i := 17) rfl))) (by decide) (t := (.array .byte)) (t' := .int) (by decide) (by decide)))
  replace F_position_r0 := F_position_r0.same W3
  replace F_end_r0 := F_end_r0.other W3 (Or.inr (slot_ne (Or.inr (hw _ (List.mem_of_getElem? (i := 19) rfl))) (Or.inl (hw _ (List.mem_of_getElem? (i := 17) rfl))) (by decide) (t := .int) (t' := .int) (by decide) (by decide)))
  replace K := K.wr W3 (Or.inl (List.mem_of_getElem? (i := 0) rfl))
  refine o_aloadN G3 d2_14 (pc' := 15) rfl rfl rfl ?_
  refine o_iloadN G3 d2_15 (pc' := 16) rfl rfl ?_
  refine o_putF G3 (host := "") (Or.inl (hw _ (List.mem_of_getElem? (i := 18) rfl))) Via.refl F_end_r0 E_r0 (Or.inr ⟨(hw _ (List.mem_of_getElem? (i := 19) rfl)), rfl, rfl⟩) (hw _ (List.mem_of_getElem? (i := 3) rfl)) (ty := .int) (by decide) rfl rfl g_r0 d2_16 (pc' := 19) rfl ?_
  intro T4 h4 G4 W4
  replace E_r0 := E_r0.wr W4
  replace F_bytes_r0 := F_bytes_r0.other W4 (Or.inr (slot_ne (Or.inr (hw _ (List.mem_of_getElem? (i := 15) rfl))) (Or.inr (hw _ (List.mem_of_getElem? (i := 19) rfl))) (by decide) (t := (.array .byte)) (t' := .int) (by decide) (by decide)))
  replace F_position_r0 := F_position_r0.other W4 (Or.inr (slot_ne (Or.inl (hw _ (List.mem_of_getElem? (i := 17) rfl))) (Or.inr (hw _ (List.mem_of_getElem? (i := 19) rfl))) (by decide) (t := .int) (t' := .int) (by decide) (by decide)))
  replace F_end_r0 := F_end_r0.same W4
  replace K := K.wr W4 (Or.inl (List.mem_of_getElem? (i := 0) rfl))
  exact o_return G4 d2_19 ⟨rfl, K, E_r0, F_bytes_r0, F_position_r0, F_end_r0⟩ (by decide) (by decide)
theorem d1_0 : decode prog_5_method_1_code 0 = .ok (.aload_n 0, 1) := by decide +kernel
theorem d1_1 : decode prog_5_method_1_code 1 = .ok (.aload_n 1, 1) := by decide +kernel
theorem d1_2 : decode prog_5_method_1_code 2 = .ok (.iconst 0, 1) := by decide +kernel
theorem d1_3 : decode prog_5_method_1_code 3 = .ok (.aload_n 1, 1) := by decide +kernel
theorem d1_4 : decode prog_5_method_1_code 4 = .ok (.arraylength, 1) := by decide +kernel
theorem d1_5 : decode prog_5_method_1_code 5 = .ok (.invokespecial 1, 3) := by decide +kernel
theorem d1_8 : decode prog_5_method_1_code 8 = .ok (.return_, 1) := by decide +kernel
theorem pn_1 : plainName "com/example/ronda/ronda/engine/Der" = true := by first | (simp [plainName, overriddenIn]; done) | decide +kernel
theorem ef_1 (m : MethodId) (r0 : Addr) (r1 : Addr) : entryFrame m #[(.ref r0), (.ref r1)] 2 = mkF m 0 #[.val (.ref r0), .val (.ref r1)] [] := by first | (simp [entryFrame, mkF, argsToLocals, Value.category]; done) | rfl
set_option maxRecDepth 65536 in
set_option maxHeartbeats 40000000 in
theorem rm1 {l : Launch} {Z : State} {a0 : Array Value} (hw : ∀ d ∈ tables_1, d.before a0 Z = true) (r0 : Addr) (r1 : Addr) (h0 : Heap) (n0 : Nat) (hz : n0 ≤ h0.size) (g_r0 : n0 ≤ r0) (E_r0 : Exa Z h0 r0 "com/example/ronda/ronda/engine/Der") (F_bytes_r0 : Fld Z h0 r0 "com/example/ronda/ronda/engine/Der" "bytes" "[B" .null) (F_position_r0 : Fld Z h0 r0 "com/example/ronda/ronda/engine/Der" "position" "I" (.int (0 : Int32))) (F_end_r0 : Fld Z h0 r0 "com/example/ronda/ronda/engine/Der" "end" "I" (.int (0 : Int32))) (n : Nat) (N : Int32) (hN : Nat.toInt32 n = N) (f : Nat → Value) (A_r1 : OArr Z h0 r1 .byte n f) :
    OMet l Z (⟨"com/example/ronda/ronda/engine/Der", "<init>", "([B)V"⟩ : MethodName) prog_5_method_1_code 2 none ({ frames := 2, cells := 0, slots := 0, locals := 27 } : Room) #[(.ref r0), (.ref r1)] h0 n0 ({ frames := 2, cells := 0, slots := 0, locals := 27 } : Room).cells ({ frames := 2, cells := 0, slots := 0, locals := 27 } : Room).slots (fun v h => v = none ∧ Keep h0 h [r0] ∧ Exa Z h r0 "com/example/ronda/ronda/engine/Der" ∧ Fld Z h r0 "com/example/ronda/ronda/engine/Der" "bytes" "[B" (.ref r1) ∧ Fld Z h r0 "com/example/ronda/ronda/engine/Der" "position" "I" (.int (0 : Int32)) ∧ Fld Z h r0 "com/example/ronda/ronda/engine/Der" "end" "I" (.int N)) := by
  refine o_body (plainFor_of_name pn_1) hz (fun m => ef_1 m r0 r1) ?_
  intro p e s m below meth c s₁ G0
  refine o_aloadN G0 d1_0 (pc' := 1) rfl rfl rfl ?_
  refine o_aloadN G0 d1_1 (pc' := 2) rfl rfl rfl ?_
  refine o_iconst G0 d1_2 (pc' := 3) rfl (v := (0 : Int32)) rfl ?_
  refine o_aloadN G0 d1_3 (pc' := 4) rfl rfl rfl ?_
  refine o_arraylength G0 A_r1 (v := N) hN d1_4 (pc' := 5) rfl ?_
  refine o_callI G0 (z := (⟨"com/example/ronda/ronda/engine/Der", "<init>", "([BII)V"⟩ : MethodName)) (argsL := [(.ref r1), (.int (0 : Int32)), (.int N)]) (rest := []) (W := 0) (a := r0) rfl (hw _ (List.mem_of_getElem? (i := 8) rfl)) (hw _ (List.mem_of_getElem? (i := 9) rfl)) rfl d1_5 (by decide) (hw _ (List.mem_of_getElem? (i := 4) rfl)) (hw _ (List.mem_of_getElem? (i := 10) rfl)) (rm2 hw r0 r1 (0 : Int32) N h0 n0 G0.sz g_r0 E_r0 F_bytes_r0 F_position_r0 F_end_r0) (by decide) (by decide) rfl (lenOf pd_0 rfl) rfl (Nat.le_of_eq rfl) (pc' := 8) rfl (by decide) (by decide) ?_
  rintro _ T1 h1 G1 ⟨rfl, K1, E1, F1, F2, F3⟩
  show OFin n0 p e below s (fun v h => v = none ∧ Keep h0 h [r0] ∧ Exa Z h r0 "com/example/ronda/ronda/engine/Der" ∧ Fld Z h r0 "com/example/ronda/ronda/engine/Der" "bytes" "[B" (.ref r1) ∧ Fld Z h r0 "com/example/ronda/ronda/engine/Der" "position" "I" (.int (0 : Int32)) ∧ Fld Z h r0 "com/example/ronda/ronda/engine/Der" "end" "I" (.int N)) 0 0 T1 (mkF m 8 #[.val (.ref r0), .val (.ref r1)] [])
  exact o_return G1 d1_8 ⟨rfl, K1, E1, F1, F2, F3⟩ (by decide) (by decide)
theorem d4_0 : decode prog_5_method_4_code 0 = .ok (.aload_n 0, 1) := by decide +kernel
theorem d4_1 : decode prog_5_method_4_code 1 = .ok (.getfield 16, 3) := by decide +kernel
theorem d4_4 : decode prog_5_method_4_code 4 = .ok (.aload_n 0, 1) := by decide +kernel
theorem d4_5 : decode prog_5_method_4_code 5 = .ok (.getfield 20, 3) := by decide +kernel
theorem d4_8 : decode prog_5_method_4_code 8 = .ok (.if_icmp .ge 7, 3) := by decide +kernel
theorem d4_11 : decode prog_5_method_4_code 11 = .ok (.iconst 1, 1) := by decide +kernel
theorem d4_12 : decode prog_5_method_4_code 12 = .ok (.goto 4, 3) := by decide +kernel
theorem d4_15 : decode prog_5_method_4_code 15 = .ok (.iconst 0, 1) := by decide +kernel
theorem d4_16 : decode prog_5_method_4_code 16 = .ok (.ireturn, 1) := by decide +kernel
theorem pn_4 : plainName "com/example/ronda/ronda/engine/Der" = true := by first | (simp [plainName, overriddenIn]; done) | decide +kernel
theorem ef_4 (m : MethodId) (r0 : Addr) : entryFrame m #[(.ref r0)] 1 = mkF m 0 #[.val (.ref r0)] [] := by first | (simp [entryFrame, mkF, argsToLocals, Value.category]; done) | rfl
def f_4 (x1 x2 : Int32)  : Int32 := if x1 < x2 then (1 : Int32) else (0 : Int32)
set_option maxRecDepth 65536 in
set_option maxHeartbeats 40000000 in
theorem rm4 {l : Launch} {Z : State} {a0 : Array Value} (hw : ∀ d ∈ tables_1, d.before a0 Z = true) (r0 : Addr) (h0 : Heap) (n0 : Nat) (hz : n0 ≤ h0.size) (x1 x2 : Int32) (F_p : Fld Z h0 r0 "com/example/ronda/ronda/engine/Der" "position" "I" (.int x1)) (F_e : Fld Z h0 r0 "com/example/ronda/ronda/engine/Der" "end" "I" (.int x2)) :
    OMet l Z (⟨"com/example/ronda/ronda/engine/Der", "hasMore", "()Z"⟩ : MethodName) prog_5_method_4_code 1 (some .boolean) ({ frames := 0, cells := 0, slots := 0, locals := 0 } : Room) #[(.ref r0)] h0 n0 ({ frames := 0, cells := 0, slots := 0, locals := 0 } : Room).cells ({ frames := 0, cells := 0, slots := 0, locals := 0 } : Room).slots (OVal h0 (.int (f_4 x1 x2))) := by
  refine o_body (plainFor_of_name pn_4) hz (fun m => ef_4 m r0) ?_
  intro p e s m below meth c s₁ G0
  refine o_aloadN G0 d4_0 (pc' := 1) rfl rfl rfl ?_
  refine o_getF G0 (host := "") (Or.inl (hw _ (List.mem_of_getElem? (i := 16) rfl))) Via.refl F_p d4_1 (pc' := 4) rfl ?_
  intro T1 G1
  refine o_aloadN G1 d4_4 (pc' := 5) rfl rfl rfl ?_
  refine o_getF G1 (host := "") (Or.inl (hw _ (List.mem_of_getElem? (i := 18) rfl))) Via.refl F_e d4_5 (pc' := 8) rfl ?_
  intro T2 G2
  refine o_icmp_ge G2 d4_8 (by decide) (pcT := 15) (by decide) (pc' := 11) rfl (fun hc8 => ?_) (fun hc8 => ?_)
  · refine o_iconst G2 d4_15 (pc' := 16) rfl (v := (0 : Int32)) rfl ?_
    have hq : (nar .boolean (0 : Int32)) = f_4 x1 x2 := by
      rw [f_4, if_neg hc8]
      try rfl
    exact o_nreturn (t := .boolean) G2 (by simp) d4_16 ⟨congrArg (fun z => some (Value.int z)) hq, rfl⟩ (by decide) (by decide)
  · refine o_iconst G2 d4_11 (pc' := 12) rfl (v := (1 : Int32)) rfl ?_
    refine o_goto G2 d4_12 (by decide) (pc' := 16) rfl ?_
    have hq : (nar .boolean (1 : Int32)) = f_4 x1 x2 := by
      rw [f_4, if_pos hc8]
      try rfl
    exact o_nreturn (t := .boolean) G2 (by simp) d4_16 ⟨congrArg (fun z => some (Value.int z)) hq, rfl⟩ (by decide) (by decide)
def own_a5 (y0 y1 y2 y3 y4 : Int32) (j : Nat) : Value := match j with | 0 => .int y0 | 1 => .int y1 | 2 => .int y2 | 3 => .int y3 | _ => .int y4
theorem d5_0 : decode prog_5_method_6_code 0 = .ok (.aload_n 0, 1) := by decide +kernel
theorem d5_1 : decode prog_5_method_6_code 1 = .ok (.getfield 20, 3) := by decide +kernel
theorem d5_4 : decode prog_5_method_6_code 4 = .ok (.aload_n 0, 1) := by decide +kernel
theorem d5_5 : decode prog_5_method_6_code 5 = .ok (.getfield 16, 3) := by decide +kernel
theorem d5_8 : decode prog_5_method_6_code 8 = .ok (.isub, 1) := by decide +kernel
theorem d5_9 : decode prog_5_method_6_code 9 = .ok (.iconst 2, 1) := by decide +kernel
theorem d5_10 : decode prog_5_method_6_code 10 = .ok (.if_icmp .lt 20, 3) := by decide +kernel
theorem d5_13 : decode prog_5_method_6_code 13 = .ok (.aload_n 0, 1) := by decide +kernel
theorem d5_14 : decode prog_5_method_6_code 14 = .ok (.getfield 12, 3) := by decide +kernel
theorem d5_17 : decode prog_5_method_6_code 17 = .ok (.aload_n 0, 1) := by decide +kernel
theorem d5_18 : decode prog_5_method_6_code 18 = .ok (.getfield 16, 3) := by decide +kernel
theorem d5_21 : decode prog_5_method_6_code 21 = .ok (.baload, 1) := by decide +kernel
theorem d5_22 : decode prog_5_method_6_code 22 = .ok (.sipush 255, 3) := by decide +kernel
theorem d5_25 : decode prog_5_method_6_code 25 = .ok (.iand, 1) := by decide +kernel
theorem d5_26 : decode prog_5_method_6_code 26 = .ok (.iload_n 1, 1) := by decide +kernel
theorem d5_27 : decode prog_5_method_6_code 27 = .ok (.if_icmp .eq 17, 3) := by decide +kernel
theorem d5_44 : decode prog_5_method_6_code 44 = .ok (.aload_n 0, 1) := by decide +kernel
theorem d5_45 : decode prog_5_method_6_code 45 = .ok (.getfield 16, 3) := by decide +kernel
theorem d5_48 : decode prog_5_method_6_code 48 = .ok (.iconst 2, 1) := by decide +kernel
theorem d5_49 : decode prog_5_method_6_code 49 = .ok (.iadd, 1) := by decide +kernel
theorem d5_50 : decode prog_5_method_6_code 50 = .ok (.istore_n 2, 1) := by decide +kernel
theorem d5_51 : decode prog_5_method_6_code 51 = .ok (.aload_n 0, 1) := by decide +kernel
theorem d5_52 : decode prog_5_method_6_code 52 = .ok (.getfield 12, 3) := by decide +kernel
theorem d5_55 : decode prog_5_method_6_code 55 = .ok (.aload_n 0, 1) := by decide +kernel
theorem d5_56 : decode prog_5_method_6_code 56 = .ok (.getfield 16, 3) := by decide +kernel
theorem d5_59 : decode prog_5_method_6_code 59 = .ok (.iconst 1, 1) := by decide +kernel
theorem d5_60 : decode prog_5_method_6_code 60 = .ok (.iadd, 1) := by decide +kernel
theorem d5_61 : decode prog_5_method_6_code 61 = .ok (.baload, 1) := by decide +kernel
theorem d5_62 : decode prog_5_method_6_code 62 = .ok (.sipush 255, 3) := by decide +kernel
theorem d5_65 : decode prog_5_method_6_code 65 = .ok (.iand, 1) := by decide +kernel
theorem d5_66 : decode prog_5_method_6_code 66 = .ok (.istore_n 3, 1) := by decide +kernel
theorem d5_67 : decode prog_5_method_6_code 67 = .ok (.iload_n 3, 1) := by decide +kernel
theorem d5_68 : decode prog_5_method_6_code 68 = .ok (.bipush 127, 2) := by decide +kernel
theorem d5_70 : decode prog_5_method_6_code 70 = .ok (.if_icmp .le 73, 3) := by decide +kernel
theorem d5_143 : decode prog_5_method_6_code 143 = .ok (.iload_n 3, 1) := by decide +kernel
theorem d5_144 : decode prog_5_method_6_code 144 = .ok (.aload_n 0, 1) := by decide +kernel
theorem d5_145 : decode prog_5_method_6_code 145 = .ok (.getfield 20, 3) := by decide +kernel
theorem d5_148 : decode prog_5_method_6_code 148 = .ok (.iload_n 2, 1) := by decide +kernel
theorem d5_149 : decode prog_5_method_6_code 149 = .ok (.isub, 1) := by decide +kernel
theorem d5_150 : decode prog_5_method_6_code 150 = .ok (.if_icmp .le 13, 3) := by decide +kernel
theorem d5_163 : decode prog_5_method_6_code 163 = .ok (.aload_n 0, 1) := by decide +kernel
theorem d5_164 : decode prog_5_method_6_code 164 = .ok (.iload_n 2, 1) := by decide +kernel
theorem d5_165 : decode prog_5_method_6_code 165 = .ok (.iload_n 3, 1) := by decide +kernel
theorem d5_166 : decode prog_5_method_6_code 166 = .ok (.iadd, 1) := by decide +kernel
theorem d5_167 : decode prog_5_method_6_code 167 = .ok (.putfield 16, 3) := by decide +kernel
theorem d5_170 : decode prog_5_method_6_code 170 = .ok (.new 2, 3) := by decide +kernel
theorem d5_173 : decode prog_5_method_6_code 173 = .ok (.dup, 1) := by decide +kernel
theorem d5_174 : decode prog_5_method_6_code 174 = .ok (.aload_n 0, 1) := by decide +kernel
theorem d5_175 : decode prog_5_method_6_code 175 = .ok (.getfield 12, 3) := by decide +kernel
theorem d5_178 : decode prog_5_method_6_code 178 = .ok (.iload_n 2, 1) := by decide +kernel
theorem d5_179 : decode prog_5_method_6_code 179 = .ok (.aload_n 0, 1) := by decide +kernel
theorem d5_180 : decode prog_5_method_6_code 180 = .ok (.getfield 16, 3) := by decide +kernel
theorem d5_183 : decode prog_5_method_6_code 183 = .ok (.invokespecial 1, 3) := by decide +kernel
theorem d5_186 : decode prog_5_method_6_code 186 = .ok (.areturn, 1) := by decide +kernel
theorem pn_5 : plainName "com/example/ronda/ronda/engine/Der" = true := by first | (simp [plainName, overriddenIn]; done) | decide +kernel
theorem ef_5 (m : MethodId) (r0 : Addr) (p1 : Int32) : entryFrame m #[(.ref r0), (.int p1)] 6 = mkF m 0 #[.val (.ref r0), .val (.int p1), .unset, .unset, .unset, .unset] [] := by first | (simp [entryFrame, mkF, argsToLocals, Value.category]; done) | rfl
set_option maxRecDepth 65536 in
set_option maxHeartbeats 40000000 in
theorem rm5 {l : Launch} {Z : State} {a0 : Array Value} (hw : ∀ d ∈ tables_1, d.before a0 Z = true) (r0 : Addr) (p1 : Int32) (h0 : Heap) (n0 : Nat) (hz : n0 ≤ h0.size) (ra : Addr) (y0 y1 y2 y3 y4 : Int32) (g_r0 : n0 ≤ r0) (hne : ra ≠ r0) (E_r0 : Exa Z h0 r0 "com/example/ronda/ronda/engine/Der") (F_bytes_r0 : Fld Z h0 r0 "com/example/ronda/ronda/engine/Der" "bytes" "[B" (.ref ra)) (F_position_r0 : Fld Z h0 r0 "com/example/ronda/ronda/engine/Der" "position" "I" (.int (0 : Int32))) (F_end_r0 : Fld Z h0 r0 "com/example/ronda/ronda/engine/Der" "end" "I" (.int (5 : Int32))) (A_ra : OArr Z h0 ra .byte 5 (own_a5 y0 y1 y2 y3 y4)) (htag : y0 &&& (255 : Int32) = p1) (hl1 : ¬ (127 : Int32) < y1 &&& (255 : Int32)) (hl2 : ¬ (3 : Int32) < y1 &&& (255 : Int32)) :
    OMet l Z (⟨"com/example/ronda/ronda/engine/Der", "next", "(I)Lcom/example/ronda/ronda/engine/Der;"⟩ : MethodName) prog_5_method_6_code 6 (some (.object "com/example/ronda/ronda/engine/Der")) ({ frames := 2, cells := 1, slots := 3, locals := 28 } : Room) #[(.ref r0), (.int p1)] h0 n0 ({ frames := 2, cells := 1, slots := 3, locals := 28 } : Room).cells ({ frames := 2, cells := 1, slots := 3, locals := 28 } : Room).slots (fun v h => ∃ b, v = some (.ref b) ∧ n0 ≤ b ∧ h0.size ≤ b ∧ Keep h0 h [r0] ∧ Fld Z h r0 "com/example/ronda/ronda/engine/Der" "bytes" "[B" (.ref ra) ∧ Fld Z h r0 "com/example/ronda/ronda/engine/Der" "end" "I" (.int (5 : Int32)) ∧ Fld Z h r0 "com/example/ronda/ronda/engine/Der" "position" "I" (.int ((2 : Int32) + (y1 &&& (255 : Int32)))) ∧ Exa Z h b "com/example/ronda/ronda/engine/Der" ∧ Fld Z h b "com/example/ronda/ronda/engine/Der" "bytes" "[B" (.ref ra) ∧ Fld Z h b "com/example/ronda/ronda/engine/Der" "position" "I" (.int (2 : Int32)) ∧ Fld Z h b "com/example/ronda/ronda/engine/Der" "end" "I" (.int ((2 : Int32) + (y1 &&& (255 : Int32))))) := by
  refine o_body (plainFor_of_name pn_5) hz (fun m => ef_5 m r0 p1) ?_
  intro p e s m below meth c s₁ G0
  have K : Keep h0 h0 [r0] := Keep.refl _ _
  refine o_aloadN G0 d5_0 (pc' := 1) rfl rfl rfl ?_
  refine o_getF G0 (host := "") (Or.inl (hw _ (List.mem_of_getElem? (i := 18) rfl))) Via.refl F_end_r0 d5_1 (pc' := 4) rfl ?_
  intro T1 G1
  refine o_aloadN G1 d5_4 (pc' := 5) rfl rfl rfl ?_
  refine o_getF G1 (host := "") (Or.inl (hw _ (List.mem_of_getElem? (i := 16) rfl))) Via.refl F_position_r0 d5_5 (pc' := 8) rfl ?_
  intro T2 G2
  refine o_isub G2 d5_8 (pc' := 9) rfl (v := (5 : Int32)) (by decide) ?_
  refine o_iconst G2 d5_9 (pc' := 10) rfl (v := (2 : Int32)) rfl ?_
  refine o_icmp_lt G2 d5_10 (by decide) (pcT := 30) (by decide) (pc' := 13) rfl (fun q => absurd q (by decide)) (fun _ => ?_)
  refine o_aloadN G2 d5_13 (pc' := 14) rfl rfl rfl ?_
  refine o_getF G2 (host := "") (Or.inl (hw _ (List.mem_of_getElem? (i := 14) rfl))) Via.refl F_bytes_r0 d5_14 (pc' := 17) rfl ?_
  intro T3 G3
  refine o_aloadN G3 d5_17 (pc' := 18) rfl rfl rfl ?_
  refine o_getF G3 (host := "") (Or.inl (hw _ (List.mem_of_getElem? (i := 16) rfl))) Via.refl F_position_r0 d5_18 (pc' := 21) rfl ?_
  intro T4 G4
  refine o_baload G4 A_ra (i := 0) rfl (by decide) (v := (.int y0)) rfl d5_21 (pc' := 22) rfl ?_
  refine o_sipush G4 d5_22 (pc' := 25) rfl (v := (255 : Int32)) rfl ?_
  obtain ⟨v5, e5⟩ : ∃ z, y0 &&& (255 : Int32) = z := ⟨_, rfl⟩
  refine o_iand G4 d5_25 (pc' := 26) rfl e5 ?_
  refine o_iloadN G4 d5_26 (pc' := 27) rfl rfl ?_
  refine o_icmp_eq G4 d5_27 (by decide) (pcT := 44) (by decide) (pc' := 30) rfl (fun _ => ?_) (fun q => absurd (by rw [← e5]; exact htag) q)
  refine o_aloadN G4 d5_44 (pc' := 45) rfl rfl rfl ?_
  refine o_getF G4 (host := "") (Or.inl (hw _ (List.mem_of_getElem? (i := 16) rfl))) Via.refl F_position_r0 d5_45 (pc' := 48) rfl ?_
  intro T6 G6
  refine o_iconst G6 d5_48 (pc' := 49) rfl (v := (2 : Int32)) rfl ?_
  refine o_iadd G6 d5_49 (pc' := 50) rfl (v := (2 : Int32)) (by decide) ?_
  refine o_istoreN G6 d5_50 (pc' := 51) rfl (l' := #[.val (.ref r0), .val (.int p1), .val (.int (2 : Int32)), .unset, .unset, .unset]) rfl ?_
  refine o_aloadN G6 d5_51 (pc' := 52) rfl rfl rfl ?_
  refine o_getF G6 (host := "") (Or.inl (hw _ (List.mem_of_getElem? (i := 14) rfl))) Via.refl F_bytes_r0 d5_52 (pc' := 55) rfl ?_
  intro T7 G7
  refine o_aloadN G7 d5_55 (pc' := 56) rfl rfl rfl ?_
  refine o_getF G7 (host := "") (Or.inl (hw _ (List.mem_of_getElem? (i := 16) rfl))) Via.refl F_position_r0 d5_56 (pc' := 59) rfl ?_
  intro T8 G8
  refine o_iconst G8 d5_59 (pc' := 60) rfl (v := (1 : Int32)) rfl ?_
  refine o_iadd G8 d5_60 (pc' := 61) rfl (v := (1 : Int32)) (by decide) ?_
  refine o_baload G8 A_ra (i := 1) rfl (by decide) (v := (.int y1)) rfl d5_61 (pc' := 62) rfl ?_
  refine o_sipush G8 d5_62 (pc' := 65) rfl (v := (255 : Int32)) rfl ?_
  obtain ⟨v9, e9⟩ : ∃ z, y1 &&& (255 : Int32) = z := ⟨_, rfl⟩
  refine o_iand G8 d5_65 (pc' := 66) rfl e9 ?_
  refine o_istoreN G8 d5_66 (pc' := 67) rfl (l' := #[.val (.ref r0), .val (.int p1), .val (.int (2 : Int32)), .val (.int v9), .unset, .unset]) rfl ?_
  refine o_iloadN G8 d5_67 (pc' := 68) rfl rfl ?_
  refine o_bipush G8 d5_68 (pc' := 70) rfl (v := (127 : Int32)) rfl ?_
  refine o_icmp_le G8 d5_70 (by decide) (pcT := 143) (by decide) (pc' := 73) rfl (fun _ => ?_) (fun q => absurd q (by rw [← e9]; exact hl1))
  refine o_iloadN G8 d5_143 (pc' := 144) rfl rfl ?_
  refine o_aloadN G8 d5_144 (pc' := 145) rfl rfl rfl ?_
  refine o_getF G8 (host := "") (Or.inl (hw _ (List.mem_of_getElem? (i := 18) rfl))) Via.refl F_end_r0 d5_145 (pc' := 148) rfl ?_
  intro T10 G10
  refine o_iloadN G10 d5_148 (pc' := 149) rfl rfl ?_
  refine o_isub G10 d5_149 (pc' := 150) rfl (v := (3 : Int32)) (by decide) ?_
  refine o_icmp_le G10 d5_150 (by decide) (pcT := 163) (by decide) (pc' := 153) rfl (fun _ => ?_) (fun q => absurd q (by rw [← e9]; exact hl2))
  refine o_aloadN G10 d5_163 (pc' := 164) rfl rfl rfl ?_
  refine o_iloadN G10 d5_164 (pc' := 165) rfl rfl ?_
  refine o_iloadN G10 d5_165 (pc' := 166) rfl rfl ?_
  obtain ⟨v11, e11⟩ : ∃ z, (2 : Int32) + v9 = z := ⟨_, rfl⟩
  refine o_iadd G10 d5_166 (pc' := 167) rfl e11 ?_
  refine o_putF G10 (host := "") (Or.inl (hw _ (List.mem_of_getElem? (i := 16) rfl))) Via.refl F_position_r0 E_r0 (Or.inl (hw _ (List.mem_of_getElem? (i := 17) rfl))) (hw _ (List.mem_of_getElem? (i := 3) rfl)) (ty := .int) (by decide) rfl rfl g_r0 d5_167 (pc' := 170) rfl ?_
  intro T12 h12 G12 W12
  replace E_r0 := E_r0.wr W12
  replace F_bytes_r0 := F_bytes_r0.other W12 (Or.inr (slot_ne (Or.inr (hw _ (List.mem_of_getElem? (i := 15) rfl))) (Or.inl (hw _ (List.mem_of_getElem? (i := 17) rfl))) (by decide) (t := (.array .byte)) (t' := .int) (by decide) (by decide)))
  replace F_position_r0 := F_position_r0.same W12
  replace F_end_r0 := F_end_r0.other W12 (Or.inr (slot_ne (Or.inr (hw _ (List.mem_of_getElem? (i := 19) rfl))) (Or.inl (hw _ (List.mem_of_getElem? (i := 17) rfl))) (by decide) (t := .int) (t' := .int) (by decide) (by decide)))
  replace K := K.wr W12 (Or.inl (List.mem_of_getElem? (i := 0) rfl))
  replace A_ra := A_ra.other W12 hne
  refine o_new G12 (hw _ (List.mem_of_getElem? (i := 30) rfl)) (hw _ (List.mem_of_getElem? (i := 3) rfl)) (hw _ (List.mem_of_getElem? (i := 4) rfl)) d5_170 (pc' := 173) rfl (by decide) (by decide) ?_
  intro T13 h13 b13 G13 g13 g_b13 E13 A13 D13
  have ne_r0_b13 : r0 ≠ b13 := Nat.ne_of_lt (Nat.lt_of_lt_of_eq E_r0.lt g13.symm)
  have ne_ra_b13 : ra ≠ b13 := Nat.ne_of_lt (Nat.lt_of_lt_of_eq A_ra.lt g13.symm)
  have sz_b13 : h0.size ≤ b13 := Nat.le_trans K.1 (Nat.le_of_eq g13.symm)
  replace E_r0 := E_r0.ext E13
  replace F_bytes_r0 := F_bytes_r0.ext E13
  replace F_position_r0 := F_position_r0.ext E13
  replace F_end_r0 := F_end_r0.ext E13
  replace K := K.ext E13
  replace A_ra := A_ra.ext E13
  have F_bytes_b13 : Fld Z h13 b13 "com/example/ronda/ronda/engine/Der" "bytes" "[B" .null := D13 (Or.inr (hw _ (List.mem_of_getElem? (i := 15) rfl))) (ty := (.array .byte)) (by decide)
  have F_position_b13 : Fld Z h13 b13 "com/example/ronda/ronda/engine/Der" "position" "I" (.int (0 : Int32)) := D13 (Or.inl (hw _ (List.mem_of_getElem? (i := 17) rfl))) (ty := .int) (by decide)
  have F_end_b13 : Fld Z h13 b13 "com/example/ronda/ronda/engine/Der" "end" "I" (.int (0 : Int32)) := D13 (Or.inr (hw _ (List.mem_of_getElem? (i := 19) rfl))) (ty := .int) (by decide)
  refine o_dup G13 d5_173 (pc' := 174) rfl rfl ?_
  refine o_aloadN G13 d5_174 (pc' := 175) rfl rfl rfl ?_
  refine o_getF G13 (host := "") (Or.inl (hw _ (List.mem_of_getElem? (i := 14) rfl))) Via.refl F_bytes_r0 d5_175 (pc' := 178) rfl ?_
  intro T14 G14
  refine o_iloadN G14 d5_178 (pc' := 179) rfl rfl ?_
  refine o_aloadN G14 d5_179 (pc' := 180) rfl rfl rfl ?_
  refine o_getF G14 (host := "") (Or.inl (hw _ (List.mem_of_getElem? (i := 16) rfl))) Via.refl F_position_r0 d5_180 (pc' := 183) rfl ?_
  intro T15 G15
  refine o_callI G15 (z := (⟨"com/example/ronda/ronda/engine/Der", "<init>", "([BII)V"⟩ : MethodName)) (argsL := [(.ref ra), (.int (2 : Int32)), (.int v11)]) (rest := [(.ref b13)]) (W := 1) (a := b13) rfl (hw _ (List.mem_of_getElem? (i := 8) rfl)) (hw _ (List.mem_of_getElem? (i := 9) rfl)) rfl d5_183 (by decide) (hw _ (List.mem_of_getElem? (i := 4) rfl)) (hw _ (List.mem_of_getElem? (i := 10) rfl)) (rm2 hw b13 ra (2 : Int32) v11 h13 n0 G15.sz g_b13 A13 F_bytes_b13 F_position_b13 F_end_b13) (by decide) (by decide) rfl (lenOf pd_0 rfl) rfl (Nat.le_of_eq rfl) (pc' := 186) rfl (by decide) (by decide) ?_
  rintro _ T16 h16 G16 ⟨rfl, K16, E16, Fb1, Fb2, Fb3⟩
  replace E_r0 := E_r0.keep K16
  replace F_bytes_r0 := F_bytes_r0.keep K16 (ninS ne_r0_b13 nin0)
  replace F_position_r0 := F_position_r0.keep K16 (ninS ne_r0_b13 nin0)
  replace F_end_r0 := F_end_r0.keep K16 (ninS ne_r0_b13 nin0)
  replace K := K.trans K16 (allS (Or.inr sz_b13) all0)
  replace A_ra := A_ra.keep K16 (ninS ne_ra_b13 nin0)
  replace A13 := A13.keep K16
  show OFin n0 p e below s (fun v h => ∃ b, v = some (.ref b) ∧ n0 ≤ b ∧ h0.size ≤ b ∧ Keep h0 h [r0] ∧ Fld Z h r0 "com/example/ronda/ronda/engine/Der" "bytes" "[B" (.ref ra) ∧ Fld Z h r0 "com/example/ronda/ronda/engine/Der" "end" "I" (.int (5 : Int32)) ∧ Fld Z h r0 "com/example/ronda/ronda/engine/Der" "position" "I" (.int ((2 : Int32) + (y1 &&& (255 : Int32)))) ∧ Exa Z h b "com/example/ronda/ronda/engine/Der" ∧ Fld Z h b "com/example/ronda/ronda/engine/Der" "bytes" "[B" (.ref ra) ∧ Fld Z h b "com/example/ronda/ronda/engine/Der" "position" "I" (.int (2 : Int32)) ∧ Fld Z h b "com/example/ronda/ronda/engine/Der" "end" "I" (.int ((2 : Int32) + (y1 &&& (255 : Int32))))) 1 3 T16 (mkF m 186 #[.val (.ref r0), .val (.int p1), .val (.int (2 : Int32)), .val (.int v9), .unset, .unset] [(.ref b13)])
  subst e5 e9 e11
  exact o_areturn G16 rfl rfl rfl d5_186 ⟨_, rfl, g_b13, sz_b13, K, F_bytes_r0, F_end_r0, F_position_r0, E16, Fb1, Fb2, Fb3⟩ (by decide) (by decide)
theorem own_m4 (x : Int32) : (x &&& (2147483647 : Int32)) % (4 : Int32) = 0 ∨ (x &&& (2147483647 : Int32)) % (4 : Int32) = 1 ∨ (x &&& (2147483647 : Int32)) % (4 : Int32) = 2 ∨ (x &&& (2147483647 : Int32)) % (4 : Int32) = 3 := by
  have h := c_and x 2147483647 (by decide)
  have e : ((x &&& (2147483647 : Int32)) % (4 : Int32)).toInt = (x &&& (2147483647 : Int32)).toInt % 4 := by rw [Int32.toInt_mod, Int.tmod_eq_emod_of_nonneg h.1]; rfl
  have r : (x &&& (2147483647 : Int32)).toInt % 4 = 0 ∨ (x &&& (2147483647 : Int32)).toInt % 4 = 1 ∨ (x &&& (2147483647 : Int32)).toInt % 4 = 2 ∨ (x &&& (2147483647 : Int32)).toInt % 4 = 3 := by omega
  rw [← e] at r
  exact r.imp (fun q => Int32.toInt_inj.mp q) (fun r => r.imp (fun q => Int32.toInt_inj.mp q) (fun r => r.imp (fun q => Int32.toInt_inj.mp q) (fun q => Int32.toInt_inj.mp q)))
theorem own_tag (x : Int32) : nar .byte x.toInt8.toInt32 &&& (255 : Int32) = x &&& (255 : Int32) := by
  apply Int32.toInt_inj.mp
  rw [c_mask _ 255 8 (by decide) (by decide), c_mask _ 255 8 (by decide) (by decide)]
  have h1 := (c_i2b x).1
  have h2 := (c_i2b x.toInt8.toInt32).1
  have e : nar .byte x.toInt8.toInt32 = x.toInt8.toInt32.toInt8.toInt32 := rfl
  rw [e]
  show _ % 256 = _ % 256
  omega
theorem pn_0 : plainName "com/example/ronda/ronda/engine/DerHasMorePinLaw" = true := by first | (simp [plainName, overriddenIn]; done) | decide +kernel
theorem ef_0 (m : MethodId) (p0 : Int32) (p1 : Int32) (p2 : Int32) : entryFrame m #[(.int p0), (.int p1), (.int p2)] maxLocals = mkF m 0 #[.val (.int p0), .val (.int p1), .val (.int p2), .unset, .unset, .unset, .unset, .unset, .unset, .unset, .unset, .unset, .unset, .unset] [] := by first | (simp [entryFrame, mkF, argsToLocals, Value.category, maxLocals]; done) | rfl
set_option maxRecDepth 65536 in
set_option maxHeartbeats 40000000 in
theorem rm0 {l : Launch} {Z : State} {a0 : Array Value} (hw : ∀ d ∈ tables_1, d.before a0 Z = true) (p0 : Int32) (p1 : Int32) (p2 : Int32) (h0 : Heap) (n0 : Nat) (hz : n0 ≤ h0.size) :
    OMet l Z x code maxLocals ret room_1 #[(.int p0), (.int p1), (.int p2)] h0 n0 24 128 (fun v _ => v = some (.int 1)) := by
  refine o_body (plainFor_of_name pn_0) hz (fun m => ef_0 m p0 p1 p2) ?_
  intro p e s m below meth c s₁ G0
  refine o_iconst G0 at_0 (pc' := 1) rfl (v := (0 : Int32)) rfl ?_
  refine o_newarray G0 (N := 0) (cap := 0) (hw _ (List.mem_of_getElem? (i := 0) rfl)) rfl (by decide) (by decide) at_1 (pc' := 3) rfl (by decide) (by decide) ?_
  intro T1 h1 b1 G1 g1 g_b1 E1 A_b1
  replace A_b1 : OArr Z h1 b1 .byte 0 (fun _ => (.int (0 : Int32))) := A_b1
  refine o_astoreN G1 at_3 (pc' := 4) rfl rfl (l' := #[.val (.int p0), .val (.int p1), .val (.int p2), .val (.ref b1), .unset, .unset, .unset, .unset, .unset, .unset, .unset, .unset, .unset, .unset]) rfl ?_
  refine o_iconst G1 at_4 (pc' := 5) rfl (v := (1 : Int32)) rfl ?_
  refine o_newarray G1 (N := 1) (cap := 1) (hw _ (List.mem_of_getElem? (i := 0) rfl)) rfl (by decide) (by decide) at_5 (pc' := 7) rfl (by decide) (by decide) ?_
  intro T2 h2 b2 G2 g2 g_b2 E2 A_b2
  have ne_b1_b2 : b1 ≠ b2 := Nat.ne_of_lt (Nat.lt_of_lt_of_eq A_b1.lt g2.symm)
  replace A_b1 := A_b1.ext E2
  replace A_b2 : OArr Z h2 b2 .byte 1 (fun _ => (.int (0 : Int32))) := A_b2
  refine o_astore G2 at_7 (pc' := 9) rfl rfl (l' := #[.val (.int p0), .val (.int p1), .val (.int p2), .val (.ref b1), .val (.ref b2), .unset, .unset, .unset, .unset, .unset, .unset, .unset, .unset, .unset]) rfl ?_
  refine o_iconst G2 at_9 (pc' := 10) rfl (v := (5 : Int32)) rfl ?_
  refine o_newarray G2 (N := 5) (cap := 5) (hw _ (List.mem_of_getElem? (i := 0) rfl)) rfl (by decide) (by decide) at_10 (pc' := 12) rfl (by decide) (by decide) ?_
  intro T3 h3 b3 G3 g3 g_b3 E3 A_b3
  have ne_b1_b3 : b1 ≠ b3 := Nat.ne_of_lt (Nat.lt_of_lt_of_eq A_b1.lt g3.symm)
  have ne_b2_b3 : b2 ≠ b3 := Nat.ne_of_lt (Nat.lt_of_lt_of_eq A_b2.lt g3.symm)
  replace A_b1 := A_b1.ext E3
  replace A_b2 := A_b2.ext E3
  replace A_b3 : OArr Z h3 b3 .byte 5 (fun _ => (.int (0 : Int32))) := A_b3
  refine o_astore G3 at_12 (pc' := 14) rfl rfl (l' := #[.val (.int p0), .val (.int p1), .val (.int p2), .val (.ref b1), .val (.ref b2), .val (.ref b3), .unset, .unset, .unset, .unset, .unset, .unset, .unset, .unset]) rfl ?_
  refine o_iloadN G3 at_14 (pc' := 15) rfl rfl ?_
  refine o_ldc G3 at_15 (pc' := 17) rfl (hw _ (List.mem_of_getElem? (i := 1) rfl)) ?_
  obtain ⟨v4, e4⟩ : ∃ z, p1 &&& (2147483647 : Int32) = z := ⟨_, rfl⟩
  refine o_iand G3 at_17 (pc' := 18) rfl e4 ?_
  refine o_iconst G3 at_18 (pc' := 19) rfl (v := (4 : Int32)) rfl ?_
  obtain ⟨v5, e5⟩ : ∃ z, v4 % (4 : Int32) = z := ⟨_, rfl⟩
  refine o_irem G3 at_19 (pc' := 20) rfl (by decide) e5 ?_
  refine o_istore G3 at_20 (pc' := 22) rfl (l' := #[.val (.int p0), .val (.int p1), .val (.int p2), .val (.ref b1), .val (.ref b2), .val (.ref b3), .val (.int v5), .unset, .unset, .unset, .unset, .unset, .unset, .unset]) rfl ?_
  have hlen : v5 = (0 : Int32) ∨ v5 = (1 : Int32) ∨ v5 = (2 : Int32) ∨ v5 = (3 : Int32) := by
    subst e4 e5; exact own_m4 _
  rcases hlen with hl | hl | hl | hl
  · subst hl
    refine o_aload G3 at_22 (pc' := 24) rfl rfl rfl ?_
    refine o_iconst G3 at_24 (pc' := 25) rfl (v := (0 : Int32)) rfl ?_
    refine o_iloadN G3 at_25 (pc' := 26) rfl rfl ?_
    obtain ⟨v6, e6⟩ : ∃ z, p0.toInt8.toInt32 = z := ⟨_, rfl⟩
    refine o_i2b G3 at_26 (pc' := 27) rfl e6 ?_
    refine o_bastore G3 A_b2 g_b2 (i := 0) rfl (by decide) at_27 (pc' := 28) rfl ?_
    intro T7 h7 G7 W7 A7
    replace A_b1 := A_b1.other W7 ne_b1_b2
    replace A_b3 := A_b3.other W7 (Ne.symm ne_b2_b3)
    replace A_b2 := A7
    refine o_aload G7 at_28 (pc' := 30) rfl rfl rfl ?_
    refine o_iconst G7 at_30 (pc' := 31) rfl (v := (0 : Int32)) rfl ?_
    refine o_iloadN G7 at_31 (pc' := 32) rfl rfl ?_
    obtain ⟨v8, e8⟩ : ∃ z, p0.toInt8.toInt32 = z := ⟨_, rfl⟩
    refine o_i2b G7 at_32 (pc' := 33) rfl e8 ?_
    refine o_bastore G7 A_b3 g_b3 (i := 0) rfl (by decide) at_33 (pc' := 34) rfl ?_
    intro T9 h9 G9 W9 A9
    replace A_b1 := A_b1.other W9 ne_b1_b3
    replace A_b2 := A_b2.other W9 ne_b2_b3
    replace A_b3 := A9
    refine o_aload G9 at_34 (pc' := 36) rfl rfl rfl ?_
    refine o_iconst G9 at_36 (pc' := 37) rfl (v := (1 : Int32)) rfl ?_
    refine o_iload G9 at_37 (pc' := 39) rfl rfl ?_
    refine o_i2b G9 at_39 (pc' := 40) rfl (v := (0 : Int32)) (by decide) ?_
    refine o_bastore G9 A_b3 g_b3 (i := 1) rfl (by decide) at_40 (pc' := 41) rfl ?_
    intro T10 h10 G10 W10 A10
    replace A_b1 := A_b1.other W10 ne_b1_b3
    replace A_b2 := A_b2.other W10 ne_b2_b3
    replace A_b3 := A10
    refine o_aload G10 at_41 (pc' := 43) rfl rfl rfl ?_
    refine o_iconst G10 at_43 (pc' := 44) rfl (v := (2 : Int32)) rfl ?_
    refine o_iloadN G10 at_44 (pc' := 45) rfl rfl ?_
    obtain ⟨v11, e11⟩ : ∃ z, p2.toInt8.toInt32 = z := ⟨_, rfl⟩
    refine o_i2b G10 at_45 (pc' := 46) rfl e11 ?_
    refine o_bastore G10 A_b3 g_b3 (i := 2) rfl (by decide) at_46 (pc' := 47) rfl ?_
    intro T12 h12 G12 W12 A12
    replace A_b1 := A_b1.other W12 ne_b1_b3
    replace A_b2 := A_b2.other W12 ne_b2_b3
    replace A_b3 := A12
    refine o_aload G12 at_47 (pc' := 49) rfl rfl rfl ?_
    refine o_iconst G12 at_49 (pc' := 50) rfl (v := (3 : Int32)) rfl ?_
    refine o_iloadN G12 at_50 (pc' := 51) rfl rfl ?_
    refine o_bipush G12 at_51 (pc' := 53) rfl (v := (8 : Int32)) rfl ?_
    obtain ⟨v13, e13⟩ : ∃ z, p2 >>> ((8 : Int32) &&& 31) = z := ⟨_, rfl⟩
    refine o_ishr G12 at_53 (pc' := 54) rfl e13 ?_
    obtain ⟨v14, e14⟩ : ∃ z, v13.toInt8.toInt32 = z := ⟨_, rfl⟩
    refine o_i2b G12 at_54 (pc' := 55) rfl e14 ?_
    refine o_bastore G12 A_b3 g_b3 (i := 3) rfl (by decide) at_55 (pc' := 56) rfl ?_
    intro T15 h15 G15 W15 A15
    replace A_b1 := A_b1.other W15 ne_b1_b3
    replace A_b2 := A_b2.other W15 ne_b2_b3
    replace A_b3 := A15
    refine o_aload G15 at_56 (pc' := 58) rfl rfl rfl ?_
    refine o_iconst G15 at_58 (pc' := 59) rfl (v := (4 : Int32)) rfl ?_
    refine o_iloadN G15 at_59 (pc' := 60) rfl rfl ?_
    refine o_bipush G15 at_60 (pc' := 62) rfl (v := (16 : Int32)) rfl ?_
    obtain ⟨v16, e16⟩ : ∃ z, p2 >>> ((16 : Int32) &&& 31) = z := ⟨_, rfl⟩
    refine o_ishr G15 at_62 (pc' := 63) rfl e16 ?_
    obtain ⟨v17, e17⟩ : ∃ z, v16.toInt8.toInt32 = z := ⟨_, rfl⟩
    refine o_i2b G15 at_63 (pc' := 64) rfl e17 ?_
    refine o_bastore G15 A_b3 g_b3 (i := 4) rfl (by decide) at_64 (pc' := 65) rfl ?_
    intro T18 h18 G18 W18 A18
    replace A_b1 := A_b1.other W18 ne_b1_b3
    replace A_b2 := A_b2.other W18 ne_b2_b3
    replace A_b3 := A18
    refine o_new G18 (hw _ (List.mem_of_getElem? (i := 2) rfl)) (hw _ (List.mem_of_getElem? (i := 3) rfl)) (hw _ (List.mem_of_getElem? (i := 4) rfl)) at_65 (pc' := 68) rfl (by decide) (by decide) ?_
    intro T19 h19 b19 G19 g19 g_b19 E19 A19 D19
    have ne_b1_b19 : b1 ≠ b19 := Nat.ne_of_lt (Nat.lt_of_lt_of_eq A_b1.lt g19.symm)
    have ne_b2_b19 : b2 ≠ b19 := Nat.ne_of_lt (Nat.lt_of_lt_of_eq A_b2.lt g19.symm)
    have ne_b3_b19 : b3 ≠ b19 := Nat.ne_of_lt (Nat.lt_of_lt_of_eq A_b3.lt g19.symm)
    replace A_b1 := A_b1.ext E19
    replace A_b2 := A_b2.ext E19
    replace A_b3 := A_b3.ext E19
    have F_bytes_b19 : Fld Z h19 b19 "com/example/ronda/ronda/engine/Der" "bytes" "[B" .null := D19 (Or.inr (hw _ (List.mem_of_getElem? (i := 15) rfl))) (ty := (.array .byte)) (by decide)
    have F_position_b19 : Fld Z h19 b19 "com/example/ronda/ronda/engine/Der" "position" "I" (.int (0 : Int32)) := D19 (Or.inl (hw _ (List.mem_of_getElem? (i := 17) rfl))) (ty := .int) (by decide)
    have F_end_b19 : Fld Z h19 b19 "com/example/ronda/ronda/engine/Der" "end" "I" (.int (0 : Int32)) := D19 (Or.inr (hw _ (List.mem_of_getElem? (i := 19) rfl))) (ty := .int) (by decide)
    refine o_dup G19 at_68 (pc' := 69) rfl rfl ?_
    refine o_aloadN G19 at_69 (pc' := 70) rfl rfl rfl ?_
    refine o_callI G19 (z := (⟨"com/example/ronda/ronda/engine/Der", "<init>", "([B)V"⟩ : MethodName)) (argsL := [(.ref b1)]) (rest := [(.ref b19)]) (W := 1) (a := b19) rfl (hw _ (List.mem_of_getElem? (i := 5) rfl)) (hw _ (List.mem_of_getElem? (i := 6) rfl)) rfl at_70 (by decide) (hw _ (List.mem_of_getElem? (i := 4) rfl)) (hw _ (List.mem_of_getElem? (i := 7) rfl)) (rm1 hw b19 b1 h19 n0 G19.sz g_b19 A19 F_bytes_b19 F_position_b19 F_end_b19 0 (0 : Int32) rfl _ A_b1) (by decide) (by decide) rfl (lenOf pd_1 rfl) rfl (Nat.le_of_eq rfl) (pc' := 73) rfl (by decide) (by decide) ?_
    rintro _ T20 h20 G20 ⟨rfl, K20, E20, Fa20, Fb20, Fc20⟩
    replace A_b1 := A_b1.keep K20 (ninS ne_b1_b19 nin0)
    replace A_b2 := A_b2.keep K20 (ninS ne_b2_b19 nin0)
    replace A_b3 := A_b3.keep K20 (ninS ne_b3_b19 nin0)
    replace A19 := A19.keep K20
    show OFin n0 p e below s (fun v _ => v = some (.int 1)) 24 128 T20 (mkF m 73 #[.val (.int p0), .val (.int p1), .val (.int p2), .val (.ref b1), .val (.ref b2), .val (.ref b3), .val (.int (0 : Int32)), .unset, .unset, .unset, .unset, .unset, .unset, .unset] [(.ref b19)])
    refine o_astore G20 at_73 (pc' := 75) rfl rfl (l' := #[.val (.int p0), .val (.int p1), .val (.int p2), .val (.ref b1), .val (.ref b2), .val (.ref b3), .val (.int (0 : Int32)), .val (.ref b19), .unset, .unset, .unset, .unset, .unset, .unset]) rfl ?_
    refine o_new G20 (hw _ (List.mem_of_getElem? (i := 2) rfl)) (hw _ (List.mem_of_getElem? (i := 3) rfl)) (hw _ (List.mem_of_getElem? (i := 4) rfl)) at_75 (pc' := 78) rfl (by decide) (by decide) ?_
    intro T21 h21 b21 G21 g21 g_b21 E21 A21 D21
    have ne_b1_b21 : b1 ≠ b21 := Nat.ne_of_lt (Nat.lt_of_lt_of_eq A_b1.lt g21.symm)
    have ne_b2_b21 : b2 ≠ b21 := Nat.ne_of_lt (Nat.lt_of_lt_of_eq A_b2.lt g21.symm)
    have ne_b3_b21 : b3 ≠ b21 := Nat.ne_of_lt (Nat.lt_of_lt_of_eq A_b3.lt g21.symm)
    have ne_b19_b21 : b19 ≠ b21 := Nat.ne_of_lt (Nat.lt_of_lt_of_eq A19.lt g21.symm)
    replace A_b1 := A_b1.ext E21
    replace A_b2 := A_b2.ext E21
    replace A_b3 := A_b3.ext E21
    replace A19 := A19.ext E21
    replace Fa20 := Fa20.ext E21
    replace Fb20 := Fb20.ext E21
    replace Fc20 := Fc20.ext E21
    have F_bytes_b21 : Fld Z h21 b21 "com/example/ronda/ronda/engine/Der" "bytes" "[B" .null := D21 (Or.inr (hw _ (List.mem_of_getElem? (i := 15) rfl))) (ty := (.array .byte)) (by decide)
    have F_position_b21 : Fld Z h21 b21 "com/example/ronda/ronda/engine/Der" "position" "I" (.int (0 : Int32)) := D21 (Or.inl (hw _ (List.mem_of_getElem? (i := 17) rfl))) (ty := .int) (by decide)
    have F_end_b21 : Fld Z h21 b21 "com/example/ronda/ronda/engine/Der" "end" "I" (.int (0 : Int32)) := D21 (Or.inr (hw _ (List.mem_of_getElem? (i := 19) rfl))) (ty := .int) (by decide)
    refine o_dup G21 at_78 (pc' := 79) rfl rfl ?_
    refine o_aload G21 at_79 (pc' := 81) rfl rfl rfl ?_
    refine o_callI G21 (z := (⟨"com/example/ronda/ronda/engine/Der", "<init>", "([B)V"⟩ : MethodName)) (argsL := [(.ref b2)]) (rest := [(.ref b21)]) (W := 1) (a := b21) rfl (hw _ (List.mem_of_getElem? (i := 5) rfl)) (hw _ (List.mem_of_getElem? (i := 6) rfl)) rfl at_81 (by decide) (hw _ (List.mem_of_getElem? (i := 4) rfl)) (hw _ (List.mem_of_getElem? (i := 7) rfl)) (rm1 hw b21 b2 h21 n0 G21.sz g_b21 A21 F_bytes_b21 F_position_b21 F_end_b21 1 (1 : Int32) rfl _ A_b2) (by decide) (by decide) rfl (lenOf pd_1 rfl) rfl (Nat.le_of_eq rfl) (pc' := 84) rfl (by decide) (by decide) ?_
    rintro _ T22 h22 G22 ⟨rfl, K22, E22, Fa22, Fb22, Fc22⟩
    replace A_b1 := A_b1.keep K22 (ninS ne_b1_b21 nin0)
    replace A_b2 := A_b2.keep K22 (ninS ne_b2_b21 nin0)
    replace A_b3 := A_b3.keep K22 (ninS ne_b3_b21 nin0)
    replace A19 := A19.keep K22
    replace Fa20 := Fa20.keep K22 (ninS ne_b19_b21 nin0)
    replace Fb20 := Fb20.keep K22 (ninS ne_b19_b21 nin0)
    replace Fc20 := Fc20.keep K22 (ninS ne_b19_b21 nin0)
    replace A21 := A21.keep K22
    show OFin n0 p e below s (fun v _ => v = some (.int 1)) 24 128 T22 (mkF m 84 #[.val (.int p0), .val (.int p1), .val (.int p2), .val (.ref b1), .val (.ref b2), .val (.ref b3), .val (.int (0 : Int32)), .val (.ref b19), .unset, .unset, .unset, .unset, .unset, .unset] [(.ref b21)])
    refine o_astore G22 at_84 (pc' := 86) rfl rfl (l' := #[.val (.int p0), .val (.int p1), .val (.int p2), .val (.ref b1), .val (.ref b2), .val (.ref b3), .val (.int (0 : Int32)), .val (.ref b19), .val (.ref b21), .unset, .unset, .unset, .unset, .unset]) rfl ?_
    refine o_new G22 (hw _ (List.mem_of_getElem? (i := 2) rfl)) (hw _ (List.mem_of_getElem? (i := 3) rfl)) (hw _ (List.mem_of_getElem? (i := 4) rfl)) at_86 (pc' := 89) rfl (by decide) (by decide) ?_
    intro T23 h23 b23 G23 g23 g_b23 E23 A23 D23
    have ne_b1_b23 : b1 ≠ b23 := Nat.ne_of_lt (Nat.lt_of_lt_of_eq A_b1.lt g23.symm)
    have ne_b2_b23 : b2 ≠ b23 := Nat.ne_of_lt (Nat.lt_of_lt_of_eq A_b2.lt g23.symm)
    have ne_b3_b23 : b3 ≠ b23 := Nat.ne_of_lt (Nat.lt_of_lt_of_eq A_b3.lt g23.symm)
    have ne_b19_b23 : b19 ≠ b23 := Nat.ne_of_lt (Nat.lt_of_lt_of_eq A19.lt g23.symm)
    have ne_b21_b23 : b21 ≠ b23 := Nat.ne_of_lt (Nat.lt_of_lt_of_eq A21.lt g23.symm)
    replace A_b1 := A_b1.ext E23
    replace A_b2 := A_b2.ext E23
    replace A_b3 := A_b3.ext E23
    replace A19 := A19.ext E23
    replace Fa20 := Fa20.ext E23
    replace Fb20 := Fb20.ext E23
    replace Fc20 := Fc20.ext E23
    replace A21 := A21.ext E23
    replace Fa22 := Fa22.ext E23
    replace Fb22 := Fb22.ext E23
    replace Fc22 := Fc22.ext E23
    have F_bytes_b23 : Fld Z h23 b23 "com/example/ronda/ronda/engine/Der" "bytes" "[B" .null := D23 (Or.inr (hw _ (List.mem_of_getElem? (i := 15) rfl))) (ty := (.array .byte)) (by decide)
    have F_position_b23 : Fld Z h23 b23 "com/example/ronda/ronda/engine/Der" "position" "I" (.int (0 : Int32)) := D23 (Or.inl (hw _ (List.mem_of_getElem? (i := 17) rfl))) (ty := .int) (by decide)
    have F_end_b23 : Fld Z h23 b23 "com/example/ronda/ronda/engine/Der" "end" "I" (.int (0 : Int32)) := D23 (Or.inr (hw _ (List.mem_of_getElem? (i := 19) rfl))) (ty := .int) (by decide)
    refine o_dup G23 at_89 (pc' := 90) rfl rfl ?_
    refine o_aload G23 at_90 (pc' := 92) rfl rfl rfl ?_
    refine o_callI G23 (z := (⟨"com/example/ronda/ronda/engine/Der", "<init>", "([B)V"⟩ : MethodName)) (argsL := [(.ref b3)]) (rest := [(.ref b23)]) (W := 1) (a := b23) rfl (hw _ (List.mem_of_getElem? (i := 5) rfl)) (hw _ (List.mem_of_getElem? (i := 6) rfl)) rfl at_92 (by decide) (hw _ (List.mem_of_getElem? (i := 4) rfl)) (hw _ (List.mem_of_getElem? (i := 7) rfl)) (rm1 hw b23 b3 h23 n0 G23.sz g_b23 A23 F_bytes_b23 F_position_b23 F_end_b23 5 (5 : Int32) rfl _ A_b3) (by decide) (by decide) rfl (lenOf pd_1 rfl) rfl (Nat.le_of_eq rfl) (pc' := 95) rfl (by decide) (by decide) ?_
    rintro _ T24 h24 G24 ⟨rfl, K24, E24, Fa24, Fb24, Fc24⟩
    replace A_b1 := A_b1.keep K24 (ninS ne_b1_b23 nin0)
    replace A_b2 := A_b2.keep K24 (ninS ne_b2_b23 nin0)
    replace A_b3 := A_b3.keep K24 (ninS ne_b3_b23 nin0)
    replace A19 := A19.keep K24
    replace Fa20 := Fa20.keep K24 (ninS ne_b19_b23 nin0)
    replace Fb20 := Fb20.keep K24 (ninS ne_b19_b23 nin0)
    replace Fc20 := Fc20.keep K24 (ninS ne_b19_b23 nin0)
    replace A21 := A21.keep K24
    replace Fa22 := Fa22.keep K24 (ninS ne_b21_b23 nin0)
    replace Fb22 := Fb22.keep K24 (ninS ne_b21_b23 nin0)
    replace Fc22 := Fc22.keep K24 (ninS ne_b21_b23 nin0)
    replace A23 := A23.keep K24
    show OFin n0 p e below s (fun v _ => v = some (.int 1)) 24 128 T24 (mkF m 95 #[.val (.int p0), .val (.int p1), .val (.int p2), .val (.ref b1), .val (.ref b2), .val (.ref b3), .val (.int (0 : Int32)), .val (.ref b19), .val (.ref b21), .unset, .unset, .unset, .unset, .unset] [(.ref b23)])
    refine o_astore G24 at_95 (pc' := 97) rfl rfl (l' := #[.val (.int p0), .val (.int p1), .val (.int p2), .val (.ref b1), .val (.ref b2), .val (.ref b3), .val (.int (0 : Int32)), .val (.ref b19), .val (.ref b21), .val (.ref b23), .unset, .unset, .unset, .unset]) rfl ?_
    refine o_aload G24 at_97 (pc' := 99) rfl rfl rfl ?_
    refine o_callVP G24 (z := (⟨"com/example/ronda/ronda/engine/Der", "hasMore", "()Z"⟩ : MethodName)) (argsL := []) (rest := []) (W := 0) (r := .int (0 : Int32)) A19 (hw _ (List.mem_of_getElem? (i := 20) rfl)) (hw _ (List.mem_of_getElem? (i := 22) rfl)) (hw _ (List.mem_of_getElem? (i := 21) rfl)) (hw _ (List.mem_of_getElem? (i := 23) rfl)) at_99 (by decide) (hw _ (List.mem_of_getElem? (i := 4) rfl)) (hw _ (List.mem_of_getElem? (i := 24) rfl)) (by rw [show (0 : Int32) = f_4 (0 : Int32) (0 : Int32) by decide]; exact rm4 hw b19 h24 n0 G24.sz (0 : Int32) (0 : Int32) Fb20 Fc20) (by decide) (by decide) rfl (lenOf pd_2 rfl) rfl (Nat.le_of_eq rfl) (pc' := 102) rfl (by decide) (by decide) ?_
    intro T25 G25
    refine o_if_ne G25 at_102 (by decide) (pcT := 125) (by decide) (pc' := 105) rfl (fun q => absurd (by decide) q) (fun _ => ?_)
    refine o_aload G25 at_105 (pc' := 107) rfl rfl rfl ?_
    refine o_callVP G25 (z := (⟨"com/example/ronda/ronda/engine/Der", "hasMore", "()Z"⟩ : MethodName)) (argsL := []) (rest := []) (W := 0) (r := .int (1 : Int32)) A21 (hw _ (List.mem_of_getElem? (i := 20) rfl)) (hw _ (List.mem_of_getElem? (i := 22) rfl)) (hw _ (List.mem_of_getElem? (i := 21) rfl)) (hw _ (List.mem_of_getElem? (i := 23) rfl)) at_107 (by decide) (hw _ (List.mem_of_getElem? (i := 4) rfl)) (hw _ (List.mem_of_getElem? (i := 24) rfl)) (by rw [show (1 : Int32) = f_4 (0 : Int32) (1 : Int32) by decide]; exact rm4 hw b21 h24 n0 G25.sz (0 : Int32) (1 : Int32) Fb22 Fc22) (by decide) (by decide) rfl (lenOf pd_2 rfl) rfl (Nat.le_of_eq rfl) (pc' := 110) rfl (by decide) (by decide) ?_
    intro T26 G26
    refine o_if_eq G26 at_110 (by decide) (pcT := 125) (by decide) (pc' := 113) rfl (fun q => absurd q (by decide)) (fun _ => ?_)
    refine o_aload G26 at_113 (pc' := 115) rfl rfl rfl ?_
    refine o_callVP G26 (z := (⟨"com/example/ronda/ronda/engine/Der", "hasMore", "()Z"⟩ : MethodName)) (argsL := []) (rest := []) (W := 0) (r := .int (1 : Int32)) A23 (hw _ (List.mem_of_getElem? (i := 20) rfl)) (hw _ (List.mem_of_getElem? (i := 22) rfl)) (hw _ (List.mem_of_getElem? (i := 21) rfl)) (hw _ (List.mem_of_getElem? (i := 23) rfl)) at_115 (by decide) (hw _ (List.mem_of_getElem? (i := 4) rfl)) (hw _ (List.mem_of_getElem? (i := 24) rfl)) (by rw [show (1 : Int32) = f_4 (0 : Int32) (5 : Int32) by decide]; exact rm4 hw b23 h24 n0 G26.sz (0 : Int32) (5 : Int32) Fb24 Fc24) (by decide) (by decide) rfl (lenOf pd_2 rfl) rfl (Nat.le_of_eq rfl) (pc' := 118) rfl (by decide) (by decide) ?_
    intro T27 G27
    refine o_if_eq G27 at_118 (by decide) (pcT := 125) (by decide) (pc' := 121) rfl (fun q => absurd q (by decide)) (fun _ => ?_)
    refine o_iconst G27 at_121 (pc' := 122) rfl (v := (1 : Int32)) rfl ?_
    refine o_goto G27 at_122 (by decide) (pc' := 126) rfl ?_
    refine o_istore G27 at_126 (pc' := 128) rfl (l' := #[.val (.int p0), .val (.int p1), .val (.int p2), .val (.ref b1), .val (.ref b2), .val (.ref b3), .val (.int (0 : Int32)), .val (.ref b19), .val (.ref b21), .val (.ref b23), .val (.int (1 : Int32)), .unset, .unset, .unset]) rfl ?_
    refine o_aload G27 at_128 (pc' := 130) rfl rfl rfl ?_
    refine o_iloadN G27 at_130 (pc' := 131) rfl rfl ?_
    refine o_sipush G27 at_131 (pc' := 134) rfl (v := (255 : Int32)) rfl ?_
    obtain ⟨v28, e28⟩ : ∃ z, p0 &&& (255 : Int32) = z := ⟨_, rfl⟩
    refine o_iand G27 at_134 (pc' := 135) rfl e28 ?_
    have A_n : OArr Z h24 b3 .byte 5 (own_a5 (nar .byte v8) (0 : Int32) (nar .byte v11) (nar .byte v14) (nar .byte v17)) := by
      refine A_b3.congr (fun j hj => ?_)
      match j, hj with
      | 0, _ => rfl
      | 1, _ => rfl
      | 2, _ => rfl
      | 3, _ => rfl
      | 4, _ => rfl
      | j + 5, hj => omega
    refine o_callV G27 (z := (⟨"com/example/ronda/ronda/engine/Der", "next", "(I)Lcom/example/ronda/ronda/engine/Der;"⟩ : MethodName)) (argsL := [(.int v28)]) (rest := []) (W := 0) A23 (hw _ (List.mem_of_getElem? (i := 25) rfl)) (hw _ (List.mem_of_getElem? (i := 27) rfl)) (hw _ (List.mem_of_getElem? (i := 26) rfl)) (hw _ (List.mem_of_getElem? (i := 28) rfl)) at_135 (by decide) (hw _ (List.mem_of_getElem? (i := 4) rfl)) (hw _ (List.mem_of_getElem? (i := 29) rfl)) (rm5 hw b23 v28 h24 n0 G27.sz b3 (nar .byte v8) (0 : Int32) (nar .byte v11) (nar .byte v14) (nar .byte v17) g_b23 ne_b3_b23 A23 Fa24 Fb24 Fc24 A_n (by rw [← e8, ← e28]; exact own_tag _) (by decide) (by decide)) (by decide) (by decide) rfl (lenOf pd_3 rfl) rfl (Nat.le_of_eq rfl) (pc' := 138) rfl (by decide) (by decide) ?_
    rintro _ T29 h29 G29 ⟨b29, rfl, g_b29, sz29, K29, Fx29, Fy29, Fp29, E29, Fa29, Fb29, Fc29⟩
    have ne_b1_b29 : b1 ≠ b29 := Nat.ne_of_lt (Nat.lt_of_lt_of_le A_b1.lt sz29)
    have ne_b2_b29 : b2 ≠ b29 := Nat.ne_of_lt (Nat.lt_of_lt_of_le A_b2.lt sz29)
    have ne_b3_b29 : b3 ≠ b29 := Nat.ne_of_lt (Nat.lt_of_lt_of_le A_b3.lt sz29)
    have ne_b19_b29 : b19 ≠ b29 := Nat.ne_of_lt (Nat.lt_of_lt_of_le A19.lt sz29)
    have ne_b21_b29 : b21 ≠ b29 := Nat.ne_of_lt (Nat.lt_of_lt_of_le A21.lt sz29)
    have ne_b23_b29 : b23 ≠ b29 := Nat.ne_of_lt (Nat.lt_of_lt_of_le A23.lt sz29)
    replace A_b1 := A_b1.keep K29 (ninS ne_b1_b23 nin0)
    replace A_b2 := A_b2.keep K29 (ninS ne_b2_b23 nin0)
    replace A_b3 := A_b3.keep K29 (ninS ne_b3_b23 nin0)
    replace A19 := A19.keep K29
    replace Fa20 := Fa20.keep K29 (ninS ne_b19_b23 nin0)
    replace Fb20 := Fb20.keep K29 (ninS ne_b19_b23 nin0)
    replace Fc20 := Fc20.keep K29 (ninS ne_b19_b23 nin0)
    replace A21 := A21.keep K29
    replace Fa22 := Fa22.keep K29 (ninS ne_b21_b23 nin0)
    replace Fb22 := Fb22.keep K29 (ninS ne_b21_b23 nin0)
    replace Fc22 := Fc22.keep K29 (ninS ne_b21_b23 nin0)
    replace A23 := A23.keep K29
    show OFin n0 p e below s (fun v _ => v = some (.int 1)) 24 128 T29 (mkF m 138 #[.val (.int p0), .val (.int p1), .val (.int p2), .val (.ref b1), .val (.ref b2), .val (.ref b3), .val (.int (0 : Int32)), .val (.ref b19), .val (.ref b21), .val (.ref b23), .val (.int (1 : Int32)), .unset, .unset, .unset] [(.ref b29)])
    have Fp29 : Fld Z h29 b23 "com/example/ronda/ronda/engine/Der" "position" "I" (.int (2 : Int32)) := Fp29
    have Fc29 : Fld Z h29 b29 "com/example/ronda/ronda/engine/Der" "end" "I" (.int (2 : Int32)) := Fc29
    refine o_astore G29 at_138 (pc' := 140) rfl rfl (l' := #[.val (.int p0), .val (.int p1), .val (.int p2), .val (.ref b1), .val (.ref b2), .val (.ref b3), .val (.int (0 : Int32)), .val (.ref b19), .val (.ref b21), .val (.ref b23), .val (.int (1 : Int32)), .val (.ref b29), .unset, .unset]) rfl ?_
    refine o_aload G29 at_140 (pc' := 142) rfl rfl rfl ?_
    refine o_callVP G29 (z := (⟨"com/example/ronda/ronda/engine/Der", "hasMore", "()Z"⟩ : MethodName)) (argsL := []) (rest := []) (W := 0) (r := .int (1 : Int32)) A23 (hw _ (List.mem_of_getElem? (i := 20) rfl)) (hw _ (List.mem_of_getElem? (i := 22) rfl)) (hw _ (List.mem_of_getElem? (i := 21) rfl)) (hw _ (List.mem_of_getElem? (i := 23) rfl)) at_142 (by decide) (hw _ (List.mem_of_getElem? (i := 4) rfl)) (hw _ (List.mem_of_getElem? (i := 24) rfl)) (by rw [show (1 : Int32) = f_4 (2 : Int32) (5 : Int32) by decide]; exact rm4 hw b23 h29 n0 G29.sz (2 : Int32) (5 : Int32) Fp29 Fy29) (by decide) (by decide) rfl (lenOf pd_2 rfl) rfl (Nat.le_of_eq rfl) (pc' := 145) rfl (by decide) (by decide) ?_
    intro T30 G30
    refine o_istore G30 at_145 (pc' := 147) rfl (l' := #[.val (.int p0), .val (.int p1), .val (.int p2), .val (.ref b1), .val (.ref b2), .val (.ref b3), .val (.int (0 : Int32)), .val (.ref b19), .val (.ref b21), .val (.ref b23), .val (.int (1 : Int32)), .val (.ref b29), .val (.int (1 : Int32)), .unset]) rfl ?_
    refine o_aload G30 at_147 (pc' := 149) rfl rfl rfl ?_
    refine o_callVP G30 (z := (⟨"com/example/ronda/ronda/engine/Der", "hasMore", "()Z"⟩ : MethodName)) (argsL := []) (rest := []) (W := 0) (r := .int (0 : Int32)) E29 (hw _ (List.mem_of_getElem? (i := 20) rfl)) (hw _ (List.mem_of_getElem? (i := 22) rfl)) (hw _ (List.mem_of_getElem? (i := 21) rfl)) (hw _ (List.mem_of_getElem? (i := 23) rfl)) at_149 (by decide) (hw _ (List.mem_of_getElem? (i := 4) rfl)) (hw _ (List.mem_of_getElem? (i := 24) rfl)) (by rw [show (0 : Int32) = f_4 (2 : Int32) (2 : Int32) by decide]; exact rm4 hw b29 h29 n0 G30.sz (2 : Int32) (2 : Int32) Fb29 Fc29) (by decide) (by decide) rfl (lenOf pd_2 rfl) rfl (Nat.le_of_eq rfl) (pc' := 152) rfl (by decide) (by decide) ?_
    intro T31 G31
    refine o_istore G31 at_152 (pc' := 154) rfl (l' := #[.val (.int p0), .val (.int p1), .val (.int p2), .val (.ref b1), .val (.ref b2), .val (.ref b3), .val (.int (0 : Int32)), .val (.ref b19), .val (.ref b21), .val (.ref b23), .val (.int (1 : Int32)), .val (.ref b29), .val (.int (1 : Int32)), .val (.int (0 : Int32))]) rfl ?_
    refine o_iload G31 at_154 (pc' := 156) rfl rfl ?_
    refine o_if_eq G31 at_156 (by decide) (pcT := 194) (by decide) (pc' := 159) rfl (fun q => absurd q (by decide)) (fun _ => ?_)
    refine o_iload G31 at_159 (pc' := 161) rfl rfl ?_
    refine o_iload G31 at_161 (pc' := 163) rfl rfl ?_
    refine o_iconst G31 at_163 (pc' := 164) rfl (v := (3 : Int32)) rfl ?_
    refine o_icmp_ge G31 at_164 (by decide) (pcT := 171) (by decide) (pc' := 167) rfl (fun q => absurd (by decide) q) (fun _ => ?_)
    refine o_iconst G31 at_167 (pc' := 168) rfl (v := (1 : Int32)) rfl ?_
    refine o_goto G31 at_168 (by decide) (pc' := 172) rfl ?_
    refine o_icmp_ne G31 at_172 (by decide) (pcT := 194) (by decide) (pc' := 175) rfl (fun q => absurd (by decide) q) (fun _ => ?_)
    refine o_iload G31 at_175 (pc' := 177) rfl rfl ?_
    refine o_iload G31 at_177 (pc' := 179) rfl rfl ?_
    refine o_if_le G31 at_179 (by decide) (pcT := 186) (by decide) (pc' := 182) rfl (fun _ => ?_) (fun q => absurd q (by decide))
    refine o_iconst G31 at_186 (pc' := 187) rfl (v := (0 : Int32)) rfl ?_
    refine o_icmp_ne G31 at_187 (by decide) (pcT := 194) (by decide) (pc' := 190) rfl (fun q => absurd (by decide) q) (fun _ => ?_)
    refine o_iconst G31 at_190 (pc' := 191) rfl (v := (1 : Int32)) rfl ?_
    refine o_goto G31 at_191 (by decide) (pc' := 195) rfl ?_
    refine o_istore G31 at_195 (pc' := 197) rfl (l' := #[.val (.int p0), .val (.int p1), .val (.int p2), .val (.ref b1), .val (.ref b2), .val (.ref b3), .val (.int (0 : Int32)), .val (.ref b19), .val (.ref b21), .val (.ref b23), .val (.int (1 : Int32)), .val (.ref b29), .val (.int (1 : Int32)), .val (.int (0 : Int32))]) rfl ?_
    refine o_iload G31 at_197 (pc' := 199) rfl rfl ?_
    refine o_if_eq G31 at_199 (by decide) (pcT := 216) (by decide) (pc' := 202) rfl (fun q => absurd q (by decide)) (fun _ => ?_)
    refine o_aload G31 at_202 (pc' := 204) rfl rfl rfl ?_
    refine o_callVP G31 (z := (⟨"com/example/ronda/ronda/engine/Der", "hasMore", "()Z"⟩ : MethodName)) (argsL := []) (rest := []) (W := 0) (r := .int (1 : Int32)) A23 (hw _ (List.mem_of_getElem? (i := 20) rfl)) (hw _ (List.mem_of_getElem? (i := 22) rfl)) (hw _ (List.mem_of_getElem? (i := 21) rfl)) (hw _ (List.mem_of_getElem? (i := 23) rfl)) at_204 (by decide) (hw _ (List.mem_of_getElem? (i := 4) rfl)) (hw _ (List.mem_of_getElem? (i := 24) rfl)) (by rw [show (1 : Int32) = f_4 (2 : Int32) (5 : Int32) by decide]; exact rm4 hw b23 h29 n0 G31.sz (2 : Int32) (5 : Int32) Fp29 Fy29) (by decide) (by decide) rfl (lenOf pd_2 rfl) rfl (Nat.le_of_eq rfl) (pc' := 207) rfl (by decide) (by decide) ?_
    intro T32 G32
    refine o_iload G32 at_207 (pc' := 209) rfl rfl ?_
    refine o_icmp_ne G32 at_209 (by decide) (pcT := 216) (by decide) (pc' := 212) rfl (fun q => absurd (by decide) q) (fun _ => ?_)
    refine o_iconst G32 at_212 (pc' := 213) rfl (v := (1 : Int32)) rfl ?_
    refine o_goto G32 at_213 (by decide) (pc' := 217) rfl ?_
    refine o_istore G32 at_217 (pc' := 219) rfl (l' := #[.val (.int p0), .val (.int p1), .val (.int p2), .val (.ref b1), .val (.ref b2), .val (.ref b3), .val (.int (0 : Int32)), .val (.ref b19), .val (.ref b21), .val (.ref b23), .val (.int (1 : Int32)), .val (.ref b29), .val (.int (1 : Int32)), .val (.int (0 : Int32))]) rfl ?_
    refine o_iload G32 at_219 (pc' := 221) rfl rfl ?_
    exact o_nreturn (t := .boolean) G32 (by simp) at_221 rfl (by decide) (by decide)
  · subst hl
    refine o_aload G3 at_22 (pc' := 24) rfl rfl rfl ?_
    refine o_iconst G3 at_24 (pc' := 25) rfl (v := (0 : Int32)) rfl ?_
    refine o_iloadN G3 at_25 (pc' := 26) rfl rfl ?_
    obtain ⟨v33, e33⟩ : ∃ z, p0.toInt8.toInt32 = z := ⟨_, rfl⟩
    refine o_i2b G3 at_26 (pc' := 27) rfl e33 ?_
    refine o_bastore G3 A_b2 g_b2 (i := 0) rfl (by decide) at_27 (pc' := 28) rfl ?_
    intro T34 h34 G34 W34 A34
    replace A_b1 := A_b1.other W34 ne_b1_b2
    replace A_b3 := A_b3.other W34 (Ne.symm ne_b2_b3)
    replace A_b2 := A34
    refine o_aload G34 at_28 (pc' := 30) rfl rfl rfl ?_
    refine o_iconst G34 at_30 (pc' := 31) rfl (v := (0 : Int32)) rfl ?_
    refine o_iloadN G34 at_31 (pc' := 32) rfl rfl ?_
    obtain ⟨v35, e35⟩ : ∃ z, p0.toInt8.toInt32 = z := ⟨_, rfl⟩
    refine o_i2b G34 at_32 (pc' := 33) rfl e35 ?_
    refine o_bastore G34 A_b3 g_b3 (i := 0) rfl (by decide) at_33 (pc' := 34) rfl ?_
    intro T36 h36 G36 W36 A36
    replace A_b1 := A_b1.other W36 ne_b1_b3
    replace A_b2 := A_b2.other W36 ne_b2_b3
    replace A_b3 := A36
    refine o_aload G36 at_34 (pc' := 36) rfl rfl rfl ?_
    refine o_iconst G36 at_36 (pc' := 37) rfl (v := (1 : Int32)) rfl ?_
    refine o_iload G36 at_37 (pc' := 39) rfl rfl ?_
    refine o_i2b G36 at_39 (pc' := 40) rfl (v := (1 : Int32)) (by decide) ?_
    refine o_bastore G36 A_b3 g_b3 (i := 1) rfl (by decide) at_40 (pc' := 41) rfl ?_
    intro T37 h37 G37 W37 A37
    replace A_b1 := A_b1.other W37 ne_b1_b3
    replace A_b2 := A_b2.other W37 ne_b2_b3
    replace A_b3 := A37
    refine o_aload G37 at_41 (pc' := 43) rfl rfl rfl ?_
    refine o_iconst G37 at_43 (pc' := 44) rfl (v := (2 : Int32)) rfl ?_
    refine o_iloadN G37 at_44 (pc' := 45) rfl rfl ?_
    obtain ⟨v38, e38⟩ : ∃ z, p2.toInt8.toInt32 = z := ⟨_, rfl⟩
    refine o_i2b G37 at_45 (pc' := 46) rfl e38 ?_
    refine o_bastore G37 A_b3 g_b3 (i := 2) rfl (by decide) at_46 (pc' := 47) rfl ?_
    intro T39 h39 G39 W39 A39
    replace A_b1 := A_b1.other W39 ne_b1_b3
    replace A_b2 := A_b2.other W39 ne_b2_b3
    replace A_b3 := A39
    refine o_aload G39 at_47 (pc' := 49) rfl rfl rfl ?_
    refine o_iconst G39 at_49 (pc' := 50) rfl (v := (3 : Int32)) rfl ?_
    refine o_iloadN G39 at_50 (pc' := 51) rfl rfl ?_
    refine o_bipush G39 at_51 (pc' := 53) rfl (v := (8 : Int32)) rfl ?_
    obtain ⟨v40, e40⟩ : ∃ z, p2 >>> ((8 : Int32) &&& 31) = z := ⟨_, rfl⟩
    refine o_ishr G39 at_53 (pc' := 54) rfl e40 ?_
    obtain ⟨v41, e41⟩ : ∃ z, v40.toInt8.toInt32 = z := ⟨_, rfl⟩
    refine o_i2b G39 at_54 (pc' := 55) rfl e41 ?_
    refine o_bastore G39 A_b3 g_b3 (i := 3) rfl (by decide) at_55 (pc' := 56) rfl ?_
    intro T42 h42 G42 W42 A42
    replace A_b1 := A_b1.other W42 ne_b1_b3
    replace A_b2 := A_b2.other W42 ne_b2_b3
    replace A_b3 := A42
    refine o_aload G42 at_56 (pc' := 58) rfl rfl rfl ?_
    refine o_iconst G42 at_58 (pc' := 59) rfl (v := (4 : Int32)) rfl ?_
    refine o_iloadN G42 at_59 (pc' := 60) rfl rfl ?_
    refine o_bipush G42 at_60 (pc' := 62) rfl (v := (16 : Int32)) rfl ?_
    obtain ⟨v43, e43⟩ : ∃ z, p2 >>> ((16 : Int32) &&& 31) = z := ⟨_, rfl⟩
    refine o_ishr G42 at_62 (pc' := 63) rfl e43 ?_
    obtain ⟨v44, e44⟩ : ∃ z, v43.toInt8.toInt32 = z := ⟨_, rfl⟩
    refine o_i2b G42 at_63 (pc' := 64) rfl e44 ?_
    refine o_bastore G42 A_b3 g_b3 (i := 4) rfl (by decide) at_64 (pc' := 65) rfl ?_
    intro T45 h45 G45 W45 A45
    replace A_b1 := A_b1.other W45 ne_b1_b3
    replace A_b2 := A_b2.other W45 ne_b2_b3
    replace A_b3 := A45
    refine o_new G45 (hw _ (List.mem_of_getElem? (i := 2) rfl)) (hw _ (List.mem_of_getElem? (i := 3) rfl)) (hw _ (List.mem_of_getElem? (i := 4) rfl)) at_65 (pc' := 68) rfl (by decide) (by decide) ?_
    intro T46 h46 b46 G46 g46 g_b46 E46 A46 D46
    have ne_b1_b46 : b1 ≠ b46 := Nat.ne_of_lt (Nat.lt_of_lt_of_eq A_b1.lt g46.symm)
    have ne_b2_b46 : b2 ≠ b46 := Nat.ne_of_lt (Nat.lt_of_lt_of_eq A_b2.lt g46.symm)
    have ne_b3_b46 : b3 ≠ b46 := Nat.ne_of_lt (Nat.lt_of_lt_of_eq A_b3.lt g46.symm)
    replace A_b1 := A_b1.ext E46
    replace A_b2 := A_b2.ext E46
    replace A_b3 := A_b3.ext E46
    have F_bytes_b46 : Fld Z h46 b46 "com/example/ronda/ronda/engine/Der" "bytes" "[B" .null := D46 (Or.inr (hw _ (List.mem_of_getElem? (i := 15) rfl))) (ty := (.array .byte)) (by decide)
    have F_position_b46 : Fld Z h46 b46 "com/example/ronda/ronda/engine/Der" "position" "I" (.int (0 : Int32)) := D46 (Or.inl (hw _ (List.mem_of_getElem? (i := 17) rfl))) (ty := .int) (by decide)
    have F_end_b46 : Fld Z h46 b46 "com/example/ronda/ronda/engine/Der" "end" "I" (.int (0 : Int32)) := D46 (Or.inr (hw _ (List.mem_of_getElem? (i := 19) rfl))) (ty := .int) (by decide)
    refine o_dup G46 at_68 (pc' := 69) rfl rfl ?_
    refine o_aloadN G46 at_69 (pc' := 70) rfl rfl rfl ?_
    refine o_callI G46 (z := (⟨"com/example/ronda/ronda/engine/Der", "<init>", "([B)V"⟩ : MethodName)) (argsL := [(.ref b1)]) (rest := [(.ref b46)]) (W := 1) (a := b46) rfl (hw _ (List.mem_of_getElem? (i := 5) rfl)) (hw _ (List.mem_of_getElem? (i := 6) rfl)) rfl at_70 (by decide) (hw _ (List.mem_of_getElem? (i := 4) rfl)) (hw _ (List.mem_of_getElem? (i := 7) rfl)) (rm1 hw b46 b1 h46 n0 G46.sz g_b46 A46 F_bytes_b46 F_position_b46 F_end_b46 0 (0 : Int32) rfl _ A_b1) (by decide) (by decide) rfl (lenOf pd_1 rfl) rfl (Nat.le_of_eq rfl) (pc' := 73) rfl (by decide) (by decide) ?_
    rintro _ T47 h47 G47 ⟨rfl, K47, E47, Fa47, Fb47, Fc47⟩
    replace A_b1 := A_b1.keep K47 (ninS ne_b1_b46 nin0)
    replace A_b2 := A_b2.keep K47 (ninS ne_b2_b46 nin0)
    replace A_b3 := A_b3.keep K47 (ninS ne_b3_b46 nin0)
    replace A46 := A46.keep K47
    show OFin n0 p e below s (fun v _ => v = some (.int 1)) 24 128 T47 (mkF m 73 #[.val (.int p0), .val (.int p1), .val (.int p2), .val (.ref b1), .val (.ref b2), .val (.ref b3), .val (.int (1 : Int32)), .unset, .unset, .unset, .unset, .unset, .unset, .unset] [(.ref b46)])
    refine o_astore G47 at_73 (pc' := 75) rfl rfl (l' := #[.val (.int p0), .val (.int p1), .val (.int p2), .val (.ref b1), .val (.ref b2), .val (.ref b3), .val (.int (1 : Int32)), .val (.ref b46), .unset, .unset, .unset, .unset, .unset, .unset]) rfl ?_
    refine o_new G47 (hw _ (List.mem_of_getElem? (i := 2) rfl)) (hw _ (List.mem_of_getElem? (i := 3) rfl)) (hw _ (List.mem_of_getElem? (i := 4) rfl)) at_75 (pc' := 78) rfl (by decide) (by decide) ?_
    intro T48 h48 b48 G48 g48 g_b48 E48 A48 D48
    have ne_b1_b48 : b1 ≠ b48 := Nat.ne_of_lt (Nat.lt_of_lt_of_eq A_b1.lt g48.symm)
    have ne_b2_b48 : b2 ≠ b48 := Nat.ne_of_lt (Nat.lt_of_lt_of_eq A_b2.lt g48.symm)
    have ne_b3_b48 : b3 ≠ b48 := Nat.ne_of_lt (Nat.lt_of_lt_of_eq A_b3.lt g48.symm)
    have ne_b46_b48 : b46 ≠ b48 := Nat.ne_of_lt (Nat.lt_of_lt_of_eq A46.lt g48.symm)
    replace A_b1 := A_b1.ext E48
    replace A_b2 := A_b2.ext E48
    replace A_b3 := A_b3.ext E48
    replace A46 := A46.ext E48
    replace Fa47 := Fa47.ext E48
    replace Fb47 := Fb47.ext E48
    replace Fc47 := Fc47.ext E48
    have F_bytes_b48 : Fld Z h48 b48 "com/example/ronda/ronda/engine/Der" "bytes" "[B" .null := D48 (Or.inr (hw _ (List.mem_of_getElem? (i := 15) rfl))) (ty := (.array .byte)) (by decide)
    have F_position_b48 : Fld Z h48 b48 "com/example/ronda/ronda/engine/Der" "position" "I" (.int (0 : Int32)) := D48 (Or.inl (hw _ (List.mem_of_getElem? (i := 17) rfl))) (ty := .int) (by decide)
    have F_end_b48 : Fld Z h48 b48 "com/example/ronda/ronda/engine/Der" "end" "I" (.int (0 : Int32)) := D48 (Or.inr (hw _ (List.mem_of_getElem? (i := 19) rfl))) (ty := .int) (by decide)
    refine o_dup G48 at_78 (pc' := 79) rfl rfl ?_
    refine o_aload G48 at_79 (pc' := 81) rfl rfl rfl ?_
    refine o_callI G48 (z := (⟨"com/example/ronda/ronda/engine/Der", "<init>", "([B)V"⟩ : MethodName)) (argsL := [(.ref b2)]) (rest := [(.ref b48)]) (W := 1) (a := b48) rfl (hw _ (List.mem_of_getElem? (i := 5) rfl)) (hw _ (List.mem_of_getElem? (i := 6) rfl)) rfl at_81 (by decide) (hw _ (List.mem_of_getElem? (i := 4) rfl)) (hw _ (List.mem_of_getElem? (i := 7) rfl)) (rm1 hw b48 b2 h48 n0 G48.sz g_b48 A48 F_bytes_b48 F_position_b48 F_end_b48 1 (1 : Int32) rfl _ A_b2) (by decide) (by decide) rfl (lenOf pd_1 rfl) rfl (Nat.le_of_eq rfl) (pc' := 84) rfl (by decide) (by decide) ?_
    rintro _ T49 h49 G49 ⟨rfl, K49, E49, Fa49, Fb49, Fc49⟩
    replace A_b1 := A_b1.keep K49 (ninS ne_b1_b48 nin0)
    replace A_b2 := A_b2.keep K49 (ninS ne_b2_b48 nin0)
    replace A_b3 := A_b3.keep K49 (ninS ne_b3_b48 nin0)
    replace A46 := A46.keep K49
    replace Fa47 := Fa47.keep K49 (ninS ne_b46_b48 nin0)
    replace Fb47 := Fb47.keep K49 (ninS ne_b46_b48 nin0)
    replace Fc47 := Fc47.keep K49 (ninS ne_b46_b48 nin0)
    replace A48 := A48.keep K49
    show OFin n0 p e below s (fun v _ => v = some (.int 1)) 24 128 T49 (mkF m 84 #[.val (.int p0), .val (.int p1), .val (.int p2), .val (.ref b1), .val (.ref b2), .val (.ref b3), .val (.int (1 : Int32)), .val (.ref b46), .unset, .unset, .unset, .unset, .unset, .unset] [(.ref b48)])
    refine o_astore G49 at_84 (pc' := 86) rfl rfl (l' := #[.val (.int p0), .val (.int p1), .val (.int p2), .val (.ref b1), .val (.ref b2), .val (.ref b3), .val (.int (1 : Int32)), .val (.ref b46), .val (.ref b48), .unset, .unset, .unset, .unset, .unset]) rfl ?_
    refine o_new G49 (hw _ (List.mem_of_getElem? (i := 2) rfl)) (hw _ (List.mem_of_getElem? (i := 3) rfl)) (hw _ (List.mem_of_getElem? (i := 4) rfl)) at_86 (pc' := 89) rfl (by decide) (by decide) ?_
    intro T50 h50 b50 G50 g50 g_b50 E50 A50 D50
    have ne_b1_b50 : b1 ≠ b50 := Nat.ne_of_lt (Nat.lt_of_lt_of_eq A_b1.lt g50.symm)
    have ne_b2_b50 : b2 ≠ b50 := Nat.ne_of_lt (Nat.lt_of_lt_of_eq A_b2.lt g50.symm)
    have ne_b3_b50 : b3 ≠ b50 := Nat.ne_of_lt (Nat.lt_of_lt_of_eq A_b3.lt g50.symm)
    have ne_b46_b50 : b46 ≠ b50 := Nat.ne_of_lt (Nat.lt_of_lt_of_eq A46.lt g50.symm)
    have ne_b48_b50 : b48 ≠ b50 := Nat.ne_of_lt (Nat.lt_of_lt_of_eq A48.lt g50.symm)
    replace A_b1 := A_b1.ext E50
    replace A_b2 := A_b2.ext E50
    replace A_b3 := A_b3.ext E50
    replace A46 := A46.ext E50
    replace Fa47 := Fa47.ext E50
    replace Fb47 := Fb47.ext E50
    replace Fc47 := Fc47.ext E50
    replace A48 := A48.ext E50
    replace Fa49 := Fa49.ext E50
    replace Fb49 := Fb49.ext E50
    replace Fc49 := Fc49.ext E50
    have F_bytes_b50 : Fld Z h50 b50 "com/example/ronda/ronda/engine/Der" "bytes" "[B" .null := D50 (Or.inr (hw _ (List.mem_of_getElem? (i := 15) rfl))) (ty := (.array .byte)) (by decide)
    have F_position_b50 : Fld Z h50 b50 "com/example/ronda/ronda/engine/Der" "position" "I" (.int (0 : Int32)) := D50 (Or.inl (hw _ (List.mem_of_getElem? (i := 17) rfl))) (ty := .int) (by decide)
    have F_end_b50 : Fld Z h50 b50 "com/example/ronda/ronda/engine/Der" "end" "I" (.int (0 : Int32)) := D50 (Or.inr (hw _ (List.mem_of_getElem? (i := 19) rfl))) (ty := .int) (by decide)
    refine o_dup G50 at_89 (pc' := 90) rfl rfl ?_
    refine o_aload G50 at_90 (pc' := 92) rfl rfl rfl ?_
    refine o_callI G50 (z := (⟨"com/example/ronda/ronda/engine/Der", "<init>", "([B)V"⟩ : MethodName)) (argsL := [(.ref b3)]) (rest := [(.ref b50)]) (W := 1) (a := b50) rfl (hw _ (List.mem_of_getElem? (i := 5) rfl)) (hw _ (List.mem_of_getElem? (i := 6) rfl)) rfl at_92 (by decide) (hw _ (List.mem_of_getElem? (i := 4) rfl)) (hw _ (List.mem_of_getElem? (i := 7) rfl)) (rm1 hw b50 b3 h50 n0 G50.sz g_b50 A50 F_bytes_b50 F_position_b50 F_end_b50 5 (5 : Int32) rfl _ A_b3) (by decide) (by decide) rfl (lenOf pd_1 rfl) rfl (Nat.le_of_eq rfl) (pc' := 95) rfl (by decide) (by decide) ?_
    rintro _ T51 h51 G51 ⟨rfl, K51, E51, Fa51, Fb51, Fc51⟩
    replace A_b1 := A_b1.keep K51 (ninS ne_b1_b50 nin0)
    replace A_b2 := A_b2.keep K51 (ninS ne_b2_b50 nin0)
    replace A_b3 := A_b3.keep K51 (ninS ne_b3_b50 nin0)
    replace A46 := A46.keep K51
    replace Fa47 := Fa47.keep K51 (ninS ne_b46_b50 nin0)
    replace Fb47 := Fb47.keep K51 (ninS ne_b46_b50 nin0)
    replace Fc47 := Fc47.keep K51 (ninS ne_b46_b50 nin0)
    replace A48 := A48.keep K51
    replace Fa49 := Fa49.keep K51 (ninS ne_b48_b50 nin0)
    replace Fb49 := Fb49.keep K51 (ninS ne_b48_b50 nin0)
    replace Fc49 := Fc49.keep K51 (ninS ne_b48_b50 nin0)
    replace A50 := A50.keep K51
    show OFin n0 p e below s (fun v _ => v = some (.int 1)) 24 128 T51 (mkF m 95 #[.val (.int p0), .val (.int p1), .val (.int p2), .val (.ref b1), .val (.ref b2), .val (.ref b3), .val (.int (1 : Int32)), .val (.ref b46), .val (.ref b48), .unset, .unset, .unset, .unset, .unset] [(.ref b50)])
    refine o_astore G51 at_95 (pc' := 97) rfl rfl (l' := #[.val (.int p0), .val (.int p1), .val (.int p2), .val (.ref b1), .val (.ref b2), .val (.ref b3), .val (.int (1 : Int32)), .val (.ref b46), .val (.ref b48), .val (.ref b50), .unset, .unset, .unset, .unset]) rfl ?_
    refine o_aload G51 at_97 (pc' := 99) rfl rfl rfl ?_
    refine o_callVP G51 (z := (⟨"com/example/ronda/ronda/engine/Der", "hasMore", "()Z"⟩ : MethodName)) (argsL := []) (rest := []) (W := 0) (r := .int (0 : Int32)) A46 (hw _ (List.mem_of_getElem? (i := 20) rfl)) (hw _ (List.mem_of_getElem? (i := 22) rfl)) (hw _ (List.mem_of_getElem? (i := 21) rfl)) (hw _ (List.mem_of_getElem? (i := 23) rfl)) at_99 (by decide) (hw _ (List.mem_of_getElem? (i := 4) rfl)) (hw _ (List.mem_of_getElem? (i := 24) rfl)) (by rw [show (0 : Int32) = f_4 (0 : Int32) (0 : Int32) by decide]; exact rm4 hw b46 h51 n0 G51.sz (0 : Int32) (0 : Int32) Fb47 Fc47) (by decide) (by decide) rfl (lenOf pd_2 rfl) rfl (Nat.le_of_eq rfl) (pc' := 102) rfl (by decide) (by decide) ?_
    intro T52 G52
    refine o_if_ne G52 at_102 (by decide) (pcT := 125) (by decide) (pc' := 105) rfl (fun q => absurd (by decide) q) (fun _ => ?_)
    refine o_aload G52 at_105 (pc' := 107) rfl rfl rfl ?_
    refine o_callVP G52 (z := (⟨"com/example/ronda/ronda/engine/Der", "hasMore", "()Z"⟩ : MethodName)) (argsL := []) (rest := []) (W := 0) (r := .int (1 : Int32)) A48 (hw _ (List.mem_of_getElem? (i := 20) rfl)) (hw _ (List.mem_of_getElem? (i := 22) rfl)) (hw _ (List.mem_of_getElem? (i := 21) rfl)) (hw _ (List.mem_of_getElem? (i := 23) rfl)) at_107 (by decide) (hw _ (List.mem_of_getElem? (i := 4) rfl)) (hw _ (List.mem_of_getElem? (i := 24) rfl)) (by rw [show (1 : Int32) = f_4 (0 : Int32) (1 : Int32) by decide]; exact rm4 hw b48 h51 n0 G52.sz (0 : Int32) (1 : Int32) Fb49 Fc49) (by decide) (by decide) rfl (lenOf pd_2 rfl) rfl (Nat.le_of_eq rfl) (pc' := 110) rfl (by decide) (by decide) ?_
    intro T53 G53
    refine o_if_eq G53 at_110 (by decide) (pcT := 125) (by decide) (pc' := 113) rfl (fun q => absurd q (by decide)) (fun _ => ?_)
    refine o_aload G53 at_113 (pc' := 115) rfl rfl rfl ?_
    refine o_callVP G53 (z := (⟨"com/example/ronda/ronda/engine/Der", "hasMore", "()Z"⟩ : MethodName)) (argsL := []) (rest := []) (W := 0) (r := .int (1 : Int32)) A50 (hw _ (List.mem_of_getElem? (i := 20) rfl)) (hw _ (List.mem_of_getElem? (i := 22) rfl)) (hw _ (List.mem_of_getElem? (i := 21) rfl)) (hw _ (List.mem_of_getElem? (i := 23) rfl)) at_115 (by decide) (hw _ (List.mem_of_getElem? (i := 4) rfl)) (hw _ (List.mem_of_getElem? (i := 24) rfl)) (by rw [show (1 : Int32) = f_4 (0 : Int32) (5 : Int32) by decide]; exact rm4 hw b50 h51 n0 G53.sz (0 : Int32) (5 : Int32) Fb51 Fc51) (by decide) (by decide) rfl (lenOf pd_2 rfl) rfl (Nat.le_of_eq rfl) (pc' := 118) rfl (by decide) (by decide) ?_
    intro T54 G54
    refine o_if_eq G54 at_118 (by decide) (pcT := 125) (by decide) (pc' := 121) rfl (fun q => absurd q (by decide)) (fun _ => ?_)
    refine o_iconst G54 at_121 (pc' := 122) rfl (v := (1 : Int32)) rfl ?_
    refine o_goto G54 at_122 (by decide) (pc' := 126) rfl ?_
    refine o_istore G54 at_126 (pc' := 128) rfl (l' := #[.val (.int p0), .val (.int p1), .val (.int p2), .val (.ref b1), .val (.ref b2), .val (.ref b3), .val (.int (1 : Int32)), .val (.ref b46), .val (.ref b48), .val (.ref b50), .val (.int (1 : Int32)), .unset, .unset, .unset]) rfl ?_
    refine o_aload G54 at_128 (pc' := 130) rfl rfl rfl ?_
    refine o_iloadN G54 at_130 (pc' := 131) rfl rfl ?_
    refine o_sipush G54 at_131 (pc' := 134) rfl (v := (255 : Int32)) rfl ?_
    obtain ⟨v55, e55⟩ : ∃ z, p0 &&& (255 : Int32) = z := ⟨_, rfl⟩
    refine o_iand G54 at_134 (pc' := 135) rfl e55 ?_
    have A_n : OArr Z h51 b3 .byte 5 (own_a5 (nar .byte v35) (1 : Int32) (nar .byte v38) (nar .byte v41) (nar .byte v44)) := by
      refine A_b3.congr (fun j hj => ?_)
      match j, hj with
      | 0, _ => rfl
      | 1, _ => rfl
      | 2, _ => rfl
      | 3, _ => rfl
      | 4, _ => rfl
      | j + 5, hj => omega
    refine o_callV G54 (z := (⟨"com/example/ronda/ronda/engine/Der", "next", "(I)Lcom/example/ronda/ronda/engine/Der;"⟩ : MethodName)) (argsL := [(.int v55)]) (rest := []) (W := 0) A50 (hw _ (List.mem_of_getElem? (i := 25) rfl)) (hw _ (List.mem_of_getElem? (i := 27) rfl)) (hw _ (List.mem_of_getElem? (i := 26) rfl)) (hw _ (List.mem_of_getElem? (i := 28) rfl)) at_135 (by decide) (hw _ (List.mem_of_getElem? (i := 4) rfl)) (hw _ (List.mem_of_getElem? (i := 29) rfl)) (rm5 hw b50 v55 h51 n0 G54.sz b3 (nar .byte v35) (1 : Int32) (nar .byte v38) (nar .byte v41) (nar .byte v44) g_b50 ne_b3_b50 A50 Fa51 Fb51 Fc51 A_n (by rw [← e35, ← e55]; exact own_tag _) (by decide) (by decide)) (by decide) (by decide) rfl (lenOf pd_3 rfl) rfl (Nat.le_of_eq rfl) (pc' := 138) rfl (by decide) (by decide) ?_
    rintro _ T56 h56 G56 ⟨b56, rfl, g_b56, sz56, K56, Fx56, Fy56, Fp56, E56, Fa56, Fb56, Fc56⟩
    have ne_b1_b56 : b1 ≠ b56 := Nat.ne_of_lt (Nat.lt_of_lt_of_le A_b1.lt sz56)
    have ne_b2_b56 : b2 ≠ b56 := Nat.ne_of_lt (Nat.lt_of_lt_of_le A_b2.lt sz56)
    have ne_b3_b56 : b3 ≠ b56 := Nat.ne_of_lt (Nat.lt_of_lt_of_le A_b3.lt sz56)
    have ne_b46_b56 : b46 ≠ b56 := Nat.ne_of_lt (Nat.lt_of_lt_of_le A46.lt sz56)
    have ne_b48_b56 : b48 ≠ b56 := Nat.ne_of_lt (Nat.lt_of_lt_of_le A48.lt sz56)
    have ne_b50_b56 : b50 ≠ b56 := Nat.ne_of_lt (Nat.lt_of_lt_of_le A50.lt sz56)
    replace A_b1 := A_b1.keep K56 (ninS ne_b1_b50 nin0)
    replace A_b2 := A_b2.keep K56 (ninS ne_b2_b50 nin0)
    replace A_b3 := A_b3.keep K56 (ninS ne_b3_b50 nin0)
    replace A46 := A46.keep K56
    replace Fa47 := Fa47.keep K56 (ninS ne_b46_b50 nin0)
    replace Fb47 := Fb47.keep K56 (ninS ne_b46_b50 nin0)
    replace Fc47 := Fc47.keep K56 (ninS ne_b46_b50 nin0)
    replace A48 := A48.keep K56
    replace Fa49 := Fa49.keep K56 (ninS ne_b48_b50 nin0)
    replace Fb49 := Fb49.keep K56 (ninS ne_b48_b50 nin0)
    replace Fc49 := Fc49.keep K56 (ninS ne_b48_b50 nin0)
    replace A50 := A50.keep K56
    show OFin n0 p e below s (fun v _ => v = some (.int 1)) 24 128 T56 (mkF m 138 #[.val (.int p0), .val (.int p1), .val (.int p2), .val (.ref b1), .val (.ref b2), .val (.ref b3), .val (.int (1 : Int32)), .val (.ref b46), .val (.ref b48), .val (.ref b50), .val (.int (1 : Int32)), .unset, .unset, .unset] [(.ref b56)])
    have Fp56 : Fld Z h56 b50 "com/example/ronda/ronda/engine/Der" "position" "I" (.int (3 : Int32)) := Fp56
    have Fc56 : Fld Z h56 b56 "com/example/ronda/ronda/engine/Der" "end" "I" (.int (3 : Int32)) := Fc56
    refine o_astore G56 at_138 (pc' := 140) rfl rfl (l' := #[.val (.int p0), .val (.int p1), .val (.int p2), .val (.ref b1), .val (.ref b2), .val (.ref b3), .val (.int (1 : Int32)), .val (.ref b46), .val (.ref b48), .val (.ref b50), .val (.int (1 : Int32)), .val (.ref b56), .unset, .unset]) rfl ?_
    refine o_aload G56 at_140 (pc' := 142) rfl rfl rfl ?_
    refine o_callVP G56 (z := (⟨"com/example/ronda/ronda/engine/Der", "hasMore", "()Z"⟩ : MethodName)) (argsL := []) (rest := []) (W := 0) (r := .int (1 : Int32)) A50 (hw _ (List.mem_of_getElem? (i := 20) rfl)) (hw _ (List.mem_of_getElem? (i := 22) rfl)) (hw _ (List.mem_of_getElem? (i := 21) rfl)) (hw _ (List.mem_of_getElem? (i := 23) rfl)) at_142 (by decide) (hw _ (List.mem_of_getElem? (i := 4) rfl)) (hw _ (List.mem_of_getElem? (i := 24) rfl)) (by rw [show (1 : Int32) = f_4 (3 : Int32) (5 : Int32) by decide]; exact rm4 hw b50 h56 n0 G56.sz (3 : Int32) (5 : Int32) Fp56 Fy56) (by decide) (by decide) rfl (lenOf pd_2 rfl) rfl (Nat.le_of_eq rfl) (pc' := 145) rfl (by decide) (by decide) ?_
    intro T57 G57
    refine o_istore G57 at_145 (pc' := 147) rfl (l' := #[.val (.int p0), .val (.int p1), .val (.int p2), .val (.ref b1), .val (.ref b2), .val (.ref b3), .val (.int (1 : Int32)), .val (.ref b46), .val (.ref b48), .val (.ref b50), .val (.int (1 : Int32)), .val (.ref b56), .val (.int (1 : Int32)), .unset]) rfl ?_
    refine o_aload G57 at_147 (pc' := 149) rfl rfl rfl ?_
    refine o_callVP G57 (z := (⟨"com/example/ronda/ronda/engine/Der", "hasMore", "()Z"⟩ : MethodName)) (argsL := []) (rest := []) (W := 0) (r := .int (1 : Int32)) E56 (hw _ (List.mem_of_getElem? (i := 20) rfl)) (hw _ (List.mem_of_getElem? (i := 22) rfl)) (hw _ (List.mem_of_getElem? (i := 21) rfl)) (hw _ (List.mem_of_getElem? (i := 23) rfl)) at_149 (by decide) (hw _ (List.mem_of_getElem? (i := 4) rfl)) (hw _ (List.mem_of_getElem? (i := 24) rfl)) (by rw [show (1 : Int32) = f_4 (2 : Int32) (3 : Int32) by decide]; exact rm4 hw b56 h56 n0 G57.sz (2 : Int32) (3 : Int32) Fb56 Fc56) (by decide) (by decide) rfl (lenOf pd_2 rfl) rfl (Nat.le_of_eq rfl) (pc' := 152) rfl (by decide) (by decide) ?_
    intro T58 G58
    refine o_istore G58 at_152 (pc' := 154) rfl (l' := #[.val (.int p0), .val (.int p1), .val (.int p2), .val (.ref b1), .val (.ref b2), .val (.ref b3), .val (.int (1 : Int32)), .val (.ref b46), .val (.ref b48), .val (.ref b50), .val (.int (1 : Int32)), .val (.ref b56), .val (.int (1 : Int32)), .val (.int (1 : Int32))]) rfl ?_
    refine o_iload G58 at_154 (pc' := 156) rfl rfl ?_
    refine o_if_eq G58 at_156 (by decide) (pcT := 194) (by decide) (pc' := 159) rfl (fun q => absurd q (by decide)) (fun _ => ?_)
    refine o_iload G58 at_159 (pc' := 161) rfl rfl ?_
    refine o_iload G58 at_161 (pc' := 163) rfl rfl ?_
    refine o_iconst G58 at_163 (pc' := 164) rfl (v := (3 : Int32)) rfl ?_
    refine o_icmp_ge G58 at_164 (by decide) (pcT := 171) (by decide) (pc' := 167) rfl (fun q => absurd (by decide) q) (fun _ => ?_)
    refine o_iconst G58 at_167 (pc' := 168) rfl (v := (1 : Int32)) rfl ?_
    refine o_goto G58 at_168 (by decide) (pc' := 172) rfl ?_
    refine o_icmp_ne G58 at_172 (by decide) (pcT := 194) (by decide) (pc' := 175) rfl (fun q => absurd (by decide) q) (fun _ => ?_)
    refine o_iload G58 at_175 (pc' := 177) rfl rfl ?_
    refine o_iload G58 at_177 (pc' := 179) rfl rfl ?_
    refine o_if_le G58 at_179 (by decide) (pcT := 186) (by decide) (pc' := 182) rfl (fun q => absurd (by decide) q) (fun _ => ?_)
    refine o_iconst G58 at_182 (pc' := 183) rfl (v := (1 : Int32)) rfl ?_
    refine o_goto G58 at_183 (by decide) (pc' := 187) rfl ?_
    refine o_icmp_ne G58 at_187 (by decide) (pcT := 194) (by decide) (pc' := 190) rfl (fun q => absurd (by decide) q) (fun _ => ?_)
    refine o_iconst G58 at_190 (pc' := 191) rfl (v := (1 : Int32)) rfl ?_
    refine o_goto G58 at_191 (by decide) (pc' := 195) rfl ?_
    refine o_istore G58 at_195 (pc' := 197) rfl (l' := #[.val (.int p0), .val (.int p1), .val (.int p2), .val (.ref b1), .val (.ref b2), .val (.ref b3), .val (.int (1 : Int32)), .val (.ref b46), .val (.ref b48), .val (.ref b50), .val (.int (1 : Int32)), .val (.ref b56), .val (.int (1 : Int32)), .val (.int (1 : Int32))]) rfl ?_
    refine o_iload G58 at_197 (pc' := 199) rfl rfl ?_
    refine o_if_eq G58 at_199 (by decide) (pcT := 216) (by decide) (pc' := 202) rfl (fun q => absurd q (by decide)) (fun _ => ?_)
    refine o_aload G58 at_202 (pc' := 204) rfl rfl rfl ?_
    refine o_callVP G58 (z := (⟨"com/example/ronda/ronda/engine/Der", "hasMore", "()Z"⟩ : MethodName)) (argsL := []) (rest := []) (W := 0) (r := .int (1 : Int32)) A50 (hw _ (List.mem_of_getElem? (i := 20) rfl)) (hw _ (List.mem_of_getElem? (i := 22) rfl)) (hw _ (List.mem_of_getElem? (i := 21) rfl)) (hw _ (List.mem_of_getElem? (i := 23) rfl)) at_204 (by decide) (hw _ (List.mem_of_getElem? (i := 4) rfl)) (hw _ (List.mem_of_getElem? (i := 24) rfl)) (by rw [show (1 : Int32) = f_4 (3 : Int32) (5 : Int32) by decide]; exact rm4 hw b50 h56 n0 G58.sz (3 : Int32) (5 : Int32) Fp56 Fy56) (by decide) (by decide) rfl (lenOf pd_2 rfl) rfl (Nat.le_of_eq rfl) (pc' := 207) rfl (by decide) (by decide) ?_
    intro T59 G59
    refine o_iload G59 at_207 (pc' := 209) rfl rfl ?_
    refine o_icmp_ne G59 at_209 (by decide) (pcT := 216) (by decide) (pc' := 212) rfl (fun q => absurd (by decide) q) (fun _ => ?_)
    refine o_iconst G59 at_212 (pc' := 213) rfl (v := (1 : Int32)) rfl ?_
    refine o_goto G59 at_213 (by decide) (pc' := 217) rfl ?_
    refine o_istore G59 at_217 (pc' := 219) rfl (l' := #[.val (.int p0), .val (.int p1), .val (.int p2), .val (.ref b1), .val (.ref b2), .val (.ref b3), .val (.int (1 : Int32)), .val (.ref b46), .val (.ref b48), .val (.ref b50), .val (.int (1 : Int32)), .val (.ref b56), .val (.int (1 : Int32)), .val (.int (1 : Int32))]) rfl ?_
    refine o_iload G59 at_219 (pc' := 221) rfl rfl ?_
    exact o_nreturn (t := .boolean) G59 (by simp) at_221 rfl (by decide) (by decide)
  · subst hl
    refine o_aload G3 at_22 (pc' := 24) rfl rfl rfl ?_
    refine o_iconst G3 at_24 (pc' := 25) rfl (v := (0 : Int32)) rfl ?_
    refine o_iloadN G3 at_25 (pc' := 26) rfl rfl ?_
    obtain ⟨v60, e60⟩ : ∃ z, p0.toInt8.toInt32 = z := ⟨_, rfl⟩
    refine o_i2b G3 at_26 (pc' := 27) rfl e60 ?_
    refine o_bastore G3 A_b2 g_b2 (i := 0) rfl (by decide) at_27 (pc' := 28) rfl ?_
    intro T61 h61 G61 W61 A61
    replace A_b1 := A_b1.other W61 ne_b1_b2
    replace A_b3 := A_b3.other W61 (Ne.symm ne_b2_b3)
    replace A_b2 := A61
    refine o_aload G61 at_28 (pc' := 30) rfl rfl rfl ?_
    refine o_iconst G61 at_30 (pc' := 31) rfl (v := (0 : Int32)) rfl ?_
    refine o_iloadN G61 at_31 (pc' := 32) rfl rfl ?_
    obtain ⟨v62, e62⟩ : ∃ z, p0.toInt8.toInt32 = z := ⟨_, rfl⟩
    refine o_i2b G61 at_32 (pc' := 33) rfl e62 ?_
    refine o_bastore G61 A_b3 g_b3 (i := 0) rfl (by decide) at_33 (pc' := 34) rfl ?_
    intro T63 h63 G63 W63 A63
    replace A_b1 := A_b1.other W63 ne_b1_b3
    replace A_b2 := A_b2.other W63 ne_b2_b3
    replace A_b3 := A63
    refine o_aload G63 at_34 (pc' := 36) rfl rfl rfl ?_
    refine o_iconst G63 at_36 (pc' := 37) rfl (v := (1 : Int32)) rfl ?_
    refine o_iload G63 at_37 (pc' := 39) rfl rfl ?_
    refine o_i2b G63 at_39 (pc' := 40) rfl (v := (2 : Int32)) (by decide) ?_
    refine o_bastore G63 A_b3 g_b3 (i := 1) rfl (by decide) at_40 (pc' := 41) rfl ?_
    intro T64 h64 G64 W64 A64
    replace A_b1 := A_b1.other W64 ne_b1_b3
    replace A_b2 := A_b2.other W64 ne_b2_b3
    replace A_b3 := A64
    refine o_aload G64 at_41 (pc' := 43) rfl rfl rfl ?_
    refine o_iconst G64 at_43 (pc' := 44) rfl (v := (2 : Int32)) rfl ?_
    refine o_iloadN G64 at_44 (pc' := 45) rfl rfl ?_
    obtain ⟨v65, e65⟩ : ∃ z, p2.toInt8.toInt32 = z := ⟨_, rfl⟩
    refine o_i2b G64 at_45 (pc' := 46) rfl e65 ?_
    refine o_bastore G64 A_b3 g_b3 (i := 2) rfl (by decide) at_46 (pc' := 47) rfl ?_
    intro T66 h66 G66 W66 A66
    replace A_b1 := A_b1.other W66 ne_b1_b3
    replace A_b2 := A_b2.other W66 ne_b2_b3
    replace A_b3 := A66
    refine o_aload G66 at_47 (pc' := 49) rfl rfl rfl ?_
    refine o_iconst G66 at_49 (pc' := 50) rfl (v := (3 : Int32)) rfl ?_
    refine o_iloadN G66 at_50 (pc' := 51) rfl rfl ?_
    refine o_bipush G66 at_51 (pc' := 53) rfl (v := (8 : Int32)) rfl ?_
    obtain ⟨v67, e67⟩ : ∃ z, p2 >>> ((8 : Int32) &&& 31) = z := ⟨_, rfl⟩
    refine o_ishr G66 at_53 (pc' := 54) rfl e67 ?_
    obtain ⟨v68, e68⟩ : ∃ z, v67.toInt8.toInt32 = z := ⟨_, rfl⟩
    refine o_i2b G66 at_54 (pc' := 55) rfl e68 ?_
    refine o_bastore G66 A_b3 g_b3 (i := 3) rfl (by decide) at_55 (pc' := 56) rfl ?_
    intro T69 h69 G69 W69 A69
    replace A_b1 := A_b1.other W69 ne_b1_b3
    replace A_b2 := A_b2.other W69 ne_b2_b3
    replace A_b3 := A69
    refine o_aload G69 at_56 (pc' := 58) rfl rfl rfl ?_
    refine o_iconst G69 at_58 (pc' := 59) rfl (v := (4 : Int32)) rfl ?_
    refine o_iloadN G69 at_59 (pc' := 60) rfl rfl ?_
    refine o_bipush G69 at_60 (pc' := 62) rfl (v := (16 : Int32)) rfl ?_
    obtain ⟨v70, e70⟩ : ∃ z, p2 >>> ((16 : Int32) &&& 31) = z := ⟨_, rfl⟩
    refine o_ishr G69 at_62 (pc' := 63) rfl e70 ?_
    obtain ⟨v71, e71⟩ : ∃ z, v70.toInt8.toInt32 = z := ⟨_, rfl⟩
    refine o_i2b G69 at_63 (pc' := 64) rfl e71 ?_
    refine o_bastore G69 A_b3 g_b3 (i := 4) rfl (by decide) at_64 (pc' := 65) rfl ?_
    intro T72 h72 G72 W72 A72
    replace A_b1 := A_b1.other W72 ne_b1_b3
    replace A_b2 := A_b2.other W72 ne_b2_b3
    replace A_b3 := A72
    refine o_new G72 (hw _ (List.mem_of_getElem? (i := 2) rfl)) (hw _ (List.mem_of_getElem? (i := 3) rfl)) (hw _ (List.mem_of_getElem? (i := 4) rfl)) at_65 (pc' := 68) rfl (by decide) (by decide) ?_
    intro T73 h73 b73 G73 g73 g_b73 E73 A73 D73
    have ne_b1_b73 : b1 ≠ b73 := Nat.ne_of_lt (Nat.lt_of_lt_of_eq A_b1.lt g73.symm)
    have ne_b2_b73 : b2 ≠ b73 := Nat.ne_of_lt (Nat.lt_of_lt_of_eq A_b2.lt g73.symm)
    have ne_b3_b73 : b3 ≠ b73 := Nat.ne_of_lt (Nat.lt_of_lt_of_eq A_b3.lt g73.symm)
    replace A_b1 := A_b1.ext E73
    replace A_b2 := A_b2.ext E73
    replace A_b3 := A_b3.ext E73
    have F_bytes_b73 : Fld Z h73 b73 "com/example/ronda/ronda/engine/Der" "bytes" "[B" .null := D73 (Or.inr (hw _ (List.mem_of_getElem? (i := 15) rfl))) (ty := (.array .byte)) (by decide)
    have F_position_b73 : Fld Z h73 b73 "com/example/ronda/ronda/engine/Der" "position" "I" (.int (0 : Int32)) := D73 (Or.inl (hw _ (List.mem_of_getElem? (i := 17) rfl))) (ty := .int) (by decide)
    have F_end_b73 : Fld Z h73 b73 "com/example/ronda/ronda/engine/Der" "end" "I" (.int (0 : Int32)) := D73 (Or.inr (hw _ (List.mem_of_getElem? (i := 19) rfl))) (ty := .int) (by decide)
    refine o_dup G73 at_68 (pc' := 69) rfl rfl ?_
    refine o_aloadN G73 at_69 (pc' := 70) rfl rfl rfl ?_
    refine o_callI G73 (z := (⟨"com/example/ronda/ronda/engine/Der", "<init>", "([B)V"⟩ : MethodName)) (argsL := [(.ref b1)]) (rest := [(.ref b73)]) (W := 1) (a := b73) rfl (hw _ (List.mem_of_getElem? (i := 5) rfl)) (hw _ (List.mem_of_getElem? (i := 6) rfl)) rfl at_70 (by decide) (hw _ (List.mem_of_getElem? (i := 4) rfl)) (hw _ (List.mem_of_getElem? (i := 7) rfl)) (rm1 hw b73 b1 h73 n0 G73.sz g_b73 A73 F_bytes_b73 F_position_b73 F_end_b73 0 (0 : Int32) rfl _ A_b1) (by decide) (by decide) rfl (lenOf pd_1 rfl) rfl (Nat.le_of_eq rfl) (pc' := 73) rfl (by decide) (by decide) ?_
    rintro _ T74 h74 G74 ⟨rfl, K74, E74, Fa74, Fb74, Fc74⟩
    replace A_b1 := A_b1.keep K74 (ninS ne_b1_b73 nin0)
    replace A_b2 := A_b2.keep K74 (ninS ne_b2_b73 nin0)
    replace A_b3 := A_b3.keep K74 (ninS ne_b3_b73 nin0)
    replace A73 := A73.keep K74
    show OFin n0 p e below s (fun v _ => v = some (.int 1)) 24 128 T74 (mkF m 73 #[.val (.int p0), .val (.int p1), .val (.int p2), .val (.ref b1), .val (.ref b2), .val (.ref b3), .val (.int (2 : Int32)), .unset, .unset, .unset, .unset, .unset, .unset, .unset] [(.ref b73)])
    refine o_astore G74 at_73 (pc' := 75) rfl rfl (l' := #[.val (.int p0), .val (.int p1), .val (.int p2), .val (.ref b1), .val (.ref b2), .val (.ref b3), .val (.int (2 : Int32)), .val (.ref b73), .unset, .unset, .unset, .unset, .unset, .unset]) rfl ?_
    refine o_new G74 (hw _ (List.mem_of_getElem? (i := 2) rfl)) (hw _ (List.mem_of_getElem? (i := 3) rfl)) (hw _ (List.mem_of_getElem? (i := 4) rfl)) at_75 (pc' := 78) rfl (by decide) (by decide) ?_
    intro T75 h75 b75 G75 g75 g_b75 E75 A75 D75
    have ne_b1_b75 : b1 ≠ b75 := Nat.ne_of_lt (Nat.lt_of_lt_of_eq A_b1.lt g75.symm)
    have ne_b2_b75 : b2 ≠ b75 := Nat.ne_of_lt (Nat.lt_of_lt_of_eq A_b2.lt g75.symm)
    have ne_b3_b75 : b3 ≠ b75 := Nat.ne_of_lt (Nat.lt_of_lt_of_eq A_b3.lt g75.symm)
    have ne_b73_b75 : b73 ≠ b75 := Nat.ne_of_lt (Nat.lt_of_lt_of_eq A73.lt g75.symm)
    replace A_b1 := A_b1.ext E75
    replace A_b2 := A_b2.ext E75
    replace A_b3 := A_b3.ext E75
    replace A73 := A73.ext E75
    replace Fa74 := Fa74.ext E75
    replace Fb74 := Fb74.ext E75
    replace Fc74 := Fc74.ext E75
    have F_bytes_b75 : Fld Z h75 b75 "com/example/ronda/ronda/engine/Der" "bytes" "[B" .null := D75 (Or.inr (hw _ (List.mem_of_getElem? (i := 15) rfl))) (ty := (.array .byte)) (by decide)
    have F_position_b75 : Fld Z h75 b75 "com/example/ronda/ronda/engine/Der" "position" "I" (.int (0 : Int32)) := D75 (Or.inl (hw _ (List.mem_of_getElem? (i := 17) rfl))) (ty := .int) (by decide)
    have F_end_b75 : Fld Z h75 b75 "com/example/ronda/ronda/engine/Der" "end" "I" (.int (0 : Int32)) := D75 (Or.inr (hw _ (List.mem_of_getElem? (i := 19) rfl))) (ty := .int) (by decide)
    refine o_dup G75 at_78 (pc' := 79) rfl rfl ?_
    refine o_aload G75 at_79 (pc' := 81) rfl rfl rfl ?_
    refine o_callI G75 (z := (⟨"com/example/ronda/ronda/engine/Der", "<init>", "([B)V"⟩ : MethodName)) (argsL := [(.ref b2)]) (rest := [(.ref b75)]) (W := 1) (a := b75) rfl (hw _ (List.mem_of_getElem? (i := 5) rfl)) (hw _ (List.mem_of_getElem? (i := 6) rfl)) rfl at_81 (by decide) (hw _ (List.mem_of_getElem? (i := 4) rfl)) (hw _ (List.mem_of_getElem? (i := 7) rfl)) (rm1 hw b75 b2 h75 n0 G75.sz g_b75 A75 F_bytes_b75 F_position_b75 F_end_b75 1 (1 : Int32) rfl _ A_b2) (by decide) (by decide) rfl (lenOf pd_1 rfl) rfl (Nat.le_of_eq rfl) (pc' := 84) rfl (by decide) (by decide) ?_
    rintro _ T76 h76 G76 ⟨rfl, K76, E76, Fa76, Fb76, Fc76⟩
    replace A_b1 := A_b1.keep K76 (ninS ne_b1_b75 nin0)
    replace A_b2 := A_b2.keep K76 (ninS ne_b2_b75 nin0)
    replace A_b3 := A_b3.keep K76 (ninS ne_b3_b75 nin0)
    replace A73 := A73.keep K76
    replace Fa74 := Fa74.keep K76 (ninS ne_b73_b75 nin0)
    replace Fb74 := Fb74.keep K76 (ninS ne_b73_b75 nin0)
    replace Fc74 := Fc74.keep K76 (ninS ne_b73_b75 nin0)
    replace A75 := A75.keep K76
    show OFin n0 p e below s (fun v _ => v = some (.int 1)) 24 128 T76 (mkF m 84 #[.val (.int p0), .val (.int p1), .val (.int p2), .val (.ref b1), .val (.ref b2), .val (.ref b3), .val (.int (2 : Int32)), .val (.ref b73), .unset, .unset, .unset, .unset, .unset, .unset] [(.ref b75)])
    refine o_astore G76 at_84 (pc' := 86) rfl rfl (l' := #[.val (.int p0), .val (.int p1), .val (.int p2), .val (.ref b1), .val (.ref b2), .val (.ref b3), .val (.int (2 : Int32)), .val (.ref b73), .val (.ref b75), .unset, .unset, .unset, .unset, .unset]) rfl ?_
    refine o_new G76 (hw _ (List.mem_of_getElem? (i := 2) rfl)) (hw _ (List.mem_of_getElem? (i := 3) rfl)) (hw _ (List.mem_of_getElem? (i := 4) rfl)) at_86 (pc' := 89) rfl (by decide) (by decide) ?_
    intro T77 h77 b77 G77 g77 g_b77 E77 A77 D77
    have ne_b1_b77 : b1 ≠ b77 := Nat.ne_of_lt (Nat.lt_of_lt_of_eq A_b1.lt g77.symm)
    have ne_b2_b77 : b2 ≠ b77 := Nat.ne_of_lt (Nat.lt_of_lt_of_eq A_b2.lt g77.symm)
    have ne_b3_b77 : b3 ≠ b77 := Nat.ne_of_lt (Nat.lt_of_lt_of_eq A_b3.lt g77.symm)
    have ne_b73_b77 : b73 ≠ b77 := Nat.ne_of_lt (Nat.lt_of_lt_of_eq A73.lt g77.symm)
    have ne_b75_b77 : b75 ≠ b77 := Nat.ne_of_lt (Nat.lt_of_lt_of_eq A75.lt g77.symm)
    replace A_b1 := A_b1.ext E77
    replace A_b2 := A_b2.ext E77
    replace A_b3 := A_b3.ext E77
    replace A73 := A73.ext E77
    replace Fa74 := Fa74.ext E77
    replace Fb74 := Fb74.ext E77
    replace Fc74 := Fc74.ext E77
    replace A75 := A75.ext E77
    replace Fa76 := Fa76.ext E77
    replace Fb76 := Fb76.ext E77
    replace Fc76 := Fc76.ext E77
    have F_bytes_b77 : Fld Z h77 b77 "com/example/ronda/ronda/engine/Der" "bytes" "[B" .null := D77 (Or.inr (hw _ (List.mem_of_getElem? (i := 15) rfl))) (ty := (.array .byte)) (by decide)
    have F_position_b77 : Fld Z h77 b77 "com/example/ronda/ronda/engine/Der" "position" "I" (.int (0 : Int32)) := D77 (Or.inl (hw _ (List.mem_of_getElem? (i := 17) rfl))) (ty := .int) (by decide)
    have F_end_b77 : Fld Z h77 b77 "com/example/ronda/ronda/engine/Der" "end" "I" (.int (0 : Int32)) := D77 (Or.inr (hw _ (List.mem_of_getElem? (i := 19) rfl))) (ty := .int) (by decide)
    refine o_dup G77 at_89 (pc' := 90) rfl rfl ?_
    refine o_aload G77 at_90 (pc' := 92) rfl rfl rfl ?_
    refine o_callI G77 (z := (⟨"com/example/ronda/ronda/engine/Der", "<init>", "([B)V"⟩ : MethodName)) (argsL := [(.ref b3)]) (rest := [(.ref b77)]) (W := 1) (a := b77) rfl (hw _ (List.mem_of_getElem? (i := 5) rfl)) (hw _ (List.mem_of_getElem? (i := 6) rfl)) rfl at_92 (by decide) (hw _ (List.mem_of_getElem? (i := 4) rfl)) (hw _ (List.mem_of_getElem? (i := 7) rfl)) (rm1 hw b77 b3 h77 n0 G77.sz g_b77 A77 F_bytes_b77 F_position_b77 F_end_b77 5 (5 : Int32) rfl _ A_b3) (by decide) (by decide) rfl (lenOf pd_1 rfl) rfl (Nat.le_of_eq rfl) (pc' := 95) rfl (by decide) (by decide) ?_
    rintro _ T78 h78 G78 ⟨rfl, K78, E78, Fa78, Fb78, Fc78⟩
    replace A_b1 := A_b1.keep K78 (ninS ne_b1_b77 nin0)
    replace A_b2 := A_b2.keep K78 (ninS ne_b2_b77 nin0)
    replace A_b3 := A_b3.keep K78 (ninS ne_b3_b77 nin0)
    replace A73 := A73.keep K78
    replace Fa74 := Fa74.keep K78 (ninS ne_b73_b77 nin0)
    replace Fb74 := Fb74.keep K78 (ninS ne_b73_b77 nin0)
    replace Fc74 := Fc74.keep K78 (ninS ne_b73_b77 nin0)
    replace A75 := A75.keep K78
    replace Fa76 := Fa76.keep K78 (ninS ne_b75_b77 nin0)
    replace Fb76 := Fb76.keep K78 (ninS ne_b75_b77 nin0)
    replace Fc76 := Fc76.keep K78 (ninS ne_b75_b77 nin0)
    replace A77 := A77.keep K78
    show OFin n0 p e below s (fun v _ => v = some (.int 1)) 24 128 T78 (mkF m 95 #[.val (.int p0), .val (.int p1), .val (.int p2), .val (.ref b1), .val (.ref b2), .val (.ref b3), .val (.int (2 : Int32)), .val (.ref b73), .val (.ref b75), .unset, .unset, .unset, .unset, .unset] [(.ref b77)])
    refine o_astore G78 at_95 (pc' := 97) rfl rfl (l' := #[.val (.int p0), .val (.int p1), .val (.int p2), .val (.ref b1), .val (.ref b2), .val (.ref b3), .val (.int (2 : Int32)), .val (.ref b73), .val (.ref b75), .val (.ref b77), .unset, .unset, .unset, .unset]) rfl ?_
    refine o_aload G78 at_97 (pc' := 99) rfl rfl rfl ?_
    refine o_callVP G78 (z := (⟨"com/example/ronda/ronda/engine/Der", "hasMore", "()Z"⟩ : MethodName)) (argsL := []) (rest := []) (W := 0) (r := .int (0 : Int32)) A73 (hw _ (List.mem_of_getElem? (i := 20) rfl)) (hw _ (List.mem_of_getElem? (i := 22) rfl)) (hw _ (List.mem_of_getElem? (i := 21) rfl)) (hw _ (List.mem_of_getElem? (i := 23) rfl)) at_99 (by decide) (hw _ (List.mem_of_getElem? (i := 4) rfl)) (hw _ (List.mem_of_getElem? (i := 24) rfl)) (by rw [show (0 : Int32) = f_4 (0 : Int32) (0 : Int32) by decide]; exact rm4 hw b73 h78 n0 G78.sz (0 : Int32) (0 : Int32) Fb74 Fc74) (by decide) (by decide) rfl (lenOf pd_2 rfl) rfl (Nat.le_of_eq rfl) (pc' := 102) rfl (by decide) (by decide) ?_
    intro T79 G79
    refine o_if_ne G79 at_102 (by decide) (pcT := 125) (by decide) (pc' := 105) rfl (fun q => absurd (by decide) q) (fun _ => ?_)
    refine o_aload G79 at_105 (pc' := 107) rfl rfl rfl ?_
    refine o_callVP G79 (z := (⟨"com/example/ronda/ronda/engine/Der", "hasMore", "()Z"⟩ : MethodName)) (argsL := []) (rest := []) (W := 0) (r := .int (1 : Int32)) A75 (hw _ (List.mem_of_getElem? (i := 20) rfl)) (hw _ (List.mem_of_getElem? (i := 22) rfl)) (hw _ (List.mem_of_getElem? (i := 21) rfl)) (hw _ (List.mem_of_getElem? (i := 23) rfl)) at_107 (by decide) (hw _ (List.mem_of_getElem? (i := 4) rfl)) (hw _ (List.mem_of_getElem? (i := 24) rfl)) (by rw [show (1 : Int32) = f_4 (0 : Int32) (1 : Int32) by decide]; exact rm4 hw b75 h78 n0 G79.sz (0 : Int32) (1 : Int32) Fb76 Fc76) (by decide) (by decide) rfl (lenOf pd_2 rfl) rfl (Nat.le_of_eq rfl) (pc' := 110) rfl (by decide) (by decide) ?_
    intro T80 G80
    refine o_if_eq G80 at_110 (by decide) (pcT := 125) (by decide) (pc' := 113) rfl (fun q => absurd q (by decide)) (fun _ => ?_)
    refine o_aload G80 at_113 (pc' := 115) rfl rfl rfl ?_
    refine o_callVP G80 (z := (⟨"com/example/ronda/ronda/engine/Der", "hasMore", "()Z"⟩ : MethodName)) (argsL := []) (rest := []) (W := 0) (r := .int (1 : Int32)) A77 (hw _ (List.mem_of_getElem? (i := 20) rfl)) (hw _ (List.mem_of_getElem? (i := 22) rfl)) (hw _ (List.mem_of_getElem? (i := 21) rfl)) (hw _ (List.mem_of_getElem? (i := 23) rfl)) at_115 (by decide) (hw _ (List.mem_of_getElem? (i := 4) rfl)) (hw _ (List.mem_of_getElem? (i := 24) rfl)) (by rw [show (1 : Int32) = f_4 (0 : Int32) (5 : Int32) by decide]; exact rm4 hw b77 h78 n0 G80.sz (0 : Int32) (5 : Int32) Fb78 Fc78) (by decide) (by decide) rfl (lenOf pd_2 rfl) rfl (Nat.le_of_eq rfl) (pc' := 118) rfl (by decide) (by decide) ?_
    intro T81 G81
    refine o_if_eq G81 at_118 (by decide) (pcT := 125) (by decide) (pc' := 121) rfl (fun q => absurd q (by decide)) (fun _ => ?_)
    refine o_iconst G81 at_121 (pc' := 122) rfl (v := (1 : Int32)) rfl ?_
    refine o_goto G81 at_122 (by decide) (pc' := 126) rfl ?_
    refine o_istore G81 at_126 (pc' := 128) rfl (l' := #[.val (.int p0), .val (.int p1), .val (.int p2), .val (.ref b1), .val (.ref b2), .val (.ref b3), .val (.int (2 : Int32)), .val (.ref b73), .val (.ref b75), .val (.ref b77), .val (.int (1 : Int32)), .unset, .unset, .unset]) rfl ?_
    refine o_aload G81 at_128 (pc' := 130) rfl rfl rfl ?_
    refine o_iloadN G81 at_130 (pc' := 131) rfl rfl ?_
    refine o_sipush G81 at_131 (pc' := 134) rfl (v := (255 : Int32)) rfl ?_
    obtain ⟨v82, e82⟩ : ∃ z, p0 &&& (255 : Int32) = z := ⟨_, rfl⟩
    refine o_iand G81 at_134 (pc' := 135) rfl e82 ?_
    have A_n : OArr Z h78 b3 .byte 5 (own_a5 (nar .byte v62) (2 : Int32) (nar .byte v65) (nar .byte v68) (nar .byte v71)) := by
      refine A_b3.congr (fun j hj => ?_)
      match j, hj with
      | 0, _ => rfl
      | 1, _ => rfl
      | 2, _ => rfl
      | 3, _ => rfl
      | 4, _ => rfl
      | j + 5, hj => omega
    refine o_callV G81 (z := (⟨"com/example/ronda/ronda/engine/Der", "next", "(I)Lcom/example/ronda/ronda/engine/Der;"⟩ : MethodName)) (argsL := [(.int v82)]) (rest := []) (W := 0) A77 (hw _ (List.mem_of_getElem? (i := 25) rfl)) (hw _ (List.mem_of_getElem? (i := 27) rfl)) (hw _ (List.mem_of_getElem? (i := 26) rfl)) (hw _ (List.mem_of_getElem? (i := 28) rfl)) at_135 (by decide) (hw _ (List.mem_of_getElem? (i := 4) rfl)) (hw _ (List.mem_of_getElem? (i := 29) rfl)) (rm5 hw b77 v82 h78 n0 G81.sz b3 (nar .byte v62) (2 : Int32) (nar .byte v65) (nar .byte v68) (nar .byte v71) g_b77 ne_b3_b77 A77 Fa78 Fb78 Fc78 A_n (by rw [← e62, ← e82]; exact own_tag _) (by decide) (by decide)) (by decide) (by decide) rfl (lenOf pd_3 rfl) rfl (Nat.le_of_eq rfl) (pc' := 138) rfl (by decide) (by decide) ?_
    rintro _ T83 h83 G83 ⟨b83, rfl, g_b83, sz83, K83, Fx83, Fy83, Fp83, E83, Fa83, Fb83, Fc83⟩
    have ne_b1_b83 : b1 ≠ b83 := Nat.ne_of_lt (Nat.lt_of_lt_of_le A_b1.lt sz83)
    have ne_b2_b83 : b2 ≠ b83 := Nat.ne_of_lt (Nat.lt_of_lt_of_le A_b2.lt sz83)
    have ne_b3_b83 : b3 ≠ b83 := Nat.ne_of_lt (Nat.lt_of_lt_of_le A_b3.lt sz83)
    have ne_b73_b83 : b73 ≠ b83 := Nat.ne_of_lt (Nat.lt_of_lt_of_le A73.lt sz83)
    have ne_b75_b83 : b75 ≠ b83 := Nat.ne_of_lt (Nat.lt_of_lt_of_le A75.lt sz83)
    have ne_b77_b83 : b77 ≠ b83 := Nat.ne_of_lt (Nat.lt_of_lt_of_le A77.lt sz83)
    replace A_b1 := A_b1.keep K83 (ninS ne_b1_b77 nin0)
    replace A_b2 := A_b2.keep K83 (ninS ne_b2_b77 nin0)
    replace A_b3 := A_b3.keep K83 (ninS ne_b3_b77 nin0)
    replace A73 := A73.keep K83
    replace Fa74 := Fa74.keep K83 (ninS ne_b73_b77 nin0)
    replace Fb74 := Fb74.keep K83 (ninS ne_b73_b77 nin0)
    replace Fc74 := Fc74.keep K83 (ninS ne_b73_b77 nin0)
    replace A75 := A75.keep K83
    replace Fa76 := Fa76.keep K83 (ninS ne_b75_b77 nin0)
    replace Fb76 := Fb76.keep K83 (ninS ne_b75_b77 nin0)
    replace Fc76 := Fc76.keep K83 (ninS ne_b75_b77 nin0)
    replace A77 := A77.keep K83
    show OFin n0 p e below s (fun v _ => v = some (.int 1)) 24 128 T83 (mkF m 138 #[.val (.int p0), .val (.int p1), .val (.int p2), .val (.ref b1), .val (.ref b2), .val (.ref b3), .val (.int (2 : Int32)), .val (.ref b73), .val (.ref b75), .val (.ref b77), .val (.int (1 : Int32)), .unset, .unset, .unset] [(.ref b83)])
    have Fp83 : Fld Z h83 b77 "com/example/ronda/ronda/engine/Der" "position" "I" (.int (4 : Int32)) := Fp83
    have Fc83 : Fld Z h83 b83 "com/example/ronda/ronda/engine/Der" "end" "I" (.int (4 : Int32)) := Fc83
    refine o_astore G83 at_138 (pc' := 140) rfl rfl (l' := #[.val (.int p0), .val (.int p1), .val (.int p2), .val (.ref b1), .val (.ref b2), .val (.ref b3), .val (.int (2 : Int32)), .val (.ref b73), .val (.ref b75), .val (.ref b77), .val (.int (1 : Int32)), .val (.ref b83), .unset, .unset]) rfl ?_
    refine o_aload G83 at_140 (pc' := 142) rfl rfl rfl ?_
    refine o_callVP G83 (z := (⟨"com/example/ronda/ronda/engine/Der", "hasMore", "()Z"⟩ : MethodName)) (argsL := []) (rest := []) (W := 0) (r := .int (1 : Int32)) A77 (hw _ (List.mem_of_getElem? (i := 20) rfl)) (hw _ (List.mem_of_getElem? (i := 22) rfl)) (hw _ (List.mem_of_getElem? (i := 21) rfl)) (hw _ (List.mem_of_getElem? (i := 23) rfl)) at_142 (by decide) (hw _ (List.mem_of_getElem? (i := 4) rfl)) (hw _ (List.mem_of_getElem? (i := 24) rfl)) (by rw [show (1 : Int32) = f_4 (4 : Int32) (5 : Int32) by decide]; exact rm4 hw b77 h83 n0 G83.sz (4 : Int32) (5 : Int32) Fp83 Fy83) (by decide) (by decide) rfl (lenOf pd_2 rfl) rfl (Nat.le_of_eq rfl) (pc' := 145) rfl (by decide) (by decide) ?_
    intro T84 G84
    refine o_istore G84 at_145 (pc' := 147) rfl (l' := #[.val (.int p0), .val (.int p1), .val (.int p2), .val (.ref b1), .val (.ref b2), .val (.ref b3), .val (.int (2 : Int32)), .val (.ref b73), .val (.ref b75), .val (.ref b77), .val (.int (1 : Int32)), .val (.ref b83), .val (.int (1 : Int32)), .unset]) rfl ?_
    refine o_aload G84 at_147 (pc' := 149) rfl rfl rfl ?_
    refine o_callVP G84 (z := (⟨"com/example/ronda/ronda/engine/Der", "hasMore", "()Z"⟩ : MethodName)) (argsL := []) (rest := []) (W := 0) (r := .int (1 : Int32)) E83 (hw _ (List.mem_of_getElem? (i := 20) rfl)) (hw _ (List.mem_of_getElem? (i := 22) rfl)) (hw _ (List.mem_of_getElem? (i := 21) rfl)) (hw _ (List.mem_of_getElem? (i := 23) rfl)) at_149 (by decide) (hw _ (List.mem_of_getElem? (i := 4) rfl)) (hw _ (List.mem_of_getElem? (i := 24) rfl)) (by rw [show (1 : Int32) = f_4 (2 : Int32) (4 : Int32) by decide]; exact rm4 hw b83 h83 n0 G84.sz (2 : Int32) (4 : Int32) Fb83 Fc83) (by decide) (by decide) rfl (lenOf pd_2 rfl) rfl (Nat.le_of_eq rfl) (pc' := 152) rfl (by decide) (by decide) ?_
    intro T85 G85
    refine o_istore G85 at_152 (pc' := 154) rfl (l' := #[.val (.int p0), .val (.int p1), .val (.int p2), .val (.ref b1), .val (.ref b2), .val (.ref b3), .val (.int (2 : Int32)), .val (.ref b73), .val (.ref b75), .val (.ref b77), .val (.int (1 : Int32)), .val (.ref b83), .val (.int (1 : Int32)), .val (.int (1 : Int32))]) rfl ?_
    refine o_iload G85 at_154 (pc' := 156) rfl rfl ?_
    refine o_if_eq G85 at_156 (by decide) (pcT := 194) (by decide) (pc' := 159) rfl (fun q => absurd q (by decide)) (fun _ => ?_)
    refine o_iload G85 at_159 (pc' := 161) rfl rfl ?_
    refine o_iload G85 at_161 (pc' := 163) rfl rfl ?_
    refine o_iconst G85 at_163 (pc' := 164) rfl (v := (3 : Int32)) rfl ?_
    refine o_icmp_ge G85 at_164 (by decide) (pcT := 171) (by decide) (pc' := 167) rfl (fun q => absurd (by decide) q) (fun _ => ?_)
    refine o_iconst G85 at_167 (pc' := 168) rfl (v := (1 : Int32)) rfl ?_
    refine o_goto G85 at_168 (by decide) (pc' := 172) rfl ?_
    refine o_icmp_ne G85 at_172 (by decide) (pcT := 194) (by decide) (pc' := 175) rfl (fun q => absurd (by decide) q) (fun _ => ?_)
    refine o_iload G85 at_175 (pc' := 177) rfl rfl ?_
    refine o_iload G85 at_177 (pc' := 179) rfl rfl ?_
    refine o_if_le G85 at_179 (by decide) (pcT := 186) (by decide) (pc' := 182) rfl (fun q => absurd (by decide) q) (fun _ => ?_)
    refine o_iconst G85 at_182 (pc' := 183) rfl (v := (1 : Int32)) rfl ?_
    refine o_goto G85 at_183 (by decide) (pc' := 187) rfl ?_
    refine o_icmp_ne G85 at_187 (by decide) (pcT := 194) (by decide) (pc' := 190) rfl (fun q => absurd (by decide) q) (fun _ => ?_)
    refine o_iconst G85 at_190 (pc' := 191) rfl (v := (1 : Int32)) rfl ?_
    refine o_goto G85 at_191 (by decide) (pc' := 195) rfl ?_
    refine o_istore G85 at_195 (pc' := 197) rfl (l' := #[.val (.int p0), .val (.int p1), .val (.int p2), .val (.ref b1), .val (.ref b2), .val (.ref b3), .val (.int (2 : Int32)), .val (.ref b73), .val (.ref b75), .val (.ref b77), .val (.int (1 : Int32)), .val (.ref b83), .val (.int (1 : Int32)), .val (.int (1 : Int32))]) rfl ?_
    refine o_iload G85 at_197 (pc' := 199) rfl rfl ?_
    refine o_if_eq G85 at_199 (by decide) (pcT := 216) (by decide) (pc' := 202) rfl (fun q => absurd q (by decide)) (fun _ => ?_)
    refine o_aload G85 at_202 (pc' := 204) rfl rfl rfl ?_
    refine o_callVP G85 (z := (⟨"com/example/ronda/ronda/engine/Der", "hasMore", "()Z"⟩ : MethodName)) (argsL := []) (rest := []) (W := 0) (r := .int (1 : Int32)) A77 (hw _ (List.mem_of_getElem? (i := 20) rfl)) (hw _ (List.mem_of_getElem? (i := 22) rfl)) (hw _ (List.mem_of_getElem? (i := 21) rfl)) (hw _ (List.mem_of_getElem? (i := 23) rfl)) at_204 (by decide) (hw _ (List.mem_of_getElem? (i := 4) rfl)) (hw _ (List.mem_of_getElem? (i := 24) rfl)) (by rw [show (1 : Int32) = f_4 (4 : Int32) (5 : Int32) by decide]; exact rm4 hw b77 h83 n0 G85.sz (4 : Int32) (5 : Int32) Fp83 Fy83) (by decide) (by decide) rfl (lenOf pd_2 rfl) rfl (Nat.le_of_eq rfl) (pc' := 207) rfl (by decide) (by decide) ?_
    intro T86 G86
    refine o_iload G86 at_207 (pc' := 209) rfl rfl ?_
    refine o_icmp_ne G86 at_209 (by decide) (pcT := 216) (by decide) (pc' := 212) rfl (fun q => absurd (by decide) q) (fun _ => ?_)
    refine o_iconst G86 at_212 (pc' := 213) rfl (v := (1 : Int32)) rfl ?_
    refine o_goto G86 at_213 (by decide) (pc' := 217) rfl ?_
    refine o_istore G86 at_217 (pc' := 219) rfl (l' := #[.val (.int p0), .val (.int p1), .val (.int p2), .val (.ref b1), .val (.ref b2), .val (.ref b3), .val (.int (2 : Int32)), .val (.ref b73), .val (.ref b75), .val (.ref b77), .val (.int (1 : Int32)), .val (.ref b83), .val (.int (1 : Int32)), .val (.int (1 : Int32))]) rfl ?_
    refine o_iload G86 at_219 (pc' := 221) rfl rfl ?_
    exact o_nreturn (t := .boolean) G86 (by simp) at_221 rfl (by decide) (by decide)
  · subst hl
    refine o_aload G3 at_22 (pc' := 24) rfl rfl rfl ?_
    refine o_iconst G3 at_24 (pc' := 25) rfl (v := (0 : Int32)) rfl ?_
    refine o_iloadN G3 at_25 (pc' := 26) rfl rfl ?_
    obtain ⟨v87, e87⟩ : ∃ z, p0.toInt8.toInt32 = z := ⟨_, rfl⟩
    refine o_i2b G3 at_26 (pc' := 27) rfl e87 ?_
    refine o_bastore G3 A_b2 g_b2 (i := 0) rfl (by decide) at_27 (pc' := 28) rfl ?_
    intro T88 h88 G88 W88 A88
    replace A_b1 := A_b1.other W88 ne_b1_b2
    replace A_b3 := A_b3.other W88 (Ne.symm ne_b2_b3)
    replace A_b2 := A88
    refine o_aload G88 at_28 (pc' := 30) rfl rfl rfl ?_
    refine o_iconst G88 at_30 (pc' := 31) rfl (v := (0 : Int32)) rfl ?_
    refine o_iloadN G88 at_31 (pc' := 32) rfl rfl ?_
    obtain ⟨v89, e89⟩ : ∃ z, p0.toInt8.toInt32 = z := ⟨_, rfl⟩
    refine o_i2b G88 at_32 (pc' := 33) rfl e89 ?_
    refine o_bastore G88 A_b3 g_b3 (i := 0) rfl (by decide) at_33 (pc' := 34) rfl ?_
    intro T90 h90 G90 W90 A90
    replace A_b1 := A_b1.other W90 ne_b1_b3
    replace A_b2 := A_b2.other W90 ne_b2_b3
    replace A_b3 := A90
    refine o_aload G90 at_34 (pc' := 36) rfl rfl rfl ?_
    refine o_iconst G90 at_36 (pc' := 37) rfl (v := (1 : Int32)) rfl ?_
    refine o_iload G90 at_37 (pc' := 39) rfl rfl ?_
    refine o_i2b G90 at_39 (pc' := 40) rfl (v := (3 : Int32)) (by decide) ?_
    refine o_bastore G90 A_b3 g_b3 (i := 1) rfl (by decide) at_40 (pc' := 41) rfl ?_
    intro T91 h91 G91 W91 A91
    replace A_b1 := A_b1.other W91 ne_b1_b3
    replace A_b2 := A_b2.other W91 ne_b2_b3
    replace A_b3 := A91
    refine o_aload G91 at_41 (pc' := 43) rfl rfl rfl ?_
    refine o_iconst G91 at_43 (pc' := 44) rfl (v := (2 : Int32)) rfl ?_
    refine o_iloadN G91 at_44 (pc' := 45) rfl rfl ?_
    obtain ⟨v92, e92⟩ : ∃ z, p2.toInt8.toInt32 = z := ⟨_, rfl⟩
    refine o_i2b G91 at_45 (pc' := 46) rfl e92 ?_
    refine o_bastore G91 A_b3 g_b3 (i := 2) rfl (by decide) at_46 (pc' := 47) rfl ?_
    intro T93 h93 G93 W93 A93
    replace A_b1 := A_b1.other W93 ne_b1_b3
    replace A_b2 := A_b2.other W93 ne_b2_b3
    replace A_b3 := A93
    refine o_aload G93 at_47 (pc' := 49) rfl rfl rfl ?_
    refine o_iconst G93 at_49 (pc' := 50) rfl (v := (3 : Int32)) rfl ?_
    refine o_iloadN G93 at_50 (pc' := 51) rfl rfl ?_
    refine o_bipush G93 at_51 (pc' := 53) rfl (v := (8 : Int32)) rfl ?_
    obtain ⟨v94, e94⟩ : ∃ z, p2 >>> ((8 : Int32) &&& 31) = z := ⟨_, rfl⟩
    refine o_ishr G93 at_53 (pc' := 54) rfl e94 ?_
    obtain ⟨v95, e95⟩ : ∃ z, v94.toInt8.toInt32 = z := ⟨_, rfl⟩
    refine o_i2b G93 at_54 (pc' := 55) rfl e95 ?_
    refine o_bastore G93 A_b3 g_b3 (i := 3) rfl (by decide) at_55 (pc' := 56) rfl ?_
    intro T96 h96 G96 W96 A96
    replace A_b1 := A_b1.other W96 ne_b1_b3
    replace A_b2 := A_b2.other W96 ne_b2_b3
    replace A_b3 := A96
    refine o_aload G96 at_56 (pc' := 58) rfl rfl rfl ?_
    refine o_iconst G96 at_58 (pc' := 59) rfl (v := (4 : Int32)) rfl ?_
    refine o_iloadN G96 at_59 (pc' := 60) rfl rfl ?_
    refine o_bipush G96 at_60 (pc' := 62) rfl (v := (16 : Int32)) rfl ?_
    obtain ⟨v97, e97⟩ : ∃ z, p2 >>> ((16 : Int32) &&& 31) = z := ⟨_, rfl⟩
    refine o_ishr G96 at_62 (pc' := 63) rfl e97 ?_
    obtain ⟨v98, e98⟩ : ∃ z, v97.toInt8.toInt32 = z := ⟨_, rfl⟩
    refine o_i2b G96 at_63 (pc' := 64) rfl e98 ?_
    refine o_bastore G96 A_b3 g_b3 (i := 4) rfl (by decide) at_64 (pc' := 65) rfl ?_
    intro T99 h99 G99 W99 A99
    replace A_b1 := A_b1.other W99 ne_b1_b3
    replace A_b2 := A_b2.other W99 ne_b2_b3
    replace A_b3 := A99
    refine o_new G99 (hw _ (List.mem_of_getElem? (i := 2) rfl)) (hw _ (List.mem_of_getElem? (i := 3) rfl)) (hw _ (List.mem_of_getElem? (i := 4) rfl)) at_65 (pc' := 68) rfl (by decide) (by decide) ?_
    intro T100 h100 b100 G100 g100 g_b100 E100 A100 D100
    have ne_b1_b100 : b1 ≠ b100 := Nat.ne_of_lt (Nat.lt_of_lt_of_eq A_b1.lt g100.symm)
    have ne_b2_b100 : b2 ≠ b100 := Nat.ne_of_lt (Nat.lt_of_lt_of_eq A_b2.lt g100.symm)
    have ne_b3_b100 : b3 ≠ b100 := Nat.ne_of_lt (Nat.lt_of_lt_of_eq A_b3.lt g100.symm)
    replace A_b1 := A_b1.ext E100
    replace A_b2 := A_b2.ext E100
    replace A_b3 := A_b3.ext E100
    have F_bytes_b100 : Fld Z h100 b100 "com/example/ronda/ronda/engine/Der" "bytes" "[B" .null := D100 (Or.inr (hw _ (List.mem_of_getElem? (i := 15) rfl))) (ty := (.array .byte)) (by decide)
    have F_position_b100 : Fld Z h100 b100 "com/example/ronda/ronda/engine/Der" "position" "I" (.int (0 : Int32)) := D100 (Or.inl (hw _ (List.mem_of_getElem? (i := 17) rfl))) (ty := .int) (by decide)
    have F_end_b100 : Fld Z h100 b100 "com/example/ronda/ronda/engine/Der" "end" "I" (.int (0 : Int32)) := D100 (Or.inr (hw _ (List.mem_of_getElem? (i := 19) rfl))) (ty := .int) (by decide)
    refine o_dup G100 at_68 (pc' := 69) rfl rfl ?_
    refine o_aloadN G100 at_69 (pc' := 70) rfl rfl rfl ?_
    refine o_callI G100 (z := (⟨"com/example/ronda/ronda/engine/Der", "<init>", "([B)V"⟩ : MethodName)) (argsL := [(.ref b1)]) (rest := [(.ref b100)]) (W := 1) (a := b100) rfl (hw _ (List.mem_of_getElem? (i := 5) rfl)) (hw _ (List.mem_of_getElem? (i := 6) rfl)) rfl at_70 (by decide) (hw _ (List.mem_of_getElem? (i := 4) rfl)) (hw _ (List.mem_of_getElem? (i := 7) rfl)) (rm1 hw b100 b1 h100 n0 G100.sz g_b100 A100 F_bytes_b100 F_position_b100 F_end_b100 0 (0 : Int32) rfl _ A_b1) (by decide) (by decide) rfl (lenOf pd_1 rfl) rfl (Nat.le_of_eq rfl) (pc' := 73) rfl (by decide) (by decide) ?_
    rintro _ T101 h101 G101 ⟨rfl, K101, E101, Fa101, Fb101, Fc101⟩
    replace A_b1 := A_b1.keep K101 (ninS ne_b1_b100 nin0)
    replace A_b2 := A_b2.keep K101 (ninS ne_b2_b100 nin0)
    replace A_b3 := A_b3.keep K101 (ninS ne_b3_b100 nin0)
    replace A100 := A100.keep K101
    show OFin n0 p e below s (fun v _ => v = some (.int 1)) 24 128 T101 (mkF m 73 #[.val (.int p0), .val (.int p1), .val (.int p2), .val (.ref b1), .val (.ref b2), .val (.ref b3), .val (.int (3 : Int32)), .unset, .unset, .unset, .unset, .unset, .unset, .unset] [(.ref b100)])
    refine o_astore G101 at_73 (pc' := 75) rfl rfl (l' := #[.val (.int p0), .val (.int p1), .val (.int p2), .val (.ref b1), .val (.ref b2), .val (.ref b3), .val (.int (3 : Int32)), .val (.ref b100), .unset, .unset, .unset, .unset, .unset, .unset]) rfl ?_
    refine o_new G101 (hw _ (List.mem_of_getElem? (i := 2) rfl)) (hw _ (List.mem_of_getElem? (i := 3) rfl)) (hw _ (List.mem_of_getElem? (i := 4) rfl)) at_75 (pc' := 78) rfl (by decide) (by decide) ?_
    intro T102 h102 b102 G102 g102 g_b102 E102 A102 D102
    have ne_b1_b102 : b1 ≠ b102 := Nat.ne_of_lt (Nat.lt_of_lt_of_eq A_b1.lt g102.symm)
    have ne_b2_b102 : b2 ≠ b102 := Nat.ne_of_lt (Nat.lt_of_lt_of_eq A_b2.lt g102.symm)
    have ne_b3_b102 : b3 ≠ b102 := Nat.ne_of_lt (Nat.lt_of_lt_of_eq A_b3.lt g102.symm)
    have ne_b100_b102 : b100 ≠ b102 := Nat.ne_of_lt (Nat.lt_of_lt_of_eq A100.lt g102.symm)
    replace A_b1 := A_b1.ext E102
    replace A_b2 := A_b2.ext E102
    replace A_b3 := A_b3.ext E102
    replace A100 := A100.ext E102
    replace Fa101 := Fa101.ext E102
    replace Fb101 := Fb101.ext E102
    replace Fc101 := Fc101.ext E102
    have F_bytes_b102 : Fld Z h102 b102 "com/example/ronda/ronda/engine/Der" "bytes" "[B" .null := D102 (Or.inr (hw _ (List.mem_of_getElem? (i := 15) rfl))) (ty := (.array .byte)) (by decide)
    have F_position_b102 : Fld Z h102 b102 "com/example/ronda/ronda/engine/Der" "position" "I" (.int (0 : Int32)) := D102 (Or.inl (hw _ (List.mem_of_getElem? (i := 17) rfl))) (ty := .int) (by decide)
    have F_end_b102 : Fld Z h102 b102 "com/example/ronda/ronda/engine/Der" "end" "I" (.int (0 : Int32)) := D102 (Or.inr (hw _ (List.mem_of_getElem? (i := 19) rfl))) (ty := .int) (by decide)
    refine o_dup G102 at_78 (pc' := 79) rfl rfl ?_
    refine o_aload G102 at_79 (pc' := 81) rfl rfl rfl ?_
    refine o_callI G102 (z := (⟨"com/example/ronda/ronda/engine/Der", "<init>", "([B)V"⟩ : MethodName)) (argsL := [(.ref b2)]) (rest := [(.ref b102)]) (W := 1) (a := b102) rfl (hw _ (List.mem_of_getElem? (i := 5) rfl)) (hw _ (List.mem_of_getElem? (i := 6) rfl)) rfl at_81 (by decide) (hw _ (List.mem_of_getElem? (i := 4) rfl)) (hw _ (List.mem_of_getElem? (i := 7) rfl)) (rm1 hw b102 b2 h102 n0 G102.sz g_b102 A102 F_bytes_b102 F_position_b102 F_end_b102 1 (1 : Int32) rfl _ A_b2) (by decide) (by decide) rfl (lenOf pd_1 rfl) rfl (Nat.le_of_eq rfl) (pc' := 84) rfl (by decide) (by decide) ?_
    rintro _ T103 h103 G103 ⟨rfl, K103, E103, Fa103, Fb103, Fc103⟩
    replace A_b1 := A_b1.keep K103 (ninS ne_b1_b102 nin0)
    replace A_b2 := A_b2.keep K103 (ninS ne_b2_b102 nin0)
    replace A_b3 := A_b3.keep K103 (ninS ne_b3_b102 nin0)
    replace A100 := A100.keep K103
    replace Fa101 := Fa101.keep K103 (ninS ne_b100_b102 nin0)
    replace Fb101 := Fb101.keep K103 (ninS ne_b100_b102 nin0)
    replace Fc101 := Fc101.keep K103 (ninS ne_b100_b102 nin0)
    replace A102 := A102.keep K103
    show OFin n0 p e below s (fun v _ => v = some (.int 1)) 24 128 T103 (mkF m 84 #[.val (.int p0), .val (.int p1), .val (.int p2), .val (.ref b1), .val (.ref b2), .val (.ref b3), .val (.int (3 : Int32)), .val (.ref b100), .unset, .unset, .unset, .unset, .unset, .unset] [(.ref b102)])
    refine o_astore G103 at_84 (pc' := 86) rfl rfl (l' := #[.val (.int p0), .val (.int p1), .val (.int p2), .val (.ref b1), .val (.ref b2), .val (.ref b3), .val (.int (3 : Int32)), .val (.ref b100), .val (.ref b102), .unset, .unset, .unset, .unset, .unset]) rfl ?_
    refine o_new G103 (hw _ (List.mem_of_getElem? (i := 2) rfl)) (hw _ (List.mem_of_getElem? (i := 3) rfl)) (hw _ (List.mem_of_getElem? (i := 4) rfl)) at_86 (pc' := 89) rfl (by decide) (by decide) ?_
    intro T104 h104 b104 G104 g104 g_b104 E104 A104 D104
    have ne_b1_b104 : b1 ≠ b104 := Nat.ne_of_lt (Nat.lt_of_lt_of_eq A_b1.lt g104.symm)
    have ne_b2_b104 : b2 ≠ b104 := Nat.ne_of_lt (Nat.lt_of_lt_of_eq A_b2.lt g104.symm)
    have ne_b3_b104 : b3 ≠ b104 := Nat.ne_of_lt (Nat.lt_of_lt_of_eq A_b3.lt g104.symm)
    have ne_b100_b104 : b100 ≠ b104 := Nat.ne_of_lt (Nat.lt_of_lt_of_eq A100.lt g104.symm)
    have ne_b102_b104 : b102 ≠ b104 := Nat.ne_of_lt (Nat.lt_of_lt_of_eq A102.lt g104.symm)
    replace A_b1 := A_b1.ext E104
    replace A_b2 := A_b2.ext E104
    replace A_b3 := A_b3.ext E104
    replace A100 := A100.ext E104
    replace Fa101 := Fa101.ext E104
    replace Fb101 := Fb101.ext E104
    replace Fc101 := Fc101.ext E104
    replace A102 := A102.ext E104
    replace Fa103 := Fa103.ext E104
    replace Fb103 := Fb103.ext E104
    replace Fc103 := Fc103.ext E104
    have F_bytes_b104 : Fld Z h104 b104 "com/example/ronda/ronda/engine/Der" "bytes" "[B" .null := D104 (Or.inr (hw _ (List.mem_of_getElem? (i := 15) rfl))) (ty := (.array .byte)) (by decide)
    have F_position_b104 : Fld Z h104 b104 "com/example/ronda/ronda/engine/Der" "position" "I" (.int (0 : Int32)) := D104 (Or.inl (hw _ (List.mem_of_getElem? (i := 17) rfl))) (ty := .int) (by decide)
    have F_end_b104 : Fld Z h104 b104 "com/example/ronda/ronda/engine/Der" "end" "I" (.int (0 : Int32)) := D104 (Or.inr (hw _ (List.mem_of_getElem? (i := 19) rfl))) (ty := .int) (by decide)
    refine o_dup G104 at_89 (pc' := 90) rfl rfl ?_
    refine o_aload G104 at_90 (pc' := 92) rfl rfl rfl ?_
    refine o_callI G104 (z := (⟨"com/example/ronda/ronda/engine/Der", "<init>", "([B)V"⟩ : MethodName)) (argsL := [(.ref b3)]) (rest := [(.ref b104)]) (W := 1) (a := b104) rfl (hw _ (List.mem_of_getElem? (i := 5) rfl)) (hw _ (List.mem_of_getElem? (i := 6) rfl)) rfl at_92 (by decide) (hw _ (List.mem_of_getElem? (i := 4) rfl)) (hw _ (List.mem_of_getElem? (i := 7) rfl)) (rm1 hw b104 b3 h104 n0 G104.sz g_b104 A104 F_bytes_b104 F_position_b104 F_end_b104 5 (5 : Int32) rfl _ A_b3) (by decide) (by decide) rfl (lenOf pd_1 rfl) rfl (Nat.le_of_eq rfl) (pc' := 95) rfl (by decide) (by decide) ?_
    rintro _ T105 h105 G105 ⟨rfl, K105, E105, Fa105, Fb105, Fc105⟩
    replace A_b1 := A_b1.keep K105 (ninS ne_b1_b104 nin0)
    replace A_b2 := A_b2.keep K105 (ninS ne_b2_b104 nin0)
    replace A_b3 := A_b3.keep K105 (ninS ne_b3_b104 nin0)
    replace A100 := A100.keep K105
    replace Fa101 := Fa101.keep K105 (ninS ne_b100_b104 nin0)
    replace Fb101 := Fb101.keep K105 (ninS ne_b100_b104 nin0)
    replace Fc101 := Fc101.keep K105 (ninS ne_b100_b104 nin0)
    replace A102 := A102.keep K105
    replace Fa103 := Fa103.keep K105 (ninS ne_b102_b104 nin0)
    replace Fb103 := Fb103.keep K105 (ninS ne_b102_b104 nin0)
    replace Fc103 := Fc103.keep K105 (ninS ne_b102_b104 nin0)
    replace A104 := A104.keep K105
    show OFin n0 p e below s (fun v _ => v = some (.int 1)) 24 128 T105 (mkF m 95 #[.val (.int p0), .val (.int p1), .val (.int p2), .val (.ref b1), .val (.ref b2), .val (.ref b3), .val (.int (3 : Int32)), .val (.ref b100), .val (.ref b102), .unset, .unset, .unset, .unset, .unset] [(.ref b104)])
    refine o_astore G105 at_95 (pc' := 97) rfl rfl (l' := #[.val (.int p0), .val (.int p1), .val (.int p2), .val (.ref b1), .val (.ref b2), .val (.ref b3), .val (.int (3 : Int32)), .val (.ref b100), .val (.ref b102), .val (.ref b104), .unset, .unset, .unset, .unset]) rfl ?_
    refine o_aload G105 at_97 (pc' := 99) rfl rfl rfl ?_
    refine o_callVP G105 (z := (⟨"com/example/ronda/ronda/engine/Der", "hasMore", "()Z"⟩ : MethodName)) (argsL := []) (rest := []) (W := 0) (r := .int (0 : Int32)) A100 (hw _ (List.mem_of_getElem? (i := 20) rfl)) (hw _ (List.mem_of_getElem? (i := 22) rfl)) (hw _ (List.mem_of_getElem? (i := 21) rfl)) (hw _ (List.mem_of_getElem? (i := 23) rfl)) at_99 (by decide) (hw _ (List.mem_of_getElem? (i := 4) rfl)) (hw _ (List.mem_of_getElem? (i := 24) rfl)) (by rw [show (0 : Int32) = f_4 (0 : Int32) (0 : Int32) by decide]; exact rm4 hw b100 h105 n0 G105.sz (0 : Int32) (0 : Int32) Fb101 Fc101) (by decide) (by decide) rfl (lenOf pd_2 rfl) rfl (Nat.le_of_eq rfl) (pc' := 102) rfl (by decide) (by decide) ?_
    intro T106 G106
    refine o_if_ne G106 at_102 (by decide) (pcT := 125) (by decide) (pc' := 105) rfl (fun q => absurd (by decide) q) (fun _ => ?_)
    refine o_aload G106 at_105 (pc' := 107) rfl rfl rfl ?_
    refine o_callVP G106 (z := (⟨"com/example/ronda/ronda/engine/Der", "hasMore", "()Z"⟩ : MethodName)) (argsL := []) (rest := []) (W := 0) (r := .int (1 : Int32)) A102 (hw _ (List.mem_of_getElem? (i := 20) rfl)) (hw _ (List.mem_of_getElem? (i := 22) rfl)) (hw _ (List.mem_of_getElem? (i := 21) rfl)) (hw _ (List.mem_of_getElem? (i := 23) rfl)) at_107 (by decide) (hw _ (List.mem_of_getElem? (i := 4) rfl)) (hw _ (List.mem_of_getElem? (i := 24) rfl)) (by rw [show (1 : Int32) = f_4 (0 : Int32) (1 : Int32) by decide]; exact rm4 hw b102 h105 n0 G106.sz (0 : Int32) (1 : Int32) Fb103 Fc103) (by decide) (by decide) rfl (lenOf pd_2 rfl) rfl (Nat.le_of_eq rfl) (pc' := 110) rfl (by decide) (by decide) ?_
    intro T107 G107
    refine o_if_eq G107 at_110 (by decide) (pcT := 125) (by decide) (pc' := 113) rfl (fun q => absurd q (by decide)) (fun _ => ?_)
    refine o_aload G107 at_113 (pc' := 115) rfl rfl rfl ?_
    refine o_callVP G107 (z := (⟨"com/example/ronda/ronda/engine/Der", "hasMore", "()Z"⟩ : MethodName)) (argsL := []) (rest := []) (W := 0) (r := .int (1 : Int32)) A104 (hw _ (List.mem_of_getElem? (i := 20) rfl)) (hw _ (List.mem_of_getElem? (i := 22) rfl)) (hw _ (List.mem_of_getElem? (i := 21) rfl)) (hw _ (List.mem_of_getElem? (i := 23) rfl)) at_115 (by decide) (hw _ (List.mem_of_getElem? (i := 4) rfl)) (hw _ (List.mem_of_getElem? (i := 24) rfl)) (by rw [show (1 : Int32) = f_4 (0 : Int32) (5 : Int32) by decide]; exact rm4 hw b104 h105 n0 G107.sz (0 : Int32) (5 : Int32) Fb105 Fc105) (by decide) (by decide) rfl (lenOf pd_2 rfl) rfl (Nat.le_of_eq rfl) (pc' := 118) rfl (by decide) (by decide) ?_
    intro T108 G108
    refine o_if_eq G108 at_118 (by decide) (pcT := 125) (by decide) (pc' := 121) rfl (fun q => absurd q (by decide)) (fun _ => ?_)
    refine o_iconst G108 at_121 (pc' := 122) rfl (v := (1 : Int32)) rfl ?_
    refine o_goto G108 at_122 (by decide) (pc' := 126) rfl ?_
    refine o_istore G108 at_126 (pc' := 128) rfl (l' := #[.val (.int p0), .val (.int p1), .val (.int p2), .val (.ref b1), .val (.ref b2), .val (.ref b3), .val (.int (3 : Int32)), .val (.ref b100), .val (.ref b102), .val (.ref b104), .val (.int (1 : Int32)), .unset, .unset, .unset]) rfl ?_
    refine o_aload G108 at_128 (pc' := 130) rfl rfl rfl ?_
    refine o_iloadN G108 at_130 (pc' := 131) rfl rfl ?_
    refine o_sipush G108 at_131 (pc' := 134) rfl (v := (255 : Int32)) rfl ?_
    obtain ⟨v109, e109⟩ : ∃ z, p0 &&& (255 : Int32) = z := ⟨_, rfl⟩
    refine o_iand G108 at_134 (pc' := 135) rfl e109 ?_
    have A_n : OArr Z h105 b3 .byte 5 (own_a5 (nar .byte v89) (3 : Int32) (nar .byte v92) (nar .byte v95) (nar .byte v98)) := by
      refine A_b3.congr (fun j hj => ?_)
      match j, hj with
      | 0, _ => rfl
      | 1, _ => rfl
      | 2, _ => rfl
      | 3, _ => rfl
      | 4, _ => rfl
      | j + 5, hj => omega
    refine o_callV G108 (z := (⟨"com/example/ronda/ronda/engine/Der", "next", "(I)Lcom/example/ronda/ronda/engine/Der;"⟩ : MethodName)) (argsL := [(.int v109)]) (rest := []) (W := 0) A104 (hw _ (List.mem_of_getElem? (i := 25) rfl)) (hw _ (List.mem_of_getElem? (i := 27) rfl)) (hw _ (List.mem_of_getElem? (i := 26) rfl)) (hw _ (List.mem_of_getElem? (i := 28) rfl)) at_135 (by decide) (hw _ (List.mem_of_getElem? (i := 4) rfl)) (hw _ (List.mem_of_getElem? (i := 29) rfl)) (rm5 hw b104 v109 h105 n0 G108.sz b3 (nar .byte v89) (3 : Int32) (nar .byte v92) (nar .byte v95) (nar .byte v98) g_b104 ne_b3_b104 A104 Fa105 Fb105 Fc105 A_n (by rw [← e89, ← e109]; exact own_tag _) (by decide) (by decide)) (by decide) (by decide) rfl (lenOf pd_3 rfl) rfl (Nat.le_of_eq rfl) (pc' := 138) rfl (by decide) (by decide) ?_
    rintro _ T110 h110 G110 ⟨b110, rfl, g_b110, sz110, K110, Fx110, Fy110, Fp110, E110, Fa110, Fb110, Fc110⟩
    have ne_b1_b110 : b1 ≠ b110 := Nat.ne_of_lt (Nat.lt_of_lt_of_le A_b1.lt sz110)
    have ne_b2_b110 : b2 ≠ b110 := Nat.ne_of_lt (Nat.lt_of_lt_of_le A_b2.lt sz110)
    have ne_b3_b110 : b3 ≠ b110 := Nat.ne_of_lt (Nat.lt_of_lt_of_le A_b3.lt sz110)
    have ne_b100_b110 : b100 ≠ b110 := Nat.ne_of_lt (Nat.lt_of_lt_of_le A100.lt sz110)
    have ne_b102_b110 : b102 ≠ b110 := Nat.ne_of_lt (Nat.lt_of_lt_of_le A102.lt sz110)
    have ne_b104_b110 : b104 ≠ b110 := Nat.ne_of_lt (Nat.lt_of_lt_of_le A104.lt sz110)
    replace A_b1 := A_b1.keep K110 (ninS ne_b1_b104 nin0)
    replace A_b2 := A_b2.keep K110 (ninS ne_b2_b104 nin0)
    replace A_b3 := A_b3.keep K110 (ninS ne_b3_b104 nin0)
    replace A100 := A100.keep K110
    replace Fa101 := Fa101.keep K110 (ninS ne_b100_b104 nin0)
    replace Fb101 := Fb101.keep K110 (ninS ne_b100_b104 nin0)
    replace Fc101 := Fc101.keep K110 (ninS ne_b100_b104 nin0)
    replace A102 := A102.keep K110
    replace Fa103 := Fa103.keep K110 (ninS ne_b102_b104 nin0)
    replace Fb103 := Fb103.keep K110 (ninS ne_b102_b104 nin0)
    replace Fc103 := Fc103.keep K110 (ninS ne_b102_b104 nin0)
    replace A104 := A104.keep K110
    show OFin n0 p e below s (fun v _ => v = some (.int 1)) 24 128 T110 (mkF m 138 #[.val (.int p0), .val (.int p1), .val (.int p2), .val (.ref b1), .val (.ref b2), .val (.ref b3), .val (.int (3 : Int32)), .val (.ref b100), .val (.ref b102), .val (.ref b104), .val (.int (1 : Int32)), .unset, .unset, .unset] [(.ref b110)])
    have Fp110 : Fld Z h110 b104 "com/example/ronda/ronda/engine/Der" "position" "I" (.int (5 : Int32)) := Fp110
    have Fc110 : Fld Z h110 b110 "com/example/ronda/ronda/engine/Der" "end" "I" (.int (5 : Int32)) := Fc110
    refine o_astore G110 at_138 (pc' := 140) rfl rfl (l' := #[.val (.int p0), .val (.int p1), .val (.int p2), .val (.ref b1), .val (.ref b2), .val (.ref b3), .val (.int (3 : Int32)), .val (.ref b100), .val (.ref b102), .val (.ref b104), .val (.int (1 : Int32)), .val (.ref b110), .unset, .unset]) rfl ?_
    refine o_aload G110 at_140 (pc' := 142) rfl rfl rfl ?_
    refine o_callVP G110 (z := (⟨"com/example/ronda/ronda/engine/Der", "hasMore", "()Z"⟩ : MethodName)) (argsL := []) (rest := []) (W := 0) (r := .int (0 : Int32)) A104 (hw _ (List.mem_of_getElem? (i := 20) rfl)) (hw _ (List.mem_of_getElem? (i := 22) rfl)) (hw _ (List.mem_of_getElem? (i := 21) rfl)) (hw _ (List.mem_of_getElem? (i := 23) rfl)) at_142 (by decide) (hw _ (List.mem_of_getElem? (i := 4) rfl)) (hw _ (List.mem_of_getElem? (i := 24) rfl)) (by rw [show (0 : Int32) = f_4 (5 : Int32) (5 : Int32) by decide]; exact rm4 hw b104 h110 n0 G110.sz (5 : Int32) (5 : Int32) Fp110 Fy110) (by decide) (by decide) rfl (lenOf pd_2 rfl) rfl (Nat.le_of_eq rfl) (pc' := 145) rfl (by decide) (by decide) ?_
    intro T111 G111
    refine o_istore G111 at_145 (pc' := 147) rfl (l' := #[.val (.int p0), .val (.int p1), .val (.int p2), .val (.ref b1), .val (.ref b2), .val (.ref b3), .val (.int (3 : Int32)), .val (.ref b100), .val (.ref b102), .val (.ref b104), .val (.int (1 : Int32)), .val (.ref b110), .val (.int (0 : Int32)), .unset]) rfl ?_
    refine o_aload G111 at_147 (pc' := 149) rfl rfl rfl ?_
    refine o_callVP G111 (z := (⟨"com/example/ronda/ronda/engine/Der", "hasMore", "()Z"⟩ : MethodName)) (argsL := []) (rest := []) (W := 0) (r := .int (1 : Int32)) E110 (hw _ (List.mem_of_getElem? (i := 20) rfl)) (hw _ (List.mem_of_getElem? (i := 22) rfl)) (hw _ (List.mem_of_getElem? (i := 21) rfl)) (hw _ (List.mem_of_getElem? (i := 23) rfl)) at_149 (by decide) (hw _ (List.mem_of_getElem? (i := 4) rfl)) (hw _ (List.mem_of_getElem? (i := 24) rfl)) (by rw [show (1 : Int32) = f_4 (2 : Int32) (5 : Int32) by decide]; exact rm4 hw b110 h110 n0 G111.sz (2 : Int32) (5 : Int32) Fb110 Fc110) (by decide) (by decide) rfl (lenOf pd_2 rfl) rfl (Nat.le_of_eq rfl) (pc' := 152) rfl (by decide) (by decide) ?_
    intro T112 G112
    refine o_istore G112 at_152 (pc' := 154) rfl (l' := #[.val (.int p0), .val (.int p1), .val (.int p2), .val (.ref b1), .val (.ref b2), .val (.ref b3), .val (.int (3 : Int32)), .val (.ref b100), .val (.ref b102), .val (.ref b104), .val (.int (1 : Int32)), .val (.ref b110), .val (.int (0 : Int32)), .val (.int (1 : Int32))]) rfl ?_
    refine o_iload G112 at_154 (pc' := 156) rfl rfl ?_
    refine o_if_eq G112 at_156 (by decide) (pcT := 194) (by decide) (pc' := 159) rfl (fun q => absurd q (by decide)) (fun _ => ?_)
    refine o_iload G112 at_159 (pc' := 161) rfl rfl ?_
    refine o_iload G112 at_161 (pc' := 163) rfl rfl ?_
    refine o_iconst G112 at_163 (pc' := 164) rfl (v := (3 : Int32)) rfl ?_
    refine o_icmp_ge G112 at_164 (by decide) (pcT := 171) (by decide) (pc' := 167) rfl (fun _ => ?_) (fun q => absurd q (by decide))
    refine o_iconst G112 at_171 (pc' := 172) rfl (v := (0 : Int32)) rfl ?_
    refine o_icmp_ne G112 at_172 (by decide) (pcT := 194) (by decide) (pc' := 175) rfl (fun q => absurd (by decide) q) (fun _ => ?_)
    refine o_iload G112 at_175 (pc' := 177) rfl rfl ?_
    refine o_iload G112 at_177 (pc' := 179) rfl rfl ?_
    refine o_if_le G112 at_179 (by decide) (pcT := 186) (by decide) (pc' := 182) rfl (fun q => absurd (by decide) q) (fun _ => ?_)
    refine o_iconst G112 at_182 (pc' := 183) rfl (v := (1 : Int32)) rfl ?_
    refine o_goto G112 at_183 (by decide) (pc' := 187) rfl ?_
    refine o_icmp_ne G112 at_187 (by decide) (pcT := 194) (by decide) (pc' := 190) rfl (fun q => absurd (by decide) q) (fun _ => ?_)
    refine o_iconst G112 at_190 (pc' := 191) rfl (v := (1 : Int32)) rfl ?_
    refine o_goto G112 at_191 (by decide) (pc' := 195) rfl ?_
    refine o_istore G112 at_195 (pc' := 197) rfl (l' := #[.val (.int p0), .val (.int p1), .val (.int p2), .val (.ref b1), .val (.ref b2), .val (.ref b3), .val (.int (3 : Int32)), .val (.ref b100), .val (.ref b102), .val (.ref b104), .val (.int (1 : Int32)), .val (.ref b110), .val (.int (0 : Int32)), .val (.int (1 : Int32))]) rfl ?_
    refine o_iload G112 at_197 (pc' := 199) rfl rfl ?_
    refine o_if_eq G112 at_199 (by decide) (pcT := 216) (by decide) (pc' := 202) rfl (fun q => absurd q (by decide)) (fun _ => ?_)
    refine o_aload G112 at_202 (pc' := 204) rfl rfl rfl ?_
    refine o_callVP G112 (z := (⟨"com/example/ronda/ronda/engine/Der", "hasMore", "()Z"⟩ : MethodName)) (argsL := []) (rest := []) (W := 0) (r := .int (0 : Int32)) A104 (hw _ (List.mem_of_getElem? (i := 20) rfl)) (hw _ (List.mem_of_getElem? (i := 22) rfl)) (hw _ (List.mem_of_getElem? (i := 21) rfl)) (hw _ (List.mem_of_getElem? (i := 23) rfl)) at_204 (by decide) (hw _ (List.mem_of_getElem? (i := 4) rfl)) (hw _ (List.mem_of_getElem? (i := 24) rfl)) (by rw [show (0 : Int32) = f_4 (5 : Int32) (5 : Int32) by decide]; exact rm4 hw b104 h110 n0 G112.sz (5 : Int32) (5 : Int32) Fp110 Fy110) (by decide) (by decide) rfl (lenOf pd_2 rfl) rfl (Nat.le_of_eq rfl) (pc' := 207) rfl (by decide) (by decide) ?_
    intro T113 G113
    refine o_iload G113 at_207 (pc' := 209) rfl rfl ?_
    refine o_icmp_ne G113 at_209 (by decide) (pcT := 216) (by decide) (pc' := 212) rfl (fun q => absurd (by decide) q) (fun _ => ?_)
    refine o_iconst G113 at_212 (pc' := 213) rfl (v := (1 : Int32)) rfl ?_
    refine o_goto G113 at_213 (by decide) (pc' := 217) rfl ?_
    refine o_istore G113 at_217 (pc' := 219) rfl (l' := #[.val (.int p0), .val (.int p1), .val (.int p2), .val (.ref b1), .val (.ref b2), .val (.ref b3), .val (.int (3 : Int32)), .val (.ref b100), .val (.ref b102), .val (.ref b104), .val (.int (1 : Int32)), .val (.ref b110), .val (.int (0 : Int32)), .val (.int (1 : Int32))]) rfl ?_
    refine o_iload G113 at_219 (pc' := 221) rfl rfl ?_
    exact o_nreturn (t := .boolean) G113 (by simp) at_221 rfl (by decide) (by decide)
set_option maxRecDepth 65536 in
set_option maxHeartbeats 40000000 in
theorem comes_1 {Post : Tables → Env → Array Value → State → Outcome → State → Prop} (hpost : ∀ tb e args s v u, (limb_1_1.after args s (.returned v) u = true ∧ limb_1_2.after args s (.returned v) u = true ∧ True) → FrameEnd s (.returned v) u (Jvm.fieldLocs frame_1_writes args s ++ Jvm.arrayLocs frame_1_arrays args s ++ Jvm.staticLocs frame_1_statics s) 24 128 → Post tb e args s (.returned v) u) :
    ArmFor flags0 classFile x code maxLocals ret World_1 tables_1 room_1 Calls_1 rest_1 Pre_1 Post := by
  intro l hfl _ _ p e ha hc hk s m args below hf hA hF happ hP
  obtain ⟨hcalls, hrest, hpre⟩ := hP
  obtain ⟨-, -, -, hnamed, -, -, -, hat⟩ := (Spec.applies_iff hf).mp happ
  obtain ⟨hg, hn⟩ := and_e (Cond.before_iff.mp (show (Jvm.Cond.and given_1 narrow_1).before args s = true from hpre))
  obtain ⟨g1, g2⟩ := and_e hg
  obtain ⟨g3, g4⟩ := and_e g2
  obtain ⟨g5, g6⟩ := and_e g4
  obtain ⟨w0, w1, w2, rfl⟩ : ∃ w0 w1 w2 : Value, args = #[w0, w1, w2] := by
    have hs : args.size = 3 := by simpa [Cond.value, given_1] using g1
    obtain ⟨L⟩ := args
    match L, hs with
    | [w0, w1, w2], _ => exact ⟨w0, w1, w2, rfl⟩
  have hw := fun d (hd : d ∈ tables_1) => atoms_spec (ws := Jvm.Cond.code x code maxLocals ret :: tables_1) hat d (List.mem_cons_of_mem _ hd)
  obtain ⟨i0, ei0⟩ := is_v g3
  obtain rfl : w0 = (.int i0) := Option.some.inj ei0
  obtain ⟨i1, ei1⟩ := is_v g5
  obtain rfl : w1 = (.int i1) := Option.some.inj ei1
  obtain ⟨i2, ei2⟩ := is_v g6
  obtain rfl : w2 = (.int i2) := Option.some.inj ei2
  obtain ⟨n, o, h1, h2, h3, _, L, rfl, ⟨N, _, hv⟩, hq⟩ := rm0 (l := l) (Z := s) hw i0 i1 i2 s.heap s.heap.size (Nat.le_refl _)  tables_1 p e ha hc hk s m _ below hf ((Spec.applies_iff_loose hf).mp happ).1 ⟨rfl, State.Warmed39.refl s, rfl⟩ trivial
  subst hv
  refine ⟨n, _, h1, h2, h3, hpost _ _ _ _ _ _ ⟨Cond.after_iff.mpr rfl, Cond.after_iff.mpr (eq_i res_at (Term.int_eval (1)) rfl), trivial⟩ ⟨hq.1, hq.2.1, (hq.2.2.sift fun y hy => Or.inr (N y hy)).mono (by decide) (by decide)⟩⟩
theorem main_1_1 : Claimed_1_1 := comes_1 fun _ _ _ _ _ _ h hF => ⟨h.1, hF⟩
theorem main_1_2 : Claimed_1_2 := comes_1 fun _ _ _ _ _ _ h hF => ⟨h.2.1, hF⟩
end Jvm.Pilot.@@N@@
namespace Jvm.Pilot.@@N@@
open Jvm Jvm.ClassFile Sem Op Lib Jvm.Free Jvm.Stand Jvm.Pilot.@@N@@.Jvm.D
/-! MADE BY PROGRAM (witnessworld.py) out of the Statement's table words and the real class files: 9 classes; the members and pool entries that the words name. The judged class is class 1, her method 1. -/
namespace start1
open Jvm.ClassFile
def u (s : String) : CpInfo := .utf8 (stringToUtf16 s)
/-- a pool by its gaps: so many unusable entries, then the entry; so many at the end -/
def gap : Nat → List CpInfo → List CpInfo
  | 0, r => r
  | n + 1, r => .unusable :: gap n r
def poolList (es : List (Nat × CpInfo)) (last : Nat) : List CpInfo := es.foldr (fun e r => gap e.1 (e.2 :: r)) (gap last [])
def pool (es : List (Nat × CpInfo)) (last : Nat) : Array CpInfo := ⟨poolList es last⟩
def fileOf (pool : Array CpInfo) (this : Nat) (attrs : Array Attribute := #[]) (ms : Array MethodInfo := #[]) (fl : Nat := 33) (sup : Nat := 0) (ifs : Array Nat := #[]) (fds : Array FieldInfo := #[]) : ClassFile where
  minorVersion := 0
  majorVersion := 65
  constantPool := pool
  accessFlags := fl
  thisClass := this
  superClass := sup
  interfaces := ifs
  fields := fds
  methods := ms
  attributes := attrs
def plain (name : String) (sup : Option ClassId) : Class where
  name := name
  kind := .ordinary
  loader := none
  accessFlags := 33
  super := sup
  interfaces := #[]
  cf := none
  fields := #[]
  methods := #[]
  instanceTypes := #[]
  staticTypes := #[]
  resolved := #[]
  callSites := []
  init := .initialized
  statics := none
  mirror := none

def pool0 : Array CpInfo := pool [(5, u "<init>"), (0, u "()V"), (1, .class_ 10), (1, u "java/lang/Object")] 113

def k0c0 : Code := { maxStack := 0, maxLocals := 1, code := object_method_1_code, exceptionTable := #[], attributes := #[] }
def k0m0 : Method := { name := "<init>", desc := "()V", sig := { parameters := [], returnType := none }, accessFlags := 1, code := some k0c0 }
/-- java/lang/Object -/
def k0 : Class := { plain "java/lang/Object" none with
  accessFlags := 33
  interfaces := #[]
  cf := some (fileOf pool0 8 #[] #[{ accessFlags := 1, nameIndex := 5, descriptorIndex := 6, attributes := #[] }] 33 0 #[] #[])
  fields := #[]
  methods := #[k0m0]
  instanceTypes := #[]
  staticTypes := #[]
  resolved := Array.replicate 124 none
  statics := none }

def pool1 : Array CpInfo := pool [(2, .class_ 4), (1, u "java/lang/Object"), (0, u "<init>"), (0, u "()V"), (0, .integer 2147483647), (0, .class_ 9), (0, u "com/example/ronda/ronda/engine/Der"), (0, .methodref 8 11), (0, .nameAndType 5 12), (0, u "([B)V"), (0, .methodref 8 14), (0, .nameAndType 15 16), (0, u "hasMore"), (0, u "()Z"), (0, .methodref 8 18), (0, .nameAndType 19 20), (0, u "next"), (0, u "(I)Lcom/example/ronda/ronda/engine/Der;"), (0, .class_ 22), (0, u "com/example/ronda/ronda/engine/DerHasMorePinLaw"), (2, u "law"), (0, u "(III)Z")] 8

def k1m0 : Method := { name := "<init>", desc := "()V", sig := { parameters := [], returnType := none }, accessFlags := 1, code := none }
def k1c1 : Code := { maxStack := 4, maxLocals := 14, code := code, exceptionTable := #[], attributes := #[] }
def k1m1 : Method := { name := "law", desc := "(III)Z", sig := { parameters := [.int, .int, .int], returnType := some .boolean }, accessFlags := 9, code := some k1c1 }
/-- com/example/ronda/ronda/engine/DerHasMorePinLaw -/
def k1 : Class := { plain "com/example/ronda/ronda/engine/DerHasMorePinLaw" (some 0) with
  accessFlags := 49
  interfaces := #[]
  cf := some (fileOf pool1 21 #[] #[{ accessFlags := 1, nameIndex := 5, descriptorIndex := 6, attributes := #[] }, { accessFlags := 9, nameIndex := 25, descriptorIndex := 26, attributes := #[] }] 49 2 #[] #[])
  fields := #[]
  methods := #[k1m0, k1m1]
  instanceTypes := #[]
  staticTypes := #[]
  resolved := Array.replicate 35 none
  statics := none }

def pool2 : Array CpInfo := pool [(1, .methodref 2 3), (0, .class_ 4), (0, .nameAndType 5 6), (0, u "com/example/ronda/ronda/engine/Der"), (0, u "<init>"), (0, u "([BII)V"), (0, .methodref 8 9), (0, .class_ 10), (0, .nameAndType 5 11), (0, u "java/lang/Object"), (0, u "()V"), (0, .fieldref 2 13), (0, .nameAndType 14 15), (0, u "bytes"), (0, u "[B"), (0, .fieldref 2 17), (0, .nameAndType 18 19), (0, u "position"), (0, u "I"), (0, .fieldref 2 21), (0, .nameAndType 22 19), (0, u "end"), (6, u "([B)V"), (22, u "hasMore"), (0, u "()Z"), (17, u "next"), (0, u "(I)Lcom/example/ronda/ronda/engine/Der;"), (10, u "INTEGER"), (2, u "BIT_STRING"), (1, u "OCTET_STRING"), (1, u "OBJECT_IDENTIFIER"), (1, u "SEQUENCE")] 31

def k2c0 : Code := { maxStack := 4, maxLocals := 2, code := prog_5_method_1_code, exceptionTable := #[], attributes := #[] }
def k2m0 : Method := { name := "<init>", desc := "([B)V", sig := { parameters := [(.array .byte)], returnType := none }, accessFlags := 0, code := some k2c0 }
def k2c1 : Code := { maxStack := 2, maxLocals := 4, code := prog_5_method_2_code, exceptionTable := #[], attributes := #[] }
def k2m1 : Method := { name := "<init>", desc := "([BII)V", sig := { parameters := [(.array .byte), .int, .int], returnType := none }, accessFlags := 2, code := some k2c1 }
def k2c2 : Code := { maxStack := 2, maxLocals := 1, code := prog_5_method_4_code, exceptionTable := #[], attributes := #[] }
def k2m2 : Method := { name := "hasMore", desc := "()Z", sig := { parameters := [], returnType := some .boolean }, accessFlags := 0, code := some k2c2 }
def k2c3 : Code := { maxStack := 5, maxLocals := 6, code := prog_5_method_6_code, exceptionTable := #[], attributes := #[] }
def k2m3 : Method := { name := "next", desc := "(I)Lcom/example/ronda/ronda/engine/Der;", sig := { parameters := [.int], returnType := some (.object "com/example/ronda/ronda/engine/Der") }, accessFlags := 0, code := some k2c3 }
/-- com/example/ronda/ronda/engine/Der -/
def k2 : Class := { plain "com/example/ronda/ronda/engine/Der" (some 0) with
  accessFlags := 48
  interfaces := #[]
  cf := some (fileOf pool2 2 #[] #[{ accessFlags := 0, nameIndex := 5, descriptorIndex := 29, attributes := #[] }, { accessFlags := 2, nameIndex := 5, descriptorIndex := 6, attributes := #[] }, { accessFlags := 0, nameIndex := 52, descriptorIndex := 53, attributes := #[] }, { accessFlags := 0, nameIndex := 71, descriptorIndex := 72, attributes := #[] }] 48 8 #[] #[{ accessFlags := 24, nameIndex := 83, descriptorIndex := 19, attributes := #[] }, { accessFlags := 24, nameIndex := 86, descriptorIndex := 19, attributes := #[] }, { accessFlags := 24, nameIndex := 88, descriptorIndex := 19, attributes := #[] }, { accessFlags := 24, nameIndex := 90, descriptorIndex := 19, attributes := #[] }, { accessFlags := 24, nameIndex := 92, descriptorIndex := 19, attributes := #[] }, { accessFlags := 18, nameIndex := 14, descriptorIndex := 15, attributes := #[] }, { accessFlags := 18, nameIndex := 22, descriptorIndex := 19, attributes := #[] }, { accessFlags := 2, nameIndex := 18, descriptorIndex := 19, attributes := #[] }])
  fields := #[{ name := "INTEGER", type := .int, accessFlags := 24, slot := 0, constantValue := 0 }, { name := "BIT_STRING", type := .int, accessFlags := 24, slot := 1, constantValue := 0 }, { name := "OCTET_STRING", type := .int, accessFlags := 24, slot := 2, constantValue := 0 }, { name := "OBJECT_IDENTIFIER", type := .int, accessFlags := 24, slot := 3, constantValue := 0 }, { name := "SEQUENCE", type := .int, accessFlags := 24, slot := 4, constantValue := 0 }, { name := "bytes", type := (.array .byte), accessFlags := 18, slot := 0, constantValue := 0 }, { name := "end", type := .int, accessFlags := 18, slot := 1, constantValue := 0 }, { name := "position", type := .int, accessFlags := 2, slot := 2, constantValue := 0 }]
  methods := #[k2m0, k2m1, k2m2, k2m3]
  instanceTypes := #[(.array .byte), .int, .int]
  staticTypes := #[.int, .int, .int, .int, .int]
  resolved := Array.replicate 124 none
  statics := none }

def pool3 : Array CpInfo := pool [(1, u "java/lang/Cloneable"), (0, .class_ 1), (0, u "java/lang/Object"), (0, .class_ 3)] 3

/-- java/lang/Cloneable -/
def k3 : Class := { plain "java/lang/Cloneable" (some 0) with
  accessFlags := 1537
  interfaces := #[]
  cf := some (fileOf pool3 2 #[] #[] 1537 4 #[] #[])
  fields := #[]
  methods := #[]
  instanceTypes := #[]
  staticTypes := #[]
  resolved := Array.replicate 8 none
  statics := none }

def pool4 : Array CpInfo := pool [(1, u "java/io/Serializable"), (0, .class_ 1), (0, u "java/lang/Object"), (0, .class_ 3)] 3

/-- java/io/Serializable -/
def k4 : Class := { plain "java/io/Serializable" (some 0) with
  accessFlags := 1537
  interfaces := #[]
  cf := some (fileOf pool4 2 #[] #[] 1537 4 #[] #[])
  fields := #[]
  methods := #[]
  instanceTypes := #[]
  staticTypes := #[]
  resolved := Array.replicate 8 none
  statics := none }

/-- the primitive byte -/
def k5 : Class := { plain "byte" none with kind := .primitive 'B', accessFlags := 0x411 }
/-- [B -/
def k6 : Class := { plain "[B" (some 0) with kind := .array 5 .byte, interfaces := #[3, 4], accessFlags := 1041 }

/-- the primitive int -/
def k7 : Class := { plain "int" none with kind := .primitive 'I', accessFlags := 0x411 }
/-- [I -/
def k8 : Class := { plain "[I" (some 0) with kind := .array 7 .int, interfaces := #[3, 4], accessFlags := 1041 }

def heap : Heap := #[]
def classes : Array Class := #[k0, k1, k2, k3, k4, k5, k6, k7, k8]
def interned : List (Array UInt16 × Addr) := []
def slotsUsed : Nat := 0
def theMethod : MethodId := ⟨1, 1⟩
def args0 : Array Value := #[.int 5, .int 5, .int 5]
def aboutOver (below : List Frame) : State where
  vm := { classes := classes, interned := interned.toArray }
  heap := heap
  slotsUsed := slotsUsed
  threads := #[{ frames := .invoking theMethod args0 :: below }]
def below0 : List Frame := [.native { method := ⟨0, 0⟩, args := #[] }]
def about1 : State := aboutOver below0
def p0 : Program := .bare "" "" ""
def e0 : Env := launch0.env 0 0 0
theorem w_frames : about1.frames = Frame.invoking theMethod args0 :: below0 := rfl
set_option maxRecDepth 65536 in
theorem w_args : argsFit about1.vm theMethod args0 = true := by decide +kernel
set_option maxRecDepth 65536 in
theorem w_heap : heapFits about1 = true := by decide +kernel
set_option maxRecDepth 65536 in
theorem w_runnable : about1.curStatus? = some .runnable := by decide +kernel
set_option maxRecDepth 65536 in
theorem w_alone : about1.alone = true := by decide +kernel
set_option maxRecDepth 65536 in
theorem w_named : about1.methodNamed? x = some theMethod := by decide +kernel
set_option maxRecDepth 65536 in
theorem w_hears : about1.hears theMethod below0 = true := by decide +kernel
set_option maxRecDepth 65536 in
theorem w_ripe : about1.ripe theMethod args0 below0 = true := by decide +kernel
theorem w_running : about1.status = .running := rfl
set_option maxRecDepth 65536 in
theorem w_room : about1.hasRoom e0.platform room_1 = true :=
  launch0.hasRoom_least _ room_1 (by decide +kernel) (by decide +kernel) (by decide +kernel) (by decide +kernel) (by decide +kernel) (by decide +kernel)
theorem allAtoms_all (ts : List Jvm.Cond) (a : Array Jvm.Value) (st : Jvm.State) : (allAtoms ts).before a st = ts.all (fun c => c.before a st) := by
  induction ts with
  | nil => rfl
  | cons c t ih =>
    show (Jvm.Cond.and c (allAtoms t)).before a st = _
    rw [Jvm.Cond.before_and, ih, List.all_cons]
def words1 : List Jvm.Cond := Jvm.Cond.code x code maxLocals ret :: tables_1
/-- a 'code' word, met by the world's own term for the bytes: nothing is compared byte by byte -/
theorem code_word {y : MethodName} {bytes : ByteArray} {mx : Nat} {rt : Option FieldType} {a : Array Value} {s : State} {m : MethodId} {meth : Method} {c : Code} (h1 : s.methodNamed? y = some m) (h2 : s.vm.method? m = some meth) (h3 : meth.code = some c) (h4 : c.code = bytes)
    (h5 : (c.maxLocals == mx && c.exceptionTable.isEmpty && decide (c.maxStack ≤ mostOperands) && decide (meth.sig.returnType = rt) && !meth.locks && decide (parseMethodDescriptor y.desc = some meth.sig)) = true) : (Jvm.Cond.code y bytes mx rt).before a s = true := by
  simp only [Bool.and_eq_true, beq_iff_eq, Bool.not_eq_true', decide_eq_true_eq] at h5
  obtain ⟨⟨⟨⟨⟨g1, g2⟩, g3⟩, g4⟩, g5⟩, g6⟩ := h5
  simp [Cond.before, Cond.holds, Cond.value, h1, h2, h3, h4, g1, g2, g3, g4, g5, g6]
def isCode : Jvm.Cond → Bool
  | .code _ _ _ _ => true
  | _ => false
theorem all_split {L : List Jvm.Cond} {P : Jvm.Cond → Bool} (h1 : L.all (fun c => isCode c || P c) = true) (h2 : ∀ c ∈ L.filter isCode, P c = true) : L.all P = true := by
  refine List.all_eq_true.mpr fun c hc => ?_
  have h := List.all_eq_true.mp h1 c hc
  rcases Bool.eq_false_or_eq_true (isCode c) with hi | hi
  · exact h2 c (List.mem_filter.mpr ⟨hc, hi⟩)
  · simpa [hi] using h
set_option maxRecDepth 65536 in
theorem w_c0 : (Jvm.Cond.code x code maxLocals ret).before args0 about1 = true := code_word (m := ⟨1, 1⟩) (meth := k1m1) (c := k1c1) (by decide +kernel) rfl rfl rfl (by decide +kernel)
set_option maxRecDepth 65536 in
theorem w_c1 : (Jvm.Cond.code ({ cls := "com/example/ronda/ronda/engine/Der", name := "<init>", desc := "([B)V" } : Jvm.MethodName) prog_5_method_1_code (2 : Nat) (Option.none : Option Jvm.ClassFile.FieldType)).before args0 about1 = true := code_word (m := ⟨2, 0⟩) (meth := k2m0) (c := k2c0) (by decide +kernel) rfl rfl rfl (by decide +kernel)
set_option maxRecDepth 65536 in
theorem w_c2 : (Jvm.Cond.code ({ cls := "com/example/ronda/ronda/engine/Der", name := "<init>", desc := "([BII)V" } : Jvm.MethodName) prog_5_method_2_code (4 : Nat) (Option.none : Option Jvm.ClassFile.FieldType)).before args0 about1 = true := code_word (m := ⟨2, 1⟩) (meth := k2m1) (c := k2c1) (by decide +kernel) rfl rfl rfl (by decide +kernel)
set_option maxRecDepth 65536 in
theorem w_c3 : (Jvm.Cond.code ({ cls := "java/lang/Object", name := "<init>", desc := "()V" } : Jvm.MethodName) object_method_1_code (1 : Nat) (Option.none : Option Jvm.ClassFile.FieldType)).before args0 about1 = true := code_word (m := ⟨0, 0⟩) (meth := k0m0) (c := k0c0) (by decide +kernel) rfl rfl rfl (by decide +kernel)
set_option maxRecDepth 65536 in
theorem w_c4 : (Jvm.Cond.code ({ cls := "com/example/ronda/ronda/engine/Der", name := "hasMore", desc := "()Z" } : Jvm.MethodName) prog_5_method_4_code (1 : Nat) (Option.some Jvm.ClassFile.FieldType.boolean)).before args0 about1 = true := code_word (m := ⟨2, 2⟩) (meth := k2m2) (c := k2c2) (by decide +kernel) rfl rfl rfl (by decide +kernel)
set_option maxRecDepth 65536 in
theorem w_c5 : (Jvm.Cond.code ({ cls := "com/example/ronda/ronda/engine/Der", name := "next", desc := "(I)Lcom/example/ronda/ronda/engine/Der;" } : Jvm.MethodName) prog_5_method_6_code (6 : Nat) (Option.some (Jvm.ClassFile.FieldType.object "com/example/ronda/ronda/engine/Der"))).before args0 about1 = true := code_word (m := ⟨2, 3⟩) (meth := k2m3) (c := k2c3) (by decide +kernel) rfl rfl rfl (by decide +kernel)
def codes1 : List Jvm.Cond := [Jvm.Cond.code x code maxLocals ret, Jvm.Cond.code ({ cls := "com/example/ronda/ronda/engine/Der", name := "<init>", desc := "([B)V" } : Jvm.MethodName) prog_5_method_1_code (2 : Nat) (Option.none : Option Jvm.ClassFile.FieldType), Jvm.Cond.code ({ cls := "com/example/ronda/ronda/engine/Der", name := "<init>", desc := "([BII)V" } : Jvm.MethodName) prog_5_method_2_code (4 : Nat) (Option.none : Option Jvm.ClassFile.FieldType), Jvm.Cond.code ({ cls := "java/lang/Object", name := "<init>", desc := "()V" } : Jvm.MethodName) object_method_1_code (1 : Nat) (Option.none : Option Jvm.ClassFile.FieldType), Jvm.Cond.code ({ cls := "com/example/ronda/ronda/engine/Der", name := "hasMore", desc := "()Z" } : Jvm.MethodName) prog_5_method_4_code (1 : Nat) (Option.some Jvm.ClassFile.FieldType.boolean), Jvm.Cond.code ({ cls := "com/example/ronda/ronda/engine/Der", name := "next", desc := "(I)Lcom/example/ronda/ronda/engine/Der;" } : Jvm.MethodName) prog_5_method_6_code (6 : Nat) (Option.some (Jvm.ClassFile.FieldType.object "com/example/ronda/ronda/engine/Der"))]
set_option maxRecDepth 65536 in
theorem codes_eq : words1.filter isCode = codes1 := rfl
theorem w_codes : ∀ c ∈ words1.filter isCode, c.before args0 about1 = true := by
  rw [codes_eq]
  intro c hc
  simp only [codes1, List.mem_cons, List.not_mem_nil, or_false] at hc
  rcases hc with rfl | rfl | rfl | rfl | rfl | rfl
  · exact w_c0
  · exact w_c1
  · exact w_c2
  · exact w_c3
  · exact w_c4
  · exact w_c5
set_option maxRecDepth 65536 in
theorem w_t1 : (words1.take 24).all (fun c => isCode c || c.before args0 about1) = true := by decide +kernel
set_option maxRecDepth 65536 in
theorem w_t2 : (words1.drop 24).all (fun c => isCode c || c.before args0 about1) = true := by decide +kernel
theorem w_tables : (allAtoms (Jvm.Cond.code x code maxLocals ret :: tables_1)).before args0 about1 = true := by
  rw [allAtoms_all]
  show words1.all (fun c => c.before args0 about1) = true
  refine all_split ?_ w_codes
  rw [← List.take_append_drop 24 words1, List.all_append, w_t1, w_t2]
  rfl
set_option maxRecDepth 65536 in
theorem w_case : (Jvm.Cond.and given_1 narrow_1).before args0 about1 = true := by decide +kernel
theorem w_applies : (headSpec (Jvm.Cond.code x code maxLocals ret :: tables_1) room_1).applies x e0.platform about1 = true :=
  (Spec.applies_iff w_frames).mpr ⟨w_running, w_runnable, w_alone, w_named, w_hears, w_ripe, w_room, w_tables⟩
theorem atStart : AtStart classFile x code maxLocals ret World_1 tables_1 room_1 Calls_1 rest_1 Pre_1 launch0 p0 e0 about1 theMethod args0 below0 :=
  ⟨lists_1, trivial, launch0.admits_env _ _ _, launch0.least_env, fairChoices_fair.cas, fairChoices_fair.clock, w_frames, w_args, w_heap, w_applies, trivial, trivial, w_case⟩
end start1
theorem witness_1 : WitnessClaimed_1 := ⟨start1.p0, start1.e0, start1.about1, start1.theMethod, start1.args0, start1.below0, start1.atStart⟩
end Jvm.Pilot.@@N@@
