import JvmDerived
import JvmDerived.Pilot.@@N@@Statement
import JvmDerived.Pilot.@@N@@Code
set_option linter.unusedVariables false
set_option linter.unusedSimpArgs false
namespace Jvm.Pilot.@@N@@
open Jvm Jvm.ClassFile Sem Op Lib Jvm.Free Jvm.Stand Jvm.LawKit Jvm.RoadKit Bundle Jvm.Pilot.@@N@@.Jvm.D

section OwnKit
/-- from here the run comes to a return that says Q -/
def OFin (n0 : Nat) (p : Program) (e : Env) (below : List Frame) (s : State) (Q : Option Value → Heap → Prop) (ck sk : Nat) (T : State) (g : JFrame) : Prop :=
  ∃ s₂ o, Steps p.tables e below (T.setTop g) s₂ ∧ s₂.status = .running ∧ Ended s₂ below o ∧ ∃ v L, o = .returned v ∧ (Fr n0 L ∧ n0 ≤ s₂.heap.size ∧ Q v s₂.heap) ∧ FrameEnd s o s₂ L ck sk
/-- where the walk of a body stands, with all that is known of the body -/
def OG (l : Launch) (Z : State) (y : MethodName) (bytes : ByteArray) (maxl : Nat) (ret : Option FieldType) (n0 : Nat) (p : Program) (e : Env) (R : Room) (s : State) (m : MethodId) (args : Array Value) (below : List Frame) (meth : Method) (c : Code) (T : State) (h : Heap) (cells slots : Nat) : Prop :=
  p.tables.exec = Jvm.exec ∧ c.code = bytes ∧ c.maxLocals = maxl ∧ s.vm.findClass y.cls = some m.cls ∧ meth.name = y.name ∧ meth.sig.returnType = ret ∧ meth.locks = false ∧ Z.Warmed39 s.vm ∧ T.heap = h ∧ n0 ≤ h.size ∧ ∃ locs, Stand p l e R s m args below meth c T locs cells slots ∧ Fr n0 locs
/-- a body's contract -/
def OMet (l : Launch) (Z : State) (y : MethodName) (bytes : ByteArray) (maxl : Nat) (ret : Option FieldType) (rm : Room) (as' : Array Value) (h0 : Heap) (n0 : Nat) (ck sk : Nat) (Q : Option Value → Heap → Prop) : Prop :=
  ∀ ws : List Jvm.Cond, MetFree l y (head1 (Jvm.Cond.code y bytes maxl ret :: ws) rm) (fun a U => a = as' ∧ Z.Warmed39 U.vm ∧ U.heap = h0) (fun _ _ _ _ _ => True) (fun _ U o U' => ∃ v L, o = .returned v ∧ (Fr n0 L ∧ n0 ≤ U'.heap.size ∧ Q v U'.heap) ∧ FrameEnd U o U' L ck sk)
variable {l : Launch} {Z : State} {y : MethodName} {bytes : ByteArray} {maxl : Nat} {ret : Option FieldType} {n0 : Nat} {p : Program} {e : Env} {R : Room} {s : State} {m : MethodId} {args : Array Value} {below : List Frame} {meth : Method} {c : Code} {T : State} {h : Heap} {cells slots ck sk : Nat} {Q : Option Value → Heap → Prop} {pc pc' : Nat} {Ls : Array Slot} {rest : List Value} {a0 : Array Value}
theorem o_step {T' : State} {g g' : JFrame} (st : ∀ t, Steps p.tables e below (T'.setTop g') t → Steps p.tables e below (T.setTop g) t) (k : OFin n0 p e below s Q ck sk T' g') : OFin n0 p e below s Q ck sk T g := by
  obtain ⟨s₂, o, h1, r⟩ := k
  exact ⟨s₂, o, st _ h1, r⟩
theorem o_body {rm : Room} {as' : Array Value} {h0 : Heap} (hy : plainFor y = true) (hz : n0 ≤ h0.size) (hent : ∀ m, entryFrame m as' maxl = mkF m 0 Ls [])
    (body : ∀ (p : Program) (e : Env) (s : State) (m : MethodId) (below : List Frame) (meth : Method) (c : Code) (s₁ : State), OG l Z y bytes maxl ret n0 p e rm s m as' below meth c s₁ h0 0 0 → OFin n0 p e below s Q ck sk s₁ (mkF m 0 Ls [])) : OMet l Z y bytes maxl ret rm as' h0 n0 ck sk Q := by
  intro ws
  refine MetFree.of_bodySF hy hisR ?_
  intro p e s m args below meth c s₁ Bd hml0 hP hK
  obtain ⟨ha, hZ, hh⟩ := hP
  subst ha
  have e0 : s₁.heap = h0 := by rw [← hh, Bd.state]; rfl
  have k := body p e s m below meth c s₁ ⟨Bd.exec, Bd.bytes, hml0, findClass_of_methodNamed Bd.named, (name_of_methodNamed Bd.named Bd.method).1, Bd.returns, Bd.notSynchronized, hZ, e0, hz, [], Stand.of_body Bd, Fr.nil n0⟩
  rw [← hent m] at k
  exact k
theorem OG.sz (G : OG l Z y bytes maxl ret n0 p e R s m args below meth c T h cells slots) : n0 ≤ h.size := G.2.2.2.2.2.2.2.2.2.1
theorem OG.eh (G : OG l Z y bytes maxl ret n0 p e R s m args below meth c T h cells slots) : T.heap = h := G.2.2.2.2.2.2.2.2.1
theorem OG.wm (G : OG l Z y bytes maxl ret n0 p e R s m args below meth c T h cells slots) : Z.Warmed39 s.vm := G.2.2.2.2.2.2.2.1
theorem o_iloadN (G : OG l Z y bytes maxl ret n0 p e R s m args below meth c T h cells slots) {k0 : Fin 4} {v : Int32} (hd : decode bytes pc = .ok (.iload_n k0, 1)) (hp : pc + 1 = pc') (hl : Ls[k0.val]? = some (.val (.int v))) (k : OFin n0 p e below s Q ck sk T (mkF m pc' Ls (.int v :: rest))) : OFin n0 p e below s Q ck sk T (mkF m pc Ls rest) := by
  subst hp
  obtain ⟨hx, hby, -, -, -, -, -, -, -, -, locs, X, -⟩ := G
  exact o_step (fun _ hr => XS.iloadN X.here hx rfl (hb hby hd) hl hr) k
theorem o_iload (G : OG l Z y bytes maxl ret n0 p e R s m args below meth c T h cells slots) {k0 : Nat} {v : Int32} (hd : decode bytes pc = .ok (.iload k0, 2)) (hp : pc + 2 = pc') (hl : Ls[k0]? = some (.val (.int v))) (k : OFin n0 p e below s Q ck sk T (mkF m pc' Ls (.int v :: rest))) : OFin n0 p e below s Q ck sk T (mkF m pc Ls rest) := by
  subst hp
  obtain ⟨hx, hby, -, -, -, -, -, -, -, -, locs, X, -⟩ := G
  exact o_step (fun _ hr => XS.iload X.here hx rfl (hb hby hd) hl hr) k
theorem o_aloadN (G : OG l Z y bytes maxl ret n0 p e R s m args below meth c T h cells slots) {k0 : Fin 4} {v : Value} (hd : decode bytes pc = .ok (.aload_n k0, 1)) (hp : pc + 1 = pc') (hl : Ls[k0.val]? = some (.val v)) (hv : v.isRef = true) (k : OFin n0 p e below s Q ck sk T (mkF m pc' Ls (v :: rest))) : OFin n0 p e below s Q ck sk T (mkF m pc Ls rest) := by
  subst hp
  obtain ⟨hx, hby, -, -, -, -, -, -, -, -, locs, X, -⟩ := G
  exact o_step (fun _ hr => XS.aloadN X.here hx rfl (hb hby hd) hl hv hr) k
theorem o_aload (G : OG l Z y bytes maxl ret n0 p e R s m args below meth c T h cells slots) {k0 : Nat} {v : Value} (hd : decode bytes pc = .ok (.aload k0, 2)) (hp : pc + 2 = pc') (hl : Ls[k0]? = some (.val v)) (hv : v.isRef = true) (k : OFin n0 p e below s Q ck sk T (mkF m pc' Ls (v :: rest))) : OFin n0 p e below s Q ck sk T (mkF m pc Ls rest) := by
  subst hp
  obtain ⟨hx, hby, -, -, -, -, -, -, -, -, locs, X, -⟩ := G
  exact o_step (fun _ hr => XS.aload X.here hx rfl (hb hby hd) hl hv hr) k
theorem o_istoreN (G : OG l Z y bytes maxl ret n0 p e R s m args below meth c T h cells slots) {k0 : Fin 4} {v : Int32} {l' : Array Slot} (hd : decode bytes pc = .ok (.istore_n k0, 1)) (hp : pc + 1 = pc') (hl : storeLocals Ls k0.val (.int v) = some l') (k : OFin n0 p e below s Q ck sk T (mkF m pc' l' rest)) : OFin n0 p e below s Q ck sk T (mkF m pc Ls (.int v :: rest)) := by
  subst hp
  obtain ⟨hx, hby, -, -, -, -, -, -, -, -, locs, X, -⟩ := G
  exact o_step (fun _ hr => XS.istoreN X.here hx rfl (hb hby hd) rfl hl hr) k
theorem o_istore (G : OG l Z y bytes maxl ret n0 p e R s m args below meth c T h cells slots) {k0 : Nat} {v : Int32} {l' : Array Slot} (hd : decode bytes pc = .ok (.istore k0, 2)) (hp : pc + 2 = pc') (hl : storeLocals Ls k0 (.int v) = some l') (k : OFin n0 p e below s Q ck sk T (mkF m pc' l' rest)) : OFin n0 p e below s Q ck sk T (mkF m pc Ls (.int v :: rest)) := by
  subst hp
  obtain ⟨hx, hby, -, -, -, -, -, -, -, -, locs, X, -⟩ := G
  exact o_step (fun _ hr => XS.istore X.here hx rfl (hb hby hd) rfl hl hr) k
theorem o_astoreN (G : OG l Z y bytes maxl ret n0 p e R s m args below meth c T h cells slots) {k0 : Fin 4} {v : Value} {l' : Array Slot} (hd : decode bytes pc = .ok (.astore_n k0, 1)) (hp : pc + 1 = pc') (hv : v.isRef = true) (hl : storeLocals Ls k0.val v = some l') (k : OFin n0 p e below s Q ck sk T (mkF m pc' l' rest)) : OFin n0 p e below s Q ck sk T (mkF m pc Ls (v :: rest)) := by
  subst hp
  obtain ⟨hx, hby, -, -, -, -, -, -, -, -, locs, X, -⟩ := G
  exact o_step (fun _ hr => XS.astoreN X.here hx rfl (hb hby hd) rfl hv hl hr) k
theorem o_astore (G : OG l Z y bytes maxl ret n0 p e R s m args below meth c T h cells slots) {k0 : Nat} {v : Value} {l' : Array Slot} (hd : decode bytes pc = .ok (.astore k0, 2)) (hp : pc + 2 = pc') (hv : v.isRef = true) (hl : storeLocals Ls k0 v = some l') (k : OFin n0 p e below s Q ck sk T (mkF m pc' l' rest)) : OFin n0 p e below s Q ck sk T (mkF m pc Ls (v :: rest)) := by
  subst hp
  obtain ⟨hx, hby, -, -, -, -, -, -, -, -, locs, X, -⟩ := G
  exact o_step (fun _ hr => XS.astore X.here hx rfl (hb hby hd) rfl hv hl hr) k
theorem o_iconst (G : OG l Z y bytes maxl ret n0 p e R s m args below meth c T h cells slots) {i : Int} {v : Int32} (hd : decode bytes pc = .ok (.iconst i, 1)) (hp : pc + 1 = pc') (hv : Int32.ofInt i = v) (k : OFin n0 p e below s Q ck sk T (mkF m pc' Ls (.int v :: rest))) : OFin n0 p e below s Q ck sk T (mkF m pc Ls rest) := by
  subst hp
  subst hv
  obtain ⟨hx, hby, -, -, -, -, -, -, -, -, locs, X, -⟩ := G
  exact o_step (fun _ hr => XS.iconst X.here hx rfl (hb hby hd) hr) k
theorem o_isub (G : OG l Z y bytes maxl ret n0 p e R s m args below meth c T h cells slots) {u w v : Int32} (hd : decode bytes pc = .ok (.isub, 1)) (hp : pc + 1 = pc') (hv : u - w = v) (k : OFin n0 p e below s Q ck sk T (mkF m pc' Ls (.int v :: rest))) : OFin n0 p e below s Q ck sk T (mkF m pc Ls (.int w :: .int u :: rest)) := by
  subst hp
  subst hv
  obtain ⟨hx, hby, -, -, -, -, -, -, -, -, locs, X, -⟩ := G
  exact o_step (fun _ hr => XS.isub X.here hx rfl (hb hby hd) rfl hr) k
theorem o_iand (G : OG l Z y bytes maxl ret n0 p e R s m args below meth c T h cells slots) {u w v : Int32} (hd : decode bytes pc = .ok (.iand, 1)) (hp : pc + 1 = pc') (hv : u &&& w = v) (k : OFin n0 p e below s Q ck sk T (mkF m pc' Ls (.int v :: rest))) : OFin n0 p e below s Q ck sk T (mkF m pc Ls (.int w :: .int u :: rest)) := by
  subst hp
  subst hv
  obtain ⟨hx, hby, -, -, -, -, -, -, -, -, locs, X, -⟩ := G
  exact o_step (fun _ hr => XS.iand X.here hx rfl (hb hby hd) rfl hr) k
theorem o_goto (G : OG l Z y bytes maxl ret n0 p e R s m args below meth c T h cells slots) {o : Int} (hd : decode bytes pc = .ok (.goto o, 3)) (ho : 0 ≤ (pc : Int) + o) (hp : ((pc : Int) + o).toNat = pc') (k : OFin n0 p e below s Q ck sk T (mkF m pc' Ls rest)) : OFin n0 p e below s Q ck sk T (mkF m pc Ls rest) := by
  obtain ⟨hx, hby, -, -, -, -, -, -, -, -, locs, X, -⟩ := G
  exact o_step (fun _ hr => XS.goto X.here hx rfl (pc0 := pc) (pc' := pc') rfl (hb hby hd) ho hp hr) k
theorem o_if_lt (G : OG l Z y bytes maxl ret n0 p e R s m args below meth c T h cells slots) {o : Int} {pcT : Nat} {u : Int32} (hd : decode bytes pc = .ok (.ifCond .lt o, 3)) (ho : 0 ≤ (pc : Int) + o) (hpT : ((pc : Int) + o).toNat = pcT) (hp : pc + 3 = pc') (kT : u < (0 : Int32) → OFin n0 p e below s Q ck sk T (mkF m pcT Ls rest)) (kF : ¬ u < (0 : Int32) → OFin n0 p e below s Q ck sk T (mkF m pc' Ls rest)) : OFin n0 p e below s Q ck sk T (mkF m pc Ls (.int u :: rest)) := by
  subst hp
  obtain ⟨hx, hby, -, -, -, -, -, -, -, -, locs, X, -⟩ := G
  by_cases q : u < (0 : Int32)
  · exact o_step (fun _ hr => XS.ifYes X.here hx rfl (pc0 := pc) (pc' := pcT) rfl (hb hby hd) rfl ((if0 _ _).trans (tlt q).1) ho hpT hr) (kT q)
  · exact o_step (fun _ hr => XS.ifNo X.here hx rfl (hb hby hd) rfl ((if0 _ _).trans (flt q).1) hr) (kF q)
theorem o_if_gt (G : OG l Z y bytes maxl ret n0 p e R s m args below meth c T h cells slots) {o : Int} {pcT : Nat} {u : Int32} (hd : decode bytes pc = .ok (.ifCond .gt o, 3)) (ho : 0 ≤ (pc : Int) + o) (hpT : ((pc : Int) + o).toNat = pcT) (hp : pc + 3 = pc') (kT : (0 : Int32) < u → OFin n0 p e below s Q ck sk T (mkF m pcT Ls rest)) (kF : ¬ (0 : Int32) < u → OFin n0 p e below s Q ck sk T (mkF m pc' Ls rest)) : OFin n0 p e below s Q ck sk T (mkF m pc Ls (.int u :: rest)) := by
  subst hp
  obtain ⟨hx, hby, -, -, -, -, -, -, -, -, locs, X, -⟩ := G
  by_cases q : (0 : Int32) < u
  · exact o_step (fun _ hr => XS.ifYes X.here hx rfl (pc0 := pc) (pc' := pcT) rfl (hb hby hd) rfl ((if0 _ _).trans (tlt q).2.2.1) ho hpT hr) (kT q)
  · exact o_step (fun _ hr => XS.ifNo X.here hx rfl (hb hby hd) rfl ((if0 _ _).trans (flt q).2.2.1) hr) (kF q)
theorem o_icmp_eq (G : OG l Z y bytes maxl ret n0 p e R s m args below meth c T h cells slots) {o : Int} {pcT : Nat} {u w : Int32} (hd : decode bytes pc = .ok (.if_icmp .eq o, 3)) (ho : 0 ≤ (pc : Int) + o) (hpT : ((pc : Int) + o).toNat = pcT) (hp : pc + 3 = pc') (kT : u = w → OFin n0 p e below s Q ck sk T (mkF m pcT Ls rest)) (kF : ¬ u = w → OFin n0 p e below s Q ck sk T (mkF m pc' Ls rest)) : OFin n0 p e below s Q ck sk T (mkF m pc Ls (.int w :: .int u :: rest)) := by
  subst hp
  obtain ⟨hx, hby, -, -, -, -, -, -, -, -, locs, X, -⟩ := G
  by_cases q : u = w
  · exact o_step (fun _ hr => XS.icmpYes X.here hx rfl (pc0 := pc) (pc' := pcT) rfl (hb hby hd) rfl (teq q).1 ho hpT hr) (kT q)
  · exact o_step (fun _ hr => XS.icmpNo X.here hx rfl (hb hby hd) rfl (feq q).1 hr) (kF q)
theorem o_if_eq (G : OG l Z y bytes maxl ret n0 p e R s m args below meth c T h cells slots) {o : Int} {pcT : Nat} {u : Int32} (hd : decode bytes pc = .ok (.ifCond .eq o, 3)) (ho : 0 ≤ (pc : Int) + o) (hpT : ((pc : Int) + o).toNat = pcT) (hp : pc + 3 = pc') (kT : u = (0 : Int32) → OFin n0 p e below s Q ck sk T (mkF m pcT Ls rest)) (kF : ¬ u = (0 : Int32) → OFin n0 p e below s Q ck sk T (mkF m pc' Ls rest)) : OFin n0 p e below s Q ck sk T (mkF m pc Ls (.int u :: rest)) := by
  subst hp
  obtain ⟨hx, hby, -, -, -, -, -, -, -, -, locs, X, -⟩ := G
  by_cases q : u = (0 : Int32)
  · exact o_step (fun _ hr => XS.ifYes X.here hx rfl (pc0 := pc) (pc' := pcT) rfl (hb hby hd) rfl ((if0 _ _).trans (teq q).1) ho hpT hr) (kT q)
  · exact o_step (fun _ hr => XS.ifNo X.here hx rfl (hb hby hd) rfl ((if0 _ _).trans (feq q).1) hr) (kF q)
theorem o_icmp_ne (G : OG l Z y bytes maxl ret n0 p e R s m args below meth c T h cells slots) {o : Int} {pcT : Nat} {u w : Int32} (hd : decode bytes pc = .ok (.if_icmp .ne o, 3)) (ho : 0 ≤ (pc : Int) + o) (hpT : ((pc : Int) + o).toNat = pcT) (hp : pc + 3 = pc') (kT : ¬ u = w → OFin n0 p e below s Q ck sk T (mkF m pcT Ls rest)) (kF : u = w → OFin n0 p e below s Q ck sk T (mkF m pc' Ls rest)) : OFin n0 p e below s Q ck sk T (mkF m pc Ls (.int w :: .int u :: rest)) := by
  subst hp
  obtain ⟨hx, hby, -, -, -, -, -, -, -, -, locs, X, -⟩ := G
  by_cases q : ¬ u = w
  · exact o_step (fun _ hr => XS.icmpYes X.here hx rfl (pc0 := pc) (pc' := pcT) rfl (hb hby hd) rfl (feq q).2 ho hpT hr) (kT q)
  · have q := Decidable.not_not.mp q
    exact o_step (fun _ hr => XS.icmpNo X.here hx rfl (hb hby hd) rfl (teq q).2 hr) (kF q)
theorem o_if_ne (G : OG l Z y bytes maxl ret n0 p e R s m args below meth c T h cells slots) {o : Int} {pcT : Nat} {u : Int32} (hd : decode bytes pc = .ok (.ifCond .ne o, 3)) (ho : 0 ≤ (pc : Int) + o) (hpT : ((pc : Int) + o).toNat = pcT) (hp : pc + 3 = pc') (kT : ¬ u = (0 : Int32) → OFin n0 p e below s Q ck sk T (mkF m pcT Ls rest)) (kF : u = (0 : Int32) → OFin n0 p e below s Q ck sk T (mkF m pc' Ls rest)) : OFin n0 p e below s Q ck sk T (mkF m pc Ls (.int u :: rest)) := by
  subst hp
  obtain ⟨hx, hby, -, -, -, -, -, -, -, -, locs, X, -⟩ := G
  by_cases q : ¬ u = (0 : Int32)
  · exact o_step (fun _ hr => XS.ifYes X.here hx rfl (pc0 := pc) (pc' := pcT) rfl (hb hby hd) rfl ((if0 _ _).trans (feq q).2) ho hpT hr) (kT q)
  · have q := Decidable.not_not.mp q
    exact o_step (fun _ hr => XS.ifNo X.here hx rfl (hb hby hd) rfl ((if0 _ _).trans (teq q).2) hr) (kF q)
theorem o_acmp_eq (G : OG l Z y bytes maxl ret n0 p e R s m args below meth c T h cells slots) {o : Int} {pcT : Nat} {u w : Value} (hu : u.isRef = true) (hw : w.isRef = true) (hd : decode bytes pc = .ok (.if_acmp .eq o, 3)) (ho : 0 ≤ (pc : Int) + o) (hpT : ((pc : Int) + o).toNat = pcT) (hp : pc + 3 = pc') (kT : u = w → OFin n0 p e below s Q ck sk T (mkF m pcT Ls rest)) (kF : ¬ u = w → OFin n0 p e below s Q ck sk T (mkF m pc' Ls rest)) : OFin n0 p e below s Q ck sk T (mkF m pc Ls (w :: u :: rest)) := by
  subst hp
  obtain ⟨hx, hby, -, -, -, -, -, -, -, -, locs, X, -⟩ := G
  by_cases q : u = w
  · exact o_step (fun _ hr => Jvm.RoadKit.acmp (g := (mkF m pc Ls (w :: u :: rest))) X hx rfl hu hw (pc0 := pc) (pc' := pcT) (same := true) rfl (hb hby hd) rfl (decide_eq_true q) ho (by simp [acV, hpT]) hr) (kT q)
  · exact o_step (fun _ hr => Jvm.RoadKit.acmp (g := (mkF m pc Ls (w :: u :: rest))) X hx rfl hu hw (pc0 := pc) (pc' := pc + 3) (same := false) rfl (hb hby hd) rfl (decide_eq_false q) ho (by simp [acV]) hr) (kF q)
theorem o_ireturn {v : Int32} (G : OG l Z y bytes maxl (some .int) n0 p e R s m args below meth c T h cells slots)  (hd : decode bytes pc = .ok (.ireturn, 1)) (hq : Q (some (.int v)) h) (hc : cells ≤ ck) (hs : slots ≤ sk) : OFin n0 p e below s Q ck sk T (mkF m pc Ls (.int v :: rest)) := by
  obtain ⟨hx, hby, -, -, -, hret, hlk, -, eT, hz, locs, X, N⟩ := G
  obtain ⟨fs, hr, hrun, hended, hW, hsame⟩ := X.leave (v := some (.int v)) (fun h => by rw [hret] at h; cases h) hlk
  refine ⟨_, _, retOut X hx hret rfl (Or.inl ⟨rfl, Or.inl rfl, _, rfl⟩) (hb hby hd) hr, hrun, hended, _, _, rfl, ⟨N, ?_, ?_⟩, ⟨_, rfl⟩, hW, hsame.mono hc hs⟩
  · show n0 ≤ T.heap.size
    rw [eT]; exact hz
  · show Q _ T.heap
    rw [eT]; exact hq
theorem o_areturn {v : Value} {t : FieldType} (G : OG l Z y bytes maxl (some t) n0 p e R s m args below meth c T h cells slots) (hn : narrow t v = v) (ht : t.isReference = true) (hv : v.isRef = true) (hd : decode bytes pc = .ok (.areturn, 1)) (hq : Q (some v) h) (hc : cells ≤ ck) (hs : slots ≤ sk) : OFin n0 p e below s Q ck sk T (mkF m pc Ls (v :: rest)) := by
  obtain ⟨hx, hby, -, -, -, hret, hlk, -, eT, hz, locs, X, N⟩ := G
  obtain ⟨fs, hr, hrun, hended, hW, hsame⟩ := X.leave (v := some v) (fun h => by rw [hret] at h; cases h) hlk
  refine ⟨_, _, retOut X hx hret hn (Or.inr (Or.inr (Or.inr (Or.inr ⟨rfl, ht, hv⟩)))) (hb hby hd) hr, hrun, hended, _, _, rfl, ⟨N, ?_, ?_⟩, ⟨_, rfl⟩, hW, hsame.mono hc hs⟩
  · show n0 ≤ T.heap.size
    rw [eT]; exact hz
  · show Q _ T.heap
    rw [eT]; exact hq
theorem o_nreturn {v : Int32} {t : FieldType} (G : OG l Z y bytes maxl (some t) n0 p e R s m args below meth c T h cells slots) (ht : t = .boolean ∨ t = .byte ∨ t = .char ∨ t = .short) (hd : decode bytes pc = .ok (.ireturn, 1)) (hq : Q (some (.int (nar t v))) h) (hc : cells ≤ ck) (hs : slots ≤ sk) : OFin n0 p e below s Q ck sk T (mkF m pc Ls (.int v :: rest)) := by
  obtain ⟨hx, hby, -, -, -, hret, hlk, -, eT, hz, locs, X, N⟩ := G
  obtain ⟨fs, hr, hrun, hended, hW, hsame⟩ := X.leave (v := some (.int (nar t v))) (fun h => by rw [hret] at h; cases h) hlk
  refine ⟨_, _, retN X hx hret ht (hb hby hd) hr, hrun, hended, _, _, rfl, ⟨N, ?_, ?_⟩, ⟨_, rfl⟩, hW, hsame.mono hc hs⟩
  · show n0 ≤ T.heap.size
    rw [eT]; exact hz
  · show Q _ T.heap
    rw [eT]; exact hq
theorem o_callS (G : OG l Z y bytes maxl ret n0 p e R s m args below meth c T h cells slots) {z : MethodName} {bz : ByteArray} {mz : Nat} {rz : Option FieldType} {rm : Room} {Q' : Option Value → Heap → Prop} {index W : Nat} {argsL st : List Value} (w1 : (Jvm.Cond.methodLink y.cls index z).before a0 Z = true) (w2 : (Jvm.Cond.static z).before a0 Z = true) (hd : decode bytes pc = .ok (.invokestatic index, 3))
    (hy : z.cls ≠ "java/lang/invoke/MethodHandle" ∧ z.cls ≠ "java/lang/invoke/VarHandle") (w3 : (Jvm.Cond.initialized z.cls).before a0 Z = true) (w4 : (Jvm.Cond.code z bz mz rz).before a0 Z = true)
    (hM : OMet l Z z bz mz rz rm argsL.toArray h n0 rm.cells rm.slots Q') (hfr : rm.frames + 1 ≤ R.frames) (hlo : W + (mz + 11) + rm.locals ≤ R.locals) (hsz : Ls.size = maxl)
    (hlen : ∀ sig, parseMethodDescriptor z.desc = some sig → argsL.length = sig.parameters.length) (hst : st = argsL.reverse ++ rest) (hW : (rest.map fun v => v.category).sum ≤ W) (hp : pc + 3 = pc') (hc : cells + rm.cells ≤ R.cells) (hs : slots + rm.slots ≤ R.slots)
    (k : ∀ (v : Option Value) (T' : State) (h' : Heap), OG l Z y bytes maxl ret n0 p e R s m args below meth c T' h' (cells + rm.cells) (slots + rm.slots) → Q' v h' → OFin n0 p e below s Q ck sk T' (mkF m pc' Ls (v.toList ++ rest))) : OFin n0 p e below s Q ck sk T (mkF m pc Ls st) := by
  subst hp hst
  obtain ⟨hx, hby, hml, hown, hnm, hret, hlk, hZ, eT, hz, locs, X, N⟩ := G
  obtain ⟨v, vm1, ⟨T', L', k', n'⟩, -, X', ⟨L, ⟨N', z', hQ⟩, l1, y1, z1⟩, st0⟩ := Jvm.LawKit.callS X hx (y := z) hown (mvT hZ w1) (mvT hZ w2) (mvT hZ w3) (mvT hZ w4) hy (backOf (W := W) (Q := fun v h L => Fr n0 L ∧ n0 ≤ h.size ∧ Q' v h) (hM []) hZ w4 w3 hfr hlo) (g := (mkF m pc Ls (argsL.reverse ++ rest))) rfl (by show Ls.size = _; rw [hml]; exact hsz) (argsL := argsL) (rest := rest) hlen rfl (by show 2 * 0 + _ ≤ _; omega) (hb hby hd) (fun _ _ => ⟨rfl, eT, hc, hs⟩)
  dsimp only [Pt.U, Pt.locs, Pt.cells, Pt.slots] at X' l1 y1 z1 st0 hQ N' z'
  subst l1 y1 z1
  exact o_step st0 (k v T' T'.heap ⟨hx, hby, hml, hown, hnm, hret, hlk, hZ, rfl, z', _, X', Fr.app N N'⟩ hQ)
theorem o_callV (G : OG l Z y bytes maxl ret n0 p e R s m args below meth c T h cells slots) {z : MethodName} {bz : ByteArray} {mz : Nat} {rz : Option FieldType} {rm : Room} {Q' : Option Value → Heap → Prop} {index W : Nat} {argsL st : List Value} {a : Addr} {C : String} (E : Exa Z h a C) (w1 : (Jvm.Cond.methodLink y.cls index z).before a0 Z = true) (w2 : (Jvm.Cond.instanceMethod z).before a0 Z = true) (w5 : (Jvm.Cond.declares z).before a0 Z = true) (w6 : (Jvm.Cond.selects C z z).before a0 Z = true) (hd : decode bytes pc = .ok (.invokevirtual index, 3))
    (hy : z.cls ≠ "java/lang/invoke/MethodHandle" ∧ z.cls ≠ "java/lang/invoke/VarHandle") (w3 : (Jvm.Cond.initialized z.cls).before a0 Z = true) (w4 : (Jvm.Cond.code z bz mz rz).before a0 Z = true)
    (hM : OMet l Z z bz mz rz rm (.ref a :: argsL).toArray h n0 rm.cells rm.slots Q') (hfr : rm.frames + 1 ≤ R.frames) (hlo : W + (mz + 11) + rm.locals ≤ R.locals) (hsz : Ls.size = maxl)
    (hlen : ∀ sig, parseMethodDescriptor z.desc = some sig → argsL.length = sig.parameters.length) (hst : st = argsL.reverse ++ .ref a :: rest) (hW : (rest.map fun v => v.category).sum ≤ W) (hp : pc + 3 = pc') (hc : cells + rm.cells ≤ R.cells) (hs : slots + rm.slots ≤ R.slots)
    (k : ∀ (v : Option Value) (T' : State) (h' : Heap), OG l Z y bytes maxl ret n0 p e R s m args below meth c T' h' (cells + rm.cells) (slots + rm.slots) → Q' v h' → OFin n0 p e below s Q ck sk T' (mkF m pc' Ls (v.toList ++ rest))) : OFin n0 p e below s Q ck sk T (mkF m pc Ls st) := by
  subst hp hst
  obtain ⟨hx, hby, hml, hown, hnm, hret, hlk, hZ, eT, hz, locs, X, N⟩ := G
  obtain ⟨cq, kq, qa, qb, qc⟩ := isOf hZ eT E
  obtain ⟨v, vm1, ⟨T', L', k', n'⟩, -, X', ⟨L, ⟨N', z', hQ⟩, l1, y1, z1⟩, st0⟩ := X.virtualBack hx (y := z) (z := z) hown (mvT hZ w1) (mvT hZ w5) (notFace_of_selects (args := #[]) (mvT hZ w6)) (mvT hZ w6) (mvT hZ w2) hy (backOf (W := W) (Q := fun v h L => Fr n0 L ∧ n0 ≤ h.size ∧ Q' v h) (hM []) hZ w4 w3 hfr hlo) qa qc (g := (mkF m pc Ls (argsL.reverse ++ .ref a :: rest))) rfl (by show Ls.size = _; rw [hml]; exact hsz) (Steps.refl _) (argsL := argsL) (rest := rest) hlen rfl (by show 2 * 0 + _ ≤ _; omega) (hb hby hd) (fun _ _ => ⟨rfl, eT, hc, hs⟩)
  dsimp only [Pt.U, Pt.locs, Pt.cells, Pt.slots] at X' l1 y1 z1 st0 hQ N' z'
  subst l1 y1 z1
  exact o_step (fun _ hr => st0.trans hr) (k v T' T'.heap ⟨hx, hby, hml, hown, hnm, hret, hlk, hZ, rfl, z', _, X', Fr.app N N'⟩ hQ)
theorem o_callVU (G : OG l Z y bytes maxl ret n0 p e R s m args below meth c T h cells slots) {z : MethodName} {bz : ByteArray} {mz : Nat} {rz : Option FieldType} {rm : Room} {Q' : Option Value → Heap → Prop} {index W : Nat} {argsL st : List Value} {a : Addr} {C xc : String} (E : Exa Z h a C) (w1 : (Jvm.Cond.methodLink y.cls index ⟨xc, z.name, z.desc⟩).before a0 Z = true) (w2 : (Jvm.Cond.instanceMethod z).before a0 Z = true) (w5 : (Jvm.Cond.declares z).before a0 Z = true) (w6 : (Jvm.Cond.selects C ⟨xc, z.name, z.desc⟩ z).before a0 Z = true) (w7 : (Jvm.Cond.sameMethod xc z.cls z.name z.desc).before a0 Z = true) (hd : decode bytes pc = .ok (.invokevirtual index, 3))
    (hy : z.cls ≠ "java/lang/invoke/MethodHandle" ∧ z.cls ≠ "java/lang/invoke/VarHandle") (w3 : (Jvm.Cond.initialized z.cls).before a0 Z = true) (w4 : (Jvm.Cond.code z bz mz rz).before a0 Z = true)
    (hM : OMet l Z z bz mz rz rm (.ref a :: argsL).toArray h n0 rm.cells rm.slots Q') (hfr : rm.frames + 1 ≤ R.frames) (hlo : W + (mz + 11) + rm.locals ≤ R.locals) (hsz : Ls.size = maxl)
    (hlen : ∀ sig, parseMethodDescriptor z.desc = some sig → argsL.length = sig.parameters.length) (hst : st = argsL.reverse ++ .ref a :: rest) (hW : (rest.map fun v => v.category).sum ≤ W) (hp : pc + 3 = pc') (hc : cells + rm.cells ≤ R.cells) (hs : slots + rm.slots ≤ R.slots)
    (k : ∀ (v : Option Value) (T' : State) (h' : Heap), OG l Z y bytes maxl ret n0 p e R s m args below meth c T' h' (cells + rm.cells) (slots + rm.slots) → Q' v h' → OFin n0 p e below s Q ck sk T' (mkF m pc' Ls (v.toList ++ rest))) : OFin n0 p e below s Q ck sk T (mkF m pc Ls st) := by
  subst hp hst
  obtain ⟨hx, hby, hml, hown, hnm, hret, hlk, hZ, eT, hz, locs, X, N⟩ := G
  obtain ⟨cq, kq, qa, qb, qc⟩ := isOf hZ eT E
  obtain ⟨v, vm1, ⟨T', L', k', n'⟩, -, X', ⟨L, ⟨N', z', hQ⟩, l1, y1, z1⟩, st0⟩ := X.virtualBackUp hx (x := ⟨xc, z.name, z.desc⟩) (y := z) (owner := z.cls) hown (mvT hZ w1) (mvT hZ w7) (mvT hZ w5) hy (mvT hZ w6) (mvT hZ w2) (backOf (W := W) (Q := fun v h L => Fr n0 L ∧ n0 ≤ h.size ∧ Q' v h) (hM []) hZ w4 w3 hfr hlo) qa qc (g := (mkF m pc Ls (argsL.reverse ++ .ref a :: rest))) rfl (by show Ls.size = _; rw [hml]; exact hsz) (Steps.refl _) (argsL := argsL) (rest := rest) hlen rfl (by show 2 * 0 + _ ≤ _; omega) (hb hby hd) (fun _ _ => ⟨rfl, eT, hc, hs⟩)
  dsimp only [Pt.U, Pt.locs, Pt.cells, Pt.slots] at X' l1 y1 z1 st0 hQ N' z'
  subst l1 y1 z1
  exact o_step (fun _ hr => st0.trans hr) (k v T' T'.heap ⟨hx, hby, hml, hown, hnm, hret, hlk, hZ, rfl, z', _, X', Fr.app N N'⟩ hQ)
theorem o_getClass (G : OG l Z y bytes maxl ret n0 p e R s m args below meth c T h cells slots) {C : String} {index W : Nat} {a mir : Addr} (E : Exa Z h a C) (hM : ∃ (c0 : ClassId) (k0 : Class), Z.vm.findClass C = some c0 ∧ Z.vm.classes[c0]? = some k0 ∧ k0.mirror = some mir) (w1 : (Jvm.Cond.methodLink y.cls index Stand.gcN).before a0 Z = true) (w2 : (Jvm.Cond.declares Stand.gcN).before a0 Z = true) (w3 : (Jvm.Cond.selects C Stand.gcN Stand.gcN).before a0 Z = true) (w4 : (Jvm.Cond.instanceMethod Stand.gcN).before a0 Z = true) (w5 : (Jvm.Cond.native Stand.gcN).before a0 Z = true)
    (hd : decode bytes pc = .ok (.invokevirtual index, 3)) (hp : pc + 3 = pc') (hsz : Ls.size = maxl) (hf : 1 ≤ R.frames) (hW : (rest.map fun v => v.category).sum ≤ W) (hl : W + 14 ≤ R.locals)
    (k : ∀ T', OG l Z y bytes maxl ret n0 p e R s m args below meth c T' h cells slots → OFin n0 p e below s Q ck sk T' (mkF m pc' Ls (.ref mir :: rest))) : OFin n0 p e below s Q ck sk T (mkF m pc Ls (.ref a :: rest)) := by
  subst hp
  obtain ⟨hx, hby, hml, hown, hnm, hret, hlk, hZ, eT, hz, locs, X, N⟩ := G
  obtain ⟨cq, kq, qa, qb, qc⟩ := isOf hZ eT E
  obtain ⟨c0, k0, m1, m2, m3⟩ := hM
  obtain ⟨k1, m4, m5⟩ := hZ.alike.2.2 _ _ m2
  have hcc : s.vm.findClass C = some c0 := by rw [hZ.alike.findClass]; exact m1
  cases qa.symm.trans hcc
  have hm' : k1.mirror = some mir := by rw [m5]; exact m3
  have hN : nativeFrameWords "java/lang/Object" "getClass" 1 = 3 := by decide +kernel
  obtain ⟨vm1, X', st⟩ := X.getClassOf hx hown (mvT hZ w1) (mvT hZ w2) (notFace_of_selects (args := #[]) (mvT hZ w3)) (mvT hZ w3) (mvT hZ w4) (mvT hZ w5) hcc qc m4 hm' (g := (mkF m pc Ls (.ref a :: rest))) rfl (by show Ls.size = _; rw [hml]; exact hsz) (rest := rest) rfl (hb hby hd) hf (by rw [hN]; show 2 * 0 + _ + (3 + 11) ≤ _; omega)
  exact o_step st (k _ ⟨hx, hby, hml, hown, hnm, hret, hlk, hZ, eT, hz, _, X', N⟩)
theorem o_getF (G : OG l Z y bytes maxl ret n0 p e R s m args below meth c T h cells slots) {R0 O nm d host : String} {index : Nat} {a : Addr} {v : Value} (w : (Jvm.Cond.fieldLink y.cls index R0 nm d).before a0 Z = true ∨ (Jvm.Cond.fieldLinkNest y.cls index R0 nm d host).before a0 Z = true) (via : Via Z R0 O nm d) (F : Fld Z h a O nm d v) (hd : decode bytes pc = .ok (.getfield index, 3)) (hp : pc + 3 = pc')
    (k : ∀ T', OG l Z y bytes maxl ret n0 p e R s m args below meth c T' h cells slots → OFin n0 p e below s Q ck sk T' (mkF m pc' Ls (v :: rest))) : OFin n0 p e below s Q ck sk T (mkF m pc Ls (.ref a :: rest)) := by
  subst hp
  obtain ⟨hx, hby, hml, hown, hnm, hret, hlk, hZ, eT, hz, locs, X, N⟩ := G
  obtain ⟨T', X', e', st⟩ := getF X hx hZ hown w via eT F (g := (mkF m pc Ls (.ref a :: rest))) rfl rfl (hb hby hd)
  exact o_step st (k T' ⟨hx, hby, hml, hown, hnm, hret, hlk, hZ, e', hz, _, X', N⟩)
theorem o_getS (G : OG l Z y bytes maxl ret n0 p e R s m args below meth c T h cells slots) {R0 O nm d host : String} {index : Nat} {v : Value} (w : (Jvm.Cond.fieldLink y.cls index R0 nm d).before a0 Z = true ∨ (Jvm.Cond.fieldLinkNest y.cls index R0 nm d host).before a0 Z = true) (via : Via Z R0 O nm d) (F : Sta Z h O nm d v) (hd : decode bytes pc = .ok (.getstatic index, 3)) (hp : pc + 3 = pc')
    (k : ∀ T', OG l Z y bytes maxl ret n0 p e R s m args below meth c T' h cells slots → OFin n0 p e below s Q ck sk T' (mkF m pc' Ls (v :: rest))) : OFin n0 p e below s Q ck sk T (mkF m pc Ls rest) := by
  subst hp
  obtain ⟨hx, hby, hml, hown, hnm, hret, hlk, hZ, eT, hz, locs, X, N⟩ := G
  obtain ⟨T', X', e', st⟩ := getS2 X hx hZ hown w via eT F (g := (mkF m pc Ls rest)) rfl (hb hby hd)
  exact o_step st (k T' ⟨hx, hby, hml, hown, hnm, hret, hlk, hZ, e', hz, _, X', N⟩)
/-- an array of n places at a; place j holds f j -/
def OArr (Z : State) (h : Heap) (a : Addr) (ty : FieldType) (n : Nat) (f : Nat → Value) : Prop := ∃ cl : Cell, Arr Z h a cl ty ∧ cl.slots.size = n ∧ ∀ j, j < n → cl.slots[j]? = some (f j)
theorem OArr.lt {a : Addr} {ty : FieldType} {n : Nat} {f : Nat → Value} (A : OArr Z h a ty n f) : a < h.size := by obtain ⟨cl, A, -⟩ := A; exact A.lt
/-- a contract that leaves the heap as it was and returns one value -/
abbrev OVal (h0 : Heap) (r : Value) : Option Value → Heap → Prop := fun v h => v = some r ∧ h0 = h
end OwnKit
theorem pd_0 : parseMethodDescriptor "(Ljava/lang/Enum;)I" = some ⟨[(.object "java/lang/Enum")], some .int⟩ := by decide +kernel
theorem pd_1 : parseMethodDescriptor "(I)Lcom/example/tributary/tributary/Pipeline$Fit;" = some ⟨[.int], some (.object "com/example/tributary/tributary/Pipeline$Fit")⟩ := by decide +kernel
theorem pd_2 : parseMethodDescriptor "()Z" = some ⟨[], some .boolean⟩ := by decide +kernel
theorem pd_3 : parseMethodDescriptor "(Lcom/example/tributary/tributary/Pipeline$Fit;)Lcom/example/tributary/tributary/Pipeline$Fit;" = some ⟨[(.object "com/example/tributary/tributary/Pipeline$Fit")], some (.object "com/example/tributary/tributary/Pipeline$Fit")⟩ := by decide +kernel
def own_F (Z : State) (h : Heap) (c0 c1 c2 c3 mir : Addr) : Prop :=
  (∃ (q : ClassId) (k : Class), Z.vm.findClass "com/example/tributary/tributary/Pipeline$Fit" = some q ∧ Z.vm.classes[q]? = some k ∧ k.mirror = some mir) ∧ (Sta Z h "com/example/tributary/tributary/Pipeline$Fit" "SOURCE" "Lcom/example/tributary/tributary/Pipeline$Fit;" (.ref c0) ∧ Exa Z h c0 "com/example/tributary/tributary/Pipeline$Fit" ∧ Fld Z h c0 "java/lang/Enum" "ordinal" "I" (.int (0 : Int32))) ∧ (Sta Z h "com/example/tributary/tributary/Pipeline$Fit" "ONE_FOR_ONE" "Lcom/example/tributary/tributary/Pipeline$Fit;" (.ref c1) ∧ Exa Z h c1 "com/example/tributary/tributary/Pipeline$Fit" ∧ Fld Z h c1 "java/lang/Enum" "ordinal" "I" (.int (1 : Int32))) ∧ (Sta Z h "com/example/tributary/tributary/Pipeline$Fit" "ONE_FOR_ONE_WATCHED" "Lcom/example/tributary/tributary/Pipeline$Fit;" (.ref c2) ∧ Exa Z h c2 "com/example/tributary/tributary/Pipeline$Fit" ∧ Fld Z h c2 "java/lang/Enum" "ordinal" "I" (.int (2 : Int32))) ∧ (Sta Z h "com/example/tributary/tributary/Pipeline$Fit" "ANY" "Lcom/example/tributary/tributary/Pipeline$Fit;" (.ref c3) ∧ Exa Z h c3 "com/example/tributary/tributary/Pipeline$Fit" ∧ Fld Z h c3 "java/lang/Enum" "ordinal" "I" (.int (3 : Int32)))
theorem own_and3 (x : Int32) : (x &&& (3 : Int32)) = 0 ∨ (x &&& (3 : Int32)) = 1 ∨ (x &&& (3 : Int32)) = 2 ∨ (x &&& (3 : Int32)) = 3 := by
  have h := c_and x 3 (by decide)
  have e : (3 : Int32).toInt = 3 := rfl
  rw [e] at h
  have r : (x &&& (3 : Int32)).toInt = 0 ∨ (x &&& (3 : Int32)).toInt = 1 ∨ (x &&& (3 : Int32)).toInt = 2 ∨ (x &&& (3 : Int32)).toInt = 3 := by omega
  exact r.imp (fun q => Int32.toInt_inj.mp q) (fun r => r.imp (fun q => Int32.toInt_inj.mp q) (fun r => r.imp (fun q => Int32.toInt_inj.mp q) (fun q => Int32.toInt_inj.mp q)))
theorem d1_0 : decode method_2_code 0 = .ok (.iload_n 0, 1) := by decide +kernel
theorem d1_1 : decode method_2_code 1 = .ok (.ifCond .ne 7, 3) := by decide +kernel
theorem d1_4 : decode method_2_code 4 = .ok (.getstatic 7, 3) := by decide +kernel
theorem d1_7 : decode method_2_code 7 = .ok (.areturn, 1) := by decide +kernel
theorem d1_8 : decode method_2_code 8 = .ok (.iload_n 0, 1) := by decide +kernel
theorem d1_9 : decode method_2_code 9 = .ok (.iconst 1, 1) := by decide +kernel
theorem d1_10 : decode method_2_code 10 = .ok (.if_icmp .ne 7, 3) := by decide +kernel
theorem d1_13 : decode method_2_code 13 = .ok (.getstatic 13, 3) := by decide +kernel
theorem d1_16 : decode method_2_code 16 = .ok (.areturn, 1) := by decide +kernel
theorem d1_17 : decode method_2_code 17 = .ok (.iload_n 0, 1) := by decide +kernel
theorem d1_18 : decode method_2_code 18 = .ok (.iconst 2, 1) := by decide +kernel
theorem d1_19 : decode method_2_code 19 = .ok (.if_icmp .ne 7, 3) := by decide +kernel
theorem d1_22 : decode method_2_code 22 = .ok (.getstatic 16, 3) := by decide +kernel
theorem d1_25 : decode method_2_code 25 = .ok (.areturn, 1) := by decide +kernel
theorem d1_26 : decode method_2_code 26 = .ok (.getstatic 19, 3) := by decide +kernel
theorem d1_29 : decode method_2_code 29 = .ok (.areturn, 1) := by decide +kernel
theorem pn_1 : plainName "com/example/tributary/tributary/FitLimitsAtSourcePinLaw" = true := by first | (simp [plainName, overriddenIn]; done) | decide +kernel
theorem ef_1 (m : MethodId) (p0 : Int32) : entryFrame m #[(.int p0)] 1 = mkF m 0 #[.val (.int p0)] [] := by first | (simp [entryFrame, mkF, argsToLocals, Value.category]; done) | rfl
set_option maxRecDepth 65536 in
set_option maxHeartbeats 40000000 in
theorem rm1_0 {l : Launch} {Z : State} {a0 : Array Value} (hw : ∀ d ∈ tables_1, d.before a0 Z = true)  (h0 : Heap) (n0 : Nat) (hz : n0 ≤ h0.size) (c0 c1 c2 c3 mir : Addr) (FF : own_F Z h0 c0 c1 c2 c3 mir) :
    OMet l Z (⟨"com/example/tributary/tributary/FitLimitsAtSourcePinLaw", "pick", "(I)Lcom/example/tributary/tributary/Pipeline$Fit;"⟩ : MethodName) method_2_code 1 (some (.object "com/example/tributary/tributary/Pipeline$Fit")) ({ frames := 0, cells := 0, slots := 0, locals := 0 } : Room) #[(.int (0 : Int32))] h0 n0 ({ frames := 0, cells := 0, slots := 0, locals := 0 } : Room).cells ({ frames := 0, cells := 0, slots := 0, locals := 0 } : Room).slots (OVal h0 (.ref c0)) := by
  refine o_body (plainFor_of_name pn_1) hz (fun m => ef_1 m (0 : Int32)) ?_
  intro p e s m below meth c s₁ G0
  obtain ⟨HM, ⟨S0, E0, F0⟩, ⟨S1, E1, F1⟩, ⟨S2, E2, F2⟩, ⟨S3, E3, F3⟩⟩ := id FF
  refine o_iloadN G0 d1_0 (pc' := 1) rfl rfl ?_
  refine o_if_ne G0 d1_1 (by decide) (pcT := 8) (by decide) (pc' := 4) rfl (fun q => absurd (by decide) q) (fun _ => ?_)
  refine o_getS G0 (host := "") (Or.inl (hw _ (List.mem_of_getElem? (i := 4) rfl))) Via.refl S0 d1_4 (pc' := 7) rfl ?_
  intro T1 G1
  exact o_areturn G1 rfl rfl rfl d1_7 ⟨rfl, rfl⟩ (by decide) (by decide)
set_option maxRecDepth 65536 in
set_option maxHeartbeats 40000000 in
theorem rm1_1 {l : Launch} {Z : State} {a0 : Array Value} (hw : ∀ d ∈ tables_1, d.before a0 Z = true)  (h0 : Heap) (n0 : Nat) (hz : n0 ≤ h0.size) (c0 c1 c2 c3 mir : Addr) (FF : own_F Z h0 c0 c1 c2 c3 mir) :
    OMet l Z (⟨"com/example/tributary/tributary/FitLimitsAtSourcePinLaw", "pick", "(I)Lcom/example/tributary/tributary/Pipeline$Fit;"⟩ : MethodName) method_2_code 1 (some (.object "com/example/tributary/tributary/Pipeline$Fit")) ({ frames := 0, cells := 0, slots := 0, locals := 0 } : Room) #[(.int (1 : Int32))] h0 n0 ({ frames := 0, cells := 0, slots := 0, locals := 0 } : Room).cells ({ frames := 0, cells := 0, slots := 0, locals := 0 } : Room).slots (OVal h0 (.ref c1)) := by
  refine o_body (plainFor_of_name pn_1) hz (fun m => ef_1 m (1 : Int32)) ?_
  intro p e s m below meth c s₁ G0
  obtain ⟨HM, ⟨S0, E0, F0⟩, ⟨S1, E1, F1⟩, ⟨S2, E2, F2⟩, ⟨S3, E3, F3⟩⟩ := id FF
  refine o_iloadN G0 d1_0 (pc' := 1) rfl rfl ?_
  refine o_if_ne G0 d1_1 (by decide) (pcT := 8) (by decide) (pc' := 4) rfl (fun _ => ?_) (fun q => absurd q (by decide))
  refine o_iloadN G0 d1_8 (pc' := 9) rfl rfl ?_
  refine o_iconst G0 d1_9 (pc' := 10) rfl (v := (1 : Int32)) rfl ?_
  refine o_icmp_ne G0 d1_10 (by decide) (pcT := 17) (by decide) (pc' := 13) rfl (fun q => absurd (by decide) q) (fun _ => ?_)
  refine o_getS G0 (host := "") (Or.inl (hw _ (List.mem_of_getElem? (i := 44) rfl))) Via.refl S1 d1_13 (pc' := 16) rfl ?_
  intro T1 G1
  exact o_areturn G1 rfl rfl rfl d1_16 ⟨rfl, rfl⟩ (by decide) (by decide)
set_option maxRecDepth 65536 in
set_option maxHeartbeats 40000000 in
theorem rm1_2 {l : Launch} {Z : State} {a0 : Array Value} (hw : ∀ d ∈ tables_1, d.before a0 Z = true)  (h0 : Heap) (n0 : Nat) (hz : n0 ≤ h0.size) (c0 c1 c2 c3 mir : Addr) (FF : own_F Z h0 c0 c1 c2 c3 mir) :
    OMet l Z (⟨"com/example/tributary/tributary/FitLimitsAtSourcePinLaw", "pick", "(I)Lcom/example/tributary/tributary/Pipeline$Fit;"⟩ : MethodName) method_2_code 1 (some (.object "com/example/tributary/tributary/Pipeline$Fit")) ({ frames := 0, cells := 0, slots := 0, locals := 0 } : Room) #[(.int (2 : Int32))] h0 n0 ({ frames := 0, cells := 0, slots := 0, locals := 0 } : Room).cells ({ frames := 0, cells := 0, slots := 0, locals := 0 } : Room).slots (OVal h0 (.ref c2)) := by
  refine o_body (plainFor_of_name pn_1) hz (fun m => ef_1 m (2 : Int32)) ?_
  intro p e s m below meth c s₁ G0
  obtain ⟨HM, ⟨S0, E0, F0⟩, ⟨S1, E1, F1⟩, ⟨S2, E2, F2⟩, ⟨S3, E3, F3⟩⟩ := id FF
  refine o_iloadN G0 d1_0 (pc' := 1) rfl rfl ?_
  refine o_if_ne G0 d1_1 (by decide) (pcT := 8) (by decide) (pc' := 4) rfl (fun _ => ?_) (fun q => absurd q (by decide))
  refine o_iloadN G0 d1_8 (pc' := 9) rfl rfl ?_
  refine o_iconst G0 d1_9 (pc' := 10) rfl (v := (1 : Int32)) rfl ?_
  refine o_icmp_ne G0 d1_10 (by decide) (pcT := 17) (by decide) (pc' := 13) rfl (fun _ => ?_) (fun q => absurd q (by decide))
  refine o_iloadN G0 d1_17 (pc' := 18) rfl rfl ?_
  refine o_iconst G0 d1_18 (pc' := 19) rfl (v := (2 : Int32)) rfl ?_
  refine o_icmp_ne G0 d1_19 (by decide) (pcT := 26) (by decide) (pc' := 22) rfl (fun q => absurd (by decide) q) (fun _ => ?_)
  refine o_getS G0 (host := "") (Or.inl (hw _ (List.mem_of_getElem? (i := 42) rfl))) Via.refl S2 d1_22 (pc' := 25) rfl ?_
  intro T1 G1
  exact o_areturn G1 rfl rfl rfl d1_25 ⟨rfl, rfl⟩ (by decide) (by decide)
set_option maxRecDepth 65536 in
set_option maxHeartbeats 40000000 in
theorem rm1_3 {l : Launch} {Z : State} {a0 : Array Value} (hw : ∀ d ∈ tables_1, d.before a0 Z = true)  (h0 : Heap) (n0 : Nat) (hz : n0 ≤ h0.size) (c0 c1 c2 c3 mir : Addr) (FF : own_F Z h0 c0 c1 c2 c3 mir) :
    OMet l Z (⟨"com/example/tributary/tributary/FitLimitsAtSourcePinLaw", "pick", "(I)Lcom/example/tributary/tributary/Pipeline$Fit;"⟩ : MethodName) method_2_code 1 (some (.object "com/example/tributary/tributary/Pipeline$Fit")) ({ frames := 0, cells := 0, slots := 0, locals := 0 } : Room) #[(.int (3 : Int32))] h0 n0 ({ frames := 0, cells := 0, slots := 0, locals := 0 } : Room).cells ({ frames := 0, cells := 0, slots := 0, locals := 0 } : Room).slots (OVal h0 (.ref c3)) := by
  refine o_body (plainFor_of_name pn_1) hz (fun m => ef_1 m (3 : Int32)) ?_
  intro p e s m below meth c s₁ G0
  obtain ⟨HM, ⟨S0, E0, F0⟩, ⟨S1, E1, F1⟩, ⟨S2, E2, F2⟩, ⟨S3, E3, F3⟩⟩ := id FF
  refine o_iloadN G0 d1_0 (pc' := 1) rfl rfl ?_
  refine o_if_ne G0 d1_1 (by decide) (pcT := 8) (by decide) (pc' := 4) rfl (fun _ => ?_) (fun q => absurd q (by decide))
  refine o_iloadN G0 d1_8 (pc' := 9) rfl rfl ?_
  refine o_iconst G0 d1_9 (pc' := 10) rfl (v := (1 : Int32)) rfl ?_
  refine o_icmp_ne G0 d1_10 (by decide) (pcT := 17) (by decide) (pc' := 13) rfl (fun _ => ?_) (fun q => absurd q (by decide))
  refine o_iloadN G0 d1_17 (pc' := 18) rfl rfl ?_
  refine o_iconst G0 d1_18 (pc' := 19) rfl (v := (2 : Int32)) rfl ?_
  refine o_icmp_ne G0 d1_19 (by decide) (pcT := 26) (by decide) (pc' := 22) rfl (fun _ => ?_) (fun q => absurd q (by decide))
  refine o_getS G0 (host := "") (Or.inl (hw _ (List.mem_of_getElem? (i := 7) rfl))) Via.refl S3 d1_26 (pc' := 29) rfl ?_
  intro T1 G1
  exact o_areturn G1 rfl rfl rfl d1_29 ⟨rfl, rfl⟩ (by decide) (by decide)
theorem d2_0 : decode prog_38_method_5_code 0 = .ok (.aload_n 0, 1) := by decide +kernel
theorem d2_1 : decode prog_38_method_5_code 1 = .ok (.getstatic 13, 3) := by decide +kernel
theorem d2_4 : decode prog_38_method_5_code 4 = .ok (.if_acmp .eq 7, 3) := by decide +kernel
theorem d2_7 : decode prog_38_method_5_code 7 = .ok (.iconst 1, 1) := by decide +kernel
theorem d2_8 : decode prog_38_method_5_code 8 = .ok (.goto 4, 3) := by decide +kernel
theorem d2_11 : decode prog_38_method_5_code 11 = .ok (.iconst 0, 1) := by decide +kernel
theorem d2_12 : decode prog_38_method_5_code 12 = .ok (.ireturn, 1) := by decide +kernel
theorem pn_2 : plainName "com/example/tributary/tributary/Pipeline$Fit" = true := by first | (simp [plainName, overriddenIn]; done) | decide +kernel
theorem ef_2 (m : MethodId) (r0 : Addr) : entryFrame m #[(.ref r0)] 1 = mkF m 0 #[.val (.ref r0)] [] := by first | (simp [entryFrame, mkF, argsToLocals, Value.category]; done) | rfl
set_option maxRecDepth 65536 in
set_option maxHeartbeats 40000000 in
theorem rm2_t {l : Launch} {Z : State} {a0 : Array Value} (hw : ∀ d ∈ tables_1, d.before a0 Z = true) (r0 : Addr) (h0 : Heap) (n0 : Nat) (hz : n0 ≤ h0.size) (c0 c1 c2 c3 mir : Addr) (FF : own_F Z h0 c0 c1 c2 c3 mir) (hne : r0 ≠ c3) :
    OMet l Z (⟨"com/example/tributary/tributary/Pipeline$Fit", "limitsAtSource", "()Z"⟩ : MethodName) prog_38_method_5_code 1 (some .boolean) ({ frames := 0, cells := 0, slots := 0, locals := 0 } : Room) #[(.ref r0)] h0 n0 ({ frames := 0, cells := 0, slots := 0, locals := 0 } : Room).cells ({ frames := 0, cells := 0, slots := 0, locals := 0 } : Room).slots (OVal h0 (.int 1)) := by
  refine o_body (plainFor_of_name pn_2) hz (fun m => ef_2 m r0) ?_
  intro p e s m below meth c s₁ G0
  obtain ⟨HM, ⟨S0, E0, F0⟩, ⟨S1, E1, F1⟩, ⟨S2, E2, F2⟩, ⟨S3, E3, F3⟩⟩ := id FF
  refine o_aloadN G0 d2_0 (pc' := 1) rfl rfl rfl ?_
  refine o_getS G0 (host := "") (Or.inl (hw _ (List.mem_of_getElem? (i := 14) rfl))) Via.refl S3 d2_1 (pc' := 4) rfl ?_
  intro T1 G1
  refine o_acmp_eq G1 rfl rfl d2_4 (by decide) (pcT := 11) (by decide) (pc' := 7) rfl (fun q => absurd q (fun q => hne (Value.ref.inj q))) (fun _ => ?_)
  refine o_iconst G1 d2_7 (pc' := 8) rfl (v := (1 : Int32)) rfl ?_
  refine o_goto G1 d2_8 (by decide) (pc' := 12) rfl ?_
  exact o_nreturn (t := .boolean) G1 (by simp) d2_12 ⟨rfl, rfl⟩ (by decide) (by decide)
set_option maxRecDepth 65536 in
set_option maxHeartbeats 40000000 in
theorem rm2_f {l : Launch} {Z : State} {a0 : Array Value} (hw : ∀ d ∈ tables_1, d.before a0 Z = true) (r0 : Addr) (h0 : Heap) (n0 : Nat) (hz : n0 ≤ h0.size) (c0 c1 c2 c3 mir : Addr) (FF : own_F Z h0 c0 c1 c2 c3 mir) (heq : r0 = c3) :
    OMet l Z (⟨"com/example/tributary/tributary/Pipeline$Fit", "limitsAtSource", "()Z"⟩ : MethodName) prog_38_method_5_code 1 (some .boolean) ({ frames := 0, cells := 0, slots := 0, locals := 0 } : Room) #[(.ref r0)] h0 n0 ({ frames := 0, cells := 0, slots := 0, locals := 0 } : Room).cells ({ frames := 0, cells := 0, slots := 0, locals := 0 } : Room).slots (OVal h0 (.int 0)) := by
  refine o_body (plainFor_of_name pn_2) hz (fun m => ef_2 m r0) ?_
  intro p e s m below meth c s₁ G0
  obtain ⟨HM, ⟨S0, E0, F0⟩, ⟨S1, E1, F1⟩, ⟨S2, E2, F2⟩, ⟨S3, E3, F3⟩⟩ := id FF
  refine o_aloadN G0 d2_0 (pc' := 1) rfl rfl rfl ?_
  refine o_getS G0 (host := "") (Or.inl (hw _ (List.mem_of_getElem? (i := 14) rfl))) Via.refl S3 d2_1 (pc' := 4) rfl ?_
  intro T1 G1
  refine o_acmp_eq G1 rfl rfl d2_4 (by decide) (pcT := 11) (by decide) (pc' := 7) rfl (fun _ => ?_) (fun q => absurd (congrArg Value.ref heq) q)
  refine o_iconst G1 d2_11 (pc' := 12) rfl (v := (0 : Int32)) rfl ?_
  exact o_nreturn (t := .boolean) G1 (by simp) d2_12 ⟨rfl, rfl⟩ (by decide) (by decide)
theorem d4_0 : decode jdk_37_method_8_code 0 = .ok (.aload_n 1, 1) := by decide +kernel
theorem d4_1 : decode jdk_37_method_8_code 1 = .ok (.astore_n 2, 1) := by decide +kernel
theorem d4_2 : decode jdk_37_method_8_code 2 = .ok (.aload_n 0, 1) := by decide +kernel
theorem d4_3 : decode jdk_37_method_8_code 3 = .ok (.astore_n 3, 1) := by decide +kernel
theorem d4_4 : decode jdk_37_method_8_code 4 = .ok (.aload_n 3, 1) := by decide +kernel
theorem d4_5 : decode jdk_37_method_8_code 5 = .ok (.invokevirtual 29, 3) := by decide +kernel
theorem d4_8 : decode jdk_37_method_8_code 8 = .ok (.aload_n 2, 1) := by decide +kernel
theorem d4_9 : decode jdk_37_method_8_code 9 = .ok (.invokevirtual 29, 3) := by decide +kernel
theorem d4_12 : decode jdk_37_method_8_code 12 = .ok (.if_acmp .eq 22, 3) := by decide +kernel
theorem d4_34 : decode jdk_37_method_8_code 34 = .ok (.aload_n 3, 1) := by decide +kernel
theorem d4_35 : decode jdk_37_method_8_code 35 = .ok (.getfield 7, 3) := by decide +kernel
theorem d4_38 : decode jdk_37_method_8_code 38 = .ok (.aload_n 2, 1) := by decide +kernel
theorem d4_39 : decode jdk_37_method_8_code 39 = .ok (.getfield 7, 3) := by decide +kernel
theorem d4_42 : decode jdk_37_method_8_code 42 = .ok (.isub, 1) := by decide +kernel
theorem d4_43 : decode jdk_37_method_8_code 43 = .ok (.ireturn, 1) := by decide +kernel
theorem pn_4 : plainName "java/lang/Enum" = true := by first | (simp [plainName, overriddenIn]; done) | decide +kernel
theorem ef_4 (m : MethodId) (r0 : Addr) (r1 : Addr) : entryFrame m #[(.ref r0), (.ref r1)] 4 = mkF m 0 #[.val (.ref r0), .val (.ref r1), .unset, .unset] [] := by first | (simp [entryFrame, mkF, argsToLocals, Value.category]; done) | rfl
set_option maxRecDepth 65536 in
set_option maxHeartbeats 40000000 in
theorem rm4 {l : Launch} {Z : State} {a0 : Array Value} (hw : ∀ d ∈ tables_1, d.before a0 Z = true) (r0 : Addr) (r1 : Addr) (h0 : Heap) (n0 : Nat) (hz : n0 ≤ h0.size) (c0 c1 c2 c3 mir : Addr) (FF : own_F Z h0 c0 c1 c2 c3 mir) (Er0 : Exa Z h0 r0 "com/example/tributary/tributary/Pipeline$Fit") (Er1 : Exa Z h0 r1 "com/example/tributary/tributary/Pipeline$Fit") (x y : Int32) (Fr0 : Fld Z h0 r0 "java/lang/Enum" "ordinal" "I" (.int x)) (Fr1 : Fld Z h0 r1 "java/lang/Enum" "ordinal" "I" (.int y)) :
    OMet l Z (⟨"java/lang/Enum", "compareTo", "(Ljava/lang/Enum;)I"⟩ : MethodName) jdk_37_method_8_code 4 (some .int) ({ frames := 1, cells := 0, slots := 0, locals := 15 } : Room) #[(.ref r0), (.ref r1)] h0 n0 ({ frames := 1, cells := 0, slots := 0, locals := 15 } : Room).cells ({ frames := 1, cells := 0, slots := 0, locals := 15 } : Room).slots (OVal h0 (.int (x - y))) := by
  refine o_body (plainFor_of_name pn_4) hz (fun m => ef_4 m r0 r1) ?_
  intro p e s m below meth c s₁ G0
  obtain ⟨HM, -⟩ := id FF
  refine o_aloadN G0 d4_0 (pc' := 1) rfl rfl rfl ?_
  refine o_astoreN G0 d4_1 (pc' := 2) rfl rfl (l' := #[.val (.ref r0), .val (.ref r1), .val (.ref r1), .unset]) rfl ?_
  refine o_aloadN G0 d4_2 (pc' := 3) rfl rfl rfl ?_
  refine o_astoreN G0 d4_3 (pc' := 4) rfl rfl (l' := #[.val (.ref r0), .val (.ref r1), .val (.ref r1), .val (.ref r0)]) rfl ?_
  refine o_aloadN G0 d4_4 (pc' := 5) rfl rfl rfl ?_
  refine o_getClass G0 (W := 0) Er0 HM (hw _ (List.mem_of_getElem? (i := 27) rfl)) (hw _ (List.mem_of_getElem? (i := 28) rfl)) (hw _ (List.mem_of_getElem? (i := 30) rfl)) (hw _ (List.mem_of_getElem? (i := 29) rfl)) (hw _ (List.mem_of_getElem? (i := 31) rfl)) d4_5 (pc' := 8) rfl rfl (by decide) (Nat.le_of_eq rfl) (by decide) ?_
  intro T1 G1
  refine o_aloadN G1 d4_8 (pc' := 9) rfl rfl rfl ?_
  refine o_getClass G1 (W := 1) Er1 HM (hw _ (List.mem_of_getElem? (i := 27) rfl)) (hw _ (List.mem_of_getElem? (i := 28) rfl)) (hw _ (List.mem_of_getElem? (i := 30) rfl)) (hw _ (List.mem_of_getElem? (i := 29) rfl)) (hw _ (List.mem_of_getElem? (i := 31) rfl)) d4_9 (pc' := 12) rfl rfl (by decide) (Nat.le_of_eq rfl) (by decide) ?_
  intro T2 G2
  refine o_acmp_eq G2 rfl rfl d4_12 (by decide) (pcT := 34) (by decide) (pc' := 15) rfl (fun _ => ?_) (fun q => absurd rfl q)
  refine o_aloadN G2 d4_34 (pc' := 35) rfl rfl rfl ?_
  refine o_getF G2 (host := "") (Or.inl (hw _ (List.mem_of_getElem? (i := 33) rfl))) Via.refl Fr0 d4_35 (pc' := 38) rfl ?_
  intro T3 G3
  refine o_aloadN G3 d4_38 (pc' := 39) rfl rfl rfl ?_
  refine o_getF G3 (host := "") (Or.inl (hw _ (List.mem_of_getElem? (i := 33) rfl))) Via.refl Fr1 d4_39 (pc' := 42) rfl ?_
  intro T4 G4
  obtain ⟨v5, e5⟩ : ∃ z, x - y = z := ⟨_, rfl⟩
  refine o_isub G4 d4_42 (pc' := 43) rfl e5 ?_
  subst e5
  exact o_ireturn G4 d4_43 ⟨rfl, rfl⟩ (by decide) (by decide)
theorem d3_0 : decode prog_38_method_4_code 0 = .ok (.aload_n 0, 1) := by decide +kernel
theorem d3_1 : decode prog_38_method_4_code 1 = .ok (.aload_n 1, 1) := by decide +kernel
theorem d3_2 : decode prog_38_method_4_code 2 = .ok (.invokevirtual 35, 3) := by decide +kernel
theorem d3_5 : decode prog_38_method_4_code 5 = .ok (.ifCond .lt 7, 3) := by decide +kernel
theorem d3_8 : decode prog_38_method_4_code 8 = .ok (.aload_n 0, 1) := by decide +kernel
theorem d3_9 : decode prog_38_method_4_code 9 = .ok (.goto 4, 3) := by decide +kernel
theorem d3_12 : decode prog_38_method_4_code 12 = .ok (.aload_n 1, 1) := by decide +kernel
theorem d3_13 : decode prog_38_method_4_code 13 = .ok (.areturn, 1) := by decide +kernel
theorem pn_3 : plainName "com/example/tributary/tributary/Pipeline$Fit" = true := by first | (simp [plainName, overriddenIn]; done) | decide +kernel
theorem ef_3 (m : MethodId) (r0 : Addr) (r1 : Addr) : entryFrame m #[(.ref r0), (.ref r1)] 2 = mkF m 0 #[.val (.ref r0), .val (.ref r1)] [] := by first | (simp [entryFrame, mkF, argsToLocals, Value.category]; done) | rfl
set_option maxRecDepth 65536 in
set_option maxHeartbeats 40000000 in
theorem rm3_l {l : Launch} {Z : State} {a0 : Array Value} (hw : ∀ d ∈ tables_1, d.before a0 Z = true) (r0 : Addr) (r1 : Addr) (h0 : Heap) (n0 : Nat) (hz : n0 ≤ h0.size) (c0 c1 c2 c3 mir : Addr) (FF : own_F Z h0 c0 c1 c2 c3 mir) (Er0 : Exa Z h0 r0 "com/example/tributary/tributary/Pipeline$Fit") (Er1 : Exa Z h0 r1 "com/example/tributary/tributary/Pipeline$Fit") (x y : Int32) (Fr0 : Fld Z h0 r0 "java/lang/Enum" "ordinal" "I" (.int x)) (Fr1 : Fld Z h0 r1 "java/lang/Enum" "ordinal" "I" (.int y)) (hlt : x - y < 0) :
    OMet l Z (⟨"com/example/tributary/tributary/Pipeline$Fit", "then", "(Lcom/example/tributary/tributary/Pipeline$Fit;)Lcom/example/tributary/tributary/Pipeline$Fit;"⟩ : MethodName) prog_38_method_4_code 2 (some (.object "com/example/tributary/tributary/Pipeline$Fit")) ({ frames := 2, cells := 0, slots := 0, locals := 30 } : Room) #[(.ref r0), (.ref r1)] h0 n0 ({ frames := 2, cells := 0, slots := 0, locals := 30 } : Room).cells ({ frames := 2, cells := 0, slots := 0, locals := 30 } : Room).slots (OVal h0 (.ref r1)) := by
  refine o_body (plainFor_of_name pn_3) hz (fun m => ef_3 m r0 r1) ?_
  intro p e s m below meth c s₁ G0
  obtain ⟨HM, -⟩ := id FF
  refine o_aloadN G0 d3_0 (pc' := 1) rfl rfl rfl ?_
  refine o_aloadN G0 d3_1 (pc' := 2) rfl rfl rfl ?_
  refine o_callVU G0 (z := (⟨"java/lang/Enum", "compareTo", "(Ljava/lang/Enum;)I"⟩ : MethodName)) (argsL := [(.ref r1)]) (rest := []) (W := 0) Er0 (hw _ (List.mem_of_getElem? (i := 20) rfl)) (hw _ (List.mem_of_getElem? (i := 23) rfl)) (hw _ (List.mem_of_getElem? (i := 22) rfl)) (hw _ (List.mem_of_getElem? (i := 24) rfl)) (hw _ (List.mem_of_getElem? (i := 21) rfl)) d3_2 (by decide) (hw _ (List.mem_of_getElem? (i := 25) rfl)) (hw _ (List.mem_of_getElem? (i := 26) rfl)) (rm4 hw r0 r1 h0 n0 G0.sz c0 c1 c2 c3 mir FF Er0 Er1 x y Fr0 Fr1) (by decide) (by decide) rfl (lenOf pd_0 rfl) rfl (Nat.le_of_eq rfl) (pc' := 5) rfl (by decide) (by decide) ?_
  rintro _ T1 h1 G1 ⟨rfl, hh⟩
  subst hh
  show OFin n0 p e below s (OVal h0 (.ref r1)) 0 0 T1 (mkF m 5 #[.val (.ref r0), .val (.ref r1)] [(.int (x - y))])
  refine o_if_lt G1 d3_5 (by decide) (pcT := 12) (by decide) (pc' := 8) rfl (fun _ => ?_) (fun q => absurd hlt q)
  refine o_aloadN G1 d3_12 (pc' := 13) rfl rfl rfl ?_
  exact o_areturn G1 rfl rfl rfl d3_13 ⟨rfl, rfl⟩ (by decide) (by decide)
set_option maxRecDepth 65536 in
set_option maxHeartbeats 40000000 in
theorem rm3_g {l : Launch} {Z : State} {a0 : Array Value} (hw : ∀ d ∈ tables_1, d.before a0 Z = true) (r0 : Addr) (r1 : Addr) (h0 : Heap) (n0 : Nat) (hz : n0 ≤ h0.size) (c0 c1 c2 c3 mir : Addr) (FF : own_F Z h0 c0 c1 c2 c3 mir) (Er0 : Exa Z h0 r0 "com/example/tributary/tributary/Pipeline$Fit") (Er1 : Exa Z h0 r1 "com/example/tributary/tributary/Pipeline$Fit") (x y : Int32) (Fr0 : Fld Z h0 r0 "java/lang/Enum" "ordinal" "I" (.int x)) (Fr1 : Fld Z h0 r1 "java/lang/Enum" "ordinal" "I" (.int y)) (hge : ¬ x - y < 0) :
    OMet l Z (⟨"com/example/tributary/tributary/Pipeline$Fit", "then", "(Lcom/example/tributary/tributary/Pipeline$Fit;)Lcom/example/tributary/tributary/Pipeline$Fit;"⟩ : MethodName) prog_38_method_4_code 2 (some (.object "com/example/tributary/tributary/Pipeline$Fit")) ({ frames := 2, cells := 0, slots := 0, locals := 30 } : Room) #[(.ref r0), (.ref r1)] h0 n0 ({ frames := 2, cells := 0, slots := 0, locals := 30 } : Room).cells ({ frames := 2, cells := 0, slots := 0, locals := 30 } : Room).slots (OVal h0 (.ref r0)) := by
  refine o_body (plainFor_of_name pn_3) hz (fun m => ef_3 m r0 r1) ?_
  intro p e s m below meth c s₁ G0
  obtain ⟨HM, -⟩ := id FF
  refine o_aloadN G0 d3_0 (pc' := 1) rfl rfl rfl ?_
  refine o_aloadN G0 d3_1 (pc' := 2) rfl rfl rfl ?_
  refine o_callVU G0 (z := (⟨"java/lang/Enum", "compareTo", "(Ljava/lang/Enum;)I"⟩ : MethodName)) (argsL := [(.ref r1)]) (rest := []) (W := 0) Er0 (hw _ (List.mem_of_getElem? (i := 20) rfl)) (hw _ (List.mem_of_getElem? (i := 23) rfl)) (hw _ (List.mem_of_getElem? (i := 22) rfl)) (hw _ (List.mem_of_getElem? (i := 24) rfl)) (hw _ (List.mem_of_getElem? (i := 21) rfl)) d3_2 (by decide) (hw _ (List.mem_of_getElem? (i := 25) rfl)) (hw _ (List.mem_of_getElem? (i := 26) rfl)) (rm4 hw r0 r1 h0 n0 G0.sz c0 c1 c2 c3 mir FF Er0 Er1 x y Fr0 Fr1) (by decide) (by decide) rfl (lenOf pd_0 rfl) rfl (Nat.le_of_eq rfl) (pc' := 5) rfl (by decide) (by decide) ?_
  rintro _ T1 h1 G1 ⟨rfl, hh⟩
  subst hh
  show OFin n0 p e below s (OVal h0 (.ref r0)) 0 0 T1 (mkF m 5 #[.val (.ref r0), .val (.ref r1)] [(.int (x - y))])
  refine o_if_lt G1 d3_5 (by decide) (pcT := 12) (by decide) (pc' := 8) rfl (fun q => absurd q hge) (fun _ => ?_)
  refine o_aloadN G1 d3_8 (pc' := 9) rfl rfl rfl ?_
  refine o_goto G1 d3_9 (by decide) (pc' := 13) rfl ?_
  exact o_areturn G1 rfl rfl rfl d3_13 ⟨rfl, rfl⟩ (by decide) (by decide)
theorem d5_0 : decode prog_38_method_6_code 0 = .ok (.aload_n 0, 1) := by decide +kernel
theorem d5_1 : decode prog_38_method_6_code 1 = .ok (.getstatic 7, 3) := by decide +kernel
theorem d5_4 : decode prog_38_method_6_code 4 = .ok (.invokevirtual 35, 3) := by decide +kernel
theorem d5_7 : decode prog_38_method_6_code 7 = .ok (.ifCond .gt 7, 3) := by decide +kernel
theorem d5_10 : decode prog_38_method_6_code 10 = .ok (.iconst 1, 1) := by decide +kernel
theorem d5_11 : decode prog_38_method_6_code 11 = .ok (.goto 4, 3) := by decide +kernel
theorem d5_14 : decode prog_38_method_6_code 14 = .ok (.iconst 0, 1) := by decide +kernel
theorem d5_15 : decode prog_38_method_6_code 15 = .ok (.ireturn, 1) := by decide +kernel
theorem pn_5 : plainName "com/example/tributary/tributary/Pipeline$Fit" = true := by first | (simp [plainName, overriddenIn]; done) | decide +kernel
theorem ef_5 (m : MethodId) (r0 : Addr) : entryFrame m #[(.ref r0)] 1 = mkF m 0 #[.val (.ref r0)] [] := by first | (simp [entryFrame, mkF, argsToLocals, Value.category]; done) | rfl
set_option maxRecDepth 65536 in
set_option maxHeartbeats 40000000 in
theorem rm5_0 {l : Launch} {Z : State} {a0 : Array Value} (hw : ∀ d ∈ tables_1, d.before a0 Z = true) (r0 : Addr) (h0 : Heap) (n0 : Nat) (hz : n0 ≤ h0.size) (c0 c1 c2 c3 mir : Addr) (FF : own_F Z h0 c0 c1 c2 c3 mir) (Er0 : Exa Z h0 r0 "com/example/tributary/tributary/Pipeline$Fit") (x : Int32) (Fr0 : Fld Z h0 r0 "java/lang/Enum" "ordinal" "I" (.int x)) (hgt : 0 < x - 1) :
    OMet l Z (⟨"com/example/tributary/tributary/Pipeline$Fit", "skipsAtSource", "()Z"⟩ : MethodName) prog_38_method_6_code 1 (some .boolean) ({ frames := 2, cells := 0, slots := 0, locals := 30 } : Room) #[(.ref r0)] h0 n0 ({ frames := 2, cells := 0, slots := 0, locals := 30 } : Room).cells ({ frames := 2, cells := 0, slots := 0, locals := 30 } : Room).slots (OVal h0 (.int 0)) := by
  refine o_body (plainFor_of_name pn_5) hz (fun m => ef_5 m r0) ?_
  intro p e s m below meth c s₁ G0
  obtain ⟨HM, ⟨S0, E0, F0⟩, ⟨S1, E1, F1⟩, ⟨S2, E2, F2⟩, ⟨S3, E3, F3⟩⟩ := id FF
  refine o_aloadN G0 d5_0 (pc' := 1) rfl rfl rfl ?_
  refine o_getS G0 (host := "") (Or.inl (hw _ (List.mem_of_getElem? (i := 40) rfl))) Via.refl S1 d5_1 (pc' := 4) rfl ?_
  intro T1 G1
  refine o_callVU G1 (z := (⟨"java/lang/Enum", "compareTo", "(Ljava/lang/Enum;)I"⟩ : MethodName)) (argsL := [(.ref c1)]) (rest := []) (W := 0) Er0 (hw _ (List.mem_of_getElem? (i := 20) rfl)) (hw _ (List.mem_of_getElem? (i := 23) rfl)) (hw _ (List.mem_of_getElem? (i := 22) rfl)) (hw _ (List.mem_of_getElem? (i := 24) rfl)) (hw _ (List.mem_of_getElem? (i := 21) rfl)) d5_4 (by decide) (hw _ (List.mem_of_getElem? (i := 25) rfl)) (hw _ (List.mem_of_getElem? (i := 26) rfl)) (rm4 hw r0 c1 h0 n0 G1.sz c0 c1 c2 c3 mir FF Er0 E1 x (1 : Int32) Fr0 F1) (by decide) (by decide) rfl (lenOf pd_0 rfl) rfl (Nat.le_of_eq rfl) (pc' := 7) rfl (by decide) (by decide) ?_
  rintro _ T2 h2 G2 ⟨rfl, hh⟩
  subst hh
  show OFin n0 p e below s (OVal h0 (.int 0)) 0 0 T2 (mkF m 7 #[.val (.ref r0)] [(.int (x - (1 : Int32)))])
  refine o_if_gt G2 d5_7 (by decide) (pcT := 14) (by decide) (pc' := 10) rfl (fun _ => ?_) (fun q => absurd hgt q)
  refine o_iconst G2 d5_14 (pc' := 15) rfl (v := (0 : Int32)) rfl ?_
  exact o_nreturn (t := .boolean) G2 (by simp) d5_15 ⟨rfl, rfl⟩ (by decide) (by decide)
set_option maxRecDepth 65536 in
set_option maxHeartbeats 40000000 in
theorem rm5_1 {l : Launch} {Z : State} {a0 : Array Value} (hw : ∀ d ∈ tables_1, d.before a0 Z = true) (r0 : Addr) (h0 : Heap) (n0 : Nat) (hz : n0 ≤ h0.size) (c0 c1 c2 c3 mir : Addr) (FF : own_F Z h0 c0 c1 c2 c3 mir) (Er0 : Exa Z h0 r0 "com/example/tributary/tributary/Pipeline$Fit") (x : Int32) (Fr0 : Fld Z h0 r0 "java/lang/Enum" "ordinal" "I" (.int x)) (hle : ¬ 0 < x - 1) :
    OMet l Z (⟨"com/example/tributary/tributary/Pipeline$Fit", "skipsAtSource", "()Z"⟩ : MethodName) prog_38_method_6_code 1 (some .boolean) ({ frames := 2, cells := 0, slots := 0, locals := 30 } : Room) #[(.ref r0)] h0 n0 ({ frames := 2, cells := 0, slots := 0, locals := 30 } : Room).cells ({ frames := 2, cells := 0, slots := 0, locals := 30 } : Room).slots (OVal h0 (.int 1)) := by
  refine o_body (plainFor_of_name pn_5) hz (fun m => ef_5 m r0) ?_
  intro p e s m below meth c s₁ G0
  obtain ⟨HM, ⟨S0, E0, F0⟩, ⟨S1, E1, F1⟩, ⟨S2, E2, F2⟩, ⟨S3, E3, F3⟩⟩ := id FF
  refine o_aloadN G0 d5_0 (pc' := 1) rfl rfl rfl ?_
  refine o_getS G0 (host := "") (Or.inl (hw _ (List.mem_of_getElem? (i := 40) rfl))) Via.refl S1 d5_1 (pc' := 4) rfl ?_
  intro T1 G1
  refine o_callVU G1 (z := (⟨"java/lang/Enum", "compareTo", "(Ljava/lang/Enum;)I"⟩ : MethodName)) (argsL := [(.ref c1)]) (rest := []) (W := 0) Er0 (hw _ (List.mem_of_getElem? (i := 20) rfl)) (hw _ (List.mem_of_getElem? (i := 23) rfl)) (hw _ (List.mem_of_getElem? (i := 22) rfl)) (hw _ (List.mem_of_getElem? (i := 24) rfl)) (hw _ (List.mem_of_getElem? (i := 21) rfl)) d5_4 (by decide) (hw _ (List.mem_of_getElem? (i := 25) rfl)) (hw _ (List.mem_of_getElem? (i := 26) rfl)) (rm4 hw r0 c1 h0 n0 G1.sz c0 c1 c2 c3 mir FF Er0 E1 x (1 : Int32) Fr0 F1) (by decide) (by decide) rfl (lenOf pd_0 rfl) rfl (Nat.le_of_eq rfl) (pc' := 7) rfl (by decide) (by decide) ?_
  rintro _ T2 h2 G2 ⟨rfl, hh⟩
  subst hh
  show OFin n0 p e below s (OVal h0 (.int 1)) 0 0 T2 (mkF m 7 #[.val (.ref r0)] [(.int (x - (1 : Int32)))])
  refine o_if_gt G2 d5_7 (by decide) (pcT := 14) (by decide) (pc' := 10) rfl (fun q => absurd q hle) (fun _ => ?_)
  refine o_iconst G2 d5_10 (pc' := 11) rfl (v := (1 : Int32)) rfl ?_
  refine o_goto G2 d5_11 (by decide) (pc' := 15) rfl ?_
  exact o_nreturn (t := .boolean) G2 (by simp) d5_15 ⟨rfl, rfl⟩ (by decide) (by decide)
theorem pn_0 : plainName "com/example/tributary/tributary/FitLimitsAtSourcePinLaw" = true := by first | (simp [plainName, overriddenIn]; done) | decide +kernel
theorem ef_0 (m : MethodId) (p0 : Int32) (p1 : Int32) : entryFrame m #[(.int p0), (.int p1)] maxLocals = mkF m 0 #[.val (.int p0), .val (.int p1), .unset, .unset, .unset, .unset, .unset, .unset, .unset, .unset, .unset, .unset] [] := by first | (simp [entryFrame, mkF, argsToLocals, Value.category, maxLocals]; done) | rfl
set_option maxRecDepth 65536 in
set_option maxHeartbeats 40000000 in
theorem rm0 {l : Launch} {Z : State} {a0 : Array Value} (hw : ∀ d ∈ tables_1, d.before a0 Z = true) (p0 : Int32) (p1 : Int32) (h0 : Heap) (n0 : Nat) (hz : n0 ≤ h0.size) (c0 c1 c2 c3 mir : Addr) (FF : own_F Z h0 c0 c1 c2 c3 mir) :
    OMet l Z x code maxLocals ret room_1 #[(.int p0), (.int p1)] h0 n0 0 0 (fun v _ => v = some (.int 1)) := by
  refine o_body (plainFor_of_name pn_0) hz (fun m => ef_0 m p0 p1) ?_
  intro p e s m below meth c s₁ G0
  obtain ⟨HM, ⟨S0, E0, F0⟩, ⟨S1, E1, F1⟩, ⟨S2, E2, F2⟩, ⟨S3, E3, F3⟩⟩ := id FF
  refine o_iloadN G0 at_0 (pc' := 1) rfl rfl ?_
  refine o_iconst G0 at_1 (pc' := 2) rfl (v := (3 : Int32)) rfl ?_
  obtain ⟨v1, e1⟩ : ∃ z, p0 &&& (3 : Int32) = z := ⟨_, rfl⟩
  refine o_iand G0 at_2 (pc' := 3) rfl e1 ?_
  refine o_istoreN G0 at_3 (pc' := 4) rfl (l' := #[.val (.int p0), .val (.int p1), .val (.int v1), .unset, .unset, .unset, .unset, .unset, .unset, .unset, .unset, .unset]) rfl ?_
  refine o_iloadN G0 at_4 (pc' := 5) rfl rfl ?_
  refine o_iconst G0 at_5 (pc' := 6) rfl (v := (3 : Int32)) rfl ?_
  obtain ⟨v2, e2⟩ : ∃ z, p1 &&& (3 : Int32) = z := ⟨_, rfl⟩
  refine o_iand G0 at_6 (pc' := 7) rfl e2 ?_
  refine o_istoreN G0 at_7 (pc' := 8) rfl (l' := #[.val (.int p0), .val (.int p1), .val (.int v1), .val (.int v2), .unset, .unset, .unset, .unset, .unset, .unset, .unset, .unset]) rfl ?_
  have ha : v1 = (0 : Int32) ∨ v1 = (1 : Int32) ∨ v1 = (2 : Int32) ∨ v1 = (3 : Int32) := by
    subst e1 e2; exact own_and3 _
  have hb : v2 = (0 : Int32) ∨ v2 = (1 : Int32) ∨ v2 = (2 : Int32) ∨ v2 = (3 : Int32) := by
    subst e1 e2; exact own_and3 _
  clear e1 e2
  rcases ha with rfl | rfl | rfl | rfl <;> rcases hb with rfl | rfl | rfl | rfl
  · refine o_iloadN G0 at_8 (pc' := 9) rfl rfl ?_
    refine o_callS G0 (z := (⟨"com/example/tributary/tributary/FitLimitsAtSourcePinLaw", "pick", "(I)Lcom/example/tributary/tributary/Pipeline$Fit;"⟩ : MethodName)) (argsL := [(.int (0 : Int32))]) (rest := []) (W := 0) (hw _ (List.mem_of_getElem? (i := 0) rfl)) (hw _ (List.mem_of_getElem? (i := 1) rfl)) at_9 (by decide) (hw _ (List.mem_of_getElem? (i := 2) rfl)) (hw _ (List.mem_of_getElem? (i := 3) rfl)) (rm1_0 hw h0 n0 G0.sz c0 c1 c2 c3 mir FF) (by decide) (by decide) rfl (lenOf pd_1 rfl) rfl (Nat.le_of_eq rfl) (pc' := 12) rfl (by decide) (by decide) ?_
    rintro _ T3 h3 G3 ⟨rfl, hh⟩
    subst hh
    show OFin n0 p e below s (fun v _ => v = some (.int 1)) 0 0 T3 (mkF m 12 #[.val (.int p0), .val (.int p1), .val (.int (0 : Int32)), .val (.int (0 : Int32)), .unset, .unset, .unset, .unset, .unset, .unset, .unset, .unset] [(.ref c0)])
    refine o_astore G3 at_12 (pc' := 14) rfl rfl (l' := #[.val (.int p0), .val (.int p1), .val (.int (0 : Int32)), .val (.int (0 : Int32)), .val (.ref c0), .unset, .unset, .unset, .unset, .unset, .unset, .unset]) rfl ?_
    refine o_iloadN G3 at_14 (pc' := 15) rfl rfl ?_
    refine o_callS G3 (z := (⟨"com/example/tributary/tributary/FitLimitsAtSourcePinLaw", "pick", "(I)Lcom/example/tributary/tributary/Pipeline$Fit;"⟩ : MethodName)) (argsL := [(.int (0 : Int32))]) (rest := []) (W := 0) (hw _ (List.mem_of_getElem? (i := 0) rfl)) (hw _ (List.mem_of_getElem? (i := 1) rfl)) at_15 (by decide) (hw _ (List.mem_of_getElem? (i := 2) rfl)) (hw _ (List.mem_of_getElem? (i := 3) rfl)) (rm1_0 hw h0 n0 G3.sz c0 c1 c2 c3 mir FF) (by decide) (by decide) rfl (lenOf pd_1 rfl) rfl (Nat.le_of_eq rfl) (pc' := 18) rfl (by decide) (by decide) ?_
    rintro _ T4 h4 G4 ⟨rfl, hh⟩
    subst hh
    show OFin n0 p e below s (fun v _ => v = some (.int 1)) 0 0 T4 (mkF m 18 #[.val (.int p0), .val (.int p1), .val (.int (0 : Int32)), .val (.int (0 : Int32)), .val (.ref c0), .unset, .unset, .unset, .unset, .unset, .unset, .unset] [(.ref c0)])
    refine o_astore G4 at_18 (pc' := 20) rfl rfl (l' := #[.val (.int p0), .val (.int p1), .val (.int (0 : Int32)), .val (.int (0 : Int32)), .val (.ref c0), .val (.ref c0), .unset, .unset, .unset, .unset, .unset, .unset]) rfl ?_
    refine o_iloadN G4 at_20 (pc' := 21) rfl rfl ?_
    refine o_iconst G4 at_21 (pc' := 22) rfl (v := (3 : Int32)) rfl ?_
    refine o_icmp_eq G4 at_22 (by decide) (pcT := 29) (by decide) (pc' := 25) rfl (fun q => absurd q (by decide)) (fun _ => ?_)
    refine o_iconst G4 at_25 (pc' := 26) rfl (v := (1 : Int32)) rfl ?_
    refine o_goto G4 at_26 (by decide) (pc' := 30) rfl ?_
    refine o_istore G4 at_30 (pc' := 32) rfl (l' := #[.val (.int p0), .val (.int p1), .val (.int (0 : Int32)), .val (.int (0 : Int32)), .val (.ref c0), .val (.ref c0), .val (.int (1 : Int32)), .unset, .unset, .unset, .unset, .unset]) rfl ?_
    refine o_iloadN G4 at_32 (pc' := 33) rfl rfl ?_
    refine o_iconst G4 at_33 (pc' := 34) rfl (v := (3 : Int32)) rfl ?_
    refine o_icmp_eq G4 at_34 (by decide) (pcT := 41) (by decide) (pc' := 37) rfl (fun q => absurd q (by decide)) (fun _ => ?_)
    refine o_iconst G4 at_37 (pc' := 38) rfl (v := (1 : Int32)) rfl ?_
    refine o_goto G4 at_38 (by decide) (pc' := 42) rfl ?_
    refine o_istore G4 at_42 (pc' := 44) rfl (l' := #[.val (.int p0), .val (.int p1), .val (.int (0 : Int32)), .val (.int (0 : Int32)), .val (.ref c0), .val (.ref c0), .val (.int (1 : Int32)), .val (.int (1 : Int32)), .unset, .unset, .unset, .unset]) rfl ?_
    refine o_aload G4 at_44 (pc' := 46) rfl rfl rfl ?_
    refine o_callV G4 (z := (⟨"com/example/tributary/tributary/Pipeline$Fit", "limitsAtSource", "()Z"⟩ : MethodName)) (argsL := []) (rest := []) (W := 0) E0 (hw _ (List.mem_of_getElem? (i := 9) rfl)) (hw _ (List.mem_of_getElem? (i := 11) rfl)) (hw _ (List.mem_of_getElem? (i := 10) rfl)) (hw _ (List.mem_of_getElem? (i := 12) rfl)) at_46 (by decide) (hw _ (List.mem_of_getElem? (i := 5) rfl)) (hw _ (List.mem_of_getElem? (i := 13) rfl)) (rm2_t hw c0 h0 n0 G4.sz c0 c1 c2 c3 mir FF (Fld.ne F0 F3 (by decide))) (by decide) (by decide) rfl (lenOf pd_2 rfl) rfl (Nat.le_of_eq rfl) (pc' := 49) rfl (by decide) (by decide) ?_
    rintro _ T5 h5 G5 ⟨rfl, hh⟩
    subst hh
    show OFin n0 p e below s (fun v _ => v = some (.int 1)) 0 0 T5 (mkF m 49 #[.val (.int p0), .val (.int p1), .val (.int (0 : Int32)), .val (.int (0 : Int32)), .val (.ref c0), .val (.ref c0), .val (.int (1 : Int32)), .val (.int (1 : Int32)), .unset, .unset, .unset, .unset] [(.int (1 : Int32))])
    refine o_istore G5 at_49 (pc' := 51) rfl (l' := #[.val (.int p0), .val (.int p1), .val (.int (0 : Int32)), .val (.int (0 : Int32)), .val (.ref c0), .val (.ref c0), .val (.int (1 : Int32)), .val (.int (1 : Int32)), .val (.int (1 : Int32)), .unset, .unset, .unset]) rfl ?_
    refine o_aload G5 at_51 (pc' := 53) rfl rfl rfl ?_
    refine o_callV G5 (z := (⟨"com/example/tributary/tributary/Pipeline$Fit", "limitsAtSource", "()Z"⟩ : MethodName)) (argsL := []) (rest := []) (W := 0) E0 (hw _ (List.mem_of_getElem? (i := 9) rfl)) (hw _ (List.mem_of_getElem? (i := 11) rfl)) (hw _ (List.mem_of_getElem? (i := 10) rfl)) (hw _ (List.mem_of_getElem? (i := 12) rfl)) at_53 (by decide) (hw _ (List.mem_of_getElem? (i := 5) rfl)) (hw _ (List.mem_of_getElem? (i := 13) rfl)) (rm2_t hw c0 h0 n0 G5.sz c0 c1 c2 c3 mir FF (Fld.ne F0 F3 (by decide))) (by decide) (by decide) rfl (lenOf pd_2 rfl) rfl (Nat.le_of_eq rfl) (pc' := 56) rfl (by decide) (by decide) ?_
    rintro _ T6 h6 G6 ⟨rfl, hh⟩
    subst hh
    show OFin n0 p e below s (fun v _ => v = some (.int 1)) 0 0 T6 (mkF m 56 #[.val (.int p0), .val (.int p1), .val (.int (0 : Int32)), .val (.int (0 : Int32)), .val (.ref c0), .val (.ref c0), .val (.int (1 : Int32)), .val (.int (1 : Int32)), .val (.int (1 : Int32)), .unset, .unset, .unset] [(.int (1 : Int32))])
    refine o_istore G6 at_56 (pc' := 58) rfl (l' := #[.val (.int p0), .val (.int p1), .val (.int (0 : Int32)), .val (.int (0 : Int32)), .val (.ref c0), .val (.ref c0), .val (.int (1 : Int32)), .val (.int (1 : Int32)), .val (.int (1 : Int32)), .val (.int (1 : Int32)), .unset, .unset]) rfl ?_
    refine o_aload G6 at_58 (pc' := 60) rfl rfl rfl ?_
    refine o_aload G6 at_60 (pc' := 62) rfl rfl rfl ?_
    refine o_callV G6 (z := (⟨"com/example/tributary/tributary/Pipeline$Fit", "then", "(Lcom/example/tributary/tributary/Pipeline$Fit;)Lcom/example/tributary/tributary/Pipeline$Fit;"⟩ : MethodName)) (argsL := [(.ref c0)]) (rest := []) (W := 0) E0 (hw _ (List.mem_of_getElem? (i := 15) rfl)) (hw _ (List.mem_of_getElem? (i := 17) rfl)) (hw _ (List.mem_of_getElem? (i := 16) rfl)) (hw _ (List.mem_of_getElem? (i := 18) rfl)) at_62 (by decide) (hw _ (List.mem_of_getElem? (i := 5) rfl)) (hw _ (List.mem_of_getElem? (i := 19) rfl)) (rm3_g hw c0 c0 h0 n0 G6.sz c0 c1 c2 c3 mir FF E0 E0 (0 : Int32) (0 : Int32) F0 F0 (by decide)) (by decide) (by decide) rfl (lenOf pd_3 rfl) rfl (Nat.le_of_eq rfl) (pc' := 65) rfl (by decide) (by decide) ?_
    rintro _ T7 h7 G7 ⟨rfl, hh⟩
    subst hh
    show OFin n0 p e below s (fun v _ => v = some (.int 1)) 0 0 T7 (mkF m 65 #[.val (.int p0), .val (.int p1), .val (.int (0 : Int32)), .val (.int (0 : Int32)), .val (.ref c0), .val (.ref c0), .val (.int (1 : Int32)), .val (.int (1 : Int32)), .val (.int (1 : Int32)), .val (.int (1 : Int32)), .unset, .unset] [(.ref c0)])
    refine o_callV G7 (z := (⟨"com/example/tributary/tributary/Pipeline$Fit", "limitsAtSource", "()Z"⟩ : MethodName)) (argsL := []) (rest := []) (W := 0) E0 (hw _ (List.mem_of_getElem? (i := 9) rfl)) (hw _ (List.mem_of_getElem? (i := 11) rfl)) (hw _ (List.mem_of_getElem? (i := 10) rfl)) (hw _ (List.mem_of_getElem? (i := 12) rfl)) at_65 (by decide) (hw _ (List.mem_of_getElem? (i := 5) rfl)) (hw _ (List.mem_of_getElem? (i := 13) rfl)) (rm2_t hw c0 h0 n0 G7.sz c0 c1 c2 c3 mir FF (Fld.ne F0 F3 (by decide))) (by decide) (by decide) rfl (lenOf pd_2 rfl) rfl (Nat.le_of_eq rfl) (pc' := 68) rfl (by decide) (by decide) ?_
    rintro _ T8 h8 G8 ⟨rfl, hh⟩
    subst hh
    show OFin n0 p e below s (fun v _ => v = some (.int 1)) 0 0 T8 (mkF m 68 #[.val (.int p0), .val (.int p1), .val (.int (0 : Int32)), .val (.int (0 : Int32)), .val (.ref c0), .val (.ref c0), .val (.int (1 : Int32)), .val (.int (1 : Int32)), .val (.int (1 : Int32)), .val (.int (1 : Int32)), .unset, .unset] [(.int (1 : Int32))])
    refine o_istore G8 at_68 (pc' := 70) rfl (l' := #[.val (.int p0), .val (.int p1), .val (.int (0 : Int32)), .val (.int (0 : Int32)), .val (.ref c0), .val (.ref c0), .val (.int (1 : Int32)), .val (.int (1 : Int32)), .val (.int (1 : Int32)), .val (.int (1 : Int32)), .val (.int (1 : Int32)), .unset]) rfl ?_
    refine o_aload G8 at_70 (pc' := 72) rfl rfl rfl ?_
    refine o_callV G8 (z := (⟨"com/example/tributary/tributary/Pipeline$Fit", "skipsAtSource", "()Z"⟩ : MethodName)) (argsL := []) (rest := []) (W := 0) E0 (hw _ (List.mem_of_getElem? (i := 35) rfl)) (hw _ (List.mem_of_getElem? (i := 37) rfl)) (hw _ (List.mem_of_getElem? (i := 36) rfl)) (hw _ (List.mem_of_getElem? (i := 38) rfl)) at_72 (by decide) (hw _ (List.mem_of_getElem? (i := 5) rfl)) (hw _ (List.mem_of_getElem? (i := 39) rfl)) (rm5_1 hw c0 h0 n0 G8.sz c0 c1 c2 c3 mir FF E0 (0 : Int32) F0 (by decide)) (by decide) (by decide) rfl (lenOf pd_2 rfl) rfl (Nat.le_of_eq rfl) (pc' := 75) rfl (by decide) (by decide) ?_
    rintro _ T9 h9 G9 ⟨rfl, hh⟩
    subst hh
    show OFin n0 p e below s (fun v _ => v = some (.int 1)) 0 0 T9 (mkF m 75 #[.val (.int p0), .val (.int p1), .val (.int (0 : Int32)), .val (.int (0 : Int32)), .val (.ref c0), .val (.ref c0), .val (.int (1 : Int32)), .val (.int (1 : Int32)), .val (.int (1 : Int32)), .val (.int (1 : Int32)), .val (.int (1 : Int32)), .unset] [(.int (1 : Int32))])
    refine o_istore G9 at_75 (pc' := 77) rfl (l' := #[.val (.int p0), .val (.int p1), .val (.int (0 : Int32)), .val (.int (0 : Int32)), .val (.ref c0), .val (.ref c0), .val (.int (1 : Int32)), .val (.int (1 : Int32)), .val (.int (1 : Int32)), .val (.int (1 : Int32)), .val (.int (1 : Int32)), .val (.int (1 : Int32))]) rfl ?_
    refine o_iload G9 at_77 (pc' := 79) rfl rfl ?_
    refine o_iload G9 at_79 (pc' := 81) rfl rfl ?_
    refine o_icmp_ne G9 at_81 (by decide) (pcT := 125) (by decide) (pc' := 84) rfl (fun q => absurd (by decide) q) (fun _ => ?_)
    refine o_iload G9 at_84 (pc' := 86) rfl rfl ?_
    refine o_iload G9 at_86 (pc' := 88) rfl rfl ?_
    refine o_icmp_ne G9 at_88 (by decide) (pcT := 125) (by decide) (pc' := 91) rfl (fun q => absurd (by decide) q) (fun _ => ?_)
    refine o_iload G9 at_91 (pc' := 93) rfl rfl ?_
    refine o_iload G9 at_93 (pc' := 95) rfl rfl ?_
    refine o_if_eq G9 at_95 (by decide) (pcT := 107) (by decide) (pc' := 98) rfl (fun q => absurd q (by decide)) (fun _ => ?_)
    refine o_iload G9 at_98 (pc' := 100) rfl rfl ?_
    refine o_if_eq G9 at_100 (by decide) (pcT := 107) (by decide) (pc' := 103) rfl (fun q => absurd q (by decide)) (fun _ => ?_)
    refine o_iconst G9 at_103 (pc' := 104) rfl (v := (1 : Int32)) rfl ?_
    refine o_goto G9 at_104 (by decide) (pc' := 108) rfl ?_
    refine o_icmp_ne G9 at_108 (by decide) (pcT := 125) (by decide) (pc' := 111) rfl (fun q => absurd (by decide) q) (fun _ => ?_)
    refine o_iload G9 at_111 (pc' := 113) rfl rfl ?_
    refine o_if_eq G9 at_113 (by decide) (pcT := 121) (by decide) (pc' := 116) rfl (fun q => absurd q (by decide)) (fun _ => ?_)
    refine o_iload G9 at_116 (pc' := 118) rfl rfl ?_
    refine o_if_eq G9 at_118 (by decide) (pcT := 125) (by decide) (pc' := 121) rfl (fun q => absurd q (by decide)) (fun _ => ?_)
    refine o_iconst G9 at_121 (pc' := 122) rfl (v := (1 : Int32)) rfl ?_
    refine o_goto G9 at_122 (by decide) (pc' := 126) rfl ?_
    exact o_nreturn (t := .boolean) G9 (by simp) at_126 rfl (by decide) (by decide)
  · refine o_iloadN G0 at_8 (pc' := 9) rfl rfl ?_
    refine o_callS G0 (z := (⟨"com/example/tributary/tributary/FitLimitsAtSourcePinLaw", "pick", "(I)Lcom/example/tributary/tributary/Pipeline$Fit;"⟩ : MethodName)) (argsL := [(.int (0 : Int32))]) (rest := []) (W := 0) (hw _ (List.mem_of_getElem? (i := 0) rfl)) (hw _ (List.mem_of_getElem? (i := 1) rfl)) at_9 (by decide) (hw _ (List.mem_of_getElem? (i := 2) rfl)) (hw _ (List.mem_of_getElem? (i := 3) rfl)) (rm1_0 hw h0 n0 G0.sz c0 c1 c2 c3 mir FF) (by decide) (by decide) rfl (lenOf pd_1 rfl) rfl (Nat.le_of_eq rfl) (pc' := 12) rfl (by decide) (by decide) ?_
    rintro _ T10 h10 G10 ⟨rfl, hh⟩
    subst hh
    show OFin n0 p e below s (fun v _ => v = some (.int 1)) 0 0 T10 (mkF m 12 #[.val (.int p0), .val (.int p1), .val (.int (0 : Int32)), .val (.int (1 : Int32)), .unset, .unset, .unset, .unset, .unset, .unset, .unset, .unset] [(.ref c0)])
    refine o_astore G10 at_12 (pc' := 14) rfl rfl (l' := #[.val (.int p0), .val (.int p1), .val (.int (0 : Int32)), .val (.int (1 : Int32)), .val (.ref c0), .unset, .unset, .unset, .unset, .unset, .unset, .unset]) rfl ?_
    refine o_iloadN G10 at_14 (pc' := 15) rfl rfl ?_
    refine o_callS G10 (z := (⟨"com/example/tributary/tributary/FitLimitsAtSourcePinLaw", "pick", "(I)Lcom/example/tributary/tributary/Pipeline$Fit;"⟩ : MethodName)) (argsL := [(.int (1 : Int32))]) (rest := []) (W := 0) (hw _ (List.mem_of_getElem? (i := 0) rfl)) (hw _ (List.mem_of_getElem? (i := 1) rfl)) at_15 (by decide) (hw _ (List.mem_of_getElem? (i := 2) rfl)) (hw _ (List.mem_of_getElem? (i := 3) rfl)) (rm1_1 hw h0 n0 G10.sz c0 c1 c2 c3 mir FF) (by decide) (by decide) rfl (lenOf pd_1 rfl) rfl (Nat.le_of_eq rfl) (pc' := 18) rfl (by decide) (by decide) ?_
    rintro _ T11 h11 G11 ⟨rfl, hh⟩
    subst hh
    show OFin n0 p e below s (fun v _ => v = some (.int 1)) 0 0 T11 (mkF m 18 #[.val (.int p0), .val (.int p1), .val (.int (0 : Int32)), .val (.int (1 : Int32)), .val (.ref c0), .unset, .unset, .unset, .unset, .unset, .unset, .unset] [(.ref c1)])
    refine o_astore G11 at_18 (pc' := 20) rfl rfl (l' := #[.val (.int p0), .val (.int p1), .val (.int (0 : Int32)), .val (.int (1 : Int32)), .val (.ref c0), .val (.ref c1), .unset, .unset, .unset, .unset, .unset, .unset]) rfl ?_
    refine o_iloadN G11 at_20 (pc' := 21) rfl rfl ?_
    refine o_iconst G11 at_21 (pc' := 22) rfl (v := (3 : Int32)) rfl ?_
    refine o_icmp_eq G11 at_22 (by decide) (pcT := 29) (by decide) (pc' := 25) rfl (fun q => absurd q (by decide)) (fun _ => ?_)
    refine o_iconst G11 at_25 (pc' := 26) rfl (v := (1 : Int32)) rfl ?_
    refine o_goto G11 at_26 (by decide) (pc' := 30) rfl ?_
    refine o_istore G11 at_30 (pc' := 32) rfl (l' := #[.val (.int p0), .val (.int p1), .val (.int (0 : Int32)), .val (.int (1 : Int32)), .val (.ref c0), .val (.ref c1), .val (.int (1 : Int32)), .unset, .unset, .unset, .unset, .unset]) rfl ?_
    refine o_iloadN G11 at_32 (pc' := 33) rfl rfl ?_
    refine o_iconst G11 at_33 (pc' := 34) rfl (v := (3 : Int32)) rfl ?_
    refine o_icmp_eq G11 at_34 (by decide) (pcT := 41) (by decide) (pc' := 37) rfl (fun q => absurd q (by decide)) (fun _ => ?_)
    refine o_iconst G11 at_37 (pc' := 38) rfl (v := (1 : Int32)) rfl ?_
    refine o_goto G11 at_38 (by decide) (pc' := 42) rfl ?_
    refine o_istore G11 at_42 (pc' := 44) rfl (l' := #[.val (.int p0), .val (.int p1), .val (.int (0 : Int32)), .val (.int (1 : Int32)), .val (.ref c0), .val (.ref c1), .val (.int (1 : Int32)), .val (.int (1 : Int32)), .unset, .unset, .unset, .unset]) rfl ?_
    refine o_aload G11 at_44 (pc' := 46) rfl rfl rfl ?_
    refine o_callV G11 (z := (⟨"com/example/tributary/tributary/Pipeline$Fit", "limitsAtSource", "()Z"⟩ : MethodName)) (argsL := []) (rest := []) (W := 0) E0 (hw _ (List.mem_of_getElem? (i := 9) rfl)) (hw _ (List.mem_of_getElem? (i := 11) rfl)) (hw _ (List.mem_of_getElem? (i := 10) rfl)) (hw _ (List.mem_of_getElem? (i := 12) rfl)) at_46 (by decide) (hw _ (List.mem_of_getElem? (i := 5) rfl)) (hw _ (List.mem_of_getElem? (i := 13) rfl)) (rm2_t hw c0 h0 n0 G11.sz c0 c1 c2 c3 mir FF (Fld.ne F0 F3 (by decide))) (by decide) (by decide) rfl (lenOf pd_2 rfl) rfl (Nat.le_of_eq rfl) (pc' := 49) rfl (by decide) (by decide) ?_
    rintro _ T12 h12 G12 ⟨rfl, hh⟩
    subst hh
    show OFin n0 p e below s (fun v _ => v = some (.int 1)) 0 0 T12 (mkF m 49 #[.val (.int p0), .val (.int p1), .val (.int (0 : Int32)), .val (.int (1 : Int32)), .val (.ref c0), .val (.ref c1), .val (.int (1 : Int32)), .val (.int (1 : Int32)), .unset, .unset, .unset, .unset] [(.int (1 : Int32))])
    refine o_istore G12 at_49 (pc' := 51) rfl (l' := #[.val (.int p0), .val (.int p1), .val (.int (0 : Int32)), .val (.int (1 : Int32)), .val (.ref c0), .val (.ref c1), .val (.int (1 : Int32)), .val (.int (1 : Int32)), .val (.int (1 : Int32)), .unset, .unset, .unset]) rfl ?_
    refine o_aload G12 at_51 (pc' := 53) rfl rfl rfl ?_
    refine o_callV G12 (z := (⟨"com/example/tributary/tributary/Pipeline$Fit", "limitsAtSource", "()Z"⟩ : MethodName)) (argsL := []) (rest := []) (W := 0) E1 (hw _ (List.mem_of_getElem? (i := 9) rfl)) (hw _ (List.mem_of_getElem? (i := 11) rfl)) (hw _ (List.mem_of_getElem? (i := 10) rfl)) (hw _ (List.mem_of_getElem? (i := 12) rfl)) at_53 (by decide) (hw _ (List.mem_of_getElem? (i := 5) rfl)) (hw _ (List.mem_of_getElem? (i := 13) rfl)) (rm2_t hw c1 h0 n0 G12.sz c0 c1 c2 c3 mir FF (Fld.ne F1 F3 (by decide))) (by decide) (by decide) rfl (lenOf pd_2 rfl) rfl (Nat.le_of_eq rfl) (pc' := 56) rfl (by decide) (by decide) ?_
    rintro _ T13 h13 G13 ⟨rfl, hh⟩
    subst hh
    show OFin n0 p e below s (fun v _ => v = some (.int 1)) 0 0 T13 (mkF m 56 #[.val (.int p0), .val (.int p1), .val (.int (0 : Int32)), .val (.int (1 : Int32)), .val (.ref c0), .val (.ref c1), .val (.int (1 : Int32)), .val (.int (1 : Int32)), .val (.int (1 : Int32)), .unset, .unset, .unset] [(.int (1 : Int32))])
    refine o_istore G13 at_56 (pc' := 58) rfl (l' := #[.val (.int p0), .val (.int p1), .val (.int (0 : Int32)), .val (.int (1 : Int32)), .val (.ref c0), .val (.ref c1), .val (.int (1 : Int32)), .val (.int (1 : Int32)), .val (.int (1 : Int32)), .val (.int (1 : Int32)), .unset, .unset]) rfl ?_
    refine o_aload G13 at_58 (pc' := 60) rfl rfl rfl ?_
    refine o_aload G13 at_60 (pc' := 62) rfl rfl rfl ?_
    refine o_callV G13 (z := (⟨"com/example/tributary/tributary/Pipeline$Fit", "then", "(Lcom/example/tributary/tributary/Pipeline$Fit;)Lcom/example/tributary/tributary/Pipeline$Fit;"⟩ : MethodName)) (argsL := [(.ref c1)]) (rest := []) (W := 0) E0 (hw _ (List.mem_of_getElem? (i := 15) rfl)) (hw _ (List.mem_of_getElem? (i := 17) rfl)) (hw _ (List.mem_of_getElem? (i := 16) rfl)) (hw _ (List.mem_of_getElem? (i := 18) rfl)) at_62 (by decide) (hw _ (List.mem_of_getElem? (i := 5) rfl)) (hw _ (List.mem_of_getElem? (i := 19) rfl)) (rm3_l hw c0 c1 h0 n0 G13.sz c0 c1 c2 c3 mir FF E0 E1 (0 : Int32) (1 : Int32) F0 F1 (by decide)) (by decide) (by decide) rfl (lenOf pd_3 rfl) rfl (Nat.le_of_eq rfl) (pc' := 65) rfl (by decide) (by decide) ?_
    rintro _ T14 h14 G14 ⟨rfl, hh⟩
    subst hh
    show OFin n0 p e below s (fun v _ => v = some (.int 1)) 0 0 T14 (mkF m 65 #[.val (.int p0), .val (.int p1), .val (.int (0 : Int32)), .val (.int (1 : Int32)), .val (.ref c0), .val (.ref c1), .val (.int (1 : Int32)), .val (.int (1 : Int32)), .val (.int (1 : Int32)), .val (.int (1 : Int32)), .unset, .unset] [(.ref c1)])
    refine o_callV G14 (z := (⟨"com/example/tributary/tributary/Pipeline$Fit", "limitsAtSource", "()Z"⟩ : MethodName)) (argsL := []) (rest := []) (W := 0) E1 (hw _ (List.mem_of_getElem? (i := 9) rfl)) (hw _ (List.mem_of_getElem? (i := 11) rfl)) (hw _ (List.mem_of_getElem? (i := 10) rfl)) (hw _ (List.mem_of_getElem? (i := 12) rfl)) at_65 (by decide) (hw _ (List.mem_of_getElem? (i := 5) rfl)) (hw _ (List.mem_of_getElem? (i := 13) rfl)) (rm2_t hw c1 h0 n0 G14.sz c0 c1 c2 c3 mir FF (Fld.ne F1 F3 (by decide))) (by decide) (by decide) rfl (lenOf pd_2 rfl) rfl (Nat.le_of_eq rfl) (pc' := 68) rfl (by decide) (by decide) ?_
    rintro _ T15 h15 G15 ⟨rfl, hh⟩
    subst hh
    show OFin n0 p e below s (fun v _ => v = some (.int 1)) 0 0 T15 (mkF m 68 #[.val (.int p0), .val (.int p1), .val (.int (0 : Int32)), .val (.int (1 : Int32)), .val (.ref c0), .val (.ref c1), .val (.int (1 : Int32)), .val (.int (1 : Int32)), .val (.int (1 : Int32)), .val (.int (1 : Int32)), .unset, .unset] [(.int (1 : Int32))])
    refine o_istore G15 at_68 (pc' := 70) rfl (l' := #[.val (.int p0), .val (.int p1), .val (.int (0 : Int32)), .val (.int (1 : Int32)), .val (.ref c0), .val (.ref c1), .val (.int (1 : Int32)), .val (.int (1 : Int32)), .val (.int (1 : Int32)), .val (.int (1 : Int32)), .val (.int (1 : Int32)), .unset]) rfl ?_
    refine o_aload G15 at_70 (pc' := 72) rfl rfl rfl ?_
    refine o_callV G15 (z := (⟨"com/example/tributary/tributary/Pipeline$Fit", "skipsAtSource", "()Z"⟩ : MethodName)) (argsL := []) (rest := []) (W := 0) E0 (hw _ (List.mem_of_getElem? (i := 35) rfl)) (hw _ (List.mem_of_getElem? (i := 37) rfl)) (hw _ (List.mem_of_getElem? (i := 36) rfl)) (hw _ (List.mem_of_getElem? (i := 38) rfl)) at_72 (by decide) (hw _ (List.mem_of_getElem? (i := 5) rfl)) (hw _ (List.mem_of_getElem? (i := 39) rfl)) (rm5_1 hw c0 h0 n0 G15.sz c0 c1 c2 c3 mir FF E0 (0 : Int32) F0 (by decide)) (by decide) (by decide) rfl (lenOf pd_2 rfl) rfl (Nat.le_of_eq rfl) (pc' := 75) rfl (by decide) (by decide) ?_
    rintro _ T16 h16 G16 ⟨rfl, hh⟩
    subst hh
    show OFin n0 p e below s (fun v _ => v = some (.int 1)) 0 0 T16 (mkF m 75 #[.val (.int p0), .val (.int p1), .val (.int (0 : Int32)), .val (.int (1 : Int32)), .val (.ref c0), .val (.ref c1), .val (.int (1 : Int32)), .val (.int (1 : Int32)), .val (.int (1 : Int32)), .val (.int (1 : Int32)), .val (.int (1 : Int32)), .unset] [(.int (1 : Int32))])
    refine o_istore G16 at_75 (pc' := 77) rfl (l' := #[.val (.int p0), .val (.int p1), .val (.int (0 : Int32)), .val (.int (1 : Int32)), .val (.ref c0), .val (.ref c1), .val (.int (1 : Int32)), .val (.int (1 : Int32)), .val (.int (1 : Int32)), .val (.int (1 : Int32)), .val (.int (1 : Int32)), .val (.int (1 : Int32))]) rfl ?_
    refine o_iload G16 at_77 (pc' := 79) rfl rfl ?_
    refine o_iload G16 at_79 (pc' := 81) rfl rfl ?_
    refine o_icmp_ne G16 at_81 (by decide) (pcT := 125) (by decide) (pc' := 84) rfl (fun q => absurd (by decide) q) (fun _ => ?_)
    refine o_iload G16 at_84 (pc' := 86) rfl rfl ?_
    refine o_iload G16 at_86 (pc' := 88) rfl rfl ?_
    refine o_icmp_ne G16 at_88 (by decide) (pcT := 125) (by decide) (pc' := 91) rfl (fun q => absurd (by decide) q) (fun _ => ?_)
    refine o_iload G16 at_91 (pc' := 93) rfl rfl ?_
    refine o_iload G16 at_93 (pc' := 95) rfl rfl ?_
    refine o_if_eq G16 at_95 (by decide) (pcT := 107) (by decide) (pc' := 98) rfl (fun q => absurd q (by decide)) (fun _ => ?_)
    refine o_iload G16 at_98 (pc' := 100) rfl rfl ?_
    refine o_if_eq G16 at_100 (by decide) (pcT := 107) (by decide) (pc' := 103) rfl (fun q => absurd q (by decide)) (fun _ => ?_)
    refine o_iconst G16 at_103 (pc' := 104) rfl (v := (1 : Int32)) rfl ?_
    refine o_goto G16 at_104 (by decide) (pc' := 108) rfl ?_
    refine o_icmp_ne G16 at_108 (by decide) (pcT := 125) (by decide) (pc' := 111) rfl (fun q => absurd (by decide) q) (fun _ => ?_)
    refine o_iload G16 at_111 (pc' := 113) rfl rfl ?_
    refine o_if_eq G16 at_113 (by decide) (pcT := 121) (by decide) (pc' := 116) rfl (fun q => absurd q (by decide)) (fun _ => ?_)
    refine o_iload G16 at_116 (pc' := 118) rfl rfl ?_
    refine o_if_eq G16 at_118 (by decide) (pcT := 125) (by decide) (pc' := 121) rfl (fun q => absurd q (by decide)) (fun _ => ?_)
    refine o_iconst G16 at_121 (pc' := 122) rfl (v := (1 : Int32)) rfl ?_
    refine o_goto G16 at_122 (by decide) (pc' := 126) rfl ?_
    exact o_nreturn (t := .boolean) G16 (by simp) at_126 rfl (by decide) (by decide)
  · refine o_iloadN G0 at_8 (pc' := 9) rfl rfl ?_
    refine o_callS G0 (z := (⟨"com/example/tributary/tributary/FitLimitsAtSourcePinLaw", "pick", "(I)Lcom/example/tributary/tributary/Pipeline$Fit;"⟩ : MethodName)) (argsL := [(.int (0 : Int32))]) (rest := []) (W := 0) (hw _ (List.mem_of_getElem? (i := 0) rfl)) (hw _ (List.mem_of_getElem? (i := 1) rfl)) at_9 (by decide) (hw _ (List.mem_of_getElem? (i := 2) rfl)) (hw _ (List.mem_of_getElem? (i := 3) rfl)) (rm1_0 hw h0 n0 G0.sz c0 c1 c2 c3 mir FF) (by decide) (by decide) rfl (lenOf pd_1 rfl) rfl (Nat.le_of_eq rfl) (pc' := 12) rfl (by decide) (by decide) ?_
    rintro _ T17 h17 G17 ⟨rfl, hh⟩
    subst hh
    show OFin n0 p e below s (fun v _ => v = some (.int 1)) 0 0 T17 (mkF m 12 #[.val (.int p0), .val (.int p1), .val (.int (0 : Int32)), .val (.int (2 : Int32)), .unset, .unset, .unset, .unset, .unset, .unset, .unset, .unset] [(.ref c0)])
    refine o_astore G17 at_12 (pc' := 14) rfl rfl (l' := #[.val (.int p0), .val (.int p1), .val (.int (0 : Int32)), .val (.int (2 : Int32)), .val (.ref c0), .unset, .unset, .unset, .unset, .unset, .unset, .unset]) rfl ?_
    refine o_iloadN G17 at_14 (pc' := 15) rfl rfl ?_
    refine o_callS G17 (z := (⟨"com/example/tributary/tributary/FitLimitsAtSourcePinLaw", "pick", "(I)Lcom/example/tributary/tributary/Pipeline$Fit;"⟩ : MethodName)) (argsL := [(.int (2 : Int32))]) (rest := []) (W := 0) (hw _ (List.mem_of_getElem? (i := 0) rfl)) (hw _ (List.mem_of_getElem? (i := 1) rfl)) at_15 (by decide) (hw _ (List.mem_of_getElem? (i := 2) rfl)) (hw _ (List.mem_of_getElem? (i := 3) rfl)) (rm1_2 hw h0 n0 G17.sz c0 c1 c2 c3 mir FF) (by decide) (by decide) rfl (lenOf pd_1 rfl) rfl (Nat.le_of_eq rfl) (pc' := 18) rfl (by decide) (by decide) ?_
    rintro _ T18 h18 G18 ⟨rfl, hh⟩
    subst hh
    show OFin n0 p e below s (fun v _ => v = some (.int 1)) 0 0 T18 (mkF m 18 #[.val (.int p0), .val (.int p1), .val (.int (0 : Int32)), .val (.int (2 : Int32)), .val (.ref c0), .unset, .unset, .unset, .unset, .unset, .unset, .unset] [(.ref c2)])
    refine o_astore G18 at_18 (pc' := 20) rfl rfl (l' := #[.val (.int p0), .val (.int p1), .val (.int (0 : Int32)), .val (.int (2 : Int32)), .val (.ref c0), .val (.ref c2), .unset, .unset, .unset, .unset, .unset, .unset]) rfl ?_
    refine o_iloadN G18 at_20 (pc' := 21) rfl rfl ?_
    refine o_iconst G18 at_21 (pc' := 22) rfl (v := (3 : Int32)) rfl ?_
    refine o_icmp_eq G18 at_22 (by decide) (pcT := 29) (by decide) (pc' := 25) rfl (fun q => absurd q (by decide)) (fun _ => ?_)
    refine o_iconst G18 at_25 (pc' := 26) rfl (v := (1 : Int32)) rfl ?_
    refine o_goto G18 at_26 (by decide) (pc' := 30) rfl ?_
    refine o_istore G18 at_30 (pc' := 32) rfl (l' := #[.val (.int p0), .val (.int p1), .val (.int (0 : Int32)), .val (.int (2 : Int32)), .val (.ref c0), .val (.ref c2), .val (.int (1 : Int32)), .unset, .unset, .unset, .unset, .unset]) rfl ?_
    refine o_iloadN G18 at_32 (pc' := 33) rfl rfl ?_
    refine o_iconst G18 at_33 (pc' := 34) rfl (v := (3 : Int32)) rfl ?_
    refine o_icmp_eq G18 at_34 (by decide) (pcT := 41) (by decide) (pc' := 37) rfl (fun q => absurd q (by decide)) (fun _ => ?_)
    refine o_iconst G18 at_37 (pc' := 38) rfl (v := (1 : Int32)) rfl ?_
    refine o_goto G18 at_38 (by decide) (pc' := 42) rfl ?_
    refine o_istore G18 at_42 (pc' := 44) rfl (l' := #[.val (.int p0), .val (.int p1), .val (.int (0 : Int32)), .val (.int (2 : Int32)), .val (.ref c0), .val (.ref c2), .val (.int (1 : Int32)), .val (.int (1 : Int32)), .unset, .unset, .unset, .unset]) rfl ?_
    refine o_aload G18 at_44 (pc' := 46) rfl rfl rfl ?_
    refine o_callV G18 (z := (⟨"com/example/tributary/tributary/Pipeline$Fit", "limitsAtSource", "()Z"⟩ : MethodName)) (argsL := []) (rest := []) (W := 0) E0 (hw _ (List.mem_of_getElem? (i := 9) rfl)) (hw _ (List.mem_of_getElem? (i := 11) rfl)) (hw _ (List.mem_of_getElem? (i := 10) rfl)) (hw _ (List.mem_of_getElem? (i := 12) rfl)) at_46 (by decide) (hw _ (List.mem_of_getElem? (i := 5) rfl)) (hw _ (List.mem_of_getElem? (i := 13) rfl)) (rm2_t hw c0 h0 n0 G18.sz c0 c1 c2 c3 mir FF (Fld.ne F0 F3 (by decide))) (by decide) (by decide) rfl (lenOf pd_2 rfl) rfl (Nat.le_of_eq rfl) (pc' := 49) rfl (by decide) (by decide) ?_
    rintro _ T19 h19 G19 ⟨rfl, hh⟩
    subst hh
    show OFin n0 p e below s (fun v _ => v = some (.int 1)) 0 0 T19 (mkF m 49 #[.val (.int p0), .val (.int p1), .val (.int (0 : Int32)), .val (.int (2 : Int32)), .val (.ref c0), .val (.ref c2), .val (.int (1 : Int32)), .val (.int (1 : Int32)), .unset, .unset, .unset, .unset] [(.int (1 : Int32))])
    refine o_istore G19 at_49 (pc' := 51) rfl (l' := #[.val (.int p0), .val (.int p1), .val (.int (0 : Int32)), .val (.int (2 : Int32)), .val (.ref c0), .val (.ref c2), .val (.int (1 : Int32)), .val (.int (1 : Int32)), .val (.int (1 : Int32)), .unset, .unset, .unset]) rfl ?_
    refine o_aload G19 at_51 (pc' := 53) rfl rfl rfl ?_
    refine o_callV G19 (z := (⟨"com/example/tributary/tributary/Pipeline$Fit", "limitsAtSource", "()Z"⟩ : MethodName)) (argsL := []) (rest := []) (W := 0) E2 (hw _ (List.mem_of_getElem? (i := 9) rfl)) (hw _ (List.mem_of_getElem? (i := 11) rfl)) (hw _ (List.mem_of_getElem? (i := 10) rfl)) (hw _ (List.mem_of_getElem? (i := 12) rfl)) at_53 (by decide) (hw _ (List.mem_of_getElem? (i := 5) rfl)) (hw _ (List.mem_of_getElem? (i := 13) rfl)) (rm2_t hw c2 h0 n0 G19.sz c0 c1 c2 c3 mir FF (Fld.ne F2 F3 (by decide))) (by decide) (by decide) rfl (lenOf pd_2 rfl) rfl (Nat.le_of_eq rfl) (pc' := 56) rfl (by decide) (by decide) ?_
    rintro _ T20 h20 G20 ⟨rfl, hh⟩
    subst hh
    show OFin n0 p e below s (fun v _ => v = some (.int 1)) 0 0 T20 (mkF m 56 #[.val (.int p0), .val (.int p1), .val (.int (0 : Int32)), .val (.int (2 : Int32)), .val (.ref c0), .val (.ref c2), .val (.int (1 : Int32)), .val (.int (1 : Int32)), .val (.int (1 : Int32)), .unset, .unset, .unset] [(.int (1 : Int32))])
    refine o_istore G20 at_56 (pc' := 58) rfl (l' := #[.val (.int p0), .val (.int p1), .val (.int (0 : Int32)), .val (.int (2 : Int32)), .val (.ref c0), .val (.ref c2), .val (.int (1 : Int32)), .val (.int (1 : Int32)), .val (.int (1 : Int32)), .val (.int (1 : Int32)), .unset, .unset]) rfl ?_
    refine o_aload G20 at_58 (pc' := 60) rfl rfl rfl ?_
    refine o_aload G20 at_60 (pc' := 62) rfl rfl rfl ?_
    refine o_callV G20 (z := (⟨"com/example/tributary/tributary/Pipeline$Fit", "then", "(Lcom/example/tributary/tributary/Pipeline$Fit;)Lcom/example/tributary/tributary/Pipeline$Fit;"⟩ : MethodName)) (argsL := [(.ref c2)]) (rest := []) (W := 0) E0 (hw _ (List.mem_of_getElem? (i := 15) rfl)) (hw _ (List.mem_of_getElem? (i := 17) rfl)) (hw _ (List.mem_of_getElem? (i := 16) rfl)) (hw _ (List.mem_of_getElem? (i := 18) rfl)) at_62 (by decide) (hw _ (List.mem_of_getElem? (i := 5) rfl)) (hw _ (List.mem_of_getElem? (i := 19) rfl)) (rm3_l hw c0 c2 h0 n0 G20.sz c0 c1 c2 c3 mir FF E0 E2 (0 : Int32) (2 : Int32) F0 F2 (by decide)) (by decide) (by decide) rfl (lenOf pd_3 rfl) rfl (Nat.le_of_eq rfl) (pc' := 65) rfl (by decide) (by decide) ?_
    rintro _ T21 h21 G21 ⟨rfl, hh⟩
    subst hh
    show OFin n0 p e below s (fun v _ => v = some (.int 1)) 0 0 T21 (mkF m 65 #[.val (.int p0), .val (.int p1), .val (.int (0 : Int32)), .val (.int (2 : Int32)), .val (.ref c0), .val (.ref c2), .val (.int (1 : Int32)), .val (.int (1 : Int32)), .val (.int (1 : Int32)), .val (.int (1 : Int32)), .unset, .unset] [(.ref c2)])
    refine o_callV G21 (z := (⟨"com/example/tributary/tributary/Pipeline$Fit", "limitsAtSource", "()Z"⟩ : MethodName)) (argsL := []) (rest := []) (W := 0) E2 (hw _ (List.mem_of_getElem? (i := 9) rfl)) (hw _ (List.mem_of_getElem? (i := 11) rfl)) (hw _ (List.mem_of_getElem? (i := 10) rfl)) (hw _ (List.mem_of_getElem? (i := 12) rfl)) at_65 (by decide) (hw _ (List.mem_of_getElem? (i := 5) rfl)) (hw _ (List.mem_of_getElem? (i := 13) rfl)) (rm2_t hw c2 h0 n0 G21.sz c0 c1 c2 c3 mir FF (Fld.ne F2 F3 (by decide))) (by decide) (by decide) rfl (lenOf pd_2 rfl) rfl (Nat.le_of_eq rfl) (pc' := 68) rfl (by decide) (by decide) ?_
    rintro _ T22 h22 G22 ⟨rfl, hh⟩
    subst hh
    show OFin n0 p e below s (fun v _ => v = some (.int 1)) 0 0 T22 (mkF m 68 #[.val (.int p0), .val (.int p1), .val (.int (0 : Int32)), .val (.int (2 : Int32)), .val (.ref c0), .val (.ref c2), .val (.int (1 : Int32)), .val (.int (1 : Int32)), .val (.int (1 : Int32)), .val (.int (1 : Int32)), .unset, .unset] [(.int (1 : Int32))])
    refine o_istore G22 at_68 (pc' := 70) rfl (l' := #[.val (.int p0), .val (.int p1), .val (.int (0 : Int32)), .val (.int (2 : Int32)), .val (.ref c0), .val (.ref c2), .val (.int (1 : Int32)), .val (.int (1 : Int32)), .val (.int (1 : Int32)), .val (.int (1 : Int32)), .val (.int (1 : Int32)), .unset]) rfl ?_
    refine o_aload G22 at_70 (pc' := 72) rfl rfl rfl ?_
    refine o_callV G22 (z := (⟨"com/example/tributary/tributary/Pipeline$Fit", "skipsAtSource", "()Z"⟩ : MethodName)) (argsL := []) (rest := []) (W := 0) E0 (hw _ (List.mem_of_getElem? (i := 35) rfl)) (hw _ (List.mem_of_getElem? (i := 37) rfl)) (hw _ (List.mem_of_getElem? (i := 36) rfl)) (hw _ (List.mem_of_getElem? (i := 38) rfl)) at_72 (by decide) (hw _ (List.mem_of_getElem? (i := 5) rfl)) (hw _ (List.mem_of_getElem? (i := 39) rfl)) (rm5_1 hw c0 h0 n0 G22.sz c0 c1 c2 c3 mir FF E0 (0 : Int32) F0 (by decide)) (by decide) (by decide) rfl (lenOf pd_2 rfl) rfl (Nat.le_of_eq rfl) (pc' := 75) rfl (by decide) (by decide) ?_
    rintro _ T23 h23 G23 ⟨rfl, hh⟩
    subst hh
    show OFin n0 p e below s (fun v _ => v = some (.int 1)) 0 0 T23 (mkF m 75 #[.val (.int p0), .val (.int p1), .val (.int (0 : Int32)), .val (.int (2 : Int32)), .val (.ref c0), .val (.ref c2), .val (.int (1 : Int32)), .val (.int (1 : Int32)), .val (.int (1 : Int32)), .val (.int (1 : Int32)), .val (.int (1 : Int32)), .unset] [(.int (1 : Int32))])
    refine o_istore G23 at_75 (pc' := 77) rfl (l' := #[.val (.int p0), .val (.int p1), .val (.int (0 : Int32)), .val (.int (2 : Int32)), .val (.ref c0), .val (.ref c2), .val (.int (1 : Int32)), .val (.int (1 : Int32)), .val (.int (1 : Int32)), .val (.int (1 : Int32)), .val (.int (1 : Int32)), .val (.int (1 : Int32))]) rfl ?_
    refine o_iload G23 at_77 (pc' := 79) rfl rfl ?_
    refine o_iload G23 at_79 (pc' := 81) rfl rfl ?_
    refine o_icmp_ne G23 at_81 (by decide) (pcT := 125) (by decide) (pc' := 84) rfl (fun q => absurd (by decide) q) (fun _ => ?_)
    refine o_iload G23 at_84 (pc' := 86) rfl rfl ?_
    refine o_iload G23 at_86 (pc' := 88) rfl rfl ?_
    refine o_icmp_ne G23 at_88 (by decide) (pcT := 125) (by decide) (pc' := 91) rfl (fun q => absurd (by decide) q) (fun _ => ?_)
    refine o_iload G23 at_91 (pc' := 93) rfl rfl ?_
    refine o_iload G23 at_93 (pc' := 95) rfl rfl ?_
    refine o_if_eq G23 at_95 (by decide) (pcT := 107) (by decide) (pc' := 98) rfl (fun q => absurd q (by decide)) (fun _ => ?_)
    refine o_iload G23 at_98 (pc' := 100) rfl rfl ?_
    refine o_if_eq G23 at_100 (by decide) (pcT := 107) (by decide) (pc' := 103) rfl (fun q => absurd q (by decide)) (fun _ => ?_)
    refine o_iconst G23 at_103 (pc' := 104) rfl (v := (1 : Int32)) rfl ?_
    refine o_goto G23 at_104 (by decide) (pc' := 108) rfl ?_
    refine o_icmp_ne G23 at_108 (by decide) (pcT := 125) (by decide) (pc' := 111) rfl (fun q => absurd (by decide) q) (fun _ => ?_)
    refine o_iload G23 at_111 (pc' := 113) rfl rfl ?_
    refine o_if_eq G23 at_113 (by decide) (pcT := 121) (by decide) (pc' := 116) rfl (fun q => absurd q (by decide)) (fun _ => ?_)
    refine o_iload G23 at_116 (pc' := 118) rfl rfl ?_
    refine o_if_eq G23 at_118 (by decide) (pcT := 125) (by decide) (pc' := 121) rfl (fun q => absurd q (by decide)) (fun _ => ?_)
    refine o_iconst G23 at_121 (pc' := 122) rfl (v := (1 : Int32)) rfl ?_
    refine o_goto G23 at_122 (by decide) (pc' := 126) rfl ?_
    exact o_nreturn (t := .boolean) G23 (by simp) at_126 rfl (by decide) (by decide)
  · refine o_iloadN G0 at_8 (pc' := 9) rfl rfl ?_
    refine o_callS G0 (z := (⟨"com/example/tributary/tributary/FitLimitsAtSourcePinLaw", "pick", "(I)Lcom/example/tributary/tributary/Pipeline$Fit;"⟩ : MethodName)) (argsL := [(.int (0 : Int32))]) (rest := []) (W := 0) (hw _ (List.mem_of_getElem? (i := 0) rfl)) (hw _ (List.mem_of_getElem? (i := 1) rfl)) at_9 (by decide) (hw _ (List.mem_of_getElem? (i := 2) rfl)) (hw _ (List.mem_of_getElem? (i := 3) rfl)) (rm1_0 hw h0 n0 G0.sz c0 c1 c2 c3 mir FF) (by decide) (by decide) rfl (lenOf pd_1 rfl) rfl (Nat.le_of_eq rfl) (pc' := 12) rfl (by decide) (by decide) ?_
    rintro _ T24 h24 G24 ⟨rfl, hh⟩
    subst hh
    show OFin n0 p e below s (fun v _ => v = some (.int 1)) 0 0 T24 (mkF m 12 #[.val (.int p0), .val (.int p1), .val (.int (0 : Int32)), .val (.int (3 : Int32)), .unset, .unset, .unset, .unset, .unset, .unset, .unset, .unset] [(.ref c0)])
    refine o_astore G24 at_12 (pc' := 14) rfl rfl (l' := #[.val (.int p0), .val (.int p1), .val (.int (0 : Int32)), .val (.int (3 : Int32)), .val (.ref c0), .unset, .unset, .unset, .unset, .unset, .unset, .unset]) rfl ?_
    refine o_iloadN G24 at_14 (pc' := 15) rfl rfl ?_
    refine o_callS G24 (z := (⟨"com/example/tributary/tributary/FitLimitsAtSourcePinLaw", "pick", "(I)Lcom/example/tributary/tributary/Pipeline$Fit;"⟩ : MethodName)) (argsL := [(.int (3 : Int32))]) (rest := []) (W := 0) (hw _ (List.mem_of_getElem? (i := 0) rfl)) (hw _ (List.mem_of_getElem? (i := 1) rfl)) at_15 (by decide) (hw _ (List.mem_of_getElem? (i := 2) rfl)) (hw _ (List.mem_of_getElem? (i := 3) rfl)) (rm1_3 hw h0 n0 G24.sz c0 c1 c2 c3 mir FF) (by decide) (by decide) rfl (lenOf pd_1 rfl) rfl (Nat.le_of_eq rfl) (pc' := 18) rfl (by decide) (by decide) ?_
    rintro _ T25 h25 G25 ⟨rfl, hh⟩
    subst hh
    show OFin n0 p e below s (fun v _ => v = some (.int 1)) 0 0 T25 (mkF m 18 #[.val (.int p0), .val (.int p1), .val (.int (0 : Int32)), .val (.int (3 : Int32)), .val (.ref c0), .unset, .unset, .unset, .unset, .unset, .unset, .unset] [(.ref c3)])
    refine o_astore G25 at_18 (pc' := 20) rfl rfl (l' := #[.val (.int p0), .val (.int p1), .val (.int (0 : Int32)), .val (.int (3 : Int32)), .val (.ref c0), .val (.ref c3), .unset, .unset, .unset, .unset, .unset, .unset]) rfl ?_
    refine o_iloadN G25 at_20 (pc' := 21) rfl rfl ?_
    refine o_iconst G25 at_21 (pc' := 22) rfl (v := (3 : Int32)) rfl ?_
    refine o_icmp_eq G25 at_22 (by decide) (pcT := 29) (by decide) (pc' := 25) rfl (fun q => absurd q (by decide)) (fun _ => ?_)
    refine o_iconst G25 at_25 (pc' := 26) rfl (v := (1 : Int32)) rfl ?_
    refine o_goto G25 at_26 (by decide) (pc' := 30) rfl ?_
    refine o_istore G25 at_30 (pc' := 32) rfl (l' := #[.val (.int p0), .val (.int p1), .val (.int (0 : Int32)), .val (.int (3 : Int32)), .val (.ref c0), .val (.ref c3), .val (.int (1 : Int32)), .unset, .unset, .unset, .unset, .unset]) rfl ?_
    refine o_iloadN G25 at_32 (pc' := 33) rfl rfl ?_
    refine o_iconst G25 at_33 (pc' := 34) rfl (v := (3 : Int32)) rfl ?_
    refine o_icmp_eq G25 at_34 (by decide) (pcT := 41) (by decide) (pc' := 37) rfl (fun _ => ?_) (fun q => absurd (by decide) q)
    refine o_iconst G25 at_41 (pc' := 42) rfl (v := (0 : Int32)) rfl ?_
    refine o_istore G25 at_42 (pc' := 44) rfl (l' := #[.val (.int p0), .val (.int p1), .val (.int (0 : Int32)), .val (.int (3 : Int32)), .val (.ref c0), .val (.ref c3), .val (.int (1 : Int32)), .val (.int (0 : Int32)), .unset, .unset, .unset, .unset]) rfl ?_
    refine o_aload G25 at_44 (pc' := 46) rfl rfl rfl ?_
    refine o_callV G25 (z := (⟨"com/example/tributary/tributary/Pipeline$Fit", "limitsAtSource", "()Z"⟩ : MethodName)) (argsL := []) (rest := []) (W := 0) E0 (hw _ (List.mem_of_getElem? (i := 9) rfl)) (hw _ (List.mem_of_getElem? (i := 11) rfl)) (hw _ (List.mem_of_getElem? (i := 10) rfl)) (hw _ (List.mem_of_getElem? (i := 12) rfl)) at_46 (by decide) (hw _ (List.mem_of_getElem? (i := 5) rfl)) (hw _ (List.mem_of_getElem? (i := 13) rfl)) (rm2_t hw c0 h0 n0 G25.sz c0 c1 c2 c3 mir FF (Fld.ne F0 F3 (by decide))) (by decide) (by decide) rfl (lenOf pd_2 rfl) rfl (Nat.le_of_eq rfl) (pc' := 49) rfl (by decide) (by decide) ?_
    rintro _ T26 h26 G26 ⟨rfl, hh⟩
    subst hh
    show OFin n0 p e below s (fun v _ => v = some (.int 1)) 0 0 T26 (mkF m 49 #[.val (.int p0), .val (.int p1), .val (.int (0 : Int32)), .val (.int (3 : Int32)), .val (.ref c0), .val (.ref c3), .val (.int (1 : Int32)), .val (.int (0 : Int32)), .unset, .unset, .unset, .unset] [(.int (1 : Int32))])
    refine o_istore G26 at_49 (pc' := 51) rfl (l' := #[.val (.int p0), .val (.int p1), .val (.int (0 : Int32)), .val (.int (3 : Int32)), .val (.ref c0), .val (.ref c3), .val (.int (1 : Int32)), .val (.int (0 : Int32)), .val (.int (1 : Int32)), .unset, .unset, .unset]) rfl ?_
    refine o_aload G26 at_51 (pc' := 53) rfl rfl rfl ?_
    refine o_callV G26 (z := (⟨"com/example/tributary/tributary/Pipeline$Fit", "limitsAtSource", "()Z"⟩ : MethodName)) (argsL := []) (rest := []) (W := 0) E3 (hw _ (List.mem_of_getElem? (i := 9) rfl)) (hw _ (List.mem_of_getElem? (i := 11) rfl)) (hw _ (List.mem_of_getElem? (i := 10) rfl)) (hw _ (List.mem_of_getElem? (i := 12) rfl)) at_53 (by decide) (hw _ (List.mem_of_getElem? (i := 5) rfl)) (hw _ (List.mem_of_getElem? (i := 13) rfl)) (rm2_f hw c3 h0 n0 G26.sz c0 c1 c2 c3 mir FF rfl) (by decide) (by decide) rfl (lenOf pd_2 rfl) rfl (Nat.le_of_eq rfl) (pc' := 56) rfl (by decide) (by decide) ?_
    rintro _ T27 h27 G27 ⟨rfl, hh⟩
    subst hh
    show OFin n0 p e below s (fun v _ => v = some (.int 1)) 0 0 T27 (mkF m 56 #[.val (.int p0), .val (.int p1), .val (.int (0 : Int32)), .val (.int (3 : Int32)), .val (.ref c0), .val (.ref c3), .val (.int (1 : Int32)), .val (.int (0 : Int32)), .val (.int (1 : Int32)), .unset, .unset, .unset] [(.int (0 : Int32))])
    refine o_istore G27 at_56 (pc' := 58) rfl (l' := #[.val (.int p0), .val (.int p1), .val (.int (0 : Int32)), .val (.int (3 : Int32)), .val (.ref c0), .val (.ref c3), .val (.int (1 : Int32)), .val (.int (0 : Int32)), .val (.int (1 : Int32)), .val (.int (0 : Int32)), .unset, .unset]) rfl ?_
    refine o_aload G27 at_58 (pc' := 60) rfl rfl rfl ?_
    refine o_aload G27 at_60 (pc' := 62) rfl rfl rfl ?_
    refine o_callV G27 (z := (⟨"com/example/tributary/tributary/Pipeline$Fit", "then", "(Lcom/example/tributary/tributary/Pipeline$Fit;)Lcom/example/tributary/tributary/Pipeline$Fit;"⟩ : MethodName)) (argsL := [(.ref c3)]) (rest := []) (W := 0) E0 (hw _ (List.mem_of_getElem? (i := 15) rfl)) (hw _ (List.mem_of_getElem? (i := 17) rfl)) (hw _ (List.mem_of_getElem? (i := 16) rfl)) (hw _ (List.mem_of_getElem? (i := 18) rfl)) at_62 (by decide) (hw _ (List.mem_of_getElem? (i := 5) rfl)) (hw _ (List.mem_of_getElem? (i := 19) rfl)) (rm3_l hw c0 c3 h0 n0 G27.sz c0 c1 c2 c3 mir FF E0 E3 (0 : Int32) (3 : Int32) F0 F3 (by decide)) (by decide) (by decide) rfl (lenOf pd_3 rfl) rfl (Nat.le_of_eq rfl) (pc' := 65) rfl (by decide) (by decide) ?_
    rintro _ T28 h28 G28 ⟨rfl, hh⟩
    subst hh
    show OFin n0 p e below s (fun v _ => v = some (.int 1)) 0 0 T28 (mkF m 65 #[.val (.int p0), .val (.int p1), .val (.int (0 : Int32)), .val (.int (3 : Int32)), .val (.ref c0), .val (.ref c3), .val (.int (1 : Int32)), .val (.int (0 : Int32)), .val (.int (1 : Int32)), .val (.int (0 : Int32)), .unset, .unset] [(.ref c3)])
    refine o_callV G28 (z := (⟨"com/example/tributary/tributary/Pipeline$Fit", "limitsAtSource", "()Z"⟩ : MethodName)) (argsL := []) (rest := []) (W := 0) E3 (hw _ (List.mem_of_getElem? (i := 9) rfl)) (hw _ (List.mem_of_getElem? (i := 11) rfl)) (hw _ (List.mem_of_getElem? (i := 10) rfl)) (hw _ (List.mem_of_getElem? (i := 12) rfl)) at_65 (by decide) (hw _ (List.mem_of_getElem? (i := 5) rfl)) (hw _ (List.mem_of_getElem? (i := 13) rfl)) (rm2_f hw c3 h0 n0 G28.sz c0 c1 c2 c3 mir FF rfl) (by decide) (by decide) rfl (lenOf pd_2 rfl) rfl (Nat.le_of_eq rfl) (pc' := 68) rfl (by decide) (by decide) ?_
    rintro _ T29 h29 G29 ⟨rfl, hh⟩
    subst hh
    show OFin n0 p e below s (fun v _ => v = some (.int 1)) 0 0 T29 (mkF m 68 #[.val (.int p0), .val (.int p1), .val (.int (0 : Int32)), .val (.int (3 : Int32)), .val (.ref c0), .val (.ref c3), .val (.int (1 : Int32)), .val (.int (0 : Int32)), .val (.int (1 : Int32)), .val (.int (0 : Int32)), .unset, .unset] [(.int (0 : Int32))])
    refine o_istore G29 at_68 (pc' := 70) rfl (l' := #[.val (.int p0), .val (.int p1), .val (.int (0 : Int32)), .val (.int (3 : Int32)), .val (.ref c0), .val (.ref c3), .val (.int (1 : Int32)), .val (.int (0 : Int32)), .val (.int (1 : Int32)), .val (.int (0 : Int32)), .val (.int (0 : Int32)), .unset]) rfl ?_
    refine o_aload G29 at_70 (pc' := 72) rfl rfl rfl ?_
    refine o_callV G29 (z := (⟨"com/example/tributary/tributary/Pipeline$Fit", "skipsAtSource", "()Z"⟩ : MethodName)) (argsL := []) (rest := []) (W := 0) E0 (hw _ (List.mem_of_getElem? (i := 35) rfl)) (hw _ (List.mem_of_getElem? (i := 37) rfl)) (hw _ (List.mem_of_getElem? (i := 36) rfl)) (hw _ (List.mem_of_getElem? (i := 38) rfl)) at_72 (by decide) (hw _ (List.mem_of_getElem? (i := 5) rfl)) (hw _ (List.mem_of_getElem? (i := 39) rfl)) (rm5_1 hw c0 h0 n0 G29.sz c0 c1 c2 c3 mir FF E0 (0 : Int32) F0 (by decide)) (by decide) (by decide) rfl (lenOf pd_2 rfl) rfl (Nat.le_of_eq rfl) (pc' := 75) rfl (by decide) (by decide) ?_
    rintro _ T30 h30 G30 ⟨rfl, hh⟩
    subst hh
    show OFin n0 p e below s (fun v _ => v = some (.int 1)) 0 0 T30 (mkF m 75 #[.val (.int p0), .val (.int p1), .val (.int (0 : Int32)), .val (.int (3 : Int32)), .val (.ref c0), .val (.ref c3), .val (.int (1 : Int32)), .val (.int (0 : Int32)), .val (.int (1 : Int32)), .val (.int (0 : Int32)), .val (.int (0 : Int32)), .unset] [(.int (1 : Int32))])
    refine o_istore G30 at_75 (pc' := 77) rfl (l' := #[.val (.int p0), .val (.int p1), .val (.int (0 : Int32)), .val (.int (3 : Int32)), .val (.ref c0), .val (.ref c3), .val (.int (1 : Int32)), .val (.int (0 : Int32)), .val (.int (1 : Int32)), .val (.int (0 : Int32)), .val (.int (0 : Int32)), .val (.int (1 : Int32))]) rfl ?_
    refine o_iload G30 at_77 (pc' := 79) rfl rfl ?_
    refine o_iload G30 at_79 (pc' := 81) rfl rfl ?_
    refine o_icmp_ne G30 at_81 (by decide) (pcT := 125) (by decide) (pc' := 84) rfl (fun q => absurd (by decide) q) (fun _ => ?_)
    refine o_iload G30 at_84 (pc' := 86) rfl rfl ?_
    refine o_iload G30 at_86 (pc' := 88) rfl rfl ?_
    refine o_icmp_ne G30 at_88 (by decide) (pcT := 125) (by decide) (pc' := 91) rfl (fun q => absurd (by decide) q) (fun _ => ?_)
    refine o_iload G30 at_91 (pc' := 93) rfl rfl ?_
    refine o_iload G30 at_93 (pc' := 95) rfl rfl ?_
    refine o_if_eq G30 at_95 (by decide) (pcT := 107) (by decide) (pc' := 98) rfl (fun q => absurd q (by decide)) (fun _ => ?_)
    refine o_iload G30 at_98 (pc' := 100) rfl rfl ?_
    refine o_if_eq G30 at_100 (by decide) (pcT := 107) (by decide) (pc' := 103) rfl (fun _ => ?_) (fun q => absurd (by decide) q)
    refine o_iconst G30 at_107 (pc' := 108) rfl (v := (0 : Int32)) rfl ?_
    refine o_icmp_ne G30 at_108 (by decide) (pcT := 125) (by decide) (pc' := 111) rfl (fun q => absurd (by decide) q) (fun _ => ?_)
    refine o_iload G30 at_111 (pc' := 113) rfl rfl ?_
    refine o_if_eq G30 at_113 (by decide) (pcT := 121) (by decide) (pc' := 116) rfl (fun q => absurd q (by decide)) (fun _ => ?_)
    refine o_iload G30 at_116 (pc' := 118) rfl rfl ?_
    refine o_if_eq G30 at_118 (by decide) (pcT := 125) (by decide) (pc' := 121) rfl (fun q => absurd q (by decide)) (fun _ => ?_)
    refine o_iconst G30 at_121 (pc' := 122) rfl (v := (1 : Int32)) rfl ?_
    refine o_goto G30 at_122 (by decide) (pc' := 126) rfl ?_
    exact o_nreturn (t := .boolean) G30 (by simp) at_126 rfl (by decide) (by decide)
  · refine o_iloadN G0 at_8 (pc' := 9) rfl rfl ?_
    refine o_callS G0 (z := (⟨"com/example/tributary/tributary/FitLimitsAtSourcePinLaw", "pick", "(I)Lcom/example/tributary/tributary/Pipeline$Fit;"⟩ : MethodName)) (argsL := [(.int (1 : Int32))]) (rest := []) (W := 0) (hw _ (List.mem_of_getElem? (i := 0) rfl)) (hw _ (List.mem_of_getElem? (i := 1) rfl)) at_9 (by decide) (hw _ (List.mem_of_getElem? (i := 2) rfl)) (hw _ (List.mem_of_getElem? (i := 3) rfl)) (rm1_1 hw h0 n0 G0.sz c0 c1 c2 c3 mir FF) (by decide) (by decide) rfl (lenOf pd_1 rfl) rfl (Nat.le_of_eq rfl) (pc' := 12) rfl (by decide) (by decide) ?_
    rintro _ T31 h31 G31 ⟨rfl, hh⟩
    subst hh
    show OFin n0 p e below s (fun v _ => v = some (.int 1)) 0 0 T31 (mkF m 12 #[.val (.int p0), .val (.int p1), .val (.int (1 : Int32)), .val (.int (0 : Int32)), .unset, .unset, .unset, .unset, .unset, .unset, .unset, .unset] [(.ref c1)])
    refine o_astore G31 at_12 (pc' := 14) rfl rfl (l' := #[.val (.int p0), .val (.int p1), .val (.int (1 : Int32)), .val (.int (0 : Int32)), .val (.ref c1), .unset, .unset, .unset, .unset, .unset, .unset, .unset]) rfl ?_
    refine o_iloadN G31 at_14 (pc' := 15) rfl rfl ?_
    refine o_callS G31 (z := (⟨"com/example/tributary/tributary/FitLimitsAtSourcePinLaw", "pick", "(I)Lcom/example/tributary/tributary/Pipeline$Fit;"⟩ : MethodName)) (argsL := [(.int (0 : Int32))]) (rest := []) (W := 0) (hw _ (List.mem_of_getElem? (i := 0) rfl)) (hw _ (List.mem_of_getElem? (i := 1) rfl)) at_15 (by decide) (hw _ (List.mem_of_getElem? (i := 2) rfl)) (hw _ (List.mem_of_getElem? (i := 3) rfl)) (rm1_0 hw h0 n0 G31.sz c0 c1 c2 c3 mir FF) (by decide) (by decide) rfl (lenOf pd_1 rfl) rfl (Nat.le_of_eq rfl) (pc' := 18) rfl (by decide) (by decide) ?_
    rintro _ T32 h32 G32 ⟨rfl, hh⟩
    subst hh
    show OFin n0 p e below s (fun v _ => v = some (.int 1)) 0 0 T32 (mkF m 18 #[.val (.int p0), .val (.int p1), .val (.int (1 : Int32)), .val (.int (0 : Int32)), .val (.ref c1), .unset, .unset, .unset, .unset, .unset, .unset, .unset] [(.ref c0)])
    refine o_astore G32 at_18 (pc' := 20) rfl rfl (l' := #[.val (.int p0), .val (.int p1), .val (.int (1 : Int32)), .val (.int (0 : Int32)), .val (.ref c1), .val (.ref c0), .unset, .unset, .unset, .unset, .unset, .unset]) rfl ?_
    refine o_iloadN G32 at_20 (pc' := 21) rfl rfl ?_
    refine o_iconst G32 at_21 (pc' := 22) rfl (v := (3 : Int32)) rfl ?_
    refine o_icmp_eq G32 at_22 (by decide) (pcT := 29) (by decide) (pc' := 25) rfl (fun q => absurd q (by decide)) (fun _ => ?_)
    refine o_iconst G32 at_25 (pc' := 26) rfl (v := (1 : Int32)) rfl ?_
    refine o_goto G32 at_26 (by decide) (pc' := 30) rfl ?_
    refine o_istore G32 at_30 (pc' := 32) rfl (l' := #[.val (.int p0), .val (.int p1), .val (.int (1 : Int32)), .val (.int (0 : Int32)), .val (.ref c1), .val (.ref c0), .val (.int (1 : Int32)), .unset, .unset, .unset, .unset, .unset]) rfl ?_
    refine o_iloadN G32 at_32 (pc' := 33) rfl rfl ?_
    refine o_iconst G32 at_33 (pc' := 34) rfl (v := (3 : Int32)) rfl ?_
    refine o_icmp_eq G32 at_34 (by decide) (pcT := 41) (by decide) (pc' := 37) rfl (fun q => absurd q (by decide)) (fun _ => ?_)
    refine o_iconst G32 at_37 (pc' := 38) rfl (v := (1 : Int32)) rfl ?_
    refine o_goto G32 at_38 (by decide) (pc' := 42) rfl ?_
    refine o_istore G32 at_42 (pc' := 44) rfl (l' := #[.val (.int p0), .val (.int p1), .val (.int (1 : Int32)), .val (.int (0 : Int32)), .val (.ref c1), .val (.ref c0), .val (.int (1 : Int32)), .val (.int (1 : Int32)), .unset, .unset, .unset, .unset]) rfl ?_
    refine o_aload G32 at_44 (pc' := 46) rfl rfl rfl ?_
    refine o_callV G32 (z := (⟨"com/example/tributary/tributary/Pipeline$Fit", "limitsAtSource", "()Z"⟩ : MethodName)) (argsL := []) (rest := []) (W := 0) E1 (hw _ (List.mem_of_getElem? (i := 9) rfl)) (hw _ (List.mem_of_getElem? (i := 11) rfl)) (hw _ (List.mem_of_getElem? (i := 10) rfl)) (hw _ (List.mem_of_getElem? (i := 12) rfl)) at_46 (by decide) (hw _ (List.mem_of_getElem? (i := 5) rfl)) (hw _ (List.mem_of_getElem? (i := 13) rfl)) (rm2_t hw c1 h0 n0 G32.sz c0 c1 c2 c3 mir FF (Fld.ne F1 F3 (by decide))) (by decide) (by decide) rfl (lenOf pd_2 rfl) rfl (Nat.le_of_eq rfl) (pc' := 49) rfl (by decide) (by decide) ?_
    rintro _ T33 h33 G33 ⟨rfl, hh⟩
    subst hh
    show OFin n0 p e below s (fun v _ => v = some (.int 1)) 0 0 T33 (mkF m 49 #[.val (.int p0), .val (.int p1), .val (.int (1 : Int32)), .val (.int (0 : Int32)), .val (.ref c1), .val (.ref c0), .val (.int (1 : Int32)), .val (.int (1 : Int32)), .unset, .unset, .unset, .unset] [(.int (1 : Int32))])
    refine o_istore G33 at_49 (pc' := 51) rfl (l' := #[.val (.int p0), .val (.int p1), .val (.int (1 : Int32)), .val (.int (0 : Int32)), .val (.ref c1), .val (.ref c0), .val (.int (1 : Int32)), .val (.int (1 : Int32)), .val (.int (1 : Int32)), .unset, .unset, .unset]) rfl ?_
    refine o_aload G33 at_51 (pc' := 53) rfl rfl rfl ?_
    refine o_callV G33 (z := (⟨"com/example/tributary/tributary/Pipeline$Fit", "limitsAtSource", "()Z"⟩ : MethodName)) (argsL := []) (rest := []) (W := 0) E0 (hw _ (List.mem_of_getElem? (i := 9) rfl)) (hw _ (List.mem_of_getElem? (i := 11) rfl)) (hw _ (List.mem_of_getElem? (i := 10) rfl)) (hw _ (List.mem_of_getElem? (i := 12) rfl)) at_53 (by decide) (hw _ (List.mem_of_getElem? (i := 5) rfl)) (hw _ (List.mem_of_getElem? (i := 13) rfl)) (rm2_t hw c0 h0 n0 G33.sz c0 c1 c2 c3 mir FF (Fld.ne F0 F3 (by decide))) (by decide) (by decide) rfl (lenOf pd_2 rfl) rfl (Nat.le_of_eq rfl) (pc' := 56) rfl (by decide) (by decide) ?_
    rintro _ T34 h34 G34 ⟨rfl, hh⟩
    subst hh
    show OFin n0 p e below s (fun v _ => v = some (.int 1)) 0 0 T34 (mkF m 56 #[.val (.int p0), .val (.int p1), .val (.int (1 : Int32)), .val (.int (0 : Int32)), .val (.ref c1), .val (.ref c0), .val (.int (1 : Int32)), .val (.int (1 : Int32)), .val (.int (1 : Int32)), .unset, .unset, .unset] [(.int (1 : Int32))])
    refine o_istore G34 at_56 (pc' := 58) rfl (l' := #[.val (.int p0), .val (.int p1), .val (.int (1 : Int32)), .val (.int (0 : Int32)), .val (.ref c1), .val (.ref c0), .val (.int (1 : Int32)), .val (.int (1 : Int32)), .val (.int (1 : Int32)), .val (.int (1 : Int32)), .unset, .unset]) rfl ?_
    refine o_aload G34 at_58 (pc' := 60) rfl rfl rfl ?_
    refine o_aload G34 at_60 (pc' := 62) rfl rfl rfl ?_
    refine o_callV G34 (z := (⟨"com/example/tributary/tributary/Pipeline$Fit", "then", "(Lcom/example/tributary/tributary/Pipeline$Fit;)Lcom/example/tributary/tributary/Pipeline$Fit;"⟩ : MethodName)) (argsL := [(.ref c0)]) (rest := []) (W := 0) E1 (hw _ (List.mem_of_getElem? (i := 15) rfl)) (hw _ (List.mem_of_getElem? (i := 17) rfl)) (hw _ (List.mem_of_getElem? (i := 16) rfl)) (hw _ (List.mem_of_getElem? (i := 18) rfl)) at_62 (by decide) (hw _ (List.mem_of_getElem? (i := 5) rfl)) (hw _ (List.mem_of_getElem? (i := 19) rfl)) (rm3_g hw c1 c0 h0 n0 G34.sz c0 c1 c2 c3 mir FF E1 E0 (1 : Int32) (0 : Int32) F1 F0 (by decide)) (by decide) (by decide) rfl (lenOf pd_3 rfl) rfl (Nat.le_of_eq rfl) (pc' := 65) rfl (by decide) (by decide) ?_
    rintro _ T35 h35 G35 ⟨rfl, hh⟩
    subst hh
    show OFin n0 p e below s (fun v _ => v = some (.int 1)) 0 0 T35 (mkF m 65 #[.val (.int p0), .val (.int p1), .val (.int (1 : Int32)), .val (.int (0 : Int32)), .val (.ref c1), .val (.ref c0), .val (.int (1 : Int32)), .val (.int (1 : Int32)), .val (.int (1 : Int32)), .val (.int (1 : Int32)), .unset, .unset] [(.ref c1)])
    refine o_callV G35 (z := (⟨"com/example/tributary/tributary/Pipeline$Fit", "limitsAtSource", "()Z"⟩ : MethodName)) (argsL := []) (rest := []) (W := 0) E1 (hw _ (List.mem_of_getElem? (i := 9) rfl)) (hw _ (List.mem_of_getElem? (i := 11) rfl)) (hw _ (List.mem_of_getElem? (i := 10) rfl)) (hw _ (List.mem_of_getElem? (i := 12) rfl)) at_65 (by decide) (hw _ (List.mem_of_getElem? (i := 5) rfl)) (hw _ (List.mem_of_getElem? (i := 13) rfl)) (rm2_t hw c1 h0 n0 G35.sz c0 c1 c2 c3 mir FF (Fld.ne F1 F3 (by decide))) (by decide) (by decide) rfl (lenOf pd_2 rfl) rfl (Nat.le_of_eq rfl) (pc' := 68) rfl (by decide) (by decide) ?_
    rintro _ T36 h36 G36 ⟨rfl, hh⟩
    subst hh
    show OFin n0 p e below s (fun v _ => v = some (.int 1)) 0 0 T36 (mkF m 68 #[.val (.int p0), .val (.int p1), .val (.int (1 : Int32)), .val (.int (0 : Int32)), .val (.ref c1), .val (.ref c0), .val (.int (1 : Int32)), .val (.int (1 : Int32)), .val (.int (1 : Int32)), .val (.int (1 : Int32)), .unset, .unset] [(.int (1 : Int32))])
    refine o_istore G36 at_68 (pc' := 70) rfl (l' := #[.val (.int p0), .val (.int p1), .val (.int (1 : Int32)), .val (.int (0 : Int32)), .val (.ref c1), .val (.ref c0), .val (.int (1 : Int32)), .val (.int (1 : Int32)), .val (.int (1 : Int32)), .val (.int (1 : Int32)), .val (.int (1 : Int32)), .unset]) rfl ?_
    refine o_aload G36 at_70 (pc' := 72) rfl rfl rfl ?_
    refine o_callV G36 (z := (⟨"com/example/tributary/tributary/Pipeline$Fit", "skipsAtSource", "()Z"⟩ : MethodName)) (argsL := []) (rest := []) (W := 0) E1 (hw _ (List.mem_of_getElem? (i := 35) rfl)) (hw _ (List.mem_of_getElem? (i := 37) rfl)) (hw _ (List.mem_of_getElem? (i := 36) rfl)) (hw _ (List.mem_of_getElem? (i := 38) rfl)) at_72 (by decide) (hw _ (List.mem_of_getElem? (i := 5) rfl)) (hw _ (List.mem_of_getElem? (i := 39) rfl)) (rm5_1 hw c1 h0 n0 G36.sz c0 c1 c2 c3 mir FF E1 (1 : Int32) F1 (by decide)) (by decide) (by decide) rfl (lenOf pd_2 rfl) rfl (Nat.le_of_eq rfl) (pc' := 75) rfl (by decide) (by decide) ?_
    rintro _ T37 h37 G37 ⟨rfl, hh⟩
    subst hh
    show OFin n0 p e below s (fun v _ => v = some (.int 1)) 0 0 T37 (mkF m 75 #[.val (.int p0), .val (.int p1), .val (.int (1 : Int32)), .val (.int (0 : Int32)), .val (.ref c1), .val (.ref c0), .val (.int (1 : Int32)), .val (.int (1 : Int32)), .val (.int (1 : Int32)), .val (.int (1 : Int32)), .val (.int (1 : Int32)), .unset] [(.int (1 : Int32))])
    refine o_istore G37 at_75 (pc' := 77) rfl (l' := #[.val (.int p0), .val (.int p1), .val (.int (1 : Int32)), .val (.int (0 : Int32)), .val (.ref c1), .val (.ref c0), .val (.int (1 : Int32)), .val (.int (1 : Int32)), .val (.int (1 : Int32)), .val (.int (1 : Int32)), .val (.int (1 : Int32)), .val (.int (1 : Int32))]) rfl ?_
    refine o_iload G37 at_77 (pc' := 79) rfl rfl ?_
    refine o_iload G37 at_79 (pc' := 81) rfl rfl ?_
    refine o_icmp_ne G37 at_81 (by decide) (pcT := 125) (by decide) (pc' := 84) rfl (fun q => absurd (by decide) q) (fun _ => ?_)
    refine o_iload G37 at_84 (pc' := 86) rfl rfl ?_
    refine o_iload G37 at_86 (pc' := 88) rfl rfl ?_
    refine o_icmp_ne G37 at_88 (by decide) (pcT := 125) (by decide) (pc' := 91) rfl (fun q => absurd (by decide) q) (fun _ => ?_)
    refine o_iload G37 at_91 (pc' := 93) rfl rfl ?_
    refine o_iload G37 at_93 (pc' := 95) rfl rfl ?_
    refine o_if_eq G37 at_95 (by decide) (pcT := 107) (by decide) (pc' := 98) rfl (fun q => absurd q (by decide)) (fun _ => ?_)
    refine o_iload G37 at_98 (pc' := 100) rfl rfl ?_
    refine o_if_eq G37 at_100 (by decide) (pcT := 107) (by decide) (pc' := 103) rfl (fun q => absurd q (by decide)) (fun _ => ?_)
    refine o_iconst G37 at_103 (pc' := 104) rfl (v := (1 : Int32)) rfl ?_
    refine o_goto G37 at_104 (by decide) (pc' := 108) rfl ?_
    refine o_icmp_ne G37 at_108 (by decide) (pcT := 125) (by decide) (pc' := 111) rfl (fun q => absurd (by decide) q) (fun _ => ?_)
    refine o_iload G37 at_111 (pc' := 113) rfl rfl ?_
    refine o_if_eq G37 at_113 (by decide) (pcT := 121) (by decide) (pc' := 116) rfl (fun q => absurd q (by decide)) (fun _ => ?_)
    refine o_iload G37 at_116 (pc' := 118) rfl rfl ?_
    refine o_if_eq G37 at_118 (by decide) (pcT := 125) (by decide) (pc' := 121) rfl (fun q => absurd q (by decide)) (fun _ => ?_)
    refine o_iconst G37 at_121 (pc' := 122) rfl (v := (1 : Int32)) rfl ?_
    refine o_goto G37 at_122 (by decide) (pc' := 126) rfl ?_
    exact o_nreturn (t := .boolean) G37 (by simp) at_126 rfl (by decide) (by decide)
  · refine o_iloadN G0 at_8 (pc' := 9) rfl rfl ?_
    refine o_callS G0 (z := (⟨"com/example/tributary/tributary/FitLimitsAtSourcePinLaw", "pick", "(I)Lcom/example/tributary/tributary/Pipeline$Fit;"⟩ : MethodName)) (argsL := [(.int (1 : Int32))]) (rest := []) (W := 0) (hw _ (List.mem_of_getElem? (i := 0) rfl)) (hw _ (List.mem_of_getElem? (i := 1) rfl)) at_9 (by decide) (hw _ (List.mem_of_getElem? (i := 2) rfl)) (hw _ (List.mem_of_getElem? (i := 3) rfl)) (rm1_1 hw h0 n0 G0.sz c0 c1 c2 c3 mir FF) (by decide) (by decide) rfl (lenOf pd_1 rfl) rfl (Nat.le_of_eq rfl) (pc' := 12) rfl (by decide) (by decide) ?_
    rintro _ T38 h38 G38 ⟨rfl, hh⟩
    subst hh
    show OFin n0 p e below s (fun v _ => v = some (.int 1)) 0 0 T38 (mkF m 12 #[.val (.int p0), .val (.int p1), .val (.int (1 : Int32)), .val (.int (1 : Int32)), .unset, .unset, .unset, .unset, .unset, .unset, .unset, .unset] [(.ref c1)])
    refine o_astore G38 at_12 (pc' := 14) rfl rfl (l' := #[.val (.int p0), .val (.int p1), .val (.int (1 : Int32)), .val (.int (1 : Int32)), .val (.ref c1), .unset, .unset, .unset, .unset, .unset, .unset, .unset]) rfl ?_
    refine o_iloadN G38 at_14 (pc' := 15) rfl rfl ?_
    refine o_callS G38 (z := (⟨"com/example/tributary/tributary/FitLimitsAtSourcePinLaw", "pick", "(I)Lcom/example/tributary/tributary/Pipeline$Fit;"⟩ : MethodName)) (argsL := [(.int (1 : Int32))]) (rest := []) (W := 0) (hw _ (List.mem_of_getElem? (i := 0) rfl)) (hw _ (List.mem_of_getElem? (i := 1) rfl)) at_15 (by decide) (hw _ (List.mem_of_getElem? (i := 2) rfl)) (hw _ (List.mem_of_getElem? (i := 3) rfl)) (rm1_1 hw h0 n0 G38.sz c0 c1 c2 c3 mir FF) (by decide) (by decide) rfl (lenOf pd_1 rfl) rfl (Nat.le_of_eq rfl) (pc' := 18) rfl (by decide) (by decide) ?_
    rintro _ T39 h39 G39 ⟨rfl, hh⟩
    subst hh
    show OFin n0 p e below s (fun v _ => v = some (.int 1)) 0 0 T39 (mkF m 18 #[.val (.int p0), .val (.int p1), .val (.int (1 : Int32)), .val (.int (1 : Int32)), .val (.ref c1), .unset, .unset, .unset, .unset, .unset, .unset, .unset] [(.ref c1)])
    refine o_astore G39 at_18 (pc' := 20) rfl rfl (l' := #[.val (.int p0), .val (.int p1), .val (.int (1 : Int32)), .val (.int (1 : Int32)), .val (.ref c1), .val (.ref c1), .unset, .unset, .unset, .unset, .unset, .unset]) rfl ?_
    refine o_iloadN G39 at_20 (pc' := 21) rfl rfl ?_
    refine o_iconst G39 at_21 (pc' := 22) rfl (v := (3 : Int32)) rfl ?_
    refine o_icmp_eq G39 at_22 (by decide) (pcT := 29) (by decide) (pc' := 25) rfl (fun q => absurd q (by decide)) (fun _ => ?_)
    refine o_iconst G39 at_25 (pc' := 26) rfl (v := (1 : Int32)) rfl ?_
    refine o_goto G39 at_26 (by decide) (pc' := 30) rfl ?_
    refine o_istore G39 at_30 (pc' := 32) rfl (l' := #[.val (.int p0), .val (.int p1), .val (.int (1 : Int32)), .val (.int (1 : Int32)), .val (.ref c1), .val (.ref c1), .val (.int (1 : Int32)), .unset, .unset, .unset, .unset, .unset]) rfl ?_
    refine o_iloadN G39 at_32 (pc' := 33) rfl rfl ?_
    refine o_iconst G39 at_33 (pc' := 34) rfl (v := (3 : Int32)) rfl ?_
    refine o_icmp_eq G39 at_34 (by decide) (pcT := 41) (by decide) (pc' := 37) rfl (fun q => absurd q (by decide)) (fun _ => ?_)
    refine o_iconst G39 at_37 (pc' := 38) rfl (v := (1 : Int32)) rfl ?_
    refine o_goto G39 at_38 (by decide) (pc' := 42) rfl ?_
    refine o_istore G39 at_42 (pc' := 44) rfl (l' := #[.val (.int p0), .val (.int p1), .val (.int (1 : Int32)), .val (.int (1 : Int32)), .val (.ref c1), .val (.ref c1), .val (.int (1 : Int32)), .val (.int (1 : Int32)), .unset, .unset, .unset, .unset]) rfl ?_
    refine o_aload G39 at_44 (pc' := 46) rfl rfl rfl ?_
    refine o_callV G39 (z := (⟨"com/example/tributary/tributary/Pipeline$Fit", "limitsAtSource", "()Z"⟩ : MethodName)) (argsL := []) (rest := []) (W := 0) E1 (hw _ (List.mem_of_getElem? (i := 9) rfl)) (hw _ (List.mem_of_getElem? (i := 11) rfl)) (hw _ (List.mem_of_getElem? (i := 10) rfl)) (hw _ (List.mem_of_getElem? (i := 12) rfl)) at_46 (by decide) (hw _ (List.mem_of_getElem? (i := 5) rfl)) (hw _ (List.mem_of_getElem? (i := 13) rfl)) (rm2_t hw c1 h0 n0 G39.sz c0 c1 c2 c3 mir FF (Fld.ne F1 F3 (by decide))) (by decide) (by decide) rfl (lenOf pd_2 rfl) rfl (Nat.le_of_eq rfl) (pc' := 49) rfl (by decide) (by decide) ?_
    rintro _ T40 h40 G40 ⟨rfl, hh⟩
    subst hh
    show OFin n0 p e below s (fun v _ => v = some (.int 1)) 0 0 T40 (mkF m 49 #[.val (.int p0), .val (.int p1), .val (.int (1 : Int32)), .val (.int (1 : Int32)), .val (.ref c1), .val (.ref c1), .val (.int (1 : Int32)), .val (.int (1 : Int32)), .unset, .unset, .unset, .unset] [(.int (1 : Int32))])
    refine o_istore G40 at_49 (pc' := 51) rfl (l' := #[.val (.int p0), .val (.int p1), .val (.int (1 : Int32)), .val (.int (1 : Int32)), .val (.ref c1), .val (.ref c1), .val (.int (1 : Int32)), .val (.int (1 : Int32)), .val (.int (1 : Int32)), .unset, .unset, .unset]) rfl ?_
    refine o_aload G40 at_51 (pc' := 53) rfl rfl rfl ?_
    refine o_callV G40 (z := (⟨"com/example/tributary/tributary/Pipeline$Fit", "limitsAtSource", "()Z"⟩ : MethodName)) (argsL := []) (rest := []) (W := 0) E1 (hw _ (List.mem_of_getElem? (i := 9) rfl)) (hw _ (List.mem_of_getElem? (i := 11) rfl)) (hw _ (List.mem_of_getElem? (i := 10) rfl)) (hw _ (List.mem_of_getElem? (i := 12) rfl)) at_53 (by decide) (hw _ (List.mem_of_getElem? (i := 5) rfl)) (hw _ (List.mem_of_getElem? (i := 13) rfl)) (rm2_t hw c1 h0 n0 G40.sz c0 c1 c2 c3 mir FF (Fld.ne F1 F3 (by decide))) (by decide) (by decide) rfl (lenOf pd_2 rfl) rfl (Nat.le_of_eq rfl) (pc' := 56) rfl (by decide) (by decide) ?_
    rintro _ T41 h41 G41 ⟨rfl, hh⟩
    subst hh
    show OFin n0 p e below s (fun v _ => v = some (.int 1)) 0 0 T41 (mkF m 56 #[.val (.int p0), .val (.int p1), .val (.int (1 : Int32)), .val (.int (1 : Int32)), .val (.ref c1), .val (.ref c1), .val (.int (1 : Int32)), .val (.int (1 : Int32)), .val (.int (1 : Int32)), .unset, .unset, .unset] [(.int (1 : Int32))])
    refine o_istore G41 at_56 (pc' := 58) rfl (l' := #[.val (.int p0), .val (.int p1), .val (.int (1 : Int32)), .val (.int (1 : Int32)), .val (.ref c1), .val (.ref c1), .val (.int (1 : Int32)), .val (.int (1 : Int32)), .val (.int (1 : Int32)), .val (.int (1 : Int32)), .unset, .unset]) rfl ?_
    refine o_aload G41 at_58 (pc' := 60) rfl rfl rfl ?_
    refine o_aload G41 at_60 (pc' := 62) rfl rfl rfl ?_
    refine o_callV G41 (z := (⟨"com/example/tributary/tributary/Pipeline$Fit", "then", "(Lcom/example/tributary/tributary/Pipeline$Fit;)Lcom/example/tributary/tributary/Pipeline$Fit;"⟩ : MethodName)) (argsL := [(.ref c1)]) (rest := []) (W := 0) E1 (hw _ (List.mem_of_getElem? (i := 15) rfl)) (hw _ (List.mem_of_getElem? (i := 17) rfl)) (hw _ (List.mem_of_getElem? (i := 16) rfl)) (hw _ (List.mem_of_getElem? (i := 18) rfl)) at_62 (by decide) (hw _ (List.mem_of_getElem? (i := 5) rfl)) (hw _ (List.mem_of_getElem? (i := 19) rfl)) (rm3_g hw c1 c1 h0 n0 G41.sz c0 c1 c2 c3 mir FF E1 E1 (1 : Int32) (1 : Int32) F1 F1 (by decide)) (by decide) (by decide) rfl (lenOf pd_3 rfl) rfl (Nat.le_of_eq rfl) (pc' := 65) rfl (by decide) (by decide) ?_
    rintro _ T42 h42 G42 ⟨rfl, hh⟩
    subst hh
    show OFin n0 p e below s (fun v _ => v = some (.int 1)) 0 0 T42 (mkF m 65 #[.val (.int p0), .val (.int p1), .val (.int (1 : Int32)), .val (.int (1 : Int32)), .val (.ref c1), .val (.ref c1), .val (.int (1 : Int32)), .val (.int (1 : Int32)), .val (.int (1 : Int32)), .val (.int (1 : Int32)), .unset, .unset] [(.ref c1)])
    refine o_callV G42 (z := (⟨"com/example/tributary/tributary/Pipeline$Fit", "limitsAtSource", "()Z"⟩ : MethodName)) (argsL := []) (rest := []) (W := 0) E1 (hw _ (List.mem_of_getElem? (i := 9) rfl)) (hw _ (List.mem_of_getElem? (i := 11) rfl)) (hw _ (List.mem_of_getElem? (i := 10) rfl)) (hw _ (List.mem_of_getElem? (i := 12) rfl)) at_65 (by decide) (hw _ (List.mem_of_getElem? (i := 5) rfl)) (hw _ (List.mem_of_getElem? (i := 13) rfl)) (rm2_t hw c1 h0 n0 G42.sz c0 c1 c2 c3 mir FF (Fld.ne F1 F3 (by decide))) (by decide) (by decide) rfl (lenOf pd_2 rfl) rfl (Nat.le_of_eq rfl) (pc' := 68) rfl (by decide) (by decide) ?_
    rintro _ T43 h43 G43 ⟨rfl, hh⟩
    subst hh
    show OFin n0 p e below s (fun v _ => v = some (.int 1)) 0 0 T43 (mkF m 68 #[.val (.int p0), .val (.int p1), .val (.int (1 : Int32)), .val (.int (1 : Int32)), .val (.ref c1), .val (.ref c1), .val (.int (1 : Int32)), .val (.int (1 : Int32)), .val (.int (1 : Int32)), .val (.int (1 : Int32)), .unset, .unset] [(.int (1 : Int32))])
    refine o_istore G43 at_68 (pc' := 70) rfl (l' := #[.val (.int p0), .val (.int p1), .val (.int (1 : Int32)), .val (.int (1 : Int32)), .val (.ref c1), .val (.ref c1), .val (.int (1 : Int32)), .val (.int (1 : Int32)), .val (.int (1 : Int32)), .val (.int (1 : Int32)), .val (.int (1 : Int32)), .unset]) rfl ?_
    refine o_aload G43 at_70 (pc' := 72) rfl rfl rfl ?_
    refine o_callV G43 (z := (⟨"com/example/tributary/tributary/Pipeline$Fit", "skipsAtSource", "()Z"⟩ : MethodName)) (argsL := []) (rest := []) (W := 0) E1 (hw _ (List.mem_of_getElem? (i := 35) rfl)) (hw _ (List.mem_of_getElem? (i := 37) rfl)) (hw _ (List.mem_of_getElem? (i := 36) rfl)) (hw _ (List.mem_of_getElem? (i := 38) rfl)) at_72 (by decide) (hw _ (List.mem_of_getElem? (i := 5) rfl)) (hw _ (List.mem_of_getElem? (i := 39) rfl)) (rm5_1 hw c1 h0 n0 G43.sz c0 c1 c2 c3 mir FF E1 (1 : Int32) F1 (by decide)) (by decide) (by decide) rfl (lenOf pd_2 rfl) rfl (Nat.le_of_eq rfl) (pc' := 75) rfl (by decide) (by decide) ?_
    rintro _ T44 h44 G44 ⟨rfl, hh⟩
    subst hh
    show OFin n0 p e below s (fun v _ => v = some (.int 1)) 0 0 T44 (mkF m 75 #[.val (.int p0), .val (.int p1), .val (.int (1 : Int32)), .val (.int (1 : Int32)), .val (.ref c1), .val (.ref c1), .val (.int (1 : Int32)), .val (.int (1 : Int32)), .val (.int (1 : Int32)), .val (.int (1 : Int32)), .val (.int (1 : Int32)), .unset] [(.int (1 : Int32))])
    refine o_istore G44 at_75 (pc' := 77) rfl (l' := #[.val (.int p0), .val (.int p1), .val (.int (1 : Int32)), .val (.int (1 : Int32)), .val (.ref c1), .val (.ref c1), .val (.int (1 : Int32)), .val (.int (1 : Int32)), .val (.int (1 : Int32)), .val (.int (1 : Int32)), .val (.int (1 : Int32)), .val (.int (1 : Int32))]) rfl ?_
    refine o_iload G44 at_77 (pc' := 79) rfl rfl ?_
    refine o_iload G44 at_79 (pc' := 81) rfl rfl ?_
    refine o_icmp_ne G44 at_81 (by decide) (pcT := 125) (by decide) (pc' := 84) rfl (fun q => absurd (by decide) q) (fun _ => ?_)
    refine o_iload G44 at_84 (pc' := 86) rfl rfl ?_
    refine o_iload G44 at_86 (pc' := 88) rfl rfl ?_
    refine o_icmp_ne G44 at_88 (by decide) (pcT := 125) (by decide) (pc' := 91) rfl (fun q => absurd (by decide) q) (fun _ => ?_)
    refine o_iload G44 at_91 (pc' := 93) rfl rfl ?_
    refine o_iload G44 at_93 (pc' := 95) rfl rfl ?_
    refine o_if_eq G44 at_95 (by decide) (pcT := 107) (by decide) (pc' := 98) rfl (fun q => absurd q (by decide)) (fun _ => ?_)
    refine o_iload G44 at_98 (pc' := 100) rfl rfl ?_
    refine o_if_eq G44 at_100 (by decide) (pcT := 107) (by decide) (pc' := 103) rfl (fun q => absurd q (by decide)) (fun _ => ?_)
    refine o_iconst G44 at_103 (pc' := 104) rfl (v := (1 : Int32)) rfl ?_
    refine o_goto G44 at_104 (by decide) (pc' := 108) rfl ?_
    refine o_icmp_ne G44 at_108 (by decide) (pcT := 125) (by decide) (pc' := 111) rfl (fun q => absurd (by decide) q) (fun _ => ?_)
    refine o_iload G44 at_111 (pc' := 113) rfl rfl ?_
    refine o_if_eq G44 at_113 (by decide) (pcT := 121) (by decide) (pc' := 116) rfl (fun q => absurd q (by decide)) (fun _ => ?_)
    refine o_iload G44 at_116 (pc' := 118) rfl rfl ?_
    refine o_if_eq G44 at_118 (by decide) (pcT := 125) (by decide) (pc' := 121) rfl (fun q => absurd q (by decide)) (fun _ => ?_)
    refine o_iconst G44 at_121 (pc' := 122) rfl (v := (1 : Int32)) rfl ?_
    refine o_goto G44 at_122 (by decide) (pc' := 126) rfl ?_
    exact o_nreturn (t := .boolean) G44 (by simp) at_126 rfl (by decide) (by decide)
  · refine o_iloadN G0 at_8 (pc' := 9) rfl rfl ?_
    refine o_callS G0 (z := (⟨"com/example/tributary/tributary/FitLimitsAtSourcePinLaw", "pick", "(I)Lcom/example/tributary/tributary/Pipeline$Fit;"⟩ : MethodName)) (argsL := [(.int (1 : Int32))]) (rest := []) (W := 0) (hw _ (List.mem_of_getElem? (i := 0) rfl)) (hw _ (List.mem_of_getElem? (i := 1) rfl)) at_9 (by decide) (hw _ (List.mem_of_getElem? (i := 2) rfl)) (hw _ (List.mem_of_getElem? (i := 3) rfl)) (rm1_1 hw h0 n0 G0.sz c0 c1 c2 c3 mir FF) (by decide) (by decide) rfl (lenOf pd_1 rfl) rfl (Nat.le_of_eq rfl) (pc' := 12) rfl (by decide) (by decide) ?_
    rintro _ T45 h45 G45 ⟨rfl, hh⟩
    subst hh
    show OFin n0 p e below s (fun v _ => v = some (.int 1)) 0 0 T45 (mkF m 12 #[.val (.int p0), .val (.int p1), .val (.int (1 : Int32)), .val (.int (2 : Int32)), .unset, .unset, .unset, .unset, .unset, .unset, .unset, .unset] [(.ref c1)])
    refine o_astore G45 at_12 (pc' := 14) rfl rfl (l' := #[.val (.int p0), .val (.int p1), .val (.int (1 : Int32)), .val (.int (2 : Int32)), .val (.ref c1), .unset, .unset, .unset, .unset, .unset, .unset, .unset]) rfl ?_
    refine o_iloadN G45 at_14 (pc' := 15) rfl rfl ?_
    refine o_callS G45 (z := (⟨"com/example/tributary/tributary/FitLimitsAtSourcePinLaw", "pick", "(I)Lcom/example/tributary/tributary/Pipeline$Fit;"⟩ : MethodName)) (argsL := [(.int (2 : Int32))]) (rest := []) (W := 0) (hw _ (List.mem_of_getElem? (i := 0) rfl)) (hw _ (List.mem_of_getElem? (i := 1) rfl)) at_15 (by decide) (hw _ (List.mem_of_getElem? (i := 2) rfl)) (hw _ (List.mem_of_getElem? (i := 3) rfl)) (rm1_2 hw h0 n0 G45.sz c0 c1 c2 c3 mir FF) (by decide) (by decide) rfl (lenOf pd_1 rfl) rfl (Nat.le_of_eq rfl) (pc' := 18) rfl (by decide) (by decide) ?_
    rintro _ T46 h46 G46 ⟨rfl, hh⟩
    subst hh
    show OFin n0 p e below s (fun v _ => v = some (.int 1)) 0 0 T46 (mkF m 18 #[.val (.int p0), .val (.int p1), .val (.int (1 : Int32)), .val (.int (2 : Int32)), .val (.ref c1), .unset, .unset, .unset, .unset, .unset, .unset, .unset] [(.ref c2)])
    refine o_astore G46 at_18 (pc' := 20) rfl rfl (l' := #[.val (.int p0), .val (.int p1), .val (.int (1 : Int32)), .val (.int (2 : Int32)), .val (.ref c1), .val (.ref c2), .unset, .unset, .unset, .unset, .unset, .unset]) rfl ?_
    refine o_iloadN G46 at_20 (pc' := 21) rfl rfl ?_
    refine o_iconst G46 at_21 (pc' := 22) rfl (v := (3 : Int32)) rfl ?_
    refine o_icmp_eq G46 at_22 (by decide) (pcT := 29) (by decide) (pc' := 25) rfl (fun q => absurd q (by decide)) (fun _ => ?_)
    refine o_iconst G46 at_25 (pc' := 26) rfl (v := (1 : Int32)) rfl ?_
    refine o_goto G46 at_26 (by decide) (pc' := 30) rfl ?_
    refine o_istore G46 at_30 (pc' := 32) rfl (l' := #[.val (.int p0), .val (.int p1), .val (.int (1 : Int32)), .val (.int (2 : Int32)), .val (.ref c1), .val (.ref c2), .val (.int (1 : Int32)), .unset, .unset, .unset, .unset, .unset]) rfl ?_
    refine o_iloadN G46 at_32 (pc' := 33) rfl rfl ?_
    refine o_iconst G46 at_33 (pc' := 34) rfl (v := (3 : Int32)) rfl ?_
    refine o_icmp_eq G46 at_34 (by decide) (pcT := 41) (by decide) (pc' := 37) rfl (fun q => absurd q (by decide)) (fun _ => ?_)
    refine o_iconst G46 at_37 (pc' := 38) rfl (v := (1 : Int32)) rfl ?_
    refine o_goto G46 at_38 (by decide) (pc' := 42) rfl ?_
    refine o_istore G46 at_42 (pc' := 44) rfl (l' := #[.val (.int p0), .val (.int p1), .val (.int (1 : Int32)), .val (.int (2 : Int32)), .val (.ref c1), .val (.ref c2), .val (.int (1 : Int32)), .val (.int (1 : Int32)), .unset, .unset, .unset, .unset]) rfl ?_
    refine o_aload G46 at_44 (pc' := 46) rfl rfl rfl ?_
    refine o_callV G46 (z := (⟨"com/example/tributary/tributary/Pipeline$Fit", "limitsAtSource", "()Z"⟩ : MethodName)) (argsL := []) (rest := []) (W := 0) E1 (hw _ (List.mem_of_getElem? (i := 9) rfl)) (hw _ (List.mem_of_getElem? (i := 11) rfl)) (hw _ (List.mem_of_getElem? (i := 10) rfl)) (hw _ (List.mem_of_getElem? (i := 12) rfl)) at_46 (by decide) (hw _ (List.mem_of_getElem? (i := 5) rfl)) (hw _ (List.mem_of_getElem? (i := 13) rfl)) (rm2_t hw c1 h0 n0 G46.sz c0 c1 c2 c3 mir FF (Fld.ne F1 F3 (by decide))) (by decide) (by decide) rfl (lenOf pd_2 rfl) rfl (Nat.le_of_eq rfl) (pc' := 49) rfl (by decide) (by decide) ?_
    rintro _ T47 h47 G47 ⟨rfl, hh⟩
    subst hh
    show OFin n0 p e below s (fun v _ => v = some (.int 1)) 0 0 T47 (mkF m 49 #[.val (.int p0), .val (.int p1), .val (.int (1 : Int32)), .val (.int (2 : Int32)), .val (.ref c1), .val (.ref c2), .val (.int (1 : Int32)), .val (.int (1 : Int32)), .unset, .unset, .unset, .unset] [(.int (1 : Int32))])
    refine o_istore G47 at_49 (pc' := 51) rfl (l' := #[.val (.int p0), .val (.int p1), .val (.int (1 : Int32)), .val (.int (2 : Int32)), .val (.ref c1), .val (.ref c2), .val (.int (1 : Int32)), .val (.int (1 : Int32)), .val (.int (1 : Int32)), .unset, .unset, .unset]) rfl ?_
    refine o_aload G47 at_51 (pc' := 53) rfl rfl rfl ?_
    refine o_callV G47 (z := (⟨"com/example/tributary/tributary/Pipeline$Fit", "limitsAtSource", "()Z"⟩ : MethodName)) (argsL := []) (rest := []) (W := 0) E2 (hw _ (List.mem_of_getElem? (i := 9) rfl)) (hw _ (List.mem_of_getElem? (i := 11) rfl)) (hw _ (List.mem_of_getElem? (i := 10) rfl)) (hw _ (List.mem_of_getElem? (i := 12) rfl)) at_53 (by decide) (hw _ (List.mem_of_getElem? (i := 5) rfl)) (hw _ (List.mem_of_getElem? (i := 13) rfl)) (rm2_t hw c2 h0 n0 G47.sz c0 c1 c2 c3 mir FF (Fld.ne F2 F3 (by decide))) (by decide) (by decide) rfl (lenOf pd_2 rfl) rfl (Nat.le_of_eq rfl) (pc' := 56) rfl (by decide) (by decide) ?_
    rintro _ T48 h48 G48 ⟨rfl, hh⟩
    subst hh
    show OFin n0 p e below s (fun v _ => v = some (.int 1)) 0 0 T48 (mkF m 56 #[.val (.int p0), .val (.int p1), .val (.int (1 : Int32)), .val (.int (2 : Int32)), .val (.ref c1), .val (.ref c2), .val (.int (1 : Int32)), .val (.int (1 : Int32)), .val (.int (1 : Int32)), .unset, .unset, .unset] [(.int (1 : Int32))])
    refine o_istore G48 at_56 (pc' := 58) rfl (l' := #[.val (.int p0), .val (.int p1), .val (.int (1 : Int32)), .val (.int (2 : Int32)), .val (.ref c1), .val (.ref c2), .val (.int (1 : Int32)), .val (.int (1 : Int32)), .val (.int (1 : Int32)), .val (.int (1 : Int32)), .unset, .unset]) rfl ?_
    refine o_aload G48 at_58 (pc' := 60) rfl rfl rfl ?_
    refine o_aload G48 at_60 (pc' := 62) rfl rfl rfl ?_
    refine o_callV G48 (z := (⟨"com/example/tributary/tributary/Pipeline$Fit", "then", "(Lcom/example/tributary/tributary/Pipeline$Fit;)Lcom/example/tributary/tributary/Pipeline$Fit;"⟩ : MethodName)) (argsL := [(.ref c2)]) (rest := []) (W := 0) E1 (hw _ (List.mem_of_getElem? (i := 15) rfl)) (hw _ (List.mem_of_getElem? (i := 17) rfl)) (hw _ (List.mem_of_getElem? (i := 16) rfl)) (hw _ (List.mem_of_getElem? (i := 18) rfl)) at_62 (by decide) (hw _ (List.mem_of_getElem? (i := 5) rfl)) (hw _ (List.mem_of_getElem? (i := 19) rfl)) (rm3_l hw c1 c2 h0 n0 G48.sz c0 c1 c2 c3 mir FF E1 E2 (1 : Int32) (2 : Int32) F1 F2 (by decide)) (by decide) (by decide) rfl (lenOf pd_3 rfl) rfl (Nat.le_of_eq rfl) (pc' := 65) rfl (by decide) (by decide) ?_
    rintro _ T49 h49 G49 ⟨rfl, hh⟩
    subst hh
    show OFin n0 p e below s (fun v _ => v = some (.int 1)) 0 0 T49 (mkF m 65 #[.val (.int p0), .val (.int p1), .val (.int (1 : Int32)), .val (.int (2 : Int32)), .val (.ref c1), .val (.ref c2), .val (.int (1 : Int32)), .val (.int (1 : Int32)), .val (.int (1 : Int32)), .val (.int (1 : Int32)), .unset, .unset] [(.ref c2)])
    refine o_callV G49 (z := (⟨"com/example/tributary/tributary/Pipeline$Fit", "limitsAtSource", "()Z"⟩ : MethodName)) (argsL := []) (rest := []) (W := 0) E2 (hw _ (List.mem_of_getElem? (i := 9) rfl)) (hw _ (List.mem_of_getElem? (i := 11) rfl)) (hw _ (List.mem_of_getElem? (i := 10) rfl)) (hw _ (List.mem_of_getElem? (i := 12) rfl)) at_65 (by decide) (hw _ (List.mem_of_getElem? (i := 5) rfl)) (hw _ (List.mem_of_getElem? (i := 13) rfl)) (rm2_t hw c2 h0 n0 G49.sz c0 c1 c2 c3 mir FF (Fld.ne F2 F3 (by decide))) (by decide) (by decide) rfl (lenOf pd_2 rfl) rfl (Nat.le_of_eq rfl) (pc' := 68) rfl (by decide) (by decide) ?_
    rintro _ T50 h50 G50 ⟨rfl, hh⟩
    subst hh
    show OFin n0 p e below s (fun v _ => v = some (.int 1)) 0 0 T50 (mkF m 68 #[.val (.int p0), .val (.int p1), .val (.int (1 : Int32)), .val (.int (2 : Int32)), .val (.ref c1), .val (.ref c2), .val (.int (1 : Int32)), .val (.int (1 : Int32)), .val (.int (1 : Int32)), .val (.int (1 : Int32)), .unset, .unset] [(.int (1 : Int32))])
    refine o_istore G50 at_68 (pc' := 70) rfl (l' := #[.val (.int p0), .val (.int p1), .val (.int (1 : Int32)), .val (.int (2 : Int32)), .val (.ref c1), .val (.ref c2), .val (.int (1 : Int32)), .val (.int (1 : Int32)), .val (.int (1 : Int32)), .val (.int (1 : Int32)), .val (.int (1 : Int32)), .unset]) rfl ?_
    refine o_aload G50 at_70 (pc' := 72) rfl rfl rfl ?_
    refine o_callV G50 (z := (⟨"com/example/tributary/tributary/Pipeline$Fit", "skipsAtSource", "()Z"⟩ : MethodName)) (argsL := []) (rest := []) (W := 0) E1 (hw _ (List.mem_of_getElem? (i := 35) rfl)) (hw _ (List.mem_of_getElem? (i := 37) rfl)) (hw _ (List.mem_of_getElem? (i := 36) rfl)) (hw _ (List.mem_of_getElem? (i := 38) rfl)) at_72 (by decide) (hw _ (List.mem_of_getElem? (i := 5) rfl)) (hw _ (List.mem_of_getElem? (i := 39) rfl)) (rm5_1 hw c1 h0 n0 G50.sz c0 c1 c2 c3 mir FF E1 (1 : Int32) F1 (by decide)) (by decide) (by decide) rfl (lenOf pd_2 rfl) rfl (Nat.le_of_eq rfl) (pc' := 75) rfl (by decide) (by decide) ?_
    rintro _ T51 h51 G51 ⟨rfl, hh⟩
    subst hh
    show OFin n0 p e below s (fun v _ => v = some (.int 1)) 0 0 T51 (mkF m 75 #[.val (.int p0), .val (.int p1), .val (.int (1 : Int32)), .val (.int (2 : Int32)), .val (.ref c1), .val (.ref c2), .val (.int (1 : Int32)), .val (.int (1 : Int32)), .val (.int (1 : Int32)), .val (.int (1 : Int32)), .val (.int (1 : Int32)), .unset] [(.int (1 : Int32))])
    refine o_istore G51 at_75 (pc' := 77) rfl (l' := #[.val (.int p0), .val (.int p1), .val (.int (1 : Int32)), .val (.int (2 : Int32)), .val (.ref c1), .val (.ref c2), .val (.int (1 : Int32)), .val (.int (1 : Int32)), .val (.int (1 : Int32)), .val (.int (1 : Int32)), .val (.int (1 : Int32)), .val (.int (1 : Int32))]) rfl ?_
    refine o_iload G51 at_77 (pc' := 79) rfl rfl ?_
    refine o_iload G51 at_79 (pc' := 81) rfl rfl ?_
    refine o_icmp_ne G51 at_81 (by decide) (pcT := 125) (by decide) (pc' := 84) rfl (fun q => absurd (by decide) q) (fun _ => ?_)
    refine o_iload G51 at_84 (pc' := 86) rfl rfl ?_
    refine o_iload G51 at_86 (pc' := 88) rfl rfl ?_
    refine o_icmp_ne G51 at_88 (by decide) (pcT := 125) (by decide) (pc' := 91) rfl (fun q => absurd (by decide) q) (fun _ => ?_)
    refine o_iload G51 at_91 (pc' := 93) rfl rfl ?_
    refine o_iload G51 at_93 (pc' := 95) rfl rfl ?_
    refine o_if_eq G51 at_95 (by decide) (pcT := 107) (by decide) (pc' := 98) rfl (fun q => absurd q (by decide)) (fun _ => ?_)
    refine o_iload G51 at_98 (pc' := 100) rfl rfl ?_
    refine o_if_eq G51 at_100 (by decide) (pcT := 107) (by decide) (pc' := 103) rfl (fun q => absurd q (by decide)) (fun _ => ?_)
    refine o_iconst G51 at_103 (pc' := 104) rfl (v := (1 : Int32)) rfl ?_
    refine o_goto G51 at_104 (by decide) (pc' := 108) rfl ?_
    refine o_icmp_ne G51 at_108 (by decide) (pcT := 125) (by decide) (pc' := 111) rfl (fun q => absurd (by decide) q) (fun _ => ?_)
    refine o_iload G51 at_111 (pc' := 113) rfl rfl ?_
    refine o_if_eq G51 at_113 (by decide) (pcT := 121) (by decide) (pc' := 116) rfl (fun q => absurd q (by decide)) (fun _ => ?_)
    refine o_iload G51 at_116 (pc' := 118) rfl rfl ?_
    refine o_if_eq G51 at_118 (by decide) (pcT := 125) (by decide) (pc' := 121) rfl (fun q => absurd q (by decide)) (fun _ => ?_)
    refine o_iconst G51 at_121 (pc' := 122) rfl (v := (1 : Int32)) rfl ?_
    refine o_goto G51 at_122 (by decide) (pc' := 126) rfl ?_
    exact o_nreturn (t := .boolean) G51 (by simp) at_126 rfl (by decide) (by decide)
  · refine o_iloadN G0 at_8 (pc' := 9) rfl rfl ?_
    refine o_callS G0 (z := (⟨"com/example/tributary/tributary/FitLimitsAtSourcePinLaw", "pick", "(I)Lcom/example/tributary/tributary/Pipeline$Fit;"⟩ : MethodName)) (argsL := [(.int (1 : Int32))]) (rest := []) (W := 0) (hw _ (List.mem_of_getElem? (i := 0) rfl)) (hw _ (List.mem_of_getElem? (i := 1) rfl)) at_9 (by decide) (hw _ (List.mem_of_getElem? (i := 2) rfl)) (hw _ (List.mem_of_getElem? (i := 3) rfl)) (rm1_1 hw h0 n0 G0.sz c0 c1 c2 c3 mir FF) (by decide) (by decide) rfl (lenOf pd_1 rfl) rfl (Nat.le_of_eq rfl) (pc' := 12) rfl (by decide) (by decide) ?_
    rintro _ T52 h52 G52 ⟨rfl, hh⟩
    subst hh
    show OFin n0 p e below s (fun v _ => v = some (.int 1)) 0 0 T52 (mkF m 12 #[.val (.int p0), .val (.int p1), .val (.int (1 : Int32)), .val (.int (3 : Int32)), .unset, .unset, .unset, .unset, .unset, .unset, .unset, .unset] [(.ref c1)])
    refine o_astore G52 at_12 (pc' := 14) rfl rfl (l' := #[.val (.int p0), .val (.int p1), .val (.int (1 : Int32)), .val (.int (3 : Int32)), .val (.ref c1), .unset, .unset, .unset, .unset, .unset, .unset, .unset]) rfl ?_
    refine o_iloadN G52 at_14 (pc' := 15) rfl rfl ?_
    refine o_callS G52 (z := (⟨"com/example/tributary/tributary/FitLimitsAtSourcePinLaw", "pick", "(I)Lcom/example/tributary/tributary/Pipeline$Fit;"⟩ : MethodName)) (argsL := [(.int (3 : Int32))]) (rest := []) (W := 0) (hw _ (List.mem_of_getElem? (i := 0) rfl)) (hw _ (List.mem_of_getElem? (i := 1) rfl)) at_15 (by decide) (hw _ (List.mem_of_getElem? (i := 2) rfl)) (hw _ (List.mem_of_getElem? (i := 3) rfl)) (rm1_3 hw h0 n0 G52.sz c0 c1 c2 c3 mir FF) (by decide) (by decide) rfl (lenOf pd_1 rfl) rfl (Nat.le_of_eq rfl) (pc' := 18) rfl (by decide) (by decide) ?_
    rintro _ T53 h53 G53 ⟨rfl, hh⟩
    subst hh
    show OFin n0 p e below s (fun v _ => v = some (.int 1)) 0 0 T53 (mkF m 18 #[.val (.int p0), .val (.int p1), .val (.int (1 : Int32)), .val (.int (3 : Int32)), .val (.ref c1), .unset, .unset, .unset, .unset, .unset, .unset, .unset] [(.ref c3)])
    refine o_astore G53 at_18 (pc' := 20) rfl rfl (l' := #[.val (.int p0), .val (.int p1), .val (.int (1 : Int32)), .val (.int (3 : Int32)), .val (.ref c1), .val (.ref c3), .unset, .unset, .unset, .unset, .unset, .unset]) rfl ?_
    refine o_iloadN G53 at_20 (pc' := 21) rfl rfl ?_
    refine o_iconst G53 at_21 (pc' := 22) rfl (v := (3 : Int32)) rfl ?_
    refine o_icmp_eq G53 at_22 (by decide) (pcT := 29) (by decide) (pc' := 25) rfl (fun q => absurd q (by decide)) (fun _ => ?_)
    refine o_iconst G53 at_25 (pc' := 26) rfl (v := (1 : Int32)) rfl ?_
    refine o_goto G53 at_26 (by decide) (pc' := 30) rfl ?_
    refine o_istore G53 at_30 (pc' := 32) rfl (l' := #[.val (.int p0), .val (.int p1), .val (.int (1 : Int32)), .val (.int (3 : Int32)), .val (.ref c1), .val (.ref c3), .val (.int (1 : Int32)), .unset, .unset, .unset, .unset, .unset]) rfl ?_
    refine o_iloadN G53 at_32 (pc' := 33) rfl rfl ?_
    refine o_iconst G53 at_33 (pc' := 34) rfl (v := (3 : Int32)) rfl ?_
    refine o_icmp_eq G53 at_34 (by decide) (pcT := 41) (by decide) (pc' := 37) rfl (fun _ => ?_) (fun q => absurd (by decide) q)
    refine o_iconst G53 at_41 (pc' := 42) rfl (v := (0 : Int32)) rfl ?_
    refine o_istore G53 at_42 (pc' := 44) rfl (l' := #[.val (.int p0), .val (.int p1), .val (.int (1 : Int32)), .val (.int (3 : Int32)), .val (.ref c1), .val (.ref c3), .val (.int (1 : Int32)), .val (.int (0 : Int32)), .unset, .unset, .unset, .unset]) rfl ?_
    refine o_aload G53 at_44 (pc' := 46) rfl rfl rfl ?_
    refine o_callV G53 (z := (⟨"com/example/tributary/tributary/Pipeline$Fit", "limitsAtSource", "()Z"⟩ : MethodName)) (argsL := []) (rest := []) (W := 0) E1 (hw _ (List.mem_of_getElem? (i := 9) rfl)) (hw _ (List.mem_of_getElem? (i := 11) rfl)) (hw _ (List.mem_of_getElem? (i := 10) rfl)) (hw _ (List.mem_of_getElem? (i := 12) rfl)) at_46 (by decide) (hw _ (List.mem_of_getElem? (i := 5) rfl)) (hw _ (List.mem_of_getElem? (i := 13) rfl)) (rm2_t hw c1 h0 n0 G53.sz c0 c1 c2 c3 mir FF (Fld.ne F1 F3 (by decide))) (by decide) (by decide) rfl (lenOf pd_2 rfl) rfl (Nat.le_of_eq rfl) (pc' := 49) rfl (by decide) (by decide) ?_
    rintro _ T54 h54 G54 ⟨rfl, hh⟩
    subst hh
    show OFin n0 p e below s (fun v _ => v = some (.int 1)) 0 0 T54 (mkF m 49 #[.val (.int p0), .val (.int p1), .val (.int (1 : Int32)), .val (.int (3 : Int32)), .val (.ref c1), .val (.ref c3), .val (.int (1 : Int32)), .val (.int (0 : Int32)), .unset, .unset, .unset, .unset] [(.int (1 : Int32))])
    refine o_istore G54 at_49 (pc' := 51) rfl (l' := #[.val (.int p0), .val (.int p1), .val (.int (1 : Int32)), .val (.int (3 : Int32)), .val (.ref c1), .val (.ref c3), .val (.int (1 : Int32)), .val (.int (0 : Int32)), .val (.int (1 : Int32)), .unset, .unset, .unset]) rfl ?_
    refine o_aload G54 at_51 (pc' := 53) rfl rfl rfl ?_
    refine o_callV G54 (z := (⟨"com/example/tributary/tributary/Pipeline$Fit", "limitsAtSource", "()Z"⟩ : MethodName)) (argsL := []) (rest := []) (W := 0) E3 (hw _ (List.mem_of_getElem? (i := 9) rfl)) (hw _ (List.mem_of_getElem? (i := 11) rfl)) (hw _ (List.mem_of_getElem? (i := 10) rfl)) (hw _ (List.mem_of_getElem? (i := 12) rfl)) at_53 (by decide) (hw _ (List.mem_of_getElem? (i := 5) rfl)) (hw _ (List.mem_of_getElem? (i := 13) rfl)) (rm2_f hw c3 h0 n0 G54.sz c0 c1 c2 c3 mir FF rfl) (by decide) (by decide) rfl (lenOf pd_2 rfl) rfl (Nat.le_of_eq rfl) (pc' := 56) rfl (by decide) (by decide) ?_
    rintro _ T55 h55 G55 ⟨rfl, hh⟩
    subst hh
    show OFin n0 p e below s (fun v _ => v = some (.int 1)) 0 0 T55 (mkF m 56 #[.val (.int p0), .val (.int p1), .val (.int (1 : Int32)), .val (.int (3 : Int32)), .val (.ref c1), .val (.ref c3), .val (.int (1 : Int32)), .val (.int (0 : Int32)), .val (.int (1 : Int32)), .unset, .unset, .unset] [(.int (0 : Int32))])
    refine o_istore G55 at_56 (pc' := 58) rfl (l' := #[.val (.int p0), .val (.int p1), .val (.int (1 : Int32)), .val (.int (3 : Int32)), .val (.ref c1), .val (.ref c3), .val (.int (1 : Int32)), .val (.int (0 : Int32)), .val (.int (1 : Int32)), .val (.int (0 : Int32)), .unset, .unset]) rfl ?_
    refine o_aload G55 at_58 (pc' := 60) rfl rfl rfl ?_
    refine o_aload G55 at_60 (pc' := 62) rfl rfl rfl ?_
    refine o_callV G55 (z := (⟨"com/example/tributary/tributary/Pipeline$Fit", "then", "(Lcom/example/tributary/tributary/Pipeline$Fit;)Lcom/example/tributary/tributary/Pipeline$Fit;"⟩ : MethodName)) (argsL := [(.ref c3)]) (rest := []) (W := 0) E1 (hw _ (List.mem_of_getElem? (i := 15) rfl)) (hw _ (List.mem_of_getElem? (i := 17) rfl)) (hw _ (List.mem_of_getElem? (i := 16) rfl)) (hw _ (List.mem_of_getElem? (i := 18) rfl)) at_62 (by decide) (hw _ (List.mem_of_getElem? (i := 5) rfl)) (hw _ (List.mem_of_getElem? (i := 19) rfl)) (rm3_l hw c1 c3 h0 n0 G55.sz c0 c1 c2 c3 mir FF E1 E3 (1 : Int32) (3 : Int32) F1 F3 (by decide)) (by decide) (by decide) rfl (lenOf pd_3 rfl) rfl (Nat.le_of_eq rfl) (pc' := 65) rfl (by decide) (by decide) ?_
    rintro _ T56 h56 G56 ⟨rfl, hh⟩
    subst hh
    show OFin n0 p e below s (fun v _ => v = some (.int 1)) 0 0 T56 (mkF m 65 #[.val (.int p0), .val (.int p1), .val (.int (1 : Int32)), .val (.int (3 : Int32)), .val (.ref c1), .val (.ref c3), .val (.int (1 : Int32)), .val (.int (0 : Int32)), .val (.int (1 : Int32)), .val (.int (0 : Int32)), .unset, .unset] [(.ref c3)])
    refine o_callV G56 (z := (⟨"com/example/tributary/tributary/Pipeline$Fit", "limitsAtSource", "()Z"⟩ : MethodName)) (argsL := []) (rest := []) (W := 0) E3 (hw _ (List.mem_of_getElem? (i := 9) rfl)) (hw _ (List.mem_of_getElem? (i := 11) rfl)) (hw _ (List.mem_of_getElem? (i := 10) rfl)) (hw _ (List.mem_of_getElem? (i := 12) rfl)) at_65 (by decide) (hw _ (List.mem_of_getElem? (i := 5) rfl)) (hw _ (List.mem_of_getElem? (i := 13) rfl)) (rm2_f hw c3 h0 n0 G56.sz c0 c1 c2 c3 mir FF rfl) (by decide) (by decide) rfl (lenOf pd_2 rfl) rfl (Nat.le_of_eq rfl) (pc' := 68) rfl (by decide) (by decide) ?_
    rintro _ T57 h57 G57 ⟨rfl, hh⟩
    subst hh
    show OFin n0 p e below s (fun v _ => v = some (.int 1)) 0 0 T57 (mkF m 68 #[.val (.int p0), .val (.int p1), .val (.int (1 : Int32)), .val (.int (3 : Int32)), .val (.ref c1), .val (.ref c3), .val (.int (1 : Int32)), .val (.int (0 : Int32)), .val (.int (1 : Int32)), .val (.int (0 : Int32)), .unset, .unset] [(.int (0 : Int32))])
    refine o_istore G57 at_68 (pc' := 70) rfl (l' := #[.val (.int p0), .val (.int p1), .val (.int (1 : Int32)), .val (.int (3 : Int32)), .val (.ref c1), .val (.ref c3), .val (.int (1 : Int32)), .val (.int (0 : Int32)), .val (.int (1 : Int32)), .val (.int (0 : Int32)), .val (.int (0 : Int32)), .unset]) rfl ?_
    refine o_aload G57 at_70 (pc' := 72) rfl rfl rfl ?_
    refine o_callV G57 (z := (⟨"com/example/tributary/tributary/Pipeline$Fit", "skipsAtSource", "()Z"⟩ : MethodName)) (argsL := []) (rest := []) (W := 0) E1 (hw _ (List.mem_of_getElem? (i := 35) rfl)) (hw _ (List.mem_of_getElem? (i := 37) rfl)) (hw _ (List.mem_of_getElem? (i := 36) rfl)) (hw _ (List.mem_of_getElem? (i := 38) rfl)) at_72 (by decide) (hw _ (List.mem_of_getElem? (i := 5) rfl)) (hw _ (List.mem_of_getElem? (i := 39) rfl)) (rm5_1 hw c1 h0 n0 G57.sz c0 c1 c2 c3 mir FF E1 (1 : Int32) F1 (by decide)) (by decide) (by decide) rfl (lenOf pd_2 rfl) rfl (Nat.le_of_eq rfl) (pc' := 75) rfl (by decide) (by decide) ?_
    rintro _ T58 h58 G58 ⟨rfl, hh⟩
    subst hh
    show OFin n0 p e below s (fun v _ => v = some (.int 1)) 0 0 T58 (mkF m 75 #[.val (.int p0), .val (.int p1), .val (.int (1 : Int32)), .val (.int (3 : Int32)), .val (.ref c1), .val (.ref c3), .val (.int (1 : Int32)), .val (.int (0 : Int32)), .val (.int (1 : Int32)), .val (.int (0 : Int32)), .val (.int (0 : Int32)), .unset] [(.int (1 : Int32))])
    refine o_istore G58 at_75 (pc' := 77) rfl (l' := #[.val (.int p0), .val (.int p1), .val (.int (1 : Int32)), .val (.int (3 : Int32)), .val (.ref c1), .val (.ref c3), .val (.int (1 : Int32)), .val (.int (0 : Int32)), .val (.int (1 : Int32)), .val (.int (0 : Int32)), .val (.int (0 : Int32)), .val (.int (1 : Int32))]) rfl ?_
    refine o_iload G58 at_77 (pc' := 79) rfl rfl ?_
    refine o_iload G58 at_79 (pc' := 81) rfl rfl ?_
    refine o_icmp_ne G58 at_81 (by decide) (pcT := 125) (by decide) (pc' := 84) rfl (fun q => absurd (by decide) q) (fun _ => ?_)
    refine o_iload G58 at_84 (pc' := 86) rfl rfl ?_
    refine o_iload G58 at_86 (pc' := 88) rfl rfl ?_
    refine o_icmp_ne G58 at_88 (by decide) (pcT := 125) (by decide) (pc' := 91) rfl (fun q => absurd (by decide) q) (fun _ => ?_)
    refine o_iload G58 at_91 (pc' := 93) rfl rfl ?_
    refine o_iload G58 at_93 (pc' := 95) rfl rfl ?_
    refine o_if_eq G58 at_95 (by decide) (pcT := 107) (by decide) (pc' := 98) rfl (fun q => absurd q (by decide)) (fun _ => ?_)
    refine o_iload G58 at_98 (pc' := 100) rfl rfl ?_
    refine o_if_eq G58 at_100 (by decide) (pcT := 107) (by decide) (pc' := 103) rfl (fun _ => ?_) (fun q => absurd (by decide) q)
    refine o_iconst G58 at_107 (pc' := 108) rfl (v := (0 : Int32)) rfl ?_
    refine o_icmp_ne G58 at_108 (by decide) (pcT := 125) (by decide) (pc' := 111) rfl (fun q => absurd (by decide) q) (fun _ => ?_)
    refine o_iload G58 at_111 (pc' := 113) rfl rfl ?_
    refine o_if_eq G58 at_113 (by decide) (pcT := 121) (by decide) (pc' := 116) rfl (fun q => absurd q (by decide)) (fun _ => ?_)
    refine o_iload G58 at_116 (pc' := 118) rfl rfl ?_
    refine o_if_eq G58 at_118 (by decide) (pcT := 125) (by decide) (pc' := 121) rfl (fun q => absurd q (by decide)) (fun _ => ?_)
    refine o_iconst G58 at_121 (pc' := 122) rfl (v := (1 : Int32)) rfl ?_
    refine o_goto G58 at_122 (by decide) (pc' := 126) rfl ?_
    exact o_nreturn (t := .boolean) G58 (by simp) at_126 rfl (by decide) (by decide)
  · refine o_iloadN G0 at_8 (pc' := 9) rfl rfl ?_
    refine o_callS G0 (z := (⟨"com/example/tributary/tributary/FitLimitsAtSourcePinLaw", "pick", "(I)Lcom/example/tributary/tributary/Pipeline$Fit;"⟩ : MethodName)) (argsL := [(.int (2 : Int32))]) (rest := []) (W := 0) (hw _ (List.mem_of_getElem? (i := 0) rfl)) (hw _ (List.mem_of_getElem? (i := 1) rfl)) at_9 (by decide) (hw _ (List.mem_of_getElem? (i := 2) rfl)) (hw _ (List.mem_of_getElem? (i := 3) rfl)) (rm1_2 hw h0 n0 G0.sz c0 c1 c2 c3 mir FF) (by decide) (by decide) rfl (lenOf pd_1 rfl) rfl (Nat.le_of_eq rfl) (pc' := 12) rfl (by decide) (by decide) ?_
    rintro _ T59 h59 G59 ⟨rfl, hh⟩
    subst hh
    show OFin n0 p e below s (fun v _ => v = some (.int 1)) 0 0 T59 (mkF m 12 #[.val (.int p0), .val (.int p1), .val (.int (2 : Int32)), .val (.int (0 : Int32)), .unset, .unset, .unset, .unset, .unset, .unset, .unset, .unset] [(.ref c2)])
    refine o_astore G59 at_12 (pc' := 14) rfl rfl (l' := #[.val (.int p0), .val (.int p1), .val (.int (2 : Int32)), .val (.int (0 : Int32)), .val (.ref c2), .unset, .unset, .unset, .unset, .unset, .unset, .unset]) rfl ?_
    refine o_iloadN G59 at_14 (pc' := 15) rfl rfl ?_
    refine o_callS G59 (z := (⟨"com/example/tributary/tributary/FitLimitsAtSourcePinLaw", "pick", "(I)Lcom/example/tributary/tributary/Pipeline$Fit;"⟩ : MethodName)) (argsL := [(.int (0 : Int32))]) (rest := []) (W := 0) (hw _ (List.mem_of_getElem? (i := 0) rfl)) (hw _ (List.mem_of_getElem? (i := 1) rfl)) at_15 (by decide) (hw _ (List.mem_of_getElem? (i := 2) rfl)) (hw _ (List.mem_of_getElem? (i := 3) rfl)) (rm1_0 hw h0 n0 G59.sz c0 c1 c2 c3 mir FF) (by decide) (by decide) rfl (lenOf pd_1 rfl) rfl (Nat.le_of_eq rfl) (pc' := 18) rfl (by decide) (by decide) ?_
    rintro _ T60 h60 G60 ⟨rfl, hh⟩
    subst hh
    show OFin n0 p e below s (fun v _ => v = some (.int 1)) 0 0 T60 (mkF m 18 #[.val (.int p0), .val (.int p1), .val (.int (2 : Int32)), .val (.int (0 : Int32)), .val (.ref c2), .unset, .unset, .unset, .unset, .unset, .unset, .unset] [(.ref c0)])
    refine o_astore G60 at_18 (pc' := 20) rfl rfl (l' := #[.val (.int p0), .val (.int p1), .val (.int (2 : Int32)), .val (.int (0 : Int32)), .val (.ref c2), .val (.ref c0), .unset, .unset, .unset, .unset, .unset, .unset]) rfl ?_
    refine o_iloadN G60 at_20 (pc' := 21) rfl rfl ?_
    refine o_iconst G60 at_21 (pc' := 22) rfl (v := (3 : Int32)) rfl ?_
    refine o_icmp_eq G60 at_22 (by decide) (pcT := 29) (by decide) (pc' := 25) rfl (fun q => absurd q (by decide)) (fun _ => ?_)
    refine o_iconst G60 at_25 (pc' := 26) rfl (v := (1 : Int32)) rfl ?_
    refine o_goto G60 at_26 (by decide) (pc' := 30) rfl ?_
    refine o_istore G60 at_30 (pc' := 32) rfl (l' := #[.val (.int p0), .val (.int p1), .val (.int (2 : Int32)), .val (.int (0 : Int32)), .val (.ref c2), .val (.ref c0), .val (.int (1 : Int32)), .unset, .unset, .unset, .unset, .unset]) rfl ?_
    refine o_iloadN G60 at_32 (pc' := 33) rfl rfl ?_
    refine o_iconst G60 at_33 (pc' := 34) rfl (v := (3 : Int32)) rfl ?_
    refine o_icmp_eq G60 at_34 (by decide) (pcT := 41) (by decide) (pc' := 37) rfl (fun q => absurd q (by decide)) (fun _ => ?_)
    refine o_iconst G60 at_37 (pc' := 38) rfl (v := (1 : Int32)) rfl ?_
    refine o_goto G60 at_38 (by decide) (pc' := 42) rfl ?_
    refine o_istore G60 at_42 (pc' := 44) rfl (l' := #[.val (.int p0), .val (.int p1), .val (.int (2 : Int32)), .val (.int (0 : Int32)), .val (.ref c2), .val (.ref c0), .val (.int (1 : Int32)), .val (.int (1 : Int32)), .unset, .unset, .unset, .unset]) rfl ?_
    refine o_aload G60 at_44 (pc' := 46) rfl rfl rfl ?_
    refine o_callV G60 (z := (⟨"com/example/tributary/tributary/Pipeline$Fit", "limitsAtSource", "()Z"⟩ : MethodName)) (argsL := []) (rest := []) (W := 0) E2 (hw _ (List.mem_of_getElem? (i := 9) rfl)) (hw _ (List.mem_of_getElem? (i := 11) rfl)) (hw _ (List.mem_of_getElem? (i := 10) rfl)) (hw _ (List.mem_of_getElem? (i := 12) rfl)) at_46 (by decide) (hw _ (List.mem_of_getElem? (i := 5) rfl)) (hw _ (List.mem_of_getElem? (i := 13) rfl)) (rm2_t hw c2 h0 n0 G60.sz c0 c1 c2 c3 mir FF (Fld.ne F2 F3 (by decide))) (by decide) (by decide) rfl (lenOf pd_2 rfl) rfl (Nat.le_of_eq rfl) (pc' := 49) rfl (by decide) (by decide) ?_
    rintro _ T61 h61 G61 ⟨rfl, hh⟩
    subst hh
    show OFin n0 p e below s (fun v _ => v = some (.int 1)) 0 0 T61 (mkF m 49 #[.val (.int p0), .val (.int p1), .val (.int (2 : Int32)), .val (.int (0 : Int32)), .val (.ref c2), .val (.ref c0), .val (.int (1 : Int32)), .val (.int (1 : Int32)), .unset, .unset, .unset, .unset] [(.int (1 : Int32))])
    refine o_istore G61 at_49 (pc' := 51) rfl (l' := #[.val (.int p0), .val (.int p1), .val (.int (2 : Int32)), .val (.int (0 : Int32)), .val (.ref c2), .val (.ref c0), .val (.int (1 : Int32)), .val (.int (1 : Int32)), .val (.int (1 : Int32)), .unset, .unset, .unset]) rfl ?_
    refine o_aload G61 at_51 (pc' := 53) rfl rfl rfl ?_
    refine o_callV G61 (z := (⟨"com/example/tributary/tributary/Pipeline$Fit", "limitsAtSource", "()Z"⟩ : MethodName)) (argsL := []) (rest := []) (W := 0) E0 (hw _ (List.mem_of_getElem? (i := 9) rfl)) (hw _ (List.mem_of_getElem? (i := 11) rfl)) (hw _ (List.mem_of_getElem? (i := 10) rfl)) (hw _ (List.mem_of_getElem? (i := 12) rfl)) at_53 (by decide) (hw _ (List.mem_of_getElem? (i := 5) rfl)) (hw _ (List.mem_of_getElem? (i := 13) rfl)) (rm2_t hw c0 h0 n0 G61.sz c0 c1 c2 c3 mir FF (Fld.ne F0 F3 (by decide))) (by decide) (by decide) rfl (lenOf pd_2 rfl) rfl (Nat.le_of_eq rfl) (pc' := 56) rfl (by decide) (by decide) ?_
    rintro _ T62 h62 G62 ⟨rfl, hh⟩
    subst hh
    show OFin n0 p e below s (fun v _ => v = some (.int 1)) 0 0 T62 (mkF m 56 #[.val (.int p0), .val (.int p1), .val (.int (2 : Int32)), .val (.int (0 : Int32)), .val (.ref c2), .val (.ref c0), .val (.int (1 : Int32)), .val (.int (1 : Int32)), .val (.int (1 : Int32)), .unset, .unset, .unset] [(.int (1 : Int32))])
    refine o_istore G62 at_56 (pc' := 58) rfl (l' := #[.val (.int p0), .val (.int p1), .val (.int (2 : Int32)), .val (.int (0 : Int32)), .val (.ref c2), .val (.ref c0), .val (.int (1 : Int32)), .val (.int (1 : Int32)), .val (.int (1 : Int32)), .val (.int (1 : Int32)), .unset, .unset]) rfl ?_
    refine o_aload G62 at_58 (pc' := 60) rfl rfl rfl ?_
    refine o_aload G62 at_60 (pc' := 62) rfl rfl rfl ?_
    refine o_callV G62 (z := (⟨"com/example/tributary/tributary/Pipeline$Fit", "then", "(Lcom/example/tributary/tributary/Pipeline$Fit;)Lcom/example/tributary/tributary/Pipeline$Fit;"⟩ : MethodName)) (argsL := [(.ref c0)]) (rest := []) (W := 0) E2 (hw _ (List.mem_of_getElem? (i := 15) rfl)) (hw _ (List.mem_of_getElem? (i := 17) rfl)) (hw _ (List.mem_of_getElem? (i := 16) rfl)) (hw _ (List.mem_of_getElem? (i := 18) rfl)) at_62 (by decide) (hw _ (List.mem_of_getElem? (i := 5) rfl)) (hw _ (List.mem_of_getElem? (i := 19) rfl)) (rm3_g hw c2 c0 h0 n0 G62.sz c0 c1 c2 c3 mir FF E2 E0 (2 : Int32) (0 : Int32) F2 F0 (by decide)) (by decide) (by decide) rfl (lenOf pd_3 rfl) rfl (Nat.le_of_eq rfl) (pc' := 65) rfl (by decide) (by decide) ?_
    rintro _ T63 h63 G63 ⟨rfl, hh⟩
    subst hh
    show OFin n0 p e below s (fun v _ => v = some (.int 1)) 0 0 T63 (mkF m 65 #[.val (.int p0), .val (.int p1), .val (.int (2 : Int32)), .val (.int (0 : Int32)), .val (.ref c2), .val (.ref c0), .val (.int (1 : Int32)), .val (.int (1 : Int32)), .val (.int (1 : Int32)), .val (.int (1 : Int32)), .unset, .unset] [(.ref c2)])
    refine o_callV G63 (z := (⟨"com/example/tributary/tributary/Pipeline$Fit", "limitsAtSource", "()Z"⟩ : MethodName)) (argsL := []) (rest := []) (W := 0) E2 (hw _ (List.mem_of_getElem? (i := 9) rfl)) (hw _ (List.mem_of_getElem? (i := 11) rfl)) (hw _ (List.mem_of_getElem? (i := 10) rfl)) (hw _ (List.mem_of_getElem? (i := 12) rfl)) at_65 (by decide) (hw _ (List.mem_of_getElem? (i := 5) rfl)) (hw _ (List.mem_of_getElem? (i := 13) rfl)) (rm2_t hw c2 h0 n0 G63.sz c0 c1 c2 c3 mir FF (Fld.ne F2 F3 (by decide))) (by decide) (by decide) rfl (lenOf pd_2 rfl) rfl (Nat.le_of_eq rfl) (pc' := 68) rfl (by decide) (by decide) ?_
    rintro _ T64 h64 G64 ⟨rfl, hh⟩
    subst hh
    show OFin n0 p e below s (fun v _ => v = some (.int 1)) 0 0 T64 (mkF m 68 #[.val (.int p0), .val (.int p1), .val (.int (2 : Int32)), .val (.int (0 : Int32)), .val (.ref c2), .val (.ref c0), .val (.int (1 : Int32)), .val (.int (1 : Int32)), .val (.int (1 : Int32)), .val (.int (1 : Int32)), .unset, .unset] [(.int (1 : Int32))])
    refine o_istore G64 at_68 (pc' := 70) rfl (l' := #[.val (.int p0), .val (.int p1), .val (.int (2 : Int32)), .val (.int (0 : Int32)), .val (.ref c2), .val (.ref c0), .val (.int (1 : Int32)), .val (.int (1 : Int32)), .val (.int (1 : Int32)), .val (.int (1 : Int32)), .val (.int (1 : Int32)), .unset]) rfl ?_
    refine o_aload G64 at_70 (pc' := 72) rfl rfl rfl ?_
    refine o_callV G64 (z := (⟨"com/example/tributary/tributary/Pipeline$Fit", "skipsAtSource", "()Z"⟩ : MethodName)) (argsL := []) (rest := []) (W := 0) E2 (hw _ (List.mem_of_getElem? (i := 35) rfl)) (hw _ (List.mem_of_getElem? (i := 37) rfl)) (hw _ (List.mem_of_getElem? (i := 36) rfl)) (hw _ (List.mem_of_getElem? (i := 38) rfl)) at_72 (by decide) (hw _ (List.mem_of_getElem? (i := 5) rfl)) (hw _ (List.mem_of_getElem? (i := 39) rfl)) (rm5_0 hw c2 h0 n0 G64.sz c0 c1 c2 c3 mir FF E2 (2 : Int32) F2 (by decide)) (by decide) (by decide) rfl (lenOf pd_2 rfl) rfl (Nat.le_of_eq rfl) (pc' := 75) rfl (by decide) (by decide) ?_
    rintro _ T65 h65 G65 ⟨rfl, hh⟩
    subst hh
    show OFin n0 p e below s (fun v _ => v = some (.int 1)) 0 0 T65 (mkF m 75 #[.val (.int p0), .val (.int p1), .val (.int (2 : Int32)), .val (.int (0 : Int32)), .val (.ref c2), .val (.ref c0), .val (.int (1 : Int32)), .val (.int (1 : Int32)), .val (.int (1 : Int32)), .val (.int (1 : Int32)), .val (.int (1 : Int32)), .unset] [(.int (0 : Int32))])
    refine o_istore G65 at_75 (pc' := 77) rfl (l' := #[.val (.int p0), .val (.int p1), .val (.int (2 : Int32)), .val (.int (0 : Int32)), .val (.ref c2), .val (.ref c0), .val (.int (1 : Int32)), .val (.int (1 : Int32)), .val (.int (1 : Int32)), .val (.int (1 : Int32)), .val (.int (1 : Int32)), .val (.int (0 : Int32))]) rfl ?_
    refine o_iload G65 at_77 (pc' := 79) rfl rfl ?_
    refine o_iload G65 at_79 (pc' := 81) rfl rfl ?_
    refine o_icmp_ne G65 at_81 (by decide) (pcT := 125) (by decide) (pc' := 84) rfl (fun q => absurd (by decide) q) (fun _ => ?_)
    refine o_iload G65 at_84 (pc' := 86) rfl rfl ?_
    refine o_iload G65 at_86 (pc' := 88) rfl rfl ?_
    refine o_icmp_ne G65 at_88 (by decide) (pcT := 125) (by decide) (pc' := 91) rfl (fun q => absurd (by decide) q) (fun _ => ?_)
    refine o_iload G65 at_91 (pc' := 93) rfl rfl ?_
    refine o_iload G65 at_93 (pc' := 95) rfl rfl ?_
    refine o_if_eq G65 at_95 (by decide) (pcT := 107) (by decide) (pc' := 98) rfl (fun q => absurd q (by decide)) (fun _ => ?_)
    refine o_iload G65 at_98 (pc' := 100) rfl rfl ?_
    refine o_if_eq G65 at_100 (by decide) (pcT := 107) (by decide) (pc' := 103) rfl (fun q => absurd q (by decide)) (fun _ => ?_)
    refine o_iconst G65 at_103 (pc' := 104) rfl (v := (1 : Int32)) rfl ?_
    refine o_goto G65 at_104 (by decide) (pc' := 108) rfl ?_
    refine o_icmp_ne G65 at_108 (by decide) (pcT := 125) (by decide) (pc' := 111) rfl (fun q => absurd (by decide) q) (fun _ => ?_)
    refine o_iload G65 at_111 (pc' := 113) rfl rfl ?_
    refine o_if_eq G65 at_113 (by decide) (pcT := 121) (by decide) (pc' := 116) rfl (fun _ => ?_) (fun q => absurd (by decide) q)
    refine o_iconst G65 at_121 (pc' := 122) rfl (v := (1 : Int32)) rfl ?_
    refine o_goto G65 at_122 (by decide) (pc' := 126) rfl ?_
    exact o_nreturn (t := .boolean) G65 (by simp) at_126 rfl (by decide) (by decide)
  · refine o_iloadN G0 at_8 (pc' := 9) rfl rfl ?_
    refine o_callS G0 (z := (⟨"com/example/tributary/tributary/FitLimitsAtSourcePinLaw", "pick", "(I)Lcom/example/tributary/tributary/Pipeline$Fit;"⟩ : MethodName)) (argsL := [(.int (2 : Int32))]) (rest := []) (W := 0) (hw _ (List.mem_of_getElem? (i := 0) rfl)) (hw _ (List.mem_of_getElem? (i := 1) rfl)) at_9 (by decide) (hw _ (List.mem_of_getElem? (i := 2) rfl)) (hw _ (List.mem_of_getElem? (i := 3) rfl)) (rm1_2 hw h0 n0 G0.sz c0 c1 c2 c3 mir FF) (by decide) (by decide) rfl (lenOf pd_1 rfl) rfl (Nat.le_of_eq rfl) (pc' := 12) rfl (by decide) (by decide) ?_
    rintro _ T66 h66 G66 ⟨rfl, hh⟩
    subst hh
    show OFin n0 p e below s (fun v _ => v = some (.int 1)) 0 0 T66 (mkF m 12 #[.val (.int p0), .val (.int p1), .val (.int (2 : Int32)), .val (.int (1 : Int32)), .unset, .unset, .unset, .unset, .unset, .unset, .unset, .unset] [(.ref c2)])
    refine o_astore G66 at_12 (pc' := 14) rfl rfl (l' := #[.val (.int p0), .val (.int p1), .val (.int (2 : Int32)), .val (.int (1 : Int32)), .val (.ref c2), .unset, .unset, .unset, .unset, .unset, .unset, .unset]) rfl ?_
    refine o_iloadN G66 at_14 (pc' := 15) rfl rfl ?_
    refine o_callS G66 (z := (⟨"com/example/tributary/tributary/FitLimitsAtSourcePinLaw", "pick", "(I)Lcom/example/tributary/tributary/Pipeline$Fit;"⟩ : MethodName)) (argsL := [(.int (1 : Int32))]) (rest := []) (W := 0) (hw _ (List.mem_of_getElem? (i := 0) rfl)) (hw _ (List.mem_of_getElem? (i := 1) rfl)) at_15 (by decide) (hw _ (List.mem_of_getElem? (i := 2) rfl)) (hw _ (List.mem_of_getElem? (i := 3) rfl)) (rm1_1 hw h0 n0 G66.sz c0 c1 c2 c3 mir FF) (by decide) (by decide) rfl (lenOf pd_1 rfl) rfl (Nat.le_of_eq rfl) (pc' := 18) rfl (by decide) (by decide) ?_
    rintro _ T67 h67 G67 ⟨rfl, hh⟩
    subst hh
    show OFin n0 p e below s (fun v _ => v = some (.int 1)) 0 0 T67 (mkF m 18 #[.val (.int p0), .val (.int p1), .val (.int (2 : Int32)), .val (.int (1 : Int32)), .val (.ref c2), .unset, .unset, .unset, .unset, .unset, .unset, .unset] [(.ref c1)])
    refine o_astore G67 at_18 (pc' := 20) rfl rfl (l' := #[.val (.int p0), .val (.int p1), .val (.int (2 : Int32)), .val (.int (1 : Int32)), .val (.ref c2), .val (.ref c1), .unset, .unset, .unset, .unset, .unset, .unset]) rfl ?_
    refine o_iloadN G67 at_20 (pc' := 21) rfl rfl ?_
    refine o_iconst G67 at_21 (pc' := 22) rfl (v := (3 : Int32)) rfl ?_
    refine o_icmp_eq G67 at_22 (by decide) (pcT := 29) (by decide) (pc' := 25) rfl (fun q => absurd q (by decide)) (fun _ => ?_)
    refine o_iconst G67 at_25 (pc' := 26) rfl (v := (1 : Int32)) rfl ?_
    refine o_goto G67 at_26 (by decide) (pc' := 30) rfl ?_
    refine o_istore G67 at_30 (pc' := 32) rfl (l' := #[.val (.int p0), .val (.int p1), .val (.int (2 : Int32)), .val (.int (1 : Int32)), .val (.ref c2), .val (.ref c1), .val (.int (1 : Int32)), .unset, .unset, .unset, .unset, .unset]) rfl ?_
    refine o_iloadN G67 at_32 (pc' := 33) rfl rfl ?_
    refine o_iconst G67 at_33 (pc' := 34) rfl (v := (3 : Int32)) rfl ?_
    refine o_icmp_eq G67 at_34 (by decide) (pcT := 41) (by decide) (pc' := 37) rfl (fun q => absurd q (by decide)) (fun _ => ?_)
    refine o_iconst G67 at_37 (pc' := 38) rfl (v := (1 : Int32)) rfl ?_
    refine o_goto G67 at_38 (by decide) (pc' := 42) rfl ?_
    refine o_istore G67 at_42 (pc' := 44) rfl (l' := #[.val (.int p0), .val (.int p1), .val (.int (2 : Int32)), .val (.int (1 : Int32)), .val (.ref c2), .val (.ref c1), .val (.int (1 : Int32)), .val (.int (1 : Int32)), .unset, .unset, .unset, .unset]) rfl ?_
    refine o_aload G67 at_44 (pc' := 46) rfl rfl rfl ?_
    refine o_callV G67 (z := (⟨"com/example/tributary/tributary/Pipeline$Fit", "limitsAtSource", "()Z"⟩ : MethodName)) (argsL := []) (rest := []) (W := 0) E2 (hw _ (List.mem_of_getElem? (i := 9) rfl)) (hw _ (List.mem_of_getElem? (i := 11) rfl)) (hw _ (List.mem_of_getElem? (i := 10) rfl)) (hw _ (List.mem_of_getElem? (i := 12) rfl)) at_46 (by decide) (hw _ (List.mem_of_getElem? (i := 5) rfl)) (hw _ (List.mem_of_getElem? (i := 13) rfl)) (rm2_t hw c2 h0 n0 G67.sz c0 c1 c2 c3 mir FF (Fld.ne F2 F3 (by decide))) (by decide) (by decide) rfl (lenOf pd_2 rfl) rfl (Nat.le_of_eq rfl) (pc' := 49) rfl (by decide) (by decide) ?_
    rintro _ T68 h68 G68 ⟨rfl, hh⟩
    subst hh
    show OFin n0 p e below s (fun v _ => v = some (.int 1)) 0 0 T68 (mkF m 49 #[.val (.int p0), .val (.int p1), .val (.int (2 : Int32)), .val (.int (1 : Int32)), .val (.ref c2), .val (.ref c1), .val (.int (1 : Int32)), .val (.int (1 : Int32)), .unset, .unset, .unset, .unset] [(.int (1 : Int32))])
    refine o_istore G68 at_49 (pc' := 51) rfl (l' := #[.val (.int p0), .val (.int p1), .val (.int (2 : Int32)), .val (.int (1 : Int32)), .val (.ref c2), .val (.ref c1), .val (.int (1 : Int32)), .val (.int (1 : Int32)), .val (.int (1 : Int32)), .unset, .unset, .unset]) rfl ?_
    refine o_aload G68 at_51 (pc' := 53) rfl rfl rfl ?_
    refine o_callV G68 (z := (⟨"com/example/tributary/tributary/Pipeline$Fit", "limitsAtSource", "()Z"⟩ : MethodName)) (argsL := []) (rest := []) (W := 0) E1 (hw _ (List.mem_of_getElem? (i := 9) rfl)) (hw _ (List.mem_of_getElem? (i := 11) rfl)) (hw _ (List.mem_of_getElem? (i := 10) rfl)) (hw _ (List.mem_of_getElem? (i := 12) rfl)) at_53 (by decide) (hw _ (List.mem_of_getElem? (i := 5) rfl)) (hw _ (List.mem_of_getElem? (i := 13) rfl)) (rm2_t hw c1 h0 n0 G68.sz c0 c1 c2 c3 mir FF (Fld.ne F1 F3 (by decide))) (by decide) (by decide) rfl (lenOf pd_2 rfl) rfl (Nat.le_of_eq rfl) (pc' := 56) rfl (by decide) (by decide) ?_
    rintro _ T69 h69 G69 ⟨rfl, hh⟩
    subst hh
    show OFin n0 p e below s (fun v _ => v = some (.int 1)) 0 0 T69 (mkF m 56 #[.val (.int p0), .val (.int p1), .val (.int (2 : Int32)), .val (.int (1 : Int32)), .val (.ref c2), .val (.ref c1), .val (.int (1 : Int32)), .val (.int (1 : Int32)), .val (.int (1 : Int32)), .unset, .unset, .unset] [(.int (1 : Int32))])
    refine o_istore G69 at_56 (pc' := 58) rfl (l' := #[.val (.int p0), .val (.int p1), .val (.int (2 : Int32)), .val (.int (1 : Int32)), .val (.ref c2), .val (.ref c1), .val (.int (1 : Int32)), .val (.int (1 : Int32)), .val (.int (1 : Int32)), .val (.int (1 : Int32)), .unset, .unset]) rfl ?_
    refine o_aload G69 at_58 (pc' := 60) rfl rfl rfl ?_
    refine o_aload G69 at_60 (pc' := 62) rfl rfl rfl ?_
    refine o_callV G69 (z := (⟨"com/example/tributary/tributary/Pipeline$Fit", "then", "(Lcom/example/tributary/tributary/Pipeline$Fit;)Lcom/example/tributary/tributary/Pipeline$Fit;"⟩ : MethodName)) (argsL := [(.ref c1)]) (rest := []) (W := 0) E2 (hw _ (List.mem_of_getElem? (i := 15) rfl)) (hw _ (List.mem_of_getElem? (i := 17) rfl)) (hw _ (List.mem_of_getElem? (i := 16) rfl)) (hw _ (List.mem_of_getElem? (i := 18) rfl)) at_62 (by decide) (hw _ (List.mem_of_getElem? (i := 5) rfl)) (hw _ (List.mem_of_getElem? (i := 19) rfl)) (rm3_g hw c2 c1 h0 n0 G69.sz c0 c1 c2 c3 mir FF E2 E1 (2 : Int32) (1 : Int32) F2 F1 (by decide)) (by decide) (by decide) rfl (lenOf pd_3 rfl) rfl (Nat.le_of_eq rfl) (pc' := 65) rfl (by decide) (by decide) ?_
    rintro _ T70 h70 G70 ⟨rfl, hh⟩
    subst hh
    show OFin n0 p e below s (fun v _ => v = some (.int 1)) 0 0 T70 (mkF m 65 #[.val (.int p0), .val (.int p1), .val (.int (2 : Int32)), .val (.int (1 : Int32)), .val (.ref c2), .val (.ref c1), .val (.int (1 : Int32)), .val (.int (1 : Int32)), .val (.int (1 : Int32)), .val (.int (1 : Int32)), .unset, .unset] [(.ref c2)])
    refine o_callV G70 (z := (⟨"com/example/tributary/tributary/Pipeline$Fit", "limitsAtSource", "()Z"⟩ : MethodName)) (argsL := []) (rest := []) (W := 0) E2 (hw _ (List.mem_of_getElem? (i := 9) rfl)) (hw _ (List.mem_of_getElem? (i := 11) rfl)) (hw _ (List.mem_of_getElem? (i := 10) rfl)) (hw _ (List.mem_of_getElem? (i := 12) rfl)) at_65 (by decide) (hw _ (List.mem_of_getElem? (i := 5) rfl)) (hw _ (List.mem_of_getElem? (i := 13) rfl)) (rm2_t hw c2 h0 n0 G70.sz c0 c1 c2 c3 mir FF (Fld.ne F2 F3 (by decide))) (by decide) (by decide) rfl (lenOf pd_2 rfl) rfl (Nat.le_of_eq rfl) (pc' := 68) rfl (by decide) (by decide) ?_
    rintro _ T71 h71 G71 ⟨rfl, hh⟩
    subst hh
    show OFin n0 p e below s (fun v _ => v = some (.int 1)) 0 0 T71 (mkF m 68 #[.val (.int p0), .val (.int p1), .val (.int (2 : Int32)), .val (.int (1 : Int32)), .val (.ref c2), .val (.ref c1), .val (.int (1 : Int32)), .val (.int (1 : Int32)), .val (.int (1 : Int32)), .val (.int (1 : Int32)), .unset, .unset] [(.int (1 : Int32))])
    refine o_istore G71 at_68 (pc' := 70) rfl (l' := #[.val (.int p0), .val (.int p1), .val (.int (2 : Int32)), .val (.int (1 : Int32)), .val (.ref c2), .val (.ref c1), .val (.int (1 : Int32)), .val (.int (1 : Int32)), .val (.int (1 : Int32)), .val (.int (1 : Int32)), .val (.int (1 : Int32)), .unset]) rfl ?_
    refine o_aload G71 at_70 (pc' := 72) rfl rfl rfl ?_
    refine o_callV G71 (z := (⟨"com/example/tributary/tributary/Pipeline$Fit", "skipsAtSource", "()Z"⟩ : MethodName)) (argsL := []) (rest := []) (W := 0) E2 (hw _ (List.mem_of_getElem? (i := 35) rfl)) (hw _ (List.mem_of_getElem? (i := 37) rfl)) (hw _ (List.mem_of_getElem? (i := 36) rfl)) (hw _ (List.mem_of_getElem? (i := 38) rfl)) at_72 (by decide) (hw _ (List.mem_of_getElem? (i := 5) rfl)) (hw _ (List.mem_of_getElem? (i := 39) rfl)) (rm5_0 hw c2 h0 n0 G71.sz c0 c1 c2 c3 mir FF E2 (2 : Int32) F2 (by decide)) (by decide) (by decide) rfl (lenOf pd_2 rfl) rfl (Nat.le_of_eq rfl) (pc' := 75) rfl (by decide) (by decide) ?_
    rintro _ T72 h72 G72 ⟨rfl, hh⟩
    subst hh
    show OFin n0 p e below s (fun v _ => v = some (.int 1)) 0 0 T72 (mkF m 75 #[.val (.int p0), .val (.int p1), .val (.int (2 : Int32)), .val (.int (1 : Int32)), .val (.ref c2), .val (.ref c1), .val (.int (1 : Int32)), .val (.int (1 : Int32)), .val (.int (1 : Int32)), .val (.int (1 : Int32)), .val (.int (1 : Int32)), .unset] [(.int (0 : Int32))])
    refine o_istore G72 at_75 (pc' := 77) rfl (l' := #[.val (.int p0), .val (.int p1), .val (.int (2 : Int32)), .val (.int (1 : Int32)), .val (.ref c2), .val (.ref c1), .val (.int (1 : Int32)), .val (.int (1 : Int32)), .val (.int (1 : Int32)), .val (.int (1 : Int32)), .val (.int (1 : Int32)), .val (.int (0 : Int32))]) rfl ?_
    refine o_iload G72 at_77 (pc' := 79) rfl rfl ?_
    refine o_iload G72 at_79 (pc' := 81) rfl rfl ?_
    refine o_icmp_ne G72 at_81 (by decide) (pcT := 125) (by decide) (pc' := 84) rfl (fun q => absurd (by decide) q) (fun _ => ?_)
    refine o_iload G72 at_84 (pc' := 86) rfl rfl ?_
    refine o_iload G72 at_86 (pc' := 88) rfl rfl ?_
    refine o_icmp_ne G72 at_88 (by decide) (pcT := 125) (by decide) (pc' := 91) rfl (fun q => absurd (by decide) q) (fun _ => ?_)
    refine o_iload G72 at_91 (pc' := 93) rfl rfl ?_
    refine o_iload G72 at_93 (pc' := 95) rfl rfl ?_
    refine o_if_eq G72 at_95 (by decide) (pcT := 107) (by decide) (pc' := 98) rfl (fun q => absurd q (by decide)) (fun _ => ?_)
    refine o_iload G72 at_98 (pc' := 100) rfl rfl ?_
    refine o_if_eq G72 at_100 (by decide) (pcT := 107) (by decide) (pc' := 103) rfl (fun q => absurd q (by decide)) (fun _ => ?_)
    refine o_iconst G72 at_103 (pc' := 104) rfl (v := (1 : Int32)) rfl ?_
    refine o_goto G72 at_104 (by decide) (pc' := 108) rfl ?_
    refine o_icmp_ne G72 at_108 (by decide) (pcT := 125) (by decide) (pc' := 111) rfl (fun q => absurd (by decide) q) (fun _ => ?_)
    refine o_iload G72 at_111 (pc' := 113) rfl rfl ?_
    refine o_if_eq G72 at_113 (by decide) (pcT := 121) (by decide) (pc' := 116) rfl (fun _ => ?_) (fun q => absurd (by decide) q)
    refine o_iconst G72 at_121 (pc' := 122) rfl (v := (1 : Int32)) rfl ?_
    refine o_goto G72 at_122 (by decide) (pc' := 126) rfl ?_
    exact o_nreturn (t := .boolean) G72 (by simp) at_126 rfl (by decide) (by decide)
  · refine o_iloadN G0 at_8 (pc' := 9) rfl rfl ?_
    refine o_callS G0 (z := (⟨"com/example/tributary/tributary/FitLimitsAtSourcePinLaw", "pick", "(I)Lcom/example/tributary/tributary/Pipeline$Fit;"⟩ : MethodName)) (argsL := [(.int (2 : Int32))]) (rest := []) (W := 0) (hw _ (List.mem_of_getElem? (i := 0) rfl)) (hw _ (List.mem_of_getElem? (i := 1) rfl)) at_9 (by decide) (hw _ (List.mem_of_getElem? (i := 2) rfl)) (hw _ (List.mem_of_getElem? (i := 3) rfl)) (rm1_2 hw h0 n0 G0.sz c0 c1 c2 c3 mir FF) (by decide) (by decide) rfl (lenOf pd_1 rfl) rfl (Nat.le_of_eq rfl) (pc' := 12) rfl (by decide) (by decide) ?_
    rintro _ T73 h73 G73 ⟨rfl, hh⟩
    subst hh
    show OFin n0 p e below s (fun v _ => v = some (.int 1)) 0 0 T73 (mkF m 12 #[.val (.int p0), .val (.int p1), .val (.int (2 : Int32)), .val (.int (2 : Int32)), .unset, .unset, .unset, .unset, .unset, .unset, .unset, .unset] [(.ref c2)])
    refine o_astore G73 at_12 (pc' := 14) rfl rfl (l' := #[.val (.int p0), .val (.int p1), .val (.int (2 : Int32)), .val (.int (2 : Int32)), .val (.ref c2), .unset, .unset, .unset, .unset, .unset, .unset, .unset]) rfl ?_
    refine o_iloadN G73 at_14 (pc' := 15) rfl rfl ?_
    refine o_callS G73 (z := (⟨"com/example/tributary/tributary/FitLimitsAtSourcePinLaw", "pick", "(I)Lcom/example/tributary/tributary/Pipeline$Fit;"⟩ : MethodName)) (argsL := [(.int (2 : Int32))]) (rest := []) (W := 0) (hw _ (List.mem_of_getElem? (i := 0) rfl)) (hw _ (List.mem_of_getElem? (i := 1) rfl)) at_15 (by decide) (hw _ (List.mem_of_getElem? (i := 2) rfl)) (hw _ (List.mem_of_getElem? (i := 3) rfl)) (rm1_2 hw h0 n0 G73.sz c0 c1 c2 c3 mir FF) (by decide) (by decide) rfl (lenOf pd_1 rfl) rfl (Nat.le_of_eq rfl) (pc' := 18) rfl (by decide) (by decide) ?_
    rintro _ T74 h74 G74 ⟨rfl, hh⟩
    subst hh
    show OFin n0 p e below s (fun v _ => v = some (.int 1)) 0 0 T74 (mkF m 18 #[.val (.int p0), .val (.int p1), .val (.int (2 : Int32)), .val (.int (2 : Int32)), .val (.ref c2), .unset, .unset, .unset, .unset, .unset, .unset, .unset] [(.ref c2)])
    refine o_astore G74 at_18 (pc' := 20) rfl rfl (l' := #[.val (.int p0), .val (.int p1), .val (.int (2 : Int32)), .val (.int (2 : Int32)), .val (.ref c2), .val (.ref c2), .unset, .unset, .unset, .unset, .unset, .unset]) rfl ?_
    refine o_iloadN G74 at_20 (pc' := 21) rfl rfl ?_
    refine o_iconst G74 at_21 (pc' := 22) rfl (v := (3 : Int32)) rfl ?_
    refine o_icmp_eq G74 at_22 (by decide) (pcT := 29) (by decide) (pc' := 25) rfl (fun q => absurd q (by decide)) (fun _ => ?_)
    refine o_iconst G74 at_25 (pc' := 26) rfl (v := (1 : Int32)) rfl ?_
    refine o_goto G74 at_26 (by decide) (pc' := 30) rfl ?_
    refine o_istore G74 at_30 (pc' := 32) rfl (l' := #[.val (.int p0), .val (.int p1), .val (.int (2 : Int32)), .val (.int (2 : Int32)), .val (.ref c2), .val (.ref c2), .val (.int (1 : Int32)), .unset, .unset, .unset, .unset, .unset]) rfl ?_
    refine o_iloadN G74 at_32 (pc' := 33) rfl rfl ?_
    refine o_iconst G74 at_33 (pc' := 34) rfl (v := (3 : Int32)) rfl ?_
    refine o_icmp_eq G74 at_34 (by decide) (pcT := 41) (by decide) (pc' := 37) rfl (fun q => absurd q (by decide)) (fun _ => ?_)
    refine o_iconst G74 at_37 (pc' := 38) rfl (v := (1 : Int32)) rfl ?_
    refine o_goto G74 at_38 (by decide) (pc' := 42) rfl ?_
    refine o_istore G74 at_42 (pc' := 44) rfl (l' := #[.val (.int p0), .val (.int p1), .val (.int (2 : Int32)), .val (.int (2 : Int32)), .val (.ref c2), .val (.ref c2), .val (.int (1 : Int32)), .val (.int (1 : Int32)), .unset, .unset, .unset, .unset]) rfl ?_
    refine o_aload G74 at_44 (pc' := 46) rfl rfl rfl ?_
    refine o_callV G74 (z := (⟨"com/example/tributary/tributary/Pipeline$Fit", "limitsAtSource", "()Z"⟩ : MethodName)) (argsL := []) (rest := []) (W := 0) E2 (hw _ (List.mem_of_getElem? (i := 9) rfl)) (hw _ (List.mem_of_getElem? (i := 11) rfl)) (hw _ (List.mem_of_getElem? (i := 10) rfl)) (hw _ (List.mem_of_getElem? (i := 12) rfl)) at_46 (by decide) (hw _ (List.mem_of_getElem? (i := 5) rfl)) (hw _ (List.mem_of_getElem? (i := 13) rfl)) (rm2_t hw c2 h0 n0 G74.sz c0 c1 c2 c3 mir FF (Fld.ne F2 F3 (by decide))) (by decide) (by decide) rfl (lenOf pd_2 rfl) rfl (Nat.le_of_eq rfl) (pc' := 49) rfl (by decide) (by decide) ?_
    rintro _ T75 h75 G75 ⟨rfl, hh⟩
    subst hh
    show OFin n0 p e below s (fun v _ => v = some (.int 1)) 0 0 T75 (mkF m 49 #[.val (.int p0), .val (.int p1), .val (.int (2 : Int32)), .val (.int (2 : Int32)), .val (.ref c2), .val (.ref c2), .val (.int (1 : Int32)), .val (.int (1 : Int32)), .unset, .unset, .unset, .unset] [(.int (1 : Int32))])
    refine o_istore G75 at_49 (pc' := 51) rfl (l' := #[.val (.int p0), .val (.int p1), .val (.int (2 : Int32)), .val (.int (2 : Int32)), .val (.ref c2), .val (.ref c2), .val (.int (1 : Int32)), .val (.int (1 : Int32)), .val (.int (1 : Int32)), .unset, .unset, .unset]) rfl ?_
    refine o_aload G75 at_51 (pc' := 53) rfl rfl rfl ?_
    refine o_callV G75 (z := (⟨"com/example/tributary/tributary/Pipeline$Fit", "limitsAtSource", "()Z"⟩ : MethodName)) (argsL := []) (rest := []) (W := 0) E2 (hw _ (List.mem_of_getElem? (i := 9) rfl)) (hw _ (List.mem_of_getElem? (i := 11) rfl)) (hw _ (List.mem_of_getElem? (i := 10) rfl)) (hw _ (List.mem_of_getElem? (i := 12) rfl)) at_53 (by decide) (hw _ (List.mem_of_getElem? (i := 5) rfl)) (hw _ (List.mem_of_getElem? (i := 13) rfl)) (rm2_t hw c2 h0 n0 G75.sz c0 c1 c2 c3 mir FF (Fld.ne F2 F3 (by decide))) (by decide) (by decide) rfl (lenOf pd_2 rfl) rfl (Nat.le_of_eq rfl) (pc' := 56) rfl (by decide) (by decide) ?_
    rintro _ T76 h76 G76 ⟨rfl, hh⟩
    subst hh
    show OFin n0 p e below s (fun v _ => v = some (.int 1)) 0 0 T76 (mkF m 56 #[.val (.int p0), .val (.int p1), .val (.int (2 : Int32)), .val (.int (2 : Int32)), .val (.ref c2), .val (.ref c2), .val (.int (1 : Int32)), .val (.int (1 : Int32)), .val (.int (1 : Int32)), .unset, .unset, .unset] [(.int (1 : Int32))])
    refine o_istore G76 at_56 (pc' := 58) rfl (l' := #[.val (.int p0), .val (.int p1), .val (.int (2 : Int32)), .val (.int (2 : Int32)), .val (.ref c2), .val (.ref c2), .val (.int (1 : Int32)), .val (.int (1 : Int32)), .val (.int (1 : Int32)), .val (.int (1 : Int32)), .unset, .unset]) rfl ?_
    refine o_aload G76 at_58 (pc' := 60) rfl rfl rfl ?_
    refine o_aload G76 at_60 (pc' := 62) rfl rfl rfl ?_
    refine o_callV G76 (z := (⟨"com/example/tributary/tributary/Pipeline$Fit", "then", "(Lcom/example/tributary/tributary/Pipeline$Fit;)Lcom/example/tributary/tributary/Pipeline$Fit;"⟩ : MethodName)) (argsL := [(.ref c2)]) (rest := []) (W := 0) E2 (hw _ (List.mem_of_getElem? (i := 15) rfl)) (hw _ (List.mem_of_getElem? (i := 17) rfl)) (hw _ (List.mem_of_getElem? (i := 16) rfl)) (hw _ (List.mem_of_getElem? (i := 18) rfl)) at_62 (by decide) (hw _ (List.mem_of_getElem? (i := 5) rfl)) (hw _ (List.mem_of_getElem? (i := 19) rfl)) (rm3_g hw c2 c2 h0 n0 G76.sz c0 c1 c2 c3 mir FF E2 E2 (2 : Int32) (2 : Int32) F2 F2 (by decide)) (by decide) (by decide) rfl (lenOf pd_3 rfl) rfl (Nat.le_of_eq rfl) (pc' := 65) rfl (by decide) (by decide) ?_
    rintro _ T77 h77 G77 ⟨rfl, hh⟩
    subst hh
    show OFin n0 p e below s (fun v _ => v = some (.int 1)) 0 0 T77 (mkF m 65 #[.val (.int p0), .val (.int p1), .val (.int (2 : Int32)), .val (.int (2 : Int32)), .val (.ref c2), .val (.ref c2), .val (.int (1 : Int32)), .val (.int (1 : Int32)), .val (.int (1 : Int32)), .val (.int (1 : Int32)), .unset, .unset] [(.ref c2)])
    refine o_callV G77 (z := (⟨"com/example/tributary/tributary/Pipeline$Fit", "limitsAtSource", "()Z"⟩ : MethodName)) (argsL := []) (rest := []) (W := 0) E2 (hw _ (List.mem_of_getElem? (i := 9) rfl)) (hw _ (List.mem_of_getElem? (i := 11) rfl)) (hw _ (List.mem_of_getElem? (i := 10) rfl)) (hw _ (List.mem_of_getElem? (i := 12) rfl)) at_65 (by decide) (hw _ (List.mem_of_getElem? (i := 5) rfl)) (hw _ (List.mem_of_getElem? (i := 13) rfl)) (rm2_t hw c2 h0 n0 G77.sz c0 c1 c2 c3 mir FF (Fld.ne F2 F3 (by decide))) (by decide) (by decide) rfl (lenOf pd_2 rfl) rfl (Nat.le_of_eq rfl) (pc' := 68) rfl (by decide) (by decide) ?_
    rintro _ T78 h78 G78 ⟨rfl, hh⟩
    subst hh
    show OFin n0 p e below s (fun v _ => v = some (.int 1)) 0 0 T78 (mkF m 68 #[.val (.int p0), .val (.int p1), .val (.int (2 : Int32)), .val (.int (2 : Int32)), .val (.ref c2), .val (.ref c2), .val (.int (1 : Int32)), .val (.int (1 : Int32)), .val (.int (1 : Int32)), .val (.int (1 : Int32)), .unset, .unset] [(.int (1 : Int32))])
    refine o_istore G78 at_68 (pc' := 70) rfl (l' := #[.val (.int p0), .val (.int p1), .val (.int (2 : Int32)), .val (.int (2 : Int32)), .val (.ref c2), .val (.ref c2), .val (.int (1 : Int32)), .val (.int (1 : Int32)), .val (.int (1 : Int32)), .val (.int (1 : Int32)), .val (.int (1 : Int32)), .unset]) rfl ?_
    refine o_aload G78 at_70 (pc' := 72) rfl rfl rfl ?_
    refine o_callV G78 (z := (⟨"com/example/tributary/tributary/Pipeline$Fit", "skipsAtSource", "()Z"⟩ : MethodName)) (argsL := []) (rest := []) (W := 0) E2 (hw _ (List.mem_of_getElem? (i := 35) rfl)) (hw _ (List.mem_of_getElem? (i := 37) rfl)) (hw _ (List.mem_of_getElem? (i := 36) rfl)) (hw _ (List.mem_of_getElem? (i := 38) rfl)) at_72 (by decide) (hw _ (List.mem_of_getElem? (i := 5) rfl)) (hw _ (List.mem_of_getElem? (i := 39) rfl)) (rm5_0 hw c2 h0 n0 G78.sz c0 c1 c2 c3 mir FF E2 (2 : Int32) F2 (by decide)) (by decide) (by decide) rfl (lenOf pd_2 rfl) rfl (Nat.le_of_eq rfl) (pc' := 75) rfl (by decide) (by decide) ?_
    rintro _ T79 h79 G79 ⟨rfl, hh⟩
    subst hh
    show OFin n0 p e below s (fun v _ => v = some (.int 1)) 0 0 T79 (mkF m 75 #[.val (.int p0), .val (.int p1), .val (.int (2 : Int32)), .val (.int (2 : Int32)), .val (.ref c2), .val (.ref c2), .val (.int (1 : Int32)), .val (.int (1 : Int32)), .val (.int (1 : Int32)), .val (.int (1 : Int32)), .val (.int (1 : Int32)), .unset] [(.int (0 : Int32))])
    refine o_istore G79 at_75 (pc' := 77) rfl (l' := #[.val (.int p0), .val (.int p1), .val (.int (2 : Int32)), .val (.int (2 : Int32)), .val (.ref c2), .val (.ref c2), .val (.int (1 : Int32)), .val (.int (1 : Int32)), .val (.int (1 : Int32)), .val (.int (1 : Int32)), .val (.int (1 : Int32)), .val (.int (0 : Int32))]) rfl ?_
    refine o_iload G79 at_77 (pc' := 79) rfl rfl ?_
    refine o_iload G79 at_79 (pc' := 81) rfl rfl ?_
    refine o_icmp_ne G79 at_81 (by decide) (pcT := 125) (by decide) (pc' := 84) rfl (fun q => absurd (by decide) q) (fun _ => ?_)
    refine o_iload G79 at_84 (pc' := 86) rfl rfl ?_
    refine o_iload G79 at_86 (pc' := 88) rfl rfl ?_
    refine o_icmp_ne G79 at_88 (by decide) (pcT := 125) (by decide) (pc' := 91) rfl (fun q => absurd (by decide) q) (fun _ => ?_)
    refine o_iload G79 at_91 (pc' := 93) rfl rfl ?_
    refine o_iload G79 at_93 (pc' := 95) rfl rfl ?_
    refine o_if_eq G79 at_95 (by decide) (pcT := 107) (by decide) (pc' := 98) rfl (fun q => absurd q (by decide)) (fun _ => ?_)
    refine o_iload G79 at_98 (pc' := 100) rfl rfl ?_
    refine o_if_eq G79 at_100 (by decide) (pcT := 107) (by decide) (pc' := 103) rfl (fun q => absurd q (by decide)) (fun _ => ?_)
    refine o_iconst G79 at_103 (pc' := 104) rfl (v := (1 : Int32)) rfl ?_
    refine o_goto G79 at_104 (by decide) (pc' := 108) rfl ?_
    refine o_icmp_ne G79 at_108 (by decide) (pcT := 125) (by decide) (pc' := 111) rfl (fun q => absurd (by decide) q) (fun _ => ?_)
    refine o_iload G79 at_111 (pc' := 113) rfl rfl ?_
    refine o_if_eq G79 at_113 (by decide) (pcT := 121) (by decide) (pc' := 116) rfl (fun _ => ?_) (fun q => absurd (by decide) q)
    refine o_iconst G79 at_121 (pc' := 122) rfl (v := (1 : Int32)) rfl ?_
    refine o_goto G79 at_122 (by decide) (pc' := 126) rfl ?_
    exact o_nreturn (t := .boolean) G79 (by simp) at_126 rfl (by decide) (by decide)
  · refine o_iloadN G0 at_8 (pc' := 9) rfl rfl ?_
    refine o_callS G0 (z := (⟨"com/example/tributary/tributary/FitLimitsAtSourcePinLaw", "pick", "(I)Lcom/example/tributary/tributary/Pipeline$Fit;"⟩ : MethodName)) (argsL := [(.int (2 : Int32))]) (rest := []) (W := 0) (hw _ (List.mem_of_getElem? (i := 0) rfl)) (hw _ (List.mem_of_getElem? (i := 1) rfl)) at_9 (by decide) (hw _ (List.mem_of_getElem? (i := 2) rfl)) (hw _ (List.mem_of_getElem? (i := 3) rfl)) (rm1_2 hw h0 n0 G0.sz c0 c1 c2 c3 mir FF) (by decide) (by decide) rfl (lenOf pd_1 rfl) rfl (Nat.le_of_eq rfl) (pc' := 12) rfl (by decide) (by decide) ?_
    rintro _ T80 h80 G80 ⟨rfl, hh⟩
    subst hh
    show OFin n0 p e below s (fun v _ => v = some (.int 1)) 0 0 T80 (mkF m 12 #[.val (.int p0), .val (.int p1), .val (.int (2 : Int32)), .val (.int (3 : Int32)), .unset, .unset, .unset, .unset, .unset, .unset, .unset, .unset] [(.ref c2)])
    refine o_astore G80 at_12 (pc' := 14) rfl rfl (l' := #[.val (.int p0), .val (.int p1), .val (.int (2 : Int32)), .val (.int (3 : Int32)), .val (.ref c2), .unset, .unset, .unset, .unset, .unset, .unset, .unset]) rfl ?_
    refine o_iloadN G80 at_14 (pc' := 15) rfl rfl ?_
    refine o_callS G80 (z := (⟨"com/example/tributary/tributary/FitLimitsAtSourcePinLaw", "pick", "(I)Lcom/example/tributary/tributary/Pipeline$Fit;"⟩ : MethodName)) (argsL := [(.int (3 : Int32))]) (rest := []) (W := 0) (hw _ (List.mem_of_getElem? (i := 0) rfl)) (hw _ (List.mem_of_getElem? (i := 1) rfl)) at_15 (by decide) (hw _ (List.mem_of_getElem? (i := 2) rfl)) (hw _ (List.mem_of_getElem? (i := 3) rfl)) (rm1_3 hw h0 n0 G80.sz c0 c1 c2 c3 mir FF) (by decide) (by decide) rfl (lenOf pd_1 rfl) rfl (Nat.le_of_eq rfl) (pc' := 18) rfl (by decide) (by decide) ?_
    rintro _ T81 h81 G81 ⟨rfl, hh⟩
    subst hh
    show OFin n0 p e below s (fun v _ => v = some (.int 1)) 0 0 T81 (mkF m 18 #[.val (.int p0), .val (.int p1), .val (.int (2 : Int32)), .val (.int (3 : Int32)), .val (.ref c2), .unset, .unset, .unset, .unset, .unset, .unset, .unset] [(.ref c3)])
    refine o_astore G81 at_18 (pc' := 20) rfl rfl (l' := #[.val (.int p0), .val (.int p1), .val (.int (2 : Int32)), .val (.int (3 : Int32)), .val (.ref c2), .val (.ref c3), .unset, .unset, .unset, .unset, .unset, .unset]) rfl ?_
    refine o_iloadN G81 at_20 (pc' := 21) rfl rfl ?_
    refine o_iconst G81 at_21 (pc' := 22) rfl (v := (3 : Int32)) rfl ?_
    refine o_icmp_eq G81 at_22 (by decide) (pcT := 29) (by decide) (pc' := 25) rfl (fun q => absurd q (by decide)) (fun _ => ?_)
    refine o_iconst G81 at_25 (pc' := 26) rfl (v := (1 : Int32)) rfl ?_
    refine o_goto G81 at_26 (by decide) (pc' := 30) rfl ?_
    refine o_istore G81 at_30 (pc' := 32) rfl (l' := #[.val (.int p0), .val (.int p1), .val (.int (2 : Int32)), .val (.int (3 : Int32)), .val (.ref c2), .val (.ref c3), .val (.int (1 : Int32)), .unset, .unset, .unset, .unset, .unset]) rfl ?_
    refine o_iloadN G81 at_32 (pc' := 33) rfl rfl ?_
    refine o_iconst G81 at_33 (pc' := 34) rfl (v := (3 : Int32)) rfl ?_
    refine o_icmp_eq G81 at_34 (by decide) (pcT := 41) (by decide) (pc' := 37) rfl (fun _ => ?_) (fun q => absurd (by decide) q)
    refine o_iconst G81 at_41 (pc' := 42) rfl (v := (0 : Int32)) rfl ?_
    refine o_istore G81 at_42 (pc' := 44) rfl (l' := #[.val (.int p0), .val (.int p1), .val (.int (2 : Int32)), .val (.int (3 : Int32)), .val (.ref c2), .val (.ref c3), .val (.int (1 : Int32)), .val (.int (0 : Int32)), .unset, .unset, .unset, .unset]) rfl ?_
    refine o_aload G81 at_44 (pc' := 46) rfl rfl rfl ?_
    refine o_callV G81 (z := (⟨"com/example/tributary/tributary/Pipeline$Fit", "limitsAtSource", "()Z"⟩ : MethodName)) (argsL := []) (rest := []) (W := 0) E2 (hw _ (List.mem_of_getElem? (i := 9) rfl)) (hw _ (List.mem_of_getElem? (i := 11) rfl)) (hw _ (List.mem_of_getElem? (i := 10) rfl)) (hw _ (List.mem_of_getElem? (i := 12) rfl)) at_46 (by decide) (hw _ (List.mem_of_getElem? (i := 5) rfl)) (hw _ (List.mem_of_getElem? (i := 13) rfl)) (rm2_t hw c2 h0 n0 G81.sz c0 c1 c2 c3 mir FF (Fld.ne F2 F3 (by decide))) (by decide) (by decide) rfl (lenOf pd_2 rfl) rfl (Nat.le_of_eq rfl) (pc' := 49) rfl (by decide) (by decide) ?_
    rintro _ T82 h82 G82 ⟨rfl, hh⟩
    subst hh
    show OFin n0 p e below s (fun v _ => v = some (.int 1)) 0 0 T82 (mkF m 49 #[.val (.int p0), .val (.int p1), .val (.int (2 : Int32)), .val (.int (3 : Int32)), .val (.ref c2), .val (.ref c3), .val (.int (1 : Int32)), .val (.int (0 : Int32)), .unset, .unset, .unset, .unset] [(.int (1 : Int32))])
    refine o_istore G82 at_49 (pc' := 51) rfl (l' := #[.val (.int p0), .val (.int p1), .val (.int (2 : Int32)), .val (.int (3 : Int32)), .val (.ref c2), .val (.ref c3), .val (.int (1 : Int32)), .val (.int (0 : Int32)), .val (.int (1 : Int32)), .unset, .unset, .unset]) rfl ?_
    refine o_aload G82 at_51 (pc' := 53) rfl rfl rfl ?_
    refine o_callV G82 (z := (⟨"com/example/tributary/tributary/Pipeline$Fit", "limitsAtSource", "()Z"⟩ : MethodName)) (argsL := []) (rest := []) (W := 0) E3 (hw _ (List.mem_of_getElem? (i := 9) rfl)) (hw _ (List.mem_of_getElem? (i := 11) rfl)) (hw _ (List.mem_of_getElem? (i := 10) rfl)) (hw _ (List.mem_of_getElem? (i := 12) rfl)) at_53 (by decide) (hw _ (List.mem_of_getElem? (i := 5) rfl)) (hw _ (List.mem_of_getElem? (i := 13) rfl)) (rm2_f hw c3 h0 n0 G82.sz c0 c1 c2 c3 mir FF rfl) (by decide) (by decide) rfl (lenOf pd_2 rfl) rfl (Nat.le_of_eq rfl) (pc' := 56) rfl (by decide) (by decide) ?_
    rintro _ T83 h83 G83 ⟨rfl, hh⟩
    subst hh
    show OFin n0 p e below s (fun v _ => v = some (.int 1)) 0 0 T83 (mkF m 56 #[.val (.int p0), .val (.int p1), .val (.int (2 : Int32)), .val (.int (3 : Int32)), .val (.ref c2), .val (.ref c3), .val (.int (1 : Int32)), .val (.int (0 : Int32)), .val (.int (1 : Int32)), .unset, .unset, .unset] [(.int (0 : Int32))])
    refine o_istore G83 at_56 (pc' := 58) rfl (l' := #[.val (.int p0), .val (.int p1), .val (.int (2 : Int32)), .val (.int (3 : Int32)), .val (.ref c2), .val (.ref c3), .val (.int (1 : Int32)), .val (.int (0 : Int32)), .val (.int (1 : Int32)), .val (.int (0 : Int32)), .unset, .unset]) rfl ?_
    refine o_aload G83 at_58 (pc' := 60) rfl rfl rfl ?_
    refine o_aload G83 at_60 (pc' := 62) rfl rfl rfl ?_
    refine o_callV G83 (z := (⟨"com/example/tributary/tributary/Pipeline$Fit", "then", "(Lcom/example/tributary/tributary/Pipeline$Fit;)Lcom/example/tributary/tributary/Pipeline$Fit;"⟩ : MethodName)) (argsL := [(.ref c3)]) (rest := []) (W := 0) E2 (hw _ (List.mem_of_getElem? (i := 15) rfl)) (hw _ (List.mem_of_getElem? (i := 17) rfl)) (hw _ (List.mem_of_getElem? (i := 16) rfl)) (hw _ (List.mem_of_getElem? (i := 18) rfl)) at_62 (by decide) (hw _ (List.mem_of_getElem? (i := 5) rfl)) (hw _ (List.mem_of_getElem? (i := 19) rfl)) (rm3_l hw c2 c3 h0 n0 G83.sz c0 c1 c2 c3 mir FF E2 E3 (2 : Int32) (3 : Int32) F2 F3 (by decide)) (by decide) (by decide) rfl (lenOf pd_3 rfl) rfl (Nat.le_of_eq rfl) (pc' := 65) rfl (by decide) (by decide) ?_
    rintro _ T84 h84 G84 ⟨rfl, hh⟩
    subst hh
    show OFin n0 p e below s (fun v _ => v = some (.int 1)) 0 0 T84 (mkF m 65 #[.val (.int p0), .val (.int p1), .val (.int (2 : Int32)), .val (.int (3 : Int32)), .val (.ref c2), .val (.ref c3), .val (.int (1 : Int32)), .val (.int (0 : Int32)), .val (.int (1 : Int32)), .val (.int (0 : Int32)), .unset, .unset] [(.ref c3)])
    refine o_callV G84 (z := (⟨"com/example/tributary/tributary/Pipeline$Fit", "limitsAtSource", "()Z"⟩ : MethodName)) (argsL := []) (rest := []) (W := 0) E3 (hw _ (List.mem_of_getElem? (i := 9) rfl)) (hw _ (List.mem_of_getElem? (i := 11) rfl)) (hw _ (List.mem_of_getElem? (i := 10) rfl)) (hw _ (List.mem_of_getElem? (i := 12) rfl)) at_65 (by decide) (hw _ (List.mem_of_getElem? (i := 5) rfl)) (hw _ (List.mem_of_getElem? (i := 13) rfl)) (rm2_f hw c3 h0 n0 G84.sz c0 c1 c2 c3 mir FF rfl) (by decide) (by decide) rfl (lenOf pd_2 rfl) rfl (Nat.le_of_eq rfl) (pc' := 68) rfl (by decide) (by decide) ?_
    rintro _ T85 h85 G85 ⟨rfl, hh⟩
    subst hh
    show OFin n0 p e below s (fun v _ => v = some (.int 1)) 0 0 T85 (mkF m 68 #[.val (.int p0), .val (.int p1), .val (.int (2 : Int32)), .val (.int (3 : Int32)), .val (.ref c2), .val (.ref c3), .val (.int (1 : Int32)), .val (.int (0 : Int32)), .val (.int (1 : Int32)), .val (.int (0 : Int32)), .unset, .unset] [(.int (0 : Int32))])
    refine o_istore G85 at_68 (pc' := 70) rfl (l' := #[.val (.int p0), .val (.int p1), .val (.int (2 : Int32)), .val (.int (3 : Int32)), .val (.ref c2), .val (.ref c3), .val (.int (1 : Int32)), .val (.int (0 : Int32)), .val (.int (1 : Int32)), .val (.int (0 : Int32)), .val (.int (0 : Int32)), .unset]) rfl ?_
    refine o_aload G85 at_70 (pc' := 72) rfl rfl rfl ?_
    refine o_callV G85 (z := (⟨"com/example/tributary/tributary/Pipeline$Fit", "skipsAtSource", "()Z"⟩ : MethodName)) (argsL := []) (rest := []) (W := 0) E2 (hw _ (List.mem_of_getElem? (i := 35) rfl)) (hw _ (List.mem_of_getElem? (i := 37) rfl)) (hw _ (List.mem_of_getElem? (i := 36) rfl)) (hw _ (List.mem_of_getElem? (i := 38) rfl)) at_72 (by decide) (hw _ (List.mem_of_getElem? (i := 5) rfl)) (hw _ (List.mem_of_getElem? (i := 39) rfl)) (rm5_0 hw c2 h0 n0 G85.sz c0 c1 c2 c3 mir FF E2 (2 : Int32) F2 (by decide)) (by decide) (by decide) rfl (lenOf pd_2 rfl) rfl (Nat.le_of_eq rfl) (pc' := 75) rfl (by decide) (by decide) ?_
    rintro _ T86 h86 G86 ⟨rfl, hh⟩
    subst hh
    show OFin n0 p e below s (fun v _ => v = some (.int 1)) 0 0 T86 (mkF m 75 #[.val (.int p0), .val (.int p1), .val (.int (2 : Int32)), .val (.int (3 : Int32)), .val (.ref c2), .val (.ref c3), .val (.int (1 : Int32)), .val (.int (0 : Int32)), .val (.int (1 : Int32)), .val (.int (0 : Int32)), .val (.int (0 : Int32)), .unset] [(.int (0 : Int32))])
    refine o_istore G86 at_75 (pc' := 77) rfl (l' := #[.val (.int p0), .val (.int p1), .val (.int (2 : Int32)), .val (.int (3 : Int32)), .val (.ref c2), .val (.ref c3), .val (.int (1 : Int32)), .val (.int (0 : Int32)), .val (.int (1 : Int32)), .val (.int (0 : Int32)), .val (.int (0 : Int32)), .val (.int (0 : Int32))]) rfl ?_
    refine o_iload G86 at_77 (pc' := 79) rfl rfl ?_
    refine o_iload G86 at_79 (pc' := 81) rfl rfl ?_
    refine o_icmp_ne G86 at_81 (by decide) (pcT := 125) (by decide) (pc' := 84) rfl (fun q => absurd (by decide) q) (fun _ => ?_)
    refine o_iload G86 at_84 (pc' := 86) rfl rfl ?_
    refine o_iload G86 at_86 (pc' := 88) rfl rfl ?_
    refine o_icmp_ne G86 at_88 (by decide) (pcT := 125) (by decide) (pc' := 91) rfl (fun q => absurd (by decide) q) (fun _ => ?_)
    refine o_iload G86 at_91 (pc' := 93) rfl rfl ?_
    refine o_iload G86 at_93 (pc' := 95) rfl rfl ?_
    refine o_if_eq G86 at_95 (by decide) (pcT := 107) (by decide) (pc' := 98) rfl (fun q => absurd q (by decide)) (fun _ => ?_)
    refine o_iload G86 at_98 (pc' := 100) rfl rfl ?_
    refine o_if_eq G86 at_100 (by decide) (pcT := 107) (by decide) (pc' := 103) rfl (fun _ => ?_) (fun q => absurd (by decide) q)
    refine o_iconst G86 at_107 (pc' := 108) rfl (v := (0 : Int32)) rfl ?_
    refine o_icmp_ne G86 at_108 (by decide) (pcT := 125) (by decide) (pc' := 111) rfl (fun q => absurd (by decide) q) (fun _ => ?_)
    refine o_iload G86 at_111 (pc' := 113) rfl rfl ?_
    refine o_if_eq G86 at_113 (by decide) (pcT := 121) (by decide) (pc' := 116) rfl (fun _ => ?_) (fun q => absurd (by decide) q)
    refine o_iconst G86 at_121 (pc' := 122) rfl (v := (1 : Int32)) rfl ?_
    refine o_goto G86 at_122 (by decide) (pc' := 126) rfl ?_
    exact o_nreturn (t := .boolean) G86 (by simp) at_126 rfl (by decide) (by decide)
  · refine o_iloadN G0 at_8 (pc' := 9) rfl rfl ?_
    refine o_callS G0 (z := (⟨"com/example/tributary/tributary/FitLimitsAtSourcePinLaw", "pick", "(I)Lcom/example/tributary/tributary/Pipeline$Fit;"⟩ : MethodName)) (argsL := [(.int (3 : Int32))]) (rest := []) (W := 0) (hw _ (List.mem_of_getElem? (i := 0) rfl)) (hw _ (List.mem_of_getElem? (i := 1) rfl)) at_9 (by decide) (hw _ (List.mem_of_getElem? (i := 2) rfl)) (hw _ (List.mem_of_getElem? (i := 3) rfl)) (rm1_3 hw h0 n0 G0.sz c0 c1 c2 c3 mir FF) (by decide) (by decide) rfl (lenOf pd_1 rfl) rfl (Nat.le_of_eq rfl) (pc' := 12) rfl (by decide) (by decide) ?_
    rintro _ T87 h87 G87 ⟨rfl, hh⟩
    subst hh
    show OFin n0 p e below s (fun v _ => v = some (.int 1)) 0 0 T87 (mkF m 12 #[.val (.int p0), .val (.int p1), .val (.int (3 : Int32)), .val (.int (0 : Int32)), .unset, .unset, .unset, .unset, .unset, .unset, .unset, .unset] [(.ref c3)])
    refine o_astore G87 at_12 (pc' := 14) rfl rfl (l' := #[.val (.int p0), .val (.int p1), .val (.int (3 : Int32)), .val (.int (0 : Int32)), .val (.ref c3), .unset, .unset, .unset, .unset, .unset, .unset, .unset]) rfl ?_
    refine o_iloadN G87 at_14 (pc' := 15) rfl rfl ?_
    refine o_callS G87 (z := (⟨"com/example/tributary/tributary/FitLimitsAtSourcePinLaw", "pick", "(I)Lcom/example/tributary/tributary/Pipeline$Fit;"⟩ : MethodName)) (argsL := [(.int (0 : Int32))]) (rest := []) (W := 0) (hw _ (List.mem_of_getElem? (i := 0) rfl)) (hw _ (List.mem_of_getElem? (i := 1) rfl)) at_15 (by decide) (hw _ (List.mem_of_getElem? (i := 2) rfl)) (hw _ (List.mem_of_getElem? (i := 3) rfl)) (rm1_0 hw h0 n0 G87.sz c0 c1 c2 c3 mir FF) (by decide) (by decide) rfl (lenOf pd_1 rfl) rfl (Nat.le_of_eq rfl) (pc' := 18) rfl (by decide) (by decide) ?_
    rintro _ T88 h88 G88 ⟨rfl, hh⟩
    subst hh
    show OFin n0 p e below s (fun v _ => v = some (.int 1)) 0 0 T88 (mkF m 18 #[.val (.int p0), .val (.int p1), .val (.int (3 : Int32)), .val (.int (0 : Int32)), .val (.ref c3), .unset, .unset, .unset, .unset, .unset, .unset, .unset] [(.ref c0)])
    refine o_astore G88 at_18 (pc' := 20) rfl rfl (l' := #[.val (.int p0), .val (.int p1), .val (.int (3 : Int32)), .val (.int (0 : Int32)), .val (.ref c3), .val (.ref c0), .unset, .unset, .unset, .unset, .unset, .unset]) rfl ?_
    refine o_iloadN G88 at_20 (pc' := 21) rfl rfl ?_
    refine o_iconst G88 at_21 (pc' := 22) rfl (v := (3 : Int32)) rfl ?_
    refine o_icmp_eq G88 at_22 (by decide) (pcT := 29) (by decide) (pc' := 25) rfl (fun _ => ?_) (fun q => absurd (by decide) q)
    refine o_iconst G88 at_29 (pc' := 30) rfl (v := (0 : Int32)) rfl ?_
    refine o_istore G88 at_30 (pc' := 32) rfl (l' := #[.val (.int p0), .val (.int p1), .val (.int (3 : Int32)), .val (.int (0 : Int32)), .val (.ref c3), .val (.ref c0), .val (.int (0 : Int32)), .unset, .unset, .unset, .unset, .unset]) rfl ?_
    refine o_iloadN G88 at_32 (pc' := 33) rfl rfl ?_
    refine o_iconst G88 at_33 (pc' := 34) rfl (v := (3 : Int32)) rfl ?_
    refine o_icmp_eq G88 at_34 (by decide) (pcT := 41) (by decide) (pc' := 37) rfl (fun q => absurd q (by decide)) (fun _ => ?_)
    refine o_iconst G88 at_37 (pc' := 38) rfl (v := (1 : Int32)) rfl ?_
    refine o_goto G88 at_38 (by decide) (pc' := 42) rfl ?_
    refine o_istore G88 at_42 (pc' := 44) rfl (l' := #[.val (.int p0), .val (.int p1), .val (.int (3 : Int32)), .val (.int (0 : Int32)), .val (.ref c3), .val (.ref c0), .val (.int (0 : Int32)), .val (.int (1 : Int32)), .unset, .unset, .unset, .unset]) rfl ?_
    refine o_aload G88 at_44 (pc' := 46) rfl rfl rfl ?_
    refine o_callV G88 (z := (⟨"com/example/tributary/tributary/Pipeline$Fit", "limitsAtSource", "()Z"⟩ : MethodName)) (argsL := []) (rest := []) (W := 0) E3 (hw _ (List.mem_of_getElem? (i := 9) rfl)) (hw _ (List.mem_of_getElem? (i := 11) rfl)) (hw _ (List.mem_of_getElem? (i := 10) rfl)) (hw _ (List.mem_of_getElem? (i := 12) rfl)) at_46 (by decide) (hw _ (List.mem_of_getElem? (i := 5) rfl)) (hw _ (List.mem_of_getElem? (i := 13) rfl)) (rm2_f hw c3 h0 n0 G88.sz c0 c1 c2 c3 mir FF rfl) (by decide) (by decide) rfl (lenOf pd_2 rfl) rfl (Nat.le_of_eq rfl) (pc' := 49) rfl (by decide) (by decide) ?_
    rintro _ T89 h89 G89 ⟨rfl, hh⟩
    subst hh
    show OFin n0 p e below s (fun v _ => v = some (.int 1)) 0 0 T89 (mkF m 49 #[.val (.int p0), .val (.int p1), .val (.int (3 : Int32)), .val (.int (0 : Int32)), .val (.ref c3), .val (.ref c0), .val (.int (0 : Int32)), .val (.int (1 : Int32)), .unset, .unset, .unset, .unset] [(.int (0 : Int32))])
    refine o_istore G89 at_49 (pc' := 51) rfl (l' := #[.val (.int p0), .val (.int p1), .val (.int (3 : Int32)), .val (.int (0 : Int32)), .val (.ref c3), .val (.ref c0), .val (.int (0 : Int32)), .val (.int (1 : Int32)), .val (.int (0 : Int32)), .unset, .unset, .unset]) rfl ?_
    refine o_aload G89 at_51 (pc' := 53) rfl rfl rfl ?_
    refine o_callV G89 (z := (⟨"com/example/tributary/tributary/Pipeline$Fit", "limitsAtSource", "()Z"⟩ : MethodName)) (argsL := []) (rest := []) (W := 0) E0 (hw _ (List.mem_of_getElem? (i := 9) rfl)) (hw _ (List.mem_of_getElem? (i := 11) rfl)) (hw _ (List.mem_of_getElem? (i := 10) rfl)) (hw _ (List.mem_of_getElem? (i := 12) rfl)) at_53 (by decide) (hw _ (List.mem_of_getElem? (i := 5) rfl)) (hw _ (List.mem_of_getElem? (i := 13) rfl)) (rm2_t hw c0 h0 n0 G89.sz c0 c1 c2 c3 mir FF (Fld.ne F0 F3 (by decide))) (by decide) (by decide) rfl (lenOf pd_2 rfl) rfl (Nat.le_of_eq rfl) (pc' := 56) rfl (by decide) (by decide) ?_
    rintro _ T90 h90 G90 ⟨rfl, hh⟩
    subst hh
    show OFin n0 p e below s (fun v _ => v = some (.int 1)) 0 0 T90 (mkF m 56 #[.val (.int p0), .val (.int p1), .val (.int (3 : Int32)), .val (.int (0 : Int32)), .val (.ref c3), .val (.ref c0), .val (.int (0 : Int32)), .val (.int (1 : Int32)), .val (.int (0 : Int32)), .unset, .unset, .unset] [(.int (1 : Int32))])
    refine o_istore G90 at_56 (pc' := 58) rfl (l' := #[.val (.int p0), .val (.int p1), .val (.int (3 : Int32)), .val (.int (0 : Int32)), .val (.ref c3), .val (.ref c0), .val (.int (0 : Int32)), .val (.int (1 : Int32)), .val (.int (0 : Int32)), .val (.int (1 : Int32)), .unset, .unset]) rfl ?_
    refine o_aload G90 at_58 (pc' := 60) rfl rfl rfl ?_
    refine o_aload G90 at_60 (pc' := 62) rfl rfl rfl ?_
    refine o_callV G90 (z := (⟨"com/example/tributary/tributary/Pipeline$Fit", "then", "(Lcom/example/tributary/tributary/Pipeline$Fit;)Lcom/example/tributary/tributary/Pipeline$Fit;"⟩ : MethodName)) (argsL := [(.ref c0)]) (rest := []) (W := 0) E3 (hw _ (List.mem_of_getElem? (i := 15) rfl)) (hw _ (List.mem_of_getElem? (i := 17) rfl)) (hw _ (List.mem_of_getElem? (i := 16) rfl)) (hw _ (List.mem_of_getElem? (i := 18) rfl)) at_62 (by decide) (hw _ (List.mem_of_getElem? (i := 5) rfl)) (hw _ (List.mem_of_getElem? (i := 19) rfl)) (rm3_g hw c3 c0 h0 n0 G90.sz c0 c1 c2 c3 mir FF E3 E0 (3 : Int32) (0 : Int32) F3 F0 (by decide)) (by decide) (by decide) rfl (lenOf pd_3 rfl) rfl (Nat.le_of_eq rfl) (pc' := 65) rfl (by decide) (by decide) ?_
    rintro _ T91 h91 G91 ⟨rfl, hh⟩
    subst hh
    show OFin n0 p e below s (fun v _ => v = some (.int 1)) 0 0 T91 (mkF m 65 #[.val (.int p0), .val (.int p1), .val (.int (3 : Int32)), .val (.int (0 : Int32)), .val (.ref c3), .val (.ref c0), .val (.int (0 : Int32)), .val (.int (1 : Int32)), .val (.int (0 : Int32)), .val (.int (1 : Int32)), .unset, .unset] [(.ref c3)])
    refine o_callV G91 (z := (⟨"com/example/tributary/tributary/Pipeline$Fit", "limitsAtSource", "()Z"⟩ : MethodName)) (argsL := []) (rest := []) (W := 0) E3 (hw _ (List.mem_of_getElem? (i := 9) rfl)) (hw _ (List.mem_of_getElem? (i := 11) rfl)) (hw _ (List.mem_of_getElem? (i := 10) rfl)) (hw _ (List.mem_of_getElem? (i := 12) rfl)) at_65 (by decide) (hw _ (List.mem_of_getElem? (i := 5) rfl)) (hw _ (List.mem_of_getElem? (i := 13) rfl)) (rm2_f hw c3 h0 n0 G91.sz c0 c1 c2 c3 mir FF rfl) (by decide) (by decide) rfl (lenOf pd_2 rfl) rfl (Nat.le_of_eq rfl) (pc' := 68) rfl (by decide) (by decide) ?_
    rintro _ T92 h92 G92 ⟨rfl, hh⟩
    subst hh
    show OFin n0 p e below s (fun v _ => v = some (.int 1)) 0 0 T92 (mkF m 68 #[.val (.int p0), .val (.int p1), .val (.int (3 : Int32)), .val (.int (0 : Int32)), .val (.ref c3), .val (.ref c0), .val (.int (0 : Int32)), .val (.int (1 : Int32)), .val (.int (0 : Int32)), .val (.int (1 : Int32)), .unset, .unset] [(.int (0 : Int32))])
    refine o_istore G92 at_68 (pc' := 70) rfl (l' := #[.val (.int p0), .val (.int p1), .val (.int (3 : Int32)), .val (.int (0 : Int32)), .val (.ref c3), .val (.ref c0), .val (.int (0 : Int32)), .val (.int (1 : Int32)), .val (.int (0 : Int32)), .val (.int (1 : Int32)), .val (.int (0 : Int32)), .unset]) rfl ?_
    refine o_aload G92 at_70 (pc' := 72) rfl rfl rfl ?_
    refine o_callV G92 (z := (⟨"com/example/tributary/tributary/Pipeline$Fit", "skipsAtSource", "()Z"⟩ : MethodName)) (argsL := []) (rest := []) (W := 0) E3 (hw _ (List.mem_of_getElem? (i := 35) rfl)) (hw _ (List.mem_of_getElem? (i := 37) rfl)) (hw _ (List.mem_of_getElem? (i := 36) rfl)) (hw _ (List.mem_of_getElem? (i := 38) rfl)) at_72 (by decide) (hw _ (List.mem_of_getElem? (i := 5) rfl)) (hw _ (List.mem_of_getElem? (i := 39) rfl)) (rm5_0 hw c3 h0 n0 G92.sz c0 c1 c2 c3 mir FF E3 (3 : Int32) F3 (by decide)) (by decide) (by decide) rfl (lenOf pd_2 rfl) rfl (Nat.le_of_eq rfl) (pc' := 75) rfl (by decide) (by decide) ?_
    rintro _ T93 h93 G93 ⟨rfl, hh⟩
    subst hh
    show OFin n0 p e below s (fun v _ => v = some (.int 1)) 0 0 T93 (mkF m 75 #[.val (.int p0), .val (.int p1), .val (.int (3 : Int32)), .val (.int (0 : Int32)), .val (.ref c3), .val (.ref c0), .val (.int (0 : Int32)), .val (.int (1 : Int32)), .val (.int (0 : Int32)), .val (.int (1 : Int32)), .val (.int (0 : Int32)), .unset] [(.int (0 : Int32))])
    refine o_istore G93 at_75 (pc' := 77) rfl (l' := #[.val (.int p0), .val (.int p1), .val (.int (3 : Int32)), .val (.int (0 : Int32)), .val (.ref c3), .val (.ref c0), .val (.int (0 : Int32)), .val (.int (1 : Int32)), .val (.int (0 : Int32)), .val (.int (1 : Int32)), .val (.int (0 : Int32)), .val (.int (0 : Int32))]) rfl ?_
    refine o_iload G93 at_77 (pc' := 79) rfl rfl ?_
    refine o_iload G93 at_79 (pc' := 81) rfl rfl ?_
    refine o_icmp_ne G93 at_81 (by decide) (pcT := 125) (by decide) (pc' := 84) rfl (fun q => absurd (by decide) q) (fun _ => ?_)
    refine o_iload G93 at_84 (pc' := 86) rfl rfl ?_
    refine o_iload G93 at_86 (pc' := 88) rfl rfl ?_
    refine o_icmp_ne G93 at_88 (by decide) (pcT := 125) (by decide) (pc' := 91) rfl (fun q => absurd (by decide) q) (fun _ => ?_)
    refine o_iload G93 at_91 (pc' := 93) rfl rfl ?_
    refine o_iload G93 at_93 (pc' := 95) rfl rfl ?_
    refine o_if_eq G93 at_95 (by decide) (pcT := 107) (by decide) (pc' := 98) rfl (fun _ => ?_) (fun q => absurd (by decide) q)
    refine o_iconst G93 at_107 (pc' := 108) rfl (v := (0 : Int32)) rfl ?_
    refine o_icmp_ne G93 at_108 (by decide) (pcT := 125) (by decide) (pc' := 111) rfl (fun q => absurd (by decide) q) (fun _ => ?_)
    refine o_iload G93 at_111 (pc' := 113) rfl rfl ?_
    refine o_if_eq G93 at_113 (by decide) (pcT := 121) (by decide) (pc' := 116) rfl (fun _ => ?_) (fun q => absurd (by decide) q)
    refine o_iconst G93 at_121 (pc' := 122) rfl (v := (1 : Int32)) rfl ?_
    refine o_goto G93 at_122 (by decide) (pc' := 126) rfl ?_
    exact o_nreturn (t := .boolean) G93 (by simp) at_126 rfl (by decide) (by decide)
  · refine o_iloadN G0 at_8 (pc' := 9) rfl rfl ?_
    refine o_callS G0 (z := (⟨"com/example/tributary/tributary/FitLimitsAtSourcePinLaw", "pick", "(I)Lcom/example/tributary/tributary/Pipeline$Fit;"⟩ : MethodName)) (argsL := [(.int (3 : Int32))]) (rest := []) (W := 0) (hw _ (List.mem_of_getElem? (i := 0) rfl)) (hw _ (List.mem_of_getElem? (i := 1) rfl)) at_9 (by decide) (hw _ (List.mem_of_getElem? (i := 2) rfl)) (hw _ (List.mem_of_getElem? (i := 3) rfl)) (rm1_3 hw h0 n0 G0.sz c0 c1 c2 c3 mir FF) (by decide) (by decide) rfl (lenOf pd_1 rfl) rfl (Nat.le_of_eq rfl) (pc' := 12) rfl (by decide) (by decide) ?_
    rintro _ T94 h94 G94 ⟨rfl, hh⟩
    subst hh
    show OFin n0 p e below s (fun v _ => v = some (.int 1)) 0 0 T94 (mkF m 12 #[.val (.int p0), .val (.int p1), .val (.int (3 : Int32)), .val (.int (1 : Int32)), .unset, .unset, .unset, .unset, .unset, .unset, .unset, .unset] [(.ref c3)])
    refine o_astore G94 at_12 (pc' := 14) rfl rfl (l' := #[.val (.int p0), .val (.int p1), .val (.int (3 : Int32)), .val (.int (1 : Int32)), .val (.ref c3), .unset, .unset, .unset, .unset, .unset, .unset, .unset]) rfl ?_
    refine o_iloadN G94 at_14 (pc' := 15) rfl rfl ?_
    refine o_callS G94 (z := (⟨"com/example/tributary/tributary/FitLimitsAtSourcePinLaw", "pick", "(I)Lcom/example/tributary/tributary/Pipeline$Fit;"⟩ : MethodName)) (argsL := [(.int (1 : Int32))]) (rest := []) (W := 0) (hw _ (List.mem_of_getElem? (i := 0) rfl)) (hw _ (List.mem_of_getElem? (i := 1) rfl)) at_15 (by decide) (hw _ (List.mem_of_getElem? (i := 2) rfl)) (hw _ (List.mem_of_getElem? (i := 3) rfl)) (rm1_1 hw h0 n0 G94.sz c0 c1 c2 c3 mir FF) (by decide) (by decide) rfl (lenOf pd_1 rfl) rfl (Nat.le_of_eq rfl) (pc' := 18) rfl (by decide) (by decide) ?_
    rintro _ T95 h95 G95 ⟨rfl, hh⟩
    subst hh
    show OFin n0 p e below s (fun v _ => v = some (.int 1)) 0 0 T95 (mkF m 18 #[.val (.int p0), .val (.int p1), .val (.int (3 : Int32)), .val (.int (1 : Int32)), .val (.ref c3), .unset, .unset, .unset, .unset, .unset, .unset, .unset] [(.ref c1)])
    refine o_astore G95 at_18 (pc' := 20) rfl rfl (l' := #[.val (.int p0), .val (.int p1), .val (.int (3 : Int32)), .val (.int (1 : Int32)), .val (.ref c3), .val (.ref c1), .unset, .unset, .unset, .unset, .unset, .unset]) rfl ?_
    refine o_iloadN G95 at_20 (pc' := 21) rfl rfl ?_
    refine o_iconst G95 at_21 (pc' := 22) rfl (v := (3 : Int32)) rfl ?_
    refine o_icmp_eq G95 at_22 (by decide) (pcT := 29) (by decide) (pc' := 25) rfl (fun _ => ?_) (fun q => absurd (by decide) q)
    refine o_iconst G95 at_29 (pc' := 30) rfl (v := (0 : Int32)) rfl ?_
    refine o_istore G95 at_30 (pc' := 32) rfl (l' := #[.val (.int p0), .val (.int p1), .val (.int (3 : Int32)), .val (.int (1 : Int32)), .val (.ref c3), .val (.ref c1), .val (.int (0 : Int32)), .unset, .unset, .unset, .unset, .unset]) rfl ?_
    refine o_iloadN G95 at_32 (pc' := 33) rfl rfl ?_
    refine o_iconst G95 at_33 (pc' := 34) rfl (v := (3 : Int32)) rfl ?_
    refine o_icmp_eq G95 at_34 (by decide) (pcT := 41) (by decide) (pc' := 37) rfl (fun q => absurd q (by decide)) (fun _ => ?_)
    refine o_iconst G95 at_37 (pc' := 38) rfl (v := (1 : Int32)) rfl ?_
    refine o_goto G95 at_38 (by decide) (pc' := 42) rfl ?_
    refine o_istore G95 at_42 (pc' := 44) rfl (l' := #[.val (.int p0), .val (.int p1), .val (.int (3 : Int32)), .val (.int (1 : Int32)), .val (.ref c3), .val (.ref c1), .val (.int (0 : Int32)), .val (.int (1 : Int32)), .unset, .unset, .unset, .unset]) rfl ?_
    refine o_aload G95 at_44 (pc' := 46) rfl rfl rfl ?_
    refine o_callV G95 (z := (⟨"com/example/tributary/tributary/Pipeline$Fit", "limitsAtSource", "()Z"⟩ : MethodName)) (argsL := []) (rest := []) (W := 0) E3 (hw _ (List.mem_of_getElem? (i := 9) rfl)) (hw _ (List.mem_of_getElem? (i := 11) rfl)) (hw _ (List.mem_of_getElem? (i := 10) rfl)) (hw _ (List.mem_of_getElem? (i := 12) rfl)) at_46 (by decide) (hw _ (List.mem_of_getElem? (i := 5) rfl)) (hw _ (List.mem_of_getElem? (i := 13) rfl)) (rm2_f hw c3 h0 n0 G95.sz c0 c1 c2 c3 mir FF rfl) (by decide) (by decide) rfl (lenOf pd_2 rfl) rfl (Nat.le_of_eq rfl) (pc' := 49) rfl (by decide) (by decide) ?_
    rintro _ T96 h96 G96 ⟨rfl, hh⟩
    subst hh
    show OFin n0 p e below s (fun v _ => v = some (.int 1)) 0 0 T96 (mkF m 49 #[.val (.int p0), .val (.int p1), .val (.int (3 : Int32)), .val (.int (1 : Int32)), .val (.ref c3), .val (.ref c1), .val (.int (0 : Int32)), .val (.int (1 : Int32)), .unset, .unset, .unset, .unset] [(.int (0 : Int32))])
    refine o_istore G96 at_49 (pc' := 51) rfl (l' := #[.val (.int p0), .val (.int p1), .val (.int (3 : Int32)), .val (.int (1 : Int32)), .val (.ref c3), .val (.ref c1), .val (.int (0 : Int32)), .val (.int (1 : Int32)), .val (.int (0 : Int32)), .unset, .unset, .unset]) rfl ?_
    refine o_aload G96 at_51 (pc' := 53) rfl rfl rfl ?_
    refine o_callV G96 (z := (⟨"com/example/tributary/tributary/Pipeline$Fit", "limitsAtSource", "()Z"⟩ : MethodName)) (argsL := []) (rest := []) (W := 0) E1 (hw _ (List.mem_of_getElem? (i := 9) rfl)) (hw _ (List.mem_of_getElem? (i := 11) rfl)) (hw _ (List.mem_of_getElem? (i := 10) rfl)) (hw _ (List.mem_of_getElem? (i := 12) rfl)) at_53 (by decide) (hw _ (List.mem_of_getElem? (i := 5) rfl)) (hw _ (List.mem_of_getElem? (i := 13) rfl)) (rm2_t hw c1 h0 n0 G96.sz c0 c1 c2 c3 mir FF (Fld.ne F1 F3 (by decide))) (by decide) (by decide) rfl (lenOf pd_2 rfl) rfl (Nat.le_of_eq rfl) (pc' := 56) rfl (by decide) (by decide) ?_
    rintro _ T97 h97 G97 ⟨rfl, hh⟩
    subst hh
    show OFin n0 p e below s (fun v _ => v = some (.int 1)) 0 0 T97 (mkF m 56 #[.val (.int p0), .val (.int p1), .val (.int (3 : Int32)), .val (.int (1 : Int32)), .val (.ref c3), .val (.ref c1), .val (.int (0 : Int32)), .val (.int (1 : Int32)), .val (.int (0 : Int32)), .unset, .unset, .unset] [(.int (1 : Int32))])
    refine o_istore G97 at_56 (pc' := 58) rfl (l' := #[.val (.int p0), .val (.int p1), .val (.int (3 : Int32)), .val (.int (1 : Int32)), .val (.ref c3), .val (.ref c1), .val (.int (0 : Int32)), .val (.int (1 : Int32)), .val (.int (0 : Int32)), .val (.int (1 : Int32)), .unset, .unset]) rfl ?_
    refine o_aload G97 at_58 (pc' := 60) rfl rfl rfl ?_
    refine o_aload G97 at_60 (pc' := 62) rfl rfl rfl ?_
    refine o_callV G97 (z := (⟨"com/example/tributary/tributary/Pipeline$Fit", "then", "(Lcom/example/tributary/tributary/Pipeline$Fit;)Lcom/example/tributary/tributary/Pipeline$Fit;"⟩ : MethodName)) (argsL := [(.ref c1)]) (rest := []) (W := 0) E3 (hw _ (List.mem_of_getElem? (i := 15) rfl)) (hw _ (List.mem_of_getElem? (i := 17) rfl)) (hw _ (List.mem_of_getElem? (i := 16) rfl)) (hw _ (List.mem_of_getElem? (i := 18) rfl)) at_62 (by decide) (hw _ (List.mem_of_getElem? (i := 5) rfl)) (hw _ (List.mem_of_getElem? (i := 19) rfl)) (rm3_g hw c3 c1 h0 n0 G97.sz c0 c1 c2 c3 mir FF E3 E1 (3 : Int32) (1 : Int32) F3 F1 (by decide)) (by decide) (by decide) rfl (lenOf pd_3 rfl) rfl (Nat.le_of_eq rfl) (pc' := 65) rfl (by decide) (by decide) ?_
    rintro _ T98 h98 G98 ⟨rfl, hh⟩
    subst hh
    show OFin n0 p e below s (fun v _ => v = some (.int 1)) 0 0 T98 (mkF m 65 #[.val (.int p0), .val (.int p1), .val (.int (3 : Int32)), .val (.int (1 : Int32)), .val (.ref c3), .val (.ref c1), .val (.int (0 : Int32)), .val (.int (1 : Int32)), .val (.int (0 : Int32)), .val (.int (1 : Int32)), .unset, .unset] [(.ref c3)])
    refine o_callV G98 (z := (⟨"com/example/tributary/tributary/Pipeline$Fit", "limitsAtSource", "()Z"⟩ : MethodName)) (argsL := []) (rest := []) (W := 0) E3 (hw _ (List.mem_of_getElem? (i := 9) rfl)) (hw _ (List.mem_of_getElem? (i := 11) rfl)) (hw _ (List.mem_of_getElem? (i := 10) rfl)) (hw _ (List.mem_of_getElem? (i := 12) rfl)) at_65 (by decide) (hw _ (List.mem_of_getElem? (i := 5) rfl)) (hw _ (List.mem_of_getElem? (i := 13) rfl)) (rm2_f hw c3 h0 n0 G98.sz c0 c1 c2 c3 mir FF rfl) (by decide) (by decide) rfl (lenOf pd_2 rfl) rfl (Nat.le_of_eq rfl) (pc' := 68) rfl (by decide) (by decide) ?_
    rintro _ T99 h99 G99 ⟨rfl, hh⟩
    subst hh
    show OFin n0 p e below s (fun v _ => v = some (.int 1)) 0 0 T99 (mkF m 68 #[.val (.int p0), .val (.int p1), .val (.int (3 : Int32)), .val (.int (1 : Int32)), .val (.ref c3), .val (.ref c1), .val (.int (0 : Int32)), .val (.int (1 : Int32)), .val (.int (0 : Int32)), .val (.int (1 : Int32)), .unset, .unset] [(.int (0 : Int32))])
    refine o_istore G99 at_68 (pc' := 70) rfl (l' := #[.val (.int p0), .val (.int p1), .val (.int (3 : Int32)), .val (.int (1 : Int32)), .val (.ref c3), .val (.ref c1), .val (.int (0 : Int32)), .val (.int (1 : Int32)), .val (.int (0 : Int32)), .val (.int (1 : Int32)), .val (.int (0 : Int32)), .unset]) rfl ?_
    refine o_aload G99 at_70 (pc' := 72) rfl rfl rfl ?_
    refine o_callV G99 (z := (⟨"com/example/tributary/tributary/Pipeline$Fit", "skipsAtSource", "()Z"⟩ : MethodName)) (argsL := []) (rest := []) (W := 0) E3 (hw _ (List.mem_of_getElem? (i := 35) rfl)) (hw _ (List.mem_of_getElem? (i := 37) rfl)) (hw _ (List.mem_of_getElem? (i := 36) rfl)) (hw _ (List.mem_of_getElem? (i := 38) rfl)) at_72 (by decide) (hw _ (List.mem_of_getElem? (i := 5) rfl)) (hw _ (List.mem_of_getElem? (i := 39) rfl)) (rm5_0 hw c3 h0 n0 G99.sz c0 c1 c2 c3 mir FF E3 (3 : Int32) F3 (by decide)) (by decide) (by decide) rfl (lenOf pd_2 rfl) rfl (Nat.le_of_eq rfl) (pc' := 75) rfl (by decide) (by decide) ?_
    rintro _ T100 h100 G100 ⟨rfl, hh⟩
    subst hh
    show OFin n0 p e below s (fun v _ => v = some (.int 1)) 0 0 T100 (mkF m 75 #[.val (.int p0), .val (.int p1), .val (.int (3 : Int32)), .val (.int (1 : Int32)), .val (.ref c3), .val (.ref c1), .val (.int (0 : Int32)), .val (.int (1 : Int32)), .val (.int (0 : Int32)), .val (.int (1 : Int32)), .val (.int (0 : Int32)), .unset] [(.int (0 : Int32))])
    refine o_istore G100 at_75 (pc' := 77) rfl (l' := #[.val (.int p0), .val (.int p1), .val (.int (3 : Int32)), .val (.int (1 : Int32)), .val (.ref c3), .val (.ref c1), .val (.int (0 : Int32)), .val (.int (1 : Int32)), .val (.int (0 : Int32)), .val (.int (1 : Int32)), .val (.int (0 : Int32)), .val (.int (0 : Int32))]) rfl ?_
    refine o_iload G100 at_77 (pc' := 79) rfl rfl ?_
    refine o_iload G100 at_79 (pc' := 81) rfl rfl ?_
    refine o_icmp_ne G100 at_81 (by decide) (pcT := 125) (by decide) (pc' := 84) rfl (fun q => absurd (by decide) q) (fun _ => ?_)
    refine o_iload G100 at_84 (pc' := 86) rfl rfl ?_
    refine o_iload G100 at_86 (pc' := 88) rfl rfl ?_
    refine o_icmp_ne G100 at_88 (by decide) (pcT := 125) (by decide) (pc' := 91) rfl (fun q => absurd (by decide) q) (fun _ => ?_)
    refine o_iload G100 at_91 (pc' := 93) rfl rfl ?_
    refine o_iload G100 at_93 (pc' := 95) rfl rfl ?_
    refine o_if_eq G100 at_95 (by decide) (pcT := 107) (by decide) (pc' := 98) rfl (fun _ => ?_) (fun q => absurd (by decide) q)
    refine o_iconst G100 at_107 (pc' := 108) rfl (v := (0 : Int32)) rfl ?_
    refine o_icmp_ne G100 at_108 (by decide) (pcT := 125) (by decide) (pc' := 111) rfl (fun q => absurd (by decide) q) (fun _ => ?_)
    refine o_iload G100 at_111 (pc' := 113) rfl rfl ?_
    refine o_if_eq G100 at_113 (by decide) (pcT := 121) (by decide) (pc' := 116) rfl (fun _ => ?_) (fun q => absurd (by decide) q)
    refine o_iconst G100 at_121 (pc' := 122) rfl (v := (1 : Int32)) rfl ?_
    refine o_goto G100 at_122 (by decide) (pc' := 126) rfl ?_
    exact o_nreturn (t := .boolean) G100 (by simp) at_126 rfl (by decide) (by decide)
  · refine o_iloadN G0 at_8 (pc' := 9) rfl rfl ?_
    refine o_callS G0 (z := (⟨"com/example/tributary/tributary/FitLimitsAtSourcePinLaw", "pick", "(I)Lcom/example/tributary/tributary/Pipeline$Fit;"⟩ : MethodName)) (argsL := [(.int (3 : Int32))]) (rest := []) (W := 0) (hw _ (List.mem_of_getElem? (i := 0) rfl)) (hw _ (List.mem_of_getElem? (i := 1) rfl)) at_9 (by decide) (hw _ (List.mem_of_getElem? (i := 2) rfl)) (hw _ (List.mem_of_getElem? (i := 3) rfl)) (rm1_3 hw h0 n0 G0.sz c0 c1 c2 c3 mir FF) (by decide) (by decide) rfl (lenOf pd_1 rfl) rfl (Nat.le_of_eq rfl) (pc' := 12) rfl (by decide) (by decide) ?_
    rintro _ T101 h101 G101 ⟨rfl, hh⟩
    subst hh
    show OFin n0 p e below s (fun v _ => v = some (.int 1)) 0 0 T101 (mkF m 12 #[.val (.int p0), .val (.int p1), .val (.int (3 : Int32)), .val (.int (2 : Int32)), .unset, .unset, .unset, .unset, .unset, .unset, .unset, .unset] [(.ref c3)])
    refine o_astore G101 at_12 (pc' := 14) rfl rfl (l' := #[.val (.int p0), .val (.int p1), .val (.int (3 : Int32)), .val (.int (2 : Int32)), .val (.ref c3), .unset, .unset, .unset, .unset, .unset, .unset, .unset]) rfl ?_
    refine o_iloadN G101 at_14 (pc' := 15) rfl rfl ?_
    refine o_callS G101 (z := (⟨"com/example/tributary/tributary/FitLimitsAtSourcePinLaw", "pick", "(I)Lcom/example/tributary/tributary/Pipeline$Fit;"⟩ : MethodName)) (argsL := [(.int (2 : Int32))]) (rest := []) (W := 0) (hw _ (List.mem_of_getElem? (i := 0) rfl)) (hw _ (List.mem_of_getElem? (i := 1) rfl)) at_15 (by decide) (hw _ (List.mem_of_getElem? (i := 2) rfl)) (hw _ (List.mem_of_getElem? (i := 3) rfl)) (rm1_2 hw h0 n0 G101.sz c0 c1 c2 c3 mir FF) (by decide) (by decide) rfl (lenOf pd_1 rfl) rfl (Nat.le_of_eq rfl) (pc' := 18) rfl (by decide) (by decide) ?_
    rintro _ T102 h102 G102 ⟨rfl, hh⟩
    subst hh
    show OFin n0 p e below s (fun v _ => v = some (.int 1)) 0 0 T102 (mkF m 18 #[.val (.int p0), .val (.int p1), .val (.int (3 : Int32)), .val (.int (2 : Int32)), .val (.ref c3), .unset, .unset, .unset, .unset, .unset, .unset, .unset] [(.ref c2)])
    refine o_astore G102 at_18 (pc' := 20) rfl rfl (l' := #[.val (.int p0), .val (.int p1), .val (.int (3 : Int32)), .val (.int (2 : Int32)), .val (.ref c3), .val (.ref c2), .unset, .unset, .unset, .unset, .unset, .unset]) rfl ?_
    refine o_iloadN G102 at_20 (pc' := 21) rfl rfl ?_
    refine o_iconst G102 at_21 (pc' := 22) rfl (v := (3 : Int32)) rfl ?_
    refine o_icmp_eq G102 at_22 (by decide) (pcT := 29) (by decide) (pc' := 25) rfl (fun _ => ?_) (fun q => absurd (by decide) q)
    refine o_iconst G102 at_29 (pc' := 30) rfl (v := (0 : Int32)) rfl ?_
    refine o_istore G102 at_30 (pc' := 32) rfl (l' := #[.val (.int p0), .val (.int p1), .val (.int (3 : Int32)), .val (.int (2 : Int32)), .val (.ref c3), .val (.ref c2), .val (.int (0 : Int32)), .unset, .unset, .unset, .unset, .unset]) rfl ?_
    refine o_iloadN G102 at_32 (pc' := 33) rfl rfl ?_
    refine o_iconst G102 at_33 (pc' := 34) rfl (v := (3 : Int32)) rfl ?_
    refine o_icmp_eq G102 at_34 (by decide) (pcT := 41) (by decide) (pc' := 37) rfl (fun q => absurd q (by decide)) (fun _ => ?_)
    refine o_iconst G102 at_37 (pc' := 38) rfl (v := (1 : Int32)) rfl ?_
    refine o_goto G102 at_38 (by decide) (pc' := 42) rfl ?_
    refine o_istore G102 at_42 (pc' := 44) rfl (l' := #[.val (.int p0), .val (.int p1), .val (.int (3 : Int32)), .val (.int (2 : Int32)), .val (.ref c3), .val (.ref c2), .val (.int (0 : Int32)), .val (.int (1 : Int32)), .unset, .unset, .unset, .unset]) rfl ?_
    refine o_aload G102 at_44 (pc' := 46) rfl rfl rfl ?_
    refine o_callV G102 (z := (⟨"com/example/tributary/tributary/Pipeline$Fit", "limitsAtSource", "()Z"⟩ : MethodName)) (argsL := []) (rest := []) (W := 0) E3 (hw _ (List.mem_of_getElem? (i := 9) rfl)) (hw _ (List.mem_of_getElem? (i := 11) rfl)) (hw _ (List.mem_of_getElem? (i := 10) rfl)) (hw _ (List.mem_of_getElem? (i := 12) rfl)) at_46 (by decide) (hw _ (List.mem_of_getElem? (i := 5) rfl)) (hw _ (List.mem_of_getElem? (i := 13) rfl)) (rm2_f hw c3 h0 n0 G102.sz c0 c1 c2 c3 mir FF rfl) (by decide) (by decide) rfl (lenOf pd_2 rfl) rfl (Nat.le_of_eq rfl) (pc' := 49) rfl (by decide) (by decide) ?_
    rintro _ T103 h103 G103 ⟨rfl, hh⟩
    subst hh
    show OFin n0 p e below s (fun v _ => v = some (.int 1)) 0 0 T103 (mkF m 49 #[.val (.int p0), .val (.int p1), .val (.int (3 : Int32)), .val (.int (2 : Int32)), .val (.ref c3), .val (.ref c2), .val (.int (0 : Int32)), .val (.int (1 : Int32)), .unset, .unset, .unset, .unset] [(.int (0 : Int32))])
    refine o_istore G103 at_49 (pc' := 51) rfl (l' := #[.val (.int p0), .val (.int p1), .val (.int (3 : Int32)), .val (.int (2 : Int32)), .val (.ref c3), .val (.ref c2), .val (.int (0 : Int32)), .val (.int (1 : Int32)), .val (.int (0 : Int32)), .unset, .unset, .unset]) rfl ?_
    refine o_aload G103 at_51 (pc' := 53) rfl rfl rfl ?_
    refine o_callV G103 (z := (⟨"com/example/tributary/tributary/Pipeline$Fit", "limitsAtSource", "()Z"⟩ : MethodName)) (argsL := []) (rest := []) (W := 0) E2 (hw _ (List.mem_of_getElem? (i := 9) rfl)) (hw _ (List.mem_of_getElem? (i := 11) rfl)) (hw _ (List.mem_of_getElem? (i := 10) rfl)) (hw _ (List.mem_of_getElem? (i := 12) rfl)) at_53 (by decide) (hw _ (List.mem_of_getElem? (i := 5) rfl)) (hw _ (List.mem_of_getElem? (i := 13) rfl)) (rm2_t hw c2 h0 n0 G103.sz c0 c1 c2 c3 mir FF (Fld.ne F2 F3 (by decide))) (by decide) (by decide) rfl (lenOf pd_2 rfl) rfl (Nat.le_of_eq rfl) (pc' := 56) rfl (by decide) (by decide) ?_
    rintro _ T104 h104 G104 ⟨rfl, hh⟩
    subst hh
    show OFin n0 p e below s (fun v _ => v = some (.int 1)) 0 0 T104 (mkF m 56 #[.val (.int p0), .val (.int p1), .val (.int (3 : Int32)), .val (.int (2 : Int32)), .val (.ref c3), .val (.ref c2), .val (.int (0 : Int32)), .val (.int (1 : Int32)), .val (.int (0 : Int32)), .unset, .unset, .unset] [(.int (1 : Int32))])
    refine o_istore G104 at_56 (pc' := 58) rfl (l' := #[.val (.int p0), .val (.int p1), .val (.int (3 : Int32)), .val (.int (2 : Int32)), .val (.ref c3), .val (.ref c2), .val (.int (0 : Int32)), .val (.int (1 : Int32)), .val (.int (0 : Int32)), .val (.int (1 : Int32)), .unset, .unset]) rfl ?_
    refine o_aload G104 at_58 (pc' := 60) rfl rfl rfl ?_
    refine o_aload G104 at_60 (pc' := 62) rfl rfl rfl ?_
    refine o_callV G104 (z := (⟨"com/example/tributary/tributary/Pipeline$Fit", "then", "(Lcom/example/tributary/tributary/Pipeline$Fit;)Lcom/example/tributary/tributary/Pipeline$Fit;"⟩ : MethodName)) (argsL := [(.ref c2)]) (rest := []) (W := 0) E3 (hw _ (List.mem_of_getElem? (i := 15) rfl)) (hw _ (List.mem_of_getElem? (i := 17) rfl)) (hw _ (List.mem_of_getElem? (i := 16) rfl)) (hw _ (List.mem_of_getElem? (i := 18) rfl)) at_62 (by decide) (hw _ (List.mem_of_getElem? (i := 5) rfl)) (hw _ (List.mem_of_getElem? (i := 19) rfl)) (rm3_g hw c3 c2 h0 n0 G104.sz c0 c1 c2 c3 mir FF E3 E2 (3 : Int32) (2 : Int32) F3 F2 (by decide)) (by decide) (by decide) rfl (lenOf pd_3 rfl) rfl (Nat.le_of_eq rfl) (pc' := 65) rfl (by decide) (by decide) ?_
    rintro _ T105 h105 G105 ⟨rfl, hh⟩
    subst hh
    show OFin n0 p e below s (fun v _ => v = some (.int 1)) 0 0 T105 (mkF m 65 #[.val (.int p0), .val (.int p1), .val (.int (3 : Int32)), .val (.int (2 : Int32)), .val (.ref c3), .val (.ref c2), .val (.int (0 : Int32)), .val (.int (1 : Int32)), .val (.int (0 : Int32)), .val (.int (1 : Int32)), .unset, .unset] [(.ref c3)])
    refine o_callV G105 (z := (⟨"com/example/tributary/tributary/Pipeline$Fit", "limitsAtSource", "()Z"⟩ : MethodName)) (argsL := []) (rest := []) (W := 0) E3 (hw _ (List.mem_of_getElem? (i := 9) rfl)) (hw _ (List.mem_of_getElem? (i := 11) rfl)) (hw _ (List.mem_of_getElem? (i := 10) rfl)) (hw _ (List.mem_of_getElem? (i := 12) rfl)) at_65 (by decide) (hw _ (List.mem_of_getElem? (i := 5) rfl)) (hw _ (List.mem_of_getElem? (i := 13) rfl)) (rm2_f hw c3 h0 n0 G105.sz c0 c1 c2 c3 mir FF rfl) (by decide) (by decide) rfl (lenOf pd_2 rfl) rfl (Nat.le_of_eq rfl) (pc' := 68) rfl (by decide) (by decide) ?_
    rintro _ T106 h106 G106 ⟨rfl, hh⟩
    subst hh
    show OFin n0 p e below s (fun v _ => v = some (.int 1)) 0 0 T106 (mkF m 68 #[.val (.int p0), .val (.int p1), .val (.int (3 : Int32)), .val (.int (2 : Int32)), .val (.ref c3), .val (.ref c2), .val (.int (0 : Int32)), .val (.int (1 : Int32)), .val (.int (0 : Int32)), .val (.int (1 : Int32)), .unset, .unset] [(.int (0 : Int32))])
    refine o_istore G106 at_68 (pc' := 70) rfl (l' := #[.val (.int p0), .val (.int p1), .val (.int (3 : Int32)), .val (.int (2 : Int32)), .val (.ref c3), .val (.ref c2), .val (.int (0 : Int32)), .val (.int (1 : Int32)), .val (.int (0 : Int32)), .val (.int (1 : Int32)), .val (.int (0 : Int32)), .unset]) rfl ?_
    refine o_aload G106 at_70 (pc' := 72) rfl rfl rfl ?_
    refine o_callV G106 (z := (⟨"com/example/tributary/tributary/Pipeline$Fit", "skipsAtSource", "()Z"⟩ : MethodName)) (argsL := []) (rest := []) (W := 0) E3 (hw _ (List.mem_of_getElem? (i := 35) rfl)) (hw _ (List.mem_of_getElem? (i := 37) rfl)) (hw _ (List.mem_of_getElem? (i := 36) rfl)) (hw _ (List.mem_of_getElem? (i := 38) rfl)) at_72 (by decide) (hw _ (List.mem_of_getElem? (i := 5) rfl)) (hw _ (List.mem_of_getElem? (i := 39) rfl)) (rm5_0 hw c3 h0 n0 G106.sz c0 c1 c2 c3 mir FF E3 (3 : Int32) F3 (by decide)) (by decide) (by decide) rfl (lenOf pd_2 rfl) rfl (Nat.le_of_eq rfl) (pc' := 75) rfl (by decide) (by decide) ?_
    rintro _ T107 h107 G107 ⟨rfl, hh⟩
    subst hh
    show OFin n0 p e below s (fun v _ => v = some (.int 1)) 0 0 T107 (mkF m 75 #[.val (.int p0), .val (.int p1), .val (.int (3 : Int32)), .val (.int (2 : Int32)), .val (.ref c3), .val (.ref c2), .val (.int (0 : Int32)), .val (.int (1 : Int32)), .val (.int (0 : Int32)), .val (.int (1 : Int32)), .val (.int (0 : Int32)), .unset] [(.int (0 : Int32))])
    refine o_istore G107 at_75 (pc' := 77) rfl (l' := #[.val (.int p0), .val (.int p1), .val (.int (3 : Int32)), .val (.int (2 : Int32)), .val (.ref c3), .val (.ref c2), .val (.int (0 : Int32)), .val (.int (1 : Int32)), .val (.int (0 : Int32)), .val (.int (1 : Int32)), .val (.int (0 : Int32)), .val (.int (0 : Int32))]) rfl ?_
    refine o_iload G107 at_77 (pc' := 79) rfl rfl ?_
    refine o_iload G107 at_79 (pc' := 81) rfl rfl ?_
    refine o_icmp_ne G107 at_81 (by decide) (pcT := 125) (by decide) (pc' := 84) rfl (fun q => absurd (by decide) q) (fun _ => ?_)
    refine o_iload G107 at_84 (pc' := 86) rfl rfl ?_
    refine o_iload G107 at_86 (pc' := 88) rfl rfl ?_
    refine o_icmp_ne G107 at_88 (by decide) (pcT := 125) (by decide) (pc' := 91) rfl (fun q => absurd (by decide) q) (fun _ => ?_)
    refine o_iload G107 at_91 (pc' := 93) rfl rfl ?_
    refine o_iload G107 at_93 (pc' := 95) rfl rfl ?_
    refine o_if_eq G107 at_95 (by decide) (pcT := 107) (by decide) (pc' := 98) rfl (fun _ => ?_) (fun q => absurd (by decide) q)
    refine o_iconst G107 at_107 (pc' := 108) rfl (v := (0 : Int32)) rfl ?_
    refine o_icmp_ne G107 at_108 (by decide) (pcT := 125) (by decide) (pc' := 111) rfl (fun q => absurd (by decide) q) (fun _ => ?_)
    refine o_iload G107 at_111 (pc' := 113) rfl rfl ?_
    refine o_if_eq G107 at_113 (by decide) (pcT := 121) (by decide) (pc' := 116) rfl (fun _ => ?_) (fun q => absurd (by decide) q)
    refine o_iconst G107 at_121 (pc' := 122) rfl (v := (1 : Int32)) rfl ?_
    refine o_goto G107 at_122 (by decide) (pc' := 126) rfl ?_
    exact o_nreturn (t := .boolean) G107 (by simp) at_126 rfl (by decide) (by decide)
  · refine o_iloadN G0 at_8 (pc' := 9) rfl rfl ?_
    refine o_callS G0 (z := (⟨"com/example/tributary/tributary/FitLimitsAtSourcePinLaw", "pick", "(I)Lcom/example/tributary/tributary/Pipeline$Fit;"⟩ : MethodName)) (argsL := [(.int (3 : Int32))]) (rest := []) (W := 0) (hw _ (List.mem_of_getElem? (i := 0) rfl)) (hw _ (List.mem_of_getElem? (i := 1) rfl)) at_9 (by decide) (hw _ (List.mem_of_getElem? (i := 2) rfl)) (hw _ (List.mem_of_getElem? (i := 3) rfl)) (rm1_3 hw h0 n0 G0.sz c0 c1 c2 c3 mir FF) (by decide) (by decide) rfl (lenOf pd_1 rfl) rfl (Nat.le_of_eq rfl) (pc' := 12) rfl (by decide) (by decide) ?_
    rintro _ T108 h108 G108 ⟨rfl, hh⟩
    subst hh
    show OFin n0 p e below s (fun v _ => v = some (.int 1)) 0 0 T108 (mkF m 12 #[.val (.int p0), .val (.int p1), .val (.int (3 : Int32)), .val (.int (3 : Int32)), .unset, .unset, .unset, .unset, .unset, .unset, .unset, .unset] [(.ref c3)])
    refine o_astore G108 at_12 (pc' := 14) rfl rfl (l' := #[.val (.int p0), .val (.int p1), .val (.int (3 : Int32)), .val (.int (3 : Int32)), .val (.ref c3), .unset, .unset, .unset, .unset, .unset, .unset, .unset]) rfl ?_
    refine o_iloadN G108 at_14 (pc' := 15) rfl rfl ?_
    refine o_callS G108 (z := (⟨"com/example/tributary/tributary/FitLimitsAtSourcePinLaw", "pick", "(I)Lcom/example/tributary/tributary/Pipeline$Fit;"⟩ : MethodName)) (argsL := [(.int (3 : Int32))]) (rest := []) (W := 0) (hw _ (List.mem_of_getElem? (i := 0) rfl)) (hw _ (List.mem_of_getElem? (i := 1) rfl)) at_15 (by decide) (hw _ (List.mem_of_getElem? (i := 2) rfl)) (hw _ (List.mem_of_getElem? (i := 3) rfl)) (rm1_3 hw h0 n0 G108.sz c0 c1 c2 c3 mir FF) (by decide) (by decide) rfl (lenOf pd_1 rfl) rfl (Nat.le_of_eq rfl) (pc' := 18) rfl (by decide) (by decide) ?_
    rintro _ T109 h109 G109 ⟨rfl, hh⟩
    subst hh
    show OFin n0 p e below s (fun v _ => v = some (.int 1)) 0 0 T109 (mkF m 18 #[.val (.int p0), .val (.int p1), .val (.int (3 : Int32)), .val (.int (3 : Int32)), .val (.ref c3), .unset, .unset, .unset, .unset, .unset, .unset, .unset] [(.ref c3)])
    refine o_astore G109 at_18 (pc' := 20) rfl rfl (l' := #[.val (.int p0), .val (.int p1), .val (.int (3 : Int32)), .val (.int (3 : Int32)), .val (.ref c3), .val (.ref c3), .unset, .unset, .unset, .unset, .unset, .unset]) rfl ?_
    refine o_iloadN G109 at_20 (pc' := 21) rfl rfl ?_
    refine o_iconst G109 at_21 (pc' := 22) rfl (v := (3 : Int32)) rfl ?_
    refine o_icmp_eq G109 at_22 (by decide) (pcT := 29) (by decide) (pc' := 25) rfl (fun _ => ?_) (fun q => absurd (by decide) q)
    refine o_iconst G109 at_29 (pc' := 30) rfl (v := (0 : Int32)) rfl ?_
    refine o_istore G109 at_30 (pc' := 32) rfl (l' := #[.val (.int p0), .val (.int p1), .val (.int (3 : Int32)), .val (.int (3 : Int32)), .val (.ref c3), .val (.ref c3), .val (.int (0 : Int32)), .unset, .unset, .unset, .unset, .unset]) rfl ?_
    refine o_iloadN G109 at_32 (pc' := 33) rfl rfl ?_
    refine o_iconst G109 at_33 (pc' := 34) rfl (v := (3 : Int32)) rfl ?_
    refine o_icmp_eq G109 at_34 (by decide) (pcT := 41) (by decide) (pc' := 37) rfl (fun _ => ?_) (fun q => absurd (by decide) q)
    refine o_iconst G109 at_41 (pc' := 42) rfl (v := (0 : Int32)) rfl ?_
    refine o_istore G109 at_42 (pc' := 44) rfl (l' := #[.val (.int p0), .val (.int p1), .val (.int (3 : Int32)), .val (.int (3 : Int32)), .val (.ref c3), .val (.ref c3), .val (.int (0 : Int32)), .val (.int (0 : Int32)), .unset, .unset, .unset, .unset]) rfl ?_
    refine o_aload G109 at_44 (pc' := 46) rfl rfl rfl ?_
    refine o_callV G109 (z := (⟨"com/example/tributary/tributary/Pipeline$Fit", "limitsAtSource", "()Z"⟩ : MethodName)) (argsL := []) (rest := []) (W := 0) E3 (hw _ (List.mem_of_getElem? (i := 9) rfl)) (hw _ (List.mem_of_getElem? (i := 11) rfl)) (hw _ (List.mem_of_getElem? (i := 10) rfl)) (hw _ (List.mem_of_getElem? (i := 12) rfl)) at_46 (by decide) (hw _ (List.mem_of_getElem? (i := 5) rfl)) (hw _ (List.mem_of_getElem? (i := 13) rfl)) (rm2_f hw c3 h0 n0 G109.sz c0 c1 c2 c3 mir FF rfl) (by decide) (by decide) rfl (lenOf pd_2 rfl) rfl (Nat.le_of_eq rfl) (pc' := 49) rfl (by decide) (by decide) ?_
    rintro _ T110 h110 G110 ⟨rfl, hh⟩
    subst hh
    show OFin n0 p e below s (fun v _ => v = some (.int 1)) 0 0 T110 (mkF m 49 #[.val (.int p0), .val (.int p1), .val (.int (3 : Int32)), .val (.int (3 : Int32)), .val (.ref c3), .val (.ref c3), .val (.int (0 : Int32)), .val (.int (0 : Int32)), .unset, .unset, .unset, .unset] [(.int (0 : Int32))])
    refine o_istore G110 at_49 (pc' := 51) rfl (l' := #[.val (.int p0), .val (.int p1), .val (.int (3 : Int32)), .val (.int (3 : Int32)), .val (.ref c3), .val (.ref c3), .val (.int (0 : Int32)), .val (.int (0 : Int32)), .val (.int (0 : Int32)), .unset, .unset, .unset]) rfl ?_
    refine o_aload G110 at_51 (pc' := 53) rfl rfl rfl ?_
    refine o_callV G110 (z := (⟨"com/example/tributary/tributary/Pipeline$Fit", "limitsAtSource", "()Z"⟩ : MethodName)) (argsL := []) (rest := []) (W := 0) E3 (hw _ (List.mem_of_getElem? (i := 9) rfl)) (hw _ (List.mem_of_getElem? (i := 11) rfl)) (hw _ (List.mem_of_getElem? (i := 10) rfl)) (hw _ (List.mem_of_getElem? (i := 12) rfl)) at_53 (by decide) (hw _ (List.mem_of_getElem? (i := 5) rfl)) (hw _ (List.mem_of_getElem? (i := 13) rfl)) (rm2_f hw c3 h0 n0 G110.sz c0 c1 c2 c3 mir FF rfl) (by decide) (by decide) rfl (lenOf pd_2 rfl) rfl (Nat.le_of_eq rfl) (pc' := 56) rfl (by decide) (by decide) ?_
    rintro _ T111 h111 G111 ⟨rfl, hh⟩
    subst hh
    show OFin n0 p e below s (fun v _ => v = some (.int 1)) 0 0 T111 (mkF m 56 #[.val (.int p0), .val (.int p1), .val (.int (3 : Int32)), .val (.int (3 : Int32)), .val (.ref c3), .val (.ref c3), .val (.int (0 : Int32)), .val (.int (0 : Int32)), .val (.int (0 : Int32)), .unset, .unset, .unset] [(.int (0 : Int32))])
    refine o_istore G111 at_56 (pc' := 58) rfl (l' := #[.val (.int p0), .val (.int p1), .val (.int (3 : Int32)), .val (.int (3 : Int32)), .val (.ref c3), .val (.ref c3), .val (.int (0 : Int32)), .val (.int (0 : Int32)), .val (.int (0 : Int32)), .val (.int (0 : Int32)), .unset, .unset]) rfl ?_
    refine o_aload G111 at_58 (pc' := 60) rfl rfl rfl ?_
    refine o_aload G111 at_60 (pc' := 62) rfl rfl rfl ?_
    refine o_callV G111 (z := (⟨"com/example/tributary/tributary/Pipeline$Fit", "then", "(Lcom/example/tributary/tributary/Pipeline$Fit;)Lcom/example/tributary/tributary/Pipeline$Fit;"⟩ : MethodName)) (argsL := [(.ref c3)]) (rest := []) (W := 0) E3 (hw _ (List.mem_of_getElem? (i := 15) rfl)) (hw _ (List.mem_of_getElem? (i := 17) rfl)) (hw _ (List.mem_of_getElem? (i := 16) rfl)) (hw _ (List.mem_of_getElem? (i := 18) rfl)) at_62 (by decide) (hw _ (List.mem_of_getElem? (i := 5) rfl)) (hw _ (List.mem_of_getElem? (i := 19) rfl)) (rm3_g hw c3 c3 h0 n0 G111.sz c0 c1 c2 c3 mir FF E3 E3 (3 : Int32) (3 : Int32) F3 F3 (by decide)) (by decide) (by decide) rfl (lenOf pd_3 rfl) rfl (Nat.le_of_eq rfl) (pc' := 65) rfl (by decide) (by decide) ?_
    rintro _ T112 h112 G112 ⟨rfl, hh⟩
    subst hh
    show OFin n0 p e below s (fun v _ => v = some (.int 1)) 0 0 T112 (mkF m 65 #[.val (.int p0), .val (.int p1), .val (.int (3 : Int32)), .val (.int (3 : Int32)), .val (.ref c3), .val (.ref c3), .val (.int (0 : Int32)), .val (.int (0 : Int32)), .val (.int (0 : Int32)), .val (.int (0 : Int32)), .unset, .unset] [(.ref c3)])
    refine o_callV G112 (z := (⟨"com/example/tributary/tributary/Pipeline$Fit", "limitsAtSource", "()Z"⟩ : MethodName)) (argsL := []) (rest := []) (W := 0) E3 (hw _ (List.mem_of_getElem? (i := 9) rfl)) (hw _ (List.mem_of_getElem? (i := 11) rfl)) (hw _ (List.mem_of_getElem? (i := 10) rfl)) (hw _ (List.mem_of_getElem? (i := 12) rfl)) at_65 (by decide) (hw _ (List.mem_of_getElem? (i := 5) rfl)) (hw _ (List.mem_of_getElem? (i := 13) rfl)) (rm2_f hw c3 h0 n0 G112.sz c0 c1 c2 c3 mir FF rfl) (by decide) (by decide) rfl (lenOf pd_2 rfl) rfl (Nat.le_of_eq rfl) (pc' := 68) rfl (by decide) (by decide) ?_
    rintro _ T113 h113 G113 ⟨rfl, hh⟩
    subst hh
    show OFin n0 p e below s (fun v _ => v = some (.int 1)) 0 0 T113 (mkF m 68 #[.val (.int p0), .val (.int p1), .val (.int (3 : Int32)), .val (.int (3 : Int32)), .val (.ref c3), .val (.ref c3), .val (.int (0 : Int32)), .val (.int (0 : Int32)), .val (.int (0 : Int32)), .val (.int (0 : Int32)), .unset, .unset] [(.int (0 : Int32))])
    refine o_istore G113 at_68 (pc' := 70) rfl (l' := #[.val (.int p0), .val (.int p1), .val (.int (3 : Int32)), .val (.int (3 : Int32)), .val (.ref c3), .val (.ref c3), .val (.int (0 : Int32)), .val (.int (0 : Int32)), .val (.int (0 : Int32)), .val (.int (0 : Int32)), .val (.int (0 : Int32)), .unset]) rfl ?_
    refine o_aload G113 at_70 (pc' := 72) rfl rfl rfl ?_
    refine o_callV G113 (z := (⟨"com/example/tributary/tributary/Pipeline$Fit", "skipsAtSource", "()Z"⟩ : MethodName)) (argsL := []) (rest := []) (W := 0) E3 (hw _ (List.mem_of_getElem? (i := 35) rfl)) (hw _ (List.mem_of_getElem? (i := 37) rfl)) (hw _ (List.mem_of_getElem? (i := 36) rfl)) (hw _ (List.mem_of_getElem? (i := 38) rfl)) at_72 (by decide) (hw _ (List.mem_of_getElem? (i := 5) rfl)) (hw _ (List.mem_of_getElem? (i := 39) rfl)) (rm5_0 hw c3 h0 n0 G113.sz c0 c1 c2 c3 mir FF E3 (3 : Int32) F3 (by decide)) (by decide) (by decide) rfl (lenOf pd_2 rfl) rfl (Nat.le_of_eq rfl) (pc' := 75) rfl (by decide) (by decide) ?_
    rintro _ T114 h114 G114 ⟨rfl, hh⟩
    subst hh
    show OFin n0 p e below s (fun v _ => v = some (.int 1)) 0 0 T114 (mkF m 75 #[.val (.int p0), .val (.int p1), .val (.int (3 : Int32)), .val (.int (3 : Int32)), .val (.ref c3), .val (.ref c3), .val (.int (0 : Int32)), .val (.int (0 : Int32)), .val (.int (0 : Int32)), .val (.int (0 : Int32)), .val (.int (0 : Int32)), .unset] [(.int (0 : Int32))])
    refine o_istore G114 at_75 (pc' := 77) rfl (l' := #[.val (.int p0), .val (.int p1), .val (.int (3 : Int32)), .val (.int (3 : Int32)), .val (.ref c3), .val (.ref c3), .val (.int (0 : Int32)), .val (.int (0 : Int32)), .val (.int (0 : Int32)), .val (.int (0 : Int32)), .val (.int (0 : Int32)), .val (.int (0 : Int32))]) rfl ?_
    refine o_iload G114 at_77 (pc' := 79) rfl rfl ?_
    refine o_iload G114 at_79 (pc' := 81) rfl rfl ?_
    refine o_icmp_ne G114 at_81 (by decide) (pcT := 125) (by decide) (pc' := 84) rfl (fun q => absurd (by decide) q) (fun _ => ?_)
    refine o_iload G114 at_84 (pc' := 86) rfl rfl ?_
    refine o_iload G114 at_86 (pc' := 88) rfl rfl ?_
    refine o_icmp_ne G114 at_88 (by decide) (pcT := 125) (by decide) (pc' := 91) rfl (fun q => absurd (by decide) q) (fun _ => ?_)
    refine o_iload G114 at_91 (pc' := 93) rfl rfl ?_
    refine o_iload G114 at_93 (pc' := 95) rfl rfl ?_
    refine o_if_eq G114 at_95 (by decide) (pcT := 107) (by decide) (pc' := 98) rfl (fun _ => ?_) (fun q => absurd (by decide) q)
    refine o_iconst G114 at_107 (pc' := 108) rfl (v := (0 : Int32)) rfl ?_
    refine o_icmp_ne G114 at_108 (by decide) (pcT := 125) (by decide) (pc' := 111) rfl (fun q => absurd (by decide) q) (fun _ => ?_)
    refine o_iload G114 at_111 (pc' := 113) rfl rfl ?_
    refine o_if_eq G114 at_113 (by decide) (pcT := 121) (by decide) (pc' := 116) rfl (fun _ => ?_) (fun q => absurd (by decide) q)
    refine o_iconst G114 at_121 (pc' := 122) rfl (v := (1 : Int32)) rfl ?_
    refine o_goto G114 at_122 (by decide) (pc' := 126) rfl ?_
    exact o_nreturn (t := .boolean) G114 (by simp) at_126 rfl (by decide) (by decide)
set_option maxRecDepth 65536 in
set_option maxHeartbeats 40000000 in
theorem comes_1 {Post : Tables → Env → Array Value → State → Outcome → State → Prop} (hpost : ∀ tb e args s v u, (limb_1_1.after args s (.returned v) u = true ∧ limb_1_2.after args s (.returned v) u = true ∧ True) → FrameEnd s (.returned v) u (Jvm.fieldLocs frame_1_writes args s ++ Jvm.arrayLocs frame_1_arrays args s ++ Jvm.staticLocs frame_1_statics s) 0 0 → Post tb e args s (.returned v) u) :
    ArmFor flags0 classFile x code maxLocals ret World_1 tables_1 room_1 Calls_1 rest_1 Pre_1 Post := by
  intro l hfl _ _ p e ha hc hk s m args below hf hA hF happ hP
  obtain ⟨hcalls, hrest, hpre⟩ := hP
  obtain ⟨-, -, -, hnamed, -, -, -, hat⟩ := (Spec.applies_iff hf).mp happ
  obtain ⟨hg, hn⟩ := and_e (Cond.before_iff.mp (show (Jvm.Cond.and given_1 narrow_1).before args s = true from hpre))
  obtain ⟨g1, g2⟩ := and_e hg
  obtain ⟨g3, g4⟩ := and_e g2
  obtain ⟨w0, w1, rfl⟩ : ∃ w0 w1 : Value, args = #[w0, w1] := by
    have hs : args.size = 2 := by simpa [Cond.value, given_1] using g1
    obtain ⟨L⟩ := args
    match L, hs with
    | [w0, w1], _ => exact ⟨w0, w1, rfl⟩
  have hw := fun d (hd : d ∈ tables_1) => atoms_spec (ws := Jvm.Cond.code x code maxLocals ret :: tables_1) hat d (List.mem_cons_of_mem _ hd)
  obtain ⟨i0, ei0⟩ := is_v g3
  obtain rfl : w0 = (.int i0) := Option.some.inj ei0
  obtain ⟨i1, ei1⟩ := is_v g4
  obtain rfl : w1 = (.int i1) := Option.some.inj ei1
  obtain ⟨⟨qm, km, mir, hm1, hm2, hm3, -⟩, -⟩ := hcalls
  obtain ⟨e0, m0⟩ := and_e hn
  obtain ⟨e3, m1⟩ := and_e m0
  obtain ⟨o0, m2⟩ := and_e m1
  obtain ⟨o3, m3⟩ := and_e m2
  obtain ⟨e1, m4⟩ := and_e m3
  obtain ⟨o1, m5⟩ := and_e m4
  obtain ⟨e2, m6⟩ := and_e m5
  have o2 := m6
  obtain ⟨c0, ev0⟩ := exa_v e0
  have E0 := Exa.start ev0 e0
  have S0 : Sta s s.heap "com/example/tributary/tributary/Pipeline$Fit" "SOURCE" "Lcom/example/tributary/tributary/Pipeline$Fit;" (.ref c0) := Sta.start ev0 (Or.inr ⟨((hw _ (List.mem_of_getElem? (i := 5) rfl))), ((hw _ (List.mem_of_getElem? (i := 6) rfl)))⟩)
  have F0 : Fld s s.heap c0 "java/lang/Enum" "ordinal" "I" (.int (0 : Int32)) := Fld.start ((fld_at ev0).symm.trans (eqv_i (Term.int_eval _) o0))
  obtain ⟨c1, ev1⟩ := exa_v e1
  have E1 := Exa.start ev1 e1
  have S1 : Sta s s.heap "com/example/tributary/tributary/Pipeline$Fit" "ONE_FOR_ONE" "Lcom/example/tributary/tributary/Pipeline$Fit;" (.ref c1) := Sta.start ev1 (Or.inr ⟨((hw _ (List.mem_of_getElem? (i := 5) rfl))), ((hw _ (List.mem_of_getElem? (i := 41) rfl)))⟩)
  have F1 : Fld s s.heap c1 "java/lang/Enum" "ordinal" "I" (.int (1 : Int32)) := Fld.start ((fld_at ev1).symm.trans (eqv_i (Term.int_eval _) o1))
  obtain ⟨c2, ev2⟩ := exa_v e2
  have E2 := Exa.start ev2 e2
  have S2 : Sta s s.heap "com/example/tributary/tributary/Pipeline$Fit" "ONE_FOR_ONE_WATCHED" "Lcom/example/tributary/tributary/Pipeline$Fit;" (.ref c2) := Sta.start ev2 (Or.inr ⟨((hw _ (List.mem_of_getElem? (i := 5) rfl))), ((hw _ (List.mem_of_getElem? (i := 43) rfl)))⟩)
  have F2 : Fld s s.heap c2 "java/lang/Enum" "ordinal" "I" (.int (2 : Int32)) := Fld.start ((fld_at ev2).symm.trans (eqv_i (Term.int_eval _) o2))
  obtain ⟨c3, ev3⟩ := exa_v e3
  have E3 := Exa.start ev3 e3
  have S3 : Sta s s.heap "com/example/tributary/tributary/Pipeline$Fit" "ANY" "Lcom/example/tributary/tributary/Pipeline$Fit;" (.ref c3) := Sta.start ev3 (Or.inr ⟨((hw _ (List.mem_of_getElem? (i := 5) rfl))), ((hw _ (List.mem_of_getElem? (i := 8) rfl)))⟩)
  have F3 : Fld s s.heap c3 "java/lang/Enum" "ordinal" "I" (.int (3 : Int32)) := Fld.start ((fld_at ev3).symm.trans (eqv_i (Term.int_eval _) o3))
  obtain ⟨n, o, h1, h2, h3, _, L, rfl, ⟨N, _, hv⟩, hq⟩ := rm0 (l := l) (Z := s) hw i0 i1 s.heap s.heap.size (Nat.le_refl _) c0 c1 c2 c3 mir ⟨⟨qm, km, hm1, hm2, hm3⟩, ⟨S0, E0, F0⟩, ⟨S1, E1, F1⟩, ⟨S2, E2, F2⟩, ⟨S3, E3, F3⟩⟩ tables_1 p e ha hc hk s m _ below hf ((Spec.applies_iff_loose hf).mp happ).1 ⟨rfl, State.Warmed39.refl s, rfl⟩ trivial
  subst hv
  refine ⟨n, _, h1, h2, h3, hpost _ _ _ _ _ _ ⟨Cond.after_iff.mpr rfl, Cond.after_iff.mpr (eq_i res_at (Term.int_eval (1)) rfl), trivial⟩ ⟨hq.1, hq.2.1, (hq.2.2.sift fun y hy => Or.inr (N y hy)).mono (by decide) (by decide)⟩⟩
theorem main_1_1 : Claimed_1_1 := comes_1 fun _ _ _ _ _ _ h hF => ⟨h.1, hF⟩
theorem main_1_2 : Claimed_1_2 := comes_1 fun _ _ _ _ _ _ h hF => ⟨h.2.1, hF⟩
end Jvm.Pilot.@@N@@
namespace Jvm.Pilot.@@N@@
open Jvm Jvm.ClassFile Sem Op Lib Jvm.Free Jvm.Stand Jvm.Pilot.@@N@@.Jvm.D
/-! MADE BY PROGRAM (witnessworld.py) out of the Statement's table words and the real class files: 12 classes; the members and pool entries that the words name. The judged class is class 1, her method 2. -/
namespace start1
open Jvm.ClassFile
def u (s : String) : CpInfo := .utf8 (stringToUtf16 s)
/-- a pool by its gaps: so many unusable entries, then the entry; so many at the end -/
def gap : Nat → List CpInfo → List CpInfo
  | 0, r => r
  | n + 1, r => .unusable :: gap n r
def poolList (es : List (Nat × CpInfo)) (last : Nat) : List CpInfo := es.foldr (fun e r => gap e.1 (e.2 :: r)) (gap last [])
def pool (es : List (Nat × CpInfo)) (last : Nat) : Array CpInfo := ⟨poolList es last⟩
def fileOf (pool : Array CpInfo) (this : Nat) (attrs : Array Attribute := #[]) (ms : Array MethodInfo := #[]) (fl : Nat := 33) (sup : Nat := 0) (ifs : Array Nat := #[]) (fds : Array FieldInfo := #[]) : ClassFile where
  minorVersion := 0
  majorVersion := 65
  constantPool := pool
  accessFlags := fl
  thisClass := this
  superClass := sup
  interfaces := ifs
  fields := fds
  methods := ms
  attributes := attrs
def plain (name : String) (sup : Option ClassId) : Class where
  name := name
  kind := .ordinary
  loader := none
  accessFlags := 33
  super := sup
  interfaces := #[]
  cf := none
  fields := #[]
  methods := #[]
  instanceTypes := #[]
  staticTypes := #[]
  resolved := #[]
  callSites := []
  init := .initialized
  statics := none
  mirror := none

def pool0 : Array CpInfo := pool [(5, u "<init>"), (0, u "()V"), (1, .class_ 10), (1, u "java/lang/Object"), (0, u "getClass"), (0, u "()Ljava/lang/Class;")] 111

def k0m0 : Method := { name := "<init>", desc := "()V", sig := { parameters := [], returnType := none }, accessFlags := 1, code := none }
def k0m1 : Method := { name := "getClass", desc := "()Ljava/lang/Class;", sig := { parameters := [], returnType := some (.object "java/lang/Class") }, accessFlags := 273, code := none }
/-- java/lang/Object -/
def k0 : Class := { plain "java/lang/Object" none with
  accessFlags := 33
  interfaces := #[]
  cf := some (fileOf pool0 8 #[] #[{ accessFlags := 1, nameIndex := 5, descriptorIndex := 6, attributes := #[] }, { accessFlags := 273, nameIndex := 11, descriptorIndex := 12, attributes := #[] }] 33 0 #[] #[])
  fields := #[]
  methods := #[k0m0, k0m1]
  instanceTypes := #[]
  staticTypes := #[]
  resolved := Array.replicate 124 none
  statics := none }

def pool1 : Array CpInfo := pool [(2, .class_ 4), (1, u "java/lang/Object"), (0, u "<init>"), (0, u "()V"), (0, .fieldref 8 9), (0, .class_ 10), (0, .nameAndType 11 12), (0, u "com/example/tributary/tributary/Pipeline$Fit"), (0, u "SOURCE"), (0, u "Lcom/example/tributary/tributary/Pipeline$Fit;"), (0, .fieldref 8 14), (0, .nameAndType 15 12), (0, u "ONE_FOR_ONE"), (0, .fieldref 8 17), (0, .nameAndType 18 12), (0, u "ONE_FOR_ONE_WATCHED"), (0, .fieldref 8 20), (0, .nameAndType 21 12), (0, u "ANY"), (0, .methodref 23 24), (0, .class_ 25), (0, .nameAndType 26 27), (0, u "com/example/tributary/tributary/FitLimitsAtSourcePinLaw"), (0, u "pick"), (0, u "(I)Lcom/example/tributary/tributary/Pipeline$Fit;"), (0, .methodref 8 29), (0, .nameAndType 30 31), (0, u "limitsAtSource"), (0, u "()Z"), (0, .methodref 8 33), (0, .nameAndType 34 35), (0, u "then"), (0, u "(Lcom/example/tributary/tributary/Pipeline$Fit;)Lcom/example/tributary/tributary/Pipeline$Fit;"), (0, .methodref 8 37), (0, .nameAndType 38 31), (0, u "skipsAtSource"), (3, u "law"), (0, u "(II)Z")] 6

def k1m0 : Method := { name := "<init>", desc := "()V", sig := { parameters := [], returnType := none }, accessFlags := 1, code := none }
def k1c1 : Code := { maxStack := 2, maxLocals := 1, code := method_2_code, exceptionTable := #[], attributes := #[] }
def k1m1 : Method := { name := "pick", desc := "(I)Lcom/example/tributary/tributary/Pipeline$Fit;", sig := { parameters := [.int], returnType := some (.object "com/example/tributary/tributary/Pipeline$Fit") }, accessFlags := 10, code := some k1c1 }
def k1c2 : Code := { maxStack := 2, maxLocals := 12, code := code, exceptionTable := #[], attributes := #[] }
def k1m2 : Method := { name := "law", desc := "(II)Z", sig := { parameters := [.int, .int], returnType := some .boolean }, accessFlags := 9, code := some k1c2 }
/-- com/example/tributary/tributary/FitLimitsAtSourcePinLaw -/
def k1 : Class := { plain "com/example/tributary/tributary/FitLimitsAtSourcePinLaw" (some 0) with
  accessFlags := 49
  interfaces := #[]
  cf := some (fileOf pool1 23 #[] #[{ accessFlags := 1, nameIndex := 5, descriptorIndex := 6, attributes := #[] }, { accessFlags := 10, nameIndex := 26, descriptorIndex := 27, attributes := #[] }, { accessFlags := 9, nameIndex := 42, descriptorIndex := 43, attributes := #[] }] 49 2 #[] #[])
  fields := #[]
  methods := #[k1m0, k1m1, k1m2]
  instanceTypes := #[]
  staticTypes := #[]
  resolved := Array.replicate 50 none
  statics := none }

def pool2 : Array CpInfo := pool [(1, .class_ 2), (0, u "java/lang/constant/Constable"), (0, .class_ 4), (0, u "java/lang/Object")] 6

/-- java/lang/constant/Constable -/
def k2 : Class := { plain "java/lang/constant/Constable" (some 0) with
  accessFlags := 1537
  interfaces := #[]
  cf := some (fileOf pool2 1 #[] #[] 1537 3 #[] #[])
  fields := #[]
  methods := #[]
  instanceTypes := #[]
  staticTypes := #[]
  resolved := Array.replicate 11 none
  statics := none }

def pool3 : Array CpInfo := pool [(1, .class_ 2), (0, u "java/lang/Comparable"), (0, .class_ 4), (0, u "java/lang/Object")] 7

/-- java/lang/Comparable -/
def k3 : Class := { plain "java/lang/Comparable" (some 0) with
  accessFlags := 1537
  interfaces := #[]
  cf := some (fileOf pool3 1 #[] #[] 1537 3 #[] #[])
  fields := #[]
  methods := #[]
  instanceTypes := #[]
  staticTypes := #[]
  resolved := Array.replicate 12 none
  statics := none }

def pool4 : Array CpInfo := pool [(1, .class_ 2), (0, u "java/io/Serializable"), (0, .class_ 4), (0, u "java/lang/Object")] 2

/-- java/io/Serializable -/
def k4 : Class := { plain "java/io/Serializable" (some 0) with
  accessFlags := 1537
  interfaces := #[]
  cf := some (fileOf pool4 1 #[] #[] 1537 3 #[] #[])
  fields := #[]
  methods := #[]
  instanceTypes := #[]
  staticTypes := #[]
  resolved := Array.replicate 7 none
  statics := none }

def pool5 : Array CpInfo := pool [(2, .class_ 4), (1, u "java/lang/Enum"), (0, u "name"), (0, u "Ljava/lang/String;"), (0, .fieldref 2 8), (0, .nameAndType 9 10), (0, u "ordinal"), (0, u "I"), (1, .class_ 14), (1, u "java/lang/Object"), (4, u "hash"), (9, .methodref 12 30), (0, .nameAndType 31 32), (0, u "getClass"), (0, u "()Ljava/lang/Class;"), (70, u "compareTo"), (0, u "(Ljava/lang/Enum;)I"), (1, .class_ 108), (1, u "java/lang/Enum$EnumDesc"), (2, .class_ 112), (0, u "java/lang/constant/Constable"), (0, .class_ 114), (0, u "java/lang/Comparable"), (0, .class_ 116), (0, u "java/io/Serializable")] 87

def k5c0 : Code := { maxStack := 2, maxLocals := 4, code := jdk_37_method_8_code, exceptionTable := #[], attributes := #[] }
def k5m0 : Method := { name := "compareTo", desc := "(Ljava/lang/Enum;)I", sig := { parameters := [(.object "java/lang/Enum")], returnType := some .int }, accessFlags := 17, code := some k5c0 }
/-- java/lang/Enum -/
def k5 : Class := { plain "java/lang/Enum" (some 0) with
  accessFlags := 1057
  interfaces := #[2, 3, 4]
  cf := some (fileOf pool5 2 #[.nestMembers #[106]] #[{ accessFlags := 17, nameIndex := 103, descriptorIndex := 104, attributes := #[] }] 1057 12 #[111, 113, 115] #[{ accessFlags := 18, nameIndex := 5, descriptorIndex := 6, attributes := #[] }, { accessFlags := 18, nameIndex := 9, descriptorIndex := 10, attributes := #[] }, { accessFlags := 2, nameIndex := 19, descriptorIndex := 10, attributes := #[] }])
  fields := #[{ name := "name", type := (.object "java/lang/String"), accessFlags := 18, slot := 0, constantValue := 0 }, { name := "ordinal", type := .int, accessFlags := 18, slot := 1, constantValue := 0 }, { name := "hash", type := .int, accessFlags := 2, slot := 2, constantValue := 0 }]
  methods := #[k5m0]
  instanceTypes := #[(.object "java/lang/String"), .int, .int]
  staticTypes := #[]
  resolved := Array.replicate 204 none
  statics := none }

def pool6 : Array CpInfo := pool [(1, .class_ 2), (0, u "com/example/tributary/tributary/Pipeline$Fit"), (2, u "SOURCE"), (0, u "Lcom/example/tributary/tributary/Pipeline$Fit;"), (0, .fieldref 1 8), (0, .nameAndType 9 6), (0, u "ONE_FOR_ONE"), (2, u "ONE_FOR_ONE_WATCHED"), (0, .fieldref 1 14), (0, .nameAndType 15 6), (0, u "ANY"), (2, u "$VALUES"), (0, u "[Lcom/example/tributary/tributary/Pipeline$Fit;"), (6, .class_ 28), (1, u "java/lang/Enum"), (6, .methodref 1 36), (0, .nameAndType 37 38), (0, u "compareTo"), (0, u "(Ljava/lang/Enum;)I"), (16, u "then"), (0, u "(Lcom/example/tributary/tributary/Pipeline$Fit;)Lcom/example/tributary/tributary/Pipeline$Fit;"), (1, u "limitsAtSource"), (0, u "()Z"), (0, u "skipsAtSource"), (5, .class_ 67), (0, u "com/example/tributary/tributary/Pipeline")] 2

def k6c0 : Code := { maxStack := 2, maxLocals := 2, code := prog_38_method_4_code, exceptionTable := #[], attributes := #[] }
def k6m0 : Method := { name := "then", desc := "(Lcom/example/tributary/tributary/Pipeline$Fit;)Lcom/example/tributary/tributary/Pipeline$Fit;", sig := { parameters := [(.object "com/example/tributary/tributary/Pipeline$Fit")], returnType := some (.object "com/example/tributary/tributary/Pipeline$Fit") }, accessFlags := 0, code := some k6c0 }
def k6c1 : Code := { maxStack := 2, maxLocals := 1, code := prog_38_method_5_code, exceptionTable := #[], attributes := #[] }
def k6m1 : Method := { name := "limitsAtSource", desc := "()Z", sig := { parameters := [], returnType := some .boolean }, accessFlags := 0, code := some k6c1 }
def k6c2 : Code := { maxStack := 2, maxLocals := 1, code := prog_38_method_6_code, exceptionTable := #[], attributes := #[] }
def k6m2 : Method := { name := "skipsAtSource", desc := "()Z", sig := { parameters := [], returnType := some .boolean }, accessFlags := 0, code := some k6c2 }
/-- com/example/tributary/tributary/Pipeline$Fit -/
def k6 : Class := { plain "com/example/tributary/tributary/Pipeline$Fit" (some 5) with
  accessFlags := 16432
  interfaces := #[]
  cf := some (fileOf pool6 1 #[.nestHost 66] #[{ accessFlags := 0, nameIndex := 55, descriptorIndex := 56, attributes := #[] }, { accessFlags := 0, nameIndex := 58, descriptorIndex := 59, attributes := #[] }, { accessFlags := 0, nameIndex := 60, descriptorIndex := 59, attributes := #[] }] 16432 26 #[] #[{ accessFlags := 16409, nameIndex := 5, descriptorIndex := 6, attributes := #[] }, { accessFlags := 16409, nameIndex := 9, descriptorIndex := 6, attributes := #[] }, { accessFlags := 16409, nameIndex := 12, descriptorIndex := 6, attributes := #[] }, { accessFlags := 16409, nameIndex := 15, descriptorIndex := 6, attributes := #[] }, { accessFlags := 4122, nameIndex := 18, descriptorIndex := 19, attributes := #[] }])
  fields := #[{ name := "SOURCE", type := (.object "com/example/tributary/tributary/Pipeline$Fit"), accessFlags := 16409, slot := 0, constantValue := 0 }, { name := "ONE_FOR_ONE", type := (.object "com/example/tributary/tributary/Pipeline$Fit"), accessFlags := 16409, slot := 1, constantValue := 0 }, { name := "ONE_FOR_ONE_WATCHED", type := (.object "com/example/tributary/tributary/Pipeline$Fit"), accessFlags := 16409, slot := 2, constantValue := 0 }, { name := "ANY", type := (.object "com/example/tributary/tributary/Pipeline$Fit"), accessFlags := 16409, slot := 3, constantValue := 0 }, { name := "$VALUES", type := (.array (.object "com/example/tributary/tributary/Pipeline$Fit")), accessFlags := 4122, slot := 4, constantValue := 0 }]
  methods := #[k6m0, k6m1, k6m2]
  instanceTypes := #[(.object "java/lang/String"), .int, .int]
  staticTypes := #[(.object "com/example/tributary/tributary/Pipeline$Fit"), (.object "com/example/tributary/tributary/Pipeline$Fit"), (.object "com/example/tributary/tributary/Pipeline$Fit"), (.object "com/example/tributary/tributary/Pipeline$Fit"), (.array (.object "com/example/tributary/tributary/Pipeline$Fit"))]
  resolved := Array.replicate 70 none
  mirror := some 5
  statics := some 0 }

def pool7 : Array CpInfo := pool [(1, u "java/lang/Cloneable"), (0, .class_ 1), (0, u "java/lang/Object"), (0, .class_ 3)] 3

/-- java/lang/Cloneable -/
def k7 : Class := { plain "java/lang/Cloneable" (some 0) with
  accessFlags := 1537
  interfaces := #[]
  cf := some (fileOf pool7 2 #[] #[] 1537 4 #[] #[])
  fields := #[]
  methods := #[]
  instanceTypes := #[]
  staticTypes := #[]
  resolved := Array.replicate 8 none
  statics := none }

/-- the primitive byte -/
def k8 : Class := { plain "byte" none with kind := .primitive 'B', accessFlags := 0x411 }
/-- [B -/
def k9 : Class := { plain "[B" (some 0) with kind := .array 8 .byte, interfaces := #[7, 4], accessFlags := 1041 }

/-- the primitive int -/
def k10 : Class := { plain "int" none with kind := .primitive 'I', accessFlags := 0x411 }
/-- [I -/
def k11 : Class := { plain "[I" (some 0) with kind := .array 10 .int, interfaces := #[7, 4], accessFlags := 1041 }

def heap : Heap := #[{ cls := 6, slots := #[.ref 1, .ref 2, .ref 3, .ref 4, .null], vm := .statics 6 },
  { cls := 6, slots := #[.null, .int 0, .int 0], vm := .none },
  { cls := 6, slots := #[.null, .int 1, .int 0], vm := .none },
  { cls := 6, slots := #[.null, .int 2, .int 0], vm := .none },
  { cls := 6, slots := #[.null, .int 3, .int 0], vm := .none },
  { cls := 0, slots := #[], vm := .mirror 6 }]
def classes : Array Class := #[k0, k1, k2, k3, k4, k5, k6, k7, k8, k9, k10, k11]
def interned : List (Array UInt16 × Addr) := []
def slotsUsed : Nat := 17
def theMethod : MethodId := ⟨1, 2⟩
def args0 : Array Value := #[.int 5, .int 5]
def aboutOver (below : List Frame) : State where
  vm := { classes := classes, interned := interned.toArray }
  heap := heap
  slotsUsed := slotsUsed
  threads := #[{ frames := .invoking theMethod args0 :: below }]
def below0 : List Frame := [.native { method := ⟨0, 0⟩, args := #[] }]
def about1 : State := aboutOver below0
def p0 : Program := .bare "" "" ""
def e0 : Env := launch0.env 0 0 0
theorem w_frames : about1.frames = Frame.invoking theMethod args0 :: below0 := rfl
set_option maxRecDepth 65536 in
theorem w_args : argsFit about1.vm theMethod args0 = true := by decide +kernel
set_option maxRecDepth 65536 in
theorem w_heap : heapFits about1 = true := by decide +kernel
set_option maxRecDepth 65536 in
theorem w_runnable : about1.curStatus? = some .runnable := by decide +kernel
set_option maxRecDepth 65536 in
theorem w_alone : about1.alone = true := by decide +kernel
set_option maxRecDepth 65536 in
theorem w_named : about1.methodNamed? x = some theMethod := by decide +kernel
set_option maxRecDepth 65536 in
theorem w_hears : about1.hears theMethod below0 = true := by decide +kernel
set_option maxRecDepth 65536 in
theorem w_ripe : about1.ripe theMethod args0 below0 = true := by decide +kernel
theorem w_running : about1.status = .running := rfl
set_option maxRecDepth 65536 in
theorem w_room : about1.hasRoom e0.platform room_1 = true :=
  launch0.hasRoom_least _ room_1 (by decide +kernel) (by decide +kernel) (by decide +kernel) (by decide +kernel) (by decide +kernel) (by decide +kernel)
theorem allAtoms_all (ts : List Jvm.Cond) (a : Array Jvm.Value) (st : Jvm.State) : (allAtoms ts).before a st = ts.all (fun c => c.before a st) := by
  induction ts with
  | nil => rfl
  | cons c t ih =>
    show (Jvm.Cond.and c (allAtoms t)).before a st = _
    rw [Jvm.Cond.before_and, ih, List.all_cons]
def words1 : List Jvm.Cond := Jvm.Cond.code x code maxLocals ret :: tables_1
/-- a 'code' word, met by the world's own term for the bytes: nothing is compared byte by byte -/
theorem code_word {y : MethodName} {bytes : ByteArray} {mx : Nat} {rt : Option FieldType} {a : Array Value} {s : State} {m : MethodId} {meth : Method} {c : Code} (h1 : s.methodNamed? y = some m) (h2 : s.vm.method? m = some meth) (h3 : meth.code = some c) (h4 : c.code = bytes)
    (h5 : (c.maxLocals == mx && c.exceptionTable.isEmpty && decide (c.maxStack ≤ mostOperands) && decide (meth.sig.returnType = rt) && !meth.locks && decide (parseMethodDescriptor y.desc = some meth.sig)) = true) : (Jvm.Cond.code y bytes mx rt).before a s = true := by
  simp only [Bool.and_eq_true, beq_iff_eq, Bool.not_eq_true', decide_eq_true_eq] at h5
  obtain ⟨⟨⟨⟨⟨g1, g2⟩, g3⟩, g4⟩, g5⟩, g6⟩ := h5
  simp [Cond.before, Cond.holds, Cond.value, h1, h2, h3, h4, g1, g2, g3, g4, g5, g6]
def isCode : Jvm.Cond → Bool
  | .code _ _ _ _ => true
  | _ => false
theorem all_split {L : List Jvm.Cond} {P : Jvm.Cond → Bool} (h1 : L.all (fun c => isCode c || P c) = true) (h2 : ∀ c ∈ L.filter isCode, P c = true) : L.all P = true := by
  refine List.all_eq_true.mpr fun c hc => ?_
  have h := List.all_eq_true.mp h1 c hc
  rcases Bool.eq_false_or_eq_true (isCode c) with hi | hi
  · exact h2 c (List.mem_filter.mpr ⟨hc, hi⟩)
  · simpa [hi] using h
set_option maxRecDepth 65536 in
theorem w_c0 : (Jvm.Cond.code x code maxLocals ret).before args0 about1 = true := code_word (m := ⟨1, 2⟩) (meth := k1m2) (c := k1c2) (by decide +kernel) rfl rfl rfl (by decide +kernel)
set_option maxRecDepth 65536 in
theorem w_c1 : (Jvm.Cond.code ({ cls := "com/example/tributary/tributary/FitLimitsAtSourcePinLaw", name := "pick", desc := "(I)Lcom/example/tributary/tributary/Pipeline$Fit;" } : Jvm.MethodName) method_2_code (1 : Nat) (Option.some (Jvm.ClassFile.FieldType.object "com/example/tributary/tributary/Pipeline$Fit"))).before args0 about1 = true := code_word (m := ⟨1, 1⟩) (meth := k1m1) (c := k1c1) (by decide +kernel) rfl rfl rfl (by decide +kernel)
set_option maxRecDepth 65536 in
theorem w_c2 : (Jvm.Cond.code ({ cls := "com/example/tributary/tributary/Pipeline$Fit", name := "limitsAtSource", desc := "()Z" } : Jvm.MethodName) prog_38_method_5_code (1 : Nat) (Option.some Jvm.ClassFile.FieldType.boolean)).before args0 about1 = true := code_word (m := ⟨6, 1⟩) (meth := k6m1) (c := k6c1) (by decide +kernel) rfl rfl rfl (by decide +kernel)
set_option maxRecDepth 65536 in
theorem w_c3 : (Jvm.Cond.code ({ cls := "com/example/tributary/tributary/Pipeline$Fit", name := "then", desc := "(Lcom/example/tributary/tributary/Pipeline$Fit;)Lcom/example/tributary/tributary/Pipeline$Fit;" } : Jvm.MethodName) prog_38_method_4_code (2 : Nat) (Option.some (Jvm.ClassFile.FieldType.object "com/example/tributary/tributary/Pipeline$Fit"))).before args0 about1 = true := code_word (m := ⟨6, 0⟩) (meth := k6m0) (c := k6c0) (by decide +kernel) rfl rfl rfl (by decide +kernel)
set_option maxRecDepth 65536 in
theorem w_c4 : (Jvm.Cond.code ({ cls := "java/lang/Enum", name := "compareTo", desc := "(Ljava/lang/Enum;)I" } : Jvm.MethodName) jdk_37_method_8_code (4 : Nat) (Option.some Jvm.ClassFile.FieldType.int)).before args0 about1 = true := code_word (m := ⟨5, 0⟩) (meth := k5m0) (c := k5c0) (by decide +kernel) rfl rfl rfl (by decide +kernel)
set_option maxRecDepth 65536 in
theorem w_c5 : (Jvm.Cond.code ({ cls := "com/example/tributary/tributary/Pipeline$Fit", name := "skipsAtSource", desc := "()Z" } : Jvm.MethodName) prog_38_method_6_code (1 : Nat) (Option.some Jvm.ClassFile.FieldType.boolean)).before args0 about1 = true := code_word (m := ⟨6, 2⟩) (meth := k6m2) (c := k6c2) (by decide +kernel) rfl rfl rfl (by decide +kernel)
def codes1 : List Jvm.Cond := [Jvm.Cond.code x code maxLocals ret, Jvm.Cond.code ({ cls := "com/example/tributary/tributary/FitLimitsAtSourcePinLaw", name := "pick", desc := "(I)Lcom/example/tributary/tributary/Pipeline$Fit;" } : Jvm.MethodName) method_2_code (1 : Nat) (Option.some (Jvm.ClassFile.FieldType.object "com/example/tributary/tributary/Pipeline$Fit")), Jvm.Cond.code ({ cls := "com/example/tributary/tributary/Pipeline$Fit", name := "limitsAtSource", desc := "()Z" } : Jvm.MethodName) prog_38_method_5_code (1 : Nat) (Option.some Jvm.ClassFile.FieldType.boolean), Jvm.Cond.code ({ cls := "com/example/tributary/tributary/Pipeline$Fit", name := "then", desc := "(Lcom/example/tributary/tributary/Pipeline$Fit;)Lcom/example/tributary/tributary/Pipeline$Fit;" } : Jvm.MethodName) prog_38_method_4_code (2 : Nat) (Option.some (Jvm.ClassFile.FieldType.object "com/example/tributary/tributary/Pipeline$Fit")), Jvm.Cond.code ({ cls := "java/lang/Enum", name := "compareTo", desc := "(Ljava/lang/Enum;)I" } : Jvm.MethodName) jdk_37_method_8_code (4 : Nat) (Option.some Jvm.ClassFile.FieldType.int), Jvm.Cond.code ({ cls := "com/example/tributary/tributary/Pipeline$Fit", name := "skipsAtSource", desc := "()Z" } : Jvm.MethodName) prog_38_method_6_code (1 : Nat) (Option.some Jvm.ClassFile.FieldType.boolean)]
set_option maxRecDepth 65536 in
theorem codes_eq : words1.filter isCode = codes1 := rfl
theorem w_codes : ∀ c ∈ words1.filter isCode, c.before args0 about1 = true := by
  rw [codes_eq]
  intro c hc
  simp only [codes1, List.mem_cons, List.not_mem_nil, or_false] at hc
  rcases hc with rfl | rfl | rfl | rfl | rfl | rfl
  · exact w_c0
  · exact w_c1
  · exact w_c2
  · exact w_c3
  · exact w_c4
  · exact w_c5
set_option maxRecDepth 65536 in
theorem w_t1 : (words1.take 24).all (fun c => isCode c || c.before args0 about1) = true := by decide +kernel
set_option maxRecDepth 65536 in
theorem w_t2 : (words1.drop 24).all (fun c => isCode c || c.before args0 about1) = true := by decide +kernel
theorem w_tables : (allAtoms (Jvm.Cond.code x code maxLocals ret :: tables_1)).before args0 about1 = true := by
  rw [allAtoms_all]
  show words1.all (fun c => c.before args0 about1) = true
  refine all_split ?_ w_codes
  rw [← List.take_append_drop 24 words1, List.all_append, w_t1, w_t2]
  rfl
set_option maxRecDepth 65536 in
theorem w_case : (Jvm.Cond.and given_1 narrow_1).before args0 about1 = true := by decide +kernel
theorem w_applies : (headSpec (Jvm.Cond.code x code maxLocals ret :: tables_1) room_1).applies x e0.platform about1 = true :=
  (Spec.applies_iff w_frames).mpr ⟨w_running, w_runnable, w_alone, w_named, w_hears, w_ripe, w_room, w_tables⟩
theorem atStart : AtStart classFile x code maxLocals ret World_1 tables_1 room_1 Calls_1 rest_1 Pre_1 launch0 p0 e0 about1 theMethod args0 below0 :=
  ⟨lists_1, trivial, launch0.admits_env _ _ _, launch0.least_env, fairChoices_fair.cas, fairChoices_fair.clock, w_frames, w_args, w_heap, w_applies, ⟨⟨6, k6, 5, by decide +kernel, rfl, rfl, _, rfl, rfl⟩, trivial⟩, trivial, w_case⟩
end start1
theorem witness_1 : WitnessClaimed_1 := ⟨start1.p0, start1.e0, start1.about1, start1.theMethod, start1.args0, start1.below0, start1.atStart⟩
end Jvm.Pilot.@@N@@
