import JvmDerived
import JvmDerived.Pilot.@@N@@Statement
import JvmDerived.Pilot.@@N@@Code
set_option linter.unusedVariables false
set_option linter.unusedSimpArgs false
namespace Jvm.Pilot.@@N@@
open Jvm Jvm.ClassFile Sem Op Lib Jvm.Free Jvm.Stand Jvm.LawKit Jvm.RoadKit Bundle Jvm.Pilot.@@N@@.Jvm.D

section OwnKit
/-- from here the run comes to a return that says Q -/
def OFin (n0 : Nat) (p : Program) (e : Env) (below : List Frame) (s : State) (Q : Option Value → Heap → Prop) (ck sk : Nat) (T : State) (g : JFrame) : Prop :=
  ∃ s₂ o, Steps p.tables e below (T.setTop g) s₂ ∧ s₂.status = .running ∧ Ended s₂ below o ∧ ∃ v L, o = .returned v ∧ (Fr n0 L ∧ n0 ≤ s₂.heap.size ∧ Q v s₂.heap) ∧ FrameEnd s o s₂ L ck sk
/-- where the walk of a body stands, with all that is known of the body -/
def OG (l : Launch) (Z : State) (y : MethodName) (bytes : ByteArray) (maxl : Nat) (ret : Option FieldType) (n0 : Nat) (p : Program) (e : Env) (R : Room) (s : State) (m : MethodId) (args : Array Value) (below : List Frame) (meth : Method) (c : Code) (T : State) (h : Heap) (cells slots : Nat) : Prop :=
  p.tables.exec = Jvm.exec ∧ c.code = bytes ∧ c.maxLocals = maxl ∧ s.vm.findClass y.cls = some m.cls ∧ meth.name = y.name ∧ meth.sig.returnType = ret ∧ meth.locks = false ∧ Z.Warmed39 s.vm ∧ T.heap = h ∧ n0 ≤ h.size ∧ ∃ locs, Stand p l e R s m args below meth c T locs cells slots ∧ Fr n0 locs
/-- a body's contract -/
def OMet (l : Launch) (Z : State) (y : MethodName) (bytes : ByteArray) (maxl : Nat) (ret : Option FieldType) (rm : Room) (as' : Array Value) (h0 : Heap) (n0 : Nat) (ck sk : Nat) (Q : Option Value → Heap → Prop) : Prop :=
  ∀ ws : List Jvm.Cond, MetFree l y (head1 (Jvm.Cond.code y bytes maxl ret :: ws) rm) (fun a U => a = as' ∧ Z.Warmed39 U.vm ∧ U.heap = h0) (fun _ _ _ _ _ => True) (fun _ U o U' => ∃ v L, o = .returned v ∧ (Fr n0 L ∧ n0 ≤ U'.heap.size ∧ Q v U'.heap) ∧ FrameEnd U o U' L ck sk)
variable {l : Launch} {Z : State} {y : MethodName} {bytes : ByteArray} {maxl : Nat} {ret : Option FieldType} {n0 : Nat} {p : Program} {e : Env} {R : Room} {s : State} {m : MethodId} {args : Array Value} {below : List Frame} {meth : Method} {c : Code} {T : State} {h : Heap} {cells slots ck sk : Nat} {Q : Option Value → Heap → Prop} {pc pc' : Nat} {Ls : Array Slot} {rest : List Value} {a0 : Array Value}
theorem o_step {T' : State} {g g' : JFrame} (st : ∀ t, Steps p.tables e below (T'.setTop g') t → Steps p.tables e below (T.setTop g) t) (k : OFin n0 p e below s Q ck sk T' g') : OFin n0 p e below s Q ck sk T g := by
  obtain ⟨s₂, o, h1, r⟩ := k
  exact ⟨s₂, o, st _ h1, r⟩
theorem o_body {rm : Room} {as' : Array Value} {h0 : Heap} (hy : plainFor y = true) (hz : n0 ≤ h0.size) (hent : ∀ m, entryFrame m as' maxl = mkF m 0 Ls [])
    (body : ∀ (p : Program) (e : Env) (s : State) (m : MethodId) (below : List Frame) (meth : Method) (c : Code) (s₁ : State), OG l Z y bytes maxl ret n0 p e rm s m as' below meth c s₁ h0 0 0 → OFin n0 p e below s Q ck sk s₁ (mkF m 0 Ls [])) : OMet l Z y bytes maxl ret rm as' h0 n0 ck sk Q := by
  intro ws
  refine MetFree.of_bodySF hy hisR ?_
  intro p e s m args below meth c s₁ Bd hml0 hP hK
  obtain ⟨ha, hZ, hh⟩ := hP
  subst ha
  have e0 : s₁.heap = h0 := by rw [← hh, Bd.state]; rfl
  have k := body p e s m below meth c s₁ ⟨Bd.exec, Bd.bytes, hml0, findClass_of_methodNamed Bd.named, (name_of_methodNamed Bd.named Bd.method).1, Bd.returns, Bd.notSynchronized, hZ, e0, hz, [], Stand.of_body Bd, Fr.nil n0⟩
  rw [← hent m] at k
  exact k
theorem OG.sz (G : OG l Z y bytes maxl ret n0 p e R s m args below meth c T h cells slots) : n0 ≤ h.size := G.2.2.2.2.2.2.2.2.2.1
theorem OG.eh (G : OG l Z y bytes maxl ret n0 p e R s m args below meth c T h cells slots) : T.heap = h := G.2.2.2.2.2.2.2.2.1
theorem OG.wm (G : OG l Z y bytes maxl ret n0 p e R s m args below meth c T h cells slots) : Z.Warmed39 s.vm := G.2.2.2.2.2.2.2.1
theorem o_iload (G : OG l Z y bytes maxl ret n0 p e R s m args below meth c T h cells slots) {k0 : Nat} {v : Int32} (hd : decode bytes pc = .ok (.iload k0, 2)) (hp : pc + 2 = pc') (hl : Ls[k0]? = some (.val (.int v))) (k : OFin n0 p e below s Q ck sk T (mkF m pc' Ls (.int v :: rest))) : OFin n0 p e below s Q ck sk T (mkF m pc Ls rest) := by
  subst hp
  obtain ⟨hx, hby, -, -, -, -, -, -, -, -, locs, X, -⟩ := G
  exact o_step (fun _ hr => XS.iload X.here hx rfl (hb hby hd) hl hr) k
theorem o_lloadN (G : OG l Z y bytes maxl ret n0 p e R s m args below meth c T h cells slots) {k0 : Fin 4} {v : Int64} (hd : decode bytes pc = .ok (.lload_n k0, 1)) (hp : pc + 1 = pc') (hl : Ls[k0.val]? = some (.val (.long v))) (k : OFin n0 p e below s Q ck sk T (mkF m pc' Ls (.long v :: rest))) : OFin n0 p e below s Q ck sk T (mkF m pc Ls rest) := by
  subst hp
  obtain ⟨hx, hby, -, -, -, -, -, -, -, -, locs, X, -⟩ := G
  exact o_step (fun _ hr => XS.lloadN X.here hx rfl (hb hby hd) hl hr) k
theorem o_aloadN (G : OG l Z y bytes maxl ret n0 p e R s m args below meth c T h cells slots) {k0 : Fin 4} {v : Value} (hd : decode bytes pc = .ok (.aload_n k0, 1)) (hp : pc + 1 = pc') (hl : Ls[k0.val]? = some (.val v)) (hv : v.isRef = true) (k : OFin n0 p e below s Q ck sk T (mkF m pc' Ls (v :: rest))) : OFin n0 p e below s Q ck sk T (mkF m pc Ls rest) := by
  subst hp
  obtain ⟨hx, hby, -, -, -, -, -, -, -, -, locs, X, -⟩ := G
  exact o_step (fun _ hr => XS.aloadN X.here hx rfl (hb hby hd) hl hv hr) k
theorem o_aload (G : OG l Z y bytes maxl ret n0 p e R s m args below meth c T h cells slots) {k0 : Nat} {v : Value} (hd : decode bytes pc = .ok (.aload k0, 2)) (hp : pc + 2 = pc') (hl : Ls[k0]? = some (.val v)) (hv : v.isRef = true) (k : OFin n0 p e below s Q ck sk T (mkF m pc' Ls (v :: rest))) : OFin n0 p e below s Q ck sk T (mkF m pc Ls rest) := by
  subst hp
  obtain ⟨hx, hby, -, -, -, -, -, -, -, -, locs, X, -⟩ := G
  exact o_step (fun _ hr => XS.aload X.here hx rfl (hb hby hd) hl hv hr) k
theorem o_istore (G : OG l Z y bytes maxl ret n0 p e R s m args below meth c T h cells slots) {k0 : Nat} {v : Int32} {l' : Array Slot} (hd : decode bytes pc = .ok (.istore k0, 2)) (hp : pc + 2 = pc') (hl : storeLocals Ls k0 (.int v) = some l') (k : OFin n0 p e below s Q ck sk T (mkF m pc' l' rest)) : OFin n0 p e below s Q ck sk T (mkF m pc Ls (.int v :: rest)) := by
  subst hp
  obtain ⟨hx, hby, -, -, -, -, -, -, -, -, locs, X, -⟩ := G
  exact o_step (fun _ hr => XS.istore X.here hx rfl (hb hby hd) rfl hl hr) k
theorem o_astore (G : OG l Z y bytes maxl ret n0 p e R s m args below meth c T h cells slots) {k0 : Nat} {v : Value} {l' : Array Slot} (hd : decode bytes pc = .ok (.astore k0, 2)) (hp : pc + 2 = pc') (hv : v.isRef = true) (hl : storeLocals Ls k0 v = some l') (k : OFin n0 p e below s Q ck sk T (mkF m pc' l' rest)) : OFin n0 p e below s Q ck sk T (mkF m pc Ls (v :: rest)) := by
  subst hp
  obtain ⟨hx, hby, -, -, -, -, -, -, -, -, locs, X, -⟩ := G
  exact o_step (fun _ hr => XS.astore X.here hx rfl (hb hby hd) rfl hv hl hr) k
theorem o_iconst (G : OG l Z y bytes maxl ret n0 p e R s m args below meth c T h cells slots) {i : Int} {v : Int32} (hd : decode bytes pc = .ok (.iconst i, 1)) (hp : pc + 1 = pc') (hv : Int32.ofInt i = v) (k : OFin n0 p e below s Q ck sk T (mkF m pc' Ls (.int v :: rest))) : OFin n0 p e below s Q ck sk T (mkF m pc Ls rest) := by
  subst hp
  subst hv
  obtain ⟨hx, hby, -, -, -, -, -, -, -, -, locs, X, -⟩ := G
  exact o_step (fun _ hr => XS.iconst X.here hx rfl (hb hby hd) hr) k
theorem o_dup (G : OG l Z y bytes maxl ret n0 p e R s m args below meth c T h cells slots) {v : Value} (hd : decode bytes pc = .ok (.dup, 1)) (hp : pc + 1 = pc') (hc : v.category = 1) (k : OFin n0 p e below s Q ck sk T (mkF m pc' Ls (v :: v :: rest))) : OFin n0 p e below s Q ck sk T (mkF m pc Ls (v :: rest)) := by
  subst hp
  obtain ⟨hx, hby, -, -, -, -, -, -, -, -, locs, X, -⟩ := G
  exact o_step (fun _ hr => XS.dup X.here hx rfl (hb hby hd) rfl hc hr) k
theorem o_goto (G : OG l Z y bytes maxl ret n0 p e R s m args below meth c T h cells slots) {o : Int} (hd : decode bytes pc = .ok (.goto o, 3)) (ho : 0 ≤ (pc : Int) + o) (hp : ((pc : Int) + o).toNat = pc') (k : OFin n0 p e below s Q ck sk T (mkF m pc' Ls rest)) : OFin n0 p e below s Q ck sk T (mkF m pc Ls rest) := by
  obtain ⟨hx, hby, -, -, -, -, -, -, -, -, locs, X, -⟩ := G
  exact o_step (fun _ hr => XS.goto X.here hx rfl (pc0 := pc) (pc' := pc') rfl (hb hby hd) ho hp hr) k
theorem o_if_gt (G : OG l Z y bytes maxl ret n0 p e R s m args below meth c T h cells slots) {o : Int} {pcT : Nat} {u : Int32} (hd : decode bytes pc = .ok (.ifCond .gt o, 3)) (ho : 0 ≤ (pc : Int) + o) (hpT : ((pc : Int) + o).toNat = pcT) (hp : pc + 3 = pc') (kT : (0 : Int32) < u → OFin n0 p e below s Q ck sk T (mkF m pcT Ls rest)) (kF : ¬ (0 : Int32) < u → OFin n0 p e below s Q ck sk T (mkF m pc' Ls rest)) : OFin n0 p e below s Q ck sk T (mkF m pc Ls (.int u :: rest)) := by
  subst hp
  obtain ⟨hx, hby, -, -, -, -, -, -, -, -, locs, X, -⟩ := G
  by_cases q : (0 : Int32) < u
  · exact o_step (fun _ hr => XS.ifYes X.here hx rfl (pc0 := pc) (pc' := pcT) rfl (hb hby hd) rfl ((if0 _ _).trans (tlt q).2.2.1) ho hpT hr) (kT q)
  · exact o_step (fun _ hr => XS.ifNo X.here hx rfl (hb hby hd) rfl ((if0 _ _).trans (flt q).2.2.1) hr) (kF q)
theorem o_if_eq (G : OG l Z y bytes maxl ret n0 p e R s m args below meth c T h cells slots) {o : Int} {pcT : Nat} {u : Int32} (hd : decode bytes pc = .ok (.ifCond .eq o, 3)) (ho : 0 ≤ (pc : Int) + o) (hpT : ((pc : Int) + o).toNat = pcT) (hp : pc + 3 = pc') (kT : u = (0 : Int32) → OFin n0 p e below s Q ck sk T (mkF m pcT Ls rest)) (kF : ¬ u = (0 : Int32) → OFin n0 p e below s Q ck sk T (mkF m pc' Ls rest)) : OFin n0 p e below s Q ck sk T (mkF m pc Ls (.int u :: rest)) := by
  subst hp
  obtain ⟨hx, hby, -, -, -, -, -, -, -, -, locs, X, -⟩ := G
  by_cases q : u = (0 : Int32)
  · exact o_step (fun _ hr => XS.ifYes X.here hx rfl (pc0 := pc) (pc' := pcT) rfl (hb hby hd) rfl ((if0 _ _).trans (teq q).1) ho hpT hr) (kT q)
  · exact o_step (fun _ hr => XS.ifNo X.here hx rfl (hb hby hd) rfl ((if0 _ _).trans (feq q).1) hr) (kF q)
theorem o_lcmp_gt (G : OG l Z y bytes maxl ret n0 p e R s m args below meth c T h cells slots) {o : Int} {pc1 pcT : Nat} {u w : Int64} (hd : decode bytes pc = .ok (.lcmp, 1)) (hp1 : pc + 1 = pc1) (hd2 : decode bytes pc1 = .ok (.ifCond .gt o, 3)) (ho : 0 ≤ (pc1 : Int) + o) (hpT : ((pc1 : Int) + o).toNat = pcT) (hp : pc1 + 3 = pc') (kT : w < u → OFin n0 p e below s Q ck sk T (mkF m pcT Ls rest)) (kF : ¬ w < u → OFin n0 p e below s Q ck sk T (mkF m pc' Ls rest)) : OFin n0 p e below s Q ck sk T (mkF m pc Ls (.long w :: .long u :: rest)) := by
  have G0 := G
  obtain ⟨hx, hby, -, -, -, -, -, -, -, -, locs, X, -⟩ := G
  subst hp1
  refine o_step (fun _ hr => XS.lcmp X.here hx rfl (hb hby hd) rfl hr) ?_
  show OFin n0 p e below s Q ck sk T (mkF m (pc + 1) Ls (.int (lcmpW u w) :: rest))
  refine o_if_gt G0 hd2 ho hpT hp (fun q => kT ?_) (fun q => kF ?_)
  · simpa only [lw_gt] using q
  · simpa only [lw_gt] using q
theorem o_ldc2 (G : OG l Z y bytes maxl ret n0 p e R s m args below meth c T h cells slots) {index : Nat} {v : Int64} (hd : decode bytes pc = .ok (.ldc2_w index, 3)) (hp : pc + 3 = pc') (w : (Jvm.Cond.constantLong y.cls index v).before a0 Z = true) (k : OFin n0 p e below s Q ck sk T (mkF m pc' Ls (.long v :: rest))) : OFin n0 p e below s Q ck sk T (mkF m pc Ls rest) := by
  subst hp
  obtain ⟨hx, hby, -, hown, -, -, -, hZ, -, -, locs, X, -⟩ := G
  exact o_step (fun _ hr => X.ldc2Long hx hown (mvT hZ w) (g := (mkF m pc Ls rest)) rfl (hb hby hd) _ hr) k
theorem o_nreturn {v : Int32} {t : FieldType} (G : OG l Z y bytes maxl (some t) n0 p e R s m args below meth c T h cells slots) (ht : t = .boolean ∨ t = .byte ∨ t = .char ∨ t = .short) (hd : decode bytes pc = .ok (.ireturn, 1)) (hq : Q (some (.int (nar t v))) h) (hc : cells ≤ ck) (hs : slots ≤ sk) : OFin n0 p e below s Q ck sk T (mkF m pc Ls (.int v :: rest)) := by
  obtain ⟨hx, hby, -, -, -, hret, hlk, -, eT, hz, locs, X, N⟩ := G
  obtain ⟨fs, hr, hrun, hended, hW, hsame⟩ := X.leave (v := some (.int (nar t v))) (fun h => by rw [hret] at h; cases h) hlk
  refine ⟨_, _, retN X hx hret ht (hb hby hd) hr, hrun, hended, _, _, rfl, ⟨N, ?_, ?_⟩, ⟨_, rfl⟩, hW, hsame.mono hc hs⟩
  · show n0 ≤ T.heap.size
    rw [eT]; exact hz
  · show Q _ T.heap
    rw [eT]; exact hq
theorem o_return (G : OG l Z y bytes maxl none n0 p e R s m args below meth c T h cells slots) (hd : decode bytes pc = .ok (.return_, 1)) (hq : Q none h) (hc : cells ≤ ck) (hs : slots ≤ sk) : OFin n0 p e below s Q ck sk T (mkF m pc Ls []) := by
  obtain ⟨hx, hby, -, -, -, hret, hlk, -, eT, hz, locs, X, N⟩ := G
  obtain ⟨fs, hr, hrun, hended, hW, hsame⟩ := X.leave (v := none) (fun _ => rfl) hlk
  refine ⟨_, _, X.returnOut hx hret (hb hby hd) hr, hrun, hended, _, _, rfl, ⟨N, ?_, ?_⟩, ⟨_, rfl⟩, hW, hsame.mono hc hs⟩
  · show n0 ≤ T.heap.size
    rw [eT]; exact hz
  · show Q _ T.heap
    rw [eT]; exact hq
theorem o_callI (G : OG l Z y bytes maxl ret n0 p e R s m args below meth c T h cells slots) {z : MethodName} {bz : ByteArray} {mz : Nat} {rz : Option FieldType} {rm : Room} {Q' : Option Value → Heap → Prop} {index W : Nat} {argsL st : List Value} {a : Addr} (hz1 : z.name = "<init>") (w1 : (Jvm.Cond.methodLink y.cls index z).before a0 Z = true) (w2 : (Jvm.Cond.instanceMethod z).before a0 Z = true) (hrz : rz = none) (hd : decode bytes pc = .ok (.invokespecial index, 3))
    (hy : z.cls ≠ "java/lang/invoke/MethodHandle" ∧ z.cls ≠ "java/lang/invoke/VarHandle") (w3 : (Jvm.Cond.initialized z.cls).before a0 Z = true) (w4 : (Jvm.Cond.code z bz mz rz).before a0 Z = true)
    (hM : OMet l Z z bz mz rz rm (.ref a :: argsL).toArray h n0 rm.cells rm.slots Q') (hfr : rm.frames + 1 ≤ R.frames) (hlo : W + (mz + 11) + rm.locals ≤ R.locals) (hsz : Ls.size = maxl)
    (hlen : ∀ sig, parseMethodDescriptor z.desc = some sig → argsL.length = sig.parameters.length) (hst : st = argsL.reverse ++ .ref a :: rest) (hW : (rest.map fun v => v.category).sum ≤ W) (hp : pc + 3 = pc') (hc : cells + rm.cells ≤ R.cells) (hs : slots + rm.slots ≤ R.slots)
    (k : ∀ (v : Option Value) (T' : State) (h' : Heap), OG l Z y bytes maxl ret n0 p e R s m args below meth c T' h' (cells + rm.cells) (slots + rm.slots) → Q' v h' → OFin n0 p e below s Q ck sk T' (mkF m pc' Ls (v.toList ++ rest))) : OFin n0 p e below s Q ck sk T (mkF m pc Ls st) := by
  subst hp hst
  obtain ⟨hx, hby, hml, hown, hnm, hret, hlk, hZ, eT, hz, locs, X, N⟩ := G
  subst hrz
  obtain ⟨v, vm1, ⟨T', L', k', n'⟩, -, X', ⟨L, ⟨N', z', hQ⟩, l1, y1, z1⟩, st0⟩ := X.specialBack hx (y := z) hz1 hown (mvT hZ w1) (mvT hZ w2) (mvT hZ w4) hy (backOf (W := W) (Q := fun v h L => Fr n0 L ∧ n0 ≤ h.size ∧ Q' v h) (hM []) hZ w4 w3 hfr hlo) (g := (mkF m pc Ls (argsL.reverse ++ .ref a :: rest))) rfl (by show Ls.size = _; rw [hml]; exact hsz) (Steps.refl _) (a := a) (argsL := argsL) (rest := rest) hlen rfl (by show 2 * 0 + _ ≤ _; omega) (hb hby hd) (fun _ _ => ⟨rfl, eT, hc, hs⟩)
  dsimp only [Pt.U, Pt.locs, Pt.cells, Pt.slots] at X' l1 y1 z1 st0 hQ N' z'
  subst l1 y1 z1
  exact o_step (fun _ hr => st0.trans hr) (k v T' T'.heap ⟨hx, hby, hml, hown, hnm, hret, hlk, hZ, rfl, z', _, X', Fr.app N N'⟩ hQ)
theorem o_callIN (G : OG l Z y bytes maxl ret n0 p e R s m args below meth c T h cells slots) {z : MethodName} {bz : ByteArray} {mz : Nat} {rz : Option FieldType} {rm : Room} {Q' : Option Value → Heap → Prop} {index W : Nat} {argsL st : List Value} {a : Addr} {host : String} (hz1 : z.name = "<init>") (w1 : (Jvm.Cond.methodLinkNest y.cls index z host).before a0 Z = true) (w2 : (Jvm.Cond.instanceMethod z).before a0 Z = true) (hrz : rz = none) (hd : decode bytes pc = .ok (.invokespecial index, 3))
    (hy : z.cls ≠ "java/lang/invoke/MethodHandle" ∧ z.cls ≠ "java/lang/invoke/VarHandle") (w3 : (Jvm.Cond.initialized z.cls).before a0 Z = true) (w4 : (Jvm.Cond.code z bz mz rz).before a0 Z = true)
    (hM : OMet l Z z bz mz rz rm (.ref a :: argsL).toArray h n0 rm.cells rm.slots Q') (hfr : rm.frames + 1 ≤ R.frames) (hlo : W + (mz + 11) + rm.locals ≤ R.locals) (hsz : Ls.size = maxl)
    (hlen : ∀ sig, parseMethodDescriptor z.desc = some sig → argsL.length = sig.parameters.length) (hst : st = argsL.reverse ++ .ref a :: rest) (hW : (rest.map fun v => v.category).sum ≤ W) (hp : pc + 3 = pc') (hc : cells + rm.cells ≤ R.cells) (hs : slots + rm.slots ≤ R.slots)
    (k : ∀ (v : Option Value) (T' : State) (h' : Heap), OG l Z y bytes maxl ret n0 p e R s m args below meth c T' h' (cells + rm.cells) (slots + rm.slots) → Q' v h' → OFin n0 p e below s Q ck sk T' (mkF m pc' Ls (v.toList ++ rest))) : OFin n0 p e below s Q ck sk T (mkF m pc Ls st) := by
  subst hp hst
  obtain ⟨hx, hby, hml, hown, hnm, hret, hlk, hZ, eT, hz, locs, X, N⟩ := G
  subst hrz
  have w1' : (Jvm.Cond.methodLinkNest y.cls index z host).before args s = true := (Cond.methodLinkNest_wide hZ w1 :)
  obtain ⟨v, vm1, ⟨T', L', k', n'⟩, -, X', ⟨L, ⟨N', z', hQ⟩, l1, y1, z1⟩, st0⟩ := X.specialBackNest hx (y := z) hz1 hown w1' (mvT hZ w2) (mvT hZ w4) hy (backOf (W := W) (Q := fun v h L => Fr n0 L ∧ n0 ≤ h.size ∧ Q' v h) (hM []) hZ w4 w3 hfr hlo) (g := (mkF m pc Ls (argsL.reverse ++ .ref a :: rest))) rfl (by show Ls.size = _; rw [hml]; exact hsz) (Steps.refl _) (a := a) (argsL := argsL) (rest := rest) hlen rfl (by show 2 * 0 + _ ≤ _; omega) (hb hby hd) (fun _ _ => ⟨rfl, eT, hc, hs⟩)
  dsimp only [Pt.U, Pt.locs, Pt.cells, Pt.slots] at X' l1 y1 z1 st0 hQ N' z'
  subst l1 y1 z1
  exact o_step (fun _ hr => st0.trans hr) (k v T' T'.heap ⟨hx, hby, hml, hown, hnm, hret, hlk, hZ, rfl, z', _, X', Fr.app N N'⟩ hQ)
theorem o_callV (G : OG l Z y bytes maxl ret n0 p e R s m args below meth c T h cells slots) {z : MethodName} {bz : ByteArray} {mz : Nat} {rz : Option FieldType} {rm : Room} {Q' : Option Value → Heap → Prop} {index W : Nat} {argsL st : List Value} {a : Addr} {C : String} (E : Exa Z h a C) (w1 : (Jvm.Cond.methodLink y.cls index z).before a0 Z = true) (w2 : (Jvm.Cond.instanceMethod z).before a0 Z = true) (w5 : (Jvm.Cond.declares z).before a0 Z = true) (w6 : (Jvm.Cond.selects C z z).before a0 Z = true) (hd : decode bytes pc = .ok (.invokevirtual index, 3))
    (hy : z.cls ≠ "java/lang/invoke/MethodHandle" ∧ z.cls ≠ "java/lang/invoke/VarHandle") (w3 : (Jvm.Cond.initialized z.cls).before a0 Z = true) (w4 : (Jvm.Cond.code z bz mz rz).before a0 Z = true)
    (hM : OMet l Z z bz mz rz rm (.ref a :: argsL).toArray h n0 rm.cells rm.slots Q') (hfr : rm.frames + 1 ≤ R.frames) (hlo : W + (mz + 11) + rm.locals ≤ R.locals) (hsz : Ls.size = maxl)
    (hlen : ∀ sig, parseMethodDescriptor z.desc = some sig → argsL.length = sig.parameters.length) (hst : st = argsL.reverse ++ .ref a :: rest) (hW : (rest.map fun v => v.category).sum ≤ W) (hp : pc + 3 = pc') (hc : cells + rm.cells ≤ R.cells) (hs : slots + rm.slots ≤ R.slots)
    (k : ∀ (v : Option Value) (T' : State) (h' : Heap), OG l Z y bytes maxl ret n0 p e R s m args below meth c T' h' (cells + rm.cells) (slots + rm.slots) → Q' v h' → OFin n0 p e below s Q ck sk T' (mkF m pc' Ls (v.toList ++ rest))) : OFin n0 p e below s Q ck sk T (mkF m pc Ls st) := by
  subst hp hst
  obtain ⟨hx, hby, hml, hown, hnm, hret, hlk, hZ, eT, hz, locs, X, N⟩ := G
  obtain ⟨cq, kq, qa, qb, qc⟩ := isOf hZ eT E
  obtain ⟨v, vm1, ⟨T', L', k', n'⟩, -, X', ⟨L, ⟨N', z', hQ⟩, l1, y1, z1⟩, st0⟩ := X.virtualBack hx (y := z) (z := z) hown (mvT hZ w1) (mvT hZ w5) (notFace_of_selects (args := #[]) (mvT hZ w6)) (mvT hZ w6) (mvT hZ w2) hy (backOf (W := W) (Q := fun v h L => Fr n0 L ∧ n0 ≤ h.size ∧ Q' v h) (hM []) hZ w4 w3 hfr hlo) qa qc (g := (mkF m pc Ls (argsL.reverse ++ .ref a :: rest))) rfl (by show Ls.size = _; rw [hml]; exact hsz) (Steps.refl _) (argsL := argsL) (rest := rest) hlen rfl (by show 2 * 0 + _ ≤ _; omega) (hb hby hd) (fun _ _ => ⟨rfl, eT, hc, hs⟩)
  dsimp only [Pt.U, Pt.locs, Pt.cells, Pt.slots] at X' l1 y1 z1 st0 hQ N' z'
  subst l1 y1 z1
  exact o_step (fun _ hr => st0.trans hr) (k v T' T'.heap ⟨hx, hby, hml, hown, hnm, hret, hlk, hZ, rfl, z', _, X', Fr.app N N'⟩ hQ)
theorem o_initO (G : OG l Z y bytes maxl ret n0 p e R s m args below meth c T h cells slots) {idx W : Nat} {a : Addr} (w1 : (Jvm.Cond.methodLink y.cls idx Lib.objectInit).before a0 Z = true) (w2 : (Jvm.Cond.instanceMethod Lib.objectInit).before a0 Z = true) (w3 : (Jvm.Cond.code Lib.objectInit ⟨#[0xb1]⟩ 1 none).before a0 Z = true) (hd : decode bytes pc = .ok (.invokespecial idx, 3)) (hp : pc + 3 = pc') (hsz : Ls.size = maxl) (hf : 1 ≤ R.frames) (hW : (rest.map fun v => v.category).sum ≤ W) (hl : W + 12 ≤ R.locals)
    (k : ∀ T', OG l Z y bytes maxl ret n0 p e R s m args below meth c T' h cells slots → OFin n0 p e below s Q ck sk T' (mkF m pc' Ls rest)) : OFin n0 p e below s Q ck sk T (mkF m pc Ls (.ref a :: rest)) := by
  subst hp
  obtain ⟨hx, hby, hml, hown, hnm, hret, hlk, hZ, eT, hz, locs, X, N⟩ := G
  obtain ⟨T', X', e', st⟩ := initO X hx hZ hown w1 w2 w3 eT (g := (mkF m pc Ls (.ref a :: rest))) rfl (by show Ls.size = _; rw [hml]; exact hsz) rfl (hb hby hd) hf (W := W) (by show 2 * 0 + _ ≤ _; omega) hl
  exact o_step st (k T' ⟨hx, hby, hml, hown, hnm, hret, hlk, hZ, e', hz, _, X', N⟩)
theorem o_new (G : OG l Z y bytes maxl ret n0 p e R s m args below meth c T h cells slots) {C : String} {index n : Nat} (w : (Jvm.Cond.classLink y.cls index C).before a0 Z = true) (wi : (Jvm.Cond.instantiable C n).before a0 Z = true) (wz : (Jvm.Cond.initialized C).before a0 Z = true) (hd : decode bytes pc = .ok (.new index, 3)) (hp : pc + 3 = pc') (hc : cells + 1 ≤ R.cells) (hl : slots + n ≤ R.slots)
    (k : ∀ (T' : State) (h' : Heap) (a : Addr), OG l Z y bytes maxl ret n0 p e R s m args below meth c T' h' (cells + 1) (slots + n) → a = h.size → n0 ≤ a → Ext h h' → Exa Z h' a C → (∀ {O nm d : String} {ty : FieldType}, Laid Z a0 C O nm d → parseFieldDescriptor d = some ty → Fld Z h' a O nm d (defaultValue ty)) → OFin n0 p e below s Q ck sk T' (mkF m pc' Ls (.ref a :: rest))) : OFin n0 p e below s Q ck sk T (mkF m pc Ls rest) := by
  subst hp
  obtain ⟨hx, hby, hml, hown, hnm, hret, hlk, hZ, eT, hz, locs, X, N⟩ := G
  obtain ⟨T', h', X', e', E', A', D', -, st⟩ := newO X hx hZ hown w wi wz eT (g := (mkF m pc Ls rest)) rfl (hb hby hd) hc hl
  exact o_step st (k T' h' h.size ⟨hx, hby, hml, hown, hnm, hret, hlk, hZ, e', Nat.le_trans hz E'.1, _, X', N⟩ rfl hz E' A' D')
theorem o_getF (G : OG l Z y bytes maxl ret n0 p e R s m args below meth c T h cells slots) {R0 O nm d host : String} {index : Nat} {a : Addr} {v : Value} (w : (Jvm.Cond.fieldLink y.cls index R0 nm d).before a0 Z = true ∨ (Jvm.Cond.fieldLinkNest y.cls index R0 nm d host).before a0 Z = true) (via : Via Z R0 O nm d) (F : Fld Z h a O nm d v) (hd : decode bytes pc = .ok (.getfield index, 3)) (hp : pc + 3 = pc')
    (k : ∀ T', OG l Z y bytes maxl ret n0 p e R s m args below meth c T' h cells slots → OFin n0 p e below s Q ck sk T' (mkF m pc' Ls (v :: rest))) : OFin n0 p e below s Q ck sk T (mkF m pc Ls (.ref a :: rest)) := by
  subst hp
  obtain ⟨hx, hby, hml, hown, hnm, hret, hlk, hZ, eT, hz, locs, X, N⟩ := G
  obtain ⟨T', X', e', st⟩ := getF X hx hZ hown w via eT F (g := (mkF m pc Ls (.ref a :: rest))) rfl rfl (hb hby hd)
  exact o_step st (k T' ⟨hx, hby, hml, hown, hnm, hret, hlk, hZ, e', hz, _, X', N⟩)
theorem o_putF (G : OG l Z y bytes maxl ret n0 p e R s m args below meth c T h cells slots) {R0 O nm d host C : String} {index kk : Nat} {ty : FieldType} {a : Addr} {v old : Value} (w : (Jvm.Cond.fieldLink y.cls index R0 nm d).before a0 Z = true ∨ (Jvm.Cond.fieldLinkNest y.cls index R0 nm d host).before a0 Z = true) (via : Via Z R0 O nm d) (F : Fld Z h a O nm d old) (E : Exa Z h a C) (L : (Jvm.Cond.lays C O nm d).before a0 Z = true ∨ ((Jvm.Cond.laysFinal C O nm d).before a0 Z = true ∧ y.cls = O ∧ y.name = "<init>")) (wi : (Jvm.Cond.instantiable C kk).before a0 Z = true)
    (hty : parseFieldDescriptor d = some ty) (hn : narrow ty v = v) (hf : fits ty v = true) (hg : n0 ≤ a) (hd : decode bytes pc = .ok (.putfield index, 3)) (hp : pc + 3 = pc')
    (k : ∀ (T' : State) (h' : Heap), OG l Z y bytes maxl ret n0 p e R s m args below meth c T' h' cells slots → Wr h h' a (Jvm.RoadKit.slotOf Z O nm d) v → OFin n0 p e below s Q ck sk T' (mkF m pc' Ls rest)) : OFin n0 p e below s Q ck sk T (mkF m pc Ls (v :: .ref a :: rest)) := by
  subst hp
  obtain ⟨hx, hby, hml, hown, hnm, hret, hlk, hZ, eT, hz, locs, X, N⟩ := G
  obtain ⟨T', h', X', e', W', st⟩ := putF X hx hZ hown w via eT F E (L.imp id (fun q => ⟨q.1, q.2.1, hnm.trans q.2.2⟩)) wi hty hn hf (g := (mkF m pc Ls (v :: .ref a :: rest))) rfl rfl (hb hby hd)
  exact o_step st (k T' h' ⟨hx, hby, hml, hown, hnm, hret, hlk, hZ, e', by rw [W'.size]; exact hz, _, X', Fr.snoc X' N hg⟩ W')
theorem o_getS (G : OG l Z y bytes maxl ret n0 p e R s m args below meth c T h cells slots) {R0 O nm d host : String} {index : Nat} {v : Value} (w : (Jvm.Cond.fieldLink y.cls index R0 nm d).before a0 Z = true ∨ (Jvm.Cond.fieldLinkNest y.cls index R0 nm d host).before a0 Z = true) (via : Via Z R0 O nm d) (F : Sta Z h O nm d v) (hd : decode bytes pc = .ok (.getstatic index, 3)) (hp : pc + 3 = pc')
    (k : ∀ T', OG l Z y bytes maxl ret n0 p e R s m args below meth c T' h cells slots → OFin n0 p e below s Q ck sk T' (mkF m pc' Ls (v :: rest))) : OFin n0 p e below s Q ck sk T (mkF m pc Ls rest) := by
  subst hp
  obtain ⟨hx, hby, hml, hown, hnm, hret, hlk, hZ, eT, hz, locs, X, N⟩ := G
  obtain ⟨T', X', e', st⟩ := getS2 X hx hZ hown w via eT F (g := (mkF m pc Ls rest)) rfl (hb hby hd)
  exact o_step st (k T' ⟨hx, hby, hml, hown, hnm, hret, hlk, hZ, e', hz, _, X', N⟩)
/-- an array of n places at a; place j holds f j -/
def OArr (Z : State) (h : Heap) (a : Addr) (ty : FieldType) (n : Nat) (f : Nat → Value) : Prop := ∃ cl : Cell, Arr Z h a cl ty ∧ cl.slots.size = n ∧ ∀ j, j < n → cl.slots[j]? = some (f j)
def o_set (f : Nat → Value) (i : Nat) (v : Value) : Nat → Value := fun j => if j = i then v else f j
theorem OArr.lt {a : Addr} {ty : FieldType} {n : Nat} {f : Nat → Value} (A : OArr Z h a ty n f) : a < h.size := by obtain ⟨cl, A, -⟩ := A; exact A.lt
theorem OArr.ext {h' : Heap} {a : Addr} {ty : FieldType} {n : Nat} {f : Nat → Value} (A : OArr Z h a ty n f) (E : Ext h h') : OArr Z h' a ty n f := by obtain ⟨cl, A, r⟩ := A; exact ⟨cl, A.ext E, r⟩
theorem OArr.other {h' : Heap} {a b : Addr} {sl : Nat} {v : Value} {ty : FieldType} {n : Nat} {f : Nat → Value} (A : OArr Z h b ty n f) (W : Wr h h' a sl v) (q : b ≠ a) : OArr Z h' b ty n f := by obtain ⟨cl, A, r⟩ := A; exact ⟨cl, A.other W q, r⟩
theorem OArr.keep {h' : Heap} {a : Addr} {ws : List Addr} {ty : FieldType} {n : Nat} {f : Nat → Value} (A : OArr Z h a ty n f) (K : Keep h h' ws) (q : a ∉ ws) : OArr Z h' a ty n f := by obtain ⟨cl, A, r⟩ := A; exact ⟨cl, ⟨K.2.1 a cl A.1 q, A.2⟩, r⟩
theorem OArr.same {h' : Heap} {a : Addr} {i : Nat} {v : Value} {ty : FieldType} {n : Nat} {f : Nat → Value} (A : OArr Z h a ty n f) (W : Wr h h' a i v) : OArr Z h' a ty n (o_set f i v) := by
  obtain ⟨cl, A, S, H⟩ := A
  have hi : i < n := by
    obtain ⟨cell, h1, -, h3, -⟩ := W
    cases h1.symm.trans A.1
    rw [← S]; exact h3
  refine ⟨_, A.same W, by rw [sz_set]; exact S, fun j hj => ?_⟩
  by_cases q : j = i
  · subst q; simp [Cell.setSlot, o_set, S, hi]
  · have := H j hj
    simp only [Cell.setSlot, o_set, q, if_false]
    rw [Array.getElem?_setIfInBounds_ne (Ne.symm q)]; exact this
/-- a contract that leaves the heap as it was and returns one value -/
abbrev OVal (h0 : Heap) (r : Value) : Option Value → Heap → Prop := fun v h => v = some r ∧ h0 = h
theorem o_callVP (G : OG l Z y bytes maxl ret n0 p e R s m args below meth c T h cells slots) {z : MethodName} {bz : ByteArray} {mz : Nat} {rz : Option FieldType} {rm : Room} {r : Value} {index W : Nat} {argsL st : List Value} {a : Addr} {C : String} (E : Exa Z h a C) (w1 : (Jvm.Cond.methodLink y.cls index z).before a0 Z = true) (w2 : (Jvm.Cond.instanceMethod z).before a0 Z = true) (w5 : (Jvm.Cond.declares z).before a0 Z = true) (w6 : (Jvm.Cond.selects C z z).before a0 Z = true) (hd : decode bytes pc = .ok (.invokevirtual index, 3))
    (hy : z.cls ≠ "java/lang/invoke/MethodHandle" ∧ z.cls ≠ "java/lang/invoke/VarHandle") (w3 : (Jvm.Cond.initialized z.cls).before a0 Z = true) (w4 : (Jvm.Cond.code z bz mz rz).before a0 Z = true)
    (hM : OMet l Z z bz mz rz rm (.ref a :: argsL).toArray h n0 rm.cells rm.slots (OVal h r)) (hfr : rm.frames + 1 ≤ R.frames) (hlo : W + (mz + 11) + rm.locals ≤ R.locals) (hsz : Ls.size = maxl)
    (hlen : ∀ sig, parseMethodDescriptor z.desc = some sig → argsL.length = sig.parameters.length) (hst : st = argsL.reverse ++ .ref a :: rest) (hW : (rest.map fun v => v.category).sum ≤ W) (hp : pc + 3 = pc') (hc : cells + rm.cells ≤ R.cells) (hs : slots + rm.slots ≤ R.slots)
    (k : ∀ (T' : State), OG l Z y bytes maxl ret n0 p e R s m args below meth c T' h (cells + rm.cells) (slots + rm.slots) → OFin n0 p e below s Q ck sk T' (mkF m pc' Ls (r :: rest))) : OFin n0 p e below s Q ck sk T (mkF m pc Ls st) := by
  refine o_callV G E w1 w2 w5 w6 hd hy w3 w4 hM hfr hlo hsz hlen hst hW hp hc hs ?_
  rintro v T' h' G' ⟨hv, hh⟩
  subst hv hh
  exact k T' G'
end OwnKit
theorem pd_0 : parseMethodDescriptor "()V" = some ⟨[], none⟩ := by decide +kernel
theorem pd_1 : parseMethodDescriptor "(J)Z" = some ⟨[.long], some .boolean⟩ := by decide +kernel
theorem d6_0 : decode jdk_22_method_1_code 0 = .ok (.aload_n 0, 1) := by decide +kernel
theorem d6_1 : decode jdk_22_method_1_code 1 = .ok (.invokespecial 1, 3) := by decide +kernel
theorem d6_4 : decode jdk_22_method_1_code 4 = .ok (.return_, 1) := by decide +kernel
theorem pn_6 : plainName "java/util/AbstractCollection" = true := by first | (simp [plainName, overriddenIn]; done) | decide +kernel
theorem ef_6 (m : MethodId) (r0 : Addr) : entryFrame m #[(.ref r0)] 1 = mkF m 0 #[.val (.ref r0)] [] := by first | (simp [entryFrame, mkF, argsToLocals, Value.category]; done) | rfl
set_option maxRecDepth 65536 in
set_option maxHeartbeats 40000000 in
theorem rm6 {l : Launch} {Z : State} {a0 : Array Value} (hw : ∀ d ∈ tables_1, d.before a0 Z = true) (r0 : Addr) (h0 : Heap) (n0 : Nat) (hz : n0 ≤ h0.size) :
    OMet l Z (⟨"java/util/AbstractCollection", "<init>", "()V"⟩ : MethodName) jdk_22_method_1_code 1 none ({ frames := 1, cells := 0, slots := 0, locals := 12 } : Room) #[(.ref r0)] h0 n0 ({ frames := 1, cells := 0, slots := 0, locals := 12 } : Room).cells ({ frames := 1, cells := 0, slots := 0, locals := 12 } : Room).slots (fun v h => v = none ∧ h0 = h) := by
  refine o_body (plainFor_of_name pn_6) hz (fun m => ef_6 m r0) ?_
  intro p e s m below meth c s₁ G0
  refine o_aloadN G0 d6_0 (pc' := 1) rfl rfl rfl ?_
  refine o_initO G0 (hw _ (List.mem_of_getElem? (i := 34) rfl)) (hw _ (List.mem_of_getElem? (i := 7) rfl)) (hw _ (List.mem_of_getElem? (i := 8) rfl)) d6_1 (pc' := 4) rfl rfl (by decide) (W := 0) (Nat.le_of_eq rfl) (by decide) ?_
  intro T1 G1
  exact o_return G1 d6_4 ⟨rfl, rfl⟩ (by decide) (by decide)
theorem d5_0 : decode jdk_39_method_1_code 0 = .ok (.aload_n 0, 1) := by decide +kernel
theorem d5_1 : decode jdk_39_method_1_code 1 = .ok (.invokespecial 1, 3) := by decide +kernel
theorem d5_4 : decode jdk_39_method_1_code 4 = .ok (.aload_n 0, 1) := by decide +kernel
theorem d5_5 : decode jdk_39_method_1_code 5 = .ok (.iconst 0, 1) := by decide +kernel
theorem d5_6 : decode jdk_39_method_1_code 6 = .ok (.putfield 7, 3) := by decide +kernel
theorem d5_9 : decode jdk_39_method_1_code 9 = .ok (.return_, 1) := by decide +kernel
theorem pn_5 : plainName "java/util/AbstractList" = true := by first | (simp [plainName, overriddenIn]; done) | decide +kernel
theorem ef_5 (m : MethodId) (r0 : Addr) : entryFrame m #[(.ref r0)] 1 = mkF m 0 #[.val (.ref r0)] [] := by first | (simp [entryFrame, mkF, argsToLocals, Value.category]; done) | rfl
set_option maxRecDepth 65536 in
set_option maxHeartbeats 40000000 in
theorem rm5 {l : Launch} {Z : State} {a0 : Array Value} (hw : ∀ d ∈ tables_1, d.before a0 Z = true) (r0 : Addr) (h0 : Heap) (n0 : Nat) (hz : n0 ≤ h0.size) (g_r0 : n0 ≤ r0) (E_r0 : Exa Z h0 r0 "java/util/ArrayList") (F_m : Fld Z h0 r0 "java/util/AbstractList" "modCount" "I" (.int (0 : Int32))) (F_e : Fld Z h0 r0 "java/util/ArrayList" "elementData" "[Ljava/lang/Object;" .null) (dv : Value) (S : Sta Z h0 "java/util/ArrayList" "DEFAULTCAPACITY_EMPTY_ELEMENTDATA" "[Ljava/lang/Object;" dv) :
    OMet l Z (⟨"java/util/AbstractList", "<init>", "()V"⟩ : MethodName) jdk_39_method_1_code 1 none ({ frames := 2, cells := 0, slots := 0, locals := 24 } : Room) #[(.ref r0)] h0 n0 ({ frames := 2, cells := 0, slots := 0, locals := 24 } : Room).cells ({ frames := 2, cells := 0, slots := 0, locals := 24 } : Room).slots (fun v h => v = none ∧ Keep h0 h [r0] ∧ Fld Z h r0 "java/util/ArrayList" "elementData" "[Ljava/lang/Object;" .null ∧ Sta Z h "java/util/ArrayList" "DEFAULTCAPACITY_EMPTY_ELEMENTDATA" "[Ljava/lang/Object;" dv) := by
  refine o_body (plainFor_of_name pn_5) hz (fun m => ef_5 m r0) ?_
  intro p e s m below meth c s₁ G0
  have K : Keep h0 h0 [r0] := Keep.refl _ _
  refine o_aloadN G0 d5_0 (pc' := 1) rfl rfl rfl ?_
  refine o_callI G0 (z := (⟨"java/util/AbstractCollection", "<init>", "()V"⟩ : MethodName)) (argsL := []) (rest := []) (W := 0) (a := r0) rfl (hw _ (List.mem_of_getElem? (i := 28) rfl)) (hw _ (List.mem_of_getElem? (i := 29) rfl)) rfl d5_1 (by decide) (hw _ (List.mem_of_getElem? (i := 32) rfl)) (hw _ (List.mem_of_getElem? (i := 33) rfl)) (rm6 hw r0 h0 n0 G0.sz) (by decide) (by decide) rfl (lenOf pd_0 rfl) rfl (Nat.le_of_eq rfl) (pc' := 4) rfl (by decide) (by decide) ?_
  rintro _ T1 h1 G1 ⟨rfl, hh⟩
  subst hh
  show OFin n0 p e below s (fun v h => v = none ∧ Keep h0 h [r0] ∧ Fld Z h r0 "java/util/ArrayList" "elementData" "[Ljava/lang/Object;" .null ∧ Sta Z h "java/util/ArrayList" "DEFAULTCAPACITY_EMPTY_ELEMENTDATA" "[Ljava/lang/Object;" dv) 0 0 T1 (mkF m 4 #[.val (.ref r0)] [])
  refine o_aloadN G1 d5_4 (pc' := 5) rfl rfl rfl ?_
  refine o_iconst G1 d5_5 (pc' := 6) rfl (v := (0 : Int32)) rfl ?_
  refine o_putF G1 (host := "") (Or.inl (hw _ (List.mem_of_getElem? (i := 35) rfl))) Via.refl F_m E_r0 (Or.inl (hw _ (List.mem_of_getElem? (i := 36) rfl))) (hw _ (List.mem_of_getElem? (i := 17) rfl)) (ty := .int) (by decide) rfl rfl g_r0 d5_6 (pc' := 9) rfl ?_
  intro T2 h2 G2 W2
  replace E_r0 := E_r0.wr W2
  replace F_m := F_m.same W2
  replace F_e := F_e.other W2 (Or.inr (slot_ne (Or.inl (hw _ (List.mem_of_getElem? (i := 39) rfl))) (Or.inl (hw _ (List.mem_of_getElem? (i := 36) rfl))) (by decide) (t := (.array (.object "java/lang/Object"))) (t' := .int) (by decide) (by decide)))
  replace S := S.wr W2
  replace K := K.wr W2 (Or.inl (List.mem_of_getElem? (i := 0) rfl))
  exact o_return G2 d5_9 ⟨rfl, K, F_e, S⟩ (by decide) (by decide)
theorem d4_0 : decode jdk_38_method_2_code 0 = .ok (.aload_n 0, 1) := by decide +kernel
theorem d4_1 : decode jdk_38_method_2_code 1 = .ok (.invokespecial 1, 3) := by decide +kernel
theorem d4_4 : decode jdk_38_method_2_code 4 = .ok (.aload_n 0, 1) := by decide +kernel
theorem d4_5 : decode jdk_38_method_2_code 5 = .ok (.getstatic 39, 3) := by decide +kernel
theorem d4_8 : decode jdk_38_method_2_code 8 = .ok (.putfield 9, 3) := by decide +kernel
theorem d4_11 : decode jdk_38_method_2_code 11 = .ok (.return_, 1) := by decide +kernel
theorem pn_4 : plainName "java/util/ArrayList" = true := by first | (simp [plainName, overriddenIn]; done) | decide +kernel
theorem ef_4 (m : MethodId) (r0 : Addr) : entryFrame m #[(.ref r0)] 1 = mkF m 0 #[.val (.ref r0)] [] := by first | (simp [entryFrame, mkF, argsToLocals, Value.category]; done) | rfl
set_option maxRecDepth 65536 in
set_option maxHeartbeats 40000000 in
theorem rm4 {l : Launch} {Z : State} {a0 : Array Value} (hw : ∀ d ∈ tables_1, d.before a0 Z = true) (r0 : Addr) (h0 : Heap) (n0 : Nat) (hz : n0 ≤ h0.size) (g_r0 : n0 ≤ r0) (E_r0 : Exa Z h0 r0 "java/util/ArrayList") (F_m : Fld Z h0 r0 "java/util/AbstractList" "modCount" "I" (.int (0 : Int32))) (F_e : Fld Z h0 r0 "java/util/ArrayList" "elementData" "[Ljava/lang/Object;" .null) (dv : Value) (S : Sta Z h0 "java/util/ArrayList" "DEFAULTCAPACITY_EMPTY_ELEMENTDATA" "[Ljava/lang/Object;" dv) (hfit : fits (.array (.object "java/lang/Object")) dv = true) :
    OMet l Z (⟨"java/util/ArrayList", "<init>", "()V"⟩ : MethodName) jdk_38_method_2_code 1 none ({ frames := 3, cells := 0, slots := 0, locals := 36 } : Room) #[(.ref r0)] h0 n0 ({ frames := 3, cells := 0, slots := 0, locals := 36 } : Room).cells ({ frames := 3, cells := 0, slots := 0, locals := 36 } : Room).slots (fun v h => v = none ∧ Keep h0 h [r0]) := by
  refine o_body (plainFor_of_name pn_4) hz (fun m => ef_4 m r0) ?_
  intro p e s m below meth c s₁ G0
  have K : Keep h0 h0 [r0] := Keep.refl _ _
  refine o_aloadN G0 d4_0 (pc' := 1) rfl rfl rfl ?_
  refine o_callI G0 (z := (⟨"java/util/AbstractList", "<init>", "()V"⟩ : MethodName)) (argsL := []) (rest := []) (W := 0) (a := r0) rfl (hw _ (List.mem_of_getElem? (i := 22) rfl)) (hw _ (List.mem_of_getElem? (i := 23) rfl)) rfl d4_1 (by decide) (hw _ (List.mem_of_getElem? (i := 26) rfl)) (hw _ (List.mem_of_getElem? (i := 27) rfl)) (rm5 hw r0 h0 n0 G0.sz g_r0 E_r0 F_m F_e dv S) (by decide) (by decide) rfl (lenOf pd_0 rfl) rfl (Nat.le_of_eq rfl) (pc' := 4) rfl (by decide) (by decide) ?_
  rintro _ T1 h1 G1 ⟨rfl, K1, Fe1, S1⟩
  replace E_r0 := E_r0.keep K1
  replace K := K.trans K1 (allS (Or.inl (List.mem_of_getElem? (i := 0) rfl)) all0)
  show OFin n0 p e below s (fun v h => v = none ∧ Keep h0 h [r0]) 0 0 T1 (mkF m 4 #[.val (.ref r0)] [])
  refine o_aloadN G1 d4_4 (pc' := 5) rfl rfl rfl ?_
  refine o_getS G1 (host := "") (Or.inl (hw _ (List.mem_of_getElem? (i := 37) rfl))) Via.refl S1 d4_5 (pc' := 8) rfl ?_
  intro T2 G2
  refine o_putF G2 (host := "") (Or.inl (hw _ (List.mem_of_getElem? (i := 38) rfl))) Via.refl Fe1 E_r0 (Or.inl (hw _ (List.mem_of_getElem? (i := 39) rfl))) (hw _ (List.mem_of_getElem? (i := 17) rfl)) (ty := (.array (.object "java/lang/Object"))) (by decide) rfl hfit g_r0 d4_8 (pc' := 11) rfl ?_
  intro T3 h3 G3 W3
  replace E_r0 := E_r0.wr W3
  replace K := K.wr W3 (Or.inl (List.mem_of_getElem? (i := 0) rfl))
  replace Fe1 := Fe1.same W3
  replace S1 := S1.wr W3
  exact o_return G3 d4_11 ⟨rfl, K⟩ (by decide) (by decide)
theorem d3_0 : decode prog_31_method_1_code 0 = .ok (.aload_n 0, 1) := by decide +kernel
theorem d3_1 : decode prog_31_method_1_code 1 = .ok (.invokespecial 1, 3) := by decide +kernel
theorem d3_4 : decode prog_31_method_1_code 4 = .ok (.aload_n 0, 1) := by decide +kernel
theorem d3_5 : decode prog_31_method_1_code 5 = .ok (.new 7, 3) := by decide +kernel
theorem d3_8 : decode prog_31_method_1_code 8 = .ok (.dup, 1) := by decide +kernel
theorem d3_9 : decode prog_31_method_1_code 9 = .ok (.invokespecial 9, 3) := by decide +kernel
theorem d3_12 : decode prog_31_method_1_code 12 = .ok (.putfield 10, 3) := by decide +kernel
theorem d3_15 : decode prog_31_method_1_code 15 = .ok (.return_, 1) := by decide +kernel
theorem pn_3 : plainName "com/example/tributary/tributary/ParallelRun$Relays" = true := by first | (simp [plainName, overriddenIn]; done) | decide +kernel
theorem ef_3 (m : MethodId) (r0 : Addr) : entryFrame m #[(.ref r0)] 1 = mkF m 0 #[.val (.ref r0)] [] := by first | (simp [entryFrame, mkF, argsToLocals, Value.category]; done) | rfl
set_option maxRecDepth 65536 in
set_option maxHeartbeats 40000000 in
theorem rm3 {l : Launch} {Z : State} {a0 : Array Value} (hw : ∀ d ∈ tables_1, d.before a0 Z = true) (r0 : Addr) (h0 : Heap) (n0 : Nat) (hz : n0 ≤ h0.size) (g_r0 : n0 ≤ r0) (E_r0 : Exa Z h0 r0 "com/example/tributary/tributary/ParallelRun$Relays") (F_relays : Fld Z h0 r0 "com/example/tributary/tributary/ParallelRun$Relays" "relays" "Ljava/util/List;" .null) (dv : Value) (S : Sta Z h0 "java/util/ArrayList" "DEFAULTCAPACITY_EMPTY_ELEMENTDATA" "[Ljava/lang/Object;" dv) (hfit : fits (.array (.object "java/lang/Object")) dv = true) :
    OMet l Z (⟨"com/example/tributary/tributary/ParallelRun$Relays", "<init>", "()V"⟩ : MethodName) prog_31_method_1_code 1 none ({ frames := 4, cells := 1, slots := 3, locals := 50 } : Room) #[(.ref r0)] h0 n0 ({ frames := 4, cells := 1, slots := 3, locals := 50 } : Room).cells ({ frames := 4, cells := 1, slots := 3, locals := 50 } : Room).slots (fun v h => v = none ∧ Keep h0 h [r0]) := by
  refine o_body (plainFor_of_name pn_3) hz (fun m => ef_3 m r0) ?_
  intro p e s m below meth c s₁ G0
  have K : Keep h0 h0 [r0] := Keep.refl _ _
  refine o_aloadN G0 d3_0 (pc' := 1) rfl rfl rfl ?_
  refine o_initO G0 (hw _ (List.mem_of_getElem? (i := 15) rfl)) (hw _ (List.mem_of_getElem? (i := 7) rfl)) (hw _ (List.mem_of_getElem? (i := 8) rfl)) d3_1 (pc' := 4) rfl rfl (by decide) (W := 0) (Nat.le_of_eq rfl) (by decide) ?_
  intro T1 G1
  refine o_aloadN G1 d3_4 (pc' := 5) rfl rfl rfl ?_
  refine o_new G1 (hw _ (List.mem_of_getElem? (i := 16) rfl)) (hw _ (List.mem_of_getElem? (i := 17) rfl)) (hw _ (List.mem_of_getElem? (i := 18) rfl)) d3_5 (pc' := 8) rfl (by decide) (by decide) ?_
  intro T2 h2 b2 G2 g2 g_b2 E2 A2 D2
  have ne_r0_b2 : r0 ≠ b2 := Nat.ne_of_lt (Nat.lt_of_lt_of_eq E_r0.lt g2.symm)
  have sz_b2 : h0.size ≤ b2 := Nat.le_trans K.1 (Nat.le_of_eq g2.symm)
  replace E_r0 := E_r0.ext E2
  replace F_relays := F_relays.ext E2
  replace S := S.ext E2
  replace K := K.ext E2
  have F_modCount_b2 : Fld Z h2 b2 "java/util/AbstractList" "modCount" "I" (.int (0 : Int32)) := D2 (Or.inl (hw _ (List.mem_of_getElem? (i := 36) rfl))) (ty := .int) (by decide)
  have F_elementData_b2 : Fld Z h2 b2 "java/util/ArrayList" "elementData" "[Ljava/lang/Object;" .null := D2 (Or.inl (hw _ (List.mem_of_getElem? (i := 39) rfl))) (ty := (.array (.object "java/lang/Object"))) (by decide)
  refine o_dup G2 d3_8 (pc' := 9) rfl rfl ?_
  refine o_callI G2 (z := (⟨"java/util/ArrayList", "<init>", "()V"⟩ : MethodName)) (argsL := []) (rest := [(.ref b2), (.ref r0)]) (W := 2) (a := b2) rfl (hw _ (List.mem_of_getElem? (i := 19) rfl)) (hw _ (List.mem_of_getElem? (i := 20) rfl)) rfl d3_9 (by decide) (hw _ (List.mem_of_getElem? (i := 18) rfl)) (hw _ (List.mem_of_getElem? (i := 21) rfl)) (rm4 hw b2 h2 n0 G2.sz g_b2 A2 F_modCount_b2 F_elementData_b2 dv S hfit) (by decide) (by decide) rfl (lenOf pd_0 rfl) rfl (Nat.le_of_eq rfl) (pc' := 12) rfl (by decide) (by decide) ?_
  rintro _ T3 h3 G3 ⟨rfl, K3⟩
  replace E_r0 := E_r0.keep K3
  replace F_relays := F_relays.keep K3 (ninS ne_r0_b2 nin0)
  replace K := K.trans K3 (allS (Or.inr sz_b2) all0)
  replace A2 := A2.keep K3
  show OFin n0 p e below s (fun v h => v = none ∧ Keep h0 h [r0]) 1 3 T3 (mkF m 12 #[.val (.ref r0)] [(.ref b2), (.ref r0)])
  refine o_putF G3 (host := "") (Or.inl (hw _ (List.mem_of_getElem? (i := 40) rfl))) Via.refl F_relays E_r0 (Or.inr ⟨(hw _ (List.mem_of_getElem? (i := 41) rfl)), rfl, rfl⟩) (hw _ (List.mem_of_getElem? (i := 10) rfl)) (ty := (.object "java/util/List")) (by decide) rfl rfl g_r0 d3_12 (pc' := 15) rfl ?_
  intro T4 h4 G4 W4
  replace E_r0 := E_r0.wr W4
  replace F_relays := F_relays.same W4
  replace K := K.wr W4 (Or.inl (List.mem_of_getElem? (i := 0) rfl))
  replace A2 := A2.wr W4
  exact o_return G4 d3_15 ⟨rfl, K⟩ (by decide) (by decide)
theorem d1_0 : decode prog_29_method_1_code 0 = .ok (.aload_n 0, 1) := by decide +kernel
theorem d1_1 : decode prog_29_method_1_code 1 = .ok (.invokespecial 1, 3) := by decide +kernel
theorem d1_4 : decode prog_29_method_1_code 4 = .ok (.aload_n 0, 1) := by decide +kernel
theorem d1_5 : decode prog_29_method_1_code 5 = .ok (.new 7, 3) := by decide +kernel
theorem d1_8 : decode prog_29_method_1_code 8 = .ok (.dup, 1) := by decide +kernel
theorem d1_9 : decode prog_29_method_1_code 9 = .ok (.invokespecial 9, 3) := by decide +kernel
theorem d1_12 : decode prog_29_method_1_code 12 = .ok (.putfield 10, 3) := by decide +kernel
theorem d1_15 : decode prog_29_method_1_code 15 = .ok (.aload_n 0, 1) := by decide +kernel
theorem d1_16 : decode prog_29_method_1_code 16 = .ok (.ldc2_w 18, 3) := by decide +kernel
theorem d1_19 : decode prog_29_method_1_code 19 = .ok (.putfield 20, 3) := by decide +kernel
theorem d1_22 : decode prog_29_method_1_code 22 = .ok (.return_, 1) := by decide +kernel
theorem pn_1 : plainName "com/example/tributary/tributary/ParallelRun$Lane" = true := by first | (simp [plainName, overriddenIn]; done) | decide +kernel
theorem ef_1 (m : MethodId) (r0 : Addr) : entryFrame m #[(.ref r0)] 1 = mkF m 0 #[.val (.ref r0)] [] := by first | (simp [entryFrame, mkF, argsToLocals, Value.category]; done) | rfl
set_option maxRecDepth 65536 in
set_option maxHeartbeats 40000000 in
theorem rm1 {l : Launch} {Z : State} {a0 : Array Value} (hw : ∀ d ∈ tables_1, d.before a0 Z = true) (r0 : Addr) (h0 : Heap) (n0 : Nat) (hz : n0 ≤ h0.size) (g_r0 : n0 ≤ r0) (E_r0 : Exa Z h0 r0 "com/example/tributary/tributary/ParallelRun$Lane") (F_relays : Fld Z h0 r0 "com/example/tributary/tributary/ParallelRun$Lane" "relays" "Lcom/example/tributary/tributary/ParallelRun$Relays;" .null) (F_wanted : Fld Z h0 r0 "com/example/tributary/tributary/ParallelRun$Lane" "wanted" "J" (.long (0 : Int64))) (dv : Value) (S : Sta Z h0 "java/util/ArrayList" "DEFAULTCAPACITY_EMPTY_ELEMENTDATA" "[Ljava/lang/Object;" dv) (hfit : fits (.array (.object "java/lang/Object")) dv = true) :
    OMet l Z (⟨"com/example/tributary/tributary/ParallelRun$Lane", "<init>", "()V"⟩ : MethodName) prog_29_method_1_code 1 none ({ frames := 5, cells := 2, slots := 4, locals := 64 } : Room) #[(.ref r0)] h0 n0 ({ frames := 5, cells := 2, slots := 4, locals := 64 } : Room).cells ({ frames := 5, cells := 2, slots := 4, locals := 64 } : Room).slots (fun v h => v = none ∧ Keep h0 h [r0] ∧ Fld Z h r0 "com/example/tributary/tributary/ParallelRun$Lane" "wanted" "J" (.long (9223372036854775807 : Int64))) := by
  refine o_body (plainFor_of_name pn_1) hz (fun m => ef_1 m r0) ?_
  intro p e s m below meth c s₁ G0
  have K : Keep h0 h0 [r0] := Keep.refl _ _
  refine o_aloadN G0 d1_0 (pc' := 1) rfl rfl rfl ?_
  refine o_initO G0 (hw _ (List.mem_of_getElem? (i := 6) rfl)) (hw _ (List.mem_of_getElem? (i := 7) rfl)) (hw _ (List.mem_of_getElem? (i := 8) rfl)) d1_1 (pc' := 4) rfl rfl (by decide) (W := 0) (Nat.le_of_eq rfl) (by decide) ?_
  intro T1 G1
  refine o_aloadN G1 d1_4 (pc' := 5) rfl rfl rfl ?_
  refine o_new G1 (hw _ (List.mem_of_getElem? (i := 9) rfl)) (hw _ (List.mem_of_getElem? (i := 10) rfl)) (hw _ (List.mem_of_getElem? (i := 11) rfl)) d1_5 (pc' := 8) rfl (by decide) (by decide) ?_
  intro T2 h2 b2 G2 g2 g_b2 E2 A2 D2
  have ne_r0_b2 : r0 ≠ b2 := Nat.ne_of_lt (Nat.lt_of_lt_of_eq E_r0.lt g2.symm)
  have sz_b2 : h0.size ≤ b2 := Nat.le_trans K.1 (Nat.le_of_eq g2.symm)
  replace E_r0 := E_r0.ext E2
  replace F_relays := F_relays.ext E2
  replace F_wanted := F_wanted.ext E2
  replace S := S.ext E2
  replace K := K.ext E2
  have F_relays_b2 : Fld Z h2 b2 "com/example/tributary/tributary/ParallelRun$Relays" "relays" "Ljava/util/List;" .null := D2 (Or.inr (hw _ (List.mem_of_getElem? (i := 41) rfl))) (ty := (.object "java/util/List")) (by decide)
  refine o_dup G2 d1_8 (pc' := 9) rfl rfl ?_
  refine o_callIN G2 (z := (⟨"com/example/tributary/tributary/ParallelRun$Relays", "<init>", "()V"⟩ : MethodName)) (argsL := []) (rest := [(.ref b2), (.ref r0)]) (W := 2) (a := b2) rfl (hw _ (List.mem_of_getElem? (i := 12) rfl)) (hw _ (List.mem_of_getElem? (i := 13) rfl)) rfl d1_9 (by decide) (hw _ (List.mem_of_getElem? (i := 11) rfl)) (hw _ (List.mem_of_getElem? (i := 14) rfl)) (rm3 hw b2 h2 n0 G2.sz g_b2 A2 F_relays_b2 dv S hfit) (by decide) (by decide) rfl (lenOf pd_0 rfl) rfl (Nat.le_of_eq rfl) (pc' := 12) rfl (by decide) (by decide) ?_
  rintro _ T3 h3 G3 ⟨rfl, K3⟩
  replace E_r0 := E_r0.keep K3
  replace F_relays := F_relays.keep K3 (ninS ne_r0_b2 nin0)
  replace F_wanted := F_wanted.keep K3 (ninS ne_r0_b2 nin0)
  replace K := K.trans K3 (allS (Or.inr sz_b2) all0)
  replace A2 := A2.keep K3
  show OFin n0 p e below s (fun v h => v = none ∧ Keep h0 h [r0] ∧ Fld Z h r0 "com/example/tributary/tributary/ParallelRun$Lane" "wanted" "J" (.long (9223372036854775807 : Int64))) 2 4 T3 (mkF m 12 #[.val (.ref r0)] [(.ref b2), (.ref r0)])
  refine o_putF G3 (host := "") (Or.inl (hw _ (List.mem_of_getElem? (i := 42) rfl))) Via.refl F_relays E_r0 (Or.inr ⟨(hw _ (List.mem_of_getElem? (i := 43) rfl)), rfl, rfl⟩) (hw _ (List.mem_of_getElem? (i := 1) rfl)) (ty := (.object "com/example/tributary/tributary/ParallelRun$Relays")) (by decide) rfl rfl g_r0 d1_12 (pc' := 15) rfl ?_
  intro T4 h4 G4 W4
  replace E_r0 := E_r0.wr W4
  replace F_relays := F_relays.same W4
  replace F_wanted := F_wanted.other W4 (Or.inr (slot_ne (Or.inl (hw _ (List.mem_of_getElem? (i := 46) rfl))) (Or.inr (hw _ (List.mem_of_getElem? (i := 43) rfl))) (by decide) (t := .long) (t' := (.object "com/example/tributary/tributary/ParallelRun$Relays")) (by decide) (by decide)))
  replace K := K.wr W4 (Or.inl (List.mem_of_getElem? (i := 0) rfl))
  replace A2 := A2.wr W4
  refine o_aloadN G4 d1_15 (pc' := 16) rfl rfl rfl ?_
  refine o_ldc2 G4 d1_16 (pc' := 19) rfl (hw _ (List.mem_of_getElem? (i := 44) rfl)) ?_
  refine o_putF G4 (host := "") (Or.inl (hw _ (List.mem_of_getElem? (i := 45) rfl))) Via.refl F_wanted E_r0 (Or.inl (hw _ (List.mem_of_getElem? (i := 46) rfl))) (hw _ (List.mem_of_getElem? (i := 1) rfl)) (ty := .long) (by decide) rfl rfl g_r0 d1_19 (pc' := 22) rfl ?_
  intro T5 h5 G5 W5
  replace E_r0 := E_r0.wr W5
  replace F_relays := F_relays.other W5 (Or.inr (slot_ne (Or.inr (hw _ (List.mem_of_getElem? (i := 43) rfl))) (Or.inl (hw _ (List.mem_of_getElem? (i := 46) rfl))) (by decide) (t := (.object "com/example/tributary/tributary/ParallelRun$Relays")) (t' := .long) (by decide) (by decide)))
  replace F_wanted := F_wanted.same W5
  replace K := K.wr W5 (Or.inl (List.mem_of_getElem? (i := 0) rfl))
  replace A2 := A2.wr W5
  exact o_return G5 d1_22 ⟨rfl, K, F_wanted⟩ (by decide) (by decide)
theorem d7_0 : decode prog_29_method_2_code 0 = .ok (.lload_n 1, 1) := by decide +kernel
theorem d7_1 : decode prog_29_method_2_code 1 = .ok (.aload_n 0, 1) := by decide +kernel
theorem d7_2 : decode prog_29_method_2_code 2 = .ok (.getfield 20, 3) := by decide +kernel
theorem d7_5 : decode prog_29_method_2_code 5 = .ok (.lcmp, 1) := by decide +kernel
theorem d7_6 : decode prog_29_method_2_code 6 = .ok (.ifCond .gt 7, 3) := by decide +kernel
theorem d7_9 : decode prog_29_method_2_code 9 = .ok (.iconst 1, 1) := by decide +kernel
theorem d7_10 : decode prog_29_method_2_code 10 = .ok (.goto 4, 3) := by decide +kernel
theorem d7_13 : decode prog_29_method_2_code 13 = .ok (.iconst 0, 1) := by decide +kernel
theorem d7_14 : decode prog_29_method_2_code 14 = .ok (.ireturn, 1) := by decide +kernel
theorem pn_7 : plainName "com/example/tributary/tributary/ParallelRun$Lane" = true := by first | (simp [plainName, overriddenIn]; done) | decide +kernel
theorem ef_7 (m : MethodId) (r0 : Addr) (q1 : Int64) : entryFrame m #[(.ref r0), (.long q1)] 3 = mkF m 0 #[.val (.ref r0), .val (.long q1), .second] [] := by first | (simp [entryFrame, mkF, argsToLocals, Value.category]; done) | rfl
def f_7 (xw : Int64) (q1 : Int64) : Int32 := if xw < q1 then (0 : Int32) else (1 : Int32)
set_option maxRecDepth 65536 in
set_option maxHeartbeats 40000000 in
theorem rm7 {l : Launch} {Z : State} {a0 : Array Value} (hw : ∀ d ∈ tables_1, d.before a0 Z = true) (r0 : Addr) (q1 : Int64) (h0 : Heap) (n0 : Nat) (hz : n0 ≤ h0.size) (xw : Int64) (F_w : Fld Z h0 r0 "com/example/tributary/tributary/ParallelRun$Lane" "wanted" "J" (.long xw)) :
    OMet l Z (⟨"com/example/tributary/tributary/ParallelRun$Lane", "wants", "(J)Z"⟩ : MethodName) prog_29_method_2_code 3 (some .boolean) ({ frames := 0, cells := 0, slots := 0, locals := 0 } : Room) #[(.ref r0), (.long q1)] h0 n0 ({ frames := 0, cells := 0, slots := 0, locals := 0 } : Room).cells ({ frames := 0, cells := 0, slots := 0, locals := 0 } : Room).slots (OVal h0 (.int (f_7 xw q1))) := by
  refine o_body (plainFor_of_name pn_7) hz (fun m => ef_7 m r0 q1) ?_
  intro p e s m below meth c s₁ G0
  refine o_lloadN G0 d7_0 (pc' := 1) rfl rfl ?_
  refine o_aloadN G0 d7_1 (pc' := 2) rfl rfl rfl ?_
  refine o_getF G0 (host := "") (Or.inl (hw _ (List.mem_of_getElem? (i := 45) rfl))) Via.refl F_w d7_2 (pc' := 5) rfl ?_
  intro T1 G1
  refine o_lcmp_gt G1 d7_5 (pc1 := 6) rfl d7_6 (by decide) (pcT := 13) (by decide) (pc' := 9) rfl (fun hc5 => ?_) (fun hc5 => ?_)
  · refine o_iconst G1 d7_13 (pc' := 14) rfl (v := (0 : Int32)) rfl ?_
    have hq : (nar .boolean (0 : Int32)) = f_7 xw q1 := by
      rw [f_7, if_pos hc5]
      try rfl
    exact o_nreturn (t := .boolean) G1 (by simp) d7_14 ⟨congrArg (fun z => some (Value.int z)) hq, rfl⟩ (by decide) (by decide)
  · refine o_iconst G1 d7_9 (pc' := 10) rfl (v := (1 : Int32)) rfl ?_
    refine o_goto G1 d7_10 (by decide) (pc' := 14) rfl ?_
    have hq : (nar .boolean (1 : Int32)) = f_7 xw q1 := by
      rw [f_7, if_neg hc5]
      try rfl
    exact o_nreturn (t := .boolean) G1 (by simp) d7_14 ⟨congrArg (fun z => some (Value.int z)) hq, rfl⟩ (by decide) (by decide)
theorem own_max (q : Int64) : ¬ (9223372036854775807 : Int64) < q := by
  rw [Int64.lt_iff_toInt_lt]
  have h := q.toInt_lt
  have e : (9223372036854775807 : Int64).toInt = 9223372036854775807 := rfl
  omega
theorem pn_0 : plainName "com/example/tributary/tributary/LaneWantsPinLaw" = true := by first | (simp [plainName, overriddenIn]; done) | decide +kernel
theorem ef_0 (m : MethodId) (q0 : Int64) (q1 : Int64) : entryFrame m #[(.long q0), (.long q1)] maxLocals = mkF m 0 #[.val (.long q0), .second, .val (.long q1), .second, .unset, .unset, .unset, .unset] [] := by first | (simp [entryFrame, mkF, argsToLocals, Value.category, maxLocals]; done) | rfl
set_option maxRecDepth 65536 in
set_option maxHeartbeats 40000000 in
theorem rm0 {l : Launch} {Z : State} {a0 : Array Value} (hw : ∀ d ∈ tables_1, d.before a0 Z = true) (q0 : Int64) (q1 : Int64) (h0 : Heap) (n0 : Nat) (hz : n0 ≤ h0.size) (dv : Value) (S : Sta Z h0 "java/util/ArrayList" "DEFAULTCAPACITY_EMPTY_ELEMENTDATA" "[Ljava/lang/Object;" dv) (hfit : fits (.array (.object "java/lang/Object")) dv = true) :
    OMet l Z x code maxLocals ret room_1 #[(.long q0), (.long q1)] h0 n0 16 128 (fun v _ => v = some (.int 1)) := by
  refine o_body (plainFor_of_name pn_0) hz (fun m => ef_0 m q0 q1) ?_
  intro p e s m below meth c s₁ G0
  refine o_new G0 (hw _ (List.mem_of_getElem? (i := 0) rfl)) (hw _ (List.mem_of_getElem? (i := 1) rfl)) (hw _ (List.mem_of_getElem? (i := 2) rfl)) at_0 (pc' := 3) rfl (by decide) (by decide) ?_
  intro T1 h1 b1 G1 g1 g_b1 E1 A1 D1
  replace S := S.ext E1
  have F_relays_b1 : Fld Z h1 b1 "com/example/tributary/tributary/ParallelRun$Lane" "relays" "Lcom/example/tributary/tributary/ParallelRun$Relays;" .null := D1 (Or.inr (hw _ (List.mem_of_getElem? (i := 43) rfl))) (ty := (.object "com/example/tributary/tributary/ParallelRun$Relays")) (by decide)
  have F_wanted_b1 : Fld Z h1 b1 "com/example/tributary/tributary/ParallelRun$Lane" "wanted" "J" (.long (0 : Int64)) := D1 (Or.inl (hw _ (List.mem_of_getElem? (i := 46) rfl))) (ty := .long) (by decide)
  refine o_dup G1 at_3 (pc' := 4) rfl rfl ?_
  refine o_callI G1 (z := (⟨"com/example/tributary/tributary/ParallelRun$Lane", "<init>", "()V"⟩ : MethodName)) (argsL := []) (rest := [(.ref b1)]) (W := 1) (a := b1) rfl (hw _ (List.mem_of_getElem? (i := 3) rfl)) (hw _ (List.mem_of_getElem? (i := 4) rfl)) rfl at_4 (by decide) (hw _ (List.mem_of_getElem? (i := 2) rfl)) (hw _ (List.mem_of_getElem? (i := 5) rfl)) (rm1 hw b1 h1 n0 G1.sz g_b1 A1 F_relays_b1 F_wanted_b1 dv S hfit) (by decide) (by decide) rfl (lenOf pd_0 rfl) rfl (Nat.le_of_eq rfl) (pc' := 7) rfl (by decide) (by decide) ?_
  rintro _ T2 h2 G2 ⟨rfl, K2, Fw2⟩
  replace A1 := A1.keep K2
  show OFin n0 p e below s (fun v _ => v = some (.int 1)) 16 128 T2 (mkF m 7 #[.val (.long q0), .second, .val (.long q1), .second, .unset, .unset, .unset, .unset] [(.ref b1)])
  refine o_astore G2 at_7 (pc' := 9) rfl rfl (l' := #[.val (.long q0), .second, .val (.long q1), .second, .val (.ref b1), .unset, .unset, .unset]) rfl ?_
  refine o_aload G2 at_9 (pc' := 11) rfl rfl rfl ?_
  refine o_lloadN G2 at_11 (pc' := 12) rfl rfl ?_
  refine o_callVP G2 (z := (⟨"com/example/tributary/tributary/ParallelRun$Lane", "wants", "(J)Z"⟩ : MethodName)) (argsL := [(.long q0)]) (rest := []) (W := 0) (r := .int (1 : Int32)) A1 (hw _ (List.mem_of_getElem? (i := 47) rfl)) (hw _ (List.mem_of_getElem? (i := 49) rfl)) (hw _ (List.mem_of_getElem? (i := 48) rfl)) (hw _ (List.mem_of_getElem? (i := 50) rfl)) at_12 (by decide) (hw _ (List.mem_of_getElem? (i := 2) rfl)) (hw _ (List.mem_of_getElem? (i := 51) rfl)) (by rw [show (1 : Int32) = f_7 (9223372036854775807 : Int64) q0 by rw [f_7, if_neg (own_max _)]]; exact rm7 hw b1 q0 h2 n0 G2.sz (9223372036854775807 : Int64) Fw2) (by decide) (by decide) rfl (lenOf pd_1 rfl) rfl (Nat.le_of_eq rfl) (pc' := 15) rfl (by decide) (by decide) ?_
  intro T3 G3
  refine o_istore G3 at_15 (pc' := 17) rfl (l' := #[.val (.long q0), .second, .val (.long q1), .second, .val (.ref b1), .val (.int (1 : Int32)), .unset, .unset]) rfl ?_
  refine o_aload G3 at_17 (pc' := 19) rfl rfl rfl ?_
  refine o_lloadN G3 at_19 (pc' := 20) rfl rfl ?_
  refine o_callVP G3 (z := (⟨"com/example/tributary/tributary/ParallelRun$Lane", "wants", "(J)Z"⟩ : MethodName)) (argsL := [(.long q1)]) (rest := []) (W := 0) (r := .int (1 : Int32)) A1 (hw _ (List.mem_of_getElem? (i := 47) rfl)) (hw _ (List.mem_of_getElem? (i := 49) rfl)) (hw _ (List.mem_of_getElem? (i := 48) rfl)) (hw _ (List.mem_of_getElem? (i := 50) rfl)) at_20 (by decide) (hw _ (List.mem_of_getElem? (i := 2) rfl)) (hw _ (List.mem_of_getElem? (i := 51) rfl)) (by rw [show (1 : Int32) = f_7 (9223372036854775807 : Int64) q1 by rw [f_7, if_neg (own_max _)]]; exact rm7 hw b1 q1 h2 n0 G3.sz (9223372036854775807 : Int64) Fw2) (by decide) (by decide) rfl (lenOf pd_1 rfl) rfl (Nat.le_of_eq rfl) (pc' := 23) rfl (by decide) (by decide) ?_
  intro T4 G4
  refine o_istore G4 at_23 (pc' := 25) rfl (l' := #[.val (.long q0), .second, .val (.long q1), .second, .val (.ref b1), .val (.int (1 : Int32)), .val (.int (1 : Int32)), .unset]) rfl ?_
  refine o_aload G4 at_25 (pc' := 27) rfl rfl rfl ?_
  refine o_lloadN G4 at_27 (pc' := 28) rfl rfl ?_
  refine o_callVP G4 (z := (⟨"com/example/tributary/tributary/ParallelRun$Lane", "wants", "(J)Z"⟩ : MethodName)) (argsL := [(.long q0)]) (rest := []) (W := 0) (r := .int (1 : Int32)) A1 (hw _ (List.mem_of_getElem? (i := 47) rfl)) (hw _ (List.mem_of_getElem? (i := 49) rfl)) (hw _ (List.mem_of_getElem? (i := 48) rfl)) (hw _ (List.mem_of_getElem? (i := 50) rfl)) at_28 (by decide) (hw _ (List.mem_of_getElem? (i := 2) rfl)) (hw _ (List.mem_of_getElem? (i := 51) rfl)) (by rw [show (1 : Int32) = f_7 (9223372036854775807 : Int64) q0 by rw [f_7, if_neg (own_max _)]]; exact rm7 hw b1 q0 h2 n0 G4.sz (9223372036854775807 : Int64) Fw2) (by decide) (by decide) rfl (lenOf pd_1 rfl) rfl (Nat.le_of_eq rfl) (pc' := 31) rfl (by decide) (by decide) ?_
  intro T5 G5
  refine o_istore G5 at_31 (pc' := 33) rfl (l' := #[.val (.long q0), .second, .val (.long q1), .second, .val (.ref b1), .val (.int (1 : Int32)), .val (.int (1 : Int32)), .val (.int (1 : Int32))]) rfl ?_
  refine o_iload G5 at_33 (pc' := 35) rfl rfl ?_
  refine o_if_eq G5 at_35 (by decide) (pcT := 52) (by decide) (pc' := 38) rfl (fun q => absurd q (by decide)) (fun _ => ?_)
  refine o_iload G5 at_38 (pc' := 40) rfl rfl ?_
  refine o_if_eq G5 at_40 (by decide) (pcT := 52) (by decide) (pc' := 43) rfl (fun q => absurd q (by decide)) (fun _ => ?_)
  refine o_iload G5 at_43 (pc' := 45) rfl rfl ?_
  refine o_if_eq G5 at_45 (by decide) (pcT := 52) (by decide) (pc' := 48) rfl (fun q => absurd q (by decide)) (fun _ => ?_)
  refine o_iconst G5 at_48 (pc' := 49) rfl (v := (1 : Int32)) rfl ?_
  refine o_goto G5 at_49 (by decide) (pc' := 53) rfl ?_
  exact o_nreturn (t := .boolean) G5 (by simp) at_53 rfl (by decide) (by decide)
set_option maxRecDepth 65536 in
set_option maxHeartbeats 40000000 in
theorem comes_1 {Post : Tables → Env → Array Value → State → Outcome → State → Prop} (hpost : ∀ tb e args s v u, (limb_1_1.after args s (.returned v) u = true ∧ limb_1_2.after args s (.returned v) u = true ∧ True) → FrameEnd s (.returned v) u (Jvm.fieldLocs frame_1_writes args s ++ Jvm.arrayLocs frame_1_arrays args s ++ Jvm.staticLocs frame_1_statics s) 16 128 → Post tb e args s (.returned v) u) :
    ArmFor flags0 classFile x code maxLocals ret World_1 tables_1 room_1 Calls_1 rest_1 Pre_1 Post := by
  intro l hfl _ _ p e ha hc hk s m args below hf hA hF happ hP
  obtain ⟨hcalls, hrest, hpre⟩ := hP
  obtain ⟨-, -, -, hnamed, -, -, -, hat⟩ := (Spec.applies_iff hf).mp happ
  obtain ⟨hg, hn⟩ := and_e (Cond.before_iff.mp (show (Jvm.Cond.and given_1 narrow_1).before args s = true from hpre))
  obtain ⟨g1, g2⟩ := and_e hg
  obtain ⟨g3, g4⟩ := and_e g2
  obtain ⟨w0, w1, rfl⟩ : ∃ w0 w1 : Value, args = #[w0, w1] := by
    have hs : args.size = 2 := by simpa [Cond.value, given_1] using g1
    obtain ⟨L⟩ := args
    match L, hs with
    | [w0, w1], _ => exact ⟨w0, w1, rfl⟩
  have hw := fun d (hd : d ∈ tables_1) => atoms_spec (ws := Jvm.Cond.code x code maxLocals ret :: tables_1) hat d (List.mem_cons_of_mem _ hd)
  obtain ⟨i0, ei0⟩ := isL_v g3
  obtain rfl : w0 = (.long i0) := Option.some.inj ei0
  obtain ⟨i1, ei1⟩ := isL_v g4
  obtain rfl : w1 = (.long i1) := Option.some.inj ei1
  obtain ⟨hsets, hown0⟩ := atoms_of _ (rest_1_c_eq ▸ (show rest_1_c.before _ s = true from hrest))
  have hfit : Fit s := fun {y c} hc i hi => by
    obtain ⟨ha, rfl⟩ := Array.getElem?_eq_some_iff.mp hc
    have q := List.all_eq_true.mp ((Array.all_eq_true_iff_forall_mem.mp hF) _ (Array.getElem_mem ha)) i (List.mem_range.mpr hi)
    simpa [Array.getElem?_eq_getElem hi] using q
  obtain ⟨dv, ed, fd⟩ := static_fit hfit (hsets _ (List.mem_of_getElem? (i := 2) rfl)) (ty := .array (.object "java/lang/Object")) (by decide)
  have S : Sta s s.heap "java/util/ArrayList" "DEFAULTCAPACITY_EMPTY_ELEMENTDATA" "[Ljava/lang/Object;" dv := Sta.start ed (Or.inr ⟨(hw _ (List.mem_of_getElem? (i := 18) rfl)), hsets _ (List.mem_of_getElem? (i := 2) rfl)⟩)
  obtain ⟨n, o, h1, h2, h3, _, L, rfl, ⟨N, _, hv⟩, hq⟩ := rm0 (l := l) (Z := s) hw i0 i1 s.heap s.heap.size (Nat.le_refl _) dv S fd tables_1 p e ha hc hk s m _ below hf ((Spec.applies_iff_loose hf).mp happ).1 ⟨rfl, State.Warmed39.refl s, rfl⟩ trivial
  subst hv
  refine ⟨n, _, h1, h2, h3, hpost _ _ _ _ _ _ ⟨Cond.after_iff.mpr rfl, Cond.after_iff.mpr (eq_i res_at (Term.int_eval (1)) rfl), trivial⟩ ⟨hq.1, hq.2.1, (hq.2.2.sift fun y hy => Or.inr (N y hy)).mono (by decide) (by decide)⟩⟩
theorem main_1_1 : Claimed_1_1 := comes_1 fun _ _ _ _ _ _ h hF => ⟨h.1, hF⟩
theorem main_1_2 : Claimed_1_2 := comes_1 fun _ _ _ _ _ _ h hF => ⟨h.2.1, hF⟩
end Jvm.Pilot.@@N@@
namespace Jvm.Pilot.@@N@@
open Jvm Jvm.ClassFile Sem Op Lib Jvm.Free Jvm.Stand Jvm.Pilot.@@N@@.Jvm.D
/-! MADE BY PROGRAM (witnessworld.py) out of the Statement's table words and the real class files: 22 classes; the members and pool entries that the words name. The judged class is class 1, her method 1. -/
namespace start1
open Jvm.ClassFile
def u (s : String) : CpInfo := .utf8 (stringToUtf16 s)
/-- a pool by its gaps: so many unusable entries, then the entry; so many at the end -/
def gap : Nat → List CpInfo → List CpInfo
  | 0, r => r
  | n + 1, r => .unusable :: gap n r
def poolList (es : List (Nat × CpInfo)) (last : Nat) : List CpInfo := es.foldr (fun e r => gap e.1 (e.2 :: r)) (gap last [])
def pool (es : List (Nat × CpInfo)) (last : Nat) : Array CpInfo := ⟨poolList es last⟩
def fileOf (pool : Array CpInfo) (this : Nat) (attrs : Array Attribute := #[]) (ms : Array MethodInfo := #[]) (fl : Nat := 33) (sup : Nat := 0) (ifs : Array Nat := #[]) (fds : Array FieldInfo := #[]) : ClassFile where
  minorVersion := 0
  majorVersion := 65
  constantPool := pool
  accessFlags := fl
  thisClass := this
  superClass := sup
  interfaces := ifs
  fields := fds
  methods := ms
  attributes := attrs
def plain (name : String) (sup : Option ClassId) : Class where
  name := name
  kind := .ordinary
  loader := none
  accessFlags := 33
  super := sup
  interfaces := #[]
  cf := none
  fields := #[]
  methods := #[]
  instanceTypes := #[]
  staticTypes := #[]
  resolved := #[]
  callSites := []
  init := .initialized
  statics := none
  mirror := none

def pool0 : Array CpInfo := pool [(5, u "<init>"), (0, u "()V"), (1, .class_ 10), (1, u "java/lang/Object")] 113

def k0c0 : Code := { maxStack := 0, maxLocals := 1, code := object_method_1_code, exceptionTable := #[], attributes := #[] }
def k0m0 : Method := { name := "<init>", desc := "()V", sig := { parameters := [], returnType := none }, accessFlags := 1, code := some k0c0 }
/-- java/lang/Object -/
def k0 : Class := { plain "java/lang/Object" none with
  accessFlags := 33
  interfaces := #[]
  cf := some (fileOf pool0 8 #[] #[{ accessFlags := 1, nameIndex := 5, descriptorIndex := 6, attributes := #[] }] 33 0 #[] #[])
  fields := #[]
  methods := #[k0m0]
  instanceTypes := #[]
  staticTypes := #[]
  resolved := Array.replicate 124 none
  statics := none }

def pool1 : Array CpInfo := pool [(2, .class_ 4), (0, .nameAndType 5 6), (0, u "java/lang/Object"), (0, u "<init>"), (0, u "()V"), (0, .class_ 8), (0, u "com/example/tributary/tributary/ParallelRun$Lane"), (0, .methodref 7 3), (0, .methodref 7 11), (0, .nameAndType 12 13), (0, u "wants"), (0, u "(J)Z"), (0, .class_ 15), (0, u "com/example/tributary/tributary/LaneWantsPinLaw"), (2, u "law"), (0, u "(JJ)Z")] 7

def k1m0 : Method := { name := "<init>", desc := "()V", sig := { parameters := [], returnType := none }, accessFlags := 1, code := none }
def k1c1 : Code := { maxStack := 3, maxLocals := 8, code := code, exceptionTable := #[], attributes := #[] }
def k1m1 : Method := { name := "law", desc := "(JJ)Z", sig := { parameters := [.long, .long], returnType := some .boolean }, accessFlags := 9, code := some k1c1 }
/-- com/example/tributary/tributary/LaneWantsPinLaw -/
def k1 : Class := { plain "com/example/tributary/tributary/LaneWantsPinLaw" (some 0) with
  accessFlags := 49
  interfaces := #[]
  cf := some (fileOf pool1 14 #[] #[{ accessFlags := 1, nameIndex := 5, descriptorIndex := 6, attributes := #[] }, { accessFlags := 9, nameIndex := 18, descriptorIndex := 19, attributes := #[] }] 49 2 #[] #[])
  fields := #[]
  methods := #[k1m0, k1m1]
  instanceTypes := #[]
  staticTypes := #[]
  resolved := Array.replicate 27 none
  statics := none }

def pool2 : Array CpInfo := pool [(1, .methodref 2 3), (0, .class_ 4), (0, .nameAndType 5 6), (0, u "java/lang/Object"), (0, u "<init>"), (0, u "()V"), (0, .class_ 8), (0, u "com/example/tributary/tributary/ParallelRun$Relays"), (0, .methodref 7 3), (0, .fieldref 11 12), (0, .class_ 13), (0, .nameAndType 14 15), (0, u "com/example/tributary/tributary/ParallelRun$Lane"), (0, u "relays"), (0, u "Lcom/example/tributary/tributary/ParallelRun$Relays;"), (2, .long 9223372036854775807), (1, .fieldref 11 21), (0, .nameAndType 22 23), (0, u "wanted"), (0, u "J"), (2, u "wants"), (0, u "(J)Z"), (4, .class_ 33), (0, u "com/example/tributary/tributary/ParallelRun")] 3

def k2c0 : Code := { maxStack := 3, maxLocals := 1, code := prog_29_method_1_code, exceptionTable := #[], attributes := #[] }
def k2m0 : Method := { name := "<init>", desc := "()V", sig := { parameters := [], returnType := none }, accessFlags := 0, code := some k2c0 }
def k2c1 : Code := { maxStack := 4, maxLocals := 3, code := prog_29_method_2_code, exceptionTable := #[], attributes := #[] }
def k2m1 : Method := { name := "wants", desc := "(J)Z", sig := { parameters := [.long], returnType := some .boolean }, accessFlags := 0, code := some k2c1 }
/-- com/example/tributary/tributary/ParallelRun$Lane -/
def k2 : Class := { plain "com/example/tributary/tributary/ParallelRun$Lane" (some 0) with
  accessFlags := 48
  interfaces := #[]
  cf := some (fileOf pool2 11 #[.nestHost 32] #[{ accessFlags := 0, nameIndex := 5, descriptorIndex := 6, attributes := #[] }, { accessFlags := 0, nameIndex := 26, descriptorIndex := 27, attributes := #[] }] 48 2 #[] #[{ accessFlags := 18, nameIndex := 14, descriptorIndex := 15, attributes := #[] }, { accessFlags := 66, nameIndex := 22, descriptorIndex := 23, attributes := #[] }])
  fields := #[{ name := "relays", type := (.object "com/example/tributary/tributary/ParallelRun$Relays"), accessFlags := 18, slot := 0, constantValue := 0 }, { name := "wanted", type := .long, accessFlags := 66, slot := 1, constantValue := 0 }]
  methods := #[k2m0, k2m1]
  instanceTypes := #[(.object "com/example/tributary/tributary/ParallelRun$Relays"), .long]
  staticTypes := #[]
  resolved := Array.replicate 37 none
  statics := none }

def pool3 : Array CpInfo := pool [(1, .methodref 2 3), (0, .class_ 4), (0, .nameAndType 5 6), (0, u "java/lang/Object"), (0, u "<init>"), (0, u "()V"), (0, .class_ 8), (0, u "java/util/ArrayList"), (0, .methodref 7 3), (0, .fieldref 11 12), (0, .class_ 13), (0, .nameAndType 14 15), (0, u "com/example/tributary/tributary/ParallelRun$Relays"), (0, u "relays"), (0, u "Ljava/util/List;"), (26, .class_ 43), (0, u "com/example/tributary/tributary/ParallelRun")] 3

def k3c0 : Code := { maxStack := 3, maxLocals := 1, code := prog_31_method_1_code, exceptionTable := #[], attributes := #[] }
def k3m0 : Method := { name := "<init>", desc := "()V", sig := { parameters := [], returnType := none }, accessFlags := 2, code := some k3c0 }
/-- com/example/tributary/tributary/ParallelRun$Relays -/
def k3 : Class := { plain "com/example/tributary/tributary/ParallelRun$Relays" (some 0) with
  accessFlags := 48
  interfaces := #[]
  cf := some (fileOf pool3 11 #[.nestHost 42] #[{ accessFlags := 2, nameIndex := 5, descriptorIndex := 6, attributes := #[] }] 48 2 #[] #[{ accessFlags := 18, nameIndex := 14, descriptorIndex := 15, attributes := #[] }])
  fields := #[{ name := "relays", type := (.object "java/util/List"), accessFlags := 18, slot := 0, constantValue := 0 }]
  methods := #[k3m0]
  instanceTypes := #[(.object "java/util/List")]
  staticTypes := #[]
  resolved := Array.replicate 47 none
  statics := none }

def pool4 : Array CpInfo := pool [(8, .class_ 10), (1, u "java/lang/Iterable"), (24, .class_ 36), (0, u "java/lang/Object")] 25

/-- java/lang/Iterable -/
def k4 : Class := { plain "java/lang/Iterable" (some 0) with
  accessFlags := 1537
  interfaces := #[]
  cf := some (fileOf pool4 8 #[] #[] 1537 35 #[] #[])
  fields := #[]
  methods := #[]
  instanceTypes := #[]
  staticTypes := #[]
  resolved := Array.replicate 62 none
  statics := none }

def pool5 : Array CpInfo := pool [(10, .class_ 12), (1, u "java/util/Collection"), (47, .class_ 61), (0, u "java/lang/Object"), (0, .class_ 63), (0, u "java/lang/Iterable")] 51

/-- java/util/Collection -/
def k5 : Class := { plain "java/util/Collection" (some 0) with
  accessFlags := 1537
  interfaces := #[4]
  cf := some (fileOf pool5 10 #[] #[] 1537 60 #[62] #[])
  fields := #[]
  methods := #[]
  instanceTypes := #[]
  staticTypes := #[]
  resolved := Array.replicate 115 none
  statics := none }

def pool6 : Array CpInfo := pool [(1, .methodref 2 3), (0, .class_ 4), (0, .nameAndType 5 6), (0, u "java/lang/Object"), (0, u "<init>"), (0, u "()V"), (1, .class_ 10), (1, u "java/util/AbstractCollection"), (66, .class_ 78), (0, u "java/util/Collection")] 81

def k6c0 : Code := { maxStack := 1, maxLocals := 1, code := jdk_22_method_1_code, exceptionTable := #[], attributes := #[] }
def k6m0 : Method := { name := "<init>", desc := "()V", sig := { parameters := [], returnType := none }, accessFlags := 4, code := some k6c0 }
/-- java/util/AbstractCollection -/
def k6 : Class := { plain "java/util/AbstractCollection" (some 0) with
  accessFlags := 1057
  interfaces := #[5]
  cf := some (fileOf pool6 8 #[] #[{ accessFlags := 4, nameIndex := 5, descriptorIndex := 6, attributes := #[] }] 1057 2 #[77] #[])
  fields := #[]
  methods := #[k6m0]
  instanceTypes := #[]
  staticTypes := #[]
  resolved := Array.replicate 160 none
  statics := none }

def pool7 : Array CpInfo := pool [(8, .class_ 10), (1, u "java/util/SequencedCollection"), (15, .class_ 27), (0, u "java/lang/Object"), (0, .class_ 29), (0, u "java/util/Collection")] 27

/-- java/util/SequencedCollection -/
def k7 : Class := { plain "java/util/SequencedCollection" (some 0) with
  accessFlags := 1537
  interfaces := #[5]
  cf := some (fileOf pool7 8 #[] #[] 1537 26 #[28] #[])
  fields := #[]
  methods := #[]
  instanceTypes := #[]
  staticTypes := #[]
  resolved := Array.replicate 57 none
  statics := none }

def pool8 : Array CpInfo := pool [(8, .class_ 10), (1, u "java/util/List"), (92, .class_ 104), (0, u "java/lang/Object"), (15, .class_ 121), (0, u "java/util/SequencedCollection")] 129

/-- java/util/List -/
def k8 : Class := { plain "java/util/List" (some 0) with
  accessFlags := 1537
  interfaces := #[7]
  cf := some (fileOf pool8 8 #[] #[] 1537 103 #[120] #[])
  fields := #[]
  methods := #[]
  instanceTypes := #[]
  staticTypes := #[]
  resolved := Array.replicate 251 none
  statics := none }

def pool9 : Array CpInfo := pool [(1, .methodref 2 3), (0, .class_ 4), (0, .nameAndType 5 6), (0, u "java/util/AbstractCollection"), (0, u "<init>"), (0, u "()V"), (0, .fieldref 8 9), (0, .class_ 10), (0, .nameAndType 11 12), (0, u "java/util/AbstractList"), (0, u "modCount"), (0, u "I"), (64, .class_ 78), (0, u "java/util/AbstractList$Itr"), (3, .class_ 83), (0, u "java/util/AbstractList$ListItr"), (9, .class_ 94), (0, u "java/util/AbstractList$RandomAccessSubList"), (3, .class_ 99), (0, u "java/util/AbstractList$SubList"), (33, .class_ 134), (0, u "java/util/List"), (73, .class_ 209), (0, u "java/util/AbstractList$SubList$1"), (0, .class_ 211), (0, u "java/util/AbstractList$RandomAccessSpliterator")] 6

def k9c0 : Code := { maxStack := 2, maxLocals := 1, code := jdk_39_method_1_code, exceptionTable := #[], attributes := #[] }
def k9m0 : Method := { name := "<init>", desc := "()V", sig := { parameters := [], returnType := none }, accessFlags := 4, code := some k9c0 }
/-- java/util/AbstractList -/
def k9 : Class := { plain "java/util/AbstractList" (some 6) with
  accessFlags := 1057
  interfaces := #[8]
  cf := some (fileOf pool9 8 #[.nestMembers #[93, 98, 208, 210, 82, 77]] #[{ accessFlags := 4, nameIndex := 5, descriptorIndex := 6, attributes := #[] }] 1057 2 #[133] #[{ accessFlags := 132, nameIndex := 11, descriptorIndex := 12, attributes := #[] }])
  fields := #[{ name := "modCount", type := .int, accessFlags := 132, slot := 0, constantValue := 0 }]
  methods := #[k9m0]
  instanceTypes := #[.int]
  staticTypes := #[]
  resolved := Array.replicate 218 none
  statics := none }

def pool10 : Array CpInfo := pool [(1, .class_ 2), (0, u "java/util/RandomAccess"), (0, .class_ 4), (0, u "java/lang/Object")] 2

/-- java/util/RandomAccess -/
def k10 : Class := { plain "java/util/RandomAccess" (some 0) with
  accessFlags := 1537
  interfaces := #[]
  cf := some (fileOf pool10 1 #[] #[] 1537 3 #[] #[])
  fields := #[]
  methods := #[]
  instanceTypes := #[]
  staticTypes := #[]
  resolved := Array.replicate 7 none
  statics := none }

def pool11 : Array CpInfo := pool [(1, .class_ 2), (0, u "java/lang/Cloneable"), (0, .class_ 4), (0, u "java/lang/Object")] 2

/-- java/lang/Cloneable -/
def k11 : Class := { plain "java/lang/Cloneable" (some 0) with
  accessFlags := 1537
  interfaces := #[]
  cf := some (fileOf pool11 1 #[] #[] 1537 3 #[] #[])
  fields := #[]
  methods := #[]
  instanceTypes := #[]
  staticTypes := #[]
  resolved := Array.replicate 7 none
  statics := none }

def pool12 : Array CpInfo := pool [(1, .class_ 2), (0, u "java/io/Serializable"), (0, .class_ 4), (0, u "java/lang/Object")] 2

/-- java/io/Serializable -/
def k12 : Class := { plain "java/io/Serializable" (some 0) with
  accessFlags := 1537
  interfaces := #[]
  cf := some (fileOf pool12 1 #[] #[] 1537 3 #[] #[])
  fields := #[]
  methods := #[]
  instanceTypes := #[]
  staticTypes := #[]
  resolved := Array.replicate 7 none
  statics := none }

def pool13 : Array CpInfo := pool [(1, .methodref 2 3), (0, .class_ 4), (0, .nameAndType 5 6), (0, u "java/util/AbstractList"), (0, u "<init>"), (0, u "()V"), (2, .fieldref 10 11), (0, .class_ 12), (0, .nameAndType 13 14), (0, u "java/util/ArrayList"), (0, u "elementData"), (0, u "[Ljava/lang/Object;"), (2, u "EMPTY_ELEMENTDATA"), (21, .fieldref 10 40), (0, .nameAndType 41 14), (0, u "DEFAULTCAPACITY_EMPTY_ELEMENTDATA"), (8, u "size"), (0, u "I"), (96, .class_ 149), (0, u "java/util/List"), (112, .class_ 263), (0, u "java/util/ArrayList$ListItr"), (3, .class_ 268), (0, u "java/util/ArrayList$Itr"), (7, .class_ 277), (0, u "java/util/ArrayList$SubList"), (12, .class_ 291), (0, u "java/util/ArrayList$ArrayListSpliterator"), (37, .class_ 330), (0, u "java/util/RandomAccess"), (0, .class_ 332), (0, u "java/lang/Cloneable"), (0, .class_ 334), (0, u "java/io/Serializable"), (0, u "serialVersionUID"), (0, u "J"), (3, u "DEFAULT_CAPACITY"), (159, .class_ 501), (0, u "java/util/ArrayList$SubList$2"), (0, .class_ 503), (0, u "java/util/ArrayList$SubList$1")] 5

def k13c0 : Code := { maxStack := 2, maxLocals := 1, code := jdk_38_method_2_code, exceptionTable := #[], attributes := #[] }
def k13m0 : Method := { name := "<init>", desc := "()V", sig := { parameters := [], returnType := none }, accessFlags := 1, code := some k13c0 }
/-- java/util/ArrayList -/
def k13 : Class := { plain "java/util/ArrayList" (some 9) with
  accessFlags := 33
  interfaces := #[8, 10, 11, 12]
  cf := some (fileOf pool13 10 #[.nestMembers #[290, 276, 500, 502, 262, 267]] #[{ accessFlags := 1, nameIndex := 5, descriptorIndex := 6, attributes := #[] }] 33 2 #[148, 329, 331, 333] #[{ accessFlags := 26, nameIndex := 335, descriptorIndex := 336, attributes := #[] }, { accessFlags := 26, nameIndex := 340, descriptorIndex := 51, attributes := #[] }, { accessFlags := 26, nameIndex := 17, descriptorIndex := 14, attributes := #[] }, { accessFlags := 26, nameIndex := 41, descriptorIndex := 14, attributes := #[] }, { accessFlags := 128, nameIndex := 13, descriptorIndex := 14, attributes := #[] }, { accessFlags := 2, nameIndex := 50, descriptorIndex := 51, attributes := #[] }])
  fields := #[{ name := "serialVersionUID", type := .long, accessFlags := 26, slot := 0, constantValue := 0 }, { name := "DEFAULT_CAPACITY", type := .int, accessFlags := 26, slot := 1, constantValue := 0 }, { name := "EMPTY_ELEMENTDATA", type := (.array (.object "java/lang/Object")), accessFlags := 26, slot := 2, constantValue := 0 }, { name := "DEFAULTCAPACITY_EMPTY_ELEMENTDATA", type := (.array (.object "java/lang/Object")), accessFlags := 26, slot := 3, constantValue := 0 }, { name := "elementData", type := (.array (.object "java/lang/Object")), accessFlags := 128, slot := 1, constantValue := 0 }, { name := "size", type := .int, accessFlags := 2, slot := 2, constantValue := 0 }]
  methods := #[k13m0]
  instanceTypes := #[.int, (.array (.object "java/lang/Object")), .int]
  staticTypes := #[.long, .int, (.array (.object "java/lang/Object")), (.array (.object "java/lang/Object"))]
  resolved := Array.replicate 509 none
  statics := some 0 }

def pool14 : Array CpInfo := pool [(16, .class_ 18), (1, u "java/util/Iterator"), (12, .class_ 32), (0, u "java/lang/Object")] 20

/-- java/util/Iterator -/
def k14 : Class := { plain "java/util/Iterator" (some 0) with
  accessFlags := 1537
  interfaces := #[]
  cf := some (fileOf pool14 16 #[] #[] 1537 31 #[] #[])
  fields := #[]
  methods := #[]
  instanceTypes := #[]
  staticTypes := #[]
  resolved := Array.replicate 53 none
  statics := none }

def pool15 : Array CpInfo := pool [(1, .class_ 2), (0, u "java/lang/AutoCloseable"), (0, .class_ 4), (0, u "java/lang/Object")] 7

/-- java/lang/AutoCloseable -/
def k15 : Class := { plain "java/lang/AutoCloseable" (some 0) with
  accessFlags := 1537
  interfaces := #[]
  cf := some (fileOf pool15 1 #[] #[] 1537 3 #[] #[])
  fields := #[]
  methods := #[]
  instanceTypes := #[]
  staticTypes := #[]
  resolved := Array.replicate 12 none
  statics := none }

def pool16 : Array CpInfo := pool [(2, .class_ 4), (1, u "java/lang/Object"), (6, .class_ 13), (1, u "com/example/tributary/tributary/ParallelRun"), (0, u "threads"), (0, u "Ljava/util/List;"), (5, u "lock"), (0, u "Ljava/util/concurrent/locks/ReentrantLock;"), (6, u "progress"), (0, u "Ljava/util/concurrent/locks/Condition;"), (2, u "settled"), (6, u "wanted"), (0, u "J"), (5, u "ready"), (0, u "Ljava/util/Map;"), (2, u "parts"), (2, u "relayLock"), (2, u "relayed"), (0, .class_ 59), (0, u "com/example/tributary/tributary/ParallelRun$Relays"), (3, u "relays"), (0, u "Lcom/example/tributary/tributary/ParallelRun$Relays;"), (2, u "source"), (0, u "Ljava/util/Spliterator;"), (2, u "workers"), (0, u "Lcom/example/tributary/tributary/Workers;"), (2, u "resultOf"), (0, u "Ljava/util/function/Function;"), (10, u "window"), (2, u "combiner"), (0, u "Ljava/util/function/BinaryOperator;"), (6, u "sought"), (0, u "Ljava/util/function/Predicate;"), (2, u "inOrder"), (0, u "Z"), (7, u "decided"), (2, u "failure"), (0, u "Ljava/lang/Throwable;"), (2, u "stopped"), (7, u "outcome"), (0, u "Ljava/lang/Object;"), (36, u "taken"), (25, u "working"), (0, u "I"), (6, u "started"), (8, u "starting"), (0, u "Ljava/lang/Thread;"), (45, .class_ 255), (0, u "com/example/tributary/tributary/ParallelRun$Unwanted"), (6, u "split"), (2, u "exhausted"), (6, .class_ 273), (0, u "com/example/tributary/tributary/ParallelRun$Batch"), (43, .class_ 319), (1, u "com/example/tributary/tributary/ParallelRun$Relay"), (25, .class_ 346), (0, u "java/util/Iterator"), (11, .class_ 359), (0, u "java/lang/AutoCloseable"), (0, u "CLOSED"), (0, u "Ljava/lang/String;"), (1, u "NONE"), (38, .class_ 403), (0, u "com/example/tributary/tributary/ParallelRun$Batch$InLane"), (0, .class_ 405), (0, u "com/example/tributary/tributary/ParallelRun$Lane")] 31

/-- com/example/tributary/tributary/ParallelRun -/
def k16 : Class := { plain "com/example/tributary/tributary/ParallelRun" (some 0) with
  accessFlags := 48
  interfaces := #[14, 15]
  cf := some (fileOf pool16 11 #[.nestMembers #[272, 402, 317, 58, 404, 254]] #[] 48 2 #[345, 358] #[{ accessFlags := 24, nameIndex := 360, descriptorIndex := 361, attributes := #[] }, { accessFlags := 26, nameIndex := 363, descriptorIndex := 41, attributes := #[] }, { accessFlags := 18, nameIndex := 67, descriptorIndex := 68, attributes := #[] }, { accessFlags := 18, nameIndex := 71, descriptorIndex := 72, attributes := #[] }, { accessFlags := 18, nameIndex := 75, descriptorIndex := 76, attributes := #[] }, { accessFlags := 18, nameIndex := 87, descriptorIndex := 41, attributes := #[] }, { accessFlags := 18, nameIndex := 14, descriptorIndex := 15, attributes := #[] }, { accessFlags := 2, nameIndex := 198, descriptorIndex := 103, attributes := #[] }, { accessFlags := 66, nameIndex := 207, descriptorIndex := 208, attributes := #[] }, { accessFlags := 18, nameIndex := 21, descriptorIndex := 22, attributes := #[] }, { accessFlags := 18, nameIndex := 29, descriptorIndex := 30, attributes := #[] }, { accessFlags := 18, nameIndex := 33, descriptorIndex := 30, attributes := #[] }, { accessFlags := 66, nameIndex := 40, descriptorIndex := 41, attributes := #[] }, { accessFlags := 2, nameIndex := 262, descriptorIndex := 41, attributes := #[] }, { accessFlags := 2, nameIndex := 164, descriptorIndex := 41, attributes := #[] }, { accessFlags := 2, nameIndex := 265, descriptorIndex := 103, attributes := #[] }, { accessFlags := 2, nameIndex := 118, descriptorIndex := 103, attributes := #[] }, { accessFlags := 18, nameIndex := 47, descriptorIndex := 48, attributes := #[] }, { accessFlags := 18, nameIndex := 51, descriptorIndex := 48, attributes := #[] }, { accessFlags := 2, nameIndex := 114, descriptorIndex := 115, attributes := #[] }, { accessFlags := 2, nameIndex := 190, descriptorIndex := 191, attributes := #[] }, { accessFlags := 18, nameIndex := 54, descriptorIndex := 22, attributes := #[] }, { accessFlags := 18, nameIndex := 57, descriptorIndex := 30, attributes := #[] }, { accessFlags := 18, nameIndex := 63, descriptorIndex := 64, attributes := #[] }, { accessFlags := 2, nameIndex := 90, descriptorIndex := 91, attributes := #[] }, { accessFlags := 2, nameIndex := 98, descriptorIndex := 99, attributes := #[] }, { accessFlags := 2, nameIndex := 102, descriptorIndex := 103, attributes := #[] }, { accessFlags := 2, nameIndex := 111, descriptorIndex := 103, attributes := #[] }, { accessFlags := 2, nameIndex := 126, descriptorIndex := 127, attributes := #[] }])
  fields := #[{ name := "CLOSED", type := (.object "java/lang/String"), accessFlags := 24, slot := 0, constantValue := 0 }, { name := "NONE", type := .long, accessFlags := 26, slot := 1, constantValue := 0 }, { name := "source", type := (.object "java/util/Spliterator"), accessFlags := 18, slot := 0, constantValue := 0 }, { name := "workers", type := (.object "com/example/tributary/tributary/Workers"), accessFlags := 18, slot := 1, constantValue := 0 }, { name := "resultOf", type := (.object "java/util/function/Function"), accessFlags := 18, slot := 2, constantValue := 0 }, { name := "window", type := .long, accessFlags := 18, slot := 3, constantValue := 0 }, { name := "threads", type := (.object "java/util/List"), accessFlags := 18, slot := 4, constantValue := 0 }, { name := "started", type := .boolean, accessFlags := 2, slot := 5, constantValue := 0 }, { name := "starting", type := (.object "java/lang/Thread"), accessFlags := 66, slot := 6, constantValue := 0 }, { name := "lock", type := (.object "java/util/concurrent/locks/ReentrantLock"), accessFlags := 18, slot := 7, constantValue := 0 }, { name := "progress", type := (.object "java/util/concurrent/locks/Condition"), accessFlags := 18, slot := 8, constantValue := 0 }, { name := "settled", type := (.object "java/util/concurrent/locks/Condition"), accessFlags := 18, slot := 9, constantValue := 0 }, { name := "wanted", type := .long, accessFlags := 66, slot := 10, constantValue := 0 }, { name := "split", type := .long, accessFlags := 2, slot := 11, constantValue := 0 }, { name := "taken", type := .long, accessFlags := 2, slot := 12, constantValue := 0 }, { name := "exhausted", type := .boolean, accessFlags := 2, slot := 13, constantValue := 0 }, { name := "stopped", type := .boolean, accessFlags := 2, slot := 14, constantValue := 0 }, { name := "ready", type := (.object "java/util/Map"), accessFlags := 18, slot := 15, constantValue := 0 }, { name := "parts", type := (.object "java/util/Map"), accessFlags := 18, slot := 16, constantValue := 0 }, { name := "failure", type := (.object "java/lang/Throwable"), accessFlags := 2, slot := 17, constantValue := 0 }, { name := "working", type := .int, accessFlags := 2, slot := 18, constantValue := 0 }, { name := "relayLock", type := (.object "java/util/concurrent/locks/ReentrantLock"), accessFlags := 18, slot := 19, constantValue := 0 }, { name := "relayed", type := (.object "java/util/concurrent/locks/Condition"), accessFlags := 18, slot := 20, constantValue := 0 }, { name := "relays", type := (.object "com/example/tributary/tributary/ParallelRun$Relays"), accessFlags := 18, slot := 21, constantValue := 0 }, { name := "combiner", type := (.object "java/util/function/BinaryOperator"), accessFlags := 2, slot := 22, constantValue := 0 }, { name := "sought", type := (.object "java/util/function/Predicate"), accessFlags := 2, slot := 23, constantValue := 0 }, { name := "inOrder", type := .boolean, accessFlags := 2, slot := 24, constantValue := 0 }, { name := "decided", type := .boolean, accessFlags := 2, slot := 25, constantValue := 0 }, { name := "outcome", type := (.object "java/lang/Object"), accessFlags := 2, slot := 26, constantValue := 0 }]
  methods := #[]
  instanceTypes := #[(.object "java/util/Spliterator"), (.object "com/example/tributary/tributary/Workers"), (.object "java/util/function/Function"), .long, (.object "java/util/List"), .boolean, (.object "java/lang/Thread"), (.object "java/util/concurrent/locks/ReentrantLock"), (.object "java/util/concurrent/locks/Condition"), (.object "java/util/concurrent/locks/Condition"), .long, .long, .long, .boolean, .boolean, (.object "java/util/Map"), (.object "java/util/Map"), (.object "java/lang/Throwable"), .int, (.object "java/util/concurrent/locks/ReentrantLock"), (.object "java/util/concurrent/locks/Condition"), (.object "com/example/tributary/tributary/ParallelRun$Relays"), (.object "java/util/function/BinaryOperator"), (.object "java/util/function/Predicate"), .boolean, .boolean, (.object "java/lang/Object")]
  staticTypes := #[(.object "java/lang/String"), .long]
  resolved := Array.replicate 437 none
  statics := none }

/-- the primitive byte -/
def k17 : Class := { plain "byte" none with kind := .primitive 'B', accessFlags := 0x411 }
/-- [B -/
def k18 : Class := { plain "[B" (some 0) with kind := .array 17 .byte, interfaces := #[11, 12], accessFlags := 1041 }

/-- the primitive int -/
def k19 : Class := { plain "int" none with kind := .primitive 'I', accessFlags := 0x411 }
/-- [I -/
def k20 : Class := { plain "[I" (some 0) with kind := .array 19 .int, interfaces := #[11, 12], accessFlags := 1041 }

/-- [Ljava/lang/Object; -/
def k21 : Class := { plain "[Ljava/lang/Object;" (some 0) with kind := .array 0 (.object "java/lang/Object"), interfaces := #[11, 12], accessFlags := 1041 }

def heap : Heap := #[{ cls := 13, slots := #[.long 0, .int 0, .ref 2, .ref 3], vm := .statics 13 },
  { cls := 16, slots := #[], vm := .none },
  { cls := 21, slots := #[], vm := .none },
  { cls := 21, slots := #[], vm := .none }]
def classes : Array Class := #[k0, k1, k2, k3, k4, k5, k6, k7, k8, k9, k10, k11, k12, k13, k14, k15, k16, k17, k18, k19, k20, k21]
def interned : List (Array UInt16 × Addr) := []
def slotsUsed : Nat := 4
def theMethod : MethodId := ⟨1, 1⟩
def args0 : Array Value := #[.long 5, .long 5]
def aboutOver (below : List Frame) : State where
  vm := { classes := classes, interned := interned.toArray }
  heap := heap
  slotsUsed := slotsUsed
  threads := #[{ frames := .invoking theMethod args0 :: below }]
def below0 : List Frame := [.native { method := ⟨0, 0⟩, args := #[] }]
def about1 : State := aboutOver below0
def p0 : Program := .bare "" "" ""
def e0 : Env := launch0.env 0 0 0
theorem w_frames : about1.frames = Frame.invoking theMethod args0 :: below0 := rfl
set_option maxRecDepth 65536 in
theorem w_args : argsFit about1.vm theMethod args0 = true := by decide +kernel
set_option maxRecDepth 65536 in
theorem w_heap : heapFits about1 = true := by decide +kernel
set_option maxRecDepth 65536 in
theorem w_runnable : about1.curStatus? = some .runnable := by decide +kernel
set_option maxRecDepth 65536 in
theorem w_alone : about1.alone = true := by decide +kernel
set_option maxRecDepth 65536 in
theorem w_named : about1.methodNamed? x = some theMethod := by decide +kernel
set_option maxRecDepth 65536 in
theorem w_hears : about1.hears theMethod below0 = true := by decide +kernel
set_option maxRecDepth 65536 in
theorem w_ripe : about1.ripe theMethod args0 below0 = true := by decide +kernel
theorem w_running : about1.status = .running := rfl
set_option maxRecDepth 65536 in
theorem w_room : about1.hasRoom e0.platform room_1 = true :=
  launch0.hasRoom_least _ room_1 (by decide +kernel) (by decide +kernel) (by decide +kernel) (by decide +kernel) (by decide +kernel) (by decide +kernel)
theorem allAtoms_all (ts : List Jvm.Cond) (a : Array Jvm.Value) (st : Jvm.State) : (allAtoms ts).before a st = ts.all (fun c => c.before a st) := by
  induction ts with
  | nil => rfl
  | cons c t ih =>
    show (Jvm.Cond.and c (allAtoms t)).before a st = _
    rw [Jvm.Cond.before_and, ih, List.all_cons]
def words1 : List Jvm.Cond := Jvm.Cond.code x code maxLocals ret :: tables_1
/-- a 'code' word, met by the world's own term for the bytes: nothing is compared byte by byte -/
theorem code_word {y : MethodName} {bytes : ByteArray} {mx : Nat} {rt : Option FieldType} {a : Array Value} {s : State} {m : MethodId} {meth : Method} {c : Code} (h1 : s.methodNamed? y = some m) (h2 : s.vm.method? m = some meth) (h3 : meth.code = some c) (h4 : c.code = bytes)
    (h5 : (c.maxLocals == mx && c.exceptionTable.isEmpty && decide (c.maxStack ≤ mostOperands) && decide (meth.sig.returnType = rt) && !meth.locks && decide (parseMethodDescriptor y.desc = some meth.sig)) = true) : (Jvm.Cond.code y bytes mx rt).before a s = true := by
  simp only [Bool.and_eq_true, beq_iff_eq, Bool.not_eq_true', decide_eq_true_eq] at h5
  obtain ⟨⟨⟨⟨⟨g1, g2⟩, g3⟩, g4⟩, g5⟩, g6⟩ := h5
  simp [Cond.before, Cond.holds, Cond.value, h1, h2, h3, h4, g1, g2, g3, g4, g5, g6]
def isCode : Jvm.Cond → Bool
  | .code _ _ _ _ => true
  | _ => false
theorem all_split {L : List Jvm.Cond} {P : Jvm.Cond → Bool} (h1 : L.all (fun c => isCode c || P c) = true) (h2 : ∀ c ∈ L.filter isCode, P c = true) : L.all P = true := by
  refine List.all_eq_true.mpr fun c hc => ?_
  have h := List.all_eq_true.mp h1 c hc
  rcases Bool.eq_false_or_eq_true (isCode c) with hi | hi
  · exact h2 c (List.mem_filter.mpr ⟨hc, hi⟩)
  · simpa [hi] using h
set_option maxRecDepth 65536 in
theorem w_c0 : (Jvm.Cond.code x code maxLocals ret).before args0 about1 = true := code_word (m := ⟨1, 1⟩) (meth := k1m1) (c := k1c1) (by decide +kernel) rfl rfl rfl (by decide +kernel)
set_option maxRecDepth 65536 in
theorem w_c1 : (Jvm.Cond.code ({ cls := "com/example/tributary/tributary/ParallelRun$Lane", name := "<init>", desc := "()V" } : Jvm.MethodName) prog_29_method_1_code (1 : Nat) (Option.none : Option Jvm.ClassFile.FieldType)).before args0 about1 = true := code_word (m := ⟨2, 0⟩) (meth := k2m0) (c := k2c0) (by decide +kernel) rfl rfl rfl (by decide +kernel)
set_option maxRecDepth 65536 in
theorem w_c2 : (Jvm.Cond.code ({ cls := "java/lang/Object", name := "<init>", desc := "()V" } : Jvm.MethodName) object_method_1_code (1 : Nat) (Option.none : Option Jvm.ClassFile.FieldType)).before args0 about1 = true := code_word (m := ⟨0, 0⟩) (meth := k0m0) (c := k0c0) (by decide +kernel) rfl rfl rfl (by decide +kernel)
set_option maxRecDepth 65536 in
theorem w_c3 : (Jvm.Cond.code ({ cls := "com/example/tributary/tributary/ParallelRun$Relays", name := "<init>", desc := "()V" } : Jvm.MethodName) prog_31_method_1_code (1 : Nat) (Option.none : Option Jvm.ClassFile.FieldType)).before args0 about1 = true := code_word (m := ⟨3, 0⟩) (meth := k3m0) (c := k3c0) (by decide +kernel) rfl rfl rfl (by decide +kernel)
set_option maxRecDepth 65536 in
theorem w_c4 : (Jvm.Cond.code ({ cls := "java/util/ArrayList", name := "<init>", desc := "()V" } : Jvm.MethodName) jdk_38_method_2_code (1 : Nat) (Option.none : Option Jvm.ClassFile.FieldType)).before args0 about1 = true := code_word (m := ⟨13, 0⟩) (meth := k13m0) (c := k13c0) (by decide +kernel) rfl rfl rfl (by decide +kernel)
set_option maxRecDepth 65536 in
theorem w_c5 : (Jvm.Cond.code ({ cls := "java/util/AbstractList", name := "<init>", desc := "()V" } : Jvm.MethodName) jdk_39_method_1_code (1 : Nat) (Option.none : Option Jvm.ClassFile.FieldType)).before args0 about1 = true := code_word (m := ⟨9, 0⟩) (meth := k9m0) (c := k9c0) (by decide +kernel) rfl rfl rfl (by decide +kernel)
set_option maxRecDepth 65536 in
theorem w_c6 : (Jvm.Cond.code ({ cls := "java/util/AbstractCollection", name := "<init>", desc := "()V" } : Jvm.MethodName) jdk_22_method_1_code (1 : Nat) (Option.none : Option Jvm.ClassFile.FieldType)).before args0 about1 = true := code_word (m := ⟨6, 0⟩) (meth := k6m0) (c := k6c0) (by decide +kernel) rfl rfl rfl (by decide +kernel)
set_option maxRecDepth 65536 in
theorem w_c7 : (Jvm.Cond.code ({ cls := "com/example/tributary/tributary/ParallelRun$Lane", name := "wants", desc := "(J)Z" } : Jvm.MethodName) prog_29_method_2_code (3 : Nat) (Option.some Jvm.ClassFile.FieldType.boolean)).before args0 about1 = true := code_word (m := ⟨2, 1⟩) (meth := k2m1) (c := k2c1) (by decide +kernel) rfl rfl rfl (by decide +kernel)
def codes1 : List Jvm.Cond := [Jvm.Cond.code x code maxLocals ret, Jvm.Cond.code ({ cls := "com/example/tributary/tributary/ParallelRun$Lane", name := "<init>", desc := "()V" } : Jvm.MethodName) prog_29_method_1_code (1 : Nat) (Option.none : Option Jvm.ClassFile.FieldType), Jvm.Cond.code ({ cls := "java/lang/Object", name := "<init>", desc := "()V" } : Jvm.MethodName) object_method_1_code (1 : Nat) (Option.none : Option Jvm.ClassFile.FieldType), Jvm.Cond.code ({ cls := "com/example/tributary/tributary/ParallelRun$Relays", name := "<init>", desc := "()V" } : Jvm.MethodName) prog_31_method_1_code (1 : Nat) (Option.none : Option Jvm.ClassFile.FieldType), Jvm.Cond.code ({ cls := "java/util/ArrayList", name := "<init>", desc := "()V" } : Jvm.MethodName) jdk_38_method_2_code (1 : Nat) (Option.none : Option Jvm.ClassFile.FieldType), Jvm.Cond.code ({ cls := "java/util/AbstractList", name := "<init>", desc := "()V" } : Jvm.MethodName) jdk_39_method_1_code (1 : Nat) (Option.none : Option Jvm.ClassFile.FieldType), Jvm.Cond.code ({ cls := "java/util/AbstractCollection", name := "<init>", desc := "()V" } : Jvm.MethodName) jdk_22_method_1_code (1 : Nat) (Option.none : Option Jvm.ClassFile.FieldType), Jvm.Cond.code ({ cls := "com/example/tributary/tributary/ParallelRun$Lane", name := "wants", desc := "(J)Z" } : Jvm.MethodName) prog_29_method_2_code (3 : Nat) (Option.some Jvm.ClassFile.FieldType.boolean)]
set_option maxRecDepth 65536 in
theorem codes_eq : words1.filter isCode = codes1 := rfl
theorem w_codes : ∀ c ∈ words1.filter isCode, c.before args0 about1 = true := by
  rw [codes_eq]
  intro c hc
  simp only [codes1, List.mem_cons, List.not_mem_nil, or_false] at hc
  rcases hc with rfl | rfl | rfl | rfl | rfl | rfl | rfl | rfl
  · exact w_c0
  · exact w_c1
  · exact w_c2
  · exact w_c3
  · exact w_c4
  · exact w_c5
  · exact w_c6
  · exact w_c7
set_option maxRecDepth 65536 in
theorem w_t1 : (words1.take 24).all (fun c => isCode c || c.before args0 about1) = true := by decide +kernel
set_option maxRecDepth 65536 in
theorem w_t2 : ((words1.drop 24).take 24).all (fun c => isCode c || c.before args0 about1) = true := by decide +kernel
set_option maxRecDepth 65536 in
theorem w_t3 : ((words1.drop 24).drop 24).all (fun c => isCode c || c.before args0 about1) = true := by decide +kernel
theorem w_tables : (allAtoms (Jvm.Cond.code x code maxLocals ret :: tables_1)).before args0 about1 = true := by
  rw [allAtoms_all]
  show words1.all (fun c => c.before args0 about1) = true
  refine all_split ?_ w_codes
  rw [← List.take_append_drop 24 words1, List.all_append, w_t1, ← List.take_append_drop 24 (words1.drop 24), List.all_append, w_t2, w_t3]
  rfl
set_option maxRecDepth 65536 in
theorem w_rest : rest_1_c.before args0 about1 = true := by decide +kernel
set_option maxRecDepth 65536 in
theorem w_case : (Jvm.Cond.and given_1 narrow_1).before args0 about1 = true := by decide +kernel
theorem w_applies : (headSpec (Jvm.Cond.code x code maxLocals ret :: tables_1) room_1).applies x e0.platform about1 = true :=
  (Spec.applies_iff w_frames).mpr ⟨w_running, w_runnable, w_alone, w_named, w_hears, w_ripe, w_room, w_tables⟩
theorem atStart : AtStart classFile x code maxLocals ret World_1 tables_1 room_1 Calls_1 rest_1 Pre_1 launch0 p0 e0 about1 theMethod args0 below0 :=
  ⟨lists_1, trivial, launch0.admits_env _ _ _, launch0.least_env, fairChoices_fair.cas, fairChoices_fair.clock, w_frames, w_args, w_heap, w_applies, trivial, w_rest, w_case⟩
end start1
theorem witness_1 : WitnessClaimed_1 := ⟨start1.p0, start1.e0, start1.about1, start1.theMethod, start1.args0, start1.below0, start1.atStart⟩
end Jvm.Pilot.@@N@@
