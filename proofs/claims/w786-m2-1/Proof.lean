import JvmDerived
import JvmDerived.Pilot.@@N@@Statement
import JvmDerived.Pilot.@@N@@Code
set_option linter.unusedVariables false
set_option linter.unusedSimpArgs false
namespace Jvm.Pilot.@@N@@
open Jvm Jvm.ClassFile Sem Op Lib Jvm.Free Jvm.Stand Jvm.LawKit Jvm.RoadKit Bundle Jvm.Pilot.@@N@@.Jvm.D

section OwnKit
/-- from here the run comes to a return that says Q -/
def OFin (n0 : Nat) (p : Program) (e : Env) (below : List Frame) (s : State) (Q : Option Value → Heap → Prop) (ck sk : Nat) (T : State) (g : JFrame) : Prop :=
  ∃ s₂ o, Steps p.tables e below (T.setTop g) s₂ ∧ s₂.status = .running ∧ Ended s₂ below o ∧ ∃ v L, o = .returned v ∧ (Fr n0 L ∧ n0 ≤ s₂.heap.size ∧ Q v s₂.heap) ∧ FrameEnd s o s₂ L ck sk
/-- where the walk of a body stands, with all that is known of the body -/
def OG (l : Launch) (Z : State) (y : MethodName) (bytes : ByteArray) (maxl : Nat) (ret : Option FieldType) (n0 : Nat) (p : Program) (e : Env) (R : Room) (s : State) (m : MethodId) (args : Array Value) (below : List Frame) (meth : Method) (c : Code) (T : State) (h : Heap) (cells slots : Nat) : Prop :=
  p.tables.exec = Jvm.exec ∧ c.code = bytes ∧ c.maxLocals = maxl ∧ s.vm.findClass y.cls = some m.cls ∧ meth.name = y.name ∧ meth.sig.returnType = ret ∧ meth.locks = false ∧ Z.Warmed39 s.vm ∧ T.heap = h ∧ n0 ≤ h.size ∧ ∃ locs, Stand p l e R s m args below meth c T locs cells slots ∧ Fr n0 locs
/-- a body's contract -/
def OMet (l : Launch) (Z : State) (y : MethodName) (bytes : ByteArray) (maxl : Nat) (ret : Option FieldType) (rm : Room) (as' : Array Value) (h0 : Heap) (n0 : Nat) (ck sk : Nat) (Q : Option Value → Heap → Prop) : Prop :=
  ∀ ws : List Jvm.Cond, MetFree l y (head1 (Jvm.Cond.code y bytes maxl ret :: ws) rm) (fun a U => a = as' ∧ Z.Warmed39 U.vm ∧ U.heap = h0) (fun _ _ _ _ _ => True) (fun _ U o U' => ∃ v L, o = .returned v ∧ (Fr n0 L ∧ n0 ≤ U'.heap.size ∧ Q v U'.heap) ∧ FrameEnd U o U' L ck sk)
variable {l : Launch} {Z : State} {y : MethodName} {bytes : ByteArray} {maxl : Nat} {ret : Option FieldType} {n0 : Nat} {p : Program} {e : Env} {R : Room} {s : State} {m : MethodId} {args : Array Value} {below : List Frame} {meth : Method} {c : Code} {T : State} {h : Heap} {cells slots ck sk : Nat} {Q : Option Value → Heap → Prop} {pc pc' : Nat} {Ls : Array Slot} {rest : List Value} {a0 : Array Value}
theorem o_step {T' : State} {g g' : JFrame} (st : ∀ t, Steps p.tables e below (T'.setTop g') t → Steps p.tables e below (T.setTop g) t) (k : OFin n0 p e below s Q ck sk T' g') : OFin n0 p e below s Q ck sk T g := by
  obtain ⟨s₂, o, h1, r⟩ := k
  exact ⟨s₂, o, st _ h1, r⟩
theorem o_body {rm : Room} {as' : Array Value} {h0 : Heap} (hy : plainFor y = true) (hz : n0 ≤ h0.size) (hent : ∀ m, entryFrame m as' maxl = mkF m 0 Ls [])
    (body : ∀ (p : Program) (e : Env) (s : State) (m : MethodId) (below : List Frame) (meth : Method) (c : Code) (s₁ : State), OG l Z y bytes maxl ret n0 p e rm s m as' below meth c s₁ h0 0 0 → OFin n0 p e below s Q ck sk s₁ (mkF m 0 Ls [])) : OMet l Z y bytes maxl ret rm as' h0 n0 ck sk Q := by
  intro ws
  refine MetFree.of_bodySF hy hisR ?_
  intro p e s m args below meth c s₁ Bd hml0 hP hK
  obtain ⟨ha, hZ, hh⟩ := hP
  subst ha
  have e0 : s₁.heap = h0 := by rw [← hh, Bd.state]; rfl
  have k := body p e s m below meth c s₁ ⟨Bd.exec, Bd.bytes, hml0, findClass_of_methodNamed Bd.named, (name_of_methodNamed Bd.named Bd.method).1, Bd.returns, Bd.notSynchronized, hZ, e0, hz, [], Stand.of_body Bd, Fr.nil n0⟩
  rw [← hent m] at k
  exact k
theorem OG.sz (G : OG l Z y bytes maxl ret n0 p e R s m args below meth c T h cells slots) : n0 ≤ h.size := G.2.2.2.2.2.2.2.2.2.1
theorem OG.eh (G : OG l Z y bytes maxl ret n0 p e R s m args below meth c T h cells slots) : T.heap = h := G.2.2.2.2.2.2.2.2.1
theorem OG.wm (G : OG l Z y bytes maxl ret n0 p e R s m args below meth c T h cells slots) : Z.Warmed39 s.vm := G.2.2.2.2.2.2.2.1
theorem o_iload (G : OG l Z y bytes maxl ret n0 p e R s m args below meth c T h cells slots) {k0 : Nat} {v : Int32} (hd : decode bytes pc = .ok (.iload k0, 2)) (hp : pc + 2 = pc') (hl : Ls[k0]? = some (.val (.int v))) (k : OFin n0 p e below s Q ck sk T (mkF m pc' Ls (.int v :: rest))) : OFin n0 p e below s Q ck sk T (mkF m pc Ls rest) := by
  subst hp
  obtain ⟨hx, hby, -, -, -, -, -, -, -, -, locs, X, -⟩ := G
  exact o_step (fun _ hr => XS.iload X.here hx rfl (hb hby hd) hl hr) k
theorem o_lloadN (G : OG l Z y bytes maxl ret n0 p e R s m args below meth c T h cells slots) {k0 : Fin 4} {v : Int64} (hd : decode bytes pc = .ok (.lload_n k0, 1)) (hp : pc + 1 = pc') (hl : Ls[k0.val]? = some (.val (.long v))) (k : OFin n0 p e below s Q ck sk T (mkF m pc' Ls (.long v :: rest))) : OFin n0 p e below s Q ck sk T (mkF m pc Ls rest) := by
  subst hp
  obtain ⟨hx, hby, -, -, -, -, -, -, -, -, locs, X, -⟩ := G
  exact o_step (fun _ hr => XS.lloadN X.here hx rfl (hb hby hd) hl hr) k
theorem o_lload (G : OG l Z y bytes maxl ret n0 p e R s m args below meth c T h cells slots) {k0 : Nat} {v : Int64} (hd : decode bytes pc = .ok (.lload k0, 2)) (hp : pc + 2 = pc') (hl : Ls[k0]? = some (.val (.long v))) (k : OFin n0 p e below s Q ck sk T (mkF m pc' Ls (.long v :: rest))) : OFin n0 p e below s Q ck sk T (mkF m pc Ls rest) := by
  subst hp
  obtain ⟨hx, hby, -, -, -, -, -, -, -, -, locs, X, -⟩ := G
  exact o_step (fun _ hr => XS.lload X.here hx rfl (hb hby hd) hl hr) k
theorem o_istore (G : OG l Z y bytes maxl ret n0 p e R s m args below meth c T h cells slots) {k0 : Nat} {v : Int32} {l' : Array Slot} (hd : decode bytes pc = .ok (.istore k0, 2)) (hp : pc + 2 = pc') (hl : storeLocals Ls k0 (.int v) = some l') (k : OFin n0 p e below s Q ck sk T (mkF m pc' l' rest)) : OFin n0 p e below s Q ck sk T (mkF m pc Ls (.int v :: rest)) := by
  subst hp
  obtain ⟨hx, hby, -, -, -, -, -, -, -, -, locs, X, -⟩ := G
  exact o_step (fun _ hr => XS.istore X.here hx rfl (hb hby hd) rfl hl hr) k
theorem o_lstoreN (G : OG l Z y bytes maxl ret n0 p e R s m args below meth c T h cells slots) {k0 : Fin 4} {v : Int64} {l' : Array Slot} (hd : decode bytes pc = .ok (.lstore_n k0, 1)) (hp : pc + 1 = pc') (hl : storeLocals Ls k0.val (.long v) = some l') (k : OFin n0 p e below s Q ck sk T (mkF m pc' l' rest)) : OFin n0 p e below s Q ck sk T (mkF m pc Ls (.long v :: rest)) := by
  subst hp
  obtain ⟨hx, hby, -, -, -, -, -, -, -, -, locs, X, -⟩ := G
  exact o_step (fun _ hr => XS.lstoreN X.here hx rfl (hb hby hd) rfl hl hr) k
theorem o_lstore (G : OG l Z y bytes maxl ret n0 p e R s m args below meth c T h cells slots) {k0 : Nat} {v : Int64} {l' : Array Slot} (hd : decode bytes pc = .ok (.lstore k0, 2)) (hp : pc + 2 = pc') (hl : storeLocals Ls k0 (.long v) = some l') (k : OFin n0 p e below s Q ck sk T (mkF m pc' l' rest)) : OFin n0 p e below s Q ck sk T (mkF m pc Ls (.long v :: rest)) := by
  subst hp
  obtain ⟨hx, hby, -, -, -, -, -, -, -, -, locs, X, -⟩ := G
  exact o_step (fun _ hr => XS.lstore X.here hx rfl (hb hby hd) rfl hl hr) k
theorem o_iconst (G : OG l Z y bytes maxl ret n0 p e R s m args below meth c T h cells slots) {i : Int} {v : Int32} (hd : decode bytes pc = .ok (.iconst i, 1)) (hp : pc + 1 = pc') (hv : Int32.ofInt i = v) (k : OFin n0 p e below s Q ck sk T (mkF m pc' Ls (.int v :: rest))) : OFin n0 p e below s Q ck sk T (mkF m pc Ls rest) := by
  subst hp
  subst hv
  obtain ⟨hx, hby, -, -, -, -, -, -, -, -, locs, X, -⟩ := G
  exact o_step (fun _ hr => XS.iconst X.here hx rfl (hb hby hd) hr) k
theorem o_bipush (G : OG l Z y bytes maxl ret n0 p e R s m args below meth c T h cells slots) {i : Int} {v : Int32} (hd : decode bytes pc = .ok (.bipush i, 2)) (hp : pc + 2 = pc') (hv : (Int8.ofInt i).toInt32 = v) (k : OFin n0 p e below s Q ck sk T (mkF m pc' Ls (.int v :: rest))) : OFin n0 p e below s Q ck sk T (mkF m pc Ls rest) := by
  subst hp
  subst hv
  obtain ⟨hx, hby, -, -, -, -, -, -, -, -, locs, X, -⟩ := G
  exact o_step (fun _ hr => XS.bipush X.here hx rfl (hb hby hd) hr) k
theorem o_lconst (G : OG l Z y bytes maxl ret n0 p e R s m args below meth c T h cells slots) {i : Fin 2} {v : Int64} (hd : decode bytes pc = .ok (.lconst i, 1)) (hp : pc + 1 = pc') (hv : Int64.ofNat i = v) (k : OFin n0 p e below s Q ck sk T (mkF m pc' Ls (.long v :: rest))) : OFin n0 p e below s Q ck sk T (mkF m pc Ls rest) := by
  subst hp
  subst hv
  obtain ⟨hx, hby, -, -, -, -, -, -, -, -, locs, X, -⟩ := G
  exact o_step (fun _ hr => XS.lconst X.here hx rfl (hb hby hd) hr) k
theorem o_lsub (G : OG l Z y bytes maxl ret n0 p e R s m args below meth c T h cells slots) {u w v : Int64} (hd : decode bytes pc = .ok (.lsub, 1)) (hp : pc + 1 = pc') (hv : u - w = v) (k : OFin n0 p e below s Q ck sk T (mkF m pc' Ls (.long v :: rest))) : OFin n0 p e below s Q ck sk T (mkF m pc Ls (.long w :: .long u :: rest)) := by
  subst hp
  subst hv
  obtain ⟨hx, hby, -, -, -, -, -, -, -, -, locs, X, -⟩ := G
  exact o_step (fun _ hr => XS.lsub X.here hx rfl (hb hby hd) rfl hr) k
theorem o_lmul (G : OG l Z y bytes maxl ret n0 p e R s m args below meth c T h cells slots) {u w v : Int64} (hd : decode bytes pc = .ok (.lmul, 1)) (hp : pc + 1 = pc') (hv : u * w = v) (k : OFin n0 p e below s Q ck sk T (mkF m pc' Ls (.long v :: rest))) : OFin n0 p e below s Q ck sk T (mkF m pc Ls (.long w :: .long u :: rest)) := by
  subst hp
  subst hv
  obtain ⟨hx, hby, -, -, -, -, -, -, -, -, locs, X, -⟩ := G
  exact o_step (fun _ hr => XS.lmul X.here hx rfl (hb hby hd) rfl hr) k
theorem o_lxor (G : OG l Z y bytes maxl ret n0 p e R s m args below meth c T h cells slots) {u w v : Int64} (hd : decode bytes pc = .ok (.lxor, 1)) (hp : pc + 1 = pc') (hv : u ^^^ w = v) (k : OFin n0 p e below s Q ck sk T (mkF m pc' Ls (.long v :: rest))) : OFin n0 p e below s Q ck sk T (mkF m pc Ls (.long w :: .long u :: rest)) := by
  subst hp
  subst hv
  obtain ⟨hx, hby, -, -, -, -, -, -, -, -, locs, X, -⟩ := G
  exact o_step (fun _ hr => XS.lxor X.here hx rfl (hb hby hd) rfl hr) k
theorem o_lushr (G : OG l Z y bytes maxl ret n0 p e R s m args below meth c T h cells slots) {u v : Int64} {w : Int32} (hd : decode bytes pc = .ok (.lushr, 1)) (hp : pc + 1 = pc') (hv : (u.toUInt64 >>> (w &&& 0x3f).toInt64.toUInt64).toInt64 = v) (k : OFin n0 p e below s Q ck sk T (mkF m pc' Ls (.long v :: rest))) : OFin n0 p e below s Q ck sk T (mkF m pc Ls (.int w :: .long u :: rest)) := by
  subst hp
  subst hv
  obtain ⟨hx, hby, -, -, -, -, -, -, -, -, locs, X, -⟩ := G
  exact o_step (fun _ hr => XS.lushr X.here hx rfl (hb hby hd) rfl hr) k
theorem o_goto (G : OG l Z y bytes maxl ret n0 p e R s m args below meth c T h cells slots) {o : Int} (hd : decode bytes pc = .ok (.goto o, 3)) (ho : 0 ≤ (pc : Int) + o) (hp : ((pc : Int) + o).toNat = pc') (k : OFin n0 p e below s Q ck sk T (mkF m pc' Ls rest)) : OFin n0 p e below s Q ck sk T (mkF m pc Ls rest) := by
  obtain ⟨hx, hby, -, -, -, -, -, -, -, -, locs, X, -⟩ := G
  exact o_step (fun _ hr => XS.goto X.here hx rfl (pc0 := pc) (pc' := pc') rfl (hb hby hd) ho hp hr) k
theorem o_if_eq (G : OG l Z y bytes maxl ret n0 p e R s m args below meth c T h cells slots) {o : Int} {pcT : Nat} {u : Int32} (hd : decode bytes pc = .ok (.ifCond .eq o, 3)) (ho : 0 ≤ (pc : Int) + o) (hpT : ((pc : Int) + o).toNat = pcT) (hp : pc + 3 = pc') (kT : u = (0 : Int32) → OFin n0 p e below s Q ck sk T (mkF m pcT Ls rest)) (kF : ¬ u = (0 : Int32) → OFin n0 p e below s Q ck sk T (mkF m pc' Ls rest)) : OFin n0 p e below s Q ck sk T (mkF m pc Ls (.int u :: rest)) := by
  subst hp
  obtain ⟨hx, hby, -, -, -, -, -, -, -, -, locs, X, -⟩ := G
  by_cases q : u = (0 : Int32)
  · exact o_step (fun _ hr => XS.ifYes X.here hx rfl (pc0 := pc) (pc' := pcT) rfl (hb hby hd) rfl ((if0 _ _).trans (teq q).1) ho hpT hr) (kT q)
  · exact o_step (fun _ hr => XS.ifNo X.here hx rfl (hb hby hd) rfl ((if0 _ _).trans (feq q).1) hr) (kF q)
theorem o_if_ne (G : OG l Z y bytes maxl ret n0 p e R s m args below meth c T h cells slots) {o : Int} {pcT : Nat} {u : Int32} (hd : decode bytes pc = .ok (.ifCond .ne o, 3)) (ho : 0 ≤ (pc : Int) + o) (hpT : ((pc : Int) + o).toNat = pcT) (hp : pc + 3 = pc') (kT : ¬ u = (0 : Int32) → OFin n0 p e below s Q ck sk T (mkF m pcT Ls rest)) (kF : u = (0 : Int32) → OFin n0 p e below s Q ck sk T (mkF m pc' Ls rest)) : OFin n0 p e below s Q ck sk T (mkF m pc Ls (.int u :: rest)) := by
  subst hp
  obtain ⟨hx, hby, -, -, -, -, -, -, -, -, locs, X, -⟩ := G
  by_cases q : ¬ u = (0 : Int32)
  · exact o_step (fun _ hr => XS.ifYes X.here hx rfl (pc0 := pc) (pc' := pcT) rfl (hb hby hd) rfl ((if0 _ _).trans (feq q).2) ho hpT hr) (kT q)
  · have q := Decidable.not_not.mp q
    exact o_step (fun _ hr => XS.ifNo X.here hx rfl (hb hby hd) rfl ((if0 _ _).trans (teq q).2) hr) (kF q)
theorem o_lcmp_ne (G : OG l Z y bytes maxl ret n0 p e R s m args below meth c T h cells slots) {o : Int} {pc1 pcT : Nat} {u w : Int64} (hd : decode bytes pc = .ok (.lcmp, 1)) (hp1 : pc + 1 = pc1) (hd2 : decode bytes pc1 = .ok (.ifCond .ne o, 3)) (ho : 0 ≤ (pc1 : Int) + o) (hpT : ((pc1 : Int) + o).toNat = pcT) (hp : pc1 + 3 = pc') (kT : ¬ u = w → OFin n0 p e below s Q ck sk T (mkF m pcT Ls rest)) (kF : u = w → OFin n0 p e below s Q ck sk T (mkF m pc' Ls rest)) : OFin n0 p e below s Q ck sk T (mkF m pc Ls (.long w :: .long u :: rest)) := by
  have G0 := G
  obtain ⟨hx, hby, -, -, -, -, -, -, -, -, locs, X, -⟩ := G
  subst hp1
  refine o_step (fun _ hr => XS.lcmp X.here hx rfl (hb hby hd) rfl hr) ?_
  show OFin n0 p e below s Q ck sk T (mkF m (pc + 1) Ls (.int (lcmpW u w) :: rest))
  refine o_if_ne G0 hd2 ho hpT hp (fun q => kT ?_) (fun q => kF ?_)
  · simpa only [lw_eq] using q
  · simpa only [lw_eq] using q
theorem o_ldc2 (G : OG l Z y bytes maxl ret n0 p e R s m args below meth c T h cells slots) {index : Nat} {v : Int64} (hd : decode bytes pc = .ok (.ldc2_w index, 3)) (hp : pc + 3 = pc') (w : (Jvm.Cond.constantLong y.cls index v).before a0 Z = true) (k : OFin n0 p e below s Q ck sk T (mkF m pc' Ls (.long v :: rest))) : OFin n0 p e below s Q ck sk T (mkF m pc Ls rest) := by
  subst hp
  obtain ⟨hx, hby, -, hown, -, -, -, hZ, -, -, locs, X, -⟩ := G
  exact o_step (fun _ hr => X.ldc2Long hx hown (mvT hZ w) (g := (mkF m pc Ls rest)) rfl (hb hby hd) _ hr) k
theorem o_lreturn {v : Int64} (G : OG l Z y bytes maxl (some .long) n0 p e R s m args below meth c T h cells slots)  (hd : decode bytes pc = .ok (.lreturn, 1)) (hq : Q (some (.long v)) h) (hc : cells ≤ ck) (hs : slots ≤ sk) : OFin n0 p e below s Q ck sk T (mkF m pc Ls (.long v :: rest)) := by
  obtain ⟨hx, hby, -, -, -, hret, hlk, -, eT, hz, locs, X, N⟩ := G
  obtain ⟨fs, hr, hrun, hended, hW, hsame⟩ := X.leave (v := some (.long v)) (fun h => by rw [hret] at h; cases h) hlk
  refine ⟨_, _, retOut X hx hret rfl (Or.inr (Or.inl ⟨rfl, rfl, _, rfl⟩)) (hb hby hd) hr, hrun, hended, _, _, rfl, ⟨N, ?_, ?_⟩, ⟨_, rfl⟩, hW, hsame.mono hc hs⟩
  · show n0 ≤ T.heap.size
    rw [eT]; exact hz
  · show Q _ T.heap
    rw [eT]; exact hq
theorem o_nreturn {v : Int32} {t : FieldType} (G : OG l Z y bytes maxl (some t) n0 p e R s m args below meth c T h cells slots) (ht : t = .boolean ∨ t = .byte ∨ t = .char ∨ t = .short) (hd : decode bytes pc = .ok (.ireturn, 1)) (hq : Q (some (.int (nar t v))) h) (hc : cells ≤ ck) (hs : slots ≤ sk) : OFin n0 p e below s Q ck sk T (mkF m pc Ls (.int v :: rest)) := by
  obtain ⟨hx, hby, -, -, -, hret, hlk, -, eT, hz, locs, X, N⟩ := G
  obtain ⟨fs, hr, hrun, hended, hW, hsame⟩ := X.leave (v := some (.int (nar t v))) (fun h => by rw [hret] at h; cases h) hlk
  refine ⟨_, _, retN X hx hret ht (hb hby hd) hr, hrun, hended, _, _, rfl, ⟨N, ?_, ?_⟩, ⟨_, rfl⟩, hW, hsame.mono hc hs⟩
  · show n0 ≤ T.heap.size
    rw [eT]; exact hz
  · show Q _ T.heap
    rw [eT]; exact hq
theorem o_callS (G : OG l Z y bytes maxl ret n0 p e R s m args below meth c T h cells slots) {z : MethodName} {bz : ByteArray} {mz : Nat} {rz : Option FieldType} {rm : Room} {Q' : Option Value → Heap → Prop} {index W : Nat} {argsL st : List Value} (w1 : (Jvm.Cond.methodLink y.cls index z).before a0 Z = true) (w2 : (Jvm.Cond.static z).before a0 Z = true) (hd : decode bytes pc = .ok (.invokestatic index, 3))
    (hy : z.cls ≠ "java/lang/invoke/MethodHandle" ∧ z.cls ≠ "java/lang/invoke/VarHandle") (w3 : (Jvm.Cond.initialized z.cls).before a0 Z = true) (w4 : (Jvm.Cond.code z bz mz rz).before a0 Z = true)
    (hM : OMet l Z z bz mz rz rm argsL.toArray h n0 rm.cells rm.slots Q') (hfr : rm.frames + 1 ≤ R.frames) (hlo : W + (mz + 11) + rm.locals ≤ R.locals) (hsz : Ls.size = maxl)
    (hlen : ∀ sig, parseMethodDescriptor z.desc = some sig → argsL.length = sig.parameters.length) (hst : st = argsL.reverse ++ rest) (hW : (rest.map fun v => v.category).sum ≤ W) (hp : pc + 3 = pc') (hc : cells + rm.cells ≤ R.cells) (hs : slots + rm.slots ≤ R.slots)
    (k : ∀ (v : Option Value) (T' : State) (h' : Heap), OG l Z y bytes maxl ret n0 p e R s m args below meth c T' h' (cells + rm.cells) (slots + rm.slots) → Q' v h' → OFin n0 p e below s Q ck sk T' (mkF m pc' Ls (v.toList ++ rest))) : OFin n0 p e below s Q ck sk T (mkF m pc Ls st) := by
  subst hp hst
  obtain ⟨hx, hby, hml, hown, hnm, hret, hlk, hZ, eT, hz, locs, X, N⟩ := G
  obtain ⟨v, vm1, ⟨T', L', k', n'⟩, -, X', ⟨L, ⟨N', z', hQ⟩, l1, y1, z1⟩, st0⟩ := Jvm.LawKit.callS X hx (y := z) hown (mvT hZ w1) (mvT hZ w2) (mvT hZ w3) (mvT hZ w4) hy (backOf (W := W) (Q := fun v h L => Fr n0 L ∧ n0 ≤ h.size ∧ Q' v h) (hM []) hZ w4 w3 hfr hlo) (g := (mkF m pc Ls (argsL.reverse ++ rest))) rfl (by show Ls.size = _; rw [hml]; exact hsz) (argsL := argsL) (rest := rest) hlen rfl (by show 2 * 0 + _ ≤ _; omega) (hb hby hd) (fun _ _ => ⟨rfl, eT, hc, hs⟩)
  dsimp only [Pt.U, Pt.locs, Pt.cells, Pt.slots] at X' l1 y1 z1 st0 hQ N' z'
  subst l1 y1 z1
  exact o_step st0 (k v T' T'.heap ⟨hx, hby, hml, hown, hnm, hret, hlk, hZ, rfl, z', _, X', Fr.app N N'⟩ hQ)
/-- a contract that leaves the heap as it was and returns one value -/
abbrev OVal (h0 : Heap) (r : Value) : Option Value → Heap → Prop := fun v h => v = some r ∧ h0 = h
theorem o_callP (G : OG l Z y bytes maxl ret n0 p e R s m args below meth c T h cells slots) {z : MethodName} {bz : ByteArray} {mz : Nat} {rz : Option FieldType} {rm : Room} {r : Value} {index W : Nat} {argsL st : List Value} (w1 : (Jvm.Cond.methodLink y.cls index z).before a0 Z = true) (w2 : (Jvm.Cond.static z).before a0 Z = true) (hd : decode bytes pc = .ok (.invokestatic index, 3))
    (hy : z.cls ≠ "java/lang/invoke/MethodHandle" ∧ z.cls ≠ "java/lang/invoke/VarHandle") (w3 : (Jvm.Cond.initialized z.cls).before a0 Z = true) (w4 : (Jvm.Cond.code z bz mz rz).before a0 Z = true)
    (hM : OMet l Z z bz mz rz rm argsL.toArray h n0 rm.cells rm.slots (OVal h r)) (hfr : rm.frames + 1 ≤ R.frames) (hlo : W + (mz + 11) + rm.locals ≤ R.locals) (hsz : Ls.size = maxl)
    (hlen : ∀ sig, parseMethodDescriptor z.desc = some sig → argsL.length = sig.parameters.length) (hst : st = argsL.reverse ++ rest) (hW : (rest.map fun v => v.category).sum ≤ W) (hp : pc + 3 = pc') (hc : cells + rm.cells ≤ R.cells) (hs : slots + rm.slots ≤ R.slots)
    (k : ∀ (T' : State), OG l Z y bytes maxl ret n0 p e R s m args below meth c T' h (cells + rm.cells) (slots + rm.slots) → OFin n0 p e below s Q ck sk T' (mkF m pc' Ls (r :: rest))) : OFin n0 p e below s Q ck sk T (mkF m pc Ls st) := by
  refine o_callS G w1 w2 hd hy w3 w4 hM hfr hlo hsz hlen hst hW hp hc hs ?_
  rintro v T' h' G' ⟨hv, hh⟩
  subst hv hh
  exact k T' G'
end OwnKit
theorem pd_0 : parseMethodDescriptor "(J)J" = some ⟨[.long], some .long⟩ := by decide +kernel
theorem d1_0 : decode method_2_code 0 = .ok (.lload_n 0, 1) := by decide +kernel
theorem d1_1 : decode method_2_code 1 = .ok (.lstore_n 2, 1) := by decide +kernel
theorem d1_2 : decode method_2_code 2 = .ok (.lload_n 2, 1) := by decide +kernel
theorem d1_3 : decode method_2_code 3 = .ok (.ldc2_w 7, 3) := by decide +kernel
theorem d1_6 : decode method_2_code 6 = .ok (.lload_n 0, 1) := by decide +kernel
theorem d1_7 : decode method_2_code 7 = .ok (.lload_n 2, 1) := by decide +kernel
theorem d1_8 : decode method_2_code 8 = .ok (.lmul, 1) := by decide +kernel
theorem d1_9 : decode method_2_code 9 = .ok (.lsub, 1) := by decide +kernel
theorem d1_10 : decode method_2_code 10 = .ok (.lmul, 1) := by decide +kernel
theorem d1_11 : decode method_2_code 11 = .ok (.lstore_n 2, 1) := by decide +kernel
theorem d1_12 : decode method_2_code 12 = .ok (.lload_n 2, 1) := by decide +kernel
theorem d1_13 : decode method_2_code 13 = .ok (.ldc2_w 7, 3) := by decide +kernel
theorem d1_16 : decode method_2_code 16 = .ok (.lload_n 0, 1) := by decide +kernel
theorem d1_17 : decode method_2_code 17 = .ok (.lload_n 2, 1) := by decide +kernel
theorem d1_18 : decode method_2_code 18 = .ok (.lmul, 1) := by decide +kernel
theorem d1_19 : decode method_2_code 19 = .ok (.lsub, 1) := by decide +kernel
theorem d1_20 : decode method_2_code 20 = .ok (.lmul, 1) := by decide +kernel
theorem d1_21 : decode method_2_code 21 = .ok (.lstore_n 2, 1) := by decide +kernel
theorem d1_22 : decode method_2_code 22 = .ok (.lload_n 2, 1) := by decide +kernel
theorem d1_23 : decode method_2_code 23 = .ok (.ldc2_w 7, 3) := by decide +kernel
theorem d1_26 : decode method_2_code 26 = .ok (.lload_n 0, 1) := by decide +kernel
theorem d1_27 : decode method_2_code 27 = .ok (.lload_n 2, 1) := by decide +kernel
theorem d1_28 : decode method_2_code 28 = .ok (.lmul, 1) := by decide +kernel
theorem d1_29 : decode method_2_code 29 = .ok (.lsub, 1) := by decide +kernel
theorem d1_30 : decode method_2_code 30 = .ok (.lmul, 1) := by decide +kernel
theorem d1_31 : decode method_2_code 31 = .ok (.lstore_n 2, 1) := by decide +kernel
theorem d1_32 : decode method_2_code 32 = .ok (.lload_n 2, 1) := by decide +kernel
theorem d1_33 : decode method_2_code 33 = .ok (.ldc2_w 7, 3) := by decide +kernel
theorem d1_36 : decode method_2_code 36 = .ok (.lload_n 0, 1) := by decide +kernel
theorem d1_37 : decode method_2_code 37 = .ok (.lload_n 2, 1) := by decide +kernel
theorem d1_38 : decode method_2_code 38 = .ok (.lmul, 1) := by decide +kernel
theorem d1_39 : decode method_2_code 39 = .ok (.lsub, 1) := by decide +kernel
theorem d1_40 : decode method_2_code 40 = .ok (.lmul, 1) := by decide +kernel
theorem d1_41 : decode method_2_code 41 = .ok (.lstore_n 2, 1) := by decide +kernel
theorem d1_42 : decode method_2_code 42 = .ok (.lload_n 2, 1) := by decide +kernel
theorem d1_43 : decode method_2_code 43 = .ok (.ldc2_w 7, 3) := by decide +kernel
theorem d1_46 : decode method_2_code 46 = .ok (.lload_n 0, 1) := by decide +kernel
theorem d1_47 : decode method_2_code 47 = .ok (.lload_n 2, 1) := by decide +kernel
theorem d1_48 : decode method_2_code 48 = .ok (.lmul, 1) := by decide +kernel
theorem d1_49 : decode method_2_code 49 = .ok (.lsub, 1) := by decide +kernel
theorem d1_50 : decode method_2_code 50 = .ok (.lmul, 1) := by decide +kernel
theorem d1_51 : decode method_2_code 51 = .ok (.lstore_n 2, 1) := by decide +kernel
theorem d1_52 : decode method_2_code 52 = .ok (.lload_n 2, 1) := by decide +kernel
theorem d1_53 : decode method_2_code 53 = .ok (.lreturn, 1) := by decide +kernel
theorem pn_1 : plainName "com/example/pocket_simhash/pocketsimhash/Fmix64MixPinLaw" = true := by first | (simp [plainName, overriddenIn]; done) | decide +kernel
theorem ef_1 (m : MethodId) (q0 : Int64) : entryFrame m #[(.long q0)] 4 = mkF m 0 #[.val (.long q0), .second, .unset, .unset] [] := by first | rfl | (simp [entryFrame, mkF, argsToLocals, Value.category]; done)
def f_1 (q0 : Int64) : Int64 := (((((q0 * ((2 : Int64) - (q0 * q0))) * ((2 : Int64) - (q0 * (q0 * ((2 : Int64) - (q0 * q0)))))) * ((2 : Int64) - (q0 * ((q0 * ((2 : Int64) - (q0 * q0))) * ((2 : Int64) - (q0 * (q0 * ((2 : Int64) - (q0 * q0))))))))) * ((2 : Int64) - (q0 * (((q0 * ((2 : Int64) - (q0 * q0))) * ((2 : Int64) - (q0 * (q0 * ((2 : Int64) - (q0 * q0)))))) * ((2 : Int64) - (q0 * ((q0 * ((2 : Int64) - (q0 * q0))) * ((2 : Int64) - (q0 * (q0 * ((2 : Int64) - (q0 * q0)))))))))))) * ((2 : Int64) - (q0 * ((((q0 * ((2 : Int64) - (q0 * q0))) * ((2 : Int64) - (q0 * (q0 * ((2 : Int64) - (q0 * q0)))))) * ((2 : Int64) - (q0 * ((q0 * ((2 : Int64) - (q0 * q0))) * ((2 : Int64) - (q0 * (q0 * ((2 : Int64) - (q0 * q0))))))))) * ((2 : Int64) - (q0 * (((q0 * ((2 : Int64) - (q0 * q0))) * ((2 : Int64) - (q0 * (q0 * ((2 : Int64) - (q0 * q0)))))) * ((2 : Int64) - (q0 * ((q0 * ((2 : Int64) - (q0 * q0))) * ((2 : Int64) - (q0 * (q0 * ((2 : Int64) - (q0 * q0)))))))))))))))
set_option maxRecDepth 65536 in
set_option maxHeartbeats 40000000 in
theorem rm1 {l : Launch} {Z : State} {a0 : Array Value} (hw : ∀ d ∈ tables_1, d.before a0 Z = true) (q0 : Int64) (h0 : Heap) (n0 : Nat) (hz : n0 ≤ h0.size) :
    OMet l Z (⟨"com/example/pocket_simhash/pocketsimhash/Fmix64MixPinLaw", "inverse", "(J)J"⟩ : MethodName) method_2_code 4 (some .long) ({ frames := 0, cells := 0, slots := 0, locals := 0 } : Room) #[(.long q0)] h0 n0 ({ frames := 0, cells := 0, slots := 0, locals := 0 } : Room).cells ({ frames := 0, cells := 0, slots := 0, locals := 0 } : Room).slots (OVal h0 (.long (f_1 q0))) := by
  refine o_body (plainFor_of_name pn_1) hz (fun m => ef_1 m q0) ?_
  intro p e s m below meth c s₁ G0
  refine o_lloadN G0 d1_0 (pc' := 1) rfl rfl ?_
  refine o_lstoreN G0 d1_1 (pc' := 2) rfl (l' := #[.val (.long q0), .second, .val (.long q0), .second]) rfl ?_
  refine o_lloadN G0 d1_2 (pc' := 3) rfl rfl ?_
  refine o_ldc2 G0 d1_3 (pc' := 6) rfl (hw _ (List.mem_of_getElem? (i := 6) rfl)) ?_
  refine o_lloadN G0 d1_6 (pc' := 7) rfl rfl ?_
  refine o_lloadN G0 d1_7 (pc' := 8) rfl rfl ?_
  obtain ⟨v1, e1⟩ : ∃ z, q0 * q0 = z := ⟨_, rfl⟩
  refine o_lmul G0 d1_8 (pc' := 9) rfl e1 ?_
  obtain ⟨v2, e2⟩ : ∃ z, (2 : Int64) - v1 = z := ⟨_, rfl⟩
  refine o_lsub G0 d1_9 (pc' := 10) rfl e2 ?_
  obtain ⟨v3, e3⟩ : ∃ z, q0 * v2 = z := ⟨_, rfl⟩
  refine o_lmul G0 d1_10 (pc' := 11) rfl e3 ?_
  refine o_lstoreN G0 d1_11 (pc' := 12) rfl (l' := #[.val (.long q0), .second, .val (.long v3), .second]) rfl ?_
  refine o_lloadN G0 d1_12 (pc' := 13) rfl rfl ?_
  refine o_ldc2 G0 d1_13 (pc' := 16) rfl (hw _ (List.mem_of_getElem? (i := 6) rfl)) ?_
  refine o_lloadN G0 d1_16 (pc' := 17) rfl rfl ?_
  refine o_lloadN G0 d1_17 (pc' := 18) rfl rfl ?_
  obtain ⟨v4, e4⟩ : ∃ z, q0 * v3 = z := ⟨_, rfl⟩
  refine o_lmul G0 d1_18 (pc' := 19) rfl e4 ?_
  obtain ⟨v5, e5⟩ : ∃ z, (2 : Int64) - v4 = z := ⟨_, rfl⟩
  refine o_lsub G0 d1_19 (pc' := 20) rfl e5 ?_
  obtain ⟨v6, e6⟩ : ∃ z, v3 * v5 = z := ⟨_, rfl⟩
  refine o_lmul G0 d1_20 (pc' := 21) rfl e6 ?_
  refine o_lstoreN G0 d1_21 (pc' := 22) rfl (l' := #[.val (.long q0), .second, .val (.long v6), .second]) rfl ?_
  refine o_lloadN G0 d1_22 (pc' := 23) rfl rfl ?_
  refine o_ldc2 G0 d1_23 (pc' := 26) rfl (hw _ (List.mem_of_getElem? (i := 6) rfl)) ?_
  refine o_lloadN G0 d1_26 (pc' := 27) rfl rfl ?_
  refine o_lloadN G0 d1_27 (pc' := 28) rfl rfl ?_
  obtain ⟨v7, e7⟩ : ∃ z, q0 * v6 = z := ⟨_, rfl⟩
  refine o_lmul G0 d1_28 (pc' := 29) rfl e7 ?_
  obtain ⟨v8, e8⟩ : ∃ z, (2 : Int64) - v7 = z := ⟨_, rfl⟩
  refine o_lsub G0 d1_29 (pc' := 30) rfl e8 ?_
  obtain ⟨v9, e9⟩ : ∃ z, v6 * v8 = z := ⟨_, rfl⟩
  refine o_lmul G0 d1_30 (pc' := 31) rfl e9 ?_
  refine o_lstoreN G0 d1_31 (pc' := 32) rfl (l' := #[.val (.long q0), .second, .val (.long v9), .second]) rfl ?_
  refine o_lloadN G0 d1_32 (pc' := 33) rfl rfl ?_
  refine o_ldc2 G0 d1_33 (pc' := 36) rfl (hw _ (List.mem_of_getElem? (i := 6) rfl)) ?_
  refine o_lloadN G0 d1_36 (pc' := 37) rfl rfl ?_
  refine o_lloadN G0 d1_37 (pc' := 38) rfl rfl ?_
  obtain ⟨v10, e10⟩ : ∃ z, q0 * v9 = z := ⟨_, rfl⟩
  refine o_lmul G0 d1_38 (pc' := 39) rfl e10 ?_
  obtain ⟨v11, e11⟩ : ∃ z, (2 : Int64) - v10 = z := ⟨_, rfl⟩
  refine o_lsub G0 d1_39 (pc' := 40) rfl e11 ?_
  obtain ⟨v12, e12⟩ : ∃ z, v9 * v11 = z := ⟨_, rfl⟩
  refine o_lmul G0 d1_40 (pc' := 41) rfl e12 ?_
  refine o_lstoreN G0 d1_41 (pc' := 42) rfl (l' := #[.val (.long q0), .second, .val (.long v12), .second]) rfl ?_
  refine o_lloadN G0 d1_42 (pc' := 43) rfl rfl ?_
  refine o_ldc2 G0 d1_43 (pc' := 46) rfl (hw _ (List.mem_of_getElem? (i := 6) rfl)) ?_
  refine o_lloadN G0 d1_46 (pc' := 47) rfl rfl ?_
  refine o_lloadN G0 d1_47 (pc' := 48) rfl rfl ?_
  obtain ⟨v13, e13⟩ : ∃ z, q0 * v12 = z := ⟨_, rfl⟩
  refine o_lmul G0 d1_48 (pc' := 49) rfl e13 ?_
  obtain ⟨v14, e14⟩ : ∃ z, (2 : Int64) - v13 = z := ⟨_, rfl⟩
  refine o_lsub G0 d1_49 (pc' := 50) rfl e14 ?_
  obtain ⟨v15, e15⟩ : ∃ z, v12 * v14 = z := ⟨_, rfl⟩
  refine o_lmul G0 d1_50 (pc' := 51) rfl e15 ?_
  refine o_lstoreN G0 d1_51 (pc' := 52) rfl (l' := #[.val (.long q0), .second, .val (.long v15), .second]) rfl ?_
  refine o_lloadN G0 d1_52 (pc' := 53) rfl rfl ?_
  have hq : v15 = f_1 q0 := by
    subst e1 e2 e3 e4 e5 e6 e7 e8 e9 e10 e11 e12 e13 e14 e15
    rw [f_1]
  exact o_lreturn G0 d1_53 (by rw [hq]; exact ⟨rfl, rfl⟩) (by decide) (by decide)
theorem d2_0 : decode prog_14_method_2_code 0 = .ok (.lload_n 0, 1) := by decide +kernel
theorem d2_1 : decode prog_14_method_2_code 1 = .ok (.lstore_n 2, 1) := by decide +kernel
theorem d2_2 : decode prog_14_method_2_code 2 = .ok (.lload_n 2, 1) := by decide +kernel
theorem d2_3 : decode prog_14_method_2_code 3 = .ok (.lload_n 2, 1) := by decide +kernel
theorem d2_4 : decode prog_14_method_2_code 4 = .ok (.bipush 33, 2) := by decide +kernel
theorem d2_6 : decode prog_14_method_2_code 6 = .ok (.lushr, 1) := by decide +kernel
theorem d2_7 : decode prog_14_method_2_code 7 = .ok (.lxor, 1) := by decide +kernel
theorem d2_8 : decode prog_14_method_2_code 8 = .ok (.lstore_n 2, 1) := by decide +kernel
theorem d2_9 : decode prog_14_method_2_code 9 = .ok (.lload_n 2, 1) := by decide +kernel
theorem d2_10 : decode prog_14_method_2_code 10 = .ok (.ldc2_w 7, 3) := by decide +kernel
theorem d2_13 : decode prog_14_method_2_code 13 = .ok (.lmul, 1) := by decide +kernel
theorem d2_14 : decode prog_14_method_2_code 14 = .ok (.lstore_n 2, 1) := by decide +kernel
theorem d2_15 : decode prog_14_method_2_code 15 = .ok (.lload_n 2, 1) := by decide +kernel
theorem d2_16 : decode prog_14_method_2_code 16 = .ok (.lload_n 2, 1) := by decide +kernel
theorem d2_17 : decode prog_14_method_2_code 17 = .ok (.bipush 33, 2) := by decide +kernel
theorem d2_19 : decode prog_14_method_2_code 19 = .ok (.lushr, 1) := by decide +kernel
theorem d2_20 : decode prog_14_method_2_code 20 = .ok (.lxor, 1) := by decide +kernel
theorem d2_21 : decode prog_14_method_2_code 21 = .ok (.lstore_n 2, 1) := by decide +kernel
theorem d2_22 : decode prog_14_method_2_code 22 = .ok (.lload_n 2, 1) := by decide +kernel
theorem d2_23 : decode prog_14_method_2_code 23 = .ok (.ldc2_w 9, 3) := by decide +kernel
theorem d2_26 : decode prog_14_method_2_code 26 = .ok (.lmul, 1) := by decide +kernel
theorem d2_27 : decode prog_14_method_2_code 27 = .ok (.lstore_n 2, 1) := by decide +kernel
theorem d2_28 : decode prog_14_method_2_code 28 = .ok (.lload_n 2, 1) := by decide +kernel
theorem d2_29 : decode prog_14_method_2_code 29 = .ok (.lload_n 2, 1) := by decide +kernel
theorem d2_30 : decode prog_14_method_2_code 30 = .ok (.bipush 33, 2) := by decide +kernel
theorem d2_32 : decode prog_14_method_2_code 32 = .ok (.lushr, 1) := by decide +kernel
theorem d2_33 : decode prog_14_method_2_code 33 = .ok (.lxor, 1) := by decide +kernel
theorem d2_34 : decode prog_14_method_2_code 34 = .ok (.lstore_n 2, 1) := by decide +kernel
theorem d2_35 : decode prog_14_method_2_code 35 = .ok (.lload_n 2, 1) := by decide +kernel
theorem d2_36 : decode prog_14_method_2_code 36 = .ok (.lreturn, 1) := by decide +kernel
theorem pn_2 : plainName "com/example/pocket_simhash/pocketsimhash/Fmix64" = true := by first | (simp [plainName, overriddenIn]; done) | decide +kernel
theorem ef_2 (m : MethodId) (q0 : Int64) : entryFrame m #[(.long q0)] 4 = mkF m 0 #[.val (.long q0), .second, .unset, .unset] [] := by first | rfl | (simp [entryFrame, mkF, argsToLocals, Value.category]; done)
def f_2 (q0 : Int64) : Int64 := (((((q0 ^^^ ((q0.toUInt64 >>> ((33 : Int32) &&& 0x3f).toInt64.toUInt64).toInt64)) * (-49064778989728563 : Int64)) ^^^ ((((q0 ^^^ ((q0.toUInt64 >>> ((33 : Int32) &&& 0x3f).toInt64.toUInt64).toInt64)) * (-49064778989728563 : Int64)).toUInt64 >>> ((33 : Int32) &&& 0x3f).toInt64.toUInt64).toInt64)) * (-4265267296055464877 : Int64)) ^^^ ((((((q0 ^^^ ((q0.toUInt64 >>> ((33 : Int32) &&& 0x3f).toInt64.toUInt64).toInt64)) * (-49064778989728563 : Int64)) ^^^ ((((q0 ^^^ ((q0.toUInt64 >>> ((33 : Int32) &&& 0x3f).toInt64.toUInt64).toInt64)) * (-49064778989728563 : Int64)).toUInt64 >>> ((33 : Int32) &&& 0x3f).toInt64.toUInt64).toInt64)) * (-4265267296055464877 : Int64)).toUInt64 >>> ((33 : Int32) &&& 0x3f).toInt64.toUInt64).toInt64))
set_option maxRecDepth 65536 in
set_option maxHeartbeats 40000000 in
theorem rm2 {l : Launch} {Z : State} {a0 : Array Value} (hw : ∀ d ∈ tables_1, d.before a0 Z = true) (q0 : Int64) (h0 : Heap) (n0 : Nat) (hz : n0 ≤ h0.size) :
    OMet l Z (⟨"com/example/pocket_simhash/pocketsimhash/Fmix64", "mix", "(J)J"⟩ : MethodName) prog_14_method_2_code 4 (some .long) ({ frames := 0, cells := 0, slots := 0, locals := 0 } : Room) #[(.long q0)] h0 n0 ({ frames := 0, cells := 0, slots := 0, locals := 0 } : Room).cells ({ frames := 0, cells := 0, slots := 0, locals := 0 } : Room).slots (OVal h0 (.long (f_2 q0))) := by
  refine o_body (plainFor_of_name pn_2) hz (fun m => ef_2 m q0) ?_
  intro p e s m below meth c s₁ G0
  refine o_lloadN G0 d2_0 (pc' := 1) rfl rfl ?_
  refine o_lstoreN G0 d2_1 (pc' := 2) rfl (l' := #[.val (.long q0), .second, .val (.long q0), .second]) rfl ?_
  refine o_lloadN G0 d2_2 (pc' := 3) rfl rfl ?_
  refine o_lloadN G0 d2_3 (pc' := 4) rfl rfl ?_
  refine o_bipush G0 d2_4 (pc' := 6) rfl (v := (33 : Int32)) rfl ?_
  obtain ⟨v1, e1⟩ : ∃ z, (q0.toUInt64 >>> ((33 : Int32) &&& 0x3f).toInt64.toUInt64).toInt64 = z := ⟨_, rfl⟩
  refine o_lushr G0 d2_6 (pc' := 7) rfl e1 ?_
  obtain ⟨v2, e2⟩ : ∃ z, q0 ^^^ v1 = z := ⟨_, rfl⟩
  refine o_lxor G0 d2_7 (pc' := 8) rfl e2 ?_
  refine o_lstoreN G0 d2_8 (pc' := 9) rfl (l' := #[.val (.long q0), .second, .val (.long v2), .second]) rfl ?_
  refine o_lloadN G0 d2_9 (pc' := 10) rfl rfl ?_
  refine o_ldc2 G0 d2_10 (pc' := 13) rfl (hw _ (List.mem_of_getElem? (i := 11) rfl)) ?_
  obtain ⟨v3, e3⟩ : ∃ z, v2 * (-49064778989728563 : Int64) = z := ⟨_, rfl⟩
  refine o_lmul G0 d2_13 (pc' := 14) rfl e3 ?_
  refine o_lstoreN G0 d2_14 (pc' := 15) rfl (l' := #[.val (.long q0), .second, .val (.long v3), .second]) rfl ?_
  refine o_lloadN G0 d2_15 (pc' := 16) rfl rfl ?_
  refine o_lloadN G0 d2_16 (pc' := 17) rfl rfl ?_
  refine o_bipush G0 d2_17 (pc' := 19) rfl (v := (33 : Int32)) rfl ?_
  obtain ⟨v4, e4⟩ : ∃ z, (v3.toUInt64 >>> ((33 : Int32) &&& 0x3f).toInt64.toUInt64).toInt64 = z := ⟨_, rfl⟩
  refine o_lushr G0 d2_19 (pc' := 20) rfl e4 ?_
  obtain ⟨v5, e5⟩ : ∃ z, v3 ^^^ v4 = z := ⟨_, rfl⟩
  refine o_lxor G0 d2_20 (pc' := 21) rfl e5 ?_
  refine o_lstoreN G0 d2_21 (pc' := 22) rfl (l' := #[.val (.long q0), .second, .val (.long v5), .second]) rfl ?_
  refine o_lloadN G0 d2_22 (pc' := 23) rfl rfl ?_
  refine o_ldc2 G0 d2_23 (pc' := 26) rfl (hw _ (List.mem_of_getElem? (i := 12) rfl)) ?_
  obtain ⟨v6, e6⟩ : ∃ z, v5 * (-4265267296055464877 : Int64) = z := ⟨_, rfl⟩
  refine o_lmul G0 d2_26 (pc' := 27) rfl e6 ?_
  refine o_lstoreN G0 d2_27 (pc' := 28) rfl (l' := #[.val (.long q0), .second, .val (.long v6), .second]) rfl ?_
  refine o_lloadN G0 d2_28 (pc' := 29) rfl rfl ?_
  refine o_lloadN G0 d2_29 (pc' := 30) rfl rfl ?_
  refine o_bipush G0 d2_30 (pc' := 32) rfl (v := (33 : Int32)) rfl ?_
  obtain ⟨v7, e7⟩ : ∃ z, (v6.toUInt64 >>> ((33 : Int32) &&& 0x3f).toInt64.toUInt64).toInt64 = z := ⟨_, rfl⟩
  refine o_lushr G0 d2_32 (pc' := 33) rfl e7 ?_
  obtain ⟨v8, e8⟩ : ∃ z, v6 ^^^ v7 = z := ⟨_, rfl⟩
  refine o_lxor G0 d2_33 (pc' := 34) rfl e8 ?_
  refine o_lstoreN G0 d2_34 (pc' := 35) rfl (l' := #[.val (.long q0), .second, .val (.long v8), .second]) rfl ?_
  refine o_lloadN G0 d2_35 (pc' := 36) rfl rfl ?_
  have hq : v8 = f_2 q0 := by
    subst e1 e2 e3 e4 e5 e6 e7 e8
    rw [f_2]
  exact o_lreturn G0 d2_36 (by rw [hq]; exact ⟨rfl, rfl⟩) (by decide) (by decide)
theorem d4_0 : decode method_3_code 0 = .ok (.lload_n 0, 1) := by decide +kernel
theorem d4_1 : decode method_3_code 1 = .ok (.lload_n 0, 1) := by decide +kernel
theorem d4_2 : decode method_3_code 2 = .ok (.bipush 33, 2) := by decide +kernel
theorem d4_4 : decode method_3_code 4 = .ok (.lushr, 1) := by decide +kernel
theorem d4_5 : decode method_3_code 5 = .ok (.lxor, 1) := by decide +kernel
theorem d4_6 : decode method_3_code 6 = .ok (.lreturn, 1) := by decide +kernel
theorem pn_4 : plainName "com/example/pocket_simhash/pocketsimhash/Fmix64MixPinLaw" = true := by first | (simp [plainName, overriddenIn]; done) | decide +kernel
theorem ef_4 (m : MethodId) (q0 : Int64) : entryFrame m #[(.long q0)] 2 = mkF m 0 #[.val (.long q0), .second] [] := by first | rfl | (simp [entryFrame, mkF, argsToLocals, Value.category]; done)
def f_4 (q0 : Int64) : Int64 := (q0 ^^^ ((q0.toUInt64 >>> ((33 : Int32) &&& 0x3f).toInt64.toUInt64).toInt64))
set_option maxRecDepth 65536 in
set_option maxHeartbeats 40000000 in
theorem rm4 {l : Launch} {Z : State} {a0 : Array Value} (hw : ∀ d ∈ tables_1, d.before a0 Z = true) (q0 : Int64) (h0 : Heap) (n0 : Nat) (hz : n0 ≤ h0.size) :
    OMet l Z (⟨"com/example/pocket_simhash/pocketsimhash/Fmix64MixPinLaw", "unshift", "(J)J"⟩ : MethodName) method_3_code 2 (some .long) ({ frames := 0, cells := 0, slots := 0, locals := 0 } : Room) #[(.long q0)] h0 n0 ({ frames := 0, cells := 0, slots := 0, locals := 0 } : Room).cells ({ frames := 0, cells := 0, slots := 0, locals := 0 } : Room).slots (OVal h0 (.long (f_4 q0))) := by
  refine o_body (plainFor_of_name pn_4) hz (fun m => ef_4 m q0) ?_
  intro p e s m below meth c s₁ G0
  refine o_lloadN G0 d4_0 (pc' := 1) rfl rfl ?_
  refine o_lloadN G0 d4_1 (pc' := 2) rfl rfl ?_
  refine o_bipush G0 d4_2 (pc' := 4) rfl (v := (33 : Int32)) rfl ?_
  obtain ⟨v1, e1⟩ : ∃ z, (q0.toUInt64 >>> ((33 : Int32) &&& 0x3f).toInt64.toUInt64).toInt64 = z := ⟨_, rfl⟩
  refine o_lushr G0 d4_4 (pc' := 5) rfl e1 ?_
  obtain ⟨v2, e2⟩ : ∃ z, q0 ^^^ v1 = z := ⟨_, rfl⟩
  refine o_lxor G0 d4_5 (pc' := 6) rfl e2 ?_
  have hq : v2 = f_4 q0 := by
    subst e1 e2
    rw [f_4]
  exact o_lreturn G0 d4_6 (by rw [hq]; exact ⟨rfl, rfl⟩) (by decide) (by decide)
theorem d3_0 : decode method_4_code 0 = .ok (.lload_n 0, 1) := by decide +kernel
theorem d3_1 : decode method_4_code 1 = .ok (.invokestatic 9, 3) := by decide +kernel
theorem d3_4 : decode method_4_code 4 = .ok (.lstore_n 2, 1) := by decide +kernel
theorem d3_5 : decode method_4_code 5 = .ok (.lload_n 2, 1) := by decide +kernel
theorem d3_6 : decode method_4_code 6 = .ok (.ldc2_w 15, 3) := by decide +kernel
theorem d3_9 : decode method_4_code 9 = .ok (.invokestatic 17, 3) := by decide +kernel
theorem d3_12 : decode method_4_code 12 = .ok (.lmul, 1) := by decide +kernel
theorem d3_13 : decode method_4_code 13 = .ok (.lstore_n 2, 1) := by decide +kernel
theorem d3_14 : decode method_4_code 14 = .ok (.lload_n 2, 1) := by decide +kernel
theorem d3_15 : decode method_4_code 15 = .ok (.invokestatic 9, 3) := by decide +kernel
theorem d3_18 : decode method_4_code 18 = .ok (.lstore_n 2, 1) := by decide +kernel
theorem d3_19 : decode method_4_code 19 = .ok (.lload_n 2, 1) := by decide +kernel
theorem d3_20 : decode method_4_code 20 = .ok (.ldc2_w 20, 3) := by decide +kernel
theorem d3_23 : decode method_4_code 23 = .ok (.invokestatic 17, 3) := by decide +kernel
theorem d3_26 : decode method_4_code 26 = .ok (.lmul, 1) := by decide +kernel
theorem d3_27 : decode method_4_code 27 = .ok (.lstore_n 2, 1) := by decide +kernel
theorem d3_28 : decode method_4_code 28 = .ok (.lload_n 2, 1) := by decide +kernel
theorem d3_29 : decode method_4_code 29 = .ok (.invokestatic 9, 3) := by decide +kernel
theorem d3_32 : decode method_4_code 32 = .ok (.lstore_n 2, 1) := by decide +kernel
theorem d3_33 : decode method_4_code 33 = .ok (.lload_n 2, 1) := by decide +kernel
theorem d3_34 : decode method_4_code 34 = .ok (.lreturn, 1) := by decide +kernel
theorem pn_3 : plainName "com/example/pocket_simhash/pocketsimhash/Fmix64MixPinLaw" = true := by first | (simp [plainName, overriddenIn]; done) | decide +kernel
theorem ef_3 (m : MethodId) (q0 : Int64) : entryFrame m #[(.long q0)] 4 = mkF m 0 #[.val (.long q0), .second, .unset, .unset] [] := by first | rfl | (simp [entryFrame, mkF, argsToLocals, Value.category]; done)
def f_3 (q0 : Int64) : Int64 := (f_4 ((f_4 ((f_4 q0) * (f_1 (-4265267296055464877 : Int64)))) * (f_1 (-49064778989728563 : Int64))))
set_option maxRecDepth 65536 in
set_option maxHeartbeats 40000000 in
theorem rm3 {l : Launch} {Z : State} {a0 : Array Value} (hw : ∀ d ∈ tables_1, d.before a0 Z = true) (q0 : Int64) (h0 : Heap) (n0 : Nat) (hz : n0 ≤ h0.size) :
    OMet l Z (⟨"com/example/pocket_simhash/pocketsimhash/Fmix64MixPinLaw", "unmix", "(J)J"⟩ : MethodName) method_4_code 4 (some .long) ({ frames := 1, cells := 0, slots := 0, locals := 17 } : Room) #[(.long q0)] h0 n0 ({ frames := 1, cells := 0, slots := 0, locals := 17 } : Room).cells ({ frames := 1, cells := 0, slots := 0, locals := 17 } : Room).slots (OVal h0 (.long (f_3 q0))) := by
  refine o_body (plainFor_of_name pn_3) hz (fun m => ef_3 m q0) ?_
  intro p e s m below meth c s₁ G0
  refine o_lloadN G0 d3_0 (pc' := 1) rfl rfl ?_
  obtain ⟨v1, e1⟩ : ∃ z, f_4 q0 = z := ⟨_, rfl⟩
  refine o_callP G0 (z := (⟨"com/example/pocket_simhash/pocketsimhash/Fmix64MixPinLaw", "unshift", "(J)J"⟩ : MethodName)) (r := (.long v1)) (argsL := [(.long q0)]) (rest := []) (W := 0) (hw _ (List.mem_of_getElem? (i := 16) rfl)) (hw _ (List.mem_of_getElem? (i := 17) rfl)) d3_1 (by decide) (hw _ (List.mem_of_getElem? (i := 4) rfl)) (hw _ (List.mem_of_getElem? (i := 18) rfl)) (by rw [← e1]; exact rm4 hw q0 h0 n0 G0.sz) (by decide) (by decide) rfl (lenOf pd_0 rfl) rfl (Nat.le_of_eq rfl) (pc' := 4) rfl (by decide) (by decide) ?_
  intro T2 G2
  refine o_lstoreN G2 d3_4 (pc' := 5) rfl (l' := #[.val (.long q0), .second, .val (.long v1), .second]) rfl ?_
  refine o_lloadN G2 d3_5 (pc' := 6) rfl rfl ?_
  refine o_ldc2 G2 d3_6 (pc' := 9) rfl (hw _ (List.mem_of_getElem? (i := 1) rfl)) ?_
  obtain ⟨v3, e3⟩ : ∃ z, f_1 (-4265267296055464877 : Int64) = z := ⟨_, rfl⟩
  refine o_callP G2 (z := (⟨"com/example/pocket_simhash/pocketsimhash/Fmix64MixPinLaw", "inverse", "(J)J"⟩ : MethodName)) (r := (.long v3)) (argsL := [(.long (-4265267296055464877 : Int64))]) (rest := [(.long v1)]) (W := 2) (hw _ (List.mem_of_getElem? (i := 2) rfl)) (hw _ (List.mem_of_getElem? (i := 3) rfl)) d3_9 (by decide) (hw _ (List.mem_of_getElem? (i := 4) rfl)) (hw _ (List.mem_of_getElem? (i := 5) rfl)) (by rw [← e3]; exact rm1 hw (-4265267296055464877 : Int64) h0 n0 G2.sz) (by decide) (by decide) rfl (lenOf pd_0 rfl) rfl (Nat.le_of_eq rfl) (pc' := 12) rfl (by decide) (by decide) ?_
  intro T4 G4
  obtain ⟨v5, e5⟩ : ∃ z, v1 * v3 = z := ⟨_, rfl⟩
  refine o_lmul G4 d3_12 (pc' := 13) rfl e5 ?_
  refine o_lstoreN G4 d3_13 (pc' := 14) rfl (l' := #[.val (.long q0), .second, .val (.long v5), .second]) rfl ?_
  refine o_lloadN G4 d3_14 (pc' := 15) rfl rfl ?_
  obtain ⟨v6, e6⟩ : ∃ z, f_4 v5 = z := ⟨_, rfl⟩
  refine o_callP G4 (z := (⟨"com/example/pocket_simhash/pocketsimhash/Fmix64MixPinLaw", "unshift", "(J)J"⟩ : MethodName)) (r := (.long v6)) (argsL := [(.long v5)]) (rest := []) (W := 0) (hw _ (List.mem_of_getElem? (i := 16) rfl)) (hw _ (List.mem_of_getElem? (i := 17) rfl)) d3_15 (by decide) (hw _ (List.mem_of_getElem? (i := 4) rfl)) (hw _ (List.mem_of_getElem? (i := 18) rfl)) (by rw [← e6]; exact rm4 hw v5 h0 n0 G4.sz) (by decide) (by decide) rfl (lenOf pd_0 rfl) rfl (Nat.le_of_eq rfl) (pc' := 18) rfl (by decide) (by decide) ?_
  intro T7 G7
  refine o_lstoreN G7 d3_18 (pc' := 19) rfl (l' := #[.val (.long q0), .second, .val (.long v6), .second]) rfl ?_
  refine o_lloadN G7 d3_19 (pc' := 20) rfl rfl ?_
  refine o_ldc2 G7 d3_20 (pc' := 23) rfl (hw _ (List.mem_of_getElem? (i := 0) rfl)) ?_
  obtain ⟨v8, e8⟩ : ∃ z, f_1 (-49064778989728563 : Int64) = z := ⟨_, rfl⟩
  refine o_callP G7 (z := (⟨"com/example/pocket_simhash/pocketsimhash/Fmix64MixPinLaw", "inverse", "(J)J"⟩ : MethodName)) (r := (.long v8)) (argsL := [(.long (-49064778989728563 : Int64))]) (rest := [(.long v6)]) (W := 2) (hw _ (List.mem_of_getElem? (i := 2) rfl)) (hw _ (List.mem_of_getElem? (i := 3) rfl)) d3_23 (by decide) (hw _ (List.mem_of_getElem? (i := 4) rfl)) (hw _ (List.mem_of_getElem? (i := 5) rfl)) (by rw [← e8]; exact rm1 hw (-49064778989728563 : Int64) h0 n0 G7.sz) (by decide) (by decide) rfl (lenOf pd_0 rfl) rfl (Nat.le_of_eq rfl) (pc' := 26) rfl (by decide) (by decide) ?_
  intro T9 G9
  obtain ⟨v10, e10⟩ : ∃ z, v6 * v8 = z := ⟨_, rfl⟩
  refine o_lmul G9 d3_26 (pc' := 27) rfl e10 ?_
  refine o_lstoreN G9 d3_27 (pc' := 28) rfl (l' := #[.val (.long q0), .second, .val (.long v10), .second]) rfl ?_
  refine o_lloadN G9 d3_28 (pc' := 29) rfl rfl ?_
  obtain ⟨v11, e11⟩ : ∃ z, f_4 v10 = z := ⟨_, rfl⟩
  refine o_callP G9 (z := (⟨"com/example/pocket_simhash/pocketsimhash/Fmix64MixPinLaw", "unshift", "(J)J"⟩ : MethodName)) (r := (.long v11)) (argsL := [(.long v10)]) (rest := []) (W := 0) (hw _ (List.mem_of_getElem? (i := 16) rfl)) (hw _ (List.mem_of_getElem? (i := 17) rfl)) d3_29 (by decide) (hw _ (List.mem_of_getElem? (i := 4) rfl)) (hw _ (List.mem_of_getElem? (i := 18) rfl)) (by rw [← e11]; exact rm4 hw v10 h0 n0 G9.sz) (by decide) (by decide) rfl (lenOf pd_0 rfl) rfl (Nat.le_of_eq rfl) (pc' := 32) rfl (by decide) (by decide) ?_
  intro T12 G12
  refine o_lstoreN G12 d3_32 (pc' := 33) rfl (l' := #[.val (.long q0), .second, .val (.long v11), .second]) rfl ?_
  refine o_lloadN G12 d3_33 (pc' := 34) rfl rfl ?_
  have hq : v11 = f_3 q0 := by
    subst e1 e3 e5 e6 e8 e10 e11
    rw [f_3]
  exact o_lreturn G12 d3_34 (by rw [hq]; exact ⟨rfl, rfl⟩) (by decide) (by decide)
theorem pn_0 : plainName "com/example/pocket_simhash/pocketsimhash/Fmix64MixPinLaw" = true := by first | (simp [plainName, overriddenIn]; done) | decide +kernel
theorem ef_0 (m : MethodId) (q0 : Int64) : entryFrame m #[(.long q0)] maxLocals = mkF m 0 #[.val (.long q0), .second, .unset, .unset, .unset, .unset, .unset, .unset, .unset] [] := by first | rfl | (simp [entryFrame, mkF, argsToLocals, Value.category, maxLocals]; done)
def f_0 (q0 : Int64) : Int32 := if (if ((-49064778989728563 : Int64) * (f_1 (-49064778989728563 : Int64))) = (1 : Int64) then (if ((-4265267296055464877 : Int64) * (f_1 (-4265267296055464877 : Int64))) = (1 : Int64) then (1 : Int32) else (0 : Int32)) else (0 : Int32)) = (0 : Int32) then (0 : Int32) else (if (f_3 (f_2 q0)) = q0 then (1 : Int32) else (0 : Int32))
set_option maxRecDepth 65536 in
set_option maxHeartbeats 40000000 in
theorem rm0 {l : Launch} {Z : State} {a0 : Array Value} (hw : ∀ d ∈ tables_1, d.before a0 Z = true) (q0 : Int64) (h0 : Heap) (n0 : Nat) (hz : n0 ≤ h0.size) :
    OMet l Z x code maxLocals ret room_1 #[(.long q0)] h0 n0 0 0 (OVal h0 (.int (f_0 q0))) := by
  refine o_body (plainFor_of_name pn_0) hz (fun m => ef_0 m q0) ?_
  intro p e s m below meth c s₁ G0
  refine o_ldc2 G0 at_0 (pc' := 3) rfl (hw _ (List.mem_of_getElem? (i := 0) rfl)) ?_
  refine o_lstoreN G0 at_3 (pc' := 4) rfl (l' := #[.val (.long q0), .second, .val (.long (-49064778989728563 : Int64)), .second, .unset, .unset, .unset, .unset, .unset]) rfl ?_
  refine o_ldc2 G0 at_4 (pc' := 7) rfl (hw _ (List.mem_of_getElem? (i := 1) rfl)) ?_
  refine o_lstore G0 at_7 (pc' := 9) rfl (l' := #[.val (.long q0), .second, .val (.long (-49064778989728563 : Int64)), .second, .val (.long (-4265267296055464877 : Int64)), .second, .unset, .unset, .unset]) rfl ?_
  refine o_lloadN G0 at_9 (pc' := 10) rfl rfl ?_
  refine o_lloadN G0 at_10 (pc' := 11) rfl rfl ?_
  obtain ⟨v1, e1⟩ : ∃ z, f_1 (-49064778989728563 : Int64) = z := ⟨_, rfl⟩
  refine o_callP G0 (z := (⟨"com/example/pocket_simhash/pocketsimhash/Fmix64MixPinLaw", "inverse", "(J)J"⟩ : MethodName)) (r := (.long v1)) (argsL := [(.long (-49064778989728563 : Int64))]) (rest := [(.long (-49064778989728563 : Int64))]) (W := 2) (hw _ (List.mem_of_getElem? (i := 2) rfl)) (hw _ (List.mem_of_getElem? (i := 3) rfl)) at_11 (by decide) (hw _ (List.mem_of_getElem? (i := 4) rfl)) (hw _ (List.mem_of_getElem? (i := 5) rfl)) (by rw [← e1]; exact rm1 hw (-49064778989728563 : Int64) h0 n0 G0.sz) (by decide) (by decide) rfl (lenOf pd_0 rfl) rfl (Nat.le_of_eq rfl) (pc' := 14) rfl (by decide) (by decide) ?_
  intro T2 G2
  obtain ⟨v3, e3⟩ : ∃ z, (-49064778989728563 : Int64) * v1 = z := ⟨_, rfl⟩
  refine o_lmul G2 at_14 (pc' := 15) rfl e3 ?_
  refine o_lconst G2 at_15 (pc' := 16) rfl (v := (1 : Int64)) rfl ?_
  obtain ⟨v4, e4⟩ : ∃ z, (if v3 = (1 : Int64) then (if ((-4265267296055464877 : Int64) * (f_1 (-4265267296055464877 : Int64))) = (1 : Int64) then (1 : Int32) else (0 : Int32)) else (0 : Int32)) = z := ⟨_, rfl⟩
  have K5 : ∀ T', OG l Z x code maxLocals ret n0 p e room_1 s m #[(.long q0)] below meth c T' h0 0 0 → OFin n0 p e below s (OVal h0 (.int (f_0 q0))) 0 0 T' (mkF m 38 #[.val (.long q0), .second, .val (.long (-49064778989728563 : Int64)), .second, .val (.long (-4265267296055464877 : Int64)), .second, .unset, .unset, .unset] [(.int v4)]) := by
    intro T5 G5
    refine o_istore G5 at_38 (pc' := 40) rfl (l' := #[.val (.long q0), .second, .val (.long (-49064778989728563 : Int64)), .second, .val (.long (-4265267296055464877 : Int64)), .second, .val (.int v4), .unset, .unset]) rfl ?_
    refine o_lloadN G5 at_40 (pc' := 41) rfl rfl ?_
    obtain ⟨v6, e6⟩ : ∃ z, f_2 q0 = z := ⟨_, rfl⟩
    refine o_callP G5 (z := (⟨"com/example/pocket_simhash/pocketsimhash/Fmix64", "mix", "(J)J"⟩ : MethodName)) (r := (.long v6)) (argsL := [(.long q0)]) (rest := []) (W := 0) (hw _ (List.mem_of_getElem? (i := 7) rfl)) (hw _ (List.mem_of_getElem? (i := 8) rfl)) at_41 (by decide) (hw _ (List.mem_of_getElem? (i := 9) rfl)) (hw _ (List.mem_of_getElem? (i := 10) rfl)) (by rw [← e6]; exact rm2 hw q0 h0 n0 G5.sz) (by decide) (by decide) rfl (lenOf pd_0 rfl) rfl (Nat.le_of_eq rfl) (pc' := 44) rfl (by decide) (by decide) ?_
    intro T7 G7
    refine o_lstore G7 at_44 (pc' := 46) rfl (l' := #[.val (.long q0), .second, .val (.long (-49064778989728563 : Int64)), .second, .val (.long (-4265267296055464877 : Int64)), .second, .val (.int v4), .val (.long v6), .second]) rfl ?_
    refine o_iload G7 at_46 (pc' := 48) rfl rfl ?_
    refine o_if_eq G7 at_48 (by decide) (pcT := 65) (by decide) (pc' := 51) rfl (fun hc48 => ?_) (fun hc48 => ?_)
    · refine o_iconst G7 at_65 (pc' := 66) rfl (v := (0 : Int32)) rfl ?_
      have hq : (nar .boolean (0 : Int32)) = f_0 q0 := by
        subst e1 e3 e4 e6
        rw [f_0, if_pos hc48]
        try rfl
      exact o_nreturn (t := .boolean) G7 (by simp) at_66 (by rw [hq]; exact ⟨rfl, rfl⟩) (by decide) (by decide)
    · refine o_lload G7 at_51 (pc' := 53) rfl rfl ?_
      obtain ⟨v8, e8⟩ : ∃ z, f_3 v6 = z := ⟨_, rfl⟩
      refine o_callP G7 (z := (⟨"com/example/pocket_simhash/pocketsimhash/Fmix64MixPinLaw", "unmix", "(J)J"⟩ : MethodName)) (r := (.long v8)) (argsL := [(.long v6)]) (rest := []) (W := 0) (hw _ (List.mem_of_getElem? (i := 13) rfl)) (hw _ (List.mem_of_getElem? (i := 14) rfl)) at_53 (by decide) (hw _ (List.mem_of_getElem? (i := 4) rfl)) (hw _ (List.mem_of_getElem? (i := 15) rfl)) (by rw [← e8]; exact rm3 hw v6 h0 n0 G7.sz) (by decide) (by decide) rfl (lenOf pd_0 rfl) rfl (Nat.le_of_eq rfl) (pc' := 56) rfl (by decide) (by decide) ?_
      intro T9 G9
      refine o_lloadN G9 at_56 (pc' := 57) rfl rfl ?_
      refine o_lcmp_ne G9 at_57 (pc1 := 58) rfl at_58 (by decide) (pcT := 65) (by decide) (pc' := 61) rfl (fun hc57 => ?_) (fun hc57 => ?_)
      · refine o_iconst G9 at_65 (pc' := 66) rfl (v := (0 : Int32)) rfl ?_
        have hq : (nar .boolean (0 : Int32)) = f_0 q0 := by
          subst e1 e3 e4 e6 e8
          rw [f_0, if_neg hc48, if_neg hc57]
          try rfl
        exact o_nreturn (t := .boolean) G9 (by simp) at_66 (by rw [hq]; exact ⟨rfl, rfl⟩) (by decide) (by decide)
      · refine o_iconst G9 at_61 (pc' := 62) rfl (v := (1 : Int32)) rfl ?_
        refine o_goto G9 at_62 (by decide) (pc' := 66) rfl ?_
        have hq : (nar .boolean (1 : Int32)) = f_0 q0 := by
          subst e1 e3 e4 e6 e8
          rw [f_0, if_neg hc48, if_pos hc57]
          try rfl
        exact o_nreturn (t := .boolean) G9 (by simp) at_66 (by rw [hq]; exact ⟨rfl, rfl⟩) (by decide) (by decide)
  refine o_lcmp_ne G2 at_16 (pc1 := 17) rfl at_17 (by decide) (pcT := 37) (by decide) (pc' := 20) rfl (fun hc16 => ?_) (fun hc16 => ?_)
  · refine o_iconst G2 at_37 (pc' := 38) rfl (v := (0 : Int32)) rfl ?_
    rw [if_neg hc16] at e4
    subst e4
    exact K5 _ G2
  · refine o_lload G2 at_20 (pc' := 22) rfl rfl ?_
    refine o_lload G2 at_22 (pc' := 24) rfl rfl ?_
    obtain ⟨v10, e10⟩ : ∃ z, f_1 (-4265267296055464877 : Int64) = z := ⟨_, rfl⟩
    refine o_callP G2 (z := (⟨"com/example/pocket_simhash/pocketsimhash/Fmix64MixPinLaw", "inverse", "(J)J"⟩ : MethodName)) (r := (.long v10)) (argsL := [(.long (-4265267296055464877 : Int64))]) (rest := [(.long (-4265267296055464877 : Int64))]) (W := 2) (hw _ (List.mem_of_getElem? (i := 2) rfl)) (hw _ (List.mem_of_getElem? (i := 3) rfl)) at_24 (by decide) (hw _ (List.mem_of_getElem? (i := 4) rfl)) (hw _ (List.mem_of_getElem? (i := 5) rfl)) (by rw [← e10]; exact rm1 hw (-4265267296055464877 : Int64) h0 n0 G2.sz) (by decide) (by decide) rfl (lenOf pd_0 rfl) rfl (Nat.le_of_eq rfl) (pc' := 27) rfl (by decide) (by decide) ?_
    intro T11 G11
    obtain ⟨v12, e12⟩ : ∃ z, (-4265267296055464877 : Int64) * v10 = z := ⟨_, rfl⟩
    refine o_lmul G11 at_27 (pc' := 28) rfl e12 ?_
    refine o_lconst G11 at_28 (pc' := 29) rfl (v := (1 : Int64)) rfl ?_
    refine o_lcmp_ne G11 at_29 (pc1 := 30) rfl at_30 (by decide) (pcT := 37) (by decide) (pc' := 33) rfl (fun hc29 => ?_) (fun hc29 => ?_)
    · refine o_iconst G11 at_37 (pc' := 38) rfl (v := (0 : Int32)) rfl ?_
      subst e10 e12
      rw [if_pos hc16, if_neg hc29] at e4
      subst e4
      exact K5 _ G11
    · refine o_iconst G11 at_33 (pc' := 34) rfl (v := (1 : Int32)) rfl ?_
      refine o_goto G11 at_34 (by decide) (pc' := 38) rfl ?_
      subst e10 e12
      rw [if_pos hc16, if_pos hc29] at e4
      subst e4
      exact K5 _ G11
theorem own_sh (x : Int64) : ((x.toUInt64 >>> ((33 : Int32) &&& 0x3f).toInt64.toUInt64).toInt64).toBitVec = x.toBitVec >>> 33 := by
  rfl
theorem own_un (x : Int64) : f_4 (f_4 x) = x := by
  apply Int64.toBitVec_inj.mp
  simp only [f_4, Int64.toBitVec_xor, own_sh]
  generalize x.toBitVec = b
  rw [BitVec.ushiftRight_xor_distrib, ← BitVec.shiftRight_add]
  have : b >>> (33 + 33) = 0#64 := by
    apply BitVec.eq_of_toNat_eq
    have := b.isLt
    simp [BitVec.toNat_ushiftRight, Nat.shiftRight_eq_div_pow]
    omega
  rw [this, BitVec.xor_zero, BitVec.xor_assoc, BitVec.xor_self, BitVec.xor_zero]
theorem own_mulc (x c d : Int64) (h : c * d = 1) : (x * c) * d = x := by
  rw [Int64.mul_assoc, h, Int64.mul_one]
theorem own_i1 : (-49064778989728563 : Int64) * f_1 (-49064778989728563 : Int64) = 1 := by decide +kernel
theorem own_i2 : (-4265267296055464877 : Int64) * f_1 (-4265267296055464877 : Int64) = 1 := by decide +kernel
theorem own_mix (q : Int64) : f_2 q = f_4 ((f_4 ((f_4 q) * (-49064778989728563 : Int64))) * (-4265267296055464877 : Int64)) := rfl
theorem own_law (q0 : Int64) : f_0 q0 = 1 := by
  rw [f_0, if_pos own_i1, if_pos own_i2, if_neg (by decide), f_3, own_mix, own_un, own_mulc _ _ _ own_i2, own_un, own_mulc _ _ _ own_i1, own_un, if_pos rfl]
set_option maxRecDepth 65536 in
set_option maxHeartbeats 40000000 in
theorem comes_1 {Post : Tables → Env → Array Value → State → Outcome → State → Prop} (hpost : ∀ tb e args s v u, (limb_1_1.after args s (.returned v) u = true ∧ limb_1_2.after args s (.returned v) u = true ∧ True) → FrameEnd s (.returned v) u (Jvm.fieldLocs frame_1_writes args s ++ Jvm.arrayLocs frame_1_arrays args s ++ Jvm.staticLocs frame_1_statics s) 0 0 → Post tb e args s (.returned v) u) :
    ArmFor flags0 classFile x code maxLocals ret World_1 tables_1 room_1 Calls_1 rest_1 Pre_1 Post := by
  intro l hfl _ _ p e ha hc hk s m args below hf hA hF happ hP
  obtain ⟨hcalls, hrest, hpre⟩ := hP
  obtain ⟨-, -, -, hnamed, -, -, -, hat⟩ := (Spec.applies_iff hf).mp happ
  obtain ⟨hg, hn⟩ := and_e (Cond.before_iff.mp (show (Jvm.Cond.and given_1 narrow_1).before args s = true from hpre))
  obtain ⟨g1, g2⟩ := and_e hg
  obtain ⟨w0, rfl⟩ : ∃ w0 : Value, args = #[w0] := by
    have hs : args.size = 1 := by simpa [Cond.value, given_1] using g1
    obtain ⟨L⟩ := args
    match L, hs with
    | [w0], _ => exact ⟨w0, rfl⟩
  have hw := fun d (hd : d ∈ tables_1) => atoms_spec (ws := Jvm.Cond.code x code maxLocals ret :: tables_1) hat d (List.mem_cons_of_mem _ hd)
  obtain ⟨i0, ei0⟩ := isL_v g2
  obtain rfl : w0 = (.long i0) := Option.some.inj ei0
  obtain ⟨n, o, h1, h2, h3, _, L, rfl, ⟨N, _, hv⟩, hq⟩ := rm0 (l := l) (Z := s) hw i0 s.heap s.heap.size (Nat.le_refl _)  tables_1 p e ha hc hk s m _ below hf ((Spec.applies_iff_loose hf).mp happ).1 ⟨rfl, State.Warmed39.refl s, rfl⟩ trivial
  obtain ⟨hv, -⟩ := hv
  rw [own_law] at hv
  subst hv
  refine ⟨n, _, h1, h2, h3, hpost _ _ _ _ _ _ ⟨Cond.after_iff.mpr rfl, Cond.after_iff.mpr (eq_i res_at (Term.int_eval (1)) rfl), trivial⟩ ⟨hq.1, hq.2.1, (hq.2.2.sift fun y hy => Or.inr (N y hy)).mono (by decide) (by decide)⟩⟩
theorem main_1_1 : Claimed_1_1 := comes_1 fun _ _ _ _ _ _ h hF => ⟨h.1, hF⟩
theorem main_1_2 : Claimed_1_2 := comes_1 fun _ _ _ _ _ _ h hF => ⟨h.2.1, hF⟩
end Jvm.Pilot.@@N@@
namespace Jvm.Pilot.@@N@@
open Jvm Jvm.ClassFile Sem Op Lib Jvm.Free Jvm.Stand Jvm.Pilot.@@N@@.Jvm.D
/-! MADE BY PROGRAM (witnessworld.py) out of the Statement's table words and the real class files: 9 classes; the members and pool entries that the words name. The judged class is class 1, her method 4. -/
namespace start1
open Jvm.ClassFile
def u (s : String) : CpInfo := .utf8 (stringToUtf16 s)
/-- a pool by its gaps: so many unusable entries, then the entry; so many at the end -/
def gap : Nat → List CpInfo → List CpInfo
  | 0, r => r
  | n + 1, r => .unusable :: gap n r
def poolList (es : List (Nat × CpInfo)) (last : Nat) : List CpInfo := es.foldr (fun e r => gap e.1 (e.2 :: r)) (gap last [])
def pool (es : List (Nat × CpInfo)) (last : Nat) : Array CpInfo := ⟨poolList es last⟩
def fileOf (pool : Array CpInfo) (this : Nat) (attrs : Array Attribute := #[]) (ms : Array MethodInfo := #[]) (fl : Nat := 33) (sup : Nat := 0) (ifs : Array Nat := #[]) (fds : Array FieldInfo := #[]) : ClassFile where
  minorVersion := 0
  majorVersion := 65
  constantPool := pool
  accessFlags := fl
  thisClass := this
  superClass := sup
  interfaces := ifs
  fields := fds
  methods := ms
  attributes := attrs
def plain (name : String) (sup : Option ClassId) : Class where
  name := name
  kind := .ordinary
  loader := none
  accessFlags := 33
  super := sup
  interfaces := #[]
  cf := none
  fields := #[]
  methods := #[]
  instanceTypes := #[]
  staticTypes := #[]
  resolved := #[]
  callSites := []
  init := .initialized
  statics := none
  mirror := none

def pool0 : Array CpInfo := pool [(5, u "<init>"), (0, u "()V"), (1, .class_ 10), (1, u "java/lang/Object")] 113

def k0m0 : Method := { name := "<init>", desc := "()V", sig := { parameters := [], returnType := none }, accessFlags := 1, code := none }
/-- java/lang/Object -/
def k0 : Class := { plain "java/lang/Object" none with
  accessFlags := 33
  interfaces := #[]
  cf := some (fileOf pool0 8 #[] #[{ accessFlags := 1, nameIndex := 5, descriptorIndex := 6, attributes := #[] }] 33 0 #[] #[])
  fields := #[]
  methods := #[k0m0]
  instanceTypes := #[]
  staticTypes := #[]
  resolved := Array.replicate 124 none
  statics := none }

def pool1 : Array CpInfo := pool [(2, .class_ 4), (1, u "java/lang/Object"), (0, u "<init>"), (0, u "()V"), (0, .long 2), (1, .methodref 10 11), (0, .class_ 12), (0, .nameAndType 13 14), (0, u "com/example/pocket_simhash/pocketsimhash/Fmix64MixPinLaw"), (0, u "unshift"), (0, u "(J)J"), (0, .long 14181476777654086739), (1, .methodref 10 18), (0, .nameAndType 19 14), (0, u "inverse"), (0, .long 18397679294719823053), (1, .methodref 23 24), (0, .class_ 25), (0, .nameAndType 26 14), (0, u "com/example/pocket_simhash/pocketsimhash/Fmix64"), (0, u "mix"), (0, .methodref 10 28), (0, .nameAndType 29 14), (0, u "unmix"), (2, u "law"), (0, u "(J)Z")] 3

def k1m0 : Method := { name := "<init>", desc := "()V", sig := { parameters := [], returnType := none }, accessFlags := 2, code := none }
def k1c1 : Code := { maxStack := 8, maxLocals := 4, code := method_2_code, exceptionTable := #[], attributes := #[] }
def k1m1 : Method := { name := "inverse", desc := "(J)J", sig := { parameters := [.long], returnType := some .long }, accessFlags := 10, code := some k1c1 }
def k1c2 : Code := { maxStack := 5, maxLocals := 2, code := method_3_code, exceptionTable := #[], attributes := #[] }
def k1m2 : Method := { name := "unshift", desc := "(J)J", sig := { parameters := [.long], returnType := some .long }, accessFlags := 10, code := some k1c2 }
def k1c3 : Code := { maxStack := 4, maxLocals := 4, code := method_4_code, exceptionTable := #[], attributes := #[] }
def k1m3 : Method := { name := "unmix", desc := "(J)J", sig := { parameters := [.long], returnType := some .long }, accessFlags := 10, code := some k1c3 }
def k1c4 : Code := { maxStack := 4, maxLocals := 9, code := code, exceptionTable := #[], attributes := #[] }
def k1m4 : Method := { name := "law", desc := "(J)Z", sig := { parameters := [.long], returnType := some .boolean }, accessFlags := 9, code := some k1c4 }
/-- com/example/pocket_simhash/pocketsimhash/Fmix64MixPinLaw -/
def k1 : Class := { plain "com/example/pocket_simhash/pocketsimhash/Fmix64MixPinLaw" (some 0) with
  accessFlags := 49
  interfaces := #[]
  cf := some (fileOf pool1 10 #[] #[{ accessFlags := 2, nameIndex := 5, descriptorIndex := 6, attributes := #[] }, { accessFlags := 10, nameIndex := 19, descriptorIndex := 14, attributes := #[] }, { accessFlags := 10, nameIndex := 13, descriptorIndex := 14, attributes := #[] }, { accessFlags := 10, nameIndex := 29, descriptorIndex := 14, attributes := #[] }, { accessFlags := 9, nameIndex := 32, descriptorIndex := 33, attributes := #[] }] 49 2 #[] #[])
  fields := #[]
  methods := #[k1m0, k1m1, k1m2, k1m3, k1m4]
  instanceTypes := #[]
  staticTypes := #[]
  resolved := Array.replicate 37 none
  statics := none }

def pool2 : Array CpInfo := pool [(2, .class_ 4), (1, u "java/lang/Object"), (0, u "<init>"), (0, u "()V"), (0, .long 18397679294719823053), (1, .long 14181476777654086739), (1, .class_ 12), (0, u "com/example/pocket_simhash/pocketsimhash/Fmix64"), (2, u "mix"), (0, u "(J)J")] 2

def k2m0 : Method := { name := "<init>", desc := "()V", sig := { parameters := [], returnType := none }, accessFlags := 2, code := none }
def k2c1 : Code := { maxStack := 5, maxLocals := 4, code := prog_14_method_2_code, exceptionTable := #[], attributes := #[] }
def k2m1 : Method := { name := "mix", desc := "(J)J", sig := { parameters := [.long], returnType := some .long }, accessFlags := 8, code := some k2c1 }
/-- com/example/pocket_simhash/pocketsimhash/Fmix64 -/
def k2 : Class := { plain "com/example/pocket_simhash/pocketsimhash/Fmix64" (some 0) with
  accessFlags := 32
  interfaces := #[]
  cf := some (fileOf pool2 11 #[] #[{ accessFlags := 2, nameIndex := 5, descriptorIndex := 6, attributes := #[] }, { accessFlags := 8, nameIndex := 15, descriptorIndex := 16, attributes := #[] }] 32 2 #[] #[])
  fields := #[]
  methods := #[k2m0, k2m1]
  instanceTypes := #[]
  staticTypes := #[]
  resolved := Array.replicate 19 none
  statics := none }

def pool3 : Array CpInfo := pool [(1, u "java/lang/Cloneable"), (0, .class_ 1), (0, u "java/lang/Object"), (0, .class_ 3)] 3

/-- java/lang/Cloneable -/
def k3 : Class := { plain "java/lang/Cloneable" (some 0) with
  accessFlags := 1537
  interfaces := #[]
  cf := some (fileOf pool3 2 #[] #[] 1537 4 #[] #[])
  fields := #[]
  methods := #[]
  instanceTypes := #[]
  staticTypes := #[]
  resolved := Array.replicate 8 none
  statics := none }

def pool4 : Array CpInfo := pool [(1, u "java/io/Serializable"), (0, .class_ 1), (0, u "java/lang/Object"), (0, .class_ 3)] 3

/-- java/io/Serializable -/
def k4 : Class := { plain "java/io/Serializable" (some 0) with
  accessFlags := 1537
  interfaces := #[]
  cf := some (fileOf pool4 2 #[] #[] 1537 4 #[] #[])
  fields := #[]
  methods := #[]
  instanceTypes := #[]
  staticTypes := #[]
  resolved := Array.replicate 8 none
  statics := none }

/-- the primitive byte -/
def k5 : Class := { plain "byte" none with kind := .primitive 'B', accessFlags := 0x411 }
/-- [B -/
def k6 : Class := { plain "[B" (some 0) with kind := .array 5 .byte, interfaces := #[3, 4], accessFlags := 1041 }

/-- the primitive int -/
def k7 : Class := { plain "int" none with kind := .primitive 'I', accessFlags := 0x411 }
/-- [I -/
def k8 : Class := { plain "[I" (some 0) with kind := .array 7 .int, interfaces := #[3, 4], accessFlags := 1041 }

def heap : Heap := #[]
def classes : Array Class := #[k0, k1, k2, k3, k4, k5, k6, k7, k8]
def interned : List (Array UInt16 × Addr) := []
def slotsUsed : Nat := 0
def theMethod : MethodId := ⟨1, 4⟩
def args0 : Array Value := #[.long 5]
def aboutOver (below : List Frame) : State where
  vm := { classes := classes, interned := interned.toArray }
  heap := heap
  slotsUsed := slotsUsed
  threads := #[{ frames := .invoking theMethod args0 :: below }]
def below0 : List Frame := [.native { method := ⟨0, 0⟩, args := #[] }]
def about1 : State := aboutOver below0
def p0 : Program := .bare "" "" ""
def e0 : Env := launch0.env 0 0 0
theorem w_frames : about1.frames = Frame.invoking theMethod args0 :: below0 := rfl
set_option maxRecDepth 65536 in
theorem w_args : argsFit about1.vm theMethod args0 = true := by decide +kernel
set_option maxRecDepth 65536 in
theorem w_heap : heapFits about1 = true := by decide +kernel
set_option maxRecDepth 65536 in
theorem w_runnable : about1.curStatus? = some .runnable := by decide +kernel
set_option maxRecDepth 65536 in
theorem w_alone : about1.alone = true := by decide +kernel
set_option maxRecDepth 65536 in
theorem w_named : about1.methodNamed? x = some theMethod := by decide +kernel
set_option maxRecDepth 65536 in
theorem w_hears : about1.hears theMethod below0 = true := by decide +kernel
set_option maxRecDepth 65536 in
theorem w_ripe : about1.ripe theMethod args0 below0 = true := by decide +kernel
theorem w_running : about1.status = .running := rfl
set_option maxRecDepth 65536 in
theorem w_room : about1.hasRoom e0.platform room_1 = true :=
  launch0.hasRoom_least _ room_1 (by decide +kernel) (by decide +kernel) (by decide +kernel) (by decide +kernel) (by decide +kernel) (by decide +kernel)
theorem allAtoms_all (ts : List Jvm.Cond) (a : Array Jvm.Value) (st : Jvm.State) : (allAtoms ts).before a st = ts.all (fun c => c.before a st) := by
  induction ts with
  | nil => rfl
  | cons c t ih =>
    show (Jvm.Cond.and c (allAtoms t)).before a st = _
    rw [Jvm.Cond.before_and, ih, List.all_cons]
def words1 : List Jvm.Cond := Jvm.Cond.code x code maxLocals ret :: tables_1
/-- a 'code' word, met by the world's own term for the bytes: nothing is compared byte by byte -/
theorem code_word {y : MethodName} {bytes : ByteArray} {mx : Nat} {rt : Option FieldType} {a : Array Value} {s : State} {m : MethodId} {meth : Method} {c : Code} (h1 : s.methodNamed? y = some m) (h2 : s.vm.method? m = some meth) (h3 : meth.code = some c) (h4 : c.code = bytes)
    (h5 : (c.maxLocals == mx && c.exceptionTable.isEmpty && decide (c.maxStack ≤ mostOperands) && decide (meth.sig.returnType = rt) && !meth.locks && decide (parseMethodDescriptor y.desc = some meth.sig)) = true) : (Jvm.Cond.code y bytes mx rt).before a s = true := by
  simp only [Bool.and_eq_true, beq_iff_eq, Bool.not_eq_true', decide_eq_true_eq] at h5
  obtain ⟨⟨⟨⟨⟨g1, g2⟩, g3⟩, g4⟩, g5⟩, g6⟩ := h5
  simp [Cond.before, Cond.holds, Cond.value, h1, h2, h3, h4, g1, g2, g3, g4, g5, g6]
def isCode : Jvm.Cond → Bool
  | .code _ _ _ _ => true
  | _ => false
theorem all_split {L : List Jvm.Cond} {P : Jvm.Cond → Bool} (h1 : L.all (fun c => isCode c || P c) = true) (h2 : ∀ c ∈ L.filter isCode, P c = true) : L.all P = true := by
  refine List.all_eq_true.mpr fun c hc => ?_
  have h := List.all_eq_true.mp h1 c hc
  rcases Bool.eq_false_or_eq_true (isCode c) with hi | hi
  · exact h2 c (List.mem_filter.mpr ⟨hc, hi⟩)
  · simpa [hi] using h
set_option maxRecDepth 65536 in
theorem w_c0 : (Jvm.Cond.code x code maxLocals ret).before args0 about1 = true := code_word (m := ⟨1, 4⟩) (meth := k1m4) (c := k1c4) (by decide +kernel) rfl rfl rfl (by decide +kernel)
set_option maxRecDepth 65536 in
theorem w_c1 : (Jvm.Cond.code ({ cls := "com/example/pocket_simhash/pocketsimhash/Fmix64MixPinLaw", name := "inverse", desc := "(J)J" } : Jvm.MethodName) method_2_code (4 : Nat) (Option.some Jvm.ClassFile.FieldType.long)).before args0 about1 = true := code_word (m := ⟨1, 1⟩) (meth := k1m1) (c := k1c1) (by decide +kernel) rfl rfl rfl (by decide +kernel)
set_option maxRecDepth 65536 in
theorem w_c2 : (Jvm.Cond.code ({ cls := "com/example/pocket_simhash/pocketsimhash/Fmix64", name := "mix", desc := "(J)J" } : Jvm.MethodName) prog_14_method_2_code (4 : Nat) (Option.some Jvm.ClassFile.FieldType.long)).before args0 about1 = true := code_word (m := ⟨2, 1⟩) (meth := k2m1) (c := k2c1) (by decide +kernel) rfl rfl rfl (by decide +kernel)
set_option maxRecDepth 65536 in
theorem w_c3 : (Jvm.Cond.code ({ cls := "com/example/pocket_simhash/pocketsimhash/Fmix64MixPinLaw", name := "unmix", desc := "(J)J" } : Jvm.MethodName) method_4_code (4 : Nat) (Option.some Jvm.ClassFile.FieldType.long)).before args0 about1 = true := code_word (m := ⟨1, 3⟩) (meth := k1m3) (c := k1c3) (by decide +kernel) rfl rfl rfl (by decide +kernel)
set_option maxRecDepth 65536 in
theorem w_c4 : (Jvm.Cond.code ({ cls := "com/example/pocket_simhash/pocketsimhash/Fmix64MixPinLaw", name := "unshift", desc := "(J)J" } : Jvm.MethodName) method_3_code (2 : Nat) (Option.some Jvm.ClassFile.FieldType.long)).before args0 about1 = true := code_word (m := ⟨1, 2⟩) (meth := k1m2) (c := k1c2) (by decide +kernel) rfl rfl rfl (by decide +kernel)
def codes1 : List Jvm.Cond := [Jvm.Cond.code x code maxLocals ret, Jvm.Cond.code ({ cls := "com/example/pocket_simhash/pocketsimhash/Fmix64MixPinLaw", name := "inverse", desc := "(J)J" } : Jvm.MethodName) method_2_code (4 : Nat) (Option.some Jvm.ClassFile.FieldType.long), Jvm.Cond.code ({ cls := "com/example/pocket_simhash/pocketsimhash/Fmix64", name := "mix", desc := "(J)J" } : Jvm.MethodName) prog_14_method_2_code (4 : Nat) (Option.some Jvm.ClassFile.FieldType.long), Jvm.Cond.code ({ cls := "com/example/pocket_simhash/pocketsimhash/Fmix64MixPinLaw", name := "unmix", desc := "(J)J" } : Jvm.MethodName) method_4_code (4 : Nat) (Option.some Jvm.ClassFile.FieldType.long), Jvm.Cond.code ({ cls := "com/example/pocket_simhash/pocketsimhash/Fmix64MixPinLaw", name := "unshift", desc := "(J)J" } : Jvm.MethodName) method_3_code (2 : Nat) (Option.some Jvm.ClassFile.FieldType.long)]
set_option maxRecDepth 65536 in
theorem codes_eq : words1.filter isCode = codes1 := rfl
theorem w_codes : ∀ c ∈ words1.filter isCode, c.before args0 about1 = true := by
  rw [codes_eq]
  intro c hc
  simp only [codes1, List.mem_cons, List.not_mem_nil, or_false] at hc
  rcases hc with rfl | rfl | rfl | rfl | rfl
  · exact w_c0
  · exact w_c1
  · exact w_c2
  · exact w_c3
  · exact w_c4
set_option maxRecDepth 65536 in
theorem w_t1 : words1.all (fun c => isCode c || c.before args0 about1) = true := by decide +kernel
theorem w_tables : (allAtoms (Jvm.Cond.code x code maxLocals ret :: tables_1)).before args0 about1 = true := by
  rw [allAtoms_all]
  show words1.all (fun c => c.before args0 about1) = true
  refine all_split ?_ w_codes
  rw [w_t1]
set_option maxRecDepth 65536 in
theorem w_case : (Jvm.Cond.and given_1 narrow_1).before args0 about1 = true := by decide +kernel
theorem w_applies : (headSpec (Jvm.Cond.code x code maxLocals ret :: tables_1) room_1).applies x e0.platform about1 = true :=
  (Spec.applies_iff w_frames).mpr ⟨w_running, w_runnable, w_alone, w_named, w_hears, w_ripe, w_room, w_tables⟩
theorem atStart : AtStart classFile x code maxLocals ret World_1 tables_1 room_1 Calls_1 rest_1 Pre_1 launch0 p0 e0 about1 theMethod args0 below0 :=
  ⟨lists_1, trivial, launch0.admits_env _ _ _, launch0.least_env, fairChoices_fair.cas, fairChoices_fair.clock, w_frames, w_args, w_heap, w_applies, trivial, trivial, w_case⟩
end start1
theorem witness_1 : WitnessClaimed_1 := ⟨start1.p0, start1.e0, start1.about1, start1.theMethod, start1.args0, start1.below0, start1.atStart⟩
end Jvm.Pilot.@@N@@
