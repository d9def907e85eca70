import JvmDerived
import JvmDerived.Pilot.@@N@@Statement
import JvmDerived.Pilot.@@N@@Code
set_option linter.unusedVariables false
set_option linter.unusedSimpArgs false
namespace Jvm.Pilot.@@N@@
open Jvm Jvm.ClassFile Sem Op Lib Jvm.Free Jvm.Stand Jvm.LawKit Jvm.RoadKit Bundle Jvm.Pilot.@@N@@.Jvm.D

section OwnKit
/-- from here the run comes to a return that says Q -/
def OFin (n0 : Nat) (p : Program) (e : Env) (below : List Frame) (s : State) (Q : Option Value → Heap → Prop) (ck sk : Nat) (T : State) (g : JFrame) : Prop :=
  ∃ s₂ o, Steps p.tables e below (T.setTop g) s₂ ∧ s₂.status = .running ∧ Ended s₂ below o ∧ ∃ v L, o = .returned v ∧ (Fr n0 L ∧ n0 ≤ s₂.heap.size ∧ Q v s₂.heap) ∧ FrameEnd s o s₂ L ck sk
/-- where the walk of a body stands, with all that is known of the body -/
def OG (l : Launch) (Z : State) (y : MethodName) (bytes : ByteArray) (maxl : Nat) (ret : Option FieldType) (n0 : Nat) (p : Program) (e : Env) (R : Room) (s : State) (m : MethodId) (args : Array Value) (below : List Frame) (meth : Method) (c : Code) (T : State) (h : Heap) (cells slots : Nat) : Prop :=
  p.tables.exec = Jvm.exec ∧ c.code = bytes ∧ c.maxLocals = maxl ∧ s.vm.findClass y.cls = some m.cls ∧ meth.name = y.name ∧ meth.sig.returnType = ret ∧ meth.locks = false ∧ Z.Warmed39 s.vm ∧ T.heap = h ∧ n0 ≤ h.size ∧ ∃ locs, Stand p l e R s m args below meth c T locs cells slots ∧ Fr n0 locs
/-- a body's contract -/
def OMet (l : Launch) (Z : State) (y : MethodName) (bytes : ByteArray) (maxl : Nat) (ret : Option FieldType) (rm : Room) (as' : Array Value) (h0 : Heap) (n0 : Nat) (ck sk : Nat) (Q : Option Value → Heap → Prop) : Prop :=
  ∀ ws : List Jvm.Cond, MetFree l y (head1 (Jvm.Cond.code y bytes maxl ret :: ws) rm) (fun a U => a = as' ∧ Z.Warmed39 U.vm ∧ U.heap = h0) (fun _ _ _ _ _ => True) (fun _ U o U' => ∃ v L, o = .returned v ∧ (Fr n0 L ∧ n0 ≤ U'.heap.size ∧ Q v U'.heap) ∧ FrameEnd U o U' L ck sk)
variable {l : Launch} {Z : State} {y : MethodName} {bytes : ByteArray} {maxl : Nat} {ret : Option FieldType} {n0 : Nat} {p : Program} {e : Env} {R : Room} {s : State} {m : MethodId} {args : Array Value} {below : List Frame} {meth : Method} {c : Code} {T : State} {h : Heap} {cells slots ck sk : Nat} {Q : Option Value → Heap → Prop} {pc pc' : Nat} {Ls : Array Slot} {rest : List Value} {a0 : Array Value}
theorem o_step {T' : State} {g g' : JFrame} (st : ∀ t, Steps p.tables e below (T'.setTop g') t → Steps p.tables e below (T.setTop g) t) (k : OFin n0 p e below s Q ck sk T' g') : OFin n0 p e below s Q ck sk T g := by
  obtain ⟨s₂, o, h1, r⟩ := k
  exact ⟨s₂, o, st _ h1, r⟩
theorem o_body {rm : Room} {as' : Array Value} {h0 : Heap} (hy : plainFor y = true) (hz : n0 ≤ h0.size) (hent : ∀ m, entryFrame m as' maxl = mkF m 0 Ls [])
    (body : ∀ (p : Program) (e : Env) (s : State) (m : MethodId) (below : List Frame) (meth : Method) (c : Code) (s₁ : State), OG l Z y bytes maxl ret n0 p e rm s m as' below meth c s₁ h0 0 0 → OFin n0 p e below s Q ck sk s₁ (mkF m 0 Ls [])) : OMet l Z y bytes maxl ret rm as' h0 n0 ck sk Q := by
  intro ws
  refine MetFree.of_bodySF hy hisR ?_
  intro p e s m args below meth c s₁ Bd hml0 hP hK
  obtain ⟨ha, hZ, hh⟩ := hP
  subst ha
  have e0 : s₁.heap = h0 := by rw [← hh, Bd.state]; rfl
  have k := body p e s m below meth c s₁ ⟨Bd.exec, Bd.bytes, hml0, findClass_of_methodNamed Bd.named, (name_of_methodNamed Bd.named Bd.method).1, Bd.returns, Bd.notSynchronized, hZ, e0, hz, [], Stand.of_body Bd, Fr.nil n0⟩
  rw [← hent m] at k
  exact k
theorem OG.sz (G : OG l Z y bytes maxl ret n0 p e R s m args below meth c T h cells slots) : n0 ≤ h.size := G.2.2.2.2.2.2.2.2.2.1
theorem OG.eh (G : OG l Z y bytes maxl ret n0 p e R s m args below meth c T h cells slots) : T.heap = h := G.2.2.2.2.2.2.2.2.1
theorem OG.wm (G : OG l Z y bytes maxl ret n0 p e R s m args below meth c T h cells slots) : Z.Warmed39 s.vm := G.2.2.2.2.2.2.2.1
theorem o_iloadN (G : OG l Z y bytes maxl ret n0 p e R s m args below meth c T h cells slots) {k0 : Fin 4} {v : Int32} (hd : decode bytes pc = .ok (.iload_n k0, 1)) (hp : pc + 1 = pc') (hl : Ls[k0.val]? = some (.val (.int v))) (k : OFin n0 p e below s Q ck sk T (mkF m pc' Ls (.int v :: rest))) : OFin n0 p e below s Q ck sk T (mkF m pc Ls rest) := by
  subst hp
  obtain ⟨hx, hby, -, -, -, -, -, -, -, -, locs, X, -⟩ := G
  exact o_step (fun _ hr => XS.iloadN X.here hx rfl (hb hby hd) hl hr) k
theorem o_iload (G : OG l Z y bytes maxl ret n0 p e R s m args below meth c T h cells slots) {k0 : Nat} {v : Int32} (hd : decode bytes pc = .ok (.iload k0, 2)) (hp : pc + 2 = pc') (hl : Ls[k0]? = some (.val (.int v))) (k : OFin n0 p e below s Q ck sk T (mkF m pc' Ls (.int v :: rest))) : OFin n0 p e below s Q ck sk T (mkF m pc Ls rest) := by
  subst hp
  obtain ⟨hx, hby, -, -, -, -, -, -, -, -, locs, X, -⟩ := G
  exact o_step (fun _ hr => XS.iload X.here hx rfl (hb hby hd) hl hr) k
theorem o_lloadN (G : OG l Z y bytes maxl ret n0 p e R s m args below meth c T h cells slots) {k0 : Fin 4} {v : Int64} (hd : decode bytes pc = .ok (.lload_n k0, 1)) (hp : pc + 1 = pc') (hl : Ls[k0.val]? = some (.val (.long v))) (k : OFin n0 p e below s Q ck sk T (mkF m pc' Ls (.long v :: rest))) : OFin n0 p e below s Q ck sk T (mkF m pc Ls rest) := by
  subst hp
  obtain ⟨hx, hby, -, -, -, -, -, -, -, -, locs, X, -⟩ := G
  exact o_step (fun _ hr => XS.lloadN X.here hx rfl (hb hby hd) hl hr) k
theorem o_lload (G : OG l Z y bytes maxl ret n0 p e R s m args below meth c T h cells slots) {k0 : Nat} {v : Int64} (hd : decode bytes pc = .ok (.lload k0, 2)) (hp : pc + 2 = pc') (hl : Ls[k0]? = some (.val (.long v))) (k : OFin n0 p e below s Q ck sk T (mkF m pc' Ls (.long v :: rest))) : OFin n0 p e below s Q ck sk T (mkF m pc Ls rest) := by
  subst hp
  obtain ⟨hx, hby, -, -, -, -, -, -, -, -, locs, X, -⟩ := G
  exact o_step (fun _ hr => XS.lload X.here hx rfl (hb hby hd) hl hr) k
theorem o_aloadN (G : OG l Z y bytes maxl ret n0 p e R s m args below meth c T h cells slots) {k0 : Fin 4} {v : Value} (hd : decode bytes pc = .ok (.aload_n k0, 1)) (hp : pc + 1 = pc') (hl : Ls[k0.val]? = some (.val v)) (hv : v.isRef = true) (k : OFin n0 p e below s Q ck sk T (mkF m pc' Ls (v :: rest))) : OFin n0 p e below s Q ck sk T (mkF m pc Ls rest) := by
  subst hp
  obtain ⟨hx, hby, -, -, -, -, -, -, -, -, locs, X, -⟩ := G
  exact o_step (fun _ hr => XS.aloadN X.here hx rfl (hb hby hd) hl hv hr) k
theorem o_aload (G : OG l Z y bytes maxl ret n0 p e R s m args below meth c T h cells slots) {k0 : Nat} {v : Value} (hd : decode bytes pc = .ok (.aload k0, 2)) (hp : pc + 2 = pc') (hl : Ls[k0]? = some (.val v)) (hv : v.isRef = true) (k : OFin n0 p e below s Q ck sk T (mkF m pc' Ls (v :: rest))) : OFin n0 p e below s Q ck sk T (mkF m pc Ls rest) := by
  subst hp
  obtain ⟨hx, hby, -, -, -, -, -, -, -, -, locs, X, -⟩ := G
  exact o_step (fun _ hr => XS.aload X.here hx rfl (hb hby hd) hl hv hr) k
theorem o_istoreN (G : OG l Z y bytes maxl ret n0 p e R s m args below meth c T h cells slots) {k0 : Fin 4} {v : Int32} {l' : Array Slot} (hd : decode bytes pc = .ok (.istore_n k0, 1)) (hp : pc + 1 = pc') (hl : storeLocals Ls k0.val (.int v) = some l') (k : OFin n0 p e below s Q ck sk T (mkF m pc' l' rest)) : OFin n0 p e below s Q ck sk T (mkF m pc Ls (.int v :: rest)) := by
  subst hp
  obtain ⟨hx, hby, -, -, -, -, -, -, -, -, locs, X, -⟩ := G
  exact o_step (fun _ hr => XS.istoreN X.here hx rfl (hb hby hd) rfl hl hr) k
theorem o_istore (G : OG l Z y bytes maxl ret n0 p e R s m args below meth c T h cells slots) {k0 : Nat} {v : Int32} {l' : Array Slot} (hd : decode bytes pc = .ok (.istore k0, 2)) (hp : pc + 2 = pc') (hl : storeLocals Ls k0 (.int v) = some l') (k : OFin n0 p e below s Q ck sk T (mkF m pc' l' rest)) : OFin n0 p e below s Q ck sk T (mkF m pc Ls (.int v :: rest)) := by
  subst hp
  obtain ⟨hx, hby, -, -, -, -, -, -, -, -, locs, X, -⟩ := G
  exact o_step (fun _ hr => XS.istore X.here hx rfl (hb hby hd) rfl hl hr) k
theorem o_lstore (G : OG l Z y bytes maxl ret n0 p e R s m args below meth c T h cells slots) {k0 : Nat} {v : Int64} {l' : Array Slot} (hd : decode bytes pc = .ok (.lstore k0, 2)) (hp : pc + 2 = pc') (hl : storeLocals Ls k0 (.long v) = some l') (k : OFin n0 p e below s Q ck sk T (mkF m pc' l' rest)) : OFin n0 p e below s Q ck sk T (mkF m pc Ls (.long v :: rest)) := by
  subst hp
  obtain ⟨hx, hby, -, -, -, -, -, -, -, -, locs, X, -⟩ := G
  exact o_step (fun _ hr => XS.lstore X.here hx rfl (hb hby hd) rfl hl hr) k
theorem o_astore (G : OG l Z y bytes maxl ret n0 p e R s m args below meth c T h cells slots) {k0 : Nat} {v : Value} {l' : Array Slot} (hd : decode bytes pc = .ok (.astore k0, 2)) (hp : pc + 2 = pc') (hv : v.isRef = true) (hl : storeLocals Ls k0 v = some l') (k : OFin n0 p e below s Q ck sk T (mkF m pc' l' rest)) : OFin n0 p e below s Q ck sk T (mkF m pc Ls (v :: rest)) := by
  subst hp
  obtain ⟨hx, hby, -, -, -, -, -, -, -, -, locs, X, -⟩ := G
  exact o_step (fun _ hr => XS.astore X.here hx rfl (hb hby hd) rfl hv hl hr) k
theorem o_iconst (G : OG l Z y bytes maxl ret n0 p e R s m args below meth c T h cells slots) {i : Int} {v : Int32} (hd : decode bytes pc = .ok (.iconst i, 1)) (hp : pc + 1 = pc') (hv : Int32.ofInt i = v) (k : OFin n0 p e below s Q ck sk T (mkF m pc' Ls (.int v :: rest))) : OFin n0 p e below s Q ck sk T (mkF m pc Ls rest) := by
  subst hp
  subst hv
  obtain ⟨hx, hby, -, -, -, -, -, -, -, -, locs, X, -⟩ := G
  exact o_step (fun _ hr => XS.iconst X.here hx rfl (hb hby hd) hr) k
theorem o_bipush (G : OG l Z y bytes maxl ret n0 p e R s m args below meth c T h cells slots) {i : Int} {v : Int32} (hd : decode bytes pc = .ok (.bipush i, 2)) (hp : pc + 2 = pc') (hv : (Int8.ofInt i).toInt32 = v) (k : OFin n0 p e below s Q ck sk T (mkF m pc' Ls (.int v :: rest))) : OFin n0 p e below s Q ck sk T (mkF m pc Ls rest) := by
  subst hp
  subst hv
  obtain ⟨hx, hby, -, -, -, -, -, -, -, -, locs, X, -⟩ := G
  exact o_step (fun _ hr => XS.bipush X.here hx rfl (hb hby hd) hr) k
theorem o_lconst (G : OG l Z y bytes maxl ret n0 p e R s m args below meth c T h cells slots) {i : Fin 2} {v : Int64} (hd : decode bytes pc = .ok (.lconst i, 1)) (hp : pc + 1 = pc') (hv : Int64.ofNat i = v) (k : OFin n0 p e below s Q ck sk T (mkF m pc' Ls (.long v :: rest))) : OFin n0 p e below s Q ck sk T (mkF m pc Ls rest) := by
  subst hp
  subst hv
  obtain ⟨hx, hby, -, -, -, -, -, -, -, -, locs, X, -⟩ := G
  exact o_step (fun _ hr => XS.lconst X.here hx rfl (hb hby hd) hr) k
theorem o_ladd (G : OG l Z y bytes maxl ret n0 p e R s m args below meth c T h cells slots) {u w v : Int64} (hd : decode bytes pc = .ok (.ladd, 1)) (hp : pc + 1 = pc') (hv : u + w = v) (k : OFin n0 p e below s Q ck sk T (mkF m pc' Ls (.long v :: rest))) : OFin n0 p e below s Q ck sk T (mkF m pc Ls (.long w :: .long u :: rest)) := by
  subst hp
  subst hv
  obtain ⟨hx, hby, -, -, -, -, -, -, -, -, locs, X, -⟩ := G
  exact o_step (fun _ hr => XS.ladd X.here hx rfl (hb hby hd) rfl hr) k
theorem o_lmul (G : OG l Z y bytes maxl ret n0 p e R s m args below meth c T h cells slots) {u w v : Int64} (hd : decode bytes pc = .ok (.lmul, 1)) (hp : pc + 1 = pc') (hv : u * w = v) (k : OFin n0 p e below s Q ck sk T (mkF m pc' Ls (.long v :: rest))) : OFin n0 p e below s Q ck sk T (mkF m pc Ls (.long w :: .long u :: rest)) := by
  subst hp
  subst hv
  obtain ⟨hx, hby, -, -, -, -, -, -, -, -, locs, X, -⟩ := G
  exact o_step (fun _ hr => XS.lmul X.here hx rfl (hb hby hd) rfl hr) k
theorem o_land (G : OG l Z y bytes maxl ret n0 p e R s m args below meth c T h cells slots) {u w v : Int64} (hd : decode bytes pc = .ok (.land, 1)) (hp : pc + 1 = pc') (hv : u &&& w = v) (k : OFin n0 p e below s Q ck sk T (mkF m pc' Ls (.long v :: rest))) : OFin n0 p e below s Q ck sk T (mkF m pc Ls (.long w :: .long u :: rest)) := by
  subst hp
  subst hv
  obtain ⟨hx, hby, -, -, -, -, -, -, -, -, locs, X, -⟩ := G
  exact o_step (fun _ hr => XS.land X.here hx rfl (hb hby hd) rfl hr) k
theorem o_lor (G : OG l Z y bytes maxl ret n0 p e R s m args below meth c T h cells slots) {u w v : Int64} (hd : decode bytes pc = .ok (.lor, 1)) (hp : pc + 1 = pc') (hv : u ||| w = v) (k : OFin n0 p e below s Q ck sk T (mkF m pc' Ls (.long v :: rest))) : OFin n0 p e below s Q ck sk T (mkF m pc Ls (.long w :: .long u :: rest)) := by
  subst hp
  subst hv
  obtain ⟨hx, hby, -, -, -, -, -, -, -, -, locs, X, -⟩ := G
  exact o_step (fun _ hr => XS.lor X.here hx rfl (hb hby hd) rfl hr) k
theorem o_lshl (G : OG l Z y bytes maxl ret n0 p e R s m args below meth c T h cells slots) {u v : Int64} {w : Int32} (hd : decode bytes pc = .ok (.lshl, 1)) (hp : pc + 1 = pc') (hv : u <<< (w &&& 0x3f).toInt64 = v) (k : OFin n0 p e below s Q ck sk T (mkF m pc' Ls (.long v :: rest))) : OFin n0 p e below s Q ck sk T (mkF m pc Ls (.int w :: .long u :: rest)) := by
  subst hp
  subst hv
  obtain ⟨hx, hby, -, -, -, -, -, -, -, -, locs, X, -⟩ := G
  exact o_step (fun _ hr => XS.lshl X.here hx rfl (hb hby hd) rfl hr) k
theorem o_lshr (G : OG l Z y bytes maxl ret n0 p e R s m args below meth c T h cells slots) {u v : Int64} {w : Int32} (hd : decode bytes pc = .ok (.lshr, 1)) (hp : pc + 1 = pc') (hv : u >>> (w &&& 0x3f).toInt64 = v) (k : OFin n0 p e below s Q ck sk T (mkF m pc' Ls (.long v :: rest))) : OFin n0 p e below s Q ck sk T (mkF m pc Ls (.int w :: .long u :: rest)) := by
  subst hp
  subst hv
  obtain ⟨hx, hby, -, -, -, -, -, -, -, -, locs, X, -⟩ := G
  exact o_step (fun _ hr => XS.lshr X.here hx rfl (hb hby hd) rfl hr) k
theorem o_lushr (G : OG l Z y bytes maxl ret n0 p e R s m args below meth c T h cells slots) {u v : Int64} {w : Int32} (hd : decode bytes pc = .ok (.lushr, 1)) (hp : pc + 1 = pc') (hv : (u.toUInt64 >>> (w &&& 0x3f).toInt64.toUInt64).toInt64 = v) (k : OFin n0 p e below s Q ck sk T (mkF m pc' Ls (.long v :: rest))) : OFin n0 p e below s Q ck sk T (mkF m pc Ls (.int w :: .long u :: rest)) := by
  subst hp
  subst hv
  obtain ⟨hx, hby, -, -, -, -, -, -, -, -, locs, X, -⟩ := G
  exact o_step (fun _ hr => XS.lushr X.here hx rfl (hb hby hd) rfl hr) k
theorem o_l2i (G : OG l Z y bytes maxl ret n0 p e R s m args below meth c T h cells slots) {u : Int64} {v : Int32} (hd : decode bytes pc = .ok (.l2i, 1)) (hp : pc + 1 = pc') (hv : u.toInt32 = v) (k : OFin n0 p e below s Q ck sk T (mkF m pc' Ls (.int v :: rest))) : OFin n0 p e below s Q ck sk T (mkF m pc Ls (.long u :: rest)) := by
  subst hp
  subst hv
  obtain ⟨hx, hby, -, -, -, -, -, -, -, -, locs, X, -⟩ := G
  exact o_step (fun _ hr => XS.l2i X.here hx rfl (hb hby hd) rfl hr) k
theorem o_dup (G : OG l Z y bytes maxl ret n0 p e R s m args below meth c T h cells slots) {v : Value} (hd : decode bytes pc = .ok (.dup, 1)) (hp : pc + 1 = pc') (hc : v.category = 1) (k : OFin n0 p e below s Q ck sk T (mkF m pc' Ls (v :: v :: rest))) : OFin n0 p e below s Q ck sk T (mkF m pc Ls (v :: rest)) := by
  subst hp
  obtain ⟨hx, hby, -, -, -, -, -, -, -, -, locs, X, -⟩ := G
  exact o_step (fun _ hr => XS.dup X.here hx rfl (hb hby hd) rfl hc hr) k
theorem o_iinc (G : OG l Z y bytes maxl ret n0 p e R s m args below meth c T h cells slots) {k0 : Nat} {cst : Int} {u w v : Int32} {l' : Array Slot} (hd : decode bytes pc = .ok (.iinc k0 cst, 3)) (hp : pc + 3 = pc') (hl : Ls[k0]? = some (.val (.int u))) (hc : Int32.ofInt cst = w) (hv : u + w = v) (hl' : storeLocals Ls k0 (.int v) = some l') (k : OFin n0 p e below s Q ck sk T (mkF m pc' l' rest)) : OFin n0 p e below s Q ck sk T (mkF m pc Ls rest) := by
  subst hp
  subst hc
  subst hv
  obtain ⟨hx, hby, -, -, -, -, -, -, -, -, locs, X, -⟩ := G
  exact o_step (fun _ hr => XS.iinc X.here hx rfl (hb hby hd) hl hl' hr) k
theorem o_goto (G : OG l Z y bytes maxl ret n0 p e R s m args below meth c T h cells slots) {o : Int} (hd : decode bytes pc = .ok (.goto o, 3)) (ho : 0 ≤ (pc : Int) + o) (hp : ((pc : Int) + o).toNat = pc') (k : OFin n0 p e below s Q ck sk T (mkF m pc' Ls rest)) : OFin n0 p e below s Q ck sk T (mkF m pc Ls rest) := by
  obtain ⟨hx, hby, -, -, -, -, -, -, -, -, locs, X, -⟩ := G
  exact o_step (fun _ hr => XS.goto X.here hx rfl (pc0 := pc) (pc' := pc') rfl (hb hby hd) ho hp hr) k
theorem o_icmp_ge (G : OG l Z y bytes maxl ret n0 p e R s m args below meth c T h cells slots) {o : Int} {pcT : Nat} {u w : Int32} (hd : decode bytes pc = .ok (.if_icmp .ge o, 3)) (ho : 0 ≤ (pc : Int) + o) (hpT : ((pc : Int) + o).toNat = pcT) (hp : pc + 3 = pc') (kT : ¬ u < w → OFin n0 p e below s Q ck sk T (mkF m pcT Ls rest)) (kF : u < w → OFin n0 p e below s Q ck sk T (mkF m pc' Ls rest)) : OFin n0 p e below s Q ck sk T (mkF m pc Ls (.int w :: .int u :: rest)) := by
  subst hp
  obtain ⟨hx, hby, -, -, -, -, -, -, -, -, locs, X, -⟩ := G
  by_cases q : ¬ u < w
  · exact o_step (fun _ hr => XS.icmpYes X.here hx rfl (pc0 := pc) (pc' := pcT) rfl (hb hby hd) rfl (flt q).2.1 ho hpT hr) (kT q)
  · have q := Decidable.not_not.mp q
    exact o_step (fun _ hr => XS.icmpNo X.here hx rfl (hb hby hd) rfl (tlt q).2.1 hr) (kF q)
theorem o_if_eq (G : OG l Z y bytes maxl ret n0 p e R s m args below meth c T h cells slots) {o : Int} {pcT : Nat} {u : Int32} (hd : decode bytes pc = .ok (.ifCond .eq o, 3)) (ho : 0 ≤ (pc : Int) + o) (hpT : ((pc : Int) + o).toNat = pcT) (hp : pc + 3 = pc') (kT : u = (0 : Int32) → OFin n0 p e below s Q ck sk T (mkF m pcT Ls rest)) (kF : ¬ u = (0 : Int32) → OFin n0 p e below s Q ck sk T (mkF m pc' Ls rest)) : OFin n0 p e below s Q ck sk T (mkF m pc Ls (.int u :: rest)) := by
  subst hp
  obtain ⟨hx, hby, -, -, -, -, -, -, -, -, locs, X, -⟩ := G
  by_cases q : u = (0 : Int32)
  · exact o_step (fun _ hr => XS.ifYes X.here hx rfl (pc0 := pc) (pc' := pcT) rfl (hb hby hd) rfl ((if0 _ _).trans (teq q).1) ho hpT hr) (kT q)
  · exact o_step (fun _ hr => XS.ifNo X.here hx rfl (hb hby hd) rfl ((if0 _ _).trans (feq q).1) hr) (kF q)
theorem o_icmp_ne (G : OG l Z y bytes maxl ret n0 p e R s m args below meth c T h cells slots) {o : Int} {pcT : Nat} {u w : Int32} (hd : decode bytes pc = .ok (.if_icmp .ne o, 3)) (ho : 0 ≤ (pc : Int) + o) (hpT : ((pc : Int) + o).toNat = pcT) (hp : pc + 3 = pc') (kT : ¬ u = w → OFin n0 p e below s Q ck sk T (mkF m pcT Ls rest)) (kF : u = w → OFin n0 p e below s Q ck sk T (mkF m pc' Ls rest)) : OFin n0 p e below s Q ck sk T (mkF m pc Ls (.int w :: .int u :: rest)) := by
  subst hp
  obtain ⟨hx, hby, -, -, -, -, -, -, -, -, locs, X, -⟩ := G
  by_cases q : ¬ u = w
  · exact o_step (fun _ hr => XS.icmpYes X.here hx rfl (pc0 := pc) (pc' := pcT) rfl (hb hby hd) rfl (feq q).2 ho hpT hr) (kT q)
  · have q := Decidable.not_not.mp q
    exact o_step (fun _ hr => XS.icmpNo X.here hx rfl (hb hby hd) rfl (teq q).2 hr) (kF q)
theorem o_if_ne (G : OG l Z y bytes maxl ret n0 p e R s m args below meth c T h cells slots) {o : Int} {pcT : Nat} {u : Int32} (hd : decode bytes pc = .ok (.ifCond .ne o, 3)) (ho : 0 ≤ (pc : Int) + o) (hpT : ((pc : Int) + o).toNat = pcT) (hp : pc + 3 = pc') (kT : ¬ u = (0 : Int32) → OFin n0 p e below s Q ck sk T (mkF m pcT Ls rest)) (kF : u = (0 : Int32) → OFin n0 p e below s Q ck sk T (mkF m pc' Ls rest)) : OFin n0 p e below s Q ck sk T (mkF m pc Ls (.int u :: rest)) := by
  subst hp
  obtain ⟨hx, hby, -, -, -, -, -, -, -, -, locs, X, -⟩ := G
  by_cases q : ¬ u = (0 : Int32)
  · exact o_step (fun _ hr => XS.ifYes X.here hx rfl (pc0 := pc) (pc' := pcT) rfl (hb hby hd) rfl ((if0 _ _).trans (feq q).2) ho hpT hr) (kT q)
  · have q := Decidable.not_not.mp q
    exact o_step (fun _ hr => XS.ifNo X.here hx rfl (hb hby hd) rfl ((if0 _ _).trans (teq q).2) hr) (kF q)
theorem o_lcmp_eq (G : OG l Z y bytes maxl ret n0 p e R s m args below meth c T h cells slots) {o : Int} {pc1 pcT : Nat} {u w : Int64} (hd : decode bytes pc = .ok (.lcmp, 1)) (hp1 : pc + 1 = pc1) (hd2 : decode bytes pc1 = .ok (.ifCond .eq o, 3)) (ho : 0 ≤ (pc1 : Int) + o) (hpT : ((pc1 : Int) + o).toNat = pcT) (hp : pc1 + 3 = pc') (kT : u = w → OFin n0 p e below s Q ck sk T (mkF m pcT Ls rest)) (kF : ¬ u = w → OFin n0 p e below s Q ck sk T (mkF m pc' Ls rest)) : OFin n0 p e below s Q ck sk T (mkF m pc Ls (.long w :: .long u :: rest)) := by
  have G0 := G
  obtain ⟨hx, hby, -, -, -, -, -, -, -, -, locs, X, -⟩ := G
  subst hp1
  refine o_step (fun _ hr => XS.lcmp X.here hx rfl (hb hby hd) rfl hr) ?_
  show OFin n0 p e below s Q ck sk T (mkF m (pc + 1) Ls (.int (lcmpW u w) :: rest))
  refine o_if_eq G0 hd2 ho hpT hp (fun q => kT ?_) (fun q => kF ?_)
  · simpa only [lw_eq] using q
  · simpa only [lw_eq] using q
theorem o_lcmp_ne (G : OG l Z y bytes maxl ret n0 p e R s m args below meth c T h cells slots) {o : Int} {pc1 pcT : Nat} {u w : Int64} (hd : decode bytes pc = .ok (.lcmp, 1)) (hp1 : pc + 1 = pc1) (hd2 : decode bytes pc1 = .ok (.ifCond .ne o, 3)) (ho : 0 ≤ (pc1 : Int) + o) (hpT : ((pc1 : Int) + o).toNat = pcT) (hp : pc1 + 3 = pc') (kT : ¬ u = w → OFin n0 p e below s Q ck sk T (mkF m pcT Ls rest)) (kF : u = w → OFin n0 p e below s Q ck sk T (mkF m pc' Ls rest)) : OFin n0 p e below s Q ck sk T (mkF m pc Ls (.long w :: .long u :: rest)) := by
  have G0 := G
  obtain ⟨hx, hby, -, -, -, -, -, -, -, -, locs, X, -⟩ := G
  subst hp1
  refine o_step (fun _ hr => XS.lcmp X.here hx rfl (hb hby hd) rfl hr) ?_
  show OFin n0 p e below s Q ck sk T (mkF m (pc + 1) Ls (.int (lcmpW u w) :: rest))
  refine o_if_ne G0 hd2 ho hpT hp (fun q => kT ?_) (fun q => kF ?_)
  · simpa only [lw_eq] using q
  · simpa only [lw_eq] using q
theorem o_ldc2 (G : OG l Z y bytes maxl ret n0 p e R s m args below meth c T h cells slots) {index : Nat} {v : Int64} (hd : decode bytes pc = .ok (.ldc2_w index, 3)) (hp : pc + 3 = pc') (w : (Jvm.Cond.constantLong y.cls index v).before a0 Z = true) (k : OFin n0 p e below s Q ck sk T (mkF m pc' Ls (.long v :: rest))) : OFin n0 p e below s Q ck sk T (mkF m pc Ls rest) := by
  subst hp
  obtain ⟨hx, hby, -, hown, -, -, -, hZ, -, -, locs, X, -⟩ := G
  exact o_step (fun _ hr => X.ldc2Long hx hown (mvT hZ w) (g := (mkF m pc Ls rest)) rfl (hb hby hd) _ hr) k
theorem o_lreturn {v : Int64} (G : OG l Z y bytes maxl (some .long) n0 p e R s m args below meth c T h cells slots)  (hd : decode bytes pc = .ok (.lreturn, 1)) (hq : Q (some (.long v)) h) (hc : cells ≤ ck) (hs : slots ≤ sk) : OFin n0 p e below s Q ck sk T (mkF m pc Ls (.long v :: rest)) := by
  obtain ⟨hx, hby, -, -, -, hret, hlk, -, eT, hz, locs, X, N⟩ := G
  obtain ⟨fs, hr, hrun, hended, hW, hsame⟩ := X.leave (v := some (.long v)) (fun h => by rw [hret] at h; cases h) hlk
  refine ⟨_, _, retOut X hx hret rfl (Or.inr (Or.inl ⟨rfl, rfl, _, rfl⟩)) (hb hby hd) hr, hrun, hended, _, _, rfl, ⟨N, ?_, ?_⟩, ⟨_, rfl⟩, hW, hsame.mono hc hs⟩
  · show n0 ≤ T.heap.size
    rw [eT]; exact hz
  · show Q _ T.heap
    rw [eT]; exact hq
theorem o_nreturn {v : Int32} {t : FieldType} (G : OG l Z y bytes maxl (some t) n0 p e R s m args below meth c T h cells slots) (ht : t = .boolean ∨ t = .byte ∨ t = .char ∨ t = .short) (hd : decode bytes pc = .ok (.ireturn, 1)) (hq : Q (some (.int (nar t v))) h) (hc : cells ≤ ck) (hs : slots ≤ sk) : OFin n0 p e below s Q ck sk T (mkF m pc Ls (.int v :: rest)) := by
  obtain ⟨hx, hby, -, -, -, hret, hlk, -, eT, hz, locs, X, N⟩ := G
  obtain ⟨fs, hr, hrun, hended, hW, hsame⟩ := X.leave (v := some (.int (nar t v))) (fun h => by rw [hret] at h; cases h) hlk
  refine ⟨_, _, retN X hx hret ht (hb hby hd) hr, hrun, hended, _, _, rfl, ⟨N, ?_, ?_⟩, ⟨_, rfl⟩, hW, hsame.mono hc hs⟩
  · show n0 ≤ T.heap.size
    rw [eT]; exact hz
  · show Q _ T.heap
    rw [eT]; exact hq
theorem o_return (G : OG l Z y bytes maxl none n0 p e R s m args below meth c T h cells slots) (hd : decode bytes pc = .ok (.return_, 1)) (hq : Q none h) (hc : cells ≤ ck) (hs : slots ≤ sk) : OFin n0 p e below s Q ck sk T (mkF m pc Ls []) := by
  obtain ⟨hx, hby, -, -, -, hret, hlk, -, eT, hz, locs, X, N⟩ := G
  obtain ⟨fs, hr, hrun, hended, hW, hsame⟩ := X.leave (v := none) (fun _ => rfl) hlk
  refine ⟨_, _, X.returnOut hx hret (hb hby hd) hr, hrun, hended, _, _, rfl, ⟨N, ?_, ?_⟩, ⟨_, rfl⟩, hW, hsame.mono hc hs⟩
  · show n0 ≤ T.heap.size
    rw [eT]; exact hz
  · show Q _ T.heap
    rw [eT]; exact hq
theorem o_callS (G : OG l Z y bytes maxl ret n0 p e R s m args below meth c T h cells slots) {z : MethodName} {bz : ByteArray} {mz : Nat} {rz : Option FieldType} {rm : Room} {Q' : Option Value → Heap → Prop} {index W : Nat} {argsL st : List Value} (w1 : (Jvm.Cond.methodLink y.cls index z).before a0 Z = true) (w2 : (Jvm.Cond.static z).before a0 Z = true) (hd : decode bytes pc = .ok (.invokestatic index, 3))
    (hy : z.cls ≠ "java/lang/invoke/MethodHandle" ∧ z.cls ≠ "java/lang/invoke/VarHandle") (w3 : (Jvm.Cond.initialized z.cls).before a0 Z = true) (w4 : (Jvm.Cond.code z bz mz rz).before a0 Z = true)
    (hM : OMet l Z z bz mz rz rm argsL.toArray h n0 rm.cells rm.slots Q') (hfr : rm.frames + 1 ≤ R.frames) (hlo : W + (mz + 11) + rm.locals ≤ R.locals) (hsz : Ls.size = maxl)
    (hlen : ∀ sig, parseMethodDescriptor z.desc = some sig → argsL.length = sig.parameters.length) (hst : st = argsL.reverse ++ rest) (hW : (rest.map fun v => v.category).sum ≤ W) (hp : pc + 3 = pc') (hc : cells + rm.cells ≤ R.cells) (hs : slots + rm.slots ≤ R.slots)
    (k : ∀ (v : Option Value) (T' : State) (h' : Heap), OG l Z y bytes maxl ret n0 p e R s m args below meth c T' h' (cells + rm.cells) (slots + rm.slots) → Q' v h' → OFin n0 p e below s Q ck sk T' (mkF m pc' Ls (v.toList ++ rest))) : OFin n0 p e below s Q ck sk T (mkF m pc Ls st) := by
  subst hp hst
  obtain ⟨hx, hby, hml, hown, hnm, hret, hlk, hZ, eT, hz, locs, X, N⟩ := G
  obtain ⟨v, vm1, ⟨T', L', k', n'⟩, -, X', ⟨L, ⟨N', z', hQ⟩, l1, y1, z1⟩, st0⟩ := Jvm.LawKit.callS X hx (y := z) hown (mvT hZ w1) (mvT hZ w2) (mvT hZ w3) (mvT hZ w4) hy (backOf (W := W) (Q := fun v h L => Fr n0 L ∧ n0 ≤ h.size ∧ Q' v h) (hM []) hZ w4 w3 hfr hlo) (g := (mkF m pc Ls (argsL.reverse ++ rest))) rfl (by show Ls.size = _; rw [hml]; exact hsz) (argsL := argsL) (rest := rest) hlen rfl (by show 2 * 0 + _ ≤ _; omega) (hb hby hd) (fun _ _ => ⟨rfl, eT, hc, hs⟩)
  dsimp only [Pt.U, Pt.locs, Pt.cells, Pt.slots] at X' l1 y1 z1 st0 hQ N' z'
  subst l1 y1 z1
  exact o_step st0 (k v T' T'.heap ⟨hx, hby, hml, hown, hnm, hret, hlk, hZ, rfl, z', _, X', Fr.app N N'⟩ hQ)
/-- an array of n places at a; place j holds f j -/
def OArr (Z : State) (h : Heap) (a : Addr) (ty : FieldType) (n : Nat) (f : Nat → Value) : Prop := ∃ cl : Cell, Arr Z h a cl ty ∧ cl.slots.size = n ∧ ∀ j, j < n → cl.slots[j]? = some (f j)
def o_set (f : Nat → Value) (i : Nat) (v : Value) : Nat → Value := fun j => if j = i then v else f j
theorem OArr.lt {a : Addr} {ty : FieldType} {n : Nat} {f : Nat → Value} (A : OArr Z h a ty n f) : a < h.size := by obtain ⟨cl, A, -⟩ := A; exact A.lt
theorem OArr.ext {h' : Heap} {a : Addr} {ty : FieldType} {n : Nat} {f : Nat → Value} (A : OArr Z h a ty n f) (E : Ext h h') : OArr Z h' a ty n f := by obtain ⟨cl, A, r⟩ := A; exact ⟨cl, A.ext E, r⟩
theorem OArr.other {h' : Heap} {a b : Addr} {sl : Nat} {v : Value} {ty : FieldType} {n : Nat} {f : Nat → Value} (A : OArr Z h b ty n f) (W : Wr h h' a sl v) (q : b ≠ a) : OArr Z h' b ty n f := by obtain ⟨cl, A, r⟩ := A; exact ⟨cl, A.other W q, r⟩
theorem OArr.keep {h' : Heap} {a : Addr} {ws : List Addr} {ty : FieldType} {n : Nat} {f : Nat → Value} (A : OArr Z h a ty n f) (K : Keep h h' ws) (q : a ∉ ws) : OArr Z h' a ty n f := by obtain ⟨cl, A, r⟩ := A; exact ⟨cl, ⟨K.2.1 a cl A.1 q, A.2⟩, r⟩
theorem OArr.same {h' : Heap} {a : Addr} {i : Nat} {v : Value} {ty : FieldType} {n : Nat} {f : Nat → Value} (A : OArr Z h a ty n f) (W : Wr h h' a i v) : OArr Z h' a ty n (o_set f i v) := by
  obtain ⟨cl, A, S, H⟩ := A
  have hi : i < n := by
    obtain ⟨cell, h1, -, h3, -⟩ := W
    cases h1.symm.trans A.1
    rw [← S]; exact h3
  refine ⟨_, A.same W, by rw [sz_set]; exact S, fun j hj => ?_⟩
  by_cases q : j = i
  · subst q; simp [Cell.setSlot, o_set, S, hi]
  · have := H j hj
    simp only [Cell.setSlot, o_set, q, if_false]
    rw [Array.getElem?_setIfInBounds_ne (Ne.symm q)]; exact this
theorem OArr.congr {a : Addr} {ty : FieldType} {n : Nat} {f f' : Nat → Value} (A : OArr Z h a ty n f) (q : ∀ j, j < n → f j = f' j) : OArr Z h a ty n f' := by
  obtain ⟨cl, A, S, H⟩ := A
  exact ⟨cl, A, S, fun j hj => by rw [← q j hj]; exact H j hj⟩
theorem o_clamp {j : Int32} {i : Nat} (h : j.toInt = (i : Int)) : ¬ j < 0 ∧ j.toNatClampNeg = i := by
  constructor
  · rw [Int32.lt_iff_toInt_lt, h]; have : (0 : Int32).toInt = 0 := rfl
    omega
  · simp only [Int32.toNatClampNeg, h]; rfl
theorem o_arraylength (G : OG l Z y bytes maxl ret n0 p e R s m args below meth c T h cells slots) {a : Addr} {ty : FieldType} {n : Nat} {f : Nat → Value} {v : Int32} (A : OArr Z h a ty n f) (hv : Nat.toInt32 n = v) (hd : decode bytes pc = .ok (.arraylength, 1)) (hp : pc + 1 = pc') (k : OFin n0 p e below s Q ck sk T (mkF m pc' Ls (.int v :: rest))) : OFin n0 p e below s Q ck sk T (mkF m pc Ls (.ref a :: rest)) := by
  subst hp hv
  obtain ⟨hx, hby, -, -, -, -, -, hZ, eT, -, locs, X, -⟩ := G
  obtain ⟨cl, A, S, -⟩ := A
  subst S
  exact o_step (fun _ hr => X.arraylength hx (by rw [eT]; exact A.1) (State.isArrayOf_alike hZ.alike A.2.1) (g := (mkF m pc Ls (.ref a :: rest))) rfl rfl (hb hby hd) _ hr) k
theorem o_laload (G : OG l Z y bytes maxl ret n0 p e R s m args below meth c T h cells slots) {a : Addr} {n i : Nat} {f : Nat → Value} {j : Int32} {v : Value} (A : OArr Z h a .long n f) (hj : j.toInt = (i : Int)) (hi : i < n) (hv : f i = v) (hd : decode bytes pc = .ok (.laload, 1)) (hp : pc + 1 = pc') (k : OFin n0 p e below s Q ck sk T (mkF m pc' Ls (v :: rest))) : OFin n0 p e below s Q ck sk T (mkF m pc Ls (.int j :: .ref a :: rest)) := by
  subst hp hv
  obtain ⟨hx, hby, -, -, -, -, -, hZ, eT, -, locs, X, -⟩ := G
  obtain ⟨cl, A, S, H⟩ := A
  obtain ⟨q1, q2⟩ := o_clamp hj
  exact o_step (fun _ hr => X.laload hx (j := j) (v := f i) (by rw [eT]; exact A.1) (State.isArrayOf_alike hZ.alike A.2.1) A.2.2 (by rw [S, q2]; exact fun q => q.elim q1 (fun q => absurd hi (Nat.not_lt.mpr q))) (by rw [q2]; exact H i hi) (g := (mkF m pc Ls (.int j :: .ref a :: rest))) rfl rfl (hb hby hd) _ hr) k
theorem o_lastore (G : OG l Z y bytes maxl ret n0 p e R s m args below meth c T h cells slots) {a : Addr} {n i : Nat} {f : Nat → Value} {j : Int32} {v : Int64} (A : OArr Z h a .long n f) (hg : n0 ≤ a) (hj : j.toInt = (i : Int)) (hi : i < n) (hd : decode bytes pc = .ok (.lastore, 1)) (hp : pc + 1 = pc')
    (k : ∀ (T' : State) (h' : Heap), OG l Z y bytes maxl ret n0 p e R s m args below meth c T' h' cells slots → Wr h h' a i (.long v) → OArr Z h' a .long n (o_set f i (.long v)) → OFin n0 p e below s Q ck sk T' (mkF m pc' Ls rest)) : OFin n0 p e below s Q ck sk T (mkF m pc Ls (.long v :: .int j :: .ref a :: rest)) := by
  subst hp
  have A0 := A
  obtain ⟨hx, hby, hml, hown, hnm, hret, hlk, hZ, eT, hz, locs, X, N⟩ := G
  obtain ⟨cl, A, S, H⟩ := A
  obtain ⟨q1, q2⟩ := o_clamp hj
  obtain ⟨T', h', X', e', W', st⟩ := stJ X hx hZ eT A (j := j) (x := v) (by rw [S, q2]; exact fun q => q.elim q1 (fun q => absurd hi (Nat.not_lt.mpr q))) (g := (mkF m pc Ls (.long v :: .int j :: .ref a :: rest))) rfl rfl (hb hby hd)
  rw [q2] at W' X'
  exact o_step st (k T' h' ⟨hx, hby, hml, hown, hnm, hret, hlk, hZ, e', by rw [W'.size]; exact hz, _, X', Fr.snoc X' N hg⟩ W' (A0.same W'))
theorem o_newarray (G : OG l Z y bytes maxl ret n0 p e R s m args below meth c T h cells slots) {aty : ArrayType} {n : Int32} {N cap : Nat} (w : (Jvm.Cond.arrayClass (newarray.typeOf aty)).before a0 Z = true) (hn : n.toInt = (N : Int)) (hcap : N ≤ cap) (hb8 : cap * 8 ≤ 536870912) (hd : decode bytes pc = .ok (.newarray aty, 2)) (hp : pc + 2 = pc') (hc : cells + 1 ≤ R.cells) (hl : slots + cap ≤ R.slots)
    (k : ∀ (T' : State) (h' : Heap) (a : Addr), OG l Z y bytes maxl ret n0 p e R s m args below meth c T' h' (cells + 1) (slots + cap) → a = h.size → n0 ≤ a → Ext h h' → OArr Z h' a (newarray.typeOf aty) N (fun _ => defaultValue (newarray.typeOf aty)) → OFin n0 p e below s Q ck sk T' (mkF m pc' Ls (.ref a :: rest))) : OFin n0 p e below s Q ck sk T (mkF m pc Ls (.int n :: rest)) := by
  subst hp
  obtain ⟨hx, hby, hml, hown, hnm, hret, hlk, hZ, eT, hz, locs, X, N'⟩ := G
  obtain ⟨q1, q2⟩ := o_clamp hn
  obtain ⟨T', h', cA, X', e', E', A', st⟩ := newP X hx hZ w eT (g := (mkF m pc Ls (.int n :: rest))) rfl (hb hby hd) rfl q1 (cap := cap) (by rw [q2]; exact hcap) hb8 hc hl
  refine o_step st (k T' h' h.size ⟨hx, hby, hml, hown, hnm, hret, hlk, hZ, e', Nat.le_trans hz E'.1, _, X', N'⟩ rfl hz E' ⟨_, A', by rw [sz_new, q2], fun j hj => ?_⟩)
  simp [newA, q2, hj]
/-- a contract that leaves the heap as it was and returns one value -/
abbrev OVal (h0 : Heap) (r : Value) : Option Value → Heap → Prop := fun v h => v = some r ∧ h0 = h
theorem o_callP (G : OG l Z y bytes maxl ret n0 p e R s m args below meth c T h cells slots) {z : MethodName} {bz : ByteArray} {mz : Nat} {rz : Option FieldType} {rm : Room} {r : Value} {index W : Nat} {argsL st : List Value} (w1 : (Jvm.Cond.methodLink y.cls index z).before a0 Z = true) (w2 : (Jvm.Cond.static z).before a0 Z = true) (hd : decode bytes pc = .ok (.invokestatic index, 3))
    (hy : z.cls ≠ "java/lang/invoke/MethodHandle" ∧ z.cls ≠ "java/lang/invoke/VarHandle") (w3 : (Jvm.Cond.initialized z.cls).before a0 Z = true) (w4 : (Jvm.Cond.code z bz mz rz).before a0 Z = true)
    (hM : OMet l Z z bz mz rz rm argsL.toArray h n0 rm.cells rm.slots (OVal h r)) (hfr : rm.frames + 1 ≤ R.frames) (hlo : W + (mz + 11) + rm.locals ≤ R.locals) (hsz : Ls.size = maxl)
    (hlen : ∀ sig, parseMethodDescriptor z.desc = some sig → argsL.length = sig.parameters.length) (hst : st = argsL.reverse ++ rest) (hW : (rest.map fun v => v.category).sum ≤ W) (hp : pc + 3 = pc') (hc : cells + rm.cells ≤ R.cells) (hs : slots + rm.slots ≤ R.slots)
    (k : ∀ (T' : State), OG l Z y bytes maxl ret n0 p e R s m args below meth c T' h (cells + rm.cells) (slots + rm.slots) → OFin n0 p e below s Q ck sk T' (mkF m pc' Ls (r :: rest))) : OFin n0 p e below s Q ck sk T (mkF m pc Ls st) := by
  refine o_callS G w1 w2 hd hy w3 w4 hM hfr hlo hsz hlen hst hW hp hc hs ?_
  rintro v T' h' G' ⟨hv, hh⟩
  subst hv hh
  exact k T' G'
end OwnKit
theorem pd_0 : parseMethodDescriptor "()J" = some ⟨[], some .long⟩ := by decide +kernel
theorem pd_1 : parseMethodDescriptor "(JJ)J" = some ⟨[.long, .long], some .long⟩ := by decide +kernel
theorem pd_2 : parseMethodDescriptor "(IJ)J" = some ⟨[.int, .long], some .long⟩ := by decide +kernel
theorem pd_3 : parseMethodDescriptor "([J[J[J)V" = some ⟨[(.array .long), (.array .long), (.array .long)], none⟩ := by decide +kernel
theorem d1_0 : decode method_2_code 0 = .ok (.ldc2_w 7, 3) := by decide +kernel
theorem d1_3 : decode method_2_code 3 = .ok (.lreturn, 1) := by decide +kernel
theorem pn_1 : plainName "com/example/auth_token_server/authtokenserver/signing/ModulusMultiplyAddPinLaw" = true := by first | (simp [plainName, overriddenIn]; done) | decide +kernel
theorem ef_1 (m : MethodId)  : entryFrame m #[] 0 = mkF m 0 #[] [] := by first | (simp [entryFrame, mkF, argsToLocals, Value.category]; done) | rfl
def f_1  : Int64 := (144115188075855871 : Int64)
set_option maxRecDepth 65536 in
set_option maxHeartbeats 40000000 in
theorem rm1 {l : Launch} {Z : State} {a0 : Array Value} (hw : ∀ d ∈ tables_1, d.before a0 Z = true)  (h0 : Heap) (n0 : Nat) (hz : n0 ≤ h0.size) :
    OMet l Z (⟨"com/example/auth_token_server/authtokenserver/signing/ModulusMultiplyAddPinLaw", "mask", "()J"⟩ : MethodName) method_2_code 0 (some .long) ({ frames := 0, cells := 0, slots := 0, locals := 0 } : Room) #[] h0 n0 ({ frames := 0, cells := 0, slots := 0, locals := 0 } : Room).cells ({ frames := 0, cells := 0, slots := 0, locals := 0 } : Room).slots (OVal h0 (.long (f_1))) := by
  refine o_body (plainFor_of_name pn_1) hz (fun m => ef_1 m ) ?_
  intro p e s m below meth c s₁ G0
  refine o_ldc2 G0 d1_0 (pc' := 3) rfl (hw _ (List.mem_of_getElem? (i := 4) rfl)) ?_
  have hq : (144115188075855871 : Int64) = f_1 := rfl
  exact o_lreturn G0 d1_3 ⟨congrArg (fun z => some (Value.long z)) hq, rfl⟩ (by decide) (by decide)
theorem d2_0 : decode method_5_code 0 = .ok (.iload_n 0, 1) := by decide +kernel
theorem d2_1 : decode method_5_code 1 = .ok (.ifCond .ne 5, 3) := by decide +kernel
theorem d2_4 : decode method_5_code 4 = .ok (.lconst 0, 1) := by decide +kernel
theorem d2_5 : decode method_5_code 5 = .ok (.lreturn, 1) := by decide +kernel
theorem d2_6 : decode method_5_code 6 = .ok (.iload_n 0, 1) := by decide +kernel
theorem d2_7 : decode method_5_code 7 = .ok (.iconst 1, 1) := by decide +kernel
theorem d2_8 : decode method_5_code 8 = .ok (.if_icmp .ne 7, 3) := by decide +kernel
theorem d2_11 : decode method_5_code 11 = .ok (.invokestatic 9, 3) := by decide +kernel
theorem d2_14 : decode method_5_code 14 = .ok (.lreturn, 1) := by decide +kernel
theorem d2_15 : decode method_5_code 15 = .ok (.iload_n 0, 1) := by decide +kernel
theorem d2_16 : decode method_5_code 16 = .ok (.iconst 2, 1) := by decide +kernel
theorem d2_17 : decode method_5_code 17 = .ok (.if_icmp .ne 5, 3) := by decide +kernel
theorem d2_20 : decode method_5_code 20 = .ok (.lconst 1, 1) := by decide +kernel
theorem d2_21 : decode method_5_code 21 = .ok (.lreturn, 1) := by decide +kernel
theorem d2_22 : decode method_5_code 22 = .ok (.lload_n 1, 1) := by decide +kernel
theorem d2_23 : decode method_5_code 23 = .ok (.lreturn, 1) := by decide +kernel
theorem pn_2 : plainName "com/example/auth_token_server/authtokenserver/signing/ModulusMultiplyAddPinLaw" = true := by first | (simp [plainName, overriddenIn]; done) | decide +kernel
theorem ef_2 (m : MethodId) (p0 : Int32) (q1 : Int64) : entryFrame m #[(.int p0), (.long q1)] 3 = mkF m 0 #[.val (.int p0), .val (.long q1), .second] [] := by first | (simp [entryFrame, mkF, argsToLocals, Value.category]; done) | rfl
def f_2 (p0 : Int32) (q1 : Int64) : Int64 := if p0 = (0 : Int32) then (0 : Int64) else (if p0 = (1 : Int32) then (f_1) else (if p0 = (2 : Int32) then (1 : Int64) else q1))
set_option maxRecDepth 65536 in
set_option maxHeartbeats 40000000 in
theorem rm2 {l : Launch} {Z : State} {a0 : Array Value} (hw : ∀ d ∈ tables_1, d.before a0 Z = true) (p0 : Int32) (q1 : Int64) (h0 : Heap) (n0 : Nat) (hz : n0 ≤ h0.size) :
    OMet l Z (⟨"com/example/auth_token_server/authtokenserver/signing/ModulusMultiplyAddPinLaw", "pick", "(IJ)J"⟩ : MethodName) method_5_code 3 (some .long) ({ frames := 1, cells := 0, slots := 0, locals := 11 } : Room) #[(.int p0), (.long q1)] h0 n0 ({ frames := 1, cells := 0, slots := 0, locals := 11 } : Room).cells ({ frames := 1, cells := 0, slots := 0, locals := 11 } : Room).slots (OVal h0 (.long (f_2 p0 q1))) := by
  refine o_body (plainFor_of_name pn_2) hz (fun m => ef_2 m p0 q1) ?_
  intro p e s m below meth c s₁ G0
  refine o_iloadN G0 d2_0 (pc' := 1) rfl rfl ?_
  refine o_if_ne G0 d2_1 (by decide) (pcT := 6) (by decide) (pc' := 4) rfl (fun hc1 => ?_) (fun hc1 => ?_)
  · refine o_iloadN G0 d2_6 (pc' := 7) rfl rfl ?_
    refine o_iconst G0 d2_7 (pc' := 8) rfl (v := (1 : Int32)) rfl ?_
    refine o_icmp_ne G0 d2_8 (by decide) (pcT := 15) (by decide) (pc' := 11) rfl (fun hc8 => ?_) (fun hc8 => ?_)
    · refine o_iloadN G0 d2_15 (pc' := 16) rfl rfl ?_
      refine o_iconst G0 d2_16 (pc' := 17) rfl (v := (2 : Int32)) rfl ?_
      refine o_icmp_ne G0 d2_17 (by decide) (pcT := 22) (by decide) (pc' := 20) rfl (fun hc17 => ?_) (fun hc17 => ?_)
      · refine o_lloadN G0 d2_22 (pc' := 23) rfl rfl ?_
        have hq : q1 = f_2 p0 q1 := by
          rw [f_2, if_neg hc1, if_neg hc8, if_neg hc17]
        exact o_lreturn G0 d2_23 ⟨congrArg (fun z => some (Value.long z)) hq, rfl⟩ (by decide) (by decide)
      · refine o_lconst G0 d2_20 (pc' := 21) rfl (v := (1 : Int64)) rfl ?_
        have hq : (1 : Int64) = f_2 p0 q1 := by
          rw [f_2, if_neg hc1, if_neg hc8, if_pos hc17]
        exact o_lreturn G0 d2_21 ⟨congrArg (fun z => some (Value.long z)) hq, rfl⟩ (by decide) (by decide)
    · obtain ⟨v1, e1⟩ : ∃ z, f_1 = z := ⟨_, rfl⟩
      refine o_callP G0 (z := (⟨"com/example/auth_token_server/authtokenserver/signing/ModulusMultiplyAddPinLaw", "mask", "()J"⟩ : MethodName)) (r := (.long v1)) (argsL := []) (rest := []) (W := 0) (hw _ (List.mem_of_getElem? (i := 0) rfl)) (hw _ (List.mem_of_getElem? (i := 1) rfl)) d2_11 (by decide) (hw _ (List.mem_of_getElem? (i := 2) rfl)) (hw _ (List.mem_of_getElem? (i := 3) rfl)) (by rw [← e1]; exact rm1 hw  h0 n0 G0.sz) (by decide) (by decide) rfl (lenOf pd_0 rfl) rfl (Nat.le_of_eq rfl) (pc' := 14) rfl (by decide) (by decide) ?_
      intro T2 G2
      have hq : v1 = f_2 p0 q1 := by
        subst e1
        rw [f_2, if_neg hc1, if_pos hc8]
      exact o_lreturn G2 d2_14 ⟨congrArg (fun z => some (Value.long z)) hq, rfl⟩ (by decide) (by decide)
  · refine o_lconst G0 d2_4 (pc' := 5) rfl (v := (0 : Int64)) rfl ?_
    have hq : (0 : Int64) = f_2 p0 q1 := by
      rw [f_2, if_pos hc1]
    exact o_lreturn G0 d2_5 ⟨congrArg (fun z => some (Value.long z)) hq, rfl⟩ (by decide) (by decide)
theorem d4_0 : decode jdk_29_method_45_code 0 = .ok (.lload_n 0, 1) := by decide +kernel
theorem d4_1 : decode jdk_29_method_45_code 1 = .ok (.bipush 32, 2) := by decide +kernel
theorem d4_3 : decode jdk_29_method_45_code 3 = .ok (.lshr, 1) := by decide +kernel
theorem d4_4 : decode jdk_29_method_45_code 4 = .ok (.lstore 4, 2) := by decide +kernel
theorem d4_6 : decode jdk_29_method_45_code 6 = .ok (.lload_n 0, 1) := by decide +kernel
theorem d4_7 : decode jdk_29_method_45_code 7 = .ok (.ldc2_w 138, 3) := by decide +kernel
theorem d4_10 : decode jdk_29_method_45_code 10 = .ok (.land, 1) := by decide +kernel
theorem d4_11 : decode jdk_29_method_45_code 11 = .ok (.lstore 6, 2) := by decide +kernel
theorem d4_13 : decode jdk_29_method_45_code 13 = .ok (.lload_n 2, 1) := by decide +kernel
theorem d4_14 : decode jdk_29_method_45_code 14 = .ok (.bipush 32, 2) := by decide +kernel
theorem d4_16 : decode jdk_29_method_45_code 16 = .ok (.lshr, 1) := by decide +kernel
theorem d4_17 : decode jdk_29_method_45_code 17 = .ok (.lstore 8, 2) := by decide +kernel
theorem d4_19 : decode jdk_29_method_45_code 19 = .ok (.lload_n 2, 1) := by decide +kernel
theorem d4_20 : decode jdk_29_method_45_code 20 = .ok (.ldc2_w 138, 3) := by decide +kernel
theorem d4_23 : decode jdk_29_method_45_code 23 = .ok (.land, 1) := by decide +kernel
theorem d4_24 : decode jdk_29_method_45_code 24 = .ok (.lstore 10, 2) := by decide +kernel
theorem d4_26 : decode jdk_29_method_45_code 26 = .ok (.lload 6, 2) := by decide +kernel
theorem d4_28 : decode jdk_29_method_45_code 28 = .ok (.lload 10, 2) := by decide +kernel
theorem d4_30 : decode jdk_29_method_45_code 30 = .ok (.lmul, 1) := by decide +kernel
theorem d4_31 : decode jdk_29_method_45_code 31 = .ok (.lstore 12, 2) := by decide +kernel
theorem d4_33 : decode jdk_29_method_45_code 33 = .ok (.lload 4, 2) := by decide +kernel
theorem d4_35 : decode jdk_29_method_45_code 35 = .ok (.lload 10, 2) := by decide +kernel
theorem d4_37 : decode jdk_29_method_45_code 37 = .ok (.lmul, 1) := by decide +kernel
theorem d4_38 : decode jdk_29_method_45_code 38 = .ok (.lload 12, 2) := by decide +kernel
theorem d4_40 : decode jdk_29_method_45_code 40 = .ok (.bipush 32, 2) := by decide +kernel
theorem d4_42 : decode jdk_29_method_45_code 42 = .ok (.lushr, 1) := by decide +kernel
theorem d4_43 : decode jdk_29_method_45_code 43 = .ok (.ladd, 1) := by decide +kernel
theorem d4_44 : decode jdk_29_method_45_code 44 = .ok (.lstore 14, 2) := by decide +kernel
theorem d4_46 : decode jdk_29_method_45_code 46 = .ok (.lload 14, 2) := by decide +kernel
theorem d4_48 : decode jdk_29_method_45_code 48 = .ok (.ldc2_w 138, 3) := by decide +kernel
theorem d4_51 : decode jdk_29_method_45_code 51 = .ok (.land, 1) := by decide +kernel
theorem d4_52 : decode jdk_29_method_45_code 52 = .ok (.lstore 16, 2) := by decide +kernel
theorem d4_54 : decode jdk_29_method_45_code 54 = .ok (.lload 14, 2) := by decide +kernel
theorem d4_56 : decode jdk_29_method_45_code 56 = .ok (.bipush 32, 2) := by decide +kernel
theorem d4_58 : decode jdk_29_method_45_code 58 = .ok (.lshr, 1) := by decide +kernel
theorem d4_59 : decode jdk_29_method_45_code 59 = .ok (.lstore 18, 2) := by decide +kernel
theorem d4_61 : decode jdk_29_method_45_code 61 = .ok (.lload 16, 2) := by decide +kernel
theorem d4_63 : decode jdk_29_method_45_code 63 = .ok (.lload 6, 2) := by decide +kernel
theorem d4_65 : decode jdk_29_method_45_code 65 = .ok (.lload 8, 2) := by decide +kernel
theorem d4_67 : decode jdk_29_method_45_code 67 = .ok (.lmul, 1) := by decide +kernel
theorem d4_68 : decode jdk_29_method_45_code 68 = .ok (.ladd, 1) := by decide +kernel
theorem d4_69 : decode jdk_29_method_45_code 69 = .ok (.lstore 16, 2) := by decide +kernel
theorem d4_71 : decode jdk_29_method_45_code 71 = .ok (.lload 4, 2) := by decide +kernel
theorem d4_73 : decode jdk_29_method_45_code 73 = .ok (.lload 8, 2) := by decide +kernel
theorem d4_75 : decode jdk_29_method_45_code 75 = .ok (.lmul, 1) := by decide +kernel
theorem d4_76 : decode jdk_29_method_45_code 76 = .ok (.lload 18, 2) := by decide +kernel
theorem d4_78 : decode jdk_29_method_45_code 78 = .ok (.ladd, 1) := by decide +kernel
theorem d4_79 : decode jdk_29_method_45_code 79 = .ok (.lload 16, 2) := by decide +kernel
theorem d4_81 : decode jdk_29_method_45_code 81 = .ok (.bipush 32, 2) := by decide +kernel
theorem d4_83 : decode jdk_29_method_45_code 83 = .ok (.lshr, 1) := by decide +kernel
theorem d4_84 : decode jdk_29_method_45_code 84 = .ok (.ladd, 1) := by decide +kernel
theorem d4_85 : decode jdk_29_method_45_code 85 = .ok (.lreturn, 1) := by decide +kernel
theorem ef_4 (m : MethodId) (q0 : Int64) (q1 : Int64) : entryFrame m #[(.long q0), (.long q1)] 20 = mkF m 0 #[.val (.long q0), .second, .val (.long q1), .second, .unset, .unset, .unset, .unset, .unset, .unset, .unset, .unset, .unset, .unset, .unset, .unset, .unset, .unset, .unset, .unset] [] := by first | (simp [entryFrame, mkF, argsToLocals, Value.category]; done) | rfl
def f_4 (q0 : Int64) (q1 : Int64) : Int64 := ((((q0 >>> ((32 : Int32) &&& 0x3f).toInt64) * (q1 >>> ((32 : Int32) &&& 0x3f).toInt64)) + ((((q0 >>> ((32 : Int32) &&& 0x3f).toInt64) * (q1 &&& (4294967295 : Int64))) + ((((q0 &&& (4294967295 : Int64)) * (q1 &&& (4294967295 : Int64))).toUInt64 >>> ((32 : Int32) &&& 0x3f).toInt64.toUInt64).toInt64)) >>> ((32 : Int32) &&& 0x3f).toInt64)) + ((((((q0 >>> ((32 : Int32) &&& 0x3f).toInt64) * (q1 &&& (4294967295 : Int64))) + ((((q0 &&& (4294967295 : Int64)) * (q1 &&& (4294967295 : Int64))).toUInt64 >>> ((32 : Int32) &&& 0x3f).toInt64.toUInt64).toInt64)) &&& (4294967295 : Int64)) + ((q0 &&& (4294967295 : Int64)) * (q1 >>> ((32 : Int32) &&& 0x3f).toInt64))) >>> ((32 : Int32) &&& 0x3f).toInt64))
set_option maxRecDepth 65536 in
set_option maxHeartbeats 40000000 in
theorem rm4 {l : Launch} {Z : State} {a0 : Array Value} (hw : ∀ d ∈ tables_1, d.before a0 Z = true) (q0 : Int64) (q1 : Int64) (h0 : Heap) (n0 : Nat) (hz : n0 ≤ h0.size) :
    OMet l Z (⟨"java/lang/Math", "multiplyHigh", "(JJ)J"⟩ : MethodName) jdk_29_method_45_code 20 (some .long) ({ frames := 0, cells := 0, slots := 0, locals := 0 } : Room) #[(.long q0), (.long q1)] h0 n0 ({ frames := 0, cells := 0, slots := 0, locals := 0 } : Room).cells ({ frames := 0, cells := 0, slots := 0, locals := 0 } : Room).slots (OVal h0 (.long (f_4 q0 q1))) := by
  refine o_body (Jvm.Free.JP.mathPlain rfl (by decide +kernel)) hz (fun m => ef_4 m q0 q1) ?_
  intro p e s m below meth c s₁ G0
  refine o_lloadN G0 d4_0 (pc' := 1) rfl rfl ?_
  refine o_bipush G0 d4_1 (pc' := 3) rfl (v := (32 : Int32)) rfl ?_
  obtain ⟨v1, e1⟩ : ∃ z, q0 >>> ((32 : Int32) &&& 0x3f).toInt64 = z := ⟨_, rfl⟩
  refine o_lshr G0 d4_3 (pc' := 4) rfl e1 ?_
  refine o_lstore G0 d4_4 (pc' := 6) rfl (l' := #[.val (.long q0), .second, .val (.long q1), .second, .val (.long v1), .second, .unset, .unset, .unset, .unset, .unset, .unset, .unset, .unset, .unset, .unset, .unset, .unset, .unset, .unset]) rfl ?_
  refine o_lloadN G0 d4_6 (pc' := 7) rfl rfl ?_
  refine o_ldc2 G0 d4_7 (pc' := 10) rfl (hw _ (List.mem_of_getElem? (i := 18) rfl)) ?_
  obtain ⟨v2, e2⟩ : ∃ z, q0 &&& (4294967295 : Int64) = z := ⟨_, rfl⟩
  refine o_land G0 d4_10 (pc' := 11) rfl e2 ?_
  refine o_lstore G0 d4_11 (pc' := 13) rfl (l' := #[.val (.long q0), .second, .val (.long q1), .second, .val (.long v1), .second, .val (.long v2), .second, .unset, .unset, .unset, .unset, .unset, .unset, .unset, .unset, .unset, .unset, .unset, .unset]) rfl ?_
  refine o_lloadN G0 d4_13 (pc' := 14) rfl rfl ?_
  refine o_bipush G0 d4_14 (pc' := 16) rfl (v := (32 : Int32)) rfl ?_
  obtain ⟨v3, e3⟩ : ∃ z, q1 >>> ((32 : Int32) &&& 0x3f).toInt64 = z := ⟨_, rfl⟩
  refine o_lshr G0 d4_16 (pc' := 17) rfl e3 ?_
  refine o_lstore G0 d4_17 (pc' := 19) rfl (l' := #[.val (.long q0), .second, .val (.long q1), .second, .val (.long v1), .second, .val (.long v2), .second, .val (.long v3), .second, .unset, .unset, .unset, .unset, .unset, .unset, .unset, .unset, .unset, .unset]) rfl ?_
  refine o_lloadN G0 d4_19 (pc' := 20) rfl rfl ?_
  refine o_ldc2 G0 d4_20 (pc' := 23) rfl (hw _ (List.mem_of_getElem? (i := 18) rfl)) ?_
  obtain ⟨v4, e4⟩ : ∃ z, q1 &&& (4294967295 : Int64) = z := ⟨_, rfl⟩
  refine o_land G0 d4_23 (pc' := 24) rfl e4 ?_
  refine o_lstore G0 d4_24 (pc' := 26) rfl (l' := #[.val (.long q0), .second, .val (.long q1), .second, .val (.long v1), .second, .val (.long v2), .second, .val (.long v3), .second, .val (.long v4), .second, .unset, .unset, .unset, .unset, .unset, .unset, .unset, .unset]) rfl ?_
  refine o_lload G0 d4_26 (pc' := 28) rfl rfl ?_
  refine o_lload G0 d4_28 (pc' := 30) rfl rfl ?_
  obtain ⟨v5, e5⟩ : ∃ z, v2 * v4 = z := ⟨_, rfl⟩
  refine o_lmul G0 d4_30 (pc' := 31) rfl e5 ?_
  refine o_lstore G0 d4_31 (pc' := 33) rfl (l' := #[.val (.long q0), .second, .val (.long q1), .second, .val (.long v1), .second, .val (.long v2), .second, .val (.long v3), .second, .val (.long v4), .second, .val (.long v5), .second, .unset, .unset, .unset, .unset, .unset, .unset]) rfl ?_
  refine o_lload G0 d4_33 (pc' := 35) rfl rfl ?_
  refine o_lload G0 d4_35 (pc' := 37) rfl rfl ?_
  obtain ⟨v6, e6⟩ : ∃ z, v1 * v4 = z := ⟨_, rfl⟩
  refine o_lmul G0 d4_37 (pc' := 38) rfl e6 ?_
  refine o_lload G0 d4_38 (pc' := 40) rfl rfl ?_
  refine o_bipush G0 d4_40 (pc' := 42) rfl (v := (32 : Int32)) rfl ?_
  obtain ⟨v7, e7⟩ : ∃ z, (v5.toUInt64 >>> ((32 : Int32) &&& 0x3f).toInt64.toUInt64).toInt64 = z := ⟨_, rfl⟩
  refine o_lushr G0 d4_42 (pc' := 43) rfl e7 ?_
  obtain ⟨v8, e8⟩ : ∃ z, v6 + v7 = z := ⟨_, rfl⟩
  refine o_ladd G0 d4_43 (pc' := 44) rfl e8 ?_
  refine o_lstore G0 d4_44 (pc' := 46) rfl (l' := #[.val (.long q0), .second, .val (.long q1), .second, .val (.long v1), .second, .val (.long v2), .second, .val (.long v3), .second, .val (.long v4), .second, .val (.long v5), .second, .val (.long v8), .second, .unset, .unset, .unset, .unset]) rfl ?_
  refine o_lload G0 d4_46 (pc' := 48) rfl rfl ?_
  refine o_ldc2 G0 d4_48 (pc' := 51) rfl (hw _ (List.mem_of_getElem? (i := 18) rfl)) ?_
  obtain ⟨v9, e9⟩ : ∃ z, v8 &&& (4294967295 : Int64) = z := ⟨_, rfl⟩
  refine o_land G0 d4_51 (pc' := 52) rfl e9 ?_
  refine o_lstore G0 d4_52 (pc' := 54) rfl (l' := #[.val (.long q0), .second, .val (.long q1), .second, .val (.long v1), .second, .val (.long v2), .second, .val (.long v3), .second, .val (.long v4), .second, .val (.long v5), .second, .val (.long v8), .second, .val (.long v9), .second, .unset, .unset]) rfl ?_
  refine o_lload G0 d4_54 (pc' := 56) rfl rfl ?_
  refine o_bipush G0 d4_56 (pc' := 58) rfl (v := (32 : Int32)) rfl ?_
  obtain ⟨v10, e10⟩ : ∃ z, v8 >>> ((32 : Int32) &&& 0x3f).toInt64 = z := ⟨_, rfl⟩
  refine o_lshr G0 d4_58 (pc' := 59) rfl e10 ?_
  refine o_lstore G0 d4_59 (pc' := 61) rfl (l' := #[.val (.long q0), .second, .val (.long q1), .second, .val (.long v1), .second, .val (.long v2), .second, .val (.long v3), .second, .val (.long v4), .second, .val (.long v5), .second, .val (.long v8), .second, .val (.long v9), .second, .val (.long v10), .second]) rfl ?_
  refine o_lload G0 d4_61 (pc' := 63) rfl rfl ?_
  refine o_lload G0 d4_63 (pc' := 65) rfl rfl ?_
  refine o_lload G0 d4_65 (pc' := 67) rfl rfl ?_
  obtain ⟨v11, e11⟩ : ∃ z, v2 * v3 = z := ⟨_, rfl⟩
  refine o_lmul G0 d4_67 (pc' := 68) rfl e11 ?_
  obtain ⟨v12, e12⟩ : ∃ z, v9 + v11 = z := ⟨_, rfl⟩
  refine o_ladd G0 d4_68 (pc' := 69) rfl e12 ?_
  refine o_lstore G0 d4_69 (pc' := 71) rfl (l' := #[.val (.long q0), .second, .val (.long q1), .second, .val (.long v1), .second, .val (.long v2), .second, .val (.long v3), .second, .val (.long v4), .second, .val (.long v5), .second, .val (.long v8), .second, .val (.long v12), .second, .val (.long v10), .second]) rfl ?_
  refine o_lload G0 d4_71 (pc' := 73) rfl rfl ?_
  refine o_lload G0 d4_73 (pc' := 75) rfl rfl ?_
  obtain ⟨v13, e13⟩ : ∃ z, v1 * v3 = z := ⟨_, rfl⟩
  refine o_lmul G0 d4_75 (pc' := 76) rfl e13 ?_
  refine o_lload G0 d4_76 (pc' := 78) rfl rfl ?_
  obtain ⟨v14, e14⟩ : ∃ z, v13 + v10 = z := ⟨_, rfl⟩
  refine o_ladd G0 d4_78 (pc' := 79) rfl e14 ?_
  refine o_lload G0 d4_79 (pc' := 81) rfl rfl ?_
  refine o_bipush G0 d4_81 (pc' := 83) rfl (v := (32 : Int32)) rfl ?_
  obtain ⟨v15, e15⟩ : ∃ z, v12 >>> ((32 : Int32) &&& 0x3f).toInt64 = z := ⟨_, rfl⟩
  refine o_lshr G0 d4_83 (pc' := 84) rfl e15 ?_
  obtain ⟨v16, e16⟩ : ∃ z, v14 + v15 = z := ⟨_, rfl⟩
  refine o_ladd G0 d4_84 (pc' := 85) rfl e16 ?_
  have hq : v16 = f_4 q0 q1 := by
    subst e1 e2 e3 e4 e5 e6 e7 e8 e9 e10 e11 e12 e13 e14 e15 e16
    rw [f_4]
  exact o_lreturn G0 d4_85 ⟨congrArg (fun z => some (Value.long z)) hq, rfl⟩ (by decide) (by decide)
theorem d5_0 : decode method_3_code 0 = .ok (.lload_n 0, 1) := by decide +kernel
theorem d5_1 : decode method_3_code 1 = .ok (.lload_n 2, 1) := by decide +kernel
theorem d5_2 : decode method_3_code 2 = .ok (.lmul, 1) := by decide +kernel
theorem d5_3 : decode method_3_code 3 = .ok (.invokestatic 9, 3) := by decide +kernel
theorem d5_6 : decode method_3_code 6 = .ok (.land, 1) := by decide +kernel
theorem d5_7 : decode method_3_code 7 = .ok (.lreturn, 1) := by decide +kernel
theorem pn_5 : plainName "com/example/auth_token_server/authtokenserver/signing/ModulusMultiplyAddPinLaw" = true := by first | (simp [plainName, overriddenIn]; done) | decide +kernel
theorem ef_5 (m : MethodId) (q0 : Int64) (q1 : Int64) : entryFrame m #[(.long q0), (.long q1)] 4 = mkF m 0 #[.val (.long q0), .second, .val (.long q1), .second] [] := by first | (simp [entryFrame, mkF, argsToLocals, Value.category]; done) | rfl
def f_5 (q0 : Int64) (q1 : Int64) : Int64 := ((q0 * q1) &&& (f_1))
set_option maxRecDepth 65536 in
set_option maxHeartbeats 40000000 in
theorem rm5 {l : Launch} {Z : State} {a0 : Array Value} (hw : ∀ d ∈ tables_1, d.before a0 Z = true) (q0 : Int64) (q1 : Int64) (h0 : Heap) (n0 : Nat) (hz : n0 ≤ h0.size) :
    OMet l Z (⟨"com/example/auth_token_server/authtokenserver/signing/ModulusMultiplyAddPinLaw", "lo", "(JJ)J"⟩ : MethodName) method_3_code 4 (some .long) ({ frames := 1, cells := 0, slots := 0, locals := 13 } : Room) #[(.long q0), (.long q1)] h0 n0 ({ frames := 1, cells := 0, slots := 0, locals := 13 } : Room).cells ({ frames := 1, cells := 0, slots := 0, locals := 13 } : Room).slots (OVal h0 (.long (f_5 q0 q1))) := by
  refine o_body (plainFor_of_name pn_5) hz (fun m => ef_5 m q0 q1) ?_
  intro p e s m below meth c s₁ G0
  refine o_lloadN G0 d5_0 (pc' := 1) rfl rfl ?_
  refine o_lloadN G0 d5_1 (pc' := 2) rfl rfl ?_
  obtain ⟨v1, e1⟩ : ∃ z, q0 * q1 = z := ⟨_, rfl⟩
  refine o_lmul G0 d5_2 (pc' := 3) rfl e1 ?_
  obtain ⟨v2, e2⟩ : ∃ z, f_1 = z := ⟨_, rfl⟩
  refine o_callP G0 (z := (⟨"com/example/auth_token_server/authtokenserver/signing/ModulusMultiplyAddPinLaw", "mask", "()J"⟩ : MethodName)) (r := (.long v2)) (argsL := []) (rest := [(.long v1)]) (W := 2) (hw _ (List.mem_of_getElem? (i := 0) rfl)) (hw _ (List.mem_of_getElem? (i := 1) rfl)) d5_3 (by decide) (hw _ (List.mem_of_getElem? (i := 2) rfl)) (hw _ (List.mem_of_getElem? (i := 3) rfl)) (by rw [← e2]; exact rm1 hw  h0 n0 G0.sz) (by decide) (by decide) rfl (lenOf pd_0 rfl) rfl (Nat.le_of_eq rfl) (pc' := 6) rfl (by decide) (by decide) ?_
  intro T3 G3
  obtain ⟨v4, e4⟩ : ∃ z, v1 &&& v2 = z := ⟨_, rfl⟩
  refine o_land G3 d5_6 (pc' := 7) rfl e4 ?_
  have hq : v4 = f_5 q0 q1 := by
    subst e1 e2 e4
    rw [f_5]
  exact o_lreturn G3 d5_7 ⟨congrArg (fun z => some (Value.long z)) hq, rfl⟩ (by decide) (by decide)
theorem d6_0 : decode method_4_code 0 = .ok (.ldc2_w 15, 3) := by decide +kernel
theorem d6_3 : decode method_4_code 3 = .ok (.lstore 4, 2) := by decide +kernel
theorem d6_5 : decode method_4_code 5 = .ok (.lload_n 0, 1) := by decide +kernel
theorem d6_6 : decode method_4_code 6 = .ok (.lload 4, 2) := by decide +kernel
theorem d6_8 : decode method_4_code 8 = .ok (.land, 1) := by decide +kernel
theorem d6_9 : decode method_4_code 9 = .ok (.lstore 6, 2) := by decide +kernel
theorem d6_11 : decode method_4_code 11 = .ok (.lload_n 0, 1) := by decide +kernel
theorem d6_12 : decode method_4_code 12 = .ok (.bipush 29, 2) := by decide +kernel
theorem d6_14 : decode method_4_code 14 = .ok (.lushr, 1) := by decide +kernel
theorem d6_15 : decode method_4_code 15 = .ok (.lstore 8, 2) := by decide +kernel
theorem d6_17 : decode method_4_code 17 = .ok (.lload_n 2, 1) := by decide +kernel
theorem d6_18 : decode method_4_code 18 = .ok (.lload 4, 2) := by decide +kernel
theorem d6_20 : decode method_4_code 20 = .ok (.land, 1) := by decide +kernel
theorem d6_21 : decode method_4_code 21 = .ok (.lstore 10, 2) := by decide +kernel
theorem d6_23 : decode method_4_code 23 = .ok (.lload_n 2, 1) := by decide +kernel
theorem d6_24 : decode method_4_code 24 = .ok (.bipush 29, 2) := by decide +kernel
theorem d6_26 : decode method_4_code 26 = .ok (.lushr, 1) := by decide +kernel
theorem d6_27 : decode method_4_code 27 = .ok (.lstore 12, 2) := by decide +kernel
theorem d6_29 : decode method_4_code 29 = .ok (.lload 8, 2) := by decide +kernel
theorem d6_31 : decode method_4_code 31 = .ok (.lload 12, 2) := by decide +kernel
theorem d6_33 : decode method_4_code 33 = .ok (.lmul, 1) := by decide +kernel
theorem d6_34 : decode method_4_code 34 = .ok (.lstore 14, 2) := by decide +kernel
theorem d6_36 : decode method_4_code 36 = .ok (.lload 8, 2) := by decide +kernel
theorem d6_38 : decode method_4_code 38 = .ok (.lload 10, 2) := by decide +kernel
theorem d6_40 : decode method_4_code 40 = .ok (.lmul, 1) := by decide +kernel
theorem d6_41 : decode method_4_code 41 = .ok (.lload 6, 2) := by decide +kernel
theorem d6_43 : decode method_4_code 43 = .ok (.lload 12, 2) := by decide +kernel
theorem d6_45 : decode method_4_code 45 = .ok (.lmul, 1) := by decide +kernel
theorem d6_46 : decode method_4_code 46 = .ok (.ladd, 1) := by decide +kernel
theorem d6_47 : decode method_4_code 47 = .ok (.lstore 16, 2) := by decide +kernel
theorem d6_49 : decode method_4_code 49 = .ok (.lload 6, 2) := by decide +kernel
theorem d6_51 : decode method_4_code 51 = .ok (.lload 10, 2) := by decide +kernel
theorem d6_53 : decode method_4_code 53 = .ok (.lmul, 1) := by decide +kernel
theorem d6_54 : decode method_4_code 54 = .ok (.lstore 18, 2) := by decide +kernel
theorem d6_56 : decode method_4_code 56 = .ok (.lload 16, 2) := by decide +kernel
theorem d6_58 : decode method_4_code 58 = .ok (.lload 18, 2) := by decide +kernel
theorem d6_60 : decode method_4_code 60 = .ok (.bipush 29, 2) := by decide +kernel
theorem d6_62 : decode method_4_code 62 = .ok (.lushr, 1) := by decide +kernel
theorem d6_63 : decode method_4_code 63 = .ok (.ladd, 1) := by decide +kernel
theorem d6_64 : decode method_4_code 64 = .ok (.lstore 20, 2) := by decide +kernel
theorem d6_66 : decode method_4_code 66 = .ok (.ldc2_w 17, 3) := by decide +kernel
theorem d6_69 : decode method_4_code 69 = .ok (.lload 14, 2) := by decide +kernel
theorem d6_71 : decode method_4_code 71 = .ok (.lmul, 1) := by decide +kernel
theorem d6_72 : decode method_4_code 72 = .ok (.lload 20, 2) := by decide +kernel
theorem d6_74 : decode method_4_code 74 = .ok (.bipush 28, 2) := by decide +kernel
theorem d6_76 : decode method_4_code 76 = .ok (.lushr, 1) := by decide +kernel
theorem d6_77 : decode method_4_code 77 = .ok (.ladd, 1) := by decide +kernel
theorem d6_78 : decode method_4_code 78 = .ok (.lreturn, 1) := by decide +kernel
theorem pn_6 : plainName "com/example/auth_token_server/authtokenserver/signing/ModulusMultiplyAddPinLaw" = true := by first | (simp [plainName, overriddenIn]; done) | decide +kernel
theorem ef_6 (m : MethodId) (q0 : Int64) (q1 : Int64) : entryFrame m #[(.long q0), (.long q1)] 22 = mkF m 0 #[.val (.long q0), .second, .val (.long q1), .second, .unset, .unset, .unset, .unset, .unset, .unset, .unset, .unset, .unset, .unset, .unset, .unset, .unset, .unset, .unset, .unset, .unset, .unset] [] := by first | (simp [entryFrame, mkF, argsToLocals, Value.category]; done) | rfl
def f_6 (q0 : Int64) (q1 : Int64) : Int64 := (((2 : Int64) * (((q0.toUInt64 >>> ((29 : Int32) &&& 0x3f).toInt64.toUInt64).toInt64) * ((q1.toUInt64 >>> ((29 : Int32) &&& 0x3f).toInt64.toUInt64).toInt64))) + (((((((q0.toUInt64 >>> ((29 : Int32) &&& 0x3f).toInt64.toUInt64).toInt64) * (q1 &&& (536870911 : Int64))) + ((q0 &&& (536870911 : Int64)) * ((q1.toUInt64 >>> ((29 : Int32) &&& 0x3f).toInt64.toUInt64).toInt64))) + ((((q0 &&& (536870911 : Int64)) * (q1 &&& (536870911 : Int64))).toUInt64 >>> ((29 : Int32) &&& 0x3f).toInt64.toUInt64).toInt64)).toUInt64 >>> ((28 : Int32) &&& 0x3f).toInt64.toUInt64).toInt64))
set_option maxRecDepth 65536 in
set_option maxHeartbeats 40000000 in
theorem rm6 {l : Launch} {Z : State} {a0 : Array Value} (hw : ∀ d ∈ tables_1, d.before a0 Z = true) (q0 : Int64) (q1 : Int64) (h0 : Heap) (n0 : Nat) (hz : n0 ≤ h0.size) :
    OMet l Z (⟨"com/example/auth_token_server/authtokenserver/signing/ModulusMultiplyAddPinLaw", "hi", "(JJ)J"⟩ : MethodName) method_4_code 22 (some .long) ({ frames := 0, cells := 0, slots := 0, locals := 0 } : Room) #[(.long q0), (.long q1)] h0 n0 ({ frames := 0, cells := 0, slots := 0, locals := 0 } : Room).cells ({ frames := 0, cells := 0, slots := 0, locals := 0 } : Room).slots (OVal h0 (.long (f_6 q0 q1))) := by
  refine o_body (plainFor_of_name pn_6) hz (fun m => ef_6 m q0 q1) ?_
  intro p e s m below meth c s₁ G0
  refine o_ldc2 G0 d6_0 (pc' := 3) rfl (hw _ (List.mem_of_getElem? (i := 26) rfl)) ?_
  refine o_lstore G0 d6_3 (pc' := 5) rfl (l' := #[.val (.long q0), .second, .val (.long q1), .second, .val (.long (536870911 : Int64)), .second, .unset, .unset, .unset, .unset, .unset, .unset, .unset, .unset, .unset, .unset, .unset, .unset, .unset, .unset, .unset, .unset]) rfl ?_
  refine o_lloadN G0 d6_5 (pc' := 6) rfl rfl ?_
  refine o_lload G0 d6_6 (pc' := 8) rfl rfl ?_
  obtain ⟨v1, e1⟩ : ∃ z, q0 &&& (536870911 : Int64) = z := ⟨_, rfl⟩
  refine o_land G0 d6_8 (pc' := 9) rfl e1 ?_
  refine o_lstore G0 d6_9 (pc' := 11) rfl (l' := #[.val (.long q0), .second, .val (.long q1), .second, .val (.long (536870911 : Int64)), .second, .val (.long v1), .second, .unset, .unset, .unset, .unset, .unset, .unset, .unset, .unset, .unset, .unset, .unset, .unset, .unset, .unset]) rfl ?_
  refine o_lloadN G0 d6_11 (pc' := 12) rfl rfl ?_
  refine o_bipush G0 d6_12 (pc' := 14) rfl (v := (29 : Int32)) rfl ?_
  obtain ⟨v2, e2⟩ : ∃ z, (q0.toUInt64 >>> ((29 : Int32) &&& 0x3f).toInt64.toUInt64).toInt64 = z := ⟨_, rfl⟩
  refine o_lushr G0 d6_14 (pc' := 15) rfl e2 ?_
  refine o_lstore G0 d6_15 (pc' := 17) rfl (l' := #[.val (.long q0), .second, .val (.long q1), .second, .val (.long (536870911 : Int64)), .second, .val (.long v1), .second, .val (.long v2), .second, .unset, .unset, .unset, .unset, .unset, .unset, .unset, .unset, .unset, .unset, .unset, .unset]) rfl ?_
  refine o_lloadN G0 d6_17 (pc' := 18) rfl rfl ?_
  refine o_lload G0 d6_18 (pc' := 20) rfl rfl ?_
  obtain ⟨v3, e3⟩ : ∃ z, q1 &&& (536870911 : Int64) = z := ⟨_, rfl⟩
  refine o_land G0 d6_20 (pc' := 21) rfl e3 ?_
  refine o_lstore G0 d6_21 (pc' := 23) rfl (l' := #[.val (.long q0), .second, .val (.long q1), .second, .val (.long (536870911 : Int64)), .second, .val (.long v1), .second, .val (.long v2), .second, .val (.long v3), .second, .unset, .unset, .unset, .unset, .unset, .unset, .unset, .unset, .unset, .unset]) rfl ?_
  refine o_lloadN G0 d6_23 (pc' := 24) rfl rfl ?_
  refine o_bipush G0 d6_24 (pc' := 26) rfl (v := (29 : Int32)) rfl ?_
  obtain ⟨v4, e4⟩ : ∃ z, (q1.toUInt64 >>> ((29 : Int32) &&& 0x3f).toInt64.toUInt64).toInt64 = z := ⟨_, rfl⟩
  refine o_lushr G0 d6_26 (pc' := 27) rfl e4 ?_
  refine o_lstore G0 d6_27 (pc' := 29) rfl (l' := #[.val (.long q0), .second, .val (.long q1), .second, .val (.long (536870911 : Int64)), .second, .val (.long v1), .second, .val (.long v2), .second, .val (.long v3), .second, .val (.long v4), .second, .unset, .unset, .unset, .unset, .unset, .unset, .unset, .unset]) rfl ?_
  refine o_lload G0 d6_29 (pc' := 31) rfl rfl ?_
  refine o_lload G0 d6_31 (pc' := 33) rfl rfl ?_
  obtain ⟨v5, e5⟩ : ∃ z, v2 * v4 = z := ⟨_, rfl⟩
  refine o_lmul G0 d6_33 (pc' := 34) rfl e5 ?_
  refine o_lstore G0 d6_34 (pc' := 36) rfl (l' := #[.val (.long q0), .second, .val (.long q1), .second, .val (.long (536870911 : Int64)), .second, .val (.long v1), .second, .val (.long v2), .second, .val (.long v3), .second, .val (.long v4), .second, .val (.long v5), .second, .unset, .unset, .unset, .unset, .unset, .unset]) rfl ?_
  refine o_lload G0 d6_36 (pc' := 38) rfl rfl ?_
  refine o_lload G0 d6_38 (pc' := 40) rfl rfl ?_
  obtain ⟨v6, e6⟩ : ∃ z, v2 * v3 = z := ⟨_, rfl⟩
  refine o_lmul G0 d6_40 (pc' := 41) rfl e6 ?_
  refine o_lload G0 d6_41 (pc' := 43) rfl rfl ?_
  refine o_lload G0 d6_43 (pc' := 45) rfl rfl ?_
  obtain ⟨v7, e7⟩ : ∃ z, v1 * v4 = z := ⟨_, rfl⟩
  refine o_lmul G0 d6_45 (pc' := 46) rfl e7 ?_
  obtain ⟨v8, e8⟩ : ∃ z, v6 + v7 = z := ⟨_, rfl⟩
  refine o_ladd G0 d6_46 (pc' := 47) rfl e8 ?_
  refine o_lstore G0 d6_47 (pc' := 49) rfl (l' := #[.val (.long q0), .second, .val (.long q1), .second, .val (.long (536870911 : Int64)), .second, .val (.long v1), .second, .val (.long v2), .second, .val (.long v3), .second, .val (.long v4), .second, .val (.long v5), .second, .val (.long v8), .second, .unset, .unset, .unset, .unset]) rfl ?_
  refine o_lload G0 d6_49 (pc' := 51) rfl rfl ?_
  refine o_lload G0 d6_51 (pc' := 53) rfl rfl ?_
  obtain ⟨v9, e9⟩ : ∃ z, v1 * v3 = z := ⟨_, rfl⟩
  refine o_lmul G0 d6_53 (pc' := 54) rfl e9 ?_
  refine o_lstore G0 d6_54 (pc' := 56) rfl (l' := #[.val (.long q0), .second, .val (.long q1), .second, .val (.long (536870911 : Int64)), .second, .val (.long v1), .second, .val (.long v2), .second, .val (.long v3), .second, .val (.long v4), .second, .val (.long v5), .second, .val (.long v8), .second, .val (.long v9), .second, .unset, .unset]) rfl ?_
  refine o_lload G0 d6_56 (pc' := 58) rfl rfl ?_
  refine o_lload G0 d6_58 (pc' := 60) rfl rfl ?_
  refine o_bipush G0 d6_60 (pc' := 62) rfl (v := (29 : Int32)) rfl ?_
  obtain ⟨v10, e10⟩ : ∃ z, (v9.toUInt64 >>> ((29 : Int32) &&& 0x3f).toInt64.toUInt64).toInt64 = z := ⟨_, rfl⟩
  refine o_lushr G0 d6_62 (pc' := 63) rfl e10 ?_
  obtain ⟨v11, e11⟩ : ∃ z, v8 + v10 = z := ⟨_, rfl⟩
  refine o_ladd G0 d6_63 (pc' := 64) rfl e11 ?_
  refine o_lstore G0 d6_64 (pc' := 66) rfl (l' := #[.val (.long q0), .second, .val (.long q1), .second, .val (.long (536870911 : Int64)), .second, .val (.long v1), .second, .val (.long v2), .second, .val (.long v3), .second, .val (.long v4), .second, .val (.long v5), .second, .val (.long v8), .second, .val (.long v9), .second, .val (.long v11), .second]) rfl ?_
  refine o_ldc2 G0 d6_66 (pc' := 69) rfl (hw _ (List.mem_of_getElem? (i := 27) rfl)) ?_
  refine o_lload G0 d6_69 (pc' := 71) rfl rfl ?_
  obtain ⟨v12, e12⟩ : ∃ z, (2 : Int64) * v5 = z := ⟨_, rfl⟩
  refine o_lmul G0 d6_71 (pc' := 72) rfl e12 ?_
  refine o_lload G0 d6_72 (pc' := 74) rfl rfl ?_
  refine o_bipush G0 d6_74 (pc' := 76) rfl (v := (28 : Int32)) rfl ?_
  obtain ⟨v13, e13⟩ : ∃ z, (v11.toUInt64 >>> ((28 : Int32) &&& 0x3f).toInt64.toUInt64).toInt64 = z := ⟨_, rfl⟩
  refine o_lushr G0 d6_76 (pc' := 77) rfl e13 ?_
  obtain ⟨v14, e14⟩ : ∃ z, v12 + v13 = z := ⟨_, rfl⟩
  refine o_ladd G0 d6_77 (pc' := 78) rfl e14 ?_
  have hq : v14 = f_6 q0 q1 := by
    subst e1 e2 e3 e4 e5 e6 e7 e8 e9 e10 e11 e12 e13 e14
    rw [f_6]
  exact o_lreturn G0 d6_78 ⟨congrArg (fun z => some (Value.long z)) hq, rfl⟩ (by decide) (by decide)
theorem own_m57 (x : Int64) : 0 ≤ (x &&& (144115188075855871 : Int64)).toInt ∧ (x &&& (144115188075855871 : Int64)).toInt < 144115188075855872 := by
  rw [c_maskL x 144115188075855871 57 (by decide) (by decide)]
  omega
theorem own_mk (x : Int64) : (x &&& (144115188075855871 : Int64)).toInt = x.toInt % 144115188075855872 := c_maskL x 144115188075855871 57 (by decide) (by decide)
theorem own_u57 (x : Int64) : ((x.toUInt64 >>> ((57 : Int32) &&& 0x3f).toInt64.toUInt64).toInt64).toInt = (x.toInt % 18446744073709551616) / 144115188075855872 := c_lushr x 57 57 (by decide) (by decide)
theorem own_ad {a b : Int64} (h1 : -9223372036854775808 ≤ a.toInt + b.toInt) (h2 : a.toInt + b.toInt < 9223372036854775808) : (a + b).toInt = a.toInt + b.toInt := by
  rw [Int64.toInt_add, Int.bmod_def]
  split <;> omega
theorem own_ml {a b : Int64} (h1 : -9223372036854775808 ≤ a.toInt * b.toInt) (h2 : a.toInt * b.toInt < 9223372036854775808) : (a * b).toInt = a.toInt * b.toInt := by
  rw [Int64.toInt_mul, Int.bmod_def]
  generalize a.toInt * b.toInt = z at *
  split <;> omega
theorem own_pb {a b A B : Int} (h0 : 0 ≤ a) (h1 : a ≤ A) (h2 : 0 ≤ b) (h3 : b ≤ B) : 0 ≤ a * b ∧ a * b ≤ A * B := ⟨Int.mul_nonneg h0 h2, Int.mul_le_mul h1 h3 h2 (by omega)⟩
theorem own_mh (x y : Int64) (hx : 0 ≤ x.toInt ∧ x.toInt < 144115188075855872) (hy : 0 ≤ y.toInt ∧ y.toInt < 144115188075855872) : (f_4 x y).toInt = (x.toInt * y.toInt) / 18446744073709551616 := by
  have sx : (x >>> ((32 : Int32) &&& 0x3f).toInt64).toInt = x.toInt / 4294967296 := c_lshr x 32 32 (by decide)
  have sy : (y >>> ((32 : Int32) &&& 0x3f).toInt64).toInt = y.toInt / 4294967296 := c_lshr y 32 32 (by decide)
  have mx : (x &&& (4294967295 : Int64)).toInt = x.toInt % 4294967296 := c_maskL x 4294967295 32 (by decide) (by decide)
  have my : (y &&& (4294967295 : Int64)).toInt = y.toInt % 4294967296 := c_maskL y 4294967295 32 (by decide) (by decide)
  rw [f_4]
  generalize (x >>> ((32 : Int32) &&& 0x3f).toInt64) = x1 at *
  generalize (y >>> ((32 : Int32) &&& 0x3f).toInt64) = y1 at *
  generalize (x &&& (4294967295 : Int64)) = x2 at *
  generalize (y &&& (4294967295 : Int64)) = y2 at *
  have ex : x.toInt = x1.toInt * 4294967296 + x2.toInt := by omega
  have ey : y.toInt = y1.toInt * 4294967296 + y2.toInt := by omega
  have bx1 : 0 ≤ x1.toInt ∧ x1.toInt ≤ 33554431 := by omega
  have by1 : 0 ≤ y1.toInt ∧ y1.toInt ≤ 33554431 := by omega
  have bx2 : 0 ≤ x2.toInt ∧ x2.toInt ≤ 4294967295 := by omega
  have by2 : 0 ≤ y2.toInt ∧ y2.toInt ≤ 4294967295 := by omega
  have p11 := own_pb bx1.1 bx1.2 by1.1 by1.2
  have p12 := own_pb bx1.1 bx1.2 by2.1 by2.2
  have p21 := own_pb bx2.1 bx2.2 by1.1 by1.2
  have p22 := own_pb bx2.1 bx2.2 by2.1 by2.2
  have z2 : (((x2 * y2).toUInt64 >>> ((32 : Int32) &&& 0x3f).toInt64.toUInt64).toInt64).toInt = (x2.toInt * y2.toInt) / 4294967296 := by
    have h := c_lushr (x2 * y2) 32 32 (by decide) (by decide)
    have h' := c_lmul x2 y2
    rw [h]
    generalize x2.toInt * y2.toInt = q at *
    show (x2 * y2).toInt % 18446744073709551616 / 4294967296 = _
    omega
  have m12 : (x1 * y2).toInt = x1.toInt * y2.toInt := own_ml (by omega) (by omega)
  have m21 : (x2 * y1).toInt = x2.toInt * y1.toInt := own_ml (by omega) (by omega)
  have m11 : (x1 * y1).toInt = x1.toInt * y1.toInt := own_ml (by omega) (by omega)
  have t : ((x1 * y2) + (((x2 * y2).toUInt64 >>> ((32 : Int32) &&& 0x3f).toInt64.toUInt64).toInt64)).toInt = x1.toInt * y2.toInt + (x2.toInt * y2.toInt) / 4294967296 := by
    rw [own_ad (by rw [m12, z2]; omega) (by rw [m12, z2]; omega), m12, z2]
  generalize ((x1 * y2) + (((x2 * y2).toUInt64 >>> ((32 : Int32) &&& 0x3f).toInt64.toUInt64).toInt64)) = T at *
  have z0 : (T >>> ((32 : Int32) &&& 0x3f).toInt64).toInt = T.toInt / 4294967296 := c_lshr T 32 32 (by decide)
  have z1 : (T &&& (4294967295 : Int64)).toInt = T.toInt % 4294967296 := c_maskL T 4294967295 32 (by decide) (by decide)
  have z1' : ((T &&& (4294967295 : Int64)) + (x2 * y1)).toInt = T.toInt % 4294967296 + x2.toInt * y1.toInt := by
    rw [own_ad (by rw [z1, m21]; omega) (by rw [z1, m21]; omega), z1, m21]
  generalize ((T &&& (4294967295 : Int64)) + (x2 * y1)) = U at *
  have z3 : (U >>> ((32 : Int32) &&& 0x3f).toInt64).toInt = U.toInt / 4294967296 := c_lshr U 32 32 (by decide)
  have r1 : ((x1 * y1) + (T >>> ((32 : Int32) &&& 0x3f).toInt64)).toInt = x1.toInt * y1.toInt + T.toInt / 4294967296 := by
    rw [own_ad (by rw [m11, z0]; omega) (by rw [m11, z0]; omega), m11, z0]
  rw [own_ad (by rw [r1, z3]; omega) (by rw [r1, z3]; omega), r1, z3]
  have exy : x.toInt * y.toInt = x1.toInt * y1.toInt * 18446744073709551616 + (x1.toInt * y2.toInt + x2.toInt * y1.toInt) * 4294967296 + x2.toInt * y2.toInt := by
    rw [ex, ey, Int.add_mul, Int.mul_add, Int.mul_add]
    have a1 : x1.toInt * 4294967296 * (y1.toInt * 4294967296) = x1.toInt * y1.toInt * 18446744073709551616 := by
      rw [Int.mul_assoc, Int.mul_left_comm 4294967296, ← Int.mul_assoc]; rfl
    have a2 : x1.toInt * 4294967296 * y2.toInt = x1.toInt * y2.toInt * 4294967296 := Int.mul_right_comm _ _ _
    have a3 : x2.toInt * (y1.toInt * 4294967296) = x2.toInt * y1.toInt * 4294967296 := (Int.mul_assoc _ _ _).symm
    rw [a1, a2, a3]; omega
  rw [exy]
  generalize x1.toInt * y1.toInt = q11 at *
  generalize x1.toInt * y2.toInt = q12 at *
  generalize x2.toInt * y1.toInt = q21 at *
  generalize x2.toInt * y2.toInt = q22 at *
  omega
theorem own_hi (x y : Int64) (hx : 0 ≤ x.toInt ∧ x.toInt < 144115188075855872) (hy : 0 ≤ y.toInt ∧ y.toInt < 144115188075855872) : (f_6 x y).toInt = (x.toInt * y.toInt) / 144115188075855872 := by
  have u29 : ∀ z : Int64, 0 ≤ z.toInt → ((z.toUInt64 >>> ((29 : Int32) &&& 0x3f).toInt64.toUInt64).toInt64).toInt = z.toInt / 536870912 := fun z hz => by
    have h := c_lushr z 29 29 (by decide) (by decide)
    have := z.toInt_lt
    rw [h, Int.emod_eq_of_lt hz (by omega)]; rfl
  have u28 : ∀ z : Int64, 0 ≤ z.toInt → ((z.toUInt64 >>> ((28 : Int32) &&& 0x3f).toInt64.toUInt64).toInt64).toInt = z.toInt / 268435456 := fun z hz => by
    have h := c_lushr z 28 28 (by decide) (by decide)
    have := z.toInt_lt
    rw [h, Int.emod_eq_of_lt hz (by omega)]; rfl
  have sx := u29 x hx.1
  have sy := u29 y hy.1
  have mx : (x &&& (536870911 : Int64)).toInt = x.toInt % 536870912 := c_maskL x 536870911 29 (by decide) (by decide)
  have my : (y &&& (536870911 : Int64)).toInt = y.toInt % 536870912 := c_maskL y 536870911 29 (by decide) (by decide)
  rw [f_6]
  generalize ((x.toUInt64 >>> ((29 : Int32) &&& 0x3f).toInt64.toUInt64).toInt64) = x1 at *
  generalize ((y.toUInt64 >>> ((29 : Int32) &&& 0x3f).toInt64.toUInt64).toInt64) = y1 at *
  generalize (x &&& (536870911 : Int64)) = x2 at *
  generalize (y &&& (536870911 : Int64)) = y2 at *
  have ex : x.toInt = x1.toInt * 536870912 + x2.toInt := by omega
  have ey : y.toInt = y1.toInt * 536870912 + y2.toInt := by omega
  have bx1 : 0 ≤ x1.toInt ∧ x1.toInt ≤ 268435455 := by omega
  have by1 : 0 ≤ y1.toInt ∧ y1.toInt ≤ 268435455 := by omega
  have bx2 : 0 ≤ x2.toInt ∧ x2.toInt ≤ 536870911 := by omega
  have by2 : 0 ≤ y2.toInt ∧ y2.toInt ≤ 536870911 := by omega
  have p11 := own_pb bx1.1 bx1.2 by1.1 by1.2
  have p12 := own_pb bx1.1 bx1.2 by2.1 by2.2
  have p21 := own_pb bx2.1 bx2.2 by1.1 by1.2
  have p22 := own_pb bx2.1 bx2.2 by2.1 by2.2
  have m12 : (x1 * y2).toInt = x1.toInt * y2.toInt := own_ml (by omega) (by omega)
  have m21 : (x2 * y1).toInt = x2.toInt * y1.toInt := own_ml (by omega) (by omega)
  have m11 : (x1 * y1).toInt = x1.toInt * y1.toInt := own_ml (by omega) (by omega)
  have m22 : (x2 * y2).toInt = x2.toInt * y2.toInt := own_ml (by omega) (by omega)
  have mid : ((x1 * y2) + (x2 * y1)).toInt = x1.toInt * y2.toInt + x2.toInt * y1.toInt := by
    rw [own_ad (by rw [m12, m21]; omega) (by rw [m12, m21]; omega), m12, m21]
  have l29 := u29 (x2 * y2) (by rw [m22]; exact p22.1)
  rw [m22] at l29
  have big : (((x1 * y2) + (x2 * y1)) + (((x2 * y2).toUInt64 >>> ((29 : Int32) &&& 0x3f).toInt64.toUInt64).toInt64)).toInt = x1.toInt * y2.toInt + x2.toInt * y1.toInt + x2.toInt * y2.toInt / 536870912 := by
    rw [own_ad (by rw [mid, l29]; omega) (by rw [mid, l29]; omega), mid, l29]
  have b28 := u28 (((x1 * y2) + (x2 * y1)) + (((x2 * y2).toUInt64 >>> ((29 : Int32) &&& 0x3f).toInt64.toUInt64).toInt64)) (by rw [big]; omega)
  rw [big] at b28
  have k2 : (2 : Int64).toInt = 2 := rfl
  have h2 : ((2 : Int64) * (x1 * y1)).toInt = 2 * (x1.toInt * y1.toInt) := by
    rw [own_ml (by rw [k2, m11]; omega) (by rw [k2, m11]; omega), k2, m11]
  rw [own_ad (by rw [h2, b28]; omega) (by rw [h2, b28]; omega), h2, b28]
  have exy : x.toInt * y.toInt = x1.toInt * y1.toInt * 288230376151711744 + (x1.toInt * y2.toInt + x2.toInt * y1.toInt) * 536870912 + x2.toInt * y2.toInt := by
    rw [ex, ey, Int.add_mul, Int.mul_add, Int.mul_add]
    have a1 : x1.toInt * 536870912 * (y1.toInt * 536870912) = x1.toInt * y1.toInt * 288230376151711744 := by
      rw [Int.mul_assoc, Int.mul_left_comm 536870912, ← Int.mul_assoc]; rfl
    have a2 : x1.toInt * 536870912 * y2.toInt = x1.toInt * y2.toInt * 536870912 := Int.mul_right_comm _ _ _
    have a3 : x2.toInt * (y1.toInt * 536870912) = x2.toInt * y1.toInt * 536870912 := (Int.mul_assoc _ _ _).symm
    rw [a1, a2, a3]; omega
  rw [exy]
  generalize x1.toInt * y1.toInt = q11 at *
  generalize x1.toInt * y2.toInt = q12 at *
  generalize x2.toInt * y1.toInt = q21 at *
  generalize x2.toInt * y2.toInt = q22 at *
  omega
theorem own_lo (x y : Int64) : (f_5 x y).toInt = (x.toInt * y.toInt) % 144115188075855872 := by
  rw [f_5]
  show ((x * y) &&& (144115188075855871 : Int64)).toInt = _
  have h := c_lmul x y
  rw [own_mk]
  generalize x.toInt * y.toInt = q at *
  omega
theorem own_mac {x y sm cr lo hi u s w t r p1 p2 p3 p4 p5 p6 c : Int64} (e1 : x * y = lo) (e2 : f_4 x y = hi) (e3 : lo &&& (144115188075855871 : Int64) = u) (e4 : sm + u = s) (e5 : s &&& (144115188075855871 : Int64) = w) (e6 : w + cr = t) (e7 : t &&& (144115188075855871 : Int64) = r)
    (e8 : hi <<< ((7 : Int32) &&& 0x3f).toInt64 = p1) (e9 : (lo.toUInt64 >>> ((57 : Int32) &&& 0x3f).toInt64.toUInt64).toInt64 = p2) (e10 : p1 ||| p2 = p3) (e11 : (s.toUInt64 >>> ((57 : Int32) &&& 0x3f).toInt64.toUInt64).toInt64 = p4) (e12 : p3 + p4 = p5) (e13 : (t.toUInt64 >>> ((57 : Int32) &&& 0x3f).toInt64.toUInt64).toInt64 = p6) (e14 : p5 + p6 = c)
    (hx : 0 ≤ x.toInt ∧ x.toInt < 144115188075855872) (hy : 0 ≤ y.toInt ∧ y.toInt < 144115188075855872) (hs : 0 ≤ sm.toInt ∧ sm.toInt < 144115188075855872) (hc : 0 ≤ cr.toInt ∧ cr.toInt < 144115188075855872) :
    (r.toInt + c.toInt * 144115188075855872 = sm.toInt + cr.toInt + x.toInt * y.toInt) ∧ (0 ≤ r.toInt ∧ r.toInt < 144115188075855872) ∧ (0 ≤ c.toInt ∧ c.toInt < 144115188075855872) := by
  have hP := own_pb hx.1 (show x.toInt ≤ 144115188075855871 by omega) hy.1 (show y.toInt ≤ 144115188075855871 by omega)
  have l1 := c_lmul x y
  have h2 := own_mh x y hx hy
  rw [e1] at l1
  rw [e2] at h2
  generalize x.toInt * y.toInt = P at *
  have h3 := own_mk lo
  rw [e3] at h3
  have h4 : s.toInt = sm.toInt + u.toInt := by rw [← e4]; exact own_ad (by omega) (by omega)
  have h5 := own_mk s
  rw [e5] at h5
  have h6 : t.toInt = w.toInt + cr.toInt := by rw [← e6]; exact own_ad (by omega) (by omega)
  have h7 := own_mk t
  rw [e7] at h7
  have h8 := c_lshl hi 7 7 (by decide)
  rw [e8] at h8
  have h8' : p1.toInt = hi.toInt * 128 := by
    have a1 := p1.toInt_lt
    have a2 := p1.le_toInt
    have e : ((2 ^ 7 : Nat) : Int) = 128 := rfl
    rw [e] at h8
    omega
  have h9 := own_u57 lo
  rw [e9] at h9
  have h10 : p3.toInt = p1.toInt + p2.toInt := by
    have o := c_orL p1 p2 7 (by decide) 128 rfl (by omega) (by omega) (by omega)
    rw [e10] at o
    have a1 := p3.toInt_lt
    have a2 := p3.le_toInt
    omega
  have h11 := own_u57 s
  rw [e11] at h11
  have h12 : p5.toInt = p3.toInt + p4.toInt := by rw [← e12]; exact own_ad (by omega) (by omega)
  have h13 := own_u57 t
  rw [e13] at h13
  have h14 : c.toInt = p5.toInt + p6.toInt := by rw [← e14]; exact own_ad (by omega) (by omega)
  have hdiv : p3.toInt = P / 144115188075855872 := by omega
  have hu : u.toInt = P % 144115188075855872 := by omega
  clear h2 h3 h8 h8' h9 h10 l1
  omega
theorem own_prop {sm cr s r c : Int64} (e1 : sm + cr = s) (e2 : s &&& (144115188075855871 : Int64) = r) (e3 : (s.toUInt64 >>> ((57 : Int32) &&& 0x3f).toInt64.toUInt64).toInt64 = c) (hs : 0 ≤ sm.toInt ∧ sm.toInt < 144115188075855872) (hc : 0 ≤ cr.toInt ∧ cr.toInt < 144115188075855872) :
    (r.toInt + c.toInt * 144115188075855872 = sm.toInt + cr.toInt) ∧ (0 ≤ r.toInt ∧ r.toInt < 144115188075855872) ∧ (0 ≤ c.toInt ∧ c.toInt < 144115188075855872) := by
  have h1 : s.toInt = sm.toInt + cr.toInt := by rw [← e1]; exact own_ad (by omega) (by omega)
  have h2 := own_mk s
  rw [e2] at h2
  have h3 := own_u57 s
  rw [e3] at h3
  omega
theorem own_pickb (p : Int32) (q : Int64) (h : 0 ≤ q.toInt ∧ q.toInt < 144115188075855872) : 0 ≤ (f_2 p q).toInt ∧ (f_2 p q).toInt < 144115188075855872 := by
  rw [f_2]
  split
  · decide
  split
  · decide
  split
  · decide
  · exact h
def own_val (d0 d1 d2 d3 d4 : Int64) : Int := d0.toInt + d1.toInt * 144115188075855872 + d2.toInt * 20769187434139310514121985316880384 + d3.toInt * 2993155353253689176481146537402947624255349848014848 + d4.toInt * 431359146674410236714672241392314090778194310760649159697657763987456
theorem own_dg {d C X Y : Int} (h : 0 ≤ d ∧ d < 144115188075855872) (e : d + 144115188075855872 * X = C + 144115188075855872 * Y) : d = C % 144115188075855872 ∧ X = Y + C / 144115188075855872 := by omega
theorem own_digits (C0 C1 C2 C3 d0 d1 d2 d3 d4 T1 T2 T3 : Int) (h0 : 0 ≤ d0 ∧ d0 < 144115188075855872) (h1 : 0 ≤ d1 ∧ d1 < 144115188075855872) (h2 : 0 ≤ d2 ∧ d2 < 144115188075855872) (h3 : 0 ≤ d3 ∧ d3 < 144115188075855872)
    (hsum : C0 + C1 * 144115188075855872 + C2 * 20769187434139310514121985316880384 + C3 * 2993155353253689176481146537402947624255349848014848 = d0 + d1 * 144115188075855872 + d2 * 20769187434139310514121985316880384 + d3 * 2993155353253689176481146537402947624255349848014848 + d4 * 431359146674410236714672241392314090778194310760649159697657763987456)
    (t1 : T1 = C1 + C0 / 144115188075855872) (t2 : T2 = C2 + T1 / 144115188075855872) (t3 : T3 = C3 + T2 / 144115188075855872) : d0 = C0 % 144115188075855872 ∧ d1 = T1 % 144115188075855872 ∧ d2 = T2 % 144115188075855872 ∧ d3 = T3 % 144115188075855872 ∧ d4 = T3 / 144115188075855872 := by
  obtain ⟨n0, r0⟩ := own_dg (d := d0) (C := C0) (X := d1 + 144115188075855872 * (d2 + 144115188075855872 * (d3 + 144115188075855872 * d4))) (Y := C1 + 144115188075855872 * (C2 + 144115188075855872 * C3)) h0 (by omega)
  clear hsum
  obtain ⟨n1, r1⟩ := own_dg (d := d1) (C := T1) (X := d2 + 144115188075855872 * (d3 + 144115188075855872 * d4)) (Y := C2 + 144115188075855872 * C3) h1 (by omega)
  clear r0
  obtain ⟨n2, r2⟩ := own_dg (d := d2) (C := T2) (X := d3 + 144115188075855872 * d4) (Y := C3) h2 (by omega)
  clear r1
  obtain ⟨n3, r3⟩ := own_dg (d := d3) (C := T3) (X := d4) (Y := 0) h3 (by omega)
  exact ⟨n0, n1, n2, n3, by omega⟩
set_option maxHeartbeats 2000000 in
theorem own_final (s0 s1 s2 s3 a0 a1 b0 b1 d0 d1 d2 d3 d4 : Int64) (hs0 : 0 ≤ s0.toInt ∧ s0.toInt < 144115188075855872) (hs1 : 0 ≤ s1.toInt ∧ s1.toInt < 144115188075855872) (hs2 : 0 ≤ s2.toInt ∧ s2.toInt < 144115188075855872) (hs3 : 0 ≤ s3.toInt ∧ s3.toInt < 144115188075855872)
    (ha0 : 0 ≤ a0.toInt ∧ a0.toInt < 144115188075855872) (ha1 : 0 ≤ a1.toInt ∧ a1.toInt < 144115188075855872) (hb0 : 0 ≤ b0.toInt ∧ b0.toInt < 144115188075855872) (hb1 : 0 ≤ b1.toInt ∧ b1.toInt < 144115188075855872)
    (h0 : 0 ≤ d0.toInt ∧ d0.toInt < 144115188075855872) (h1 : 0 ≤ d1.toInt ∧ d1.toInt < 144115188075855872) (h2 : 0 ≤ d2.toInt ∧ d2.toInt < 144115188075855872) (h3 : 0 ≤ d3.toInt ∧ d3.toInt < 144115188075855872) (h4 : 0 ≤ d4.toInt ∧ d4.toInt < 144115188075855872)
    (hv : own_val d0 d1 d2 d3 d4 = own_val s0 s1 s2 s3 0 + (a0.toInt * b0.toInt) + (a1.toInt * b0.toInt + a0.toInt * b1.toInt) * 144115188075855872 + (a1.toInt * b1.toInt) * 20769187434139310514121985316880384) :
    d0 = ((s0 + f_5 a0 b0) &&& f_1) ∧
    d1 = (((((s1 + f_6 a0 b0) + f_5 a1 b0) + f_5 a0 b1) + (((s0 + f_5 a0 b0).toUInt64 >>> ((57 : Int32) &&& 0x3f).toInt64.toUInt64).toInt64)) &&& f_1) ∧
    d2 = (((((s2 + f_6 a1 b0) + f_6 a0 b1) + f_5 a1 b1) + (((((((s1 + f_6 a0 b0) + f_5 a1 b0) + f_5 a0 b1) + (((s0 + f_5 a0 b0).toUInt64 >>> ((57 : Int32) &&& 0x3f).toInt64.toUInt64).toInt64))).toUInt64 >>> ((57 : Int32) &&& 0x3f).toInt64.toUInt64).toInt64)) &&& f_1) ∧
    d3 = (((s3 + f_6 a1 b1) + ((((((s2 + f_6 a1 b0) + f_6 a0 b1) + f_5 a1 b1) + (((((((s1 + f_6 a0 b0) + f_5 a1 b0) + f_5 a0 b1) + (((s0 + f_5 a0 b0).toUInt64 >>> ((57 : Int32) &&& 0x3f).toInt64.toUInt64).toInt64))).toUInt64 >>> ((57 : Int32) &&& 0x3f).toInt64.toUInt64).toInt64)).toUInt64 >>> ((57 : Int32) &&& 0x3f).toInt64.toUInt64).toInt64)) &&& f_1) ∧
    d4 = ((((s3 + f_6 a1 b1) + ((((((s2 + f_6 a1 b0) + f_6 a0 b1) + f_5 a1 b1) + (((((((s1 + f_6 a0 b0) + f_5 a1 b0) + f_5 a0 b1) + (((s0 + f_5 a0 b0).toUInt64 >>> ((57 : Int32) &&& 0x3f).toInt64.toUInt64).toInt64))).toUInt64 >>> ((57 : Int32) &&& 0x3f).toInt64.toUInt64).toInt64)).toUInt64 >>> ((57 : Int32) &&& 0x3f).toInt64.toUInt64).toInt64))).toUInt64 >>> ((57 : Int32) &&& 0x3f).toInt64.toUInt64).toInt64 := by
  have fm : f_1 = (144115188075855871 : Int64) := rfl
  rw [fm]
  have z : (0 : Int64).toInt = 0 := rfl
  have P00 := own_pb ha0.1 (show a0.toInt ≤ 144115188075855871 by omega) hb0.1 (show b0.toInt ≤ 144115188075855871 by omega)
  have P10 := own_pb ha1.1 (show a1.toInt ≤ 144115188075855871 by omega) hb0.1 (show b0.toInt ≤ 144115188075855871 by omega)
  have P01 := own_pb ha0.1 (show a0.toInt ≤ 144115188075855871 by omega) hb1.1 (show b1.toInt ≤ 144115188075855871 by omega)
  have P11 := own_pb ha1.1 (show a1.toInt ≤ 144115188075855871 by omega) hb1.1 (show b1.toInt ≤ 144115188075855871 by omega)
  have l00 := own_lo a0 b0
  have l10 := own_lo a1 b0
  have l01 := own_lo a0 b1
  have l11 := own_lo a1 b1
  have g00 := own_hi a0 b0 ha0 hb0
  have g10 := own_hi a1 b0 ha1 hb0
  have g01 := own_hi a0 b1 ha0 hb1
  have g11 := own_hi a1 b1 ha1 hb1
  simp only [own_val, z] at hv
  generalize f_5 a0 b0 = L00 at *
  generalize f_5 a1 b0 = L10 at *
  generalize f_5 a0 b1 = L01 at *
  generalize f_5 a1 b1 = L11 at *
  generalize f_6 a0 b0 = H00 at *
  generalize f_6 a1 b0 = H10 at *
  generalize f_6 a0 b1 = H01 at *
  generalize f_6 a1 b1 = H11 at *
  generalize a0.toInt * b0.toInt = p00 at *
  generalize a1.toInt * b0.toInt = p10 at *
  generalize a0.toInt * b1.toInt = p01 at *
  generalize a1.toInt * b1.toInt = p11 at *
  have c0 : (s0 + L00).toInt = s0.toInt + L00.toInt := own_ad (by omega) (by omega)
  have c1a : (s1 + H00).toInt = s1.toInt + H00.toInt := own_ad (by omega) (by omega)
  have c1b : (s1 + H00 + L10).toInt = s1.toInt + H00.toInt + L10.toInt := by rw [own_ad (by omega) (by omega), c1a]
  have c1 : (s1 + H00 + L10 + L01).toInt = s1.toInt + H00.toInt + L10.toInt + L01.toInt := by rw [own_ad (by omega) (by omega), c1b]
  have c2a : (s2 + H10).toInt = s2.toInt + H10.toInt := own_ad (by omega) (by omega)
  have c2b : (s2 + H10 + H01).toInt = s2.toInt + H10.toInt + H01.toInt := by rw [own_ad (by omega) (by omega), c2a]
  have c2 : (s2 + H10 + H01 + L11).toInt = s2.toInt + H10.toInt + H01.toInt + L11.toInt := by rw [own_ad (by omega) (by omega), c2b]
  have c3 : (s3 + H11).toInt = s3.toInt + H11.toInt := own_ad (by omega) (by omega)
  clear c1a c1b c2a c2b
  generalize s0 + L00 = C0 at *
  generalize s1 + H00 + L10 + L01 = C1 at *
  generalize s2 + H10 + H01 + L11 = C2 at *
  generalize s3 + H11 = C3 at *
  have k0 := own_u57 C0
  have t1 : (C1 + (C0.toUInt64 >>> ((57 : Int32) &&& 0x3f).toInt64.toUInt64).toInt64).toInt = C1.toInt + ((C0.toUInt64 >>> ((57 : Int32) &&& 0x3f).toInt64.toUInt64).toInt64).toInt := own_ad (by omega) (by omega)
  generalize (C0.toUInt64 >>> ((57 : Int32) &&& 0x3f).toInt64.toUInt64).toInt64 = K0 at *
  generalize C1 + K0 = T1 at *
  have k1 := own_u57 T1
  have t2 : (C2 + (T1.toUInt64 >>> ((57 : Int32) &&& 0x3f).toInt64.toUInt64).toInt64).toInt = C2.toInt + ((T1.toUInt64 >>> ((57 : Int32) &&& 0x3f).toInt64.toUInt64).toInt64).toInt := own_ad (by omega) (by omega)
  generalize (T1.toUInt64 >>> ((57 : Int32) &&& 0x3f).toInt64.toUInt64).toInt64 = K1 at *
  generalize C2 + K1 = T2 at *
  have k2 := own_u57 T2
  have t3 : (C3 + (T2.toUInt64 >>> ((57 : Int32) &&& 0x3f).toInt64.toUInt64).toInt64).toInt = C3.toInt + ((T2.toUInt64 >>> ((57 : Int32) &&& 0x3f).toInt64.toUInt64).toInt64).toInt := own_ad (by omega) (by omega)
  generalize (T2.toUInt64 >>> ((57 : Int32) &&& 0x3f).toInt64.toUInt64).toInt64 = K2 at *
  generalize C3 + K2 = T3 at *
  have k3 := own_u57 T3
  have m0 := own_mk C0
  have m1 := own_mk T1
  have m2 := own_mk T2
  have m3 := own_mk T3
  generalize (T3.toUInt64 >>> ((57 : Int32) &&& 0x3f).toInt64.toUInt64).toInt64 = K3 at *
  have hsum : C0.toInt + C1.toInt * 144115188075855872 + C2.toInt * 20769187434139310514121985316880384 + C3.toInt * 2993155353253689176481146537402947624255349848014848 = d0.toInt + d1.toInt * 144115188075855872 + d2.toInt * 20769187434139310514121985316880384 + d3.toInt * 2993155353253689176481146537402947624255349848014848 + d4.toInt * 431359146674410236714672241392314090778194310760649159697657763987456 := by
    omega
  have q0 : K0.toInt = C0.toInt / 144115188075855872 := by omega
  have q1 : K1.toInt = T1.toInt / 144115188075855872 := by omega
  have q2 : K2.toInt = T2.toInt / 144115188075855872 := by omega
  have q3 : K3.toInt = T3.toInt / 144115188075855872 := by omega
  obtain ⟨n0, n1, n2, n3, n4⟩ := own_digits C0.toInt C1.toInt C2.toInt C3.toInt d0.toInt d1.toInt d2.toInt d3.toInt d4.toInt T1.toInt T2.toInt T3.toInt h0 h1 h2 h3 hsum (by rw [t1, q0]) (by rw [t2, q1]) (by rw [t3, q2])
  rw [← q3] at n4
  exact ⟨Int64.toInt_inj.mp (n0.trans m0.symm), Int64.toInt_inj.mp (n1.trans m1.symm), Int64.toInt_inj.mp (n2.trans m2.symm), Int64.toInt_inj.mp (n3.trans m3.symm), Int64.toInt_inj.mp n4⟩
def own_l2 (x0 x1 : Int64) (j : Nat) : Value := match j with | 0 => .long x0 | _ => .long x1
def own_l5 (x0 x1 x2 x3 x4 : Int64) (j : Nat) : Value := match j with | 0 => .long x0 | 1 => .long x1 | 2 => .long x2 | 3 => .long x3 | _ => .long x4
theorem d3_0 : decode prog_45_method_7_code 0 = .ok (.iconst 0, 1) := by decide +kernel
theorem d3_1 : decode prog_45_method_7_code 1 = .ok (.istore_n 3, 1) := by decide +kernel
theorem d3_2 : decode prog_45_method_7_code 2 = .ok (.iload_n 3, 1) := by decide +kernel
theorem d3_3 : decode prog_45_method_7_code 3 = .ok (.aload_n 1, 1) := by decide +kernel
theorem d3_4 : decode prog_45_method_7_code 4 = .ok (.arraylength, 1) := by decide +kernel
theorem d3_5 : decode prog_45_method_7_code 5 = .ok (.if_icmp .ge 157, 3) := by decide +kernel
theorem d3_8 : decode prog_45_method_7_code 8 = .ok (.aload_n 1, 1) := by decide +kernel
theorem d3_9 : decode prog_45_method_7_code 9 = .ok (.iload_n 3, 1) := by decide +kernel
theorem d3_10 : decode prog_45_method_7_code 10 = .ok (.laload, 1) := by decide +kernel
theorem d3_11 : decode prog_45_method_7_code 11 = .ok (.lstore 4, 2) := by decide +kernel
theorem d3_13 : decode prog_45_method_7_code 13 = .ok (.lconst 0, 1) := by decide +kernel
theorem d3_14 : decode prog_45_method_7_code 14 = .ok (.lstore 6, 2) := by decide +kernel
theorem d3_16 : decode prog_45_method_7_code 16 = .ok (.iload_n 3, 1) := by decide +kernel
theorem d3_17 : decode prog_45_method_7_code 17 = .ok (.istore 8, 2) := by decide +kernel
theorem d3_19 : decode prog_45_method_7_code 19 = .ok (.iconst 0, 1) := by decide +kernel
theorem d3_20 : decode prog_45_method_7_code 20 = .ok (.istore 9, 2) := by decide +kernel
theorem d3_22 : decode prog_45_method_7_code 22 = .ok (.iload 9, 2) := by decide +kernel
theorem d3_24 : decode prog_45_method_7_code 24 = .ok (.aload_n 0, 1) := by decide +kernel
theorem d3_25 : decode prog_45_method_7_code 25 = .ok (.arraylength, 1) := by decide +kernel
theorem d3_26 : decode prog_45_method_7_code 26 = .ok (.if_icmp .ge 91, 3) := by decide +kernel
theorem d3_29 : decode prog_45_method_7_code 29 = .ok (.aload_n 0, 1) := by decide +kernel
theorem d3_30 : decode prog_45_method_7_code 30 = .ok (.iload 9, 2) := by decide +kernel
theorem d3_32 : decode prog_45_method_7_code 32 = .ok (.laload, 1) := by decide +kernel
theorem d3_33 : decode prog_45_method_7_code 33 = .ok (.lload 4, 2) := by decide +kernel
theorem d3_35 : decode prog_45_method_7_code 35 = .ok (.lmul, 1) := by decide +kernel
theorem d3_36 : decode prog_45_method_7_code 36 = .ok (.lstore 10, 2) := by decide +kernel
theorem d3_38 : decode prog_45_method_7_code 38 = .ok (.aload_n 0, 1) := by decide +kernel
theorem d3_39 : decode prog_45_method_7_code 39 = .ok (.iload 9, 2) := by decide +kernel
theorem d3_41 : decode prog_45_method_7_code 41 = .ok (.laload, 1) := by decide +kernel
theorem d3_42 : decode prog_45_method_7_code 42 = .ok (.lload 4, 2) := by decide +kernel
theorem d3_44 : decode prog_45_method_7_code 44 = .ok (.invokestatic 124, 3) := by decide +kernel
theorem d3_47 : decode prog_45_method_7_code 47 = .ok (.lstore 12, 2) := by decide +kernel
theorem d3_49 : decode prog_45_method_7_code 49 = .ok (.aload_n 2, 1) := by decide +kernel
theorem d3_50 : decode prog_45_method_7_code 50 = .ok (.iload 8, 2) := by decide +kernel
theorem d3_52 : decode prog_45_method_7_code 52 = .ok (.laload, 1) := by decide +kernel
theorem d3_53 : decode prog_45_method_7_code 53 = .ok (.lload 10, 2) := by decide +kernel
theorem d3_55 : decode prog_45_method_7_code 55 = .ok (.ldc2_w 46, 3) := by decide +kernel
theorem d3_58 : decode prog_45_method_7_code 58 = .ok (.land, 1) := by decide +kernel
theorem d3_59 : decode prog_45_method_7_code 59 = .ok (.ladd, 1) := by decide +kernel
theorem d3_60 : decode prog_45_method_7_code 60 = .ok (.lstore 14, 2) := by decide +kernel
theorem d3_62 : decode prog_45_method_7_code 62 = .ok (.lload 14, 2) := by decide +kernel
theorem d3_64 : decode prog_45_method_7_code 64 = .ok (.ldc2_w 46, 3) := by decide +kernel
theorem d3_67 : decode prog_45_method_7_code 67 = .ok (.land, 1) := by decide +kernel
theorem d3_68 : decode prog_45_method_7_code 68 = .ok (.lload 6, 2) := by decide +kernel
theorem d3_70 : decode prog_45_method_7_code 70 = .ok (.ladd, 1) := by decide +kernel
theorem d3_71 : decode prog_45_method_7_code 71 = .ok (.lstore 16, 2) := by decide +kernel
theorem d3_73 : decode prog_45_method_7_code 73 = .ok (.aload_n 2, 1) := by decide +kernel
theorem d3_74 : decode prog_45_method_7_code 74 = .ok (.iload 8, 2) := by decide +kernel
theorem d3_76 : decode prog_45_method_7_code 76 = .ok (.lload 16, 2) := by decide +kernel
theorem d3_78 : decode prog_45_method_7_code 78 = .ok (.ldc2_w 46, 3) := by decide +kernel
theorem d3_81 : decode prog_45_method_7_code 81 = .ok (.land, 1) := by decide +kernel
theorem d3_82 : decode prog_45_method_7_code 82 = .ok (.lastore, 1) := by decide +kernel
theorem d3_83 : decode prog_45_method_7_code 83 = .ok (.lload 12, 2) := by decide +kernel
theorem d3_85 : decode prog_45_method_7_code 85 = .ok (.bipush 7, 2) := by decide +kernel
theorem d3_87 : decode prog_45_method_7_code 87 = .ok (.lshl, 1) := by decide +kernel
theorem d3_88 : decode prog_45_method_7_code 88 = .ok (.lload 10, 2) := by decide +kernel
theorem d3_90 : decode prog_45_method_7_code 90 = .ok (.bipush 57, 2) := by decide +kernel
theorem d3_92 : decode prog_45_method_7_code 92 = .ok (.lushr, 1) := by decide +kernel
theorem d3_93 : decode prog_45_method_7_code 93 = .ok (.lor, 1) := by decide +kernel
theorem d3_94 : decode prog_45_method_7_code 94 = .ok (.lload 14, 2) := by decide +kernel
theorem d3_96 : decode prog_45_method_7_code 96 = .ok (.bipush 57, 2) := by decide +kernel
theorem d3_98 : decode prog_45_method_7_code 98 = .ok (.lushr, 1) := by decide +kernel
theorem d3_99 : decode prog_45_method_7_code 99 = .ok (.ladd, 1) := by decide +kernel
theorem d3_100 : decode prog_45_method_7_code 100 = .ok (.lload 16, 2) := by decide +kernel
theorem d3_102 : decode prog_45_method_7_code 102 = .ok (.bipush 57, 2) := by decide +kernel
theorem d3_104 : decode prog_45_method_7_code 104 = .ok (.lushr, 1) := by decide +kernel
theorem d3_105 : decode prog_45_method_7_code 105 = .ok (.ladd, 1) := by decide +kernel
theorem d3_106 : decode prog_45_method_7_code 106 = .ok (.lstore 6, 2) := by decide +kernel
theorem d3_108 : decode prog_45_method_7_code 108 = .ok (.iinc 9 1, 3) := by decide +kernel
theorem d3_111 : decode prog_45_method_7_code 111 = .ok (.iinc 8 1, 3) := by decide +kernel
theorem d3_114 : decode prog_45_method_7_code 114 = .ok (.goto (-92), 3) := by decide +kernel
theorem d3_117 : decode prog_45_method_7_code 117 = .ok (.lload 6, 2) := by decide +kernel
theorem d3_119 : decode prog_45_method_7_code 119 = .ok (.lconst 0, 1) := by decide +kernel
theorem d3_120 : decode prog_45_method_7_code 120 = .ok (.lcmp, 1) := by decide +kernel
theorem d3_121 : decode prog_45_method_7_code 121 = .ok (.ifCond .eq 35, 3) := by decide +kernel
theorem d3_124 : decode prog_45_method_7_code 124 = .ok (.aload_n 2, 1) := by decide +kernel
theorem d3_125 : decode prog_45_method_7_code 125 = .ok (.iload 8, 2) := by decide +kernel
theorem d3_127 : decode prog_45_method_7_code 127 = .ok (.laload, 1) := by decide +kernel
theorem d3_128 : decode prog_45_method_7_code 128 = .ok (.lload 6, 2) := by decide +kernel
theorem d3_130 : decode prog_45_method_7_code 130 = .ok (.ladd, 1) := by decide +kernel
theorem d3_131 : decode prog_45_method_7_code 131 = .ok (.lstore 9, 2) := by decide +kernel
theorem d3_133 : decode prog_45_method_7_code 133 = .ok (.aload_n 2, 1) := by decide +kernel
theorem d3_134 : decode prog_45_method_7_code 134 = .ok (.iload 8, 2) := by decide +kernel
theorem d3_136 : decode prog_45_method_7_code 136 = .ok (.lload 9, 2) := by decide +kernel
theorem d3_138 : decode prog_45_method_7_code 138 = .ok (.ldc2_w 46, 3) := by decide +kernel
theorem d3_141 : decode prog_45_method_7_code 141 = .ok (.land, 1) := by decide +kernel
theorem d3_142 : decode prog_45_method_7_code 142 = .ok (.lastore, 1) := by decide +kernel
theorem d3_143 : decode prog_45_method_7_code 143 = .ok (.lload 9, 2) := by decide +kernel
theorem d3_145 : decode prog_45_method_7_code 145 = .ok (.bipush 57, 2) := by decide +kernel
theorem d3_147 : decode prog_45_method_7_code 147 = .ok (.lushr, 1) := by decide +kernel
theorem d3_148 : decode prog_45_method_7_code 148 = .ok (.lstore 6, 2) := by decide +kernel
theorem d3_150 : decode prog_45_method_7_code 150 = .ok (.iinc 8 1, 3) := by decide +kernel
theorem d3_153 : decode prog_45_method_7_code 153 = .ok (.goto (-36), 3) := by decide +kernel
theorem d3_156 : decode prog_45_method_7_code 156 = .ok (.iinc 3 1, 3) := by decide +kernel
theorem d3_159 : decode prog_45_method_7_code 159 = .ok (.goto (-157), 3) := by decide +kernel
theorem d3_162 : decode prog_45_method_7_code 162 = .ok (.return_, 1) := by decide +kernel
theorem pn_3 : plainName "com/example/auth_token_server/authtokenserver/signing/Modulus" = true := by first | (simp [plainName, overriddenIn]; done) | decide +kernel
theorem ef_3 (m : MethodId) (r0 : Addr) (r1 : Addr) (r2 : Addr) : entryFrame m #[(.ref r0), (.ref r1), (.ref r2)] 18 = mkF m 0 #[.val (.ref r0), .val (.ref r1), .val (.ref r2), .unset, .unset, .unset, .unset, .unset, .unset, .unset, .unset, .unset, .unset, .unset, .unset, .unset, .unset, .unset] [] := by first | (simp [entryFrame, mkF, argsToLocals, Value.category]; done) | rfl
set_option maxRecDepth 65536 in
set_option maxHeartbeats 40000000 in
theorem rm3 {l : Launch} {Z : State} {a0 : Array Value} (hw : ∀ d ∈ tables_1, d.before a0 Z = true) (r0 : Addr) (r1 : Addr) (r2 : Addr) (h0 : Heap) (n0 : Nat) (hz : n0 ≤ h0.size) (g_r2 : n0 ≤ r2) (hne0 : r0 ≠ r2) (hne1 : r1 ≠ r2) (x0 x1 x2 x3 y0 y1 z0 z1 : Int64) (A_r0 : OArr Z h0 r0 .long 2 (own_l2 y0 y1)) (A_r1 : OArr Z h0 r1 .long 2 (own_l2 z0 z1)) (A_r2 : OArr Z h0 r2 .long 5 (own_l5 x0 x1 x2 x3 0)) (hx0 : 0 ≤ x0.toInt ∧ x0.toInt < 144115188075855872) (hx1 : 0 ≤ x1.toInt ∧ x1.toInt < 144115188075855872) (hx2 : 0 ≤ x2.toInt ∧ x2.toInt < 144115188075855872) (hx3 : 0 ≤ x3.toInt ∧ x3.toInt < 144115188075855872) (hy0 : 0 ≤ y0.toInt ∧ y0.toInt < 144115188075855872) (hy1 : 0 ≤ y1.toInt ∧ y1.toInt < 144115188075855872) (hz0 : 0 ≤ z0.toInt ∧ z0.toInt < 144115188075855872) (hz1 : 0 ≤ z1.toInt ∧ z1.toInt < 144115188075855872) :
    OMet l Z (⟨"com/example/auth_token_server/authtokenserver/signing/Modulus", "multiplyAdd", "([J[J[J)V"⟩ : MethodName) prog_45_method_7_code 18 none ({ frames := 1, cells := 0, slots := 0, locals := 31 } : Room) #[(.ref r0), (.ref r1), (.ref r2)] h0 n0 ({ frames := 1, cells := 0, slots := 0, locals := 31 } : Room).cells ({ frames := 1, cells := 0, slots := 0, locals := 31 } : Room).slots (fun v h => ∃ d0 d1 d2 d3 d4 : Int64, v = none ∧ Keep h0 h [r2] ∧ OArr Z h r2 .long 5 (own_l5 d0 d1 d2 d3 d4) ∧ (0 ≤ d0.toInt ∧ d0.toInt < 144115188075855872) ∧ (0 ≤ d1.toInt ∧ d1.toInt < 144115188075855872) ∧ (0 ≤ d2.toInt ∧ d2.toInt < 144115188075855872) ∧ (0 ≤ d3.toInt ∧ d3.toInt < 144115188075855872) ∧ (0 ≤ d4.toInt ∧ d4.toInt < 144115188075855872) ∧ own_val d0 d1 d2 d3 d4 = own_val x0 x1 x2 x3 0 + (y0.toInt * z0.toInt) + (y1.toInt * z0.toInt + y0.toInt * z1.toInt) * 144115188075855872 + (y1.toInt * z1.toInt) * 20769187434139310514121985316880384) := by
  refine o_body (plainFor_of_name pn_3) hz (fun m => ef_3 m r0 r1 r2) ?_
  intro p e s m below meth c s₁ G0
  have K : Keep h0 h0 [r2] := Keep.refl _ _
  have b0 : 0 ≤ (0 : Int64).toInt ∧ (0 : Int64).toInt < 144115188075855872 := by decide
  have b01 : (0 : Int64).toInt = 0 := rfl
  refine o_iconst G0 d3_0 (pc' := 1) rfl (v := (0 : Int32)) rfl ?_
  refine o_istoreN G0 d3_1 (pc' := 2) rfl (l' := #[.val (.ref r0), .val (.ref r1), .val (.ref r2), .val (.int (0 : Int32)), .unset, .unset, .unset, .unset, .unset, .unset, .unset, .unset, .unset, .unset, .unset, .unset, .unset, .unset]) rfl ?_
  refine o_iloadN G0 d3_2 (pc' := 3) rfl rfl ?_
  refine o_aloadN G0 d3_3 (pc' := 4) rfl rfl rfl ?_
  refine o_arraylength G0 A_r1 (v := (2 : Int32)) rfl d3_4 (pc' := 5) rfl ?_
  refine o_icmp_ge G0 d3_5 (by decide) (pcT := 162) (by decide) (pc' := 8) rfl (fun q => absurd (by decide) q) (fun _ => ?_)
  refine o_aloadN G0 d3_8 (pc' := 9) rfl rfl rfl ?_
  refine o_iloadN G0 d3_9 (pc' := 10) rfl rfl ?_
  refine o_laload G0 A_r1 (i := 0) rfl (by decide) (v := (.long z0)) rfl d3_10 (pc' := 11) rfl ?_
  refine o_lstore G0 d3_11 (pc' := 13) rfl (l' := #[.val (.ref r0), .val (.ref r1), .val (.ref r2), .val (.int (0 : Int32)), .val (.long z0), .second, .unset, .unset, .unset, .unset, .unset, .unset, .unset, .unset, .unset, .unset, .unset, .unset]) rfl ?_
  refine o_lconst G0 d3_13 (pc' := 14) rfl (v := (0 : Int64)) rfl ?_
  refine o_lstore G0 d3_14 (pc' := 16) rfl (l' := #[.val (.ref r0), .val (.ref r1), .val (.ref r2), .val (.int (0 : Int32)), .val (.long z0), .second, .val (.long (0 : Int64)), .second, .unset, .unset, .unset, .unset, .unset, .unset, .unset, .unset, .unset, .unset]) rfl ?_
  refine o_iloadN G0 d3_16 (pc' := 17) rfl rfl ?_
  refine o_istore G0 d3_17 (pc' := 19) rfl (l' := #[.val (.ref r0), .val (.ref r1), .val (.ref r2), .val (.int (0 : Int32)), .val (.long z0), .second, .val (.long (0 : Int64)), .second, .val (.int (0 : Int32)), .unset, .unset, .unset, .unset, .unset, .unset, .unset, .unset, .unset]) rfl ?_
  refine o_iconst G0 d3_19 (pc' := 20) rfl (v := (0 : Int32)) rfl ?_
  refine o_istore G0 d3_20 (pc' := 22) rfl (l' := #[.val (.ref r0), .val (.ref r1), .val (.ref r2), .val (.int (0 : Int32)), .val (.long z0), .second, .val (.long (0 : Int64)), .second, .val (.int (0 : Int32)), .val (.int (0 : Int32)), .unset, .unset, .unset, .unset, .unset, .unset, .unset, .unset]) rfl ?_
  refine o_iload G0 d3_22 (pc' := 24) rfl rfl ?_
  refine o_aloadN G0 d3_24 (pc' := 25) rfl rfl rfl ?_
  refine o_arraylength G0 A_r0 (v := (2 : Int32)) rfl d3_25 (pc' := 26) rfl ?_
  refine o_icmp_ge G0 d3_26 (by decide) (pcT := 117) (by decide) (pc' := 29) rfl (fun q => absurd (by decide) q) (fun _ => ?_)
  refine o_aloadN G0 d3_29 (pc' := 30) rfl rfl rfl ?_
  refine o_iload G0 d3_30 (pc' := 32) rfl rfl ?_
  refine o_laload G0 A_r0 (i := 0) rfl (by decide) (v := (.long y0)) rfl d3_32 (pc' := 33) rfl ?_
  refine o_lload G0 d3_33 (pc' := 35) rfl rfl ?_
  obtain ⟨v3, e3⟩ : ∃ z, y0 * z0 = z := ⟨_, rfl⟩
  refine o_lmul G0 d3_35 (pc' := 36) rfl e3 ?_
  refine o_lstore G0 d3_36 (pc' := 38) rfl (l' := #[.val (.ref r0), .val (.ref r1), .val (.ref r2), .val (.int (0 : Int32)), .val (.long z0), .second, .val (.long (0 : Int64)), .second, .val (.int (0 : Int32)), .val (.int (0 : Int32)), .val (.long v3), .second, .unset, .unset, .unset, .unset, .unset, .unset]) rfl ?_
  refine o_aloadN G0 d3_38 (pc' := 39) rfl rfl rfl ?_
  refine o_iload G0 d3_39 (pc' := 41) rfl rfl ?_
  refine o_laload G0 A_r0 (i := 0) rfl (by decide) (v := (.long y0)) rfl d3_41 (pc' := 42) rfl ?_
  refine o_lload G0 d3_42 (pc' := 44) rfl rfl ?_
  obtain ⟨v4, e4⟩ : ∃ z, f_4 y0 z0 = z := ⟨_, rfl⟩
  refine o_callP G0 (z := (⟨"java/lang/Math", "multiplyHigh", "(JJ)J"⟩ : MethodName)) (r := (.long v4)) (argsL := [(.long y0), (.long z0)]) (rest := []) (W := 0) (hw _ (List.mem_of_getElem? (i := 14) rfl)) (hw _ (List.mem_of_getElem? (i := 15) rfl)) d3_44 (by decide) (hw _ (List.mem_of_getElem? (i := 16) rfl)) (hw _ (List.mem_of_getElem? (i := 17) rfl)) (by rw [← e4]; exact rm4 hw y0 z0 h0 n0 G0.sz) (by decide) (by decide) rfl (lenOf pd_1 rfl) rfl (Nat.le_of_eq rfl) (pc' := 47) rfl (by decide) (by decide) ?_
  intro T5 G5
  refine o_lstore G5 d3_47 (pc' := 49) rfl (l' := #[.val (.ref r0), .val (.ref r1), .val (.ref r2), .val (.int (0 : Int32)), .val (.long z0), .second, .val (.long (0 : Int64)), .second, .val (.int (0 : Int32)), .val (.int (0 : Int32)), .val (.long v3), .second, .val (.long v4), .second, .unset, .unset, .unset, .unset]) rfl ?_
  refine o_aloadN G5 d3_49 (pc' := 50) rfl rfl rfl ?_
  refine o_iload G5 d3_50 (pc' := 52) rfl rfl ?_
  refine o_laload G5 A_r2 (i := 0) rfl (by decide) (v := (.long x0)) rfl d3_52 (pc' := 53) rfl ?_
  refine o_lload G5 d3_53 (pc' := 55) rfl rfl ?_
  refine o_ldc2 G5 d3_55 (pc' := 58) rfl (hw _ (List.mem_of_getElem? (i := 19) rfl)) ?_
  obtain ⟨v6, e6⟩ : ∃ z, v3 &&& (144115188075855871 : Int64) = z := ⟨_, rfl⟩
  refine o_land G5 d3_58 (pc' := 59) rfl e6 ?_
  obtain ⟨v7, e7⟩ : ∃ z, x0 + v6 = z := ⟨_, rfl⟩
  refine o_ladd G5 d3_59 (pc' := 60) rfl e7 ?_
  refine o_lstore G5 d3_60 (pc' := 62) rfl (l' := #[.val (.ref r0), .val (.ref r1), .val (.ref r2), .val (.int (0 : Int32)), .val (.long z0), .second, .val (.long (0 : Int64)), .second, .val (.int (0 : Int32)), .val (.int (0 : Int32)), .val (.long v3), .second, .val (.long v4), .second, .val (.long v7), .second, .unset, .unset]) rfl ?_
  refine o_lload G5 d3_62 (pc' := 64) rfl rfl ?_
  refine o_ldc2 G5 d3_64 (pc' := 67) rfl (hw _ (List.mem_of_getElem? (i := 19) rfl)) ?_
  obtain ⟨v8, e8⟩ : ∃ z, v7 &&& (144115188075855871 : Int64) = z := ⟨_, rfl⟩
  refine o_land G5 d3_67 (pc' := 68) rfl e8 ?_
  refine o_lload G5 d3_68 (pc' := 70) rfl rfl ?_
  obtain ⟨v9, e9⟩ : ∃ z, v8 + (0 : Int64) = z := ⟨_, rfl⟩
  refine o_ladd G5 d3_70 (pc' := 71) rfl e9 ?_
  refine o_lstore G5 d3_71 (pc' := 73) rfl (l' := #[.val (.ref r0), .val (.ref r1), .val (.ref r2), .val (.int (0 : Int32)), .val (.long z0), .second, .val (.long (0 : Int64)), .second, .val (.int (0 : Int32)), .val (.int (0 : Int32)), .val (.long v3), .second, .val (.long v4), .second, .val (.long v7), .second, .val (.long v9), .second]) rfl ?_
  refine o_aloadN G5 d3_73 (pc' := 74) rfl rfl rfl ?_
  refine o_iload G5 d3_74 (pc' := 76) rfl rfl ?_
  refine o_lload G5 d3_76 (pc' := 78) rfl rfl ?_
  refine o_ldc2 G5 d3_78 (pc' := 81) rfl (hw _ (List.mem_of_getElem? (i := 19) rfl)) ?_
  obtain ⟨v10, e10⟩ : ∃ z, v9 &&& (144115188075855871 : Int64) = z := ⟨_, rfl⟩
  refine o_land G5 d3_81 (pc' := 82) rfl e10 ?_
  refine o_lastore G5 A_r2 g_r2 (i := 0) rfl (by decide) d3_82 (pc' := 83) rfl ?_
  intro T11 h11 G11 W11 A11
  replace A_r0 := A_r0.other W11 hne0
  replace A_r1 := A_r1.other W11 hne1
  replace K := K.wr W11 (Or.inl (List.mem_of_getElem? (i := 0) rfl))
  replace A_r2 := A11
  refine o_lload G11 d3_83 (pc' := 85) rfl rfl ?_
  refine o_bipush G11 d3_85 (pc' := 87) rfl (v := (7 : Int32)) rfl ?_
  obtain ⟨v12, e12⟩ : ∃ z, v4 <<< ((7 : Int32) &&& 0x3f).toInt64 = z := ⟨_, rfl⟩
  refine o_lshl G11 d3_87 (pc' := 88) rfl e12 ?_
  refine o_lload G11 d3_88 (pc' := 90) rfl rfl ?_
  refine o_bipush G11 d3_90 (pc' := 92) rfl (v := (57 : Int32)) rfl ?_
  obtain ⟨v13, e13⟩ : ∃ z, (v3.toUInt64 >>> ((57 : Int32) &&& 0x3f).toInt64.toUInt64).toInt64 = z := ⟨_, rfl⟩
  refine o_lushr G11 d3_92 (pc' := 93) rfl e13 ?_
  obtain ⟨v14, e14⟩ : ∃ z, v12 ||| v13 = z := ⟨_, rfl⟩
  refine o_lor G11 d3_93 (pc' := 94) rfl e14 ?_
  refine o_lload G11 d3_94 (pc' := 96) rfl rfl ?_
  refine o_bipush G11 d3_96 (pc' := 98) rfl (v := (57 : Int32)) rfl ?_
  obtain ⟨v15, e15⟩ : ∃ z, (v7.toUInt64 >>> ((57 : Int32) &&& 0x3f).toInt64.toUInt64).toInt64 = z := ⟨_, rfl⟩
  refine o_lushr G11 d3_98 (pc' := 99) rfl e15 ?_
  obtain ⟨v16, e16⟩ : ∃ z, v14 + v15 = z := ⟨_, rfl⟩
  refine o_ladd G11 d3_99 (pc' := 100) rfl e16 ?_
  refine o_lload G11 d3_100 (pc' := 102) rfl rfl ?_
  refine o_bipush G11 d3_102 (pc' := 104) rfl (v := (57 : Int32)) rfl ?_
  obtain ⟨v17, e17⟩ : ∃ z, (v9.toUInt64 >>> ((57 : Int32) &&& 0x3f).toInt64.toUInt64).toInt64 = z := ⟨_, rfl⟩
  refine o_lushr G11 d3_104 (pc' := 105) rfl e17 ?_
  obtain ⟨v18, e18⟩ : ∃ z, v16 + v17 = z := ⟨_, rfl⟩
  refine o_ladd G11 d3_105 (pc' := 106) rfl e18 ?_
  refine o_lstore G11 d3_106 (pc' := 108) rfl (l' := #[.val (.ref r0), .val (.ref r1), .val (.ref r2), .val (.int (0 : Int32)), .val (.long z0), .second, .val (.long v18), .second, .val (.int (0 : Int32)), .val (.int (0 : Int32)), .val (.long v3), .second, .val (.long v4), .second, .val (.long v7), .second, .val (.long v9), .second]) rfl ?_
  obtain ⟨q19, br19, bc19⟩ := own_mac e3 e4 e6 e7 e8 e9 e10 e12 e13 e14 e15 e16 e17 e18 hy0 hz0 hx0 b0
  refine o_iinc G11 d3_108 (pc' := 111) rfl rfl (w := (1 : Int32)) rfl (v := (1 : Int32)) (by decide) (l' := #[.val (.ref r0), .val (.ref r1), .val (.ref r2), .val (.int (0 : Int32)), .val (.long z0), .second, .val (.long v18), .second, .val (.int (0 : Int32)), .val (.int (1 : Int32)), .val (.long v3), .second, .val (.long v4), .second, .val (.long v7), .second, .val (.long v9), .second]) rfl ?_
  refine o_iinc G11 d3_111 (pc' := 114) rfl rfl (w := (1 : Int32)) rfl (v := (1 : Int32)) (by decide) (l' := #[.val (.ref r0), .val (.ref r1), .val (.ref r2), .val (.int (0 : Int32)), .val (.long z0), .second, .val (.long v18), .second, .val (.int (1 : Int32)), .val (.int (1 : Int32)), .val (.long v3), .second, .val (.long v4), .second, .val (.long v7), .second, .val (.long v9), .second]) rfl ?_
  refine o_goto G11 d3_114 (by decide) (pc' := 22) rfl ?_
  refine o_iload G11 d3_22 (pc' := 24) rfl rfl ?_
  refine o_aloadN G11 d3_24 (pc' := 25) rfl rfl rfl ?_
  refine o_arraylength G11 A_r0 (v := (2 : Int32)) rfl d3_25 (pc' := 26) rfl ?_
  refine o_icmp_ge G11 d3_26 (by decide) (pcT := 117) (by decide) (pc' := 29) rfl (fun q => absurd (by decide) q) (fun _ => ?_)
  refine o_aloadN G11 d3_29 (pc' := 30) rfl rfl rfl ?_
  refine o_iload G11 d3_30 (pc' := 32) rfl rfl ?_
  refine o_laload G11 A_r0 (i := 1) rfl (by decide) (v := (.long y1)) rfl d3_32 (pc' := 33) rfl ?_
  refine o_lload G11 d3_33 (pc' := 35) rfl rfl ?_
  obtain ⟨v21, e21⟩ : ∃ z, y1 * z0 = z := ⟨_, rfl⟩
  refine o_lmul G11 d3_35 (pc' := 36) rfl e21 ?_
  refine o_lstore G11 d3_36 (pc' := 38) rfl (l' := #[.val (.ref r0), .val (.ref r1), .val (.ref r2), .val (.int (0 : Int32)), .val (.long z0), .second, .val (.long v18), .second, .val (.int (1 : Int32)), .val (.int (1 : Int32)), .val (.long v21), .second, .val (.long v4), .second, .val (.long v7), .second, .val (.long v9), .second]) rfl ?_
  refine o_aloadN G11 d3_38 (pc' := 39) rfl rfl rfl ?_
  refine o_iload G11 d3_39 (pc' := 41) rfl rfl ?_
  refine o_laload G11 A_r0 (i := 1) rfl (by decide) (v := (.long y1)) rfl d3_41 (pc' := 42) rfl ?_
  refine o_lload G11 d3_42 (pc' := 44) rfl rfl ?_
  obtain ⟨v22, e22⟩ : ∃ z, f_4 y1 z0 = z := ⟨_, rfl⟩
  refine o_callP G11 (z := (⟨"java/lang/Math", "multiplyHigh", "(JJ)J"⟩ : MethodName)) (r := (.long v22)) (argsL := [(.long y1), (.long z0)]) (rest := []) (W := 0) (hw _ (List.mem_of_getElem? (i := 14) rfl)) (hw _ (List.mem_of_getElem? (i := 15) rfl)) d3_44 (by decide) (hw _ (List.mem_of_getElem? (i := 16) rfl)) (hw _ (List.mem_of_getElem? (i := 17) rfl)) (by rw [← e22]; exact rm4 hw y1 z0 h11 n0 G11.sz) (by decide) (by decide) rfl (lenOf pd_1 rfl) rfl (Nat.le_of_eq rfl) (pc' := 47) rfl (by decide) (by decide) ?_
  intro T23 G23
  refine o_lstore G23 d3_47 (pc' := 49) rfl (l' := #[.val (.ref r0), .val (.ref r1), .val (.ref r2), .val (.int (0 : Int32)), .val (.long z0), .second, .val (.long v18), .second, .val (.int (1 : Int32)), .val (.int (1 : Int32)), .val (.long v21), .second, .val (.long v22), .second, .val (.long v7), .second, .val (.long v9), .second]) rfl ?_
  refine o_aloadN G23 d3_49 (pc' := 50) rfl rfl rfl ?_
  refine o_iload G23 d3_50 (pc' := 52) rfl rfl ?_
  refine o_laload G23 A_r2 (i := 1) rfl (by decide) (v := (.long x1)) rfl d3_52 (pc' := 53) rfl ?_
  refine o_lload G23 d3_53 (pc' := 55) rfl rfl ?_
  refine o_ldc2 G23 d3_55 (pc' := 58) rfl (hw _ (List.mem_of_getElem? (i := 19) rfl)) ?_
  obtain ⟨v24, e24⟩ : ∃ z, v21 &&& (144115188075855871 : Int64) = z := ⟨_, rfl⟩
  refine o_land G23 d3_58 (pc' := 59) rfl e24 ?_
  obtain ⟨v25, e25⟩ : ∃ z, x1 + v24 = z := ⟨_, rfl⟩
  refine o_ladd G23 d3_59 (pc' := 60) rfl e25 ?_
  refine o_lstore G23 d3_60 (pc' := 62) rfl (l' := #[.val (.ref r0), .val (.ref r1), .val (.ref r2), .val (.int (0 : Int32)), .val (.long z0), .second, .val (.long v18), .second, .val (.int (1 : Int32)), .val (.int (1 : Int32)), .val (.long v21), .second, .val (.long v22), .second, .val (.long v25), .second, .val (.long v9), .second]) rfl ?_
  refine o_lload G23 d3_62 (pc' := 64) rfl rfl ?_
  refine o_ldc2 G23 d3_64 (pc' := 67) rfl (hw _ (List.mem_of_getElem? (i := 19) rfl)) ?_
  obtain ⟨v26, e26⟩ : ∃ z, v25 &&& (144115188075855871 : Int64) = z := ⟨_, rfl⟩
  refine o_land G23 d3_67 (pc' := 68) rfl e26 ?_
  refine o_lload G23 d3_68 (pc' := 70) rfl rfl ?_
  obtain ⟨v27, e27⟩ : ∃ z, v26 + v18 = z := ⟨_, rfl⟩
  refine o_ladd G23 d3_70 (pc' := 71) rfl e27 ?_
  refine o_lstore G23 d3_71 (pc' := 73) rfl (l' := #[.val (.ref r0), .val (.ref r1), .val (.ref r2), .val (.int (0 : Int32)), .val (.long z0), .second, .val (.long v18), .second, .val (.int (1 : Int32)), .val (.int (1 : Int32)), .val (.long v21), .second, .val (.long v22), .second, .val (.long v25), .second, .val (.long v27), .second]) rfl ?_
  refine o_aloadN G23 d3_73 (pc' := 74) rfl rfl rfl ?_
  refine o_iload G23 d3_74 (pc' := 76) rfl rfl ?_
  refine o_lload G23 d3_76 (pc' := 78) rfl rfl ?_
  refine o_ldc2 G23 d3_78 (pc' := 81) rfl (hw _ (List.mem_of_getElem? (i := 19) rfl)) ?_
  obtain ⟨v28, e28⟩ : ∃ z, v27 &&& (144115188075855871 : Int64) = z := ⟨_, rfl⟩
  refine o_land G23 d3_81 (pc' := 82) rfl e28 ?_
  refine o_lastore G23 A_r2 g_r2 (i := 1) rfl (by decide) d3_82 (pc' := 83) rfl ?_
  intro T29 h29 G29 W29 A29
  replace A_r0 := A_r0.other W29 hne0
  replace A_r1 := A_r1.other W29 hne1
  replace K := K.wr W29 (Or.inl (List.mem_of_getElem? (i := 0) rfl))
  replace A_r2 := A29
  refine o_lload G29 d3_83 (pc' := 85) rfl rfl ?_
  refine o_bipush G29 d3_85 (pc' := 87) rfl (v := (7 : Int32)) rfl ?_
  obtain ⟨v30, e30⟩ : ∃ z, v22 <<< ((7 : Int32) &&& 0x3f).toInt64 = z := ⟨_, rfl⟩
  refine o_lshl G29 d3_87 (pc' := 88) rfl e30 ?_
  refine o_lload G29 d3_88 (pc' := 90) rfl rfl ?_
  refine o_bipush G29 d3_90 (pc' := 92) rfl (v := (57 : Int32)) rfl ?_
  obtain ⟨v31, e31⟩ : ∃ z, (v21.toUInt64 >>> ((57 : Int32) &&& 0x3f).toInt64.toUInt64).toInt64 = z := ⟨_, rfl⟩
  refine o_lushr G29 d3_92 (pc' := 93) rfl e31 ?_
  obtain ⟨v32, e32⟩ : ∃ z, v30 ||| v31 = z := ⟨_, rfl⟩
  refine o_lor G29 d3_93 (pc' := 94) rfl e32 ?_
  refine o_lload G29 d3_94 (pc' := 96) rfl rfl ?_
  refine o_bipush G29 d3_96 (pc' := 98) rfl (v := (57 : Int32)) rfl ?_
  obtain ⟨v33, e33⟩ : ∃ z, (v25.toUInt64 >>> ((57 : Int32) &&& 0x3f).toInt64.toUInt64).toInt64 = z := ⟨_, rfl⟩
  refine o_lushr G29 d3_98 (pc' := 99) rfl e33 ?_
  obtain ⟨v34, e34⟩ : ∃ z, v32 + v33 = z := ⟨_, rfl⟩
  refine o_ladd G29 d3_99 (pc' := 100) rfl e34 ?_
  refine o_lload G29 d3_100 (pc' := 102) rfl rfl ?_
  refine o_bipush G29 d3_102 (pc' := 104) rfl (v := (57 : Int32)) rfl ?_
  obtain ⟨v35, e35⟩ : ∃ z, (v27.toUInt64 >>> ((57 : Int32) &&& 0x3f).toInt64.toUInt64).toInt64 = z := ⟨_, rfl⟩
  refine o_lushr G29 d3_104 (pc' := 105) rfl e35 ?_
  obtain ⟨v36, e36⟩ : ∃ z, v34 + v35 = z := ⟨_, rfl⟩
  refine o_ladd G29 d3_105 (pc' := 106) rfl e36 ?_
  refine o_lstore G29 d3_106 (pc' := 108) rfl (l' := #[.val (.ref r0), .val (.ref r1), .val (.ref r2), .val (.int (0 : Int32)), .val (.long z0), .second, .val (.long v36), .second, .val (.int (1 : Int32)), .val (.int (1 : Int32)), .val (.long v21), .second, .val (.long v22), .second, .val (.long v25), .second, .val (.long v27), .second]) rfl ?_
  obtain ⟨q37, br37, bc37⟩ := own_mac e21 e22 e24 e25 e26 e27 e28 e30 e31 e32 e33 e34 e35 e36 hy1 hz0 hx1 bc19
  refine o_iinc G29 d3_108 (pc' := 111) rfl rfl (w := (1 : Int32)) rfl (v := (2 : Int32)) (by decide) (l' := #[.val (.ref r0), .val (.ref r1), .val (.ref r2), .val (.int (0 : Int32)), .val (.long z0), .second, .val (.long v36), .second, .val (.int (1 : Int32)), .val (.int (2 : Int32)), .val (.long v21), .second, .val (.long v22), .second, .val (.long v25), .second, .val (.long v27), .second]) rfl ?_
  refine o_iinc G29 d3_111 (pc' := 114) rfl rfl (w := (1 : Int32)) rfl (v := (2 : Int32)) (by decide) (l' := #[.val (.ref r0), .val (.ref r1), .val (.ref r2), .val (.int (0 : Int32)), .val (.long z0), .second, .val (.long v36), .second, .val (.int (2 : Int32)), .val (.int (2 : Int32)), .val (.long v21), .second, .val (.long v22), .second, .val (.long v25), .second, .val (.long v27), .second]) rfl ?_
  refine o_goto G29 d3_114 (by decide) (pc' := 22) rfl ?_
  refine o_iload G29 d3_22 (pc' := 24) rfl rfl ?_
  refine o_aloadN G29 d3_24 (pc' := 25) rfl rfl rfl ?_
  refine o_arraylength G29 A_r0 (v := (2 : Int32)) rfl d3_25 (pc' := 26) rfl ?_
  refine o_icmp_ge G29 d3_26 (by decide) (pcT := 117) (by decide) (pc' := 29) rfl (fun _ => ?_) (fun q => absurd q (by decide))
  refine o_lload G29 d3_117 (pc' := 119) rfl rfl ?_
  refine o_lconst G29 d3_119 (pc' := 120) rfl (v := (0 : Int64)) rfl ?_
  refine o_lcmp_eq G29 d3_120 (pc1 := 121) rfl d3_121 (by decide) (pcT := 156) (by decide) (pc' := 124) rfl (fun hc39 => ?_) (fun hc39 => ?_)
  · refine o_iinc G29 d3_156 (pc' := 159) rfl rfl (w := (1 : Int32)) rfl (v := (1 : Int32)) (by decide) (l' := #[.val (.ref r0), .val (.ref r1), .val (.ref r2), .val (.int (1 : Int32)), .val (.long z0), .second, .val (.long v36), .second, .val (.int (2 : Int32)), .val (.int (2 : Int32)), .val (.long v21), .second, .val (.long v22), .second, .val (.long v25), .second, .val (.long v27), .second]) rfl ?_
    refine o_goto G29 d3_159 (by decide) (pc' := 2) rfl ?_
    refine o_iloadN G29 d3_2 (pc' := 3) rfl rfl ?_
    refine o_aloadN G29 d3_3 (pc' := 4) rfl rfl rfl ?_
    refine o_arraylength G29 A_r1 (v := (2 : Int32)) rfl d3_4 (pc' := 5) rfl ?_
    refine o_icmp_ge G29 d3_5 (by decide) (pcT := 162) (by decide) (pc' := 8) rfl (fun q => absurd (by decide) q) (fun _ => ?_)
    refine o_aloadN G29 d3_8 (pc' := 9) rfl rfl rfl ?_
    refine o_iloadN G29 d3_9 (pc' := 10) rfl rfl ?_
    refine o_laload G29 A_r1 (i := 1) rfl (by decide) (v := (.long z1)) rfl d3_10 (pc' := 11) rfl ?_
    refine o_lstore G29 d3_11 (pc' := 13) rfl (l' := #[.val (.ref r0), .val (.ref r1), .val (.ref r2), .val (.int (1 : Int32)), .val (.long z1), .second, .val (.long v36), .second, .val (.int (2 : Int32)), .val (.int (2 : Int32)), .val (.long v21), .second, .val (.long v22), .second, .val (.long v25), .second, .val (.long v27), .second]) rfl ?_
    refine o_lconst G29 d3_13 (pc' := 14) rfl (v := (0 : Int64)) rfl ?_
    refine o_lstore G29 d3_14 (pc' := 16) rfl (l' := #[.val (.ref r0), .val (.ref r1), .val (.ref r2), .val (.int (1 : Int32)), .val (.long z1), .second, .val (.long (0 : Int64)), .second, .val (.int (2 : Int32)), .val (.int (2 : Int32)), .val (.long v21), .second, .val (.long v22), .second, .val (.long v25), .second, .val (.long v27), .second]) rfl ?_
    refine o_iloadN G29 d3_16 (pc' := 17) rfl rfl ?_
    refine o_istore G29 d3_17 (pc' := 19) rfl (l' := #[.val (.ref r0), .val (.ref r1), .val (.ref r2), .val (.int (1 : Int32)), .val (.long z1), .second, .val (.long (0 : Int64)), .second, .val (.int (1 : Int32)), .val (.int (2 : Int32)), .val (.long v21), .second, .val (.long v22), .second, .val (.long v25), .second, .val (.long v27), .second]) rfl ?_
    refine o_iconst G29 d3_19 (pc' := 20) rfl (v := (0 : Int32)) rfl ?_
    refine o_istore G29 d3_20 (pc' := 22) rfl (l' := #[.val (.ref r0), .val (.ref r1), .val (.ref r2), .val (.int (1 : Int32)), .val (.long z1), .second, .val (.long (0 : Int64)), .second, .val (.int (1 : Int32)), .val (.int (0 : Int32)), .val (.long v21), .second, .val (.long v22), .second, .val (.long v25), .second, .val (.long v27), .second]) rfl ?_
    refine o_iload G29 d3_22 (pc' := 24) rfl rfl ?_
    refine o_aloadN G29 d3_24 (pc' := 25) rfl rfl rfl ?_
    refine o_arraylength G29 A_r0 (v := (2 : Int32)) rfl d3_25 (pc' := 26) rfl ?_
    refine o_icmp_ge G29 d3_26 (by decide) (pcT := 117) (by decide) (pc' := 29) rfl (fun q => absurd (by decide) q) (fun _ => ?_)
    refine o_aloadN G29 d3_29 (pc' := 30) rfl rfl rfl ?_
    refine o_iload G29 d3_30 (pc' := 32) rfl rfl ?_
    refine o_laload G29 A_r0 (i := 0) rfl (by decide) (v := (.long y0)) rfl d3_32 (pc' := 33) rfl ?_
    refine o_lload G29 d3_33 (pc' := 35) rfl rfl ?_
    obtain ⟨v42, e42⟩ : ∃ z, y0 * z1 = z := ⟨_, rfl⟩
    refine o_lmul G29 d3_35 (pc' := 36) rfl e42 ?_
    refine o_lstore G29 d3_36 (pc' := 38) rfl (l' := #[.val (.ref r0), .val (.ref r1), .val (.ref r2), .val (.int (1 : Int32)), .val (.long z1), .second, .val (.long (0 : Int64)), .second, .val (.int (1 : Int32)), .val (.int (0 : Int32)), .val (.long v42), .second, .val (.long v22), .second, .val (.long v25), .second, .val (.long v27), .second]) rfl ?_
    refine o_aloadN G29 d3_38 (pc' := 39) rfl rfl rfl ?_
    refine o_iload G29 d3_39 (pc' := 41) rfl rfl ?_
    refine o_laload G29 A_r0 (i := 0) rfl (by decide) (v := (.long y0)) rfl d3_41 (pc' := 42) rfl ?_
    refine o_lload G29 d3_42 (pc' := 44) rfl rfl ?_
    obtain ⟨v43, e43⟩ : ∃ z, f_4 y0 z1 = z := ⟨_, rfl⟩
    refine o_callP G29 (z := (⟨"java/lang/Math", "multiplyHigh", "(JJ)J"⟩ : MethodName)) (r := (.long v43)) (argsL := [(.long y0), (.long z1)]) (rest := []) (W := 0) (hw _ (List.mem_of_getElem? (i := 14) rfl)) (hw _ (List.mem_of_getElem? (i := 15) rfl)) d3_44 (by decide) (hw _ (List.mem_of_getElem? (i := 16) rfl)) (hw _ (List.mem_of_getElem? (i := 17) rfl)) (by rw [← e43]; exact rm4 hw y0 z1 h29 n0 G29.sz) (by decide) (by decide) rfl (lenOf pd_1 rfl) rfl (Nat.le_of_eq rfl) (pc' := 47) rfl (by decide) (by decide) ?_
    intro T44 G44
    refine o_lstore G44 d3_47 (pc' := 49) rfl (l' := #[.val (.ref r0), .val (.ref r1), .val (.ref r2), .val (.int (1 : Int32)), .val (.long z1), .second, .val (.long (0 : Int64)), .second, .val (.int (1 : Int32)), .val (.int (0 : Int32)), .val (.long v42), .second, .val (.long v43), .second, .val (.long v25), .second, .val (.long v27), .second]) rfl ?_
    refine o_aloadN G44 d3_49 (pc' := 50) rfl rfl rfl ?_
    refine o_iload G44 d3_50 (pc' := 52) rfl rfl ?_
    refine o_laload G44 A_r2 (i := 1) rfl (by decide) (v := (.long v28)) rfl d3_52 (pc' := 53) rfl ?_
    refine o_lload G44 d3_53 (pc' := 55) rfl rfl ?_
    refine o_ldc2 G44 d3_55 (pc' := 58) rfl (hw _ (List.mem_of_getElem? (i := 19) rfl)) ?_
    obtain ⟨v45, e45⟩ : ∃ z, v42 &&& (144115188075855871 : Int64) = z := ⟨_, rfl⟩
    refine o_land G44 d3_58 (pc' := 59) rfl e45 ?_
    obtain ⟨v46, e46⟩ : ∃ z, v28 + v45 = z := ⟨_, rfl⟩
    refine o_ladd G44 d3_59 (pc' := 60) rfl e46 ?_
    refine o_lstore G44 d3_60 (pc' := 62) rfl (l' := #[.val (.ref r0), .val (.ref r1), .val (.ref r2), .val (.int (1 : Int32)), .val (.long z1), .second, .val (.long (0 : Int64)), .second, .val (.int (1 : Int32)), .val (.int (0 : Int32)), .val (.long v42), .second, .val (.long v43), .second, .val (.long v46), .second, .val (.long v27), .second]) rfl ?_
    refine o_lload G44 d3_62 (pc' := 64) rfl rfl ?_
    refine o_ldc2 G44 d3_64 (pc' := 67) rfl (hw _ (List.mem_of_getElem? (i := 19) rfl)) ?_
    obtain ⟨v47, e47⟩ : ∃ z, v46 &&& (144115188075855871 : Int64) = z := ⟨_, rfl⟩
    refine o_land G44 d3_67 (pc' := 68) rfl e47 ?_
    refine o_lload G44 d3_68 (pc' := 70) rfl rfl ?_
    obtain ⟨v48, e48⟩ : ∃ z, v47 + (0 : Int64) = z := ⟨_, rfl⟩
    refine o_ladd G44 d3_70 (pc' := 71) rfl e48 ?_
    refine o_lstore G44 d3_71 (pc' := 73) rfl (l' := #[.val (.ref r0), .val (.ref r1), .val (.ref r2), .val (.int (1 : Int32)), .val (.long z1), .second, .val (.long (0 : Int64)), .second, .val (.int (1 : Int32)), .val (.int (0 : Int32)), .val (.long v42), .second, .val (.long v43), .second, .val (.long v46), .second, .val (.long v48), .second]) rfl ?_
    refine o_aloadN G44 d3_73 (pc' := 74) rfl rfl rfl ?_
    refine o_iload G44 d3_74 (pc' := 76) rfl rfl ?_
    refine o_lload G44 d3_76 (pc' := 78) rfl rfl ?_
    refine o_ldc2 G44 d3_78 (pc' := 81) rfl (hw _ (List.mem_of_getElem? (i := 19) rfl)) ?_
    obtain ⟨v49, e49⟩ : ∃ z, v48 &&& (144115188075855871 : Int64) = z := ⟨_, rfl⟩
    refine o_land G44 d3_81 (pc' := 82) rfl e49 ?_
    refine o_lastore G44 A_r2 g_r2 (i := 1) rfl (by decide) d3_82 (pc' := 83) rfl ?_
    intro T50 h50 G50 W50 A50
    replace A_r0 := A_r0.other W50 hne0
    replace A_r1 := A_r1.other W50 hne1
    replace K := K.wr W50 (Or.inl (List.mem_of_getElem? (i := 0) rfl))
    replace A_r2 := A50
    refine o_lload G50 d3_83 (pc' := 85) rfl rfl ?_
    refine o_bipush G50 d3_85 (pc' := 87) rfl (v := (7 : Int32)) rfl ?_
    obtain ⟨v51, e51⟩ : ∃ z, v43 <<< ((7 : Int32) &&& 0x3f).toInt64 = z := ⟨_, rfl⟩
    refine o_lshl G50 d3_87 (pc' := 88) rfl e51 ?_
    refine o_lload G50 d3_88 (pc' := 90) rfl rfl ?_
    refine o_bipush G50 d3_90 (pc' := 92) rfl (v := (57 : Int32)) rfl ?_
    obtain ⟨v52, e52⟩ : ∃ z, (v42.toUInt64 >>> ((57 : Int32) &&& 0x3f).toInt64.toUInt64).toInt64 = z := ⟨_, rfl⟩
    refine o_lushr G50 d3_92 (pc' := 93) rfl e52 ?_
    obtain ⟨v53, e53⟩ : ∃ z, v51 ||| v52 = z := ⟨_, rfl⟩
    refine o_lor G50 d3_93 (pc' := 94) rfl e53 ?_
    refine o_lload G50 d3_94 (pc' := 96) rfl rfl ?_
    refine o_bipush G50 d3_96 (pc' := 98) rfl (v := (57 : Int32)) rfl ?_
    obtain ⟨v54, e54⟩ : ∃ z, (v46.toUInt64 >>> ((57 : Int32) &&& 0x3f).toInt64.toUInt64).toInt64 = z := ⟨_, rfl⟩
    refine o_lushr G50 d3_98 (pc' := 99) rfl e54 ?_
    obtain ⟨v55, e55⟩ : ∃ z, v53 + v54 = z := ⟨_, rfl⟩
    refine o_ladd G50 d3_99 (pc' := 100) rfl e55 ?_
    refine o_lload G50 d3_100 (pc' := 102) rfl rfl ?_
    refine o_bipush G50 d3_102 (pc' := 104) rfl (v := (57 : Int32)) rfl ?_
    obtain ⟨v56, e56⟩ : ∃ z, (v48.toUInt64 >>> ((57 : Int32) &&& 0x3f).toInt64.toUInt64).toInt64 = z := ⟨_, rfl⟩
    refine o_lushr G50 d3_104 (pc' := 105) rfl e56 ?_
    obtain ⟨v57, e57⟩ : ∃ z, v55 + v56 = z := ⟨_, rfl⟩
    refine o_ladd G50 d3_105 (pc' := 106) rfl e57 ?_
    refine o_lstore G50 d3_106 (pc' := 108) rfl (l' := #[.val (.ref r0), .val (.ref r1), .val (.ref r2), .val (.int (1 : Int32)), .val (.long z1), .second, .val (.long v57), .second, .val (.int (1 : Int32)), .val (.int (0 : Int32)), .val (.long v42), .second, .val (.long v43), .second, .val (.long v46), .second, .val (.long v48), .second]) rfl ?_
    obtain ⟨q58, br58, bc58⟩ := own_mac e42 e43 e45 e46 e47 e48 e49 e51 e52 e53 e54 e55 e56 e57 hy0 hz1 br37 b0
    refine o_iinc G50 d3_108 (pc' := 111) rfl rfl (w := (1 : Int32)) rfl (v := (1 : Int32)) (by decide) (l' := #[.val (.ref r0), .val (.ref r1), .val (.ref r2), .val (.int (1 : Int32)), .val (.long z1), .second, .val (.long v57), .second, .val (.int (1 : Int32)), .val (.int (1 : Int32)), .val (.long v42), .second, .val (.long v43), .second, .val (.long v46), .second, .val (.long v48), .second]) rfl ?_
    refine o_iinc G50 d3_111 (pc' := 114) rfl rfl (w := (1 : Int32)) rfl (v := (2 : Int32)) (by decide) (l' := #[.val (.ref r0), .val (.ref r1), .val (.ref r2), .val (.int (1 : Int32)), .val (.long z1), .second, .val (.long v57), .second, .val (.int (2 : Int32)), .val (.int (1 : Int32)), .val (.long v42), .second, .val (.long v43), .second, .val (.long v46), .second, .val (.long v48), .second]) rfl ?_
    refine o_goto G50 d3_114 (by decide) (pc' := 22) rfl ?_
    refine o_iload G50 d3_22 (pc' := 24) rfl rfl ?_
    refine o_aloadN G50 d3_24 (pc' := 25) rfl rfl rfl ?_
    refine o_arraylength G50 A_r0 (v := (2 : Int32)) rfl d3_25 (pc' := 26) rfl ?_
    refine o_icmp_ge G50 d3_26 (by decide) (pcT := 117) (by decide) (pc' := 29) rfl (fun q => absurd (by decide) q) (fun _ => ?_)
    refine o_aloadN G50 d3_29 (pc' := 30) rfl rfl rfl ?_
    refine o_iload G50 d3_30 (pc' := 32) rfl rfl ?_
    refine o_laload G50 A_r0 (i := 1) rfl (by decide) (v := (.long y1)) rfl d3_32 (pc' := 33) rfl ?_
    refine o_lload G50 d3_33 (pc' := 35) rfl rfl ?_
    obtain ⟨v60, e60⟩ : ∃ z, y1 * z1 = z := ⟨_, rfl⟩
    refine o_lmul G50 d3_35 (pc' := 36) rfl e60 ?_
    refine o_lstore G50 d3_36 (pc' := 38) rfl (l' := #[.val (.ref r0), .val (.ref r1), .val (.ref r2), .val (.int (1 : Int32)), .val (.long z1), .second, .val (.long v57), .second, .val (.int (2 : Int32)), .val (.int (1 : Int32)), .val (.long v60), .second, .val (.long v43), .second, .val (.long v46), .second, .val (.long v48), .second]) rfl ?_
    refine o_aloadN G50 d3_38 (pc' := 39) rfl rfl rfl ?_
    refine o_iload G50 d3_39 (pc' := 41) rfl rfl ?_
    refine o_laload G50 A_r0 (i := 1) rfl (by decide) (v := (.long y1)) rfl d3_41 (pc' := 42) rfl ?_
    refine o_lload G50 d3_42 (pc' := 44) rfl rfl ?_
    obtain ⟨v61, e61⟩ : ∃ z, f_4 y1 z1 = z := ⟨_, rfl⟩
    refine o_callP G50 (z := (⟨"java/lang/Math", "multiplyHigh", "(JJ)J"⟩ : MethodName)) (r := (.long v61)) (argsL := [(.long y1), (.long z1)]) (rest := []) (W := 0) (hw _ (List.mem_of_getElem? (i := 14) rfl)) (hw _ (List.mem_of_getElem? (i := 15) rfl)) d3_44 (by decide) (hw _ (List.mem_of_getElem? (i := 16) rfl)) (hw _ (List.mem_of_getElem? (i := 17) rfl)) (by rw [← e61]; exact rm4 hw y1 z1 h50 n0 G50.sz) (by decide) (by decide) rfl (lenOf pd_1 rfl) rfl (Nat.le_of_eq rfl) (pc' := 47) rfl (by decide) (by decide) ?_
    intro T62 G62
    refine o_lstore G62 d3_47 (pc' := 49) rfl (l' := #[.val (.ref r0), .val (.ref r1), .val (.ref r2), .val (.int (1 : Int32)), .val (.long z1), .second, .val (.long v57), .second, .val (.int (2 : Int32)), .val (.int (1 : Int32)), .val (.long v60), .second, .val (.long v61), .second, .val (.long v46), .second, .val (.long v48), .second]) rfl ?_
    refine o_aloadN G62 d3_49 (pc' := 50) rfl rfl rfl ?_
    refine o_iload G62 d3_50 (pc' := 52) rfl rfl ?_
    refine o_laload G62 A_r2 (i := 2) rfl (by decide) (v := (.long x2)) rfl d3_52 (pc' := 53) rfl ?_
    refine o_lload G62 d3_53 (pc' := 55) rfl rfl ?_
    refine o_ldc2 G62 d3_55 (pc' := 58) rfl (hw _ (List.mem_of_getElem? (i := 19) rfl)) ?_
    obtain ⟨v63, e63⟩ : ∃ z, v60 &&& (144115188075855871 : Int64) = z := ⟨_, rfl⟩
    refine o_land G62 d3_58 (pc' := 59) rfl e63 ?_
    obtain ⟨v64, e64⟩ : ∃ z, x2 + v63 = z := ⟨_, rfl⟩
    refine o_ladd G62 d3_59 (pc' := 60) rfl e64 ?_
    refine o_lstore G62 d3_60 (pc' := 62) rfl (l' := #[.val (.ref r0), .val (.ref r1), .val (.ref r2), .val (.int (1 : Int32)), .val (.long z1), .second, .val (.long v57), .second, .val (.int (2 : Int32)), .val (.int (1 : Int32)), .val (.long v60), .second, .val (.long v61), .second, .val (.long v64), .second, .val (.long v48), .second]) rfl ?_
    refine o_lload G62 d3_62 (pc' := 64) rfl rfl ?_
    refine o_ldc2 G62 d3_64 (pc' := 67) rfl (hw _ (List.mem_of_getElem? (i := 19) rfl)) ?_
    obtain ⟨v65, e65⟩ : ∃ z, v64 &&& (144115188075855871 : Int64) = z := ⟨_, rfl⟩
    refine o_land G62 d3_67 (pc' := 68) rfl e65 ?_
    refine o_lload G62 d3_68 (pc' := 70) rfl rfl ?_
    obtain ⟨v66, e66⟩ : ∃ z, v65 + v57 = z := ⟨_, rfl⟩
    refine o_ladd G62 d3_70 (pc' := 71) rfl e66 ?_
    refine o_lstore G62 d3_71 (pc' := 73) rfl (l' := #[.val (.ref r0), .val (.ref r1), .val (.ref r2), .val (.int (1 : Int32)), .val (.long z1), .second, .val (.long v57), .second, .val (.int (2 : Int32)), .val (.int (1 : Int32)), .val (.long v60), .second, .val (.long v61), .second, .val (.long v64), .second, .val (.long v66), .second]) rfl ?_
    refine o_aloadN G62 d3_73 (pc' := 74) rfl rfl rfl ?_
    refine o_iload G62 d3_74 (pc' := 76) rfl rfl ?_
    refine o_lload G62 d3_76 (pc' := 78) rfl rfl ?_
    refine o_ldc2 G62 d3_78 (pc' := 81) rfl (hw _ (List.mem_of_getElem? (i := 19) rfl)) ?_
    obtain ⟨v67, e67⟩ : ∃ z, v66 &&& (144115188075855871 : Int64) = z := ⟨_, rfl⟩
    refine o_land G62 d3_81 (pc' := 82) rfl e67 ?_
    refine o_lastore G62 A_r2 g_r2 (i := 2) rfl (by decide) d3_82 (pc' := 83) rfl ?_
    intro T68 h68 G68 W68 A68
    replace A_r0 := A_r0.other W68 hne0
    replace A_r1 := A_r1.other W68 hne1
    replace K := K.wr W68 (Or.inl (List.mem_of_getElem? (i := 0) rfl))
    replace A_r2 := A68
    refine o_lload G68 d3_83 (pc' := 85) rfl rfl ?_
    refine o_bipush G68 d3_85 (pc' := 87) rfl (v := (7 : Int32)) rfl ?_
    obtain ⟨v69, e69⟩ : ∃ z, v61 <<< ((7 : Int32) &&& 0x3f).toInt64 = z := ⟨_, rfl⟩
    refine o_lshl G68 d3_87 (pc' := 88) rfl e69 ?_
    refine o_lload G68 d3_88 (pc' := 90) rfl rfl ?_
    refine o_bipush G68 d3_90 (pc' := 92) rfl (v := (57 : Int32)) rfl ?_
    obtain ⟨v70, e70⟩ : ∃ z, (v60.toUInt64 >>> ((57 : Int32) &&& 0x3f).toInt64.toUInt64).toInt64 = z := ⟨_, rfl⟩
    refine o_lushr G68 d3_92 (pc' := 93) rfl e70 ?_
    obtain ⟨v71, e71⟩ : ∃ z, v69 ||| v70 = z := ⟨_, rfl⟩
    refine o_lor G68 d3_93 (pc' := 94) rfl e71 ?_
    refine o_lload G68 d3_94 (pc' := 96) rfl rfl ?_
    refine o_bipush G68 d3_96 (pc' := 98) rfl (v := (57 : Int32)) rfl ?_
    obtain ⟨v72, e72⟩ : ∃ z, (v64.toUInt64 >>> ((57 : Int32) &&& 0x3f).toInt64.toUInt64).toInt64 = z := ⟨_, rfl⟩
    refine o_lushr G68 d3_98 (pc' := 99) rfl e72 ?_
    obtain ⟨v73, e73⟩ : ∃ z, v71 + v72 = z := ⟨_, rfl⟩
    refine o_ladd G68 d3_99 (pc' := 100) rfl e73 ?_
    refine o_lload G68 d3_100 (pc' := 102) rfl rfl ?_
    refine o_bipush G68 d3_102 (pc' := 104) rfl (v := (57 : Int32)) rfl ?_
    obtain ⟨v74, e74⟩ : ∃ z, (v66.toUInt64 >>> ((57 : Int32) &&& 0x3f).toInt64.toUInt64).toInt64 = z := ⟨_, rfl⟩
    refine o_lushr G68 d3_104 (pc' := 105) rfl e74 ?_
    obtain ⟨v75, e75⟩ : ∃ z, v73 + v74 = z := ⟨_, rfl⟩
    refine o_ladd G68 d3_105 (pc' := 106) rfl e75 ?_
    refine o_lstore G68 d3_106 (pc' := 108) rfl (l' := #[.val (.ref r0), .val (.ref r1), .val (.ref r2), .val (.int (1 : Int32)), .val (.long z1), .second, .val (.long v75), .second, .val (.int (2 : Int32)), .val (.int (1 : Int32)), .val (.long v60), .second, .val (.long v61), .second, .val (.long v64), .second, .val (.long v66), .second]) rfl ?_
    obtain ⟨q76, br76, bc76⟩ := own_mac e60 e61 e63 e64 e65 e66 e67 e69 e70 e71 e72 e73 e74 e75 hy1 hz1 hx2 bc58
    refine o_iinc G68 d3_108 (pc' := 111) rfl rfl (w := (1 : Int32)) rfl (v := (2 : Int32)) (by decide) (l' := #[.val (.ref r0), .val (.ref r1), .val (.ref r2), .val (.int (1 : Int32)), .val (.long z1), .second, .val (.long v75), .second, .val (.int (2 : Int32)), .val (.int (2 : Int32)), .val (.long v60), .second, .val (.long v61), .second, .val (.long v64), .second, .val (.long v66), .second]) rfl ?_
    refine o_iinc G68 d3_111 (pc' := 114) rfl rfl (w := (1 : Int32)) rfl (v := (3 : Int32)) (by decide) (l' := #[.val (.ref r0), .val (.ref r1), .val (.ref r2), .val (.int (1 : Int32)), .val (.long z1), .second, .val (.long v75), .second, .val (.int (3 : Int32)), .val (.int (2 : Int32)), .val (.long v60), .second, .val (.long v61), .second, .val (.long v64), .second, .val (.long v66), .second]) rfl ?_
    refine o_goto G68 d3_114 (by decide) (pc' := 22) rfl ?_
    refine o_iload G68 d3_22 (pc' := 24) rfl rfl ?_
    refine o_aloadN G68 d3_24 (pc' := 25) rfl rfl rfl ?_
    refine o_arraylength G68 A_r0 (v := (2 : Int32)) rfl d3_25 (pc' := 26) rfl ?_
    refine o_icmp_ge G68 d3_26 (by decide) (pcT := 117) (by decide) (pc' := 29) rfl (fun _ => ?_) (fun q => absurd q (by decide))
    refine o_lload G68 d3_117 (pc' := 119) rfl rfl ?_
    refine o_lconst G68 d3_119 (pc' := 120) rfl (v := (0 : Int64)) rfl ?_
    refine o_lcmp_eq G68 d3_120 (pc1 := 121) rfl d3_121 (by decide) (pcT := 156) (by decide) (pc' := 124) rfl (fun hc78 => ?_) (fun hc78 => ?_)
    · refine o_iinc G68 d3_156 (pc' := 159) rfl rfl (w := (1 : Int32)) rfl (v := (2 : Int32)) (by decide) (l' := #[.val (.ref r0), .val (.ref r1), .val (.ref r2), .val (.int (2 : Int32)), .val (.long z1), .second, .val (.long v75), .second, .val (.int (3 : Int32)), .val (.int (2 : Int32)), .val (.long v60), .second, .val (.long v61), .second, .val (.long v64), .second, .val (.long v66), .second]) rfl ?_
      refine o_goto G68 d3_159 (by decide) (pc' := 2) rfl ?_
      refine o_iloadN G68 d3_2 (pc' := 3) rfl rfl ?_
      refine o_aloadN G68 d3_3 (pc' := 4) rfl rfl rfl ?_
      refine o_arraylength G68 A_r1 (v := (2 : Int32)) rfl d3_4 (pc' := 5) rfl ?_
      refine o_icmp_ge G68 d3_5 (by decide) (pcT := 162) (by decide) (pc' := 8) rfl (fun _ => ?_) (fun q => absurd q (by decide))
      have zhc39 := congrArg Int64.toInt hc39
      have zhc78 := congrArg Int64.toInt hc78
      refine o_return G68 d3_162 ⟨v10, v49, v67, x3, (0 : Int64), rfl, K, A_r2.congr (fun j hj => ?_), br19, br58, br76, hx3, b0, ?_⟩ (by decide) (by decide)
      · match j, hj with
        | 0, _ => rfl
        | 1, _ => rfl
        | 2, _ => rfl
        | 3, _ => rfl
        | 4, _ => rfl
        | j + 5, hj => omega
      · simp only [own_val]
        omega
    · refine o_aloadN G68 d3_124 (pc' := 125) rfl rfl rfl ?_
      refine o_iload G68 d3_125 (pc' := 127) rfl rfl ?_
      refine o_laload G68 A_r2 (i := 3) rfl (by decide) (v := (.long x3)) rfl d3_127 (pc' := 128) rfl ?_
      refine o_lload G68 d3_128 (pc' := 130) rfl rfl ?_
      obtain ⟨v80, e80⟩ : ∃ z, x3 + v75 = z := ⟨_, rfl⟩
      refine o_ladd G68 d3_130 (pc' := 131) rfl e80 ?_
      refine o_lstore G68 d3_131 (pc' := 133) rfl (l' := #[.val (.ref r0), .val (.ref r1), .val (.ref r2), .val (.int (1 : Int32)), .val (.long z1), .second, .val (.long v75), .second, .val (.int (3 : Int32)), .val (.long v80), .second, .unset, .val (.long v61), .second, .val (.long v64), .second, .val (.long v66), .second]) rfl ?_
      refine o_aloadN G68 d3_133 (pc' := 134) rfl rfl rfl ?_
      refine o_iload G68 d3_134 (pc' := 136) rfl rfl ?_
      refine o_lload G68 d3_136 (pc' := 138) rfl rfl ?_
      refine o_ldc2 G68 d3_138 (pc' := 141) rfl (hw _ (List.mem_of_getElem? (i := 19) rfl)) ?_
      obtain ⟨v81, e81⟩ : ∃ z, v80 &&& (144115188075855871 : Int64) = z := ⟨_, rfl⟩
      refine o_land G68 d3_141 (pc' := 142) rfl e81 ?_
      refine o_lastore G68 A_r2 g_r2 (i := 3) rfl (by decide) d3_142 (pc' := 143) rfl ?_
      intro T82 h82 G82 W82 A82
      replace A_r0 := A_r0.other W82 hne0
      replace A_r1 := A_r1.other W82 hne1
      replace K := K.wr W82 (Or.inl (List.mem_of_getElem? (i := 0) rfl))
      replace A_r2 := A82
      refine o_lload G82 d3_143 (pc' := 145) rfl rfl ?_
      refine o_bipush G82 d3_145 (pc' := 147) rfl (v := (57 : Int32)) rfl ?_
      obtain ⟨v83, e83⟩ : ∃ z, (v80.toUInt64 >>> ((57 : Int32) &&& 0x3f).toInt64.toUInt64).toInt64 = z := ⟨_, rfl⟩
      refine o_lushr G82 d3_147 (pc' := 148) rfl e83 ?_
      refine o_lstore G82 d3_148 (pc' := 150) rfl (l' := #[.val (.ref r0), .val (.ref r1), .val (.ref r2), .val (.int (1 : Int32)), .val (.long z1), .second, .val (.long v83), .second, .val (.int (3 : Int32)), .val (.long v80), .second, .unset, .val (.long v61), .second, .val (.long v64), .second, .val (.long v66), .second]) rfl ?_
      obtain ⟨q84, br84, bc84⟩ := own_prop e80 e81 e83 hx3 bc76
      refine o_iinc G82 d3_150 (pc' := 153) rfl rfl (w := (1 : Int32)) rfl (v := (4 : Int32)) (by decide) (l' := #[.val (.ref r0), .val (.ref r1), .val (.ref r2), .val (.int (1 : Int32)), .val (.long z1), .second, .val (.long v83), .second, .val (.int (4 : Int32)), .val (.long v80), .second, .unset, .val (.long v61), .second, .val (.long v64), .second, .val (.long v66), .second]) rfl ?_
      refine o_goto G82 d3_153 (by decide) (pc' := 117) rfl ?_
      refine o_lload G82 d3_117 (pc' := 119) rfl rfl ?_
      refine o_lconst G82 d3_119 (pc' := 120) rfl (v := (0 : Int64)) rfl ?_
      refine o_lcmp_eq G82 d3_120 (pc1 := 121) rfl d3_121 (by decide) (pcT := 156) (by decide) (pc' := 124) rfl (fun hc85 => ?_) (fun hc85 => ?_)
      · refine o_iinc G82 d3_156 (pc' := 159) rfl rfl (w := (1 : Int32)) rfl (v := (2 : Int32)) (by decide) (l' := #[.val (.ref r0), .val (.ref r1), .val (.ref r2), .val (.int (2 : Int32)), .val (.long z1), .second, .val (.long v83), .second, .val (.int (4 : Int32)), .val (.long v80), .second, .unset, .val (.long v61), .second, .val (.long v64), .second, .val (.long v66), .second]) rfl ?_
        refine o_goto G82 d3_159 (by decide) (pc' := 2) rfl ?_
        refine o_iloadN G82 d3_2 (pc' := 3) rfl rfl ?_
        refine o_aloadN G82 d3_3 (pc' := 4) rfl rfl rfl ?_
        refine o_arraylength G82 A_r1 (v := (2 : Int32)) rfl d3_4 (pc' := 5) rfl ?_
        refine o_icmp_ge G82 d3_5 (by decide) (pcT := 162) (by decide) (pc' := 8) rfl (fun _ => ?_) (fun q => absurd q (by decide))
        have zhc39 := congrArg Int64.toInt hc39
        have zhc85 := congrArg Int64.toInt hc85
        refine o_return G82 d3_162 ⟨v10, v49, v67, v81, (0 : Int64), rfl, K, A_r2.congr (fun j hj => ?_), br19, br58, br76, br84, b0, ?_⟩ (by decide) (by decide)
        · match j, hj with
          | 0, _ => rfl
          | 1, _ => rfl
          | 2, _ => rfl
          | 3, _ => rfl
          | 4, _ => rfl
          | j + 5, hj => omega
        · simp only [own_val]
          omega
      · refine o_aloadN G82 d3_124 (pc' := 125) rfl rfl rfl ?_
        refine o_iload G82 d3_125 (pc' := 127) rfl rfl ?_
        refine o_laload G82 A_r2 (i := 4) rfl (by decide) (v := (.long (0 : Int64))) rfl d3_127 (pc' := 128) rfl ?_
        refine o_lload G82 d3_128 (pc' := 130) rfl rfl ?_
        obtain ⟨v87, e87⟩ : ∃ z, (0 : Int64) + v83 = z := ⟨_, rfl⟩
        refine o_ladd G82 d3_130 (pc' := 131) rfl e87 ?_
        refine o_lstore G82 d3_131 (pc' := 133) rfl (l' := #[.val (.ref r0), .val (.ref r1), .val (.ref r2), .val (.int (1 : Int32)), .val (.long z1), .second, .val (.long v83), .second, .val (.int (4 : Int32)), .val (.long v87), .second, .unset, .val (.long v61), .second, .val (.long v64), .second, .val (.long v66), .second]) rfl ?_
        refine o_aloadN G82 d3_133 (pc' := 134) rfl rfl rfl ?_
        refine o_iload G82 d3_134 (pc' := 136) rfl rfl ?_
        refine o_lload G82 d3_136 (pc' := 138) rfl rfl ?_
        refine o_ldc2 G82 d3_138 (pc' := 141) rfl (hw _ (List.mem_of_getElem? (i := 19) rfl)) ?_
        obtain ⟨v88, e88⟩ : ∃ z, v87 &&& (144115188075855871 : Int64) = z := ⟨_, rfl⟩
        refine o_land G82 d3_141 (pc' := 142) rfl e88 ?_
        refine o_lastore G82 A_r2 g_r2 (i := 4) rfl (by decide) d3_142 (pc' := 143) rfl ?_
        intro T89 h89 G89 W89 A89
        replace A_r0 := A_r0.other W89 hne0
        replace A_r1 := A_r1.other W89 hne1
        replace K := K.wr W89 (Or.inl (List.mem_of_getElem? (i := 0) rfl))
        replace A_r2 := A89
        refine o_lload G89 d3_143 (pc' := 145) rfl rfl ?_
        refine o_bipush G89 d3_145 (pc' := 147) rfl (v := (57 : Int32)) rfl ?_
        obtain ⟨v90, e90⟩ : ∃ z, (v87.toUInt64 >>> ((57 : Int32) &&& 0x3f).toInt64.toUInt64).toInt64 = z := ⟨_, rfl⟩
        refine o_lushr G89 d3_147 (pc' := 148) rfl e90 ?_
        refine o_lstore G89 d3_148 (pc' := 150) rfl (l' := #[.val (.ref r0), .val (.ref r1), .val (.ref r2), .val (.int (1 : Int32)), .val (.long z1), .second, .val (.long v90), .second, .val (.int (4 : Int32)), .val (.long v87), .second, .unset, .val (.long v61), .second, .val (.long v64), .second, .val (.long v66), .second]) rfl ?_
        obtain ⟨q91, br91, bc91⟩ := own_prop e87 e88 e90 b0 bc84
        refine o_iinc G89 d3_150 (pc' := 153) rfl rfl (w := (1 : Int32)) rfl (v := (5 : Int32)) (by decide) (l' := #[.val (.ref r0), .val (.ref r1), .val (.ref r2), .val (.int (1 : Int32)), .val (.long z1), .second, .val (.long v90), .second, .val (.int (5 : Int32)), .val (.long v87), .second, .unset, .val (.long v61), .second, .val (.long v64), .second, .val (.long v66), .second]) rfl ?_
        refine o_goto G89 d3_153 (by decide) (pc' := 117) rfl ?_
        refine o_lload G89 d3_117 (pc' := 119) rfl rfl ?_
        refine o_lconst G89 d3_119 (pc' := 120) rfl (v := (0 : Int64)) rfl ?_
        refine o_lcmp_eq G89 d3_120 (pc1 := 121) rfl d3_121 (by decide) (pcT := 156) (by decide) (pc' := 124) rfl (fun _ => ?_) (fun q => absurd (Int64.toInt_inj.mp (by rw [b01]; omega)) q)
        refine o_iinc G89 d3_156 (pc' := 159) rfl rfl (w := (1 : Int32)) rfl (v := (2 : Int32)) (by decide) (l' := #[.val (.ref r0), .val (.ref r1), .val (.ref r2), .val (.int (2 : Int32)), .val (.long z1), .second, .val (.long v90), .second, .val (.int (5 : Int32)), .val (.long v87), .second, .unset, .val (.long v61), .second, .val (.long v64), .second, .val (.long v66), .second]) rfl ?_
        refine o_goto G89 d3_159 (by decide) (pc' := 2) rfl ?_
        refine o_iloadN G89 d3_2 (pc' := 3) rfl rfl ?_
        refine o_aloadN G89 d3_3 (pc' := 4) rfl rfl rfl ?_
        refine o_arraylength G89 A_r1 (v := (2 : Int32)) rfl d3_4 (pc' := 5) rfl ?_
        refine o_icmp_ge G89 d3_5 (by decide) (pcT := 162) (by decide) (pc' := 8) rfl (fun _ => ?_) (fun q => absurd q (by decide))
        have zhc39 := congrArg Int64.toInt hc39
        refine o_return G89 d3_162 ⟨v10, v49, v67, v81, v88, rfl, K, A_r2.congr (fun j hj => ?_), br19, br58, br76, br84, br91, ?_⟩ (by decide) (by decide)
        · match j, hj with
          | 0, _ => rfl
          | 1, _ => rfl
          | 2, _ => rfl
          | 3, _ => rfl
          | 4, _ => rfl
          | j + 5, hj => omega
        · simp only [own_val]
          omega
  · refine o_aloadN G29 d3_124 (pc' := 125) rfl rfl rfl ?_
    refine o_iload G29 d3_125 (pc' := 127) rfl rfl ?_
    refine o_laload G29 A_r2 (i := 2) rfl (by decide) (v := (.long x2)) rfl d3_127 (pc' := 128) rfl ?_
    refine o_lload G29 d3_128 (pc' := 130) rfl rfl ?_
    obtain ⟨v94, e94⟩ : ∃ z, x2 + v36 = z := ⟨_, rfl⟩
    refine o_ladd G29 d3_130 (pc' := 131) rfl e94 ?_
    refine o_lstore G29 d3_131 (pc' := 133) rfl (l' := #[.val (.ref r0), .val (.ref r1), .val (.ref r2), .val (.int (0 : Int32)), .val (.long z0), .second, .val (.long v36), .second, .val (.int (2 : Int32)), .val (.long v94), .second, .unset, .val (.long v22), .second, .val (.long v25), .second, .val (.long v27), .second]) rfl ?_
    refine o_aloadN G29 d3_133 (pc' := 134) rfl rfl rfl ?_
    refine o_iload G29 d3_134 (pc' := 136) rfl rfl ?_
    refine o_lload G29 d3_136 (pc' := 138) rfl rfl ?_
    refine o_ldc2 G29 d3_138 (pc' := 141) rfl (hw _ (List.mem_of_getElem? (i := 19) rfl)) ?_
    obtain ⟨v95, e95⟩ : ∃ z, v94 &&& (144115188075855871 : Int64) = z := ⟨_, rfl⟩
    refine o_land G29 d3_141 (pc' := 142) rfl e95 ?_
    refine o_lastore G29 A_r2 g_r2 (i := 2) rfl (by decide) d3_142 (pc' := 143) rfl ?_
    intro T96 h96 G96 W96 A96
    replace A_r0 := A_r0.other W96 hne0
    replace A_r1 := A_r1.other W96 hne1
    replace K := K.wr W96 (Or.inl (List.mem_of_getElem? (i := 0) rfl))
    replace A_r2 := A96
    refine o_lload G96 d3_143 (pc' := 145) rfl rfl ?_
    refine o_bipush G96 d3_145 (pc' := 147) rfl (v := (57 : Int32)) rfl ?_
    obtain ⟨v97, e97⟩ : ∃ z, (v94.toUInt64 >>> ((57 : Int32) &&& 0x3f).toInt64.toUInt64).toInt64 = z := ⟨_, rfl⟩
    refine o_lushr G96 d3_147 (pc' := 148) rfl e97 ?_
    refine o_lstore G96 d3_148 (pc' := 150) rfl (l' := #[.val (.ref r0), .val (.ref r1), .val (.ref r2), .val (.int (0 : Int32)), .val (.long z0), .second, .val (.long v97), .second, .val (.int (2 : Int32)), .val (.long v94), .second, .unset, .val (.long v22), .second, .val (.long v25), .second, .val (.long v27), .second]) rfl ?_
    obtain ⟨q98, br98, bc98⟩ := own_prop e94 e95 e97 hx2 bc37
    refine o_iinc G96 d3_150 (pc' := 153) rfl rfl (w := (1 : Int32)) rfl (v := (3 : Int32)) (by decide) (l' := #[.val (.ref r0), .val (.ref r1), .val (.ref r2), .val (.int (0 : Int32)), .val (.long z0), .second, .val (.long v97), .second, .val (.int (3 : Int32)), .val (.long v94), .second, .unset, .val (.long v22), .second, .val (.long v25), .second, .val (.long v27), .second]) rfl ?_
    refine o_goto G96 d3_153 (by decide) (pc' := 117) rfl ?_
    refine o_lload G96 d3_117 (pc' := 119) rfl rfl ?_
    refine o_lconst G96 d3_119 (pc' := 120) rfl (v := (0 : Int64)) rfl ?_
    refine o_lcmp_eq G96 d3_120 (pc1 := 121) rfl d3_121 (by decide) (pcT := 156) (by decide) (pc' := 124) rfl (fun hc99 => ?_) (fun hc99 => ?_)
    · refine o_iinc G96 d3_156 (pc' := 159) rfl rfl (w := (1 : Int32)) rfl (v := (1 : Int32)) (by decide) (l' := #[.val (.ref r0), .val (.ref r1), .val (.ref r2), .val (.int (1 : Int32)), .val (.long z0), .second, .val (.long v97), .second, .val (.int (3 : Int32)), .val (.long v94), .second, .unset, .val (.long v22), .second, .val (.long v25), .second, .val (.long v27), .second]) rfl ?_
      refine o_goto G96 d3_159 (by decide) (pc' := 2) rfl ?_
      refine o_iloadN G96 d3_2 (pc' := 3) rfl rfl ?_
      refine o_aloadN G96 d3_3 (pc' := 4) rfl rfl rfl ?_
      refine o_arraylength G96 A_r1 (v := (2 : Int32)) rfl d3_4 (pc' := 5) rfl ?_
      refine o_icmp_ge G96 d3_5 (by decide) (pcT := 162) (by decide) (pc' := 8) rfl (fun q => absurd (by decide) q) (fun _ => ?_)
      refine o_aloadN G96 d3_8 (pc' := 9) rfl rfl rfl ?_
      refine o_iloadN G96 d3_9 (pc' := 10) rfl rfl ?_
      refine o_laload G96 A_r1 (i := 1) rfl (by decide) (v := (.long z1)) rfl d3_10 (pc' := 11) rfl ?_
      refine o_lstore G96 d3_11 (pc' := 13) rfl (l' := #[.val (.ref r0), .val (.ref r1), .val (.ref r2), .val (.int (1 : Int32)), .val (.long z1), .second, .val (.long v97), .second, .val (.int (3 : Int32)), .val (.long v94), .second, .unset, .val (.long v22), .second, .val (.long v25), .second, .val (.long v27), .second]) rfl ?_
      refine o_lconst G96 d3_13 (pc' := 14) rfl (v := (0 : Int64)) rfl ?_
      refine o_lstore G96 d3_14 (pc' := 16) rfl (l' := #[.val (.ref r0), .val (.ref r1), .val (.ref r2), .val (.int (1 : Int32)), .val (.long z1), .second, .val (.long (0 : Int64)), .second, .val (.int (3 : Int32)), .val (.long v94), .second, .unset, .val (.long v22), .second, .val (.long v25), .second, .val (.long v27), .second]) rfl ?_
      refine o_iloadN G96 d3_16 (pc' := 17) rfl rfl ?_
      refine o_istore G96 d3_17 (pc' := 19) rfl (l' := #[.val (.ref r0), .val (.ref r1), .val (.ref r2), .val (.int (1 : Int32)), .val (.long z1), .second, .val (.long (0 : Int64)), .second, .val (.int (1 : Int32)), .val (.long v94), .second, .unset, .val (.long v22), .second, .val (.long v25), .second, .val (.long v27), .second]) rfl ?_
      refine o_iconst G96 d3_19 (pc' := 20) rfl (v := (0 : Int32)) rfl ?_
      refine o_istore G96 d3_20 (pc' := 22) rfl (l' := #[.val (.ref r0), .val (.ref r1), .val (.ref r2), .val (.int (1 : Int32)), .val (.long z1), .second, .val (.long (0 : Int64)), .second, .val (.int (1 : Int32)), .val (.int (0 : Int32)), .unset, .unset, .val (.long v22), .second, .val (.long v25), .second, .val (.long v27), .second]) rfl ?_
      refine o_iload G96 d3_22 (pc' := 24) rfl rfl ?_
      refine o_aloadN G96 d3_24 (pc' := 25) rfl rfl rfl ?_
      refine o_arraylength G96 A_r0 (v := (2 : Int32)) rfl d3_25 (pc' := 26) rfl ?_
      refine o_icmp_ge G96 d3_26 (by decide) (pcT := 117) (by decide) (pc' := 29) rfl (fun q => absurd (by decide) q) (fun _ => ?_)
      refine o_aloadN G96 d3_29 (pc' := 30) rfl rfl rfl ?_
      refine o_iload G96 d3_30 (pc' := 32) rfl rfl ?_
      refine o_laload G96 A_r0 (i := 0) rfl (by decide) (v := (.long y0)) rfl d3_32 (pc' := 33) rfl ?_
      refine o_lload G96 d3_33 (pc' := 35) rfl rfl ?_
      obtain ⟨v102, e102⟩ : ∃ z, y0 * z1 = z := ⟨_, rfl⟩
      refine o_lmul G96 d3_35 (pc' := 36) rfl e102 ?_
      refine o_lstore G96 d3_36 (pc' := 38) rfl (l' := #[.val (.ref r0), .val (.ref r1), .val (.ref r2), .val (.int (1 : Int32)), .val (.long z1), .second, .val (.long (0 : Int64)), .second, .val (.int (1 : Int32)), .val (.int (0 : Int32)), .val (.long v102), .second, .val (.long v22), .second, .val (.long v25), .second, .val (.long v27), .second]) rfl ?_
      refine o_aloadN G96 d3_38 (pc' := 39) rfl rfl rfl ?_
      refine o_iload G96 d3_39 (pc' := 41) rfl rfl ?_
      refine o_laload G96 A_r0 (i := 0) rfl (by decide) (v := (.long y0)) rfl d3_41 (pc' := 42) rfl ?_
      refine o_lload G96 d3_42 (pc' := 44) rfl rfl ?_
      obtain ⟨v103, e103⟩ : ∃ z, f_4 y0 z1 = z := ⟨_, rfl⟩
      refine o_callP G96 (z := (⟨"java/lang/Math", "multiplyHigh", "(JJ)J"⟩ : MethodName)) (r := (.long v103)) (argsL := [(.long y0), (.long z1)]) (rest := []) (W := 0) (hw _ (List.mem_of_getElem? (i := 14) rfl)) (hw _ (List.mem_of_getElem? (i := 15) rfl)) d3_44 (by decide) (hw _ (List.mem_of_getElem? (i := 16) rfl)) (hw _ (List.mem_of_getElem? (i := 17) rfl)) (by rw [← e103]; exact rm4 hw y0 z1 h96 n0 G96.sz) (by decide) (by decide) rfl (lenOf pd_1 rfl) rfl (Nat.le_of_eq rfl) (pc' := 47) rfl (by decide) (by decide) ?_
      intro T104 G104
      refine o_lstore G104 d3_47 (pc' := 49) rfl (l' := #[.val (.ref r0), .val (.ref r1), .val (.ref r2), .val (.int (1 : Int32)), .val (.long z1), .second, .val (.long (0 : Int64)), .second, .val (.int (1 : Int32)), .val (.int (0 : Int32)), .val (.long v102), .second, .val (.long v103), .second, .val (.long v25), .second, .val (.long v27), .second]) rfl ?_
      refine o_aloadN G104 d3_49 (pc' := 50) rfl rfl rfl ?_
      refine o_iload G104 d3_50 (pc' := 52) rfl rfl ?_
      refine o_laload G104 A_r2 (i := 1) rfl (by decide) (v := (.long v28)) rfl d3_52 (pc' := 53) rfl ?_
      refine o_lload G104 d3_53 (pc' := 55) rfl rfl ?_
      refine o_ldc2 G104 d3_55 (pc' := 58) rfl (hw _ (List.mem_of_getElem? (i := 19) rfl)) ?_
      obtain ⟨v105, e105⟩ : ∃ z, v102 &&& (144115188075855871 : Int64) = z := ⟨_, rfl⟩
      refine o_land G104 d3_58 (pc' := 59) rfl e105 ?_
      obtain ⟨v106, e106⟩ : ∃ z, v28 + v105 = z := ⟨_, rfl⟩
      refine o_ladd G104 d3_59 (pc' := 60) rfl e106 ?_
      refine o_lstore G104 d3_60 (pc' := 62) rfl (l' := #[.val (.ref r0), .val (.ref r1), .val (.ref r2), .val (.int (1 : Int32)), .val (.long z1), .second, .val (.long (0 : Int64)), .second, .val (.int (1 : Int32)), .val (.int (0 : Int32)), .val (.long v102), .second, .val (.long v103), .second, .val (.long v106), .second, .val (.long v27), .second]) rfl ?_
      refine o_lload G104 d3_62 (pc' := 64) rfl rfl ?_
      refine o_ldc2 G104 d3_64 (pc' := 67) rfl (hw _ (List.mem_of_getElem? (i := 19) rfl)) ?_
      obtain ⟨v107, e107⟩ : ∃ z, v106 &&& (144115188075855871 : Int64) = z := ⟨_, rfl⟩
      refine o_land G104 d3_67 (pc' := 68) rfl e107 ?_
      refine o_lload G104 d3_68 (pc' := 70) rfl rfl ?_
      obtain ⟨v108, e108⟩ : ∃ z, v107 + (0 : Int64) = z := ⟨_, rfl⟩
      refine o_ladd G104 d3_70 (pc' := 71) rfl e108 ?_
      refine o_lstore G104 d3_71 (pc' := 73) rfl (l' := #[.val (.ref r0), .val (.ref r1), .val (.ref r2), .val (.int (1 : Int32)), .val (.long z1), .second, .val (.long (0 : Int64)), .second, .val (.int (1 : Int32)), .val (.int (0 : Int32)), .val (.long v102), .second, .val (.long v103), .second, .val (.long v106), .second, .val (.long v108), .second]) rfl ?_
      refine o_aloadN G104 d3_73 (pc' := 74) rfl rfl rfl ?_
      refine o_iload G104 d3_74 (pc' := 76) rfl rfl ?_
      refine o_lload G104 d3_76 (pc' := 78) rfl rfl ?_
      refine o_ldc2 G104 d3_78 (pc' := 81) rfl (hw _ (List.mem_of_getElem? (i := 19) rfl)) ?_
      obtain ⟨v109, e109⟩ : ∃ z, v108 &&& (144115188075855871 : Int64) = z := ⟨_, rfl⟩
      refine o_land G104 d3_81 (pc' := 82) rfl e109 ?_
      refine o_lastore G104 A_r2 g_r2 (i := 1) rfl (by decide) d3_82 (pc' := 83) rfl ?_
      intro T110 h110 G110 W110 A110
      replace A_r0 := A_r0.other W110 hne0
      replace A_r1 := A_r1.other W110 hne1
      replace K := K.wr W110 (Or.inl (List.mem_of_getElem? (i := 0) rfl))
      replace A_r2 := A110
      refine o_lload G110 d3_83 (pc' := 85) rfl rfl ?_
      refine o_bipush G110 d3_85 (pc' := 87) rfl (v := (7 : Int32)) rfl ?_
      obtain ⟨v111, e111⟩ : ∃ z, v103 <<< ((7 : Int32) &&& 0x3f).toInt64 = z := ⟨_, rfl⟩
      refine o_lshl G110 d3_87 (pc' := 88) rfl e111 ?_
      refine o_lload G110 d3_88 (pc' := 90) rfl rfl ?_
      refine o_bipush G110 d3_90 (pc' := 92) rfl (v := (57 : Int32)) rfl ?_
      obtain ⟨v112, e112⟩ : ∃ z, (v102.toUInt64 >>> ((57 : Int32) &&& 0x3f).toInt64.toUInt64).toInt64 = z := ⟨_, rfl⟩
      refine o_lushr G110 d3_92 (pc' := 93) rfl e112 ?_
      obtain ⟨v113, e113⟩ : ∃ z, v111 ||| v112 = z := ⟨_, rfl⟩
      refine o_lor G110 d3_93 (pc' := 94) rfl e113 ?_
      refine o_lload G110 d3_94 (pc' := 96) rfl rfl ?_
      refine o_bipush G110 d3_96 (pc' := 98) rfl (v := (57 : Int32)) rfl ?_
      obtain ⟨v114, e114⟩ : ∃ z, (v106.toUInt64 >>> ((57 : Int32) &&& 0x3f).toInt64.toUInt64).toInt64 = z := ⟨_, rfl⟩
      refine o_lushr G110 d3_98 (pc' := 99) rfl e114 ?_
      obtain ⟨v115, e115⟩ : ∃ z, v113 + v114 = z := ⟨_, rfl⟩
      refine o_ladd G110 d3_99 (pc' := 100) rfl e115 ?_
      refine o_lload G110 d3_100 (pc' := 102) rfl rfl ?_
      refine o_bipush G110 d3_102 (pc' := 104) rfl (v := (57 : Int32)) rfl ?_
      obtain ⟨v116, e116⟩ : ∃ z, (v108.toUInt64 >>> ((57 : Int32) &&& 0x3f).toInt64.toUInt64).toInt64 = z := ⟨_, rfl⟩
      refine o_lushr G110 d3_104 (pc' := 105) rfl e116 ?_
      obtain ⟨v117, e117⟩ : ∃ z, v115 + v116 = z := ⟨_, rfl⟩
      refine o_ladd G110 d3_105 (pc' := 106) rfl e117 ?_
      refine o_lstore G110 d3_106 (pc' := 108) rfl (l' := #[.val (.ref r0), .val (.ref r1), .val (.ref r2), .val (.int (1 : Int32)), .val (.long z1), .second, .val (.long v117), .second, .val (.int (1 : Int32)), .val (.int (0 : Int32)), .val (.long v102), .second, .val (.long v103), .second, .val (.long v106), .second, .val (.long v108), .second]) rfl ?_
      obtain ⟨q118, br118, bc118⟩ := own_mac e102 e103 e105 e106 e107 e108 e109 e111 e112 e113 e114 e115 e116 e117 hy0 hz1 br37 b0
      refine o_iinc G110 d3_108 (pc' := 111) rfl rfl (w := (1 : Int32)) rfl (v := (1 : Int32)) (by decide) (l' := #[.val (.ref r0), .val (.ref r1), .val (.ref r2), .val (.int (1 : Int32)), .val (.long z1), .second, .val (.long v117), .second, .val (.int (1 : Int32)), .val (.int (1 : Int32)), .val (.long v102), .second, .val (.long v103), .second, .val (.long v106), .second, .val (.long v108), .second]) rfl ?_
      refine o_iinc G110 d3_111 (pc' := 114) rfl rfl (w := (1 : Int32)) rfl (v := (2 : Int32)) (by decide) (l' := #[.val (.ref r0), .val (.ref r1), .val (.ref r2), .val (.int (1 : Int32)), .val (.long z1), .second, .val (.long v117), .second, .val (.int (2 : Int32)), .val (.int (1 : Int32)), .val (.long v102), .second, .val (.long v103), .second, .val (.long v106), .second, .val (.long v108), .second]) rfl ?_
      refine o_goto G110 d3_114 (by decide) (pc' := 22) rfl ?_
      refine o_iload G110 d3_22 (pc' := 24) rfl rfl ?_
      refine o_aloadN G110 d3_24 (pc' := 25) rfl rfl rfl ?_
      refine o_arraylength G110 A_r0 (v := (2 : Int32)) rfl d3_25 (pc' := 26) rfl ?_
      refine o_icmp_ge G110 d3_26 (by decide) (pcT := 117) (by decide) (pc' := 29) rfl (fun q => absurd (by decide) q) (fun _ => ?_)
      refine o_aloadN G110 d3_29 (pc' := 30) rfl rfl rfl ?_
      refine o_iload G110 d3_30 (pc' := 32) rfl rfl ?_
      refine o_laload G110 A_r0 (i := 1) rfl (by decide) (v := (.long y1)) rfl d3_32 (pc' := 33) rfl ?_
      refine o_lload G110 d3_33 (pc' := 35) rfl rfl ?_
      obtain ⟨v120, e120⟩ : ∃ z, y1 * z1 = z := ⟨_, rfl⟩
      refine o_lmul G110 d3_35 (pc' := 36) rfl e120 ?_
      refine o_lstore G110 d3_36 (pc' := 38) rfl (l' := #[.val (.ref r0), .val (.ref r1), .val (.ref r2), .val (.int (1 : Int32)), .val (.long z1), .second, .val (.long v117), .second, .val (.int (2 : Int32)), .val (.int (1 : Int32)), .val (.long v120), .second, .val (.long v103), .second, .val (.long v106), .second, .val (.long v108), .second]) rfl ?_
      refine o_aloadN G110 d3_38 (pc' := 39) rfl rfl rfl ?_
      refine o_iload G110 d3_39 (pc' := 41) rfl rfl ?_
      refine o_laload G110 A_r0 (i := 1) rfl (by decide) (v := (.long y1)) rfl d3_41 (pc' := 42) rfl ?_
      refine o_lload G110 d3_42 (pc' := 44) rfl rfl ?_
      obtain ⟨v121, e121⟩ : ∃ z, f_4 y1 z1 = z := ⟨_, rfl⟩
      refine o_callP G110 (z := (⟨"java/lang/Math", "multiplyHigh", "(JJ)J"⟩ : MethodName)) (r := (.long v121)) (argsL := [(.long y1), (.long z1)]) (rest := []) (W := 0) (hw _ (List.mem_of_getElem? (i := 14) rfl)) (hw _ (List.mem_of_getElem? (i := 15) rfl)) d3_44 (by decide) (hw _ (List.mem_of_getElem? (i := 16) rfl)) (hw _ (List.mem_of_getElem? (i := 17) rfl)) (by rw [← e121]; exact rm4 hw y1 z1 h110 n0 G110.sz) (by decide) (by decide) rfl (lenOf pd_1 rfl) rfl (Nat.le_of_eq rfl) (pc' := 47) rfl (by decide) (by decide) ?_
      intro T122 G122
      refine o_lstore G122 d3_47 (pc' := 49) rfl (l' := #[.val (.ref r0), .val (.ref r1), .val (.ref r2), .val (.int (1 : Int32)), .val (.long z1), .second, .val (.long v117), .second, .val (.int (2 : Int32)), .val (.int (1 : Int32)), .val (.long v120), .second, .val (.long v121), .second, .val (.long v106), .second, .val (.long v108), .second]) rfl ?_
      refine o_aloadN G122 d3_49 (pc' := 50) rfl rfl rfl ?_
      refine o_iload G122 d3_50 (pc' := 52) rfl rfl ?_
      refine o_laload G122 A_r2 (i := 2) rfl (by decide) (v := (.long v95)) rfl d3_52 (pc' := 53) rfl ?_
      refine o_lload G122 d3_53 (pc' := 55) rfl rfl ?_
      refine o_ldc2 G122 d3_55 (pc' := 58) rfl (hw _ (List.mem_of_getElem? (i := 19) rfl)) ?_
      obtain ⟨v123, e123⟩ : ∃ z, v120 &&& (144115188075855871 : Int64) = z := ⟨_, rfl⟩
      refine o_land G122 d3_58 (pc' := 59) rfl e123 ?_
      obtain ⟨v124, e124⟩ : ∃ z, v95 + v123 = z := ⟨_, rfl⟩
      refine o_ladd G122 d3_59 (pc' := 60) rfl e124 ?_
      refine o_lstore G122 d3_60 (pc' := 62) rfl (l' := #[.val (.ref r0), .val (.ref r1), .val (.ref r2), .val (.int (1 : Int32)), .val (.long z1), .second, .val (.long v117), .second, .val (.int (2 : Int32)), .val (.int (1 : Int32)), .val (.long v120), .second, .val (.long v121), .second, .val (.long v124), .second, .val (.long v108), .second]) rfl ?_
      refine o_lload G122 d3_62 (pc' := 64) rfl rfl ?_
      refine o_ldc2 G122 d3_64 (pc' := 67) rfl (hw _ (List.mem_of_getElem? (i := 19) rfl)) ?_
      obtain ⟨v125, e125⟩ : ∃ z, v124 &&& (144115188075855871 : Int64) = z := ⟨_, rfl⟩
      refine o_land G122 d3_67 (pc' := 68) rfl e125 ?_
      refine o_lload G122 d3_68 (pc' := 70) rfl rfl ?_
      obtain ⟨v126, e126⟩ : ∃ z, v125 + v117 = z := ⟨_, rfl⟩
      refine o_ladd G122 d3_70 (pc' := 71) rfl e126 ?_
      refine o_lstore G122 d3_71 (pc' := 73) rfl (l' := #[.val (.ref r0), .val (.ref r1), .val (.ref r2), .val (.int (1 : Int32)), .val (.long z1), .second, .val (.long v117), .second, .val (.int (2 : Int32)), .val (.int (1 : Int32)), .val (.long v120), .second, .val (.long v121), .second, .val (.long v124), .second, .val (.long v126), .second]) rfl ?_
      refine o_aloadN G122 d3_73 (pc' := 74) rfl rfl rfl ?_
      refine o_iload G122 d3_74 (pc' := 76) rfl rfl ?_
      refine o_lload G122 d3_76 (pc' := 78) rfl rfl ?_
      refine o_ldc2 G122 d3_78 (pc' := 81) rfl (hw _ (List.mem_of_getElem? (i := 19) rfl)) ?_
      obtain ⟨v127, e127⟩ : ∃ z, v126 &&& (144115188075855871 : Int64) = z := ⟨_, rfl⟩
      refine o_land G122 d3_81 (pc' := 82) rfl e127 ?_
      refine o_lastore G122 A_r2 g_r2 (i := 2) rfl (by decide) d3_82 (pc' := 83) rfl ?_
      intro T128 h128 G128 W128 A128
      replace A_r0 := A_r0.other W128 hne0
      replace A_r1 := A_r1.other W128 hne1
      replace K := K.wr W128 (Or.inl (List.mem_of_getElem? (i := 0) rfl))
      replace A_r2 := A128
      refine o_lload G128 d3_83 (pc' := 85) rfl rfl ?_
      refine o_bipush G128 d3_85 (pc' := 87) rfl (v := (7 : Int32)) rfl ?_
      obtain ⟨v129, e129⟩ : ∃ z, v121 <<< ((7 : Int32) &&& 0x3f).toInt64 = z := ⟨_, rfl⟩
      refine o_lshl G128 d3_87 (pc' := 88) rfl e129 ?_
      refine o_lload G128 d3_88 (pc' := 90) rfl rfl ?_
      refine o_bipush G128 d3_90 (pc' := 92) rfl (v := (57 : Int32)) rfl ?_
      obtain ⟨v130, e130⟩ : ∃ z, (v120.toUInt64 >>> ((57 : Int32) &&& 0x3f).toInt64.toUInt64).toInt64 = z := ⟨_, rfl⟩
      refine o_lushr G128 d3_92 (pc' := 93) rfl e130 ?_
      obtain ⟨v131, e131⟩ : ∃ z, v129 ||| v130 = z := ⟨_, rfl⟩
      refine o_lor G128 d3_93 (pc' := 94) rfl e131 ?_
      refine o_lload G128 d3_94 (pc' := 96) rfl rfl ?_
      refine o_bipush G128 d3_96 (pc' := 98) rfl (v := (57 : Int32)) rfl ?_
      obtain ⟨v132, e132⟩ : ∃ z, (v124.toUInt64 >>> ((57 : Int32) &&& 0x3f).toInt64.toUInt64).toInt64 = z := ⟨_, rfl⟩
      refine o_lushr G128 d3_98 (pc' := 99) rfl e132 ?_
      obtain ⟨v133, e133⟩ : ∃ z, v131 + v132 = z := ⟨_, rfl⟩
      refine o_ladd G128 d3_99 (pc' := 100) rfl e133 ?_
      refine o_lload G128 d3_100 (pc' := 102) rfl rfl ?_
      refine o_bipush G128 d3_102 (pc' := 104) rfl (v := (57 : Int32)) rfl ?_
      obtain ⟨v134, e134⟩ : ∃ z, (v126.toUInt64 >>> ((57 : Int32) &&& 0x3f).toInt64.toUInt64).toInt64 = z := ⟨_, rfl⟩
      refine o_lushr G128 d3_104 (pc' := 105) rfl e134 ?_
      obtain ⟨v135, e135⟩ : ∃ z, v133 + v134 = z := ⟨_, rfl⟩
      refine o_ladd G128 d3_105 (pc' := 106) rfl e135 ?_
      refine o_lstore G128 d3_106 (pc' := 108) rfl (l' := #[.val (.ref r0), .val (.ref r1), .val (.ref r2), .val (.int (1 : Int32)), .val (.long z1), .second, .val (.long v135), .second, .val (.int (2 : Int32)), .val (.int (1 : Int32)), .val (.long v120), .second, .val (.long v121), .second, .val (.long v124), .second, .val (.long v126), .second]) rfl ?_
      obtain ⟨q136, br136, bc136⟩ := own_mac e120 e121 e123 e124 e125 e126 e127 e129 e130 e131 e132 e133 e134 e135 hy1 hz1 br98 bc118
      refine o_iinc G128 d3_108 (pc' := 111) rfl rfl (w := (1 : Int32)) rfl (v := (2 : Int32)) (by decide) (l' := #[.val (.ref r0), .val (.ref r1), .val (.ref r2), .val (.int (1 : Int32)), .val (.long z1), .second, .val (.long v135), .second, .val (.int (2 : Int32)), .val (.int (2 : Int32)), .val (.long v120), .second, .val (.long v121), .second, .val (.long v124), .second, .val (.long v126), .second]) rfl ?_
      refine o_iinc G128 d3_111 (pc' := 114) rfl rfl (w := (1 : Int32)) rfl (v := (3 : Int32)) (by decide) (l' := #[.val (.ref r0), .val (.ref r1), .val (.ref r2), .val (.int (1 : Int32)), .val (.long z1), .second, .val (.long v135), .second, .val (.int (3 : Int32)), .val (.int (2 : Int32)), .val (.long v120), .second, .val (.long v121), .second, .val (.long v124), .second, .val (.long v126), .second]) rfl ?_
      refine o_goto G128 d3_114 (by decide) (pc' := 22) rfl ?_
      refine o_iload G128 d3_22 (pc' := 24) rfl rfl ?_
      refine o_aloadN G128 d3_24 (pc' := 25) rfl rfl rfl ?_
      refine o_arraylength G128 A_r0 (v := (2 : Int32)) rfl d3_25 (pc' := 26) rfl ?_
      refine o_icmp_ge G128 d3_26 (by decide) (pcT := 117) (by decide) (pc' := 29) rfl (fun _ => ?_) (fun q => absurd q (by decide))
      refine o_lload G128 d3_117 (pc' := 119) rfl rfl ?_
      refine o_lconst G128 d3_119 (pc' := 120) rfl (v := (0 : Int64)) rfl ?_
      refine o_lcmp_eq G128 d3_120 (pc1 := 121) rfl d3_121 (by decide) (pcT := 156) (by decide) (pc' := 124) rfl (fun hc138 => ?_) (fun hc138 => ?_)
      · refine o_iinc G128 d3_156 (pc' := 159) rfl rfl (w := (1 : Int32)) rfl (v := (2 : Int32)) (by decide) (l' := #[.val (.ref r0), .val (.ref r1), .val (.ref r2), .val (.int (2 : Int32)), .val (.long z1), .second, .val (.long v135), .second, .val (.int (3 : Int32)), .val (.int (2 : Int32)), .val (.long v120), .second, .val (.long v121), .second, .val (.long v124), .second, .val (.long v126), .second]) rfl ?_
        refine o_goto G128 d3_159 (by decide) (pc' := 2) rfl ?_
        refine o_iloadN G128 d3_2 (pc' := 3) rfl rfl ?_
        refine o_aloadN G128 d3_3 (pc' := 4) rfl rfl rfl ?_
        refine o_arraylength G128 A_r1 (v := (2 : Int32)) rfl d3_4 (pc' := 5) rfl ?_
        refine o_icmp_ge G128 d3_5 (by decide) (pcT := 162) (by decide) (pc' := 8) rfl (fun _ => ?_) (fun q => absurd q (by decide))
        have zhc99 := congrArg Int64.toInt hc99
        have zhc138 := congrArg Int64.toInt hc138
        refine o_return G128 d3_162 ⟨v10, v109, v127, x3, (0 : Int64), rfl, K, A_r2.congr (fun j hj => ?_), br19, br118, br136, hx3, b0, ?_⟩ (by decide) (by decide)
        · match j, hj with
          | 0, _ => rfl
          | 1, _ => rfl
          | 2, _ => rfl
          | 3, _ => rfl
          | 4, _ => rfl
          | j + 5, hj => omega
        · simp only [own_val]
          omega
      · refine o_aloadN G128 d3_124 (pc' := 125) rfl rfl rfl ?_
        refine o_iload G128 d3_125 (pc' := 127) rfl rfl ?_
        refine o_laload G128 A_r2 (i := 3) rfl (by decide) (v := (.long x3)) rfl d3_127 (pc' := 128) rfl ?_
        refine o_lload G128 d3_128 (pc' := 130) rfl rfl ?_
        obtain ⟨v140, e140⟩ : ∃ z, x3 + v135 = z := ⟨_, rfl⟩
        refine o_ladd G128 d3_130 (pc' := 131) rfl e140 ?_
        refine o_lstore G128 d3_131 (pc' := 133) rfl (l' := #[.val (.ref r0), .val (.ref r1), .val (.ref r2), .val (.int (1 : Int32)), .val (.long z1), .second, .val (.long v135), .second, .val (.int (3 : Int32)), .val (.long v140), .second, .unset, .val (.long v121), .second, .val (.long v124), .second, .val (.long v126), .second]) rfl ?_
        refine o_aloadN G128 d3_133 (pc' := 134) rfl rfl rfl ?_
        refine o_iload G128 d3_134 (pc' := 136) rfl rfl ?_
        refine o_lload G128 d3_136 (pc' := 138) rfl rfl ?_
        refine o_ldc2 G128 d3_138 (pc' := 141) rfl (hw _ (List.mem_of_getElem? (i := 19) rfl)) ?_
        obtain ⟨v141, e141⟩ : ∃ z, v140 &&& (144115188075855871 : Int64) = z := ⟨_, rfl⟩
        refine o_land G128 d3_141 (pc' := 142) rfl e141 ?_
        refine o_lastore G128 A_r2 g_r2 (i := 3) rfl (by decide) d3_142 (pc' := 143) rfl ?_
        intro T142 h142 G142 W142 A142
        replace A_r0 := A_r0.other W142 hne0
        replace A_r1 := A_r1.other W142 hne1
        replace K := K.wr W142 (Or.inl (List.mem_of_getElem? (i := 0) rfl))
        replace A_r2 := A142
        refine o_lload G142 d3_143 (pc' := 145) rfl rfl ?_
        refine o_bipush G142 d3_145 (pc' := 147) rfl (v := (57 : Int32)) rfl ?_
        obtain ⟨v143, e143⟩ : ∃ z, (v140.toUInt64 >>> ((57 : Int32) &&& 0x3f).toInt64.toUInt64).toInt64 = z := ⟨_, rfl⟩
        refine o_lushr G142 d3_147 (pc' := 148) rfl e143 ?_
        refine o_lstore G142 d3_148 (pc' := 150) rfl (l' := #[.val (.ref r0), .val (.ref r1), .val (.ref r2), .val (.int (1 : Int32)), .val (.long z1), .second, .val (.long v143), .second, .val (.int (3 : Int32)), .val (.long v140), .second, .unset, .val (.long v121), .second, .val (.long v124), .second, .val (.long v126), .second]) rfl ?_
        obtain ⟨q144, br144, bc144⟩ := own_prop e140 e141 e143 hx3 bc136
        refine o_iinc G142 d3_150 (pc' := 153) rfl rfl (w := (1 : Int32)) rfl (v := (4 : Int32)) (by decide) (l' := #[.val (.ref r0), .val (.ref r1), .val (.ref r2), .val (.int (1 : Int32)), .val (.long z1), .second, .val (.long v143), .second, .val (.int (4 : Int32)), .val (.long v140), .second, .unset, .val (.long v121), .second, .val (.long v124), .second, .val (.long v126), .second]) rfl ?_
        refine o_goto G142 d3_153 (by decide) (pc' := 117) rfl ?_
        refine o_lload G142 d3_117 (pc' := 119) rfl rfl ?_
        refine o_lconst G142 d3_119 (pc' := 120) rfl (v := (0 : Int64)) rfl ?_
        refine o_lcmp_eq G142 d3_120 (pc1 := 121) rfl d3_121 (by decide) (pcT := 156) (by decide) (pc' := 124) rfl (fun hc145 => ?_) (fun hc145 => ?_)
        · refine o_iinc G142 d3_156 (pc' := 159) rfl rfl (w := (1 : Int32)) rfl (v := (2 : Int32)) (by decide) (l' := #[.val (.ref r0), .val (.ref r1), .val (.ref r2), .val (.int (2 : Int32)), .val (.long z1), .second, .val (.long v143), .second, .val (.int (4 : Int32)), .val (.long v140), .second, .unset, .val (.long v121), .second, .val (.long v124), .second, .val (.long v126), .second]) rfl ?_
          refine o_goto G142 d3_159 (by decide) (pc' := 2) rfl ?_
          refine o_iloadN G142 d3_2 (pc' := 3) rfl rfl ?_
          refine o_aloadN G142 d3_3 (pc' := 4) rfl rfl rfl ?_
          refine o_arraylength G142 A_r1 (v := (2 : Int32)) rfl d3_4 (pc' := 5) rfl ?_
          refine o_icmp_ge G142 d3_5 (by decide) (pcT := 162) (by decide) (pc' := 8) rfl (fun _ => ?_) (fun q => absurd q (by decide))
          have zhc99 := congrArg Int64.toInt hc99
          have zhc145 := congrArg Int64.toInt hc145
          refine o_return G142 d3_162 ⟨v10, v109, v127, v141, (0 : Int64), rfl, K, A_r2.congr (fun j hj => ?_), br19, br118, br136, br144, b0, ?_⟩ (by decide) (by decide)
          · match j, hj with
            | 0, _ => rfl
            | 1, _ => rfl
            | 2, _ => rfl
            | 3, _ => rfl
            | 4, _ => rfl
            | j + 5, hj => omega
          · simp only [own_val]
            omega
        · refine o_aloadN G142 d3_124 (pc' := 125) rfl rfl rfl ?_
          refine o_iload G142 d3_125 (pc' := 127) rfl rfl ?_
          refine o_laload G142 A_r2 (i := 4) rfl (by decide) (v := (.long (0 : Int64))) rfl d3_127 (pc' := 128) rfl ?_
          refine o_lload G142 d3_128 (pc' := 130) rfl rfl ?_
          obtain ⟨v147, e147⟩ : ∃ z, (0 : Int64) + v143 = z := ⟨_, rfl⟩
          refine o_ladd G142 d3_130 (pc' := 131) rfl e147 ?_
          refine o_lstore G142 d3_131 (pc' := 133) rfl (l' := #[.val (.ref r0), .val (.ref r1), .val (.ref r2), .val (.int (1 : Int32)), .val (.long z1), .second, .val (.long v143), .second, .val (.int (4 : Int32)), .val (.long v147), .second, .unset, .val (.long v121), .second, .val (.long v124), .second, .val (.long v126), .second]) rfl ?_
          refine o_aloadN G142 d3_133 (pc' := 134) rfl rfl rfl ?_
          refine o_iload G142 d3_134 (pc' := 136) rfl rfl ?_
          refine o_lload G142 d3_136 (pc' := 138) rfl rfl ?_
          refine o_ldc2 G142 d3_138 (pc' := 141) rfl (hw _ (List.mem_of_getElem? (i := 19) rfl)) ?_
          obtain ⟨v148, e148⟩ : ∃ z, v147 &&& (144115188075855871 : Int64) = z := ⟨_, rfl⟩
          refine o_land G142 d3_141 (pc' := 142) rfl e148 ?_
          refine o_lastore G142 A_r2 g_r2 (i := 4) rfl (by decide) d3_142 (pc' := 143) rfl ?_
          intro T149 h149 G149 W149 A149
          replace A_r0 := A_r0.other W149 hne0
          replace A_r1 := A_r1.other W149 hne1
          replace K := K.wr W149 (Or.inl (List.mem_of_getElem? (i := 0) rfl))
          replace A_r2 := A149
          refine o_lload G149 d3_143 (pc' := 145) rfl rfl ?_
          refine o_bipush G149 d3_145 (pc' := 147) rfl (v := (57 : Int32)) rfl ?_
          obtain ⟨v150, e150⟩ : ∃ z, (v147.toUInt64 >>> ((57 : Int32) &&& 0x3f).toInt64.toUInt64).toInt64 = z := ⟨_, rfl⟩
          refine o_lushr G149 d3_147 (pc' := 148) rfl e150 ?_
          refine o_lstore G149 d3_148 (pc' := 150) rfl (l' := #[.val (.ref r0), .val (.ref r1), .val (.ref r2), .val (.int (1 : Int32)), .val (.long z1), .second, .val (.long v150), .second, .val (.int (4 : Int32)), .val (.long v147), .second, .unset, .val (.long v121), .second, .val (.long v124), .second, .val (.long v126), .second]) rfl ?_
          obtain ⟨q151, br151, bc151⟩ := own_prop e147 e148 e150 b0 bc144
          refine o_iinc G149 d3_150 (pc' := 153) rfl rfl (w := (1 : Int32)) rfl (v := (5 : Int32)) (by decide) (l' := #[.val (.ref r0), .val (.ref r1), .val (.ref r2), .val (.int (1 : Int32)), .val (.long z1), .second, .val (.long v150), .second, .val (.int (5 : Int32)), .val (.long v147), .second, .unset, .val (.long v121), .second, .val (.long v124), .second, .val (.long v126), .second]) rfl ?_
          refine o_goto G149 d3_153 (by decide) (pc' := 117) rfl ?_
          refine o_lload G149 d3_117 (pc' := 119) rfl rfl ?_
          refine o_lconst G149 d3_119 (pc' := 120) rfl (v := (0 : Int64)) rfl ?_
          refine o_lcmp_eq G149 d3_120 (pc1 := 121) rfl d3_121 (by decide) (pcT := 156) (by decide) (pc' := 124) rfl (fun _ => ?_) (fun q => absurd (Int64.toInt_inj.mp (by rw [b01]; omega)) q)
          refine o_iinc G149 d3_156 (pc' := 159) rfl rfl (w := (1 : Int32)) rfl (v := (2 : Int32)) (by decide) (l' := #[.val (.ref r0), .val (.ref r1), .val (.ref r2), .val (.int (2 : Int32)), .val (.long z1), .second, .val (.long v150), .second, .val (.int (5 : Int32)), .val (.long v147), .second, .unset, .val (.long v121), .second, .val (.long v124), .second, .val (.long v126), .second]) rfl ?_
          refine o_goto G149 d3_159 (by decide) (pc' := 2) rfl ?_
          refine o_iloadN G149 d3_2 (pc' := 3) rfl rfl ?_
          refine o_aloadN G149 d3_3 (pc' := 4) rfl rfl rfl ?_
          refine o_arraylength G149 A_r1 (v := (2 : Int32)) rfl d3_4 (pc' := 5) rfl ?_
          refine o_icmp_ge G149 d3_5 (by decide) (pcT := 162) (by decide) (pc' := 8) rfl (fun _ => ?_) (fun q => absurd q (by decide))
          have zhc99 := congrArg Int64.toInt hc99
          refine o_return G149 d3_162 ⟨v10, v109, v127, v141, v148, rfl, K, A_r2.congr (fun j hj => ?_), br19, br118, br136, br144, br151, ?_⟩ (by decide) (by decide)
          · match j, hj with
            | 0, _ => rfl
            | 1, _ => rfl
            | 2, _ => rfl
            | 3, _ => rfl
            | 4, _ => rfl
            | j + 5, hj => omega
          · simp only [own_val]
            omega
    · refine o_aloadN G96 d3_124 (pc' := 125) rfl rfl rfl ?_
      refine o_iload G96 d3_125 (pc' := 127) rfl rfl ?_
      refine o_laload G96 A_r2 (i := 3) rfl (by decide) (v := (.long x3)) rfl d3_127 (pc' := 128) rfl ?_
      refine o_lload G96 d3_128 (pc' := 130) rfl rfl ?_
      obtain ⟨v154, e154⟩ : ∃ z, x3 + v97 = z := ⟨_, rfl⟩
      refine o_ladd G96 d3_130 (pc' := 131) rfl e154 ?_
      refine o_lstore G96 d3_131 (pc' := 133) rfl (l' := #[.val (.ref r0), .val (.ref r1), .val (.ref r2), .val (.int (0 : Int32)), .val (.long z0), .second, .val (.long v97), .second, .val (.int (3 : Int32)), .val (.long v154), .second, .unset, .val (.long v22), .second, .val (.long v25), .second, .val (.long v27), .second]) rfl ?_
      refine o_aloadN G96 d3_133 (pc' := 134) rfl rfl rfl ?_
      refine o_iload G96 d3_134 (pc' := 136) rfl rfl ?_
      refine o_lload G96 d3_136 (pc' := 138) rfl rfl ?_
      refine o_ldc2 G96 d3_138 (pc' := 141) rfl (hw _ (List.mem_of_getElem? (i := 19) rfl)) ?_
      obtain ⟨v155, e155⟩ : ∃ z, v154 &&& (144115188075855871 : Int64) = z := ⟨_, rfl⟩
      refine o_land G96 d3_141 (pc' := 142) rfl e155 ?_
      refine o_lastore G96 A_r2 g_r2 (i := 3) rfl (by decide) d3_142 (pc' := 143) rfl ?_
      intro T156 h156 G156 W156 A156
      replace A_r0 := A_r0.other W156 hne0
      replace A_r1 := A_r1.other W156 hne1
      replace K := K.wr W156 (Or.inl (List.mem_of_getElem? (i := 0) rfl))
      replace A_r2 := A156
      refine o_lload G156 d3_143 (pc' := 145) rfl rfl ?_
      refine o_bipush G156 d3_145 (pc' := 147) rfl (v := (57 : Int32)) rfl ?_
      obtain ⟨v157, e157⟩ : ∃ z, (v154.toUInt64 >>> ((57 : Int32) &&& 0x3f).toInt64.toUInt64).toInt64 = z := ⟨_, rfl⟩
      refine o_lushr G156 d3_147 (pc' := 148) rfl e157 ?_
      refine o_lstore G156 d3_148 (pc' := 150) rfl (l' := #[.val (.ref r0), .val (.ref r1), .val (.ref r2), .val (.int (0 : Int32)), .val (.long z0), .second, .val (.long v157), .second, .val (.int (3 : Int32)), .val (.long v154), .second, .unset, .val (.long v22), .second, .val (.long v25), .second, .val (.long v27), .second]) rfl ?_
      obtain ⟨q158, br158, bc158⟩ := own_prop e154 e155 e157 hx3 bc98
      refine o_iinc G156 d3_150 (pc' := 153) rfl rfl (w := (1 : Int32)) rfl (v := (4 : Int32)) (by decide) (l' := #[.val (.ref r0), .val (.ref r1), .val (.ref r2), .val (.int (0 : Int32)), .val (.long z0), .second, .val (.long v157), .second, .val (.int (4 : Int32)), .val (.long v154), .second, .unset, .val (.long v22), .second, .val (.long v25), .second, .val (.long v27), .second]) rfl ?_
      refine o_goto G156 d3_153 (by decide) (pc' := 117) rfl ?_
      refine o_lload G156 d3_117 (pc' := 119) rfl rfl ?_
      refine o_lconst G156 d3_119 (pc' := 120) rfl (v := (0 : Int64)) rfl ?_
      refine o_lcmp_eq G156 d3_120 (pc1 := 121) rfl d3_121 (by decide) (pcT := 156) (by decide) (pc' := 124) rfl (fun hc159 => ?_) (fun hc159 => ?_)
      · refine o_iinc G156 d3_156 (pc' := 159) rfl rfl (w := (1 : Int32)) rfl (v := (1 : Int32)) (by decide) (l' := #[.val (.ref r0), .val (.ref r1), .val (.ref r2), .val (.int (1 : Int32)), .val (.long z0), .second, .val (.long v157), .second, .val (.int (4 : Int32)), .val (.long v154), .second, .unset, .val (.long v22), .second, .val (.long v25), .second, .val (.long v27), .second]) rfl ?_
        refine o_goto G156 d3_159 (by decide) (pc' := 2) rfl ?_
        refine o_iloadN G156 d3_2 (pc' := 3) rfl rfl ?_
        refine o_aloadN G156 d3_3 (pc' := 4) rfl rfl rfl ?_
        refine o_arraylength G156 A_r1 (v := (2 : Int32)) rfl d3_4 (pc' := 5) rfl ?_
        refine o_icmp_ge G156 d3_5 (by decide) (pcT := 162) (by decide) (pc' := 8) rfl (fun q => absurd (by decide) q) (fun _ => ?_)
        refine o_aloadN G156 d3_8 (pc' := 9) rfl rfl rfl ?_
        refine o_iloadN G156 d3_9 (pc' := 10) rfl rfl ?_
        refine o_laload G156 A_r1 (i := 1) rfl (by decide) (v := (.long z1)) rfl d3_10 (pc' := 11) rfl ?_
        refine o_lstore G156 d3_11 (pc' := 13) rfl (l' := #[.val (.ref r0), .val (.ref r1), .val (.ref r2), .val (.int (1 : Int32)), .val (.long z1), .second, .val (.long v157), .second, .val (.int (4 : Int32)), .val (.long v154), .second, .unset, .val (.long v22), .second, .val (.long v25), .second, .val (.long v27), .second]) rfl ?_
        refine o_lconst G156 d3_13 (pc' := 14) rfl (v := (0 : Int64)) rfl ?_
        refine o_lstore G156 d3_14 (pc' := 16) rfl (l' := #[.val (.ref r0), .val (.ref r1), .val (.ref r2), .val (.int (1 : Int32)), .val (.long z1), .second, .val (.long (0 : Int64)), .second, .val (.int (4 : Int32)), .val (.long v154), .second, .unset, .val (.long v22), .second, .val (.long v25), .second, .val (.long v27), .second]) rfl ?_
        refine o_iloadN G156 d3_16 (pc' := 17) rfl rfl ?_
        refine o_istore G156 d3_17 (pc' := 19) rfl (l' := #[.val (.ref r0), .val (.ref r1), .val (.ref r2), .val (.int (1 : Int32)), .val (.long z1), .second, .val (.long (0 : Int64)), .second, .val (.int (1 : Int32)), .val (.long v154), .second, .unset, .val (.long v22), .second, .val (.long v25), .second, .val (.long v27), .second]) rfl ?_
        refine o_iconst G156 d3_19 (pc' := 20) rfl (v := (0 : Int32)) rfl ?_
        refine o_istore G156 d3_20 (pc' := 22) rfl (l' := #[.val (.ref r0), .val (.ref r1), .val (.ref r2), .val (.int (1 : Int32)), .val (.long z1), .second, .val (.long (0 : Int64)), .second, .val (.int (1 : Int32)), .val (.int (0 : Int32)), .unset, .unset, .val (.long v22), .second, .val (.long v25), .second, .val (.long v27), .second]) rfl ?_
        refine o_iload G156 d3_22 (pc' := 24) rfl rfl ?_
        refine o_aloadN G156 d3_24 (pc' := 25) rfl rfl rfl ?_
        refine o_arraylength G156 A_r0 (v := (2 : Int32)) rfl d3_25 (pc' := 26) rfl ?_
        refine o_icmp_ge G156 d3_26 (by decide) (pcT := 117) (by decide) (pc' := 29) rfl (fun q => absurd (by decide) q) (fun _ => ?_)
        refine o_aloadN G156 d3_29 (pc' := 30) rfl rfl rfl ?_
        refine o_iload G156 d3_30 (pc' := 32) rfl rfl ?_
        refine o_laload G156 A_r0 (i := 0) rfl (by decide) (v := (.long y0)) rfl d3_32 (pc' := 33) rfl ?_
        refine o_lload G156 d3_33 (pc' := 35) rfl rfl ?_
        obtain ⟨v162, e162⟩ : ∃ z, y0 * z1 = z := ⟨_, rfl⟩
        refine o_lmul G156 d3_35 (pc' := 36) rfl e162 ?_
        refine o_lstore G156 d3_36 (pc' := 38) rfl (l' := #[.val (.ref r0), .val (.ref r1), .val (.ref r2), .val (.int (1 : Int32)), .val (.long z1), .second, .val (.long (0 : Int64)), .second, .val (.int (1 : Int32)), .val (.int (0 : Int32)), .val (.long v162), .second, .val (.long v22), .second, .val (.long v25), .second, .val (.long v27), .second]) rfl ?_
        refine o_aloadN G156 d3_38 (pc' := 39) rfl rfl rfl ?_
        refine o_iload G156 d3_39 (pc' := 41) rfl rfl ?_
        refine o_laload G156 A_r0 (i := 0) rfl (by decide) (v := (.long y0)) rfl d3_41 (pc' := 42) rfl ?_
        refine o_lload G156 d3_42 (pc' := 44) rfl rfl ?_
        obtain ⟨v163, e163⟩ : ∃ z, f_4 y0 z1 = z := ⟨_, rfl⟩
        refine o_callP G156 (z := (⟨"java/lang/Math", "multiplyHigh", "(JJ)J"⟩ : MethodName)) (r := (.long v163)) (argsL := [(.long y0), (.long z1)]) (rest := []) (W := 0) (hw _ (List.mem_of_getElem? (i := 14) rfl)) (hw _ (List.mem_of_getElem? (i := 15) rfl)) d3_44 (by decide) (hw _ (List.mem_of_getElem? (i := 16) rfl)) (hw _ (List.mem_of_getElem? (i := 17) rfl)) (by rw [← e163]; exact rm4 hw y0 z1 h156 n0 G156.sz) (by decide) (by decide) rfl (lenOf pd_1 rfl) rfl (Nat.le_of_eq rfl) (pc' := 47) rfl (by decide) (by decide) ?_
        intro T164 G164
        refine o_lstore G164 d3_47 (pc' := 49) rfl (l' := #[.val (.ref r0), .val (.ref r1), .val (.ref r2), .val (.int (1 : Int32)), .val (.long z1), .second, .val (.long (0 : Int64)), .second, .val (.int (1 : Int32)), .val (.int (0 : Int32)), .val (.long v162), .second, .val (.long v163), .second, .val (.long v25), .second, .val (.long v27), .second]) rfl ?_
        refine o_aloadN G164 d3_49 (pc' := 50) rfl rfl rfl ?_
        refine o_iload G164 d3_50 (pc' := 52) rfl rfl ?_
        refine o_laload G164 A_r2 (i := 1) rfl (by decide) (v := (.long v28)) rfl d3_52 (pc' := 53) rfl ?_
        refine o_lload G164 d3_53 (pc' := 55) rfl rfl ?_
        refine o_ldc2 G164 d3_55 (pc' := 58) rfl (hw _ (List.mem_of_getElem? (i := 19) rfl)) ?_
        obtain ⟨v165, e165⟩ : ∃ z, v162 &&& (144115188075855871 : Int64) = z := ⟨_, rfl⟩
        refine o_land G164 d3_58 (pc' := 59) rfl e165 ?_
        obtain ⟨v166, e166⟩ : ∃ z, v28 + v165 = z := ⟨_, rfl⟩
        refine o_ladd G164 d3_59 (pc' := 60) rfl e166 ?_
        refine o_lstore G164 d3_60 (pc' := 62) rfl (l' := #[.val (.ref r0), .val (.ref r1), .val (.ref r2), .val (.int (1 : Int32)), .val (.long z1), .second, .val (.long (0 : Int64)), .second, .val (.int (1 : Int32)), .val (.int (0 : Int32)), .val (.long v162), .second, .val (.long v163), .second, .val (.long v166), .second, .val (.long v27), .second]) rfl ?_
        refine o_lload G164 d3_62 (pc' := 64) rfl rfl ?_
        refine o_ldc2 G164 d3_64 (pc' := 67) rfl (hw _ (List.mem_of_getElem? (i := 19) rfl)) ?_
        obtain ⟨v167, e167⟩ : ∃ z, v166 &&& (144115188075855871 : Int64) = z := ⟨_, rfl⟩
        refine o_land G164 d3_67 (pc' := 68) rfl e167 ?_
        refine o_lload G164 d3_68 (pc' := 70) rfl rfl ?_
        obtain ⟨v168, e168⟩ : ∃ z, v167 + (0 : Int64) = z := ⟨_, rfl⟩
        refine o_ladd G164 d3_70 (pc' := 71) rfl e168 ?_
        refine o_lstore G164 d3_71 (pc' := 73) rfl (l' := #[.val (.ref r0), .val (.ref r1), .val (.ref r2), .val (.int (1 : Int32)), .val (.long z1), .second, .val (.long (0 : Int64)), .second, .val (.int (1 : Int32)), .val (.int (0 : Int32)), .val (.long v162), .second, .val (.long v163), .second, .val (.long v166), .second, .val (.long v168), .second]) rfl ?_
        refine o_aloadN G164 d3_73 (pc' := 74) rfl rfl rfl ?_
        refine o_iload G164 d3_74 (pc' := 76) rfl rfl ?_
        refine o_lload G164 d3_76 (pc' := 78) rfl rfl ?_
        refine o_ldc2 G164 d3_78 (pc' := 81) rfl (hw _ (List.mem_of_getElem? (i := 19) rfl)) ?_
        obtain ⟨v169, e169⟩ : ∃ z, v168 &&& (144115188075855871 : Int64) = z := ⟨_, rfl⟩
        refine o_land G164 d3_81 (pc' := 82) rfl e169 ?_
        refine o_lastore G164 A_r2 g_r2 (i := 1) rfl (by decide) d3_82 (pc' := 83) rfl ?_
        intro T170 h170 G170 W170 A170
        replace A_r0 := A_r0.other W170 hne0
        replace A_r1 := A_r1.other W170 hne1
        replace K := K.wr W170 (Or.inl (List.mem_of_getElem? (i := 0) rfl))
        replace A_r2 := A170
        refine o_lload G170 d3_83 (pc' := 85) rfl rfl ?_
        refine o_bipush G170 d3_85 (pc' := 87) rfl (v := (7 : Int32)) rfl ?_
        obtain ⟨v171, e171⟩ : ∃ z, v163 <<< ((7 : Int32) &&& 0x3f).toInt64 = z := ⟨_, rfl⟩
        refine o_lshl G170 d3_87 (pc' := 88) rfl e171 ?_
        refine o_lload G170 d3_88 (pc' := 90) rfl rfl ?_
        refine o_bipush G170 d3_90 (pc' := 92) rfl (v := (57 : Int32)) rfl ?_
        obtain ⟨v172, e172⟩ : ∃ z, (v162.toUInt64 >>> ((57 : Int32) &&& 0x3f).toInt64.toUInt64).toInt64 = z := ⟨_, rfl⟩
        refine o_lushr G170 d3_92 (pc' := 93) rfl e172 ?_
        obtain ⟨v173, e173⟩ : ∃ z, v171 ||| v172 = z := ⟨_, rfl⟩
        refine o_lor G170 d3_93 (pc' := 94) rfl e173 ?_
        refine o_lload G170 d3_94 (pc' := 96) rfl rfl ?_
        refine o_bipush G170 d3_96 (pc' := 98) rfl (v := (57 : Int32)) rfl ?_
        obtain ⟨v174, e174⟩ : ∃ z, (v166.toUInt64 >>> ((57 : Int32) &&& 0x3f).toInt64.toUInt64).toInt64 = z := ⟨_, rfl⟩
        refine o_lushr G170 d3_98 (pc' := 99) rfl e174 ?_
        obtain ⟨v175, e175⟩ : ∃ z, v173 + v174 = z := ⟨_, rfl⟩
        refine o_ladd G170 d3_99 (pc' := 100) rfl e175 ?_
        refine o_lload G170 d3_100 (pc' := 102) rfl rfl ?_
        refine o_bipush G170 d3_102 (pc' := 104) rfl (v := (57 : Int32)) rfl ?_
        obtain ⟨v176, e176⟩ : ∃ z, (v168.toUInt64 >>> ((57 : Int32) &&& 0x3f).toInt64.toUInt64).toInt64 = z := ⟨_, rfl⟩
        refine o_lushr G170 d3_104 (pc' := 105) rfl e176 ?_
        obtain ⟨v177, e177⟩ : ∃ z, v175 + v176 = z := ⟨_, rfl⟩
        refine o_ladd G170 d3_105 (pc' := 106) rfl e177 ?_
        refine o_lstore G170 d3_106 (pc' := 108) rfl (l' := #[.val (.ref r0), .val (.ref r1), .val (.ref r2), .val (.int (1 : Int32)), .val (.long z1), .second, .val (.long v177), .second, .val (.int (1 : Int32)), .val (.int (0 : Int32)), .val (.long v162), .second, .val (.long v163), .second, .val (.long v166), .second, .val (.long v168), .second]) rfl ?_
        obtain ⟨q178, br178, bc178⟩ := own_mac e162 e163 e165 e166 e167 e168 e169 e171 e172 e173 e174 e175 e176 e177 hy0 hz1 br37 b0
        refine o_iinc G170 d3_108 (pc' := 111) rfl rfl (w := (1 : Int32)) rfl (v := (1 : Int32)) (by decide) (l' := #[.val (.ref r0), .val (.ref r1), .val (.ref r2), .val (.int (1 : Int32)), .val (.long z1), .second, .val (.long v177), .second, .val (.int (1 : Int32)), .val (.int (1 : Int32)), .val (.long v162), .second, .val (.long v163), .second, .val (.long v166), .second, .val (.long v168), .second]) rfl ?_
        refine o_iinc G170 d3_111 (pc' := 114) rfl rfl (w := (1 : Int32)) rfl (v := (2 : Int32)) (by decide) (l' := #[.val (.ref r0), .val (.ref r1), .val (.ref r2), .val (.int (1 : Int32)), .val (.long z1), .second, .val (.long v177), .second, .val (.int (2 : Int32)), .val (.int (1 : Int32)), .val (.long v162), .second, .val (.long v163), .second, .val (.long v166), .second, .val (.long v168), .second]) rfl ?_
        refine o_goto G170 d3_114 (by decide) (pc' := 22) rfl ?_
        refine o_iload G170 d3_22 (pc' := 24) rfl rfl ?_
        refine o_aloadN G170 d3_24 (pc' := 25) rfl rfl rfl ?_
        refine o_arraylength G170 A_r0 (v := (2 : Int32)) rfl d3_25 (pc' := 26) rfl ?_
        refine o_icmp_ge G170 d3_26 (by decide) (pcT := 117) (by decide) (pc' := 29) rfl (fun q => absurd (by decide) q) (fun _ => ?_)
        refine o_aloadN G170 d3_29 (pc' := 30) rfl rfl rfl ?_
        refine o_iload G170 d3_30 (pc' := 32) rfl rfl ?_
        refine o_laload G170 A_r0 (i := 1) rfl (by decide) (v := (.long y1)) rfl d3_32 (pc' := 33) rfl ?_
        refine o_lload G170 d3_33 (pc' := 35) rfl rfl ?_
        obtain ⟨v180, e180⟩ : ∃ z, y1 * z1 = z := ⟨_, rfl⟩
        refine o_lmul G170 d3_35 (pc' := 36) rfl e180 ?_
        refine o_lstore G170 d3_36 (pc' := 38) rfl (l' := #[.val (.ref r0), .val (.ref r1), .val (.ref r2), .val (.int (1 : Int32)), .val (.long z1), .second, .val (.long v177), .second, .val (.int (2 : Int32)), .val (.int (1 : Int32)), .val (.long v180), .second, .val (.long v163), .second, .val (.long v166), .second, .val (.long v168), .second]) rfl ?_
        refine o_aloadN G170 d3_38 (pc' := 39) rfl rfl rfl ?_
        refine o_iload G170 d3_39 (pc' := 41) rfl rfl ?_
        refine o_laload G170 A_r0 (i := 1) rfl (by decide) (v := (.long y1)) rfl d3_41 (pc' := 42) rfl ?_
        refine o_lload G170 d3_42 (pc' := 44) rfl rfl ?_
        obtain ⟨v181, e181⟩ : ∃ z, f_4 y1 z1 = z := ⟨_, rfl⟩
        refine o_callP G170 (z := (⟨"java/lang/Math", "multiplyHigh", "(JJ)J"⟩ : MethodName)) (r := (.long v181)) (argsL := [(.long y1), (.long z1)]) (rest := []) (W := 0) (hw _ (List.mem_of_getElem? (i := 14) rfl)) (hw _ (List.mem_of_getElem? (i := 15) rfl)) d3_44 (by decide) (hw _ (List.mem_of_getElem? (i := 16) rfl)) (hw _ (List.mem_of_getElem? (i := 17) rfl)) (by rw [← e181]; exact rm4 hw y1 z1 h170 n0 G170.sz) (by decide) (by decide) rfl (lenOf pd_1 rfl) rfl (Nat.le_of_eq rfl) (pc' := 47) rfl (by decide) (by decide) ?_
        intro T182 G182
        refine o_lstore G182 d3_47 (pc' := 49) rfl (l' := #[.val (.ref r0), .val (.ref r1), .val (.ref r2), .val (.int (1 : Int32)), .val (.long z1), .second, .val (.long v177), .second, .val (.int (2 : Int32)), .val (.int (1 : Int32)), .val (.long v180), .second, .val (.long v181), .second, .val (.long v166), .second, .val (.long v168), .second]) rfl ?_
        refine o_aloadN G182 d3_49 (pc' := 50) rfl rfl rfl ?_
        refine o_iload G182 d3_50 (pc' := 52) rfl rfl ?_
        refine o_laload G182 A_r2 (i := 2) rfl (by decide) (v := (.long v95)) rfl d3_52 (pc' := 53) rfl ?_
        refine o_lload G182 d3_53 (pc' := 55) rfl rfl ?_
        refine o_ldc2 G182 d3_55 (pc' := 58) rfl (hw _ (List.mem_of_getElem? (i := 19) rfl)) ?_
        obtain ⟨v183, e183⟩ : ∃ z, v180 &&& (144115188075855871 : Int64) = z := ⟨_, rfl⟩
        refine o_land G182 d3_58 (pc' := 59) rfl e183 ?_
        obtain ⟨v184, e184⟩ : ∃ z, v95 + v183 = z := ⟨_, rfl⟩
        refine o_ladd G182 d3_59 (pc' := 60) rfl e184 ?_
        refine o_lstore G182 d3_60 (pc' := 62) rfl (l' := #[.val (.ref r0), .val (.ref r1), .val (.ref r2), .val (.int (1 : Int32)), .val (.long z1), .second, .val (.long v177), .second, .val (.int (2 : Int32)), .val (.int (1 : Int32)), .val (.long v180), .second, .val (.long v181), .second, .val (.long v184), .second, .val (.long v168), .second]) rfl ?_
        refine o_lload G182 d3_62 (pc' := 64) rfl rfl ?_
        refine o_ldc2 G182 d3_64 (pc' := 67) rfl (hw _ (List.mem_of_getElem? (i := 19) rfl)) ?_
        obtain ⟨v185, e185⟩ : ∃ z, v184 &&& (144115188075855871 : Int64) = z := ⟨_, rfl⟩
        refine o_land G182 d3_67 (pc' := 68) rfl e185 ?_
        refine o_lload G182 d3_68 (pc' := 70) rfl rfl ?_
        obtain ⟨v186, e186⟩ : ∃ z, v185 + v177 = z := ⟨_, rfl⟩
        refine o_ladd G182 d3_70 (pc' := 71) rfl e186 ?_
        refine o_lstore G182 d3_71 (pc' := 73) rfl (l' := #[.val (.ref r0), .val (.ref r1), .val (.ref r2), .val (.int (1 : Int32)), .val (.long z1), .second, .val (.long v177), .second, .val (.int (2 : Int32)), .val (.int (1 : Int32)), .val (.long v180), .second, .val (.long v181), .second, .val (.long v184), .second, .val (.long v186), .second]) rfl ?_
        refine o_aloadN G182 d3_73 (pc' := 74) rfl rfl rfl ?_
        refine o_iload G182 d3_74 (pc' := 76) rfl rfl ?_
        refine o_lload G182 d3_76 (pc' := 78) rfl rfl ?_
        refine o_ldc2 G182 d3_78 (pc' := 81) rfl (hw _ (List.mem_of_getElem? (i := 19) rfl)) ?_
        obtain ⟨v187, e187⟩ : ∃ z, v186 &&& (144115188075855871 : Int64) = z := ⟨_, rfl⟩
        refine o_land G182 d3_81 (pc' := 82) rfl e187 ?_
        refine o_lastore G182 A_r2 g_r2 (i := 2) rfl (by decide) d3_82 (pc' := 83) rfl ?_
        intro T188 h188 G188 W188 A188
        replace A_r0 := A_r0.other W188 hne0
        replace A_r1 := A_r1.other W188 hne1
        replace K := K.wr W188 (Or.inl (List.mem_of_getElem? (i := 0) rfl))
        replace A_r2 := A188
        refine o_lload G188 d3_83 (pc' := 85) rfl rfl ?_
        refine o_bipush G188 d3_85 (pc' := 87) rfl (v := (7 : Int32)) rfl ?_
        obtain ⟨v189, e189⟩ : ∃ z, v181 <<< ((7 : Int32) &&& 0x3f).toInt64 = z := ⟨_, rfl⟩
        refine o_lshl G188 d3_87 (pc' := 88) rfl e189 ?_
        refine o_lload G188 d3_88 (pc' := 90) rfl rfl ?_
        refine o_bipush G188 d3_90 (pc' := 92) rfl (v := (57 : Int32)) rfl ?_
        obtain ⟨v190, e190⟩ : ∃ z, (v180.toUInt64 >>> ((57 : Int32) &&& 0x3f).toInt64.toUInt64).toInt64 = z := ⟨_, rfl⟩
        refine o_lushr G188 d3_92 (pc' := 93) rfl e190 ?_
        obtain ⟨v191, e191⟩ : ∃ z, v189 ||| v190 = z := ⟨_, rfl⟩
        refine o_lor G188 d3_93 (pc' := 94) rfl e191 ?_
        refine o_lload G188 d3_94 (pc' := 96) rfl rfl ?_
        refine o_bipush G188 d3_96 (pc' := 98) rfl (v := (57 : Int32)) rfl ?_
        obtain ⟨v192, e192⟩ : ∃ z, (v184.toUInt64 >>> ((57 : Int32) &&& 0x3f).toInt64.toUInt64).toInt64 = z := ⟨_, rfl⟩
        refine o_lushr G188 d3_98 (pc' := 99) rfl e192 ?_
        obtain ⟨v193, e193⟩ : ∃ z, v191 + v192 = z := ⟨_, rfl⟩
        refine o_ladd G188 d3_99 (pc' := 100) rfl e193 ?_
        refine o_lload G188 d3_100 (pc' := 102) rfl rfl ?_
        refine o_bipush G188 d3_102 (pc' := 104) rfl (v := (57 : Int32)) rfl ?_
        obtain ⟨v194, e194⟩ : ∃ z, (v186.toUInt64 >>> ((57 : Int32) &&& 0x3f).toInt64.toUInt64).toInt64 = z := ⟨_, rfl⟩
        refine o_lushr G188 d3_104 (pc' := 105) rfl e194 ?_
        obtain ⟨v195, e195⟩ : ∃ z, v193 + v194 = z := ⟨_, rfl⟩
        refine o_ladd G188 d3_105 (pc' := 106) rfl e195 ?_
        refine o_lstore G188 d3_106 (pc' := 108) rfl (l' := #[.val (.ref r0), .val (.ref r1), .val (.ref r2), .val (.int (1 : Int32)), .val (.long z1), .second, .val (.long v195), .second, .val (.int (2 : Int32)), .val (.int (1 : Int32)), .val (.long v180), .second, .val (.long v181), .second, .val (.long v184), .second, .val (.long v186), .second]) rfl ?_
        obtain ⟨q196, br196, bc196⟩ := own_mac e180 e181 e183 e184 e185 e186 e187 e189 e190 e191 e192 e193 e194 e195 hy1 hz1 br98 bc178
        refine o_iinc G188 d3_108 (pc' := 111) rfl rfl (w := (1 : Int32)) rfl (v := (2 : Int32)) (by decide) (l' := #[.val (.ref r0), .val (.ref r1), .val (.ref r2), .val (.int (1 : Int32)), .val (.long z1), .second, .val (.long v195), .second, .val (.int (2 : Int32)), .val (.int (2 : Int32)), .val (.long v180), .second, .val (.long v181), .second, .val (.long v184), .second, .val (.long v186), .second]) rfl ?_
        refine o_iinc G188 d3_111 (pc' := 114) rfl rfl (w := (1 : Int32)) rfl (v := (3 : Int32)) (by decide) (l' := #[.val (.ref r0), .val (.ref r1), .val (.ref r2), .val (.int (1 : Int32)), .val (.long z1), .second, .val (.long v195), .second, .val (.int (3 : Int32)), .val (.int (2 : Int32)), .val (.long v180), .second, .val (.long v181), .second, .val (.long v184), .second, .val (.long v186), .second]) rfl ?_
        refine o_goto G188 d3_114 (by decide) (pc' := 22) rfl ?_
        refine o_iload G188 d3_22 (pc' := 24) rfl rfl ?_
        refine o_aloadN G188 d3_24 (pc' := 25) rfl rfl rfl ?_
        refine o_arraylength G188 A_r0 (v := (2 : Int32)) rfl d3_25 (pc' := 26) rfl ?_
        refine o_icmp_ge G188 d3_26 (by decide) (pcT := 117) (by decide) (pc' := 29) rfl (fun _ => ?_) (fun q => absurd q (by decide))
        refine o_lload G188 d3_117 (pc' := 119) rfl rfl ?_
        refine o_lconst G188 d3_119 (pc' := 120) rfl (v := (0 : Int64)) rfl ?_
        refine o_lcmp_eq G188 d3_120 (pc1 := 121) rfl d3_121 (by decide) (pcT := 156) (by decide) (pc' := 124) rfl (fun hc198 => ?_) (fun hc198 => ?_)
        · refine o_iinc G188 d3_156 (pc' := 159) rfl rfl (w := (1 : Int32)) rfl (v := (2 : Int32)) (by decide) (l' := #[.val (.ref r0), .val (.ref r1), .val (.ref r2), .val (.int (2 : Int32)), .val (.long z1), .second, .val (.long v195), .second, .val (.int (3 : Int32)), .val (.int (2 : Int32)), .val (.long v180), .second, .val (.long v181), .second, .val (.long v184), .second, .val (.long v186), .second]) rfl ?_
          refine o_goto G188 d3_159 (by decide) (pc' := 2) rfl ?_
          refine o_iloadN G188 d3_2 (pc' := 3) rfl rfl ?_
          refine o_aloadN G188 d3_3 (pc' := 4) rfl rfl rfl ?_
          refine o_arraylength G188 A_r1 (v := (2 : Int32)) rfl d3_4 (pc' := 5) rfl ?_
          refine o_icmp_ge G188 d3_5 (by decide) (pcT := 162) (by decide) (pc' := 8) rfl (fun _ => ?_) (fun q => absurd q (by decide))
          have zhc159 := congrArg Int64.toInt hc159
          have zhc198 := congrArg Int64.toInt hc198
          refine o_return G188 d3_162 ⟨v10, v169, v187, v155, (0 : Int64), rfl, K, A_r2.congr (fun j hj => ?_), br19, br178, br196, br158, b0, ?_⟩ (by decide) (by decide)
          · match j, hj with
            | 0, _ => rfl
            | 1, _ => rfl
            | 2, _ => rfl
            | 3, _ => rfl
            | 4, _ => rfl
            | j + 5, hj => omega
          · simp only [own_val]
            omega
        · refine o_aloadN G188 d3_124 (pc' := 125) rfl rfl rfl ?_
          refine o_iload G188 d3_125 (pc' := 127) rfl rfl ?_
          refine o_laload G188 A_r2 (i := 3) rfl (by decide) (v := (.long v155)) rfl d3_127 (pc' := 128) rfl ?_
          refine o_lload G188 d3_128 (pc' := 130) rfl rfl ?_
          obtain ⟨v200, e200⟩ : ∃ z, v155 + v195 = z := ⟨_, rfl⟩
          refine o_ladd G188 d3_130 (pc' := 131) rfl e200 ?_
          refine o_lstore G188 d3_131 (pc' := 133) rfl (l' := #[.val (.ref r0), .val (.ref r1), .val (.ref r2), .val (.int (1 : Int32)), .val (.long z1), .second, .val (.long v195), .second, .val (.int (3 : Int32)), .val (.long v200), .second, .unset, .val (.long v181), .second, .val (.long v184), .second, .val (.long v186), .second]) rfl ?_
          refine o_aloadN G188 d3_133 (pc' := 134) rfl rfl rfl ?_
          refine o_iload G188 d3_134 (pc' := 136) rfl rfl ?_
          refine o_lload G188 d3_136 (pc' := 138) rfl rfl ?_
          refine o_ldc2 G188 d3_138 (pc' := 141) rfl (hw _ (List.mem_of_getElem? (i := 19) rfl)) ?_
          obtain ⟨v201, e201⟩ : ∃ z, v200 &&& (144115188075855871 : Int64) = z := ⟨_, rfl⟩
          refine o_land G188 d3_141 (pc' := 142) rfl e201 ?_
          refine o_lastore G188 A_r2 g_r2 (i := 3) rfl (by decide) d3_142 (pc' := 143) rfl ?_
          intro T202 h202 G202 W202 A202
          replace A_r0 := A_r0.other W202 hne0
          replace A_r1 := A_r1.other W202 hne1
          replace K := K.wr W202 (Or.inl (List.mem_of_getElem? (i := 0) rfl))
          replace A_r2 := A202
          refine o_lload G202 d3_143 (pc' := 145) rfl rfl ?_
          refine o_bipush G202 d3_145 (pc' := 147) rfl (v := (57 : Int32)) rfl ?_
          obtain ⟨v203, e203⟩ : ∃ z, (v200.toUInt64 >>> ((57 : Int32) &&& 0x3f).toInt64.toUInt64).toInt64 = z := ⟨_, rfl⟩
          refine o_lushr G202 d3_147 (pc' := 148) rfl e203 ?_
          refine o_lstore G202 d3_148 (pc' := 150) rfl (l' := #[.val (.ref r0), .val (.ref r1), .val (.ref r2), .val (.int (1 : Int32)), .val (.long z1), .second, .val (.long v203), .second, .val (.int (3 : Int32)), .val (.long v200), .second, .unset, .val (.long v181), .second, .val (.long v184), .second, .val (.long v186), .second]) rfl ?_
          obtain ⟨q204, br204, bc204⟩ := own_prop e200 e201 e203 br158 bc196
          refine o_iinc G202 d3_150 (pc' := 153) rfl rfl (w := (1 : Int32)) rfl (v := (4 : Int32)) (by decide) (l' := #[.val (.ref r0), .val (.ref r1), .val (.ref r2), .val (.int (1 : Int32)), .val (.long z1), .second, .val (.long v203), .second, .val (.int (4 : Int32)), .val (.long v200), .second, .unset, .val (.long v181), .second, .val (.long v184), .second, .val (.long v186), .second]) rfl ?_
          refine o_goto G202 d3_153 (by decide) (pc' := 117) rfl ?_
          refine o_lload G202 d3_117 (pc' := 119) rfl rfl ?_
          refine o_lconst G202 d3_119 (pc' := 120) rfl (v := (0 : Int64)) rfl ?_
          refine o_lcmp_eq G202 d3_120 (pc1 := 121) rfl d3_121 (by decide) (pcT := 156) (by decide) (pc' := 124) rfl (fun hc205 => ?_) (fun hc205 => ?_)
          · refine o_iinc G202 d3_156 (pc' := 159) rfl rfl (w := (1 : Int32)) rfl (v := (2 : Int32)) (by decide) (l' := #[.val (.ref r0), .val (.ref r1), .val (.ref r2), .val (.int (2 : Int32)), .val (.long z1), .second, .val (.long v203), .second, .val (.int (4 : Int32)), .val (.long v200), .second, .unset, .val (.long v181), .second, .val (.long v184), .second, .val (.long v186), .second]) rfl ?_
            refine o_goto G202 d3_159 (by decide) (pc' := 2) rfl ?_
            refine o_iloadN G202 d3_2 (pc' := 3) rfl rfl ?_
            refine o_aloadN G202 d3_3 (pc' := 4) rfl rfl rfl ?_
            refine o_arraylength G202 A_r1 (v := (2 : Int32)) rfl d3_4 (pc' := 5) rfl ?_
            refine o_icmp_ge G202 d3_5 (by decide) (pcT := 162) (by decide) (pc' := 8) rfl (fun _ => ?_) (fun q => absurd q (by decide))
            have zhc159 := congrArg Int64.toInt hc159
            have zhc205 := congrArg Int64.toInt hc205
            refine o_return G202 d3_162 ⟨v10, v169, v187, v201, (0 : Int64), rfl, K, A_r2.congr (fun j hj => ?_), br19, br178, br196, br204, b0, ?_⟩ (by decide) (by decide)
            · match j, hj with
              | 0, _ => rfl
              | 1, _ => rfl
              | 2, _ => rfl
              | 3, _ => rfl
              | 4, _ => rfl
              | j + 5, hj => omega
            · simp only [own_val]
              omega
          · refine o_aloadN G202 d3_124 (pc' := 125) rfl rfl rfl ?_
            refine o_iload G202 d3_125 (pc' := 127) rfl rfl ?_
            refine o_laload G202 A_r2 (i := 4) rfl (by decide) (v := (.long (0 : Int64))) rfl d3_127 (pc' := 128) rfl ?_
            refine o_lload G202 d3_128 (pc' := 130) rfl rfl ?_
            obtain ⟨v207, e207⟩ : ∃ z, (0 : Int64) + v203 = z := ⟨_, rfl⟩
            refine o_ladd G202 d3_130 (pc' := 131) rfl e207 ?_
            refine o_lstore G202 d3_131 (pc' := 133) rfl (l' := #[.val (.ref r0), .val (.ref r1), .val (.ref r2), .val (.int (1 : Int32)), .val (.long z1), .second, .val (.long v203), .second, .val (.int (4 : Int32)), .val (.long v207), .second, .unset, .val (.long v181), .second, .val (.long v184), .second, .val (.long v186), .second]) rfl ?_
            refine o_aloadN G202 d3_133 (pc' := 134) rfl rfl rfl ?_
            refine o_iload G202 d3_134 (pc' := 136) rfl rfl ?_
            refine o_lload G202 d3_136 (pc' := 138) rfl rfl ?_
            refine o_ldc2 G202 d3_138 (pc' := 141) rfl (hw _ (List.mem_of_getElem? (i := 19) rfl)) ?_
            obtain ⟨v208, e208⟩ : ∃ z, v207 &&& (144115188075855871 : Int64) = z := ⟨_, rfl⟩
            refine o_land G202 d3_141 (pc' := 142) rfl e208 ?_
            refine o_lastore G202 A_r2 g_r2 (i := 4) rfl (by decide) d3_142 (pc' := 143) rfl ?_
            intro T209 h209 G209 W209 A209
            replace A_r0 := A_r0.other W209 hne0
            replace A_r1 := A_r1.other W209 hne1
            replace K := K.wr W209 (Or.inl (List.mem_of_getElem? (i := 0) rfl))
            replace A_r2 := A209
            refine o_lload G209 d3_143 (pc' := 145) rfl rfl ?_
            refine o_bipush G209 d3_145 (pc' := 147) rfl (v := (57 : Int32)) rfl ?_
            obtain ⟨v210, e210⟩ : ∃ z, (v207.toUInt64 >>> ((57 : Int32) &&& 0x3f).toInt64.toUInt64).toInt64 = z := ⟨_, rfl⟩
            refine o_lushr G209 d3_147 (pc' := 148) rfl e210 ?_
            refine o_lstore G209 d3_148 (pc' := 150) rfl (l' := #[.val (.ref r0), .val (.ref r1), .val (.ref r2), .val (.int (1 : Int32)), .val (.long z1), .second, .val (.long v210), .second, .val (.int (4 : Int32)), .val (.long v207), .second, .unset, .val (.long v181), .second, .val (.long v184), .second, .val (.long v186), .second]) rfl ?_
            obtain ⟨q211, br211, bc211⟩ := own_prop e207 e208 e210 b0 bc204
            refine o_iinc G209 d3_150 (pc' := 153) rfl rfl (w := (1 : Int32)) rfl (v := (5 : Int32)) (by decide) (l' := #[.val (.ref r0), .val (.ref r1), .val (.ref r2), .val (.int (1 : Int32)), .val (.long z1), .second, .val (.long v210), .second, .val (.int (5 : Int32)), .val (.long v207), .second, .unset, .val (.long v181), .second, .val (.long v184), .second, .val (.long v186), .second]) rfl ?_
            refine o_goto G209 d3_153 (by decide) (pc' := 117) rfl ?_
            refine o_lload G209 d3_117 (pc' := 119) rfl rfl ?_
            refine o_lconst G209 d3_119 (pc' := 120) rfl (v := (0 : Int64)) rfl ?_
            refine o_lcmp_eq G209 d3_120 (pc1 := 121) rfl d3_121 (by decide) (pcT := 156) (by decide) (pc' := 124) rfl (fun _ => ?_) (fun q => absurd (Int64.toInt_inj.mp (by rw [b01]; omega)) q)
            refine o_iinc G209 d3_156 (pc' := 159) rfl rfl (w := (1 : Int32)) rfl (v := (2 : Int32)) (by decide) (l' := #[.val (.ref r0), .val (.ref r1), .val (.ref r2), .val (.int (2 : Int32)), .val (.long z1), .second, .val (.long v210), .second, .val (.int (5 : Int32)), .val (.long v207), .second, .unset, .val (.long v181), .second, .val (.long v184), .second, .val (.long v186), .second]) rfl ?_
            refine o_goto G209 d3_159 (by decide) (pc' := 2) rfl ?_
            refine o_iloadN G209 d3_2 (pc' := 3) rfl rfl ?_
            refine o_aloadN G209 d3_3 (pc' := 4) rfl rfl rfl ?_
            refine o_arraylength G209 A_r1 (v := (2 : Int32)) rfl d3_4 (pc' := 5) rfl ?_
            refine o_icmp_ge G209 d3_5 (by decide) (pcT := 162) (by decide) (pc' := 8) rfl (fun _ => ?_) (fun q => absurd q (by decide))
            have zhc159 := congrArg Int64.toInt hc159
            refine o_return G209 d3_162 ⟨v10, v169, v187, v201, v208, rfl, K, A_r2.congr (fun j hj => ?_), br19, br178, br196, br204, br211, ?_⟩ (by decide) (by decide)
            · match j, hj with
              | 0, _ => rfl
              | 1, _ => rfl
              | 2, _ => rfl
              | 3, _ => rfl
              | 4, _ => rfl
              | j + 5, hj => omega
            · simp only [own_val]
              omega
      · refine o_aloadN G156 d3_124 (pc' := 125) rfl rfl rfl ?_
        refine o_iload G156 d3_125 (pc' := 127) rfl rfl ?_
        refine o_laload G156 A_r2 (i := 4) rfl (by decide) (v := (.long (0 : Int64))) rfl d3_127 (pc' := 128) rfl ?_
        refine o_lload G156 d3_128 (pc' := 130) rfl rfl ?_
        obtain ⟨v214, e214⟩ : ∃ z, (0 : Int64) + v157 = z := ⟨_, rfl⟩
        refine o_ladd G156 d3_130 (pc' := 131) rfl e214 ?_
        refine o_lstore G156 d3_131 (pc' := 133) rfl (l' := #[.val (.ref r0), .val (.ref r1), .val (.ref r2), .val (.int (0 : Int32)), .val (.long z0), .second, .val (.long v157), .second, .val (.int (4 : Int32)), .val (.long v214), .second, .unset, .val (.long v22), .second, .val (.long v25), .second, .val (.long v27), .second]) rfl ?_
        refine o_aloadN G156 d3_133 (pc' := 134) rfl rfl rfl ?_
        refine o_iload G156 d3_134 (pc' := 136) rfl rfl ?_
        refine o_lload G156 d3_136 (pc' := 138) rfl rfl ?_
        refine o_ldc2 G156 d3_138 (pc' := 141) rfl (hw _ (List.mem_of_getElem? (i := 19) rfl)) ?_
        obtain ⟨v215, e215⟩ : ∃ z, v214 &&& (144115188075855871 : Int64) = z := ⟨_, rfl⟩
        refine o_land G156 d3_141 (pc' := 142) rfl e215 ?_
        refine o_lastore G156 A_r2 g_r2 (i := 4) rfl (by decide) d3_142 (pc' := 143) rfl ?_
        intro T216 h216 G216 W216 A216
        replace A_r0 := A_r0.other W216 hne0
        replace A_r1 := A_r1.other W216 hne1
        replace K := K.wr W216 (Or.inl (List.mem_of_getElem? (i := 0) rfl))
        replace A_r2 := A216
        refine o_lload G216 d3_143 (pc' := 145) rfl rfl ?_
        refine o_bipush G216 d3_145 (pc' := 147) rfl (v := (57 : Int32)) rfl ?_
        obtain ⟨v217, e217⟩ : ∃ z, (v214.toUInt64 >>> ((57 : Int32) &&& 0x3f).toInt64.toUInt64).toInt64 = z := ⟨_, rfl⟩
        refine o_lushr G216 d3_147 (pc' := 148) rfl e217 ?_
        refine o_lstore G216 d3_148 (pc' := 150) rfl (l' := #[.val (.ref r0), .val (.ref r1), .val (.ref r2), .val (.int (0 : Int32)), .val (.long z0), .second, .val (.long v217), .second, .val (.int (4 : Int32)), .val (.long v214), .second, .unset, .val (.long v22), .second, .val (.long v25), .second, .val (.long v27), .second]) rfl ?_
        obtain ⟨q218, br218, bc218⟩ := own_prop e214 e215 e217 b0 bc158
        refine o_iinc G216 d3_150 (pc' := 153) rfl rfl (w := (1 : Int32)) rfl (v := (5 : Int32)) (by decide) (l' := #[.val (.ref r0), .val (.ref r1), .val (.ref r2), .val (.int (0 : Int32)), .val (.long z0), .second, .val (.long v217), .second, .val (.int (5 : Int32)), .val (.long v214), .second, .unset, .val (.long v22), .second, .val (.long v25), .second, .val (.long v27), .second]) rfl ?_
        refine o_goto G216 d3_153 (by decide) (pc' := 117) rfl ?_
        refine o_lload G216 d3_117 (pc' := 119) rfl rfl ?_
        refine o_lconst G216 d3_119 (pc' := 120) rfl (v := (0 : Int64)) rfl ?_
        refine o_lcmp_eq G216 d3_120 (pc1 := 121) rfl d3_121 (by decide) (pcT := 156) (by decide) (pc' := 124) rfl (fun _ => ?_) (fun q => absurd (Int64.toInt_inj.mp (by rw [b01]; omega)) q)
        refine o_iinc G216 d3_156 (pc' := 159) rfl rfl (w := (1 : Int32)) rfl (v := (1 : Int32)) (by decide) (l' := #[.val (.ref r0), .val (.ref r1), .val (.ref r2), .val (.int (1 : Int32)), .val (.long z0), .second, .val (.long v217), .second, .val (.int (5 : Int32)), .val (.long v214), .second, .unset, .val (.long v22), .second, .val (.long v25), .second, .val (.long v27), .second]) rfl ?_
        refine o_goto G216 d3_159 (by decide) (pc' := 2) rfl ?_
        refine o_iloadN G216 d3_2 (pc' := 3) rfl rfl ?_
        refine o_aloadN G216 d3_3 (pc' := 4) rfl rfl rfl ?_
        refine o_arraylength G216 A_r1 (v := (2 : Int32)) rfl d3_4 (pc' := 5) rfl ?_
        refine o_icmp_ge G216 d3_5 (by decide) (pcT := 162) (by decide) (pc' := 8) rfl (fun q => absurd (by decide) q) (fun _ => ?_)
        refine o_aloadN G216 d3_8 (pc' := 9) rfl rfl rfl ?_
        refine o_iloadN G216 d3_9 (pc' := 10) rfl rfl ?_
        refine o_laload G216 A_r1 (i := 1) rfl (by decide) (v := (.long z1)) rfl d3_10 (pc' := 11) rfl ?_
        refine o_lstore G216 d3_11 (pc' := 13) rfl (l' := #[.val (.ref r0), .val (.ref r1), .val (.ref r2), .val (.int (1 : Int32)), .val (.long z1), .second, .val (.long v217), .second, .val (.int (5 : Int32)), .val (.long v214), .second, .unset, .val (.long v22), .second, .val (.long v25), .second, .val (.long v27), .second]) rfl ?_
        refine o_lconst G216 d3_13 (pc' := 14) rfl (v := (0 : Int64)) rfl ?_
        refine o_lstore G216 d3_14 (pc' := 16) rfl (l' := #[.val (.ref r0), .val (.ref r1), .val (.ref r2), .val (.int (1 : Int32)), .val (.long z1), .second, .val (.long (0 : Int64)), .second, .val (.int (5 : Int32)), .val (.long v214), .second, .unset, .val (.long v22), .second, .val (.long v25), .second, .val (.long v27), .second]) rfl ?_
        refine o_iloadN G216 d3_16 (pc' := 17) rfl rfl ?_
        refine o_istore G216 d3_17 (pc' := 19) rfl (l' := #[.val (.ref r0), .val (.ref r1), .val (.ref r2), .val (.int (1 : Int32)), .val (.long z1), .second, .val (.long (0 : Int64)), .second, .val (.int (1 : Int32)), .val (.long v214), .second, .unset, .val (.long v22), .second, .val (.long v25), .second, .val (.long v27), .second]) rfl ?_
        refine o_iconst G216 d3_19 (pc' := 20) rfl (v := (0 : Int32)) rfl ?_
        refine o_istore G216 d3_20 (pc' := 22) rfl (l' := #[.val (.ref r0), .val (.ref r1), .val (.ref r2), .val (.int (1 : Int32)), .val (.long z1), .second, .val (.long (0 : Int64)), .second, .val (.int (1 : Int32)), .val (.int (0 : Int32)), .unset, .unset, .val (.long v22), .second, .val (.long v25), .second, .val (.long v27), .second]) rfl ?_
        refine o_iload G216 d3_22 (pc' := 24) rfl rfl ?_
        refine o_aloadN G216 d3_24 (pc' := 25) rfl rfl rfl ?_
        refine o_arraylength G216 A_r0 (v := (2 : Int32)) rfl d3_25 (pc' := 26) rfl ?_
        refine o_icmp_ge G216 d3_26 (by decide) (pcT := 117) (by decide) (pc' := 29) rfl (fun q => absurd (by decide) q) (fun _ => ?_)
        refine o_aloadN G216 d3_29 (pc' := 30) rfl rfl rfl ?_
        refine o_iload G216 d3_30 (pc' := 32) rfl rfl ?_
        refine o_laload G216 A_r0 (i := 0) rfl (by decide) (v := (.long y0)) rfl d3_32 (pc' := 33) rfl ?_
        refine o_lload G216 d3_33 (pc' := 35) rfl rfl ?_
        obtain ⟨v222, e222⟩ : ∃ z, y0 * z1 = z := ⟨_, rfl⟩
        refine o_lmul G216 d3_35 (pc' := 36) rfl e222 ?_
        refine o_lstore G216 d3_36 (pc' := 38) rfl (l' := #[.val (.ref r0), .val (.ref r1), .val (.ref r2), .val (.int (1 : Int32)), .val (.long z1), .second, .val (.long (0 : Int64)), .second, .val (.int (1 : Int32)), .val (.int (0 : Int32)), .val (.long v222), .second, .val (.long v22), .second, .val (.long v25), .second, .val (.long v27), .second]) rfl ?_
        refine o_aloadN G216 d3_38 (pc' := 39) rfl rfl rfl ?_
        refine o_iload G216 d3_39 (pc' := 41) rfl rfl ?_
        refine o_laload G216 A_r0 (i := 0) rfl (by decide) (v := (.long y0)) rfl d3_41 (pc' := 42) rfl ?_
        refine o_lload G216 d3_42 (pc' := 44) rfl rfl ?_
        obtain ⟨v223, e223⟩ : ∃ z, f_4 y0 z1 = z := ⟨_, rfl⟩
        refine o_callP G216 (z := (⟨"java/lang/Math", "multiplyHigh", "(JJ)J"⟩ : MethodName)) (r := (.long v223)) (argsL := [(.long y0), (.long z1)]) (rest := []) (W := 0) (hw _ (List.mem_of_getElem? (i := 14) rfl)) (hw _ (List.mem_of_getElem? (i := 15) rfl)) d3_44 (by decide) (hw _ (List.mem_of_getElem? (i := 16) rfl)) (hw _ (List.mem_of_getElem? (i := 17) rfl)) (by rw [← e223]; exact rm4 hw y0 z1 h216 n0 G216.sz) (by decide) (by decide) rfl (lenOf pd_1 rfl) rfl (Nat.le_of_eq rfl) (pc' := 47) rfl (by decide) (by decide) ?_
        intro T224 G224
        refine o_lstore G224 d3_47 (pc' := 49) rfl (l' := #[.val (.ref r0), .val (.ref r1), .val (.ref r2), .val (.int (1 : Int32)), .val (.long z1), .second, .val (.long (0 : Int64)), .second, .val (.int (1 : Int32)), .val (.int (0 : Int32)), .val (.long v222), .second, .val (.long v223), .second, .val (.long v25), .second, .val (.long v27), .second]) rfl ?_
        refine o_aloadN G224 d3_49 (pc' := 50) rfl rfl rfl ?_
        refine o_iload G224 d3_50 (pc' := 52) rfl rfl ?_
        refine o_laload G224 A_r2 (i := 1) rfl (by decide) (v := (.long v28)) rfl d3_52 (pc' := 53) rfl ?_
        refine o_lload G224 d3_53 (pc' := 55) rfl rfl ?_
        refine o_ldc2 G224 d3_55 (pc' := 58) rfl (hw _ (List.mem_of_getElem? (i := 19) rfl)) ?_
        obtain ⟨v225, e225⟩ : ∃ z, v222 &&& (144115188075855871 : Int64) = z := ⟨_, rfl⟩
        refine o_land G224 d3_58 (pc' := 59) rfl e225 ?_
        obtain ⟨v226, e226⟩ : ∃ z, v28 + v225 = z := ⟨_, rfl⟩
        refine o_ladd G224 d3_59 (pc' := 60) rfl e226 ?_
        refine o_lstore G224 d3_60 (pc' := 62) rfl (l' := #[.val (.ref r0), .val (.ref r1), .val (.ref r2), .val (.int (1 : Int32)), .val (.long z1), .second, .val (.long (0 : Int64)), .second, .val (.int (1 : Int32)), .val (.int (0 : Int32)), .val (.long v222), .second, .val (.long v223), .second, .val (.long v226), .second, .val (.long v27), .second]) rfl ?_
        refine o_lload G224 d3_62 (pc' := 64) rfl rfl ?_
        refine o_ldc2 G224 d3_64 (pc' := 67) rfl (hw _ (List.mem_of_getElem? (i := 19) rfl)) ?_
        obtain ⟨v227, e227⟩ : ∃ z, v226 &&& (144115188075855871 : Int64) = z := ⟨_, rfl⟩
        refine o_land G224 d3_67 (pc' := 68) rfl e227 ?_
        refine o_lload G224 d3_68 (pc' := 70) rfl rfl ?_
        obtain ⟨v228, e228⟩ : ∃ z, v227 + (0 : Int64) = z := ⟨_, rfl⟩
        refine o_ladd G224 d3_70 (pc' := 71) rfl e228 ?_
        refine o_lstore G224 d3_71 (pc' := 73) rfl (l' := #[.val (.ref r0), .val (.ref r1), .val (.ref r2), .val (.int (1 : Int32)), .val (.long z1), .second, .val (.long (0 : Int64)), .second, .val (.int (1 : Int32)), .val (.int (0 : Int32)), .val (.long v222), .second, .val (.long v223), .second, .val (.long v226), .second, .val (.long v228), .second]) rfl ?_
        refine o_aloadN G224 d3_73 (pc' := 74) rfl rfl rfl ?_
        refine o_iload G224 d3_74 (pc' := 76) rfl rfl ?_
        refine o_lload G224 d3_76 (pc' := 78) rfl rfl ?_
        refine o_ldc2 G224 d3_78 (pc' := 81) rfl (hw _ (List.mem_of_getElem? (i := 19) rfl)) ?_
        obtain ⟨v229, e229⟩ : ∃ z, v228 &&& (144115188075855871 : Int64) = z := ⟨_, rfl⟩
        refine o_land G224 d3_81 (pc' := 82) rfl e229 ?_
        refine o_lastore G224 A_r2 g_r2 (i := 1) rfl (by decide) d3_82 (pc' := 83) rfl ?_
        intro T230 h230 G230 W230 A230
        replace A_r0 := A_r0.other W230 hne0
        replace A_r1 := A_r1.other W230 hne1
        replace K := K.wr W230 (Or.inl (List.mem_of_getElem? (i := 0) rfl))
        replace A_r2 := A230
        refine o_lload G230 d3_83 (pc' := 85) rfl rfl ?_
        refine o_bipush G230 d3_85 (pc' := 87) rfl (v := (7 : Int32)) rfl ?_
        obtain ⟨v231, e231⟩ : ∃ z, v223 <<< ((7 : Int32) &&& 0x3f).toInt64 = z := ⟨_, rfl⟩
        refine o_lshl G230 d3_87 (pc' := 88) rfl e231 ?_
        refine o_lload G230 d3_88 (pc' := 90) rfl rfl ?_
        refine o_bipush G230 d3_90 (pc' := 92) rfl (v := (57 : Int32)) rfl ?_
        obtain ⟨v232, e232⟩ : ∃ z, (v222.toUInt64 >>> ((57 : Int32) &&& 0x3f).toInt64.toUInt64).toInt64 = z := ⟨_, rfl⟩
        refine o_lushr G230 d3_92 (pc' := 93) rfl e232 ?_
        obtain ⟨v233, e233⟩ : ∃ z, v231 ||| v232 = z := ⟨_, rfl⟩
        refine o_lor G230 d3_93 (pc' := 94) rfl e233 ?_
        refine o_lload G230 d3_94 (pc' := 96) rfl rfl ?_
        refine o_bipush G230 d3_96 (pc' := 98) rfl (v := (57 : Int32)) rfl ?_
        obtain ⟨v234, e234⟩ : ∃ z, (v226.toUInt64 >>> ((57 : Int32) &&& 0x3f).toInt64.toUInt64).toInt64 = z := ⟨_, rfl⟩
        refine o_lushr G230 d3_98 (pc' := 99) rfl e234 ?_
        obtain ⟨v235, e235⟩ : ∃ z, v233 + v234 = z := ⟨_, rfl⟩
        refine o_ladd G230 d3_99 (pc' := 100) rfl e235 ?_
        refine o_lload G230 d3_100 (pc' := 102) rfl rfl ?_
        refine o_bipush G230 d3_102 (pc' := 104) rfl (v := (57 : Int32)) rfl ?_
        obtain ⟨v236, e236⟩ : ∃ z, (v228.toUInt64 >>> ((57 : Int32) &&& 0x3f).toInt64.toUInt64).toInt64 = z := ⟨_, rfl⟩
        refine o_lushr G230 d3_104 (pc' := 105) rfl e236 ?_
        obtain ⟨v237, e237⟩ : ∃ z, v235 + v236 = z := ⟨_, rfl⟩
        refine o_ladd G230 d3_105 (pc' := 106) rfl e237 ?_
        refine o_lstore G230 d3_106 (pc' := 108) rfl (l' := #[.val (.ref r0), .val (.ref r1), .val (.ref r2), .val (.int (1 : Int32)), .val (.long z1), .second, .val (.long v237), .second, .val (.int (1 : Int32)), .val (.int (0 : Int32)), .val (.long v222), .second, .val (.long v223), .second, .val (.long v226), .second, .val (.long v228), .second]) rfl ?_
        obtain ⟨q238, br238, bc238⟩ := own_mac e222 e223 e225 e226 e227 e228 e229 e231 e232 e233 e234 e235 e236 e237 hy0 hz1 br37 b0
        refine o_iinc G230 d3_108 (pc' := 111) rfl rfl (w := (1 : Int32)) rfl (v := (1 : Int32)) (by decide) (l' := #[.val (.ref r0), .val (.ref r1), .val (.ref r2), .val (.int (1 : Int32)), .val (.long z1), .second, .val (.long v237), .second, .val (.int (1 : Int32)), .val (.int (1 : Int32)), .val (.long v222), .second, .val (.long v223), .second, .val (.long v226), .second, .val (.long v228), .second]) rfl ?_
        refine o_iinc G230 d3_111 (pc' := 114) rfl rfl (w := (1 : Int32)) rfl (v := (2 : Int32)) (by decide) (l' := #[.val (.ref r0), .val (.ref r1), .val (.ref r2), .val (.int (1 : Int32)), .val (.long z1), .second, .val (.long v237), .second, .val (.int (2 : Int32)), .val (.int (1 : Int32)), .val (.long v222), .second, .val (.long v223), .second, .val (.long v226), .second, .val (.long v228), .second]) rfl ?_
        refine o_goto G230 d3_114 (by decide) (pc' := 22) rfl ?_
        refine o_iload G230 d3_22 (pc' := 24) rfl rfl ?_
        refine o_aloadN G230 d3_24 (pc' := 25) rfl rfl rfl ?_
        refine o_arraylength G230 A_r0 (v := (2 : Int32)) rfl d3_25 (pc' := 26) rfl ?_
        refine o_icmp_ge G230 d3_26 (by decide) (pcT := 117) (by decide) (pc' := 29) rfl (fun q => absurd (by decide) q) (fun _ => ?_)
        refine o_aloadN G230 d3_29 (pc' := 30) rfl rfl rfl ?_
        refine o_iload G230 d3_30 (pc' := 32) rfl rfl ?_
        refine o_laload G230 A_r0 (i := 1) rfl (by decide) (v := (.long y1)) rfl d3_32 (pc' := 33) rfl ?_
        refine o_lload G230 d3_33 (pc' := 35) rfl rfl ?_
        obtain ⟨v240, e240⟩ : ∃ z, y1 * z1 = z := ⟨_, rfl⟩
        refine o_lmul G230 d3_35 (pc' := 36) rfl e240 ?_
        refine o_lstore G230 d3_36 (pc' := 38) rfl (l' := #[.val (.ref r0), .val (.ref r1), .val (.ref r2), .val (.int (1 : Int32)), .val (.long z1), .second, .val (.long v237), .second, .val (.int (2 : Int32)), .val (.int (1 : Int32)), .val (.long v240), .second, .val (.long v223), .second, .val (.long v226), .second, .val (.long v228), .second]) rfl ?_
        refine o_aloadN G230 d3_38 (pc' := 39) rfl rfl rfl ?_
        refine o_iload G230 d3_39 (pc' := 41) rfl rfl ?_
        refine o_laload G230 A_r0 (i := 1) rfl (by decide) (v := (.long y1)) rfl d3_41 (pc' := 42) rfl ?_
        refine o_lload G230 d3_42 (pc' := 44) rfl rfl ?_
        obtain ⟨v241, e241⟩ : ∃ z, f_4 y1 z1 = z := ⟨_, rfl⟩
        refine o_callP G230 (z := (⟨"java/lang/Math", "multiplyHigh", "(JJ)J"⟩ : MethodName)) (r := (.long v241)) (argsL := [(.long y1), (.long z1)]) (rest := []) (W := 0) (hw _ (List.mem_of_getElem? (i := 14) rfl)) (hw _ (List.mem_of_getElem? (i := 15) rfl)) d3_44 (by decide) (hw _ (List.mem_of_getElem? (i := 16) rfl)) (hw _ (List.mem_of_getElem? (i := 17) rfl)) (by rw [← e241]; exact rm4 hw y1 z1 h230 n0 G230.sz) (by decide) (by decide) rfl (lenOf pd_1 rfl) rfl (Nat.le_of_eq rfl) (pc' := 47) rfl (by decide) (by decide) ?_
        intro T242 G242
        refine o_lstore G242 d3_47 (pc' := 49) rfl (l' := #[.val (.ref r0), .val (.ref r1), .val (.ref r2), .val (.int (1 : Int32)), .val (.long z1), .second, .val (.long v237), .second, .val (.int (2 : Int32)), .val (.int (1 : Int32)), .val (.long v240), .second, .val (.long v241), .second, .val (.long v226), .second, .val (.long v228), .second]) rfl ?_
        refine o_aloadN G242 d3_49 (pc' := 50) rfl rfl rfl ?_
        refine o_iload G242 d3_50 (pc' := 52) rfl rfl ?_
        refine o_laload G242 A_r2 (i := 2) rfl (by decide) (v := (.long v95)) rfl d3_52 (pc' := 53) rfl ?_
        refine o_lload G242 d3_53 (pc' := 55) rfl rfl ?_
        refine o_ldc2 G242 d3_55 (pc' := 58) rfl (hw _ (List.mem_of_getElem? (i := 19) rfl)) ?_
        obtain ⟨v243, e243⟩ : ∃ z, v240 &&& (144115188075855871 : Int64) = z := ⟨_, rfl⟩
        refine o_land G242 d3_58 (pc' := 59) rfl e243 ?_
        obtain ⟨v244, e244⟩ : ∃ z, v95 + v243 = z := ⟨_, rfl⟩
        refine o_ladd G242 d3_59 (pc' := 60) rfl e244 ?_
        refine o_lstore G242 d3_60 (pc' := 62) rfl (l' := #[.val (.ref r0), .val (.ref r1), .val (.ref r2), .val (.int (1 : Int32)), .val (.long z1), .second, .val (.long v237), .second, .val (.int (2 : Int32)), .val (.int (1 : Int32)), .val (.long v240), .second, .val (.long v241), .second, .val (.long v244), .second, .val (.long v228), .second]) rfl ?_
        refine o_lload G242 d3_62 (pc' := 64) rfl rfl ?_
        refine o_ldc2 G242 d3_64 (pc' := 67) rfl (hw _ (List.mem_of_getElem? (i := 19) rfl)) ?_
        obtain ⟨v245, e245⟩ : ∃ z, v244 &&& (144115188075855871 : Int64) = z := ⟨_, rfl⟩
        refine o_land G242 d3_67 (pc' := 68) rfl e245 ?_
        refine o_lload G242 d3_68 (pc' := 70) rfl rfl ?_
        obtain ⟨v246, e246⟩ : ∃ z, v245 + v237 = z := ⟨_, rfl⟩
        refine o_ladd G242 d3_70 (pc' := 71) rfl e246 ?_
        refine o_lstore G242 d3_71 (pc' := 73) rfl (l' := #[.val (.ref r0), .val (.ref r1), .val (.ref r2), .val (.int (1 : Int32)), .val (.long z1), .second, .val (.long v237), .second, .val (.int (2 : Int32)), .val (.int (1 : Int32)), .val (.long v240), .second, .val (.long v241), .second, .val (.long v244), .second, .val (.long v246), .second]) rfl ?_
        refine o_aloadN G242 d3_73 (pc' := 74) rfl rfl rfl ?_
        refine o_iload G242 d3_74 (pc' := 76) rfl rfl ?_
        refine o_lload G242 d3_76 (pc' := 78) rfl rfl ?_
        refine o_ldc2 G242 d3_78 (pc' := 81) rfl (hw _ (List.mem_of_getElem? (i := 19) rfl)) ?_
        obtain ⟨v247, e247⟩ : ∃ z, v246 &&& (144115188075855871 : Int64) = z := ⟨_, rfl⟩
        refine o_land G242 d3_81 (pc' := 82) rfl e247 ?_
        refine o_lastore G242 A_r2 g_r2 (i := 2) rfl (by decide) d3_82 (pc' := 83) rfl ?_
        intro T248 h248 G248 W248 A248
        replace A_r0 := A_r0.other W248 hne0
        replace A_r1 := A_r1.other W248 hne1
        replace K := K.wr W248 (Or.inl (List.mem_of_getElem? (i := 0) rfl))
        replace A_r2 := A248
        refine o_lload G248 d3_83 (pc' := 85) rfl rfl ?_
        refine o_bipush G248 d3_85 (pc' := 87) rfl (v := (7 : Int32)) rfl ?_
        obtain ⟨v249, e249⟩ : ∃ z, v241 <<< ((7 : Int32) &&& 0x3f).toInt64 = z := ⟨_, rfl⟩
        refine o_lshl G248 d3_87 (pc' := 88) rfl e249 ?_
        refine o_lload G248 d3_88 (pc' := 90) rfl rfl ?_
        refine o_bipush G248 d3_90 (pc' := 92) rfl (v := (57 : Int32)) rfl ?_
        obtain ⟨v250, e250⟩ : ∃ z, (v240.toUInt64 >>> ((57 : Int32) &&& 0x3f).toInt64.toUInt64).toInt64 = z := ⟨_, rfl⟩
        refine o_lushr G248 d3_92 (pc' := 93) rfl e250 ?_
        obtain ⟨v251, e251⟩ : ∃ z, v249 ||| v250 = z := ⟨_, rfl⟩
        refine o_lor G248 d3_93 (pc' := 94) rfl e251 ?_
        refine o_lload G248 d3_94 (pc' := 96) rfl rfl ?_
        refine o_bipush G248 d3_96 (pc' := 98) rfl (v := (57 : Int32)) rfl ?_
        obtain ⟨v252, e252⟩ : ∃ z, (v244.toUInt64 >>> ((57 : Int32) &&& 0x3f).toInt64.toUInt64).toInt64 = z := ⟨_, rfl⟩
        refine o_lushr G248 d3_98 (pc' := 99) rfl e252 ?_
        obtain ⟨v253, e253⟩ : ∃ z, v251 + v252 = z := ⟨_, rfl⟩
        refine o_ladd G248 d3_99 (pc' := 100) rfl e253 ?_
        refine o_lload G248 d3_100 (pc' := 102) rfl rfl ?_
        refine o_bipush G248 d3_102 (pc' := 104) rfl (v := (57 : Int32)) rfl ?_
        obtain ⟨v254, e254⟩ : ∃ z, (v246.toUInt64 >>> ((57 : Int32) &&& 0x3f).toInt64.toUInt64).toInt64 = z := ⟨_, rfl⟩
        refine o_lushr G248 d3_104 (pc' := 105) rfl e254 ?_
        obtain ⟨v255, e255⟩ : ∃ z, v253 + v254 = z := ⟨_, rfl⟩
        refine o_ladd G248 d3_105 (pc' := 106) rfl e255 ?_
        refine o_lstore G248 d3_106 (pc' := 108) rfl (l' := #[.val (.ref r0), .val (.ref r1), .val (.ref r2), .val (.int (1 : Int32)), .val (.long z1), .second, .val (.long v255), .second, .val (.int (2 : Int32)), .val (.int (1 : Int32)), .val (.long v240), .second, .val (.long v241), .second, .val (.long v244), .second, .val (.long v246), .second]) rfl ?_
        obtain ⟨q256, br256, bc256⟩ := own_mac e240 e241 e243 e244 e245 e246 e247 e249 e250 e251 e252 e253 e254 e255 hy1 hz1 br98 bc238
        refine o_iinc G248 d3_108 (pc' := 111) rfl rfl (w := (1 : Int32)) rfl (v := (2 : Int32)) (by decide) (l' := #[.val (.ref r0), .val (.ref r1), .val (.ref r2), .val (.int (1 : Int32)), .val (.long z1), .second, .val (.long v255), .second, .val (.int (2 : Int32)), .val (.int (2 : Int32)), .val (.long v240), .second, .val (.long v241), .second, .val (.long v244), .second, .val (.long v246), .second]) rfl ?_
        refine o_iinc G248 d3_111 (pc' := 114) rfl rfl (w := (1 : Int32)) rfl (v := (3 : Int32)) (by decide) (l' := #[.val (.ref r0), .val (.ref r1), .val (.ref r2), .val (.int (1 : Int32)), .val (.long z1), .second, .val (.long v255), .second, .val (.int (3 : Int32)), .val (.int (2 : Int32)), .val (.long v240), .second, .val (.long v241), .second, .val (.long v244), .second, .val (.long v246), .second]) rfl ?_
        refine o_goto G248 d3_114 (by decide) (pc' := 22) rfl ?_
        refine o_iload G248 d3_22 (pc' := 24) rfl rfl ?_
        refine o_aloadN G248 d3_24 (pc' := 25) rfl rfl rfl ?_
        refine o_arraylength G248 A_r0 (v := (2 : Int32)) rfl d3_25 (pc' := 26) rfl ?_
        refine o_icmp_ge G248 d3_26 (by decide) (pcT := 117) (by decide) (pc' := 29) rfl (fun _ => ?_) (fun q => absurd q (by decide))
        refine o_lload G248 d3_117 (pc' := 119) rfl rfl ?_
        refine o_lconst G248 d3_119 (pc' := 120) rfl (v := (0 : Int64)) rfl ?_
        refine o_lcmp_eq G248 d3_120 (pc1 := 121) rfl d3_121 (by decide) (pcT := 156) (by decide) (pc' := 124) rfl (fun hc258 => ?_) (fun hc258 => ?_)
        · refine o_iinc G248 d3_156 (pc' := 159) rfl rfl (w := (1 : Int32)) rfl (v := (2 : Int32)) (by decide) (l' := #[.val (.ref r0), .val (.ref r1), .val (.ref r2), .val (.int (2 : Int32)), .val (.long z1), .second, .val (.long v255), .second, .val (.int (3 : Int32)), .val (.int (2 : Int32)), .val (.long v240), .second, .val (.long v241), .second, .val (.long v244), .second, .val (.long v246), .second]) rfl ?_
          refine o_goto G248 d3_159 (by decide) (pc' := 2) rfl ?_
          refine o_iloadN G248 d3_2 (pc' := 3) rfl rfl ?_
          refine o_aloadN G248 d3_3 (pc' := 4) rfl rfl rfl ?_
          refine o_arraylength G248 A_r1 (v := (2 : Int32)) rfl d3_4 (pc' := 5) rfl ?_
          refine o_icmp_ge G248 d3_5 (by decide) (pcT := 162) (by decide) (pc' := 8) rfl (fun _ => ?_) (fun q => absurd q (by decide))
          have zhc258 := congrArg Int64.toInt hc258
          refine o_return G248 d3_162 ⟨v10, v229, v247, v155, v215, rfl, K, A_r2.congr (fun j hj => ?_), br19, br238, br256, br158, br218, ?_⟩ (by decide) (by decide)
          · match j, hj with
            | 0, _ => rfl
            | 1, _ => rfl
            | 2, _ => rfl
            | 3, _ => rfl
            | 4, _ => rfl
            | j + 5, hj => omega
          · simp only [own_val]
            omega
        · refine o_aloadN G248 d3_124 (pc' := 125) rfl rfl rfl ?_
          refine o_iload G248 d3_125 (pc' := 127) rfl rfl ?_
          refine o_laload G248 A_r2 (i := 3) rfl (by decide) (v := (.long v155)) rfl d3_127 (pc' := 128) rfl ?_
          refine o_lload G248 d3_128 (pc' := 130) rfl rfl ?_
          obtain ⟨v260, e260⟩ : ∃ z, v155 + v255 = z := ⟨_, rfl⟩
          refine o_ladd G248 d3_130 (pc' := 131) rfl e260 ?_
          refine o_lstore G248 d3_131 (pc' := 133) rfl (l' := #[.val (.ref r0), .val (.ref r1), .val (.ref r2), .val (.int (1 : Int32)), .val (.long z1), .second, .val (.long v255), .second, .val (.int (3 : Int32)), .val (.long v260), .second, .unset, .val (.long v241), .second, .val (.long v244), .second, .val (.long v246), .second]) rfl ?_
          refine o_aloadN G248 d3_133 (pc' := 134) rfl rfl rfl ?_
          refine o_iload G248 d3_134 (pc' := 136) rfl rfl ?_
          refine o_lload G248 d3_136 (pc' := 138) rfl rfl ?_
          refine o_ldc2 G248 d3_138 (pc' := 141) rfl (hw _ (List.mem_of_getElem? (i := 19) rfl)) ?_
          obtain ⟨v261, e261⟩ : ∃ z, v260 &&& (144115188075855871 : Int64) = z := ⟨_, rfl⟩
          refine o_land G248 d3_141 (pc' := 142) rfl e261 ?_
          refine o_lastore G248 A_r2 g_r2 (i := 3) rfl (by decide) d3_142 (pc' := 143) rfl ?_
          intro T262 h262 G262 W262 A262
          replace A_r0 := A_r0.other W262 hne0
          replace A_r1 := A_r1.other W262 hne1
          replace K := K.wr W262 (Or.inl (List.mem_of_getElem? (i := 0) rfl))
          replace A_r2 := A262
          refine o_lload G262 d3_143 (pc' := 145) rfl rfl ?_
          refine o_bipush G262 d3_145 (pc' := 147) rfl (v := (57 : Int32)) rfl ?_
          obtain ⟨v263, e263⟩ : ∃ z, (v260.toUInt64 >>> ((57 : Int32) &&& 0x3f).toInt64.toUInt64).toInt64 = z := ⟨_, rfl⟩
          refine o_lushr G262 d3_147 (pc' := 148) rfl e263 ?_
          refine o_lstore G262 d3_148 (pc' := 150) rfl (l' := #[.val (.ref r0), .val (.ref r1), .val (.ref r2), .val (.int (1 : Int32)), .val (.long z1), .second, .val (.long v263), .second, .val (.int (3 : Int32)), .val (.long v260), .second, .unset, .val (.long v241), .second, .val (.long v244), .second, .val (.long v246), .second]) rfl ?_
          obtain ⟨q264, br264, bc264⟩ := own_prop e260 e261 e263 br158 bc256
          refine o_iinc G262 d3_150 (pc' := 153) rfl rfl (w := (1 : Int32)) rfl (v := (4 : Int32)) (by decide) (l' := #[.val (.ref r0), .val (.ref r1), .val (.ref r2), .val (.int (1 : Int32)), .val (.long z1), .second, .val (.long v263), .second, .val (.int (4 : Int32)), .val (.long v260), .second, .unset, .val (.long v241), .second, .val (.long v244), .second, .val (.long v246), .second]) rfl ?_
          refine o_goto G262 d3_153 (by decide) (pc' := 117) rfl ?_
          refine o_lload G262 d3_117 (pc' := 119) rfl rfl ?_
          refine o_lconst G262 d3_119 (pc' := 120) rfl (v := (0 : Int64)) rfl ?_
          refine o_lcmp_eq G262 d3_120 (pc1 := 121) rfl d3_121 (by decide) (pcT := 156) (by decide) (pc' := 124) rfl (fun hc265 => ?_) (fun hc265 => ?_)
          · refine o_iinc G262 d3_156 (pc' := 159) rfl rfl (w := (1 : Int32)) rfl (v := (2 : Int32)) (by decide) (l' := #[.val (.ref r0), .val (.ref r1), .val (.ref r2), .val (.int (2 : Int32)), .val (.long z1), .second, .val (.long v263), .second, .val (.int (4 : Int32)), .val (.long v260), .second, .unset, .val (.long v241), .second, .val (.long v244), .second, .val (.long v246), .second]) rfl ?_
            refine o_goto G262 d3_159 (by decide) (pc' := 2) rfl ?_
            refine o_iloadN G262 d3_2 (pc' := 3) rfl rfl ?_
            refine o_aloadN G262 d3_3 (pc' := 4) rfl rfl rfl ?_
            refine o_arraylength G262 A_r1 (v := (2 : Int32)) rfl d3_4 (pc' := 5) rfl ?_
            refine o_icmp_ge G262 d3_5 (by decide) (pcT := 162) (by decide) (pc' := 8) rfl (fun _ => ?_) (fun q => absurd q (by decide))
            have zhc265 := congrArg Int64.toInt hc265
            refine o_return G262 d3_162 ⟨v10, v229, v247, v261, v215, rfl, K, A_r2.congr (fun j hj => ?_), br19, br238, br256, br264, br218, ?_⟩ (by decide) (by decide)
            · match j, hj with
              | 0, _ => rfl
              | 1, _ => rfl
              | 2, _ => rfl
              | 3, _ => rfl
              | 4, _ => rfl
              | j + 5, hj => omega
            · simp only [own_val]
              omega
          · refine o_aloadN G262 d3_124 (pc' := 125) rfl rfl rfl ?_
            refine o_iload G262 d3_125 (pc' := 127) rfl rfl ?_
            refine o_laload G262 A_r2 (i := 4) rfl (by decide) (v := (.long v215)) rfl d3_127 (pc' := 128) rfl ?_
            refine o_lload G262 d3_128 (pc' := 130) rfl rfl ?_
            obtain ⟨v267, e267⟩ : ∃ z, v215 + v263 = z := ⟨_, rfl⟩
            refine o_ladd G262 d3_130 (pc' := 131) rfl e267 ?_
            refine o_lstore G262 d3_131 (pc' := 133) rfl (l' := #[.val (.ref r0), .val (.ref r1), .val (.ref r2), .val (.int (1 : Int32)), .val (.long z1), .second, .val (.long v263), .second, .val (.int (4 : Int32)), .val (.long v267), .second, .unset, .val (.long v241), .second, .val (.long v244), .second, .val (.long v246), .second]) rfl ?_
            refine o_aloadN G262 d3_133 (pc' := 134) rfl rfl rfl ?_
            refine o_iload G262 d3_134 (pc' := 136) rfl rfl ?_
            refine o_lload G262 d3_136 (pc' := 138) rfl rfl ?_
            refine o_ldc2 G262 d3_138 (pc' := 141) rfl (hw _ (List.mem_of_getElem? (i := 19) rfl)) ?_
            obtain ⟨v268, e268⟩ : ∃ z, v267 &&& (144115188075855871 : Int64) = z := ⟨_, rfl⟩
            refine o_land G262 d3_141 (pc' := 142) rfl e268 ?_
            refine o_lastore G262 A_r2 g_r2 (i := 4) rfl (by decide) d3_142 (pc' := 143) rfl ?_
            intro T269 h269 G269 W269 A269
            replace A_r0 := A_r0.other W269 hne0
            replace A_r1 := A_r1.other W269 hne1
            replace K := K.wr W269 (Or.inl (List.mem_of_getElem? (i := 0) rfl))
            replace A_r2 := A269
            refine o_lload G269 d3_143 (pc' := 145) rfl rfl ?_
            refine o_bipush G269 d3_145 (pc' := 147) rfl (v := (57 : Int32)) rfl ?_
            obtain ⟨v270, e270⟩ : ∃ z, (v267.toUInt64 >>> ((57 : Int32) &&& 0x3f).toInt64.toUInt64).toInt64 = z := ⟨_, rfl⟩
            refine o_lushr G269 d3_147 (pc' := 148) rfl e270 ?_
            refine o_lstore G269 d3_148 (pc' := 150) rfl (l' := #[.val (.ref r0), .val (.ref r1), .val (.ref r2), .val (.int (1 : Int32)), .val (.long z1), .second, .val (.long v270), .second, .val (.int (4 : Int32)), .val (.long v267), .second, .unset, .val (.long v241), .second, .val (.long v244), .second, .val (.long v246), .second]) rfl ?_
            obtain ⟨q271, br271, bc271⟩ := own_prop e267 e268 e270 br218 bc264
            refine o_iinc G269 d3_150 (pc' := 153) rfl rfl (w := (1 : Int32)) rfl (v := (5 : Int32)) (by decide) (l' := #[.val (.ref r0), .val (.ref r1), .val (.ref r2), .val (.int (1 : Int32)), .val (.long z1), .second, .val (.long v270), .second, .val (.int (5 : Int32)), .val (.long v267), .second, .unset, .val (.long v241), .second, .val (.long v244), .second, .val (.long v246), .second]) rfl ?_
            refine o_goto G269 d3_153 (by decide) (pc' := 117) rfl ?_
            refine o_lload G269 d3_117 (pc' := 119) rfl rfl ?_
            refine o_lconst G269 d3_119 (pc' := 120) rfl (v := (0 : Int64)) rfl ?_
            refine o_lcmp_eq G269 d3_120 (pc1 := 121) rfl d3_121 (by decide) (pcT := 156) (by decide) (pc' := 124) rfl (fun _ => ?_) (fun q => absurd (Int64.toInt_inj.mp (by rw [b01]; omega)) q)
            refine o_iinc G269 d3_156 (pc' := 159) rfl rfl (w := (1 : Int32)) rfl (v := (2 : Int32)) (by decide) (l' := #[.val (.ref r0), .val (.ref r1), .val (.ref r2), .val (.int (2 : Int32)), .val (.long z1), .second, .val (.long v270), .second, .val (.int (5 : Int32)), .val (.long v267), .second, .unset, .val (.long v241), .second, .val (.long v244), .second, .val (.long v246), .second]) rfl ?_
            refine o_goto G269 d3_159 (by decide) (pc' := 2) rfl ?_
            refine o_iloadN G269 d3_2 (pc' := 3) rfl rfl ?_
            refine o_aloadN G269 d3_3 (pc' := 4) rfl rfl rfl ?_
            refine o_arraylength G269 A_r1 (v := (2 : Int32)) rfl d3_4 (pc' := 5) rfl ?_
            refine o_icmp_ge G269 d3_5 (by decide) (pcT := 162) (by decide) (pc' := 8) rfl (fun _ => ?_) (fun q => absurd q (by decide))
            refine o_return G269 d3_162 ⟨v10, v229, v247, v261, v268, rfl, K, A_r2.congr (fun j hj => ?_), br19, br238, br256, br264, br271, ?_⟩ (by decide) (by decide)
            · match j, hj with
              | 0, _ => rfl
              | 1, _ => rfl
              | 2, _ => rfl
              | 3, _ => rfl
              | 4, _ => rfl
              | j + 5, hj => omega
            · simp only [own_val]
              omega
theorem pn_0 : plainName "com/example/auth_token_server/authtokenserver/signing/ModulusMultiplyAddPinLaw" = true := by first | (simp [plainName, overriddenIn]; done) | decide +kernel
theorem ef_0 (m : MethodId) (q0 : Int64) (q1 : Int64) (q2 : Int64) (q3 : Int64) (q4 : Int64) (q5 : Int64) : entryFrame m #[(.long q0), (.long q1), (.long q2), (.long q3), (.long q4), (.long q5)] maxLocals = mkF m 0 #[.val (.long q0), .second, .val (.long q1), .second, .val (.long q2), .second, .val (.long q3), .second, .val (.long q4), .second, .val (.long q5), .second, .unset, .unset, .unset, .unset, .unset, .unset, .unset, .unset, .unset, .unset, .unset, .unset, .unset, .unset, .unset, .unset, .unset, .unset, .unset, .unset, .unset, .unset, .unset, .unset, .unset, .unset, .unset, .unset, .unset, .unset, .unset, .unset, .unset, .unset, .unset] [] := by first | (simp [entryFrame, mkF, argsToLocals, Value.category, maxLocals]; done) | rfl
set_option maxRecDepth 65536 in
set_option maxHeartbeats 40000000 in
theorem rm0 {l : Launch} {Z : State} {a0 : Array Value} (hw : ∀ d ∈ tables_1, d.before a0 Z = true) (q0 : Int64) (q1 : Int64) (q2 : Int64) (q3 : Int64) (q4 : Int64) (q5 : Int64) (h0 : Heap) (n0 : Nat) (hz : n0 ≤ h0.size) :
    OMet l Z x code maxLocals ret room_1 #[(.long q0), (.long q1), (.long q2), (.long q3), (.long q4), (.long q5)] h0 n0 16 128 (fun v _ => v = some (.int 1)) := by
  refine o_body (plainFor_of_name pn_0) hz (fun m => ef_0 m q0 q1 q2 q3 q4 q5) ?_
  intro p e s m below meth c s₁ G0
  obtain ⟨v1, e1⟩ : ∃ z, f_1 = z := ⟨_, rfl⟩
  refine o_callP G0 (z := (⟨"com/example/auth_token_server/authtokenserver/signing/ModulusMultiplyAddPinLaw", "mask", "()J"⟩ : MethodName)) (r := (.long v1)) (argsL := []) (rest := []) (W := 0) (hw _ (List.mem_of_getElem? (i := 0) rfl)) (hw _ (List.mem_of_getElem? (i := 1) rfl)) at_0 (by decide) (hw _ (List.mem_of_getElem? (i := 2) rfl)) (hw _ (List.mem_of_getElem? (i := 3) rfl)) (by rw [← e1]; exact rm1 hw  h0 n0 G0.sz) (by decide) (by decide) rfl (lenOf pd_0 rfl) rfl (Nat.le_of_eq rfl) (pc' := 3) rfl (by decide) (by decide) ?_
  intro T2 G2
  refine o_lstore G2 at_3 (pc' := 5) rfl (l' := #[.val (.long q0), .second, .val (.long q1), .second, .val (.long q2), .second, .val (.long q3), .second, .val (.long q4), .second, .val (.long q5), .second, .val (.long v1), .second, .unset, .unset, .unset, .unset, .unset, .unset, .unset, .unset, .unset, .unset, .unset, .unset, .unset, .unset, .unset, .unset, .unset, .unset, .unset, .unset, .unset, .unset, .unset, .unset, .unset, .unset, .unset, .unset, .unset, .unset, .unset, .unset, .unset]) rfl ?_
  refine o_lloadN G2 at_5 (pc' := 6) rfl rfl ?_
  refine o_lload G2 at_6 (pc' := 8) rfl rfl ?_
  obtain ⟨v3, e3⟩ : ∃ z, q0 &&& v1 = z := ⟨_, rfl⟩
  refine o_land G2 at_8 (pc' := 9) rfl e3 ?_
  refine o_lstore G2 at_9 (pc' := 11) rfl (l' := #[.val (.long q0), .second, .val (.long q1), .second, .val (.long q2), .second, .val (.long q3), .second, .val (.long q4), .second, .val (.long q5), .second, .val (.long v1), .second, .val (.long v3), .second, .unset, .unset, .unset, .unset, .unset, .unset, .unset, .unset, .unset, .unset, .unset, .unset, .unset, .unset, .unset, .unset, .unset, .unset, .unset, .unset, .unset, .unset, .unset, .unset, .unset, .unset, .unset, .unset, .unset, .unset, .unset]) rfl ?_
  refine o_lloadN G2 at_11 (pc' := 12) rfl rfl ?_
  refine o_lload G2 at_12 (pc' := 14) rfl rfl ?_
  obtain ⟨v4, e4⟩ : ∃ z, q1 &&& v1 = z := ⟨_, rfl⟩
  refine o_land G2 at_14 (pc' := 15) rfl e4 ?_
  refine o_lstore G2 at_15 (pc' := 17) rfl (l' := #[.val (.long q0), .second, .val (.long q1), .second, .val (.long q2), .second, .val (.long q3), .second, .val (.long q4), .second, .val (.long q5), .second, .val (.long v1), .second, .val (.long v3), .second, .val (.long v4), .second, .unset, .unset, .unset, .unset, .unset, .unset, .unset, .unset, .unset, .unset, .unset, .unset, .unset, .unset, .unset, .unset, .unset, .unset, .unset, .unset, .unset, .unset, .unset, .unset, .unset, .unset, .unset, .unset, .unset]) rfl ?_
  refine o_lload G2 at_17 (pc' := 19) rfl rfl ?_
  refine o_lload G2 at_19 (pc' := 21) rfl rfl ?_
  obtain ⟨v5, e5⟩ : ∃ z, q2 &&& v1 = z := ⟨_, rfl⟩
  refine o_land G2 at_21 (pc' := 22) rfl e5 ?_
  refine o_lstore G2 at_22 (pc' := 24) rfl (l' := #[.val (.long q0), .second, .val (.long q1), .second, .val (.long q2), .second, .val (.long q3), .second, .val (.long q4), .second, .val (.long q5), .second, .val (.long v1), .second, .val (.long v3), .second, .val (.long v4), .second, .val (.long v5), .second, .unset, .unset, .unset, .unset, .unset, .unset, .unset, .unset, .unset, .unset, .unset, .unset, .unset, .unset, .unset, .unset, .unset, .unset, .unset, .unset, .unset, .unset, .unset, .unset, .unset, .unset, .unset]) rfl ?_
  refine o_lload G2 at_24 (pc' := 26) rfl rfl ?_
  refine o_lload G2 at_26 (pc' := 28) rfl rfl ?_
  obtain ⟨v6, e6⟩ : ∃ z, q3 &&& v1 = z := ⟨_, rfl⟩
  refine o_land G2 at_28 (pc' := 29) rfl e6 ?_
  refine o_lstore G2 at_29 (pc' := 31) rfl (l' := #[.val (.long q0), .second, .val (.long q1), .second, .val (.long q2), .second, .val (.long q3), .second, .val (.long q4), .second, .val (.long q5), .second, .val (.long v1), .second, .val (.long v3), .second, .val (.long v4), .second, .val (.long v5), .second, .val (.long v6), .second, .unset, .unset, .unset, .unset, .unset, .unset, .unset, .unset, .unset, .unset, .unset, .unset, .unset, .unset, .unset, .unset, .unset, .unset, .unset, .unset, .unset, .unset, .unset, .unset, .unset]) rfl ?_
  refine o_lload G2 at_31 (pc' := 33) rfl rfl ?_
  refine o_lload G2 at_33 (pc' := 35) rfl rfl ?_
  obtain ⟨v7, e7⟩ : ∃ z, q4 &&& v1 = z := ⟨_, rfl⟩
  refine o_land G2 at_35 (pc' := 36) rfl e7 ?_
  refine o_lstore G2 at_36 (pc' := 38) rfl (l' := #[.val (.long q0), .second, .val (.long q1), .second, .val (.long q2), .second, .val (.long q3), .second, .val (.long q4), .second, .val (.long q5), .second, .val (.long v1), .second, .val (.long v3), .second, .val (.long v4), .second, .val (.long v5), .second, .val (.long v6), .second, .val (.long v7), .second, .unset, .unset, .unset, .unset, .unset, .unset, .unset, .unset, .unset, .unset, .unset, .unset, .unset, .unset, .unset, .unset, .unset, .unset, .unset, .unset, .unset, .unset, .unset]) rfl ?_
  refine o_lload G2 at_38 (pc' := 40) rfl rfl ?_
  refine o_lload G2 at_40 (pc' := 42) rfl rfl ?_
  obtain ⟨v8, e8⟩ : ∃ z, q5 &&& v1 = z := ⟨_, rfl⟩
  refine o_land G2 at_42 (pc' := 43) rfl e8 ?_
  refine o_lstore G2 at_43 (pc' := 45) rfl (l' := #[.val (.long q0), .second, .val (.long q1), .second, .val (.long q2), .second, .val (.long q3), .second, .val (.long q4), .second, .val (.long q5), .second, .val (.long v1), .second, .val (.long v3), .second, .val (.long v4), .second, .val (.long v5), .second, .val (.long v6), .second, .val (.long v7), .second, .val (.long v8), .second, .unset, .unset, .unset, .unset, .unset, .unset, .unset, .unset, .unset, .unset, .unset, .unset, .unset, .unset, .unset, .unset, .unset, .unset, .unset, .unset, .unset]) rfl ?_
  refine o_lloadN G2 at_45 (pc' := 46) rfl rfl ?_
  refine o_bipush G2 at_46 (pc' := 48) rfl (v := (57 : Int32)) rfl ?_
  obtain ⟨v9, e9⟩ : ∃ z, (q0.toUInt64 >>> ((57 : Int32) &&& 0x3f).toInt64.toUInt64).toInt64 = z := ⟨_, rfl⟩
  refine o_lushr G2 at_48 (pc' := 49) rfl e9 ?_
  refine o_ldc2 G2 at_49 (pc' := 52) rfl (hw _ (List.mem_of_getElem? (i := 5) rfl)) ?_
  obtain ⟨v10, e10⟩ : ∃ z, v9 &&& (3 : Int64) = z := ⟨_, rfl⟩
  refine o_land G2 at_52 (pc' := 53) rfl e10 ?_
  obtain ⟨v11, e11⟩ : ∃ z, v10.toInt32 = z := ⟨_, rfl⟩
  refine o_l2i G2 at_53 (pc' := 54) rfl e11 ?_
  refine o_lload G2 at_54 (pc' := 56) rfl rfl ?_
  obtain ⟨v12, e12⟩ : ∃ z, f_2 v11 v7 = z := ⟨_, rfl⟩
  refine o_callP G2 (z := (⟨"com/example/auth_token_server/authtokenserver/signing/ModulusMultiplyAddPinLaw", "pick", "(IJ)J"⟩ : MethodName)) (r := (.long v12)) (argsL := [(.int v11), (.long v7)]) (rest := []) (W := 0) (hw _ (List.mem_of_getElem? (i := 6) rfl)) (hw _ (List.mem_of_getElem? (i := 7) rfl)) at_56 (by decide) (hw _ (List.mem_of_getElem? (i := 2) rfl)) (hw _ (List.mem_of_getElem? (i := 8) rfl)) (by rw [← e12]; exact rm2 hw v11 v7 h0 n0 G2.sz) (by decide) (by decide) rfl (lenOf pd_2 rfl) rfl (Nat.le_of_eq rfl) (pc' := 59) rfl (by decide) (by decide) ?_
  intro T13 G13
  refine o_lstore G13 at_59 (pc' := 61) rfl (l' := #[.val (.long q0), .second, .val (.long q1), .second, .val (.long q2), .second, .val (.long q3), .second, .val (.long q4), .second, .val (.long q5), .second, .val (.long v1), .second, .val (.long v3), .second, .val (.long v4), .second, .val (.long v5), .second, .val (.long v6), .second, .val (.long v7), .second, .val (.long v8), .second, .val (.long v12), .second, .unset, .unset, .unset, .unset, .unset, .unset, .unset, .unset, .unset, .unset, .unset, .unset, .unset, .unset, .unset, .unset, .unset, .unset, .unset]) rfl ?_
  refine o_lloadN G13 at_61 (pc' := 62) rfl rfl ?_
  refine o_bipush G13 at_62 (pc' := 64) rfl (v := (57 : Int32)) rfl ?_
  obtain ⟨v14, e14⟩ : ∃ z, (q1.toUInt64 >>> ((57 : Int32) &&& 0x3f).toInt64.toUInt64).toInt64 = z := ⟨_, rfl⟩
  refine o_lushr G13 at_64 (pc' := 65) rfl e14 ?_
  refine o_ldc2 G13 at_65 (pc' := 68) rfl (hw _ (List.mem_of_getElem? (i := 5) rfl)) ?_
  obtain ⟨v15, e15⟩ : ∃ z, v14 &&& (3 : Int64) = z := ⟨_, rfl⟩
  refine o_land G13 at_68 (pc' := 69) rfl e15 ?_
  obtain ⟨v16, e16⟩ : ∃ z, v15.toInt32 = z := ⟨_, rfl⟩
  refine o_l2i G13 at_69 (pc' := 70) rfl e16 ?_
  refine o_lload G13 at_70 (pc' := 72) rfl rfl ?_
  obtain ⟨v17, e17⟩ : ∃ z, f_2 v16 v8 = z := ⟨_, rfl⟩
  refine o_callP G13 (z := (⟨"com/example/auth_token_server/authtokenserver/signing/ModulusMultiplyAddPinLaw", "pick", "(IJ)J"⟩ : MethodName)) (r := (.long v17)) (argsL := [(.int v16), (.long v8)]) (rest := []) (W := 0) (hw _ (List.mem_of_getElem? (i := 6) rfl)) (hw _ (List.mem_of_getElem? (i := 7) rfl)) at_72 (by decide) (hw _ (List.mem_of_getElem? (i := 2) rfl)) (hw _ (List.mem_of_getElem? (i := 8) rfl)) (by rw [← e17]; exact rm2 hw v16 v8 h0 n0 G13.sz) (by decide) (by decide) rfl (lenOf pd_2 rfl) rfl (Nat.le_of_eq rfl) (pc' := 75) rfl (by decide) (by decide) ?_
  intro T18 G18
  refine o_lstore G18 at_75 (pc' := 77) rfl (l' := #[.val (.long q0), .second, .val (.long q1), .second, .val (.long q2), .second, .val (.long q3), .second, .val (.long q4), .second, .val (.long q5), .second, .val (.long v1), .second, .val (.long v3), .second, .val (.long v4), .second, .val (.long v5), .second, .val (.long v6), .second, .val (.long v7), .second, .val (.long v8), .second, .val (.long v12), .second, .val (.long v17), .second, .unset, .unset, .unset, .unset, .unset, .unset, .unset, .unset, .unset, .unset, .unset, .unset, .unset, .unset, .unset, .unset, .unset]) rfl ?_
  refine o_iconst G18 at_77 (pc' := 78) rfl (v := (2 : Int32)) rfl ?_
  refine o_newarray G18 (N := 2) (cap := 2) (hw _ (List.mem_of_getElem? (i := 9) rfl)) rfl (by decide) (by decide) at_78 (pc' := 80) rfl (by decide) (by decide) ?_
  intro T19 h19 b19 G19 g19 g_b19 E19 A_b19
  replace A_b19 : OArr Z h19 b19 .long 2 (fun _ => (.long (0 : Int64))) := A_b19
  refine o_dup G19 at_80 (pc' := 81) rfl rfl ?_
  refine o_iconst G19 at_81 (pc' := 82) rfl (v := (0 : Int32)) rfl ?_
  refine o_lload G19 at_82 (pc' := 84) rfl rfl ?_
  refine o_lastore G19 A_b19 g_b19 (i := 0) rfl (by decide) at_84 (pc' := 85) rfl ?_
  intro T20 h20 G20 W20 A20
  replace A_b19 := A20
  refine o_dup G20 at_85 (pc' := 86) rfl rfl ?_
  refine o_iconst G20 at_86 (pc' := 87) rfl (v := (1 : Int32)) rfl ?_
  refine o_lload G20 at_87 (pc' := 89) rfl rfl ?_
  refine o_lastore G20 A_b19 g_b19 (i := 1) rfl (by decide) at_89 (pc' := 90) rfl ?_
  intro T21 h21 G21 W21 A21
  replace A_b19 := A21
  refine o_astore G21 at_90 (pc' := 92) rfl rfl (l' := #[.val (.long q0), .second, .val (.long q1), .second, .val (.long q2), .second, .val (.long q3), .second, .val (.long q4), .second, .val (.long q5), .second, .val (.long v1), .second, .val (.long v3), .second, .val (.long v4), .second, .val (.long v5), .second, .val (.long v6), .second, .val (.long v7), .second, .val (.long v8), .second, .val (.long v12), .second, .val (.long v17), .second, .val (.ref b19), .unset, .unset, .unset, .unset, .unset, .unset, .unset, .unset, .unset, .unset, .unset, .unset, .unset, .unset, .unset, .unset]) rfl ?_
  refine o_iconst G21 at_92 (pc' := 93) rfl (v := (2 : Int32)) rfl ?_
  refine o_newarray G21 (N := 2) (cap := 2) (hw _ (List.mem_of_getElem? (i := 9) rfl)) rfl (by decide) (by decide) at_93 (pc' := 95) rfl (by decide) (by decide) ?_
  intro T22 h22 b22 G22 g22 g_b22 E22 A_b22
  have ne_b19_b22 : b19 ≠ b22 := Nat.ne_of_lt (Nat.lt_of_lt_of_eq A_b19.lt g22.symm)
  replace A_b19 := A_b19.ext E22
  replace A_b22 : OArr Z h22 b22 .long 2 (fun _ => (.long (0 : Int64))) := A_b22
  refine o_dup G22 at_95 (pc' := 96) rfl rfl ?_
  refine o_iconst G22 at_96 (pc' := 97) rfl (v := (0 : Int32)) rfl ?_
  refine o_lload G22 at_97 (pc' := 99) rfl rfl ?_
  refine o_lastore G22 A_b22 g_b22 (i := 0) rfl (by decide) at_99 (pc' := 100) rfl ?_
  intro T23 h23 G23 W23 A23
  replace A_b19 := A_b19.other W23 ne_b19_b22
  replace A_b22 := A23
  refine o_dup G23 at_100 (pc' := 101) rfl rfl ?_
  refine o_iconst G23 at_101 (pc' := 102) rfl (v := (1 : Int32)) rfl ?_
  refine o_lload G23 at_102 (pc' := 104) rfl rfl ?_
  refine o_lastore G23 A_b22 g_b22 (i := 1) rfl (by decide) at_104 (pc' := 105) rfl ?_
  intro T24 h24 G24 W24 A24
  replace A_b19 := A_b19.other W24 ne_b19_b22
  replace A_b22 := A24
  refine o_astore G24 at_105 (pc' := 107) rfl rfl (l' := #[.val (.long q0), .second, .val (.long q1), .second, .val (.long q2), .second, .val (.long q3), .second, .val (.long q4), .second, .val (.long q5), .second, .val (.long v1), .second, .val (.long v3), .second, .val (.long v4), .second, .val (.long v5), .second, .val (.long v6), .second, .val (.long v7), .second, .val (.long v8), .second, .val (.long v12), .second, .val (.long v17), .second, .val (.ref b19), .val (.ref b22), .unset, .unset, .unset, .unset, .unset, .unset, .unset, .unset, .unset, .unset, .unset, .unset, .unset, .unset, .unset]) rfl ?_
  refine o_iconst G24 at_107 (pc' := 108) rfl (v := (5 : Int32)) rfl ?_
  refine o_newarray G24 (N := 5) (cap := 5) (hw _ (List.mem_of_getElem? (i := 9) rfl)) rfl (by decide) (by decide) at_108 (pc' := 110) rfl (by decide) (by decide) ?_
  intro T25 h25 b25 G25 g25 g_b25 E25 A_b25
  have ne_b19_b25 : b19 ≠ b25 := Nat.ne_of_lt (Nat.lt_of_lt_of_eq A_b19.lt g25.symm)
  have ne_b22_b25 : b22 ≠ b25 := Nat.ne_of_lt (Nat.lt_of_lt_of_eq A_b22.lt g25.symm)
  replace A_b19 := A_b19.ext E25
  replace A_b22 := A_b22.ext E25
  replace A_b25 : OArr Z h25 b25 .long 5 (fun _ => (.long (0 : Int64))) := A_b25
  refine o_dup G25 at_110 (pc' := 111) rfl rfl ?_
  refine o_iconst G25 at_111 (pc' := 112) rfl (v := (0 : Int32)) rfl ?_
  refine o_lload G25 at_112 (pc' := 114) rfl rfl ?_
  refine o_lastore G25 A_b25 g_b25 (i := 0) rfl (by decide) at_114 (pc' := 115) rfl ?_
  intro T26 h26 G26 W26 A26
  replace A_b19 := A_b19.other W26 ne_b19_b25
  replace A_b22 := A_b22.other W26 ne_b22_b25
  replace A_b25 := A26
  refine o_dup G26 at_115 (pc' := 116) rfl rfl ?_
  refine o_iconst G26 at_116 (pc' := 117) rfl (v := (1 : Int32)) rfl ?_
  refine o_lload G26 at_117 (pc' := 119) rfl rfl ?_
  refine o_lastore G26 A_b25 g_b25 (i := 1) rfl (by decide) at_119 (pc' := 120) rfl ?_
  intro T27 h27 G27 W27 A27
  replace A_b19 := A_b19.other W27 ne_b19_b25
  replace A_b22 := A_b22.other W27 ne_b22_b25
  replace A_b25 := A27
  refine o_dup G27 at_120 (pc' := 121) rfl rfl ?_
  refine o_iconst G27 at_121 (pc' := 122) rfl (v := (2 : Int32)) rfl ?_
  refine o_lload G27 at_122 (pc' := 124) rfl rfl ?_
  refine o_lastore G27 A_b25 g_b25 (i := 2) rfl (by decide) at_124 (pc' := 125) rfl ?_
  intro T28 h28 G28 W28 A28
  replace A_b19 := A_b19.other W28 ne_b19_b25
  replace A_b22 := A_b22.other W28 ne_b22_b25
  replace A_b25 := A28
  refine o_dup G28 at_125 (pc' := 126) rfl rfl ?_
  refine o_iconst G28 at_126 (pc' := 127) rfl (v := (3 : Int32)) rfl ?_
  refine o_lload G28 at_127 (pc' := 129) rfl rfl ?_
  refine o_lastore G28 A_b25 g_b25 (i := 3) rfl (by decide) at_129 (pc' := 130) rfl ?_
  intro T29 h29 G29 W29 A29
  replace A_b19 := A_b19.other W29 ne_b19_b25
  replace A_b22 := A_b22.other W29 ne_b22_b25
  replace A_b25 := A29
  refine o_dup G29 at_130 (pc' := 131) rfl rfl ?_
  refine o_iconst G29 at_131 (pc' := 132) rfl (v := (4 : Int32)) rfl ?_
  refine o_lconst G29 at_132 (pc' := 133) rfl (v := (0 : Int64)) rfl ?_
  refine o_lastore G29 A_b25 g_b25 (i := 4) rfl (by decide) at_133 (pc' := 134) rfl ?_
  intro T30 h30 G30 W30 A30
  replace A_b19 := A_b19.other W30 ne_b19_b25
  replace A_b22 := A_b22.other W30 ne_b22_b25
  replace A_b25 := A30
  refine o_astore G30 at_134 (pc' := 136) rfl rfl (l' := #[.val (.long q0), .second, .val (.long q1), .second, .val (.long q2), .second, .val (.long q3), .second, .val (.long q4), .second, .val (.long q5), .second, .val (.long v1), .second, .val (.long v3), .second, .val (.long v4), .second, .val (.long v5), .second, .val (.long v6), .second, .val (.long v7), .second, .val (.long v8), .second, .val (.long v12), .second, .val (.long v17), .second, .val (.ref b19), .val (.ref b22), .val (.ref b25), .unset, .unset, .unset, .unset, .unset, .unset, .unset, .unset, .unset, .unset, .unset, .unset, .unset, .unset]) rfl ?_
  refine o_aload G30 at_136 (pc' := 138) rfl rfl rfl ?_
  refine o_aload G30 at_138 (pc' := 140) rfl rfl rfl ?_
  refine o_aload G30 at_140 (pc' := 142) rfl rfl rfl ?_
  have hv3 : 0 ≤ v3.toInt ∧ v3.toInt < 144115188075855872 := by
    rw [← e3, ← e1]; exact own_m57 _
  have hv4 : 0 ≤ v4.toInt ∧ v4.toInt < 144115188075855872 := by
    rw [← e4, ← e1]; exact own_m57 _
  have hv5 : 0 ≤ v5.toInt ∧ v5.toInt < 144115188075855872 := by
    rw [← e5, ← e1]; exact own_m57 _
  have hv6 : 0 ≤ v6.toInt ∧ v6.toInt < 144115188075855872 := by
    rw [← e6, ← e1]; exact own_m57 _
  have hv7 : 0 ≤ v7.toInt ∧ v7.toInt < 144115188075855872 := by
    rw [← e7, ← e1]; exact own_m57 _
  have hv8 : 0 ≤ v8.toInt ∧ v8.toInt < 144115188075855872 := by
    rw [← e8, ← e1]; exact own_m57 _
  have hv12 : 0 ≤ v12.toInt ∧ v12.toInt < 144115188075855872 := by
    rw [← e12]; exact own_pickb _ _ hv7
  have hv17 : 0 ≤ v17.toInt ∧ v17.toInt < 144115188075855872 := by
    rw [← e17]; exact own_pickb _ _ hv8
  have A_a : OArr Z h30 b19 .long 2 (own_l2 v3 v4) := by
    refine A_b19.congr (fun j hj => ?_)
    match j, hj with
    | 0, _ => rfl
    | 1, _ => rfl
    | j + 2, hj => omega
  have A_b : OArr Z h30 b22 .long 2 (own_l2 v5 v6) := by
    refine A_b22.congr (fun j hj => ?_)
    match j, hj with
    | 0, _ => rfl
    | 1, _ => rfl
    | j + 2, hj => omega
  have A_s : OArr Z h30 b25 .long 5 (own_l5 v7 v8 v12 v17 0) := by
    refine A_b25.congr (fun j hj => ?_)
    match j, hj with
    | 0, _ => rfl
    | 1, _ => rfl
    | 2, _ => rfl
    | 3, _ => rfl
    | 4, _ => rfl
    | j + 5, hj => omega
  refine o_callS G30 (z := (⟨"com/example/auth_token_server/authtokenserver/signing/Modulus", "multiplyAdd", "([J[J[J)V"⟩ : MethodName)) (argsL := [(.ref b19), (.ref b22), (.ref b25)]) (rest := []) (W := 0) (hw _ (List.mem_of_getElem? (i := 10) rfl)) (hw _ (List.mem_of_getElem? (i := 11) rfl)) at_142 (by decide) (hw _ (List.mem_of_getElem? (i := 12) rfl)) (hw _ (List.mem_of_getElem? (i := 13) rfl)) (rm3 hw b19 b22 b25 h30 n0 G30.sz g_b25 ne_b19_b25 ne_b22_b25 v7 v8 v12 v17 v3 v4 v5 v6 A_a A_b A_s hv7 hv8 hv12 hv17 hv3 hv4 hv5 hv6) (by decide) (by decide) rfl (lenOf pd_3 rfl) rfl (Nat.le_of_eq rfl) (pc' := 145) rfl (by decide) (by decide) ?_
  rintro _ T31 h31 G31 ⟨d0, d1, d2, d3, d4, rfl, K31, A31, bd0, bd1, bd2, bd3, bd4, hval⟩
  replace A_b19 := A_b19.keep K31 (ninS ne_b19_b25 nin0)
  replace A_b22 := A_b22.keep K31 (ninS ne_b22_b25 nin0)
  show OFin n0 p e below s (fun v _ => v = some (.int 1)) 16 128 T31 (mkF m 145 #[.val (.long q0), .second, .val (.long q1), .second, .val (.long q2), .second, .val (.long q3), .second, .val (.long q4), .second, .val (.long q5), .second, .val (.long v1), .second, .val (.long v3), .second, .val (.long v4), .second, .val (.long v5), .second, .val (.long v6), .second, .val (.long v7), .second, .val (.long v8), .second, .val (.long v12), .second, .val (.long v17), .second, .val (.ref b19), .val (.ref b22), .val (.ref b25), .unset, .unset, .unset, .unset, .unset, .unset, .unset, .unset, .unset, .unset, .unset, .unset, .unset, .unset] [])
  have hf := own_final v7 v8 v12 v17 v3 v4 v5 v6 d0 d1 d2 d3 d4 hv7 hv8 hv12 hv17 hv3 hv4 hv5 hv6 bd0 bd1 bd2 bd3 bd4 hval
  refine o_lload G31 at_145 (pc' := 147) rfl rfl ?_
  refine o_lload G31 at_147 (pc' := 149) rfl rfl ?_
  refine o_lload G31 at_149 (pc' := 151) rfl rfl ?_
  obtain ⟨v32, e32⟩ : ∃ z, f_5 v3 v5 = z := ⟨_, rfl⟩
  refine o_callP G31 (z := (⟨"com/example/auth_token_server/authtokenserver/signing/ModulusMultiplyAddPinLaw", "lo", "(JJ)J"⟩ : MethodName)) (r := (.long v32)) (argsL := [(.long v3), (.long v5)]) (rest := [(.long v7)]) (W := 2) (hw _ (List.mem_of_getElem? (i := 20) rfl)) (hw _ (List.mem_of_getElem? (i := 21) rfl)) at_151 (by decide) (hw _ (List.mem_of_getElem? (i := 2) rfl)) (hw _ (List.mem_of_getElem? (i := 22) rfl)) (by rw [← e32]; exact rm5 hw v3 v5 h31 n0 G31.sz) (by decide) (by decide) rfl (lenOf pd_1 rfl) rfl (Nat.le_of_eq rfl) (pc' := 154) rfl (by decide) (by decide) ?_
  intro T33 G33
  obtain ⟨v34, e34⟩ : ∃ z, v7 + v32 = z := ⟨_, rfl⟩
  refine o_ladd G33 at_154 (pc' := 155) rfl e34 ?_
  refine o_lstore G33 at_155 (pc' := 157) rfl (l' := #[.val (.long q0), .second, .val (.long q1), .second, .val (.long q2), .second, .val (.long q3), .second, .val (.long q4), .second, .val (.long q5), .second, .val (.long v1), .second, .val (.long v3), .second, .val (.long v4), .second, .val (.long v5), .second, .val (.long v6), .second, .val (.long v7), .second, .val (.long v8), .second, .val (.long v12), .second, .val (.long v17), .second, .val (.ref b19), .val (.ref b22), .val (.ref b25), .val (.long v34), .second, .unset, .unset, .unset, .unset, .unset, .unset, .unset, .unset, .unset, .unset, .unset, .unset]) rfl ?_
  refine o_lload G33 at_157 (pc' := 159) rfl rfl ?_
  refine o_lload G33 at_159 (pc' := 161) rfl rfl ?_
  refine o_lload G33 at_161 (pc' := 163) rfl rfl ?_
  obtain ⟨v35, e35⟩ : ∃ z, f_6 v3 v5 = z := ⟨_, rfl⟩
  refine o_callP G33 (z := (⟨"com/example/auth_token_server/authtokenserver/signing/ModulusMultiplyAddPinLaw", "hi", "(JJ)J"⟩ : MethodName)) (r := (.long v35)) (argsL := [(.long v3), (.long v5)]) (rest := [(.long v8)]) (W := 2) (hw _ (List.mem_of_getElem? (i := 23) rfl)) (hw _ (List.mem_of_getElem? (i := 24) rfl)) at_163 (by decide) (hw _ (List.mem_of_getElem? (i := 2) rfl)) (hw _ (List.mem_of_getElem? (i := 25) rfl)) (by rw [← e35]; exact rm6 hw v3 v5 h31 n0 G33.sz) (by decide) (by decide) rfl (lenOf pd_1 rfl) rfl (Nat.le_of_eq rfl) (pc' := 166) rfl (by decide) (by decide) ?_
  intro T36 G36
  obtain ⟨v37, e37⟩ : ∃ z, v8 + v35 = z := ⟨_, rfl⟩
  refine o_ladd G36 at_166 (pc' := 167) rfl e37 ?_
  refine o_lload G36 at_167 (pc' := 169) rfl rfl ?_
  refine o_lload G36 at_169 (pc' := 171) rfl rfl ?_
  obtain ⟨v38, e38⟩ : ∃ z, f_5 v4 v5 = z := ⟨_, rfl⟩
  refine o_callP G36 (z := (⟨"com/example/auth_token_server/authtokenserver/signing/ModulusMultiplyAddPinLaw", "lo", "(JJ)J"⟩ : MethodName)) (r := (.long v38)) (argsL := [(.long v4), (.long v5)]) (rest := [(.long v37)]) (W := 2) (hw _ (List.mem_of_getElem? (i := 20) rfl)) (hw _ (List.mem_of_getElem? (i := 21) rfl)) at_171 (by decide) (hw _ (List.mem_of_getElem? (i := 2) rfl)) (hw _ (List.mem_of_getElem? (i := 22) rfl)) (by rw [← e38]; exact rm5 hw v4 v5 h31 n0 G36.sz) (by decide) (by decide) rfl (lenOf pd_1 rfl) rfl (Nat.le_of_eq rfl) (pc' := 174) rfl (by decide) (by decide) ?_
  intro T39 G39
  obtain ⟨v40, e40⟩ : ∃ z, v37 + v38 = z := ⟨_, rfl⟩
  refine o_ladd G39 at_174 (pc' := 175) rfl e40 ?_
  refine o_lload G39 at_175 (pc' := 177) rfl rfl ?_
  refine o_lload G39 at_177 (pc' := 179) rfl rfl ?_
  obtain ⟨v41, e41⟩ : ∃ z, f_5 v3 v6 = z := ⟨_, rfl⟩
  refine o_callP G39 (z := (⟨"com/example/auth_token_server/authtokenserver/signing/ModulusMultiplyAddPinLaw", "lo", "(JJ)J"⟩ : MethodName)) (r := (.long v41)) (argsL := [(.long v3), (.long v6)]) (rest := [(.long v40)]) (W := 2) (hw _ (List.mem_of_getElem? (i := 20) rfl)) (hw _ (List.mem_of_getElem? (i := 21) rfl)) at_179 (by decide) (hw _ (List.mem_of_getElem? (i := 2) rfl)) (hw _ (List.mem_of_getElem? (i := 22) rfl)) (by rw [← e41]; exact rm5 hw v3 v6 h31 n0 G39.sz) (by decide) (by decide) rfl (lenOf pd_1 rfl) rfl (Nat.le_of_eq rfl) (pc' := 182) rfl (by decide) (by decide) ?_
  intro T42 G42
  obtain ⟨v43, e43⟩ : ∃ z, v40 + v41 = z := ⟨_, rfl⟩
  refine o_ladd G42 at_182 (pc' := 183) rfl e43 ?_
  refine o_lstore G42 at_183 (pc' := 185) rfl (l' := #[.val (.long q0), .second, .val (.long q1), .second, .val (.long q2), .second, .val (.long q3), .second, .val (.long q4), .second, .val (.long q5), .second, .val (.long v1), .second, .val (.long v3), .second, .val (.long v4), .second, .val (.long v5), .second, .val (.long v6), .second, .val (.long v7), .second, .val (.long v8), .second, .val (.long v12), .second, .val (.long v17), .second, .val (.ref b19), .val (.ref b22), .val (.ref b25), .val (.long v34), .second, .val (.long v43), .second, .unset, .unset, .unset, .unset, .unset, .unset, .unset, .unset, .unset, .unset]) rfl ?_
  refine o_lload G42 at_185 (pc' := 187) rfl rfl ?_
  refine o_lload G42 at_187 (pc' := 189) rfl rfl ?_
  refine o_lload G42 at_189 (pc' := 191) rfl rfl ?_
  obtain ⟨v44, e44⟩ : ∃ z, f_6 v4 v5 = z := ⟨_, rfl⟩
  refine o_callP G42 (z := (⟨"com/example/auth_token_server/authtokenserver/signing/ModulusMultiplyAddPinLaw", "hi", "(JJ)J"⟩ : MethodName)) (r := (.long v44)) (argsL := [(.long v4), (.long v5)]) (rest := [(.long v12)]) (W := 2) (hw _ (List.mem_of_getElem? (i := 23) rfl)) (hw _ (List.mem_of_getElem? (i := 24) rfl)) at_191 (by decide) (hw _ (List.mem_of_getElem? (i := 2) rfl)) (hw _ (List.mem_of_getElem? (i := 25) rfl)) (by rw [← e44]; exact rm6 hw v4 v5 h31 n0 G42.sz) (by decide) (by decide) rfl (lenOf pd_1 rfl) rfl (Nat.le_of_eq rfl) (pc' := 194) rfl (by decide) (by decide) ?_
  intro T45 G45
  obtain ⟨v46, e46⟩ : ∃ z, v12 + v44 = z := ⟨_, rfl⟩
  refine o_ladd G45 at_194 (pc' := 195) rfl e46 ?_
  refine o_lload G45 at_195 (pc' := 197) rfl rfl ?_
  refine o_lload G45 at_197 (pc' := 199) rfl rfl ?_
  obtain ⟨v47, e47⟩ : ∃ z, f_6 v3 v6 = z := ⟨_, rfl⟩
  refine o_callP G45 (z := (⟨"com/example/auth_token_server/authtokenserver/signing/ModulusMultiplyAddPinLaw", "hi", "(JJ)J"⟩ : MethodName)) (r := (.long v47)) (argsL := [(.long v3), (.long v6)]) (rest := [(.long v46)]) (W := 2) (hw _ (List.mem_of_getElem? (i := 23) rfl)) (hw _ (List.mem_of_getElem? (i := 24) rfl)) at_199 (by decide) (hw _ (List.mem_of_getElem? (i := 2) rfl)) (hw _ (List.mem_of_getElem? (i := 25) rfl)) (by rw [← e47]; exact rm6 hw v3 v6 h31 n0 G45.sz) (by decide) (by decide) rfl (lenOf pd_1 rfl) rfl (Nat.le_of_eq rfl) (pc' := 202) rfl (by decide) (by decide) ?_
  intro T48 G48
  obtain ⟨v49, e49⟩ : ∃ z, v46 + v47 = z := ⟨_, rfl⟩
  refine o_ladd G48 at_202 (pc' := 203) rfl e49 ?_
  refine o_lload G48 at_203 (pc' := 205) rfl rfl ?_
  refine o_lload G48 at_205 (pc' := 207) rfl rfl ?_
  obtain ⟨v50, e50⟩ : ∃ z, f_5 v4 v6 = z := ⟨_, rfl⟩
  refine o_callP G48 (z := (⟨"com/example/auth_token_server/authtokenserver/signing/ModulusMultiplyAddPinLaw", "lo", "(JJ)J"⟩ : MethodName)) (r := (.long v50)) (argsL := [(.long v4), (.long v6)]) (rest := [(.long v49)]) (W := 2) (hw _ (List.mem_of_getElem? (i := 20) rfl)) (hw _ (List.mem_of_getElem? (i := 21) rfl)) at_207 (by decide) (hw _ (List.mem_of_getElem? (i := 2) rfl)) (hw _ (List.mem_of_getElem? (i := 22) rfl)) (by rw [← e50]; exact rm5 hw v4 v6 h31 n0 G48.sz) (by decide) (by decide) rfl (lenOf pd_1 rfl) rfl (Nat.le_of_eq rfl) (pc' := 210) rfl (by decide) (by decide) ?_
  intro T51 G51
  obtain ⟨v52, e52⟩ : ∃ z, v49 + v50 = z := ⟨_, rfl⟩
  refine o_ladd G51 at_210 (pc' := 211) rfl e52 ?_
  refine o_lstore G51 at_211 (pc' := 213) rfl (l' := #[.val (.long q0), .second, .val (.long q1), .second, .val (.long q2), .second, .val (.long q3), .second, .val (.long q4), .second, .val (.long q5), .second, .val (.long v1), .second, .val (.long v3), .second, .val (.long v4), .second, .val (.long v5), .second, .val (.long v6), .second, .val (.long v7), .second, .val (.long v8), .second, .val (.long v12), .second, .val (.long v17), .second, .val (.ref b19), .val (.ref b22), .val (.ref b25), .val (.long v34), .second, .val (.long v43), .second, .val (.long v52), .second, .unset, .unset, .unset, .unset, .unset, .unset, .unset, .unset]) rfl ?_
  refine o_lload G51 at_213 (pc' := 215) rfl rfl ?_
  refine o_lload G51 at_215 (pc' := 217) rfl rfl ?_
  refine o_lload G51 at_217 (pc' := 219) rfl rfl ?_
  obtain ⟨v53, e53⟩ : ∃ z, f_6 v4 v6 = z := ⟨_, rfl⟩
  refine o_callP G51 (z := (⟨"com/example/auth_token_server/authtokenserver/signing/ModulusMultiplyAddPinLaw", "hi", "(JJ)J"⟩ : MethodName)) (r := (.long v53)) (argsL := [(.long v4), (.long v6)]) (rest := [(.long v17)]) (W := 2) (hw _ (List.mem_of_getElem? (i := 23) rfl)) (hw _ (List.mem_of_getElem? (i := 24) rfl)) at_219 (by decide) (hw _ (List.mem_of_getElem? (i := 2) rfl)) (hw _ (List.mem_of_getElem? (i := 25) rfl)) (by rw [← e53]; exact rm6 hw v4 v6 h31 n0 G51.sz) (by decide) (by decide) rfl (lenOf pd_1 rfl) rfl (Nat.le_of_eq rfl) (pc' := 222) rfl (by decide) (by decide) ?_
  intro T54 G54
  obtain ⟨v55, e55⟩ : ∃ z, v17 + v53 = z := ⟨_, rfl⟩
  refine o_ladd G54 at_222 (pc' := 223) rfl e55 ?_
  refine o_lstore G54 at_223 (pc' := 225) rfl (l' := #[.val (.long q0), .second, .val (.long q1), .second, .val (.long q2), .second, .val (.long q3), .second, .val (.long q4), .second, .val (.long q5), .second, .val (.long v1), .second, .val (.long v3), .second, .val (.long v4), .second, .val (.long v5), .second, .val (.long v6), .second, .val (.long v7), .second, .val (.long v8), .second, .val (.long v12), .second, .val (.long v17), .second, .val (.ref b19), .val (.ref b22), .val (.ref b25), .val (.long v34), .second, .val (.long v43), .second, .val (.long v52), .second, .val (.long v55), .second, .unset, .unset, .unset, .unset, .unset, .unset]) rfl ?_
  refine o_lload G54 at_225 (pc' := 227) rfl rfl ?_
  refine o_lload G54 at_227 (pc' := 229) rfl rfl ?_
  refine o_bipush G54 at_229 (pc' := 231) rfl (v := (57 : Int32)) rfl ?_
  obtain ⟨v56, e56⟩ : ∃ z, (v34.toUInt64 >>> ((57 : Int32) &&& 0x3f).toInt64.toUInt64).toInt64 = z := ⟨_, rfl⟩
  refine o_lushr G54 at_231 (pc' := 232) rfl e56 ?_
  obtain ⟨v57, e57⟩ : ∃ z, v43 + v56 = z := ⟨_, rfl⟩
  refine o_ladd G54 at_232 (pc' := 233) rfl e57 ?_
  refine o_lstore G54 at_233 (pc' := 235) rfl (l' := #[.val (.long q0), .second, .val (.long q1), .second, .val (.long q2), .second, .val (.long q3), .second, .val (.long q4), .second, .val (.long q5), .second, .val (.long v1), .second, .val (.long v3), .second, .val (.long v4), .second, .val (.long v5), .second, .val (.long v6), .second, .val (.long v7), .second, .val (.long v8), .second, .val (.long v12), .second, .val (.long v17), .second, .val (.ref b19), .val (.ref b22), .val (.ref b25), .val (.long v34), .second, .val (.long v43), .second, .val (.long v52), .second, .val (.long v55), .second, .val (.long v57), .second, .unset, .unset, .unset, .unset]) rfl ?_
  refine o_lload G54 at_235 (pc' := 237) rfl rfl ?_
  refine o_lload G54 at_237 (pc' := 239) rfl rfl ?_
  refine o_bipush G54 at_239 (pc' := 241) rfl (v := (57 : Int32)) rfl ?_
  obtain ⟨v58, e58⟩ : ∃ z, (v57.toUInt64 >>> ((57 : Int32) &&& 0x3f).toInt64.toUInt64).toInt64 = z := ⟨_, rfl⟩
  refine o_lushr G54 at_241 (pc' := 242) rfl e58 ?_
  obtain ⟨v59, e59⟩ : ∃ z, v52 + v58 = z := ⟨_, rfl⟩
  refine o_ladd G54 at_242 (pc' := 243) rfl e59 ?_
  refine o_lstore G54 at_243 (pc' := 245) rfl (l' := #[.val (.long q0), .second, .val (.long q1), .second, .val (.long q2), .second, .val (.long q3), .second, .val (.long q4), .second, .val (.long q5), .second, .val (.long v1), .second, .val (.long v3), .second, .val (.long v4), .second, .val (.long v5), .second, .val (.long v6), .second, .val (.long v7), .second, .val (.long v8), .second, .val (.long v12), .second, .val (.long v17), .second, .val (.ref b19), .val (.ref b22), .val (.ref b25), .val (.long v34), .second, .val (.long v43), .second, .val (.long v52), .second, .val (.long v55), .second, .val (.long v57), .second, .val (.long v59), .second, .unset, .unset]) rfl ?_
  refine o_lload G54 at_245 (pc' := 247) rfl rfl ?_
  refine o_lload G54 at_247 (pc' := 249) rfl rfl ?_
  refine o_bipush G54 at_249 (pc' := 251) rfl (v := (57 : Int32)) rfl ?_
  obtain ⟨v60, e60⟩ : ∃ z, (v59.toUInt64 >>> ((57 : Int32) &&& 0x3f).toInt64.toUInt64).toInt64 = z := ⟨_, rfl⟩
  refine o_lushr G54 at_251 (pc' := 252) rfl e60 ?_
  obtain ⟨v61, e61⟩ : ∃ z, v55 + v60 = z := ⟨_, rfl⟩
  refine o_ladd G54 at_252 (pc' := 253) rfl e61 ?_
  refine o_lstore G54 at_253 (pc' := 255) rfl (l' := #[.val (.long q0), .second, .val (.long q1), .second, .val (.long q2), .second, .val (.long q3), .second, .val (.long q4), .second, .val (.long q5), .second, .val (.long v1), .second, .val (.long v3), .second, .val (.long v4), .second, .val (.long v5), .second, .val (.long v6), .second, .val (.long v7), .second, .val (.long v8), .second, .val (.long v12), .second, .val (.long v17), .second, .val (.ref b19), .val (.ref b22), .val (.ref b25), .val (.long v34), .second, .val (.long v43), .second, .val (.long v52), .second, .val (.long v55), .second, .val (.long v57), .second, .val (.long v59), .second, .val (.long v61), .second]) rfl ?_
  refine o_aload G54 at_255 (pc' := 257) rfl rfl rfl ?_
  refine o_iconst G54 at_257 (pc' := 258) rfl (v := (0 : Int32)) rfl ?_
  refine o_laload G54 A31 (i := 0) rfl (by decide) (v := (.long d0)) rfl at_258 (pc' := 259) rfl ?_
  refine o_lload G54 at_259 (pc' := 261) rfl rfl ?_
  refine o_lload G54 at_261 (pc' := 263) rfl rfl ?_
  obtain ⟨v62, e62⟩ : ∃ z, v34 &&& v1 = z := ⟨_, rfl⟩
  refine o_land G54 at_263 (pc' := 264) rfl e62 ?_
  refine o_lcmp_ne G54 at_264 (pc1 := 265) rfl at_265 (by decide) (pcT := 364) (by decide) (pc' := 268) rfl (fun q => absurd (by
        subst e1 e32 e34 e35 e37 e38 e40 e41 e43 e44 e46 e47 e49 e50 e52 e53 e55 e56 e57 e58 e59 e60 e61 e62
        exact hf.1) q) (fun _ => ?_)
  refine o_aload G54 at_268 (pc' := 270) rfl rfl rfl ?_
  refine o_iconst G54 at_270 (pc' := 271) rfl (v := (1 : Int32)) rfl ?_
  refine o_laload G54 A31 (i := 1) rfl (by decide) (v := (.long d1)) rfl at_271 (pc' := 272) rfl ?_
  refine o_lload G54 at_272 (pc' := 274) rfl rfl ?_
  refine o_lload G54 at_274 (pc' := 276) rfl rfl ?_
  obtain ⟨v63, e63⟩ : ∃ z, v57 &&& v1 = z := ⟨_, rfl⟩
  refine o_land G54 at_276 (pc' := 277) rfl e63 ?_
  refine o_lcmp_ne G54 at_277 (pc1 := 278) rfl at_278 (by decide) (pcT := 364) (by decide) (pc' := 281) rfl (fun q => absurd (by
        subst e1 e32 e34 e35 e37 e38 e40 e41 e43 e44 e46 e47 e49 e50 e52 e53 e55 e56 e57 e58 e59 e60 e61 e62 e63
        exact hf.2.1) q) (fun _ => ?_)
  refine o_aload G54 at_281 (pc' := 283) rfl rfl rfl ?_
  refine o_iconst G54 at_283 (pc' := 284) rfl (v := (2 : Int32)) rfl ?_
  refine o_laload G54 A31 (i := 2) rfl (by decide) (v := (.long d2)) rfl at_284 (pc' := 285) rfl ?_
  refine o_lload G54 at_285 (pc' := 287) rfl rfl ?_
  refine o_lload G54 at_287 (pc' := 289) rfl rfl ?_
  obtain ⟨v64, e64⟩ : ∃ z, v59 &&& v1 = z := ⟨_, rfl⟩
  refine o_land G54 at_289 (pc' := 290) rfl e64 ?_
  refine o_lcmp_ne G54 at_290 (pc1 := 291) rfl at_291 (by decide) (pcT := 364) (by decide) (pc' := 294) rfl (fun q => absurd (by
        subst e1 e32 e34 e35 e37 e38 e40 e41 e43 e44 e46 e47 e49 e50 e52 e53 e55 e56 e57 e58 e59 e60 e61 e62 e63 e64
        exact hf.2.2.1) q) (fun _ => ?_)
  refine o_aload G54 at_294 (pc' := 296) rfl rfl rfl ?_
  refine o_iconst G54 at_296 (pc' := 297) rfl (v := (3 : Int32)) rfl ?_
  refine o_laload G54 A31 (i := 3) rfl (by decide) (v := (.long d3)) rfl at_297 (pc' := 298) rfl ?_
  refine o_lload G54 at_298 (pc' := 300) rfl rfl ?_
  refine o_lload G54 at_300 (pc' := 302) rfl rfl ?_
  obtain ⟨v65, e65⟩ : ∃ z, v61 &&& v1 = z := ⟨_, rfl⟩
  refine o_land G54 at_302 (pc' := 303) rfl e65 ?_
  refine o_lcmp_ne G54 at_303 (pc1 := 304) rfl at_304 (by decide) (pcT := 364) (by decide) (pc' := 307) rfl (fun q => absurd (by
        subst e1 e32 e34 e35 e37 e38 e40 e41 e43 e44 e46 e47 e49 e50 e52 e53 e55 e56 e57 e58 e59 e60 e61 e62 e63 e64 e65
        exact hf.2.2.2.1) q) (fun _ => ?_)
  refine o_aload G54 at_307 (pc' := 309) rfl rfl rfl ?_
  refine o_iconst G54 at_309 (pc' := 310) rfl (v := (4 : Int32)) rfl ?_
  refine o_laload G54 A31 (i := 4) rfl (by decide) (v := (.long d4)) rfl at_310 (pc' := 311) rfl ?_
  refine o_lload G54 at_311 (pc' := 313) rfl rfl ?_
  refine o_bipush G54 at_313 (pc' := 315) rfl (v := (57 : Int32)) rfl ?_
  obtain ⟨v66, e66⟩ : ∃ z, (v61.toUInt64 >>> ((57 : Int32) &&& 0x3f).toInt64.toUInt64).toInt64 = z := ⟨_, rfl⟩
  refine o_lushr G54 at_315 (pc' := 316) rfl e66 ?_
  refine o_lcmp_ne G54 at_316 (pc1 := 317) rfl at_317 (by decide) (pcT := 364) (by decide) (pc' := 320) rfl (fun q => absurd (by
        subst e1 e32 e34 e35 e37 e38 e40 e41 e43 e44 e46 e47 e49 e50 e52 e53 e55 e56 e57 e58 e59 e60 e61 e62 e63 e64 e65 e66
        exact hf.2.2.2.2) q) (fun _ => ?_)
  refine o_aload G54 at_320 (pc' := 322) rfl rfl rfl ?_
  refine o_iconst G54 at_322 (pc' := 323) rfl (v := (0 : Int32)) rfl ?_
  refine o_laload G54 A_b19 (i := 0) rfl (by decide) (v := (.long v3)) rfl at_323 (pc' := 324) rfl ?_
  refine o_lload G54 at_324 (pc' := 326) rfl rfl ?_
  refine o_lcmp_ne G54 at_326 (pc1 := 327) rfl at_327 (by decide) (pcT := 364) (by decide) (pc' := 330) rfl (fun q => absurd rfl q) (fun _ => ?_)
  refine o_aload G54 at_330 (pc' := 332) rfl rfl rfl ?_
  refine o_iconst G54 at_332 (pc' := 333) rfl (v := (1 : Int32)) rfl ?_
  refine o_laload G54 A_b19 (i := 1) rfl (by decide) (v := (.long v4)) rfl at_333 (pc' := 334) rfl ?_
  refine o_lload G54 at_334 (pc' := 336) rfl rfl ?_
  refine o_lcmp_ne G54 at_336 (pc1 := 337) rfl at_337 (by decide) (pcT := 364) (by decide) (pc' := 340) rfl (fun q => absurd rfl q) (fun _ => ?_)
  refine o_aload G54 at_340 (pc' := 342) rfl rfl rfl ?_
  refine o_iconst G54 at_342 (pc' := 343) rfl (v := (0 : Int32)) rfl ?_
  refine o_laload G54 A_b22 (i := 0) rfl (by decide) (v := (.long v5)) rfl at_343 (pc' := 344) rfl ?_
  refine o_lload G54 at_344 (pc' := 346) rfl rfl ?_
  refine o_lcmp_ne G54 at_346 (pc1 := 347) rfl at_347 (by decide) (pcT := 364) (by decide) (pc' := 350) rfl (fun q => absurd rfl q) (fun _ => ?_)
  refine o_aload G54 at_350 (pc' := 352) rfl rfl rfl ?_
  refine o_iconst G54 at_352 (pc' := 353) rfl (v := (1 : Int32)) rfl ?_
  refine o_laload G54 A_b22 (i := 1) rfl (by decide) (v := (.long v6)) rfl at_353 (pc' := 354) rfl ?_
  refine o_lload G54 at_354 (pc' := 356) rfl rfl ?_
  refine o_lcmp_ne G54 at_356 (pc1 := 357) rfl at_357 (by decide) (pcT := 364) (by decide) (pc' := 360) rfl (fun q => absurd rfl q) (fun _ => ?_)
  refine o_iconst G54 at_360 (pc' := 361) rfl (v := (1 : Int32)) rfl ?_
  refine o_goto G54 at_361 (by decide) (pc' := 365) rfl ?_
  exact o_nreturn (t := .boolean) G54 (by simp) at_365 rfl (by decide) (by decide)
set_option maxRecDepth 65536 in
set_option maxHeartbeats 40000000 in
theorem comes_1 {Post : Tables → Env → Array Value → State → Outcome → State → Prop} (hpost : ∀ tb e args s v u, (limb_1_1.after args s (.returned v) u = true ∧ limb_1_2.after args s (.returned v) u = true ∧ True) → FrameEnd s (.returned v) u (Jvm.fieldLocs frame_1_writes args s ++ Jvm.arrayLocs frame_1_arrays args s ++ Jvm.staticLocs frame_1_statics s) 16 128 → Post tb e args s (.returned v) u) :
    ArmFor flags0 classFile x code maxLocals ret World_1 tables_1 room_1 Calls_1 rest_1 Pre_1 Post := by
  intro l hfl _ _ p e ha hc hk s m args below hf hA hF happ hP
  obtain ⟨hcalls, hrest, hpre⟩ := hP
  obtain ⟨-, -, -, hnamed, -, -, -, hat⟩ := (Spec.applies_iff hf).mp happ
  obtain ⟨hg, hn⟩ := and_e (Cond.before_iff.mp (show (Jvm.Cond.and given_1 narrow_1).before args s = true from hpre))
  obtain ⟨g1, g2⟩ := and_e hg
  obtain ⟨g3, g4⟩ := and_e g2
  obtain ⟨g5, g6⟩ := and_e g4
  obtain ⟨g7, g8⟩ := and_e g6
  obtain ⟨g9, g10⟩ := and_e g8
  obtain ⟨g11, g12⟩ := and_e g10
  obtain ⟨w0, w1, w2, w3, w4, w5, rfl⟩ : ∃ w0 w1 w2 w3 w4 w5 : Value, args = #[w0, w1, w2, w3, w4, w5] := by
    have hs : args.size = 6 := by simpa [Cond.value, given_1] using g1
    obtain ⟨L⟩ := args
    match L, hs with
    | [w0, w1, w2, w3, w4, w5], _ => exact ⟨w0, w1, w2, w3, w4, w5, rfl⟩
  have hw := fun d (hd : d ∈ tables_1) => atoms_spec (ws := Jvm.Cond.code x code maxLocals ret :: tables_1) hat d (List.mem_cons_of_mem _ hd)
  obtain ⟨i0, ei0⟩ := isL_v g3
  obtain rfl : w0 = (.long i0) := Option.some.inj ei0
  obtain ⟨i1, ei1⟩ := isL_v g5
  obtain rfl : w1 = (.long i1) := Option.some.inj ei1
  obtain ⟨i2, ei2⟩ := isL_v g7
  obtain rfl : w2 = (.long i2) := Option.some.inj ei2
  obtain ⟨i3, ei3⟩ := isL_v g9
  obtain rfl : w3 = (.long i3) := Option.some.inj ei3
  obtain ⟨i4, ei4⟩ := isL_v g11
  obtain rfl : w4 = (.long i4) := Option.some.inj ei4
  obtain ⟨i5, ei5⟩ := isL_v g12
  obtain rfl : w5 = (.long i5) := Option.some.inj ei5
  obtain ⟨n, o, h1, h2, h3, _, L, rfl, ⟨N, _, hv⟩, hq⟩ := rm0 (l := l) (Z := s) hw i0 i1 i2 i3 i4 i5 s.heap s.heap.size (Nat.le_refl _)  tables_1 p e ha hc hk s m _ below hf ((Spec.applies_iff_loose hf).mp happ).1 ⟨rfl, State.Warmed39.refl s, rfl⟩ trivial
  subst hv
  refine ⟨n, _, h1, h2, h3, hpost _ _ _ _ _ _ ⟨Cond.after_iff.mpr rfl, Cond.after_iff.mpr (eq_i res_at (Term.int_eval (1)) rfl), trivial⟩ ⟨hq.1, hq.2.1, (hq.2.2.sift fun y hy => Or.inr (N y hy)).mono (by decide) (by decide)⟩⟩
theorem main_1_1 : Claimed_1_1 := comes_1 fun _ _ _ _ _ _ h hF => ⟨h.1, hF⟩
theorem main_1_2 : Claimed_1_2 := comes_1 fun _ _ _ _ _ _ h hF => ⟨h.2.1, hF⟩
end Jvm.Pilot.@@N@@
namespace Jvm.Pilot.@@N@@
open Jvm Jvm.ClassFile Sem Op Lib Jvm.Free Jvm.Stand Jvm.Pilot.@@N@@.Jvm.D
/-! MADE BY PROGRAM (witnessworld.py) out of the Statement's table words and the real class files: 12 classes; the members and pool entries that the words name. The judged class is class 1, her method 5. -/
namespace start1
open Jvm.ClassFile
def u (s : String) : CpInfo := .utf8 (stringToUtf16 s)
/-- a pool by its gaps: so many unusable entries, then the entry; so many at the end -/
def gap : Nat → List CpInfo → List CpInfo
  | 0, r => r
  | n + 1, r => .unusable :: gap n r
def poolList (es : List (Nat × CpInfo)) (last : Nat) : List CpInfo := es.foldr (fun e r => gap e.1 (e.2 :: r)) (gap last [])
def pool (es : List (Nat × CpInfo)) (last : Nat) : Array CpInfo := ⟨poolList es last⟩
def fileOf (pool : Array CpInfo) (this : Nat) (attrs : Array Attribute := #[]) (ms : Array MethodInfo := #[]) (fl : Nat := 33) (sup : Nat := 0) (ifs : Array Nat := #[]) (fds : Array FieldInfo := #[]) : ClassFile where
  minorVersion := 0
  majorVersion := 65
  constantPool := pool
  accessFlags := fl
  thisClass := this
  superClass := sup
  interfaces := ifs
  fields := fds
  methods := ms
  attributes := attrs
def plain (name : String) (sup : Option ClassId) : Class where
  name := name
  kind := .ordinary
  loader := none
  accessFlags := 33
  super := sup
  interfaces := #[]
  cf := none
  fields := #[]
  methods := #[]
  instanceTypes := #[]
  staticTypes := #[]
  resolved := #[]
  callSites := []
  init := .initialized
  statics := none
  mirror := none

def pool0 : Array CpInfo := pool [(5, u "<init>"), (0, u "()V"), (1, .class_ 10), (1, u "java/lang/Object")] 113

def k0m0 : Method := { name := "<init>", desc := "()V", sig := { parameters := [], returnType := none }, accessFlags := 1, code := none }
/-- java/lang/Object -/
def k0 : Class := { plain "java/lang/Object" none with
  accessFlags := 33
  interfaces := #[]
  cf := some (fileOf pool0 8 #[] #[{ accessFlags := 1, nameIndex := 5, descriptorIndex := 6, attributes := #[] }] 33 0 #[] #[])
  fields := #[]
  methods := #[k0m0]
  instanceTypes := #[]
  staticTypes := #[]
  resolved := Array.replicate 124 none
  statics := none }

def pool1 : Array CpInfo := pool [(2, .class_ 4), (1, u "java/lang/Object"), (0, u "<init>"), (0, u "()V"), (0, .long 144115188075855871), (1, .methodref 10 11), (0, .class_ 12), (0, .nameAndType 13 14), (0, u "com/example/auth_token_server/authtokenserver/signing/ModulusMultiplyAddPinLaw"), (0, u "mask"), (0, u "()J"), (0, .long 536870911), (1, .long 2), (1, .long 3), (1, .methodref 10 22), (0, .nameAndType 23 24), (0, u "pick"), (0, u "(IJ)J"), (0, .methodref 26 27), (0, .class_ 28), (0, .nameAndType 29 30), (0, u "com/example/auth_token_server/authtokenserver/signing/Modulus"), (0, u "multiplyAdd"), (0, u "([J[J[J)V"), (0, .methodref 10 32), (0, .nameAndType 33 34), (0, u "lo"), (0, u "(JJ)J"), (0, .methodref 10 36), (0, .nameAndType 37 34), (0, u "hi"), (3, u "law"), (0, u "(JJJJJJ)Z")] 4

def k1m0 : Method := { name := "<init>", desc := "()V", sig := { parameters := [], returnType := none }, accessFlags := 1, code := none }
def k1c1 : Code := { maxStack := 2, maxLocals := 0, code := method_2_code, exceptionTable := #[], attributes := #[] }
def k1m1 : Method := { name := "mask", desc := "()J", sig := { parameters := [], returnType := some .long }, accessFlags := 10, code := some k1c1 }
def k1c2 : Code := { maxStack := 4, maxLocals := 4, code := method_3_code, exceptionTable := #[], attributes := #[] }
def k1m2 : Method := { name := "lo", desc := "(JJ)J", sig := { parameters := [.long, .long], returnType := some .long }, accessFlags := 10, code := some k1c2 }
def k1c3 : Code := { maxStack := 6, maxLocals := 22, code := method_4_code, exceptionTable := #[], attributes := #[] }
def k1m3 : Method := { name := "hi", desc := "(JJ)J", sig := { parameters := [.long, .long], returnType := some .long }, accessFlags := 10, code := some k1c3 }
def k1c4 : Code := { maxStack := 2, maxLocals := 3, code := method_5_code, exceptionTable := #[], attributes := #[] }
def k1m4 : Method := { name := "pick", desc := "(IJ)J", sig := { parameters := [.int, .long], returnType := some .long }, accessFlags := 10, code := some k1c4 }
def k1c5 : Code := { maxStack := 6, maxLocals := 47, code := code, exceptionTable := #[], attributes := #[] }
def k1m5 : Method := { name := "law", desc := "(JJJJJJ)Z", sig := { parameters := [.long, .long, .long, .long, .long, .long], returnType := some .boolean }, accessFlags := 9, code := some k1c5 }
/-- com/example/auth_token_server/authtokenserver/signing/ModulusMultiplyAddPinLaw -/
def k1 : Class := { plain "com/example/auth_token_server/authtokenserver/signing/ModulusMultiplyAddPinLaw" (some 0) with
  accessFlags := 49
  interfaces := #[]
  cf := some (fileOf pool1 10 #[] #[{ accessFlags := 1, nameIndex := 5, descriptorIndex := 6, attributes := #[] }, { accessFlags := 10, nameIndex := 13, descriptorIndex := 14, attributes := #[] }, { accessFlags := 10, nameIndex := 33, descriptorIndex := 34, attributes := #[] }, { accessFlags := 10, nameIndex := 37, descriptorIndex := 34, attributes := #[] }, { accessFlags := 10, nameIndex := 23, descriptorIndex := 24, attributes := #[] }, { accessFlags := 9, nameIndex := 41, descriptorIndex := 42, attributes := #[] }] 49 2 #[] #[])
  fields := #[]
  methods := #[k1m0, k1m1, k1m2, k1m3, k1m4, k1m5]
  instanceTypes := #[]
  staticTypes := #[]
  resolved := Array.replicate 47 none
  statics := none }

def pool2 : Array CpInfo := pool [(1, .class_ 2), (0, u "com/example/auth_token_server/authtokenserver/signing/Modulus"), (3, .class_ 8), (1, u "java/lang/Object"), (33, u "modulus"), (0, u "[J"), (2, .long 144115188075855871), (3, u "inverse"), (0, u "J"), (17, u "rSquared"), (2, u "one"), (1, .class_ 76), (1, u "java/lang/Math"), (5, u "chunkWeights"), (0, u "[[J"), (15, u "workspaces"), (0, u "Ljava/lang/ThreadLocal;"), (23, .methodref 74 125), (0, .nameAndType 126 127), (0, u "multiplyHigh"), (0, u "(JJ)J"), (3, .class_ 132), (0, u "com/example/auth_token_server/authtokenserver/signing/Modulus$Workspace"), (27, u "([J[J[J)V"), (35, u "LIMB_BITS"), (0, u "I"), (2, u "MOST_LIMBS"), (1, u "LIMB"), (0, u "HIGH_SHIFT"), (1, u "WINDOW"), (1, u "ODD_POWERS"), (1, u "SHORT_EXPONENT_BITS"), (15, u "multiplyAdd")] 42

def k2c0 : Code := { maxStack := 6, maxLocals := 18, code := prog_45_method_7_code, exceptionTable := #[], attributes := #[] }
def k2m0 : Method := { name := "multiplyAdd", desc := "([J[J[J)V", sig := { parameters := [(.array .long), (.array .long), (.array .long)], returnType := none }, accessFlags := 8, code := some k2c0 }
/-- com/example/auth_token_server/authtokenserver/signing/Modulus -/
def k2 : Class := { plain "com/example/auth_token_server/authtokenserver/signing/Modulus" (some 0) with
  accessFlags := 32
  interfaces := #[]
  cf := some (fileOf pool2 1 #[.nestMembers #[131]] #[{ accessFlags := 8, nameIndex := 225, descriptorIndex := 160, attributes := #[] }] 32 6 #[] #[{ accessFlags := 24, nameIndex := 196, descriptorIndex := 197, attributes := #[] }, { accessFlags := 24, nameIndex := 200, descriptorIndex := 197, attributes := #[] }, { accessFlags := 26, nameIndex := 202, descriptorIndex := 51, attributes := #[] }, { accessFlags := 26, nameIndex := 203, descriptorIndex := 197, attributes := #[] }, { accessFlags := 26, nameIndex := 205, descriptorIndex := 197, attributes := #[] }, { accessFlags := 26, nameIndex := 207, descriptorIndex := 197, attributes := #[] }, { accessFlags := 26, nameIndex := 209, descriptorIndex := 197, attributes := #[] }, { accessFlags := 18, nameIndex := 42, descriptorIndex := 43, attributes := #[] }, { accessFlags := 18, nameIndex := 50, descriptorIndex := 51, attributes := #[] }, { accessFlags := 18, nameIndex := 69, descriptorIndex := 43, attributes := #[] }, { accessFlags := 18, nameIndex := 72, descriptorIndex := 43, attributes := #[] }, { accessFlags := 18, nameIndex := 82, descriptorIndex := 83, attributes := #[] }, { accessFlags := 18, nameIndex := 99, descriptorIndex := 100, attributes := #[] }])
  fields := #[{ name := "LIMB_BITS", type := .int, accessFlags := 24, slot := 0, constantValue := 0 }, { name := "MOST_LIMBS", type := .int, accessFlags := 24, slot := 1, constantValue := 0 }, { name := "LIMB", type := .long, accessFlags := 26, slot := 2, constantValue := 0 }, { name := "HIGH_SHIFT", type := .int, accessFlags := 26, slot := 3, constantValue := 0 }, { name := "WINDOW", type := .int, accessFlags := 26, slot := 4, constantValue := 0 }, { name := "ODD_POWERS", type := .int, accessFlags := 26, slot := 5, constantValue := 0 }, { name := "SHORT_EXPONENT_BITS", type := .int, accessFlags := 26, slot := 6, constantValue := 0 }, { name := "modulus", type := (.array .long), accessFlags := 18, slot := 0, constantValue := 0 }, { name := "inverse", type := .long, accessFlags := 18, slot := 1, constantValue := 0 }, { name := "rSquared", type := (.array .long), accessFlags := 18, slot := 2, constantValue := 0 }, { name := "one", type := (.array .long), accessFlags := 18, slot := 3, constantValue := 0 }, { name := "chunkWeights", type := (.array (.array .long)), accessFlags := 18, slot := 4, constantValue := 0 }, { name := "workspaces", type := (.object "java/lang/ThreadLocal"), accessFlags := 18, slot := 5, constantValue := 0 }]
  methods := #[k2m0]
  instanceTypes := #[(.array .long), .long, (.array .long), (.array .long), (.array (.array .long)), (.object "java/lang/ThreadLocal")]
  staticTypes := #[.int, .int, .long, .int, .int, .int, .int]
  resolved := Array.replicate 268 none
  statics := none }

def pool3 : Array CpInfo := pool [(1, .class_ 2), (0, u "java/lang/Math"), (1, .class_ 6), (1, u "java/lang/Object"), (0, u "<init>"), (0, u "()V"), (89, .class_ 100), (1, u "java/lang/Math$RandomNumberGeneratorHolder"), (20, u "(JJ)J"), (16, .long 4294967295), (3, u "multiplyHigh"), (29, u "negativeZeroFloatBits"), (0, u "J"), (2, u "negativeZeroDoubleBits"), (68, u "$assertionsDisabled"), (0, u "Z"), (91, u "twoToTheDoubleScaleDown"), (0, u "D"), (4, u "twoToTheDoubleScaleUp"), (9, u "E"), (3, u "PI"), (2, u "TAU"), (2, u "DEGREES_TO_RADIANS"), (0, u "RADIANS_TO_DEGREES")] 94

def k3m0 : Method := { name := "<init>", desc := "()V", sig := { parameters := [], returnType := none }, accessFlags := 2, code := none }
def k3c1 : Code := { maxStack := 6, maxLocals := 20, code := jdk_29_method_45_code, exceptionTable := #[], attributes := #[] }
def k3m1 : Method := { name := "multiplyHigh", desc := "(JJ)J", sig := { parameters := [.long, .long], returnType := some .long }, accessFlags := 9, code := some k3c1 }
/-- java/lang/Math -/
def k3 : Class := { plain "java/lang/Math" (some 0) with
  accessFlags := 49
  interfaces := #[]
  cf := some (fileOf pool3 1 #[.nestMembers #[98]] #[{ accessFlags := 2, nameIndex := 7, descriptorIndex := 8, attributes := #[] }, { accessFlags := 9, nameIndex := 142, descriptorIndex := 121, attributes := #[] }] 49 4 #[] #[{ accessFlags := 25, nameIndex := 354, descriptorIndex := 339, attributes := #[] }, { accessFlags := 25, nameIndex := 358, descriptorIndex := 339, attributes := #[] }, { accessFlags := 25, nameIndex := 361, descriptorIndex := 339, attributes := #[] }, { accessFlags := 26, nameIndex := 364, descriptorIndex := 339, attributes := #[] }, { accessFlags := 26, nameIndex := 365, descriptorIndex := 339, attributes := #[] }, { accessFlags := 26, nameIndex := 172, descriptorIndex := 173, attributes := #[] }, { accessFlags := 26, nameIndex := 176, descriptorIndex := 173, attributes := #[] }, { accessFlags := 8, nameIndex := 344, descriptorIndex := 339, attributes := #[] }, { accessFlags := 8, nameIndex := 338, descriptorIndex := 339, attributes := #[] }, { accessFlags := 4120, nameIndex := 245, descriptorIndex := 246, attributes := #[] }])
  fields := #[{ name := "E", type := .double, accessFlags := 25, slot := 0, constantValue := 0 }, { name := "PI", type := .double, accessFlags := 25, slot := 1, constantValue := 0 }, { name := "TAU", type := .double, accessFlags := 25, slot := 2, constantValue := 0 }, { name := "DEGREES_TO_RADIANS", type := .double, accessFlags := 26, slot := 3, constantValue := 0 }, { name := "RADIANS_TO_DEGREES", type := .double, accessFlags := 26, slot := 4, constantValue := 0 }, { name := "negativeZeroFloatBits", type := .long, accessFlags := 26, slot := 5, constantValue := 0 }, { name := "negativeZeroDoubleBits", type := .long, accessFlags := 26, slot := 6, constantValue := 0 }, { name := "twoToTheDoubleScaleUp", type := .double, accessFlags := 8, slot := 7, constantValue := 0 }, { name := "twoToTheDoubleScaleDown", type := .double, accessFlags := 8, slot := 8, constantValue := 0 }, { name := "$assertionsDisabled", type := .boolean, accessFlags := 4120, slot := 9, constantValue := 0 }]
  methods := #[k3m0, k3m1]
  instanceTypes := #[]
  staticTypes := #[.double, .double, .double, .double, .double, .long, .long, .double, .double, .boolean]
  resolved := Array.replicate 460 none
  statics := none }

def pool4 : Array CpInfo := pool [(1, u "java/lang/Cloneable"), (0, .class_ 1), (0, u "java/lang/Object"), (0, .class_ 3)] 3

/-- java/lang/Cloneable -/
def k4 : Class := { plain "java/lang/Cloneable" (some 0) with
  accessFlags := 1537
  interfaces := #[]
  cf := some (fileOf pool4 2 #[] #[] 1537 4 #[] #[])
  fields := #[]
  methods := #[]
  instanceTypes := #[]
  staticTypes := #[]
  resolved := Array.replicate 8 none
  statics := none }

def pool5 : Array CpInfo := pool [(1, u "java/io/Serializable"), (0, .class_ 1), (0, u "java/lang/Object"), (0, .class_ 3)] 3

/-- java/io/Serializable -/
def k5 : Class := { plain "java/io/Serializable" (some 0) with
  accessFlags := 1537
  interfaces := #[]
  cf := some (fileOf pool5 2 #[] #[] 1537 4 #[] #[])
  fields := #[]
  methods := #[]
  instanceTypes := #[]
  staticTypes := #[]
  resolved := Array.replicate 8 none
  statics := none }

/-- the primitive byte -/
def k6 : Class := { plain "byte" none with kind := .primitive 'B', accessFlags := 0x411 }
/-- [B -/
def k7 : Class := { plain "[B" (some 0) with kind := .array 6 .byte, interfaces := #[4, 5], accessFlags := 1041 }

/-- the primitive int -/
def k8 : Class := { plain "int" none with kind := .primitive 'I', accessFlags := 0x411 }
/-- [I -/
def k9 : Class := { plain "[I" (some 0) with kind := .array 8 .int, interfaces := #[4, 5], accessFlags := 1041 }

/-- the primitive long -/
def k10 : Class := { plain "long" none with kind := .primitive 'J', accessFlags := 0x411 }
/-- [J -/
def k11 : Class := { plain "[J" (some 0) with kind := .array 10 .long, interfaces := #[4, 5], accessFlags := 1041 }

def heap : Heap := #[]
def classes : Array Class := #[k0, k1, k2, k3, k4, k5, k6, k7, k8, k9, k10, k11]
def interned : List (Array UInt16 × Addr) := []
def slotsUsed : Nat := 0
def theMethod : MethodId := ⟨1, 5⟩
def args0 : Array Value := #[.long 5, .long 5, .long 5, .long 5, .long 5, .long 5]
def aboutOver (below : List Frame) : State where
  vm := { classes := classes, interned := interned.toArray }
  heap := heap
  slotsUsed := slotsUsed
  threads := #[{ frames := .invoking theMethod args0 :: below }]
def below0 : List Frame := [.native { method := ⟨0, 0⟩, args := #[] }]
def about1 : State := aboutOver below0
def p0 : Program := .bare "" "" ""
def e0 : Env := launch0.env 0 0 0
theorem w_frames : about1.frames = Frame.invoking theMethod args0 :: below0 := rfl
set_option maxRecDepth 65536 in
theorem w_args : argsFit about1.vm theMethod args0 = true := by decide +kernel
set_option maxRecDepth 65536 in
theorem w_heap : heapFits about1 = true := by decide +kernel
set_option maxRecDepth 65536 in
theorem w_runnable : about1.curStatus? = some .runnable := by decide +kernel
set_option maxRecDepth 65536 in
theorem w_alone : about1.alone = true := by decide +kernel
set_option maxRecDepth 65536 in
theorem w_named : about1.methodNamed? x = some theMethod := by decide +kernel
set_option maxRecDepth 65536 in
theorem w_hears : about1.hears theMethod below0 = true := by decide +kernel
set_option maxRecDepth 65536 in
theorem w_ripe : about1.ripe theMethod args0 below0 = true := by decide +kernel
theorem w_running : about1.status = .running := rfl
set_option maxRecDepth 65536 in
theorem w_room : about1.hasRoom e0.platform room_1 = true :=
  launch0.hasRoom_least _ room_1 (by decide +kernel) (by decide +kernel) (by decide +kernel) (by decide +kernel) (by decide +kernel) (by decide +kernel)
theorem allAtoms_all (ts : List Jvm.Cond) (a : Array Jvm.Value) (st : Jvm.State) : (allAtoms ts).before a st = ts.all (fun c => c.before a st) := by
  induction ts with
  | nil => rfl
  | cons c t ih =>
    show (Jvm.Cond.and c (allAtoms t)).before a st = _
    rw [Jvm.Cond.before_and, ih, List.all_cons]
def words1 : List Jvm.Cond := Jvm.Cond.code x code maxLocals ret :: tables_1
/-- a 'code' word, met by the world's own term for the bytes: nothing is compared byte by byte -/
theorem code_word {y : MethodName} {bytes : ByteArray} {mx : Nat} {rt : Option FieldType} {a : Array Value} {s : State} {m : MethodId} {meth : Method} {c : Code} (h1 : s.methodNamed? y = some m) (h2 : s.vm.method? m = some meth) (h3 : meth.code = some c) (h4 : c.code = bytes)
    (h5 : (c.maxLocals == mx && c.exceptionTable.isEmpty && decide (c.maxStack ≤ mostOperands) && decide (meth.sig.returnType = rt) && !meth.locks && decide (parseMethodDescriptor y.desc = some meth.sig)) = true) : (Jvm.Cond.code y bytes mx rt).before a s = true := by
  simp only [Bool.and_eq_true, beq_iff_eq, Bool.not_eq_true', decide_eq_true_eq] at h5
  obtain ⟨⟨⟨⟨⟨g1, g2⟩, g3⟩, g4⟩, g5⟩, g6⟩ := h5
  simp [Cond.before, Cond.holds, Cond.value, h1, h2, h3, h4, g1, g2, g3, g4, g5, g6]
def isCode : Jvm.Cond → Bool
  | .code _ _ _ _ => true
  | _ => false
theorem all_split {L : List Jvm.Cond} {P : Jvm.Cond → Bool} (h1 : L.all (fun c => isCode c || P c) = true) (h2 : ∀ c ∈ L.filter isCode, P c = true) : L.all P = true := by
  refine List.all_eq_true.mpr fun c hc => ?_
  have h := List.all_eq_true.mp h1 c hc
  rcases Bool.eq_false_or_eq_true (isCode c) with hi | hi
  · exact h2 c (List.mem_filter.mpr ⟨hc, hi⟩)
  · simpa [hi] using h
set_option maxRecDepth 65536 in
theorem w_c0 : (Jvm.Cond.code x code maxLocals ret).before args0 about1 = true := code_word (m := ⟨1, 5⟩) (meth := k1m5) (c := k1c5) (by decide +kernel) rfl rfl rfl (by decide +kernel)
set_option maxRecDepth 65536 in
theorem w_c1 : (Jvm.Cond.code ({ cls := "com/example/auth_token_server/authtokenserver/signing/ModulusMultiplyAddPinLaw", name := "mask", desc := "()J" } : Jvm.MethodName) method_2_code (0 : Nat) (Option.some Jvm.ClassFile.FieldType.long)).before args0 about1 = true := code_word (m := ⟨1, 1⟩) (meth := k1m1) (c := k1c1) (by decide +kernel) rfl rfl rfl (by decide +kernel)
set_option maxRecDepth 65536 in
theorem w_c2 : (Jvm.Cond.code ({ cls := "com/example/auth_token_server/authtokenserver/signing/ModulusMultiplyAddPinLaw", name := "pick", desc := "(IJ)J" } : Jvm.MethodName) method_5_code (3 : Nat) (Option.some Jvm.ClassFile.FieldType.long)).before args0 about1 = true := code_word (m := ⟨1, 4⟩) (meth := k1m4) (c := k1c4) (by decide +kernel) rfl rfl rfl (by decide +kernel)
set_option maxRecDepth 65536 in
theorem w_c3 : (Jvm.Cond.code ({ cls := "com/example/auth_token_server/authtokenserver/signing/Modulus", name := "multiplyAdd", desc := "([J[J[J)V" } : Jvm.MethodName) prog_45_method_7_code (18 : Nat) (Option.none : Option Jvm.ClassFile.FieldType)).before args0 about1 = true := code_word (m := ⟨2, 0⟩) (meth := k2m0) (c := k2c0) (by decide +kernel) rfl rfl rfl (by decide +kernel)
set_option maxRecDepth 65536 in
theorem w_c4 : (Jvm.Cond.code ({ cls := "java/lang/Math", name := "multiplyHigh", desc := "(JJ)J" } : Jvm.MethodName) jdk_29_method_45_code (20 : Nat) (Option.some Jvm.ClassFile.FieldType.long)).before args0 about1 = true := code_word (m := ⟨3, 1⟩) (meth := k3m1) (c := k3c1) (by decide +kernel) rfl rfl rfl (by decide +kernel)
set_option maxRecDepth 65536 in
theorem w_c5 : (Jvm.Cond.code ({ cls := "com/example/auth_token_server/authtokenserver/signing/ModulusMultiplyAddPinLaw", name := "lo", desc := "(JJ)J" } : Jvm.MethodName) method_3_code (4 : Nat) (Option.some Jvm.ClassFile.FieldType.long)).before args0 about1 = true := code_word (m := ⟨1, 2⟩) (meth := k1m2) (c := k1c2) (by decide +kernel) rfl rfl rfl (by decide +kernel)
set_option maxRecDepth 65536 in
theorem w_c6 : (Jvm.Cond.code ({ cls := "com/example/auth_token_server/authtokenserver/signing/ModulusMultiplyAddPinLaw", name := "hi", desc := "(JJ)J" } : Jvm.MethodName) method_4_code (22 : Nat) (Option.some Jvm.ClassFile.FieldType.long)).before args0 about1 = true := code_word (m := ⟨1, 3⟩) (meth := k1m3) (c := k1c3) (by decide +kernel) rfl rfl rfl (by decide +kernel)
def codes1 : List Jvm.Cond := [Jvm.Cond.code x code maxLocals ret, Jvm.Cond.code ({ cls := "com/example/auth_token_server/authtokenserver/signing/ModulusMultiplyAddPinLaw", name := "mask", desc := "()J" } : Jvm.MethodName) method_2_code (0 : Nat) (Option.some Jvm.ClassFile.FieldType.long), Jvm.Cond.code ({ cls := "com/example/auth_token_server/authtokenserver/signing/ModulusMultiplyAddPinLaw", name := "pick", desc := "(IJ)J" } : Jvm.MethodName) method_5_code (3 : Nat) (Option.some Jvm.ClassFile.FieldType.long), Jvm.Cond.code ({ cls := "com/example/auth_token_server/authtokenserver/signing/Modulus", name := "multiplyAdd", desc := "([J[J[J)V" } : Jvm.MethodName) prog_45_method_7_code (18 : Nat) (Option.none : Option Jvm.ClassFile.FieldType), Jvm.Cond.code ({ cls := "java/lang/Math", name := "multiplyHigh", desc := "(JJ)J" } : Jvm.MethodName) jdk_29_method_45_code (20 : Nat) (Option.some Jvm.ClassFile.FieldType.long), Jvm.Cond.code ({ cls := "com/example/auth_token_server/authtokenserver/signing/ModulusMultiplyAddPinLaw", name := "lo", desc := "(JJ)J" } : Jvm.MethodName) method_3_code (4 : Nat) (Option.some Jvm.ClassFile.FieldType.long), Jvm.Cond.code ({ cls := "com/example/auth_token_server/authtokenserver/signing/ModulusMultiplyAddPinLaw", name := "hi", desc := "(JJ)J" } : Jvm.MethodName) method_4_code (22 : Nat) (Option.some Jvm.ClassFile.FieldType.long)]
set_option maxRecDepth 65536 in
theorem codes_eq : words1.filter isCode = codes1 := rfl
theorem w_codes : ∀ c ∈ words1.filter isCode, c.before args0 about1 = true := by
  rw [codes_eq]
  intro c hc
  simp only [codes1, List.mem_cons, List.not_mem_nil, or_false] at hc
  rcases hc with rfl | rfl | rfl | rfl | rfl | rfl | rfl
  · exact w_c0
  · exact w_c1
  · exact w_c2
  · exact w_c3
  · exact w_c4
  · exact w_c5
  · exact w_c6
set_option maxRecDepth 65536 in
theorem w_t1 : (words1.take 24).all (fun c => isCode c || c.before args0 about1) = true := by decide +kernel
set_option maxRecDepth 65536 in
theorem w_t2 : (words1.drop 24).all (fun c => isCode c || c.before args0 about1) = true := by decide +kernel
theorem w_tables : (allAtoms (Jvm.Cond.code x code maxLocals ret :: tables_1)).before args0 about1 = true := by
  rw [allAtoms_all]
  show words1.all (fun c => c.before args0 about1) = true
  refine all_split ?_ w_codes
  rw [← List.take_append_drop 24 words1, List.all_append, w_t1, w_t2]
  rfl
set_option maxRecDepth 65536 in
theorem w_case : (Jvm.Cond.and given_1 narrow_1).before args0 about1 = true := by decide +kernel
theorem w_applies : (headSpec (Jvm.Cond.code x code maxLocals ret :: tables_1) room_1).applies x e0.platform about1 = true :=
  (Spec.applies_iff w_frames).mpr ⟨w_running, w_runnable, w_alone, w_named, w_hears, w_ripe, w_room, w_tables⟩
theorem atStart : AtStart classFile x code maxLocals ret World_1 tables_1 room_1 Calls_1 rest_1 Pre_1 launch0 p0 e0 about1 theMethod args0 below0 :=
  ⟨lists_1, trivial, launch0.admits_env _ _ _, launch0.least_env, fairChoices_fair.cas, fairChoices_fair.clock, w_frames, w_args, w_heap, w_applies, trivial, trivial, w_case⟩
end start1
theorem witness_1 : WitnessClaimed_1 := ⟨start1.p0, start1.e0, start1.about1, start1.theMethod, start1.args0, start1.below0, start1.atStart⟩
end Jvm.Pilot.@@N@@
