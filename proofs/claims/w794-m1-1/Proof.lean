import JvmDerived
import JvmDerived.Pilot.@@N@@Statement
import JvmDerived.Pilot.@@N@@Code
set_option linter.unusedVariables false
set_option linter.unusedSimpArgs false
namespace Jvm.Pilot.@@N@@
open Jvm Jvm.ClassFile Sem Op Lib Jvm.Free Jvm.Stand Jvm.LawKit Jvm.RoadKit Bundle Jvm.Pilot.@@N@@.Jvm.D

section OwnKit
/-- from here the run comes to a return that says Q -/
def OFin (n0 : Nat) (p : Program) (e : Env) (below : List Frame) (s : State) (Q : Option Value → Heap → Prop) (ck sk : Nat) (T : State) (g : JFrame) : Prop :=
  ∃ s₂ o, Steps p.tables e below (T.setTop g) s₂ ∧ s₂.status = .running ∧ Ended s₂ below o ∧ ∃ v L, o = .returned v ∧ (Fr n0 L ∧ n0 ≤ s₂.heap.size ∧ Q v s₂.heap) ∧ FrameEnd s o s₂ L ck sk
/-- where the walk of a body stands, with all that is known of the body -/
def OG (l : Launch) (Z : State) (y : MethodName) (bytes : ByteArray) (maxl : Nat) (ret : Option FieldType) (n0 : Nat) (p : Program) (e : Env) (R : Room) (s : State) (m : MethodId) (args : Array Value) (below : List Frame) (meth : Method) (c : Code) (T : State) (h : Heap) (cells slots : Nat) : Prop :=
  p.tables.exec = Jvm.exec ∧ c.code = bytes ∧ c.maxLocals = maxl ∧ s.vm.findClass y.cls = some m.cls ∧ meth.name = y.name ∧ meth.sig.returnType = ret ∧ meth.locks = false ∧ Z.Warmed39 s.vm ∧ T.heap = h ∧ n0 ≤ h.size ∧ ∃ locs, Stand p l e R s m args below meth c T locs cells slots ∧ Fr n0 locs
/-- a body's contract -/
def OMet (l : Launch) (Z : State) (y : MethodName) (bytes : ByteArray) (maxl : Nat) (ret : Option FieldType) (rm : Room) (as' : Array Value) (h0 : Heap) (n0 : Nat) (ck sk : Nat) (Q : Option Value → Heap → Prop) : Prop :=
  ∀ ws : List Jvm.Cond, MetFree l y (head1 (Jvm.Cond.code y bytes maxl ret :: ws) rm) (fun a U => a = as' ∧ Z.Warmed39 U.vm ∧ U.heap = h0) (fun _ _ _ _ _ => True) (fun _ U o U' => ∃ v L, o = .returned v ∧ (Fr n0 L ∧ n0 ≤ U'.heap.size ∧ Q v U'.heap) ∧ FrameEnd U o U' L ck sk)
variable {l : Launch} {Z : State} {y : MethodName} {bytes : ByteArray} {maxl : Nat} {ret : Option FieldType} {n0 : Nat} {p : Program} {e : Env} {R : Room} {s : State} {m : MethodId} {args : Array Value} {below : List Frame} {meth : Method} {c : Code} {T : State} {h : Heap} {cells slots ck sk : Nat} {Q : Option Value → Heap → Prop} {pc pc' : Nat} {Ls : Array Slot} {rest : List Value} {a0 : Array Value}
theorem o_step {T' : State} {g g' : JFrame} (st : ∀ t, Steps p.tables e below (T'.setTop g') t → Steps p.tables e below (T.setTop g) t) (k : OFin n0 p e below s Q ck sk T' g') : OFin n0 p e below s Q ck sk T g := by
  obtain ⟨s₂, o, h1, r⟩ := k
  exact ⟨s₂, o, st _ h1, r⟩
theorem o_body {rm : Room} {as' : Array Value} {h0 : Heap} (hy : plainFor y = true) (hz : n0 ≤ h0.size) (hent : ∀ m, entryFrame m as' maxl = mkF m 0 Ls [])
    (body : ∀ (p : Program) (e : Env) (s : State) (m : MethodId) (below : List Frame) (meth : Method) (c : Code) (s₁ : State), OG l Z y bytes maxl ret n0 p e rm s m as' below meth c s₁ h0 0 0 → OFin n0 p e below s Q ck sk s₁ (mkF m 0 Ls [])) : OMet l Z y bytes maxl ret rm as' h0 n0 ck sk Q := by
  intro ws
  refine MetFree.of_bodySF hy hisR ?_
  intro p e s m args below meth c s₁ Bd hml0 hP hK
  obtain ⟨ha, hZ, hh⟩ := hP
  subst ha
  have e0 : s₁.heap = h0 := by rw [← hh, Bd.state]; rfl
  have k := body p e s m below meth c s₁ ⟨Bd.exec, Bd.bytes, hml0, findClass_of_methodNamed Bd.named, (name_of_methodNamed Bd.named Bd.method).1, Bd.returns, Bd.notSynchronized, hZ, e0, hz, [], Stand.of_body Bd, Fr.nil n0⟩
  rw [← hent m] at k
  exact k
theorem OG.sz (G : OG l Z y bytes maxl ret n0 p e R s m args below meth c T h cells slots) : n0 ≤ h.size := G.2.2.2.2.2.2.2.2.2.1
theorem OG.eh (G : OG l Z y bytes maxl ret n0 p e R s m args below meth c T h cells slots) : T.heap = h := G.2.2.2.2.2.2.2.2.1
theorem OG.wm (G : OG l Z y bytes maxl ret n0 p e R s m args below meth c T h cells slots) : Z.Warmed39 s.vm := G.2.2.2.2.2.2.2.1
theorem o_iloadN (G : OG l Z y bytes maxl ret n0 p e R s m args below meth c T h cells slots) {k0 : Fin 4} {v : Int32} (hd : decode bytes pc = .ok (.iload_n k0, 1)) (hp : pc + 1 = pc') (hl : Ls[k0.val]? = some (.val (.int v))) (k : OFin n0 p e below s Q ck sk T (mkF m pc' Ls (.int v :: rest))) : OFin n0 p e below s Q ck sk T (mkF m pc Ls rest) := by
  subst hp
  obtain ⟨hx, hby, -, -, -, -, -, -, -, -, locs, X, -⟩ := G
  exact o_step (fun _ hr => XS.iloadN X.here hx rfl (hb hby hd) hl hr) k
theorem o_iload (G : OG l Z y bytes maxl ret n0 p e R s m args below meth c T h cells slots) {k0 : Nat} {v : Int32} (hd : decode bytes pc = .ok (.iload k0, 2)) (hp : pc + 2 = pc') (hl : Ls[k0]? = some (.val (.int v))) (k : OFin n0 p e below s Q ck sk T (mkF m pc' Ls (.int v :: rest))) : OFin n0 p e below s Q ck sk T (mkF m pc Ls rest) := by
  subst hp
  obtain ⟨hx, hby, -, -, -, -, -, -, -, -, locs, X, -⟩ := G
  exact o_step (fun _ hr => XS.iload X.here hx rfl (hb hby hd) hl hr) k
theorem o_lloadN (G : OG l Z y bytes maxl ret n0 p e R s m args below meth c T h cells slots) {k0 : Fin 4} {v : Int64} (hd : decode bytes pc = .ok (.lload_n k0, 1)) (hp : pc + 1 = pc') (hl : Ls[k0.val]? = some (.val (.long v))) (k : OFin n0 p e below s Q ck sk T (mkF m pc' Ls (.long v :: rest))) : OFin n0 p e below s Q ck sk T (mkF m pc Ls rest) := by
  subst hp
  obtain ⟨hx, hby, -, -, -, -, -, -, -, -, locs, X, -⟩ := G
  exact o_step (fun _ hr => XS.lloadN X.here hx rfl (hb hby hd) hl hr) k
theorem o_lload (G : OG l Z y bytes maxl ret n0 p e R s m args below meth c T h cells slots) {k0 : Nat} {v : Int64} (hd : decode bytes pc = .ok (.lload k0, 2)) (hp : pc + 2 = pc') (hl : Ls[k0]? = some (.val (.long v))) (k : OFin n0 p e below s Q ck sk T (mkF m pc' Ls (.long v :: rest))) : OFin n0 p e below s Q ck sk T (mkF m pc Ls rest) := by
  subst hp
  obtain ⟨hx, hby, -, -, -, -, -, -, -, -, locs, X, -⟩ := G
  exact o_step (fun _ hr => XS.lload X.here hx rfl (hb hby hd) hl hr) k
theorem o_aloadN (G : OG l Z y bytes maxl ret n0 p e R s m args below meth c T h cells slots) {k0 : Fin 4} {v : Value} (hd : decode bytes pc = .ok (.aload_n k0, 1)) (hp : pc + 1 = pc') (hl : Ls[k0.val]? = some (.val v)) (hv : v.isRef = true) (k : OFin n0 p e below s Q ck sk T (mkF m pc' Ls (v :: rest))) : OFin n0 p e below s Q ck sk T (mkF m pc Ls rest) := by
  subst hp
  obtain ⟨hx, hby, -, -, -, -, -, -, -, -, locs, X, -⟩ := G
  exact o_step (fun _ hr => XS.aloadN X.here hx rfl (hb hby hd) hl hv hr) k
theorem o_aload (G : OG l Z y bytes maxl ret n0 p e R s m args below meth c T h cells slots) {k0 : Nat} {v : Value} (hd : decode bytes pc = .ok (.aload k0, 2)) (hp : pc + 2 = pc') (hl : Ls[k0]? = some (.val v)) (hv : v.isRef = true) (k : OFin n0 p e below s Q ck sk T (mkF m pc' Ls (v :: rest))) : OFin n0 p e below s Q ck sk T (mkF m pc Ls rest) := by
  subst hp
  obtain ⟨hx, hby, -, -, -, -, -, -, -, -, locs, X, -⟩ := G
  exact o_step (fun _ hr => XS.aload X.here hx rfl (hb hby hd) hl hv hr) k
theorem o_istoreN (G : OG l Z y bytes maxl ret n0 p e R s m args below meth c T h cells slots) {k0 : Fin 4} {v : Int32} {l' : Array Slot} (hd : decode bytes pc = .ok (.istore_n k0, 1)) (hp : pc + 1 = pc') (hl : storeLocals Ls k0.val (.int v) = some l') (k : OFin n0 p e below s Q ck sk T (mkF m pc' l' rest)) : OFin n0 p e below s Q ck sk T (mkF m pc Ls (.int v :: rest)) := by
  subst hp
  obtain ⟨hx, hby, -, -, -, -, -, -, -, -, locs, X, -⟩ := G
  exact o_step (fun _ hr => XS.istoreN X.here hx rfl (hb hby hd) rfl hl hr) k
theorem o_istore (G : OG l Z y bytes maxl ret n0 p e R s m args below meth c T h cells slots) {k0 : Nat} {v : Int32} {l' : Array Slot} (hd : decode bytes pc = .ok (.istore k0, 2)) (hp : pc + 2 = pc') (hl : storeLocals Ls k0 (.int v) = some l') (k : OFin n0 p e below s Q ck sk T (mkF m pc' l' rest)) : OFin n0 p e below s Q ck sk T (mkF m pc Ls (.int v :: rest)) := by
  subst hp
  obtain ⟨hx, hby, -, -, -, -, -, -, -, -, locs, X, -⟩ := G
  exact o_step (fun _ hr => XS.istore X.here hx rfl (hb hby hd) rfl hl hr) k
theorem o_lstore (G : OG l Z y bytes maxl ret n0 p e R s m args below meth c T h cells slots) {k0 : Nat} {v : Int64} {l' : Array Slot} (hd : decode bytes pc = .ok (.lstore k0, 2)) (hp : pc + 2 = pc') (hl : storeLocals Ls k0 (.long v) = some l') (k : OFin n0 p e below s Q ck sk T (mkF m pc' l' rest)) : OFin n0 p e below s Q ck sk T (mkF m pc Ls (.long v :: rest)) := by
  subst hp
  obtain ⟨hx, hby, -, -, -, -, -, -, -, -, locs, X, -⟩ := G
  exact o_step (fun _ hr => XS.lstore X.here hx rfl (hb hby hd) rfl hl hr) k
theorem o_astore (G : OG l Z y bytes maxl ret n0 p e R s m args below meth c T h cells slots) {k0 : Nat} {v : Value} {l' : Array Slot} (hd : decode bytes pc = .ok (.astore k0, 2)) (hp : pc + 2 = pc') (hv : v.isRef = true) (hl : storeLocals Ls k0 v = some l') (k : OFin n0 p e below s Q ck sk T (mkF m pc' l' rest)) : OFin n0 p e below s Q ck sk T (mkF m pc Ls (v :: rest)) := by
  subst hp
  obtain ⟨hx, hby, -, -, -, -, -, -, -, -, locs, X, -⟩ := G
  exact o_step (fun _ hr => XS.astore X.here hx rfl (hb hby hd) rfl hv hl hr) k
theorem o_iconst (G : OG l Z y bytes maxl ret n0 p e R s m args below meth c T h cells slots) {i : Int} {v : Int32} (hd : decode bytes pc = .ok (.iconst i, 1)) (hp : pc + 1 = pc') (hv : Int32.ofInt i = v) (k : OFin n0 p e below s Q ck sk T (mkF m pc' Ls (.int v :: rest))) : OFin n0 p e below s Q ck sk T (mkF m pc Ls rest) := by
  subst hp
  subst hv
  obtain ⟨hx, hby, -, -, -, -, -, -, -, -, locs, X, -⟩ := G
  exact o_step (fun _ hr => XS.iconst X.here hx rfl (hb hby hd) hr) k
theorem o_bipush (G : OG l Z y bytes maxl ret n0 p e R s m args below meth c T h cells slots) {i : Int} {v : Int32} (hd : decode bytes pc = .ok (.bipush i, 2)) (hp : pc + 2 = pc') (hv : (Int8.ofInt i).toInt32 = v) (k : OFin n0 p e below s Q ck sk T (mkF m pc' Ls (.int v :: rest))) : OFin n0 p e below s Q ck sk T (mkF m pc Ls rest) := by
  subst hp
  subst hv
  obtain ⟨hx, hby, -, -, -, -, -, -, -, -, locs, X, -⟩ := G
  exact o_step (fun _ hr => XS.bipush X.here hx rfl (hb hby hd) hr) k
theorem o_lconst (G : OG l Z y bytes maxl ret n0 p e R s m args below meth c T h cells slots) {i : Fin 2} {v : Int64} (hd : decode bytes pc = .ok (.lconst i, 1)) (hp : pc + 1 = pc') (hv : Int64.ofNat i = v) (k : OFin n0 p e below s Q ck sk T (mkF m pc' Ls (.long v :: rest))) : OFin n0 p e below s Q ck sk T (mkF m pc Ls rest) := by
  subst hp
  subst hv
  obtain ⟨hx, hby, -, -, -, -, -, -, -, -, locs, X, -⟩ := G
  exact o_step (fun _ hr => XS.lconst X.here hx rfl (hb hby hd) hr) k
theorem o_iadd (G : OG l Z y bytes maxl ret n0 p e R s m args below meth c T h cells slots) {u w v : Int32} (hd : decode bytes pc = .ok (.iadd, 1)) (hp : pc + 1 = pc') (hv : u + w = v) (k : OFin n0 p e below s Q ck sk T (mkF m pc' Ls (.int v :: rest))) : OFin n0 p e below s Q ck sk T (mkF m pc Ls (.int w :: .int u :: rest)) := by
  subst hp
  subst hv
  obtain ⟨hx, hby, -, -, -, -, -, -, -, -, locs, X, -⟩ := G
  exact o_step (fun _ hr => XS.iadd X.here hx rfl (hb hby hd) rfl hr) k
theorem o_isub (G : OG l Z y bytes maxl ret n0 p e R s m args below meth c T h cells slots) {u w v : Int32} (hd : decode bytes pc = .ok (.isub, 1)) (hp : pc + 1 = pc') (hv : u - w = v) (k : OFin n0 p e below s Q ck sk T (mkF m pc' Ls (.int v :: rest))) : OFin n0 p e below s Q ck sk T (mkF m pc Ls (.int w :: .int u :: rest)) := by
  subst hp
  subst hv
  obtain ⟨hx, hby, -, -, -, -, -, -, -, -, locs, X, -⟩ := G
  exact o_step (fun _ hr => XS.isub X.here hx rfl (hb hby hd) rfl hr) k
theorem o_imul (G : OG l Z y bytes maxl ret n0 p e R s m args below meth c T h cells slots) {u w v : Int32} (hd : decode bytes pc = .ok (.imul, 1)) (hp : pc + 1 = pc') (hv : u * w = v) (k : OFin n0 p e below s Q ck sk T (mkF m pc' Ls (.int v :: rest))) : OFin n0 p e below s Q ck sk T (mkF m pc Ls (.int w :: .int u :: rest)) := by
  subst hp
  subst hv
  obtain ⟨hx, hby, -, -, -, -, -, -, -, -, locs, X, -⟩ := G
  exact o_step (fun _ hr => XS.imul X.here hx rfl (hb hby hd) rfl hr) k
theorem o_land (G : OG l Z y bytes maxl ret n0 p e R s m args below meth c T h cells slots) {u w v : Int64} (hd : decode bytes pc = .ok (.land, 1)) (hp : pc + 1 = pc') (hv : u &&& w = v) (k : OFin n0 p e below s Q ck sk T (mkF m pc' Ls (.long v :: rest))) : OFin n0 p e below s Q ck sk T (mkF m pc Ls (.long w :: .long u :: rest)) := by
  subst hp
  subst hv
  obtain ⟨hx, hby, -, -, -, -, -, -, -, -, locs, X, -⟩ := G
  exact o_step (fun _ hr => XS.land X.here hx rfl (hb hby hd) rfl hr) k
theorem o_lor (G : OG l Z y bytes maxl ret n0 p e R s m args below meth c T h cells slots) {u w v : Int64} (hd : decode bytes pc = .ok (.lor, 1)) (hp : pc + 1 = pc') (hv : u ||| w = v) (k : OFin n0 p e below s Q ck sk T (mkF m pc' Ls (.long v :: rest))) : OFin n0 p e below s Q ck sk T (mkF m pc Ls (.long w :: .long u :: rest)) := by
  subst hp
  subst hv
  obtain ⟨hx, hby, -, -, -, -, -, -, -, -, locs, X, -⟩ := G
  exact o_step (fun _ hr => XS.lor X.here hx rfl (hb hby hd) rfl hr) k
theorem o_lshl (G : OG l Z y bytes maxl ret n0 p e R s m args below meth c T h cells slots) {u v : Int64} {w : Int32} (hd : decode bytes pc = .ok (.lshl, 1)) (hp : pc + 1 = pc') (hv : u <<< (w &&& 0x3f).toInt64 = v) (k : OFin n0 p e below s Q ck sk T (mkF m pc' Ls (.long v :: rest))) : OFin n0 p e below s Q ck sk T (mkF m pc Ls (.int w :: .long u :: rest)) := by
  subst hp
  subst hv
  obtain ⟨hx, hby, -, -, -, -, -, -, -, -, locs, X, -⟩ := G
  exact o_step (fun _ hr => XS.lshl X.here hx rfl (hb hby hd) rfl hr) k
theorem o_lushr (G : OG l Z y bytes maxl ret n0 p e R s m args below meth c T h cells slots) {u v : Int64} {w : Int32} (hd : decode bytes pc = .ok (.lushr, 1)) (hp : pc + 1 = pc') (hv : (u.toUInt64 >>> (w &&& 0x3f).toInt64.toUInt64).toInt64 = v) (k : OFin n0 p e below s Q ck sk T (mkF m pc' Ls (.long v :: rest))) : OFin n0 p e below s Q ck sk T (mkF m pc Ls (.int w :: .long u :: rest)) := by
  subst hp
  subst hv
  obtain ⟨hx, hby, -, -, -, -, -, -, -, -, locs, X, -⟩ := G
  exact o_step (fun _ hr => XS.lushr X.here hx rfl (hb hby hd) rfl hr) k
theorem o_l2i (G : OG l Z y bytes maxl ret n0 p e R s m args below meth c T h cells slots) {u : Int64} {v : Int32} (hd : decode bytes pc = .ok (.l2i, 1)) (hp : pc + 1 = pc') (hv : u.toInt32 = v) (k : OFin n0 p e below s Q ck sk T (mkF m pc' Ls (.int v :: rest))) : OFin n0 p e below s Q ck sk T (mkF m pc Ls (.long u :: rest)) := by
  subst hp
  subst hv
  obtain ⟨hx, hby, -, -, -, -, -, -, -, -, locs, X, -⟩ := G
  exact o_step (fun _ hr => XS.l2i X.here hx rfl (hb hby hd) rfl hr) k
theorem o_i2b (G : OG l Z y bytes maxl ret n0 p e R s m args below meth c T h cells slots) {u : Int32} {v : Int32} (hd : decode bytes pc = .ok (.i2b, 1)) (hp : pc + 1 = pc') (hv : u.toInt8.toInt32 = v) (k : OFin n0 p e below s Q ck sk T (mkF m pc' Ls (.int v :: rest))) : OFin n0 p e below s Q ck sk T (mkF m pc Ls (.int u :: rest)) := by
  subst hp
  subst hv
  obtain ⟨hx, hby, -, -, -, -, -, -, -, -, locs, X, -⟩ := G
  exact o_step (fun _ hr => XS.i2b X.here hx rfl (hb hby hd) rfl hr) k
theorem o_idiv (G : OG l Z y bytes maxl ret n0 p e R s m args below meth c T h cells slots) {u w v : Int32} (hd : decode bytes pc = .ok (.idiv, 1)) (hp : pc + 1 = pc') (hw0 : w ≠ 0) (hv : u / w = v) (k : OFin n0 p e below s Q ck sk T (mkF m pc' Ls (.int v :: rest))) : OFin n0 p e below s Q ck sk T (mkF m pc Ls (.int w :: .int u :: rest)) := by
  subst hp
  subst hv
  obtain ⟨hx, hby, -, -, -, -, -, -, -, -, locs, X, -⟩ := G
  exact o_step (fun _ hr => XS.idiv X.here hx rfl (hb hby hd) rfl hw0 hr) k
theorem o_irem (G : OG l Z y bytes maxl ret n0 p e R s m args below meth c T h cells slots) {u w v : Int32} (hd : decode bytes pc = .ok (.irem, 1)) (hp : pc + 1 = pc') (hw0 : w ≠ 0) (hv : u % w = v) (k : OFin n0 p e below s Q ck sk T (mkF m pc' Ls (.int v :: rest))) : OFin n0 p e below s Q ck sk T (mkF m pc Ls (.int w :: .int u :: rest)) := by
  subst hp
  subst hv
  obtain ⟨hx, hby, -, -, -, -, -, -, -, -, locs, X, -⟩ := G
  exact o_step (fun _ hr => iremM X hx rfl (hb hby hd) rfl hw0 hr) k
theorem o_dup (G : OG l Z y bytes maxl ret n0 p e R s m args below meth c T h cells slots) {v : Value} (hd : decode bytes pc = .ok (.dup, 1)) (hp : pc + 1 = pc') (hc : v.category = 1) (k : OFin n0 p e below s Q ck sk T (mkF m pc' Ls (v :: v :: rest))) : OFin n0 p e below s Q ck sk T (mkF m pc Ls (v :: rest)) := by
  subst hp
  obtain ⟨hx, hby, -, -, -, -, -, -, -, -, locs, X, -⟩ := G
  exact o_step (fun _ hr => XS.dup X.here hx rfl (hb hby hd) rfl hc hr) k
theorem o_iinc (G : OG l Z y bytes maxl ret n0 p e R s m args below meth c T h cells slots) {k0 : Nat} {cst : Int} {u w v : Int32} {l' : Array Slot} (hd : decode bytes pc = .ok (.iinc k0 cst, 3)) (hp : pc + 3 = pc') (hl : Ls[k0]? = some (.val (.int u))) (hc : Int32.ofInt cst = w) (hv : u + w = v) (hl' : storeLocals Ls k0 (.int v) = some l') (k : OFin n0 p e below s Q ck sk T (mkF m pc' l' rest)) : OFin n0 p e below s Q ck sk T (mkF m pc Ls rest) := by
  subst hp
  subst hc
  subst hv
  obtain ⟨hx, hby, -, -, -, -, -, -, -, -, locs, X, -⟩ := G
  exact o_step (fun _ hr => XS.iinc X.here hx rfl (hb hby hd) hl hl' hr) k
theorem o_goto (G : OG l Z y bytes maxl ret n0 p e R s m args below meth c T h cells slots) {o : Int} (hd : decode bytes pc = .ok (.goto o, 3)) (ho : 0 ≤ (pc : Int) + o) (hp : ((pc : Int) + o).toNat = pc') (k : OFin n0 p e below s Q ck sk T (mkF m pc' Ls rest)) : OFin n0 p e below s Q ck sk T (mkF m pc Ls rest) := by
  obtain ⟨hx, hby, -, -, -, -, -, -, -, -, locs, X, -⟩ := G
  exact o_step (fun _ hr => XS.goto X.here hx rfl (pc0 := pc) (pc' := pc') rfl (hb hby hd) ho hp hr) k
theorem o_icmp_ge (G : OG l Z y bytes maxl ret n0 p e R s m args below meth c T h cells slots) {o : Int} {pcT : Nat} {u w : Int32} (hd : decode bytes pc = .ok (.if_icmp .ge o, 3)) (ho : 0 ≤ (pc : Int) + o) (hpT : ((pc : Int) + o).toNat = pcT) (hp : pc + 3 = pc') (kT : ¬ u < w → OFin n0 p e below s Q ck sk T (mkF m pcT Ls rest)) (kF : u < w → OFin n0 p e below s Q ck sk T (mkF m pc' Ls rest)) : OFin n0 p e below s Q ck sk T (mkF m pc Ls (.int w :: .int u :: rest)) := by
  subst hp
  obtain ⟨hx, hby, -, -, -, -, -, -, -, -, locs, X, -⟩ := G
  by_cases q : ¬ u < w
  · exact o_step (fun _ hr => XS.icmpYes X.here hx rfl (pc0 := pc) (pc' := pcT) rfl (hb hby hd) rfl (flt q).2.1 ho hpT hr) (kT q)
  · have q := Decidable.not_not.mp q
    exact o_step (fun _ hr => XS.icmpNo X.here hx rfl (hb hby hd) rfl (tlt q).2.1 hr) (kF q)
theorem o_icmp_le (G : OG l Z y bytes maxl ret n0 p e R s m args below meth c T h cells slots) {o : Int} {pcT : Nat} {u w : Int32} (hd : decode bytes pc = .ok (.if_icmp .le o, 3)) (ho : 0 ≤ (pc : Int) + o) (hpT : ((pc : Int) + o).toNat = pcT) (hp : pc + 3 = pc') (kT : ¬ w < u → OFin n0 p e below s Q ck sk T (mkF m pcT Ls rest)) (kF : w < u → OFin n0 p e below s Q ck sk T (mkF m pc' Ls rest)) : OFin n0 p e below s Q ck sk T (mkF m pc Ls (.int w :: .int u :: rest)) := by
  subst hp
  obtain ⟨hx, hby, -, -, -, -, -, -, -, -, locs, X, -⟩ := G
  by_cases q : ¬ w < u
  · exact o_step (fun _ hr => XS.icmpYes X.here hx rfl (pc0 := pc) (pc' := pcT) rfl (hb hby hd) rfl (flt q).2.2.2 ho hpT hr) (kT q)
  · have q := Decidable.not_not.mp q
    exact o_step (fun _ hr => XS.icmpNo X.here hx rfl (hb hby hd) rfl (tlt q).2.2.2 hr) (kF q)
theorem o_if_eq (G : OG l Z y bytes maxl ret n0 p e R s m args below meth c T h cells slots) {o : Int} {pcT : Nat} {u : Int32} (hd : decode bytes pc = .ok (.ifCond .eq o, 3)) (ho : 0 ≤ (pc : Int) + o) (hpT : ((pc : Int) + o).toNat = pcT) (hp : pc + 3 = pc') (kT : u = (0 : Int32) → OFin n0 p e below s Q ck sk T (mkF m pcT Ls rest)) (kF : ¬ u = (0 : Int32) → OFin n0 p e below s Q ck sk T (mkF m pc' Ls rest)) : OFin n0 p e below s Q ck sk T (mkF m pc Ls (.int u :: rest)) := by
  subst hp
  obtain ⟨hx, hby, -, -, -, -, -, -, -, -, locs, X, -⟩ := G
  by_cases q : u = (0 : Int32)
  · exact o_step (fun _ hr => XS.ifYes X.here hx rfl (pc0 := pc) (pc' := pcT) rfl (hb hby hd) rfl ((if0 _ _).trans (teq q).1) ho hpT hr) (kT q)
  · exact o_step (fun _ hr => XS.ifNo X.here hx rfl (hb hby hd) rfl ((if0 _ _).trans (feq q).1) hr) (kF q)
theorem o_icmp_ne (G : OG l Z y bytes maxl ret n0 p e R s m args below meth c T h cells slots) {o : Int} {pcT : Nat} {u w : Int32} (hd : decode bytes pc = .ok (.if_icmp .ne o, 3)) (ho : 0 ≤ (pc : Int) + o) (hpT : ((pc : Int) + o).toNat = pcT) (hp : pc + 3 = pc') (kT : ¬ u = w → OFin n0 p e below s Q ck sk T (mkF m pcT Ls rest)) (kF : u = w → OFin n0 p e below s Q ck sk T (mkF m pc' Ls rest)) : OFin n0 p e below s Q ck sk T (mkF m pc Ls (.int w :: .int u :: rest)) := by
  subst hp
  obtain ⟨hx, hby, -, -, -, -, -, -, -, -, locs, X, -⟩ := G
  by_cases q : ¬ u = w
  · exact o_step (fun _ hr => XS.icmpYes X.here hx rfl (pc0 := pc) (pc' := pcT) rfl (hb hby hd) rfl (feq q).2 ho hpT hr) (kT q)
  · have q := Decidable.not_not.mp q
    exact o_step (fun _ hr => XS.icmpNo X.here hx rfl (hb hby hd) rfl (teq q).2 hr) (kF q)
theorem o_ldc2 (G : OG l Z y bytes maxl ret n0 p e R s m args below meth c T h cells slots) {index : Nat} {v : Int64} (hd : decode bytes pc = .ok (.ldc2_w index, 3)) (hp : pc + 3 = pc') (w : (Jvm.Cond.constantLong y.cls index v).before a0 Z = true) (k : OFin n0 p e below s Q ck sk T (mkF m pc' Ls (.long v :: rest))) : OFin n0 p e below s Q ck sk T (mkF m pc Ls rest) := by
  subst hp
  obtain ⟨hx, hby, -, hown, -, -, -, hZ, -, -, locs, X, -⟩ := G
  exact o_step (fun _ hr => X.ldc2Long hx hown (mvT hZ w) (g := (mkF m pc Ls rest)) rfl (hb hby hd) _ hr) k
theorem o_nreturn {v : Int32} {t : FieldType} (G : OG l Z y bytes maxl (some t) n0 p e R s m args below meth c T h cells slots) (ht : t = .boolean ∨ t = .byte ∨ t = .char ∨ t = .short) (hd : decode bytes pc = .ok (.ireturn, 1)) (hq : Q (some (.int (nar t v))) h) (hc : cells ≤ ck) (hs : slots ≤ sk) : OFin n0 p e below s Q ck sk T (mkF m pc Ls (.int v :: rest)) := by
  obtain ⟨hx, hby, -, -, -, hret, hlk, -, eT, hz, locs, X, N⟩ := G
  obtain ⟨fs, hr, hrun, hended, hW, hsame⟩ := X.leave (v := some (.int (nar t v))) (fun h => by rw [hret] at h; cases h) hlk
  refine ⟨_, _, retN X hx hret ht (hb hby hd) hr, hrun, hended, _, _, rfl, ⟨N, ?_, ?_⟩, ⟨_, rfl⟩, hW, hsame.mono hc hs⟩
  · show n0 ≤ T.heap.size
    rw [eT]; exact hz
  · show Q _ T.heap
    rw [eT]; exact hq
theorem o_return (G : OG l Z y bytes maxl none n0 p e R s m args below meth c T h cells slots) (hd : decode bytes pc = .ok (.return_, 1)) (hq : Q none h) (hc : cells ≤ ck) (hs : slots ≤ sk) : OFin n0 p e below s Q ck sk T (mkF m pc Ls []) := by
  obtain ⟨hx, hby, -, -, -, hret, hlk, -, eT, hz, locs, X, N⟩ := G
  obtain ⟨fs, hr, hrun, hended, hW, hsame⟩ := X.leave (v := none) (fun _ => rfl) hlk
  refine ⟨_, _, X.returnOut hx hret (hb hby hd) hr, hrun, hended, _, _, rfl, ⟨N, ?_, ?_⟩, ⟨_, rfl⟩, hW, hsame.mono hc hs⟩
  · show n0 ≤ T.heap.size
    rw [eT]; exact hz
  · show Q _ T.heap
    rw [eT]; exact hq
theorem o_callS (G : OG l Z y bytes maxl ret n0 p e R s m args below meth c T h cells slots) {z : MethodName} {bz : ByteArray} {mz : Nat} {rz : Option FieldType} {rm : Room} {Q' : Option Value → Heap → Prop} {index W : Nat} {argsL st : List Value} (w1 : (Jvm.Cond.methodLink y.cls index z).before a0 Z = true) (w2 : (Jvm.Cond.static z).before a0 Z = true) (hd : decode bytes pc = .ok (.invokestatic index, 3))
    (hy : z.cls ≠ "java/lang/invoke/MethodHandle" ∧ z.cls ≠ "java/lang/invoke/VarHandle") (w3 : (Jvm.Cond.initialized z.cls).before a0 Z = true) (w4 : (Jvm.Cond.code z bz mz rz).before a0 Z = true)
    (hM : OMet l Z z bz mz rz rm argsL.toArray h n0 rm.cells rm.slots Q') (hfr : rm.frames + 1 ≤ R.frames) (hlo : W + (mz + 11) + rm.locals ≤ R.locals) (hsz : Ls.size = maxl)
    (hlen : ∀ sig, parseMethodDescriptor z.desc = some sig → argsL.length = sig.parameters.length) (hst : st = argsL.reverse ++ rest) (hW : (rest.map fun v => v.category).sum ≤ W) (hp : pc + 3 = pc') (hc : cells + rm.cells ≤ R.cells) (hs : slots + rm.slots ≤ R.slots)
    (k : ∀ (v : Option Value) (T' : State) (h' : Heap), OG l Z y bytes maxl ret n0 p e R s m args below meth c T' h' (cells + rm.cells) (slots + rm.slots) → Q' v h' → OFin n0 p e below s Q ck sk T' (mkF m pc' Ls (v.toList ++ rest))) : OFin n0 p e below s Q ck sk T (mkF m pc Ls st) := by
  subst hp hst
  obtain ⟨hx, hby, hml, hown, hnm, hret, hlk, hZ, eT, hz, locs, X, N⟩ := G
  obtain ⟨v, vm1, ⟨T', L', k', n'⟩, -, X', ⟨L, ⟨N', z', hQ⟩, l1, y1, z1⟩, st0⟩ := Jvm.LawKit.callS X hx (y := z) hown (mvT hZ w1) (mvT hZ w2) (mvT hZ w3) (mvT hZ w4) hy (backOf (W := W) (Q := fun v h L => Fr n0 L ∧ n0 ≤ h.size ∧ Q' v h) (hM []) hZ w4 w3 hfr hlo) (g := (mkF m pc Ls (argsL.reverse ++ rest))) rfl (by show Ls.size = _; rw [hml]; exact hsz) (argsL := argsL) (rest := rest) hlen rfl (by show 2 * 0 + _ ≤ _; omega) (hb hby hd) (fun _ _ => ⟨rfl, eT, hc, hs⟩)
  dsimp only [Pt.U, Pt.locs, Pt.cells, Pt.slots] at X' l1 y1 z1 st0 hQ N' z'
  subst l1 y1 z1
  exact o_step st0 (k v T' T'.heap ⟨hx, hby, hml, hown, hnm, hret, hlk, hZ, rfl, z', _, X', Fr.app N N'⟩ hQ)
/-- an array of n places at a; place j holds f j -/
def OArr (Z : State) (h : Heap) (a : Addr) (ty : FieldType) (n : Nat) (f : Nat → Value) : Prop := ∃ cl : Cell, Arr Z h a cl ty ∧ cl.slots.size = n ∧ ∀ j, j < n → cl.slots[j]? = some (f j)
def o_set (f : Nat → Value) (i : Nat) (v : Value) : Nat → Value := fun j => if j = i then v else f j
theorem OArr.lt {a : Addr} {ty : FieldType} {n : Nat} {f : Nat → Value} (A : OArr Z h a ty n f) : a < h.size := by obtain ⟨cl, A, -⟩ := A; exact A.lt
theorem OArr.ext {h' : Heap} {a : Addr} {ty : FieldType} {n : Nat} {f : Nat → Value} (A : OArr Z h a ty n f) (E : Ext h h') : OArr Z h' a ty n f := by obtain ⟨cl, A, r⟩ := A; exact ⟨cl, A.ext E, r⟩
theorem OArr.other {h' : Heap} {a b : Addr} {sl : Nat} {v : Value} {ty : FieldType} {n : Nat} {f : Nat → Value} (A : OArr Z h b ty n f) (W : Wr h h' a sl v) (q : b ≠ a) : OArr Z h' b ty n f := by obtain ⟨cl, A, r⟩ := A; exact ⟨cl, A.other W q, r⟩
theorem OArr.same {h' : Heap} {a : Addr} {i : Nat} {v : Value} {ty : FieldType} {n : Nat} {f : Nat → Value} (A : OArr Z h a ty n f) (W : Wr h h' a i v) : OArr Z h' a ty n (o_set f i v) := by
  obtain ⟨cl, A, S, H⟩ := A
  have hi : i < n := by
    obtain ⟨cell, h1, -, h3, -⟩ := W
    cases h1.symm.trans A.1
    rw [← S]; exact h3
  refine ⟨_, A.same W, by rw [sz_set]; exact S, fun j hj => ?_⟩
  by_cases q : j = i
  · subst q; simp [Cell.setSlot, o_set, S, hi]
  · have := H j hj
    simp only [Cell.setSlot, o_set, q, if_false]
    rw [Array.getElem?_setIfInBounds_ne (Ne.symm q)]; exact this
theorem OArr.congr {a : Addr} {ty : FieldType} {n : Nat} {f f' : Nat → Value} (A : OArr Z h a ty n f) (q : ∀ j, j < n → f j = f' j) : OArr Z h a ty n f' := by
  obtain ⟨cl, A, S, H⟩ := A
  exact ⟨cl, A, S, fun j hj => by rw [← q j hj]; exact H j hj⟩
theorem o_clamp {j : Int32} {i : Nat} (h : j.toInt = (i : Int)) : ¬ j < 0 ∧ j.toNatClampNeg = i := by
  constructor
  · rw [Int32.lt_iff_toInt_lt, h]; have : (0 : Int32).toInt = 0 := rfl
    omega
  · simp only [Int32.toNatClampNeg, h]; rfl
theorem o_arraylength (G : OG l Z y bytes maxl ret n0 p e R s m args below meth c T h cells slots) {a : Addr} {ty : FieldType} {n : Nat} {f : Nat → Value} {v : Int32} (A : OArr Z h a ty n f) (hv : Nat.toInt32 n = v) (hd : decode bytes pc = .ok (.arraylength, 1)) (hp : pc + 1 = pc') (k : OFin n0 p e below s Q ck sk T (mkF m pc' Ls (.int v :: rest))) : OFin n0 p e below s Q ck sk T (mkF m pc Ls (.ref a :: rest)) := by
  subst hp hv
  obtain ⟨hx, hby, -, -, -, -, -, hZ, eT, -, locs, X, -⟩ := G
  obtain ⟨cl, A, S, -⟩ := A
  subst S
  exact o_step (fun _ hr => X.arraylength hx (by rw [eT]; exact A.1) (State.isArrayOf_alike hZ.alike A.2.1) (g := (mkF m pc Ls (.ref a :: rest))) rfl rfl (hb hby hd) _ hr) k
theorem o_laload (G : OG l Z y bytes maxl ret n0 p e R s m args below meth c T h cells slots) {a : Addr} {n i : Nat} {f : Nat → Value} {j : Int32} {v : Value} (A : OArr Z h a .long n f) (hj : j.toInt = (i : Int)) (hi : i < n) (hv : f i = v) (hd : decode bytes pc = .ok (.laload, 1)) (hp : pc + 1 = pc') (k : OFin n0 p e below s Q ck sk T (mkF m pc' Ls (v :: rest))) : OFin n0 p e below s Q ck sk T (mkF m pc Ls (.int j :: .ref a :: rest)) := by
  subst hp hv
  obtain ⟨hx, hby, -, -, -, -, -, hZ, eT, -, locs, X, -⟩ := G
  obtain ⟨cl, A, S, H⟩ := A
  obtain ⟨q1, q2⟩ := o_clamp hj
  exact o_step (fun _ hr => X.laload hx (j := j) (v := f i) (by rw [eT]; exact A.1) (State.isArrayOf_alike hZ.alike A.2.1) A.2.2 (by rw [S, q2]; exact fun q => q.elim q1 (fun q => absurd hi (Nat.not_lt.mpr q))) (by rw [q2]; exact H i hi) (g := (mkF m pc Ls (.int j :: .ref a :: rest))) rfl rfl (hb hby hd) _ hr) k
theorem o_baload (G : OG l Z y bytes maxl ret n0 p e R s m args below meth c T h cells slots) {a : Addr} {n i : Nat} {f : Nat → Value} {j : Int32} {v : Value} (A : OArr Z h a .byte n f) (hj : j.toInt = (i : Int)) (hi : i < n) (hv : f i = v) (hd : decode bytes pc = .ok (.baload, 1)) (hp : pc + 1 = pc') (k : OFin n0 p e below s Q ck sk T (mkF m pc' Ls (v :: rest))) : OFin n0 p e below s Q ck sk T (mkF m pc Ls (.int j :: .ref a :: rest)) := by
  subst hp hv
  obtain ⟨hx, hby, -, -, -, -, -, hZ, eT, -, locs, X, -⟩ := G
  obtain ⟨cl, A, S, H⟩ := A
  obtain ⟨q1, q2⟩ := o_clamp hj
  exact o_step (fun _ hr => X.baloadBytes hx (j := j) (v := f i) (by rw [eT]; exact A.1) (State.isArrayOf_alike hZ.alike A.2.1) A.2.2 (by rw [S, q2]; exact fun q => q.elim q1 (fun q => absurd hi (Nat.not_lt.mpr q))) (by rw [q2]; exact H i hi) (g := (mkF m pc Ls (.int j :: .ref a :: rest))) rfl rfl (hb hby hd) _ hr) k
theorem o_lastore (G : OG l Z y bytes maxl ret n0 p e R s m args below meth c T h cells slots) {a : Addr} {n i : Nat} {f : Nat → Value} {j : Int32} {v : Int64} (A : OArr Z h a .long n f) (hg : n0 ≤ a) (hj : j.toInt = (i : Int)) (hi : i < n) (hd : decode bytes pc = .ok (.lastore, 1)) (hp : pc + 1 = pc')
    (k : ∀ (T' : State) (h' : Heap), OG l Z y bytes maxl ret n0 p e R s m args below meth c T' h' cells slots → Wr h h' a i (.long v) → OArr Z h' a .long n (o_set f i (.long v)) → OFin n0 p e below s Q ck sk T' (mkF m pc' Ls rest)) : OFin n0 p e below s Q ck sk T (mkF m pc Ls (.long v :: .int j :: .ref a :: rest)) := by
  subst hp
  have A0 := A
  obtain ⟨hx, hby, hml, hown, hnm, hret, hlk, hZ, eT, hz, locs, X, N⟩ := G
  obtain ⟨cl, A, S, H⟩ := A
  obtain ⟨q1, q2⟩ := o_clamp hj
  obtain ⟨T', h', X', e', W', st⟩ := stJ X hx hZ eT A (j := j) (x := v) (by rw [S, q2]; exact fun q => q.elim q1 (fun q => absurd hi (Nat.not_lt.mpr q))) (g := (mkF m pc Ls (.long v :: .int j :: .ref a :: rest))) rfl rfl (hb hby hd)
  rw [q2] at W' X'
  exact o_step st (k T' h' ⟨hx, hby, hml, hown, hnm, hret, hlk, hZ, e', by rw [W'.size]; exact hz, _, X', Fr.snoc X' N hg⟩ W' (A0.same W'))
theorem o_bastore (G : OG l Z y bytes maxl ret n0 p e R s m args below meth c T h cells slots) {a : Addr} {n i : Nat} {f : Nat → Value} {j : Int32} {v : Int32} (A : OArr Z h a .byte n f) (hg : n0 ≤ a) (hj : j.toInt = (i : Int)) (hi : i < n) (hd : decode bytes pc = .ok (.bastore, 1)) (hp : pc + 1 = pc')
    (k : ∀ (T' : State) (h' : Heap), OG l Z y bytes maxl ret n0 p e R s m args below meth c T' h' cells slots → Wr h h' a i (.int (nar .byte v)) → OArr Z h' a .byte n (o_set f i (.int (nar .byte v))) → OFin n0 p e below s Q ck sk T' (mkF m pc' Ls rest)) : OFin n0 p e below s Q ck sk T (mkF m pc Ls (.int v :: .int j :: .ref a :: rest)) := by
  subst hp
  have A0 := A
  obtain ⟨hx, hby, hml, hown, hnm, hret, hlk, hZ, eT, hz, locs, X, N⟩ := G
  obtain ⟨cl, A, S, H⟩ := A
  obtain ⟨q1, q2⟩ := o_clamp hj
  obtain ⟨T', h', X', e', W', st⟩ := stB X hx hZ eT A (j := j) (x := v) (by rw [S, q2]; exact fun q => q.elim q1 (fun q => absurd hi (Nat.not_lt.mpr q))) (g := (mkF m pc Ls (.int v :: .int j :: .ref a :: rest))) rfl rfl (hb hby hd)
  rw [q2] at W' X'
  exact o_step st (k T' h' ⟨hx, hby, hml, hown, hnm, hret, hlk, hZ, e', by rw [W'.size]; exact hz, _, X', Fr.snoc X' N hg⟩ W' (A0.same W'))
theorem o_newarray (G : OG l Z y bytes maxl ret n0 p e R s m args below meth c T h cells slots) {aty : ArrayType} {n : Int32} {N cap : Nat} (w : (Jvm.Cond.arrayClass (newarray.typeOf aty)).before a0 Z = true) (hn : n.toInt = (N : Int)) (hcap : N ≤ cap) (hb8 : cap * 8 ≤ 536870912) (hd : decode bytes pc = .ok (.newarray aty, 2)) (hp : pc + 2 = pc') (hc : cells + 1 ≤ R.cells) (hl : slots + cap ≤ R.slots)
    (k : ∀ (T' : State) (h' : Heap) (a : Addr), OG l Z y bytes maxl ret n0 p e R s m args below meth c T' h' (cells + 1) (slots + cap) → a = h.size → n0 ≤ a → Ext h h' → OArr Z h' a (newarray.typeOf aty) N (fun _ => defaultValue (newarray.typeOf aty)) → OFin n0 p e below s Q ck sk T' (mkF m pc' Ls (.ref a :: rest))) : OFin n0 p e below s Q ck sk T (mkF m pc Ls (.int n :: rest)) := by
  subst hp
  obtain ⟨hx, hby, hml, hown, hnm, hret, hlk, hZ, eT, hz, locs, X, N'⟩ := G
  obtain ⟨q1, q2⟩ := o_clamp hn
  obtain ⟨T', h', cA, X', e', E', A', st⟩ := newP X hx hZ w eT (g := (mkF m pc Ls (.int n :: rest))) rfl (hb hby hd) rfl q1 (cap := cap) (by rw [q2]; exact hcap) hb8 hc hl
  refine o_step st (k T' h' h.size ⟨hx, hby, hml, hown, hnm, hret, hlk, hZ, e', Nat.le_trans hz E'.1, _, X', N'⟩ rfl hz E' ⟨_, A', by rw [sz_new, q2], fun j hj => ?_⟩)
  simp [newA, q2, hj]
theorem o_i32 {a b : Int32} (h1 : -2147483648 ≤ a.toInt + b.toInt) (h2 : a.toInt + b.toInt < 2147483648) : (a + b).toInt = a.toInt + b.toInt := by
  rw [Int32.toInt_add, Int.bmod_def]
  split <;> omega
/-- a contract that leaves the heap as it was and returns one value -/
abbrev OVal (h0 : Heap) (r : Value) : Option Value → Heap → Prop := fun v h => v = some r ∧ h0 = h
theorem o_callP (G : OG l Z y bytes maxl ret n0 p e R s m args below meth c T h cells slots) {z : MethodName} {bz : ByteArray} {mz : Nat} {rz : Option FieldType} {rm : Room} {r : Value} {index W : Nat} {argsL st : List Value} (w1 : (Jvm.Cond.methodLink y.cls index z).before a0 Z = true) (w2 : (Jvm.Cond.static z).before a0 Z = true) (hd : decode bytes pc = .ok (.invokestatic index, 3))
    (hy : z.cls ≠ "java/lang/invoke/MethodHandle" ∧ z.cls ≠ "java/lang/invoke/VarHandle") (w3 : (Jvm.Cond.initialized z.cls).before a0 Z = true) (w4 : (Jvm.Cond.code z bz mz rz).before a0 Z = true)
    (hM : OMet l Z z bz mz rz rm argsL.toArray h n0 rm.cells rm.slots (OVal h r)) (hfr : rm.frames + 1 ≤ R.frames) (hlo : W + (mz + 11) + rm.locals ≤ R.locals) (hsz : Ls.size = maxl)
    (hlen : ∀ sig, parseMethodDescriptor z.desc = some sig → argsL.length = sig.parameters.length) (hst : st = argsL.reverse ++ rest) (hW : (rest.map fun v => v.category).sum ≤ W) (hp : pc + 3 = pc') (hc : cells + rm.cells ≤ R.cells) (hs : slots + rm.slots ≤ R.slots)
    (k : ∀ (T' : State), OG l Z y bytes maxl ret n0 p e R s m args below meth c T' h (cells + rm.cells) (slots + rm.slots) → OFin n0 p e below s Q ck sk T' (mkF m pc' Ls (r :: rest))) : OFin n0 p e below s Q ck sk T (mkF m pc Ls st) := by
  refine o_callS G w1 w2 hd hy w3 w4 hM hfr hlo hsz hlen hst hW hp hc hs ?_
  rintro v T' h' G' ⟨hv, hh⟩
  subst hv hh
  exact k T' G'
end OwnKit
theorem pd_0 : parseMethodDescriptor "([J[B)V" = some ⟨[(.array .long), (.array .byte)], none⟩ := by decide +kernel
theorem pd_1 : parseMethodDescriptor "([BIJ)Z" = some ⟨[(.array .byte), .int, .long], some .boolean⟩ := by decide +kernel
theorem d2_0 : decode method_2_code 0 = .ok (.aload_n 0, 1) := by decide +kernel
theorem d2_1 : decode method_2_code 1 = .ok (.iload_n 1, 1) := by decide +kernel
theorem d2_2 : decode method_2_code 2 = .ok (.bipush 7, 2) := by decide +kernel
theorem d2_4 : decode method_2_code 4 = .ok (.iadd, 1) := by decide +kernel
theorem d2_5 : decode method_2_code 5 = .ok (.baload, 1) := by decide +kernel
theorem d2_6 : decode method_2_code 6 = .ok (.lload_n 2, 1) := by decide +kernel
theorem d2_7 : decode method_2_code 7 = .ok (.l2i, 1) := by decide +kernel
theorem d2_8 : decode method_2_code 8 = .ok (.i2b, 1) := by decide +kernel
theorem d2_9 : decode method_2_code 9 = .ok (.if_icmp .ne 104, 3) := by decide +kernel
theorem d2_12 : decode method_2_code 12 = .ok (.aload_n 0, 1) := by decide +kernel
theorem d2_13 : decode method_2_code 13 = .ok (.iload_n 1, 1) := by decide +kernel
theorem d2_14 : decode method_2_code 14 = .ok (.bipush 6, 2) := by decide +kernel
theorem d2_16 : decode method_2_code 16 = .ok (.iadd, 1) := by decide +kernel
theorem d2_17 : decode method_2_code 17 = .ok (.baload, 1) := by decide +kernel
theorem d2_18 : decode method_2_code 18 = .ok (.lload_n 2, 1) := by decide +kernel
theorem d2_19 : decode method_2_code 19 = .ok (.bipush 8, 2) := by decide +kernel
theorem d2_21 : decode method_2_code 21 = .ok (.lushr, 1) := by decide +kernel
theorem d2_22 : decode method_2_code 22 = .ok (.l2i, 1) := by decide +kernel
theorem d2_23 : decode method_2_code 23 = .ok (.i2b, 1) := by decide +kernel
theorem d2_24 : decode method_2_code 24 = .ok (.if_icmp .ne 89, 3) := by decide +kernel
theorem d2_27 : decode method_2_code 27 = .ok (.aload_n 0, 1) := by decide +kernel
theorem d2_28 : decode method_2_code 28 = .ok (.iload_n 1, 1) := by decide +kernel
theorem d2_29 : decode method_2_code 29 = .ok (.iconst 5, 1) := by decide +kernel
theorem d2_30 : decode method_2_code 30 = .ok (.iadd, 1) := by decide +kernel
theorem d2_31 : decode method_2_code 31 = .ok (.baload, 1) := by decide +kernel
theorem d2_32 : decode method_2_code 32 = .ok (.lload_n 2, 1) := by decide +kernel
theorem d2_33 : decode method_2_code 33 = .ok (.bipush 16, 2) := by decide +kernel
theorem d2_35 : decode method_2_code 35 = .ok (.lushr, 1) := by decide +kernel
theorem d2_36 : decode method_2_code 36 = .ok (.l2i, 1) := by decide +kernel
theorem d2_37 : decode method_2_code 37 = .ok (.i2b, 1) := by decide +kernel
theorem d2_38 : decode method_2_code 38 = .ok (.if_icmp .ne 75, 3) := by decide +kernel
theorem d2_41 : decode method_2_code 41 = .ok (.aload_n 0, 1) := by decide +kernel
theorem d2_42 : decode method_2_code 42 = .ok (.iload_n 1, 1) := by decide +kernel
theorem d2_43 : decode method_2_code 43 = .ok (.iconst 4, 1) := by decide +kernel
theorem d2_44 : decode method_2_code 44 = .ok (.iadd, 1) := by decide +kernel
theorem d2_45 : decode method_2_code 45 = .ok (.baload, 1) := by decide +kernel
theorem d2_46 : decode method_2_code 46 = .ok (.lload_n 2, 1) := by decide +kernel
theorem d2_47 : decode method_2_code 47 = .ok (.bipush 24, 2) := by decide +kernel
theorem d2_49 : decode method_2_code 49 = .ok (.lushr, 1) := by decide +kernel
theorem d2_50 : decode method_2_code 50 = .ok (.l2i, 1) := by decide +kernel
theorem d2_51 : decode method_2_code 51 = .ok (.i2b, 1) := by decide +kernel
theorem d2_52 : decode method_2_code 52 = .ok (.if_icmp .ne 61, 3) := by decide +kernel
theorem d2_55 : decode method_2_code 55 = .ok (.aload_n 0, 1) := by decide +kernel
theorem d2_56 : decode method_2_code 56 = .ok (.iload_n 1, 1) := by decide +kernel
theorem d2_57 : decode method_2_code 57 = .ok (.iconst 3, 1) := by decide +kernel
theorem d2_58 : decode method_2_code 58 = .ok (.iadd, 1) := by decide +kernel
theorem d2_59 : decode method_2_code 59 = .ok (.baload, 1) := by decide +kernel
theorem d2_60 : decode method_2_code 60 = .ok (.lload_n 2, 1) := by decide +kernel
theorem d2_61 : decode method_2_code 61 = .ok (.bipush 32, 2) := by decide +kernel
theorem d2_63 : decode method_2_code 63 = .ok (.lushr, 1) := by decide +kernel
theorem d2_64 : decode method_2_code 64 = .ok (.l2i, 1) := by decide +kernel
theorem d2_65 : decode method_2_code 65 = .ok (.i2b, 1) := by decide +kernel
theorem d2_66 : decode method_2_code 66 = .ok (.if_icmp .ne 47, 3) := by decide +kernel
theorem d2_69 : decode method_2_code 69 = .ok (.aload_n 0, 1) := by decide +kernel
theorem d2_70 : decode method_2_code 70 = .ok (.iload_n 1, 1) := by decide +kernel
theorem d2_71 : decode method_2_code 71 = .ok (.iconst 2, 1) := by decide +kernel
theorem d2_72 : decode method_2_code 72 = .ok (.iadd, 1) := by decide +kernel
theorem d2_73 : decode method_2_code 73 = .ok (.baload, 1) := by decide +kernel
theorem d2_74 : decode method_2_code 74 = .ok (.lload_n 2, 1) := by decide +kernel
theorem d2_75 : decode method_2_code 75 = .ok (.bipush 40, 2) := by decide +kernel
theorem d2_77 : decode method_2_code 77 = .ok (.lushr, 1) := by decide +kernel
theorem d2_78 : decode method_2_code 78 = .ok (.l2i, 1) := by decide +kernel
theorem d2_79 : decode method_2_code 79 = .ok (.i2b, 1) := by decide +kernel
theorem d2_80 : decode method_2_code 80 = .ok (.if_icmp .ne 33, 3) := by decide +kernel
theorem d2_83 : decode method_2_code 83 = .ok (.aload_n 0, 1) := by decide +kernel
theorem d2_84 : decode method_2_code 84 = .ok (.iload_n 1, 1) := by decide +kernel
theorem d2_85 : decode method_2_code 85 = .ok (.iconst 1, 1) := by decide +kernel
theorem d2_86 : decode method_2_code 86 = .ok (.iadd, 1) := by decide +kernel
theorem d2_87 : decode method_2_code 87 = .ok (.baload, 1) := by decide +kernel
theorem d2_88 : decode method_2_code 88 = .ok (.lload_n 2, 1) := by decide +kernel
theorem d2_89 : decode method_2_code 89 = .ok (.bipush 48, 2) := by decide +kernel
theorem d2_91 : decode method_2_code 91 = .ok (.lushr, 1) := by decide +kernel
theorem d2_92 : decode method_2_code 92 = .ok (.l2i, 1) := by decide +kernel
theorem d2_93 : decode method_2_code 93 = .ok (.i2b, 1) := by decide +kernel
theorem d2_94 : decode method_2_code 94 = .ok (.if_icmp .ne 19, 3) := by decide +kernel
theorem d2_97 : decode method_2_code 97 = .ok (.aload_n 0, 1) := by decide +kernel
theorem d2_98 : decode method_2_code 98 = .ok (.iload_n 1, 1) := by decide +kernel
theorem d2_99 : decode method_2_code 99 = .ok (.baload, 1) := by decide +kernel
theorem d2_100 : decode method_2_code 100 = .ok (.lload_n 2, 1) := by decide +kernel
theorem d2_101 : decode method_2_code 101 = .ok (.bipush 56, 2) := by decide +kernel
theorem d2_103 : decode method_2_code 103 = .ok (.lushr, 1) := by decide +kernel
theorem d2_104 : decode method_2_code 104 = .ok (.l2i, 1) := by decide +kernel
theorem d2_105 : decode method_2_code 105 = .ok (.i2b, 1) := by decide +kernel
theorem d2_106 : decode method_2_code 106 = .ok (.if_icmp .ne 7, 3) := by decide +kernel
theorem d2_109 : decode method_2_code 109 = .ok (.iconst 1, 1) := by decide +kernel
theorem d2_110 : decode method_2_code 110 = .ok (.goto 4, 3) := by decide +kernel
theorem d2_113 : decode method_2_code 113 = .ok (.iconst 0, 1) := by decide +kernel
theorem d2_114 : decode method_2_code 114 = .ok (.ireturn, 1) := by decide +kernel
theorem pn_2 : plainName "com/example/auth_token_server/authtokenserver/signing/ModulusToBytesPinLaw" = true := by first | (simp [plainName, overriddenIn]; done) | decide +kernel
theorem ef_2 (m : MethodId) (r0 : Addr) (p1 : Int32) (q2 : Int64) : entryFrame m #[(.ref r0), (.int p1), (.long q2)] 4 = mkF m 0 #[.val (.ref r0), .val (.int p1), .val (.long q2), .second] [] := by first | (simp [entryFrame, mkF, argsToLocals, Value.category]; done) | rfl
def f_2 (g : Nat → Int32) (P : Nat) (p1 : Int32) (q2 : Int64) : Int32 := if (g (P + 7)) = ((q2.toInt32).toInt8.toInt32) then (if (g (P + 6)) = ((((q2.toUInt64 >>> ((8 : Int32) &&& 0x3f).toInt64.toUInt64).toInt64).toInt32).toInt8.toInt32) then (if (g (P + 5)) = ((((q2.toUInt64 >>> ((16 : Int32) &&& 0x3f).toInt64.toUInt64).toInt64).toInt32).toInt8.toInt32) then (if (g (P + 4)) = ((((q2.toUInt64 >>> ((24 : Int32) &&& 0x3f).toInt64.toUInt64).toInt64).toInt32).toInt8.toInt32) then (if (g (P + 3)) = ((((q2.toUInt64 >>> ((32 : Int32) &&& 0x3f).toInt64.toUInt64).toInt64).toInt32).toInt8.toInt32) then (if (g (P + 2)) = ((((q2.toUInt64 >>> ((40 : Int32) &&& 0x3f).toInt64.toUInt64).toInt64).toInt32).toInt8.toInt32) then (if (g (P + 1)) = ((((q2.toUInt64 >>> ((48 : Int32) &&& 0x3f).toInt64.toUInt64).toInt64).toInt32).toInt8.toInt32) then (if (g P) = ((((q2.toUInt64 >>> ((56 : Int32) &&& 0x3f).toInt64.toUInt64).toInt64).toInt32).toInt8.toInt32) then (1 : Int32) else (0 : Int32)) else (0 : Int32)) else (0 : Int32)) else (0 : Int32)) else (0 : Int32)) else (0 : Int32)) else (0 : Int32)) else (0 : Int32)
set_option maxRecDepth 65536 in
set_option maxHeartbeats 40000000 in
theorem rm2 {l : Launch} {Z : State} {a0 : Array Value} (hw : ∀ d ∈ tables_1, d.before a0 Z = true) (r0 : Addr) (p1 : Int32) (q2 : Int64) (h0 : Heap) (n0 : Nat) (hz : n0 ≤ h0.size) (g : Nat → Int32) (A_r0 : OArr Z h0 r0 .byte 24 (fun j => .int (g j))) (P : Nat) (hP : p1.toInt = (P : Int)) (hP2 : P < 17) :
    OMet l Z (⟨"com/example/auth_token_server/authtokenserver/signing/ModulusToBytesPinLaw", "eight", "([BIJ)Z"⟩ : MethodName) method_2_code 4 (some .boolean) ({ frames := 0, cells := 0, slots := 0, locals := 0 } : Room) #[(.ref r0), (.int p1), (.long q2)] h0 n0 ({ frames := 0, cells := 0, slots := 0, locals := 0 } : Room).cells ({ frames := 0, cells := 0, slots := 0, locals := 0 } : Room).slots (OVal h0 (.int (f_2 g P p1 q2))) := by
  refine o_body (plainFor_of_name pn_2) hz (fun m => ef_2 m r0 p1 q2) ?_
  intro p e s m below meth c s₁ G0
  refine o_aloadN G0 d2_0 (pc' := 1) rfl rfl rfl ?_
  refine o_iloadN G0 d2_1 (pc' := 2) rfl rfl ?_
  refine o_bipush G0 d2_2 (pc' := 4) rfl (v := (7 : Int32)) rfl ?_
  obtain ⟨v1, e1⟩ : ∃ z, p1 + (7 : Int32) = z := ⟨_, rfl⟩
  refine o_iadd G0 d2_4 (pc' := 5) rfl e1 ?_
  have hb2 : v1.toInt = ((P + 7 : Nat) : Int) := by
    have hk : (7 : Int32).toInt = 7 := rfl
    rw [← e1, o_i32 (by omega) (by omega), hP, hk]; omega
  refine o_baload G0 A_r0 (i := (P + 7)) hb2 (by omega) (v := (.int (g (P + 7)))) rfl d2_5 (pc' := 6) rfl ?_
  refine o_lloadN G0 d2_6 (pc' := 7) rfl rfl ?_
  obtain ⟨v3, e3⟩ : ∃ z, q2.toInt32 = z := ⟨_, rfl⟩
  refine o_l2i G0 d2_7 (pc' := 8) rfl e3 ?_
  obtain ⟨v4, e4⟩ : ∃ z, v3.toInt8.toInt32 = z := ⟨_, rfl⟩
  refine o_i2b G0 d2_8 (pc' := 9) rfl e4 ?_
  refine o_icmp_ne G0 d2_9 (by decide) (pcT := 113) (by decide) (pc' := 12) rfl (fun hc9 => ?_) (fun hc9 => ?_)
  · refine o_iconst G0 d2_113 (pc' := 114) rfl (v := (0 : Int32)) rfl ?_
    have hq : (nar .boolean (0 : Int32)) = f_2 g P p1 q2 := by
      subst e1 e3 e4
      rw [f_2, if_neg hc9]
      try rfl
    exact o_nreturn (t := .boolean) G0 (by simp) d2_114 ⟨congrArg (fun z => some (Value.int z)) hq, rfl⟩ (by decide) (by decide)
  · refine o_aloadN G0 d2_12 (pc' := 13) rfl rfl rfl ?_
    refine o_iloadN G0 d2_13 (pc' := 14) rfl rfl ?_
    refine o_bipush G0 d2_14 (pc' := 16) rfl (v := (6 : Int32)) rfl ?_
    obtain ⟨v5, e5⟩ : ∃ z, p1 + (6 : Int32) = z := ⟨_, rfl⟩
    refine o_iadd G0 d2_16 (pc' := 17) rfl e5 ?_
    have hb6 : v5.toInt = ((P + 6 : Nat) : Int) := by
      have hk : (6 : Int32).toInt = 6 := rfl
      rw [← e5, o_i32 (by omega) (by omega), hP, hk]; omega
    refine o_baload G0 A_r0 (i := (P + 6)) hb6 (by omega) (v := (.int (g (P + 6)))) rfl d2_17 (pc' := 18) rfl ?_
    refine o_lloadN G0 d2_18 (pc' := 19) rfl rfl ?_
    refine o_bipush G0 d2_19 (pc' := 21) rfl (v := (8 : Int32)) rfl ?_
    obtain ⟨v7, e7⟩ : ∃ z, (q2.toUInt64 >>> ((8 : Int32) &&& 0x3f).toInt64.toUInt64).toInt64 = z := ⟨_, rfl⟩
    refine o_lushr G0 d2_21 (pc' := 22) rfl e7 ?_
    obtain ⟨v8, e8⟩ : ∃ z, v7.toInt32 = z := ⟨_, rfl⟩
    refine o_l2i G0 d2_22 (pc' := 23) rfl e8 ?_
    obtain ⟨v9, e9⟩ : ∃ z, v8.toInt8.toInt32 = z := ⟨_, rfl⟩
    refine o_i2b G0 d2_23 (pc' := 24) rfl e9 ?_
    refine o_icmp_ne G0 d2_24 (by decide) (pcT := 113) (by decide) (pc' := 27) rfl (fun hc24 => ?_) (fun hc24 => ?_)
    · refine o_iconst G0 d2_113 (pc' := 114) rfl (v := (0 : Int32)) rfl ?_
      have hq : (nar .boolean (0 : Int32)) = f_2 g P p1 q2 := by
        subst e1 e3 e4 e5 e7 e8 e9
        rw [f_2, if_pos hc9, if_neg hc24]
        try rfl
      exact o_nreturn (t := .boolean) G0 (by simp) d2_114 ⟨congrArg (fun z => some (Value.int z)) hq, rfl⟩ (by decide) (by decide)
    · refine o_aloadN G0 d2_27 (pc' := 28) rfl rfl rfl ?_
      refine o_iloadN G0 d2_28 (pc' := 29) rfl rfl ?_
      refine o_iconst G0 d2_29 (pc' := 30) rfl (v := (5 : Int32)) rfl ?_
      obtain ⟨v10, e10⟩ : ∃ z, p1 + (5 : Int32) = z := ⟨_, rfl⟩
      refine o_iadd G0 d2_30 (pc' := 31) rfl e10 ?_
      have hb11 : v10.toInt = ((P + 5 : Nat) : Int) := by
        have hk : (5 : Int32).toInt = 5 := rfl
        rw [← e10, o_i32 (by omega) (by omega), hP, hk]; omega
      refine o_baload G0 A_r0 (i := (P + 5)) hb11 (by omega) (v := (.int (g (P + 5)))) rfl d2_31 (pc' := 32) rfl ?_
      refine o_lloadN G0 d2_32 (pc' := 33) rfl rfl ?_
      refine o_bipush G0 d2_33 (pc' := 35) rfl (v := (16 : Int32)) rfl ?_
      obtain ⟨v12, e12⟩ : ∃ z, (q2.toUInt64 >>> ((16 : Int32) &&& 0x3f).toInt64.toUInt64).toInt64 = z := ⟨_, rfl⟩
      refine o_lushr G0 d2_35 (pc' := 36) rfl e12 ?_
      obtain ⟨v13, e13⟩ : ∃ z, v12.toInt32 = z := ⟨_, rfl⟩
      refine o_l2i G0 d2_36 (pc' := 37) rfl e13 ?_
      obtain ⟨v14, e14⟩ : ∃ z, v13.toInt8.toInt32 = z := ⟨_, rfl⟩
      refine o_i2b G0 d2_37 (pc' := 38) rfl e14 ?_
      refine o_icmp_ne G0 d2_38 (by decide) (pcT := 113) (by decide) (pc' := 41) rfl (fun hc38 => ?_) (fun hc38 => ?_)
      · refine o_iconst G0 d2_113 (pc' := 114) rfl (v := (0 : Int32)) rfl ?_
        have hq : (nar .boolean (0 : Int32)) = f_2 g P p1 q2 := by
          subst e1 e3 e4 e5 e7 e8 e9 e10 e12 e13 e14
          rw [f_2, if_pos hc9, if_pos hc24, if_neg hc38]
          try rfl
        exact o_nreturn (t := .boolean) G0 (by simp) d2_114 ⟨congrArg (fun z => some (Value.int z)) hq, rfl⟩ (by decide) (by decide)
      · refine o_aloadN G0 d2_41 (pc' := 42) rfl rfl rfl ?_
        refine o_iloadN G0 d2_42 (pc' := 43) rfl rfl ?_
        refine o_iconst G0 d2_43 (pc' := 44) rfl (v := (4 : Int32)) rfl ?_
        obtain ⟨v15, e15⟩ : ∃ z, p1 + (4 : Int32) = z := ⟨_, rfl⟩
        refine o_iadd G0 d2_44 (pc' := 45) rfl e15 ?_
        have hb16 : v15.toInt = ((P + 4 : Nat) : Int) := by
          have hk : (4 : Int32).toInt = 4 := rfl
          rw [← e15, o_i32 (by omega) (by omega), hP, hk]; omega
        refine o_baload G0 A_r0 (i := (P + 4)) hb16 (by omega) (v := (.int (g (P + 4)))) rfl d2_45 (pc' := 46) rfl ?_
        refine o_lloadN G0 d2_46 (pc' := 47) rfl rfl ?_
        refine o_bipush G0 d2_47 (pc' := 49) rfl (v := (24 : Int32)) rfl ?_
        obtain ⟨v17, e17⟩ : ∃ z, (q2.toUInt64 >>> ((24 : Int32) &&& 0x3f).toInt64.toUInt64).toInt64 = z := ⟨_, rfl⟩
        refine o_lushr G0 d2_49 (pc' := 50) rfl e17 ?_
        obtain ⟨v18, e18⟩ : ∃ z, v17.toInt32 = z := ⟨_, rfl⟩
        refine o_l2i G0 d2_50 (pc' := 51) rfl e18 ?_
        obtain ⟨v19, e19⟩ : ∃ z, v18.toInt8.toInt32 = z := ⟨_, rfl⟩
        refine o_i2b G0 d2_51 (pc' := 52) rfl e19 ?_
        refine o_icmp_ne G0 d2_52 (by decide) (pcT := 113) (by decide) (pc' := 55) rfl (fun hc52 => ?_) (fun hc52 => ?_)
        · refine o_iconst G0 d2_113 (pc' := 114) rfl (v := (0 : Int32)) rfl ?_
          have hq : (nar .boolean (0 : Int32)) = f_2 g P p1 q2 := by
            subst e1 e3 e4 e5 e7 e8 e9 e10 e12 e13 e14 e15 e17 e18 e19
            rw [f_2, if_pos hc9, if_pos hc24, if_pos hc38, if_neg hc52]
            try rfl
          exact o_nreturn (t := .boolean) G0 (by simp) d2_114 ⟨congrArg (fun z => some (Value.int z)) hq, rfl⟩ (by decide) (by decide)
        · refine o_aloadN G0 d2_55 (pc' := 56) rfl rfl rfl ?_
          refine o_iloadN G0 d2_56 (pc' := 57) rfl rfl ?_
          refine o_iconst G0 d2_57 (pc' := 58) rfl (v := (3 : Int32)) rfl ?_
          obtain ⟨v20, e20⟩ : ∃ z, p1 + (3 : Int32) = z := ⟨_, rfl⟩
          refine o_iadd G0 d2_58 (pc' := 59) rfl e20 ?_
          have hb21 : v20.toInt = ((P + 3 : Nat) : Int) := by
            have hk : (3 : Int32).toInt = 3 := rfl
            rw [← e20, o_i32 (by omega) (by omega), hP, hk]; omega
          refine o_baload G0 A_r0 (i := (P + 3)) hb21 (by omega) (v := (.int (g (P + 3)))) rfl d2_59 (pc' := 60) rfl ?_
          refine o_lloadN G0 d2_60 (pc' := 61) rfl rfl ?_
          refine o_bipush G0 d2_61 (pc' := 63) rfl (v := (32 : Int32)) rfl ?_
          obtain ⟨v22, e22⟩ : ∃ z, (q2.toUInt64 >>> ((32 : Int32) &&& 0x3f).toInt64.toUInt64).toInt64 = z := ⟨_, rfl⟩
          refine o_lushr G0 d2_63 (pc' := 64) rfl e22 ?_
          obtain ⟨v23, e23⟩ : ∃ z, v22.toInt32 = z := ⟨_, rfl⟩
          refine o_l2i G0 d2_64 (pc' := 65) rfl e23 ?_
          obtain ⟨v24, e24⟩ : ∃ z, v23.toInt8.toInt32 = z := ⟨_, rfl⟩
          refine o_i2b G0 d2_65 (pc' := 66) rfl e24 ?_
          refine o_icmp_ne G0 d2_66 (by decide) (pcT := 113) (by decide) (pc' := 69) rfl (fun hc66 => ?_) (fun hc66 => ?_)
          · refine o_iconst G0 d2_113 (pc' := 114) rfl (v := (0 : Int32)) rfl ?_
            have hq : (nar .boolean (0 : Int32)) = f_2 g P p1 q2 := by
              subst e1 e3 e4 e5 e7 e8 e9 e10 e12 e13 e14 e15 e17 e18 e19 e20 e22 e23 e24
              rw [f_2, if_pos hc9, if_pos hc24, if_pos hc38, if_pos hc52, if_neg hc66]
              try rfl
            exact o_nreturn (t := .boolean) G0 (by simp) d2_114 ⟨congrArg (fun z => some (Value.int z)) hq, rfl⟩ (by decide) (by decide)
          · refine o_aloadN G0 d2_69 (pc' := 70) rfl rfl rfl ?_
            refine o_iloadN G0 d2_70 (pc' := 71) rfl rfl ?_
            refine o_iconst G0 d2_71 (pc' := 72) rfl (v := (2 : Int32)) rfl ?_
            obtain ⟨v25, e25⟩ : ∃ z, p1 + (2 : Int32) = z := ⟨_, rfl⟩
            refine o_iadd G0 d2_72 (pc' := 73) rfl e25 ?_
            have hb26 : v25.toInt = ((P + 2 : Nat) : Int) := by
              have hk : (2 : Int32).toInt = 2 := rfl
              rw [← e25, o_i32 (by omega) (by omega), hP, hk]; omega
            refine o_baload G0 A_r0 (i := (P + 2)) hb26 (by omega) (v := (.int (g (P + 2)))) rfl d2_73 (pc' := 74) rfl ?_
            refine o_lloadN G0 d2_74 (pc' := 75) rfl rfl ?_
            refine o_bipush G0 d2_75 (pc' := 77) rfl (v := (40 : Int32)) rfl ?_
            obtain ⟨v27, e27⟩ : ∃ z, (q2.toUInt64 >>> ((40 : Int32) &&& 0x3f).toInt64.toUInt64).toInt64 = z := ⟨_, rfl⟩
            refine o_lushr G0 d2_77 (pc' := 78) rfl e27 ?_
            obtain ⟨v28, e28⟩ : ∃ z, v27.toInt32 = z := ⟨_, rfl⟩
            refine o_l2i G0 d2_78 (pc' := 79) rfl e28 ?_
            obtain ⟨v29, e29⟩ : ∃ z, v28.toInt8.toInt32 = z := ⟨_, rfl⟩
            refine o_i2b G0 d2_79 (pc' := 80) rfl e29 ?_
            refine o_icmp_ne G0 d2_80 (by decide) (pcT := 113) (by decide) (pc' := 83) rfl (fun hc80 => ?_) (fun hc80 => ?_)
            · refine o_iconst G0 d2_113 (pc' := 114) rfl (v := (0 : Int32)) rfl ?_
              have hq : (nar .boolean (0 : Int32)) = f_2 g P p1 q2 := by
                subst e1 e3 e4 e5 e7 e8 e9 e10 e12 e13 e14 e15 e17 e18 e19 e20 e22 e23 e24 e25 e27 e28 e29
                rw [f_2, if_pos hc9, if_pos hc24, if_pos hc38, if_pos hc52, if_pos hc66, if_neg hc80]
                try rfl
              exact o_nreturn (t := .boolean) G0 (by simp) d2_114 ⟨congrArg (fun z => some (Value.int z)) hq, rfl⟩ (by decide) (by decide)
            · refine o_aloadN G0 d2_83 (pc' := 84) rfl rfl rfl ?_
              refine o_iloadN G0 d2_84 (pc' := 85) rfl rfl ?_
              refine o_iconst G0 d2_85 (pc' := 86) rfl (v := (1 : Int32)) rfl ?_
              obtain ⟨v30, e30⟩ : ∃ z, p1 + (1 : Int32) = z := ⟨_, rfl⟩
              refine o_iadd G0 d2_86 (pc' := 87) rfl e30 ?_
              have hb31 : v30.toInt = ((P + 1 : Nat) : Int) := by
                have hk : (1 : Int32).toInt = 1 := rfl
                rw [← e30, o_i32 (by omega) (by omega), hP, hk]; omega
              refine o_baload G0 A_r0 (i := (P + 1)) hb31 (by omega) (v := (.int (g (P + 1)))) rfl d2_87 (pc' := 88) rfl ?_
              refine o_lloadN G0 d2_88 (pc' := 89) rfl rfl ?_
              refine o_bipush G0 d2_89 (pc' := 91) rfl (v := (48 : Int32)) rfl ?_
              obtain ⟨v32, e32⟩ : ∃ z, (q2.toUInt64 >>> ((48 : Int32) &&& 0x3f).toInt64.toUInt64).toInt64 = z := ⟨_, rfl⟩
              refine o_lushr G0 d2_91 (pc' := 92) rfl e32 ?_
              obtain ⟨v33, e33⟩ : ∃ z, v32.toInt32 = z := ⟨_, rfl⟩
              refine o_l2i G0 d2_92 (pc' := 93) rfl e33 ?_
              obtain ⟨v34, e34⟩ : ∃ z, v33.toInt8.toInt32 = z := ⟨_, rfl⟩
              refine o_i2b G0 d2_93 (pc' := 94) rfl e34 ?_
              refine o_icmp_ne G0 d2_94 (by decide) (pcT := 113) (by decide) (pc' := 97) rfl (fun hc94 => ?_) (fun hc94 => ?_)
              · refine o_iconst G0 d2_113 (pc' := 114) rfl (v := (0 : Int32)) rfl ?_
                have hq : (nar .boolean (0 : Int32)) = f_2 g P p1 q2 := by
                  subst e1 e3 e4 e5 e7 e8 e9 e10 e12 e13 e14 e15 e17 e18 e19 e20 e22 e23 e24 e25 e27 e28 e29 e30 e32 e33 e34
                  rw [f_2, if_pos hc9, if_pos hc24, if_pos hc38, if_pos hc52, if_pos hc66, if_pos hc80, if_neg hc94]
                  try rfl
                exact o_nreturn (t := .boolean) G0 (by simp) d2_114 ⟨congrArg (fun z => some (Value.int z)) hq, rfl⟩ (by decide) (by decide)
              · refine o_aloadN G0 d2_97 (pc' := 98) rfl rfl rfl ?_
                refine o_iloadN G0 d2_98 (pc' := 99) rfl rfl ?_
                refine o_baload G0 A_r0 (i := P) hP (by omega) (v := (.int (g P))) rfl d2_99 (pc' := 100) rfl ?_
                refine o_lloadN G0 d2_100 (pc' := 101) rfl rfl ?_
                refine o_bipush G0 d2_101 (pc' := 103) rfl (v := (56 : Int32)) rfl ?_
                obtain ⟨v35, e35⟩ : ∃ z, (q2.toUInt64 >>> ((56 : Int32) &&& 0x3f).toInt64.toUInt64).toInt64 = z := ⟨_, rfl⟩
                refine o_lushr G0 d2_103 (pc' := 104) rfl e35 ?_
                obtain ⟨v36, e36⟩ : ∃ z, v35.toInt32 = z := ⟨_, rfl⟩
                refine o_l2i G0 d2_104 (pc' := 105) rfl e36 ?_
                obtain ⟨v37, e37⟩ : ∃ z, v36.toInt8.toInt32 = z := ⟨_, rfl⟩
                refine o_i2b G0 d2_105 (pc' := 106) rfl e37 ?_
                refine o_icmp_ne G0 d2_106 (by decide) (pcT := 113) (by decide) (pc' := 109) rfl (fun hc106 => ?_) (fun hc106 => ?_)
                · refine o_iconst G0 d2_113 (pc' := 114) rfl (v := (0 : Int32)) rfl ?_
                  have hq : (nar .boolean (0 : Int32)) = f_2 g P p1 q2 := by
                    subst e1 e3 e4 e5 e7 e8 e9 e10 e12 e13 e14 e15 e17 e18 e19 e20 e22 e23 e24 e25 e27 e28 e29 e30 e32 e33 e34 e35 e36 e37
                    rw [f_2, if_pos hc9, if_pos hc24, if_pos hc38, if_pos hc52, if_pos hc66, if_pos hc80, if_pos hc94, if_neg hc106]
                    try rfl
                  exact o_nreturn (t := .boolean) G0 (by simp) d2_114 ⟨congrArg (fun z => some (Value.int z)) hq, rfl⟩ (by decide) (by decide)
                · refine o_iconst G0 d2_109 (pc' := 110) rfl (v := (1 : Int32)) rfl ?_
                  refine o_goto G0 d2_110 (by decide) (pc' := 114) rfl ?_
                  have hq : (nar .boolean (1 : Int32)) = f_2 g P p1 q2 := by
                    subst e1 e3 e4 e5 e7 e8 e9 e10 e12 e13 e14 e15 e17 e18 e19 e20 e22 e23 e24 e25 e27 e28 e29 e30 e32 e33 e34 e35 e36 e37
                    rw [f_2, if_pos hc9, if_pos hc24, if_pos hc38, if_pos hc52, if_pos hc66, if_pos hc80, if_pos hc94, if_pos hc106]
                    try rfl
                  exact o_nreturn (t := .boolean) G0 (by simp) d2_114 ⟨congrArg (fun z => some (Value.int z)) hq, rfl⟩ (by decide) (by decide)
def own_l3 (x0 x1 x2 : Int64) (j : Nat) : Value := match j with | 0 => .long x0 | 1 => .long x1 | _ => .long x2
def own_tb (x0 x1 x2 : Int64) (j : Nat) : Int32 := match j with | 0 => (0 : Int32) | 1 => (0 : Int32) | 2 => (nar .byte ((((x2.toUInt64 >>> ((54 : Int32) &&& 0x3f).toInt64.toUInt64).toInt64).toInt32).toInt8.toInt32)) | 3 => (nar .byte ((((x2.toUInt64 >>> ((46 : Int32) &&& 0x3f).toInt64.toUInt64).toInt64).toInt32).toInt8.toInt32)) | 4 => (nar .byte ((((x2.toUInt64 >>> ((38 : Int32) &&& 0x3f).toInt64.toUInt64).toInt64).toInt32).toInt8.toInt32)) | 5 => (nar .byte ((((x2.toUInt64 >>> ((30 : Int32) &&& 0x3f).toInt64.toUInt64).toInt64).toInt32).toInt8.toInt32)) | 6 => (nar .byte ((((x2.toUInt64 >>> ((22 : Int32) &&& 0x3f).toInt64.toUInt64).toInt64).toInt32).toInt8.toInt32)) | 7 => (nar .byte ((((x2.toUInt64 >>> ((14 : Int32) &&& 0x3f).toInt64.toUInt64).toInt64).toInt32).toInt8.toInt32)) | 8 => (nar .byte ((((x2.toUInt64 >>> ((6 : Int32) &&& 0x3f).toInt64.toUInt64).toInt64).toInt32).toInt8.toInt32)) | 9 => (nar .byte (((((x1.toUInt64 >>> ((55 : Int32) &&& 0x3f).toInt64.toUInt64).toInt64) ||| (x2 <<< ((2 : Int32) &&& 0x3f).toInt64)).toInt32).toInt8.toInt32)) | 10 => (nar .byte ((((x1.toUInt64 >>> ((47 : Int32) &&& 0x3f).toInt64.toUInt64).toInt64).toInt32).toInt8.toInt32)) | 11 => (nar .byte ((((x1.toUInt64 >>> ((39 : Int32) &&& 0x3f).toInt64.toUInt64).toInt64).toInt32).toInt8.toInt32)) | 12 => (nar .byte ((((x1.toUInt64 >>> ((31 : Int32) &&& 0x3f).toInt64.toUInt64).toInt64).toInt32).toInt8.toInt32)) | 13 => (nar .byte ((((x1.toUInt64 >>> ((23 : Int32) &&& 0x3f).toInt64.toUInt64).toInt64).toInt32).toInt8.toInt32)) | 14 => (nar .byte ((((x1.toUInt64 >>> ((15 : Int32) &&& 0x3f).toInt64.toUInt64).toInt64).toInt32).toInt8.toInt32)) | 15 => (nar .byte ((((x1.toUInt64 >>> ((7 : Int32) &&& 0x3f).toInt64.toUInt64).toInt64).toInt32).toInt8.toInt32)) | 16 => (nar .byte (((((x0.toUInt64 >>> ((56 : Int32) &&& 0x3f).toInt64.toUInt64).toInt64) ||| (x1 <<< ((1 : Int32) &&& 0x3f).toInt64)).toInt32).toInt8.toInt32)) | 17 => (nar .byte ((((x0.toUInt64 >>> ((48 : Int32) &&& 0x3f).toInt64.toUInt64).toInt64).toInt32).toInt8.toInt32)) | 18 => (nar .byte ((((x0.toUInt64 >>> ((40 : Int32) &&& 0x3f).toInt64.toUInt64).toInt64).toInt32).toInt8.toInt32)) | 19 => (nar .byte ((((x0.toUInt64 >>> ((32 : Int32) &&& 0x3f).toInt64.toUInt64).toInt64).toInt32).toInt8.toInt32)) | 20 => (nar .byte ((((x0.toUInt64 >>> ((24 : Int32) &&& 0x3f).toInt64.toUInt64).toInt64).toInt32).toInt8.toInt32)) | 21 => (nar .byte ((((x0.toUInt64 >>> ((16 : Int32) &&& 0x3f).toInt64.toUInt64).toInt64).toInt32).toInt8.toInt32)) | 22 => (nar .byte ((((x0.toUInt64 >>> ((8 : Int32) &&& 0x3f).toInt64.toUInt64).toInt64).toInt32).toInt8.toInt32)) | 23 => (nar .byte ((((x0.toUInt64 >>> ((0 : Int32) &&& 0x3f).toInt64.toUInt64).toInt64).toInt32).toInt8.toInt32)) | _ => 0
theorem d1_0 : decode prog_45_method_6_code 0 = .ok (.iconst 0, 1) := by decide +kernel
theorem d1_1 : decode prog_45_method_6_code 1 = .ok (.istore_n 2, 1) := by decide +kernel
theorem d1_2 : decode prog_45_method_6_code 2 = .ok (.iload_n 2, 1) := by decide +kernel
theorem d1_3 : decode prog_45_method_6_code 3 = .ok (.aload_n 1, 1) := by decide +kernel
theorem d1_4 : decode prog_45_method_6_code 4 = .ok (.arraylength, 1) := by decide +kernel
theorem d1_5 : decode prog_45_method_6_code 5 = .ok (.if_icmp .ge 91, 3) := by decide +kernel
theorem d1_8 : decode prog_45_method_6_code 8 = .ok (.bipush 8, 2) := by decide +kernel
theorem d1_10 : decode prog_45_method_6_code 10 = .ok (.iload_n 2, 1) := by decide +kernel
theorem d1_11 : decode prog_45_method_6_code 11 = .ok (.imul, 1) := by decide +kernel
theorem d1_12 : decode prog_45_method_6_code 12 = .ok (.istore_n 3, 1) := by decide +kernel
theorem d1_13 : decode prog_45_method_6_code 13 = .ok (.iload_n 3, 1) := by decide +kernel
theorem d1_14 : decode prog_45_method_6_code 14 = .ok (.bipush 57, 2) := by decide +kernel
theorem d1_16 : decode prog_45_method_6_code 16 = .ok (.idiv, 1) := by decide +kernel
theorem d1_17 : decode prog_45_method_6_code 17 = .ok (.istore 4, 2) := by decide +kernel
theorem d1_19 : decode prog_45_method_6_code 19 = .ok (.iload_n 3, 1) := by decide +kernel
theorem d1_20 : decode prog_45_method_6_code 20 = .ok (.bipush 57, 2) := by decide +kernel
theorem d1_22 : decode prog_45_method_6_code 22 = .ok (.irem, 1) := by decide +kernel
theorem d1_23 : decode prog_45_method_6_code 23 = .ok (.istore 5, 2) := by decide +kernel
theorem d1_25 : decode prog_45_method_6_code 25 = .ok (.iload 4, 2) := by decide +kernel
theorem d1_27 : decode prog_45_method_6_code 27 = .ok (.aload_n 0, 1) := by decide +kernel
theorem d1_28 : decode prog_45_method_6_code 28 = .ok (.arraylength, 1) := by decide +kernel
theorem d1_29 : decode prog_45_method_6_code 29 = .ok (.if_icmp .ge 13, 3) := by decide +kernel
theorem d1_32 : decode prog_45_method_6_code 32 = .ok (.aload_n 0, 1) := by decide +kernel
theorem d1_33 : decode prog_45_method_6_code 33 = .ok (.iload 4, 2) := by decide +kernel
theorem d1_35 : decode prog_45_method_6_code 35 = .ok (.laload, 1) := by decide +kernel
theorem d1_36 : decode prog_45_method_6_code 36 = .ok (.iload 5, 2) := by decide +kernel
theorem d1_38 : decode prog_45_method_6_code 38 = .ok (.lushr, 1) := by decide +kernel
theorem d1_39 : decode prog_45_method_6_code 39 = .ok (.goto 4, 3) := by decide +kernel
theorem d1_42 : decode prog_45_method_6_code 42 = .ok (.lconst 0, 1) := by decide +kernel
theorem d1_43 : decode prog_45_method_6_code 43 = .ok (.lstore 6, 2) := by decide +kernel
theorem d1_45 : decode prog_45_method_6_code 45 = .ok (.iload 5, 2) := by decide +kernel
theorem d1_47 : decode prog_45_method_6_code 47 = .ok (.bipush 49, 2) := by decide +kernel
theorem d1_49 : decode prog_45_method_6_code 49 = .ok (.if_icmp .le 29, 3) := by decide +kernel
theorem d1_52 : decode prog_45_method_6_code 52 = .ok (.iload 4, 2) := by decide +kernel
theorem d1_54 : decode prog_45_method_6_code 54 = .ok (.iconst 1, 1) := by decide +kernel
theorem d1_55 : decode prog_45_method_6_code 55 = .ok (.iadd, 1) := by decide +kernel
theorem d1_56 : decode prog_45_method_6_code 56 = .ok (.aload_n 0, 1) := by decide +kernel
theorem d1_57 : decode prog_45_method_6_code 57 = .ok (.arraylength, 1) := by decide +kernel
theorem d1_58 : decode prog_45_method_6_code 58 = .ok (.if_icmp .ge 20, 3) := by decide +kernel
theorem d1_61 : decode prog_45_method_6_code 61 = .ok (.lload 6, 2) := by decide +kernel
theorem d1_63 : decode prog_45_method_6_code 63 = .ok (.aload_n 0, 1) := by decide +kernel
theorem d1_64 : decode prog_45_method_6_code 64 = .ok (.iload 4, 2) := by decide +kernel
theorem d1_66 : decode prog_45_method_6_code 66 = .ok (.iconst 1, 1) := by decide +kernel
theorem d1_67 : decode prog_45_method_6_code 67 = .ok (.iadd, 1) := by decide +kernel
theorem d1_68 : decode prog_45_method_6_code 68 = .ok (.laload, 1) := by decide +kernel
theorem d1_69 : decode prog_45_method_6_code 69 = .ok (.bipush 57, 2) := by decide +kernel
theorem d1_71 : decode prog_45_method_6_code 71 = .ok (.iload 5, 2) := by decide +kernel
theorem d1_73 : decode prog_45_method_6_code 73 = .ok (.isub, 1) := by decide +kernel
theorem d1_74 : decode prog_45_method_6_code 74 = .ok (.lshl, 1) := by decide +kernel
theorem d1_75 : decode prog_45_method_6_code 75 = .ok (.lor, 1) := by decide +kernel
theorem d1_76 : decode prog_45_method_6_code 76 = .ok (.lstore 6, 2) := by decide +kernel
theorem d1_78 : decode prog_45_method_6_code 78 = .ok (.aload_n 1, 1) := by decide +kernel
theorem d1_79 : decode prog_45_method_6_code 79 = .ok (.aload_n 1, 1) := by decide +kernel
theorem d1_80 : decode prog_45_method_6_code 80 = .ok (.arraylength, 1) := by decide +kernel
theorem d1_81 : decode prog_45_method_6_code 81 = .ok (.iconst 1, 1) := by decide +kernel
theorem d1_82 : decode prog_45_method_6_code 82 = .ok (.isub, 1) := by decide +kernel
theorem d1_83 : decode prog_45_method_6_code 83 = .ok (.iload_n 2, 1) := by decide +kernel
theorem d1_84 : decode prog_45_method_6_code 84 = .ok (.isub, 1) := by decide +kernel
theorem d1_85 : decode prog_45_method_6_code 85 = .ok (.lload 6, 2) := by decide +kernel
theorem d1_87 : decode prog_45_method_6_code 87 = .ok (.l2i, 1) := by decide +kernel
theorem d1_88 : decode prog_45_method_6_code 88 = .ok (.i2b, 1) := by decide +kernel
theorem d1_89 : decode prog_45_method_6_code 89 = .ok (.bastore, 1) := by decide +kernel
theorem d1_90 : decode prog_45_method_6_code 90 = .ok (.iinc 2 1, 3) := by decide +kernel
theorem d1_93 : decode prog_45_method_6_code 93 = .ok (.goto (-91), 3) := by decide +kernel
theorem d1_96 : decode prog_45_method_6_code 96 = .ok (.return_, 1) := by decide +kernel
theorem pn_1 : plainName "com/example/auth_token_server/authtokenserver/signing/Modulus" = true := by first | (simp [plainName, overriddenIn]; done) | decide +kernel
theorem ef_1 (m : MethodId) (r0 : Addr) (r1 : Addr) : entryFrame m #[(.ref r0), (.ref r1)] 8 = mkF m 0 #[.val (.ref r0), .val (.ref r1), .unset, .unset, .unset, .unset, .unset, .unset] [] := by first | (simp [entryFrame, mkF, argsToLocals, Value.category]; done) | rfl
set_option maxRecDepth 65536 in
set_option maxHeartbeats 40000000 in
theorem rm1 {l : Launch} {Z : State} {a0 : Array Value} (hw : ∀ d ∈ tables_1, d.before a0 Z = true) (r0 : Addr) (r1 : Addr) (h0 : Heap) (n0 : Nat) (hz : n0 ≤ h0.size) (hg1 : n0 ≤ r1) (hne : r0 ≠ r1) (x0 x1 x2 : Int64) (f : Nat → Value) (A_r0 : OArr Z h0 r0 .long 3 (own_l3 x0 x1 x2)) (A_r1 : OArr Z h0 r1 .byte 24 f) :
    OMet l Z (⟨"com/example/auth_token_server/authtokenserver/signing/Modulus", "toBytes", "([J[B)V"⟩ : MethodName) prog_45_method_6_code 8 none ({ frames := 0, cells := 0, slots := 0, locals := 0 } : Room) #[(.ref r0), (.ref r1)] h0 n0 0 0 (fun v h => v = none ∧ Keep h0 h [r1] ∧ OArr Z h r1 .byte 24 (fun j => .int (own_tb x0 x1 x2 j))) := by
  refine o_body (plainFor_of_name pn_1) hz (fun m => ef_1 m r0 r1) ?_
  intro p e s m below meth c s₁ G0
  have K : Keep h0 h0 [r1] := Keep.refl _ _
  refine o_iconst G0 d1_0 (pc' := 1) rfl (v := (0 : Int32)) rfl ?_
  refine o_istoreN G0 d1_1 (pc' := 2) rfl (l' := #[.val (.ref r0), .val (.ref r1), .val (.int (0 : Int32)), .unset, .unset, .unset, .unset, .unset]) rfl ?_
  refine o_iloadN G0 d1_2 (pc' := 3) rfl rfl ?_
  refine o_aloadN G0 d1_3 (pc' := 4) rfl rfl rfl ?_
  refine o_arraylength G0 A_r1 (v := (24 : Int32)) rfl d1_4 (pc' := 5) rfl ?_
  refine o_icmp_ge G0 d1_5 (by decide) (pcT := 96) (by decide) (pc' := 8) rfl (fun q => absurd (by decide) q) (fun _ => ?_)
  refine o_bipush G0 d1_8 (pc' := 10) rfl (v := (8 : Int32)) rfl ?_
  refine o_iloadN G0 d1_10 (pc' := 11) rfl rfl ?_
  refine o_imul G0 d1_11 (pc' := 12) rfl (v := (0 : Int32)) (by decide) ?_
  refine o_istoreN G0 d1_12 (pc' := 13) rfl (l' := #[.val (.ref r0), .val (.ref r1), .val (.int (0 : Int32)), .val (.int (0 : Int32)), .unset, .unset, .unset, .unset]) rfl ?_
  refine o_iloadN G0 d1_13 (pc' := 14) rfl rfl ?_
  refine o_bipush G0 d1_14 (pc' := 16) rfl (v := (57 : Int32)) rfl ?_
  refine o_idiv G0 d1_16 (pc' := 17) rfl (by decide) (v := (0 : Int32)) (by decide) ?_
  refine o_istore G0 d1_17 (pc' := 19) rfl (l' := #[.val (.ref r0), .val (.ref r1), .val (.int (0 : Int32)), .val (.int (0 : Int32)), .val (.int (0 : Int32)), .unset, .unset, .unset]) rfl ?_
  refine o_iloadN G0 d1_19 (pc' := 20) rfl rfl ?_
  refine o_bipush G0 d1_20 (pc' := 22) rfl (v := (57 : Int32)) rfl ?_
  refine o_irem G0 d1_22 (pc' := 23) rfl (by decide) (v := (0 : Int32)) (by decide) ?_
  refine o_istore G0 d1_23 (pc' := 25) rfl (l' := #[.val (.ref r0), .val (.ref r1), .val (.int (0 : Int32)), .val (.int (0 : Int32)), .val (.int (0 : Int32)), .val (.int (0 : Int32)), .unset, .unset]) rfl ?_
  refine o_iload G0 d1_25 (pc' := 27) rfl rfl ?_
  refine o_aloadN G0 d1_27 (pc' := 28) rfl rfl rfl ?_
  refine o_arraylength G0 A_r0 (v := (3 : Int32)) rfl d1_28 (pc' := 29) rfl ?_
  refine o_icmp_ge G0 d1_29 (by decide) (pcT := 42) (by decide) (pc' := 32) rfl (fun q => absurd (by decide) q) (fun _ => ?_)
  refine o_aloadN G0 d1_32 (pc' := 33) rfl rfl rfl ?_
  refine o_iload G0 d1_33 (pc' := 35) rfl rfl ?_
  refine o_laload G0 A_r0 (i := 0) rfl (by decide) (v := (.long x0)) rfl d1_35 (pc' := 36) rfl ?_
  refine o_iload G0 d1_36 (pc' := 38) rfl rfl ?_
  obtain ⟨v1, e1⟩ : ∃ z, (x0.toUInt64 >>> ((0 : Int32) &&& 0x3f).toInt64.toUInt64).toInt64 = z := ⟨_, rfl⟩
  refine o_lushr G0 d1_38 (pc' := 39) rfl e1 ?_
  refine o_goto G0 d1_39 (by decide) (pc' := 43) rfl ?_
  refine o_lstore G0 d1_43 (pc' := 45) rfl (l' := #[.val (.ref r0), .val (.ref r1), .val (.int (0 : Int32)), .val (.int (0 : Int32)), .val (.int (0 : Int32)), .val (.int (0 : Int32)), .val (.long v1), .second]) rfl ?_
  refine o_iload G0 d1_45 (pc' := 47) rfl rfl ?_
  refine o_bipush G0 d1_47 (pc' := 49) rfl (v := (49 : Int32)) rfl ?_
  refine o_icmp_le G0 d1_49 (by decide) (pcT := 78) (by decide) (pc' := 52) rfl (fun _ => ?_) (fun q => absurd q (by decide))
  refine o_aloadN G0 d1_78 (pc' := 79) rfl rfl rfl ?_
  refine o_aloadN G0 d1_79 (pc' := 80) rfl rfl rfl ?_
  refine o_arraylength G0 A_r1 (v := (24 : Int32)) rfl d1_80 (pc' := 81) rfl ?_
  refine o_iconst G0 d1_81 (pc' := 82) rfl (v := (1 : Int32)) rfl ?_
  refine o_isub G0 d1_82 (pc' := 83) rfl (v := (23 : Int32)) (by decide) ?_
  refine o_iloadN G0 d1_83 (pc' := 84) rfl rfl ?_
  refine o_isub G0 d1_84 (pc' := 85) rfl (v := (23 : Int32)) (by decide) ?_
  refine o_lload G0 d1_85 (pc' := 87) rfl rfl ?_
  obtain ⟨v2, e2⟩ : ∃ z, v1.toInt32 = z := ⟨_, rfl⟩
  refine o_l2i G0 d1_87 (pc' := 88) rfl e2 ?_
  obtain ⟨v3, e3⟩ : ∃ z, v2.toInt8.toInt32 = z := ⟨_, rfl⟩
  refine o_i2b G0 d1_88 (pc' := 89) rfl e3 ?_
  refine o_bastore G0 A_r1 hg1 (i := 23) rfl (by decide) d1_89 (pc' := 90) rfl ?_
  intro T4 h4 G4 W4 A4
  replace A_r0 := A_r0.other W4 hne
  replace K := K.wr W4 (Or.inl (List.mem_of_getElem? (i := 0) rfl))
  replace A_r1 := A4
  refine o_iinc G4 d1_90 (pc' := 93) rfl rfl (w := (1 : Int32)) rfl (v := (1 : Int32)) (by decide) (l' := #[.val (.ref r0), .val (.ref r1), .val (.int (1 : Int32)), .val (.int (0 : Int32)), .val (.int (0 : Int32)), .val (.int (0 : Int32)), .val (.long v1), .second]) rfl ?_
  refine o_goto G4 d1_93 (by decide) (pc' := 2) rfl ?_
  refine o_iloadN G4 d1_2 (pc' := 3) rfl rfl ?_
  refine o_aloadN G4 d1_3 (pc' := 4) rfl rfl rfl ?_
  refine o_arraylength G4 A_r1 (v := (24 : Int32)) rfl d1_4 (pc' := 5) rfl ?_
  refine o_icmp_ge G4 d1_5 (by decide) (pcT := 96) (by decide) (pc' := 8) rfl (fun q => absurd (by decide) q) (fun _ => ?_)
  refine o_bipush G4 d1_8 (pc' := 10) rfl (v := (8 : Int32)) rfl ?_
  refine o_iloadN G4 d1_10 (pc' := 11) rfl rfl ?_
  refine o_imul G4 d1_11 (pc' := 12) rfl (v := (8 : Int32)) (by decide) ?_
  refine o_istoreN G4 d1_12 (pc' := 13) rfl (l' := #[.val (.ref r0), .val (.ref r1), .val (.int (1 : Int32)), .val (.int (8 : Int32)), .val (.int (0 : Int32)), .val (.int (0 : Int32)), .val (.long v1), .second]) rfl ?_
  refine o_iloadN G4 d1_13 (pc' := 14) rfl rfl ?_
  refine o_bipush G4 d1_14 (pc' := 16) rfl (v := (57 : Int32)) rfl ?_
  refine o_idiv G4 d1_16 (pc' := 17) rfl (by decide) (v := (0 : Int32)) (by decide) ?_
  refine o_istore G4 d1_17 (pc' := 19) rfl (l' := #[.val (.ref r0), .val (.ref r1), .val (.int (1 : Int32)), .val (.int (8 : Int32)), .val (.int (0 : Int32)), .val (.int (0 : Int32)), .val (.long v1), .second]) rfl ?_
  refine o_iloadN G4 d1_19 (pc' := 20) rfl rfl ?_
  refine o_bipush G4 d1_20 (pc' := 22) rfl (v := (57 : Int32)) rfl ?_
  refine o_irem G4 d1_22 (pc' := 23) rfl (by decide) (v := (8 : Int32)) (by decide) ?_
  refine o_istore G4 d1_23 (pc' := 25) rfl (l' := #[.val (.ref r0), .val (.ref r1), .val (.int (1 : Int32)), .val (.int (8 : Int32)), .val (.int (0 : Int32)), .val (.int (8 : Int32)), .val (.long v1), .second]) rfl ?_
  refine o_iload G4 d1_25 (pc' := 27) rfl rfl ?_
  refine o_aloadN G4 d1_27 (pc' := 28) rfl rfl rfl ?_
  refine o_arraylength G4 A_r0 (v := (3 : Int32)) rfl d1_28 (pc' := 29) rfl ?_
  refine o_icmp_ge G4 d1_29 (by decide) (pcT := 42) (by decide) (pc' := 32) rfl (fun q => absurd (by decide) q) (fun _ => ?_)
  refine o_aloadN G4 d1_32 (pc' := 33) rfl rfl rfl ?_
  refine o_iload G4 d1_33 (pc' := 35) rfl rfl ?_
  refine o_laload G4 A_r0 (i := 0) rfl (by decide) (v := (.long x0)) rfl d1_35 (pc' := 36) rfl ?_
  refine o_iload G4 d1_36 (pc' := 38) rfl rfl ?_
  obtain ⟨v5, e5⟩ : ∃ z, (x0.toUInt64 >>> ((8 : Int32) &&& 0x3f).toInt64.toUInt64).toInt64 = z := ⟨_, rfl⟩
  refine o_lushr G4 d1_38 (pc' := 39) rfl e5 ?_
  refine o_goto G4 d1_39 (by decide) (pc' := 43) rfl ?_
  refine o_lstore G4 d1_43 (pc' := 45) rfl (l' := #[.val (.ref r0), .val (.ref r1), .val (.int (1 : Int32)), .val (.int (8 : Int32)), .val (.int (0 : Int32)), .val (.int (8 : Int32)), .val (.long v5), .second]) rfl ?_
  refine o_iload G4 d1_45 (pc' := 47) rfl rfl ?_
  refine o_bipush G4 d1_47 (pc' := 49) rfl (v := (49 : Int32)) rfl ?_
  refine o_icmp_le G4 d1_49 (by decide) (pcT := 78) (by decide) (pc' := 52) rfl (fun _ => ?_) (fun q => absurd q (by decide))
  refine o_aloadN G4 d1_78 (pc' := 79) rfl rfl rfl ?_
  refine o_aloadN G4 d1_79 (pc' := 80) rfl rfl rfl ?_
  refine o_arraylength G4 A_r1 (v := (24 : Int32)) rfl d1_80 (pc' := 81) rfl ?_
  refine o_iconst G4 d1_81 (pc' := 82) rfl (v := (1 : Int32)) rfl ?_
  refine o_isub G4 d1_82 (pc' := 83) rfl (v := (23 : Int32)) (by decide) ?_
  refine o_iloadN G4 d1_83 (pc' := 84) rfl rfl ?_
  refine o_isub G4 d1_84 (pc' := 85) rfl (v := (22 : Int32)) (by decide) ?_
  refine o_lload G4 d1_85 (pc' := 87) rfl rfl ?_
  obtain ⟨v6, e6⟩ : ∃ z, v5.toInt32 = z := ⟨_, rfl⟩
  refine o_l2i G4 d1_87 (pc' := 88) rfl e6 ?_
  obtain ⟨v7, e7⟩ : ∃ z, v6.toInt8.toInt32 = z := ⟨_, rfl⟩
  refine o_i2b G4 d1_88 (pc' := 89) rfl e7 ?_
  refine o_bastore G4 A_r1 hg1 (i := 22) rfl (by decide) d1_89 (pc' := 90) rfl ?_
  intro T8 h8 G8 W8 A8
  replace A_r0 := A_r0.other W8 hne
  replace K := K.wr W8 (Or.inl (List.mem_of_getElem? (i := 0) rfl))
  replace A_r1 := A8
  refine o_iinc G8 d1_90 (pc' := 93) rfl rfl (w := (1 : Int32)) rfl (v := (2 : Int32)) (by decide) (l' := #[.val (.ref r0), .val (.ref r1), .val (.int (2 : Int32)), .val (.int (8 : Int32)), .val (.int (0 : Int32)), .val (.int (8 : Int32)), .val (.long v5), .second]) rfl ?_
  refine o_goto G8 d1_93 (by decide) (pc' := 2) rfl ?_
  refine o_iloadN G8 d1_2 (pc' := 3) rfl rfl ?_
  refine o_aloadN G8 d1_3 (pc' := 4) rfl rfl rfl ?_
  refine o_arraylength G8 A_r1 (v := (24 : Int32)) rfl d1_4 (pc' := 5) rfl ?_
  refine o_icmp_ge G8 d1_5 (by decide) (pcT := 96) (by decide) (pc' := 8) rfl (fun q => absurd (by decide) q) (fun _ => ?_)
  refine o_bipush G8 d1_8 (pc' := 10) rfl (v := (8 : Int32)) rfl ?_
  refine o_iloadN G8 d1_10 (pc' := 11) rfl rfl ?_
  refine o_imul G8 d1_11 (pc' := 12) rfl (v := (16 : Int32)) (by decide) ?_
  refine o_istoreN G8 d1_12 (pc' := 13) rfl (l' := #[.val (.ref r0), .val (.ref r1), .val (.int (2 : Int32)), .val (.int (16 : Int32)), .val (.int (0 : Int32)), .val (.int (8 : Int32)), .val (.long v5), .second]) rfl ?_
  refine o_iloadN G8 d1_13 (pc' := 14) rfl rfl ?_
  refine o_bipush G8 d1_14 (pc' := 16) rfl (v := (57 : Int32)) rfl ?_
  refine o_idiv G8 d1_16 (pc' := 17) rfl (by decide) (v := (0 : Int32)) (by decide) ?_
  refine o_istore G8 d1_17 (pc' := 19) rfl (l' := #[.val (.ref r0), .val (.ref r1), .val (.int (2 : Int32)), .val (.int (16 : Int32)), .val (.int (0 : Int32)), .val (.int (8 : Int32)), .val (.long v5), .second]) rfl ?_
  refine o_iloadN G8 d1_19 (pc' := 20) rfl rfl ?_
  refine o_bipush G8 d1_20 (pc' := 22) rfl (v := (57 : Int32)) rfl ?_
  refine o_irem G8 d1_22 (pc' := 23) rfl (by decide) (v := (16 : Int32)) (by decide) ?_
  refine o_istore G8 d1_23 (pc' := 25) rfl (l' := #[.val (.ref r0), .val (.ref r1), .val (.int (2 : Int32)), .val (.int (16 : Int32)), .val (.int (0 : Int32)), .val (.int (16 : Int32)), .val (.long v5), .second]) rfl ?_
  refine o_iload G8 d1_25 (pc' := 27) rfl rfl ?_
  refine o_aloadN G8 d1_27 (pc' := 28) rfl rfl rfl ?_
  refine o_arraylength G8 A_r0 (v := (3 : Int32)) rfl d1_28 (pc' := 29) rfl ?_
  refine o_icmp_ge G8 d1_29 (by decide) (pcT := 42) (by decide) (pc' := 32) rfl (fun q => absurd (by decide) q) (fun _ => ?_)
  refine o_aloadN G8 d1_32 (pc' := 33) rfl rfl rfl ?_
  refine o_iload G8 d1_33 (pc' := 35) rfl rfl ?_
  refine o_laload G8 A_r0 (i := 0) rfl (by decide) (v := (.long x0)) rfl d1_35 (pc' := 36) rfl ?_
  refine o_iload G8 d1_36 (pc' := 38) rfl rfl ?_
  obtain ⟨v9, e9⟩ : ∃ z, (x0.toUInt64 >>> ((16 : Int32) &&& 0x3f).toInt64.toUInt64).toInt64 = z := ⟨_, rfl⟩
  refine o_lushr G8 d1_38 (pc' := 39) rfl e9 ?_
  refine o_goto G8 d1_39 (by decide) (pc' := 43) rfl ?_
  refine o_lstore G8 d1_43 (pc' := 45) rfl (l' := #[.val (.ref r0), .val (.ref r1), .val (.int (2 : Int32)), .val (.int (16 : Int32)), .val (.int (0 : Int32)), .val (.int (16 : Int32)), .val (.long v9), .second]) rfl ?_
  refine o_iload G8 d1_45 (pc' := 47) rfl rfl ?_
  refine o_bipush G8 d1_47 (pc' := 49) rfl (v := (49 : Int32)) rfl ?_
  refine o_icmp_le G8 d1_49 (by decide) (pcT := 78) (by decide) (pc' := 52) rfl (fun _ => ?_) (fun q => absurd q (by decide))
  refine o_aloadN G8 d1_78 (pc' := 79) rfl rfl rfl ?_
  refine o_aloadN G8 d1_79 (pc' := 80) rfl rfl rfl ?_
  refine o_arraylength G8 A_r1 (v := (24 : Int32)) rfl d1_80 (pc' := 81) rfl ?_
  refine o_iconst G8 d1_81 (pc' := 82) rfl (v := (1 : Int32)) rfl ?_
  refine o_isub G8 d1_82 (pc' := 83) rfl (v := (23 : Int32)) (by decide) ?_
  refine o_iloadN G8 d1_83 (pc' := 84) rfl rfl ?_
  refine o_isub G8 d1_84 (pc' := 85) rfl (v := (21 : Int32)) (by decide) ?_
  refine o_lload G8 d1_85 (pc' := 87) rfl rfl ?_
  obtain ⟨v10, e10⟩ : ∃ z, v9.toInt32 = z := ⟨_, rfl⟩
  refine o_l2i G8 d1_87 (pc' := 88) rfl e10 ?_
  obtain ⟨v11, e11⟩ : ∃ z, v10.toInt8.toInt32 = z := ⟨_, rfl⟩
  refine o_i2b G8 d1_88 (pc' := 89) rfl e11 ?_
  refine o_bastore G8 A_r1 hg1 (i := 21) rfl (by decide) d1_89 (pc' := 90) rfl ?_
  intro T12 h12 G12 W12 A12
  replace A_r0 := A_r0.other W12 hne
  replace K := K.wr W12 (Or.inl (List.mem_of_getElem? (i := 0) rfl))
  replace A_r1 := A12
  refine o_iinc G12 d1_90 (pc' := 93) rfl rfl (w := (1 : Int32)) rfl (v := (3 : Int32)) (by decide) (l' := #[.val (.ref r0), .val (.ref r1), .val (.int (3 : Int32)), .val (.int (16 : Int32)), .val (.int (0 : Int32)), .val (.int (16 : Int32)), .val (.long v9), .second]) rfl ?_
  refine o_goto G12 d1_93 (by decide) (pc' := 2) rfl ?_
  refine o_iloadN G12 d1_2 (pc' := 3) rfl rfl ?_
  refine o_aloadN G12 d1_3 (pc' := 4) rfl rfl rfl ?_
  refine o_arraylength G12 A_r1 (v := (24 : Int32)) rfl d1_4 (pc' := 5) rfl ?_
  refine o_icmp_ge G12 d1_5 (by decide) (pcT := 96) (by decide) (pc' := 8) rfl (fun q => absurd (by decide) q) (fun _ => ?_)
  refine o_bipush G12 d1_8 (pc' := 10) rfl (v := (8 : Int32)) rfl ?_
  refine o_iloadN G12 d1_10 (pc' := 11) rfl rfl ?_
  refine o_imul G12 d1_11 (pc' := 12) rfl (v := (24 : Int32)) (by decide) ?_
  refine o_istoreN G12 d1_12 (pc' := 13) rfl (l' := #[.val (.ref r0), .val (.ref r1), .val (.int (3 : Int32)), .val (.int (24 : Int32)), .val (.int (0 : Int32)), .val (.int (16 : Int32)), .val (.long v9), .second]) rfl ?_
  refine o_iloadN G12 d1_13 (pc' := 14) rfl rfl ?_
  refine o_bipush G12 d1_14 (pc' := 16) rfl (v := (57 : Int32)) rfl ?_
  refine o_idiv G12 d1_16 (pc' := 17) rfl (by decide) (v := (0 : Int32)) (by decide) ?_
  refine o_istore G12 d1_17 (pc' := 19) rfl (l' := #[.val (.ref r0), .val (.ref r1), .val (.int (3 : Int32)), .val (.int (24 : Int32)), .val (.int (0 : Int32)), .val (.int (16 : Int32)), .val (.long v9), .second]) rfl ?_
  refine o_iloadN G12 d1_19 (pc' := 20) rfl rfl ?_
  refine o_bipush G12 d1_20 (pc' := 22) rfl (v := (57 : Int32)) rfl ?_
  refine o_irem G12 d1_22 (pc' := 23) rfl (by decide) (v := (24 : Int32)) (by decide) ?_
  refine o_istore G12 d1_23 (pc' := 25) rfl (l' := #[.val (.ref r0), .val (.ref r1), .val (.int (3 : Int32)), .val (.int (24 : Int32)), .val (.int (0 : Int32)), .val (.int (24 : Int32)), .val (.long v9), .second]) rfl ?_
  refine o_iload G12 d1_25 (pc' := 27) rfl rfl ?_
  refine o_aloadN G12 d1_27 (pc' := 28) rfl rfl rfl ?_
  refine o_arraylength G12 A_r0 (v := (3 : Int32)) rfl d1_28 (pc' := 29) rfl ?_
  refine o_icmp_ge G12 d1_29 (by decide) (pcT := 42) (by decide) (pc' := 32) rfl (fun q => absurd (by decide) q) (fun _ => ?_)
  refine o_aloadN G12 d1_32 (pc' := 33) rfl rfl rfl ?_
  refine o_iload G12 d1_33 (pc' := 35) rfl rfl ?_
  refine o_laload G12 A_r0 (i := 0) rfl (by decide) (v := (.long x0)) rfl d1_35 (pc' := 36) rfl ?_
  refine o_iload G12 d1_36 (pc' := 38) rfl rfl ?_
  obtain ⟨v13, e13⟩ : ∃ z, (x0.toUInt64 >>> ((24 : Int32) &&& 0x3f).toInt64.toUInt64).toInt64 = z := ⟨_, rfl⟩
  refine o_lushr G12 d1_38 (pc' := 39) rfl e13 ?_
  refine o_goto G12 d1_39 (by decide) (pc' := 43) rfl ?_
  refine o_lstore G12 d1_43 (pc' := 45) rfl (l' := #[.val (.ref r0), .val (.ref r1), .val (.int (3 : Int32)), .val (.int (24 : Int32)), .val (.int (0 : Int32)), .val (.int (24 : Int32)), .val (.long v13), .second]) rfl ?_
  refine o_iload G12 d1_45 (pc' := 47) rfl rfl ?_
  refine o_bipush G12 d1_47 (pc' := 49) rfl (v := (49 : Int32)) rfl ?_
  refine o_icmp_le G12 d1_49 (by decide) (pcT := 78) (by decide) (pc' := 52) rfl (fun _ => ?_) (fun q => absurd q (by decide))
  refine o_aloadN G12 d1_78 (pc' := 79) rfl rfl rfl ?_
  refine o_aloadN G12 d1_79 (pc' := 80) rfl rfl rfl ?_
  refine o_arraylength G12 A_r1 (v := (24 : Int32)) rfl d1_80 (pc' := 81) rfl ?_
  refine o_iconst G12 d1_81 (pc' := 82) rfl (v := (1 : Int32)) rfl ?_
  refine o_isub G12 d1_82 (pc' := 83) rfl (v := (23 : Int32)) (by decide) ?_
  refine o_iloadN G12 d1_83 (pc' := 84) rfl rfl ?_
  refine o_isub G12 d1_84 (pc' := 85) rfl (v := (20 : Int32)) (by decide) ?_
  refine o_lload G12 d1_85 (pc' := 87) rfl rfl ?_
  obtain ⟨v14, e14⟩ : ∃ z, v13.toInt32 = z := ⟨_, rfl⟩
  refine o_l2i G12 d1_87 (pc' := 88) rfl e14 ?_
  obtain ⟨v15, e15⟩ : ∃ z, v14.toInt8.toInt32 = z := ⟨_, rfl⟩
  refine o_i2b G12 d1_88 (pc' := 89) rfl e15 ?_
  refine o_bastore G12 A_r1 hg1 (i := 20) rfl (by decide) d1_89 (pc' := 90) rfl ?_
  intro T16 h16 G16 W16 A16
  replace A_r0 := A_r0.other W16 hne
  replace K := K.wr W16 (Or.inl (List.mem_of_getElem? (i := 0) rfl))
  replace A_r1 := A16
  refine o_iinc G16 d1_90 (pc' := 93) rfl rfl (w := (1 : Int32)) rfl (v := (4 : Int32)) (by decide) (l' := #[.val (.ref r0), .val (.ref r1), .val (.int (4 : Int32)), .val (.int (24 : Int32)), .val (.int (0 : Int32)), .val (.int (24 : Int32)), .val (.long v13), .second]) rfl ?_
  refine o_goto G16 d1_93 (by decide) (pc' := 2) rfl ?_
  refine o_iloadN G16 d1_2 (pc' := 3) rfl rfl ?_
  refine o_aloadN G16 d1_3 (pc' := 4) rfl rfl rfl ?_
  refine o_arraylength G16 A_r1 (v := (24 : Int32)) rfl d1_4 (pc' := 5) rfl ?_
  refine o_icmp_ge G16 d1_5 (by decide) (pcT := 96) (by decide) (pc' := 8) rfl (fun q => absurd (by decide) q) (fun _ => ?_)
  refine o_bipush G16 d1_8 (pc' := 10) rfl (v := (8 : Int32)) rfl ?_
  refine o_iloadN G16 d1_10 (pc' := 11) rfl rfl ?_
  refine o_imul G16 d1_11 (pc' := 12) rfl (v := (32 : Int32)) (by decide) ?_
  refine o_istoreN G16 d1_12 (pc' := 13) rfl (l' := #[.val (.ref r0), .val (.ref r1), .val (.int (4 : Int32)), .val (.int (32 : Int32)), .val (.int (0 : Int32)), .val (.int (24 : Int32)), .val (.long v13), .second]) rfl ?_
  refine o_iloadN G16 d1_13 (pc' := 14) rfl rfl ?_
  refine o_bipush G16 d1_14 (pc' := 16) rfl (v := (57 : Int32)) rfl ?_
  refine o_idiv G16 d1_16 (pc' := 17) rfl (by decide) (v := (0 : Int32)) (by decide) ?_
  refine o_istore G16 d1_17 (pc' := 19) rfl (l' := #[.val (.ref r0), .val (.ref r1), .val (.int (4 : Int32)), .val (.int (32 : Int32)), .val (.int (0 : Int32)), .val (.int (24 : Int32)), .val (.long v13), .second]) rfl ?_
  refine o_iloadN G16 d1_19 (pc' := 20) rfl rfl ?_
  refine o_bipush G16 d1_20 (pc' := 22) rfl (v := (57 : Int32)) rfl ?_
  refine o_irem G16 d1_22 (pc' := 23) rfl (by decide) (v := (32 : Int32)) (by decide) ?_
  refine o_istore G16 d1_23 (pc' := 25) rfl (l' := #[.val (.ref r0), .val (.ref r1), .val (.int (4 : Int32)), .val (.int (32 : Int32)), .val (.int (0 : Int32)), .val (.int (32 : Int32)), .val (.long v13), .second]) rfl ?_
  refine o_iload G16 d1_25 (pc' := 27) rfl rfl ?_
  refine o_aloadN G16 d1_27 (pc' := 28) rfl rfl rfl ?_
  refine o_arraylength G16 A_r0 (v := (3 : Int32)) rfl d1_28 (pc' := 29) rfl ?_
  refine o_icmp_ge G16 d1_29 (by decide) (pcT := 42) (by decide) (pc' := 32) rfl (fun q => absurd (by decide) q) (fun _ => ?_)
  refine o_aloadN G16 d1_32 (pc' := 33) rfl rfl rfl ?_
  refine o_iload G16 d1_33 (pc' := 35) rfl rfl ?_
  refine o_laload G16 A_r0 (i := 0) rfl (by decide) (v := (.long x0)) rfl d1_35 (pc' := 36) rfl ?_
  refine o_iload G16 d1_36 (pc' := 38) rfl rfl ?_
  obtain ⟨v17, e17⟩ : ∃ z, (x0.toUInt64 >>> ((32 : Int32) &&& 0x3f).toInt64.toUInt64).toInt64 = z := ⟨_, rfl⟩
  refine o_lushr G16 d1_38 (pc' := 39) rfl e17 ?_
  refine o_goto G16 d1_39 (by decide) (pc' := 43) rfl ?_
  refine o_lstore G16 d1_43 (pc' := 45) rfl (l' := #[.val (.ref r0), .val (.ref r1), .val (.int (4 : Int32)), .val (.int (32 : Int32)), .val (.int (0 : Int32)), .val (.int (32 : Int32)), .val (.long v17), .second]) rfl ?_
  refine o_iload G16 d1_45 (pc' := 47) rfl rfl ?_
  refine o_bipush G16 d1_47 (pc' := 49) rfl (v := (49 : Int32)) rfl ?_
  refine o_icmp_le G16 d1_49 (by decide) (pcT := 78) (by decide) (pc' := 52) rfl (fun _ => ?_) (fun q => absurd q (by decide))
  refine o_aloadN G16 d1_78 (pc' := 79) rfl rfl rfl ?_
  refine o_aloadN G16 d1_79 (pc' := 80) rfl rfl rfl ?_
  refine o_arraylength G16 A_r1 (v := (24 : Int32)) rfl d1_80 (pc' := 81) rfl ?_
  refine o_iconst G16 d1_81 (pc' := 82) rfl (v := (1 : Int32)) rfl ?_
  refine o_isub G16 d1_82 (pc' := 83) rfl (v := (23 : Int32)) (by decide) ?_
  refine o_iloadN G16 d1_83 (pc' := 84) rfl rfl ?_
  refine o_isub G16 d1_84 (pc' := 85) rfl (v := (19 : Int32)) (by decide) ?_
  refine o_lload G16 d1_85 (pc' := 87) rfl rfl ?_
  obtain ⟨v18, e18⟩ : ∃ z, v17.toInt32 = z := ⟨_, rfl⟩
  refine o_l2i G16 d1_87 (pc' := 88) rfl e18 ?_
  obtain ⟨v19, e19⟩ : ∃ z, v18.toInt8.toInt32 = z := ⟨_, rfl⟩
  refine o_i2b G16 d1_88 (pc' := 89) rfl e19 ?_
  refine o_bastore G16 A_r1 hg1 (i := 19) rfl (by decide) d1_89 (pc' := 90) rfl ?_
  intro T20 h20 G20 W20 A20
  replace A_r0 := A_r0.other W20 hne
  replace K := K.wr W20 (Or.inl (List.mem_of_getElem? (i := 0) rfl))
  replace A_r1 := A20
  refine o_iinc G20 d1_90 (pc' := 93) rfl rfl (w := (1 : Int32)) rfl (v := (5 : Int32)) (by decide) (l' := #[.val (.ref r0), .val (.ref r1), .val (.int (5 : Int32)), .val (.int (32 : Int32)), .val (.int (0 : Int32)), .val (.int (32 : Int32)), .val (.long v17), .second]) rfl ?_
  refine o_goto G20 d1_93 (by decide) (pc' := 2) rfl ?_
  refine o_iloadN G20 d1_2 (pc' := 3) rfl rfl ?_
  refine o_aloadN G20 d1_3 (pc' := 4) rfl rfl rfl ?_
  refine o_arraylength G20 A_r1 (v := (24 : Int32)) rfl d1_4 (pc' := 5) rfl ?_
  refine o_icmp_ge G20 d1_5 (by decide) (pcT := 96) (by decide) (pc' := 8) rfl (fun q => absurd (by decide) q) (fun _ => ?_)
  refine o_bipush G20 d1_8 (pc' := 10) rfl (v := (8 : Int32)) rfl ?_
  refine o_iloadN G20 d1_10 (pc' := 11) rfl rfl ?_
  refine o_imul G20 d1_11 (pc' := 12) rfl (v := (40 : Int32)) (by decide) ?_
  refine o_istoreN G20 d1_12 (pc' := 13) rfl (l' := #[.val (.ref r0), .val (.ref r1), .val (.int (5 : Int32)), .val (.int (40 : Int32)), .val (.int (0 : Int32)), .val (.int (32 : Int32)), .val (.long v17), .second]) rfl ?_
  refine o_iloadN G20 d1_13 (pc' := 14) rfl rfl ?_
  refine o_bipush G20 d1_14 (pc' := 16) rfl (v := (57 : Int32)) rfl ?_
  refine o_idiv G20 d1_16 (pc' := 17) rfl (by decide) (v := (0 : Int32)) (by decide) ?_
  refine o_istore G20 d1_17 (pc' := 19) rfl (l' := #[.val (.ref r0), .val (.ref r1), .val (.int (5 : Int32)), .val (.int (40 : Int32)), .val (.int (0 : Int32)), .val (.int (32 : Int32)), .val (.long v17), .second]) rfl ?_
  refine o_iloadN G20 d1_19 (pc' := 20) rfl rfl ?_
  refine o_bipush G20 d1_20 (pc' := 22) rfl (v := (57 : Int32)) rfl ?_
  refine o_irem G20 d1_22 (pc' := 23) rfl (by decide) (v := (40 : Int32)) (by decide) ?_
  refine o_istore G20 d1_23 (pc' := 25) rfl (l' := #[.val (.ref r0), .val (.ref r1), .val (.int (5 : Int32)), .val (.int (40 : Int32)), .val (.int (0 : Int32)), .val (.int (40 : Int32)), .val (.long v17), .second]) rfl ?_
  refine o_iload G20 d1_25 (pc' := 27) rfl rfl ?_
  refine o_aloadN G20 d1_27 (pc' := 28) rfl rfl rfl ?_
  refine o_arraylength G20 A_r0 (v := (3 : Int32)) rfl d1_28 (pc' := 29) rfl ?_
  refine o_icmp_ge G20 d1_29 (by decide) (pcT := 42) (by decide) (pc' := 32) rfl (fun q => absurd (by decide) q) (fun _ => ?_)
  refine o_aloadN G20 d1_32 (pc' := 33) rfl rfl rfl ?_
  refine o_iload G20 d1_33 (pc' := 35) rfl rfl ?_
  refine o_laload G20 A_r0 (i := 0) rfl (by decide) (v := (.long x0)) rfl d1_35 (pc' := 36) rfl ?_
  refine o_iload G20 d1_36 (pc' := 38) rfl rfl ?_
  obtain ⟨v21, e21⟩ : ∃ z, (x0.toUInt64 >>> ((40 : Int32) &&& 0x3f).toInt64.toUInt64).toInt64 = z := ⟨_, rfl⟩
  refine o_lushr G20 d1_38 (pc' := 39) rfl e21 ?_
  refine o_goto G20 d1_39 (by decide) (pc' := 43) rfl ?_
  refine o_lstore G20 d1_43 (pc' := 45) rfl (l' := #[.val (.ref r0), .val (.ref r1), .val (.int (5 : Int32)), .val (.int (40 : Int32)), .val (.int (0 : Int32)), .val (.int (40 : Int32)), .val (.long v21), .second]) rfl ?_
  refine o_iload G20 d1_45 (pc' := 47) rfl rfl ?_
  refine o_bipush G20 d1_47 (pc' := 49) rfl (v := (49 : Int32)) rfl ?_
  refine o_icmp_le G20 d1_49 (by decide) (pcT := 78) (by decide) (pc' := 52) rfl (fun _ => ?_) (fun q => absurd q (by decide))
  refine o_aloadN G20 d1_78 (pc' := 79) rfl rfl rfl ?_
  refine o_aloadN G20 d1_79 (pc' := 80) rfl rfl rfl ?_
  refine o_arraylength G20 A_r1 (v := (24 : Int32)) rfl d1_80 (pc' := 81) rfl ?_
  refine o_iconst G20 d1_81 (pc' := 82) rfl (v := (1 : Int32)) rfl ?_
  refine o_isub G20 d1_82 (pc' := 83) rfl (v := (23 : Int32)) (by decide) ?_
  refine o_iloadN G20 d1_83 (pc' := 84) rfl rfl ?_
  refine o_isub G20 d1_84 (pc' := 85) rfl (v := (18 : Int32)) (by decide) ?_
  refine o_lload G20 d1_85 (pc' := 87) rfl rfl ?_
  obtain ⟨v22, e22⟩ : ∃ z, v21.toInt32 = z := ⟨_, rfl⟩
  refine o_l2i G20 d1_87 (pc' := 88) rfl e22 ?_
  obtain ⟨v23, e23⟩ : ∃ z, v22.toInt8.toInt32 = z := ⟨_, rfl⟩
  refine o_i2b G20 d1_88 (pc' := 89) rfl e23 ?_
  refine o_bastore G20 A_r1 hg1 (i := 18) rfl (by decide) d1_89 (pc' := 90) rfl ?_
  intro T24 h24 G24 W24 A24
  replace A_r0 := A_r0.other W24 hne
  replace K := K.wr W24 (Or.inl (List.mem_of_getElem? (i := 0) rfl))
  replace A_r1 := A24
  refine o_iinc G24 d1_90 (pc' := 93) rfl rfl (w := (1 : Int32)) rfl (v := (6 : Int32)) (by decide) (l' := #[.val (.ref r0), .val (.ref r1), .val (.int (6 : Int32)), .val (.int (40 : Int32)), .val (.int (0 : Int32)), .val (.int (40 : Int32)), .val (.long v21), .second]) rfl ?_
  refine o_goto G24 d1_93 (by decide) (pc' := 2) rfl ?_
  refine o_iloadN G24 d1_2 (pc' := 3) rfl rfl ?_
  refine o_aloadN G24 d1_3 (pc' := 4) rfl rfl rfl ?_
  refine o_arraylength G24 A_r1 (v := (24 : Int32)) rfl d1_4 (pc' := 5) rfl ?_
  refine o_icmp_ge G24 d1_5 (by decide) (pcT := 96) (by decide) (pc' := 8) rfl (fun q => absurd (by decide) q) (fun _ => ?_)
  refine o_bipush G24 d1_8 (pc' := 10) rfl (v := (8 : Int32)) rfl ?_
  refine o_iloadN G24 d1_10 (pc' := 11) rfl rfl ?_
  refine o_imul G24 d1_11 (pc' := 12) rfl (v := (48 : Int32)) (by decide) ?_
  refine o_istoreN G24 d1_12 (pc' := 13) rfl (l' := #[.val (.ref r0), .val (.ref r1), .val (.int (6 : Int32)), .val (.int (48 : Int32)), .val (.int (0 : Int32)), .val (.int (40 : Int32)), .val (.long v21), .second]) rfl ?_
  refine o_iloadN G24 d1_13 (pc' := 14) rfl rfl ?_
  refine o_bipush G24 d1_14 (pc' := 16) rfl (v := (57 : Int32)) rfl ?_
  refine o_idiv G24 d1_16 (pc' := 17) rfl (by decide) (v := (0 : Int32)) (by decide) ?_
  refine o_istore G24 d1_17 (pc' := 19) rfl (l' := #[.val (.ref r0), .val (.ref r1), .val (.int (6 : Int32)), .val (.int (48 : Int32)), .val (.int (0 : Int32)), .val (.int (40 : Int32)), .val (.long v21), .second]) rfl ?_
  refine o_iloadN G24 d1_19 (pc' := 20) rfl rfl ?_
  refine o_bipush G24 d1_20 (pc' := 22) rfl (v := (57 : Int32)) rfl ?_
  refine o_irem G24 d1_22 (pc' := 23) rfl (by decide) (v := (48 : Int32)) (by decide) ?_
  refine o_istore G24 d1_23 (pc' := 25) rfl (l' := #[.val (.ref r0), .val (.ref r1), .val (.int (6 : Int32)), .val (.int (48 : Int32)), .val (.int (0 : Int32)), .val (.int (48 : Int32)), .val (.long v21), .second]) rfl ?_
  refine o_iload G24 d1_25 (pc' := 27) rfl rfl ?_
  refine o_aloadN G24 d1_27 (pc' := 28) rfl rfl rfl ?_
  refine o_arraylength G24 A_r0 (v := (3 : Int32)) rfl d1_28 (pc' := 29) rfl ?_
  refine o_icmp_ge G24 d1_29 (by decide) (pcT := 42) (by decide) (pc' := 32) rfl (fun q => absurd (by decide) q) (fun _ => ?_)
  refine o_aloadN G24 d1_32 (pc' := 33) rfl rfl rfl ?_
  refine o_iload G24 d1_33 (pc' := 35) rfl rfl ?_
  refine o_laload G24 A_r0 (i := 0) rfl (by decide) (v := (.long x0)) rfl d1_35 (pc' := 36) rfl ?_
  refine o_iload G24 d1_36 (pc' := 38) rfl rfl ?_
  obtain ⟨v25, e25⟩ : ∃ z, (x0.toUInt64 >>> ((48 : Int32) &&& 0x3f).toInt64.toUInt64).toInt64 = z := ⟨_, rfl⟩
  refine o_lushr G24 d1_38 (pc' := 39) rfl e25 ?_
  refine o_goto G24 d1_39 (by decide) (pc' := 43) rfl ?_
  refine o_lstore G24 d1_43 (pc' := 45) rfl (l' := #[.val (.ref r0), .val (.ref r1), .val (.int (6 : Int32)), .val (.int (48 : Int32)), .val (.int (0 : Int32)), .val (.int (48 : Int32)), .val (.long v25), .second]) rfl ?_
  refine o_iload G24 d1_45 (pc' := 47) rfl rfl ?_
  refine o_bipush G24 d1_47 (pc' := 49) rfl (v := (49 : Int32)) rfl ?_
  refine o_icmp_le G24 d1_49 (by decide) (pcT := 78) (by decide) (pc' := 52) rfl (fun _ => ?_) (fun q => absurd q (by decide))
  refine o_aloadN G24 d1_78 (pc' := 79) rfl rfl rfl ?_
  refine o_aloadN G24 d1_79 (pc' := 80) rfl rfl rfl ?_
  refine o_arraylength G24 A_r1 (v := (24 : Int32)) rfl d1_80 (pc' := 81) rfl ?_
  refine o_iconst G24 d1_81 (pc' := 82) rfl (v := (1 : Int32)) rfl ?_
  refine o_isub G24 d1_82 (pc' := 83) rfl (v := (23 : Int32)) (by decide) ?_
  refine o_iloadN G24 d1_83 (pc' := 84) rfl rfl ?_
  refine o_isub G24 d1_84 (pc' := 85) rfl (v := (17 : Int32)) (by decide) ?_
  refine o_lload G24 d1_85 (pc' := 87) rfl rfl ?_
  obtain ⟨v26, e26⟩ : ∃ z, v25.toInt32 = z := ⟨_, rfl⟩
  refine o_l2i G24 d1_87 (pc' := 88) rfl e26 ?_
  obtain ⟨v27, e27⟩ : ∃ z, v26.toInt8.toInt32 = z := ⟨_, rfl⟩
  refine o_i2b G24 d1_88 (pc' := 89) rfl e27 ?_
  refine o_bastore G24 A_r1 hg1 (i := 17) rfl (by decide) d1_89 (pc' := 90) rfl ?_
  intro T28 h28 G28 W28 A28
  replace A_r0 := A_r0.other W28 hne
  replace K := K.wr W28 (Or.inl (List.mem_of_getElem? (i := 0) rfl))
  replace A_r1 := A28
  refine o_iinc G28 d1_90 (pc' := 93) rfl rfl (w := (1 : Int32)) rfl (v := (7 : Int32)) (by decide) (l' := #[.val (.ref r0), .val (.ref r1), .val (.int (7 : Int32)), .val (.int (48 : Int32)), .val (.int (0 : Int32)), .val (.int (48 : Int32)), .val (.long v25), .second]) rfl ?_
  refine o_goto G28 d1_93 (by decide) (pc' := 2) rfl ?_
  refine o_iloadN G28 d1_2 (pc' := 3) rfl rfl ?_
  refine o_aloadN G28 d1_3 (pc' := 4) rfl rfl rfl ?_
  refine o_arraylength G28 A_r1 (v := (24 : Int32)) rfl d1_4 (pc' := 5) rfl ?_
  refine o_icmp_ge G28 d1_5 (by decide) (pcT := 96) (by decide) (pc' := 8) rfl (fun q => absurd (by decide) q) (fun _ => ?_)
  refine o_bipush G28 d1_8 (pc' := 10) rfl (v := (8 : Int32)) rfl ?_
  refine o_iloadN G28 d1_10 (pc' := 11) rfl rfl ?_
  refine o_imul G28 d1_11 (pc' := 12) rfl (v := (56 : Int32)) (by decide) ?_
  refine o_istoreN G28 d1_12 (pc' := 13) rfl (l' := #[.val (.ref r0), .val (.ref r1), .val (.int (7 : Int32)), .val (.int (56 : Int32)), .val (.int (0 : Int32)), .val (.int (48 : Int32)), .val (.long v25), .second]) rfl ?_
  refine o_iloadN G28 d1_13 (pc' := 14) rfl rfl ?_
  refine o_bipush G28 d1_14 (pc' := 16) rfl (v := (57 : Int32)) rfl ?_
  refine o_idiv G28 d1_16 (pc' := 17) rfl (by decide) (v := (0 : Int32)) (by decide) ?_
  refine o_istore G28 d1_17 (pc' := 19) rfl (l' := #[.val (.ref r0), .val (.ref r1), .val (.int (7 : Int32)), .val (.int (56 : Int32)), .val (.int (0 : Int32)), .val (.int (48 : Int32)), .val (.long v25), .second]) rfl ?_
  refine o_iloadN G28 d1_19 (pc' := 20) rfl rfl ?_
  refine o_bipush G28 d1_20 (pc' := 22) rfl (v := (57 : Int32)) rfl ?_
  refine o_irem G28 d1_22 (pc' := 23) rfl (by decide) (v := (56 : Int32)) (by decide) ?_
  refine o_istore G28 d1_23 (pc' := 25) rfl (l' := #[.val (.ref r0), .val (.ref r1), .val (.int (7 : Int32)), .val (.int (56 : Int32)), .val (.int (0 : Int32)), .val (.int (56 : Int32)), .val (.long v25), .second]) rfl ?_
  refine o_iload G28 d1_25 (pc' := 27) rfl rfl ?_
  refine o_aloadN G28 d1_27 (pc' := 28) rfl rfl rfl ?_
  refine o_arraylength G28 A_r0 (v := (3 : Int32)) rfl d1_28 (pc' := 29) rfl ?_
  refine o_icmp_ge G28 d1_29 (by decide) (pcT := 42) (by decide) (pc' := 32) rfl (fun q => absurd (by decide) q) (fun _ => ?_)
  refine o_aloadN G28 d1_32 (pc' := 33) rfl rfl rfl ?_
  refine o_iload G28 d1_33 (pc' := 35) rfl rfl ?_
  refine o_laload G28 A_r0 (i := 0) rfl (by decide) (v := (.long x0)) rfl d1_35 (pc' := 36) rfl ?_
  refine o_iload G28 d1_36 (pc' := 38) rfl rfl ?_
  obtain ⟨v29, e29⟩ : ∃ z, (x0.toUInt64 >>> ((56 : Int32) &&& 0x3f).toInt64.toUInt64).toInt64 = z := ⟨_, rfl⟩
  refine o_lushr G28 d1_38 (pc' := 39) rfl e29 ?_
  refine o_goto G28 d1_39 (by decide) (pc' := 43) rfl ?_
  refine o_lstore G28 d1_43 (pc' := 45) rfl (l' := #[.val (.ref r0), .val (.ref r1), .val (.int (7 : Int32)), .val (.int (56 : Int32)), .val (.int (0 : Int32)), .val (.int (56 : Int32)), .val (.long v29), .second]) rfl ?_
  refine o_iload G28 d1_45 (pc' := 47) rfl rfl ?_
  refine o_bipush G28 d1_47 (pc' := 49) rfl (v := (49 : Int32)) rfl ?_
  refine o_icmp_le G28 d1_49 (by decide) (pcT := 78) (by decide) (pc' := 52) rfl (fun q => absurd (by decide) q) (fun _ => ?_)
  refine o_iload G28 d1_52 (pc' := 54) rfl rfl ?_
  refine o_iconst G28 d1_54 (pc' := 55) rfl (v := (1 : Int32)) rfl ?_
  refine o_iadd G28 d1_55 (pc' := 56) rfl (v := (1 : Int32)) (by decide) ?_
  refine o_aloadN G28 d1_56 (pc' := 57) rfl rfl rfl ?_
  refine o_arraylength G28 A_r0 (v := (3 : Int32)) rfl d1_57 (pc' := 58) rfl ?_
  refine o_icmp_ge G28 d1_58 (by decide) (pcT := 78) (by decide) (pc' := 61) rfl (fun q => absurd (by decide) q) (fun _ => ?_)
  refine o_lload G28 d1_61 (pc' := 63) rfl rfl ?_
  refine o_aloadN G28 d1_63 (pc' := 64) rfl rfl rfl ?_
  refine o_iload G28 d1_64 (pc' := 66) rfl rfl ?_
  refine o_iconst G28 d1_66 (pc' := 67) rfl (v := (1 : Int32)) rfl ?_
  refine o_iadd G28 d1_67 (pc' := 68) rfl (v := (1 : Int32)) (by decide) ?_
  refine o_laload G28 A_r0 (i := 1) rfl (by decide) (v := (.long x1)) rfl d1_68 (pc' := 69) rfl ?_
  refine o_bipush G28 d1_69 (pc' := 71) rfl (v := (57 : Int32)) rfl ?_
  refine o_iload G28 d1_71 (pc' := 73) rfl rfl ?_
  refine o_isub G28 d1_73 (pc' := 74) rfl (v := (1 : Int32)) (by decide) ?_
  obtain ⟨v30, e30⟩ : ∃ z, x1 <<< ((1 : Int32) &&& 0x3f).toInt64 = z := ⟨_, rfl⟩
  refine o_lshl G28 d1_74 (pc' := 75) rfl e30 ?_
  obtain ⟨v31, e31⟩ : ∃ z, v29 ||| v30 = z := ⟨_, rfl⟩
  refine o_lor G28 d1_75 (pc' := 76) rfl e31 ?_
  refine o_lstore G28 d1_76 (pc' := 78) rfl (l' := #[.val (.ref r0), .val (.ref r1), .val (.int (7 : Int32)), .val (.int (56 : Int32)), .val (.int (0 : Int32)), .val (.int (56 : Int32)), .val (.long v31), .second]) rfl ?_
  refine o_aloadN G28 d1_78 (pc' := 79) rfl rfl rfl ?_
  refine o_aloadN G28 d1_79 (pc' := 80) rfl rfl rfl ?_
  refine o_arraylength G28 A_r1 (v := (24 : Int32)) rfl d1_80 (pc' := 81) rfl ?_
  refine o_iconst G28 d1_81 (pc' := 82) rfl (v := (1 : Int32)) rfl ?_
  refine o_isub G28 d1_82 (pc' := 83) rfl (v := (23 : Int32)) (by decide) ?_
  refine o_iloadN G28 d1_83 (pc' := 84) rfl rfl ?_
  refine o_isub G28 d1_84 (pc' := 85) rfl (v := (16 : Int32)) (by decide) ?_
  refine o_lload G28 d1_85 (pc' := 87) rfl rfl ?_
  obtain ⟨v32, e32⟩ : ∃ z, v31.toInt32 = z := ⟨_, rfl⟩
  refine o_l2i G28 d1_87 (pc' := 88) rfl e32 ?_
  obtain ⟨v33, e33⟩ : ∃ z, v32.toInt8.toInt32 = z := ⟨_, rfl⟩
  refine o_i2b G28 d1_88 (pc' := 89) rfl e33 ?_
  refine o_bastore G28 A_r1 hg1 (i := 16) rfl (by decide) d1_89 (pc' := 90) rfl ?_
  intro T34 h34 G34 W34 A34
  replace A_r0 := A_r0.other W34 hne
  replace K := K.wr W34 (Or.inl (List.mem_of_getElem? (i := 0) rfl))
  replace A_r1 := A34
  refine o_iinc G34 d1_90 (pc' := 93) rfl rfl (w := (1 : Int32)) rfl (v := (8 : Int32)) (by decide) (l' := #[.val (.ref r0), .val (.ref r1), .val (.int (8 : Int32)), .val (.int (56 : Int32)), .val (.int (0 : Int32)), .val (.int (56 : Int32)), .val (.long v31), .second]) rfl ?_
  refine o_goto G34 d1_93 (by decide) (pc' := 2) rfl ?_
  refine o_iloadN G34 d1_2 (pc' := 3) rfl rfl ?_
  refine o_aloadN G34 d1_3 (pc' := 4) rfl rfl rfl ?_
  refine o_arraylength G34 A_r1 (v := (24 : Int32)) rfl d1_4 (pc' := 5) rfl ?_
  refine o_icmp_ge G34 d1_5 (by decide) (pcT := 96) (by decide) (pc' := 8) rfl (fun q => absurd (by decide) q) (fun _ => ?_)
  refine o_bipush G34 d1_8 (pc' := 10) rfl (v := (8 : Int32)) rfl ?_
  refine o_iloadN G34 d1_10 (pc' := 11) rfl rfl ?_
  refine o_imul G34 d1_11 (pc' := 12) rfl (v := (64 : Int32)) (by decide) ?_
  refine o_istoreN G34 d1_12 (pc' := 13) rfl (l' := #[.val (.ref r0), .val (.ref r1), .val (.int (8 : Int32)), .val (.int (64 : Int32)), .val (.int (0 : Int32)), .val (.int (56 : Int32)), .val (.long v31), .second]) rfl ?_
  refine o_iloadN G34 d1_13 (pc' := 14) rfl rfl ?_
  refine o_bipush G34 d1_14 (pc' := 16) rfl (v := (57 : Int32)) rfl ?_
  refine o_idiv G34 d1_16 (pc' := 17) rfl (by decide) (v := (1 : Int32)) (by decide) ?_
  refine o_istore G34 d1_17 (pc' := 19) rfl (l' := #[.val (.ref r0), .val (.ref r1), .val (.int (8 : Int32)), .val (.int (64 : Int32)), .val (.int (1 : Int32)), .val (.int (56 : Int32)), .val (.long v31), .second]) rfl ?_
  refine o_iloadN G34 d1_19 (pc' := 20) rfl rfl ?_
  refine o_bipush G34 d1_20 (pc' := 22) rfl (v := (57 : Int32)) rfl ?_
  refine o_irem G34 d1_22 (pc' := 23) rfl (by decide) (v := (7 : Int32)) (by decide) ?_
  refine o_istore G34 d1_23 (pc' := 25) rfl (l' := #[.val (.ref r0), .val (.ref r1), .val (.int (8 : Int32)), .val (.int (64 : Int32)), .val (.int (1 : Int32)), .val (.int (7 : Int32)), .val (.long v31), .second]) rfl ?_
  refine o_iload G34 d1_25 (pc' := 27) rfl rfl ?_
  refine o_aloadN G34 d1_27 (pc' := 28) rfl rfl rfl ?_
  refine o_arraylength G34 A_r0 (v := (3 : Int32)) rfl d1_28 (pc' := 29) rfl ?_
  refine o_icmp_ge G34 d1_29 (by decide) (pcT := 42) (by decide) (pc' := 32) rfl (fun q => absurd (by decide) q) (fun _ => ?_)
  refine o_aloadN G34 d1_32 (pc' := 33) rfl rfl rfl ?_
  refine o_iload G34 d1_33 (pc' := 35) rfl rfl ?_
  refine o_laload G34 A_r0 (i := 1) rfl (by decide) (v := (.long x1)) rfl d1_35 (pc' := 36) rfl ?_
  refine o_iload G34 d1_36 (pc' := 38) rfl rfl ?_
  obtain ⟨v35, e35⟩ : ∃ z, (x1.toUInt64 >>> ((7 : Int32) &&& 0x3f).toInt64.toUInt64).toInt64 = z := ⟨_, rfl⟩
  refine o_lushr G34 d1_38 (pc' := 39) rfl e35 ?_
  refine o_goto G34 d1_39 (by decide) (pc' := 43) rfl ?_
  refine o_lstore G34 d1_43 (pc' := 45) rfl (l' := #[.val (.ref r0), .val (.ref r1), .val (.int (8 : Int32)), .val (.int (64 : Int32)), .val (.int (1 : Int32)), .val (.int (7 : Int32)), .val (.long v35), .second]) rfl ?_
  refine o_iload G34 d1_45 (pc' := 47) rfl rfl ?_
  refine o_bipush G34 d1_47 (pc' := 49) rfl (v := (49 : Int32)) rfl ?_
  refine o_icmp_le G34 d1_49 (by decide) (pcT := 78) (by decide) (pc' := 52) rfl (fun _ => ?_) (fun q => absurd q (by decide))
  refine o_aloadN G34 d1_78 (pc' := 79) rfl rfl rfl ?_
  refine o_aloadN G34 d1_79 (pc' := 80) rfl rfl rfl ?_
  refine o_arraylength G34 A_r1 (v := (24 : Int32)) rfl d1_80 (pc' := 81) rfl ?_
  refine o_iconst G34 d1_81 (pc' := 82) rfl (v := (1 : Int32)) rfl ?_
  refine o_isub G34 d1_82 (pc' := 83) rfl (v := (23 : Int32)) (by decide) ?_
  refine o_iloadN G34 d1_83 (pc' := 84) rfl rfl ?_
  refine o_isub G34 d1_84 (pc' := 85) rfl (v := (15 : Int32)) (by decide) ?_
  refine o_lload G34 d1_85 (pc' := 87) rfl rfl ?_
  obtain ⟨v36, e36⟩ : ∃ z, v35.toInt32 = z := ⟨_, rfl⟩
  refine o_l2i G34 d1_87 (pc' := 88) rfl e36 ?_
  obtain ⟨v37, e37⟩ : ∃ z, v36.toInt8.toInt32 = z := ⟨_, rfl⟩
  refine o_i2b G34 d1_88 (pc' := 89) rfl e37 ?_
  refine o_bastore G34 A_r1 hg1 (i := 15) rfl (by decide) d1_89 (pc' := 90) rfl ?_
  intro T38 h38 G38 W38 A38
  replace A_r0 := A_r0.other W38 hne
  replace K := K.wr W38 (Or.inl (List.mem_of_getElem? (i := 0) rfl))
  replace A_r1 := A38
  refine o_iinc G38 d1_90 (pc' := 93) rfl rfl (w := (1 : Int32)) rfl (v := (9 : Int32)) (by decide) (l' := #[.val (.ref r0), .val (.ref r1), .val (.int (9 : Int32)), .val (.int (64 : Int32)), .val (.int (1 : Int32)), .val (.int (7 : Int32)), .val (.long v35), .second]) rfl ?_
  refine o_goto G38 d1_93 (by decide) (pc' := 2) rfl ?_
  refine o_iloadN G38 d1_2 (pc' := 3) rfl rfl ?_
  refine o_aloadN G38 d1_3 (pc' := 4) rfl rfl rfl ?_
  refine o_arraylength G38 A_r1 (v := (24 : Int32)) rfl d1_4 (pc' := 5) rfl ?_
  refine o_icmp_ge G38 d1_5 (by decide) (pcT := 96) (by decide) (pc' := 8) rfl (fun q => absurd (by decide) q) (fun _ => ?_)
  refine o_bipush G38 d1_8 (pc' := 10) rfl (v := (8 : Int32)) rfl ?_
  refine o_iloadN G38 d1_10 (pc' := 11) rfl rfl ?_
  refine o_imul G38 d1_11 (pc' := 12) rfl (v := (72 : Int32)) (by decide) ?_
  refine o_istoreN G38 d1_12 (pc' := 13) rfl (l' := #[.val (.ref r0), .val (.ref r1), .val (.int (9 : Int32)), .val (.int (72 : Int32)), .val (.int (1 : Int32)), .val (.int (7 : Int32)), .val (.long v35), .second]) rfl ?_
  refine o_iloadN G38 d1_13 (pc' := 14) rfl rfl ?_
  refine o_bipush G38 d1_14 (pc' := 16) rfl (v := (57 : Int32)) rfl ?_
  refine o_idiv G38 d1_16 (pc' := 17) rfl (by decide) (v := (1 : Int32)) (by decide) ?_
  refine o_istore G38 d1_17 (pc' := 19) rfl (l' := #[.val (.ref r0), .val (.ref r1), .val (.int (9 : Int32)), .val (.int (72 : Int32)), .val (.int (1 : Int32)), .val (.int (7 : Int32)), .val (.long v35), .second]) rfl ?_
  refine o_iloadN G38 d1_19 (pc' := 20) rfl rfl ?_
  refine o_bipush G38 d1_20 (pc' := 22) rfl (v := (57 : Int32)) rfl ?_
  refine o_irem G38 d1_22 (pc' := 23) rfl (by decide) (v := (15 : Int32)) (by decide) ?_
  refine o_istore G38 d1_23 (pc' := 25) rfl (l' := #[.val (.ref r0), .val (.ref r1), .val (.int (9 : Int32)), .val (.int (72 : Int32)), .val (.int (1 : Int32)), .val (.int (15 : Int32)), .val (.long v35), .second]) rfl ?_
  refine o_iload G38 d1_25 (pc' := 27) rfl rfl ?_
  refine o_aloadN G38 d1_27 (pc' := 28) rfl rfl rfl ?_
  refine o_arraylength G38 A_r0 (v := (3 : Int32)) rfl d1_28 (pc' := 29) rfl ?_
  refine o_icmp_ge G38 d1_29 (by decide) (pcT := 42) (by decide) (pc' := 32) rfl (fun q => absurd (by decide) q) (fun _ => ?_)
  refine o_aloadN G38 d1_32 (pc' := 33) rfl rfl rfl ?_
  refine o_iload G38 d1_33 (pc' := 35) rfl rfl ?_
  refine o_laload G38 A_r0 (i := 1) rfl (by decide) (v := (.long x1)) rfl d1_35 (pc' := 36) rfl ?_
  refine o_iload G38 d1_36 (pc' := 38) rfl rfl ?_
  obtain ⟨v39, e39⟩ : ∃ z, (x1.toUInt64 >>> ((15 : Int32) &&& 0x3f).toInt64.toUInt64).toInt64 = z := ⟨_, rfl⟩
  refine o_lushr G38 d1_38 (pc' := 39) rfl e39 ?_
  refine o_goto G38 d1_39 (by decide) (pc' := 43) rfl ?_
  refine o_lstore G38 d1_43 (pc' := 45) rfl (l' := #[.val (.ref r0), .val (.ref r1), .val (.int (9 : Int32)), .val (.int (72 : Int32)), .val (.int (1 : Int32)), .val (.int (15 : Int32)), .val (.long v39), .second]) rfl ?_
  refine o_iload G38 d1_45 (pc' := 47) rfl rfl ?_
  refine o_bipush G38 d1_47 (pc' := 49) rfl (v := (49 : Int32)) rfl ?_
  refine o_icmp_le G38 d1_49 (by decide) (pcT := 78) (by decide) (pc' := 52) rfl (fun _ => ?_) (fun q => absurd q (by decide))
  refine o_aloadN G38 d1_78 (pc' := 79) rfl rfl rfl ?_
  refine o_aloadN G38 d1_79 (pc' := 80) rfl rfl rfl ?_
  refine o_arraylength G38 A_r1 (v := (24 : Int32)) rfl d1_80 (pc' := 81) rfl ?_
  refine o_iconst G38 d1_81 (pc' := 82) rfl (v := (1 : Int32)) rfl ?_
  refine o_isub G38 d1_82 (pc' := 83) rfl (v := (23 : Int32)) (by decide) ?_
  refine o_iloadN G38 d1_83 (pc' := 84) rfl rfl ?_
  refine o_isub G38 d1_84 (pc' := 85) rfl (v := (14 : Int32)) (by decide) ?_
  refine o_lload G38 d1_85 (pc' := 87) rfl rfl ?_
  obtain ⟨v40, e40⟩ : ∃ z, v39.toInt32 = z := ⟨_, rfl⟩
  refine o_l2i G38 d1_87 (pc' := 88) rfl e40 ?_
  obtain ⟨v41, e41⟩ : ∃ z, v40.toInt8.toInt32 = z := ⟨_, rfl⟩
  refine o_i2b G38 d1_88 (pc' := 89) rfl e41 ?_
  refine o_bastore G38 A_r1 hg1 (i := 14) rfl (by decide) d1_89 (pc' := 90) rfl ?_
  intro T42 h42 G42 W42 A42
  replace A_r0 := A_r0.other W42 hne
  replace K := K.wr W42 (Or.inl (List.mem_of_getElem? (i := 0) rfl))
  replace A_r1 := A42
  refine o_iinc G42 d1_90 (pc' := 93) rfl rfl (w := (1 : Int32)) rfl (v := (10 : Int32)) (by decide) (l' := #[.val (.ref r0), .val (.ref r1), .val (.int (10 : Int32)), .val (.int (72 : Int32)), .val (.int (1 : Int32)), .val (.int (15 : Int32)), .val (.long v39), .second]) rfl ?_
  refine o_goto G42 d1_93 (by decide) (pc' := 2) rfl ?_
  refine o_iloadN G42 d1_2 (pc' := 3) rfl rfl ?_
  refine o_aloadN G42 d1_3 (pc' := 4) rfl rfl rfl ?_
  refine o_arraylength G42 A_r1 (v := (24 : Int32)) rfl d1_4 (pc' := 5) rfl ?_
  refine o_icmp_ge G42 d1_5 (by decide) (pcT := 96) (by decide) (pc' := 8) rfl (fun q => absurd (by decide) q) (fun _ => ?_)
  refine o_bipush G42 d1_8 (pc' := 10) rfl (v := (8 : Int32)) rfl ?_
  refine o_iloadN G42 d1_10 (pc' := 11) rfl rfl ?_
  refine o_imul G42 d1_11 (pc' := 12) rfl (v := (80 : Int32)) (by decide) ?_
  refine o_istoreN G42 d1_12 (pc' := 13) rfl (l' := #[.val (.ref r0), .val (.ref r1), .val (.int (10 : Int32)), .val (.int (80 : Int32)), .val (.int (1 : Int32)), .val (.int (15 : Int32)), .val (.long v39), .second]) rfl ?_
  refine o_iloadN G42 d1_13 (pc' := 14) rfl rfl ?_
  refine o_bipush G42 d1_14 (pc' := 16) rfl (v := (57 : Int32)) rfl ?_
  refine o_idiv G42 d1_16 (pc' := 17) rfl (by decide) (v := (1 : Int32)) (by decide) ?_
  refine o_istore G42 d1_17 (pc' := 19) rfl (l' := #[.val (.ref r0), .val (.ref r1), .val (.int (10 : Int32)), .val (.int (80 : Int32)), .val (.int (1 : Int32)), .val (.int (15 : Int32)), .val (.long v39), .second]) rfl ?_
  refine o_iloadN G42 d1_19 (pc' := 20) rfl rfl ?_
  refine o_bipush G42 d1_20 (pc' := 22) rfl (v := (57 : Int32)) rfl ?_
  refine o_irem G42 d1_22 (pc' := 23) rfl (by decide) (v := (23 : Int32)) (by decide) ?_
  refine o_istore G42 d1_23 (pc' := 25) rfl (l' := #[.val (.ref r0), .val (.ref r1), .val (.int (10 : Int32)), .val (.int (80 : Int32)), .val (.int (1 : Int32)), .val (.int (23 : Int32)), .val (.long v39), .second]) rfl ?_
  refine o_iload G42 d1_25 (pc' := 27) rfl rfl ?_
  refine o_aloadN G42 d1_27 (pc' := 28) rfl rfl rfl ?_
  refine o_arraylength G42 A_r0 (v := (3 : Int32)) rfl d1_28 (pc' := 29) rfl ?_
  refine o_icmp_ge G42 d1_29 (by decide) (pcT := 42) (by decide) (pc' := 32) rfl (fun q => absurd (by decide) q) (fun _ => ?_)
  refine o_aloadN G42 d1_32 (pc' := 33) rfl rfl rfl ?_
  refine o_iload G42 d1_33 (pc' := 35) rfl rfl ?_
  refine o_laload G42 A_r0 (i := 1) rfl (by decide) (v := (.long x1)) rfl d1_35 (pc' := 36) rfl ?_
  refine o_iload G42 d1_36 (pc' := 38) rfl rfl ?_
  obtain ⟨v43, e43⟩ : ∃ z, (x1.toUInt64 >>> ((23 : Int32) &&& 0x3f).toInt64.toUInt64).toInt64 = z := ⟨_, rfl⟩
  refine o_lushr G42 d1_38 (pc' := 39) rfl e43 ?_
  refine o_goto G42 d1_39 (by decide) (pc' := 43) rfl ?_
  refine o_lstore G42 d1_43 (pc' := 45) rfl (l' := #[.val (.ref r0), .val (.ref r1), .val (.int (10 : Int32)), .val (.int (80 : Int32)), .val (.int (1 : Int32)), .val (.int (23 : Int32)), .val (.long v43), .second]) rfl ?_
  refine o_iload G42 d1_45 (pc' := 47) rfl rfl ?_
  refine o_bipush G42 d1_47 (pc' := 49) rfl (v := (49 : Int32)) rfl ?_
  refine o_icmp_le G42 d1_49 (by decide) (pcT := 78) (by decide) (pc' := 52) rfl (fun _ => ?_) (fun q => absurd q (by decide))
  refine o_aloadN G42 d1_78 (pc' := 79) rfl rfl rfl ?_
  refine o_aloadN G42 d1_79 (pc' := 80) rfl rfl rfl ?_
  refine o_arraylength G42 A_r1 (v := (24 : Int32)) rfl d1_80 (pc' := 81) rfl ?_
  refine o_iconst G42 d1_81 (pc' := 82) rfl (v := (1 : Int32)) rfl ?_
  refine o_isub G42 d1_82 (pc' := 83) rfl (v := (23 : Int32)) (by decide) ?_
  refine o_iloadN G42 d1_83 (pc' := 84) rfl rfl ?_
  refine o_isub G42 d1_84 (pc' := 85) rfl (v := (13 : Int32)) (by decide) ?_
  refine o_lload G42 d1_85 (pc' := 87) rfl rfl ?_
  obtain ⟨v44, e44⟩ : ∃ z, v43.toInt32 = z := ⟨_, rfl⟩
  refine o_l2i G42 d1_87 (pc' := 88) rfl e44 ?_
  obtain ⟨v45, e45⟩ : ∃ z, v44.toInt8.toInt32 = z := ⟨_, rfl⟩
  refine o_i2b G42 d1_88 (pc' := 89) rfl e45 ?_
  refine o_bastore G42 A_r1 hg1 (i := 13) rfl (by decide) d1_89 (pc' := 90) rfl ?_
  intro T46 h46 G46 W46 A46
  replace A_r0 := A_r0.other W46 hne
  replace K := K.wr W46 (Or.inl (List.mem_of_getElem? (i := 0) rfl))
  replace A_r1 := A46
  refine o_iinc G46 d1_90 (pc' := 93) rfl rfl (w := (1 : Int32)) rfl (v := (11 : Int32)) (by decide) (l' := #[.val (.ref r0), .val (.ref r1), .val (.int (11 : Int32)), .val (.int (80 : Int32)), .val (.int (1 : Int32)), .val (.int (23 : Int32)), .val (.long v43), .second]) rfl ?_
  refine o_goto G46 d1_93 (by decide) (pc' := 2) rfl ?_
  refine o_iloadN G46 d1_2 (pc' := 3) rfl rfl ?_
  refine o_aloadN G46 d1_3 (pc' := 4) rfl rfl rfl ?_
  refine o_arraylength G46 A_r1 (v := (24 : Int32)) rfl d1_4 (pc' := 5) rfl ?_
  refine o_icmp_ge G46 d1_5 (by decide) (pcT := 96) (by decide) (pc' := 8) rfl (fun q => absurd (by decide) q) (fun _ => ?_)
  refine o_bipush G46 d1_8 (pc' := 10) rfl (v := (8 : Int32)) rfl ?_
  refine o_iloadN G46 d1_10 (pc' := 11) rfl rfl ?_
  refine o_imul G46 d1_11 (pc' := 12) rfl (v := (88 : Int32)) (by decide) ?_
  refine o_istoreN G46 d1_12 (pc' := 13) rfl (l' := #[.val (.ref r0), .val (.ref r1), .val (.int (11 : Int32)), .val (.int (88 : Int32)), .val (.int (1 : Int32)), .val (.int (23 : Int32)), .val (.long v43), .second]) rfl ?_
  refine o_iloadN G46 d1_13 (pc' := 14) rfl rfl ?_
  refine o_bipush G46 d1_14 (pc' := 16) rfl (v := (57 : Int32)) rfl ?_
  refine o_idiv G46 d1_16 (pc' := 17) rfl (by decide) (v := (1 : Int32)) (by decide) ?_
  refine o_istore G46 d1_17 (pc' := 19) rfl (l' := #[.val (.ref r0), .val (.ref r1), .val (.int (11 : Int32)), .val (.int (88 : Int32)), .val (.int (1 : Int32)), .val (.int (23 : Int32)), .val (.long v43), .second]) rfl ?_
  refine o_iloadN G46 d1_19 (pc' := 20) rfl rfl ?_
  refine o_bipush G46 d1_20 (pc' := 22) rfl (v := (57 : Int32)) rfl ?_
  refine o_irem G46 d1_22 (pc' := 23) rfl (by decide) (v := (31 : Int32)) (by decide) ?_
  refine o_istore G46 d1_23 (pc' := 25) rfl (l' := #[.val (.ref r0), .val (.ref r1), .val (.int (11 : Int32)), .val (.int (88 : Int32)), .val (.int (1 : Int32)), .val (.int (31 : Int32)), .val (.long v43), .second]) rfl ?_
  refine o_iload G46 d1_25 (pc' := 27) rfl rfl ?_
  refine o_aloadN G46 d1_27 (pc' := 28) rfl rfl rfl ?_
  refine o_arraylength G46 A_r0 (v := (3 : Int32)) rfl d1_28 (pc' := 29) rfl ?_
  refine o_icmp_ge G46 d1_29 (by decide) (pcT := 42) (by decide) (pc' := 32) rfl (fun q => absurd (by decide) q) (fun _ => ?_)
  refine o_aloadN G46 d1_32 (pc' := 33) rfl rfl rfl ?_
  refine o_iload G46 d1_33 (pc' := 35) rfl rfl ?_
  refine o_laload G46 A_r0 (i := 1) rfl (by decide) (v := (.long x1)) rfl d1_35 (pc' := 36) rfl ?_
  refine o_iload G46 d1_36 (pc' := 38) rfl rfl ?_
  obtain ⟨v47, e47⟩ : ∃ z, (x1.toUInt64 >>> ((31 : Int32) &&& 0x3f).toInt64.toUInt64).toInt64 = z := ⟨_, rfl⟩
  refine o_lushr G46 d1_38 (pc' := 39) rfl e47 ?_
  refine o_goto G46 d1_39 (by decide) (pc' := 43) rfl ?_
  refine o_lstore G46 d1_43 (pc' := 45) rfl (l' := #[.val (.ref r0), .val (.ref r1), .val (.int (11 : Int32)), .val (.int (88 : Int32)), .val (.int (1 : Int32)), .val (.int (31 : Int32)), .val (.long v47), .second]) rfl ?_
  refine o_iload G46 d1_45 (pc' := 47) rfl rfl ?_
  refine o_bipush G46 d1_47 (pc' := 49) rfl (v := (49 : Int32)) rfl ?_
  refine o_icmp_le G46 d1_49 (by decide) (pcT := 78) (by decide) (pc' := 52) rfl (fun _ => ?_) (fun q => absurd q (by decide))
  refine o_aloadN G46 d1_78 (pc' := 79) rfl rfl rfl ?_
  refine o_aloadN G46 d1_79 (pc' := 80) rfl rfl rfl ?_
  refine o_arraylength G46 A_r1 (v := (24 : Int32)) rfl d1_80 (pc' := 81) rfl ?_
  refine o_iconst G46 d1_81 (pc' := 82) rfl (v := (1 : Int32)) rfl ?_
  refine o_isub G46 d1_82 (pc' := 83) rfl (v := (23 : Int32)) (by decide) ?_
  refine o_iloadN G46 d1_83 (pc' := 84) rfl rfl ?_
  refine o_isub G46 d1_84 (pc' := 85) rfl (v := (12 : Int32)) (by decide) ?_
  refine o_lload G46 d1_85 (pc' := 87) rfl rfl ?_
  obtain ⟨v48, e48⟩ : ∃ z, v47.toInt32 = z := ⟨_, rfl⟩
  refine o_l2i G46 d1_87 (pc' := 88) rfl e48 ?_
  obtain ⟨v49, e49⟩ : ∃ z, v48.toInt8.toInt32 = z := ⟨_, rfl⟩
  refine o_i2b G46 d1_88 (pc' := 89) rfl e49 ?_
  refine o_bastore G46 A_r1 hg1 (i := 12) rfl (by decide) d1_89 (pc' := 90) rfl ?_
  intro T50 h50 G50 W50 A50
  replace A_r0 := A_r0.other W50 hne
  replace K := K.wr W50 (Or.inl (List.mem_of_getElem? (i := 0) rfl))
  replace A_r1 := A50
  refine o_iinc G50 d1_90 (pc' := 93) rfl rfl (w := (1 : Int32)) rfl (v := (12 : Int32)) (by decide) (l' := #[.val (.ref r0), .val (.ref r1), .val (.int (12 : Int32)), .val (.int (88 : Int32)), .val (.int (1 : Int32)), .val (.int (31 : Int32)), .val (.long v47), .second]) rfl ?_
  refine o_goto G50 d1_93 (by decide) (pc' := 2) rfl ?_
  refine o_iloadN G50 d1_2 (pc' := 3) rfl rfl ?_
  refine o_aloadN G50 d1_3 (pc' := 4) rfl rfl rfl ?_
  refine o_arraylength G50 A_r1 (v := (24 : Int32)) rfl d1_4 (pc' := 5) rfl ?_
  refine o_icmp_ge G50 d1_5 (by decide) (pcT := 96) (by decide) (pc' := 8) rfl (fun q => absurd (by decide) q) (fun _ => ?_)
  refine o_bipush G50 d1_8 (pc' := 10) rfl (v := (8 : Int32)) rfl ?_
  refine o_iloadN G50 d1_10 (pc' := 11) rfl rfl ?_
  refine o_imul G50 d1_11 (pc' := 12) rfl (v := (96 : Int32)) (by decide) ?_
  refine o_istoreN G50 d1_12 (pc' := 13) rfl (l' := #[.val (.ref r0), .val (.ref r1), .val (.int (12 : Int32)), .val (.int (96 : Int32)), .val (.int (1 : Int32)), .val (.int (31 : Int32)), .val (.long v47), .second]) rfl ?_
  refine o_iloadN G50 d1_13 (pc' := 14) rfl rfl ?_
  refine o_bipush G50 d1_14 (pc' := 16) rfl (v := (57 : Int32)) rfl ?_
  refine o_idiv G50 d1_16 (pc' := 17) rfl (by decide) (v := (1 : Int32)) (by decide) ?_
  refine o_istore G50 d1_17 (pc' := 19) rfl (l' := #[.val (.ref r0), .val (.ref r1), .val (.int (12 : Int32)), .val (.int (96 : Int32)), .val (.int (1 : Int32)), .val (.int (31 : Int32)), .val (.long v47), .second]) rfl ?_
  refine o_iloadN G50 d1_19 (pc' := 20) rfl rfl ?_
  refine o_bipush G50 d1_20 (pc' := 22) rfl (v := (57 : Int32)) rfl ?_
  refine o_irem G50 d1_22 (pc' := 23) rfl (by decide) (v := (39 : Int32)) (by decide) ?_
  refine o_istore G50 d1_23 (pc' := 25) rfl (l' := #[.val (.ref r0), .val (.ref r1), .val (.int (12 : Int32)), .val (.int (96 : Int32)), .val (.int (1 : Int32)), .val (.int (39 : Int32)), .val (.long v47), .second]) rfl ?_
  refine o_iload G50 d1_25 (pc' := 27) rfl rfl ?_
  refine o_aloadN G50 d1_27 (pc' := 28) rfl rfl rfl ?_
  refine o_arraylength G50 A_r0 (v := (3 : Int32)) rfl d1_28 (pc' := 29) rfl ?_
  refine o_icmp_ge G50 d1_29 (by decide) (pcT := 42) (by decide) (pc' := 32) rfl (fun q => absurd (by decide) q) (fun _ => ?_)
  refine o_aloadN G50 d1_32 (pc' := 33) rfl rfl rfl ?_
  refine o_iload G50 d1_33 (pc' := 35) rfl rfl ?_
  refine o_laload G50 A_r0 (i := 1) rfl (by decide) (v := (.long x1)) rfl d1_35 (pc' := 36) rfl ?_
  refine o_iload G50 d1_36 (pc' := 38) rfl rfl ?_
  obtain ⟨v51, e51⟩ : ∃ z, (x1.toUInt64 >>> ((39 : Int32) &&& 0x3f).toInt64.toUInt64).toInt64 = z := ⟨_, rfl⟩
  refine o_lushr G50 d1_38 (pc' := 39) rfl e51 ?_
  refine o_goto G50 d1_39 (by decide) (pc' := 43) rfl ?_
  refine o_lstore G50 d1_43 (pc' := 45) rfl (l' := #[.val (.ref r0), .val (.ref r1), .val (.int (12 : Int32)), .val (.int (96 : Int32)), .val (.int (1 : Int32)), .val (.int (39 : Int32)), .val (.long v51), .second]) rfl ?_
  refine o_iload G50 d1_45 (pc' := 47) rfl rfl ?_
  refine o_bipush G50 d1_47 (pc' := 49) rfl (v := (49 : Int32)) rfl ?_
  refine o_icmp_le G50 d1_49 (by decide) (pcT := 78) (by decide) (pc' := 52) rfl (fun _ => ?_) (fun q => absurd q (by decide))
  refine o_aloadN G50 d1_78 (pc' := 79) rfl rfl rfl ?_
  refine o_aloadN G50 d1_79 (pc' := 80) rfl rfl rfl ?_
  refine o_arraylength G50 A_r1 (v := (24 : Int32)) rfl d1_80 (pc' := 81) rfl ?_
  refine o_iconst G50 d1_81 (pc' := 82) rfl (v := (1 : Int32)) rfl ?_
  refine o_isub G50 d1_82 (pc' := 83) rfl (v := (23 : Int32)) (by decide) ?_
  refine o_iloadN G50 d1_83 (pc' := 84) rfl rfl ?_
  refine o_isub G50 d1_84 (pc' := 85) rfl (v := (11 : Int32)) (by decide) ?_
  refine o_lload G50 d1_85 (pc' := 87) rfl rfl ?_
  obtain ⟨v52, e52⟩ : ∃ z, v51.toInt32 = z := ⟨_, rfl⟩
  refine o_l2i G50 d1_87 (pc' := 88) rfl e52 ?_
  obtain ⟨v53, e53⟩ : ∃ z, v52.toInt8.toInt32 = z := ⟨_, rfl⟩
  refine o_i2b G50 d1_88 (pc' := 89) rfl e53 ?_
  refine o_bastore G50 A_r1 hg1 (i := 11) rfl (by decide) d1_89 (pc' := 90) rfl ?_
  intro T54 h54 G54 W54 A54
  replace A_r0 := A_r0.other W54 hne
  replace K := K.wr W54 (Or.inl (List.mem_of_getElem? (i := 0) rfl))
  replace A_r1 := A54
  refine o_iinc G54 d1_90 (pc' := 93) rfl rfl (w := (1 : Int32)) rfl (v := (13 : Int32)) (by decide) (l' := #[.val (.ref r0), .val (.ref r1), .val (.int (13 : Int32)), .val (.int (96 : Int32)), .val (.int (1 : Int32)), .val (.int (39 : Int32)), .val (.long v51), .second]) rfl ?_
  refine o_goto G54 d1_93 (by decide) (pc' := 2) rfl ?_
  refine o_iloadN G54 d1_2 (pc' := 3) rfl rfl ?_
  refine o_aloadN G54 d1_3 (pc' := 4) rfl rfl rfl ?_
  refine o_arraylength G54 A_r1 (v := (24 : Int32)) rfl d1_4 (pc' := 5) rfl ?_
  refine o_icmp_ge G54 d1_5 (by decide) (pcT := 96) (by decide) (pc' := 8) rfl (fun q => absurd (by decide) q) (fun _ => ?_)
  refine o_bipush G54 d1_8 (pc' := 10) rfl (v := (8 : Int32)) rfl ?_
  refine o_iloadN G54 d1_10 (pc' := 11) rfl rfl ?_
  refine o_imul G54 d1_11 (pc' := 12) rfl (v := (104 : Int32)) (by decide) ?_
  refine o_istoreN G54 d1_12 (pc' := 13) rfl (l' := #[.val (.ref r0), .val (.ref r1), .val (.int (13 : Int32)), .val (.int (104 : Int32)), .val (.int (1 : Int32)), .val (.int (39 : Int32)), .val (.long v51), .second]) rfl ?_
  refine o_iloadN G54 d1_13 (pc' := 14) rfl rfl ?_
  refine o_bipush G54 d1_14 (pc' := 16) rfl (v := (57 : Int32)) rfl ?_
  refine o_idiv G54 d1_16 (pc' := 17) rfl (by decide) (v := (1 : Int32)) (by decide) ?_
  refine o_istore G54 d1_17 (pc' := 19) rfl (l' := #[.val (.ref r0), .val (.ref r1), .val (.int (13 : Int32)), .val (.int (104 : Int32)), .val (.int (1 : Int32)), .val (.int (39 : Int32)), .val (.long v51), .second]) rfl ?_
  refine o_iloadN G54 d1_19 (pc' := 20) rfl rfl ?_
  refine o_bipush G54 d1_20 (pc' := 22) rfl (v := (57 : Int32)) rfl ?_
  refine o_irem G54 d1_22 (pc' := 23) rfl (by decide) (v := (47 : Int32)) (by decide) ?_
  refine o_istore G54 d1_23 (pc' := 25) rfl (l' := #[.val (.ref r0), .val (.ref r1), .val (.int (13 : Int32)), .val (.int (104 : Int32)), .val (.int (1 : Int32)), .val (.int (47 : Int32)), .val (.long v51), .second]) rfl ?_
  refine o_iload G54 d1_25 (pc' := 27) rfl rfl ?_
  refine o_aloadN G54 d1_27 (pc' := 28) rfl rfl rfl ?_
  refine o_arraylength G54 A_r0 (v := (3 : Int32)) rfl d1_28 (pc' := 29) rfl ?_
  refine o_icmp_ge G54 d1_29 (by decide) (pcT := 42) (by decide) (pc' := 32) rfl (fun q => absurd (by decide) q) (fun _ => ?_)
  refine o_aloadN G54 d1_32 (pc' := 33) rfl rfl rfl ?_
  refine o_iload G54 d1_33 (pc' := 35) rfl rfl ?_
  refine o_laload G54 A_r0 (i := 1) rfl (by decide) (v := (.long x1)) rfl d1_35 (pc' := 36) rfl ?_
  refine o_iload G54 d1_36 (pc' := 38) rfl rfl ?_
  obtain ⟨v55, e55⟩ : ∃ z, (x1.toUInt64 >>> ((47 : Int32) &&& 0x3f).toInt64.toUInt64).toInt64 = z := ⟨_, rfl⟩
  refine o_lushr G54 d1_38 (pc' := 39) rfl e55 ?_
  refine o_goto G54 d1_39 (by decide) (pc' := 43) rfl ?_
  refine o_lstore G54 d1_43 (pc' := 45) rfl (l' := #[.val (.ref r0), .val (.ref r1), .val (.int (13 : Int32)), .val (.int (104 : Int32)), .val (.int (1 : Int32)), .val (.int (47 : Int32)), .val (.long v55), .second]) rfl ?_
  refine o_iload G54 d1_45 (pc' := 47) rfl rfl ?_
  refine o_bipush G54 d1_47 (pc' := 49) rfl (v := (49 : Int32)) rfl ?_
  refine o_icmp_le G54 d1_49 (by decide) (pcT := 78) (by decide) (pc' := 52) rfl (fun _ => ?_) (fun q => absurd q (by decide))
  refine o_aloadN G54 d1_78 (pc' := 79) rfl rfl rfl ?_
  refine o_aloadN G54 d1_79 (pc' := 80) rfl rfl rfl ?_
  refine o_arraylength G54 A_r1 (v := (24 : Int32)) rfl d1_80 (pc' := 81) rfl ?_
  refine o_iconst G54 d1_81 (pc' := 82) rfl (v := (1 : Int32)) rfl ?_
  refine o_isub G54 d1_82 (pc' := 83) rfl (v := (23 : Int32)) (by decide) ?_
  refine o_iloadN G54 d1_83 (pc' := 84) rfl rfl ?_
  refine o_isub G54 d1_84 (pc' := 85) rfl (v := (10 : Int32)) (by decide) ?_
  refine o_lload G54 d1_85 (pc' := 87) rfl rfl ?_
  obtain ⟨v56, e56⟩ : ∃ z, v55.toInt32 = z := ⟨_, rfl⟩
  refine o_l2i G54 d1_87 (pc' := 88) rfl e56 ?_
  obtain ⟨v57, e57⟩ : ∃ z, v56.toInt8.toInt32 = z := ⟨_, rfl⟩
  refine o_i2b G54 d1_88 (pc' := 89) rfl e57 ?_
  refine o_bastore G54 A_r1 hg1 (i := 10) rfl (by decide) d1_89 (pc' := 90) rfl ?_
  intro T58 h58 G58 W58 A58
  replace A_r0 := A_r0.other W58 hne
  replace K := K.wr W58 (Or.inl (List.mem_of_getElem? (i := 0) rfl))
  replace A_r1 := A58
  refine o_iinc G58 d1_90 (pc' := 93) rfl rfl (w := (1 : Int32)) rfl (v := (14 : Int32)) (by decide) (l' := #[.val (.ref r0), .val (.ref r1), .val (.int (14 : Int32)), .val (.int (104 : Int32)), .val (.int (1 : Int32)), .val (.int (47 : Int32)), .val (.long v55), .second]) rfl ?_
  refine o_goto G58 d1_93 (by decide) (pc' := 2) rfl ?_
  refine o_iloadN G58 d1_2 (pc' := 3) rfl rfl ?_
  refine o_aloadN G58 d1_3 (pc' := 4) rfl rfl rfl ?_
  refine o_arraylength G58 A_r1 (v := (24 : Int32)) rfl d1_4 (pc' := 5) rfl ?_
  refine o_icmp_ge G58 d1_5 (by decide) (pcT := 96) (by decide) (pc' := 8) rfl (fun q => absurd (by decide) q) (fun _ => ?_)
  refine o_bipush G58 d1_8 (pc' := 10) rfl (v := (8 : Int32)) rfl ?_
  refine o_iloadN G58 d1_10 (pc' := 11) rfl rfl ?_
  refine o_imul G58 d1_11 (pc' := 12) rfl (v := (112 : Int32)) (by decide) ?_
  refine o_istoreN G58 d1_12 (pc' := 13) rfl (l' := #[.val (.ref r0), .val (.ref r1), .val (.int (14 : Int32)), .val (.int (112 : Int32)), .val (.int (1 : Int32)), .val (.int (47 : Int32)), .val (.long v55), .second]) rfl ?_
  refine o_iloadN G58 d1_13 (pc' := 14) rfl rfl ?_
  refine o_bipush G58 d1_14 (pc' := 16) rfl (v := (57 : Int32)) rfl ?_
  refine o_idiv G58 d1_16 (pc' := 17) rfl (by decide) (v := (1 : Int32)) (by decide) ?_
  refine o_istore G58 d1_17 (pc' := 19) rfl (l' := #[.val (.ref r0), .val (.ref r1), .val (.int (14 : Int32)), .val (.int (112 : Int32)), .val (.int (1 : Int32)), .val (.int (47 : Int32)), .val (.long v55), .second]) rfl ?_
  refine o_iloadN G58 d1_19 (pc' := 20) rfl rfl ?_
  refine o_bipush G58 d1_20 (pc' := 22) rfl (v := (57 : Int32)) rfl ?_
  refine o_irem G58 d1_22 (pc' := 23) rfl (by decide) (v := (55 : Int32)) (by decide) ?_
  refine o_istore G58 d1_23 (pc' := 25) rfl (l' := #[.val (.ref r0), .val (.ref r1), .val (.int (14 : Int32)), .val (.int (112 : Int32)), .val (.int (1 : Int32)), .val (.int (55 : Int32)), .val (.long v55), .second]) rfl ?_
  refine o_iload G58 d1_25 (pc' := 27) rfl rfl ?_
  refine o_aloadN G58 d1_27 (pc' := 28) rfl rfl rfl ?_
  refine o_arraylength G58 A_r0 (v := (3 : Int32)) rfl d1_28 (pc' := 29) rfl ?_
  refine o_icmp_ge G58 d1_29 (by decide) (pcT := 42) (by decide) (pc' := 32) rfl (fun q => absurd (by decide) q) (fun _ => ?_)
  refine o_aloadN G58 d1_32 (pc' := 33) rfl rfl rfl ?_
  refine o_iload G58 d1_33 (pc' := 35) rfl rfl ?_
  refine o_laload G58 A_r0 (i := 1) rfl (by decide) (v := (.long x1)) rfl d1_35 (pc' := 36) rfl ?_
  refine o_iload G58 d1_36 (pc' := 38) rfl rfl ?_
  obtain ⟨v59, e59⟩ : ∃ z, (x1.toUInt64 >>> ((55 : Int32) &&& 0x3f).toInt64.toUInt64).toInt64 = z := ⟨_, rfl⟩
  refine o_lushr G58 d1_38 (pc' := 39) rfl e59 ?_
  refine o_goto G58 d1_39 (by decide) (pc' := 43) rfl ?_
  refine o_lstore G58 d1_43 (pc' := 45) rfl (l' := #[.val (.ref r0), .val (.ref r1), .val (.int (14 : Int32)), .val (.int (112 : Int32)), .val (.int (1 : Int32)), .val (.int (55 : Int32)), .val (.long v59), .second]) rfl ?_
  refine o_iload G58 d1_45 (pc' := 47) rfl rfl ?_
  refine o_bipush G58 d1_47 (pc' := 49) rfl (v := (49 : Int32)) rfl ?_
  refine o_icmp_le G58 d1_49 (by decide) (pcT := 78) (by decide) (pc' := 52) rfl (fun q => absurd (by decide) q) (fun _ => ?_)
  refine o_iload G58 d1_52 (pc' := 54) rfl rfl ?_
  refine o_iconst G58 d1_54 (pc' := 55) rfl (v := (1 : Int32)) rfl ?_
  refine o_iadd G58 d1_55 (pc' := 56) rfl (v := (2 : Int32)) (by decide) ?_
  refine o_aloadN G58 d1_56 (pc' := 57) rfl rfl rfl ?_
  refine o_arraylength G58 A_r0 (v := (3 : Int32)) rfl d1_57 (pc' := 58) rfl ?_
  refine o_icmp_ge G58 d1_58 (by decide) (pcT := 78) (by decide) (pc' := 61) rfl (fun q => absurd (by decide) q) (fun _ => ?_)
  refine o_lload G58 d1_61 (pc' := 63) rfl rfl ?_
  refine o_aloadN G58 d1_63 (pc' := 64) rfl rfl rfl ?_
  refine o_iload G58 d1_64 (pc' := 66) rfl rfl ?_
  refine o_iconst G58 d1_66 (pc' := 67) rfl (v := (1 : Int32)) rfl ?_
  refine o_iadd G58 d1_67 (pc' := 68) rfl (v := (2 : Int32)) (by decide) ?_
  refine o_laload G58 A_r0 (i := 2) rfl (by decide) (v := (.long x2)) rfl d1_68 (pc' := 69) rfl ?_
  refine o_bipush G58 d1_69 (pc' := 71) rfl (v := (57 : Int32)) rfl ?_
  refine o_iload G58 d1_71 (pc' := 73) rfl rfl ?_
  refine o_isub G58 d1_73 (pc' := 74) rfl (v := (2 : Int32)) (by decide) ?_
  obtain ⟨v60, e60⟩ : ∃ z, x2 <<< ((2 : Int32) &&& 0x3f).toInt64 = z := ⟨_, rfl⟩
  refine o_lshl G58 d1_74 (pc' := 75) rfl e60 ?_
  obtain ⟨v61, e61⟩ : ∃ z, v59 ||| v60 = z := ⟨_, rfl⟩
  refine o_lor G58 d1_75 (pc' := 76) rfl e61 ?_
  refine o_lstore G58 d1_76 (pc' := 78) rfl (l' := #[.val (.ref r0), .val (.ref r1), .val (.int (14 : Int32)), .val (.int (112 : Int32)), .val (.int (1 : Int32)), .val (.int (55 : Int32)), .val (.long v61), .second]) rfl ?_
  refine o_aloadN G58 d1_78 (pc' := 79) rfl rfl rfl ?_
  refine o_aloadN G58 d1_79 (pc' := 80) rfl rfl rfl ?_
  refine o_arraylength G58 A_r1 (v := (24 : Int32)) rfl d1_80 (pc' := 81) rfl ?_
  refine o_iconst G58 d1_81 (pc' := 82) rfl (v := (1 : Int32)) rfl ?_
  refine o_isub G58 d1_82 (pc' := 83) rfl (v := (23 : Int32)) (by decide) ?_
  refine o_iloadN G58 d1_83 (pc' := 84) rfl rfl ?_
  refine o_isub G58 d1_84 (pc' := 85) rfl (v := (9 : Int32)) (by decide) ?_
  refine o_lload G58 d1_85 (pc' := 87) rfl rfl ?_
  obtain ⟨v62, e62⟩ : ∃ z, v61.toInt32 = z := ⟨_, rfl⟩
  refine o_l2i G58 d1_87 (pc' := 88) rfl e62 ?_
  obtain ⟨v63, e63⟩ : ∃ z, v62.toInt8.toInt32 = z := ⟨_, rfl⟩
  refine o_i2b G58 d1_88 (pc' := 89) rfl e63 ?_
  refine o_bastore G58 A_r1 hg1 (i := 9) rfl (by decide) d1_89 (pc' := 90) rfl ?_
  intro T64 h64 G64 W64 A64
  replace A_r0 := A_r0.other W64 hne
  replace K := K.wr W64 (Or.inl (List.mem_of_getElem? (i := 0) rfl))
  replace A_r1 := A64
  refine o_iinc G64 d1_90 (pc' := 93) rfl rfl (w := (1 : Int32)) rfl (v := (15 : Int32)) (by decide) (l' := #[.val (.ref r0), .val (.ref r1), .val (.int (15 : Int32)), .val (.int (112 : Int32)), .val (.int (1 : Int32)), .val (.int (55 : Int32)), .val (.long v61), .second]) rfl ?_
  refine o_goto G64 d1_93 (by decide) (pc' := 2) rfl ?_
  refine o_iloadN G64 d1_2 (pc' := 3) rfl rfl ?_
  refine o_aloadN G64 d1_3 (pc' := 4) rfl rfl rfl ?_
  refine o_arraylength G64 A_r1 (v := (24 : Int32)) rfl d1_4 (pc' := 5) rfl ?_
  refine o_icmp_ge G64 d1_5 (by decide) (pcT := 96) (by decide) (pc' := 8) rfl (fun q => absurd (by decide) q) (fun _ => ?_)
  refine o_bipush G64 d1_8 (pc' := 10) rfl (v := (8 : Int32)) rfl ?_
  refine o_iloadN G64 d1_10 (pc' := 11) rfl rfl ?_
  refine o_imul G64 d1_11 (pc' := 12) rfl (v := (120 : Int32)) (by decide) ?_
  refine o_istoreN G64 d1_12 (pc' := 13) rfl (l' := #[.val (.ref r0), .val (.ref r1), .val (.int (15 : Int32)), .val (.int (120 : Int32)), .val (.int (1 : Int32)), .val (.int (55 : Int32)), .val (.long v61), .second]) rfl ?_
  refine o_iloadN G64 d1_13 (pc' := 14) rfl rfl ?_
  refine o_bipush G64 d1_14 (pc' := 16) rfl (v := (57 : Int32)) rfl ?_
  refine o_idiv G64 d1_16 (pc' := 17) rfl (by decide) (v := (2 : Int32)) (by decide) ?_
  refine o_istore G64 d1_17 (pc' := 19) rfl (l' := #[.val (.ref r0), .val (.ref r1), .val (.int (15 : Int32)), .val (.int (120 : Int32)), .val (.int (2 : Int32)), .val (.int (55 : Int32)), .val (.long v61), .second]) rfl ?_
  refine o_iloadN G64 d1_19 (pc' := 20) rfl rfl ?_
  refine o_bipush G64 d1_20 (pc' := 22) rfl (v := (57 : Int32)) rfl ?_
  refine o_irem G64 d1_22 (pc' := 23) rfl (by decide) (v := (6 : Int32)) (by decide) ?_
  refine o_istore G64 d1_23 (pc' := 25) rfl (l' := #[.val (.ref r0), .val (.ref r1), .val (.int (15 : Int32)), .val (.int (120 : Int32)), .val (.int (2 : Int32)), .val (.int (6 : Int32)), .val (.long v61), .second]) rfl ?_
  refine o_iload G64 d1_25 (pc' := 27) rfl rfl ?_
  refine o_aloadN G64 d1_27 (pc' := 28) rfl rfl rfl ?_
  refine o_arraylength G64 A_r0 (v := (3 : Int32)) rfl d1_28 (pc' := 29) rfl ?_
  refine o_icmp_ge G64 d1_29 (by decide) (pcT := 42) (by decide) (pc' := 32) rfl (fun q => absurd (by decide) q) (fun _ => ?_)
  refine o_aloadN G64 d1_32 (pc' := 33) rfl rfl rfl ?_
  refine o_iload G64 d1_33 (pc' := 35) rfl rfl ?_
  refine o_laload G64 A_r0 (i := 2) rfl (by decide) (v := (.long x2)) rfl d1_35 (pc' := 36) rfl ?_
  refine o_iload G64 d1_36 (pc' := 38) rfl rfl ?_
  obtain ⟨v65, e65⟩ : ∃ z, (x2.toUInt64 >>> ((6 : Int32) &&& 0x3f).toInt64.toUInt64).toInt64 = z := ⟨_, rfl⟩
  refine o_lushr G64 d1_38 (pc' := 39) rfl e65 ?_
  refine o_goto G64 d1_39 (by decide) (pc' := 43) rfl ?_
  refine o_lstore G64 d1_43 (pc' := 45) rfl (l' := #[.val (.ref r0), .val (.ref r1), .val (.int (15 : Int32)), .val (.int (120 : Int32)), .val (.int (2 : Int32)), .val (.int (6 : Int32)), .val (.long v65), .second]) rfl ?_
  refine o_iload G64 d1_45 (pc' := 47) rfl rfl ?_
  refine o_bipush G64 d1_47 (pc' := 49) rfl (v := (49 : Int32)) rfl ?_
  refine o_icmp_le G64 d1_49 (by decide) (pcT := 78) (by decide) (pc' := 52) rfl (fun _ => ?_) (fun q => absurd q (by decide))
  refine o_aloadN G64 d1_78 (pc' := 79) rfl rfl rfl ?_
  refine o_aloadN G64 d1_79 (pc' := 80) rfl rfl rfl ?_
  refine o_arraylength G64 A_r1 (v := (24 : Int32)) rfl d1_80 (pc' := 81) rfl ?_
  refine o_iconst G64 d1_81 (pc' := 82) rfl (v := (1 : Int32)) rfl ?_
  refine o_isub G64 d1_82 (pc' := 83) rfl (v := (23 : Int32)) (by decide) ?_
  refine o_iloadN G64 d1_83 (pc' := 84) rfl rfl ?_
  refine o_isub G64 d1_84 (pc' := 85) rfl (v := (8 : Int32)) (by decide) ?_
  refine o_lload G64 d1_85 (pc' := 87) rfl rfl ?_
  obtain ⟨v66, e66⟩ : ∃ z, v65.toInt32 = z := ⟨_, rfl⟩
  refine o_l2i G64 d1_87 (pc' := 88) rfl e66 ?_
  obtain ⟨v67, e67⟩ : ∃ z, v66.toInt8.toInt32 = z := ⟨_, rfl⟩
  refine o_i2b G64 d1_88 (pc' := 89) rfl e67 ?_
  refine o_bastore G64 A_r1 hg1 (i := 8) rfl (by decide) d1_89 (pc' := 90) rfl ?_
  intro T68 h68 G68 W68 A68
  replace A_r0 := A_r0.other W68 hne
  replace K := K.wr W68 (Or.inl (List.mem_of_getElem? (i := 0) rfl))
  replace A_r1 := A68
  refine o_iinc G68 d1_90 (pc' := 93) rfl rfl (w := (1 : Int32)) rfl (v := (16 : Int32)) (by decide) (l' := #[.val (.ref r0), .val (.ref r1), .val (.int (16 : Int32)), .val (.int (120 : Int32)), .val (.int (2 : Int32)), .val (.int (6 : Int32)), .val (.long v65), .second]) rfl ?_
  refine o_goto G68 d1_93 (by decide) (pc' := 2) rfl ?_
  refine o_iloadN G68 d1_2 (pc' := 3) rfl rfl ?_
  refine o_aloadN G68 d1_3 (pc' := 4) rfl rfl rfl ?_
  refine o_arraylength G68 A_r1 (v := (24 : Int32)) rfl d1_4 (pc' := 5) rfl ?_
  refine o_icmp_ge G68 d1_5 (by decide) (pcT := 96) (by decide) (pc' := 8) rfl (fun q => absurd (by decide) q) (fun _ => ?_)
  refine o_bipush G68 d1_8 (pc' := 10) rfl (v := (8 : Int32)) rfl ?_
  refine o_iloadN G68 d1_10 (pc' := 11) rfl rfl ?_
  refine o_imul G68 d1_11 (pc' := 12) rfl (v := (128 : Int32)) (by decide) ?_
  refine o_istoreN G68 d1_12 (pc' := 13) rfl (l' := #[.val (.ref r0), .val (.ref r1), .val (.int (16 : Int32)), .val (.int (128 : Int32)), .val (.int (2 : Int32)), .val (.int (6 : Int32)), .val (.long v65), .second]) rfl ?_
  refine o_iloadN G68 d1_13 (pc' := 14) rfl rfl ?_
  refine o_bipush G68 d1_14 (pc' := 16) rfl (v := (57 : Int32)) rfl ?_
  refine o_idiv G68 d1_16 (pc' := 17) rfl (by decide) (v := (2 : Int32)) (by decide) ?_
  refine o_istore G68 d1_17 (pc' := 19) rfl (l' := #[.val (.ref r0), .val (.ref r1), .val (.int (16 : Int32)), .val (.int (128 : Int32)), .val (.int (2 : Int32)), .val (.int (6 : Int32)), .val (.long v65), .second]) rfl ?_
  refine o_iloadN G68 d1_19 (pc' := 20) rfl rfl ?_
  refine o_bipush G68 d1_20 (pc' := 22) rfl (v := (57 : Int32)) rfl ?_
  refine o_irem G68 d1_22 (pc' := 23) rfl (by decide) (v := (14 : Int32)) (by decide) ?_
  refine o_istore G68 d1_23 (pc' := 25) rfl (l' := #[.val (.ref r0), .val (.ref r1), .val (.int (16 : Int32)), .val (.int (128 : Int32)), .val (.int (2 : Int32)), .val (.int (14 : Int32)), .val (.long v65), .second]) rfl ?_
  refine o_iload G68 d1_25 (pc' := 27) rfl rfl ?_
  refine o_aloadN G68 d1_27 (pc' := 28) rfl rfl rfl ?_
  refine o_arraylength G68 A_r0 (v := (3 : Int32)) rfl d1_28 (pc' := 29) rfl ?_
  refine o_icmp_ge G68 d1_29 (by decide) (pcT := 42) (by decide) (pc' := 32) rfl (fun q => absurd (by decide) q) (fun _ => ?_)
  refine o_aloadN G68 d1_32 (pc' := 33) rfl rfl rfl ?_
  refine o_iload G68 d1_33 (pc' := 35) rfl rfl ?_
  refine o_laload G68 A_r0 (i := 2) rfl (by decide) (v := (.long x2)) rfl d1_35 (pc' := 36) rfl ?_
  refine o_iload G68 d1_36 (pc' := 38) rfl rfl ?_
  obtain ⟨v69, e69⟩ : ∃ z, (x2.toUInt64 >>> ((14 : Int32) &&& 0x3f).toInt64.toUInt64).toInt64 = z := ⟨_, rfl⟩
  refine o_lushr G68 d1_38 (pc' := 39) rfl e69 ?_
  refine o_goto G68 d1_39 (by decide) (pc' := 43) rfl ?_
  refine o_lstore G68 d1_43 (pc' := 45) rfl (l' := #[.val (.ref r0), .val (.ref r1), .val (.int (16 : Int32)), .val (.int (128 : Int32)), .val (.int (2 : Int32)), .val (.int (14 : Int32)), .val (.long v69), .second]) rfl ?_
  refine o_iload G68 d1_45 (pc' := 47) rfl rfl ?_
  refine o_bipush G68 d1_47 (pc' := 49) rfl (v := (49 : Int32)) rfl ?_
  refine o_icmp_le G68 d1_49 (by decide) (pcT := 78) (by decide) (pc' := 52) rfl (fun _ => ?_) (fun q => absurd q (by decide))
  refine o_aloadN G68 d1_78 (pc' := 79) rfl rfl rfl ?_
  refine o_aloadN G68 d1_79 (pc' := 80) rfl rfl rfl ?_
  refine o_arraylength G68 A_r1 (v := (24 : Int32)) rfl d1_80 (pc' := 81) rfl ?_
  refine o_iconst G68 d1_81 (pc' := 82) rfl (v := (1 : Int32)) rfl ?_
  refine o_isub G68 d1_82 (pc' := 83) rfl (v := (23 : Int32)) (by decide) ?_
  refine o_iloadN G68 d1_83 (pc' := 84) rfl rfl ?_
  refine o_isub G68 d1_84 (pc' := 85) rfl (v := (7 : Int32)) (by decide) ?_
  refine o_lload G68 d1_85 (pc' := 87) rfl rfl ?_
  obtain ⟨v70, e70⟩ : ∃ z, v69.toInt32 = z := ⟨_, rfl⟩
  refine o_l2i G68 d1_87 (pc' := 88) rfl e70 ?_
  obtain ⟨v71, e71⟩ : ∃ z, v70.toInt8.toInt32 = z := ⟨_, rfl⟩
  refine o_i2b G68 d1_88 (pc' := 89) rfl e71 ?_
  refine o_bastore G68 A_r1 hg1 (i := 7) rfl (by decide) d1_89 (pc' := 90) rfl ?_
  intro T72 h72 G72 W72 A72
  replace A_r0 := A_r0.other W72 hne
  replace K := K.wr W72 (Or.inl (List.mem_of_getElem? (i := 0) rfl))
  replace A_r1 := A72
  refine o_iinc G72 d1_90 (pc' := 93) rfl rfl (w := (1 : Int32)) rfl (v := (17 : Int32)) (by decide) (l' := #[.val (.ref r0), .val (.ref r1), .val (.int (17 : Int32)), .val (.int (128 : Int32)), .val (.int (2 : Int32)), .val (.int (14 : Int32)), .val (.long v69), .second]) rfl ?_
  refine o_goto G72 d1_93 (by decide) (pc' := 2) rfl ?_
  refine o_iloadN G72 d1_2 (pc' := 3) rfl rfl ?_
  refine o_aloadN G72 d1_3 (pc' := 4) rfl rfl rfl ?_
  refine o_arraylength G72 A_r1 (v := (24 : Int32)) rfl d1_4 (pc' := 5) rfl ?_
  refine o_icmp_ge G72 d1_5 (by decide) (pcT := 96) (by decide) (pc' := 8) rfl (fun q => absurd (by decide) q) (fun _ => ?_)
  refine o_bipush G72 d1_8 (pc' := 10) rfl (v := (8 : Int32)) rfl ?_
  refine o_iloadN G72 d1_10 (pc' := 11) rfl rfl ?_
  refine o_imul G72 d1_11 (pc' := 12) rfl (v := (136 : Int32)) (by decide) ?_
  refine o_istoreN G72 d1_12 (pc' := 13) rfl (l' := #[.val (.ref r0), .val (.ref r1), .val (.int (17 : Int32)), .val (.int (136 : Int32)), .val (.int (2 : Int32)), .val (.int (14 : Int32)), .val (.long v69), .second]) rfl ?_
  refine o_iloadN G72 d1_13 (pc' := 14) rfl rfl ?_
  refine o_bipush G72 d1_14 (pc' := 16) rfl (v := (57 : Int32)) rfl ?_
  refine o_idiv G72 d1_16 (pc' := 17) rfl (by decide) (v := (2 : Int32)) (by decide) ?_
  refine o_istore G72 d1_17 (pc' := 19) rfl (l' := #[.val (.ref r0), .val (.ref r1), .val (.int (17 : Int32)), .val (.int (136 : Int32)), .val (.int (2 : Int32)), .val (.int (14 : Int32)), .val (.long v69), .second]) rfl ?_
  refine o_iloadN G72 d1_19 (pc' := 20) rfl rfl ?_
  refine o_bipush G72 d1_20 (pc' := 22) rfl (v := (57 : Int32)) rfl ?_
  refine o_irem G72 d1_22 (pc' := 23) rfl (by decide) (v := (22 : Int32)) (by decide) ?_
  refine o_istore G72 d1_23 (pc' := 25) rfl (l' := #[.val (.ref r0), .val (.ref r1), .val (.int (17 : Int32)), .val (.int (136 : Int32)), .val (.int (2 : Int32)), .val (.int (22 : Int32)), .val (.long v69), .second]) rfl ?_
  refine o_iload G72 d1_25 (pc' := 27) rfl rfl ?_
  refine o_aloadN G72 d1_27 (pc' := 28) rfl rfl rfl ?_
  refine o_arraylength G72 A_r0 (v := (3 : Int32)) rfl d1_28 (pc' := 29) rfl ?_
  refine o_icmp_ge G72 d1_29 (by decide) (pcT := 42) (by decide) (pc' := 32) rfl (fun q => absurd (by decide) q) (fun _ => ?_)
  refine o_aloadN G72 d1_32 (pc' := 33) rfl rfl rfl ?_
  refine o_iload G72 d1_33 (pc' := 35) rfl rfl ?_
  refine o_laload G72 A_r0 (i := 2) rfl (by decide) (v := (.long x2)) rfl d1_35 (pc' := 36) rfl ?_
  refine o_iload G72 d1_36 (pc' := 38) rfl rfl ?_
  obtain ⟨v73, e73⟩ : ∃ z, (x2.toUInt64 >>> ((22 : Int32) &&& 0x3f).toInt64.toUInt64).toInt64 = z := ⟨_, rfl⟩
  refine o_lushr G72 d1_38 (pc' := 39) rfl e73 ?_
  refine o_goto G72 d1_39 (by decide) (pc' := 43) rfl ?_
  refine o_lstore G72 d1_43 (pc' := 45) rfl (l' := #[.val (.ref r0), .val (.ref r1), .val (.int (17 : Int32)), .val (.int (136 : Int32)), .val (.int (2 : Int32)), .val (.int (22 : Int32)), .val (.long v73), .second]) rfl ?_
  refine o_iload G72 d1_45 (pc' := 47) rfl rfl ?_
  refine o_bipush G72 d1_47 (pc' := 49) rfl (v := (49 : Int32)) rfl ?_
  refine o_icmp_le G72 d1_49 (by decide) (pcT := 78) (by decide) (pc' := 52) rfl (fun _ => ?_) (fun q => absurd q (by decide))
  refine o_aloadN G72 d1_78 (pc' := 79) rfl rfl rfl ?_
  refine o_aloadN G72 d1_79 (pc' := 80) rfl rfl rfl ?_
  refine o_arraylength G72 A_r1 (v := (24 : Int32)) rfl d1_80 (pc' := 81) rfl ?_
  refine o_iconst G72 d1_81 (pc' := 82) rfl (v := (1 : Int32)) rfl ?_
  refine o_isub G72 d1_82 (pc' := 83) rfl (v := (23 : Int32)) (by decide) ?_
  refine o_iloadN G72 d1_83 (pc' := 84) rfl rfl ?_
  refine o_isub G72 d1_84 (pc' := 85) rfl (v := (6 : Int32)) (by decide) ?_
  refine o_lload G72 d1_85 (pc' := 87) rfl rfl ?_
  obtain ⟨v74, e74⟩ : ∃ z, v73.toInt32 = z := ⟨_, rfl⟩
  refine o_l2i G72 d1_87 (pc' := 88) rfl e74 ?_
  obtain ⟨v75, e75⟩ : ∃ z, v74.toInt8.toInt32 = z := ⟨_, rfl⟩
  refine o_i2b G72 d1_88 (pc' := 89) rfl e75 ?_
  refine o_bastore G72 A_r1 hg1 (i := 6) rfl (by decide) d1_89 (pc' := 90) rfl ?_
  intro T76 h76 G76 W76 A76
  replace A_r0 := A_r0.other W76 hne
  replace K := K.wr W76 (Or.inl (List.mem_of_getElem? (i := 0) rfl))
  replace A_r1 := A76
  refine o_iinc G76 d1_90 (pc' := 93) rfl rfl (w := (1 : Int32)) rfl (v := (18 : Int32)) (by decide) (l' := #[.val (.ref r0), .val (.ref r1), .val (.int (18 : Int32)), .val (.int (136 : Int32)), .val (.int (2 : Int32)), .val (.int (22 : Int32)), .val (.long v73), .second]) rfl ?_
  refine o_goto G76 d1_93 (by decide) (pc' := 2) rfl ?_
  refine o_iloadN G76 d1_2 (pc' := 3) rfl rfl ?_
  refine o_aloadN G76 d1_3 (pc' := 4) rfl rfl rfl ?_
  refine o_arraylength G76 A_r1 (v := (24 : Int32)) rfl d1_4 (pc' := 5) rfl ?_
  refine o_icmp_ge G76 d1_5 (by decide) (pcT := 96) (by decide) (pc' := 8) rfl (fun q => absurd (by decide) q) (fun _ => ?_)
  refine o_bipush G76 d1_8 (pc' := 10) rfl (v := (8 : Int32)) rfl ?_
  refine o_iloadN G76 d1_10 (pc' := 11) rfl rfl ?_
  refine o_imul G76 d1_11 (pc' := 12) rfl (v := (144 : Int32)) (by decide) ?_
  refine o_istoreN G76 d1_12 (pc' := 13) rfl (l' := #[.val (.ref r0), .val (.ref r1), .val (.int (18 : Int32)), .val (.int (144 : Int32)), .val (.int (2 : Int32)), .val (.int (22 : Int32)), .val (.long v73), .second]) rfl ?_
  refine o_iloadN G76 d1_13 (pc' := 14) rfl rfl ?_
  refine o_bipush G76 d1_14 (pc' := 16) rfl (v := (57 : Int32)) rfl ?_
  refine o_idiv G76 d1_16 (pc' := 17) rfl (by decide) (v := (2 : Int32)) (by decide) ?_
  refine o_istore G76 d1_17 (pc' := 19) rfl (l' := #[.val (.ref r0), .val (.ref r1), .val (.int (18 : Int32)), .val (.int (144 : Int32)), .val (.int (2 : Int32)), .val (.int (22 : Int32)), .val (.long v73), .second]) rfl ?_
  refine o_iloadN G76 d1_19 (pc' := 20) rfl rfl ?_
  refine o_bipush G76 d1_20 (pc' := 22) rfl (v := (57 : Int32)) rfl ?_
  refine o_irem G76 d1_22 (pc' := 23) rfl (by decide) (v := (30 : Int32)) (by decide) ?_
  refine o_istore G76 d1_23 (pc' := 25) rfl (l' := #[.val (.ref r0), .val (.ref r1), .val (.int (18 : Int32)), .val (.int (144 : Int32)), .val (.int (2 : Int32)), .val (.int (30 : Int32)), .val (.long v73), .second]) rfl ?_
  refine o_iload G76 d1_25 (pc' := 27) rfl rfl ?_
  refine o_aloadN G76 d1_27 (pc' := 28) rfl rfl rfl ?_
  refine o_arraylength G76 A_r0 (v := (3 : Int32)) rfl d1_28 (pc' := 29) rfl ?_
  refine o_icmp_ge G76 d1_29 (by decide) (pcT := 42) (by decide) (pc' := 32) rfl (fun q => absurd (by decide) q) (fun _ => ?_)
  refine o_aloadN G76 d1_32 (pc' := 33) rfl rfl rfl ?_
  refine o_iload G76 d1_33 (pc' := 35) rfl rfl ?_
  refine o_laload G76 A_r0 (i := 2) rfl (by decide) (v := (.long x2)) rfl d1_35 (pc' := 36) rfl ?_
  refine o_iload G76 d1_36 (pc' := 38) rfl rfl ?_
  obtain ⟨v77, e77⟩ : ∃ z, (x2.toUInt64 >>> ((30 : Int32) &&& 0x3f).toInt64.toUInt64).toInt64 = z := ⟨_, rfl⟩
  refine o_lushr G76 d1_38 (pc' := 39) rfl e77 ?_
  refine o_goto G76 d1_39 (by decide) (pc' := 43) rfl ?_
  refine o_lstore G76 d1_43 (pc' := 45) rfl (l' := #[.val (.ref r0), .val (.ref r1), .val (.int (18 : Int32)), .val (.int (144 : Int32)), .val (.int (2 : Int32)), .val (.int (30 : Int32)), .val (.long v77), .second]) rfl ?_
  refine o_iload G76 d1_45 (pc' := 47) rfl rfl ?_
  refine o_bipush G76 d1_47 (pc' := 49) rfl (v := (49 : Int32)) rfl ?_
  refine o_icmp_le G76 d1_49 (by decide) (pcT := 78) (by decide) (pc' := 52) rfl (fun _ => ?_) (fun q => absurd q (by decide))
  refine o_aloadN G76 d1_78 (pc' := 79) rfl rfl rfl ?_
  refine o_aloadN G76 d1_79 (pc' := 80) rfl rfl rfl ?_
  refine o_arraylength G76 A_r1 (v := (24 : Int32)) rfl d1_80 (pc' := 81) rfl ?_
  refine o_iconst G76 d1_81 (pc' := 82) rfl (v := (1 : Int32)) rfl ?_
  refine o_isub G76 d1_82 (pc' := 83) rfl (v := (23 : Int32)) (by decide) ?_
  refine o_iloadN G76 d1_83 (pc' := 84) rfl rfl ?_
  refine o_isub G76 d1_84 (pc' := 85) rfl (v := (5 : Int32)) (by decide) ?_
  refine o_lload G76 d1_85 (pc' := 87) rfl rfl ?_
  obtain ⟨v78, e78⟩ : ∃ z, v77.toInt32 = z := ⟨_, rfl⟩
  refine o_l2i G76 d1_87 (pc' := 88) rfl e78 ?_
  obtain ⟨v79, e79⟩ : ∃ z, v78.toInt8.toInt32 = z := ⟨_, rfl⟩
  refine o_i2b G76 d1_88 (pc' := 89) rfl e79 ?_
  refine o_bastore G76 A_r1 hg1 (i := 5) rfl (by decide) d1_89 (pc' := 90) rfl ?_
  intro T80 h80 G80 W80 A80
  replace A_r0 := A_r0.other W80 hne
  replace K := K.wr W80 (Or.inl (List.mem_of_getElem? (i := 0) rfl))
  replace A_r1 := A80
  refine o_iinc G80 d1_90 (pc' := 93) rfl rfl (w := (1 : Int32)) rfl (v := (19 : Int32)) (by decide) (l' := #[.val (.ref r0), .val (.ref r1), .val (.int (19 : Int32)), .val (.int (144 : Int32)), .val (.int (2 : Int32)), .val (.int (30 : Int32)), .val (.long v77), .second]) rfl ?_
  refine o_goto G80 d1_93 (by decide) (pc' := 2) rfl ?_
  refine o_iloadN G80 d1_2 (pc' := 3) rfl rfl ?_
  refine o_aloadN G80 d1_3 (pc' := 4) rfl rfl rfl ?_
  refine o_arraylength G80 A_r1 (v := (24 : Int32)) rfl d1_4 (pc' := 5) rfl ?_
  refine o_icmp_ge G80 d1_5 (by decide) (pcT := 96) (by decide) (pc' := 8) rfl (fun q => absurd (by decide) q) (fun _ => ?_)
  refine o_bipush G80 d1_8 (pc' := 10) rfl (v := (8 : Int32)) rfl ?_
  refine o_iloadN G80 d1_10 (pc' := 11) rfl rfl ?_
  refine o_imul G80 d1_11 (pc' := 12) rfl (v := (152 : Int32)) (by decide) ?_
  refine o_istoreN G80 d1_12 (pc' := 13) rfl (l' := #[.val (.ref r0), .val (.ref r1), .val (.int (19 : Int32)), .val (.int (152 : Int32)), .val (.int (2 : Int32)), .val (.int (30 : Int32)), .val (.long v77), .second]) rfl ?_
  refine o_iloadN G80 d1_13 (pc' := 14) rfl rfl ?_
  refine o_bipush G80 d1_14 (pc' := 16) rfl (v := (57 : Int32)) rfl ?_
  refine o_idiv G80 d1_16 (pc' := 17) rfl (by decide) (v := (2 : Int32)) (by decide) ?_
  refine o_istore G80 d1_17 (pc' := 19) rfl (l' := #[.val (.ref r0), .val (.ref r1), .val (.int (19 : Int32)), .val (.int (152 : Int32)), .val (.int (2 : Int32)), .val (.int (30 : Int32)), .val (.long v77), .second]) rfl ?_
  refine o_iloadN G80 d1_19 (pc' := 20) rfl rfl ?_
  refine o_bipush G80 d1_20 (pc' := 22) rfl (v := (57 : Int32)) rfl ?_
  refine o_irem G80 d1_22 (pc' := 23) rfl (by decide) (v := (38 : Int32)) (by decide) ?_
  refine o_istore G80 d1_23 (pc' := 25) rfl (l' := #[.val (.ref r0), .val (.ref r1), .val (.int (19 : Int32)), .val (.int (152 : Int32)), .val (.int (2 : Int32)), .val (.int (38 : Int32)), .val (.long v77), .second]) rfl ?_
  refine o_iload G80 d1_25 (pc' := 27) rfl rfl ?_
  refine o_aloadN G80 d1_27 (pc' := 28) rfl rfl rfl ?_
  refine o_arraylength G80 A_r0 (v := (3 : Int32)) rfl d1_28 (pc' := 29) rfl ?_
  refine o_icmp_ge G80 d1_29 (by decide) (pcT := 42) (by decide) (pc' := 32) rfl (fun q => absurd (by decide) q) (fun _ => ?_)
  refine o_aloadN G80 d1_32 (pc' := 33) rfl rfl rfl ?_
  refine o_iload G80 d1_33 (pc' := 35) rfl rfl ?_
  refine o_laload G80 A_r0 (i := 2) rfl (by decide) (v := (.long x2)) rfl d1_35 (pc' := 36) rfl ?_
  refine o_iload G80 d1_36 (pc' := 38) rfl rfl ?_
  obtain ⟨v81, e81⟩ : ∃ z, (x2.toUInt64 >>> ((38 : Int32) &&& 0x3f).toInt64.toUInt64).toInt64 = z := ⟨_, rfl⟩
  refine o_lushr G80 d1_38 (pc' := 39) rfl e81 ?_
  refine o_goto G80 d1_39 (by decide) (pc' := 43) rfl ?_
  refine o_lstore G80 d1_43 (pc' := 45) rfl (l' := #[.val (.ref r0), .val (.ref r1), .val (.int (19 : Int32)), .val (.int (152 : Int32)), .val (.int (2 : Int32)), .val (.int (38 : Int32)), .val (.long v81), .second]) rfl ?_
  refine o_iload G80 d1_45 (pc' := 47) rfl rfl ?_
  refine o_bipush G80 d1_47 (pc' := 49) rfl (v := (49 : Int32)) rfl ?_
  refine o_icmp_le G80 d1_49 (by decide) (pcT := 78) (by decide) (pc' := 52) rfl (fun _ => ?_) (fun q => absurd q (by decide))
  refine o_aloadN G80 d1_78 (pc' := 79) rfl rfl rfl ?_
  refine o_aloadN G80 d1_79 (pc' := 80) rfl rfl rfl ?_
  refine o_arraylength G80 A_r1 (v := (24 : Int32)) rfl d1_80 (pc' := 81) rfl ?_
  refine o_iconst G80 d1_81 (pc' := 82) rfl (v := (1 : Int32)) rfl ?_
  refine o_isub G80 d1_82 (pc' := 83) rfl (v := (23 : Int32)) (by decide) ?_
  refine o_iloadN G80 d1_83 (pc' := 84) rfl rfl ?_
  refine o_isub G80 d1_84 (pc' := 85) rfl (v := (4 : Int32)) (by decide) ?_
  refine o_lload G80 d1_85 (pc' := 87) rfl rfl ?_
  obtain ⟨v82, e82⟩ : ∃ z, v81.toInt32 = z := ⟨_, rfl⟩
  refine o_l2i G80 d1_87 (pc' := 88) rfl e82 ?_
  obtain ⟨v83, e83⟩ : ∃ z, v82.toInt8.toInt32 = z := ⟨_, rfl⟩
  refine o_i2b G80 d1_88 (pc' := 89) rfl e83 ?_
  refine o_bastore G80 A_r1 hg1 (i := 4) rfl (by decide) d1_89 (pc' := 90) rfl ?_
  intro T84 h84 G84 W84 A84
  replace A_r0 := A_r0.other W84 hne
  replace K := K.wr W84 (Or.inl (List.mem_of_getElem? (i := 0) rfl))
  replace A_r1 := A84
  refine o_iinc G84 d1_90 (pc' := 93) rfl rfl (w := (1 : Int32)) rfl (v := (20 : Int32)) (by decide) (l' := #[.val (.ref r0), .val (.ref r1), .val (.int (20 : Int32)), .val (.int (152 : Int32)), .val (.int (2 : Int32)), .val (.int (38 : Int32)), .val (.long v81), .second]) rfl ?_
  refine o_goto G84 d1_93 (by decide) (pc' := 2) rfl ?_
  refine o_iloadN G84 d1_2 (pc' := 3) rfl rfl ?_
  refine o_aloadN G84 d1_3 (pc' := 4) rfl rfl rfl ?_
  refine o_arraylength G84 A_r1 (v := (24 : Int32)) rfl d1_4 (pc' := 5) rfl ?_
  refine o_icmp_ge G84 d1_5 (by decide) (pcT := 96) (by decide) (pc' := 8) rfl (fun q => absurd (by decide) q) (fun _ => ?_)
  refine o_bipush G84 d1_8 (pc' := 10) rfl (v := (8 : Int32)) rfl ?_
  refine o_iloadN G84 d1_10 (pc' := 11) rfl rfl ?_
  refine o_imul G84 d1_11 (pc' := 12) rfl (v := (160 : Int32)) (by decide) ?_
  refine o_istoreN G84 d1_12 (pc' := 13) rfl (l' := #[.val (.ref r0), .val (.ref r1), .val (.int (20 : Int32)), .val (.int (160 : Int32)), .val (.int (2 : Int32)), .val (.int (38 : Int32)), .val (.long v81), .second]) rfl ?_
  refine o_iloadN G84 d1_13 (pc' := 14) rfl rfl ?_
  refine o_bipush G84 d1_14 (pc' := 16) rfl (v := (57 : Int32)) rfl ?_
  refine o_idiv G84 d1_16 (pc' := 17) rfl (by decide) (v := (2 : Int32)) (by decide) ?_
  refine o_istore G84 d1_17 (pc' := 19) rfl (l' := #[.val (.ref r0), .val (.ref r1), .val (.int (20 : Int32)), .val (.int (160 : Int32)), .val (.int (2 : Int32)), .val (.int (38 : Int32)), .val (.long v81), .second]) rfl ?_
  refine o_iloadN G84 d1_19 (pc' := 20) rfl rfl ?_
  refine o_bipush G84 d1_20 (pc' := 22) rfl (v := (57 : Int32)) rfl ?_
  refine o_irem G84 d1_22 (pc' := 23) rfl (by decide) (v := (46 : Int32)) (by decide) ?_
  refine o_istore G84 d1_23 (pc' := 25) rfl (l' := #[.val (.ref r0), .val (.ref r1), .val (.int (20 : Int32)), .val (.int (160 : Int32)), .val (.int (2 : Int32)), .val (.int (46 : Int32)), .val (.long v81), .second]) rfl ?_
  refine o_iload G84 d1_25 (pc' := 27) rfl rfl ?_
  refine o_aloadN G84 d1_27 (pc' := 28) rfl rfl rfl ?_
  refine o_arraylength G84 A_r0 (v := (3 : Int32)) rfl d1_28 (pc' := 29) rfl ?_
  refine o_icmp_ge G84 d1_29 (by decide) (pcT := 42) (by decide) (pc' := 32) rfl (fun q => absurd (by decide) q) (fun _ => ?_)
  refine o_aloadN G84 d1_32 (pc' := 33) rfl rfl rfl ?_
  refine o_iload G84 d1_33 (pc' := 35) rfl rfl ?_
  refine o_laload G84 A_r0 (i := 2) rfl (by decide) (v := (.long x2)) rfl d1_35 (pc' := 36) rfl ?_
  refine o_iload G84 d1_36 (pc' := 38) rfl rfl ?_
  obtain ⟨v85, e85⟩ : ∃ z, (x2.toUInt64 >>> ((46 : Int32) &&& 0x3f).toInt64.toUInt64).toInt64 = z := ⟨_, rfl⟩
  refine o_lushr G84 d1_38 (pc' := 39) rfl e85 ?_
  refine o_goto G84 d1_39 (by decide) (pc' := 43) rfl ?_
  refine o_lstore G84 d1_43 (pc' := 45) rfl (l' := #[.val (.ref r0), .val (.ref r1), .val (.int (20 : Int32)), .val (.int (160 : Int32)), .val (.int (2 : Int32)), .val (.int (46 : Int32)), .val (.long v85), .second]) rfl ?_
  refine o_iload G84 d1_45 (pc' := 47) rfl rfl ?_
  refine o_bipush G84 d1_47 (pc' := 49) rfl (v := (49 : Int32)) rfl ?_
  refine o_icmp_le G84 d1_49 (by decide) (pcT := 78) (by decide) (pc' := 52) rfl (fun _ => ?_) (fun q => absurd q (by decide))
  refine o_aloadN G84 d1_78 (pc' := 79) rfl rfl rfl ?_
  refine o_aloadN G84 d1_79 (pc' := 80) rfl rfl rfl ?_
  refine o_arraylength G84 A_r1 (v := (24 : Int32)) rfl d1_80 (pc' := 81) rfl ?_
  refine o_iconst G84 d1_81 (pc' := 82) rfl (v := (1 : Int32)) rfl ?_
  refine o_isub G84 d1_82 (pc' := 83) rfl (v := (23 : Int32)) (by decide) ?_
  refine o_iloadN G84 d1_83 (pc' := 84) rfl rfl ?_
  refine o_isub G84 d1_84 (pc' := 85) rfl (v := (3 : Int32)) (by decide) ?_
  refine o_lload G84 d1_85 (pc' := 87) rfl rfl ?_
  obtain ⟨v86, e86⟩ : ∃ z, v85.toInt32 = z := ⟨_, rfl⟩
  refine o_l2i G84 d1_87 (pc' := 88) rfl e86 ?_
  obtain ⟨v87, e87⟩ : ∃ z, v86.toInt8.toInt32 = z := ⟨_, rfl⟩
  refine o_i2b G84 d1_88 (pc' := 89) rfl e87 ?_
  refine o_bastore G84 A_r1 hg1 (i := 3) rfl (by decide) d1_89 (pc' := 90) rfl ?_
  intro T88 h88 G88 W88 A88
  replace A_r0 := A_r0.other W88 hne
  replace K := K.wr W88 (Or.inl (List.mem_of_getElem? (i := 0) rfl))
  replace A_r1 := A88
  refine o_iinc G88 d1_90 (pc' := 93) rfl rfl (w := (1 : Int32)) rfl (v := (21 : Int32)) (by decide) (l' := #[.val (.ref r0), .val (.ref r1), .val (.int (21 : Int32)), .val (.int (160 : Int32)), .val (.int (2 : Int32)), .val (.int (46 : Int32)), .val (.long v85), .second]) rfl ?_
  refine o_goto G88 d1_93 (by decide) (pc' := 2) rfl ?_
  refine o_iloadN G88 d1_2 (pc' := 3) rfl rfl ?_
  refine o_aloadN G88 d1_3 (pc' := 4) rfl rfl rfl ?_
  refine o_arraylength G88 A_r1 (v := (24 : Int32)) rfl d1_4 (pc' := 5) rfl ?_
  refine o_icmp_ge G88 d1_5 (by decide) (pcT := 96) (by decide) (pc' := 8) rfl (fun q => absurd (by decide) q) (fun _ => ?_)
  refine o_bipush G88 d1_8 (pc' := 10) rfl (v := (8 : Int32)) rfl ?_
  refine o_iloadN G88 d1_10 (pc' := 11) rfl rfl ?_
  refine o_imul G88 d1_11 (pc' := 12) rfl (v := (168 : Int32)) (by decide) ?_
  refine o_istoreN G88 d1_12 (pc' := 13) rfl (l' := #[.val (.ref r0), .val (.ref r1), .val (.int (21 : Int32)), .val (.int (168 : Int32)), .val (.int (2 : Int32)), .val (.int (46 : Int32)), .val (.long v85), .second]) rfl ?_
  refine o_iloadN G88 d1_13 (pc' := 14) rfl rfl ?_
  refine o_bipush G88 d1_14 (pc' := 16) rfl (v := (57 : Int32)) rfl ?_
  refine o_idiv G88 d1_16 (pc' := 17) rfl (by decide) (v := (2 : Int32)) (by decide) ?_
  refine o_istore G88 d1_17 (pc' := 19) rfl (l' := #[.val (.ref r0), .val (.ref r1), .val (.int (21 : Int32)), .val (.int (168 : Int32)), .val (.int (2 : Int32)), .val (.int (46 : Int32)), .val (.long v85), .second]) rfl ?_
  refine o_iloadN G88 d1_19 (pc' := 20) rfl rfl ?_
  refine o_bipush G88 d1_20 (pc' := 22) rfl (v := (57 : Int32)) rfl ?_
  refine o_irem G88 d1_22 (pc' := 23) rfl (by decide) (v := (54 : Int32)) (by decide) ?_
  refine o_istore G88 d1_23 (pc' := 25) rfl (l' := #[.val (.ref r0), .val (.ref r1), .val (.int (21 : Int32)), .val (.int (168 : Int32)), .val (.int (2 : Int32)), .val (.int (54 : Int32)), .val (.long v85), .second]) rfl ?_
  refine o_iload G88 d1_25 (pc' := 27) rfl rfl ?_
  refine o_aloadN G88 d1_27 (pc' := 28) rfl rfl rfl ?_
  refine o_arraylength G88 A_r0 (v := (3 : Int32)) rfl d1_28 (pc' := 29) rfl ?_
  refine o_icmp_ge G88 d1_29 (by decide) (pcT := 42) (by decide) (pc' := 32) rfl (fun q => absurd (by decide) q) (fun _ => ?_)
  refine o_aloadN G88 d1_32 (pc' := 33) rfl rfl rfl ?_
  refine o_iload G88 d1_33 (pc' := 35) rfl rfl ?_
  refine o_laload G88 A_r0 (i := 2) rfl (by decide) (v := (.long x2)) rfl d1_35 (pc' := 36) rfl ?_
  refine o_iload G88 d1_36 (pc' := 38) rfl rfl ?_
  obtain ⟨v89, e89⟩ : ∃ z, (x2.toUInt64 >>> ((54 : Int32) &&& 0x3f).toInt64.toUInt64).toInt64 = z := ⟨_, rfl⟩
  refine o_lushr G88 d1_38 (pc' := 39) rfl e89 ?_
  refine o_goto G88 d1_39 (by decide) (pc' := 43) rfl ?_
  refine o_lstore G88 d1_43 (pc' := 45) rfl (l' := #[.val (.ref r0), .val (.ref r1), .val (.int (21 : Int32)), .val (.int (168 : Int32)), .val (.int (2 : Int32)), .val (.int (54 : Int32)), .val (.long v89), .second]) rfl ?_
  refine o_iload G88 d1_45 (pc' := 47) rfl rfl ?_
  refine o_bipush G88 d1_47 (pc' := 49) rfl (v := (49 : Int32)) rfl ?_
  refine o_icmp_le G88 d1_49 (by decide) (pcT := 78) (by decide) (pc' := 52) rfl (fun q => absurd (by decide) q) (fun _ => ?_)
  refine o_iload G88 d1_52 (pc' := 54) rfl rfl ?_
  refine o_iconst G88 d1_54 (pc' := 55) rfl (v := (1 : Int32)) rfl ?_
  refine o_iadd G88 d1_55 (pc' := 56) rfl (v := (3 : Int32)) (by decide) ?_
  refine o_aloadN G88 d1_56 (pc' := 57) rfl rfl rfl ?_
  refine o_arraylength G88 A_r0 (v := (3 : Int32)) rfl d1_57 (pc' := 58) rfl ?_
  refine o_icmp_ge G88 d1_58 (by decide) (pcT := 78) (by decide) (pc' := 61) rfl (fun _ => ?_) (fun q => absurd q (by decide))
  refine o_aloadN G88 d1_78 (pc' := 79) rfl rfl rfl ?_
  refine o_aloadN G88 d1_79 (pc' := 80) rfl rfl rfl ?_
  refine o_arraylength G88 A_r1 (v := (24 : Int32)) rfl d1_80 (pc' := 81) rfl ?_
  refine o_iconst G88 d1_81 (pc' := 82) rfl (v := (1 : Int32)) rfl ?_
  refine o_isub G88 d1_82 (pc' := 83) rfl (v := (23 : Int32)) (by decide) ?_
  refine o_iloadN G88 d1_83 (pc' := 84) rfl rfl ?_
  refine o_isub G88 d1_84 (pc' := 85) rfl (v := (2 : Int32)) (by decide) ?_
  refine o_lload G88 d1_85 (pc' := 87) rfl rfl ?_
  obtain ⟨v90, e90⟩ : ∃ z, v89.toInt32 = z := ⟨_, rfl⟩
  refine o_l2i G88 d1_87 (pc' := 88) rfl e90 ?_
  obtain ⟨v91, e91⟩ : ∃ z, v90.toInt8.toInt32 = z := ⟨_, rfl⟩
  refine o_i2b G88 d1_88 (pc' := 89) rfl e91 ?_
  refine o_bastore G88 A_r1 hg1 (i := 2) rfl (by decide) d1_89 (pc' := 90) rfl ?_
  intro T92 h92 G92 W92 A92
  replace A_r0 := A_r0.other W92 hne
  replace K := K.wr W92 (Or.inl (List.mem_of_getElem? (i := 0) rfl))
  replace A_r1 := A92
  refine o_iinc G92 d1_90 (pc' := 93) rfl rfl (w := (1 : Int32)) rfl (v := (22 : Int32)) (by decide) (l' := #[.val (.ref r0), .val (.ref r1), .val (.int (22 : Int32)), .val (.int (168 : Int32)), .val (.int (2 : Int32)), .val (.int (54 : Int32)), .val (.long v89), .second]) rfl ?_
  refine o_goto G92 d1_93 (by decide) (pc' := 2) rfl ?_
  refine o_iloadN G92 d1_2 (pc' := 3) rfl rfl ?_
  refine o_aloadN G92 d1_3 (pc' := 4) rfl rfl rfl ?_
  refine o_arraylength G92 A_r1 (v := (24 : Int32)) rfl d1_4 (pc' := 5) rfl ?_
  refine o_icmp_ge G92 d1_5 (by decide) (pcT := 96) (by decide) (pc' := 8) rfl (fun q => absurd (by decide) q) (fun _ => ?_)
  refine o_bipush G92 d1_8 (pc' := 10) rfl (v := (8 : Int32)) rfl ?_
  refine o_iloadN G92 d1_10 (pc' := 11) rfl rfl ?_
  refine o_imul G92 d1_11 (pc' := 12) rfl (v := (176 : Int32)) (by decide) ?_
  refine o_istoreN G92 d1_12 (pc' := 13) rfl (l' := #[.val (.ref r0), .val (.ref r1), .val (.int (22 : Int32)), .val (.int (176 : Int32)), .val (.int (2 : Int32)), .val (.int (54 : Int32)), .val (.long v89), .second]) rfl ?_
  refine o_iloadN G92 d1_13 (pc' := 14) rfl rfl ?_
  refine o_bipush G92 d1_14 (pc' := 16) rfl (v := (57 : Int32)) rfl ?_
  refine o_idiv G92 d1_16 (pc' := 17) rfl (by decide) (v := (3 : Int32)) (by decide) ?_
  refine o_istore G92 d1_17 (pc' := 19) rfl (l' := #[.val (.ref r0), .val (.ref r1), .val (.int (22 : Int32)), .val (.int (176 : Int32)), .val (.int (3 : Int32)), .val (.int (54 : Int32)), .val (.long v89), .second]) rfl ?_
  refine o_iloadN G92 d1_19 (pc' := 20) rfl rfl ?_
  refine o_bipush G92 d1_20 (pc' := 22) rfl (v := (57 : Int32)) rfl ?_
  refine o_irem G92 d1_22 (pc' := 23) rfl (by decide) (v := (5 : Int32)) (by decide) ?_
  refine o_istore G92 d1_23 (pc' := 25) rfl (l' := #[.val (.ref r0), .val (.ref r1), .val (.int (22 : Int32)), .val (.int (176 : Int32)), .val (.int (3 : Int32)), .val (.int (5 : Int32)), .val (.long v89), .second]) rfl ?_
  refine o_iload G92 d1_25 (pc' := 27) rfl rfl ?_
  refine o_aloadN G92 d1_27 (pc' := 28) rfl rfl rfl ?_
  refine o_arraylength G92 A_r0 (v := (3 : Int32)) rfl d1_28 (pc' := 29) rfl ?_
  refine o_icmp_ge G92 d1_29 (by decide) (pcT := 42) (by decide) (pc' := 32) rfl (fun _ => ?_) (fun q => absurd q (by decide))
  refine o_lconst G92 d1_42 (pc' := 43) rfl (v := (0 : Int64)) rfl ?_
  refine o_lstore G92 d1_43 (pc' := 45) rfl (l' := #[.val (.ref r0), .val (.ref r1), .val (.int (22 : Int32)), .val (.int (176 : Int32)), .val (.int (3 : Int32)), .val (.int (5 : Int32)), .val (.long (0 : Int64)), .second]) rfl ?_
  refine o_iload G92 d1_45 (pc' := 47) rfl rfl ?_
  refine o_bipush G92 d1_47 (pc' := 49) rfl (v := (49 : Int32)) rfl ?_
  refine o_icmp_le G92 d1_49 (by decide) (pcT := 78) (by decide) (pc' := 52) rfl (fun _ => ?_) (fun q => absurd q (by decide))
  refine o_aloadN G92 d1_78 (pc' := 79) rfl rfl rfl ?_
  refine o_aloadN G92 d1_79 (pc' := 80) rfl rfl rfl ?_
  refine o_arraylength G92 A_r1 (v := (24 : Int32)) rfl d1_80 (pc' := 81) rfl ?_
  refine o_iconst G92 d1_81 (pc' := 82) rfl (v := (1 : Int32)) rfl ?_
  refine o_isub G92 d1_82 (pc' := 83) rfl (v := (23 : Int32)) (by decide) ?_
  refine o_iloadN G92 d1_83 (pc' := 84) rfl rfl ?_
  refine o_isub G92 d1_84 (pc' := 85) rfl (v := (1 : Int32)) (by decide) ?_
  refine o_lload G92 d1_85 (pc' := 87) rfl rfl ?_
  refine o_l2i G92 d1_87 (pc' := 88) rfl (v := (0 : Int32)) (by decide) ?_
  refine o_i2b G92 d1_88 (pc' := 89) rfl (v := (0 : Int32)) (by decide) ?_
  refine o_bastore G92 A_r1 hg1 (i := 1) rfl (by decide) d1_89 (pc' := 90) rfl ?_
  intro T93 h93 G93 W93 A93
  replace A_r0 := A_r0.other W93 hne
  replace K := K.wr W93 (Or.inl (List.mem_of_getElem? (i := 0) rfl))
  replace A_r1 := A93
  refine o_iinc G93 d1_90 (pc' := 93) rfl rfl (w := (1 : Int32)) rfl (v := (23 : Int32)) (by decide) (l' := #[.val (.ref r0), .val (.ref r1), .val (.int (23 : Int32)), .val (.int (176 : Int32)), .val (.int (3 : Int32)), .val (.int (5 : Int32)), .val (.long (0 : Int64)), .second]) rfl ?_
  refine o_goto G93 d1_93 (by decide) (pc' := 2) rfl ?_
  refine o_iloadN G93 d1_2 (pc' := 3) rfl rfl ?_
  refine o_aloadN G93 d1_3 (pc' := 4) rfl rfl rfl ?_
  refine o_arraylength G93 A_r1 (v := (24 : Int32)) rfl d1_4 (pc' := 5) rfl ?_
  refine o_icmp_ge G93 d1_5 (by decide) (pcT := 96) (by decide) (pc' := 8) rfl (fun q => absurd (by decide) q) (fun _ => ?_)
  refine o_bipush G93 d1_8 (pc' := 10) rfl (v := (8 : Int32)) rfl ?_
  refine o_iloadN G93 d1_10 (pc' := 11) rfl rfl ?_
  refine o_imul G93 d1_11 (pc' := 12) rfl (v := (184 : Int32)) (by decide) ?_
  refine o_istoreN G93 d1_12 (pc' := 13) rfl (l' := #[.val (.ref r0), .val (.ref r1), .val (.int (23 : Int32)), .val (.int (184 : Int32)), .val (.int (3 : Int32)), .val (.int (5 : Int32)), .val (.long (0 : Int64)), .second]) rfl ?_
  refine o_iloadN G93 d1_13 (pc' := 14) rfl rfl ?_
  refine o_bipush G93 d1_14 (pc' := 16) rfl (v := (57 : Int32)) rfl ?_
  refine o_idiv G93 d1_16 (pc' := 17) rfl (by decide) (v := (3 : Int32)) (by decide) ?_
  refine o_istore G93 d1_17 (pc' := 19) rfl (l' := #[.val (.ref r0), .val (.ref r1), .val (.int (23 : Int32)), .val (.int (184 : Int32)), .val (.int (3 : Int32)), .val (.int (5 : Int32)), .val (.long (0 : Int64)), .second]) rfl ?_
  refine o_iloadN G93 d1_19 (pc' := 20) rfl rfl ?_
  refine o_bipush G93 d1_20 (pc' := 22) rfl (v := (57 : Int32)) rfl ?_
  refine o_irem G93 d1_22 (pc' := 23) rfl (by decide) (v := (13 : Int32)) (by decide) ?_
  refine o_istore G93 d1_23 (pc' := 25) rfl (l' := #[.val (.ref r0), .val (.ref r1), .val (.int (23 : Int32)), .val (.int (184 : Int32)), .val (.int (3 : Int32)), .val (.int (13 : Int32)), .val (.long (0 : Int64)), .second]) rfl ?_
  refine o_iload G93 d1_25 (pc' := 27) rfl rfl ?_
  refine o_aloadN G93 d1_27 (pc' := 28) rfl rfl rfl ?_
  refine o_arraylength G93 A_r0 (v := (3 : Int32)) rfl d1_28 (pc' := 29) rfl ?_
  refine o_icmp_ge G93 d1_29 (by decide) (pcT := 42) (by decide) (pc' := 32) rfl (fun _ => ?_) (fun q => absurd q (by decide))
  refine o_lconst G93 d1_42 (pc' := 43) rfl (v := (0 : Int64)) rfl ?_
  refine o_lstore G93 d1_43 (pc' := 45) rfl (l' := #[.val (.ref r0), .val (.ref r1), .val (.int (23 : Int32)), .val (.int (184 : Int32)), .val (.int (3 : Int32)), .val (.int (13 : Int32)), .val (.long (0 : Int64)), .second]) rfl ?_
  refine o_iload G93 d1_45 (pc' := 47) rfl rfl ?_
  refine o_bipush G93 d1_47 (pc' := 49) rfl (v := (49 : Int32)) rfl ?_
  refine o_icmp_le G93 d1_49 (by decide) (pcT := 78) (by decide) (pc' := 52) rfl (fun _ => ?_) (fun q => absurd q (by decide))
  refine o_aloadN G93 d1_78 (pc' := 79) rfl rfl rfl ?_
  refine o_aloadN G93 d1_79 (pc' := 80) rfl rfl rfl ?_
  refine o_arraylength G93 A_r1 (v := (24 : Int32)) rfl d1_80 (pc' := 81) rfl ?_
  refine o_iconst G93 d1_81 (pc' := 82) rfl (v := (1 : Int32)) rfl ?_
  refine o_isub G93 d1_82 (pc' := 83) rfl (v := (23 : Int32)) (by decide) ?_
  refine o_iloadN G93 d1_83 (pc' := 84) rfl rfl ?_
  refine o_isub G93 d1_84 (pc' := 85) rfl (v := (0 : Int32)) (by decide) ?_
  refine o_lload G93 d1_85 (pc' := 87) rfl rfl ?_
  refine o_l2i G93 d1_87 (pc' := 88) rfl (v := (0 : Int32)) (by decide) ?_
  refine o_i2b G93 d1_88 (pc' := 89) rfl (v := (0 : Int32)) (by decide) ?_
  refine o_bastore G93 A_r1 hg1 (i := 0) rfl (by decide) d1_89 (pc' := 90) rfl ?_
  intro T94 h94 G94 W94 A94
  replace A_r0 := A_r0.other W94 hne
  replace K := K.wr W94 (Or.inl (List.mem_of_getElem? (i := 0) rfl))
  replace A_r1 := A94
  refine o_iinc G94 d1_90 (pc' := 93) rfl rfl (w := (1 : Int32)) rfl (v := (24 : Int32)) (by decide) (l' := #[.val (.ref r0), .val (.ref r1), .val (.int (24 : Int32)), .val (.int (184 : Int32)), .val (.int (3 : Int32)), .val (.int (13 : Int32)), .val (.long (0 : Int64)), .second]) rfl ?_
  refine o_goto G94 d1_93 (by decide) (pc' := 2) rfl ?_
  refine o_iloadN G94 d1_2 (pc' := 3) rfl rfl ?_
  refine o_aloadN G94 d1_3 (pc' := 4) rfl rfl rfl ?_
  refine o_arraylength G94 A_r1 (v := (24 : Int32)) rfl d1_4 (pc' := 5) rfl ?_
  refine o_icmp_ge G94 d1_5 (by decide) (pcT := 96) (by decide) (pc' := 8) rfl (fun _ => ?_) (fun q => absurd q (by decide))
  refine o_return G94 d1_96 ⟨rfl, K, A_r1.congr (fun j hj => ?_)⟩ (by decide) (by decide)
  subst e1 e2 e3 e5 e6 e7 e9 e10 e11 e13 e14 e15 e17 e18 e19 e21 e22 e23 e25 e26 e27 e29 e30 e31 e32 e33 e35 e36 e37 e39 e40 e41 e43 e44 e45 e47 e48 e49 e51 e52 e53 e55 e56 e57 e59 e60 e61 e62 e63 e65 e66 e67 e69 e70 e71 e73 e74 e75 e77 e78 e79 e81 e82 e83 e85 e86 e87 e89 e90 e91
  match j, hj with
  | 0, _ => rfl
  | 1, _ => rfl
  | 2, _ => rfl
  | 3, _ => rfl
  | 4, _ => rfl
  | 5, _ => rfl
  | 6, _ => rfl
  | 7, _ => rfl
  | 8, _ => rfl
  | 9, _ => rfl
  | 10, _ => rfl
  | 11, _ => rfl
  | 12, _ => rfl
  | 13, _ => rfl
  | 14, _ => rfl
  | 15, _ => rfl
  | 16, _ => rfl
  | 17, _ => rfl
  | 18, _ => rfl
  | 19, _ => rfl
  | 20, _ => rfl
  | 21, _ => rfl
  | 22, _ => rfl
  | 23, _ => rfl
  | j + 24, hj => omega
theorem own_ne1 {x : Int32} (h : x = 1) : ¬ x = 0 := by subst h; decide
theorem own_m57 (x : Int64) : 0 ≤ (x &&& (144115188075855871 : Int64)).toInt ∧ (x &&& (144115188075855871 : Int64)).toInt < 144115188075855872 := by
  rw [c_maskL x 144115188075855871 57 (by decide) (by decide)]
  omega
theorem own_low (x : Int64) : (x.toBitVec.toNat : Int) % 256 = x.toInt % 256 := by
  show _ = x.toBitVec.toInt % 256
  rw [BitVec.toInt_eq_toNat_cond]
  split <;> omega
theorem own_t8 (x : Int64) : x.toInt32.toInt8.toBitVec = (x.toBitVec.setWidth 8) := by
  rw [Int32.toBitVec_toInt8, Int64.toBitVec_toInt32, BitVec.signExtend_eq_setWidth_of_le _ (by decide), BitVec.signExtend_eq_setWidth_of_le _ (by decide), BitVec.setWidth_setWidth_of_le _ (by decide)]
theorem own_bc {x y : Int64} (h : x.toInt % 256 = y.toInt % 256) : nar .byte x.toInt32.toInt8.toInt32 = y.toInt32.toInt8.toInt32 := by
  show x.toInt32.toInt8.toInt32.toInt8.toInt32 = y.toInt32.toInt8.toInt32
  rw [Int8.toInt8_toInt32]
  have : x.toInt32.toInt8 = y.toInt32.toInt8 := by
    apply Int8.toBitVec_inj.mp
    rw [own_t8, own_t8]
    apply BitVec.eq_of_toNat_eq
    rw [BitVec.toNat_setWidth, BitVec.toNat_setWidth]
    have h1 := own_low x
    have h2 := own_low y
    omega
  rw [this]
theorem own_ush (x : Int64) (q : Int32) (k : Nat) (P : Int) (hP : P = (2 ^ k : Nat)) (hk : q.toBitVec.toNat % 64 = k) (h : 0 ≤ x.toInt) : ((x.toUInt64 >>> (q &&& 0x3f).toInt64.toUInt64).toInt64).toInt = x.toInt / P := by
  have a1 := x.toInt_lt
  subst hP
  rcases Nat.eq_zero_or_pos k with z | z
  · subst z
    have e : (q &&& 0x3f) = 0 := by
      apply Int32.toBitVec_inj.mp
      apply BitVec.eq_of_toNat_eq
      rw [Int32.toBitVec_and, BitVec.toNat_and]
      have : (0x3f : Int32).toBitVec.toNat = 2 ^ 6 - 1 := rfl
      rw [this, Nat.and_two_pow_sub_one_eq_mod]
      exact hk
    rw [e]
    show x.toInt = _
    simp
  · rw [c_lushr x q k hk z, Int.emod_eq_of_lt h (by omega)]
theorem own_usw (x : Int64) (q : Int32) (k : Nat) (P : Int) (hP : P = (2 ^ k : Nat)) (hk : q.toBitVec.toNat % 64 = k) (h0 : 0 < k) : ((x.toUInt64 >>> (q &&& 0x3f).toInt64.toUInt64).toInt64).toInt = (x.toInt % 18446744073709551616) / P := by
  rw [c_lushr x q k hk h0, hP]
/-- u + w * 2^k, where u < 2^k -/
theorem own_or (u w : Int64) (q : Int32) (k : Nat) (P : Int) (hP : P = (2 ^ k : Nat)) (hk : q.toBitVec.toNat % 64 = k) (hk2 : k ≤ 63) (h0 : 0 ≤ u.toInt) (h1 : u.toInt < P) (hd : 18446744073709551616 % P = 0) : ((u ||| (w <<< (q &&& 0x3f).toInt64)).toInt - (u.toInt + w.toInt * P)) % 18446744073709551616 = 0 := by
  have s := c_lshl w q k hk
  rw [← hP] at s
  have hz : (w <<< (q &&& 0x3f).toInt64).toInt % P = 0 := by
    have d1 : (18446744073709551616 : Int) ∣ (w <<< (q &&& 0x3f).toInt64).toInt - w.toInt * P := Int.dvd_of_emod_eq_zero s
    have d2 : P ∣ 18446744073709551616 := Int.dvd_of_emod_eq_zero hd
    have d3 := Int.dvd_trans d2 d1
    have d4 : P ∣ w.toInt * P := Int.dvd_mul_left _ _
    have d5 := Int.dvd_add d3 d4
    rw [Int.sub_add_cancel] at d5
    exact Int.emod_eq_zero_of_dvd d5
  rw [Int64.or_comm]
  have o := c_orL (w <<< (q &&& 0x3f).toInt64) u k hk2 P hP hz h0 h1
  generalize w.toInt * P = z at *
  generalize ((w <<< (q &&& 0x3f).toInt64) ||| u).toInt = y at *
  generalize (w <<< (q &&& 0x3f).toInt64).toInt = t at *
  omega
theorem own_main (a b c : Int64) (ha : 0 ≤ a.toInt ∧ a.toInt < 144115188075855872) (hb : 0 ≤ b.toInt ∧ b.toInt < 144115188075855872) (hc : 0 ≤ c.toInt ∧ c.toInt < 144115188075855872) :
    f_2 (own_tb a b c) 16 (16 : Int32) (a ||| (b <<< ((57 : Int32) &&& 0x3f).toInt64)) = 1 ∧ f_2 (own_tb a b c) 8 (8 : Int32) (((b.toUInt64 >>> ((7 : Int32) &&& 0x3f).toInt64.toUInt64).toInt64) ||| (c <<< ((50 : Int32) &&& 0x3f).toInt64)) = 1 ∧ f_2 (own_tb a b c) 0 (0 : Int32) ((c.toUInt64 >>> ((14 : Int32) &&& 0x3f).toInt64.toUInt64).toInt64) = 1 := by
  have w0 := own_or a b 57 57 144115188075855872 rfl (by decide) (by decide) ha.1 ha.2 (by decide)
  have b7 := own_ush b 7 7 128 rfl (by decide) hb.1
  have w1 := own_or ((b.toUInt64 >>> ((7 : Int32) &&& 0x3f).toInt64.toUInt64).toInt64) c 50 50 1125899906842624 rfl (by decide) (by decide) (by rw [b7]; omega) (by rw [b7]; omega) (by decide)
  rw [b7] at w1
  have w2 := own_ush c 14 14 16384 rfl (by decide) hc.1
  generalize (a ||| (b <<< ((57 : Int32) &&& 0x3f).toInt64)) = W0 at *
  generalize (((b.toUInt64 >>> ((7 : Int32) &&& 0x3f).toInt64.toUInt64).toInt64) ||| (c <<< ((50 : Int32) &&& 0x3f).toInt64)) = W1 at *
  generalize ((c.toUInt64 >>> ((14 : Int32) &&& 0x3f).toInt64.toUInt64).toInt64) = W2 at *
  have l0 := W0.toInt_lt
  have l0' := W0.le_toInt
  have l1 := W1.toInt_lt
  have l1' := W1.le_toInt
  have y0 : own_tb a b c 23 = W0.toInt32.toInt8.toInt32 := by
    refine own_bc ?_
    have o := own_ush a 0 0 1 rfl (by decide) ha.1
    rw [o]
    omega
  have y1 : own_tb a b c 22 = ((W0.toUInt64 >>> ((8 : Int32) &&& 0x3f).toInt64.toUInt64).toInt64).toInt32.toInt8.toInt32 := by
    refine own_bc ?_
    have o := own_ush a 8 8 256 rfl (by decide) ha.1
    have e := own_usw W0 8 8 256 rfl (by decide) (by decide)
    rw [e]
    rw [o]
    omega
  have y2 : own_tb a b c 21 = ((W0.toUInt64 >>> ((16 : Int32) &&& 0x3f).toInt64.toUInt64).toInt64).toInt32.toInt8.toInt32 := by
    refine own_bc ?_
    have o := own_ush a 16 16 65536 rfl (by decide) ha.1
    have e := own_usw W0 16 16 65536 rfl (by decide) (by decide)
    rw [e]
    rw [o]
    omega
  have y3 : own_tb a b c 20 = ((W0.toUInt64 >>> ((24 : Int32) &&& 0x3f).toInt64.toUInt64).toInt64).toInt32.toInt8.toInt32 := by
    refine own_bc ?_
    have o := own_ush a 24 24 16777216 rfl (by decide) ha.1
    have e := own_usw W0 24 24 16777216 rfl (by decide) (by decide)
    rw [e]
    rw [o]
    omega
  have y4 : own_tb a b c 19 = ((W0.toUInt64 >>> ((32 : Int32) &&& 0x3f).toInt64.toUInt64).toInt64).toInt32.toInt8.toInt32 := by
    refine own_bc ?_
    have o := own_ush a 32 32 4294967296 rfl (by decide) ha.1
    have e := own_usw W0 32 32 4294967296 rfl (by decide) (by decide)
    rw [e]
    rw [o]
    omega
  have y5 : own_tb a b c 18 = ((W0.toUInt64 >>> ((40 : Int32) &&& 0x3f).toInt64.toUInt64).toInt64).toInt32.toInt8.toInt32 := by
    refine own_bc ?_
    have o := own_ush a 40 40 1099511627776 rfl (by decide) ha.1
    have e := own_usw W0 40 40 1099511627776 rfl (by decide) (by decide)
    rw [e]
    rw [o]
    omega
  have y6 : own_tb a b c 17 = ((W0.toUInt64 >>> ((48 : Int32) &&& 0x3f).toInt64.toUInt64).toInt64).toInt32.toInt8.toInt32 := by
    refine own_bc ?_
    have o := own_ush a 48 48 281474976710656 rfl (by decide) ha.1
    have e := own_usw W0 48 48 281474976710656 rfl (by decide) (by decide)
    rw [e]
    rw [o]
    omega
  have y7 : own_tb a b c 16 = ((W0.toUInt64 >>> ((56 : Int32) &&& 0x3f).toInt64.toUInt64).toInt64).toInt32.toInt8.toInt32 := by
    refine own_bc ?_
    have s := own_ush a 56 56 72057594037927936 rfl (by decide) ha.1
    have o := own_or ((a.toUInt64 >>> ((56 : Int32) &&& 0x3f).toInt64.toUInt64).toInt64) b 1 1 2 rfl (by decide) (by decide) (by rw [s]; omega) (by rw [s]; omega) (by decide)
    rw [s] at o
    have e := own_usw W0 56 56 72057594037927936 rfl (by decide) (by decide)
    rw [e]
    omega
  have y8 : own_tb a b c 15 = W1.toInt32.toInt8.toInt32 := by
    refine own_bc ?_
    have o := own_ush b 7 7 128 rfl (by decide) hb.1
    rw [o]
    omega
  have y9 : own_tb a b c 14 = ((W1.toUInt64 >>> ((8 : Int32) &&& 0x3f).toInt64.toUInt64).toInt64).toInt32.toInt8.toInt32 := by
    refine own_bc ?_
    have o := own_ush b 15 15 32768 rfl (by decide) hb.1
    have e := own_usw W1 8 8 256 rfl (by decide) (by decide)
    rw [e]
    rw [o]
    omega
  have y10 : own_tb a b c 13 = ((W1.toUInt64 >>> ((16 : Int32) &&& 0x3f).toInt64.toUInt64).toInt64).toInt32.toInt8.toInt32 := by
    refine own_bc ?_
    have o := own_ush b 23 23 8388608 rfl (by decide) hb.1
    have e := own_usw W1 16 16 65536 rfl (by decide) (by decide)
    rw [e]
    rw [o]
    omega
  have y11 : own_tb a b c 12 = ((W1.toUInt64 >>> ((24 : Int32) &&& 0x3f).toInt64.toUInt64).toInt64).toInt32.toInt8.toInt32 := by
    refine own_bc ?_
    have o := own_ush b 31 31 2147483648 rfl (by decide) hb.1
    have e := own_usw W1 24 24 16777216 rfl (by decide) (by decide)
    rw [e]
    rw [o]
    omega
  have y12 : own_tb a b c 11 = ((W1.toUInt64 >>> ((32 : Int32) &&& 0x3f).toInt64.toUInt64).toInt64).toInt32.toInt8.toInt32 := by
    refine own_bc ?_
    have o := own_ush b 39 39 549755813888 rfl (by decide) hb.1
    have e := own_usw W1 32 32 4294967296 rfl (by decide) (by decide)
    rw [e]
    rw [o]
    omega
  have y13 : own_tb a b c 10 = ((W1.toUInt64 >>> ((40 : Int32) &&& 0x3f).toInt64.toUInt64).toInt64).toInt32.toInt8.toInt32 := by
    refine own_bc ?_
    have o := own_ush b 47 47 140737488355328 rfl (by decide) hb.1
    have e := own_usw W1 40 40 1099511627776 rfl (by decide) (by decide)
    rw [e]
    rw [o]
    omega
  have y14 : own_tb a b c 9 = ((W1.toUInt64 >>> ((48 : Int32) &&& 0x3f).toInt64.toUInt64).toInt64).toInt32.toInt8.toInt32 := by
    refine own_bc ?_
    have s := own_ush b 55 55 36028797018963968 rfl (by decide) hb.1
    have o := own_or ((b.toUInt64 >>> ((55 : Int32) &&& 0x3f).toInt64.toUInt64).toInt64) c 2 2 4 rfl (by decide) (by decide) (by rw [s]; omega) (by rw [s]; omega) (by decide)
    rw [s] at o
    have e := own_usw W1 48 48 281474976710656 rfl (by decide) (by decide)
    rw [e]
    omega
  have y15 : own_tb a b c 8 = ((W1.toUInt64 >>> ((56 : Int32) &&& 0x3f).toInt64.toUInt64).toInt64).toInt32.toInt8.toInt32 := by
    refine own_bc ?_
    have o := own_ush c 6 6 64 rfl (by decide) hc.1
    have e := own_usw W1 56 56 72057594037927936 rfl (by decide) (by decide)
    rw [e]
    rw [o]
    omega
  have y16 : own_tb a b c 7 = W2.toInt32.toInt8.toInt32 := by
    refine own_bc ?_
    have o := own_ush c 14 14 16384 rfl (by decide) hc.1
    rw [o]
    omega
  have y17 : own_tb a b c 6 = ((W2.toUInt64 >>> ((8 : Int32) &&& 0x3f).toInt64.toUInt64).toInt64).toInt32.toInt8.toInt32 := by
    refine own_bc ?_
    have o := own_ush c 22 22 4194304 rfl (by decide) hc.1
    have e := own_usw W2 8 8 256 rfl (by decide) (by decide)
    rw [e]
    rw [o]
    omega
  have y18 : own_tb a b c 5 = ((W2.toUInt64 >>> ((16 : Int32) &&& 0x3f).toInt64.toUInt64).toInt64).toInt32.toInt8.toInt32 := by
    refine own_bc ?_
    have o := own_ush c 30 30 1073741824 rfl (by decide) hc.1
    have e := own_usw W2 16 16 65536 rfl (by decide) (by decide)
    rw [e]
    rw [o]
    omega
  have y19 : own_tb a b c 4 = ((W2.toUInt64 >>> ((24 : Int32) &&& 0x3f).toInt64.toUInt64).toInt64).toInt32.toInt8.toInt32 := by
    refine own_bc ?_
    have o := own_ush c 38 38 274877906944 rfl (by decide) hc.1
    have e := own_usw W2 24 24 16777216 rfl (by decide) (by decide)
    rw [e]
    rw [o]
    omega
  have y20 : own_tb a b c 3 = ((W2.toUInt64 >>> ((32 : Int32) &&& 0x3f).toInt64.toUInt64).toInt64).toInt32.toInt8.toInt32 := by
    refine own_bc ?_
    have o := own_ush c 46 46 70368744177664 rfl (by decide) hc.1
    have e := own_usw W2 32 32 4294967296 rfl (by decide) (by decide)
    rw [e]
    rw [o]
    omega
  have y21 : own_tb a b c 2 = ((W2.toUInt64 >>> ((40 : Int32) &&& 0x3f).toInt64.toUInt64).toInt64).toInt32.toInt8.toInt32 := by
    refine own_bc ?_
    have o := own_ush c 54 54 18014398509481984 rfl (by decide) hc.1
    have e := own_usw W2 40 40 1099511627776 rfl (by decide) (by decide)
    rw [e]
    rw [o]
    omega
  have y22 : own_tb a b c 1 = ((W2.toUInt64 >>> ((48 : Int32) &&& 0x3f).toInt64.toUInt64).toInt64).toInt32.toInt8.toInt32 := by
    show nar .byte ((0 : Int64).toInt32.toInt8.toInt32) = _
    refine own_bc ?_
    have e := own_usw W2 48 48 281474976710656 rfl (by decide) (by decide)
    rw [e]
    have z : (0 : Int64).toInt = 0 := rfl
    rw [z]
    omega
  have y23 : own_tb a b c 0 = ((W2.toUInt64 >>> ((56 : Int32) &&& 0x3f).toInt64.toUInt64).toInt64).toInt32.toInt8.toInt32 := by
    show nar .byte ((0 : Int64).toInt32.toInt8.toInt32) = _
    refine own_bc ?_
    have e := own_usw W2 56 56 72057594037927936 rfl (by decide) (by decide)
    rw [e]
    have z : (0 : Int64).toInt = 0 := rfl
    rw [z]
    omega
  refine ⟨?_, ?_, ?_⟩
  · rw [f_2, if_pos y0, if_pos y1, if_pos y2, if_pos y3, if_pos y4, if_pos y5, if_pos y6, if_pos y7]
  · rw [f_2, if_pos y8, if_pos y9, if_pos y10, if_pos y11, if_pos y12, if_pos y13, if_pos y14, if_pos y15]
  · rw [f_2, if_pos y16, if_pos y17, if_pos y18, if_pos y19, if_pos y20, if_pos y21, if_pos y22, if_pos y23]
theorem pn_0 : plainName "com/example/auth_token_server/authtokenserver/signing/ModulusToBytesPinLaw" = true := by first | (simp [plainName, overriddenIn]; done) | decide +kernel
theorem ef_0 (m : MethodId) (q0 : Int64) (q1 : Int64) (q2 : Int64) (p3 : Int32) : entryFrame m #[(.long q0), (.long q1), (.long q2), (.int p3)] maxLocals = mkF m 0 #[.val (.long q0), .second, .val (.long q1), .second, .val (.long q2), .second, .val (.int p3), .unset, .unset, .unset, .unset, .unset, .unset, .unset, .unset, .unset, .unset, .unset, .unset, .unset, .unset, .unset, .unset, .unset] [] := by first | (simp [entryFrame, mkF, argsToLocals, Value.category, maxLocals]; done) | rfl
set_option maxRecDepth 65536 in
set_option maxHeartbeats 40000000 in
theorem rm0 {l : Launch} {Z : State} {a0 : Array Value} (hw : ∀ d ∈ tables_1, d.before a0 Z = true) (q0 : Int64) (q1 : Int64) (q2 : Int64) (p3 : Int32) (h0 : Heap) (n0 : Nat) (hz : n0 ≤ h0.size) :
    OMet l Z x code maxLocals ret room_1 #[(.long q0), (.long q1), (.long q2), (.int p3)] h0 n0 16 128 (fun v _ => v = some (.int 1)) := by
  refine o_body (plainFor_of_name pn_0) hz (fun m => ef_0 m q0 q1 q2 p3) ?_
  intro p e s m below meth c s₁ G0
  refine o_ldc2 G0 at_0 (pc' := 3) rfl (hw _ (List.mem_of_getElem? (i := 0) rfl)) ?_
  refine o_lstore G0 at_3 (pc' := 5) rfl (l' := #[.val (.long q0), .second, .val (.long q1), .second, .val (.long q2), .second, .val (.int p3), .val (.long (144115188075855871 : Int64)), .second, .unset, .unset, .unset, .unset, .unset, .unset, .unset, .unset, .unset, .unset, .unset, .unset, .unset, .unset, .unset]) rfl ?_
  refine o_lloadN G0 at_5 (pc' := 6) rfl rfl ?_
  refine o_lload G0 at_6 (pc' := 8) rfl rfl ?_
  obtain ⟨v1, e1⟩ : ∃ z, q0 &&& (144115188075855871 : Int64) = z := ⟨_, rfl⟩
  refine o_land G0 at_8 (pc' := 9) rfl e1 ?_
  refine o_lstore G0 at_9 (pc' := 11) rfl (l' := #[.val (.long q0), .second, .val (.long q1), .second, .val (.long q2), .second, .val (.int p3), .val (.long (144115188075855871 : Int64)), .second, .val (.long v1), .second, .unset, .unset, .unset, .unset, .unset, .unset, .unset, .unset, .unset, .unset, .unset, .unset, .unset]) rfl ?_
  refine o_lloadN G0 at_11 (pc' := 12) rfl rfl ?_
  refine o_lload G0 at_12 (pc' := 14) rfl rfl ?_
  obtain ⟨v2, e2⟩ : ∃ z, q1 &&& (144115188075855871 : Int64) = z := ⟨_, rfl⟩
  refine o_land G0 at_14 (pc' := 15) rfl e2 ?_
  refine o_lstore G0 at_15 (pc' := 17) rfl (l' := #[.val (.long q0), .second, .val (.long q1), .second, .val (.long q2), .second, .val (.int p3), .val (.long (144115188075855871 : Int64)), .second, .val (.long v1), .second, .val (.long v2), .second, .unset, .unset, .unset, .unset, .unset, .unset, .unset, .unset, .unset, .unset, .unset]) rfl ?_
  refine o_lload G0 at_17 (pc' := 19) rfl rfl ?_
  refine o_lload G0 at_19 (pc' := 21) rfl rfl ?_
  obtain ⟨v3, e3⟩ : ∃ z, q2 &&& (144115188075855871 : Int64) = z := ⟨_, rfl⟩
  refine o_land G0 at_21 (pc' := 22) rfl e3 ?_
  refine o_lstore G0 at_22 (pc' := 24) rfl (l' := #[.val (.long q0), .second, .val (.long q1), .second, .val (.long q2), .second, .val (.int p3), .val (.long (144115188075855871 : Int64)), .second, .val (.long v1), .second, .val (.long v2), .second, .val (.long v3), .second, .unset, .unset, .unset, .unset, .unset, .unset, .unset, .unset, .unset]) rfl ?_
  refine o_iconst G0 at_24 (pc' := 25) rfl (v := (3 : Int32)) rfl ?_
  refine o_newarray G0 (N := 3) (cap := 3) (hw _ (List.mem_of_getElem? (i := 1) rfl)) rfl (by decide) (by decide) at_25 (pc' := 27) rfl (by decide) (by decide) ?_
  intro T4 h4 b4 G4 g4 g_b4 E4 A_b4
  replace A_b4 : OArr Z h4 b4 .long 3 (fun _ => (.long (0 : Int64))) := A_b4
  refine o_dup G4 at_27 (pc' := 28) rfl rfl ?_
  refine o_iconst G4 at_28 (pc' := 29) rfl (v := (0 : Int32)) rfl ?_
  refine o_lload G4 at_29 (pc' := 31) rfl rfl ?_
  refine o_lastore G4 A_b4 g_b4 (i := 0) rfl (by decide) at_31 (pc' := 32) rfl ?_
  intro T5 h5 G5 W5 A5
  replace A_b4 := A5
  refine o_dup G5 at_32 (pc' := 33) rfl rfl ?_
  refine o_iconst G5 at_33 (pc' := 34) rfl (v := (1 : Int32)) rfl ?_
  refine o_lload G5 at_34 (pc' := 36) rfl rfl ?_
  refine o_lastore G5 A_b4 g_b4 (i := 1) rfl (by decide) at_36 (pc' := 37) rfl ?_
  intro T6 h6 G6 W6 A6
  replace A_b4 := A6
  refine o_dup G6 at_37 (pc' := 38) rfl rfl ?_
  refine o_iconst G6 at_38 (pc' := 39) rfl (v := (2 : Int32)) rfl ?_
  refine o_lload G6 at_39 (pc' := 41) rfl rfl ?_
  refine o_lastore G6 A_b4 g_b4 (i := 2) rfl (by decide) at_41 (pc' := 42) rfl ?_
  intro T7 h7 G7 W7 A7
  replace A_b4 := A7
  refine o_astore G7 at_42 (pc' := 44) rfl rfl (l' := #[.val (.long q0), .second, .val (.long q1), .second, .val (.long q2), .second, .val (.int p3), .val (.long (144115188075855871 : Int64)), .second, .val (.long v1), .second, .val (.long v2), .second, .val (.long v3), .second, .val (.ref b4), .unset, .unset, .unset, .unset, .unset, .unset, .unset, .unset]) rfl ?_
  refine o_iload G7 at_44 (pc' := 46) rfl rfl ?_
  obtain ⟨v8, e8⟩ : ∃ z, p3.toInt8.toInt32 = z := ⟨_, rfl⟩
  refine o_i2b G7 at_46 (pc' := 47) rfl e8 ?_
  refine o_istore G7 at_47 (pc' := 49) rfl (l' := #[.val (.long q0), .second, .val (.long q1), .second, .val (.long q2), .second, .val (.int p3), .val (.long (144115188075855871 : Int64)), .second, .val (.long v1), .second, .val (.long v2), .second, .val (.long v3), .second, .val (.ref b4), .val (.int v8), .unset, .unset, .unset, .unset, .unset, .unset, .unset]) rfl ?_
  refine o_bipush G7 at_49 (pc' := 51) rfl (v := (24 : Int32)) rfl ?_
  refine o_newarray G7 (N := 24) (cap := 24) (hw _ (List.mem_of_getElem? (i := 2) rfl)) rfl (by decide) (by decide) at_51 (pc' := 53) rfl (by decide) (by decide) ?_
  intro T9 h9 b9 G9 g9 g_b9 E9 A_b9
  have ne_b4_b9 : b4 ≠ b9 := Nat.ne_of_lt (Nat.lt_of_lt_of_eq A_b4.lt g9.symm)
  replace A_b4 := A_b4.ext E9
  replace A_b9 : OArr Z h9 b9 .byte 24 (fun _ => (.int (0 : Int32))) := A_b9
  refine o_dup G9 at_53 (pc' := 54) rfl rfl ?_
  refine o_iconst G9 at_54 (pc' := 55) rfl (v := (0 : Int32)) rfl ?_
  refine o_iload G9 at_55 (pc' := 57) rfl rfl ?_
  refine o_bastore G9 A_b9 g_b9 (i := 0) rfl (by decide) at_57 (pc' := 58) rfl ?_
  intro T10 h10 G10 W10 A10
  replace A_b4 := A_b4.other W10 ne_b4_b9
  replace A_b9 := A10
  refine o_dup G10 at_58 (pc' := 59) rfl rfl ?_
  refine o_iconst G10 at_59 (pc' := 60) rfl (v := (1 : Int32)) rfl ?_
  refine o_iload G10 at_60 (pc' := 62) rfl rfl ?_
  refine o_bastore G10 A_b9 g_b9 (i := 1) rfl (by decide) at_62 (pc' := 63) rfl ?_
  intro T11 h11 G11 W11 A11
  replace A_b4 := A_b4.other W11 ne_b4_b9
  replace A_b9 := A11
  refine o_dup G11 at_63 (pc' := 64) rfl rfl ?_
  refine o_iconst G11 at_64 (pc' := 65) rfl (v := (2 : Int32)) rfl ?_
  refine o_iload G11 at_65 (pc' := 67) rfl rfl ?_
  refine o_bastore G11 A_b9 g_b9 (i := 2) rfl (by decide) at_67 (pc' := 68) rfl ?_
  intro T12 h12 G12 W12 A12
  replace A_b4 := A_b4.other W12 ne_b4_b9
  replace A_b9 := A12
  refine o_dup G12 at_68 (pc' := 69) rfl rfl ?_
  refine o_iconst G12 at_69 (pc' := 70) rfl (v := (3 : Int32)) rfl ?_
  refine o_iload G12 at_70 (pc' := 72) rfl rfl ?_
  refine o_bastore G12 A_b9 g_b9 (i := 3) rfl (by decide) at_72 (pc' := 73) rfl ?_
  intro T13 h13 G13 W13 A13
  replace A_b4 := A_b4.other W13 ne_b4_b9
  replace A_b9 := A13
  refine o_dup G13 at_73 (pc' := 74) rfl rfl ?_
  refine o_iconst G13 at_74 (pc' := 75) rfl (v := (4 : Int32)) rfl ?_
  refine o_iload G13 at_75 (pc' := 77) rfl rfl ?_
  refine o_bastore G13 A_b9 g_b9 (i := 4) rfl (by decide) at_77 (pc' := 78) rfl ?_
  intro T14 h14 G14 W14 A14
  replace A_b4 := A_b4.other W14 ne_b4_b9
  replace A_b9 := A14
  refine o_dup G14 at_78 (pc' := 79) rfl rfl ?_
  refine o_iconst G14 at_79 (pc' := 80) rfl (v := (5 : Int32)) rfl ?_
  refine o_iload G14 at_80 (pc' := 82) rfl rfl ?_
  refine o_bastore G14 A_b9 g_b9 (i := 5) rfl (by decide) at_82 (pc' := 83) rfl ?_
  intro T15 h15 G15 W15 A15
  replace A_b4 := A_b4.other W15 ne_b4_b9
  replace A_b9 := A15
  refine o_dup G15 at_83 (pc' := 84) rfl rfl ?_
  refine o_bipush G15 at_84 (pc' := 86) rfl (v := (6 : Int32)) rfl ?_
  refine o_iload G15 at_86 (pc' := 88) rfl rfl ?_
  refine o_bastore G15 A_b9 g_b9 (i := 6) rfl (by decide) at_88 (pc' := 89) rfl ?_
  intro T16 h16 G16 W16 A16
  replace A_b4 := A_b4.other W16 ne_b4_b9
  replace A_b9 := A16
  refine o_dup G16 at_89 (pc' := 90) rfl rfl ?_
  refine o_bipush G16 at_90 (pc' := 92) rfl (v := (7 : Int32)) rfl ?_
  refine o_iload G16 at_92 (pc' := 94) rfl rfl ?_
  refine o_bastore G16 A_b9 g_b9 (i := 7) rfl (by decide) at_94 (pc' := 95) rfl ?_
  intro T17 h17 G17 W17 A17
  replace A_b4 := A_b4.other W17 ne_b4_b9
  replace A_b9 := A17
  refine o_dup G17 at_95 (pc' := 96) rfl rfl ?_
  refine o_bipush G17 at_96 (pc' := 98) rfl (v := (8 : Int32)) rfl ?_
  refine o_iload G17 at_98 (pc' := 100) rfl rfl ?_
  refine o_bastore G17 A_b9 g_b9 (i := 8) rfl (by decide) at_100 (pc' := 101) rfl ?_
  intro T18 h18 G18 W18 A18
  replace A_b4 := A_b4.other W18 ne_b4_b9
  replace A_b9 := A18
  refine o_dup G18 at_101 (pc' := 102) rfl rfl ?_
  refine o_bipush G18 at_102 (pc' := 104) rfl (v := (9 : Int32)) rfl ?_
  refine o_iload G18 at_104 (pc' := 106) rfl rfl ?_
  refine o_bastore G18 A_b9 g_b9 (i := 9) rfl (by decide) at_106 (pc' := 107) rfl ?_
  intro T19 h19 G19 W19 A19
  replace A_b4 := A_b4.other W19 ne_b4_b9
  replace A_b9 := A19
  refine o_dup G19 at_107 (pc' := 108) rfl rfl ?_
  refine o_bipush G19 at_108 (pc' := 110) rfl (v := (10 : Int32)) rfl ?_
  refine o_iload G19 at_110 (pc' := 112) rfl rfl ?_
  refine o_bastore G19 A_b9 g_b9 (i := 10) rfl (by decide) at_112 (pc' := 113) rfl ?_
  intro T20 h20 G20 W20 A20
  replace A_b4 := A_b4.other W20 ne_b4_b9
  replace A_b9 := A20
  refine o_dup G20 at_113 (pc' := 114) rfl rfl ?_
  refine o_bipush G20 at_114 (pc' := 116) rfl (v := (11 : Int32)) rfl ?_
  refine o_iload G20 at_116 (pc' := 118) rfl rfl ?_
  refine o_bastore G20 A_b9 g_b9 (i := 11) rfl (by decide) at_118 (pc' := 119) rfl ?_
  intro T21 h21 G21 W21 A21
  replace A_b4 := A_b4.other W21 ne_b4_b9
  replace A_b9 := A21
  refine o_dup G21 at_119 (pc' := 120) rfl rfl ?_
  refine o_bipush G21 at_120 (pc' := 122) rfl (v := (12 : Int32)) rfl ?_
  refine o_iload G21 at_122 (pc' := 124) rfl rfl ?_
  refine o_bastore G21 A_b9 g_b9 (i := 12) rfl (by decide) at_124 (pc' := 125) rfl ?_
  intro T22 h22 G22 W22 A22
  replace A_b4 := A_b4.other W22 ne_b4_b9
  replace A_b9 := A22
  refine o_dup G22 at_125 (pc' := 126) rfl rfl ?_
  refine o_bipush G22 at_126 (pc' := 128) rfl (v := (13 : Int32)) rfl ?_
  refine o_iload G22 at_128 (pc' := 130) rfl rfl ?_
  refine o_bastore G22 A_b9 g_b9 (i := 13) rfl (by decide) at_130 (pc' := 131) rfl ?_
  intro T23 h23 G23 W23 A23
  replace A_b4 := A_b4.other W23 ne_b4_b9
  replace A_b9 := A23
  refine o_dup G23 at_131 (pc' := 132) rfl rfl ?_
  refine o_bipush G23 at_132 (pc' := 134) rfl (v := (14 : Int32)) rfl ?_
  refine o_iload G23 at_134 (pc' := 136) rfl rfl ?_
  refine o_bastore G23 A_b9 g_b9 (i := 14) rfl (by decide) at_136 (pc' := 137) rfl ?_
  intro T24 h24 G24 W24 A24
  replace A_b4 := A_b4.other W24 ne_b4_b9
  replace A_b9 := A24
  refine o_dup G24 at_137 (pc' := 138) rfl rfl ?_
  refine o_bipush G24 at_138 (pc' := 140) rfl (v := (15 : Int32)) rfl ?_
  refine o_iload G24 at_140 (pc' := 142) rfl rfl ?_
  refine o_bastore G24 A_b9 g_b9 (i := 15) rfl (by decide) at_142 (pc' := 143) rfl ?_
  intro T25 h25 G25 W25 A25
  replace A_b4 := A_b4.other W25 ne_b4_b9
  replace A_b9 := A25
  refine o_dup G25 at_143 (pc' := 144) rfl rfl ?_
  refine o_bipush G25 at_144 (pc' := 146) rfl (v := (16 : Int32)) rfl ?_
  refine o_iload G25 at_146 (pc' := 148) rfl rfl ?_
  refine o_bastore G25 A_b9 g_b9 (i := 16) rfl (by decide) at_148 (pc' := 149) rfl ?_
  intro T26 h26 G26 W26 A26
  replace A_b4 := A_b4.other W26 ne_b4_b9
  replace A_b9 := A26
  refine o_dup G26 at_149 (pc' := 150) rfl rfl ?_
  refine o_bipush G26 at_150 (pc' := 152) rfl (v := (17 : Int32)) rfl ?_
  refine o_iload G26 at_152 (pc' := 154) rfl rfl ?_
  refine o_bastore G26 A_b9 g_b9 (i := 17) rfl (by decide) at_154 (pc' := 155) rfl ?_
  intro T27 h27 G27 W27 A27
  replace A_b4 := A_b4.other W27 ne_b4_b9
  replace A_b9 := A27
  refine o_dup G27 at_155 (pc' := 156) rfl rfl ?_
  refine o_bipush G27 at_156 (pc' := 158) rfl (v := (18 : Int32)) rfl ?_
  refine o_iload G27 at_158 (pc' := 160) rfl rfl ?_
  refine o_bastore G27 A_b9 g_b9 (i := 18) rfl (by decide) at_160 (pc' := 161) rfl ?_
  intro T28 h28 G28 W28 A28
  replace A_b4 := A_b4.other W28 ne_b4_b9
  replace A_b9 := A28
  refine o_dup G28 at_161 (pc' := 162) rfl rfl ?_
  refine o_bipush G28 at_162 (pc' := 164) rfl (v := (19 : Int32)) rfl ?_
  refine o_iload G28 at_164 (pc' := 166) rfl rfl ?_
  refine o_bastore G28 A_b9 g_b9 (i := 19) rfl (by decide) at_166 (pc' := 167) rfl ?_
  intro T29 h29 G29 W29 A29
  replace A_b4 := A_b4.other W29 ne_b4_b9
  replace A_b9 := A29
  refine o_dup G29 at_167 (pc' := 168) rfl rfl ?_
  refine o_bipush G29 at_168 (pc' := 170) rfl (v := (20 : Int32)) rfl ?_
  refine o_iload G29 at_170 (pc' := 172) rfl rfl ?_
  refine o_bastore G29 A_b9 g_b9 (i := 20) rfl (by decide) at_172 (pc' := 173) rfl ?_
  intro T30 h30 G30 W30 A30
  replace A_b4 := A_b4.other W30 ne_b4_b9
  replace A_b9 := A30
  refine o_dup G30 at_173 (pc' := 174) rfl rfl ?_
  refine o_bipush G30 at_174 (pc' := 176) rfl (v := (21 : Int32)) rfl ?_
  refine o_iload G30 at_176 (pc' := 178) rfl rfl ?_
  refine o_bastore G30 A_b9 g_b9 (i := 21) rfl (by decide) at_178 (pc' := 179) rfl ?_
  intro T31 h31 G31 W31 A31
  replace A_b4 := A_b4.other W31 ne_b4_b9
  replace A_b9 := A31
  refine o_dup G31 at_179 (pc' := 180) rfl rfl ?_
  refine o_bipush G31 at_180 (pc' := 182) rfl (v := (22 : Int32)) rfl ?_
  refine o_iload G31 at_182 (pc' := 184) rfl rfl ?_
  refine o_bastore G31 A_b9 g_b9 (i := 22) rfl (by decide) at_184 (pc' := 185) rfl ?_
  intro T32 h32 G32 W32 A32
  replace A_b4 := A_b4.other W32 ne_b4_b9
  replace A_b9 := A32
  refine o_dup G32 at_185 (pc' := 186) rfl rfl ?_
  refine o_bipush G32 at_186 (pc' := 188) rfl (v := (23 : Int32)) rfl ?_
  refine o_iload G32 at_188 (pc' := 190) rfl rfl ?_
  refine o_bastore G32 A_b9 g_b9 (i := 23) rfl (by decide) at_190 (pc' := 191) rfl ?_
  intro T33 h33 G33 W33 A33
  replace A_b4 := A_b4.other W33 ne_b4_b9
  replace A_b9 := A33
  refine o_astore G33 at_191 (pc' := 193) rfl rfl (l' := #[.val (.long q0), .second, .val (.long q1), .second, .val (.long q2), .second, .val (.int p3), .val (.long (144115188075855871 : Int64)), .second, .val (.long v1), .second, .val (.long v2), .second, .val (.long v3), .second, .val (.ref b4), .val (.int v8), .val (.ref b9), .unset, .unset, .unset, .unset, .unset, .unset]) rfl ?_
  refine o_aload G33 at_193 (pc' := 195) rfl rfl rfl ?_
  refine o_aload G33 at_195 (pc' := 197) rfl rfl rfl ?_
  have A_l : OArr Z h33 b4 .long 3 (own_l3 v1 v2 v3) := by
    refine A_b4.congr (fun j hj => ?_)
    match j, hj with
    | 0, _ => rfl
    | 1, _ => rfl
    | 2, _ => rfl
    | j + 3, hj => omega
  refine o_callS G33 (z := (⟨"com/example/auth_token_server/authtokenserver/signing/Modulus", "toBytes", "([J[B)V"⟩ : MethodName)) (argsL := [(.ref b4), (.ref b9)]) (rest := []) (W := 0) (hw _ (List.mem_of_getElem? (i := 3) rfl)) (hw _ (List.mem_of_getElem? (i := 4) rfl)) at_197 (by decide) (hw _ (List.mem_of_getElem? (i := 5) rfl)) (hw _ (List.mem_of_getElem? (i := 6) rfl)) (rm1 hw b4 b9 h33 n0 G33.sz g_b9 ne_b4_b9 v1 v2 v3 _ A_l A_b9) (by decide) (by decide) rfl (lenOf pd_0 rfl) rfl (Nat.le_of_eq rfl) (pc' := 200) rfl (by decide) (by decide) ?_
  rintro _ T34 h34 G34 ⟨rfl, K34, A34⟩
  show OFin n0 p e below s (fun v _ => v = some (.int 1)) 16 128 T34 (mkF m 200 #[.val (.long q0), .second, .val (.long q1), .second, .val (.long q2), .second, .val (.int p3), .val (.long (144115188075855871 : Int64)), .second, .val (.long v1), .second, .val (.long v2), .second, .val (.long v3), .second, .val (.ref b4), .val (.int v8), .val (.ref b9), .unset, .unset, .unset, .unset, .unset, .unset] [])
  have hm := own_main v1 v2 v3 (by rw [← e1]; exact own_m57 _) (by rw [← e2]; exact own_m57 _) (by rw [← e3]; exact own_m57 _)
  refine o_lload G34 at_200 (pc' := 202) rfl rfl ?_
  refine o_lload G34 at_202 (pc' := 204) rfl rfl ?_
  refine o_bipush G34 at_204 (pc' := 206) rfl (v := (57 : Int32)) rfl ?_
  obtain ⟨v35, e35⟩ : ∃ z, v2 <<< ((57 : Int32) &&& 0x3f).toInt64 = z := ⟨_, rfl⟩
  refine o_lshl G34 at_206 (pc' := 207) rfl e35 ?_
  obtain ⟨v36, e36⟩ : ∃ z, v1 ||| v35 = z := ⟨_, rfl⟩
  refine o_lor G34 at_207 (pc' := 208) rfl e36 ?_
  refine o_lstore G34 at_208 (pc' := 210) rfl (l' := #[.val (.long q0), .second, .val (.long q1), .second, .val (.long q2), .second, .val (.int p3), .val (.long (144115188075855871 : Int64)), .second, .val (.long v1), .second, .val (.long v2), .second, .val (.long v3), .second, .val (.ref b4), .val (.int v8), .val (.ref b9), .val (.long v36), .second, .unset, .unset, .unset, .unset]) rfl ?_
  refine o_lload G34 at_210 (pc' := 212) rfl rfl ?_
  refine o_bipush G34 at_212 (pc' := 214) rfl (v := (7 : Int32)) rfl ?_
  obtain ⟨v37, e37⟩ : ∃ z, (v2.toUInt64 >>> ((7 : Int32) &&& 0x3f).toInt64.toUInt64).toInt64 = z := ⟨_, rfl⟩
  refine o_lushr G34 at_214 (pc' := 215) rfl e37 ?_
  refine o_lload G34 at_215 (pc' := 217) rfl rfl ?_
  refine o_bipush G34 at_217 (pc' := 219) rfl (v := (50 : Int32)) rfl ?_
  obtain ⟨v38, e38⟩ : ∃ z, v3 <<< ((50 : Int32) &&& 0x3f).toInt64 = z := ⟨_, rfl⟩
  refine o_lshl G34 at_219 (pc' := 220) rfl e38 ?_
  obtain ⟨v39, e39⟩ : ∃ z, v37 ||| v38 = z := ⟨_, rfl⟩
  refine o_lor G34 at_220 (pc' := 221) rfl e39 ?_
  refine o_lstore G34 at_221 (pc' := 223) rfl (l' := #[.val (.long q0), .second, .val (.long q1), .second, .val (.long q2), .second, .val (.int p3), .val (.long (144115188075855871 : Int64)), .second, .val (.long v1), .second, .val (.long v2), .second, .val (.long v3), .second, .val (.ref b4), .val (.int v8), .val (.ref b9), .val (.long v36), .second, .val (.long v39), .second, .unset, .unset]) rfl ?_
  refine o_lload G34 at_223 (pc' := 225) rfl rfl ?_
  refine o_bipush G34 at_225 (pc' := 227) rfl (v := (14 : Int32)) rfl ?_
  obtain ⟨v40, e40⟩ : ∃ z, (v3.toUInt64 >>> ((14 : Int32) &&& 0x3f).toInt64.toUInt64).toInt64 = z := ⟨_, rfl⟩
  refine o_lushr G34 at_227 (pc' := 228) rfl e40 ?_
  refine o_lstore G34 at_228 (pc' := 230) rfl (l' := #[.val (.long q0), .second, .val (.long q1), .second, .val (.long q2), .second, .val (.int p3), .val (.long (144115188075855871 : Int64)), .second, .val (.long v1), .second, .val (.long v2), .second, .val (.long v3), .second, .val (.ref b4), .val (.int v8), .val (.ref b9), .val (.long v36), .second, .val (.long v39), .second, .val (.long v40), .second]) rfl ?_
  refine o_aload G34 at_230 (pc' := 232) rfl rfl rfl ?_
  refine o_bipush G34 at_232 (pc' := 234) rfl (v := (16 : Int32)) rfl ?_
  refine o_lload G34 at_234 (pc' := 236) rfl rfl ?_
  obtain ⟨v41, e41⟩ : ∃ z, f_2 (own_tb v1 v2 v3) 16 (16 : Int32) v36 = z := ⟨_, rfl⟩
  refine o_callP G34 (z := (⟨"com/example/auth_token_server/authtokenserver/signing/ModulusToBytesPinLaw", "eight", "([BIJ)Z"⟩ : MethodName)) (r := (.int v41)) (argsL := [(.ref b9), (.int (16 : Int32)), (.long v36)]) (rest := []) (W := 0) (hw _ (List.mem_of_getElem? (i := 7) rfl)) (hw _ (List.mem_of_getElem? (i := 8) rfl)) at_236 (by decide) (hw _ (List.mem_of_getElem? (i := 9) rfl)) (hw _ (List.mem_of_getElem? (i := 10) rfl)) (by rw [← e41]; exact rm2 hw b9 (16 : Int32) v36 h34 n0 G34.sz (own_tb v1 v2 v3) A34 16 rfl (by decide)) (by decide) (by decide) rfl (lenOf pd_1 rfl) rfl (Nat.le_of_eq rfl) (pc' := 239) rfl (by decide) (by decide) ?_
  intro T42 G42
  refine o_if_eq G42 at_239 (by decide) (pcT := 269) (by decide) (pc' := 242) rfl (fun q => absurd q (by
        subst e8 e35 e36 e37 e38 e39 e40 e41
        exact own_ne1 hm.1)) (fun _ => ?_)
  refine o_aload G42 at_242 (pc' := 244) rfl rfl rfl ?_
  refine o_bipush G42 at_244 (pc' := 246) rfl (v := (8 : Int32)) rfl ?_
  refine o_lload G42 at_246 (pc' := 248) rfl rfl ?_
  obtain ⟨v43, e43⟩ : ∃ z, f_2 (own_tb v1 v2 v3) 8 (8 : Int32) v39 = z := ⟨_, rfl⟩
  refine o_callP G42 (z := (⟨"com/example/auth_token_server/authtokenserver/signing/ModulusToBytesPinLaw", "eight", "([BIJ)Z"⟩ : MethodName)) (r := (.int v43)) (argsL := [(.ref b9), (.int (8 : Int32)), (.long v39)]) (rest := []) (W := 0) (hw _ (List.mem_of_getElem? (i := 7) rfl)) (hw _ (List.mem_of_getElem? (i := 8) rfl)) at_248 (by decide) (hw _ (List.mem_of_getElem? (i := 9) rfl)) (hw _ (List.mem_of_getElem? (i := 10) rfl)) (by rw [← e43]; exact rm2 hw b9 (8 : Int32) v39 h34 n0 G42.sz (own_tb v1 v2 v3) A34 8 rfl (by decide)) (by decide) (by decide) rfl (lenOf pd_1 rfl) rfl (Nat.le_of_eq rfl) (pc' := 251) rfl (by decide) (by decide) ?_
  intro T44 G44
  refine o_if_eq G44 at_251 (by decide) (pcT := 269) (by decide) (pc' := 254) rfl (fun q => absurd q (by
        subst e8 e35 e36 e37 e38 e39 e40 e41 e43
        exact own_ne1 hm.2.1)) (fun _ => ?_)
  refine o_aload G44 at_254 (pc' := 256) rfl rfl rfl ?_
  refine o_iconst G44 at_256 (pc' := 257) rfl (v := (0 : Int32)) rfl ?_
  refine o_lload G44 at_257 (pc' := 259) rfl rfl ?_
  obtain ⟨v45, e45⟩ : ∃ z, f_2 (own_tb v1 v2 v3) 0 (0 : Int32) v40 = z := ⟨_, rfl⟩
  refine o_callP G44 (z := (⟨"com/example/auth_token_server/authtokenserver/signing/ModulusToBytesPinLaw", "eight", "([BIJ)Z"⟩ : MethodName)) (r := (.int v45)) (argsL := [(.ref b9), (.int (0 : Int32)), (.long v40)]) (rest := []) (W := 0) (hw _ (List.mem_of_getElem? (i := 7) rfl)) (hw _ (List.mem_of_getElem? (i := 8) rfl)) at_259 (by decide) (hw _ (List.mem_of_getElem? (i := 9) rfl)) (hw _ (List.mem_of_getElem? (i := 10) rfl)) (by rw [← e45]; exact rm2 hw b9 (0 : Int32) v40 h34 n0 G44.sz (own_tb v1 v2 v3) A34 0 rfl (by decide)) (by decide) (by decide) rfl (lenOf pd_1 rfl) rfl (Nat.le_of_eq rfl) (pc' := 262) rfl (by decide) (by decide) ?_
  intro T46 G46
  refine o_if_eq G46 at_262 (by decide) (pcT := 269) (by decide) (pc' := 265) rfl (fun q => absurd q (by
        subst e8 e35 e36 e37 e38 e39 e40 e41 e43 e45
        exact own_ne1 hm.2.2)) (fun _ => ?_)
  refine o_iconst G46 at_265 (pc' := 266) rfl (v := (1 : Int32)) rfl ?_
  refine o_goto G46 at_266 (by decide) (pc' := 270) rfl ?_
  exact o_nreturn (t := .boolean) G46 (by simp) at_270 rfl (by decide) (by decide)
set_option maxRecDepth 65536 in
set_option maxHeartbeats 40000000 in
theorem comes_1 {Post : Tables → Env → Array Value → State → Outcome → State → Prop} (hpost : ∀ tb e args s v u, (limb_1_1.after args s (.returned v) u = true ∧ limb_1_2.after args s (.returned v) u = true ∧ True) → FrameEnd s (.returned v) u (Jvm.fieldLocs frame_1_writes args s ++ Jvm.arrayLocs frame_1_arrays args s ++ Jvm.staticLocs frame_1_statics s) 16 128 → Post tb e args s (.returned v) u) :
    ArmFor flags0 classFile x code maxLocals ret World_1 tables_1 room_1 Calls_1 rest_1 Pre_1 Post := by
  intro l hfl _ _ p e ha hc hk s m args below hf hA hF happ hP
  obtain ⟨hcalls, hrest, hpre⟩ := hP
  obtain ⟨-, -, -, hnamed, -, -, -, hat⟩ := (Spec.applies_iff hf).mp happ
  obtain ⟨hg, hn⟩ := and_e (Cond.before_iff.mp (show (Jvm.Cond.and given_1 narrow_1).before args s = true from hpre))
  obtain ⟨g1, g2⟩ := and_e hg
  obtain ⟨g3, g4⟩ := and_e g2
  obtain ⟨g5, g6⟩ := and_e g4
  obtain ⟨g7, g8⟩ := and_e g6
  obtain ⟨w0, w1, w2, w3, rfl⟩ : ∃ w0 w1 w2 w3 : Value, args = #[w0, w1, w2, w3] := by
    have hs : args.size = 4 := by simpa [Cond.value, given_1] using g1
    obtain ⟨L⟩ := args
    match L, hs with
    | [w0, w1, w2, w3], _ => exact ⟨w0, w1, w2, w3, rfl⟩
  have hw := fun d (hd : d ∈ tables_1) => atoms_spec (ws := Jvm.Cond.code x code maxLocals ret :: tables_1) hat d (List.mem_cons_of_mem _ hd)
  obtain ⟨i0, ei0⟩ := isL_v g3
  obtain rfl : w0 = (.long i0) := Option.some.inj ei0
  obtain ⟨i1, ei1⟩ := isL_v g5
  obtain rfl : w1 = (.long i1) := Option.some.inj ei1
  obtain ⟨i2, ei2⟩ := isL_v g7
  obtain rfl : w2 = (.long i2) := Option.some.inj ei2
  obtain ⟨i3, ei3⟩ := is_v g8
  obtain rfl : w3 = (.int i3) := Option.some.inj ei3
  obtain ⟨n, o, h1, h2, h3, _, L, rfl, ⟨N, _, hv⟩, hq⟩ := rm0 (l := l) (Z := s) hw i0 i1 i2 i3 s.heap s.heap.size (Nat.le_refl _)  tables_1 p e ha hc hk s m _ below hf ((Spec.applies_iff_loose hf).mp happ).1 ⟨rfl, State.Warmed39.refl s, rfl⟩ trivial
  subst hv
  refine ⟨n, _, h1, h2, h3, hpost _ _ _ _ _ _ ⟨Cond.after_iff.mpr rfl, Cond.after_iff.mpr (eq_i res_at (Term.int_eval (1)) rfl), trivial⟩ ⟨hq.1, hq.2.1, (hq.2.2.sift fun y hy => Or.inr (N y hy)).mono (by decide) (by decide)⟩⟩
theorem main_1_1 : Claimed_1_1 := comes_1 fun _ _ _ _ _ _ h hF => ⟨h.1, hF⟩
theorem main_1_2 : Claimed_1_2 := comes_1 fun _ _ _ _ _ _ h hF => ⟨h.2.1, hF⟩
end Jvm.Pilot.@@N@@
namespace Jvm.Pilot.@@N@@
open Jvm Jvm.ClassFile Sem Op Lib Jvm.Free Jvm.Stand Jvm.Pilot.@@N@@.Jvm.D
/-! MADE BY PROGRAM (witnessworld.py) out of the Statement's table words and the real class files: 11 classes; the members and pool entries that the words name. The judged class is class 1, her method 2. -/
namespace start1
open Jvm.ClassFile
def u (s : String) : CpInfo := .utf8 (stringToUtf16 s)
/-- a pool by its gaps: so many unusable entries, then the entry; so many at the end -/
def gap : Nat → List CpInfo → List CpInfo
  | 0, r => r
  | n + 1, r => .unusable :: gap n r
def poolList (es : List (Nat × CpInfo)) (last : Nat) : List CpInfo := es.foldr (fun e r => gap e.1 (e.2 :: r)) (gap last [])
def pool (es : List (Nat × CpInfo)) (last : Nat) : Array CpInfo := ⟨poolList es last⟩
def fileOf (pool : Array CpInfo) (this : Nat) (attrs : Array Attribute := #[]) (ms : Array MethodInfo := #[]) (fl : Nat := 33) (sup : Nat := 0) (ifs : Array Nat := #[]) (fds : Array FieldInfo := #[]) : ClassFile where
  minorVersion := 0
  majorVersion := 65
  constantPool := pool
  accessFlags := fl
  thisClass := this
  superClass := sup
  interfaces := ifs
  fields := fds
  methods := ms
  attributes := attrs
def plain (name : String) (sup : Option ClassId) : Class where
  name := name
  kind := .ordinary
  loader := none
  accessFlags := 33
  super := sup
  interfaces := #[]
  cf := none
  fields := #[]
  methods := #[]
  instanceTypes := #[]
  staticTypes := #[]
  resolved := #[]
  callSites := []
  init := .initialized
  statics := none
  mirror := none

def pool0 : Array CpInfo := pool [(5, u "<init>"), (0, u "()V"), (1, .class_ 10), (1, u "java/lang/Object")] 113

def k0m0 : Method := { name := "<init>", desc := "()V", sig := { parameters := [], returnType := none }, accessFlags := 1, code := none }
/-- java/lang/Object -/
def k0 : Class := { plain "java/lang/Object" none with
  accessFlags := 33
  interfaces := #[]
  cf := some (fileOf pool0 8 #[] #[{ accessFlags := 1, nameIndex := 5, descriptorIndex := 6, attributes := #[] }] 33 0 #[] #[])
  fields := #[]
  methods := #[k0m0]
  instanceTypes := #[]
  staticTypes := #[]
  resolved := Array.replicate 124 none
  statics := none }

def pool1 : Array CpInfo := pool [(2, .class_ 4), (1, u "java/lang/Object"), (0, u "<init>"), (0, u "()V"), (0, .long 144115188075855871), (1, .methodref 10 11), (0, .class_ 12), (0, .nameAndType 13 14), (0, u "com/example/auth_token_server/authtokenserver/signing/Modulus"), (0, u "toBytes"), (0, u "([J[B)V"), (0, .methodref 16 17), (0, .class_ 18), (0, .nameAndType 19 20), (0, u "com/example/auth_token_server/authtokenserver/signing/ModulusToBytesPinLaw"), (0, u "eight"), (0, u "([BIJ)Z"), (3, u "law"), (0, u "(JJJI)Z")] 6

def k1m0 : Method := { name := "<init>", desc := "()V", sig := { parameters := [], returnType := none }, accessFlags := 1, code := none }
def k1c1 : Code := { maxStack := 4, maxLocals := 4, code := method_2_code, exceptionTable := #[], attributes := #[] }
def k1m1 : Method := { name := "eight", desc := "([BIJ)Z", sig := { parameters := [(.array .byte), .int, .long], returnType := some .boolean }, accessFlags := 10, code := some k1c1 }
def k1c2 : Code := { maxStack := 5, maxLocals := 24, code := code, exceptionTable := #[], attributes := #[] }
def k1m2 : Method := { name := "law", desc := "(JJJI)Z", sig := { parameters := [.long, .long, .long, .int], returnType := some .boolean }, accessFlags := 9, code := some k1c2 }
/-- com/example/auth_token_server/authtokenserver/signing/ModulusToBytesPinLaw -/
def k1 : Class := { plain "com/example/auth_token_server/authtokenserver/signing/ModulusToBytesPinLaw" (some 0) with
  accessFlags := 49
  interfaces := #[]
  cf := some (fileOf pool1 16 #[] #[{ accessFlags := 1, nameIndex := 5, descriptorIndex := 6, attributes := #[] }, { accessFlags := 10, nameIndex := 19, descriptorIndex := 20, attributes := #[] }, { accessFlags := 9, nameIndex := 24, descriptorIndex := 25, attributes := #[] }] 49 2 #[] #[])
  fields := #[]
  methods := #[k1m0, k1m1, k1m2]
  instanceTypes := #[]
  staticTypes := #[]
  resolved := Array.replicate 32 none
  statics := none }

def pool2 : Array CpInfo := pool [(1, .class_ 2), (0, u "com/example/auth_token_server/authtokenserver/signing/Modulus"), (3, .class_ 8), (1, u "java/lang/Object"), (33, u "modulus"), (0, u "[J"), (6, u "inverse"), (0, u "J"), (17, u "rSquared"), (2, u "one"), (9, u "chunkWeights"), (0, u "[[J"), (15, u "workspaces"), (0, u "Ljava/lang/ThreadLocal;"), (30, .class_ 132), (0, u "com/example/auth_token_server/authtokenserver/signing/Modulus$Workspace"), (63, u "LIMB_BITS"), (0, u "I"), (2, u "MOST_LIMBS"), (1, u "LIMB"), (0, u "HIGH_SHIFT"), (1, u "WINDOW"), (1, u "ODD_POWERS"), (1, u "SHORT_EXPONENT_BITS"), (11, u "toBytes"), (0, u "([J[B)V")] 45

def k2c0 : Code := { maxStack := 6, maxLocals := 8, code := prog_45_method_6_code, exceptionTable := #[], attributes := #[] }
def k2m0 : Method := { name := "toBytes", desc := "([J[B)V", sig := { parameters := [(.array .long), (.array .byte)], returnType := none }, accessFlags := 8, code := some k2c0 }
/-- com/example/auth_token_server/authtokenserver/signing/Modulus -/
def k2 : Class := { plain "com/example/auth_token_server/authtokenserver/signing/Modulus" (some 0) with
  accessFlags := 32
  interfaces := #[]
  cf := some (fileOf pool2 1 #[.nestMembers #[131]] #[{ accessFlags := 8, nameIndex := 221, descriptorIndex := 222, attributes := #[] }] 32 6 #[] #[{ accessFlags := 24, nameIndex := 196, descriptorIndex := 197, attributes := #[] }, { accessFlags := 24, nameIndex := 200, descriptorIndex := 197, attributes := #[] }, { accessFlags := 26, nameIndex := 202, descriptorIndex := 51, attributes := #[] }, { accessFlags := 26, nameIndex := 203, descriptorIndex := 197, attributes := #[] }, { accessFlags := 26, nameIndex := 205, descriptorIndex := 197, attributes := #[] }, { accessFlags := 26, nameIndex := 207, descriptorIndex := 197, attributes := #[] }, { accessFlags := 26, nameIndex := 209, descriptorIndex := 197, attributes := #[] }, { accessFlags := 18, nameIndex := 42, descriptorIndex := 43, attributes := #[] }, { accessFlags := 18, nameIndex := 50, descriptorIndex := 51, attributes := #[] }, { accessFlags := 18, nameIndex := 69, descriptorIndex := 43, attributes := #[] }, { accessFlags := 18, nameIndex := 72, descriptorIndex := 43, attributes := #[] }, { accessFlags := 18, nameIndex := 82, descriptorIndex := 83, attributes := #[] }, { accessFlags := 18, nameIndex := 99, descriptorIndex := 100, attributes := #[] }])
  fields := #[{ name := "LIMB_BITS", type := .int, accessFlags := 24, slot := 0, constantValue := 0 }, { name := "MOST_LIMBS", type := .int, accessFlags := 24, slot := 1, constantValue := 0 }, { name := "LIMB", type := .long, accessFlags := 26, slot := 2, constantValue := 0 }, { name := "HIGH_SHIFT", type := .int, accessFlags := 26, slot := 3, constantValue := 0 }, { name := "WINDOW", type := .int, accessFlags := 26, slot := 4, constantValue := 0 }, { name := "ODD_POWERS", type := .int, accessFlags := 26, slot := 5, constantValue := 0 }, { name := "SHORT_EXPONENT_BITS", type := .int, accessFlags := 26, slot := 6, constantValue := 0 }, { name := "modulus", type := (.array .long), accessFlags := 18, slot := 0, constantValue := 0 }, { name := "inverse", type := .long, accessFlags := 18, slot := 1, constantValue := 0 }, { name := "rSquared", type := (.array .long), accessFlags := 18, slot := 2, constantValue := 0 }, { name := "one", type := (.array .long), accessFlags := 18, slot := 3, constantValue := 0 }, { name := "chunkWeights", type := (.array (.array .long)), accessFlags := 18, slot := 4, constantValue := 0 }, { name := "workspaces", type := (.object "java/lang/ThreadLocal"), accessFlags := 18, slot := 5, constantValue := 0 }]
  methods := #[k2m0]
  instanceTypes := #[(.array .long), .long, (.array .long), (.array .long), (.array (.array .long)), (.object "java/lang/ThreadLocal")]
  staticTypes := #[.int, .int, .long, .int, .int, .int, .int]
  resolved := Array.replicate 268 none
  statics := none }

def pool3 : Array CpInfo := pool [(1, u "java/lang/Cloneable"), (0, .class_ 1), (0, u "java/lang/Object"), (0, .class_ 3)] 3

/-- java/lang/Cloneable -/
def k3 : Class := { plain "java/lang/Cloneable" (some 0) with
  accessFlags := 1537
  interfaces := #[]
  cf := some (fileOf pool3 2 #[] #[] 1537 4 #[] #[])
  fields := #[]
  methods := #[]
  instanceTypes := #[]
  staticTypes := #[]
  resolved := Array.replicate 8 none
  statics := none }

def pool4 : Array CpInfo := pool [(1, u "java/io/Serializable"), (0, .class_ 1), (0, u "java/lang/Object"), (0, .class_ 3)] 3

/-- java/io/Serializable -/
def k4 : Class := { plain "java/io/Serializable" (some 0) with
  accessFlags := 1537
  interfaces := #[]
  cf := some (fileOf pool4 2 #[] #[] 1537 4 #[] #[])
  fields := #[]
  methods := #[]
  instanceTypes := #[]
  staticTypes := #[]
  resolved := Array.replicate 8 none
  statics := none }

/-- the primitive byte -/
def k5 : Class := { plain "byte" none with kind := .primitive 'B', accessFlags := 0x411 }
/-- [B -/
def k6 : Class := { plain "[B" (some 0) with kind := .array 5 .byte, interfaces := #[3, 4], accessFlags := 1041 }

/-- the primitive int -/
def k7 : Class := { plain "int" none with kind := .primitive 'I', accessFlags := 0x411 }
/-- [I -/
def k8 : Class := { plain "[I" (some 0) with kind := .array 7 .int, interfaces := #[3, 4], accessFlags := 1041 }

/-- the primitive long -/
def k9 : Class := { plain "long" none with kind := .primitive 'J', accessFlags := 0x411 }
/-- [J -/
def k10 : Class := { plain "[J" (some 0) with kind := .array 9 .long, interfaces := #[3, 4], accessFlags := 1041 }

def heap : Heap := #[]
def classes : Array Class := #[k0, k1, k2, k3, k4, k5, k6, k7, k8, k9, k10]
def interned : List (Array UInt16 × Addr) := []
def slotsUsed : Nat := 0
def theMethod : MethodId := ⟨1, 2⟩
def args0 : Array Value := #[.long 5, .long 5, .long 5, .int 5]
def aboutOver (below : List Frame) : State where
  vm := { classes := classes, interned := interned.toArray }
  heap := heap
  slotsUsed := slotsUsed
  threads := #[{ frames := .invoking theMethod args0 :: below }]
def below0 : List Frame := [.native { method := ⟨0, 0⟩, args := #[] }]
def about1 : State := aboutOver below0
def p0 : Program := .bare "" "" ""
def e0 : Env := launch0.env 0 0 0
theorem w_frames : about1.frames = Frame.invoking theMethod args0 :: below0 := rfl
set_option maxRecDepth 65536 in
theorem w_args : argsFit about1.vm theMethod args0 = true := by decide +kernel
set_option maxRecDepth 65536 in
theorem w_heap : heapFits about1 = true := by decide +kernel
set_option maxRecDepth 65536 in
theorem w_runnable : about1.curStatus? = some .runnable := by decide +kernel
set_option maxRecDepth 65536 in
theorem w_alone : about1.alone = true := by decide +kernel
set_option maxRecDepth 65536 in
theorem w_named : about1.methodNamed? x = some theMethod := by decide +kernel
set_option maxRecDepth 65536 in
theorem w_hears : about1.hears theMethod below0 = true := by decide +kernel
set_option maxRecDepth 65536 in
theorem w_ripe : about1.ripe theMethod args0 below0 = true := by decide +kernel
theorem w_running : about1.status = .running := rfl
set_option maxRecDepth 65536 in
theorem w_room : about1.hasRoom e0.platform room_1 = true :=
  launch0.hasRoom_least _ room_1 (by decide +kernel) (by decide +kernel) (by decide +kernel) (by decide +kernel) (by decide +kernel) (by decide +kernel)
theorem allAtoms_all (ts : List Jvm.Cond) (a : Array Jvm.Value) (st : Jvm.State) : (allAtoms ts).before a st = ts.all (fun c => c.before a st) := by
  induction ts with
  | nil => rfl
  | cons c t ih =>
    show (Jvm.Cond.and c (allAtoms t)).before a st = _
    rw [Jvm.Cond.before_and, ih, List.all_cons]
def words1 : List Jvm.Cond := Jvm.Cond.code x code maxLocals ret :: tables_1
/-- a 'code' word, met by the world's own term for the bytes: nothing is compared byte by byte -/
theorem code_word {y : MethodName} {bytes : ByteArray} {mx : Nat} {rt : Option FieldType} {a : Array Value} {s : State} {m : MethodId} {meth : Method} {c : Code} (h1 : s.methodNamed? y = some m) (h2 : s.vm.method? m = some meth) (h3 : meth.code = some c) (h4 : c.code = bytes)
    (h5 : (c.maxLocals == mx && c.exceptionTable.isEmpty && decide (c.maxStack ≤ mostOperands) && decide (meth.sig.returnType = rt) && !meth.locks && decide (parseMethodDescriptor y.desc = some meth.sig)) = true) : (Jvm.Cond.code y bytes mx rt).before a s = true := by
  simp only [Bool.and_eq_true, beq_iff_eq, Bool.not_eq_true', decide_eq_true_eq] at h5
  obtain ⟨⟨⟨⟨⟨g1, g2⟩, g3⟩, g4⟩, g5⟩, g6⟩ := h5
  simp [Cond.before, Cond.holds, Cond.value, h1, h2, h3, h4, g1, g2, g3, g4, g5, g6]
def isCode : Jvm.Cond → Bool
  | .code _ _ _ _ => true
  | _ => false
theorem all_split {L : List Jvm.Cond} {P : Jvm.Cond → Bool} (h1 : L.all (fun c => isCode c || P c) = true) (h2 : ∀ c ∈ L.filter isCode, P c = true) : L.all P = true := by
  refine List.all_eq_true.mpr fun c hc => ?_
  have h := List.all_eq_true.mp h1 c hc
  rcases Bool.eq_false_or_eq_true (isCode c) with hi | hi
  · exact h2 c (List.mem_filter.mpr ⟨hc, hi⟩)
  · simpa [hi] using h
set_option maxRecDepth 65536 in
theorem w_c0 : (Jvm.Cond.code x code maxLocals ret).before args0 about1 = true := code_word (m := ⟨1, 2⟩) (meth := k1m2) (c := k1c2) (by decide +kernel) rfl rfl rfl (by decide +kernel)
set_option maxRecDepth 65536 in
theorem w_c1 : (Jvm.Cond.code ({ cls := "com/example/auth_token_server/authtokenserver/signing/Modulus", name := "toBytes", desc := "([J[B)V" } : Jvm.MethodName) prog_45_method_6_code (8 : Nat) (Option.none : Option Jvm.ClassFile.FieldType)).before args0 about1 = true := code_word (m := ⟨2, 0⟩) (meth := k2m0) (c := k2c0) (by decide +kernel) rfl rfl rfl (by decide +kernel)
set_option maxRecDepth 65536 in
theorem w_c2 : (Jvm.Cond.code ({ cls := "com/example/auth_token_server/authtokenserver/signing/ModulusToBytesPinLaw", name := "eight", desc := "([BIJ)Z" } : Jvm.MethodName) method_2_code (4 : Nat) (Option.some Jvm.ClassFile.FieldType.boolean)).before args0 about1 = true := code_word (m := ⟨1, 1⟩) (meth := k1m1) (c := k1c1) (by decide +kernel) rfl rfl rfl (by decide +kernel)
def codes1 : List Jvm.Cond := [Jvm.Cond.code x code maxLocals ret, Jvm.Cond.code ({ cls := "com/example/auth_token_server/authtokenserver/signing/Modulus", name := "toBytes", desc := "([J[B)V" } : Jvm.MethodName) prog_45_method_6_code (8 : Nat) (Option.none : Option Jvm.ClassFile.FieldType), Jvm.Cond.code ({ cls := "com/example/auth_token_server/authtokenserver/signing/ModulusToBytesPinLaw", name := "eight", desc := "([BIJ)Z" } : Jvm.MethodName) method_2_code (4 : Nat) (Option.some Jvm.ClassFile.FieldType.boolean)]
set_option maxRecDepth 65536 in
theorem codes_eq : words1.filter isCode = codes1 := rfl
theorem w_codes : ∀ c ∈ words1.filter isCode, c.before args0 about1 = true := by
  rw [codes_eq]
  intro c hc
  simp only [codes1, List.mem_cons, List.not_mem_nil, or_false] at hc
  rcases hc with rfl | rfl | rfl
  · exact w_c0
  · exact w_c1
  · exact w_c2
set_option maxRecDepth 65536 in
theorem w_t1 : words1.all (fun c => isCode c || c.before args0 about1) = true := by decide +kernel
theorem w_tables : (allAtoms (Jvm.Cond.code x code maxLocals ret :: tables_1)).before args0 about1 = true := by
  rw [allAtoms_all]
  show words1.all (fun c => c.before args0 about1) = true
  refine all_split ?_ w_codes
  rw [w_t1]
set_option maxRecDepth 65536 in
theorem w_case : (Jvm.Cond.and given_1 narrow_1).before args0 about1 = true := by decide +kernel
theorem w_applies : (headSpec (Jvm.Cond.code x code maxLocals ret :: tables_1) room_1).applies x e0.platform about1 = true :=
  (Spec.applies_iff w_frames).mpr ⟨w_running, w_runnable, w_alone, w_named, w_hears, w_ripe, w_room, w_tables⟩
theorem atStart : AtStart classFile x code maxLocals ret World_1 tables_1 room_1 Calls_1 rest_1 Pre_1 launch0 p0 e0 about1 theMethod args0 below0 :=
  ⟨lists_1, trivial, launch0.admits_env _ _ _, launch0.least_env, fairChoices_fair.cas, fairChoices_fair.clock, w_frames, w_args, w_heap, w_applies, trivial, trivial, w_case⟩
end start1
theorem witness_1 : WitnessClaimed_1 := ⟨start1.p0, start1.e0, start1.about1, start1.theMethod, start1.args0, start1.below0, start1.atStart⟩
end Jvm.Pilot.@@N@@
