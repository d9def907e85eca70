import JvmDerived
import JvmDerived.Pilot.@@N@@Statement
import JvmDerived.Pilot.@@N@@Code
set_option linter.unusedVariables false
set_option linter.unusedSimpArgs false
namespace Jvm.Pilot.@@N@@
open Jvm Jvm.ClassFile Sem Op Lib Jvm.Free Jvm.Stand Jvm.LawKit Jvm.RoadKit Bundle Jvm.Pilot.@@N@@.Jvm.D

section OwnKit
/-- from here the run comes to a return that says Q -/
def OFin (n0 : Nat) (p : Program) (e : Env) (below : List Frame) (s : State) (Q : Option Value → Heap → Prop) (ck sk : Nat) (T : State) (g : JFrame) : Prop :=
  ∃ s₂ o, Steps p.tables e below (T.setTop g) s₂ ∧ s₂.status = .running ∧ Ended s₂ below o ∧ ∃ v L, o = .returned v ∧ (Fr n0 L ∧ n0 ≤ s₂.heap.size ∧ Q v s₂.heap) ∧ FrameEnd s o s₂ L ck sk
/-- where the walk of a body stands, with all that is known of the body -/
def OG (l : Launch) (Z : State) (y : MethodName) (bytes : ByteArray) (maxl : Nat) (ret : Option FieldType) (n0 : Nat) (p : Program) (e : Env) (R : Room) (s : State) (m : MethodId) (args : Array Value) (below : List Frame) (meth : Method) (c : Code) (T : State) (h : Heap) (cells slots : Nat) : Prop :=
  p.tables.exec = Jvm.exec ∧ c.code = bytes ∧ c.maxLocals = maxl ∧ s.vm.findClass y.cls = some m.cls ∧ meth.name = y.name ∧ meth.sig.returnType = ret ∧ meth.locks = false ∧ Z.Warmed39 s.vm ∧ T.heap = h ∧ n0 ≤ h.size ∧ ∃ locs, Stand p l e R s m args below meth c T locs cells slots ∧ Fr n0 locs
/-- a body's contract -/
def OMet (l : Launch) (Z : State) (y : MethodName) (bytes : ByteArray) (maxl : Nat) (ret : Option FieldType) (rm : Room) (as' : Array Value) (h0 : Heap) (n0 : Nat) (ck sk : Nat) (Q : Option Value → Heap → Prop) : Prop :=
  ∀ ws : List Jvm.Cond, MetFree l y (head1 (Jvm.Cond.code y bytes maxl ret :: ws) rm) (fun a U => a = as' ∧ Z.Warmed39 U.vm ∧ U.heap = h0) (fun _ _ _ _ _ => True) (fun _ U o U' => ∃ v L, o = .returned v ∧ (Fr n0 L ∧ n0 ≤ U'.heap.size ∧ Q v U'.heap) ∧ FrameEnd U o U' L ck sk)
variable {l : Launch} {Z : State} {y : MethodName} {bytes : ByteArray} {maxl : Nat} {ret : Option FieldType} {n0 : Nat} {p : Program} {e : Env} {R : Room} {s : State} {m : MethodId} {args : Array Value} {below : List Frame} {meth : Method} {c : Code} {T : State} {h : Heap} {cells slots ck sk : Nat} {Q : Option Value → Heap → Prop} {pc pc' : Nat} {Ls : Array Slot} {rest : List Value} {a0 : Array Value}
theorem o_step {T' : State} {g g' : JFrame} (st : ∀ t, Steps p.tables e below (T'.setTop g') t → Steps p.tables e below (T.setTop g) t) (k : OFin n0 p e below s Q ck sk T' g') : OFin n0 p e below s Q ck sk T g := by
  obtain ⟨s₂, o, h1, r⟩ := k
  exact ⟨s₂, o, st _ h1, r⟩
theorem o_body {rm : Room} {as' : Array Value} {h0 : Heap} (hy : plainFor y = true) (hz : n0 ≤ h0.size) (hent : ∀ m, entryFrame m as' maxl = mkF m 0 Ls [])
    (body : ∀ (p : Program) (e : Env) (s : State) (m : MethodId) (below : List Frame) (meth : Method) (c : Code) (s₁ : State), OG l Z y bytes maxl ret n0 p e rm s m as' below meth c s₁ h0 0 0 → OFin n0 p e below s Q ck sk s₁ (mkF m 0 Ls [])) : OMet l Z y bytes maxl ret rm as' h0 n0 ck sk Q := by
  intro ws
  refine MetFree.of_bodySF hy hisR ?_
  intro p e s m args below meth c s₁ Bd hml0 hP hK
  obtain ⟨ha, hZ, hh⟩ := hP
  subst ha
  have e0 : s₁.heap = h0 := by rw [← hh, Bd.state]; rfl
  have k := body p e s m below meth c s₁ ⟨Bd.exec, Bd.bytes, hml0, findClass_of_methodNamed Bd.named, (name_of_methodNamed Bd.named Bd.method).1, Bd.returns, Bd.notSynchronized, hZ, e0, hz, [], Stand.of_body Bd, Fr.nil n0⟩
  rw [← hent m] at k
  exact k
theorem OG.sz (G : OG l Z y bytes maxl ret n0 p e R s m args below meth c T h cells slots) : n0 ≤ h.size := G.2.2.2.2.2.2.2.2.2.1
theorem OG.eh (G : OG l Z y bytes maxl ret n0 p e R s m args below meth c T h cells slots) : T.heap = h := G.2.2.2.2.2.2.2.2.1
theorem OG.wm (G : OG l Z y bytes maxl ret n0 p e R s m args below meth c T h cells slots) : Z.Warmed39 s.vm := G.2.2.2.2.2.2.2.1
theorem o_iloadN (G : OG l Z y bytes maxl ret n0 p e R s m args below meth c T h cells slots) {k0 : Fin 4} {v : Int32} (hd : decode bytes pc = .ok (.iload_n k0, 1)) (hp : pc + 1 = pc') (hl : Ls[k0.val]? = some (.val (.int v))) (k : OFin n0 p e below s Q ck sk T (mkF m pc' Ls (.int v :: rest))) : OFin n0 p e below s Q ck sk T (mkF m pc Ls rest) := by
  subst hp
  obtain ⟨hx, hby, -, -, -, -, -, -, -, -, locs, X, -⟩ := G
  exact o_step (fun _ hr => XS.iloadN X.here hx rfl (hb hby hd) hl hr) k
theorem o_iload (G : OG l Z y bytes maxl ret n0 p e R s m args below meth c T h cells slots) {k0 : Nat} {v : Int32} (hd : decode bytes pc = .ok (.iload k0, 2)) (hp : pc + 2 = pc') (hl : Ls[k0]? = some (.val (.int v))) (k : OFin n0 p e below s Q ck sk T (mkF m pc' Ls (.int v :: rest))) : OFin n0 p e below s Q ck sk T (mkF m pc Ls rest) := by
  subst hp
  obtain ⟨hx, hby, -, -, -, -, -, -, -, -, locs, X, -⟩ := G
  exact o_step (fun _ hr => XS.iload X.here hx rfl (hb hby hd) hl hr) k
theorem o_lloadN (G : OG l Z y bytes maxl ret n0 p e R s m args below meth c T h cells slots) {k0 : Fin 4} {v : Int64} (hd : decode bytes pc = .ok (.lload_n k0, 1)) (hp : pc + 1 = pc') (hl : Ls[k0.val]? = some (.val (.long v))) (k : OFin n0 p e below s Q ck sk T (mkF m pc' Ls (.long v :: rest))) : OFin n0 p e below s Q ck sk T (mkF m pc Ls rest) := by
  subst hp
  obtain ⟨hx, hby, -, -, -, -, -, -, -, -, locs, X, -⟩ := G
  exact o_step (fun _ hr => XS.lloadN X.here hx rfl (hb hby hd) hl hr) k
theorem o_lload (G : OG l Z y bytes maxl ret n0 p e R s m args below meth c T h cells slots) {k0 : Nat} {v : Int64} (hd : decode bytes pc = .ok (.lload k0, 2)) (hp : pc + 2 = pc') (hl : Ls[k0]? = some (.val (.long v))) (k : OFin n0 p e below s Q ck sk T (mkF m pc' Ls (.long v :: rest))) : OFin n0 p e below s Q ck sk T (mkF m pc Ls rest) := by
  subst hp
  obtain ⟨hx, hby, -, -, -, -, -, -, -, -, locs, X, -⟩ := G
  exact o_step (fun _ hr => XS.lload X.here hx rfl (hb hby hd) hl hr) k
theorem o_aloadN (G : OG l Z y bytes maxl ret n0 p e R s m args below meth c T h cells slots) {k0 : Fin 4} {v : Value} (hd : decode bytes pc = .ok (.aload_n k0, 1)) (hp : pc + 1 = pc') (hl : Ls[k0.val]? = some (.val v)) (hv : v.isRef = true) (k : OFin n0 p e below s Q ck sk T (mkF m pc' Ls (v :: rest))) : OFin n0 p e below s Q ck sk T (mkF m pc Ls rest) := by
  subst hp
  obtain ⟨hx, hby, -, -, -, -, -, -, -, -, locs, X, -⟩ := G
  exact o_step (fun _ hr => XS.aloadN X.here hx rfl (hb hby hd) hl hv hr) k
theorem o_aload (G : OG l Z y bytes maxl ret n0 p e R s m args below meth c T h cells slots) {k0 : Nat} {v : Value} (hd : decode bytes pc = .ok (.aload k0, 2)) (hp : pc + 2 = pc') (hl : Ls[k0]? = some (.val v)) (hv : v.isRef = true) (k : OFin n0 p e below s Q ck sk T (mkF m pc' Ls (v :: rest))) : OFin n0 p e below s Q ck sk T (mkF m pc Ls rest) := by
  subst hp
  obtain ⟨hx, hby, -, -, -, -, -, -, -, -, locs, X, -⟩ := G
  exact o_step (fun _ hr => XS.aload X.here hx rfl (hb hby hd) hl hv hr) k
theorem o_istoreN (G : OG l Z y bytes maxl ret n0 p e R s m args below meth c T h cells slots) {k0 : Fin 4} {v : Int32} {l' : Array Slot} (hd : decode bytes pc = .ok (.istore_n k0, 1)) (hp : pc + 1 = pc') (hl : storeLocals Ls k0.val (.int v) = some l') (k : OFin n0 p e below s Q ck sk T (mkF m pc' l' rest)) : OFin n0 p e below s Q ck sk T (mkF m pc Ls (.int v :: rest)) := by
  subst hp
  obtain ⟨hx, hby, -, -, -, -, -, -, -, -, locs, X, -⟩ := G
  exact o_step (fun _ hr => XS.istoreN X.here hx rfl (hb hby hd) rfl hl hr) k
theorem o_istore (G : OG l Z y bytes maxl ret n0 p e R s m args below meth c T h cells slots) {k0 : Nat} {v : Int32} {l' : Array Slot} (hd : decode bytes pc = .ok (.istore k0, 2)) (hp : pc + 2 = pc') (hl : storeLocals Ls k0 (.int v) = some l') (k : OFin n0 p e below s Q ck sk T (mkF m pc' l' rest)) : OFin n0 p e below s Q ck sk T (mkF m pc Ls (.int v :: rest)) := by
  subst hp
  obtain ⟨hx, hby, -, -, -, -, -, -, -, -, locs, X, -⟩ := G
  exact o_step (fun _ hr => XS.istore X.here hx rfl (hb hby hd) rfl hl hr) k
theorem o_lstore (G : OG l Z y bytes maxl ret n0 p e R s m args below meth c T h cells slots) {k0 : Nat} {v : Int64} {l' : Array Slot} (hd : decode bytes pc = .ok (.lstore k0, 2)) (hp : pc + 2 = pc') (hl : storeLocals Ls k0 (.long v) = some l') (k : OFin n0 p e below s Q ck sk T (mkF m pc' l' rest)) : OFin n0 p e below s Q ck sk T (mkF m pc Ls (.long v :: rest)) := by
  subst hp
  obtain ⟨hx, hby, -, -, -, -, -, -, -, -, locs, X, -⟩ := G
  exact o_step (fun _ hr => XS.lstore X.here hx rfl (hb hby hd) rfl hl hr) k
theorem o_astoreN (G : OG l Z y bytes maxl ret n0 p e R s m args below meth c T h cells slots) {k0 : Fin 4} {v : Value} {l' : Array Slot} (hd : decode bytes pc = .ok (.astore_n k0, 1)) (hp : pc + 1 = pc') (hv : v.isRef = true) (hl : storeLocals Ls k0.val v = some l') (k : OFin n0 p e below s Q ck sk T (mkF m pc' l' rest)) : OFin n0 p e below s Q ck sk T (mkF m pc Ls (v :: rest)) := by
  subst hp
  obtain ⟨hx, hby, -, -, -, -, -, -, -, -, locs, X, -⟩ := G
  exact o_step (fun _ hr => XS.astoreN X.here hx rfl (hb hby hd) rfl hv hl hr) k
theorem o_astore (G : OG l Z y bytes maxl ret n0 p e R s m args below meth c T h cells slots) {k0 : Nat} {v : Value} {l' : Array Slot} (hd : decode bytes pc = .ok (.astore k0, 2)) (hp : pc + 2 = pc') (hv : v.isRef = true) (hl : storeLocals Ls k0 v = some l') (k : OFin n0 p e below s Q ck sk T (mkF m pc' l' rest)) : OFin n0 p e below s Q ck sk T (mkF m pc Ls (v :: rest)) := by
  subst hp
  obtain ⟨hx, hby, -, -, -, -, -, -, -, -, locs, X, -⟩ := G
  exact o_step (fun _ hr => XS.astore X.here hx rfl (hb hby hd) rfl hv hl hr) k
theorem o_iconst (G : OG l Z y bytes maxl ret n0 p e R s m args below meth c T h cells slots) {i : Int} {v : Int32} (hd : decode bytes pc = .ok (.iconst i, 1)) (hp : pc + 1 = pc') (hv : Int32.ofInt i = v) (k : OFin n0 p e below s Q ck sk T (mkF m pc' Ls (.int v :: rest))) : OFin n0 p e below s Q ck sk T (mkF m pc Ls rest) := by
  subst hp
  subst hv
  obtain ⟨hx, hby, -, -, -, -, -, -, -, -, locs, X, -⟩ := G
  exact o_step (fun _ hr => XS.iconst X.here hx rfl (hb hby hd) hr) k
theorem o_bipush (G : OG l Z y bytes maxl ret n0 p e R s m args below meth c T h cells slots) {i : Int} {v : Int32} (hd : decode bytes pc = .ok (.bipush i, 2)) (hp : pc + 2 = pc') (hv : (Int8.ofInt i).toInt32 = v) (k : OFin n0 p e below s Q ck sk T (mkF m pc' Ls (.int v :: rest))) : OFin n0 p e below s Q ck sk T (mkF m pc Ls rest) := by
  subst hp
  subst hv
  obtain ⟨hx, hby, -, -, -, -, -, -, -, -, locs, X, -⟩ := G
  exact o_step (fun _ hr => XS.bipush X.here hx rfl (hb hby hd) hr) k
theorem o_lconst (G : OG l Z y bytes maxl ret n0 p e R s m args below meth c T h cells slots) {i : Fin 2} {v : Int64} (hd : decode bytes pc = .ok (.lconst i, 1)) (hp : pc + 1 = pc') (hv : Int64.ofNat i = v) (k : OFin n0 p e below s Q ck sk T (mkF m pc' Ls (.long v :: rest))) : OFin n0 p e below s Q ck sk T (mkF m pc Ls rest) := by
  subst hp
  subst hv
  obtain ⟨hx, hby, -, -, -, -, -, -, -, -, locs, X, -⟩ := G
  exact o_step (fun _ hr => XS.lconst X.here hx rfl (hb hby hd) hr) k
theorem o_iadd (G : OG l Z y bytes maxl ret n0 p e R s m args below meth c T h cells slots) {u w v : Int32} (hd : decode bytes pc = .ok (.iadd, 1)) (hp : pc + 1 = pc') (hv : u + w = v) (k : OFin n0 p e below s Q ck sk T (mkF m pc' Ls (.int v :: rest))) : OFin n0 p e below s Q ck sk T (mkF m pc Ls (.int w :: .int u :: rest)) := by
  subst hp
  subst hv
  obtain ⟨hx, hby, -, -, -, -, -, -, -, -, locs, X, -⟩ := G
  exact o_step (fun _ hr => XS.iadd X.here hx rfl (hb hby hd) rfl hr) k
theorem o_isub (G : OG l Z y bytes maxl ret n0 p e R s m args below meth c T h cells slots) {u w v : Int32} (hd : decode bytes pc = .ok (.isub, 1)) (hp : pc + 1 = pc') (hv : u - w = v) (k : OFin n0 p e below s Q ck sk T (mkF m pc' Ls (.int v :: rest))) : OFin n0 p e below s Q ck sk T (mkF m pc Ls (.int w :: .int u :: rest)) := by
  subst hp
  subst hv
  obtain ⟨hx, hby, -, -, -, -, -, -, -, -, locs, X, -⟩ := G
  exact o_step (fun _ hr => XS.isub X.here hx rfl (hb hby hd) rfl hr) k
theorem o_lsub (G : OG l Z y bytes maxl ret n0 p e R s m args below meth c T h cells slots) {u w v : Int64} (hd : decode bytes pc = .ok (.lsub, 1)) (hp : pc + 1 = pc') (hv : u - w = v) (k : OFin n0 p e below s Q ck sk T (mkF m pc' Ls (.long v :: rest))) : OFin n0 p e below s Q ck sk T (mkF m pc Ls (.long w :: .long u :: rest)) := by
  subst hp
  subst hv
  obtain ⟨hx, hby, -, -, -, -, -, -, -, -, locs, X, -⟩ := G
  exact o_step (fun _ hr => XS.lsub X.here hx rfl (hb hby hd) rfl hr) k
theorem o_imul (G : OG l Z y bytes maxl ret n0 p e R s m args below meth c T h cells slots) {u w v : Int32} (hd : decode bytes pc = .ok (.imul, 1)) (hp : pc + 1 = pc') (hv : u * w = v) (k : OFin n0 p e below s Q ck sk T (mkF m pc' Ls (.int v :: rest))) : OFin n0 p e below s Q ck sk T (mkF m pc Ls (.int w :: .int u :: rest)) := by
  subst hp
  subst hv
  obtain ⟨hx, hby, -, -, -, -, -, -, -, -, locs, X, -⟩ := G
  exact o_step (fun _ hr => XS.imul X.here hx rfl (hb hby hd) rfl hr) k
theorem o_iand (G : OG l Z y bytes maxl ret n0 p e R s m args below meth c T h cells slots) {u w v : Int32} (hd : decode bytes pc = .ok (.iand, 1)) (hp : pc + 1 = pc') (hv : u &&& w = v) (k : OFin n0 p e below s Q ck sk T (mkF m pc' Ls (.int v :: rest))) : OFin n0 p e below s Q ck sk T (mkF m pc Ls (.int w :: .int u :: rest)) := by
  subst hp
  subst hv
  obtain ⟨hx, hby, -, -, -, -, -, -, -, -, locs, X, -⟩ := G
  exact o_step (fun _ hr => XS.iand X.here hx rfl (hb hby hd) rfl hr) k
theorem o_land (G : OG l Z y bytes maxl ret n0 p e R s m args below meth c T h cells slots) {u w v : Int64} (hd : decode bytes pc = .ok (.land, 1)) (hp : pc + 1 = pc') (hv : u &&& w = v) (k : OFin n0 p e below s Q ck sk T (mkF m pc' Ls (.long v :: rest))) : OFin n0 p e below s Q ck sk T (mkF m pc Ls (.long w :: .long u :: rest)) := by
  subst hp
  subst hv
  obtain ⟨hx, hby, -, -, -, -, -, -, -, -, locs, X, -⟩ := G
  exact o_step (fun _ hr => XS.land X.here hx rfl (hb hby hd) rfl hr) k
theorem o_lor (G : OG l Z y bytes maxl ret n0 p e R s m args below meth c T h cells slots) {u w v : Int64} (hd : decode bytes pc = .ok (.lor, 1)) (hp : pc + 1 = pc') (hv : u ||| w = v) (k : OFin n0 p e below s Q ck sk T (mkF m pc' Ls (.long v :: rest))) : OFin n0 p e below s Q ck sk T (mkF m pc Ls (.long w :: .long u :: rest)) := by
  subst hp
  subst hv
  obtain ⟨hx, hby, -, -, -, -, -, -, -, -, locs, X, -⟩ := G
  exact o_step (fun _ hr => XS.lor X.here hx rfl (hb hby hd) rfl hr) k
theorem o_lxor (G : OG l Z y bytes maxl ret n0 p e R s m args below meth c T h cells slots) {u w v : Int64} (hd : decode bytes pc = .ok (.lxor, 1)) (hp : pc + 1 = pc') (hv : u ^^^ w = v) (k : OFin n0 p e below s Q ck sk T (mkF m pc' Ls (.long v :: rest))) : OFin n0 p e below s Q ck sk T (mkF m pc Ls (.long w :: .long u :: rest)) := by
  subst hp
  subst hv
  obtain ⟨hx, hby, -, -, -, -, -, -, -, -, locs, X, -⟩ := G
  exact o_step (fun _ hr => XS.lxor X.here hx rfl (hb hby hd) rfl hr) k
theorem o_ishl (G : OG l Z y bytes maxl ret n0 p e R s m args below meth c T h cells slots) {u v : Int32} {w : Int32} (hd : decode bytes pc = .ok (.ishl, 1)) (hp : pc + 1 = pc') (hv : u <<< (w &&& 31) = v) (k : OFin n0 p e below s Q ck sk T (mkF m pc' Ls (.int v :: rest))) : OFin n0 p e below s Q ck sk T (mkF m pc Ls (.int w :: .int u :: rest)) := by
  subst hp
  subst hv
  obtain ⟨hx, hby, -, -, -, -, -, -, -, -, locs, X, -⟩ := G
  exact o_step (fun _ hr => XS.ishl X.here hx rfl (hb hby hd) rfl hr) k
theorem o_lshl (G : OG l Z y bytes maxl ret n0 p e R s m args below meth c T h cells slots) {u v : Int64} {w : Int32} (hd : decode bytes pc = .ok (.lshl, 1)) (hp : pc + 1 = pc') (hv : u <<< (w &&& 0x3f).toInt64 = v) (k : OFin n0 p e below s Q ck sk T (mkF m pc' Ls (.long v :: rest))) : OFin n0 p e below s Q ck sk T (mkF m pc Ls (.int w :: .long u :: rest)) := by
  subst hp
  subst hv
  obtain ⟨hx, hby, -, -, -, -, -, -, -, -, locs, X, -⟩ := G
  exact o_step (fun _ hr => XS.lshl X.here hx rfl (hb hby hd) rfl hr) k
theorem o_lushr (G : OG l Z y bytes maxl ret n0 p e R s m args below meth c T h cells slots) {u v : Int64} {w : Int32} (hd : decode bytes pc = .ok (.lushr, 1)) (hp : pc + 1 = pc') (hv : (u.toUInt64 >>> (w &&& 0x3f).toInt64.toUInt64).toInt64 = v) (k : OFin n0 p e below s Q ck sk T (mkF m pc' Ls (.long v :: rest))) : OFin n0 p e below s Q ck sk T (mkF m pc Ls (.int w :: .long u :: rest)) := by
  subst hp
  subst hv
  obtain ⟨hx, hby, -, -, -, -, -, -, -, -, locs, X, -⟩ := G
  exact o_step (fun _ hr => XS.lushr X.here hx rfl (hb hby hd) rfl hr) k
theorem o_ineg (G : OG l Z y bytes maxl ret n0 p e R s m args below meth c T h cells slots) {u : Int32} {v : Int32} (hd : decode bytes pc = .ok (.ineg, 1)) (hp : pc + 1 = pc') (hv : -u = v) (k : OFin n0 p e below s Q ck sk T (mkF m pc' Ls (.int v :: rest))) : OFin n0 p e below s Q ck sk T (mkF m pc Ls (.int u :: rest)) := by
  subst hp
  subst hv
  obtain ⟨hx, hby, -, -, -, -, -, -, -, -, locs, X, -⟩ := G
  exact o_step (fun _ hr => XS.ineg X.here hx rfl (hb hby hd) rfl hr) k
theorem o_idiv (G : OG l Z y bytes maxl ret n0 p e R s m args below meth c T h cells slots) {u w v : Int32} (hd : decode bytes pc = .ok (.idiv, 1)) (hp : pc + 1 = pc') (hw0 : w ≠ 0) (hv : u / w = v) (k : OFin n0 p e below s Q ck sk T (mkF m pc' Ls (.int v :: rest))) : OFin n0 p e below s Q ck sk T (mkF m pc Ls (.int w :: .int u :: rest)) := by
  subst hp
  subst hv
  obtain ⟨hx, hby, -, -, -, -, -, -, -, -, locs, X, -⟩ := G
  exact o_step (fun _ hr => XS.idiv X.here hx rfl (hb hby hd) rfl hw0 hr) k
theorem o_irem (G : OG l Z y bytes maxl ret n0 p e R s m args below meth c T h cells slots) {u w v : Int32} (hd : decode bytes pc = .ok (.irem, 1)) (hp : pc + 1 = pc') (hw0 : w ≠ 0) (hv : u % w = v) (k : OFin n0 p e below s Q ck sk T (mkF m pc' Ls (.int v :: rest))) : OFin n0 p e below s Q ck sk T (mkF m pc Ls (.int w :: .int u :: rest)) := by
  subst hp
  subst hv
  obtain ⟨hx, hby, -, -, -, -, -, -, -, -, locs, X, -⟩ := G
  exact o_step (fun _ hr => iremM X hx rfl (hb hby hd) rfl hw0 hr) k
theorem o_dup (G : OG l Z y bytes maxl ret n0 p e R s m args below meth c T h cells slots) {v : Value} (hd : decode bytes pc = .ok (.dup, 1)) (hp : pc + 1 = pc') (hc : v.category = 1) (k : OFin n0 p e below s Q ck sk T (mkF m pc' Ls (v :: v :: rest))) : OFin n0 p e below s Q ck sk T (mkF m pc Ls (v :: rest)) := by
  subst hp
  obtain ⟨hx, hby, -, -, -, -, -, -, -, -, locs, X, -⟩ := G
  exact o_step (fun _ hr => XS.dup X.here hx rfl (hb hby hd) rfl hc hr) k
theorem o_iinc (G : OG l Z y bytes maxl ret n0 p e R s m args below meth c T h cells slots) {k0 : Nat} {cst : Int} {u w v : Int32} {l' : Array Slot} (hd : decode bytes pc = .ok (.iinc k0 cst, 3)) (hp : pc + 3 = pc') (hl : Ls[k0]? = some (.val (.int u))) (hc : Int32.ofInt cst = w) (hv : u + w = v) (hl' : storeLocals Ls k0 (.int v) = some l') (k : OFin n0 p e below s Q ck sk T (mkF m pc' l' rest)) : OFin n0 p e below s Q ck sk T (mkF m pc Ls rest) := by
  subst hp
  subst hc
  subst hv
  obtain ⟨hx, hby, -, -, -, -, -, -, -, -, locs, X, -⟩ := G
  exact o_step (fun _ hr => XS.iinc X.here hx rfl (hb hby hd) hl hl' hr) k
theorem o_goto (G : OG l Z y bytes maxl ret n0 p e R s m args below meth c T h cells slots) {o : Int} (hd : decode bytes pc = .ok (.goto o, 3)) (ho : 0 ≤ (pc : Int) + o) (hp : ((pc : Int) + o).toNat = pc') (k : OFin n0 p e below s Q ck sk T (mkF m pc' Ls rest)) : OFin n0 p e below s Q ck sk T (mkF m pc Ls rest) := by
  obtain ⟨hx, hby, -, -, -, -, -, -, -, -, locs, X, -⟩ := G
  exact o_step (fun _ hr => XS.goto X.here hx rfl (pc0 := pc) (pc' := pc') rfl (hb hby hd) ho hp hr) k
theorem o_icmp_lt (G : OG l Z y bytes maxl ret n0 p e R s m args below meth c T h cells slots) {o : Int} {pcT : Nat} {u w : Int32} (hd : decode bytes pc = .ok (.if_icmp .lt o, 3)) (ho : 0 ≤ (pc : Int) + o) (hpT : ((pc : Int) + o).toNat = pcT) (hp : pc + 3 = pc') (kT : u < w → OFin n0 p e below s Q ck sk T (mkF m pcT Ls rest)) (kF : ¬ u < w → OFin n0 p e below s Q ck sk T (mkF m pc' Ls rest)) : OFin n0 p e below s Q ck sk T (mkF m pc Ls (.int w :: .int u :: rest)) := by
  subst hp
  obtain ⟨hx, hby, -, -, -, -, -, -, -, -, locs, X, -⟩ := G
  by_cases q : u < w
  · exact o_step (fun _ hr => XS.icmpYes X.here hx rfl (pc0 := pc) (pc' := pcT) rfl (hb hby hd) rfl (tlt q).1 ho hpT hr) (kT q)
  · exact o_step (fun _ hr => XS.icmpNo X.here hx rfl (hb hby hd) rfl (flt q).1 hr) (kF q)
theorem o_if_lt (G : OG l Z y bytes maxl ret n0 p e R s m args below meth c T h cells slots) {o : Int} {pcT : Nat} {u : Int32} (hd : decode bytes pc = .ok (.ifCond .lt o, 3)) (ho : 0 ≤ (pc : Int) + o) (hpT : ((pc : Int) + o).toNat = pcT) (hp : pc + 3 = pc') (kT : u < (0 : Int32) → OFin n0 p e below s Q ck sk T (mkF m pcT Ls rest)) (kF : ¬ u < (0 : Int32) → OFin n0 p e below s Q ck sk T (mkF m pc' Ls rest)) : OFin n0 p e below s Q ck sk T (mkF m pc Ls (.int u :: rest)) := by
  subst hp
  obtain ⟨hx, hby, -, -, -, -, -, -, -, -, locs, X, -⟩ := G
  by_cases q : u < (0 : Int32)
  · exact o_step (fun _ hr => XS.ifYes X.here hx rfl (pc0 := pc) (pc' := pcT) rfl (hb hby hd) rfl ((if0 _ _).trans (tlt q).1) ho hpT hr) (kT q)
  · exact o_step (fun _ hr => XS.ifNo X.here hx rfl (hb hby hd) rfl ((if0 _ _).trans (flt q).1) hr) (kF q)
theorem o_icmp_ge (G : OG l Z y bytes maxl ret n0 p e R s m args below meth c T h cells slots) {o : Int} {pcT : Nat} {u w : Int32} (hd : decode bytes pc = .ok (.if_icmp .ge o, 3)) (ho : 0 ≤ (pc : Int) + o) (hpT : ((pc : Int) + o).toNat = pcT) (hp : pc + 3 = pc') (kT : ¬ u < w → OFin n0 p e below s Q ck sk T (mkF m pcT Ls rest)) (kF : u < w → OFin n0 p e below s Q ck sk T (mkF m pc' Ls rest)) : OFin n0 p e below s Q ck sk T (mkF m pc Ls (.int w :: .int u :: rest)) := by
  subst hp
  obtain ⟨hx, hby, -, -, -, -, -, -, -, -, locs, X, -⟩ := G
  by_cases q : ¬ u < w
  · exact o_step (fun _ hr => XS.icmpYes X.here hx rfl (pc0 := pc) (pc' := pcT) rfl (hb hby hd) rfl (flt q).2.1 ho hpT hr) (kT q)
  · have q := Decidable.not_not.mp q
    exact o_step (fun _ hr => XS.icmpNo X.here hx rfl (hb hby hd) rfl (tlt q).2.1 hr) (kF q)
theorem o_icmp_gt (G : OG l Z y bytes maxl ret n0 p e R s m args below meth c T h cells slots) {o : Int} {pcT : Nat} {u w : Int32} (hd : decode bytes pc = .ok (.if_icmp .gt o, 3)) (ho : 0 ≤ (pc : Int) + o) (hpT : ((pc : Int) + o).toNat = pcT) (hp : pc + 3 = pc') (kT : w < u → OFin n0 p e below s Q ck sk T (mkF m pcT Ls rest)) (kF : ¬ w < u → OFin n0 p e below s Q ck sk T (mkF m pc' Ls rest)) : OFin n0 p e below s Q ck sk T (mkF m pc Ls (.int w :: .int u :: rest)) := by
  subst hp
  obtain ⟨hx, hby, -, -, -, -, -, -, -, -, locs, X, -⟩ := G
  by_cases q : w < u
  · exact o_step (fun _ hr => XS.icmpYes X.here hx rfl (pc0 := pc) (pc' := pcT) rfl (hb hby hd) rfl (tlt q).2.2.1 ho hpT hr) (kT q)
  · exact o_step (fun _ hr => XS.icmpNo X.here hx rfl (hb hby hd) rfl (flt q).2.2.1 hr) (kF q)
theorem o_icmp_le (G : OG l Z y bytes maxl ret n0 p e R s m args below meth c T h cells slots) {o : Int} {pcT : Nat} {u w : Int32} (hd : decode bytes pc = .ok (.if_icmp .le o, 3)) (ho : 0 ≤ (pc : Int) + o) (hpT : ((pc : Int) + o).toNat = pcT) (hp : pc + 3 = pc') (kT : ¬ w < u → OFin n0 p e below s Q ck sk T (mkF m pcT Ls rest)) (kF : w < u → OFin n0 p e below s Q ck sk T (mkF m pc' Ls rest)) : OFin n0 p e below s Q ck sk T (mkF m pc Ls (.int w :: .int u :: rest)) := by
  subst hp
  obtain ⟨hx, hby, -, -, -, -, -, -, -, -, locs, X, -⟩ := G
  by_cases q : ¬ w < u
  · exact o_step (fun _ hr => XS.icmpYes X.here hx rfl (pc0 := pc) (pc' := pcT) rfl (hb hby hd) rfl (flt q).2.2.2 ho hpT hr) (kT q)
  · have q := Decidable.not_not.mp q
    exact o_step (fun _ hr => XS.icmpNo X.here hx rfl (hb hby hd) rfl (tlt q).2.2.2 hr) (kF q)
theorem o_if_eq (G : OG l Z y bytes maxl ret n0 p e R s m args below meth c T h cells slots) {o : Int} {pcT : Nat} {u : Int32} (hd : decode bytes pc = .ok (.ifCond .eq o, 3)) (ho : 0 ≤ (pc : Int) + o) (hpT : ((pc : Int) + o).toNat = pcT) (hp : pc + 3 = pc') (kT : u = (0 : Int32) → OFin n0 p e below s Q ck sk T (mkF m pcT Ls rest)) (kF : ¬ u = (0 : Int32) → OFin n0 p e below s Q ck sk T (mkF m pc' Ls rest)) : OFin n0 p e below s Q ck sk T (mkF m pc Ls (.int u :: rest)) := by
  subst hp
  obtain ⟨hx, hby, -, -, -, -, -, -, -, -, locs, X, -⟩ := G
  by_cases q : u = (0 : Int32)
  · exact o_step (fun _ hr => XS.ifYes X.here hx rfl (pc0 := pc) (pc' := pcT) rfl (hb hby hd) rfl ((if0 _ _).trans (teq q).1) ho hpT hr) (kT q)
  · exact o_step (fun _ hr => XS.ifNo X.here hx rfl (hb hby hd) rfl ((if0 _ _).trans (feq q).1) hr) (kF q)
theorem o_icmp_ne (G : OG l Z y bytes maxl ret n0 p e R s m args below meth c T h cells slots) {o : Int} {pcT : Nat} {u w : Int32} (hd : decode bytes pc = .ok (.if_icmp .ne o, 3)) (ho : 0 ≤ (pc : Int) + o) (hpT : ((pc : Int) + o).toNat = pcT) (hp : pc + 3 = pc') (kT : ¬ u = w → OFin n0 p e below s Q ck sk T (mkF m pcT Ls rest)) (kF : u = w → OFin n0 p e below s Q ck sk T (mkF m pc' Ls rest)) : OFin n0 p e below s Q ck sk T (mkF m pc Ls (.int w :: .int u :: rest)) := by
  subst hp
  obtain ⟨hx, hby, -, -, -, -, -, -, -, -, locs, X, -⟩ := G
  by_cases q : ¬ u = w
  · exact o_step (fun _ hr => XS.icmpYes X.here hx rfl (pc0 := pc) (pc' := pcT) rfl (hb hby hd) rfl (feq q).2 ho hpT hr) (kT q)
  · have q := Decidable.not_not.mp q
    exact o_step (fun _ hr => XS.icmpNo X.here hx rfl (hb hby hd) rfl (teq q).2 hr) (kF q)
theorem o_if_ne (G : OG l Z y bytes maxl ret n0 p e R s m args below meth c T h cells slots) {o : Int} {pcT : Nat} {u : Int32} (hd : decode bytes pc = .ok (.ifCond .ne o, 3)) (ho : 0 ≤ (pc : Int) + o) (hpT : ((pc : Int) + o).toNat = pcT) (hp : pc + 3 = pc') (kT : ¬ u = (0 : Int32) → OFin n0 p e below s Q ck sk T (mkF m pcT Ls rest)) (kF : u = (0 : Int32) → OFin n0 p e below s Q ck sk T (mkF m pc' Ls rest)) : OFin n0 p e below s Q ck sk T (mkF m pc Ls (.int u :: rest)) := by
  subst hp
  obtain ⟨hx, hby, -, -, -, -, -, -, -, -, locs, X, -⟩ := G
  by_cases q : ¬ u = (0 : Int32)
  · exact o_step (fun _ hr => XS.ifYes X.here hx rfl (pc0 := pc) (pc' := pcT) rfl (hb hby hd) rfl ((if0 _ _).trans (feq q).2) ho hpT hr) (kT q)
  · have q := Decidable.not_not.mp q
    exact o_step (fun _ hr => XS.ifNo X.here hx rfl (hb hby hd) rfl ((if0 _ _).trans (teq q).2) hr) (kF q)
theorem o_lcmp_ne (G : OG l Z y bytes maxl ret n0 p e R s m args below meth c T h cells slots) {o : Int} {pc1 pcT : Nat} {u w : Int64} (hd : decode bytes pc = .ok (.lcmp, 1)) (hp1 : pc + 1 = pc1) (hd2 : decode bytes pc1 = .ok (.ifCond .ne o, 3)) (ho : 0 ≤ (pc1 : Int) + o) (hpT : ((pc1 : Int) + o).toNat = pcT) (hp : pc1 + 3 = pc') (kT : ¬ u = w → OFin n0 p e below s Q ck sk T (mkF m pcT Ls rest)) (kF : u = w → OFin n0 p e below s Q ck sk T (mkF m pc' Ls rest)) : OFin n0 p e below s Q ck sk T (mkF m pc Ls (.long w :: .long u :: rest)) := by
  have G0 := G
  obtain ⟨hx, hby, -, -, -, -, -, -, -, -, locs, X, -⟩ := G
  subst hp1
  refine o_step (fun _ hr => XS.lcmp X.here hx rfl (hb hby hd) rfl hr) ?_
  show OFin n0 p e below s Q ck sk T (mkF m (pc + 1) Ls (.int (lcmpW u w) :: rest))
  refine o_if_ne G0 hd2 ho hpT hp (fun q => kT ?_) (fun q => kF ?_)
  · simpa only [lw_eq] using q
  · simpa only [lw_eq] using q
theorem o_ldc2 (G : OG l Z y bytes maxl ret n0 p e R s m args below meth c T h cells slots) {index : Nat} {v : Int64} (hd : decode bytes pc = .ok (.ldc2_w index, 3)) (hp : pc + 3 = pc') (w : (Jvm.Cond.constantLong y.cls index v).before a0 Z = true) (k : OFin n0 p e below s Q ck sk T (mkF m pc' Ls (.long v :: rest))) : OFin n0 p e below s Q ck sk T (mkF m pc Ls rest) := by
  subst hp
  obtain ⟨hx, hby, -, hown, -, -, -, hZ, -, -, locs, X, -⟩ := G
  exact o_step (fun _ hr => X.ldc2Long hx hown (mvT hZ w) (g := (mkF m pc Ls rest)) rfl (hb hby hd) _ hr) k
theorem o_ldc (G : OG l Z y bytes maxl ret n0 p e R s m args below meth c T h cells slots) {index : Nat} {v : Int32} (hd : decode bytes pc = .ok (.ldc index, 2)) (hp : pc + 2 = pc') (w : (Jvm.Cond.constant y.cls index v).before a0 Z = true) (k : OFin n0 p e below s Q ck sk T (mkF m pc' Ls (.int v :: rest))) : OFin n0 p e below s Q ck sk T (mkF m pc Ls rest) := by
  subst hp
  obtain ⟨hx, hby, -, hown, -, -, -, hZ, -, -, locs, X, -⟩ := G
  exact o_step (fun _ hr => X.ldcInt hx hown (mvT hZ w) (g := (mkF m pc Ls rest)) rfl (hb hby hd) _ hr) k
theorem o_ireturn {v : Int32} (G : OG l Z y bytes maxl (some .int) n0 p e R s m args below meth c T h cells slots)  (hd : decode bytes pc = .ok (.ireturn, 1)) (hq : Q (some (.int v)) h) (hc : cells ≤ ck) (hs : slots ≤ sk) : OFin n0 p e below s Q ck sk T (mkF m pc Ls (.int v :: rest)) := by
  obtain ⟨hx, hby, -, -, -, hret, hlk, -, eT, hz, locs, X, N⟩ := G
  obtain ⟨fs, hr, hrun, hended, hW, hsame⟩ := X.leave (v := some (.int v)) (fun h => by rw [hret] at h; cases h) hlk
  refine ⟨_, _, retOut X hx hret rfl (Or.inl ⟨rfl, Or.inl rfl, _, rfl⟩) (hb hby hd) hr, hrun, hended, _, _, rfl, ⟨N, ?_, ?_⟩, ⟨_, rfl⟩, hW, hsame.mono hc hs⟩
  · show n0 ≤ T.heap.size
    rw [eT]; exact hz
  · show Q _ T.heap
    rw [eT]; exact hq
theorem o_lreturn {v : Int64} (G : OG l Z y bytes maxl (some .long) n0 p e R s m args below meth c T h cells slots)  (hd : decode bytes pc = .ok (.lreturn, 1)) (hq : Q (some (.long v)) h) (hc : cells ≤ ck) (hs : slots ≤ sk) : OFin n0 p e below s Q ck sk T (mkF m pc Ls (.long v :: rest)) := by
  obtain ⟨hx, hby, -, -, -, hret, hlk, -, eT, hz, locs, X, N⟩ := G
  obtain ⟨fs, hr, hrun, hended, hW, hsame⟩ := X.leave (v := some (.long v)) (fun h => by rw [hret] at h; cases h) hlk
  refine ⟨_, _, retOut X hx hret rfl (Or.inr (Or.inl ⟨rfl, rfl, _, rfl⟩)) (hb hby hd) hr, hrun, hended, _, _, rfl, ⟨N, ?_, ?_⟩, ⟨_, rfl⟩, hW, hsame.mono hc hs⟩
  · show n0 ≤ T.heap.size
    rw [eT]; exact hz
  · show Q _ T.heap
    rw [eT]; exact hq
theorem o_areturn {v : Value} {t : FieldType} (G : OG l Z y bytes maxl (some t) n0 p e R s m args below meth c T h cells slots) (hn : narrow t v = v) (ht : t.isReference = true) (hv : v.isRef = true) (hd : decode bytes pc = .ok (.areturn, 1)) (hq : Q (some v) h) (hc : cells ≤ ck) (hs : slots ≤ sk) : OFin n0 p e below s Q ck sk T (mkF m pc Ls (v :: rest)) := by
  obtain ⟨hx, hby, -, -, -, hret, hlk, -, eT, hz, locs, X, N⟩ := G
  obtain ⟨fs, hr, hrun, hended, hW, hsame⟩ := X.leave (v := some v) (fun h => by rw [hret] at h; cases h) hlk
  refine ⟨_, _, retOut X hx hret hn (Or.inr (Or.inr (Or.inr (Or.inr ⟨rfl, ht, hv⟩)))) (hb hby hd) hr, hrun, hended, _, _, rfl, ⟨N, ?_, ?_⟩, ⟨_, rfl⟩, hW, hsame.mono hc hs⟩
  · show n0 ≤ T.heap.size
    rw [eT]; exact hz
  · show Q _ T.heap
    rw [eT]; exact hq
theorem o_nreturn {v : Int32} {t : FieldType} (G : OG l Z y bytes maxl (some t) n0 p e R s m args below meth c T h cells slots) (ht : t = .boolean ∨ t = .byte ∨ t = .char ∨ t = .short) (hd : decode bytes pc = .ok (.ireturn, 1)) (hq : Q (some (.int (nar t v))) h) (hc : cells ≤ ck) (hs : slots ≤ sk) : OFin n0 p e below s Q ck sk T (mkF m pc Ls (.int v :: rest)) := by
  obtain ⟨hx, hby, -, -, -, hret, hlk, -, eT, hz, locs, X, N⟩ := G
  obtain ⟨fs, hr, hrun, hended, hW, hsame⟩ := X.leave (v := some (.int (nar t v))) (fun h => by rw [hret] at h; cases h) hlk
  refine ⟨_, _, retN X hx hret ht (hb hby hd) hr, hrun, hended, _, _, rfl, ⟨N, ?_, ?_⟩, ⟨_, rfl⟩, hW, hsame.mono hc hs⟩
  · show n0 ≤ T.heap.size
    rw [eT]; exact hz
  · show Q _ T.heap
    rw [eT]; exact hq
theorem o_return (G : OG l Z y bytes maxl none n0 p e R s m args below meth c T h cells slots) (hd : decode bytes pc = .ok (.return_, 1)) (hq : Q none h) (hc : cells ≤ ck) (hs : slots ≤ sk) : OFin n0 p e below s Q ck sk T (mkF m pc Ls []) := by
  obtain ⟨hx, hby, -, -, -, hret, hlk, -, eT, hz, locs, X, N⟩ := G
  obtain ⟨fs, hr, hrun, hended, hW, hsame⟩ := X.leave (v := none) (fun _ => rfl) hlk
  refine ⟨_, _, X.returnOut hx hret (hb hby hd) hr, hrun, hended, _, _, rfl, ⟨N, ?_, ?_⟩, ⟨_, rfl⟩, hW, hsame.mono hc hs⟩
  · show n0 ≤ T.heap.size
    rw [eT]; exact hz
  · show Q _ T.heap
    rw [eT]; exact hq
theorem o_callS (G : OG l Z y bytes maxl ret n0 p e R s m args below meth c T h cells slots) {z : MethodName} {bz : ByteArray} {mz : Nat} {rz : Option FieldType} {rm : Room} {Q' : Option Value → Heap → Prop} {index W : Nat} {argsL st : List Value} (w1 : (Jvm.Cond.methodLink y.cls index z).before a0 Z = true) (w2 : (Jvm.Cond.static z).before a0 Z = true) (hd : decode bytes pc = .ok (.invokestatic index, 3))
    (hy : z.cls ≠ "java/lang/invoke/MethodHandle" ∧ z.cls ≠ "java/lang/invoke/VarHandle") (w3 : (Jvm.Cond.initialized z.cls).before a0 Z = true) (w4 : (Jvm.Cond.code z bz mz rz).before a0 Z = true)
    (hM : OMet l Z z bz mz rz rm argsL.toArray h n0 rm.cells rm.slots Q') (hfr : rm.frames + 1 ≤ R.frames) (hlo : W + (mz + 11) + rm.locals ≤ R.locals) (hsz : Ls.size = maxl)
    (hlen : ∀ sig, parseMethodDescriptor z.desc = some sig → argsL.length = sig.parameters.length) (hst : st = argsL.reverse ++ rest) (hW : (rest.map fun v => v.category).sum ≤ W) (hp : pc + 3 = pc') (hc : cells + rm.cells ≤ R.cells) (hs : slots + rm.slots ≤ R.slots)
    (k : ∀ (v : Option Value) (T' : State) (h' : Heap), OG l Z y bytes maxl ret n0 p e R s m args below meth c T' h' (cells + rm.cells) (slots + rm.slots) → Q' v h' → OFin n0 p e below s Q ck sk T' (mkF m pc' Ls (v.toList ++ rest))) : OFin n0 p e below s Q ck sk T (mkF m pc Ls st) := by
  subst hp hst
  obtain ⟨hx, hby, hml, hown, hnm, hret, hlk, hZ, eT, hz, locs, X, N⟩ := G
  obtain ⟨v, vm1, ⟨T', L', k', n'⟩, -, X', ⟨L, ⟨N', z', hQ⟩, l1, y1, z1⟩, st0⟩ := Jvm.LawKit.callS X hx (y := z) hown (mvT hZ w1) (mvT hZ w2) (mvT hZ w3) (mvT hZ w4) hy (backOf (W := W) (Q := fun v h L => Fr n0 L ∧ n0 ≤ h.size ∧ Q' v h) (hM []) hZ w4 w3 hfr hlo) (g := (mkF m pc Ls (argsL.reverse ++ rest))) rfl (by show Ls.size = _; rw [hml]; exact hsz) (argsL := argsL) (rest := rest) hlen rfl (by show 2 * 0 + _ ≤ _; omega) (hb hby hd) (fun _ _ => ⟨rfl, eT, hc, hs⟩)
  dsimp only [Pt.U, Pt.locs, Pt.cells, Pt.slots] at X' l1 y1 z1 st0 hQ N' z'
  subst l1 y1 z1
  exact o_step st0 (k v T' T'.heap ⟨hx, hby, hml, hown, hnm, hret, hlk, hZ, rfl, z', _, X', Fr.app N N'⟩ hQ)
theorem o_callI (G : OG l Z y bytes maxl ret n0 p e R s m args below meth c T h cells slots) {z : MethodName} {bz : ByteArray} {mz : Nat} {rz : Option FieldType} {rm : Room} {Q' : Option Value → Heap → Prop} {index W : Nat} {argsL st : List Value} {a : Addr} (hz1 : z.name = "<init>") (w1 : (Jvm.Cond.methodLink y.cls index z).before a0 Z = true) (w2 : (Jvm.Cond.instanceMethod z).before a0 Z = true) (hrz : rz = none) (hd : decode bytes pc = .ok (.invokespecial index, 3))
    (hy : z.cls ≠ "java/lang/invoke/MethodHandle" ∧ z.cls ≠ "java/lang/invoke/VarHandle") (w3 : (Jvm.Cond.initialized z.cls).before a0 Z = true) (w4 : (Jvm.Cond.code z bz mz rz).before a0 Z = true)
    (hM : OMet l Z z bz mz rz rm (.ref a :: argsL).toArray h n0 rm.cells rm.slots Q') (hfr : rm.frames + 1 ≤ R.frames) (hlo : W + (mz + 11) + rm.locals ≤ R.locals) (hsz : Ls.size = maxl)
    (hlen : ∀ sig, parseMethodDescriptor z.desc = some sig → argsL.length = sig.parameters.length) (hst : st = argsL.reverse ++ .ref a :: rest) (hW : (rest.map fun v => v.category).sum ≤ W) (hp : pc + 3 = pc') (hc : cells + rm.cells ≤ R.cells) (hs : slots + rm.slots ≤ R.slots)
    (k : ∀ (v : Option Value) (T' : State) (h' : Heap), OG l Z y bytes maxl ret n0 p e R s m args below meth c T' h' (cells + rm.cells) (slots + rm.slots) → Q' v h' → OFin n0 p e below s Q ck sk T' (mkF m pc' Ls (v.toList ++ rest))) : OFin n0 p e below s Q ck sk T (mkF m pc Ls st) := by
  subst hp hst
  obtain ⟨hx, hby, hml, hown, hnm, hret, hlk, hZ, eT, hz, locs, X, N⟩ := G
  subst hrz
  obtain ⟨v, vm1, ⟨T', L', k', n'⟩, -, X', ⟨L, ⟨N', z', hQ⟩, l1, y1, z1⟩, st0⟩ := X.specialBack hx (y := z) hz1 hown (mvT hZ w1) (mvT hZ w2) (mvT hZ w4) hy (backOf (W := W) (Q := fun v h L => Fr n0 L ∧ n0 ≤ h.size ∧ Q' v h) (hM []) hZ w4 w3 hfr hlo) (g := (mkF m pc Ls (argsL.reverse ++ .ref a :: rest))) rfl (by show Ls.size = _; rw [hml]; exact hsz) (Steps.refl _) (a := a) (argsL := argsL) (rest := rest) hlen rfl (by show 2 * 0 + _ ≤ _; omega) (hb hby hd) (fun _ _ => ⟨rfl, eT, hc, hs⟩)
  dsimp only [Pt.U, Pt.locs, Pt.cells, Pt.slots] at X' l1 y1 z1 st0 hQ N' z'
  subst l1 y1 z1
  exact o_step (fun _ hr => st0.trans hr) (k v T' T'.heap ⟨hx, hby, hml, hown, hnm, hret, hlk, hZ, rfl, z', _, X', Fr.app N N'⟩ hQ)
theorem o_callIN (G : OG l Z y bytes maxl ret n0 p e R s m args below meth c T h cells slots) {z : MethodName} {bz : ByteArray} {mz : Nat} {rz : Option FieldType} {rm : Room} {Q' : Option Value → Heap → Prop} {index W : Nat} {argsL st : List Value} {a : Addr} {host : String} (hz1 : z.name = "<init>") (w1 : (Jvm.Cond.methodLinkNest y.cls index z host).before a0 Z = true) (w2 : (Jvm.Cond.instanceMethod z).before a0 Z = true) (hrz : rz = none) (hd : decode bytes pc = .ok (.invokespecial index, 3))
    (hy : z.cls ≠ "java/lang/invoke/MethodHandle" ∧ z.cls ≠ "java/lang/invoke/VarHandle") (w3 : (Jvm.Cond.initialized z.cls).before a0 Z = true) (w4 : (Jvm.Cond.code z bz mz rz).before a0 Z = true)
    (hM : OMet l Z z bz mz rz rm (.ref a :: argsL).toArray h n0 rm.cells rm.slots Q') (hfr : rm.frames + 1 ≤ R.frames) (hlo : W + (mz + 11) + rm.locals ≤ R.locals) (hsz : Ls.size = maxl)
    (hlen : ∀ sig, parseMethodDescriptor z.desc = some sig → argsL.length = sig.parameters.length) (hst : st = argsL.reverse ++ .ref a :: rest) (hW : (rest.map fun v => v.category).sum ≤ W) (hp : pc + 3 = pc') (hc : cells + rm.cells ≤ R.cells) (hs : slots + rm.slots ≤ R.slots)
    (k : ∀ (v : Option Value) (T' : State) (h' : Heap), OG l Z y bytes maxl ret n0 p e R s m args below meth c T' h' (cells + rm.cells) (slots + rm.slots) → Q' v h' → OFin n0 p e below s Q ck sk T' (mkF m pc' Ls (v.toList ++ rest))) : OFin n0 p e below s Q ck sk T (mkF m pc Ls st) := by
  subst hp hst
  obtain ⟨hx, hby, hml, hown, hnm, hret, hlk, hZ, eT, hz, locs, X, N⟩ := G
  subst hrz
  have w1' : (Jvm.Cond.methodLinkNest y.cls index z host).before args s = true := (Cond.methodLinkNest_wide hZ w1 :)
  obtain ⟨v, vm1, ⟨T', L', k', n'⟩, -, X', ⟨L, ⟨N', z', hQ⟩, l1, y1, z1⟩, st0⟩ := X.specialBackNest hx (y := z) hz1 hown w1' (mvT hZ w2) (mvT hZ w4) hy (backOf (W := W) (Q := fun v h L => Fr n0 L ∧ n0 ≤ h.size ∧ Q' v h) (hM []) hZ w4 w3 hfr hlo) (g := (mkF m pc Ls (argsL.reverse ++ .ref a :: rest))) rfl (by show Ls.size = _; rw [hml]; exact hsz) (Steps.refl _) (a := a) (argsL := argsL) (rest := rest) hlen rfl (by show 2 * 0 + _ ≤ _; omega) (hb hby hd) (fun _ _ => ⟨rfl, eT, hc, hs⟩)
  dsimp only [Pt.U, Pt.locs, Pt.cells, Pt.slots] at X' l1 y1 z1 st0 hQ N' z'
  subst l1 y1 z1
  exact o_step (fun _ hr => st0.trans hr) (k v T' T'.heap ⟨hx, hby, hml, hown, hnm, hret, hlk, hZ, rfl, z', _, X', Fr.app N N'⟩ hQ)
theorem o_callV (G : OG l Z y bytes maxl ret n0 p e R s m args below meth c T h cells slots) {z : MethodName} {bz : ByteArray} {mz : Nat} {rz : Option FieldType} {rm : Room} {Q' : Option Value → Heap → Prop} {index W : Nat} {argsL st : List Value} {a : Addr} {C : String} (E : Exa Z h a C) (w1 : (Jvm.Cond.methodLink y.cls index z).before a0 Z = true) (w2 : (Jvm.Cond.instanceMethod z).before a0 Z = true) (w5 : (Jvm.Cond.declares z).before a0 Z = true) (w6 : (Jvm.Cond.selects C z z).before a0 Z = true) (hd : decode bytes pc = .ok (.invokevirtual index, 3))
    (hy : z.cls ≠ "java/lang/invoke/MethodHandle" ∧ z.cls ≠ "java/lang/invoke/VarHandle") (w3 : (Jvm.Cond.initialized z.cls).before a0 Z = true) (w4 : (Jvm.Cond.code z bz mz rz).before a0 Z = true)
    (hM : OMet l Z z bz mz rz rm (.ref a :: argsL).toArray h n0 rm.cells rm.slots Q') (hfr : rm.frames + 1 ≤ R.frames) (hlo : W + (mz + 11) + rm.locals ≤ R.locals) (hsz : Ls.size = maxl)
    (hlen : ∀ sig, parseMethodDescriptor z.desc = some sig → argsL.length = sig.parameters.length) (hst : st = argsL.reverse ++ .ref a :: rest) (hW : (rest.map fun v => v.category).sum ≤ W) (hp : pc + 3 = pc') (hc : cells + rm.cells ≤ R.cells) (hs : slots + rm.slots ≤ R.slots)
    (k : ∀ (v : Option Value) (T' : State) (h' : Heap), OG l Z y bytes maxl ret n0 p e R s m args below meth c T' h' (cells + rm.cells) (slots + rm.slots) → Q' v h' → OFin n0 p e below s Q ck sk T' (mkF m pc' Ls (v.toList ++ rest))) : OFin n0 p e below s Q ck sk T (mkF m pc Ls st) := by
  subst hp hst
  obtain ⟨hx, hby, hml, hown, hnm, hret, hlk, hZ, eT, hz, locs, X, N⟩ := G
  obtain ⟨cq, kq, qa, qb, qc⟩ := isOf hZ eT E
  obtain ⟨v, vm1, ⟨T', L', k', n'⟩, -, X', ⟨L, ⟨N', z', hQ⟩, l1, y1, z1⟩, st0⟩ := X.virtualBack hx (y := z) (z := z) hown (mvT hZ w1) (mvT hZ w5) (notFace_of_selects (args := #[]) (mvT hZ w6)) (mvT hZ w6) (mvT hZ w2) hy (backOf (W := W) (Q := fun v h L => Fr n0 L ∧ n0 ≤ h.size ∧ Q' v h) (hM []) hZ w4 w3 hfr hlo) qa qc (g := (mkF m pc Ls (argsL.reverse ++ .ref a :: rest))) rfl (by show Ls.size = _; rw [hml]; exact hsz) (Steps.refl _) (argsL := argsL) (rest := rest) hlen rfl (by show 2 * 0 + _ ≤ _; omega) (hb hby hd) (fun _ _ => ⟨rfl, eT, hc, hs⟩)
  dsimp only [Pt.U, Pt.locs, Pt.cells, Pt.slots] at X' l1 y1 z1 st0 hQ N' z'
  subst l1 y1 z1
  exact o_step (fun _ hr => st0.trans hr) (k v T' T'.heap ⟨hx, hby, hml, hown, hnm, hret, hlk, hZ, rfl, z', _, X', Fr.app N N'⟩ hQ)
theorem o_callPr (G : OG l Z y bytes maxl ret n0 p e R s m args below meth c T h cells slots) {z : MethodName} {bz : ByteArray} {mz : Nat} {rz : Option FieldType} {rm : Room} {Q' : Option Value → Heap → Prop} {index W : Nat} {argsL st : List Value} {a : Addr} {C : String} {kk : Nat} (E : Exa Z h a C) (w1 : (Jvm.Cond.methodLink y.cls index z).before a0 Z = true) (w2 : (Jvm.Cond.instanceMethod z).before a0 Z = true) (w5 : (Jvm.Cond.privateMethod z).before a0 Z = true) (w6 : (Jvm.Cond.instantiable z.cls kk).before a0 Z = true) (hd : decode bytes pc = .ok (.invokevirtual index, 3))
    (hy : z.cls ≠ "java/lang/invoke/MethodHandle" ∧ z.cls ≠ "java/lang/invoke/VarHandle") (w3 : (Jvm.Cond.initialized z.cls).before a0 Z = true) (w4 : (Jvm.Cond.code z bz mz rz).before a0 Z = true)
    (hM : OMet l Z z bz mz rz rm (.ref a :: argsL).toArray h n0 rm.cells rm.slots Q') (hfr : rm.frames + 1 ≤ R.frames) (hlo : W + (mz + 11) + rm.locals ≤ R.locals) (hsz : Ls.size = maxl)
    (hlen : ∀ sig, parseMethodDescriptor z.desc = some sig → argsL.length = sig.parameters.length) (hst : st = argsL.reverse ++ .ref a :: rest) (hW : (rest.map fun v => v.category).sum ≤ W) (hp : pc + 3 = pc') (hc : cells + rm.cells ≤ R.cells) (hs : slots + rm.slots ≤ R.slots)
    (k : ∀ (v : Option Value) (T' : State) (h' : Heap), OG l Z y bytes maxl ret n0 p e R s m args below meth c T' h' (cells + rm.cells) (slots + rm.slots) → Q' v h' → OFin n0 p e below s Q ck sk T' (mkF m pc' Ls (v.toList ++ rest))) : OFin n0 p e below s Q ck sk T (mkF m pc Ls st) := by
  subst hp hst
  obtain ⟨hx, hby, hml, hown, hnm, hret, hlk, hZ, eT, hz, locs, X, N⟩ := G
  obtain ⟨cq, hq1, hq2⟩ := E.cell
  have hpr : s.PrivateAt z := Cond.privateMethod_at (mvP hZ w5 (args := #[]))
  obtain ⟨ci, ki, i1, i2, -, i4, -⟩ := Cond.instantiable_spec (mvT (args := #[]) hZ w6)
  have hni : ki.isInterface = false := (Bool.or_eq_false_iff.mp i4).1
  have hsel : (Jvm.Cond.selects z.cls z z).before args s = true := selects_self_of_private i1 i2 hni hpr (mvT hZ w2) hy
  obtain ⟨v, vm1, ⟨T', L', k', n'⟩, -, X', ⟨L, ⟨N', z', hQ⟩, l1, y1, z1⟩, st0⟩ := X.privateBack hx (y := z) hown (mvT hZ w1) (mvT hZ w2) hsel hpr (mvT hZ w4) hy (backOf (W := W) (Q := fun v h L => Fr n0 L ∧ n0 ≤ h.size ∧ Q' v h) (hM []) hZ w4 w3 hfr hlo) (g := (mkF m pc Ls (argsL.reverse ++ .ref a :: rest))) rfl (by show Ls.size = _; rw [hml]; exact hsz) (Steps.refl _) (a := a) (by rw [eT]; exact hq1) hq2 (argsL := argsL) (rest := rest) hlen rfl (by show 2 * 0 + _ ≤ _; omega) (hb hby hd) (fun _ _ => ⟨rfl, eT, hc, hs⟩)
  dsimp only [Pt.U, Pt.locs, Pt.cells, Pt.slots] at X' l1 y1 z1 st0 hQ N' z'
  subst l1 y1 z1
  exact o_step (fun _ hr => st0.trans hr) (k v T' T'.heap ⟨hx, hby, hml, hown, hnm, hret, hlk, hZ, rfl, z', _, X', Fr.app N N'⟩ hQ)
theorem o_specialR (X : Stand p l e R s m args below meth c T locs cells slots) (hx : p.tables.exec = Jvm.exec) (hZ : Z.Warmed39 s.vm) {own : String} {index : Nat} {z : MethodName} (hz1 : z.name = "<init>") (hown : s.vm.findClass own = some m.cls) (w1 : (Jvm.Cond.methodRef own index z).before a0 Z = true) (w2 : (Jvm.Cond.instanceMethod z).before a0 Z = true) {bz : ByteArray} {mz : Nat} (w4 : (Jvm.Cond.code z bz mz none).before a0 Z = true)
    (hy : z.cls ≠ "java/lang/invoke/MethodHandle" ∧ z.cls ≠ "java/lang/invoke/VarHandle") {W : Nat} {Pre : Pt → Array Value → Prop} {Post : Pt → Array Value → Option Value → Pt → Prop} (hK : Back l R p e below s args z 3 W Pre Post) {g : JFrame} (hg : g.method = m) (hsize : g.locals.size = c.maxLocals) {a : Addr} {argsL rest : List Value}
    (hlen : ∀ sig, parseMethodDescriptor z.desc = some sig → argsL.length = sig.parameters.length) (hstack : g.stack = argsL.reverse ++ .ref a :: rest) (hW : 2 * g.monitorRoom + (rest.map fun v => v.category).sum ≤ W) (hdg : decode c.code g.pc = .ok (.invokespecial index, 3)) (hpre : Pre ⟨T, locs, cells, slots⟩ (.ref a :: argsL).toArray) :
    ∃ (v : Option Value) (B : Pt), Stand p l e R s m args below meth c B.U B.locs B.cells B.slots ∧ Post ⟨T, locs, cells, slots⟩ (.ref a :: argsL).toArray v B ∧ Steps p.tables e below (T.setTop g) (B.U.setTop { g with pc := g.pc + 3, stack := v.toList ++ rest }) := by
  subst hg
  have hT : Z.Warmed39 T.vm := wtrans hZ X.warmed
  obtain ⟨mz', methZ, hnZ, -⟩ := Cond.instanceMethod_spec w2
  obtain ⟨mk, methO, hnO, hmO, hstO, habO⟩ := Cond.instanceMethod_spec (mvT (args := #[]) hZ w2)
  obtain ⟨methO', cO, hmO', hcO, hbO, hlO, -, hlockO, -, hsigO⟩ := Cond.code_spec hnO (mvT (args := #[]) hZ w4)
  cases hmO.symm.trans hmO'
  obtain ⟨kO, hkO, hnameO⟩ := className_of_methodNamed hnO
  obtain ⟨hnameMO, hdescO⟩ := name_of_methodNamed hnO hmO
  have w' := Cond.methodRef_warmed39 hT hnZ hy w1
  have hc : (Z.setVm T.vm).vm.findClass own = some g.method.cls := by rw [State.vm_setVm, X.warmed.alike.findClass]; exact hown
  obtain ⟨m', c', hm', hready, hfind, hres⟩ := Cond.methodRef_named e hc w'
  have hnT : T.methodNamed? z = some mk := X.named hnO
  have hnT' : (Z.setVm T.vm).methodNamed? z = some mk := hnT
  rw [State.methodFound?_of_named hnT' hy] at hm'
  cases hm'
  have hf' := findClass_of_methodNamed hnT'
  rw [hfind] at hf'
  cases hf'
  obtain ⟨kT, hkT, heT⟩ := X.warmed.alike.2.2 _ _ hkO
  have hmT : T.vm.method? mk = some methO := by rw [X.warmed.alike.method?]; exact hmO
  have hfound : lookupSpecial T.vm mk.cls "<init>" methO.desc = .method mk := by
    rw [X.warmed.alike.lookupSpecial, hdescO, ← hz1]; exact lookupSpecial_of_named hnO hmO hstO
  obtain ⟨v, B, X', hpost, hsteps⟩ := hK g.method meth c ⟨T, locs, cells, slots⟩ { g with stack := rest } (.invokespecial index) mk (.ref a :: argsL).toArray X rfl hsize hdg hW hnT hpre
  refine ⟨v, B, X', hpost, Steps.trans ?_ hsteps⟩
  jvm_step X.here [hx, hdg, invokespecial.wp_init (e := e) (s := T) (k := kT) (meth := methO) (m := mk) (a := a) (args := argsL) (rest := rest) (f := g) X.here.top hres hready hkT hmT (hnameMO.trans hz1) hstO habO hfound (hlen _ hsigO) hstack]
  intro acts
  rw [doInvoke_state]
  exact Steps.refl _
theorem o_callIR (G : OG l Z y bytes maxl ret n0 p e R s m args below meth c T h cells slots) {z : MethodName} {bz : ByteArray} {mz : Nat} {rz : Option FieldType} {rm : Room} {Q' : Option Value → Heap → Prop} {index W : Nat} {argsL st : List Value} {a : Addr} (hz1 : z.name = "<init>") (w1 : (Jvm.Cond.methodRef y.cls index z).before a0 Z = true) (w2 : (Jvm.Cond.instanceMethod z).before a0 Z = true) (hrz : rz = none) (hd : decode bytes pc = .ok (.invokespecial index, 3))
    (hy : z.cls ≠ "java/lang/invoke/MethodHandle" ∧ z.cls ≠ "java/lang/invoke/VarHandle") (w3 : (Jvm.Cond.initialized z.cls).before a0 Z = true) (w4 : (Jvm.Cond.code z bz mz rz).before a0 Z = true)
    (hM : OMet l Z z bz mz rz rm (.ref a :: argsL).toArray h n0 rm.cells rm.slots Q') (hfr : rm.frames + 1 ≤ R.frames) (hlo : W + (mz + 11) + rm.locals ≤ R.locals) (hsz : Ls.size = maxl)
    (hlen : ∀ sig, parseMethodDescriptor z.desc = some sig → argsL.length = sig.parameters.length) (hst : st = argsL.reverse ++ .ref a :: rest) (hW : (rest.map fun v => v.category).sum ≤ W) (hp : pc + 3 = pc') (hc : cells + rm.cells ≤ R.cells) (hs : slots + rm.slots ≤ R.slots)
    (k : ∀ (v : Option Value) (T' : State) (h' : Heap), OG l Z y bytes maxl ret n0 p e R s m args below meth c T' h' (cells + rm.cells) (slots + rm.slots) → Q' v h' → OFin n0 p e below s Q ck sk T' (mkF m pc' Ls (v.toList ++ rest))) : OFin n0 p e below s Q ck sk T (mkF m pc Ls st) := by
  subst hp hst
  obtain ⟨hx, hby, hml, hown, hnm, hret, hlk, hZ, eT, hz, locs, X, N⟩ := G
  subst hrz
  obtain ⟨v, ⟨T', L', k', n'⟩, X', ⟨L, ⟨N', z', hQ⟩, l1, y1, z1⟩, st0⟩ := o_specialR X hx hZ (z := z) hz1 hown w1 w2 w4 hy (backOf (W := W) (Q := fun v h L => Fr n0 L ∧ n0 ≤ h.size ∧ Q' v h) (hM []) hZ w4 w3 hfr hlo) (g := (mkF m pc Ls (argsL.reverse ++ .ref a :: rest))) rfl (by show Ls.size = _; rw [hml]; exact hsz) (a := a) (argsL := argsL) (rest := rest) hlen rfl (by show 2 * 0 + _ ≤ _; omega) (hb hby hd) ⟨rfl, eT, hc, hs⟩
  dsimp only [Pt.U, Pt.locs, Pt.cells, Pt.slots] at X' l1 y1 z1 st0 hQ N' z'
  subst l1 y1 z1
  exact o_step (fun _ hr => st0.trans hr) (k v T' T'.heap ⟨hx, hby, hml, hown, hnm, hret, hlk, hZ, rfl, z', _, X', Fr.app N N'⟩ hQ)
theorem o_getFR (G : OG l Z y bytes maxl ret n0 p e R s m args below meth c T h cells slots) {O nm d : String} {index : Nat} {a : Addr} {v : Value} (w : (Jvm.Cond.fieldRef y.cls index O nm d).before a0 Z = true) (F : Fld Z h a O nm d v) (hd : decode bytes pc = .ok (.getfield index, 3)) (hp : pc + 3 = pc')
    (k : ∀ T', OG l Z y bytes maxl ret n0 p e R s m args below meth c T' h cells slots → OFin n0 p e below s Q ck sk T' (mkF m pc' Ls (v :: rest))) : OFin n0 p e below s Q ck sk T (mkF m pc Ls (.ref a :: rest)) := by
  subst hp
  obtain ⟨hx, hby, hml, hown, hnm, hret, hlk, hZ, eT, hz, locs, X, N⟩ := G
  have hT : Z.Warmed39 T.vm := wtrans hZ X.warmed
  have w' := Cond.fieldRef_warmed39 hT w
  have hc : (Z.setVm T.vm).vm.findClass y.cls = some m.cls := by rw [State.vm_setVm, X.warmed.alike.findClass]; exact hown
  obtain ⟨c1, k1, i1, f1, hf, hr⟩ := Cond.fieldRef_spec hc w'
  obtain ⟨cell, cf, kf, i, f, h1, h2, h3, h4, -, -, h7⟩ := F
  obtain ⟨k', hi, -⟩ := State.fieldFound?_setVm (s := Z) hT.alike h2
  cases hf.symm.trans hi
  have st := X.getfieldR hx (g := (mkF m pc Ls (.ref a :: rest))) rfl hr h3 rfl (by rw [eT]; exact h1) h4 h7 (hb hby hd) (Steps.refl _)
  exact o_step (fun _ hr => st.trans hr) (k T ⟨hx, hby, hml, hown, hnm, hret, hlk, hZ, eT, hz, _, X, N⟩)
theorem o_initO (G : OG l Z y bytes maxl ret n0 p e R s m args below meth c T h cells slots) {idx W : Nat} {a : Addr} (w1 : (Jvm.Cond.methodLink y.cls idx Lib.objectInit).before a0 Z = true) (w2 : (Jvm.Cond.instanceMethod Lib.objectInit).before a0 Z = true) (w3 : (Jvm.Cond.code Lib.objectInit ⟨#[0xb1]⟩ 1 none).before a0 Z = true) (hd : decode bytes pc = .ok (.invokespecial idx, 3)) (hp : pc + 3 = pc') (hsz : Ls.size = maxl) (hf : 1 ≤ R.frames) (hW : (rest.map fun v => v.category).sum ≤ W) (hl : W + 12 ≤ R.locals)
    (k : ∀ T', OG l Z y bytes maxl ret n0 p e R s m args below meth c T' h cells slots → OFin n0 p e below s Q ck sk T' (mkF m pc' Ls rest)) : OFin n0 p e below s Q ck sk T (mkF m pc Ls (.ref a :: rest)) := by
  subst hp
  obtain ⟨hx, hby, hml, hown, hnm, hret, hlk, hZ, eT, hz, locs, X, N⟩ := G
  obtain ⟨T', X', e', st⟩ := initO X hx hZ hown w1 w2 w3 eT (g := (mkF m pc Ls (.ref a :: rest))) rfl (by show Ls.size = _; rw [hml]; exact hsz) rfl (hb hby hd) hf (W := W) (by show 2 * 0 + _ ≤ _; omega) hl
  exact o_step st (k T' ⟨hx, hby, hml, hown, hnm, hret, hlk, hZ, e', hz, _, X', N⟩)
theorem o_new (G : OG l Z y bytes maxl ret n0 p e R s m args below meth c T h cells slots) {C : String} {index n : Nat} (w : (Jvm.Cond.classLink y.cls index C).before a0 Z = true) (wi : (Jvm.Cond.instantiable C n).before a0 Z = true) (wz : (Jvm.Cond.initialized C).before a0 Z = true) (hd : decode bytes pc = .ok (.new index, 3)) (hp : pc + 3 = pc') (hc : cells + 1 ≤ R.cells) (hl : slots + n ≤ R.slots)
    (k : ∀ (T' : State) (h' : Heap) (a : Addr), OG l Z y bytes maxl ret n0 p e R s m args below meth c T' h' (cells + 1) (slots + n) → a = h.size → n0 ≤ a → Ext h h' → Exa Z h' a C → (∀ {O nm d : String} {ty : FieldType}, Laid Z a0 C O nm d → parseFieldDescriptor d = some ty → Fld Z h' a O nm d (defaultValue ty)) → OFin n0 p e below s Q ck sk T' (mkF m pc' Ls (.ref a :: rest))) : OFin n0 p e below s Q ck sk T (mkF m pc Ls rest) := by
  subst hp
  obtain ⟨hx, hby, hml, hown, hnm, hret, hlk, hZ, eT, hz, locs, X, N⟩ := G
  obtain ⟨T', h', X', e', E', A', D', -, st⟩ := newO X hx hZ hown w wi wz eT (g := (mkF m pc Ls rest)) rfl (hb hby hd) hc hl
  exact o_step st (k T' h' h.size ⟨hx, hby, hml, hown, hnm, hret, hlk, hZ, e', Nat.le_trans hz E'.1, _, X', N⟩ rfl hz E' A' D')
theorem o_getF (G : OG l Z y bytes maxl ret n0 p e R s m args below meth c T h cells slots) {R0 O nm d host : String} {index : Nat} {a : Addr} {v : Value} (w : (Jvm.Cond.fieldLink y.cls index R0 nm d).before a0 Z = true ∨ (Jvm.Cond.fieldLinkNest y.cls index R0 nm d host).before a0 Z = true) (via : Via Z R0 O nm d) (F : Fld Z h a O nm d v) (hd : decode bytes pc = .ok (.getfield index, 3)) (hp : pc + 3 = pc')
    (k : ∀ T', OG l Z y bytes maxl ret n0 p e R s m args below meth c T' h cells slots → OFin n0 p e below s Q ck sk T' (mkF m pc' Ls (v :: rest))) : OFin n0 p e below s Q ck sk T (mkF m pc Ls (.ref a :: rest)) := by
  subst hp
  obtain ⟨hx, hby, hml, hown, hnm, hret, hlk, hZ, eT, hz, locs, X, N⟩ := G
  obtain ⟨T', X', e', st⟩ := getF X hx hZ hown w via eT F (g := (mkF m pc Ls (.ref a :: rest))) rfl rfl (hb hby hd)
  exact o_step st (k T' ⟨hx, hby, hml, hown, hnm, hret, hlk, hZ, e', hz, _, X', N⟩)
theorem o_putF (G : OG l Z y bytes maxl ret n0 p e R s m args below meth c T h cells slots) {R0 O nm d host C : String} {index kk : Nat} {ty : FieldType} {a : Addr} {v old : Value} (w : (Jvm.Cond.fieldLink y.cls index R0 nm d).before a0 Z = true ∨ (Jvm.Cond.fieldLinkNest y.cls index R0 nm d host).before a0 Z = true) (via : Via Z R0 O nm d) (F : Fld Z h a O nm d old) (E : Exa Z h a C) (L : (Jvm.Cond.lays C O nm d).before a0 Z = true ∨ ((Jvm.Cond.laysFinal C O nm d).before a0 Z = true ∧ y.cls = O ∧ y.name = "<init>")) (wi : (Jvm.Cond.instantiable C kk).before a0 Z = true)
    (hty : parseFieldDescriptor d = some ty) (hn : narrow ty v = v) (hf : fits ty v = true) (hg : n0 ≤ a) (hd : decode bytes pc = .ok (.putfield index, 3)) (hp : pc + 3 = pc')
    (k : ∀ (T' : State) (h' : Heap), OG l Z y bytes maxl ret n0 p e R s m args below meth c T' h' cells slots → Wr h h' a (Jvm.RoadKit.slotOf Z O nm d) v → OFin n0 p e below s Q ck sk T' (mkF m pc' Ls rest)) : OFin n0 p e below s Q ck sk T (mkF m pc Ls (v :: .ref a :: rest)) := by
  subst hp
  obtain ⟨hx, hby, hml, hown, hnm, hret, hlk, hZ, eT, hz, locs, X, N⟩ := G
  obtain ⟨T', h', X', e', W', st⟩ := putF X hx hZ hown w via eT F E (L.imp id (fun q => ⟨q.1, q.2.1, hnm.trans q.2.2⟩)) wi hty hn hf (g := (mkF m pc Ls (v :: .ref a :: rest))) rfl rfl (hb hby hd)
  exact o_step st (k T' h' ⟨hx, hby, hml, hown, hnm, hret, hlk, hZ, e', by rw [W'.size]; exact hz, _, X', Fr.snoc X' N hg⟩ W')
/-- an array of n places at a; place j holds f j -/
def OArr (Z : State) (h : Heap) (a : Addr) (ty : FieldType) (n : Nat) (f : Nat → Value) : Prop := ∃ cl : Cell, Arr Z h a cl ty ∧ cl.slots.size = n ∧ ∀ j, j < n → cl.slots[j]? = some (f j)
def o_set (f : Nat → Value) (i : Nat) (v : Value) : Nat → Value := fun j => if j = i then v else f j
theorem OArr.lt {a : Addr} {ty : FieldType} {n : Nat} {f : Nat → Value} (A : OArr Z h a ty n f) : a < h.size := by obtain ⟨cl, A, -⟩ := A; exact A.lt
theorem OArr.ext {h' : Heap} {a : Addr} {ty : FieldType} {n : Nat} {f : Nat → Value} (A : OArr Z h a ty n f) (E : Ext h h') : OArr Z h' a ty n f := by obtain ⟨cl, A, r⟩ := A; exact ⟨cl, A.ext E, r⟩
theorem OArr.other {h' : Heap} {a b : Addr} {sl : Nat} {v : Value} {ty : FieldType} {n : Nat} {f : Nat → Value} (A : OArr Z h b ty n f) (W : Wr h h' a sl v) (q : b ≠ a) : OArr Z h' b ty n f := by obtain ⟨cl, A, r⟩ := A; exact ⟨cl, A.other W q, r⟩
theorem OArr.keep {h' : Heap} {a : Addr} {ws : List Addr} {ty : FieldType} {n : Nat} {f : Nat → Value} (A : OArr Z h a ty n f) (K : Keep h h' ws) (q : a ∉ ws) : OArr Z h' a ty n f := by obtain ⟨cl, A, r⟩ := A; exact ⟨cl, ⟨K.2.1 a cl A.1 q, A.2⟩, r⟩
theorem OArr.same {h' : Heap} {a : Addr} {i : Nat} {v : Value} {ty : FieldType} {n : Nat} {f : Nat → Value} (A : OArr Z h a ty n f) (W : Wr h h' a i v) : OArr Z h' a ty n (o_set f i v) := by
  obtain ⟨cl, A, S, H⟩ := A
  have hi : i < n := by
    obtain ⟨cell, h1, -, h3, -⟩ := W
    cases h1.symm.trans A.1
    rw [← S]; exact h3
  refine ⟨_, A.same W, by rw [sz_set]; exact S, fun j hj => ?_⟩
  by_cases q : j = i
  · subst q; simp [Cell.setSlot, o_set, S, hi]
  · have := H j hj
    simp only [Cell.setSlot, o_set, q, if_false]
    rw [Array.getElem?_setIfInBounds_ne (Ne.symm q)]; exact this
theorem OArr.congr {a : Addr} {ty : FieldType} {n : Nat} {f f' : Nat → Value} (A : OArr Z h a ty n f) (q : ∀ j, j < n → f j = f' j) : OArr Z h a ty n f' := by
  obtain ⟨cl, A, S, H⟩ := A
  exact ⟨cl, A, S, fun j hj => by rw [← q j hj]; exact H j hj⟩
theorem o_clamp {j : Int32} {i : Nat} (h : j.toInt = (i : Int)) : ¬ j < 0 ∧ j.toNatClampNeg = i := by
  constructor
  · rw [Int32.lt_iff_toInt_lt, h]; have : (0 : Int32).toInt = 0 := rfl
    omega
  · simp only [Int32.toNatClampNeg, h]; rfl
theorem o_arraylength (G : OG l Z y bytes maxl ret n0 p e R s m args below meth c T h cells slots) {a : Addr} {ty : FieldType} {n : Nat} {f : Nat → Value} {v : Int32} (A : OArr Z h a ty n f) (hv : Nat.toInt32 n = v) (hd : decode bytes pc = .ok (.arraylength, 1)) (hp : pc + 1 = pc') (k : OFin n0 p e below s Q ck sk T (mkF m pc' Ls (.int v :: rest))) : OFin n0 p e below s Q ck sk T (mkF m pc Ls (.ref a :: rest)) := by
  subst hp hv
  obtain ⟨hx, hby, -, -, -, -, -, hZ, eT, -, locs, X, -⟩ := G
  obtain ⟨cl, A, S, -⟩ := A
  subst S
  exact o_step (fun _ hr => X.arraylength hx (by rw [eT]; exact A.1) (State.isArrayOf_alike hZ.alike A.2.1) (g := (mkF m pc Ls (.ref a :: rest))) rfl rfl (hb hby hd) _ hr) k
theorem o_aaload (G : OG l Z y bytes maxl ret n0 p e R s m args below meth c T h cells slots) {ty : FieldType} (hty : ty.isReference = true) {a : Addr} {n i : Nat} {f : Nat → Value} {j : Int32} {v : Value} (A : OArr Z h a ty n f) (hj : j.toInt = (i : Int)) (hi : i < n) (hv : f i = v) (hd : decode bytes pc = .ok (.aaload, 1)) (hp : pc + 1 = pc') (k : OFin n0 p e below s Q ck sk T (mkF m pc' Ls (v :: rest))) : OFin n0 p e below s Q ck sk T (mkF m pc Ls (.int j :: .ref a :: rest)) := by
  subst hp hv
  obtain ⟨hx, hby, -, -, -, -, -, hZ, eT, -, locs, X, -⟩ := G
  obtain ⟨cl, A, S, H⟩ := A
  obtain ⟨q1, q2⟩ := o_clamp hj
  exact o_step (fun _ hr => X.aaload hx (j := j) (v := f i) (by rw [eT]; exact A.1) (State.isArrayOf_alike hZ.alike A.2.1) hty A.2.2 (by rw [S, q2]; exact fun q => q.elim q1 (fun q => absurd hi (Nat.not_lt.mpr q))) (by rw [q2]; exact H i hi) (g := (mkF m pc Ls (.int j :: .ref a :: rest))) rfl rfl (hb hby hd) _ hr) k
theorem o_iastore (G : OG l Z y bytes maxl ret n0 p e R s m args below meth c T h cells slots) {a : Addr} {n i : Nat} {f : Nat → Value} {j : Int32} {v : Int32} (A : OArr Z h a .int n f) (hg : n0 ≤ a) (hj : j.toInt = (i : Int)) (hi : i < n) (hd : decode bytes pc = .ok (.iastore, 1)) (hp : pc + 1 = pc')
    (k : ∀ (T' : State) (h' : Heap), OG l Z y bytes maxl ret n0 p e R s m args below meth c T' h' cells slots → Wr h h' a i (.int v) → OArr Z h' a .int n (o_set f i (.int v)) → OFin n0 p e below s Q ck sk T' (mkF m pc' Ls rest)) : OFin n0 p e below s Q ck sk T (mkF m pc Ls (.int v :: .int j :: .ref a :: rest)) := by
  subst hp
  have A0 := A
  obtain ⟨hx, hby, hml, hown, hnm, hret, hlk, hZ, eT, hz, locs, X, N⟩ := G
  obtain ⟨cl, A, S, H⟩ := A
  obtain ⟨q1, q2⟩ := o_clamp hj
  obtain ⟨T', h', X', e', W', st⟩ := stI X hx hZ eT A (j := j) (x := v) (by rw [S, q2]; exact fun q => q.elim q1 (fun q => absurd hi (Nat.not_lt.mpr q))) (g := (mkF m pc Ls (.int v :: .int j :: .ref a :: rest))) rfl rfl (hb hby hd)
  rw [q2] at W' X'
  exact o_step st (k T' h' ⟨hx, hby, hml, hown, hnm, hret, hlk, hZ, e', by rw [W'.size]; exact hz, _, X', Fr.snoc X' N hg⟩ W' (A0.same W'))
theorem o_newarray (G : OG l Z y bytes maxl ret n0 p e R s m args below meth c T h cells slots) {aty : ArrayType} {n : Int32} {N cap : Nat} (w : (Jvm.Cond.arrayClass (newarray.typeOf aty)).before a0 Z = true) (hn : n.toInt = (N : Int)) (hcap : N ≤ cap) (hb8 : cap * 8 ≤ 536870912) (hd : decode bytes pc = .ok (.newarray aty, 2)) (hp : pc + 2 = pc') (hc : cells + 1 ≤ R.cells) (hl : slots + cap ≤ R.slots)
    (k : ∀ (T' : State) (h' : Heap) (a : Addr), OG l Z y bytes maxl ret n0 p e R s m args below meth c T' h' (cells + 1) (slots + cap) → a = h.size → n0 ≤ a → Ext h h' → OArr Z h' a (newarray.typeOf aty) N (fun _ => defaultValue (newarray.typeOf aty)) → OFin n0 p e below s Q ck sk T' (mkF m pc' Ls (.ref a :: rest))) : OFin n0 p e below s Q ck sk T (mkF m pc Ls (.int n :: rest)) := by
  subst hp
  obtain ⟨hx, hby, hml, hown, hnm, hret, hlk, hZ, eT, hz, locs, X, N'⟩ := G
  obtain ⟨q1, q2⟩ := o_clamp hn
  obtain ⟨T', h', cA, X', e', E', A', st⟩ := newP X hx hZ w eT (g := (mkF m pc Ls (.int n :: rest))) rfl (hb hby hd) rfl q1 (cap := cap) (by rw [q2]; exact hcap) hb8 hc hl
  refine o_step st (k T' h' h.size ⟨hx, hby, hml, hown, hnm, hret, hlk, hZ, e', Nat.le_trans hz E'.1, _, X', N'⟩ rfl hz E' ⟨_, A', by rw [sz_new, q2], fun j hj => ?_⟩)
  simp [newA, q2, hj]
theorem o_newarrayE (G : OG l Z y bytes maxl ret n0 p e R s m args below meth c T h cells slots) {aty : ArrayType} {n : Int32} {N cap : Nat} {ad : String} (had : "[" ++ (newarray.typeOf aty).toString = ad) (w : (Jvm.Cond.arrayClass (newarray.typeOf aty)).before a0 Z = true) (hn : n.toInt = (N : Int)) (hcap : N ≤ cap) (hb8 : cap * 8 ≤ 536870912) (hd : decode bytes pc = .ok (.newarray aty, 2)) (hp : pc + 2 = pc') (hc : cells + 1 ≤ R.cells) (hl : slots + cap ≤ R.slots)
    (k : ∀ (T' : State) (h' : Heap) (a : Addr), OG l Z y bytes maxl ret n0 p e R s m args below meth c T' h' (cells + 1) (slots + cap) → a = h.size → n0 ≤ a → Ext h h' → OArr Z h' a (newarray.typeOf aty) N (fun _ => defaultValue (newarray.typeOf aty)) → Exa Z h' a ad → OFin n0 p e below s Q ck sk T' (mkF m pc' Ls (.ref a :: rest))) : OFin n0 p e below s Q ck sk T (mkF m pc Ls (.int n :: rest)) := by
  subst hp
  subst had
  obtain ⟨hx, hby, hml, hown, hnm, hret, hlk, hZ, eT, hz, locs, X, N'⟩ := G
  obtain ⟨q1, q2⟩ := o_clamp hn
  have hcb : componentBytes (newarray.typeOf aty) ≤ 8 := by cases aty <;> decide
  have hby8 : n.toNatClampNeg * componentBytes (newarray.typeOf aty) ≤ 536870912 := by
    rw [q2]; exact Nat.le_trans (Nat.mul_le_mul hcap hcb) hb8
  obtain ⟨cA, kA, comp, f1, f2, f3, X', st⟩ := X.newarrayPrim hx (mvA hZ w) (g := (mkF m pc Ls (.int n :: rest))) rfl (hb hby hd) rfl q1 hby8 hc (by rw [q2]; omega)
  subst eT
  have f1' : Z.vm.findClass ("[" ++ (newarray.typeOf aty).toString) = some cA := by rw [← hZ.alike.findClass]; exact f1
  obtain ⟨kZ, z1, -⟩ := Vm.findClass_spec f1'
  obtain ⟨k', z2, z3⟩ := hZ.alike.2.2 _ _ z1
  cases f2.symm.trans z2
  have kk : kZ.kind = .array comp (newarray.typeOf aty) := by rw [← f3, z3]
  have hlast : (T.pushCell { cls := cA, slots := Array.replicate n.toNatClampNeg (defaultValue (newarray.typeOf aty)), vm := .none }).heap[T.heap.size]? = some { cls := cA, slots := Array.replicate n.toNatClampNeg (defaultValue (newarray.typeOf aty)), vm := .none } := by
    show (T.heap.push _)[T.heap.size]? = _
    simp
  have hE : Ext T.heap (T.pushCell { cls := cA, slots := Array.replicate n.toNatClampNeg (defaultValue (newarray.typeOf aty)), vm := .none }).heap := ext_of fun a q => Array.getElem?_push_lt q |>.trans (Array.getElem?_eq_getElem q).symm
  have hA : Arr Z (T.pushCell { cls := cA, slots := Array.replicate n.toNatClampNeg (defaultValue (newarray.typeOf aty)), vm := .none }).heap T.heap.size { cls := cA, slots := Array.replicate n.toNatClampNeg (defaultValue (newarray.typeOf aty)), vm := .none } (newarray.typeOf aty) := ⟨hlast, ⟨by simp, kZ, z1, comp, kk⟩, by simp⟩
  refine o_step st (k _ _ T.heap.size ⟨hx, hby, hml, hown, hnm, hret, hlk, hZ, rfl, Nat.le_trans hz hE.1, _, X'.more (Nat.le_refl _) (by rw [q2]; omega), N'⟩ rfl hz hE ⟨_, hA, by simp [q2], fun j hj => ?_⟩ (exa_arr hA f1' rfl))
  simp [q2, hj]
/-- the array at a may hold objects of the class C -/
def OMay (Z : State) (h : Heap) (a : Addr) (C : String) : Prop := ∃ (cl : Cell) (k : Class) (comp : ClassId) (t : FieldType), h[a]? = some cl ∧ Z.vm.classes[cl.cls]? = some k ∧ k.kind = .array comp t ∧ Z.vm.findClass C = some comp
theorem o_may_arr {a : Addr} {k : ClassId} {ty : FieldType} {n : Int32} {C : String} (A : Arr Z h a (newA k (.array ty) n) (.array ty)) (O : OvrA Z k ty C) : OMay Z h a C := by
  obtain ⟨kk, comp, o1, o2, o3⟩ := O
  exact ⟨_, kk, comp, _, A.1, o1, o2, o3⟩
theorem o_may_obj {a : Addr} {k : ClassId} {n : Int32} {C : String} (A : Arr Z h a (newA k (.object C) n) (.object C)) (O : Ovr Z k C) : OMay Z h a C := by
  obtain ⟨kk, comp, o1, o2, o3⟩ := O
  exact ⟨_, kk, comp, _, A.1, o1, o2, o3⟩
theorem OMay.ext {h' : Heap} {a : Addr} {C : String} (M : OMay Z h a C) (E : Ext h h') : OMay Z h' a C := by obtain ⟨cl, k, comp, t, h1, r⟩ := M; exact ⟨cl, k, comp, t, E.2 _ _ h1, r⟩
theorem OMay.wr {h' : Heap} {a b : Addr} {sl : Nat} {v : Value} {C : String} (M : OMay Z h a C) (W : Wr h h' b sl v) : OMay Z h' a C := by
  obtain ⟨cl, k, comp, t, h1, h2, r⟩ := M
  obtain ⟨c', e1, e2, -⟩ := wr_at W h1
  exact ⟨c', k, comp, t, e1, by rw [e2]; exact h2, r⟩
theorem OMay.keep {h' : Heap} {a : Addr} {ws : List Addr} {C : String} (M : OMay Z h a C) (K : Keep h h' ws) : OMay Z h' a C := by
  obtain ⟨cl, k, comp, t, h1, h2, r⟩ := M
  obtain ⟨c', e1, e2, -⟩ := K.2.2 _ _ h1
  exact ⟨c', k, comp, t, e1, by rw [e2]; exact h2, r⟩
theorem OMay.sto {a b : Addr} {C : String} (M : OMay Z h a C) (I : Ins Z h b C true) : Sto Z h a (.ref b) := by
  obtain ⟨cl, k, comp, t, h1, h2, h3, h4⟩ := M
  obtain ⟨cv, cT, i1, i2, i3⟩ := I
  cases h4.symm.trans i2
  simp only [Bool.and_eq_true, Bool.not_eq_true'] at i3
  obtain ⟨kc, q⟩ := Vm.classAt_of_findClass h4
  obtain ⟨kv, q2⟩ := Vm.classAt_of_assignable i3.2 ⟨kc, q⟩
  exact Or.inr ⟨cl, cv, k, kv, kc, comp, t, b, h1, h2, h3, q, rfl, i1, i3.1, q2, i3.2⟩
theorem o_aastore (G : OG l Z y bytes maxl ret n0 p e R s m args below meth c T h cells slots) {a : Addr} {ty : FieldType} {n i : Nat} {f : Nat → Value} {j : Int32} {v : Value} (A : OArr Z h a ty n f) (hty : ty.isReference = true) (S : Sto Z h a v) (hg : n0 ≤ a) (hj : j.toInt = (i : Int)) (hi : i < n) (hd : decode bytes pc = .ok (.aastore, 1)) (hp : pc + 1 = pc')
    (k : ∀ (T' : State) (h' : Heap), OG l Z y bytes maxl ret n0 p e R s m args below meth c T' h' cells slots → Wr h h' a i v → OArr Z h' a ty n (o_set f i v) → OFin n0 p e below s Q ck sk T' (mkF m pc' Ls rest)) : OFin n0 p e below s Q ck sk T (mkF m pc Ls (v :: .int j :: .ref a :: rest)) := by
  subst hp
  have A0 := A
  obtain ⟨hx, hby, hml, hown, hnm, hret, hlk, hZ, eT, hz, locs, X, N⟩ := G
  obtain ⟨cl, A, Sz, H⟩ := A
  obtain ⟨q1, q2⟩ := o_clamp hj
  obtain ⟨T', h', X', e', W', st⟩ := stR X hx hZ eT A (j := j) (v := v) (by rw [Sz, q2]; exact fun q => q.elim q1 (fun q => absurd hi (Nat.not_lt.mpr q))) hty S (g := (mkF m pc Ls (v :: .int j :: .ref a :: rest))) rfl rfl (hb hby hd)
  rw [q2] at W' X'
  exact o_step st (k T' h' ⟨hx, hby, hml, hown, hnm, hret, hlk, hZ, e', by rw [W'.size]; exact hz, _, X', Fr.snoc X' N hg⟩ W' (A0.same W'))
theorem o_anewarray (G : OG l Z y bytes maxl ret n0 p e R s m args below meth c T h cells slots) {C : String} {index : Nat} {n : Int32} {N cap : Nat} (w1 : (Jvm.Cond.classLink y.cls index C).before a0 Z = true) (w2 : (Jvm.Cond.arrayOver (.object C)).before a0 Z = true) (hn : n.toInt = (N : Int)) (hcap : N ≤ cap) (hb8 : cap * 8 ≤ 536870912) (hd : decode bytes pc = .ok (.anewarray index, 3)) (hp : pc + 3 = pc') (hc : cells + 1 ≤ R.cells) (hl : slots + cap ≤ R.slots)
    (k : ∀ (T' : State) (h' : Heap) (a : Addr), OG l Z y bytes maxl ret n0 p e R s m args below meth c T' h' (cells + 1) (slots + cap) → a = h.size → n0 ≤ a → Ext h h' → OArr Z h' a (.object C) N (fun _ => .null) → OMay Z h' a C → OFin n0 p e below s Q ck sk T' (mkF m pc' Ls (.ref a :: rest))) : OFin n0 p e below s Q ck sk T (mkF m pc Ls (.int n :: rest)) := by
  subst hp
  obtain ⟨hx, hby, hml, hown, hnm, hret, hlk, hZ, eT, hz, locs, X, N'⟩ := G
  obtain ⟨q1, q2⟩ := o_clamp hn
  obtain ⟨T', h', cA, X', e', E', A', O', st⟩ := newR X hx hZ hown w1 w2 eT (g := (mkF m pc Ls (.int n :: rest))) rfl (hb hby hd) rfl q1 (cap := cap) (by rw [q2]; exact hcap) hb8 hc hl
  refine o_step st (k T' h' h.size ⟨hx, hby, hml, hown, hnm, hret, hlk, hZ, e', Nat.le_trans hz E'.1, _, X', N'⟩ rfl hz E' ⟨_, A', by rw [sz_new, q2], fun j hj => ?_⟩ (o_may_obj A' O'))
  simp [newA, q2, hj, defaultValue]
theorem o_anewarrayA (G : OG l Z y bytes maxl ret n0 p e R s m args below meth c T h cells slots) {C ad : String} {ty : FieldType} {index : Nat} {n : Int32} {N cap : Nat} (hC : (FieldType.array ty).toString = C) (had : "[" ++ C = ad) (w1 : (Jvm.Cond.classLink y.cls index C).before a0 Z = true) (w2 : (Jvm.Cond.arrayOver (.array ty)).before a0 Z = true) (hn : n.toInt = (N : Int)) (hcap : N ≤ cap) (hb8 : cap * 8 ≤ 536870912) (hd : decode bytes pc = .ok (.anewarray index, 3)) (hp : pc + 3 = pc') (hc : cells + 1 ≤ R.cells) (hl : slots + cap ≤ R.slots)
    (k : ∀ (T' : State) (h' : Heap) (a : Addr), OG l Z y bytes maxl ret n0 p e R s m args below meth c T' h' (cells + 1) (slots + cap) → a = h.size → n0 ≤ a → Ext h h' → OArr Z h' a (.array ty) N (fun _ => .null) → OMay Z h' a C → OFin n0 p e below s Q ck sk T' (mkF m pc' Ls (.ref a :: rest))) : OFin n0 p e below s Q ck sk T (mkF m pc Ls (.int n :: rest)) := by
  subst hp
  obtain ⟨hx, hby, hml, hown, hnm, hret, hlk, hZ, eT, hz, locs, X, N'⟩ := G
  obtain ⟨q1, q2⟩ := o_clamp hn
  obtain ⟨T', h', cA, X', e', E', A', -, O', st⟩ := newRA X hx hZ hown hC w1 w2 eT (g := (mkF m pc Ls (.int n :: rest))) rfl (hb hby hd) rfl q1 (cap := cap) (by rw [q2]; exact hcap) hb8 hc hl had
  refine o_step st (k T' h' h.size ⟨hx, hby, hml, hown, hnm, hret, hlk, hZ, e', Nat.le_trans hz E'.1, _, X', N'⟩ rfl hz E' ⟨_, A', by rw [sz_new, q2], fun j hj => ?_⟩ (o_may_arr A' O'))
  simp [newA, q2, hj, defaultValue]
theorem o_nat32 {n : Nat} (h : n < 2147483648) : (Nat.toInt32 n).toInt = (n : Int) := Int32.toInt_ofNat_of_lt h
theorem o_room {c1 s1 c2 s2 : Nat} (h1 : c1 = c2) (h2 : s1 = s2) (G : OG l Z y bytes maxl ret n0 p e R s m args below meth c T h c1 s1) : OG l Z y bytes maxl ret n0 p e R s m args below meth c T h c2 s2 := by
  subst h1 h2
  exact G
theorem o_i32 {a b : Int32} (h1 : -2147483648 ≤ a.toInt + b.toInt) (h2 : a.toInt + b.toInt < 2147483648) : (a + b).toInt = a.toInt + b.toInt := by
  rw [Int32.toInt_add, Int.bmod_def]
  split <;> omega
/-- a contract that leaves the heap as it was and returns one value -/
abbrev OVal (h0 : Heap) (r : Value) : Option Value → Heap → Prop := fun v h => v = some r ∧ h0 = h
theorem o_callP (G : OG l Z y bytes maxl ret n0 p e R s m args below meth c T h cells slots) {z : MethodName} {bz : ByteArray} {mz : Nat} {rz : Option FieldType} {rm : Room} {r : Value} {index W : Nat} {argsL st : List Value} (w1 : (Jvm.Cond.methodLink y.cls index z).before a0 Z = true) (w2 : (Jvm.Cond.static z).before a0 Z = true) (hd : decode bytes pc = .ok (.invokestatic index, 3))
    (hy : z.cls ≠ "java/lang/invoke/MethodHandle" ∧ z.cls ≠ "java/lang/invoke/VarHandle") (w3 : (Jvm.Cond.initialized z.cls).before a0 Z = true) (w4 : (Jvm.Cond.code z bz mz rz).before a0 Z = true)
    (hM : OMet l Z z bz mz rz rm argsL.toArray h n0 rm.cells rm.slots (OVal h r)) (hfr : rm.frames + 1 ≤ R.frames) (hlo : W + (mz + 11) + rm.locals ≤ R.locals) (hsz : Ls.size = maxl)
    (hlen : ∀ sig, parseMethodDescriptor z.desc = some sig → argsL.length = sig.parameters.length) (hst : st = argsL.reverse ++ rest) (hW : (rest.map fun v => v.category).sum ≤ W) (hp : pc + 3 = pc') (hc : cells + rm.cells ≤ R.cells) (hs : slots + rm.slots ≤ R.slots)
    (k : ∀ (T' : State), OG l Z y bytes maxl ret n0 p e R s m args below meth c T' h (cells + rm.cells) (slots + rm.slots) → OFin n0 p e below s Q ck sk T' (mkF m pc' Ls (r :: rest))) : OFin n0 p e below s Q ck sk T (mkF m pc Ls st) := by
  refine o_callS G w1 w2 hd hy w3 w4 hM hfr hlo hsz hlen hst hW hp hc hs ?_
  rintro v T' h' G' ⟨hv, hh⟩
  subst hv hh
  exact k T' G'
theorem o_callVP (G : OG l Z y bytes maxl ret n0 p e R s m args below meth c T h cells slots) {z : MethodName} {bz : ByteArray} {mz : Nat} {rz : Option FieldType} {rm : Room} {r : Value} {index W : Nat} {argsL st : List Value} {a : Addr} {C : String} (E : Exa Z h a C) (w1 : (Jvm.Cond.methodLink y.cls index z).before a0 Z = true) (w2 : (Jvm.Cond.instanceMethod z).before a0 Z = true) (w5 : (Jvm.Cond.declares z).before a0 Z = true) (w6 : (Jvm.Cond.selects C z z).before a0 Z = true) (hd : decode bytes pc = .ok (.invokevirtual index, 3))
    (hy : z.cls ≠ "java/lang/invoke/MethodHandle" ∧ z.cls ≠ "java/lang/invoke/VarHandle") (w3 : (Jvm.Cond.initialized z.cls).before a0 Z = true) (w4 : (Jvm.Cond.code z bz mz rz).before a0 Z = true)
    (hM : OMet l Z z bz mz rz rm (.ref a :: argsL).toArray h n0 rm.cells rm.slots (OVal h r)) (hfr : rm.frames + 1 ≤ R.frames) (hlo : W + (mz + 11) + rm.locals ≤ R.locals) (hsz : Ls.size = maxl)
    (hlen : ∀ sig, parseMethodDescriptor z.desc = some sig → argsL.length = sig.parameters.length) (hst : st = argsL.reverse ++ .ref a :: rest) (hW : (rest.map fun v => v.category).sum ≤ W) (hp : pc + 3 = pc') (hc : cells + rm.cells ≤ R.cells) (hs : slots + rm.slots ≤ R.slots)
    (k : ∀ (T' : State), OG l Z y bytes maxl ret n0 p e R s m args below meth c T' h (cells + rm.cells) (slots + rm.slots) → OFin n0 p e below s Q ck sk T' (mkF m pc' Ls (r :: rest))) : OFin n0 p e below s Q ck sk T (mkF m pc Ls st) := by
  refine o_callV G E w1 w2 w5 w6 hd hy w3 w4 hM hfr hlo hsz hlen hst hW hp hc hs ?_
  rintro v T' h' G' ⟨hv, hh⟩
  subst hv hh
  exact k T' G'
end OwnKit
theorem pd_0 : parseMethodDescriptor "(JI)J" = some ⟨[.long, .int], some .long⟩ := by decide +kernel
theorem pd_1 : parseMethodDescriptor "([II)V" = some ⟨[(.array .int), .int], none⟩ := by decide +kernel
theorem pd_2 : parseMethodDescriptor "()V" = some ⟨[], none⟩ := by decide +kernel
theorem pd_3 : parseMethodDescriptor "(II)I" = some ⟨[.int, .int], some .int⟩ := by decide +kernel
theorem pd_4 : parseMethodDescriptor "(I)V" = some ⟨[.int], none⟩ := by decide +kernel
theorem pd_5 : parseMethodDescriptor "(IIIJJ)V" = some ⟨[.int, .int, .int, .long, .long], none⟩ := by decide +kernel
theorem pd_6 : parseMethodDescriptor "(III)[Lcom/example/pocket_simhash/pocketsimhash/BlockIndex$Block;" = some ⟨[.int, .int, .int], some (.array (.object "com/example/pocket_simhash/pocketsimhash/BlockIndex$Block"))⟩ := by decide +kernel
theorem pd_7 : parseMethodDescriptor "(Lcom/example/pocket_simhash/pocketsimhash/BlockIndex$Block;)V" = some ⟨[(.object "com/example/pocket_simhash/pocketsimhash/BlockIndex$Block")], none⟩ := by decide +kernel
theorem pd_8 : parseMethodDescriptor "(J)Z" = some ⟨[.long], some .boolean⟩ := by decide +kernel
theorem d1_0 : decode jdk_29_method_69_code 0 = .ok (.iload_n 0, 1) := by decide +kernel
theorem d1_1 : decode jdk_29_method_69_code 1 = .ok (.iload_n 1, 1) := by decide +kernel
theorem d1_2 : decode jdk_29_method_69_code 2 = .ok (.if_icmp .gt 7, 3) := by decide +kernel
theorem d1_5 : decode jdk_29_method_69_code 5 = .ok (.iload_n 0, 1) := by decide +kernel
theorem d1_6 : decode jdk_29_method_69_code 6 = .ok (.goto 4, 3) := by decide +kernel
theorem d1_9 : decode jdk_29_method_69_code 9 = .ok (.iload_n 1, 1) := by decide +kernel
theorem d1_10 : decode jdk_29_method_69_code 10 = .ok (.ireturn, 1) := by decide +kernel
theorem ef_1 (m : MethodId) (p0 : Int32) (p1 : Int32) : entryFrame m #[(.int p0), (.int p1)] 2 = mkF m 0 #[.val (.int p0), .val (.int p1)] [] := by first | (simp [entryFrame, mkF, argsToLocals, Value.category]; done) | rfl
def f_1 (p0 : Int32) (p1 : Int32) : Int32 := if p1 < p0 then p1 else p0
set_option maxRecDepth 65536 in
set_option maxHeartbeats 40000000 in
theorem rm1 {l : Launch} {Z : State} {a0 : Array Value} (hw : ∀ d ∈ tables_1, d.before a0 Z = true) (p0 : Int32) (p1 : Int32) (h0 : Heap) (n0 : Nat) (hz : n0 ≤ h0.size) :
    OMet l Z (⟨"java/lang/Math", "min", "(II)I"⟩ : MethodName) jdk_29_method_69_code 2 (some .int) ({ frames := 0, cells := 0, slots := 0, locals := 0 } : Room) #[(.int p0), (.int p1)] h0 n0 ({ frames := 0, cells := 0, slots := 0, locals := 0 } : Room).cells ({ frames := 0, cells := 0, slots := 0, locals := 0 } : Room).slots (OVal h0 (.int (f_1 p0 p1))) := by
  refine o_body (Jvm.Free.JP.mathPlain rfl (by decide +kernel)) hz (fun m => ef_1 m p0 p1) ?_
  intro p e s m below meth c s₁ G0
  refine o_iloadN G0 d1_0 (pc' := 1) rfl rfl ?_
  refine o_iloadN G0 d1_1 (pc' := 2) rfl rfl ?_
  refine o_icmp_gt G0 d1_2 (by decide) (pcT := 9) (by decide) (pc' := 5) rfl (fun hc2 => ?_) (fun hc2 => ?_)
  · refine o_iloadN G0 d1_9 (pc' := 10) rfl rfl ?_
    have hq : p1 = f_1 p0 p1 := by
      rw [f_1, if_pos hc2]
    exact o_ireturn G0 d1_10 ⟨congrArg (fun z => some (Value.int z)) hq, rfl⟩ (by decide) (by decide)
  · refine o_iloadN G0 d1_5 (pc' := 6) rfl rfl ?_
    refine o_goto G0 d1_6 (by decide) (pc' := 10) rfl ?_
    have hq : p0 = f_1 p0 p1 := by
      rw [f_1, if_neg hc2]
    exact o_ireturn G0 d1_10 ⟨congrArg (fun z => some (Value.int z)) hq, rfl⟩ (by decide) (by decide)
theorem d7_0 : decode jdk_35_method_51_code 0 = .ok (.lload_n 0, 1) := by decide +kernel
theorem d7_1 : decode jdk_35_method_51_code 1 = .ok (.iload_n 2, 1) := by decide +kernel
theorem d7_2 : decode jdk_35_method_51_code 2 = .ok (.lshl, 1) := by decide +kernel
theorem d7_3 : decode jdk_35_method_51_code 3 = .ok (.lload_n 0, 1) := by decide +kernel
theorem d7_4 : decode jdk_35_method_51_code 4 = .ok (.iload_n 2, 1) := by decide +kernel
theorem d7_5 : decode jdk_35_method_51_code 5 = .ok (.ineg, 1) := by decide +kernel
theorem d7_6 : decode jdk_35_method_51_code 6 = .ok (.lushr, 1) := by decide +kernel
theorem d7_7 : decode jdk_35_method_51_code 7 = .ok (.lor, 1) := by decide +kernel
theorem d7_8 : decode jdk_35_method_51_code 8 = .ok (.lreturn, 1) := by decide +kernel
theorem pn_7 : plainName "java/lang/Long" = true := by first | (simp [plainName, overriddenIn]; done) | decide +kernel
theorem ef_7 (m : MethodId) (q0 : Int64) (p1 : Int32) : entryFrame m #[(.long q0), (.int p1)] 3 = mkF m 0 #[.val (.long q0), .second, .val (.int p1)] [] := by first | (simp [entryFrame, mkF, argsToLocals, Value.category]; done) | rfl
def f_7 (q0 : Int64) (p1 : Int32) : Int64 := ((q0 <<< (p1 &&& 0x3f).toInt64) ||| ((q0.toUInt64 >>> ((-p1) &&& 0x3f).toInt64.toUInt64).toInt64))
set_option maxRecDepth 65536 in
set_option maxHeartbeats 40000000 in
theorem rm7 {l : Launch} {Z : State} {a0 : Array Value} (hw : ∀ d ∈ tables_1, d.before a0 Z = true) (q0 : Int64) (p1 : Int32) (h0 : Heap) (n0 : Nat) (hz : n0 ≤ h0.size) :
    OMet l Z (⟨"java/lang/Long", "rotateLeft", "(JI)J"⟩ : MethodName) jdk_35_method_51_code 3 (some .long) ({ frames := 0, cells := 0, slots := 0, locals := 0 } : Room) #[(.long q0), (.int p1)] h0 n0 ({ frames := 0, cells := 0, slots := 0, locals := 0 } : Room).cells ({ frames := 0, cells := 0, slots := 0, locals := 0 } : Room).slots (OVal h0 (.long (f_7 q0 p1))) := by
  refine o_body (plainFor_of_name pn_7) hz (fun m => ef_7 m q0 p1) ?_
  intro p e s m below meth c s₁ G0
  refine o_lloadN G0 d7_0 (pc' := 1) rfl rfl ?_
  refine o_iloadN G0 d7_1 (pc' := 2) rfl rfl ?_
  obtain ⟨v1, e1⟩ : ∃ z, q0 <<< (p1 &&& 0x3f).toInt64 = z := ⟨_, rfl⟩
  refine o_lshl G0 d7_2 (pc' := 3) rfl e1 ?_
  refine o_lloadN G0 d7_3 (pc' := 4) rfl rfl ?_
  refine o_iloadN G0 d7_4 (pc' := 5) rfl rfl ?_
  obtain ⟨v2, e2⟩ : ∃ z, -p1 = z := ⟨_, rfl⟩
  refine o_ineg G0 d7_5 (pc' := 6) rfl e2 ?_
  obtain ⟨v3, e3⟩ : ∃ z, (q0.toUInt64 >>> (v2 &&& 0x3f).toInt64.toUInt64).toInt64 = z := ⟨_, rfl⟩
  refine o_lushr G0 d7_6 (pc' := 7) rfl e3 ?_
  obtain ⟨v4, e4⟩ : ∃ z, v1 ||| v3 = z := ⟨_, rfl⟩
  refine o_lor G0 d7_7 (pc' := 8) rfl e4 ?_
  have hq : v4 = f_7 q0 p1 := by
    subst e1 e2 e3 e4
    rw [f_7]
  exact o_lreturn G0 d7_8 ⟨congrArg (fun z => some (Value.long z)) hq, rfl⟩ (by decide) (by decide)
theorem own_nat (w : Int32) (W : Nat) (h : w.toInt = (W : Int)) : w.toBitVec.toNat = W := by
  have e : w.toInt = w.toBitVec.toInt := rfl
  have := w.toBitVec.isLt
  rw [e, BitVec.toInt_eq_toNat_cond] at h
  split at h <;> omega
theorem own_shlB (x : Int64) (q : Int32) (K : Nat) (h : q.toInt = (K : Int)) (hK : K < 64) : (x <<< (q &&& 0x3f).toInt64).toBitVec = x.toBitVec <<< K := by
  have hk : q.toBitVec.toNat % 64 = K := by rw [own_nat q K h]; omega
  rw [Int64.toBitVec_shiftLeft, (sm64 q K hk).1]
  show x.toBitVec <<< ((BitVec.ofNat 64 K).smod 64).toNat = _
  rw [smod64 K hK]
def own_mk (w low : Int32) : Int64 := (((1 : Int64) <<< (w &&& 0x3f).toInt64) - (1 : Int64)) <<< (low &&& 0x3f).toInt64
theorem own_one (w : Int32) (W : Nat) (hw : w.toInt = (W : Int)) (h1 : W ≤ 32) : (((1 : Int64) <<< (w &&& 0x3f).toInt64) - (1 : Int64)).toBitVec.toNat = 2 ^ W - 1 := by
  rw [Int64.toBitVec_sub, own_shlB 1 w W hw (by omega), BitVec.toNat_sub, BitVec.toNat_shiftLeft]
  have o : (1 : Int64).toBitVec.toNat = 1 := rfl
  rw [o, Nat.one_shiftLeft]
  have hp : 2 ^ W ≤ 2 ^ 32 := Nat.pow_le_pow_right (by decide) h1
  have hq : 1 ≤ 2 ^ W := Nat.one_le_two_pow
  have c : (2 : Nat) ^ 32 = 4294967296 := by decide
  generalize 2 ^ W = z at *
  have c64 : (2 : Nat) ^ 64 = 18446744073709551616 := by decide
  omega
theorem own_bit (w low : Int32) (W L : Nat) (hw : w.toInt = (W : Int)) (hl : low.toInt = (L : Int)) (h1 : W ≤ 32) (h2 : L + W ≤ 64) (h3 : L < 64) (t : Nat) (ht : t < 64) :
    (own_mk w low).toBitVec.getLsbD t = decide (L ≤ t ∧ t < L + W) := by
  rw [own_mk, own_shlB _ low L hl h3]
  have e := own_one w W hw h1
  generalize (((1 : Int64) <<< (w &&& 0x3f).toInt64) - (1 : Int64)).toBitVec = b at *
  rw [BitVec.getLsbD_shiftLeft, BitVec.getLsbD, e, Nat.testBit_two_pow_sub_one]
  by_cases q : L ≤ t
  · have a1 : decide (t < 64) = true := by simpa using ht
    have a2 : decide (t < L) = false := by simpa using q
    rw [a1, a2]
    simp only [Bool.true_and, Bool.not_false]
    apply decide_eq_decide.mpr
    omega
  · have a2 : decide (t < L) = true := by simpa using Nat.lt_of_not_le q
    rw [a2]
    have a3 : ¬ (L ≤ t ∧ t < L + W) := fun z => q z.1
    simp [a3]
theorem own_rot (w low : Int32) (W L : Nat) (hw : w.toInt = (W : Int)) (hl : low.toInt = (L : Int)) (h1 : W ≤ 32) (h2 : L + W ≤ 64) (h3 : L < 64) :
    f_7 (((1 : Int64) <<< (w &&& 0x3f).toInt64) - (1 : Int64)) low = own_mk w low := by
  have e := own_one w W hw h1
  rw [f_7, own_mk]
  generalize (((1 : Int64) <<< (w &&& 0x3f).toInt64) - (1 : Int64)) = x at *
  have hp : 2 ^ W ≤ 2 ^ 32 := Nat.pow_le_pow_right (by decide) h1
  have c32 : (2 : Nat) ^ 32 = 4294967296 := by decide
  have nx : x.toInt = (2 ^ W - 1 : Nat) := by
    show x.toBitVec.toInt = _
    rw [BitVec.toInt_eq_toNat_cond, e, if_pos (by omega)]
  have ln := own_nat low L hl
  rcases Nat.eq_zero_or_pos L with z | z
  · subst z
    have lz : low = 0 := Int32.toInt_inj.mp (by rw [hl]; rfl)
    subst lz
    apply Int64.toBitVec_inj.mp
    have z1 : ((x.toUInt64 >>> ((-(0 : Int32)) &&& 0x3f).toInt64.toUInt64).toInt64).toBitVec = x.toBitVec := by
      show x.toBitVec >>> ((Int64.toUInt64 0).mod 64).toNat = _
      have : ((Int64.toUInt64 0).mod 64).toNat = 0 := rfl
      rw [this]; simp
    rw [Int64.toBitVec_or, z1, own_shlB x 0 0 rfl (by decide)]
    simp
  · have hn : (-low).toBitVec.toNat % 64 = 64 - L := by
      rw [Int32.toBitVec_neg, BitVec.toNat_neg, ln]; omega
    have s := c_lushr x (-low) (64 - L) hn (by omega)
    have hz : ((x.toUInt64 >>> ((-low) &&& 0x3f).toInt64.toUInt64).toInt64) = 0 := by
      apply Int64.toInt_inj.mp
      rw [s, nx]
      have : (2 : Nat) ^ W ≤ 2 ^ (64 - L) := Nat.pow_le_pow_right (by decide) (by omega)
      have q1 : 1 ≤ (2 : Nat) ^ W := Nat.one_le_two_pow
      show _ = (0 : Int)
      rw [Int.emod_eq_of_lt (by omega) (by omega)]
      apply Int.ediv_eq_zero_of_lt (by omega)
      omega
    rw [hz]
    simp

def own_b (x : Int64) (t : Nat) : Bool := x.toBitVec.getLsbD t
theorem own_and0 (x y : Int64) : x &&& y = 0 ↔ ∀ t, t < 64 → (own_b x t && own_b y t) = false := by
  constructor
  · intro h t ht
    have : (x &&& y).toBitVec.getLsbD t = false := by rw [h]; simp
    rw [Int64.toBitVec_and, BitVec.getLsbD_and] at this
    exact this
  · intro h
    apply Int64.toBitVec_inj.mp
    rw [Int64.toBitVec_and]
    apply BitVec.eq_of_getLsbD_eq
    intro i hi
    rw [BitVec.getLsbD_and]
    have := h i hi
    simp only [own_b] at this
    rw [this]; simp
theorem own_b_and (x y : Int64) (t : Nat) : own_b (x &&& y) t = (own_b x t && own_b y t) := by simp [own_b]
theorem own_b_or (x y : Int64) (t : Nat) : own_b (x ||| y) t = (own_b x t || own_b y t) := by simp [own_b]
theorem own_b_not (x : Int64) (t : Nat) (ht : t < 64) : own_b (x ^^^ (-1 : Int64)) t = !own_b x t := by
  simp only [own_b, Int64.toBitVec_xor, BitVec.getLsbD_xor]
  have : (-1 : Int64).toBitVec = BitVec.allOnes 64 := rfl
  rw [this, BitVec.getLsbD_allOnes]
  simp [ht]
def own_w (C i : Nat) : Nat := 64 / C + (if i < 64 % C then 1 else 0)
def own_l (C i : Nat) : Nat := i * (64 / C) + min i (64 % C)
theorem own_lw (C i : Nat) : own_l C (i + 1) = own_l C i + own_w C i := by
  simp only [own_l, own_w, Nat.add_mul, Nat.one_mul]
  split <;> omega
theorem own_lC (C : Nat) (h : 2 ≤ C) : own_l C C = 64 := by
  simp only [own_l]
  have h1 := Nat.div_add_mod 64 C
  have h2 := Nat.mod_lt 64 (show C > 0 by omega)
  rw [Nat.min_eq_right (by omega)]; exact h1
theorem own_lmono (C i j : Nat) (h : i ≤ j) : own_l C i ≤ own_l C j := by
  simp only [own_l]
  have := Nat.mul_le_mul_right (64 / C) h
  omega
theorem own_w2 (C i : Nat) (h : 2 ≤ C) (h' : C ≤ 32) : 2 ≤ own_w C i ∧ own_w C i ≤ 33 := by
  simp only [own_w]
  have a : 2 ≤ 64 / C := (Nat.le_div_iff_mul_le (by omega)).mpr (by omega)
  have b : 64 / C ≤ 32 := Nat.div_le_of_le_mul (by omega)
  split <;> omega
theorem own_w32 (C i : Nat) (h : 2 ≤ C) (h' : C ≤ 32) : own_w C i ≤ 32 := by
  simp only [own_w]
  rcases Nat.eq_or_lt_of_le h with q | q
  · subst q; simp
  · have b : 64 / C ≤ 21 := by
      have := Nat.div_le_div_left (show 3 ≤ C by omega) (show 0 < 3 by decide) (a := 64)
      simpa using this
    split <;> omega
theorem own_in (C i : Nat) (h : 2 ≤ C) (hi : i < C) : own_l C i + own_w C i ≤ 64 := by
  rw [← own_lw, ← own_lC C h]; exact own_lmono C (i + 1) C (by omega)
theorem own_apart (C i j t : Nat) (hij : i ≠ j) (h1 : own_l C i ≤ t ∧ t < own_l C i + own_w C i) (h2 : own_l C j ≤ t ∧ t < own_l C j + own_w C j) : False := by
  rw [← own_lw] at h1 h2
  rcases Nat.lt_or_gt_of_ne hij with q | q
  · have := own_lmono C (i + 1) j (by omega); omega
  · have := own_lmono C (j + 1) i (by omega); omega
theorem own_alt5 : ∀ t : Fin 64, own_b (0x5555555555555555 : Int64) t.val = decide (t.val % 2 = 0) := by decide +kernel
theorem own_altA : ∀ t : Fin 64, own_b (-6148914691236517206 : Int64) t.val = decide (t.val % 2 = 1) := by decide +kernel
def own_Alt (alt : Int64) : Prop := ∃ k : Nat, ∀ t, t < 64 → own_b alt t = decide (t % 2 = k % 2)
theorem own_alts (p : Prop) [Decidable p] : own_Alt (if p then (6148914691236517205 : Int64) else (-6148914691236517206 : Int64)) := by
  split
  · exact ⟨0, fun t ht => own_alt5 ⟨t, ht⟩⟩
  · exact ⟨1, fun t ht => own_altA ⟨t, ht⟩⟩
section
variable {C : Nat} {M : Nat → Int64} (hC : 2 ≤ C) (hC' : C ≤ 32) (hM : ∀ i, i < C → ∀ t, t < 64 → own_b (M i) t = decide (own_l C i ≤ t ∧ t < own_l C i + own_w C i))
theorem own_hit {alt : Int64} (hC : 2 ≤ C) (hC' : C ≤ 32) (ha : own_Alt alt) (i : Nat) (hi : i < C) : ∃ t, t < 64 ∧ own_b alt t = true ∧ (own_l C i ≤ t ∧ t < own_l C i + own_w C i) := by
  obtain ⟨k, hk⟩ := ha
  have h1 := own_in C i hC hi
  have h2 := own_w2 C i hC hC'
  by_cases q : own_l C i % 2 = k % 2
  · exact ⟨own_l C i, by omega, by rw [hk _ (by omega)]; simpa using q, by omega⟩
  · exact ⟨own_l C i + 1, by omega, by rw [hk _ (by omega)]; simp; omega, by omega⟩
theorem own_r3 {alt d : Int64} (hC : 2 ≤ C) (hC' : C ≤ 32) (hM : ∀ i, i < C → ∀ t, t < 64 → own_b (M i) t = decide (own_l C i ≤ t ∧ t < own_l C i + own_w C i)) (ha : own_Alt alt) (i : Nat) (hi : i < C) : ¬ ((d ||| alt) &&& M i = 0) := by
  intro h
  obtain ⟨t, ht, h1, h2⟩ := own_hit hC hC' ha i hi
  have := (own_and0 _ _).mp h t ht
  rw [own_b_or, h1, hM i hi t ht] at this
  simp [h2] at this
theorem own_r2 {d m : Int64} : (d &&& (m ^^^ (-1 : Int64))) &&& m = 0 := by
  apply (own_and0 _ _).mpr
  intro t ht
  rw [own_b_and, own_b_not m t ht]
  cases own_b m t <;> simp
theorem own_r1a {alt d b : Int64} (hC : 2 ≤ C) (hC' : C ≤ 32) (hM : ∀ i, i < C → ∀ t, t < 64 → own_b (M i) t = decide (own_l C i ≤ t ∧ t < own_l C i + own_w C i)) (ha : own_Alt alt) (i j : Nat) (hi : i < C) (hj : j < C) (hij : i ≠ j) : ¬ ((((d ||| alt) &&& (M j ^^^ (-1 : Int64))) ||| b) &&& M i = 0) := by
  intro h
  obtain ⟨t, ht, h1, h2⟩ := own_hit hC hC' ha i hi
  have h3 : own_b (M j) t = false := by
    rw [hM j hj t ht]
    have : ¬ (own_l C j ≤ t ∧ t < own_l C j + own_w C j) := fun q => own_apart C i j t hij h2 q
    simp only [this, decide_false]
  have := (own_and0 _ _).mp h t ht
  rw [own_b_or, own_b_and, own_b_or, own_b_not _ t ht, h1, h3, hM i hi t ht] at this
  simp [h2] at this
theorem own_r1b {d b m : Int64} : ((d &&& (m ^^^ (-1 : Int64))) ||| b) &&& m = 0 ↔ b &&& m = 0 := by
  rw [own_and0, own_and0]
  constructor
  · intro h t ht
    have := h t ht
    rw [own_b_or, own_b_and, own_b_not m t ht] at this
    cases q : own_b m t <;> simp_all
  · intro h t ht
    have := h t ht
    rw [own_b_or, own_b_and, own_b_not m t ht]
    cases q : own_b m t <;> simp_all
end
theorem own_bitE (e : Int32) (E : Nat) (he : e.toInt = (E : Int)) (hE : E < 64) (t : Nat) (ht : t < 64) : own_b ((1 : Int64) <<< (e &&& 0x3f).toInt64) t = decide (t = E) := by
  rw [own_b, own_shlB 1 e E he hE]
  have o : (1 : Int64).toBitVec = 1#64 := rfl
  rw [o, BitVec.getLsbD_shiftLeft]
  by_cases q : t = E
  · subst q; simp [ht]
  · simp only [q, decide_false]
    by_cases r : t < E
    · simp [r]
    · have : t - E ≠ 0 := by omega
      simp [BitVec.getLsbD_one, ht, r, this]
/-- a bit at e, or none beyond the word: it is inside the block just when e is -/
theorem own_bitin (e : Int32) (m : Int64) (L W : Nat) (hL : L + W ≤ 64) (hm : ∀ t, t < 64 → own_b m t = decide (L ≤ t ∧ t < L + W)) (lo hi : Int32) (h1 : lo.toInt = (L : Int)) (h2 : hi.toInt = ((L + W : Nat) : Int)) :
    ((if e < 0 then (0 : Int64) else (if (63 : Int32) < e then (0 : Int64) else (1 : Int64) <<< (e &&& 0x3f).toInt64)) &&& m = 0) ↔ (e < lo ∨ ¬ e < hi) := by
  have z0 : (0 : Int32).toInt = 0 := rfl
  have z63 : (63 : Int32).toInt = 63 := rfl
  simp only [Int32.lt_iff_toInt_lt, h1, h2, z0, z63]
  by_cases a : e.toInt < 0
  · rw [if_pos a]; simp; omega
  · rw [if_neg a]
    by_cases b : 63 < e.toInt
    · rw [if_pos b]; simp; omega
    · rw [if_neg b]
      obtain ⟨E, hE⟩ : ∃ E : Nat, e.toInt = (E : Int) := ⟨e.toInt.toNat, by omega⟩
      have hE64 : E < 64 := by omega
      rw [own_and0]
      constructor
      · intro h
        have := h E hE64
        rw [own_bitE e E hE hE64 E hE64, hm E hE64] at this
        simp at this
        omega
      · intro h t ht
        rw [own_bitE e E hE hE64 t ht]
        by_cases q : t = E
        · subst q
          rw [hm t ht]
          simp; omega
        · simp [q]
theorem own_altr (p : Prop) [Decidable p] : own_Alt (if p then (-6148914691236517206 : Int64) else (6148914691236517205 : Int64)) := by
  have h := own_alts (¬ p)
  by_cases q : p
  · rw [if_pos q]; rwa [if_neg (fun z => z q)] at h
  · rw [if_neg q]; rwa [if_pos q] at h
def own_sh (M : Nat → Int64) (d : Int64) : Nat → Nat → Int32
  | 0, _ => 0
  | k + 1, i => if d &&& M i = 0 then 1 else own_sh M d k (i + 1)
theorem own_sh1 (M : Nat → Int64) (d : Int64) : ∀ k i j, i ≤ j → j < i + k → d &&& M j = 0 → own_sh M d k i = 1 := by
  intro k
  induction k with
  | zero => intro i j h1 h2; omega
  | succ k ih =>
    intro i j h1 h2 h
    rw [own_sh]
    by_cases q : d &&& M i = 0
    · rw [if_pos q]
    · rw [if_neg q]
      refine ih (i + 1) j ?_ (by omega) h
      rcases Nat.lt_or_ge i j with z | z
      · exact z
      · exact absurd h ((by omega : i = j) ▸ q)
theorem own_sh0 (M : Nat → Int64) (d : Int64) : ∀ k i, (∀ j, i ≤ j → j < i + k → ¬ d &&& M j = 0) → own_sh M d k i = 0 := by
  intro k
  induction k with
  | zero => intro i _; rfl
  | succ k ih =>
    intro i h
    rw [own_sh, if_neg (h i (Nat.le_refl _) (by omega))]
    exact ih (i + 1) (fun j a b => h j (by omega) (by omega))
theorem own_main {C A : Nat} {M : Nat → Int64} (hC : 2 ≤ C) (hC' : C ≤ 32) (hA : A < C) (hB : ∀ i, i < C → ∃ w lo : Int32, w.toInt = (own_w C i : Int) ∧ lo.toInt = (own_l C i : Int) ∧ M i = own_mk w lo)
    (w st ev fl : Int32) (hw : w.toInt = (own_w C A : Int)) (hst : st.toInt = (own_l C A : Int)) (d alt : Int64) (ha : own_Alt alt) :
    own_sh M (d ||| alt) C 0 = 0 ∧ own_sh M (d &&& (own_mk w st ^^^ (-1 : Int64))) C 0 = 1 ∧
    own_sh M (((d ||| alt) &&& (own_mk w st ^^^ (-1 : Int64))) ||| (if fl = 0 then (0 : Int64) else (if ev < 0 then (0 : Int64) else (if (63 : Int32) < ev then (0 : Int64) else (1 : Int64) <<< (ev &&& 0x3f).toInt64)))) C 0 =
      (if fl = 0 then (1 : Int32) else (if (if ev < st then (0 : Int32) else (if ev < st + w then (1 : Int32) else (0 : Int32))) = 0 then (1 : Int32) else (0 : Int32))) := by
  have hM : ∀ i, i < C → ∀ t, t < 64 → own_b (M i) t = decide (own_l C i ≤ t ∧ t < own_l C i + own_w C i) := by
    intro i hi t ht
    obtain ⟨w', lo', h1, h2, h3⟩ := hB i hi
    have b1 := own_in C i hC hi
    have b2 := own_w2 C i hC hC'
    rw [h3]
    exact own_bit w' lo' _ _ h1 h2 (own_w32 C i hC hC') b1 (by omega) t ht
  have hm : own_mk w st = M A := by
    obtain ⟨w', lo', h1, h2, h3⟩ := hB A hA
    have q1 : w' = w := Int32.toInt_inj.mp (h1.trans hw.symm)
    have q2 : lo' = st := Int32.toInt_inj.mp (h2.trans hst.symm)
    rw [h3, q1, q2]
  have b1 := own_in C A hC hA
  have b2 := own_w2 C A hC hC'
  have hi : (st + w).toInt = ((own_l C A + own_w C A : Nat) : Int) := by
    rw [o_i32 (by omega) (by omega), hst, hw]; omega
  rw [hm]
  refine ⟨own_sh0 _ _ _ _ (fun j _ h => own_r3 hC hC' hM ha j (by omega)), own_sh1 _ _ _ _ A (by omega) (by omega) own_r2, ?_⟩
  generalize hb : (if fl = 0 then (0 : Int64) else (if ev < 0 then (0 : Int64) else (if (63 : Int32) < ev then (0 : Int64) else (1 : Int64) <<< (ev &&& 0x3f).toInt64))) = b
  have key : (b &&& M A = 0) ↔ (fl = 0 ∨ ev < st ∨ ¬ ev < st + w) := by
    rw [← hb]
    by_cases q : fl = 0
    · rw [if_pos q]; simp [q]
    · rw [if_neg q, own_bitin ev (M A) _ _ b1 (hM A hA) st (st + w) hst hi]; simp [q]
  by_cases z : b &&& M A = 0
  · rw [own_sh1 _ _ _ _ A (by omega) (by omega) (own_r1b.mpr z)]
    have k := key.mp z
    by_cases q : fl = 0
    · rw [if_pos q]
    · rw [if_neg q]
      by_cases q1 : ev < st
      · rw [if_pos q1]; rfl
      · rw [if_neg q1]
        by_cases q2 : ev < st + w
        · exact absurd k (by simp [q, q1, q2])
        · rw [if_neg q2]; rfl
  · have k : ¬ (fl = 0 ∨ ev < st ∨ ¬ ev < st + w) := fun h => z (key.mpr h)
    have k1 : ¬ fl = 0 := fun h => k (Or.inl h)
    have k2 : ¬ ev < st := fun h => k (Or.inr (Or.inl h))
    have k3 : ev < st + w := Decidable.not_not.mp (fun h => k (Or.inr (Or.inr h)))
    rw [if_neg k1, if_neg k2, if_pos k3]
    show _ = (0 : Int32)
    apply own_sh0
    intro j _ hj
    by_cases e : j = A
    · subst e; exact fun h => z (own_r1b.mp h)
    · exact own_r1a hC hC' hM ha j A (by omega) hA e
theorem own_div64 (c : Int32) (C : Nat) (h : c.toInt = (C : Int)) (hC : 2 ≤ C) : ((64 : Int32) / c).toInt = ((64 / C : Nat) : Int) ∧ ((64 : Int32) % c).toInt = ((64 % C : Nat) : Int) := by
  have z : (64 : Int32).toInt = ((64 : Nat) : Int) := rfl
  constructor
  · rw [Int32.toInt_div_of_ne_left _ _ (by decide), h, z, ← Int.ofNat_tdiv]
  · rw [Int32.toInt_mod, h, z, ← Int.ofNat_tmod]
theorem own_wI (c i : Int32) (C I : Nat) (h : c.toInt = (C : Int)) (hC : 2 ≤ C) (hi : i.toInt = (I : Int)) : ((64 : Int32) / c + (if i < (64 : Int32) % c then (1 : Int32) else (0 : Int32))).toInt = (own_w C I : Int) := by
  obtain ⟨h1, h2⟩ := own_div64 c C h hC
  have b : 64 / C ≤ 64 := Nat.div_le_self _ _
  have z1 : (1 : Int32).toInt = 1 := rfl
  have z0 : (0 : Int32).toInt = 0 := rfl
  unfold own_w
  generalize 64 / C = u at *
  generalize 64 % C = v at *
  by_cases q : I < v
  · have q' : i < (64 : Int32) % c := by rw [Int32.lt_iff_toInt_lt, hi, h2]; omega
    rw [if_pos q, if_pos q', o_i32 (by omega) (by omega), h1, z1]; omega
  · have q' : ¬ i < (64 : Int32) % c := by rw [Int32.lt_iff_toInt_lt, hi, h2]; omega
    rw [if_neg q, if_neg q', o_i32 (by omega) (by omega), h1, z0]; omega
theorem own_C (x : Int32) : ∃ C : Nat, ((2 : Int32) + (x &&& (2147483647 : Int32)) % (31 : Int32)).toInt = (C : Int) ∧ 2 ≤ C ∧ C ≤ 32 := by
  have h := c_and x 2147483647 (by decide)
  have z : (31 : Int32).toInt = 31 := rfl
  have z2 : (2 : Int32).toInt = 2 := rfl
  have e : ((x &&& (2147483647 : Int32)) % (31 : Int32)).toInt = (x &&& (2147483647 : Int32)).toInt % 31 := by rw [Int32.toInt_mod, Int.tmod_eq_emod_of_nonneg h.1, z]
  have r := o_i32 (a := 2) (b := (x &&& (2147483647 : Int32)) % (31 : Int32)) (by omega) (by omega)
  refine ⟨((2 : Int32) + (x &&& (2147483647 : Int32)) % (31 : Int32)).toInt.toNat, by omega, by omega, by omega⟩
theorem own_A (x c : Int32) (C : Nat) (h : c.toInt = (C : Int)) (hC : 2 ≤ C) : ∃ A : Nat, ((x &&& (2147483647 : Int32)) % c).toInt = (A : Int) ∧ A < C := by
  have h' := c_and x 2147483647 (by decide)
  have e : ((x &&& (2147483647 : Int32)) % c).toInt = (x &&& (2147483647 : Int32)).toInt % C := by rw [Int32.toInt_mod, Int.tmod_eq_emod_of_nonneg h'.1, h]
  have b1 := Int.emod_nonneg (x &&& (2147483647 : Int32)).toInt (show (C : Int) ≠ 0 by omega)
  have b2 := Int.emod_lt_of_pos (x &&& (2147483647 : Int32)).toInt (show (0 : Int) < (C : Int) by omega)
  exact ⟨((x &&& (2147483647 : Int32)) % c).toInt.toNat, by omega, by omega⟩
theorem own_stI (c i : Int32) (C I : Nat) (h : c.toInt = (C : Int)) (hC : 2 ≤ C) (hi : i.toInt = (I : Int)) (hI : I < C) : (i * ((64 : Int32) / c) + f_1 i ((64 : Int32) % c)).toInt = (own_l C I : Int) := by
  obtain ⟨h1, h2⟩ := own_div64 c C h hC
  have m1 : I * (64 / C) ≤ 64 := Nat.le_trans (Nat.mul_le_mul_right _ (Nat.le_of_lt hI)) (Nat.mul_div_le 64 C)
  have m2 : 64 % C ≤ 64 := Nat.mod_le _ _
  have e1 : (i * ((64 : Int32) / c)).toInt = ((I * (64 / C) : Nat) : Int) := by
    rw [Int32.toInt_mul, hi, h1, ← Int.natCast_mul]
    generalize I * (64 / C) = z at *
    rw [Int.bmod_def]; split <;> omega
  have e2 : (f_1 i ((64 : Int32) % c)).toInt = ((min I (64 % C) : Nat) : Int) := by
    rw [f_1]
    by_cases q : 64 % C < I
    · have q' : (64 : Int32) % c < i := by rw [Int32.lt_iff_toInt_lt, hi, h2]; omega
      rw [if_pos q', h2]; omega
    · have q' : ¬ (64 : Int32) % c < i := by rw [Int32.lt_iff_toInt_lt, hi, h2]; omega
      rw [if_neg q', hi]; omega
  unfold own_l
  generalize I * (64 / C) = z at *
  rw [o_i32 (by omega) (by omega), e1, e2]; omega
theorem own_loI (x : Int32) (C I : Nat) (hC : 2 ≤ C) (hC' : C ≤ 32) (hI : I < C) (h : x.toInt = (own_l C I : Int)) : (((0 : Int32) + x) % (64 : Int32)).toInt = (own_l C I : Int) := by
  have b1 := own_in C I hC hI
  have b2 := own_w2 C I hC hC'
  have z : (64 : Int32).toInt = 64 := rfl
  rw [Int32.zero_add, Int32.toInt_mod, h, z, Int.tmod_eq_emod_of_nonneg (by omega)]; omega
theorem own_shl4 (x : Int32) (h : 0 ≤ x.toInt) (h' : x.toInt ≤ 4) : ∃ N : Nat, ((1 : Int32) <<< (x &&& 31)).toInt = (N : Int) ∧ N ≤ 16 := by
  have : x.toInt = 0 ∨ x.toInt = 1 ∨ x.toInt = 2 ∨ x.toInt = 3 ∨ x.toInt = 4 := by omega
  rcases this with e | e | e | e | e
  · have : x = 0 := Int32.toInt_inj.mp e
    subst this; exact ⟨1, by decide, by decide⟩
  · have : x = 1 := Int32.toInt_inj.mp e
    subst this; exact ⟨2, by decide, by decide⟩
  · have : x = 2 := Int32.toInt_inj.mp e
    subst this; exact ⟨4, by decide, by decide⟩
  · have : x = 3 := Int32.toInt_inj.mp e
    subst this; exact ⟨8, by decide, by decide⟩
  · have : x = 4 := Int32.toInt_inj.mp e
    subst this; exact ⟨16, by decide, by decide⟩
theorem own_min4 (x : Int32) (h : 0 ≤ x.toInt) : 0 ≤ (f_1 x (4 : Int32)).toInt ∧ (f_1 x (4 : Int32)).toInt ≤ 4 := by
  have z : (4 : Int32).toInt = 4 := rfl
  rw [f_1]
  by_cases q : (4 : Int32) < x
  · rw [if_pos q]; omega
  · rw [if_neg q]
    rw [Int32.lt_iff_toInt_lt] at q
    omega
def own_BK (Z : State) (h : Heap) (C : Nat) (a : Addr) (j : Nat) : Prop := ∃ w lo : Int32, w.toInt = (own_w C j : Int) ∧ lo.toInt = (own_l C j : Int) ∧ Fld Z h a "com/example/pocket_simhash/pocketsimhash/BlockIndex$Block" "width" "I" (.int w) ∧ Fld Z h a "com/example/pocket_simhash/pocketsimhash/BlockIndex$Block" "mask" "J" (.long (own_mk w lo))
theorem own_BK.ext {Z : State} {h h' : Heap} {C : Nat} {a : Addr} {j : Nat} (B : own_BK Z h C a j) (E : Ext h h') : own_BK Z h' C a j := by
  obtain ⟨w, lo, h1, h2, F, F'⟩ := B; exact ⟨w, lo, h1, h2, F.ext E, F'.ext E⟩
theorem own_BK.wr {Z : State} {h h' : Heap} {C : Nat} {a b : Addr} {j sl : Nat} {v : Value} (B : own_BK Z h C a j) (W : Wr h h' b sl v) (q : a ≠ b) : own_BK Z h' C a j := by
  obtain ⟨w, lo, h1, h2, F, F'⟩ := B; exact ⟨w, lo, h1, h2, F.other W (Or.inl q), F'.other W (Or.inl q)⟩
theorem own_BK.keep {Z : State} {h h' : Heap} {C : Nat} {a : Addr} {j : Nat} {ws : List Addr} (B : own_BK Z h C a j) (K : Keep h h' ws) (q : a ∉ ws) : own_BK Z h' C a j := by
  obtain ⟨w, lo, h1, h2, F, F'⟩ := B; exact ⟨w, lo, h1, h2, F.keep K q, F'.keep K q⟩
theorem own_BK.lt {Z : State} {h : Heap} {C : Nat} {a : Addr} {j : Nat} (B : own_BK Z h C a j) : a < h.size := by
  obtain ⟨w, lo, h1, h2, F, F'⟩ := B; exact F.lt
theorem d6_0 : decode prog_2_method_1_code 0 = .ok (.aload_n 0, 1) := by decide +kernel
theorem d6_1 : decode prog_2_method_1_code 1 = .ok (.invokespecial 1, 3) := by decide +kernel
theorem d6_4 : decode prog_2_method_1_code 4 = .ok (.aload_n 0, 1) := by decide +kernel
theorem d6_5 : decode prog_2_method_1_code 5 = .ok (.iload_n 1, 1) := by decide +kernel
theorem d6_6 : decode prog_2_method_1_code 6 = .ok (.putfield 7, 3) := by decide +kernel
theorem d6_9 : decode prog_2_method_1_code 9 = .ok (.aload_n 0, 1) := by decide +kernel
theorem d6_10 : decode prog_2_method_1_code 10 = .ok (.iload_n 2, 1) := by decide +kernel
theorem d6_11 : decode prog_2_method_1_code 11 = .ok (.putfield 13, 3) := by decide +kernel
theorem d6_14 : decode prog_2_method_1_code 14 = .ok (.aload_n 0, 1) := by decide +kernel
theorem d6_15 : decode prog_2_method_1_code 15 = .ok (.lconst 1, 1) := by decide +kernel
theorem d6_16 : decode prog_2_method_1_code 16 = .ok (.iload_n 2, 1) := by decide +kernel
theorem d6_17 : decode prog_2_method_1_code 17 = .ok (.lshl, 1) := by decide +kernel
theorem d6_18 : decode prog_2_method_1_code 18 = .ok (.lconst 1, 1) := by decide +kernel
theorem d6_19 : decode prog_2_method_1_code 19 = .ok (.lsub, 1) := by decide +kernel
theorem d6_20 : decode prog_2_method_1_code 20 = .ok (.putfield 16, 3) := by decide +kernel
theorem d6_23 : decode prog_2_method_1_code 23 = .ok (.aload_n 0, 1) := by decide +kernel
theorem d6_24 : decode prog_2_method_1_code 24 = .ok (.aload_n 0, 1) := by decide +kernel
theorem d6_25 : decode prog_2_method_1_code 25 = .ok (.getfield 16, 3) := by decide +kernel
theorem d6_28 : decode prog_2_method_1_code 28 = .ok (.iload_n 1, 1) := by decide +kernel
theorem d6_29 : decode prog_2_method_1_code 29 = .ok (.invokestatic 20, 3) := by decide +kernel
theorem d6_32 : decode prog_2_method_1_code 32 = .ok (.putfield 26, 3) := by decide +kernel
theorem d6_35 : decode prog_2_method_1_code 35 = .ok (.aload_n 0, 1) := by decide +kernel
theorem d6_36 : decode prog_2_method_1_code 36 = .ok (.iload_n 3, 1) := by decide +kernel
theorem d6_37 : decode prog_2_method_1_code 37 = .ok (.putfield 29, 3) := by decide +kernel
theorem d6_40 : decode prog_2_method_1_code 40 = .ok (.aload_n 0, 1) := by decide +kernel
theorem d6_41 : decode prog_2_method_1_code 41 = .ok (.lload 4, 2) := by decide +kernel
theorem d6_43 : decode prog_2_method_1_code 43 = .ok (.putfield 32, 3) := by decide +kernel
theorem d6_46 : decode prog_2_method_1_code 46 = .ok (.aload_n 0, 1) := by decide +kernel
theorem d6_47 : decode prog_2_method_1_code 47 = .ok (.lload 6, 2) := by decide +kernel
theorem d6_49 : decode prog_2_method_1_code 49 = .ok (.putfield 35, 3) := by decide +kernel
theorem d6_52 : decode prog_2_method_1_code 52 = .ok (.return_, 1) := by decide +kernel
theorem pn_6 : plainName "com/example/pocket_simhash/pocketsimhash/BlockIndex$Block" = true := by first | (simp [plainName, overriddenIn]; done) | decide +kernel
theorem ef_6 (m : MethodId) (r0 : Addr) (p1 : Int32) (p2 : Int32) (p3 : Int32) (q4 : Int64) (q5 : Int64) : entryFrame m #[(.ref r0), (.int p1), (.int p2), (.int p3), (.long q4), (.long q5)] 8 = mkF m 0 #[.val (.ref r0), .val (.int p1), .val (.int p2), .val (.int p3), .val (.long q4), .second, .val (.long q5), .second] [] := by first | (simp [entryFrame, mkF, argsToLocals, Value.category]; done) | rfl
set_option maxRecDepth 65536 in
set_option maxHeartbeats 40000000 in
theorem rm6 {l : Launch} {Z : State} {a0 : Array Value} (hw : ∀ d ∈ tables_1, d.before a0 Z = true) (r0 : Addr) (p1 : Int32) (p2 : Int32) (p3 : Int32) (q4 : Int64) (q5 : Int64) (h0 : Heap) (n0 : Nat) (hz : n0 ≤ h0.size) (g_r0 : n0 ≤ r0) (E_r0 : Exa Z h0 r0 "com/example/pocket_simhash/pocketsimhash/BlockIndex$Block") (F_lowestBit : Fld Z h0 r0 "com/example/pocket_simhash/pocketsimhash/BlockIndex$Block" "lowestBit" "I" (.int (0 : Int32))) (F_width : Fld Z h0 r0 "com/example/pocket_simhash/pocketsimhash/BlockIndex$Block" "width" "I" (.int (0 : Int32))) (F_valueMask : Fld Z h0 r0 "com/example/pocket_simhash/pocketsimhash/BlockIndex$Block" "valueMask" "J" (.long (0 : Int64))) (F_mask : Fld Z h0 r0 "com/example/pocket_simhash/pocketsimhash/BlockIndex$Block" "mask" "J" (.long (0 : Int64))) (F_cutLowestBit : Fld Z h0 r0 "com/example/pocket_simhash/pocketsimhash/BlockIndex$Block" "cutLowestBit" "I" (.int (0 : Int32))) (F_earlierLowestBits : Fld Z h0 r0 "com/example/pocket_simhash/pocketsimhash/BlockIndex$Block" "earlierLowestBits" "J" (.long (0 : Int64))) (F_earlierHighestBits : Fld Z h0 r0 "com/example/pocket_simhash/pocketsimhash/BlockIndex$Block" "earlierHighestBits" "J" (.long (0 : Int64))) :
    OMet l Z (⟨"com/example/pocket_simhash/pocketsimhash/BlockIndex$Block", "<init>", "(IIIJJ)V"⟩ : MethodName) prog_2_method_1_code 8 none ({ frames := 1, cells := 0, slots := 0, locals := 15 } : Room) #[(.ref r0), (.int p1), (.int p2), (.int p3), (.long q4), (.long q5)] h0 n0 ({ frames := 1, cells := 0, slots := 0, locals := 15 } : Room).cells ({ frames := 1, cells := 0, slots := 0, locals := 15 } : Room).slots (fun v h => v = none ∧ Keep h0 h [r0] ∧ Fld Z h r0 "com/example/pocket_simhash/pocketsimhash/BlockIndex$Block" "width" "I" (.int p2) ∧ Fld Z h r0 "com/example/pocket_simhash/pocketsimhash/BlockIndex$Block" "mask" "J" (.long (f_7 (((1 : Int64) <<< (p2 &&& 0x3f).toInt64) - (1 : Int64)) p1))) := by
  refine o_body (plainFor_of_name pn_6) hz (fun m => ef_6 m r0 p1 p2 p3 q4 q5) ?_
  intro p e s m below meth c s₁ G0
  have K : Keep h0 h0 [r0] := Keep.refl _ _
  refine o_aloadN G0 d6_0 (pc' := 1) rfl rfl rfl ?_
  refine o_initO G0 (hw _ (List.mem_of_getElem? (i := 45) rfl)) (hw _ (List.mem_of_getElem? (i := 14) rfl)) (hw _ (List.mem_of_getElem? (i := 15) rfl)) d6_1 (pc' := 4) rfl rfl (by decide) (W := 0) (Nat.le_of_eq rfl) (by decide) ?_
  intro T1 G1
  refine o_aloadN G1 d6_4 (pc' := 5) rfl rfl rfl ?_
  refine o_iloadN G1 d6_5 (pc' := 6) rfl rfl ?_
  refine o_putF G1 (host := "") (Or.inl (hw _ (List.mem_of_getElem? (i := 46) rfl))) Via.refl F_lowestBit E_r0 (Or.inr ⟨(hw _ (List.mem_of_getElem? (i := 47) rfl)), rfl, rfl⟩) (hw _ (List.mem_of_getElem? (i := 41) rfl)) (ty := .int) (by decide) rfl rfl g_r0 d6_6 (pc' := 9) rfl ?_
  intro T2 h2 G2 W2
  replace K := K.wr W2 (Or.inl (List.mem_of_getElem? (i := 0) rfl))
  replace E_r0 := E_r0.wr W2
  replace F_lowestBit := F_lowestBit.same W2
  replace F_width := F_width.other W2 (Or.inr (slot_ne (Or.inr (hw _ (List.mem_of_getElem? (i := 49) rfl))) (Or.inr (hw _ (List.mem_of_getElem? (i := 47) rfl))) (by decide) (t := .int) (t' := .int) (by decide) (by decide)))
  replace F_valueMask := F_valueMask.other W2 (Or.inr (slot_ne (Or.inr (hw _ (List.mem_of_getElem? (i := 51) rfl))) (Or.inr (hw _ (List.mem_of_getElem? (i := 47) rfl))) (by decide) (t := .long) (t' := .int) (by decide) (by decide)))
  replace F_mask := F_mask.other W2 (Or.inr (slot_ne (Or.inr (hw _ (List.mem_of_getElem? (i := 57) rfl))) (Or.inr (hw _ (List.mem_of_getElem? (i := 47) rfl))) (by decide) (t := .long) (t' := .int) (by decide) (by decide)))
  replace F_cutLowestBit := F_cutLowestBit.other W2 (Or.inr (slot_ne (Or.inr (hw _ (List.mem_of_getElem? (i := 59) rfl))) (Or.inr (hw _ (List.mem_of_getElem? (i := 47) rfl))) (by decide) (t := .int) (t' := .int) (by decide) (by decide)))
  replace F_earlierLowestBits := F_earlierLowestBits.other W2 (Or.inr (slot_ne (Or.inr (hw _ (List.mem_of_getElem? (i := 61) rfl))) (Or.inr (hw _ (List.mem_of_getElem? (i := 47) rfl))) (by decide) (t := .long) (t' := .int) (by decide) (by decide)))
  replace F_earlierHighestBits := F_earlierHighestBits.other W2 (Or.inr (slot_ne (Or.inr (hw _ (List.mem_of_getElem? (i := 63) rfl))) (Or.inr (hw _ (List.mem_of_getElem? (i := 47) rfl))) (by decide) (t := .long) (t' := .int) (by decide) (by decide)))
  refine o_aloadN G2 d6_9 (pc' := 10) rfl rfl rfl ?_
  refine o_iloadN G2 d6_10 (pc' := 11) rfl rfl ?_
  refine o_putF G2 (host := "") (Or.inl (hw _ (List.mem_of_getElem? (i := 48) rfl))) Via.refl F_width E_r0 (Or.inr ⟨(hw _ (List.mem_of_getElem? (i := 49) rfl)), rfl, rfl⟩) (hw _ (List.mem_of_getElem? (i := 41) rfl)) (ty := .int) (by decide) rfl rfl g_r0 d6_11 (pc' := 14) rfl ?_
  intro T3 h3 G3 W3
  replace K := K.wr W3 (Or.inl (List.mem_of_getElem? (i := 0) rfl))
  replace E_r0 := E_r0.wr W3
  replace F_lowestBit := F_lowestBit.other W3 (Or.inr (slot_ne (Or.inr (hw _ (List.mem_of_getElem? (i := 47) rfl))) (Or.inr (hw _ (List.mem_of_getElem? (i := 49) rfl))) (by decide) (t := .int) (t' := .int) (by decide) (by decide)))
  replace F_width := F_width.same W3
  replace F_valueMask := F_valueMask.other W3 (Or.inr (slot_ne (Or.inr (hw _ (List.mem_of_getElem? (i := 51) rfl))) (Or.inr (hw _ (List.mem_of_getElem? (i := 49) rfl))) (by decide) (t := .long) (t' := .int) (by decide) (by decide)))
  replace F_mask := F_mask.other W3 (Or.inr (slot_ne (Or.inr (hw _ (List.mem_of_getElem? (i := 57) rfl))) (Or.inr (hw _ (List.mem_of_getElem? (i := 49) rfl))) (by decide) (t := .long) (t' := .int) (by decide) (by decide)))
  replace F_cutLowestBit := F_cutLowestBit.other W3 (Or.inr (slot_ne (Or.inr (hw _ (List.mem_of_getElem? (i := 59) rfl))) (Or.inr (hw _ (List.mem_of_getElem? (i := 49) rfl))) (by decide) (t := .int) (t' := .int) (by decide) (by decide)))
  replace F_earlierLowestBits := F_earlierLowestBits.other W3 (Or.inr (slot_ne (Or.inr (hw _ (List.mem_of_getElem? (i := 61) rfl))) (Or.inr (hw _ (List.mem_of_getElem? (i := 49) rfl))) (by decide) (t := .long) (t' := .int) (by decide) (by decide)))
  replace F_earlierHighestBits := F_earlierHighestBits.other W3 (Or.inr (slot_ne (Or.inr (hw _ (List.mem_of_getElem? (i := 63) rfl))) (Or.inr (hw _ (List.mem_of_getElem? (i := 49) rfl))) (by decide) (t := .long) (t' := .int) (by decide) (by decide)))
  refine o_aloadN G3 d6_14 (pc' := 15) rfl rfl rfl ?_
  refine o_lconst G3 d6_15 (pc' := 16) rfl (v := (1 : Int64)) rfl ?_
  refine o_iloadN G3 d6_16 (pc' := 17) rfl rfl ?_
  obtain ⟨v4, e4⟩ : ∃ z, (1 : Int64) <<< (p2 &&& 0x3f).toInt64 = z := ⟨_, rfl⟩
  refine o_lshl G3 d6_17 (pc' := 18) rfl e4 ?_
  refine o_lconst G3 d6_18 (pc' := 19) rfl (v := (1 : Int64)) rfl ?_
  obtain ⟨v5, e5⟩ : ∃ z, v4 - (1 : Int64) = z := ⟨_, rfl⟩
  refine o_lsub G3 d6_19 (pc' := 20) rfl e5 ?_
  refine o_putF G3 (host := "") (Or.inl (hw _ (List.mem_of_getElem? (i := 50) rfl))) Via.refl F_valueMask E_r0 (Or.inr ⟨(hw _ (List.mem_of_getElem? (i := 51) rfl)), rfl, rfl⟩) (hw _ (List.mem_of_getElem? (i := 41) rfl)) (ty := .long) (by decide) rfl rfl g_r0 d6_20 (pc' := 23) rfl ?_
  intro T6 h6 G6 W6
  replace K := K.wr W6 (Or.inl (List.mem_of_getElem? (i := 0) rfl))
  replace E_r0 := E_r0.wr W6
  replace F_lowestBit := F_lowestBit.other W6 (Or.inr (slot_ne (Or.inr (hw _ (List.mem_of_getElem? (i := 47) rfl))) (Or.inr (hw _ (List.mem_of_getElem? (i := 51) rfl))) (by decide) (t := .int) (t' := .long) (by decide) (by decide)))
  replace F_width := F_width.other W6 (Or.inr (slot_ne (Or.inr (hw _ (List.mem_of_getElem? (i := 49) rfl))) (Or.inr (hw _ (List.mem_of_getElem? (i := 51) rfl))) (by decide) (t := .int) (t' := .long) (by decide) (by decide)))
  replace F_valueMask := F_valueMask.same W6
  replace F_mask := F_mask.other W6 (Or.inr (slot_ne (Or.inr (hw _ (List.mem_of_getElem? (i := 57) rfl))) (Or.inr (hw _ (List.mem_of_getElem? (i := 51) rfl))) (by decide) (t := .long) (t' := .long) (by decide) (by decide)))
  replace F_cutLowestBit := F_cutLowestBit.other W6 (Or.inr (slot_ne (Or.inr (hw _ (List.mem_of_getElem? (i := 59) rfl))) (Or.inr (hw _ (List.mem_of_getElem? (i := 51) rfl))) (by decide) (t := .int) (t' := .long) (by decide) (by decide)))
  replace F_earlierLowestBits := F_earlierLowestBits.other W6 (Or.inr (slot_ne (Or.inr (hw _ (List.mem_of_getElem? (i := 61) rfl))) (Or.inr (hw _ (List.mem_of_getElem? (i := 51) rfl))) (by decide) (t := .long) (t' := .long) (by decide) (by decide)))
  replace F_earlierHighestBits := F_earlierHighestBits.other W6 (Or.inr (slot_ne (Or.inr (hw _ (List.mem_of_getElem? (i := 63) rfl))) (Or.inr (hw _ (List.mem_of_getElem? (i := 51) rfl))) (by decide) (t := .long) (t' := .long) (by decide) (by decide)))
  refine o_aloadN G6 d6_23 (pc' := 24) rfl rfl rfl ?_
  refine o_aloadN G6 d6_24 (pc' := 25) rfl rfl rfl ?_
  refine o_getF G6 (host := "") (Or.inl (hw _ (List.mem_of_getElem? (i := 50) rfl))) Via.refl F_valueMask d6_25 (pc' := 28) rfl ?_
  intro T7 G7
  refine o_iloadN G7 d6_28 (pc' := 29) rfl rfl ?_
  obtain ⟨v8, e8⟩ : ∃ z, f_7 v5 p1 = z := ⟨_, rfl⟩
  refine o_callP G7 (z := (⟨"java/lang/Long", "rotateLeft", "(JI)J"⟩ : MethodName)) (r := (.long v8)) (argsL := [(.long v5), (.int p1)]) (rest := [(.ref r0)]) (W := 1) (hw _ (List.mem_of_getElem? (i := 52) rfl)) (hw _ (List.mem_of_getElem? (i := 53) rfl)) d6_29 (by decide) (hw _ (List.mem_of_getElem? (i := 54) rfl)) (hw _ (List.mem_of_getElem? (i := 55) rfl)) (by rw [← e8]; exact rm7 hw v5 p1 h6 n0 G7.sz) (by decide) (by decide) rfl (lenOf pd_0 rfl) rfl (Nat.le_of_eq rfl) (pc' := 32) rfl (by decide) (by decide) ?_
  intro T9 G9
  refine o_putF G9 (host := "") (Or.inl (hw _ (List.mem_of_getElem? (i := 56) rfl))) Via.refl F_mask E_r0 (Or.inr ⟨(hw _ (List.mem_of_getElem? (i := 57) rfl)), rfl, rfl⟩) (hw _ (List.mem_of_getElem? (i := 41) rfl)) (ty := .long) (by decide) rfl rfl g_r0 d6_32 (pc' := 35) rfl ?_
  intro T10 h10 G10 W10
  replace K := K.wr W10 (Or.inl (List.mem_of_getElem? (i := 0) rfl))
  replace E_r0 := E_r0.wr W10
  replace F_lowestBit := F_lowestBit.other W10 (Or.inr (slot_ne (Or.inr (hw _ (List.mem_of_getElem? (i := 47) rfl))) (Or.inr (hw _ (List.mem_of_getElem? (i := 57) rfl))) (by decide) (t := .int) (t' := .long) (by decide) (by decide)))
  replace F_width := F_width.other W10 (Or.inr (slot_ne (Or.inr (hw _ (List.mem_of_getElem? (i := 49) rfl))) (Or.inr (hw _ (List.mem_of_getElem? (i := 57) rfl))) (by decide) (t := .int) (t' := .long) (by decide) (by decide)))
  replace F_valueMask := F_valueMask.other W10 (Or.inr (slot_ne (Or.inr (hw _ (List.mem_of_getElem? (i := 51) rfl))) (Or.inr (hw _ (List.mem_of_getElem? (i := 57) rfl))) (by decide) (t := .long) (t' := .long) (by decide) (by decide)))
  replace F_mask := F_mask.same W10
  replace F_cutLowestBit := F_cutLowestBit.other W10 (Or.inr (slot_ne (Or.inr (hw _ (List.mem_of_getElem? (i := 59) rfl))) (Or.inr (hw _ (List.mem_of_getElem? (i := 57) rfl))) (by decide) (t := .int) (t' := .long) (by decide) (by decide)))
  replace F_earlierLowestBits := F_earlierLowestBits.other W10 (Or.inr (slot_ne (Or.inr (hw _ (List.mem_of_getElem? (i := 61) rfl))) (Or.inr (hw _ (List.mem_of_getElem? (i := 57) rfl))) (by decide) (t := .long) (t' := .long) (by decide) (by decide)))
  replace F_earlierHighestBits := F_earlierHighestBits.other W10 (Or.inr (slot_ne (Or.inr (hw _ (List.mem_of_getElem? (i := 63) rfl))) (Or.inr (hw _ (List.mem_of_getElem? (i := 57) rfl))) (by decide) (t := .long) (t' := .long) (by decide) (by decide)))
  refine o_aloadN G10 d6_35 (pc' := 36) rfl rfl rfl ?_
  refine o_iloadN G10 d6_36 (pc' := 37) rfl rfl ?_
  refine o_putF G10 (host := "") (Or.inl (hw _ (List.mem_of_getElem? (i := 58) rfl))) Via.refl F_cutLowestBit E_r0 (Or.inr ⟨(hw _ (List.mem_of_getElem? (i := 59) rfl)), rfl, rfl⟩) (hw _ (List.mem_of_getElem? (i := 41) rfl)) (ty := .int) (by decide) rfl rfl g_r0 d6_37 (pc' := 40) rfl ?_
  intro T11 h11 G11 W11
  replace K := K.wr W11 (Or.inl (List.mem_of_getElem? (i := 0) rfl))
  replace E_r0 := E_r0.wr W11
  replace F_lowestBit := F_lowestBit.other W11 (Or.inr (slot_ne (Or.inr (hw _ (List.mem_of_getElem? (i := 47) rfl))) (Or.inr (hw _ (List.mem_of_getElem? (i := 59) rfl))) (by decide) (t := .int) (t' := .int) (by decide) (by decide)))
  replace F_width := F_width.other W11 (Or.inr (slot_ne (Or.inr (hw _ (List.mem_of_getElem? (i := 49) rfl))) (Or.inr (hw _ (List.mem_of_getElem? (i := 59) rfl))) (by decide) (t := .int) (t' := .int) (by decide) (by decide)))
  replace F_valueMask := F_valueMask.other W11 (Or.inr (slot_ne (Or.inr (hw _ (List.mem_of_getElem? (i := 51) rfl))) (Or.inr (hw _ (List.mem_of_getElem? (i := 59) rfl))) (by decide) (t := .long) (t' := .int) (by decide) (by decide)))
  replace F_mask := F_mask.other W11 (Or.inr (slot_ne (Or.inr (hw _ (List.mem_of_getElem? (i := 57) rfl))) (Or.inr (hw _ (List.mem_of_getElem? (i := 59) rfl))) (by decide) (t := .long) (t' := .int) (by decide) (by decide)))
  replace F_cutLowestBit := F_cutLowestBit.same W11
  replace F_earlierLowestBits := F_earlierLowestBits.other W11 (Or.inr (slot_ne (Or.inr (hw _ (List.mem_of_getElem? (i := 61) rfl))) (Or.inr (hw _ (List.mem_of_getElem? (i := 59) rfl))) (by decide) (t := .long) (t' := .int) (by decide) (by decide)))
  replace F_earlierHighestBits := F_earlierHighestBits.other W11 (Or.inr (slot_ne (Or.inr (hw _ (List.mem_of_getElem? (i := 63) rfl))) (Or.inr (hw _ (List.mem_of_getElem? (i := 59) rfl))) (by decide) (t := .long) (t' := .int) (by decide) (by decide)))
  refine o_aloadN G11 d6_40 (pc' := 41) rfl rfl rfl ?_
  refine o_lload G11 d6_41 (pc' := 43) rfl rfl ?_
  refine o_putF G11 (host := "") (Or.inl (hw _ (List.mem_of_getElem? (i := 60) rfl))) Via.refl F_earlierLowestBits E_r0 (Or.inr ⟨(hw _ (List.mem_of_getElem? (i := 61) rfl)), rfl, rfl⟩) (hw _ (List.mem_of_getElem? (i := 41) rfl)) (ty := .long) (by decide) rfl rfl g_r0 d6_43 (pc' := 46) rfl ?_
  intro T12 h12 G12 W12
  replace K := K.wr W12 (Or.inl (List.mem_of_getElem? (i := 0) rfl))
  replace E_r0 := E_r0.wr W12
  replace F_lowestBit := F_lowestBit.other W12 (Or.inr (slot_ne (Or.inr (hw _ (List.mem_of_getElem? (i := 47) rfl))) (Or.inr (hw _ (List.mem_of_getElem? (i := 61) rfl))) (by decide) (t := .int) (t' := .long) (by decide) (by decide)))
  replace F_width := F_width.other W12 (Or.inr (slot_ne (Or.inr (hw _ (List.mem_of_getElem? (i := 49) rfl))) (Or.inr (hw _ (List.mem_of_getElem? (i := 61) rfl))) (by decide) (t := .int) (t' := .long) (by decide) (by decide)))
  replace F_valueMask := F_valueMask.other W12 (Or.inr (slot_ne (Or.inr (hw _ (List.mem_of_getElem? (i := 51) rfl))) (Or.inr (hw _ (List.mem_of_getElem? (i := 61) rfl))) (by decide) (t := .long) (t' := .long) (by decide) (by decide)))
  replace F_mask := F_mask.other W12 (Or.inr (slot_ne (Or.inr (hw _ (List.mem_of_getElem? (i := 57) rfl))) (Or.inr (hw _ (List.mem_of_getElem? (i := 61) rfl))) (by decide) (t := .long) (t' := .long) (by decide) (by decide)))
  replace F_cutLowestBit := F_cutLowestBit.other W12 (Or.inr (slot_ne (Or.inr (hw _ (List.mem_of_getElem? (i := 59) rfl))) (Or.inr (hw _ (List.mem_of_getElem? (i := 61) rfl))) (by decide) (t := .int) (t' := .long) (by decide) (by decide)))
  replace F_earlierLowestBits := F_earlierLowestBits.same W12
  replace F_earlierHighestBits := F_earlierHighestBits.other W12 (Or.inr (slot_ne (Or.inr (hw _ (List.mem_of_getElem? (i := 63) rfl))) (Or.inr (hw _ (List.mem_of_getElem? (i := 61) rfl))) (by decide) (t := .long) (t' := .long) (by decide) (by decide)))
  refine o_aloadN G12 d6_46 (pc' := 47) rfl rfl rfl ?_
  refine o_lload G12 d6_47 (pc' := 49) rfl rfl ?_
  refine o_putF G12 (host := "") (Or.inl (hw _ (List.mem_of_getElem? (i := 62) rfl))) Via.refl F_earlierHighestBits E_r0 (Or.inr ⟨(hw _ (List.mem_of_getElem? (i := 63) rfl)), rfl, rfl⟩) (hw _ (List.mem_of_getElem? (i := 41) rfl)) (ty := .long) (by decide) rfl rfl g_r0 d6_49 (pc' := 52) rfl ?_
  intro T13 h13 G13 W13
  replace K := K.wr W13 (Or.inl (List.mem_of_getElem? (i := 0) rfl))
  replace E_r0 := E_r0.wr W13
  replace F_lowestBit := F_lowestBit.other W13 (Or.inr (slot_ne (Or.inr (hw _ (List.mem_of_getElem? (i := 47) rfl))) (Or.inr (hw _ (List.mem_of_getElem? (i := 63) rfl))) (by decide) (t := .int) (t' := .long) (by decide) (by decide)))
  replace F_width := F_width.other W13 (Or.inr (slot_ne (Or.inr (hw _ (List.mem_of_getElem? (i := 49) rfl))) (Or.inr (hw _ (List.mem_of_getElem? (i := 63) rfl))) (by decide) (t := .int) (t' := .long) (by decide) (by decide)))
  replace F_valueMask := F_valueMask.other W13 (Or.inr (slot_ne (Or.inr (hw _ (List.mem_of_getElem? (i := 51) rfl))) (Or.inr (hw _ (List.mem_of_getElem? (i := 63) rfl))) (by decide) (t := .long) (t' := .long) (by decide) (by decide)))
  replace F_mask := F_mask.other W13 (Or.inr (slot_ne (Or.inr (hw _ (List.mem_of_getElem? (i := 57) rfl))) (Or.inr (hw _ (List.mem_of_getElem? (i := 63) rfl))) (by decide) (t := .long) (t' := .long) (by decide) (by decide)))
  replace F_cutLowestBit := F_cutLowestBit.other W13 (Or.inr (slot_ne (Or.inr (hw _ (List.mem_of_getElem? (i := 59) rfl))) (Or.inr (hw _ (List.mem_of_getElem? (i := 63) rfl))) (by decide) (t := .int) (t' := .long) (by decide) (by decide)))
  replace F_earlierLowestBits := F_earlierLowestBits.other W13 (Or.inr (slot_ne (Or.inr (hw _ (List.mem_of_getElem? (i := 61) rfl))) (Or.inr (hw _ (List.mem_of_getElem? (i := 63) rfl))) (by decide) (t := .long) (t' := .long) (by decide) (by decide)))
  replace F_earlierHighestBits := F_earlierHighestBits.same W13
  subst e4 e5 e8
  exact o_return G13 d6_52 ⟨rfl, K, F_width, F_mask⟩ (by decide) (by decide)
theorem d4_0 : decode prog_7_method_1_code 0 = .ok (.aload_n 0, 1) := by decide +kernel
theorem d4_1 : decode prog_7_method_1_code 1 = .ok (.invokespecial 3, 3) := by decide +kernel
theorem d4_4 : decode prog_7_method_1_code 4 = .ok (.aload_n 0, 1) := by decide +kernel
theorem d4_5 : decode prog_7_method_1_code 5 = .ok (.iconst 1, 1) := by decide +kernel
theorem d4_6 : decode prog_7_method_1_code 6 = .ok (.anewarray 9, 3) := by decide +kernel
theorem d4_9 : decode prog_7_method_1_code 9 = .ok (.dup, 1) := by decide +kernel
theorem d4_10 : decode prog_7_method_1_code 10 = .ok (.iconst 0, 1) := by decide +kernel
theorem d4_11 : decode prog_7_method_1_code 11 = .ok (.bipush 16, 2) := by decide +kernel
theorem d4_13 : decode prog_7_method_1_code 13 = .ok (.newarray .long, 2) := by decide +kernel
theorem d4_15 : decode prog_7_method_1_code 15 = .ok (.aastore, 1) := by decide +kernel
theorem d4_16 : decode prog_7_method_1_code 16 = .ok (.putfield 11, 3) := by decide +kernel
theorem d4_19 : decode prog_7_method_1_code 19 = .ok (.return_, 1) := by decide +kernel
theorem pn_4 : plainName "com/example/pocket_simhash/pocketsimhash/BlockIndex$LongColumn" = true := by first | (simp [plainName, overriddenIn]; done) | decide +kernel
theorem ef_4 (m : MethodId) (r0 : Addr) : entryFrame m #[(.ref r0)] 1 = mkF m 0 #[.val (.ref r0)] [] := by first | (simp [entryFrame, mkF, argsToLocals, Value.category]; done) | rfl
set_option maxRecDepth 65536 in
set_option maxHeartbeats 40000000 in
theorem rm4 {l : Launch} {Z : State} {a0 : Array Value} (hw : ∀ d ∈ tables_1, d.before a0 Z = true) (r0 : Addr) (h0 : Heap) (n0 : Nat) (hz : n0 ≤ h0.size) (g_r0 : n0 ≤ r0) (E_r0 : Exa Z h0 r0 "com/example/pocket_simhash/pocketsimhash/BlockIndex$LongColumn") (F_pages : Fld Z h0 r0 "com/example/pocket_simhash/pocketsimhash/BlockIndex$LongColumn" "pages" "[[J" .null) :
    OMet l Z (⟨"com/example/pocket_simhash/pocketsimhash/BlockIndex$LongColumn", "<init>", "()V"⟩ : MethodName) prog_7_method_1_code 1 none ({ frames := 1, cells := 2, slots := 17, locals := 12 } : Room) #[(.ref r0)] h0 n0 ({ frames := 1, cells := 2, slots := 17, locals := 12 } : Room).cells ({ frames := 1, cells := 2, slots := 17, locals := 12 } : Room).slots (fun v h => v = none ∧ Keep h0 h [r0]) := by
  refine o_body (plainFor_of_name pn_4) hz (fun m => ef_4 m r0) ?_
  intro p e s m below meth c s₁ G0
  have K : Keep h0 h0 [r0] := Keep.refl _ _
  refine o_aloadN G0 d4_0 (pc' := 1) rfl rfl rfl ?_
  refine o_initO G0 (hw _ (List.mem_of_getElem? (i := 22) rfl)) (hw _ (List.mem_of_getElem? (i := 14) rfl)) (hw _ (List.mem_of_getElem? (i := 15) rfl)) d4_1 (pc' := 4) rfl rfl (by decide) (W := 0) (Nat.le_of_eq rfl) (by decide) ?_
  intro T1 G1
  refine o_aloadN G1 d4_4 (pc' := 5) rfl rfl rfl ?_
  refine o_iconst G1 d4_5 (pc' := 6) rfl (v := (1 : Int32)) rfl ?_
  refine o_anewarrayA G1 (N := 1) (cap := 1) (ad := "[[J") (C := "[J") rfl rfl (hw _ (List.mem_of_getElem? (i := 23) rfl)) (hw _ (List.mem_of_getElem? (i := 24) rfl)) rfl (by decide) (by decide) d4_6 (pc' := 9) rfl (by decide) (by decide) ?_
  intro T2 h2 b2 G2 g2 g_b2 E2 A_b2 M_b2
  have ne_r0_b2 : r0 ≠ b2 := Nat.ne_of_lt (Nat.lt_of_lt_of_eq E_r0.lt g2.symm)
  have sz_b2 : h0.size ≤ b2 := Nat.le_trans K.1 (Nat.le_of_eq g2.symm)
  replace K := K.ext E2
  replace E_r0 := E_r0.ext E2
  replace F_pages := F_pages.ext E2
  refine o_dup G2 d4_9 (pc' := 10) rfl rfl ?_
  refine o_iconst G2 d4_10 (pc' := 11) rfl (v := (0 : Int32)) rfl ?_
  refine o_bipush G2 d4_11 (pc' := 13) rfl (v := (16 : Int32)) rfl ?_
  refine o_newarrayE G2 (N := 16) (cap := 16) (ad := "[J") rfl (hw _ (List.mem_of_getElem? (i := 25) rfl)) rfl (by decide) (by decide) d4_13 (pc' := 15) rfl (by decide) (by decide) ?_
  intro T3 h3 b3 G3 g3 g_b3 E3 A_b3 X_b3
  have ne_r0_b3 : r0 ≠ b3 := Nat.ne_of_lt (Nat.lt_of_lt_of_eq E_r0.lt g3.symm)
  have ne_b2_b3 : b2 ≠ b3 := Nat.ne_of_lt (Nat.lt_of_lt_of_eq A_b2.lt g3.symm)
  have sz_b3 : h0.size ≤ b3 := Nat.le_trans K.1 (Nat.le_of_eq g3.symm)
  replace K := K.ext E3
  replace E_r0 := E_r0.ext E3
  replace F_pages := F_pages.ext E3
  replace A_b2 := A_b2.ext E3
  replace M_b2 := M_b2.ext E3
  replace A_b3 : OArr Z h3 b3 .long 16 (fun _ => (.long (0 : Int64))) := A_b3
  refine o_aastore G3 A_b2 rfl (M_b2.sto (Ins.self X_b3)) g_b2 (i := 0) rfl (by decide) d4_15 (pc' := 16) rfl ?_
  intro T4 h4 G4 W4 A4
  replace K := K.wr W4 (Or.inr sz_b2)
  replace E_r0 := E_r0.wr W4
  replace F_pages := F_pages.other W4 (Or.inl ne_r0_b2)
  replace M_b2 := M_b2.wr W4
  replace A_b3 := A_b3.other W4 (Ne.symm ne_b2_b3)
  replace X_b3 := X_b3.wr W4
  replace A_b2 := A4
  refine o_putF G4 (host := "") (Or.inl (hw _ (List.mem_of_getElem? (i := 27) rfl))) Via.refl F_pages E_r0 (Or.inl (hw _ (List.mem_of_getElem? (i := 28) rfl))) (hw _ (List.mem_of_getElem? (i := 17) rfl)) (ty := (.array (.array .long))) (by decide) rfl rfl g_r0 d4_16 (pc' := 19) rfl ?_
  intro T5 h5 G5 W5
  replace K := K.wr W5 (Or.inl (List.mem_of_getElem? (i := 0) rfl))
  replace E_r0 := E_r0.wr W5
  replace F_pages := F_pages.same W5
  replace A_b2 := A_b2.other W5 (Ne.symm ne_r0_b2)
  replace M_b2 := M_b2.wr W5
  replace A_b3 := A_b3.other W5 (Ne.symm ne_r0_b3)
  replace X_b3 := X_b3.wr W5
  exact o_return G5 d4_19 ⟨rfl, K⟩ (by decide) (by decide)
theorem d9_0 : decode prog_6_method_1_code 0 = .ok (.aload_n 0, 1) := by decide +kernel
theorem d9_1 : decode prog_6_method_1_code 1 = .ok (.invokespecial 3, 3) := by decide +kernel
theorem d9_4 : decode prog_6_method_1_code 4 = .ok (.aload_n 0, 1) := by decide +kernel
theorem d9_5 : decode prog_6_method_1_code 5 = .ok (.iconst 1, 1) := by decide +kernel
theorem d9_6 : decode prog_6_method_1_code 6 = .ok (.anewarray 9, 3) := by decide +kernel
theorem d9_9 : decode prog_6_method_1_code 9 = .ok (.dup, 1) := by decide +kernel
theorem d9_10 : decode prog_6_method_1_code 10 = .ok (.iconst 0, 1) := by decide +kernel
theorem d9_11 : decode prog_6_method_1_code 11 = .ok (.bipush 16, 2) := by decide +kernel
theorem d9_13 : decode prog_6_method_1_code 13 = .ok (.newarray .int, 2) := by decide +kernel
theorem d9_15 : decode prog_6_method_1_code 15 = .ok (.aastore, 1) := by decide +kernel
theorem d9_16 : decode prog_6_method_1_code 16 = .ok (.putfield 11, 3) := by decide +kernel
theorem d9_19 : decode prog_6_method_1_code 19 = .ok (.return_, 1) := by decide +kernel
theorem pn_9 : plainName "com/example/pocket_simhash/pocketsimhash/BlockIndex$IntColumn" = true := by first | (simp [plainName, overriddenIn]; done) | decide +kernel
theorem ef_9 (m : MethodId) (r0 : Addr) : entryFrame m #[(.ref r0)] 1 = mkF m 0 #[.val (.ref r0)] [] := by first | (simp [entryFrame, mkF, argsToLocals, Value.category]; done) | rfl
set_option maxRecDepth 65536 in
set_option maxHeartbeats 40000000 in
theorem rm9 {l : Launch} {Z : State} {a0 : Array Value} (hw : ∀ d ∈ tables_1, d.before a0 Z = true) (r0 : Addr) (h0 : Heap) (n0 : Nat) (hz : n0 ≤ h0.size) (g_r0 : n0 ≤ r0) (E_r0 : Exa Z h0 r0 "com/example/pocket_simhash/pocketsimhash/BlockIndex$IntColumn") (F_pages : Fld Z h0 r0 "com/example/pocket_simhash/pocketsimhash/BlockIndex$IntColumn" "pages" "[[I" .null) :
    OMet l Z (⟨"com/example/pocket_simhash/pocketsimhash/BlockIndex$IntColumn", "<init>", "()V"⟩ : MethodName) prog_6_method_1_code 1 none ({ frames := 1, cells := 2, slots := 17, locals := 12 } : Room) #[(.ref r0)] h0 n0 ({ frames := 1, cells := 2, slots := 17, locals := 12 } : Room).cells ({ frames := 1, cells := 2, slots := 17, locals := 12 } : Room).slots (fun v h => v = none ∧ Keep h0 h [r0]) := by
  refine o_body (plainFor_of_name pn_9) hz (fun m => ef_9 m r0) ?_
  intro p e s m below meth c s₁ G0
  have K : Keep h0 h0 [r0] := Keep.refl _ _
  refine o_aloadN G0 d9_0 (pc' := 1) rfl rfl rfl ?_
  refine o_initO G0 (hw _ (List.mem_of_getElem? (i := 83) rfl)) (hw _ (List.mem_of_getElem? (i := 14) rfl)) (hw _ (List.mem_of_getElem? (i := 15) rfl)) d9_1 (pc' := 4) rfl rfl (by decide) (W := 0) (Nat.le_of_eq rfl) (by decide) ?_
  intro T1 G1
  refine o_aloadN G1 d9_4 (pc' := 5) rfl rfl rfl ?_
  refine o_iconst G1 d9_5 (pc' := 6) rfl (v := (1 : Int32)) rfl ?_
  refine o_anewarrayA G1 (N := 1) (cap := 1) (ad := "[[I") (C := "[I") rfl rfl (hw _ (List.mem_of_getElem? (i := 84) rfl)) (hw _ (List.mem_of_getElem? (i := 85) rfl)) rfl (by decide) (by decide) d9_6 (pc' := 9) rfl (by decide) (by decide) ?_
  intro T2 h2 b2 G2 g2 g_b2 E2 A_b2 M_b2
  have ne_r0_b2 : r0 ≠ b2 := Nat.ne_of_lt (Nat.lt_of_lt_of_eq E_r0.lt g2.symm)
  have sz_b2 : h0.size ≤ b2 := Nat.le_trans K.1 (Nat.le_of_eq g2.symm)
  replace K := K.ext E2
  replace E_r0 := E_r0.ext E2
  replace F_pages := F_pages.ext E2
  refine o_dup G2 d9_9 (pc' := 10) rfl rfl ?_
  refine o_iconst G2 d9_10 (pc' := 11) rfl (v := (0 : Int32)) rfl ?_
  refine o_bipush G2 d9_11 (pc' := 13) rfl (v := (16 : Int32)) rfl ?_
  refine o_newarrayE G2 (N := 16) (cap := 16) (ad := "[I") rfl (hw _ (List.mem_of_getElem? (i := 86) rfl)) rfl (by decide) (by decide) d9_13 (pc' := 15) rfl (by decide) (by decide) ?_
  intro T3 h3 b3 G3 g3 g_b3 E3 A_b3 X_b3
  have ne_r0_b3 : r0 ≠ b3 := Nat.ne_of_lt (Nat.lt_of_lt_of_eq E_r0.lt g3.symm)
  have ne_b2_b3 : b2 ≠ b3 := Nat.ne_of_lt (Nat.lt_of_lt_of_eq A_b2.lt g3.symm)
  have sz_b3 : h0.size ≤ b3 := Nat.le_trans K.1 (Nat.le_of_eq g3.symm)
  replace K := K.ext E3
  replace E_r0 := E_r0.ext E3
  replace F_pages := F_pages.ext E3
  replace A_b2 := A_b2.ext E3
  replace M_b2 := M_b2.ext E3
  replace A_b3 : OArr Z h3 b3 .int 16 (fun _ => (.int (0 : Int32))) := A_b3
  refine o_aastore G3 A_b2 rfl (M_b2.sto (Ins.self X_b3)) g_b2 (i := 0) rfl (by decide) d9_15 (pc' := 16) rfl ?_
  intro T4 h4 G4 W4 A4
  replace K := K.wr W4 (Or.inr sz_b2)
  replace E_r0 := E_r0.wr W4
  replace F_pages := F_pages.other W4 (Or.inl ne_r0_b2)
  replace M_b2 := M_b2.wr W4
  replace A_b3 := A_b3.other W4 (Ne.symm ne_b2_b3)
  replace X_b3 := X_b3.wr W4
  replace A_b2 := A4
  refine o_putF G4 (host := "") (Or.inl (hw _ (List.mem_of_getElem? (i := 88) rfl))) Via.refl F_pages E_r0 (Or.inl (hw _ (List.mem_of_getElem? (i := 89) rfl))) (hw _ (List.mem_of_getElem? (i := 78) rfl)) (ty := (.array (.array .int))) (by decide) rfl rfl g_r0 d9_16 (pc' := 19) rfl ?_
  intro T5 h5 G5 W5
  replace K := K.wr W5 (Or.inl (List.mem_of_getElem? (i := 0) rfl))
  replace E_r0 := E_r0.wr W5
  replace F_pages := F_pages.same W5
  replace A_b2 := A_b2.other W5 (Ne.symm ne_r0_b2)
  replace M_b2 := M_b2.wr W5
  replace A_b3 := A_b3.other W5 (Ne.symm ne_r0_b3)
  replace X_b3 := X_b3.wr W5
  exact o_return G5 d9_19 ⟨rfl, K⟩ (by decide) (by decide)
theorem d11_0 : decode jdk_65_method_103_code 0 = .ok (.iconst 0, 1) := by decide +kernel
theorem d11_1 : decode jdk_65_method_103_code 1 = .ok (.istore_n 2, 1) := by decide +kernel
theorem d11_2 : decode jdk_65_method_103_code 2 = .ok (.aload_n 0, 1) := by decide +kernel
theorem d11_3 : decode jdk_65_method_103_code 3 = .ok (.arraylength, 1) := by decide +kernel
theorem d11_4 : decode jdk_65_method_103_code 4 = .ok (.istore_n 3, 1) := by decide +kernel
theorem d11_5 : decode jdk_65_method_103_code 5 = .ok (.iload_n 2, 1) := by decide +kernel
theorem d11_6 : decode jdk_65_method_103_code 6 = .ok (.iload_n 3, 1) := by decide +kernel
theorem d11_7 : decode jdk_65_method_103_code 7 = .ok (.if_icmp .ge 13, 3) := by decide +kernel
theorem d11_10 : decode jdk_65_method_103_code 10 = .ok (.aload_n 0, 1) := by decide +kernel
theorem d11_11 : decode jdk_65_method_103_code 11 = .ok (.iload_n 2, 1) := by decide +kernel
theorem d11_12 : decode jdk_65_method_103_code 12 = .ok (.iload_n 1, 1) := by decide +kernel
theorem d11_13 : decode jdk_65_method_103_code 13 = .ok (.iastore, 1) := by decide +kernel
theorem d11_14 : decode jdk_65_method_103_code 14 = .ok (.iinc 2 1, 3) := by decide +kernel
theorem d11_17 : decode jdk_65_method_103_code 17 = .ok (.goto (-12), 3) := by decide +kernel
theorem d11_20 : decode jdk_65_method_103_code 20 = .ok (.return_, 1) := by decide +kernel
theorem pn_11 : plainName "java/util/Arrays" = true := by first | (simp [plainName, overriddenIn]; done) | decide +kernel
theorem ef_11 (m : MethodId) (r0 : Addr) (p1 : Int32) : entryFrame m #[(.ref r0), (.int p1)] 4 = mkF m 0 #[.val (.ref r0), .val (.int p1), .unset, .unset] [] := by first | (simp [entryFrame, mkF, argsToLocals, Value.category]; done) | rfl
set_option maxRecDepth 65536 in
set_option maxHeartbeats 40000000 in
theorem rm11 {l : Launch} {Z : State} {a0 : Array Value} (hw : ∀ d ∈ tables_1, d.before a0 Z = true) (r0 : Addr) (p1 : Int32) (h0 : Heap) (n0 : Nat) (hz : n0 ≤ h0.size) (g_r0 : n0 ≤ r0) (N : Nat) (hN : N ≤ 16) (f : Nat → Value) (A : OArr Z h0 r0 .int N f) :
    OMet l Z (⟨"java/util/Arrays", "fill", "([II)V"⟩ : MethodName) jdk_65_method_103_code 4 none ({ frames := 0, cells := 0, slots := 0, locals := 0 } : Room) #[(.ref r0), (.int p1)] h0 n0 0 0 (fun v h => v = none ∧ Keep h0 h [r0]) := by
  refine o_body (plainFor_of_name pn_11) hz (fun m => ef_11 m r0 p1) ?_
  intro p e s m below meth c s₁ G0
  obtain ⟨x3, ex3⟩ : ∃ z, Nat.toInt32 N = z := ⟨_, rfl⟩
  have hx3 : x3.toInt = (N : Int) := by rw [← ex3]; exact o_nat32 (by omega)
  have loop : ∀ (k i : Nat) (T : State) (h : Heap) (f : Nat → Value) (x2 : Int32), k + i = N → x2.toInt = (i : Int) → OArr Z h r0 .int N f → Keep h0 h [r0] → OG l Z (⟨"java/util/Arrays", "fill", "([II)V"⟩ : MethodName) jdk_65_method_103_code 4 none n0 p e ({ frames := 0, cells := 0, slots := 0, locals := 0 } : Room) s m #[(.ref r0), (.int p1)] below meth c T h 0 0 → OFin n0 p e below s (fun v h => v = none ∧ Keep h0 h [r0]) 0 0 T (mkF m 5 #[.val (.ref r0), .val (.int p1), .val (.int x2), .val (.int x3)] []) := by
    intro k
    induction k with
    | zero =>
      intro i T h f x2 hk hi A K G
      have hn : ¬ x2 < x3 := by
        rw [Int32.lt_iff_toInt_lt, hi, hx3]; omega
      refine o_iloadN G d11_5 (pc' := 6) rfl rfl ?_
      refine o_iloadN G d11_6 (pc' := 7) rfl rfl ?_
      refine o_icmp_ge G d11_7 (by decide) (pcT := 20) (by decide) (pc' := 10) rfl (fun _ => ?_) (fun q => absurd q hn)
      exact o_return G d11_20 ⟨rfl, K⟩ (by decide) (by decide)
    | succ k ih =>
      intro i T h f x2 hk hi A K G
      have hn : x2 < x3 := by
        rw [Int32.lt_iff_toInt_lt, hi, hx3]; omega
      refine o_iloadN G d11_5 (pc' := 6) rfl rfl ?_
      refine o_iloadN G d11_6 (pc' := 7) rfl rfl ?_
      refine o_icmp_ge G d11_7 (by decide) (pcT := 20) (by decide) (pc' := 10) rfl (fun q => absurd hn q) (fun _ => ?_)
      refine o_aloadN G d11_10 (pc' := 11) rfl rfl rfl ?_
      refine o_iloadN G d11_11 (pc' := 12) rfl rfl ?_
      refine o_iloadN G d11_12 (pc' := 13) rfl rfl ?_
      refine o_iastore G A g_r0 (i := i) hi (by omega) d11_13 (pc' := 14) rfl ?_
      intro T1 h1 G1 W1 A1
      replace K := K.wr W1 (Or.inl (List.mem_of_getElem? (i := 0) rfl))
      replace A := A1
      obtain ⟨v2, e2⟩ : ∃ z, x2 + (1 : Int32) = z := ⟨_, rfl⟩
      refine o_iinc G1 d11_14 (pc' := 17) rfl rfl (w := (1 : Int32)) rfl e2 (l' := #[.val (.ref r0), .val (.int p1), .val (.int v2), .val (.int x3)]) rfl ?_
      refine o_goto G1 d11_17 (by decide) (pc' := 5) rfl ?_
      have hi' : v2.toInt = ((i + 1 : Nat) : Int) := by
        have h1' : (1 : Int32).toInt = 1 := rfl
        rw [← e2, o_i32 (by omega) (by omega), h1', hi]; omega
      exact ih (i + 1) T1 h1 _ v2 (by omega) hi' A K G1
  refine o_iconst G0 d11_0 (pc' := 1) rfl (v := (0 : Int32)) rfl ?_
  refine o_istoreN G0 d11_1 (pc' := 2) rfl (l' := #[.val (.ref r0), .val (.int p1), .val (.int (0 : Int32)), .unset]) rfl ?_
  refine o_aloadN G0 d11_2 (pc' := 3) rfl rfl rfl ?_
  refine o_arraylength G0 A (v := x3) ex3 d11_3 (pc' := 4) rfl ?_
  refine o_istoreN G0 d11_4 (pc' := 5) rfl (l' := #[.val (.ref r0), .val (.int p1), .val (.int (0 : Int32)), .val (.int x3)]) rfl ?_
  exact loop N 0 _ _ _ _ rfl rfl A (Keep.refl _ _) G0
theorem d10_0 : decode prog_11_method_4_code 0 = .ok (.aload_n 0, 1) := by decide +kernel
theorem d10_1 : decode prog_11_method_4_code 1 = .ok (.iload_n 1, 1) := by decide +kernel
theorem d10_2 : decode prog_11_method_4_code 2 = .ok (.putfield 45, 3) := by decide +kernel
theorem d10_5 : decode prog_11_method_4_code 5 = .ok (.aload_n 0, 1) := by decide +kernel
theorem d10_6 : decode prog_11_method_4_code 6 = .ok (.iconst 1, 1) := by decide +kernel
theorem d10_7 : decode prog_11_method_4_code 7 = .ok (.iload_n 1, 1) := by decide +kernel
theorem d10_8 : decode prog_11_method_4_code 8 = .ok (.ishl, 1) := by decide +kernel
theorem d10_9 : decode prog_11_method_4_code 9 = .ok (.newarray .int, 2) := by decide +kernel
theorem d10_11 : decode prog_11_method_4_code 11 = .ok (.putfield 52, 3) := by decide +kernel
theorem d10_14 : decode prog_11_method_4_code 14 = .ok (.aload_n 0, 1) := by decide +kernel
theorem d10_15 : decode prog_11_method_4_code 15 = .ok (.getfield 52, 3) := by decide +kernel
theorem d10_18 : decode prog_11_method_4_code 18 = .ok (.iconst (-1), 1) := by decide +kernel
theorem d10_19 : decode prog_11_method_4_code 19 = .ok (.invokestatic 66, 3) := by decide +kernel
theorem d10_22 : decode prog_11_method_4_code 22 = .ok (.return_, 1) := by decide +kernel
theorem pn_10 : plainName "com/example/pocket_simhash/pocketsimhash/BlockIndex$Table" = true := by first | (simp [plainName, overriddenIn]; done) | decide +kernel
theorem ef_10 (m : MethodId) (r0 : Addr) (p1 : Int32) : entryFrame m #[(.ref r0), (.int p1)] 2 = mkF m 0 #[.val (.ref r0), .val (.int p1)] [] := by first | (simp [entryFrame, mkF, argsToLocals, Value.category]; done) | rfl
set_option maxRecDepth 65536 in
set_option maxHeartbeats 40000000 in
theorem rm10 {l : Launch} {Z : State} {a0 : Array Value} (hw : ∀ d ∈ tables_1, d.before a0 Z = true) (r0 : Addr) (p1 : Int32) (h0 : Heap) (n0 : Nat) (hz : n0 ≤ h0.size) (g_r0 : n0 ≤ r0) (E_r0 : Exa Z h0 r0 "com/example/pocket_simhash/pocketsimhash/BlockIndex$Table") (F_bucketBits : Fld Z h0 r0 "com/example/pocket_simhash/pocketsimhash/BlockIndex$Table" "bucketBits" "I" (.int (0 : Int32))) (F_latest : Fld Z h0 r0 "com/example/pocket_simhash/pocketsimhash/BlockIndex$Table" "latest" "[I" .null) (hq1 : 0 ≤ p1.toInt) (hq2 : p1.toInt ≤ 4) :
    OMet l Z (⟨"com/example/pocket_simhash/pocketsimhash/BlockIndex$Table", "setBuckets", "(I)V"⟩ : MethodName) prog_11_method_4_code 2 none ({ frames := 1, cells := 1, slots := 16, locals := 15 } : Room) #[(.ref r0), (.int p1)] h0 n0 ({ frames := 1, cells := 1, slots := 16, locals := 15 } : Room).cells ({ frames := 1, cells := 1, slots := 16, locals := 15 } : Room).slots (fun v h => v = none ∧ Keep h0 h [r0]) := by
  refine o_body (plainFor_of_name pn_10) hz (fun m => ef_10 m r0 p1) ?_
  intro p e s m below meth c s₁ G0
  have K : Keep h0 h0 [r0] := Keep.refl _ _
  refine o_aloadN G0 d10_0 (pc' := 1) rfl rfl rfl ?_
  refine o_iloadN G0 d10_1 (pc' := 2) rfl rfl ?_
  refine o_putF G0 (host := "") (Or.inl (hw _ (List.mem_of_getElem? (i := 102) rfl))) Via.refl F_bucketBits E_r0 (Or.inl (hw _ (List.mem_of_getElem? (i := 103) rfl))) (hw _ (List.mem_of_getElem? (i := 71) rfl)) (ty := .int) (by decide) rfl rfl g_r0 d10_2 (pc' := 5) rfl ?_
  intro T1 h1 G1 W1
  replace K := K.wr W1 (Or.inl (List.mem_of_getElem? (i := 0) rfl))
  replace E_r0 := E_r0.wr W1
  replace F_bucketBits := F_bucketBits.same W1
  replace F_latest := F_latest.other W1 (Or.inr (slot_ne (Or.inl (hw _ (List.mem_of_getElem? (i := 105) rfl))) (Or.inl (hw _ (List.mem_of_getElem? (i := 103) rfl))) (by decide) (t := (.array .int)) (t' := .int) (by decide) (by decide)))
  refine o_aloadN G1 d10_5 (pc' := 6) rfl rfl rfl ?_
  refine o_iconst G1 d10_6 (pc' := 7) rfl (v := (1 : Int32)) rfl ?_
  refine o_iloadN G1 d10_7 (pc' := 8) rfl rfl ?_
  obtain ⟨v2, e2⟩ : ∃ z, (1 : Int32) <<< (p1 &&& 31) = z := ⟨_, rfl⟩
  refine o_ishl G1 d10_8 (pc' := 9) rfl e2 ?_
  obtain ⟨N, hN1, hN⟩ : ∃ N : Nat, v2.toInt = (N : Int) ∧ N ≤ 16 := by
    rw [← e2]; exact own_shl4 p1 hq1 hq2
  refine o_newarray G1 (N := N) (cap := 16) (hw _ (List.mem_of_getElem? (i := 86) rfl)) hN1 hN (by decide) d10_9 (pc' := 11) rfl (by decide) (by decide) ?_
  intro T3 h3 b3 G3 g3 g_b3 E3 A_b3
  have ne_r0_b3 : r0 ≠ b3 := Nat.ne_of_lt (Nat.lt_of_lt_of_eq E_r0.lt g3.symm)
  have sz_b3 : h0.size ≤ b3 := Nat.le_trans K.1 (Nat.le_of_eq g3.symm)
  replace K := K.ext E3
  replace E_r0 := E_r0.ext E3
  replace F_bucketBits := F_bucketBits.ext E3
  replace F_latest := F_latest.ext E3
  replace A_b3 : OArr Z h3 b3 .int N (fun _ => (.int (0 : Int32))) := A_b3
  refine o_putF G3 (host := "") (Or.inl (hw _ (List.mem_of_getElem? (i := 104) rfl))) Via.refl F_latest E_r0 (Or.inl (hw _ (List.mem_of_getElem? (i := 105) rfl))) (hw _ (List.mem_of_getElem? (i := 71) rfl)) (ty := (.array .int)) (by decide) rfl rfl g_r0 d10_11 (pc' := 14) rfl ?_
  intro T4 h4 G4 W4
  replace K := K.wr W4 (Or.inl (List.mem_of_getElem? (i := 0) rfl))
  replace E_r0 := E_r0.wr W4
  replace F_bucketBits := F_bucketBits.other W4 (Or.inr (slot_ne (Or.inl (hw _ (List.mem_of_getElem? (i := 103) rfl))) (Or.inl (hw _ (List.mem_of_getElem? (i := 105) rfl))) (by decide) (t := .int) (t' := (.array .int)) (by decide) (by decide)))
  replace F_latest := F_latest.same W4
  replace A_b3 := A_b3.other W4 (Ne.symm ne_r0_b3)
  refine o_aloadN G4 d10_14 (pc' := 15) rfl rfl rfl ?_
  refine o_getF G4 (host := "") (Or.inl (hw _ (List.mem_of_getElem? (i := 104) rfl))) Via.refl F_latest d10_15 (pc' := 18) rfl ?_
  intro T5 G5
  refine o_iconst G5 d10_18 (pc' := 19) rfl (v := (-1 : Int32)) rfl ?_
  refine o_callS G5 (z := (⟨"java/util/Arrays", "fill", "([II)V"⟩ : MethodName)) (argsL := [(.ref b3), (.int (-1 : Int32))]) (rest := []) (W := 0) (hw _ (List.mem_of_getElem? (i := 106) rfl)) (hw _ (List.mem_of_getElem? (i := 107) rfl)) d10_19 (by decide) (hw _ (List.mem_of_getElem? (i := 108) rfl)) (hw _ (List.mem_of_getElem? (i := 109) rfl)) (rm11 hw b3 (-1 : Int32) h4 n0 G5.sz g_b3 N hN _ A_b3) (by decide) (by decide) rfl (lenOf pd_1 rfl) rfl (Nat.le_of_eq rfl) (pc' := 22) rfl (by decide) (by decide) ?_
  rintro _ T6 h6 G6 ⟨rfl, K6⟩
  replace K := K.trans K6 (allS (Or.inr sz_b3) all0)
  replace E_r0 := E_r0.keep K6
  replace F_bucketBits := F_bucketBits.keep K6 (ninS ne_r0_b3 nin0)
  replace F_latest := F_latest.keep K6 (ninS ne_r0_b3 nin0)
  show OFin n0 p e below s (fun v h => v = none ∧ Keep h0 h [r0]) 1 16 T6 (mkF m 22 #[.val (.ref r0), .val (.int p1)] [])
  exact o_return G6 d10_22 ⟨rfl, K⟩ (by decide) (by decide)
theorem d8_0 : decode prog_11_method_1_code 0 = .ok (.aload_n 0, 1) := by decide +kernel
theorem d8_1 : decode prog_11_method_1_code 1 = .ok (.invokespecial 3, 3) := by decide +kernel
theorem d8_4 : decode prog_11_method_1_code 4 = .ok (.aload_n 0, 1) := by decide +kernel
theorem d8_5 : decode prog_11_method_1_code 5 = .ok (.new 9, 3) := by decide +kernel
theorem d8_8 : decode prog_11_method_1_code 8 = .ok (.dup, 1) := by decide +kernel
theorem d8_9 : decode prog_11_method_1_code 9 = .ok (.invokespecial 11, 3) := by decide +kernel
theorem d8_12 : decode prog_11_method_1_code 12 = .ok (.putfield 12, 3) := by decide +kernel
theorem d8_15 : decode prog_11_method_1_code 15 = .ok (.aload_n 0, 1) := by decide +kernel
theorem d8_16 : decode prog_11_method_1_code 16 = .ok (.aload_n 1, 1) := by decide +kernel
theorem d8_17 : decode prog_11_method_1_code 17 = .ok (.putfield 18, 3) := by decide +kernel
theorem d8_20 : decode prog_11_method_1_code 20 = .ok (.aload_n 0, 1) := by decide +kernel
theorem d8_21 : decode prog_11_method_1_code 21 = .ok (.aload_n 1, 1) := by decide +kernel
theorem d8_22 : decode prog_11_method_1_code 22 = .ok (.getfield 22, 3) := by decide +kernel
theorem d8_25 : decode prog_11_method_1_code 25 = .ok (.bipush 30, 2) := by decide +kernel
theorem d8_27 : decode prog_11_method_1_code 27 = .ok (.invokestatic 28, 3) := by decide +kernel
theorem d8_30 : decode prog_11_method_1_code 30 = .ok (.putfield 34, 3) := by decide +kernel
theorem d8_33 : decode prog_11_method_1_code 33 = .ok (.aload_n 0, 1) := by decide +kernel
theorem d8_34 : decode prog_11_method_1_code 34 = .ok (.aload_n 1, 1) := by decide +kernel
theorem d8_35 : decode prog_11_method_1_code 35 = .ok (.getfield 22, 3) := by decide +kernel
theorem d8_38 : decode prog_11_method_1_code 38 = .ok (.iconst 4, 1) := by decide +kernel
theorem d8_39 : decode prog_11_method_1_code 39 = .ok (.invokestatic 28, 3) := by decide +kernel
theorem d8_42 : decode prog_11_method_1_code 42 = .ok (.invokevirtual 37, 3) := by decide +kernel
theorem d8_45 : decode prog_11_method_1_code 45 = .ok (.return_, 1) := by decide +kernel
theorem pn_8 : plainName "com/example/pocket_simhash/pocketsimhash/BlockIndex$Table" = true := by first | (simp [plainName, overriddenIn]; done) | decide +kernel
theorem ef_8 (m : MethodId) (r0 : Addr) (r1 : Addr) : entryFrame m #[(.ref r0), (.ref r1)] 2 = mkF m 0 #[.val (.ref r0), .val (.ref r1)] [] := by first | (simp [entryFrame, mkF, argsToLocals, Value.category]; done) | rfl
set_option maxRecDepth 65536 in
set_option maxHeartbeats 40000000 in
theorem rm8 {l : Launch} {Z : State} {a0 : Array Value} (hw : ∀ d ∈ tables_1, d.before a0 Z = true) (r0 : Addr) (r1 : Addr) (h0 : Heap) (n0 : Nat) (hz : n0 ≤ h0.size) (g_r0 : n0 ≤ r0) (E_r0 : Exa Z h0 r0 "com/example/pocket_simhash/pocketsimhash/BlockIndex$Table") (F_earlier : Fld Z h0 r0 "com/example/pocket_simhash/pocketsimhash/BlockIndex$Table" "earlier" "Lcom/example/pocket_simhash/pocketsimhash/BlockIndex$IntColumn;" .null) (F_block : Fld Z h0 r0 "com/example/pocket_simhash/pocketsimhash/BlockIndex$Table" "block" "Lcom/example/pocket_simhash/pocketsimhash/BlockIndex$Block;" .null) (F_maxBucketBits : Fld Z h0 r0 "com/example/pocket_simhash/pocketsimhash/BlockIndex$Table" "maxBucketBits" "I" (.int (0 : Int32))) (F_bucketBits : Fld Z h0 r0 "com/example/pocket_simhash/pocketsimhash/BlockIndex$Table" "bucketBits" "I" (.int (0 : Int32))) (F_latest : Fld Z h0 r0 "com/example/pocket_simhash/pocketsimhash/BlockIndex$Table" "latest" "[I" .null) (hne : r1 ≠ r0) (w : Int32) (F_w : Fld Z h0 r1 "com/example/pocket_simhash/pocketsimhash/BlockIndex$Block" "width" "I" (.int w)) (hw1 : 0 ≤ w.toInt) :
    OMet l Z (⟨"com/example/pocket_simhash/pocketsimhash/BlockIndex$Table", "<init>", "(Lcom/example/pocket_simhash/pocketsimhash/BlockIndex$Block;)V"⟩ : MethodName) prog_11_method_1_code 2 none ({ frames := 2, cells := 4, slots := 34, locals := 28 } : Room) #[(.ref r0), (.ref r1)] h0 n0 ({ frames := 2, cells := 4, slots := 34, locals := 28 } : Room).cells ({ frames := 2, cells := 4, slots := 34, locals := 28 } : Room).slots (fun v h => v = none ∧ Keep h0 h [r0]) := by
  refine o_body (plainFor_of_name pn_8) hz (fun m => ef_8 m r0 r1) ?_
  intro p e s m below meth c s₁ G0
  have K : Keep h0 h0 [r0] := Keep.refl _ _
  refine o_aloadN G0 d8_0 (pc' := 1) rfl rfl rfl ?_
  refine o_initO G0 (hw _ (List.mem_of_getElem? (i := 76) rfl)) (hw _ (List.mem_of_getElem? (i := 14) rfl)) (hw _ (List.mem_of_getElem? (i := 15) rfl)) d8_1 (pc' := 4) rfl rfl (by decide) (W := 0) (Nat.le_of_eq rfl) (by decide) ?_
  intro T1 G1
  refine o_aloadN G1 d8_4 (pc' := 5) rfl rfl rfl ?_
  refine o_new G1 (hw _ (List.mem_of_getElem? (i := 77) rfl)) (hw _ (List.mem_of_getElem? (i := 78) rfl)) (hw _ (List.mem_of_getElem? (i := 79) rfl)) d8_5 (pc' := 8) rfl (by decide) (by decide) ?_
  intro T2 h2 b2 G2 g2 g_b2 E2 A2 D2
  have ne_r0_b2 : r0 ≠ b2 := Nat.ne_of_lt (Nat.lt_of_lt_of_eq E_r0.lt g2.symm)
  have ne_r1_b2 : r1 ≠ b2 := Nat.ne_of_lt (Nat.lt_of_lt_of_eq F_w.lt g2.symm)
  have sz_b2 : h0.size ≤ b2 := Nat.le_trans K.1 (Nat.le_of_eq g2.symm)
  replace K := K.ext E2
  replace E_r0 := E_r0.ext E2
  replace F_earlier := F_earlier.ext E2
  replace F_block := F_block.ext E2
  replace F_maxBucketBits := F_maxBucketBits.ext E2
  replace F_bucketBits := F_bucketBits.ext E2
  replace F_latest := F_latest.ext E2
  replace F_w := F_w.ext E2
  have F_pages_b2 : Fld Z h2 b2 "com/example/pocket_simhash/pocketsimhash/BlockIndex$IntColumn" "pages" "[[I" .null := D2 (Or.inl (hw _ (List.mem_of_getElem? (i := 89) rfl))) (ty := (.array (.array .int))) (by decide)
  refine o_dup G2 d8_8 (pc' := 9) rfl rfl ?_
  refine o_callIN G2 (z := (⟨"com/example/pocket_simhash/pocketsimhash/BlockIndex$IntColumn", "<init>", "()V"⟩ : MethodName)) (argsL := []) (rest := [(.ref b2), (.ref r0)]) (W := 2) (a := b2) rfl (hw _ (List.mem_of_getElem? (i := 80) rfl)) (hw _ (List.mem_of_getElem? (i := 81) rfl)) rfl d8_9 (by decide) (hw _ (List.mem_of_getElem? (i := 79) rfl)) (hw _ (List.mem_of_getElem? (i := 82) rfl)) (rm9 hw b2 h2 n0 G2.sz g_b2 A2 F_pages_b2) (by decide) (by decide) rfl (lenOf pd_2 rfl) rfl (Nat.le_of_eq rfl) (pc' := 12) rfl (by decide) (by decide) ?_
  rintro _ T3 h3 G3 ⟨rfl, K3⟩
  replace K := K.trans K3 (allS (Or.inr sz_b2) all0)
  replace E_r0 := E_r0.keep K3
  replace F_earlier := F_earlier.keep K3 (ninS ne_r0_b2 nin0)
  replace F_block := F_block.keep K3 (ninS ne_r0_b2 nin0)
  replace F_maxBucketBits := F_maxBucketBits.keep K3 (ninS ne_r0_b2 nin0)
  replace F_bucketBits := F_bucketBits.keep K3 (ninS ne_r0_b2 nin0)
  replace F_latest := F_latest.keep K3 (ninS ne_r0_b2 nin0)
  replace F_w := F_w.keep K3 (ninS ne_r1_b2 nin0)
  replace A2 := A2.keep K3
  show OFin n0 p e below s (fun v h => v = none ∧ Keep h0 h [r0]) 4 34 T3 (mkF m 12 #[.val (.ref r0), .val (.ref r1)] [(.ref b2), (.ref r0)])
  refine o_putF G3 (host := "") (Or.inl (hw _ (List.mem_of_getElem? (i := 90) rfl))) Via.refl F_earlier E_r0 (Or.inr ⟨(hw _ (List.mem_of_getElem? (i := 91) rfl)), rfl, rfl⟩) (hw _ (List.mem_of_getElem? (i := 71) rfl)) (ty := (.object "com/example/pocket_simhash/pocketsimhash/BlockIndex$IntColumn")) (by decide) rfl rfl g_r0 d8_12 (pc' := 15) rfl ?_
  intro T4 h4 G4 W4
  replace K := K.wr W4 (Or.inl (List.mem_of_getElem? (i := 0) rfl))
  replace E_r0 := E_r0.wr W4
  replace F_earlier := F_earlier.same W4
  replace F_block := F_block.other W4 (Or.inr (slot_ne (Or.inr (hw _ (List.mem_of_getElem? (i := 93) rfl))) (Or.inr (hw _ (List.mem_of_getElem? (i := 91) rfl))) (by decide) (t := (.object "com/example/pocket_simhash/pocketsimhash/BlockIndex$Block")) (t' := (.object "com/example/pocket_simhash/pocketsimhash/BlockIndex$IntColumn")) (by decide) (by decide)))
  replace F_maxBucketBits := F_maxBucketBits.other W4 (Or.inr (slot_ne (Or.inr (hw _ (List.mem_of_getElem? (i := 97) rfl))) (Or.inr (hw _ (List.mem_of_getElem? (i := 91) rfl))) (by decide) (t := .int) (t' := (.object "com/example/pocket_simhash/pocketsimhash/BlockIndex$IntColumn")) (by decide) (by decide)))
  replace F_bucketBits := F_bucketBits.other W4 (Or.inr (slot_ne (Or.inl (hw _ (List.mem_of_getElem? (i := 103) rfl))) (Or.inr (hw _ (List.mem_of_getElem? (i := 91) rfl))) (by decide) (t := .int) (t' := (.object "com/example/pocket_simhash/pocketsimhash/BlockIndex$IntColumn")) (by decide) (by decide)))
  replace F_latest := F_latest.other W4 (Or.inr (slot_ne (Or.inl (hw _ (List.mem_of_getElem? (i := 105) rfl))) (Or.inr (hw _ (List.mem_of_getElem? (i := 91) rfl))) (by decide) (t := (.array .int)) (t' := (.object "com/example/pocket_simhash/pocketsimhash/BlockIndex$IntColumn")) (by decide) (by decide)))
  replace F_w := F_w.other W4 (Or.inl hne)
  replace A2 := A2.wr W4
  refine o_aloadN G4 d8_15 (pc' := 16) rfl rfl rfl ?_
  refine o_aloadN G4 d8_16 (pc' := 17) rfl rfl rfl ?_
  refine o_putF G4 (host := "") (Or.inl (hw _ (List.mem_of_getElem? (i := 92) rfl))) Via.refl F_block E_r0 (Or.inr ⟨(hw _ (List.mem_of_getElem? (i := 93) rfl)), rfl, rfl⟩) (hw _ (List.mem_of_getElem? (i := 71) rfl)) (ty := (.object "com/example/pocket_simhash/pocketsimhash/BlockIndex$Block")) (by decide) rfl rfl g_r0 d8_17 (pc' := 20) rfl ?_
  intro T5 h5 G5 W5
  replace K := K.wr W5 (Or.inl (List.mem_of_getElem? (i := 0) rfl))
  replace E_r0 := E_r0.wr W5
  replace F_earlier := F_earlier.other W5 (Or.inr (slot_ne (Or.inr (hw _ (List.mem_of_getElem? (i := 91) rfl))) (Or.inr (hw _ (List.mem_of_getElem? (i := 93) rfl))) (by decide) (t := (.object "com/example/pocket_simhash/pocketsimhash/BlockIndex$IntColumn")) (t' := (.object "com/example/pocket_simhash/pocketsimhash/BlockIndex$Block")) (by decide) (by decide)))
  replace F_block := F_block.same W5
  replace F_maxBucketBits := F_maxBucketBits.other W5 (Or.inr (slot_ne (Or.inr (hw _ (List.mem_of_getElem? (i := 97) rfl))) (Or.inr (hw _ (List.mem_of_getElem? (i := 93) rfl))) (by decide) (t := .int) (t' := (.object "com/example/pocket_simhash/pocketsimhash/BlockIndex$Block")) (by decide) (by decide)))
  replace F_bucketBits := F_bucketBits.other W5 (Or.inr (slot_ne (Or.inl (hw _ (List.mem_of_getElem? (i := 103) rfl))) (Or.inr (hw _ (List.mem_of_getElem? (i := 93) rfl))) (by decide) (t := .int) (t' := (.object "com/example/pocket_simhash/pocketsimhash/BlockIndex$Block")) (by decide) (by decide)))
  replace F_latest := F_latest.other W5 (Or.inr (slot_ne (Or.inl (hw _ (List.mem_of_getElem? (i := 105) rfl))) (Or.inr (hw _ (List.mem_of_getElem? (i := 93) rfl))) (by decide) (t := (.array .int)) (t' := (.object "com/example/pocket_simhash/pocketsimhash/BlockIndex$Block")) (by decide) (by decide)))
  replace F_w := F_w.other W5 (Or.inl hne)
  replace A2 := A2.wr W5
  refine o_aloadN G5 d8_20 (pc' := 21) rfl rfl rfl ?_
  refine o_aloadN G5 d8_21 (pc' := 22) rfl rfl rfl ?_
  refine o_getF G5 (Or.inr (hw _ (List.mem_of_getElem? (i := 94) rfl))) Via.refl F_w d8_22 (pc' := 25) rfl ?_
  intro T6 G6
  refine o_bipush G6 d8_25 (pc' := 27) rfl (v := (30 : Int32)) rfl ?_
  obtain ⟨v7, e7⟩ : ∃ z, f_1 w (30 : Int32) = z := ⟨_, rfl⟩
  refine o_callP G6 (z := (⟨"java/lang/Math", "min", "(II)I"⟩ : MethodName)) (r := (.int v7)) (argsL := [(.int w), (.int (30 : Int32))]) (rest := [(.ref r0)]) (W := 1) (hw _ (List.mem_of_getElem? (i := 95) rfl)) (hw _ (List.mem_of_getElem? (i := 2) rfl)) d8_27 (by decide) (hw _ (List.mem_of_getElem? (i := 3) rfl)) (hw _ (List.mem_of_getElem? (i := 4) rfl)) (by rw [← e7]; exact rm1 hw w (30 : Int32) h5 n0 G6.sz) (by decide) (by decide) rfl (lenOf pd_3 rfl) rfl (Nat.le_of_eq rfl) (pc' := 30) rfl (by decide) (by decide) ?_
  intro T8 G8
  refine o_putF G8 (host := "") (Or.inl (hw _ (List.mem_of_getElem? (i := 96) rfl))) Via.refl F_maxBucketBits E_r0 (Or.inr ⟨(hw _ (List.mem_of_getElem? (i := 97) rfl)), rfl, rfl⟩) (hw _ (List.mem_of_getElem? (i := 71) rfl)) (ty := .int) (by decide) rfl rfl g_r0 d8_30 (pc' := 33) rfl ?_
  intro T9 h9 G9 W9
  replace K := K.wr W9 (Or.inl (List.mem_of_getElem? (i := 0) rfl))
  replace E_r0 := E_r0.wr W9
  replace F_earlier := F_earlier.other W9 (Or.inr (slot_ne (Or.inr (hw _ (List.mem_of_getElem? (i := 91) rfl))) (Or.inr (hw _ (List.mem_of_getElem? (i := 97) rfl))) (by decide) (t := (.object "com/example/pocket_simhash/pocketsimhash/BlockIndex$IntColumn")) (t' := .int) (by decide) (by decide)))
  replace F_block := F_block.other W9 (Or.inr (slot_ne (Or.inr (hw _ (List.mem_of_getElem? (i := 93) rfl))) (Or.inr (hw _ (List.mem_of_getElem? (i := 97) rfl))) (by decide) (t := (.object "com/example/pocket_simhash/pocketsimhash/BlockIndex$Block")) (t' := .int) (by decide) (by decide)))
  replace F_maxBucketBits := F_maxBucketBits.same W9
  replace F_bucketBits := F_bucketBits.other W9 (Or.inr (slot_ne (Or.inl (hw _ (List.mem_of_getElem? (i := 103) rfl))) (Or.inr (hw _ (List.mem_of_getElem? (i := 97) rfl))) (by decide) (t := .int) (t' := .int) (by decide) (by decide)))
  replace F_latest := F_latest.other W9 (Or.inr (slot_ne (Or.inl (hw _ (List.mem_of_getElem? (i := 105) rfl))) (Or.inr (hw _ (List.mem_of_getElem? (i := 97) rfl))) (by decide) (t := (.array .int)) (t' := .int) (by decide) (by decide)))
  replace F_w := F_w.other W9 (Or.inl hne)
  replace A2 := A2.wr W9
  refine o_aloadN G9 d8_33 (pc' := 34) rfl rfl rfl ?_
  refine o_aloadN G9 d8_34 (pc' := 35) rfl rfl rfl ?_
  refine o_getF G9 (Or.inr (hw _ (List.mem_of_getElem? (i := 94) rfl))) Via.refl F_w d8_35 (pc' := 38) rfl ?_
  intro T10 G10
  refine o_iconst G10 d8_38 (pc' := 39) rfl (v := (4 : Int32)) rfl ?_
  obtain ⟨v11, e11⟩ : ∃ z, f_1 w (4 : Int32) = z := ⟨_, rfl⟩
  refine o_callP G10 (z := (⟨"java/lang/Math", "min", "(II)I"⟩ : MethodName)) (r := (.int v11)) (argsL := [(.int w), (.int (4 : Int32))]) (rest := [(.ref r0)]) (W := 1) (hw _ (List.mem_of_getElem? (i := 95) rfl)) (hw _ (List.mem_of_getElem? (i := 2) rfl)) d8_39 (by decide) (hw _ (List.mem_of_getElem? (i := 3) rfl)) (hw _ (List.mem_of_getElem? (i := 4) rfl)) (by rw [← e11]; exact rm1 hw w (4 : Int32) h9 n0 G10.sz) (by decide) (by decide) rfl (lenOf pd_3 rfl) rfl (Nat.le_of_eq rfl) (pc' := 42) rfl (by decide) (by decide) ?_
  intro T12 G12
  have hm4 : 0 ≤ v11.toInt ∧ v11.toInt ≤ 4 := by
    rw [← e11]; exact own_min4 _ hw1
  refine o_callPr G12 (z := (⟨"com/example/pocket_simhash/pocketsimhash/BlockIndex$Table", "setBuckets", "(I)V"⟩ : MethodName)) (argsL := [(.int v11)]) (rest := []) (W := 0) E_r0 (hw _ (List.mem_of_getElem? (i := 98) rfl)) (hw _ (List.mem_of_getElem? (i := 99) rfl)) (hw _ (List.mem_of_getElem? (i := 100) rfl)) (hw _ (List.mem_of_getElem? (i := 71) rfl)) d8_42 (by decide) (hw _ (List.mem_of_getElem? (i := 72) rfl)) (hw _ (List.mem_of_getElem? (i := 101) rfl)) (rm10 hw r0 v11 h9 n0 G12.sz g_r0 E_r0 F_bucketBits F_latest hm4.1 hm4.2) (by decide) (by decide) rfl (lenOf pd_4 rfl) rfl (Nat.le_of_eq rfl) (pc' := 45) rfl (by decide) (by decide) ?_
  rintro _ T13 h13 G13 ⟨rfl, K13⟩
  replace K := K.trans K13 (allS (Or.inl (List.mem_of_getElem? (i := 0) rfl)) all0)
  replace E_r0 := E_r0.keep K13
  replace F_w := F_w.keep K13 (ninS hne nin0)
  replace A2 := A2.keep K13
  show OFin n0 p e below s (fun v h => v = none ∧ Keep h0 h [r0]) 4 34 T13 (mkF m 45 #[.val (.ref r0), .val (.ref r1)] [])
  exact o_return G13 d8_45 ⟨rfl, K⟩ (by decide) (by decide)
theorem d5_0 : decode prog_2_method_2_code 0 = .ok (.iload_n 2, 1) := by decide +kernel
theorem d5_1 : decode prog_2_method_2_code 1 = .ok (.anewarray 8, 3) := by decide +kernel
theorem d5_4 : decode prog_2_method_2_code 4 = .ok (.astore_n 3, 1) := by decide +kernel
theorem d5_5 : decode prog_2_method_2_code 5 = .ok (.iconst 0, 1) := by decide +kernel
theorem d5_6 : decode prog_2_method_2_code 6 = .ok (.istore 4, 2) := by decide +kernel
theorem d5_8 : decode prog_2_method_2_code 8 = .ok (.lconst 0, 1) := by decide +kernel
theorem d5_9 : decode prog_2_method_2_code 9 = .ok (.lstore 5, 2) := by decide +kernel
theorem d5_11 : decode prog_2_method_2_code 11 = .ok (.lconst 0, 1) := by decide +kernel
theorem d5_12 : decode prog_2_method_2_code 12 = .ok (.lstore 7, 2) := by decide +kernel
theorem d5_14 : decode prog_2_method_2_code 14 = .ok (.iconst 0, 1) := by decide +kernel
theorem d5_15 : decode prog_2_method_2_code 15 = .ok (.istore 9, 2) := by decide +kernel
theorem d5_17 : decode prog_2_method_2_code 17 = .ok (.iload 9, 2) := by decide +kernel
theorem d5_19 : decode prog_2_method_2_code 19 = .ok (.iload_n 2, 1) := by decide +kernel
theorem d5_20 : decode prog_2_method_2_code 20 = .ok (.if_icmp .ge 86, 3) := by decide +kernel
theorem d5_23 : decode prog_2_method_2_code 23 = .ok (.iload_n 1, 1) := by decide +kernel
theorem d5_24 : decode prog_2_method_2_code 24 = .ok (.iload_n 2, 1) := by decide +kernel
theorem d5_25 : decode prog_2_method_2_code 25 = .ok (.idiv, 1) := by decide +kernel
theorem d5_26 : decode prog_2_method_2_code 26 = .ok (.iload 9, 2) := by decide +kernel
theorem d5_28 : decode prog_2_method_2_code 28 = .ok (.iload_n 1, 1) := by decide +kernel
theorem d5_29 : decode prog_2_method_2_code 29 = .ok (.iload_n 2, 1) := by decide +kernel
theorem d5_30 : decode prog_2_method_2_code 30 = .ok (.irem, 1) := by decide +kernel
theorem d5_31 : decode prog_2_method_2_code 31 = .ok (.if_icmp .ge 7, 3) := by decide +kernel
theorem d5_34 : decode prog_2_method_2_code 34 = .ok (.iconst 1, 1) := by decide +kernel
theorem d5_35 : decode prog_2_method_2_code 35 = .ok (.goto 4, 3) := by decide +kernel
theorem d5_38 : decode prog_2_method_2_code 38 = .ok (.iconst 0, 1) := by decide +kernel
theorem d5_39 : decode prog_2_method_2_code 39 = .ok (.iadd, 1) := by decide +kernel
theorem d5_40 : decode prog_2_method_2_code 40 = .ok (.istore 10, 2) := by decide +kernel
theorem d5_42 : decode prog_2_method_2_code 42 = .ok (.aload_n 3, 1) := by decide +kernel
theorem d5_43 : decode prog_2_method_2_code 43 = .ok (.iload 9, 2) := by decide +kernel
theorem d5_45 : decode prog_2_method_2_code 45 = .ok (.new 8, 3) := by decide +kernel
theorem d5_48 : decode prog_2_method_2_code 48 = .ok (.dup, 1) := by decide +kernel
theorem d5_49 : decode prog_2_method_2_code 49 = .ok (.iload_n 0, 1) := by decide +kernel
theorem d5_50 : decode prog_2_method_2_code 50 = .ok (.iload 4, 2) := by decide +kernel
theorem d5_52 : decode prog_2_method_2_code 52 = .ok (.iadd, 1) := by decide +kernel
theorem d5_53 : decode prog_2_method_2_code 53 = .ok (.bipush 64, 2) := by decide +kernel
theorem d5_55 : decode prog_2_method_2_code 55 = .ok (.irem, 1) := by decide +kernel
theorem d5_56 : decode prog_2_method_2_code 56 = .ok (.iload 10, 2) := by decide +kernel
theorem d5_58 : decode prog_2_method_2_code 58 = .ok (.iload_n 0, 1) := by decide +kernel
theorem d5_59 : decode prog_2_method_2_code 59 = .ok (.bipush 64, 2) := by decide +kernel
theorem d5_61 : decode prog_2_method_2_code 61 = .ok (.irem, 1) := by decide +kernel
theorem d5_62 : decode prog_2_method_2_code 62 = .ok (.lload 5, 2) := by decide +kernel
theorem d5_64 : decode prog_2_method_2_code 64 = .ok (.lload 7, 2) := by decide +kernel
theorem d5_66 : decode prog_2_method_2_code 66 = .ok (.invokespecial 38, 3) := by decide +kernel
theorem d5_69 : decode prog_2_method_2_code 69 = .ok (.aastore, 1) := by decide +kernel
theorem d5_70 : decode prog_2_method_2_code 70 = .ok (.lload 5, 2) := by decide +kernel
theorem d5_72 : decode prog_2_method_2_code 72 = .ok (.lconst 1, 1) := by decide +kernel
theorem d5_73 : decode prog_2_method_2_code 73 = .ok (.iload 4, 2) := by decide +kernel
theorem d5_75 : decode prog_2_method_2_code 75 = .ok (.lshl, 1) := by decide +kernel
theorem d5_76 : decode prog_2_method_2_code 76 = .ok (.lor, 1) := by decide +kernel
theorem d5_77 : decode prog_2_method_2_code 77 = .ok (.lstore 5, 2) := by decide +kernel
theorem d5_79 : decode prog_2_method_2_code 79 = .ok (.lload 7, 2) := by decide +kernel
theorem d5_81 : decode prog_2_method_2_code 81 = .ok (.lconst 1, 1) := by decide +kernel
theorem d5_82 : decode prog_2_method_2_code 82 = .ok (.iload 4, 2) := by decide +kernel
theorem d5_84 : decode prog_2_method_2_code 84 = .ok (.iload 10, 2) := by decide +kernel
theorem d5_86 : decode prog_2_method_2_code 86 = .ok (.iadd, 1) := by decide +kernel
theorem d5_87 : decode prog_2_method_2_code 87 = .ok (.iconst 1, 1) := by decide +kernel
theorem d5_88 : decode prog_2_method_2_code 88 = .ok (.isub, 1) := by decide +kernel
theorem d5_89 : decode prog_2_method_2_code 89 = .ok (.lshl, 1) := by decide +kernel
theorem d5_90 : decode prog_2_method_2_code 90 = .ok (.lor, 1) := by decide +kernel
theorem d5_91 : decode prog_2_method_2_code 91 = .ok (.lstore 7, 2) := by decide +kernel
theorem d5_93 : decode prog_2_method_2_code 93 = .ok (.iload 4, 2) := by decide +kernel
theorem d5_95 : decode prog_2_method_2_code 95 = .ok (.iload 10, 2) := by decide +kernel
theorem d5_97 : decode prog_2_method_2_code 97 = .ok (.iadd, 1) := by decide +kernel
theorem d5_98 : decode prog_2_method_2_code 98 = .ok (.istore 4, 2) := by decide +kernel
theorem d5_100 : decode prog_2_method_2_code 100 = .ok (.iinc 9 1, 3) := by decide +kernel
theorem d5_103 : decode prog_2_method_2_code 103 = .ok (.goto (-86), 3) := by decide +kernel
theorem d5_106 : decode prog_2_method_2_code 106 = .ok (.aload_n 3, 1) := by decide +kernel
theorem d5_107 : decode prog_2_method_2_code 107 = .ok (.areturn, 1) := by decide +kernel
theorem pn_5 : plainName "com/example/pocket_simhash/pocketsimhash/BlockIndex$Block" = true := by first | (simp [plainName, overriddenIn]; done) | decide +kernel
theorem ef_5 (m : MethodId) (p0 : Int32) (p1 : Int32) (p2 : Int32) : entryFrame m #[(.int p0), (.int p1), (.int p2)] 11 = mkF m 0 #[.val (.int p0), .val (.int p1), .val (.int p2), .unset, .unset, .unset, .unset, .unset, .unset, .unset, .unset] [] := by first | (simp [entryFrame, mkF, argsToLocals, Value.category]; done) | rfl
set_option maxRecDepth 65536 in
set_option maxHeartbeats 40000000 in
theorem rm5 {l : Launch} {Z : State} {a0 : Array Value} (hw : ∀ d ∈ tables_1, d.before a0 Z = true) (p2 : Int32) (h0 : Heap) (n0 : Nat) (hz : n0 ≤ h0.size) (C : Nat) (hC : p2.toInt = (C : Int)) (hC2 : 2 ≤ C) (hC32 : C ≤ 32) :
    OMet l Z (⟨"com/example/pocket_simhash/pocketsimhash/BlockIndex$Block", "cut", "(III)[Lcom/example/pocket_simhash/pocketsimhash/BlockIndex$Block;"⟩ : MethodName) prog_2_method_2_code 11 (some (.array (.object "com/example/pocket_simhash/pocketsimhash/BlockIndex$Block"))) ({ frames := 2, cells := 33, slots := 256, locals := 37 } : Room) #[(.int (0 : Int32)), (.int (64 : Int32)), (.int p2)] h0 n0 33 256 (fun v h => ∃ (ba : Addr) (adr : Nat → Addr), v = some (.ref ba) ∧ h0.size ≤ ba ∧ Keep h0 h [] ∧ OArr Z h ba (.object "com/example/pocket_simhash/pocketsimhash/BlockIndex$Block") C (fun j => .ref (adr j)) ∧ (∀ j, j < C → adr j ≠ ba) ∧ (∀ j, j < C → h0.size ≤ adr j) ∧ ∀ j, j < C → own_BK Z h C (adr j) j) := by
  refine o_body (plainFor_of_name pn_5) hz (fun m => ef_5 m (0 : Int32) (64 : Int32) p2) ?_
  intro p e s m below meth c s₁ G0
  have K : Keep h0 h0 [] := Keep.refl _ _
  refine o_iloadN G0 d5_0 (pc' := 1) rfl rfl ?_
  refine o_anewarray G0 (N := C) (cap := 32) (hw _ (List.mem_of_getElem? (i := 39) rfl)) (hw _ (List.mem_of_getElem? (i := 40) rfl)) hC hC32 (by decide) d5_1 (pc' := 4) rfl (by decide) (by decide) ?_
  intro T1 h1 b1 G1 g1 g_b1 E1 A_b1 M_b1
  have sz_b1 : h0.size ≤ b1 := Nat.le_trans K.1 (Nat.le_of_eq g1.symm)
  replace K := K.ext E1
  refine o_astoreN G1 d5_4 (pc' := 5) rfl rfl (l' := #[.val (.int (0 : Int32)), .val (.int (64 : Int32)), .val (.int p2), .val (.ref b1), .unset, .unset, .unset, .unset, .unset, .unset, .unset]) rfl ?_
  refine o_iconst G1 d5_5 (pc' := 6) rfl (v := (0 : Int32)) rfl ?_
  refine o_istore G1 d5_6 (pc' := 8) rfl (l' := #[.val (.int (0 : Int32)), .val (.int (64 : Int32)), .val (.int p2), .val (.ref b1), .val (.int (0 : Int32)), .unset, .unset, .unset, .unset, .unset, .unset]) rfl ?_
  refine o_lconst G1 d5_8 (pc' := 9) rfl (v := (0 : Int64)) rfl ?_
  refine o_lstore G1 d5_9 (pc' := 11) rfl (l' := #[.val (.int (0 : Int32)), .val (.int (64 : Int32)), .val (.int p2), .val (.ref b1), .val (.int (0 : Int32)), .val (.long (0 : Int64)), .second, .unset, .unset, .unset, .unset]) rfl ?_
  refine o_lconst G1 d5_11 (pc' := 12) rfl (v := (0 : Int64)) rfl ?_
  refine o_lstore G1 d5_12 (pc' := 14) rfl (l' := #[.val (.int (0 : Int32)), .val (.int (64 : Int32)), .val (.int p2), .val (.ref b1), .val (.int (0 : Int32)), .val (.long (0 : Int64)), .second, .val (.long (0 : Int64)), .second, .unset, .unset]) rfl ?_
  refine o_iconst G1 d5_14 (pc' := 15) rfl (v := (0 : Int32)) rfl ?_
  refine o_istore G1 d5_15 (pc' := 17) rfl (l' := #[.val (.int (0 : Int32)), .val (.int (64 : Int32)), .val (.int p2), .val (.ref b1), .val (.int (0 : Int32)), .val (.long (0 : Int64)), .second, .val (.long (0 : Int64)), .second, .val (.int (0 : Int32)), .unset]) rfl ?_
  have hsz := sz_b1
  have loop : ∀ (k i : Nat) (T : State) (h : Heap) (x4 x9 : Int32) (x5 x7 : Int64) (s10 : Slot) (adr : Nat → Addr), k + i = C → x9.toInt = (i : Int) → x4.toInt = (own_l C i : Int) → (s10 = .unset ∨ ∃ w, s10 = .val (.int w)) → Keep h0 h [] → OArr Z h b1 (.object "com/example/pocket_simhash/pocketsimhash/BlockIndex$Block") C (fun j => if j < i then .ref (adr j) else .null) → OMay Z h b1 "com/example/pocket_simhash/pocketsimhash/BlockIndex$Block" → (∀ j, j < i → adr j ≠ b1) → (∀ j, j < i → h0.size ≤ adr j) → (∀ j, j < i → own_BK Z h C (adr j) j) → OG l Z (⟨"com/example/pocket_simhash/pocketsimhash/BlockIndex$Block", "cut", "(III)[Lcom/example/pocket_simhash/pocketsimhash/BlockIndex$Block;"⟩ : MethodName) prog_2_method_2_code 11 (some (.array (.object "com/example/pocket_simhash/pocketsimhash/BlockIndex$Block"))) n0 p e ({ frames := 2, cells := 33, slots := 256, locals := 37 } : Room) s m #[(.int (0 : Int32)), (.int (64 : Int32)), (.int p2)] below meth c T h (1 + i) (32 + 7 * i) → OFin n0 p e below s (fun v h => ∃ (ba : Addr) (adr : Nat → Addr), v = some (.ref ba) ∧ h0.size ≤ ba ∧ Keep h0 h [] ∧ OArr Z h ba (.object "com/example/pocket_simhash/pocketsimhash/BlockIndex$Block") C (fun j => .ref (adr j)) ∧ (∀ j, j < C → adr j ≠ ba) ∧ (∀ j, j < C → h0.size ≤ adr j) ∧ ∀ j, j < C → own_BK Z h C (adr j) j) 33 256 T (mkF m 17 #[.val (.int (0 : Int32)), .val (.int (64 : Int32)), .val (.int p2), .val (.ref b1), .val (.int x4), .val (.long x5), .second, .val (.long x7), .second, .val (.int x9), s10] []) := by
    intro k
    induction k with
    | zero =>
      intro i T h x4 x9 x5 x7 s10 adr hk hi hl h10 K A M hA hS BS G
      obtain rfl : i = C := by omega
      have hn : ¬ x9 < p2 := by
        rw [Int32.lt_iff_toInt_lt, hi, hC]; omega
      refine o_iload G d5_17 (pc' := 19) rfl rfl ?_
      refine o_iloadN G d5_19 (pc' := 20) rfl rfl ?_
      refine o_icmp_ge G d5_20 (by decide) (pcT := 106) (by decide) (pc' := 23) rfl (fun _ => ?_) (fun q => absurd q hn)
      refine o_aloadN G d5_106 (pc' := 107) rfl rfl rfl ?_
      exact o_areturn G rfl rfl rfl d5_107 ⟨b1, adr, rfl, hsz, K, A.congr (fun j hj => if_pos hj), hA, hS, BS⟩ (by first | omega | (dsimp only; omega)) (by first | omega | (dsimp only; omega))
    | succ k ih =>
      intro i T h x4 x9 x5 x7 s10 adr hk hi hl h10 K A M hA hS BS G
      have hn : x9 < p2 := by
        rw [Int32.lt_iff_toInt_lt, hi, hC]; omega
      have hiC : i < C := by omega
      have hv1 := own_in C i hC2 hiC
      have hv2 := own_w2 C i hC2 hC32
      have hv3 := own_w32 C i hC2 hC32
      refine o_iload G d5_17 (pc' := 19) rfl rfl ?_
      refine o_iloadN G d5_19 (pc' := 20) rfl rfl ?_
      refine o_icmp_ge G d5_20 (by decide) (pcT := 106) (by decide) (pc' := 23) rfl (fun q => absurd hn q) (fun _ => ?_)
      refine o_iloadN G d5_23 (pc' := 24) rfl rfl ?_
      refine o_iloadN G d5_24 (pc' := 25) rfl rfl ?_
      obtain ⟨v2, e2⟩ : ∃ z, (64 : Int32) / p2 = z := ⟨_, rfl⟩
      refine o_idiv G d5_25 (pc' := 26) rfl (fun q => by rw [q] at hC; have : (0 : Int32).toInt = 0 := rfl; omega) e2 ?_
      refine o_iload G d5_26 (pc' := 28) rfl rfl ?_
      refine o_iloadN G d5_28 (pc' := 29) rfl rfl ?_
      refine o_iloadN G d5_29 (pc' := 30) rfl rfl ?_
      obtain ⟨v3, e3⟩ : ∃ z, (64 : Int32) % p2 = z := ⟨_, rfl⟩
      refine o_irem G d5_30 (pc' := 31) rfl (fun q => by rw [q] at hC; have : (0 : Int32).toInt = 0 := rfl; omega) e3 ?_
      obtain ⟨v4, e4⟩ : ∃ z, (if x9 < v3 then (1 : Int32) else (0 : Int32)) = z := ⟨_, rfl⟩
      have K5 : ∀ T', OG l Z (⟨"com/example/pocket_simhash/pocketsimhash/BlockIndex$Block", "cut", "(III)[Lcom/example/pocket_simhash/pocketsimhash/BlockIndex$Block;"⟩ : MethodName) prog_2_method_2_code 11 (some (.array (.object "com/example/pocket_simhash/pocketsimhash/BlockIndex$Block"))) n0 p e ({ frames := 2, cells := 33, slots := 256, locals := 37 } : Room) s m #[(.int (0 : Int32)), (.int (64 : Int32)), (.int p2)] below meth c T' h (1 + i) (32 + 7 * i) → OFin n0 p e below s (fun v h => ∃ (ba : Addr) (adr : Nat → Addr), v = some (.ref ba) ∧ h0.size ≤ ba ∧ Keep h0 h [] ∧ OArr Z h ba (.object "com/example/pocket_simhash/pocketsimhash/BlockIndex$Block") C (fun j => .ref (adr j)) ∧ (∀ j, j < C → adr j ≠ ba) ∧ (∀ j, j < C → h0.size ≤ adr j) ∧ ∀ j, j < C → own_BK Z h C (adr j) j) 33 256 T' (mkF m 39 #[.val (.int (0 : Int32)), .val (.int (64 : Int32)), .val (.int p2), .val (.ref b1), .val (.int x4), .val (.long x5), .second, .val (.long x7), .second, .val (.int x9), s10] [(.int v4), (.int v2)]) := by
        intro T5 G5
        obtain ⟨v6, e6⟩ : ∃ z, v2 + v4 = z := ⟨_, rfl⟩
        refine o_iadd G5 d5_39 (pc' := 40) rfl e6 ?_
        refine o_istore G5 d5_40 (pc' := 42) rfl (l' := #[.val (.int (0 : Int32)), .val (.int (64 : Int32)), .val (.int p2), .val (.ref b1), .val (.int x4), .val (.long x5), .second, .val (.long x7), .second, .val (.int x9), .val (.int v6)]) (by rcases h10 with rfl | ⟨w, rfl⟩ <;> rfl) ?_
        refine o_aloadN G5 d5_42 (pc' := 43) rfl rfl rfl ?_
        refine o_iload G5 d5_43 (pc' := 45) rfl rfl ?_
        refine o_new G5 (hw _ (List.mem_of_getElem? (i := 39) rfl)) (hw _ (List.mem_of_getElem? (i := 41) rfl)) (hw _ (List.mem_of_getElem? (i := 37) rfl)) d5_45 (pc' := 48) rfl (by first | omega | (dsimp only; omega)) (by first | omega | (dsimp only; omega)) ?_
        intro T7 h7 b7 G7 g7 g_b7 E7 A7 D7
        have ne_b1_b7 : b1 ≠ b7 := Nat.ne_of_lt (Nat.lt_of_lt_of_eq A.lt g7.symm)
        have nx_BS_b7 : ∀ j, j < i → adr j ≠ b7 := fun j hj => Nat.ne_of_lt (Nat.lt_of_lt_of_eq (BS j hj).lt g7.symm)
        have sz_b7 : h0.size ≤ b7 := Nat.le_trans K.1 (Nat.le_of_eq g7.symm)
        replace A := A.ext E7
        replace M := M.ext E7
        replace K := K.ext E7
        replace BS := fun j hj => (BS j hj).ext E7
        have F_lowestBit_b7 : Fld Z h7 b7 "com/example/pocket_simhash/pocketsimhash/BlockIndex$Block" "lowestBit" "I" (.int (0 : Int32)) := D7 (Or.inr (hw _ (List.mem_of_getElem? (i := 47) rfl))) (ty := .int) (by decide)
        have F_width_b7 : Fld Z h7 b7 "com/example/pocket_simhash/pocketsimhash/BlockIndex$Block" "width" "I" (.int (0 : Int32)) := D7 (Or.inr (hw _ (List.mem_of_getElem? (i := 49) rfl))) (ty := .int) (by decide)
        have F_valueMask_b7 : Fld Z h7 b7 "com/example/pocket_simhash/pocketsimhash/BlockIndex$Block" "valueMask" "J" (.long (0 : Int64)) := D7 (Or.inr (hw _ (List.mem_of_getElem? (i := 51) rfl))) (ty := .long) (by decide)
        have F_mask_b7 : Fld Z h7 b7 "com/example/pocket_simhash/pocketsimhash/BlockIndex$Block" "mask" "J" (.long (0 : Int64)) := D7 (Or.inr (hw _ (List.mem_of_getElem? (i := 57) rfl))) (ty := .long) (by decide)
        have F_cutLowestBit_b7 : Fld Z h7 b7 "com/example/pocket_simhash/pocketsimhash/BlockIndex$Block" "cutLowestBit" "I" (.int (0 : Int32)) := D7 (Or.inr (hw _ (List.mem_of_getElem? (i := 59) rfl))) (ty := .int) (by decide)
        have F_earlierLowestBits_b7 : Fld Z h7 b7 "com/example/pocket_simhash/pocketsimhash/BlockIndex$Block" "earlierLowestBits" "J" (.long (0 : Int64)) := D7 (Or.inr (hw _ (List.mem_of_getElem? (i := 61) rfl))) (ty := .long) (by decide)
        have F_earlierHighestBits_b7 : Fld Z h7 b7 "com/example/pocket_simhash/pocketsimhash/BlockIndex$Block" "earlierHighestBits" "J" (.long (0 : Int64)) := D7 (Or.inr (hw _ (List.mem_of_getElem? (i := 63) rfl))) (ty := .long) (by decide)
        refine o_dup G7 d5_48 (pc' := 49) rfl rfl ?_
        refine o_iloadN G7 d5_49 (pc' := 50) rfl rfl ?_
        refine o_iload G7 d5_50 (pc' := 52) rfl rfl ?_
        obtain ⟨v8, e8⟩ : ∃ z, (0 : Int32) + x4 = z := ⟨_, rfl⟩
        refine o_iadd G7 d5_52 (pc' := 53) rfl e8 ?_
        refine o_bipush G7 d5_53 (pc' := 55) rfl (v := (64 : Int32)) rfl ?_
        obtain ⟨v9, e9⟩ : ∃ z, v8 % (64 : Int32) = z := ⟨_, rfl⟩
        refine o_irem G7 d5_55 (pc' := 56) rfl (by decide) e9 ?_
        refine o_iload G7 d5_56 (pc' := 58) rfl rfl ?_
        refine o_iloadN G7 d5_58 (pc' := 59) rfl rfl ?_
        refine o_bipush G7 d5_59 (pc' := 61) rfl (v := (64 : Int32)) rfl ?_
        refine o_irem G7 d5_61 (pc' := 62) rfl (by decide) (v := (0 : Int32)) (by decide) ?_
        refine o_lload G7 d5_62 (pc' := 64) rfl rfl ?_
        refine o_lload G7 d5_64 (pc' := 66) rfl rfl ?_
        have hwd : v6.toInt = (own_w C i : Int) := by
          subst e2 e3 e4 e6 e8 e9; exact own_wI _ _ C i hC hC2 hi
        have hlo : v9.toInt = (own_l C i : Int) := by
          rw [← e9, ← e8]; exact own_loI _ C i hC2 hC32 hiC hl
        refine o_callI G7 (z := (⟨"com/example/pocket_simhash/pocketsimhash/BlockIndex$Block", "<init>", "(IIIJJ)V"⟩ : MethodName)) (argsL := [(.int v9), (.int v6), (.int (0 : Int32)), (.long x5), (.long x7)]) (rest := [(.ref b7), (.int x9), (.ref b1)]) (W := 3) (a := b7) rfl (hw _ (List.mem_of_getElem? (i := 42) rfl)) (hw _ (List.mem_of_getElem? (i := 43) rfl)) rfl d5_66 (by decide) (hw _ (List.mem_of_getElem? (i := 37) rfl)) (hw _ (List.mem_of_getElem? (i := 44) rfl)) (rm6 hw b7 v9 v6 (0 : Int32) x5 x7 h7 n0 G7.sz g_b7 A7 F_lowestBit_b7 F_width_b7 F_valueMask_b7 F_mask_b7 F_cutLowestBit_b7 F_earlierLowestBits_b7 F_earlierHighestBits_b7) (by decide) (by decide) rfl (lenOf pd_5 rfl) rfl (Nat.le_of_eq rfl) (pc' := 69) rfl (by first | omega | (dsimp only; omega)) (by first | omega | (dsimp only; omega)) ?_
        rintro _ T10 h10 G10 ⟨rfl, K10, F1, F2⟩
        replace A := A.keep K10 (ninS ne_b1_b7 nin0)
        replace M := M.keep K10
        replace K := K.trans K10 (allS (Or.inr sz_b7) all0)
        replace BS := fun j hj => (BS j hj).keep K10 (ninS (nx_BS_b7 j hj) nin0)
        replace A7 := A7.keep K10
        show OFin n0 p e below s (fun v h => ∃ (ba : Addr) (adr : Nat → Addr), v = some (.ref ba) ∧ h0.size ≤ ba ∧ Keep h0 h [] ∧ OArr Z h ba (.object "com/example/pocket_simhash/pocketsimhash/BlockIndex$Block") C (fun j => .ref (adr j)) ∧ (∀ j, j < C → adr j ≠ ba) ∧ (∀ j, j < C → h0.size ≤ adr j) ∧ ∀ j, j < C → own_BK Z h C (adr j) j) 33 256 T10 (mkF m 69 #[.val (.int (0 : Int32)), .val (.int (64 : Int32)), .val (.int p2), .val (.ref b1), .val (.int x4), .val (.long x5), .second, .val (.long x7), .second, .val (.int x9), .val (.int v6)] [(.ref b7), (.int x9), (.ref b1)])
        rw [own_rot v6 v9 (own_w C i) (own_l C i) hwd hlo hv3 hv1 (by omega)] at F2
        refine o_aastore G10 A rfl (M.sto (Ins.self A7)) g_b1 (i := i) hi hiC d5_69 (pc' := 70) rfl ?_
        intro T11 h11 G11 W11 A11
        replace M := M.wr W11
        replace K := K.wr W11 (Or.inr hsz)
        replace BS := fun j hj => (BS j hj).wr W11 (hA j hj)
        replace A7 := A7.wr W11
        replace F1 := F1.other W11 (Or.inl (Ne.symm ne_b1_b7))
        replace F2 := F2.other W11 (Or.inl (Ne.symm ne_b1_b7))
        replace A := A11
        refine o_lload G11 d5_70 (pc' := 72) rfl rfl ?_
        refine o_lconst G11 d5_72 (pc' := 73) rfl (v := (1 : Int64)) rfl ?_
        refine o_iload G11 d5_73 (pc' := 75) rfl rfl ?_
        obtain ⟨v12, e12⟩ : ∃ z, (1 : Int64) <<< (x4 &&& 0x3f).toInt64 = z := ⟨_, rfl⟩
        refine o_lshl G11 d5_75 (pc' := 76) rfl e12 ?_
        obtain ⟨v13, e13⟩ : ∃ z, x5 ||| v12 = z := ⟨_, rfl⟩
        refine o_lor G11 d5_76 (pc' := 77) rfl e13 ?_
        refine o_lstore G11 d5_77 (pc' := 79) rfl (l' := #[.val (.int (0 : Int32)), .val (.int (64 : Int32)), .val (.int p2), .val (.ref b1), .val (.int x4), .val (.long v13), .second, .val (.long x7), .second, .val (.int x9), .val (.int v6)]) rfl ?_
        refine o_lload G11 d5_79 (pc' := 81) rfl rfl ?_
        refine o_lconst G11 d5_81 (pc' := 82) rfl (v := (1 : Int64)) rfl ?_
        refine o_iload G11 d5_82 (pc' := 84) rfl rfl ?_
        refine o_iload G11 d5_84 (pc' := 86) rfl rfl ?_
        obtain ⟨v14, e14⟩ : ∃ z, x4 + v6 = z := ⟨_, rfl⟩
        refine o_iadd G11 d5_86 (pc' := 87) rfl e14 ?_
        refine o_iconst G11 d5_87 (pc' := 88) rfl (v := (1 : Int32)) rfl ?_
        obtain ⟨v15, e15⟩ : ∃ z, v14 - (1 : Int32) = z := ⟨_, rfl⟩
        refine o_isub G11 d5_88 (pc' := 89) rfl e15 ?_
        obtain ⟨v16, e16⟩ : ∃ z, (1 : Int64) <<< (v15 &&& 0x3f).toInt64 = z := ⟨_, rfl⟩
        refine o_lshl G11 d5_89 (pc' := 90) rfl e16 ?_
        obtain ⟨v17, e17⟩ : ∃ z, x7 ||| v16 = z := ⟨_, rfl⟩
        refine o_lor G11 d5_90 (pc' := 91) rfl e17 ?_
        refine o_lstore G11 d5_91 (pc' := 93) rfl (l' := #[.val (.int (0 : Int32)), .val (.int (64 : Int32)), .val (.int p2), .val (.ref b1), .val (.int x4), .val (.long v13), .second, .val (.long v17), .second, .val (.int x9), .val (.int v6)]) rfl ?_
        refine o_iload G11 d5_93 (pc' := 95) rfl rfl ?_
        refine o_iload G11 d5_95 (pc' := 97) rfl rfl ?_
        obtain ⟨v18, e18⟩ : ∃ z, x4 + v6 = z := ⟨_, rfl⟩
        refine o_iadd G11 d5_97 (pc' := 98) rfl e18 ?_
        refine o_istore G11 d5_98 (pc' := 100) rfl (l' := #[.val (.int (0 : Int32)), .val (.int (64 : Int32)), .val (.int p2), .val (.ref b1), .val (.int v18), .val (.long v13), .second, .val (.long v17), .second, .val (.int x9), .val (.int v6)]) rfl ?_
        obtain ⟨v19, e19⟩ : ∃ z, x9 + (1 : Int32) = z := ⟨_, rfl⟩
        refine o_iinc G11 d5_100 (pc' := 103) rfl rfl (w := (1 : Int32)) rfl e19 (l' := #[.val (.int (0 : Int32)), .val (.int (64 : Int32)), .val (.int p2), .val (.ref b1), .val (.int v18), .val (.long v13), .second, .val (.long v17), .second, .val (.int v19), .val (.int v6)]) rfl ?_
        refine o_goto G11 d5_103 (by decide) (pc' := 17) rfl ?_
        have hi' : v19.toInt = ((i + 1 : Nat) : Int) := by
          have h1' : (1 : Int32).toInt = 1 := rfl
          rw [← e19, o_i32 (by omega) (by omega), h1', hi]; omega
        have hl' : v18.toInt = (own_l C (i + 1) : Int) := by
          rw [← e18, o_i32 (by omega) (by omega), hl, hwd, own_lw]; omega
        refine ih (i + 1) T11 h11 v18 v19 _ _ _ (fun j => if j = i then b7 else adr j) (by omega) hi' hl' (Or.inr ⟨_, rfl⟩) K (A.congr (fun j hj => ?_)) M (fun j hj => ?_) (fun j hj => ?_) (fun j hj => ?_) (o_room (by first | omega | (dsimp only; omega)) (by first | omega | (dsimp only; omega)) G11)
        · simp only [o_set]
          by_cases q : j = i
          · subst q; rw [if_pos rfl, if_pos (by omega), if_pos rfl]
          · rw [if_neg q]
            by_cases r : j < i
            · rw [if_pos r, if_pos (by omega), if_neg q]
            · rw [if_neg r, if_neg (by omega)]
        · by_cases q : j = i
          · rw [if_pos q]; exact (Ne.symm ne_b1_b7)
          · rw [if_neg q]; exact hA j (by omega)
        · by_cases q : j = i
          · rw [if_pos q]; exact sz_b7
          · rw [if_neg q]; exact hS j (by omega)
        · by_cases q : j = i
          · rw [if_pos q]; subst q; exact ⟨_, _, hwd, hlo, F1, F2⟩
          · rw [if_neg q]; exact BS j (by omega)
      refine o_icmp_ge G d5_31 (by decide) (pcT := 38) (by decide) (pc' := 34) rfl (fun hc31 => ?_) (fun hc31 => ?_)
      · refine o_iconst G d5_38 (pc' := 39) rfl (v := (0 : Int32)) rfl ?_
        rw [if_neg hc31] at e4
        subst e4
        exact K5 _ G
      · refine o_iconst G d5_34 (pc' := 35) rfl (v := (1 : Int32)) rfl ?_
        refine o_goto G d5_35 (by decide) (pc' := 39) rfl ?_
        rw [if_pos hc31] at e4
        subst e4
        exact K5 _ G
  exact loop C 0 _ _ _ _ _ _ _ (fun _ => 0) rfl rfl (by simp [own_l]) (Or.inl rfl) K (A_b1.congr (fun j _ => (if_neg (Nat.not_lt_zero j)).symm)) M_b1 (fun j hj => absurd hj (Nat.not_lt_zero j)) (fun j hj => absurd hj (Nat.not_lt_zero j)) (fun j hj => absurd hj (Nat.not_lt_zero j)) G1
theorem d2_0 : decode prog_1_method_1_code 0 = .ok (.aload_n 0, 1) := by decide +kernel
theorem d2_1 : decode prog_1_method_1_code 1 = .ok (.invokespecial 5, 3) := by decide +kernel
theorem d2_4 : decode prog_1_method_1_code 4 = .ok (.aload_n 0, 1) := by decide +kernel
theorem d2_5 : decode prog_1_method_1_code 5 = .ok (.new 11, 3) := by decide +kernel
theorem d2_8 : decode prog_1_method_1_code 8 = .ok (.dup, 1) := by decide +kernel
theorem d2_9 : decode prog_1_method_1_code 9 = .ok (.invokespecial 13, 3) := by decide +kernel
theorem d2_12 : decode prog_1_method_1_code 12 = .ok (.putfield 14, 3) := by decide +kernel
theorem d2_15 : decode prog_1_method_1_code 15 = .ok (.aload_n 0, 1) := by decide +kernel
theorem d2_16 : decode prog_1_method_1_code 16 = .ok (.new 11, 3) := by decide +kernel
theorem d2_19 : decode prog_1_method_1_code 19 = .ok (.dup, 1) := by decide +kernel
theorem d2_20 : decode prog_1_method_1_code 20 = .ok (.invokespecial 13, 3) := by decide +kernel
theorem d2_23 : decode prog_1_method_1_code 23 = .ok (.putfield 18, 3) := by decide +kernel
theorem d2_26 : decode prog_1_method_1_code 26 = .ok (.aload_n 0, 1) := by decide +kernel
theorem d2_27 : decode prog_1_method_1_code 27 = .ok (.bipush 16, 2) := by decide +kernel
theorem d2_29 : decode prog_1_method_1_code 29 = .ok (.putfield 21, 3) := by decide +kernel
theorem d2_32 : decode prog_1_method_1_code 32 = .ok (.iload_n 1, 1) := by decide +kernel
theorem d2_33 : decode prog_1_method_1_code 33 = .ok (.iconst 2, 1) := by decide +kernel
theorem d2_34 : decode prog_1_method_1_code 34 = .ok (.if_icmp .lt 9, 3) := by decide +kernel
theorem d2_37 : decode prog_1_method_1_code 37 = .ok (.iload_n 1, 1) := by decide +kernel
theorem d2_38 : decode prog_1_method_1_code 38 = .ok (.bipush 32, 2) := by decide +kernel
theorem d2_40 : decode prog_1_method_1_code 40 = .ok (.if_icmp .le 17, 3) := by decide +kernel
theorem d2_57 : decode prog_1_method_1_code 57 = .ok (.aload_n 0, 1) := by decide +kernel
theorem d2_58 : decode prog_1_method_1_code 58 = .ok (.iconst 0, 1) := by decide +kernel
theorem d2_59 : decode prog_1_method_1_code 59 = .ok (.bipush 64, 2) := by decide +kernel
theorem d2_61 : decode prog_1_method_1_code 61 = .ok (.iload_n 1, 1) := by decide +kernel
theorem d2_62 : decode prog_1_method_1_code 62 = .ok (.invokestatic 36, 3) := by decide +kernel
theorem d2_65 : decode prog_1_method_1_code 65 = .ok (.putfield 42, 3) := by decide +kernel
theorem d2_68 : decode prog_1_method_1_code 68 = .ok (.aload_n 0, 1) := by decide +kernel
theorem d2_69 : decode prog_1_method_1_code 69 = .ok (.iload_n 1, 1) := by decide +kernel
theorem d2_70 : decode prog_1_method_1_code 70 = .ok (.anewarray 46, 3) := by decide +kernel
theorem d2_73 : decode prog_1_method_1_code 73 = .ok (.putfield 48, 3) := by decide +kernel
theorem d2_76 : decode prog_1_method_1_code 76 = .ok (.iconst 0, 1) := by decide +kernel
theorem d2_77 : decode prog_1_method_1_code 77 = .ok (.istore_n 2, 1) := by decide +kernel
theorem d2_78 : decode prog_1_method_1_code 78 = .ok (.iload_n 2, 1) := by decide +kernel
theorem d2_79 : decode prog_1_method_1_code 79 = .ok (.iload_n 1, 1) := by decide +kernel
theorem d2_80 : decode prog_1_method_1_code 80 = .ok (.if_icmp .ge 28, 3) := by decide +kernel
theorem d2_83 : decode prog_1_method_1_code 83 = .ok (.aload_n 0, 1) := by decide +kernel
theorem d2_84 : decode prog_1_method_1_code 84 = .ok (.getfield 48, 3) := by decide +kernel
theorem d2_87 : decode prog_1_method_1_code 87 = .ok (.iload_n 2, 1) := by decide +kernel
theorem d2_88 : decode prog_1_method_1_code 88 = .ok (.new 46, 3) := by decide +kernel
theorem d2_91 : decode prog_1_method_1_code 91 = .ok (.dup, 1) := by decide +kernel
theorem d2_92 : decode prog_1_method_1_code 92 = .ok (.aload_n 0, 1) := by decide +kernel
theorem d2_93 : decode prog_1_method_1_code 93 = .ok (.getfield 42, 3) := by decide +kernel
theorem d2_96 : decode prog_1_method_1_code 96 = .ok (.iload_n 2, 1) := by decide +kernel
theorem d2_97 : decode prog_1_method_1_code 97 = .ok (.aaload, 1) := by decide +kernel
theorem d2_98 : decode prog_1_method_1_code 98 = .ok (.invokespecial 52, 3) := by decide +kernel
theorem d2_101 : decode prog_1_method_1_code 101 = .ok (.aastore, 1) := by decide +kernel
theorem d2_102 : decode prog_1_method_1_code 102 = .ok (.iinc 2 1, 3) := by decide +kernel
theorem d2_105 : decode prog_1_method_1_code 105 = .ok (.goto (-27), 3) := by decide +kernel
theorem d2_108 : decode prog_1_method_1_code 108 = .ok (.return_, 1) := by decide +kernel
theorem pn_2 : plainName "com/example/pocket_simhash/pocketsimhash/BlockIndex" = true := by first | (simp [plainName, overriddenIn]; done) | decide +kernel
theorem ef_2 (m : MethodId) (r0 : Addr) (p1 : Int32) : entryFrame m #[(.ref r0), (.int p1)] 3 = mkF m 0 #[.val (.ref r0), .val (.int p1), .unset] [] := by first | (simp [entryFrame, mkF, argsToLocals, Value.category]; done) | rfl
set_option maxRecDepth 65536 in
set_option maxHeartbeats 40000000 in
theorem rm2 {l : Launch} {Z : State} {a0 : Array Value} (hw : ∀ d ∈ tables_1, d.before a0 Z = true) (r0 : Addr) (p1 : Int32) (h0 : Heap) (n0 : Nat) (hz : n0 ≤ h0.size) (g_r0 : n0 ≤ r0) (E_r0 : Exa Z h0 r0 "com/example/pocket_simhash/pocketsimhash/BlockIndex") (F_keys : Fld Z h0 r0 "com/example/pocket_simhash/pocketsimhash/BlockIndex" "keys" "Lcom/example/pocket_simhash/pocketsimhash/BlockIndex$LongColumn;" .null) (F_fingerprints : Fld Z h0 r0 "com/example/pocket_simhash/pocketsimhash/BlockIndex" "fingerprints" "Lcom/example/pocket_simhash/pocketsimhash/BlockIndex$LongColumn;" .null) (F_capacity : Fld Z h0 r0 "com/example/pocket_simhash/pocketsimhash/BlockIndex" "capacity" "I" (.int (0 : Int32))) (F_blocks : Fld Z h0 r0 "com/example/pocket_simhash/pocketsimhash/BlockIndex" "blocks" "[Lcom/example/pocket_simhash/pocketsimhash/BlockIndex$Block;" .null) (F_tables : Fld Z h0 r0 "com/example/pocket_simhash/pocketsimhash/BlockIndex" "tables" "[Lcom/example/pocket_simhash/pocketsimhash/BlockIndex$Table;" .null) (C : Nat) (hC : p1.toInt = (C : Int)) (hC2 : 2 ≤ C) (hC32 : C ≤ 32) :
    OMet l Z (⟨"com/example/pocket_simhash/pocketsimhash/BlockIndex", "<init>", "(I)V"⟩ : MethodName) prog_1_method_1_code 3 none ({ frames := 3, cells := 200, slots := 1572, locals := 60 } : Room) #[(.ref r0), (.int p1)] h0 n0 200 1572 (fun v h => v = none ∧ Keep h0 h [r0] ∧ ∃ (ba : Addr) (adr : Nat → Addr), Fld Z h r0 "com/example/pocket_simhash/pocketsimhash/BlockIndex" "blocks" "[Lcom/example/pocket_simhash/pocketsimhash/BlockIndex$Block;" (.ref ba) ∧ OArr Z h ba (.object "com/example/pocket_simhash/pocketsimhash/BlockIndex$Block") C (fun j => .ref (adr j)) ∧ ∀ j, j < C → own_BK Z h C (adr j) j) := by
  refine o_body (plainFor_of_name pn_2) hz (fun m => ef_2 m r0 p1) ?_
  intro p e s m below meth c s₁ G0
  have K : Keep h0 h0 [r0] := Keep.refl _ _
  refine o_aloadN G0 d2_0 (pc' := 1) rfl rfl rfl ?_
  refine o_initO G0 (hw _ (List.mem_of_getElem? (i := 13) rfl)) (hw _ (List.mem_of_getElem? (i := 14) rfl)) (hw _ (List.mem_of_getElem? (i := 15) rfl)) d2_1 (pc' := 4) rfl rfl (by decide) (W := 0) (Nat.le_of_eq rfl) (by decide) ?_
  intro T1 G1
  refine o_aloadN G1 d2_4 (pc' := 5) rfl rfl rfl ?_
  refine o_new G1 (hw _ (List.mem_of_getElem? (i := 16) rfl)) (hw _ (List.mem_of_getElem? (i := 17) rfl)) (hw _ (List.mem_of_getElem? (i := 18) rfl)) d2_5 (pc' := 8) rfl (by decide) (by decide) ?_
  intro T2 h2 b2 G2 g2 g_b2 E2 A2 D2
  have ne_r0_b2 : r0 ≠ b2 := Nat.ne_of_lt (Nat.lt_of_lt_of_eq E_r0.lt g2.symm)
  have sz_b2 : h0.size ≤ b2 := Nat.le_trans K.1 (Nat.le_of_eq g2.symm)
  replace K := K.ext E2
  replace E_r0 := E_r0.ext E2
  replace F_keys := F_keys.ext E2
  replace F_fingerprints := F_fingerprints.ext E2
  replace F_capacity := F_capacity.ext E2
  replace F_blocks := F_blocks.ext E2
  replace F_tables := F_tables.ext E2
  have F_pages_b2 : Fld Z h2 b2 "com/example/pocket_simhash/pocketsimhash/BlockIndex$LongColumn" "pages" "[[J" .null := D2 (Or.inl (hw _ (List.mem_of_getElem? (i := 28) rfl))) (ty := (.array (.array .long))) (by decide)
  refine o_dup G2 d2_8 (pc' := 9) rfl rfl ?_
  refine o_callIR G2 (z := (⟨"com/example/pocket_simhash/pocketsimhash/BlockIndex$LongColumn", "<init>", "()V"⟩ : MethodName)) (argsL := []) (rest := [(.ref b2), (.ref r0)]) (W := 2) (a := b2) rfl (hw _ (List.mem_of_getElem? (i := 19) rfl)) (hw _ (List.mem_of_getElem? (i := 20) rfl)) rfl d2_9 (by decide) (hw _ (List.mem_of_getElem? (i := 18) rfl)) (hw _ (List.mem_of_getElem? (i := 21) rfl)) (rm4 hw b2 h2 n0 G2.sz g_b2 A2 F_pages_b2) (by decide) (by decide) rfl (lenOf pd_2 rfl) rfl (Nat.le_of_eq rfl) (pc' := 12) rfl (by decide) (by decide) ?_
  rintro _ T3 h3 G3 ⟨rfl, K3⟩
  replace K := K.trans K3 (allS (Or.inr sz_b2) all0)
  replace E_r0 := E_r0.keep K3
  replace F_keys := F_keys.keep K3 (ninS ne_r0_b2 nin0)
  replace F_fingerprints := F_fingerprints.keep K3 (ninS ne_r0_b2 nin0)
  replace F_capacity := F_capacity.keep K3 (ninS ne_r0_b2 nin0)
  replace F_blocks := F_blocks.keep K3 (ninS ne_r0_b2 nin0)
  replace F_tables := F_tables.keep K3 (ninS ne_r0_b2 nin0)
  replace A2 := A2.keep K3
  show OFin n0 p e below s (fun v h => v = none ∧ Keep h0 h [r0] ∧ ∃ (ba : Addr) (adr : Nat → Addr), Fld Z h r0 "com/example/pocket_simhash/pocketsimhash/BlockIndex" "blocks" "[Lcom/example/pocket_simhash/pocketsimhash/BlockIndex$Block;" (.ref ba) ∧ OArr Z h ba (.object "com/example/pocket_simhash/pocketsimhash/BlockIndex$Block") C (fun j => .ref (adr j)) ∧ ∀ j, j < C → own_BK Z h C (adr j) j) 200 1572 T3 (mkF m 12 #[.val (.ref r0), .val (.int p1), .unset] [(.ref b2), (.ref r0)])
  refine o_putF G3 (host := "") (Or.inl (hw _ (List.mem_of_getElem? (i := 29) rfl))) Via.refl F_keys E_r0 (Or.inr ⟨(hw _ (List.mem_of_getElem? (i := 30) rfl)), rfl, rfl⟩) (hw _ (List.mem_of_getElem? (i := 8) rfl)) (ty := (.object "com/example/pocket_simhash/pocketsimhash/BlockIndex$LongColumn")) (by decide) rfl rfl g_r0 d2_12 (pc' := 15) rfl ?_
  intro T4 h4 G4 W4
  replace K := K.wr W4 (Or.inl (List.mem_of_getElem? (i := 0) rfl))
  replace E_r0 := E_r0.wr W4
  replace F_keys := F_keys.same W4
  replace F_fingerprints := F_fingerprints.other W4 (Or.inr (slot_ne (Or.inr (hw _ (List.mem_of_getElem? (i := 32) rfl))) (Or.inr (hw _ (List.mem_of_getElem? (i := 30) rfl))) (by decide) (t := (.object "com/example/pocket_simhash/pocketsimhash/BlockIndex$LongColumn")) (t' := (.object "com/example/pocket_simhash/pocketsimhash/BlockIndex$LongColumn")) (by decide) (by decide)))
  replace F_capacity := F_capacity.other W4 (Or.inr (slot_ne (Or.inl (hw _ (List.mem_of_getElem? (i := 34) rfl))) (Or.inr (hw _ (List.mem_of_getElem? (i := 30) rfl))) (by decide) (t := .int) (t' := (.object "com/example/pocket_simhash/pocketsimhash/BlockIndex$LongColumn")) (by decide) (by decide)))
  replace F_blocks := F_blocks.other W4 (Or.inr (slot_ne (Or.inr (hw _ (List.mem_of_getElem? (i := 66) rfl))) (Or.inr (hw _ (List.mem_of_getElem? (i := 30) rfl))) (by decide) (t := (.array (.object "com/example/pocket_simhash/pocketsimhash/BlockIndex$Block"))) (t' := (.object "com/example/pocket_simhash/pocketsimhash/BlockIndex$LongColumn")) (by decide) (by decide)))
  replace F_tables := F_tables.other W4 (Or.inr (slot_ne (Or.inr (hw _ (List.mem_of_getElem? (i := 70) rfl))) (Or.inr (hw _ (List.mem_of_getElem? (i := 30) rfl))) (by decide) (t := (.array (.object "com/example/pocket_simhash/pocketsimhash/BlockIndex$Table"))) (t' := (.object "com/example/pocket_simhash/pocketsimhash/BlockIndex$LongColumn")) (by decide) (by decide)))
  replace A2 := A2.wr W4
  refine o_aloadN G4 d2_15 (pc' := 16) rfl rfl rfl ?_
  refine o_new G4 (hw _ (List.mem_of_getElem? (i := 16) rfl)) (hw _ (List.mem_of_getElem? (i := 17) rfl)) (hw _ (List.mem_of_getElem? (i := 18) rfl)) d2_16 (pc' := 19) rfl (by decide) (by decide) ?_
  intro T5 h5 b5 G5 g5 g_b5 E5 A5 D5
  have ne_r0_b5 : r0 ≠ b5 := Nat.ne_of_lt (Nat.lt_of_lt_of_eq E_r0.lt g5.symm)
  have ne_b2_b5 : b2 ≠ b5 := Nat.ne_of_lt (Nat.lt_of_lt_of_eq A2.lt g5.symm)
  have sz_b5 : h0.size ≤ b5 := Nat.le_trans K.1 (Nat.le_of_eq g5.symm)
  replace K := K.ext E5
  replace E_r0 := E_r0.ext E5
  replace F_keys := F_keys.ext E5
  replace F_fingerprints := F_fingerprints.ext E5
  replace F_capacity := F_capacity.ext E5
  replace F_blocks := F_blocks.ext E5
  replace F_tables := F_tables.ext E5
  replace A2 := A2.ext E5
  have F_pages_b5 : Fld Z h5 b5 "com/example/pocket_simhash/pocketsimhash/BlockIndex$LongColumn" "pages" "[[J" .null := D5 (Or.inl (hw _ (List.mem_of_getElem? (i := 28) rfl))) (ty := (.array (.array .long))) (by decide)
  refine o_dup G5 d2_19 (pc' := 20) rfl rfl ?_
  refine o_callIR G5 (z := (⟨"com/example/pocket_simhash/pocketsimhash/BlockIndex$LongColumn", "<init>", "()V"⟩ : MethodName)) (argsL := []) (rest := [(.ref b5), (.ref r0)]) (W := 2) (a := b5) rfl (hw _ (List.mem_of_getElem? (i := 19) rfl)) (hw _ (List.mem_of_getElem? (i := 20) rfl)) rfl d2_20 (by decide) (hw _ (List.mem_of_getElem? (i := 18) rfl)) (hw _ (List.mem_of_getElem? (i := 21) rfl)) (rm4 hw b5 h5 n0 G5.sz g_b5 A5 F_pages_b5) (by decide) (by decide) rfl (lenOf pd_2 rfl) rfl (Nat.le_of_eq rfl) (pc' := 23) rfl (by decide) (by decide) ?_
  rintro _ T6 h6 G6 ⟨rfl, K6⟩
  replace K := K.trans K6 (allS (Or.inr sz_b5) all0)
  replace E_r0 := E_r0.keep K6
  replace F_keys := F_keys.keep K6 (ninS ne_r0_b5 nin0)
  replace F_fingerprints := F_fingerprints.keep K6 (ninS ne_r0_b5 nin0)
  replace F_capacity := F_capacity.keep K6 (ninS ne_r0_b5 nin0)
  replace F_blocks := F_blocks.keep K6 (ninS ne_r0_b5 nin0)
  replace F_tables := F_tables.keep K6 (ninS ne_r0_b5 nin0)
  replace A2 := A2.keep K6
  replace A5 := A5.keep K6
  show OFin n0 p e below s (fun v h => v = none ∧ Keep h0 h [r0] ∧ ∃ (ba : Addr) (adr : Nat → Addr), Fld Z h r0 "com/example/pocket_simhash/pocketsimhash/BlockIndex" "blocks" "[Lcom/example/pocket_simhash/pocketsimhash/BlockIndex$Block;" (.ref ba) ∧ OArr Z h ba (.object "com/example/pocket_simhash/pocketsimhash/BlockIndex$Block") C (fun j => .ref (adr j)) ∧ ∀ j, j < C → own_BK Z h C (adr j) j) 200 1572 T6 (mkF m 23 #[.val (.ref r0), .val (.int p1), .unset] [(.ref b5), (.ref r0)])
  refine o_putF G6 (host := "") (Or.inl (hw _ (List.mem_of_getElem? (i := 31) rfl))) Via.refl F_fingerprints E_r0 (Or.inr ⟨(hw _ (List.mem_of_getElem? (i := 32) rfl)), rfl, rfl⟩) (hw _ (List.mem_of_getElem? (i := 8) rfl)) (ty := (.object "com/example/pocket_simhash/pocketsimhash/BlockIndex$LongColumn")) (by decide) rfl rfl g_r0 d2_23 (pc' := 26) rfl ?_
  intro T7 h7 G7 W7
  replace K := K.wr W7 (Or.inl (List.mem_of_getElem? (i := 0) rfl))
  replace E_r0 := E_r0.wr W7
  replace F_keys := F_keys.other W7 (Or.inr (slot_ne (Or.inr (hw _ (List.mem_of_getElem? (i := 30) rfl))) (Or.inr (hw _ (List.mem_of_getElem? (i := 32) rfl))) (by decide) (t := (.object "com/example/pocket_simhash/pocketsimhash/BlockIndex$LongColumn")) (t' := (.object "com/example/pocket_simhash/pocketsimhash/BlockIndex$LongColumn")) (by decide) (by decide)))
  replace F_fingerprints := F_fingerprints.same W7
  replace F_capacity := F_capacity.other W7 (Or.inr (slot_ne (Or.inl (hw _ (List.mem_of_getElem? (i := 34) rfl))) (Or.inr (hw _ (List.mem_of_getElem? (i := 32) rfl))) (by decide) (t := .int) (t' := (.object "com/example/pocket_simhash/pocketsimhash/BlockIndex$LongColumn")) (by decide) (by decide)))
  replace F_blocks := F_blocks.other W7 (Or.inr (slot_ne (Or.inr (hw _ (List.mem_of_getElem? (i := 66) rfl))) (Or.inr (hw _ (List.mem_of_getElem? (i := 32) rfl))) (by decide) (t := (.array (.object "com/example/pocket_simhash/pocketsimhash/BlockIndex$Block"))) (t' := (.object "com/example/pocket_simhash/pocketsimhash/BlockIndex$LongColumn")) (by decide) (by decide)))
  replace F_tables := F_tables.other W7 (Or.inr (slot_ne (Or.inr (hw _ (List.mem_of_getElem? (i := 70) rfl))) (Or.inr (hw _ (List.mem_of_getElem? (i := 32) rfl))) (by decide) (t := (.array (.object "com/example/pocket_simhash/pocketsimhash/BlockIndex$Table"))) (t' := (.object "com/example/pocket_simhash/pocketsimhash/BlockIndex$LongColumn")) (by decide) (by decide)))
  replace A2 := A2.wr W7
  replace A5 := A5.wr W7
  refine o_aloadN G7 d2_26 (pc' := 27) rfl rfl rfl ?_
  refine o_bipush G7 d2_27 (pc' := 29) rfl (v := (16 : Int32)) rfl ?_
  refine o_putF G7 (host := "") (Or.inl (hw _ (List.mem_of_getElem? (i := 33) rfl))) Via.refl F_capacity E_r0 (Or.inl (hw _ (List.mem_of_getElem? (i := 34) rfl))) (hw _ (List.mem_of_getElem? (i := 8) rfl)) (ty := .int) (by decide) rfl rfl g_r0 d2_29 (pc' := 32) rfl ?_
  intro T8 h8 G8 W8
  replace K := K.wr W8 (Or.inl (List.mem_of_getElem? (i := 0) rfl))
  replace E_r0 := E_r0.wr W8
  replace F_keys := F_keys.other W8 (Or.inr (slot_ne (Or.inr (hw _ (List.mem_of_getElem? (i := 30) rfl))) (Or.inl (hw _ (List.mem_of_getElem? (i := 34) rfl))) (by decide) (t := (.object "com/example/pocket_simhash/pocketsimhash/BlockIndex$LongColumn")) (t' := .int) (by decide) (by decide)))
  replace F_fingerprints := F_fingerprints.other W8 (Or.inr (slot_ne (Or.inr (hw _ (List.mem_of_getElem? (i := 32) rfl))) (Or.inl (hw _ (List.mem_of_getElem? (i := 34) rfl))) (by decide) (t := (.object "com/example/pocket_simhash/pocketsimhash/BlockIndex$LongColumn")) (t' := .int) (by decide) (by decide)))
  replace F_capacity := F_capacity.same W8
  replace F_blocks := F_blocks.other W8 (Or.inr (slot_ne (Or.inr (hw _ (List.mem_of_getElem? (i := 66) rfl))) (Or.inl (hw _ (List.mem_of_getElem? (i := 34) rfl))) (by decide) (t := (.array (.object "com/example/pocket_simhash/pocketsimhash/BlockIndex$Block"))) (t' := .int) (by decide) (by decide)))
  replace F_tables := F_tables.other W8 (Or.inr (slot_ne (Or.inr (hw _ (List.mem_of_getElem? (i := 70) rfl))) (Or.inl (hw _ (List.mem_of_getElem? (i := 34) rfl))) (by decide) (t := (.array (.object "com/example/pocket_simhash/pocketsimhash/BlockIndex$Table"))) (t' := .int) (by decide) (by decide)))
  replace A2 := A2.wr W8
  replace A5 := A5.wr W8
  refine o_iloadN G8 d2_32 (pc' := 33) rfl rfl ?_
  refine o_iconst G8 d2_33 (pc' := 34) rfl (v := (2 : Int32)) rfl ?_
  refine o_icmp_lt G8 d2_34 (by decide) (pcT := 43) (by decide) (pc' := 37) rfl (fun q => absurd q (by
      rw [Int32.lt_iff_toInt_lt, hC]; have : (2 : Int32).toInt = 2 := rfl
      omega)) (fun _ => ?_)
  refine o_iloadN G8 d2_37 (pc' := 38) rfl rfl ?_
  refine o_bipush G8 d2_38 (pc' := 40) rfl (v := (32 : Int32)) rfl ?_
  refine o_icmp_le G8 d2_40 (by decide) (pcT := 57) (by decide) (pc' := 43) rfl (fun _ => ?_) (fun q => absurd q (by
      rw [Int32.lt_iff_toInt_lt, hC]; have : (32 : Int32).toInt = 32 := rfl
      omega))
  refine o_aloadN G8 d2_57 (pc' := 58) rfl rfl rfl ?_
  refine o_iconst G8 d2_58 (pc' := 59) rfl (v := (0 : Int32)) rfl ?_
  refine o_bipush G8 d2_59 (pc' := 61) rfl (v := (64 : Int32)) rfl ?_
  refine o_iloadN G8 d2_61 (pc' := 62) rfl rfl ?_
  refine o_callS G8 (z := (⟨"com/example/pocket_simhash/pocketsimhash/BlockIndex$Block", "cut", "(III)[Lcom/example/pocket_simhash/pocketsimhash/BlockIndex$Block;"⟩ : MethodName)) (argsL := [(.int (0 : Int32)), (.int (64 : Int32)), (.int p1)]) (rest := [(.ref r0)]) (W := 1) (hw _ (List.mem_of_getElem? (i := 35) rfl)) (hw _ (List.mem_of_getElem? (i := 36) rfl)) d2_62 (by decide) (hw _ (List.mem_of_getElem? (i := 37) rfl)) (hw _ (List.mem_of_getElem? (i := 38) rfl)) (rm5 hw p1 h8 n0 G8.sz C hC hC2 hC32) (by decide) (by decide) rfl (lenOf pd_6 rfl) rfl (Nat.le_of_eq rfl) (pc' := 65) rfl (by decide) (by decide) ?_
  rintro _ T9 h9 G9 ⟨ba, adr, rfl, hsb, K9, A_ba, hA, hS, BS⟩
  have ne_r0_ba : r0 ≠ ba := Nat.ne_of_lt (Nat.lt_of_lt_of_le E_r0.lt hsb)
  have ne_b2_ba : b2 ≠ ba := Nat.ne_of_lt (Nat.lt_of_lt_of_le A2.lt hsb)
  have ne_b5_ba : b5 ≠ ba := Nat.ne_of_lt (Nat.lt_of_lt_of_le A5.lt hsb)
  have nx_BS_r0 : ∀ j, j < C → adr j ≠ r0 := fun j hj => Nat.ne_of_gt (Nat.lt_of_lt_of_le F_tables.lt (hS j hj))
  have nx_BS_b2 : ∀ j, j < C → adr j ≠ b2 := fun j hj => Nat.ne_of_gt (Nat.lt_of_lt_of_le A2.lt (hS j hj))
  have nx_BS_b5 : ∀ j, j < C → adr j ≠ b5 := fun j hj => Nat.ne_of_gt (Nat.lt_of_lt_of_le A5.lt (hS j hj))
  have sz_ba : h0.size ≤ ba := Nat.le_trans K.1 hsb
  replace K := K.trans K9 all0
  replace E_r0 := E_r0.keep K9
  replace F_keys := F_keys.keep K9 nin0
  replace F_fingerprints := F_fingerprints.keep K9 nin0
  replace F_capacity := F_capacity.keep K9 nin0
  replace F_blocks := F_blocks.keep K9 nin0
  replace F_tables := F_tables.keep K9 nin0
  replace A2 := A2.keep K9
  replace A5 := A5.keep K9
  show OFin n0 p e below s (fun v h => v = none ∧ Keep h0 h [r0] ∧ ∃ (ba : Addr) (adr : Nat → Addr), Fld Z h r0 "com/example/pocket_simhash/pocketsimhash/BlockIndex" "blocks" "[Lcom/example/pocket_simhash/pocketsimhash/BlockIndex$Block;" (.ref ba) ∧ OArr Z h ba (.object "com/example/pocket_simhash/pocketsimhash/BlockIndex$Block") C (fun j => .ref (adr j)) ∧ ∀ j, j < C → own_BK Z h C (adr j) j) 200 1572 T9 (mkF m 65 #[.val (.ref r0), .val (.int p1), .unset] [(.ref ba), (.ref r0)])
  refine o_putF G9 (host := "") (Or.inl (hw _ (List.mem_of_getElem? (i := 65) rfl))) Via.refl F_blocks E_r0 (Or.inr ⟨(hw _ (List.mem_of_getElem? (i := 66) rfl)), rfl, rfl⟩) (hw _ (List.mem_of_getElem? (i := 8) rfl)) (ty := (.array (.object "com/example/pocket_simhash/pocketsimhash/BlockIndex$Block"))) (by decide) rfl rfl g_r0 d2_65 (pc' := 68) rfl ?_
  intro T10 h10 G10 W10
  replace K := K.wr W10 (Or.inl (List.mem_of_getElem? (i := 0) rfl))
  replace E_r0 := E_r0.wr W10
  replace F_keys := F_keys.other W10 (Or.inr (slot_ne (Or.inr (hw _ (List.mem_of_getElem? (i := 30) rfl))) (Or.inr (hw _ (List.mem_of_getElem? (i := 66) rfl))) (by decide) (t := (.object "com/example/pocket_simhash/pocketsimhash/BlockIndex$LongColumn")) (t' := (.array (.object "com/example/pocket_simhash/pocketsimhash/BlockIndex$Block"))) (by decide) (by decide)))
  replace F_fingerprints := F_fingerprints.other W10 (Or.inr (slot_ne (Or.inr (hw _ (List.mem_of_getElem? (i := 32) rfl))) (Or.inr (hw _ (List.mem_of_getElem? (i := 66) rfl))) (by decide) (t := (.object "com/example/pocket_simhash/pocketsimhash/BlockIndex$LongColumn")) (t' := (.array (.object "com/example/pocket_simhash/pocketsimhash/BlockIndex$Block"))) (by decide) (by decide)))
  replace F_capacity := F_capacity.other W10 (Or.inr (slot_ne (Or.inl (hw _ (List.mem_of_getElem? (i := 34) rfl))) (Or.inr (hw _ (List.mem_of_getElem? (i := 66) rfl))) (by decide) (t := .int) (t' := (.array (.object "com/example/pocket_simhash/pocketsimhash/BlockIndex$Block"))) (by decide) (by decide)))
  replace F_blocks := F_blocks.same W10
  replace F_tables := F_tables.other W10 (Or.inr (slot_ne (Or.inr (hw _ (List.mem_of_getElem? (i := 70) rfl))) (Or.inr (hw _ (List.mem_of_getElem? (i := 66) rfl))) (by decide) (t := (.array (.object "com/example/pocket_simhash/pocketsimhash/BlockIndex$Table"))) (t' := (.array (.object "com/example/pocket_simhash/pocketsimhash/BlockIndex$Block"))) (by decide) (by decide)))
  replace A2 := A2.wr W10
  replace A5 := A5.wr W10
  replace A_ba := A_ba.other W10 (Ne.symm ne_r0_ba)
  replace BS := fun j hj => (BS j hj).wr W10 (nx_BS_r0 j hj)
  refine o_aloadN G10 d2_68 (pc' := 69) rfl rfl rfl ?_
  refine o_iloadN G10 d2_69 (pc' := 70) rfl rfl ?_
  refine o_anewarray G10 (N := C) (cap := 32) (hw _ (List.mem_of_getElem? (i := 67) rfl)) (hw _ (List.mem_of_getElem? (i := 68) rfl)) hC hC32 (by decide) d2_70 (pc' := 73) rfl (by decide) (by decide) ?_
  intro T11 h11 b11 G11 g11 g_b11 E11 A_b11 M_b11
  have ne_r0_b11 : r0 ≠ b11 := Nat.ne_of_lt (Nat.lt_of_lt_of_eq E_r0.lt g11.symm)
  have ne_b2_b11 : b2 ≠ b11 := Nat.ne_of_lt (Nat.lt_of_lt_of_eq A2.lt g11.symm)
  have ne_b5_b11 : b5 ≠ b11 := Nat.ne_of_lt (Nat.lt_of_lt_of_eq A5.lt g11.symm)
  have ne_ba_b11 : ba ≠ b11 := Nat.ne_of_lt (Nat.lt_of_lt_of_eq A_ba.lt g11.symm)
  have nx_BS_b11 : ∀ j, j < C → adr j ≠ b11 := fun j hj => Nat.ne_of_lt (Nat.lt_of_lt_of_eq (BS j hj).lt g11.symm)
  have sz_b11 : h0.size ≤ b11 := Nat.le_trans K.1 (Nat.le_of_eq g11.symm)
  replace K := K.ext E11
  replace E_r0 := E_r0.ext E11
  replace F_keys := F_keys.ext E11
  replace F_fingerprints := F_fingerprints.ext E11
  replace F_capacity := F_capacity.ext E11
  replace F_blocks := F_blocks.ext E11
  replace F_tables := F_tables.ext E11
  replace A2 := A2.ext E11
  replace A5 := A5.ext E11
  replace A_ba := A_ba.ext E11
  replace BS := fun j hj => (BS j hj).ext E11
  refine o_putF G11 (host := "") (Or.inl (hw _ (List.mem_of_getElem? (i := 69) rfl))) Via.refl F_tables E_r0 (Or.inr ⟨(hw _ (List.mem_of_getElem? (i := 70) rfl)), rfl, rfl⟩) (hw _ (List.mem_of_getElem? (i := 8) rfl)) (ty := (.array (.object "com/example/pocket_simhash/pocketsimhash/BlockIndex$Table"))) (by decide) rfl rfl g_r0 d2_73 (pc' := 76) rfl ?_
  intro T12 h12 G12 W12
  replace K := K.wr W12 (Or.inl (List.mem_of_getElem? (i := 0) rfl))
  replace E_r0 := E_r0.wr W12
  replace F_keys := F_keys.other W12 (Or.inr (slot_ne (Or.inr (hw _ (List.mem_of_getElem? (i := 30) rfl))) (Or.inr (hw _ (List.mem_of_getElem? (i := 70) rfl))) (by decide) (t := (.object "com/example/pocket_simhash/pocketsimhash/BlockIndex$LongColumn")) (t' := (.array (.object "com/example/pocket_simhash/pocketsimhash/BlockIndex$Table"))) (by decide) (by decide)))
  replace F_fingerprints := F_fingerprints.other W12 (Or.inr (slot_ne (Or.inr (hw _ (List.mem_of_getElem? (i := 32) rfl))) (Or.inr (hw _ (List.mem_of_getElem? (i := 70) rfl))) (by decide) (t := (.object "com/example/pocket_simhash/pocketsimhash/BlockIndex$LongColumn")) (t' := (.array (.object "com/example/pocket_simhash/pocketsimhash/BlockIndex$Table"))) (by decide) (by decide)))
  replace F_capacity := F_capacity.other W12 (Or.inr (slot_ne (Or.inl (hw _ (List.mem_of_getElem? (i := 34) rfl))) (Or.inr (hw _ (List.mem_of_getElem? (i := 70) rfl))) (by decide) (t := .int) (t' := (.array (.object "com/example/pocket_simhash/pocketsimhash/BlockIndex$Table"))) (by decide) (by decide)))
  replace F_blocks := F_blocks.other W12 (Or.inr (slot_ne (Or.inr (hw _ (List.mem_of_getElem? (i := 66) rfl))) (Or.inr (hw _ (List.mem_of_getElem? (i := 70) rfl))) (by decide) (t := (.array (.object "com/example/pocket_simhash/pocketsimhash/BlockIndex$Block"))) (t' := (.array (.object "com/example/pocket_simhash/pocketsimhash/BlockIndex$Table"))) (by decide) (by decide)))
  replace F_tables := F_tables.same W12
  replace A2 := A2.wr W12
  replace A5 := A5.wr W12
  replace A_ba := A_ba.other W12 (Ne.symm ne_r0_ba)
  replace BS := fun j hj => (BS j hj).wr W12 (nx_BS_r0 j hj)
  replace A_b11 := A_b11.other W12 (Ne.symm ne_r0_b11)
  replace M_b11 := M_b11.wr W12
  refine o_iconst G12 d2_76 (pc' := 77) rfl (v := (0 : Int32)) rfl ?_
  refine o_istoreN G12 d2_77 (pc' := 78) rfl (l' := #[.val (.ref r0), .val (.int p1), .val (.int (0 : Int32))]) rfl ?_
  have loop : ∀ (k i : Nat) (T : State) (h : Heap) (x2 : Int32) (f : Nat → Value), k + i = C → x2.toInt = (i : Int) → Keep h0 h [r0] → Exa Z h r0 "com/example/pocket_simhash/pocketsimhash/BlockIndex" → Fld Z h r0 "com/example/pocket_simhash/pocketsimhash/BlockIndex" "blocks" "[Lcom/example/pocket_simhash/pocketsimhash/BlockIndex$Block;" (.ref ba) → Fld Z h r0 "com/example/pocket_simhash/pocketsimhash/BlockIndex" "tables" "[Lcom/example/pocket_simhash/pocketsimhash/BlockIndex$Table;" (.ref b11) → OArr Z h ba (.object "com/example/pocket_simhash/pocketsimhash/BlockIndex$Block") C (fun j => .ref (adr j)) → OArr Z h b11 (.object "com/example/pocket_simhash/pocketsimhash/BlockIndex$Table") C f → OMay Z h b11 "com/example/pocket_simhash/pocketsimhash/BlockIndex$Table" → (∀ j, j < C → own_BK Z h C (adr j) j) → OG l Z (⟨"com/example/pocket_simhash/pocketsimhash/BlockIndex", "<init>", "(I)V"⟩ : MethodName) prog_1_method_1_code 3 none n0 p e ({ frames := 3, cells := 200, slots := 1572, locals := 60 } : Room) s m #[(.ref r0), (.int p1)] below meth c T h (40 + 5 * i) (324 + 39 * i) → OFin n0 p e below s (fun v h => v = none ∧ Keep h0 h [r0] ∧ ∃ (ba : Addr) (adr : Nat → Addr), Fld Z h r0 "com/example/pocket_simhash/pocketsimhash/BlockIndex" "blocks" "[Lcom/example/pocket_simhash/pocketsimhash/BlockIndex$Block;" (.ref ba) ∧ OArr Z h ba (.object "com/example/pocket_simhash/pocketsimhash/BlockIndex$Block") C (fun j => .ref (adr j)) ∧ ∀ j, j < C → own_BK Z h C (adr j) j) 200 1572 T (mkF m 78 #[.val (.ref r0), .val (.int p1), .val (.int x2)] []) := by
    intro k
    induction k with
    | zero =>
      intro i T h x2 f hk hi K E_r0 F_blocks F_tables A_ba A_ta M_ta BS G
      obtain rfl : i = C := by omega
      have hn : ¬ x2 < p1 := by
        rw [Int32.lt_iff_toInt_lt, hi, hC]; omega
      refine o_iloadN G d2_78 (pc' := 79) rfl rfl ?_
      refine o_iloadN G d2_79 (pc' := 80) rfl rfl ?_
      refine o_icmp_ge G d2_80 (by decide) (pcT := 108) (by decide) (pc' := 83) rfl (fun _ => ?_) (fun q => absurd q hn)
      exact o_return G d2_108 ⟨rfl, K, ba, adr, F_blocks, A_ba, BS⟩ (by first | omega | (dsimp only; omega)) (by first | omega | (dsimp only; omega))
    | succ k ih =>
      intro i T h x2 f hk hi K E_r0 F_blocks F_tables A_ba A_ta M_ta BS G
      have hn : x2 < p1 := by
        rw [Int32.lt_iff_toInt_lt, hi, hC]; omega
      have hiC : i < C := by omega
      refine o_iloadN G d2_78 (pc' := 79) rfl rfl ?_
      refine o_iloadN G d2_79 (pc' := 80) rfl rfl ?_
      refine o_icmp_ge G d2_80 (by decide) (pcT := 108) (by decide) (pc' := 83) rfl (fun q => absurd hn q) (fun _ => ?_)
      refine o_aloadN G d2_83 (pc' := 84) rfl rfl rfl ?_
      refine o_getF G (host := "") (Or.inl (hw _ (List.mem_of_getElem? (i := 69) rfl))) Via.refl F_tables d2_84 (pc' := 87) rfl ?_
      intro T13 G13
      refine o_iloadN G13 d2_87 (pc' := 88) rfl rfl ?_
      refine o_new G13 (hw _ (List.mem_of_getElem? (i := 67) rfl)) (hw _ (List.mem_of_getElem? (i := 71) rfl)) (hw _ (List.mem_of_getElem? (i := 72) rfl)) d2_88 (pc' := 91) rfl (by first | omega | (dsimp only; omega)) (by first | omega | (dsimp only; omega)) ?_
      intro T14 h14 b14 G14 g14 g_b14 E14 A14 D14
      have ne_r0_b14 : r0 ≠ b14 := Nat.ne_of_lt (Nat.lt_of_lt_of_eq E_r0.lt g14.symm)
      have ne_ba_b14 : ba ≠ b14 := Nat.ne_of_lt (Nat.lt_of_lt_of_eq A_ba.lt g14.symm)
      have ne_b11_b14 : b11 ≠ b14 := Nat.ne_of_lt (Nat.lt_of_lt_of_eq A_ta.lt g14.symm)
      have nx_BS_b14 : ∀ j, j < C → adr j ≠ b14 := fun j hj => Nat.ne_of_lt (Nat.lt_of_lt_of_eq (BS j hj).lt g14.symm)
      have sz_b14 : h0.size ≤ b14 := Nat.le_trans K.1 (Nat.le_of_eq g14.symm)
      replace E_r0 := E_r0.ext E14
      replace F_blocks := F_blocks.ext E14
      replace F_tables := F_tables.ext E14
      replace A_ba := A_ba.ext E14
      replace A_ta := A_ta.ext E14
      replace M_ta := M_ta.ext E14
      replace K := K.ext E14
      replace BS := fun j hj => (BS j hj).ext E14
      have F_earlier_b14 : Fld Z h14 b14 "com/example/pocket_simhash/pocketsimhash/BlockIndex$Table" "earlier" "Lcom/example/pocket_simhash/pocketsimhash/BlockIndex$IntColumn;" .null := D14 (Or.inr (hw _ (List.mem_of_getElem? (i := 91) rfl))) (ty := (.object "com/example/pocket_simhash/pocketsimhash/BlockIndex$IntColumn")) (by decide)
      have F_block_b14 : Fld Z h14 b14 "com/example/pocket_simhash/pocketsimhash/BlockIndex$Table" "block" "Lcom/example/pocket_simhash/pocketsimhash/BlockIndex$Block;" .null := D14 (Or.inr (hw _ (List.mem_of_getElem? (i := 93) rfl))) (ty := (.object "com/example/pocket_simhash/pocketsimhash/BlockIndex$Block")) (by decide)
      have F_maxBucketBits_b14 : Fld Z h14 b14 "com/example/pocket_simhash/pocketsimhash/BlockIndex$Table" "maxBucketBits" "I" (.int (0 : Int32)) := D14 (Or.inr (hw _ (List.mem_of_getElem? (i := 97) rfl))) (ty := .int) (by decide)
      have F_bucketBits_b14 : Fld Z h14 b14 "com/example/pocket_simhash/pocketsimhash/BlockIndex$Table" "bucketBits" "I" (.int (0 : Int32)) := D14 (Or.inl (hw _ (List.mem_of_getElem? (i := 103) rfl))) (ty := .int) (by decide)
      have F_latest_b14 : Fld Z h14 b14 "com/example/pocket_simhash/pocketsimhash/BlockIndex$Table" "latest" "[I" .null := D14 (Or.inl (hw _ (List.mem_of_getElem? (i := 105) rfl))) (ty := (.array .int)) (by decide)
      refine o_dup G14 d2_91 (pc' := 92) rfl rfl ?_
      refine o_aloadN G14 d2_92 (pc' := 93) rfl rfl rfl ?_
      refine o_getF G14 (host := "") (Or.inl (hw _ (List.mem_of_getElem? (i := 65) rfl))) Via.refl F_blocks d2_93 (pc' := 96) rfl ?_
      intro T15 G15
      refine o_iloadN G15 d2_96 (pc' := 97) rfl rfl ?_
      refine o_aaload G15 rfl A_ba (i := i) hi hiC (v := (.ref (adr i))) rfl d2_97 (pc' := 98) rfl ?_
      obtain ⟨wj, loj, hwj, hloj, Fw, Fm⟩ := BS i hiC
      have hwj0 : 0 ≤ wj.toInt := by omega
      refine o_callI G15 (z := (⟨"com/example/pocket_simhash/pocketsimhash/BlockIndex$Table", "<init>", "(Lcom/example/pocket_simhash/pocketsimhash/BlockIndex$Block;)V"⟩ : MethodName)) (argsL := [(.ref (adr i))]) (rest := [(.ref b14), (.int x2), (.ref b11)]) (W := 3) (a := b14) rfl (hw _ (List.mem_of_getElem? (i := 73) rfl)) (hw _ (List.mem_of_getElem? (i := 74) rfl)) rfl d2_98 (by decide) (hw _ (List.mem_of_getElem? (i := 72) rfl)) (hw _ (List.mem_of_getElem? (i := 75) rfl)) (rm8 hw b14 (adr i) h14 n0 G15.sz g_b14 A14 F_earlier_b14 F_block_b14 F_maxBucketBits_b14 F_bucketBits_b14 F_latest_b14 (nx_BS_b14 i hiC) wj Fw hwj0) (by decide) (by decide) rfl (lenOf pd_7 rfl) rfl (Nat.le_of_eq rfl) (pc' := 101) rfl (by first | omega | (dsimp only; omega)) (by first | omega | (dsimp only; omega)) ?_
      rintro _ T16 h16 G16 ⟨rfl, K16⟩
      replace E_r0 := E_r0.keep K16
      replace F_blocks := F_blocks.keep K16 (ninS ne_r0_b14 nin0)
      replace F_tables := F_tables.keep K16 (ninS ne_r0_b14 nin0)
      replace A_ba := A_ba.keep K16 (ninS ne_ba_b14 nin0)
      replace A_ta := A_ta.keep K16 (ninS ne_b11_b14 nin0)
      replace M_ta := M_ta.keep K16
      replace K := K.trans K16 (allS (Or.inr sz_b14) all0)
      replace BS := fun j hj => (BS j hj).keep K16 (ninS (nx_BS_b14 j hj) nin0)
      replace A14 := A14.keep K16
      show OFin n0 p e below s (fun v h => v = none ∧ Keep h0 h [r0] ∧ ∃ (ba : Addr) (adr : Nat → Addr), Fld Z h r0 "com/example/pocket_simhash/pocketsimhash/BlockIndex" "blocks" "[Lcom/example/pocket_simhash/pocketsimhash/BlockIndex$Block;" (.ref ba) ∧ OArr Z h ba (.object "com/example/pocket_simhash/pocketsimhash/BlockIndex$Block") C (fun j => .ref (adr j)) ∧ ∀ j, j < C → own_BK Z h C (adr j) j) 200 1572 T16 (mkF m 101 #[.val (.ref r0), .val (.int p1), .val (.int x2)] [(.ref b14), (.int x2), (.ref b11)])
      refine o_aastore G16 A_ta rfl (M_ta.sto (Ins.self A14)) g_b11 (i := i) hi hiC d2_101 (pc' := 102) rfl ?_
      intro T17 h17 G17 W17 A17
      replace E_r0 := E_r0.wr W17
      replace F_blocks := F_blocks.other W17 (Or.inl ne_r0_b11)
      replace F_tables := F_tables.other W17 (Or.inl ne_r0_b11)
      replace A_ba := A_ba.other W17 ne_ba_b11
      replace M_ta := M_ta.wr W17
      replace K := K.wr W17 (Or.inr sz_b11)
      replace BS := fun j hj => (BS j hj).wr W17 (nx_BS_b11 j hj)
      replace A14 := A14.wr W17
      replace A_ta := A17
      obtain ⟨v18, e18⟩ : ∃ z, x2 + (1 : Int32) = z := ⟨_, rfl⟩
      refine o_iinc G17 d2_102 (pc' := 105) rfl rfl (w := (1 : Int32)) rfl e18 (l' := #[.val (.ref r0), .val (.int p1), .val (.int v18)]) rfl ?_
      refine o_goto G17 d2_105 (by decide) (pc' := 78) rfl ?_
      have hi' : v18.toInt = ((i + 1 : Nat) : Int) := by
        have h1' : (1 : Int32).toInt = 1 := rfl
        rw [← e18, o_i32 (by omega) (by omega), h1', hi]; omega
      exact ih (i + 1) T17 h17 v18 _ (by omega) hi' K E_r0 F_blocks F_tables A_ba A_ta M_ta BS (o_room (by first | omega | (dsimp only; omega)) (by first | omega | (dsimp only; omega)) G17)
  exact loop C 0 _ _ _ _ rfl rfl K E_r0 F_blocks F_tables A_ba A_b11 M_b11 BS (o_room (by decide) (by decide) G12)
theorem d12_0 : decode prog_1_method_10_code 0 = .ok (.aload_n 0, 1) := by decide +kernel
theorem d12_1 : decode prog_1_method_10_code 1 = .ok (.getfield 42, 3) := by decide +kernel
theorem d12_4 : decode prog_1_method_10_code 4 = .ok (.astore_n 3, 1) := by decide +kernel
theorem d12_5 : decode prog_1_method_10_code 5 = .ok (.aload_n 3, 1) := by decide +kernel
theorem d12_6 : decode prog_1_method_10_code 6 = .ok (.arraylength, 1) := by decide +kernel
theorem d12_7 : decode prog_1_method_10_code 7 = .ok (.istore 4, 2) := by decide +kernel
theorem d12_9 : decode prog_1_method_10_code 9 = .ok (.iconst 0, 1) := by decide +kernel
theorem d12_10 : decode prog_1_method_10_code 10 = .ok (.istore 5, 2) := by decide +kernel
theorem d12_12 : decode prog_1_method_10_code 12 = .ok (.iload 5, 2) := by decide +kernel
theorem d12_14 : decode prog_1_method_10_code 14 = .ok (.iload 4, 2) := by decide +kernel
theorem d12_16 : decode prog_1_method_10_code 16 = .ok (.if_icmp .ge 29, 3) := by decide +kernel
theorem d12_19 : decode prog_1_method_10_code 19 = .ok (.aload_n 3, 1) := by decide +kernel
theorem d12_20 : decode prog_1_method_10_code 20 = .ok (.iload 5, 2) := by decide +kernel
theorem d12_22 : decode prog_1_method_10_code 22 = .ok (.aaload, 1) := by decide +kernel
theorem d12_23 : decode prog_1_method_10_code 23 = .ok (.astore 6, 2) := by decide +kernel
theorem d12_25 : decode prog_1_method_10_code 25 = .ok (.lload_n 1, 1) := by decide +kernel
theorem d12_26 : decode prog_1_method_10_code 26 = .ok (.aload 6, 2) := by decide +kernel
theorem d12_28 : decode prog_1_method_10_code 28 = .ok (.getfield 175, 3) := by decide +kernel
theorem d12_31 : decode prog_1_method_10_code 31 = .ok (.land, 1) := by decide +kernel
theorem d12_32 : decode prog_1_method_10_code 32 = .ok (.lconst 0, 1) := by decide +kernel
theorem d12_33 : decode prog_1_method_10_code 33 = .ok (.lcmp, 1) := by decide +kernel
theorem d12_34 : decode prog_1_method_10_code 34 = .ok (.ifCond .ne 5, 3) := by decide +kernel
theorem d12_37 : decode prog_1_method_10_code 37 = .ok (.iconst 1, 1) := by decide +kernel
theorem d12_38 : decode prog_1_method_10_code 38 = .ok (.ireturn, 1) := by decide +kernel
theorem d12_39 : decode prog_1_method_10_code 39 = .ok (.iinc 5 1, 3) := by decide +kernel
theorem d12_42 : decode prog_1_method_10_code 42 = .ok (.goto (-30), 3) := by decide +kernel
theorem d12_45 : decode prog_1_method_10_code 45 = .ok (.iconst 0, 1) := by decide +kernel
theorem d12_46 : decode prog_1_method_10_code 46 = .ok (.ireturn, 1) := by decide +kernel
theorem pn_12 : plainName "com/example/pocket_simhash/pocketsimhash/BlockIndex" = true := by first | (simp [plainName, overriddenIn]; done) | decide +kernel
theorem ef_12 (m : MethodId) (r0 : Addr) (q1 : Int64) : entryFrame m #[(.ref r0), (.long q1)] 7 = mkF m 0 #[.val (.ref r0), .val (.long q1), .second, .unset, .unset, .unset, .unset] [] := by first | (simp [entryFrame, mkF, argsToLocals, Value.category]; done) | rfl
set_option maxRecDepth 65536 in
set_option maxHeartbeats 40000000 in
theorem rm12 {l : Launch} {Z : State} {a0 : Array Value} (hw : ∀ d ∈ tables_1, d.before a0 Z = true) (r0 : Addr) (q1 : Int64) (h0 : Heap) (n0 : Nat) (hz : n0 ≤ h0.size) (ba : Addr) (adr : Nat → Addr) (C : Nat) (hC32 : C ≤ 32) (M : Nat → Int64) (F_blocks : Fld Z h0 r0 "com/example/pocket_simhash/pocketsimhash/BlockIndex" "blocks" "[Lcom/example/pocket_simhash/pocketsimhash/BlockIndex$Block;" (.ref ba)) (A : OArr Z h0 ba (.object "com/example/pocket_simhash/pocketsimhash/BlockIndex$Block") C (fun j => .ref (adr j))) (FM : ∀ j, j < C → Fld Z h0 (adr j) "com/example/pocket_simhash/pocketsimhash/BlockIndex$Block" "mask" "J" (.long (M j))) :
    OMet l Z (⟨"com/example/pocket_simhash/pocketsimhash/BlockIndex", "sharesABlock", "(J)Z"⟩ : MethodName) prog_1_method_10_code 7 (some .boolean) ({ frames := 0, cells := 0, slots := 0, locals := 0 } : Room) #[(.ref r0), (.long q1)] h0 n0 0 0 (OVal h0 (.int (own_sh M q1 C 0))) := by
  refine o_body (plainFor_of_name pn_12) hz (fun m => ef_12 m r0 q1) ?_
  intro p e s m below meth c s₁ G0
  obtain ⟨x4, ex4⟩ : ∃ z, Nat.toInt32 C = z := ⟨_, rfl⟩
  have hx4 : x4.toInt = (C : Int) := by rw [← ex4]; exact o_nat32 (by omega)
  have loop : ∀ (k i : Nat) (T : State) (x5 : Int32) (s6 : Slot), k + i = C → x5.toInt = (i : Int) → (s6 = .unset ∨ ∃ w, s6 = .val (.ref w)) → own_sh M q1 C 0 = own_sh M q1 k i → OG l Z (⟨"com/example/pocket_simhash/pocketsimhash/BlockIndex", "sharesABlock", "(J)Z"⟩ : MethodName) prog_1_method_10_code 7 (some .boolean) n0 p e ({ frames := 0, cells := 0, slots := 0, locals := 0 } : Room) s m #[(.ref r0), (.long q1)] below meth c T h0 0 0 → OFin n0 p e below s (OVal h0 (.int (own_sh M q1 C 0))) 0 0 T (mkF m 12 #[.val (.ref r0), .val (.long q1), .second, .val (.ref ba), .val (.int x4), .val (.int x5), s6] []) := by
    intro k
    induction k with
    | zero =>
      intro i T x5 s6 hk hi h6 hQ G
      have hn : ¬ x5 < x4 := by
        rw [Int32.lt_iff_toInt_lt, hi, hx4]; omega
      refine o_iload G d12_12 (pc' := 14) rfl rfl ?_
      refine o_iload G d12_14 (pc' := 16) rfl rfl ?_
      refine o_icmp_ge G d12_16 (by decide) (pcT := 45) (by decide) (pc' := 19) rfl (fun _ => ?_) (fun q => absurd q hn)
      refine o_iconst G d12_45 (pc' := 46) rfl (v := (0 : Int32)) rfl ?_
      have hq : (0 : Int32) = own_sh M q1 C 0 := by
        rw [hQ, own_sh]
      exact o_nreturn (t := .boolean) G (by simp) d12_46 (by rw [← hq]; exact ⟨rfl, rfl⟩) (by decide) (by decide)
    | succ k ih =>
      intro i T x5 s6 hk hi h6 hQ G
      have hn : x5 < x4 := by
        rw [Int32.lt_iff_toInt_lt, hi, hx4]; omega
      have hiC : i < C := by omega
      refine o_iload G d12_12 (pc' := 14) rfl rfl ?_
      refine o_iload G d12_14 (pc' := 16) rfl rfl ?_
      refine o_icmp_ge G d12_16 (by decide) (pcT := 45) (by decide) (pc' := 19) rfl (fun q => absurd hn q) (fun _ => ?_)
      refine o_aloadN G d12_19 (pc' := 20) rfl rfl rfl ?_
      refine o_iload G d12_20 (pc' := 22) rfl rfl ?_
      refine o_aaload G rfl A (i := i) hi hiC (v := (.ref (adr i))) rfl d12_22 (pc' := 23) rfl ?_
      refine o_astore G d12_23 (pc' := 25) rfl rfl (l' := #[.val (.ref r0), .val (.long q1), .second, .val (.ref ba), .val (.int x4), .val (.int x5), .val (.ref (adr i))]) (by rcases h6 with rfl | ⟨w, rfl⟩ <;> rfl) ?_
      refine o_lloadN G d12_25 (pc' := 26) rfl rfl ?_
      refine o_aload G d12_26 (pc' := 28) rfl rfl rfl ?_
      refine o_getFR G (hw _ (List.mem_of_getElem? (i := 116) rfl)) (FM i hiC) d12_28 (pc' := 31) rfl ?_
      intro T1 G1
      obtain ⟨v2, e2⟩ : ∃ z, q1 &&& (M i) = z := ⟨_, rfl⟩
      refine o_land G1 d12_31 (pc' := 32) rfl e2 ?_
      refine o_lconst G1 d12_32 (pc' := 33) rfl (v := (0 : Int64)) rfl ?_
      refine o_lcmp_ne G1 d12_33 (pc1 := 34) rfl d12_34 (by decide) (pcT := 39) (by decide) (pc' := 37) rfl (fun hc33 => ?_) (fun hc33 => ?_)
      · obtain ⟨v3, e3⟩ : ∃ z, x5 + (1 : Int32) = z := ⟨_, rfl⟩
        refine o_iinc G1 d12_39 (pc' := 42) rfl rfl (w := (1 : Int32)) rfl e3 (l' := #[.val (.ref r0), .val (.long q1), .second, .val (.ref ba), .val (.int x4), .val (.int v3), .val (.ref (adr i))]) rfl ?_
        refine o_goto G1 d12_42 (by decide) (pc' := 12) rfl ?_
        have hi' : v3.toInt = ((i + 1 : Nat) : Int) := by
          have h1' : (1 : Int32).toInt = 1 := rfl
          rw [← e3, o_i32 (by omega) (by omega), h1', hi]; omega
        have hQ' : own_sh M q1 C 0 = own_sh M q1 k (i + 1) := by
          subst e2
          rw [hQ, own_sh, if_neg hc33]
        exact ih (i + 1) T1 v3 (.val (.ref (adr i))) (by omega) hi' (Or.inr ⟨_, rfl⟩) hQ' G1
      · refine o_iconst G1 d12_37 (pc' := 38) rfl (v := (1 : Int32)) rfl ?_
        have hq : (1 : Int32) = own_sh M q1 C 0 := by
          subst e2; rw [hQ, own_sh, if_pos hc33]
        exact o_nreturn (t := .boolean) G1 (by simp) d12_38 (by rw [← hq]; exact ⟨rfl, rfl⟩) (by decide) (by decide)
  refine o_aloadN G0 d12_0 (pc' := 1) rfl rfl rfl ?_
  refine o_getF G0 (host := "") (Or.inl (hw _ (List.mem_of_getElem? (i := 65) rfl))) Via.refl F_blocks d12_1 (pc' := 4) rfl ?_
  intro T4 G4
  refine o_astoreN G4 d12_4 (pc' := 5) rfl rfl (l' := #[.val (.ref r0), .val (.long q1), .second, .val (.ref ba), .unset, .unset, .unset]) rfl ?_
  refine o_aloadN G4 d12_5 (pc' := 6) rfl rfl rfl ?_
  refine o_arraylength G4 A (v := x4) ex4 d12_6 (pc' := 7) rfl ?_
  refine o_istore G4 d12_7 (pc' := 9) rfl (l' := #[.val (.ref r0), .val (.long q1), .second, .val (.ref ba), .val (.int x4), .unset, .unset]) rfl ?_
  refine o_iconst G4 d12_9 (pc' := 10) rfl (v := (0 : Int32)) rfl ?_
  refine o_istore G4 d12_10 (pc' := 12) rfl (l' := #[.val (.ref r0), .val (.long q1), .second, .val (.ref ba), .val (.int x4), .val (.int (0 : Int32)), .unset]) rfl ?_
  exact loop C 0 _ _ .unset rfl rfl (Or.inl rfl) rfl G4
theorem pn_0 : plainName "com/example/pocket_simhash/pocketsimhash/BlockIndexSharesABlockPinLaw" = true := by first | (simp [plainName, overriddenIn]; done) | decide +kernel
theorem ef_0 (m : MethodId) (p0 : Int32) (p1 : Int32) (p2 : Int32) (p3 : Int32) (q4 : Int64) : entryFrame m #[(.int p0), (.int p1), (.int p2), (.int p3), (.long q4)] maxLocals = mkF m 0 #[.val (.int p0), .val (.int p1), .val (.int p2), .val (.int p3), .val (.long q4), .second, .unset, .unset, .unset, .unset, .unset, .unset, .unset, .unset, .unset, .unset, .unset, .unset, .unset, .unset, .unset, .unset, .unset, .unset, .unset, .unset, .unset, .unset] [] := by first | (simp [entryFrame, mkF, argsToLocals, Value.category, maxLocals]; done) | rfl
set_option maxRecDepth 65536 in
set_option maxHeartbeats 40000000 in
theorem rm0 {l : Launch} {Z : State} {a0 : Array Value} (hw : ∀ d ∈ tables_1, d.before a0 Z = true) (p0 : Int32) (p1 : Int32) (p2 : Int32) (p3 : Int32) (q4 : Int64) (h0 : Heap) (n0 : Nat) (hz : n0 ≤ h0.size) :
    OMet l Z x code maxLocals ret room_1 #[(.int p0), (.int p1), (.int p2), (.int p3), (.long q4)] h0 n0 416 2496 (fun v _ => v = some (.int 1)) := by
  refine o_body (plainFor_of_name pn_0) hz (fun m => ef_0 m p0 p1 p2 p3 q4) ?_
  intro p e s m below meth c s₁ G0
  refine o_iconst G0 at_0 (pc' := 1) rfl (v := (2 : Int32)) rfl ?_
  refine o_iloadN G0 at_1 (pc' := 2) rfl rfl ?_
  refine o_ldc G0 at_2 (pc' := 4) rfl (hw _ (List.mem_of_getElem? (i := 0) rfl)) ?_
  obtain ⟨v1, e1⟩ : ∃ z, p0 &&& (2147483647 : Int32) = z := ⟨_, rfl⟩
  refine o_iand G0 at_4 (pc' := 5) rfl e1 ?_
  refine o_bipush G0 at_5 (pc' := 7) rfl (v := (31 : Int32)) rfl ?_
  obtain ⟨v2, e2⟩ : ∃ z, v1 % (31 : Int32) = z := ⟨_, rfl⟩
  refine o_irem G0 at_7 (pc' := 8) rfl (by decide) e2 ?_
  obtain ⟨v3, e3⟩ : ∃ z, (2 : Int32) + v2 = z := ⟨_, rfl⟩
  refine o_iadd G0 at_8 (pc' := 9) rfl e3 ?_
  refine o_istore G0 at_9 (pc' := 11) rfl (l' := #[.val (.int p0), .val (.int p1), .val (.int p2), .val (.int p3), .val (.long q4), .second, .val (.int v3), .unset, .unset, .unset, .unset, .unset, .unset, .unset, .unset, .unset, .unset, .unset, .unset, .unset, .unset, .unset, .unset, .unset, .unset, .unset, .unset, .unset]) rfl ?_
  obtain ⟨C, hC, hC2, hC32⟩ : ∃ C : Nat, v3.toInt = (C : Int) ∧ 2 ≤ C ∧ C ≤ 32 := by
    subst e1 e2 e3; exact own_C _
  refine o_bipush G0 at_11 (pc' := 13) rfl (v := (64 : Int32)) rfl ?_
  refine o_iload G0 at_13 (pc' := 15) rfl rfl ?_
  obtain ⟨v4, e4⟩ : ∃ z, (64 : Int32) / v3 = z := ⟨_, rfl⟩
  refine o_idiv G0 at_15 (pc' := 16) rfl (fun q => by rw [q] at hC; have : (0 : Int32).toInt = 0 := rfl; omega) e4 ?_
  refine o_istore G0 at_16 (pc' := 18) rfl (l' := #[.val (.int p0), .val (.int p1), .val (.int p2), .val (.int p3), .val (.long q4), .second, .val (.int v3), .val (.int v4), .unset, .unset, .unset, .unset, .unset, .unset, .unset, .unset, .unset, .unset, .unset, .unset, .unset, .unset, .unset, .unset, .unset, .unset, .unset, .unset]) rfl ?_
  refine o_bipush G0 at_18 (pc' := 20) rfl (v := (64 : Int32)) rfl ?_
  refine o_iload G0 at_20 (pc' := 22) rfl rfl ?_
  obtain ⟨v5, e5⟩ : ∃ z, (64 : Int32) % v3 = z := ⟨_, rfl⟩
  refine o_irem G0 at_22 (pc' := 23) rfl (fun q => by rw [q] at hC; have : (0 : Int32).toInt = 0 := rfl; omega) e5 ?_
  refine o_istore G0 at_23 (pc' := 25) rfl (l' := #[.val (.int p0), .val (.int p1), .val (.int p2), .val (.int p3), .val (.long q4), .second, .val (.int v3), .val (.int v4), .val (.int v5), .unset, .unset, .unset, .unset, .unset, .unset, .unset, .unset, .unset, .unset, .unset, .unset, .unset, .unset, .unset, .unset, .unset, .unset, .unset]) rfl ?_
  refine o_iloadN G0 at_25 (pc' := 26) rfl rfl ?_
  refine o_ldc G0 at_26 (pc' := 28) rfl (hw _ (List.mem_of_getElem? (i := 0) rfl)) ?_
  obtain ⟨v6, e6⟩ : ∃ z, p1 &&& (2147483647 : Int32) = z := ⟨_, rfl⟩
  refine o_iand G0 at_28 (pc' := 29) rfl e6 ?_
  refine o_iload G0 at_29 (pc' := 31) rfl rfl ?_
  obtain ⟨v7, e7⟩ : ∃ z, v6 % v3 = z := ⟨_, rfl⟩
  refine o_irem G0 at_31 (pc' := 32) rfl (fun q => by rw [q] at hC; have : (0 : Int32).toInt = 0 := rfl; omega) e7 ?_
  refine o_istore G0 at_32 (pc' := 34) rfl (l' := #[.val (.int p0), .val (.int p1), .val (.int p2), .val (.int p3), .val (.long q4), .second, .val (.int v3), .val (.int v4), .val (.int v5), .val (.int v7), .unset, .unset, .unset, .unset, .unset, .unset, .unset, .unset, .unset, .unset, .unset, .unset, .unset, .unset, .unset, .unset, .unset, .unset]) rfl ?_
  obtain ⟨A, hA1, hA⟩ : ∃ A : Nat, v7.toInt = (A : Int) ∧ A < C := by
    rw [← e7, ← e6]; exact own_A _ _ C hC hC2
  refine o_iload G0 at_34 (pc' := 36) rfl rfl ?_
  refine o_iload G0 at_36 (pc' := 38) rfl rfl ?_
  refine o_iload G0 at_38 (pc' := 40) rfl rfl ?_
  obtain ⟨v8, e8⟩ : ∃ z, (if v7 < v5 then (1 : Int32) else (0 : Int32)) = z := ⟨_, rfl⟩
  have K9 : ∀ T', OG l Z x code maxLocals ret n0 p e room_1 s m #[(.int p0), (.int p1), (.int p2), (.int p3), (.long q4)] below meth c T' h0 0 0 → OFin n0 p e below s (fun v _ => v = some (.int 1)) 416 2496 T' (mkF m 48 #[.val (.int p0), .val (.int p1), .val (.int p2), .val (.int p3), .val (.long q4), .second, .val (.int v3), .val (.int v4), .val (.int v5), .val (.int v7), .unset, .unset, .unset, .unset, .unset, .unset, .unset, .unset, .unset, .unset, .unset, .unset, .unset, .unset, .unset, .unset, .unset, .unset] [(.int v8), (.int v4)]) := by
    intro T9 G9
    obtain ⟨v10, e10⟩ : ∃ z, v4 + v8 = z := ⟨_, rfl⟩
    refine o_iadd G9 at_48 (pc' := 49) rfl e10 ?_
    refine o_istore G9 at_49 (pc' := 51) rfl (l' := #[.val (.int p0), .val (.int p1), .val (.int p2), .val (.int p3), .val (.long q4), .second, .val (.int v3), .val (.int v4), .val (.int v5), .val (.int v7), .val (.int v10), .unset, .unset, .unset, .unset, .unset, .unset, .unset, .unset, .unset, .unset, .unset, .unset, .unset, .unset, .unset, .unset, .unset]) rfl ?_
    refine o_iload G9 at_51 (pc' := 53) rfl rfl ?_
    refine o_iload G9 at_53 (pc' := 55) rfl rfl ?_
    obtain ⟨v11, e11⟩ : ∃ z, v7 * v4 = z := ⟨_, rfl⟩
    refine o_imul G9 at_55 (pc' := 56) rfl e11 ?_
    refine o_iload G9 at_56 (pc' := 58) rfl rfl ?_
    refine o_iload G9 at_58 (pc' := 60) rfl rfl ?_
    obtain ⟨v12, e12⟩ : ∃ z, f_1 v7 v5 = z := ⟨_, rfl⟩
    refine o_callP G9 (z := (⟨"java/lang/Math", "min", "(II)I"⟩ : MethodName)) (r := (.int v12)) (argsL := [(.int v7), (.int v5)]) (rest := [(.int v11)]) (W := 1) (hw _ (List.mem_of_getElem? (i := 1) rfl)) (hw _ (List.mem_of_getElem? (i := 2) rfl)) at_60 (by decide) (hw _ (List.mem_of_getElem? (i := 3) rfl)) (hw _ (List.mem_of_getElem? (i := 4) rfl)) (by rw [← e12]; exact rm1 hw v7 v5 h0 n0 G9.sz) (by decide) (by decide) rfl (lenOf pd_3 rfl) rfl (Nat.le_of_eq rfl) (pc' := 63) rfl (by decide) (by decide) ?_
    intro T13 G13
    obtain ⟨v14, e14⟩ : ∃ z, v11 + v12 = z := ⟨_, rfl⟩
    refine o_iadd G13 at_63 (pc' := 64) rfl e14 ?_
    refine o_istore G13 at_64 (pc' := 66) rfl (l' := #[.val (.int p0), .val (.int p1), .val (.int p2), .val (.int p3), .val (.long q4), .second, .val (.int v3), .val (.int v4), .val (.int v5), .val (.int v7), .val (.int v10), .val (.int v14), .unset, .unset, .unset, .unset, .unset, .unset, .unset, .unset, .unset, .unset, .unset, .unset, .unset, .unset, .unset, .unset]) rfl ?_
    have hw' : v10.toInt = (own_w C A : Int) := by
      subst e4 e5 e8 e10 e11 e12 e14; exact own_wI _ _ C A hC hC2 hA1
    have hst : v14.toInt = (own_l C A : Int) := by
      subst e4 e5 e8 e10 e11 e12 e14; exact own_stI _ _ C A hC hC2 hA1 hA
    refine o_lconst G13 at_66 (pc' := 67) rfl (v := (1 : Int64)) rfl ?_
    refine o_iload G13 at_67 (pc' := 69) rfl rfl ?_
    obtain ⟨v15, e15⟩ : ∃ z, (1 : Int64) <<< (v10 &&& 0x3f).toInt64 = z := ⟨_, rfl⟩
    refine o_lshl G13 at_69 (pc' := 70) rfl e15 ?_
    refine o_lconst G13 at_70 (pc' := 71) rfl (v := (1 : Int64)) rfl ?_
    obtain ⟨v16, e16⟩ : ∃ z, v15 - (1 : Int64) = z := ⟨_, rfl⟩
    refine o_lsub G13 at_71 (pc' := 72) rfl e16 ?_
    refine o_iload G13 at_72 (pc' := 74) rfl rfl ?_
    obtain ⟨v17, e17⟩ : ∃ z, v16 <<< (v14 &&& 0x3f).toInt64 = z := ⟨_, rfl⟩
    refine o_lshl G13 at_74 (pc' := 75) rfl e17 ?_
    refine o_lstore G13 at_75 (pc' := 77) rfl (l' := #[.val (.int p0), .val (.int p1), .val (.int p2), .val (.int p3), .val (.long q4), .second, .val (.int v3), .val (.int v4), .val (.int v5), .val (.int v7), .val (.int v10), .val (.int v14), .val (.long v17), .second, .unset, .unset, .unset, .unset, .unset, .unset, .unset, .unset, .unset, .unset, .unset, .unset, .unset, .unset]) rfl ?_
    have hmk : own_mk v10 v14 = v17 := by
      subst e15 e16 e17; rfl
    refine o_iload G13 at_77 (pc' := 79) rfl rfl ?_
    refine o_iconst G13 at_79 (pc' := 80) rfl (v := (1 : Int32)) rfl ?_
    obtain ⟨v18, e18⟩ : ∃ z, v14 - (1 : Int32) = z := ⟨_, rfl⟩
    refine o_isub G13 at_80 (pc' := 81) rfl e18 ?_
    refine o_iloadN G13 at_81 (pc' := 82) rfl rfl ?_
    refine o_ldc G13 at_82 (pc' := 84) rfl (hw _ (List.mem_of_getElem? (i := 0) rfl)) ?_
    obtain ⟨v19, e19⟩ : ∃ z, p2 &&& (2147483647 : Int32) = z := ⟨_, rfl⟩
    refine o_iand G13 at_84 (pc' := 85) rfl e19 ?_
    refine o_iload G13 at_85 (pc' := 87) rfl rfl ?_
    refine o_iconst G13 at_87 (pc' := 88) rfl (v := (2 : Int32)) rfl ?_
    obtain ⟨v20, e20⟩ : ∃ z, v10 + (2 : Int32) = z := ⟨_, rfl⟩
    refine o_iadd G13 at_88 (pc' := 89) rfl e20 ?_
    have hw2 := own_w2 C A hC2 hC32
    have hw2' : v20.toInt = (own_w C A : Int) + 2 := by
      have z2 : (2 : Int32).toInt = 2 := rfl
      rw [← e20, o_i32 (by omega) (by omega), hw', z2]
    obtain ⟨v21, e21⟩ : ∃ z, v19 % v20 = z := ⟨_, rfl⟩
    refine o_irem G13 at_89 (pc' := 90) rfl (fun q => by rw [q] at hw2'; have : (0 : Int32).toInt = 0 := rfl; omega) e21 ?_
    obtain ⟨v22, e22⟩ : ∃ z, v18 + v21 = z := ⟨_, rfl⟩
    refine o_iadd G13 at_90 (pc' := 91) rfl e22 ?_
    refine o_istore G13 at_91 (pc' := 93) rfl (l' := #[.val (.int p0), .val (.int p1), .val (.int p2), .val (.int p3), .val (.long q4), .second, .val (.int v3), .val (.int v4), .val (.int v5), .val (.int v7), .val (.int v10), .val (.int v14), .val (.long v17), .second, .val (.int v22), .unset, .unset, .unset, .unset, .unset, .unset, .unset, .unset, .unset, .unset, .unset, .unset, .unset]) rfl ?_
    refine o_iload G13 at_93 (pc' := 95) rfl rfl ?_
    obtain ⟨v23, e23⟩ : ∃ z, (if v22 < (0 : Int32) then (0 : Int64) else (if (63 : Int32) < v22 then (0 : Int64) else ((1 : Int64) <<< (v22 &&& 0x3f).toInt64))) = z := ⟨_, rfl⟩
    have K24 : ∀ T', OG l Z x code maxLocals ret n0 p e room_1 s m #[(.int p0), (.int p1), (.int p2), (.int p3), (.long q4)] below meth c T' h0 0 0 → OFin n0 p e below s (fun v _ => v = some (.int 1)) 416 2496 T' (mkF m 113 #[.val (.int p0), .val (.int p1), .val (.int p2), .val (.int p3), .val (.long q4), .second, .val (.int v3), .val (.int v4), .val (.int v5), .val (.int v7), .val (.int v10), .val (.int v14), .val (.long v17), .second, .val (.int v22), .unset, .unset, .unset, .unset, .unset, .unset, .unset, .unset, .unset, .unset, .unset, .unset, .unset] [(.long v23)]) := by
      intro T24 G24
      refine o_lstore G24 at_113 (pc' := 115) rfl (l' := #[.val (.int p0), .val (.int p1), .val (.int p2), .val (.int p3), .val (.long q4), .second, .val (.int v3), .val (.int v4), .val (.int v5), .val (.int v7), .val (.int v10), .val (.int v14), .val (.long v17), .second, .val (.int v22), .val (.long v23), .second, .unset, .unset, .unset, .unset, .unset, .unset, .unset, .unset, .unset, .unset, .unset]) rfl ?_
      refine o_iload G24 at_115 (pc' := 117) rfl rfl ?_
      refine o_iload G24 at_117 (pc' := 119) rfl rfl ?_
      obtain ⟨v25, e25⟩ : ∃ z, (if v22 < v14 then (0 : Int32) else (if v22 < (v14 + v10) then (1 : Int32) else (0 : Int32))) = z := ⟨_, rfl⟩
      have K26 : ∀ T', OG l Z x code maxLocals ret n0 p e room_1 s m #[(.int p0), (.int p1), (.int p2), (.int p3), (.long q4)] below meth c T' h0 0 0 → OFin n0 p e below s (fun v _ => v = some (.int 1)) 416 2496 T' (mkF m 137 #[.val (.int p0), .val (.int p1), .val (.int p2), .val (.int p3), .val (.long q4), .second, .val (.int v3), .val (.int v4), .val (.int v5), .val (.int v7), .val (.int v10), .val (.int v14), .val (.long v17), .second, .val (.int v22), .val (.long v23), .second, .unset, .unset, .unset, .unset, .unset, .unset, .unset, .unset, .unset, .unset, .unset] [(.int v25)]) := by
        intro T26 G26
        refine o_istore G26 at_137 (pc' := 139) rfl (l' := #[.val (.int p0), .val (.int p1), .val (.int p2), .val (.int p3), .val (.long q4), .second, .val (.int v3), .val (.int v4), .val (.int v5), .val (.int v7), .val (.int v10), .val (.int v14), .val (.long v17), .second, .val (.int v22), .val (.long v23), .second, .val (.int v25), .unset, .unset, .unset, .unset, .unset, .unset, .unset, .unset, .unset, .unset]) rfl ?_
        refine o_iloadN G26 at_139 (pc' := 140) rfl rfl ?_
        refine o_iconst G26 at_140 (pc' := 141) rfl (v := (1 : Int32)) rfl ?_
        obtain ⟨v27, e27⟩ : ∃ z, p3 &&& (1 : Int32) = z := ⟨_, rfl⟩
        refine o_iand G26 at_141 (pc' := 142) rfl e27 ?_
        obtain ⟨v28, e28⟩ : ∃ z, (if v27 = (0 : Int32) then (-6148914691236517206 : Int64) else (6148914691236517205 : Int64)) = z := ⟨_, rfl⟩
        have K29 : ∀ T', OG l Z x code maxLocals ret n0 p e room_1 s m #[(.int p0), (.int p1), (.int p2), (.int p3), (.long q4)] below meth c T' h0 0 0 → OFin n0 p e below s (fun v _ => v = some (.int 1)) 416 2496 T' (mkF m 154 #[.val (.int p0), .val (.int p1), .val (.int p2), .val (.int p3), .val (.long q4), .second, .val (.int v3), .val (.int v4), .val (.int v5), .val (.int v7), .val (.int v10), .val (.int v14), .val (.long v17), .second, .val (.int v22), .val (.long v23), .second, .val (.int v25), .unset, .unset, .unset, .unset, .unset, .unset, .unset, .unset, .unset, .unset] [(.long v28)]) := by
          intro T29 G29
          refine o_lstore G29 at_154 (pc' := 156) rfl (l' := #[.val (.int p0), .val (.int p1), .val (.int p2), .val (.int p3), .val (.long q4), .second, .val (.int v3), .val (.int v4), .val (.int v5), .val (.int v7), .val (.int v10), .val (.int v14), .val (.long v17), .second, .val (.int v22), .val (.long v23), .second, .val (.int v25), .val (.long v28), .second, .unset, .unset, .unset, .unset, .unset, .unset, .unset, .unset]) rfl ?_
          refine o_iloadN G29 at_156 (pc' := 157) rfl rfl ?_
          refine o_iconst G29 at_157 (pc' := 158) rfl (v := (2 : Int32)) rfl ?_
          obtain ⟨v30, e30⟩ : ∃ z, p3 &&& (2 : Int32) = z := ⟨_, rfl⟩
          refine o_iand G29 at_158 (pc' := 159) rfl e30 ?_
          obtain ⟨v31, e31⟩ : ∃ z, (if v30 = (0 : Int32) then (0 : Int32) else (1 : Int32)) = z := ⟨_, rfl⟩
          have K32 : ∀ T', OG l Z x code maxLocals ret n0 p e room_1 s m #[(.int p0), (.int p1), (.int p2), (.int p3), (.long q4)] below meth c T' h0 0 0 → OFin n0 p e below s (fun v _ => v = some (.int 1)) 416 2496 T' (mkF m 167 #[.val (.int p0), .val (.int p1), .val (.int p2), .val (.int p3), .val (.long q4), .second, .val (.int v3), .val (.int v4), .val (.int v5), .val (.int v7), .val (.int v10), .val (.int v14), .val (.long v17), .second, .val (.int v22), .val (.long v23), .second, .val (.int v25), .val (.long v28), .second, .unset, .unset, .unset, .unset, .unset, .unset, .unset, .unset] [(.int v31)]) := by
            intro T32 G32
            refine o_istore G32 at_167 (pc' := 169) rfl (l' := #[.val (.int p0), .val (.int p1), .val (.int p2), .val (.int p3), .val (.long q4), .second, .val (.int v3), .val (.int v4), .val (.int v5), .val (.int v7), .val (.int v10), .val (.int v14), .val (.long v17), .second, .val (.int v22), .val (.long v23), .second, .val (.int v25), .val (.long v28), .second, .val (.int v31), .unset, .unset, .unset, .unset, .unset, .unset, .unset]) rfl ?_
            refine o_lload G32 at_169 (pc' := 171) rfl rfl ?_
            refine o_lload G32 at_171 (pc' := 173) rfl rfl ?_
            obtain ⟨v33, e33⟩ : ∃ z, q4 ||| v28 = z := ⟨_, rfl⟩
            refine o_lor G32 at_173 (pc' := 174) rfl e33 ?_
            refine o_lload G32 at_174 (pc' := 176) rfl rfl ?_
            refine o_ldc2 G32 at_176 (pc' := 179) rfl (hw _ (List.mem_of_getElem? (i := 6) rfl)) ?_
            obtain ⟨v34, e34⟩ : ∃ z, v17 ^^^ (-1 : Int64) = z := ⟨_, rfl⟩
            refine o_lxor G32 at_179 (pc' := 180) rfl e34 ?_
            obtain ⟨v35, e35⟩ : ∃ z, v33 &&& v34 = z := ⟨_, rfl⟩
            refine o_land G32 at_180 (pc' := 181) rfl e35 ?_
            refine o_iload G32 at_181 (pc' := 183) rfl rfl ?_
            obtain ⟨v36, e36⟩ : ∃ z, (if v31 = (0 : Int32) then (0 : Int64) else v23) = z := ⟨_, rfl⟩
            have K37 : ∀ T', OG l Z x code maxLocals ret n0 p e room_1 s m #[(.int p0), (.int p1), (.int p2), (.int p3), (.long q4)] below meth c T' h0 0 0 → OFin n0 p e below s (fun v _ => v = some (.int 1)) 416 2496 T' (mkF m 192 #[.val (.int p0), .val (.int p1), .val (.int p2), .val (.int p3), .val (.long q4), .second, .val (.int v3), .val (.int v4), .val (.int v5), .val (.int v7), .val (.int v10), .val (.int v14), .val (.long v17), .second, .val (.int v22), .val (.long v23), .second, .val (.int v25), .val (.long v28), .second, .val (.int v31), .unset, .unset, .unset, .unset, .unset, .unset, .unset] [(.long v36), (.long v35)]) := by
              intro T37 G37
              obtain ⟨v38, e38⟩ : ∃ z, v35 ||| v36 = z := ⟨_, rfl⟩
              refine o_lor G37 at_192 (pc' := 193) rfl e38 ?_
              refine o_lstore G37 at_193 (pc' := 195) rfl (l' := #[.val (.int p0), .val (.int p1), .val (.int p2), .val (.int p3), .val (.long q4), .second, .val (.int v3), .val (.int v4), .val (.int v5), .val (.int v7), .val (.int v10), .val (.int v14), .val (.long v17), .second, .val (.int v22), .val (.long v23), .second, .val (.int v25), .val (.long v28), .second, .val (.int v31), .val (.long v38), .second, .unset, .unset, .unset, .unset, .unset]) rfl ?_
              refine o_iload G37 at_195 (pc' := 197) rfl rfl ?_
              obtain ⟨v39, e39⟩ : ∃ z, (if v31 = (0 : Int32) then (1 : Int32) else (if v25 = (0 : Int32) then (1 : Int32) else (0 : Int32))) = z := ⟨_, rfl⟩
              have K40 : ∀ T', OG l Z x code maxLocals ret n0 p e room_1 s m #[(.int p0), (.int p1), (.int p2), (.int p3), (.long q4)] below meth c T' h0 0 0 → OFin n0 p e below s (fun v _ => v = some (.int 1)) 416 2496 T' (mkF m 210 #[.val (.int p0), .val (.int p1), .val (.int p2), .val (.int p3), .val (.long q4), .second, .val (.int v3), .val (.int v4), .val (.int v5), .val (.int v7), .val (.int v10), .val (.int v14), .val (.long v17), .second, .val (.int v22), .val (.long v23), .second, .val (.int v25), .val (.long v28), .second, .val (.int v31), .val (.long v38), .second, .unset, .unset, .unset, .unset, .unset] [(.int v39)]) := by
                intro T40 G40
                refine o_istore G40 at_210 (pc' := 212) rfl (l' := #[.val (.int p0), .val (.int p1), .val (.int p2), .val (.int p3), .val (.long q4), .second, .val (.int v3), .val (.int v4), .val (.int v5), .val (.int v7), .val (.int v10), .val (.int v14), .val (.long v17), .second, .val (.int v22), .val (.long v23), .second, .val (.int v25), .val (.long v28), .second, .val (.int v31), .val (.long v38), .second, .val (.int v39), .unset, .unset, .unset, .unset]) rfl ?_
                refine o_new G40 (hw _ (List.mem_of_getElem? (i := 7) rfl)) (hw _ (List.mem_of_getElem? (i := 8) rfl)) (hw _ (List.mem_of_getElem? (i := 9) rfl)) at_212 (pc' := 215) rfl (by decide) (by decide) ?_
                intro T41 h41 b41 G41 g41 g_b41 E41 A41 D41
                have F_keys_b41 : Fld Z h41 b41 "com/example/pocket_simhash/pocketsimhash/BlockIndex" "keys" "Lcom/example/pocket_simhash/pocketsimhash/BlockIndex$LongColumn;" .null := D41 (Or.inr (hw _ (List.mem_of_getElem? (i := 30) rfl))) (ty := (.object "com/example/pocket_simhash/pocketsimhash/BlockIndex$LongColumn")) (by decide)
                have F_fingerprints_b41 : Fld Z h41 b41 "com/example/pocket_simhash/pocketsimhash/BlockIndex" "fingerprints" "Lcom/example/pocket_simhash/pocketsimhash/BlockIndex$LongColumn;" .null := D41 (Or.inr (hw _ (List.mem_of_getElem? (i := 32) rfl))) (ty := (.object "com/example/pocket_simhash/pocketsimhash/BlockIndex$LongColumn")) (by decide)
                have F_capacity_b41 : Fld Z h41 b41 "com/example/pocket_simhash/pocketsimhash/BlockIndex" "capacity" "I" (.int (0 : Int32)) := D41 (Or.inl (hw _ (List.mem_of_getElem? (i := 34) rfl))) (ty := .int) (by decide)
                have F_blocks_b41 : Fld Z h41 b41 "com/example/pocket_simhash/pocketsimhash/BlockIndex" "blocks" "[Lcom/example/pocket_simhash/pocketsimhash/BlockIndex$Block;" .null := D41 (Or.inr (hw _ (List.mem_of_getElem? (i := 66) rfl))) (ty := (.array (.object "com/example/pocket_simhash/pocketsimhash/BlockIndex$Block"))) (by decide)
                have F_tables_b41 : Fld Z h41 b41 "com/example/pocket_simhash/pocketsimhash/BlockIndex" "tables" "[Lcom/example/pocket_simhash/pocketsimhash/BlockIndex$Table;" .null := D41 (Or.inr (hw _ (List.mem_of_getElem? (i := 70) rfl))) (ty := (.array (.object "com/example/pocket_simhash/pocketsimhash/BlockIndex$Table"))) (by decide)
                refine o_dup G41 at_215 (pc' := 216) rfl rfl ?_
                refine o_iload G41 at_216 (pc' := 218) rfl rfl ?_
                refine o_callI G41 (z := (⟨"com/example/pocket_simhash/pocketsimhash/BlockIndex", "<init>", "(I)V"⟩ : MethodName)) (argsL := [(.int v3)]) (rest := [(.ref b41)]) (W := 1) (a := b41) rfl (hw _ (List.mem_of_getElem? (i := 10) rfl)) (hw _ (List.mem_of_getElem? (i := 11) rfl)) rfl at_218 (by decide) (hw _ (List.mem_of_getElem? (i := 9) rfl)) (hw _ (List.mem_of_getElem? (i := 12) rfl)) (rm2 hw b41 v3 h41 n0 G41.sz g_b41 A41 F_keys_b41 F_fingerprints_b41 F_capacity_b41 F_blocks_b41 F_tables_b41 C hC hC2 hC32) (by decide) (by decide) rfl (lenOf pd_4 rfl) rfl (Nat.le_of_eq rfl) (pc' := 221) rfl (by decide) (by decide) ?_
                rintro _ T42 h42 G42 ⟨rfl, K42, ba, adr, F_blocks, A_ba, BS⟩
                replace A41 := A41.keep K42
                show OFin n0 p e below s (fun v _ => v = some (.int 1)) 416 2496 T42 (mkF m 221 #[.val (.int p0), .val (.int p1), .val (.int p2), .val (.int p3), .val (.long q4), .second, .val (.int v3), .val (.int v4), .val (.int v5), .val (.int v7), .val (.int v10), .val (.int v14), .val (.long v17), .second, .val (.int v22), .val (.long v23), .second, .val (.int v25), .val (.long v28), .second, .val (.int v31), .val (.long v38), .second, .val (.int v39), .unset, .unset, .unset, .unset] [(.ref b41)])
                have hB : ∀ j, ∃ x : Int64, j < C → (∃ w lo : Int32, w.toInt = (own_w C j : Int) ∧ lo.toInt = (own_l C j : Int) ∧ x = own_mk w lo) ∧ Fld Z h42 (adr j) "com/example/pocket_simhash/pocketsimhash/BlockIndex$Block" "mask" "J" (.long x) := by
                  intro j
                  by_cases hj : j < C
                  · obtain ⟨w, lo, h1, h2, _, F2⟩ := BS j hj
                    exact ⟨own_mk w lo, fun _ => ⟨⟨w, lo, h1, h2, rfl⟩, F2⟩⟩
                  · exact ⟨0, fun q => absurd q hj⟩
                obtain ⟨M, hM⟩ := Classical.axiomOfChoice hB
                refine o_astore G42 at_221 (pc' := 223) rfl rfl (l' := #[.val (.int p0), .val (.int p1), .val (.int p2), .val (.int p3), .val (.long q4), .second, .val (.int v3), .val (.int v4), .val (.int v5), .val (.int v7), .val (.int v10), .val (.int v14), .val (.long v17), .second, .val (.int v22), .val (.long v23), .second, .val (.int v25), .val (.long v28), .second, .val (.int v31), .val (.long v38), .second, .val (.int v39), .val (.ref b41), .unset, .unset, .unset]) rfl ?_
                refine o_aload G42 at_223 (pc' := 225) rfl rfl rfl ?_
                refine o_lload G42 at_225 (pc' := 227) rfl rfl ?_
                obtain ⟨r0, er0⟩ : ∃ z, own_sh M v38 C 0 = z := ⟨_, rfl⟩
                refine o_callVP G42 (z := (⟨"com/example/pocket_simhash/pocketsimhash/BlockIndex", "sharesABlock", "(J)Z"⟩ : MethodName)) (argsL := [(.long v38)]) (rest := []) (W := 0) (r := .int r0) A41 (hw _ (List.mem_of_getElem? (i := 111) rfl)) (hw _ (List.mem_of_getElem? (i := 113) rfl)) (hw _ (List.mem_of_getElem? (i := 112) rfl)) (hw _ (List.mem_of_getElem? (i := 114) rfl)) at_227 (by decide) (hw _ (List.mem_of_getElem? (i := 9) rfl)) (hw _ (List.mem_of_getElem? (i := 115) rfl)) (by rw [← er0]; exact rm12 hw b41 v38 h42 n0 G42.sz ba adr C hC32 M F_blocks A_ba (fun j hj => (hM j hj).2)) (by decide) (by decide) rfl (lenOf pd_8 rfl) rfl (Nat.le_of_eq rfl) (pc' := 230) rfl (by decide) (by decide) ?_
                intro T43 G43
                refine o_istore G43 at_230 (pc' := 232) rfl (l' := #[.val (.int p0), .val (.int p1), .val (.int p2), .val (.int p3), .val (.long q4), .second, .val (.int v3), .val (.int v4), .val (.int v5), .val (.int v7), .val (.int v10), .val (.int v14), .val (.long v17), .second, .val (.int v22), .val (.long v23), .second, .val (.int v25), .val (.long v28), .second, .val (.int v31), .val (.long v38), .second, .val (.int v39), .val (.ref b41), .val (.int r0), .unset, .unset]) rfl ?_
                refine o_aload G43 at_232 (pc' := 234) rfl rfl rfl ?_
                refine o_lload G43 at_234 (pc' := 236) rfl rfl ?_
                refine o_lload G43 at_236 (pc' := 238) rfl rfl ?_
                refine o_ldc2 G43 at_238 (pc' := 241) rfl (hw _ (List.mem_of_getElem? (i := 6) rfl)) ?_
                obtain ⟨v44, e44⟩ : ∃ z, v17 ^^^ (-1 : Int64) = z := ⟨_, rfl⟩
                refine o_lxor G43 at_241 (pc' := 242) rfl e44 ?_
                obtain ⟨v45, e45⟩ : ∃ z, q4 &&& v44 = z := ⟨_, rfl⟩
                refine o_land G43 at_242 (pc' := 243) rfl e45 ?_
                obtain ⟨r1, er1⟩ : ∃ z, own_sh M v45 C 0 = z := ⟨_, rfl⟩
                refine o_callVP G43 (z := (⟨"com/example/pocket_simhash/pocketsimhash/BlockIndex", "sharesABlock", "(J)Z"⟩ : MethodName)) (argsL := [(.long v45)]) (rest := []) (W := 0) (r := .int r1) A41 (hw _ (List.mem_of_getElem? (i := 111) rfl)) (hw _ (List.mem_of_getElem? (i := 113) rfl)) (hw _ (List.mem_of_getElem? (i := 112) rfl)) (hw _ (List.mem_of_getElem? (i := 114) rfl)) at_243 (by decide) (hw _ (List.mem_of_getElem? (i := 9) rfl)) (hw _ (List.mem_of_getElem? (i := 115) rfl)) (by rw [← er1]; exact rm12 hw b41 v45 h42 n0 G43.sz ba adr C hC32 M F_blocks A_ba (fun j hj => (hM j hj).2)) (by decide) (by decide) rfl (lenOf pd_8 rfl) rfl (Nat.le_of_eq rfl) (pc' := 246) rfl (by decide) (by decide) ?_
                intro T46 G46
                refine o_istore G46 at_246 (pc' := 248) rfl (l' := #[.val (.int p0), .val (.int p1), .val (.int p2), .val (.int p3), .val (.long q4), .second, .val (.int v3), .val (.int v4), .val (.int v5), .val (.int v7), .val (.int v10), .val (.int v14), .val (.long v17), .second, .val (.int v22), .val (.long v23), .second, .val (.int v25), .val (.long v28), .second, .val (.int v31), .val (.long v38), .second, .val (.int v39), .val (.ref b41), .val (.int r0), .val (.int r1), .unset]) rfl ?_
                refine o_aload G46 at_248 (pc' := 250) rfl rfl rfl ?_
                refine o_lload G46 at_250 (pc' := 252) rfl rfl ?_
                refine o_lload G46 at_252 (pc' := 254) rfl rfl ?_
                obtain ⟨v47, e47⟩ : ∃ z, q4 ||| v28 = z := ⟨_, rfl⟩
                refine o_lor G46 at_254 (pc' := 255) rfl e47 ?_
                obtain ⟨r2, er2⟩ : ∃ z, own_sh M v47 C 0 = z := ⟨_, rfl⟩
                refine o_callVP G46 (z := (⟨"com/example/pocket_simhash/pocketsimhash/BlockIndex", "sharesABlock", "(J)Z"⟩ : MethodName)) (argsL := [(.long v47)]) (rest := []) (W := 0) (r := .int r2) A41 (hw _ (List.mem_of_getElem? (i := 111) rfl)) (hw _ (List.mem_of_getElem? (i := 113) rfl)) (hw _ (List.mem_of_getElem? (i := 112) rfl)) (hw _ (List.mem_of_getElem? (i := 114) rfl)) at_255 (by decide) (hw _ (List.mem_of_getElem? (i := 9) rfl)) (hw _ (List.mem_of_getElem? (i := 115) rfl)) (by rw [← er2]; exact rm12 hw b41 v47 h42 n0 G46.sz ba adr C hC32 M F_blocks A_ba (fun j hj => (hM j hj).2)) (by decide) (by decide) rfl (lenOf pd_8 rfl) rfl (Nat.le_of_eq rfl) (pc' := 258) rfl (by decide) (by decide) ?_
                intro T48 G48
                have hm := own_main hC2 hC32 hA (fun i hi => (hM i hi).1) v10 v14 v22 v31 hw' hst q4 v28 (by
                  rw [← e28]; exact own_altr _)
                rw [hmk] at hm
                refine o_istore G48 at_258 (pc' := 260) rfl (l' := #[.val (.int p0), .val (.int p1), .val (.int p2), .val (.int p3), .val (.long q4), .second, .val (.int v3), .val (.int v4), .val (.int v5), .val (.int v7), .val (.int v10), .val (.int v14), .val (.long v17), .second, .val (.int v22), .val (.long v23), .second, .val (.int v25), .val (.long v28), .second, .val (.int v31), .val (.long v38), .second, .val (.int v39), .val (.ref b41), .val (.int r0), .val (.int r1), .val (.int r2)]) rfl ?_
                refine o_iload G48 at_260 (pc' := 262) rfl rfl ?_
                refine o_iload G48 at_262 (pc' := 264) rfl rfl ?_
                refine o_icmp_ne G48 at_264 (by decide) (pcT := 281) (by decide) (pc' := 267) rfl (fun q => absurd (by
                    subst e23 e25 e27 e28 e30 e31 e33 e34 e35 e36 e38 e39 e44 e45 e47
                    rw [← er0]; exact hm.2.2) q) (fun _ => ?_)
                refine o_iload G48 at_267 (pc' := 269) rfl rfl ?_
                refine o_if_eq G48 at_269 (by decide) (pcT := 281) (by decide) (pc' := 272) rfl (fun q => absurd q (by
                    subst e23 e25 e27 e28 e30 e31 e33 e34 e35 e36 e38 e39 e44 e45 e47
                    rw [← er1, show _ = _ from hm.2.1]; decide)) (fun _ => ?_)
                refine o_iload G48 at_272 (pc' := 274) rfl rfl ?_
                refine o_if_ne G48 at_274 (by decide) (pcT := 281) (by decide) (pc' := 277) rfl (fun q => absurd (by
                    subst e23 e25 e27 e28 e30 e31 e33 e34 e35 e36 e38 e39 e44 e45 e47
                    rw [← er2]; exact hm.1) q) (fun _ => ?_)
                refine o_iconst G48 at_277 (pc' := 278) rfl (v := (1 : Int32)) rfl ?_
                refine o_goto G48 at_278 (by decide) (pc' := 282) rfl ?_
                exact o_nreturn (t := .boolean) G48 (by simp) at_282 rfl (by decide) (by decide)
              refine o_if_eq G37 at_197 (by decide) (pcT := 205) (by decide) (pc' := 200) rfl (fun hc197 => ?_) (fun hc197 => ?_)
              · refine o_iconst G37 at_205 (pc' := 206) rfl (v := (1 : Int32)) rfl ?_
                refine o_goto G37 at_206 (by decide) (pc' := 210) rfl ?_
                rw [if_pos hc197] at e39
                subst e39
                exact K40 _ G37
              · refine o_iload G37 at_200 (pc' := 202) rfl rfl ?_
                refine o_if_ne G37 at_202 (by decide) (pcT := 209) (by decide) (pc' := 205) rfl (fun hc202 => ?_) (fun hc202 => ?_)
                · refine o_iconst G37 at_209 (pc' := 210) rfl (v := (0 : Int32)) rfl ?_
                  rw [if_neg hc197, if_neg hc202] at e39
                  subst e39
                  exact K40 _ G37
                · refine o_iconst G37 at_205 (pc' := 206) rfl (v := (1 : Int32)) rfl ?_
                  refine o_goto G37 at_206 (by decide) (pc' := 210) rfl ?_
                  rw [if_neg hc197, if_pos hc202] at e39
                  subst e39
                  exact K40 _ G37
            refine o_if_eq G32 at_183 (by decide) (pcT := 191) (by decide) (pc' := 186) rfl (fun hc183 => ?_) (fun hc183 => ?_)
            · refine o_lconst G32 at_191 (pc' := 192) rfl (v := (0 : Int64)) rfl ?_
              rw [if_pos hc183] at e36
              subst e36
              exact K37 _ G32
            · refine o_lload G32 at_186 (pc' := 188) rfl rfl ?_
              refine o_goto G32 at_188 (by decide) (pc' := 192) rfl ?_
              rw [if_neg hc183] at e36
              subst e36
              exact K37 _ G32
          refine o_if_eq G29 at_159 (by decide) (pcT := 166) (by decide) (pc' := 162) rfl (fun hc159 => ?_) (fun hc159 => ?_)
          · refine o_iconst G29 at_166 (pc' := 167) rfl (v := (0 : Int32)) rfl ?_
            rw [if_pos hc159] at e31
            subst e31
            exact K32 _ G29
          · refine o_iconst G29 at_162 (pc' := 163) rfl (v := (1 : Int32)) rfl ?_
            refine o_goto G29 at_163 (by decide) (pc' := 167) rfl ?_
            rw [if_neg hc159] at e31
            subst e31
            exact K32 _ G29
        refine o_if_eq G26 at_142 (by decide) (pcT := 151) (by decide) (pc' := 145) rfl (fun hc142 => ?_) (fun hc142 => ?_)
        · refine o_ldc2 G26 at_151 (pc' := 154) rfl (hw _ (List.mem_of_getElem? (i := 117) rfl)) ?_
          rw [if_pos hc142] at e28
          subst e28
          exact K29 _ G26
        · refine o_ldc2 G26 at_145 (pc' := 148) rfl (hw _ (List.mem_of_getElem? (i := 5) rfl)) ?_
          refine o_goto G26 at_148 (by decide) (pc' := 154) rfl ?_
          rw [if_neg hc142] at e28
          subst e28
          exact K29 _ G26
      refine o_icmp_lt G24 at_119 (by decide) (pcT := 136) (by decide) (pc' := 122) rfl (fun hc119 => ?_) (fun hc119 => ?_)
      · refine o_iconst G24 at_136 (pc' := 137) rfl (v := (0 : Int32)) rfl ?_
        rw [if_pos hc119] at e25
        subst e25
        exact K26 _ G24
      · refine o_iload G24 at_122 (pc' := 124) rfl rfl ?_
        refine o_iload G24 at_124 (pc' := 126) rfl rfl ?_
        refine o_iload G24 at_126 (pc' := 128) rfl rfl ?_
        obtain ⟨v49, e49⟩ : ∃ z, v14 + v10 = z := ⟨_, rfl⟩
        refine o_iadd G24 at_128 (pc' := 129) rfl e49 ?_
        refine o_icmp_ge G24 at_129 (by decide) (pcT := 136) (by decide) (pc' := 132) rfl (fun hc129 => ?_) (fun hc129 => ?_)
        · refine o_iconst G24 at_136 (pc' := 137) rfl (v := (0 : Int32)) rfl ?_
          subst e49
          rw [if_neg hc119, if_neg hc129] at e25
          subst e25
          exact K26 _ G24
        · refine o_iconst G24 at_132 (pc' := 133) rfl (v := (1 : Int32)) rfl ?_
          refine o_goto G24 at_133 (by decide) (pc' := 137) rfl ?_
          subst e49
          rw [if_neg hc119, if_pos hc129] at e25
          subst e25
          exact K26 _ G24
    refine o_if_lt G13 at_95 (by decide) (pcT := 112) (by decide) (pc' := 98) rfl (fun hc95 => ?_) (fun hc95 => ?_)
    · refine o_lconst G13 at_112 (pc' := 113) rfl (v := (0 : Int64)) rfl ?_
      rw [if_pos hc95] at e23
      subst e23
      exact K24 _ G13
    · refine o_iload G13 at_98 (pc' := 100) rfl rfl ?_
      refine o_bipush G13 at_100 (pc' := 102) rfl (v := (63 : Int32)) rfl ?_
      refine o_icmp_gt G13 at_102 (by decide) (pcT := 112) (by decide) (pc' := 105) rfl (fun hc102 => ?_) (fun hc102 => ?_)
      · refine o_lconst G13 at_112 (pc' := 113) rfl (v := (0 : Int64)) rfl ?_
        rw [if_neg hc95, if_pos hc102] at e23
        subst e23
        exact K24 _ G13
      · refine o_lconst G13 at_105 (pc' := 106) rfl (v := (1 : Int64)) rfl ?_
        refine o_iload G13 at_106 (pc' := 108) rfl rfl ?_
        obtain ⟨v50, e50⟩ : ∃ z, (1 : Int64) <<< (v22 &&& 0x3f).toInt64 = z := ⟨_, rfl⟩
        refine o_lshl G13 at_108 (pc' := 109) rfl e50 ?_
        refine o_goto G13 at_109 (by decide) (pc' := 113) rfl ?_
        subst e50
        rw [if_neg hc95, if_neg hc102] at e23
        subst e23
        exact K24 _ G13
  refine o_icmp_ge G0 at_40 (by decide) (pcT := 47) (by decide) (pc' := 43) rfl (fun hc40 => ?_) (fun hc40 => ?_)
  · refine o_iconst G0 at_47 (pc' := 48) rfl (v := (0 : Int32)) rfl ?_
    rw [if_neg hc40] at e8
    subst e8
    exact K9 _ G0
  · refine o_iconst G0 at_43 (pc' := 44) rfl (v := (1 : Int32)) rfl ?_
    refine o_goto G0 at_44 (by decide) (pc' := 48) rfl ?_
    rw [if_pos hc40] at e8
    subst e8
    exact K9 _ G0
set_option maxRecDepth 65536 in
set_option maxHeartbeats 40000000 in
theorem comes_1 {Post : Tables → Env → Array Value → State → Outcome → State → Prop} (hpost : ∀ tb e args s v u, (limb_1_1.after args s (.returned v) u = true ∧ limb_1_2.after args s (.returned v) u = true ∧ True) → FrameEnd s (.returned v) u (Jvm.fieldLocs frame_1_writes args s ++ Jvm.arrayLocs frame_1_arrays args s ++ Jvm.staticLocs frame_1_statics s) 416 2496 → Post tb e args s (.returned v) u) :
    ArmFor flags0 classFile x code maxLocals ret World_1 tables_1 room_1 Calls_1 rest_1 Pre_1 Post := by
  intro l hfl _ _ p e ha hc hk s m args below hf hA hF happ hP
  obtain ⟨hcalls, hrest, hpre⟩ := hP
  obtain ⟨-, -, -, hnamed, -, -, -, hat⟩ := (Spec.applies_iff hf).mp happ
  obtain ⟨hg, hn⟩ := and_e (Cond.before_iff.mp (show (Jvm.Cond.and given_1 narrow_1).before args s = true from hpre))
  obtain ⟨g1, g2⟩ := and_e hg
  obtain ⟨g3, g4⟩ := and_e g2
  obtain ⟨g5, g6⟩ := and_e g4
  obtain ⟨g7, g8⟩ := and_e g6
  obtain ⟨g9, g10⟩ := and_e g8
  obtain ⟨w0, w1, w2, w3, w4, rfl⟩ : ∃ w0 w1 w2 w3 w4 : Value, args = #[w0, w1, w2, w3, w4] := by
    have hs : args.size = 5 := by simpa [Cond.value, given_1] using g1
    obtain ⟨L⟩ := args
    match L, hs with
    | [w0, w1, w2, w3, w4], _ => exact ⟨w0, w1, w2, w3, w4, rfl⟩
  have hw := fun d (hd : d ∈ tables_1) => atoms_spec (ws := Jvm.Cond.code x code maxLocals ret :: tables_1) hat d (List.mem_cons_of_mem _ hd)
  obtain ⟨i0, ei0⟩ := is_v g3
  obtain rfl : w0 = (.int i0) := Option.some.inj ei0
  obtain ⟨i1, ei1⟩ := is_v g5
  obtain rfl : w1 = (.int i1) := Option.some.inj ei1
  obtain ⟨i2, ei2⟩ := is_v g7
  obtain rfl : w2 = (.int i2) := Option.some.inj ei2
  obtain ⟨i3, ei3⟩ := is_v g9
  obtain rfl : w3 = (.int i3) := Option.some.inj ei3
  obtain ⟨i4, ei4⟩ := isL_v g10
  obtain rfl : w4 = (.long i4) := Option.some.inj ei4
  obtain ⟨n, o, h1, h2, h3, _, L, rfl, ⟨N, _, hv⟩, hq⟩ := rm0 (l := l) (Z := s) hw i0 i1 i2 i3 i4 s.heap s.heap.size (Nat.le_refl _)  tables_1 p e ha hc hk s m _ below hf ((Spec.applies_iff_loose hf).mp happ).1 ⟨rfl, State.Warmed39.refl s, rfl⟩ trivial
  subst hv
  refine ⟨n, _, h1, h2, h3, hpost _ _ _ _ _ _ ⟨Cond.after_iff.mpr rfl, Cond.after_iff.mpr (eq_i res_at (Term.int_eval (1)) rfl), trivial⟩ ⟨hq.1, hq.2.1, (hq.2.2.sift fun y hy => Or.inr (N y hy)).mono (by decide) (by decide)⟩⟩
theorem main_1_1 : Claimed_1_1 := comes_1 fun _ _ _ _ _ _ h hF => ⟨h.1, hF⟩
theorem main_1_2 : Claimed_1_2 := comes_1 fun _ _ _ _ _ _ h hF => ⟨h.2.1, hF⟩
end Jvm.Pilot.@@N@@
namespace Jvm.Pilot.@@N@@
open Jvm Jvm.ClassFile Sem Op Lib Jvm.Free Jvm.Stand Jvm.Pilot.@@N@@.Jvm.D
/-! MADE BY PROGRAM (witnessworld.py) out of the Statement's table words and the real class files: 24 classes; the members and pool entries that the words name. The judged class is class 1, her method 1. -/
namespace start1
open Jvm.ClassFile
def u (s : String) : CpInfo := .utf8 (stringToUtf16 s)
/-- a pool by its gaps: so many unusable entries, then the entry; so many at the end -/
def gap : Nat → List CpInfo → List CpInfo
  | 0, r => r
  | n + 1, r => .unusable :: gap n r
def poolList (es : List (Nat × CpInfo)) (last : Nat) : List CpInfo := es.foldr (fun e r => gap e.1 (e.2 :: r)) (gap last [])
def pool (es : List (Nat × CpInfo)) (last : Nat) : Array CpInfo := ⟨poolList es last⟩
def fileOf (pool : Array CpInfo) (this : Nat) (attrs : Array Attribute := #[]) (ms : Array MethodInfo := #[]) (fl : Nat := 33) (sup : Nat := 0) (ifs : Array Nat := #[]) (fds : Array FieldInfo := #[]) : ClassFile where
  minorVersion := 0
  majorVersion := 65
  constantPool := pool
  accessFlags := fl
  thisClass := this
  superClass := sup
  interfaces := ifs
  fields := fds
  methods := ms
  attributes := attrs
def plain (name : String) (sup : Option ClassId) : Class where
  name := name
  kind := .ordinary
  loader := none
  accessFlags := 33
  super := sup
  interfaces := #[]
  cf := none
  fields := #[]
  methods := #[]
  instanceTypes := #[]
  staticTypes := #[]
  resolved := #[]
  callSites := []
  init := .initialized
  statics := none
  mirror := none

def pool0 : Array CpInfo := pool [(5, u "<init>"), (0, u "()V"), (1, .class_ 10), (1, u "java/lang/Object")] 113

def k0c0 : Code := { maxStack := 0, maxLocals := 1, code := object_method_1_code, exceptionTable := #[], attributes := #[] }
def k0m0 : Method := { name := "<init>", desc := "()V", sig := { parameters := [], returnType := none }, accessFlags := 1, code := some k0c0 }
/-- java/lang/Object -/
def k0 : Class := { plain "java/lang/Object" none with
  accessFlags := 33
  interfaces := #[]
  cf := some (fileOf pool0 8 #[] #[{ accessFlags := 1, nameIndex := 5, descriptorIndex := 6, attributes := #[] }] 33 0 #[] #[])
  fields := #[]
  methods := #[k0m0]
  instanceTypes := #[]
  staticTypes := #[]
  resolved := Array.replicate 124 none
  statics := none }

def pool1 : Array CpInfo := pool [(2, .class_ 4), (1, u "java/lang/Object"), (0, u "<init>"), (0, u "()V"), (0, .integer 2147483647), (0, .methodref 9 10), (0, .class_ 11), (0, .nameAndType 12 13), (0, u "java/lang/Math"), (0, u "min"), (0, u "(II)I"), (0, .long 6148914691236517205), (1, .long 12297829382473034410), (1, .long 18446744073709551615), (1, .class_ 21), (0, u "com/example/pocket_simhash/pocketsimhash/BlockIndex"), (0, .methodref 20 23), (0, .nameAndType 5 24), (0, u "(I)V"), (0, .methodref 20 26), (0, .nameAndType 27 28), (0, u "sharesABlock"), (0, u "(J)Z"), (0, .class_ 30), (0, u "com/example/pocket_simhash/pocketsimhash/BlockIndexSharesABlockPinLaw"), (2, u "law"), (0, u "(IIIIJ)Z")] 3

def k1m0 : Method := { name := "<init>", desc := "()V", sig := { parameters := [], returnType := none }, accessFlags := 1, code := none }
def k1c1 : Code := { maxStack := 7, maxLocals := 28, code := code, exceptionTable := #[], attributes := #[] }
def k1m1 : Method := { name := "law", desc := "(IIIIJ)Z", sig := { parameters := [.int, .int, .int, .int, .long], returnType := some .boolean }, accessFlags := 9, code := some k1c1 }
/-- com/example/pocket_simhash/pocketsimhash/BlockIndexSharesABlockPinLaw -/
def k1 : Class := { plain "com/example/pocket_simhash/pocketsimhash/BlockIndexSharesABlockPinLaw" (some 0) with
  accessFlags := 49
  interfaces := #[]
  cf := some (fileOf pool1 29 #[] #[{ accessFlags := 1, nameIndex := 5, descriptorIndex := 6, attributes := #[] }, { accessFlags := 9, nameIndex := 33, descriptorIndex := 34, attributes := #[] }] 49 2 #[] #[])
  fields := #[]
  methods := #[k1m0, k1m1]
  instanceTypes := #[]
  staticTypes := #[]
  resolved := Array.replicate 38 none
  statics := none }

def pool2 : Array CpInfo := pool [(1, .class_ 2), (0, u "java/lang/Math"), (1, .class_ 6), (1, u "java/lang/Object"), (0, u "<init>"), (0, u "()V"), (89, .class_ 100), (1, u "java/lang/Math$RandomNumberGeneratorHolder"), (71, u "negativeZeroFloatBits"), (0, u "J"), (2, u "negativeZeroDoubleBits"), (24, u "min"), (43, u "$assertionsDisabled"), (0, u "Z"), (88, u "(II)I"), (2, u "twoToTheDoubleScaleDown"), (0, u "D"), (4, u "twoToTheDoubleScaleUp"), (9, u "E"), (3, u "PI"), (2, u "TAU"), (2, u "DEGREES_TO_RADIANS"), (0, u "RADIANS_TO_DEGREES")] 94

def k2m0 : Method := { name := "<init>", desc := "()V", sig := { parameters := [], returnType := none }, accessFlags := 2, code := none }
def k2c1 : Code := { maxStack := 2, maxLocals := 2, code := jdk_29_method_69_code, exceptionTable := #[], attributes := #[] }
def k2m1 : Method := { name := "min", desc := "(II)I", sig := { parameters := [.int, .int], returnType := some .int }, accessFlags := 9, code := some k2c1 }
/-- java/lang/Math -/
def k2 : Class := { plain "java/lang/Math" (some 0) with
  accessFlags := 49
  interfaces := #[]
  cf := some (fileOf pool2 1 #[.nestMembers #[98]] #[{ accessFlags := 2, nameIndex := 7, descriptorIndex := 8, attributes := #[] }, { accessFlags := 9, nameIndex := 201, descriptorIndex := 335, attributes := #[] }] 49 4 #[] #[{ accessFlags := 25, nameIndex := 354, descriptorIndex := 339, attributes := #[] }, { accessFlags := 25, nameIndex := 358, descriptorIndex := 339, attributes := #[] }, { accessFlags := 25, nameIndex := 361, descriptorIndex := 339, attributes := #[] }, { accessFlags := 26, nameIndex := 364, descriptorIndex := 339, attributes := #[] }, { accessFlags := 26, nameIndex := 365, descriptorIndex := 339, attributes := #[] }, { accessFlags := 26, nameIndex := 172, descriptorIndex := 173, attributes := #[] }, { accessFlags := 26, nameIndex := 176, descriptorIndex := 173, attributes := #[] }, { accessFlags := 8, nameIndex := 344, descriptorIndex := 339, attributes := #[] }, { accessFlags := 8, nameIndex := 338, descriptorIndex := 339, attributes := #[] }, { accessFlags := 4120, nameIndex := 245, descriptorIndex := 246, attributes := #[] }])
  fields := #[{ name := "E", type := .double, accessFlags := 25, slot := 0, constantValue := 0 }, { name := "PI", type := .double, accessFlags := 25, slot := 1, constantValue := 0 }, { name := "TAU", type := .double, accessFlags := 25, slot := 2, constantValue := 0 }, { name := "DEGREES_TO_RADIANS", type := .double, accessFlags := 26, slot := 3, constantValue := 0 }, { name := "RADIANS_TO_DEGREES", type := .double, accessFlags := 26, slot := 4, constantValue := 0 }, { name := "negativeZeroFloatBits", type := .long, accessFlags := 26, slot := 5, constantValue := 0 }, { name := "negativeZeroDoubleBits", type := .long, accessFlags := 26, slot := 6, constantValue := 0 }, { name := "twoToTheDoubleScaleUp", type := .double, accessFlags := 8, slot := 7, constantValue := 0 }, { name := "twoToTheDoubleScaleDown", type := .double, accessFlags := 8, slot := 8, constantValue := 0 }, { name := "$assertionsDisabled", type := .boolean, accessFlags := 4120, slot := 9, constantValue := 0 }]
  methods := #[k2m0, k2m1]
  instanceTypes := #[]
  staticTypes := #[.double, .double, .double, .double, .double, .long, .long, .double, .double, .boolean]
  resolved := Array.replicate 460 none
  statics := none }

def pool3 : Array CpInfo := pool [(1, .class_ 2), (0, u "com/example/pocket_simhash/pocketsimhash/BlockIndex"), (2, .methodref 6 7), (0, .class_ 8), (0, .nameAndType 9 10), (0, u "java/lang/Object"), (0, u "<init>"), (0, u "()V"), (0, .class_ 12), (0, u "com/example/pocket_simhash/pocketsimhash/BlockIndex$LongColumn"), (0, .methodref 11 7), (0, .fieldref 1 15), (0, .nameAndType 16 17), (0, u "keys"), (0, u "Lcom/example/pocket_simhash/pocketsimhash/BlockIndex$LongColumn;"), (0, .fieldref 1 19), (0, .nameAndType 20 17), (0, u "fingerprints"), (0, .fieldref 1 22), (0, .nameAndType 23 24), (0, u "capacity"), (0, u "I"), (11, .methodref 37 38), (0, .class_ 39), (0, .nameAndType 40 41), (0, u "com/example/pocket_simhash/pocketsimhash/BlockIndex$Block"), (0, u "cut"), (0, u "(III)[Lcom/example/pocket_simhash/pocketsimhash/BlockIndex$Block;"), (0, .fieldref 1 43), (0, .nameAndType 44 45), (0, u "blocks"), (0, u "[Lcom/example/pocket_simhash/pocketsimhash/BlockIndex$Block;"), (0, .class_ 47), (0, u "com/example/pocket_simhash/pocketsimhash/BlockIndex$Table"), (0, .fieldref 1 49), (0, .nameAndType 50 51), (0, u "tables"), (0, u "[Lcom/example/pocket_simhash/pocketsimhash/BlockIndex$Table;"), (0, .methodref 46 53), (0, .nameAndType 9 54), (0, u "(Lcom/example/pocket_simhash/pocketsimhash/BlockIndex$Block;)V"), (12, u "size"), (7, u "(I)V"), (5, .class_ 82), (0, u "com/example/pocket_simhash/pocketsimhash/BlockIndex$IntColumn"), (47, .class_ 132), (1, u "com/example/pocket_simhash/pocketsimhash/BlockIndex$MatchVisitor"), (2, .class_ 136), (0, u "com/example/pocket_simhash/pocketsimhash/BlockIndex$PairList"), (17, .class_ 156), (1, u "com/example/pocket_simhash/pocketsimhash/BlockIndex$PairVisitor"), (1, .class_ 159), (0, u "com/example/pocket_simhash/pocketsimhash/BlockIndex$BucketSort"), (2, .class_ 163), (0, u "com/example/pocket_simhash/pocketsimhash/BlockIndex$BucketPairs"), (10, u "J"), (0, .fieldref 37 176), (0, .nameAndType 177 174), (0, u "mask"), (8, u "(J)Z"), (30, u "MIN_BLOCKS"), (2, u "MAX_BLOCKS"), (1, u "NONE"), (1, u "FIRST_CAPACITY"), (1, u "PAGE_BITS"), (1, u "PAGE_LENGTH"), (0, u "PAGE_MASK"), (1, u "MAX_ENTRIES"), (0, u "MAX_LENGTH"), (0, u "SPREAD"), (13, u "sharesABlock"), (9, .class_ 258), (0, u "com/example/pocket_simhash/pocketsimhash/BlockIndex$BucketVisitor")] 45

def k3c0 : Code := { maxStack := 6, maxLocals := 3, code := prog_1_method_1_code, exceptionTable := #[], attributes := #[] }
def k3m0 : Method := { name := "<init>", desc := "(I)V", sig := { parameters := [.int], returnType := none }, accessFlags := 1, code := some k3c0 }
def k3c1 : Code := { maxStack := 4, maxLocals := 7, code := prog_1_method_10_code, exceptionTable := #[], attributes := #[] }
def k3m1 : Method := { name := "sharesABlock", desc := "(J)Z", sig := { parameters := [.long], returnType := some .boolean }, accessFlags := 0, code := some k3c1 }
/-- com/example/pocket_simhash/pocketsimhash/BlockIndex -/
def k3 : Class := { plain "com/example/pocket_simhash/pocketsimhash/BlockIndex" (some 0) with
  accessFlags := 33
  interfaces := #[]
  cf := some (fileOf pool3 1 #[.nestMembers #[81, 11, 135, 158, 162, 257, 46, 37, 154, 130]] #[{ accessFlags := 1, nameIndex := 9, descriptorIndex := 75, attributes := #[] }, { accessFlags := 0, nameIndex := 247, descriptorIndex := 186, attributes := #[] }] 33 6 #[] #[{ accessFlags := 25, nameIndex := 217, descriptorIndex := 24, attributes := #[] }, { accessFlags := 25, nameIndex := 220, descriptorIndex := 24, attributes := #[] }, { accessFlags := 26, nameIndex := 222, descriptorIndex := 24, attributes := #[] }, { accessFlags := 26, nameIndex := 224, descriptorIndex := 24, attributes := #[] }, { accessFlags := 26, nameIndex := 226, descriptorIndex := 24, attributes := #[] }, { accessFlags := 26, nameIndex := 228, descriptorIndex := 24, attributes := #[] }, { accessFlags := 26, nameIndex := 229, descriptorIndex := 24, attributes := #[] }, { accessFlags := 26, nameIndex := 231, descriptorIndex := 24, attributes := #[] }, { accessFlags := 26, nameIndex := 232, descriptorIndex := 24, attributes := #[] }, { accessFlags := 26, nameIndex := 233, descriptorIndex := 174, attributes := #[] }, { accessFlags := 18, nameIndex := 44, descriptorIndex := 45, attributes := #[] }, { accessFlags := 18, nameIndex := 50, descriptorIndex := 51, attributes := #[] }, { accessFlags := 18, nameIndex := 16, descriptorIndex := 17, attributes := #[] }, { accessFlags := 18, nameIndex := 20, descriptorIndex := 17, attributes := #[] }, { accessFlags := 2, nameIndex := 67, descriptorIndex := 24, attributes := #[] }, { accessFlags := 2, nameIndex := 23, descriptorIndex := 24, attributes := #[] }])
  fields := #[{ name := "MIN_BLOCKS", type := .int, accessFlags := 25, slot := 0, constantValue := 0 }, { name := "MAX_BLOCKS", type := .int, accessFlags := 25, slot := 1, constantValue := 0 }, { name := "NONE", type := .int, accessFlags := 26, slot := 2, constantValue := 0 }, { name := "FIRST_CAPACITY", type := .int, accessFlags := 26, slot := 3, constantValue := 0 }, { name := "PAGE_BITS", type := .int, accessFlags := 26, slot := 4, constantValue := 0 }, { name := "PAGE_LENGTH", type := .int, accessFlags := 26, slot := 5, constantValue := 0 }, { name := "PAGE_MASK", type := .int, accessFlags := 26, slot := 6, constantValue := 0 }, { name := "MAX_ENTRIES", type := .int, accessFlags := 26, slot := 7, constantValue := 0 }, { name := "MAX_LENGTH", type := .int, accessFlags := 26, slot := 8, constantValue := 0 }, { name := "SPREAD", type := .long, accessFlags := 26, slot := 9, constantValue := 0 }, { name := "blocks", type := (.array (.object "com/example/pocket_simhash/pocketsimhash/BlockIndex$Block")), accessFlags := 18, slot := 0, constantValue := 0 }, { name := "tables", type := (.array (.object "com/example/pocket_simhash/pocketsimhash/BlockIndex$Table")), accessFlags := 18, slot := 1, constantValue := 0 }, { name := "keys", type := (.object "com/example/pocket_simhash/pocketsimhash/BlockIndex$LongColumn"), accessFlags := 18, slot := 2, constantValue := 0 }, { name := "fingerprints", type := (.object "com/example/pocket_simhash/pocketsimhash/BlockIndex$LongColumn"), accessFlags := 18, slot := 3, constantValue := 0 }, { name := "size", type := .int, accessFlags := 2, slot := 4, constantValue := 0 }, { name := "capacity", type := .int, accessFlags := 2, slot := 5, constantValue := 0 }]
  methods := #[k3m0, k3m1]
  instanceTypes := #[(.array (.object "com/example/pocket_simhash/pocketsimhash/BlockIndex$Block")), (.array (.object "com/example/pocket_simhash/pocketsimhash/BlockIndex$Table")), (.object "com/example/pocket_simhash/pocketsimhash/BlockIndex$LongColumn"), (.object "com/example/pocket_simhash/pocketsimhash/BlockIndex$LongColumn"), .int, .int]
  staticTypes := #[.int, .int, .int, .int, .int, .int, .int, .int, .int, .long]
  resolved := (((Array.replicate 304 none).setIfInBounds 11 (some (.cls 4))).setIfInBounds 13 (some (.method ⟨4, 0⟩))).setIfInBounds 175 (some (.field 5 2))
  statics := none }

def pool4 : Array CpInfo := pool [(1, .class_ 2), (0, u "com/example/pocket_simhash/pocketsimhash/BlockIndex"), (0, .methodref 4 5), (0, .class_ 6), (0, .nameAndType 7 8), (0, u "java/lang/Object"), (0, u "<init>"), (0, u "()V"), (0, .class_ 10), (0, u "[J"), (0, .fieldref 12 13), (0, .class_ 14), (0, .nameAndType 15 16), (0, u "com/example/pocket_simhash/pocketsimhash/BlockIndex$LongColumn"), (0, u "pages"), (0, u "[[J")] 29

def k4c0 : Code := { maxStack := 5, maxLocals := 1, code := prog_7_method_1_code, exceptionTable := #[], attributes := #[] }
def k4m0 : Method := { name := "<init>", desc := "()V", sig := { parameters := [], returnType := none }, accessFlags := 2, code := some k4c0 }
/-- com/example/pocket_simhash/pocketsimhash/BlockIndex$LongColumn -/
def k4 : Class := { plain "com/example/pocket_simhash/pocketsimhash/BlockIndex$LongColumn" (some 0) with
  accessFlags := 32
  interfaces := #[]
  cf := some (fileOf pool4 12 #[.nestHost 1] #[{ accessFlags := 2, nameIndex := 7, descriptorIndex := 8, attributes := #[] }] 32 4 #[] #[{ accessFlags := 2, nameIndex := 15, descriptorIndex := 16, attributes := #[] }])
  fields := #[{ name := "pages", type := (.array (.array .long)), accessFlags := 2, slot := 0, constantValue := 0 }]
  methods := #[k4m0]
  instanceTypes := #[(.array (.array .long))]
  staticTypes := #[]
  resolved := Array.replicate 46 none
  statics := none }

def pool5 : Array CpInfo := pool [(1, .methodref 2 3), (0, .class_ 4), (0, .nameAndType 5 6), (0, u "java/lang/Object"), (0, u "<init>"), (0, u "()V"), (0, .fieldref 8 9), (0, .class_ 10), (0, .nameAndType 11 12), (0, u "com/example/pocket_simhash/pocketsimhash/BlockIndex$Block"), (0, u "lowestBit"), (0, u "I"), (0, .fieldref 8 14), (0, .nameAndType 15 12), (0, u "width"), (0, .fieldref 8 17), (0, .nameAndType 18 19), (0, u "valueMask"), (0, u "J"), (0, .methodref 21 22), (0, .class_ 23), (0, .nameAndType 24 25), (0, u "java/lang/Long"), (0, u "rotateLeft"), (0, u "(JI)J"), (0, .fieldref 8 27), (0, .nameAndType 28 19), (0, u "mask"), (0, .fieldref 8 30), (0, .nameAndType 31 12), (0, u "cutLowestBit"), (0, .fieldref 8 33), (0, .nameAndType 34 19), (0, u "earlierLowestBits"), (0, .fieldref 8 36), (0, .nameAndType 37 19), (0, u "earlierHighestBits"), (0, .methodref 8 39), (0, .nameAndType 5 40), (0, u "(IIIJJ)V"), (7, u "cut"), (0, u "(III)[Lcom/example/pocket_simhash/pocketsimhash/BlockIndex$Block;"), (10, .class_ 61), (0, u "com/example/pocket_simhash/pocketsimhash/BlockIndex")] 2

def k5c0 : Code := { maxStack := 5, maxLocals := 8, code := prog_2_method_1_code, exceptionTable := #[], attributes := #[] }
def k5m0 : Method := { name := "<init>", desc := "(IIIJJ)V", sig := { parameters := [.int, .int, .int, .long, .long], returnType := none }, accessFlags := 2, code := some k5c0 }
def k5c1 : Code := { maxStack := 11, maxLocals := 11, code := prog_2_method_2_code, exceptionTable := #[], attributes := #[] }
def k5m1 : Method := { name := "cut", desc := "(III)[Lcom/example/pocket_simhash/pocketsimhash/BlockIndex$Block;", sig := { parameters := [.int, .int, .int], returnType := some (.array (.object "com/example/pocket_simhash/pocketsimhash/BlockIndex$Block")) }, accessFlags := 8, code := some k5c1 }
/-- com/example/pocket_simhash/pocketsimhash/BlockIndex$Block -/
def k5 : Class := { plain "com/example/pocket_simhash/pocketsimhash/BlockIndex$Block" (some 0) with
  accessFlags := 32
  interfaces := #[]
  cf := some (fileOf pool5 8 #[.nestHost 60] #[{ accessFlags := 2, nameIndex := 5, descriptorIndex := 40, attributes := #[] }, { accessFlags := 8, nameIndex := 48, descriptorIndex := 49, attributes := #[] }] 32 2 #[] #[{ accessFlags := 18, nameIndex := 11, descriptorIndex := 12, attributes := #[] }, { accessFlags := 18, nameIndex := 15, descriptorIndex := 12, attributes := #[] }, { accessFlags := 18, nameIndex := 28, descriptorIndex := 19, attributes := #[] }, { accessFlags := 18, nameIndex := 18, descriptorIndex := 19, attributes := #[] }, { accessFlags := 18, nameIndex := 31, descriptorIndex := 12, attributes := #[] }, { accessFlags := 18, nameIndex := 34, descriptorIndex := 19, attributes := #[] }, { accessFlags := 18, nameIndex := 37, descriptorIndex := 19, attributes := #[] }])
  fields := #[{ name := "lowestBit", type := .int, accessFlags := 18, slot := 0, constantValue := 0 }, { name := "width", type := .int, accessFlags := 18, slot := 1, constantValue := 0 }, { name := "mask", type := .long, accessFlags := 18, slot := 2, constantValue := 0 }, { name := "valueMask", type := .long, accessFlags := 18, slot := 3, constantValue := 0 }, { name := "cutLowestBit", type := .int, accessFlags := 18, slot := 4, constantValue := 0 }, { name := "earlierLowestBits", type := .long, accessFlags := 18, slot := 5, constantValue := 0 }, { name := "earlierHighestBits", type := .long, accessFlags := 18, slot := 6, constantValue := 0 }]
  methods := #[k5m0, k5m1]
  instanceTypes := #[.int, .int, .long, .long, .int, .long, .long]
  staticTypes := #[]
  resolved := Array.replicate 64 none
  statics := none }

def pool6 : Array CpInfo := pool [(1, .class_ 2), (0, u "java/io/Serializable"), (0, .class_ 4), (0, u "java/lang/Object")] 2

/-- java/io/Serializable -/
def k6 : Class := { plain "java/io/Serializable" (some 0) with
  accessFlags := 1537
  interfaces := #[]
  cf := some (fileOf pool6 1 #[] #[] 1537 3 #[] #[])
  fields := #[]
  methods := #[]
  instanceTypes := #[]
  staticTypes := #[]
  resolved := Array.replicate 7 none
  statics := none }

def pool7 : Array CpInfo := pool [(2, .class_ 4), (1, u "java/lang/Object"), (0, u "<init>"), (0, u "()V"), (1, .class_ 10), (1, u "java/lang/Number"), (2, .class_ 14), (0, u "java/io/Serializable"), (0, u "serialVersionUID"), (0, u "J")] 20

def k7m0 : Method := { name := "<init>", desc := "()V", sig := { parameters := [], returnType := none }, accessFlags := 1, code := none }
/-- java/lang/Number -/
def k7 : Class := { plain "java/lang/Number" (some 0) with
  accessFlags := 1057
  interfaces := #[6]
  cf := some (fileOf pool7 8 #[] #[{ accessFlags := 1, nameIndex := 5, descriptorIndex := 6, attributes := #[] }] 1057 2 #[13] #[{ accessFlags := 26, nameIndex := 15, descriptorIndex := 16, attributes := #[] }])
  fields := #[{ name := "serialVersionUID", type := .long, accessFlags := 26, slot := 0, constantValue := 0 }]
  methods := #[k7m0]
  instanceTypes := #[]
  staticTypes := #[.long]
  resolved := Array.replicate 37 none
  statics := none }

def pool8 : Array CpInfo := pool [(1, .class_ 2), (0, u "java/lang/Comparable"), (0, .class_ 4), (0, u "java/lang/Object")] 7

/-- java/lang/Comparable -/
def k8 : Class := { plain "java/lang/Comparable" (some 0) with
  accessFlags := 1537
  interfaces := #[]
  cf := some (fileOf pool8 1 #[] #[] 1537 3 #[] #[])
  fields := #[]
  methods := #[]
  instanceTypes := #[]
  staticTypes := #[]
  resolved := Array.replicate 12 none
  statics := none }

def pool9 : Array CpInfo := pool [(1, .class_ 2), (0, u "java/lang/constant/Constable"), (0, .class_ 4), (0, u "java/lang/Object")] 6

/-- java/lang/constant/Constable -/
def k9 : Class := { plain "java/lang/constant/Constable" (some 0) with
  accessFlags := 1537
  interfaces := #[]
  cf := some (fileOf pool9 1 #[] #[] 1537 3 #[] #[])
  fields := #[]
  methods := #[]
  instanceTypes := #[]
  staticTypes := #[]
  resolved := Array.replicate 11 none
  statics := none }

def pool10 : Array CpInfo := pool [(1, .class_ 2), (0, u "java/lang/constant/ConstantDesc"), (0, .class_ 4), (0, u "java/lang/Object")] 32

/-- java/lang/constant/ConstantDesc -/
def k10 : Class := { plain "java/lang/constant/ConstantDesc" (some 0) with
  accessFlags := 1537
  interfaces := #[]
  cf := some (fileOf pool10 1 #[] #[] 1537 3 #[] #[])
  fields := #[]
  methods := #[]
  instanceTypes := #[]
  staticTypes := #[]
  resolved := Array.replicate 37 none
  statics := none }

def pool11 : Array CpInfo := pool [(1, .class_ 2), (0, u "java/lang/Long"), (232, .class_ 237), (1, u "java/lang/Long$LongCache"), (33, .class_ 272), (0, u "java/lang/Number"), (2, u "value"), (0, u "J"), (84, u "TYPE"), (0, u "Ljava/lang/Class;"), (0, .class_ 364), (0, u "java/lang/Comparable"), (0, .class_ 366), (0, u "java/lang/constant/Constable"), (0, .class_ 368), (0, u "java/lang/constant/ConstantDesc"), (0, u "MIN_VALUE"), (1, u "MAX_VALUE"), (4, u "SIZE"), (0, u "I"), (1, u "BYTES"), (1, u "serialVersionUID"), (95, u "rotateLeft"), (0, u "(JI)J")] 45

def k11c0 : Code := { maxStack := 5, maxLocals := 3, code := jdk_35_method_51_code, exceptionTable := #[], attributes := #[] }
def k11m0 : Method := { name := "rotateLeft", desc := "(JI)J", sig := { parameters := [.long, .int], returnType := some .long }, accessFlags := 9, code := some k11c0 }
/-- java/lang/Long -/
def k11 : Class := { plain "java/lang/Long" (some 7) with
  accessFlags := 49
  interfaces := #[8, 9, 10]
  cf := some (fileOf pool11 1 #[.nestMembers #[235]] #[{ accessFlags := 9, nameIndex := 477, descriptorIndex := 478, attributes := #[] }] 49 271 #[363, 365, 367] #[{ accessFlags := 25, nameIndex := 369, descriptorIndex := 276, attributes := #[] }, { accessFlags := 25, nameIndex := 371, descriptorIndex := 276, attributes := #[] }, { accessFlags := 25, nameIndex := 361, descriptorIndex := 362, attributes := #[] }, { accessFlags := 18, nameIndex := 275, descriptorIndex := 276, attributes := #[] }, { accessFlags := 25, nameIndex := 376, descriptorIndex := 377, attributes := #[] }, { accessFlags := 25, nameIndex := 379, descriptorIndex := 377, attributes := #[] }, { accessFlags := 26, nameIndex := 381, descriptorIndex := 276, attributes := #[] }])
  fields := #[{ name := "MIN_VALUE", type := .long, accessFlags := 25, slot := 0, constantValue := 0 }, { name := "MAX_VALUE", type := .long, accessFlags := 25, slot := 1, constantValue := 0 }, { name := "TYPE", type := (.object "java/lang/Class"), accessFlags := 25, slot := 2, constantValue := 0 }, { name := "value", type := .long, accessFlags := 18, slot := 0, constantValue := 0 }, { name := "SIZE", type := .int, accessFlags := 25, slot := 3, constantValue := 0 }, { name := "BYTES", type := .int, accessFlags := 25, slot := 4, constantValue := 0 }, { name := "serialVersionUID", type := .long, accessFlags := 26, slot := 5, constantValue := 0 }]
  methods := #[k11m0]
  instanceTypes := #[.long]
  staticTypes := #[.long, .long, (.object "java/lang/Class"), .int, .int, .long]
  resolved := Array.replicate 524 none
  statics := none }

def pool12 : Array CpInfo := pool [(1, .class_ 2), (0, u "com/example/pocket_simhash/pocketsimhash/BlockIndex"), (0, .methodref 4 5), (0, .class_ 6), (0, .nameAndType 7 8), (0, u "java/lang/Object"), (0, u "<init>"), (0, u "()V"), (0, .class_ 10), (0, u "com/example/pocket_simhash/pocketsimhash/BlockIndex$IntColumn"), (0, .methodref 9 5), (0, .fieldref 13 14), (0, .class_ 15), (0, .nameAndType 16 17), (0, u "com/example/pocket_simhash/pocketsimhash/BlockIndex$Table"), (0, u "earlier"), (0, u "Lcom/example/pocket_simhash/pocketsimhash/BlockIndex$IntColumn;"), (0, .fieldref 13 19), (0, .nameAndType 20 21), (0, u "block"), (0, u "Lcom/example/pocket_simhash/pocketsimhash/BlockIndex$Block;"), (0, .fieldref 23 24), (0, .class_ 25), (0, .nameAndType 26 27), (0, u "com/example/pocket_simhash/pocketsimhash/BlockIndex$Block"), (0, u "width"), (0, u "I"), (0, .methodref 29 30), (0, .class_ 31), (0, .nameAndType 32 33), (0, u "java/lang/Math"), (0, u "min"), (0, u "(II)I"), (0, .fieldref 13 35), (0, .nameAndType 36 27), (0, u "maxBucketBits"), (0, .methodref 13 38), (0, .nameAndType 39 40), (0, u "setBuckets"), (0, u "(I)V"), (4, .fieldref 13 46), (0, .nameAndType 47 27), (0, u "bucketBits"), (4, .fieldref 13 53), (0, .nameAndType 54 55), (0, u "latest"), (0, u "[I"), (10, .methodref 67 68), (0, .class_ 69), (0, .nameAndType 70 71), (0, u "java/util/Arrays"), (0, u "fill"), (0, u "([II)V"), (8, u "FIRST_BUCKET_BITS"), (2, u "MAX_BUCKET_BITS"), (1, u "(Lcom/example/pocket_simhash/pocketsimhash/BlockIndex$Block;)V")] 13

def k12c0 : Code := { maxStack := 3, maxLocals := 2, code := prog_11_method_1_code, exceptionTable := #[], attributes := #[] }
def k12m0 : Method := { name := "<init>", desc := "(Lcom/example/pocket_simhash/pocketsimhash/BlockIndex$Block;)V", sig := { parameters := [(.object "com/example/pocket_simhash/pocketsimhash/BlockIndex$Block")], returnType := none }, accessFlags := 0, code := some k12c0 }
def k12c1 : Code := { maxStack := 3, maxLocals := 2, code := prog_11_method_4_code, exceptionTable := #[], attributes := #[] }
def k12m1 : Method := { name := "setBuckets", desc := "(I)V", sig := { parameters := [.int], returnType := none }, accessFlags := 2, code := some k12c1 }
/-- com/example/pocket_simhash/pocketsimhash/BlockIndex$Table -/
def k12 : Class := { plain "com/example/pocket_simhash/pocketsimhash/BlockIndex$Table" (some 0) with
  accessFlags := 32
  interfaces := #[]
  cf := some (fileOf pool12 13 #[.nestHost 1] #[{ accessFlags := 0, nameIndex := 7, descriptorIndex := 85, attributes := #[] }, { accessFlags := 2, nameIndex := 39, descriptorIndex := 40, attributes := #[] }] 32 4 #[] #[{ accessFlags := 26, nameIndex := 80, descriptorIndex := 27, attributes := #[] }, { accessFlags := 26, nameIndex := 83, descriptorIndex := 27, attributes := #[] }, { accessFlags := 18, nameIndex := 20, descriptorIndex := 21, attributes := #[] }, { accessFlags := 18, nameIndex := 36, descriptorIndex := 27, attributes := #[] }, { accessFlags := 2, nameIndex := 47, descriptorIndex := 27, attributes := #[] }, { accessFlags := 2, nameIndex := 54, descriptorIndex := 55, attributes := #[] }, { accessFlags := 18, nameIndex := 16, descriptorIndex := 17, attributes := #[] }])
  fields := #[{ name := "FIRST_BUCKET_BITS", type := .int, accessFlags := 26, slot := 0, constantValue := 0 }, { name := "MAX_BUCKET_BITS", type := .int, accessFlags := 26, slot := 1, constantValue := 0 }, { name := "block", type := (.object "com/example/pocket_simhash/pocketsimhash/BlockIndex$Block"), accessFlags := 18, slot := 0, constantValue := 0 }, { name := "maxBucketBits", type := .int, accessFlags := 18, slot := 1, constantValue := 0 }, { name := "bucketBits", type := .int, accessFlags := 2, slot := 2, constantValue := 0 }, { name := "latest", type := (.array .int), accessFlags := 2, slot := 3, constantValue := 0 }, { name := "earlier", type := (.object "com/example/pocket_simhash/pocketsimhash/BlockIndex$IntColumn"), accessFlags := 18, slot := 4, constantValue := 0 }]
  methods := #[k12m0, k12m1]
  instanceTypes := #[(.object "com/example/pocket_simhash/pocketsimhash/BlockIndex$Block"), .int, .int, (.array .int), (.object "com/example/pocket_simhash/pocketsimhash/BlockIndex$IntColumn")]
  staticTypes := #[.int, .int]
  resolved := Array.replicate 99 none
  statics := none }

def pool13 : Array CpInfo := pool [(1, .class_ 2), (0, u "com/example/pocket_simhash/pocketsimhash/BlockIndex"), (0, .methodref 4 5), (0, .class_ 6), (0, .nameAndType 7 8), (0, u "java/lang/Object"), (0, u "<init>"), (0, u "()V"), (0, .class_ 10), (0, u "[I"), (0, .fieldref 12 13), (0, .class_ 14), (0, .nameAndType 15 16), (0, u "com/example/pocket_simhash/pocketsimhash/BlockIndex$IntColumn"), (0, u "pages"), (0, u "[[I")] 28

def k13c0 : Code := { maxStack := 5, maxLocals := 1, code := prog_6_method_1_code, exceptionTable := #[], attributes := #[] }
def k13m0 : Method := { name := "<init>", desc := "()V", sig := { parameters := [], returnType := none }, accessFlags := 2, code := some k13c0 }
/-- com/example/pocket_simhash/pocketsimhash/BlockIndex$IntColumn -/
def k13 : Class := { plain "com/example/pocket_simhash/pocketsimhash/BlockIndex$IntColumn" (some 0) with
  accessFlags := 32
  interfaces := #[]
  cf := some (fileOf pool13 12 #[.nestHost 1] #[{ accessFlags := 2, nameIndex := 7, descriptorIndex := 8, attributes := #[] }] 32 4 #[] #[{ accessFlags := 2, nameIndex := 15, descriptorIndex := 16, attributes := #[] }])
  fields := #[{ name := "pages", type := (.array (.array .int)), accessFlags := 2, slot := 0, constantValue := 0 }]
  methods := #[k13m0]
  instanceTypes := #[(.array (.array .int))]
  staticTypes := #[]
  resolved := Array.replicate 45 none
  statics := none }

def pool14 : Array CpInfo := pool [(2, .class_ 4), (1, u "java/lang/Object"), (0, u "<init>"), (0, u "()V"), (7, .class_ 16), (1, u "java/util/Arrays"), (57, .class_ 76), (1, u "java/util/Arrays$NaturalOrder"), (36, .class_ 115), (1, u "java/util/Arrays$LegacyMergeSort"), (1, u "Z"), (257, .class_ 376), (0, u "java/util/Arrays$ArrayList"), (68, u "$assertionsDisabled"), (269, u "MIN_ARRAY_SORT_GRAN"), (0, u "I"), (2, u "INSERTIONSORT_THRESHOLD"), (120, u "fill"), (4, u "([II)V"), (129, .class_ 976), (0, u "java/util/Arrays$ArrayItr")] 52

def k14m0 : Method := { name := "<init>", desc := "()V", sig := { parameters := [], returnType := none }, accessFlags := 2, code := none }
def k14c1 : Code := { maxStack := 3, maxLocals := 4, code := jdk_65_method_103_code, exceptionTable := #[], attributes := #[] }
def k14m1 : Method := { name := "fill", desc := "([II)V", sig := { parameters := [(.array .int), .int], returnType := none }, accessFlags := 9, code := some k14c1 }
/-- java/util/Arrays -/
def k14 : Class := { plain "java/util/Arrays" (some 0) with
  accessFlags := 49
  interfaces := #[]
  cf := some (fileOf pool14 14 #[.nestMembers #[975, 375, 113, 74]] #[{ accessFlags := 2, nameIndex := 5, descriptorIndex := 6, attributes := #[] }, { accessFlags := 9, nameIndex := 840, descriptorIndex := 845, attributes := #[] }] 49 2 #[] #[{ accessFlags := 26, nameIndex := 715, descriptorIndex := 716, attributes := #[] }, { accessFlags := 26, nameIndex := 719, descriptorIndex := 716, attributes := #[] }, { accessFlags := 4120, nameIndex := 445, descriptorIndex := 117, attributes := #[] }])
  fields := #[{ name := "MIN_ARRAY_SORT_GRAN", type := .int, accessFlags := 26, slot := 0, constantValue := 0 }, { name := "INSERTIONSORT_THRESHOLD", type := .int, accessFlags := 26, slot := 1, constantValue := 0 }, { name := "$assertionsDisabled", type := .boolean, accessFlags := 4120, slot := 2, constantValue := 0 }]
  methods := #[k14m0, k14m1]
  instanceTypes := #[]
  staticTypes := #[.int, .int, .boolean]
  resolved := Array.replicate 1029 none
  statics := none }

def pool15 : Array CpInfo := pool [(1, u "java/lang/Cloneable"), (0, .class_ 1), (0, u "java/lang/Object"), (0, .class_ 3)] 3

/-- java/lang/Cloneable -/
def k15 : Class := { plain "java/lang/Cloneable" (some 0) with
  accessFlags := 1537
  interfaces := #[]
  cf := some (fileOf pool15 2 #[] #[] 1537 4 #[] #[])
  fields := #[]
  methods := #[]
  instanceTypes := #[]
  staticTypes := #[]
  resolved := Array.replicate 8 none
  statics := none }

/-- the primitive byte -/
def k16 : Class := { plain "byte" none with kind := .primitive 'B', accessFlags := 0x411 }
/-- [B -/
def k17 : Class := { plain "[B" (some 0) with kind := .array 16 .byte, interfaces := #[15, 6], accessFlags := 1041 }

/-- the primitive int -/
def k18 : Class := { plain "int" none with kind := .primitive 'I', accessFlags := 0x411 }
/-- [I -/
def k19 : Class := { plain "[I" (some 0) with kind := .array 18 .int, interfaces := #[15, 6], accessFlags := 1041 }

/-- the primitive long -/
def k20 : Class := { plain "long" none with kind := .primitive 'J', accessFlags := 0x411 }
/-- [J -/
def k21 : Class := { plain "[J" (some 0) with kind := .array 20 .long, interfaces := #[15, 6], accessFlags := 1041 }

/-- [Lcom/example/pocket_simhash/pocketsimhash/BlockIndex$Block; -/
def k22 : Class := { plain "[Lcom/example/pocket_simhash/pocketsimhash/BlockIndex$Block;" (some 0) with kind := .array 5 (.object "com/example/pocket_simhash/pocketsimhash/BlockIndex$Block"), interfaces := #[15, 6], accessFlags := 1041 }

/-- [Lcom/example/pocket_simhash/pocketsimhash/BlockIndex$Table; -/
def k23 : Class := { plain "[Lcom/example/pocket_simhash/pocketsimhash/BlockIndex$Table;" (some 0) with kind := .array 12 (.object "com/example/pocket_simhash/pocketsimhash/BlockIndex$Table"), interfaces := #[15, 6], accessFlags := 1041 }

def heap : Heap := #[]
def k24 : Class := { plain "[[I" (some 0) with kind := .array 19 (.array .int), interfaces := #[15, 6], accessFlags := 1041 }
def k25 : Class := { plain "[[J" (some 0) with kind := .array 21 (.array .long), interfaces := #[15, 6], accessFlags := 1041 }
def classes : Array Class := #[k0, k1, k2, k3, k4, k5, k6, k7, k8, k9, k10, k11, k12, k13, k14, k15, k16, k17, k18, k19, k20, k21, k22, k23, k24, k25]
def interned : List (Array UInt16 × Addr) := []
def slotsUsed : Nat := 0
def theMethod : MethodId := ⟨1, 1⟩
def args0 : Array Value := #[.int 5, .int 5, .int 5, .int 5, .long 5]
def aboutOver (below : List Frame) : State where
  vm := { classes := classes, interned := interned.toArray }
  heap := heap
  slotsUsed := slotsUsed
  threads := #[{ frames := .invoking theMethod args0 :: below }]
def below0 : List Frame := [.native { method := ⟨0, 0⟩, args := #[] }]
def about1 : State := aboutOver below0
def p0 : Program := .bare "" "" ""
def e0 : Env := launch0.env 0 0 0
theorem w_frames : about1.frames = Frame.invoking theMethod args0 :: below0 := rfl
set_option maxRecDepth 65536 in
theorem w_args : argsFit about1.vm theMethod args0 = true := by decide +kernel
set_option maxRecDepth 65536 in
theorem w_heap : heapFits about1 = true := by decide +kernel
set_option maxRecDepth 65536 in
theorem w_runnable : about1.curStatus? = some .runnable := by decide +kernel
set_option maxRecDepth 65536 in
theorem w_alone : about1.alone = true := by decide +kernel
set_option maxRecDepth 65536 in
theorem w_named : about1.methodNamed? x = some theMethod := by decide +kernel
set_option maxRecDepth 65536 in
theorem w_hears : about1.hears theMethod below0 = true := by decide +kernel
set_option maxRecDepth 65536 in
theorem w_ripe : about1.ripe theMethod args0 below0 = true := by decide +kernel
theorem w_running : about1.status = .running := rfl
set_option maxRecDepth 65536 in
theorem w_room : about1.hasRoom e0.platform room_1 = true :=
  launch0.hasRoom_least _ room_1 (by decide +kernel) (by decide +kernel) (by decide +kernel) (by decide +kernel) (by decide +kernel) (by decide +kernel)
theorem allAtoms_all (ts : List Jvm.Cond) (a : Array Jvm.Value) (st : Jvm.State) : (allAtoms ts).before a st = ts.all (fun c => c.before a st) := by
  induction ts with
  | nil => rfl
  | cons c t ih =>
    show (Jvm.Cond.and c (allAtoms t)).before a st = _
    rw [Jvm.Cond.before_and, ih, List.all_cons]
def words1 : List Jvm.Cond := Jvm.Cond.code x code maxLocals ret :: tables_1
/-- a 'code' word, met by the world's own term for the bytes: nothing is compared byte by byte -/
theorem code_word {y : MethodName} {bytes : ByteArray} {mx : Nat} {rt : Option FieldType} {a : Array Value} {s : State} {m : MethodId} {meth : Method} {c : Code} (h1 : s.methodNamed? y = some m) (h2 : s.vm.method? m = some meth) (h3 : meth.code = some c) (h4 : c.code = bytes)
    (h5 : (c.maxLocals == mx && c.exceptionTable.isEmpty && decide (c.maxStack ≤ mostOperands) && decide (meth.sig.returnType = rt) && !meth.locks && decide (parseMethodDescriptor y.desc = some meth.sig)) = true) : (Jvm.Cond.code y bytes mx rt).before a s = true := by
  simp only [Bool.and_eq_true, beq_iff_eq, Bool.not_eq_true', decide_eq_true_eq] at h5
  obtain ⟨⟨⟨⟨⟨g1, g2⟩, g3⟩, g4⟩, g5⟩, g6⟩ := h5
  simp [Cond.before, Cond.holds, Cond.value, h1, h2, h3, h4, g1, g2, g3, g4, g5, g6]
def isCode : Jvm.Cond → Bool
  | .code _ _ _ _ => true
  | _ => false
theorem all_split {L : List Jvm.Cond} {P : Jvm.Cond → Bool} (h1 : L.all (fun c => isCode c || P c) = true) (h2 : ∀ c ∈ L.filter isCode, P c = true) : L.all P = true := by
  refine List.all_eq_true.mpr fun c hc => ?_
  have h := List.all_eq_true.mp h1 c hc
  rcases Bool.eq_false_or_eq_true (isCode c) with hi | hi
  · exact h2 c (List.mem_filter.mpr ⟨hc, hi⟩)
  · simpa [hi] using h
set_option maxRecDepth 65536 in
theorem w_c0 : (Jvm.Cond.code x code maxLocals ret).before args0 about1 = true := code_word (m := ⟨1, 1⟩) (meth := k1m1) (c := k1c1) (by decide +kernel) rfl rfl rfl (by decide +kernel)
set_option maxRecDepth 65536 in
theorem w_c1 : (Jvm.Cond.code ({ cls := "java/lang/Math", name := "min", desc := "(II)I" } : Jvm.MethodName) jdk_29_method_69_code (2 : Nat) (Option.some Jvm.ClassFile.FieldType.int)).before args0 about1 = true := code_word (m := ⟨2, 1⟩) (meth := k2m1) (c := k2c1) (by decide +kernel) rfl rfl rfl (by decide +kernel)
set_option maxRecDepth 65536 in
theorem w_c2 : (Jvm.Cond.code ({ cls := "com/example/pocket_simhash/pocketsimhash/BlockIndex", name := "<init>", desc := "(I)V" } : Jvm.MethodName) prog_1_method_1_code (3 : Nat) (Option.none : Option Jvm.ClassFile.FieldType)).before args0 about1 = true := code_word (m := ⟨3, 0⟩) (meth := k3m0) (c := k3c0) (by decide +kernel) rfl rfl rfl (by decide +kernel)
set_option maxRecDepth 65536 in
theorem w_c3 : (Jvm.Cond.code ({ cls := "java/lang/Object", name := "<init>", desc := "()V" } : Jvm.MethodName) object_method_1_code (1 : Nat) (Option.none : Option Jvm.ClassFile.FieldType)).before args0 about1 = true := code_word (m := ⟨0, 0⟩) (meth := k0m0) (c := k0c0) (by decide +kernel) rfl rfl rfl (by decide +kernel)
set_option maxRecDepth 65536 in
theorem w_c4 : (Jvm.Cond.code ({ cls := "com/example/pocket_simhash/pocketsimhash/BlockIndex$LongColumn", name := "<init>", desc := "()V" } : Jvm.MethodName) prog_7_method_1_code (1 : Nat) (Option.none : Option Jvm.ClassFile.FieldType)).before args0 about1 = true := code_word (m := ⟨4, 0⟩) (meth := k4m0) (c := k4c0) (by decide +kernel) rfl rfl rfl (by decide +kernel)
set_option maxRecDepth 65536 in
theorem w_c5 : (Jvm.Cond.code ({ cls := "com/example/pocket_simhash/pocketsimhash/BlockIndex$Block", name := "cut", desc := "(III)[Lcom/example/pocket_simhash/pocketsimhash/BlockIndex$Block;" } : Jvm.MethodName) prog_2_method_2_code (11 : Nat) (Option.some (Jvm.ClassFile.FieldType.array (Jvm.ClassFile.FieldType.object "com/example/pocket_simhash/pocketsimhash/BlockIndex$Block")))).before args0 about1 = true := code_word (m := ⟨5, 1⟩) (meth := k5m1) (c := k5c1) (by decide +kernel) rfl rfl rfl (by decide +kernel)
set_option maxRecDepth 65536 in
theorem w_c6 : (Jvm.Cond.code ({ cls := "com/example/pocket_simhash/pocketsimhash/BlockIndex$Block", name := "<init>", desc := "(IIIJJ)V" } : Jvm.MethodName) prog_2_method_1_code (8 : Nat) (Option.none : Option Jvm.ClassFile.FieldType)).before args0 about1 = true := code_word (m := ⟨5, 0⟩) (meth := k5m0) (c := k5c0) (by decide +kernel) rfl rfl rfl (by decide +kernel)
set_option maxRecDepth 65536 in
theorem w_c7 : (Jvm.Cond.code ({ cls := "java/lang/Long", name := "rotateLeft", desc := "(JI)J" } : Jvm.MethodName) jdk_35_method_51_code (3 : Nat) (Option.some Jvm.ClassFile.FieldType.long)).before args0 about1 = true := code_word (m := ⟨11, 0⟩) (meth := k11m0) (c := k11c0) (by decide +kernel) rfl rfl rfl (by decide +kernel)
set_option maxRecDepth 65536 in
theorem w_c8 : (Jvm.Cond.code ({ cls := "com/example/pocket_simhash/pocketsimhash/BlockIndex$Table", name := "<init>", desc := "(Lcom/example/pocket_simhash/pocketsimhash/BlockIndex$Block;)V" } : Jvm.MethodName) prog_11_method_1_code (2 : Nat) (Option.none : Option Jvm.ClassFile.FieldType)).before args0 about1 = true := code_word (m := ⟨12, 0⟩) (meth := k12m0) (c := k12c0) (by decide +kernel) rfl rfl rfl (by decide +kernel)
set_option maxRecDepth 65536 in
theorem w_c9 : (Jvm.Cond.code ({ cls := "com/example/pocket_simhash/pocketsimhash/BlockIndex$IntColumn", name := "<init>", desc := "()V" } : Jvm.MethodName) prog_6_method_1_code (1 : Nat) (Option.none : Option Jvm.ClassFile.FieldType)).before args0 about1 = true := code_word (m := ⟨13, 0⟩) (meth := k13m0) (c := k13c0) (by decide +kernel) rfl rfl rfl (by decide +kernel)
set_option maxRecDepth 65536 in
theorem w_c10 : (Jvm.Cond.code ({ cls := "com/example/pocket_simhash/pocketsimhash/BlockIndex$Table", name := "setBuckets", desc := "(I)V" } : Jvm.MethodName) prog_11_method_4_code (2 : Nat) (Option.none : Option Jvm.ClassFile.FieldType)).before args0 about1 = true := code_word (m := ⟨12, 1⟩) (meth := k12m1) (c := k12c1) (by decide +kernel) rfl rfl rfl (by decide +kernel)
set_option maxRecDepth 65536 in
theorem w_c11 : (Jvm.Cond.code ({ cls := "java/util/Arrays", name := "fill", desc := "([II)V" } : Jvm.MethodName) jdk_65_method_103_code (4 : Nat) (Option.none : Option Jvm.ClassFile.FieldType)).before args0 about1 = true := code_word (m := ⟨14, 1⟩) (meth := k14m1) (c := k14c1) (by decide +kernel) rfl rfl rfl (by decide +kernel)
set_option maxRecDepth 65536 in
theorem w_c12 : (Jvm.Cond.code ({ cls := "com/example/pocket_simhash/pocketsimhash/BlockIndex", name := "sharesABlock", desc := "(J)Z" } : Jvm.MethodName) prog_1_method_10_code (7 : Nat) (Option.some Jvm.ClassFile.FieldType.boolean)).before args0 about1 = true := code_word (m := ⟨3, 1⟩) (meth := k3m1) (c := k3c1) (by decide +kernel) rfl rfl rfl (by decide +kernel)
def codes1 : List Jvm.Cond := [Jvm.Cond.code x code maxLocals ret, Jvm.Cond.code ({ cls := "java/lang/Math", name := "min", desc := "(II)I" } : Jvm.MethodName) jdk_29_method_69_code (2 : Nat) (Option.some Jvm.ClassFile.FieldType.int), Jvm.Cond.code ({ cls := "com/example/pocket_simhash/pocketsimhash/BlockIndex", name := "<init>", desc := "(I)V" } : Jvm.MethodName) prog_1_method_1_code (3 : Nat) (Option.none : Option Jvm.ClassFile.FieldType), Jvm.Cond.code ({ cls := "java/lang/Object", name := "<init>", desc := "()V" } : Jvm.MethodName) object_method_1_code (1 : Nat) (Option.none : Option Jvm.ClassFile.FieldType), Jvm.Cond.code ({ cls := "com/example/pocket_simhash/pocketsimhash/BlockIndex$LongColumn", name := "<init>", desc := "()V" } : Jvm.MethodName) prog_7_method_1_code (1 : Nat) (Option.none : Option Jvm.ClassFile.FieldType), Jvm.Cond.code ({ cls := "com/example/pocket_simhash/pocketsimhash/BlockIndex$Block", name := "cut", desc := "(III)[Lcom/example/pocket_simhash/pocketsimhash/BlockIndex$Block;" } : Jvm.MethodName) prog_2_method_2_code (11 : Nat) (Option.some (Jvm.ClassFile.FieldType.array (Jvm.ClassFile.FieldType.object "com/example/pocket_simhash/pocketsimhash/BlockIndex$Block"))), Jvm.Cond.code ({ cls := "com/example/pocket_simhash/pocketsimhash/BlockIndex$Block", name := "<init>", desc := "(IIIJJ)V" } : Jvm.MethodName) prog_2_method_1_code (8 : Nat) (Option.none : Option Jvm.ClassFile.FieldType), Jvm.Cond.code ({ cls := "java/lang/Long", name := "rotateLeft", desc := "(JI)J" } : Jvm.MethodName) jdk_35_method_51_code (3 : Nat) (Option.some Jvm.ClassFile.FieldType.long), Jvm.Cond.code ({ cls := "com/example/pocket_simhash/pocketsimhash/BlockIndex$Table", name := "<init>", desc := "(Lcom/example/pocket_simhash/pocketsimhash/BlockIndex$Block;)V" } : Jvm.MethodName) prog_11_method_1_code (2 : Nat) (Option.none : Option Jvm.ClassFile.FieldType), Jvm.Cond.code ({ cls := "com/example/pocket_simhash/pocketsimhash/BlockIndex$IntColumn", name := "<init>", desc := "()V" } : Jvm.MethodName) prog_6_method_1_code (1 : Nat) (Option.none : Option Jvm.ClassFile.FieldType), Jvm.Cond.code ({ cls := "com/example/pocket_simhash/pocketsimhash/BlockIndex$Table", name := "setBuckets", desc := "(I)V" } : Jvm.MethodName) prog_11_method_4_code (2 : Nat) (Option.none : Option Jvm.ClassFile.FieldType), Jvm.Cond.code ({ cls := "java/util/Arrays", name := "fill", desc := "([II)V" } : Jvm.MethodName) jdk_65_method_103_code (4 : Nat) (Option.none : Option Jvm.ClassFile.FieldType), Jvm.Cond.code ({ cls := "com/example/pocket_simhash/pocketsimhash/BlockIndex", name := "sharesABlock", desc := "(J)Z" } : Jvm.MethodName) prog_1_method_10_code (7 : Nat) (Option.some Jvm.ClassFile.FieldType.boolean)]
set_option maxRecDepth 65536 in
theorem codes_eq : words1.filter isCode = codes1 := rfl
theorem w_codes : ∀ c ∈ words1.filter isCode, c.before args0 about1 = true := by
  rw [codes_eq]
  intro c hc
  simp only [codes1, List.mem_cons, List.not_mem_nil, or_false] at hc
  rcases hc with rfl | rfl | rfl | rfl | rfl | rfl | rfl | rfl | rfl | rfl | rfl | rfl | rfl
  · exact w_c0
  · exact w_c1
  · exact w_c2
  · exact w_c3
  · exact w_c4
  · exact w_c5
  · exact w_c6
  · exact w_c7
  · exact w_c8
  · exact w_c9
  · exact w_c10
  · exact w_c11
  · exact w_c12
set_option maxRecDepth 65536 in
theorem w_t1 : (words1.take 24).all (fun c => isCode c || c.before args0 about1) = true := by decide +kernel
set_option maxRecDepth 65536 in
theorem w_t2 : ((words1.drop 24).take 24).all (fun c => isCode c || c.before args0 about1) = true := by decide +kernel
set_option maxRecDepth 65536 in
theorem w_t3 : (((words1.drop 24).drop 24).take 24).all (fun c => isCode c || c.before args0 about1) = true := by decide +kernel
set_option maxRecDepth 65536 in
theorem w_t4 : ((((words1.drop 24).drop 24).drop 24).take 24).all (fun c => isCode c || c.before args0 about1) = true := by decide +kernel
set_option maxRecDepth 65536 in
theorem w_t5 : ((((words1.drop 24).drop 24).drop 24).drop 24).all (fun c => isCode c || c.before args0 about1) = true := by decide +kernel
theorem w_tables : (allAtoms (Jvm.Cond.code x code maxLocals ret :: tables_1)).before args0 about1 = true := by
  rw [allAtoms_all]
  show words1.all (fun c => c.before args0 about1) = true
  refine all_split ?_ w_codes
  rw [← List.take_append_drop 24 words1, List.all_append, w_t1, ← List.take_append_drop 24 (words1.drop 24), List.all_append, w_t2, ← List.take_append_drop 24 ((words1.drop 24).drop 24), List.all_append, w_t3, ← List.take_append_drop 24 (((words1.drop 24).drop 24).drop 24), List.all_append, w_t4, w_t5]
  rfl
set_option maxRecDepth 65536 in
theorem w_case : (Jvm.Cond.and given_1 narrow_1).before args0 about1 = true := by decide +kernel
theorem w_applies : (headSpec (Jvm.Cond.code x code maxLocals ret :: tables_1) room_1).applies x e0.platform about1 = true :=
  (Spec.applies_iff w_frames).mpr ⟨w_running, w_runnable, w_alone, w_named, w_hears, w_ripe, w_room, w_tables⟩
theorem atStart : AtStart classFile x code maxLocals ret World_1 tables_1 room_1 Calls_1 rest_1 Pre_1 launch0 p0 e0 about1 theMethod args0 below0 :=
  ⟨lists_1, trivial, launch0.admits_env _ _ _, launch0.least_env, fairChoices_fair.cas, fairChoices_fair.clock, w_frames, w_args, w_heap, w_applies, trivial, trivial, w_case⟩
end start1
theorem witness_1 : WitnessClaimed_1 := ⟨start1.p0, start1.e0, start1.about1, start1.theMethod, start1.args0, start1.below0, start1.atStart⟩
end Jvm.Pilot.@@N@@
