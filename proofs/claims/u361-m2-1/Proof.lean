import JvmDerived
import JvmDerived.Pilot.@@N@@Statement
import JvmDerived.Pilot.@@N@@Code
set_option linter.unusedVariables false
set_option linter.unusedSimpArgs false
namespace Jvm.Pilot.@@N@@
open Jvm Jvm.ClassFile Sem Op Lib Jvm.Free Jvm.Stand Jvm.LawKit Jvm.RoadKit Bundle Jvm.Pilot.@@N@@.Jvm.D
/-! OWN KIT: a small forward machine over the library's Stand: one fact a point of the walk (OAt), one law a step, a contract a method (OCon). -/
abbrev Gx : Type := Launch × State × Array Value × List (String × Nat) × Nat
abbrev Gx.l (G : Gx) : Launch := G.1
abbrev Gx.Z (G : Gx) : State := G.2.1
abbrev Gx.a0 (G : Gx) : Array Value := G.2.2.1
abbrev Gx.EL (G : Gx) : List (String × Nat) := G.2.2.2.1
abbrev Gx.n0 (G : Gx) : Nat := G.2.2.2.2
abbrev Kx : Type := Program × Env × State × MethodId × Array Value × List Frame × Method × Code × State
abbrev Kx.p (K : Kx) : Program := K.1
abbrev Kx.e (K : Kx) : Env := K.2.1
abbrev Kx.s (K : Kx) : State := K.2.2.1
abbrev Kx.m (K : Kx) : MethodId := K.2.2.2.1
abbrev Kx.args (K : Kx) : Array Value := K.2.2.2.2.1
abbrev Kx.below (K : Kx) : List Frame := K.2.2.2.2.2.1
abbrev Kx.meth (K : Kx) : Method := K.2.2.2.2.2.2.1
abbrev Kx.c (K : Kx) : Code := K.2.2.2.2.2.2.2.1
abbrev Kx.s0 (K : Kx) : State := K.2.2.2.2.2.2.2.2
abbrev Mx : Type := ByteArray × String × Option FieldType × String × Nat × Room
abbrev Mx.b (M : Mx) : ByteArray := M.1
abbrev Mx.own (M : Mx) : String := M.2.1
abbrev Mx.rt (M : Mx) : Option FieldType := M.2.2.1
abbrev Mx.nm (M : Mx) : String := M.2.2.2.1
abbrev Mx.ml (M : Mx) : Nat := M.2.2.2.2.1
abbrev Mx.R (M : Mx) : Room := M.2.2.2.2.2
/-- the word w of the sheet holds at the law's start -/
abbrev OW (G : Gx) (w : Jvm.Cond) : Prop := w.before G.a0 G.Z = true
/-- what may be written: it is there, and no literal's cell -/
abbrev OSafe (G : Gx) (vm : Vm) (h : Heap) (x : Addr) : Prop := x < h.size ∧ Safe G.Z ([] : List (String × Nat)) vm h x
def OOk (G : Gx) (K : Kx) (M : Mx) : Prop := K.p.tables.exec = Jvm.exec ∧ K.c.code = M.b ∧ K.meth.sig.returnType = M.rt ∧ K.meth.locks = false ∧ K.meth.name = M.nm ∧ K.c.maxLocals = M.ml ∧ EW G.Z G.a0 ([] : List (String × Nat))
def OAt (G : Gx) (K : Kx) (M : Mx) (A : List Addr) (cs sl : Nat) (h : Heap) (pc : Nat) (L : Array Slot) (S : List Value) : Prop :=
  OOk G K M ∧ ∃ (vm0 : Vm) (k0 : Nat) (T : State) (locs : List Loc), Stand K.p G.l K.e M.R (K.s.setVm vm0) K.m K.args K.below K.meth K.c T locs cs sl ∧ T.heap = h ∧ (vm0 = K.s.vm ∧ K.s.Since vm0 k0) ∧ k0 ≤ h.size ∧ G.Z.Warmed39 (K.s.setVm vm0).vm ∧ (K.s.setVm vm0).vm.findClass M.own = some K.m.cls ∧
    CHr G.Z ([] : List (String × Nat)) K.s.vm K.s.heap vm0 h ∧ (∀ x ∈ A, OSafe G vm0 h x) ∧ Fr G.n0 locs ∧ Old G.Z G.n0 h ∧ Steps K.p.tables K.e K.below K.s0 (T.setTop (mkF K.m pc L S))
/-- the invocation ends: it returns v, and Q v h' sf of the heap then (sf: what may be written) -/
def ODone (G : Gx) (K : Kx) (rm : Room) (Q : Option Value → Heap → (Addr → Prop) → Prop) : Prop :=
  ∃ s₂ o, Steps K.p.tables K.e K.below K.s0 s₂ ∧ s₂.status = .running ∧ Ended s₂ K.below o ∧ ∃ v L, o = .returned v ∧ Q v s₂.heap (OSafe G s₂.vm s₂.heap) ∧ Fr G.n0 L ∧ Old G.Z G.n0 s₂.heap ∧ CHr G.Z ([] : List (String × Nat)) K.s.vm K.s.heap s₂.vm s₂.heap ∧ FrameEnd K.s o s₂ L rm.cells rm.slots
/-- a method's contract: called with the values as over the heap h it returns, and Q -/
def OCon (G : Gx) (y : MethodName) (B : ByteArray) (ml : Nat) (rt : Option FieldType) (ws : List Jvm.Cond) (rm : Room) (as : Array Value) (A : List Addr) (h : Heap) (Q : Option Value → Heap → (Addr → Prop) → Prop) : Prop :=
  MetFree G.l y (head1 (Jvm.Cond.code y B ml rt :: ws) rm) (fun a U => a = as ∧ G.Z.Warmed39 U.vm ∧ U.heap = h ∧ CHv G.Z ([] : List (String × Nat)) U.vm h ∧ (∀ x ∈ A, OSafe G U.vm h x) ∧ Old G.Z G.n0 h) (fun _ _ _ _ _ => True)
    (fun _ U o U' => ∃ v L, o = .returned v ∧ Q v U'.heap (OSafe G U'.vm U'.heap) ∧ Fr G.n0 L ∧ Old G.Z G.n0 U'.heap ∧ CHr G.Z ([] : List (String × Nat)) U.vm U.heap U'.vm U'.heap ∧ FrameEnd U o U' L rm.cells rm.slots)
/-- y's class is no interface, in whatever tables the run has -/
abbrev ONf (G : Gx) (y : MethodName) : Prop := ∀ s : State, G.Z.Warmed39 s.vm → NotFace s y
theorem own_nf {G : Gx} {y : MethodName} {C : String} (w : OW G (Jvm.Cond.selects C y y)) : ONf G y := fun s hZ => notFace_of_selects (args := #[]) (mvT hZ w)
theorem own_nfs {G : Gx} {y : MethodName} {C : String} (w : OW G (Jvm.Cond.superclass y.cls C)) : ONf G y := fun s hZ => nf_super (args := #[]) (mvT hZ w)
section Machine
variable {G : Gx} {K : Kx} {M : Mx} {A : List Addr} {cs sl : Nat} {h : Heap} {pc : Nat} {L : Array Slot} {S : List Value}
/-- the common form of what a step law is handed -/
abbrev OSt (G : Gx) (K : Kx) (M : Mx) (cs sl : Nat) (h : Heap) (vm0 : Vm) (T : State) (locs : List Loc) : Prop := Stand K.p G.l K.e M.R (K.s.setVm vm0) K.m K.args K.below K.meth K.c T locs cs sl
theorem OAt.pure {pc' : Nat} {L' : Array Slot} {S' : List Value} (c : OAt G K M A cs sl h pc L S)
    (f : ∀ vm0 T locs, OSt G K M cs sl h vm0 T locs → T.heap = h → K.p.tables.exec = Jvm.exec → K.c.code = M.b → G.Z.Warmed39 (K.s.setVm vm0).vm → (K.s.setVm vm0).vm.findClass M.own = some K.m.cls → Old G.Z G.n0 h →
      ∃ T', OSt G K M cs sl h vm0 T' locs ∧ T'.heap = h ∧ ∀ target, Steps K.p.tables K.e K.below (T'.setTop (mkF K.m pc' L' S')) target → Steps K.p.tables K.e K.below (T.setTop (mkF K.m pc L S)) target) : OAt G K M A cs sl h pc' L' S' := by
  obtain ⟨ok, vm0, k0, T, locs, X, hT, hS, hk, hZ, hown, hC, hA, hF, hO, st⟩ := c
  obtain ⟨T', X', hT', f'⟩ := f vm0 T locs X hT ok.1 ok.2.1 hZ hown hO
  exact ⟨ok, vm0, k0, T', locs, X', hT', hS, hk, hZ, hown, hC, hA, hF, hO, st.trans (f' _ (Steps.refl _))⟩
theorem OAt.grow {pc' : Nat} {L' : Array Slot} {S' : List Value} {cs' sl' : Nat} {P : Heap → Prop} (c : OAt G K M A cs sl h pc L S)
    (f : ∀ vm0 T locs, OSt G K M cs sl h vm0 T locs → T.heap = h → K.p.tables.exec = Jvm.exec → K.c.code = M.b → G.Z.Warmed39 (K.s.setVm vm0).vm → (K.s.setVm vm0).vm.findClass M.own = some K.m.cls → 
      ∃ T' h', OSt G K M cs' sl' h vm0 T' locs ∧ T'.heap = h' ∧ Ext h h' ∧ h.size < h'.size ∧ P h' ∧ ∀ target, Steps K.p.tables K.e K.below (T'.setTop (mkF K.m pc' L' S')) target → Steps K.p.tables K.e K.below (T.setTop (mkF K.m pc L S)) target) :
    ∃ h', Ext h h' ∧ G.n0 ≤ h.size ∧ P h' ∧ OAt G K M (h.size :: A) cs' sl' h' pc' L' S' := by
  obtain ⟨ok, vm0, k0, T, locs, X, hT, hS, hk, hZ, hown, hC, hA, hF, hO, st⟩ := c
  obtain ⟨T', h', X', hT', E, hlt, hP, f'⟩ := f vm0 T locs X hT ok.1 ok.2.1 hZ hown
  refine ⟨h', E, by rw [← hO.1]; exact hO.2.1, hP, ok, vm0, k0, T', locs, X', hT', hS, Nat.le_trans hk E.1, hZ, hown, hC.trans (CHr.ext E hC.1), fun x hx => ?_, hF, hO.ext E, st.trans (f' _ (Steps.refl _))⟩
  rcases List.mem_cons.mp hx with rfl | hx
  · exact ⟨hlt, Safe.ext E hC.1 (Safe.new (Nat.le_refl _))⟩
  · exact ⟨Nat.lt_of_lt_of_le (hA x hx).1 E.1, Safe.ext E hC.1 (hA x hx).2⟩
theorem OAt.write {pc' : Nat} {L' : Array Slot} {S' : List Value} {a : Addr} {i : Nat} {v : Value} (c : OAt G K M A cs sl h pc L S) (hn : G.n0 ≤ a) (hs : ∀ vm0, G.Z.vm.Alike vm0 → (∀ x ∈ A, OSafe G vm0 h x) → Safe G.Z ([] : List (String × Nat)) vm0 h a)
    (f : ∀ vm0 T locs, OSt G K M cs sl h vm0 T locs → T.heap = h → K.p.tables.exec = Jvm.exec → K.c.code = M.b → G.Z.Warmed39 (K.s.setVm vm0).vm → (K.s.setVm vm0).vm.findClass M.own = some K.m.cls → K.meth.name = M.nm →
      ∃ T' h', OSt G K M cs sl h vm0 T' (locs ++ [⟨a, i⟩]) ∧ T'.heap = h' ∧ Wr h h' a i v ∧ ∀ target, Steps K.p.tables K.e K.below (T'.setTop (mkF K.m pc' L' S')) target → Steps K.p.tables K.e K.below (T.setTop (mkF K.m pc L S)) target) :
    ∃ h', Wr h h' a i v ∧ OAt G K M A cs sl h' pc' L' S' := by
  obtain ⟨ok, vm0, k0, T, locs, X, hT, hS, hk, hZ, hown, hC, hA, hF, hO, st⟩ := c
  obtain ⟨T', h', X', hT', W, f'⟩ := f vm0 T locs X hT ok.1 ok.2.1 hZ hown ok.2.2.2.2.1
  have S' := hs vm0 hZ.alike hA
  refine ⟨h', W, ok, vm0, k0, T', _, X', hT', hS, by rw [W.size]; exact hk, hZ, hown, hC.trans (CHr.wr W S' hC.1), fun x hx => ⟨by rw [W.size]; exact (hA x hx).1, Safe.wr W S' hC.1 (hA x hx).2⟩, hF.app fun y hy => ?_, hO.wr W hn, st.trans (f' _ (Steps.refl _))⟩
  cases List.mem_singleton.mp hy; exact hn
/-- more room may be booked -/
theorem OAt.more {cs' sl' : Nat} (c : OAt G K M A cs sl h pc L S) (h1 : cs ≤ cs') (h2 : sl ≤ sl') : OAt G K M A cs' sl' h pc L S := by
  obtain ⟨ok, vm0, k0, T, locs, X, r⟩ := c
  exact ⟨ok, vm0, k0, T, locs, X.more h1 h2, r⟩
theorem OAt.drop {A' : List Addr} (c : OAt G K M A cs sl h pc L S) (hA : ∀ x ∈ A', x ∈ A) : OAt G K M A' cs sl h pc L S := by
  obtain ⟨ok, vm0, k0, T, locs, X, hT, hS, hk, hZ, hown, hC, hA', r⟩ := c
  exact ⟨ok, vm0, k0, T, locs, X, hT, hS, hk, hZ, hown, hC, fun x hx => hA' x (hA x hx), r⟩
theorem OAt.old (c : OAt G K M A cs sl h pc L S) : Old G.Z G.n0 h := by
  obtain ⟨ok, vm0, k0, T, locs, X, hT, hS, hk, hZ, hown, hC, hA, hF, hO, st⟩ := c
  exact hO
theorem OAt.n0le (c : OAt G K M A cs sl h pc L S) : G.n0 ≤ h.size := by rw [← c.old.1]; exact c.old.2.1
end Machine
section Plain
variable {G : Gx} {K : Kx} {M : Mx} {A : List Addr} {cs sl : Nat} {h : Heap} {pc : Nat} {L : Array Slot}
theorem OAt.iload {S : List Value} {k : Nat} {v : Int32} (c : OAt G K M A cs sl h pc L (S)) (pc' : Nat) (hd : decode M.b pc = .ok (.iload k, 2)) (hl : L[k]? = some (.val (.int v))) (hp : pc + 2 = pc' := by rfl) : OAt G K M A cs sl h pc' L (.int v :: S) := by
  subst hp
  exact c.pure fun vm0 T locs X hT hx hb hZ hown hO => ⟨T, X, hT, fun t r => XS.iload X.here hx rfl (Jvm.hb hb hd) hl r⟩
theorem OAt.iloadN {S : List Value} {k : Fin 4} {v : Int32} (c : OAt G K M A cs sl h pc L (S)) (pc' : Nat) (hd : decode M.b pc = .ok (.iload_n k, 1)) (hl : L[k.val]? = some (.val (.int v))) (hp : pc + 1 = pc' := by rfl) : OAt G K M A cs sl h pc' L (.int v :: S) := by
  subst hp
  exact c.pure fun vm0 T locs X hT hx hb hZ hown hO => ⟨T, X, hT, fun t r => XS.iloadN X.here hx rfl (Jvm.hb hb hd) hl r⟩
theorem OAt.lload {S : List Value} {k : Nat} {v : Int64} (c : OAt G K M A cs sl h pc L (S)) (pc' : Nat) (hd : decode M.b pc = .ok (.lload k, 2)) (hl : L[k]? = some (.val (.long v))) (hp : pc + 2 = pc' := by rfl) : OAt G K M A cs sl h pc' L (.long v :: S) := by
  subst hp
  exact c.pure fun vm0 T locs X hT hx hb hZ hown hO => ⟨T, X, hT, fun t r => Jvm.Free.XT.lload X.here hx rfl (Jvm.hb hb hd) hl r⟩
theorem OAt.lloadN {S : List Value} {k : Fin 4} {v : Int64} (c : OAt G K M A cs sl h pc L (S)) (pc' : Nat) (hd : decode M.b pc = .ok (.lload_n k, 1)) (hl : L[k.val]? = some (.val (.long v))) (hp : pc + 1 = pc' := by rfl) : OAt G K M A cs sl h pc' L (.long v :: S) := by
  subst hp
  exact c.pure fun vm0 T locs X hT hx hb hZ hown hO => ⟨T, X, hT, fun t r => Jvm.Free.XT.lloadN X.here hx rfl (Jvm.hb hb hd) hl r⟩
theorem OAt.aload {S : List Value} {k : Nat} {v : Value} (c : OAt G K M A cs sl h pc L (S)) (pc' : Nat) (hd : decode M.b pc = .ok (.aload k, 2)) (hl : L[k]? = some (.val v)) (hv : v.isRef = true) (hp : pc + 2 = pc' := by rfl) : OAt G K M A cs sl h pc' L (v :: S) := by
  subst hp
  exact c.pure fun vm0 T locs X hT hx hb hZ hown hO => ⟨T, X, hT, fun t r => XS.aload X.here hx rfl (Jvm.hb hb hd) hl hv r⟩
theorem OAt.aloadN {S : List Value} {k : Fin 4} {v : Value} (c : OAt G K M A cs sl h pc L (S)) (pc' : Nat) (hd : decode M.b pc = .ok (.aload_n k, 1)) (hl : L[k.val]? = some (.val v)) (hv : v.isRef = true) (hp : pc + 1 = pc' := by rfl) : OAt G K M A cs sl h pc' L (v :: S) := by
  subst hp
  exact c.pure fun vm0 T locs X hT hx hb hZ hown hO => ⟨T, X, hT, fun t r => XS.aloadN X.here hx rfl (Jvm.hb hb hd) hl hv r⟩
theorem OAt.istore {S : List Value} {k : Nat} {v : Int32} (c : OAt G K M A cs sl h pc L (.int v :: S)) (pc' : Nat) (hd : decode M.b pc = .ok (.istore k, 2)) (L' : Array Slot) (hl : storeLocals L k (.int v) = some L') (hp : pc + 2 = pc' := by rfl) : OAt G K M A cs sl h pc' L' (S) := by
  subst hp
  exact c.pure fun vm0 T locs X hT hx hb hZ hown hO => ⟨T, X, hT, fun t r => XS.istore X.here hx rfl (Jvm.hb hb hd) rfl hl r⟩
theorem OAt.istoreN {S : List Value} {k : Fin 4} {v : Int32} (c : OAt G K M A cs sl h pc L (.int v :: S)) (pc' : Nat) (hd : decode M.b pc = .ok (.istore_n k, 1)) (L' : Array Slot) (hl : storeLocals L k.val (.int v) = some L') (hp : pc + 1 = pc' := by rfl) : OAt G K M A cs sl h pc' L' (S) := by
  subst hp
  exact c.pure fun vm0 T locs X hT hx hb hZ hown hO => ⟨T, X, hT, fun t r => XS.istoreN X.here hx rfl (Jvm.hb hb hd) rfl hl r⟩
theorem OAt.lstore {S : List Value} {k : Nat} {v : Int64} (c : OAt G K M A cs sl h pc L (.long v :: S)) (pc' : Nat) (hd : decode M.b pc = .ok (.lstore k, 2)) (L' : Array Slot) (hl : storeLocals L k (.long v) = some L') (hp : pc + 2 = pc' := by rfl) : OAt G K M A cs sl h pc' L' (S) := by
  subst hp
  exact c.pure fun vm0 T locs X hT hx hb hZ hown hO => ⟨T, X, hT, fun t r => Jvm.Free.XT.lstore X.here hx rfl (Jvm.hb hb hd) rfl hl r⟩
theorem OAt.lstoreN {S : List Value} {k : Fin 4} {v : Int64} (c : OAt G K M A cs sl h pc L (.long v :: S)) (pc' : Nat) (hd : decode M.b pc = .ok (.lstore_n k, 1)) (L' : Array Slot) (hl : storeLocals L k.val (.long v) = some L') (hp : pc + 1 = pc' := by rfl) : OAt G K M A cs sl h pc' L' (S) := by
  subst hp
  exact c.pure fun vm0 T locs X hT hx hb hZ hown hO => ⟨T, X, hT, fun t r => Jvm.Free.XT.lstoreN X.here hx rfl (Jvm.hb hb hd) rfl hl r⟩
theorem OAt.astore {S : List Value} {k : Nat} {v : Value} (c : OAt G K M A cs sl h pc L (v :: S)) (pc' : Nat) (hd : decode M.b pc = .ok (.astore k, 2)) (hv : v.isRef = true) (L' : Array Slot) (hl : storeLocals L k v = some L') (hp : pc + 2 = pc' := by rfl) : OAt G K M A cs sl h pc' L' (S) := by
  subst hp
  exact c.pure fun vm0 T locs X hT hx hb hZ hown hO => ⟨T, X, hT, fun t r => XS.astore X.here hx rfl (Jvm.hb hb hd) rfl hv hl r⟩
theorem OAt.astoreN {S : List Value} {k : Fin 4} {v : Value} (c : OAt G K M A cs sl h pc L (v :: S)) (pc' : Nat) (hd : decode M.b pc = .ok (.astore_n k, 1)) (hv : v.isRef = true) (L' : Array Slot) (hl : storeLocals L k.val v = some L') (hp : pc + 1 = pc' := by rfl) : OAt G K M A cs sl h pc' L' (S) := by
  subst hp
  exact c.pure fun vm0 T locs X hT hx hb hZ hown hO => ⟨T, X, hT, fun t r => XS.astoreN X.here hx rfl (Jvm.hb hb hd) rfl hv hl r⟩
theorem OAt.iconst {S : List Value} {i : Int} (c : OAt G K M A cs sl h pc L (S)) (pc' : Nat) (hd : decode M.b pc = .ok (.iconst i, 1)) (v : Int32) (hv : Int32.ofInt i = v) (hp : pc + 1 = pc' := by rfl) : OAt G K M A cs sl h pc' L (.int v :: S) := by
  subst hp
  exact c.pure fun vm0 T locs X hT hx hb hZ hown hO => ⟨T, X, hT, fun t r => XS.iconst X.here hx rfl (Jvm.hb hb hd) (hv ▸ r)⟩
theorem OAt.bipush {S : List Value} {i : Int} (c : OAt G K M A cs sl h pc L (S)) (pc' : Nat) (hd : decode M.b pc = .ok (.bipush i, 2)) (v : Int32) (hv : (Int8.ofInt i).toInt32 = v) (hp : pc + 2 = pc' := by rfl) : OAt G K M A cs sl h pc' L (.int v :: S) := by
  subst hp
  exact c.pure fun vm0 T locs X hT hx hb hZ hown hO => ⟨T, X, hT, fun t r => XS.bipush X.here hx rfl (Jvm.hb hb hd) (hv ▸ r)⟩
theorem OAt.sipush {S : List Value} {i : Int} (c : OAt G K M A cs sl h pc L (S)) (pc' : Nat) (hd : decode M.b pc = .ok (.sipush i, 3)) (v : Int32) (hv : (Int16.ofInt i).toInt32 = v) (hp : pc + 3 = pc' := by rfl) : OAt G K M A cs sl h pc' L (.int v :: S) := by
  subst hp
  exact c.pure fun vm0 T locs X hT hx hb hZ hown hO => ⟨T, X, hT, fun t r => XS.sipush X.here hx rfl (Jvm.hb hb hd) (hv ▸ r)⟩
theorem OAt.lconst {S : List Value} {i : Fin 2} (c : OAt G K M A cs sl h pc L (S)) (pc' : Nat) (hd : decode M.b pc = .ok (.lconst i, 1)) (v : Int64) (hv : Int64.ofNat i = v) (hp : pc + 1 = pc' := by rfl) : OAt G K M A cs sl h pc' L (.long v :: S) := by
  subst hp
  exact c.pure fun vm0 T locs X hT hx hb hZ hown hO => ⟨T, X, hT, fun t r => Jvm.Free.XT.lconst X.here hx rfl (Jvm.hb hb hd) (hv ▸ r)⟩
theorem OAt.aconstNull {S : List Value}  (c : OAt G K M A cs sl h pc L (S)) (pc' : Nat) (hd : decode M.b pc = .ok (.aconst_null, 1)) (hp : pc + 1 = pc' := by rfl) : OAt G K M A cs sl h pc' L (.null :: S) := by
  subst hp
  exact c.pure fun vm0 T locs X hT hx hb hZ hown hO => ⟨T, X, hT, fun t r => XS.aconstNull X.here hx rfl (Jvm.hb hb hd) r⟩
theorem OAt.iadd {S : List Value} {x y : Int32} (c : OAt G K M A cs sl h pc L (.int y :: .int x :: S)) (pc' : Nat) (hd : decode M.b pc = .ok (.iadd, 1)) (hp : pc + 1 = pc' := by rfl) : OAt G K M A cs sl h pc' L (.int (x + y) :: S) := by
  subst hp
  exact c.pure fun vm0 T locs X hT hx hb hZ hown hO => ⟨T, X, hT, fun t r => XS.iadd X.here hx rfl (Jvm.hb hb hd) rfl r⟩
theorem OAt.isub {S : List Value} {x y : Int32} (c : OAt G K M A cs sl h pc L (.int y :: .int x :: S)) (pc' : Nat) (hd : decode M.b pc = .ok (.isub, 1)) (hp : pc + 1 = pc' := by rfl) : OAt G K M A cs sl h pc' L (.int (x - y) :: S) := by
  subst hp
  exact c.pure fun vm0 T locs X hT hx hb hZ hown hO => ⟨T, X, hT, fun t r => XS.isub X.here hx rfl (Jvm.hb hb hd) rfl r⟩
theorem OAt.imul {S : List Value} {x y : Int32} (c : OAt G K M A cs sl h pc L (.int y :: .int x :: S)) (pc' : Nat) (hd : decode M.b pc = .ok (.imul, 1)) (hp : pc + 1 = pc' := by rfl) : OAt G K M A cs sl h pc' L (.int (x * y) :: S) := by
  subst hp
  exact c.pure fun vm0 T locs X hT hx hb hZ hown hO => ⟨T, X, hT, fun t r => XS.imul X.here hx rfl (Jvm.hb hb hd) rfl r⟩
theorem OAt.iand {S : List Value} {x y : Int32} (c : OAt G K M A cs sl h pc L (.int y :: .int x :: S)) (pc' : Nat) (hd : decode M.b pc = .ok (.iand, 1)) (hp : pc + 1 = pc' := by rfl) : OAt G K M A cs sl h pc' L (.int (x &&& y) :: S) := by
  subst hp
  exact c.pure fun vm0 T locs X hT hx hb hZ hown hO => ⟨T, X, hT, fun t r => XS.iand X.here hx rfl (Jvm.hb hb hd) rfl r⟩
theorem OAt.ior {S : List Value} {x y : Int32} (c : OAt G K M A cs sl h pc L (.int y :: .int x :: S)) (pc' : Nat) (hd : decode M.b pc = .ok (.ior, 1)) (hp : pc + 1 = pc' := by rfl) : OAt G K M A cs sl h pc' L (.int (x ||| y) :: S) := by
  subst hp
  exact c.pure fun vm0 T locs X hT hx hb hZ hown hO => ⟨T, X, hT, fun t r => Jvm.Free.XT.ior X.here hx rfl (Jvm.hb hb hd) rfl r⟩
theorem OAt.ixor {S : List Value} {x y : Int32} (c : OAt G K M A cs sl h pc L (.int y :: .int x :: S)) (pc' : Nat) (hd : decode M.b pc = .ok (.ixor, 1)) (hp : pc + 1 = pc' := by rfl) : OAt G K M A cs sl h pc' L (.int (x ^^^ y) :: S) := by
  subst hp
  exact c.pure fun vm0 T locs X hT hx hb hZ hown hO => ⟨T, X, hT, fun t r => Jvm.Free.XT.ixor X.here hx rfl (Jvm.hb hb hd) rfl r⟩
theorem OAt.ishl {S : List Value} {x y : Int32} (c : OAt G K M A cs sl h pc L (.int y :: .int x :: S)) (pc' : Nat) (hd : decode M.b pc = .ok (.ishl, 1)) (hp : pc + 1 = pc' := by rfl) : OAt G K M A cs sl h pc' L (.int (x <<< (y &&& 31)) :: S) := by
  subst hp
  exact c.pure fun vm0 T locs X hT hx hb hZ hown hO => ⟨T, X, hT, fun t r => Jvm.Free.XT.ishl X.here hx rfl (Jvm.hb hb hd) rfl r⟩
theorem OAt.ishr {S : List Value} {x y : Int32} (c : OAt G K M A cs sl h pc L (.int y :: .int x :: S)) (pc' : Nat) (hd : decode M.b pc = .ok (.ishr, 1)) (hp : pc + 1 = pc' := by rfl) : OAt G K M A cs sl h pc' L (.int (x >>> (y &&& 31)) :: S) := by
  subst hp
  exact c.pure fun vm0 T locs X hT hx hb hZ hown hO => ⟨T, X, hT, fun t r => Jvm.Free.XT.ishr X.here hx rfl (Jvm.hb hb hd) rfl r⟩
theorem OAt.iushr {S : List Value} {x y : Int32} (c : OAt G K M A cs sl h pc L (.int y :: .int x :: S)) (pc' : Nat) (hd : decode M.b pc = .ok (.iushr, 1)) (hp : pc + 1 = pc' := by rfl) : OAt G K M A cs sl h pc' L (.int (Jvm.Free.XT.ushr x y) :: S) := by
  subst hp
  exact c.pure fun vm0 T locs X hT hx hb hZ hown hO => ⟨T, X, hT, fun t r => Jvm.Free.XT.iushr X.here hx rfl (Jvm.hb hb hd) rfl r⟩
theorem OAt.irem {S : List Value} {x y : Int32} (c : OAt G K M A cs sl h pc L (.int y :: .int x :: S)) (pc' : Nat) (hd : decode M.b pc = .ok (.irem, 1)) (hy : y ≠ 0) (hp : pc + 1 = pc' := by rfl) : OAt G K M A cs sl h pc' L (.int (x % y) :: S) := by
  subst hp
  exact c.pure fun vm0 T locs X hT hx hb hZ hown hO => ⟨T, X, hT, fun t r => iremM X hx rfl (Jvm.hb hb hd) rfl hy r⟩
theorem OAt.idiv {S : List Value} {x y : Int32} (c : OAt G K M A cs sl h pc L (.int y :: .int x :: S)) (pc' : Nat) (hd : decode M.b pc = .ok (.idiv, 1)) (hy : y ≠ 0) (hp : pc + 1 = pc' := by rfl) : OAt G K M A cs sl h pc' L (.int (x / y) :: S) := by
  subst hp
  exact c.pure fun vm0 T locs X hT hx hb hZ hown hO => ⟨T, X, hT, fun t r => XS.idiv X.here hx rfl (Jvm.hb hb hd) rfl hy r⟩
theorem OAt.ladd {S : List Value} {x y : Int64} (c : OAt G K M A cs sl h pc L (.long y :: .long x :: S)) (pc' : Nat) (hd : decode M.b pc = .ok (.ladd, 1)) (hp : pc + 1 = pc' := by rfl) : OAt G K M A cs sl h pc' L (.long (x + y) :: S) := by
  subst hp
  exact c.pure fun vm0 T locs X hT hx hb hZ hown hO => ⟨T, X, hT, fun t r => Jvm.Free.XT.ladd X.here hx rfl (Jvm.hb hb hd) rfl r⟩
theorem OAt.lsub {S : List Value} {x y : Int64} (c : OAt G K M A cs sl h pc L (.long y :: .long x :: S)) (pc' : Nat) (hd : decode M.b pc = .ok (.lsub, 1)) (hp : pc + 1 = pc' := by rfl) : OAt G K M A cs sl h pc' L (.long (x - y) :: S) := by
  subst hp
  exact c.pure fun vm0 T locs X hT hx hb hZ hown hO => ⟨T, X, hT, fun t r => Jvm.Free.XT.lsub X.here hx rfl (Jvm.hb hb hd) rfl r⟩
theorem OAt.land {S : List Value} {x y : Int64} (c : OAt G K M A cs sl h pc L (.long y :: .long x :: S)) (pc' : Nat) (hd : decode M.b pc = .ok (.land, 1)) (hp : pc + 1 = pc' := by rfl) : OAt G K M A cs sl h pc' L (.long (x &&& y) :: S) := by
  subst hp
  exact c.pure fun vm0 T locs X hT hx hb hZ hown hO => ⟨T, X, hT, fun t r => Jvm.Free.XT.land X.here hx rfl (Jvm.hb hb hd) rfl r⟩
theorem OAt.lor {S : List Value} {x y : Int64} (c : OAt G K M A cs sl h pc L (.long y :: .long x :: S)) (pc' : Nat) (hd : decode M.b pc = .ok (.lor, 1)) (hp : pc + 1 = pc' := by rfl) : OAt G K M A cs sl h pc' L (.long (x ||| y) :: S) := by
  subst hp
  exact c.pure fun vm0 T locs X hT hx hb hZ hown hO => ⟨T, X, hT, fun t r => Jvm.Free.XT.lor X.here hx rfl (Jvm.hb hb hd) rfl r⟩
theorem OAt.lxor {S : List Value} {x y : Int64} (c : OAt G K M A cs sl h pc L (.long y :: .long x :: S)) (pc' : Nat) (hd : decode M.b pc = .ok (.lxor, 1)) (hp : pc + 1 = pc' := by rfl) : OAt G K M A cs sl h pc' L (.long (x ^^^ y) :: S) := by
  subst hp
  exact c.pure fun vm0 T locs X hT hx hb hZ hown hO => ⟨T, X, hT, fun t r => Jvm.Free.XT.lxor X.here hx rfl (Jvm.hb hb hd) rfl r⟩
theorem OAt.lrem {S : List Value} {x y : Int64} (c : OAt G K M A cs sl h pc L (.long y :: .long x :: S)) (pc' : Nat) (hd : decode M.b pc = .ok (.lrem, 1)) (hy : y ≠ 0) (hp : pc + 1 = pc' := by rfl) : OAt G K M A cs sl h pc' L (.long (x % y) :: S) := by
  subst hp
  exact c.pure fun vm0 T locs X hT hx hb hZ hown hO => ⟨T, X, hT, fun t r => Jvm.Free.XT.lrem X.here hx rfl (Jvm.hb hb hd) rfl hy (by rw [lrem_mod]; exact r)⟩
theorem OAt.lshl {S : List Value} {x : Int64} {y : Int32} (c : OAt G K M A cs sl h pc L (.int y :: .long x :: S)) (pc' : Nat) (hd : decode M.b pc = .ok (.lshl, 1)) (hp : pc + 1 = pc' := by rfl) : OAt G K M A cs sl h pc' L (.long (x <<< (y.toInt64 &&& 63)) :: S) := by
  subst hp
  exact c.pure fun vm0 T locs X hT hx hb hZ hown hO => ⟨T, X, hT, fun t r => Jvm.Free.XT.lshl X.here hx rfl (Jvm.hb hb hd) rfl r⟩
theorem OAt.lshr {S : List Value} {x : Int64} {y : Int32} (c : OAt G K M A cs sl h pc L (.int y :: .long x :: S)) (pc' : Nat) (hd : decode M.b pc = .ok (.lshr, 1)) (hp : pc + 1 = pc' := by rfl) : OAt G K M A cs sl h pc' L (.long (x >>> (y.toInt64 &&& 63)) :: S) := by
  subst hp
  exact c.pure fun vm0 T locs X hT hx hb hZ hown hO => ⟨T, X, hT, fun t r => Jvm.Free.XT.lshr X.here hx rfl (Jvm.hb hb hd) rfl r⟩
theorem OAt.lushr {S : List Value} {x : Int64} {y : Int32} (c : OAt G K M A cs sl h pc L (.int y :: .long x :: S)) (pc' : Nat) (hd : decode M.b pc = .ok (.lushr, 1)) (hp : pc + 1 = pc' := by rfl) : OAt G K M A cs sl h pc' L (.long (Jvm.Free.XT.ushrL x y) :: S) := by
  subst hp
  exact c.pure fun vm0 T locs X hT hx hb hZ hown hO => ⟨T, X, hT, fun t r => Jvm.Free.XT.lushr X.here hx rfl (Jvm.hb hb hd) rfl r⟩
theorem OAt.lcmp {S : List Value} {x y : Int64} (c : OAt G K M A cs sl h pc L (.long y :: .long x :: S)) (pc' : Nat) (hd : decode M.b pc = .ok (.lcmp, 1)) (hp : pc + 1 = pc' := by rfl) : OAt G K M A cs sl h pc' L (.int (Jvm.Free.XT.cmpL x y) :: S) := by
  subst hp
  exact c.pure fun vm0 T locs X hT hx hb hZ hown hO => ⟨T, X, hT, fun t r => Jvm.Free.XT.lcmp X.here hx rfl (Jvm.hb hb hd) rfl r⟩
theorem OAt.i2b {S : List Value} {x : Int32} (c : OAt G K M A cs sl h pc L (.int x :: S)) (pc' : Nat) (hd : decode M.b pc = .ok (.i2b, 1)) (hp : pc + 1 = pc' := by rfl) : OAt G K M A cs sl h pc' L (.int (x.toInt8.toInt32) :: S) := by
  subst hp
  exact c.pure fun vm0 T locs X hT hx hb hZ hown hO => ⟨T, X, hT, fun t r => Jvm.Free.XT.i2b X.here hx rfl (Jvm.hb hb hd) rfl r⟩
theorem OAt.i2c {S : List Value} {x : Int32} (c : OAt G K M A cs sl h pc L (.int x :: S)) (pc' : Nat) (hd : decode M.b pc = .ok (.i2c, 1)) (hp : pc + 1 = pc' := by rfl) : OAt G K M A cs sl h pc' L (.int (x.toUInt32.toUInt16.toUInt32.toInt32) :: S) := by
  subst hp
  exact c.pure fun vm0 T locs X hT hx hb hZ hown hO => ⟨T, X, hT, fun t r => Jvm.Free.XT.i2c X.here hx rfl (Jvm.hb hb hd) rfl r⟩
theorem OAt.i2l {S : List Value} {x : Int32} (c : OAt G K M A cs sl h pc L (.int x :: S)) (pc' : Nat) (hd : decode M.b pc = .ok (.i2l, 1)) (hp : pc + 1 = pc' := by rfl) : OAt G K M A cs sl h pc' L (.long (x.toInt64) :: S) := by
  subst hp
  exact c.pure fun vm0 T locs X hT hx hb hZ hown hO => ⟨T, X, hT, fun t r => Jvm.Free.XT.i2l X.here hx rfl (Jvm.hb hb hd) rfl r⟩
theorem OAt.l2i {S : List Value} {x : Int64} (c : OAt G K M A cs sl h pc L (.long x :: S)) (pc' : Nat) (hd : decode M.b pc = .ok (.l2i, 1)) (hp : pc + 1 = pc' := by rfl) : OAt G K M A cs sl h pc' L (.int (x.toInt32) :: S) := by
  subst hp
  exact c.pure fun vm0 T locs X hT hx hb hZ hown hO => ⟨T, X, hT, fun t r => Jvm.Free.XT.l2i X.here hx rfl (Jvm.hb hb hd) rfl r⟩
theorem OAt.dup {S : List Value} {x : Value} (c : OAt G K M A cs sl h pc L (x :: S)) (pc' : Nat) (hd : decode M.b pc = .ok (.dup, 1)) (hc : x.category = 1) (hp : pc + 1 = pc' := by rfl) : OAt G K M A cs sl h pc' L (x :: x :: S) := by
  subst hp
  exact c.pure fun vm0 T locs X hT hx hb hZ hown hO => ⟨T, X, hT, fun t r => XS.dup X.here hx rfl (Jvm.hb hb hd) rfl hc r⟩
theorem OAt.pop {S : List Value} {x : Value} (c : OAt G K M A cs sl h pc L (x :: S)) (pc' : Nat) (hd : decode M.b pc = .ok (.pop, 1)) (hc : x.category = 1) (hp : pc + 1 = pc' := by rfl) : OAt G K M A cs sl h pc' L (S) := by
  subst hp
  exact c.pure fun vm0 T locs X hT hx hb hZ hown hO => ⟨T, X, hT, fun t r => Jvm.Free.XT.pop X.here hx rfl (Jvm.hb hb hd) rfl hc r⟩
theorem OAt.dupX1 {S : List Value} {x y : Value} (c : OAt G K M A cs sl h pc L (x :: y :: S)) (pc' : Nat) (hd : decode M.b pc = .ok (.dup_x1, 1)) (hc : x.category = 1) (hc' : y.category = 1) (hp : pc + 1 = pc' := by rfl) : OAt G K M A cs sl h pc' L (x :: y :: x :: S) := by
  subst hp
  exact c.pure fun vm0 T locs X hT hx hb hZ hown hO => ⟨T, X, hT, fun t r => Jvm.Free.XT.dupX1 X.here hx rfl (Jvm.hb hb hd) rfl hc hc' r⟩
theorem OAt.dup2 {S : List Value} {x y : Value} (c : OAt G K M A cs sl h pc L (x :: y :: S)) (pc' : Nat) (hd : decode M.b pc = .ok (.dup2, 1)) (hc : x.category = 1) (hc' : y.category = 1) (hp : pc + 1 = pc' := by rfl) : OAt G K M A cs sl h pc' L (x :: y :: x :: y :: S) := by
  subst hp
  exact c.pure fun vm0 T locs X hT hx hb hZ hown hO => ⟨T, X, hT, fun t r => Jvm.Free.XT.dup2 X.here hx rfl (Jvm.hb hb hd) rfl hc hc' r⟩
theorem OAt.iinc {S : List Value} {k : Nat} {i : Int} {x : Int32} (c : OAt G K M A cs sl h pc L S) (pc' : Nat) (hd : decode M.b pc = .ok (.iinc k i, 3)) (hl : L[k]? = some (.val (.int x))) (v : Int32) (hv : x + Int32.ofInt i = v) (L' : Array Slot) (hl' : storeLocals L k (.int v) = some L') (hp : pc + 3 = pc' := by rfl) : OAt G K M A cs sl h pc' L' S := by
  subst hp
  exact c.pure fun vm0 T locs X hT hx hb hZ hown hO => ⟨T, X, hT, fun t r => XS.iinc X.here hx rfl (Jvm.hb hb hd) hl (hv ▸ hl') r⟩
theorem OAt.goto {S : List Value} {o : Int}  (c : OAt G K M A cs sl h pc L (S)) (pc' : Nat) (hd : decode M.b pc = .ok (.goto o, 3)) (ho : 0 ≤ (pc : Int) + o := by decide) (hp : ((pc : Int) + o).toNat = pc' := by rfl) : OAt G K M A cs sl h pc' L S :=
  c.pure fun vm0 T locs X hT hx hb hZ hown hO => ⟨T, X, hT, fun t r => XS.goto X.here hx rfl rfl (Jvm.hb hb hd) ho hp r⟩
theorem OAt.ifT {S : List Value} {o : Int} {cd : ClassFile.Cond} {x : Int32} (c : OAt G K M A cs sl h pc L (.int x :: S)) (pc' : Nat) (hd : decode M.b pc = .ok (.ifCond cd o, 3)) (hc : ifCond.holds cd x = true) (ho : 0 ≤ (pc : Int) + o := by decide) (hp : ((pc : Int) + o).toNat = pc' := by rfl) : OAt G K M A cs sl h pc' L S :=
  c.pure fun vm0 T locs X hT hx hb hZ hown hO => ⟨T, X, hT, fun t r => XS.ifYes X.here hx rfl rfl (Jvm.hb hb hd) rfl hc ho hp r⟩
theorem OAt.icT {S : List Value} {o : Int} {cd : ClassFile.Cond} {x y : Int32} (c : OAt G K M A cs sl h pc L (.int y :: .int x :: S)) (pc' : Nat) (hd : decode M.b pc = .ok (.if_icmp cd o, 3)) (hc : if_icmp.holds cd x y = true) (ho : 0 ≤ (pc : Int) + o := by decide) (hp : ((pc : Int) + o).toNat = pc' := by rfl) : OAt G K M A cs sl h pc' L S :=
  c.pure fun vm0 T locs X hT hx hb hZ hown hO => ⟨T, X, hT, fun t r => XS.icmpYes X.here hx rfl rfl (Jvm.hb hb hd) rfl hc ho hp r⟩
theorem OAt.nullT {S : List Value} {o : Int}  (c : OAt G K M A cs sl h pc L (.null :: S)) (pc' : Nat) (hd : decode M.b pc = .ok (.ifnull o, 3)) (ho : 0 ≤ (pc : Int) + o := by decide) (hp : ((pc : Int) + o).toNat = pc' := by rfl) : OAt G K M A cs sl h pc' L S :=
  c.pure fun vm0 T locs X hT hx hb hZ hown hO => ⟨T, X, hT, fun t r => XS.ifnullYes X.here hx rfl rfl (Jvm.hb hb hd) rfl ho hp r⟩
theorem OAt.nonnullT {S : List Value} {o : Int} {b : Addr} (c : OAt G K M A cs sl h pc L (.ref b :: S)) (pc' : Nat) (hd : decode M.b pc = .ok (.ifnonnull o, 3)) (ho : 0 ≤ (pc : Int) + o := by decide) (hp : ((pc : Int) + o).toNat = pc' := by rfl) : OAt G K M A cs sl h pc' L S :=
  c.pure fun vm0 T locs X hT hx hb hZ hown hO => ⟨T, X, hT, fun t r => Jvm.Free.XT.ifnonnullYes X.here hx rfl rfl (Jvm.hb hb hd) rfl ho hp r⟩
theorem OAt.acT {S : List Value} {o : Int} {cd : ClassFile.ACond} {x y : Value} (c : OAt G K M A cs sl h pc L (y :: x :: S)) (pc' : Nat) (hd : decode M.b pc = .ok (.if_acmp cd o, 3)) (h1 : x.isRef = true) (h2 : y.isRef = true) (hc : Jvm.Free.XT.acmp cd x y = true) (ho : 0 ≤ (pc : Int) + o := by decide) (hp : ((pc : Int) + o).toNat = pc' := by rfl) : OAt G K M A cs sl h pc' L S :=
  c.pure fun vm0 T locs X hT hx hb hZ hown hO => ⟨T, X, hT, fun t r => Jvm.Free.XT.acmpYes X.here hx rfl rfl (Jvm.hb hb hd) rfl h1 h2 hc ho hp r⟩
theorem OAt.ifF {S : List Value} {cd : ClassFile.Cond} {o : Int} {x : Int32} (c : OAt G K M A cs sl h pc L (.int x :: S)) (pc' : Nat) (hd : decode M.b pc = .ok (.ifCond cd o, 3)) (hc : ifCond.holds cd x = false) (hp : pc + 3 = pc' := by rfl) : OAt G K M A cs sl h pc' L (S) := by
  subst hp
  exact c.pure fun vm0 T locs X hT hx hb hZ hown hO => ⟨T, X, hT, fun t r => XS.ifNo X.here hx rfl (Jvm.hb hb hd) rfl hc r⟩
theorem OAt.icF {S : List Value} {cd : ClassFile.Cond} {o : Int} {x y : Int32} (c : OAt G K M A cs sl h pc L (.int y :: .int x :: S)) (pc' : Nat) (hd : decode M.b pc = .ok (.if_icmp cd o, 3)) (hc : if_icmp.holds cd x y = false) (hp : pc + 3 = pc' := by rfl) : OAt G K M A cs sl h pc' L (S) := by
  subst hp
  exact c.pure fun vm0 T locs X hT hx hb hZ hown hO => ⟨T, X, hT, fun t r => XS.icmpNo X.here hx rfl (Jvm.hb hb hd) rfl hc r⟩
theorem OAt.nullF {S : List Value} {o : Int} {b : Addr} (c : OAt G K M A cs sl h pc L (.ref b :: S)) (pc' : Nat) (hd : decode M.b pc = .ok (.ifnull o, 3)) (hp : pc + 3 = pc' := by rfl) : OAt G K M A cs sl h pc' L (S) := by
  subst hp
  exact c.pure fun vm0 T locs X hT hx hb hZ hown hO => ⟨T, X, hT, fun t r => XS.ifnullNo X.here hx rfl (Jvm.hb hb hd) rfl r⟩
theorem OAt.nonnullF {S : List Value} {o : Int} (c : OAt G K M A cs sl h pc L (.null :: S)) (pc' : Nat) (hd : decode M.b pc = .ok (.ifnonnull o, 3)) (hp : pc + 3 = pc' := by rfl) : OAt G K M A cs sl h pc' L (S) := by
  subst hp
  exact c.pure fun vm0 T locs X hT hx hb hZ hown hO => ⟨T, X, hT, fun t r => Jvm.Free.XT.ifnonnullNo X.here hx rfl (Jvm.hb hb hd) rfl r⟩
theorem OAt.acF {S : List Value} {cd : ClassFile.ACond} {o : Int} {x y : Value} (c : OAt G K M A cs sl h pc L (y :: x :: S)) (pc' : Nat) (hd : decode M.b pc = .ok (.if_acmp cd o, 3)) (h1 : x.isRef = true) (h2 : y.isRef = true) (hc : Jvm.Free.XT.acmp cd x y = false) (hp : pc + 3 = pc' := by rfl) : OAt G K M A cs sl h pc' L (S) := by
  subst hp
  exact c.pure fun vm0 T locs X hT hx hb hZ hown hO => ⟨T, X, hT, fun t r => Jvm.Free.XT.acmpNo X.here hx rfl (Jvm.hb hb hd) rfl h1 h2 hc r⟩
theorem OAt.ldcI {S : List Value} {ix : Nat} {v : Int32} (c : OAt G K M A cs sl h pc L (S)) (pc' : Nat) (hd : decode M.b pc = .ok (.ldc ix, 2)) (w : OW G (Jvm.Cond.constant M.own ix v)) (hp : pc + 2 = pc' := by rfl) : OAt G K M A cs sl h pc' L (.int v :: S) := by
  subst hp
  exact c.pure fun vm0 T locs X hT hx hb hZ hown hO => ⟨T, X, hT, fun t r => X.ldcInt hx hown (mvT hZ w) (g := mkF K.m pc L S) rfl (Jvm.hb hb hd) t r⟩
theorem OAt.ldcL {S : List Value} {ix : Nat} {v : Int64} (c : OAt G K M A cs sl h pc L (S)) (pc' : Nat) (hd : decode M.b pc = .ok (.ldc2_w ix, 3)) (w : OW G (Jvm.Cond.constantLong M.own ix v)) (hp : pc + 3 = pc' := by rfl) : OAt G K M A cs sl h pc' L (.long v :: S) := by
  subst hp
  exact c.pure fun vm0 T locs X hT hx hb hZ hown hO => ⟨T, X, hT, fun t r => X.ldc2Long hx hown (mvT hZ w) (g := mkF K.m pc L S) rfl (Jvm.hb hb hd) t r⟩
end Plain
section Arrays
variable {Z : State} {h h' : Heap} {a b : Addr} {ty : FieldType} {vs : List Value}
/-- an array at a of type ty that holds just the values vs -/
def Ary (Z : State) (h : Heap) (a : Addr) (ty : FieldType) (vs : List Value) : Prop := ∃ c : Cell, Arr Z h a c ty ∧ c.slots.toList = vs ∧ vs.length < 2147483648 ∧ ∀ v ∈ vs, fits ty v = true
theorem Ary.lt (F : Ary Z h a ty vs) : a < h.size := by obtain ⟨c, A, -⟩ := F; exact A.lt
theorem Ary.ext (F : Ary Z h a ty vs) (E : Ext h h') : Ary Z h' a ty vs := by obtain ⟨c, A, r⟩ := F; exact ⟨c, A.ext E, r⟩
theorem Ary.keep (F : Ary Z h a ty vs) {ws : List Addr} (K : Keep h h' ws) (q : a ∉ ws) : Ary Z h' a ty vs := by obtain ⟨c, A, r⟩ := F; exact ⟨c, ⟨K.2.1 a c A.1 q, A.2⟩, r⟩
theorem Ary.other (F : Ary Z h b ty vs) {sl : Nat} {v : Value} (W : Wr h h' a sl v) (q : b ≠ a) : Ary Z h' b ty vs := by obtain ⟨c, A, r⟩ := F; exact ⟨c, A.other W q, r⟩
theorem Ary.len (F : Ary Z h a ty vs) : vs.length < 2147483648 := by obtain ⟨c, A, -, r, -⟩ := F; exact r
theorem Ary.set (F : Ary Z h a ty vs) {i : Nat} {v : Value} (W : Wr h h' a i v) (hv : fits ty v = true) : Ary Z h' a ty (vs.set i v) := by
  obtain ⟨c, A, rfl, hl, hf⟩ := F
  refine ⟨c.setSlot i v, A.same W, ?_, by simpa using hl, fun w hw => ?_⟩
  · show (c.slots.setIfInBounds i v).toList = _
    simp
  · rcases List.mem_or_eq_of_mem_set hw with q | rfl
    · exact hf w q
    · exact hv
theorem Ary.arv (F : Ary Z h a ty vs) (d : Value) : ∃ k, Arv Z h a k ty (Int32.ofNat vs.length) vs d := by
  obtain ⟨c, A, rfl, hl, hf⟩ := F
  have e := Int32.toInt_ofNat_small hl
  refine ⟨c.cls, c, A, rfl, ?_, ?_, fun k hk => ?_, fun i hi => ?_⟩
  · simp only [Int32.toNatClampNeg, e]; simp
  · rw [Int32.lt_iff_toInt_lt, e]; show ¬ _ < (0 : Int); omega
  · rw [List.getD_eq_getElem?_getD]; simp [hk]
  · rw [List.getD_eq_getElem?_getD]; simp only [Array.getElem?_toList, Array.getElem?_eq_getElem hi, Option.getD_some]
    exact hf _ (by simp)
theorem Ary.of_arv {k : ClassId} {z : Int32} {d : Value} (F : Arv Z h a k ty z vs d) (hz : z.toNatClampNeg = vs.length) : Ary Z h a ty vs := by
  obtain ⟨c, A, -, hs, hn, H, Gf⟩ := F
  have hlen : c.slots.size = vs.length := hs.trans hz
  have hl : vs.length < 2147483648 := by
    have := z.toInt_lt
    rw [← hz]; simp only [Int32.toNatClampNeg]; omega
  refine ⟨c, A, ?_, hl, fun v hv => ?_⟩
  · apply List.ext_getElem?
    intro i
    by_cases q : i < c.slots.size
    · rw [Array.getElem?_toList, H i q, List.getD_eq_getElem?_getD]
      have : i < vs.length := by omega
      simp [this]
    · rw [List.getElem?_eq_none (by simp; omega), List.getElem?_eq_none (by omega)]
  · obtain ⟨i, hi, rfl⟩ := List.mem_iff_getElem.mp hv
    have := Gf i (by omega)
    simpa [List.getD_eq_getElem?_getD, hi] using this
theorem Ary.new {k : ClassId} {n : Nat} (A : Arr Z h a (newA k ty (Int32.ofNat n)) ty) (hn : n < 2147483648) (hf : fits ty (defaultValue ty) = true) : Ary Z h a ty (List.replicate n (defaultValue ty)) := by
  refine ⟨_, A, ?_, by simpa using hn, fun v hv => by rw [List.eq_of_mem_replicate hv]; exact hf⟩
  have e := Int32.toInt_ofNat_small hn
  simp only [newA, Int32.toNatClampNeg, e]; simp
theorem own_ix {i n : Nat} {j : Int32} (hj : Int32.ofNat i = j) (hi : i < n) (hn : n < 2147483648) : j.toNatClampNeg = i ∧ ¬ (j < 0 ∨ n ≤ j.toNatClampNeg) := by
  subst hj
  have e := Int32.toInt_ofNat_small (show i < 2 ^ 31 by omega)
  have e2 : (Int32.ofNat i).toNatClampNeg = i := by simp only [Int32.toNatClampNeg, e]; simp
  refine ⟨e2, ?_⟩
  rw [e2, Int32.lt_iff_toInt_lt, e]
  show ¬ ((i : Int) < 0 ∨ n ≤ i)
  omega
end Arrays
section HeapSteps
variable {G : Gx} {K : Kx} {M : Mx} {A : List Addr} {cs sl : Nat} {h : Heap} {pc : Nat} {L : Array Slot} {S : List Value}
theorem OAt.getF {O n d R0 : String} {ix : Nat} {a : Addr} {v : Value} (c : OAt G K M A cs sl h pc L (.ref a :: S)) (pc' : Nat) (hd : decode M.b pc = .ok (.getfield ix, 3)) (w : OW G (Jvm.Cond.fieldLink M.own ix R0 n d)) (F : Fld G.Z h a O n d v) (via : Via G.Z R0 O n d := by exact Via.refl) (hp : pc + 3 = pc' := by rfl) : OAt G K M A cs sl h pc' L (v :: S) := by
  subst hp
  exact c.pure fun vm0 T locs X hT hx hb hZ hown hO => Jvm.RoadKit.getF X hx hZ hown (host := "") (Or.inl w) via hT F (g := mkF K.m pc L (.ref a :: S)) rfl rfl (Jvm.hb hb hd)
theorem OAt.getS {O n d R0 : String} {ix : Nat} {v : Value} (c : OAt G K M A cs sl h pc L S) (pc' : Nat) (hd : decode M.b pc = .ok (.getstatic ix, 3)) (w : OW G (Jvm.Cond.fieldLink M.own ix R0 n d)) (F : Sta G.Z G.Z.heap O n d v) (via : Via G.Z R0 O n d := by exact Via.refl) (hp : pc + 3 = pc' := by rfl) : OAt G K M A cs sl h pc' L (v :: S) := by
  subst hp
  exact c.pure fun vm0 T locs X hT hx hb hZ hown hO => Jvm.RoadKit.getS X hx hZ hown (host := "") w via hT (F.ext hO.2) (g := mkF K.m pc L S) rfl (Jvm.hb hb hd)
theorem OAt.cast {C : String} {ix : Nat} {a : Addr} (c : OAt G K M A cs sl h pc L (.ref a :: S)) (pc' : Nat) (hd : decode M.b pc = .ok (.checkcast ix, 3)) (w : OW G (Jvm.Cond.classLink M.own ix C)) (F : Ins G.Z h a C true) (hp : pc + 3 = pc' := by rfl) : OAt G K M A cs sl h pc' L (.ref a :: S) := by
  subst hp
  exact c.pure fun vm0 T locs X hT hx hb hZ hown hO => castY X hx hZ hown w hT F (g := mkF K.m pc L (.ref a :: S)) rfl rfl (Jvm.hb hb hd)
theorem OAt.inst1 {C : String} {ix : Nat} {a : Addr} (c : OAt G K M A cs sl h pc L (.ref a :: S)) (pc' : Nat) (hd : decode M.b pc = .ok (.instanceof ix, 3)) (w : OW G (Jvm.Cond.classLink M.own ix C)) (F : Ins G.Z h a C true) (hp : pc + 3 = pc' := by rfl) : OAt G K M A cs sl h pc' L (.int 1 :: S) := by
  subst hp
  exact c.pure fun vm0 T locs X hT hx hb hZ hown hO => instY X hx hZ hown w hT F (g := mkF K.m pc L (.ref a :: S)) rfl rfl (Jvm.hb hb hd)
theorem OAt.initO {ix : Nat} {a : Addr} {W : Nat} (c : OAt G K M A cs sl h pc L (.ref a :: S)) (pc' : Nat) (hd : decode M.b pc = .ok (.invokespecial ix, 3)) (w1 : OW G (Jvm.Cond.methodLink M.own ix Lib.objectInit)) (w2 : OW G (Jvm.Cond.instanceMethod Lib.objectInit)) (w3 : OW G (Jvm.Cond.code Lib.objectInit object_method_1_code 1 none))
    (hW : (S.map fun v => v.category).sum = W) (hl : W + 12 ≤ M.R.locals) (hf : 1 ≤ M.R.frames) (hL : L.size = M.ml := by rfl) (hp : pc + 3 = pc' := by rfl) : OAt G K M A cs sl h pc' L S := by
  subst hp
  have hml := c.1.2.2.2.2.2.1
  exact c.pure fun vm0 T locs X hT hx hb hZ hown hO => Jvm.RoadKit.initO X hx hZ hown w1 w2 w3 hT (g := mkF K.m pc L (.ref a :: S)) rfl (hL.trans hml.symm) rfl (Jvm.hb hb hd) hf (W := W) (by show 2 * 0 + _ ≤ _; omega) hl
theorem OAt.arrlen {ty : FieldType} {vs : List Value} {a : Addr} (c : OAt G K M A cs sl h pc L (.ref a :: S)) (pc' : Nat) (hd : decode M.b pc = .ok (.arraylength, 1)) (F : Ary G.Z h a ty vs) (n : Int32) (hn : Int32.ofNat vs.length = n) (hp : pc + 1 = pc' := by rfl) : OAt G K M A cs sl h pc' L (.int n :: S) := by
  subst hp
  obtain ⟨cl, Ar, rfl, -⟩ := F
  exact c.pure fun vm0 T locs X hT hx hb hZ hown hO => ⟨T, X, hT, fun t r => X.arraylength hx (by rw [hT]; exact Ar.1) (State.isArrayOf_alike hZ.alike Ar.2.1) (g := mkF K.m pc L (.ref a :: S)) rfl rfl (Jvm.hb hb hd) t (by subst hn; simpa using r)⟩
theorem OAt.caload {vs : List Value} {a : Addr} {j : Int32} (c : OAt G K M A cs sl h pc L (.int j :: .ref a :: S)) (pc' : Nat) (hd : decode M.b pc = .ok (.caload, 1)) (F : Ary G.Z h a .char vs) (i : Nat) (hj : Int32.ofNat i = j) (v : Value) (hv : vs[i]? = some v) (hp : pc + 1 = pc' := by rfl) : OAt G K M A cs sl h pc' L (v :: S) := by
  subst hp
  obtain ⟨cl, Ar, rfl, hl, -⟩ := F
  have hi : i < cl.slots.size := by simpa using (List.getElem?_eq_some_iff.mp hv).1
  obtain ⟨e, q⟩ := own_ix hj hi (by simpa using hl)
  exact c.pure fun vm0 T locs X hT hx hb hZ hown hO => ⟨T, X, hT, fun t r => X.caload hx (by rw [hT]; exact Ar.1) (State.isArrayOf_alike hZ.alike Ar.2.1) Ar.2.2 q (by rw [e]; simpa using hv) (g := mkF K.m pc L (.int j :: .ref a :: S)) rfl rfl (Jvm.hb hb hd) t r⟩
theorem OAt.baload {vs : List Value} {a : Addr} {j : Int32} (c : OAt G K M A cs sl h pc L (.int j :: .ref a :: S)) (pc' : Nat) (hd : decode M.b pc = .ok (.baload, 1)) (F : Ary G.Z h a .byte vs) (i : Nat) (hj : Int32.ofNat i = j) (v : Value) (hv : vs[i]? = some v) (hp : pc + 1 = pc' := by rfl) : OAt G K M A cs sl h pc' L (v :: S) := by
  subst hp
  obtain ⟨cl, Ar, rfl, hl, -⟩ := F
  have hi : i < cl.slots.size := by simpa using (List.getElem?_eq_some_iff.mp hv).1
  obtain ⟨e, q⟩ := own_ix hj hi (by simpa using hl)
  exact c.pure fun vm0 T locs X hT hx hb hZ hown hO => ⟨T, X, hT, fun t r => X.baloadBytes hx (by rw [hT]; exact Ar.1) (State.isArrayOf_alike hZ.alike Ar.2.1) Ar.2.2 q (by rw [e]; simpa using hv) (g := mkF K.m pc L (.int j :: .ref a :: S)) rfl rfl (Jvm.hb hb hd) t r⟩
theorem OAt.aaload {ty : FieldType} {vs : List Value} {a : Addr} {j : Int32} (c : OAt G K M A cs sl h pc L (.int j :: .ref a :: S)) (pc' : Nat) (hd : decode M.b pc = .ok (.aaload, 1)) (F : Ary G.Z h a ty vs) (hty : ty.isReference = true) (i : Nat) (hj : Int32.ofNat i = j) (v : Value) (hv : vs[i]? = some v) (hp : pc + 1 = pc' := by rfl) : OAt G K M A cs sl h pc' L (v :: S) := by
  subst hp
  obtain ⟨cl, Ar, rfl, hl, -⟩ := F
  have hi : i < cl.slots.size := by simpa using (List.getElem?_eq_some_iff.mp hv).1
  obtain ⟨e, q⟩ := own_ix hj hi (by simpa using hl)
  exact c.pure fun vm0 T locs X hT hx hb hZ hown hO => ⟨T, X, hT, fun t r => X.aaload hx (by rw [hT]; exact Ar.1) (State.isArrayOf_alike hZ.alike Ar.2.1) hty Ar.2.2 q (by rw [e]; simpa using hv) (g := mkF K.m pc L (.int j :: .ref a :: S)) rfl rfl (Jvm.hb hb hd) t r⟩
theorem OAt.newO {C : String} {ix n : Nat} (c : OAt G K M A cs sl h pc L S) (pc' : Nat) (hd : decode M.b pc = .ok (.new ix, 3)) (w1 : OW G (Jvm.Cond.classLink M.own ix C)) (w2 : OW G (Jvm.Cond.instantiable C n)) (w3 : OW G (Jvm.Cond.initialized C)) (hc : cs + 1 ≤ M.R.cells) (hl : sl + n ≤ M.R.slots) (hp : pc + 3 = pc' := by rfl) :
    ∃ (a : Addr) (h' : Heap), a = h.size ∧ Ext h h' ∧ G.n0 ≤ a ∧ Exa G.Z h' a C ∧ (∀ {O nm d : String} {ty : FieldType}, Laid G.Z G.a0 C O nm d → parseFieldDescriptor d = some ty → Fld G.Z h' a O nm d (defaultValue ty)) ∧ Unt h' a ∧ OAt G K M (a :: A) (cs + 1) (sl + n) h' pc' L (.ref a :: S) := by
  subst hp
  obtain ⟨h', E, hn, ⟨hE, hF, hU⟩, c'⟩ := c.grow (pc' := pc + 3) (L' := L) (S' := .ref h.size :: S) (cs' := cs + 1) (sl' := sl + n) (P := fun h' => Exa G.Z h' h.size C ∧ (∀ {O nm d : String} {ty : FieldType}, Laid G.Z G.a0 C O nm d → parseFieldDescriptor d = some ty → Fld G.Z h' h.size O nm d (defaultValue ty)) ∧ Unt h' h.size)
    fun vm0 T locs X hT hx hb hZ hown => by
      obtain ⟨T', h', X', e', E', Ex, Fl, U, st⟩ := Jvm.RoadKit.newO X hx hZ hown w1 w2 w3 hT (g := mkF K.m pc L S) rfl (Jvm.hb hb hd) hc hl
      exact ⟨T', h', X', e', E', Ex.lt, ⟨Ex, Fl, U⟩, st⟩
  exact ⟨h.size, h', rfl, E, hn, hE, hF, hU, c'⟩
theorem OAt.newarr {aty : ArrayType} {n : Int32} (c : OAt G K M A cs sl h pc L (.int n :: S)) (pc' : Nat) (hd : decode M.b pc = .ok (.newarray aty, 2)) (ty : FieldType) (hty : newarray.typeOf aty = ty) (w : OW G (Jvm.Cond.arrayClass ty)) (k : Nat) (hn : Int32.ofNat k = n) (cap : Nat) (hk : k ≤ cap) (hb : cap * 8 ≤ 536870912) (hc : cs + 1 ≤ M.R.cells) (hl : sl + cap ≤ M.R.slots) (hp : pc + 2 = pc' := by rfl) :
    ∃ (a : Addr) (h' : Heap), a = h.size ∧ Ext h h' ∧ G.n0 ≤ a ∧ Ary G.Z h' a ty (List.replicate k (defaultValue ty)) ∧ OAt G K M (a :: A) (cs + 1) (sl + cap) h' pc' L (.ref a :: S) := by
  subst hp hty hn
  have hk31 : k < 2147483648 := by omega
  have e := Int32.toInt_ofNat_small (show k < 2 ^ 31 by omega)
  have e2 : (Int32.ofNat k).toNatClampNeg = k := by simp only [Int32.toNatClampNeg, e]; simp
  obtain ⟨h', E, hn, hA, c'⟩ := c.grow (pc' := pc + 2) (L' := L) (S' := .ref h.size :: S) (cs' := cs + 1) (sl' := sl + cap) (P := fun h' => Ary G.Z h' h.size (newarray.typeOf aty) (List.replicate k (defaultValue (newarray.typeOf aty))))
    fun vm0 T locs X hT hx hbb hZ hown => by
      obtain ⟨T', h', cA, X', e', E', Ar, st⟩ := newP X hx hZ w hT (g := mkF K.m pc L (.int (Int32.ofNat k) :: S)) rfl (Jvm.hb hbb hd) rfl (by rw [Int32.lt_iff_toInt_lt, e]; show ¬ (k : Int) < 0; omega) (cap := cap) (by omega) hb hc hl
      exact ⟨T', h', X', e', E', Ar.lt, Ary.new Ar hk31 (by cases aty <;> rfl), st⟩
  exact ⟨h.size, h', rfl, E, hn, hA, c'⟩
theorem OAt.castore {vs : List Value} {a : Addr} {j x : Int32} (c : OAt G K M A cs sl h pc L (.int x :: .int j :: .ref a :: S)) (pc' : Nat) (hd : decode M.b pc = .ok (.castore, 1)) (F : Ary G.Z h a .char vs) (i : Nat) (hj : Int32.ofNat i = j) (hi : i < vs.length) (hn : G.n0 ≤ a) (y : Int32) (hy : nar .char x = y) (hp : pc + 1 = pc' := by rfl) :
    ∃ h', Wr h h' a i (.int y) ∧ Ary G.Z h' a .char (vs.set i (.int y)) ∧ OAt G K M A cs sl h' pc' L S := by
  subst hp hy
  have F' := F
  obtain ⟨cl, Ar, rfl, hl, -⟩ := F
  obtain ⟨e, q⟩ := own_ix hj (by simpa using hi) (by simpa using hl)
  obtain ⟨h', W, c'⟩ := c.write (pc' := pc + 1) (L' := L) (S' := S) (a := a) (i := i) (v := .int (nar .char x)) hn (fun vm0 hal _ => Safe.arr hal Ar (by decide))
    fun vm0 T locs X hT hx hb hZ hown hnm => by
      have st := stC X hx hZ hT Ar q (g := mkF K.m pc L (.int x :: .int j :: .ref a :: S)) rfl rfl (Jvm.hb hb hd)
      rw [e] at st
      exact st
  exact ⟨h', W, F'.set W (fits_nar_char x), c'⟩
theorem OAt.bastore {vs : List Value} {a : Addr} {j x : Int32} (c : OAt G K M A cs sl h pc L (.int x :: .int j :: .ref a :: S)) (pc' : Nat) (hd : decode M.b pc = .ok (.bastore, 1)) (F : Ary G.Z h a .byte vs) (i : Nat) (hj : Int32.ofNat i = j) (hi : i < vs.length) (hn : G.n0 ≤ a) (hA : a ∈ A) (y : Int32) (hy : nar .byte x = y) (hp : pc + 1 = pc' := by rfl) :
    ∃ h', Wr h h' a i (.int y) ∧ Ary G.Z h' a .byte (vs.set i (.int y)) ∧ OAt G K M A cs sl h' pc' L S := by
  subst hp hy
  have F' := F
  obtain ⟨cl, Ar, rfl, hl, -⟩ := F
  obtain ⟨e, q⟩ := own_ix hj (by simpa using hi) (by simpa using hl)
  obtain ⟨h', W, c'⟩ := c.write (pc' := pc + 1) (L' := L) (S' := S) (a := a) (i := i) (v := .int (nar .byte x)) hn (fun vm0 hal hs => (hs a hA).2)
    fun vm0 T locs X hT hx hb hZ hown hnm => by
      have st := stB X hx hZ hT Ar q (g := mkF K.m pc L (.int x :: .int j :: .ref a :: S)) rfl rfl (Jvm.hb hb hd)
      rw [e] at st
      exact st
  exact ⟨h', W, F'.set W (fits_nar_byte x), c'⟩
theorem OAt.putF {O n d R0 C : String} {ix kk : Nat} {ty : FieldType} {a : Addr} {v old : Value} (c : OAt G K M A cs sl h pc L (v :: .ref a :: S)) (pc' : Nat) (hd : decode M.b pc = .ok (.putfield ix, 3)) (w : OW G (Jvm.Cond.fieldLink M.own ix R0 n d)) (F : Fld G.Z h a O n d old) (E : Exa G.Z h a C)
    (wl : OW G (Jvm.Cond.lays C O n d) ∨ (OW G (Jvm.Cond.laysFinal C O n d) ∧ M.own = O ∧ M.nm = "<init>")) (wi : OW G (Jvm.Cond.instantiable C kk)) (hty : parseFieldDescriptor d = some ty) (hn : narrow ty v = v) (hf : fits ty v = true) (h0 : G.n0 ≤ a) (hA : a ∈ A ∨ (C ≠ "java/lang/String" ∧ C ≠ "[B")) (via : Via G.Z R0 O n d := by exact Via.refl) (hp : pc + 3 = pc' := by rfl) :
    ∃ h', Wr h h' a (Jvm.RoadKit.slotOf G.Z O n d) v ∧ OAt G K M A cs sl h' pc' L S := by
  subst hp
  exact c.write h0 (fun vm0 hal hs => hA.elim (fun q => (hs a q).2) (fun q => Safe.exa hal E q.1 q.2))
    fun vm0 T locs X hT hx hb hZ hown hnm => Jvm.RoadKit.putF X hx hZ hown (host := "") (Or.inl w) via hT F E (wl.imp id (fun q => ⟨q.1, q.2.1, hnm.trans q.2.2⟩)) wi hty hn hf (g := mkF K.m pc L (v :: .ref a :: S)) rfl rfl (Jvm.hb hb hd)
end HeapSteps
section Calls
variable {G : Gx} {K : Kx} {M : Mx} {A : List Addr} {cs sl : Nat} {h : Heap} {pc : Nat} {L : Array Slot} {S : List Value}
theorem own_safe0 {Z : State} {vm : Vm} {h : Heap} {x : Addr} : Safe Z [] vm h x := fun ⟨p, hp, _⟩ => (by cases hp)
theorem own_chr0 {Z : State} {vm vm1 : Vm} {h h' : Heap} (q : h.size ≤ h'.size) : CHr Z [] vm h vm1 h' := ⟨fun p hp => (by cases hp), q, fun y ⟨p, hp, _⟩ => (by cases hp)⟩
/-- a contract, as the payer of a call -/
theorem OCon.payer {y : MethodName} {B : ByteArray} {ml : Nat} {rt : Option FieldType} {rm : Room} {as : Array Value} {A' : List Addr} {Q : Option Value → Heap → (Addr → Prop) → Prop} {p : Program} {e : Env} {R : Room} {s : State} {args : Array Value} {below : List Frame} {len W : Nat}
    (hC : OCon G y B ml rt [] rm as A' h Q) (hZ : G.Z.Warmed39 s.vm) (wc : OW G (Jvm.Cond.code y B ml rt)) (wz : OW G (Jvm.Cond.initialized y.cls)) (hf : rm.frames + 1 ≤ R.frames) (hl : W + (ml + 11) + rm.locals ≤ R.locals) (hA : ∀ x ∈ A', x < h.size) (hO : Old G.Z G.n0 h) :
    Back G.l R p e below s args y len W (fun P a => a = as ∧ P.U.heap = h ∧ P.cells + rm.cells ≤ R.cells ∧ P.slots + rm.slots ≤ R.slots)
      (fun P _ v P' => ∃ L', Q v P'.U.heap (OSafe G P'.U.vm P'.U.heap) ∧ Fr G.n0 L' ∧ Old G.Z G.n0 P'.U.heap ∧ P'.locs = P.locs ++ L' ∧ P'.cells = P.cells + rm.cells ∧ P'.slots = P.slots + rm.slots ∧ h.size ≤ P'.U.heap.size) :=
  Back.of_free (bytes := B) (maxL := ml) (ret := rt) (E := fun _ first o t L' k n => k = rm.cells ∧ n = rm.slots ∧ (∃ v, o = .returned v ∧ Q v t.heap (OSafe G t.vm t.heap)) ∧ Fr G.n0 L' ∧ Old G.Z G.n0 t.heap ∧ first.heap.size ≤ t.heap.size) hC hf hl
    (fun m meth c P a Y hp => have hU : G.Z.Warmed39 P.U.vm := wtrans hZ Y.warmed
      ⟨by show (Jvm.Cond.and _ .tt).before a P.U = true; rw [Cond.before_and, mv hU wc]; rfl, mv hU wc, mv hU wz, hp.2.2.1, hp.2.2.2⟩)
    (fun m meth c P a g mk Y hp => ⟨hp.1, wtrans hZ Y.warmed, hp.2.1, (fun p hp => by cases hp), fun x hx => ⟨hA x hx, own_safe0⟩, hO⟩) (fun _ _ _ _ _ _ _ _ _ => trivial)
    (fun _ _ _ _ ⟨v, L', h1, h2, h3, h4, h5, h6⟩ => ⟨L', _, _, h6, rfl, rfl, ⟨v, h1, h2⟩, h3, h4, h5.2.1⟩)
    (fun m meth c P a g mk v t L' k n Y hp _ _ ⟨e1, e2, ⟨v', e3, e4⟩, e5, e6, e7⟩ => by
      cases e3; subst e1 e2
      exact ⟨L', e4, e5, e6, rfl, rfl, rfl, by rw [← hp.2.1]; exact e7⟩)
/-- what a call leaves, folded -/
theorem own_after {rm : Room} {Q : Option Value → Heap → (Addr → Prop) → Prop} {v : Option Value} {vm0 : Vm} {k0 : Nat} {T : State} {locs : List Loc} {P' : Pt} {pc' : Nat} {S' : List Value} (ok : OOk G K M) (hT : T.heap = h) (hS : vm0 = K.s.vm ∧ K.s.Since vm0 k0) (hk : k0 ≤ h.size) (hZ : G.Z.Warmed39 (K.s.setVm vm0).vm) (hown : (K.s.setVm vm0).vm.findClass M.own = some K.m.cls)
    (hC : CHr G.Z [] K.s.vm K.s.heap vm0 h) (hA : ∀ x ∈ A, OSafe G vm0 h x) (hF : Fr G.n0 locs)
    (X' : Stand K.p G.l K.e M.R (K.s.setVm vm0) K.m K.args K.below K.meth K.c P'.U P'.locs P'.cells P'.slots)
    (hq : ∃ L', Q v P'.U.heap (OSafe G P'.U.vm P'.U.heap) ∧ Fr G.n0 L' ∧ Old G.Z G.n0 P'.U.heap ∧ P'.locs = locs ++ L' ∧ P'.cells = cs + rm.cells ∧ P'.slots = sl + rm.slots ∧ h.size ≤ P'.U.heap.size)
    (st : Steps K.p.tables K.e K.below K.s0 (P'.U.setTop (mkF K.m pc' L S'))) : ∃ sf, Q v P'.U.heap sf ∧ ∀ B, (∀ x ∈ B, sf x) → OAt G K M (B ++ A) (cs + rm.cells) (sl + rm.slots) P'.U.heap pc' L S' := by
  obtain ⟨L', q1, q2, q3, q4, q5, q6, q7⟩ := hq
  rw [q4, q5, q6] at X'
  exact ⟨_, q1, fun B hB => ⟨ok, vm0, k0, P'.U, locs ++ L', X', rfl, hS, Nat.le_trans hk q7, hZ, hown, own_chr0 (Nat.le_trans hC.2.1 q7), fun x hx => (List.mem_append.mp hx).elim (fun hx => ⟨(hB x hx).1, own_safe0⟩) fun hx => ⟨Nat.lt_of_lt_of_le (hA x hx).1 q7, own_safe0⟩, hF.app q2, q3, st⟩⟩
theorem OAt.callS {y : MethodName} {B : ByteArray} {ml : Nat} {rt : Option FieldType} {rm : Room} {A' : List Addr} {Q : Option Value → Heap → (Addr → Prop) → Prop} {ix W : Nat} {argsL rest : List Value} (c : OAt G K M A cs sl h pc L S) (pc' : Nat) (hd : decode M.b pc = .ok (.invokestatic ix, 3))
    (hC : OCon G y B ml rt [] rm argsL.toArray A' h Q) (hstk : S = argsL.reverse ++ rest) (w1 : OW G (Jvm.Cond.methodLink M.own ix y)) (w2 : OW G (Jvm.Cond.static y)) (w3 : OW G (Jvm.Cond.initialized y.cls)) (w4 : OW G (Jvm.Cond.code y B ml rt)) (hlen : ∀ sig, parseMethodDescriptor y.desc = some sig → argsL.length = sig.parameters.length)
    (hA : ∀ x ∈ A', x ∈ A) (hW : (rest.map fun v => v.category).sum = W) (hl : W + (ml + 11) + rm.locals ≤ M.R.locals) (hf : rm.frames + 1 ≤ M.R.frames) (hc : cs + rm.cells ≤ M.R.cells) (hs : sl + rm.slots ≤ M.R.slots) (hy : y.cls ≠ "java/lang/invoke/MethodHandle" ∧ y.cls ≠ "java/lang/invoke/VarHandle" := by decide) (hL : L.size = M.ml := by rfl) (hp : pc + 3 = pc' := by rfl) :
    ∃ (v : Option Value) (h' : Heap) (sf : Addr → Prop), Q v h' sf ∧ ∀ B, (∀ x ∈ B, sf x) → OAt G K M (B ++ A) (cs + rm.cells) (sl + rm.slots) h' pc' L (v.toList ++ rest) := by
  subst hp
  obtain ⟨ok, vm0, k0, T, locs, X, hT, hS, hk, hZ, hown, hCh, hAs, hF, hO, st⟩ := c
  obtain ⟨v, vm1, P', hw1, X', hq, st'⟩ := Jvm.LawKit.callS X ok.1 hown (mvT hZ w1) (mvT hZ w2) (mvT hZ w3) (mvT hZ w4) hy (hC.payer hZ w4 w3 hf hl (fun x hx => (hAs x (hA x hx)).1) hO) (g := mkF K.m pc L S) rfl (hL.trans ok.2.2.2.2.2.1.symm) (argsL := argsL) (rest := rest) hlen hstk (by show 2 * 0 + _ ≤ _; omega) (Jvm.hb ok.2.1 hd) (fun _ _ => ⟨rfl, hT, hc, hs⟩)
  obtain ⟨sf, q, c'⟩ := own_after (v := v) (L := L) (S' := v.toList ++ rest) (pc' := pc + 3) ok hT hS hk hZ hown hCh hAs hF X' hq (st.trans (st' _ (Steps.refl _)))
  exact ⟨v, _, sf, q, c'⟩
theorem OAt.callI {y : MethodName} {B : ByteArray} {ml : Nat} {rm : Room} {A' : List Addr} {Q : Option Value → Heap → (Addr → Prop) → Prop} {ix W : Nat} {a : Addr} {argsL rest : List Value} (c : OAt G K M A cs sl h pc L S) (pc' : Nat) (hd : decode M.b pc = .ok (.invokespecial ix, 3))
    (hC : OCon G y B ml none [] rm (.ref a :: argsL).toArray A' h Q) (hstk : S = argsL.reverse ++ .ref a :: rest) (w1 : OW G (Jvm.Cond.methodLink M.own ix y)) (w2 : OW G (Jvm.Cond.instanceMethod y)) (w3 : OW G (Jvm.Cond.initialized y.cls)) (w4 : OW G (Jvm.Cond.code y B ml none)) (hlen : ∀ sig, parseMethodDescriptor y.desc = some sig → argsL.length = sig.parameters.length)
    (hA : ∀ x ∈ A', x ∈ A) (hW : (rest.map fun v => v.category).sum = W) (hl : W + (ml + 11) + rm.locals ≤ M.R.locals) (hf : rm.frames + 1 ≤ M.R.frames) (hc : cs + rm.cells ≤ M.R.cells) (hs : sl + rm.slots ≤ M.R.slots) (hy1 : y.name = "<init>" := by rfl) (hy : y.cls ≠ "java/lang/invoke/MethodHandle" ∧ y.cls ≠ "java/lang/invoke/VarHandle" := by decide) (hL : L.size = M.ml := by rfl) (hp : pc + 3 = pc' := by rfl) :
    ∃ (v : Option Value) (h' : Heap) (sf : Addr → Prop), Q v h' sf ∧ ∀ B, (∀ x ∈ B, sf x) → OAt G K M (B ++ A) (cs + rm.cells) (sl + rm.slots) h' pc' L (v.toList ++ rest) := by
  subst hp
  obtain ⟨ok, vm0, k0, T, locs, X, hT, hS, hk, hZ, hown, hCh, hAs, hF, hO, st⟩ := c
  obtain ⟨v, vm1, P', hw1, X', hq, st'⟩ := X.specialBack ok.1 hy1 hown (mvT hZ w1) (mvT hZ w2) (mvT hZ w4) hy (hC.payer hZ w4 w3 hf hl (fun x hx => (hAs x (hA x hx)).1) hO) (g := mkF K.m pc L S) rfl (hL.trans ok.2.2.2.2.2.1.symm) st (a := a) (argsL := argsL) (rest := rest) hlen hstk (by show 2 * 0 + _ ≤ _; omega) (Jvm.hb ok.2.1 hd) (fun _ _ => ⟨rfl, hT, hc, hs⟩)
  obtain ⟨sf, q, c'⟩ := own_after (v := v) (L := L) (S' := v.toList ++ rest) (pc' := pc + 3) ok hT hS hk hZ hown hCh hAs hF X' hq st'
  exact ⟨v, _, sf, q, c'⟩
theorem OAt.callV {y z : MethodName} {C : String} {B : ByteArray} {ml : Nat} {rt : Option FieldType} {rm : Room} {A' : List Addr} {Q : Option Value → Heap → (Addr → Prop) → Prop} {ix W : Nat} {a : Addr} {argsL rest : List Value} (c : OAt G K M A cs sl h pc L S) (pc' : Nat) (hd : decode M.b pc = .ok (.invokevirtual ix, 3))
    (hC : OCon G z B ml rt [] rm (.ref a :: argsL).toArray A' h Q) (hstk : S = argsL.reverse ++ .ref a :: rest) (E : Exa G.Z h a C) (w1 : OW G (Jvm.Cond.methodLink M.own ix y)) (w2 : OW G (Jvm.Cond.declares y)) (nf : ONf G y) (w5 : OW G (Jvm.Cond.selects C y z)) (w6 : OW G (Jvm.Cond.instanceMethod z)) (w3 : OW G (Jvm.Cond.initialized z.cls)) (w4 : OW G (Jvm.Cond.code z B ml rt)) (hlen : ∀ sig, parseMethodDescriptor y.desc = some sig → argsL.length = sig.parameters.length)
    (hA : ∀ x ∈ A', x ∈ A) (hW : (rest.map fun v => v.category).sum = W) (hl : W + (ml + 11) + rm.locals ≤ M.R.locals) (hf : rm.frames + 1 ≤ M.R.frames) (hc : cs + rm.cells ≤ M.R.cells) (hs : sl + rm.slots ≤ M.R.slots) (hy : y.cls ≠ "java/lang/invoke/MethodHandle" ∧ y.cls ≠ "java/lang/invoke/VarHandle" := by decide) (hL : L.size = M.ml := by rfl) (hp : pc + 3 = pc' := by rfl) :
    ∃ (v : Option Value) (h' : Heap) (sf : Addr → Prop), Q v h' sf ∧ ∀ B, (∀ x ∈ B, sf x) → OAt G K M (B ++ A) (cs + rm.cells) (sl + rm.slots) h' pc' L (v.toList ++ rest) := by
  subst hp
  obtain ⟨ok, vm0, k0, T, locs, X, hT, hS, hk, hZ, hown, hCh, hAs, hF, hO, st⟩ := c
  obtain ⟨cB, kB, i1, i2, i3⟩ := isOf hZ hT E
  obtain ⟨v, vm1, P', hw1, X', hq, st'⟩ := X.virtualBack ok.1 hown (mvT hZ w1) (mvT hZ w2) (nf _ hZ) (mvT hZ w5) (mvT hZ w6) hy (hC.payer hZ w4 w3 hf hl (fun x hx => (hAs x (hA x hx)).1) hO) i1 i3 (g := mkF K.m pc L S) rfl (hL.trans ok.2.2.2.2.2.1.symm) st (argsL := argsL) (rest := rest) hlen hstk (by show 2 * 0 + _ ≤ _; omega) (Jvm.hb ok.2.1 hd) (fun _ _ => ⟨rfl, hT, hc, hs⟩)
  obtain ⟨sf, q, c'⟩ := own_after (v := v) (L := L) (S' := v.toList ++ rest) (pc' := pc + 3) ok hT hS hk hZ hown hCh hAs hF X' hq st'
  exact ⟨v, _, sf, q, c'⟩
theorem OCon.intro {y : MethodName} {B : ByteArray} {ml : Nat} {rt : Option FieldType} {ws : List Jvm.Cond} {rm : Room} {as : Array Value} {Q : Option Value → Heap → (Addr → Prop) → Prop} (pn : plainName y.cls = true) (ew : EW G.Z G.a0 []) (L0 : Array Slot) (ef : ∀ m, entryFrame m as ml = mkF m 0 L0 []) 
    (body : ∀ K, OAt G K (B, y.cls, rt, y.name, ml, rm) A 0 0 h 0 L0 [] → ODone G K rm Q) : OCon G y B ml rt ws rm as A h Q := by
  refine MetFree.of_bodySF (plainFor_of_name pn) hisR ?_
  intro p e s m args below meth c s₁ Bd hml0 hP hK
  obtain ⟨rfl, hZ, hh, hCH, hA, hO⟩ := hP
  have X0 : Stand p G.l e rm s m args below meth c s₁ [] 0 0 := Stand.of_body Bd
  have e0 : s₁.heap = h := by rw [← hh, Bd.state]; rfl
  have nm := (name_of_methodNamed Bd.named Bd.method).1
  exact body (p, e, s, m, args, below, meth, c, s₁.setTop (entryFrame m args ml)) ⟨⟨Bd.exec, Bd.bytes, Bd.returns, Bd.notSynchronized, nm, hml0, ew⟩, s.vm, s.heap.size, s₁, [], X0, e0, ⟨rfl, (State.WarmedH.refl s).since _⟩, by rw [hh]; exact Nat.le_refl _, hZ, findClass_of_methodNamed Bd.named,
    by rw [hh]; exact CHr.refl hCH, hA, Fr.nil _, hO, castTop (ef m) (Steps.refl _)⟩
/-- the end of a walk, whatever the return -/
theorem OAt.done {rm : Room} {Q : Option Value → Heap → (Addr → Prop) → Prop} {v : Option Value} (c : OAt G K M A cs sl h pc L S) (hv : M.rt = none → v = none) (hc : cs ≤ rm.cells) (hs : sl ≤ rm.slots) (hQ : ∀ sf : Addr → Prop, (∀ x ∈ A, sf x) → Q v h sf)
    (f : ∀ vm0 T locs, OSt G K M cs sl h vm0 T locs → K.p.tables.exec = Jvm.exec → K.c.code = M.b → K.meth.sig.returnType = M.rt → ∀ fs, (∀ (f : JFrame) (acts : List Action), f.method = K.m → f.locked = none → f.entered = [] → (doReturn K.e (T.setTop f) acts v).1 = T.setFrames fs) → Steps K.p.tables K.e K.below (T.setTop (mkF K.m pc L S)) (T.setFrames fs)) : ODone G K rm Q := by
  obtain ⟨ok, vm0, k0, T, locs, X, hT, ⟨rfl, hS⟩, hk, hZ, hown, hCh, hAs, hF, hO, st⟩ := c
  have X2 : Stand K.p G.l K.e M.R K.s K.m K.args K.below K.meth K.c T locs rm.cells rm.slots := X.more hc hs
  obtain ⟨fs, hr, hrun, hended, hW, hsame⟩ := X2.leave (v := v) (fun q => hv (ok.2.2.1.symm.trans q)) ok.2.2.2.1
  subst hT
  exact ⟨T.setFrames fs, _, st.trans (f _ T locs X ok.1 ok.2.1 ok.2.2.1 fs hr), hrun, hended, v, locs, rfl, hQ _ fun x hx => ⟨(hAs x hx).1, own_safe0⟩, hF, hO, own_chr0 hCh.2.1, ⟨_, rfl⟩, hW, hsame⟩
theorem OAt.ret {rm : Room} {Q : Option Value → Heap → (Addr → Prop) → Prop} (c : OAt G K M A cs sl h pc L []) (hd : decode M.b pc = .ok (.return_, 1)) (hrt : M.rt = none) (hQ : ∀ sf : Addr → Prop, (∀ x ∈ A, sf x) → Q none h sf) (hc : cs ≤ rm.cells) (hs : sl ≤ rm.slots) : ODone G K rm Q :=
  c.done (fun _ => rfl) hc hs hQ fun vm0 T locs X hx hb hr fs hl => X.returnOut hx (hr.trans hrt) (Jvm.hb hb hd) hl
theorem OAt.reti {rm : Room} {Q : Option Value → Heap → (Addr → Prop) → Prop} {w : Int32} {t : FieldType} (c : OAt G K M A cs sl h pc L (.int w :: S)) (hd : decode M.b pc = .ok (.ireturn, 1)) (hrt : M.rt = some t) (hn : narrow t (.int w) = .int w) (hti : t = .int ∨ t = .boolean ∨ t = .byte ∨ t = .char ∨ t = .short) (hQ : ∀ sf : Addr → Prop, (∀ x ∈ A, sf x) → Q (some (.int w)) h sf) (hc : cs ≤ rm.cells) (hs : sl ≤ rm.slots) : ODone G K rm Q :=
  c.done (fun q => by rw [hrt] at q; cases q) hc hs hQ fun vm0 T locs X hx hb hr fs hl => retOut X hx (hr.trans hrt) hn (Or.inl ⟨rfl, hti, w, rfl⟩) (Jvm.hb hb hd) hl
theorem OAt.retl {rm : Room} {Q : Option Value → Heap → (Addr → Prop) → Prop} {w : Int64} (c : OAt G K M A cs sl h pc L (.long w :: S)) (hd : decode M.b pc = .ok (.lreturn, 1)) (hrt : M.rt = some .long) (hQ : ∀ sf : Addr → Prop, (∀ x ∈ A, sf x) → Q (some (.long w)) h sf) (hc : cs ≤ rm.cells) (hs : sl ≤ rm.slots) : ODone G K rm Q :=
  c.done (fun q => by rw [hrt] at q; cases q) hc hs hQ fun vm0 T locs X hx hb hr fs hl => retOut X hx (hr.trans hrt) rfl (Or.inr (Or.inl ⟨rfl, rfl, w, rfl⟩)) (Jvm.hb hb hd) hl
theorem OAt.reta {rm : Room} {Q : Option Value → Heap → (Addr → Prop) → Prop} {w : Value} {t : FieldType} (c : OAt G K M A cs sl h pc L (w :: S)) (hd : decode M.b pc = .ok (.areturn, 1)) (hrt : M.rt = some t) (ht : t.isReference = true) (hn : narrow t w = w) (hw : w.isRef = true) (hQ : ∀ sf : Addr → Prop, (∀ x ∈ A, sf x) → Q (some w) h sf) (hc : cs ≤ rm.cells) (hs : sl ≤ rm.slots) : ODone G K rm Q :=
  c.done (fun q => by rw [hrt] at q; cases q) hc hs hQ fun vm0 T locs X hx hb hr fs hl => retOut X hx (hr.trans hrt) hn (Or.inr (Or.inr (Or.inr (Or.inr ⟨rfl, ht, hw⟩)))) (Jvm.hb hb hd) hl
end Calls
section Cold
variable {G : Gx} {K : Kx} {M : Mx} {A : List Addr} {cs sl : Nat} {h : Heap} {pc : Nat} {L : Array Slot} {S : List Value}
theorem OAt.istoreS {k : Nat} {v : Int32} {o : Slot} (c : OAt G K M A cs sl h pc L (.int v :: S)) (pc' : Nat) (hd : decode M.b pc = .ok (.istore k, 2)) (hl : L[k]? = some o) (ho : One o) (hp : pc + 2 = pc' := by rfl) : OAt G K M A cs sl h pc' (L.setIfInBounds k (.val (.int v))) S := by
  subst hp
  exact c.pure fun vm0 T locs X hT hx hb hZ hown hO => ⟨T, X, hT, fun t r => XS.istoreS X.here hx rfl (Jvm.hb hb hd) rfl hl ho r⟩
theorem OAt.astoreS {k : Nat} {v : Value} {o : Slot} (c : OAt G K M A cs sl h pc L (v :: S)) (pc' : Nat) (hd : decode M.b pc = .ok (.astore k, 2)) (hv : v.isRef = true) (hc : v.category = 1) (hl : L[k]? = some o) (ho : One o) (hp : pc + 2 = pc' := by rfl) : OAt G K M A cs sl h pc' (L.setIfInBounds k (.val v)) S := by
  subst hp
  exact c.pure fun vm0 T locs X hT hx hb hZ hown hO => ⟨T, X, hT, fun t r => XS.astoreS X.here hx rfl (Jvm.hb hb hd) rfl hv hc hl ho r⟩
end Cold
section Conds
variable {x y : Int32}
theorem own_ic_eq_t (h : x = y) : if_icmp.holds .eq x y = true := (teq h).1
theorem own_ic_eq_f (h : ¬ x = y) : if_icmp.holds .eq x y = false := (feq h).1
theorem own_ic_ne_t (h : ¬ x = y) : if_icmp.holds .ne x y = true := (feq h).2
theorem own_ic_ne_f (h : x = y) : if_icmp.holds .ne x y = false := (teq h).2
theorem own_ic_lt_t (h : x < y) : if_icmp.holds .lt x y = true := (tlt h).1
theorem own_ic_lt_f (h : ¬ x < y) : if_icmp.holds .lt x y = false := (flt h).1
theorem own_ic_ge_t (h : ¬ x < y) : if_icmp.holds .ge x y = true := (flt h).2.1
theorem own_ic_ge_f (h : x < y) : if_icmp.holds .ge x y = false := (tlt h).2.1
theorem own_ic_gt_t (h : y < x) : if_icmp.holds .gt x y = true := (tlt h).2.2.1
theorem own_ic_gt_f (h : ¬ y < x) : if_icmp.holds .gt x y = false := (flt h).2.2.1
theorem own_ic_le_t (h : ¬ y < x) : if_icmp.holds .le x y = true := (flt h).2.2.2
theorem own_ic_le_f (h : y < x) : if_icmp.holds .le x y = false := (tlt h).2.2.2
theorem own_if_eq_t (h : x = 0) : ifCond.holds .eq x = true := (if0 _ _).trans (own_ic_eq_t h)
theorem own_if_eq_f (h : ¬ x = 0) : ifCond.holds .eq x = false := (if0 _ _).trans (own_ic_eq_f h)
theorem own_if_ne_t (h : ¬ x = 0) : ifCond.holds .ne x = true := (if0 _ _).trans (own_ic_ne_t h)
theorem own_if_ne_f (h : x = 0) : ifCond.holds .ne x = false := (if0 _ _).trans (own_ic_ne_f h)
theorem own_if_lt_t (h : x < 0) : ifCond.holds .lt x = true := (if0 _ _).trans (own_ic_lt_t h)
theorem own_if_lt_f (h : ¬ x < 0) : ifCond.holds .lt x = false := (if0 _ _).trans (own_ic_lt_f h)
theorem own_if_ge_t (h : ¬ x < 0) : ifCond.holds .ge x = true := (if0 _ _).trans (own_ic_ge_t h)
theorem own_if_ge_f (h : x < 0) : ifCond.holds .ge x = false := (if0 _ _).trans (own_ic_ge_f h)
theorem own_if_gt_t (h : 0 < x) : ifCond.holds .gt x = true := (if0 _ _).trans (own_ic_gt_t h)
theorem own_if_gt_f (h : ¬ 0 < x) : ifCond.holds .gt x = false := (if0 _ _).trans (own_ic_gt_f h)
theorem own_if_le_t (h : ¬ 0 < x) : ifCond.holds .le x = true := (if0 _ _).trans (own_ic_le_t h)
theorem own_if_le_f (h : 0 < x) : ifCond.holds .le x = false := (if0 _ _).trans (own_ic_le_f h)
end Conds
section Ints
theorem own_toInt {n : Nat} (h : n < 2147483648) : (Int32.ofNat n).toInt = n := Int32.toInt_ofNat_small h
theorem own_lt {i n : Nat} (h : i < n) (hn : n < 2147483648) : Int32.ofNat i < Int32.ofNat n := by
  rw [Int32.lt_iff_toInt_lt, own_toInt (by omega), own_toInt hn]; omega
theorem own_nlt {i n : Nat} (h : ¬ i < n) (hi : i < 2147483648) : ¬ Int32.ofNat i < Int32.ofNat n := by
  rw [Int32.lt_iff_toInt_lt, own_toInt hi, own_toInt (by omega)]; omega
theorem own_nneg {i : Nat} (hi : i < 2147483648) : ¬ Int32.ofNat i < 0 := own_nlt (i := i) (n := 0) (by omega) hi
theorem own_inj {i n : Nat} (h : Int32.ofNat i = Int32.ofNat n) (hi : i < 2147483648) (hn : n < 2147483648) : i = n := by
  have := congrArg Int32.toInt h
  rw [own_toInt hi, own_toInt hn] at this; omega
theorem own_succ (i : Nat) : Int32.ofNat i + Int32.ofInt 1 = Int32.ofNat (i + 1) := by
  rw [Int32.ofNat_add]; rfl
theorem own_addn (i k : Nat) : Int32.ofNat i + Int32.ofNat k = Int32.ofNat (i + k) := (Int32.ofNat_add i k).symm
theorem own_subn (i k : Nat) (h : k ≤ i) (hi : i < 2147483648) : Int32.ofNat i - Int32.ofNat k = Int32.ofNat (i - k) := by
  apply Int32.toInt_inj.mp
  have := c_isub (Int32.ofNat i) (Int32.ofNat k)
  rw [own_toInt hi, own_toInt (by omega)] at this
  rw [own_toInt (by omega)]
  have r := rng32 (Int32.ofNat i - Int32.ofNat k)
  omega
theorem own_shl1 (n : Nat) (hn : n < 1073741823) : Int32.ofNat n <<< ((1 : Int32) &&& 31) = Int32.ofNat (2 * n) := by
  apply Int32.toInt_inj.mp
  have := c_ishl (Int32.ofNat n) 1 1 (by decide)
  rw [own_toInt (by omega)] at this
  rw [own_toInt (by omega)]
  have r := rng32 (Int32.ofNat n <<< ((1 : Int32) &&& 31))
  omega
/-- what i2b leaves -/
def lo8 (x : Int32) : Int32 := x.toInt8.toInt32
theorem own_lo8_lo8 (x : Int32) : (lo8 x).toInt8.toInt32 = lo8 x := by
  apply Int32.toInt_inj.mp
  have h1 := c_i2b (lo8 x); have h2 := c_i2b x
  have e : (lo8 x).toInt = x.toInt8.toInt32.toInt := rfl
  omega
theorem own_nar_b (x : Int32) : nar .byte (x.toInt8.toInt32) = lo8 x := own_lo8_lo8 x
theorem own_lo8_rng (x : Int32) : ((lo8 x).toInt - x.toInt) % 256 = 0 ∧ -128 ≤ (lo8 x).toInt ∧ (lo8 x).toInt < 128 := c_i2b x
theorem own_shr0 (x : Int32) : x >>> ((0 : Int32) &&& 31) = x := by
  apply Int32.toInt_inj.mp
  rw [c_ishr x 0 0 (by decide)]; simp
/-- a char is what i2c leaves of it -/
theorem own_i2c {x : Int32} (h : 0 ≤ x.toInt ∧ x.toInt < 65536) : x.toUInt32.toUInt16.toUInt32.toInt32 = x := by
  apply Int32.toInt_inj.mp
  have := c_i2c x
  omega
theorem own_narc {x : Int32} (h : 0 ≤ x.toInt ∧ x.toInt < 65536) : nar .char x = x := own_i2c h
theorem own_charfit {x : Int32} (h : fits .char (.int x) = true) : 0 ≤ x.toInt ∧ x.toInt < 65536 := by
  obtain ⟨h1, h2⟩ := rng_char h
  rw [Int32.lt_iff_toInt_lt] at h1 h2
  have e1 : (0 : Int32).toInt = 0 := by decide
  have e2 : (65535 : Int32).toInt = 65535 := by decide
  omega
/-- a Latin-1 byte read back -/
theorem own_mask {x : Int32} (h : 0 ≤ x.toInt ∧ x.toInt < 256) : lo8 x &&& 255 = x := by
  apply Int32.toInt_inj.mp
  rw [c_mask (lo8 x) 255 8 (by decide) (by decide)]
  have := own_lo8_rng x
  omega
/-- two bytes read back -/
theorem own_char2 {x : Int32} (h : 0 ≤ x.toInt ∧ x.toInt < 65536) : ((((lo8 x &&& 255) <<< ((0 : Int32) &&& 31)) ||| ((lo8 (x >>> ((8 : Int32) &&& 31)) &&& 255) <<< ((8 : Int32) &&& 31))).toUInt32.toUInt16.toUInt32.toInt32) = x := by
  have e0 : ∀ z : Int32, z <<< ((0 : Int32) &&& 31) = z := fun z => by
    apply Int32.toInt_inj.mp
    have := c_ishl z 0 0 (by decide)
    have r := rng32 z; have r2 := rng32 (z <<< ((0 : Int32) &&& 31)); omega
  have h8 := c_ishr x 8 8 (by decide)
  have a1 := c_mask (lo8 x) 255 8 (by decide) (by decide)
  have a2 := c_mask (lo8 (x >>> ((8 : Int32) &&& 31))) 255 8 (by decide) (by decide)
  have l1 := own_lo8_rng x
  have l2 := own_lo8_rng (x >>> ((8 : Int32) &&& 31))
  have s2 := c_ishl (lo8 (x >>> ((8 : Int32) &&& 31)) &&& 255) 8 8 (by decide)
  have rs := rng32 ((lo8 (x >>> ((8 : Int32) &&& 31)) &&& 255) <<< ((8 : Int32) &&& 31))
  rw [e0]
  have o := c_or' (lo8 x &&& 255) ((lo8 (x >>> ((8 : Int32) &&& 31)) &&& 255) <<< ((8 : Int32) &&& 31)) 8 (by decide) 256 (by decide)
  have ov : ((lo8 x &&& 255) ||| ((lo8 (x >>> ((8 : Int32) &&& 31)) &&& 255) <<< ((8 : Int32) &&& 31))).toInt = x.toInt := by
    have r := rng32 ((lo8 x &&& 255) ||| ((lo8 (x >>> ((8 : Int32) &&& 31)) &&& 255) <<< ((8 : Int32) &&& 31)))
    have := o (by omega) (by omega) (by omega)
    omega
  have q : ((lo8 x &&& 255) ||| ((lo8 (x >>> ((8 : Int32) &&& 31)) &&& 255) <<< ((8 : Int32) &&& 31))) = x := Int32.toInt_inj.mp ov
  rw [q]; exact own_i2c h
end Ints
section Lists
theorem own_fill {α : Type} (us vs : List α) (i : Nat) (x : α) (hx : us[i]? = some x) (hv : i < vs.length) : (us.take i ++ vs.drop i).set i x = us.take (i + 1) ++ vs.drop (i + 1) := by
  obtain ⟨hi, rfl⟩ := List.getElem?_eq_some_iff.mp hx
  have hl : (us.take i).length = i := by simp; omega
  rw [List.set_append_right _ _ (by omega), hl, Nat.sub_self, List.drop_eq_getElem_cons hv, List.set_cons_zero, ← List.take_append_getElem hi, List.append_assoc]
  rfl
end Lists
section Strings
variable {Z : State} {h h' : Heap} {a b x : Addr} {cs : List Int32}
def Lat (cs : List Int32) : Prop := ∀ c ∈ cs, 0 ≤ c.toInt ∧ c.toInt < 256
def Chs (cs : List Int32) : Prop := ∀ c ∈ cs, 0 ≤ c.toInt ∧ c.toInt < 65536
def encL (cs : List Int32) : List Value := cs.map fun c => .int (lo8 c)
def encU (cs : List Int32) : List Value := cs.flatMap fun c => [.int (lo8 c), .int (lo8 (c >>> ((8 : Int32) &&& 31)))]
theorem encL_len (cs : List Int32) : (encL cs).length = cs.length := by simp [encL]
theorem encU_len (cs : List Int32) : (encU cs).length = 2 * cs.length := by
  induction cs with
  | nil => rfl
  | cons c cs ih => simp only [encU, List.flatMap_cons, List.length_append, List.length_cons, List.length_nil] at ih ⊢; omega
/-- a String of the bytes bs, of this coder -/
def StrB (Z : State) (h : Heap) (a : Addr) (co : Int32) (bs : List Value) : Prop := Exa Z h a "java/lang/String" ∧ Fld Z h a "java/lang/String" "coder" "B" (.int co) ∧ ∃ b, Fld Z h a "java/lang/String" "value" "[B" (.ref b) ∧ Ary Z h b .byte bs
/-- a String of the chars cs -/
def Str (Z : State) (h : Heap) (a : Addr) (cs : List Int32) : Prop := (Lat cs ∧ StrB Z h a 0 (encL cs)) ∨ (Chs cs ∧ (∃ c ∈ cs, 255 < c.toInt) ∧ StrB Z h a 1 (encU cs))
theorem StrB.ext {co : Int32} {bs : List Value} (F : StrB Z h a co bs) (E : Ext h h') : StrB Z h' a co bs := by
  obtain ⟨h1, h2, b, h3, h4⟩ := F; exact ⟨h1.ext E, h2.ext E, b, h3.ext E, h4.ext E⟩
theorem Str.ext (F : Str Z h a cs) (E : Ext h h') : Str Z h' a cs := F.imp (fun q => ⟨q.1, q.2.ext E⟩) fun q => ⟨q.1, q.2.1, q.2.2.ext E⟩
/-- no String that has its value, and no byte[] -/
def NStr (Z : State) (h : Heap) (x : Addr) : Prop := (∀ co bs, ¬ StrB Z h x co bs) ∧ ∀ vs, ¬ Ary Z h x .byte vs
theorem StrB.keep {co : Int32} {bs : List Value} {ws : List Addr} (F : StrB Z h a co bs) (K : Keep h h' ws) (hw : ∀ x ∈ ws, NStr Z h x) : StrB Z h' a co bs := by
  have ha : a ∉ ws := fun q => (hw a q).1 _ _ F
  obtain ⟨h1, h2, b, h3, h4⟩ := F
  exact ⟨h1.keep K, h2.keep K ha, b, h3.keep K ha, h4.keep K fun q => (hw b q).2 _ h4⟩
theorem Str.keep {ws : List Addr} (F : Str Z h a cs) (K : Keep h h' ws) (hw : ∀ x ∈ ws, NStr Z h x) : Str Z h' a cs := F.imp (fun q => ⟨q.1, q.2.keep K hw⟩) fun q => ⟨q.1, q.2.1, q.2.2.keep K hw⟩
theorem own_arr_type {t1 t2 : FieldType} {c1 c2 : Cell} (A : Arr Z h x c1 t1) (B : Arr Z h x c2 t2) : t1 = t2 := by
  cases A.1.symm.trans B.1
  obtain ⟨-, k1, j1, comp1, j2⟩ := A.2.1
  obtain ⟨-, k2, i1, comp2, i2⟩ := B.2.1
  cases j1.symm.trans i1
  rw [j2] at i2; cases i2; rfl
theorem NStr.arr {ty : FieldType} {vs : List Value} {a0 : Array Value} {n : Nat} (F : Ary Z h x ty vs) (ht : ty ≠ .byte) (wi : (Jvm.Cond.instantiable "java/lang/String" n).before a0 Z = true) : NStr Z h x := by
  obtain ⟨c, A, -⟩ := F
  refine ⟨fun co bs q => ne_arr q.1 wi A rfl, fun vs q => ?_⟩
  obtain ⟨c', A', -⟩ := q
  exact ht (own_arr_type A A')
theorem NStr.exa {C : String} {a0 : Array Value} {n : Nat} (F : Exa Z h x C) (hC : C ≠ "java/lang/String") (wi : (Jvm.Cond.instantiable C n).before a0 Z = true) : NStr Z h x := by
  refine ⟨fun co bs q => ne_exa F q.1 hC rfl, fun vs q => ?_⟩
  obtain ⟨c', A', -⟩ := q
  exact ne_arr F wi A' rfl
theorem NStr.null {a0 : Array Value} {n : Nat} (F : Exa Z h x "java/lang/String") (V : Fld Z h x "java/lang/String" "value" "[B" .null) (wi : (Jvm.Cond.instantiable "java/lang/String" n).before a0 Z = true) : NStr Z h x := by
  refine ⟨fun co bs q => ?_, fun vs q => ?_⟩
  · obtain ⟨-, -, b, q3, -⟩ := q
    exact V.ne q3 (by simp) rfl
  · obtain ⟨c', A', -⟩ := q
    exact ne_arr F wi A' rfl
theorem NStr.new (hx : h.size ≤ x) : NStr Z h x := ⟨fun _ _ q => absurd q.1.lt (Nat.not_lt.mpr hx), fun _ q => absurd q.lt (Nat.not_lt.mpr hx)⟩
theorem own_all1 {P : Addr → Prop} (q : P x) : ∀ y ∈ [x], P y := fun y hy => by cases List.mem_singleton.mp hy; exact q
theorem own_chs (F : Ary Z h a .char (cs.map Value.int)) : Chs cs := by
  obtain ⟨c, A, -, -, hf⟩ := F
  intro c hc
  exact own_charfit (hf _ (List.mem_map.mpr ⟨c, hc, rfl⟩))
end Strings
section Strings2
variable {Z : State} {h h' : Heap} {a b x : Addr} {cs : List Int32}
theorem own_fillU {i r : Nat} {ci : Int32} (hci : cs[i]? = some ci) (hel : (encU (cs.take i)).length = 2 * i) : ((encU (cs.take i) ++ List.replicate (2 * (r + 1)) (Value.int 0)).set (2 * i) (.int (lo8 ci))).set (2 * i + 1) (.int (lo8 (ci >>> ((8 : Int32) &&& 31)))) = encU (cs.take (i + 1)) ++ List.replicate (2 * r) (.int 0) := by
  have e1 : List.replicate (2 * (r + 1)) (Value.int 0) = .int 0 :: .int 0 :: List.replicate (2 * r) (.int 0) := by
    rw [show 2 * (r + 1) = 2 * r + 1 + 1 by omega, List.replicate_succ, List.replicate_succ]
  rw [e1, List.set_append_right _ _ (by omega), hel, Nat.sub_self, List.set_cons_zero, List.set_append_right _ _ (by omega), hel, Nat.add_sub_cancel_left, List.take_add_one, hci]
  simp [encU]
theorem own_encU {k : Nat} {c : Int32} (hc : cs[k]? = some c) : (encU cs)[2 * k]? = some (.int (lo8 c)) ∧ (encU cs)[2 * k + 1]? = some (.int (lo8 (c >>> ((8 : Int32) &&& 31)))) := by
  induction cs generalizing k with
  | nil => simp at hc
  | cons d ds ih =>
    cases k with
    | zero => simp at hc; subst hc; simp [encU]
    | succ k =>
      have := ih (k := k) (by simpa using hc)
      have e : encU (d :: ds) = .int (lo8 d) :: .int (lo8 (d >>> ((8 : Int32) &&& 31))) :: encU ds := by simp [encU]
      rw [e, show 2 * (k + 1) = 2 * k + 1 + 1 by omega]
      exact this
theorem own_cod1 {n : Nat} (h0 : 0 < n) (hn : n < 1073741824) : (Jvm.Free.XT.ushr (Int32.ofNat n - Int32.ofNat (2 * n)) 31).toInt8.toInt32 = 1 := by
  have h1 := c_isub (Int32.ofNat n) (Int32.ofNat (2 * n))
  rw [own_toInt (by omega), own_toInt (by omega)] at h1
  have r := rng32 (Int32.ofNat n - Int32.ofNat (2 * n))
  have h2 : (Jvm.Free.XT.ushr (Int32.ofNat n - Int32.ofNat (2 * n)) 31).toInt = _ := c_iushr (Int32.ofNat n - Int32.ofNat (2 * n)) 31 31 (by decide) (by decide)
  have e : Jvm.Free.XT.ushr (Int32.ofNat n - Int32.ofNat (2 * n)) 31 = 1 := by
    apply Int32.toInt_inj.mp
    rw [h2]
    have : (1 : Int32).toInt = 1 := by decide
    omega
  rw [e]; decide
theorem own_strB (S : Str Z h a cs) : ∃ co bs, StrB Z h a co bs ∧ (bs.length = 0 ↔ cs = []) := by
  rcases S with ⟨-, B⟩ | ⟨-, -, B⟩
  · exact ⟨_, _, B, by rw [encL_len]; exact List.length_eq_zero_iff⟩
  · exact ⟨_, _, B, by rw [encU_len, ← List.length_eq_zero_iff]; omega⟩
end Strings2
section Strings3
variable {Z : State} {h h' : Heap} {a b x : Addr} {cs xs ys : List Int32}
/-- the bytes of a String of the chars cs, of this coder -/
def Enc (co : Int32) (bs : List Int32) (cs : List Int32) : Prop := (Lat cs ∧ co = 0 ∧ bs = cs.map lo8) ∨ (Chs cs ∧ (∃ c ∈ cs, 255 < c.toInt) ∧ co = 1 ∧ bs = cs.flatMap fun c => [lo8 c, lo8 (c >>> ((8 : Int32) &&& 31))])
theorem encL_map (cs : List Int32) : encL cs = (cs.map lo8).map Value.int := by simp [encL]
theorem encU_map (cs : List Int32) : encU cs = (cs.flatMap fun c => [lo8 c, lo8 (c >>> ((8 : Int32) &&& 31))]).map Value.int := by
  induction cs with
  | nil => rfl
  | cons c cs ih => simp only [encU, List.flatMap_cons, List.map_append, List.map_cons, List.map_nil] at ih ⊢; rw [ih]
theorem own_strE (S : Str Z h a cs) : ∃ co bs, StrB Z h a co (bs.map Value.int) ∧ Enc co bs cs := by
  rcases S with ⟨l, B⟩ | ⟨l, g, B⟩
  · exact ⟨0, cs.map lo8, by rw [← encL_map]; exact B, Or.inl ⟨l, rfl, rfl⟩⟩
  · exact ⟨1, _, by rw [← encU_map]; exact B, Or.inr ⟨l, g, rfl, rfl⟩⟩
theorem own_latInj (hx : Lat xs) (hy : Lat ys) (e : xs.map lo8 = ys.map lo8) : xs = ys := by
  induction xs generalizing ys with
  | nil => cases ys with
    | nil => rfl
    | cons y ys => simp at e
  | cons x xs ih => cases ys with
    | nil => simp at e
    | cons y ys =>
      simp only [List.map_cons, List.cons.injEq] at e
      have e1 : x = y := by rw [← own_mask (hx x (by simp)), e.1, own_mask (hy y (by simp))]
      rw [e1, ih (fun c hc => hx c (by simp [hc])) (fun c hc => hy c (by simp [hc])) e.2]
theorem own_chsInj (hx : Chs xs) (hy : Chs ys) (e : (xs.flatMap fun c => [lo8 c, lo8 (c >>> ((8 : Int32) &&& 31))]) = ys.flatMap fun c => [lo8 c, lo8 (c >>> ((8 : Int32) &&& 31))]) : xs = ys := by
  induction xs generalizing ys with
  | nil => cases ys with
    | nil => rfl
    | cons y ys => simp at e
  | cons x xs ih => cases ys with
    | nil => simp at e
    | cons y ys =>
      simp only [List.flatMap_cons, List.cons_append, List.nil_append, List.cons.injEq] at e
      have e1 : x = y := by rw [← own_char2 (hx x (by simp)), e.1, e.2.1, own_char2 (hy y (by simp))]
      rw [e1, ih (fun c hc => hx c (by simp [hc])) (fun c hc => hy c (by simp [hc])) e.2.2]
theorem own_strC {co1 co2 : Int32} {us vs : List Int32} (h1 : Enc co1 us xs) (h2 : Enc co2 vs ys) : (co1 = co2 ∧ us = vs) ↔ xs = ys := by
  constructor
  · rintro ⟨rfl, rfl⟩
    rcases h1 with ⟨l1, e1, b1⟩ | ⟨l1, g1, e1, b1⟩ <;> rcases h2 with ⟨l2, e2, b2⟩ | ⟨l2, g2, e2, b2⟩
    · exact own_latInj l1 l2 (b1.symm.trans b2)
    · rw [e1] at e2; exact absurd e2 (by decide)
    · rw [e1] at e2; exact absurd e2 (by decide)
    · exact own_chsInj l1 l2 (b1.symm.trans b2)
  · rintro rfl
    rcases h1 with ⟨l1, rfl, rfl⟩ | ⟨l1, g1, rfl, rfl⟩ <;> rcases h2 with ⟨l2, rfl, rfl⟩ | ⟨l2, g2, rfl, rfl⟩
    · exact ⟨rfl, rfl⟩
    · obtain ⟨c, hc, q⟩ := g2; have := (l1 c hc).2; omega
    · obtain ⟨c, hc, q⟩ := g1; have := (l2 c hc).2; omega
    · exact ⟨rfl, rfl⟩
theorem own_fld_inj {C n d : String} {v w : Value} (F : Fld Z h a C n d v) (F' : Fld Z h a C n d w) : v = w := by
  by_cases q : v = w
  · exact q
  · exact absurd rfl (F.ne F' q)
theorem Ary.inj {ty : FieldType} {us vs : List Value} (F : Ary Z h a ty us) (F' : Ary Z h a ty vs) : us = vs := by
  obtain ⟨c, A, rfl, -⟩ := F
  obtain ⟨c', A', rfl, -⟩ := F'
  cases A.1.symm.trans A'.1; rfl
theorem Str.inj (S1 : Str Z h a xs) (S2 : Str Z h a ys) : xs = ys := by
  obtain ⟨co1, us, ⟨E1, C1, b1, V1, Y1⟩, e1⟩ := own_strE S1
  obtain ⟨co2, vs, ⟨E2, C2, b2, V2, Y2⟩, e2⟩ := own_strE S2
  have hc : co1 = co2 := by have := own_fld_inj C1 C2; simpa using this
  have hb : b1 = b2 := by have := own_fld_inj V1 V2; simpa using this
  subst hb
  have hv := Y1.inj Y2
  have hv' : us = vs := by
    have := congrArg (List.map fun v => match v with | Value.int x => x | _ => 0) hv
    simpa [List.map_map, Function.comp_def] using this
  exact (own_strC e1 e2).mp ⟨hc, hv'⟩
theorem Str.exa (S : Str Z h a cs) : Exa Z h a "java/lang/String" := by rcases S with ⟨-, q⟩ | ⟨-, -, q⟩ <;> exact q.1
theorem own_strlit {bs : List Value} (E : Exa Z h a "java/lang/String") (C : Fld Z h a "java/lang/String" "coder" "B" (.int 0)) (V : Fld Z h a "java/lang/String" "value" "[B" (.ref b)) (Y : Ary Z h b .byte bs) (hl : Lat cs) (hb : encL cs = bs) : Str Z h a cs := Or.inl ⟨hl, E, C, b, V, hb ▸ Y⟩
end Strings3
theorem own_maxv : (2678400000 : Int64).toInt = 2678400000 := by decide
theorem own_cmpL (x y : Int64) : Jvm.Free.XT.cmpL x y = lcmpV x y := by unfold Jvm.Free.XT.cmpL lcmpV; simp
theorem own_cmpL_lt (x y : Int64) : Jvm.Free.XT.cmpL x y < 0 ↔ x < y := by rw [own_cmpL]; exact lc_lt x y
theorem own_cmpL_gt (x y : Int64) : 0 < Jvm.Free.XT.cmpL x y ↔ y < x := by rw [own_cmpL]; exact lc_gt x y
theorem own_cmpL_eq (x y : Int64) : Jvm.Free.XT.cmpL x y = 0 ↔ x = y := by rw [own_cmpL]; exact lc_eq x y
theorem own_pos (x : Int64) : 0 ≤ (x &&& 9223372036854775807).toInt := (c_andSL x 9223372036854775807).2.2 (by decide)
theorem own_remL {x y : Int64} (hx : 0 ≤ x.toInt) (hy : 0 < y.toInt) : 0 ≤ (x % y).toInt ∧ (x % y).toInt < y.toInt := by
  rw [Int64.toInt_mod, Int.tmod_eq_emod_of_nonneg hx]
  exact ⟨Int.emod_nonneg _ (by omega), Int.emod_lt_of_pos _ hy⟩
theorem own_rem1 (a : Int64) : 1 ≤ (1 + (a &&& 9223372036854775807) % 2678400000).toInt ∧ (1 + (a &&& 9223372036854775807) % 2678400000).toInt ≤ 2678400000 := by
  have e : (2678400000 : Int64).toInt = 2678400000 := by decide
  have h := own_remL (own_pos a) (y := 2678400000) (by decide)
  have h2 := c_ladd 1 ((a &&& 9223372036854775807) % 2678400000)
  have e1 : (1 : Int64).toInt = 1 := by decide
  have r := rng64 (1 + (a &&& 9223372036854775807) % 2678400000)
  omega
theorem own_den {m : Int64} (h1 : 1 ≤ m.toInt) (h2 : m.toInt ≤ 2678400000) : (2678400000 - m + 1 : Int64) ≠ 0 ∧ (2678400000 - m + 1 : Int64).toInt = 2678400001 - m.toInt := by
  have e : (2678400000 : Int64).toInt = 2678400000 := by decide
  have e1 : (1 : Int64).toInt = 1 := by decide
  have a1 := c_lsub 2678400000 m
  have a2 := c_ladd (2678400000 - m) 1
  have r1 := rng64 (2678400000 - m)
  have r2 := rng64 (2678400000 - m + 1)
  have q : (2678400000 - m + 1 : Int64).toInt = 2678400001 - m.toInt := by omega
  refine ⟨fun e0 => ?_, q⟩
  rw [e0] at q
  have : (0 : Int64).toInt = 0 := by decide
  omega
theorem own_ms (b : Int64) {m : Int64} (h1 : 1 ≤ m.toInt) (h2 : m.toInt ≤ 2678400000) : m.toInt ≤ (m + (b &&& 9223372036854775807) % (2678400000 - m + 1)).toInt ∧ (m + (b &&& 9223372036854775807) % (2678400000 - m + 1)).toInt ≤ 2678400000 := by
  obtain ⟨-, d⟩ := own_den h1 h2
  have h := own_remL (own_pos b) (y := 2678400000 - m + 1) (by omega)
  have a := c_ladd m ((b &&& 9223372036854775807) % (2678400000 - m + 1))
  have r := rng64 (m + (b &&& 9223372036854775807) % (2678400000 - m + 1))
  omega
theorem own_mask_rng (x : Int32) : 0 ≤ ((x &&& 255).toUInt32.toUInt16.toUInt32.toInt32).toInt ∧ ((x &&& 255).toUInt32.toUInt16.toUInt32.toInt32).toInt < 256 := by
  have h := c_mask x 255 8 (by decide) (by decide)
  rw [own_i2c (by omega), h]
  omega
def OGood (G : Gx) : Prop := (∀ d ∈ tables_1, d.before G.a0 G.Z = true) ∧ G.EL = [] ∧ (∃ z : Int32, Sta G.Z G.Z.heap "java/lang/String" "COMPACT_STRINGS" "Z" (.int z) ∧ z ≠ 0) ∧ True
theorem own_ew {G : Gx} (hG : OGood G) : EW G.Z G.a0 [] := EW.nil
abbrev y_cod : MethodName := ⟨"java/lang/StringUTF16", "coderFromArrayLen", "([BI)B"⟩
theorem pn_0 : plainName "java/lang/StringUTF16" = true := by first | (simp [plainName, overriddenIn]; done) | decide +kernel
theorem d_cod_0 : decode jdk_52_method_15_code 0 = .ok (.iload_n 1, 1) := by decide +kernel
theorem d_cod_1 : decode jdk_52_method_15_code 1 = .ok (.aload_n 0, 1) := by decide +kernel
theorem d_cod_2 : decode jdk_52_method_15_code 2 = .ok (.arraylength, 1) := by decide +kernel
theorem d_cod_3 : decode jdk_52_method_15_code 3 = .ok (.isub, 1) := by decide +kernel
theorem d_cod_4 : decode jdk_52_method_15_code 4 = .ok (.bipush 31, 2) := by decide +kernel
theorem d_cod_6 : decode jdk_52_method_15_code 6 = .ok (.iushr, 1) := by decide +kernel
theorem d_cod_7 : decode jdk_52_method_15_code 7 = .ok (.i2b, 1) := by decide +kernel
theorem d_cod_8 : decode jdk_52_method_15_code 8 = .ok (.ireturn, 1) := by decide +kernel
abbrev rm_cod : Room := { frames := 0, cells := 0, slots := 0, locals := 0 }
abbrev M_cod : Mx := (jdk_52_method_15_code, y_cod.cls, (some .byte), y_cod.name, 2, rm_cod)
set_option maxRecDepth 65536 in
set_option maxHeartbeats 4000000 in
theorem con_cod {G : Gx} (hG : OGood G) {h0 : Heap} {b : Addr} {vs : List Value} {n : Nat} {r : Int32} (Y : Ary G.Z h0 b .byte vs) (hr : (Jvm.Free.XT.ushr (Int32.ofNat n - Int32.ofNat vs.length) 31).toInt8.toInt32 = r) (hn : narrow .byte (.int r) = .int r) : OCon G y_cod jdk_52_method_15_code 2 (some .byte) [] rm_cod #[.ref b, .int (Int32.ofNat n)] [] h0 (fun v h' _ => v = some (.int r) ∧ h' = h0) := by
  refine OCon.intro pn_0 (own_ew hG) #[.val (.ref b), .val (.int (Int32.ofNat n))] (fun m => by first | rfl | (simp [entryFrame, mkF, argsToLocals, Value.category]; done)) ?_
  intro K c
  replace c : OAt G K M_cod [] 0 0 h0 0 #[.val (.ref b), .val (.int (Int32.ofNat n))] [] := c
  replace c := c.iloadN 1 d_cod_0 rfl
  replace c := c.aloadN 2 d_cod_1 rfl rfl
  replace c := c.arrlen 3 d_cod_2 Y (Int32.ofNat vs.length) rfl
  replace c := c.isub 4 d_cod_3
  replace c := c.bipush 6 d_cod_4 31 (by decide)
  replace c := c.iushr 7 d_cod_6
  replace c := c.i2b 8 d_cod_7
  rw [hr] at c
  exact c.reti (t := .byte) d_cod_8 rfl hn (by simp) (fun sf hs => ⟨rfl, rfl⟩) (by decide) (by decide)
abbrev y_cmp5 : MethodName := ⟨"java/lang/StringUTF16", "compress", "([CI[BII)I"⟩
abbrev Q_cmp5 (G : Gx) (h0 : Heap) (d : Addr) (cs : List Int32) (vs : List Value) : Option Value → Heap → (Addr → Prop) → Prop := fun v h' _ => ∃ k, k ≤ cs.length ∧ v = some (.int (Int32.ofNat k)) ∧ Keep h0 h' [d] ∧ Ary G.Z h' d .byte ((encL cs).take k ++ vs.drop k) ∧ Lat (cs.take k) ∧ ∀ c, cs[k]? = some c → 255 < c.toInt
theorem d_cmp5_0 : decode jdk_52_method_21_code 0 = .ok (.iconst 0, 1) := by decide +kernel
theorem d_cmp5_1 : decode jdk_52_method_21_code 1 = .ok (.istore 5, 2) := by decide +kernel
theorem d_cmp5_3 : decode jdk_52_method_21_code 3 = .ok (.iload 5, 2) := by decide +kernel
theorem d_cmp5_5 : decode jdk_52_method_21_code 5 = .ok (.iload 4, 2) := by decide +kernel
theorem d_cmp5_7 : decode jdk_52_method_21_code 7 = .ok (.if_icmp .ge 37, 3) := by decide +kernel
theorem d_cmp5_10 : decode jdk_52_method_21_code 10 = .ok (.aload_n 0, 1) := by decide +kernel
theorem d_cmp5_11 : decode jdk_52_method_21_code 11 = .ok (.iload_n 1, 1) := by decide +kernel
theorem d_cmp5_12 : decode jdk_52_method_21_code 12 = .ok (.caload, 1) := by decide +kernel
theorem d_cmp5_13 : decode jdk_52_method_21_code 13 = .ok (.istore 6, 2) := by decide +kernel
theorem d_cmp5_15 : decode jdk_52_method_21_code 15 = .ok (.iload 6, 2) := by decide +kernel
theorem d_cmp5_17 : decode jdk_52_method_21_code 17 = .ok (.sipush 255, 3) := by decide +kernel
theorem d_cmp5_20 : decode jdk_52_method_21_code 20 = .ok (.if_icmp .le 6, 3) := by decide +kernel
theorem d_cmp5_23 : decode jdk_52_method_21_code 23 = .ok (.iload 5, 2) := by decide +kernel
theorem d_cmp5_25 : decode jdk_52_method_21_code 25 = .ok (.ireturn, 1) := by decide +kernel
theorem d_cmp5_26 : decode jdk_52_method_21_code 26 = .ok (.aload_n 2, 1) := by decide +kernel
theorem d_cmp5_27 : decode jdk_52_method_21_code 27 = .ok (.iload_n 3, 1) := by decide +kernel
theorem d_cmp5_28 : decode jdk_52_method_21_code 28 = .ok (.iload 6, 2) := by decide +kernel
theorem d_cmp5_30 : decode jdk_52_method_21_code 30 = .ok (.i2b, 1) := by decide +kernel
theorem d_cmp5_31 : decode jdk_52_method_21_code 31 = .ok (.bastore, 1) := by decide +kernel
theorem d_cmp5_32 : decode jdk_52_method_21_code 32 = .ok (.iinc 1 1, 3) := by decide +kernel
theorem d_cmp5_35 : decode jdk_52_method_21_code 35 = .ok (.iinc 3 1, 3) := by decide +kernel
theorem d_cmp5_38 : decode jdk_52_method_21_code 38 = .ok (.iinc 5 1, 3) := by decide +kernel
theorem d_cmp5_41 : decode jdk_52_method_21_code 41 = .ok (.goto (-38), 3) := by decide +kernel
theorem d_cmp5_44 : decode jdk_52_method_21_code 44 = .ok (.iload 4, 2) := by decide +kernel
theorem d_cmp5_46 : decode jdk_52_method_21_code 46 = .ok (.ireturn, 1) := by decide +kernel
abbrev rm_cmp5 : Room := { frames := 0, cells := 0, slots := 0, locals := 0 }
abbrev M_cmp5 : Mx := (jdk_52_method_21_code, y_cmp5.cls, (some .int), y_cmp5.name, 7, rm_cmp5)
set_option maxRecDepth 65536 in
set_option maxHeartbeats 4000000 in
theorem con_cmp5 {G : Gx} (hG : OGood G) {h0 : Heap} {ca d : Addr} {cs : List Int32} {vs : List Value} (hd : G.n0 ≤ d) (Y : Ary G.Z h0 ca .char (cs.map Value.int)) (D : Ary G.Z h0 d .byte vs) (hv : vs.length = cs.length) : OCon G y_cmp5 jdk_52_method_21_code 7 (some .int) [] rm_cmp5 #[.ref ca, .int 0, .ref d, .int 0, .int (Int32.ofNat cs.length)] [d] h0 (Q_cmp5 G h0 d cs vs) := by
  refine OCon.intro pn_0 (own_ew hG) #[.val (.ref ca), .val (.int 0), .val (.ref d), .val (.int 0), .val (.int (Int32.ofNat cs.length)), .unset, .unset] (fun m => by first | rfl | (simp [entryFrame, mkF, argsToLocals, Value.category]; done)) ?_
  intro K c
  replace c : OAt G K M_cmp5 [d] 0 0 h0 0 #[.val (.ref ca), .val (.int 0), .val (.ref d), .val (.int 0), .val (.int (Int32.ofNat cs.length)), .unset, .unset] [] := c
  replace c := c.iconst 1 d_cmp5_0 0 (by decide)
  replace c := c.istore 3 d_cmp5_1 #[.val (.ref ca), .val (.int 0), .val (.ref d), .val (.int 0), .val (.int (Int32.ofNat cs.length)), .val (.int 0), .unset] rfl
  have hlen : cs.length < 2147483648 := by simpa using Y.len
  have hne : ca ≠ d := fun q => by obtain ⟨c1, A1, -⟩ := Y; obtain ⟨c2, A2, -⟩ := D; rw [q] at A1; exact absurd (own_arr_type A1 A2) (by decide)
  have loop : ∀ (r i : Nat), i + r = cs.length → ∀ (z : Slot) (h1 : Heap), One z → Keep h0 h1 [d] → Ary G.Z h1 d .byte ((encL cs).take i ++ vs.drop i) → Lat (cs.take i) → OAt G K M_cmp5 [d] 0 0 h1 3 #[.val (.ref ca), .val (.int (Int32.ofNat i)), .val (.ref d), .val (.int (Int32.ofNat i)), .val (.int (Int32.ofNat cs.length)), .val (.int (Int32.ofNat i)), z] [] → ODone G K rm_cmp5 (Q_cmp5 G h0 d cs vs) := by
    intro r
    induction r with
    | zero =>
      intro i hi z h1 hz K1 D1 la c
      have hin : i = cs.length := by omega
      subst hin
      replace c := c.iload 5 d_cmp5_3 rfl
      replace c := c.iload 7 d_cmp5_5 rfl
      replace c := c.icT 44 d_cmp5_7 (own_ic_ge_t (own_nlt (by omega) hlen))
      replace c := c.iload 46 d_cmp5_44 rfl
      exact c.reti (t := .int) d_cmp5_46 rfl rfl (by simp) (fun sf hs => ⟨cs.length, Nat.le_refl _, rfl, K1, D1, la, fun c hc => by simp at hc⟩) (by decide) (by decide)
    | succ r ih =>
      intro i hi z h1 hz K1 D1 la c
      have hil : i < cs.length := by omega
      obtain ⟨ci, hci⟩ : ∃ ci, cs[i]? = some ci := ⟨cs[i], List.getElem?_eq_getElem hil⟩
      have Y1 : Ary G.Z h1 ca .char (cs.map Value.int) := Y.keep K1 (ninS hne nin0)
      replace c := c.iload 5 d_cmp5_3 rfl
      replace c := c.iload 7 d_cmp5_5 rfl
      replace c := c.icF 10 d_cmp5_7 (own_ic_ge_f (own_lt hil hlen))
      replace c := c.aloadN 11 d_cmp5_10 rfl rfl
      replace c := c.iloadN 12 d_cmp5_11 rfl
      replace c := c.caload 13 d_cmp5_12 Y1 (i) rfl (.int ci) (by simp [hci])
      replace c := c.istoreS 15 d_cmp5_13 rfl hz
      replace c : OAt G K M_cmp5 [d] 0 0 h1 15 #[.val (.ref ca), .val (.int (Int32.ofNat i)), .val (.ref d), .val (.int (Int32.ofNat i)), .val (.int (Int32.ofNat cs.length)), .val (.int (Int32.ofNat i)), .val (.int ci)] [] := c
      replace c := c.iload 17 d_cmp5_15 rfl
      replace c := c.sipush 20 d_cmp5_17 255 (by decide)
      by_cases q : (255 : Int32) < ci
      · skip
        replace c := c.icF 23 d_cmp5_20 (own_ic_le_f q)
        replace c := c.iload 25 d_cmp5_23 rfl
        exact c.reti (t := .int) d_cmp5_25 rfl rfl (by simp) (fun sf hs => ⟨i, by omega, rfl, K1, D1, la, fun c hc => by rw [hci] at hc; cases hc; rw [Int32.lt_iff_toInt_lt] at q; exact q⟩) (by decide) (by decide)
      · skip
        replace c := c.icT 26 d_cmp5_20 (own_ic_le_t q)
        replace c := c.aloadN 27 d_cmp5_26 rfl rfl
        replace c := c.iloadN 28 d_cmp5_27 rfl
        replace c := c.iload 30 d_cmp5_28 rfl
        replace c := c.i2b 31 d_cmp5_30
        have hvi : i < ((encL cs).take i ++ vs.drop i).length := by simp [encL_len]; omega
        obtain ⟨hp, Wp, Yp, c⟩ := c.bastore 32 d_cmp5_31 D1 (i) rfl hvi hd (by simp) (lo8 ci) (own_nar_b ci)
        replace c := c.iinc 35 d_cmp5_32 rfl (Int32.ofNat (i + 1)) (own_succ i) #[.val (.ref ca), .val (.int (Int32.ofNat (i + 1))), .val (.ref d), .val (.int (Int32.ofNat i)), .val (.int (Int32.ofNat cs.length)), .val (.int (Int32.ofNat i)), .val (.int ci)] rfl
        replace c := c.iinc 38 d_cmp5_35 rfl (Int32.ofNat (i + 1)) (own_succ i) #[.val (.ref ca), .val (.int (Int32.ofNat (i + 1))), .val (.ref d), .val (.int (Int32.ofNat (i + 1))), .val (.int (Int32.ofNat cs.length)), .val (.int (Int32.ofNat i)), .val (.int ci)] rfl
        replace c := c.iinc 41 d_cmp5_38 rfl (Int32.ofNat (i + 1)) (own_succ i) #[.val (.ref ca), .val (.int (Int32.ofNat (i + 1))), .val (.ref d), .val (.int (Int32.ofNat (i + 1))), .val (.int (Int32.ofNat cs.length)), .val (.int (Int32.ofNat (i + 1))), .val (.int ci)] rfl
        replace c := c.goto 3 d_cmp5_41
        have hfill := own_fill (encL cs) vs i (.int (lo8 ci)) (by simp [encL, hci]) (by omega)
        rw [hfill] at Yp
        refine ih (i + 1) (by omega) _ _ (One.val rfl) (K1.wr Wp (Or.inl (by simp))) Yp ?_ c
        intro c hc
        rw [List.take_add_one, hci] at hc
        rcases List.mem_append.mp hc with hc | hc
        · exact la c hc
        · have hc' : c = ci := by simpa using hc
          rw [hc']; have := own_chs Y ci (List.mem_of_getElem? hci); rw [Int32.lt_iff_toInt_lt] at q; have e : (255 : Int32).toInt = 255 := by decide
          omega
  exact loop cs.length 0 (by omega) _ _ One.u (Keep.refl _ _) (by simpa using D) (fun c hc => by simp at hc) c
abbrev y_cmp3 : MethodName := ⟨"java/lang/StringUTF16", "compress", "([CII)[B"⟩
abbrev Q_cmp3 (G : Gx) (h0 : Heap) (cs : List Int32) : Option Value → Heap → (Addr → Prop) → Prop := fun v h' _ => ∃ b : Addr, v = some (.ref b) ∧ h0.size ≤ b ∧ Keep h0 h' [] ∧ ((Lat cs ∧ Ary G.Z h' b .byte (encL cs)) ∨ (Chs cs ∧ (∃ c ∈ cs, 255 < c.toInt) ∧ Ary G.Z h' b .byte (encU cs)))
theorem pd_0 : parseMethodDescriptor "([CI[BII)I" = some ⟨[(.array .char), .int, (.array .byte), .int, .int], some .int⟩ := by decide +kernel
theorem d_cmp3_0 : decode jdk_52_method_16_code 0 = .ok (.iload_n 2, 1) := by decide +kernel
theorem d_cmp3_1 : decode jdk_52_method_16_code 1 = .ok (.newarray .byte, 2) := by decide +kernel
theorem d_cmp3_3 : decode jdk_52_method_16_code 3 = .ok (.astore_n 3, 1) := by decide +kernel
theorem d_cmp3_4 : decode jdk_52_method_16_code 4 = .ok (.aload_n 0, 1) := by decide +kernel
theorem d_cmp3_5 : decode jdk_52_method_16_code 5 = .ok (.iload_n 1, 1) := by decide +kernel
theorem d_cmp3_6 : decode jdk_52_method_16_code 6 = .ok (.aload_n 3, 1) := by decide +kernel
theorem d_cmp3_7 : decode jdk_52_method_16_code 7 = .ok (.iconst 0, 1) := by decide +kernel
theorem d_cmp3_8 : decode jdk_52_method_16_code 8 = .ok (.iload_n 2, 1) := by decide +kernel
theorem d_cmp3_9 : decode jdk_52_method_16_code 9 = .ok (.invokestatic 115, 3) := by decide +kernel
theorem d_cmp3_12 : decode jdk_52_method_16_code 12 = .ok (.istore 4, 2) := by decide +kernel
theorem d_cmp3_14 : decode jdk_52_method_16_code 14 = .ok (.iload 4, 2) := by decide +kernel
theorem d_cmp3_16 : decode jdk_52_method_16_code 16 = .ok (.iload_n 2, 1) := by decide +kernel
theorem d_cmp3_17 : decode jdk_52_method_16_code 17 = .ok (.if_icmp .eq 40, 3) := by decide +kernel
theorem d_cmp3_57 : decode jdk_52_method_16_code 57 = .ok (.aload_n 3, 1) := by decide +kernel
theorem d_cmp3_58 : decode jdk_52_method_16_code 58 = .ok (.areturn, 1) := by decide +kernel
abbrev rm_cmp3 : Room := { frames := 1, cells := 1, slots := 2, locals := 18 }
abbrev M_cmp3 : Mx := (jdk_52_method_16_code, y_cmp3.cls, (some (.array .byte)), y_cmp3.name, 6, rm_cmp3)
set_option maxRecDepth 65536 in
set_option maxHeartbeats 4000000 in
theorem con_cmp3 {G : Gx} (hG : OGood G) {h0 : Heap} {ca : Addr} {cs : List Int32} (hN : cs.length ≤ 2) (Y : Ary G.Z h0 ca .char (cs.map Value.int)) (hlat : Lat cs) : OCon G y_cmp3 jdk_52_method_16_code 6 (some (.array .byte)) [] rm_cmp3 #[.ref ca, .int 0, .int (Int32.ofNat cs.length)] [] h0 (Q_cmp3 G h0 cs) := by
  refine OCon.intro pn_0 (own_ew hG) #[.val (.ref ca), .val (.int 0), .val (.int (Int32.ofNat cs.length)), .unset, .unset, .unset] (fun m => by first | rfl | (simp [entryFrame, mkF, argsToLocals, Value.category]; done)) ?_
  intro K c
  replace c : OAt G K M_cmp3 [] 0 0 h0 0 #[.val (.ref ca), .val (.int 0), .val (.int (Int32.ofNat cs.length)), .unset, .unset, .unset] [] := c
  have hlen : cs.length < 2147483648 := by omega
  replace c := c.iloadN 1 d_cmp3_0 rfl
  obtain ⟨d, h_d, s_d, x_d, g_d, Y_d, c⟩ := c.newarr 3 d_cmp3_1 .byte rfl (hG.1 _ (List.mem_of_getElem? (i := 21) rfl)) (cs.length) rfl 2 hN (by decide) (by decide) (by decide)
  replace c := c.astoreN 4 d_cmp3_3 rfl #[.val (.ref ca), .val (.int 0), .val (.int (Int32.ofNat cs.length)), .val (.ref d), .unset, .unset] rfl
  replace c := c.aloadN 5 d_cmp3_4 rfl rfl
  replace c := c.iloadN 6 d_cmp3_5 rfl
  replace c := c.aloadN 7 d_cmp3_6 rfl rfl
  replace c := c.iconst 8 d_cmp3_7 0 (by decide)
  replace c := c.iloadN 9 d_cmp3_8 rfl
  obtain ⟨v, h1, sf, ⟨k, hk, rfl, K1, D1, la, hk2⟩, c⟩ := c.callS (y := y_cmp5) (argsL := [.ref ca, .int 0, .ref d, .int 0, .int (Int32.ofNat cs.length)]) (rest := []) 12 d_cmp3_9 (con_cmp5 hG g_d (Y.ext x_d) Y_d (by simp)) rfl (hG.1 _ (List.mem_of_getElem? (i := 22) rfl)) (hG.1 _ (List.mem_of_getElem? (i := 23) rfl)) (hG.1 _ (List.mem_of_getElem? (i := 19) rfl)) (hG.1 _ (List.mem_of_getElem? (i := 24) rfl)) (lenOf pd_0 rfl) (by simp) (W := 0) rfl (by decide) (by decide) (by decide) (by decide)
  replace c := c [] (by simp)
  replace c : OAt G K M_cmp3 [d] 1 2 h1 12 #[.val (.ref ca), .val (.int 0), .val (.int (Int32.ofNat cs.length)), .val (.ref d), .unset, .unset] [.int (Int32.ofNat k)] := c
  replace c := c.istore 14 d_cmp3_12 #[.val (.ref ca), .val (.int 0), .val (.int (Int32.ofNat cs.length)), .val (.ref d), .val (.int (Int32.ofNat k)), .unset] rfl
  replace c := c.iload 16 d_cmp3_14 rfl
  replace c := c.iloadN 17 d_cmp3_16 rfl
  have K01 : Keep h0 h1 [] := ((Keep.refl h0 []).ext x_d).trans K1 (fun x hx => by cases List.mem_singleton.mp hx; exact Or.inr (Nat.le_of_eq s_d.symm))
  by_cases q : k = cs.length
  · subst q
    replace c := c.icT 57 d_cmp3_17 (own_ic_eq_t rfl)
    replace c := c.aloadN 58 d_cmp3_57 rfl rfl
    exact c.reta (t := (.array .byte)) d_cmp3_58 rfl rfl rfl rfl (fun sf hs => ⟨d, rfl, Nat.le_of_eq s_d.symm, K01, Or.inl ⟨by simpa using la, by rw [List.take_of_length_le (by rw [encL_len]; exact Nat.le_refl _), List.drop_of_length_le (by simp)] at D1; simpa using D1⟩⟩) (by decide) (by decide)
  · skip
    have hkl : k < cs.length := by omega
    obtain ⟨ck, hck⟩ : ∃ ck, cs[k]? = some ck := ⟨cs[k], List.getElem?_eq_getElem hkl⟩
    have big := hk2 ck hck
    have chs := own_chs Y
    exact absurd (hlat ck (List.mem_of_getElem? hck)).2 (by omega)
abbrev y_si4 : MethodName := ⟨"java/lang/String", "<init>", "([CIILjava/lang/Void;)V"⟩
theorem pd_1 : parseMethodDescriptor "([CII)[B" = some ⟨[(.array .char), .int, .int], some (.array .byte)⟩ := by decide +kernel
theorem pd_2 : parseMethodDescriptor "([BI)B" = some ⟨[(.array .byte), .int], some .byte⟩ := by decide +kernel
theorem pn_1 : plainName "java/lang/String" = true := by first | (simp [plainName, overriddenIn]; done) | decide +kernel
theorem d_si4_0 : decode jdk_42_method_149_code 0 = .ok (.aload_n 0, 1) := by decide +kernel
theorem d_si4_1 : decode jdk_42_method_149_code 1 = .ok (.invokespecial 1, 3) := by decide +kernel
theorem d_si4_4 : decode jdk_42_method_149_code 4 = .ok (.iload_n 3, 1) := by decide +kernel
theorem d_si4_5 : decode jdk_42_method_149_code 5 = .ok (.ifCond .ne 22, 3) := by decide +kernel
theorem d_si4_27 : decode jdk_42_method_149_code 27 = .ok (.getstatic 38, 3) := by decide +kernel
theorem d_si4_30 : decode jdk_42_method_149_code 30 = .ok (.ifCond .eq 28, 3) := by decide +kernel
theorem d_si4_33 : decode jdk_42_method_149_code 33 = .ok (.aload_n 1, 1) := by decide +kernel
theorem d_si4_34 : decode jdk_42_method_149_code 34 = .ok (.iload_n 2, 1) := by decide +kernel
theorem d_si4_35 : decode jdk_42_method_149_code 35 = .ok (.iload_n 3, 1) := by decide +kernel
theorem d_si4_36 : decode jdk_42_method_149_code 36 = .ok (.invokestatic 177, 3) := by decide +kernel
theorem d_si4_39 : decode jdk_42_method_149_code 39 = .ok (.astore 5, 2) := by decide +kernel
theorem d_si4_41 : decode jdk_42_method_149_code 41 = .ok (.aload_n 0, 1) := by decide +kernel
theorem d_si4_42 : decode jdk_42_method_149_code 42 = .ok (.aload 5, 2) := by decide +kernel
theorem d_si4_44 : decode jdk_42_method_149_code 44 = .ok (.iload_n 3, 1) := by decide +kernel
theorem d_si4_45 : decode jdk_42_method_149_code 45 = .ok (.invokestatic 47, 3) := by decide +kernel
theorem d_si4_48 : decode jdk_42_method_149_code 48 = .ok (.putfield 15, 3) := by decide +kernel
theorem d_si4_51 : decode jdk_42_method_149_code 51 = .ok (.aload_n 0, 1) := by decide +kernel
theorem d_si4_52 : decode jdk_42_method_149_code 52 = .ok (.aload 5, 2) := by decide +kernel
theorem d_si4_54 : decode jdk_42_method_149_code 54 = .ok (.putfield 9, 3) := by decide +kernel
theorem d_si4_57 : decode jdk_42_method_149_code 57 = .ok (.return_, 1) := by decide +kernel
abbrev rm_si4 : Room := { frames := 2, cells := 1, slots := 2, locals := 35 }
abbrev M_si4 : Mx := (jdk_42_method_149_code, y_si4.cls, none, y_si4.name, 6, rm_si4)
set_option maxRecDepth 65536 in
set_option maxHeartbeats 4000000 in
theorem con_si4 {G : Gx} (hG : OGood G) {h0 : Heap} {a ca : Addr} {cs : List Int32} (hN : cs.length ≤ 2) (ha : G.n0 ≤ a) (E : Exa G.Z h0 a "java/lang/String") (V : Fld G.Z h0 a "java/lang/String" "value" "[B" .null) (C0 : Fld G.Z h0 a "java/lang/String" "coder" "B" (.int 0)) (Y : Ary G.Z h0 ca .char (cs.map Value.int)) (hlat : Lat cs) (hemp : cs ≠ []) : OCon G y_si4 jdk_42_method_149_code 6 none [] rm_si4 #[.ref a, .ref ca, .int 0, .int (Int32.ofNat cs.length), .null] [a] h0 (fun v h' _ => v = none ∧ Keep h0 h' [a] ∧ Str G.Z h' a cs) := by
  refine OCon.intro pn_1 (own_ew hG) #[.val (.ref a), .val (.ref ca), .val (.int 0), .val (.int (Int32.ofNat cs.length)), .val (.null), .unset] (fun m => by first | rfl | (simp [entryFrame, mkF, argsToLocals, Value.category]; done)) ?_
  intro K c
  replace c : OAt G K M_si4 [a] 0 0 h0 0 #[.val (.ref a), .val (.ref ca), .val (.int 0), .val (.int (Int32.ofNat cs.length)), .val (.null), .unset] [] := c
  have hlen : cs.length < 2147483648 := by omega
  have wi := (hG.1 _ (List.mem_of_getElem? (i := 4) rfl))
  have LV : Laid G.Z G.a0 "java/lang/String" "java/lang/String" "value" "[B" := Or.inr (hG.1 _ (List.mem_of_getElem? (i := 31) rfl))
  have LC : Laid G.Z G.a0 "java/lang/String" "java/lang/String" "coder" "B" := Or.inr (hG.1 _ (List.mem_of_getElem? (i := 29) rfl))
  have sne : Jvm.RoadKit.slotOf G.Z "java/lang/String" "value" "[B" ≠ Jvm.RoadKit.slotOf G.Z "java/lang/String" "coder" "B" := slot_ne LV LC (by decide) (t := .array .byte) (t' := .byte) (by decide) (by decide)
  replace c := c.aloadN 1 d_si4_0 rfl rfl
  replace c := c.initO 4 d_si4_1 (hG.1 _ (List.mem_of_getElem? (i := 13) rfl)) (hG.1 _ (List.mem_of_getElem? (i := 14) rfl)) (hG.1 _ (List.mem_of_getElem? (i := 15) rfl)) (W := 0) rfl (by decide) (by decide)
  replace c := c.iloadN 5 d_si4_4 rfl
  by_cases q : cs = []
  · subst q
    exact absurd rfl hemp
  · skip
    have hpos : 0 < cs.length := List.length_pos_iff.mpr q
    replace c := c.ifT 27 d_si4_5 (own_if_ne_t (fun e => by have := own_inj (n := 0) e hlen (by decide); omega))
    obtain ⟨z, hz, hz0⟩ := hG.2.2.1
    replace c := c.getS 30 d_si4_27 (hG.1 _ (List.mem_of_getElem? (i := 16) rfl)) hz
    replace c := c.ifF 33 d_si4_30 (own_if_eq_f hz0)
    replace c := c.aloadN 34 d_si4_33 rfl rfl
    replace c := c.iloadN 35 d_si4_34 rfl
    replace c := c.iloadN 36 d_si4_35 rfl
    obtain ⟨v, h1, sf, ⟨b, rfl, s_b, K1, hb⟩, c⟩ := c.callS (y := y_cmp3) (argsL := [.ref ca, .int 0, .int (Int32.ofNat cs.length)]) (rest := []) 39 d_si4_36 (con_cmp3 hG hN Y hlat) rfl (hG.1 _ (List.mem_of_getElem? (i := 17) rfl)) (hG.1 _ (List.mem_of_getElem? (i := 18) rfl)) (hG.1 _ (List.mem_of_getElem? (i := 19) rfl)) (hG.1 _ (List.mem_of_getElem? (i := 20) rfl)) (lenOf pd_1 rfl) (by simp) (W := 0) rfl (by decide) (by decide) (by decide) (by decide)
    replace c := c [] (by simp)
    replace c : OAt G K M_si4 [a] 1 2 h1 39 #[.val (.ref a), .val (.ref ca), .val (.int 0), .val (.int (Int32.ofNat cs.length)), .val (.null), .unset] [.ref b] := c
    replace c := c.astore 41 d_si4_39 rfl #[.val (.ref a), .val (.ref ca), .val (.int 0), .val (.int (Int32.ofNat cs.length)), .val (.null), .val (.ref b)] rfl
    replace c := c.aloadN 42 d_si4_41 rfl rfl
    replace c := c.aload 44 d_si4_42 rfl rfl
    replace c := c.iloadN 45 d_si4_44 rfl
    have ca1 : a < h0.size := E.lt
    obtain ⟨co, vs, hco, Y1, hn, hst⟩ : ∃ (co : Int32) (vs : List Value), (Jvm.Free.XT.ushr (Int32.ofNat cs.length - Int32.ofNat vs.length) 31).toInt8.toInt32 = co ∧ Ary G.Z h1 b .byte vs ∧ (co = 0 ∨ co = 1) ∧ ∀ h2 : Heap, StrB G.Z h2 a co vs → Str G.Z h2 a cs := by
      rcases hb with ⟨la, D⟩ | ⟨chs, big, D⟩
      · exact ⟨0, _, by rw [encL_len, Int32.sub_self]; decide, D, Or.inl rfl, fun h2 q => Or.inl ⟨la, q⟩⟩
      · exact ⟨1, _, by rw [encU_len]; exact own_cod1 hpos (by omega), D, Or.inr rfl, fun h2 q => Or.inr ⟨chs, big, q⟩⟩
    obtain ⟨v, h2, sf, ⟨rfl, hh⟩, c⟩ := c.callS (y := y_cod) (argsL := [.ref b, .int (Int32.ofNat cs.length)]) (rest := [.ref a]) 48 d_si4_45 (con_cod hG Y1 hco (by rcases hn with rfl | rfl <;> rfl)) rfl (hG.1 _ (List.mem_of_getElem? (i := 25) rfl)) (hG.1 _ (List.mem_of_getElem? (i := 26) rfl)) (hG.1 _ (List.mem_of_getElem? (i := 19) rfl)) (hG.1 _ (List.mem_of_getElem? (i := 27) rfl)) (lenOf pd_2 rfl) (by simp) (W := 1) rfl (by decide) (by decide) (by decide) (by decide)
    rw [hh] at c
    replace c := c [] (by simp)
    replace c : OAt G K M_si4 [a] 1 2 h1 48 #[.val (.ref a), .val (.ref ca), .val (.int 0), .val (.int (Int32.ofNat cs.length)), .val (.null), .val (.ref b)] [.int co, .ref a] := c
    have nb : b ≠ a := Nat.ne_of_gt (Nat.lt_of_lt_of_le ca1 s_b)
    have E1 := E.keep K1
    have C1 := C0.keep K1 nin0
    have V1 := V.keep K1 nin0
    have fco : fits .byte (.int co) = true ∧ narrow .byte (.int co) = .int co := by rcases hn with rfl | rfl <;> exact ⟨rfl, rfl⟩
    obtain ⟨hp1, Wp1, c⟩ := c.putF (C := "java/lang/String") (O := "java/lang/String") (n := "coder") (d := "B") (ty := .byte) 51 d_si4_48 (hG.1 _ (List.mem_of_getElem? (i := 28) rfl)) C1 E1 (Or.inr ⟨(hG.1 _ (List.mem_of_getElem? (i := 29) rfl)), rfl, rfl⟩) (hG.1 _ (List.mem_of_getElem? (i := 4) rfl)) (by decide) fco.2 fco.1 ha (Or.inl (by simp))
    have E2 := E1.wr Wp1
    have C2 := C1.same Wp1
    have V2 := V1.other Wp1 (Or.inr sne)
    have Y2 := Y1.other Wp1 nb
    replace c := c.aloadN 52 d_si4_51 rfl rfl
    replace c := c.aload 54 d_si4_52 rfl rfl
    obtain ⟨hp2, Wp2, c⟩ := c.putF (C := "java/lang/String") (O := "java/lang/String") (n := "value") (d := "[B") (ty := (.array .byte)) 57 d_si4_54 (hG.1 _ (List.mem_of_getElem? (i := 30) rfl)) V2 E2 (Or.inr ⟨(hG.1 _ (List.mem_of_getElem? (i := 31) rfl)), rfl, rfl⟩) (hG.1 _ (List.mem_of_getElem? (i := 4) rfl)) (by decide) rfl (by first | rfl | decide) ha (Or.inl (by simp))
    have E3 := E2.wr Wp2
    have C3 := C2.other Wp2 (Or.inr sne.symm)
    have V3 := V2.same Wp2
    have Y3 := Y2.other Wp2 nb
    exact c.ret d_si4_57 rfl (fun sf hs => ⟨rfl, (((Keep.refl h0 [a]).trans K1 (fun x hx => by cases hx)).wr Wp1 (Or.inl (by simp))).wr Wp2 (Or.inl (by simp)), hst _ ⟨E3, C3, b, V3, Y3⟩⟩) (by decide) (by decide)
abbrev y_si1 : MethodName := ⟨"java/lang/String", "<init>", "([C)V"⟩
theorem pd_3 : parseMethodDescriptor "([CIILjava/lang/Void;)V" = some ⟨[(.array .char), .int, .int, (.object "java/lang/Void")], none⟩ := by decide +kernel
theorem d_si1_0 : decode jdk_42_method_3_code 0 = .ok (.aload_n 0, 1) := by decide +kernel
theorem d_si1_1 : decode jdk_42_method_3_code 1 = .ok (.aload_n 1, 1) := by decide +kernel
theorem d_si1_2 : decode jdk_42_method_3_code 2 = .ok (.iconst 0, 1) := by decide +kernel
theorem d_si1_3 : decode jdk_42_method_3_code 3 = .ok (.aload_n 1, 1) := by decide +kernel
theorem d_si1_4 : decode jdk_42_method_3_code 4 = .ok (.arraylength, 1) := by decide +kernel
theorem d_si1_5 : decode jdk_42_method_3_code 5 = .ok (.aconst_null, 1) := by decide +kernel
theorem d_si1_6 : decode jdk_42_method_3_code 6 = .ok (.invokespecial 27, 3) := by decide +kernel
theorem d_si1_9 : decode jdk_42_method_3_code 9 = .ok (.return_, 1) := by decide +kernel
abbrev rm_si1 : Room := { frames := 3, cells := 1, slots := 2, locals := 52 }
abbrev M_si1 : Mx := (jdk_42_method_3_code, y_si1.cls, none, y_si1.name, 2, rm_si1)
set_option maxRecDepth 65536 in
set_option maxHeartbeats 4000000 in
theorem con_si1 {G : Gx} (hG : OGood G) {h0 : Heap} {a ca : Addr} {cs : List Int32} (hN : cs.length ≤ 2) (ha : G.n0 ≤ a) (E : Exa G.Z h0 a "java/lang/String") (V : Fld G.Z h0 a "java/lang/String" "value" "[B" .null) (C0 : Fld G.Z h0 a "java/lang/String" "coder" "B" (.int 0)) (Y : Ary G.Z h0 ca .char (cs.map Value.int)) (hlat : Lat cs) (hemp : cs ≠ []) : OCon G y_si1 jdk_42_method_3_code 2 none [] rm_si1 #[.ref a, .ref ca] [a] h0 (fun v h' _ => v = none ∧ Keep h0 h' [a] ∧ Str G.Z h' a cs) := by
  refine OCon.intro pn_1 (own_ew hG) #[.val (.ref a), .val (.ref ca)] (fun m => by first | rfl | (simp [entryFrame, mkF, argsToLocals, Value.category]; done)) ?_
  intro K c
  replace c : OAt G K M_si1 [a] 0 0 h0 0 #[.val (.ref a), .val (.ref ca)] [] := c
  replace c := c.aloadN 1 d_si1_0 rfl rfl
  replace c := c.aloadN 2 d_si1_1 rfl rfl
  replace c := c.iconst 3 d_si1_2 0 (by decide)
  replace c := c.aloadN 4 d_si1_3 rfl rfl
  replace c := c.arrlen 5 d_si1_4 Y (Int32.ofNat cs.length) (by simp)
  replace c := c.aconstNull 6 d_si1_5
  obtain ⟨v, h1, sf, ⟨rfl, K1, S1⟩, c⟩ := c.callI (y := y_si4) (a := a) (argsL := [.ref ca, .int 0, .int (Int32.ofNat cs.length), .null]) (rest := []) 9 d_si1_6 (con_si4 hG hN ha E V C0 Y hlat hemp) rfl (hG.1 _ (List.mem_of_getElem? (i := 9) rfl)) (hG.1 _ (List.mem_of_getElem? (i := 10) rfl)) (hG.1 _ (List.mem_of_getElem? (i := 5) rfl)) (hG.1 _ (List.mem_of_getElem? (i := 12) rfl)) (lenOf pd_3 rfl) (by simp) (W := 0) rfl (by decide) (by decide) (by decide) (by decide)
  replace c := c [] (by simp)
  replace c : OAt G K M_si1 [a] 1 2 h1 9 #[.val (.ref a), .val (.ref ca)] [] := c
  exact c.ret d_si1_9 rfl (fun sf hs => ⟨rfl, K1, S1⟩) (by decide) (by decide)
abbrev y_chk : MethodName := ⟨"com/example/iron_gate/irongate/Periods", "check", "(Ljava/lang/String;JJ)J"⟩
theorem pn_2 : plainName "com/example/iron_gate/irongate/Periods" = true := by first | (simp [plainName, overriddenIn]; done) | decide +kernel
theorem d_chk_0 : decode prog_17_method_3_code 0 = .ok (.lload_n 1, 1) := by decide +kernel
theorem d_chk_1 : decode prog_17_method_3_code 1 = .ok (.lload_n 3, 1) := by decide +kernel
theorem d_chk_2 : decode prog_17_method_3_code 2 = .ok (.lcmp, 1) := by decide +kernel
theorem d_chk_3 : decode prog_17_method_3_code 3 = .ok (.ifCond .lt 11, 3) := by decide +kernel
theorem d_chk_6 : decode prog_17_method_3_code 6 = .ok (.lload_n 1, 1) := by decide +kernel
theorem d_chk_7 : decode prog_17_method_3_code 7 = .ok (.ldc2_w 13, 3) := by decide +kernel
theorem d_chk_10 : decode prog_17_method_3_code 10 = .ok (.lcmp, 1) := by decide +kernel
theorem d_chk_11 : decode prog_17_method_3_code 11 = .ok (.ifCond .le 18, 3) := by decide +kernel
theorem d_chk_29 : decode prog_17_method_3_code 29 = .ok (.lload_n 1, 1) := by decide +kernel
theorem d_chk_30 : decode prog_17_method_3_code 30 = .ok (.lreturn, 1) := by decide +kernel
abbrev rm_chk : Room := { frames := 0, cells := 0, slots := 0, locals := 0 }
abbrev M_chk : Mx := (prog_17_method_3_code, y_chk.cls, (some .long), y_chk.name, 5, rm_chk)
set_option maxRecDepth 65536 in
set_option maxHeartbeats 4000000 in
theorem con_chk {G : Gx} (hG : OGood G) {h0 : Heap} {a : Addr} {q r : Int64} (h1 : ¬ q < r) (h2 : ¬ (2678400000 : Int64) < q) : OCon G y_chk prog_17_method_3_code 5 (some .long) [] rm_chk #[.ref a, .long q, .long r] [] h0 (fun v h' _ => v = some (.long q) ∧ h' = h0) := by
  refine OCon.intro pn_2 (own_ew hG) #[.val (.ref a), .val (.long q), .second, .val (.long r), .second] (fun m => by first | rfl | (simp [entryFrame, mkF, argsToLocals, Value.category]; done)) ?_
  intro K c
  replace c : OAt G K M_chk [] 0 0 h0 0 #[.val (.ref a), .val (.long q), .second, .val (.long r), .second] [] := c
  replace c := c.lloadN 1 d_chk_0 rfl
  replace c := c.lloadN 2 d_chk_1 rfl
  replace c := c.lcmp 3 d_chk_2
  replace c := c.ifF 6 d_chk_3 (own_if_lt_f (by rw [own_cmpL_lt]; exact h1))
  replace c := c.lloadN 7 d_chk_6 rfl
  replace c := c.ldcL 10 d_chk_7 (v := 2678400000) (hG.1 _ (List.mem_of_getElem? (i := 36) rfl))
  replace c := c.lcmp 11 d_chk_10
  replace c := c.ifT 29 d_chk_11 (own_if_le_t (by rw [own_cmpL_gt]; exact h2))
  replace c := c.lloadN 30 d_chk_29 rfl
  exact c.retl d_chk_30 rfl (fun sf hs => ⟨rfl, rfl⟩) (by decide) (by decide)
theorem pd_4 : parseMethodDescriptor "([C)V" = some ⟨[(.array .char)], none⟩ := by decide +kernel
theorem pd_5 : parseMethodDescriptor "(Ljava/lang/String;JJ)J" = some ⟨[(.object "java/lang/String"), .long, .long], some .long⟩ := by decide +kernel
theorem pn_3 : plainName "com/example/iron_gate/irongate/PeriodsCheckPinLaw" = true := by first | (simp [plainName, overriddenIn]; done) | decide +kernel
abbrev rm_law : Room := room_1
abbrev M_law : Mx := (code, x.cls, ret, x.name, maxLocals, rm_law)
set_option maxRecDepth 65536 in
set_option maxHeartbeats 4000000 in
theorem con_law {G : Gx} (hG : OGood G) {h0 : Heap} {a0 b0 : Int64} {c0 w0 : Int32} : OCon G x code maxLocals ret tables_1 rm_law #[.long a0, .long b0, .int c0, .int w0] [] h0 (fun v h' _ => v = some (.int 1)) := by
  refine OCon.intro pn_3 (own_ew hG) #[.val (.long a0), .second, .val (.long b0), .second, .val (.int c0), .val (.int w0), .unset, .unset, .unset, .unset, .unset, .unset, .unset, .unset, .unset, .unset, .unset] (fun m => by first | rfl | (simp [entryFrame, mkF, argsToLocals, Value.category]; done)) ?_
  intro K c
  replace c : OAt G K M_law [] 0 0 h0 0 #[.val (.long a0), .second, .val (.long b0), .second, .val (.int c0), .val (.int w0), .unset, .unset, .unset, .unset, .unset, .unset, .unset, .unset, .unset, .unset, .unset] [] := c
  replace c := c.ldcL 3 at_0 (v := 2678400000) (hG.1 _ (List.mem_of_getElem? (i := 0) rfl))
  replace c := c.lstore 5 at_3 #[.val (.long a0), .second, .val (.long b0), .second, .val (.int c0), .val (.int w0), .val (.long 2678400000), .second, .unset, .unset, .unset, .unset, .unset, .unset, .unset, .unset, .unset] rfl
  replace c := c.lconst 6 at_5 1 (by decide)
  replace c := c.lloadN 7 at_6 rfl
  replace c := c.ldcL 10 at_7 (v := 9223372036854775807) (hG.1 _ (List.mem_of_getElem? (i := 1) rfl))
  replace c := c.land 11 at_10
  replace c := c.lload 13 at_11 rfl
  replace c := c.lrem 14 at_13 (by decide)
  replace c := c.ladd 15 at_14
  replace c := c.lstore 17 at_15 #[.val (.long a0), .second, .val (.long b0), .second, .val (.int c0), .val (.int w0), .val (.long 2678400000), .second, .val (.long (1 + ((a0 &&& 9223372036854775807) % 2678400000))), .second, .unset, .unset, .unset, .unset, .unset, .unset, .unset] rfl
  replace c := c.iload 19 at_17 rfl
  replace c := c.iconst 20 at_19 4 (by decide)
  replace c := c.iand 21 at_20
  obtain ⟨mn, hm1, hm2, c⟩ : ∃ mn : Int64, 1 ≤ mn.toInt ∧ mn.toInt ≤ 2678400000 ∧ OAt G K M_law [] 0 0 h0 28 #[.val (.long a0), .second, .val (.long b0), .second, .val (.int c0), .val (.int w0), .val (.long 2678400000), .second, .val (.long mn), .second, .unset, .unset, .unset, .unset, .unset, .unset, .unset] [] := by
    have hb := own_rem1 a0
    by_cases q : (c0 &&& 4) = 0
    · skip
      replace c := c.ifT 28 at_21 (own_if_eq_t q)
      exact ⟨_, hb.1, hb.2, c⟩
    · skip
      replace c := c.ifF 24 at_21 (own_if_eq_f q)
      replace c := c.lload 26 at_24 rfl
      replace c := c.lstore 28 at_26 #[.val (.long a0), .second, .val (.long b0), .second, .val (.int c0), .val (.int w0), .val (.long 2678400000), .second, .val (.long 2678400000), .second, .unset, .unset, .unset, .unset, .unset, .unset, .unset] rfl
      exact ⟨_, by decide, by decide, c⟩
  replace c := c.iload 30 at_28 rfl
  replace c := c.bipush 32 at_30 8 (by decide)
  replace c := c.iand 33 at_32
  obtain ⟨mm, hn1, hn2, c⟩ : ∃ mm : Int64, 1 ≤ mm.toInt ∧ mm.toInt ≤ 2678400000 ∧ OAt G K M_law [] 0 0 h0 39 #[.val (.long a0), .second, .val (.long b0), .second, .val (.int c0), .val (.int w0), .val (.long 2678400000), .second, .val (.long mm), .second, .unset, .unset, .unset, .unset, .unset, .unset, .unset] [] := by
    by_cases q : (c0 &&& 8) = 0
    · skip
      replace c := c.ifT 39 at_33 (own_if_eq_t q)
      exact ⟨_, hm1, hm2, c⟩
    · skip
      replace c := c.ifF 36 at_33 (own_if_eq_f q)
      replace c := c.lconst 37 at_36 1 (by decide)
      replace c := c.lstore 39 at_37 #[.val (.long a0), .second, .val (.long b0), .second, .val (.int c0), .val (.int w0), .val (.long 2678400000), .second, .val (.long 1), .second, .unset, .unset, .unset, .unset, .unset, .unset, .unset] rfl
      exact ⟨_, by decide, by decide, c⟩
  replace c := c.lload 41 at_39 rfl
  replace c := c.lloadN 42 at_41 rfl
  replace c := c.ldcL 45 at_42 (v := 9223372036854775807) (hG.1 _ (List.mem_of_getElem? (i := 1) rfl))
  replace c := c.land 46 at_45
  replace c := c.lload 48 at_46 rfl
  replace c := c.lload 50 at_48 rfl
  replace c := c.lsub 51 at_50
  replace c := c.lconst 52 at_51 1 (by decide)
  replace c := c.ladd 53 at_52
  have hd0 := own_den hn1 hn2
  replace c := c.lrem 54 at_53 hd0.1
  replace c := c.ladd 55 at_54
  replace c := c.lstore 57 at_55 #[.val (.long a0), .second, .val (.long b0), .second, .val (.int c0), .val (.int w0), .val (.long 2678400000), .second, .val (.long mm), .second, .val (.long (mm + ((b0 &&& 9223372036854775807) % ((2678400000 - mm) + 1)))), .second, .unset, .unset, .unset, .unset, .unset] rfl
  replace c := c.iload 59 at_57 rfl
  replace c := c.iconst 60 at_59 3 (by decide)
  replace c := c.iand 61 at_60
  replace c := c.istore 63 at_61 #[.val (.long a0), .second, .val (.long b0), .second, .val (.int c0), .val (.int w0), .val (.long 2678400000), .second, .val (.long mm), .second, .val (.long (mm + ((b0 &&& 9223372036854775807) % ((2678400000 - mm) + 1)))), .second, .val (.int (c0 &&& 3)), .unset, .unset, .unset, .unset] rfl
  replace c := c.iload 65 at_63 rfl
  have hms := own_ms b0 hn1 hn2
  obtain ⟨ms, hs1, hs2, c⟩ : ∃ ms : Int64, mm.toInt ≤ ms.toInt ∧ ms.toInt ≤ 2678400000 ∧ OAt G K M_law [] 0 0 h0 85 #[.val (.long a0), .second, .val (.long b0), .second, .val (.int c0), .val (.int w0), .val (.long 2678400000), .second, .val (.long mm), .second, .val (.long ms), .second, .val (.int (c0 &&& 3)), .unset, .unset, .unset, .unset] [] := by
    by_cases q : (c0 &&& 3) = 0
    · skip
      replace c := c.ifF 68 at_65 (own_if_ne_f q)
      replace c := c.lload 70 at_68 rfl
      replace c := c.lstore 72 at_70 #[.val (.long a0), .second, .val (.long b0), .second, .val (.int c0), .val (.int w0), .val (.long 2678400000), .second, .val (.long mm), .second, .val (.long mm), .second, .val (.int (c0 &&& 3)), .unset, .unset, .unset, .unset] rfl
      replace c := c.goto 85 at_72
      exact ⟨_, Int.le_refl _, hn2, c⟩
    · skip
      replace c := c.ifT 75 at_65 (own_if_ne_t q)
      replace c := c.iload 77 at_75 rfl
      replace c := c.iconst 78 at_77 1 (by decide)
      by_cases q1 : (c0 &&& 3) = 1
      · skip
        replace c := c.icF 81 at_78 (own_ic_ne_f q1)
        replace c := c.lload 83 at_81 rfl
        replace c := c.lstore 85 at_83 #[.val (.long a0), .second, .val (.long b0), .second, .val (.int c0), .val (.int w0), .val (.long 2678400000), .second, .val (.long mm), .second, .val (.long 2678400000), .second, .val (.int (c0 &&& 3)), .unset, .unset, .unset, .unset] rfl
        exact ⟨2678400000, by rw [own_maxv]; exact hn2, by rw [own_maxv]; exact Int.le_refl _, c⟩
      · skip
        replace c := c.icT 85 at_78 (own_ic_ne_t q1)
        exact ⟨_, hms.1, hms.2, c⟩
  replace c := c.iconst 86 at_85 2 (by decide)
  obtain ⟨ca, h_ca, s_ca, x_ca, g_ca, Y_ca, c⟩ := c.newarr 88 at_86 .char rfl (hG.1 _ (List.mem_of_getElem? (i := 2) rfl)) (2) (by decide) 2 (by decide) (by decide) (by decide) (by decide)
  replace c := c.astore 90 at_88 rfl #[.val (.long a0), .second, .val (.long b0), .second, .val (.int c0), .val (.int w0), .val (.long 2678400000), .second, .val (.long mm), .second, .val (.long ms), .second, .val (.int (c0 &&& 3)), .val (.ref ca), .unset, .unset, .unset] rfl
  replace c := c.aload 92 at_90 rfl rfl
  replace c := c.iconst 93 at_92 0 (by decide)
  replace c := c.iload 95 at_93 rfl
  replace c := c.sipush 98 at_95 255 (by decide)
  replace c := c.iand 99 at_98
  replace c := c.i2c 100 at_99
  generalize hg0 : ((w0 &&& 255).toUInt32.toUInt16.toUInt32.toInt32) = ch0 at c
  have r0 : 0 ≤ ch0.toInt ∧ ch0.toInt < 256 := by rw [← hg0]; exact own_mask_rng _
  obtain ⟨hs0, Ws0, Ys0, c⟩ := c.castore 101 at_100 Y_ca (0) (by decide) (by simp) g_ca (ch0) (own_narc ⟨r0.1, by omega⟩)
  replace c := c.aload 103 at_101 rfl rfl
  replace c := c.iconst 104 at_103 1 (by decide)
  replace c := c.iload 106 at_104 rfl
  replace c := c.bipush 108 at_106 8 (by decide)
  replace c := c.ishr 109 at_108
  replace c := c.sipush 112 at_109 255 (by decide)
  replace c := c.iand 113 at_112
  replace c := c.i2c 114 at_113
  generalize hg1 : (((w0 >>> (8 &&& 31)) &&& 255).toUInt32.toUInt16.toUInt32.toInt32) = ch1 at c
  have r1 : 0 ≤ ch1.toInt ∧ ch1.toInt < 256 := by rw [← hg1]; exact own_mask_rng _
  obtain ⟨hs1, Ws1, Ys1, c⟩ := c.castore 115 at_114 Ys0 (1) (by decide) (by simp) g_ca (ch1) (own_narc ⟨r1.1, by omega⟩)
  obtain ⟨a, h_a, s_a, x_a, g_a, E_a, D_a, U_a, c⟩ := c.newO 118 at_115 (C := "java/lang/String") (hG.1 _ (List.mem_of_getElem? (i := 3) rfl)) (hG.1 _ (List.mem_of_getElem? (i := 4) rfl)) (hG.1 _ (List.mem_of_getElem? (i := 5) rfl)) (by decide) (by decide)
  replace c := c.dup 119 at_118 rfl
  replace c := c.aload 121 at_119 rfl rfl
  have V0 : Fld G.Z h_a a "java/lang/String" "value" "[B" .null := D_a (Or.inr (hG.1 _ (List.mem_of_getElem? (i := 31) rfl))) (ty := .array .byte) (by decide)
  have C0 : Fld G.Z h_a a "java/lang/String" "coder" "B" (.int 0) := D_a (Or.inr (hG.1 _ (List.mem_of_getElem? (i := 29) rfl))) (ty := .byte) (by decide)
  obtain ⟨v, h1, sf, ⟨rfl, K1, S1⟩, c⟩ := c.callI (y := y_si1) (a := a) (argsL := [.ref ca]) (rest := [.ref a]) 124 at_121 (con_si1 hG (cs := [ch0, ch1]) (by simp) g_a E_a V0 C0 (Ys1.ext x_a) (fun z hz => by simp at hz; rcases hz with rfl | rfl; exact r0; exact r1) (by simp)) rfl (hG.1 _ (List.mem_of_getElem? (i := 6) rfl)) (hG.1 _ (List.mem_of_getElem? (i := 7) rfl)) (hG.1 _ (List.mem_of_getElem? (i := 5) rfl)) (hG.1 _ (List.mem_of_getElem? (i := 8) rfl)) (lenOf pd_4 rfl) (by simp) (W := 1) rfl (by decide) (by decide) (by decide) (by decide)
  replace c := c [] (by simp)
  replace c : OAt G K M_law [a, ca] 3 8 h1 124 #[.val (.long a0), .second, .val (.long b0), .second, .val (.int c0), .val (.int w0), .val (.long 2678400000), .second, .val (.long mm), .second, .val (.long ms), .second, .val (.int (c0 &&& 3)), .val (.ref ca), .unset, .unset, .unset] [.ref a] := c
  replace c := c.astore 126 at_124 rfl #[.val (.long a0), .second, .val (.long b0), .second, .val (.int c0), .val (.int w0), .val (.long 2678400000), .second, .val (.long mm), .second, .val (.long ms), .second, .val (.int (c0 &&& 3)), .val (.ref ca), .val (.ref a), .unset, .unset] rfl
  replace c := c.aload 128 at_126 rfl rfl
  replace c := c.lload 130 at_128 rfl
  replace c := c.lload 132 at_130 rfl
  obtain ⟨v, h2, sf, ⟨rfl, hh⟩, c⟩ := c.callS (y := y_chk) (argsL := [.ref a, .long ms, .long mm]) (rest := []) 135 at_132 (con_chk hG (a := a) (q := ms) (r := mm) (by rw [Int64.lt_iff_toInt_lt]; omega) (by rw [Int64.lt_iff_toInt_lt, own_maxv]; omega)) rfl (hG.1 _ (List.mem_of_getElem? (i := 32) rfl)) (hG.1 _ (List.mem_of_getElem? (i := 33) rfl)) (hG.1 _ (List.mem_of_getElem? (i := 34) rfl)) (hG.1 _ (List.mem_of_getElem? (i := 35) rfl)) (lenOf pd_5 rfl) (by simp) (W := 0) rfl (by decide) (by decide) (by decide) (by decide)
  rw [hh] at c
  replace c := c [] (by simp)
  replace c : OAt G K M_law [a, ca] 3 8 h1 135 #[.val (.long a0), .second, .val (.long b0), .second, .val (.int c0), .val (.int w0), .val (.long 2678400000), .second, .val (.long mm), .second, .val (.long ms), .second, .val (.int (c0 &&& 3)), .val (.ref ca), .val (.ref a), .unset, .unset] [.long ms] := c
  replace c := c.lstore 137 at_135 #[.val (.long a0), .second, .val (.long b0), .second, .val (.int c0), .val (.int w0), .val (.long 2678400000), .second, .val (.long mm), .second, .val (.long ms), .second, .val (.int (c0 &&& 3)), .val (.ref ca), .val (.ref a), .val (.long ms), .second] rfl
  replace c := c.lload 139 at_137 rfl
  replace c := c.lload 141 at_139 rfl
  replace c := c.lcmp 142 at_141
  replace c := c.ifF 145 at_142 (own_if_ne_f (by rw [own_cmpL_eq]))
  replace c := c.lload 147 at_145 rfl
  replace c := c.lload 149 at_147 rfl
  replace c := c.lcmp 150 at_149
  replace c := c.ifF 153 at_150 (own_if_lt_f (by rw [own_cmpL_lt, Int64.lt_iff_toInt_lt]; omega))
  replace c := c.lload 155 at_153 rfl
  replace c := c.lload 157 at_155 rfl
  replace c := c.lcmp 158 at_157
  replace c := c.ifF 161 at_158 (own_if_gt_f (by rw [own_cmpL_gt, Int64.lt_iff_toInt_lt, own_maxv]; omega))
  replace c := c.iconst 162 at_161 1 (by decide)
  replace c := c.goto 166 at_162
  exact c.reti (t := .boolean) at_166 rfl rfl (by simp) (fun sf hs => rfl) (by decide) (by decide)
set_option maxRecDepth 65536 in
set_option maxHeartbeats 4000000 in
theorem comes_1 {Post : Tables → Env → Array Value → State → Outcome → State → Prop} (hpost : ∀ tb e args s v u, (limb_1_1.after args s (.returned v) u = true ∧ limb_1_2.after args s (.returned v) u = true ∧ True) → FrameEnd s (.returned v) u (Jvm.fieldLocs frame_1_writes args s ++ Jvm.arrayLocs frame_1_arrays args s ++ Jvm.staticLocs frame_1_statics s) 16 128 → Post tb e args s (.returned v) u) :
    ArmFor flags0 classFile x code maxLocals ret World_1 tables_1 room_1 Calls_1 rest_1 Pre_1 Post := by
  intro l hfl _ _ p e ha hc hk s m args below hf hA hF happ hP
  obtain ⟨hcalls, hrest, hpre⟩ := hP
  obtain ⟨-, -, -, hnamed, -, -, -, hat⟩ := (Spec.applies_iff hf).mp happ
  obtain ⟨hg, hn⟩ := and_e (Cond.before_iff.mp (show (Jvm.Cond.and given_1 narrow_1).before args s = true from hpre))
  obtain ⟨hc0, hr0⟩ := and_e hg
  obtain ⟨ha0, hr1⟩ := and_e hr0
  obtain ⟨ha1, hr2⟩ := and_e hr1
  obtain ⟨ha2, hr3⟩ := and_e hr2
  have ha3 := hr3
  obtain ⟨w0, w1, w2, w3, rfl⟩ : ∃ w0 w1 w2 w3 : Value, args = #[w0, w1, w2, w3] := by
    have hs : args.size = 4 := by simpa [Cond.value, given_1] using hc0
    obtain ⟨L⟩ := args
    match L, hs with
    | [w0, w1, w2, w3], _ => exact ⟨w0, w1, w2, w3, rfl⟩
  have hw := fun d (hd : d ∈ tables_1) => atoms_spec (ws := Jvm.Cond.code x code maxLocals ret :: tables_1) hat d (List.mem_cons_of_mem _ hd)
  obtain ⟨hsets, hown0⟩ := atoms_of _ (rest_1_c_eq ▸ (show rest_1_c.before _ s = true from hrest))
  have hfit : Fit s := fun {y c} hc i hi => by
    obtain ⟨ha, rfl⟩ := Array.getElem?_eq_some_iff.mp hc
    have q := List.all_eq_true.mp ((Array.all_eq_true_iff_forall_mem.mp hF) _ (Array.getElem_mem ha)) i (List.mem_range.mpr hi)
    simpa [Array.getElem?_eq_getElem hi] using q
  obtain ⟨i0, e0⟩ := isL_v ha0
  obtain rfl : w0 = (.long i0) := Option.some.inj e0
  obtain ⟨i1, e1⟩ := isL_v ha1
  obtain rfl : w1 = (.long i1) := Option.some.inj e1
  obtain ⟨i2, e2⟩ := is_v ha2
  obtain rfl : w2 = (.int i2) := Option.some.inj e2
  obtain ⟨i3, e3⟩ := is_v ha3
  obtain rfl : w3 = (.int i3) := Option.some.inj e3
  obtain ⟨iz, ez⟩ := is_v (Cond.before_iff.mp (hsets _ (List.mem_of_getElem? (i := 1) rfl)))
  have Sz : Sta s s.heap "java/lang/String" "COMPACT_STRINGS" "Z" (.int iz) := Sta.start ez (Or.inl (hsets _ (List.mem_of_getElem? (i := 0) rfl)))
  have nz : ¬ (iz = (0 : Int32)) := gotF (Cond.eq_ints ez (Term.int_eval (0))) (not_v (Cond.before_iff.mp (hsets _ (List.mem_of_getElem? (i := 2) rfl))))
  have hG : OGood (l, s, #[.long i0, .long i1, .int i2, .int i3], [], s.heap.size) := ⟨hw, rfl, ⟨iz, Sz, nz⟩, trivial⟩
  obtain ⟨n, o, h1, h2, h3, _, L, rfl, rfl, N, -, -, hq⟩ := con_law (G := (l, s, #[.long i0, .long i1, .int i2, .int i3], [], s.heap.size)) hG  p e ha hc hk s m _ below hf ((Spec.applies_iff_loose hf).mp happ).1 ⟨rfl, State.Warmed39.refl s, rfl, (fun p hp => (by cases hp)), (fun x hx => (by cases hx)), Old.start s⟩ trivial
  refine ⟨n, _, h1, h2, h3, hpost _ _ _ _ _ _ ⟨Cond.after_iff.mpr rfl, Cond.after_iff.mpr (eq_i res_at (Term.int_eval (1)) rfl), trivial⟩ ⟨hq.1, hq.2.1, (hq.2.2.sift fun y hy => Or.inr (N y hy)).mono (by decide) (by decide)⟩⟩
theorem main_1_1 : Claimed_1_1 := comes_1 fun _ _ _ _ _ _ h hF => ⟨h.1, hF⟩
theorem main_1_2 : Claimed_1_2 := comes_1 fun _ _ _ _ _ _ h hF => ⟨h.2.1, hF⟩
end Jvm.Pilot.@@N@@
namespace Jvm.Pilot.@@N@@
open Jvm Jvm.ClassFile Sem Op Lib Jvm.Free Jvm.Stand Jvm.Pilot.@@N@@.Jvm.D
/-! MADE BY PROGRAM (witnessworld.py) out of the Statement's table words and the real class files: 20 classes; the members and pool entries that the words name. The judged class is class 1, her method 1. -/
namespace start1
open Jvm.ClassFile
def u (s : String) : CpInfo := .utf8 (stringToUtf16 s)
/-- a pool by its gaps: so many unusable entries, then the entry; so many at the end -/
def gap : Nat → List CpInfo → List CpInfo
  | 0, r => r
  | n + 1, r => .unusable :: gap n r
def poolList (es : List (Nat × CpInfo)) (last : Nat) : List CpInfo := es.foldr (fun e r => gap e.1 (e.2 :: r)) (gap last [])
def pool (es : List (Nat × CpInfo)) (last : Nat) : Array CpInfo := ⟨poolList es last⟩
def fileOf (pool : Array CpInfo) (this : Nat) (attrs : Array Attribute := #[]) (ms : Array MethodInfo := #[]) (fl : Nat := 33) (sup : Nat := 0) (ifs : Array Nat := #[]) (fds : Array FieldInfo := #[]) : ClassFile where
  minorVersion := 0
  majorVersion := 65
  constantPool := pool
  accessFlags := fl
  thisClass := this
  superClass := sup
  interfaces := ifs
  fields := fds
  methods := ms
  attributes := attrs
def plain (name : String) (sup : Option ClassId) : Class where
  name := name
  kind := .ordinary
  loader := none
  accessFlags := 33
  super := sup
  interfaces := #[]
  cf := none
  fields := #[]
  methods := #[]
  instanceTypes := #[]
  staticTypes := #[]
  resolved := #[]
  callSites := []
  init := .initialized
  statics := none
  mirror := none

def pool0 : Array CpInfo := pool [(5, u "<init>"), (0, u "()V"), (1, .class_ 10), (1, u "java/lang/Object")] 113

def k0c0 : Code := { maxStack := 0, maxLocals := 1, code := object_method_1_code, exceptionTable := #[], attributes := #[] }
def k0m0 : Method := { name := "<init>", desc := "()V", sig := { parameters := [], returnType := none }, accessFlags := 1, code := some k0c0 }
/-- java/lang/Object -/
def k0 : Class := { plain "java/lang/Object" none with
  accessFlags := 33
  interfaces := #[]
  cf := some (fileOf pool0 8 #[] #[{ accessFlags := 1, nameIndex := 5, descriptorIndex := 6, attributes := #[] }] 33 0 #[] #[])
  fields := #[]
  methods := #[k0m0]
  instanceTypes := #[]
  staticTypes := #[]
  resolved := Array.replicate 124 none
  statics := none }

def pool1 : Array CpInfo := pool [(2, .class_ 4), (1, u "java/lang/Object"), (0, u "<init>"), (0, u "()V"), (0, .long 2678400000), (1, .long 9223372036854775807), (1, .class_ 12), (0, u "java/lang/String"), (0, .methodref 11 14), (0, .nameAndType 5 15), (0, u "([C)V"), (0, .methodref 17 18), (0, .class_ 19), (0, .nameAndType 20 21), (0, u "com/example/iron_gate/irongate/Periods"), (0, u "check"), (0, u "(Ljava/lang/String;JJ)J"), (0, .class_ 23), (0, u "com/example/iron_gate/irongate/PeriodsCheckPinLaw"), (2, u "law"), (0, u "(JJII)Z")] 5

def k1m0 : Method := { name := "<init>", desc := "()V", sig := { parameters := [], returnType := none }, accessFlags := 2, code := none }
def k1c1 : Code := { maxStack := 8, maxLocals := 17, code := code, exceptionTable := #[], attributes := #[] }
def k1m1 : Method := { name := "law", desc := "(JJII)Z", sig := { parameters := [.long, .long, .int, .int], returnType := some .boolean }, accessFlags := 9, code := some k1c1 }
/-- com/example/iron_gate/irongate/PeriodsCheckPinLaw -/
def k1 : Class := { plain "com/example/iron_gate/irongate/PeriodsCheckPinLaw" (some 0) with
  accessFlags := 49
  interfaces := #[]
  cf := some (fileOf pool1 22 #[] #[{ accessFlags := 2, nameIndex := 5, descriptorIndex := 6, attributes := #[] }, { accessFlags := 9, nameIndex := 26, descriptorIndex := 27, attributes := #[] }] 49 2 #[] #[])
  fields := #[]
  methods := #[k1m0, k1m1]
  instanceTypes := #[]
  staticTypes := #[]
  resolved := Array.replicate 33 none
  statics := none }

def pool2 : Array CpInfo := pool [(1, .class_ 2), (0, u "java/io/Serializable"), (0, .class_ 4), (0, u "java/lang/Object")] 2

/-- java/io/Serializable -/
def k2 : Class := { plain "java/io/Serializable" (some 0) with
  accessFlags := 1537
  interfaces := #[]
  cf := some (fileOf pool2 1 #[] #[] 1537 3 #[] #[])
  fields := #[]
  methods := #[]
  instanceTypes := #[]
  staticTypes := #[]
  resolved := Array.replicate 7 none
  statics := none }

def pool3 : Array CpInfo := pool [(1, .class_ 2), (0, u "java/lang/Comparable"), (0, .class_ 4), (0, u "java/lang/Object")] 7

/-- java/lang/Comparable -/
def k3 : Class := { plain "java/lang/Comparable" (some 0) with
  accessFlags := 1537
  interfaces := #[]
  cf := some (fileOf pool3 1 #[] #[] 1537 3 #[] #[])
  fields := #[]
  methods := #[]
  instanceTypes := #[]
  staticTypes := #[]
  resolved := Array.replicate 12 none
  statics := none }

def pool4 : Array CpInfo := pool [(2, .class_ 4), (1, u "java/lang/CharSequence"), (42, .class_ 48), (0, u "java/lang/CharSequence$1CodePointIterator"), (10, .class_ 60), (0, u "java/lang/CharSequence$1CharIterator"), (5, .class_ 67), (0, u "java/lang/Object")] 63

/-- java/lang/CharSequence -/
def k4 : Class := { plain "java/lang/CharSequence" (some 0) with
  accessFlags := 1537
  interfaces := #[]
  cf := some (fileOf pool4 2 #[.nestMembers #[47, 59]] #[] 1537 66 #[] #[])
  fields := #[]
  methods := #[]
  instanceTypes := #[]
  staticTypes := #[]
  resolved := Array.replicate 131 none
  statics := none }

def pool5 : Array CpInfo := pool [(1, .class_ 2), (0, u "java/lang/constant/Constable"), (0, .class_ 4), (0, u "java/lang/Object")] 6

/-- java/lang/constant/Constable -/
def k5 : Class := { plain "java/lang/constant/Constable" (some 0) with
  accessFlags := 1537
  interfaces := #[]
  cf := some (fileOf pool5 1 #[] #[] 1537 3 #[] #[])
  fields := #[]
  methods := #[]
  instanceTypes := #[]
  staticTypes := #[]
  resolved := Array.replicate 11 none
  statics := none }

def pool6 : Array CpInfo := pool [(1, .class_ 2), (0, u "java/lang/constant/ConstantDesc"), (0, .class_ 4), (0, u "java/lang/Object")] 32

/-- java/lang/constant/ConstantDesc -/
def k6 : Class := { plain "java/lang/constant/ConstantDesc" (some 0) with
  accessFlags := 1537
  interfaces := #[]
  cf := some (fileOf pool6 1 #[] #[] 1537 3 #[] #[])
  fields := #[]
  methods := #[]
  instanceTypes := #[]
  staticTypes := #[]
  resolved := Array.replicate 37 none
  statics := none }

def pool7 : Array CpInfo := pool [(1, .methodref 2 3), (0, .class_ 4), (0, .nameAndType 5 6), (0, u "java/lang/Object"), (0, u "<init>"), (0, u "()V"), (2, .fieldref 10 11), (0, .class_ 12), (0, .nameAndType 13 14), (0, u "java/lang/String"), (0, u "value"), (0, u "[B"), (0, .fieldref 10 16), (0, .nameAndType 17 18), (0, u "coder"), (0, u "B"), (2, u "hash"), (0, u "I"), (2, u "hashIsZero"), (0, u "Z"), (0, .methodref 10 28), (0, .nameAndType 5 29), (0, u "([CIILjava/lang/Void;)V"), (8, .fieldref 10 39), (0, .nameAndType 40 26), (0, u "COMPACT_STRINGS"), (1, .class_ 44), (1, u "java/lang/StringUTF16"), (0, u "compress"), (1, .methodref 42 48), (0, .nameAndType 49 50), (0, u "coderFromArrayLen"), (0, u "([BI)B"), (126, .methodref 42 178), (0, .nameAndType 45 179), (0, u "([CII)[B"), (395, .class_ 576), (0, u "java/lang/CharSequence"), (22, u "CASE_INSENSITIVE_ORDER"), (0, u "Ljava/util/Comparator;"), (409, u "([C)V"), (90, u "serialPersistentFields"), (0, u "[Ljava/io/ObjectStreamField;"), (0, .class_ 1104), (0, u "java/lang/String$CaseInsensitiveComparator"), (1, .class_ 1107), (0, u "java/io/Serializable"), (0, .class_ 1109), (0, u "java/lang/Comparable"), (0, .class_ 1111), (0, u "java/lang/constant/Constable"), (0, .class_ 1113), (0, u "java/lang/constant/ConstantDesc"), (2, u "serialVersionUID"), (0, u "J"), (3, u "REPL"), (0, u "C"), (2, u "LATIN1"), (1, u "UTF16")] 323

def k7m0 : Method := { name := "<init>", desc := "()V", sig := { parameters := [], returnType := none }, accessFlags := 1, code := none }
def k7c1 : Code := { maxStack := 5, maxLocals := 2, code := jdk_42_method_3_code, exceptionTable := #[], attributes := #[] }
def k7m1 : Method := { name := "<init>", desc := "([C)V", sig := { parameters := [(.array .char)], returnType := none }, accessFlags := 1, code := some k7c1 }
def k7c2 : Code := { maxStack := 4, maxLocals := 6, code := jdk_42_method_149_code, exceptionTable := #[], attributes := #[] }
def k7m2 : Method := { name := "<init>", desc := "([CIILjava/lang/Void;)V", sig := { parameters := [(.array .char), .int, .int, (.object "java/lang/Void")], returnType := none }, accessFlags := 2, code := some k7c2 }
/-- java/lang/String -/
def k7 : Class := { plain "java/lang/String" (some 0) with
  accessFlags := 49
  interfaces := #[2, 3, 4, 5, 6]
  cf := some (fileOf pool7 10 #[.nestMembers #[1103]] #[{ accessFlags := 1, nameIndex := 5, descriptorIndex := 6, attributes := #[] }, { accessFlags := 1, nameIndex := 5, descriptorIndex := 1010, attributes := #[] }, { accessFlags := 2, nameIndex := 5, descriptorIndex := 29, attributes := #[] }] 49 2 #[1106, 1108, 575, 1110, 1112] #[{ accessFlags := 18, nameIndex := 13, descriptorIndex := 14, attributes := #[] }, { accessFlags := 18, nameIndex := 17, descriptorIndex := 18, attributes := #[] }, { accessFlags := 2, nameIndex := 21, descriptorIndex := 22, attributes := #[] }, { accessFlags := 2, nameIndex := 25, descriptorIndex := 26, attributes := #[] }, { accessFlags := 26, nameIndex := 1116, descriptorIndex := 1117, attributes := #[] }, { accessFlags := 24, nameIndex := 40, descriptorIndex := 26, attributes := #[] }, { accessFlags := 26, nameIndex := 1101, descriptorIndex := 1102, attributes := #[] }, { accessFlags := 26, nameIndex := 1121, descriptorIndex := 1122, attributes := #[] }, { accessFlags := 25, nameIndex := 599, descriptorIndex := 600, attributes := #[] }, { accessFlags := 24, nameIndex := 1125, descriptorIndex := 18, attributes := #[] }, { accessFlags := 24, nameIndex := 1127, descriptorIndex := 18, attributes := #[] }])
  fields := #[{ name := "value", type := (.array .byte), accessFlags := 18, slot := 0, constantValue := 0 }, { name := "coder", type := .byte, accessFlags := 18, slot := 1, constantValue := 0 }, { name := "hash", type := .int, accessFlags := 2, slot := 2, constantValue := 0 }, { name := "hashIsZero", type := .boolean, accessFlags := 2, slot := 3, constantValue := 0 }, { name := "serialVersionUID", type := .long, accessFlags := 26, slot := 0, constantValue := 0 }, { name := "COMPACT_STRINGS", type := .boolean, accessFlags := 24, slot := 1, constantValue := 0 }, { name := "serialPersistentFields", type := (.array (.object "java/io/ObjectStreamField")), accessFlags := 26, slot := 2, constantValue := 0 }, { name := "REPL", type := .char, accessFlags := 26, slot := 3, constantValue := 0 }, { name := "CASE_INSENSITIVE_ORDER", type := (.object "java/util/Comparator"), accessFlags := 25, slot := 4, constantValue := 0 }, { name := "LATIN1", type := .byte, accessFlags := 24, slot := 5, constantValue := 0 }, { name := "UTF16", type := .byte, accessFlags := 24, slot := 6, constantValue := 0 }]
  methods := #[k7m0, k7m1, k7m2]
  instanceTypes := #[(.array .byte), .byte, .int, .boolean]
  staticTypes := #[.long, .boolean, (.array (.object "java/io/ObjectStreamField")), .char, (.object "java/util/Comparator"), .byte, .byte]
  resolved := Array.replicate 1451 none
  statics := some 0 }

def pool8 : Array CpInfo := pool [(6, .class_ 8), (1, u "java/lang/Object"), (0, u "<init>"), (0, u "()V"), (1, .class_ 14), (1, u "java/lang/StringUTF16"), (31, u "$assertionsDisabled"), (0, u "Z"), (13, u "HI_BYTE_SHIFT"), (0, u "I"), (2, u "LO_BYTE_SHIFT"), (49, .methodref 12 116), (0, .nameAndType 117 118), (0, u "compress"), (0, u "([CI[BII)I"), (3, u "([CII)[B"), (138, u "coderFromArrayLen"), (0, u "([BI)B"), (106, .class_ 371), (1, u "java/lang/StringUTF16$LinesSpliterator"), (58, u "MAX_LENGTH"), (196, .class_ 628), (0, u "java/lang/StringUTF16$CodePointsSpliterator"), (0, .class_ 630), (0, u "java/lang/StringUTF16$CharsSpliterator")] 4

def k8m0 : Method := { name := "<init>", desc := "()V", sig := { parameters := [], returnType := none }, accessFlags := 0, code := none }
def k8c1 : Code := { maxStack := 2, maxLocals := 2, code := jdk_52_method_15_code, exceptionTable := #[], attributes := #[] }
def k8m1 : Method := { name := "coderFromArrayLen", desc := "([BI)B", sig := { parameters := [(.array .byte), .int], returnType := some .byte }, accessFlags := 8, code := some k8c1 }
def k8c2 : Code := { maxStack := 5, maxLocals := 6, code := jdk_52_method_16_code, exceptionTable := #[], attributes := #[] }
def k8m2 : Method := { name := "compress", desc := "([CII)[B", sig := { parameters := [(.array .char), .int, .int], returnType := some (.array .byte) }, accessFlags := 9, code := some k8c2 }
def k8c3 : Code := { maxStack := 3, maxLocals := 7, code := jdk_52_method_21_code, exceptionTable := #[], attributes := #[] }
def k8m3 : Method := { name := "compress", desc := "([CI[BII)I", sig := { parameters := [(.array .char), .int, (.array .byte), .int, .int], returnType := some .int }, accessFlags := 9, code := some k8c3 }
/-- java/lang/StringUTF16 -/
def k8 : Class := { plain "java/lang/StringUTF16" (some 0) with
  accessFlags := 48
  interfaces := #[]
  cf := some (fileOf pool8 12 #[.nestMembers #[627, 629, 369]] #[{ accessFlags := 0, nameIndex := 9, descriptorIndex := 10, attributes := #[] }, { accessFlags := 8, nameIndex := 261, descriptorIndex := 262, attributes := #[] }, { accessFlags := 9, nameIndex := 117, descriptorIndex := 122, attributes := #[] }, { accessFlags := 9, nameIndex := 117, descriptorIndex := 118, attributes := #[] }] 48 6 #[] #[{ accessFlags := 26, nameIndex := 61, descriptorIndex := 62, attributes := #[] }, { accessFlags := 26, nameIndex := 65, descriptorIndex := 62, attributes := #[] }, { accessFlags := 24, nameIndex := 430, descriptorIndex := 62, attributes := #[] }, { accessFlags := 4120, nameIndex := 46, descriptorIndex := 47, attributes := #[] }])
  fields := #[{ name := "HI_BYTE_SHIFT", type := .int, accessFlags := 26, slot := 0, constantValue := 0 }, { name := "LO_BYTE_SHIFT", type := .int, accessFlags := 26, slot := 1, constantValue := 0 }, { name := "MAX_LENGTH", type := .int, accessFlags := 24, slot := 2, constantValue := 0 }, { name := "$assertionsDisabled", type := .boolean, accessFlags := 4120, slot := 3, constantValue := 0 }]
  methods := #[k8m0, k8m1, k8m2, k8m3]
  instanceTypes := #[]
  staticTypes := #[.int, .int, .int, .boolean]
  resolved := Array.replicate 635 none
  statics := none }

def pool9 : Array CpInfo := pool [(2, .class_ 4), (1, u "java/lang/Object"), (0, u "<init>"), (0, u "()V"), (1, .class_ 10), (1, u "com/example/iron_gate/irongate/Periods"), (0, u "check"), (0, u "(Ljava/lang/String;JJ)J"), (0, .long 2678400000), (10, u "MAX_MS"), (0, u "J")] 22

def k9m0 : Method := { name := "<init>", desc := "()V", sig := { parameters := [], returnType := none }, accessFlags := 2, code := none }
def k9c1 : Code := { maxStack := 5, maxLocals := 5, code := prog_17_method_3_code, exceptionTable := #[], attributes := #[] }
def k9m1 : Method := { name := "check", desc := "(Ljava/lang/String;JJ)J", sig := { parameters := [(.object "java/lang/String"), .long, .long], returnType := some .long }, accessFlags := 9, code := some k9c1 }
/-- com/example/iron_gate/irongate/Periods -/
def k9 : Class := { plain "com/example/iron_gate/irongate/Periods" (some 0) with
  accessFlags := 33
  interfaces := #[]
  cf := some (fileOf pool9 8 #[] #[{ accessFlags := 2, nameIndex := 5, descriptorIndex := 6, attributes := #[] }, { accessFlags := 9, nameIndex := 11, descriptorIndex := 12, attributes := #[] }] 33 2 #[] #[{ accessFlags := 26, nameIndex := 24, descriptorIndex := 25, attributes := #[] }])
  fields := #[{ name := "MAX_MS", type := .long, accessFlags := 26, slot := 0, constantValue := 0 }]
  methods := #[k9m0, k9m1]
  instanceTypes := #[]
  staticTypes := #[.long]
  resolved := Array.replicate 48 none
  statics := none }

def pool10 : Array CpInfo := pool [(4, .class_ 6), (1, u "java/lang/Object"), (0, u "<init>"), (0, u "()V"), (5, .class_ 16), (1, u "java/lang/StringLatin1"), (104, u "$assertionsDisabled"), (0, u "Z"), (98, .class_ 223), (1, u "java/lang/StringLatin1$LinesSpliterator"), (166, .class_ 391), (0, u "java/lang/StringLatin1$CharsSpliterator")] 3

def k10m0 : Method := { name := "<init>", desc := "()V", sig := { parameters := [], returnType := none }, accessFlags := 0, code := none }
/-- java/lang/StringLatin1 -/
def k10 : Class := { plain "java/lang/StringLatin1" (some 0) with
  accessFlags := 48
  interfaces := #[]
  cf := some (fileOf pool10 14 #[.nestMembers #[390, 221]] #[{ accessFlags := 0, nameIndex := 7, descriptorIndex := 8, attributes := #[] }] 48 4 #[] #[{ accessFlags := 4120, nameIndex := 121, descriptorIndex := 122, attributes := #[] }])
  fields := #[{ name := "$assertionsDisabled", type := .boolean, accessFlags := 4120, slot := 0, constantValue := 0 }]
  methods := #[k10m0]
  instanceTypes := #[]
  staticTypes := #[.boolean]
  resolved := Array.replicate 395 none
  statics := none }

def pool11 : Array CpInfo := pool [(2, .class_ 4), (1, u "java/lang/Object"), (0, u "<init>"), (0, u "()V"), (17, .class_ 26), (1, u "jdk/internal/util/Preconditions"), (28, .class_ 56), (0, u "jdk/internal/util/Preconditions$4"), (57, .class_ 115), (0, u "jdk/internal/util/Preconditions$1"), (7, u "SIOOBE_FORMATTER"), (0, u "Ljava/util/function/BiFunction;"), (0, .class_ 126), (0, u "jdk/internal/util/Preconditions$2"), (3, u "AIOOBE_FORMATTER"), (0, .class_ 132), (0, u "jdk/internal/util/Preconditions$3"), (3, u "IOOBE_FORMATTER")] 57

def k11m0 : Method := { name := "<init>", desc := "()V", sig := { parameters := [], returnType := none }, accessFlags := 1, code := none }
/-- jdk/internal/util/Preconditions -/
def k11 : Class := { plain "jdk/internal/util/Preconditions" (some 0) with
  accessFlags := 33
  interfaces := #[]
  cf := some (fileOf pool11 24 #[.nestMembers #[55, 131, 125, 114]] #[{ accessFlags := 1, nameIndex := 5, descriptorIndex := 6, attributes := #[] }] 33 2 #[] #[{ accessFlags := 25, nameIndex := 123, descriptorIndex := 124, attributes := #[] }, { accessFlags := 25, nameIndex := 130, descriptorIndex := 124, attributes := #[] }, { accessFlags := 25, nameIndex := 136, descriptorIndex := 124, attributes := #[] }])
  fields := #[{ name := "SIOOBE_FORMATTER", type := (.object "java/util/function/BiFunction"), accessFlags := 25, slot := 0, constantValue := 0 }, { name := "AIOOBE_FORMATTER", type := (.object "java/util/function/BiFunction"), accessFlags := 25, slot := 1, constantValue := 0 }, { name := "IOOBE_FORMATTER", type := (.object "java/util/function/BiFunction"), accessFlags := 25, slot := 2, constantValue := 0 }]
  methods := #[k11m0]
  instanceTypes := #[]
  staticTypes := #[(.object "java/util/function/BiFunction"), (.object "java/util/function/BiFunction"), (.object "java/util/function/BiFunction")]
  resolved := Array.replicate 194 none
  statics := some 1 }

def pool12 : Array CpInfo := pool [(9, u "<init>"), (6, .class_ 18), (1, u "java/lang/Object"), (0, u "()V"), (1, .class_ 23), (1, u "jdk/internal/util/ArraysSupport"), (0, u "LOG2_ARRAY_LONG_INDEX_SCALE"), (0, u "I"), (2, u "U"), (0, u "Ljdk/internal/misc/Unsafe;"), (8, u "BIG_ENDIAN"), (0, u "Z"), (8, u "LOG2_BYTE_BIT_SIZE"), (4, u "LOG2_ARRAY_INT_INDEX_SCALE"), (54, u "JLA"), (0, u "Ljdk/internal/access/JavaLangAccess;"), (11, u "LOG2_ARRAY_BOOLEAN_INDEX_SCALE"), (9, u "LOG2_ARRAY_BYTE_INDEX_SCALE"), (5, u "LOG2_ARRAY_CHAR_INDEX_SCALE"), (5, u "LOG2_ARRAY_SHORT_INDEX_SCALE"), (18, u "LOG2_ARRAY_FLOAT_INDEX_SCALE"), (24, u "LOG2_ARRAY_DOUBLE_INDEX_SCALE"), (89, u "T_BOOLEAN"), (2, u "T_CHAR"), (1, u "T_FLOAT"), (1, u "T_DOUBLE"), (1, u "T_BYTE"), (1, u "T_SHORT"), (1, u "T_INT"), (1, u "T_LONG"), (1, u "SOFT_MAX_ARRAY_LENGTH")] 83

def k12m0 : Method := { name := "<init>", desc := "()V", sig := { parameters := [], returnType := none }, accessFlags := 2, code := none }
/-- jdk/internal/util/ArraysSupport -/
def k12 : Class := { plain "jdk/internal/util/ArraysSupport" (some 0) with
  accessFlags := 33
  interfaces := #[]
  cf := some (fileOf pool12 21 #[] #[{ accessFlags := 2, nameIndex := 9, descriptorIndex := 19, attributes := #[] }] 33 16 #[] #[{ accessFlags := 24, nameIndex := 28, descriptorIndex := 29, attributes := #[] }, { accessFlags := 26, nameIndex := 38, descriptorIndex := 39, attributes := #[] }, { accessFlags := 25, nameIndex := 121, descriptorIndex := 25, attributes := #[] }, { accessFlags := 25, nameIndex := 131, descriptorIndex := 25, attributes := #[] }, { accessFlags := 25, nameIndex := 137, descriptorIndex := 25, attributes := #[] }, { accessFlags := 25, nameIndex := 143, descriptorIndex := 25, attributes := #[] }, { accessFlags := 25, nameIndex := 53, descriptorIndex := 25, attributes := #[] }, { accessFlags := 25, nameIndex := 24, descriptorIndex := 25, attributes := #[] }, { accessFlags := 25, nameIndex := 162, descriptorIndex := 25, attributes := #[] }, { accessFlags := 25, nameIndex := 187, descriptorIndex := 25, attributes := #[] }, { accessFlags := 26, nameIndex := 48, descriptorIndex := 25, attributes := #[] }, { accessFlags := 25, nameIndex := 277, descriptorIndex := 25, attributes := #[] }, { accessFlags := 25, nameIndex := 280, descriptorIndex := 25, attributes := #[] }, { accessFlags := 25, nameIndex := 282, descriptorIndex := 25, attributes := #[] }, { accessFlags := 25, nameIndex := 284, descriptorIndex := 25, attributes := #[] }, { accessFlags := 25, nameIndex := 286, descriptorIndex := 25, attributes := #[] }, { accessFlags := 25, nameIndex := 288, descriptorIndex := 25, attributes := #[] }, { accessFlags := 25, nameIndex := 290, descriptorIndex := 25, attributes := #[] }, { accessFlags := 25, nameIndex := 292, descriptorIndex := 25, attributes := #[] }, { accessFlags := 26, nameIndex := 108, descriptorIndex := 109, attributes := #[] }, { accessFlags := 25, nameIndex := 294, descriptorIndex := 25, attributes := #[] }])
  fields := #[{ name := "U", type := (.object "jdk/internal/misc/Unsafe"), accessFlags := 24, slot := 0, constantValue := 0 }, { name := "BIG_ENDIAN", type := .boolean, accessFlags := 26, slot := 1, constantValue := 0 }, { name := "LOG2_ARRAY_BOOLEAN_INDEX_SCALE", type := .int, accessFlags := 25, slot := 2, constantValue := 0 }, { name := "LOG2_ARRAY_BYTE_INDEX_SCALE", type := .int, accessFlags := 25, slot := 3, constantValue := 0 }, { name := "LOG2_ARRAY_CHAR_INDEX_SCALE", type := .int, accessFlags := 25, slot := 4, constantValue := 0 }, { name := "LOG2_ARRAY_SHORT_INDEX_SCALE", type := .int, accessFlags := 25, slot := 5, constantValue := 0 }, { name := "LOG2_ARRAY_INT_INDEX_SCALE", type := .int, accessFlags := 25, slot := 6, constantValue := 0 }, { name := "LOG2_ARRAY_LONG_INDEX_SCALE", type := .int, accessFlags := 25, slot := 7, constantValue := 0 }, { name := "LOG2_ARRAY_FLOAT_INDEX_SCALE", type := .int, accessFlags := 25, slot := 8, constantValue := 0 }, { name := "LOG2_ARRAY_DOUBLE_INDEX_SCALE", type := .int, accessFlags := 25, slot := 9, constantValue := 0 }, { name := "LOG2_BYTE_BIT_SIZE", type := .int, accessFlags := 26, slot := 10, constantValue := 0 }, { name := "T_BOOLEAN", type := .int, accessFlags := 25, slot := 11, constantValue := 0 }, { name := "T_CHAR", type := .int, accessFlags := 25, slot := 12, constantValue := 0 }, { name := "T_FLOAT", type := .int, accessFlags := 25, slot := 13, constantValue := 0 }, { name := "T_DOUBLE", type := .int, accessFlags := 25, slot := 14, constantValue := 0 }, { name := "T_BYTE", type := .int, accessFlags := 25, slot := 15, constantValue := 0 }, { name := "T_SHORT", type := .int, accessFlags := 25, slot := 16, constantValue := 0 }, { name := "T_INT", type := .int, accessFlags := 25, slot := 17, constantValue := 0 }, { name := "T_LONG", type := .int, accessFlags := 25, slot := 18, constantValue := 0 }, { name := "JLA", type := (.object "jdk/internal/access/JavaLangAccess"), accessFlags := 26, slot := 19, constantValue := 0 }, { name := "SOFT_MAX_ARRAY_LENGTH", type := .int, accessFlags := 25, slot := 20, constantValue := 0 }]
  methods := #[k12m0]
  instanceTypes := #[]
  staticTypes := #[(.object "jdk/internal/misc/Unsafe"), .boolean, .int, .int, .int, .int, .int, .int, .int, .int, .int, .int, .int, .int, .int, .int, .int, .int, .int, (.object "jdk/internal/access/JavaLangAccess"), .int]
  resolved := Array.replicate 378 none
  statics := none }

def pool13 : Array CpInfo := pool [(1, u "java/lang/Cloneable"), (0, .class_ 1), (0, u "java/lang/Object"), (0, .class_ 3)] 3

/-- java/lang/Cloneable -/
def k13 : Class := { plain "java/lang/Cloneable" (some 0) with
  accessFlags := 1537
  interfaces := #[]
  cf := some (fileOf pool13 2 #[] #[] 1537 4 #[] #[])
  fields := #[]
  methods := #[]
  instanceTypes := #[]
  staticTypes := #[]
  resolved := Array.replicate 8 none
  statics := none }

/-- the primitive byte -/
def k14 : Class := { plain "byte" none with kind := .primitive 'B', accessFlags := 0x411 }
/-- [B -/
def k15 : Class := { plain "[B" (some 0) with kind := .array 14 .byte, interfaces := #[13, 2], accessFlags := 1041 }

/-- the primitive char -/
def k16 : Class := { plain "char" none with kind := .primitive 'C', accessFlags := 0x411 }
/-- [C -/
def k17 : Class := { plain "[C" (some 0) with kind := .array 16 .char, interfaces := #[13, 2], accessFlags := 1041 }

/-- the primitive int -/
def k18 : Class := { plain "int" none with kind := .primitive 'I', accessFlags := 0x411 }
/-- [I -/
def k19 : Class := { plain "[I" (some 0) with kind := .array 18 .int, interfaces := #[13, 2], accessFlags := 1041 }

def heap : Heap := #[{ cls := 7, slots := #[.long 0, .int 1, .null, .int 0, .null, .int 0, .int 0], vm := .statics 7 },
  { cls := 11, slots := #[.null, .null, .null], vm := .statics 11 }]
def classes : Array Class := #[k0, k1, k2, k3, k4, k5, k6, k7, k8, k9, k10, k11, k12, k13, k14, k15, k16, k17, k18, k19]
def interned : List (Array UInt16 × Addr) := []
def slotsUsed : Nat := 10
def theMethod : MethodId := ⟨1, 1⟩
def args0 : Array Value := #[.long 5, .long 7, .int 2, .int 24930]
def aboutOver (below : List Frame) : State where
  vm := { classes := classes, interned := interned.toArray }
  heap := heap
  slotsUsed := slotsUsed
  threads := #[{ frames := .invoking theMethod args0 :: below }]
def below0 : List Frame := [.native { method := ⟨0, 0⟩, args := #[] }]
def about1 : State := aboutOver below0
def p0 : Program := .bare "" "" ""
def e0 : Env := launch0.env 0 0 0
theorem w_frames : about1.frames = Frame.invoking theMethod args0 :: below0 := rfl
set_option maxRecDepth 65536 in
theorem w_args : argsFit about1.vm theMethod args0 = true := by decide +kernel
set_option maxRecDepth 65536 in
theorem w_heap : heapFits about1 = true := by decide +kernel
set_option maxRecDepth 65536 in
theorem w_runnable : about1.curStatus? = some .runnable := by decide +kernel
set_option maxRecDepth 65536 in
theorem w_alone : about1.alone = true := by decide +kernel
set_option maxRecDepth 65536 in
theorem w_named : about1.methodNamed? x = some theMethod := by decide +kernel
set_option maxRecDepth 65536 in
theorem w_hears : about1.hears theMethod below0 = true := by decide +kernel
set_option maxRecDepth 65536 in
theorem w_ripe : about1.ripe theMethod args0 below0 = true := by decide +kernel
theorem w_running : about1.status = .running := rfl
set_option maxRecDepth 65536 in
theorem w_room : about1.hasRoom e0.platform room_1 = true :=
  launch0.hasRoom_least _ room_1 (by decide +kernel) (by decide +kernel) (by decide +kernel) (by decide +kernel) (by decide +kernel) (by decide +kernel)
theorem allAtoms_all (ts : List Jvm.Cond) (a : Array Jvm.Value) (st : Jvm.State) : (allAtoms ts).before a st = ts.all (fun c => c.before a st) := by
  induction ts with
  | nil => rfl
  | cons c t ih =>
    show (Jvm.Cond.and c (allAtoms t)).before a st = _
    rw [Jvm.Cond.before_and, ih, List.all_cons]
def words1 : List Jvm.Cond := Jvm.Cond.code x code maxLocals ret :: tables_1
/-- a 'code' word, met by the world's own term for the bytes: nothing is compared byte by byte -/
theorem code_word {y : MethodName} {bytes : ByteArray} {mx : Nat} {rt : Option FieldType} {a : Array Value} {s : State} {m : MethodId} {meth : Method} {c : Code} (h1 : s.methodNamed? y = some m) (h2 : s.vm.method? m = some meth) (h3 : meth.code = some c) (h4 : c.code = bytes)
    (h5 : (c.maxLocals == mx && c.exceptionTable.isEmpty && decide (c.maxStack ≤ mostOperands) && decide (meth.sig.returnType = rt) && !meth.locks && decide (parseMethodDescriptor y.desc = some meth.sig)) = true) : (Jvm.Cond.code y bytes mx rt).before a s = true := by
  simp only [Bool.and_eq_true, beq_iff_eq, Bool.not_eq_true', decide_eq_true_eq] at h5
  obtain ⟨⟨⟨⟨⟨g1, g2⟩, g3⟩, g4⟩, g5⟩, g6⟩ := h5
  simp [Cond.before, Cond.holds, Cond.value, h1, h2, h3, h4, g1, g2, g3, g4, g5, g6]
def isCode : Jvm.Cond → Bool
  | .code _ _ _ _ => true
  | _ => false
theorem all_split {L : List Jvm.Cond} {P : Jvm.Cond → Bool} (h1 : L.all (fun c => isCode c || P c) = true) (h2 : ∀ c ∈ L.filter isCode, P c = true) : L.all P = true := by
  refine List.all_eq_true.mpr fun c hc => ?_
  have h := List.all_eq_true.mp h1 c hc
  rcases Bool.eq_false_or_eq_true (isCode c) with hi | hi
  · exact h2 c (List.mem_filter.mpr ⟨hc, hi⟩)
  · simpa [hi] using h
set_option maxRecDepth 65536 in
theorem w_c0 : (Jvm.Cond.code x code maxLocals ret).before args0 about1 = true := code_word (m := ⟨1, 1⟩) (meth := k1m1) (c := k1c1) (by decide +kernel) rfl rfl rfl (by decide +kernel)
set_option maxRecDepth 65536 in
theorem w_c1 : (Jvm.Cond.code ({ cls := "java/lang/String", name := "<init>", desc := "([C)V" } : Jvm.MethodName) jdk_42_method_3_code (2 : Nat) (Option.none : Option Jvm.ClassFile.FieldType)).before args0 about1 = true := code_word (m := ⟨7, 1⟩) (meth := k7m1) (c := k7c1) (by decide +kernel) rfl rfl rfl (by decide +kernel)
set_option maxRecDepth 65536 in
theorem w_c2 : (Jvm.Cond.code ({ cls := "java/lang/String", name := "<init>", desc := "([CIILjava/lang/Void;)V" } : Jvm.MethodName) jdk_42_method_149_code (6 : Nat) (Option.none : Option Jvm.ClassFile.FieldType)).before args0 about1 = true := code_word (m := ⟨7, 2⟩) (meth := k7m2) (c := k7c2) (by decide +kernel) rfl rfl rfl (by decide +kernel)
set_option maxRecDepth 65536 in
theorem w_c3 : (Jvm.Cond.code ({ cls := "java/lang/Object", name := "<init>", desc := "()V" } : Jvm.MethodName) object_method_1_code (1 : Nat) (Option.none : Option Jvm.ClassFile.FieldType)).before args0 about1 = true := code_word (m := ⟨0, 0⟩) (meth := k0m0) (c := k0c0) (by decide +kernel) rfl rfl rfl (by decide +kernel)
set_option maxRecDepth 65536 in
theorem w_c4 : (Jvm.Cond.code ({ cls := "java/lang/StringUTF16", name := "compress", desc := "([CII)[B" } : Jvm.MethodName) jdk_52_method_16_code (6 : Nat) (Option.some (Jvm.ClassFile.FieldType.array Jvm.ClassFile.FieldType.byte))).before args0 about1 = true := code_word (m := ⟨8, 2⟩) (meth := k8m2) (c := k8c2) (by decide +kernel) rfl rfl rfl (by decide +kernel)
set_option maxRecDepth 65536 in
theorem w_c5 : (Jvm.Cond.code ({ cls := "java/lang/StringUTF16", name := "compress", desc := "([CI[BII)I" } : Jvm.MethodName) jdk_52_method_21_code (7 : Nat) (Option.some Jvm.ClassFile.FieldType.int)).before args0 about1 = true := code_word (m := ⟨8, 3⟩) (meth := k8m3) (c := k8c3) (by decide +kernel) rfl rfl rfl (by decide +kernel)
set_option maxRecDepth 65536 in
theorem w_c6 : (Jvm.Cond.code ({ cls := "java/lang/StringUTF16", name := "coderFromArrayLen", desc := "([BI)B" } : Jvm.MethodName) jdk_52_method_15_code (2 : Nat) (Option.some Jvm.ClassFile.FieldType.byte)).before args0 about1 = true := code_word (m := ⟨8, 1⟩) (meth := k8m1) (c := k8c1) (by decide +kernel) rfl rfl rfl (by decide +kernel)
set_option maxRecDepth 65536 in
theorem w_c7 : (Jvm.Cond.code ({ cls := "com/example/iron_gate/irongate/Periods", name := "check", desc := "(Ljava/lang/String;JJ)J" } : Jvm.MethodName) prog_17_method_3_code (5 : Nat) (Option.some Jvm.ClassFile.FieldType.long)).before args0 about1 = true := code_word (m := ⟨9, 1⟩) (meth := k9m1) (c := k9c1) (by decide +kernel) rfl rfl rfl (by decide +kernel)
def codes1 : List Jvm.Cond := [Jvm.Cond.code x code maxLocals ret, Jvm.Cond.code ({ cls := "java/lang/String", name := "<init>", desc := "([C)V" } : Jvm.MethodName) jdk_42_method_3_code (2 : Nat) (Option.none : Option Jvm.ClassFile.FieldType), Jvm.Cond.code ({ cls := "java/lang/String", name := "<init>", desc := "([CIILjava/lang/Void;)V" } : Jvm.MethodName) jdk_42_method_149_code (6 : Nat) (Option.none : Option Jvm.ClassFile.FieldType), Jvm.Cond.code ({ cls := "java/lang/Object", name := "<init>", desc := "()V" } : Jvm.MethodName) object_method_1_code (1 : Nat) (Option.none : Option Jvm.ClassFile.FieldType), Jvm.Cond.code ({ cls := "java/lang/StringUTF16", name := "compress", desc := "([CII)[B" } : Jvm.MethodName) jdk_52_method_16_code (6 : Nat) (Option.some (Jvm.ClassFile.FieldType.array Jvm.ClassFile.FieldType.byte)), Jvm.Cond.code ({ cls := "java/lang/StringUTF16", name := "compress", desc := "([CI[BII)I" } : Jvm.MethodName) jdk_52_method_21_code (7 : Nat) (Option.some Jvm.ClassFile.FieldType.int), Jvm.Cond.code ({ cls := "java/lang/StringUTF16", name := "coderFromArrayLen", desc := "([BI)B" } : Jvm.MethodName) jdk_52_method_15_code (2 : Nat) (Option.some Jvm.ClassFile.FieldType.byte), Jvm.Cond.code ({ cls := "com/example/iron_gate/irongate/Periods", name := "check", desc := "(Ljava/lang/String;JJ)J" } : Jvm.MethodName) prog_17_method_3_code (5 : Nat) (Option.some Jvm.ClassFile.FieldType.long)]
set_option maxRecDepth 65536 in
theorem codes_eq : words1.filter isCode = codes1 := rfl
theorem w_codes : ∀ c ∈ words1.filter isCode, c.before args0 about1 = true := by
  rw [codes_eq]
  intro c hc
  simp only [codes1, List.mem_cons, List.not_mem_nil, or_false] at hc
  rcases hc with rfl | rfl | rfl | rfl | rfl | rfl | rfl | rfl
  · exact w_c0
  · exact w_c1
  · exact w_c2
  · exact w_c3
  · exact w_c4
  · exact w_c5
  · exact w_c6
  · exact w_c7
set_option maxRecDepth 65536 in
theorem w_t1 : (words1.take 24).all (fun c => isCode c || c.before args0 about1) = true := by decide +kernel
set_option maxRecDepth 65536 in
theorem w_t2 : (words1.drop 24).all (fun c => isCode c || c.before args0 about1) = true := by decide +kernel
theorem w_tables : (allAtoms (Jvm.Cond.code x code maxLocals ret :: tables_1)).before args0 about1 = true := by
  rw [allAtoms_all]
  show words1.all (fun c => c.before args0 about1) = true
  refine all_split ?_ w_codes
  rw [← List.take_append_drop 24 words1, List.all_append, w_t1, w_t2]
  rfl
set_option maxRecDepth 65536 in
theorem w_rest : rest_1_c.before args0 about1 = true := by decide +kernel
set_option maxRecDepth 65536 in
theorem w_case : (Jvm.Cond.and given_1 narrow_1).before args0 about1 = true := by decide +kernel
theorem w_applies : (headSpec (Jvm.Cond.code x code maxLocals ret :: tables_1) room_1).applies x e0.platform about1 = true :=
  (Spec.applies_iff w_frames).mpr ⟨w_running, w_runnable, w_alone, w_named, w_hears, w_ripe, w_room, w_tables⟩
theorem atStart : AtStart classFile x code maxLocals ret World_1 tables_1 room_1 Calls_1 rest_1 Pre_1 launch0 p0 e0 about1 theMethod args0 below0 :=
  ⟨lists_1, trivial, launch0.admits_env _ _ _, launch0.least_env, fairChoices_fair.cas, fairChoices_fair.clock, w_frames, w_args, w_heap, w_applies, trivial, w_rest, w_case⟩
end start1
theorem witness_1 : WitnessClaimed_1 := ⟨start1.p0, start1.e0, start1.about1, start1.theMethod, start1.args0, start1.below0, start1.atStart⟩
end Jvm.Pilot.@@N@@
