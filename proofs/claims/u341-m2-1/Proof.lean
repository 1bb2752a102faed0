import JvmDerived
import JvmDerived.Pilot.@@N@@Statement
import JvmDerived.Pilot.@@N@@Code
set_option linter.unusedVariables false
set_option linter.unusedSimpArgs false
namespace Jvm.Pilot.@@N@@
open Jvm Jvm.ClassFile Sem Op Lib Jvm.Free Jvm.Stand Jvm.LawKit Jvm.RoadKit Bundle Jvm.Pilot.@@N@@.Jvm.D
/-! OWN KIT: a small forward machine over the library's Stand: one fact a point of the walk (OAt), one law a step, a contract a method (OCon). -/
abbrev Gx : Type := Launch × State × Array Value × List (String × Nat) × Nat
abbrev Gx.l (G : Gx) : Launch := G.1
abbrev Gx.Z (G : Gx) : State := G.2.1
abbrev Gx.a0 (G : Gx) : Array Value := G.2.2.1
abbrev Gx.EL (G : Gx) : List (String × Nat) := G.2.2.2.1
abbrev Gx.n0 (G : Gx) : Nat := G.2.2.2.2
abbrev Kx : Type := Program × Env × State × MethodId × Array Value × List Frame × Method × Code × State
abbrev Kx.p (K : Kx) : Program := K.1
abbrev Kx.e (K : Kx) : Env := K.2.1
abbrev Kx.s (K : Kx) : State := K.2.2.1
abbrev Kx.m (K : Kx) : MethodId := K.2.2.2.1
abbrev Kx.args (K : Kx) : Array Value := K.2.2.2.2.1
abbrev Kx.below (K : Kx) : List Frame := K.2.2.2.2.2.1
abbrev Kx.meth (K : Kx) : Method := K.2.2.2.2.2.2.1
abbrev Kx.c (K : Kx) : Code := K.2.2.2.2.2.2.2.1
abbrev Kx.s0 (K : Kx) : State := K.2.2.2.2.2.2.2.2
abbrev Mx : Type := ByteArray × String × Option FieldType × String × Nat × Room
abbrev Mx.b (M : Mx) : ByteArray := M.1
abbrev Mx.own (M : Mx) : String := M.2.1
abbrev Mx.rt (M : Mx) : Option FieldType := M.2.2.1
abbrev Mx.nm (M : Mx) : String := M.2.2.2.1
abbrev Mx.ml (M : Mx) : Nat := M.2.2.2.2.1
abbrev Mx.R (M : Mx) : Room := M.2.2.2.2.2
/-- the word w of the sheet holds at the law's start -/
abbrev OW (G : Gx) (w : Jvm.Cond) : Prop := w.before G.a0 G.Z = true
/-- what may be written: it is there, and no literal's cell -/
abbrev OSafe (G : Gx) (vm : Vm) (h : Heap) (x : Addr) : Prop := x < h.size ∧ Safe G.Z G.EL vm h x
def OOk (G : Gx) (K : Kx) (M : Mx) : Prop := K.p.tables.exec = Jvm.exec ∧ K.c.code = M.b ∧ K.meth.sig.returnType = M.rt ∧ K.meth.locks = false ∧ K.meth.name = M.nm ∧ K.c.maxLocals = M.ml ∧ EW G.Z G.a0 G.EL
def OAt (G : Gx) (K : Kx) (M : Mx) (A : List Addr) (cs sl : Nat) (h : Heap) (pc : Nat) (L : Array Slot) (S : List Value) : Prop :=
  OOk G K M ∧ ∃ (vm0 : Vm) (k0 : Nat) (T : State) (locs : List Loc), Stand K.p G.l K.e M.R (K.s.setVm vm0) K.m K.args K.below K.meth K.c T locs cs sl ∧ T.heap = h ∧ K.s.Since vm0 k0 ∧ k0 ≤ h.size ∧ G.Z.Warmed39 (K.s.setVm vm0).vm ∧ (K.s.setVm vm0).vm.findClass M.own = some K.m.cls ∧
    CHr G.Z G.EL K.s.vm K.s.heap vm0 h ∧ (∀ x ∈ A, OSafe G vm0 h x) ∧ Fr G.n0 locs ∧ Old G.Z G.n0 h ∧ Steps K.p.tables K.e K.below K.s0 (T.setTop (mkF K.m pc L S))
/-- the invocation ends: it returns v, and Q v h' sf of the heap then (sf: what may be written) -/
def ODone (G : Gx) (K : Kx) (rm : Room) (Q : Option Value → Heap → (Addr → Prop) → Prop) : Prop :=
  ∃ s₂ o, Steps K.p.tables K.e K.below K.s0 s₂ ∧ s₂.status = .running ∧ Ended s₂ K.below o ∧ ∃ v L, o = .returned v ∧ Q v s₂.heap (OSafe G s₂.vm s₂.heap) ∧ Fr G.n0 L ∧ Old G.Z G.n0 s₂.heap ∧ CHr G.Z G.EL K.s.vm K.s.heap s₂.vm s₂.heap ∧ ReturnedEndW K.s o s₂ L rm.cells rm.slots
/-- a method's contract: called with the values as over the heap h it returns, and Q -/
def OCon (G : Gx) (y : MethodName) (B : ByteArray) (ml : Nat) (rt : Option FieldType) (ws : List Jvm.Cond) (rm : Room) (as : Array Value) (A : List Addr) (h : Heap) (Q : Option Value → Heap → (Addr → Prop) → Prop) : Prop :=
  MetFree G.l y (head1 (Jvm.Cond.code y B ml rt :: ws) rm) (fun a U => a = as ∧ G.Z.Warmed39 U.vm ∧ U.heap = h ∧ CHv G.Z G.EL U.vm h ∧ (∀ x ∈ A, OSafe G U.vm h x) ∧ Old G.Z G.n0 h) (fun _ _ _ _ _ => True)
    (fun _ U o U' => ∃ v L, o = .returned v ∧ Q v U'.heap (OSafe G U'.vm U'.heap) ∧ Fr G.n0 L ∧ Old G.Z G.n0 U'.heap ∧ CHr G.Z G.EL U.vm U.heap U'.vm U'.heap ∧ ReturnedEndW U o U' L rm.cells rm.slots)
/-- y's class is no interface, in whatever tables the run has -/
abbrev ONf (G : Gx) (y : MethodName) : Prop := ∀ s : State, G.Z.Warmed39 s.vm → NotFace s y
theorem own_nf {G : Gx} {y : MethodName} {C : String} (w : OW G (Jvm.Cond.selects C y y)) : ONf G y := fun s hZ => notFace_of_selects (args := #[]) (mvT hZ w)
theorem own_nfs {G : Gx} {y : MethodName} {C : String} (w : OW G (Jvm.Cond.superclass y.cls C)) : ONf G y := fun s hZ => nf_super (args := #[]) (mvT hZ w)
section Machine
variable {G : Gx} {K : Kx} {M : Mx} {A : List Addr} {cs sl : Nat} {h : Heap} {pc : Nat} {L : Array Slot} {S : List Value}
/-- the common form of what a step law is handed -/
abbrev OSt (G : Gx) (K : Kx) (M : Mx) (cs sl : Nat) (h : Heap) (vm0 : Vm) (T : State) (locs : List Loc) : Prop := Stand K.p G.l K.e M.R (K.s.setVm vm0) K.m K.args K.below K.meth K.c T locs cs sl
theorem OAt.pure {pc' : Nat} {L' : Array Slot} {S' : List Value} (c : OAt G K M A cs sl h pc L S)
    (f : ∀ vm0 T locs, OSt G K M cs sl h vm0 T locs → T.heap = h → K.p.tables.exec = Jvm.exec → K.c.code = M.b → G.Z.Warmed39 (K.s.setVm vm0).vm → (K.s.setVm vm0).vm.findClass M.own = some K.m.cls → Old G.Z G.n0 h →
      ∃ T', OSt G K M cs sl h vm0 T' locs ∧ T'.heap = h ∧ ∀ target, Steps K.p.tables K.e K.below (T'.setTop (mkF K.m pc' L' S')) target → Steps K.p.tables K.e K.below (T.setTop (mkF K.m pc L S)) target) : OAt G K M A cs sl h pc' L' S' := by
  obtain ⟨ok, vm0, k0, T, locs, X, hT, hS, hk, hZ, hown, hC, hA, hF, hO, st⟩ := c
  obtain ⟨T', X', hT', f'⟩ := f vm0 T locs X hT ok.1 ok.2.1 hZ hown hO
  exact ⟨ok, vm0, k0, T', locs, X', hT', hS, hk, hZ, hown, hC, hA, hF, hO, st.trans (f' _ (Steps.refl _))⟩
theorem OAt.grow {pc' : Nat} {L' : Array Slot} {S' : List Value} {cs' sl' : Nat} {P : Heap → Prop} (c : OAt G K M A cs sl h pc L S)
    (f : ∀ vm0 T locs, OSt G K M cs sl h vm0 T locs → T.heap = h → K.p.tables.exec = Jvm.exec → K.c.code = M.b → G.Z.Warmed39 (K.s.setVm vm0).vm → (K.s.setVm vm0).vm.findClass M.own = some K.m.cls → 
      ∃ T' h', OSt G K M cs' sl' h vm0 T' locs ∧ T'.heap = h' ∧ Ext h h' ∧ h.size < h'.size ∧ P h' ∧ ∀ target, Steps K.p.tables K.e K.below (T'.setTop (mkF K.m pc' L' S')) target → Steps K.p.tables K.e K.below (T.setTop (mkF K.m pc L S)) target) :
    ∃ h', Ext h h' ∧ G.n0 ≤ h.size ∧ P h' ∧ OAt G K M (h.size :: A) cs' sl' h' pc' L' S' := by
  obtain ⟨ok, vm0, k0, T, locs, X, hT, hS, hk, hZ, hown, hC, hA, hF, hO, st⟩ := c
  obtain ⟨T', h', X', hT', E, hlt, hP, f'⟩ := f vm0 T locs X hT ok.1 ok.2.1 hZ hown
  refine ⟨h', E, by rw [← hO.1]; exact hO.2.1, hP, ok, vm0, k0, T', locs, X', hT', hS, Nat.le_trans hk E.1, hZ, hown, hC.trans (CHr.ext E hC.1), fun x hx => ?_, hF, hO.ext E, st.trans (f' _ (Steps.refl _))⟩
  rcases List.mem_cons.mp hx with rfl | hx
  · exact ⟨hlt, Safe.ext E hC.1 (Safe.new (Nat.le_refl _))⟩
  · exact ⟨Nat.lt_of_lt_of_le (hA x hx).1 E.1, Safe.ext E hC.1 (hA x hx).2⟩
theorem OAt.write {pc' : Nat} {L' : Array Slot} {S' : List Value} {a : Addr} {i : Nat} {v : Value} (c : OAt G K M A cs sl h pc L S) (hn : G.n0 ≤ a) (hs : ∀ vm0, G.Z.vm.Alike vm0 → (∀ x ∈ A, OSafe G vm0 h x) → Safe G.Z G.EL vm0 h a)
    (f : ∀ vm0 T locs, OSt G K M cs sl h vm0 T locs → T.heap = h → K.p.tables.exec = Jvm.exec → K.c.code = M.b → G.Z.Warmed39 (K.s.setVm vm0).vm → (K.s.setVm vm0).vm.findClass M.own = some K.m.cls → K.meth.name = M.nm →
      ∃ T' h', OSt G K M cs sl h vm0 T' (locs ++ [⟨a, i⟩]) ∧ T'.heap = h' ∧ Wr h h' a i v ∧ ∀ target, Steps K.p.tables K.e K.below (T'.setTop (mkF K.m pc' L' S')) target → Steps K.p.tables K.e K.below (T.setTop (mkF K.m pc L S)) target) :
    ∃ h', Wr h h' a i v ∧ OAt G K M A cs sl h' pc' L' S' := by
  obtain ⟨ok, vm0, k0, T, locs, X, hT, hS, hk, hZ, hown, hC, hA, hF, hO, st⟩ := c
  obtain ⟨T', h', X', hT', W, f'⟩ := f vm0 T locs X hT ok.1 ok.2.1 hZ hown ok.2.2.2.2.1
  have S' := hs vm0 hZ.alike hA
  refine ⟨h', W, ok, vm0, k0, T', _, X', hT', hS, by rw [W.size]; exact hk, hZ, hown, hC.trans (CHr.wr W S' hC.1), fun x hx => ⟨by rw [W.size]; exact (hA x hx).1, Safe.wr W S' hC.1 (hA x hx).2⟩, hF.app fun y hy => ?_, hO.wr W hn, st.trans (f' _ (Steps.refl _))⟩
  cases List.mem_singleton.mp hy; exact hn
/-- more room may be booked -/
theorem OAt.more {cs' sl' : Nat} (c : OAt G K M A cs sl h pc L S) (h1 : cs ≤ cs') (h2 : sl ≤ sl') : OAt G K M A cs' sl' h pc L S := by
  obtain ⟨ok, vm0, k0, T, locs, X, r⟩ := c
  exact ⟨ok, vm0, k0, T, locs, X.more h1 h2, r⟩
theorem OAt.drop {A' : List Addr} (c : OAt G K M A cs sl h pc L S) (hA : ∀ x ∈ A', x ∈ A) : OAt G K M A' cs sl h pc L S := by
  obtain ⟨ok, vm0, k0, T, locs, X, hT, hS, hk, hZ, hown, hC, hA', r⟩ := c
  exact ⟨ok, vm0, k0, T, locs, X, hT, hS, hk, hZ, hown, hC, fun x hx => hA' x (hA x hx), r⟩
theorem OAt.old (c : OAt G K M A cs sl h pc L S) : Old G.Z G.n0 h := by
  obtain ⟨ok, vm0, k0, T, locs, X, hT, hS, hk, hZ, hown, hC, hA, hF, hO, st⟩ := c
  exact hO
theorem OAt.n0le (c : OAt G K M A cs sl h pc L S) : G.n0 ≤ h.size := by rw [← c.old.1]; exact c.old.2.1
end Machine
section Plain
variable {G : Gx} {K : Kx} {M : Mx} {A : List Addr} {cs sl : Nat} {h : Heap} {pc : Nat} {L : Array Slot}
theorem OAt.iload {S : List Value} {k : Nat} {v : Int32} (c : OAt G K M A cs sl h pc L (S)) (pc' : Nat) (hd : decode M.b pc = .ok (.iload k, 2)) (hl : L[k]? = some (.val (.int v))) (hp : pc + 2 = pc' := by rfl) : OAt G K M A cs sl h pc' L (.int v :: S) := by
  subst hp
  exact c.pure fun vm0 T locs X hT hx hb hZ hown hO => ⟨T, X, hT, fun t r => XS.iload X.here hx rfl (Jvm.hb hb hd) hl r⟩
theorem OAt.iloadN {S : List Value} {k : Fin 4} {v : Int32} (c : OAt G K M A cs sl h pc L (S)) (pc' : Nat) (hd : decode M.b pc = .ok (.iload_n k, 1)) (hl : L[k.val]? = some (.val (.int v))) (hp : pc + 1 = pc' := by rfl) : OAt G K M A cs sl h pc' L (.int v :: S) := by
  subst hp
  exact c.pure fun vm0 T locs X hT hx hb hZ hown hO => ⟨T, X, hT, fun t r => XS.iloadN X.here hx rfl (Jvm.hb hb hd) hl r⟩
theorem OAt.lload {S : List Value} {k : Nat} {v : Int64} (c : OAt G K M A cs sl h pc L (S)) (pc' : Nat) (hd : decode M.b pc = .ok (.lload k, 2)) (hl : L[k]? = some (.val (.long v))) (hp : pc + 2 = pc' := by rfl) : OAt G K M A cs sl h pc' L (.long v :: S) := by
  subst hp
  exact c.pure fun vm0 T locs X hT hx hb hZ hown hO => ⟨T, X, hT, fun t r => Jvm.Free.XT.lload X.here hx rfl (Jvm.hb hb hd) hl r⟩
theorem OAt.lloadN {S : List Value} {k : Fin 4} {v : Int64} (c : OAt G K M A cs sl h pc L (S)) (pc' : Nat) (hd : decode M.b pc = .ok (.lload_n k, 1)) (hl : L[k.val]? = some (.val (.long v))) (hp : pc + 1 = pc' := by rfl) : OAt G K M A cs sl h pc' L (.long v :: S) := by
  subst hp
  exact c.pure fun vm0 T locs X hT hx hb hZ hown hO => ⟨T, X, hT, fun t r => Jvm.Free.XT.lloadN X.here hx rfl (Jvm.hb hb hd) hl r⟩
theorem OAt.aload {S : List Value} {k : Nat} {v : Value} (c : OAt G K M A cs sl h pc L (S)) (pc' : Nat) (hd : decode M.b pc = .ok (.aload k, 2)) (hl : L[k]? = some (.val v)) (hv : v.isRef = true) (hp : pc + 2 = pc' := by rfl) : OAt G K M A cs sl h pc' L (v :: S) := by
  subst hp
  exact c.pure fun vm0 T locs X hT hx hb hZ hown hO => ⟨T, X, hT, fun t r => XS.aload X.here hx rfl (Jvm.hb hb hd) hl hv r⟩
theorem OAt.aloadN {S : List Value} {k : Fin 4} {v : Value} (c : OAt G K M A cs sl h pc L (S)) (pc' : Nat) (hd : decode M.b pc = .ok (.aload_n k, 1)) (hl : L[k.val]? = some (.val v)) (hv : v.isRef = true) (hp : pc + 1 = pc' := by rfl) : OAt G K M A cs sl h pc' L (v :: S) := by
  subst hp
  exact c.pure fun vm0 T locs X hT hx hb hZ hown hO => ⟨T, X, hT, fun t r => XS.aloadN X.here hx rfl (Jvm.hb hb hd) hl hv r⟩
theorem OAt.istore {S : List Value} {k : Nat} {v : Int32} (c : OAt G K M A cs sl h pc L (.int v :: S)) (pc' : Nat) (hd : decode M.b pc = .ok (.istore k, 2)) (L' : Array Slot) (hl : storeLocals L k (.int v) = some L') (hp : pc + 2 = pc' := by rfl) : OAt G K M A cs sl h pc' L' (S) := by
  subst hp
  exact c.pure fun vm0 T locs X hT hx hb hZ hown hO => ⟨T, X, hT, fun t r => XS.istore X.here hx rfl (Jvm.hb hb hd) rfl hl r⟩
theorem OAt.istoreN {S : List Value} {k : Fin 4} {v : Int32} (c : OAt G K M A cs sl h pc L (.int v :: S)) (pc' : Nat) (hd : decode M.b pc = .ok (.istore_n k, 1)) (L' : Array Slot) (hl : storeLocals L k.val (.int v) = some L') (hp : pc + 1 = pc' := by rfl) : OAt G K M A cs sl h pc' L' (S) := by
  subst hp
  exact c.pure fun vm0 T locs X hT hx hb hZ hown hO => ⟨T, X, hT, fun t r => XS.istoreN X.here hx rfl (Jvm.hb hb hd) rfl hl r⟩
theorem OAt.lstore {S : List Value} {k : Nat} {v : Int64} (c : OAt G K M A cs sl h pc L (.long v :: S)) (pc' : Nat) (hd : decode M.b pc = .ok (.lstore k, 2)) (L' : Array Slot) (hl : storeLocals L k (.long v) = some L') (hp : pc + 2 = pc' := by rfl) : OAt G K M A cs sl h pc' L' (S) := by
  subst hp
  exact c.pure fun vm0 T locs X hT hx hb hZ hown hO => ⟨T, X, hT, fun t r => Jvm.Free.XT.lstore X.here hx rfl (Jvm.hb hb hd) rfl hl r⟩
theorem OAt.lstoreN {S : List Value} {k : Fin 4} {v : Int64} (c : OAt G K M A cs sl h pc L (.long v :: S)) (pc' : Nat) (hd : decode M.b pc = .ok (.lstore_n k, 1)) (L' : Array Slot) (hl : storeLocals L k.val (.long v) = some L') (hp : pc + 1 = pc' := by rfl) : OAt G K M A cs sl h pc' L' (S) := by
  subst hp
  exact c.pure fun vm0 T locs X hT hx hb hZ hown hO => ⟨T, X, hT, fun t r => Jvm.Free.XT.lstoreN X.here hx rfl (Jvm.hb hb hd) rfl hl r⟩
theorem OAt.astore {S : List Value} {k : Nat} {v : Value} (c : OAt G K M A cs sl h pc L (v :: S)) (pc' : Nat) (hd : decode M.b pc = .ok (.astore k, 2)) (hv : v.isRef = true) (L' : Array Slot) (hl : storeLocals L k v = some L') (hp : pc + 2 = pc' := by rfl) : OAt G K M A cs sl h pc' L' (S) := by
  subst hp
  exact c.pure fun vm0 T locs X hT hx hb hZ hown hO => ⟨T, X, hT, fun t r => XS.astore X.here hx rfl (Jvm.hb hb hd) rfl hv hl r⟩
theorem OAt.astoreN {S : List Value} {k : Fin 4} {v : Value} (c : OAt G K M A cs sl h pc L (v :: S)) (pc' : Nat) (hd : decode M.b pc = .ok (.astore_n k, 1)) (hv : v.isRef = true) (L' : Array Slot) (hl : storeLocals L k.val v = some L') (hp : pc + 1 = pc' := by rfl) : OAt G K M A cs sl h pc' L' (S) := by
  subst hp
  exact c.pure fun vm0 T locs X hT hx hb hZ hown hO => ⟨T, X, hT, fun t r => XS.astoreN X.here hx rfl (Jvm.hb hb hd) rfl hv hl r⟩
theorem OAt.iconst {S : List Value} {i : Int} (c : OAt G K M A cs sl h pc L (S)) (pc' : Nat) (hd : decode M.b pc = .ok (.iconst i, 1)) (v : Int32) (hv : Int32.ofInt i = v) (hp : pc + 1 = pc' := by rfl) : OAt G K M A cs sl h pc' L (.int v :: S) := by
  subst hp
  exact c.pure fun vm0 T locs X hT hx hb hZ hown hO => ⟨T, X, hT, fun t r => XS.iconst X.here hx rfl (Jvm.hb hb hd) (hv ▸ r)⟩
theorem OAt.bipush {S : List Value} {i : Int} (c : OAt G K M A cs sl h pc L (S)) (pc' : Nat) (hd : decode M.b pc = .ok (.bipush i, 2)) (v : Int32) (hv : (Int8.ofInt i).toInt32 = v) (hp : pc + 2 = pc' := by rfl) : OAt G K M A cs sl h pc' L (.int v :: S) := by
  subst hp
  exact c.pure fun vm0 T locs X hT hx hb hZ hown hO => ⟨T, X, hT, fun t r => XS.bipush X.here hx rfl (Jvm.hb hb hd) (hv ▸ r)⟩
theorem OAt.sipush {S : List Value} {i : Int} (c : OAt G K M A cs sl h pc L (S)) (pc' : Nat) (hd : decode M.b pc = .ok (.sipush i, 3)) (v : Int32) (hv : (Int16.ofInt i).toInt32 = v) (hp : pc + 3 = pc' := by rfl) : OAt G K M A cs sl h pc' L (.int v :: S) := by
  subst hp
  exact c.pure fun vm0 T locs X hT hx hb hZ hown hO => ⟨T, X, hT, fun t r => XS.sipush X.here hx rfl (Jvm.hb hb hd) (hv ▸ r)⟩
theorem OAt.lconst {S : List Value} {i : Fin 2} (c : OAt G K M A cs sl h pc L (S)) (pc' : Nat) (hd : decode M.b pc = .ok (.lconst i, 1)) (v : Int64) (hv : Int64.ofNat i = v) (hp : pc + 1 = pc' := by rfl) : OAt G K M A cs sl h pc' L (.long v :: S) := by
  subst hp
  exact c.pure fun vm0 T locs X hT hx hb hZ hown hO => ⟨T, X, hT, fun t r => Jvm.Free.XT.lconst X.here hx rfl (Jvm.hb hb hd) (hv ▸ r)⟩
theorem OAt.aconstNull {S : List Value}  (c : OAt G K M A cs sl h pc L (S)) (pc' : Nat) (hd : decode M.b pc = .ok (.aconst_null, 1)) (hp : pc + 1 = pc' := by rfl) : OAt G K M A cs sl h pc' L (.null :: S) := by
  subst hp
  exact c.pure fun vm0 T locs X hT hx hb hZ hown hO => ⟨T, X, hT, fun t r => XS.aconstNull X.here hx rfl (Jvm.hb hb hd) r⟩
theorem OAt.iadd {S : List Value} {x y : Int32} (c : OAt G K M A cs sl h pc L (.int y :: .int x :: S)) (pc' : Nat) (hd : decode M.b pc = .ok (.iadd, 1)) (hp : pc + 1 = pc' := by rfl) : OAt G K M A cs sl h pc' L (.int (x + y) :: S) := by
  subst hp
  exact c.pure fun vm0 T locs X hT hx hb hZ hown hO => ⟨T, X, hT, fun t r => XS.iadd X.here hx rfl (Jvm.hb hb hd) rfl r⟩
theorem OAt.isub {S : List Value} {x y : Int32} (c : OAt G K M A cs sl h pc L (.int y :: .int x :: S)) (pc' : Nat) (hd : decode M.b pc = .ok (.isub, 1)) (hp : pc + 1 = pc' := by rfl) : OAt G K M A cs sl h pc' L (.int (x - y) :: S) := by
  subst hp
  exact c.pure fun vm0 T locs X hT hx hb hZ hown hO => ⟨T, X, hT, fun t r => XS.isub X.here hx rfl (Jvm.hb hb hd) rfl r⟩
theorem OAt.imul {S : List Value} {x y : Int32} (c : OAt G K M A cs sl h pc L (.int y :: .int x :: S)) (pc' : Nat) (hd : decode M.b pc = .ok (.imul, 1)) (hp : pc + 1 = pc' := by rfl) : OAt G K M A cs sl h pc' L (.int (x * y) :: S) := by
  subst hp
  exact c.pure fun vm0 T locs X hT hx hb hZ hown hO => ⟨T, X, hT, fun t r => XS.imul X.here hx rfl (Jvm.hb hb hd) rfl r⟩
theorem OAt.iand {S : List Value} {x y : Int32} (c : OAt G K M A cs sl h pc L (.int y :: .int x :: S)) (pc' : Nat) (hd : decode M.b pc = .ok (.iand, 1)) (hp : pc + 1 = pc' := by rfl) : OAt G K M A cs sl h pc' L (.int (x &&& y) :: S) := by
  subst hp
  exact c.pure fun vm0 T locs X hT hx hb hZ hown hO => ⟨T, X, hT, fun t r => XS.iand X.here hx rfl (Jvm.hb hb hd) rfl r⟩
theorem OAt.ior {S : List Value} {x y : Int32} (c : OAt G K M A cs sl h pc L (.int y :: .int x :: S)) (pc' : Nat) (hd : decode M.b pc = .ok (.ior, 1)) (hp : pc + 1 = pc' := by rfl) : OAt G K M A cs sl h pc' L (.int (x ||| y) :: S) := by
  subst hp
  exact c.pure fun vm0 T locs X hT hx hb hZ hown hO => ⟨T, X, hT, fun t r => Jvm.Free.XT.ior X.here hx rfl (Jvm.hb hb hd) rfl r⟩
theorem OAt.ixor {S : List Value} {x y : Int32} (c : OAt G K M A cs sl h pc L (.int y :: .int x :: S)) (pc' : Nat) (hd : decode M.b pc = .ok (.ixor, 1)) (hp : pc + 1 = pc' := by rfl) : OAt G K M A cs sl h pc' L (.int (x ^^^ y) :: S) := by
  subst hp
  exact c.pure fun vm0 T locs X hT hx hb hZ hown hO => ⟨T, X, hT, fun t r => Jvm.Free.XT.ixor X.here hx rfl (Jvm.hb hb hd) rfl r⟩
theorem OAt.ishl {S : List Value} {x y : Int32} (c : OAt G K M A cs sl h pc L (.int y :: .int x :: S)) (pc' : Nat) (hd : decode M.b pc = .ok (.ishl, 1)) (hp : pc + 1 = pc' := by rfl) : OAt G K M A cs sl h pc' L (.int (x <<< (y &&& 31)) :: S) := by
  subst hp
  exact c.pure fun vm0 T locs X hT hx hb hZ hown hO => ⟨T, X, hT, fun t r => Jvm.Free.XT.ishl X.here hx rfl (Jvm.hb hb hd) rfl r⟩
theorem OAt.ishr {S : List Value} {x y : Int32} (c : OAt G K M A cs sl h pc L (.int y :: .int x :: S)) (pc' : Nat) (hd : decode M.b pc = .ok (.ishr, 1)) (hp : pc + 1 = pc' := by rfl) : OAt G K M A cs sl h pc' L (.int (x >>> (y &&& 31)) :: S) := by
  subst hp
  exact c.pure fun vm0 T locs X hT hx hb hZ hown hO => ⟨T, X, hT, fun t r => Jvm.Free.XT.ishr X.here hx rfl (Jvm.hb hb hd) rfl r⟩
theorem OAt.iushr {S : List Value} {x y : Int32} (c : OAt G K M A cs sl h pc L (.int y :: .int x :: S)) (pc' : Nat) (hd : decode M.b pc = .ok (.iushr, 1)) (hp : pc + 1 = pc' := by rfl) : OAt G K M A cs sl h pc' L (.int (Jvm.Free.XT.ushr x y) :: S) := by
  subst hp
  exact c.pure fun vm0 T locs X hT hx hb hZ hown hO => ⟨T, X, hT, fun t r => Jvm.Free.XT.iushr X.here hx rfl (Jvm.hb hb hd) rfl r⟩
theorem OAt.irem {S : List Value} {x y : Int32} (c : OAt G K M A cs sl h pc L (.int y :: .int x :: S)) (pc' : Nat) (hd : decode M.b pc = .ok (.irem, 1)) (hy : y ≠ 0) (hp : pc + 1 = pc' := by rfl) : OAt G K M A cs sl h pc' L (.int (x % y) :: S) := by
  subst hp
  exact c.pure fun vm0 T locs X hT hx hb hZ hown hO => ⟨T, X, hT, fun t r => iremM X hx rfl (Jvm.hb hb hd) rfl hy r⟩
theorem OAt.idiv {S : List Value} {x y : Int32} (c : OAt G K M A cs sl h pc L (.int y :: .int x :: S)) (pc' : Nat) (hd : decode M.b pc = .ok (.idiv, 1)) (hy : y ≠ 0) (hp : pc + 1 = pc' := by rfl) : OAt G K M A cs sl h pc' L (.int (x / y) :: S) := by
  subst hp
  exact c.pure fun vm0 T locs X hT hx hb hZ hown hO => ⟨T, X, hT, fun t r => XS.idiv X.here hx rfl (Jvm.hb hb hd) rfl hy r⟩
theorem OAt.ladd {S : List Value} {x y : Int64} (c : OAt G K M A cs sl h pc L (.long y :: .long x :: S)) (pc' : Nat) (hd : decode M.b pc = .ok (.ladd, 1)) (hp : pc + 1 = pc' := by rfl) : OAt G K M A cs sl h pc' L (.long (x + y) :: S) := by
  subst hp
  exact c.pure fun vm0 T locs X hT hx hb hZ hown hO => ⟨T, X, hT, fun t r => Jvm.Free.XT.ladd X.here hx rfl (Jvm.hb hb hd) rfl r⟩
theorem OAt.lsub {S : List Value} {x y : Int64} (c : OAt G K M A cs sl h pc L (.long y :: .long x :: S)) (pc' : Nat) (hd : decode M.b pc = .ok (.lsub, 1)) (hp : pc + 1 = pc' := by rfl) : OAt G K M A cs sl h pc' L (.long (x - y) :: S) := by
  subst hp
  exact c.pure fun vm0 T locs X hT hx hb hZ hown hO => ⟨T, X, hT, fun t r => Jvm.Free.XT.lsub X.here hx rfl (Jvm.hb hb hd) rfl r⟩
theorem OAt.land {S : List Value} {x y : Int64} (c : OAt G K M A cs sl h pc L (.long y :: .long x :: S)) (pc' : Nat) (hd : decode M.b pc = .ok (.land, 1)) (hp : pc + 1 = pc' := by rfl) : OAt G K M A cs sl h pc' L (.long (x &&& y) :: S) := by
  subst hp
  exact c.pure fun vm0 T locs X hT hx hb hZ hown hO => ⟨T, X, hT, fun t r => Jvm.Free.XT.land X.here hx rfl (Jvm.hb hb hd) rfl r⟩
theorem OAt.lor {S : List Value} {x y : Int64} (c : OAt G K M A cs sl h pc L (.long y :: .long x :: S)) (pc' : Nat) (hd : decode M.b pc = .ok (.lor, 1)) (hp : pc + 1 = pc' := by rfl) : OAt G K M A cs sl h pc' L (.long (x ||| y) :: S) := by
  subst hp
  exact c.pure fun vm0 T locs X hT hx hb hZ hown hO => ⟨T, X, hT, fun t r => Jvm.Free.XT.lor X.here hx rfl (Jvm.hb hb hd) rfl r⟩
theorem OAt.lxor {S : List Value} {x y : Int64} (c : OAt G K M A cs sl h pc L (.long y :: .long x :: S)) (pc' : Nat) (hd : decode M.b pc = .ok (.lxor, 1)) (hp : pc + 1 = pc' := by rfl) : OAt G K M A cs sl h pc' L (.long (x ^^^ y) :: S) := by
  subst hp
  exact c.pure fun vm0 T locs X hT hx hb hZ hown hO => ⟨T, X, hT, fun t r => Jvm.Free.XT.lxor X.here hx rfl (Jvm.hb hb hd) rfl r⟩
theorem OAt.lrem {S : List Value} {x y : Int64} (c : OAt G K M A cs sl h pc L (.long y :: .long x :: S)) (pc' : Nat) (hd : decode M.b pc = .ok (.lrem, 1)) (hy : y ≠ 0) (hp : pc + 1 = pc' := by rfl) : OAt G K M A cs sl h pc' L (.long (x % y) :: S) := by
  subst hp
  exact c.pure fun vm0 T locs X hT hx hb hZ hown hO => ⟨T, X, hT, fun t r => Jvm.Free.XT.lrem X.here hx rfl (Jvm.hb hb hd) rfl hy (by rw [lrem_mod]; exact r)⟩
theorem OAt.lshl {S : List Value} {x : Int64} {y : Int32} (c : OAt G K M A cs sl h pc L (.int y :: .long x :: S)) (pc' : Nat) (hd : decode M.b pc = .ok (.lshl, 1)) (hp : pc + 1 = pc' := by rfl) : OAt G K M A cs sl h pc' L (.long (x <<< (y.toInt64 &&& 63)) :: S) := by
  subst hp
  exact c.pure fun vm0 T locs X hT hx hb hZ hown hO => ⟨T, X, hT, fun t r => Jvm.Free.XT.lshl X.here hx rfl (Jvm.hb hb hd) rfl r⟩
theorem OAt.lshr {S : List Value} {x : Int64} {y : Int32} (c : OAt G K M A cs sl h pc L (.int y :: .long x :: S)) (pc' : Nat) (hd : decode M.b pc = .ok (.lshr, 1)) (hp : pc + 1 = pc' := by rfl) : OAt G K M A cs sl h pc' L (.long (x >>> (y.toInt64 &&& 63)) :: S) := by
  subst hp
  exact c.pure fun vm0 T locs X hT hx hb hZ hown hO => ⟨T, X, hT, fun t r => Jvm.Free.XT.lshr X.here hx rfl (Jvm.hb hb hd) rfl r⟩
theorem OAt.lushr {S : List Value} {x : Int64} {y : Int32} (c : OAt G K M A cs sl h pc L (.int y :: .long x :: S)) (pc' : Nat) (hd : decode M.b pc = .ok (.lushr, 1)) (hp : pc + 1 = pc' := by rfl) : OAt G K M A cs sl h pc' L (.long (Jvm.Free.XT.ushrL x y) :: S) := by
  subst hp
  exact c.pure fun vm0 T locs X hT hx hb hZ hown hO => ⟨T, X, hT, fun t r => Jvm.Free.XT.lushr X.here hx rfl (Jvm.hb hb hd) rfl r⟩
theorem OAt.lcmp {S : List Value} {x y : Int64} (c : OAt G K M A cs sl h pc L (.long y :: .long x :: S)) (pc' : Nat) (hd : decode M.b pc = .ok (.lcmp, 1)) (hp : pc + 1 = pc' := by rfl) : OAt G K M A cs sl h pc' L (.int (Jvm.Free.XT.cmpL x y) :: S) := by
  subst hp
  exact c.pure fun vm0 T locs X hT hx hb hZ hown hO => ⟨T, X, hT, fun t r => Jvm.Free.XT.lcmp X.here hx rfl (Jvm.hb hb hd) rfl r⟩
theorem OAt.i2b {S : List Value} {x : Int32} (c : OAt G K M A cs sl h pc L (.int x :: S)) (pc' : Nat) (hd : decode M.b pc = .ok (.i2b, 1)) (hp : pc + 1 = pc' := by rfl) : OAt G K M A cs sl h pc' L (.int (x.toInt8.toInt32) :: S) := by
  subst hp
  exact c.pure fun vm0 T locs X hT hx hb hZ hown hO => ⟨T, X, hT, fun t r => Jvm.Free.XT.i2b X.here hx rfl (Jvm.hb hb hd) rfl r⟩
theorem OAt.i2c {S : List Value} {x : Int32} (c : OAt G K M A cs sl h pc L (.int x :: S)) (pc' : Nat) (hd : decode M.b pc = .ok (.i2c, 1)) (hp : pc + 1 = pc' := by rfl) : OAt G K M A cs sl h pc' L (.int (x.toUInt32.toUInt16.toUInt32.toInt32) :: S) := by
  subst hp
  exact c.pure fun vm0 T locs X hT hx hb hZ hown hO => ⟨T, X, hT, fun t r => Jvm.Free.XT.i2c X.here hx rfl (Jvm.hb hb hd) rfl r⟩
theorem OAt.i2l {S : List Value} {x : Int32} (c : OAt G K M A cs sl h pc L (.int x :: S)) (pc' : Nat) (hd : decode M.b pc = .ok (.i2l, 1)) (hp : pc + 1 = pc' := by rfl) : OAt G K M A cs sl h pc' L (.long (x.toInt64) :: S) := by
  subst hp
  exact c.pure fun vm0 T locs X hT hx hb hZ hown hO => ⟨T, X, hT, fun t r => Jvm.Free.XT.i2l X.here hx rfl (Jvm.hb hb hd) rfl r⟩
theorem OAt.l2i {S : List Value} {x : Int64} (c : OAt G K M A cs sl h pc L (.long x :: S)) (pc' : Nat) (hd : decode M.b pc = .ok (.l2i, 1)) (hp : pc + 1 = pc' := by rfl) : OAt G K M A cs sl h pc' L (.int (x.toInt32) :: S) := by
  subst hp
  exact c.pure fun vm0 T locs X hT hx hb hZ hown hO => ⟨T, X, hT, fun t r => Jvm.Free.XT.l2i X.here hx rfl (Jvm.hb hb hd) rfl r⟩
theorem OAt.dup {S : List Value} {x : Value} (c : OAt G K M A cs sl h pc L (x :: S)) (pc' : Nat) (hd : decode M.b pc = .ok (.dup, 1)) (hc : x.category = 1) (hp : pc + 1 = pc' := by rfl) : OAt G K M A cs sl h pc' L (x :: x :: S) := by
  subst hp
  exact c.pure fun vm0 T locs X hT hx hb hZ hown hO => ⟨T, X, hT, fun t r => XS.dup X.here hx rfl (Jvm.hb hb hd) rfl hc r⟩
theorem OAt.pop {S : List Value} {x : Value} (c : OAt G K M A cs sl h pc L (x :: S)) (pc' : Nat) (hd : decode M.b pc = .ok (.pop, 1)) (hc : x.category = 1) (hp : pc + 1 = pc' := by rfl) : OAt G K M A cs sl h pc' L (S) := by
  subst hp
  exact c.pure fun vm0 T locs X hT hx hb hZ hown hO => ⟨T, X, hT, fun t r => Jvm.Free.XT.pop X.here hx rfl (Jvm.hb hb hd) rfl hc r⟩
theorem OAt.dupX1 {S : List Value} {x y : Value} (c : OAt G K M A cs sl h pc L (x :: y :: S)) (pc' : Nat) (hd : decode M.b pc = .ok (.dup_x1, 1)) (hc : x.category = 1) (hc' : y.category = 1) (hp : pc + 1 = pc' := by rfl) : OAt G K M A cs sl h pc' L (x :: y :: x :: S) := by
  subst hp
  exact c.pure fun vm0 T locs X hT hx hb hZ hown hO => ⟨T, X, hT, fun t r => Jvm.Free.XT.dupX1 X.here hx rfl (Jvm.hb hb hd) rfl hc hc' r⟩
theorem OAt.dup2 {S : List Value} {x y : Value} (c : OAt G K M A cs sl h pc L (x :: y :: S)) (pc' : Nat) (hd : decode M.b pc = .ok (.dup2, 1)) (hc : x.category = 1) (hc' : y.category = 1) (hp : pc + 1 = pc' := by rfl) : OAt G K M A cs sl h pc' L (x :: y :: x :: y :: S) := by
  subst hp
  exact c.pure fun vm0 T locs X hT hx hb hZ hown hO => ⟨T, X, hT, fun t r => Jvm.Free.XT.dup2 X.here hx rfl (Jvm.hb hb hd) rfl hc hc' r⟩
theorem OAt.iinc {S : List Value} {k : Nat} {i : Int} {x : Int32} (c : OAt G K M A cs sl h pc L S) (pc' : Nat) (hd : decode M.b pc = .ok (.iinc k i, 3)) (hl : L[k]? = some (.val (.int x))) (v : Int32) (hv : x + Int32.ofInt i = v) (L' : Array Slot) (hl' : storeLocals L k (.int v) = some L') (hp : pc + 3 = pc' := by rfl) : OAt G K M A cs sl h pc' L' S := by
  subst hp
  exact c.pure fun vm0 T locs X hT hx hb hZ hown hO => ⟨T, X, hT, fun t r => XS.iinc X.here hx rfl (Jvm.hb hb hd) hl (hv ▸ hl') r⟩
theorem OAt.goto {S : List Value} {o : Int}  (c : OAt G K M A cs sl h pc L (S)) (pc' : Nat) (hd : decode M.b pc = .ok (.goto o, 3)) (ho : 0 ≤ (pc : Int) + o := by decide) (hp : ((pc : Int) + o).toNat = pc' := by decide) : OAt G K M A cs sl h pc' L S :=
  c.pure fun vm0 T locs X hT hx hb hZ hown hO => ⟨T, X, hT, fun t r => XS.goto X.here hx rfl rfl (Jvm.hb hb hd) ho hp r⟩
theorem OAt.ifT {S : List Value} {o : Int} {cd : ClassFile.Cond} {x : Int32} (c : OAt G K M A cs sl h pc L (.int x :: S)) (pc' : Nat) (hd : decode M.b pc = .ok (.ifCond cd o, 3)) (hc : ifCond.holds cd x = true) (ho : 0 ≤ (pc : Int) + o := by decide) (hp : ((pc : Int) + o).toNat = pc' := by decide) : OAt G K M A cs sl h pc' L S :=
  c.pure fun vm0 T locs X hT hx hb hZ hown hO => ⟨T, X, hT, fun t r => XS.ifYes X.here hx rfl rfl (Jvm.hb hb hd) rfl hc ho hp r⟩
theorem OAt.icT {S : List Value} {o : Int} {cd : ClassFile.Cond} {x y : Int32} (c : OAt G K M A cs sl h pc L (.int y :: .int x :: S)) (pc' : Nat) (hd : decode M.b pc = .ok (.if_icmp cd o, 3)) (hc : if_icmp.holds cd x y = true) (ho : 0 ≤ (pc : Int) + o := by decide) (hp : ((pc : Int) + o).toNat = pc' := by decide) : OAt G K M A cs sl h pc' L S :=
  c.pure fun vm0 T locs X hT hx hb hZ hown hO => ⟨T, X, hT, fun t r => XS.icmpYes X.here hx rfl rfl (Jvm.hb hb hd) rfl hc ho hp r⟩
theorem OAt.nullT {S : List Value} {o : Int}  (c : OAt G K M A cs sl h pc L (.null :: S)) (pc' : Nat) (hd : decode M.b pc = .ok (.ifnull o, 3)) (ho : 0 ≤ (pc : Int) + o := by decide) (hp : ((pc : Int) + o).toNat = pc' := by decide) : OAt G K M A cs sl h pc' L S :=
  c.pure fun vm0 T locs X hT hx hb hZ hown hO => ⟨T, X, hT, fun t r => XS.ifnullYes X.here hx rfl rfl (Jvm.hb hb hd) rfl ho hp r⟩
theorem OAt.nonnullT {S : List Value} {o : Int} {b : Addr} (c : OAt G K M A cs sl h pc L (.ref b :: S)) (pc' : Nat) (hd : decode M.b pc = .ok (.ifnonnull o, 3)) (ho : 0 ≤ (pc : Int) + o := by decide) (hp : ((pc : Int) + o).toNat = pc' := by decide) : OAt G K M A cs sl h pc' L S :=
  c.pure fun vm0 T locs X hT hx hb hZ hown hO => ⟨T, X, hT, fun t r => Jvm.Free.XT.ifnonnullYes X.here hx rfl rfl (Jvm.hb hb hd) rfl ho hp r⟩
theorem OAt.acT {S : List Value} {o : Int} {cd : ClassFile.ACond} {x y : Value} (c : OAt G K M A cs sl h pc L (y :: x :: S)) (pc' : Nat) (hd : decode M.b pc = .ok (.if_acmp cd o, 3)) (h1 : x.isRef = true) (h2 : y.isRef = true) (hc : Jvm.Free.XT.acmp cd x y = true) (ho : 0 ≤ (pc : Int) + o := by decide) (hp : ((pc : Int) + o).toNat = pc' := by decide) : OAt G K M A cs sl h pc' L S :=
  c.pure fun vm0 T locs X hT hx hb hZ hown hO => ⟨T, X, hT, fun t r => Jvm.Free.XT.acmpYes X.here hx rfl rfl (Jvm.hb hb hd) rfl h1 h2 hc ho hp r⟩
theorem OAt.ifF {S : List Value} {cd : ClassFile.Cond} {o : Int} {x : Int32} (c : OAt G K M A cs sl h pc L (.int x :: S)) (pc' : Nat) (hd : decode M.b pc = .ok (.ifCond cd o, 3)) (hc : ifCond.holds cd x = false) (hp : pc + 3 = pc' := by rfl) : OAt G K M A cs sl h pc' L (S) := by
  subst hp
  exact c.pure fun vm0 T locs X hT hx hb hZ hown hO => ⟨T, X, hT, fun t r => XS.ifNo X.here hx rfl (Jvm.hb hb hd) rfl hc r⟩
theorem OAt.icF {S : List Value} {cd : ClassFile.Cond} {o : Int} {x y : Int32} (c : OAt G K M A cs sl h pc L (.int y :: .int x :: S)) (pc' : Nat) (hd : decode M.b pc = .ok (.if_icmp cd o, 3)) (hc : if_icmp.holds cd x y = false) (hp : pc + 3 = pc' := by rfl) : OAt G K M A cs sl h pc' L (S) := by
  subst hp
  exact c.pure fun vm0 T locs X hT hx hb hZ hown hO => ⟨T, X, hT, fun t r => XS.icmpNo X.here hx rfl (Jvm.hb hb hd) rfl hc r⟩
theorem OAt.nullF {S : List Value} {o : Int} {b : Addr} (c : OAt G K M A cs sl h pc L (.ref b :: S)) (pc' : Nat) (hd : decode M.b pc = .ok (.ifnull o, 3)) (hp : pc + 3 = pc' := by rfl) : OAt G K M A cs sl h pc' L (S) := by
  subst hp
  exact c.pure fun vm0 T locs X hT hx hb hZ hown hO => ⟨T, X, hT, fun t r => XS.ifnullNo X.here hx rfl (Jvm.hb hb hd) rfl r⟩
theorem OAt.nonnullF {S : List Value} {o : Int} (c : OAt G K M A cs sl h pc L (.null :: S)) (pc' : Nat) (hd : decode M.b pc = .ok (.ifnonnull o, 3)) (hp : pc + 3 = pc' := by rfl) : OAt G K M A cs sl h pc' L (S) := by
  subst hp
  exact c.pure fun vm0 T locs X hT hx hb hZ hown hO => ⟨T, X, hT, fun t r => Jvm.Free.XT.ifnonnullNo X.here hx rfl (Jvm.hb hb hd) rfl r⟩
theorem OAt.acF {S : List Value} {cd : ClassFile.ACond} {o : Int} {x y : Value} (c : OAt G K M A cs sl h pc L (y :: x :: S)) (pc' : Nat) (hd : decode M.b pc = .ok (.if_acmp cd o, 3)) (h1 : x.isRef = true) (h2 : y.isRef = true) (hc : Jvm.Free.XT.acmp cd x y = false) (hp : pc + 3 = pc' := by rfl) : OAt G K M A cs sl h pc' L (S) := by
  subst hp
  exact c.pure fun vm0 T locs X hT hx hb hZ hown hO => ⟨T, X, hT, fun t r => Jvm.Free.XT.acmpNo X.here hx rfl (Jvm.hb hb hd) rfl h1 h2 hc r⟩
theorem OAt.ldcI {S : List Value} {ix : Nat} {v : Int32} (c : OAt G K M A cs sl h pc L (S)) (pc' : Nat) (hd : decode M.b pc = .ok (.ldc ix, 2)) (w : OW G (Jvm.Cond.constant M.own ix v)) (hp : pc + 2 = pc' := by rfl) : OAt G K M A cs sl h pc' L (.int v :: S) := by
  subst hp
  exact c.pure fun vm0 T locs X hT hx hb hZ hown hO => ⟨T, X, hT, fun t r => X.ldcInt hx hown (mvT hZ w) (g := mkF K.m pc L S) rfl (Jvm.hb hb hd) t r⟩
theorem OAt.ldcL {S : List Value} {ix : Nat} {v : Int64} (c : OAt G K M A cs sl h pc L (S)) (pc' : Nat) (hd : decode M.b pc = .ok (.ldc2_w ix, 3)) (w : OW G (Jvm.Cond.constantLong M.own ix v)) (hp : pc + 3 = pc' := by rfl) : OAt G K M A cs sl h pc' L (.long v :: S) := by
  subst hp
  exact c.pure fun vm0 T locs X hT hx hb hZ hown hO => ⟨T, X, hT, fun t r => X.ldc2Long hx hown (mvT hZ w) (g := mkF K.m pc L S) rfl (Jvm.hb hb hd) t r⟩
end Plain
section Arrays
variable {Z : State} {h h' : Heap} {a b : Addr} {ty : FieldType} {vs : List Value}
/-- an array at a of type ty that holds just the values vs -/
def Ary (Z : State) (h : Heap) (a : Addr) (ty : FieldType) (vs : List Value) : Prop := ∃ c : Cell, Arr Z h a c ty ∧ c.slots.toList = vs ∧ vs.length < 2147483648 ∧ ∀ v ∈ vs, fits ty v = true
theorem Ary.lt (F : Ary Z h a ty vs) : a < h.size := by obtain ⟨c, A, -⟩ := F; exact A.lt
theorem Ary.ext (F : Ary Z h a ty vs) (E : Ext h h') : Ary Z h' a ty vs := by obtain ⟨c, A, r⟩ := F; exact ⟨c, A.ext E, r⟩
theorem Ary.keep (F : Ary Z h a ty vs) {ws : List Addr} (K : Keep h h' ws) (q : a ∉ ws) : Ary Z h' a ty vs := by obtain ⟨c, A, r⟩ := F; exact ⟨c, ⟨K.2.1 a c A.1 q, A.2⟩, r⟩
theorem Ary.other (F : Ary Z h b ty vs) {sl : Nat} {v : Value} (W : Wr h h' a sl v) (q : b ≠ a) : Ary Z h' b ty vs := by obtain ⟨c, A, r⟩ := F; exact ⟨c, A.other W q, r⟩
theorem Ary.len (F : Ary Z h a ty vs) : vs.length < 2147483648 := by obtain ⟨c, A, -, r, -⟩ := F; exact r
theorem Ary.set (F : Ary Z h a ty vs) {i : Nat} {v : Value} (W : Wr h h' a i v) (hv : fits ty v = true) : Ary Z h' a ty (vs.set i v) := by
  obtain ⟨c, A, rfl, hl, hf⟩ := F
  refine ⟨c.setSlot i v, A.same W, ?_, by simpa using hl, fun w hw => ?_⟩
  · show (c.slots.setIfInBounds i v).toList = _
    simp
  · rcases List.mem_or_eq_of_mem_set hw with q | rfl
    · exact hf w q
    · exact hv
theorem Ary.arv (F : Ary Z h a ty vs) (d : Value) : ∃ k, Arv Z h a k ty (Int32.ofNat vs.length) vs d := by
  obtain ⟨c, A, rfl, hl, hf⟩ := F
  have e := Int32.toInt_ofNat_small hl
  refine ⟨c.cls, c, A, rfl, ?_, ?_, fun k hk => ?_, fun i hi => ?_⟩
  · simp only [Int32.toNatClampNeg, e]; simp
  · rw [Int32.lt_iff_toInt_lt, e]; show ¬ _ < (0 : Int); omega
  · rw [List.getD_eq_getElem?_getD]; simp [hk]
  · rw [List.getD_eq_getElem?_getD]; simp only [Array.getElem?_toList, Array.getElem?_eq_getElem hi, Option.getD_some]
    exact hf _ (by simp)
theorem Ary.of_arv {k : ClassId} {z : Int32} {d : Value} (F : Arv Z h a k ty z vs d) (hz : z.toNatClampNeg = vs.length) : Ary Z h a ty vs := by
  obtain ⟨c, A, -, hs, hn, H, Gf⟩ := F
  have hlen : c.slots.size = vs.length := hs.trans hz
  have hl : vs.length < 2147483648 := by
    have := z.toInt_lt
    rw [← hz]; simp only [Int32.toNatClampNeg]; omega
  refine ⟨c, A, ?_, hl, fun v hv => ?_⟩
  · apply List.ext_getElem?
    intro i
    by_cases q : i < c.slots.size
    · rw [Array.getElem?_toList, H i q, List.getD_eq_getElem?_getD]
      have : i < vs.length := by omega
      simp [this]
    · rw [List.getElem?_eq_none (by simp; omega), List.getElem?_eq_none (by omega)]
  · obtain ⟨i, hi, rfl⟩ := List.mem_iff_getElem.mp hv
    have := Gf i (by omega)
    simpa [List.getD_eq_getElem?_getD, hi] using this
theorem Ary.new {k : ClassId} {n : Nat} (A : Arr Z h a (newA k ty (Int32.ofNat n)) ty) (hn : n < 2147483648) (hf : fits ty (defaultValue ty) = true) : Ary Z h a ty (List.replicate n (defaultValue ty)) := by
  refine ⟨_, A, ?_, by simpa using hn, fun v hv => by rw [List.eq_of_mem_replicate hv]; exact hf⟩
  have e := Int32.toInt_ofNat_small hn
  simp only [newA, Int32.toNatClampNeg, e]; simp
theorem own_ix {i n : Nat} {j : Int32} (hj : Int32.ofNat i = j) (hi : i < n) (hn : n < 2147483648) : j.toNatClampNeg = i ∧ ¬ (j < 0 ∨ n ≤ j.toNatClampNeg) := by
  subst hj
  have e := Int32.toInt_ofNat_small (show i < 2 ^ 31 by omega)
  have e2 : (Int32.ofNat i).toNatClampNeg = i := by simp only [Int32.toNatClampNeg, e]; simp
  refine ⟨e2, ?_⟩
  rw [e2, Int32.lt_iff_toInt_lt, e]
  show ¬ ((i : Int) < 0 ∨ n ≤ i)
  omega
end Arrays
section HeapSteps
variable {G : Gx} {K : Kx} {M : Mx} {A : List Addr} {cs sl : Nat} {h : Heap} {pc : Nat} {L : Array Slot} {S : List Value}
theorem OAt.getF {O n d R0 : String} {ix : Nat} {a : Addr} {v : Value} (c : OAt G K M A cs sl h pc L (.ref a :: S)) (pc' : Nat) (hd : decode M.b pc = .ok (.getfield ix, 3)) (w : OW G (Jvm.Cond.fieldLink M.own ix R0 n d)) (F : Fld G.Z h a O n d v) (via : Via G.Z R0 O n d := by exact Via.refl) (hp : pc + 3 = pc' := by rfl) : OAt G K M A cs sl h pc' L (v :: S) := by
  subst hp
  exact c.pure fun vm0 T locs X hT hx hb hZ hown hO => Jvm.RoadKit.getF X hx hZ hown (host := "") (Or.inl w) via hT F (g := mkF K.m pc L (.ref a :: S)) rfl rfl (Jvm.hb hb hd)
theorem OAt.getS {O n d R0 : String} {ix : Nat} {v : Value} (c : OAt G K M A cs sl h pc L S) (pc' : Nat) (hd : decode M.b pc = .ok (.getstatic ix, 3)) (w : OW G (Jvm.Cond.fieldLink M.own ix R0 n d)) (F : Sta G.Z G.Z.heap O n d v) (via : Via G.Z R0 O n d := by exact Via.refl) (hp : pc + 3 = pc' := by rfl) : OAt G K M A cs sl h pc' L (v :: S) := by
  subst hp
  exact c.pure fun vm0 T locs X hT hx hb hZ hown hO => Jvm.RoadKit.getS X hx hZ hown (host := "") w via hT (F.ext hO.2) (g := mkF K.m pc L S) rfl (Jvm.hb hb hd)
theorem OAt.cast {C : String} {ix : Nat} {a : Addr} (c : OAt G K M A cs sl h pc L (.ref a :: S)) (pc' : Nat) (hd : decode M.b pc = .ok (.checkcast ix, 3)) (w : OW G (Jvm.Cond.classLink M.own ix C)) (F : Ins G.Z h a C true) (hp : pc + 3 = pc' := by rfl) : OAt G K M A cs sl h pc' L (.ref a :: S) := by
  subst hp
  exact c.pure fun vm0 T locs X hT hx hb hZ hown hO => castY X hx hZ hown w hT F (g := mkF K.m pc L (.ref a :: S)) rfl rfl (Jvm.hb hb hd)
theorem OAt.inst1 {C : String} {ix : Nat} {a : Addr} (c : OAt G K M A cs sl h pc L (.ref a :: S)) (pc' : Nat) (hd : decode M.b pc = .ok (.instanceof ix, 3)) (w : OW G (Jvm.Cond.classLink M.own ix C)) (F : Ins G.Z h a C true) (hp : pc + 3 = pc' := by rfl) : OAt G K M A cs sl h pc' L (.int 1 :: S) := by
  subst hp
  exact c.pure fun vm0 T locs X hT hx hb hZ hown hO => instY X hx hZ hown w hT F (g := mkF K.m pc L (.ref a :: S)) rfl rfl (Jvm.hb hb hd)
theorem OAt.initO {ix : Nat} {a : Addr} {W : Nat} (c : OAt G K M A cs sl h pc L (.ref a :: S)) (pc' : Nat) (hd : decode M.b pc = .ok (.invokespecial ix, 3)) (w1 : OW G (Jvm.Cond.methodLink M.own ix Lib.objectInit)) (w2 : OW G (Jvm.Cond.instanceMethod Lib.objectInit)) (w3 : OW G (Jvm.Cond.code Lib.objectInit object_method_1_code 1 none))
    (hW : (S.map fun v => v.category).sum = W) (hl : W + 12 ≤ M.R.locals) (hf : 1 ≤ M.R.frames) (hL : L.size = M.ml := by rfl) (hp : pc + 3 = pc' := by rfl) : OAt G K M A cs sl h pc' L S := by
  subst hp
  have hml := c.1.2.2.2.2.2.1
  exact c.pure fun vm0 T locs X hT hx hb hZ hown hO => Jvm.RoadKit.initO X hx hZ hown w1 w2 w3 hT (g := mkF K.m pc L (.ref a :: S)) rfl (hL.trans hml.symm) rfl (Jvm.hb hb hd) hf (W := W) (by show 2 * 0 + _ ≤ _; omega) hl
theorem OAt.arrlen {ty : FieldType} {vs : List Value} {a : Addr} (c : OAt G K M A cs sl h pc L (.ref a :: S)) (pc' : Nat) (hd : decode M.b pc = .ok (.arraylength, 1)) (F : Ary G.Z h a ty vs) (n : Int32) (hn : Int32.ofNat vs.length = n) (hp : pc + 1 = pc' := by rfl) : OAt G K M A cs sl h pc' L (.int n :: S) := by
  subst hp
  obtain ⟨cl, Ar, rfl, -⟩ := F
  exact c.pure fun vm0 T locs X hT hx hb hZ hown hO => ⟨T, X, hT, fun t r => X.arraylength hx (by rw [hT]; exact Ar.1) (State.isArrayOf_alike hZ.alike Ar.2.1) (g := mkF K.m pc L (.ref a :: S)) rfl rfl (Jvm.hb hb hd) t (by subst hn; simpa using r)⟩
theorem OAt.caload {vs : List Value} {a : Addr} {j : Int32} (c : OAt G K M A cs sl h pc L (.int j :: .ref a :: S)) (pc' : Nat) (hd : decode M.b pc = .ok (.caload, 1)) (F : Ary G.Z h a .char vs) (i : Nat) (hj : Int32.ofNat i = j) (v : Value) (hv : vs[i]? = some v) (hp : pc + 1 = pc' := by rfl) : OAt G K M A cs sl h pc' L (v :: S) := by
  subst hp
  obtain ⟨cl, Ar, rfl, hl, -⟩ := F
  have hi : i < cl.slots.size := by simpa using (List.getElem?_eq_some_iff.mp hv).1
  obtain ⟨e, q⟩ := own_ix hj hi (by simpa using hl)
  exact c.pure fun vm0 T locs X hT hx hb hZ hown hO => ⟨T, X, hT, fun t r => X.caload hx (by rw [hT]; exact Ar.1) (State.isArrayOf_alike hZ.alike Ar.2.1) Ar.2.2 q (by rw [e]; simpa using hv) (g := mkF K.m pc L (.int j :: .ref a :: S)) rfl rfl (Jvm.hb hb hd) t r⟩
theorem OAt.baload {vs : List Value} {a : Addr} {j : Int32} (c : OAt G K M A cs sl h pc L (.int j :: .ref a :: S)) (pc' : Nat) (hd : decode M.b pc = .ok (.baload, 1)) (F : Ary G.Z h a .byte vs) (i : Nat) (hj : Int32.ofNat i = j) (v : Value) (hv : vs[i]? = some v) (hp : pc + 1 = pc' := by rfl) : OAt G K M A cs sl h pc' L (v :: S) := by
  subst hp
  obtain ⟨cl, Ar, rfl, hl, -⟩ := F
  have hi : i < cl.slots.size := by simpa using (List.getElem?_eq_some_iff.mp hv).1
  obtain ⟨e, q⟩ := own_ix hj hi (by simpa using hl)
  exact c.pure fun vm0 T locs X hT hx hb hZ hown hO => ⟨T, X, hT, fun t r => X.baloadBytes hx (by rw [hT]; exact Ar.1) (State.isArrayOf_alike hZ.alike Ar.2.1) Ar.2.2 q (by rw [e]; simpa using hv) (g := mkF K.m pc L (.int j :: .ref a :: S)) rfl rfl (Jvm.hb hb hd) t r⟩
theorem OAt.aaload {ty : FieldType} {vs : List Value} {a : Addr} {j : Int32} (c : OAt G K M A cs sl h pc L (.int j :: .ref a :: S)) (pc' : Nat) (hd : decode M.b pc = .ok (.aaload, 1)) (F : Ary G.Z h a ty vs) (hty : ty.isReference = true) (i : Nat) (hj : Int32.ofNat i = j) (v : Value) (hv : vs[i]? = some v) (hp : pc + 1 = pc' := by rfl) : OAt G K M A cs sl h pc' L (v :: S) := by
  subst hp
  obtain ⟨cl, Ar, rfl, hl, -⟩ := F
  have hi : i < cl.slots.size := by simpa using (List.getElem?_eq_some_iff.mp hv).1
  obtain ⟨e, q⟩ := own_ix hj hi (by simpa using hl)
  exact c.pure fun vm0 T locs X hT hx hb hZ hown hO => ⟨T, X, hT, fun t r => X.aaload hx (by rw [hT]; exact Ar.1) (State.isArrayOf_alike hZ.alike Ar.2.1) hty Ar.2.2 q (by rw [e]; simpa using hv) (g := mkF K.m pc L (.int j :: .ref a :: S)) rfl rfl (Jvm.hb hb hd) t r⟩
theorem OAt.newO {C : String} {ix n : Nat} (c : OAt G K M A cs sl h pc L S) (pc' : Nat) (hd : decode M.b pc = .ok (.new ix, 3)) (w1 : OW G (Jvm.Cond.classLink M.own ix C)) (w2 : OW G (Jvm.Cond.instantiable C n)) (w3 : OW G (Jvm.Cond.initialized C)) (hc : cs + 1 ≤ M.R.cells) (hl : sl + n ≤ M.R.slots) (hp : pc + 3 = pc' := by rfl) :
    ∃ (a : Addr) (h' : Heap), a = h.size ∧ Ext h h' ∧ G.n0 ≤ a ∧ Exa G.Z h' a C ∧ (∀ {O nm d : String} {ty : FieldType}, Laid G.Z G.a0 C O nm d → parseFieldDescriptor d = some ty → Fld G.Z h' a O nm d (defaultValue ty)) ∧ Unt h' a ∧ OAt G K M (a :: A) (cs + 1) (sl + n) h' pc' L (.ref a :: S) := by
  subst hp
  obtain ⟨h', E, hn, ⟨hE, hF, hU⟩, c'⟩ := c.grow (pc' := pc + 3) (L' := L) (S' := .ref h.size :: S) (cs' := cs + 1) (sl' := sl + n) (P := fun h' => Exa G.Z h' h.size C ∧ (∀ {O nm d : String} {ty : FieldType}, Laid G.Z G.a0 C O nm d → parseFieldDescriptor d = some ty → Fld G.Z h' h.size O nm d (defaultValue ty)) ∧ Unt h' h.size)
    fun vm0 T locs X hT hx hb hZ hown => by
      obtain ⟨T', h', X', e', E', Ex, Fl, U, st⟩ := Jvm.RoadKit.newO X hx hZ hown w1 w2 w3 hT (g := mkF K.m pc L S) rfl (Jvm.hb hb hd) hc hl
      exact ⟨T', h', X', e', E', Ex.lt, ⟨Ex, Fl, U⟩, st⟩
  exact ⟨h.size, h', rfl, E, hn, hE, hF, hU, c'⟩
theorem OAt.newarr {aty : ArrayType} {n : Int32} (c : OAt G K M A cs sl h pc L (.int n :: S)) (pc' : Nat) (hd : decode M.b pc = .ok (.newarray aty, 2)) (ty : FieldType) (hty : newarray.typeOf aty = ty) (w : OW G (Jvm.Cond.arrayClass ty)) (k : Nat) (hn : Int32.ofNat k = n) (cap : Nat) (hk : k ≤ cap) (hb : cap * 8 ≤ 536870912) (hc : cs + 1 ≤ M.R.cells) (hl : sl + cap ≤ M.R.slots) (hp : pc + 2 = pc' := by rfl) :
    ∃ (a : Addr) (h' : Heap), a = h.size ∧ Ext h h' ∧ G.n0 ≤ a ∧ Ary G.Z h' a ty (List.replicate k (defaultValue ty)) ∧ OAt G K M (a :: A) (cs + 1) (sl + cap) h' pc' L (.ref a :: S) := by
  subst hp hty hn
  have hk31 : k < 2147483648 := by omega
  have e := Int32.toInt_ofNat_small (show k < 2 ^ 31 by omega)
  have e2 : (Int32.ofNat k).toNatClampNeg = k := by simp only [Int32.toNatClampNeg, e]; simp
  obtain ⟨h', E, hn, hA, c'⟩ := c.grow (pc' := pc + 2) (L' := L) (S' := .ref h.size :: S) (cs' := cs + 1) (sl' := sl + cap) (P := fun h' => Ary G.Z h' h.size (newarray.typeOf aty) (List.replicate k (defaultValue (newarray.typeOf aty))))
    fun vm0 T locs X hT hx hbb hZ hown => by
      obtain ⟨T', h', cA, X', e', E', Ar, st⟩ := newP X hx hZ w hT (g := mkF K.m pc L (.int (Int32.ofNat k) :: S)) rfl (Jvm.hb hbb hd) rfl (by rw [Int32.lt_iff_toInt_lt, e]; show ¬ (k : Int) < 0; omega) (cap := cap) (by omega) hb hc hl
      exact ⟨T', h', X', e', E', Ar.lt, Ary.new Ar hk31 (by cases aty <;> rfl), st⟩
  exact ⟨h.size, h', rfl, E, hn, hA, c'⟩
theorem OAt.castore {vs : List Value} {a : Addr} {j x : Int32} (c : OAt G K M A cs sl h pc L (.int x :: .int j :: .ref a :: S)) (pc' : Nat) (hd : decode M.b pc = .ok (.castore, 1)) (F : Ary G.Z h a .char vs) (i : Nat) (hj : Int32.ofNat i = j) (hi : i < vs.length) (hn : G.n0 ≤ a) (y : Int32) (hy : nar .char x = y) (hp : pc + 1 = pc' := by rfl) :
    ∃ h', Wr h h' a i (.int y) ∧ Ary G.Z h' a .char (vs.set i (.int y)) ∧ OAt G K M A cs sl h' pc' L S := by
  subst hp hy
  have F' := F
  obtain ⟨cl, Ar, rfl, hl, -⟩ := F
  obtain ⟨e, q⟩ := own_ix hj (by simpa using hi) (by simpa using hl)
  obtain ⟨h', W, c'⟩ := c.write (pc' := pc + 1) (L' := L) (S' := S) (a := a) (i := i) (v := .int (nar .char x)) hn (fun vm0 hal _ => Safe.arr hal Ar (by decide))
    fun vm0 T locs X hT hx hb hZ hown hnm => by
      have st := stC X hx hZ hT Ar q (g := mkF K.m pc L (.int x :: .int j :: .ref a :: S)) rfl rfl (Jvm.hb hb hd)
      rw [e] at st
      exact st
  exact ⟨h', W, F'.set W (fits_nar_char x), c'⟩
theorem OAt.bastore {vs : List Value} {a : Addr} {j x : Int32} (c : OAt G K M A cs sl h pc L (.int x :: .int j :: .ref a :: S)) (pc' : Nat) (hd : decode M.b pc = .ok (.bastore, 1)) (F : Ary G.Z h a .byte vs) (i : Nat) (hj : Int32.ofNat i = j) (hi : i < vs.length) (hn : G.n0 ≤ a) (hA : a ∈ A) (y : Int32) (hy : nar .byte x = y) (hp : pc + 1 = pc' := by rfl) :
    ∃ h', Wr h h' a i (.int y) ∧ Ary G.Z h' a .byte (vs.set i (.int y)) ∧ OAt G K M A cs sl h' pc' L S := by
  subst hp hy
  have F' := F
  obtain ⟨cl, Ar, rfl, hl, -⟩ := F
  obtain ⟨e, q⟩ := own_ix hj (by simpa using hi) (by simpa using hl)
  obtain ⟨h', W, c'⟩ := c.write (pc' := pc + 1) (L' := L) (S' := S) (a := a) (i := i) (v := .int (nar .byte x)) hn (fun vm0 hal hs => (hs a hA).2)
    fun vm0 T locs X hT hx hb hZ hown hnm => by
      have st := stB X hx hZ hT Ar q (g := mkF K.m pc L (.int x :: .int j :: .ref a :: S)) rfl rfl (Jvm.hb hb hd)
      rw [e] at st
      exact st
  exact ⟨h', W, F'.set W (fits_nar_byte x), c'⟩
theorem OAt.putF {O n d R0 C : String} {ix kk : Nat} {ty : FieldType} {a : Addr} {v old : Value} (c : OAt G K M A cs sl h pc L (v :: .ref a :: S)) (pc' : Nat) (hd : decode M.b pc = .ok (.putfield ix, 3)) (w : OW G (Jvm.Cond.fieldLink M.own ix R0 n d)) (F : Fld G.Z h a O n d old) (E : Exa G.Z h a C)
    (wl : OW G (Jvm.Cond.lays C O n d) ∨ (OW G (Jvm.Cond.laysFinal C O n d) ∧ M.own = O ∧ M.nm = "<init>")) (wi : OW G (Jvm.Cond.instantiable C kk)) (hty : parseFieldDescriptor d = some ty) (hn : narrow ty v = v) (hf : fits ty v = true) (h0 : G.n0 ≤ a) (hA : a ∈ A ∨ (C ≠ "java/lang/String" ∧ C ≠ "[B")) (via : Via G.Z R0 O n d := by exact Via.refl) (hp : pc + 3 = pc' := by rfl) :
    ∃ h', Wr h h' a (Jvm.RoadKit.slotOf G.Z O n d) v ∧ OAt G K M A cs sl h' pc' L S := by
  subst hp
  exact c.write h0 (fun vm0 hal hs => hA.elim (fun q => (hs a q).2) (fun q => Safe.exa hal E q.1 q.2))
    fun vm0 T locs X hT hx hb hZ hown hnm => Jvm.RoadKit.putF X hx hZ hown (host := "") (Or.inl w) via hT F E (wl.imp id (fun q => ⟨q.1, q.2.1, hnm.trans q.2.2⟩)) wi hty hn hf (g := mkF K.m pc L (v :: .ref a :: S)) rfl rfl (Jvm.hb hb hd)
end HeapSteps
section Calls
variable {G : Gx} {K : Kx} {M : Mx} {A : List Addr} {cs sl : Nat} {h : Heap} {pc : Nat} {L : Array Slot} {S : List Value}
theorem own_safe {Z : State} {EL : List (String × Nat)} {vm vm1 : Vm} {h : Heap} {x : Addr} (A : CHr Z EL vm h vm1 h) (q : x < h.size ∧ Safe Z EL vm h x) : x < h.size ∧ Safe Z EL vm1 h x := ⟨q.1, A.safe q.1 q.2⟩
/-- a contract, as the payer of a call -/
theorem OCon.payer {y : MethodName} {B : ByteArray} {ml : Nat} {rt : Option FieldType} {rm : Room} {as : Array Value} {A' : List Addr} {Q : Option Value → Heap → (Addr → Prop) → Prop} {p : Program} {e : Env} {R : Room} {s : State} {vm0 : Vm} {args : Array Value} {below : List Frame} {len W : Nat}
    (hC : OCon G y B ml rt [] rm as A' h Q) (hZ : G.Z.Warmed39 (s.setVm vm0).vm) (wc : OW G (Jvm.Cond.code y B ml rt)) (wz : OW G (Jvm.Cond.initialized y.cls)) (hf : rm.frames + 1 ≤ R.frames) (hl : W + (ml + 11) + rm.locals ≤ R.locals) (hEL : EW G.Z G.a0 G.EL) (H : CHv G.Z G.EL vm0 h) (hA : ∀ x ∈ A', OSafe G vm0 h x) (hO : Old G.Z G.n0 h) :
    BackS G.l R p e below (s.setVm vm0) args y len W (fun P a => a = as ∧ P.U.heap = h ∧ P.cells + rm.cells ≤ R.cells ∧ P.slots + rm.slots ≤ R.slots)
      (fun P _ v P' => ∃ L', Q v P'.U.heap (OSafe G P'.U.vm P'.U.heap) ∧ Fr G.n0 L' ∧ Old G.Z G.n0 P'.U.heap ∧ P'.locs = P.locs ++ L' ∧ P'.cells = P.cells + rm.cells ∧ P'.slots = P.slots + rm.slots ∧ CHr G.Z G.EL vm0 h P'.U.vm P'.U.heap) :=
  BackS.of_freeW (bytes := B) (maxL := ml) (ret := rt) (E := fun _ first o t L' k n => k = rm.cells ∧ n = rm.slots ∧ (∃ v, o = .returned v ∧ Q v t.heap (OSafe G t.vm t.heap)) ∧ Fr G.n0 L' ∧ Old G.Z G.n0 t.heap ∧ CHr G.Z G.EL first.vm first.heap t.vm t.heap) hC hf hl
    (fun m meth c P a Y hp => have hU : G.Z.Warmed39 P.U.vm := wtrans (s := s.setVm vm0) hZ Y.warmed
      ⟨by show (Jvm.Cond.and _ .tt).before a P.U = true; rw [Cond.before_and, mv hU wc]; rfl, mv hU wc, mv hU wz, hp.2.2.1, hp.2.2.2⟩)
    (fun m meth c P a g mk Y hp => have hc := CHv.at Y hZ hEL H; ⟨hp.1, wtrans (s := s.setVm vm0) hZ Y.warmed, hp.2.1, hc.1, fun x hx => own_safe hc (hA x hx), hO⟩) (fun _ _ _ _ _ _ _ _ _ => trivial)
    (fun _ _ _ _ ⟨v, L', h1, h2, h3, h4, h5, h6⟩ => ⟨L', _, _, h6, rfl, rfl, ⟨v, h1, h2⟩, h3, h4, h5⟩)
    (fun m meth c P a g mk v t L' k n Y hp _ _ ⟨e1, e2, ⟨v', e3, e4⟩, e5, e6, e7⟩ => by
      cases e3; subst e1 e2
      refine ⟨L', e4, e5, e6, rfl, rfl, rfl, (CHv.at Y hZ hEL H).trans ?_⟩
      rw [← hp.2.1]; exact e7)
/-- what a call leaves, folded -/
theorem own_after {rm : Room} {Q : Option Value → Heap → (Addr → Prop) → Prop} {v : Option Value} {vm0 : Vm} {k0 : Nat} {T : State} {locs : List Loc} {P' : Pt} {pc' : Nat} {S' : List Value} (ok : OOk G K M) (hT : T.heap = h) (hS : K.s.Since vm0 k0) (hk : k0 ≤ h.size) (hZ : G.Z.Warmed39 (K.s.setVm vm0).vm) (hown : (K.s.setVm vm0).vm.findClass M.own = some K.m.cls)
    (hC : CHr G.Z G.EL K.s.vm K.s.heap vm0 h) (hA : ∀ x ∈ A, OSafe G vm0 h x) (hF : Fr G.n0 locs)
    (X' : Stand K.p G.l K.e M.R ((K.s.setVm vm0).setVm P'.U.vm) K.m K.args K.below K.meth K.c P'.U P'.locs P'.cells P'.slots) (hS' : (K.s.setVm vm0).Since P'.U.vm P'.U.heap.size) (hg : T.heap.size ≤ P'.U.heap.size)
    (hq : ∃ L', Q v P'.U.heap (OSafe G P'.U.vm P'.U.heap) ∧ Fr G.n0 L' ∧ Old G.Z G.n0 P'.U.heap ∧ P'.locs = locs ++ L' ∧ P'.cells = cs + rm.cells ∧ P'.slots = sl + rm.slots ∧ CHr G.Z G.EL vm0 h P'.U.vm P'.U.heap)
    (st : Steps K.p.tables K.e K.below K.s0 (P'.U.setTop (mkF K.m pc' L S'))) : ∃ sf, Q v P'.U.heap sf ∧ ∀ B, (∀ x ∈ B, sf x) → OAt G K M (B ++ A) (cs + rm.cells) (sl + rm.slots) P'.U.heap pc' L S' := by
  obtain ⟨L', q1, q2, q3, q4, q5, q6, q7⟩ := hq
  rw [hT] at hg
  obtain ⟨X2, hS2, hZ2, hown2⟩ := rebS hS hk X' hS' hg hZ hown
  rw [q4, q5, q6] at X2
  exact ⟨_, q1, fun B hB => ⟨ok, P'.U.vm, P'.U.heap.size, P'.U, locs ++ L', X2, rfl, hS2, Nat.le_refl _, hZ2, hown2, hC.trans q7, fun x hx => (List.mem_append.mp hx).elim (hB x) fun hx => ⟨Nat.lt_of_lt_of_le (hA x hx).1 hg, q7.safe (hA x hx).1 (hA x hx).2⟩, hF.app q2, q3, st⟩⟩
theorem OAt.callS {y : MethodName} {B : ByteArray} {ml : Nat} {rt : Option FieldType} {rm : Room} {A' : List Addr} {Q : Option Value → Heap → (Addr → Prop) → Prop} {ix W : Nat} {argsL rest : List Value} (c : OAt G K M A cs sl h pc L S) (pc' : Nat) (hd : decode M.b pc = .ok (.invokestatic ix, 3))
    (hC : OCon G y B ml rt [] rm argsL.toArray A' h Q) (hstk : S = argsL.reverse ++ rest) (w1 : OW G (Jvm.Cond.methodLink M.own ix y)) (w2 : OW G (Jvm.Cond.static y)) (w3 : OW G (Jvm.Cond.initialized y.cls)) (w4 : OW G (Jvm.Cond.code y B ml rt)) (hlen : ∀ sig, parseMethodDescriptor y.desc = some sig → argsL.length = sig.parameters.length)
    (hA : ∀ x ∈ A', x ∈ A) (hW : (rest.map fun v => v.category).sum = W) (hl : W + (ml + 11) + rm.locals ≤ M.R.locals) (hf : rm.frames + 1 ≤ M.R.frames) (hc : cs + rm.cells ≤ M.R.cells) (hs : sl + rm.slots ≤ M.R.slots) (hy : y.cls ≠ "java/lang/invoke/MethodHandle" ∧ y.cls ≠ "java/lang/invoke/VarHandle" := by decide) (hL : L.size = M.ml := by rfl) (hp : pc + 3 = pc' := by rfl) :
    ∃ (v : Option Value) (h' : Heap) (sf : Addr → Prop), Q v h' sf ∧ ∀ B, (∀ x ∈ B, sf x) → OAt G K M (B ++ A) (cs + rm.cells) (sl + rm.slots) h' pc' L (v.toList ++ rest) := by
  subst hp
  obtain ⟨ok, vm0, k0, T, locs, X, hT, hS, hk, hZ, hown, hCh, hAs, hF, hO, st⟩ := c
  obtain ⟨v, vm1, P', hw1, X', hS', hg, hq, st'⟩ := callSS X ok.1 hown (mvT hZ w1) (mvT hZ w2) (mvT hZ w3) (mvT hZ w4) hy (hC.payer hZ w4 w3 hf hl ok.2.2.2.2.2.2 hCh.1 (fun x hx => hAs x (hA x hx)) hO) (g := mkF K.m pc L S) rfl (hL.trans ok.2.2.2.2.2.1.symm) (argsL := argsL) (rest := rest) hlen hstk (by show 2 * 0 + _ ≤ _; omega) (Jvm.hb ok.2.1 hd) (fun _ _ => ⟨rfl, hT, hc, hs⟩)
  obtain ⟨sf, q, c'⟩ := own_after (v := v) (L := L) (S' := v.toList ++ rest) (pc' := pc + 3) ok hT hS hk hZ hown hCh hAs hF X' hS' hg hq (st.trans st')
  exact ⟨v, _, sf, q, c'⟩
theorem OAt.callI {y : MethodName} {B : ByteArray} {ml : Nat} {rm : Room} {A' : List Addr} {Q : Option Value → Heap → (Addr → Prop) → Prop} {ix W : Nat} {a : Addr} {argsL rest : List Value} (c : OAt G K M A cs sl h pc L S) (pc' : Nat) (hd : decode M.b pc = .ok (.invokespecial ix, 3))
    (hC : OCon G y B ml none [] rm (.ref a :: argsL).toArray A' h Q) (hstk : S = argsL.reverse ++ .ref a :: rest) (w1 : OW G (Jvm.Cond.methodLink M.own ix y)) (w2 : OW G (Jvm.Cond.instanceMethod y)) (w3 : OW G (Jvm.Cond.initialized y.cls)) (w4 : OW G (Jvm.Cond.code y B ml none)) (hlen : ∀ sig, parseMethodDescriptor y.desc = some sig → argsL.length = sig.parameters.length)
    (hA : ∀ x ∈ A', x ∈ A) (hW : (rest.map fun v => v.category).sum = W) (hl : W + (ml + 11) + rm.locals ≤ M.R.locals) (hf : rm.frames + 1 ≤ M.R.frames) (hc : cs + rm.cells ≤ M.R.cells) (hs : sl + rm.slots ≤ M.R.slots) (hy1 : y.name = "<init>" := by rfl) (hy : y.cls ≠ "java/lang/invoke/MethodHandle" ∧ y.cls ≠ "java/lang/invoke/VarHandle" := by decide) (hL : L.size = M.ml := by rfl) (hp : pc + 3 = pc' := by rfl) :
    ∃ (v : Option Value) (h' : Heap) (sf : Addr → Prop), Q v h' sf ∧ ∀ B, (∀ x ∈ B, sf x) → OAt G K M (B ++ A) (cs + rm.cells) (sl + rm.slots) h' pc' L (v.toList ++ rest) := by
  subst hp
  obtain ⟨ok, vm0, k0, T, locs, X, hT, hS, hk, hZ, hown, hCh, hAs, hF, hO, st⟩ := c
  obtain ⟨v, vm1, P', hw1, X', hS', hg, hq, st'⟩ := X.specialBackS ok.1 hy1 hown (mvT hZ w1) (mvT hZ w2) (mvT hZ w4) hy (hC.payer hZ w4 w3 hf hl ok.2.2.2.2.2.2 hCh.1 (fun x hx => hAs x (hA x hx)) hO) (g := mkF K.m pc L S) rfl (hL.trans ok.2.2.2.2.2.1.symm) st (a := a) (argsL := argsL) (rest := rest) hlen hstk (by show 2 * 0 + _ ≤ _; omega) (Jvm.hb ok.2.1 hd) (fun _ _ => ⟨rfl, hT, hc, hs⟩)
  obtain ⟨sf, q, c'⟩ := own_after (v := v) (L := L) (S' := v.toList ++ rest) (pc' := pc + 3) ok hT hS hk hZ hown hCh hAs hF X' hS' hg hq st'
  exact ⟨v, _, sf, q, c'⟩
theorem OAt.callV {y z : MethodName} {C : String} {B : ByteArray} {ml : Nat} {rt : Option FieldType} {rm : Room} {A' : List Addr} {Q : Option Value → Heap → (Addr → Prop) → Prop} {ix W : Nat} {a : Addr} {argsL rest : List Value} (c : OAt G K M A cs sl h pc L S) (pc' : Nat) (hd : decode M.b pc = .ok (.invokevirtual ix, 3))
    (hC : OCon G z B ml rt [] rm (.ref a :: argsL).toArray A' h Q) (hstk : S = argsL.reverse ++ .ref a :: rest) (E : Exa G.Z h a C) (w1 : OW G (Jvm.Cond.methodLink M.own ix y)) (w2 : OW G (Jvm.Cond.declares y)) (nf : ONf G y) (w5 : OW G (Jvm.Cond.selects C y z)) (w6 : OW G (Jvm.Cond.instanceMethod z)) (w3 : OW G (Jvm.Cond.initialized z.cls)) (w4 : OW G (Jvm.Cond.code z B ml rt)) (hlen : ∀ sig, parseMethodDescriptor y.desc = some sig → argsL.length = sig.parameters.length)
    (hA : ∀ x ∈ A', x ∈ A) (hW : (rest.map fun v => v.category).sum = W) (hl : W + (ml + 11) + rm.locals ≤ M.R.locals) (hf : rm.frames + 1 ≤ M.R.frames) (hc : cs + rm.cells ≤ M.R.cells) (hs : sl + rm.slots ≤ M.R.slots) (hy : y.cls ≠ "java/lang/invoke/MethodHandle" ∧ y.cls ≠ "java/lang/invoke/VarHandle" := by decide) (hL : L.size = M.ml := by rfl) (hp : pc + 3 = pc' := by rfl) :
    ∃ (v : Option Value) (h' : Heap) (sf : Addr → Prop), Q v h' sf ∧ ∀ B, (∀ x ∈ B, sf x) → OAt G K M (B ++ A) (cs + rm.cells) (sl + rm.slots) h' pc' L (v.toList ++ rest) := by
  subst hp
  obtain ⟨ok, vm0, k0, T, locs, X, hT, hS, hk, hZ, hown, hCh, hAs, hF, hO, st⟩ := c
  obtain ⟨cB, kB, i1, i2, i3⟩ := isOf hZ hT E
  obtain ⟨v, vm1, P', hw1, X', hS', hg, hq, st'⟩ := X.virtualBackS ok.1 hown (mvT hZ w1) (mvT hZ w2) (nf _ hZ) (mvT hZ w5) (mvT hZ w6) hy (hC.payer hZ w4 w3 hf hl ok.2.2.2.2.2.2 hCh.1 (fun x hx => hAs x (hA x hx)) hO) i1 i3 (g := mkF K.m pc L S) rfl (hL.trans ok.2.2.2.2.2.1.symm) st (argsL := argsL) (rest := rest) hlen hstk (by show 2 * 0 + _ ≤ _; omega) (Jvm.hb ok.2.1 hd) (fun _ _ => ⟨rfl, hT, hc, hs⟩)
  obtain ⟨sf, q, c'⟩ := own_after (v := v) (L := L) (S' := v.toList ++ rest) (pc' := pc + 3) ok hT hS hk hZ hown hCh hAs hF X' hS' hg hq st'
  exact ⟨v, _, sf, q, c'⟩
theorem OCon.intro {y : MethodName} {B : ByteArray} {ml : Nat} {rt : Option FieldType} {ws : List Jvm.Cond} {rm : Room} {as : Array Value} {Q : Option Value → Heap → (Addr → Prop) → Prop} (pn : plainName y.cls = true) (ew : EW G.Z G.a0 G.EL) (L0 : Array Slot) (ef : ∀ m, entryFrame m as ml = mkF m 0 L0 []) 
    (body : ∀ K, OAt G K (B, y.cls, rt, y.name, ml, rm) A 0 0 h 0 L0 [] → ODone G K rm Q) : OCon G y B ml rt ws rm as A h Q := by
  refine MetFree.of_bodySF (plainFor_of_name pn) hisR ?_
  intro p e s m args below meth c s₁ Bd hml0 hP hK
  obtain ⟨rfl, hZ, hh, hCH, hA, hO⟩ := hP
  have X0 : Stand p G.l e rm s m args below meth c s₁ [] 0 0 := Stand.of_body Bd
  have e0 : s₁.heap = h := by rw [← hh, Bd.state]; rfl
  have nm := (name_of_methodNamed Bd.named Bd.method).1
  exact body (p, e, s, m, args, below, meth, c, s₁.setTop (entryFrame m args ml)) ⟨⟨Bd.exec, Bd.bytes, Bd.returns, Bd.notSynchronized, nm, hml0, ew⟩, s.vm, s.heap.size, s₁, [], X0, e0, (State.WarmedH.refl s).since _, by rw [hh]; exact Nat.le_refl _, hZ, findClass_of_methodNamed Bd.named,
    by rw [hh]; exact CHr.refl hCH, hA, Fr.nil _, hO, castTop (ef m) (Steps.refl _)⟩
/-- the end of a walk, whatever the return -/
theorem OAt.done {rm : Room} {Q : Option Value → Heap → (Addr → Prop) → Prop} {v : Option Value} (c : OAt G K M A cs sl h pc L S) (hv : M.rt = none → v = none) (hc : cs ≤ rm.cells) (hs : sl ≤ rm.slots) (hQ : ∀ sf : Addr → Prop, (∀ x ∈ A, sf x) → Q v h sf)
    (f : ∀ vm0 T locs, OSt G K M cs sl h vm0 T locs → K.p.tables.exec = Jvm.exec → K.c.code = M.b → K.meth.sig.returnType = M.rt → ∀ fs, (∀ (f : JFrame) (acts : List Action), f.method = K.m → f.locked = none → f.entered = [] → (doReturn K.e (T.setTop f) acts v).1 = T.setFrames fs) → Steps K.p.tables K.e K.below (T.setTop (mkF K.m pc L S)) (T.setFrames fs)) : ODone G K rm Q := by
  obtain ⟨ok, vm0, k0, T, locs, X, hT, hS, hk, hZ, hown, hCh, hAs, hF, hO, st⟩ := c
  obtain ⟨fs, hr, hrun, hended, hW⟩ := (X.more hc hs).leaveW hS (by rw [hT]; exact hk) (v := v) (fun q => hv (ok.2.2.1.symm.trans q)) ok.2.2.2.1
  subst hT
  have hc2 := CHv.at X hZ ok.2.2.2.2.2.2 hCh.1
  refine ⟨T.setFrames fs, _, st.trans (f vm0 T locs X ok.1 ok.2.1 ok.2.2.1 fs hr), hrun, hended, v, locs, rfl, hQ _ fun x hx => own_safe hc2 (hAs x hx), hF, hO, hCh.trans hc2, hW⟩
theorem OAt.ret {rm : Room} {Q : Option Value → Heap → (Addr → Prop) → Prop} (c : OAt G K M A cs sl h pc L []) (hd : decode M.b pc = .ok (.return_, 1)) (hrt : M.rt = none) (hQ : ∀ sf : Addr → Prop, (∀ x ∈ A, sf x) → Q none h sf) (hc : cs ≤ rm.cells) (hs : sl ≤ rm.slots) : ODone G K rm Q :=
  c.done (fun _ => rfl) hc hs hQ fun vm0 T locs X hx hb hr fs hl => X.returnOut hx (hr.trans hrt) (Jvm.hb hb hd) hl
theorem OAt.reti {rm : Room} {Q : Option Value → Heap → (Addr → Prop) → Prop} {w : Int32} {t : FieldType} (c : OAt G K M A cs sl h pc L (.int w :: S)) (hd : decode M.b pc = .ok (.ireturn, 1)) (hrt : M.rt = some t) (hn : narrow t (.int w) = .int w) (hti : t = .int ∨ t = .boolean ∨ t = .byte ∨ t = .char ∨ t = .short) (hQ : ∀ sf : Addr → Prop, (∀ x ∈ A, sf x) → Q (some (.int w)) h sf) (hc : cs ≤ rm.cells) (hs : sl ≤ rm.slots) : ODone G K rm Q :=
  c.done (fun q => by rw [hrt] at q; cases q) hc hs hQ fun vm0 T locs X hx hb hr fs hl => retOut X hx (hr.trans hrt) hn (Or.inl ⟨rfl, hti, w, rfl⟩) (Jvm.hb hb hd) hl
theorem OAt.retl {rm : Room} {Q : Option Value → Heap → (Addr → Prop) → Prop} {w : Int64} (c : OAt G K M A cs sl h pc L (.long w :: S)) (hd : decode M.b pc = .ok (.lreturn, 1)) (hrt : M.rt = some .long) (hQ : ∀ sf : Addr → Prop, (∀ x ∈ A, sf x) → Q (some (.long w)) h sf) (hc : cs ≤ rm.cells) (hs : sl ≤ rm.slots) : ODone G K rm Q :=
  c.done (fun q => by rw [hrt] at q; cases q) hc hs hQ fun vm0 T locs X hx hb hr fs hl => retOut X hx (hr.trans hrt) rfl (Or.inr (Or.inl ⟨rfl, rfl, w, rfl⟩)) (Jvm.hb hb hd) hl
theorem OAt.reta {rm : Room} {Q : Option Value → Heap → (Addr → Prop) → Prop} {w : Value} {t : FieldType} (c : OAt G K M A cs sl h pc L (w :: S)) (hd : decode M.b pc = .ok (.areturn, 1)) (hrt : M.rt = some t) (ht : t.isReference = true) (hn : narrow t w = w) (hw : w.isRef = true) (hQ : ∀ sf : Addr → Prop, (∀ x ∈ A, sf x) → Q (some w) h sf) (hc : cs ≤ rm.cells) (hs : sl ≤ rm.slots) : ODone G K rm Q :=
  c.done (fun q => by rw [hrt] at q; cases q) hc hs hQ fun vm0 T locs X hx hb hr fs hl => retOut X hx (hr.trans hrt) hn (Or.inr (Or.inr (Or.inr (Or.inr ⟨rfl, ht, hw⟩)))) (Jvm.hb hb hd) hl
end Calls
section Cold
variable {G : Gx} {K : Kx} {M : Mx} {A : List Addr} {cs sl : Nat} {h : Heap} {pc : Nat} {L : Array Slot} {S : List Value}
theorem OAt.istoreS {k : Nat} {v : Int32} {o : Slot} (c : OAt G K M A cs sl h pc L (.int v :: S)) (pc' : Nat) (hd : decode M.b pc = .ok (.istore k, 2)) (hl : L[k]? = some o) (ho : One o) (hp : pc + 2 = pc' := by rfl) : OAt G K M A cs sl h pc' (L.setIfInBounds k (.val (.int v))) S := by
  subst hp
  exact c.pure fun vm0 T locs X hT hx hb hZ hown hO => ⟨T, X, hT, fun t r => XS.istoreS X.here hx rfl (Jvm.hb hb hd) rfl hl ho r⟩
theorem OAt.astoreS {k : Nat} {v : Value} {o : Slot} (c : OAt G K M A cs sl h pc L (v :: S)) (pc' : Nat) (hd : decode M.b pc = .ok (.astore k, 2)) (hv : v.isRef = true) (hc : v.category = 1) (hl : L[k]? = some o) (ho : One o) (hp : pc + 2 = pc' := by rfl) : OAt G K M A cs sl h pc' (L.setIfInBounds k (.val v)) S := by
  subst hp
  exact c.pure fun vm0 T locs X hT hx hb hZ hown hO => ⟨T, X, hT, fun t r => XS.astoreS X.here hx rfl (Jvm.hb hb hd) rfl hv hc hl ho r⟩
/-- ldc of a String constant whose text is assumed held -/
theorem OAt.ldcS {text : String} {ix : Nat} (c : OAt G K M A cs sl h pc L S) (pc' : Nat) (hd : decode M.b pc = .ok (.ldc ix, 2)) (w : OW G (Jvm.Cond.stringLink M.own ix text)) (wS : ∀ a ∈ Bundle.stringAtoms, OW G a) (hmem : (M.own, ix) ∈ G.EL) (vs : List Value) (ht : (∀ c ∈ text.toList, c.toNat < 256) ∧ text.toList.map (fun c => Value.int (Jvm.Lit.byteI c.toNat.toUInt16)) = vs) (hvl : vs.length < 2147483648)
    (n : Nat) (hn : 4 * text.toList.length ≤ n) (hbig : n ≤ 536870912) (hc : cs + 2 ≤ M.R.cells) (hl : sl + (n + 4) ≤ M.R.slots) (hp : pc + 2 = pc' := by rfl) :
    ∃ (a b : Addr) (h' : Heap), Ext h h' ∧ Exa G.Z h' a "java/lang/String" ∧ Fld G.Z h' a "java/lang/String" "coder" "B" (.int 0) ∧ Fld G.Z h' a "java/lang/String" "value" "[B" (.ref b) ∧ Ary G.Z h' b .byte vs ∧ (∀ x ∈ A, x ≠ a ∧ x ≠ b) ∧ OAt G K M A (cs + 2) (sl + (n + 4)) h' pc' L (.ref a :: S) := by
  subst hp
  obtain ⟨ok, vm0, k0, T, locs, X, hT, hS, hk, hZ, hown, hCh, hAs, hF, hO, st⟩ := c
  have e := Int32.toInt_ofNat_small (show vs.length < 2 ^ 31 by omega)
  have e2 : (Int32.ofNat vs.length).toNatClampNeg = vs.length := by simp only [Int32.toNatClampNeg, e]; simp
  obtain ⟨a, T', h', k1, b, kk, X', hT', E, hS', hk', hZ', hown', Ex, Co, Va, Av, la, lb, hC', hLit, hne, st'⟩ := ldcCH X ok.1 hZ hown w wS hT hS hk ok.2.2.2.2.2.2 hmem hCh.1 ht (z := Int32.ofNat vs.length) (by rw [Int32.lt_iff_toInt_lt, e]; show ¬ (vs.length : Int) < 0; omega) e2 (g := mkF K.m pc L S) rfl (Jvm.hb ok.2.1 hd) hn hbig hc hl
  have hs : ∀ x ∈ A, OSafe G T'.vm h' x := fun x hx => ⟨Nat.lt_of_lt_of_le (hAs x hx).1 E.1, hC'.safe (hAs x hx).1 (hAs x hx).2⟩
  exact ⟨a, b, h', E, Ex, Co, Va, Ary.of_arv Av e2, fun x hx => hne x (hs x hx).2, ok, T'.vm, k1, T', locs, X', hT', hS', hk', hZ', hown', hCh.trans hC', hs, hF, hO.ext E, st.trans (st' _ (Steps.refl _))⟩
end Cold
section Conds
variable {x y : Int32}
theorem own_ic_eq_t (h : x = y) : if_icmp.holds .eq x y = true := (teq h).1
theorem own_ic_eq_f (h : ¬ x = y) : if_icmp.holds .eq x y = false := (feq h).1
theorem own_ic_ne_t (h : ¬ x = y) : if_icmp.holds .ne x y = true := (feq h).2
theorem own_ic_ne_f (h : x = y) : if_icmp.holds .ne x y = false := (teq h).2
theorem own_ic_lt_t (h : x < y) : if_icmp.holds .lt x y = true := (tlt h).1
theorem own_ic_lt_f (h : ¬ x < y) : if_icmp.holds .lt x y = false := (flt h).1
theorem own_ic_ge_t (h : ¬ x < y) : if_icmp.holds .ge x y = true := (flt h).2.1
theorem own_ic_ge_f (h : x < y) : if_icmp.holds .ge x y = false := (tlt h).2.1
theorem own_ic_gt_t (h : y < x) : if_icmp.holds .gt x y = true := (tlt h).2.2.1
theorem own_ic_gt_f (h : ¬ y < x) : if_icmp.holds .gt x y = false := (flt h).2.2.1
theorem own_ic_le_t (h : ¬ y < x) : if_icmp.holds .le x y = true := (flt h).2.2.2
theorem own_ic_le_f (h : y < x) : if_icmp.holds .le x y = false := (tlt h).2.2.2
theorem own_if_eq_t (h : x = 0) : ifCond.holds .eq x = true := (if0 _ _).trans (own_ic_eq_t h)
theorem own_if_eq_f (h : ¬ x = 0) : ifCond.holds .eq x = false := (if0 _ _).trans (own_ic_eq_f h)
theorem own_if_ne_t (h : ¬ x = 0) : ifCond.holds .ne x = true := (if0 _ _).trans (own_ic_ne_t h)
theorem own_if_ne_f (h : x = 0) : ifCond.holds .ne x = false := (if0 _ _).trans (own_ic_ne_f h)
theorem own_if_lt_t (h : x < 0) : ifCond.holds .lt x = true := (if0 _ _).trans (own_ic_lt_t h)
theorem own_if_lt_f (h : ¬ x < 0) : ifCond.holds .lt x = false := (if0 _ _).trans (own_ic_lt_f h)
theorem own_if_ge_t (h : ¬ x < 0) : ifCond.holds .ge x = true := (if0 _ _).trans (own_ic_ge_t h)
theorem own_if_ge_f (h : x < 0) : ifCond.holds .ge x = false := (if0 _ _).trans (own_ic_ge_f h)
theorem own_if_gt_t (h : 0 < x) : ifCond.holds .gt x = true := (if0 _ _).trans (own_ic_gt_t h)
theorem own_if_gt_f (h : ¬ 0 < x) : ifCond.holds .gt x = false := (if0 _ _).trans (own_ic_gt_f h)
theorem own_if_le_t (h : ¬ 0 < x) : ifCond.holds .le x = true := (if0 _ _).trans (own_ic_le_t h)
theorem own_if_le_f (h : 0 < x) : ifCond.holds .le x = false := (if0 _ _).trans (own_ic_le_f h)
end Conds
section Ints
theorem own_toInt {n : Nat} (h : n < 2147483648) : (Int32.ofNat n).toInt = n := Int32.toInt_ofNat_small h
theorem own_lt {i n : Nat} (h : i < n) (hn : n < 2147483648) : Int32.ofNat i < Int32.ofNat n := by
  rw [Int32.lt_iff_toInt_lt, own_toInt (by omega), own_toInt hn]; omega
theorem own_nlt {i n : Nat} (h : ¬ i < n) (hi : i < 2147483648) : ¬ Int32.ofNat i < Int32.ofNat n := by
  rw [Int32.lt_iff_toInt_lt, own_toInt hi, own_toInt (by omega)]; omega
theorem own_nneg {i : Nat} (hi : i < 2147483648) : ¬ Int32.ofNat i < 0 := own_nlt (i := i) (n := 0) (by omega) hi
theorem own_inj {i n : Nat} (h : Int32.ofNat i = Int32.ofNat n) (hi : i < 2147483648) (hn : n < 2147483648) : i = n := by
  have := congrArg Int32.toInt h
  rw [own_toInt hi, own_toInt hn] at this; omega
theorem own_succ (i : Nat) : Int32.ofNat i + Int32.ofInt 1 = Int32.ofNat (i + 1) := by
  rw [Int32.ofNat_add]; rfl
theorem own_addn (i k : Nat) : Int32.ofNat i + Int32.ofNat k = Int32.ofNat (i + k) := (Int32.ofNat_add i k).symm
theorem own_subn (i k : Nat) (h : k ≤ i) (hi : i < 2147483648) : Int32.ofNat i - Int32.ofNat k = Int32.ofNat (i - k) := by
  apply Int32.toInt_inj.mp
  have := c_isub (Int32.ofNat i) (Int32.ofNat k)
  rw [own_toInt hi, own_toInt (by omega)] at this
  rw [own_toInt (by omega)]
  have r := rng32 (Int32.ofNat i - Int32.ofNat k)
  omega
theorem own_shl1 (n : Nat) (hn : n < 1073741823) : Int32.ofNat n <<< ((1 : Int32) &&& 31) = Int32.ofNat (2 * n) := by
  apply Int32.toInt_inj.mp
  have := c_ishl (Int32.ofNat n) 1 1 (by decide)
  rw [own_toInt (by omega)] at this
  rw [own_toInt (by omega)]
  have r := rng32 (Int32.ofNat n <<< ((1 : Int32) &&& 31))
  omega
/-- what i2b leaves -/
def lo8 (x : Int32) : Int32 := x.toInt8.toInt32
theorem own_lo8_lo8 (x : Int32) : (lo8 x).toInt8.toInt32 = lo8 x := by
  apply Int32.toInt_inj.mp
  have h1 := c_i2b (lo8 x); have h2 := c_i2b x
  have e : (lo8 x).toInt = x.toInt8.toInt32.toInt := rfl
  omega
theorem own_nar_b (x : Int32) : nar .byte (x.toInt8.toInt32) = lo8 x := own_lo8_lo8 x
theorem own_lo8_rng (x : Int32) : ((lo8 x).toInt - x.toInt) % 256 = 0 ∧ -128 ≤ (lo8 x).toInt ∧ (lo8 x).toInt < 128 := c_i2b x
theorem own_shr0 (x : Int32) : x >>> ((0 : Int32) &&& 31) = x := by
  apply Int32.toInt_inj.mp
  rw [c_ishr x 0 0 (by decide)]; simp
/-- a char is what i2c leaves of it -/
theorem own_i2c {x : Int32} (h : 0 ≤ x.toInt ∧ x.toInt < 65536) : x.toUInt32.toUInt16.toUInt32.toInt32 = x := by
  apply Int32.toInt_inj.mp
  have := c_i2c x
  omega
theorem own_narc {x : Int32} (h : 0 ≤ x.toInt ∧ x.toInt < 65536) : nar .char x = x := own_i2c h
theorem own_charfit {x : Int32} (h : fits .char (.int x) = true) : 0 ≤ x.toInt ∧ x.toInt < 65536 := by
  obtain ⟨h1, h2⟩ := rng_char h
  rw [Int32.lt_iff_toInt_lt] at h1 h2
  have e1 : (0 : Int32).toInt = 0 := by decide
  have e2 : (65535 : Int32).toInt = 65535 := by decide
  omega
/-- a Latin-1 byte read back -/
theorem own_mask {x : Int32} (h : 0 ≤ x.toInt ∧ x.toInt < 256) : lo8 x &&& 255 = x := by
  apply Int32.toInt_inj.mp
  rw [c_mask (lo8 x) 255 8 (by decide) (by decide)]
  have := own_lo8_rng x
  omega
/-- two bytes read back -/
theorem own_char2 {x : Int32} (h : 0 ≤ x.toInt ∧ x.toInt < 65536) : ((((lo8 x &&& 255) <<< ((0 : Int32) &&& 31)) ||| ((lo8 (x >>> ((8 : Int32) &&& 31)) &&& 255) <<< ((8 : Int32) &&& 31))).toUInt32.toUInt16.toUInt32.toInt32) = x := by
  have e0 : ∀ z : Int32, z <<< ((0 : Int32) &&& 31) = z := fun z => by
    apply Int32.toInt_inj.mp
    have := c_ishl z 0 0 (by decide)
    have r := rng32 z; have r2 := rng32 (z <<< ((0 : Int32) &&& 31)); omega
  have h8 := c_ishr x 8 8 (by decide)
  have a1 := c_mask (lo8 x) 255 8 (by decide) (by decide)
  have a2 := c_mask (lo8 (x >>> ((8 : Int32) &&& 31))) 255 8 (by decide) (by decide)
  have l1 := own_lo8_rng x
  have l2 := own_lo8_rng (x >>> ((8 : Int32) &&& 31))
  have s2 := c_ishl (lo8 (x >>> ((8 : Int32) &&& 31)) &&& 255) 8 8 (by decide)
  have rs := rng32 ((lo8 (x >>> ((8 : Int32) &&& 31)) &&& 255) <<< ((8 : Int32) &&& 31))
  rw [e0]
  have o := c_or' (lo8 x &&& 255) ((lo8 (x >>> ((8 : Int32) &&& 31)) &&& 255) <<< ((8 : Int32) &&& 31)) 8 (by decide) 256 (by decide)
  have ov : ((lo8 x &&& 255) ||| ((lo8 (x >>> ((8 : Int32) &&& 31)) &&& 255) <<< ((8 : Int32) &&& 31))).toInt = x.toInt := by
    have r := rng32 ((lo8 x &&& 255) ||| ((lo8 (x >>> ((8 : Int32) &&& 31)) &&& 255) <<< ((8 : Int32) &&& 31)))
    have := o (by omega) (by omega) (by omega)
    omega
  have q : ((lo8 x &&& 255) ||| ((lo8 (x >>> ((8 : Int32) &&& 31)) &&& 255) <<< ((8 : Int32) &&& 31))) = x := Int32.toInt_inj.mp ov
  rw [q]; exact own_i2c h
end Ints
section Lists
theorem own_fill {α : Type} (us vs : List α) (i : Nat) (x : α) (hx : us[i]? = some x) (hv : i < vs.length) : (us.take i ++ vs.drop i).set i x = us.take (i + 1) ++ vs.drop (i + 1) := by
  obtain ⟨hi, rfl⟩ := List.getElem?_eq_some_iff.mp hx
  have hl : (us.take i).length = i := by simp; omega
  rw [List.set_append_right _ _ (by omega), hl, Nat.sub_self, List.drop_eq_getElem_cons hv, List.set_cons_zero, ← List.take_append_getElem hi, List.append_assoc]
  rfl
end Lists
section Strings
variable {Z : State} {h h' : Heap} {a b x : Addr} {cs : List Int32}
def Lat (cs : List Int32) : Prop := ∀ c ∈ cs, 0 ≤ c.toInt ∧ c.toInt < 256
def Chs (cs : List Int32) : Prop := ∀ c ∈ cs, 0 ≤ c.toInt ∧ c.toInt < 65536
def encL (cs : List Int32) : List Value := cs.map fun c => .int (lo8 c)
def encU (cs : List Int32) : List Value := cs.flatMap fun c => [.int (lo8 c), .int (lo8 (c >>> ((8 : Int32) &&& 31)))]
theorem encL_len (cs : List Int32) : (encL cs).length = cs.length := by simp [encL]
theorem encU_len (cs : List Int32) : (encU cs).length = 2 * cs.length := by
  induction cs with
  | nil => rfl
  | cons c cs ih => simp only [encU, List.flatMap_cons, List.length_append, List.length_cons, List.length_nil] at ih ⊢; omega
/-- a String of the bytes bs, of this coder -/
def StrB (Z : State) (h : Heap) (a : Addr) (co : Int32) (bs : List Value) : Prop := Exa Z h a "java/lang/String" ∧ Fld Z h a "java/lang/String" "coder" "B" (.int co) ∧ ∃ b, Fld Z h a "java/lang/String" "value" "[B" (.ref b) ∧ Ary Z h b .byte bs
/-- a String of the chars cs -/
def Str (Z : State) (h : Heap) (a : Addr) (cs : List Int32) : Prop := (Lat cs ∧ StrB Z h a 0 (encL cs)) ∨ (Chs cs ∧ (∃ c ∈ cs, 255 < c.toInt) ∧ StrB Z h a 1 (encU cs))
theorem StrB.ext {co : Int32} {bs : List Value} (F : StrB Z h a co bs) (E : Ext h h') : StrB Z h' a co bs := by
  obtain ⟨h1, h2, b, h3, h4⟩ := F; exact ⟨h1.ext E, h2.ext E, b, h3.ext E, h4.ext E⟩
theorem Str.ext (F : Str Z h a cs) (E : Ext h h') : Str Z h' a cs := F.imp (fun q => ⟨q.1, q.2.ext E⟩) fun q => ⟨q.1, q.2.1, q.2.2.ext E⟩
/-- no String that has its value, and no byte[] -/
def NStr (Z : State) (h : Heap) (x : Addr) : Prop := (∀ co bs, ¬ StrB Z h x co bs) ∧ ∀ vs, ¬ Ary Z h x .byte vs
theorem StrB.keep {co : Int32} {bs : List Value} {ws : List Addr} (F : StrB Z h a co bs) (K : Keep h h' ws) (hw : ∀ x ∈ ws, NStr Z h x) : StrB Z h' a co bs := by
  have ha : a ∉ ws := fun q => (hw a q).1 _ _ F
  obtain ⟨h1, h2, b, h3, h4⟩ := F
  exact ⟨h1.keep K, h2.keep K ha, b, h3.keep K ha, h4.keep K fun q => (hw b q).2 _ h4⟩
theorem Str.keep {ws : List Addr} (F : Str Z h a cs) (K : Keep h h' ws) (hw : ∀ x ∈ ws, NStr Z h x) : Str Z h' a cs := F.imp (fun q => ⟨q.1, q.2.keep K hw⟩) fun q => ⟨q.1, q.2.1, q.2.2.keep K hw⟩
theorem own_arr_type {t1 t2 : FieldType} {c1 c2 : Cell} (A : Arr Z h x c1 t1) (B : Arr Z h x c2 t2) : t1 = t2 := by
  cases A.1.symm.trans B.1
  obtain ⟨-, k1, j1, comp1, j2⟩ := A.2.1
  obtain ⟨-, k2, i1, comp2, i2⟩ := B.2.1
  cases j1.symm.trans i1
  rw [j2] at i2; cases i2; rfl
theorem NStr.arr {ty : FieldType} {vs : List Value} {a0 : Array Value} {n : Nat} (F : Ary Z h x ty vs) (ht : ty ≠ .byte) (wi : (Jvm.Cond.instantiable "java/lang/String" n).before a0 Z = true) : NStr Z h x := by
  obtain ⟨c, A, -⟩ := F
  refine ⟨fun co bs q => ne_arr q.1 wi A rfl, fun vs q => ?_⟩
  obtain ⟨c', A', -⟩ := q
  exact ht (own_arr_type A A')
theorem NStr.exa {C : String} {a0 : Array Value} {n : Nat} (F : Exa Z h x C) (hC : C ≠ "java/lang/String") (wi : (Jvm.Cond.instantiable C n).before a0 Z = true) : NStr Z h x := by
  refine ⟨fun co bs q => ne_exa F q.1 hC rfl, fun vs q => ?_⟩
  obtain ⟨c', A', -⟩ := q
  exact ne_arr F wi A' rfl
theorem NStr.null {a0 : Array Value} {n : Nat} (F : Exa Z h x "java/lang/String") (V : Fld Z h x "java/lang/String" "value" "[B" .null) (wi : (Jvm.Cond.instantiable "java/lang/String" n).before a0 Z = true) : NStr Z h x := by
  refine ⟨fun co bs q => ?_, fun vs q => ?_⟩
  · obtain ⟨-, -, b, q3, -⟩ := q
    exact V.ne q3 (by simp) rfl
  · obtain ⟨c', A', -⟩ := q
    exact ne_arr F wi A' rfl
theorem NStr.new (hx : h.size ≤ x) : NStr Z h x := ⟨fun _ _ q => absurd q.1.lt (Nat.not_lt.mpr hx), fun _ q => absurd q.lt (Nat.not_lt.mpr hx)⟩
theorem own_all1 {P : Addr → Prop} (q : P x) : ∀ y ∈ [x], P y := fun y hy => by cases List.mem_singleton.mp hy; exact q
theorem own_chs (F : Ary Z h a .char (cs.map Value.int)) : Chs cs := by
  obtain ⟨c, A, -, -, hf⟩ := F
  intro c hc
  exact own_charfit (hf _ (List.mem_map.mpr ⟨c, hc, rfl⟩))
end Strings
section Strings2
variable {Z : State} {h h' : Heap} {a b x : Addr} {cs : List Int32}
theorem own_fillU {i r : Nat} {ci : Int32} (hci : cs[i]? = some ci) (hel : (encU (cs.take i)).length = 2 * i) : ((encU (cs.take i) ++ List.replicate (2 * (r + 1)) (Value.int 0)).set (2 * i) (.int (lo8 ci))).set (2 * i + 1) (.int (lo8 (ci >>> ((8 : Int32) &&& 31)))) = encU (cs.take (i + 1)) ++ List.replicate (2 * r) (.int 0) := by
  have e1 : List.replicate (2 * (r + 1)) (Value.int 0) = .int 0 :: .int 0 :: List.replicate (2 * r) (.int 0) := by
    rw [show 2 * (r + 1) = 2 * r + 1 + 1 by omega, List.replicate_succ, List.replicate_succ]
  rw [e1, List.set_append_right _ _ (by omega), hel, Nat.sub_self, List.set_cons_zero, List.set_append_right _ _ (by omega), hel, Nat.add_sub_cancel_left, List.take_add_one, hci]
  simp [encU]
theorem own_encU {k : Nat} {c : Int32} (hc : cs[k]? = some c) : (encU cs)[2 * k]? = some (.int (lo8 c)) ∧ (encU cs)[2 * k + 1]? = some (.int (lo8 (c >>> ((8 : Int32) &&& 31)))) := by
  induction cs generalizing k with
  | nil => simp at hc
  | cons d ds ih =>
    cases k with
    | zero => simp at hc; subst hc; simp [encU]
    | succ k =>
      have := ih (k := k) (by simpa using hc)
      have e : encU (d :: ds) = .int (lo8 d) :: .int (lo8 (d >>> ((8 : Int32) &&& 31))) :: encU ds := by simp [encU]
      rw [e, show 2 * (k + 1) = 2 * k + 1 + 1 by omega]
      exact this
theorem own_cod1 {n : Nat} (h0 : 0 < n) (hn : n < 1073741824) : (Jvm.Free.XT.ushr (Int32.ofNat n - Int32.ofNat (2 * n)) 31).toInt8.toInt32 = 1 := by
  have h1 := c_isub (Int32.ofNat n) (Int32.ofNat (2 * n))
  rw [own_toInt (by omega), own_toInt (by omega)] at h1
  have r := rng32 (Int32.ofNat n - Int32.ofNat (2 * n))
  have h2 : (Jvm.Free.XT.ushr (Int32.ofNat n - Int32.ofNat (2 * n)) 31).toInt = _ := c_iushr (Int32.ofNat n - Int32.ofNat (2 * n)) 31 31 (by decide) (by decide)
  have e : Jvm.Free.XT.ushr (Int32.ofNat n - Int32.ofNat (2 * n)) 31 = 1 := by
    apply Int32.toInt_inj.mp
    rw [h2]
    have : (1 : Int32).toInt = 1 := by decide
    omega
  rw [e]; decide
theorem own_strB (S : Str Z h a cs) : ∃ co bs, StrB Z h a co bs ∧ (bs.length = 0 ↔ cs = []) := by
  rcases S with ⟨-, B⟩ | ⟨-, -, B⟩
  · exact ⟨_, _, B, by rw [encL_len]; exact List.length_eq_zero_iff⟩
  · exact ⟨_, _, B, by rw [encU_len, ← List.length_eq_zero_iff]; omega⟩
end Strings2
section Strings3
variable {Z : State} {h h' : Heap} {a b x : Addr} {cs xs ys : List Int32}
/-- the bytes of a String of the chars cs, of this coder -/
def Enc (co : Int32) (bs : List Int32) (cs : List Int32) : Prop := (Lat cs ∧ co = 0 ∧ bs = cs.map lo8) ∨ (Chs cs ∧ (∃ c ∈ cs, 255 < c.toInt) ∧ co = 1 ∧ bs = cs.flatMap fun c => [lo8 c, lo8 (c >>> ((8 : Int32) &&& 31))])
theorem encL_map (cs : List Int32) : encL cs = (cs.map lo8).map Value.int := by simp [encL]
theorem encU_map (cs : List Int32) : encU cs = (cs.flatMap fun c => [lo8 c, lo8 (c >>> ((8 : Int32) &&& 31))]).map Value.int := by
  induction cs with
  | nil => rfl
  | cons c cs ih => simp only [encU, List.flatMap_cons, List.map_append, List.map_cons, List.map_nil] at ih ⊢; rw [ih]
theorem own_strE (S : Str Z h a cs) : ∃ co bs, StrB Z h a co (bs.map Value.int) ∧ Enc co bs cs := by
  rcases S with ⟨l, B⟩ | ⟨l, g, B⟩
  · exact ⟨0, cs.map lo8, by rw [← encL_map]; exact B, Or.inl ⟨l, rfl, rfl⟩⟩
  · exact ⟨1, _, by rw [← encU_map]; exact B, Or.inr ⟨l, g, rfl, rfl⟩⟩
theorem own_latInj (hx : Lat xs) (hy : Lat ys) (e : xs.map lo8 = ys.map lo8) : xs = ys := by
  induction xs generalizing ys with
  | nil => cases ys with
    | nil => rfl
    | cons y ys => simp at e
  | cons x xs ih => cases ys with
    | nil => simp at e
    | cons y ys =>
      simp only [List.map_cons, List.cons.injEq] at e
      have e1 : x = y := by rw [← own_mask (hx x (by simp)), e.1, own_mask (hy y (by simp))]
      rw [e1, ih (fun c hc => hx c (by simp [hc])) (fun c hc => hy c (by simp [hc])) e.2]
theorem own_chsInj (hx : Chs xs) (hy : Chs ys) (e : (xs.flatMap fun c => [lo8 c, lo8 (c >>> ((8 : Int32) &&& 31))]) = ys.flatMap fun c => [lo8 c, lo8 (c >>> ((8 : Int32) &&& 31))]) : xs = ys := by
  induction xs generalizing ys with
  | nil => cases ys with
    | nil => rfl
    | cons y ys => simp at e
  | cons x xs ih => cases ys with
    | nil => simp at e
    | cons y ys =>
      simp only [List.flatMap_cons, List.cons_append, List.nil_append, List.cons.injEq] at e
      have e1 : x = y := by rw [← own_char2 (hx x (by simp)), e.1, e.2.1, own_char2 (hy y (by simp))]
      rw [e1, ih (fun c hc => hx c (by simp [hc])) (fun c hc => hy c (by simp [hc])) e.2.2]
theorem own_strC {co1 co2 : Int32} {us vs : List Int32} (h1 : Enc co1 us xs) (h2 : Enc co2 vs ys) : (co1 = co2 ∧ us = vs) ↔ xs = ys := by
  constructor
  · rintro ⟨rfl, rfl⟩
    rcases h1 with ⟨l1, e1, b1⟩ | ⟨l1, g1, e1, b1⟩ <;> rcases h2 with ⟨l2, e2, b2⟩ | ⟨l2, g2, e2, b2⟩
    · exact own_latInj l1 l2 (b1.symm.trans b2)
    · rw [e1] at e2; exact absurd e2 (by decide)
    · rw [e1] at e2; exact absurd e2 (by decide)
    · exact own_chsInj l1 l2 (b1.symm.trans b2)
  · rintro rfl
    rcases h1 with ⟨l1, rfl, rfl⟩ | ⟨l1, g1, rfl, rfl⟩ <;> rcases h2 with ⟨l2, rfl, rfl⟩ | ⟨l2, g2, rfl, rfl⟩
    · exact ⟨rfl, rfl⟩
    · obtain ⟨c, hc, q⟩ := g2; have := (l1 c hc).2; omega
    · obtain ⟨c, hc, q⟩ := g1; have := (l2 c hc).2; omega
    · exact ⟨rfl, rfl⟩
theorem own_fld_inj {C n d : String} {v w : Value} (F : Fld Z h a C n d v) (F' : Fld Z h a C n d w) : v = w := by
  by_cases q : v = w
  · exact q
  · exact absurd rfl (F.ne F' q)
theorem Ary.inj {ty : FieldType} {us vs : List Value} (F : Ary Z h a ty us) (F' : Ary Z h a ty vs) : us = vs := by
  obtain ⟨c, A, rfl, -⟩ := F
  obtain ⟨c', A', rfl, -⟩ := F'
  cases A.1.symm.trans A'.1; rfl
theorem Str.inj (S1 : Str Z h a xs) (S2 : Str Z h a ys) : xs = ys := by
  obtain ⟨co1, us, ⟨E1, C1, b1, V1, Y1⟩, e1⟩ := own_strE S1
  obtain ⟨co2, vs, ⟨E2, C2, b2, V2, Y2⟩, e2⟩ := own_strE S2
  have hc : co1 = co2 := by have := own_fld_inj C1 C2; simpa using this
  have hb : b1 = b2 := by have := own_fld_inj V1 V2; simpa using this
  subst hb
  have hv := Y1.inj Y2
  have hv' : us = vs := by
    have := congrArg (List.map fun v => match v with | Value.int x => x | _ => 0) hv
    simpa [List.map_map, Function.comp_def] using this
  exact (own_strC e1 e2).mp ⟨hc, hv'⟩
theorem Str.exa (S : Str Z h a cs) : Exa Z h a "java/lang/String" := by rcases S with ⟨-, q⟩ | ⟨-, -, q⟩ <;> exact q.1
theorem own_strlit {bs : List Value} (E : Exa Z h a "java/lang/String") (C : Fld Z h a "java/lang/String" "coder" "B" (.int 0)) (V : Fld Z h a "java/lang/String" "value" "[B" (.ref b)) (Y : Ary Z h b .byte bs) (hl : Lat cs) (hb : encL cs = bs) : Str Z h a cs := Or.inl ⟨hl, E, C, b, V, hb ▸ Y⟩
end Strings3
def OGood (G : Gx) : Prop := (∀ d ∈ tables_1, d.before G.a0 G.Z = true) ∧ G.EL = consts_1 ∧ (∃ z : Int32, Sta G.Z G.Z.heap "java/lang/String" "COMPACT_STRINGS" "Z" (.int z) ∧ z ≠ 0) ∧ Sta G.Z G.Z.heap "java/lang/StringUTF16" "$assertionsDisabled" "Z" (.int 1) ∧ Sta G.Z G.Z.heap "java/lang/StringUTF16" "HI_BYTE_SHIFT" "I" (.int 0) ∧ Sta G.Z G.Z.heap "java/lang/StringUTF16" "LO_BYTE_SHIFT" "I" (.int 8) ∧ True
theorem own_ew {G : Gx} (hG : OGood G) : EW G.Z G.a0 G.EL := by rw [hG.2.1]; exact (EW.cons (hG.1 _ (List.mem_of_getElem? (i := 36) rfl)) (by decide) (EW.cons (hG.1 _ (List.mem_of_getElem? (i := 48) rfl)) (by decide) (EW.cons (hG.1 _ (List.mem_of_getElem? (i := 24) rfl)) (by decide) EW.nil)))
theorem own_el_0 {G : Gx} (hG : OGood G) : ("com/example/swac/swac/testfile/TestCase", 57) ∈ G.EL := by rw [hG.2.1]; exact List.mem_of_getElem? (i := 0) rfl
theorem own_el_1 {G : Gx} (hG : OGood G) : ("com/example/swac/swac/testfile/TestCase", 63) ∈ G.EL := by rw [hG.2.1]; exact List.mem_of_getElem? (i := 1) rfl
theorem own_el_2 {G : Gx} (hG : OGood G) : ("java/lang/String", 7) ∈ G.EL := by rw [hG.2.1]; exact List.mem_of_getElem? (i := 2) rfl
theorem own_sa {G : Gx} (hG : OGood G) : ∀ a ∈ Bundle.stringAtoms, OW G a := fun d hd => by
  simp only [Bundle.stringAtoms, List.mem_cons, List.not_mem_nil, or_false] at hd
  rcases hd with rfl | rfl | rfl | rfl | rfl | rfl | rfl
  · exact (hG.1 _ (List.mem_of_getElem? (i := 12) rfl))
  · exact (hG.1 _ (List.mem_of_getElem? (i := 11) rfl))
  · exact (hG.1 _ (List.mem_of_getElem? (i := 25) rfl))
  · exact (hG.1 _ (List.mem_of_getElem? (i := 26) rfl))
  · exact (hG.1 _ (List.mem_of_getElem? (i := 27) rfl))
  · exact (hG.1 _ (List.mem_of_getElem? (i := 28) rfl))
  · exact (hG.1 _ (List.mem_of_getElem? (i := 29) rfl))
abbrev y_cod : MethodName := ⟨"java/lang/StringUTF16", "coderFromArrayLen", "([BI)B"⟩
theorem pn_0 : plainName "java/lang/StringUTF16" = true := by first | (simp [plainName, overriddenIn]; done) | decide +kernel
theorem d_cod_0 : decode jdk_52_method_15_code 0 = .ok (.iload_n 1, 1) := by decide +kernel
theorem d_cod_1 : decode jdk_52_method_15_code 1 = .ok (.aload_n 0, 1) := by decide +kernel
theorem d_cod_2 : decode jdk_52_method_15_code 2 = .ok (.arraylength, 1) := by decide +kernel
theorem d_cod_3 : decode jdk_52_method_15_code 3 = .ok (.isub, 1) := by decide +kernel
theorem d_cod_4 : decode jdk_52_method_15_code 4 = .ok (.bipush 31, 2) := by decide +kernel
theorem d_cod_6 : decode jdk_52_method_15_code 6 = .ok (.iushr, 1) := by decide +kernel
theorem d_cod_7 : decode jdk_52_method_15_code 7 = .ok (.i2b, 1) := by decide +kernel
theorem d_cod_8 : decode jdk_52_method_15_code 8 = .ok (.ireturn, 1) := by decide +kernel
abbrev rm_cod : Room := { frames := 0, cells := 0, slots := 0, locals := 0 }
abbrev M_cod : Mx := (jdk_52_method_15_code, y_cod.cls, (some .byte), y_cod.name, 2, rm_cod)
theorem ef_cod (m : MethodId) (x0 : Addr) (x1 : Int32) : entryFrame m #[.ref x0, .int x1] 2 = mkF m 0 #[.val (.ref x0), .val (.int x1)] [] := by first | (simp [entryFrame, mkF, argsToLocals, Value.category]; done) | rfl
set_option maxRecDepth 65536 in
set_option maxHeartbeats 4000000 in
theorem con_cod {G : Gx} (hG : OGood G) {h0 : Heap} {b : Addr} {vs : List Value} {n : Nat} {r : Int32} (Y : Ary G.Z h0 b .byte vs) (hr : (Jvm.Free.XT.ushr (Int32.ofNat n - Int32.ofNat vs.length) 31).toInt8.toInt32 = r) (hn : narrow .byte (.int r) = .int r) : OCon G y_cod jdk_52_method_15_code 2 (some .byte) [] rm_cod #[.ref b, .int (Int32.ofNat n)] [] h0 (fun v h' _ => v = some (.int r) ∧ h' = h0) := by
  refine OCon.intro pn_0 (own_ew hG) #[.val (.ref b), .val (.int (Int32.ofNat n))] (fun m => ef_cod m b (Int32.ofNat n)) ?_
  intro K c
  replace c : OAt G K M_cod [] 0 0 h0 0 #[.val (.ref b), .val (.int (Int32.ofNat n))] [] := c
  replace c := c.iloadN 1 d_cod_0 rfl
  replace c := c.aloadN 2 d_cod_1 rfl rfl
  replace c := c.arrlen 3 d_cod_2 Y (Int32.ofNat vs.length) rfl
  replace c := c.isub 4 d_cod_3
  replace c := c.bipush 6 d_cod_4 31 (by decide)
  replace c := c.iushr 7 d_cod_6
  replace c := c.i2b 8 d_cod_7
  rw [hr] at c
  exact c.reti (t := .byte) d_cod_8 rfl hn (by simp) (fun sf hs => ⟨rfl, rfl⟩) (by decide) (by decide)
abbrev y_cmp5 : MethodName := ⟨"java/lang/StringUTF16", "compress", "([CI[BII)I"⟩
abbrev Q_cmp5 (G : Gx) (h0 : Heap) (d : Addr) (cs : List Int32) (vs : List Value) : Option Value → Heap → (Addr → Prop) → Prop := fun v h' _ => ∃ k, k ≤ cs.length ∧ v = some (.int (Int32.ofNat k)) ∧ Keep h0 h' [d] ∧ Ary G.Z h' d .byte ((encL cs).take k ++ vs.drop k) ∧ Lat (cs.take k) ∧ ∀ c, cs[k]? = some c → 255 < c.toInt
theorem d_cmp5_0 : decode jdk_52_method_21_code 0 = .ok (.iconst 0, 1) := by decide +kernel
theorem d_cmp5_1 : decode jdk_52_method_21_code 1 = .ok (.istore 5, 2) := by decide +kernel
theorem d_cmp5_3 : decode jdk_52_method_21_code 3 = .ok (.iload 5, 2) := by decide +kernel
theorem d_cmp5_5 : decode jdk_52_method_21_code 5 = .ok (.iload 4, 2) := by decide +kernel
theorem d_cmp5_7 : decode jdk_52_method_21_code 7 = .ok (.if_icmp .ge 37, 3) := by decide +kernel
theorem d_cmp5_10 : decode jdk_52_method_21_code 10 = .ok (.aload_n 0, 1) := by decide +kernel
theorem d_cmp5_11 : decode jdk_52_method_21_code 11 = .ok (.iload_n 1, 1) := by decide +kernel
theorem d_cmp5_12 : decode jdk_52_method_21_code 12 = .ok (.caload, 1) := by decide +kernel
theorem d_cmp5_13 : decode jdk_52_method_21_code 13 = .ok (.istore 6, 2) := by decide +kernel
theorem d_cmp5_15 : decode jdk_52_method_21_code 15 = .ok (.iload 6, 2) := by decide +kernel
theorem d_cmp5_17 : decode jdk_52_method_21_code 17 = .ok (.sipush 255, 3) := by decide +kernel
theorem d_cmp5_20 : decode jdk_52_method_21_code 20 = .ok (.if_icmp .le 6, 3) := by decide +kernel
theorem d_cmp5_23 : decode jdk_52_method_21_code 23 = .ok (.iload 5, 2) := by decide +kernel
theorem d_cmp5_25 : decode jdk_52_method_21_code 25 = .ok (.ireturn, 1) := by decide +kernel
theorem d_cmp5_26 : decode jdk_52_method_21_code 26 = .ok (.aload_n 2, 1) := by decide +kernel
theorem d_cmp5_27 : decode jdk_52_method_21_code 27 = .ok (.iload_n 3, 1) := by decide +kernel
theorem d_cmp5_28 : decode jdk_52_method_21_code 28 = .ok (.iload 6, 2) := by decide +kernel
theorem d_cmp5_30 : decode jdk_52_method_21_code 30 = .ok (.i2b, 1) := by decide +kernel
theorem d_cmp5_31 : decode jdk_52_method_21_code 31 = .ok (.bastore, 1) := by decide +kernel
theorem d_cmp5_32 : decode jdk_52_method_21_code 32 = .ok (.iinc 1 1, 3) := by decide +kernel
theorem d_cmp5_35 : decode jdk_52_method_21_code 35 = .ok (.iinc 3 1, 3) := by decide +kernel
theorem d_cmp5_38 : decode jdk_52_method_21_code 38 = .ok (.iinc 5 1, 3) := by decide +kernel
theorem d_cmp5_41 : decode jdk_52_method_21_code 41 = .ok (.goto (-38), 3) := by decide +kernel
theorem d_cmp5_44 : decode jdk_52_method_21_code 44 = .ok (.iload 4, 2) := by decide +kernel
theorem d_cmp5_46 : decode jdk_52_method_21_code 46 = .ok (.ireturn, 1) := by decide +kernel
abbrev rm_cmp5 : Room := { frames := 0, cells := 0, slots := 0, locals := 0 }
abbrev M_cmp5 : Mx := (jdk_52_method_21_code, y_cmp5.cls, (some .int), y_cmp5.name, 7, rm_cmp5)
theorem ef_cmp5 (m : MethodId) (x0 : Addr) (x1 : Int32) (x2 : Addr) (x3 : Int32) (x4 : Int32) : entryFrame m #[.ref x0, .int x1, .ref x2, .int x3, .int x4] 7 = mkF m 0 #[.val (.ref x0), .val (.int x1), .val (.ref x2), .val (.int x3), .val (.int x4), .unset, .unset] [] := by first | (simp [entryFrame, mkF, argsToLocals, Value.category]; done) | rfl
set_option maxRecDepth 65536 in
set_option maxHeartbeats 4000000 in
theorem con_cmp5 {G : Gx} (hG : OGood G) {h0 : Heap} {ca d : Addr} {cs : List Int32} {vs : List Value} (hd : G.n0 ≤ d) (Y : Ary G.Z h0 ca .char (cs.map Value.int)) (D : Ary G.Z h0 d .byte vs) (hv : vs.length = cs.length) : OCon G y_cmp5 jdk_52_method_21_code 7 (some .int) [] rm_cmp5 #[.ref ca, .int 0, .ref d, .int 0, .int (Int32.ofNat cs.length)] [d] h0 (Q_cmp5 G h0 d cs vs) := by
  refine OCon.intro pn_0 (own_ew hG) #[.val (.ref ca), .val (.int 0), .val (.ref d), .val (.int 0), .val (.int (Int32.ofNat cs.length)), .unset, .unset] (fun m => ef_cmp5 m ca 0 d 0 (Int32.ofNat cs.length)) ?_
  intro K c
  replace c : OAt G K M_cmp5 [d] 0 0 h0 0 #[.val (.ref ca), .val (.int 0), .val (.ref d), .val (.int 0), .val (.int (Int32.ofNat cs.length)), .unset, .unset] [] := c
  replace c := c.iconst 1 d_cmp5_0 0 (by decide)
  replace c := c.istore 3 d_cmp5_1 #[.val (.ref ca), .val (.int 0), .val (.ref d), .val (.int 0), .val (.int (Int32.ofNat cs.length)), .val (.int 0), .unset] rfl
  have hlen : cs.length < 2147483648 := by simpa using Y.len
  have hne : ca ≠ d := fun q => by obtain ⟨c1, A1, -⟩ := Y; obtain ⟨c2, A2, -⟩ := D; rw [q] at A1; exact absurd (own_arr_type A1 A2) (by decide)
  have loop : ∀ (r i : Nat), i + r = cs.length → ∀ (z : Slot) (h1 : Heap), One z → Keep h0 h1 [d] → Ary G.Z h1 d .byte ((encL cs).take i ++ vs.drop i) → Lat (cs.take i) → OAt G K M_cmp5 [d] 0 0 h1 3 #[.val (.ref ca), .val (.int (Int32.ofNat i)), .val (.ref d), .val (.int (Int32.ofNat i)), .val (.int (Int32.ofNat cs.length)), .val (.int (Int32.ofNat i)), z] [] → ODone G K rm_cmp5 (Q_cmp5 G h0 d cs vs) := by
    intro r
    induction r with
    | zero =>
      intro i hi z h1 hz K1 D1 la c
      have hin : i = cs.length := by omega
      subst hin
      replace c := c.iload 5 d_cmp5_3 rfl
      replace c := c.iload 7 d_cmp5_5 rfl
      replace c := c.icT 44 d_cmp5_7 (own_ic_ge_t (own_nlt (by omega) hlen))
      replace c := c.iload 46 d_cmp5_44 rfl
      exact c.reti (t := .int) d_cmp5_46 rfl rfl (by simp) (fun sf hs => ⟨cs.length, Nat.le_refl _, rfl, K1, D1, la, fun c hc => by simp at hc⟩) (by decide) (by decide)
    | succ r ih =>
      intro i hi z h1 hz K1 D1 la c
      have hil : i < cs.length := by omega
      obtain ⟨ci, hci⟩ : ∃ ci, cs[i]? = some ci := ⟨cs[i], List.getElem?_eq_getElem hil⟩
      have Y1 : Ary G.Z h1 ca .char (cs.map Value.int) := Y.keep K1 (ninS hne nin0)
      replace c := c.iload 5 d_cmp5_3 rfl
      replace c := c.iload 7 d_cmp5_5 rfl
      replace c := c.icF 10 d_cmp5_7 (own_ic_ge_f (own_lt hil hlen))
      replace c := c.aloadN 11 d_cmp5_10 rfl rfl
      replace c := c.iloadN 12 d_cmp5_11 rfl
      replace c := c.caload 13 d_cmp5_12 Y1 (i) rfl (.int ci) (by simp [hci])
      replace c := c.istoreS 15 d_cmp5_13 rfl hz
      replace c : OAt G K M_cmp5 [d] 0 0 h1 15 #[.val (.ref ca), .val (.int (Int32.ofNat i)), .val (.ref d), .val (.int (Int32.ofNat i)), .val (.int (Int32.ofNat cs.length)), .val (.int (Int32.ofNat i)), .val (.int ci)] [] := c
      replace c := c.iload 17 d_cmp5_15 rfl
      replace c := c.sipush 20 d_cmp5_17 255 (by decide)
      by_cases q : (255 : Int32) < ci
      · skip
        replace c := c.icF 23 d_cmp5_20 (own_ic_le_f q)
        replace c := c.iload 25 d_cmp5_23 rfl
        exact c.reti (t := .int) d_cmp5_25 rfl rfl (by simp) (fun sf hs => ⟨i, by omega, rfl, K1, D1, la, fun c hc => by rw [hci] at hc; cases hc; rw [Int32.lt_iff_toInt_lt] at q; exact q⟩) (by decide) (by decide)
      · skip
        replace c := c.icT 26 d_cmp5_20 (own_ic_le_t q)
        replace c := c.aloadN 27 d_cmp5_26 rfl rfl
        replace c := c.iloadN 28 d_cmp5_27 rfl
        replace c := c.iload 30 d_cmp5_28 rfl
        replace c := c.i2b 31 d_cmp5_30
        have hvi : i < ((encL cs).take i ++ vs.drop i).length := by simp [encL_len]; omega
        obtain ⟨hp, Wp, Yp, c⟩ := c.bastore 32 d_cmp5_31 D1 (i) rfl hvi hd (by simp) (lo8 ci) (own_nar_b ci)
        replace c := c.iinc 35 d_cmp5_32 rfl (Int32.ofNat (i + 1)) (own_succ i) #[.val (.ref ca), .val (.int (Int32.ofNat (i + 1))), .val (.ref d), .val (.int (Int32.ofNat i)), .val (.int (Int32.ofNat cs.length)), .val (.int (Int32.ofNat i)), .val (.int ci)] rfl
        replace c := c.iinc 38 d_cmp5_35 rfl (Int32.ofNat (i + 1)) (own_succ i) #[.val (.ref ca), .val (.int (Int32.ofNat (i + 1))), .val (.ref d), .val (.int (Int32.ofNat (i + 1))), .val (.int (Int32.ofNat cs.length)), .val (.int (Int32.ofNat i)), .val (.int ci)] rfl
        replace c := c.iinc 41 d_cmp5_38 rfl (Int32.ofNat (i + 1)) (own_succ i) #[.val (.ref ca), .val (.int (Int32.ofNat (i + 1))), .val (.ref d), .val (.int (Int32.ofNat (i + 1))), .val (.int (Int32.ofNat cs.length)), .val (.int (Int32.ofNat (i + 1))), .val (.int ci)] rfl
        replace c := c.goto 3 d_cmp5_41
        have hfill := own_fill (encL cs) vs i (.int (lo8 ci)) (by simp [encL, hci]) (by omega)
        rw [hfill] at Yp
        refine ih (i + 1) (by omega) _ _ (One.val rfl) (K1.wr Wp (Or.inl (by simp))) Yp ?_ c
        intro c hc
        rw [List.take_add_one, hci] at hc
        rcases List.mem_append.mp hc with hc | hc
        · exact la c hc
        · have hc' : c = ci := by simpa using hc
          rw [hc']; have := own_chs Y ci (List.mem_of_getElem? hci); rw [Int32.lt_iff_toInt_lt] at q; have e : (255 : Int32).toInt = 255 := by decide
          omega
  exact loop cs.length 0 (by omega) _ _ One.u (Keep.refl _ _) (by simpa using D) (fun c hc => by simp at hc) c
abbrev y_nbl : MethodName := ⟨"java/lang/StringUTF16", "newBytesLength", "(I)I"⟩
theorem d_nbl_0 : decode jdk_52_method_3_code 0 = .ok (.iload_n 0, 1) := by decide +kernel
theorem d_nbl_1 : decode jdk_52_method_3_code 1 = .ok (.ifCond .ge 11, 3) := by decide +kernel
theorem d_nbl_12 : decode jdk_52_method_3_code 12 = .ok (.iload_n 0, 1) := by decide +kernel
theorem d_nbl_13 : decode jdk_52_method_3_code 13 = .ok (.ldc 20, 2) := by decide +kernel
theorem d_nbl_15 : decode jdk_52_method_3_code 15 = .ok (.if_icmp .lt 40, 3) := by decide +kernel
theorem d_nbl_55 : decode jdk_52_method_3_code 55 = .ok (.iload_n 0, 1) := by decide +kernel
theorem d_nbl_56 : decode jdk_52_method_3_code 56 = .ok (.iconst 1, 1) := by decide +kernel
theorem d_nbl_57 : decode jdk_52_method_3_code 57 = .ok (.ishl, 1) := by decide +kernel
theorem d_nbl_58 : decode jdk_52_method_3_code 58 = .ok (.ireturn, 1) := by decide +kernel
abbrev rm_nbl : Room := { frames := 0, cells := 0, slots := 0, locals := 0 }
abbrev M_nbl : Mx := (jdk_52_method_3_code, y_nbl.cls, (some .int), y_nbl.name, 1, rm_nbl)
theorem ef_nbl (m : MethodId) (x0 : Int32) : entryFrame m #[.int x0] 1 = mkF m 0 #[.val (.int x0)] [] := by first | (simp [entryFrame, mkF, argsToLocals, Value.category]; done) | rfl
set_option maxRecDepth 65536 in
set_option maxHeartbeats 4000000 in
theorem con_nbl {G : Gx} (hG : OGood G) {h0 : Heap} {n : Nat} (hn : n ≤ 4000) : OCon G y_nbl jdk_52_method_3_code 1 (some .int) [] rm_nbl #[.int (Int32.ofNat n)] [] h0 (fun v h' _ => v = some (.int (Int32.ofNat (2 * n))) ∧ h' = h0) := by
  refine OCon.intro pn_0 (own_ew hG) #[.val (.int (Int32.ofNat n))] (fun m => ef_nbl m (Int32.ofNat n)) ?_
  intro K c
  replace c : OAt G K M_nbl [] 0 0 h0 0 #[.val (.int (Int32.ofNat n))] [] := c
  replace c := c.iloadN 1 d_nbl_0 rfl
  replace c := c.ifT 12 d_nbl_1 (own_if_ge_t (own_nneg (by omega)))
  replace c := c.iloadN 13 d_nbl_12 rfl
  replace c := c.ldcI 15 d_nbl_13 (v := 1073741823) (hG.1 _ (List.mem_of_getElem? (i := 68) rfl))
  replace c := c.icT 55 d_nbl_15 (own_ic_lt_t (own_lt (n := 1073741823) (by omega) (by decide)))
  replace c := c.iloadN 56 d_nbl_55 rfl
  replace c := c.iconst 57 d_nbl_56 1 (by decide)
  replace c := c.ishl 58 d_nbl_57
  rw [own_shl1 n (by omega)] at c
  exact c.reti (t := .int) d_nbl_58 rfl rfl (by simp) (fun sf hs => ⟨rfl, rfl⟩) (by decide) (by decide)
abbrev y_nbf : MethodName := ⟨"java/lang/StringUTF16", "newBytesFor", "(I)[B"⟩
theorem pd_0 : parseMethodDescriptor "(I)I" = some ⟨[.int], some .int⟩ := by decide +kernel
theorem d_nbf_0 : decode jdk_52_method_2_code 0 = .ok (.iload_n 0, 1) := by decide +kernel
theorem d_nbf_1 : decode jdk_52_method_2_code 1 = .ok (.invokestatic 11, 3) := by decide +kernel
theorem d_nbf_4 : decode jdk_52_method_2_code 4 = .ok (.newarray .byte, 2) := by decide +kernel
theorem d_nbf_6 : decode jdk_52_method_2_code 6 = .ok (.areturn, 1) := by decide +kernel
abbrev rm_nbf : Room := { frames := 1, cells := 1, slots := 12, locals := 12 }
abbrev M_nbf : Mx := (jdk_52_method_2_code, y_nbf.cls, (some (.array .byte)), y_nbf.name, 1, rm_nbf)
theorem ef_nbf (m : MethodId) (x0 : Int32) : entryFrame m #[.int x0] 1 = mkF m 0 #[.val (.int x0)] [] := by first | (simp [entryFrame, mkF, argsToLocals, Value.category]; done) | rfl
set_option maxRecDepth 65536 in
set_option maxHeartbeats 4000000 in
theorem con_nbf {G : Gx} (hG : OGood G) {h0 : Heap} {n : Nat} (hn : n ≤ 6) : OCon G y_nbf jdk_52_method_2_code 1 (some (.array .byte)) [] rm_nbf #[.int (Int32.ofNat n)] [] h0 (fun v h' sf => ∃ u : Addr, v = some (.ref u) ∧ u = h0.size ∧ G.n0 ≤ u ∧ Ext h0 h' ∧ Ary G.Z h' u .byte (List.replicate (2 * n) (.int 0)) ∧ sf u) := by
  refine OCon.intro pn_0 (own_ew hG) #[.val (.int (Int32.ofNat n))] (fun m => ef_nbf m (Int32.ofNat n)) ?_
  intro K c
  replace c : OAt G K M_nbf [] 0 0 h0 0 #[.val (.int (Int32.ofNat n))] [] := c
  replace c := c.iloadN 1 d_nbf_0 rfl
  obtain ⟨v, h1, sf, ⟨rfl, hh⟩, c⟩ := c.callS (y := y_nbl) (argsL := [.int (Int32.ofNat n)]) (rest := []) 4 d_nbf_1 (con_nbl hG (by omega)) rfl (hG.1 _ (List.mem_of_getElem? (i := 65) rfl)) (hG.1 _ (List.mem_of_getElem? (i := 66) rfl)) (hG.1 _ (List.mem_of_getElem? (i := 51) rfl)) (hG.1 _ (List.mem_of_getElem? (i := 67) rfl)) (lenOf pd_0 rfl) (by simp) (W := 0) rfl (by decide) (by decide) (by decide) (by decide)
  rw [hh] at c
  replace c := c [] (by simp)
  replace c : OAt G K M_nbf [] 0 0 h0 4 #[.val (.int (Int32.ofNat n))] [.int (Int32.ofNat (2 * n))] := c
  obtain ⟨u, h_u, s_u, x_u, g_u, Y_u, c⟩ := c.newarr 6 d_nbf_4 .byte rfl (hG.1 _ (List.mem_of_getElem? (i := 25) rfl)) (2 * n) rfl 12 (by omega) (by decide) (by decide) (by decide)
  exact c.reta (t := (.array .byte)) d_nbf_6 rfl rfl rfl rfl (fun sf hs => ⟨u, rfl, s_u, g_u, x_u, Y_u, hs u (by simp)⟩) (by decide) (by decide)
abbrev y_putc : MethodName := ⟨"java/lang/StringUTF16", "putChar", "([BII)V"⟩
theorem d_putc_0 : decode jdk_52_method_4_code 0 = .ok (.getstatic 44, 3) := by decide +kernel
theorem d_putc_3 : decode jdk_52_method_4_code 3 = .ok (.ifCond .ne 25, 3) := by decide +kernel
theorem d_putc_28 : decode jdk_52_method_4_code 28 = .ok (.iload_n 1, 1) := by decide +kernel
theorem d_putc_29 : decode jdk_52_method_4_code 29 = .ok (.iconst 1, 1) := by decide +kernel
theorem d_putc_30 : decode jdk_52_method_4_code 30 = .ok (.ishl, 1) := by decide +kernel
theorem d_putc_31 : decode jdk_52_method_4_code 31 = .ok (.istore_n 1, 1) := by decide +kernel
theorem d_putc_32 : decode jdk_52_method_4_code 32 = .ok (.aload_n 0, 1) := by decide +kernel
theorem d_putc_33 : decode jdk_52_method_4_code 33 = .ok (.iload_n 1, 1) := by decide +kernel
theorem d_putc_34 : decode jdk_52_method_4_code 34 = .ok (.iinc 1 1, 3) := by decide +kernel
theorem d_putc_37 : decode jdk_52_method_4_code 37 = .ok (.iload_n 2, 1) := by decide +kernel
theorem d_putc_38 : decode jdk_52_method_4_code 38 = .ok (.getstatic 59, 3) := by decide +kernel
theorem d_putc_41 : decode jdk_52_method_4_code 41 = .ok (.ishr, 1) := by decide +kernel
theorem d_putc_42 : decode jdk_52_method_4_code 42 = .ok (.i2b, 1) := by decide +kernel
theorem d_putc_43 : decode jdk_52_method_4_code 43 = .ok (.bastore, 1) := by decide +kernel
theorem d_putc_44 : decode jdk_52_method_4_code 44 = .ok (.aload_n 0, 1) := by decide +kernel
theorem d_putc_45 : decode jdk_52_method_4_code 45 = .ok (.iload_n 1, 1) := by decide +kernel
theorem d_putc_46 : decode jdk_52_method_4_code 46 = .ok (.iload_n 2, 1) := by decide +kernel
theorem d_putc_47 : decode jdk_52_method_4_code 47 = .ok (.getstatic 63, 3) := by decide +kernel
theorem d_putc_50 : decode jdk_52_method_4_code 50 = .ok (.ishr, 1) := by decide +kernel
theorem d_putc_51 : decode jdk_52_method_4_code 51 = .ok (.i2b, 1) := by decide +kernel
theorem d_putc_52 : decode jdk_52_method_4_code 52 = .ok (.bastore, 1) := by decide +kernel
theorem d_putc_53 : decode jdk_52_method_4_code 53 = .ok (.return_, 1) := by decide +kernel
abbrev rm_putc : Room := { frames := 0, cells := 0, slots := 0, locals := 0 }
abbrev M_putc : Mx := (jdk_52_method_4_code, y_putc.cls, none, y_putc.name, 3, rm_putc)
theorem ef_putc (m : MethodId) (x0 : Addr) (x1 : Int32) (x2 : Int32) : entryFrame m #[.ref x0, .int x1, .int x2] 3 = mkF m 0 #[.val (.ref x0), .val (.int x1), .val (.int x2)] [] := by first | (simp [entryFrame, mkF, argsToLocals, Value.category]; done) | rfl
set_option maxRecDepth 65536 in
set_option maxHeartbeats 4000000 in
theorem con_putc {G : Gx} (hG : OGood G) {h0 : Heap} {u : Addr} {i : Nat} {x : Int32} {vs : List Value} (hu : G.n0 ≤ u) (Y : Ary G.Z h0 u .byte vs) (hi : 2 * i + 1 < vs.length) (hi2 : i < 4000) : OCon G y_putc jdk_52_method_4_code 3 none [] rm_putc #[.ref u, .int (Int32.ofNat i), .int x] [u] h0 (fun v h' _ => v = none ∧ Keep h0 h' [u] ∧ Ary G.Z h' u .byte ((vs.set (2 * i) (.int (lo8 x))).set (2 * i + 1) (.int (lo8 (x >>> ((8 : Int32) &&& 31)))))) := by
  refine OCon.intro pn_0 (own_ew hG) #[.val (.ref u), .val (.int (Int32.ofNat i)), .val (.int x)] (fun m => ef_putc m u (Int32.ofNat i) x) ?_
  intro K c
  replace c : OAt G K M_putc [u] 0 0 h0 0 #[.val (.ref u), .val (.int (Int32.ofNat i)), .val (.int x)] [] := c
  have hvl := Y.len
  replace c := c.getS 3 d_putc_0 (hG.1 _ (List.mem_of_getElem? (i := 72) rfl)) hG.2.2.2.1
  replace c := c.ifT 28 d_putc_3 (own_if_ne_t (by decide))
  replace c := c.iloadN 29 d_putc_28 rfl
  replace c := c.iconst 30 d_putc_29 1 (by decide)
  replace c := c.ishl 31 d_putc_30
  rw [own_shl1 i (by omega)] at c
  replace c := c.istoreN 32 d_putc_31 #[.val (.ref u), .val (.int (Int32.ofNat (2 * i))), .val (.int x)] rfl
  replace c := c.aloadN 33 d_putc_32 rfl rfl
  replace c := c.iloadN 34 d_putc_33 rfl
  replace c := c.iinc 37 d_putc_34 rfl (Int32.ofNat (2 * i + 1)) (own_succ _) #[.val (.ref u), .val (.int (Int32.ofNat (2 * i + 1))), .val (.int x)] rfl
  replace c := c.iloadN 38 d_putc_37 rfl
  replace c := c.getS 41 d_putc_38 (hG.1 _ (List.mem_of_getElem? (i := 73) rfl)) hG.2.2.2.2.1
  replace c := c.ishr 42 d_putc_41
  rw [own_shr0] at c
  replace c := c.i2b 43 d_putc_42
  obtain ⟨h1, W1, Y1, c⟩ := c.bastore 44 d_putc_43 Y (2 * i) rfl (by omega) hu (by simp) (lo8 x) (own_nar_b x)
  replace c := c.aloadN 45 d_putc_44 rfl rfl
  replace c := c.iloadN 46 d_putc_45 rfl
  replace c := c.iloadN 47 d_putc_46 rfl
  replace c := c.getS 50 d_putc_47 (hG.1 _ (List.mem_of_getElem? (i := 74) rfl)) hG.2.2.2.2.2.1
  replace c := c.ishr 51 d_putc_50
  replace c := c.i2b 52 d_putc_51
  obtain ⟨h2, W2, Y2, c⟩ := c.bastore 53 d_putc_52 Y1 (2 * i + 1) rfl (by simpa using hi) hu (by simp) (lo8 (x >>> ((8 : Int32) &&& 31))) (own_nar_b _)
  exact c.ret d_putc_53 rfl (fun sf hs => ⟨rfl, (Keep.of_wr W1).wr W2 (Or.inl (by simp)), Y2⟩) (by decide) (by decide)
abbrev y_getc : MethodName := ⟨"java/lang/StringUTF16", "getChar", "([BI)C"⟩
theorem d_getc_0 : decode jdk_52_method_5_code 0 = .ok (.getstatic 44, 3) := by decide +kernel
theorem d_getc_3 : decode jdk_52_method_5_code 3 = .ok (.ifCond .ne 25, 3) := by decide +kernel
theorem d_getc_28 : decode jdk_52_method_5_code 28 = .ok (.iload_n 1, 1) := by decide +kernel
theorem d_getc_29 : decode jdk_52_method_5_code 29 = .ok (.iconst 1, 1) := by decide +kernel
theorem d_getc_30 : decode jdk_52_method_5_code 30 = .ok (.ishl, 1) := by decide +kernel
theorem d_getc_31 : decode jdk_52_method_5_code 31 = .ok (.istore_n 1, 1) := by decide +kernel
theorem d_getc_32 : decode jdk_52_method_5_code 32 = .ok (.aload_n 0, 1) := by decide +kernel
theorem d_getc_33 : decode jdk_52_method_5_code 33 = .ok (.iload_n 1, 1) := by decide +kernel
theorem d_getc_34 : decode jdk_52_method_5_code 34 = .ok (.iinc 1 1, 3) := by decide +kernel
theorem d_getc_37 : decode jdk_52_method_5_code 37 = .ok (.baload, 1) := by decide +kernel
theorem d_getc_38 : decode jdk_52_method_5_code 38 = .ok (.sipush 255, 3) := by decide +kernel
theorem d_getc_41 : decode jdk_52_method_5_code 41 = .ok (.iand, 1) := by decide +kernel
theorem d_getc_42 : decode jdk_52_method_5_code 42 = .ok (.getstatic 59, 3) := by decide +kernel
theorem d_getc_45 : decode jdk_52_method_5_code 45 = .ok (.ishl, 1) := by decide +kernel
theorem d_getc_46 : decode jdk_52_method_5_code 46 = .ok (.aload_n 0, 1) := by decide +kernel
theorem d_getc_47 : decode jdk_52_method_5_code 47 = .ok (.iload_n 1, 1) := by decide +kernel
theorem d_getc_48 : decode jdk_52_method_5_code 48 = .ok (.baload, 1) := by decide +kernel
theorem d_getc_49 : decode jdk_52_method_5_code 49 = .ok (.sipush 255, 3) := by decide +kernel
theorem d_getc_52 : decode jdk_52_method_5_code 52 = .ok (.iand, 1) := by decide +kernel
theorem d_getc_53 : decode jdk_52_method_5_code 53 = .ok (.getstatic 63, 3) := by decide +kernel
theorem d_getc_56 : decode jdk_52_method_5_code 56 = .ok (.ishl, 1) := by decide +kernel
theorem d_getc_57 : decode jdk_52_method_5_code 57 = .ok (.ior, 1) := by decide +kernel
theorem d_getc_58 : decode jdk_52_method_5_code 58 = .ok (.i2c, 1) := by decide +kernel
theorem d_getc_59 : decode jdk_52_method_5_code 59 = .ok (.ireturn, 1) := by decide +kernel
abbrev rm_getc : Room := { frames := 0, cells := 0, slots := 0, locals := 0 }
abbrev M_getc : Mx := (jdk_52_method_5_code, y_getc.cls, (some .char), y_getc.name, 2, rm_getc)
theorem ef_getc (m : MethodId) (x0 : Addr) (x1 : Int32) : entryFrame m #[.ref x0, .int x1] 2 = mkF m 0 #[.val (.ref x0), .val (.int x1)] [] := by first | (simp [entryFrame, mkF, argsToLocals, Value.category]; done) | rfl
set_option maxRecDepth 65536 in
set_option maxHeartbeats 4000000 in
theorem con_getc {G : Gx} (hG : OGood G) {h0 : Heap} {u : Addr} {i : Nat} {x : Int32} {vs : List Value} (Y : Ary G.Z h0 u .byte vs) (h1 : vs[2 * i]? = some (.int (lo8 x))) (h2 : vs[2 * i + 1]? = some (.int (lo8 (x >>> ((8 : Int32) &&& 31))))) (hx : 0 ≤ x.toInt ∧ x.toInt < 65536) (hi2 : i < 4000) : OCon G y_getc jdk_52_method_5_code 2 (some .char) [] rm_getc #[.ref u, .int (Int32.ofNat i)] [] h0 (fun v h' _ => v = some (.int x) ∧ h' = h0) := by
  refine OCon.intro pn_0 (own_ew hG) #[.val (.ref u), .val (.int (Int32.ofNat i))] (fun m => ef_getc m u (Int32.ofNat i)) ?_
  intro K c
  replace c : OAt G K M_getc [] 0 0 h0 0 #[.val (.ref u), .val (.int (Int32.ofNat i))] [] := c
  replace c := c.getS 3 d_getc_0 (hG.1 _ (List.mem_of_getElem? (i := 72) rfl)) hG.2.2.2.1
  replace c := c.ifT 28 d_getc_3 (own_if_ne_t (by decide))
  replace c := c.iloadN 29 d_getc_28 rfl
  replace c := c.iconst 30 d_getc_29 1 (by decide)
  replace c := c.ishl 31 d_getc_30
  rw [own_shl1 i (by omega)] at c
  replace c := c.istoreN 32 d_getc_31 #[.val (.ref u), .val (.int (Int32.ofNat (2 * i)))] rfl
  replace c := c.aloadN 33 d_getc_32 rfl rfl
  replace c := c.iloadN 34 d_getc_33 rfl
  replace c := c.iinc 37 d_getc_34 rfl (Int32.ofNat (2 * i + 1)) (own_succ _) #[.val (.ref u), .val (.int (Int32.ofNat (2 * i + 1)))] rfl
  replace c := c.baload 38 d_getc_37 Y (2 * i) rfl (.int (lo8 x)) h1
  replace c := c.sipush 41 d_getc_38 255 (by decide)
  replace c := c.iand 42 d_getc_41
  replace c := c.getS 45 d_getc_42 (hG.1 _ (List.mem_of_getElem? (i := 73) rfl)) hG.2.2.2.2.1
  replace c := c.ishl 46 d_getc_45
  replace c := c.aloadN 47 d_getc_46 rfl rfl
  replace c := c.iloadN 48 d_getc_47 rfl
  replace c := c.baload 49 d_getc_48 Y (2 * i + 1) rfl (.int (lo8 (x >>> ((8 : Int32) &&& 31)))) h2
  replace c := c.sipush 52 d_getc_49 255 (by decide)
  replace c := c.iand 53 d_getc_52
  replace c := c.getS 56 d_getc_53 (hG.1 _ (List.mem_of_getElem? (i := 74) rfl)) hG.2.2.2.2.2.1
  replace c := c.ishl 57 d_getc_56
  replace c := c.ior 58 d_getc_57
  replace c := c.i2c 59 d_getc_58
  rw [own_char2 hx] at c
  exact c.reti (t := .char) d_getc_59 rfl (by show Value.int _ = _; rw [own_i2c hx]) (by simp) (fun sf hs => ⟨rfl, rfl⟩) (by decide) (by decide)
abbrev y_tob : MethodName := ⟨"java/lang/StringUTF16", "toBytes", "([CII)[B"⟩
abbrev Q_tob (G : Gx) (h0 : Heap) (cs : List Int32) : Option Value → Heap → (Addr → Prop) → Prop := fun v h' sf => ∃ u : Addr, v = some (.ref u) ∧ h0.size ≤ u ∧ G.n0 ≤ u ∧ Keep h0 h' [] ∧ Ary G.Z h' u .byte (encU cs) ∧ sf u
theorem pd_1 : parseMethodDescriptor "(I)[B" = some ⟨[.int], some (.array .byte)⟩ := by decide +kernel
theorem pd_2 : parseMethodDescriptor "([BII)V" = some ⟨[(.array .byte), .int, .int], none⟩ := by decide +kernel
theorem d_tob_0 : decode jdk_52_method_14_code 0 = .ok (.iload_n 2, 1) := by decide +kernel
theorem d_tob_1 : decode jdk_52_method_14_code 1 = .ok (.invokestatic 107, 3) := by decide +kernel
theorem d_tob_4 : decode jdk_52_method_14_code 4 = .ok (.astore_n 3, 1) := by decide +kernel
theorem d_tob_5 : decode jdk_52_method_14_code 5 = .ok (.iconst 0, 1) := by decide +kernel
theorem d_tob_6 : decode jdk_52_method_14_code 6 = .ok (.istore 4, 2) := by decide +kernel
theorem d_tob_8 : decode jdk_52_method_14_code 8 = .ok (.iload 4, 2) := by decide +kernel
theorem d_tob_10 : decode jdk_52_method_14_code 10 = .ok (.iload_n 2, 1) := by decide +kernel
theorem d_tob_11 : decode jdk_52_method_14_code 11 = .ok (.if_icmp .ge 21, 3) := by decide +kernel
theorem d_tob_14 : decode jdk_52_method_14_code 14 = .ok (.aload_n 3, 1) := by decide +kernel
theorem d_tob_15 : decode jdk_52_method_14_code 15 = .ok (.iload 4, 2) := by decide +kernel
theorem d_tob_17 : decode jdk_52_method_14_code 17 = .ok (.aload_n 0, 1) := by decide +kernel
theorem d_tob_18 : decode jdk_52_method_14_code 18 = .ok (.iload_n 1, 1) := by decide +kernel
theorem d_tob_19 : decode jdk_52_method_14_code 19 = .ok (.caload, 1) := by decide +kernel
theorem d_tob_20 : decode jdk_52_method_14_code 20 = .ok (.invokestatic 111, 3) := by decide +kernel
theorem d_tob_23 : decode jdk_52_method_14_code 23 = .ok (.iinc 1 1, 3) := by decide +kernel
theorem d_tob_26 : decode jdk_52_method_14_code 26 = .ok (.iinc 4 1, 3) := by decide +kernel
theorem d_tob_29 : decode jdk_52_method_14_code 29 = .ok (.goto (-21), 3) := by decide +kernel
theorem d_tob_32 : decode jdk_52_method_14_code 32 = .ok (.aload_n 3, 1) := by decide +kernel
theorem d_tob_33 : decode jdk_52_method_14_code 33 = .ok (.areturn, 1) := by decide +kernel
abbrev rm_tob : Room := { frames := 2, cells := 1, slots := 12, locals := 24 }
abbrev M_tob : Mx := (jdk_52_method_14_code, y_tob.cls, (some (.array .byte)), y_tob.name, 5, rm_tob)
theorem ef_tob (m : MethodId) (x0 : Addr) (x1 : Int32) (x2 : Int32) : entryFrame m #[.ref x0, .int x1, .int x2] 5 = mkF m 0 #[.val (.ref x0), .val (.int x1), .val (.int x2), .unset, .unset] [] := by first | (simp [entryFrame, mkF, argsToLocals, Value.category]; done) | rfl
set_option maxRecDepth 65536 in
set_option maxHeartbeats 4000000 in
theorem con_tob {G : Gx} (hG : OGood G) {h0 : Heap} {ca : Addr} {cs : List Int32} (hN : cs.length ≤ 6) (Y : Ary G.Z h0 ca .char (cs.map Value.int)) : OCon G y_tob jdk_52_method_14_code 5 (some (.array .byte)) [] rm_tob #[.ref ca, .int 0, .int (Int32.ofNat cs.length)] [] h0 (Q_tob G h0 cs) := by
  refine OCon.intro pn_0 (own_ew hG) #[.val (.ref ca), .val (.int 0), .val (.int (Int32.ofNat cs.length)), .unset, .unset] (fun m => ef_tob m ca 0 (Int32.ofNat cs.length)) ?_
  intro K c
  replace c : OAt G K M_tob [] 0 0 h0 0 #[.val (.ref ca), .val (.int 0), .val (.int (Int32.ofNat cs.length)), .unset, .unset] [] := c
  replace c := c.iloadN 1 d_tob_0 rfl
  obtain ⟨v, h_u, sf, ⟨u, rfl, s_u, g_u, x_u, Y_u, hsf⟩, c⟩ := c.callS (y := y_nbf) (argsL := [.int (Int32.ofNat cs.length)]) (rest := []) 4 d_tob_1 (con_nbf hG hN) rfl (hG.1 _ (List.mem_of_getElem? (i := 62) rfl)) (hG.1 _ (List.mem_of_getElem? (i := 63) rfl)) (hG.1 _ (List.mem_of_getElem? (i := 51) rfl)) (hG.1 _ (List.mem_of_getElem? (i := 64) rfl)) (lenOf pd_1 rfl) (by simp) (W := 0) rfl (by decide) (by decide) (by decide) (by decide)
  replace c := c [u] (by simpa using hsf)
  replace c : OAt G K M_tob [u] 1 12 h_u 4 #[.val (.ref ca), .val (.int 0), .val (.int (Int32.ofNat cs.length)), .unset, .unset] [.ref u] := c
  replace c := c.astoreN 5 d_tob_4 rfl #[.val (.ref ca), .val (.int 0), .val (.int (Int32.ofNat cs.length)), .val (.ref u), .unset] rfl
  replace c := c.iconst 6 d_tob_5 0 (by decide)
  replace c := c.istore 8 d_tob_6 #[.val (.ref ca), .val (.int 0), .val (.int (Int32.ofNat cs.length)), .val (.ref u), .val (.int 0)] rfl
  have K0 : Keep h0 h_u [] := (Keep.refl _ _).ext x_u
  have hne : ca < h0.size := Y.lt
  have hlen : cs.length < 2147483648 := by omega
  have loop : ∀ (r i : Nat), i + r = cs.length → ∀ (h1 : Heap), Keep h0 h1 [] → Ary G.Z h1 u .byte (encU (cs.take i) ++ List.replicate (2 * r) (.int 0)) → OAt G K M_tob [u] 1 12 h1 8 #[.val (.ref ca), .val (.int (Int32.ofNat i)), .val (.int (Int32.ofNat cs.length)), .val (.ref u), .val (.int (Int32.ofNat i))] [] → ODone G K rm_tob (Q_tob G h0 cs) := by
    intro r
    induction r with
    | zero =>
      intro i hi h1 K1 D1 c
      have hin : i = cs.length := by omega
      subst hin
      replace c := c.iload 10 d_tob_8 rfl
      replace c := c.iloadN 11 d_tob_10 rfl
      replace c := c.icT 32 d_tob_11 (own_ic_ge_t (own_nlt (by omega) hlen))
      replace c := c.aloadN 33 d_tob_32 rfl rfl
      exact c.reta (t := (.array .byte)) d_tob_33 rfl rfl rfl rfl (fun sf hs => ⟨u, rfl, Nat.le_of_eq s_u.symm, g_u, K1, by simpa using D1, hs u (by simp)⟩) (by decide) (by decide)
    | succ r ih =>
      intro i hi h1 K1 D1 c
      have hil : i < cs.length := by omega
      obtain ⟨ci, hci⟩ : ∃ ci, cs[i]? = some ci := ⟨cs[i], List.getElem?_eq_getElem hil⟩
      have Y1 : Ary G.Z h1 ca .char (cs.map Value.int) := Y.keep K1 nin0
      replace c := c.iload 10 d_tob_8 rfl
      replace c := c.iloadN 11 d_tob_10 rfl
      replace c := c.icF 14 d_tob_11 (own_ic_ge_f (own_lt hil hlen))
      replace c := c.aloadN 15 d_tob_14 rfl rfl
      replace c := c.iload 17 d_tob_15 rfl
      replace c := c.aloadN 18 d_tob_17 rfl rfl
      replace c := c.iloadN 19 d_tob_18 rfl
      replace c := c.caload 20 d_tob_19 Y1 (i) rfl (.int ci) (by simp [hci])
      have hel : (encU (cs.take i)).length = 2 * i := by rw [encU_len]; simp; omega
      obtain ⟨v, h2, sf, ⟨rfl, K2, D2⟩, c⟩ := c.callS (y := y_putc) (argsL := [.ref u, .int (Int32.ofNat i), .int ci]) (rest := []) 23 d_tob_20 (con_putc hG g_u D1 (by rw [List.length_append, hel, List.length_replicate]; omega) (by omega)) rfl (hG.1 _ (List.mem_of_getElem? (i := 69) rfl)) (hG.1 _ (List.mem_of_getElem? (i := 70) rfl)) (hG.1 _ (List.mem_of_getElem? (i := 51) rfl)) (hG.1 _ (List.mem_of_getElem? (i := 71) rfl)) (lenOf pd_2 rfl) (by simp) (W := 0) rfl (by decide) (by decide) (by decide) (by decide)
      replace c := c [] (by simp)
      replace c : OAt G K M_tob [u] 1 12 h2 23 #[.val (.ref ca), .val (.int (Int32.ofNat i)), .val (.int (Int32.ofNat cs.length)), .val (.ref u), .val (.int (Int32.ofNat i))] [] := c
      replace c := c.iinc 26 d_tob_23 rfl (Int32.ofNat (i + 1)) (own_succ i) #[.val (.ref ca), .val (.int (Int32.ofNat (i + 1))), .val (.int (Int32.ofNat cs.length)), .val (.ref u), .val (.int (Int32.ofNat i))] rfl
      replace c := c.iinc 29 d_tob_26 rfl (Int32.ofNat (i + 1)) (own_succ i) #[.val (.ref ca), .val (.int (Int32.ofNat (i + 1))), .val (.int (Int32.ofNat cs.length)), .val (.ref u), .val (.int (Int32.ofNat (i + 1)))] rfl
      replace c := c.goto 8 d_tob_29
      have hfill : ((encU (cs.take i) ++ List.replicate (2 * (r + 1)) (Value.int 0)).set (2 * i) (.int (lo8 ci))).set (2 * i + 1) (.int (lo8 (ci >>> ((8 : Int32) &&& 31)))) = encU (cs.take (i + 1)) ++ List.replicate (2 * r) (.int 0) := own_fillU hci hel
      rw [hfill] at D2
      exact ih (i + 1) (by omega) h2 (K1.trans K2 (fun x hx => by cases List.mem_singleton.mp hx; exact Or.inr (Nat.le_of_eq s_u.symm))) D2 c
  exact loop cs.length 0 (by omega) h_u K0 (by simpa [encU] using Y_u) c
abbrev y_cmp3 : MethodName := ⟨"java/lang/StringUTF16", "compress", "([CII)[B"⟩
abbrev Q_cmp3 (G : Gx) (h0 : Heap) (cs : List Int32) : Option Value → Heap → (Addr → Prop) → Prop := fun v h' _ => ∃ b : Addr, v = some (.ref b) ∧ h0.size ≤ b ∧ Keep h0 h' [] ∧ ((Lat cs ∧ Ary G.Z h' b .byte (encL cs)) ∨ (Chs cs ∧ (∃ c ∈ cs, 255 < c.toInt) ∧ Ary G.Z h' b .byte (encU cs)))
theorem pd_3 : parseMethodDescriptor "([CI[BII)I" = some ⟨[(.array .char), .int, (.array .byte), .int, .int], some .int⟩ := by decide +kernel
theorem pd_4 : parseMethodDescriptor "([CII)[B" = some ⟨[(.array .char), .int, .int], some (.array .byte)⟩ := by decide +kernel
theorem pd_5 : parseMethodDescriptor "([BI)C" = some ⟨[(.array .byte), .int], some .char⟩ := by decide +kernel
theorem d_cmp3_0 : decode jdk_52_method_16_code 0 = .ok (.iload_n 2, 1) := by decide +kernel
theorem d_cmp3_1 : decode jdk_52_method_16_code 1 = .ok (.newarray .byte, 2) := by decide +kernel
theorem d_cmp3_3 : decode jdk_52_method_16_code 3 = .ok (.astore_n 3, 1) := by decide +kernel
theorem d_cmp3_4 : decode jdk_52_method_16_code 4 = .ok (.aload_n 0, 1) := by decide +kernel
theorem d_cmp3_5 : decode jdk_52_method_16_code 5 = .ok (.iload_n 1, 1) := by decide +kernel
theorem d_cmp3_6 : decode jdk_52_method_16_code 6 = .ok (.aload_n 3, 1) := by decide +kernel
theorem d_cmp3_7 : decode jdk_52_method_16_code 7 = .ok (.iconst 0, 1) := by decide +kernel
theorem d_cmp3_8 : decode jdk_52_method_16_code 8 = .ok (.iload_n 2, 1) := by decide +kernel
theorem d_cmp3_9 : decode jdk_52_method_16_code 9 = .ok (.invokestatic 115, 3) := by decide +kernel
theorem d_cmp3_12 : decode jdk_52_method_16_code 12 = .ok (.istore 4, 2) := by decide +kernel
theorem d_cmp3_14 : decode jdk_52_method_16_code 14 = .ok (.iload 4, 2) := by decide +kernel
theorem d_cmp3_16 : decode jdk_52_method_16_code 16 = .ok (.iload_n 2, 1) := by decide +kernel
theorem d_cmp3_17 : decode jdk_52_method_16_code 17 = .ok (.if_icmp .eq 40, 3) := by decide +kernel
theorem d_cmp3_20 : decode jdk_52_method_16_code 20 = .ok (.aload_n 0, 1) := by decide +kernel
theorem d_cmp3_21 : decode jdk_52_method_16_code 21 = .ok (.iload_n 1, 1) := by decide +kernel
theorem d_cmp3_22 : decode jdk_52_method_16_code 22 = .ok (.iload_n 2, 1) := by decide +kernel
theorem d_cmp3_23 : decode jdk_52_method_16_code 23 = .ok (.invokestatic 119, 3) := by decide +kernel
theorem d_cmp3_26 : decode jdk_52_method_16_code 26 = .ok (.astore 5, 2) := by decide +kernel
theorem d_cmp3_28 : decode jdk_52_method_16_code 28 = .ok (.aload 5, 2) := by decide +kernel
theorem d_cmp3_30 : decode jdk_52_method_16_code 30 = .ok (.iload 4, 2) := by decide +kernel
theorem d_cmp3_32 : decode jdk_52_method_16_code 32 = .ok (.invokestatic 71, 3) := by decide +kernel
theorem d_cmp3_35 : decode jdk_52_method_16_code 35 = .ok (.sipush 255, 3) := by decide +kernel
theorem d_cmp3_38 : decode jdk_52_method_16_code 38 = .ok (.if_icmp .gt 16, 3) := by decide +kernel
theorem d_cmp3_54 : decode jdk_52_method_16_code 54 = .ok (.aload 5, 2) := by decide +kernel
theorem d_cmp3_56 : decode jdk_52_method_16_code 56 = .ok (.areturn, 1) := by decide +kernel
theorem d_cmp3_57 : decode jdk_52_method_16_code 57 = .ok (.aload_n 3, 1) := by decide +kernel
theorem d_cmp3_58 : decode jdk_52_method_16_code 58 = .ok (.areturn, 1) := by decide +kernel
abbrev rm_cmp3 : Room := { frames := 3, cells := 2, slots := 18, locals := 40 }
abbrev M_cmp3 : Mx := (jdk_52_method_16_code, y_cmp3.cls, (some (.array .byte)), y_cmp3.name, 6, rm_cmp3)
theorem ef_cmp3 (m : MethodId) (x0 : Addr) (x1 : Int32) (x2 : Int32) : entryFrame m #[.ref x0, .int x1, .int x2] 6 = mkF m 0 #[.val (.ref x0), .val (.int x1), .val (.int x2), .unset, .unset, .unset] [] := by first | (simp [entryFrame, mkF, argsToLocals, Value.category]; done) | rfl
set_option maxRecDepth 65536 in
set_option maxHeartbeats 4000000 in
theorem con_cmp3 {G : Gx} (hG : OGood G) {h0 : Heap} {ca : Addr} {cs : List Int32} (hN : cs.length ≤ 6) (Y : Ary G.Z h0 ca .char (cs.map Value.int)) : OCon G y_cmp3 jdk_52_method_16_code 6 (some (.array .byte)) [] rm_cmp3 #[.ref ca, .int 0, .int (Int32.ofNat cs.length)] [] h0 (Q_cmp3 G h0 cs) := by
  refine OCon.intro pn_0 (own_ew hG) #[.val (.ref ca), .val (.int 0), .val (.int (Int32.ofNat cs.length)), .unset, .unset, .unset] (fun m => ef_cmp3 m ca 0 (Int32.ofNat cs.length)) ?_
  intro K c
  replace c : OAt G K M_cmp3 [] 0 0 h0 0 #[.val (.ref ca), .val (.int 0), .val (.int (Int32.ofNat cs.length)), .unset, .unset, .unset] [] := c
  have hlen : cs.length < 2147483648 := by omega
  replace c := c.iloadN 1 d_cmp3_0 rfl
  obtain ⟨d, h_d, s_d, x_d, g_d, Y_d, c⟩ := c.newarr 3 d_cmp3_1 .byte rfl (hG.1 _ (List.mem_of_getElem? (i := 25) rfl)) (cs.length) rfl 6 hN (by decide) (by decide) (by decide)
  replace c := c.astoreN 4 d_cmp3_3 rfl #[.val (.ref ca), .val (.int 0), .val (.int (Int32.ofNat cs.length)), .val (.ref d), .unset, .unset] rfl
  replace c := c.aloadN 5 d_cmp3_4 rfl rfl
  replace c := c.iloadN 6 d_cmp3_5 rfl
  replace c := c.aloadN 7 d_cmp3_6 rfl rfl
  replace c := c.iconst 8 d_cmp3_7 0 (by decide)
  replace c := c.iloadN 9 d_cmp3_8 rfl
  obtain ⟨v, h1, sf, ⟨k, hk, rfl, K1, D1, la, hk2⟩, c⟩ := c.callS (y := y_cmp5) (argsL := [.ref ca, .int 0, .ref d, .int 0, .int (Int32.ofNat cs.length)]) (rest := []) 12 d_cmp3_9 (con_cmp5 hG g_d (Y.ext x_d) Y_d (by simp)) rfl (hG.1 _ (List.mem_of_getElem? (i := 53) rfl)) (hG.1 _ (List.mem_of_getElem? (i := 54) rfl)) (hG.1 _ (List.mem_of_getElem? (i := 51) rfl)) (hG.1 _ (List.mem_of_getElem? (i := 55) rfl)) (lenOf pd_3 rfl) (by simp) (W := 0) rfl (by decide) (by decide) (by decide) (by decide)
  replace c := c [] (by simp)
  replace c : OAt G K M_cmp3 [d] 1 6 h1 12 #[.val (.ref ca), .val (.int 0), .val (.int (Int32.ofNat cs.length)), .val (.ref d), .unset, .unset] [.int (Int32.ofNat k)] := c
  replace c := c.istore 14 d_cmp3_12 #[.val (.ref ca), .val (.int 0), .val (.int (Int32.ofNat cs.length)), .val (.ref d), .val (.int (Int32.ofNat k)), .unset] rfl
  replace c := c.iload 16 d_cmp3_14 rfl
  replace c := c.iloadN 17 d_cmp3_16 rfl
  have K01 : Keep h0 h1 [] := ((Keep.refl h0 []).ext x_d).trans K1 (fun x hx => by cases List.mem_singleton.mp hx; exact Or.inr (Nat.le_of_eq s_d.symm))
  by_cases q : k = cs.length
  · subst q
    replace c := c.icT 57 d_cmp3_17 (own_ic_eq_t rfl)
    replace c := c.aloadN 58 d_cmp3_57 rfl rfl
    exact c.reta (t := (.array .byte)) d_cmp3_58 rfl rfl rfl rfl (fun sf hs => ⟨d, rfl, Nat.le_of_eq s_d.symm, K01, Or.inl ⟨by simpa using la, by rw [List.take_of_length_le (by rw [encL_len]; exact Nat.le_refl _), List.drop_of_length_le (by simp)] at D1; simpa using D1⟩⟩) (by decide) (by decide)
  · skip
    have hkl : k < cs.length := by omega
    obtain ⟨ck, hck⟩ : ∃ ck, cs[k]? = some ck := ⟨cs[k], List.getElem?_eq_getElem hkl⟩
    have big := hk2 ck hck
    have chs := own_chs Y
    replace c := c.icF 20 d_cmp3_17 (own_ic_eq_f (fun e => q (own_inj e (by omega) hlen)))
    replace c := c.aloadN 21 d_cmp3_20 rfl rfl
    replace c := c.iloadN 22 d_cmp3_21 rfl
    replace c := c.iloadN 23 d_cmp3_22 rfl
    obtain ⟨v, h2, sf, ⟨u, rfl, s_u, g_u, K2, D2, -⟩, c⟩ := c.callS (y := y_tob) (argsL := [.ref ca, .int 0, .int (Int32.ofNat cs.length)]) (rest := []) 26 d_cmp3_23 (con_tob hG hN (Y.keep K01 nin0)) rfl (hG.1 _ (List.mem_of_getElem? (i := 59) rfl)) (hG.1 _ (List.mem_of_getElem? (i := 60) rfl)) (hG.1 _ (List.mem_of_getElem? (i := 51) rfl)) (hG.1 _ (List.mem_of_getElem? (i := 61) rfl)) (lenOf pd_4 rfl) (by simp) (W := 0) rfl (by decide) (by decide) (by decide) (by decide)
    replace c := c [] (by simp)
    replace c : OAt G K M_cmp3 [d] 2 18 h2 26 #[.val (.ref ca), .val (.int 0), .val (.int (Int32.ofNat cs.length)), .val (.ref d), .val (.int (Int32.ofNat k)), .unset] [.ref u] := c
    replace c := c.astore 28 d_cmp3_26 rfl #[.val (.ref ca), .val (.int 0), .val (.int (Int32.ofNat cs.length)), .val (.ref d), .val (.int (Int32.ofNat k)), .val (.ref u)] rfl
    replace c := c.aload 30 d_cmp3_28 rfl rfl
    replace c := c.iload 32 d_cmp3_30 rfl
    obtain ⟨v, h3, sf, ⟨rfl, hh⟩, c⟩ := c.callS (y := y_getc) (argsL := [.ref u, .int (Int32.ofNat k)]) (rest := []) 35 d_cmp3_32 (con_getc hG (x := ck) D2 (own_encU hck).1 (own_encU hck).2 (chs ck (List.mem_of_getElem? hck)) (by omega)) rfl (hG.1 _ (List.mem_of_getElem? (i := 75) rfl)) (hG.1 _ (List.mem_of_getElem? (i := 76) rfl)) (hG.1 _ (List.mem_of_getElem? (i := 51) rfl)) (hG.1 _ (List.mem_of_getElem? (i := 77) rfl)) (lenOf pd_5 rfl) (by simp) (W := 0) rfl (by decide) (by decide) (by decide) (by decide)
    rw [hh] at c
    replace c := c [] (by simp)
    replace c : OAt G K M_cmp3 [d] 2 18 h2 35 #[.val (.ref ca), .val (.int 0), .val (.int (Int32.ofNat cs.length)), .val (.ref d), .val (.int (Int32.ofNat k)), .val (.ref u)] [.int ck] := c
    replace c := c.sipush 38 d_cmp3_35 255 (by decide)
    replace c := c.icT 54 d_cmp3_38 (own_ic_gt_t (by rw [Int32.lt_iff_toInt_lt]; exact big))
    replace c := c.aload 56 d_cmp3_54 rfl rfl
    exact c.reta (t := (.array .byte)) d_cmp3_56 rfl rfl rfl rfl (fun sf hs => ⟨u, rfl, Nat.le_trans K01.1 s_u, K01.trans K2 (fun x hx => by cases hx), Or.inr ⟨chs, ⟨ck, List.mem_of_getElem? hck, big⟩, D2⟩⟩) (by decide) (by decide)
abbrev y_si4 : MethodName := ⟨"java/lang/String", "<init>", "([CIILjava/lang/Void;)V"⟩
theorem pd_6 : parseMethodDescriptor "([BI)B" = some ⟨[(.array .byte), .int], some .byte⟩ := by decide +kernel
theorem pn_1 : plainName "java/lang/String" = true := by first | (simp [plainName, overriddenIn]; done) | decide +kernel
theorem d_si4_0 : decode jdk_42_method_149_code 0 = .ok (.aload_n 0, 1) := by decide +kernel
theorem d_si4_1 : decode jdk_42_method_149_code 1 = .ok (.invokespecial 1, 3) := by decide +kernel
theorem d_si4_4 : decode jdk_42_method_149_code 4 = .ok (.iload_n 3, 1) := by decide +kernel
theorem d_si4_5 : decode jdk_42_method_149_code 5 = .ok (.ifCond .ne 22, 3) := by decide +kernel
theorem d_si4_8 : decode jdk_42_method_149_code 8 = .ok (.aload_n 0, 1) := by decide +kernel
theorem d_si4_9 : decode jdk_42_method_149_code 9 = .ok (.ldc 7, 2) := by decide +kernel
theorem d_si4_11 : decode jdk_42_method_149_code 11 = .ok (.getfield 9, 3) := by decide +kernel
theorem d_si4_14 : decode jdk_42_method_149_code 14 = .ok (.putfield 9, 3) := by decide +kernel
theorem d_si4_17 : decode jdk_42_method_149_code 17 = .ok (.aload_n 0, 1) := by decide +kernel
theorem d_si4_18 : decode jdk_42_method_149_code 18 = .ok (.ldc 7, 2) := by decide +kernel
theorem d_si4_20 : decode jdk_42_method_149_code 20 = .ok (.getfield 15, 3) := by decide +kernel
theorem d_si4_23 : decode jdk_42_method_149_code 23 = .ok (.putfield 15, 3) := by decide +kernel
theorem d_si4_26 : decode jdk_42_method_149_code 26 = .ok (.return_, 1) := by decide +kernel
theorem d_si4_27 : decode jdk_42_method_149_code 27 = .ok (.getstatic 38, 3) := by decide +kernel
theorem d_si4_30 : decode jdk_42_method_149_code 30 = .ok (.ifCond .eq 28, 3) := by decide +kernel
theorem d_si4_33 : decode jdk_42_method_149_code 33 = .ok (.aload_n 1, 1) := by decide +kernel
theorem d_si4_34 : decode jdk_42_method_149_code 34 = .ok (.iload_n 2, 1) := by decide +kernel
theorem d_si4_35 : decode jdk_42_method_149_code 35 = .ok (.iload_n 3, 1) := by decide +kernel
theorem d_si4_36 : decode jdk_42_method_149_code 36 = .ok (.invokestatic 177, 3) := by decide +kernel
theorem d_si4_39 : decode jdk_42_method_149_code 39 = .ok (.astore 5, 2) := by decide +kernel
theorem d_si4_41 : decode jdk_42_method_149_code 41 = .ok (.aload_n 0, 1) := by decide +kernel
theorem d_si4_42 : decode jdk_42_method_149_code 42 = .ok (.aload 5, 2) := by decide +kernel
theorem d_si4_44 : decode jdk_42_method_149_code 44 = .ok (.iload_n 3, 1) := by decide +kernel
theorem d_si4_45 : decode jdk_42_method_149_code 45 = .ok (.invokestatic 47, 3) := by decide +kernel
theorem d_si4_48 : decode jdk_42_method_149_code 48 = .ok (.putfield 15, 3) := by decide +kernel
theorem d_si4_51 : decode jdk_42_method_149_code 51 = .ok (.aload_n 0, 1) := by decide +kernel
theorem d_si4_52 : decode jdk_42_method_149_code 52 = .ok (.aload 5, 2) := by decide +kernel
theorem d_si4_54 : decode jdk_42_method_149_code 54 = .ok (.putfield 9, 3) := by decide +kernel
theorem d_si4_57 : decode jdk_42_method_149_code 57 = .ok (.return_, 1) := by decide +kernel
abbrev rm_si4 : Room := { frames := 4, cells := 4, slots := 18, locals := 57 }
abbrev M_si4 : Mx := (jdk_42_method_149_code, y_si4.cls, none, y_si4.name, 6, rm_si4)
theorem ef_si4 (m : MethodId) (x0 : Addr) (x1 : Addr) (x2 : Int32) (x3 : Int32) : entryFrame m #[.ref x0, .ref x1, .int x2, .int x3, .null] 6 = mkF m 0 #[.val (.ref x0), .val (.ref x1), .val (.int x2), .val (.int x3), .val .null, .unset] [] := by first | (simp [entryFrame, mkF, argsToLocals, Value.category]; done) | rfl
set_option maxRecDepth 65536 in
set_option maxHeartbeats 4000000 in
theorem con_si4 {G : Gx} (hG : OGood G) {h0 : Heap} {a ca : Addr} {cs : List Int32} (hN : cs.length ≤ 6) (ha : G.n0 ≤ a) (E : Exa G.Z h0 a "java/lang/String") (V : Fld G.Z h0 a "java/lang/String" "value" "[B" .null) (C0 : Fld G.Z h0 a "java/lang/String" "coder" "B" (.int 0)) (Y : Ary G.Z h0 ca .char (cs.map Value.int)) : OCon G y_si4 jdk_42_method_149_code 6 none [] rm_si4 #[.ref a, .ref ca, .int 0, .int (Int32.ofNat cs.length), .null] [a] h0 (fun v h' _ => v = none ∧ Keep h0 h' [a] ∧ Str G.Z h' a cs) := by
  refine OCon.intro pn_1 (own_ew hG) #[.val (.ref a), .val (.ref ca), .val (.int 0), .val (.int (Int32.ofNat cs.length)), .val (.null), .unset] (fun m => ef_si4 m a ca 0 (Int32.ofNat cs.length)) ?_
  intro K c
  replace c : OAt G K M_si4 [a] 0 0 h0 0 #[.val (.ref a), .val (.ref ca), .val (.int 0), .val (.int (Int32.ofNat cs.length)), .val (.null), .unset] [] := c
  have hlen : cs.length < 2147483648 := by omega
  have wi := (hG.1 _ (List.mem_of_getElem? (i := 11) rfl))
  have LV : Laid G.Z G.a0 "java/lang/String" "java/lang/String" "value" "[B" := Or.inr (hG.1 _ (List.mem_of_getElem? (i := 26) rfl))
  have LC : Laid G.Z G.a0 "java/lang/String" "java/lang/String" "coder" "B" := Or.inr (hG.1 _ (List.mem_of_getElem? (i := 27) rfl))
  have sne : Jvm.RoadKit.slotOf G.Z "java/lang/String" "value" "[B" ≠ Jvm.RoadKit.slotOf G.Z "java/lang/String" "coder" "B" := slot_ne LV LC (by decide) (t := .array .byte) (t' := .byte) (by decide) (by decide)
  replace c := c.aloadN 1 d_si4_0 rfl rfl
  replace c := c.initO 4 d_si4_1 (hG.1 _ (List.mem_of_getElem? (i := 21) rfl)) (hG.1 _ (List.mem_of_getElem? (i := 22) rfl)) (hG.1 _ (List.mem_of_getElem? (i := 23) rfl)) (W := 0) rfl (by decide) (by decide)
  replace c := c.iloadN 5 d_si4_4 rfl
  by_cases q : cs = []
  · subst q
    replace c := c.ifF 8 d_si4_5 (own_if_ne_f rfl)
    replace c := c.aloadN 9 d_si4_8 rfl rfl
    obtain ⟨e, b_e, h_e, x_e, E_e, C_e, V_e, Y_e, N_e, c⟩ := c.ldcS 11 d_si4_9 (hG.1 _ (List.mem_of_getElem? (i := 24) rfl)) (own_sa hG) (own_el_2 hG) [] (by decide) (by decide) 0 (by decide) (by decide) (by decide) (by decide)
    replace c := c.getF 14 d_si4_11 (hG.1 _ (List.mem_of_getElem? (i := 30) rfl)) V_e
    have na : a ≠ e := (N_e a (by simp)).1
    have V1 := V.ext x_e
    have C1 := C0.ext x_e
    have E1 := E.ext x_e
    obtain ⟨hp1, Wp1, c⟩ := c.putF (C := "java/lang/String") (O := "java/lang/String") (n := "value") (d := "[B") (ty := (.array .byte)) 17 d_si4_14 (hG.1 _ (List.mem_of_getElem? (i := 30) rfl)) V1 E1 (Or.inr ⟨(hG.1 _ (List.mem_of_getElem? (i := 26) rfl)), rfl, rfl⟩) (hG.1 _ (List.mem_of_getElem? (i := 11) rfl)) (by decide) rfl (by first | rfl | decide) ha (Or.inl (by simp))
    have E2 := E1.wr Wp1
    have C2 := C1.other Wp1 (Or.inr sne.symm)
    have V2 := V1.same Wp1
    have Y2 := Y_e.other Wp1 (N_e a (by simp)).2.symm
    replace c := c.aloadN 18 d_si4_17 rfl rfl
    obtain ⟨f, b_f, h_f, x_f, E_f, C_f, V_f, Y_f, N_f, c⟩ := c.ldcS 20 d_si4_18 (hG.1 _ (List.mem_of_getElem? (i := 24) rfl)) (own_sa hG) (own_el_2 hG) [] (by decide) (by decide) 0 (by decide) (by decide) (by decide) (by decide)
    replace c := c.getF 23 d_si4_20 (hG.1 _ (List.mem_of_getElem? (i := 31) rfl)) C_f
    obtain ⟨hp2, Wp2, c⟩ := c.putF (C := "java/lang/String") (O := "java/lang/String") (n := "coder") (d := "B") (ty := .byte) 26 d_si4_23 (hG.1 _ (List.mem_of_getElem? (i := 31) rfl)) (C2.ext x_f) (E2.ext x_f) (Or.inr ⟨(hG.1 _ (List.mem_of_getElem? (i := 27) rfl)), rfl, rfl⟩) (hG.1 _ (List.mem_of_getElem? (i := 11) rfl)) (by decide) rfl (by first | rfl | decide) ha (Or.inl (by simp))
    have nb : b_e ≠ a := (N_e a (by simp)).2.symm
    have E3 := (E2.ext x_f).wr Wp2
    have C3 := (C2.ext x_f).same Wp2
    have V3 := (V2.ext x_f).other Wp2 (Or.inr sne)
    have Y3 := (Y2.ext x_f).other Wp2 nb
    exact c.ret d_si4_26 rfl (fun sf hs => ⟨rfl, ((((Keep.refl h0 [a]).ext x_e).wr Wp1 (Or.inl (by simp))).ext x_f).wr Wp2 (Or.inl (by simp)), Or.inl ⟨fun c hc => by simp at hc, E3, C3, b_e, V3, Y3⟩⟩) (by decide) (by decide)
  · skip
    have hpos : 0 < cs.length := List.length_pos_iff.mpr q
    replace c := c.ifT 27 d_si4_5 (own_if_ne_t (fun e => by have := own_inj (n := 0) e hlen (by decide); omega))
    obtain ⟨z, hz, hz0⟩ := hG.2.2.1
    replace c := c.getS 30 d_si4_27 (hG.1 _ (List.mem_of_getElem? (i := 43) rfl)) hz
    replace c := c.ifF 33 d_si4_30 (own_if_eq_f hz0)
    replace c := c.aloadN 34 d_si4_33 rfl rfl
    replace c := c.iloadN 35 d_si4_34 rfl
    replace c := c.iloadN 36 d_si4_35 rfl
    obtain ⟨v, h1, sf, ⟨b, rfl, s_b, K1, hb⟩, c⟩ := c.callS (y := y_cmp3) (argsL := [.ref ca, .int 0, .int (Int32.ofNat cs.length)]) (rest := []) 39 d_si4_36 (con_cmp3 hG hN Y) rfl (hG.1 _ (List.mem_of_getElem? (i := 49) rfl)) (hG.1 _ (List.mem_of_getElem? (i := 50) rfl)) (hG.1 _ (List.mem_of_getElem? (i := 51) rfl)) (hG.1 _ (List.mem_of_getElem? (i := 52) rfl)) (lenOf pd_4 rfl) (by simp) (W := 0) rfl (by decide) (by decide) (by decide) (by decide)
    replace c := c [] (by simp)
    replace c : OAt G K M_si4 [a] 2 18 h1 39 #[.val (.ref a), .val (.ref ca), .val (.int 0), .val (.int (Int32.ofNat cs.length)), .val (.null), .unset] [.ref b] := c
    replace c := c.astore 41 d_si4_39 rfl #[.val (.ref a), .val (.ref ca), .val (.int 0), .val (.int (Int32.ofNat cs.length)), .val (.null), .val (.ref b)] rfl
    replace c := c.aloadN 42 d_si4_41 rfl rfl
    replace c := c.aload 44 d_si4_42 rfl rfl
    replace c := c.iloadN 45 d_si4_44 rfl
    have ca1 : a < h0.size := E.lt
    obtain ⟨co, vs, hco, Y1, hn, hst⟩ : ∃ (co : Int32) (vs : List Value), (Jvm.Free.XT.ushr (Int32.ofNat cs.length - Int32.ofNat vs.length) 31).toInt8.toInt32 = co ∧ Ary G.Z h1 b .byte vs ∧ (co = 0 ∨ co = 1) ∧ ∀ h2 : Heap, StrB G.Z h2 a co vs → Str G.Z h2 a cs := by
      rcases hb with ⟨la, D⟩ | ⟨chs, big, D⟩
      · exact ⟨0, _, by rw [encL_len, Int32.sub_self]; decide, D, Or.inl rfl, fun h2 q => Or.inl ⟨la, q⟩⟩
      · exact ⟨1, _, by rw [encU_len]; exact own_cod1 hpos (by omega), D, Or.inr rfl, fun h2 q => Or.inr ⟨chs, big, q⟩⟩
    obtain ⟨v, h2, sf, ⟨rfl, hh⟩, c⟩ := c.callS (y := y_cod) (argsL := [.ref b, .int (Int32.ofNat cs.length)]) (rest := [.ref a]) 48 d_si4_45 (con_cod hG Y1 hco (by rcases hn with rfl | rfl <;> rfl)) rfl (hG.1 _ (List.mem_of_getElem? (i := 56) rfl)) (hG.1 _ (List.mem_of_getElem? (i := 57) rfl)) (hG.1 _ (List.mem_of_getElem? (i := 51) rfl)) (hG.1 _ (List.mem_of_getElem? (i := 58) rfl)) (lenOf pd_6 rfl) (by simp) (W := 1) rfl (by decide) (by decide) (by decide) (by decide)
    rw [hh] at c
    replace c := c [] (by simp)
    replace c : OAt G K M_si4 [a] 2 18 h1 48 #[.val (.ref a), .val (.ref ca), .val (.int 0), .val (.int (Int32.ofNat cs.length)), .val (.null), .val (.ref b)] [.int co, .ref a] := c
    have nb : b ≠ a := Nat.ne_of_gt (Nat.lt_of_lt_of_le ca1 s_b)
    have E1 := E.keep K1
    have C1 := C0.keep K1 nin0
    have V1 := V.keep K1 nin0
    have fco : fits .byte (.int co) = true ∧ narrow .byte (.int co) = .int co := by rcases hn with rfl | rfl <;> exact ⟨rfl, rfl⟩
    obtain ⟨hp3, Wp3, c⟩ := c.putF (C := "java/lang/String") (O := "java/lang/String") (n := "coder") (d := "B") (ty := .byte) 51 d_si4_48 (hG.1 _ (List.mem_of_getElem? (i := 31) rfl)) C1 E1 (Or.inr ⟨(hG.1 _ (List.mem_of_getElem? (i := 27) rfl)), rfl, rfl⟩) (hG.1 _ (List.mem_of_getElem? (i := 11) rfl)) (by decide) fco.2 fco.1 ha (Or.inl (by simp))
    have E2 := E1.wr Wp3
    have C2 := C1.same Wp3
    have V2 := V1.other Wp3 (Or.inr sne)
    have Y2 := Y1.other Wp3 nb
    replace c := c.aloadN 52 d_si4_51 rfl rfl
    replace c := c.aload 54 d_si4_52 rfl rfl
    obtain ⟨hp4, Wp4, c⟩ := c.putF (C := "java/lang/String") (O := "java/lang/String") (n := "value") (d := "[B") (ty := (.array .byte)) 57 d_si4_54 (hG.1 _ (List.mem_of_getElem? (i := 30) rfl)) V2 E2 (Or.inr ⟨(hG.1 _ (List.mem_of_getElem? (i := 26) rfl)), rfl, rfl⟩) (hG.1 _ (List.mem_of_getElem? (i := 11) rfl)) (by decide) rfl (by first | rfl | decide) ha (Or.inl (by simp))
    have E3 := E2.wr Wp4
    have C3 := C2.other Wp4 (Or.inr sne.symm)
    have V3 := V2.same Wp4
    have Y3 := Y2.other Wp4 nb
    exact c.ret d_si4_57 rfl (fun sf hs => ⟨rfl, (((Keep.refl h0 [a]).trans K1 (fun x hx => by cases hx)).wr Wp3 (Or.inl (by simp))).wr Wp4 (Or.inl (by simp)), hst _ ⟨E3, C3, b, V3, Y3⟩⟩) (by decide) (by decide)
abbrev y_si1 : MethodName := ⟨"java/lang/String", "<init>", "([C)V"⟩
theorem pd_7 : parseMethodDescriptor "([CIILjava/lang/Void;)V" = some ⟨[(.array .char), .int, .int, (.object "java/lang/Void")], none⟩ := by decide +kernel
theorem d_si1_0 : decode jdk_42_method_3_code 0 = .ok (.aload_n 0, 1) := by decide +kernel
theorem d_si1_1 : decode jdk_42_method_3_code 1 = .ok (.aload_n 1, 1) := by decide +kernel
theorem d_si1_2 : decode jdk_42_method_3_code 2 = .ok (.iconst 0, 1) := by decide +kernel
theorem d_si1_3 : decode jdk_42_method_3_code 3 = .ok (.aload_n 1, 1) := by decide +kernel
theorem d_si1_4 : decode jdk_42_method_3_code 4 = .ok (.arraylength, 1) := by decide +kernel
theorem d_si1_5 : decode jdk_42_method_3_code 5 = .ok (.aconst_null, 1) := by decide +kernel
theorem d_si1_6 : decode jdk_42_method_3_code 6 = .ok (.invokespecial 27, 3) := by decide +kernel
theorem d_si1_9 : decode jdk_42_method_3_code 9 = .ok (.return_, 1) := by decide +kernel
abbrev rm_si1 : Room := { frames := 5, cells := 4, slots := 18, locals := 74 }
abbrev M_si1 : Mx := (jdk_42_method_3_code, y_si1.cls, none, y_si1.name, 2, rm_si1)
theorem ef_si1 (m : MethodId) (x0 : Addr) (x1 : Addr) : entryFrame m #[.ref x0, .ref x1] 2 = mkF m 0 #[.val (.ref x0), .val (.ref x1)] [] := by first | (simp [entryFrame, mkF, argsToLocals, Value.category]; done) | rfl
set_option maxRecDepth 65536 in
set_option maxHeartbeats 4000000 in
theorem con_si1 {G : Gx} (hG : OGood G) {h0 : Heap} {a ca : Addr} {cs : List Int32} (hN : cs.length ≤ 6) (ha : G.n0 ≤ a) (E : Exa G.Z h0 a "java/lang/String") (V : Fld G.Z h0 a "java/lang/String" "value" "[B" .null) (C0 : Fld G.Z h0 a "java/lang/String" "coder" "B" (.int 0)) (Y : Ary G.Z h0 ca .char (cs.map Value.int)) : OCon G y_si1 jdk_42_method_3_code 2 none [] rm_si1 #[.ref a, .ref ca] [a] h0 (fun v h' _ => v = none ∧ Keep h0 h' [a] ∧ Str G.Z h' a cs) := by
  refine OCon.intro pn_1 (own_ew hG) #[.val (.ref a), .val (.ref ca)] (fun m => ef_si1 m a ca) ?_
  intro K c
  replace c : OAt G K M_si1 [a] 0 0 h0 0 #[.val (.ref a), .val (.ref ca)] [] := c
  replace c := c.aloadN 1 d_si1_0 rfl rfl
  replace c := c.aloadN 2 d_si1_1 rfl rfl
  replace c := c.iconst 3 d_si1_2 0 (by decide)
  replace c := c.aloadN 4 d_si1_3 rfl rfl
  replace c := c.arrlen 5 d_si1_4 Y (Int32.ofNat cs.length) (by simp)
  replace c := c.aconstNull 6 d_si1_5
  obtain ⟨v, h1, sf, ⟨rfl, K1, S1⟩, c⟩ := c.callI (y := y_si4) (a := a) (argsL := [.ref ca, .int 0, .int (Int32.ofNat cs.length), .null]) (rest := []) 9 d_si1_6 (con_si4 hG hN ha E V C0 Y) rfl (hG.1 _ (List.mem_of_getElem? (i := 17) rfl)) (hG.1 _ (List.mem_of_getElem? (i := 18) rfl)) (hG.1 _ (List.mem_of_getElem? (i := 12) rfl)) (hG.1 _ (List.mem_of_getElem? (i := 20) rfl)) (lenOf pd_7 rfl) (by simp) (W := 0) rfl (by decide) (by decide) (by decide) (by decide)
  replace c := c [] (by simp)
  replace c : OAt G K M_si1 [a] 4 18 h1 9 #[.val (.ref a), .val (.ref ca)] [] := c
  exact c.ret d_si1_9 rfl (fun sf hs => ⟨rfl, K1, S1⟩) (by decide) (by decide)
abbrev y_sl1eq : MethodName := ⟨"java/lang/StringLatin1", "equals", "([B[B)Z"⟩
abbrev Q_sl1eq (h0 : Heap) (us vs : List Int32) : Option Value → Heap → (Addr → Prop) → Prop := fun v h' _ => v = some (.int (if us = vs then 1 else 0)) ∧ h' = h0
theorem pn_2 : plainName "java/lang/StringLatin1" = true := by first | (simp [plainName, overriddenIn]; done) | decide +kernel
theorem d_sl1eq_0 : decode jdk_43_method_13_code 0 = .ok (.aload_n 0, 1) := by decide +kernel
theorem d_sl1eq_1 : decode jdk_43_method_13_code 1 = .ok (.arraylength, 1) := by decide +kernel
theorem d_sl1eq_2 : decode jdk_43_method_13_code 2 = .ok (.aload_n 1, 1) := by decide +kernel
theorem d_sl1eq_3 : decode jdk_43_method_13_code 3 = .ok (.arraylength, 1) := by decide +kernel
theorem d_sl1eq_4 : decode jdk_43_method_13_code 4 = .ok (.if_icmp .ne 30, 3) := by decide +kernel
theorem d_sl1eq_7 : decode jdk_43_method_13_code 7 = .ok (.iconst 0, 1) := by decide +kernel
theorem d_sl1eq_8 : decode jdk_43_method_13_code 8 = .ok (.istore_n 2, 1) := by decide +kernel
theorem d_sl1eq_9 : decode jdk_43_method_13_code 9 = .ok (.iload_n 2, 1) := by decide +kernel
theorem d_sl1eq_10 : decode jdk_43_method_13_code 10 = .ok (.aload_n 0, 1) := by decide +kernel
theorem d_sl1eq_11 : decode jdk_43_method_13_code 11 = .ok (.arraylength, 1) := by decide +kernel
theorem d_sl1eq_12 : decode jdk_43_method_13_code 12 = .ok (.if_icmp .ge 20, 3) := by decide +kernel
theorem d_sl1eq_15 : decode jdk_43_method_13_code 15 = .ok (.aload_n 0, 1) := by decide +kernel
theorem d_sl1eq_16 : decode jdk_43_method_13_code 16 = .ok (.iload_n 2, 1) := by decide +kernel
theorem d_sl1eq_17 : decode jdk_43_method_13_code 17 = .ok (.baload, 1) := by decide +kernel
theorem d_sl1eq_18 : decode jdk_43_method_13_code 18 = .ok (.aload_n 1, 1) := by decide +kernel
theorem d_sl1eq_19 : decode jdk_43_method_13_code 19 = .ok (.iload_n 2, 1) := by decide +kernel
theorem d_sl1eq_20 : decode jdk_43_method_13_code 20 = .ok (.baload, 1) := by decide +kernel
theorem d_sl1eq_21 : decode jdk_43_method_13_code 21 = .ok (.if_icmp .eq 5, 3) := by decide +kernel
theorem d_sl1eq_24 : decode jdk_43_method_13_code 24 = .ok (.iconst 0, 1) := by decide +kernel
theorem d_sl1eq_25 : decode jdk_43_method_13_code 25 = .ok (.ireturn, 1) := by decide +kernel
theorem d_sl1eq_26 : decode jdk_43_method_13_code 26 = .ok (.iinc 2 1, 3) := by decide +kernel
theorem d_sl1eq_29 : decode jdk_43_method_13_code 29 = .ok (.goto (-20), 3) := by decide +kernel
theorem d_sl1eq_32 : decode jdk_43_method_13_code 32 = .ok (.iconst 1, 1) := by decide +kernel
theorem d_sl1eq_33 : decode jdk_43_method_13_code 33 = .ok (.ireturn, 1) := by decide +kernel
theorem d_sl1eq_34 : decode jdk_43_method_13_code 34 = .ok (.iconst 0, 1) := by decide +kernel
theorem d_sl1eq_35 : decode jdk_43_method_13_code 35 = .ok (.ireturn, 1) := by decide +kernel
abbrev rm_sl1eq : Room := { frames := 0, cells := 0, slots := 0, locals := 0 }
abbrev M_sl1eq : Mx := (jdk_43_method_13_code, y_sl1eq.cls, (some .boolean), y_sl1eq.name, 3, rm_sl1eq)
theorem ef_sl1eq (m : MethodId) (x0 : Addr) (x1 : Addr) : entryFrame m #[.ref x0, .ref x1] 3 = mkF m 0 #[.val (.ref x0), .val (.ref x1), .unset] [] := by first | (simp [entryFrame, mkF, argsToLocals, Value.category]; done) | rfl
set_option maxRecDepth 65536 in
set_option maxHeartbeats 4000000 in
theorem con_sl1eq {G : Gx} (hG : OGood G) {h0 : Heap} {b1 b2 : Addr} {us vs : List Int32} (Y1 : Ary G.Z h0 b1 .byte (us.map Value.int)) (Y2 : Ary G.Z h0 b2 .byte (vs.map Value.int)) : OCon G y_sl1eq jdk_43_method_13_code 3 (some .boolean) [] rm_sl1eq #[.ref b1, .ref b2] [] h0 (Q_sl1eq h0 us vs) := by
  refine OCon.intro pn_2 (own_ew hG) #[.val (.ref b1), .val (.ref b2), .unset] (fun m => ef_sl1eq m b1 b2) ?_
  intro K c
  replace c : OAt G K M_sl1eq [] 0 0 h0 0 #[.val (.ref b1), .val (.ref b2), .unset] [] := c
  have l1 : us.length < 2147483648 := by simpa using Y1.len
  have l2 : vs.length < 2147483648 := by simpa using Y2.len
  replace c := c.aloadN 1 d_sl1eq_0 rfl rfl
  replace c := c.arrlen 2 d_sl1eq_1 Y1 (Int32.ofNat us.length) (by simp)
  replace c := c.aloadN 3 d_sl1eq_2 rfl rfl
  replace c := c.arrlen 4 d_sl1eq_3 Y2 (Int32.ofNat vs.length) (by simp)
  by_cases q : us.length = vs.length
  · skip
    replace c := c.icF 7 d_sl1eq_4 (own_ic_ne_f (by rw [q]))
    replace c := c.iconst 8 d_sl1eq_7 0 (by decide)
    replace c := c.istoreN 9 d_sl1eq_8 #[.val (.ref b1), .val (.ref b2), .val (.int 0)] rfl
    have loop : ∀ (r i : Nat), i + r = us.length → us.take i = vs.take i → OAt G K M_sl1eq [] 0 0 h0 9 #[.val (.ref b1), .val (.ref b2), .val (.int (Int32.ofNat i))] [] → ODone G K rm_sl1eq (Q_sl1eq h0 us vs) := by
      intro r
      induction r with
      | zero =>
        intro i hi ht c
        replace c := c.iloadN 10 d_sl1eq_9 rfl
        replace c := c.aloadN 11 d_sl1eq_10 rfl rfl
        replace c := c.arrlen 12 d_sl1eq_11 Y1 (Int32.ofNat us.length) (by simp)
        replace c := c.icT 32 d_sl1eq_12 (own_ic_ge_t (own_nlt (by omega) (by omega)))
        replace c := c.iconst 33 d_sl1eq_32 1 (by decide)
        have hq : us = vs := by rw [List.take_of_length_le (by omega), List.take_of_length_le (by omega)] at ht; exact ht
        exact c.reti (t := .boolean) d_sl1eq_33 rfl rfl (by simp) (fun sf hs => ⟨by rw [if_pos hq], rfl⟩) (by decide) (by decide)
      | succ r ih =>
        intro i hi ht c
        obtain ⟨x, hx⟩ : ∃ x, us[i]? = some x := ⟨us[i], List.getElem?_eq_getElem (by omega)⟩
        obtain ⟨y, hy⟩ : ∃ y, vs[i]? = some y := ⟨vs[i], List.getElem?_eq_getElem (by omega)⟩
        replace c := c.iloadN 10 d_sl1eq_9 rfl
        replace c := c.aloadN 11 d_sl1eq_10 rfl rfl
        replace c := c.arrlen 12 d_sl1eq_11 Y1 (Int32.ofNat us.length) (by simp)
        replace c := c.icF 15 d_sl1eq_12 (own_ic_ge_f (own_lt (by omega) (by omega)))
        replace c := c.aloadN 16 d_sl1eq_15 rfl rfl
        replace c := c.iloadN 17 d_sl1eq_16 rfl
        replace c := c.baload 18 d_sl1eq_17 Y1 (i) rfl (.int x) (by simp [hx])
        replace c := c.aloadN 19 d_sl1eq_18 rfl rfl
        replace c := c.iloadN 20 d_sl1eq_19 rfl
        replace c := c.baload 21 d_sl1eq_20 Y2 (i) rfl (.int y) (by simp [hy])
        by_cases e : x = y
        · skip
          replace c := c.icT 26 d_sl1eq_21 (own_ic_eq_t e)
          replace c := c.iinc 29 d_sl1eq_26 rfl (Int32.ofNat (i + 1)) (own_succ i) #[.val (.ref b1), .val (.ref b2), .val (.int (Int32.ofNat (i + 1)))] rfl
          replace c := c.goto 9 d_sl1eq_29
          exact ih (i + 1) (by omega) (by rw [List.take_add_one, List.take_add_one, ht, hx, hy, e]) c
        · skip
          replace c := c.icF 24 d_sl1eq_21 (own_ic_eq_f e)
          replace c := c.iconst 25 d_sl1eq_24 0 (by decide)
          have hq : ¬ us = vs := fun q' => e (by rw [q', hy] at hx; exact (Option.some.inj hx).symm)
          exact c.reti (t := .boolean) d_sl1eq_25 rfl rfl (by simp) (fun sf hs => ⟨by rw [if_neg hq], rfl⟩) (by decide) (by decide)
    exact loop us.length 0 (by omega) rfl c
  · skip
    replace c := c.icT 34 d_sl1eq_4 (own_ic_ne_t (fun e => q (own_inj e l1 l2)))
    replace c := c.iconst 35 d_sl1eq_34 0 (by decide)
    have hq : ¬ us = vs := fun q' => q (by rw [q'])
    exact c.reti (t := .boolean) d_sl1eq_35 rfl rfl (by simp) (fun sf hs => ⟨by rw [if_neg hq], rfl⟩) (by decide) (by decide)
abbrev y_seq : MethodName := ⟨"java/lang/String", "equals", "(Ljava/lang/Object;)Z"⟩
theorem pd_8 : parseMethodDescriptor "([B[B)Z" = some ⟨[(.array .byte), (.array .byte)], some .boolean⟩ := by decide +kernel
theorem d_seq_0 : decode jdk_42_method_66_code 0 = .ok (.aload_n 0, 1) := by decide +kernel
theorem d_seq_1 : decode jdk_42_method_66_code 1 = .ok (.aload_n 1, 1) := by decide +kernel
theorem d_seq_2 : decode jdk_42_method_66_code 2 = .ok (.if_acmp .ne 5, 3) := by decide +kernel
theorem d_seq_5 : decode jdk_42_method_66_code 5 = .ok (.iconst 1, 1) := by decide +kernel
theorem d_seq_6 : decode jdk_42_method_66_code 6 = .ok (.ireturn, 1) := by decide +kernel
theorem d_seq_7 : decode jdk_42_method_66_code 7 = .ok (.aload_n 1, 1) := by decide +kernel
theorem d_seq_8 : decode jdk_42_method_66_code 8 = .ok (.instanceof 10, 3) := by decide +kernel
theorem d_seq_11 : decode jdk_42_method_66_code 11 = .ok (.ifCond .eq 43, 3) := by decide +kernel
theorem d_seq_14 : decode jdk_42_method_66_code 14 = .ok (.aload_n 1, 1) := by decide +kernel
theorem d_seq_15 : decode jdk_42_method_66_code 15 = .ok (.checkcast 10, 3) := by decide +kernel
theorem d_seq_18 : decode jdk_42_method_66_code 18 = .ok (.astore_n 2, 1) := by decide +kernel
theorem d_seq_19 : decode jdk_42_method_66_code 19 = .ok (.getstatic 38, 3) := by decide +kernel
theorem d_seq_22 : decode jdk_42_method_66_code 22 = .ok (.ifCond .eq 14, 3) := by decide +kernel
theorem d_seq_25 : decode jdk_42_method_66_code 25 = .ok (.aload_n 0, 1) := by decide +kernel
theorem d_seq_26 : decode jdk_42_method_66_code 26 = .ok (.getfield 15, 3) := by decide +kernel
theorem d_seq_29 : decode jdk_42_method_66_code 29 = .ok (.aload_n 2, 1) := by decide +kernel
theorem d_seq_30 : decode jdk_42_method_66_code 30 = .ok (.getfield 15, 3) := by decide +kernel
theorem d_seq_33 : decode jdk_42_method_66_code 33 = .ok (.if_icmp .ne 21, 3) := by decide +kernel
theorem d_seq_36 : decode jdk_42_method_66_code 36 = .ok (.aload_n 0, 1) := by decide +kernel
theorem d_seq_37 : decode jdk_42_method_66_code 37 = .ok (.getfield 9, 3) := by decide +kernel
theorem d_seq_40 : decode jdk_42_method_66_code 40 = .ok (.aload_n 2, 1) := by decide +kernel
theorem d_seq_41 : decode jdk_42_method_66_code 41 = .ok (.getfield 9, 3) := by decide +kernel
theorem d_seq_44 : decode jdk_42_method_66_code 44 = .ok (.invokestatic 541, 3) := by decide +kernel
theorem d_seq_47 : decode jdk_42_method_66_code 47 = .ok (.ifCond .eq 7, 3) := by decide +kernel
theorem d_seq_50 : decode jdk_42_method_66_code 50 = .ok (.iconst 1, 1) := by decide +kernel
theorem d_seq_51 : decode jdk_42_method_66_code 51 = .ok (.goto 4, 3) := by decide +kernel
theorem d_seq_54 : decode jdk_42_method_66_code 54 = .ok (.iconst 0, 1) := by decide +kernel
theorem d_seq_55 : decode jdk_42_method_66_code 55 = .ok (.ireturn, 1) := by decide +kernel
abbrev rm_seq : Room := { frames := 1, cells := 0, slots := 0, locals := 14 }
abbrev M_seq : Mx := (jdk_42_method_66_code, y_seq.cls, (some .boolean), y_seq.name, 3, rm_seq)
theorem ef_seq (m : MethodId) (x0 : Addr) (x1 : Addr) : entryFrame m #[.ref x0, .ref x1] 3 = mkF m 0 #[.val (.ref x0), .val (.ref x1), .unset] [] := by first | (simp [entryFrame, mkF, argsToLocals, Value.category]; done) | rfl
set_option maxRecDepth 65536 in
set_option maxHeartbeats 4000000 in
theorem con_seq {G : Gx} (hG : OGood G) {h0 : Heap} {a b : Addr} {xs ys : List Int32} (S1 : Str G.Z h0 a xs) (S2 : Str G.Z h0 b ys) : OCon G y_seq jdk_42_method_66_code 3 (some .boolean) [] rm_seq #[.ref a, .ref b] [] h0 (fun v h' _ => v = some (.int (if xs = ys then 1 else 0)) ∧ h' = h0) := by
  refine OCon.intro pn_1 (own_ew hG) #[.val (.ref a), .val (.ref b), .unset] (fun m => ef_seq m a b) ?_
  intro K c
  replace c : OAt G K M_seq [] 0 0 h0 0 #[.val (.ref a), .val (.ref b), .unset] [] := c
  replace c := c.aloadN 1 d_seq_0 rfl rfl
  replace c := c.aloadN 2 d_seq_1 rfl rfl
  by_cases q : a = b
  · subst q
    replace c := c.acF 5 d_seq_2 rfl rfl (by simp [Jvm.Free.XT.acmp])
    replace c := c.iconst 6 d_seq_5 1 (by decide)
    have hq := S1.inj S2
    exact c.reti (t := .boolean) d_seq_6 rfl rfl (by simp) (fun sf hs => ⟨by rw [if_pos hq], rfl⟩) (by decide) (by decide)
  · skip
    replace c := c.acT 7 d_seq_2 rfl rfl (by simp [Jvm.Free.XT.acmp, q])
    replace c := c.aloadN 8 d_seq_7 rfl rfl
    obtain ⟨co1, us, ⟨E1, C1, b1, V1, Y1⟩, inj1⟩ := own_strE S1
    obtain ⟨co2, vs, ⟨E2, C2, b2, V2, Y2⟩, inj2⟩ := own_strE S2
    have hcmp := own_strC inj1 inj2
    replace c := c.inst1 11 d_seq_8 (hG.1 _ (List.mem_of_getElem? (i := 42) rfl)) (Ins.self E2)
    replace c := c.ifF 14 d_seq_11 (own_if_eq_f (by decide))
    replace c := c.aloadN 15 d_seq_14 rfl rfl
    replace c := c.cast 18 d_seq_15 (hG.1 _ (List.mem_of_getElem? (i := 42) rfl)) (Ins.self E2)
    replace c := c.astoreN 19 d_seq_18 rfl #[.val (.ref a), .val (.ref b), .val (.ref b)] rfl
    obtain ⟨z, hz, hz0⟩ := hG.2.2.1
    replace c := c.getS 22 d_seq_19 (hG.1 _ (List.mem_of_getElem? (i := 43) rfl)) hz
    replace c := c.ifF 25 d_seq_22 (own_if_eq_f hz0)
    replace c := c.aloadN 26 d_seq_25 rfl rfl
    replace c := c.getF 29 d_seq_26 (hG.1 _ (List.mem_of_getElem? (i := 31) rfl)) C1
    replace c := c.aloadN 30 d_seq_29 rfl rfl
    replace c := c.getF 33 d_seq_30 (hG.1 _ (List.mem_of_getElem? (i := 31) rfl)) C2
    by_cases e : co1 = co2
    · skip
      replace c := c.icF 36 d_seq_33 (own_ic_ne_f e)
      replace c := c.aloadN 37 d_seq_36 rfl rfl
      replace c := c.getF 40 d_seq_37 (hG.1 _ (List.mem_of_getElem? (i := 30) rfl)) V1
      replace c := c.aloadN 41 d_seq_40 rfl rfl
      replace c := c.getF 44 d_seq_41 (hG.1 _ (List.mem_of_getElem? (i := 30) rfl)) V2
      obtain ⟨v, h1, sf, ⟨rfl, hh⟩, c⟩ := c.callS (y := y_sl1eq) (argsL := [.ref b1, .ref b2]) (rest := []) 47 d_seq_44 (con_sl1eq hG Y1 Y2) rfl (hG.1 _ (List.mem_of_getElem? (i := 44) rfl)) (hG.1 _ (List.mem_of_getElem? (i := 45) rfl)) (hG.1 _ (List.mem_of_getElem? (i := 46) rfl)) (hG.1 _ (List.mem_of_getElem? (i := 47) rfl)) (lenOf pd_8 rfl) (by simp) (W := 0) rfl (by decide) (by decide) (by decide) (by decide)
      rw [hh] at c
      replace c := c [] (by simp)
      replace c : OAt G K M_seq [] 0 0 h0 47 #[.val (.ref a), .val (.ref b), .val (.ref b)] [.int (if us = vs then 1 else 0)] := c
      by_cases eb : us = vs
      · skip
        replace c := c.ifF 50 d_seq_47 (own_if_eq_f (by rw [if_pos eb]; decide))
        replace c := c.iconst 51 d_seq_50 1 (by decide)
        replace c := c.goto 55 d_seq_51
        exact c.reti (t := .boolean) d_seq_55 rfl rfl (by simp) (fun sf hs => ⟨by rw [if_pos (hcmp.mp ⟨e, eb⟩)], rfl⟩) (by decide) (by decide)
      · skip
        replace c := c.ifT 54 d_seq_47 (own_if_eq_t (by rw [if_neg eb]))
        replace c := c.iconst 55 d_seq_54 0 (by decide)
        exact c.reti (t := .boolean) d_seq_55 rfl rfl (by simp) (fun sf hs => ⟨by rw [if_neg (fun q => eb (hcmp.mpr q).2)], rfl⟩) (by decide) (by decide)
    · skip
      replace c := c.icT 54 d_seq_33 (own_ic_ne_t e)
      replace c := c.iconst 55 d_seq_54 0 (by decide)
      exact c.reti (t := .boolean) d_seq_55 rfl rfl (by simp) (fun sf hs => ⟨by rw [if_neg (fun q => e (hcmp.mpr q).1)], rfl⟩) (by decide) (by decide)
abbrev y_tmpl : MethodName := ⟨"com/example/swac/swac/testfile/TestCaseIsDecisionPinLaw", "tmpl", "(ZI)I"⟩
theorem pn_3 : plainName "com/example/swac/swac/testfile/TestCaseIsDecisionPinLaw" = true := by first | (simp [plainName, overriddenIn]; done) | decide +kernel
theorem d_tmpl_0 : decode method_3_code 0 = .ok (.iload_n 0, 1) := by decide +kernel
theorem d_tmpl_1 : decode method_3_code 1 = .ok (.ifCond .eq 36, 3) := by decide +kernel
theorem d_tmpl_4 : decode method_3_code 4 = .ok (.iload_n 1, 1) := by decide +kernel
theorem d_tmpl_5 : decode method_3_code 5 = .ok (.ifCond .ne 6, 3) := by decide +kernel
theorem d_tmpl_8 : decode method_3_code 8 = .ok (.bipush 100, 2) := by decide +kernel
theorem d_tmpl_10 : decode method_3_code 10 = .ok (.ireturn, 1) := by decide +kernel
theorem d_tmpl_11 : decode method_3_code 11 = .ok (.iload_n 1, 1) := by decide +kernel
theorem d_tmpl_12 : decode method_3_code 12 = .ok (.iconst 1, 1) := by decide +kernel
theorem d_tmpl_13 : decode method_3_code 13 = .ok (.if_icmp .ne 6, 3) := by decide +kernel
theorem d_tmpl_16 : decode method_3_code 16 = .ok (.bipush 101, 2) := by decide +kernel
theorem d_tmpl_18 : decode method_3_code 18 = .ok (.ireturn, 1) := by decide +kernel
theorem d_tmpl_19 : decode method_3_code 19 = .ok (.iload_n 1, 1) := by decide +kernel
theorem d_tmpl_20 : decode method_3_code 20 = .ok (.iconst 2, 1) := by decide +kernel
theorem d_tmpl_21 : decode method_3_code 21 = .ok (.if_icmp .ne 6, 3) := by decide +kernel
theorem d_tmpl_24 : decode method_3_code 24 = .ok (.bipush 110, 2) := by decide +kernel
theorem d_tmpl_26 : decode method_3_code 26 = .ok (.ireturn, 1) := by decide +kernel
theorem d_tmpl_27 : decode method_3_code 27 = .ok (.iload_n 1, 1) := by decide +kernel
theorem d_tmpl_28 : decode method_3_code 28 = .ok (.iconst 3, 1) := by decide +kernel
theorem d_tmpl_29 : decode method_3_code 29 = .ok (.if_icmp .ne 6, 3) := by decide +kernel
theorem d_tmpl_32 : decode method_3_code 32 = .ok (.bipush 121, 2) := by decide +kernel
theorem d_tmpl_34 : decode method_3_code 34 = .ok (.ireturn, 1) := by decide +kernel
theorem d_tmpl_35 : decode method_3_code 35 = .ok (.iconst (-1), 1) := by decide +kernel
theorem d_tmpl_36 : decode method_3_code 36 = .ok (.ireturn, 1) := by decide +kernel
theorem d_tmpl_37 : decode method_3_code 37 = .ok (.iload_n 1, 1) := by decide +kernel
theorem d_tmpl_38 : decode method_3_code 38 = .ok (.ifCond .ne 6, 3) := by decide +kernel
theorem d_tmpl_41 : decode method_3_code 41 = .ok (.bipush 97, 2) := by decide +kernel
theorem d_tmpl_43 : decode method_3_code 43 = .ok (.ireturn, 1) := by decide +kernel
theorem d_tmpl_44 : decode method_3_code 44 = .ok (.iload_n 1, 1) := by decide +kernel
theorem d_tmpl_45 : decode method_3_code 45 = .ok (.iconst 1, 1) := by decide +kernel
theorem d_tmpl_46 : decode method_3_code 46 = .ok (.if_icmp .eq 8, 3) := by decide +kernel
theorem d_tmpl_49 : decode method_3_code 49 = .ok (.iload_n 1, 1) := by decide +kernel
theorem d_tmpl_50 : decode method_3_code 50 = .ok (.iconst 2, 1) := by decide +kernel
theorem d_tmpl_51 : decode method_3_code 51 = .ok (.if_icmp .ne 6, 3) := by decide +kernel
theorem d_tmpl_54 : decode method_3_code 54 = .ok (.bipush 108, 2) := by decide +kernel
theorem d_tmpl_56 : decode method_3_code 56 = .ok (.ireturn, 1) := by decide +kernel
theorem d_tmpl_57 : decode method_3_code 57 = .ok (.iload_n 1, 1) := by decide +kernel
theorem d_tmpl_58 : decode method_3_code 58 = .ok (.iconst 3, 1) := by decide +kernel
theorem d_tmpl_59 : decode method_3_code 59 = .ok (.if_icmp .ne 6, 3) := by decide +kernel
theorem d_tmpl_62 : decode method_3_code 62 = .ok (.bipush 111, 2) := by decide +kernel
theorem d_tmpl_64 : decode method_3_code 64 = .ok (.ireturn, 1) := by decide +kernel
theorem d_tmpl_65 : decode method_3_code 65 = .ok (.iload_n 1, 1) := by decide +kernel
theorem d_tmpl_66 : decode method_3_code 66 = .ok (.iconst 4, 1) := by decide +kernel
theorem d_tmpl_67 : decode method_3_code 67 = .ok (.if_icmp .ne 6, 3) := by decide +kernel
theorem d_tmpl_70 : decode method_3_code 70 = .ok (.bipush 119, 2) := by decide +kernel
theorem d_tmpl_72 : decode method_3_code 72 = .ok (.ireturn, 1) := by decide +kernel
theorem d_tmpl_73 : decode method_3_code 73 = .ok (.iconst (-1), 1) := by decide +kernel
theorem d_tmpl_74 : decode method_3_code 74 = .ok (.ireturn, 1) := by decide +kernel
abbrev rm_tmpl : Room := { frames := 0, cells := 0, slots := 0, locals := 0 }
abbrev M_tmpl : Mx := (method_3_code, y_tmpl.cls, (some .int), y_tmpl.name, 2, rm_tmpl)
theorem ef_tmpl (m : MethodId) (x0 : Int32) (x1 : Int32) : entryFrame m #[.int x0, .int x1] 2 = mkF m 0 #[.val (.int x0), .val (.int x1)] [] := by first | (simp [entryFrame, mkF, argsToLocals, Value.category]; done) | rfl
set_option maxRecDepth 65536 in
set_option maxHeartbeats 4000000 in
theorem con_tmpl {G : Gx} (hG : OGood G) {h0 : Heap} {d i : Int32} : OCon G y_tmpl method_3_code 2 (some .int) [] rm_tmpl #[.int d, .int i] [] h0 (fun v h' _ => ∃ r, v = some (.int r) ∧ h' = h0) := by
  refine OCon.intro pn_3 (own_ew hG) #[.val (.int d), .val (.int i)] (fun m => ef_tmpl m d i) ?_
  intro K c
  replace c : OAt G K M_tmpl [] 0 0 h0 0 #[.val (.int d), .val (.int i)] [] := c
  replace c := c.iloadN 1 d_tmpl_0 rfl
  by_cases q1 : d = 0
  · skip
    replace c := c.ifT 37 d_tmpl_1 (own_if_eq_t q1)
    replace c := c.iloadN 38 d_tmpl_37 rfl
    by_cases q2 : i = 0
    · skip
      replace c := c.ifF 41 d_tmpl_38 (own_if_ne_f q2)
      replace c := c.bipush 43 d_tmpl_41 97 (by decide)
      exact c.reti (t := .int) d_tmpl_43 rfl rfl (by simp) (fun sf hs => ⟨_, rfl, rfl⟩) (by decide) (by decide)
    · skip
      replace c := c.ifT 44 d_tmpl_38 (own_if_ne_t q2)
      replace c := c.iloadN 45 d_tmpl_44 rfl
      replace c := c.iconst 46 d_tmpl_45 1 (by decide)
      by_cases q3 : i = 1
      · skip
        replace c := c.icT 54 d_tmpl_46 (own_ic_eq_t q3)
        replace c := c.bipush 56 d_tmpl_54 108 (by decide)
        exact c.reti (t := .int) d_tmpl_56 rfl rfl (by simp) (fun sf hs => ⟨_, rfl, rfl⟩) (by decide) (by decide)
      · skip
        replace c := c.icF 49 d_tmpl_46 (own_ic_eq_f q3)
        replace c := c.iloadN 50 d_tmpl_49 rfl
        replace c := c.iconst 51 d_tmpl_50 2 (by decide)
        by_cases q4 : i = 2
        · skip
          replace c := c.icF 54 d_tmpl_51 (own_ic_ne_f q4)
          replace c := c.bipush 56 d_tmpl_54 108 (by decide)
          exact c.reti (t := .int) d_tmpl_56 rfl rfl (by simp) (fun sf hs => ⟨_, rfl, rfl⟩) (by decide) (by decide)
        · skip
          replace c := c.icT 57 d_tmpl_51 (own_ic_ne_t q4)
          replace c := c.iloadN 58 d_tmpl_57 rfl
          replace c := c.iconst 59 d_tmpl_58 3 (by decide)
          by_cases q5 : i = 3
          · skip
            replace c := c.icF 62 d_tmpl_59 (own_ic_ne_f q5)
            replace c := c.bipush 64 d_tmpl_62 111 (by decide)
            exact c.reti (t := .int) d_tmpl_64 rfl rfl (by simp) (fun sf hs => ⟨_, rfl, rfl⟩) (by decide) (by decide)
          · skip
            replace c := c.icT 65 d_tmpl_59 (own_ic_ne_t q5)
            replace c := c.iloadN 66 d_tmpl_65 rfl
            replace c := c.iconst 67 d_tmpl_66 4 (by decide)
            by_cases q6 : i = 4
            · skip
              replace c := c.icF 70 d_tmpl_67 (own_ic_ne_f q6)
              replace c := c.bipush 72 d_tmpl_70 119 (by decide)
              exact c.reti (t := .int) d_tmpl_72 rfl rfl (by simp) (fun sf hs => ⟨_, rfl, rfl⟩) (by decide) (by decide)
            · skip
              replace c := c.icT 73 d_tmpl_67 (own_ic_ne_t q6)
              replace c := c.iconst 74 d_tmpl_73 (-1) (by decide)
              exact c.reti (t := .int) d_tmpl_74 rfl rfl (by simp) (fun sf hs => ⟨_, rfl, rfl⟩) (by decide) (by decide)
  · skip
    replace c := c.ifF 4 d_tmpl_1 (own_if_eq_f q1)
    replace c := c.iloadN 5 d_tmpl_4 rfl
    by_cases q7 : i = 0
    · skip
      replace c := c.ifF 8 d_tmpl_5 (own_if_ne_f q7)
      replace c := c.bipush 10 d_tmpl_8 100 (by decide)
      exact c.reti (t := .int) d_tmpl_10 rfl rfl (by simp) (fun sf hs => ⟨_, rfl, rfl⟩) (by decide) (by decide)
    · skip
      replace c := c.ifT 11 d_tmpl_5 (own_if_ne_t q7)
      replace c := c.iloadN 12 d_tmpl_11 rfl
      replace c := c.iconst 13 d_tmpl_12 1 (by decide)
      by_cases q8 : i = 1
      · skip
        replace c := c.icF 16 d_tmpl_13 (own_ic_ne_f q8)
        replace c := c.bipush 18 d_tmpl_16 101 (by decide)
        exact c.reti (t := .int) d_tmpl_18 rfl rfl (by simp) (fun sf hs => ⟨_, rfl, rfl⟩) (by decide) (by decide)
      · skip
        replace c := c.icT 19 d_tmpl_13 (own_ic_ne_t q8)
        replace c := c.iloadN 20 d_tmpl_19 rfl
        replace c := c.iconst 21 d_tmpl_20 2 (by decide)
        by_cases q9 : i = 2
        · skip
          replace c := c.icF 24 d_tmpl_21 (own_ic_ne_f q9)
          replace c := c.bipush 26 d_tmpl_24 110 (by decide)
          exact c.reti (t := .int) d_tmpl_26 rfl rfl (by simp) (fun sf hs => ⟨_, rfl, rfl⟩) (by decide) (by decide)
        · skip
          replace c := c.icT 27 d_tmpl_21 (own_ic_ne_t q9)
          replace c := c.iloadN 28 d_tmpl_27 rfl
          replace c := c.iconst 29 d_tmpl_28 3 (by decide)
          by_cases q10 : i = 3
          · skip
            replace c := c.icF 32 d_tmpl_29 (own_ic_ne_f q10)
            replace c := c.bipush 34 d_tmpl_32 121 (by decide)
            exact c.reti (t := .int) d_tmpl_34 rfl rfl (by simp) (fun sf hs => ⟨_, rfl, rfl⟩) (by decide) (by decide)
          · skip
            replace c := c.icT 35 d_tmpl_29 (own_ic_ne_t q10)
            replace c := c.iconst 36 d_tmpl_35 (-1) (by decide)
            exact c.reti (t := .int) d_tmpl_36 rfl rfl (by simp) (fun sf hs => ⟨_, rfl, rfl⟩) (by decide) (by decide)
abbrev y_pick : MethodName := ⟨"com/example/swac/swac/testfile/TestCaseIsDecisionPinLaw", "pick", "(IJJZI)C"⟩
theorem pd_9 : parseMethodDescriptor "(ZI)I" = some ⟨[.boolean, .int], some .int⟩ := by decide +kernel
theorem d_pick_0 : decode method_4_code 0 = .ok (.iload 5, 2) := by decide +kernel
theorem d_pick_2 : decode method_4_code 2 = .ok (.iload 6, 2) := by decide +kernel
theorem d_pick_4 : decode method_4_code 4 = .ok (.invokestatic 23, 3) := by decide +kernel
theorem d_pick_7 : decode method_4_code 7 = .ok (.istore 7, 2) := by decide +kernel
theorem d_pick_9 : decode method_4_code 9 = .ok (.iload_n 0, 1) := by decide +kernel
theorem d_pick_10 : decode method_4_code 10 = .ok (.bipush 10, 2) := by decide +kernel
theorem d_pick_12 : decode method_4_code 12 = .ok (.iushr, 1) := by decide +kernel
theorem d_pick_13 : decode method_4_code 13 = .ok (.iconst 1, 1) := by decide +kernel
theorem d_pick_14 : decode method_4_code 14 = .ok (.iand, 1) := by decide +kernel
theorem d_pick_15 : decode method_4_code 15 = .ok (.ifCond .ne 14, 3) := by decide +kernel
theorem d_pick_18 : decode method_4_code 18 = .ok (.iload_n 0, 1) := by decide +kernel
theorem d_pick_19 : decode method_4_code 19 = .ok (.iconst 4, 1) := by decide +kernel
theorem d_pick_20 : decode method_4_code 20 = .ok (.iload 6, 2) := by decide +kernel
theorem d_pick_22 : decode method_4_code 22 = .ok (.iadd, 1) := by decide +kernel
theorem d_pick_23 : decode method_4_code 23 = .ok (.iushr, 1) := by decide +kernel
theorem d_pick_24 : decode method_4_code 24 = .ok (.iconst 1, 1) := by decide +kernel
theorem d_pick_25 : decode method_4_code 25 = .ok (.iand, 1) := by decide +kernel
theorem d_pick_26 : decode method_4_code 26 = .ok (.ifCond .eq 7, 3) := by decide +kernel
theorem d_pick_29 : decode method_4_code 29 = .ok (.iconst 1, 1) := by decide +kernel
theorem d_pick_30 : decode method_4_code 30 = .ok (.goto 4, 3) := by decide +kernel
theorem d_pick_33 : decode method_4_code 33 = .ok (.iconst 0, 1) := by decide +kernel
theorem d_pick_34 : decode method_4_code 34 = .ok (.istore 8, 2) := by decide +kernel
theorem d_pick_36 : decode method_4_code 36 = .ok (.iload 8, 2) := by decide +kernel
theorem d_pick_38 : decode method_4_code 38 = .ok (.ifCond .eq 12, 3) := by decide +kernel
theorem d_pick_41 : decode method_4_code 41 = .ok (.iload 7, 2) := by decide +kernel
theorem d_pick_43 : decode method_4_code 43 = .ok (.ifCond .lt 7, 3) := by decide +kernel
theorem d_pick_46 : decode method_4_code 46 = .ok (.iload 7, 2) := by decide +kernel
theorem d_pick_48 : decode method_4_code 48 = .ok (.i2c, 1) := by decide +kernel
theorem d_pick_49 : decode method_4_code 49 = .ok (.ireturn, 1) := by decide +kernel
theorem d_pick_50 : decode method_4_code 50 = .ok (.iload 6, 2) := by decide +kernel
theorem d_pick_52 : decode method_4_code 52 = .ok (.iconst 4, 1) := by decide +kernel
theorem d_pick_53 : decode method_4_code 53 = .ok (.if_icmp .ge 13, 3) := by decide +kernel
theorem d_pick_56 : decode method_4_code 56 = .ok (.lload_n 1, 1) := by decide +kernel
theorem d_pick_57 : decode method_4_code 57 = .ok (.bipush 16, 2) := by decide +kernel
theorem d_pick_59 : decode method_4_code 59 = .ok (.iload 6, 2) := by decide +kernel
theorem d_pick_61 : decode method_4_code 61 = .ok (.imul, 1) := by decide +kernel
theorem d_pick_62 : decode method_4_code 62 = .ok (.lushr, 1) := by decide +kernel
theorem d_pick_63 : decode method_4_code 63 = .ok (.l2i, 1) := by decide +kernel
theorem d_pick_64 : decode method_4_code 64 = .ok (.i2c, 1) := by decide +kernel
theorem d_pick_65 : decode method_4_code 65 = .ok (.ireturn, 1) := by decide +kernel
theorem d_pick_66 : decode method_4_code 66 = .ok (.lload_n 3, 1) := by decide +kernel
theorem d_pick_67 : decode method_4_code 67 = .ok (.bipush 16, 2) := by decide +kernel
theorem d_pick_69 : decode method_4_code 69 = .ok (.iload 6, 2) := by decide +kernel
theorem d_pick_71 : decode method_4_code 71 = .ok (.iconst 4, 1) := by decide +kernel
theorem d_pick_72 : decode method_4_code 72 = .ok (.isub, 1) := by decide +kernel
theorem d_pick_73 : decode method_4_code 73 = .ok (.imul, 1) := by decide +kernel
theorem d_pick_74 : decode method_4_code 74 = .ok (.lushr, 1) := by decide +kernel
theorem d_pick_75 : decode method_4_code 75 = .ok (.l2i, 1) := by decide +kernel
theorem d_pick_76 : decode method_4_code 76 = .ok (.i2c, 1) := by decide +kernel
theorem d_pick_77 : decode method_4_code 77 = .ok (.ireturn, 1) := by decide +kernel
abbrev rm_pick : Room := { frames := 1, cells := 0, slots := 0, locals := 13 }
abbrev M_pick : Mx := (method_4_code, y_pick.cls, (some .char), y_pick.name, 9, rm_pick)
theorem ef_pick (m : MethodId) (x0 : Int32) (x1 : Int64) (x2 : Int64) (x3 : Int32) (x4 : Int32) : entryFrame m #[.int x0, .long x1, .long x2, .int x3, .int x4] 9 = mkF m 0 #[.val (.int x0), .val (.long x1), .second, .val (.long x2), .second, .val (.int x3), .val (.int x4), .unset, .unset] [] := by first | (simp [entryFrame, mkF, argsToLocals, Value.category]; done) | rfl
set_option maxRecDepth 65536 in
set_option maxHeartbeats 4000000 in
theorem con_pick {G : Gx} (hG : OGood G) {h0 : Heap} {s d i : Int32} {lo hi : Int64} : OCon G y_pick method_4_code 9 (some .char) [] rm_pick #[.int s, .long lo, .long hi, .int d, .int i] [] h0 (fun v h' _ => ∃ ch : Int32, v = some (.int ch) ∧ (0 ≤ ch.toInt ∧ ch.toInt < 65536) ∧ h' = h0) := by
  refine OCon.intro pn_3 (own_ew hG) #[.val (.int s), .val (.long lo), .second, .val (.long hi), .second, .val (.int d), .val (.int i), .unset, .unset] (fun m => ef_pick m s lo hi d i) ?_
  intro K c
  replace c : OAt G K M_pick [] 0 0 h0 0 #[.val (.int s), .val (.long lo), .second, .val (.long hi), .second, .val (.int d), .val (.int i), .unset, .unset] [] := c
  replace c := c.iload 2 d_pick_0 rfl
  replace c := c.iload 4 d_pick_2 rfl
  obtain ⟨v, h1, sf, ⟨t, rfl, hh⟩, c⟩ := c.callS (y := y_tmpl) (argsL := [.int d, .int i]) (rest := []) 7 d_pick_4 (con_tmpl hG) rfl (hG.1 _ (List.mem_of_getElem? (i := 4) rfl)) (hG.1 _ (List.mem_of_getElem? (i := 5) rfl)) (hG.1 _ (List.mem_of_getElem? (i := 2) rfl)) (hG.1 _ (List.mem_of_getElem? (i := 6) rfl)) (lenOf pd_9 rfl) (by simp) (W := 0) rfl (by decide) (by decide) (by decide) (by decide)
  rw [hh] at c
  replace c := c [] (by simp)
  replace c : OAt G K M_pick [] 0 0 h0 7 #[.val (.int s), .val (.long lo), .second, .val (.long hi), .second, .val (.int d), .val (.int i), .unset, .unset] [.int t] := c
  replace c := c.istore 9 d_pick_7 #[.val (.int s), .val (.long lo), .second, .val (.long hi), .second, .val (.int d), .val (.int i), .val (.int t), .unset] rfl
  replace c := c.iloadN 10 d_pick_9 rfl
  replace c := c.bipush 12 d_pick_10 10 (by decide)
  replace c := c.iushr 13 d_pick_12
  replace c := c.iconst 14 d_pick_13 1 (by decide)
  replace c := c.iand 15 d_pick_14
  by_cases q11 : ((Jvm.Free.XT.ushr s 10) &&& 1) = 0
  · skip
    replace c := c.ifF 18 d_pick_15 (own_if_ne_f q11)
    replace c := c.iloadN 19 d_pick_18 rfl
    replace c := c.iconst 20 d_pick_19 4 (by decide)
    replace c := c.iload 22 d_pick_20 rfl
    replace c := c.iadd 23 d_pick_22
    replace c := c.iushr 24 d_pick_23
    replace c := c.iconst 25 d_pick_24 1 (by decide)
    replace c := c.iand 26 d_pick_25
    by_cases q12 : ((Jvm.Free.XT.ushr s (4 + i)) &&& 1) = 0
    · skip
      replace c := c.ifT 33 d_pick_26 (own_if_eq_t q12)
      replace c := c.iconst 34 d_pick_33 0 (by decide)
      replace c := c.istore 36 d_pick_34 #[.val (.int s), .val (.long lo), .second, .val (.long hi), .second, .val (.int d), .val (.int i), .val (.int t), .val (.int 0)] rfl
      replace c := c.iload 38 d_pick_36 rfl
      replace c := c.ifT 50 d_pick_38 (own_if_eq_t (by decide))
      replace c := c.iload 52 d_pick_50 rfl
      replace c := c.iconst 53 d_pick_52 4 (by decide)
      by_cases q13 : i < 4
      · skip
        replace c := c.icF 56 d_pick_53 (own_ic_ge_f q13)
        replace c := c.lloadN 57 d_pick_56 rfl
        replace c := c.bipush 59 d_pick_57 16 (by decide)
        replace c := c.iload 61 d_pick_59 rfl
        replace c := c.imul 62 d_pick_61
        replace c := c.lushr 63 d_pick_62
        replace c := c.l2i 64 d_pick_63
        replace c := c.i2c 65 d_pick_64
        exact c.reti (t := .char) d_pick_65 rfl (by show Value.int _ = _; rw [own_i2c (c_i2c _).2]) (by simp) (fun sf hs => ⟨_, rfl, (c_i2c _).2, rfl⟩) (by decide) (by decide)
      · skip
        replace c := c.icT 66 d_pick_53 (own_ic_ge_t q13)
        replace c := c.lloadN 67 d_pick_66 rfl
        replace c := c.bipush 69 d_pick_67 16 (by decide)
        replace c := c.iload 71 d_pick_69 rfl
        replace c := c.iconst 72 d_pick_71 4 (by decide)
        replace c := c.isub 73 d_pick_72
        replace c := c.imul 74 d_pick_73
        replace c := c.lushr 75 d_pick_74
        replace c := c.l2i 76 d_pick_75
        replace c := c.i2c 77 d_pick_76
        exact c.reti (t := .char) d_pick_77 rfl (by show Value.int _ = _; rw [own_i2c (c_i2c _).2]) (by simp) (fun sf hs => ⟨_, rfl, (c_i2c _).2, rfl⟩) (by decide) (by decide)
    · skip
      replace c := c.ifF 29 d_pick_26 (own_if_eq_f q12)
      replace c := c.iconst 30 d_pick_29 1 (by decide)
      replace c := c.goto 34 d_pick_30
      replace c := c.istore 36 d_pick_34 #[.val (.int s), .val (.long lo), .second, .val (.long hi), .second, .val (.int d), .val (.int i), .val (.int t), .val (.int 1)] rfl
      replace c := c.iload 38 d_pick_36 rfl
      replace c := c.ifF 41 d_pick_38 (own_if_eq_f (by decide))
      replace c := c.iload 43 d_pick_41 rfl
      by_cases q14 : t < 0
      · skip
        replace c := c.ifT 50 d_pick_43 (own_if_lt_t q14)
        replace c := c.iload 52 d_pick_50 rfl
        replace c := c.iconst 53 d_pick_52 4 (by decide)
        by_cases q15 : i < 4
        · skip
          replace c := c.icF 56 d_pick_53 (own_ic_ge_f q15)
          replace c := c.lloadN 57 d_pick_56 rfl
          replace c := c.bipush 59 d_pick_57 16 (by decide)
          replace c := c.iload 61 d_pick_59 rfl
          replace c := c.imul 62 d_pick_61
          replace c := c.lushr 63 d_pick_62
          replace c := c.l2i 64 d_pick_63
          replace c := c.i2c 65 d_pick_64
          exact c.reti (t := .char) d_pick_65 rfl (by show Value.int _ = _; rw [own_i2c (c_i2c _).2]) (by simp) (fun sf hs => ⟨_, rfl, (c_i2c _).2, rfl⟩) (by decide) (by decide)
        · skip
          replace c := c.icT 66 d_pick_53 (own_ic_ge_t q15)
          replace c := c.lloadN 67 d_pick_66 rfl
          replace c := c.bipush 69 d_pick_67 16 (by decide)
          replace c := c.iload 71 d_pick_69 rfl
          replace c := c.iconst 72 d_pick_71 4 (by decide)
          replace c := c.isub 73 d_pick_72
          replace c := c.imul 74 d_pick_73
          replace c := c.lushr 75 d_pick_74
          replace c := c.l2i 76 d_pick_75
          replace c := c.i2c 77 d_pick_76
          exact c.reti (t := .char) d_pick_77 rfl (by show Value.int _ = _; rw [own_i2c (c_i2c _).2]) (by simp) (fun sf hs => ⟨_, rfl, (c_i2c _).2, rfl⟩) (by decide) (by decide)
      · skip
        replace c := c.ifF 46 d_pick_43 (own_if_lt_f q14)
        replace c := c.iload 48 d_pick_46 rfl
        replace c := c.i2c 49 d_pick_48
        exact c.reti (t := .char) d_pick_49 rfl (by show Value.int _ = _; rw [own_i2c (c_i2c _).2]) (by simp) (fun sf hs => ⟨_, rfl, (c_i2c _).2, rfl⟩) (by decide) (by decide)
  · skip
    replace c := c.ifT 29 d_pick_15 (own_if_ne_t q11)
    replace c := c.iconst 30 d_pick_29 1 (by decide)
    replace c := c.goto 34 d_pick_30
    replace c := c.istore 36 d_pick_34 #[.val (.int s), .val (.long lo), .second, .val (.long hi), .second, .val (.int d), .val (.int i), .val (.int t), .val (.int 1)] rfl
    replace c := c.iload 38 d_pick_36 rfl
    replace c := c.ifF 41 d_pick_38 (own_if_eq_f (by decide))
    replace c := c.iload 43 d_pick_41 rfl
    by_cases q16 : t < 0
    · skip
      replace c := c.ifT 50 d_pick_43 (own_if_lt_t q16)
      replace c := c.iload 52 d_pick_50 rfl
      replace c := c.iconst 53 d_pick_52 4 (by decide)
      by_cases q17 : i < 4
      · skip
        replace c := c.icF 56 d_pick_53 (own_ic_ge_f q17)
        replace c := c.lloadN 57 d_pick_56 rfl
        replace c := c.bipush 59 d_pick_57 16 (by decide)
        replace c := c.iload 61 d_pick_59 rfl
        replace c := c.imul 62 d_pick_61
        replace c := c.lushr 63 d_pick_62
        replace c := c.l2i 64 d_pick_63
        replace c := c.i2c 65 d_pick_64
        exact c.reti (t := .char) d_pick_65 rfl (by show Value.int _ = _; rw [own_i2c (c_i2c _).2]) (by simp) (fun sf hs => ⟨_, rfl, (c_i2c _).2, rfl⟩) (by decide) (by decide)
      · skip
        replace c := c.icT 66 d_pick_53 (own_ic_ge_t q17)
        replace c := c.lloadN 67 d_pick_66 rfl
        replace c := c.bipush 69 d_pick_67 16 (by decide)
        replace c := c.iload 71 d_pick_69 rfl
        replace c := c.iconst 72 d_pick_71 4 (by decide)
        replace c := c.isub 73 d_pick_72
        replace c := c.imul 74 d_pick_73
        replace c := c.lushr 75 d_pick_74
        replace c := c.l2i 76 d_pick_75
        replace c := c.i2c 77 d_pick_76
        exact c.reti (t := .char) d_pick_77 rfl (by show Value.int _ = _; rw [own_i2c (c_i2c _).2]) (by simp) (fun sf hs => ⟨_, rfl, (c_i2c _).2, rfl⟩) (by decide) (by decide)
    · skip
      replace c := c.ifF 46 d_pick_43 (own_if_lt_f q16)
      replace c := c.iload 48 d_pick_46 rfl
      replace c := c.i2c 49 d_pick_48
      exact c.reti (t := .char) d_pick_49 rfl (by show Value.int _ = _; rw [own_i2c (c_i2c _).2]) (by simp) (fun sf hs => ⟨_, rfl, (c_i2c _).2, rfl⟩) (by decide) (by decide)
abbrev y_text0 : MethodName := ⟨"com/example/swac/swac/testfile/TestCaseIsDecisionPinLaw", "text", "(ICCCCCC)Ljava/lang/String;"⟩
theorem pd_10 : parseMethodDescriptor "([C)V" = some ⟨[(.array .char)], none⟩ := by decide +kernel
theorem d_text0_0 : decode method_5_code 0 = .ok (.iload_n 0, 1) := by decide +kernel
theorem d_text0_1 : decode method_5_code 1 = .ok (.ifCond .ne 14, 3) := by decide +kernel
theorem d_text0_4 : decode method_5_code 4 = .ok (.new 27, 3) := by decide +kernel
theorem d_text0_7 : decode method_5_code 7 = .ok (.dup, 1) := by decide +kernel
theorem d_text0_8 : decode method_5_code 8 = .ok (.iconst 0, 1) := by decide +kernel
theorem d_text0_9 : decode method_5_code 9 = .ok (.newarray .char, 2) := by decide +kernel
theorem d_text0_11 : decode method_5_code 11 = .ok (.invokespecial 29, 3) := by decide +kernel
theorem d_text0_14 : decode method_5_code 14 = .ok (.areturn, 1) := by decide +kernel
abbrev rm_text0 : Room := { frames := 6, cells := 6, slots := 22, locals := 88 }
abbrev M_text0 : Mx := (method_5_code, y_text0.cls, (some (.object "java/lang/String")), y_text0.name, 7, rm_text0)
theorem ef_text0 (m : MethodId) (x0 : Int32) (x1 : Int32) (x2 : Int32) (x3 : Int32) (x4 : Int32) (x5 : Int32) (x6 : Int32) : entryFrame m #[.int x0, .int x1, .int x2, .int x3, .int x4, .int x5, .int x6] 7 = mkF m 0 #[.val (.int x0), .val (.int x1), .val (.int x2), .val (.int x3), .val (.int x4), .val (.int x5), .val (.int x6)] [] := by first | (simp [entryFrame, mkF, argsToLocals, Value.category]; done) | rfl
set_option maxRecDepth 65536 in
set_option maxHeartbeats 4000000 in
theorem con_text0 {G : Gx} (hG : OGood G) {h0 : Heap} {ch0 ch1 ch2 ch3 ch4 ch5 : Int32} (r0 : 0 ≤ ch0.toInt ∧ ch0.toInt < 65536) (r1 : 0 ≤ ch1.toInt ∧ ch1.toInt < 65536) (r2 : 0 ≤ ch2.toInt ∧ ch2.toInt < 65536) (r3 : 0 ≤ ch3.toInt ∧ ch3.toInt < 65536) (r4 : 0 ≤ ch4.toInt ∧ ch4.toInt < 65536) (r5 : 0 ≤ ch5.toInt ∧ ch5.toInt < 65536) : OCon G y_text0 method_5_code 7 (some (.object "java/lang/String")) [] rm_text0 #[.int 0, .int ch0, .int ch1, .int ch2, .int ch3, .int ch4, .int ch5] [] h0 (fun v h' _ => ∃ a, v = some (.ref a) ∧ Keep h0 h' [] ∧ Str G.Z h' a []) := by
  refine OCon.intro pn_3 (own_ew hG) #[.val (.int 0), .val (.int ch0), .val (.int ch1), .val (.int ch2), .val (.int ch3), .val (.int ch4), .val (.int ch5)] (fun m => ef_text0 m 0 ch0 ch1 ch2 ch3 ch4 ch5) ?_
  intro K c
  replace c : OAt G K M_text0 [] 0 0 h0 0 #[.val (.int 0), .val (.int ch0), .val (.int ch1), .val (.int ch2), .val (.int ch3), .val (.int ch4), .val (.int ch5)] [] := c
  replace c := c.iloadN 1 d_text0_0 rfl
  replace c := c.ifF 4 d_text0_1 (own_if_ne_f (by decide))
  obtain ⟨a, h_a, s_a, x_a, g_a, E_a, D_a, U_a, c⟩ := c.newO 7 d_text0_4 (C := "java/lang/String") (hG.1 _ (List.mem_of_getElem? (i := 10) rfl)) (hG.1 _ (List.mem_of_getElem? (i := 11) rfl)) (hG.1 _ (List.mem_of_getElem? (i := 12) rfl)) (by decide) (by decide)
  replace c := c.dup 8 d_text0_7 rfl
  replace c := c.iconst 9 d_text0_8 0 (by decide)
  obtain ⟨ca, h_ca, s_ca, x_ca, g_ca, Y_ca, c⟩ := c.newarr 11 d_text0_9 .char rfl (hG.1 _ (List.mem_of_getElem? (i := 13) rfl)) (0) (by decide) 0 (by decide) (by decide) (by decide) (by decide)
  have na : a ≠ ca := Nat.ne_of_lt (by rw [s_ca]; exact E_a.lt)
  have V0 : Fld G.Z h_a a "java/lang/String" "value" "[B" .null := D_a (Or.inr (hG.1 _ (List.mem_of_getElem? (i := 26) rfl))) (ty := .array .byte) (by decide)
  have C0 : Fld G.Z h_a a "java/lang/String" "coder" "B" (.int 0) := D_a (Or.inr (hG.1 _ (List.mem_of_getElem? (i := 27) rfl))) (ty := .byte) (by decide)
  have hca : h0.size ≤ ca := by rw [s_ca]; exact x_a.1
  obtain ⟨v, h1, sf, ⟨rfl, K1, S1⟩, c⟩ := c.callI (y := y_si1) (a := a) (argsL := [.ref ca]) (rest := [.ref a]) 14 d_text0_11 (con_si1 hG (cs := []) (by simp) g_a (E_a.ext x_ca) (V0.ext x_ca) (C0.ext x_ca) Y_ca) rfl (hG.1 _ (List.mem_of_getElem? (i := 14) rfl)) (hG.1 _ (List.mem_of_getElem? (i := 15) rfl)) (hG.1 _ (List.mem_of_getElem? (i := 12) rfl)) (hG.1 _ (List.mem_of_getElem? (i := 16) rfl)) (lenOf pd_10 rfl) (by simp) (W := 1) rfl (by decide) (by decide) (by decide) (by decide)
  replace c := c [] (by simp)
  replace c : OAt G K M_text0 [ca, a] 6 22 h1 14 #[.val (.int 0), .val (.int ch0), .val (.int ch1), .val (.int ch2), .val (.int ch3), .val (.int ch4), .val (.int ch5)] [.ref a] := c
  exact c.reta (t := (.object "java/lang/String")) d_text0_14 rfl rfl rfl rfl (fun sf hs => ⟨a, rfl, (((Keep.refl h0 []).ext x_a).ext x_ca).trans K1 (fun x hx => by cases List.mem_singleton.mp hx; exact Or.inr (Nat.le_of_eq s_a.symm)), S1⟩) (by decide) (by decide)
abbrev y_text1 : MethodName := ⟨"com/example/swac/swac/testfile/TestCaseIsDecisionPinLaw", "text", "(ICCCCCC)Ljava/lang/String;"⟩
theorem d_text1_0 : decode method_5_code 0 = .ok (.iload_n 0, 1) := by decide +kernel
theorem d_text1_1 : decode method_5_code 1 = .ok (.ifCond .ne 14, 3) := by decide +kernel
theorem d_text1_15 : decode method_5_code 15 = .ok (.iload_n 0, 1) := by decide +kernel
theorem d_text1_16 : decode method_5_code 16 = .ok (.iconst 1, 1) := by decide +kernel
theorem d_text1_17 : decode method_5_code 17 = .ok (.if_icmp .ne 18, 3) := by decide +kernel
theorem d_text1_20 : decode method_5_code 20 = .ok (.new 27, 3) := by decide +kernel
theorem d_text1_23 : decode method_5_code 23 = .ok (.dup, 1) := by decide +kernel
theorem d_text1_24 : decode method_5_code 24 = .ok (.iconst 1, 1) := by decide +kernel
theorem d_text1_25 : decode method_5_code 25 = .ok (.newarray .char, 2) := by decide +kernel
theorem d_text1_27 : decode method_5_code 27 = .ok (.dup, 1) := by decide +kernel
theorem d_text1_28 : decode method_5_code 28 = .ok (.iconst 0, 1) := by decide +kernel
theorem d_text1_29 : decode method_5_code 29 = .ok (.iload_n 1, 1) := by decide +kernel
theorem d_text1_30 : decode method_5_code 30 = .ok (.castore, 1) := by decide +kernel
theorem d_text1_31 : decode method_5_code 31 = .ok (.invokespecial 29, 3) := by decide +kernel
theorem d_text1_34 : decode method_5_code 34 = .ok (.areturn, 1) := by decide +kernel
abbrev rm_text1 : Room := { frames := 6, cells := 6, slots := 23, locals := 88 }
abbrev M_text1 : Mx := (method_5_code, y_text1.cls, (some (.object "java/lang/String")), y_text1.name, 7, rm_text1)
theorem ef_text1 (m : MethodId) (x0 : Int32) (x1 : Int32) (x2 : Int32) (x3 : Int32) (x4 : Int32) (x5 : Int32) (x6 : Int32) : entryFrame m #[.int x0, .int x1, .int x2, .int x3, .int x4, .int x5, .int x6] 7 = mkF m 0 #[.val (.int x0), .val (.int x1), .val (.int x2), .val (.int x3), .val (.int x4), .val (.int x5), .val (.int x6)] [] := by first | (simp [entryFrame, mkF, argsToLocals, Value.category]; done) | rfl
set_option maxRecDepth 65536 in
set_option maxHeartbeats 4000000 in
theorem con_text1 {G : Gx} (hG : OGood G) {h0 : Heap} {ch0 ch1 ch2 ch3 ch4 ch5 : Int32} (r0 : 0 ≤ ch0.toInt ∧ ch0.toInt < 65536) (r1 : 0 ≤ ch1.toInt ∧ ch1.toInt < 65536) (r2 : 0 ≤ ch2.toInt ∧ ch2.toInt < 65536) (r3 : 0 ≤ ch3.toInt ∧ ch3.toInt < 65536) (r4 : 0 ≤ ch4.toInt ∧ ch4.toInt < 65536) (r5 : 0 ≤ ch5.toInt ∧ ch5.toInt < 65536) : OCon G y_text1 method_5_code 7 (some (.object "java/lang/String")) [] rm_text1 #[.int 1, .int ch0, .int ch1, .int ch2, .int ch3, .int ch4, .int ch5] [] h0 (fun v h' _ => ∃ a, v = some (.ref a) ∧ Keep h0 h' [] ∧ Str G.Z h' a [ch0]) := by
  refine OCon.intro pn_3 (own_ew hG) #[.val (.int 1), .val (.int ch0), .val (.int ch1), .val (.int ch2), .val (.int ch3), .val (.int ch4), .val (.int ch5)] (fun m => ef_text1 m 1 ch0 ch1 ch2 ch3 ch4 ch5) ?_
  intro K c
  replace c : OAt G K M_text1 [] 0 0 h0 0 #[.val (.int 1), .val (.int ch0), .val (.int ch1), .val (.int ch2), .val (.int ch3), .val (.int ch4), .val (.int ch5)] [] := c
  replace c := c.iloadN 1 d_text1_0 rfl
  replace c := c.ifT 15 d_text1_1 (own_if_ne_t (by decide))
  replace c := c.iloadN 16 d_text1_15 rfl
  replace c := c.iconst 17 d_text1_16 1 (by decide)
  replace c := c.icF 20 d_text1_17 (own_ic_ne_f (by decide))
  obtain ⟨a, h_a, s_a, x_a, g_a, E_a, D_a, U_a, c⟩ := c.newO 23 d_text1_20 (C := "java/lang/String") (hG.1 _ (List.mem_of_getElem? (i := 10) rfl)) (hG.1 _ (List.mem_of_getElem? (i := 11) rfl)) (hG.1 _ (List.mem_of_getElem? (i := 12) rfl)) (by decide) (by decide)
  replace c := c.dup 24 d_text1_23 rfl
  replace c := c.iconst 25 d_text1_24 1 (by decide)
  obtain ⟨ca, h_ca, s_ca, x_ca, g_ca, Y_ca, c⟩ := c.newarr 27 d_text1_25 .char rfl (hG.1 _ (List.mem_of_getElem? (i := 13) rfl)) (1) (by decide) 1 (by decide) (by decide) (by decide) (by decide)
  have na : a ≠ ca := Nat.ne_of_lt (by rw [s_ca]; exact E_a.lt)
  have V0 : Fld G.Z h_a a "java/lang/String" "value" "[B" .null := D_a (Or.inr (hG.1 _ (List.mem_of_getElem? (i := 26) rfl))) (ty := .array .byte) (by decide)
  have C0 : Fld G.Z h_a a "java/lang/String" "coder" "B" (.int 0) := D_a (Or.inr (hG.1 _ (List.mem_of_getElem? (i := 27) rfl))) (ty := .byte) (by decide)
  replace c := c.dup 28 d_text1_27 rfl
  replace c := c.iconst 29 d_text1_28 0 (by decide)
  replace c := c.iloadN 30 d_text1_29 rfl
  obtain ⟨hs0, Ws0, Ys0, c⟩ := c.castore 31 d_text1_30 Y_ca (0) (by decide) (by simp) g_ca (ch0) (own_narc r0)
  have hca : h0.size ≤ ca := by rw [s_ca]; exact x_a.1
  obtain ⟨v, h1, sf, ⟨rfl, K1, S1⟩, c⟩ := c.callI (y := y_si1) (a := a) (argsL := [.ref ca]) (rest := [.ref a]) 34 d_text1_31 (con_si1 hG (cs := [ch0]) (by simp) g_a ((E_a.ext x_ca).wr Ws0) ((V0.ext x_ca).other Ws0 (Or.inl na)) ((C0.ext x_ca).other Ws0 (Or.inl na)) Ys0) rfl (hG.1 _ (List.mem_of_getElem? (i := 14) rfl)) (hG.1 _ (List.mem_of_getElem? (i := 15) rfl)) (hG.1 _ (List.mem_of_getElem? (i := 12) rfl)) (hG.1 _ (List.mem_of_getElem? (i := 16) rfl)) (lenOf pd_10 rfl) (by simp) (W := 1) rfl (by decide) (by decide) (by decide) (by decide)
  replace c := c [] (by simp)
  replace c : OAt G K M_text1 [ca, a] 6 23 h1 34 #[.val (.int 1), .val (.int ch0), .val (.int ch1), .val (.int ch2), .val (.int ch3), .val (.int ch4), .val (.int ch5)] [.ref a] := c
  exact c.reta (t := (.object "java/lang/String")) d_text1_34 rfl rfl rfl rfl (fun sf hs => ⟨a, rfl, ((((Keep.refl h0 []).ext x_a).ext x_ca).wr Ws0 (Or.inr hca)).trans K1 (fun x hx => by cases List.mem_singleton.mp hx; exact Or.inr (Nat.le_of_eq s_a.symm)), S1⟩) (by decide) (by decide)
abbrev y_text2 : MethodName := ⟨"com/example/swac/swac/testfile/TestCaseIsDecisionPinLaw", "text", "(ICCCCCC)Ljava/lang/String;"⟩
theorem d_text2_0 : decode method_5_code 0 = .ok (.iload_n 0, 1) := by decide +kernel
theorem d_text2_1 : decode method_5_code 1 = .ok (.ifCond .ne 14, 3) := by decide +kernel
theorem d_text2_15 : decode method_5_code 15 = .ok (.iload_n 0, 1) := by decide +kernel
theorem d_text2_16 : decode method_5_code 16 = .ok (.iconst 1, 1) := by decide +kernel
theorem d_text2_17 : decode method_5_code 17 = .ok (.if_icmp .ne 18, 3) := by decide +kernel
theorem d_text2_35 : decode method_5_code 35 = .ok (.iload_n 0, 1) := by decide +kernel
theorem d_text2_36 : decode method_5_code 36 = .ok (.iconst 2, 1) := by decide +kernel
theorem d_text2_37 : decode method_5_code 37 = .ok (.if_icmp .ne 22, 3) := by decide +kernel
theorem d_text2_40 : decode method_5_code 40 = .ok (.new 27, 3) := by decide +kernel
theorem d_text2_43 : decode method_5_code 43 = .ok (.dup, 1) := by decide +kernel
theorem d_text2_44 : decode method_5_code 44 = .ok (.iconst 2, 1) := by decide +kernel
theorem d_text2_45 : decode method_5_code 45 = .ok (.newarray .char, 2) := by decide +kernel
theorem d_text2_47 : decode method_5_code 47 = .ok (.dup, 1) := by decide +kernel
theorem d_text2_48 : decode method_5_code 48 = .ok (.iconst 0, 1) := by decide +kernel
theorem d_text2_49 : decode method_5_code 49 = .ok (.iload_n 1, 1) := by decide +kernel
theorem d_text2_50 : decode method_5_code 50 = .ok (.castore, 1) := by decide +kernel
theorem d_text2_51 : decode method_5_code 51 = .ok (.dup, 1) := by decide +kernel
theorem d_text2_52 : decode method_5_code 52 = .ok (.iconst 1, 1) := by decide +kernel
theorem d_text2_53 : decode method_5_code 53 = .ok (.iload_n 2, 1) := by decide +kernel
theorem d_text2_54 : decode method_5_code 54 = .ok (.castore, 1) := by decide +kernel
theorem d_text2_55 : decode method_5_code 55 = .ok (.invokespecial 29, 3) := by decide +kernel
theorem d_text2_58 : decode method_5_code 58 = .ok (.areturn, 1) := by decide +kernel
abbrev rm_text2 : Room := { frames := 6, cells := 6, slots := 24, locals := 88 }
abbrev M_text2 : Mx := (method_5_code, y_text2.cls, (some (.object "java/lang/String")), y_text2.name, 7, rm_text2)
theorem ef_text2 (m : MethodId) (x0 : Int32) (x1 : Int32) (x2 : Int32) (x3 : Int32) (x4 : Int32) (x5 : Int32) (x6 : Int32) : entryFrame m #[.int x0, .int x1, .int x2, .int x3, .int x4, .int x5, .int x6] 7 = mkF m 0 #[.val (.int x0), .val (.int x1), .val (.int x2), .val (.int x3), .val (.int x4), .val (.int x5), .val (.int x6)] [] := by first | (simp [entryFrame, mkF, argsToLocals, Value.category]; done) | rfl
set_option maxRecDepth 65536 in
set_option maxHeartbeats 4000000 in
theorem con_text2 {G : Gx} (hG : OGood G) {h0 : Heap} {ch0 ch1 ch2 ch3 ch4 ch5 : Int32} (r0 : 0 ≤ ch0.toInt ∧ ch0.toInt < 65536) (r1 : 0 ≤ ch1.toInt ∧ ch1.toInt < 65536) (r2 : 0 ≤ ch2.toInt ∧ ch2.toInt < 65536) (r3 : 0 ≤ ch3.toInt ∧ ch3.toInt < 65536) (r4 : 0 ≤ ch4.toInt ∧ ch4.toInt < 65536) (r5 : 0 ≤ ch5.toInt ∧ ch5.toInt < 65536) : OCon G y_text2 method_5_code 7 (some (.object "java/lang/String")) [] rm_text2 #[.int 2, .int ch0, .int ch1, .int ch2, .int ch3, .int ch4, .int ch5] [] h0 (fun v h' _ => ∃ a, v = some (.ref a) ∧ Keep h0 h' [] ∧ Str G.Z h' a [ch0, ch1]) := by
  refine OCon.intro pn_3 (own_ew hG) #[.val (.int 2), .val (.int ch0), .val (.int ch1), .val (.int ch2), .val (.int ch3), .val (.int ch4), .val (.int ch5)] (fun m => ef_text2 m 2 ch0 ch1 ch2 ch3 ch4 ch5) ?_
  intro K c
  replace c : OAt G K M_text2 [] 0 0 h0 0 #[.val (.int 2), .val (.int ch0), .val (.int ch1), .val (.int ch2), .val (.int ch3), .val (.int ch4), .val (.int ch5)] [] := c
  replace c := c.iloadN 1 d_text2_0 rfl
  replace c := c.ifT 15 d_text2_1 (own_if_ne_t (by decide))
  replace c := c.iloadN 16 d_text2_15 rfl
  replace c := c.iconst 17 d_text2_16 1 (by decide)
  replace c := c.icT 35 d_text2_17 (own_ic_ne_t (by decide))
  replace c := c.iloadN 36 d_text2_35 rfl
  replace c := c.iconst 37 d_text2_36 2 (by decide)
  replace c := c.icF 40 d_text2_37 (own_ic_ne_f (by decide))
  obtain ⟨a, h_a, s_a, x_a, g_a, E_a, D_a, U_a, c⟩ := c.newO 43 d_text2_40 (C := "java/lang/String") (hG.1 _ (List.mem_of_getElem? (i := 10) rfl)) (hG.1 _ (List.mem_of_getElem? (i := 11) rfl)) (hG.1 _ (List.mem_of_getElem? (i := 12) rfl)) (by decide) (by decide)
  replace c := c.dup 44 d_text2_43 rfl
  replace c := c.iconst 45 d_text2_44 2 (by decide)
  obtain ⟨ca, h_ca, s_ca, x_ca, g_ca, Y_ca, c⟩ := c.newarr 47 d_text2_45 .char rfl (hG.1 _ (List.mem_of_getElem? (i := 13) rfl)) (2) (by decide) 2 (by decide) (by decide) (by decide) (by decide)
  have na : a ≠ ca := Nat.ne_of_lt (by rw [s_ca]; exact E_a.lt)
  have V0 : Fld G.Z h_a a "java/lang/String" "value" "[B" .null := D_a (Or.inr (hG.1 _ (List.mem_of_getElem? (i := 26) rfl))) (ty := .array .byte) (by decide)
  have C0 : Fld G.Z h_a a "java/lang/String" "coder" "B" (.int 0) := D_a (Or.inr (hG.1 _ (List.mem_of_getElem? (i := 27) rfl))) (ty := .byte) (by decide)
  replace c := c.dup 48 d_text2_47 rfl
  replace c := c.iconst 49 d_text2_48 0 (by decide)
  replace c := c.iloadN 50 d_text2_49 rfl
  obtain ⟨hs0, Ws0, Ys0, c⟩ := c.castore 51 d_text2_50 Y_ca (0) (by decide) (by simp) g_ca (ch0) (own_narc r0)
  replace c := c.dup 52 d_text2_51 rfl
  replace c := c.iconst 53 d_text2_52 1 (by decide)
  replace c := c.iloadN 54 d_text2_53 rfl
  obtain ⟨hs1, Ws1, Ys1, c⟩ := c.castore 55 d_text2_54 Ys0 (1) (by decide) (by simp) g_ca (ch1) (own_narc r1)
  have hca : h0.size ≤ ca := by rw [s_ca]; exact x_a.1
  obtain ⟨v, h1, sf, ⟨rfl, K1, S1⟩, c⟩ := c.callI (y := y_si1) (a := a) (argsL := [.ref ca]) (rest := [.ref a]) 58 d_text2_55 (con_si1 hG (cs := [ch0, ch1]) (by simp) g_a (((E_a.ext x_ca).wr Ws0).wr Ws1) (((V0.ext x_ca).other Ws0 (Or.inl na)).other Ws1 (Or.inl na)) (((C0.ext x_ca).other Ws0 (Or.inl na)).other Ws1 (Or.inl na)) Ys1) rfl (hG.1 _ (List.mem_of_getElem? (i := 14) rfl)) (hG.1 _ (List.mem_of_getElem? (i := 15) rfl)) (hG.1 _ (List.mem_of_getElem? (i := 12) rfl)) (hG.1 _ (List.mem_of_getElem? (i := 16) rfl)) (lenOf pd_10 rfl) (by simp) (W := 1) rfl (by decide) (by decide) (by decide) (by decide)
  replace c := c [] (by simp)
  replace c : OAt G K M_text2 [ca, a] 6 24 h1 58 #[.val (.int 2), .val (.int ch0), .val (.int ch1), .val (.int ch2), .val (.int ch3), .val (.int ch4), .val (.int ch5)] [.ref a] := c
  exact c.reta (t := (.object "java/lang/String")) d_text2_58 rfl rfl rfl rfl (fun sf hs => ⟨a, rfl, (((((Keep.refl h0 []).ext x_a).ext x_ca).wr Ws0 (Or.inr hca)).wr Ws1 (Or.inr hca)).trans K1 (fun x hx => by cases List.mem_singleton.mp hx; exact Or.inr (Nat.le_of_eq s_a.symm)), S1⟩) (by decide) (by decide)
abbrev y_text3 : MethodName := ⟨"com/example/swac/swac/testfile/TestCaseIsDecisionPinLaw", "text", "(ICCCCCC)Ljava/lang/String;"⟩
theorem d_text3_0 : decode method_5_code 0 = .ok (.iload_n 0, 1) := by decide +kernel
theorem d_text3_1 : decode method_5_code 1 = .ok (.ifCond .ne 14, 3) := by decide +kernel
theorem d_text3_15 : decode method_5_code 15 = .ok (.iload_n 0, 1) := by decide +kernel
theorem d_text3_16 : decode method_5_code 16 = .ok (.iconst 1, 1) := by decide +kernel
theorem d_text3_17 : decode method_5_code 17 = .ok (.if_icmp .ne 18, 3) := by decide +kernel
theorem d_text3_35 : decode method_5_code 35 = .ok (.iload_n 0, 1) := by decide +kernel
theorem d_text3_36 : decode method_5_code 36 = .ok (.iconst 2, 1) := by decide +kernel
theorem d_text3_37 : decode method_5_code 37 = .ok (.if_icmp .ne 22, 3) := by decide +kernel
theorem d_text3_59 : decode method_5_code 59 = .ok (.iload_n 0, 1) := by decide +kernel
theorem d_text3_60 : decode method_5_code 60 = .ok (.iconst 3, 1) := by decide +kernel
theorem d_text3_61 : decode method_5_code 61 = .ok (.if_icmp .ne 26, 3) := by decide +kernel
theorem d_text3_64 : decode method_5_code 64 = .ok (.new 27, 3) := by decide +kernel
theorem d_text3_67 : decode method_5_code 67 = .ok (.dup, 1) := by decide +kernel
theorem d_text3_68 : decode method_5_code 68 = .ok (.iconst 3, 1) := by decide +kernel
theorem d_text3_69 : decode method_5_code 69 = .ok (.newarray .char, 2) := by decide +kernel
theorem d_text3_71 : decode method_5_code 71 = .ok (.dup, 1) := by decide +kernel
theorem d_text3_72 : decode method_5_code 72 = .ok (.iconst 0, 1) := by decide +kernel
theorem d_text3_73 : decode method_5_code 73 = .ok (.iload_n 1, 1) := by decide +kernel
theorem d_text3_74 : decode method_5_code 74 = .ok (.castore, 1) := by decide +kernel
theorem d_text3_75 : decode method_5_code 75 = .ok (.dup, 1) := by decide +kernel
theorem d_text3_76 : decode method_5_code 76 = .ok (.iconst 1, 1) := by decide +kernel
theorem d_text3_77 : decode method_5_code 77 = .ok (.iload_n 2, 1) := by decide +kernel
theorem d_text3_78 : decode method_5_code 78 = .ok (.castore, 1) := by decide +kernel
theorem d_text3_79 : decode method_5_code 79 = .ok (.dup, 1) := by decide +kernel
theorem d_text3_80 : decode method_5_code 80 = .ok (.iconst 2, 1) := by decide +kernel
theorem d_text3_81 : decode method_5_code 81 = .ok (.iload_n 3, 1) := by decide +kernel
theorem d_text3_82 : decode method_5_code 82 = .ok (.castore, 1) := by decide +kernel
theorem d_text3_83 : decode method_5_code 83 = .ok (.invokespecial 29, 3) := by decide +kernel
theorem d_text3_86 : decode method_5_code 86 = .ok (.areturn, 1) := by decide +kernel
abbrev rm_text3 : Room := { frames := 6, cells := 6, slots := 25, locals := 88 }
abbrev M_text3 : Mx := (method_5_code, y_text3.cls, (some (.object "java/lang/String")), y_text3.name, 7, rm_text3)
theorem ef_text3 (m : MethodId) (x0 : Int32) (x1 : Int32) (x2 : Int32) (x3 : Int32) (x4 : Int32) (x5 : Int32) (x6 : Int32) : entryFrame m #[.int x0, .int x1, .int x2, .int x3, .int x4, .int x5, .int x6] 7 = mkF m 0 #[.val (.int x0), .val (.int x1), .val (.int x2), .val (.int x3), .val (.int x4), .val (.int x5), .val (.int x6)] [] := by first | (simp [entryFrame, mkF, argsToLocals, Value.category]; done) | rfl
set_option maxRecDepth 65536 in
set_option maxHeartbeats 4000000 in
theorem con_text3 {G : Gx} (hG : OGood G) {h0 : Heap} {ch0 ch1 ch2 ch3 ch4 ch5 : Int32} (r0 : 0 ≤ ch0.toInt ∧ ch0.toInt < 65536) (r1 : 0 ≤ ch1.toInt ∧ ch1.toInt < 65536) (r2 : 0 ≤ ch2.toInt ∧ ch2.toInt < 65536) (r3 : 0 ≤ ch3.toInt ∧ ch3.toInt < 65536) (r4 : 0 ≤ ch4.toInt ∧ ch4.toInt < 65536) (r5 : 0 ≤ ch5.toInt ∧ ch5.toInt < 65536) : OCon G y_text3 method_5_code 7 (some (.object "java/lang/String")) [] rm_text3 #[.int 3, .int ch0, .int ch1, .int ch2, .int ch3, .int ch4, .int ch5] [] h0 (fun v h' _ => ∃ a, v = some (.ref a) ∧ Keep h0 h' [] ∧ Str G.Z h' a [ch0, ch1, ch2]) := by
  refine OCon.intro pn_3 (own_ew hG) #[.val (.int 3), .val (.int ch0), .val (.int ch1), .val (.int ch2), .val (.int ch3), .val (.int ch4), .val (.int ch5)] (fun m => ef_text3 m 3 ch0 ch1 ch2 ch3 ch4 ch5) ?_
  intro K c
  replace c : OAt G K M_text3 [] 0 0 h0 0 #[.val (.int 3), .val (.int ch0), .val (.int ch1), .val (.int ch2), .val (.int ch3), .val (.int ch4), .val (.int ch5)] [] := c
  replace c := c.iloadN 1 d_text3_0 rfl
  replace c := c.ifT 15 d_text3_1 (own_if_ne_t (by decide))
  replace c := c.iloadN 16 d_text3_15 rfl
  replace c := c.iconst 17 d_text3_16 1 (by decide)
  replace c := c.icT 35 d_text3_17 (own_ic_ne_t (by decide))
  replace c := c.iloadN 36 d_text3_35 rfl
  replace c := c.iconst 37 d_text3_36 2 (by decide)
  replace c := c.icT 59 d_text3_37 (own_ic_ne_t (by decide))
  replace c := c.iloadN 60 d_text3_59 rfl
  replace c := c.iconst 61 d_text3_60 3 (by decide)
  replace c := c.icF 64 d_text3_61 (own_ic_ne_f (by decide))
  obtain ⟨a, h_a, s_a, x_a, g_a, E_a, D_a, U_a, c⟩ := c.newO 67 d_text3_64 (C := "java/lang/String") (hG.1 _ (List.mem_of_getElem? (i := 10) rfl)) (hG.1 _ (List.mem_of_getElem? (i := 11) rfl)) (hG.1 _ (List.mem_of_getElem? (i := 12) rfl)) (by decide) (by decide)
  replace c := c.dup 68 d_text3_67 rfl
  replace c := c.iconst 69 d_text3_68 3 (by decide)
  obtain ⟨ca, h_ca, s_ca, x_ca, g_ca, Y_ca, c⟩ := c.newarr 71 d_text3_69 .char rfl (hG.1 _ (List.mem_of_getElem? (i := 13) rfl)) (3) (by decide) 3 (by decide) (by decide) (by decide) (by decide)
  have na : a ≠ ca := Nat.ne_of_lt (by rw [s_ca]; exact E_a.lt)
  have V0 : Fld G.Z h_a a "java/lang/String" "value" "[B" .null := D_a (Or.inr (hG.1 _ (List.mem_of_getElem? (i := 26) rfl))) (ty := .array .byte) (by decide)
  have C0 : Fld G.Z h_a a "java/lang/String" "coder" "B" (.int 0) := D_a (Or.inr (hG.1 _ (List.mem_of_getElem? (i := 27) rfl))) (ty := .byte) (by decide)
  replace c := c.dup 72 d_text3_71 rfl
  replace c := c.iconst 73 d_text3_72 0 (by decide)
  replace c := c.iloadN 74 d_text3_73 rfl
  obtain ⟨hs0, Ws0, Ys0, c⟩ := c.castore 75 d_text3_74 Y_ca (0) (by decide) (by simp) g_ca (ch0) (own_narc r0)
  replace c := c.dup 76 d_text3_75 rfl
  replace c := c.iconst 77 d_text3_76 1 (by decide)
  replace c := c.iloadN 78 d_text3_77 rfl
  obtain ⟨hs1, Ws1, Ys1, c⟩ := c.castore 79 d_text3_78 Ys0 (1) (by decide) (by simp) g_ca (ch1) (own_narc r1)
  replace c := c.dup 80 d_text3_79 rfl
  replace c := c.iconst 81 d_text3_80 2 (by decide)
  replace c := c.iloadN 82 d_text3_81 rfl
  obtain ⟨hs2, Ws2, Ys2, c⟩ := c.castore 83 d_text3_82 Ys1 (2) (by decide) (by simp) g_ca (ch2) (own_narc r2)
  have hca : h0.size ≤ ca := by rw [s_ca]; exact x_a.1
  obtain ⟨v, h1, sf, ⟨rfl, K1, S1⟩, c⟩ := c.callI (y := y_si1) (a := a) (argsL := [.ref ca]) (rest := [.ref a]) 86 d_text3_83 (con_si1 hG (cs := [ch0, ch1, ch2]) (by simp) g_a ((((E_a.ext x_ca).wr Ws0).wr Ws1).wr Ws2) ((((V0.ext x_ca).other Ws0 (Or.inl na)).other Ws1 (Or.inl na)).other Ws2 (Or.inl na)) ((((C0.ext x_ca).other Ws0 (Or.inl na)).other Ws1 (Or.inl na)).other Ws2 (Or.inl na)) Ys2) rfl (hG.1 _ (List.mem_of_getElem? (i := 14) rfl)) (hG.1 _ (List.mem_of_getElem? (i := 15) rfl)) (hG.1 _ (List.mem_of_getElem? (i := 12) rfl)) (hG.1 _ (List.mem_of_getElem? (i := 16) rfl)) (lenOf pd_10 rfl) (by simp) (W := 1) rfl (by decide) (by decide) (by decide) (by decide)
  replace c := c [] (by simp)
  replace c : OAt G K M_text3 [ca, a] 6 25 h1 86 #[.val (.int 3), .val (.int ch0), .val (.int ch1), .val (.int ch2), .val (.int ch3), .val (.int ch4), .val (.int ch5)] [.ref a] := c
  exact c.reta (t := (.object "java/lang/String")) d_text3_86 rfl rfl rfl rfl (fun sf hs => ⟨a, rfl, ((((((Keep.refl h0 []).ext x_a).ext x_ca).wr Ws0 (Or.inr hca)).wr Ws1 (Or.inr hca)).wr Ws2 (Or.inr hca)).trans K1 (fun x hx => by cases List.mem_singleton.mp hx; exact Or.inr (Nat.le_of_eq s_a.symm)), S1⟩) (by decide) (by decide)
abbrev y_text4 : MethodName := ⟨"com/example/swac/swac/testfile/TestCaseIsDecisionPinLaw", "text", "(ICCCCCC)Ljava/lang/String;"⟩
theorem d_text4_0 : decode method_5_code 0 = .ok (.iload_n 0, 1) := by decide +kernel
theorem d_text4_1 : decode method_5_code 1 = .ok (.ifCond .ne 14, 3) := by decide +kernel
theorem d_text4_15 : decode method_5_code 15 = .ok (.iload_n 0, 1) := by decide +kernel
theorem d_text4_16 : decode method_5_code 16 = .ok (.iconst 1, 1) := by decide +kernel
theorem d_text4_17 : decode method_5_code 17 = .ok (.if_icmp .ne 18, 3) := by decide +kernel
theorem d_text4_35 : decode method_5_code 35 = .ok (.iload_n 0, 1) := by decide +kernel
theorem d_text4_36 : decode method_5_code 36 = .ok (.iconst 2, 1) := by decide +kernel
theorem d_text4_37 : decode method_5_code 37 = .ok (.if_icmp .ne 22, 3) := by decide +kernel
theorem d_text4_59 : decode method_5_code 59 = .ok (.iload_n 0, 1) := by decide +kernel
theorem d_text4_60 : decode method_5_code 60 = .ok (.iconst 3, 1) := by decide +kernel
theorem d_text4_61 : decode method_5_code 61 = .ok (.if_icmp .ne 26, 3) := by decide +kernel
theorem d_text4_87 : decode method_5_code 87 = .ok (.iload_n 0, 1) := by decide +kernel
theorem d_text4_88 : decode method_5_code 88 = .ok (.iconst 4, 1) := by decide +kernel
theorem d_text4_89 : decode method_5_code 89 = .ok (.if_icmp .ne 31, 3) := by decide +kernel
theorem d_text4_92 : decode method_5_code 92 = .ok (.new 27, 3) := by decide +kernel
theorem d_text4_95 : decode method_5_code 95 = .ok (.dup, 1) := by decide +kernel
theorem d_text4_96 : decode method_5_code 96 = .ok (.iconst 4, 1) := by decide +kernel
theorem d_text4_97 : decode method_5_code 97 = .ok (.newarray .char, 2) := by decide +kernel
theorem d_text4_99 : decode method_5_code 99 = .ok (.dup, 1) := by decide +kernel
theorem d_text4_100 : decode method_5_code 100 = .ok (.iconst 0, 1) := by decide +kernel
theorem d_text4_101 : decode method_5_code 101 = .ok (.iload_n 1, 1) := by decide +kernel
theorem d_text4_102 : decode method_5_code 102 = .ok (.castore, 1) := by decide +kernel
theorem d_text4_103 : decode method_5_code 103 = .ok (.dup, 1) := by decide +kernel
theorem d_text4_104 : decode method_5_code 104 = .ok (.iconst 1, 1) := by decide +kernel
theorem d_text4_105 : decode method_5_code 105 = .ok (.iload_n 2, 1) := by decide +kernel
theorem d_text4_106 : decode method_5_code 106 = .ok (.castore, 1) := by decide +kernel
theorem d_text4_107 : decode method_5_code 107 = .ok (.dup, 1) := by decide +kernel
theorem d_text4_108 : decode method_5_code 108 = .ok (.iconst 2, 1) := by decide +kernel
theorem d_text4_109 : decode method_5_code 109 = .ok (.iload_n 3, 1) := by decide +kernel
theorem d_text4_110 : decode method_5_code 110 = .ok (.castore, 1) := by decide +kernel
theorem d_text4_111 : decode method_5_code 111 = .ok (.dup, 1) := by decide +kernel
theorem d_text4_112 : decode method_5_code 112 = .ok (.iconst 3, 1) := by decide +kernel
theorem d_text4_113 : decode method_5_code 113 = .ok (.iload 4, 2) := by decide +kernel
theorem d_text4_115 : decode method_5_code 115 = .ok (.castore, 1) := by decide +kernel
theorem d_text4_116 : decode method_5_code 116 = .ok (.invokespecial 29, 3) := by decide +kernel
theorem d_text4_119 : decode method_5_code 119 = .ok (.areturn, 1) := by decide +kernel
abbrev rm_text4 : Room := { frames := 6, cells := 6, slots := 26, locals := 88 }
abbrev M_text4 : Mx := (method_5_code, y_text4.cls, (some (.object "java/lang/String")), y_text4.name, 7, rm_text4)
theorem ef_text4 (m : MethodId) (x0 : Int32) (x1 : Int32) (x2 : Int32) (x3 : Int32) (x4 : Int32) (x5 : Int32) (x6 : Int32) : entryFrame m #[.int x0, .int x1, .int x2, .int x3, .int x4, .int x5, .int x6] 7 = mkF m 0 #[.val (.int x0), .val (.int x1), .val (.int x2), .val (.int x3), .val (.int x4), .val (.int x5), .val (.int x6)] [] := by first | (simp [entryFrame, mkF, argsToLocals, Value.category]; done) | rfl
set_option maxRecDepth 65536 in
set_option maxHeartbeats 4000000 in
theorem con_text4 {G : Gx} (hG : OGood G) {h0 : Heap} {ch0 ch1 ch2 ch3 ch4 ch5 : Int32} (r0 : 0 ≤ ch0.toInt ∧ ch0.toInt < 65536) (r1 : 0 ≤ ch1.toInt ∧ ch1.toInt < 65536) (r2 : 0 ≤ ch2.toInt ∧ ch2.toInt < 65536) (r3 : 0 ≤ ch3.toInt ∧ ch3.toInt < 65536) (r4 : 0 ≤ ch4.toInt ∧ ch4.toInt < 65536) (r5 : 0 ≤ ch5.toInt ∧ ch5.toInt < 65536) : OCon G y_text4 method_5_code 7 (some (.object "java/lang/String")) [] rm_text4 #[.int 4, .int ch0, .int ch1, .int ch2, .int ch3, .int ch4, .int ch5] [] h0 (fun v h' _ => ∃ a, v = some (.ref a) ∧ Keep h0 h' [] ∧ Str G.Z h' a [ch0, ch1, ch2, ch3]) := by
  refine OCon.intro pn_3 (own_ew hG) #[.val (.int 4), .val (.int ch0), .val (.int ch1), .val (.int ch2), .val (.int ch3), .val (.int ch4), .val (.int ch5)] (fun m => ef_text4 m 4 ch0 ch1 ch2 ch3 ch4 ch5) ?_
  intro K c
  replace c : OAt G K M_text4 [] 0 0 h0 0 #[.val (.int 4), .val (.int ch0), .val (.int ch1), .val (.int ch2), .val (.int ch3), .val (.int ch4), .val (.int ch5)] [] := c
  replace c := c.iloadN 1 d_text4_0 rfl
  replace c := c.ifT 15 d_text4_1 (own_if_ne_t (by decide))
  replace c := c.iloadN 16 d_text4_15 rfl
  replace c := c.iconst 17 d_text4_16 1 (by decide)
  replace c := c.icT 35 d_text4_17 (own_ic_ne_t (by decide))
  replace c := c.iloadN 36 d_text4_35 rfl
  replace c := c.iconst 37 d_text4_36 2 (by decide)
  replace c := c.icT 59 d_text4_37 (own_ic_ne_t (by decide))
  replace c := c.iloadN 60 d_text4_59 rfl
  replace c := c.iconst 61 d_text4_60 3 (by decide)
  replace c := c.icT 87 d_text4_61 (own_ic_ne_t (by decide))
  replace c := c.iloadN 88 d_text4_87 rfl
  replace c := c.iconst 89 d_text4_88 4 (by decide)
  replace c := c.icF 92 d_text4_89 (own_ic_ne_f (by decide))
  obtain ⟨a, h_a, s_a, x_a, g_a, E_a, D_a, U_a, c⟩ := c.newO 95 d_text4_92 (C := "java/lang/String") (hG.1 _ (List.mem_of_getElem? (i := 10) rfl)) (hG.1 _ (List.mem_of_getElem? (i := 11) rfl)) (hG.1 _ (List.mem_of_getElem? (i := 12) rfl)) (by decide) (by decide)
  replace c := c.dup 96 d_text4_95 rfl
  replace c := c.iconst 97 d_text4_96 4 (by decide)
  obtain ⟨ca, h_ca, s_ca, x_ca, g_ca, Y_ca, c⟩ := c.newarr 99 d_text4_97 .char rfl (hG.1 _ (List.mem_of_getElem? (i := 13) rfl)) (4) (by decide) 4 (by decide) (by decide) (by decide) (by decide)
  have na : a ≠ ca := Nat.ne_of_lt (by rw [s_ca]; exact E_a.lt)
  have V0 : Fld G.Z h_a a "java/lang/String" "value" "[B" .null := D_a (Or.inr (hG.1 _ (List.mem_of_getElem? (i := 26) rfl))) (ty := .array .byte) (by decide)
  have C0 : Fld G.Z h_a a "java/lang/String" "coder" "B" (.int 0) := D_a (Or.inr (hG.1 _ (List.mem_of_getElem? (i := 27) rfl))) (ty := .byte) (by decide)
  replace c := c.dup 100 d_text4_99 rfl
  replace c := c.iconst 101 d_text4_100 0 (by decide)
  replace c := c.iloadN 102 d_text4_101 rfl
  obtain ⟨hs0, Ws0, Ys0, c⟩ := c.castore 103 d_text4_102 Y_ca (0) (by decide) (by simp) g_ca (ch0) (own_narc r0)
  replace c := c.dup 104 d_text4_103 rfl
  replace c := c.iconst 105 d_text4_104 1 (by decide)
  replace c := c.iloadN 106 d_text4_105 rfl
  obtain ⟨hs1, Ws1, Ys1, c⟩ := c.castore 107 d_text4_106 Ys0 (1) (by decide) (by simp) g_ca (ch1) (own_narc r1)
  replace c := c.dup 108 d_text4_107 rfl
  replace c := c.iconst 109 d_text4_108 2 (by decide)
  replace c := c.iloadN 110 d_text4_109 rfl
  obtain ⟨hs2, Ws2, Ys2, c⟩ := c.castore 111 d_text4_110 Ys1 (2) (by decide) (by simp) g_ca (ch2) (own_narc r2)
  replace c := c.dup 112 d_text4_111 rfl
  replace c := c.iconst 113 d_text4_112 3 (by decide)
  replace c := c.iload 115 d_text4_113 rfl
  obtain ⟨hs3, Ws3, Ys3, c⟩ := c.castore 116 d_text4_115 Ys2 (3) (by decide) (by simp) g_ca (ch3) (own_narc r3)
  have hca : h0.size ≤ ca := by rw [s_ca]; exact x_a.1
  obtain ⟨v, h1, sf, ⟨rfl, K1, S1⟩, c⟩ := c.callI (y := y_si1) (a := a) (argsL := [.ref ca]) (rest := [.ref a]) 119 d_text4_116 (con_si1 hG (cs := [ch0, ch1, ch2, ch3]) (by simp) g_a (((((E_a.ext x_ca).wr Ws0).wr Ws1).wr Ws2).wr Ws3) (((((V0.ext x_ca).other Ws0 (Or.inl na)).other Ws1 (Or.inl na)).other Ws2 (Or.inl na)).other Ws3 (Or.inl na)) (((((C0.ext x_ca).other Ws0 (Or.inl na)).other Ws1 (Or.inl na)).other Ws2 (Or.inl na)).other Ws3 (Or.inl na)) Ys3) rfl (hG.1 _ (List.mem_of_getElem? (i := 14) rfl)) (hG.1 _ (List.mem_of_getElem? (i := 15) rfl)) (hG.1 _ (List.mem_of_getElem? (i := 12) rfl)) (hG.1 _ (List.mem_of_getElem? (i := 16) rfl)) (lenOf pd_10 rfl) (by simp) (W := 1) rfl (by decide) (by decide) (by decide) (by decide)
  replace c := c [] (by simp)
  replace c : OAt G K M_text4 [ca, a] 6 26 h1 119 #[.val (.int 4), .val (.int ch0), .val (.int ch1), .val (.int ch2), .val (.int ch3), .val (.int ch4), .val (.int ch5)] [.ref a] := c
  exact c.reta (t := (.object "java/lang/String")) d_text4_119 rfl rfl rfl rfl (fun sf hs => ⟨a, rfl, (((((((Keep.refl h0 []).ext x_a).ext x_ca).wr Ws0 (Or.inr hca)).wr Ws1 (Or.inr hca)).wr Ws2 (Or.inr hca)).wr Ws3 (Or.inr hca)).trans K1 (fun x hx => by cases List.mem_singleton.mp hx; exact Or.inr (Nat.le_of_eq s_a.symm)), S1⟩) (by decide) (by decide)
abbrev y_text5 : MethodName := ⟨"com/example/swac/swac/testfile/TestCaseIsDecisionPinLaw", "text", "(ICCCCCC)Ljava/lang/String;"⟩
theorem d_text5_0 : decode method_5_code 0 = .ok (.iload_n 0, 1) := by decide +kernel
theorem d_text5_1 : decode method_5_code 1 = .ok (.ifCond .ne 14, 3) := by decide +kernel
theorem d_text5_15 : decode method_5_code 15 = .ok (.iload_n 0, 1) := by decide +kernel
theorem d_text5_16 : decode method_5_code 16 = .ok (.iconst 1, 1) := by decide +kernel
theorem d_text5_17 : decode method_5_code 17 = .ok (.if_icmp .ne 18, 3) := by decide +kernel
theorem d_text5_35 : decode method_5_code 35 = .ok (.iload_n 0, 1) := by decide +kernel
theorem d_text5_36 : decode method_5_code 36 = .ok (.iconst 2, 1) := by decide +kernel
theorem d_text5_37 : decode method_5_code 37 = .ok (.if_icmp .ne 22, 3) := by decide +kernel
theorem d_text5_59 : decode method_5_code 59 = .ok (.iload_n 0, 1) := by decide +kernel
theorem d_text5_60 : decode method_5_code 60 = .ok (.iconst 3, 1) := by decide +kernel
theorem d_text5_61 : decode method_5_code 61 = .ok (.if_icmp .ne 26, 3) := by decide +kernel
theorem d_text5_87 : decode method_5_code 87 = .ok (.iload_n 0, 1) := by decide +kernel
theorem d_text5_88 : decode method_5_code 88 = .ok (.iconst 4, 1) := by decide +kernel
theorem d_text5_89 : decode method_5_code 89 = .ok (.if_icmp .ne 31, 3) := by decide +kernel
theorem d_text5_120 : decode method_5_code 120 = .ok (.iload_n 0, 1) := by decide +kernel
theorem d_text5_121 : decode method_5_code 121 = .ok (.iconst 5, 1) := by decide +kernel
theorem d_text5_122 : decode method_5_code 122 = .ok (.if_icmp .ne 36, 3) := by decide +kernel
theorem d_text5_125 : decode method_5_code 125 = .ok (.new 27, 3) := by decide +kernel
theorem d_text5_128 : decode method_5_code 128 = .ok (.dup, 1) := by decide +kernel
theorem d_text5_129 : decode method_5_code 129 = .ok (.iconst 5, 1) := by decide +kernel
theorem d_text5_130 : decode method_5_code 130 = .ok (.newarray .char, 2) := by decide +kernel
theorem d_text5_132 : decode method_5_code 132 = .ok (.dup, 1) := by decide +kernel
theorem d_text5_133 : decode method_5_code 133 = .ok (.iconst 0, 1) := by decide +kernel
theorem d_text5_134 : decode method_5_code 134 = .ok (.iload_n 1, 1) := by decide +kernel
theorem d_text5_135 : decode method_5_code 135 = .ok (.castore, 1) := by decide +kernel
theorem d_text5_136 : decode method_5_code 136 = .ok (.dup, 1) := by decide +kernel
theorem d_text5_137 : decode method_5_code 137 = .ok (.iconst 1, 1) := by decide +kernel
theorem d_text5_138 : decode method_5_code 138 = .ok (.iload_n 2, 1) := by decide +kernel
theorem d_text5_139 : decode method_5_code 139 = .ok (.castore, 1) := by decide +kernel
theorem d_text5_140 : decode method_5_code 140 = .ok (.dup, 1) := by decide +kernel
theorem d_text5_141 : decode method_5_code 141 = .ok (.iconst 2, 1) := by decide +kernel
theorem d_text5_142 : decode method_5_code 142 = .ok (.iload_n 3, 1) := by decide +kernel
theorem d_text5_143 : decode method_5_code 143 = .ok (.castore, 1) := by decide +kernel
theorem d_text5_144 : decode method_5_code 144 = .ok (.dup, 1) := by decide +kernel
theorem d_text5_145 : decode method_5_code 145 = .ok (.iconst 3, 1) := by decide +kernel
theorem d_text5_146 : decode method_5_code 146 = .ok (.iload 4, 2) := by decide +kernel
theorem d_text5_148 : decode method_5_code 148 = .ok (.castore, 1) := by decide +kernel
theorem d_text5_149 : decode method_5_code 149 = .ok (.dup, 1) := by decide +kernel
theorem d_text5_150 : decode method_5_code 150 = .ok (.iconst 4, 1) := by decide +kernel
theorem d_text5_151 : decode method_5_code 151 = .ok (.iload 5, 2) := by decide +kernel
theorem d_text5_153 : decode method_5_code 153 = .ok (.castore, 1) := by decide +kernel
theorem d_text5_154 : decode method_5_code 154 = .ok (.invokespecial 29, 3) := by decide +kernel
theorem d_text5_157 : decode method_5_code 157 = .ok (.areturn, 1) := by decide +kernel
abbrev rm_text5 : Room := { frames := 6, cells := 6, slots := 27, locals := 88 }
abbrev M_text5 : Mx := (method_5_code, y_text5.cls, (some (.object "java/lang/String")), y_text5.name, 7, rm_text5)
theorem ef_text5 (m : MethodId) (x0 : Int32) (x1 : Int32) (x2 : Int32) (x3 : Int32) (x4 : Int32) (x5 : Int32) (x6 : Int32) : entryFrame m #[.int x0, .int x1, .int x2, .int x3, .int x4, .int x5, .int x6] 7 = mkF m 0 #[.val (.int x0), .val (.int x1), .val (.int x2), .val (.int x3), .val (.int x4), .val (.int x5), .val (.int x6)] [] := by first | (simp [entryFrame, mkF, argsToLocals, Value.category]; done) | rfl
set_option maxRecDepth 65536 in
set_option maxHeartbeats 4000000 in
theorem con_text5 {G : Gx} (hG : OGood G) {h0 : Heap} {ch0 ch1 ch2 ch3 ch4 ch5 : Int32} (r0 : 0 ≤ ch0.toInt ∧ ch0.toInt < 65536) (r1 : 0 ≤ ch1.toInt ∧ ch1.toInt < 65536) (r2 : 0 ≤ ch2.toInt ∧ ch2.toInt < 65536) (r3 : 0 ≤ ch3.toInt ∧ ch3.toInt < 65536) (r4 : 0 ≤ ch4.toInt ∧ ch4.toInt < 65536) (r5 : 0 ≤ ch5.toInt ∧ ch5.toInt < 65536) : OCon G y_text5 method_5_code 7 (some (.object "java/lang/String")) [] rm_text5 #[.int 5, .int ch0, .int ch1, .int ch2, .int ch3, .int ch4, .int ch5] [] h0 (fun v h' _ => ∃ a, v = some (.ref a) ∧ Keep h0 h' [] ∧ Str G.Z h' a [ch0, ch1, ch2, ch3, ch4]) := by
  refine OCon.intro pn_3 (own_ew hG) #[.val (.int 5), .val (.int ch0), .val (.int ch1), .val (.int ch2), .val (.int ch3), .val (.int ch4), .val (.int ch5)] (fun m => ef_text5 m 5 ch0 ch1 ch2 ch3 ch4 ch5) ?_
  intro K c
  replace c : OAt G K M_text5 [] 0 0 h0 0 #[.val (.int 5), .val (.int ch0), .val (.int ch1), .val (.int ch2), .val (.int ch3), .val (.int ch4), .val (.int ch5)] [] := c
  replace c := c.iloadN 1 d_text5_0 rfl
  replace c := c.ifT 15 d_text5_1 (own_if_ne_t (by decide))
  replace c := c.iloadN 16 d_text5_15 rfl
  replace c := c.iconst 17 d_text5_16 1 (by decide)
  replace c := c.icT 35 d_text5_17 (own_ic_ne_t (by decide))
  replace c := c.iloadN 36 d_text5_35 rfl
  replace c := c.iconst 37 d_text5_36 2 (by decide)
  replace c := c.icT 59 d_text5_37 (own_ic_ne_t (by decide))
  replace c := c.iloadN 60 d_text5_59 rfl
  replace c := c.iconst 61 d_text5_60 3 (by decide)
  replace c := c.icT 87 d_text5_61 (own_ic_ne_t (by decide))
  replace c := c.iloadN 88 d_text5_87 rfl
  replace c := c.iconst 89 d_text5_88 4 (by decide)
  replace c := c.icT 120 d_text5_89 (own_ic_ne_t (by decide))
  replace c := c.iloadN 121 d_text5_120 rfl
  replace c := c.iconst 122 d_text5_121 5 (by decide)
  replace c := c.icF 125 d_text5_122 (own_ic_ne_f (by decide))
  obtain ⟨a, h_a, s_a, x_a, g_a, E_a, D_a, U_a, c⟩ := c.newO 128 d_text5_125 (C := "java/lang/String") (hG.1 _ (List.mem_of_getElem? (i := 10) rfl)) (hG.1 _ (List.mem_of_getElem? (i := 11) rfl)) (hG.1 _ (List.mem_of_getElem? (i := 12) rfl)) (by decide) (by decide)
  replace c := c.dup 129 d_text5_128 rfl
  replace c := c.iconst 130 d_text5_129 5 (by decide)
  obtain ⟨ca, h_ca, s_ca, x_ca, g_ca, Y_ca, c⟩ := c.newarr 132 d_text5_130 .char rfl (hG.1 _ (List.mem_of_getElem? (i := 13) rfl)) (5) (by decide) 5 (by decide) (by decide) (by decide) (by decide)
  have na : a ≠ ca := Nat.ne_of_lt (by rw [s_ca]; exact E_a.lt)
  have V0 : Fld G.Z h_a a "java/lang/String" "value" "[B" .null := D_a (Or.inr (hG.1 _ (List.mem_of_getElem? (i := 26) rfl))) (ty := .array .byte) (by decide)
  have C0 : Fld G.Z h_a a "java/lang/String" "coder" "B" (.int 0) := D_a (Or.inr (hG.1 _ (List.mem_of_getElem? (i := 27) rfl))) (ty := .byte) (by decide)
  replace c := c.dup 133 d_text5_132 rfl
  replace c := c.iconst 134 d_text5_133 0 (by decide)
  replace c := c.iloadN 135 d_text5_134 rfl
  obtain ⟨hs0, Ws0, Ys0, c⟩ := c.castore 136 d_text5_135 Y_ca (0) (by decide) (by simp) g_ca (ch0) (own_narc r0)
  replace c := c.dup 137 d_text5_136 rfl
  replace c := c.iconst 138 d_text5_137 1 (by decide)
  replace c := c.iloadN 139 d_text5_138 rfl
  obtain ⟨hs1, Ws1, Ys1, c⟩ := c.castore 140 d_text5_139 Ys0 (1) (by decide) (by simp) g_ca (ch1) (own_narc r1)
  replace c := c.dup 141 d_text5_140 rfl
  replace c := c.iconst 142 d_text5_141 2 (by decide)
  replace c := c.iloadN 143 d_text5_142 rfl
  obtain ⟨hs2, Ws2, Ys2, c⟩ := c.castore 144 d_text5_143 Ys1 (2) (by decide) (by simp) g_ca (ch2) (own_narc r2)
  replace c := c.dup 145 d_text5_144 rfl
  replace c := c.iconst 146 d_text5_145 3 (by decide)
  replace c := c.iload 148 d_text5_146 rfl
  obtain ⟨hs3, Ws3, Ys3, c⟩ := c.castore 149 d_text5_148 Ys2 (3) (by decide) (by simp) g_ca (ch3) (own_narc r3)
  replace c := c.dup 150 d_text5_149 rfl
  replace c := c.iconst 151 d_text5_150 4 (by decide)
  replace c := c.iload 153 d_text5_151 rfl
  obtain ⟨hs4, Ws4, Ys4, c⟩ := c.castore 154 d_text5_153 Ys3 (4) (by decide) (by simp) g_ca (ch4) (own_narc r4)
  have hca : h0.size ≤ ca := by rw [s_ca]; exact x_a.1
  obtain ⟨v, h1, sf, ⟨rfl, K1, S1⟩, c⟩ := c.callI (y := y_si1) (a := a) (argsL := [.ref ca]) (rest := [.ref a]) 157 d_text5_154 (con_si1 hG (cs := [ch0, ch1, ch2, ch3, ch4]) (by simp) g_a ((((((E_a.ext x_ca).wr Ws0).wr Ws1).wr Ws2).wr Ws3).wr Ws4) ((((((V0.ext x_ca).other Ws0 (Or.inl na)).other Ws1 (Or.inl na)).other Ws2 (Or.inl na)).other Ws3 (Or.inl na)).other Ws4 (Or.inl na)) ((((((C0.ext x_ca).other Ws0 (Or.inl na)).other Ws1 (Or.inl na)).other Ws2 (Or.inl na)).other Ws3 (Or.inl na)).other Ws4 (Or.inl na)) Ys4) rfl (hG.1 _ (List.mem_of_getElem? (i := 14) rfl)) (hG.1 _ (List.mem_of_getElem? (i := 15) rfl)) (hG.1 _ (List.mem_of_getElem? (i := 12) rfl)) (hG.1 _ (List.mem_of_getElem? (i := 16) rfl)) (lenOf pd_10 rfl) (by simp) (W := 1) rfl (by decide) (by decide) (by decide) (by decide)
  replace c := c [] (by simp)
  replace c : OAt G K M_text5 [ca, a] 6 27 h1 157 #[.val (.int 5), .val (.int ch0), .val (.int ch1), .val (.int ch2), .val (.int ch3), .val (.int ch4), .val (.int ch5)] [.ref a] := c
  exact c.reta (t := (.object "java/lang/String")) d_text5_157 rfl rfl rfl rfl (fun sf hs => ⟨a, rfl, ((((((((Keep.refl h0 []).ext x_a).ext x_ca).wr Ws0 (Or.inr hca)).wr Ws1 (Or.inr hca)).wr Ws2 (Or.inr hca)).wr Ws3 (Or.inr hca)).wr Ws4 (Or.inr hca)).trans K1 (fun x hx => by cases List.mem_singleton.mp hx; exact Or.inr (Nat.le_of_eq s_a.symm)), S1⟩) (by decide) (by decide)
abbrev y_text6 : MethodName := ⟨"com/example/swac/swac/testfile/TestCaseIsDecisionPinLaw", "text", "(ICCCCCC)Ljava/lang/String;"⟩
theorem d_text6_0 : decode method_5_code 0 = .ok (.iload_n 0, 1) := by decide +kernel
theorem d_text6_1 : decode method_5_code 1 = .ok (.ifCond .ne 14, 3) := by decide +kernel
theorem d_text6_15 : decode method_5_code 15 = .ok (.iload_n 0, 1) := by decide +kernel
theorem d_text6_16 : decode method_5_code 16 = .ok (.iconst 1, 1) := by decide +kernel
theorem d_text6_17 : decode method_5_code 17 = .ok (.if_icmp .ne 18, 3) := by decide +kernel
theorem d_text6_35 : decode method_5_code 35 = .ok (.iload_n 0, 1) := by decide +kernel
theorem d_text6_36 : decode method_5_code 36 = .ok (.iconst 2, 1) := by decide +kernel
theorem d_text6_37 : decode method_5_code 37 = .ok (.if_icmp .ne 22, 3) := by decide +kernel
theorem d_text6_59 : decode method_5_code 59 = .ok (.iload_n 0, 1) := by decide +kernel
theorem d_text6_60 : decode method_5_code 60 = .ok (.iconst 3, 1) := by decide +kernel
theorem d_text6_61 : decode method_5_code 61 = .ok (.if_icmp .ne 26, 3) := by decide +kernel
theorem d_text6_87 : decode method_5_code 87 = .ok (.iload_n 0, 1) := by decide +kernel
theorem d_text6_88 : decode method_5_code 88 = .ok (.iconst 4, 1) := by decide +kernel
theorem d_text6_89 : decode method_5_code 89 = .ok (.if_icmp .ne 31, 3) := by decide +kernel
theorem d_text6_120 : decode method_5_code 120 = .ok (.iload_n 0, 1) := by decide +kernel
theorem d_text6_121 : decode method_5_code 121 = .ok (.iconst 5, 1) := by decide +kernel
theorem d_text6_122 : decode method_5_code 122 = .ok (.if_icmp .ne 36, 3) := by decide +kernel
theorem d_text6_158 : decode method_5_code 158 = .ok (.new 27, 3) := by decide +kernel
theorem d_text6_161 : decode method_5_code 161 = .ok (.dup, 1) := by decide +kernel
theorem d_text6_162 : decode method_5_code 162 = .ok (.bipush 6, 2) := by decide +kernel
theorem d_text6_164 : decode method_5_code 164 = .ok (.newarray .char, 2) := by decide +kernel
theorem d_text6_166 : decode method_5_code 166 = .ok (.dup, 1) := by decide +kernel
theorem d_text6_167 : decode method_5_code 167 = .ok (.iconst 0, 1) := by decide +kernel
theorem d_text6_168 : decode method_5_code 168 = .ok (.iload_n 1, 1) := by decide +kernel
theorem d_text6_169 : decode method_5_code 169 = .ok (.castore, 1) := by decide +kernel
theorem d_text6_170 : decode method_5_code 170 = .ok (.dup, 1) := by decide +kernel
theorem d_text6_171 : decode method_5_code 171 = .ok (.iconst 1, 1) := by decide +kernel
theorem d_text6_172 : decode method_5_code 172 = .ok (.iload_n 2, 1) := by decide +kernel
theorem d_text6_173 : decode method_5_code 173 = .ok (.castore, 1) := by decide +kernel
theorem d_text6_174 : decode method_5_code 174 = .ok (.dup, 1) := by decide +kernel
theorem d_text6_175 : decode method_5_code 175 = .ok (.iconst 2, 1) := by decide +kernel
theorem d_text6_176 : decode method_5_code 176 = .ok (.iload_n 3, 1) := by decide +kernel
theorem d_text6_177 : decode method_5_code 177 = .ok (.castore, 1) := by decide +kernel
theorem d_text6_178 : decode method_5_code 178 = .ok (.dup, 1) := by decide +kernel
theorem d_text6_179 : decode method_5_code 179 = .ok (.iconst 3, 1) := by decide +kernel
theorem d_text6_180 : decode method_5_code 180 = .ok (.iload 4, 2) := by decide +kernel
theorem d_text6_182 : decode method_5_code 182 = .ok (.castore, 1) := by decide +kernel
theorem d_text6_183 : decode method_5_code 183 = .ok (.dup, 1) := by decide +kernel
theorem d_text6_184 : decode method_5_code 184 = .ok (.iconst 4, 1) := by decide +kernel
theorem d_text6_185 : decode method_5_code 185 = .ok (.iload 5, 2) := by decide +kernel
theorem d_text6_187 : decode method_5_code 187 = .ok (.castore, 1) := by decide +kernel
theorem d_text6_188 : decode method_5_code 188 = .ok (.dup, 1) := by decide +kernel
theorem d_text6_189 : decode method_5_code 189 = .ok (.iconst 5, 1) := by decide +kernel
theorem d_text6_190 : decode method_5_code 190 = .ok (.iload 6, 2) := by decide +kernel
theorem d_text6_192 : decode method_5_code 192 = .ok (.castore, 1) := by decide +kernel
theorem d_text6_193 : decode method_5_code 193 = .ok (.invokespecial 29, 3) := by decide +kernel
theorem d_text6_196 : decode method_5_code 196 = .ok (.areturn, 1) := by decide +kernel
abbrev rm_text6 : Room := { frames := 6, cells := 6, slots := 28, locals := 88 }
abbrev M_text6 : Mx := (method_5_code, y_text6.cls, (some (.object "java/lang/String")), y_text6.name, 7, rm_text6)
theorem ef_text6 (m : MethodId) (x0 : Int32) (x1 : Int32) (x2 : Int32) (x3 : Int32) (x4 : Int32) (x5 : Int32) (x6 : Int32) : entryFrame m #[.int x0, .int x1, .int x2, .int x3, .int x4, .int x5, .int x6] 7 = mkF m 0 #[.val (.int x0), .val (.int x1), .val (.int x2), .val (.int x3), .val (.int x4), .val (.int x5), .val (.int x6)] [] := by first | (simp [entryFrame, mkF, argsToLocals, Value.category]; done) | rfl
set_option maxRecDepth 65536 in
set_option maxHeartbeats 4000000 in
theorem con_text6 {G : Gx} (hG : OGood G) {h0 : Heap} {ch0 ch1 ch2 ch3 ch4 ch5 : Int32} (r0 : 0 ≤ ch0.toInt ∧ ch0.toInt < 65536) (r1 : 0 ≤ ch1.toInt ∧ ch1.toInt < 65536) (r2 : 0 ≤ ch2.toInt ∧ ch2.toInt < 65536) (r3 : 0 ≤ ch3.toInt ∧ ch3.toInt < 65536) (r4 : 0 ≤ ch4.toInt ∧ ch4.toInt < 65536) (r5 : 0 ≤ ch5.toInt ∧ ch5.toInt < 65536) : OCon G y_text6 method_5_code 7 (some (.object "java/lang/String")) [] rm_text6 #[.int 6, .int ch0, .int ch1, .int ch2, .int ch3, .int ch4, .int ch5] [] h0 (fun v h' _ => ∃ a, v = some (.ref a) ∧ Keep h0 h' [] ∧ Str G.Z h' a [ch0, ch1, ch2, ch3, ch4, ch5]) := by
  refine OCon.intro pn_3 (own_ew hG) #[.val (.int 6), .val (.int ch0), .val (.int ch1), .val (.int ch2), .val (.int ch3), .val (.int ch4), .val (.int ch5)] (fun m => ef_text6 m 6 ch0 ch1 ch2 ch3 ch4 ch5) ?_
  intro K c
  replace c : OAt G K M_text6 [] 0 0 h0 0 #[.val (.int 6), .val (.int ch0), .val (.int ch1), .val (.int ch2), .val (.int ch3), .val (.int ch4), .val (.int ch5)] [] := c
  replace c := c.iloadN 1 d_text6_0 rfl
  replace c := c.ifT 15 d_text6_1 (own_if_ne_t (by decide))
  replace c := c.iloadN 16 d_text6_15 rfl
  replace c := c.iconst 17 d_text6_16 1 (by decide)
  replace c := c.icT 35 d_text6_17 (own_ic_ne_t (by decide))
  replace c := c.iloadN 36 d_text6_35 rfl
  replace c := c.iconst 37 d_text6_36 2 (by decide)
  replace c := c.icT 59 d_text6_37 (own_ic_ne_t (by decide))
  replace c := c.iloadN 60 d_text6_59 rfl
  replace c := c.iconst 61 d_text6_60 3 (by decide)
  replace c := c.icT 87 d_text6_61 (own_ic_ne_t (by decide))
  replace c := c.iloadN 88 d_text6_87 rfl
  replace c := c.iconst 89 d_text6_88 4 (by decide)
  replace c := c.icT 120 d_text6_89 (own_ic_ne_t (by decide))
  replace c := c.iloadN 121 d_text6_120 rfl
  replace c := c.iconst 122 d_text6_121 5 (by decide)
  replace c := c.icT 158 d_text6_122 (own_ic_ne_t (by decide))
  obtain ⟨a, h_a, s_a, x_a, g_a, E_a, D_a, U_a, c⟩ := c.newO 161 d_text6_158 (C := "java/lang/String") (hG.1 _ (List.mem_of_getElem? (i := 10) rfl)) (hG.1 _ (List.mem_of_getElem? (i := 11) rfl)) (hG.1 _ (List.mem_of_getElem? (i := 12) rfl)) (by decide) (by decide)
  replace c := c.dup 162 d_text6_161 rfl
  replace c := c.bipush 164 d_text6_162 6 (by decide)
  obtain ⟨ca, h_ca, s_ca, x_ca, g_ca, Y_ca, c⟩ := c.newarr 166 d_text6_164 .char rfl (hG.1 _ (List.mem_of_getElem? (i := 13) rfl)) (6) (by decide) 6 (by decide) (by decide) (by decide) (by decide)
  have na : a ≠ ca := Nat.ne_of_lt (by rw [s_ca]; exact E_a.lt)
  have V0 : Fld G.Z h_a a "java/lang/String" "value" "[B" .null := D_a (Or.inr (hG.1 _ (List.mem_of_getElem? (i := 26) rfl))) (ty := .array .byte) (by decide)
  have C0 : Fld G.Z h_a a "java/lang/String" "coder" "B" (.int 0) := D_a (Or.inr (hG.1 _ (List.mem_of_getElem? (i := 27) rfl))) (ty := .byte) (by decide)
  replace c := c.dup 167 d_text6_166 rfl
  replace c := c.iconst 168 d_text6_167 0 (by decide)
  replace c := c.iloadN 169 d_text6_168 rfl
  obtain ⟨hs0, Ws0, Ys0, c⟩ := c.castore 170 d_text6_169 Y_ca (0) (by decide) (by simp) g_ca (ch0) (own_narc r0)
  replace c := c.dup 171 d_text6_170 rfl
  replace c := c.iconst 172 d_text6_171 1 (by decide)
  replace c := c.iloadN 173 d_text6_172 rfl
  obtain ⟨hs1, Ws1, Ys1, c⟩ := c.castore 174 d_text6_173 Ys0 (1) (by decide) (by simp) g_ca (ch1) (own_narc r1)
  replace c := c.dup 175 d_text6_174 rfl
  replace c := c.iconst 176 d_text6_175 2 (by decide)
  replace c := c.iloadN 177 d_text6_176 rfl
  obtain ⟨hs2, Ws2, Ys2, c⟩ := c.castore 178 d_text6_177 Ys1 (2) (by decide) (by simp) g_ca (ch2) (own_narc r2)
  replace c := c.dup 179 d_text6_178 rfl
  replace c := c.iconst 180 d_text6_179 3 (by decide)
  replace c := c.iload 182 d_text6_180 rfl
  obtain ⟨hs3, Ws3, Ys3, c⟩ := c.castore 183 d_text6_182 Ys2 (3) (by decide) (by simp) g_ca (ch3) (own_narc r3)
  replace c := c.dup 184 d_text6_183 rfl
  replace c := c.iconst 185 d_text6_184 4 (by decide)
  replace c := c.iload 187 d_text6_185 rfl
  obtain ⟨hs4, Ws4, Ys4, c⟩ := c.castore 188 d_text6_187 Ys3 (4) (by decide) (by simp) g_ca (ch4) (own_narc r4)
  replace c := c.dup 189 d_text6_188 rfl
  replace c := c.iconst 190 d_text6_189 5 (by decide)
  replace c := c.iload 192 d_text6_190 rfl
  obtain ⟨hs5, Ws5, Ys5, c⟩ := c.castore 193 d_text6_192 Ys4 (5) (by decide) (by simp) g_ca (ch5) (own_narc r5)
  have hca : h0.size ≤ ca := by rw [s_ca]; exact x_a.1
  obtain ⟨v, h1, sf, ⟨rfl, K1, S1⟩, c⟩ := c.callI (y := y_si1) (a := a) (argsL := [.ref ca]) (rest := [.ref a]) 196 d_text6_193 (con_si1 hG (cs := [ch0, ch1, ch2, ch3, ch4, ch5]) (by simp) g_a (((((((E_a.ext x_ca).wr Ws0).wr Ws1).wr Ws2).wr Ws3).wr Ws4).wr Ws5) (((((((V0.ext x_ca).other Ws0 (Or.inl na)).other Ws1 (Or.inl na)).other Ws2 (Or.inl na)).other Ws3 (Or.inl na)).other Ws4 (Or.inl na)).other Ws5 (Or.inl na)) (((((((C0.ext x_ca).other Ws0 (Or.inl na)).other Ws1 (Or.inl na)).other Ws2 (Or.inl na)).other Ws3 (Or.inl na)).other Ws4 (Or.inl na)).other Ws5 (Or.inl na)) Ys5) rfl (hG.1 _ (List.mem_of_getElem? (i := 14) rfl)) (hG.1 _ (List.mem_of_getElem? (i := 15) rfl)) (hG.1 _ (List.mem_of_getElem? (i := 12) rfl)) (hG.1 _ (List.mem_of_getElem? (i := 16) rfl)) (lenOf pd_10 rfl) (by simp) (W := 1) rfl (by decide) (by decide) (by decide) (by decide)
  replace c := c [] (by simp)
  replace c : OAt G K M_text6 [ca, a] 6 28 h1 196 #[.val (.int 6), .val (.int ch0), .val (.int ch1), .val (.int ch2), .val (.int ch3), .val (.int ch4), .val (.int ch5)] [.ref a] := c
  exact c.reta (t := (.object "java/lang/String")) d_text6_196 rfl rfl rfl rfl (fun sf hs => ⟨a, rfl, (((((((((Keep.refl h0 []).ext x_a).ext x_ca).wr Ws0 (Or.inr hca)).wr Ws1 (Or.inr hca)).wr Ws2 (Or.inr hca)).wr Ws3 (Or.inr hca)).wr Ws4 (Or.inr hca)).wr Ws5 (Or.inr hca)).trans K1 (fun x hx => by cases List.mem_singleton.mp hx; exact Or.inr (Nat.le_of_eq s_a.symm)), S1⟩) (by decide) (by decide)
abbrev y_isd : MethodName := ⟨"com/example/swac/swac/testfile/TestCase", "isDecision", "(Ljava/lang/String;)Z"⟩
theorem pd_11 : parseMethodDescriptor "(Ljava/lang/Object;)Z" = some ⟨[(.object "java/lang/Object")], some .boolean⟩ := by decide +kernel
theorem pn_4 : plainName "com/example/swac/swac/testfile/TestCase" = true := by first | (simp [plainName, overriddenIn]; done) | decide +kernel
theorem d_isd_0 : decode prog_16_method_7_code 0 = .ok (.aload_n 0, 1) := by decide +kernel
theorem d_isd_1 : decode prog_16_method_7_code 1 = .ok (.ldc 57, 2) := by decide +kernel
theorem d_isd_3 : decode prog_16_method_7_code 3 = .ok (.invokevirtual 59, 3) := by decide +kernel
theorem d_isd_6 : decode prog_16_method_7_code 6 = .ok (.ifCond .ne 12, 3) := by decide +kernel
theorem d_isd_9 : decode prog_16_method_7_code 9 = .ok (.aload_n 0, 1) := by decide +kernel
theorem d_isd_10 : decode prog_16_method_7_code 10 = .ok (.ldc 63, 2) := by decide +kernel
theorem d_isd_12 : decode prog_16_method_7_code 12 = .ok (.invokevirtual 59, 3) := by decide +kernel
theorem d_isd_15 : decode prog_16_method_7_code 15 = .ok (.ifCond .eq 7, 3) := by decide +kernel
theorem d_isd_18 : decode prog_16_method_7_code 18 = .ok (.iconst 1, 1) := by decide +kernel
theorem d_isd_19 : decode prog_16_method_7_code 19 = .ok (.goto 4, 3) := by decide +kernel
theorem d_isd_22 : decode prog_16_method_7_code 22 = .ok (.iconst 0, 1) := by decide +kernel
theorem d_isd_23 : decode prog_16_method_7_code 23 = .ok (.ireturn, 1) := by decide +kernel
abbrev rm_isd : Room := { frames := 2, cells := 4, slots := 44, locals := 28 }
abbrev M_isd : Mx := (prog_16_method_7_code, y_isd.cls, (some .boolean), y_isd.name, 1, rm_isd)
theorem ef_isd (m : MethodId) (x0 : Addr) : entryFrame m #[.ref x0] 1 = mkF m 0 #[.val (.ref x0)] [] := by first | (simp [entryFrame, mkF, argsToLocals, Value.category]; done) | rfl
set_option maxRecDepth 65536 in
set_option maxHeartbeats 4000000 in
theorem con_isd {G : Gx} (hG : OGood G) {h0 : Heap} {a : Addr} {cs : List Int32} (S : Str G.Z h0 a cs) : OCon G y_isd prog_16_method_7_code 1 (some .boolean) [] rm_isd #[.ref a] [] h0 (fun v h' _ => ∃ r : Int32, v = some (.int r) ∧ (r = 1 ∨ r = 0) ∧ (r = 1 ↔ (cs = [97, 108, 108, 111, 119] ∨ cs = [100, 101, 110, 121])) ∧ Keep h0 h' []) := by
  refine OCon.intro pn_4 (own_ew hG) #[.val (.ref a)] (fun m => ef_isd m a) ?_
  intro K c
  replace c : OAt G K M_isd [] 0 0 h0 0 #[.val (.ref a)] [] := c
  replace c := c.aloadN 1 d_isd_0 rfl rfl
  obtain ⟨e, b_e, h_e, x_e, E_e, C_e, V_e, Y_e, N_e, c⟩ := c.ldcS 3 d_isd_1 (hG.1 _ (List.mem_of_getElem? (i := 36) rfl)) (own_sa hG) (own_el_0 hG) [.int 97, .int 108, .int 108, .int 111, .int 119] (by decide) (by decide) 20 (by decide) (by decide) (by decide) (by decide)
  have L1 : Str G.Z h_e e [97, 108, 108, 111, 119] := own_strlit E_e C_e V_e Y_e (by unfold Lat; decide) (by decide)
  obtain ⟨v, h1, sf, ⟨rfl, hh⟩, c⟩ := c.callV (y := (⟨"java/lang/String", "equals", "(Ljava/lang/Object;)Z"⟩ : MethodName)) (z := y_seq) (C := "java/lang/String") (a := a) (argsL := [.ref e]) (rest := []) 6 d_isd_3 (con_seq hG (S.ext x_e) L1) rfl (S.ext x_e).exa (hG.1 _ (List.mem_of_getElem? (i := 37) rfl)) (hG.1 _ (List.mem_of_getElem? (i := 38) rfl)) (own_nf (hG.1 _ (List.mem_of_getElem? (i := 40) rfl))) (hG.1 _ (List.mem_of_getElem? (i := 40) rfl)) (hG.1 _ (List.mem_of_getElem? (i := 39) rfl)) (hG.1 _ (List.mem_of_getElem? (i := 12) rfl)) (hG.1 _ (List.mem_of_getElem? (i := 41) rfl)) (lenOf pd_11 rfl) (by simp) (W := 0) rfl (by decide) (by decide) (by decide) (by decide)
  rw [hh] at c
  replace c := c [] (by simp)
  replace c : OAt G K M_isd [] 2 24 h_e 6 #[.val (.ref a)] [.int (if cs = [97, 108, 108, 111, 119] then 1 else 0)] := c
  by_cases q1 : cs = [97, 108, 108, 111, 119]
  · skip
    replace c := c.ifT 18 d_isd_6 (own_if_ne_t (by rw [if_pos q1]; decide))
    replace c := c.iconst 19 d_isd_18 1 (by decide)
    replace c := c.goto 23 d_isd_19
    exact c.reti (t := .boolean) d_isd_23 rfl rfl (by simp) (fun sf hs => ⟨1, rfl, Or.inl rfl, ⟨fun _ => Or.inl q1, fun _ => rfl⟩, (Keep.refl _ _).ext x_e⟩) (by decide) (by decide)
  · skip
    replace c := c.ifF 9 d_isd_6 (own_if_ne_f (by rw [if_neg q1]))
    replace c := c.aloadN 10 d_isd_9 rfl rfl
    obtain ⟨f, b_f, h_f, x_f, E_f, C_f, V_f, Y_f, N_f, c⟩ := c.ldcS 12 d_isd_10 (hG.1 _ (List.mem_of_getElem? (i := 48) rfl)) (own_sa hG) (own_el_1 hG) [.int 100, .int 101, .int 110, .int 121] (by decide) (by decide) 16 (by decide) (by decide) (by decide) (by decide)
    have L2 : Str G.Z h_f f [100, 101, 110, 121] := own_strlit E_f C_f V_f Y_f (by unfold Lat; decide) (by decide)
    obtain ⟨v, h2, sf, ⟨rfl, hh⟩, c⟩ := c.callV (y := (⟨"java/lang/String", "equals", "(Ljava/lang/Object;)Z"⟩ : MethodName)) (z := y_seq) (C := "java/lang/String") (a := a) (argsL := [.ref f]) (rest := []) 15 d_isd_12 (con_seq hG ((S.ext x_e).ext x_f) L2) rfl ((S.ext x_e).ext x_f).exa (hG.1 _ (List.mem_of_getElem? (i := 37) rfl)) (hG.1 _ (List.mem_of_getElem? (i := 38) rfl)) (own_nf (hG.1 _ (List.mem_of_getElem? (i := 40) rfl))) (hG.1 _ (List.mem_of_getElem? (i := 40) rfl)) (hG.1 _ (List.mem_of_getElem? (i := 39) rfl)) (hG.1 _ (List.mem_of_getElem? (i := 12) rfl)) (hG.1 _ (List.mem_of_getElem? (i := 41) rfl)) (lenOf pd_11 rfl) (by simp) (W := 0) rfl (by decide) (by decide) (by decide) (by decide)
    rw [hh] at c
    replace c := c [] (by simp)
    replace c : OAt G K M_isd [] 4 44 h_f 15 #[.val (.ref a)] [.int (if cs = [100, 101, 110, 121] then 1 else 0)] := c
    by_cases q2 : cs = [100, 101, 110, 121]
    · skip
      replace c := c.ifF 18 d_isd_15 (own_if_eq_f (by rw [if_pos q2]; decide))
      replace c := c.iconst 19 d_isd_18 1 (by decide)
      replace c := c.goto 23 d_isd_19
      exact c.reti (t := .boolean) d_isd_23 rfl rfl (by simp) (fun sf hs => ⟨1, rfl, Or.inl rfl, ⟨fun _ => Or.inr q2, fun _ => rfl⟩, ((Keep.refl _ _).ext x_e).ext x_f⟩) (by decide) (by decide)
    · skip
      replace c := c.ifT 22 d_isd_15 (own_if_eq_t (by rw [if_neg q2]))
      replace c := c.iconst 23 d_isd_22 0 (by decide)
      exact c.reti (t := .boolean) d_isd_23 rfl rfl (by simp) (fun sf hs => ⟨0, rfl, Or.inr rfl, ⟨fun e => absurd e (by decide), fun q => (q.elim q1 q2).elim⟩, ((Keep.refl _ _).ext x_e).ext x_f⟩) (by decide) (by decide)
theorem pd_12 : parseMethodDescriptor "(IJJZI)C" = some ⟨[.int, .long, .long, .boolean, .int], some .char⟩ := by decide +kernel
theorem pd_13 : parseMethodDescriptor "(ICCCCCC)Ljava/lang/String;" = some ⟨[.int, .char, .char, .char, .char, .char, .char], some (.object "java/lang/String")⟩ := by decide +kernel
theorem pd_14 : parseMethodDescriptor "(Ljava/lang/String;)Z" = some ⟨[(.object "java/lang/String")], some .boolean⟩ := by decide +kernel
theorem own_mod7 (x : Int32) : ∃ k : Nat, (x &&& 7) % 7 = Int32.ofNat k ∧ k < 7 := by
  have h := c_mask x 7 3 (by decide) (by decide)
  have h2 := (c_irem (x &&& 7) 7 7 (by decide)).1 (by omega)
  refine ⟨((x &&& 7) % 7).toInt.toNat, ?_, by omega⟩
  apply Int32.toInt_inj.mp
  rw [own_toInt (by omega)]; omega
abbrev rm_law : Room := room_1
abbrev M_law : Mx := (code, x.cls, ret, x.name, maxLocals, rm_law)
theorem ef_law (m : MethodId) (x0 : Int32) (x1 : Int64) (x2 : Int64) : entryFrame m #[.int x0, .long x1, .long x2] maxLocals = mkF m 0 #[.val (.int x0), .val (.long x1), .second, .val (.long x2), .second, .unset, .unset, .unset, .unset, .unset, .unset, .unset, .unset, .unset, .unset, .unset] [] := by first | (simp [entryFrame, mkF, argsToLocals, Value.category, maxLocals]; done) | rfl
set_option maxRecDepth 65536 in
set_option maxHeartbeats 4000000 in
theorem con_law {G : Gx} (hG : OGood G) {h0 : Heap} {x0 : Int32} {x1 x2 : Int64} : OCon G x code maxLocals ret tables_1 rm_law #[.int x0, .long x1, .long x2] [] h0 (fun v h' _ => v = some (.int 1)) := by
  refine OCon.intro pn_3 (own_ew hG) #[.val (.int x0), .val (.long x1), .second, .val (.long x2), .second, .unset, .unset, .unset, .unset, .unset, .unset, .unset, .unset, .unset, .unset, .unset] (fun m => ef_law m x0 x1 x2) ?_
  intro K c
  replace c : OAt G K M_law [] 0 0 h0 0 #[.val (.int x0), .val (.long x1), .second, .val (.long x2), .second, .unset, .unset, .unset, .unset, .unset, .unset, .unset, .unset, .unset, .unset, .unset] [] := c
  replace c := c.iloadN 1 at_0 rfl
  replace c := c.bipush 3 at_1 7 (by decide)
  replace c := c.iand 4 at_3
  replace c := c.bipush 6 at_4 7 (by decide)
  replace c := c.irem 7 at_6 (by decide)
  replace c := c.istore 9 at_7 #[.val (.int x0), .val (.long x1), .second, .val (.long x2), .second, .val (.int ((x0 &&& 7) % 7)), .unset, .unset, .unset, .unset, .unset, .unset, .unset, .unset, .unset, .unset] rfl
  replace c := c.iloadN 10 at_9 rfl
  replace c := c.iconst 11 at_10 3 (by decide)
  replace c := c.iushr 12 at_11
  replace c := c.iconst 13 at_12 1 (by decide)
  replace c := c.iand 14 at_13
  obtain ⟨d, c⟩ : ∃ d : Int32, OAt G K M_law [] 0 0 h0 24 #[.val (.int x0), .val (.long x1), .second, .val (.long x2), .second, .val (.int ((x0 &&& 7) % 7)), .val (.int d), .unset, .unset, .unset, .unset, .unset, .unset, .unset, .unset, .unset] [] := by
    by_cases q18 : ((Jvm.Free.XT.ushr x0 3) &&& 1) = 0
    · skip
      replace c := c.ifT 21 at_14 (own_if_eq_t q18)
      replace c := c.iconst 22 at_21 0 (by decide)
      replace c := c.istore 24 at_22 #[.val (.int x0), .val (.long x1), .second, .val (.long x2), .second, .val (.int ((x0 &&& 7) % 7)), .val (.int 0), .unset, .unset, .unset, .unset, .unset, .unset, .unset, .unset, .unset] rfl
      exact ⟨_, c⟩
    · skip
      replace c := c.ifF 17 at_14 (own_if_eq_f q18)
      replace c := c.iconst 18 at_17 1 (by decide)
      replace c := c.goto 22 at_18
      replace c := c.istore 24 at_22 #[.val (.int x0), .val (.long x1), .second, .val (.long x2), .second, .val (.int ((x0 &&& 7) % 7)), .val (.int 1), .unset, .unset, .unset, .unset, .unset, .unset, .unset, .unset, .unset] rfl
      exact ⟨_, c⟩
  obtain ⟨k, hk, hk6⟩ : ∃ k : Nat, (x0 &&& 7) % 7 = Int32.ofNat k ∧ k < 7 := own_mod7 x0
  rw [hk] at c
  replace c : OAt G K M_law [] 0 0 h0 24 #[.val (.int x0), .val (.long x1), .second, .val (.long x2), .second, .val (.int (Int32.ofNat k)), .val (.int d), .unset, .unset, .unset, .unset, .unset, .unset, .unset, .unset, .unset] [] := c
  replace c := c.iloadN 25 at_24 rfl
  replace c := c.lloadN 26 at_25 rfl
  replace c := c.lloadN 27 at_26 rfl
  replace c := c.iload 29 at_27 rfl
  replace c := c.iconst 30 at_29 0 (by decide)
  obtain ⟨v, h1, sf, ⟨ch0, rfl, r0, hh⟩, c⟩ := c.callS (y := y_pick) (argsL := [.int x0, .long x1, .long x2, .int d, .int 0]) (rest := []) 33 at_30 (con_pick hG) rfl (hG.1 _ (List.mem_of_getElem? (i := 0) rfl)) (hG.1 _ (List.mem_of_getElem? (i := 1) rfl)) (hG.1 _ (List.mem_of_getElem? (i := 2) rfl)) (hG.1 _ (List.mem_of_getElem? (i := 3) rfl)) (lenOf pd_12 rfl) (by simp) (W := 0) rfl (by decide) (by decide) (by decide) (by decide)
  rw [hh] at c
  replace c := c [] (by simp)
  replace c : OAt G K M_law [] 0 0 h0 33 #[.val (.int x0), .val (.long x1), .second, .val (.long x2), .second, .val (.int (Int32.ofNat k)), .val (.int d), .unset, .unset, .unset, .unset, .unset, .unset, .unset, .unset, .unset] [.int ch0] := c
  replace c := c.istore 35 at_33 #[.val (.int x0), .val (.long x1), .second, .val (.long x2), .second, .val (.int (Int32.ofNat k)), .val (.int d), .val (.int ch0), .unset, .unset, .unset, .unset, .unset, .unset, .unset, .unset] rfl
  replace c := c.iloadN 36 at_35 rfl
  replace c := c.lloadN 37 at_36 rfl
  replace c := c.lloadN 38 at_37 rfl
  replace c := c.iload 40 at_38 rfl
  replace c := c.iconst 41 at_40 1 (by decide)
  obtain ⟨v, h2, sf, ⟨ch1, rfl, r1, hh⟩, c⟩ := c.callS (y := y_pick) (argsL := [.int x0, .long x1, .long x2, .int d, .int 1]) (rest := []) 44 at_41 (con_pick hG) rfl (hG.1 _ (List.mem_of_getElem? (i := 0) rfl)) (hG.1 _ (List.mem_of_getElem? (i := 1) rfl)) (hG.1 _ (List.mem_of_getElem? (i := 2) rfl)) (hG.1 _ (List.mem_of_getElem? (i := 3) rfl)) (lenOf pd_12 rfl) (by simp) (W := 0) rfl (by decide) (by decide) (by decide) (by decide)
  rw [hh] at c
  replace c := c [] (by simp)
  replace c : OAt G K M_law [] 0 0 h0 44 #[.val (.int x0), .val (.long x1), .second, .val (.long x2), .second, .val (.int (Int32.ofNat k)), .val (.int d), .val (.int ch0), .unset, .unset, .unset, .unset, .unset, .unset, .unset, .unset] [.int ch1] := c
  replace c := c.istore 46 at_44 #[.val (.int x0), .val (.long x1), .second, .val (.long x2), .second, .val (.int (Int32.ofNat k)), .val (.int d), .val (.int ch0), .val (.int ch1), .unset, .unset, .unset, .unset, .unset, .unset, .unset] rfl
  replace c := c.iloadN 47 at_46 rfl
  replace c := c.lloadN 48 at_47 rfl
  replace c := c.lloadN 49 at_48 rfl
  replace c := c.iload 51 at_49 rfl
  replace c := c.iconst 52 at_51 2 (by decide)
  obtain ⟨v, h3, sf, ⟨ch2, rfl, r2, hh⟩, c⟩ := c.callS (y := y_pick) (argsL := [.int x0, .long x1, .long x2, .int d, .int 2]) (rest := []) 55 at_52 (con_pick hG) rfl (hG.1 _ (List.mem_of_getElem? (i := 0) rfl)) (hG.1 _ (List.mem_of_getElem? (i := 1) rfl)) (hG.1 _ (List.mem_of_getElem? (i := 2) rfl)) (hG.1 _ (List.mem_of_getElem? (i := 3) rfl)) (lenOf pd_12 rfl) (by simp) (W := 0) rfl (by decide) (by decide) (by decide) (by decide)
  rw [hh] at c
  replace c := c [] (by simp)
  replace c : OAt G K M_law [] 0 0 h0 55 #[.val (.int x0), .val (.long x1), .second, .val (.long x2), .second, .val (.int (Int32.ofNat k)), .val (.int d), .val (.int ch0), .val (.int ch1), .unset, .unset, .unset, .unset, .unset, .unset, .unset] [.int ch2] := c
  replace c := c.istore 57 at_55 #[.val (.int x0), .val (.long x1), .second, .val (.long x2), .second, .val (.int (Int32.ofNat k)), .val (.int d), .val (.int ch0), .val (.int ch1), .val (.int ch2), .unset, .unset, .unset, .unset, .unset, .unset] rfl
  replace c := c.iloadN 58 at_57 rfl
  replace c := c.lloadN 59 at_58 rfl
  replace c := c.lloadN 60 at_59 rfl
  replace c := c.iload 62 at_60 rfl
  replace c := c.iconst 63 at_62 3 (by decide)
  obtain ⟨v, h4, sf, ⟨ch3, rfl, r3, hh⟩, c⟩ := c.callS (y := y_pick) (argsL := [.int x0, .long x1, .long x2, .int d, .int 3]) (rest := []) 66 at_63 (con_pick hG) rfl (hG.1 _ (List.mem_of_getElem? (i := 0) rfl)) (hG.1 _ (List.mem_of_getElem? (i := 1) rfl)) (hG.1 _ (List.mem_of_getElem? (i := 2) rfl)) (hG.1 _ (List.mem_of_getElem? (i := 3) rfl)) (lenOf pd_12 rfl) (by simp) (W := 0) rfl (by decide) (by decide) (by decide) (by decide)
  rw [hh] at c
  replace c := c [] (by simp)
  replace c : OAt G K M_law [] 0 0 h0 66 #[.val (.int x0), .val (.long x1), .second, .val (.long x2), .second, .val (.int (Int32.ofNat k)), .val (.int d), .val (.int ch0), .val (.int ch1), .val (.int ch2), .unset, .unset, .unset, .unset, .unset, .unset] [.int ch3] := c
  replace c := c.istore 68 at_66 #[.val (.int x0), .val (.long x1), .second, .val (.long x2), .second, .val (.int (Int32.ofNat k)), .val (.int d), .val (.int ch0), .val (.int ch1), .val (.int ch2), .val (.int ch3), .unset, .unset, .unset, .unset, .unset] rfl
  replace c := c.iloadN 69 at_68 rfl
  replace c := c.lloadN 70 at_69 rfl
  replace c := c.lloadN 71 at_70 rfl
  replace c := c.iload 73 at_71 rfl
  replace c := c.iconst 74 at_73 4 (by decide)
  obtain ⟨v, h5, sf, ⟨ch4, rfl, r4, hh⟩, c⟩ := c.callS (y := y_pick) (argsL := [.int x0, .long x1, .long x2, .int d, .int 4]) (rest := []) 77 at_74 (con_pick hG) rfl (hG.1 _ (List.mem_of_getElem? (i := 0) rfl)) (hG.1 _ (List.mem_of_getElem? (i := 1) rfl)) (hG.1 _ (List.mem_of_getElem? (i := 2) rfl)) (hG.1 _ (List.mem_of_getElem? (i := 3) rfl)) (lenOf pd_12 rfl) (by simp) (W := 0) rfl (by decide) (by decide) (by decide) (by decide)
  rw [hh] at c
  replace c := c [] (by simp)
  replace c : OAt G K M_law [] 0 0 h0 77 #[.val (.int x0), .val (.long x1), .second, .val (.long x2), .second, .val (.int (Int32.ofNat k)), .val (.int d), .val (.int ch0), .val (.int ch1), .val (.int ch2), .val (.int ch3), .unset, .unset, .unset, .unset, .unset] [.int ch4] := c
  replace c := c.istore 79 at_77 #[.val (.int x0), .val (.long x1), .second, .val (.long x2), .second, .val (.int (Int32.ofNat k)), .val (.int d), .val (.int ch0), .val (.int ch1), .val (.int ch2), .val (.int ch3), .val (.int ch4), .unset, .unset, .unset, .unset] rfl
  replace c := c.iloadN 80 at_79 rfl
  replace c := c.lloadN 81 at_80 rfl
  replace c := c.lloadN 82 at_81 rfl
  replace c := c.iload 84 at_82 rfl
  replace c := c.iconst 85 at_84 5 (by decide)
  obtain ⟨v, h6, sf, ⟨ch5, rfl, r5, hh⟩, c⟩ := c.callS (y := y_pick) (argsL := [.int x0, .long x1, .long x2, .int d, .int 5]) (rest := []) 88 at_85 (con_pick hG) rfl (hG.1 _ (List.mem_of_getElem? (i := 0) rfl)) (hG.1 _ (List.mem_of_getElem? (i := 1) rfl)) (hG.1 _ (List.mem_of_getElem? (i := 2) rfl)) (hG.1 _ (List.mem_of_getElem? (i := 3) rfl)) (lenOf pd_12 rfl) (by simp) (W := 0) rfl (by decide) (by decide) (by decide) (by decide)
  rw [hh] at c
  replace c := c [] (by simp)
  replace c : OAt G K M_law [] 0 0 h0 88 #[.val (.int x0), .val (.long x1), .second, .val (.long x2), .second, .val (.int (Int32.ofNat k)), .val (.int d), .val (.int ch0), .val (.int ch1), .val (.int ch2), .val (.int ch3), .val (.int ch4), .unset, .unset, .unset, .unset] [.int ch5] := c
  replace c := c.istore 90 at_88 #[.val (.int x0), .val (.long x1), .second, .val (.long x2), .second, .val (.int (Int32.ofNat k)), .val (.int d), .val (.int ch0), .val (.int ch1), .val (.int ch2), .val (.int ch3), .val (.int ch4), .val (.int ch5), .unset, .unset, .unset] rfl
  have hks : k = 0 ∨ k = 1 ∨ k = 2 ∨ k = 3 ∨ k = 4 ∨ k = 5 ∨ k = 6 := by omega
  rcases hks with rfl | rfl | rfl | rfl | rfl | rfl | rfl
  · skip
    replace c : OAt G K M_law [] 0 0 h0 90 #[.val (.int x0), .val (.long x1), .second, .val (.long x2), .second, .val (.int 0), .val (.int d), .val (.int ch0), .val (.int ch1), .val (.int ch2), .val (.int ch3), .val (.int ch4), .val (.int ch5), .unset, .unset, .unset] [] := c
    replace c := c.iload 92 at_90 rfl
    replace c := c.iload 94 at_92 rfl
    replace c := c.iload 96 at_94 rfl
    replace c := c.iload 98 at_96 rfl
    replace c := c.iload 100 at_98 rfl
    replace c := c.iload 102 at_100 rfl
    replace c := c.iload 104 at_102 rfl
    obtain ⟨v, h7, sf, ⟨a, rfl, K1, S1⟩, c⟩ := c.callS (y := y_text0) (argsL := [.int 0, .int ch0, .int ch1, .int ch2, .int ch3, .int ch4, .int ch5]) (rest := []) 107 at_104 (con_text0 hG r0 r1 r2 r3 r4 r5) rfl (hG.1 _ (List.mem_of_getElem? (i := 7) rfl)) (hG.1 _ (List.mem_of_getElem? (i := 8) rfl)) (hG.1 _ (List.mem_of_getElem? (i := 2) rfl)) (hG.1 _ (List.mem_of_getElem? (i := 9) rfl)) (lenOf pd_13 rfl) (by simp) (W := 0) rfl (by decide) (by decide) (by decide) (by decide)
    replace c := c [] (by simp)
    replace c : OAt G K M_law [] 6 22 h7 107 #[.val (.int x0), .val (.long x1), .second, .val (.long x2), .second, .val (.int 0), .val (.int d), .val (.int ch0), .val (.int ch1), .val (.int ch2), .val (.int ch3), .val (.int ch4), .val (.int ch5), .unset, .unset, .unset] [.ref a] := c
    replace c := c.astore 109 at_107 rfl #[.val (.int x0), .val (.long x1), .second, .val (.long x2), .second, .val (.int 0), .val (.int d), .val (.int ch0), .val (.int ch1), .val (.int ch2), .val (.int ch3), .val (.int ch4), .val (.int ch5), .val (.ref a), .unset, .unset] rfl
    replace c := c.iload 111 at_109 rfl
    replace c := c.iconst 112 at_111 5 (by decide)
    replace c := c.icT 154 at_112 (own_ic_ne_t (by decide))
    replace c := c.iconst 155 at_154 0 (by decide)
    replace c := c.istore 157 at_155 #[.val (.int x0), .val (.long x1), .second, .val (.long x2), .second, .val (.int 0), .val (.int d), .val (.int ch0), .val (.int ch1), .val (.int ch2), .val (.int ch3), .val (.int ch4), .val (.int ch5), .val (.ref a), .val (.int 0), .unset] rfl
    replace c := c.iload 159 at_157 rfl
    replace c := c.iconst 160 at_159 4 (by decide)
    replace c := c.icT 195 at_160 (own_ic_ne_t (by decide))
    replace c := c.iconst 196 at_195 0 (by decide)
    replace c := c.istore 198 at_196 #[.val (.int x0), .val (.long x1), .second, .val (.long x2), .second, .val (.int 0), .val (.int d), .val (.int ch0), .val (.int ch1), .val (.int ch2), .val (.int ch3), .val (.int ch4), .val (.int ch5), .val (.ref a), .val (.int 0), .val (.int 0)] rfl
    replace c := c.aload 200 at_198 rfl rfl
    obtain ⟨v, h8, sf, ⟨r, rfl, h01, hiff, K2⟩, c⟩ := c.callS (y := y_isd) (argsL := [.ref a]) (rest := []) 203 at_200 (con_isd hG S1) rfl (hG.1 _ (List.mem_of_getElem? (i := 32) rfl)) (hG.1 _ (List.mem_of_getElem? (i := 33) rfl)) (hG.1 _ (List.mem_of_getElem? (i := 34) rfl)) (hG.1 _ (List.mem_of_getElem? (i := 35) rfl)) (lenOf pd_14 rfl) (by simp) (W := 0) rfl (by decide) (by decide) (by decide) (by decide)
    replace c := c [] (by simp)
    replace c : OAt G K M_law [] 10 66 h8 203 #[.val (.int x0), .val (.long x1), .second, .val (.long x2), .second, .val (.int 0), .val (.int d), .val (.int ch0), .val (.int ch1), .val (.int ch2), .val (.int ch3), .val (.int ch4), .val (.int ch5), .val (.ref a), .val (.int 0), .val (.int 0)] [.int r] := c
    have hr : r = 0 := h01.resolve_left (fun e => absurd (hiff.mp e) (by simp))
    subst hr
    replace c := c.iload 205 at_203 rfl
    replace c := c.ifF 208 at_205 (own_if_ne_f (by decide))
    replace c := c.iload 210 at_208 rfl
    replace c := c.ifT 217 at_210 (own_if_eq_t (by decide))
    replace c := c.iconst 218 at_217 0 (by decide)
    replace c := c.icF 221 at_218 (own_ic_ne_f (by decide))
    replace c := c.iconst 222 at_221 1 (by decide)
    replace c := c.goto 226 at_222
    exact c.reti (t := .boolean) at_226 rfl rfl (by simp) (fun sf hs => rfl) (by decide) (by decide)
  · skip
    replace c : OAt G K M_law [] 0 0 h0 90 #[.val (.int x0), .val (.long x1), .second, .val (.long x2), .second, .val (.int 1), .val (.int d), .val (.int ch0), .val (.int ch1), .val (.int ch2), .val (.int ch3), .val (.int ch4), .val (.int ch5), .unset, .unset, .unset] [] := c
    replace c := c.iload 92 at_90 rfl
    replace c := c.iload 94 at_92 rfl
    replace c := c.iload 96 at_94 rfl
    replace c := c.iload 98 at_96 rfl
    replace c := c.iload 100 at_98 rfl
    replace c := c.iload 102 at_100 rfl
    replace c := c.iload 104 at_102 rfl
    obtain ⟨v, h7, sf, ⟨a, rfl, K1, S1⟩, c⟩ := c.callS (y := y_text1) (argsL := [.int 1, .int ch0, .int ch1, .int ch2, .int ch3, .int ch4, .int ch5]) (rest := []) 107 at_104 (con_text1 hG r0 r1 r2 r3 r4 r5) rfl (hG.1 _ (List.mem_of_getElem? (i := 7) rfl)) (hG.1 _ (List.mem_of_getElem? (i := 8) rfl)) (hG.1 _ (List.mem_of_getElem? (i := 2) rfl)) (hG.1 _ (List.mem_of_getElem? (i := 9) rfl)) (lenOf pd_13 rfl) (by simp) (W := 0) rfl (by decide) (by decide) (by decide) (by decide)
    replace c := c [] (by simp)
    replace c : OAt G K M_law [] 6 23 h7 107 #[.val (.int x0), .val (.long x1), .second, .val (.long x2), .second, .val (.int 1), .val (.int d), .val (.int ch0), .val (.int ch1), .val (.int ch2), .val (.int ch3), .val (.int ch4), .val (.int ch5), .unset, .unset, .unset] [.ref a] := c
    replace c := c.astore 109 at_107 rfl #[.val (.int x0), .val (.long x1), .second, .val (.long x2), .second, .val (.int 1), .val (.int d), .val (.int ch0), .val (.int ch1), .val (.int ch2), .val (.int ch3), .val (.int ch4), .val (.int ch5), .val (.ref a), .unset, .unset] rfl
    replace c := c.iload 111 at_109 rfl
    replace c := c.iconst 112 at_111 5 (by decide)
    replace c := c.icT 154 at_112 (own_ic_ne_t (by decide))
    replace c := c.iconst 155 at_154 0 (by decide)
    replace c := c.istore 157 at_155 #[.val (.int x0), .val (.long x1), .second, .val (.long x2), .second, .val (.int 1), .val (.int d), .val (.int ch0), .val (.int ch1), .val (.int ch2), .val (.int ch3), .val (.int ch4), .val (.int ch5), .val (.ref a), .val (.int 0), .unset] rfl
    replace c := c.iload 159 at_157 rfl
    replace c := c.iconst 160 at_159 4 (by decide)
    replace c := c.icT 195 at_160 (own_ic_ne_t (by decide))
    replace c := c.iconst 196 at_195 0 (by decide)
    replace c := c.istore 198 at_196 #[.val (.int x0), .val (.long x1), .second, .val (.long x2), .second, .val (.int 1), .val (.int d), .val (.int ch0), .val (.int ch1), .val (.int ch2), .val (.int ch3), .val (.int ch4), .val (.int ch5), .val (.ref a), .val (.int 0), .val (.int 0)] rfl
    replace c := c.aload 200 at_198 rfl rfl
    obtain ⟨v, h8, sf, ⟨r, rfl, h01, hiff, K2⟩, c⟩ := c.callS (y := y_isd) (argsL := [.ref a]) (rest := []) 203 at_200 (con_isd hG S1) rfl (hG.1 _ (List.mem_of_getElem? (i := 32) rfl)) (hG.1 _ (List.mem_of_getElem? (i := 33) rfl)) (hG.1 _ (List.mem_of_getElem? (i := 34) rfl)) (hG.1 _ (List.mem_of_getElem? (i := 35) rfl)) (lenOf pd_14 rfl) (by simp) (W := 0) rfl (by decide) (by decide) (by decide) (by decide)
    replace c := c [] (by simp)
    replace c : OAt G K M_law [] 10 67 h8 203 #[.val (.int x0), .val (.long x1), .second, .val (.long x2), .second, .val (.int 1), .val (.int d), .val (.int ch0), .val (.int ch1), .val (.int ch2), .val (.int ch3), .val (.int ch4), .val (.int ch5), .val (.ref a), .val (.int 0), .val (.int 0)] [.int r] := c
    have hr : r = 0 := h01.resolve_left (fun e => absurd (hiff.mp e) (by simp))
    subst hr
    replace c := c.iload 205 at_203 rfl
    replace c := c.ifF 208 at_205 (own_if_ne_f (by decide))
    replace c := c.iload 210 at_208 rfl
    replace c := c.ifT 217 at_210 (own_if_eq_t (by decide))
    replace c := c.iconst 218 at_217 0 (by decide)
    replace c := c.icF 221 at_218 (own_ic_ne_f (by decide))
    replace c := c.iconst 222 at_221 1 (by decide)
    replace c := c.goto 226 at_222
    exact c.reti (t := .boolean) at_226 rfl rfl (by simp) (fun sf hs => rfl) (by decide) (by decide)
  · skip
    replace c : OAt G K M_law [] 0 0 h0 90 #[.val (.int x0), .val (.long x1), .second, .val (.long x2), .second, .val (.int 2), .val (.int d), .val (.int ch0), .val (.int ch1), .val (.int ch2), .val (.int ch3), .val (.int ch4), .val (.int ch5), .unset, .unset, .unset] [] := c
    replace c := c.iload 92 at_90 rfl
    replace c := c.iload 94 at_92 rfl
    replace c := c.iload 96 at_94 rfl
    replace c := c.iload 98 at_96 rfl
    replace c := c.iload 100 at_98 rfl
    replace c := c.iload 102 at_100 rfl
    replace c := c.iload 104 at_102 rfl
    obtain ⟨v, h7, sf, ⟨a, rfl, K1, S1⟩, c⟩ := c.callS (y := y_text2) (argsL := [.int 2, .int ch0, .int ch1, .int ch2, .int ch3, .int ch4, .int ch5]) (rest := []) 107 at_104 (con_text2 hG r0 r1 r2 r3 r4 r5) rfl (hG.1 _ (List.mem_of_getElem? (i := 7) rfl)) (hG.1 _ (List.mem_of_getElem? (i := 8) rfl)) (hG.1 _ (List.mem_of_getElem? (i := 2) rfl)) (hG.1 _ (List.mem_of_getElem? (i := 9) rfl)) (lenOf pd_13 rfl) (by simp) (W := 0) rfl (by decide) (by decide) (by decide) (by decide)
    replace c := c [] (by simp)
    replace c : OAt G K M_law [] 6 24 h7 107 #[.val (.int x0), .val (.long x1), .second, .val (.long x2), .second, .val (.int 2), .val (.int d), .val (.int ch0), .val (.int ch1), .val (.int ch2), .val (.int ch3), .val (.int ch4), .val (.int ch5), .unset, .unset, .unset] [.ref a] := c
    replace c := c.astore 109 at_107 rfl #[.val (.int x0), .val (.long x1), .second, .val (.long x2), .second, .val (.int 2), .val (.int d), .val (.int ch0), .val (.int ch1), .val (.int ch2), .val (.int ch3), .val (.int ch4), .val (.int ch5), .val (.ref a), .unset, .unset] rfl
    replace c := c.iload 111 at_109 rfl
    replace c := c.iconst 112 at_111 5 (by decide)
    replace c := c.icT 154 at_112 (own_ic_ne_t (by decide))
    replace c := c.iconst 155 at_154 0 (by decide)
    replace c := c.istore 157 at_155 #[.val (.int x0), .val (.long x1), .second, .val (.long x2), .second, .val (.int 2), .val (.int d), .val (.int ch0), .val (.int ch1), .val (.int ch2), .val (.int ch3), .val (.int ch4), .val (.int ch5), .val (.ref a), .val (.int 0), .unset] rfl
    replace c := c.iload 159 at_157 rfl
    replace c := c.iconst 160 at_159 4 (by decide)
    replace c := c.icT 195 at_160 (own_ic_ne_t (by decide))
    replace c := c.iconst 196 at_195 0 (by decide)
    replace c := c.istore 198 at_196 #[.val (.int x0), .val (.long x1), .second, .val (.long x2), .second, .val (.int 2), .val (.int d), .val (.int ch0), .val (.int ch1), .val (.int ch2), .val (.int ch3), .val (.int ch4), .val (.int ch5), .val (.ref a), .val (.int 0), .val (.int 0)] rfl
    replace c := c.aload 200 at_198 rfl rfl
    obtain ⟨v, h8, sf, ⟨r, rfl, h01, hiff, K2⟩, c⟩ := c.callS (y := y_isd) (argsL := [.ref a]) (rest := []) 203 at_200 (con_isd hG S1) rfl (hG.1 _ (List.mem_of_getElem? (i := 32) rfl)) (hG.1 _ (List.mem_of_getElem? (i := 33) rfl)) (hG.1 _ (List.mem_of_getElem? (i := 34) rfl)) (hG.1 _ (List.mem_of_getElem? (i := 35) rfl)) (lenOf pd_14 rfl) (by simp) (W := 0) rfl (by decide) (by decide) (by decide) (by decide)
    replace c := c [] (by simp)
    replace c : OAt G K M_law [] 10 68 h8 203 #[.val (.int x0), .val (.long x1), .second, .val (.long x2), .second, .val (.int 2), .val (.int d), .val (.int ch0), .val (.int ch1), .val (.int ch2), .val (.int ch3), .val (.int ch4), .val (.int ch5), .val (.ref a), .val (.int 0), .val (.int 0)] [.int r] := c
    have hr : r = 0 := h01.resolve_left (fun e => absurd (hiff.mp e) (by simp))
    subst hr
    replace c := c.iload 205 at_203 rfl
    replace c := c.ifF 208 at_205 (own_if_ne_f (by decide))
    replace c := c.iload 210 at_208 rfl
    replace c := c.ifT 217 at_210 (own_if_eq_t (by decide))
    replace c := c.iconst 218 at_217 0 (by decide)
    replace c := c.icF 221 at_218 (own_ic_ne_f (by decide))
    replace c := c.iconst 222 at_221 1 (by decide)
    replace c := c.goto 226 at_222
    exact c.reti (t := .boolean) at_226 rfl rfl (by simp) (fun sf hs => rfl) (by decide) (by decide)
  · skip
    replace c : OAt G K M_law [] 0 0 h0 90 #[.val (.int x0), .val (.long x1), .second, .val (.long x2), .second, .val (.int 3), .val (.int d), .val (.int ch0), .val (.int ch1), .val (.int ch2), .val (.int ch3), .val (.int ch4), .val (.int ch5), .unset, .unset, .unset] [] := c
    replace c := c.iload 92 at_90 rfl
    replace c := c.iload 94 at_92 rfl
    replace c := c.iload 96 at_94 rfl
    replace c := c.iload 98 at_96 rfl
    replace c := c.iload 100 at_98 rfl
    replace c := c.iload 102 at_100 rfl
    replace c := c.iload 104 at_102 rfl
    obtain ⟨v, h7, sf, ⟨a, rfl, K1, S1⟩, c⟩ := c.callS (y := y_text3) (argsL := [.int 3, .int ch0, .int ch1, .int ch2, .int ch3, .int ch4, .int ch5]) (rest := []) 107 at_104 (con_text3 hG r0 r1 r2 r3 r4 r5) rfl (hG.1 _ (List.mem_of_getElem? (i := 7) rfl)) (hG.1 _ (List.mem_of_getElem? (i := 8) rfl)) (hG.1 _ (List.mem_of_getElem? (i := 2) rfl)) (hG.1 _ (List.mem_of_getElem? (i := 9) rfl)) (lenOf pd_13 rfl) (by simp) (W := 0) rfl (by decide) (by decide) (by decide) (by decide)
    replace c := c [] (by simp)
    replace c : OAt G K M_law [] 6 25 h7 107 #[.val (.int x0), .val (.long x1), .second, .val (.long x2), .second, .val (.int 3), .val (.int d), .val (.int ch0), .val (.int ch1), .val (.int ch2), .val (.int ch3), .val (.int ch4), .val (.int ch5), .unset, .unset, .unset] [.ref a] := c
    replace c := c.astore 109 at_107 rfl #[.val (.int x0), .val (.long x1), .second, .val (.long x2), .second, .val (.int 3), .val (.int d), .val (.int ch0), .val (.int ch1), .val (.int ch2), .val (.int ch3), .val (.int ch4), .val (.int ch5), .val (.ref a), .unset, .unset] rfl
    replace c := c.iload 111 at_109 rfl
    replace c := c.iconst 112 at_111 5 (by decide)
    replace c := c.icT 154 at_112 (own_ic_ne_t (by decide))
    replace c := c.iconst 155 at_154 0 (by decide)
    replace c := c.istore 157 at_155 #[.val (.int x0), .val (.long x1), .second, .val (.long x2), .second, .val (.int 3), .val (.int d), .val (.int ch0), .val (.int ch1), .val (.int ch2), .val (.int ch3), .val (.int ch4), .val (.int ch5), .val (.ref a), .val (.int 0), .unset] rfl
    replace c := c.iload 159 at_157 rfl
    replace c := c.iconst 160 at_159 4 (by decide)
    replace c := c.icT 195 at_160 (own_ic_ne_t (by decide))
    replace c := c.iconst 196 at_195 0 (by decide)
    replace c := c.istore 198 at_196 #[.val (.int x0), .val (.long x1), .second, .val (.long x2), .second, .val (.int 3), .val (.int d), .val (.int ch0), .val (.int ch1), .val (.int ch2), .val (.int ch3), .val (.int ch4), .val (.int ch5), .val (.ref a), .val (.int 0), .val (.int 0)] rfl
    replace c := c.aload 200 at_198 rfl rfl
    obtain ⟨v, h8, sf, ⟨r, rfl, h01, hiff, K2⟩, c⟩ := c.callS (y := y_isd) (argsL := [.ref a]) (rest := []) 203 at_200 (con_isd hG S1) rfl (hG.1 _ (List.mem_of_getElem? (i := 32) rfl)) (hG.1 _ (List.mem_of_getElem? (i := 33) rfl)) (hG.1 _ (List.mem_of_getElem? (i := 34) rfl)) (hG.1 _ (List.mem_of_getElem? (i := 35) rfl)) (lenOf pd_14 rfl) (by simp) (W := 0) rfl (by decide) (by decide) (by decide) (by decide)
    replace c := c [] (by simp)
    replace c : OAt G K M_law [] 10 69 h8 203 #[.val (.int x0), .val (.long x1), .second, .val (.long x2), .second, .val (.int 3), .val (.int d), .val (.int ch0), .val (.int ch1), .val (.int ch2), .val (.int ch3), .val (.int ch4), .val (.int ch5), .val (.ref a), .val (.int 0), .val (.int 0)] [.int r] := c
    have hr : r = 0 := h01.resolve_left (fun e => absurd (hiff.mp e) (by simp))
    subst hr
    replace c := c.iload 205 at_203 rfl
    replace c := c.ifF 208 at_205 (own_if_ne_f (by decide))
    replace c := c.iload 210 at_208 rfl
    replace c := c.ifT 217 at_210 (own_if_eq_t (by decide))
    replace c := c.iconst 218 at_217 0 (by decide)
    replace c := c.icF 221 at_218 (own_ic_ne_f (by decide))
    replace c := c.iconst 222 at_221 1 (by decide)
    replace c := c.goto 226 at_222
    exact c.reti (t := .boolean) at_226 rfl rfl (by simp) (fun sf hs => rfl) (by decide) (by decide)
  · skip
    replace c : OAt G K M_law [] 0 0 h0 90 #[.val (.int x0), .val (.long x1), .second, .val (.long x2), .second, .val (.int 4), .val (.int d), .val (.int ch0), .val (.int ch1), .val (.int ch2), .val (.int ch3), .val (.int ch4), .val (.int ch5), .unset, .unset, .unset] [] := c
    replace c := c.iload 92 at_90 rfl
    replace c := c.iload 94 at_92 rfl
    replace c := c.iload 96 at_94 rfl
    replace c := c.iload 98 at_96 rfl
    replace c := c.iload 100 at_98 rfl
    replace c := c.iload 102 at_100 rfl
    replace c := c.iload 104 at_102 rfl
    obtain ⟨v, h7, sf, ⟨a, rfl, K1, S1⟩, c⟩ := c.callS (y := y_text4) (argsL := [.int 4, .int ch0, .int ch1, .int ch2, .int ch3, .int ch4, .int ch5]) (rest := []) 107 at_104 (con_text4 hG r0 r1 r2 r3 r4 r5) rfl (hG.1 _ (List.mem_of_getElem? (i := 7) rfl)) (hG.1 _ (List.mem_of_getElem? (i := 8) rfl)) (hG.1 _ (List.mem_of_getElem? (i := 2) rfl)) (hG.1 _ (List.mem_of_getElem? (i := 9) rfl)) (lenOf pd_13 rfl) (by simp) (W := 0) rfl (by decide) (by decide) (by decide) (by decide)
    replace c := c [] (by simp)
    replace c : OAt G K M_law [] 6 26 h7 107 #[.val (.int x0), .val (.long x1), .second, .val (.long x2), .second, .val (.int 4), .val (.int d), .val (.int ch0), .val (.int ch1), .val (.int ch2), .val (.int ch3), .val (.int ch4), .val (.int ch5), .unset, .unset, .unset] [.ref a] := c
    replace c := c.astore 109 at_107 rfl #[.val (.int x0), .val (.long x1), .second, .val (.long x2), .second, .val (.int 4), .val (.int d), .val (.int ch0), .val (.int ch1), .val (.int ch2), .val (.int ch3), .val (.int ch4), .val (.int ch5), .val (.ref a), .unset, .unset] rfl
    replace c := c.iload 111 at_109 rfl
    replace c := c.iconst 112 at_111 5 (by decide)
    replace c := c.icT 154 at_112 (own_ic_ne_t (by decide))
    replace c := c.iconst 155 at_154 0 (by decide)
    replace c := c.istore 157 at_155 #[.val (.int x0), .val (.long x1), .second, .val (.long x2), .second, .val (.int 4), .val (.int d), .val (.int ch0), .val (.int ch1), .val (.int ch2), .val (.int ch3), .val (.int ch4), .val (.int ch5), .val (.ref a), .val (.int 0), .unset] rfl
    replace c := c.iload 159 at_157 rfl
    replace c := c.iconst 160 at_159 4 (by decide)
    replace c := c.icF 163 at_160 (own_ic_ne_f (by decide))
    replace c := c.iload 165 at_163 rfl
    replace c := c.bipush 167 at_165 100 (by decide)
    by_cases q19 : ch0 = 100
    · skip
      replace c := c.icF 170 at_167 (own_ic_ne_f q19)
      replace c := c.iload 172 at_170 rfl
      replace c := c.bipush 174 at_172 101 (by decide)
      by_cases q20 : ch1 = 101
      · skip
        replace c := c.icF 177 at_174 (own_ic_ne_f q20)
        replace c := c.iload 179 at_177 rfl
        replace c := c.bipush 181 at_179 110 (by decide)
        by_cases q21 : ch2 = 110
        · skip
          replace c := c.icF 184 at_181 (own_ic_ne_f q21)
          replace c := c.iload 186 at_184 rfl
          replace c := c.bipush 188 at_186 121 (by decide)
          by_cases q22 : ch3 = 121
          · skip
            replace c := c.icF 191 at_188 (own_ic_ne_f q22)
            replace c := c.iconst 192 at_191 1 (by decide)
            replace c := c.goto 196 at_192
            replace c := c.istore 198 at_196 #[.val (.int x0), .val (.long x1), .second, .val (.long x2), .second, .val (.int 4), .val (.int d), .val (.int ch0), .val (.int ch1), .val (.int ch2), .val (.int ch3), .val (.int ch4), .val (.int ch5), .val (.ref a), .val (.int 0), .val (.int 1)] rfl
            replace c := c.aload 200 at_198 rfl rfl
            obtain ⟨v, h8, sf, ⟨r, rfl, h01, hiff, K2⟩, c⟩ := c.callS (y := y_isd) (argsL := [.ref a]) (rest := []) 203 at_200 (con_isd hG S1) rfl (hG.1 _ (List.mem_of_getElem? (i := 32) rfl)) (hG.1 _ (List.mem_of_getElem? (i := 33) rfl)) (hG.1 _ (List.mem_of_getElem? (i := 34) rfl)) (hG.1 _ (List.mem_of_getElem? (i := 35) rfl)) (lenOf pd_14 rfl) (by simp) (W := 0) rfl (by decide) (by decide) (by decide) (by decide)
            replace c := c [] (by simp)
            replace c : OAt G K M_law [] 10 70 h8 203 #[.val (.int x0), .val (.long x1), .second, .val (.long x2), .second, .val (.int 4), .val (.int d), .val (.int ch0), .val (.int ch1), .val (.int ch2), .val (.int ch3), .val (.int ch4), .val (.int ch5), .val (.ref a), .val (.int 0), .val (.int 1)] [.int r] := c
            have hr : r = 1 := hiff.mpr (by simp [q19, q20, q21, q22])
            subst hr
            replace c := c.iload 205 at_203 rfl
            replace c := c.ifF 208 at_205 (own_if_ne_f (by decide))
            replace c := c.iload 210 at_208 rfl
            replace c := c.ifF 213 at_210 (own_if_eq_f (by decide))
            replace c := c.iconst 214 at_213 1 (by decide)
            replace c := c.goto 218 at_214
            replace c := c.icF 221 at_218 (own_ic_ne_f (by decide))
            replace c := c.iconst 222 at_221 1 (by decide)
            replace c := c.goto 226 at_222
            exact c.reti (t := .boolean) at_226 rfl rfl (by simp) (fun sf hs => rfl) (by decide) (by decide)
          · skip
            replace c := c.icT 195 at_188 (own_ic_ne_t q22)
            replace c := c.iconst 196 at_195 0 (by decide)
            replace c := c.istore 198 at_196 #[.val (.int x0), .val (.long x1), .second, .val (.long x2), .second, .val (.int 4), .val (.int d), .val (.int ch0), .val (.int ch1), .val (.int ch2), .val (.int ch3), .val (.int ch4), .val (.int ch5), .val (.ref a), .val (.int 0), .val (.int 0)] rfl
            replace c := c.aload 200 at_198 rfl rfl
            obtain ⟨v, h8, sf, ⟨r, rfl, h01, hiff, K2⟩, c⟩ := c.callS (y := y_isd) (argsL := [.ref a]) (rest := []) 203 at_200 (con_isd hG S1) rfl (hG.1 _ (List.mem_of_getElem? (i := 32) rfl)) (hG.1 _ (List.mem_of_getElem? (i := 33) rfl)) (hG.1 _ (List.mem_of_getElem? (i := 34) rfl)) (hG.1 _ (List.mem_of_getElem? (i := 35) rfl)) (lenOf pd_14 rfl) (by simp) (W := 0) rfl (by decide) (by decide) (by decide) (by decide)
            replace c := c [] (by simp)
            replace c : OAt G K M_law [] 10 70 h8 203 #[.val (.int x0), .val (.long x1), .second, .val (.long x2), .second, .val (.int 4), .val (.int d), .val (.int ch0), .val (.int ch1), .val (.int ch2), .val (.int ch3), .val (.int ch4), .val (.int ch5), .val (.ref a), .val (.int 0), .val (.int 0)] [.int r] := c
            have hr : r = 0 := h01.resolve_left (fun e => absurd (hiff.mp e) (by simp [q19, q20, q21, q22]))
            subst hr
            replace c := c.iload 205 at_203 rfl
            replace c := c.ifF 208 at_205 (own_if_ne_f (by decide))
            replace c := c.iload 210 at_208 rfl
            replace c := c.ifT 217 at_210 (own_if_eq_t (by decide))
            replace c := c.iconst 218 at_217 0 (by decide)
            replace c := c.icF 221 at_218 (own_ic_ne_f (by decide))
            replace c := c.iconst 222 at_221 1 (by decide)
            replace c := c.goto 226 at_222
            exact c.reti (t := .boolean) at_226 rfl rfl (by simp) (fun sf hs => rfl) (by decide) (by decide)
        · skip
          replace c := c.icT 195 at_181 (own_ic_ne_t q21)
          replace c := c.iconst 196 at_195 0 (by decide)
          replace c := c.istore 198 at_196 #[.val (.int x0), .val (.long x1), .second, .val (.long x2), .second, .val (.int 4), .val (.int d), .val (.int ch0), .val (.int ch1), .val (.int ch2), .val (.int ch3), .val (.int ch4), .val (.int ch5), .val (.ref a), .val (.int 0), .val (.int 0)] rfl
          replace c := c.aload 200 at_198 rfl rfl
          obtain ⟨v, h8, sf, ⟨r, rfl, h01, hiff, K2⟩, c⟩ := c.callS (y := y_isd) (argsL := [.ref a]) (rest := []) 203 at_200 (con_isd hG S1) rfl (hG.1 _ (List.mem_of_getElem? (i := 32) rfl)) (hG.1 _ (List.mem_of_getElem? (i := 33) rfl)) (hG.1 _ (List.mem_of_getElem? (i := 34) rfl)) (hG.1 _ (List.mem_of_getElem? (i := 35) rfl)) (lenOf pd_14 rfl) (by simp) (W := 0) rfl (by decide) (by decide) (by decide) (by decide)
          replace c := c [] (by simp)
          replace c : OAt G K M_law [] 10 70 h8 203 #[.val (.int x0), .val (.long x1), .second, .val (.long x2), .second, .val (.int 4), .val (.int d), .val (.int ch0), .val (.int ch1), .val (.int ch2), .val (.int ch3), .val (.int ch4), .val (.int ch5), .val (.ref a), .val (.int 0), .val (.int 0)] [.int r] := c
          have hr : r = 0 := h01.resolve_left (fun e => absurd (hiff.mp e) (by simp [q19, q20, q21]))
          subst hr
          replace c := c.iload 205 at_203 rfl
          replace c := c.ifF 208 at_205 (own_if_ne_f (by decide))
          replace c := c.iload 210 at_208 rfl
          replace c := c.ifT 217 at_210 (own_if_eq_t (by decide))
          replace c := c.iconst 218 at_217 0 (by decide)
          replace c := c.icF 221 at_218 (own_ic_ne_f (by decide))
          replace c := c.iconst 222 at_221 1 (by decide)
          replace c := c.goto 226 at_222
          exact c.reti (t := .boolean) at_226 rfl rfl (by simp) (fun sf hs => rfl) (by decide) (by decide)
      · skip
        replace c := c.icT 195 at_174 (own_ic_ne_t q20)
        replace c := c.iconst 196 at_195 0 (by decide)
        replace c := c.istore 198 at_196 #[.val (.int x0), .val (.long x1), .second, .val (.long x2), .second, .val (.int 4), .val (.int d), .val (.int ch0), .val (.int ch1), .val (.int ch2), .val (.int ch3), .val (.int ch4), .val (.int ch5), .val (.ref a), .val (.int 0), .val (.int 0)] rfl
        replace c := c.aload 200 at_198 rfl rfl
        obtain ⟨v, h8, sf, ⟨r, rfl, h01, hiff, K2⟩, c⟩ := c.callS (y := y_isd) (argsL := [.ref a]) (rest := []) 203 at_200 (con_isd hG S1) rfl (hG.1 _ (List.mem_of_getElem? (i := 32) rfl)) (hG.1 _ (List.mem_of_getElem? (i := 33) rfl)) (hG.1 _ (List.mem_of_getElem? (i := 34) rfl)) (hG.1 _ (List.mem_of_getElem? (i := 35) rfl)) (lenOf pd_14 rfl) (by simp) (W := 0) rfl (by decide) (by decide) (by decide) (by decide)
        replace c := c [] (by simp)
        replace c : OAt G K M_law [] 10 70 h8 203 #[.val (.int x0), .val (.long x1), .second, .val (.long x2), .second, .val (.int 4), .val (.int d), .val (.int ch0), .val (.int ch1), .val (.int ch2), .val (.int ch3), .val (.int ch4), .val (.int ch5), .val (.ref a), .val (.int 0), .val (.int 0)] [.int r] := c
        have hr : r = 0 := h01.resolve_left (fun e => absurd (hiff.mp e) (by simp [q19, q20]))
        subst hr
        replace c := c.iload 205 at_203 rfl
        replace c := c.ifF 208 at_205 (own_if_ne_f (by decide))
        replace c := c.iload 210 at_208 rfl
        replace c := c.ifT 217 at_210 (own_if_eq_t (by decide))
        replace c := c.iconst 218 at_217 0 (by decide)
        replace c := c.icF 221 at_218 (own_ic_ne_f (by decide))
        replace c := c.iconst 222 at_221 1 (by decide)
        replace c := c.goto 226 at_222
        exact c.reti (t := .boolean) at_226 rfl rfl (by simp) (fun sf hs => rfl) (by decide) (by decide)
    · skip
      replace c := c.icT 195 at_167 (own_ic_ne_t q19)
      replace c := c.iconst 196 at_195 0 (by decide)
      replace c := c.istore 198 at_196 #[.val (.int x0), .val (.long x1), .second, .val (.long x2), .second, .val (.int 4), .val (.int d), .val (.int ch0), .val (.int ch1), .val (.int ch2), .val (.int ch3), .val (.int ch4), .val (.int ch5), .val (.ref a), .val (.int 0), .val (.int 0)] rfl
      replace c := c.aload 200 at_198 rfl rfl
      obtain ⟨v, h8, sf, ⟨r, rfl, h01, hiff, K2⟩, c⟩ := c.callS (y := y_isd) (argsL := [.ref a]) (rest := []) 203 at_200 (con_isd hG S1) rfl (hG.1 _ (List.mem_of_getElem? (i := 32) rfl)) (hG.1 _ (List.mem_of_getElem? (i := 33) rfl)) (hG.1 _ (List.mem_of_getElem? (i := 34) rfl)) (hG.1 _ (List.mem_of_getElem? (i := 35) rfl)) (lenOf pd_14 rfl) (by simp) (W := 0) rfl (by decide) (by decide) (by decide) (by decide)
      replace c := c [] (by simp)
      replace c : OAt G K M_law [] 10 70 h8 203 #[.val (.int x0), .val (.long x1), .second, .val (.long x2), .second, .val (.int 4), .val (.int d), .val (.int ch0), .val (.int ch1), .val (.int ch2), .val (.int ch3), .val (.int ch4), .val (.int ch5), .val (.ref a), .val (.int 0), .val (.int 0)] [.int r] := c
      have hr : r = 0 := h01.resolve_left (fun e => absurd (hiff.mp e) (by simp [q19]))
      subst hr
      replace c := c.iload 205 at_203 rfl
      replace c := c.ifF 208 at_205 (own_if_ne_f (by decide))
      replace c := c.iload 210 at_208 rfl
      replace c := c.ifT 217 at_210 (own_if_eq_t (by decide))
      replace c := c.iconst 218 at_217 0 (by decide)
      replace c := c.icF 221 at_218 (own_ic_ne_f (by decide))
      replace c := c.iconst 222 at_221 1 (by decide)
      replace c := c.goto 226 at_222
      exact c.reti (t := .boolean) at_226 rfl rfl (by simp) (fun sf hs => rfl) (by decide) (by decide)
  · skip
    replace c : OAt G K M_law [] 0 0 h0 90 #[.val (.int x0), .val (.long x1), .second, .val (.long x2), .second, .val (.int 5), .val (.int d), .val (.int ch0), .val (.int ch1), .val (.int ch2), .val (.int ch3), .val (.int ch4), .val (.int ch5), .unset, .unset, .unset] [] := c
    replace c := c.iload 92 at_90 rfl
    replace c := c.iload 94 at_92 rfl
    replace c := c.iload 96 at_94 rfl
    replace c := c.iload 98 at_96 rfl
    replace c := c.iload 100 at_98 rfl
    replace c := c.iload 102 at_100 rfl
    replace c := c.iload 104 at_102 rfl
    obtain ⟨v, h7, sf, ⟨a, rfl, K1, S1⟩, c⟩ := c.callS (y := y_text5) (argsL := [.int 5, .int ch0, .int ch1, .int ch2, .int ch3, .int ch4, .int ch5]) (rest := []) 107 at_104 (con_text5 hG r0 r1 r2 r3 r4 r5) rfl (hG.1 _ (List.mem_of_getElem? (i := 7) rfl)) (hG.1 _ (List.mem_of_getElem? (i := 8) rfl)) (hG.1 _ (List.mem_of_getElem? (i := 2) rfl)) (hG.1 _ (List.mem_of_getElem? (i := 9) rfl)) (lenOf pd_13 rfl) (by simp) (W := 0) rfl (by decide) (by decide) (by decide) (by decide)
    replace c := c [] (by simp)
    replace c : OAt G K M_law [] 6 27 h7 107 #[.val (.int x0), .val (.long x1), .second, .val (.long x2), .second, .val (.int 5), .val (.int d), .val (.int ch0), .val (.int ch1), .val (.int ch2), .val (.int ch3), .val (.int ch4), .val (.int ch5), .unset, .unset, .unset] [.ref a] := c
    replace c := c.astore 109 at_107 rfl #[.val (.int x0), .val (.long x1), .second, .val (.long x2), .second, .val (.int 5), .val (.int d), .val (.int ch0), .val (.int ch1), .val (.int ch2), .val (.int ch3), .val (.int ch4), .val (.int ch5), .val (.ref a), .unset, .unset] rfl
    replace c := c.iload 111 at_109 rfl
    replace c := c.iconst 112 at_111 5 (by decide)
    replace c := c.icF 115 at_112 (own_ic_ne_f (by decide))
    replace c := c.iload 117 at_115 rfl
    replace c := c.bipush 119 at_117 97 (by decide)
    by_cases q23 : ch0 = 97
    · skip
      replace c := c.icF 122 at_119 (own_ic_ne_f q23)
      replace c := c.iload 124 at_122 rfl
      replace c := c.bipush 126 at_124 108 (by decide)
      by_cases q24 : ch1 = 108
      · skip
        replace c := c.icF 129 at_126 (own_ic_ne_f q24)
        replace c := c.iload 131 at_129 rfl
        replace c := c.bipush 133 at_131 108 (by decide)
        by_cases q25 : ch2 = 108
        · skip
          replace c := c.icF 136 at_133 (own_ic_ne_f q25)
          replace c := c.iload 138 at_136 rfl
          replace c := c.bipush 140 at_138 111 (by decide)
          by_cases q26 : ch3 = 111
          · skip
            replace c := c.icF 143 at_140 (own_ic_ne_f q26)
            replace c := c.iload 145 at_143 rfl
            replace c := c.bipush 147 at_145 119 (by decide)
            by_cases q27 : ch4 = 119
            · skip
              replace c := c.icF 150 at_147 (own_ic_ne_f q27)
              replace c := c.iconst 151 at_150 1 (by decide)
              replace c := c.goto 155 at_151
              replace c := c.istore 157 at_155 #[.val (.int x0), .val (.long x1), .second, .val (.long x2), .second, .val (.int 5), .val (.int d), .val (.int ch0), .val (.int ch1), .val (.int ch2), .val (.int ch3), .val (.int ch4), .val (.int ch5), .val (.ref a), .val (.int 1), .unset] rfl
              replace c := c.iload 159 at_157 rfl
              replace c := c.iconst 160 at_159 4 (by decide)
              replace c := c.icT 195 at_160 (own_ic_ne_t (by decide))
              replace c := c.iconst 196 at_195 0 (by decide)
              replace c := c.istore 198 at_196 #[.val (.int x0), .val (.long x1), .second, .val (.long x2), .second, .val (.int 5), .val (.int d), .val (.int ch0), .val (.int ch1), .val (.int ch2), .val (.int ch3), .val (.int ch4), .val (.int ch5), .val (.ref a), .val (.int 1), .val (.int 0)] rfl
              replace c := c.aload 200 at_198 rfl rfl
              obtain ⟨v, h8, sf, ⟨r, rfl, h01, hiff, K2⟩, c⟩ := c.callS (y := y_isd) (argsL := [.ref a]) (rest := []) 203 at_200 (con_isd hG S1) rfl (hG.1 _ (List.mem_of_getElem? (i := 32) rfl)) (hG.1 _ (List.mem_of_getElem? (i := 33) rfl)) (hG.1 _ (List.mem_of_getElem? (i := 34) rfl)) (hG.1 _ (List.mem_of_getElem? (i := 35) rfl)) (lenOf pd_14 rfl) (by simp) (W := 0) rfl (by decide) (by decide) (by decide) (by decide)
              replace c := c [] (by simp)
              replace c : OAt G K M_law [] 10 71 h8 203 #[.val (.int x0), .val (.long x1), .second, .val (.long x2), .second, .val (.int 5), .val (.int d), .val (.int ch0), .val (.int ch1), .val (.int ch2), .val (.int ch3), .val (.int ch4), .val (.int ch5), .val (.ref a), .val (.int 1), .val (.int 0)] [.int r] := c
              have hr : r = 1 := hiff.mpr (by simp [q23, q24, q25, q26, q27])
              subst hr
              replace c := c.iload 205 at_203 rfl
              replace c := c.ifT 213 at_205 (own_if_ne_t (by decide))
              replace c := c.iconst 214 at_213 1 (by decide)
              replace c := c.goto 218 at_214
              replace c := c.icF 221 at_218 (own_ic_ne_f (by decide))
              replace c := c.iconst 222 at_221 1 (by decide)
              replace c := c.goto 226 at_222
              exact c.reti (t := .boolean) at_226 rfl rfl (by simp) (fun sf hs => rfl) (by decide) (by decide)
            · skip
              replace c := c.icT 154 at_147 (own_ic_ne_t q27)
              replace c := c.iconst 155 at_154 0 (by decide)
              replace c := c.istore 157 at_155 #[.val (.int x0), .val (.long x1), .second, .val (.long x2), .second, .val (.int 5), .val (.int d), .val (.int ch0), .val (.int ch1), .val (.int ch2), .val (.int ch3), .val (.int ch4), .val (.int ch5), .val (.ref a), .val (.int 0), .unset] rfl
              replace c := c.iload 159 at_157 rfl
              replace c := c.iconst 160 at_159 4 (by decide)
              replace c := c.icT 195 at_160 (own_ic_ne_t (by decide))
              replace c := c.iconst 196 at_195 0 (by decide)
              replace c := c.istore 198 at_196 #[.val (.int x0), .val (.long x1), .second, .val (.long x2), .second, .val (.int 5), .val (.int d), .val (.int ch0), .val (.int ch1), .val (.int ch2), .val (.int ch3), .val (.int ch4), .val (.int ch5), .val (.ref a), .val (.int 0), .val (.int 0)] rfl
              replace c := c.aload 200 at_198 rfl rfl
              obtain ⟨v, h8, sf, ⟨r, rfl, h01, hiff, K2⟩, c⟩ := c.callS (y := y_isd) (argsL := [.ref a]) (rest := []) 203 at_200 (con_isd hG S1) rfl (hG.1 _ (List.mem_of_getElem? (i := 32) rfl)) (hG.1 _ (List.mem_of_getElem? (i := 33) rfl)) (hG.1 _ (List.mem_of_getElem? (i := 34) rfl)) (hG.1 _ (List.mem_of_getElem? (i := 35) rfl)) (lenOf pd_14 rfl) (by simp) (W := 0) rfl (by decide) (by decide) (by decide) (by decide)
              replace c := c [] (by simp)
              replace c : OAt G K M_law [] 10 71 h8 203 #[.val (.int x0), .val (.long x1), .second, .val (.long x2), .second, .val (.int 5), .val (.int d), .val (.int ch0), .val (.int ch1), .val (.int ch2), .val (.int ch3), .val (.int ch4), .val (.int ch5), .val (.ref a), .val (.int 0), .val (.int 0)] [.int r] := c
              have hr : r = 0 := h01.resolve_left (fun e => absurd (hiff.mp e) (by simp [q23, q24, q25, q26, q27]))
              subst hr
              replace c := c.iload 205 at_203 rfl
              replace c := c.ifF 208 at_205 (own_if_ne_f (by decide))
              replace c := c.iload 210 at_208 rfl
              replace c := c.ifT 217 at_210 (own_if_eq_t (by decide))
              replace c := c.iconst 218 at_217 0 (by decide)
              replace c := c.icF 221 at_218 (own_ic_ne_f (by decide))
              replace c := c.iconst 222 at_221 1 (by decide)
              replace c := c.goto 226 at_222
              exact c.reti (t := .boolean) at_226 rfl rfl (by simp) (fun sf hs => rfl) (by decide) (by decide)
          · skip
            replace c := c.icT 154 at_140 (own_ic_ne_t q26)
            replace c := c.iconst 155 at_154 0 (by decide)
            replace c := c.istore 157 at_155 #[.val (.int x0), .val (.long x1), .second, .val (.long x2), .second, .val (.int 5), .val (.int d), .val (.int ch0), .val (.int ch1), .val (.int ch2), .val (.int ch3), .val (.int ch4), .val (.int ch5), .val (.ref a), .val (.int 0), .unset] rfl
            replace c := c.iload 159 at_157 rfl
            replace c := c.iconst 160 at_159 4 (by decide)
            replace c := c.icT 195 at_160 (own_ic_ne_t (by decide))
            replace c := c.iconst 196 at_195 0 (by decide)
            replace c := c.istore 198 at_196 #[.val (.int x0), .val (.long x1), .second, .val (.long x2), .second, .val (.int 5), .val (.int d), .val (.int ch0), .val (.int ch1), .val (.int ch2), .val (.int ch3), .val (.int ch4), .val (.int ch5), .val (.ref a), .val (.int 0), .val (.int 0)] rfl
            replace c := c.aload 200 at_198 rfl rfl
            obtain ⟨v, h8, sf, ⟨r, rfl, h01, hiff, K2⟩, c⟩ := c.callS (y := y_isd) (argsL := [.ref a]) (rest := []) 203 at_200 (con_isd hG S1) rfl (hG.1 _ (List.mem_of_getElem? (i := 32) rfl)) (hG.1 _ (List.mem_of_getElem? (i := 33) rfl)) (hG.1 _ (List.mem_of_getElem? (i := 34) rfl)) (hG.1 _ (List.mem_of_getElem? (i := 35) rfl)) (lenOf pd_14 rfl) (by simp) (W := 0) rfl (by decide) (by decide) (by decide) (by decide)
            replace c := c [] (by simp)
            replace c : OAt G K M_law [] 10 71 h8 203 #[.val (.int x0), .val (.long x1), .second, .val (.long x2), .second, .val (.int 5), .val (.int d), .val (.int ch0), .val (.int ch1), .val (.int ch2), .val (.int ch3), .val (.int ch4), .val (.int ch5), .val (.ref a), .val (.int 0), .val (.int 0)] [.int r] := c
            have hr : r = 0 := h01.resolve_left (fun e => absurd (hiff.mp e) (by simp [q23, q24, q25, q26]))
            subst hr
            replace c := c.iload 205 at_203 rfl
            replace c := c.ifF 208 at_205 (own_if_ne_f (by decide))
            replace c := c.iload 210 at_208 rfl
            replace c := c.ifT 217 at_210 (own_if_eq_t (by decide))
            replace c := c.iconst 218 at_217 0 (by decide)
            replace c := c.icF 221 at_218 (own_ic_ne_f (by decide))
            replace c := c.iconst 222 at_221 1 (by decide)
            replace c := c.goto 226 at_222
            exact c.reti (t := .boolean) at_226 rfl rfl (by simp) (fun sf hs => rfl) (by decide) (by decide)
        · skip
          replace c := c.icT 154 at_133 (own_ic_ne_t q25)
          replace c := c.iconst 155 at_154 0 (by decide)
          replace c := c.istore 157 at_155 #[.val (.int x0), .val (.long x1), .second, .val (.long x2), .second, .val (.int 5), .val (.int d), .val (.int ch0), .val (.int ch1), .val (.int ch2), .val (.int ch3), .val (.int ch4), .val (.int ch5), .val (.ref a), .val (.int 0), .unset] rfl
          replace c := c.iload 159 at_157 rfl
          replace c := c.iconst 160 at_159 4 (by decide)
          replace c := c.icT 195 at_160 (own_ic_ne_t (by decide))
          replace c := c.iconst 196 at_195 0 (by decide)
          replace c := c.istore 198 at_196 #[.val (.int x0), .val (.long x1), .second, .val (.long x2), .second, .val (.int 5), .val (.int d), .val (.int ch0), .val (.int ch1), .val (.int ch2), .val (.int ch3), .val (.int ch4), .val (.int ch5), .val (.ref a), .val (.int 0), .val (.int 0)] rfl
          replace c := c.aload 200 at_198 rfl rfl
          obtain ⟨v, h8, sf, ⟨r, rfl, h01, hiff, K2⟩, c⟩ := c.callS (y := y_isd) (argsL := [.ref a]) (rest := []) 203 at_200 (con_isd hG S1) rfl (hG.1 _ (List.mem_of_getElem? (i := 32) rfl)) (hG.1 _ (List.mem_of_getElem? (i := 33) rfl)) (hG.1 _ (List.mem_of_getElem? (i := 34) rfl)) (hG.1 _ (List.mem_of_getElem? (i := 35) rfl)) (lenOf pd_14 rfl) (by simp) (W := 0) rfl (by decide) (by decide) (by decide) (by decide)
          replace c := c [] (by simp)
          replace c : OAt G K M_law [] 10 71 h8 203 #[.val (.int x0), .val (.long x1), .second, .val (.long x2), .second, .val (.int 5), .val (.int d), .val (.int ch0), .val (.int ch1), .val (.int ch2), .val (.int ch3), .val (.int ch4), .val (.int ch5), .val (.ref a), .val (.int 0), .val (.int 0)] [.int r] := c
          have hr : r = 0 := h01.resolve_left (fun e => absurd (hiff.mp e) (by simp [q23, q24, q25]))
          subst hr
          replace c := c.iload 205 at_203 rfl
          replace c := c.ifF 208 at_205 (own_if_ne_f (by decide))
          replace c := c.iload 210 at_208 rfl
          replace c := c.ifT 217 at_210 (own_if_eq_t (by decide))
          replace c := c.iconst 218 at_217 0 (by decide)
          replace c := c.icF 221 at_218 (own_ic_ne_f (by decide))
          replace c := c.iconst 222 at_221 1 (by decide)
          replace c := c.goto 226 at_222
          exact c.reti (t := .boolean) at_226 rfl rfl (by simp) (fun sf hs => rfl) (by decide) (by decide)
      · skip
        replace c := c.icT 154 at_126 (own_ic_ne_t q24)
        replace c := c.iconst 155 at_154 0 (by decide)
        replace c := c.istore 157 at_155 #[.val (.int x0), .val (.long x1), .second, .val (.long x2), .second, .val (.int 5), .val (.int d), .val (.int ch0), .val (.int ch1), .val (.int ch2), .val (.int ch3), .val (.int ch4), .val (.int ch5), .val (.ref a), .val (.int 0), .unset] rfl
        replace c := c.iload 159 at_157 rfl
        replace c := c.iconst 160 at_159 4 (by decide)
        replace c := c.icT 195 at_160 (own_ic_ne_t (by decide))
        replace c := c.iconst 196 at_195 0 (by decide)
        replace c := c.istore 198 at_196 #[.val (.int x0), .val (.long x1), .second, .val (.long x2), .second, .val (.int 5), .val (.int d), .val (.int ch0), .val (.int ch1), .val (.int ch2), .val (.int ch3), .val (.int ch4), .val (.int ch5), .val (.ref a), .val (.int 0), .val (.int 0)] rfl
        replace c := c.aload 200 at_198 rfl rfl
        obtain ⟨v, h8, sf, ⟨r, rfl, h01, hiff, K2⟩, c⟩ := c.callS (y := y_isd) (argsL := [.ref a]) (rest := []) 203 at_200 (con_isd hG S1) rfl (hG.1 _ (List.mem_of_getElem? (i := 32) rfl)) (hG.1 _ (List.mem_of_getElem? (i := 33) rfl)) (hG.1 _ (List.mem_of_getElem? (i := 34) rfl)) (hG.1 _ (List.mem_of_getElem? (i := 35) rfl)) (lenOf pd_14 rfl) (by simp) (W := 0) rfl (by decide) (by decide) (by decide) (by decide)
        replace c := c [] (by simp)
        replace c : OAt G K M_law [] 10 71 h8 203 #[.val (.int x0), .val (.long x1), .second, .val (.long x2), .second, .val (.int 5), .val (.int d), .val (.int ch0), .val (.int ch1), .val (.int ch2), .val (.int ch3), .val (.int ch4), .val (.int ch5), .val (.ref a), .val (.int 0), .val (.int 0)] [.int r] := c
        have hr : r = 0 := h01.resolve_left (fun e => absurd (hiff.mp e) (by simp [q23, q24]))
        subst hr
        replace c := c.iload 205 at_203 rfl
        replace c := c.ifF 208 at_205 (own_if_ne_f (by decide))
        replace c := c.iload 210 at_208 rfl
        replace c := c.ifT 217 at_210 (own_if_eq_t (by decide))
        replace c := c.iconst 218 at_217 0 (by decide)
        replace c := c.icF 221 at_218 (own_ic_ne_f (by decide))
        replace c := c.iconst 222 at_221 1 (by decide)
        replace c := c.goto 226 at_222
        exact c.reti (t := .boolean) at_226 rfl rfl (by simp) (fun sf hs => rfl) (by decide) (by decide)
    · skip
      replace c := c.icT 154 at_119 (own_ic_ne_t q23)
      replace c := c.iconst 155 at_154 0 (by decide)
      replace c := c.istore 157 at_155 #[.val (.int x0), .val (.long x1), .second, .val (.long x2), .second, .val (.int 5), .val (.int d), .val (.int ch0), .val (.int ch1), .val (.int ch2), .val (.int ch3), .val (.int ch4), .val (.int ch5), .val (.ref a), .val (.int 0), .unset] rfl
      replace c := c.iload 159 at_157 rfl
      replace c := c.iconst 160 at_159 4 (by decide)
      replace c := c.icT 195 at_160 (own_ic_ne_t (by decide))
      replace c := c.iconst 196 at_195 0 (by decide)
      replace c := c.istore 198 at_196 #[.val (.int x0), .val (.long x1), .second, .val (.long x2), .second, .val (.int 5), .val (.int d), .val (.int ch0), .val (.int ch1), .val (.int ch2), .val (.int ch3), .val (.int ch4), .val (.int ch5), .val (.ref a), .val (.int 0), .val (.int 0)] rfl
      replace c := c.aload 200 at_198 rfl rfl
      obtain ⟨v, h8, sf, ⟨r, rfl, h01, hiff, K2⟩, c⟩ := c.callS (y := y_isd) (argsL := [.ref a]) (rest := []) 203 at_200 (con_isd hG S1) rfl (hG.1 _ (List.mem_of_getElem? (i := 32) rfl)) (hG.1 _ (List.mem_of_getElem? (i := 33) rfl)) (hG.1 _ (List.mem_of_getElem? (i := 34) rfl)) (hG.1 _ (List.mem_of_getElem? (i := 35) rfl)) (lenOf pd_14 rfl) (by simp) (W := 0) rfl (by decide) (by decide) (by decide) (by decide)
      replace c := c [] (by simp)
      replace c : OAt G K M_law [] 10 71 h8 203 #[.val (.int x0), .val (.long x1), .second, .val (.long x2), .second, .val (.int 5), .val (.int d), .val (.int ch0), .val (.int ch1), .val (.int ch2), .val (.int ch3), .val (.int ch4), .val (.int ch5), .val (.ref a), .val (.int 0), .val (.int 0)] [.int r] := c
      have hr : r = 0 := h01.resolve_left (fun e => absurd (hiff.mp e) (by simp [q23]))
      subst hr
      replace c := c.iload 205 at_203 rfl
      replace c := c.ifF 208 at_205 (own_if_ne_f (by decide))
      replace c := c.iload 210 at_208 rfl
      replace c := c.ifT 217 at_210 (own_if_eq_t (by decide))
      replace c := c.iconst 218 at_217 0 (by decide)
      replace c := c.icF 221 at_218 (own_ic_ne_f (by decide))
      replace c := c.iconst 222 at_221 1 (by decide)
      replace c := c.goto 226 at_222
      exact c.reti (t := .boolean) at_226 rfl rfl (by simp) (fun sf hs => rfl) (by decide) (by decide)
  · skip
    replace c : OAt G K M_law [] 0 0 h0 90 #[.val (.int x0), .val (.long x1), .second, .val (.long x2), .second, .val (.int 6), .val (.int d), .val (.int ch0), .val (.int ch1), .val (.int ch2), .val (.int ch3), .val (.int ch4), .val (.int ch5), .unset, .unset, .unset] [] := c
    replace c := c.iload 92 at_90 rfl
    replace c := c.iload 94 at_92 rfl
    replace c := c.iload 96 at_94 rfl
    replace c := c.iload 98 at_96 rfl
    replace c := c.iload 100 at_98 rfl
    replace c := c.iload 102 at_100 rfl
    replace c := c.iload 104 at_102 rfl
    obtain ⟨v, h7, sf, ⟨a, rfl, K1, S1⟩, c⟩ := c.callS (y := y_text6) (argsL := [.int 6, .int ch0, .int ch1, .int ch2, .int ch3, .int ch4, .int ch5]) (rest := []) 107 at_104 (con_text6 hG r0 r1 r2 r3 r4 r5) rfl (hG.1 _ (List.mem_of_getElem? (i := 7) rfl)) (hG.1 _ (List.mem_of_getElem? (i := 8) rfl)) (hG.1 _ (List.mem_of_getElem? (i := 2) rfl)) (hG.1 _ (List.mem_of_getElem? (i := 9) rfl)) (lenOf pd_13 rfl) (by simp) (W := 0) rfl (by decide) (by decide) (by decide) (by decide)
    replace c := c [] (by simp)
    replace c : OAt G K M_law [] 6 28 h7 107 #[.val (.int x0), .val (.long x1), .second, .val (.long x2), .second, .val (.int 6), .val (.int d), .val (.int ch0), .val (.int ch1), .val (.int ch2), .val (.int ch3), .val (.int ch4), .val (.int ch5), .unset, .unset, .unset] [.ref a] := c
    replace c := c.astore 109 at_107 rfl #[.val (.int x0), .val (.long x1), .second, .val (.long x2), .second, .val (.int 6), .val (.int d), .val (.int ch0), .val (.int ch1), .val (.int ch2), .val (.int ch3), .val (.int ch4), .val (.int ch5), .val (.ref a), .unset, .unset] rfl
    replace c := c.iload 111 at_109 rfl
    replace c := c.iconst 112 at_111 5 (by decide)
    replace c := c.icT 154 at_112 (own_ic_ne_t (by decide))
    replace c := c.iconst 155 at_154 0 (by decide)
    replace c := c.istore 157 at_155 #[.val (.int x0), .val (.long x1), .second, .val (.long x2), .second, .val (.int 6), .val (.int d), .val (.int ch0), .val (.int ch1), .val (.int ch2), .val (.int ch3), .val (.int ch4), .val (.int ch5), .val (.ref a), .val (.int 0), .unset] rfl
    replace c := c.iload 159 at_157 rfl
    replace c := c.iconst 160 at_159 4 (by decide)
    replace c := c.icT 195 at_160 (own_ic_ne_t (by decide))
    replace c := c.iconst 196 at_195 0 (by decide)
    replace c := c.istore 198 at_196 #[.val (.int x0), .val (.long x1), .second, .val (.long x2), .second, .val (.int 6), .val (.int d), .val (.int ch0), .val (.int ch1), .val (.int ch2), .val (.int ch3), .val (.int ch4), .val (.int ch5), .val (.ref a), .val (.int 0), .val (.int 0)] rfl
    replace c := c.aload 200 at_198 rfl rfl
    obtain ⟨v, h8, sf, ⟨r, rfl, h01, hiff, K2⟩, c⟩ := c.callS (y := y_isd) (argsL := [.ref a]) (rest := []) 203 at_200 (con_isd hG S1) rfl (hG.1 _ (List.mem_of_getElem? (i := 32) rfl)) (hG.1 _ (List.mem_of_getElem? (i := 33) rfl)) (hG.1 _ (List.mem_of_getElem? (i := 34) rfl)) (hG.1 _ (List.mem_of_getElem? (i := 35) rfl)) (lenOf pd_14 rfl) (by simp) (W := 0) rfl (by decide) (by decide) (by decide) (by decide)
    replace c := c [] (by simp)
    replace c : OAt G K M_law [] 10 72 h8 203 #[.val (.int x0), .val (.long x1), .second, .val (.long x2), .second, .val (.int 6), .val (.int d), .val (.int ch0), .val (.int ch1), .val (.int ch2), .val (.int ch3), .val (.int ch4), .val (.int ch5), .val (.ref a), .val (.int 0), .val (.int 0)] [.int r] := c
    have hr : r = 0 := h01.resolve_left (fun e => absurd (hiff.mp e) (by simp))
    subst hr
    replace c := c.iload 205 at_203 rfl
    replace c := c.ifF 208 at_205 (own_if_ne_f (by decide))
    replace c := c.iload 210 at_208 rfl
    replace c := c.ifT 217 at_210 (own_if_eq_t (by decide))
    replace c := c.iconst 218 at_217 0 (by decide)
    replace c := c.icF 221 at_218 (own_ic_ne_f (by decide))
    replace c := c.iconst 222 at_221 1 (by decide)
    replace c := c.goto 226 at_222
    exact c.reti (t := .boolean) at_226 rfl rfl (by simp) (fun sf hs => rfl) (by decide) (by decide)
set_option maxRecDepth 65536 in
set_option maxHeartbeats 4000000 in
theorem comes_1 {Post : Tables → Env → Array Value → State → Outcome → State → Prop} (hpost : ∀ tb e args s v u, (limb_1_1.after args s (.returned v) u = true ∧ limb_1_2.after args s (.returned v) u = true ∧ True) → ReturnedEndW s (.returned v) u (Jvm.fieldLocs frame_1_writes args s ++ Jvm.arrayLocs frame_1_arrays args s ++ Jvm.staticLocs frame_1_statics s) 24 3264 → Post tb e args s (.returned v) u) :
    ArmFor flags0 classFile x code maxLocals ret World_1 tables_1 room_1 Calls_1 rest_1 Pre_1 Post := by
  intro l hfl _ _ p e ha hc hk s m args below hf hA hF happ hP
  obtain ⟨hcalls, hrest, hpre⟩ := hP
  obtain ⟨-, -, -, hnamed, -, -, -, hat⟩ := (Spec.applies_iff hf).mp happ
  obtain ⟨hg, hn⟩ := and_e (Cond.before_iff.mp (show (Jvm.Cond.and given_1 narrow_1).before args s = true from hpre))
  obtain ⟨hc0, hr0⟩ := and_e hg
  obtain ⟨ha0, hr1⟩ := and_e hr0
  obtain ⟨ha1, hr2⟩ := and_e hr1
  have ha2 := hr2
  obtain ⟨w0, w1, w2, rfl⟩ : ∃ w0 w1 w2 : Value, args = #[w0, w1, w2] := by
    have hs : args.size = 3 := by simpa [Cond.value, given_1] using hc0
    obtain ⟨L⟩ := args
    match L, hs with
    | [w0, w1, w2], _ => exact ⟨w0, w1, w2, rfl⟩
  have hw := fun d (hd : d ∈ tables_1) => atoms_spec (ws := Jvm.Cond.code x code maxLocals ret :: tables_1) hat d (List.mem_cons_of_mem _ hd)
  obtain ⟨hsets, hown0⟩ := atoms_of _ (rest_1_c_eq ▸ (show rest_1_c.before _ s = true from hrest))
  have hfit : Fit s := fun {y c} hc i hi => by
    obtain ⟨ha, rfl⟩ := Array.getElem?_eq_some_iff.mp hc
    have q := List.all_eq_true.mp ((Array.all_eq_true_iff_forall_mem.mp hF) _ (Array.getElem_mem ha)) i (List.mem_range.mpr hi)
    simpa [Array.getElem?_eq_getElem hi] using q
  obtain ⟨i0, e0⟩ := is_v ha0
  obtain rfl : w0 = (.int i0) := Option.some.inj e0
  obtain ⟨i1, e1⟩ := isL_v ha1
  obtain rfl : w1 = (.long i1) := Option.some.inj e1
  obtain ⟨i2, e2⟩ := isL_v ha2
  obtain rfl : w2 = (.long i2) := Option.some.inj e2
  obtain ⟨iz, ez⟩ := is_v (Cond.before_iff.mp (hsets _ (List.mem_of_getElem? (i := 1) rfl)))
  have Sz : Sta s s.heap "java/lang/String" "COMPACT_STRINGS" "Z" (.int iz) := Sta.start ez (Or.inl (hsets _ (List.mem_of_getElem? (i := 0) rfl)))
  have nz : ¬ (iz = (0 : Int32)) := gotF (Cond.eq_ints ez (Term.int_eval (0))) (not_v (Cond.before_iff.mp (hsets _ (List.mem_of_getElem? (i := 2) rfl))))
  have hG : OGood (l, s, #[.int i0, .long i1, .long i2], consts_1, s.heap.size) := ⟨hw, rfl, ⟨iz, Sz, nz⟩, Sta.start (Cond.eq_int (hsets _ (List.mem_of_getElem? (i := 12) rfl)) rfl) (Or.inl (hsets _ (List.mem_of_getElem? (i := 11) rfl))), Sta.start (Cond.eq_int (hsets _ (List.mem_of_getElem? (i := 15) rfl)) rfl) (Or.inl (hsets _ (List.mem_of_getElem? (i := 14) rfl))), Sta.start (Cond.eq_int (hsets _ (List.mem_of_getElem? (i := 18) rfl)) rfl) (Or.inl (hsets _ (List.mem_of_getElem? (i := 17) rfl))), trivial⟩
  obtain ⟨n, o, h1, h2, h3, _, L, rfl, rfl, N, -, -, hq⟩ := con_law (G := (l, s, #[.int i0, .long i1, .long i2], consts_1, s.heap.size)) hG  p e ha hc hk s m _ below hf ((Spec.applies_iff_loose hf).mp happ).1 ⟨rfl, State.Warmed39.refl s, rfl, CHv.start (own_ew hG) (fun p hp => hcalls.1 p hp) (hsets _ (List.mem_of_getElem? (i := 2) rfl)) (hw _ (List.mem_of_getElem? (i := 25) rfl)) (hw _ (List.mem_of_getElem? (i := 11) rfl)), (fun x hx => (by cases hx)), Old.start s⟩ trivial
  refine ⟨n, _, h1, h2, h3, hpost _ _ _ _ _ _ ⟨Cond.after_iff.mpr rfl, Cond.after_iff.mpr (eq_i res_at (Term.int_eval (1)) rfl), trivial⟩ ⟨hq.1, hq.2.1, hq.2.2.1, (hq.2.2.2.sift fun y hy => Or.inr (N y hy)).mono (by decide) (by decide)⟩⟩
theorem main_1_1 : Claimed_1_1 := comes_1 fun _ _ _ _ _ _ h hF => ⟨h.1, hF⟩
theorem main_1_2 : Claimed_1_2 := comes_1 fun _ _ _ _ _ _ h hF => ⟨h.2.1, hF⟩
end Jvm.Pilot.@@N@@
namespace Jvm.Pilot.@@N@@
open Jvm Jvm.ClassFile Sem Op Lib Jvm.Free Jvm.Stand Jvm.Pilot.@@N@@.Jvm.D
/-! MADE BY PROGRAM (witnessworld.py) out of the Statement's table words and the real class files: 20 classes; the members and pool entries that the words name. The judged class is class 1, her method 1. -/
namespace start1
open Jvm.ClassFile
def u (s : String) : CpInfo := .utf8 (stringToUtf16 s)
/-- a pool by its gaps: so many unusable entries, then the entry; so many at the end -/
def gap : Nat → List CpInfo → List CpInfo
  | 0, r => r
  | n + 1, r => .unusable :: gap n r
def poolList (es : List (Nat × CpInfo)) (last : Nat) : List CpInfo := es.foldr (fun e r => gap e.1 (e.2 :: r)) (gap last [])
def pool (es : List (Nat × CpInfo)) (last : Nat) : Array CpInfo := ⟨poolList es last⟩
def fileOf (pool : Array CpInfo) (this : Nat) (attrs : Array Attribute := #[]) (ms : Array MethodInfo := #[]) (fl : Nat := 33) (sup : Nat := 0) (ifs : Array Nat := #[]) (fds : Array FieldInfo := #[]) : ClassFile where
  minorVersion := 0
  majorVersion := 65
  constantPool := pool
  accessFlags := fl
  thisClass := this
  superClass := sup
  interfaces := ifs
  fields := fds
  methods := ms
  attributes := attrs
def plain (name : String) (sup : Option ClassId) : Class where
  name := name
  kind := .ordinary
  loader := none
  accessFlags := 33
  super := sup
  interfaces := #[]
  cf := none
  fields := #[]
  methods := #[]
  instanceTypes := #[]
  staticTypes := #[]
  resolved := #[]
  callSites := []
  init := .initialized
  statics := none
  mirror := none

def pool0 : Array CpInfo := pool [(5, u "<init>"), (0, u "()V"), (1, .class_ 10), (1, u "java/lang/Object")] 113

def k0c0 : Code := { maxStack := 0, maxLocals := 1, code := object_method_1_code, exceptionTable := #[], attributes := #[] }
def k0m0 : Method := { name := "<init>", desc := "()V", sig := { parameters := [], returnType := none }, accessFlags := 1, code := some k0c0 }
/-- java/lang/Object -/
def k0 : Class := { plain "java/lang/Object" none with
  accessFlags := 33
  interfaces := #[]
  cf := some (fileOf pool0 8 #[] #[{ accessFlags := 1, nameIndex := 5, descriptorIndex := 6, attributes := #[] }] 33 0 #[] #[])
  fields := #[]
  methods := #[k0m0]
  instanceTypes := #[]
  staticTypes := #[]
  resolved := Array.replicate 124 none
  statics := none }

def pool1 : Array CpInfo := pool [(2, .class_ 4), (1, u "java/lang/Object"), (0, u "<init>"), (0, u "()V"), (0, .methodref 8 9), (0, .class_ 10), (0, .nameAndType 11 12), (0, u "com/example/swac/swac/testfile/TestCaseIsDecisionPinLaw"), (0, u "pick"), (0, u "(IJJZI)C"), (0, .methodref 8 14), (0, .nameAndType 15 16), (0, u "text"), (0, u "(ICCCCCC)Ljava/lang/String;"), (0, .methodref 18 19), (0, .class_ 20), (0, .nameAndType 21 22), (0, u "com/example/swac/swac/testfile/TestCase"), (0, u "isDecision"), (0, u "(Ljava/lang/String;)Z"), (0, .methodref 8 24), (0, .nameAndType 25 26), (0, u "tmpl"), (0, u "(ZI)I"), (0, .class_ 28), (0, u "java/lang/String"), (0, .methodref 27 30), (0, .nameAndType 5 31), (0, u "([C)V"), (2, u "law"), (0, u "(IJJ)Z")] 3

def k1m0 : Method := { name := "<init>", desc := "()V", sig := { parameters := [], returnType := none }, accessFlags := 1, code := none }
def k1c1 : Code := { maxStack := 7, maxLocals := 16, code := code, exceptionTable := #[], attributes := #[] }
def k1m1 : Method := { name := "law", desc := "(IJJ)Z", sig := { parameters := [.int, .long, .long], returnType := some .boolean }, accessFlags := 9, code := some k1c1 }
def k1c2 : Code := { maxStack := 2, maxLocals := 2, code := method_3_code, exceptionTable := #[], attributes := #[] }
def k1m2 : Method := { name := "tmpl", desc := "(ZI)I", sig := { parameters := [.boolean, .int], returnType := some .int }, accessFlags := 10, code := some k1c2 }
def k1c3 : Code := { maxStack := 5, maxLocals := 9, code := method_4_code, exceptionTable := #[], attributes := #[] }
def k1m3 : Method := { name := "pick", desc := "(IJJZI)C", sig := { parameters := [.int, .long, .long, .boolean, .int], returnType := some .char }, accessFlags := 10, code := some k1c3 }
def k1c4 : Code := { maxStack := 6, maxLocals := 7, code := method_5_code, exceptionTable := #[], attributes := #[] }
def k1m4 : Method := { name := "text", desc := "(ICCCCCC)Ljava/lang/String;", sig := { parameters := [.int, .char, .char, .char, .char, .char, .char], returnType := some (.object "java/lang/String") }, accessFlags := 10, code := some k1c4 }
/-- com/example/swac/swac/testfile/TestCaseIsDecisionPinLaw -/
def k1 : Class := { plain "com/example/swac/swac/testfile/TestCaseIsDecisionPinLaw" (some 0) with
  accessFlags := 49
  interfaces := #[]
  cf := some (fileOf pool1 8 #[] #[{ accessFlags := 1, nameIndex := 5, descriptorIndex := 6, attributes := #[] }, { accessFlags := 9, nameIndex := 34, descriptorIndex := 35, attributes := #[] }, { accessFlags := 10, nameIndex := 25, descriptorIndex := 26, attributes := #[] }, { accessFlags := 10, nameIndex := 11, descriptorIndex := 12, attributes := #[] }, { accessFlags := 10, nameIndex := 15, descriptorIndex := 16, attributes := #[] }] 49 2 #[] #[])
  fields := #[]
  methods := #[k1m0, k1m1, k1m2, k1m3, k1m4]
  instanceTypes := #[]
  staticTypes := #[]
  resolved := Array.replicate 39 none
  statics := none }

def pool2 : Array CpInfo := pool [(1, .class_ 2), (0, u "java/io/Serializable"), (0, .class_ 4), (0, u "java/lang/Object")] 2

/-- java/io/Serializable -/
def k2 : Class := { plain "java/io/Serializable" (some 0) with
  accessFlags := 1537
  interfaces := #[]
  cf := some (fileOf pool2 1 #[] #[] 1537 3 #[] #[])
  fields := #[]
  methods := #[]
  instanceTypes := #[]
  staticTypes := #[]
  resolved := Array.replicate 7 none
  statics := none }

def pool3 : Array CpInfo := pool [(1, .class_ 2), (0, u "java/lang/Comparable"), (0, .class_ 4), (0, u "java/lang/Object")] 7

/-- java/lang/Comparable -/
def k3 : Class := { plain "java/lang/Comparable" (some 0) with
  accessFlags := 1537
  interfaces := #[]
  cf := some (fileOf pool3 1 #[] #[] 1537 3 #[] #[])
  fields := #[]
  methods := #[]
  instanceTypes := #[]
  staticTypes := #[]
  resolved := Array.replicate 12 none
  statics := none }

def pool4 : Array CpInfo := pool [(2, .class_ 4), (1, u "java/lang/CharSequence"), (42, .class_ 48), (0, u "java/lang/CharSequence$1CodePointIterator"), (10, .class_ 60), (0, u "java/lang/CharSequence$1CharIterator"), (5, .class_ 67), (0, u "java/lang/Object")] 63

/-- java/lang/CharSequence -/
def k4 : Class := { plain "java/lang/CharSequence" (some 0) with
  accessFlags := 1537
  interfaces := #[]
  cf := some (fileOf pool4 2 #[.nestMembers #[47, 59]] #[] 1537 66 #[] #[])
  fields := #[]
  methods := #[]
  instanceTypes := #[]
  staticTypes := #[]
  resolved := Array.replicate 131 none
  statics := none }

def pool5 : Array CpInfo := pool [(1, .class_ 2), (0, u "java/lang/constant/Constable"), (0, .class_ 4), (0, u "java/lang/Object")] 6

/-- java/lang/constant/Constable -/
def k5 : Class := { plain "java/lang/constant/Constable" (some 0) with
  accessFlags := 1537
  interfaces := #[]
  cf := some (fileOf pool5 1 #[] #[] 1537 3 #[] #[])
  fields := #[]
  methods := #[]
  instanceTypes := #[]
  staticTypes := #[]
  resolved := Array.replicate 11 none
  statics := none }

def pool6 : Array CpInfo := pool [(1, .class_ 2), (0, u "java/lang/constant/ConstantDesc"), (0, .class_ 4), (0, u "java/lang/Object")] 32

/-- java/lang/constant/ConstantDesc -/
def k6 : Class := { plain "java/lang/constant/ConstantDesc" (some 0) with
  accessFlags := 1537
  interfaces := #[]
  cf := some (fileOf pool6 1 #[] #[] 1537 3 #[] #[])
  fields := #[]
  methods := #[]
  instanceTypes := #[]
  staticTypes := #[]
  resolved := Array.replicate 37 none
  statics := none }

def pool7 : Array CpInfo := pool [(1, .methodref 2 3), (0, .class_ 4), (0, .nameAndType 5 6), (0, u "java/lang/Object"), (0, u "<init>"), (0, u "()V"), (0, .string 8), (0, u ""), (0, .fieldref 10 11), (0, .class_ 12), (0, .nameAndType 13 14), (0, u "java/lang/String"), (0, u "value"), (0, u "[B"), (0, .fieldref 10 16), (0, .nameAndType 17 18), (0, u "coder"), (0, u "B"), (2, u "hash"), (0, u "I"), (2, u "hashIsZero"), (0, u "Z"), (0, .methodref 10 28), (0, .nameAndType 5 29), (0, u "([CIILjava/lang/Void;)V"), (8, .fieldref 10 39), (0, .nameAndType 40 26), (0, u "COMPACT_STRINGS"), (1, .class_ 44), (1, u "java/lang/StringUTF16"), (0, u "compress"), (1, .methodref 42 48), (0, .nameAndType 49 50), (0, u "coderFromArrayLen"), (0, u "([BI)B"), (56, .class_ 109), (1, u "java/lang/StringLatin1"), (67, .methodref 42 178), (0, .nameAndType 45 179), (0, u "([CII)[B"), (361, .methodref 107 542), (0, .nameAndType 543 544), (0, u "equals"), (0, u "([B[B)Z"), (28, u "(Ljava/lang/Object;)Z"), (1, .class_ 576), (0, u "java/lang/CharSequence"), (22, u "CASE_INSENSITIVE_ORDER"), (0, u "Ljava/util/Comparator;"), (409, u "([C)V"), (90, u "serialPersistentFields"), (0, u "[Ljava/io/ObjectStreamField;"), (0, .class_ 1104), (0, u "java/lang/String$CaseInsensitiveComparator"), (1, .class_ 1107), (0, u "java/io/Serializable"), (0, .class_ 1109), (0, u "java/lang/Comparable"), (0, .class_ 1111), (0, u "java/lang/constant/Constable"), (0, .class_ 1113), (0, u "java/lang/constant/ConstantDesc"), (2, u "serialVersionUID"), (0, u "J"), (3, u "REPL"), (0, u "C"), (2, u "LATIN1"), (1, u "UTF16")] 323

def k7m0 : Method := { name := "<init>", desc := "()V", sig := { parameters := [], returnType := none }, accessFlags := 1, code := none }
def k7c1 : Code := { maxStack := 5, maxLocals := 2, code := jdk_42_method_3_code, exceptionTable := #[], attributes := #[] }
def k7m1 : Method := { name := "<init>", desc := "([C)V", sig := { parameters := [(.array .char)], returnType := none }, accessFlags := 1, code := some k7c1 }
def k7c2 : Code := { maxStack := 2, maxLocals := 3, code := jdk_42_method_66_code, exceptionTable := #[], attributes := #[] }
def k7m2 : Method := { name := "equals", desc := "(Ljava/lang/Object;)Z", sig := { parameters := [(.object "java/lang/Object")], returnType := some .boolean }, accessFlags := 1, code := some k7c2 }
def k7c3 : Code := { maxStack := 4, maxLocals := 6, code := jdk_42_method_149_code, exceptionTable := #[], attributes := #[] }
def k7m3 : Method := { name := "<init>", desc := "([CIILjava/lang/Void;)V", sig := { parameters := [(.array .char), .int, .int, (.object "java/lang/Void")], returnType := none }, accessFlags := 2, code := some k7c3 }
/-- java/lang/String -/
def k7 : Class := { plain "java/lang/String" (some 0) with
  accessFlags := 49
  interfaces := #[2, 3, 4, 5, 6]
  cf := some (fileOf pool7 10 #[.nestMembers #[1103]] #[{ accessFlags := 1, nameIndex := 5, descriptorIndex := 6, attributes := #[] }, { accessFlags := 1, nameIndex := 5, descriptorIndex := 1010, attributes := #[] }, { accessFlags := 1, nameIndex := 543, descriptorIndex := 573, attributes := #[] }, { accessFlags := 2, nameIndex := 5, descriptorIndex := 29, attributes := #[] }] 49 2 #[1106, 1108, 575, 1110, 1112] #[{ accessFlags := 18, nameIndex := 13, descriptorIndex := 14, attributes := #[] }, { accessFlags := 18, nameIndex := 17, descriptorIndex := 18, attributes := #[] }, { accessFlags := 2, nameIndex := 21, descriptorIndex := 22, attributes := #[] }, { accessFlags := 2, nameIndex := 25, descriptorIndex := 26, attributes := #[] }, { accessFlags := 26, nameIndex := 1116, descriptorIndex := 1117, attributes := #[] }, { accessFlags := 24, nameIndex := 40, descriptorIndex := 26, attributes := #[] }, { accessFlags := 26, nameIndex := 1101, descriptorIndex := 1102, attributes := #[] }, { accessFlags := 26, nameIndex := 1121, descriptorIndex := 1122, attributes := #[] }, { accessFlags := 25, nameIndex := 599, descriptorIndex := 600, attributes := #[] }, { accessFlags := 24, nameIndex := 1125, descriptorIndex := 18, attributes := #[] }, { accessFlags := 24, nameIndex := 1127, descriptorIndex := 18, attributes := #[] }])
  fields := #[{ name := "value", type := (.array .byte), accessFlags := 18, slot := 0, constantValue := 0 }, { name := "coder", type := .byte, accessFlags := 18, slot := 1, constantValue := 0 }, { name := "hash", type := .int, accessFlags := 2, slot := 2, constantValue := 0 }, { name := "hashIsZero", type := .boolean, accessFlags := 2, slot := 3, constantValue := 0 }, { name := "serialVersionUID", type := .long, accessFlags := 26, slot := 0, constantValue := 0 }, { name := "COMPACT_STRINGS", type := .boolean, accessFlags := 24, slot := 1, constantValue := 0 }, { name := "serialPersistentFields", type := (.array (.object "java/io/ObjectStreamField")), accessFlags := 26, slot := 2, constantValue := 0 }, { name := "REPL", type := .char, accessFlags := 26, slot := 3, constantValue := 0 }, { name := "CASE_INSENSITIVE_ORDER", type := (.object "java/util/Comparator"), accessFlags := 25, slot := 4, constantValue := 0 }, { name := "LATIN1", type := .byte, accessFlags := 24, slot := 5, constantValue := 0 }, { name := "UTF16", type := .byte, accessFlags := 24, slot := 6, constantValue := 0 }]
  methods := #[k7m0, k7m1, k7m2, k7m3]
  instanceTypes := #[(.array .byte), .byte, .int, .boolean]
  staticTypes := #[.long, .boolean, (.array (.object "java/io/ObjectStreamField")), .char, (.object "java/util/Comparator"), .byte, .byte]
  resolved := Array.replicate 1451 none
  statics := some 0 }

def pool8 : Array CpInfo := pool [(2, .class_ 4), (1, u "java/lang/Object"), (3, .class_ 10), (1, u "com/example/swac/swac/testfile/TestCase"), (0, u "name"), (0, u "Ljava/lang/String;"), (2, u "expected"), (2, u "question"), (0, u "Ljava/util/function/Function;"), (35, .class_ 56), (0, u "java/lang/String"), (0, .string 58), (0, u "allow"), (0, .methodref 55 60), (0, .nameAndType 61 62), (0, u "equals"), (0, u "(Ljava/lang/Object;)Z"), (0, .string 64), (0, u "deny"), (20, u "ALLOW"), (1, u "DENY"), (12, u "isDecision"), (0, u "(Ljava/lang/String;)Z")] 45

def k8c0 : Code := { maxStack := 2, maxLocals := 1, code := prog_16_method_7_code, exceptionTable := #[], attributes := #[] }
def k8m0 : Method := { name := "isDecision", desc := "(Ljava/lang/String;)Z", sig := { parameters := [(.object "java/lang/String")], returnType := some .boolean }, accessFlags := 8, code := some k8c0 }
/-- com/example/swac/swac/testfile/TestCase -/
def k8 : Class := { plain "com/example/swac/swac/testfile/TestCase" (some 0) with
  accessFlags := 49
  interfaces := #[]
  cf := some (fileOf pool8 8 #[] #[{ accessFlags := 8, nameIndex := 100, descriptorIndex := 101, attributes := #[] }] 49 2 #[] #[{ accessFlags := 26, nameIndex := 85, descriptorIndex := 12, attributes := #[] }, { accessFlags := 26, nameIndex := 87, descriptorIndex := 12, attributes := #[] }, { accessFlags := 18, nameIndex := 11, descriptorIndex := 12, attributes := #[] }, { accessFlags := 18, nameIndex := 15, descriptorIndex := 12, attributes := #[] }, { accessFlags := 18, nameIndex := 18, descriptorIndex := 19, attributes := #[] }])
  fields := #[{ name := "ALLOW", type := (.object "java/lang/String"), accessFlags := 26, slot := 0, constantValue := 0 }, { name := "DENY", type := (.object "java/lang/String"), accessFlags := 26, slot := 1, constantValue := 0 }, { name := "name", type := (.object "java/lang/String"), accessFlags := 18, slot := 0, constantValue := 0 }, { name := "expected", type := (.object "java/lang/String"), accessFlags := 18, slot := 1, constantValue := 0 }, { name := "question", type := (.object "java/util/function/Function"), accessFlags := 18, slot := 2, constantValue := 0 }]
  methods := #[k8m0]
  instanceTypes := #[(.object "java/lang/String"), (.object "java/lang/String"), (.object "java/util/function/Function")]
  staticTypes := #[(.object "java/lang/String"), (.object "java/lang/String")]
  resolved := Array.replicate 147 none
  statics := none }

def pool9 : Array CpInfo := pool [(4, .class_ 6), (1, u "java/lang/Object"), (0, u "<init>"), (0, u "()V"), (5, .class_ 16), (1, u "java/lang/StringLatin1"), (104, u "$assertionsDisabled"), (0, u "Z"), (98, .class_ 223), (1, u "java/lang/StringLatin1$LinesSpliterator"), (57, u "equals"), (0, u "([B[B)Z"), (107, .class_ 391), (0, u "java/lang/StringLatin1$CharsSpliterator")] 3

def k9m0 : Method := { name := "<init>", desc := "()V", sig := { parameters := [], returnType := none }, accessFlags := 0, code := none }
def k9c1 : Code := { maxStack := 3, maxLocals := 3, code := jdk_43_method_13_code, exceptionTable := #[], attributes := #[] }
def k9m1 : Method := { name := "equals", desc := "([B[B)Z", sig := { parameters := [(.array .byte), (.array .byte)], returnType := some .boolean }, accessFlags := 9, code := some k9c1 }
/-- java/lang/StringLatin1 -/
def k9 : Class := { plain "java/lang/StringLatin1" (some 0) with
  accessFlags := 48
  interfaces := #[]
  cf := some (fileOf pool9 14 #[.nestMembers #[390, 221]] #[{ accessFlags := 0, nameIndex := 7, descriptorIndex := 8, attributes := #[] }, { accessFlags := 9, nameIndex := 281, descriptorIndex := 282, attributes := #[] }] 48 4 #[] #[{ accessFlags := 4120, nameIndex := 121, descriptorIndex := 122, attributes := #[] }])
  fields := #[{ name := "$assertionsDisabled", type := .boolean, accessFlags := 4120, slot := 0, constantValue := 0 }]
  methods := #[k9m0, k9m1]
  instanceTypes := #[]
  staticTypes := #[.boolean]
  resolved := Array.replicate 395 none
  statics := none }

def pool10 : Array CpInfo := pool [(6, .class_ 8), (1, u "java/lang/Object"), (0, u "<init>"), (0, u "()V"), (0, .methodref 12 13), (0, .class_ 14), (0, .nameAndType 15 16), (0, u "java/lang/StringUTF16"), (0, u "newBytesLength"), (0, u "(I)I"), (3, .integer 1073741823), (23, .fieldref 12 45), (0, .nameAndType 46 47), (0, u "$assertionsDisabled"), (0, u "Z"), (11, .fieldref 12 60), (0, .nameAndType 61 62), (0, u "HI_BYTE_SHIFT"), (0, u "I"), (0, .fieldref 12 64), (0, .nameAndType 65 62), (0, u "LO_BYTE_SHIFT"), (5, .methodref 12 72), (0, .nameAndType 73 74), (0, u "getChar"), (0, u "([BI)C"), (32, .methodref 12 108), (0, .nameAndType 109 110), (0, u "newBytesFor"), (0, u "(I)[B"), (0, .methodref 12 112), (0, .nameAndType 113 114), (0, u "putChar"), (0, u "([BII)V"), (0, .methodref 12 116), (0, .nameAndType 117 118), (0, u "compress"), (0, u "([CI[BII)I"), (0, .methodref 12 120), (0, .nameAndType 121 122), (0, u "toBytes"), (0, u "([CII)[B"), (138, u "coderFromArrayLen"), (0, u "([BI)B"), (106, .class_ 371), (1, u "java/lang/StringUTF16$LinesSpliterator"), (58, u "MAX_LENGTH"), (196, .class_ 628), (0, u "java/lang/StringUTF16$CodePointsSpliterator"), (0, .class_ 630), (0, u "java/lang/StringUTF16$CharsSpliterator")] 4

def k10m0 : Method := { name := "<init>", desc := "()V", sig := { parameters := [], returnType := none }, accessFlags := 0, code := none }
def k10c1 : Code := { maxStack := 1, maxLocals := 1, code := jdk_52_method_2_code, exceptionTable := #[], attributes := #[] }
def k10m1 : Method := { name := "newBytesFor", desc := "(I)[B", sig := { parameters := [.int], returnType := some (.array .byte) }, accessFlags := 9, code := some k10c1 }
def k10c2 : Code := { maxStack := 4, maxLocals := 1, code := jdk_52_method_3_code, exceptionTable := #[], attributes := #[] }
def k10m2 : Method := { name := "newBytesLength", desc := "(I)I", sig := { parameters := [.int], returnType := some .int }, accessFlags := 9, code := some k10c2 }
def k10c3 : Code := { maxStack := 4, maxLocals := 3, code := jdk_52_method_4_code, exceptionTable := #[], attributes := #[] }
def k10m3 : Method := { name := "putChar", desc := "([BII)V", sig := { parameters := [(.array .byte), .int, .int], returnType := none }, accessFlags := 8, code := some k10c3 }
def k10c4 : Code := { maxStack := 3, maxLocals := 2, code := jdk_52_method_5_code, exceptionTable := #[], attributes := #[] }
def k10m4 : Method := { name := "getChar", desc := "([BI)C", sig := { parameters := [(.array .byte), .int], returnType := some .char }, accessFlags := 8, code := some k10c4 }
def k10c5 : Code := { maxStack := 4, maxLocals := 5, code := jdk_52_method_14_code, exceptionTable := #[], attributes := #[] }
def k10m5 : Method := { name := "toBytes", desc := "([CII)[B", sig := { parameters := [(.array .char), .int, .int], returnType := some (.array .byte) }, accessFlags := 9, code := some k10c5 }
def k10c6 : Code := { maxStack := 2, maxLocals := 2, code := jdk_52_method_15_code, exceptionTable := #[], attributes := #[] }
def k10m6 : Method := { name := "coderFromArrayLen", desc := "([BI)B", sig := { parameters := [(.array .byte), .int], returnType := some .byte }, accessFlags := 8, code := some k10c6 }
def k10c7 : Code := { maxStack := 5, maxLocals := 6, code := jdk_52_method_16_code, exceptionTable := #[], attributes := #[] }
def k10m7 : Method := { name := "compress", desc := "([CII)[B", sig := { parameters := [(.array .char), .int, .int], returnType := some (.array .byte) }, accessFlags := 9, code := some k10c7 }
def k10c8 : Code := { maxStack := 3, maxLocals := 7, code := jdk_52_method_21_code, exceptionTable := #[], attributes := #[] }
def k10m8 : Method := { name := "compress", desc := "([CI[BII)I", sig := { parameters := [(.array .char), .int, (.array .byte), .int, .int], returnType := some .int }, accessFlags := 9, code := some k10c8 }
/-- java/lang/StringUTF16 -/
def k10 : Class := { plain "java/lang/StringUTF16" (some 0) with
  accessFlags := 48
  interfaces := #[]
  cf := some (fileOf pool10 12 #[.nestMembers #[627, 629, 369]] #[{ accessFlags := 0, nameIndex := 9, descriptorIndex := 10, attributes := #[] }, { accessFlags := 9, nameIndex := 109, descriptorIndex := 110, attributes := #[] }, { accessFlags := 9, nameIndex := 15, descriptorIndex := 16, attributes := #[] }, { accessFlags := 8, nameIndex := 113, descriptorIndex := 114, attributes := #[] }, { accessFlags := 8, nameIndex := 73, descriptorIndex := 74, attributes := #[] }, { accessFlags := 9, nameIndex := 121, descriptorIndex := 122, attributes := #[] }, { accessFlags := 8, nameIndex := 261, descriptorIndex := 262, attributes := #[] }, { accessFlags := 9, nameIndex := 117, descriptorIndex := 122, attributes := #[] }, { accessFlags := 9, nameIndex := 117, descriptorIndex := 118, attributes := #[] }] 48 6 #[] #[{ accessFlags := 26, nameIndex := 61, descriptorIndex := 62, attributes := #[] }, { accessFlags := 26, nameIndex := 65, descriptorIndex := 62, attributes := #[] }, { accessFlags := 24, nameIndex := 430, descriptorIndex := 62, attributes := #[] }, { accessFlags := 4120, nameIndex := 46, descriptorIndex := 47, attributes := #[] }])
  fields := #[{ name := "HI_BYTE_SHIFT", type := .int, accessFlags := 26, slot := 0, constantValue := 0 }, { name := "LO_BYTE_SHIFT", type := .int, accessFlags := 26, slot := 1, constantValue := 0 }, { name := "MAX_LENGTH", type := .int, accessFlags := 24, slot := 2, constantValue := 0 }, { name := "$assertionsDisabled", type := .boolean, accessFlags := 4120, slot := 3, constantValue := 0 }]
  methods := #[k10m0, k10m1, k10m2, k10m3, k10m4, k10m5, k10m6, k10m7, k10m8]
  instanceTypes := #[]
  staticTypes := #[.int, .int, .int, .boolean]
  resolved := Array.replicate 635 none
  statics := some 1 }

def pool11 : Array CpInfo := pool [(2, .class_ 4), (1, u "java/lang/Object"), (0, u "<init>"), (0, u "()V"), (17, .class_ 26), (1, u "jdk/internal/util/Preconditions"), (28, .class_ 56), (0, u "jdk/internal/util/Preconditions$4"), (57, .class_ 115), (0, u "jdk/internal/util/Preconditions$1"), (7, u "SIOOBE_FORMATTER"), (0, u "Ljava/util/function/BiFunction;"), (0, .class_ 126), (0, u "jdk/internal/util/Preconditions$2"), (3, u "AIOOBE_FORMATTER"), (0, .class_ 132), (0, u "jdk/internal/util/Preconditions$3"), (3, u "IOOBE_FORMATTER")] 57

def k11m0 : Method := { name := "<init>", desc := "()V", sig := { parameters := [], returnType := none }, accessFlags := 1, code := none }
/-- jdk/internal/util/Preconditions -/
def k11 : Class := { plain "jdk/internal/util/Preconditions" (some 0) with
  accessFlags := 33
  interfaces := #[]
  cf := some (fileOf pool11 24 #[.nestMembers #[55, 131, 125, 114]] #[{ accessFlags := 1, nameIndex := 5, descriptorIndex := 6, attributes := #[] }] 33 2 #[] #[{ accessFlags := 25, nameIndex := 123, descriptorIndex := 124, attributes := #[] }, { accessFlags := 25, nameIndex := 130, descriptorIndex := 124, attributes := #[] }, { accessFlags := 25, nameIndex := 136, descriptorIndex := 124, attributes := #[] }])
  fields := #[{ name := "SIOOBE_FORMATTER", type := (.object "java/util/function/BiFunction"), accessFlags := 25, slot := 0, constantValue := 0 }, { name := "AIOOBE_FORMATTER", type := (.object "java/util/function/BiFunction"), accessFlags := 25, slot := 1, constantValue := 0 }, { name := "IOOBE_FORMATTER", type := (.object "java/util/function/BiFunction"), accessFlags := 25, slot := 2, constantValue := 0 }]
  methods := #[k11m0]
  instanceTypes := #[]
  staticTypes := #[(.object "java/util/function/BiFunction"), (.object "java/util/function/BiFunction"), (.object "java/util/function/BiFunction")]
  resolved := Array.replicate 194 none
  statics := some 2 }

def pool12 : Array CpInfo := pool [(9, u "<init>"), (6, .class_ 18), (1, u "java/lang/Object"), (0, u "()V"), (1, .class_ 23), (1, u "jdk/internal/util/ArraysSupport"), (0, u "LOG2_ARRAY_LONG_INDEX_SCALE"), (0, u "I"), (2, u "U"), (0, u "Ljdk/internal/misc/Unsafe;"), (8, u "BIG_ENDIAN"), (0, u "Z"), (8, u "LOG2_BYTE_BIT_SIZE"), (4, u "LOG2_ARRAY_INT_INDEX_SCALE"), (54, u "JLA"), (0, u "Ljdk/internal/access/JavaLangAccess;"), (11, u "LOG2_ARRAY_BOOLEAN_INDEX_SCALE"), (9, u "LOG2_ARRAY_BYTE_INDEX_SCALE"), (5, u "LOG2_ARRAY_CHAR_INDEX_SCALE"), (5, u "LOG2_ARRAY_SHORT_INDEX_SCALE"), (18, u "LOG2_ARRAY_FLOAT_INDEX_SCALE"), (24, u "LOG2_ARRAY_DOUBLE_INDEX_SCALE"), (89, u "T_BOOLEAN"), (2, u "T_CHAR"), (1, u "T_FLOAT"), (1, u "T_DOUBLE"), (1, u "T_BYTE"), (1, u "T_SHORT"), (1, u "T_INT"), (1, u "T_LONG"), (1, u "SOFT_MAX_ARRAY_LENGTH")] 83

def k12m0 : Method := { name := "<init>", desc := "()V", sig := { parameters := [], returnType := none }, accessFlags := 2, code := none }
/-- jdk/internal/util/ArraysSupport -/
def k12 : Class := { plain "jdk/internal/util/ArraysSupport" (some 0) with
  accessFlags := 33
  interfaces := #[]
  cf := some (fileOf pool12 21 #[] #[{ accessFlags := 2, nameIndex := 9, descriptorIndex := 19, attributes := #[] }] 33 16 #[] #[{ accessFlags := 24, nameIndex := 28, descriptorIndex := 29, attributes := #[] }, { accessFlags := 26, nameIndex := 38, descriptorIndex := 39, attributes := #[] }, { accessFlags := 25, nameIndex := 121, descriptorIndex := 25, attributes := #[] }, { accessFlags := 25, nameIndex := 131, descriptorIndex := 25, attributes := #[] }, { accessFlags := 25, nameIndex := 137, descriptorIndex := 25, attributes := #[] }, { accessFlags := 25, nameIndex := 143, descriptorIndex := 25, attributes := #[] }, { accessFlags := 25, nameIndex := 53, descriptorIndex := 25, attributes := #[] }, { accessFlags := 25, nameIndex := 24, descriptorIndex := 25, attributes := #[] }, { accessFlags := 25, nameIndex := 162, descriptorIndex := 25, attributes := #[] }, { accessFlags := 25, nameIndex := 187, descriptorIndex := 25, attributes := #[] }, { accessFlags := 26, nameIndex := 48, descriptorIndex := 25, attributes := #[] }, { accessFlags := 25, nameIndex := 277, descriptorIndex := 25, attributes := #[] }, { accessFlags := 25, nameIndex := 280, descriptorIndex := 25, attributes := #[] }, { accessFlags := 25, nameIndex := 282, descriptorIndex := 25, attributes := #[] }, { accessFlags := 25, nameIndex := 284, descriptorIndex := 25, attributes := #[] }, { accessFlags := 25, nameIndex := 286, descriptorIndex := 25, attributes := #[] }, { accessFlags := 25, nameIndex := 288, descriptorIndex := 25, attributes := #[] }, { accessFlags := 25, nameIndex := 290, descriptorIndex := 25, attributes := #[] }, { accessFlags := 25, nameIndex := 292, descriptorIndex := 25, attributes := #[] }, { accessFlags := 26, nameIndex := 108, descriptorIndex := 109, attributes := #[] }, { accessFlags := 25, nameIndex := 294, descriptorIndex := 25, attributes := #[] }])
  fields := #[{ name := "U", type := (.object "jdk/internal/misc/Unsafe"), accessFlags := 24, slot := 0, constantValue := 0 }, { name := "BIG_ENDIAN", type := .boolean, accessFlags := 26, slot := 1, constantValue := 0 }, { name := "LOG2_ARRAY_BOOLEAN_INDEX_SCALE", type := .int, accessFlags := 25, slot := 2, constantValue := 0 }, { name := "LOG2_ARRAY_BYTE_INDEX_SCALE", type := .int, accessFlags := 25, slot := 3, constantValue := 0 }, { name := "LOG2_ARRAY_CHAR_INDEX_SCALE", type := .int, accessFlags := 25, slot := 4, constantValue := 0 }, { name := "LOG2_ARRAY_SHORT_INDEX_SCALE", type := .int, accessFlags := 25, slot := 5, constantValue := 0 }, { name := "LOG2_ARRAY_INT_INDEX_SCALE", type := .int, accessFlags := 25, slot := 6, constantValue := 0 }, { name := "LOG2_ARRAY_LONG_INDEX_SCALE", type := .int, accessFlags := 25, slot := 7, constantValue := 0 }, { name := "LOG2_ARRAY_FLOAT_INDEX_SCALE", type := .int, accessFlags := 25, slot := 8, constantValue := 0 }, { name := "LOG2_ARRAY_DOUBLE_INDEX_SCALE", type := .int, accessFlags := 25, slot := 9, constantValue := 0 }, { name := "LOG2_BYTE_BIT_SIZE", type := .int, accessFlags := 26, slot := 10, constantValue := 0 }, { name := "T_BOOLEAN", type := .int, accessFlags := 25, slot := 11, constantValue := 0 }, { name := "T_CHAR", type := .int, accessFlags := 25, slot := 12, constantValue := 0 }, { name := "T_FLOAT", type := .int, accessFlags := 25, slot := 13, constantValue := 0 }, { name := "T_DOUBLE", type := .int, accessFlags := 25, slot := 14, constantValue := 0 }, { name := "T_BYTE", type := .int, accessFlags := 25, slot := 15, constantValue := 0 }, { name := "T_SHORT", type := .int, accessFlags := 25, slot := 16, constantValue := 0 }, { name := "T_INT", type := .int, accessFlags := 25, slot := 17, constantValue := 0 }, { name := "T_LONG", type := .int, accessFlags := 25, slot := 18, constantValue := 0 }, { name := "JLA", type := (.object "jdk/internal/access/JavaLangAccess"), accessFlags := 26, slot := 19, constantValue := 0 }, { name := "SOFT_MAX_ARRAY_LENGTH", type := .int, accessFlags := 25, slot := 20, constantValue := 0 }]
  methods := #[k12m0]
  instanceTypes := #[]
  staticTypes := #[(.object "jdk/internal/misc/Unsafe"), .boolean, .int, .int, .int, .int, .int, .int, .int, .int, .int, .int, .int, .int, .int, .int, .int, .int, .int, (.object "jdk/internal/access/JavaLangAccess"), .int]
  resolved := Array.replicate 378 none
  statics := none }

def pool13 : Array CpInfo := pool [(1, u "java/lang/Cloneable"), (0, .class_ 1), (0, u "java/lang/Object"), (0, .class_ 3)] 3

/-- java/lang/Cloneable -/
def k13 : Class := { plain "java/lang/Cloneable" (some 0) with
  accessFlags := 1537
  interfaces := #[]
  cf := some (fileOf pool13 2 #[] #[] 1537 4 #[] #[])
  fields := #[]
  methods := #[]
  instanceTypes := #[]
  staticTypes := #[]
  resolved := Array.replicate 8 none
  statics := none }

/-- the primitive byte -/
def k14 : Class := { plain "byte" none with kind := .primitive 'B', accessFlags := 0x411 }
/-- [B -/
def k15 : Class := { plain "[B" (some 0) with kind := .array 14 .byte, interfaces := #[13, 2], accessFlags := 1041 }

/-- the primitive char -/
def k16 : Class := { plain "char" none with kind := .primitive 'C', accessFlags := 0x411 }
/-- [C -/
def k17 : Class := { plain "[C" (some 0) with kind := .array 16 .char, interfaces := #[13, 2], accessFlags := 1041 }

/-- the primitive int -/
def k18 : Class := { plain "int" none with kind := .primitive 'I', accessFlags := 0x411 }
/-- [I -/
def k19 : Class := { plain "[I" (some 0) with kind := .array 18 .int, interfaces := #[13, 2], accessFlags := 1041 }

def heap : Heap := #[{ cls := 7, slots := #[.long 0, .int 1, .null, .int 0, .null, .int 0, .int 0], vm := .statics 7 },
  { cls := 10, slots := #[.int 0, .int 8, .int 0, .int 1], vm := .statics 10 },
  { cls := 11, slots := #[.null, .null, .null], vm := .statics 11 }]
def classes : Array Class := #[k0, k1, k2, k3, k4, k5, k6, k7, k8, k9, k10, k11, k12, k13, k14, k15, k16, k17, k18, k19]
def interned : List (Array UInt16 × Addr) := []
def slotsUsed : Nat := 14
def theMethod : MethodId := ⟨1, 1⟩
def args0 : Array Value := #[.int 5, .long 97, .long 98]
def aboutOver (below : List Frame) : State where
  vm := { classes := classes, interned := interned.toArray }
  heap := heap
  slotsUsed := slotsUsed
  threads := #[{ frames := .invoking theMethod args0 :: below }]
def below0 : List Frame := [.native { method := ⟨0, 0⟩, args := #[] }]
def about1 : State := aboutOver below0
def p0 : Program := .bare "" "" ""
def e0 : Env := launch0.env 0 0 0
theorem w_frames : about1.frames = Frame.invoking theMethod args0 :: below0 := rfl
set_option maxRecDepth 65536 in
theorem w_args : argsFit about1.vm theMethod args0 = true := by decide +kernel
set_option maxRecDepth 65536 in
theorem w_heap : heapFits about1 = true := by decide +kernel
set_option maxRecDepth 65536 in
theorem w_runnable : about1.curStatus? = some .runnable := by decide +kernel
set_option maxRecDepth 65536 in
theorem w_alone : about1.alone = true := by decide +kernel
set_option maxRecDepth 65536 in
theorem w_named : about1.methodNamed? x = some theMethod := by decide +kernel
set_option maxRecDepth 65536 in
theorem w_hears : about1.hears theMethod below0 = true := by decide +kernel
set_option maxRecDepth 65536 in
theorem w_ripe : about1.ripe theMethod args0 below0 = true := by decide +kernel
theorem w_running : about1.status = .running := rfl
set_option maxRecDepth 65536 in
theorem w_room : about1.hasRoom e0.platform room_1 = true :=
  launch0.hasRoom_least _ room_1 (by decide +kernel) (by decide +kernel) (by decide +kernel) (by decide +kernel) (by decide +kernel) (by decide +kernel)
theorem allAtoms_all (ts : List Jvm.Cond) (a : Array Jvm.Value) (st : Jvm.State) : (allAtoms ts).before a st = ts.all (fun c => c.before a st) := by
  induction ts with
  | nil => rfl
  | cons c t ih =>
    show (Jvm.Cond.and c (allAtoms t)).before a st = _
    rw [Jvm.Cond.before_and, ih, List.all_cons]
def words1 : List Jvm.Cond := Jvm.Cond.code x code maxLocals ret :: tables_1
/-- a 'code' word, met by the world's own term for the bytes: nothing is compared byte by byte -/
theorem code_word {y : MethodName} {bytes : ByteArray} {mx : Nat} {rt : Option FieldType} {a : Array Value} {s : State} {m : MethodId} {meth : Method} {c : Code} (h1 : s.methodNamed? y = some m) (h2 : s.vm.method? m = some meth) (h3 : meth.code = some c) (h4 : c.code = bytes)
    (h5 : (c.maxLocals == mx && c.exceptionTable.isEmpty && decide (c.maxStack ≤ mostOperands) && decide (meth.sig.returnType = rt) && !meth.locks && decide (parseMethodDescriptor y.desc = some meth.sig)) = true) : (Jvm.Cond.code y bytes mx rt).before a s = true := by
  simp only [Bool.and_eq_true, beq_iff_eq, Bool.not_eq_true', decide_eq_true_eq] at h5
  obtain ⟨⟨⟨⟨⟨g1, g2⟩, g3⟩, g4⟩, g5⟩, g6⟩ := h5
  simp [Cond.before, Cond.holds, Cond.value, h1, h2, h3, h4, g1, g2, g3, g4, g5, g6]
def isCode : Jvm.Cond → Bool
  | .code _ _ _ _ => true
  | _ => false
theorem all_split {L : List Jvm.Cond} {P : Jvm.Cond → Bool} (h1 : L.all (fun c => isCode c || P c) = true) (h2 : ∀ c ∈ L.filter isCode, P c = true) : L.all P = true := by
  refine List.all_eq_true.mpr fun c hc => ?_
  have h := List.all_eq_true.mp h1 c hc
  rcases Bool.eq_false_or_eq_true (isCode c) with hi | hi
  · exact h2 c (List.mem_filter.mpr ⟨hc, hi⟩)
  · simpa [hi] using h
set_option maxRecDepth 65536 in
theorem w_c0 : (Jvm.Cond.code x code maxLocals ret).before args0 about1 = true := code_word (m := ⟨1, 1⟩) (meth := k1m1) (c := k1c1) (by decide +kernel) rfl rfl rfl (by decide +kernel)
set_option maxRecDepth 65536 in
theorem w_c1 : (Jvm.Cond.code ({ cls := "com/example/swac/swac/testfile/TestCaseIsDecisionPinLaw", name := "pick", desc := "(IJJZI)C" } : Jvm.MethodName) method_4_code (9 : Nat) (Option.some Jvm.ClassFile.FieldType.char)).before args0 about1 = true := code_word (m := ⟨1, 3⟩) (meth := k1m3) (c := k1c3) (by decide +kernel) rfl rfl rfl (by decide +kernel)
set_option maxRecDepth 65536 in
theorem w_c2 : (Jvm.Cond.code ({ cls := "com/example/swac/swac/testfile/TestCaseIsDecisionPinLaw", name := "tmpl", desc := "(ZI)I" } : Jvm.MethodName) method_3_code (2 : Nat) (Option.some Jvm.ClassFile.FieldType.int)).before args0 about1 = true := code_word (m := ⟨1, 2⟩) (meth := k1m2) (c := k1c2) (by decide +kernel) rfl rfl rfl (by decide +kernel)
set_option maxRecDepth 65536 in
theorem w_c3 : (Jvm.Cond.code ({ cls := "com/example/swac/swac/testfile/TestCaseIsDecisionPinLaw", name := "text", desc := "(ICCCCCC)Ljava/lang/String;" } : Jvm.MethodName) method_5_code (7 : Nat) (Option.some (Jvm.ClassFile.FieldType.object "java/lang/String"))).before args0 about1 = true := code_word (m := ⟨1, 4⟩) (meth := k1m4) (c := k1c4) (by decide +kernel) rfl rfl rfl (by decide +kernel)
set_option maxRecDepth 65536 in
theorem w_c4 : (Jvm.Cond.code ({ cls := "java/lang/String", name := "<init>", desc := "([C)V" } : Jvm.MethodName) jdk_42_method_3_code (2 : Nat) (Option.none : Option Jvm.ClassFile.FieldType)).before args0 about1 = true := code_word (m := ⟨7, 1⟩) (meth := k7m1) (c := k7c1) (by decide +kernel) rfl rfl rfl (by decide +kernel)
set_option maxRecDepth 65536 in
theorem w_c5 : (Jvm.Cond.code ({ cls := "java/lang/String", name := "<init>", desc := "([CIILjava/lang/Void;)V" } : Jvm.MethodName) jdk_42_method_149_code (6 : Nat) (Option.none : Option Jvm.ClassFile.FieldType)).before args0 about1 = true := code_word (m := ⟨7, 3⟩) (meth := k7m3) (c := k7c3) (by decide +kernel) rfl rfl rfl (by decide +kernel)
set_option maxRecDepth 65536 in
theorem w_c6 : (Jvm.Cond.code ({ cls := "java/lang/Object", name := "<init>", desc := "()V" } : Jvm.MethodName) object_method_1_code (1 : Nat) (Option.none : Option Jvm.ClassFile.FieldType)).before args0 about1 = true := code_word (m := ⟨0, 0⟩) (meth := k0m0) (c := k0c0) (by decide +kernel) rfl rfl rfl (by decide +kernel)
set_option maxRecDepth 65536 in
theorem w_c7 : (Jvm.Cond.code ({ cls := "com/example/swac/swac/testfile/TestCase", name := "isDecision", desc := "(Ljava/lang/String;)Z" } : Jvm.MethodName) prog_16_method_7_code (1 : Nat) (Option.some Jvm.ClassFile.FieldType.boolean)).before args0 about1 = true := code_word (m := ⟨8, 0⟩) (meth := k8m0) (c := k8c0) (by decide +kernel) rfl rfl rfl (by decide +kernel)
set_option maxRecDepth 65536 in
theorem w_c8 : (Jvm.Cond.code ({ cls := "java/lang/String", name := "equals", desc := "(Ljava/lang/Object;)Z" } : Jvm.MethodName) jdk_42_method_66_code (3 : Nat) (Option.some Jvm.ClassFile.FieldType.boolean)).before args0 about1 = true := code_word (m := ⟨7, 2⟩) (meth := k7m2) (c := k7c2) (by decide +kernel) rfl rfl rfl (by decide +kernel)
set_option maxRecDepth 65536 in
theorem w_c9 : (Jvm.Cond.code ({ cls := "java/lang/StringLatin1", name := "equals", desc := "([B[B)Z" } : Jvm.MethodName) jdk_43_method_13_code (3 : Nat) (Option.some Jvm.ClassFile.FieldType.boolean)).before args0 about1 = true := code_word (m := ⟨9, 1⟩) (meth := k9m1) (c := k9c1) (by decide +kernel) rfl rfl rfl (by decide +kernel)
set_option maxRecDepth 65536 in
theorem w_c10 : (Jvm.Cond.code ({ cls := "java/lang/StringUTF16", name := "compress", desc := "([CII)[B" } : Jvm.MethodName) jdk_52_method_16_code (6 : Nat) (Option.some (Jvm.ClassFile.FieldType.array Jvm.ClassFile.FieldType.byte))).before args0 about1 = true := code_word (m := ⟨10, 7⟩) (meth := k10m7) (c := k10c7) (by decide +kernel) rfl rfl rfl (by decide +kernel)
set_option maxRecDepth 65536 in
theorem w_c11 : (Jvm.Cond.code ({ cls := "java/lang/StringUTF16", name := "compress", desc := "([CI[BII)I" } : Jvm.MethodName) jdk_52_method_21_code (7 : Nat) (Option.some Jvm.ClassFile.FieldType.int)).before args0 about1 = true := code_word (m := ⟨10, 8⟩) (meth := k10m8) (c := k10c8) (by decide +kernel) rfl rfl rfl (by decide +kernel)
set_option maxRecDepth 65536 in
theorem w_c12 : (Jvm.Cond.code ({ cls := "java/lang/StringUTF16", name := "coderFromArrayLen", desc := "([BI)B" } : Jvm.MethodName) jdk_52_method_15_code (2 : Nat) (Option.some Jvm.ClassFile.FieldType.byte)).before args0 about1 = true := code_word (m := ⟨10, 6⟩) (meth := k10m6) (c := k10c6) (by decide +kernel) rfl rfl rfl (by decide +kernel)
set_option maxRecDepth 65536 in
theorem w_c13 : (Jvm.Cond.code ({ cls := "java/lang/StringUTF16", name := "toBytes", desc := "([CII)[B" } : Jvm.MethodName) jdk_52_method_14_code (5 : Nat) (Option.some (Jvm.ClassFile.FieldType.array Jvm.ClassFile.FieldType.byte))).before args0 about1 = true := code_word (m := ⟨10, 5⟩) (meth := k10m5) (c := k10c5) (by decide +kernel) rfl rfl rfl (by decide +kernel)
set_option maxRecDepth 65536 in
theorem w_c14 : (Jvm.Cond.code ({ cls := "java/lang/StringUTF16", name := "newBytesFor", desc := "(I)[B" } : Jvm.MethodName) jdk_52_method_2_code (1 : Nat) (Option.some (Jvm.ClassFile.FieldType.array Jvm.ClassFile.FieldType.byte))).before args0 about1 = true := code_word (m := ⟨10, 1⟩) (meth := k10m1) (c := k10c1) (by decide +kernel) rfl rfl rfl (by decide +kernel)
set_option maxRecDepth 65536 in
theorem w_c15 : (Jvm.Cond.code ({ cls := "java/lang/StringUTF16", name := "newBytesLength", desc := "(I)I" } : Jvm.MethodName) jdk_52_method_3_code (1 : Nat) (Option.some Jvm.ClassFile.FieldType.int)).before args0 about1 = true := code_word (m := ⟨10, 2⟩) (meth := k10m2) (c := k10c2) (by decide +kernel) rfl rfl rfl (by decide +kernel)
set_option maxRecDepth 65536 in
theorem w_c16 : (Jvm.Cond.code ({ cls := "java/lang/StringUTF16", name := "putChar", desc := "([BII)V" } : Jvm.MethodName) jdk_52_method_4_code (3 : Nat) (Option.none : Option Jvm.ClassFile.FieldType)).before args0 about1 = true := code_word (m := ⟨10, 3⟩) (meth := k10m3) (c := k10c3) (by decide +kernel) rfl rfl rfl (by decide +kernel)
set_option maxRecDepth 65536 in
theorem w_c17 : (Jvm.Cond.code ({ cls := "java/lang/StringUTF16", name := "getChar", desc := "([BI)C" } : Jvm.MethodName) jdk_52_method_5_code (2 : Nat) (Option.some Jvm.ClassFile.FieldType.char)).before args0 about1 = true := code_word (m := ⟨10, 4⟩) (meth := k10m4) (c := k10c4) (by decide +kernel) rfl rfl rfl (by decide +kernel)
def codes1 : List Jvm.Cond := [Jvm.Cond.code x code maxLocals ret, Jvm.Cond.code ({ cls := "com/example/swac/swac/testfile/TestCaseIsDecisionPinLaw", name := "pick", desc := "(IJJZI)C" } : Jvm.MethodName) method_4_code (9 : Nat) (Option.some Jvm.ClassFile.FieldType.char), Jvm.Cond.code ({ cls := "com/example/swac/swac/testfile/TestCaseIsDecisionPinLaw", name := "tmpl", desc := "(ZI)I" } : Jvm.MethodName) method_3_code (2 : Nat) (Option.some Jvm.ClassFile.FieldType.int), Jvm.Cond.code ({ cls := "com/example/swac/swac/testfile/TestCaseIsDecisionPinLaw", name := "text", desc := "(ICCCCCC)Ljava/lang/String;" } : Jvm.MethodName) method_5_code (7 : Nat) (Option.some (Jvm.ClassFile.FieldType.object "java/lang/String")), Jvm.Cond.code ({ cls := "java/lang/String", name := "<init>", desc := "([C)V" } : Jvm.MethodName) jdk_42_method_3_code (2 : Nat) (Option.none : Option Jvm.ClassFile.FieldType), Jvm.Cond.code ({ cls := "java/lang/String", name := "<init>", desc := "([CIILjava/lang/Void;)V" } : Jvm.MethodName) jdk_42_method_149_code (6 : Nat) (Option.none : Option Jvm.ClassFile.FieldType), Jvm.Cond.code ({ cls := "java/lang/Object", name := "<init>", desc := "()V" } : Jvm.MethodName) object_method_1_code (1 : Nat) (Option.none : Option Jvm.ClassFile.FieldType), Jvm.Cond.code ({ cls := "com/example/swac/swac/testfile/TestCase", name := "isDecision", desc := "(Ljava/lang/String;)Z" } : Jvm.MethodName) prog_16_method_7_code (1 : Nat) (Option.some Jvm.ClassFile.FieldType.boolean), Jvm.Cond.code ({ cls := "java/lang/String", name := "equals", desc := "(Ljava/lang/Object;)Z" } : Jvm.MethodName) jdk_42_method_66_code (3 : Nat) (Option.some Jvm.ClassFile.FieldType.boolean), Jvm.Cond.code ({ cls := "java/lang/StringLatin1", name := "equals", desc := "([B[B)Z" } : Jvm.MethodName) jdk_43_method_13_code (3 : Nat) (Option.some Jvm.ClassFile.FieldType.boolean), Jvm.Cond.code ({ cls := "java/lang/StringUTF16", name := "compress", desc := "([CII)[B" } : Jvm.MethodName) jdk_52_method_16_code (6 : Nat) (Option.some (Jvm.ClassFile.FieldType.array Jvm.ClassFile.FieldType.byte)), Jvm.Cond.code ({ cls := "java/lang/StringUTF16", name := "compress", desc := "([CI[BII)I" } : Jvm.MethodName) jdk_52_method_21_code (7 : Nat) (Option.some Jvm.ClassFile.FieldType.int), Jvm.Cond.code ({ cls := "java/lang/StringUTF16", name := "coderFromArrayLen", desc := "([BI)B" } : Jvm.MethodName) jdk_52_method_15_code (2 : Nat) (Option.some Jvm.ClassFile.FieldType.byte), Jvm.Cond.code ({ cls := "java/lang/StringUTF16", name := "toBytes", desc := "([CII)[B" } : Jvm.MethodName) jdk_52_method_14_code (5 : Nat) (Option.some (Jvm.ClassFile.FieldType.array Jvm.ClassFile.FieldType.byte)), Jvm.Cond.code ({ cls := "java/lang/StringUTF16", name := "newBytesFor", desc := "(I)[B" } : Jvm.MethodName) jdk_52_method_2_code (1 : Nat) (Option.some (Jvm.ClassFile.FieldType.array Jvm.ClassFile.FieldType.byte)), Jvm.Cond.code ({ cls := "java/lang/StringUTF16", name := "newBytesLength", desc := "(I)I" } : Jvm.MethodName) jdk_52_method_3_code (1 : Nat) (Option.some Jvm.ClassFile.FieldType.int), Jvm.Cond.code ({ cls := "java/lang/StringUTF16", name := "putChar", desc := "([BII)V" } : Jvm.MethodName) jdk_52_method_4_code (3 : Nat) (Option.none : Option Jvm.ClassFile.FieldType), Jvm.Cond.code ({ cls := "java/lang/StringUTF16", name := "getChar", desc := "([BI)C" } : Jvm.MethodName) jdk_52_method_5_code (2 : Nat) (Option.some Jvm.ClassFile.FieldType.char)]
set_option maxRecDepth 65536 in
theorem codes_eq : words1.filter isCode = codes1 := rfl
theorem w_codes : ∀ c ∈ words1.filter isCode, c.before args0 about1 = true := by
  rw [codes_eq]
  intro c hc
  simp only [codes1, List.mem_cons, List.not_mem_nil, or_false] at hc
  rcases hc with rfl | rfl | rfl | rfl | rfl | rfl | rfl | rfl | rfl | rfl | rfl | rfl | rfl | rfl | rfl | rfl | rfl | rfl
  · exact w_c0
  · exact w_c1
  · exact w_c2
  · exact w_c3
  · exact w_c4
  · exact w_c5
  · exact w_c6
  · exact w_c7
  · exact w_c8
  · exact w_c9
  · exact w_c10
  · exact w_c11
  · exact w_c12
  · exact w_c13
  · exact w_c14
  · exact w_c15
  · exact w_c16
  · exact w_c17
set_option maxRecDepth 65536 in
theorem w_t1 : (words1.take 24).all (fun c => isCode c || c.before args0 about1) = true := by decide +kernel
set_option maxRecDepth 65536 in
theorem w_t2 : ((words1.drop 24).take 24).all (fun c => isCode c || c.before args0 about1) = true := by decide +kernel
set_option maxRecDepth 65536 in
theorem w_t3 : (((words1.drop 24).drop 24).take 24).all (fun c => isCode c || c.before args0 about1) = true := by decide +kernel
set_option maxRecDepth 65536 in
theorem w_t4 : (((words1.drop 24).drop 24).drop 24).all (fun c => isCode c || c.before args0 about1) = true := by decide +kernel
theorem w_tables : (allAtoms (Jvm.Cond.code x code maxLocals ret :: tables_1)).before args0 about1 = true := by
  rw [allAtoms_all]
  show words1.all (fun c => c.before args0 about1) = true
  refine all_split ?_ w_codes
  rw [← List.take_append_drop 24 words1, List.all_append, w_t1, ← List.take_append_drop 24 (words1.drop 24), List.all_append, w_t2, ← List.take_append_drop 24 ((words1.drop 24).drop 24), List.all_append, w_t3, w_t4]
  rfl
set_option maxRecDepth 65536 in
theorem w_rest : rest_1_c.before args0 about1 = true := by decide +kernel
set_option maxRecDepth 65536 in
theorem w_case : (Jvm.Cond.and given_1 narrow_1).before args0 about1 = true := by decide +kernel
set_option maxRecDepth 65536 in
theorem w_consts : constsHeld consts_1 about1 := Jvm.Lit.constsHeldB_iff.mp (by decide +kernel)
theorem w_applies : (headSpec (Jvm.Cond.code x code maxLocals ret :: tables_1) room_1).applies x e0.platform about1 = true :=
  (Spec.applies_iff w_frames).mpr ⟨w_running, w_runnable, w_alone, w_named, w_hears, w_ripe, w_room, w_tables⟩
theorem atStart : AtStart classFile x code maxLocals ret World_1 tables_1 room_1 Calls_1 rest_1 Pre_1 launch0 p0 e0 about1 theMethod args0 below0 :=
  ⟨lists_1, trivial, launch0.admits_env _ _ _, launch0.least_env, fairChoices_fair.cas, fairChoices_fair.clock, w_frames, w_args, w_heap, w_applies, ⟨w_consts, trivial⟩, w_rest, w_case⟩
end start1
theorem witness_1 : WitnessClaimed_1 := ⟨start1.p0, start1.e0, start1.about1, start1.theMethod, start1.args0, start1.below0, start1.atStart⟩
end Jvm.Pilot.@@N@@
